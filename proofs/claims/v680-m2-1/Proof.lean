import JvmDerived
import JvmDerived.Pilot.@@N@@Statement
import JvmDerived.Pilot.@@N@@Code
set_option linter.unusedVariables false
set_option linter.unusedSimpArgs false
namespace Jvm.Pilot.@@N@@
open Jvm Jvm.ClassFile Sem Op Lib Jvm.Free Jvm.Stand Jvm.LawKit Jvm.RoadKit Bundle Jvm.Pilot.@@N@@.Jvm.D

def Go (tb : Tables) (e : Env) (below : List Frame) (a : State) (P : Outcome → State → Prop) : Prop := ∃ s₂ o, Steps tb e below a s₂ ∧ s₂.status = .running ∧ Ended s₂ below o ∧ P o s₂
theorem Go.st {tb : Tables} {e : Env} {below : List Frame} {a b : State} {P : Outcome → State → Prop} (h : ∀ t, Steps tb e below b t → Steps tb e below a t) (k : Go tb e below b P) : Go tb e below a P := by
  obtain ⟨s, o, h1, h2⟩ := k
  exact ⟨s, o, h _ h1, h2⟩
theorem Go.tr {tb : Tables} {e : Env} {below : List Frame} {a b : State} {P : Outcome → State → Prop} (h : Steps tb e below a b) (k : Go tb e below b P) : Go tb e below a P := Go.st (fun _ q => h.trans q) k
theorem Go.fr {tb : Tables} {e : Env} {below : List Frame} {T : State} {g g' : JFrame} {P : Outcome → State → Prop} (q : g = g') (k : Go tb e below (T.setTop g') P) : Go tb e below (T.setTop g) P := q ▸ k
theorem Go.fin {tb : Tables} {e : Env} {below : List Frame} {a s₂ : State} {o : Outcome} {P : Outcome → State → Prop} (hs : Steps tb e below a s₂) (hr : s₂.status = .running) (he : Ended s₂ below o) (hP : P o s₂) : Go tb e below a P := ⟨_, _, hs, hr, he, hP⟩
theorem exa_ns {Z : State} {h : Heap} {a : Addr} {C : String} (F : Exa Z h a C) : ∃ c : Cell, h[a]? = some c ∧ c.vm.isStatics = false := by
  obtain ⟨c, _, h1, -, -, h4, -⟩ := F
  exact ⟨c, h1, h4⟩
theorem fld_ns {Z : State} {h : Heap} {a : Addr} {C n d : String} {v : Value} (F : Fld Z h a C n d v) : ∃ c : Cell, h[a]? = some c ∧ c.vm.isStatics = false := by
  obtain ⟨c, _, _, _, _, h1, -, -, -, h4, -⟩ := F
  exact ⟨c, h1, h4⟩
theorem arv_ns {Z : State} {h : Heap} {a : Addr} {k : ClassId} {ty : FieldType} {n : Int32} {vs : List Value} {d : Value} (F : Arv Z h a k ty n vs d) : ∃ c : Cell, h[a]? = some c ∧ c.vm.isStatics = false := by
  obtain ⟨c, A, -⟩ := F
  exact ⟨c, A.1, A.plain⟩
theorem sta_keep {Z : State} {h h' : Heap} {C n d : String} {v : Value} {ws : List Addr} (F : Sta Z h C n d v) (K : Keep h h' ws) (q : ∀ x ∈ ws, ∃ c : Cell, h[x]? = some c ∧ c.vm.isStatics = false) : Sta Z h' C n d v := by
  obtain ⟨cf, i, k, f, st, cell, h1, h2, h3, h4, h5, h6, h7⟩ := F
  refine ⟨cf, i, k, f, st, cell, h1, h2, h3, h4, K.2.1 st cell h5 fun z => ?_, h6, h7⟩
  obtain ⟨c, q1, q2⟩ := q st z
  cases q1.symm.trans h5
  rw [q2] at h6
  cases h6
theorem own_selp {s : State} {args : Array Value} {y : MethodName} {n : Nat} (wi : (Cond.instantiable y.cls n).before args s = true) (hp : s.PrivateAt y) (hi : (Cond.instanceMethod y).before args s = true) (hy : y.cls ≠ "java/lang/invoke/MethodHandle" ∧ y.cls ≠ "java/lang/invoke/VarHandle") : (Cond.selects y.cls y y).before args s = true := by
  obtain ⟨c, k, h1, h2, -, h4, -⟩ := Cond.instantiable_spec wi
  simp only [Bool.or_eq_false_iff] at h4
  exact selects_self_of_private h1 h2 h4.1 hp hi hy
theorem own_ne32 {x k : Int32} {a : Int} (ha : k.toInt = a) (h : ¬ x = k) : a ≠ x.toInt := fun e => h (Int32.toInt_inj.mp (e.symm.trans ha.symm))
theorem own_nn (x : Int32) : 0 ≤ (x &&& (2147483647 : Int32)).toInt := (c_andS x 2147483647).2.2 (by decide)
theorem own_rem (x : Int32) (k : Int32) (d : Int) (hd : k.toInt = d) (h0 : 0 < d) : 0 ≤ ((x &&& (2147483647 : Int32)) % k).toInt ∧ ((x &&& (2147483647 : Int32)) % k).toInt < d := by
  have h := own_nn x
  rw [Int32.toInt_mod, hd]
  exact ⟨Int.tmod_nonneg _ h, Int.tmod_lt_of_pos _ h0⟩
theorem own_remb (x : Int32) (k : Int32) (d : Int) (hd : k.toInt = d) (h0 : 0 < d) : ¬ ((x &&& (2147483647 : Int32)) % k) < 0 ∧ ((x &&& (2147483647 : Int32)) % k) < k := by
  obtain ⟨h1, h2⟩ := own_rem x k d hd h0
  rw [Int32.lt_iff_toInt_lt, Int32.lt_iff_toInt_lt, hd]
  exact ⟨Int.not_lt.mpr h1, h2⟩
def own_at (xs : List Int32) (j : Int32) : Int32 := xs.getD j.toNatClampNeg 0
theorem own_atv (xs : List Int32) (j : Int32) : (xs.map Value.int).getD j.toNatClampNeg (.int 0) = .int (own_at xs j) := by
  unfold own_at
  generalize j.toNatClampNeg = n
  induction xs generalizing n with
  | nil => rfl
  | cons a r ih => cases n with
    | zero => rfl
    | succ n => simpa using ih n
theorem own_setl {l : List Value} {k n : Nat} {v : Value} (h : l.length = n) : (l.set k v).length = n := by rw [List.length_set]; exact h
theorem own_setg {l : List Value} {k : Nat} {v d : Value} (h : k < l.length) : (l.set k v).getD k d = v := by simp [List.getD, List.getElem?_set, h]
theorem own_setn {l : List Value} {k i : Nat} {v d : Value} (h : i ≠ k) : (l.set k v).getD i d = l.getD i d := by simp [List.getD, List.getElem?_set, Ne.symm h]
theorem own_lt_of {l : List Value} {n : Nat} {j z : Int32} (h : l.length = n) (q : ¬ j < 0 ∧ j < z) (hz : z.toNatClampNeg = n := by decide) : j.toNatClampNeg < l.length := by
  rw [h, ← hz]
  obtain ⟨q1, q2⟩ := q
  rw [Int32.lt_iff_toInt_lt] at q1 q2
  have : (0 : Int32).toInt = 0 := rfl
  simp only [Int32.toNatClampNeg]
  omega
theorem own_eqi {args : Array Value} {s : State} {t : Term} {k : Int32} (h : (Jvm.Cond.eq t (.int k)).value args s none s [] = some true) : t.eval args s none [] s = some (.int k) := by
  simp only [Cond.value, Term.eval] at h
  cases ht : t.eval args s none [] s with
  | none => simp [ht] at h
  | some x => cases x <;> simp_all
theorem wd3 {Z : State} {a0 : Array Value} (hw : ∀ d ∈ tables_1, d.before a0 Z = true) : (Jvm.Cond.methodLink "com/example/lectern/lectern/catalog/MemberSlotsEmptyPinLaw" (24 : Nat) ({ cls := "com/example/lectern/lectern/catalog/MemberSlotsEmptyPinLaw", name := "phase", desc := "(I)Lcom/example/lectern/lectern/catalog/Franklin$Phase;" } : Jvm.MethodName)).before a0 Z = true := hw _ (List.mem_of_getElem? (i := 3) rfl)
theorem wd10 {Z : State} {a0 : Array Value} (hw : ∀ d ∈ tables_1, d.before a0 Z = true) : (Jvm.Cond.methodLink "com/example/lectern/lectern/catalog/MemberSlotsEmptyPinLaw" (30 : Nat) ({ cls := "com/example/lectern/lectern/catalog/Franklin$Member", name := "<init>", desc := "(Lcom/example/lectern/lectern/catalog/Franklin$Phase;III)V" } : Jvm.MethodName)).before a0 Z = true := hw _ (List.mem_of_getElem? (i := 10) rfl)
theorem wd29 {Z : State} {a0 : Array Value} (hw : ∀ d ∈ tables_1, d.before a0 Z = true) : (Jvm.Cond.methodLink "com/example/lectern/lectern/catalog/MemberSlotsEmptyPinLaw" (33 : Nat) ({ cls := "com/example/lectern/lectern/catalog/Franklin$Member", name := "slotsEmpty", desc := "()Z" } : Jvm.MethodName)).before a0 Z = true := hw _ (List.mem_of_getElem? (i := 29) rfl)
theorem wd53 {Z : State} {a0 : Array Value} (hw : ∀ d ∈ tables_1, d.before a0 Z = true) : (Jvm.Cond.methodLink "com/example/lectern/lectern/catalog/MemberSlotsEmptyPinLaw" (37 : Nat) ({ cls := "com/example/lectern/lectern/catalog/Franklin$Member", name := "slotsFull", desc := "()Z" } : Jvm.MethodName)).before a0 Z = true := hw _ (List.mem_of_getElem? (i := 53) rfl)
theorem wd34 {Z : State} {a0 : Array Value} (hw : ∀ d ∈ tables_1, d.before a0 Z = true) : (Jvm.Cond.methodLink "com/example/lectern/lectern/catalog/MemberSlotsEmptyPinLaw" (40 : Nat) ({ cls := "com/example/lectern/lectern/catalog/Franklin$Member", name := "emptied", desc := "()Lcom/example/lectern/lectern/catalog/Franklin$Member;" } : Jvm.MethodName)).before a0 Z = true := hw _ (List.mem_of_getElem? (i := 34) rfl)
theorem wd41 {Z : State} {a0 : Array Value} (hw : ∀ d ∈ tables_1, d.before a0 Z = true) : (Jvm.Cond.methodLink "com/example/lectern/lectern/catalog/MemberSlotsEmptyPinLaw" (44 : Nat) ({ cls := "com/example/lectern/lectern/catalog/Franklin$Member", name := "takenFromLeft", desc := "(I)Lcom/example/lectern/lectern/catalog/Franklin$Member;" } : Jvm.MethodName)).before a0 Z = true := hw _ (List.mem_of_getElem? (i := 41) rfl)
theorem wd46 {Z : State} {a0 : Array Value} (hw : ∀ d ∈ tables_1, d.before a0 Z = true) : (Jvm.Cond.methodLink "com/example/lectern/lectern/catalog/MemberSlotsEmptyPinLaw" (48 : Nat) ({ cls := "com/example/lectern/lectern/catalog/Franklin$Member", name := "takenFromRight", desc := "(I)Lcom/example/lectern/lectern/catalog/Franklin$Member;" } : Jvm.MethodName)).before a0 Z = true := hw _ (List.mem_of_getElem? (i := 46) rfl)
theorem wd13 {Z : State} {a0 : Array Value} (hw : ∀ d ∈ tables_1, d.before a0 Z = true) : (Jvm.Cond.methodLink "com/example/lectern/lectern/catalog/Franklin$Member" (3 : Nat) ({ cls := "java/lang/Record", name := "<init>", desc := "()V" } : Jvm.MethodName)).before a0 Z = true := hw _ (List.mem_of_getElem? (i := 13) rfl)
theorem wd18 {Z : State} {a0 : Array Value} (hw : ∀ d ∈ tables_1, d.before a0 Z = true) : (Jvm.Cond.methodLink "java/lang/Record" (1 : Nat) ({ cls := "java/lang/Object", name := "<init>", desc := "()V" } : Jvm.MethodName)).before a0 Z = true := hw _ (List.mem_of_getElem? (i := 18) rfl)
theorem wd40 {Z : State} {a0 : Array Value} (hw : ∀ d ∈ tables_1, d.before a0 Z = true) : (Jvm.Cond.methodLink "com/example/lectern/lectern/catalog/Franklin$Member" (25 : Nat) ({ cls := "com/example/lectern/lectern/catalog/Franklin$Member", name := "<init>", desc := "(Lcom/example/lectern/lectern/catalog/Franklin$Phase;III)V" } : Jvm.MethodName)).before a0 Z = true := hw _ (List.mem_of_getElem? (i := 40) rfl)
theorem d1_0 : decode method_2_code 0 = .ok (.iload_n 0, 1) := by decide +kernel
theorem d1_1 : decode method_2_code 1 = .ok (.iconst 3, 1) := by decide +kernel
theorem d1_2 : decode method_2_code 2 = .ok (.iand, 1) := by decide +kernel
theorem d1_3 : decode method_2_code 3 = .ok (.istore_n 1, 1) := by decide +kernel
theorem d1_4 : decode method_2_code 4 = .ok (.iload_n 1, 1) := by decide +kernel
theorem d1_5 : decode method_2_code 5 = .ok (.ifCond .ne 7, 3) := by decide +kernel
theorem d1_8 : decode method_2_code 8 = .ok (.getstatic 7, 3) := by decide +kernel
theorem wd7 {Z : State} {a0 : Array Value} (hw : ∀ d ∈ tables_1, d.before a0 Z = true) : (Jvm.Cond.fieldLink "com/example/lectern/lectern/catalog/MemberSlotsEmptyPinLaw" (7 : Nat) "com/example/lectern/lectern/catalog/Franklin$Phase" "NORMAL" "Lcom/example/lectern/lectern/catalog/Franklin$Phase;").before a0 Z = true := hw _ (List.mem_of_getElem? (i := 7) rfl)
theorem d1_11 : decode method_2_code 11 = .ok (.areturn, 1) := by decide +kernel
theorem d1_12 : decode method_2_code 12 = .ok (.iload_n 1, 1) := by decide +kernel
theorem d1_13 : decode method_2_code 13 = .ok (.iconst 1, 1) := by decide +kernel
theorem d1_14 : decode method_2_code 14 = .ok (.if_icmp .ne 7, 3) := by decide +kernel
theorem d1_17 : decode method_2_code 17 = .ok (.getstatic 13, 3) := by decide +kernel
theorem wd60 {Z : State} {a0 : Array Value} (hw : ∀ d ∈ tables_1, d.before a0 Z = true) : (Jvm.Cond.fieldLink "com/example/lectern/lectern/catalog/MemberSlotsEmptyPinLaw" (13 : Nat) "com/example/lectern/lectern/catalog/Franklin$Phase" "INITIATOR" "Lcom/example/lectern/lectern/catalog/Franklin$Phase;").before a0 Z = true := hw _ (List.mem_of_getElem? (i := 60) rfl)
theorem d1_20 : decode method_2_code 20 = .ok (.areturn, 1) := by decide +kernel
theorem d1_21 : decode method_2_code 21 = .ok (.iload_n 1, 1) := by decide +kernel
theorem d1_22 : decode method_2_code 22 = .ok (.iconst 2, 1) := by decide +kernel
theorem d1_23 : decode method_2_code 23 = .ok (.if_icmp .ne 7, 3) := by decide +kernel
theorem d1_26 : decode method_2_code 26 = .ok (.getstatic 16, 3) := by decide +kernel
theorem wd58 {Z : State} {a0 : Array Value} (hw : ∀ d ∈ tables_1, d.before a0 Z = true) : (Jvm.Cond.fieldLink "com/example/lectern/lectern/catalog/MemberSlotsEmptyPinLaw" (16 : Nat) "com/example/lectern/lectern/catalog/Franklin$Phase" "PASSIVE" "Lcom/example/lectern/lectern/catalog/Franklin$Phase;").before a0 Z = true := hw _ (List.mem_of_getElem? (i := 58) rfl)
theorem d1_29 : decode method_2_code 29 = .ok (.areturn, 1) := by decide +kernel
theorem d1_30 : decode method_2_code 30 = .ok (.getstatic 19, 3) := by decide +kernel
theorem wd51 {Z : State} {a0 : Array Value} (hw : ∀ d ∈ tables_1, d.before a0 Z = true) : (Jvm.Cond.fieldLink "com/example/lectern/lectern/catalog/MemberSlotsEmptyPinLaw" (19 : Nat) "com/example/lectern/lectern/catalog/Franklin$Phase" "LEADER" "Lcom/example/lectern/lectern/catalog/Franklin$Phase;").before a0 Z = true := hw _ (List.mem_of_getElem? (i := 51) rfl)
theorem d1_33 : decode method_2_code 33 = .ok (.areturn, 1) := by decide +kernel
theorem pn0 : plainName "com/example/lectern/lectern/catalog/MemberSlotsEmptyPinLaw" = true := by first | (simp [plainName, overriddenIn]; done) | decide +kernel
def f1 (p1 : Int32) (w_NORMAL : Addr) (w_INITIATOR : Addr) (w_PASSIVE : Addr) (w_LEADER : Addr) : Addr := (if (p1 &&& (3 : Int32)) = (0 : Int32) then w_NORMAL else (if (p1 &&& (3 : Int32)) = (1 : Int32) then w_INITIATOR else (if (p1 &&& (3 : Int32)) = (2 : Int32) then w_PASSIVE else w_LEADER)))
def Q1 (Z : State) (p1 : Int32) (w_NORMAL : Addr) (w_INITIATOR : Addr) (w_PASSIVE : Addr) (w_LEADER : Addr) (h0 : Heap) (n0 : Nat) (v : Option Value) (h : Heap) (L : List Loc) : Prop := v = some (.ref (f1 p1 w_NORMAL w_INITIATOR w_PASSIVE w_LEADER)) ∧ Fr n0 L ∧ h = h0 ∧ Exa Z h (f1 p1 w_NORMAL w_INITIATOR w_PASSIVE w_LEADER) "com/example/lectern/lectern/catalog/Franklin$Phase"
theorem ef1 (m : MethodId) (x0 : Int32) : entryFrame m #[(.int x0)] 2 = mkF m 0 #[.val (.int x0), .unset] [] := by first | (simp [entryFrame, mkF, argsToLocals, Value.category]; done) | rfl
set_option maxRecDepth 65536 in
set_option maxHeartbeats 16000000 in
theorem rm1 (l : Launch) (Z : State) (a0 : Array Value) (hw : ∀ d ∈ tables_1, d.before a0 Z = true) (ws : List Jvm.Cond) (p1 : Int32) (w_NORMAL : Addr) (w_INITIATOR : Addr) (w_PASSIVE : Addr) (w_LEADER : Addr) (h0 : Heap) (n0 : Nat) (Z0 : n0 ≤ h0.size) (S_NORMAL : Sta Z h0 "com/example/lectern/lectern/catalog/Franklin$Phase" "NORMAL" "Lcom/example/lectern/lectern/catalog/Franklin$Phase;" (.ref w_NORMAL)) (E_w_NORMAL : Exa Z h0 w_NORMAL "com/example/lectern/lectern/catalog/Franklin$Phase") (S_INITIATOR : Sta Z h0 "com/example/lectern/lectern/catalog/Franklin$Phase" "INITIATOR" "Lcom/example/lectern/lectern/catalog/Franklin$Phase;" (.ref w_INITIATOR)) (E_w_INITIATOR : Exa Z h0 w_INITIATOR "com/example/lectern/lectern/catalog/Franklin$Phase") (S_PASSIVE : Sta Z h0 "com/example/lectern/lectern/catalog/Franklin$Phase" "PASSIVE" "Lcom/example/lectern/lectern/catalog/Franklin$Phase;" (.ref w_PASSIVE)) (E_w_PASSIVE : Exa Z h0 w_PASSIVE "com/example/lectern/lectern/catalog/Franklin$Phase") (S_LEADER : Sta Z h0 "com/example/lectern/lectern/catalog/Franklin$Phase" "LEADER" "Lcom/example/lectern/lectern/catalog/Franklin$Phase;" (.ref w_LEADER)) (E_w_LEADER : Exa Z h0 w_LEADER "com/example/lectern/lectern/catalog/Franklin$Phase") :
    MetFree l (⟨"com/example/lectern/lectern/catalog/MemberSlotsEmptyPinLaw", "phase", "(I)Lcom/example/lectern/lectern/catalog/Franklin$Phase;"⟩ : MethodName) (head1 (Jvm.Cond.code (⟨"com/example/lectern/lectern/catalog/MemberSlotsEmptyPinLaw", "phase", "(I)Lcom/example/lectern/lectern/catalog/Franklin$Phase;"⟩ : MethodName) method_2_code 2 (some (.object "com/example/lectern/lectern/catalog/Franklin$Phase")) :: ws) ({ frames := 0, cells := 0, slots := 0, locals := 0 } : Room)) (fun a U => a = #[(.int p1)] ∧ Z.Warmed39 U.vm ∧ U.heap = h0) (fun _ _ _ _ _ => True) (fun _ U o U' => ∃ v L, o = .returned v ∧ Q1 Z p1 w_NORMAL w_INITIATOR w_PASSIVE w_LEADER h0 n0 v U'.heap L ∧ FrameEnd U o U' L ({ frames := 0, cells := 0, slots := 0, locals := 0 } : Room).cells ({ frames := 0, cells := 0, slots := 0, locals := 0 } : Room).slots) := by
  refine MetFree.of_bodySF (plainFor_of_name pn0) hisR ?_
  intro p e s m args below meth c s₁ Bd hml0 hP hK
  obtain ⟨rfl, hZ, hh⟩ := hP
  have hx := Bd.exec
  have hby := Bd.bytes
  have hml : c.maxLocals = 2 := hml0
  have hown : s.vm.findClass "com/example/lectern/lectern/catalog/MemberSlotsEmptyPinLaw" = some m.cls := findClass_of_methodNamed Bd.named
  have hnm := (name_of_methodNamed Bd.named Bd.method).1
  have X0 : Stand p l e ({ frames := 0, cells := 0, slots := 0, locals := 0 } : Room) s m #[(.int p1)] below meth c s₁ [] 0 0 := Stand.of_body Bd
  have e0 : s₁.heap = h0 := by rw [← hh, Bd.state]; rfl
  have N0 := Fr.nil n0
  have K0 : Keep h0 h0 [] := Keep.refl h0 _
  refine Go.st (P := fun o U' => ∃ v L, o = .returned v ∧ Q1 Z p1 w_NORMAL w_INITIATOR w_PASSIVE w_LEADER h0 n0 v U'.heap L ∧ FrameEnd s o U' L ({ frames := 0, cells := 0, slots := 0, locals := 0 } : Room).cells ({ frames := 0, cells := 0, slots := 0, locals := 0 } : Room).slots) (fun t k => castTop (ef1 m p1) k) ?_
  show Go _ _ _ (s₁.setTop (mkF m 0 #[.val (.int p1), .unset] [])) _
  refine Go.st (fun t k => XS.iloadN X0.here hx rfl (hb hby d1_0) rfl k) ?_
  refine Go.st (fun t k => XS.iconst X0.here hx rfl (hb hby d1_1) k) ?_
  refine Go.st (fun t k => XS.iand X0.here hx rfl (hb hby d1_2) rfl k) ?_
  show Go _ _ _ (s₁.setTop (mkF m 3 #[.val (.int p1), .unset] [(.int (p1 &&& (3 : Int32)))])) _
  refine Go.st (fun t k => XS.istoreN X0.here hx rfl (hb hby d1_3) rfl (l' := #[.val (.int p1), .val (.int (p1 &&& (3 : Int32)))]) rfl k) ?_
  refine Go.st (fun t k => XS.iloadN X0.here hx rfl (hb hby d1_4) rfl k) ?_
  by_cases hc1 : (p1 &&& (3 : Int32)) = (0 : Int32)
  · refine Go.st (fun t k => XS.ifNo X0.here hx rfl (hb hby d1_5) rfl ((if0 _ _).trans (teq hc1).2) k) ?_
    show Go _ _ _ (s₁.setTop (mkF m 8 #[.val (.int p1), .val (.int (p1 &&& (3 : Int32)))] [])) _
    obtain ⟨T2, X2, e2, st2⟩ := getS2 X0 hx hZ hown (host := "") (Or.inl (wd7 hw)) Via.refl e0 S_NORMAL (g := (mkF m 8 #[.val (.int p1), .val (.int (p1 &&& (3 : Int32)))] [])) rfl (hb hby d1_8)
    refine Go.st st2 ?_
    show Go _ _ _ (T2.setTop (mkF m 11 #[.val (.int p1), .val (.int (p1 &&& (3 : Int32)))] [(.ref w_NORMAL)])) _
    obtain ⟨fs, hr, hrun, hended, hW, hsame⟩ := X2.leave (v := some (.ref w_NORMAL)) (fun h => by rw [Bd.returns] at h; cases h)
    refine Go.fin (retOut X2 hx Bd.returns rfl (Or.inr (Or.inr (Or.inr (Or.inr ⟨rfl, rfl, rfl⟩)))) (hb hby d1_11) hr) hrun hended ⟨_, _, rfl, ?_, ⟨_, rfl⟩, hW, hsame.mono (by decide) (by decide)⟩
    show Q1 Z p1 w_NORMAL w_INITIATOR w_PASSIVE w_LEADER h0 n0 _ T2.heap _
    rw [e2]
    exact ⟨(by unfold f1; simp only [if_pos hc1]), N0, rfl, (by unfold f1; simp only [if_pos hc1]; exact E_w_NORMAL)⟩
  · refine Go.st (fun t k => XS.ifYes X0.here hx rfl (pc0 := 5) (pc' := 12) rfl (hb hby d1_5) rfl ((if0 _ _).trans (feq hc1).2) (by decide) (by decide) k) ?_
    show Go _ _ _ (s₁.setTop (mkF m 12 #[.val (.int p1), .val (.int (p1 &&& (3 : Int32)))] [])) _
    refine Go.st (fun t k => XS.iloadN X0.here hx rfl (hb hby d1_12) rfl k) ?_
    refine Go.st (fun t k => XS.iconst X0.here hx rfl (hb hby d1_13) k) ?_
    by_cases hc3 : (p1 &&& (3 : Int32)) = (1 : Int32)
    · refine Go.st (fun t k => XS.icmpNo X0.here hx rfl (hb hby d1_14) rfl (teq hc3).2 k) ?_
      show Go _ _ _ (s₁.setTop (mkF m 17 #[.val (.int p1), .val (.int (p1 &&& (3 : Int32)))] [])) _
      obtain ⟨T4, X4, e4, st4⟩ := getS2 X0 hx hZ hown (host := "") (Or.inl (wd60 hw)) Via.refl e0 S_INITIATOR (g := (mkF m 17 #[.val (.int p1), .val (.int (p1 &&& (3 : Int32)))] [])) rfl (hb hby d1_17)
      refine Go.st st4 ?_
      show Go _ _ _ (T4.setTop (mkF m 20 #[.val (.int p1), .val (.int (p1 &&& (3 : Int32)))] [(.ref w_INITIATOR)])) _
      obtain ⟨fs, hr, hrun, hended, hW, hsame⟩ := X4.leave (v := some (.ref w_INITIATOR)) (fun h => by rw [Bd.returns] at h; cases h)
      refine Go.fin (retOut X4 hx Bd.returns rfl (Or.inr (Or.inr (Or.inr (Or.inr ⟨rfl, rfl, rfl⟩)))) (hb hby d1_20) hr) hrun hended ⟨_, _, rfl, ?_, ⟨_, rfl⟩, hW, hsame.mono (by decide) (by decide)⟩
      show Q1 Z p1 w_NORMAL w_INITIATOR w_PASSIVE w_LEADER h0 n0 _ T4.heap _
      rw [e4]
      exact ⟨(by unfold f1; simp only [if_neg hc1, if_pos hc3]), N0, rfl, (by unfold f1; simp only [if_neg hc1, if_pos hc3]; exact E_w_INITIATOR)⟩
    · refine Go.st (fun t k => XS.icmpYes X0.here hx rfl (pc0 := 14) (pc' := 21) rfl (hb hby d1_14) rfl (feq hc3).2 (by decide) (by decide) k) ?_
      show Go _ _ _ (s₁.setTop (mkF m 21 #[.val (.int p1), .val (.int (p1 &&& (3 : Int32)))] [])) _
      refine Go.st (fun t k => XS.iloadN X0.here hx rfl (hb hby d1_21) rfl k) ?_
      refine Go.st (fun t k => XS.iconst X0.here hx rfl (hb hby d1_22) k) ?_
      by_cases hc5 : (p1 &&& (3 : Int32)) = (2 : Int32)
      · refine Go.st (fun t k => XS.icmpNo X0.here hx rfl (hb hby d1_23) rfl (teq hc5).2 k) ?_
        show Go _ _ _ (s₁.setTop (mkF m 26 #[.val (.int p1), .val (.int (p1 &&& (3 : Int32)))] [])) _
        obtain ⟨T6, X6, e6, st6⟩ := getS2 X0 hx hZ hown (host := "") (Or.inl (wd58 hw)) Via.refl e0 S_PASSIVE (g := (mkF m 26 #[.val (.int p1), .val (.int (p1 &&& (3 : Int32)))] [])) rfl (hb hby d1_26)
        refine Go.st st6 ?_
        show Go _ _ _ (T6.setTop (mkF m 29 #[.val (.int p1), .val (.int (p1 &&& (3 : Int32)))] [(.ref w_PASSIVE)])) _
        obtain ⟨fs, hr, hrun, hended, hW, hsame⟩ := X6.leave (v := some (.ref w_PASSIVE)) (fun h => by rw [Bd.returns] at h; cases h)
        refine Go.fin (retOut X6 hx Bd.returns rfl (Or.inr (Or.inr (Or.inr (Or.inr ⟨rfl, rfl, rfl⟩)))) (hb hby d1_29) hr) hrun hended ⟨_, _, rfl, ?_, ⟨_, rfl⟩, hW, hsame.mono (by decide) (by decide)⟩
        show Q1 Z p1 w_NORMAL w_INITIATOR w_PASSIVE w_LEADER h0 n0 _ T6.heap _
        rw [e6]
        exact ⟨(by unfold f1; simp only [if_neg hc1, if_neg hc3, if_pos hc5]), N0, rfl, (by unfold f1; simp only [if_neg hc1, if_neg hc3, if_pos hc5]; exact E_w_PASSIVE)⟩
      · refine Go.st (fun t k => XS.icmpYes X0.here hx rfl (pc0 := 23) (pc' := 30) rfl (hb hby d1_23) rfl (feq hc5).2 (by decide) (by decide) k) ?_
        show Go _ _ _ (s₁.setTop (mkF m 30 #[.val (.int p1), .val (.int (p1 &&& (3 : Int32)))] [])) _
        obtain ⟨T7, X7, e7, st7⟩ := getS2 X0 hx hZ hown (host := "") (Or.inl (wd51 hw)) Via.refl e0 S_LEADER (g := (mkF m 30 #[.val (.int p1), .val (.int (p1 &&& (3 : Int32)))] [])) rfl (hb hby d1_30)
        refine Go.st st7 ?_
        show Go _ _ _ (T7.setTop (mkF m 33 #[.val (.int p1), .val (.int (p1 &&& (3 : Int32)))] [(.ref w_LEADER)])) _
        obtain ⟨fs, hr, hrun, hended, hW, hsame⟩ := X7.leave (v := some (.ref w_LEADER)) (fun h => by rw [Bd.returns] at h; cases h)
        refine Go.fin (retOut X7 hx Bd.returns rfl (Or.inr (Or.inr (Or.inr (Or.inr ⟨rfl, rfl, rfl⟩)))) (hb hby d1_33) hr) hrun hended ⟨_, _, rfl, ?_, ⟨_, rfl⟩, hW, hsame.mono (by decide) (by decide)⟩
        show Q1 Z p1 w_NORMAL w_INITIATOR w_PASSIVE w_LEADER h0 n0 _ T7.heap _
        rw [e7]
        exact ⟨(by unfold f1; simp only [if_neg hc1, if_neg hc3, if_neg hc5]), N0, rfl, (by unfold f1; simp only [if_neg hc1, if_neg hc3, if_neg hc5]; exact E_w_LEADER)⟩
theorem d3_0 : decode jdk_30_method_1_code 0 = .ok (.aload_n 0, 1) := by decide +kernel
theorem d3_1 : decode jdk_30_method_1_code 1 = .ok (.invokespecial 1, 3) := by decide +kernel
theorem wd20 {Z : State} {a0 : Array Value} (hw : ∀ d ∈ tables_1, d.before a0 Z = true) : (Jvm.Cond.code ({ cls := "java/lang/Object", name := "<init>", desc := "()V" } : Jvm.MethodName) object_method_1_code (1 : Nat) (Option.none : Option Jvm.ClassFile.FieldType)).before a0 Z = true := hw _ (List.mem_of_getElem? (i := 20) rfl)
theorem wd19 {Z : State} {a0 : Array Value} (hw : ∀ d ∈ tables_1, d.before a0 Z = true) : (Jvm.Cond.instanceMethod ({ cls := "java/lang/Object", name := "<init>", desc := "()V" } : Jvm.MethodName)).before a0 Z = true := hw _ (List.mem_of_getElem? (i := 19) rfl)
theorem d3_4 : decode jdk_30_method_1_code 4 = .ok (.return_, 1) := by decide +kernel
theorem pn1 : plainName "java/lang/Record" = true := by first | (simp [plainName, overriddenIn]; done) | decide +kernel
def Q3 (Z : State) (a1 : Addr) (h0 : Heap) (n0 : Nat) (v : Option Value) (h : Heap) (L : List Loc) : Prop := v = none ∧ Fr n0 L ∧ h = h0
theorem ef3 (m : MethodId) (x0 : Addr) : entryFrame m #[(.ref x0)] 1 = mkF m 0 #[.val (.ref x0)] [] := by first | (simp [entryFrame, mkF, argsToLocals, Value.category]; done) | rfl
set_option maxRecDepth 65536 in
set_option maxHeartbeats 16000000 in
theorem rm3 (l : Launch) (Z : State) (a0 : Array Value) (hw : ∀ d ∈ tables_1, d.before a0 Z = true) (ws : List Jvm.Cond) (a1 : Addr) (h0 : Heap) (n0 : Nat) (Z0 : n0 ≤ h0.size) :
    MetFree l (⟨"java/lang/Record", "<init>", "()V"⟩ : MethodName) (head1 (Jvm.Cond.code (⟨"java/lang/Record", "<init>", "()V"⟩ : MethodName) jdk_30_method_1_code 1 none :: ws) ({ frames := 1, cells := 0, slots := 0, locals := 12 } : Room)) (fun a U => a = #[(.ref a1)] ∧ Z.Warmed39 U.vm ∧ U.heap = h0) (fun _ _ _ _ _ => True) (fun _ U o U' => ∃ v L, o = .returned v ∧ Q3 Z a1 h0 n0 v U'.heap L ∧ FrameEnd U o U' L ({ frames := 1, cells := 0, slots := 0, locals := 12 } : Room).cells ({ frames := 1, cells := 0, slots := 0, locals := 12 } : Room).slots) := by
  refine MetFree.of_bodySF (plainFor_of_name pn1) hisR ?_
  intro p e s m args below meth c s₁ Bd hml0 hP hK
  obtain ⟨rfl, hZ, hh⟩ := hP
  have hx := Bd.exec
  have hby := Bd.bytes
  have hml : c.maxLocals = 1 := hml0
  have hown : s.vm.findClass "java/lang/Record" = some m.cls := findClass_of_methodNamed Bd.named
  have hnm := (name_of_methodNamed Bd.named Bd.method).1
  have X0 : Stand p l e ({ frames := 1, cells := 0, slots := 0, locals := 12 } : Room) s m #[(.ref a1)] below meth c s₁ [] 0 0 := Stand.of_body Bd
  have e0 : s₁.heap = h0 := by rw [← hh, Bd.state]; rfl
  have N0 := Fr.nil n0
  have K0 : Keep h0 h0 [] := Keep.refl h0 _
  refine Go.st (P := fun o U' => ∃ v L, o = .returned v ∧ Q3 Z a1 h0 n0 v U'.heap L ∧ FrameEnd s o U' L ({ frames := 1, cells := 0, slots := 0, locals := 12 } : Room).cells ({ frames := 1, cells := 0, slots := 0, locals := 12 } : Room).slots) (fun t k => castTop (ef3 m a1) k) ?_
  show Go _ _ _ (s₁.setTop (mkF m 0 #[.val (.ref a1)] [])) _
  refine Go.st (fun t k => XS.aloadN X0.here hx rfl (hb hby d3_0) rfl rfl k) ?_
  obtain ⟨T1, X1, e1, st1⟩ := initO X0 hx hZ hown (wd18 hw) (wd19 hw) (wd20 hw) e0 (g := (mkF m 1 #[.val (.ref a1)] [(.ref a1)])) rfl (by rw [hml]; rfl) rfl (hb hby d3_1) (by decide) (W := 0) (by show 2 * 0 + _ ≤ _; exact Nat.le_of_eq rfl) (by decide)
  refine Go.st st1 ?_
  show Go _ _ _ (T1.setTop (mkF m 4 #[.val (.ref a1)] [])) _
  obtain ⟨fs, hr, hrun, hended, hW, hsame⟩ := X1.leave (v := none) (fun _ => rfl)
  refine Go.fin (X1.returnOut hx Bd.returns (hb hby d3_4) hr) hrun hended ⟨_, _, rfl, ?_, ⟨_, rfl⟩, hW, hsame.mono (by decide) (by decide)⟩
  show Q3 Z a1 h0 n0 _ T1.heap _
  rw [e1]
  exact ⟨rfl, N0, rfl⟩
theorem d2_0 : decode prog_30_method_1_code 0 = .ok (.aload_n 0, 1) := by decide +kernel
theorem d2_1 : decode prog_30_method_1_code 1 = .ok (.invokespecial 3, 3) := by decide +kernel
theorem wd17 {Z : State} {a0 : Array Value} (hw : ∀ d ∈ tables_1, d.before a0 Z = true) : (Jvm.Cond.code ({ cls := "java/lang/Record", name := "<init>", desc := "()V" } : Jvm.MethodName) jdk_30_method_1_code (1 : Nat) (Option.none : Option Jvm.ClassFile.FieldType)).before a0 Z = true := hw _ (List.mem_of_getElem? (i := 17) rfl)
theorem wd16 {Z : State} {a0 : Array Value} (hw : ∀ d ∈ tables_1, d.before a0 Z = true) : (Jvm.Cond.initialized "java/lang/Record").before a0 Z = true := hw _ (List.mem_of_getElem? (i := 16) rfl)
theorem pd0 : parseMethodDescriptor "()V" = some ⟨[], none⟩ := by decide +kernel
theorem wd14 {Z : State} {a0 : Array Value} (hw : ∀ d ∈ tables_1, d.before a0 Z = true) : (Jvm.Cond.instanceMethod ({ cls := "java/lang/Record", name := "<init>", desc := "()V" } : Jvm.MethodName)).before a0 Z = true := hw _ (List.mem_of_getElem? (i := 14) rfl)
theorem d2_4 : decode prog_30_method_1_code 4 = .ok (.aload_n 0, 1) := by decide +kernel
theorem d2_5 : decode prog_30_method_1_code 5 = .ok (.aload_n 1, 1) := by decide +kernel
theorem d2_6 : decode prog_30_method_1_code 6 = .ok (.putfield 9, 3) := by decide +kernel
theorem wd21 {Z : State} {a0 : Array Value} (hw : ∀ d ∈ tables_1, d.before a0 Z = true) : (Jvm.Cond.fieldLink "com/example/lectern/lectern/catalog/Franklin$Member" (9 : Nat) "com/example/lectern/lectern/catalog/Franklin$Member" "phase" "Lcom/example/lectern/lectern/catalog/Franklin$Phase;").before a0 Z = true := hw _ (List.mem_of_getElem? (i := 21) rfl)
theorem wd22 {Z : State} {a0 : Array Value} (hw : ∀ d ∈ tables_1, d.before a0 Z = true) : (Jvm.Cond.laysFinal "com/example/lectern/lectern/catalog/Franklin$Member" "com/example/lectern/lectern/catalog/Franklin$Member" "phase" "Lcom/example/lectern/lectern/catalog/Franklin$Phase;").before a0 Z = true := hw _ (List.mem_of_getElem? (i := 22) rfl)
theorem wd1 {Z : State} {a0 : Array Value} (hw : ∀ d ∈ tables_1, d.before a0 Z = true) : (Jvm.Cond.instantiable "com/example/lectern/lectern/catalog/Franklin$Member" (4 : Nat)).before a0 Z = true := hw _ (List.mem_of_getElem? (i := 1) rfl)
theorem d2_9 : decode prog_30_method_1_code 9 = .ok (.aload_n 0, 1) := by decide +kernel
theorem d2_10 : decode prog_30_method_1_code 10 = .ok (.iload_n 2, 1) := by decide +kernel
theorem d2_11 : decode prog_30_method_1_code 11 = .ok (.putfield 15, 3) := by decide +kernel
theorem wd23 {Z : State} {a0 : Array Value} (hw : ∀ d ∈ tables_1, d.before a0 Z = true) : (Jvm.Cond.fieldLink "com/example/lectern/lectern/catalog/Franklin$Member" (15 : Nat) "com/example/lectern/lectern/catalog/Franklin$Member" "leader" "I").before a0 Z = true := hw _ (List.mem_of_getElem? (i := 23) rfl)
theorem wd24 {Z : State} {a0 : Array Value} (hw : ∀ d ∈ tables_1, d.before a0 Z = true) : (Jvm.Cond.laysFinal "com/example/lectern/lectern/catalog/Franklin$Member" "com/example/lectern/lectern/catalog/Franklin$Member" "leader" "I").before a0 Z = true := hw _ (List.mem_of_getElem? (i := 24) rfl)
theorem d2_14 : decode prog_30_method_1_code 14 = .ok (.aload_n 0, 1) := by decide +kernel
theorem d2_15 : decode prog_30_method_1_code 15 = .ok (.iload_n 3, 1) := by decide +kernel
theorem d2_16 : decode prog_30_method_1_code 16 = .ok (.putfield 19, 3) := by decide +kernel
theorem wd25 {Z : State} {a0 : Array Value} (hw : ∀ d ∈ tables_1, d.before a0 Z = true) : (Jvm.Cond.fieldLink "com/example/lectern/lectern/catalog/Franklin$Member" (19 : Nat) "com/example/lectern/lectern/catalog/Franklin$Member" "fromLeft" "I").before a0 Z = true := hw _ (List.mem_of_getElem? (i := 25) rfl)
theorem wd26 {Z : State} {a0 : Array Value} (hw : ∀ d ∈ tables_1, d.before a0 Z = true) : (Jvm.Cond.laysFinal "com/example/lectern/lectern/catalog/Franklin$Member" "com/example/lectern/lectern/catalog/Franklin$Member" "fromLeft" "I").before a0 Z = true := hw _ (List.mem_of_getElem? (i := 26) rfl)
theorem d2_19 : decode prog_30_method_1_code 19 = .ok (.aload_n 0, 1) := by decide +kernel
theorem d2_20 : decode prog_30_method_1_code 20 = .ok (.iload 4, 2) := by decide +kernel
theorem d2_22 : decode prog_30_method_1_code 22 = .ok (.putfield 22, 3) := by decide +kernel
theorem wd27 {Z : State} {a0 : Array Value} (hw : ∀ d ∈ tables_1, d.before a0 Z = true) : (Jvm.Cond.fieldLink "com/example/lectern/lectern/catalog/Franklin$Member" (22 : Nat) "com/example/lectern/lectern/catalog/Franklin$Member" "fromRight" "I").before a0 Z = true := hw _ (List.mem_of_getElem? (i := 27) rfl)
theorem wd28 {Z : State} {a0 : Array Value} (hw : ∀ d ∈ tables_1, d.before a0 Z = true) : (Jvm.Cond.laysFinal "com/example/lectern/lectern/catalog/Franklin$Member" "com/example/lectern/lectern/catalog/Franklin$Member" "fromRight" "I").before a0 Z = true := hw _ (List.mem_of_getElem? (i := 28) rfl)
theorem d2_25 : decode prog_30_method_1_code 25 = .ok (.return_, 1) := by decide +kernel
theorem pn2 : plainName "com/example/lectern/lectern/catalog/Franklin$Member" = true := by first | (simp [plainName, overriddenIn]; done) | decide +kernel
def Q2 (Z : State) (a1 : Addr) (a2 : Addr) (p3 : Int32) (p4 : Int32) (p5 : Int32) (u_a1_phase : Value) (u_a1_leader : Value) (u_a1_fromLeft : Value) (u_a1_fromRight : Value) (h0 : Heap) (n0 : Nat) (v : Option Value) (h : Heap) (L : List Loc) : Prop := v = none ∧ Fr n0 L ∧ Keep h0 h [a1] ∧ Exa Z h a1 "com/example/lectern/lectern/catalog/Franklin$Member" ∧ Fld Z h a1 "com/example/lectern/lectern/catalog/Franklin$Member" "phase" "Lcom/example/lectern/lectern/catalog/Franklin$Phase;" (.ref a2) ∧ Fld Z h a1 "com/example/lectern/lectern/catalog/Franklin$Member" "leader" "I" (.int p3) ∧ Fld Z h a1 "com/example/lectern/lectern/catalog/Franklin$Member" "fromLeft" "I" (.int p4) ∧ Fld Z h a1 "com/example/lectern/lectern/catalog/Franklin$Member" "fromRight" "I" (.int p5)
theorem ef2 (m : MethodId) (x0 : Addr) (x1 : Addr) (x2 : Int32) (x3 : Int32) (x4 : Int32) : entryFrame m #[(.ref x0), (.ref x1), (.int x2), (.int x3), (.int x4)] 5 = mkF m 0 #[.val (.ref x0), .val (.ref x1), .val (.int x2), .val (.int x3), .val (.int x4)] [] := by first | (simp [entryFrame, mkF, argsToLocals, Value.category]; done) | rfl
set_option maxRecDepth 65536 in
set_option maxHeartbeats 16000000 in
theorem rm2 (l : Launch) (Z : State) (a0 : Array Value) (hw : ∀ d ∈ tables_1, d.before a0 Z = true) (ws : List Jvm.Cond) (a1 : Addr) (a2 : Addr) (p3 : Int32) (p4 : Int32) (p5 : Int32) (u_a1_phase : Value) (u_a1_leader : Value) (u_a1_fromLeft : Value) (u_a1_fromRight : Value) (h0 : Heap) (n0 : Nat) (Z0 : n0 ≤ h0.size) (E_a1 : Exa Z h0 a1 "com/example/lectern/lectern/catalog/Franklin$Member") (F_a1_phase : Fld Z h0 a1 "com/example/lectern/lectern/catalog/Franklin$Member" "phase" "Lcom/example/lectern/lectern/catalog/Franklin$Phase;" u_a1_phase) (F_a1_leader : Fld Z h0 a1 "com/example/lectern/lectern/catalog/Franklin$Member" "leader" "I" u_a1_leader) (F_a1_fromLeft : Fld Z h0 a1 "com/example/lectern/lectern/catalog/Franklin$Member" "fromLeft" "I" u_a1_fromLeft) (F_a1_fromRight : Fld Z h0 a1 "com/example/lectern/lectern/catalog/Franklin$Member" "fromRight" "I" u_a1_fromRight) (g_a1 : n0 ≤ a1) :
    MetFree l (⟨"com/example/lectern/lectern/catalog/Franklin$Member", "<init>", "(Lcom/example/lectern/lectern/catalog/Franklin$Phase;III)V"⟩ : MethodName) (head1 (Jvm.Cond.code (⟨"com/example/lectern/lectern/catalog/Franklin$Member", "<init>", "(Lcom/example/lectern/lectern/catalog/Franklin$Phase;III)V"⟩ : MethodName) prog_30_method_1_code 5 none :: ws) ({ frames := 2, cells := 0, slots := 0, locals := 24 } : Room)) (fun a U => a = #[(.ref a1), (.ref a2), (.int p3), (.int p4), (.int p5)] ∧ Z.Warmed39 U.vm ∧ U.heap = h0) (fun _ _ _ _ _ => True) (fun _ U o U' => ∃ v L, o = .returned v ∧ Q2 Z a1 a2 p3 p4 p5 u_a1_phase u_a1_leader u_a1_fromLeft u_a1_fromRight h0 n0 v U'.heap L ∧ FrameEnd U o U' L ({ frames := 2, cells := 0, slots := 0, locals := 24 } : Room).cells ({ frames := 2, cells := 0, slots := 0, locals := 24 } : Room).slots) := by
  refine MetFree.of_bodySF (plainFor_of_name pn2) hisR ?_
  intro p e s m args below meth c s₁ Bd hml0 hP hK
  obtain ⟨rfl, hZ, hh⟩ := hP
  have hx := Bd.exec
  have hby := Bd.bytes
  have hml : c.maxLocals = 5 := hml0
  have hown : s.vm.findClass "com/example/lectern/lectern/catalog/Franklin$Member" = some m.cls := findClass_of_methodNamed Bd.named
  have hnm := (name_of_methodNamed Bd.named Bd.method).1
  have X0 : Stand p l e ({ frames := 2, cells := 0, slots := 0, locals := 24 } : Room) s m #[(.ref a1), (.ref a2), (.int p3), (.int p4), (.int p5)] below meth c s₁ [] 0 0 := Stand.of_body Bd
  have e0 : s₁.heap = h0 := by rw [← hh, Bd.state]; rfl
  have N0 := Fr.nil n0
  have K0 : Keep h0 h0 [a1] := Keep.refl h0 _
  refine Go.st (P := fun o U' => ∃ v L, o = .returned v ∧ Q2 Z a1 a2 p3 p4 p5 u_a1_phase u_a1_leader u_a1_fromLeft u_a1_fromRight h0 n0 v U'.heap L ∧ FrameEnd s o U' L ({ frames := 2, cells := 0, slots := 0, locals := 24 } : Room).cells ({ frames := 2, cells := 0, slots := 0, locals := 24 } : Room).slots) (fun t k => castTop (ef2 m a1 a2 p3 p4 p5) k) ?_
  show Go _ _ _ (s₁.setTop (mkF m 0 #[.val (.ref a1), .val (.ref a2), .val (.int p3), .val (.int p4), .val (.int p5)] [])) _
  refine Go.st (fun t k => XS.aloadN X0.here hx rfl (hb hby d2_0) rfl rfl k) ?_
  obtain ⟨_, _, ⟨T1, L1, k1, n1⟩, -, X1, ⟨Lc1, hQ1, l1, y1, z1⟩, st1⟩ := X0.specialBack hx (y := (⟨"java/lang/Record", "<init>", "()V"⟩ : MethodName)) rfl hown (mvT hZ (wd13 hw)) (mvT hZ (wd14 hw)) (mvT hZ (wd17 hw)) (by decide) (backOf (W := 0) (rm3 l Z a0 hw [] a1 h0 n0 Z0) hZ (wd17 hw) (wd16 hw) (by decide) (by decide)) (g := (mkF m 1 #[.val (.ref a1), .val (.ref a2), .val (.int p3), .val (.int p4), .val (.int p5)] [(.ref a1)])) rfl (by rw [hml]; rfl) (Steps.refl _) (a := a1) (argsL := []) (rest := []) (lenOf pd0 rfl) rfl (by show 2 * 0 + _ ≤ _; exact Nat.le_of_eq rfl) (hb hby d2_1) (fun _ _ => ⟨rfl, e0, (by decide : 0 + 0 ≤ _), (by decide : 0 + 0 ≤ _)⟩)
  dsimp only [Pt.U, Pt.locs, Pt.cells, Pt.slots] at X1 l1 y1 z1 st1 hQ1
  subst l1 y1 z1
  refine Go.tr st1 ?_
  obtain ⟨rfl, N1q, e1⟩ := hQ1
  have N1 := Fr.app N0 N1q
  show Go _ _ _ (T1.setTop (mkF m 4 #[.val (.ref a1), .val (.ref a2), .val (.int p3), .val (.int p4), .val (.int p5)] [])) _
  refine Go.st (fun t k => XS.aloadN X1.here hx rfl (hb hby d2_4) rfl rfl k) ?_
  refine Go.st (fun t k => XS.aloadN X1.here hx rfl (hb hby d2_5) rfl rfl k) ?_
  obtain ⟨T2, h2, X2, e2, W2, st2⟩ := putF X1 hx hZ hown (host := "") (Or.inl (wd21 hw)) Via.refl e1 F_a1_phase E_a1 (Or.inr ⟨(wd22 hw), rfl, hnm⟩) (wd1 hw) (ty := (.object "com/example/lectern/lectern/catalog/Franklin$Phase")) (by decide) rfl rfl (g := (mkF m 6 #[.val (.ref a1), .val (.ref a2), .val (.int p3), .val (.int p4), .val (.int p5)] [(.ref a2), (.ref a1)])) rfl rfl (hb hby d2_6)
  refine Go.st st2 ?_
  have N2 := Fr.snoc X2 N1 g_a1
  replace E_a1 := E_a1.wr W2
  replace F_a1_phase := F_a1_phase.same W2
  replace F_a1_leader := F_a1_leader.other W2 (Or.inr (slot_ne (Or.inr (wd24 hw)) (Or.inr (wd22 hw)) (by decide) (t := .int) (t' := (.object "com/example/lectern/lectern/catalog/Franklin$Phase")) (by decide) (by decide)))
  replace F_a1_fromLeft := F_a1_fromLeft.other W2 (Or.inr (slot_ne (Or.inr (wd26 hw)) (Or.inr (wd22 hw)) (by decide) (t := .int) (t' := (.object "com/example/lectern/lectern/catalog/Franklin$Phase")) (by decide) (by decide)))
  replace F_a1_fromRight := F_a1_fromRight.other W2 (Or.inr (slot_ne (Or.inr (wd28 hw)) (Or.inr (wd22 hw)) (by decide) (t := .int) (t' := (.object "com/example/lectern/lectern/catalog/Franklin$Phase")) (by decide) (by decide)))
  replace Z0 := Nat.le_trans Z0 (Nat.le_of_eq W2.size.symm)
  replace K0 := K0.wr W2 (Or.inl (by simp))
  show Go _ _ _ (T2.setTop (mkF m 9 #[.val (.ref a1), .val (.ref a2), .val (.int p3), .val (.int p4), .val (.int p5)] [])) _
  refine Go.st (fun t k => XS.aloadN X2.here hx rfl (hb hby d2_9) rfl rfl k) ?_
  refine Go.st (fun t k => XS.iloadN X2.here hx rfl (hb hby d2_10) rfl k) ?_
  obtain ⟨T3, h3, X3, e3, W3, st3⟩ := putF X2 hx hZ hown (host := "") (Or.inl (wd23 hw)) Via.refl e2 F_a1_leader E_a1 (Or.inr ⟨(wd24 hw), rfl, hnm⟩) (wd1 hw) (ty := .int) (by decide) rfl rfl (g := (mkF m 11 #[.val (.ref a1), .val (.ref a2), .val (.int p3), .val (.int p4), .val (.int p5)] [(.int p3), (.ref a1)])) rfl rfl (hb hby d2_11)
  refine Go.st st3 ?_
  have N3 := Fr.snoc X3 N2 g_a1
  replace E_a1 := E_a1.wr W3
  replace F_a1_phase := F_a1_phase.other W3 (Or.inr (slot_ne (Or.inr (wd22 hw)) (Or.inr (wd24 hw)) (by decide) (t := (.object "com/example/lectern/lectern/catalog/Franklin$Phase")) (t' := .int) (by decide) (by decide)))
  replace F_a1_leader := F_a1_leader.same W3
  replace F_a1_fromLeft := F_a1_fromLeft.other W3 (Or.inr (slot_ne (Or.inr (wd26 hw)) (Or.inr (wd24 hw)) (by decide) (t := .int) (t' := .int) (by decide) (by decide)))
  replace F_a1_fromRight := F_a1_fromRight.other W3 (Or.inr (slot_ne (Or.inr (wd28 hw)) (Or.inr (wd24 hw)) (by decide) (t := .int) (t' := .int) (by decide) (by decide)))
  replace Z0 := Nat.le_trans Z0 (Nat.le_of_eq W3.size.symm)
  replace K0 := K0.wr W3 (Or.inl (by simp))
  show Go _ _ _ (T3.setTop (mkF m 14 #[.val (.ref a1), .val (.ref a2), .val (.int p3), .val (.int p4), .val (.int p5)] [])) _
  refine Go.st (fun t k => XS.aloadN X3.here hx rfl (hb hby d2_14) rfl rfl k) ?_
  refine Go.st (fun t k => XS.iloadN X3.here hx rfl (hb hby d2_15) rfl k) ?_
  obtain ⟨T4, h4, X4, e4, W4, st4⟩ := putF X3 hx hZ hown (host := "") (Or.inl (wd25 hw)) Via.refl e3 F_a1_fromLeft E_a1 (Or.inr ⟨(wd26 hw), rfl, hnm⟩) (wd1 hw) (ty := .int) (by decide) rfl rfl (g := (mkF m 16 #[.val (.ref a1), .val (.ref a2), .val (.int p3), .val (.int p4), .val (.int p5)] [(.int p4), (.ref a1)])) rfl rfl (hb hby d2_16)
  refine Go.st st4 ?_
  have N4 := Fr.snoc X4 N3 g_a1
  replace E_a1 := E_a1.wr W4
  replace F_a1_phase := F_a1_phase.other W4 (Or.inr (slot_ne (Or.inr (wd22 hw)) (Or.inr (wd26 hw)) (by decide) (t := (.object "com/example/lectern/lectern/catalog/Franklin$Phase")) (t' := .int) (by decide) (by decide)))
  replace F_a1_leader := F_a1_leader.other W4 (Or.inr (slot_ne (Or.inr (wd24 hw)) (Or.inr (wd26 hw)) (by decide) (t := .int) (t' := .int) (by decide) (by decide)))
  replace F_a1_fromLeft := F_a1_fromLeft.same W4
  replace F_a1_fromRight := F_a1_fromRight.other W4 (Or.inr (slot_ne (Or.inr (wd28 hw)) (Or.inr (wd26 hw)) (by decide) (t := .int) (t' := .int) (by decide) (by decide)))
  replace Z0 := Nat.le_trans Z0 (Nat.le_of_eq W4.size.symm)
  replace K0 := K0.wr W4 (Or.inl (by simp))
  show Go _ _ _ (T4.setTop (mkF m 19 #[.val (.ref a1), .val (.ref a2), .val (.int p3), .val (.int p4), .val (.int p5)] [])) _
  refine Go.st (fun t k => XS.aloadN X4.here hx rfl (hb hby d2_19) rfl rfl k) ?_
  refine Go.st (fun t k => XS.iload X4.here hx rfl (hb hby d2_20) rfl k) ?_
  obtain ⟨T5, h5, X5, e5, W5, st5⟩ := putF X4 hx hZ hown (host := "") (Or.inl (wd27 hw)) Via.refl e4 F_a1_fromRight E_a1 (Or.inr ⟨(wd28 hw), rfl, hnm⟩) (wd1 hw) (ty := .int) (by decide) rfl rfl (g := (mkF m 22 #[.val (.ref a1), .val (.ref a2), .val (.int p3), .val (.int p4), .val (.int p5)] [(.int p5), (.ref a1)])) rfl rfl (hb hby d2_22)
  refine Go.st st5 ?_
  have N5 := Fr.snoc X5 N4 g_a1
  replace E_a1 := E_a1.wr W5
  replace F_a1_phase := F_a1_phase.other W5 (Or.inr (slot_ne (Or.inr (wd22 hw)) (Or.inr (wd28 hw)) (by decide) (t := (.object "com/example/lectern/lectern/catalog/Franklin$Phase")) (t' := .int) (by decide) (by decide)))
  replace F_a1_leader := F_a1_leader.other W5 (Or.inr (slot_ne (Or.inr (wd24 hw)) (Or.inr (wd28 hw)) (by decide) (t := .int) (t' := .int) (by decide) (by decide)))
  replace F_a1_fromLeft := F_a1_fromLeft.other W5 (Or.inr (slot_ne (Or.inr (wd26 hw)) (Or.inr (wd28 hw)) (by decide) (t := .int) (t' := .int) (by decide) (by decide)))
  replace F_a1_fromRight := F_a1_fromRight.same W5
  replace Z0 := Nat.le_trans Z0 (Nat.le_of_eq W5.size.symm)
  replace K0 := K0.wr W5 (Or.inl (by simp))
  show Go _ _ _ (T5.setTop (mkF m 25 #[.val (.ref a1), .val (.ref a2), .val (.int p3), .val (.int p4), .val (.int p5)] [])) _
  obtain ⟨fs, hr, hrun, hended, hW, hsame⟩ := X5.leave (v := none) (fun _ => rfl)
  refine Go.fin (X5.returnOut hx Bd.returns (hb hby d2_25) hr) hrun hended ⟨_, _, rfl, ?_, ⟨_, rfl⟩, hW, hsame.mono (by decide) (by decide)⟩
  show Q2 Z a1 a2 p3 p4 p5 u_a1_phase u_a1_leader u_a1_fromLeft u_a1_fromRight h0 n0 _ T5.heap _
  rw [e5]
  exact ⟨rfl, N5, K0, E_a1, F_a1_phase, F_a1_leader, F_a1_fromLeft, F_a1_fromRight⟩
theorem d5_0 : decode prog_30_method_7_code 0 = .ok (.aload_n 0, 1) := by decide +kernel
theorem d5_1 : decode prog_30_method_7_code 1 = .ok (.getfield 19, 3) := by decide +kernel
theorem d5_4 : decode prog_30_method_7_code 4 = .ok (.iconst (-1), 1) := by decide +kernel
theorem d5_5 : decode prog_30_method_7_code 5 = .ok (.if_icmp .ne 15, 3) := by decide +kernel
theorem d5_8 : decode prog_30_method_7_code 8 = .ok (.aload_n 0, 1) := by decide +kernel
theorem d5_9 : decode prog_30_method_7_code 9 = .ok (.getfield 22, 3) := by decide +kernel
theorem d5_12 : decode prog_30_method_7_code 12 = .ok (.iconst (-1), 1) := by decide +kernel
theorem d5_13 : decode prog_30_method_7_code 13 = .ok (.if_icmp .ne 7, 3) := by decide +kernel
theorem d5_16 : decode prog_30_method_7_code 16 = .ok (.iconst 1, 1) := by decide +kernel
theorem d5_17 : decode prog_30_method_7_code 17 = .ok (.goto 4, 3) := by decide +kernel
theorem d5_21 : decode prog_30_method_7_code 21 = .ok (.ireturn, 1) := by decide +kernel
theorem d5_20 : decode prog_30_method_7_code 20 = .ok (.iconst 0, 1) := by decide +kernel
def f5 (w_a1_fromLeft : Int32) (w_a1_fromRight : Int32) : Int32 := (if w_a1_fromLeft = (-1 : Int32) then (if w_a1_fromRight = (-1 : Int32) then (1 : Int32) else (0 : Int32)) else (0 : Int32))
def Q5 (Z : State) (a1 : Addr) (w_a1_fromLeft : Int32) (w_a1_fromRight : Int32) (h0 : Heap) (n0 : Nat) (v : Option Value) (h : Heap) (L : List Loc) : Prop := v = some (.int (f5 w_a1_fromLeft w_a1_fromRight)) ∧ Fr n0 L ∧ h = h0
theorem ef5 (m : MethodId) (x0 : Addr) : entryFrame m #[(.ref x0)] 1 = mkF m 0 #[.val (.ref x0)] [] := by first | (simp [entryFrame, mkF, argsToLocals, Value.category]; done) | rfl
set_option maxRecDepth 65536 in
set_option maxHeartbeats 16000000 in
theorem rm5 (l : Launch) (Z : State) (a0 : Array Value) (hw : ∀ d ∈ tables_1, d.before a0 Z = true) (ws : List Jvm.Cond) (a1 : Addr) (w_a1_fromLeft : Int32) (w_a1_fromRight : Int32) (h0 : Heap) (n0 : Nat) (Z0 : n0 ≤ h0.size) (F_a1_fromLeft : Fld Z h0 a1 "com/example/lectern/lectern/catalog/Franklin$Member" "fromLeft" "I" (.int w_a1_fromLeft)) (F_a1_fromRight : Fld Z h0 a1 "com/example/lectern/lectern/catalog/Franklin$Member" "fromRight" "I" (.int w_a1_fromRight)) :
    MetFree l (⟨"com/example/lectern/lectern/catalog/Franklin$Member", "slotsEmpty", "()Z"⟩ : MethodName) (head1 (Jvm.Cond.code (⟨"com/example/lectern/lectern/catalog/Franklin$Member", "slotsEmpty", "()Z"⟩ : MethodName) prog_30_method_7_code 1 (some .boolean) :: ws) ({ frames := 0, cells := 0, slots := 0, locals := 0 } : Room)) (fun a U => a = #[(.ref a1)] ∧ Z.Warmed39 U.vm ∧ U.heap = h0) (fun _ _ _ _ _ => True) (fun _ U o U' => ∃ v L, o = .returned v ∧ Q5 Z a1 w_a1_fromLeft w_a1_fromRight h0 n0 v U'.heap L ∧ FrameEnd U o U' L ({ frames := 0, cells := 0, slots := 0, locals := 0 } : Room).cells ({ frames := 0, cells := 0, slots := 0, locals := 0 } : Room).slots) := by
  refine MetFree.of_bodySF (plainFor_of_name pn2) hisR ?_
  intro p e s m args below meth c s₁ Bd hml0 hP hK
  obtain ⟨rfl, hZ, hh⟩ := hP
  have hx := Bd.exec
  have hby := Bd.bytes
  have hml : c.maxLocals = 1 := hml0
  have hown : s.vm.findClass "com/example/lectern/lectern/catalog/Franklin$Member" = some m.cls := findClass_of_methodNamed Bd.named
  have hnm := (name_of_methodNamed Bd.named Bd.method).1
  have X0 : Stand p l e ({ frames := 0, cells := 0, slots := 0, locals := 0 } : Room) s m #[(.ref a1)] below meth c s₁ [] 0 0 := Stand.of_body Bd
  have e0 : s₁.heap = h0 := by rw [← hh, Bd.state]; rfl
  have N0 := Fr.nil n0
  have K0 : Keep h0 h0 [] := Keep.refl h0 _
  refine Go.st (P := fun o U' => ∃ v L, o = .returned v ∧ Q5 Z a1 w_a1_fromLeft w_a1_fromRight h0 n0 v U'.heap L ∧ FrameEnd s o U' L ({ frames := 0, cells := 0, slots := 0, locals := 0 } : Room).cells ({ frames := 0, cells := 0, slots := 0, locals := 0 } : Room).slots) (fun t k => castTop (ef5 m a1) k) ?_
  show Go _ _ _ (s₁.setTop (mkF m 0 #[.val (.ref a1)] [])) _
  refine Go.st (fun t k => XS.aloadN X0.here hx rfl (hb hby d5_0) rfl rfl k) ?_
  obtain ⟨T1, X1, e1, st1⟩ := getF X0 hx hZ hown (host := "") (Or.inl (wd25 hw)) Via.refl e0 F_a1_fromLeft (g := (mkF m 1 #[.val (.ref a1)] [(.ref a1)])) rfl rfl (hb hby d5_1)
  refine Go.st st1 ?_
  show Go _ _ _ (T1.setTop (mkF m 4 #[.val (.ref a1)] [(.int w_a1_fromLeft)])) _
  refine Go.st (fun t k => XS.iconst X1.here hx rfl (hb hby d5_4) k) ?_
  by_cases hc2 : w_a1_fromLeft = (-1 : Int32)
  · refine Go.st (fun t k => XS.icmpNo X1.here hx rfl (hb hby d5_5) rfl (teq hc2).2 k) ?_
    show Go _ _ _ (T1.setTop (mkF m 8 #[.val (.ref a1)] [])) _
    refine Go.st (fun t k => XS.aloadN X1.here hx rfl (hb hby d5_8) rfl rfl k) ?_
    obtain ⟨T3, X3, e3, st3⟩ := getF X1 hx hZ hown (host := "") (Or.inl (wd27 hw)) Via.refl e1 F_a1_fromRight (g := (mkF m 9 #[.val (.ref a1)] [(.ref a1)])) rfl rfl (hb hby d5_9)
    refine Go.st st3 ?_
    show Go _ _ _ (T3.setTop (mkF m 12 #[.val (.ref a1)] [(.int w_a1_fromRight)])) _
    refine Go.st (fun t k => XS.iconst X3.here hx rfl (hb hby d5_12) k) ?_
    by_cases hc4 : w_a1_fromRight = (-1 : Int32)
    · refine Go.st (fun t k => XS.icmpNo X3.here hx rfl (hb hby d5_13) rfl (teq hc4).2 k) ?_
      show Go _ _ _ (T3.setTop (mkF m 16 #[.val (.ref a1)] [])) _
      refine Go.st (fun t k => XS.iconst X3.here hx rfl (hb hby d5_16) k) ?_
      refine Go.st (fun t k => XS.goto X3.here hx rfl (pc0 := 17) (pc' := 21) rfl (hb hby d5_17) (by decide) (by decide) k) ?_
      obtain ⟨fs, hr, hrun, hended, hW, hsame⟩ := X3.leave (v := some (.int (1 : Int32))) (fun h => by rw [Bd.returns] at h; cases h)
      refine Go.fin (retN X3 hx (t := .boolean) Bd.returns (by simp) (hb hby d5_21) hr) hrun hended ⟨_, _, rfl, ?_, ⟨_, rfl⟩, hW, hsame.mono (by decide) (by decide)⟩
      show Q5 Z a1 w_a1_fromLeft w_a1_fromRight h0 n0 _ T3.heap _
      rw [e3]
      exact ⟨(by unfold f5; simp only [if_pos hc2, if_pos hc4]), N0, rfl⟩
    · refine Go.st (fun t k => XS.icmpYes X3.here hx rfl (pc0 := 13) (pc' := 20) rfl (hb hby d5_13) rfl (feq hc4).2 (by decide) (by decide) k) ?_
      show Go _ _ _ (T3.setTop (mkF m 20 #[.val (.ref a1)] [])) _
      refine Go.st (fun t k => XS.iconst X3.here hx rfl (hb hby d5_20) k) ?_
      obtain ⟨fs, hr, hrun, hended, hW, hsame⟩ := X3.leave (v := some (.int (0 : Int32))) (fun h => by rw [Bd.returns] at h; cases h)
      refine Go.fin (retN X3 hx (t := .boolean) Bd.returns (by simp) (hb hby d5_21) hr) hrun hended ⟨_, _, rfl, ?_, ⟨_, rfl⟩, hW, hsame.mono (by decide) (by decide)⟩
      show Q5 Z a1 w_a1_fromLeft w_a1_fromRight h0 n0 _ T3.heap _
      rw [e3]
      exact ⟨(by unfold f5; simp only [if_pos hc2, if_neg hc4]), N0, rfl⟩
  · refine Go.st (fun t k => XS.icmpYes X1.here hx rfl (pc0 := 5) (pc' := 20) rfl (hb hby d5_5) rfl (feq hc2).2 (by decide) (by decide) k) ?_
    show Go _ _ _ (T1.setTop (mkF m 20 #[.val (.ref a1)] [])) _
    refine Go.st (fun t k => XS.iconst X1.here hx rfl (hb hby d5_20) k) ?_
    obtain ⟨fs, hr, hrun, hended, hW, hsame⟩ := X1.leave (v := some (.int (0 : Int32))) (fun h => by rw [Bd.returns] at h; cases h)
    refine Go.fin (retN X1 hx (t := .boolean) Bd.returns (by simp) (hb hby d5_21) hr) hrun hended ⟨_, _, rfl, ?_, ⟨_, rfl⟩, hW, hsame.mono (by decide) (by decide)⟩
    show Q5 Z a1 w_a1_fromLeft w_a1_fromRight h0 n0 _ T1.heap _
    rw [e1]
    exact ⟨(by unfold f5; simp only [if_neg hc2]), N0, rfl⟩
theorem d9_0 : decode prog_30_method_8_code 0 = .ok (.aload_n 0, 1) := by decide +kernel
theorem d9_1 : decode prog_30_method_8_code 1 = .ok (.getfield 19, 3) := by decide +kernel
theorem d9_4 : decode prog_30_method_8_code 4 = .ok (.iconst (-1), 1) := by decide +kernel
theorem d9_5 : decode prog_30_method_8_code 5 = .ok (.if_icmp .eq 15, 3) := by decide +kernel
theorem d9_20 : decode prog_30_method_8_code 20 = .ok (.iconst 0, 1) := by decide +kernel
theorem d9_21 : decode prog_30_method_8_code 21 = .ok (.ireturn, 1) := by decide +kernel
theorem d9_8 : decode prog_30_method_8_code 8 = .ok (.aload_n 0, 1) := by decide +kernel
theorem d9_9 : decode prog_30_method_8_code 9 = .ok (.getfield 22, 3) := by decide +kernel
theorem d9_12 : decode prog_30_method_8_code 12 = .ok (.iconst (-1), 1) := by decide +kernel
theorem d9_13 : decode prog_30_method_8_code 13 = .ok (.if_icmp .eq 7, 3) := by decide +kernel
theorem d9_16 : decode prog_30_method_8_code 16 = .ok (.iconst 1, 1) := by decide +kernel
theorem d9_17 : decode prog_30_method_8_code 17 = .ok (.goto 4, 3) := by decide +kernel
def f9 (w_a1_fromLeft : Int32) (w_a1_fromRight : Int32) : Int32 := (if w_a1_fromLeft = (-1 : Int32) then (0 : Int32) else (if w_a1_fromRight = (-1 : Int32) then (0 : Int32) else (1 : Int32)))
def Q9 (Z : State) (a1 : Addr) (w_a1_fromLeft : Int32) (w_a1_fromRight : Int32) (h0 : Heap) (n0 : Nat) (v : Option Value) (h : Heap) (L : List Loc) : Prop := v = some (.int (f9 w_a1_fromLeft w_a1_fromRight)) ∧ Fr n0 L ∧ h = h0
theorem ef9 (m : MethodId) (x0 : Addr) : entryFrame m #[(.ref x0)] 1 = mkF m 0 #[.val (.ref x0)] [] := by first | (simp [entryFrame, mkF, argsToLocals, Value.category]; done) | rfl
set_option maxRecDepth 65536 in
set_option maxHeartbeats 16000000 in
theorem rm9 (l : Launch) (Z : State) (a0 : Array Value) (hw : ∀ d ∈ tables_1, d.before a0 Z = true) (ws : List Jvm.Cond) (a1 : Addr) (w_a1_fromLeft : Int32) (w_a1_fromRight : Int32) (h0 : Heap) (n0 : Nat) (Z0 : n0 ≤ h0.size) (F_a1_fromLeft : Fld Z h0 a1 "com/example/lectern/lectern/catalog/Franklin$Member" "fromLeft" "I" (.int w_a1_fromLeft)) (F_a1_fromRight : Fld Z h0 a1 "com/example/lectern/lectern/catalog/Franklin$Member" "fromRight" "I" (.int w_a1_fromRight)) :
    MetFree l (⟨"com/example/lectern/lectern/catalog/Franklin$Member", "slotsFull", "()Z"⟩ : MethodName) (head1 (Jvm.Cond.code (⟨"com/example/lectern/lectern/catalog/Franklin$Member", "slotsFull", "()Z"⟩ : MethodName) prog_30_method_8_code 1 (some .boolean) :: ws) ({ frames := 0, cells := 0, slots := 0, locals := 0 } : Room)) (fun a U => a = #[(.ref a1)] ∧ Z.Warmed39 U.vm ∧ U.heap = h0) (fun _ _ _ _ _ => True) (fun _ U o U' => ∃ v L, o = .returned v ∧ Q9 Z a1 w_a1_fromLeft w_a1_fromRight h0 n0 v U'.heap L ∧ FrameEnd U o U' L ({ frames := 0, cells := 0, slots := 0, locals := 0 } : Room).cells ({ frames := 0, cells := 0, slots := 0, locals := 0 } : Room).slots) := by
  refine MetFree.of_bodySF (plainFor_of_name pn2) hisR ?_
  intro p e s m args below meth c s₁ Bd hml0 hP hK
  obtain ⟨rfl, hZ, hh⟩ := hP
  have hx := Bd.exec
  have hby := Bd.bytes
  have hml : c.maxLocals = 1 := hml0
  have hown : s.vm.findClass "com/example/lectern/lectern/catalog/Franklin$Member" = some m.cls := findClass_of_methodNamed Bd.named
  have hnm := (name_of_methodNamed Bd.named Bd.method).1
  have X0 : Stand p l e ({ frames := 0, cells := 0, slots := 0, locals := 0 } : Room) s m #[(.ref a1)] below meth c s₁ [] 0 0 := Stand.of_body Bd
  have e0 : s₁.heap = h0 := by rw [← hh, Bd.state]; rfl
  have N0 := Fr.nil n0
  have K0 : Keep h0 h0 [] := Keep.refl h0 _
  refine Go.st (P := fun o U' => ∃ v L, o = .returned v ∧ Q9 Z a1 w_a1_fromLeft w_a1_fromRight h0 n0 v U'.heap L ∧ FrameEnd s o U' L ({ frames := 0, cells := 0, slots := 0, locals := 0 } : Room).cells ({ frames := 0, cells := 0, slots := 0, locals := 0 } : Room).slots) (fun t k => castTop (ef9 m a1) k) ?_
  show Go _ _ _ (s₁.setTop (mkF m 0 #[.val (.ref a1)] [])) _
  refine Go.st (fun t k => XS.aloadN X0.here hx rfl (hb hby d9_0) rfl rfl k) ?_
  obtain ⟨T1, X1, e1, st1⟩ := getF X0 hx hZ hown (host := "") (Or.inl (wd25 hw)) Via.refl e0 F_a1_fromLeft (g := (mkF m 1 #[.val (.ref a1)] [(.ref a1)])) rfl rfl (hb hby d9_1)
  refine Go.st st1 ?_
  show Go _ _ _ (T1.setTop (mkF m 4 #[.val (.ref a1)] [(.int w_a1_fromLeft)])) _
  refine Go.st (fun t k => XS.iconst X1.here hx rfl (hb hby d9_4) k) ?_
  by_cases hc2 : w_a1_fromLeft = (-1 : Int32)
  · refine Go.st (fun t k => XS.icmpYes X1.here hx rfl (pc0 := 5) (pc' := 20) rfl (hb hby d9_5) rfl (teq hc2).1 (by decide) (by decide) k) ?_
    show Go _ _ _ (T1.setTop (mkF m 20 #[.val (.ref a1)] [])) _
    refine Go.st (fun t k => XS.iconst X1.here hx rfl (hb hby d9_20) k) ?_
    obtain ⟨fs, hr, hrun, hended, hW, hsame⟩ := X1.leave (v := some (.int (0 : Int32))) (fun h => by rw [Bd.returns] at h; cases h)
    refine Go.fin (retN X1 hx (t := .boolean) Bd.returns (by simp) (hb hby d9_21) hr) hrun hended ⟨_, _, rfl, ?_, ⟨_, rfl⟩, hW, hsame.mono (by decide) (by decide)⟩
    show Q9 Z a1 w_a1_fromLeft w_a1_fromRight h0 n0 _ T1.heap _
    rw [e1]
    exact ⟨(by unfold f9; simp only [if_pos hc2]), N0, rfl⟩
  · refine Go.st (fun t k => XS.icmpNo X1.here hx rfl (hb hby d9_5) rfl (feq hc2).1 k) ?_
    show Go _ _ _ (T1.setTop (mkF m 8 #[.val (.ref a1)] [])) _
    refine Go.st (fun t k => XS.aloadN X1.here hx rfl (hb hby d9_8) rfl rfl k) ?_
    obtain ⟨T3, X3, e3, st3⟩ := getF X1 hx hZ hown (host := "") (Or.inl (wd27 hw)) Via.refl e1 F_a1_fromRight (g := (mkF m 9 #[.val (.ref a1)] [(.ref a1)])) rfl rfl (hb hby d9_9)
    refine Go.st st3 ?_
    show Go _ _ _ (T3.setTop (mkF m 12 #[.val (.ref a1)] [(.int w_a1_fromRight)])) _
    refine Go.st (fun t k => XS.iconst X3.here hx rfl (hb hby d9_12) k) ?_
    by_cases hc4 : w_a1_fromRight = (-1 : Int32)
    · refine Go.st (fun t k => XS.icmpYes X3.here hx rfl (pc0 := 13) (pc' := 20) rfl (hb hby d9_13) rfl (teq hc4).1 (by decide) (by decide) k) ?_
      show Go _ _ _ (T3.setTop (mkF m 20 #[.val (.ref a1)] [])) _
      refine Go.st (fun t k => XS.iconst X3.here hx rfl (hb hby d9_20) k) ?_
      obtain ⟨fs, hr, hrun, hended, hW, hsame⟩ := X3.leave (v := some (.int (0 : Int32))) (fun h => by rw [Bd.returns] at h; cases h)
      refine Go.fin (retN X3 hx (t := .boolean) Bd.returns (by simp) (hb hby d9_21) hr) hrun hended ⟨_, _, rfl, ?_, ⟨_, rfl⟩, hW, hsame.mono (by decide) (by decide)⟩
      show Q9 Z a1 w_a1_fromLeft w_a1_fromRight h0 n0 _ T3.heap _
      rw [e3]
      exact ⟨(by unfold f9; simp only [if_neg hc2, if_pos hc4]), N0, rfl⟩
    · refine Go.st (fun t k => XS.icmpNo X3.here hx rfl (hb hby d9_13) rfl (feq hc4).1 k) ?_
      show Go _ _ _ (T3.setTop (mkF m 16 #[.val (.ref a1)] [])) _
      refine Go.st (fun t k => XS.iconst X3.here hx rfl (hb hby d9_16) k) ?_
      refine Go.st (fun t k => XS.goto X3.here hx rfl (pc0 := 17) (pc' := 21) rfl (hb hby d9_17) (by decide) (by decide) k) ?_
      obtain ⟨fs, hr, hrun, hended, hW, hsame⟩ := X3.leave (v := some (.int (1 : Int32))) (fun h => by rw [Bd.returns] at h; cases h)
      refine Go.fin (retN X3 hx (t := .boolean) Bd.returns (by simp) (hb hby d9_21) hr) hrun hended ⟨_, _, rfl, ?_, ⟨_, rfl⟩, hW, hsame.mono (by decide) (by decide)⟩
      show Q9 Z a1 w_a1_fromLeft w_a1_fromRight h0 n0 _ T3.heap _
      rw [e3]
      exact ⟨(by unfold f9; simp only [if_neg hc2, if_neg hc4]), N0, rfl⟩
theorem d6_0 : decode prog_30_method_6_code 0 = .ok (.new 10, 3) := by decide +kernel
theorem wd39 {Z : State} {a0 : Array Value} (hw : ∀ d ∈ tables_1, d.before a0 Z = true) : (Jvm.Cond.classLink "com/example/lectern/lectern/catalog/Franklin$Member" (10 : Nat) "com/example/lectern/lectern/catalog/Franklin$Member").before a0 Z = true := hw _ (List.mem_of_getElem? (i := 39) rfl)
theorem wd2 {Z : State} {a0 : Array Value} (hw : ∀ d ∈ tables_1, d.before a0 Z = true) : (Jvm.Cond.initialized "com/example/lectern/lectern/catalog/Franklin$Member").before a0 Z = true := hw _ (List.mem_of_getElem? (i := 2) rfl)
theorem d6_3 : decode prog_30_method_6_code 3 = .ok (.dup, 1) := by decide +kernel
theorem d6_4 : decode prog_30_method_6_code 4 = .ok (.aload_n 0, 1) := by decide +kernel
theorem d6_5 : decode prog_30_method_6_code 5 = .ok (.getfield 9, 3) := by decide +kernel
theorem d6_8 : decode prog_30_method_6_code 8 = .ok (.aload_n 0, 1) := by decide +kernel
theorem d6_9 : decode prog_30_method_6_code 9 = .ok (.getfield 15, 3) := by decide +kernel
theorem d6_12 : decode prog_30_method_6_code 12 = .ok (.iconst (-1), 1) := by decide +kernel
theorem d6_13 : decode prog_30_method_6_code 13 = .ok (.iconst (-1), 1) := by decide +kernel
theorem d6_14 : decode prog_30_method_6_code 14 = .ok (.invokespecial 25, 3) := by decide +kernel
theorem wd12 {Z : State} {a0 : Array Value} (hw : ∀ d ∈ tables_1, d.before a0 Z = true) : (Jvm.Cond.code ({ cls := "com/example/lectern/lectern/catalog/Franklin$Member", name := "<init>", desc := "(Lcom/example/lectern/lectern/catalog/Franklin$Phase;III)V" } : Jvm.MethodName) prog_30_method_1_code (5 : Nat) (Option.none : Option Jvm.ClassFile.FieldType)).before a0 Z = true := hw _ (List.mem_of_getElem? (i := 12) rfl)
theorem pd1 : parseMethodDescriptor "(Lcom/example/lectern/lectern/catalog/Franklin$Phase;III)V" = some ⟨[(.object "com/example/lectern/lectern/catalog/Franklin$Phase"), .int, .int, .int], none⟩ := by decide +kernel
theorem wd11 {Z : State} {a0 : Array Value} (hw : ∀ d ∈ tables_1, d.before a0 Z = true) : (Jvm.Cond.instanceMethod ({ cls := "com/example/lectern/lectern/catalog/Franklin$Member", name := "<init>", desc := "(Lcom/example/lectern/lectern/catalog/Franklin$Phase;III)V" } : Jvm.MethodName)).before a0 Z = true := hw _ (List.mem_of_getElem? (i := 11) rfl)
theorem d6_17 : decode prog_30_method_6_code 17 = .ok (.areturn, 1) := by decide +kernel
def Q6 (Z : State) (a1 : Addr) (w_a1_phase : Addr) (w_a1_leader : Int32) (h0 : Heap) (n0 : Nat) (v : Option Value) (h : Heap) (L : List Loc) : Prop := ∃ x6_0 : Addr, v = some (.ref x6_0) ∧ Fr n0 L ∧ Keep h0 h [] ∧ n0 ≤ x6_0 ∧ h0.size ≤ x6_0 ∧ Exa Z h x6_0 "com/example/lectern/lectern/catalog/Franklin$Member" ∧ Fld Z h x6_0 "com/example/lectern/lectern/catalog/Franklin$Member" "phase" "Lcom/example/lectern/lectern/catalog/Franklin$Phase;" (.ref w_a1_phase) ∧ Fld Z h x6_0 "com/example/lectern/lectern/catalog/Franklin$Member" "leader" "I" (.int w_a1_leader) ∧ Fld Z h x6_0 "com/example/lectern/lectern/catalog/Franklin$Member" "fromLeft" "I" (.int (-1 : Int32)) ∧ Fld Z h x6_0 "com/example/lectern/lectern/catalog/Franklin$Member" "fromRight" "I" (.int (-1 : Int32))
theorem ef6 (m : MethodId) (x0 : Addr) : entryFrame m #[(.ref x0)] 1 = mkF m 0 #[.val (.ref x0)] [] := by first | (simp [entryFrame, mkF, argsToLocals, Value.category]; done) | rfl
set_option maxRecDepth 65536 in
set_option maxHeartbeats 16000000 in
theorem rm6 (l : Launch) (Z : State) (a0 : Array Value) (hw : ∀ d ∈ tables_1, d.before a0 Z = true) (ws : List Jvm.Cond) (a1 : Addr) (w_a1_phase : Addr) (w_a1_leader : Int32) (h0 : Heap) (n0 : Nat) (Z0 : n0 ≤ h0.size) (F_a1_phase : Fld Z h0 a1 "com/example/lectern/lectern/catalog/Franklin$Member" "phase" "Lcom/example/lectern/lectern/catalog/Franklin$Phase;" (.ref w_a1_phase)) (F_a1_leader : Fld Z h0 a1 "com/example/lectern/lectern/catalog/Franklin$Member" "leader" "I" (.int w_a1_leader)) :
    MetFree l (⟨"com/example/lectern/lectern/catalog/Franklin$Member", "emptied", "()Lcom/example/lectern/lectern/catalog/Franklin$Member;"⟩ : MethodName) (head1 (Jvm.Cond.code (⟨"com/example/lectern/lectern/catalog/Franklin$Member", "emptied", "()Lcom/example/lectern/lectern/catalog/Franklin$Member;"⟩ : MethodName) prog_30_method_6_code 1 (some (.object "com/example/lectern/lectern/catalog/Franklin$Member")) :: ws) ({ frames := 3, cells := 1, slots := 4, locals := 41 } : Room)) (fun a U => a = #[(.ref a1)] ∧ Z.Warmed39 U.vm ∧ U.heap = h0) (fun _ _ _ _ _ => True) (fun _ U o U' => ∃ v L, o = .returned v ∧ Q6 Z a1 w_a1_phase w_a1_leader h0 n0 v U'.heap L ∧ FrameEnd U o U' L ({ frames := 3, cells := 1, slots := 4, locals := 41 } : Room).cells ({ frames := 3, cells := 1, slots := 4, locals := 41 } : Room).slots) := by
  refine MetFree.of_bodySF (plainFor_of_name pn2) hisR ?_
  intro p e s m args below meth c s₁ Bd hml0 hP hK
  obtain ⟨rfl, hZ, hh⟩ := hP
  have hx := Bd.exec
  have hby := Bd.bytes
  have hml : c.maxLocals = 1 := hml0
  have hown : s.vm.findClass "com/example/lectern/lectern/catalog/Franklin$Member" = some m.cls := findClass_of_methodNamed Bd.named
  have hnm := (name_of_methodNamed Bd.named Bd.method).1
  have X0 : Stand p l e ({ frames := 3, cells := 1, slots := 4, locals := 41 } : Room) s m #[(.ref a1)] below meth c s₁ [] 0 0 := Stand.of_body Bd
  have e0 : s₁.heap = h0 := by rw [← hh, Bd.state]; rfl
  have N0 := Fr.nil n0
  have K0 : Keep h0 h0 [] := Keep.refl h0 _
  refine Go.st (P := fun o U' => ∃ v L, o = .returned v ∧ Q6 Z a1 w_a1_phase w_a1_leader h0 n0 v U'.heap L ∧ FrameEnd s o U' L ({ frames := 3, cells := 1, slots := 4, locals := 41 } : Room).cells ({ frames := 3, cells := 1, slots := 4, locals := 41 } : Room).slots) (fun t k => castTop (ef6 m a1) k) ?_
  show Go _ _ _ (s₁.setTop (mkF m 0 #[.val (.ref a1)] [])) _
  obtain ⟨T1, h1, X1, e1, E1, A1, D1, -, st1⟩ := newO X0 hx hZ hown (wd39 hw) (wd1 hw) (wd2 hw) e0 (g := (mkF m 0 #[.val (.ref a1)] [])) rfl (hb hby d6_0) (by decide) (by decide)
  obtain ⟨b1, g1⟩ : ∃ z, z = h0.size := ⟨_, rfl⟩
  rw [← g1] at A1 D1 st1
  refine Go.st st1 ?_
  have ne_a1_b1 : a1 ≠ b1 := Nat.ne_of_lt (Nat.lt_of_lt_of_le F_a1_phase.lt (Nat.le_of_eq g1.symm))
  have g_b1 : n0 ≤ b1 := Nat.le_trans Z0 (Nat.le_of_eq g1.symm)
  have sz_b1 : h0.size ≤ b1 := Nat.le_trans K0.1 (Nat.le_of_eq g1.symm)
  replace F_a1_phase := F_a1_phase.ext E1
  replace F_a1_leader := F_a1_leader.ext E1
  replace K0 := K0.ext E1
  replace Z0 := Nat.le_trans Z0 E1.1
  have E_b1 := A1
  have F_b1_phase : Fld Z h1 b1 "com/example/lectern/lectern/catalog/Franklin$Member" "phase" "Lcom/example/lectern/lectern/catalog/Franklin$Phase;" .null := D1 (Or.inr (wd22 hw)) (ty := (.object "com/example/lectern/lectern/catalog/Franklin$Phase")) (by decide)
  have F_b1_leader : Fld Z h1 b1 "com/example/lectern/lectern/catalog/Franklin$Member" "leader" "I" (.int (0 : Int32)) := D1 (Or.inr (wd24 hw)) (ty := .int) (by decide)
  have F_b1_fromLeft : Fld Z h1 b1 "com/example/lectern/lectern/catalog/Franklin$Member" "fromLeft" "I" (.int (0 : Int32)) := D1 (Or.inr (wd26 hw)) (ty := .int) (by decide)
  have F_b1_fromRight : Fld Z h1 b1 "com/example/lectern/lectern/catalog/Franklin$Member" "fromRight" "I" (.int (0 : Int32)) := D1 (Or.inr (wd28 hw)) (ty := .int) (by decide)
  show Go _ _ _ (T1.setTop (mkF m 3 #[.val (.ref a1)] [(.ref b1)])) _
  refine Go.st (fun t k => XS.dup X1.here hx rfl (hb hby d6_3) rfl rfl k) ?_
  refine Go.st (fun t k => XS.aloadN X1.here hx rfl (hb hby d6_4) rfl rfl k) ?_
  obtain ⟨T2, X2, e2, st2⟩ := getF X1 hx hZ hown (host := "") (Or.inl (wd21 hw)) Via.refl e1 F_a1_phase (g := (mkF m 5 #[.val (.ref a1)] [(.ref a1), (.ref b1), (.ref b1)])) rfl rfl (hb hby d6_5)
  refine Go.st st2 ?_
  show Go _ _ _ (T2.setTop (mkF m 8 #[.val (.ref a1)] [(.ref w_a1_phase), (.ref b1), (.ref b1)])) _
  refine Go.st (fun t k => XS.aloadN X2.here hx rfl (hb hby d6_8) rfl rfl k) ?_
  obtain ⟨T3, X3, e3, st3⟩ := getF X2 hx hZ hown (host := "") (Or.inl (wd23 hw)) Via.refl e2 F_a1_leader (g := (mkF m 9 #[.val (.ref a1)] [(.ref a1), (.ref w_a1_phase), (.ref b1), (.ref b1)])) rfl rfl (hb hby d6_9)
  refine Go.st st3 ?_
  show Go _ _ _ (T3.setTop (mkF m 12 #[.val (.ref a1)] [(.int w_a1_leader), (.ref w_a1_phase), (.ref b1), (.ref b1)])) _
  refine Go.st (fun t k => XS.iconst X3.here hx rfl (hb hby d6_12) k) ?_
  refine Go.st (fun t k => XS.iconst X3.here hx rfl (hb hby d6_13) k) ?_
  obtain ⟨_, _, ⟨T4, L4, k4, n4⟩, -, X4, ⟨Lc4, hQ4, l4, y4, z4⟩, st4⟩ := X3.specialBack hx (y := (⟨"com/example/lectern/lectern/catalog/Franklin$Member", "<init>", "(Lcom/example/lectern/lectern/catalog/Franklin$Phase;III)V"⟩ : MethodName)) rfl hown (mvT hZ (wd40 hw)) (mvT hZ (wd11 hw)) (mvT hZ (wd12 hw)) (by decide) (backOf (W := 1) (rm2 l Z a0 hw [] b1 w_a1_phase w_a1_leader (-1 : Int32) (-1 : Int32) (.null : Value) ((.int (0 : Int32)) : Value) ((.int (0 : Int32)) : Value) ((.int (0 : Int32)) : Value) h1 n0 Z0 E_b1 F_b1_phase F_b1_leader F_b1_fromLeft F_b1_fromRight g_b1) hZ (wd12 hw) (wd2 hw) (by decide) (by decide)) (g := (mkF m 14 #[.val (.ref a1)] [(.int (-1)), (.int (-1)), (.int w_a1_leader), (.ref w_a1_phase), (.ref b1), (.ref b1)])) rfl (by rw [hml]; rfl) (Steps.refl _) (a := b1) (argsL := [(.ref w_a1_phase), (.int w_a1_leader), (.int (-1 : Int32)), (.int (-1 : Int32))]) (rest := [(.ref b1)]) (lenOf pd1 rfl) rfl (by show 2 * 0 + _ ≤ _; exact Nat.le_of_eq rfl) (hb hby d6_14) (fun _ _ => ⟨rfl, e3, (by decide : 1 + 0 ≤ _), (by decide : 4 + 0 ≤ _)⟩)
  dsimp only [Pt.U, Pt.locs, Pt.cells, Pt.slots] at X4 l4 y4 z4 st4 hQ4
  subst l4 y4 z4
  refine Go.tr st4 ?_
  have E_b1_pre := E_b1
  have F_b1_phase_pre := F_b1_phase
  have F_b1_leader_pre := F_b1_leader
  have F_b1_fromLeft_pre := F_b1_fromLeft
  have F_b1_fromRight_pre := F_b1_fromRight
  obtain ⟨h4, e4⟩ : ∃ z, T4.heap = z := ⟨_, rfl⟩
  rw [e4] at hQ4
  obtain ⟨rfl, N4q, K4, Q4_0, Q4_1, Q4_2, Q4_3, Q4_4⟩ := hQ4
  replace F_a1_phase := F_a1_phase.keep K4 (ninS ne_a1_b1 nin0)
  replace F_a1_leader := F_a1_leader.keep K4 (ninS ne_a1_b1 nin0)
  replace E_b1 := E_b1.keep K4
  replace Z0 := Nat.le_trans Z0 K4.1
  replace K0 := K0.trans K4 (allS (Or.inr sz_b1) all0)
  have E_b1 := Q4_0
  have F_b1_phase := Q4_1
  have F_b1_leader := Q4_2
  have F_b1_fromLeft := Q4_3
  have F_b1_fromRight := Q4_4
  have N4 := Fr.app N0 N4q
  show Go _ _ _ (T4.setTop (mkF m 17 #[.val (.ref a1)] [(.ref b1)])) _
  obtain ⟨fs, hr, hrun, hended, hW, hsame⟩ := X4.leave (v := some (.ref b1)) (fun h => by rw [Bd.returns] at h; cases h)
  refine Go.fin (retOut X4 hx Bd.returns rfl (Or.inr (Or.inr (Or.inr (Or.inr ⟨rfl, rfl, rfl⟩)))) (hb hby d6_17) hr) hrun hended ⟨_, _, rfl, ?_, ⟨_, rfl⟩, hW, hsame.mono (by decide) (by decide)⟩
  show Q6 Z a1 w_a1_phase w_a1_leader h0 n0 _ T4.heap _
  rw [e4]
  exact ⟨b1, rfl, N4, K0, g_b1, sz_b1, E_b1, F_b1_phase, F_b1_leader, F_b1_fromLeft, F_b1_fromRight⟩
theorem d7_0 : decode prog_30_method_4_code 0 = .ok (.new 10, 3) := by decide +kernel
theorem d7_3 : decode prog_30_method_4_code 3 = .ok (.dup, 1) := by decide +kernel
theorem d7_4 : decode prog_30_method_4_code 4 = .ok (.aload_n 0, 1) := by decide +kernel
theorem d7_5 : decode prog_30_method_4_code 5 = .ok (.getfield 9, 3) := by decide +kernel
theorem d7_8 : decode prog_30_method_4_code 8 = .ok (.aload_n 0, 1) := by decide +kernel
theorem d7_9 : decode prog_30_method_4_code 9 = .ok (.getfield 15, 3) := by decide +kernel
theorem d7_12 : decode prog_30_method_4_code 12 = .ok (.iload_n 1, 1) := by decide +kernel
theorem d7_13 : decode prog_30_method_4_code 13 = .ok (.aload_n 0, 1) := by decide +kernel
theorem d7_14 : decode prog_30_method_4_code 14 = .ok (.getfield 22, 3) := by decide +kernel
theorem d7_17 : decode prog_30_method_4_code 17 = .ok (.invokespecial 25, 3) := by decide +kernel
theorem d7_20 : decode prog_30_method_4_code 20 = .ok (.areturn, 1) := by decide +kernel
def Q7 (Z : State) (a1 : Addr) (p2 : Int32) (w_a1_phase : Addr) (w_a1_leader : Int32) (w_a1_fromRight : Int32) (h0 : Heap) (n0 : Nat) (v : Option Value) (h : Heap) (L : List Loc) : Prop := ∃ x7_0 : Addr, v = some (.ref x7_0) ∧ Fr n0 L ∧ Keep h0 h [] ∧ n0 ≤ x7_0 ∧ h0.size ≤ x7_0 ∧ Exa Z h x7_0 "com/example/lectern/lectern/catalog/Franklin$Member" ∧ Fld Z h x7_0 "com/example/lectern/lectern/catalog/Franklin$Member" "phase" "Lcom/example/lectern/lectern/catalog/Franklin$Phase;" (.ref w_a1_phase) ∧ Fld Z h x7_0 "com/example/lectern/lectern/catalog/Franklin$Member" "leader" "I" (.int w_a1_leader) ∧ Fld Z h x7_0 "com/example/lectern/lectern/catalog/Franklin$Member" "fromLeft" "I" (.int p2) ∧ Fld Z h x7_0 "com/example/lectern/lectern/catalog/Franklin$Member" "fromRight" "I" (.int w_a1_fromRight)
theorem ef7 (m : MethodId) (x0 : Addr) (x1 : Int32) : entryFrame m #[(.ref x0), (.int x1)] 2 = mkF m 0 #[.val (.ref x0), .val (.int x1)] [] := by first | (simp [entryFrame, mkF, argsToLocals, Value.category]; done) | rfl
set_option maxRecDepth 65536 in
set_option maxHeartbeats 16000000 in
theorem rm7 (l : Launch) (Z : State) (a0 : Array Value) (hw : ∀ d ∈ tables_1, d.before a0 Z = true) (ws : List Jvm.Cond) (a1 : Addr) (p2 : Int32) (w_a1_phase : Addr) (w_a1_leader : Int32) (w_a1_fromRight : Int32) (h0 : Heap) (n0 : Nat) (Z0 : n0 ≤ h0.size) (F_a1_phase : Fld Z h0 a1 "com/example/lectern/lectern/catalog/Franklin$Member" "phase" "Lcom/example/lectern/lectern/catalog/Franklin$Phase;" (.ref w_a1_phase)) (F_a1_leader : Fld Z h0 a1 "com/example/lectern/lectern/catalog/Franklin$Member" "leader" "I" (.int w_a1_leader)) (F_a1_fromRight : Fld Z h0 a1 "com/example/lectern/lectern/catalog/Franklin$Member" "fromRight" "I" (.int w_a1_fromRight)) :
    MetFree l (⟨"com/example/lectern/lectern/catalog/Franklin$Member", "takenFromLeft", "(I)Lcom/example/lectern/lectern/catalog/Franklin$Member;"⟩ : MethodName) (head1 (Jvm.Cond.code (⟨"com/example/lectern/lectern/catalog/Franklin$Member", "takenFromLeft", "(I)Lcom/example/lectern/lectern/catalog/Franklin$Member;"⟩ : MethodName) prog_30_method_4_code 2 (some (.object "com/example/lectern/lectern/catalog/Franklin$Member")) :: ws) ({ frames := 3, cells := 1, slots := 4, locals := 41 } : Room)) (fun a U => a = #[(.ref a1), (.int p2)] ∧ Z.Warmed39 U.vm ∧ U.heap = h0) (fun _ _ _ _ _ => True) (fun _ U o U' => ∃ v L, o = .returned v ∧ Q7 Z a1 p2 w_a1_phase w_a1_leader w_a1_fromRight h0 n0 v U'.heap L ∧ FrameEnd U o U' L ({ frames := 3, cells := 1, slots := 4, locals := 41 } : Room).cells ({ frames := 3, cells := 1, slots := 4, locals := 41 } : Room).slots) := by
  refine MetFree.of_bodySF (plainFor_of_name pn2) hisR ?_
  intro p e s m args below meth c s₁ Bd hml0 hP hK
  obtain ⟨rfl, hZ, hh⟩ := hP
  have hx := Bd.exec
  have hby := Bd.bytes
  have hml : c.maxLocals = 2 := hml0
  have hown : s.vm.findClass "com/example/lectern/lectern/catalog/Franklin$Member" = some m.cls := findClass_of_methodNamed Bd.named
  have hnm := (name_of_methodNamed Bd.named Bd.method).1
  have X0 : Stand p l e ({ frames := 3, cells := 1, slots := 4, locals := 41 } : Room) s m #[(.ref a1), (.int p2)] below meth c s₁ [] 0 0 := Stand.of_body Bd
  have e0 : s₁.heap = h0 := by rw [← hh, Bd.state]; rfl
  have N0 := Fr.nil n0
  have K0 : Keep h0 h0 [] := Keep.refl h0 _
  refine Go.st (P := fun o U' => ∃ v L, o = .returned v ∧ Q7 Z a1 p2 w_a1_phase w_a1_leader w_a1_fromRight h0 n0 v U'.heap L ∧ FrameEnd s o U' L ({ frames := 3, cells := 1, slots := 4, locals := 41 } : Room).cells ({ frames := 3, cells := 1, slots := 4, locals := 41 } : Room).slots) (fun t k => castTop (ef7 m a1 p2) k) ?_
  show Go _ _ _ (s₁.setTop (mkF m 0 #[.val (.ref a1), .val (.int p2)] [])) _
  obtain ⟨T1, h1, X1, e1, E1, A1, D1, -, st1⟩ := newO X0 hx hZ hown (wd39 hw) (wd1 hw) (wd2 hw) e0 (g := (mkF m 0 #[.val (.ref a1), .val (.int p2)] [])) rfl (hb hby d7_0) (by decide) (by decide)
  obtain ⟨b1, g1⟩ : ∃ z, z = h0.size := ⟨_, rfl⟩
  rw [← g1] at A1 D1 st1
  refine Go.st st1 ?_
  have ne_a1_b1 : a1 ≠ b1 := Nat.ne_of_lt (Nat.lt_of_lt_of_le F_a1_phase.lt (Nat.le_of_eq g1.symm))
  have g_b1 : n0 ≤ b1 := Nat.le_trans Z0 (Nat.le_of_eq g1.symm)
  have sz_b1 : h0.size ≤ b1 := Nat.le_trans K0.1 (Nat.le_of_eq g1.symm)
  replace F_a1_phase := F_a1_phase.ext E1
  replace F_a1_leader := F_a1_leader.ext E1
  replace F_a1_fromRight := F_a1_fromRight.ext E1
  replace K0 := K0.ext E1
  replace Z0 := Nat.le_trans Z0 E1.1
  have E_b1 := A1
  have F_b1_phase : Fld Z h1 b1 "com/example/lectern/lectern/catalog/Franklin$Member" "phase" "Lcom/example/lectern/lectern/catalog/Franklin$Phase;" .null := D1 (Or.inr (wd22 hw)) (ty := (.object "com/example/lectern/lectern/catalog/Franklin$Phase")) (by decide)
  have F_b1_leader : Fld Z h1 b1 "com/example/lectern/lectern/catalog/Franklin$Member" "leader" "I" (.int (0 : Int32)) := D1 (Or.inr (wd24 hw)) (ty := .int) (by decide)
  have F_b1_fromLeft : Fld Z h1 b1 "com/example/lectern/lectern/catalog/Franklin$Member" "fromLeft" "I" (.int (0 : Int32)) := D1 (Or.inr (wd26 hw)) (ty := .int) (by decide)
  have F_b1_fromRight : Fld Z h1 b1 "com/example/lectern/lectern/catalog/Franklin$Member" "fromRight" "I" (.int (0 : Int32)) := D1 (Or.inr (wd28 hw)) (ty := .int) (by decide)
  show Go _ _ _ (T1.setTop (mkF m 3 #[.val (.ref a1), .val (.int p2)] [(.ref b1)])) _
  refine Go.st (fun t k => XS.dup X1.here hx rfl (hb hby d7_3) rfl rfl k) ?_
  refine Go.st (fun t k => XS.aloadN X1.here hx rfl (hb hby d7_4) rfl rfl k) ?_
  obtain ⟨T2, X2, e2, st2⟩ := getF X1 hx hZ hown (host := "") (Or.inl (wd21 hw)) Via.refl e1 F_a1_phase (g := (mkF m 5 #[.val (.ref a1), .val (.int p2)] [(.ref a1), (.ref b1), (.ref b1)])) rfl rfl (hb hby d7_5)
  refine Go.st st2 ?_
  show Go _ _ _ (T2.setTop (mkF m 8 #[.val (.ref a1), .val (.int p2)] [(.ref w_a1_phase), (.ref b1), (.ref b1)])) _
  refine Go.st (fun t k => XS.aloadN X2.here hx rfl (hb hby d7_8) rfl rfl k) ?_
  obtain ⟨T3, X3, e3, st3⟩ := getF X2 hx hZ hown (host := "") (Or.inl (wd23 hw)) Via.refl e2 F_a1_leader (g := (mkF m 9 #[.val (.ref a1), .val (.int p2)] [(.ref a1), (.ref w_a1_phase), (.ref b1), (.ref b1)])) rfl rfl (hb hby d7_9)
  refine Go.st st3 ?_
  show Go _ _ _ (T3.setTop (mkF m 12 #[.val (.ref a1), .val (.int p2)] [(.int w_a1_leader), (.ref w_a1_phase), (.ref b1), (.ref b1)])) _
  refine Go.st (fun t k => XS.iloadN X3.here hx rfl (hb hby d7_12) rfl k) ?_
  refine Go.st (fun t k => XS.aloadN X3.here hx rfl (hb hby d7_13) rfl rfl k) ?_
  obtain ⟨T4, X4, e4, st4⟩ := getF X3 hx hZ hown (host := "") (Or.inl (wd27 hw)) Via.refl e3 F_a1_fromRight (g := (mkF m 14 #[.val (.ref a1), .val (.int p2)] [(.ref a1), (.int p2), (.int w_a1_leader), (.ref w_a1_phase), (.ref b1), (.ref b1)])) rfl rfl (hb hby d7_14)
  refine Go.st st4 ?_
  show Go _ _ _ (T4.setTop (mkF m 17 #[.val (.ref a1), .val (.int p2)] [(.int w_a1_fromRight), (.int p2), (.int w_a1_leader), (.ref w_a1_phase), (.ref b1), (.ref b1)])) _
  obtain ⟨_, _, ⟨T5, L5, k5, n5⟩, -, X5, ⟨Lc5, hQ5, l5, y5, z5⟩, st5⟩ := X4.specialBack hx (y := (⟨"com/example/lectern/lectern/catalog/Franklin$Member", "<init>", "(Lcom/example/lectern/lectern/catalog/Franklin$Phase;III)V"⟩ : MethodName)) rfl hown (mvT hZ (wd40 hw)) (mvT hZ (wd11 hw)) (mvT hZ (wd12 hw)) (by decide) (backOf (W := 1) (rm2 l Z a0 hw [] b1 w_a1_phase w_a1_leader p2 w_a1_fromRight (.null : Value) ((.int (0 : Int32)) : Value) ((.int (0 : Int32)) : Value) ((.int (0 : Int32)) : Value) h1 n0 Z0 E_b1 F_b1_phase F_b1_leader F_b1_fromLeft F_b1_fromRight g_b1) hZ (wd12 hw) (wd2 hw) (by decide) (by decide)) (g := (mkF m 17 #[.val (.ref a1), .val (.int p2)] [(.int w_a1_fromRight), (.int p2), (.int w_a1_leader), (.ref w_a1_phase), (.ref b1), (.ref b1)])) rfl (by rw [hml]; rfl) (Steps.refl _) (a := b1) (argsL := [(.ref w_a1_phase), (.int w_a1_leader), (.int p2), (.int w_a1_fromRight)]) (rest := [(.ref b1)]) (lenOf pd1 rfl) rfl (by show 2 * 0 + _ ≤ _; exact Nat.le_of_eq rfl) (hb hby d7_17) (fun _ _ => ⟨rfl, e4, (by decide : 1 + 0 ≤ _), (by decide : 4 + 0 ≤ _)⟩)
  dsimp only [Pt.U, Pt.locs, Pt.cells, Pt.slots] at X5 l5 y5 z5 st5 hQ5
  subst l5 y5 z5
  refine Go.tr st5 ?_
  have E_b1_pre := E_b1
  have F_b1_phase_pre := F_b1_phase
  have F_b1_leader_pre := F_b1_leader
  have F_b1_fromLeft_pre := F_b1_fromLeft
  have F_b1_fromRight_pre := F_b1_fromRight
  obtain ⟨h5, e5⟩ : ∃ z, T5.heap = z := ⟨_, rfl⟩
  rw [e5] at hQ5
  obtain ⟨rfl, N5q, K5, Q5_0, Q5_1, Q5_2, Q5_3, Q5_4⟩ := hQ5
  replace F_a1_phase := F_a1_phase.keep K5 (ninS ne_a1_b1 nin0)
  replace F_a1_leader := F_a1_leader.keep K5 (ninS ne_a1_b1 nin0)
  replace F_a1_fromRight := F_a1_fromRight.keep K5 (ninS ne_a1_b1 nin0)
  replace E_b1 := E_b1.keep K5
  replace Z0 := Nat.le_trans Z0 K5.1
  replace K0 := K0.trans K5 (allS (Or.inr sz_b1) all0)
  have E_b1 := Q5_0
  have F_b1_phase := Q5_1
  have F_b1_leader := Q5_2
  have F_b1_fromLeft := Q5_3
  have F_b1_fromRight := Q5_4
  have N5 := Fr.app N0 N5q
  show Go _ _ _ (T5.setTop (mkF m 20 #[.val (.ref a1), .val (.int p2)] [(.ref b1)])) _
  obtain ⟨fs, hr, hrun, hended, hW, hsame⟩ := X5.leave (v := some (.ref b1)) (fun h => by rw [Bd.returns] at h; cases h)
  refine Go.fin (retOut X5 hx Bd.returns rfl (Or.inr (Or.inr (Or.inr (Or.inr ⟨rfl, rfl, rfl⟩)))) (hb hby d7_20) hr) hrun hended ⟨_, _, rfl, ?_, ⟨_, rfl⟩, hW, hsame.mono (by decide) (by decide)⟩
  show Q7 Z a1 p2 w_a1_phase w_a1_leader w_a1_fromRight h0 n0 _ T5.heap _
  rw [e5]
  exact ⟨b1, rfl, N5, K0, g_b1, sz_b1, E_b1, F_b1_phase, F_b1_leader, F_b1_fromLeft, F_b1_fromRight⟩
theorem d8_0 : decode prog_30_method_5_code 0 = .ok (.new 10, 3) := by decide +kernel
theorem d8_3 : decode prog_30_method_5_code 3 = .ok (.dup, 1) := by decide +kernel
theorem d8_4 : decode prog_30_method_5_code 4 = .ok (.aload_n 0, 1) := by decide +kernel
theorem d8_5 : decode prog_30_method_5_code 5 = .ok (.getfield 9, 3) := by decide +kernel
theorem d8_8 : decode prog_30_method_5_code 8 = .ok (.aload_n 0, 1) := by decide +kernel
theorem d8_9 : decode prog_30_method_5_code 9 = .ok (.getfield 15, 3) := by decide +kernel
theorem d8_12 : decode prog_30_method_5_code 12 = .ok (.aload_n 0, 1) := by decide +kernel
theorem d8_13 : decode prog_30_method_5_code 13 = .ok (.getfield 19, 3) := by decide +kernel
theorem d8_16 : decode prog_30_method_5_code 16 = .ok (.iload_n 1, 1) := by decide +kernel
theorem d8_17 : decode prog_30_method_5_code 17 = .ok (.invokespecial 25, 3) := by decide +kernel
theorem d8_20 : decode prog_30_method_5_code 20 = .ok (.areturn, 1) := by decide +kernel
def Q8 (Z : State) (a1 : Addr) (p2 : Int32) (w_a1_phase : Addr) (w_a1_leader : Int32) (w_a1_fromLeft : Int32) (h0 : Heap) (n0 : Nat) (v : Option Value) (h : Heap) (L : List Loc) : Prop := ∃ x8_0 : Addr, v = some (.ref x8_0) ∧ Fr n0 L ∧ Keep h0 h [] ∧ n0 ≤ x8_0 ∧ h0.size ≤ x8_0 ∧ Exa Z h x8_0 "com/example/lectern/lectern/catalog/Franklin$Member" ∧ Fld Z h x8_0 "com/example/lectern/lectern/catalog/Franklin$Member" "phase" "Lcom/example/lectern/lectern/catalog/Franklin$Phase;" (.ref w_a1_phase) ∧ Fld Z h x8_0 "com/example/lectern/lectern/catalog/Franklin$Member" "leader" "I" (.int w_a1_leader) ∧ Fld Z h x8_0 "com/example/lectern/lectern/catalog/Franklin$Member" "fromLeft" "I" (.int w_a1_fromLeft) ∧ Fld Z h x8_0 "com/example/lectern/lectern/catalog/Franklin$Member" "fromRight" "I" (.int p2)
theorem ef8 (m : MethodId) (x0 : Addr) (x1 : Int32) : entryFrame m #[(.ref x0), (.int x1)] 2 = mkF m 0 #[.val (.ref x0), .val (.int x1)] [] := by first | (simp [entryFrame, mkF, argsToLocals, Value.category]; done) | rfl
set_option maxRecDepth 65536 in
set_option maxHeartbeats 16000000 in
theorem rm8 (l : Launch) (Z : State) (a0 : Array Value) (hw : ∀ d ∈ tables_1, d.before a0 Z = true) (ws : List Jvm.Cond) (a1 : Addr) (p2 : Int32) (w_a1_phase : Addr) (w_a1_leader : Int32) (w_a1_fromLeft : Int32) (h0 : Heap) (n0 : Nat) (Z0 : n0 ≤ h0.size) (F_a1_phase : Fld Z h0 a1 "com/example/lectern/lectern/catalog/Franklin$Member" "phase" "Lcom/example/lectern/lectern/catalog/Franklin$Phase;" (.ref w_a1_phase)) (F_a1_leader : Fld Z h0 a1 "com/example/lectern/lectern/catalog/Franklin$Member" "leader" "I" (.int w_a1_leader)) (F_a1_fromLeft : Fld Z h0 a1 "com/example/lectern/lectern/catalog/Franklin$Member" "fromLeft" "I" (.int w_a1_fromLeft)) :
    MetFree l (⟨"com/example/lectern/lectern/catalog/Franklin$Member", "takenFromRight", "(I)Lcom/example/lectern/lectern/catalog/Franklin$Member;"⟩ : MethodName) (head1 (Jvm.Cond.code (⟨"com/example/lectern/lectern/catalog/Franklin$Member", "takenFromRight", "(I)Lcom/example/lectern/lectern/catalog/Franklin$Member;"⟩ : MethodName) prog_30_method_5_code 2 (some (.object "com/example/lectern/lectern/catalog/Franklin$Member")) :: ws) ({ frames := 3, cells := 1, slots := 4, locals := 41 } : Room)) (fun a U => a = #[(.ref a1), (.int p2)] ∧ Z.Warmed39 U.vm ∧ U.heap = h0) (fun _ _ _ _ _ => True) (fun _ U o U' => ∃ v L, o = .returned v ∧ Q8 Z a1 p2 w_a1_phase w_a1_leader w_a1_fromLeft h0 n0 v U'.heap L ∧ FrameEnd U o U' L ({ frames := 3, cells := 1, slots := 4, locals := 41 } : Room).cells ({ frames := 3, cells := 1, slots := 4, locals := 41 } : Room).slots) := by
  refine MetFree.of_bodySF (plainFor_of_name pn2) hisR ?_
  intro p e s m args below meth c s₁ Bd hml0 hP hK
  obtain ⟨rfl, hZ, hh⟩ := hP
  have hx := Bd.exec
  have hby := Bd.bytes
  have hml : c.maxLocals = 2 := hml0
  have hown : s.vm.findClass "com/example/lectern/lectern/catalog/Franklin$Member" = some m.cls := findClass_of_methodNamed Bd.named
  have hnm := (name_of_methodNamed Bd.named Bd.method).1
  have X0 : Stand p l e ({ frames := 3, cells := 1, slots := 4, locals := 41 } : Room) s m #[(.ref a1), (.int p2)] below meth c s₁ [] 0 0 := Stand.of_body Bd
  have e0 : s₁.heap = h0 := by rw [← hh, Bd.state]; rfl
  have N0 := Fr.nil n0
  have K0 : Keep h0 h0 [] := Keep.refl h0 _
  refine Go.st (P := fun o U' => ∃ v L, o = .returned v ∧ Q8 Z a1 p2 w_a1_phase w_a1_leader w_a1_fromLeft h0 n0 v U'.heap L ∧ FrameEnd s o U' L ({ frames := 3, cells := 1, slots := 4, locals := 41 } : Room).cells ({ frames := 3, cells := 1, slots := 4, locals := 41 } : Room).slots) (fun t k => castTop (ef8 m a1 p2) k) ?_
  show Go _ _ _ (s₁.setTop (mkF m 0 #[.val (.ref a1), .val (.int p2)] [])) _
  obtain ⟨T1, h1, X1, e1, E1, A1, D1, -, st1⟩ := newO X0 hx hZ hown (wd39 hw) (wd1 hw) (wd2 hw) e0 (g := (mkF m 0 #[.val (.ref a1), .val (.int p2)] [])) rfl (hb hby d8_0) (by decide) (by decide)
  obtain ⟨b1, g1⟩ : ∃ z, z = h0.size := ⟨_, rfl⟩
  rw [← g1] at A1 D1 st1
  refine Go.st st1 ?_
  have ne_a1_b1 : a1 ≠ b1 := Nat.ne_of_lt (Nat.lt_of_lt_of_le F_a1_phase.lt (Nat.le_of_eq g1.symm))
  have g_b1 : n0 ≤ b1 := Nat.le_trans Z0 (Nat.le_of_eq g1.symm)
  have sz_b1 : h0.size ≤ b1 := Nat.le_trans K0.1 (Nat.le_of_eq g1.symm)
  replace F_a1_phase := F_a1_phase.ext E1
  replace F_a1_leader := F_a1_leader.ext E1
  replace F_a1_fromLeft := F_a1_fromLeft.ext E1
  replace K0 := K0.ext E1
  replace Z0 := Nat.le_trans Z0 E1.1
  have E_b1 := A1
  have F_b1_phase : Fld Z h1 b1 "com/example/lectern/lectern/catalog/Franklin$Member" "phase" "Lcom/example/lectern/lectern/catalog/Franklin$Phase;" .null := D1 (Or.inr (wd22 hw)) (ty := (.object "com/example/lectern/lectern/catalog/Franklin$Phase")) (by decide)
  have F_b1_leader : Fld Z h1 b1 "com/example/lectern/lectern/catalog/Franklin$Member" "leader" "I" (.int (0 : Int32)) := D1 (Or.inr (wd24 hw)) (ty := .int) (by decide)
  have F_b1_fromLeft : Fld Z h1 b1 "com/example/lectern/lectern/catalog/Franklin$Member" "fromLeft" "I" (.int (0 : Int32)) := D1 (Or.inr (wd26 hw)) (ty := .int) (by decide)
  have F_b1_fromRight : Fld Z h1 b1 "com/example/lectern/lectern/catalog/Franklin$Member" "fromRight" "I" (.int (0 : Int32)) := D1 (Or.inr (wd28 hw)) (ty := .int) (by decide)
  show Go _ _ _ (T1.setTop (mkF m 3 #[.val (.ref a1), .val (.int p2)] [(.ref b1)])) _
  refine Go.st (fun t k => XS.dup X1.here hx rfl (hb hby d8_3) rfl rfl k) ?_
  refine Go.st (fun t k => XS.aloadN X1.here hx rfl (hb hby d8_4) rfl rfl k) ?_
  obtain ⟨T2, X2, e2, st2⟩ := getF X1 hx hZ hown (host := "") (Or.inl (wd21 hw)) Via.refl e1 F_a1_phase (g := (mkF m 5 #[.val (.ref a1), .val (.int p2)] [(.ref a1), (.ref b1), (.ref b1)])) rfl rfl (hb hby d8_5)
  refine Go.st st2 ?_
  show Go _ _ _ (T2.setTop (mkF m 8 #[.val (.ref a1), .val (.int p2)] [(.ref w_a1_phase), (.ref b1), (.ref b1)])) _
  refine Go.st (fun t k => XS.aloadN X2.here hx rfl (hb hby d8_8) rfl rfl k) ?_
  obtain ⟨T3, X3, e3, st3⟩ := getF X2 hx hZ hown (host := "") (Or.inl (wd23 hw)) Via.refl e2 F_a1_leader (g := (mkF m 9 #[.val (.ref a1), .val (.int p2)] [(.ref a1), (.ref w_a1_phase), (.ref b1), (.ref b1)])) rfl rfl (hb hby d8_9)
  refine Go.st st3 ?_
  show Go _ _ _ (T3.setTop (mkF m 12 #[.val (.ref a1), .val (.int p2)] [(.int w_a1_leader), (.ref w_a1_phase), (.ref b1), (.ref b1)])) _
  refine Go.st (fun t k => XS.aloadN X3.here hx rfl (hb hby d8_12) rfl rfl k) ?_
  obtain ⟨T4, X4, e4, st4⟩ := getF X3 hx hZ hown (host := "") (Or.inl (wd25 hw)) Via.refl e3 F_a1_fromLeft (g := (mkF m 13 #[.val (.ref a1), .val (.int p2)] [(.ref a1), (.int w_a1_leader), (.ref w_a1_phase), (.ref b1), (.ref b1)])) rfl rfl (hb hby d8_13)
  refine Go.st st4 ?_
  show Go _ _ _ (T4.setTop (mkF m 16 #[.val (.ref a1), .val (.int p2)] [(.int w_a1_fromLeft), (.int w_a1_leader), (.ref w_a1_phase), (.ref b1), (.ref b1)])) _
  refine Go.st (fun t k => XS.iloadN X4.here hx rfl (hb hby d8_16) rfl k) ?_
  obtain ⟨_, _, ⟨T5, L5, k5, n5⟩, -, X5, ⟨Lc5, hQ5, l5, y5, z5⟩, st5⟩ := X4.specialBack hx (y := (⟨"com/example/lectern/lectern/catalog/Franklin$Member", "<init>", "(Lcom/example/lectern/lectern/catalog/Franklin$Phase;III)V"⟩ : MethodName)) rfl hown (mvT hZ (wd40 hw)) (mvT hZ (wd11 hw)) (mvT hZ (wd12 hw)) (by decide) (backOf (W := 1) (rm2 l Z a0 hw [] b1 w_a1_phase w_a1_leader w_a1_fromLeft p2 (.null : Value) ((.int (0 : Int32)) : Value) ((.int (0 : Int32)) : Value) ((.int (0 : Int32)) : Value) h1 n0 Z0 E_b1 F_b1_phase F_b1_leader F_b1_fromLeft F_b1_fromRight g_b1) hZ (wd12 hw) (wd2 hw) (by decide) (by decide)) (g := (mkF m 17 #[.val (.ref a1), .val (.int p2)] [(.int p2), (.int w_a1_fromLeft), (.int w_a1_leader), (.ref w_a1_phase), (.ref b1), (.ref b1)])) rfl (by rw [hml]; rfl) (Steps.refl _) (a := b1) (argsL := [(.ref w_a1_phase), (.int w_a1_leader), (.int w_a1_fromLeft), (.int p2)]) (rest := [(.ref b1)]) (lenOf pd1 rfl) rfl (by show 2 * 0 + _ ≤ _; exact Nat.le_of_eq rfl) (hb hby d8_17) (fun _ _ => ⟨rfl, e4, (by decide : 1 + 0 ≤ _), (by decide : 4 + 0 ≤ _)⟩)
  dsimp only [Pt.U, Pt.locs, Pt.cells, Pt.slots] at X5 l5 y5 z5 st5 hQ5
  subst l5 y5 z5
  refine Go.tr st5 ?_
  have E_b1_pre := E_b1
  have F_b1_phase_pre := F_b1_phase
  have F_b1_leader_pre := F_b1_leader
  have F_b1_fromLeft_pre := F_b1_fromLeft
  have F_b1_fromRight_pre := F_b1_fromRight
  obtain ⟨h5, e5⟩ : ∃ z, T5.heap = z := ⟨_, rfl⟩
  rw [e5] at hQ5
  obtain ⟨rfl, N5q, K5, Q5_0, Q5_1, Q5_2, Q5_3, Q5_4⟩ := hQ5
  replace F_a1_phase := F_a1_phase.keep K5 (ninS ne_a1_b1 nin0)
  replace F_a1_leader := F_a1_leader.keep K5 (ninS ne_a1_b1 nin0)
  replace F_a1_fromLeft := F_a1_fromLeft.keep K5 (ninS ne_a1_b1 nin0)
  replace E_b1 := E_b1.keep K5
  replace Z0 := Nat.le_trans Z0 K5.1
  replace K0 := K0.trans K5 (allS (Or.inr sz_b1) all0)
  have E_b1 := Q5_0
  have F_b1_phase := Q5_1
  have F_b1_leader := Q5_2
  have F_b1_fromLeft := Q5_3
  have F_b1_fromRight := Q5_4
  have N5 := Fr.app N0 N5q
  show Go _ _ _ (T5.setTop (mkF m 20 #[.val (.ref a1), .val (.int p2)] [(.ref b1)])) _
  obtain ⟨fs, hr, hrun, hended, hW, hsame⟩ := X5.leave (v := some (.ref b1)) (fun h => by rw [Bd.returns] at h; cases h)
  refine Go.fin (retOut X5 hx Bd.returns rfl (Or.inr (Or.inr (Or.inr (Or.inr ⟨rfl, rfl, rfl⟩)))) (hb hby d8_20) hr) hrun hended ⟨_, _, rfl, ?_, ⟨_, rfl⟩, hW, hsame.mono (by decide) (by decide)⟩
  show Q8 Z a1 p2 w_a1_phase w_a1_leader w_a1_fromLeft h0 n0 _ T5.heap _
  rw [e5]
  exact ⟨b1, rfl, N5, K0, g_b1, sz_b1, E_b1, F_b1_phase, F_b1_leader, F_b1_fromLeft, F_b1_fromRight⟩
theorem wd0 {Z : State} {a0 : Array Value} (hw : ∀ d ∈ tables_1, d.before a0 Z = true) : (Jvm.Cond.classLink "com/example/lectern/lectern/catalog/MemberSlotsEmptyPinLaw" (22 : Nat) "com/example/lectern/lectern/catalog/Franklin$Member").before a0 Z = true := hw _ (List.mem_of_getElem? (i := 0) rfl)
theorem wd6 {Z : State} {a0 : Array Value} (hw : ∀ d ∈ tables_1, d.before a0 Z = true) : (Jvm.Cond.code ({ cls := "com/example/lectern/lectern/catalog/MemberSlotsEmptyPinLaw", name := "phase", desc := "(I)Lcom/example/lectern/lectern/catalog/Franklin$Phase;" } : Jvm.MethodName) method_2_code (2 : Nat) (Option.some (Jvm.ClassFile.FieldType.object "com/example/lectern/lectern/catalog/Franklin$Phase"))).before a0 Z = true := hw _ (List.mem_of_getElem? (i := 6) rfl)
theorem wd5 {Z : State} {a0 : Array Value} (hw : ∀ d ∈ tables_1, d.before a0 Z = true) : (Jvm.Cond.initialized "com/example/lectern/lectern/catalog/MemberSlotsEmptyPinLaw").before a0 Z = true := hw _ (List.mem_of_getElem? (i := 5) rfl)
theorem pd2 : parseMethodDescriptor "(I)Lcom/example/lectern/lectern/catalog/Franklin$Phase;" = some ⟨[.int], some (.object "com/example/lectern/lectern/catalog/Franklin$Phase")⟩ := by decide +kernel
theorem wd4 {Z : State} {a0 : Array Value} (hw : ∀ d ∈ tables_1, d.before a0 Z = true) : (Jvm.Cond.static ({ cls := "com/example/lectern/lectern/catalog/MemberSlotsEmptyPinLaw", name := "phase", desc := "(I)Lcom/example/lectern/lectern/catalog/Franklin$Phase;" } : Jvm.MethodName)).before a0 Z = true := hw _ (List.mem_of_getElem? (i := 4) rfl)
theorem wd33 {Z : State} {a0 : Array Value} (hw : ∀ d ∈ tables_1, d.before a0 Z = true) : (Jvm.Cond.code ({ cls := "com/example/lectern/lectern/catalog/Franklin$Member", name := "slotsEmpty", desc := "()Z" } : Jvm.MethodName) prog_30_method_7_code (1 : Nat) (Option.some Jvm.ClassFile.FieldType.boolean)).before a0 Z = true := hw _ (List.mem_of_getElem? (i := 33) rfl)
theorem pd3 : parseMethodDescriptor "()Z" = some ⟨[], some .boolean⟩ := by decide +kernel
theorem wd32 {Z : State} {a0 : Array Value} (hw : ∀ d ∈ tables_1, d.before a0 Z = true) : (Jvm.Cond.selects "com/example/lectern/lectern/catalog/Franklin$Member" ({ cls := "com/example/lectern/lectern/catalog/Franklin$Member", name := "slotsEmpty", desc := "()Z" } : Jvm.MethodName) ({ cls := "com/example/lectern/lectern/catalog/Franklin$Member", name := "slotsEmpty", desc := "()Z" } : Jvm.MethodName)).before a0 Z = true := hw _ (List.mem_of_getElem? (i := 32) rfl)
theorem wd30 {Z : State} {a0 : Array Value} (hw : ∀ d ∈ tables_1, d.before a0 Z = true) : (Jvm.Cond.declares ({ cls := "com/example/lectern/lectern/catalog/Franklin$Member", name := "slotsEmpty", desc := "()Z" } : Jvm.MethodName)).before a0 Z = true := hw _ (List.mem_of_getElem? (i := 30) rfl)
theorem wd31 {Z : State} {a0 : Array Value} (hw : ∀ d ∈ tables_1, d.before a0 Z = true) : (Jvm.Cond.instanceMethod ({ cls := "com/example/lectern/lectern/catalog/Franklin$Member", name := "slotsEmpty", desc := "()Z" } : Jvm.MethodName)).before a0 Z = true := hw _ (List.mem_of_getElem? (i := 31) rfl)
theorem wd57 {Z : State} {a0 : Array Value} (hw : ∀ d ∈ tables_1, d.before a0 Z = true) : (Jvm.Cond.code ({ cls := "com/example/lectern/lectern/catalog/Franklin$Member", name := "slotsFull", desc := "()Z" } : Jvm.MethodName) prog_30_method_8_code (1 : Nat) (Option.some Jvm.ClassFile.FieldType.boolean)).before a0 Z = true := hw _ (List.mem_of_getElem? (i := 57) rfl)
theorem wd56 {Z : State} {a0 : Array Value} (hw : ∀ d ∈ tables_1, d.before a0 Z = true) : (Jvm.Cond.selects "com/example/lectern/lectern/catalog/Franklin$Member" ({ cls := "com/example/lectern/lectern/catalog/Franklin$Member", name := "slotsFull", desc := "()Z" } : Jvm.MethodName) ({ cls := "com/example/lectern/lectern/catalog/Franklin$Member", name := "slotsFull", desc := "()Z" } : Jvm.MethodName)).before a0 Z = true := hw _ (List.mem_of_getElem? (i := 56) rfl)
theorem wd54 {Z : State} {a0 : Array Value} (hw : ∀ d ∈ tables_1, d.before a0 Z = true) : (Jvm.Cond.declares ({ cls := "com/example/lectern/lectern/catalog/Franklin$Member", name := "slotsFull", desc := "()Z" } : Jvm.MethodName)).before a0 Z = true := hw _ (List.mem_of_getElem? (i := 54) rfl)
theorem wd55 {Z : State} {a0 : Array Value} (hw : ∀ d ∈ tables_1, d.before a0 Z = true) : (Jvm.Cond.instanceMethod ({ cls := "com/example/lectern/lectern/catalog/Franklin$Member", name := "slotsFull", desc := "()Z" } : Jvm.MethodName)).before a0 Z = true := hw _ (List.mem_of_getElem? (i := 55) rfl)
theorem wd38 {Z : State} {a0 : Array Value} (hw : ∀ d ∈ tables_1, d.before a0 Z = true) : (Jvm.Cond.code ({ cls := "com/example/lectern/lectern/catalog/Franklin$Member", name := "emptied", desc := "()Lcom/example/lectern/lectern/catalog/Franklin$Member;" } : Jvm.MethodName) prog_30_method_6_code (1 : Nat) (Option.some (Jvm.ClassFile.FieldType.object "com/example/lectern/lectern/catalog/Franklin$Member"))).before a0 Z = true := hw _ (List.mem_of_getElem? (i := 38) rfl)
theorem pd4 : parseMethodDescriptor "()Lcom/example/lectern/lectern/catalog/Franklin$Member;" = some ⟨[], some (.object "com/example/lectern/lectern/catalog/Franklin$Member")⟩ := by decide +kernel
theorem wd37 {Z : State} {a0 : Array Value} (hw : ∀ d ∈ tables_1, d.before a0 Z = true) : (Jvm.Cond.selects "com/example/lectern/lectern/catalog/Franklin$Member" ({ cls := "com/example/lectern/lectern/catalog/Franklin$Member", name := "emptied", desc := "()Lcom/example/lectern/lectern/catalog/Franklin$Member;" } : Jvm.MethodName) ({ cls := "com/example/lectern/lectern/catalog/Franklin$Member", name := "emptied", desc := "()Lcom/example/lectern/lectern/catalog/Franklin$Member;" } : Jvm.MethodName)).before a0 Z = true := hw _ (List.mem_of_getElem? (i := 37) rfl)
theorem wd35 {Z : State} {a0 : Array Value} (hw : ∀ d ∈ tables_1, d.before a0 Z = true) : (Jvm.Cond.declares ({ cls := "com/example/lectern/lectern/catalog/Franklin$Member", name := "emptied", desc := "()Lcom/example/lectern/lectern/catalog/Franklin$Member;" } : Jvm.MethodName)).before a0 Z = true := hw _ (List.mem_of_getElem? (i := 35) rfl)
theorem wd36 {Z : State} {a0 : Array Value} (hw : ∀ d ∈ tables_1, d.before a0 Z = true) : (Jvm.Cond.instanceMethod ({ cls := "com/example/lectern/lectern/catalog/Franklin$Member", name := "emptied", desc := "()Lcom/example/lectern/lectern/catalog/Franklin$Member;" } : Jvm.MethodName)).before a0 Z = true := hw _ (List.mem_of_getElem? (i := 36) rfl)
theorem wd45 {Z : State} {a0 : Array Value} (hw : ∀ d ∈ tables_1, d.before a0 Z = true) : (Jvm.Cond.code ({ cls := "com/example/lectern/lectern/catalog/Franklin$Member", name := "takenFromLeft", desc := "(I)Lcom/example/lectern/lectern/catalog/Franklin$Member;" } : Jvm.MethodName) prog_30_method_4_code (2 : Nat) (Option.some (Jvm.ClassFile.FieldType.object "com/example/lectern/lectern/catalog/Franklin$Member"))).before a0 Z = true := hw _ (List.mem_of_getElem? (i := 45) rfl)
theorem pd5 : parseMethodDescriptor "(I)Lcom/example/lectern/lectern/catalog/Franklin$Member;" = some ⟨[.int], some (.object "com/example/lectern/lectern/catalog/Franklin$Member")⟩ := by decide +kernel
theorem wd44 {Z : State} {a0 : Array Value} (hw : ∀ d ∈ tables_1, d.before a0 Z = true) : (Jvm.Cond.selects "com/example/lectern/lectern/catalog/Franklin$Member" ({ cls := "com/example/lectern/lectern/catalog/Franklin$Member", name := "takenFromLeft", desc := "(I)Lcom/example/lectern/lectern/catalog/Franklin$Member;" } : Jvm.MethodName) ({ cls := "com/example/lectern/lectern/catalog/Franklin$Member", name := "takenFromLeft", desc := "(I)Lcom/example/lectern/lectern/catalog/Franklin$Member;" } : Jvm.MethodName)).before a0 Z = true := hw _ (List.mem_of_getElem? (i := 44) rfl)
theorem wd42 {Z : State} {a0 : Array Value} (hw : ∀ d ∈ tables_1, d.before a0 Z = true) : (Jvm.Cond.declares ({ cls := "com/example/lectern/lectern/catalog/Franklin$Member", name := "takenFromLeft", desc := "(I)Lcom/example/lectern/lectern/catalog/Franklin$Member;" } : Jvm.MethodName)).before a0 Z = true := hw _ (List.mem_of_getElem? (i := 42) rfl)
theorem wd43 {Z : State} {a0 : Array Value} (hw : ∀ d ∈ tables_1, d.before a0 Z = true) : (Jvm.Cond.instanceMethod ({ cls := "com/example/lectern/lectern/catalog/Franklin$Member", name := "takenFromLeft", desc := "(I)Lcom/example/lectern/lectern/catalog/Franklin$Member;" } : Jvm.MethodName)).before a0 Z = true := hw _ (List.mem_of_getElem? (i := 43) rfl)
theorem wd50 {Z : State} {a0 : Array Value} (hw : ∀ d ∈ tables_1, d.before a0 Z = true) : (Jvm.Cond.code ({ cls := "com/example/lectern/lectern/catalog/Franklin$Member", name := "takenFromRight", desc := "(I)Lcom/example/lectern/lectern/catalog/Franklin$Member;" } : Jvm.MethodName) prog_30_method_5_code (2 : Nat) (Option.some (Jvm.ClassFile.FieldType.object "com/example/lectern/lectern/catalog/Franklin$Member"))).before a0 Z = true := hw _ (List.mem_of_getElem? (i := 50) rfl)
theorem wd49 {Z : State} {a0 : Array Value} (hw : ∀ d ∈ tables_1, d.before a0 Z = true) : (Jvm.Cond.selects "com/example/lectern/lectern/catalog/Franklin$Member" ({ cls := "com/example/lectern/lectern/catalog/Franklin$Member", name := "takenFromRight", desc := "(I)Lcom/example/lectern/lectern/catalog/Franklin$Member;" } : Jvm.MethodName) ({ cls := "com/example/lectern/lectern/catalog/Franklin$Member", name := "takenFromRight", desc := "(I)Lcom/example/lectern/lectern/catalog/Franklin$Member;" } : Jvm.MethodName)).before a0 Z = true := hw _ (List.mem_of_getElem? (i := 49) rfl)
theorem wd47 {Z : State} {a0 : Array Value} (hw : ∀ d ∈ tables_1, d.before a0 Z = true) : (Jvm.Cond.declares ({ cls := "com/example/lectern/lectern/catalog/Franklin$Member", name := "takenFromRight", desc := "(I)Lcom/example/lectern/lectern/catalog/Franklin$Member;" } : Jvm.MethodName)).before a0 Z = true := hw _ (List.mem_of_getElem? (i := 47) rfl)
theorem wd48 {Z : State} {a0 : Array Value} (hw : ∀ d ∈ tables_1, d.before a0 Z = true) : (Jvm.Cond.instanceMethod ({ cls := "com/example/lectern/lectern/catalog/Franklin$Member", name := "takenFromRight", desc := "(I)Lcom/example/lectern/lectern/catalog/Franklin$Member;" } : Jvm.MethodName)).before a0 Z = true := hw _ (List.mem_of_getElem? (i := 48) rfl)
def Q0 (Z : State) (p1 : Int32) (p2 : Int32) (p3 : Int32) (p4 : Int32) (p5 : Int32) (w_NORMAL : Addr) (w_INITIATOR : Addr) (w_PASSIVE : Addr) (w_LEADER : Addr) (h0 : Heap) (n0 : Nat) (v : Option Value) (h : Heap) (L : List Loc) : Prop := v = some (.int (1 : Int32)) ∧ Fr n0 L
theorem ef0 (m : MethodId) (x0 : Int32) (x1 : Int32) (x2 : Int32) (x3 : Int32) (x4 : Int32) : entryFrame m #[(.int x0), (.int x1), (.int x2), (.int x3), (.int x4)] maxLocals = mkF m 0 #[.val (.int x0), .val (.int x1), .val (.int x2), .val (.int x3), .val (.int x4), .unset, .unset, .unset, .unset] [] := by first | (simp [entryFrame, mkF, argsToLocals, Value.category, maxLocals]; done) | rfl
set_option maxRecDepth 65536 in
set_option maxHeartbeats 16000000 in
theorem rm0 (l : Launch) (Z : State) (a0 : Array Value) (hw : ∀ d ∈ tables_1, d.before a0 Z = true) (ws : List Jvm.Cond) (p1 : Int32) (p2 : Int32) (p3 : Int32) (p4 : Int32) (p5 : Int32) (w_NORMAL : Addr) (w_INITIATOR : Addr) (w_PASSIVE : Addr) (w_LEADER : Addr) (h0 : Heap) (n0 : Nat) (Z0 : n0 ≤ h0.size) (S_NORMAL : Sta Z h0 "com/example/lectern/lectern/catalog/Franklin$Phase" "NORMAL" "Lcom/example/lectern/lectern/catalog/Franklin$Phase;" (.ref w_NORMAL)) (E_w_NORMAL : Exa Z h0 w_NORMAL "com/example/lectern/lectern/catalog/Franklin$Phase") (S_INITIATOR : Sta Z h0 "com/example/lectern/lectern/catalog/Franklin$Phase" "INITIATOR" "Lcom/example/lectern/lectern/catalog/Franklin$Phase;" (.ref w_INITIATOR)) (E_w_INITIATOR : Exa Z h0 w_INITIATOR "com/example/lectern/lectern/catalog/Franklin$Phase") (S_PASSIVE : Sta Z h0 "com/example/lectern/lectern/catalog/Franklin$Phase" "PASSIVE" "Lcom/example/lectern/lectern/catalog/Franklin$Phase;" (.ref w_PASSIVE)) (E_w_PASSIVE : Exa Z h0 w_PASSIVE "com/example/lectern/lectern/catalog/Franklin$Phase") (S_LEADER : Sta Z h0 "com/example/lectern/lectern/catalog/Franklin$Phase" "LEADER" "Lcom/example/lectern/lectern/catalog/Franklin$Phase;" (.ref w_LEADER)) (E_w_LEADER : Exa Z h0 w_LEADER "com/example/lectern/lectern/catalog/Franklin$Phase") :
    MetFree l x (head1 (Jvm.Cond.code x code maxLocals ret :: ws) room_1) (fun a U => a = #[(.int p1), (.int p2), (.int p3), (.int p4), (.int p5)] ∧ Z.Warmed39 U.vm ∧ U.heap = h0) (fun _ _ _ _ _ => True) (fun _ U o U' => ∃ v L, o = .returned v ∧ Q0 Z p1 p2 p3 p4 p5 w_NORMAL w_INITIATOR w_PASSIVE w_LEADER h0 n0 v U'.heap L ∧ FrameEnd U o U' L 16 128) := by
  refine MetFree.of_bodySF (plainFor_of_name pn0) hisR ?_
  intro p e s m args below meth c s₁ Bd hml0 hP hK
  obtain ⟨rfl, hZ, hh⟩ := hP
  have hx := Bd.exec
  have hby := Bd.bytes
  have hml : c.maxLocals = 9 := hml0
  have hown : s.vm.findClass "com/example/lectern/lectern/catalog/MemberSlotsEmptyPinLaw" = some m.cls := findClass_of_methodNamed Bd.named
  have hnm := (name_of_methodNamed Bd.named Bd.method).1
  have X0 : Stand p l e room_1 s m #[(.int p1), (.int p2), (.int p3), (.int p4), (.int p5)] below meth c s₁ [] 0 0 := Stand.of_body Bd
  have e0 : s₁.heap = h0 := by rw [← hh, Bd.state]; rfl
  have N0 := Fr.nil n0
  have K0 : Keep h0 h0 [] := Keep.refl h0 _
  refine Go.st (P := fun o U' => ∃ v L, o = .returned v ∧ Q0 Z p1 p2 p3 p4 p5 w_NORMAL w_INITIATOR w_PASSIVE w_LEADER h0 n0 v U'.heap L ∧ FrameEnd s o U' L 16 128) (fun t k => castTop (ef0 m p1 p2 p3 p4 p5) k) ?_
  show Go _ _ _ (s₁.setTop (mkF m 0 #[.val (.int p1), .val (.int p2), .val (.int p3), .val (.int p4), .val (.int p5), .unset, .unset, .unset, .unset] [])) _
  refine Go.st (fun t k => XS.iload X0.here hx rfl (hb hby at_0) rfl k) ?_
  refine Go.st (fun t k => XS.iconst X0.here hx rfl (hb hby at_2) k) ?_
  refine Go.st (fun t k => XS.iand X0.here hx rfl (hb hby at_3) rfl k) ?_
  show Go _ _ _ (s₁.setTop (mkF m 4 #[.val (.int p1), .val (.int p2), .val (.int p3), .val (.int p4), .val (.int p5), .unset, .unset, .unset, .unset] [(.int (p5 &&& (1 : Int32)))])) _
  by_cases hc1 : (p5 &&& (1 : Int32)) = (0 : Int32)
  · refine Go.st (fun t k => XS.ifYes X0.here hx rfl (pc0 := 4) (pc' := 11) rfl (hb hby at_4) rfl ((if0 _ _).trans (teq hc1).1) (by decide) (by decide) k) ?_
    show Go _ _ _ (s₁.setTop (mkF m 11 #[.val (.int p1), .val (.int p2), .val (.int p3), .val (.int p4), .val (.int p5), .unset, .unset, .unset, .unset] [])) _
    refine Go.st (fun t k => XS.iloadN X0.here hx rfl (hb hby at_11) rfl k) ?_
    refine Go.st (fun t k => XS.istore X0.here hx rfl (hb hby at_12) rfl (l' := #[.val (.int p1), .val (.int p2), .val (.int p3), .val (.int p4), .val (.int p5), .val (.int p3), .unset, .unset, .unset]) rfl k) ?_
    refine Go.st (fun t k => XS.iload X0.here hx rfl (hb hby at_14) rfl k) ?_
    refine Go.st (fun t k => XS.iconst X0.here hx rfl (hb hby at_16) k) ?_
    refine Go.st (fun t k => XS.iand X0.here hx rfl (hb hby at_17) rfl k) ?_
    show Go _ _ _ (s₁.setTop (mkF m 18 #[.val (.int p1), .val (.int p2), .val (.int p3), .val (.int p4), .val (.int p5), .val (.int p3), .unset, .unset, .unset] [(.int (p5 &&& (2 : Int32)))])) _
    by_cases hc2 : (p5 &&& (2 : Int32)) = (0 : Int32)
    · refine Go.st (fun t k => XS.ifYes X0.here hx rfl (pc0 := 18) (pc' := 25) rfl (hb hby at_18) rfl ((if0 _ _).trans (teq hc2).1) (by decide) (by decide) k) ?_
      show Go _ _ _ (s₁.setTop (mkF m 25 #[.val (.int p1), .val (.int p2), .val (.int p3), .val (.int p4), .val (.int p5), .val (.int p3), .unset, .unset, .unset] [])) _
      refine Go.st (fun t k => XS.iloadN X0.here hx rfl (hb hby at_25) rfl k) ?_
      refine Go.st (fun t k => XS.istore X0.here hx rfl (hb hby at_26) rfl (l' := #[.val (.int p1), .val (.int p2), .val (.int p3), .val (.int p4), .val (.int p5), .val (.int p3), .val (.int p4), .unset, .unset]) rfl k) ?_
      obtain ⟨T3, h3, X3, e3, E3, A3, D3, -, st3⟩ := newO X0 hx hZ hown (wd0 hw) (wd1 hw) (wd2 hw) e0 (g := (mkF m 28 #[.val (.int p1), .val (.int p2), .val (.int p3), .val (.int p4), .val (.int p5), .val (.int p3), .val (.int p4), .unset, .unset] [])) rfl (hb hby at_28) (by decide) (by decide)
      obtain ⟨b3, g3⟩ : ∃ z, z = h0.size := ⟨_, rfl⟩
      rw [← g3] at A3 D3 st3
      refine Go.st st3 ?_
      have ne_w_NORMAL_b3 : w_NORMAL ≠ b3 := Nat.ne_of_lt (Nat.lt_of_lt_of_le E_w_NORMAL.lt (Nat.le_of_eq g3.symm))
      have ne_w_INITIATOR_b3 : w_INITIATOR ≠ b3 := Nat.ne_of_lt (Nat.lt_of_lt_of_le E_w_INITIATOR.lt (Nat.le_of_eq g3.symm))
      have ne_w_PASSIVE_b3 : w_PASSIVE ≠ b3 := Nat.ne_of_lt (Nat.lt_of_lt_of_le E_w_PASSIVE.lt (Nat.le_of_eq g3.symm))
      have ne_w_LEADER_b3 : w_LEADER ≠ b3 := Nat.ne_of_lt (Nat.lt_of_lt_of_le E_w_LEADER.lt (Nat.le_of_eq g3.symm))
      have g_b3 : n0 ≤ b3 := Nat.le_trans Z0 (Nat.le_of_eq g3.symm)
      have sz_b3 : h0.size ≤ b3 := Nat.le_trans K0.1 (Nat.le_of_eq g3.symm)
      replace S_NORMAL := S_NORMAL.ext E3
      replace E_w_NORMAL := E_w_NORMAL.ext E3
      replace S_INITIATOR := S_INITIATOR.ext E3
      replace E_w_INITIATOR := E_w_INITIATOR.ext E3
      replace S_PASSIVE := S_PASSIVE.ext E3
      replace E_w_PASSIVE := E_w_PASSIVE.ext E3
      replace S_LEADER := S_LEADER.ext E3
      replace E_w_LEADER := E_w_LEADER.ext E3
      replace K0 := K0.ext E3
      replace Z0 := Nat.le_trans Z0 E3.1
      have E_b3 := A3
      have F_b3_phase : Fld Z h3 b3 "com/example/lectern/lectern/catalog/Franklin$Member" "phase" "Lcom/example/lectern/lectern/catalog/Franklin$Phase;" .null := D3 (Or.inr (wd22 hw)) (ty := (.object "com/example/lectern/lectern/catalog/Franklin$Phase")) (by decide)
      have F_b3_leader : Fld Z h3 b3 "com/example/lectern/lectern/catalog/Franklin$Member" "leader" "I" (.int (0 : Int32)) := D3 (Or.inr (wd24 hw)) (ty := .int) (by decide)
      have F_b3_fromLeft : Fld Z h3 b3 "com/example/lectern/lectern/catalog/Franklin$Member" "fromLeft" "I" (.int (0 : Int32)) := D3 (Or.inr (wd26 hw)) (ty := .int) (by decide)
      have F_b3_fromRight : Fld Z h3 b3 "com/example/lectern/lectern/catalog/Franklin$Member" "fromRight" "I" (.int (0 : Int32)) := D3 (Or.inr (wd28 hw)) (ty := .int) (by decide)
      show Go _ _ _ (T3.setTop (mkF m 31 #[.val (.int p1), .val (.int p2), .val (.int p3), .val (.int p4), .val (.int p5), .val (.int p3), .val (.int p4), .unset, .unset] [(.ref b3)])) _
      refine Go.st (fun t k => XS.dup X3.here hx rfl (hb hby at_31) rfl rfl k) ?_
      refine Go.st (fun t k => XS.iloadN X3.here hx rfl (hb hby at_32) rfl k) ?_
      obtain ⟨_, _, ⟨T4, L4, k4, n4⟩, -, X4, ⟨Lc4, hQ4, l4, y4, z4⟩, st4⟩ := Jvm.LawKit.callS X3 hx (y := (⟨"com/example/lectern/lectern/catalog/MemberSlotsEmptyPinLaw", "phase", "(I)Lcom/example/lectern/lectern/catalog/Franklin$Phase;"⟩ : MethodName)) hown (mvT hZ (wd3 hw)) (mvT hZ (wd4 hw)) (mvT hZ (wd5 hw)) (mvT hZ (wd6 hw)) (by decide) (backOf (W := 2) (rm1 l Z a0 hw [] p1 w_NORMAL w_INITIATOR w_PASSIVE w_LEADER h3 n0 Z0 S_NORMAL E_w_NORMAL S_INITIATOR E_w_INITIATOR S_PASSIVE E_w_PASSIVE S_LEADER E_w_LEADER) hZ (wd6 hw) (wd5 hw) (by decide) (by decide)) (g := (mkF m 33 #[.val (.int p1), .val (.int p2), .val (.int p3), .val (.int p4), .val (.int p5), .val (.int p3), .val (.int p4), .unset, .unset] [(.int p1), (.ref b3), (.ref b3)])) rfl (by rw [hml]; rfl) (argsL := [(.int p1)]) (rest := [(.ref b3), (.ref b3)]) (lenOf pd2 rfl) rfl (by show 2 * 0 + _ ≤ _; exact Nat.le_of_eq rfl) (hb hby at_33) (fun _ _ => ⟨rfl, e3, (by decide : 1 + 0 ≤ _), (by decide : 4 + 0 ≤ _)⟩)
      dsimp only [Pt.U, Pt.locs, Pt.cells, Pt.slots] at X4 l4 y4 z4 st4 hQ4
      subst l4 y4 z4
      refine Go.st st4 ?_
      obtain ⟨rfl, N4q, e4, E4_r⟩ := hQ4
      have N4 := Fr.app N0 N4q
      rw [e4] at E4_r
      show Go _ _ _ (T4.setTop (mkF m 36 #[.val (.int p1), .val (.int p2), .val (.int p3), .val (.int p4), .val (.int p5), .val (.int p3), .val (.int p4), .unset, .unset] [(.ref (f1 p1 w_NORMAL w_INITIATOR w_PASSIVE w_LEADER)), (.ref b3), (.ref b3)])) _
      refine Go.st (fun t k => XS.iloadN X4.here hx rfl (hb hby at_36) rfl k) ?_
      refine Go.st (fun t k => XS.iload X4.here hx rfl (hb hby at_37) rfl k) ?_
      refine Go.st (fun t k => XS.iload X4.here hx rfl (hb hby at_39) rfl k) ?_
      obtain ⟨_, _, ⟨T5, L5, k5, n5⟩, -, X5, ⟨Lc5, hQ5, l5, y5, z5⟩, st5⟩ := X4.specialBack hx (y := (⟨"com/example/lectern/lectern/catalog/Franklin$Member", "<init>", "(Lcom/example/lectern/lectern/catalog/Franklin$Phase;III)V"⟩ : MethodName)) rfl hown (mvT hZ (wd10 hw)) (mvT hZ (wd11 hw)) (mvT hZ (wd12 hw)) (by decide) (backOf (W := 1) (rm2 l Z a0 hw [] b3 (f1 p1 w_NORMAL w_INITIATOR w_PASSIVE w_LEADER) p2 p3 p4 (.null : Value) ((.int (0 : Int32)) : Value) ((.int (0 : Int32)) : Value) ((.int (0 : Int32)) : Value) h3 n0 Z0 E_b3 F_b3_phase F_b3_leader F_b3_fromLeft F_b3_fromRight g_b3) hZ (wd12 hw) (wd2 hw) (by decide) (by decide)) (g := (mkF m 41 #[.val (.int p1), .val (.int p2), .val (.int p3), .val (.int p4), .val (.int p5), .val (.int p3), .val (.int p4), .unset, .unset] [(.int p4), (.int p3), (.int p2), (.ref (f1 p1 w_NORMAL w_INITIATOR w_PASSIVE w_LEADER)), (.ref b3), (.ref b3)])) rfl (by rw [hml]; rfl) (Steps.refl _) (a := b3) (argsL := [(.ref (f1 p1 w_NORMAL w_INITIATOR w_PASSIVE w_LEADER)), (.int p2), (.int p3), (.int p4)]) (rest := [(.ref b3)]) (lenOf pd1 rfl) rfl (by show 2 * 0 + _ ≤ _; exact Nat.le_of_eq rfl) (hb hby at_41) (fun _ _ => ⟨rfl, e4, (by decide : 1 + 0 ≤ _), (by decide : 4 + 0 ≤ _)⟩)
      dsimp only [Pt.U, Pt.locs, Pt.cells, Pt.slots] at X5 l5 y5 z5 st5 hQ5
      subst l5 y5 z5
      refine Go.tr st5 ?_
      have E_b3_pre := E_b3
      have F_b3_phase_pre := F_b3_phase
      have F_b3_leader_pre := F_b3_leader
      have F_b3_fromLeft_pre := F_b3_fromLeft
      have F_b3_fromRight_pre := F_b3_fromRight
      obtain ⟨h5, e5⟩ : ∃ z, T5.heap = z := ⟨_, rfl⟩
      rw [e5] at hQ5
      obtain ⟨rfl, N5q, K5, Q5_0, Q5_1, Q5_2, Q5_3, Q5_4⟩ := hQ5
      replace S_NORMAL := sta_keep S_NORMAL K5 (allS (exa_ns E_b3_pre) all0)
      replace E_w_NORMAL := E_w_NORMAL.keep K5
      replace S_INITIATOR := sta_keep S_INITIATOR K5 (allS (exa_ns E_b3_pre) all0)
      replace E_w_INITIATOR := E_w_INITIATOR.keep K5
      replace S_PASSIVE := sta_keep S_PASSIVE K5 (allS (exa_ns E_b3_pre) all0)
      replace E_w_PASSIVE := E_w_PASSIVE.keep K5
      replace S_LEADER := sta_keep S_LEADER K5 (allS (exa_ns E_b3_pre) all0)
      replace E_w_LEADER := E_w_LEADER.keep K5
      replace E_b3 := E_b3.keep K5
      replace E4_r := E4_r.keep K5
      replace Z0 := Nat.le_trans Z0 K5.1
      replace K0 := K0.trans K5 (allS (Or.inr sz_b3) all0)
      have E_b3 := Q5_0
      have F_b3_phase := Q5_1
      have F_b3_leader := Q5_2
      have F_b3_fromLeft := Q5_3
      have F_b3_fromRight := Q5_4
      have N5 := Fr.app N4 N5q
      show Go _ _ _ (T5.setTop (mkF m 44 #[.val (.int p1), .val (.int p2), .val (.int p3), .val (.int p4), .val (.int p5), .val (.int p3), .val (.int p4), .unset, .unset] [(.ref b3)])) _
      refine Go.st (fun t k => XS.astore X5.here hx rfl (hb hby at_44) rfl rfl (l' := #[.val (.int p1), .val (.int p2), .val (.int p3), .val (.int p4), .val (.int p5), .val (.int p3), .val (.int p4), .val (.ref b3), .unset]) rfl k) ?_
      refine Go.st (fun t k => XS.aload X5.here hx rfl (hb hby at_46) rfl rfl k) ?_
      obtain ⟨cq6, kq6, q6a, q6b, q6c⟩ := isOf hZ e5 E_b3
      obtain ⟨_, _, ⟨T6, L6, k6, n6⟩, -, X6, ⟨Lc6, hQ6, l6, y6, z6⟩, st6⟩ := X5.virtualBack hx (y := (⟨"com/example/lectern/lectern/catalog/Franklin$Member", "slotsEmpty", "()Z"⟩ : MethodName)) (z := (⟨"com/example/lectern/lectern/catalog/Franklin$Member", "slotsEmpty", "()Z"⟩ : MethodName)) hown (mvT hZ (wd29 hw)) (mvT hZ (wd30 hw)) (notFace_of_selects (args := #[]) (mvT hZ (wd32 hw))) (mvT hZ (wd32 hw)) (mvT hZ (wd31 hw)) (by decide) (backOf (W := 0) (rm5 l Z a0 hw [] b3 p3 p4 h5 n0 Z0 F_b3_fromLeft F_b3_fromRight) hZ (wd33 hw) (wd2 hw) (by decide) (by decide)) q6a q6c (g := (mkF m 48 #[.val (.int p1), .val (.int p2), .val (.int p3), .val (.int p4), .val (.int p5), .val (.int p3), .val (.int p4), .val (.ref b3), .unset] [(.ref b3)])) rfl (by rw [hml]; rfl) (Steps.refl _) (argsL := []) (rest := []) (lenOf pd3 rfl) rfl (by show 2 * 0 + _ ≤ _; exact Nat.le_of_eq rfl) (hb hby at_48) (fun _ _ => ⟨rfl, e5, (by decide : 1 + 0 ≤ _), (by decide : 4 + 0 ≤ _)⟩)
      dsimp only [Pt.U, Pt.locs, Pt.cells, Pt.slots] at X6 l6 y6 z6 st6 hQ6
      subst l6 y6 z6
      refine Go.tr st6 ?_
      obtain ⟨rfl, N6q, e6⟩ := hQ6
      have N6 := Fr.app N5 N6q
      show Go _ _ _ (T6.setTop (mkF m 51 #[.val (.int p1), .val (.int p2), .val (.int p3), .val (.int p4), .val (.int p5), .val (.int p3), .val (.int p4), .val (.ref b3), .unset] [(.int (f5 p3 p4))])) _
      by_cases hc7 : p3 = (-1 : Int32)
      · by_cases hc8 : p4 = (-1 : Int32)
        · rw [show (f5 p3 p4) = (1 : Int32) from by unfold f5; simp only [if_pos hc7, if_pos hc8, if_true, if_false]]
          show Go _ _ _ (T6.setTop (mkF m 51 #[.val (.int p1), .val (.int p2), .val (.int p3), .val (.int p4), .val (.int p5), .val (.int p3), .val (.int p4), .val (.ref b3), .unset] [(.int 1)])) _
          refine Go.st (fun t k => XS.istore X6.here hx rfl (hb hby at_51) rfl (l' := #[.val (.int p1), .val (.int p2), .val (.int p3), .val (.int p4), .val (.int p5), .val (.int p3), .val (.int p4), .val (.ref b3), .val (.int 1)]) rfl k) ?_
          refine Go.st (fun t k => XS.iload X6.here hx rfl (hb hby at_53) rfl k) ?_
          refine Go.st (fun t k => XS.iload X6.here hx rfl (hb hby at_55) rfl k) ?_
          refine Go.st (fun t k => XS.iconst X6.here hx rfl (hb hby at_57) k) ?_
          refine Go.st (fun t k => XS.icmpNo X6.here hx rfl (hb hby at_58) rfl (teq hc7).2 k) ?_
          show Go _ _ _ (T6.setTop (mkF m 61 #[.val (.int p1), .val (.int p2), .val (.int p3), .val (.int p4), .val (.int p5), .val (.int p3), .val (.int p4), .val (.ref b3), .val (.int 1)] [(.int 1)])) _
          refine Go.st (fun t k => XS.iload X6.here hx rfl (hb hby at_61) rfl k) ?_
          refine Go.st (fun t k => XS.iconst X6.here hx rfl (hb hby at_63) k) ?_
          refine Go.st (fun t k => XS.icmpNo X6.here hx rfl (hb hby at_64) rfl (teq hc8).2 k) ?_
          show Go _ _ _ (T6.setTop (mkF m 67 #[.val (.int p1), .val (.int p2), .val (.int p3), .val (.int p4), .val (.int p5), .val (.int p3), .val (.int p4), .val (.ref b3), .val (.int 1)] [(.int 1)])) _
          refine Go.st (fun t k => XS.iconst X6.here hx rfl (hb hby at_67) k) ?_
          refine Go.st (fun t k => XS.goto X6.here hx rfl (pc0 := 68) (pc' := 72) rfl (hb hby at_68) (by decide) (by decide) k) ?_
          refine Go.st (fun t k => XS.icmpYes X6.here hx rfl (pc0 := 72) (pc' := 77) rfl (hb hby at_72) rfl (teq (by decide : (1 : Int32) = (1 : Int32))).1 (by decide) (by decide) k) ?_
          show Go _ _ _ (T6.setTop (mkF m 77 #[.val (.int p1), .val (.int p2), .val (.int p3), .val (.int p4), .val (.int p5), .val (.int p3), .val (.int p4), .val (.ref b3), .val (.int 1)] [])) _
          refine Go.st (fun t k => XS.iload X6.here hx rfl (hb hby at_77) rfl k) ?_
          refine Go.st (fun t k => XS.ifNo X6.here hx rfl (hb hby at_79) rfl ((if0 _ _).trans (feq (by decide : ¬ ((1 : Int32) = (0 : Int32)))).1) k) ?_
          show Go _ _ _ (T6.setTop (mkF m 82 #[.val (.int p1), .val (.int p2), .val (.int p3), .val (.int p4), .val (.int p5), .val (.int p3), .val (.int p4), .val (.ref b3), .val (.int 1)] [])) _
          refine Go.st (fun t k => XS.aload X6.here hx rfl (hb hby at_82) rfl rfl k) ?_
          obtain ⟨cq9, kq9, q9a, q9b, q9c⟩ := isOf hZ e6 E_b3
          obtain ⟨_, _, ⟨T9, L9, k9, n9⟩, -, X9, ⟨Lc9, hQ9, l9, y9, z9⟩, st9⟩ := X6.virtualBack hx (y := (⟨"com/example/lectern/lectern/catalog/Franklin$Member", "slotsFull", "()Z"⟩ : MethodName)) (z := (⟨"com/example/lectern/lectern/catalog/Franklin$Member", "slotsFull", "()Z"⟩ : MethodName)) hown (mvT hZ (wd53 hw)) (mvT hZ (wd54 hw)) (notFace_of_selects (args := #[]) (mvT hZ (wd56 hw))) (mvT hZ (wd56 hw)) (mvT hZ (wd55 hw)) (by decide) (backOf (W := 0) (rm9 l Z a0 hw [] b3 p3 p4 h5 n0 Z0 F_b3_fromLeft F_b3_fromRight) hZ (wd57 hw) (wd2 hw) (by decide) (by decide)) q9a q9c (g := (mkF m 84 #[.val (.int p1), .val (.int p2), .val (.int p3), .val (.int p4), .val (.int p5), .val (.int p3), .val (.int p4), .val (.ref b3), .val (.int 1)] [(.ref b3)])) rfl (by rw [hml]; rfl) (Steps.refl _) (argsL := []) (rest := []) (lenOf pd3 rfl) rfl (by show 2 * 0 + _ ≤ _; exact Nat.le_of_eq rfl) (hb hby at_84) (fun _ _ => ⟨rfl, e6, (by decide : 1 + 0 ≤ _), (by decide : 4 + 0 ≤ _)⟩)
          dsimp only [Pt.U, Pt.locs, Pt.cells, Pt.slots] at X9 l9 y9 z9 st9 hQ9
          subst l9 y9 z9
          refine Go.tr st9 ?_
          obtain ⟨rfl, N9q, e9⟩ := hQ9
          have N9 := Fr.app N6 N9q
          show Go _ _ _ (T9.setTop (mkF m 87 #[.val (.int p1), .val (.int p2), .val (.int p3), .val (.int p4), .val (.int p5), .val (.int p3), .val (.int p4), .val (.ref b3), .val (.int 1)] [(.int (f9 p3 p4))])) _
          rw [show (f9 p3 p4) = (0 : Int32) from by unfold f9; simp only [if_pos hc7, if_true, if_false]]
          show Go _ _ _ (T9.setTop (mkF m 87 #[.val (.int p1), .val (.int p2), .val (.int p3), .val (.int p4), .val (.int p5), .val (.int p3), .val (.int p4), .val (.ref b3), .val (.int 1)] [(.int 0)])) _
          refine Go.st (fun t k => XS.ifYes X9.here hx rfl (pc0 := 87) (pc' := 92) rfl (hb hby at_87) rfl ((if0 _ _).trans (teq (by decide : (0 : Int32) = (0 : Int32))).1) (by decide) (by decide) k) ?_
          show Go _ _ _ (T9.setTop (mkF m 92 #[.val (.int p1), .val (.int p2), .val (.int p3), .val (.int p4), .val (.int p5), .val (.int p3), .val (.int p4), .val (.ref b3), .val (.int 1)] [])) _
          refine Go.st (fun t k => XS.aload X9.here hx rfl (hb hby at_92) rfl rfl k) ?_
          obtain ⟨cq10, kq10, q10a, q10b, q10c⟩ := isOf hZ e9 E_b3
          obtain ⟨_, _, ⟨T10, L10, k10, n10⟩, -, X10, ⟨Lc10, hQ10, l10, y10, z10⟩, st10⟩ := X9.virtualBack hx (y := (⟨"com/example/lectern/lectern/catalog/Franklin$Member", "emptied", "()Lcom/example/lectern/lectern/catalog/Franklin$Member;"⟩ : MethodName)) (z := (⟨"com/example/lectern/lectern/catalog/Franklin$Member", "emptied", "()Lcom/example/lectern/lectern/catalog/Franklin$Member;"⟩ : MethodName)) hown (mvT hZ (wd34 hw)) (mvT hZ (wd35 hw)) (notFace_of_selects (args := #[]) (mvT hZ (wd37 hw))) (mvT hZ (wd37 hw)) (mvT hZ (wd36 hw)) (by decide) (backOf (W := 0) (rm6 l Z a0 hw [] b3 (f1 p1 w_NORMAL w_INITIATOR w_PASSIVE w_LEADER) p2 h5 n0 Z0 F_b3_phase F_b3_leader) hZ (wd38 hw) (wd2 hw) (by decide) (by decide)) q10a q10c (g := (mkF m 94 #[.val (.int p1), .val (.int p2), .val (.int p3), .val (.int p4), .val (.int p5), .val (.int p3), .val (.int p4), .val (.ref b3), .val (.int 1)] [(.ref b3)])) rfl (by rw [hml]; rfl) (Steps.refl _) (argsL := []) (rest := []) (lenOf pd4 rfl) rfl (by show 2 * 0 + _ ≤ _; exact Nat.le_of_eq rfl) (hb hby at_94) (fun _ _ => ⟨rfl, e9, (by decide : 1 + 1 ≤ _), (by decide : 4 + 4 ≤ _)⟩)
          dsimp only [Pt.U, Pt.locs, Pt.cells, Pt.slots] at X10 l10 y10 z10 st10 hQ10
          subst l10 y10 z10
          obtain ⟨h10, e10⟩ : ∃ z, T10.heap = z := ⟨_, rfl⟩
          rw [e10] at hQ10
          obtain ⟨x6_0_10, rfl, N10q, K10, ng_x6_0_10, sz0_x6_0_10, Q10_0, Q10_1, Q10_2, Q10_3, Q10_4⟩ := hQ10
          refine Go.tr st10 ?_
          have ne_w_NORMAL_x6_0_10 : w_NORMAL ≠ x6_0_10 := Nat.ne_of_lt (Nat.lt_of_lt_of_le E_w_NORMAL.lt sz0_x6_0_10)
          have ne_w_INITIATOR_x6_0_10 : w_INITIATOR ≠ x6_0_10 := Nat.ne_of_lt (Nat.lt_of_lt_of_le E_w_INITIATOR.lt sz0_x6_0_10)
          have ne_w_PASSIVE_x6_0_10 : w_PASSIVE ≠ x6_0_10 := Nat.ne_of_lt (Nat.lt_of_lt_of_le E_w_PASSIVE.lt sz0_x6_0_10)
          have ne_w_LEADER_x6_0_10 : w_LEADER ≠ x6_0_10 := Nat.ne_of_lt (Nat.lt_of_lt_of_le E_w_LEADER.lt sz0_x6_0_10)
          have ne_b3_x6_0_10 : b3 ≠ x6_0_10 := Nat.ne_of_lt (Nat.lt_of_lt_of_le E_b3.lt sz0_x6_0_10)
          have ne__f1_p1_w_NORMAL_w_INITIATOR_w_PASSIVE_w_LEADER__x6_0_10 : (f1 p1 w_NORMAL w_INITIATOR w_PASSIVE w_LEADER) ≠ x6_0_10 := Nat.ne_of_lt (Nat.lt_of_lt_of_le E4_r.lt sz0_x6_0_10)
          have g_x6_0_10 : n0 ≤ x6_0_10 := ng_x6_0_10
          have sz_x6_0_10 : h0.size ≤ x6_0_10 := Nat.le_trans K0.1 sz0_x6_0_10
          replace S_NORMAL := sta_keep S_NORMAL K10 all0
          replace E_w_NORMAL := E_w_NORMAL.keep K10
          replace S_INITIATOR := sta_keep S_INITIATOR K10 all0
          replace E_w_INITIATOR := E_w_INITIATOR.keep K10
          replace S_PASSIVE := sta_keep S_PASSIVE K10 all0
          replace E_w_PASSIVE := E_w_PASSIVE.keep K10
          replace S_LEADER := sta_keep S_LEADER K10 all0
          replace E_w_LEADER := E_w_LEADER.keep K10
          replace E_b3 := E_b3.keep K10
          replace E4_r := E4_r.keep K10
          replace F_b3_phase := F_b3_phase.keep K10 nin0
          replace F_b3_leader := F_b3_leader.keep K10 nin0
          replace F_b3_fromLeft := F_b3_fromLeft.keep K10 nin0
          replace F_b3_fromRight := F_b3_fromRight.keep K10 nin0
          replace Z0 := Nat.le_trans Z0 K10.1
          replace K0 := K0.trans K10 all0
          have E_x6_0_10 := Q10_0
          have F_x6_0_10_phase := Q10_1
          have F_x6_0_10_leader := Q10_2
          have F_x6_0_10_fromLeft := Q10_3
          have F_x6_0_10_fromRight := Q10_4
          have N10 := Fr.app N9 N10q
          show Go _ _ _ (T10.setTop (mkF m 97 #[.val (.int p1), .val (.int p2), .val (.int p3), .val (.int p4), .val (.int p5), .val (.int p3), .val (.int p4), .val (.ref b3), .val (.int 1)] [(.ref x6_0_10)])) _
          obtain ⟨cq11, kq11, q11a, q11b, q11c⟩ := isOf hZ e10 E_x6_0_10
          obtain ⟨_, _, ⟨T11, L11, k11, n11⟩, -, X11, ⟨Lc11, hQ11, l11, y11, z11⟩, st11⟩ := X10.virtualBack hx (y := (⟨"com/example/lectern/lectern/catalog/Franklin$Member", "slotsEmpty", "()Z"⟩ : MethodName)) (z := (⟨"com/example/lectern/lectern/catalog/Franklin$Member", "slotsEmpty", "()Z"⟩ : MethodName)) hown (mvT hZ (wd29 hw)) (mvT hZ (wd30 hw)) (notFace_of_selects (args := #[]) (mvT hZ (wd32 hw))) (mvT hZ (wd32 hw)) (mvT hZ (wd31 hw)) (by decide) (backOf (W := 0) (rm5 l Z a0 hw [] x6_0_10 (-1 : Int32) (-1 : Int32) h10 n0 Z0 F_x6_0_10_fromLeft F_x6_0_10_fromRight) hZ (wd33 hw) (wd2 hw) (by decide) (by decide)) q11a q11c (g := (mkF m 97 #[.val (.int p1), .val (.int p2), .val (.int p3), .val (.int p4), .val (.int p5), .val (.int p3), .val (.int p4), .val (.ref b3), .val (.int 1)] [(.ref x6_0_10)])) rfl (by rw [hml]; rfl) (Steps.refl _) (argsL := []) (rest := []) (lenOf pd3 rfl) rfl (by show 2 * 0 + _ ≤ _; exact Nat.le_of_eq rfl) (hb hby at_97) (fun _ _ => ⟨rfl, e10, (by decide : 2 + 0 ≤ _), (by decide : 8 + 0 ≤ _)⟩)
          dsimp only [Pt.U, Pt.locs, Pt.cells, Pt.slots] at X11 l11 y11 z11 st11 hQ11
          subst l11 y11 z11
          refine Go.tr st11 ?_
          obtain ⟨rfl, N11q, e11⟩ := hQ11
          have N11 := Fr.app N10 N11q
          show Go _ _ _ (T11.setTop (mkF m 100 #[.val (.int p1), .val (.int p2), .val (.int p3), .val (.int p4), .val (.int p5), .val (.int p3), .val (.int p4), .val (.ref b3), .val (.int 1)] [(.int (f5 (-1 : Int32) (-1 : Int32)))])) _
          rw [show (f5 (-1 : Int32) (-1 : Int32)) = (1 : Int32) from by unfold f5; simp only [if_pos (by decide : (-1 : Int32) = (-1 : Int32)), if_pos (by decide : (-1 : Int32) = (-1 : Int32)), if_true, if_false]]
          show Go _ _ _ (T11.setTop (mkF m 100 #[.val (.int p1), .val (.int p2), .val (.int p3), .val (.int p4), .val (.int p5), .val (.int p3), .val (.int p4), .val (.ref b3), .val (.int 1)] [(.int 1)])) _
          refine Go.st (fun t k => XS.ifYes X11.here hx rfl (pc0 := 100) (pc' := 105) rfl (hb hby at_100) rfl ((if0 _ _).trans (feq (by decide : ¬ ((1 : Int32) = (0 : Int32)))).2) (by decide) (by decide) k) ?_
          show Go _ _ _ (T11.setTop (mkF m 105 #[.val (.int p1), .val (.int p2), .val (.int p3), .val (.int p4), .val (.int p5), .val (.int p3), .val (.int p4), .val (.ref b3), .val (.int 1)] [])) _
          refine Go.st (fun t k => XS.aload X11.here hx rfl (hb hby at_105) rfl rfl k) ?_
          refine Go.st (fun t k => XS.iloadN X11.here hx rfl (hb hby at_107) rfl k) ?_
          obtain ⟨cq12, kq12, q12a, q12b, q12c⟩ := isOf hZ e11 E_b3
          obtain ⟨_, _, ⟨T12, L12, k12, n12⟩, -, X12, ⟨Lc12, hQ12, l12, y12, z12⟩, st12⟩ := X11.virtualBack hx (y := (⟨"com/example/lectern/lectern/catalog/Franklin$Member", "takenFromLeft", "(I)Lcom/example/lectern/lectern/catalog/Franklin$Member;"⟩ : MethodName)) (z := (⟨"com/example/lectern/lectern/catalog/Franklin$Member", "takenFromLeft", "(I)Lcom/example/lectern/lectern/catalog/Franklin$Member;"⟩ : MethodName)) hown (mvT hZ (wd41 hw)) (mvT hZ (wd42 hw)) (notFace_of_selects (args := #[]) (mvT hZ (wd44 hw))) (mvT hZ (wd44 hw)) (mvT hZ (wd43 hw)) (by decide) (backOf (W := 0) (rm7 l Z a0 hw [] b3 p4 (f1 p1 w_NORMAL w_INITIATOR w_PASSIVE w_LEADER) p2 p4 h10 n0 Z0 F_b3_phase F_b3_leader F_b3_fromRight) hZ (wd45 hw) (wd2 hw) (by decide) (by decide)) q12a q12c (g := (mkF m 108 #[.val (.int p1), .val (.int p2), .val (.int p3), .val (.int p4), .val (.int p5), .val (.int p3), .val (.int p4), .val (.ref b3), .val (.int 1)] [(.int p4), (.ref b3)])) rfl (by rw [hml]; rfl) (Steps.refl _) (argsL := [(.int p4)]) (rest := []) (lenOf pd5 rfl) rfl (by show 2 * 0 + _ ≤ _; exact Nat.le_of_eq rfl) (hb hby at_108) (fun _ _ => ⟨rfl, e11, (by decide : 2 + 1 ≤ _), (by decide : 8 + 4 ≤ _)⟩)
          dsimp only [Pt.U, Pt.locs, Pt.cells, Pt.slots] at X12 l12 y12 z12 st12 hQ12
          subst l12 y12 z12
          obtain ⟨h12, e12⟩ : ∃ z, T12.heap = z := ⟨_, rfl⟩
          rw [e12] at hQ12
          obtain ⟨x7_0_12, rfl, N12q, K12, ng_x7_0_12, sz0_x7_0_12, Q12_0, Q12_1, Q12_2, Q12_3, Q12_4⟩ := hQ12
          refine Go.tr st12 ?_
          have ne_w_NORMAL_x7_0_12 : w_NORMAL ≠ x7_0_12 := Nat.ne_of_lt (Nat.lt_of_lt_of_le E_w_NORMAL.lt sz0_x7_0_12)
          have ne_w_INITIATOR_x7_0_12 : w_INITIATOR ≠ x7_0_12 := Nat.ne_of_lt (Nat.lt_of_lt_of_le E_w_INITIATOR.lt sz0_x7_0_12)
          have ne_w_PASSIVE_x7_0_12 : w_PASSIVE ≠ x7_0_12 := Nat.ne_of_lt (Nat.lt_of_lt_of_le E_w_PASSIVE.lt sz0_x7_0_12)
          have ne_w_LEADER_x7_0_12 : w_LEADER ≠ x7_0_12 := Nat.ne_of_lt (Nat.lt_of_lt_of_le E_w_LEADER.lt sz0_x7_0_12)
          have ne_b3_x7_0_12 : b3 ≠ x7_0_12 := Nat.ne_of_lt (Nat.lt_of_lt_of_le E_b3.lt sz0_x7_0_12)
          have ne__f1_p1_w_NORMAL_w_INITIATOR_w_PASSIVE_w_LEADER__x7_0_12 : (f1 p1 w_NORMAL w_INITIATOR w_PASSIVE w_LEADER) ≠ x7_0_12 := Nat.ne_of_lt (Nat.lt_of_lt_of_le E4_r.lt sz0_x7_0_12)
          have ne_x6_0_10_x7_0_12 : x6_0_10 ≠ x7_0_12 := Nat.ne_of_lt (Nat.lt_of_lt_of_le E_x6_0_10.lt sz0_x7_0_12)
          have g_x7_0_12 : n0 ≤ x7_0_12 := ng_x7_0_12
          have sz_x7_0_12 : h0.size ≤ x7_0_12 := Nat.le_trans K0.1 sz0_x7_0_12
          replace S_NORMAL := sta_keep S_NORMAL K12 all0
          replace E_w_NORMAL := E_w_NORMAL.keep K12
          replace S_INITIATOR := sta_keep S_INITIATOR K12 all0
          replace E_w_INITIATOR := E_w_INITIATOR.keep K12
          replace S_PASSIVE := sta_keep S_PASSIVE K12 all0
          replace E_w_PASSIVE := E_w_PASSIVE.keep K12
          replace S_LEADER := sta_keep S_LEADER K12 all0
          replace E_w_LEADER := E_w_LEADER.keep K12
          replace E_b3 := E_b3.keep K12
          replace E4_r := E4_r.keep K12
          replace F_b3_phase := F_b3_phase.keep K12 nin0
          replace F_b3_leader := F_b3_leader.keep K12 nin0
          replace F_b3_fromLeft := F_b3_fromLeft.keep K12 nin0
          replace F_b3_fromRight := F_b3_fromRight.keep K12 nin0
          replace E_x6_0_10 := E_x6_0_10.keep K12
          replace F_x6_0_10_phase := F_x6_0_10_phase.keep K12 nin0
          replace F_x6_0_10_leader := F_x6_0_10_leader.keep K12 nin0
          replace F_x6_0_10_fromLeft := F_x6_0_10_fromLeft.keep K12 nin0
          replace F_x6_0_10_fromRight := F_x6_0_10_fromRight.keep K12 nin0
          replace Z0 := Nat.le_trans Z0 K12.1
          replace K0 := K0.trans K12 all0
          have E_x7_0_12 := Q12_0
          have F_x7_0_12_phase := Q12_1
          have F_x7_0_12_leader := Q12_2
          have F_x7_0_12_fromLeft := Q12_3
          have F_x7_0_12_fromRight := Q12_4
          have N12 := Fr.app N11 N12q
          show Go _ _ _ (T12.setTop (mkF m 111 #[.val (.int p1), .val (.int p2), .val (.int p3), .val (.int p4), .val (.int p5), .val (.int p3), .val (.int p4), .val (.ref b3), .val (.int 1)] [(.ref x7_0_12)])) _
          obtain ⟨cq13, kq13, q13a, q13b, q13c⟩ := isOf hZ e12 E_x7_0_12
          obtain ⟨_, _, ⟨T13, L13, k13, n13⟩, -, X13, ⟨Lc13, hQ13, l13, y13, z13⟩, st13⟩ := X12.virtualBack hx (y := (⟨"com/example/lectern/lectern/catalog/Franklin$Member", "slotsEmpty", "()Z"⟩ : MethodName)) (z := (⟨"com/example/lectern/lectern/catalog/Franklin$Member", "slotsEmpty", "()Z"⟩ : MethodName)) hown (mvT hZ (wd29 hw)) (mvT hZ (wd30 hw)) (notFace_of_selects (args := #[]) (mvT hZ (wd32 hw))) (mvT hZ (wd32 hw)) (mvT hZ (wd31 hw)) (by decide) (backOf (W := 0) (rm5 l Z a0 hw [] x7_0_12 p4 p4 h12 n0 Z0 F_x7_0_12_fromLeft F_x7_0_12_fromRight) hZ (wd33 hw) (wd2 hw) (by decide) (by decide)) q13a q13c (g := (mkF m 111 #[.val (.int p1), .val (.int p2), .val (.int p3), .val (.int p4), .val (.int p5), .val (.int p3), .val (.int p4), .val (.ref b3), .val (.int 1)] [(.ref x7_0_12)])) rfl (by rw [hml]; rfl) (Steps.refl _) (argsL := []) (rest := []) (lenOf pd3 rfl) rfl (by show 2 * 0 + _ ≤ _; exact Nat.le_of_eq rfl) (hb hby at_111) (fun _ _ => ⟨rfl, e12, (by decide : 3 + 0 ≤ _), (by decide : 12 + 0 ≤ _)⟩)
          dsimp only [Pt.U, Pt.locs, Pt.cells, Pt.slots] at X13 l13 y13 z13 st13 hQ13
          subst l13 y13 z13
          refine Go.tr st13 ?_
          obtain ⟨rfl, N13q, e13⟩ := hQ13
          have N13 := Fr.app N12 N13q
          show Go _ _ _ (T13.setTop (mkF m 114 #[.val (.int p1), .val (.int p2), .val (.int p3), .val (.int p4), .val (.int p5), .val (.int p3), .val (.int p4), .val (.ref b3), .val (.int 1)] [(.int (f5 p4 p4))])) _
          rw [show (f5 p4 p4) = (1 : Int32) from by unfold f5; simp only [if_pos hc8, if_pos hc8, if_true, if_false]]
          show Go _ _ _ (T13.setTop (mkF m 114 #[.val (.int p1), .val (.int p2), .val (.int p3), .val (.int p4), .val (.int p5), .val (.int p3), .val (.int p4), .val (.ref b3), .val (.int 1)] [(.int 1)])) _
          refine Go.st (fun t k => XS.iloadN X13.here hx rfl (hb hby at_114) rfl k) ?_
          refine Go.st (fun t k => XS.iconst X13.here hx rfl (hb hby at_115) k) ?_
          refine Go.st (fun t k => XS.icmpNo X13.here hx rfl (hb hby at_116) rfl (teq hc8).2 k) ?_
          show Go _ _ _ (T13.setTop (mkF m 119 #[.val (.int p1), .val (.int p2), .val (.int p3), .val (.int p4), .val (.int p5), .val (.int p3), .val (.int p4), .val (.ref b3), .val (.int 1)] [(.int 1)])) _
          refine Go.st (fun t k => XS.iload X13.here hx rfl (hb hby at_119) rfl k) ?_
          refine Go.st (fun t k => XS.iconst X13.here hx rfl (hb hby at_121) k) ?_
          refine Go.st (fun t k => XS.icmpNo X13.here hx rfl (hb hby at_122) rfl (teq hc8).2 k) ?_
          show Go _ _ _ (T13.setTop (mkF m 125 #[.val (.int p1), .val (.int p2), .val (.int p3), .val (.int p4), .val (.int p5), .val (.int p3), .val (.int p4), .val (.ref b3), .val (.int 1)] [(.int 1)])) _
          refine Go.st (fun t k => XS.iconst X13.here hx rfl (hb hby at_125) k) ?_
          refine Go.st (fun t k => XS.goto X13.here hx rfl (pc0 := 126) (pc' := 130) rfl (hb hby at_126) (by decide) (by decide) k) ?_
          refine Go.st (fun t k => XS.icmpYes X13.here hx rfl (pc0 := 130) (pc' := 135) rfl (hb hby at_130) rfl (teq (by decide : (1 : Int32) = (1 : Int32))).1 (by decide) (by decide) k) ?_
          show Go _ _ _ (T13.setTop (mkF m 135 #[.val (.int p1), .val (.int p2), .val (.int p3), .val (.int p4), .val (.int p5), .val (.int p3), .val (.int p4), .val (.ref b3), .val (.int 1)] [])) _
          refine Go.st (fun t k => XS.aload X13.here hx rfl (hb hby at_135) rfl rfl k) ?_
          refine Go.st (fun t k => XS.iloadN X13.here hx rfl (hb hby at_137) rfl k) ?_
          obtain ⟨cq14, kq14, q14a, q14b, q14c⟩ := isOf hZ e13 E_b3
          obtain ⟨_, _, ⟨T14, L14, k14, n14⟩, -, X14, ⟨Lc14, hQ14, l14, y14, z14⟩, st14⟩ := X13.virtualBack hx (y := (⟨"com/example/lectern/lectern/catalog/Franklin$Member", "takenFromRight", "(I)Lcom/example/lectern/lectern/catalog/Franklin$Member;"⟩ : MethodName)) (z := (⟨"com/example/lectern/lectern/catalog/Franklin$Member", "takenFromRight", "(I)Lcom/example/lectern/lectern/catalog/Franklin$Member;"⟩ : MethodName)) hown (mvT hZ (wd46 hw)) (mvT hZ (wd47 hw)) (notFace_of_selects (args := #[]) (mvT hZ (wd49 hw))) (mvT hZ (wd49 hw)) (mvT hZ (wd48 hw)) (by decide) (backOf (W := 0) (rm8 l Z a0 hw [] b3 p3 (f1 p1 w_NORMAL w_INITIATOR w_PASSIVE w_LEADER) p2 p3 h12 n0 Z0 F_b3_phase F_b3_leader F_b3_fromLeft) hZ (wd50 hw) (wd2 hw) (by decide) (by decide)) q14a q14c (g := (mkF m 138 #[.val (.int p1), .val (.int p2), .val (.int p3), .val (.int p4), .val (.int p5), .val (.int p3), .val (.int p4), .val (.ref b3), .val (.int 1)] [(.int p3), (.ref b3)])) rfl (by rw [hml]; rfl) (Steps.refl _) (argsL := [(.int p3)]) (rest := []) (lenOf pd5 rfl) rfl (by show 2 * 0 + _ ≤ _; exact Nat.le_of_eq rfl) (hb hby at_138) (fun _ _ => ⟨rfl, e13, (by decide : 3 + 1 ≤ _), (by decide : 12 + 4 ≤ _)⟩)
          dsimp only [Pt.U, Pt.locs, Pt.cells, Pt.slots] at X14 l14 y14 z14 st14 hQ14
          subst l14 y14 z14
          obtain ⟨h14, e14⟩ : ∃ z, T14.heap = z := ⟨_, rfl⟩
          rw [e14] at hQ14
          obtain ⟨x8_0_14, rfl, N14q, K14, ng_x8_0_14, sz0_x8_0_14, Q14_0, Q14_1, Q14_2, Q14_3, Q14_4⟩ := hQ14
          refine Go.tr st14 ?_
          have ne_w_NORMAL_x8_0_14 : w_NORMAL ≠ x8_0_14 := Nat.ne_of_lt (Nat.lt_of_lt_of_le E_w_NORMAL.lt sz0_x8_0_14)
          have ne_w_INITIATOR_x8_0_14 : w_INITIATOR ≠ x8_0_14 := Nat.ne_of_lt (Nat.lt_of_lt_of_le E_w_INITIATOR.lt sz0_x8_0_14)
          have ne_w_PASSIVE_x8_0_14 : w_PASSIVE ≠ x8_0_14 := Nat.ne_of_lt (Nat.lt_of_lt_of_le E_w_PASSIVE.lt sz0_x8_0_14)
          have ne_w_LEADER_x8_0_14 : w_LEADER ≠ x8_0_14 := Nat.ne_of_lt (Nat.lt_of_lt_of_le E_w_LEADER.lt sz0_x8_0_14)
          have ne_b3_x8_0_14 : b3 ≠ x8_0_14 := Nat.ne_of_lt (Nat.lt_of_lt_of_le E_b3.lt sz0_x8_0_14)
          have ne__f1_p1_w_NORMAL_w_INITIATOR_w_PASSIVE_w_LEADER__x8_0_14 : (f1 p1 w_NORMAL w_INITIATOR w_PASSIVE w_LEADER) ≠ x8_0_14 := Nat.ne_of_lt (Nat.lt_of_lt_of_le E4_r.lt sz0_x8_0_14)
          have ne_x6_0_10_x8_0_14 : x6_0_10 ≠ x8_0_14 := Nat.ne_of_lt (Nat.lt_of_lt_of_le E_x6_0_10.lt sz0_x8_0_14)
          have ne_x7_0_12_x8_0_14 : x7_0_12 ≠ x8_0_14 := Nat.ne_of_lt (Nat.lt_of_lt_of_le E_x7_0_12.lt sz0_x8_0_14)
          have g_x8_0_14 : n0 ≤ x8_0_14 := ng_x8_0_14
          have sz_x8_0_14 : h0.size ≤ x8_0_14 := Nat.le_trans K0.1 sz0_x8_0_14
          replace S_NORMAL := sta_keep S_NORMAL K14 all0
          replace E_w_NORMAL := E_w_NORMAL.keep K14
          replace S_INITIATOR := sta_keep S_INITIATOR K14 all0
          replace E_w_INITIATOR := E_w_INITIATOR.keep K14
          replace S_PASSIVE := sta_keep S_PASSIVE K14 all0
          replace E_w_PASSIVE := E_w_PASSIVE.keep K14
          replace S_LEADER := sta_keep S_LEADER K14 all0
          replace E_w_LEADER := E_w_LEADER.keep K14
          replace E_b3 := E_b3.keep K14
          replace E4_r := E4_r.keep K14
          replace F_b3_phase := F_b3_phase.keep K14 nin0
          replace F_b3_leader := F_b3_leader.keep K14 nin0
          replace F_b3_fromLeft := F_b3_fromLeft.keep K14 nin0
          replace F_b3_fromRight := F_b3_fromRight.keep K14 nin0
          replace E_x6_0_10 := E_x6_0_10.keep K14
          replace F_x6_0_10_phase := F_x6_0_10_phase.keep K14 nin0
          replace F_x6_0_10_leader := F_x6_0_10_leader.keep K14 nin0
          replace F_x6_0_10_fromLeft := F_x6_0_10_fromLeft.keep K14 nin0
          replace F_x6_0_10_fromRight := F_x6_0_10_fromRight.keep K14 nin0
          replace E_x7_0_12 := E_x7_0_12.keep K14
          replace F_x7_0_12_phase := F_x7_0_12_phase.keep K14 nin0
          replace F_x7_0_12_leader := F_x7_0_12_leader.keep K14 nin0
          replace F_x7_0_12_fromLeft := F_x7_0_12_fromLeft.keep K14 nin0
          replace F_x7_0_12_fromRight := F_x7_0_12_fromRight.keep K14 nin0
          replace Z0 := Nat.le_trans Z0 K14.1
          replace K0 := K0.trans K14 all0
          have E_x8_0_14 := Q14_0
          have F_x8_0_14_phase := Q14_1
          have F_x8_0_14_leader := Q14_2
          have F_x8_0_14_fromLeft := Q14_3
          have F_x8_0_14_fromRight := Q14_4
          have N14 := Fr.app N13 N14q
          show Go _ _ _ (T14.setTop (mkF m 141 #[.val (.int p1), .val (.int p2), .val (.int p3), .val (.int p4), .val (.int p5), .val (.int p3), .val (.int p4), .val (.ref b3), .val (.int 1)] [(.ref x8_0_14)])) _
          obtain ⟨cq15, kq15, q15a, q15b, q15c⟩ := isOf hZ e14 E_x8_0_14
          obtain ⟨_, _, ⟨T15, L15, k15, n15⟩, -, X15, ⟨Lc15, hQ15, l15, y15, z15⟩, st15⟩ := X14.virtualBack hx (y := (⟨"com/example/lectern/lectern/catalog/Franklin$Member", "slotsEmpty", "()Z"⟩ : MethodName)) (z := (⟨"com/example/lectern/lectern/catalog/Franklin$Member", "slotsEmpty", "()Z"⟩ : MethodName)) hown (mvT hZ (wd29 hw)) (mvT hZ (wd30 hw)) (notFace_of_selects (args := #[]) (mvT hZ (wd32 hw))) (mvT hZ (wd32 hw)) (mvT hZ (wd31 hw)) (by decide) (backOf (W := 0) (rm5 l Z a0 hw [] x8_0_14 p3 p3 h14 n0 Z0 F_x8_0_14_fromLeft F_x8_0_14_fromRight) hZ (wd33 hw) (wd2 hw) (by decide) (by decide)) q15a q15c (g := (mkF m 141 #[.val (.int p1), .val (.int p2), .val (.int p3), .val (.int p4), .val (.int p5), .val (.int p3), .val (.int p4), .val (.ref b3), .val (.int 1)] [(.ref x8_0_14)])) rfl (by rw [hml]; rfl) (Steps.refl _) (argsL := []) (rest := []) (lenOf pd3 rfl) rfl (by show 2 * 0 + _ ≤ _; exact Nat.le_of_eq rfl) (hb hby at_141) (fun _ _ => ⟨rfl, e14, (by decide : 4 + 0 ≤ _), (by decide : 16 + 0 ≤ _)⟩)
          dsimp only [Pt.U, Pt.locs, Pt.cells, Pt.slots] at X15 l15 y15 z15 st15 hQ15
          subst l15 y15 z15
          refine Go.tr st15 ?_
          obtain ⟨rfl, N15q, e15⟩ := hQ15
          have N15 := Fr.app N14 N15q
          show Go _ _ _ (T15.setTop (mkF m 144 #[.val (.int p1), .val (.int p2), .val (.int p3), .val (.int p4), .val (.int p5), .val (.int p3), .val (.int p4), .val (.ref b3), .val (.int 1)] [(.int (f5 p3 p3))])) _
          rw [show (f5 p3 p3) = (1 : Int32) from by unfold f5; simp only [if_pos hc7, if_pos hc7, if_true, if_false]]
          show Go _ _ _ (T15.setTop (mkF m 144 #[.val (.int p1), .val (.int p2), .val (.int p3), .val (.int p4), .val (.int p5), .val (.int p3), .val (.int p4), .val (.ref b3), .val (.int 1)] [(.int 1)])) _
          refine Go.st (fun t k => XS.iload X15.here hx rfl (hb hby at_144) rfl k) ?_
          refine Go.st (fun t k => XS.iconst X15.here hx rfl (hb hby at_146) k) ?_
          refine Go.st (fun t k => XS.icmpNo X15.here hx rfl (hb hby at_147) rfl (teq hc7).2 k) ?_
          show Go _ _ _ (T15.setTop (mkF m 150 #[.val (.int p1), .val (.int p2), .val (.int p3), .val (.int p4), .val (.int p5), .val (.int p3), .val (.int p4), .val (.ref b3), .val (.int 1)] [(.int 1)])) _
          refine Go.st (fun t k => XS.iloadN X15.here hx rfl (hb hby at_150) rfl k) ?_
          refine Go.st (fun t k => XS.iconst X15.here hx rfl (hb hby at_151) k) ?_
          refine Go.st (fun t k => XS.icmpNo X15.here hx rfl (hb hby at_152) rfl (teq hc7).2 k) ?_
          show Go _ _ _ (T15.setTop (mkF m 155 #[.val (.int p1), .val (.int p2), .val (.int p3), .val (.int p4), .val (.int p5), .val (.int p3), .val (.int p4), .val (.ref b3), .val (.int 1)] [(.int 1)])) _
          refine Go.st (fun t k => XS.iconst X15.here hx rfl (hb hby at_155) k) ?_
          refine Go.st (fun t k => XS.goto X15.here hx rfl (pc0 := 156) (pc' := 160) rfl (hb hby at_156) (by decide) (by decide) k) ?_
          refine Go.st (fun t k => XS.icmpYes X15.here hx rfl (pc0 := 160) (pc' := 165) rfl (hb hby at_160) rfl (teq (by decide : (1 : Int32) = (1 : Int32))).1 (by decide) (by decide) k) ?_
          show Go _ _ _ (T15.setTop (mkF m 165 #[.val (.int p1), .val (.int p2), .val (.int p3), .val (.int p4), .val (.int p5), .val (.int p3), .val (.int p4), .val (.ref b3), .val (.int 1)] [])) _
          refine Go.st (fun t k => XS.iconst X15.here hx rfl (hb hby at_165) k) ?_
          obtain ⟨fs, hr, hrun, hended, hW, hsame⟩ := X15.leave (v := some (.int (1 : Int32))) (fun h => by rw [Bd.returns] at h; cases h)
          refine Go.fin (retN X15 hx (t := .boolean) Bd.returns (by simp) (hb hby at_166) hr) hrun hended ⟨_, _, rfl, ?_, ⟨_, rfl⟩, hW, hsame.mono (by decide) (by decide)⟩
          show Q0 Z p1 p2 p3 p4 p5 w_NORMAL w_INITIATOR w_PASSIVE w_LEADER h0 n0 _ T15.heap _
          rw [e15]
          exact ⟨rfl, N15⟩
        · rw [show (f5 p3 p4) = (0 : Int32) from by unfold f5; simp only [if_pos hc7, if_neg hc8, if_true, if_false]]
          show Go _ _ _ (T6.setTop (mkF m 51 #[.val (.int p1), .val (.int p2), .val (.int p3), .val (.int p4), .val (.int p5), .val (.int p3), .val (.int p4), .val (.ref b3), .unset] [(.int 0)])) _
          refine Go.st (fun t k => XS.istore X6.here hx rfl (hb hby at_51) rfl (l' := #[.val (.int p1), .val (.int p2), .val (.int p3), .val (.int p4), .val (.int p5), .val (.int p3), .val (.int p4), .val (.ref b3), .val (.int 0)]) rfl k) ?_
          refine Go.st (fun t k => XS.iload X6.here hx rfl (hb hby at_53) rfl k) ?_
          refine Go.st (fun t k => XS.iload X6.here hx rfl (hb hby at_55) rfl k) ?_
          refine Go.st (fun t k => XS.iconst X6.here hx rfl (hb hby at_57) k) ?_
          refine Go.st (fun t k => XS.icmpNo X6.here hx rfl (hb hby at_58) rfl (teq hc7).2 k) ?_
          show Go _ _ _ (T6.setTop (mkF m 61 #[.val (.int p1), .val (.int p2), .val (.int p3), .val (.int p4), .val (.int p5), .val (.int p3), .val (.int p4), .val (.ref b3), .val (.int 0)] [(.int 0)])) _
          refine Go.st (fun t k => XS.iload X6.here hx rfl (hb hby at_61) rfl k) ?_
          refine Go.st (fun t k => XS.iconst X6.here hx rfl (hb hby at_63) k) ?_
          refine Go.st (fun t k => XS.icmpYes X6.here hx rfl (pc0 := 64) (pc' := 71) rfl (hb hby at_64) rfl (feq hc8).2 (by decide) (by decide) k) ?_
          show Go _ _ _ (T6.setTop (mkF m 71 #[.val (.int p1), .val (.int p2), .val (.int p3), .val (.int p4), .val (.int p5), .val (.int p3), .val (.int p4), .val (.ref b3), .val (.int 0)] [(.int 0)])) _
          refine Go.st (fun t k => XS.iconst X6.here hx rfl (hb hby at_71) k) ?_
          refine Go.st (fun t k => XS.icmpYes X6.here hx rfl (pc0 := 72) (pc' := 77) rfl (hb hby at_72) rfl (teq (by decide : (0 : Int32) = (0 : Int32))).1 (by decide) (by decide) k) ?_
          show Go _ _ _ (T6.setTop (mkF m 77 #[.val (.int p1), .val (.int p2), .val (.int p3), .val (.int p4), .val (.int p5), .val (.int p3), .val (.int p4), .val (.ref b3), .val (.int 0)] [])) _
          refine Go.st (fun t k => XS.iload X6.here hx rfl (hb hby at_77) rfl k) ?_
          refine Go.st (fun t k => XS.ifYes X6.here hx rfl (pc0 := 79) (pc' := 92) rfl (hb hby at_79) rfl ((if0 _ _).trans (teq (by decide : (0 : Int32) = (0 : Int32))).1) (by decide) (by decide) k) ?_
          show Go _ _ _ (T6.setTop (mkF m 92 #[.val (.int p1), .val (.int p2), .val (.int p3), .val (.int p4), .val (.int p5), .val (.int p3), .val (.int p4), .val (.ref b3), .val (.int 0)] [])) _
          refine Go.st (fun t k => XS.aload X6.here hx rfl (hb hby at_92) rfl rfl k) ?_
          obtain ⟨cq16, kq16, q16a, q16b, q16c⟩ := isOf hZ e6 E_b3
          obtain ⟨_, _, ⟨T16, L16, k16, n16⟩, -, X16, ⟨Lc16, hQ16, l16, y16, z16⟩, st16⟩ := X6.virtualBack hx (y := (⟨"com/example/lectern/lectern/catalog/Franklin$Member", "emptied", "()Lcom/example/lectern/lectern/catalog/Franklin$Member;"⟩ : MethodName)) (z := (⟨"com/example/lectern/lectern/catalog/Franklin$Member", "emptied", "()Lcom/example/lectern/lectern/catalog/Franklin$Member;"⟩ : MethodName)) hown (mvT hZ (wd34 hw)) (mvT hZ (wd35 hw)) (notFace_of_selects (args := #[]) (mvT hZ (wd37 hw))) (mvT hZ (wd37 hw)) (mvT hZ (wd36 hw)) (by decide) (backOf (W := 0) (rm6 l Z a0 hw [] b3 (f1 p1 w_NORMAL w_INITIATOR w_PASSIVE w_LEADER) p2 h5 n0 Z0 F_b3_phase F_b3_leader) hZ (wd38 hw) (wd2 hw) (by decide) (by decide)) q16a q16c (g := (mkF m 94 #[.val (.int p1), .val (.int p2), .val (.int p3), .val (.int p4), .val (.int p5), .val (.int p3), .val (.int p4), .val (.ref b3), .val (.int 0)] [(.ref b3)])) rfl (by rw [hml]; rfl) (Steps.refl _) (argsL := []) (rest := []) (lenOf pd4 rfl) rfl (by show 2 * 0 + _ ≤ _; exact Nat.le_of_eq rfl) (hb hby at_94) (fun _ _ => ⟨rfl, e6, (by decide : 1 + 1 ≤ _), (by decide : 4 + 4 ≤ _)⟩)
          dsimp only [Pt.U, Pt.locs, Pt.cells, Pt.slots] at X16 l16 y16 z16 st16 hQ16
          subst l16 y16 z16
          obtain ⟨h16, e16⟩ : ∃ z, T16.heap = z := ⟨_, rfl⟩
          rw [e16] at hQ16
          obtain ⟨x6_0_16, rfl, N16q, K16, ng_x6_0_16, sz0_x6_0_16, Q16_0, Q16_1, Q16_2, Q16_3, Q16_4⟩ := hQ16
          refine Go.tr st16 ?_
          have ne_w_NORMAL_x6_0_16 : w_NORMAL ≠ x6_0_16 := Nat.ne_of_lt (Nat.lt_of_lt_of_le E_w_NORMAL.lt sz0_x6_0_16)
          have ne_w_INITIATOR_x6_0_16 : w_INITIATOR ≠ x6_0_16 := Nat.ne_of_lt (Nat.lt_of_lt_of_le E_w_INITIATOR.lt sz0_x6_0_16)
          have ne_w_PASSIVE_x6_0_16 : w_PASSIVE ≠ x6_0_16 := Nat.ne_of_lt (Nat.lt_of_lt_of_le E_w_PASSIVE.lt sz0_x6_0_16)
          have ne_w_LEADER_x6_0_16 : w_LEADER ≠ x6_0_16 := Nat.ne_of_lt (Nat.lt_of_lt_of_le E_w_LEADER.lt sz0_x6_0_16)
          have ne_b3_x6_0_16 : b3 ≠ x6_0_16 := Nat.ne_of_lt (Nat.lt_of_lt_of_le E_b3.lt sz0_x6_0_16)
          have ne__f1_p1_w_NORMAL_w_INITIATOR_w_PASSIVE_w_LEADER__x6_0_16 : (f1 p1 w_NORMAL w_INITIATOR w_PASSIVE w_LEADER) ≠ x6_0_16 := Nat.ne_of_lt (Nat.lt_of_lt_of_le E4_r.lt sz0_x6_0_16)
          have g_x6_0_16 : n0 ≤ x6_0_16 := ng_x6_0_16
          have sz_x6_0_16 : h0.size ≤ x6_0_16 := Nat.le_trans K0.1 sz0_x6_0_16
          replace S_NORMAL := sta_keep S_NORMAL K16 all0
          replace E_w_NORMAL := E_w_NORMAL.keep K16
          replace S_INITIATOR := sta_keep S_INITIATOR K16 all0
          replace E_w_INITIATOR := E_w_INITIATOR.keep K16
          replace S_PASSIVE := sta_keep S_PASSIVE K16 all0
          replace E_w_PASSIVE := E_w_PASSIVE.keep K16
          replace S_LEADER := sta_keep S_LEADER K16 all0
          replace E_w_LEADER := E_w_LEADER.keep K16
          replace E_b3 := E_b3.keep K16
          replace E4_r := E4_r.keep K16
          replace F_b3_phase := F_b3_phase.keep K16 nin0
          replace F_b3_leader := F_b3_leader.keep K16 nin0
          replace F_b3_fromLeft := F_b3_fromLeft.keep K16 nin0
          replace F_b3_fromRight := F_b3_fromRight.keep K16 nin0
          replace Z0 := Nat.le_trans Z0 K16.1
          replace K0 := K0.trans K16 all0
          have E_x6_0_16 := Q16_0
          have F_x6_0_16_phase := Q16_1
          have F_x6_0_16_leader := Q16_2
          have F_x6_0_16_fromLeft := Q16_3
          have F_x6_0_16_fromRight := Q16_4
          have N16 := Fr.app N6 N16q
          show Go _ _ _ (T16.setTop (mkF m 97 #[.val (.int p1), .val (.int p2), .val (.int p3), .val (.int p4), .val (.int p5), .val (.int p3), .val (.int p4), .val (.ref b3), .val (.int 0)] [(.ref x6_0_16)])) _
          obtain ⟨cq17, kq17, q17a, q17b, q17c⟩ := isOf hZ e16 E_x6_0_16
          obtain ⟨_, _, ⟨T17, L17, k17, n17⟩, -, X17, ⟨Lc17, hQ17, l17, y17, z17⟩, st17⟩ := X16.virtualBack hx (y := (⟨"com/example/lectern/lectern/catalog/Franklin$Member", "slotsEmpty", "()Z"⟩ : MethodName)) (z := (⟨"com/example/lectern/lectern/catalog/Franklin$Member", "slotsEmpty", "()Z"⟩ : MethodName)) hown (mvT hZ (wd29 hw)) (mvT hZ (wd30 hw)) (notFace_of_selects (args := #[]) (mvT hZ (wd32 hw))) (mvT hZ (wd32 hw)) (mvT hZ (wd31 hw)) (by decide) (backOf (W := 0) (rm5 l Z a0 hw [] x6_0_16 (-1 : Int32) (-1 : Int32) h16 n0 Z0 F_x6_0_16_fromLeft F_x6_0_16_fromRight) hZ (wd33 hw) (wd2 hw) (by decide) (by decide)) q17a q17c (g := (mkF m 97 #[.val (.int p1), .val (.int p2), .val (.int p3), .val (.int p4), .val (.int p5), .val (.int p3), .val (.int p4), .val (.ref b3), .val (.int 0)] [(.ref x6_0_16)])) rfl (by rw [hml]; rfl) (Steps.refl _) (argsL := []) (rest := []) (lenOf pd3 rfl) rfl (by show 2 * 0 + _ ≤ _; exact Nat.le_of_eq rfl) (hb hby at_97) (fun _ _ => ⟨rfl, e16, (by decide : 2 + 0 ≤ _), (by decide : 8 + 0 ≤ _)⟩)
          dsimp only [Pt.U, Pt.locs, Pt.cells, Pt.slots] at X17 l17 y17 z17 st17 hQ17
          subst l17 y17 z17
          refine Go.tr st17 ?_
          obtain ⟨rfl, N17q, e17⟩ := hQ17
          have N17 := Fr.app N16 N17q
          show Go _ _ _ (T17.setTop (mkF m 100 #[.val (.int p1), .val (.int p2), .val (.int p3), .val (.int p4), .val (.int p5), .val (.int p3), .val (.int p4), .val (.ref b3), .val (.int 0)] [(.int (f5 (-1 : Int32) (-1 : Int32)))])) _
          rw [show (f5 (-1 : Int32) (-1 : Int32)) = (1 : Int32) from by unfold f5; simp only [if_pos (by decide : (-1 : Int32) = (-1 : Int32)), if_pos (by decide : (-1 : Int32) = (-1 : Int32)), if_true, if_false]]
          show Go _ _ _ (T17.setTop (mkF m 100 #[.val (.int p1), .val (.int p2), .val (.int p3), .val (.int p4), .val (.int p5), .val (.int p3), .val (.int p4), .val (.ref b3), .val (.int 0)] [(.int 1)])) _
          refine Go.st (fun t k => XS.ifYes X17.here hx rfl (pc0 := 100) (pc' := 105) rfl (hb hby at_100) rfl ((if0 _ _).trans (feq (by decide : ¬ ((1 : Int32) = (0 : Int32)))).2) (by decide) (by decide) k) ?_
          show Go _ _ _ (T17.setTop (mkF m 105 #[.val (.int p1), .val (.int p2), .val (.int p3), .val (.int p4), .val (.int p5), .val (.int p3), .val (.int p4), .val (.ref b3), .val (.int 0)] [])) _
          refine Go.st (fun t k => XS.aload X17.here hx rfl (hb hby at_105) rfl rfl k) ?_
          refine Go.st (fun t k => XS.iloadN X17.here hx rfl (hb hby at_107) rfl k) ?_
          obtain ⟨cq18, kq18, q18a, q18b, q18c⟩ := isOf hZ e17 E_b3
          obtain ⟨_, _, ⟨T18, L18, k18, n18⟩, -, X18, ⟨Lc18, hQ18, l18, y18, z18⟩, st18⟩ := X17.virtualBack hx (y := (⟨"com/example/lectern/lectern/catalog/Franklin$Member", "takenFromLeft", "(I)Lcom/example/lectern/lectern/catalog/Franklin$Member;"⟩ : MethodName)) (z := (⟨"com/example/lectern/lectern/catalog/Franklin$Member", "takenFromLeft", "(I)Lcom/example/lectern/lectern/catalog/Franklin$Member;"⟩ : MethodName)) hown (mvT hZ (wd41 hw)) (mvT hZ (wd42 hw)) (notFace_of_selects (args := #[]) (mvT hZ (wd44 hw))) (mvT hZ (wd44 hw)) (mvT hZ (wd43 hw)) (by decide) (backOf (W := 0) (rm7 l Z a0 hw [] b3 p4 (f1 p1 w_NORMAL w_INITIATOR w_PASSIVE w_LEADER) p2 p4 h16 n0 Z0 F_b3_phase F_b3_leader F_b3_fromRight) hZ (wd45 hw) (wd2 hw) (by decide) (by decide)) q18a q18c (g := (mkF m 108 #[.val (.int p1), .val (.int p2), .val (.int p3), .val (.int p4), .val (.int p5), .val (.int p3), .val (.int p4), .val (.ref b3), .val (.int 0)] [(.int p4), (.ref b3)])) rfl (by rw [hml]; rfl) (Steps.refl _) (argsL := [(.int p4)]) (rest := []) (lenOf pd5 rfl) rfl (by show 2 * 0 + _ ≤ _; exact Nat.le_of_eq rfl) (hb hby at_108) (fun _ _ => ⟨rfl, e17, (by decide : 2 + 1 ≤ _), (by decide : 8 + 4 ≤ _)⟩)
          dsimp only [Pt.U, Pt.locs, Pt.cells, Pt.slots] at X18 l18 y18 z18 st18 hQ18
          subst l18 y18 z18
          obtain ⟨h18, e18⟩ : ∃ z, T18.heap = z := ⟨_, rfl⟩
          rw [e18] at hQ18
          obtain ⟨x7_0_18, rfl, N18q, K18, ng_x7_0_18, sz0_x7_0_18, Q18_0, Q18_1, Q18_2, Q18_3, Q18_4⟩ := hQ18
          refine Go.tr st18 ?_
          have ne_w_NORMAL_x7_0_18 : w_NORMAL ≠ x7_0_18 := Nat.ne_of_lt (Nat.lt_of_lt_of_le E_w_NORMAL.lt sz0_x7_0_18)
          have ne_w_INITIATOR_x7_0_18 : w_INITIATOR ≠ x7_0_18 := Nat.ne_of_lt (Nat.lt_of_lt_of_le E_w_INITIATOR.lt sz0_x7_0_18)
          have ne_w_PASSIVE_x7_0_18 : w_PASSIVE ≠ x7_0_18 := Nat.ne_of_lt (Nat.lt_of_lt_of_le E_w_PASSIVE.lt sz0_x7_0_18)
          have ne_w_LEADER_x7_0_18 : w_LEADER ≠ x7_0_18 := Nat.ne_of_lt (Nat.lt_of_lt_of_le E_w_LEADER.lt sz0_x7_0_18)
          have ne_b3_x7_0_18 : b3 ≠ x7_0_18 := Nat.ne_of_lt (Nat.lt_of_lt_of_le E_b3.lt sz0_x7_0_18)
          have ne__f1_p1_w_NORMAL_w_INITIATOR_w_PASSIVE_w_LEADER__x7_0_18 : (f1 p1 w_NORMAL w_INITIATOR w_PASSIVE w_LEADER) ≠ x7_0_18 := Nat.ne_of_lt (Nat.lt_of_lt_of_le E4_r.lt sz0_x7_0_18)
          have ne_x6_0_16_x7_0_18 : x6_0_16 ≠ x7_0_18 := Nat.ne_of_lt (Nat.lt_of_lt_of_le E_x6_0_16.lt sz0_x7_0_18)
          have g_x7_0_18 : n0 ≤ x7_0_18 := ng_x7_0_18
          have sz_x7_0_18 : h0.size ≤ x7_0_18 := Nat.le_trans K0.1 sz0_x7_0_18
          replace S_NORMAL := sta_keep S_NORMAL K18 all0
          replace E_w_NORMAL := E_w_NORMAL.keep K18
          replace S_INITIATOR := sta_keep S_INITIATOR K18 all0
          replace E_w_INITIATOR := E_w_INITIATOR.keep K18
          replace S_PASSIVE := sta_keep S_PASSIVE K18 all0
          replace E_w_PASSIVE := E_w_PASSIVE.keep K18
          replace S_LEADER := sta_keep S_LEADER K18 all0
          replace E_w_LEADER := E_w_LEADER.keep K18
          replace E_b3 := E_b3.keep K18
          replace E4_r := E4_r.keep K18
          replace F_b3_phase := F_b3_phase.keep K18 nin0
          replace F_b3_leader := F_b3_leader.keep K18 nin0
          replace F_b3_fromLeft := F_b3_fromLeft.keep K18 nin0
          replace F_b3_fromRight := F_b3_fromRight.keep K18 nin0
          replace E_x6_0_16 := E_x6_0_16.keep K18
          replace F_x6_0_16_phase := F_x6_0_16_phase.keep K18 nin0
          replace F_x6_0_16_leader := F_x6_0_16_leader.keep K18 nin0
          replace F_x6_0_16_fromLeft := F_x6_0_16_fromLeft.keep K18 nin0
          replace F_x6_0_16_fromRight := F_x6_0_16_fromRight.keep K18 nin0
          replace Z0 := Nat.le_trans Z0 K18.1
          replace K0 := K0.trans K18 all0
          have E_x7_0_18 := Q18_0
          have F_x7_0_18_phase := Q18_1
          have F_x7_0_18_leader := Q18_2
          have F_x7_0_18_fromLeft := Q18_3
          have F_x7_0_18_fromRight := Q18_4
          have N18 := Fr.app N17 N18q
          show Go _ _ _ (T18.setTop (mkF m 111 #[.val (.int p1), .val (.int p2), .val (.int p3), .val (.int p4), .val (.int p5), .val (.int p3), .val (.int p4), .val (.ref b3), .val (.int 0)] [(.ref x7_0_18)])) _
          obtain ⟨cq19, kq19, q19a, q19b, q19c⟩ := isOf hZ e18 E_x7_0_18
          obtain ⟨_, _, ⟨T19, L19, k19, n19⟩, -, X19, ⟨Lc19, hQ19, l19, y19, z19⟩, st19⟩ := X18.virtualBack hx (y := (⟨"com/example/lectern/lectern/catalog/Franklin$Member", "slotsEmpty", "()Z"⟩ : MethodName)) (z := (⟨"com/example/lectern/lectern/catalog/Franklin$Member", "slotsEmpty", "()Z"⟩ : MethodName)) hown (mvT hZ (wd29 hw)) (mvT hZ (wd30 hw)) (notFace_of_selects (args := #[]) (mvT hZ (wd32 hw))) (mvT hZ (wd32 hw)) (mvT hZ (wd31 hw)) (by decide) (backOf (W := 0) (rm5 l Z a0 hw [] x7_0_18 p4 p4 h18 n0 Z0 F_x7_0_18_fromLeft F_x7_0_18_fromRight) hZ (wd33 hw) (wd2 hw) (by decide) (by decide)) q19a q19c (g := (mkF m 111 #[.val (.int p1), .val (.int p2), .val (.int p3), .val (.int p4), .val (.int p5), .val (.int p3), .val (.int p4), .val (.ref b3), .val (.int 0)] [(.ref x7_0_18)])) rfl (by rw [hml]; rfl) (Steps.refl _) (argsL := []) (rest := []) (lenOf pd3 rfl) rfl (by show 2 * 0 + _ ≤ _; exact Nat.le_of_eq rfl) (hb hby at_111) (fun _ _ => ⟨rfl, e18, (by decide : 3 + 0 ≤ _), (by decide : 12 + 0 ≤ _)⟩)
          dsimp only [Pt.U, Pt.locs, Pt.cells, Pt.slots] at X19 l19 y19 z19 st19 hQ19
          subst l19 y19 z19
          refine Go.tr st19 ?_
          obtain ⟨rfl, N19q, e19⟩ := hQ19
          have N19 := Fr.app N18 N19q
          show Go _ _ _ (T19.setTop (mkF m 114 #[.val (.int p1), .val (.int p2), .val (.int p3), .val (.int p4), .val (.int p5), .val (.int p3), .val (.int p4), .val (.ref b3), .val (.int 0)] [(.int (f5 p4 p4))])) _
          rw [show (f5 p4 p4) = (0 : Int32) from by unfold f5; simp only [if_neg hc8, if_true, if_false]]
          show Go _ _ _ (T19.setTop (mkF m 114 #[.val (.int p1), .val (.int p2), .val (.int p3), .val (.int p4), .val (.int p5), .val (.int p3), .val (.int p4), .val (.ref b3), .val (.int 0)] [(.int 0)])) _
          refine Go.st (fun t k => XS.iloadN X19.here hx rfl (hb hby at_114) rfl k) ?_
          refine Go.st (fun t k => XS.iconst X19.here hx rfl (hb hby at_115) k) ?_
          refine Go.st (fun t k => XS.icmpYes X19.here hx rfl (pc0 := 116) (pc' := 129) rfl (hb hby at_116) rfl (feq hc8).2 (by decide) (by decide) k) ?_
          show Go _ _ _ (T19.setTop (mkF m 129 #[.val (.int p1), .val (.int p2), .val (.int p3), .val (.int p4), .val (.int p5), .val (.int p3), .val (.int p4), .val (.ref b3), .val (.int 0)] [(.int 0)])) _
          refine Go.st (fun t k => XS.iconst X19.here hx rfl (hb hby at_129) k) ?_
          refine Go.st (fun t k => XS.icmpYes X19.here hx rfl (pc0 := 130) (pc' := 135) rfl (hb hby at_130) rfl (teq (by decide : (0 : Int32) = (0 : Int32))).1 (by decide) (by decide) k) ?_
          show Go _ _ _ (T19.setTop (mkF m 135 #[.val (.int p1), .val (.int p2), .val (.int p3), .val (.int p4), .val (.int p5), .val (.int p3), .val (.int p4), .val (.ref b3), .val (.int 0)] [])) _
          refine Go.st (fun t k => XS.aload X19.here hx rfl (hb hby at_135) rfl rfl k) ?_
          refine Go.st (fun t k => XS.iloadN X19.here hx rfl (hb hby at_137) rfl k) ?_
          obtain ⟨cq20, kq20, q20a, q20b, q20c⟩ := isOf hZ e19 E_b3
          obtain ⟨_, _, ⟨T20, L20, k20, n20⟩, -, X20, ⟨Lc20, hQ20, l20, y20, z20⟩, st20⟩ := X19.virtualBack hx (y := (⟨"com/example/lectern/lectern/catalog/Franklin$Member", "takenFromRight", "(I)Lcom/example/lectern/lectern/catalog/Franklin$Member;"⟩ : MethodName)) (z := (⟨"com/example/lectern/lectern/catalog/Franklin$Member", "takenFromRight", "(I)Lcom/example/lectern/lectern/catalog/Franklin$Member;"⟩ : MethodName)) hown (mvT hZ (wd46 hw)) (mvT hZ (wd47 hw)) (notFace_of_selects (args := #[]) (mvT hZ (wd49 hw))) (mvT hZ (wd49 hw)) (mvT hZ (wd48 hw)) (by decide) (backOf (W := 0) (rm8 l Z a0 hw [] b3 p3 (f1 p1 w_NORMAL w_INITIATOR w_PASSIVE w_LEADER) p2 p3 h18 n0 Z0 F_b3_phase F_b3_leader F_b3_fromLeft) hZ (wd50 hw) (wd2 hw) (by decide) (by decide)) q20a q20c (g := (mkF m 138 #[.val (.int p1), .val (.int p2), .val (.int p3), .val (.int p4), .val (.int p5), .val (.int p3), .val (.int p4), .val (.ref b3), .val (.int 0)] [(.int p3), (.ref b3)])) rfl (by rw [hml]; rfl) (Steps.refl _) (argsL := [(.int p3)]) (rest := []) (lenOf pd5 rfl) rfl (by show 2 * 0 + _ ≤ _; exact Nat.le_of_eq rfl) (hb hby at_138) (fun _ _ => ⟨rfl, e19, (by decide : 3 + 1 ≤ _), (by decide : 12 + 4 ≤ _)⟩)
          dsimp only [Pt.U, Pt.locs, Pt.cells, Pt.slots] at X20 l20 y20 z20 st20 hQ20
          subst l20 y20 z20
          obtain ⟨h20, e20⟩ : ∃ z, T20.heap = z := ⟨_, rfl⟩
          rw [e20] at hQ20
          obtain ⟨x8_0_20, rfl, N20q, K20, ng_x8_0_20, sz0_x8_0_20, Q20_0, Q20_1, Q20_2, Q20_3, Q20_4⟩ := hQ20
          refine Go.tr st20 ?_
          have ne_w_NORMAL_x8_0_20 : w_NORMAL ≠ x8_0_20 := Nat.ne_of_lt (Nat.lt_of_lt_of_le E_w_NORMAL.lt sz0_x8_0_20)
          have ne_w_INITIATOR_x8_0_20 : w_INITIATOR ≠ x8_0_20 := Nat.ne_of_lt (Nat.lt_of_lt_of_le E_w_INITIATOR.lt sz0_x8_0_20)
          have ne_w_PASSIVE_x8_0_20 : w_PASSIVE ≠ x8_0_20 := Nat.ne_of_lt (Nat.lt_of_lt_of_le E_w_PASSIVE.lt sz0_x8_0_20)
          have ne_w_LEADER_x8_0_20 : w_LEADER ≠ x8_0_20 := Nat.ne_of_lt (Nat.lt_of_lt_of_le E_w_LEADER.lt sz0_x8_0_20)
          have ne_b3_x8_0_20 : b3 ≠ x8_0_20 := Nat.ne_of_lt (Nat.lt_of_lt_of_le E_b3.lt sz0_x8_0_20)
          have ne__f1_p1_w_NORMAL_w_INITIATOR_w_PASSIVE_w_LEADER__x8_0_20 : (f1 p1 w_NORMAL w_INITIATOR w_PASSIVE w_LEADER) ≠ x8_0_20 := Nat.ne_of_lt (Nat.lt_of_lt_of_le E4_r.lt sz0_x8_0_20)
          have ne_x6_0_16_x8_0_20 : x6_0_16 ≠ x8_0_20 := Nat.ne_of_lt (Nat.lt_of_lt_of_le E_x6_0_16.lt sz0_x8_0_20)
          have ne_x7_0_18_x8_0_20 : x7_0_18 ≠ x8_0_20 := Nat.ne_of_lt (Nat.lt_of_lt_of_le E_x7_0_18.lt sz0_x8_0_20)
          have g_x8_0_20 : n0 ≤ x8_0_20 := ng_x8_0_20
          have sz_x8_0_20 : h0.size ≤ x8_0_20 := Nat.le_trans K0.1 sz0_x8_0_20
          replace S_NORMAL := sta_keep S_NORMAL K20 all0
          replace E_w_NORMAL := E_w_NORMAL.keep K20
          replace S_INITIATOR := sta_keep S_INITIATOR K20 all0
          replace E_w_INITIATOR := E_w_INITIATOR.keep K20
          replace S_PASSIVE := sta_keep S_PASSIVE K20 all0
          replace E_w_PASSIVE := E_w_PASSIVE.keep K20
          replace S_LEADER := sta_keep S_LEADER K20 all0
          replace E_w_LEADER := E_w_LEADER.keep K20
          replace E_b3 := E_b3.keep K20
          replace E4_r := E4_r.keep K20
          replace F_b3_phase := F_b3_phase.keep K20 nin0
          replace F_b3_leader := F_b3_leader.keep K20 nin0
          replace F_b3_fromLeft := F_b3_fromLeft.keep K20 nin0
          replace F_b3_fromRight := F_b3_fromRight.keep K20 nin0
          replace E_x6_0_16 := E_x6_0_16.keep K20
          replace F_x6_0_16_phase := F_x6_0_16_phase.keep K20 nin0
          replace F_x6_0_16_leader := F_x6_0_16_leader.keep K20 nin0
          replace F_x6_0_16_fromLeft := F_x6_0_16_fromLeft.keep K20 nin0
          replace F_x6_0_16_fromRight := F_x6_0_16_fromRight.keep K20 nin0
          replace E_x7_0_18 := E_x7_0_18.keep K20
          replace F_x7_0_18_phase := F_x7_0_18_phase.keep K20 nin0
          replace F_x7_0_18_leader := F_x7_0_18_leader.keep K20 nin0
          replace F_x7_0_18_fromLeft := F_x7_0_18_fromLeft.keep K20 nin0
          replace F_x7_0_18_fromRight := F_x7_0_18_fromRight.keep K20 nin0
          replace Z0 := Nat.le_trans Z0 K20.1
          replace K0 := K0.trans K20 all0
          have E_x8_0_20 := Q20_0
          have F_x8_0_20_phase := Q20_1
          have F_x8_0_20_leader := Q20_2
          have F_x8_0_20_fromLeft := Q20_3
          have F_x8_0_20_fromRight := Q20_4
          have N20 := Fr.app N19 N20q
          show Go _ _ _ (T20.setTop (mkF m 141 #[.val (.int p1), .val (.int p2), .val (.int p3), .val (.int p4), .val (.int p5), .val (.int p3), .val (.int p4), .val (.ref b3), .val (.int 0)] [(.ref x8_0_20)])) _
          obtain ⟨cq21, kq21, q21a, q21b, q21c⟩ := isOf hZ e20 E_x8_0_20
          obtain ⟨_, _, ⟨T21, L21, k21, n21⟩, -, X21, ⟨Lc21, hQ21, l21, y21, z21⟩, st21⟩ := X20.virtualBack hx (y := (⟨"com/example/lectern/lectern/catalog/Franklin$Member", "slotsEmpty", "()Z"⟩ : MethodName)) (z := (⟨"com/example/lectern/lectern/catalog/Franklin$Member", "slotsEmpty", "()Z"⟩ : MethodName)) hown (mvT hZ (wd29 hw)) (mvT hZ (wd30 hw)) (notFace_of_selects (args := #[]) (mvT hZ (wd32 hw))) (mvT hZ (wd32 hw)) (mvT hZ (wd31 hw)) (by decide) (backOf (W := 0) (rm5 l Z a0 hw [] x8_0_20 p3 p3 h20 n0 Z0 F_x8_0_20_fromLeft F_x8_0_20_fromRight) hZ (wd33 hw) (wd2 hw) (by decide) (by decide)) q21a q21c (g := (mkF m 141 #[.val (.int p1), .val (.int p2), .val (.int p3), .val (.int p4), .val (.int p5), .val (.int p3), .val (.int p4), .val (.ref b3), .val (.int 0)] [(.ref x8_0_20)])) rfl (by rw [hml]; rfl) (Steps.refl _) (argsL := []) (rest := []) (lenOf pd3 rfl) rfl (by show 2 * 0 + _ ≤ _; exact Nat.le_of_eq rfl) (hb hby at_141) (fun _ _ => ⟨rfl, e20, (by decide : 4 + 0 ≤ _), (by decide : 16 + 0 ≤ _)⟩)
          dsimp only [Pt.U, Pt.locs, Pt.cells, Pt.slots] at X21 l21 y21 z21 st21 hQ21
          subst l21 y21 z21
          refine Go.tr st21 ?_
          obtain ⟨rfl, N21q, e21⟩ := hQ21
          have N21 := Fr.app N20 N21q
          show Go _ _ _ (T21.setTop (mkF m 144 #[.val (.int p1), .val (.int p2), .val (.int p3), .val (.int p4), .val (.int p5), .val (.int p3), .val (.int p4), .val (.ref b3), .val (.int 0)] [(.int (f5 p3 p3))])) _
          rw [show (f5 p3 p3) = (1 : Int32) from by unfold f5; simp only [if_pos hc7, if_pos hc7, if_true, if_false]]
          show Go _ _ _ (T21.setTop (mkF m 144 #[.val (.int p1), .val (.int p2), .val (.int p3), .val (.int p4), .val (.int p5), .val (.int p3), .val (.int p4), .val (.ref b3), .val (.int 0)] [(.int 1)])) _
          refine Go.st (fun t k => XS.iload X21.here hx rfl (hb hby at_144) rfl k) ?_
          refine Go.st (fun t k => XS.iconst X21.here hx rfl (hb hby at_146) k) ?_
          refine Go.st (fun t k => XS.icmpNo X21.here hx rfl (hb hby at_147) rfl (teq hc7).2 k) ?_
          show Go _ _ _ (T21.setTop (mkF m 150 #[.val (.int p1), .val (.int p2), .val (.int p3), .val (.int p4), .val (.int p5), .val (.int p3), .val (.int p4), .val (.ref b3), .val (.int 0)] [(.int 1)])) _
          refine Go.st (fun t k => XS.iloadN X21.here hx rfl (hb hby at_150) rfl k) ?_
          refine Go.st (fun t k => XS.iconst X21.here hx rfl (hb hby at_151) k) ?_
          refine Go.st (fun t k => XS.icmpNo X21.here hx rfl (hb hby at_152) rfl (teq hc7).2 k) ?_
          show Go _ _ _ (T21.setTop (mkF m 155 #[.val (.int p1), .val (.int p2), .val (.int p3), .val (.int p4), .val (.int p5), .val (.int p3), .val (.int p4), .val (.ref b3), .val (.int 0)] [(.int 1)])) _
          refine Go.st (fun t k => XS.iconst X21.here hx rfl (hb hby at_155) k) ?_
          refine Go.st (fun t k => XS.goto X21.here hx rfl (pc0 := 156) (pc' := 160) rfl (hb hby at_156) (by decide) (by decide) k) ?_
          refine Go.st (fun t k => XS.icmpYes X21.here hx rfl (pc0 := 160) (pc' := 165) rfl (hb hby at_160) rfl (teq (by decide : (1 : Int32) = (1 : Int32))).1 (by decide) (by decide) k) ?_
          show Go _ _ _ (T21.setTop (mkF m 165 #[.val (.int p1), .val (.int p2), .val (.int p3), .val (.int p4), .val (.int p5), .val (.int p3), .val (.int p4), .val (.ref b3), .val (.int 0)] [])) _
          refine Go.st (fun t k => XS.iconst X21.here hx rfl (hb hby at_165) k) ?_
          obtain ⟨fs, hr, hrun, hended, hW, hsame⟩ := X21.leave (v := some (.int (1 : Int32))) (fun h => by rw [Bd.returns] at h; cases h)
          refine Go.fin (retN X21 hx (t := .boolean) Bd.returns (by simp) (hb hby at_166) hr) hrun hended ⟨_, _, rfl, ?_, ⟨_, rfl⟩, hW, hsame.mono (by decide) (by decide)⟩
          show Q0 Z p1 p2 p3 p4 p5 w_NORMAL w_INITIATOR w_PASSIVE w_LEADER h0 n0 _ T21.heap _
          rw [e21]
          exact ⟨rfl, N21⟩
      · rw [show (f5 p3 p4) = (0 : Int32) from by unfold f5; simp only [if_neg hc7, if_true, if_false]]
        show Go _ _ _ (T6.setTop (mkF m 51 #[.val (.int p1), .val (.int p2), .val (.int p3), .val (.int p4), .val (.int p5), .val (.int p3), .val (.int p4), .val (.ref b3), .unset] [(.int 0)])) _
        refine Go.st (fun t k => XS.istore X6.here hx rfl (hb hby at_51) rfl (l' := #[.val (.int p1), .val (.int p2), .val (.int p3), .val (.int p4), .val (.int p5), .val (.int p3), .val (.int p4), .val (.ref b3), .val (.int 0)]) rfl k) ?_
        refine Go.st (fun t k => XS.iload X6.here hx rfl (hb hby at_53) rfl k) ?_
        refine Go.st (fun t k => XS.iload X6.here hx rfl (hb hby at_55) rfl k) ?_
        refine Go.st (fun t k => XS.iconst X6.here hx rfl (hb hby at_57) k) ?_
        refine Go.st (fun t k => XS.icmpYes X6.here hx rfl (pc0 := 58) (pc' := 71) rfl (hb hby at_58) rfl (feq hc7).2 (by decide) (by decide) k) ?_
        show Go _ _ _ (T6.setTop (mkF m 71 #[.val (.int p1), .val (.int p2), .val (.int p3), .val (.int p4), .val (.int p5), .val (.int p3), .val (.int p4), .val (.ref b3), .val (.int 0)] [(.int 0)])) _
        refine Go.st (fun t k => XS.iconst X6.here hx rfl (hb hby at_71) k) ?_
        refine Go.st (fun t k => XS.icmpYes X6.here hx rfl (pc0 := 72) (pc' := 77) rfl (hb hby at_72) rfl (teq (by decide : (0 : Int32) = (0 : Int32))).1 (by decide) (by decide) k) ?_
        show Go _ _ _ (T6.setTop (mkF m 77 #[.val (.int p1), .val (.int p2), .val (.int p3), .val (.int p4), .val (.int p5), .val (.int p3), .val (.int p4), .val (.ref b3), .val (.int 0)] [])) _
        refine Go.st (fun t k => XS.iload X6.here hx rfl (hb hby at_77) rfl k) ?_
        refine Go.st (fun t k => XS.ifYes X6.here hx rfl (pc0 := 79) (pc' := 92) rfl (hb hby at_79) rfl ((if0 _ _).trans (teq (by decide : (0 : Int32) = (0 : Int32))).1) (by decide) (by decide) k) ?_
        show Go _ _ _ (T6.setTop (mkF m 92 #[.val (.int p1), .val (.int p2), .val (.int p3), .val (.int p4), .val (.int p5), .val (.int p3), .val (.int p4), .val (.ref b3), .val (.int 0)] [])) _
        refine Go.st (fun t k => XS.aload X6.here hx rfl (hb hby at_92) rfl rfl k) ?_
        obtain ⟨cq22, kq22, q22a, q22b, q22c⟩ := isOf hZ e6 E_b3
        obtain ⟨_, _, ⟨T22, L22, k22, n22⟩, -, X22, ⟨Lc22, hQ22, l22, y22, z22⟩, st22⟩ := X6.virtualBack hx (y := (⟨"com/example/lectern/lectern/catalog/Franklin$Member", "emptied", "()Lcom/example/lectern/lectern/catalog/Franklin$Member;"⟩ : MethodName)) (z := (⟨"com/example/lectern/lectern/catalog/Franklin$Member", "emptied", "()Lcom/example/lectern/lectern/catalog/Franklin$Member;"⟩ : MethodName)) hown (mvT hZ (wd34 hw)) (mvT hZ (wd35 hw)) (notFace_of_selects (args := #[]) (mvT hZ (wd37 hw))) (mvT hZ (wd37 hw)) (mvT hZ (wd36 hw)) (by decide) (backOf (W := 0) (rm6 l Z a0 hw [] b3 (f1 p1 w_NORMAL w_INITIATOR w_PASSIVE w_LEADER) p2 h5 n0 Z0 F_b3_phase F_b3_leader) hZ (wd38 hw) (wd2 hw) (by decide) (by decide)) q22a q22c (g := (mkF m 94 #[.val (.int p1), .val (.int p2), .val (.int p3), .val (.int p4), .val (.int p5), .val (.int p3), .val (.int p4), .val (.ref b3), .val (.int 0)] [(.ref b3)])) rfl (by rw [hml]; rfl) (Steps.refl _) (argsL := []) (rest := []) (lenOf pd4 rfl) rfl (by show 2 * 0 + _ ≤ _; exact Nat.le_of_eq rfl) (hb hby at_94) (fun _ _ => ⟨rfl, e6, (by decide : 1 + 1 ≤ _), (by decide : 4 + 4 ≤ _)⟩)
        dsimp only [Pt.U, Pt.locs, Pt.cells, Pt.slots] at X22 l22 y22 z22 st22 hQ22
        subst l22 y22 z22
        obtain ⟨h22, e22⟩ : ∃ z, T22.heap = z := ⟨_, rfl⟩
        rw [e22] at hQ22
        obtain ⟨x6_0_22, rfl, N22q, K22, ng_x6_0_22, sz0_x6_0_22, Q22_0, Q22_1, Q22_2, Q22_3, Q22_4⟩ := hQ22
        refine Go.tr st22 ?_
        have ne_w_NORMAL_x6_0_22 : w_NORMAL ≠ x6_0_22 := Nat.ne_of_lt (Nat.lt_of_lt_of_le E_w_NORMAL.lt sz0_x6_0_22)
        have ne_w_INITIATOR_x6_0_22 : w_INITIATOR ≠ x6_0_22 := Nat.ne_of_lt (Nat.lt_of_lt_of_le E_w_INITIATOR.lt sz0_x6_0_22)
        have ne_w_PASSIVE_x6_0_22 : w_PASSIVE ≠ x6_0_22 := Nat.ne_of_lt (Nat.lt_of_lt_of_le E_w_PASSIVE.lt sz0_x6_0_22)
        have ne_w_LEADER_x6_0_22 : w_LEADER ≠ x6_0_22 := Nat.ne_of_lt (Nat.lt_of_lt_of_le E_w_LEADER.lt sz0_x6_0_22)
        have ne_b3_x6_0_22 : b3 ≠ x6_0_22 := Nat.ne_of_lt (Nat.lt_of_lt_of_le E_b3.lt sz0_x6_0_22)
        have ne__f1_p1_w_NORMAL_w_INITIATOR_w_PASSIVE_w_LEADER__x6_0_22 : (f1 p1 w_NORMAL w_INITIATOR w_PASSIVE w_LEADER) ≠ x6_0_22 := Nat.ne_of_lt (Nat.lt_of_lt_of_le E4_r.lt sz0_x6_0_22)
        have g_x6_0_22 : n0 ≤ x6_0_22 := ng_x6_0_22
        have sz_x6_0_22 : h0.size ≤ x6_0_22 := Nat.le_trans K0.1 sz0_x6_0_22
        replace S_NORMAL := sta_keep S_NORMAL K22 all0
        replace E_w_NORMAL := E_w_NORMAL.keep K22
        replace S_INITIATOR := sta_keep S_INITIATOR K22 all0
        replace E_w_INITIATOR := E_w_INITIATOR.keep K22
        replace S_PASSIVE := sta_keep S_PASSIVE K22 all0
        replace E_w_PASSIVE := E_w_PASSIVE.keep K22
        replace S_LEADER := sta_keep S_LEADER K22 all0
        replace E_w_LEADER := E_w_LEADER.keep K22
        replace E_b3 := E_b3.keep K22
        replace E4_r := E4_r.keep K22
        replace F_b3_phase := F_b3_phase.keep K22 nin0
        replace F_b3_leader := F_b3_leader.keep K22 nin0
        replace F_b3_fromLeft := F_b3_fromLeft.keep K22 nin0
        replace F_b3_fromRight := F_b3_fromRight.keep K22 nin0
        replace Z0 := Nat.le_trans Z0 K22.1
        replace K0 := K0.trans K22 all0
        have E_x6_0_22 := Q22_0
        have F_x6_0_22_phase := Q22_1
        have F_x6_0_22_leader := Q22_2
        have F_x6_0_22_fromLeft := Q22_3
        have F_x6_0_22_fromRight := Q22_4
        have N22 := Fr.app N6 N22q
        show Go _ _ _ (T22.setTop (mkF m 97 #[.val (.int p1), .val (.int p2), .val (.int p3), .val (.int p4), .val (.int p5), .val (.int p3), .val (.int p4), .val (.ref b3), .val (.int 0)] [(.ref x6_0_22)])) _
        obtain ⟨cq23, kq23, q23a, q23b, q23c⟩ := isOf hZ e22 E_x6_0_22
        obtain ⟨_, _, ⟨T23, L23, k23, n23⟩, -, X23, ⟨Lc23, hQ23, l23, y23, z23⟩, st23⟩ := X22.virtualBack hx (y := (⟨"com/example/lectern/lectern/catalog/Franklin$Member", "slotsEmpty", "()Z"⟩ : MethodName)) (z := (⟨"com/example/lectern/lectern/catalog/Franklin$Member", "slotsEmpty", "()Z"⟩ : MethodName)) hown (mvT hZ (wd29 hw)) (mvT hZ (wd30 hw)) (notFace_of_selects (args := #[]) (mvT hZ (wd32 hw))) (mvT hZ (wd32 hw)) (mvT hZ (wd31 hw)) (by decide) (backOf (W := 0) (rm5 l Z a0 hw [] x6_0_22 (-1 : Int32) (-1 : Int32) h22 n0 Z0 F_x6_0_22_fromLeft F_x6_0_22_fromRight) hZ (wd33 hw) (wd2 hw) (by decide) (by decide)) q23a q23c (g := (mkF m 97 #[.val (.int p1), .val (.int p2), .val (.int p3), .val (.int p4), .val (.int p5), .val (.int p3), .val (.int p4), .val (.ref b3), .val (.int 0)] [(.ref x6_0_22)])) rfl (by rw [hml]; rfl) (Steps.refl _) (argsL := []) (rest := []) (lenOf pd3 rfl) rfl (by show 2 * 0 + _ ≤ _; exact Nat.le_of_eq rfl) (hb hby at_97) (fun _ _ => ⟨rfl, e22, (by decide : 2 + 0 ≤ _), (by decide : 8 + 0 ≤ _)⟩)
        dsimp only [Pt.U, Pt.locs, Pt.cells, Pt.slots] at X23 l23 y23 z23 st23 hQ23
        subst l23 y23 z23
        refine Go.tr st23 ?_
        obtain ⟨rfl, N23q, e23⟩ := hQ23
        have N23 := Fr.app N22 N23q
        show Go _ _ _ (T23.setTop (mkF m 100 #[.val (.int p1), .val (.int p2), .val (.int p3), .val (.int p4), .val (.int p5), .val (.int p3), .val (.int p4), .val (.ref b3), .val (.int 0)] [(.int (f5 (-1 : Int32) (-1 : Int32)))])) _
        rw [show (f5 (-1 : Int32) (-1 : Int32)) = (1 : Int32) from by unfold f5; simp only [if_pos (by decide : (-1 : Int32) = (-1 : Int32)), if_pos (by decide : (-1 : Int32) = (-1 : Int32)), if_true, if_false]]
        show Go _ _ _ (T23.setTop (mkF m 100 #[.val (.int p1), .val (.int p2), .val (.int p3), .val (.int p4), .val (.int p5), .val (.int p3), .val (.int p4), .val (.ref b3), .val (.int 0)] [(.int 1)])) _
        refine Go.st (fun t k => XS.ifYes X23.here hx rfl (pc0 := 100) (pc' := 105) rfl (hb hby at_100) rfl ((if0 _ _).trans (feq (by decide : ¬ ((1 : Int32) = (0 : Int32)))).2) (by decide) (by decide) k) ?_
        show Go _ _ _ (T23.setTop (mkF m 105 #[.val (.int p1), .val (.int p2), .val (.int p3), .val (.int p4), .val (.int p5), .val (.int p3), .val (.int p4), .val (.ref b3), .val (.int 0)] [])) _
        refine Go.st (fun t k => XS.aload X23.here hx rfl (hb hby at_105) rfl rfl k) ?_
        refine Go.st (fun t k => XS.iloadN X23.here hx rfl (hb hby at_107) rfl k) ?_
        obtain ⟨cq24, kq24, q24a, q24b, q24c⟩ := isOf hZ e23 E_b3
        obtain ⟨_, _, ⟨T24, L24, k24, n24⟩, -, X24, ⟨Lc24, hQ24, l24, y24, z24⟩, st24⟩ := X23.virtualBack hx (y := (⟨"com/example/lectern/lectern/catalog/Franklin$Member", "takenFromLeft", "(I)Lcom/example/lectern/lectern/catalog/Franklin$Member;"⟩ : MethodName)) (z := (⟨"com/example/lectern/lectern/catalog/Franklin$Member", "takenFromLeft", "(I)Lcom/example/lectern/lectern/catalog/Franklin$Member;"⟩ : MethodName)) hown (mvT hZ (wd41 hw)) (mvT hZ (wd42 hw)) (notFace_of_selects (args := #[]) (mvT hZ (wd44 hw))) (mvT hZ (wd44 hw)) (mvT hZ (wd43 hw)) (by decide) (backOf (W := 0) (rm7 l Z a0 hw [] b3 p4 (f1 p1 w_NORMAL w_INITIATOR w_PASSIVE w_LEADER) p2 p4 h22 n0 Z0 F_b3_phase F_b3_leader F_b3_fromRight) hZ (wd45 hw) (wd2 hw) (by decide) (by decide)) q24a q24c (g := (mkF m 108 #[.val (.int p1), .val (.int p2), .val (.int p3), .val (.int p4), .val (.int p5), .val (.int p3), .val (.int p4), .val (.ref b3), .val (.int 0)] [(.int p4), (.ref b3)])) rfl (by rw [hml]; rfl) (Steps.refl _) (argsL := [(.int p4)]) (rest := []) (lenOf pd5 rfl) rfl (by show 2 * 0 + _ ≤ _; exact Nat.le_of_eq rfl) (hb hby at_108) (fun _ _ => ⟨rfl, e23, (by decide : 2 + 1 ≤ _), (by decide : 8 + 4 ≤ _)⟩)
        dsimp only [Pt.U, Pt.locs, Pt.cells, Pt.slots] at X24 l24 y24 z24 st24 hQ24
        subst l24 y24 z24
        obtain ⟨h24, e24⟩ : ∃ z, T24.heap = z := ⟨_, rfl⟩
        rw [e24] at hQ24
        obtain ⟨x7_0_24, rfl, N24q, K24, ng_x7_0_24, sz0_x7_0_24, Q24_0, Q24_1, Q24_2, Q24_3, Q24_4⟩ := hQ24
        refine Go.tr st24 ?_
        have ne_w_NORMAL_x7_0_24 : w_NORMAL ≠ x7_0_24 := Nat.ne_of_lt (Nat.lt_of_lt_of_le E_w_NORMAL.lt sz0_x7_0_24)
        have ne_w_INITIATOR_x7_0_24 : w_INITIATOR ≠ x7_0_24 := Nat.ne_of_lt (Nat.lt_of_lt_of_le E_w_INITIATOR.lt sz0_x7_0_24)
        have ne_w_PASSIVE_x7_0_24 : w_PASSIVE ≠ x7_0_24 := Nat.ne_of_lt (Nat.lt_of_lt_of_le E_w_PASSIVE.lt sz0_x7_0_24)
        have ne_w_LEADER_x7_0_24 : w_LEADER ≠ x7_0_24 := Nat.ne_of_lt (Nat.lt_of_lt_of_le E_w_LEADER.lt sz0_x7_0_24)
        have ne_b3_x7_0_24 : b3 ≠ x7_0_24 := Nat.ne_of_lt (Nat.lt_of_lt_of_le E_b3.lt sz0_x7_0_24)
        have ne__f1_p1_w_NORMAL_w_INITIATOR_w_PASSIVE_w_LEADER__x7_0_24 : (f1 p1 w_NORMAL w_INITIATOR w_PASSIVE w_LEADER) ≠ x7_0_24 := Nat.ne_of_lt (Nat.lt_of_lt_of_le E4_r.lt sz0_x7_0_24)
        have ne_x6_0_22_x7_0_24 : x6_0_22 ≠ x7_0_24 := Nat.ne_of_lt (Nat.lt_of_lt_of_le E_x6_0_22.lt sz0_x7_0_24)
        have g_x7_0_24 : n0 ≤ x7_0_24 := ng_x7_0_24
        have sz_x7_0_24 : h0.size ≤ x7_0_24 := Nat.le_trans K0.1 sz0_x7_0_24
        replace S_NORMAL := sta_keep S_NORMAL K24 all0
        replace E_w_NORMAL := E_w_NORMAL.keep K24
        replace S_INITIATOR := sta_keep S_INITIATOR K24 all0
        replace E_w_INITIATOR := E_w_INITIATOR.keep K24
        replace S_PASSIVE := sta_keep S_PASSIVE K24 all0
        replace E_w_PASSIVE := E_w_PASSIVE.keep K24
        replace S_LEADER := sta_keep S_LEADER K24 all0
        replace E_w_LEADER := E_w_LEADER.keep K24
        replace E_b3 := E_b3.keep K24
        replace E4_r := E4_r.keep K24
        replace F_b3_phase := F_b3_phase.keep K24 nin0
        replace F_b3_leader := F_b3_leader.keep K24 nin0
        replace F_b3_fromLeft := F_b3_fromLeft.keep K24 nin0
        replace F_b3_fromRight := F_b3_fromRight.keep K24 nin0
        replace E_x6_0_22 := E_x6_0_22.keep K24
        replace F_x6_0_22_phase := F_x6_0_22_phase.keep K24 nin0
        replace F_x6_0_22_leader := F_x6_0_22_leader.keep K24 nin0
        replace F_x6_0_22_fromLeft := F_x6_0_22_fromLeft.keep K24 nin0
        replace F_x6_0_22_fromRight := F_x6_0_22_fromRight.keep K24 nin0
        replace Z0 := Nat.le_trans Z0 K24.1
        replace K0 := K0.trans K24 all0
        have E_x7_0_24 := Q24_0
        have F_x7_0_24_phase := Q24_1
        have F_x7_0_24_leader := Q24_2
        have F_x7_0_24_fromLeft := Q24_3
        have F_x7_0_24_fromRight := Q24_4
        have N24 := Fr.app N23 N24q
        show Go _ _ _ (T24.setTop (mkF m 111 #[.val (.int p1), .val (.int p2), .val (.int p3), .val (.int p4), .val (.int p5), .val (.int p3), .val (.int p4), .val (.ref b3), .val (.int 0)] [(.ref x7_0_24)])) _
        obtain ⟨cq25, kq25, q25a, q25b, q25c⟩ := isOf hZ e24 E_x7_0_24
        obtain ⟨_, _, ⟨T25, L25, k25, n25⟩, -, X25, ⟨Lc25, hQ25, l25, y25, z25⟩, st25⟩ := X24.virtualBack hx (y := (⟨"com/example/lectern/lectern/catalog/Franklin$Member", "slotsEmpty", "()Z"⟩ : MethodName)) (z := (⟨"com/example/lectern/lectern/catalog/Franklin$Member", "slotsEmpty", "()Z"⟩ : MethodName)) hown (mvT hZ (wd29 hw)) (mvT hZ (wd30 hw)) (notFace_of_selects (args := #[]) (mvT hZ (wd32 hw))) (mvT hZ (wd32 hw)) (mvT hZ (wd31 hw)) (by decide) (backOf (W := 0) (rm5 l Z a0 hw [] x7_0_24 p4 p4 h24 n0 Z0 F_x7_0_24_fromLeft F_x7_0_24_fromRight) hZ (wd33 hw) (wd2 hw) (by decide) (by decide)) q25a q25c (g := (mkF m 111 #[.val (.int p1), .val (.int p2), .val (.int p3), .val (.int p4), .val (.int p5), .val (.int p3), .val (.int p4), .val (.ref b3), .val (.int 0)] [(.ref x7_0_24)])) rfl (by rw [hml]; rfl) (Steps.refl _) (argsL := []) (rest := []) (lenOf pd3 rfl) rfl (by show 2 * 0 + _ ≤ _; exact Nat.le_of_eq rfl) (hb hby at_111) (fun _ _ => ⟨rfl, e24, (by decide : 3 + 0 ≤ _), (by decide : 12 + 0 ≤ _)⟩)
        dsimp only [Pt.U, Pt.locs, Pt.cells, Pt.slots] at X25 l25 y25 z25 st25 hQ25
        subst l25 y25 z25
        refine Go.tr st25 ?_
        obtain ⟨rfl, N25q, e25⟩ := hQ25
        have N25 := Fr.app N24 N25q
        show Go _ _ _ (T25.setTop (mkF m 114 #[.val (.int p1), .val (.int p2), .val (.int p3), .val (.int p4), .val (.int p5), .val (.int p3), .val (.int p4), .val (.ref b3), .val (.int 0)] [(.int (f5 p4 p4))])) _
        by_cases hc26 : p4 = (-1 : Int32)
        · rw [show (f5 p4 p4) = (1 : Int32) from by unfold f5; simp only [if_pos hc26, if_pos hc26, if_true, if_false]]
          show Go _ _ _ (T25.setTop (mkF m 114 #[.val (.int p1), .val (.int p2), .val (.int p3), .val (.int p4), .val (.int p5), .val (.int p3), .val (.int p4), .val (.ref b3), .val (.int 0)] [(.int 1)])) _
          refine Go.st (fun t k => XS.iloadN X25.here hx rfl (hb hby at_114) rfl k) ?_
          refine Go.st (fun t k => XS.iconst X25.here hx rfl (hb hby at_115) k) ?_
          refine Go.st (fun t k => XS.icmpNo X25.here hx rfl (hb hby at_116) rfl (teq hc26).2 k) ?_
          show Go _ _ _ (T25.setTop (mkF m 119 #[.val (.int p1), .val (.int p2), .val (.int p3), .val (.int p4), .val (.int p5), .val (.int p3), .val (.int p4), .val (.ref b3), .val (.int 0)] [(.int 1)])) _
          refine Go.st (fun t k => XS.iload X25.here hx rfl (hb hby at_119) rfl k) ?_
          refine Go.st (fun t k => XS.iconst X25.here hx rfl (hb hby at_121) k) ?_
          refine Go.st (fun t k => XS.icmpNo X25.here hx rfl (hb hby at_122) rfl (teq hc26).2 k) ?_
          show Go _ _ _ (T25.setTop (mkF m 125 #[.val (.int p1), .val (.int p2), .val (.int p3), .val (.int p4), .val (.int p5), .val (.int p3), .val (.int p4), .val (.ref b3), .val (.int 0)] [(.int 1)])) _
          refine Go.st (fun t k => XS.iconst X25.here hx rfl (hb hby at_125) k) ?_
          refine Go.st (fun t k => XS.goto X25.here hx rfl (pc0 := 126) (pc' := 130) rfl (hb hby at_126) (by decide) (by decide) k) ?_
          refine Go.st (fun t k => XS.icmpYes X25.here hx rfl (pc0 := 130) (pc' := 135) rfl (hb hby at_130) rfl (teq (by decide : (1 : Int32) = (1 : Int32))).1 (by decide) (by decide) k) ?_
          show Go _ _ _ (T25.setTop (mkF m 135 #[.val (.int p1), .val (.int p2), .val (.int p3), .val (.int p4), .val (.int p5), .val (.int p3), .val (.int p4), .val (.ref b3), .val (.int 0)] [])) _
          refine Go.st (fun t k => XS.aload X25.here hx rfl (hb hby at_135) rfl rfl k) ?_
          refine Go.st (fun t k => XS.iloadN X25.here hx rfl (hb hby at_137) rfl k) ?_
          obtain ⟨cq27, kq27, q27a, q27b, q27c⟩ := isOf hZ e25 E_b3
          obtain ⟨_, _, ⟨T27, L27, k27, n27⟩, -, X27, ⟨Lc27, hQ27, l27, y27, z27⟩, st27⟩ := X25.virtualBack hx (y := (⟨"com/example/lectern/lectern/catalog/Franklin$Member", "takenFromRight", "(I)Lcom/example/lectern/lectern/catalog/Franklin$Member;"⟩ : MethodName)) (z := (⟨"com/example/lectern/lectern/catalog/Franklin$Member", "takenFromRight", "(I)Lcom/example/lectern/lectern/catalog/Franklin$Member;"⟩ : MethodName)) hown (mvT hZ (wd46 hw)) (mvT hZ (wd47 hw)) (notFace_of_selects (args := #[]) (mvT hZ (wd49 hw))) (mvT hZ (wd49 hw)) (mvT hZ (wd48 hw)) (by decide) (backOf (W := 0) (rm8 l Z a0 hw [] b3 p3 (f1 p1 w_NORMAL w_INITIATOR w_PASSIVE w_LEADER) p2 p3 h24 n0 Z0 F_b3_phase F_b3_leader F_b3_fromLeft) hZ (wd50 hw) (wd2 hw) (by decide) (by decide)) q27a q27c (g := (mkF m 138 #[.val (.int p1), .val (.int p2), .val (.int p3), .val (.int p4), .val (.int p5), .val (.int p3), .val (.int p4), .val (.ref b3), .val (.int 0)] [(.int p3), (.ref b3)])) rfl (by rw [hml]; rfl) (Steps.refl _) (argsL := [(.int p3)]) (rest := []) (lenOf pd5 rfl) rfl (by show 2 * 0 + _ ≤ _; exact Nat.le_of_eq rfl) (hb hby at_138) (fun _ _ => ⟨rfl, e25, (by decide : 3 + 1 ≤ _), (by decide : 12 + 4 ≤ _)⟩)
          dsimp only [Pt.U, Pt.locs, Pt.cells, Pt.slots] at X27 l27 y27 z27 st27 hQ27
          subst l27 y27 z27
          obtain ⟨h27, e27⟩ : ∃ z, T27.heap = z := ⟨_, rfl⟩
          rw [e27] at hQ27
          obtain ⟨x8_0_27, rfl, N27q, K27, ng_x8_0_27, sz0_x8_0_27, Q27_0, Q27_1, Q27_2, Q27_3, Q27_4⟩ := hQ27
          refine Go.tr st27 ?_
          have ne_w_NORMAL_x8_0_27 : w_NORMAL ≠ x8_0_27 := Nat.ne_of_lt (Nat.lt_of_lt_of_le E_w_NORMAL.lt sz0_x8_0_27)
          have ne_w_INITIATOR_x8_0_27 : w_INITIATOR ≠ x8_0_27 := Nat.ne_of_lt (Nat.lt_of_lt_of_le E_w_INITIATOR.lt sz0_x8_0_27)
          have ne_w_PASSIVE_x8_0_27 : w_PASSIVE ≠ x8_0_27 := Nat.ne_of_lt (Nat.lt_of_lt_of_le E_w_PASSIVE.lt sz0_x8_0_27)
          have ne_w_LEADER_x8_0_27 : w_LEADER ≠ x8_0_27 := Nat.ne_of_lt (Nat.lt_of_lt_of_le E_w_LEADER.lt sz0_x8_0_27)
          have ne_b3_x8_0_27 : b3 ≠ x8_0_27 := Nat.ne_of_lt (Nat.lt_of_lt_of_le E_b3.lt sz0_x8_0_27)
          have ne__f1_p1_w_NORMAL_w_INITIATOR_w_PASSIVE_w_LEADER__x8_0_27 : (f1 p1 w_NORMAL w_INITIATOR w_PASSIVE w_LEADER) ≠ x8_0_27 := Nat.ne_of_lt (Nat.lt_of_lt_of_le E4_r.lt sz0_x8_0_27)
          have ne_x6_0_22_x8_0_27 : x6_0_22 ≠ x8_0_27 := Nat.ne_of_lt (Nat.lt_of_lt_of_le E_x6_0_22.lt sz0_x8_0_27)
          have ne_x7_0_24_x8_0_27 : x7_0_24 ≠ x8_0_27 := Nat.ne_of_lt (Nat.lt_of_lt_of_le E_x7_0_24.lt sz0_x8_0_27)
          have g_x8_0_27 : n0 ≤ x8_0_27 := ng_x8_0_27
          have sz_x8_0_27 : h0.size ≤ x8_0_27 := Nat.le_trans K0.1 sz0_x8_0_27
          replace S_NORMAL := sta_keep S_NORMAL K27 all0
          replace E_w_NORMAL := E_w_NORMAL.keep K27
          replace S_INITIATOR := sta_keep S_INITIATOR K27 all0
          replace E_w_INITIATOR := E_w_INITIATOR.keep K27
          replace S_PASSIVE := sta_keep S_PASSIVE K27 all0
          replace E_w_PASSIVE := E_w_PASSIVE.keep K27
          replace S_LEADER := sta_keep S_LEADER K27 all0
          replace E_w_LEADER := E_w_LEADER.keep K27
          replace E_b3 := E_b3.keep K27
          replace E4_r := E4_r.keep K27
          replace F_b3_phase := F_b3_phase.keep K27 nin0
          replace F_b3_leader := F_b3_leader.keep K27 nin0
          replace F_b3_fromLeft := F_b3_fromLeft.keep K27 nin0
          replace F_b3_fromRight := F_b3_fromRight.keep K27 nin0
          replace E_x6_0_22 := E_x6_0_22.keep K27
          replace F_x6_0_22_phase := F_x6_0_22_phase.keep K27 nin0
          replace F_x6_0_22_leader := F_x6_0_22_leader.keep K27 nin0
          replace F_x6_0_22_fromLeft := F_x6_0_22_fromLeft.keep K27 nin0
          replace F_x6_0_22_fromRight := F_x6_0_22_fromRight.keep K27 nin0
          replace E_x7_0_24 := E_x7_0_24.keep K27
          replace F_x7_0_24_phase := F_x7_0_24_phase.keep K27 nin0
          replace F_x7_0_24_leader := F_x7_0_24_leader.keep K27 nin0
          replace F_x7_0_24_fromLeft := F_x7_0_24_fromLeft.keep K27 nin0
          replace F_x7_0_24_fromRight := F_x7_0_24_fromRight.keep K27 nin0
          replace Z0 := Nat.le_trans Z0 K27.1
          replace K0 := K0.trans K27 all0
          have E_x8_0_27 := Q27_0
          have F_x8_0_27_phase := Q27_1
          have F_x8_0_27_leader := Q27_2
          have F_x8_0_27_fromLeft := Q27_3
          have F_x8_0_27_fromRight := Q27_4
          have N27 := Fr.app N25 N27q
          show Go _ _ _ (T27.setTop (mkF m 141 #[.val (.int p1), .val (.int p2), .val (.int p3), .val (.int p4), .val (.int p5), .val (.int p3), .val (.int p4), .val (.ref b3), .val (.int 0)] [(.ref x8_0_27)])) _
          obtain ⟨cq28, kq28, q28a, q28b, q28c⟩ := isOf hZ e27 E_x8_0_27
          obtain ⟨_, _, ⟨T28, L28, k28, n28⟩, -, X28, ⟨Lc28, hQ28, l28, y28, z28⟩, st28⟩ := X27.virtualBack hx (y := (⟨"com/example/lectern/lectern/catalog/Franklin$Member", "slotsEmpty", "()Z"⟩ : MethodName)) (z := (⟨"com/example/lectern/lectern/catalog/Franklin$Member", "slotsEmpty", "()Z"⟩ : MethodName)) hown (mvT hZ (wd29 hw)) (mvT hZ (wd30 hw)) (notFace_of_selects (args := #[]) (mvT hZ (wd32 hw))) (mvT hZ (wd32 hw)) (mvT hZ (wd31 hw)) (by decide) (backOf (W := 0) (rm5 l Z a0 hw [] x8_0_27 p3 p3 h27 n0 Z0 F_x8_0_27_fromLeft F_x8_0_27_fromRight) hZ (wd33 hw) (wd2 hw) (by decide) (by decide)) q28a q28c (g := (mkF m 141 #[.val (.int p1), .val (.int p2), .val (.int p3), .val (.int p4), .val (.int p5), .val (.int p3), .val (.int p4), .val (.ref b3), .val (.int 0)] [(.ref x8_0_27)])) rfl (by rw [hml]; rfl) (Steps.refl _) (argsL := []) (rest := []) (lenOf pd3 rfl) rfl (by show 2 * 0 + _ ≤ _; exact Nat.le_of_eq rfl) (hb hby at_141) (fun _ _ => ⟨rfl, e27, (by decide : 4 + 0 ≤ _), (by decide : 16 + 0 ≤ _)⟩)
          dsimp only [Pt.U, Pt.locs, Pt.cells, Pt.slots] at X28 l28 y28 z28 st28 hQ28
          subst l28 y28 z28
          refine Go.tr st28 ?_
          obtain ⟨rfl, N28q, e28⟩ := hQ28
          have N28 := Fr.app N27 N28q
          show Go _ _ _ (T28.setTop (mkF m 144 #[.val (.int p1), .val (.int p2), .val (.int p3), .val (.int p4), .val (.int p5), .val (.int p3), .val (.int p4), .val (.ref b3), .val (.int 0)] [(.int (f5 p3 p3))])) _
          rw [show (f5 p3 p3) = (0 : Int32) from by unfold f5; simp only [if_neg hc7, if_true, if_false]]
          show Go _ _ _ (T28.setTop (mkF m 144 #[.val (.int p1), .val (.int p2), .val (.int p3), .val (.int p4), .val (.int p5), .val (.int p3), .val (.int p4), .val (.ref b3), .val (.int 0)] [(.int 0)])) _
          refine Go.st (fun t k => XS.iload X28.here hx rfl (hb hby at_144) rfl k) ?_
          refine Go.st (fun t k => XS.iconst X28.here hx rfl (hb hby at_146) k) ?_
          refine Go.st (fun t k => XS.icmpYes X28.here hx rfl (pc0 := 147) (pc' := 159) rfl (hb hby at_147) rfl (feq hc7).2 (by decide) (by decide) k) ?_
          show Go _ _ _ (T28.setTop (mkF m 159 #[.val (.int p1), .val (.int p2), .val (.int p3), .val (.int p4), .val (.int p5), .val (.int p3), .val (.int p4), .val (.ref b3), .val (.int 0)] [(.int 0)])) _
          refine Go.st (fun t k => XS.iconst X28.here hx rfl (hb hby at_159) k) ?_
          refine Go.st (fun t k => XS.icmpYes X28.here hx rfl (pc0 := 160) (pc' := 165) rfl (hb hby at_160) rfl (teq (by decide : (0 : Int32) = (0 : Int32))).1 (by decide) (by decide) k) ?_
          show Go _ _ _ (T28.setTop (mkF m 165 #[.val (.int p1), .val (.int p2), .val (.int p3), .val (.int p4), .val (.int p5), .val (.int p3), .val (.int p4), .val (.ref b3), .val (.int 0)] [])) _
          refine Go.st (fun t k => XS.iconst X28.here hx rfl (hb hby at_165) k) ?_
          obtain ⟨fs, hr, hrun, hended, hW, hsame⟩ := X28.leave (v := some (.int (1 : Int32))) (fun h => by rw [Bd.returns] at h; cases h)
          refine Go.fin (retN X28 hx (t := .boolean) Bd.returns (by simp) (hb hby at_166) hr) hrun hended ⟨_, _, rfl, ?_, ⟨_, rfl⟩, hW, hsame.mono (by decide) (by decide)⟩
          show Q0 Z p1 p2 p3 p4 p5 w_NORMAL w_INITIATOR w_PASSIVE w_LEADER h0 n0 _ T28.heap _
          rw [e28]
          exact ⟨rfl, N28⟩
        · rw [show (f5 p4 p4) = (0 : Int32) from by unfold f5; simp only [if_neg hc26, if_true, if_false]]
          show Go _ _ _ (T25.setTop (mkF m 114 #[.val (.int p1), .val (.int p2), .val (.int p3), .val (.int p4), .val (.int p5), .val (.int p3), .val (.int p4), .val (.ref b3), .val (.int 0)] [(.int 0)])) _
          refine Go.st (fun t k => XS.iloadN X25.here hx rfl (hb hby at_114) rfl k) ?_
          refine Go.st (fun t k => XS.iconst X25.here hx rfl (hb hby at_115) k) ?_
          refine Go.st (fun t k => XS.icmpYes X25.here hx rfl (pc0 := 116) (pc' := 129) rfl (hb hby at_116) rfl (feq hc26).2 (by decide) (by decide) k) ?_
          show Go _ _ _ (T25.setTop (mkF m 129 #[.val (.int p1), .val (.int p2), .val (.int p3), .val (.int p4), .val (.int p5), .val (.int p3), .val (.int p4), .val (.ref b3), .val (.int 0)] [(.int 0)])) _
          refine Go.st (fun t k => XS.iconst X25.here hx rfl (hb hby at_129) k) ?_
          refine Go.st (fun t k => XS.icmpYes X25.here hx rfl (pc0 := 130) (pc' := 135) rfl (hb hby at_130) rfl (teq (by decide : (0 : Int32) = (0 : Int32))).1 (by decide) (by decide) k) ?_
          show Go _ _ _ (T25.setTop (mkF m 135 #[.val (.int p1), .val (.int p2), .val (.int p3), .val (.int p4), .val (.int p5), .val (.int p3), .val (.int p4), .val (.ref b3), .val (.int 0)] [])) _
          refine Go.st (fun t k => XS.aload X25.here hx rfl (hb hby at_135) rfl rfl k) ?_
          refine Go.st (fun t k => XS.iloadN X25.here hx rfl (hb hby at_137) rfl k) ?_
          obtain ⟨cq29, kq29, q29a, q29b, q29c⟩ := isOf hZ e25 E_b3
          obtain ⟨_, _, ⟨T29, L29, k29, n29⟩, -, X29, ⟨Lc29, hQ29, l29, y29, z29⟩, st29⟩ := X25.virtualBack hx (y := (⟨"com/example/lectern/lectern/catalog/Franklin$Member", "takenFromRight", "(I)Lcom/example/lectern/lectern/catalog/Franklin$Member;"⟩ : MethodName)) (z := (⟨"com/example/lectern/lectern/catalog/Franklin$Member", "takenFromRight", "(I)Lcom/example/lectern/lectern/catalog/Franklin$Member;"⟩ : MethodName)) hown (mvT hZ (wd46 hw)) (mvT hZ (wd47 hw)) (notFace_of_selects (args := #[]) (mvT hZ (wd49 hw))) (mvT hZ (wd49 hw)) (mvT hZ (wd48 hw)) (by decide) (backOf (W := 0) (rm8 l Z a0 hw [] b3 p3 (f1 p1 w_NORMAL w_INITIATOR w_PASSIVE w_LEADER) p2 p3 h24 n0 Z0 F_b3_phase F_b3_leader F_b3_fromLeft) hZ (wd50 hw) (wd2 hw) (by decide) (by decide)) q29a q29c (g := (mkF m 138 #[.val (.int p1), .val (.int p2), .val (.int p3), .val (.int p4), .val (.int p5), .val (.int p3), .val (.int p4), .val (.ref b3), .val (.int 0)] [(.int p3), (.ref b3)])) rfl (by rw [hml]; rfl) (Steps.refl _) (argsL := [(.int p3)]) (rest := []) (lenOf pd5 rfl) rfl (by show 2 * 0 + _ ≤ _; exact Nat.le_of_eq rfl) (hb hby at_138) (fun _ _ => ⟨rfl, e25, (by decide : 3 + 1 ≤ _), (by decide : 12 + 4 ≤ _)⟩)
          dsimp only [Pt.U, Pt.locs, Pt.cells, Pt.slots] at X29 l29 y29 z29 st29 hQ29
          subst l29 y29 z29
          obtain ⟨h29, e29⟩ : ∃ z, T29.heap = z := ⟨_, rfl⟩
          rw [e29] at hQ29
          obtain ⟨x8_0_29, rfl, N29q, K29, ng_x8_0_29, sz0_x8_0_29, Q29_0, Q29_1, Q29_2, Q29_3, Q29_4⟩ := hQ29
          refine Go.tr st29 ?_
          have ne_w_NORMAL_x8_0_29 : w_NORMAL ≠ x8_0_29 := Nat.ne_of_lt (Nat.lt_of_lt_of_le E_w_NORMAL.lt sz0_x8_0_29)
          have ne_w_INITIATOR_x8_0_29 : w_INITIATOR ≠ x8_0_29 := Nat.ne_of_lt (Nat.lt_of_lt_of_le E_w_INITIATOR.lt sz0_x8_0_29)
          have ne_w_PASSIVE_x8_0_29 : w_PASSIVE ≠ x8_0_29 := Nat.ne_of_lt (Nat.lt_of_lt_of_le E_w_PASSIVE.lt sz0_x8_0_29)
          have ne_w_LEADER_x8_0_29 : w_LEADER ≠ x8_0_29 := Nat.ne_of_lt (Nat.lt_of_lt_of_le E_w_LEADER.lt sz0_x8_0_29)
          have ne_b3_x8_0_29 : b3 ≠ x8_0_29 := Nat.ne_of_lt (Nat.lt_of_lt_of_le E_b3.lt sz0_x8_0_29)
          have ne__f1_p1_w_NORMAL_w_INITIATOR_w_PASSIVE_w_LEADER__x8_0_29 : (f1 p1 w_NORMAL w_INITIATOR w_PASSIVE w_LEADER) ≠ x8_0_29 := Nat.ne_of_lt (Nat.lt_of_lt_of_le E4_r.lt sz0_x8_0_29)
          have ne_x6_0_22_x8_0_29 : x6_0_22 ≠ x8_0_29 := Nat.ne_of_lt (Nat.lt_of_lt_of_le E_x6_0_22.lt sz0_x8_0_29)
          have ne_x7_0_24_x8_0_29 : x7_0_24 ≠ x8_0_29 := Nat.ne_of_lt (Nat.lt_of_lt_of_le E_x7_0_24.lt sz0_x8_0_29)
          have g_x8_0_29 : n0 ≤ x8_0_29 := ng_x8_0_29
          have sz_x8_0_29 : h0.size ≤ x8_0_29 := Nat.le_trans K0.1 sz0_x8_0_29
          replace S_NORMAL := sta_keep S_NORMAL K29 all0
          replace E_w_NORMAL := E_w_NORMAL.keep K29
          replace S_INITIATOR := sta_keep S_INITIATOR K29 all0
          replace E_w_INITIATOR := E_w_INITIATOR.keep K29
          replace S_PASSIVE := sta_keep S_PASSIVE K29 all0
          replace E_w_PASSIVE := E_w_PASSIVE.keep K29
          replace S_LEADER := sta_keep S_LEADER K29 all0
          replace E_w_LEADER := E_w_LEADER.keep K29
          replace E_b3 := E_b3.keep K29
          replace E4_r := E4_r.keep K29
          replace F_b3_phase := F_b3_phase.keep K29 nin0
          replace F_b3_leader := F_b3_leader.keep K29 nin0
          replace F_b3_fromLeft := F_b3_fromLeft.keep K29 nin0
          replace F_b3_fromRight := F_b3_fromRight.keep K29 nin0
          replace E_x6_0_22 := E_x6_0_22.keep K29
          replace F_x6_0_22_phase := F_x6_0_22_phase.keep K29 nin0
          replace F_x6_0_22_leader := F_x6_0_22_leader.keep K29 nin0
          replace F_x6_0_22_fromLeft := F_x6_0_22_fromLeft.keep K29 nin0
          replace F_x6_0_22_fromRight := F_x6_0_22_fromRight.keep K29 nin0
          replace E_x7_0_24 := E_x7_0_24.keep K29
          replace F_x7_0_24_phase := F_x7_0_24_phase.keep K29 nin0
          replace F_x7_0_24_leader := F_x7_0_24_leader.keep K29 nin0
          replace F_x7_0_24_fromLeft := F_x7_0_24_fromLeft.keep K29 nin0
          replace F_x7_0_24_fromRight := F_x7_0_24_fromRight.keep K29 nin0
          replace Z0 := Nat.le_trans Z0 K29.1
          replace K0 := K0.trans K29 all0
          have E_x8_0_29 := Q29_0
          have F_x8_0_29_phase := Q29_1
          have F_x8_0_29_leader := Q29_2
          have F_x8_0_29_fromLeft := Q29_3
          have F_x8_0_29_fromRight := Q29_4
          have N29 := Fr.app N25 N29q
          show Go _ _ _ (T29.setTop (mkF m 141 #[.val (.int p1), .val (.int p2), .val (.int p3), .val (.int p4), .val (.int p5), .val (.int p3), .val (.int p4), .val (.ref b3), .val (.int 0)] [(.ref x8_0_29)])) _
          obtain ⟨cq30, kq30, q30a, q30b, q30c⟩ := isOf hZ e29 E_x8_0_29
          obtain ⟨_, _, ⟨T30, L30, k30, n30⟩, -, X30, ⟨Lc30, hQ30, l30, y30, z30⟩, st30⟩ := X29.virtualBack hx (y := (⟨"com/example/lectern/lectern/catalog/Franklin$Member", "slotsEmpty", "()Z"⟩ : MethodName)) (z := (⟨"com/example/lectern/lectern/catalog/Franklin$Member", "slotsEmpty", "()Z"⟩ : MethodName)) hown (mvT hZ (wd29 hw)) (mvT hZ (wd30 hw)) (notFace_of_selects (args := #[]) (mvT hZ (wd32 hw))) (mvT hZ (wd32 hw)) (mvT hZ (wd31 hw)) (by decide) (backOf (W := 0) (rm5 l Z a0 hw [] x8_0_29 p3 p3 h29 n0 Z0 F_x8_0_29_fromLeft F_x8_0_29_fromRight) hZ (wd33 hw) (wd2 hw) (by decide) (by decide)) q30a q30c (g := (mkF m 141 #[.val (.int p1), .val (.int p2), .val (.int p3), .val (.int p4), .val (.int p5), .val (.int p3), .val (.int p4), .val (.ref b3), .val (.int 0)] [(.ref x8_0_29)])) rfl (by rw [hml]; rfl) (Steps.refl _) (argsL := []) (rest := []) (lenOf pd3 rfl) rfl (by show 2 * 0 + _ ≤ _; exact Nat.le_of_eq rfl) (hb hby at_141) (fun _ _ => ⟨rfl, e29, (by decide : 4 + 0 ≤ _), (by decide : 16 + 0 ≤ _)⟩)
          dsimp only [Pt.U, Pt.locs, Pt.cells, Pt.slots] at X30 l30 y30 z30 st30 hQ30
          subst l30 y30 z30
          refine Go.tr st30 ?_
          obtain ⟨rfl, N30q, e30⟩ := hQ30
          have N30 := Fr.app N29 N30q
          show Go _ _ _ (T30.setTop (mkF m 144 #[.val (.int p1), .val (.int p2), .val (.int p3), .val (.int p4), .val (.int p5), .val (.int p3), .val (.int p4), .val (.ref b3), .val (.int 0)] [(.int (f5 p3 p3))])) _
          rw [show (f5 p3 p3) = (0 : Int32) from by unfold f5; simp only [if_neg hc7, if_true, if_false]]
          show Go _ _ _ (T30.setTop (mkF m 144 #[.val (.int p1), .val (.int p2), .val (.int p3), .val (.int p4), .val (.int p5), .val (.int p3), .val (.int p4), .val (.ref b3), .val (.int 0)] [(.int 0)])) _
          refine Go.st (fun t k => XS.iload X30.here hx rfl (hb hby at_144) rfl k) ?_
          refine Go.st (fun t k => XS.iconst X30.here hx rfl (hb hby at_146) k) ?_
          refine Go.st (fun t k => XS.icmpYes X30.here hx rfl (pc0 := 147) (pc' := 159) rfl (hb hby at_147) rfl (feq hc7).2 (by decide) (by decide) k) ?_
          show Go _ _ _ (T30.setTop (mkF m 159 #[.val (.int p1), .val (.int p2), .val (.int p3), .val (.int p4), .val (.int p5), .val (.int p3), .val (.int p4), .val (.ref b3), .val (.int 0)] [(.int 0)])) _
          refine Go.st (fun t k => XS.iconst X30.here hx rfl (hb hby at_159) k) ?_
          refine Go.st (fun t k => XS.icmpYes X30.here hx rfl (pc0 := 160) (pc' := 165) rfl (hb hby at_160) rfl (teq (by decide : (0 : Int32) = (0 : Int32))).1 (by decide) (by decide) k) ?_
          show Go _ _ _ (T30.setTop (mkF m 165 #[.val (.int p1), .val (.int p2), .val (.int p3), .val (.int p4), .val (.int p5), .val (.int p3), .val (.int p4), .val (.ref b3), .val (.int 0)] [])) _
          refine Go.st (fun t k => XS.iconst X30.here hx rfl (hb hby at_165) k) ?_
          obtain ⟨fs, hr, hrun, hended, hW, hsame⟩ := X30.leave (v := some (.int (1 : Int32))) (fun h => by rw [Bd.returns] at h; cases h)
          refine Go.fin (retN X30 hx (t := .boolean) Bd.returns (by simp) (hb hby at_166) hr) hrun hended ⟨_, _, rfl, ?_, ⟨_, rfl⟩, hW, hsame.mono (by decide) (by decide)⟩
          show Q0 Z p1 p2 p3 p4 p5 w_NORMAL w_INITIATOR w_PASSIVE w_LEADER h0 n0 _ T30.heap _
          rw [e30]
          exact ⟨rfl, N30⟩
    · refine Go.st (fun t k => XS.ifNo X0.here hx rfl (hb hby at_18) rfl ((if0 _ _).trans (feq hc2).1) k) ?_
      show Go _ _ _ (s₁.setTop (mkF m 21 #[.val (.int p1), .val (.int p2), .val (.int p3), .val (.int p4), .val (.int p5), .val (.int p3), .unset, .unset, .unset] [])) _
      refine Go.st (fun t k => XS.iconst X0.here hx rfl (hb hby at_21) k) ?_
      refine Go.st (fun t k => XS.goto X0.here hx rfl (pc0 := 22) (pc' := 26) rfl (hb hby at_22) (by decide) (by decide) k) ?_
      refine Go.st (fun t k => XS.istore X0.here hx rfl (hb hby at_26) rfl (l' := #[.val (.int p1), .val (.int p2), .val (.int p3), .val (.int p4), .val (.int p5), .val (.int p3), .val (.int (-1)), .unset, .unset]) rfl k) ?_
      obtain ⟨T31, h31, X31, e31, E31, A31, D31, -, st31⟩ := newO X0 hx hZ hown (wd0 hw) (wd1 hw) (wd2 hw) e0 (g := (mkF m 28 #[.val (.int p1), .val (.int p2), .val (.int p3), .val (.int p4), .val (.int p5), .val (.int p3), .val (.int (-1)), .unset, .unset] [])) rfl (hb hby at_28) (by decide) (by decide)
      obtain ⟨b31, g31⟩ : ∃ z, z = h0.size := ⟨_, rfl⟩
      rw [← g31] at A31 D31 st31
      refine Go.st st31 ?_
      have ne_w_NORMAL_b31 : w_NORMAL ≠ b31 := Nat.ne_of_lt (Nat.lt_of_lt_of_le E_w_NORMAL.lt (Nat.le_of_eq g31.symm))
      have ne_w_INITIATOR_b31 : w_INITIATOR ≠ b31 := Nat.ne_of_lt (Nat.lt_of_lt_of_le E_w_INITIATOR.lt (Nat.le_of_eq g31.symm))
      have ne_w_PASSIVE_b31 : w_PASSIVE ≠ b31 := Nat.ne_of_lt (Nat.lt_of_lt_of_le E_w_PASSIVE.lt (Nat.le_of_eq g31.symm))
      have ne_w_LEADER_b31 : w_LEADER ≠ b31 := Nat.ne_of_lt (Nat.lt_of_lt_of_le E_w_LEADER.lt (Nat.le_of_eq g31.symm))
      have g_b31 : n0 ≤ b31 := Nat.le_trans Z0 (Nat.le_of_eq g31.symm)
      have sz_b31 : h0.size ≤ b31 := Nat.le_trans K0.1 (Nat.le_of_eq g31.symm)
      replace S_NORMAL := S_NORMAL.ext E31
      replace E_w_NORMAL := E_w_NORMAL.ext E31
      replace S_INITIATOR := S_INITIATOR.ext E31
      replace E_w_INITIATOR := E_w_INITIATOR.ext E31
      replace S_PASSIVE := S_PASSIVE.ext E31
      replace E_w_PASSIVE := E_w_PASSIVE.ext E31
      replace S_LEADER := S_LEADER.ext E31
      replace E_w_LEADER := E_w_LEADER.ext E31
      replace K0 := K0.ext E31
      replace Z0 := Nat.le_trans Z0 E31.1
      have E_b31 := A31
      have F_b31_phase : Fld Z h31 b31 "com/example/lectern/lectern/catalog/Franklin$Member" "phase" "Lcom/example/lectern/lectern/catalog/Franklin$Phase;" .null := D31 (Or.inr (wd22 hw)) (ty := (.object "com/example/lectern/lectern/catalog/Franklin$Phase")) (by decide)
      have F_b31_leader : Fld Z h31 b31 "com/example/lectern/lectern/catalog/Franklin$Member" "leader" "I" (.int (0 : Int32)) := D31 (Or.inr (wd24 hw)) (ty := .int) (by decide)
      have F_b31_fromLeft : Fld Z h31 b31 "com/example/lectern/lectern/catalog/Franklin$Member" "fromLeft" "I" (.int (0 : Int32)) := D31 (Or.inr (wd26 hw)) (ty := .int) (by decide)
      have F_b31_fromRight : Fld Z h31 b31 "com/example/lectern/lectern/catalog/Franklin$Member" "fromRight" "I" (.int (0 : Int32)) := D31 (Or.inr (wd28 hw)) (ty := .int) (by decide)
      show Go _ _ _ (T31.setTop (mkF m 31 #[.val (.int p1), .val (.int p2), .val (.int p3), .val (.int p4), .val (.int p5), .val (.int p3), .val (.int (-1)), .unset, .unset] [(.ref b31)])) _
      refine Go.st (fun t k => XS.dup X31.here hx rfl (hb hby at_31) rfl rfl k) ?_
      refine Go.st (fun t k => XS.iloadN X31.here hx rfl (hb hby at_32) rfl k) ?_
      obtain ⟨_, _, ⟨T32, L32, k32, n32⟩, -, X32, ⟨Lc32, hQ32, l32, y32, z32⟩, st32⟩ := Jvm.LawKit.callS X31 hx (y := (⟨"com/example/lectern/lectern/catalog/MemberSlotsEmptyPinLaw", "phase", "(I)Lcom/example/lectern/lectern/catalog/Franklin$Phase;"⟩ : MethodName)) hown (mvT hZ (wd3 hw)) (mvT hZ (wd4 hw)) (mvT hZ (wd5 hw)) (mvT hZ (wd6 hw)) (by decide) (backOf (W := 2) (rm1 l Z a0 hw [] p1 w_NORMAL w_INITIATOR w_PASSIVE w_LEADER h31 n0 Z0 S_NORMAL E_w_NORMAL S_INITIATOR E_w_INITIATOR S_PASSIVE E_w_PASSIVE S_LEADER E_w_LEADER) hZ (wd6 hw) (wd5 hw) (by decide) (by decide)) (g := (mkF m 33 #[.val (.int p1), .val (.int p2), .val (.int p3), .val (.int p4), .val (.int p5), .val (.int p3), .val (.int (-1)), .unset, .unset] [(.int p1), (.ref b31), (.ref b31)])) rfl (by rw [hml]; rfl) (argsL := [(.int p1)]) (rest := [(.ref b31), (.ref b31)]) (lenOf pd2 rfl) rfl (by show 2 * 0 + _ ≤ _; exact Nat.le_of_eq rfl) (hb hby at_33) (fun _ _ => ⟨rfl, e31, (by decide : 1 + 0 ≤ _), (by decide : 4 + 0 ≤ _)⟩)
      dsimp only [Pt.U, Pt.locs, Pt.cells, Pt.slots] at X32 l32 y32 z32 st32 hQ32
      subst l32 y32 z32
      refine Go.st st32 ?_
      obtain ⟨rfl, N32q, e32, E32_r⟩ := hQ32
      have N32 := Fr.app N0 N32q
      rw [e32] at E32_r
      show Go _ _ _ (T32.setTop (mkF m 36 #[.val (.int p1), .val (.int p2), .val (.int p3), .val (.int p4), .val (.int p5), .val (.int p3), .val (.int (-1)), .unset, .unset] [(.ref (f1 p1 w_NORMAL w_INITIATOR w_PASSIVE w_LEADER)), (.ref b31), (.ref b31)])) _
      refine Go.st (fun t k => XS.iloadN X32.here hx rfl (hb hby at_36) rfl k) ?_
      refine Go.st (fun t k => XS.iload X32.here hx rfl (hb hby at_37) rfl k) ?_
      refine Go.st (fun t k => XS.iload X32.here hx rfl (hb hby at_39) rfl k) ?_
      obtain ⟨_, _, ⟨T33, L33, k33, n33⟩, -, X33, ⟨Lc33, hQ33, l33, y33, z33⟩, st33⟩ := X32.specialBack hx (y := (⟨"com/example/lectern/lectern/catalog/Franklin$Member", "<init>", "(Lcom/example/lectern/lectern/catalog/Franklin$Phase;III)V"⟩ : MethodName)) rfl hown (mvT hZ (wd10 hw)) (mvT hZ (wd11 hw)) (mvT hZ (wd12 hw)) (by decide) (backOf (W := 1) (rm2 l Z a0 hw [] b31 (f1 p1 w_NORMAL w_INITIATOR w_PASSIVE w_LEADER) p2 p3 (-1 : Int32) (.null : Value) ((.int (0 : Int32)) : Value) ((.int (0 : Int32)) : Value) ((.int (0 : Int32)) : Value) h31 n0 Z0 E_b31 F_b31_phase F_b31_leader F_b31_fromLeft F_b31_fromRight g_b31) hZ (wd12 hw) (wd2 hw) (by decide) (by decide)) (g := (mkF m 41 #[.val (.int p1), .val (.int p2), .val (.int p3), .val (.int p4), .val (.int p5), .val (.int p3), .val (.int (-1)), .unset, .unset] [(.int (-1)), (.int p3), (.int p2), (.ref (f1 p1 w_NORMAL w_INITIATOR w_PASSIVE w_LEADER)), (.ref b31), (.ref b31)])) rfl (by rw [hml]; rfl) (Steps.refl _) (a := b31) (argsL := [(.ref (f1 p1 w_NORMAL w_INITIATOR w_PASSIVE w_LEADER)), (.int p2), (.int p3), (.int (-1 : Int32))]) (rest := [(.ref b31)]) (lenOf pd1 rfl) rfl (by show 2 * 0 + _ ≤ _; exact Nat.le_of_eq rfl) (hb hby at_41) (fun _ _ => ⟨rfl, e32, (by decide : 1 + 0 ≤ _), (by decide : 4 + 0 ≤ _)⟩)
      dsimp only [Pt.U, Pt.locs, Pt.cells, Pt.slots] at X33 l33 y33 z33 st33 hQ33
      subst l33 y33 z33
      refine Go.tr st33 ?_
      have E_b31_pre := E_b31
      have F_b31_phase_pre := F_b31_phase
      have F_b31_leader_pre := F_b31_leader
      have F_b31_fromLeft_pre := F_b31_fromLeft
      have F_b31_fromRight_pre := F_b31_fromRight
      obtain ⟨h33, e33⟩ : ∃ z, T33.heap = z := ⟨_, rfl⟩
      rw [e33] at hQ33
      obtain ⟨rfl, N33q, K33, Q33_0, Q33_1, Q33_2, Q33_3, Q33_4⟩ := hQ33
      replace S_NORMAL := sta_keep S_NORMAL K33 (allS (exa_ns E_b31_pre) all0)
      replace E_w_NORMAL := E_w_NORMAL.keep K33
      replace S_INITIATOR := sta_keep S_INITIATOR K33 (allS (exa_ns E_b31_pre) all0)
      replace E_w_INITIATOR := E_w_INITIATOR.keep K33
      replace S_PASSIVE := sta_keep S_PASSIVE K33 (allS (exa_ns E_b31_pre) all0)
      replace E_w_PASSIVE := E_w_PASSIVE.keep K33
      replace S_LEADER := sta_keep S_LEADER K33 (allS (exa_ns E_b31_pre) all0)
      replace E_w_LEADER := E_w_LEADER.keep K33
      replace E_b31 := E_b31.keep K33
      replace E32_r := E32_r.keep K33
      replace Z0 := Nat.le_trans Z0 K33.1
      replace K0 := K0.trans K33 (allS (Or.inr sz_b31) all0)
      have E_b31 := Q33_0
      have F_b31_phase := Q33_1
      have F_b31_leader := Q33_2
      have F_b31_fromLeft := Q33_3
      have F_b31_fromRight := Q33_4
      have N33 := Fr.app N32 N33q
      show Go _ _ _ (T33.setTop (mkF m 44 #[.val (.int p1), .val (.int p2), .val (.int p3), .val (.int p4), .val (.int p5), .val (.int p3), .val (.int (-1)), .unset, .unset] [(.ref b31)])) _
      refine Go.st (fun t k => XS.astore X33.here hx rfl (hb hby at_44) rfl rfl (l' := #[.val (.int p1), .val (.int p2), .val (.int p3), .val (.int p4), .val (.int p5), .val (.int p3), .val (.int (-1)), .val (.ref b31), .unset]) rfl k) ?_
      refine Go.st (fun t k => XS.aload X33.here hx rfl (hb hby at_46) rfl rfl k) ?_
      obtain ⟨cq34, kq34, q34a, q34b, q34c⟩ := isOf hZ e33 E_b31
      obtain ⟨_, _, ⟨T34, L34, k34, n34⟩, -, X34, ⟨Lc34, hQ34, l34, y34, z34⟩, st34⟩ := X33.virtualBack hx (y := (⟨"com/example/lectern/lectern/catalog/Franklin$Member", "slotsEmpty", "()Z"⟩ : MethodName)) (z := (⟨"com/example/lectern/lectern/catalog/Franklin$Member", "slotsEmpty", "()Z"⟩ : MethodName)) hown (mvT hZ (wd29 hw)) (mvT hZ (wd30 hw)) (notFace_of_selects (args := #[]) (mvT hZ (wd32 hw))) (mvT hZ (wd32 hw)) (mvT hZ (wd31 hw)) (by decide) (backOf (W := 0) (rm5 l Z a0 hw [] b31 p3 (-1 : Int32) h33 n0 Z0 F_b31_fromLeft F_b31_fromRight) hZ (wd33 hw) (wd2 hw) (by decide) (by decide)) q34a q34c (g := (mkF m 48 #[.val (.int p1), .val (.int p2), .val (.int p3), .val (.int p4), .val (.int p5), .val (.int p3), .val (.int (-1)), .val (.ref b31), .unset] [(.ref b31)])) rfl (by rw [hml]; rfl) (Steps.refl _) (argsL := []) (rest := []) (lenOf pd3 rfl) rfl (by show 2 * 0 + _ ≤ _; exact Nat.le_of_eq rfl) (hb hby at_48) (fun _ _ => ⟨rfl, e33, (by decide : 1 + 0 ≤ _), (by decide : 4 + 0 ≤ _)⟩)
      dsimp only [Pt.U, Pt.locs, Pt.cells, Pt.slots] at X34 l34 y34 z34 st34 hQ34
      subst l34 y34 z34
      refine Go.tr st34 ?_
      obtain ⟨rfl, N34q, e34⟩ := hQ34
      have N34 := Fr.app N33 N34q
      show Go _ _ _ (T34.setTop (mkF m 51 #[.val (.int p1), .val (.int p2), .val (.int p3), .val (.int p4), .val (.int p5), .val (.int p3), .val (.int (-1)), .val (.ref b31), .unset] [(.int (f5 p3 (-1 : Int32)))])) _
      by_cases hc35 : p3 = (-1 : Int32)
      · rw [show (f5 p3 (-1 : Int32)) = (1 : Int32) from by unfold f5; simp only [if_pos hc35, if_pos (by decide : (-1 : Int32) = (-1 : Int32)), if_true, if_false]]
        show Go _ _ _ (T34.setTop (mkF m 51 #[.val (.int p1), .val (.int p2), .val (.int p3), .val (.int p4), .val (.int p5), .val (.int p3), .val (.int (-1)), .val (.ref b31), .unset] [(.int 1)])) _
        refine Go.st (fun t k => XS.istore X34.here hx rfl (hb hby at_51) rfl (l' := #[.val (.int p1), .val (.int p2), .val (.int p3), .val (.int p4), .val (.int p5), .val (.int p3), .val (.int (-1)), .val (.ref b31), .val (.int 1)]) rfl k) ?_
        refine Go.st (fun t k => XS.iload X34.here hx rfl (hb hby at_53) rfl k) ?_
        refine Go.st (fun t k => XS.iload X34.here hx rfl (hb hby at_55) rfl k) ?_
        refine Go.st (fun t k => XS.iconst X34.here hx rfl (hb hby at_57) k) ?_
        refine Go.st (fun t k => XS.icmpNo X34.here hx rfl (hb hby at_58) rfl (teq hc35).2 k) ?_
        show Go _ _ _ (T34.setTop (mkF m 61 #[.val (.int p1), .val (.int p2), .val (.int p3), .val (.int p4), .val (.int p5), .val (.int p3), .val (.int (-1)), .val (.ref b31), .val (.int 1)] [(.int 1)])) _
        refine Go.st (fun t k => XS.iload X34.here hx rfl (hb hby at_61) rfl k) ?_
        refine Go.st (fun t k => XS.iconst X34.here hx rfl (hb hby at_63) k) ?_
        refine Go.st (fun t k => XS.icmpNo X34.here hx rfl (hb hby at_64) rfl (teq (by decide : (-1 : Int32) = (-1 : Int32))).2 k) ?_
        show Go _ _ _ (T34.setTop (mkF m 67 #[.val (.int p1), .val (.int p2), .val (.int p3), .val (.int p4), .val (.int p5), .val (.int p3), .val (.int (-1)), .val (.ref b31), .val (.int 1)] [(.int 1)])) _
        refine Go.st (fun t k => XS.iconst X34.here hx rfl (hb hby at_67) k) ?_
        refine Go.st (fun t k => XS.goto X34.here hx rfl (pc0 := 68) (pc' := 72) rfl (hb hby at_68) (by decide) (by decide) k) ?_
        refine Go.st (fun t k => XS.icmpYes X34.here hx rfl (pc0 := 72) (pc' := 77) rfl (hb hby at_72) rfl (teq (by decide : (1 : Int32) = (1 : Int32))).1 (by decide) (by decide) k) ?_
        show Go _ _ _ (T34.setTop (mkF m 77 #[.val (.int p1), .val (.int p2), .val (.int p3), .val (.int p4), .val (.int p5), .val (.int p3), .val (.int (-1)), .val (.ref b31), .val (.int 1)] [])) _
        refine Go.st (fun t k => XS.iload X34.here hx rfl (hb hby at_77) rfl k) ?_
        refine Go.st (fun t k => XS.ifNo X34.here hx rfl (hb hby at_79) rfl ((if0 _ _).trans (feq (by decide : ¬ ((1 : Int32) = (0 : Int32)))).1) k) ?_
        show Go _ _ _ (T34.setTop (mkF m 82 #[.val (.int p1), .val (.int p2), .val (.int p3), .val (.int p4), .val (.int p5), .val (.int p3), .val (.int (-1)), .val (.ref b31), .val (.int 1)] [])) _
        refine Go.st (fun t k => XS.aload X34.here hx rfl (hb hby at_82) rfl rfl k) ?_
        obtain ⟨cq36, kq36, q36a, q36b, q36c⟩ := isOf hZ e34 E_b31
        obtain ⟨_, _, ⟨T36, L36, k36, n36⟩, -, X36, ⟨Lc36, hQ36, l36, y36, z36⟩, st36⟩ := X34.virtualBack hx (y := (⟨"com/example/lectern/lectern/catalog/Franklin$Member", "slotsFull", "()Z"⟩ : MethodName)) (z := (⟨"com/example/lectern/lectern/catalog/Franklin$Member", "slotsFull", "()Z"⟩ : MethodName)) hown (mvT hZ (wd53 hw)) (mvT hZ (wd54 hw)) (notFace_of_selects (args := #[]) (mvT hZ (wd56 hw))) (mvT hZ (wd56 hw)) (mvT hZ (wd55 hw)) (by decide) (backOf (W := 0) (rm9 l Z a0 hw [] b31 p3 (-1 : Int32) h33 n0 Z0 F_b31_fromLeft F_b31_fromRight) hZ (wd57 hw) (wd2 hw) (by decide) (by decide)) q36a q36c (g := (mkF m 84 #[.val (.int p1), .val (.int p2), .val (.int p3), .val (.int p4), .val (.int p5), .val (.int p3), .val (.int (-1)), .val (.ref b31), .val (.int 1)] [(.ref b31)])) rfl (by rw [hml]; rfl) (Steps.refl _) (argsL := []) (rest := []) (lenOf pd3 rfl) rfl (by show 2 * 0 + _ ≤ _; exact Nat.le_of_eq rfl) (hb hby at_84) (fun _ _ => ⟨rfl, e34, (by decide : 1 + 0 ≤ _), (by decide : 4 + 0 ≤ _)⟩)
        dsimp only [Pt.U, Pt.locs, Pt.cells, Pt.slots] at X36 l36 y36 z36 st36 hQ36
        subst l36 y36 z36
        refine Go.tr st36 ?_
        obtain ⟨rfl, N36q, e36⟩ := hQ36
        have N36 := Fr.app N34 N36q
        show Go _ _ _ (T36.setTop (mkF m 87 #[.val (.int p1), .val (.int p2), .val (.int p3), .val (.int p4), .val (.int p5), .val (.int p3), .val (.int (-1)), .val (.ref b31), .val (.int 1)] [(.int (f9 p3 (-1 : Int32)))])) _
        rw [show (f9 p3 (-1 : Int32)) = (0 : Int32) from by unfold f9; simp only [if_pos hc35, if_true, if_false]]
        show Go _ _ _ (T36.setTop (mkF m 87 #[.val (.int p1), .val (.int p2), .val (.int p3), .val (.int p4), .val (.int p5), .val (.int p3), .val (.int (-1)), .val (.ref b31), .val (.int 1)] [(.int 0)])) _
        refine Go.st (fun t k => XS.ifYes X36.here hx rfl (pc0 := 87) (pc' := 92) rfl (hb hby at_87) rfl ((if0 _ _).trans (teq (by decide : (0 : Int32) = (0 : Int32))).1) (by decide) (by decide) k) ?_
        show Go _ _ _ (T36.setTop (mkF m 92 #[.val (.int p1), .val (.int p2), .val (.int p3), .val (.int p4), .val (.int p5), .val (.int p3), .val (.int (-1)), .val (.ref b31), .val (.int 1)] [])) _
        refine Go.st (fun t k => XS.aload X36.here hx rfl (hb hby at_92) rfl rfl k) ?_
        obtain ⟨cq37, kq37, q37a, q37b, q37c⟩ := isOf hZ e36 E_b31
        obtain ⟨_, _, ⟨T37, L37, k37, n37⟩, -, X37, ⟨Lc37, hQ37, l37, y37, z37⟩, st37⟩ := X36.virtualBack hx (y := (⟨"com/example/lectern/lectern/catalog/Franklin$Member", "emptied", "()Lcom/example/lectern/lectern/catalog/Franklin$Member;"⟩ : MethodName)) (z := (⟨"com/example/lectern/lectern/catalog/Franklin$Member", "emptied", "()Lcom/example/lectern/lectern/catalog/Franklin$Member;"⟩ : MethodName)) hown (mvT hZ (wd34 hw)) (mvT hZ (wd35 hw)) (notFace_of_selects (args := #[]) (mvT hZ (wd37 hw))) (mvT hZ (wd37 hw)) (mvT hZ (wd36 hw)) (by decide) (backOf (W := 0) (rm6 l Z a0 hw [] b31 (f1 p1 w_NORMAL w_INITIATOR w_PASSIVE w_LEADER) p2 h33 n0 Z0 F_b31_phase F_b31_leader) hZ (wd38 hw) (wd2 hw) (by decide) (by decide)) q37a q37c (g := (mkF m 94 #[.val (.int p1), .val (.int p2), .val (.int p3), .val (.int p4), .val (.int p5), .val (.int p3), .val (.int (-1)), .val (.ref b31), .val (.int 1)] [(.ref b31)])) rfl (by rw [hml]; rfl) (Steps.refl _) (argsL := []) (rest := []) (lenOf pd4 rfl) rfl (by show 2 * 0 + _ ≤ _; exact Nat.le_of_eq rfl) (hb hby at_94) (fun _ _ => ⟨rfl, e36, (by decide : 1 + 1 ≤ _), (by decide : 4 + 4 ≤ _)⟩)
        dsimp only [Pt.U, Pt.locs, Pt.cells, Pt.slots] at X37 l37 y37 z37 st37 hQ37
        subst l37 y37 z37
        obtain ⟨h37, e37⟩ : ∃ z, T37.heap = z := ⟨_, rfl⟩
        rw [e37] at hQ37
        obtain ⟨x6_0_37, rfl, N37q, K37, ng_x6_0_37, sz0_x6_0_37, Q37_0, Q37_1, Q37_2, Q37_3, Q37_4⟩ := hQ37
        refine Go.tr st37 ?_
        have ne_w_NORMAL_x6_0_37 : w_NORMAL ≠ x6_0_37 := Nat.ne_of_lt (Nat.lt_of_lt_of_le E_w_NORMAL.lt sz0_x6_0_37)
        have ne_w_INITIATOR_x6_0_37 : w_INITIATOR ≠ x6_0_37 := Nat.ne_of_lt (Nat.lt_of_lt_of_le E_w_INITIATOR.lt sz0_x6_0_37)
        have ne_w_PASSIVE_x6_0_37 : w_PASSIVE ≠ x6_0_37 := Nat.ne_of_lt (Nat.lt_of_lt_of_le E_w_PASSIVE.lt sz0_x6_0_37)
        have ne_w_LEADER_x6_0_37 : w_LEADER ≠ x6_0_37 := Nat.ne_of_lt (Nat.lt_of_lt_of_le E_w_LEADER.lt sz0_x6_0_37)
        have ne_b31_x6_0_37 : b31 ≠ x6_0_37 := Nat.ne_of_lt (Nat.lt_of_lt_of_le E_b31.lt sz0_x6_0_37)
        have ne__f1_p1_w_NORMAL_w_INITIATOR_w_PASSIVE_w_LEADER__x6_0_37 : (f1 p1 w_NORMAL w_INITIATOR w_PASSIVE w_LEADER) ≠ x6_0_37 := Nat.ne_of_lt (Nat.lt_of_lt_of_le E32_r.lt sz0_x6_0_37)
        have g_x6_0_37 : n0 ≤ x6_0_37 := ng_x6_0_37
        have sz_x6_0_37 : h0.size ≤ x6_0_37 := Nat.le_trans K0.1 sz0_x6_0_37
        replace S_NORMAL := sta_keep S_NORMAL K37 all0
        replace E_w_NORMAL := E_w_NORMAL.keep K37
        replace S_INITIATOR := sta_keep S_INITIATOR K37 all0
        replace E_w_INITIATOR := E_w_INITIATOR.keep K37
        replace S_PASSIVE := sta_keep S_PASSIVE K37 all0
        replace E_w_PASSIVE := E_w_PASSIVE.keep K37
        replace S_LEADER := sta_keep S_LEADER K37 all0
        replace E_w_LEADER := E_w_LEADER.keep K37
        replace E_b31 := E_b31.keep K37
        replace E32_r := E32_r.keep K37
        replace F_b31_phase := F_b31_phase.keep K37 nin0
        replace F_b31_leader := F_b31_leader.keep K37 nin0
        replace F_b31_fromLeft := F_b31_fromLeft.keep K37 nin0
        replace F_b31_fromRight := F_b31_fromRight.keep K37 nin0
        replace Z0 := Nat.le_trans Z0 K37.1
        replace K0 := K0.trans K37 all0
        have E_x6_0_37 := Q37_0
        have F_x6_0_37_phase := Q37_1
        have F_x6_0_37_leader := Q37_2
        have F_x6_0_37_fromLeft := Q37_3
        have F_x6_0_37_fromRight := Q37_4
        have N37 := Fr.app N36 N37q
        show Go _ _ _ (T37.setTop (mkF m 97 #[.val (.int p1), .val (.int p2), .val (.int p3), .val (.int p4), .val (.int p5), .val (.int p3), .val (.int (-1)), .val (.ref b31), .val (.int 1)] [(.ref x6_0_37)])) _
        obtain ⟨cq38, kq38, q38a, q38b, q38c⟩ := isOf hZ e37 E_x6_0_37
        obtain ⟨_, _, ⟨T38, L38, k38, n38⟩, -, X38, ⟨Lc38, hQ38, l38, y38, z38⟩, st38⟩ := X37.virtualBack hx (y := (⟨"com/example/lectern/lectern/catalog/Franklin$Member", "slotsEmpty", "()Z"⟩ : MethodName)) (z := (⟨"com/example/lectern/lectern/catalog/Franklin$Member", "slotsEmpty", "()Z"⟩ : MethodName)) hown (mvT hZ (wd29 hw)) (mvT hZ (wd30 hw)) (notFace_of_selects (args := #[]) (mvT hZ (wd32 hw))) (mvT hZ (wd32 hw)) (mvT hZ (wd31 hw)) (by decide) (backOf (W := 0) (rm5 l Z a0 hw [] x6_0_37 (-1 : Int32) (-1 : Int32) h37 n0 Z0 F_x6_0_37_fromLeft F_x6_0_37_fromRight) hZ (wd33 hw) (wd2 hw) (by decide) (by decide)) q38a q38c (g := (mkF m 97 #[.val (.int p1), .val (.int p2), .val (.int p3), .val (.int p4), .val (.int p5), .val (.int p3), .val (.int (-1)), .val (.ref b31), .val (.int 1)] [(.ref x6_0_37)])) rfl (by rw [hml]; rfl) (Steps.refl _) (argsL := []) (rest := []) (lenOf pd3 rfl) rfl (by show 2 * 0 + _ ≤ _; exact Nat.le_of_eq rfl) (hb hby at_97) (fun _ _ => ⟨rfl, e37, (by decide : 2 + 0 ≤ _), (by decide : 8 + 0 ≤ _)⟩)
        dsimp only [Pt.U, Pt.locs, Pt.cells, Pt.slots] at X38 l38 y38 z38 st38 hQ38
        subst l38 y38 z38
        refine Go.tr st38 ?_
        obtain ⟨rfl, N38q, e38⟩ := hQ38
        have N38 := Fr.app N37 N38q
        show Go _ _ _ (T38.setTop (mkF m 100 #[.val (.int p1), .val (.int p2), .val (.int p3), .val (.int p4), .val (.int p5), .val (.int p3), .val (.int (-1)), .val (.ref b31), .val (.int 1)] [(.int (f5 (-1 : Int32) (-1 : Int32)))])) _
        rw [show (f5 (-1 : Int32) (-1 : Int32)) = (1 : Int32) from by unfold f5; simp only [if_pos (by decide : (-1 : Int32) = (-1 : Int32)), if_pos (by decide : (-1 : Int32) = (-1 : Int32)), if_true, if_false]]
        show Go _ _ _ (T38.setTop (mkF m 100 #[.val (.int p1), .val (.int p2), .val (.int p3), .val (.int p4), .val (.int p5), .val (.int p3), .val (.int (-1)), .val (.ref b31), .val (.int 1)] [(.int 1)])) _
        refine Go.st (fun t k => XS.ifYes X38.here hx rfl (pc0 := 100) (pc' := 105) rfl (hb hby at_100) rfl ((if0 _ _).trans (feq (by decide : ¬ ((1 : Int32) = (0 : Int32)))).2) (by decide) (by decide) k) ?_
        show Go _ _ _ (T38.setTop (mkF m 105 #[.val (.int p1), .val (.int p2), .val (.int p3), .val (.int p4), .val (.int p5), .val (.int p3), .val (.int (-1)), .val (.ref b31), .val (.int 1)] [])) _
        refine Go.st (fun t k => XS.aload X38.here hx rfl (hb hby at_105) rfl rfl k) ?_
        refine Go.st (fun t k => XS.iloadN X38.here hx rfl (hb hby at_107) rfl k) ?_
        obtain ⟨cq39, kq39, q39a, q39b, q39c⟩ := isOf hZ e38 E_b31
        obtain ⟨_, _, ⟨T39, L39, k39, n39⟩, -, X39, ⟨Lc39, hQ39, l39, y39, z39⟩, st39⟩ := X38.virtualBack hx (y := (⟨"com/example/lectern/lectern/catalog/Franklin$Member", "takenFromLeft", "(I)Lcom/example/lectern/lectern/catalog/Franklin$Member;"⟩ : MethodName)) (z := (⟨"com/example/lectern/lectern/catalog/Franklin$Member", "takenFromLeft", "(I)Lcom/example/lectern/lectern/catalog/Franklin$Member;"⟩ : MethodName)) hown (mvT hZ (wd41 hw)) (mvT hZ (wd42 hw)) (notFace_of_selects (args := #[]) (mvT hZ (wd44 hw))) (mvT hZ (wd44 hw)) (mvT hZ (wd43 hw)) (by decide) (backOf (W := 0) (rm7 l Z a0 hw [] b31 p4 (f1 p1 w_NORMAL w_INITIATOR w_PASSIVE w_LEADER) p2 (-1 : Int32) h37 n0 Z0 F_b31_phase F_b31_leader F_b31_fromRight) hZ (wd45 hw) (wd2 hw) (by decide) (by decide)) q39a q39c (g := (mkF m 108 #[.val (.int p1), .val (.int p2), .val (.int p3), .val (.int p4), .val (.int p5), .val (.int p3), .val (.int (-1)), .val (.ref b31), .val (.int 1)] [(.int p4), (.ref b31)])) rfl (by rw [hml]; rfl) (Steps.refl _) (argsL := [(.int p4)]) (rest := []) (lenOf pd5 rfl) rfl (by show 2 * 0 + _ ≤ _; exact Nat.le_of_eq rfl) (hb hby at_108) (fun _ _ => ⟨rfl, e38, (by decide : 2 + 1 ≤ _), (by decide : 8 + 4 ≤ _)⟩)
        dsimp only [Pt.U, Pt.locs, Pt.cells, Pt.slots] at X39 l39 y39 z39 st39 hQ39
        subst l39 y39 z39
        obtain ⟨h39, e39⟩ : ∃ z, T39.heap = z := ⟨_, rfl⟩
        rw [e39] at hQ39
        obtain ⟨x7_0_39, rfl, N39q, K39, ng_x7_0_39, sz0_x7_0_39, Q39_0, Q39_1, Q39_2, Q39_3, Q39_4⟩ := hQ39
        refine Go.tr st39 ?_
        have ne_w_NORMAL_x7_0_39 : w_NORMAL ≠ x7_0_39 := Nat.ne_of_lt (Nat.lt_of_lt_of_le E_w_NORMAL.lt sz0_x7_0_39)
        have ne_w_INITIATOR_x7_0_39 : w_INITIATOR ≠ x7_0_39 := Nat.ne_of_lt (Nat.lt_of_lt_of_le E_w_INITIATOR.lt sz0_x7_0_39)
        have ne_w_PASSIVE_x7_0_39 : w_PASSIVE ≠ x7_0_39 := Nat.ne_of_lt (Nat.lt_of_lt_of_le E_w_PASSIVE.lt sz0_x7_0_39)
        have ne_w_LEADER_x7_0_39 : w_LEADER ≠ x7_0_39 := Nat.ne_of_lt (Nat.lt_of_lt_of_le E_w_LEADER.lt sz0_x7_0_39)
        have ne_b31_x7_0_39 : b31 ≠ x7_0_39 := Nat.ne_of_lt (Nat.lt_of_lt_of_le E_b31.lt sz0_x7_0_39)
        have ne__f1_p1_w_NORMAL_w_INITIATOR_w_PASSIVE_w_LEADER__x7_0_39 : (f1 p1 w_NORMAL w_INITIATOR w_PASSIVE w_LEADER) ≠ x7_0_39 := Nat.ne_of_lt (Nat.lt_of_lt_of_le E32_r.lt sz0_x7_0_39)
        have ne_x6_0_37_x7_0_39 : x6_0_37 ≠ x7_0_39 := Nat.ne_of_lt (Nat.lt_of_lt_of_le E_x6_0_37.lt sz0_x7_0_39)
        have g_x7_0_39 : n0 ≤ x7_0_39 := ng_x7_0_39
        have sz_x7_0_39 : h0.size ≤ x7_0_39 := Nat.le_trans K0.1 sz0_x7_0_39
        replace S_NORMAL := sta_keep S_NORMAL K39 all0
        replace E_w_NORMAL := E_w_NORMAL.keep K39
        replace S_INITIATOR := sta_keep S_INITIATOR K39 all0
        replace E_w_INITIATOR := E_w_INITIATOR.keep K39
        replace S_PASSIVE := sta_keep S_PASSIVE K39 all0
        replace E_w_PASSIVE := E_w_PASSIVE.keep K39
        replace S_LEADER := sta_keep S_LEADER K39 all0
        replace E_w_LEADER := E_w_LEADER.keep K39
        replace E_b31 := E_b31.keep K39
        replace E32_r := E32_r.keep K39
        replace F_b31_phase := F_b31_phase.keep K39 nin0
        replace F_b31_leader := F_b31_leader.keep K39 nin0
        replace F_b31_fromLeft := F_b31_fromLeft.keep K39 nin0
        replace F_b31_fromRight := F_b31_fromRight.keep K39 nin0
        replace E_x6_0_37 := E_x6_0_37.keep K39
        replace F_x6_0_37_phase := F_x6_0_37_phase.keep K39 nin0
        replace F_x6_0_37_leader := F_x6_0_37_leader.keep K39 nin0
        replace F_x6_0_37_fromLeft := F_x6_0_37_fromLeft.keep K39 nin0
        replace F_x6_0_37_fromRight := F_x6_0_37_fromRight.keep K39 nin0
        replace Z0 := Nat.le_trans Z0 K39.1
        replace K0 := K0.trans K39 all0
        have E_x7_0_39 := Q39_0
        have F_x7_0_39_phase := Q39_1
        have F_x7_0_39_leader := Q39_2
        have F_x7_0_39_fromLeft := Q39_3
        have F_x7_0_39_fromRight := Q39_4
        have N39 := Fr.app N38 N39q
        show Go _ _ _ (T39.setTop (mkF m 111 #[.val (.int p1), .val (.int p2), .val (.int p3), .val (.int p4), .val (.int p5), .val (.int p3), .val (.int (-1)), .val (.ref b31), .val (.int 1)] [(.ref x7_0_39)])) _
        obtain ⟨cq40, kq40, q40a, q40b, q40c⟩ := isOf hZ e39 E_x7_0_39
        obtain ⟨_, _, ⟨T40, L40, k40, n40⟩, -, X40, ⟨Lc40, hQ40, l40, y40, z40⟩, st40⟩ := X39.virtualBack hx (y := (⟨"com/example/lectern/lectern/catalog/Franklin$Member", "slotsEmpty", "()Z"⟩ : MethodName)) (z := (⟨"com/example/lectern/lectern/catalog/Franklin$Member", "slotsEmpty", "()Z"⟩ : MethodName)) hown (mvT hZ (wd29 hw)) (mvT hZ (wd30 hw)) (notFace_of_selects (args := #[]) (mvT hZ (wd32 hw))) (mvT hZ (wd32 hw)) (mvT hZ (wd31 hw)) (by decide) (backOf (W := 0) (rm5 l Z a0 hw [] x7_0_39 p4 (-1 : Int32) h39 n0 Z0 F_x7_0_39_fromLeft F_x7_0_39_fromRight) hZ (wd33 hw) (wd2 hw) (by decide) (by decide)) q40a q40c (g := (mkF m 111 #[.val (.int p1), .val (.int p2), .val (.int p3), .val (.int p4), .val (.int p5), .val (.int p3), .val (.int (-1)), .val (.ref b31), .val (.int 1)] [(.ref x7_0_39)])) rfl (by rw [hml]; rfl) (Steps.refl _) (argsL := []) (rest := []) (lenOf pd3 rfl) rfl (by show 2 * 0 + _ ≤ _; exact Nat.le_of_eq rfl) (hb hby at_111) (fun _ _ => ⟨rfl, e39, (by decide : 3 + 0 ≤ _), (by decide : 12 + 0 ≤ _)⟩)
        dsimp only [Pt.U, Pt.locs, Pt.cells, Pt.slots] at X40 l40 y40 z40 st40 hQ40
        subst l40 y40 z40
        refine Go.tr st40 ?_
        obtain ⟨rfl, N40q, e40⟩ := hQ40
        have N40 := Fr.app N39 N40q
        show Go _ _ _ (T40.setTop (mkF m 114 #[.val (.int p1), .val (.int p2), .val (.int p3), .val (.int p4), .val (.int p5), .val (.int p3), .val (.int (-1)), .val (.ref b31), .val (.int 1)] [(.int (f5 p4 (-1 : Int32)))])) _
        by_cases hc41 : p4 = (-1 : Int32)
        · rw [show (f5 p4 (-1 : Int32)) = (1 : Int32) from by unfold f5; simp only [if_pos hc41, if_pos (by decide : (-1 : Int32) = (-1 : Int32)), if_true, if_false]]
          show Go _ _ _ (T40.setTop (mkF m 114 #[.val (.int p1), .val (.int p2), .val (.int p3), .val (.int p4), .val (.int p5), .val (.int p3), .val (.int (-1)), .val (.ref b31), .val (.int 1)] [(.int 1)])) _
          refine Go.st (fun t k => XS.iloadN X40.here hx rfl (hb hby at_114) rfl k) ?_
          refine Go.st (fun t k => XS.iconst X40.here hx rfl (hb hby at_115) k) ?_
          refine Go.st (fun t k => XS.icmpNo X40.here hx rfl (hb hby at_116) rfl (teq hc41).2 k) ?_
          show Go _ _ _ (T40.setTop (mkF m 119 #[.val (.int p1), .val (.int p2), .val (.int p3), .val (.int p4), .val (.int p5), .val (.int p3), .val (.int (-1)), .val (.ref b31), .val (.int 1)] [(.int 1)])) _
          refine Go.st (fun t k => XS.iload X40.here hx rfl (hb hby at_119) rfl k) ?_
          refine Go.st (fun t k => XS.iconst X40.here hx rfl (hb hby at_121) k) ?_
          refine Go.st (fun t k => XS.icmpNo X40.here hx rfl (hb hby at_122) rfl (teq (by decide : (-1 : Int32) = (-1 : Int32))).2 k) ?_
          show Go _ _ _ (T40.setTop (mkF m 125 #[.val (.int p1), .val (.int p2), .val (.int p3), .val (.int p4), .val (.int p5), .val (.int p3), .val (.int (-1)), .val (.ref b31), .val (.int 1)] [(.int 1)])) _
          refine Go.st (fun t k => XS.iconst X40.here hx rfl (hb hby at_125) k) ?_
          refine Go.st (fun t k => XS.goto X40.here hx rfl (pc0 := 126) (pc' := 130) rfl (hb hby at_126) (by decide) (by decide) k) ?_
          refine Go.st (fun t k => XS.icmpYes X40.here hx rfl (pc0 := 130) (pc' := 135) rfl (hb hby at_130) rfl (teq (by decide : (1 : Int32) = (1 : Int32))).1 (by decide) (by decide) k) ?_
          show Go _ _ _ (T40.setTop (mkF m 135 #[.val (.int p1), .val (.int p2), .val (.int p3), .val (.int p4), .val (.int p5), .val (.int p3), .val (.int (-1)), .val (.ref b31), .val (.int 1)] [])) _
          refine Go.st (fun t k => XS.aload X40.here hx rfl (hb hby at_135) rfl rfl k) ?_
          refine Go.st (fun t k => XS.iloadN X40.here hx rfl (hb hby at_137) rfl k) ?_
          obtain ⟨cq42, kq42, q42a, q42b, q42c⟩ := isOf hZ e40 E_b31
          obtain ⟨_, _, ⟨T42, L42, k42, n42⟩, -, X42, ⟨Lc42, hQ42, l42, y42, z42⟩, st42⟩ := X40.virtualBack hx (y := (⟨"com/example/lectern/lectern/catalog/Franklin$Member", "takenFromRight", "(I)Lcom/example/lectern/lectern/catalog/Franklin$Member;"⟩ : MethodName)) (z := (⟨"com/example/lectern/lectern/catalog/Franklin$Member", "takenFromRight", "(I)Lcom/example/lectern/lectern/catalog/Franklin$Member;"⟩ : MethodName)) hown (mvT hZ (wd46 hw)) (mvT hZ (wd47 hw)) (notFace_of_selects (args := #[]) (mvT hZ (wd49 hw))) (mvT hZ (wd49 hw)) (mvT hZ (wd48 hw)) (by decide) (backOf (W := 0) (rm8 l Z a0 hw [] b31 p3 (f1 p1 w_NORMAL w_INITIATOR w_PASSIVE w_LEADER) p2 p3 h39 n0 Z0 F_b31_phase F_b31_leader F_b31_fromLeft) hZ (wd50 hw) (wd2 hw) (by decide) (by decide)) q42a q42c (g := (mkF m 138 #[.val (.int p1), .val (.int p2), .val (.int p3), .val (.int p4), .val (.int p5), .val (.int p3), .val (.int (-1)), .val (.ref b31), .val (.int 1)] [(.int p3), (.ref b31)])) rfl (by rw [hml]; rfl) (Steps.refl _) (argsL := [(.int p3)]) (rest := []) (lenOf pd5 rfl) rfl (by show 2 * 0 + _ ≤ _; exact Nat.le_of_eq rfl) (hb hby at_138) (fun _ _ => ⟨rfl, e40, (by decide : 3 + 1 ≤ _), (by decide : 12 + 4 ≤ _)⟩)
          dsimp only [Pt.U, Pt.locs, Pt.cells, Pt.slots] at X42 l42 y42 z42 st42 hQ42
          subst l42 y42 z42
          obtain ⟨h42, e42⟩ : ∃ z, T42.heap = z := ⟨_, rfl⟩
          rw [e42] at hQ42
          obtain ⟨x8_0_42, rfl, N42q, K42, ng_x8_0_42, sz0_x8_0_42, Q42_0, Q42_1, Q42_2, Q42_3, Q42_4⟩ := hQ42
          refine Go.tr st42 ?_
          have ne_w_NORMAL_x8_0_42 : w_NORMAL ≠ x8_0_42 := Nat.ne_of_lt (Nat.lt_of_lt_of_le E_w_NORMAL.lt sz0_x8_0_42)
          have ne_w_INITIATOR_x8_0_42 : w_INITIATOR ≠ x8_0_42 := Nat.ne_of_lt (Nat.lt_of_lt_of_le E_w_INITIATOR.lt sz0_x8_0_42)
          have ne_w_PASSIVE_x8_0_42 : w_PASSIVE ≠ x8_0_42 := Nat.ne_of_lt (Nat.lt_of_lt_of_le E_w_PASSIVE.lt sz0_x8_0_42)
          have ne_w_LEADER_x8_0_42 : w_LEADER ≠ x8_0_42 := Nat.ne_of_lt (Nat.lt_of_lt_of_le E_w_LEADER.lt sz0_x8_0_42)
          have ne_b31_x8_0_42 : b31 ≠ x8_0_42 := Nat.ne_of_lt (Nat.lt_of_lt_of_le E_b31.lt sz0_x8_0_42)
          have ne__f1_p1_w_NORMAL_w_INITIATOR_w_PASSIVE_w_LEADER__x8_0_42 : (f1 p1 w_NORMAL w_INITIATOR w_PASSIVE w_LEADER) ≠ x8_0_42 := Nat.ne_of_lt (Nat.lt_of_lt_of_le E32_r.lt sz0_x8_0_42)
          have ne_x6_0_37_x8_0_42 : x6_0_37 ≠ x8_0_42 := Nat.ne_of_lt (Nat.lt_of_lt_of_le E_x6_0_37.lt sz0_x8_0_42)
          have ne_x7_0_39_x8_0_42 : x7_0_39 ≠ x8_0_42 := Nat.ne_of_lt (Nat.lt_of_lt_of_le E_x7_0_39.lt sz0_x8_0_42)
          have g_x8_0_42 : n0 ≤ x8_0_42 := ng_x8_0_42
          have sz_x8_0_42 : h0.size ≤ x8_0_42 := Nat.le_trans K0.1 sz0_x8_0_42
          replace S_NORMAL := sta_keep S_NORMAL K42 all0
          replace E_w_NORMAL := E_w_NORMAL.keep K42
          replace S_INITIATOR := sta_keep S_INITIATOR K42 all0
          replace E_w_INITIATOR := E_w_INITIATOR.keep K42
          replace S_PASSIVE := sta_keep S_PASSIVE K42 all0
          replace E_w_PASSIVE := E_w_PASSIVE.keep K42
          replace S_LEADER := sta_keep S_LEADER K42 all0
          replace E_w_LEADER := E_w_LEADER.keep K42
          replace E_b31 := E_b31.keep K42
          replace E32_r := E32_r.keep K42
          replace F_b31_phase := F_b31_phase.keep K42 nin0
          replace F_b31_leader := F_b31_leader.keep K42 nin0
          replace F_b31_fromLeft := F_b31_fromLeft.keep K42 nin0
          replace F_b31_fromRight := F_b31_fromRight.keep K42 nin0
          replace E_x6_0_37 := E_x6_0_37.keep K42
          replace F_x6_0_37_phase := F_x6_0_37_phase.keep K42 nin0
          replace F_x6_0_37_leader := F_x6_0_37_leader.keep K42 nin0
          replace F_x6_0_37_fromLeft := F_x6_0_37_fromLeft.keep K42 nin0
          replace F_x6_0_37_fromRight := F_x6_0_37_fromRight.keep K42 nin0
          replace E_x7_0_39 := E_x7_0_39.keep K42
          replace F_x7_0_39_phase := F_x7_0_39_phase.keep K42 nin0
          replace F_x7_0_39_leader := F_x7_0_39_leader.keep K42 nin0
          replace F_x7_0_39_fromLeft := F_x7_0_39_fromLeft.keep K42 nin0
          replace F_x7_0_39_fromRight := F_x7_0_39_fromRight.keep K42 nin0
          replace Z0 := Nat.le_trans Z0 K42.1
          replace K0 := K0.trans K42 all0
          have E_x8_0_42 := Q42_0
          have F_x8_0_42_phase := Q42_1
          have F_x8_0_42_leader := Q42_2
          have F_x8_0_42_fromLeft := Q42_3
          have F_x8_0_42_fromRight := Q42_4
          have N42 := Fr.app N40 N42q
          show Go _ _ _ (T42.setTop (mkF m 141 #[.val (.int p1), .val (.int p2), .val (.int p3), .val (.int p4), .val (.int p5), .val (.int p3), .val (.int (-1)), .val (.ref b31), .val (.int 1)] [(.ref x8_0_42)])) _
          obtain ⟨cq43, kq43, q43a, q43b, q43c⟩ := isOf hZ e42 E_x8_0_42
          obtain ⟨_, _, ⟨T43, L43, k43, n43⟩, -, X43, ⟨Lc43, hQ43, l43, y43, z43⟩, st43⟩ := X42.virtualBack hx (y := (⟨"com/example/lectern/lectern/catalog/Franklin$Member", "slotsEmpty", "()Z"⟩ : MethodName)) (z := (⟨"com/example/lectern/lectern/catalog/Franklin$Member", "slotsEmpty", "()Z"⟩ : MethodName)) hown (mvT hZ (wd29 hw)) (mvT hZ (wd30 hw)) (notFace_of_selects (args := #[]) (mvT hZ (wd32 hw))) (mvT hZ (wd32 hw)) (mvT hZ (wd31 hw)) (by decide) (backOf (W := 0) (rm5 l Z a0 hw [] x8_0_42 p3 p3 h42 n0 Z0 F_x8_0_42_fromLeft F_x8_0_42_fromRight) hZ (wd33 hw) (wd2 hw) (by decide) (by decide)) q43a q43c (g := (mkF m 141 #[.val (.int p1), .val (.int p2), .val (.int p3), .val (.int p4), .val (.int p5), .val (.int p3), .val (.int (-1)), .val (.ref b31), .val (.int 1)] [(.ref x8_0_42)])) rfl (by rw [hml]; rfl) (Steps.refl _) (argsL := []) (rest := []) (lenOf pd3 rfl) rfl (by show 2 * 0 + _ ≤ _; exact Nat.le_of_eq rfl) (hb hby at_141) (fun _ _ => ⟨rfl, e42, (by decide : 4 + 0 ≤ _), (by decide : 16 + 0 ≤ _)⟩)
          dsimp only [Pt.U, Pt.locs, Pt.cells, Pt.slots] at X43 l43 y43 z43 st43 hQ43
          subst l43 y43 z43
          refine Go.tr st43 ?_
          obtain ⟨rfl, N43q, e43⟩ := hQ43
          have N43 := Fr.app N42 N43q
          show Go _ _ _ (T43.setTop (mkF m 144 #[.val (.int p1), .val (.int p2), .val (.int p3), .val (.int p4), .val (.int p5), .val (.int p3), .val (.int (-1)), .val (.ref b31), .val (.int 1)] [(.int (f5 p3 p3))])) _
          rw [show (f5 p3 p3) = (1 : Int32) from by unfold f5; simp only [if_pos hc35, if_pos hc35, if_true, if_false]]
          show Go _ _ _ (T43.setTop (mkF m 144 #[.val (.int p1), .val (.int p2), .val (.int p3), .val (.int p4), .val (.int p5), .val (.int p3), .val (.int (-1)), .val (.ref b31), .val (.int 1)] [(.int 1)])) _
          refine Go.st (fun t k => XS.iload X43.here hx rfl (hb hby at_144) rfl k) ?_
          refine Go.st (fun t k => XS.iconst X43.here hx rfl (hb hby at_146) k) ?_
          refine Go.st (fun t k => XS.icmpNo X43.here hx rfl (hb hby at_147) rfl (teq hc35).2 k) ?_
          show Go _ _ _ (T43.setTop (mkF m 150 #[.val (.int p1), .val (.int p2), .val (.int p3), .val (.int p4), .val (.int p5), .val (.int p3), .val (.int (-1)), .val (.ref b31), .val (.int 1)] [(.int 1)])) _
          refine Go.st (fun t k => XS.iloadN X43.here hx rfl (hb hby at_150) rfl k) ?_
          refine Go.st (fun t k => XS.iconst X43.here hx rfl (hb hby at_151) k) ?_
          refine Go.st (fun t k => XS.icmpNo X43.here hx rfl (hb hby at_152) rfl (teq hc35).2 k) ?_
          show Go _ _ _ (T43.setTop (mkF m 155 #[.val (.int p1), .val (.int p2), .val (.int p3), .val (.int p4), .val (.int p5), .val (.int p3), .val (.int (-1)), .val (.ref b31), .val (.int 1)] [(.int 1)])) _
          refine Go.st (fun t k => XS.iconst X43.here hx rfl (hb hby at_155) k) ?_
          refine Go.st (fun t k => XS.goto X43.here hx rfl (pc0 := 156) (pc' := 160) rfl (hb hby at_156) (by decide) (by decide) k) ?_
          refine Go.st (fun t k => XS.icmpYes X43.here hx rfl (pc0 := 160) (pc' := 165) rfl (hb hby at_160) rfl (teq (by decide : (1 : Int32) = (1 : Int32))).1 (by decide) (by decide) k) ?_
          show Go _ _ _ (T43.setTop (mkF m 165 #[.val (.int p1), .val (.int p2), .val (.int p3), .val (.int p4), .val (.int p5), .val (.int p3), .val (.int (-1)), .val (.ref b31), .val (.int 1)] [])) _
          refine Go.st (fun t k => XS.iconst X43.here hx rfl (hb hby at_165) k) ?_
          obtain ⟨fs, hr, hrun, hended, hW, hsame⟩ := X43.leave (v := some (.int (1 : Int32))) (fun h => by rw [Bd.returns] at h; cases h)
          refine Go.fin (retN X43 hx (t := .boolean) Bd.returns (by simp) (hb hby at_166) hr) hrun hended ⟨_, _, rfl, ?_, ⟨_, rfl⟩, hW, hsame.mono (by decide) (by decide)⟩
          show Q0 Z p1 p2 p3 p4 p5 w_NORMAL w_INITIATOR w_PASSIVE w_LEADER h0 n0 _ T43.heap _
          rw [e43]
          exact ⟨rfl, N43⟩
        · rw [show (f5 p4 (-1 : Int32)) = (0 : Int32) from by unfold f5; simp only [if_neg hc41, if_true, if_false]]
          show Go _ _ _ (T40.setTop (mkF m 114 #[.val (.int p1), .val (.int p2), .val (.int p3), .val (.int p4), .val (.int p5), .val (.int p3), .val (.int (-1)), .val (.ref b31), .val (.int 1)] [(.int 0)])) _
          refine Go.st (fun t k => XS.iloadN X40.here hx rfl (hb hby at_114) rfl k) ?_
          refine Go.st (fun t k => XS.iconst X40.here hx rfl (hb hby at_115) k) ?_
          refine Go.st (fun t k => XS.icmpYes X40.here hx rfl (pc0 := 116) (pc' := 129) rfl (hb hby at_116) rfl (feq hc41).2 (by decide) (by decide) k) ?_
          show Go _ _ _ (T40.setTop (mkF m 129 #[.val (.int p1), .val (.int p2), .val (.int p3), .val (.int p4), .val (.int p5), .val (.int p3), .val (.int (-1)), .val (.ref b31), .val (.int 1)] [(.int 0)])) _
          refine Go.st (fun t k => XS.iconst X40.here hx rfl (hb hby at_129) k) ?_
          refine Go.st (fun t k => XS.icmpYes X40.here hx rfl (pc0 := 130) (pc' := 135) rfl (hb hby at_130) rfl (teq (by decide : (0 : Int32) = (0 : Int32))).1 (by decide) (by decide) k) ?_
          show Go _ _ _ (T40.setTop (mkF m 135 #[.val (.int p1), .val (.int p2), .val (.int p3), .val (.int p4), .val (.int p5), .val (.int p3), .val (.int (-1)), .val (.ref b31), .val (.int 1)] [])) _
          refine Go.st (fun t k => XS.aload X40.here hx rfl (hb hby at_135) rfl rfl k) ?_
          refine Go.st (fun t k => XS.iloadN X40.here hx rfl (hb hby at_137) rfl k) ?_
          obtain ⟨cq44, kq44, q44a, q44b, q44c⟩ := isOf hZ e40 E_b31
          obtain ⟨_, _, ⟨T44, L44, k44, n44⟩, -, X44, ⟨Lc44, hQ44, l44, y44, z44⟩, st44⟩ := X40.virtualBack hx (y := (⟨"com/example/lectern/lectern/catalog/Franklin$Member", "takenFromRight", "(I)Lcom/example/lectern/lectern/catalog/Franklin$Member;"⟩ : MethodName)) (z := (⟨"com/example/lectern/lectern/catalog/Franklin$Member", "takenFromRight", "(I)Lcom/example/lectern/lectern/catalog/Franklin$Member;"⟩ : MethodName)) hown (mvT hZ (wd46 hw)) (mvT hZ (wd47 hw)) (notFace_of_selects (args := #[]) (mvT hZ (wd49 hw))) (mvT hZ (wd49 hw)) (mvT hZ (wd48 hw)) (by decide) (backOf (W := 0) (rm8 l Z a0 hw [] b31 p3 (f1 p1 w_NORMAL w_INITIATOR w_PASSIVE w_LEADER) p2 p3 h39 n0 Z0 F_b31_phase F_b31_leader F_b31_fromLeft) hZ (wd50 hw) (wd2 hw) (by decide) (by decide)) q44a q44c (g := (mkF m 138 #[.val (.int p1), .val (.int p2), .val (.int p3), .val (.int p4), .val (.int p5), .val (.int p3), .val (.int (-1)), .val (.ref b31), .val (.int 1)] [(.int p3), (.ref b31)])) rfl (by rw [hml]; rfl) (Steps.refl _) (argsL := [(.int p3)]) (rest := []) (lenOf pd5 rfl) rfl (by show 2 * 0 + _ ≤ _; exact Nat.le_of_eq rfl) (hb hby at_138) (fun _ _ => ⟨rfl, e40, (by decide : 3 + 1 ≤ _), (by decide : 12 + 4 ≤ _)⟩)
          dsimp only [Pt.U, Pt.locs, Pt.cells, Pt.slots] at X44 l44 y44 z44 st44 hQ44
          subst l44 y44 z44
          obtain ⟨h44, e44⟩ : ∃ z, T44.heap = z := ⟨_, rfl⟩
          rw [e44] at hQ44
          obtain ⟨x8_0_44, rfl, N44q, K44, ng_x8_0_44, sz0_x8_0_44, Q44_0, Q44_1, Q44_2, Q44_3, Q44_4⟩ := hQ44
          refine Go.tr st44 ?_
          have ne_w_NORMAL_x8_0_44 : w_NORMAL ≠ x8_0_44 := Nat.ne_of_lt (Nat.lt_of_lt_of_le E_w_NORMAL.lt sz0_x8_0_44)
          have ne_w_INITIATOR_x8_0_44 : w_INITIATOR ≠ x8_0_44 := Nat.ne_of_lt (Nat.lt_of_lt_of_le E_w_INITIATOR.lt sz0_x8_0_44)
          have ne_w_PASSIVE_x8_0_44 : w_PASSIVE ≠ x8_0_44 := Nat.ne_of_lt (Nat.lt_of_lt_of_le E_w_PASSIVE.lt sz0_x8_0_44)
          have ne_w_LEADER_x8_0_44 : w_LEADER ≠ x8_0_44 := Nat.ne_of_lt (Nat.lt_of_lt_of_le E_w_LEADER.lt sz0_x8_0_44)
          have ne_b31_x8_0_44 : b31 ≠ x8_0_44 := Nat.ne_of_lt (Nat.lt_of_lt_of_le E_b31.lt sz0_x8_0_44)
          have ne__f1_p1_w_NORMAL_w_INITIATOR_w_PASSIVE_w_LEADER__x8_0_44 : (f1 p1 w_NORMAL w_INITIATOR w_PASSIVE w_LEADER) ≠ x8_0_44 := Nat.ne_of_lt (Nat.lt_of_lt_of_le E32_r.lt sz0_x8_0_44)
          have ne_x6_0_37_x8_0_44 : x6_0_37 ≠ x8_0_44 := Nat.ne_of_lt (Nat.lt_of_lt_of_le E_x6_0_37.lt sz0_x8_0_44)
          have ne_x7_0_39_x8_0_44 : x7_0_39 ≠ x8_0_44 := Nat.ne_of_lt (Nat.lt_of_lt_of_le E_x7_0_39.lt sz0_x8_0_44)
          have g_x8_0_44 : n0 ≤ x8_0_44 := ng_x8_0_44
          have sz_x8_0_44 : h0.size ≤ x8_0_44 := Nat.le_trans K0.1 sz0_x8_0_44
          replace S_NORMAL := sta_keep S_NORMAL K44 all0
          replace E_w_NORMAL := E_w_NORMAL.keep K44
          replace S_INITIATOR := sta_keep S_INITIATOR K44 all0
          replace E_w_INITIATOR := E_w_INITIATOR.keep K44
          replace S_PASSIVE := sta_keep S_PASSIVE K44 all0
          replace E_w_PASSIVE := E_w_PASSIVE.keep K44
          replace S_LEADER := sta_keep S_LEADER K44 all0
          replace E_w_LEADER := E_w_LEADER.keep K44
          replace E_b31 := E_b31.keep K44
          replace E32_r := E32_r.keep K44
          replace F_b31_phase := F_b31_phase.keep K44 nin0
          replace F_b31_leader := F_b31_leader.keep K44 nin0
          replace F_b31_fromLeft := F_b31_fromLeft.keep K44 nin0
          replace F_b31_fromRight := F_b31_fromRight.keep K44 nin0
          replace E_x6_0_37 := E_x6_0_37.keep K44
          replace F_x6_0_37_phase := F_x6_0_37_phase.keep K44 nin0
          replace F_x6_0_37_leader := F_x6_0_37_leader.keep K44 nin0
          replace F_x6_0_37_fromLeft := F_x6_0_37_fromLeft.keep K44 nin0
          replace F_x6_0_37_fromRight := F_x6_0_37_fromRight.keep K44 nin0
          replace E_x7_0_39 := E_x7_0_39.keep K44
          replace F_x7_0_39_phase := F_x7_0_39_phase.keep K44 nin0
          replace F_x7_0_39_leader := F_x7_0_39_leader.keep K44 nin0
          replace F_x7_0_39_fromLeft := F_x7_0_39_fromLeft.keep K44 nin0
          replace F_x7_0_39_fromRight := F_x7_0_39_fromRight.keep K44 nin0
          replace Z0 := Nat.le_trans Z0 K44.1
          replace K0 := K0.trans K44 all0
          have E_x8_0_44 := Q44_0
          have F_x8_0_44_phase := Q44_1
          have F_x8_0_44_leader := Q44_2
          have F_x8_0_44_fromLeft := Q44_3
          have F_x8_0_44_fromRight := Q44_4
          have N44 := Fr.app N40 N44q
          show Go _ _ _ (T44.setTop (mkF m 141 #[.val (.int p1), .val (.int p2), .val (.int p3), .val (.int p4), .val (.int p5), .val (.int p3), .val (.int (-1)), .val (.ref b31), .val (.int 1)] [(.ref x8_0_44)])) _
          obtain ⟨cq45, kq45, q45a, q45b, q45c⟩ := isOf hZ e44 E_x8_0_44
          obtain ⟨_, _, ⟨T45, L45, k45, n45⟩, -, X45, ⟨Lc45, hQ45, l45, y45, z45⟩, st45⟩ := X44.virtualBack hx (y := (⟨"com/example/lectern/lectern/catalog/Franklin$Member", "slotsEmpty", "()Z"⟩ : MethodName)) (z := (⟨"com/example/lectern/lectern/catalog/Franklin$Member", "slotsEmpty", "()Z"⟩ : MethodName)) hown (mvT hZ (wd29 hw)) (mvT hZ (wd30 hw)) (notFace_of_selects (args := #[]) (mvT hZ (wd32 hw))) (mvT hZ (wd32 hw)) (mvT hZ (wd31 hw)) (by decide) (backOf (W := 0) (rm5 l Z a0 hw [] x8_0_44 p3 p3 h44 n0 Z0 F_x8_0_44_fromLeft F_x8_0_44_fromRight) hZ (wd33 hw) (wd2 hw) (by decide) (by decide)) q45a q45c (g := (mkF m 141 #[.val (.int p1), .val (.int p2), .val (.int p3), .val (.int p4), .val (.int p5), .val (.int p3), .val (.int (-1)), .val (.ref b31), .val (.int 1)] [(.ref x8_0_44)])) rfl (by rw [hml]; rfl) (Steps.refl _) (argsL := []) (rest := []) (lenOf pd3 rfl) rfl (by show 2 * 0 + _ ≤ _; exact Nat.le_of_eq rfl) (hb hby at_141) (fun _ _ => ⟨rfl, e44, (by decide : 4 + 0 ≤ _), (by decide : 16 + 0 ≤ _)⟩)
          dsimp only [Pt.U, Pt.locs, Pt.cells, Pt.slots] at X45 l45 y45 z45 st45 hQ45
          subst l45 y45 z45
          refine Go.tr st45 ?_
          obtain ⟨rfl, N45q, e45⟩ := hQ45
          have N45 := Fr.app N44 N45q
          show Go _ _ _ (T45.setTop (mkF m 144 #[.val (.int p1), .val (.int p2), .val (.int p3), .val (.int p4), .val (.int p5), .val (.int p3), .val (.int (-1)), .val (.ref b31), .val (.int 1)] [(.int (f5 p3 p3))])) _
          rw [show (f5 p3 p3) = (1 : Int32) from by unfold f5; simp only [if_pos hc35, if_pos hc35, if_true, if_false]]
          show Go _ _ _ (T45.setTop (mkF m 144 #[.val (.int p1), .val (.int p2), .val (.int p3), .val (.int p4), .val (.int p5), .val (.int p3), .val (.int (-1)), .val (.ref b31), .val (.int 1)] [(.int 1)])) _
          refine Go.st (fun t k => XS.iload X45.here hx rfl (hb hby at_144) rfl k) ?_
          refine Go.st (fun t k => XS.iconst X45.here hx rfl (hb hby at_146) k) ?_
          refine Go.st (fun t k => XS.icmpNo X45.here hx rfl (hb hby at_147) rfl (teq hc35).2 k) ?_
          show Go _ _ _ (T45.setTop (mkF m 150 #[.val (.int p1), .val (.int p2), .val (.int p3), .val (.int p4), .val (.int p5), .val (.int p3), .val (.int (-1)), .val (.ref b31), .val (.int 1)] [(.int 1)])) _
          refine Go.st (fun t k => XS.iloadN X45.here hx rfl (hb hby at_150) rfl k) ?_
          refine Go.st (fun t k => XS.iconst X45.here hx rfl (hb hby at_151) k) ?_
          refine Go.st (fun t k => XS.icmpNo X45.here hx rfl (hb hby at_152) rfl (teq hc35).2 k) ?_
          show Go _ _ _ (T45.setTop (mkF m 155 #[.val (.int p1), .val (.int p2), .val (.int p3), .val (.int p4), .val (.int p5), .val (.int p3), .val (.int (-1)), .val (.ref b31), .val (.int 1)] [(.int 1)])) _
          refine Go.st (fun t k => XS.iconst X45.here hx rfl (hb hby at_155) k) ?_
          refine Go.st (fun t k => XS.goto X45.here hx rfl (pc0 := 156) (pc' := 160) rfl (hb hby at_156) (by decide) (by decide) k) ?_
          refine Go.st (fun t k => XS.icmpYes X45.here hx rfl (pc0 := 160) (pc' := 165) rfl (hb hby at_160) rfl (teq (by decide : (1 : Int32) = (1 : Int32))).1 (by decide) (by decide) k) ?_
          show Go _ _ _ (T45.setTop (mkF m 165 #[.val (.int p1), .val (.int p2), .val (.int p3), .val (.int p4), .val (.int p5), .val (.int p3), .val (.int (-1)), .val (.ref b31), .val (.int 1)] [])) _
          refine Go.st (fun t k => XS.iconst X45.here hx rfl (hb hby at_165) k) ?_
          obtain ⟨fs, hr, hrun, hended, hW, hsame⟩ := X45.leave (v := some (.int (1 : Int32))) (fun h => by rw [Bd.returns] at h; cases h)
          refine Go.fin (retN X45 hx (t := .boolean) Bd.returns (by simp) (hb hby at_166) hr) hrun hended ⟨_, _, rfl, ?_, ⟨_, rfl⟩, hW, hsame.mono (by decide) (by decide)⟩
          show Q0 Z p1 p2 p3 p4 p5 w_NORMAL w_INITIATOR w_PASSIVE w_LEADER h0 n0 _ T45.heap _
          rw [e45]
          exact ⟨rfl, N45⟩
      · rw [show (f5 p3 (-1 : Int32)) = (0 : Int32) from by unfold f5; simp only [if_neg hc35, if_true, if_false]]
        show Go _ _ _ (T34.setTop (mkF m 51 #[.val (.int p1), .val (.int p2), .val (.int p3), .val (.int p4), .val (.int p5), .val (.int p3), .val (.int (-1)), .val (.ref b31), .unset] [(.int 0)])) _
        refine Go.st (fun t k => XS.istore X34.here hx rfl (hb hby at_51) rfl (l' := #[.val (.int p1), .val (.int p2), .val (.int p3), .val (.int p4), .val (.int p5), .val (.int p3), .val (.int (-1)), .val (.ref b31), .val (.int 0)]) rfl k) ?_
        refine Go.st (fun t k => XS.iload X34.here hx rfl (hb hby at_53) rfl k) ?_
        refine Go.st (fun t k => XS.iload X34.here hx rfl (hb hby at_55) rfl k) ?_
        refine Go.st (fun t k => XS.iconst X34.here hx rfl (hb hby at_57) k) ?_
        refine Go.st (fun t k => XS.icmpYes X34.here hx rfl (pc0 := 58) (pc' := 71) rfl (hb hby at_58) rfl (feq hc35).2 (by decide) (by decide) k) ?_
        show Go _ _ _ (T34.setTop (mkF m 71 #[.val (.int p1), .val (.int p2), .val (.int p3), .val (.int p4), .val (.int p5), .val (.int p3), .val (.int (-1)), .val (.ref b31), .val (.int 0)] [(.int 0)])) _
        refine Go.st (fun t k => XS.iconst X34.here hx rfl (hb hby at_71) k) ?_
        refine Go.st (fun t k => XS.icmpYes X34.here hx rfl (pc0 := 72) (pc' := 77) rfl (hb hby at_72) rfl (teq (by decide : (0 : Int32) = (0 : Int32))).1 (by decide) (by decide) k) ?_
        show Go _ _ _ (T34.setTop (mkF m 77 #[.val (.int p1), .val (.int p2), .val (.int p3), .val (.int p4), .val (.int p5), .val (.int p3), .val (.int (-1)), .val (.ref b31), .val (.int 0)] [])) _
        refine Go.st (fun t k => XS.iload X34.here hx rfl (hb hby at_77) rfl k) ?_
        refine Go.st (fun t k => XS.ifYes X34.here hx rfl (pc0 := 79) (pc' := 92) rfl (hb hby at_79) rfl ((if0 _ _).trans (teq (by decide : (0 : Int32) = (0 : Int32))).1) (by decide) (by decide) k) ?_
        show Go _ _ _ (T34.setTop (mkF m 92 #[.val (.int p1), .val (.int p2), .val (.int p3), .val (.int p4), .val (.int p5), .val (.int p3), .val (.int (-1)), .val (.ref b31), .val (.int 0)] [])) _
        refine Go.st (fun t k => XS.aload X34.here hx rfl (hb hby at_92) rfl rfl k) ?_
        obtain ⟨cq46, kq46, q46a, q46b, q46c⟩ := isOf hZ e34 E_b31
        obtain ⟨_, _, ⟨T46, L46, k46, n46⟩, -, X46, ⟨Lc46, hQ46, l46, y46, z46⟩, st46⟩ := X34.virtualBack hx (y := (⟨"com/example/lectern/lectern/catalog/Franklin$Member", "emptied", "()Lcom/example/lectern/lectern/catalog/Franklin$Member;"⟩ : MethodName)) (z := (⟨"com/example/lectern/lectern/catalog/Franklin$Member", "emptied", "()Lcom/example/lectern/lectern/catalog/Franklin$Member;"⟩ : MethodName)) hown (mvT hZ (wd34 hw)) (mvT hZ (wd35 hw)) (notFace_of_selects (args := #[]) (mvT hZ (wd37 hw))) (mvT hZ (wd37 hw)) (mvT hZ (wd36 hw)) (by decide) (backOf (W := 0) (rm6 l Z a0 hw [] b31 (f1 p1 w_NORMAL w_INITIATOR w_PASSIVE w_LEADER) p2 h33 n0 Z0 F_b31_phase F_b31_leader) hZ (wd38 hw) (wd2 hw) (by decide) (by decide)) q46a q46c (g := (mkF m 94 #[.val (.int p1), .val (.int p2), .val (.int p3), .val (.int p4), .val (.int p5), .val (.int p3), .val (.int (-1)), .val (.ref b31), .val (.int 0)] [(.ref b31)])) rfl (by rw [hml]; rfl) (Steps.refl _) (argsL := []) (rest := []) (lenOf pd4 rfl) rfl (by show 2 * 0 + _ ≤ _; exact Nat.le_of_eq rfl) (hb hby at_94) (fun _ _ => ⟨rfl, e34, (by decide : 1 + 1 ≤ _), (by decide : 4 + 4 ≤ _)⟩)
        dsimp only [Pt.U, Pt.locs, Pt.cells, Pt.slots] at X46 l46 y46 z46 st46 hQ46
        subst l46 y46 z46
        obtain ⟨h46, e46⟩ : ∃ z, T46.heap = z := ⟨_, rfl⟩
        rw [e46] at hQ46
        obtain ⟨x6_0_46, rfl, N46q, K46, ng_x6_0_46, sz0_x6_0_46, Q46_0, Q46_1, Q46_2, Q46_3, Q46_4⟩ := hQ46
        refine Go.tr st46 ?_
        have ne_w_NORMAL_x6_0_46 : w_NORMAL ≠ x6_0_46 := Nat.ne_of_lt (Nat.lt_of_lt_of_le E_w_NORMAL.lt sz0_x6_0_46)
        have ne_w_INITIATOR_x6_0_46 : w_INITIATOR ≠ x6_0_46 := Nat.ne_of_lt (Nat.lt_of_lt_of_le E_w_INITIATOR.lt sz0_x6_0_46)
        have ne_w_PASSIVE_x6_0_46 : w_PASSIVE ≠ x6_0_46 := Nat.ne_of_lt (Nat.lt_of_lt_of_le E_w_PASSIVE.lt sz0_x6_0_46)
        have ne_w_LEADER_x6_0_46 : w_LEADER ≠ x6_0_46 := Nat.ne_of_lt (Nat.lt_of_lt_of_le E_w_LEADER.lt sz0_x6_0_46)
        have ne_b31_x6_0_46 : b31 ≠ x6_0_46 := Nat.ne_of_lt (Nat.lt_of_lt_of_le E_b31.lt sz0_x6_0_46)
        have ne__f1_p1_w_NORMAL_w_INITIATOR_w_PASSIVE_w_LEADER__x6_0_46 : (f1 p1 w_NORMAL w_INITIATOR w_PASSIVE w_LEADER) ≠ x6_0_46 := Nat.ne_of_lt (Nat.lt_of_lt_of_le E32_r.lt sz0_x6_0_46)
        have g_x6_0_46 : n0 ≤ x6_0_46 := ng_x6_0_46
        have sz_x6_0_46 : h0.size ≤ x6_0_46 := Nat.le_trans K0.1 sz0_x6_0_46
        replace S_NORMAL := sta_keep S_NORMAL K46 all0
        replace E_w_NORMAL := E_w_NORMAL.keep K46
        replace S_INITIATOR := sta_keep S_INITIATOR K46 all0
        replace E_w_INITIATOR := E_w_INITIATOR.keep K46
        replace S_PASSIVE := sta_keep S_PASSIVE K46 all0
        replace E_w_PASSIVE := E_w_PASSIVE.keep K46
        replace S_LEADER := sta_keep S_LEADER K46 all0
        replace E_w_LEADER := E_w_LEADER.keep K46
        replace E_b31 := E_b31.keep K46
        replace E32_r := E32_r.keep K46
        replace F_b31_phase := F_b31_phase.keep K46 nin0
        replace F_b31_leader := F_b31_leader.keep K46 nin0
        replace F_b31_fromLeft := F_b31_fromLeft.keep K46 nin0
        replace F_b31_fromRight := F_b31_fromRight.keep K46 nin0
        replace Z0 := Nat.le_trans Z0 K46.1
        replace K0 := K0.trans K46 all0
        have E_x6_0_46 := Q46_0
        have F_x6_0_46_phase := Q46_1
        have F_x6_0_46_leader := Q46_2
        have F_x6_0_46_fromLeft := Q46_3
        have F_x6_0_46_fromRight := Q46_4
        have N46 := Fr.app N34 N46q
        show Go _ _ _ (T46.setTop (mkF m 97 #[.val (.int p1), .val (.int p2), .val (.int p3), .val (.int p4), .val (.int p5), .val (.int p3), .val (.int (-1)), .val (.ref b31), .val (.int 0)] [(.ref x6_0_46)])) _
        obtain ⟨cq47, kq47, q47a, q47b, q47c⟩ := isOf hZ e46 E_x6_0_46
        obtain ⟨_, _, ⟨T47, L47, k47, n47⟩, -, X47, ⟨Lc47, hQ47, l47, y47, z47⟩, st47⟩ := X46.virtualBack hx (y := (⟨"com/example/lectern/lectern/catalog/Franklin$Member", "slotsEmpty", "()Z"⟩ : MethodName)) (z := (⟨"com/example/lectern/lectern/catalog/Franklin$Member", "slotsEmpty", "()Z"⟩ : MethodName)) hown (mvT hZ (wd29 hw)) (mvT hZ (wd30 hw)) (notFace_of_selects (args := #[]) (mvT hZ (wd32 hw))) (mvT hZ (wd32 hw)) (mvT hZ (wd31 hw)) (by decide) (backOf (W := 0) (rm5 l Z a0 hw [] x6_0_46 (-1 : Int32) (-1 : Int32) h46 n0 Z0 F_x6_0_46_fromLeft F_x6_0_46_fromRight) hZ (wd33 hw) (wd2 hw) (by decide) (by decide)) q47a q47c (g := (mkF m 97 #[.val (.int p1), .val (.int p2), .val (.int p3), .val (.int p4), .val (.int p5), .val (.int p3), .val (.int (-1)), .val (.ref b31), .val (.int 0)] [(.ref x6_0_46)])) rfl (by rw [hml]; rfl) (Steps.refl _) (argsL := []) (rest := []) (lenOf pd3 rfl) rfl (by show 2 * 0 + _ ≤ _; exact Nat.le_of_eq rfl) (hb hby at_97) (fun _ _ => ⟨rfl, e46, (by decide : 2 + 0 ≤ _), (by decide : 8 + 0 ≤ _)⟩)
        dsimp only [Pt.U, Pt.locs, Pt.cells, Pt.slots] at X47 l47 y47 z47 st47 hQ47
        subst l47 y47 z47
        refine Go.tr st47 ?_
        obtain ⟨rfl, N47q, e47⟩ := hQ47
        have N47 := Fr.app N46 N47q
        show Go _ _ _ (T47.setTop (mkF m 100 #[.val (.int p1), .val (.int p2), .val (.int p3), .val (.int p4), .val (.int p5), .val (.int p3), .val (.int (-1)), .val (.ref b31), .val (.int 0)] [(.int (f5 (-1 : Int32) (-1 : Int32)))])) _
        rw [show (f5 (-1 : Int32) (-1 : Int32)) = (1 : Int32) from by unfold f5; simp only [if_pos (by decide : (-1 : Int32) = (-1 : Int32)), if_pos (by decide : (-1 : Int32) = (-1 : Int32)), if_true, if_false]]
        show Go _ _ _ (T47.setTop (mkF m 100 #[.val (.int p1), .val (.int p2), .val (.int p3), .val (.int p4), .val (.int p5), .val (.int p3), .val (.int (-1)), .val (.ref b31), .val (.int 0)] [(.int 1)])) _
        refine Go.st (fun t k => XS.ifYes X47.here hx rfl (pc0 := 100) (pc' := 105) rfl (hb hby at_100) rfl ((if0 _ _).trans (feq (by decide : ¬ ((1 : Int32) = (0 : Int32)))).2) (by decide) (by decide) k) ?_
        show Go _ _ _ (T47.setTop (mkF m 105 #[.val (.int p1), .val (.int p2), .val (.int p3), .val (.int p4), .val (.int p5), .val (.int p3), .val (.int (-1)), .val (.ref b31), .val (.int 0)] [])) _
        refine Go.st (fun t k => XS.aload X47.here hx rfl (hb hby at_105) rfl rfl k) ?_
        refine Go.st (fun t k => XS.iloadN X47.here hx rfl (hb hby at_107) rfl k) ?_
        obtain ⟨cq48, kq48, q48a, q48b, q48c⟩ := isOf hZ e47 E_b31
        obtain ⟨_, _, ⟨T48, L48, k48, n48⟩, -, X48, ⟨Lc48, hQ48, l48, y48, z48⟩, st48⟩ := X47.virtualBack hx (y := (⟨"com/example/lectern/lectern/catalog/Franklin$Member", "takenFromLeft", "(I)Lcom/example/lectern/lectern/catalog/Franklin$Member;"⟩ : MethodName)) (z := (⟨"com/example/lectern/lectern/catalog/Franklin$Member", "takenFromLeft", "(I)Lcom/example/lectern/lectern/catalog/Franklin$Member;"⟩ : MethodName)) hown (mvT hZ (wd41 hw)) (mvT hZ (wd42 hw)) (notFace_of_selects (args := #[]) (mvT hZ (wd44 hw))) (mvT hZ (wd44 hw)) (mvT hZ (wd43 hw)) (by decide) (backOf (W := 0) (rm7 l Z a0 hw [] b31 p4 (f1 p1 w_NORMAL w_INITIATOR w_PASSIVE w_LEADER) p2 (-1 : Int32) h46 n0 Z0 F_b31_phase F_b31_leader F_b31_fromRight) hZ (wd45 hw) (wd2 hw) (by decide) (by decide)) q48a q48c (g := (mkF m 108 #[.val (.int p1), .val (.int p2), .val (.int p3), .val (.int p4), .val (.int p5), .val (.int p3), .val (.int (-1)), .val (.ref b31), .val (.int 0)] [(.int p4), (.ref b31)])) rfl (by rw [hml]; rfl) (Steps.refl _) (argsL := [(.int p4)]) (rest := []) (lenOf pd5 rfl) rfl (by show 2 * 0 + _ ≤ _; exact Nat.le_of_eq rfl) (hb hby at_108) (fun _ _ => ⟨rfl, e47, (by decide : 2 + 1 ≤ _), (by decide : 8 + 4 ≤ _)⟩)
        dsimp only [Pt.U, Pt.locs, Pt.cells, Pt.slots] at X48 l48 y48 z48 st48 hQ48
        subst l48 y48 z48
        obtain ⟨h48, e48⟩ : ∃ z, T48.heap = z := ⟨_, rfl⟩
        rw [e48] at hQ48
        obtain ⟨x7_0_48, rfl, N48q, K48, ng_x7_0_48, sz0_x7_0_48, Q48_0, Q48_1, Q48_2, Q48_3, Q48_4⟩ := hQ48
        refine Go.tr st48 ?_
        have ne_w_NORMAL_x7_0_48 : w_NORMAL ≠ x7_0_48 := Nat.ne_of_lt (Nat.lt_of_lt_of_le E_w_NORMAL.lt sz0_x7_0_48)
        have ne_w_INITIATOR_x7_0_48 : w_INITIATOR ≠ x7_0_48 := Nat.ne_of_lt (Nat.lt_of_lt_of_le E_w_INITIATOR.lt sz0_x7_0_48)
        have ne_w_PASSIVE_x7_0_48 : w_PASSIVE ≠ x7_0_48 := Nat.ne_of_lt (Nat.lt_of_lt_of_le E_w_PASSIVE.lt sz0_x7_0_48)
        have ne_w_LEADER_x7_0_48 : w_LEADER ≠ x7_0_48 := Nat.ne_of_lt (Nat.lt_of_lt_of_le E_w_LEADER.lt sz0_x7_0_48)
        have ne_b31_x7_0_48 : b31 ≠ x7_0_48 := Nat.ne_of_lt (Nat.lt_of_lt_of_le E_b31.lt sz0_x7_0_48)
        have ne__f1_p1_w_NORMAL_w_INITIATOR_w_PASSIVE_w_LEADER__x7_0_48 : (f1 p1 w_NORMAL w_INITIATOR w_PASSIVE w_LEADER) ≠ x7_0_48 := Nat.ne_of_lt (Nat.lt_of_lt_of_le E32_r.lt sz0_x7_0_48)
        have ne_x6_0_46_x7_0_48 : x6_0_46 ≠ x7_0_48 := Nat.ne_of_lt (Nat.lt_of_lt_of_le E_x6_0_46.lt sz0_x7_0_48)
        have g_x7_0_48 : n0 ≤ x7_0_48 := ng_x7_0_48
        have sz_x7_0_48 : h0.size ≤ x7_0_48 := Nat.le_trans K0.1 sz0_x7_0_48
        replace S_NORMAL := sta_keep S_NORMAL K48 all0
        replace E_w_NORMAL := E_w_NORMAL.keep K48
        replace S_INITIATOR := sta_keep S_INITIATOR K48 all0
        replace E_w_INITIATOR := E_w_INITIATOR.keep K48
        replace S_PASSIVE := sta_keep S_PASSIVE K48 all0
        replace E_w_PASSIVE := E_w_PASSIVE.keep K48
        replace S_LEADER := sta_keep S_LEADER K48 all0
        replace E_w_LEADER := E_w_LEADER.keep K48
        replace E_b31 := E_b31.keep K48
        replace E32_r := E32_r.keep K48
        replace F_b31_phase := F_b31_phase.keep K48 nin0
        replace F_b31_leader := F_b31_leader.keep K48 nin0
        replace F_b31_fromLeft := F_b31_fromLeft.keep K48 nin0
        replace F_b31_fromRight := F_b31_fromRight.keep K48 nin0
        replace E_x6_0_46 := E_x6_0_46.keep K48
        replace F_x6_0_46_phase := F_x6_0_46_phase.keep K48 nin0
        replace F_x6_0_46_leader := F_x6_0_46_leader.keep K48 nin0
        replace F_x6_0_46_fromLeft := F_x6_0_46_fromLeft.keep K48 nin0
        replace F_x6_0_46_fromRight := F_x6_0_46_fromRight.keep K48 nin0
        replace Z0 := Nat.le_trans Z0 K48.1
        replace K0 := K0.trans K48 all0
        have E_x7_0_48 := Q48_0
        have F_x7_0_48_phase := Q48_1
        have F_x7_0_48_leader := Q48_2
        have F_x7_0_48_fromLeft := Q48_3
        have F_x7_0_48_fromRight := Q48_4
        have N48 := Fr.app N47 N48q
        show Go _ _ _ (T48.setTop (mkF m 111 #[.val (.int p1), .val (.int p2), .val (.int p3), .val (.int p4), .val (.int p5), .val (.int p3), .val (.int (-1)), .val (.ref b31), .val (.int 0)] [(.ref x7_0_48)])) _
        obtain ⟨cq49, kq49, q49a, q49b, q49c⟩ := isOf hZ e48 E_x7_0_48
        obtain ⟨_, _, ⟨T49, L49, k49, n49⟩, -, X49, ⟨Lc49, hQ49, l49, y49, z49⟩, st49⟩ := X48.virtualBack hx (y := (⟨"com/example/lectern/lectern/catalog/Franklin$Member", "slotsEmpty", "()Z"⟩ : MethodName)) (z := (⟨"com/example/lectern/lectern/catalog/Franklin$Member", "slotsEmpty", "()Z"⟩ : MethodName)) hown (mvT hZ (wd29 hw)) (mvT hZ (wd30 hw)) (notFace_of_selects (args := #[]) (mvT hZ (wd32 hw))) (mvT hZ (wd32 hw)) (mvT hZ (wd31 hw)) (by decide) (backOf (W := 0) (rm5 l Z a0 hw [] x7_0_48 p4 (-1 : Int32) h48 n0 Z0 F_x7_0_48_fromLeft F_x7_0_48_fromRight) hZ (wd33 hw) (wd2 hw) (by decide) (by decide)) q49a q49c (g := (mkF m 111 #[.val (.int p1), .val (.int p2), .val (.int p3), .val (.int p4), .val (.int p5), .val (.int p3), .val (.int (-1)), .val (.ref b31), .val (.int 0)] [(.ref x7_0_48)])) rfl (by rw [hml]; rfl) (Steps.refl _) (argsL := []) (rest := []) (lenOf pd3 rfl) rfl (by show 2 * 0 + _ ≤ _; exact Nat.le_of_eq rfl) (hb hby at_111) (fun _ _ => ⟨rfl, e48, (by decide : 3 + 0 ≤ _), (by decide : 12 + 0 ≤ _)⟩)
        dsimp only [Pt.U, Pt.locs, Pt.cells, Pt.slots] at X49 l49 y49 z49 st49 hQ49
        subst l49 y49 z49
        refine Go.tr st49 ?_
        obtain ⟨rfl, N49q, e49⟩ := hQ49
        have N49 := Fr.app N48 N49q
        show Go _ _ _ (T49.setTop (mkF m 114 #[.val (.int p1), .val (.int p2), .val (.int p3), .val (.int p4), .val (.int p5), .val (.int p3), .val (.int (-1)), .val (.ref b31), .val (.int 0)] [(.int (f5 p4 (-1 : Int32)))])) _
        by_cases hc50 : p4 = (-1 : Int32)
        · rw [show (f5 p4 (-1 : Int32)) = (1 : Int32) from by unfold f5; simp only [if_pos hc50, if_pos (by decide : (-1 : Int32) = (-1 : Int32)), if_true, if_false]]
          show Go _ _ _ (T49.setTop (mkF m 114 #[.val (.int p1), .val (.int p2), .val (.int p3), .val (.int p4), .val (.int p5), .val (.int p3), .val (.int (-1)), .val (.ref b31), .val (.int 0)] [(.int 1)])) _
          refine Go.st (fun t k => XS.iloadN X49.here hx rfl (hb hby at_114) rfl k) ?_
          refine Go.st (fun t k => XS.iconst X49.here hx rfl (hb hby at_115) k) ?_
          refine Go.st (fun t k => XS.icmpNo X49.here hx rfl (hb hby at_116) rfl (teq hc50).2 k) ?_
          show Go _ _ _ (T49.setTop (mkF m 119 #[.val (.int p1), .val (.int p2), .val (.int p3), .val (.int p4), .val (.int p5), .val (.int p3), .val (.int (-1)), .val (.ref b31), .val (.int 0)] [(.int 1)])) _
          refine Go.st (fun t k => XS.iload X49.here hx rfl (hb hby at_119) rfl k) ?_
          refine Go.st (fun t k => XS.iconst X49.here hx rfl (hb hby at_121) k) ?_
          refine Go.st (fun t k => XS.icmpNo X49.here hx rfl (hb hby at_122) rfl (teq (by decide : (-1 : Int32) = (-1 : Int32))).2 k) ?_
          show Go _ _ _ (T49.setTop (mkF m 125 #[.val (.int p1), .val (.int p2), .val (.int p3), .val (.int p4), .val (.int p5), .val (.int p3), .val (.int (-1)), .val (.ref b31), .val (.int 0)] [(.int 1)])) _
          refine Go.st (fun t k => XS.iconst X49.here hx rfl (hb hby at_125) k) ?_
          refine Go.st (fun t k => XS.goto X49.here hx rfl (pc0 := 126) (pc' := 130) rfl (hb hby at_126) (by decide) (by decide) k) ?_
          refine Go.st (fun t k => XS.icmpYes X49.here hx rfl (pc0 := 130) (pc' := 135) rfl (hb hby at_130) rfl (teq (by decide : (1 : Int32) = (1 : Int32))).1 (by decide) (by decide) k) ?_
          show Go _ _ _ (T49.setTop (mkF m 135 #[.val (.int p1), .val (.int p2), .val (.int p3), .val (.int p4), .val (.int p5), .val (.int p3), .val (.int (-1)), .val (.ref b31), .val (.int 0)] [])) _
          refine Go.st (fun t k => XS.aload X49.here hx rfl (hb hby at_135) rfl rfl k) ?_
          refine Go.st (fun t k => XS.iloadN X49.here hx rfl (hb hby at_137) rfl k) ?_
          obtain ⟨cq51, kq51, q51a, q51b, q51c⟩ := isOf hZ e49 E_b31
          obtain ⟨_, _, ⟨T51, L51, k51, n51⟩, -, X51, ⟨Lc51, hQ51, l51, y51, z51⟩, st51⟩ := X49.virtualBack hx (y := (⟨"com/example/lectern/lectern/catalog/Franklin$Member", "takenFromRight", "(I)Lcom/example/lectern/lectern/catalog/Franklin$Member;"⟩ : MethodName)) (z := (⟨"com/example/lectern/lectern/catalog/Franklin$Member", "takenFromRight", "(I)Lcom/example/lectern/lectern/catalog/Franklin$Member;"⟩ : MethodName)) hown (mvT hZ (wd46 hw)) (mvT hZ (wd47 hw)) (notFace_of_selects (args := #[]) (mvT hZ (wd49 hw))) (mvT hZ (wd49 hw)) (mvT hZ (wd48 hw)) (by decide) (backOf (W := 0) (rm8 l Z a0 hw [] b31 p3 (f1 p1 w_NORMAL w_INITIATOR w_PASSIVE w_LEADER) p2 p3 h48 n0 Z0 F_b31_phase F_b31_leader F_b31_fromLeft) hZ (wd50 hw) (wd2 hw) (by decide) (by decide)) q51a q51c (g := (mkF m 138 #[.val (.int p1), .val (.int p2), .val (.int p3), .val (.int p4), .val (.int p5), .val (.int p3), .val (.int (-1)), .val (.ref b31), .val (.int 0)] [(.int p3), (.ref b31)])) rfl (by rw [hml]; rfl) (Steps.refl _) (argsL := [(.int p3)]) (rest := []) (lenOf pd5 rfl) rfl (by show 2 * 0 + _ ≤ _; exact Nat.le_of_eq rfl) (hb hby at_138) (fun _ _ => ⟨rfl, e49, (by decide : 3 + 1 ≤ _), (by decide : 12 + 4 ≤ _)⟩)
          dsimp only [Pt.U, Pt.locs, Pt.cells, Pt.slots] at X51 l51 y51 z51 st51 hQ51
          subst l51 y51 z51
          obtain ⟨h51, e51⟩ : ∃ z, T51.heap = z := ⟨_, rfl⟩
          rw [e51] at hQ51
          obtain ⟨x8_0_51, rfl, N51q, K51, ng_x8_0_51, sz0_x8_0_51, Q51_0, Q51_1, Q51_2, Q51_3, Q51_4⟩ := hQ51
          refine Go.tr st51 ?_
          have ne_w_NORMAL_x8_0_51 : w_NORMAL ≠ x8_0_51 := Nat.ne_of_lt (Nat.lt_of_lt_of_le E_w_NORMAL.lt sz0_x8_0_51)
          have ne_w_INITIATOR_x8_0_51 : w_INITIATOR ≠ x8_0_51 := Nat.ne_of_lt (Nat.lt_of_lt_of_le E_w_INITIATOR.lt sz0_x8_0_51)
          have ne_w_PASSIVE_x8_0_51 : w_PASSIVE ≠ x8_0_51 := Nat.ne_of_lt (Nat.lt_of_lt_of_le E_w_PASSIVE.lt sz0_x8_0_51)
          have ne_w_LEADER_x8_0_51 : w_LEADER ≠ x8_0_51 := Nat.ne_of_lt (Nat.lt_of_lt_of_le E_w_LEADER.lt sz0_x8_0_51)
          have ne_b31_x8_0_51 : b31 ≠ x8_0_51 := Nat.ne_of_lt (Nat.lt_of_lt_of_le E_b31.lt sz0_x8_0_51)
          have ne__f1_p1_w_NORMAL_w_INITIATOR_w_PASSIVE_w_LEADER__x8_0_51 : (f1 p1 w_NORMAL w_INITIATOR w_PASSIVE w_LEADER) ≠ x8_0_51 := Nat.ne_of_lt (Nat.lt_of_lt_of_le E32_r.lt sz0_x8_0_51)
          have ne_x6_0_46_x8_0_51 : x6_0_46 ≠ x8_0_51 := Nat.ne_of_lt (Nat.lt_of_lt_of_le E_x6_0_46.lt sz0_x8_0_51)
          have ne_x7_0_48_x8_0_51 : x7_0_48 ≠ x8_0_51 := Nat.ne_of_lt (Nat.lt_of_lt_of_le E_x7_0_48.lt sz0_x8_0_51)
          have g_x8_0_51 : n0 ≤ x8_0_51 := ng_x8_0_51
          have sz_x8_0_51 : h0.size ≤ x8_0_51 := Nat.le_trans K0.1 sz0_x8_0_51
          replace S_NORMAL := sta_keep S_NORMAL K51 all0
          replace E_w_NORMAL := E_w_NORMAL.keep K51
          replace S_INITIATOR := sta_keep S_INITIATOR K51 all0
          replace E_w_INITIATOR := E_w_INITIATOR.keep K51
          replace S_PASSIVE := sta_keep S_PASSIVE K51 all0
          replace E_w_PASSIVE := E_w_PASSIVE.keep K51
          replace S_LEADER := sta_keep S_LEADER K51 all0
          replace E_w_LEADER := E_w_LEADER.keep K51
          replace E_b31 := E_b31.keep K51
          replace E32_r := E32_r.keep K51
          replace F_b31_phase := F_b31_phase.keep K51 nin0
          replace F_b31_leader := F_b31_leader.keep K51 nin0
          replace F_b31_fromLeft := F_b31_fromLeft.keep K51 nin0
          replace F_b31_fromRight := F_b31_fromRight.keep K51 nin0
          replace E_x6_0_46 := E_x6_0_46.keep K51
          replace F_x6_0_46_phase := F_x6_0_46_phase.keep K51 nin0
          replace F_x6_0_46_leader := F_x6_0_46_leader.keep K51 nin0
          replace F_x6_0_46_fromLeft := F_x6_0_46_fromLeft.keep K51 nin0
          replace F_x6_0_46_fromRight := F_x6_0_46_fromRight.keep K51 nin0
          replace E_x7_0_48 := E_x7_0_48.keep K51
          replace F_x7_0_48_phase := F_x7_0_48_phase.keep K51 nin0
          replace F_x7_0_48_leader := F_x7_0_48_leader.keep K51 nin0
          replace F_x7_0_48_fromLeft := F_x7_0_48_fromLeft.keep K51 nin0
          replace F_x7_0_48_fromRight := F_x7_0_48_fromRight.keep K51 nin0
          replace Z0 := Nat.le_trans Z0 K51.1
          replace K0 := K0.trans K51 all0
          have E_x8_0_51 := Q51_0
          have F_x8_0_51_phase := Q51_1
          have F_x8_0_51_leader := Q51_2
          have F_x8_0_51_fromLeft := Q51_3
          have F_x8_0_51_fromRight := Q51_4
          have N51 := Fr.app N49 N51q
          show Go _ _ _ (T51.setTop (mkF m 141 #[.val (.int p1), .val (.int p2), .val (.int p3), .val (.int p4), .val (.int p5), .val (.int p3), .val (.int (-1)), .val (.ref b31), .val (.int 0)] [(.ref x8_0_51)])) _
          obtain ⟨cq52, kq52, q52a, q52b, q52c⟩ := isOf hZ e51 E_x8_0_51
          obtain ⟨_, _, ⟨T52, L52, k52, n52⟩, -, X52, ⟨Lc52, hQ52, l52, y52, z52⟩, st52⟩ := X51.virtualBack hx (y := (⟨"com/example/lectern/lectern/catalog/Franklin$Member", "slotsEmpty", "()Z"⟩ : MethodName)) (z := (⟨"com/example/lectern/lectern/catalog/Franklin$Member", "slotsEmpty", "()Z"⟩ : MethodName)) hown (mvT hZ (wd29 hw)) (mvT hZ (wd30 hw)) (notFace_of_selects (args := #[]) (mvT hZ (wd32 hw))) (mvT hZ (wd32 hw)) (mvT hZ (wd31 hw)) (by decide) (backOf (W := 0) (rm5 l Z a0 hw [] x8_0_51 p3 p3 h51 n0 Z0 F_x8_0_51_fromLeft F_x8_0_51_fromRight) hZ (wd33 hw) (wd2 hw) (by decide) (by decide)) q52a q52c (g := (mkF m 141 #[.val (.int p1), .val (.int p2), .val (.int p3), .val (.int p4), .val (.int p5), .val (.int p3), .val (.int (-1)), .val (.ref b31), .val (.int 0)] [(.ref x8_0_51)])) rfl (by rw [hml]; rfl) (Steps.refl _) (argsL := []) (rest := []) (lenOf pd3 rfl) rfl (by show 2 * 0 + _ ≤ _; exact Nat.le_of_eq rfl) (hb hby at_141) (fun _ _ => ⟨rfl, e51, (by decide : 4 + 0 ≤ _), (by decide : 16 + 0 ≤ _)⟩)
          dsimp only [Pt.U, Pt.locs, Pt.cells, Pt.slots] at X52 l52 y52 z52 st52 hQ52
          subst l52 y52 z52
          refine Go.tr st52 ?_
          obtain ⟨rfl, N52q, e52⟩ := hQ52
          have N52 := Fr.app N51 N52q
          show Go _ _ _ (T52.setTop (mkF m 144 #[.val (.int p1), .val (.int p2), .val (.int p3), .val (.int p4), .val (.int p5), .val (.int p3), .val (.int (-1)), .val (.ref b31), .val (.int 0)] [(.int (f5 p3 p3))])) _
          rw [show (f5 p3 p3) = (0 : Int32) from by unfold f5; simp only [if_neg hc35, if_true, if_false]]
          show Go _ _ _ (T52.setTop (mkF m 144 #[.val (.int p1), .val (.int p2), .val (.int p3), .val (.int p4), .val (.int p5), .val (.int p3), .val (.int (-1)), .val (.ref b31), .val (.int 0)] [(.int 0)])) _
          refine Go.st (fun t k => XS.iload X52.here hx rfl (hb hby at_144) rfl k) ?_
          refine Go.st (fun t k => XS.iconst X52.here hx rfl (hb hby at_146) k) ?_
          refine Go.st (fun t k => XS.icmpYes X52.here hx rfl (pc0 := 147) (pc' := 159) rfl (hb hby at_147) rfl (feq hc35).2 (by decide) (by decide) k) ?_
          show Go _ _ _ (T52.setTop (mkF m 159 #[.val (.int p1), .val (.int p2), .val (.int p3), .val (.int p4), .val (.int p5), .val (.int p3), .val (.int (-1)), .val (.ref b31), .val (.int 0)] [(.int 0)])) _
          refine Go.st (fun t k => XS.iconst X52.here hx rfl (hb hby at_159) k) ?_
          refine Go.st (fun t k => XS.icmpYes X52.here hx rfl (pc0 := 160) (pc' := 165) rfl (hb hby at_160) rfl (teq (by decide : (0 : Int32) = (0 : Int32))).1 (by decide) (by decide) k) ?_
          show Go _ _ _ (T52.setTop (mkF m 165 #[.val (.int p1), .val (.int p2), .val (.int p3), .val (.int p4), .val (.int p5), .val (.int p3), .val (.int (-1)), .val (.ref b31), .val (.int 0)] [])) _
          refine Go.st (fun t k => XS.iconst X52.here hx rfl (hb hby at_165) k) ?_
          obtain ⟨fs, hr, hrun, hended, hW, hsame⟩ := X52.leave (v := some (.int (1 : Int32))) (fun h => by rw [Bd.returns] at h; cases h)
          refine Go.fin (retN X52 hx (t := .boolean) Bd.returns (by simp) (hb hby at_166) hr) hrun hended ⟨_, _, rfl, ?_, ⟨_, rfl⟩, hW, hsame.mono (by decide) (by decide)⟩
          show Q0 Z p1 p2 p3 p4 p5 w_NORMAL w_INITIATOR w_PASSIVE w_LEADER h0 n0 _ T52.heap _
          rw [e52]
          exact ⟨rfl, N52⟩
        · rw [show (f5 p4 (-1 : Int32)) = (0 : Int32) from by unfold f5; simp only [if_neg hc50, if_true, if_false]]
          show Go _ _ _ (T49.setTop (mkF m 114 #[.val (.int p1), .val (.int p2), .val (.int p3), .val (.int p4), .val (.int p5), .val (.int p3), .val (.int (-1)), .val (.ref b31), .val (.int 0)] [(.int 0)])) _
          refine Go.st (fun t k => XS.iloadN X49.here hx rfl (hb hby at_114) rfl k) ?_
          refine Go.st (fun t k => XS.iconst X49.here hx rfl (hb hby at_115) k) ?_
          refine Go.st (fun t k => XS.icmpYes X49.here hx rfl (pc0 := 116) (pc' := 129) rfl (hb hby at_116) rfl (feq hc50).2 (by decide) (by decide) k) ?_
          show Go _ _ _ (T49.setTop (mkF m 129 #[.val (.int p1), .val (.int p2), .val (.int p3), .val (.int p4), .val (.int p5), .val (.int p3), .val (.int (-1)), .val (.ref b31), .val (.int 0)] [(.int 0)])) _
          refine Go.st (fun t k => XS.iconst X49.here hx rfl (hb hby at_129) k) ?_
          refine Go.st (fun t k => XS.icmpYes X49.here hx rfl (pc0 := 130) (pc' := 135) rfl (hb hby at_130) rfl (teq (by decide : (0 : Int32) = (0 : Int32))).1 (by decide) (by decide) k) ?_
          show Go _ _ _ (T49.setTop (mkF m 135 #[.val (.int p1), .val (.int p2), .val (.int p3), .val (.int p4), .val (.int p5), .val (.int p3), .val (.int (-1)), .val (.ref b31), .val (.int 0)] [])) _
          refine Go.st (fun t k => XS.aload X49.here hx rfl (hb hby at_135) rfl rfl k) ?_
          refine Go.st (fun t k => XS.iloadN X49.here hx rfl (hb hby at_137) rfl k) ?_
          obtain ⟨cq53, kq53, q53a, q53b, q53c⟩ := isOf hZ e49 E_b31
          obtain ⟨_, _, ⟨T53, L53, k53, n53⟩, -, X53, ⟨Lc53, hQ53, l53, y53, z53⟩, st53⟩ := X49.virtualBack hx (y := (⟨"com/example/lectern/lectern/catalog/Franklin$Member", "takenFromRight", "(I)Lcom/example/lectern/lectern/catalog/Franklin$Member;"⟩ : MethodName)) (z := (⟨"com/example/lectern/lectern/catalog/Franklin$Member", "takenFromRight", "(I)Lcom/example/lectern/lectern/catalog/Franklin$Member;"⟩ : MethodName)) hown (mvT hZ (wd46 hw)) (mvT hZ (wd47 hw)) (notFace_of_selects (args := #[]) (mvT hZ (wd49 hw))) (mvT hZ (wd49 hw)) (mvT hZ (wd48 hw)) (by decide) (backOf (W := 0) (rm8 l Z a0 hw [] b31 p3 (f1 p1 w_NORMAL w_INITIATOR w_PASSIVE w_LEADER) p2 p3 h48 n0 Z0 F_b31_phase F_b31_leader F_b31_fromLeft) hZ (wd50 hw) (wd2 hw) (by decide) (by decide)) q53a q53c (g := (mkF m 138 #[.val (.int p1), .val (.int p2), .val (.int p3), .val (.int p4), .val (.int p5), .val (.int p3), .val (.int (-1)), .val (.ref b31), .val (.int 0)] [(.int p3), (.ref b31)])) rfl (by rw [hml]; rfl) (Steps.refl _) (argsL := [(.int p3)]) (rest := []) (lenOf pd5 rfl) rfl (by show 2 * 0 + _ ≤ _; exact Nat.le_of_eq rfl) (hb hby at_138) (fun _ _ => ⟨rfl, e49, (by decide : 3 + 1 ≤ _), (by decide : 12 + 4 ≤ _)⟩)
          dsimp only [Pt.U, Pt.locs, Pt.cells, Pt.slots] at X53 l53 y53 z53 st53 hQ53
          subst l53 y53 z53
          obtain ⟨h53, e53⟩ : ∃ z, T53.heap = z := ⟨_, rfl⟩
          rw [e53] at hQ53
          obtain ⟨x8_0_53, rfl, N53q, K53, ng_x8_0_53, sz0_x8_0_53, Q53_0, Q53_1, Q53_2, Q53_3, Q53_4⟩ := hQ53
          refine Go.tr st53 ?_
          have ne_w_NORMAL_x8_0_53 : w_NORMAL ≠ x8_0_53 := Nat.ne_of_lt (Nat.lt_of_lt_of_le E_w_NORMAL.lt sz0_x8_0_53)
          have ne_w_INITIATOR_x8_0_53 : w_INITIATOR ≠ x8_0_53 := Nat.ne_of_lt (Nat.lt_of_lt_of_le E_w_INITIATOR.lt sz0_x8_0_53)
          have ne_w_PASSIVE_x8_0_53 : w_PASSIVE ≠ x8_0_53 := Nat.ne_of_lt (Nat.lt_of_lt_of_le E_w_PASSIVE.lt sz0_x8_0_53)
          have ne_w_LEADER_x8_0_53 : w_LEADER ≠ x8_0_53 := Nat.ne_of_lt (Nat.lt_of_lt_of_le E_w_LEADER.lt sz0_x8_0_53)
          have ne_b31_x8_0_53 : b31 ≠ x8_0_53 := Nat.ne_of_lt (Nat.lt_of_lt_of_le E_b31.lt sz0_x8_0_53)
          have ne__f1_p1_w_NORMAL_w_INITIATOR_w_PASSIVE_w_LEADER__x8_0_53 : (f1 p1 w_NORMAL w_INITIATOR w_PASSIVE w_LEADER) ≠ x8_0_53 := Nat.ne_of_lt (Nat.lt_of_lt_of_le E32_r.lt sz0_x8_0_53)
          have ne_x6_0_46_x8_0_53 : x6_0_46 ≠ x8_0_53 := Nat.ne_of_lt (Nat.lt_of_lt_of_le E_x6_0_46.lt sz0_x8_0_53)
          have ne_x7_0_48_x8_0_53 : x7_0_48 ≠ x8_0_53 := Nat.ne_of_lt (Nat.lt_of_lt_of_le E_x7_0_48.lt sz0_x8_0_53)
          have g_x8_0_53 : n0 ≤ x8_0_53 := ng_x8_0_53
          have sz_x8_0_53 : h0.size ≤ x8_0_53 := Nat.le_trans K0.1 sz0_x8_0_53
          replace S_NORMAL := sta_keep S_NORMAL K53 all0
          replace E_w_NORMAL := E_w_NORMAL.keep K53
          replace S_INITIATOR := sta_keep S_INITIATOR K53 all0
          replace E_w_INITIATOR := E_w_INITIATOR.keep K53
          replace S_PASSIVE := sta_keep S_PASSIVE K53 all0
          replace E_w_PASSIVE := E_w_PASSIVE.keep K53
          replace S_LEADER := sta_keep S_LEADER K53 all0
          replace E_w_LEADER := E_w_LEADER.keep K53
          replace E_b31 := E_b31.keep K53
          replace E32_r := E32_r.keep K53
          replace F_b31_phase := F_b31_phase.keep K53 nin0
          replace F_b31_leader := F_b31_leader.keep K53 nin0
          replace F_b31_fromLeft := F_b31_fromLeft.keep K53 nin0
          replace F_b31_fromRight := F_b31_fromRight.keep K53 nin0
          replace E_x6_0_46 := E_x6_0_46.keep K53
          replace F_x6_0_46_phase := F_x6_0_46_phase.keep K53 nin0
          replace F_x6_0_46_leader := F_x6_0_46_leader.keep K53 nin0
          replace F_x6_0_46_fromLeft := F_x6_0_46_fromLeft.keep K53 nin0
          replace F_x6_0_46_fromRight := F_x6_0_46_fromRight.keep K53 nin0
          replace E_x7_0_48 := E_x7_0_48.keep K53
          replace F_x7_0_48_phase := F_x7_0_48_phase.keep K53 nin0
          replace F_x7_0_48_leader := F_x7_0_48_leader.keep K53 nin0
          replace F_x7_0_48_fromLeft := F_x7_0_48_fromLeft.keep K53 nin0
          replace F_x7_0_48_fromRight := F_x7_0_48_fromRight.keep K53 nin0
          replace Z0 := Nat.le_trans Z0 K53.1
          replace K0 := K0.trans K53 all0
          have E_x8_0_53 := Q53_0
          have F_x8_0_53_phase := Q53_1
          have F_x8_0_53_leader := Q53_2
          have F_x8_0_53_fromLeft := Q53_3
          have F_x8_0_53_fromRight := Q53_4
          have N53 := Fr.app N49 N53q
          show Go _ _ _ (T53.setTop (mkF m 141 #[.val (.int p1), .val (.int p2), .val (.int p3), .val (.int p4), .val (.int p5), .val (.int p3), .val (.int (-1)), .val (.ref b31), .val (.int 0)] [(.ref x8_0_53)])) _
          obtain ⟨cq54, kq54, q54a, q54b, q54c⟩ := isOf hZ e53 E_x8_0_53
          obtain ⟨_, _, ⟨T54, L54, k54, n54⟩, -, X54, ⟨Lc54, hQ54, l54, y54, z54⟩, st54⟩ := X53.virtualBack hx (y := (⟨"com/example/lectern/lectern/catalog/Franklin$Member", "slotsEmpty", "()Z"⟩ : MethodName)) (z := (⟨"com/example/lectern/lectern/catalog/Franklin$Member", "slotsEmpty", "()Z"⟩ : MethodName)) hown (mvT hZ (wd29 hw)) (mvT hZ (wd30 hw)) (notFace_of_selects (args := #[]) (mvT hZ (wd32 hw))) (mvT hZ (wd32 hw)) (mvT hZ (wd31 hw)) (by decide) (backOf (W := 0) (rm5 l Z a0 hw [] x8_0_53 p3 p3 h53 n0 Z0 F_x8_0_53_fromLeft F_x8_0_53_fromRight) hZ (wd33 hw) (wd2 hw) (by decide) (by decide)) q54a q54c (g := (mkF m 141 #[.val (.int p1), .val (.int p2), .val (.int p3), .val (.int p4), .val (.int p5), .val (.int p3), .val (.int (-1)), .val (.ref b31), .val (.int 0)] [(.ref x8_0_53)])) rfl (by rw [hml]; rfl) (Steps.refl _) (argsL := []) (rest := []) (lenOf pd3 rfl) rfl (by show 2 * 0 + _ ≤ _; exact Nat.le_of_eq rfl) (hb hby at_141) (fun _ _ => ⟨rfl, e53, (by decide : 4 + 0 ≤ _), (by decide : 16 + 0 ≤ _)⟩)
          dsimp only [Pt.U, Pt.locs, Pt.cells, Pt.slots] at X54 l54 y54 z54 st54 hQ54
          subst l54 y54 z54
          refine Go.tr st54 ?_
          obtain ⟨rfl, N54q, e54⟩ := hQ54
          have N54 := Fr.app N53 N54q
          show Go _ _ _ (T54.setTop (mkF m 144 #[.val (.int p1), .val (.int p2), .val (.int p3), .val (.int p4), .val (.int p5), .val (.int p3), .val (.int (-1)), .val (.ref b31), .val (.int 0)] [(.int (f5 p3 p3))])) _
          rw [show (f5 p3 p3) = (0 : Int32) from by unfold f5; simp only [if_neg hc35, if_true, if_false]]
          show Go _ _ _ (T54.setTop (mkF m 144 #[.val (.int p1), .val (.int p2), .val (.int p3), .val (.int p4), .val (.int p5), .val (.int p3), .val (.int (-1)), .val (.ref b31), .val (.int 0)] [(.int 0)])) _
          refine Go.st (fun t k => XS.iload X54.here hx rfl (hb hby at_144) rfl k) ?_
          refine Go.st (fun t k => XS.iconst X54.here hx rfl (hb hby at_146) k) ?_
          refine Go.st (fun t k => XS.icmpYes X54.here hx rfl (pc0 := 147) (pc' := 159) rfl (hb hby at_147) rfl (feq hc35).2 (by decide) (by decide) k) ?_
          show Go _ _ _ (T54.setTop (mkF m 159 #[.val (.int p1), .val (.int p2), .val (.int p3), .val (.int p4), .val (.int p5), .val (.int p3), .val (.int (-1)), .val (.ref b31), .val (.int 0)] [(.int 0)])) _
          refine Go.st (fun t k => XS.iconst X54.here hx rfl (hb hby at_159) k) ?_
          refine Go.st (fun t k => XS.icmpYes X54.here hx rfl (pc0 := 160) (pc' := 165) rfl (hb hby at_160) rfl (teq (by decide : (0 : Int32) = (0 : Int32))).1 (by decide) (by decide) k) ?_
          show Go _ _ _ (T54.setTop (mkF m 165 #[.val (.int p1), .val (.int p2), .val (.int p3), .val (.int p4), .val (.int p5), .val (.int p3), .val (.int (-1)), .val (.ref b31), .val (.int 0)] [])) _
          refine Go.st (fun t k => XS.iconst X54.here hx rfl (hb hby at_165) k) ?_
          obtain ⟨fs, hr, hrun, hended, hW, hsame⟩ := X54.leave (v := some (.int (1 : Int32))) (fun h => by rw [Bd.returns] at h; cases h)
          refine Go.fin (retN X54 hx (t := .boolean) Bd.returns (by simp) (hb hby at_166) hr) hrun hended ⟨_, _, rfl, ?_, ⟨_, rfl⟩, hW, hsame.mono (by decide) (by decide)⟩
          show Q0 Z p1 p2 p3 p4 p5 w_NORMAL w_INITIATOR w_PASSIVE w_LEADER h0 n0 _ T54.heap _
          rw [e54]
          exact ⟨rfl, N54⟩
  · refine Go.st (fun t k => XS.ifNo X0.here hx rfl (hb hby at_4) rfl ((if0 _ _).trans (feq hc1).1) k) ?_
    show Go _ _ _ (s₁.setTop (mkF m 7 #[.val (.int p1), .val (.int p2), .val (.int p3), .val (.int p4), .val (.int p5), .unset, .unset, .unset, .unset] [])) _
    refine Go.st (fun t k => XS.iconst X0.here hx rfl (hb hby at_7) k) ?_
    refine Go.st (fun t k => XS.goto X0.here hx rfl (pc0 := 8) (pc' := 12) rfl (hb hby at_8) (by decide) (by decide) k) ?_
    refine Go.st (fun t k => XS.istore X0.here hx rfl (hb hby at_12) rfl (l' := #[.val (.int p1), .val (.int p2), .val (.int p3), .val (.int p4), .val (.int p5), .val (.int (-1)), .unset, .unset, .unset]) rfl k) ?_
    refine Go.st (fun t k => XS.iload X0.here hx rfl (hb hby at_14) rfl k) ?_
    refine Go.st (fun t k => XS.iconst X0.here hx rfl (hb hby at_16) k) ?_
    refine Go.st (fun t k => XS.iand X0.here hx rfl (hb hby at_17) rfl k) ?_
    show Go _ _ _ (s₁.setTop (mkF m 18 #[.val (.int p1), .val (.int p2), .val (.int p3), .val (.int p4), .val (.int p5), .val (.int (-1)), .unset, .unset, .unset] [(.int (p5 &&& (2 : Int32)))])) _
    by_cases hc55 : (p5 &&& (2 : Int32)) = (0 : Int32)
    · refine Go.st (fun t k => XS.ifYes X0.here hx rfl (pc0 := 18) (pc' := 25) rfl (hb hby at_18) rfl ((if0 _ _).trans (teq hc55).1) (by decide) (by decide) k) ?_
      show Go _ _ _ (s₁.setTop (mkF m 25 #[.val (.int p1), .val (.int p2), .val (.int p3), .val (.int p4), .val (.int p5), .val (.int (-1)), .unset, .unset, .unset] [])) _
      refine Go.st (fun t k => XS.iloadN X0.here hx rfl (hb hby at_25) rfl k) ?_
      refine Go.st (fun t k => XS.istore X0.here hx rfl (hb hby at_26) rfl (l' := #[.val (.int p1), .val (.int p2), .val (.int p3), .val (.int p4), .val (.int p5), .val (.int (-1)), .val (.int p4), .unset, .unset]) rfl k) ?_
      obtain ⟨T56, h56, X56, e56, E56, A56, D56, -, st56⟩ := newO X0 hx hZ hown (wd0 hw) (wd1 hw) (wd2 hw) e0 (g := (mkF m 28 #[.val (.int p1), .val (.int p2), .val (.int p3), .val (.int p4), .val (.int p5), .val (.int (-1)), .val (.int p4), .unset, .unset] [])) rfl (hb hby at_28) (by decide) (by decide)
      obtain ⟨b56, g56⟩ : ∃ z, z = h0.size := ⟨_, rfl⟩
      rw [← g56] at A56 D56 st56
      refine Go.st st56 ?_
      have ne_w_NORMAL_b56 : w_NORMAL ≠ b56 := Nat.ne_of_lt (Nat.lt_of_lt_of_le E_w_NORMAL.lt (Nat.le_of_eq g56.symm))
      have ne_w_INITIATOR_b56 : w_INITIATOR ≠ b56 := Nat.ne_of_lt (Nat.lt_of_lt_of_le E_w_INITIATOR.lt (Nat.le_of_eq g56.symm))
      have ne_w_PASSIVE_b56 : w_PASSIVE ≠ b56 := Nat.ne_of_lt (Nat.lt_of_lt_of_le E_w_PASSIVE.lt (Nat.le_of_eq g56.symm))
      have ne_w_LEADER_b56 : w_LEADER ≠ b56 := Nat.ne_of_lt (Nat.lt_of_lt_of_le E_w_LEADER.lt (Nat.le_of_eq g56.symm))
      have g_b56 : n0 ≤ b56 := Nat.le_trans Z0 (Nat.le_of_eq g56.symm)
      have sz_b56 : h0.size ≤ b56 := Nat.le_trans K0.1 (Nat.le_of_eq g56.symm)
      replace S_NORMAL := S_NORMAL.ext E56
      replace E_w_NORMAL := E_w_NORMAL.ext E56
      replace S_INITIATOR := S_INITIATOR.ext E56
      replace E_w_INITIATOR := E_w_INITIATOR.ext E56
      replace S_PASSIVE := S_PASSIVE.ext E56
      replace E_w_PASSIVE := E_w_PASSIVE.ext E56
      replace S_LEADER := S_LEADER.ext E56
      replace E_w_LEADER := E_w_LEADER.ext E56
      replace K0 := K0.ext E56
      replace Z0 := Nat.le_trans Z0 E56.1
      have E_b56 := A56
      have F_b56_phase : Fld Z h56 b56 "com/example/lectern/lectern/catalog/Franklin$Member" "phase" "Lcom/example/lectern/lectern/catalog/Franklin$Phase;" .null := D56 (Or.inr (wd22 hw)) (ty := (.object "com/example/lectern/lectern/catalog/Franklin$Phase")) (by decide)
      have F_b56_leader : Fld Z h56 b56 "com/example/lectern/lectern/catalog/Franklin$Member" "leader" "I" (.int (0 : Int32)) := D56 (Or.inr (wd24 hw)) (ty := .int) (by decide)
      have F_b56_fromLeft : Fld Z h56 b56 "com/example/lectern/lectern/catalog/Franklin$Member" "fromLeft" "I" (.int (0 : Int32)) := D56 (Or.inr (wd26 hw)) (ty := .int) (by decide)
      have F_b56_fromRight : Fld Z h56 b56 "com/example/lectern/lectern/catalog/Franklin$Member" "fromRight" "I" (.int (0 : Int32)) := D56 (Or.inr (wd28 hw)) (ty := .int) (by decide)
      show Go _ _ _ (T56.setTop (mkF m 31 #[.val (.int p1), .val (.int p2), .val (.int p3), .val (.int p4), .val (.int p5), .val (.int (-1)), .val (.int p4), .unset, .unset] [(.ref b56)])) _
      refine Go.st (fun t k => XS.dup X56.here hx rfl (hb hby at_31) rfl rfl k) ?_
      refine Go.st (fun t k => XS.iloadN X56.here hx rfl (hb hby at_32) rfl k) ?_
      obtain ⟨_, _, ⟨T57, L57, k57, n57⟩, -, X57, ⟨Lc57, hQ57, l57, y57, z57⟩, st57⟩ := Jvm.LawKit.callS X56 hx (y := (⟨"com/example/lectern/lectern/catalog/MemberSlotsEmptyPinLaw", "phase", "(I)Lcom/example/lectern/lectern/catalog/Franklin$Phase;"⟩ : MethodName)) hown (mvT hZ (wd3 hw)) (mvT hZ (wd4 hw)) (mvT hZ (wd5 hw)) (mvT hZ (wd6 hw)) (by decide) (backOf (W := 2) (rm1 l Z a0 hw [] p1 w_NORMAL w_INITIATOR w_PASSIVE w_LEADER h56 n0 Z0 S_NORMAL E_w_NORMAL S_INITIATOR E_w_INITIATOR S_PASSIVE E_w_PASSIVE S_LEADER E_w_LEADER) hZ (wd6 hw) (wd5 hw) (by decide) (by decide)) (g := (mkF m 33 #[.val (.int p1), .val (.int p2), .val (.int p3), .val (.int p4), .val (.int p5), .val (.int (-1)), .val (.int p4), .unset, .unset] [(.int p1), (.ref b56), (.ref b56)])) rfl (by rw [hml]; rfl) (argsL := [(.int p1)]) (rest := [(.ref b56), (.ref b56)]) (lenOf pd2 rfl) rfl (by show 2 * 0 + _ ≤ _; exact Nat.le_of_eq rfl) (hb hby at_33) (fun _ _ => ⟨rfl, e56, (by decide : 1 + 0 ≤ _), (by decide : 4 + 0 ≤ _)⟩)
      dsimp only [Pt.U, Pt.locs, Pt.cells, Pt.slots] at X57 l57 y57 z57 st57 hQ57
      subst l57 y57 z57
      refine Go.st st57 ?_
      obtain ⟨rfl, N57q, e57, E57_r⟩ := hQ57
      have N57 := Fr.app N0 N57q
      rw [e57] at E57_r
      show Go _ _ _ (T57.setTop (mkF m 36 #[.val (.int p1), .val (.int p2), .val (.int p3), .val (.int p4), .val (.int p5), .val (.int (-1)), .val (.int p4), .unset, .unset] [(.ref (f1 p1 w_NORMAL w_INITIATOR w_PASSIVE w_LEADER)), (.ref b56), (.ref b56)])) _
      refine Go.st (fun t k => XS.iloadN X57.here hx rfl (hb hby at_36) rfl k) ?_
      refine Go.st (fun t k => XS.iload X57.here hx rfl (hb hby at_37) rfl k) ?_
      refine Go.st (fun t k => XS.iload X57.here hx rfl (hb hby at_39) rfl k) ?_
      obtain ⟨_, _, ⟨T58, L58, k58, n58⟩, -, X58, ⟨Lc58, hQ58, l58, y58, z58⟩, st58⟩ := X57.specialBack hx (y := (⟨"com/example/lectern/lectern/catalog/Franklin$Member", "<init>", "(Lcom/example/lectern/lectern/catalog/Franklin$Phase;III)V"⟩ : MethodName)) rfl hown (mvT hZ (wd10 hw)) (mvT hZ (wd11 hw)) (mvT hZ (wd12 hw)) (by decide) (backOf (W := 1) (rm2 l Z a0 hw [] b56 (f1 p1 w_NORMAL w_INITIATOR w_PASSIVE w_LEADER) p2 (-1 : Int32) p4 (.null : Value) ((.int (0 : Int32)) : Value) ((.int (0 : Int32)) : Value) ((.int (0 : Int32)) : Value) h56 n0 Z0 E_b56 F_b56_phase F_b56_leader F_b56_fromLeft F_b56_fromRight g_b56) hZ (wd12 hw) (wd2 hw) (by decide) (by decide)) (g := (mkF m 41 #[.val (.int p1), .val (.int p2), .val (.int p3), .val (.int p4), .val (.int p5), .val (.int (-1)), .val (.int p4), .unset, .unset] [(.int p4), (.int (-1)), (.int p2), (.ref (f1 p1 w_NORMAL w_INITIATOR w_PASSIVE w_LEADER)), (.ref b56), (.ref b56)])) rfl (by rw [hml]; rfl) (Steps.refl _) (a := b56) (argsL := [(.ref (f1 p1 w_NORMAL w_INITIATOR w_PASSIVE w_LEADER)), (.int p2), (.int (-1 : Int32)), (.int p4)]) (rest := [(.ref b56)]) (lenOf pd1 rfl) rfl (by show 2 * 0 + _ ≤ _; exact Nat.le_of_eq rfl) (hb hby at_41) (fun _ _ => ⟨rfl, e57, (by decide : 1 + 0 ≤ _), (by decide : 4 + 0 ≤ _)⟩)
      dsimp only [Pt.U, Pt.locs, Pt.cells, Pt.slots] at X58 l58 y58 z58 st58 hQ58
      subst l58 y58 z58
      refine Go.tr st58 ?_
      have E_b56_pre := E_b56
      have F_b56_phase_pre := F_b56_phase
      have F_b56_leader_pre := F_b56_leader
      have F_b56_fromLeft_pre := F_b56_fromLeft
      have F_b56_fromRight_pre := F_b56_fromRight
      obtain ⟨h58, e58⟩ : ∃ z, T58.heap = z := ⟨_, rfl⟩
      rw [e58] at hQ58
      obtain ⟨rfl, N58q, K58, Q58_0, Q58_1, Q58_2, Q58_3, Q58_4⟩ := hQ58
      replace S_NORMAL := sta_keep S_NORMAL K58 (allS (exa_ns E_b56_pre) all0)
      replace E_w_NORMAL := E_w_NORMAL.keep K58
      replace S_INITIATOR := sta_keep S_INITIATOR K58 (allS (exa_ns E_b56_pre) all0)
      replace E_w_INITIATOR := E_w_INITIATOR.keep K58
      replace S_PASSIVE := sta_keep S_PASSIVE K58 (allS (exa_ns E_b56_pre) all0)
      replace E_w_PASSIVE := E_w_PASSIVE.keep K58
      replace S_LEADER := sta_keep S_LEADER K58 (allS (exa_ns E_b56_pre) all0)
      replace E_w_LEADER := E_w_LEADER.keep K58
      replace E_b56 := E_b56.keep K58
      replace E57_r := E57_r.keep K58
      replace Z0 := Nat.le_trans Z0 K58.1
      replace K0 := K0.trans K58 (allS (Or.inr sz_b56) all0)
      have E_b56 := Q58_0
      have F_b56_phase := Q58_1
      have F_b56_leader := Q58_2
      have F_b56_fromLeft := Q58_3
      have F_b56_fromRight := Q58_4
      have N58 := Fr.app N57 N58q
      show Go _ _ _ (T58.setTop (mkF m 44 #[.val (.int p1), .val (.int p2), .val (.int p3), .val (.int p4), .val (.int p5), .val (.int (-1)), .val (.int p4), .unset, .unset] [(.ref b56)])) _
      refine Go.st (fun t k => XS.astore X58.here hx rfl (hb hby at_44) rfl rfl (l' := #[.val (.int p1), .val (.int p2), .val (.int p3), .val (.int p4), .val (.int p5), .val (.int (-1)), .val (.int p4), .val (.ref b56), .unset]) rfl k) ?_
      refine Go.st (fun t k => XS.aload X58.here hx rfl (hb hby at_46) rfl rfl k) ?_
      obtain ⟨cq59, kq59, q59a, q59b, q59c⟩ := isOf hZ e58 E_b56
      obtain ⟨_, _, ⟨T59, L59, k59, n59⟩, -, X59, ⟨Lc59, hQ59, l59, y59, z59⟩, st59⟩ := X58.virtualBack hx (y := (⟨"com/example/lectern/lectern/catalog/Franklin$Member", "slotsEmpty", "()Z"⟩ : MethodName)) (z := (⟨"com/example/lectern/lectern/catalog/Franklin$Member", "slotsEmpty", "()Z"⟩ : MethodName)) hown (mvT hZ (wd29 hw)) (mvT hZ (wd30 hw)) (notFace_of_selects (args := #[]) (mvT hZ (wd32 hw))) (mvT hZ (wd32 hw)) (mvT hZ (wd31 hw)) (by decide) (backOf (W := 0) (rm5 l Z a0 hw [] b56 (-1 : Int32) p4 h58 n0 Z0 F_b56_fromLeft F_b56_fromRight) hZ (wd33 hw) (wd2 hw) (by decide) (by decide)) q59a q59c (g := (mkF m 48 #[.val (.int p1), .val (.int p2), .val (.int p3), .val (.int p4), .val (.int p5), .val (.int (-1)), .val (.int p4), .val (.ref b56), .unset] [(.ref b56)])) rfl (by rw [hml]; rfl) (Steps.refl _) (argsL := []) (rest := []) (lenOf pd3 rfl) rfl (by show 2 * 0 + _ ≤ _; exact Nat.le_of_eq rfl) (hb hby at_48) (fun _ _ => ⟨rfl, e58, (by decide : 1 + 0 ≤ _), (by decide : 4 + 0 ≤ _)⟩)
      dsimp only [Pt.U, Pt.locs, Pt.cells, Pt.slots] at X59 l59 y59 z59 st59 hQ59
      subst l59 y59 z59
      refine Go.tr st59 ?_
      obtain ⟨rfl, N59q, e59⟩ := hQ59
      have N59 := Fr.app N58 N59q
      show Go _ _ _ (T59.setTop (mkF m 51 #[.val (.int p1), .val (.int p2), .val (.int p3), .val (.int p4), .val (.int p5), .val (.int (-1)), .val (.int p4), .val (.ref b56), .unset] [(.int (f5 (-1 : Int32) p4))])) _
      by_cases hc60 : p4 = (-1 : Int32)
      · rw [show (f5 (-1 : Int32) p4) = (1 : Int32) from by unfold f5; simp only [if_pos (by decide : (-1 : Int32) = (-1 : Int32)), if_pos hc60, if_true, if_false]]
        show Go _ _ _ (T59.setTop (mkF m 51 #[.val (.int p1), .val (.int p2), .val (.int p3), .val (.int p4), .val (.int p5), .val (.int (-1)), .val (.int p4), .val (.ref b56), .unset] [(.int 1)])) _
        refine Go.st (fun t k => XS.istore X59.here hx rfl (hb hby at_51) rfl (l' := #[.val (.int p1), .val (.int p2), .val (.int p3), .val (.int p4), .val (.int p5), .val (.int (-1)), .val (.int p4), .val (.ref b56), .val (.int 1)]) rfl k) ?_
        refine Go.st (fun t k => XS.iload X59.here hx rfl (hb hby at_53) rfl k) ?_
        refine Go.st (fun t k => XS.iload X59.here hx rfl (hb hby at_55) rfl k) ?_
        refine Go.st (fun t k => XS.iconst X59.here hx rfl (hb hby at_57) k) ?_
        refine Go.st (fun t k => XS.icmpNo X59.here hx rfl (hb hby at_58) rfl (teq (by decide : (-1 : Int32) = (-1 : Int32))).2 k) ?_
        show Go _ _ _ (T59.setTop (mkF m 61 #[.val (.int p1), .val (.int p2), .val (.int p3), .val (.int p4), .val (.int p5), .val (.int (-1)), .val (.int p4), .val (.ref b56), .val (.int 1)] [(.int 1)])) _
        refine Go.st (fun t k => XS.iload X59.here hx rfl (hb hby at_61) rfl k) ?_
        refine Go.st (fun t k => XS.iconst X59.here hx rfl (hb hby at_63) k) ?_
        refine Go.st (fun t k => XS.icmpNo X59.here hx rfl (hb hby at_64) rfl (teq hc60).2 k) ?_
        show Go _ _ _ (T59.setTop (mkF m 67 #[.val (.int p1), .val (.int p2), .val (.int p3), .val (.int p4), .val (.int p5), .val (.int (-1)), .val (.int p4), .val (.ref b56), .val (.int 1)] [(.int 1)])) _
        refine Go.st (fun t k => XS.iconst X59.here hx rfl (hb hby at_67) k) ?_
        refine Go.st (fun t k => XS.goto X59.here hx rfl (pc0 := 68) (pc' := 72) rfl (hb hby at_68) (by decide) (by decide) k) ?_
        refine Go.st (fun t k => XS.icmpYes X59.here hx rfl (pc0 := 72) (pc' := 77) rfl (hb hby at_72) rfl (teq (by decide : (1 : Int32) = (1 : Int32))).1 (by decide) (by decide) k) ?_
        show Go _ _ _ (T59.setTop (mkF m 77 #[.val (.int p1), .val (.int p2), .val (.int p3), .val (.int p4), .val (.int p5), .val (.int (-1)), .val (.int p4), .val (.ref b56), .val (.int 1)] [])) _
        refine Go.st (fun t k => XS.iload X59.here hx rfl (hb hby at_77) rfl k) ?_
        refine Go.st (fun t k => XS.ifNo X59.here hx rfl (hb hby at_79) rfl ((if0 _ _).trans (feq (by decide : ¬ ((1 : Int32) = (0 : Int32)))).1) k) ?_
        show Go _ _ _ (T59.setTop (mkF m 82 #[.val (.int p1), .val (.int p2), .val (.int p3), .val (.int p4), .val (.int p5), .val (.int (-1)), .val (.int p4), .val (.ref b56), .val (.int 1)] [])) _
        refine Go.st (fun t k => XS.aload X59.here hx rfl (hb hby at_82) rfl rfl k) ?_
        obtain ⟨cq61, kq61, q61a, q61b, q61c⟩ := isOf hZ e59 E_b56
        obtain ⟨_, _, ⟨T61, L61, k61, n61⟩, -, X61, ⟨Lc61, hQ61, l61, y61, z61⟩, st61⟩ := X59.virtualBack hx (y := (⟨"com/example/lectern/lectern/catalog/Franklin$Member", "slotsFull", "()Z"⟩ : MethodName)) (z := (⟨"com/example/lectern/lectern/catalog/Franklin$Member", "slotsFull", "()Z"⟩ : MethodName)) hown (mvT hZ (wd53 hw)) (mvT hZ (wd54 hw)) (notFace_of_selects (args := #[]) (mvT hZ (wd56 hw))) (mvT hZ (wd56 hw)) (mvT hZ (wd55 hw)) (by decide) (backOf (W := 0) (rm9 l Z a0 hw [] b56 (-1 : Int32) p4 h58 n0 Z0 F_b56_fromLeft F_b56_fromRight) hZ (wd57 hw) (wd2 hw) (by decide) (by decide)) q61a q61c (g := (mkF m 84 #[.val (.int p1), .val (.int p2), .val (.int p3), .val (.int p4), .val (.int p5), .val (.int (-1)), .val (.int p4), .val (.ref b56), .val (.int 1)] [(.ref b56)])) rfl (by rw [hml]; rfl) (Steps.refl _) (argsL := []) (rest := []) (lenOf pd3 rfl) rfl (by show 2 * 0 + _ ≤ _; exact Nat.le_of_eq rfl) (hb hby at_84) (fun _ _ => ⟨rfl, e59, (by decide : 1 + 0 ≤ _), (by decide : 4 + 0 ≤ _)⟩)
        dsimp only [Pt.U, Pt.locs, Pt.cells, Pt.slots] at X61 l61 y61 z61 st61 hQ61
        subst l61 y61 z61
        refine Go.tr st61 ?_
        obtain ⟨rfl, N61q, e61⟩ := hQ61
        have N61 := Fr.app N59 N61q
        show Go _ _ _ (T61.setTop (mkF m 87 #[.val (.int p1), .val (.int p2), .val (.int p3), .val (.int p4), .val (.int p5), .val (.int (-1)), .val (.int p4), .val (.ref b56), .val (.int 1)] [(.int (f9 (-1 : Int32) p4))])) _
        rw [show (f9 (-1 : Int32) p4) = (0 : Int32) from by unfold f9; simp only [if_pos (by decide : (-1 : Int32) = (-1 : Int32)), if_true, if_false]]
        show Go _ _ _ (T61.setTop (mkF m 87 #[.val (.int p1), .val (.int p2), .val (.int p3), .val (.int p4), .val (.int p5), .val (.int (-1)), .val (.int p4), .val (.ref b56), .val (.int 1)] [(.int 0)])) _
        refine Go.st (fun t k => XS.ifYes X61.here hx rfl (pc0 := 87) (pc' := 92) rfl (hb hby at_87) rfl ((if0 _ _).trans (teq (by decide : (0 : Int32) = (0 : Int32))).1) (by decide) (by decide) k) ?_
        show Go _ _ _ (T61.setTop (mkF m 92 #[.val (.int p1), .val (.int p2), .val (.int p3), .val (.int p4), .val (.int p5), .val (.int (-1)), .val (.int p4), .val (.ref b56), .val (.int 1)] [])) _
        refine Go.st (fun t k => XS.aload X61.here hx rfl (hb hby at_92) rfl rfl k) ?_
        obtain ⟨cq62, kq62, q62a, q62b, q62c⟩ := isOf hZ e61 E_b56
        obtain ⟨_, _, ⟨T62, L62, k62, n62⟩, -, X62, ⟨Lc62, hQ62, l62, y62, z62⟩, st62⟩ := X61.virtualBack hx (y := (⟨"com/example/lectern/lectern/catalog/Franklin$Member", "emptied", "()Lcom/example/lectern/lectern/catalog/Franklin$Member;"⟩ : MethodName)) (z := (⟨"com/example/lectern/lectern/catalog/Franklin$Member", "emptied", "()Lcom/example/lectern/lectern/catalog/Franklin$Member;"⟩ : MethodName)) hown (mvT hZ (wd34 hw)) (mvT hZ (wd35 hw)) (notFace_of_selects (args := #[]) (mvT hZ (wd37 hw))) (mvT hZ (wd37 hw)) (mvT hZ (wd36 hw)) (by decide) (backOf (W := 0) (rm6 l Z a0 hw [] b56 (f1 p1 w_NORMAL w_INITIATOR w_PASSIVE w_LEADER) p2 h58 n0 Z0 F_b56_phase F_b56_leader) hZ (wd38 hw) (wd2 hw) (by decide) (by decide)) q62a q62c (g := (mkF m 94 #[.val (.int p1), .val (.int p2), .val (.int p3), .val (.int p4), .val (.int p5), .val (.int (-1)), .val (.int p4), .val (.ref b56), .val (.int 1)] [(.ref b56)])) rfl (by rw [hml]; rfl) (Steps.refl _) (argsL := []) (rest := []) (lenOf pd4 rfl) rfl (by show 2 * 0 + _ ≤ _; exact Nat.le_of_eq rfl) (hb hby at_94) (fun _ _ => ⟨rfl, e61, (by decide : 1 + 1 ≤ _), (by decide : 4 + 4 ≤ _)⟩)
        dsimp only [Pt.U, Pt.locs, Pt.cells, Pt.slots] at X62 l62 y62 z62 st62 hQ62
        subst l62 y62 z62
        obtain ⟨h62, e62⟩ : ∃ z, T62.heap = z := ⟨_, rfl⟩
        rw [e62] at hQ62
        obtain ⟨x6_0_62, rfl, N62q, K62, ng_x6_0_62, sz0_x6_0_62, Q62_0, Q62_1, Q62_2, Q62_3, Q62_4⟩ := hQ62
        refine Go.tr st62 ?_
        have ne_w_NORMAL_x6_0_62 : w_NORMAL ≠ x6_0_62 := Nat.ne_of_lt (Nat.lt_of_lt_of_le E_w_NORMAL.lt sz0_x6_0_62)
        have ne_w_INITIATOR_x6_0_62 : w_INITIATOR ≠ x6_0_62 := Nat.ne_of_lt (Nat.lt_of_lt_of_le E_w_INITIATOR.lt sz0_x6_0_62)
        have ne_w_PASSIVE_x6_0_62 : w_PASSIVE ≠ x6_0_62 := Nat.ne_of_lt (Nat.lt_of_lt_of_le E_w_PASSIVE.lt sz0_x6_0_62)
        have ne_w_LEADER_x6_0_62 : w_LEADER ≠ x6_0_62 := Nat.ne_of_lt (Nat.lt_of_lt_of_le E_w_LEADER.lt sz0_x6_0_62)
        have ne_b56_x6_0_62 : b56 ≠ x6_0_62 := Nat.ne_of_lt (Nat.lt_of_lt_of_le E_b56.lt sz0_x6_0_62)
        have ne__f1_p1_w_NORMAL_w_INITIATOR_w_PASSIVE_w_LEADER__x6_0_62 : (f1 p1 w_NORMAL w_INITIATOR w_PASSIVE w_LEADER) ≠ x6_0_62 := Nat.ne_of_lt (Nat.lt_of_lt_of_le E57_r.lt sz0_x6_0_62)
        have g_x6_0_62 : n0 ≤ x6_0_62 := ng_x6_0_62
        have sz_x6_0_62 : h0.size ≤ x6_0_62 := Nat.le_trans K0.1 sz0_x6_0_62
        replace S_NORMAL := sta_keep S_NORMAL K62 all0
        replace E_w_NORMAL := E_w_NORMAL.keep K62
        replace S_INITIATOR := sta_keep S_INITIATOR K62 all0
        replace E_w_INITIATOR := E_w_INITIATOR.keep K62
        replace S_PASSIVE := sta_keep S_PASSIVE K62 all0
        replace E_w_PASSIVE := E_w_PASSIVE.keep K62
        replace S_LEADER := sta_keep S_LEADER K62 all0
        replace E_w_LEADER := E_w_LEADER.keep K62
        replace E_b56 := E_b56.keep K62
        replace E57_r := E57_r.keep K62
        replace F_b56_phase := F_b56_phase.keep K62 nin0
        replace F_b56_leader := F_b56_leader.keep K62 nin0
        replace F_b56_fromLeft := F_b56_fromLeft.keep K62 nin0
        replace F_b56_fromRight := F_b56_fromRight.keep K62 nin0
        replace Z0 := Nat.le_trans Z0 K62.1
        replace K0 := K0.trans K62 all0
        have E_x6_0_62 := Q62_0
        have F_x6_0_62_phase := Q62_1
        have F_x6_0_62_leader := Q62_2
        have F_x6_0_62_fromLeft := Q62_3
        have F_x6_0_62_fromRight := Q62_4
        have N62 := Fr.app N61 N62q
        show Go _ _ _ (T62.setTop (mkF m 97 #[.val (.int p1), .val (.int p2), .val (.int p3), .val (.int p4), .val (.int p5), .val (.int (-1)), .val (.int p4), .val (.ref b56), .val (.int 1)] [(.ref x6_0_62)])) _
        obtain ⟨cq63, kq63, q63a, q63b, q63c⟩ := isOf hZ e62 E_x6_0_62
        obtain ⟨_, _, ⟨T63, L63, k63, n63⟩, -, X63, ⟨Lc63, hQ63, l63, y63, z63⟩, st63⟩ := X62.virtualBack hx (y := (⟨"com/example/lectern/lectern/catalog/Franklin$Member", "slotsEmpty", "()Z"⟩ : MethodName)) (z := (⟨"com/example/lectern/lectern/catalog/Franklin$Member", "slotsEmpty", "()Z"⟩ : MethodName)) hown (mvT hZ (wd29 hw)) (mvT hZ (wd30 hw)) (notFace_of_selects (args := #[]) (mvT hZ (wd32 hw))) (mvT hZ (wd32 hw)) (mvT hZ (wd31 hw)) (by decide) (backOf (W := 0) (rm5 l Z a0 hw [] x6_0_62 (-1 : Int32) (-1 : Int32) h62 n0 Z0 F_x6_0_62_fromLeft F_x6_0_62_fromRight) hZ (wd33 hw) (wd2 hw) (by decide) (by decide)) q63a q63c (g := (mkF m 97 #[.val (.int p1), .val (.int p2), .val (.int p3), .val (.int p4), .val (.int p5), .val (.int (-1)), .val (.int p4), .val (.ref b56), .val (.int 1)] [(.ref x6_0_62)])) rfl (by rw [hml]; rfl) (Steps.refl _) (argsL := []) (rest := []) (lenOf pd3 rfl) rfl (by show 2 * 0 + _ ≤ _; exact Nat.le_of_eq rfl) (hb hby at_97) (fun _ _ => ⟨rfl, e62, (by decide : 2 + 0 ≤ _), (by decide : 8 + 0 ≤ _)⟩)
        dsimp only [Pt.U, Pt.locs, Pt.cells, Pt.slots] at X63 l63 y63 z63 st63 hQ63
        subst l63 y63 z63
        refine Go.tr st63 ?_
        obtain ⟨rfl, N63q, e63⟩ := hQ63
        have N63 := Fr.app N62 N63q
        show Go _ _ _ (T63.setTop (mkF m 100 #[.val (.int p1), .val (.int p2), .val (.int p3), .val (.int p4), .val (.int p5), .val (.int (-1)), .val (.int p4), .val (.ref b56), .val (.int 1)] [(.int (f5 (-1 : Int32) (-1 : Int32)))])) _
        rw [show (f5 (-1 : Int32) (-1 : Int32)) = (1 : Int32) from by unfold f5; simp only [if_pos (by decide : (-1 : Int32) = (-1 : Int32)), if_pos (by decide : (-1 : Int32) = (-1 : Int32)), if_true, if_false]]
        show Go _ _ _ (T63.setTop (mkF m 100 #[.val (.int p1), .val (.int p2), .val (.int p3), .val (.int p4), .val (.int p5), .val (.int (-1)), .val (.int p4), .val (.ref b56), .val (.int 1)] [(.int 1)])) _
        refine Go.st (fun t k => XS.ifYes X63.here hx rfl (pc0 := 100) (pc' := 105) rfl (hb hby at_100) rfl ((if0 _ _).trans (feq (by decide : ¬ ((1 : Int32) = (0 : Int32)))).2) (by decide) (by decide) k) ?_
        show Go _ _ _ (T63.setTop (mkF m 105 #[.val (.int p1), .val (.int p2), .val (.int p3), .val (.int p4), .val (.int p5), .val (.int (-1)), .val (.int p4), .val (.ref b56), .val (.int 1)] [])) _
        refine Go.st (fun t k => XS.aload X63.here hx rfl (hb hby at_105) rfl rfl k) ?_
        refine Go.st (fun t k => XS.iloadN X63.here hx rfl (hb hby at_107) rfl k) ?_
        obtain ⟨cq64, kq64, q64a, q64b, q64c⟩ := isOf hZ e63 E_b56
        obtain ⟨_, _, ⟨T64, L64, k64, n64⟩, -, X64, ⟨Lc64, hQ64, l64, y64, z64⟩, st64⟩ := X63.virtualBack hx (y := (⟨"com/example/lectern/lectern/catalog/Franklin$Member", "takenFromLeft", "(I)Lcom/example/lectern/lectern/catalog/Franklin$Member;"⟩ : MethodName)) (z := (⟨"com/example/lectern/lectern/catalog/Franklin$Member", "takenFromLeft", "(I)Lcom/example/lectern/lectern/catalog/Franklin$Member;"⟩ : MethodName)) hown (mvT hZ (wd41 hw)) (mvT hZ (wd42 hw)) (notFace_of_selects (args := #[]) (mvT hZ (wd44 hw))) (mvT hZ (wd44 hw)) (mvT hZ (wd43 hw)) (by decide) (backOf (W := 0) (rm7 l Z a0 hw [] b56 p4 (f1 p1 w_NORMAL w_INITIATOR w_PASSIVE w_LEADER) p2 p4 h62 n0 Z0 F_b56_phase F_b56_leader F_b56_fromRight) hZ (wd45 hw) (wd2 hw) (by decide) (by decide)) q64a q64c (g := (mkF m 108 #[.val (.int p1), .val (.int p2), .val (.int p3), .val (.int p4), .val (.int p5), .val (.int (-1)), .val (.int p4), .val (.ref b56), .val (.int 1)] [(.int p4), (.ref b56)])) rfl (by rw [hml]; rfl) (Steps.refl _) (argsL := [(.int p4)]) (rest := []) (lenOf pd5 rfl) rfl (by show 2 * 0 + _ ≤ _; exact Nat.le_of_eq rfl) (hb hby at_108) (fun _ _ => ⟨rfl, e63, (by decide : 2 + 1 ≤ _), (by decide : 8 + 4 ≤ _)⟩)
        dsimp only [Pt.U, Pt.locs, Pt.cells, Pt.slots] at X64 l64 y64 z64 st64 hQ64
        subst l64 y64 z64
        obtain ⟨h64, e64⟩ : ∃ z, T64.heap = z := ⟨_, rfl⟩
        rw [e64] at hQ64
        obtain ⟨x7_0_64, rfl, N64q, K64, ng_x7_0_64, sz0_x7_0_64, Q64_0, Q64_1, Q64_2, Q64_3, Q64_4⟩ := hQ64
        refine Go.tr st64 ?_
        have ne_w_NORMAL_x7_0_64 : w_NORMAL ≠ x7_0_64 := Nat.ne_of_lt (Nat.lt_of_lt_of_le E_w_NORMAL.lt sz0_x7_0_64)
        have ne_w_INITIATOR_x7_0_64 : w_INITIATOR ≠ x7_0_64 := Nat.ne_of_lt (Nat.lt_of_lt_of_le E_w_INITIATOR.lt sz0_x7_0_64)
        have ne_w_PASSIVE_x7_0_64 : w_PASSIVE ≠ x7_0_64 := Nat.ne_of_lt (Nat.lt_of_lt_of_le E_w_PASSIVE.lt sz0_x7_0_64)
        have ne_w_LEADER_x7_0_64 : w_LEADER ≠ x7_0_64 := Nat.ne_of_lt (Nat.lt_of_lt_of_le E_w_LEADER.lt sz0_x7_0_64)
        have ne_b56_x7_0_64 : b56 ≠ x7_0_64 := Nat.ne_of_lt (Nat.lt_of_lt_of_le E_b56.lt sz0_x7_0_64)
        have ne__f1_p1_w_NORMAL_w_INITIATOR_w_PASSIVE_w_LEADER__x7_0_64 : (f1 p1 w_NORMAL w_INITIATOR w_PASSIVE w_LEADER) ≠ x7_0_64 := Nat.ne_of_lt (Nat.lt_of_lt_of_le E57_r.lt sz0_x7_0_64)
        have ne_x6_0_62_x7_0_64 : x6_0_62 ≠ x7_0_64 := Nat.ne_of_lt (Nat.lt_of_lt_of_le E_x6_0_62.lt sz0_x7_0_64)
        have g_x7_0_64 : n0 ≤ x7_0_64 := ng_x7_0_64
        have sz_x7_0_64 : h0.size ≤ x7_0_64 := Nat.le_trans K0.1 sz0_x7_0_64
        replace S_NORMAL := sta_keep S_NORMAL K64 all0
        replace E_w_NORMAL := E_w_NORMAL.keep K64
        replace S_INITIATOR := sta_keep S_INITIATOR K64 all0
        replace E_w_INITIATOR := E_w_INITIATOR.keep K64
        replace S_PASSIVE := sta_keep S_PASSIVE K64 all0
        replace E_w_PASSIVE := E_w_PASSIVE.keep K64
        replace S_LEADER := sta_keep S_LEADER K64 all0
        replace E_w_LEADER := E_w_LEADER.keep K64
        replace E_b56 := E_b56.keep K64
        replace E57_r := E57_r.keep K64
        replace F_b56_phase := F_b56_phase.keep K64 nin0
        replace F_b56_leader := F_b56_leader.keep K64 nin0
        replace F_b56_fromLeft := F_b56_fromLeft.keep K64 nin0
        replace F_b56_fromRight := F_b56_fromRight.keep K64 nin0
        replace E_x6_0_62 := E_x6_0_62.keep K64
        replace F_x6_0_62_phase := F_x6_0_62_phase.keep K64 nin0
        replace F_x6_0_62_leader := F_x6_0_62_leader.keep K64 nin0
        replace F_x6_0_62_fromLeft := F_x6_0_62_fromLeft.keep K64 nin0
        replace F_x6_0_62_fromRight := F_x6_0_62_fromRight.keep K64 nin0
        replace Z0 := Nat.le_trans Z0 K64.1
        replace K0 := K0.trans K64 all0
        have E_x7_0_64 := Q64_0
        have F_x7_0_64_phase := Q64_1
        have F_x7_0_64_leader := Q64_2
        have F_x7_0_64_fromLeft := Q64_3
        have F_x7_0_64_fromRight := Q64_4
        have N64 := Fr.app N63 N64q
        show Go _ _ _ (T64.setTop (mkF m 111 #[.val (.int p1), .val (.int p2), .val (.int p3), .val (.int p4), .val (.int p5), .val (.int (-1)), .val (.int p4), .val (.ref b56), .val (.int 1)] [(.ref x7_0_64)])) _
        obtain ⟨cq65, kq65, q65a, q65b, q65c⟩ := isOf hZ e64 E_x7_0_64
        obtain ⟨_, _, ⟨T65, L65, k65, n65⟩, -, X65, ⟨Lc65, hQ65, l65, y65, z65⟩, st65⟩ := X64.virtualBack hx (y := (⟨"com/example/lectern/lectern/catalog/Franklin$Member", "slotsEmpty", "()Z"⟩ : MethodName)) (z := (⟨"com/example/lectern/lectern/catalog/Franklin$Member", "slotsEmpty", "()Z"⟩ : MethodName)) hown (mvT hZ (wd29 hw)) (mvT hZ (wd30 hw)) (notFace_of_selects (args := #[]) (mvT hZ (wd32 hw))) (mvT hZ (wd32 hw)) (mvT hZ (wd31 hw)) (by decide) (backOf (W := 0) (rm5 l Z a0 hw [] x7_0_64 p4 p4 h64 n0 Z0 F_x7_0_64_fromLeft F_x7_0_64_fromRight) hZ (wd33 hw) (wd2 hw) (by decide) (by decide)) q65a q65c (g := (mkF m 111 #[.val (.int p1), .val (.int p2), .val (.int p3), .val (.int p4), .val (.int p5), .val (.int (-1)), .val (.int p4), .val (.ref b56), .val (.int 1)] [(.ref x7_0_64)])) rfl (by rw [hml]; rfl) (Steps.refl _) (argsL := []) (rest := []) (lenOf pd3 rfl) rfl (by show 2 * 0 + _ ≤ _; exact Nat.le_of_eq rfl) (hb hby at_111) (fun _ _ => ⟨rfl, e64, (by decide : 3 + 0 ≤ _), (by decide : 12 + 0 ≤ _)⟩)
        dsimp only [Pt.U, Pt.locs, Pt.cells, Pt.slots] at X65 l65 y65 z65 st65 hQ65
        subst l65 y65 z65
        refine Go.tr st65 ?_
        obtain ⟨rfl, N65q, e65⟩ := hQ65
        have N65 := Fr.app N64 N65q
        show Go _ _ _ (T65.setTop (mkF m 114 #[.val (.int p1), .val (.int p2), .val (.int p3), .val (.int p4), .val (.int p5), .val (.int (-1)), .val (.int p4), .val (.ref b56), .val (.int 1)] [(.int (f5 p4 p4))])) _
        rw [show (f5 p4 p4) = (1 : Int32) from by unfold f5; simp only [if_pos hc60, if_pos hc60, if_true, if_false]]
        show Go _ _ _ (T65.setTop (mkF m 114 #[.val (.int p1), .val (.int p2), .val (.int p3), .val (.int p4), .val (.int p5), .val (.int (-1)), .val (.int p4), .val (.ref b56), .val (.int 1)] [(.int 1)])) _
        refine Go.st (fun t k => XS.iloadN X65.here hx rfl (hb hby at_114) rfl k) ?_
        refine Go.st (fun t k => XS.iconst X65.here hx rfl (hb hby at_115) k) ?_
        refine Go.st (fun t k => XS.icmpNo X65.here hx rfl (hb hby at_116) rfl (teq hc60).2 k) ?_
        show Go _ _ _ (T65.setTop (mkF m 119 #[.val (.int p1), .val (.int p2), .val (.int p3), .val (.int p4), .val (.int p5), .val (.int (-1)), .val (.int p4), .val (.ref b56), .val (.int 1)] [(.int 1)])) _
        refine Go.st (fun t k => XS.iload X65.here hx rfl (hb hby at_119) rfl k) ?_
        refine Go.st (fun t k => XS.iconst X65.here hx rfl (hb hby at_121) k) ?_
        refine Go.st (fun t k => XS.icmpNo X65.here hx rfl (hb hby at_122) rfl (teq hc60).2 k) ?_
        show Go _ _ _ (T65.setTop (mkF m 125 #[.val (.int p1), .val (.int p2), .val (.int p3), .val (.int p4), .val (.int p5), .val (.int (-1)), .val (.int p4), .val (.ref b56), .val (.int 1)] [(.int 1)])) _
        refine Go.st (fun t k => XS.iconst X65.here hx rfl (hb hby at_125) k) ?_
        refine Go.st (fun t k => XS.goto X65.here hx rfl (pc0 := 126) (pc' := 130) rfl (hb hby at_126) (by decide) (by decide) k) ?_
        refine Go.st (fun t k => XS.icmpYes X65.here hx rfl (pc0 := 130) (pc' := 135) rfl (hb hby at_130) rfl (teq (by decide : (1 : Int32) = (1 : Int32))).1 (by decide) (by decide) k) ?_
        show Go _ _ _ (T65.setTop (mkF m 135 #[.val (.int p1), .val (.int p2), .val (.int p3), .val (.int p4), .val (.int p5), .val (.int (-1)), .val (.int p4), .val (.ref b56), .val (.int 1)] [])) _
        refine Go.st (fun t k => XS.aload X65.here hx rfl (hb hby at_135) rfl rfl k) ?_
        refine Go.st (fun t k => XS.iloadN X65.here hx rfl (hb hby at_137) rfl k) ?_
        obtain ⟨cq66, kq66, q66a, q66b, q66c⟩ := isOf hZ e65 E_b56
        obtain ⟨_, _, ⟨T66, L66, k66, n66⟩, -, X66, ⟨Lc66, hQ66, l66, y66, z66⟩, st66⟩ := X65.virtualBack hx (y := (⟨"com/example/lectern/lectern/catalog/Franklin$Member", "takenFromRight", "(I)Lcom/example/lectern/lectern/catalog/Franklin$Member;"⟩ : MethodName)) (z := (⟨"com/example/lectern/lectern/catalog/Franklin$Member", "takenFromRight", "(I)Lcom/example/lectern/lectern/catalog/Franklin$Member;"⟩ : MethodName)) hown (mvT hZ (wd46 hw)) (mvT hZ (wd47 hw)) (notFace_of_selects (args := #[]) (mvT hZ (wd49 hw))) (mvT hZ (wd49 hw)) (mvT hZ (wd48 hw)) (by decide) (backOf (W := 0) (rm8 l Z a0 hw [] b56 p3 (f1 p1 w_NORMAL w_INITIATOR w_PASSIVE w_LEADER) p2 (-1 : Int32) h64 n0 Z0 F_b56_phase F_b56_leader F_b56_fromLeft) hZ (wd50 hw) (wd2 hw) (by decide) (by decide)) q66a q66c (g := (mkF m 138 #[.val (.int p1), .val (.int p2), .val (.int p3), .val (.int p4), .val (.int p5), .val (.int (-1)), .val (.int p4), .val (.ref b56), .val (.int 1)] [(.int p3), (.ref b56)])) rfl (by rw [hml]; rfl) (Steps.refl _) (argsL := [(.int p3)]) (rest := []) (lenOf pd5 rfl) rfl (by show 2 * 0 + _ ≤ _; exact Nat.le_of_eq rfl) (hb hby at_138) (fun _ _ => ⟨rfl, e65, (by decide : 3 + 1 ≤ _), (by decide : 12 + 4 ≤ _)⟩)
        dsimp only [Pt.U, Pt.locs, Pt.cells, Pt.slots] at X66 l66 y66 z66 st66 hQ66
        subst l66 y66 z66
        obtain ⟨h66, e66⟩ : ∃ z, T66.heap = z := ⟨_, rfl⟩
        rw [e66] at hQ66
        obtain ⟨x8_0_66, rfl, N66q, K66, ng_x8_0_66, sz0_x8_0_66, Q66_0, Q66_1, Q66_2, Q66_3, Q66_4⟩ := hQ66
        refine Go.tr st66 ?_
        have ne_w_NORMAL_x8_0_66 : w_NORMAL ≠ x8_0_66 := Nat.ne_of_lt (Nat.lt_of_lt_of_le E_w_NORMAL.lt sz0_x8_0_66)
        have ne_w_INITIATOR_x8_0_66 : w_INITIATOR ≠ x8_0_66 := Nat.ne_of_lt (Nat.lt_of_lt_of_le E_w_INITIATOR.lt sz0_x8_0_66)
        have ne_w_PASSIVE_x8_0_66 : w_PASSIVE ≠ x8_0_66 := Nat.ne_of_lt (Nat.lt_of_lt_of_le E_w_PASSIVE.lt sz0_x8_0_66)
        have ne_w_LEADER_x8_0_66 : w_LEADER ≠ x8_0_66 := Nat.ne_of_lt (Nat.lt_of_lt_of_le E_w_LEADER.lt sz0_x8_0_66)
        have ne_b56_x8_0_66 : b56 ≠ x8_0_66 := Nat.ne_of_lt (Nat.lt_of_lt_of_le E_b56.lt sz0_x8_0_66)
        have ne__f1_p1_w_NORMAL_w_INITIATOR_w_PASSIVE_w_LEADER__x8_0_66 : (f1 p1 w_NORMAL w_INITIATOR w_PASSIVE w_LEADER) ≠ x8_0_66 := Nat.ne_of_lt (Nat.lt_of_lt_of_le E57_r.lt sz0_x8_0_66)
        have ne_x6_0_62_x8_0_66 : x6_0_62 ≠ x8_0_66 := Nat.ne_of_lt (Nat.lt_of_lt_of_le E_x6_0_62.lt sz0_x8_0_66)
        have ne_x7_0_64_x8_0_66 : x7_0_64 ≠ x8_0_66 := Nat.ne_of_lt (Nat.lt_of_lt_of_le E_x7_0_64.lt sz0_x8_0_66)
        have g_x8_0_66 : n0 ≤ x8_0_66 := ng_x8_0_66
        have sz_x8_0_66 : h0.size ≤ x8_0_66 := Nat.le_trans K0.1 sz0_x8_0_66
        replace S_NORMAL := sta_keep S_NORMAL K66 all0
        replace E_w_NORMAL := E_w_NORMAL.keep K66
        replace S_INITIATOR := sta_keep S_INITIATOR K66 all0
        replace E_w_INITIATOR := E_w_INITIATOR.keep K66
        replace S_PASSIVE := sta_keep S_PASSIVE K66 all0
        replace E_w_PASSIVE := E_w_PASSIVE.keep K66
        replace S_LEADER := sta_keep S_LEADER K66 all0
        replace E_w_LEADER := E_w_LEADER.keep K66
        replace E_b56 := E_b56.keep K66
        replace E57_r := E57_r.keep K66
        replace F_b56_phase := F_b56_phase.keep K66 nin0
        replace F_b56_leader := F_b56_leader.keep K66 nin0
        replace F_b56_fromLeft := F_b56_fromLeft.keep K66 nin0
        replace F_b56_fromRight := F_b56_fromRight.keep K66 nin0
        replace E_x6_0_62 := E_x6_0_62.keep K66
        replace F_x6_0_62_phase := F_x6_0_62_phase.keep K66 nin0
        replace F_x6_0_62_leader := F_x6_0_62_leader.keep K66 nin0
        replace F_x6_0_62_fromLeft := F_x6_0_62_fromLeft.keep K66 nin0
        replace F_x6_0_62_fromRight := F_x6_0_62_fromRight.keep K66 nin0
        replace E_x7_0_64 := E_x7_0_64.keep K66
        replace F_x7_0_64_phase := F_x7_0_64_phase.keep K66 nin0
        replace F_x7_0_64_leader := F_x7_0_64_leader.keep K66 nin0
        replace F_x7_0_64_fromLeft := F_x7_0_64_fromLeft.keep K66 nin0
        replace F_x7_0_64_fromRight := F_x7_0_64_fromRight.keep K66 nin0
        replace Z0 := Nat.le_trans Z0 K66.1
        replace K0 := K0.trans K66 all0
        have E_x8_0_66 := Q66_0
        have F_x8_0_66_phase := Q66_1
        have F_x8_0_66_leader := Q66_2
        have F_x8_0_66_fromLeft := Q66_3
        have F_x8_0_66_fromRight := Q66_4
        have N66 := Fr.app N65 N66q
        show Go _ _ _ (T66.setTop (mkF m 141 #[.val (.int p1), .val (.int p2), .val (.int p3), .val (.int p4), .val (.int p5), .val (.int (-1)), .val (.int p4), .val (.ref b56), .val (.int 1)] [(.ref x8_0_66)])) _
        obtain ⟨cq67, kq67, q67a, q67b, q67c⟩ := isOf hZ e66 E_x8_0_66
        obtain ⟨_, _, ⟨T67, L67, k67, n67⟩, -, X67, ⟨Lc67, hQ67, l67, y67, z67⟩, st67⟩ := X66.virtualBack hx (y := (⟨"com/example/lectern/lectern/catalog/Franklin$Member", "slotsEmpty", "()Z"⟩ : MethodName)) (z := (⟨"com/example/lectern/lectern/catalog/Franklin$Member", "slotsEmpty", "()Z"⟩ : MethodName)) hown (mvT hZ (wd29 hw)) (mvT hZ (wd30 hw)) (notFace_of_selects (args := #[]) (mvT hZ (wd32 hw))) (mvT hZ (wd32 hw)) (mvT hZ (wd31 hw)) (by decide) (backOf (W := 0) (rm5 l Z a0 hw [] x8_0_66 (-1 : Int32) p3 h66 n0 Z0 F_x8_0_66_fromLeft F_x8_0_66_fromRight) hZ (wd33 hw) (wd2 hw) (by decide) (by decide)) q67a q67c (g := (mkF m 141 #[.val (.int p1), .val (.int p2), .val (.int p3), .val (.int p4), .val (.int p5), .val (.int (-1)), .val (.int p4), .val (.ref b56), .val (.int 1)] [(.ref x8_0_66)])) rfl (by rw [hml]; rfl) (Steps.refl _) (argsL := []) (rest := []) (lenOf pd3 rfl) rfl (by show 2 * 0 + _ ≤ _; exact Nat.le_of_eq rfl) (hb hby at_141) (fun _ _ => ⟨rfl, e66, (by decide : 4 + 0 ≤ _), (by decide : 16 + 0 ≤ _)⟩)
        dsimp only [Pt.U, Pt.locs, Pt.cells, Pt.slots] at X67 l67 y67 z67 st67 hQ67
        subst l67 y67 z67
        refine Go.tr st67 ?_
        obtain ⟨rfl, N67q, e67⟩ := hQ67
        have N67 := Fr.app N66 N67q
        show Go _ _ _ (T67.setTop (mkF m 144 #[.val (.int p1), .val (.int p2), .val (.int p3), .val (.int p4), .val (.int p5), .val (.int (-1)), .val (.int p4), .val (.ref b56), .val (.int 1)] [(.int (f5 (-1 : Int32) p3))])) _
        by_cases hc68 : p3 = (-1 : Int32)
        · rw [show (f5 (-1 : Int32) p3) = (1 : Int32) from by unfold f5; simp only [if_pos (by decide : (-1 : Int32) = (-1 : Int32)), if_pos hc68, if_true, if_false]]
          show Go _ _ _ (T67.setTop (mkF m 144 #[.val (.int p1), .val (.int p2), .val (.int p3), .val (.int p4), .val (.int p5), .val (.int (-1)), .val (.int p4), .val (.ref b56), .val (.int 1)] [(.int 1)])) _
          refine Go.st (fun t k => XS.iload X67.here hx rfl (hb hby at_144) rfl k) ?_
          refine Go.st (fun t k => XS.iconst X67.here hx rfl (hb hby at_146) k) ?_
          refine Go.st (fun t k => XS.icmpNo X67.here hx rfl (hb hby at_147) rfl (teq (by decide : (-1 : Int32) = (-1 : Int32))).2 k) ?_
          show Go _ _ _ (T67.setTop (mkF m 150 #[.val (.int p1), .val (.int p2), .val (.int p3), .val (.int p4), .val (.int p5), .val (.int (-1)), .val (.int p4), .val (.ref b56), .val (.int 1)] [(.int 1)])) _
          refine Go.st (fun t k => XS.iloadN X67.here hx rfl (hb hby at_150) rfl k) ?_
          refine Go.st (fun t k => XS.iconst X67.here hx rfl (hb hby at_151) k) ?_
          refine Go.st (fun t k => XS.icmpNo X67.here hx rfl (hb hby at_152) rfl (teq hc68).2 k) ?_
          show Go _ _ _ (T67.setTop (mkF m 155 #[.val (.int p1), .val (.int p2), .val (.int p3), .val (.int p4), .val (.int p5), .val (.int (-1)), .val (.int p4), .val (.ref b56), .val (.int 1)] [(.int 1)])) _
          refine Go.st (fun t k => XS.iconst X67.here hx rfl (hb hby at_155) k) ?_
          refine Go.st (fun t k => XS.goto X67.here hx rfl (pc0 := 156) (pc' := 160) rfl (hb hby at_156) (by decide) (by decide) k) ?_
          refine Go.st (fun t k => XS.icmpYes X67.here hx rfl (pc0 := 160) (pc' := 165) rfl (hb hby at_160) rfl (teq (by decide : (1 : Int32) = (1 : Int32))).1 (by decide) (by decide) k) ?_
          show Go _ _ _ (T67.setTop (mkF m 165 #[.val (.int p1), .val (.int p2), .val (.int p3), .val (.int p4), .val (.int p5), .val (.int (-1)), .val (.int p4), .val (.ref b56), .val (.int 1)] [])) _
          refine Go.st (fun t k => XS.iconst X67.here hx rfl (hb hby at_165) k) ?_
          obtain ⟨fs, hr, hrun, hended, hW, hsame⟩ := X67.leave (v := some (.int (1 : Int32))) (fun h => by rw [Bd.returns] at h; cases h)
          refine Go.fin (retN X67 hx (t := .boolean) Bd.returns (by simp) (hb hby at_166) hr) hrun hended ⟨_, _, rfl, ?_, ⟨_, rfl⟩, hW, hsame.mono (by decide) (by decide)⟩
          show Q0 Z p1 p2 p3 p4 p5 w_NORMAL w_INITIATOR w_PASSIVE w_LEADER h0 n0 _ T67.heap _
          rw [e67]
          exact ⟨rfl, N67⟩
        · rw [show (f5 (-1 : Int32) p3) = (0 : Int32) from by unfold f5; simp only [if_pos (by decide : (-1 : Int32) = (-1 : Int32)), if_neg hc68, if_true, if_false]]
          show Go _ _ _ (T67.setTop (mkF m 144 #[.val (.int p1), .val (.int p2), .val (.int p3), .val (.int p4), .val (.int p5), .val (.int (-1)), .val (.int p4), .val (.ref b56), .val (.int 1)] [(.int 0)])) _
          refine Go.st (fun t k => XS.iload X67.here hx rfl (hb hby at_144) rfl k) ?_
          refine Go.st (fun t k => XS.iconst X67.here hx rfl (hb hby at_146) k) ?_
          refine Go.st (fun t k => XS.icmpNo X67.here hx rfl (hb hby at_147) rfl (teq (by decide : (-1 : Int32) = (-1 : Int32))).2 k) ?_
          show Go _ _ _ (T67.setTop (mkF m 150 #[.val (.int p1), .val (.int p2), .val (.int p3), .val (.int p4), .val (.int p5), .val (.int (-1)), .val (.int p4), .val (.ref b56), .val (.int 1)] [(.int 0)])) _
          refine Go.st (fun t k => XS.iloadN X67.here hx rfl (hb hby at_150) rfl k) ?_
          refine Go.st (fun t k => XS.iconst X67.here hx rfl (hb hby at_151) k) ?_
          refine Go.st (fun t k => XS.icmpYes X67.here hx rfl (pc0 := 152) (pc' := 159) rfl (hb hby at_152) rfl (feq hc68).2 (by decide) (by decide) k) ?_
          show Go _ _ _ (T67.setTop (mkF m 159 #[.val (.int p1), .val (.int p2), .val (.int p3), .val (.int p4), .val (.int p5), .val (.int (-1)), .val (.int p4), .val (.ref b56), .val (.int 1)] [(.int 0)])) _
          refine Go.st (fun t k => XS.iconst X67.here hx rfl (hb hby at_159) k) ?_
          refine Go.st (fun t k => XS.icmpYes X67.here hx rfl (pc0 := 160) (pc' := 165) rfl (hb hby at_160) rfl (teq (by decide : (0 : Int32) = (0 : Int32))).1 (by decide) (by decide) k) ?_
          show Go _ _ _ (T67.setTop (mkF m 165 #[.val (.int p1), .val (.int p2), .val (.int p3), .val (.int p4), .val (.int p5), .val (.int (-1)), .val (.int p4), .val (.ref b56), .val (.int 1)] [])) _
          refine Go.st (fun t k => XS.iconst X67.here hx rfl (hb hby at_165) k) ?_
          obtain ⟨fs, hr, hrun, hended, hW, hsame⟩ := X67.leave (v := some (.int (1 : Int32))) (fun h => by rw [Bd.returns] at h; cases h)
          refine Go.fin (retN X67 hx (t := .boolean) Bd.returns (by simp) (hb hby at_166) hr) hrun hended ⟨_, _, rfl, ?_, ⟨_, rfl⟩, hW, hsame.mono (by decide) (by decide)⟩
          show Q0 Z p1 p2 p3 p4 p5 w_NORMAL w_INITIATOR w_PASSIVE w_LEADER h0 n0 _ T67.heap _
          rw [e67]
          exact ⟨rfl, N67⟩
      · rw [show (f5 (-1 : Int32) p4) = (0 : Int32) from by unfold f5; simp only [if_pos (by decide : (-1 : Int32) = (-1 : Int32)), if_neg hc60, if_true, if_false]]
        show Go _ _ _ (T59.setTop (mkF m 51 #[.val (.int p1), .val (.int p2), .val (.int p3), .val (.int p4), .val (.int p5), .val (.int (-1)), .val (.int p4), .val (.ref b56), .unset] [(.int 0)])) _
        refine Go.st (fun t k => XS.istore X59.here hx rfl (hb hby at_51) rfl (l' := #[.val (.int p1), .val (.int p2), .val (.int p3), .val (.int p4), .val (.int p5), .val (.int (-1)), .val (.int p4), .val (.ref b56), .val (.int 0)]) rfl k) ?_
        refine Go.st (fun t k => XS.iload X59.here hx rfl (hb hby at_53) rfl k) ?_
        refine Go.st (fun t k => XS.iload X59.here hx rfl (hb hby at_55) rfl k) ?_
        refine Go.st (fun t k => XS.iconst X59.here hx rfl (hb hby at_57) k) ?_
        refine Go.st (fun t k => XS.icmpNo X59.here hx rfl (hb hby at_58) rfl (teq (by decide : (-1 : Int32) = (-1 : Int32))).2 k) ?_
        show Go _ _ _ (T59.setTop (mkF m 61 #[.val (.int p1), .val (.int p2), .val (.int p3), .val (.int p4), .val (.int p5), .val (.int (-1)), .val (.int p4), .val (.ref b56), .val (.int 0)] [(.int 0)])) _
        refine Go.st (fun t k => XS.iload X59.here hx rfl (hb hby at_61) rfl k) ?_
        refine Go.st (fun t k => XS.iconst X59.here hx rfl (hb hby at_63) k) ?_
        refine Go.st (fun t k => XS.icmpYes X59.here hx rfl (pc0 := 64) (pc' := 71) rfl (hb hby at_64) rfl (feq hc60).2 (by decide) (by decide) k) ?_
        show Go _ _ _ (T59.setTop (mkF m 71 #[.val (.int p1), .val (.int p2), .val (.int p3), .val (.int p4), .val (.int p5), .val (.int (-1)), .val (.int p4), .val (.ref b56), .val (.int 0)] [(.int 0)])) _
        refine Go.st (fun t k => XS.iconst X59.here hx rfl (hb hby at_71) k) ?_
        refine Go.st (fun t k => XS.icmpYes X59.here hx rfl (pc0 := 72) (pc' := 77) rfl (hb hby at_72) rfl (teq (by decide : (0 : Int32) = (0 : Int32))).1 (by decide) (by decide) k) ?_
        show Go _ _ _ (T59.setTop (mkF m 77 #[.val (.int p1), .val (.int p2), .val (.int p3), .val (.int p4), .val (.int p5), .val (.int (-1)), .val (.int p4), .val (.ref b56), .val (.int 0)] [])) _
        refine Go.st (fun t k => XS.iload X59.here hx rfl (hb hby at_77) rfl k) ?_
        refine Go.st (fun t k => XS.ifYes X59.here hx rfl (pc0 := 79) (pc' := 92) rfl (hb hby at_79) rfl ((if0 _ _).trans (teq (by decide : (0 : Int32) = (0 : Int32))).1) (by decide) (by decide) k) ?_
        show Go _ _ _ (T59.setTop (mkF m 92 #[.val (.int p1), .val (.int p2), .val (.int p3), .val (.int p4), .val (.int p5), .val (.int (-1)), .val (.int p4), .val (.ref b56), .val (.int 0)] [])) _
        refine Go.st (fun t k => XS.aload X59.here hx rfl (hb hby at_92) rfl rfl k) ?_
        obtain ⟨cq69, kq69, q69a, q69b, q69c⟩ := isOf hZ e59 E_b56
        obtain ⟨_, _, ⟨T69, L69, k69, n69⟩, -, X69, ⟨Lc69, hQ69, l69, y69, z69⟩, st69⟩ := X59.virtualBack hx (y := (⟨"com/example/lectern/lectern/catalog/Franklin$Member", "emptied", "()Lcom/example/lectern/lectern/catalog/Franklin$Member;"⟩ : MethodName)) (z := (⟨"com/example/lectern/lectern/catalog/Franklin$Member", "emptied", "()Lcom/example/lectern/lectern/catalog/Franklin$Member;"⟩ : MethodName)) hown (mvT hZ (wd34 hw)) (mvT hZ (wd35 hw)) (notFace_of_selects (args := #[]) (mvT hZ (wd37 hw))) (mvT hZ (wd37 hw)) (mvT hZ (wd36 hw)) (by decide) (backOf (W := 0) (rm6 l Z a0 hw [] b56 (f1 p1 w_NORMAL w_INITIATOR w_PASSIVE w_LEADER) p2 h58 n0 Z0 F_b56_phase F_b56_leader) hZ (wd38 hw) (wd2 hw) (by decide) (by decide)) q69a q69c (g := (mkF m 94 #[.val (.int p1), .val (.int p2), .val (.int p3), .val (.int p4), .val (.int p5), .val (.int (-1)), .val (.int p4), .val (.ref b56), .val (.int 0)] [(.ref b56)])) rfl (by rw [hml]; rfl) (Steps.refl _) (argsL := []) (rest := []) (lenOf pd4 rfl) rfl (by show 2 * 0 + _ ≤ _; exact Nat.le_of_eq rfl) (hb hby at_94) (fun _ _ => ⟨rfl, e59, (by decide : 1 + 1 ≤ _), (by decide : 4 + 4 ≤ _)⟩)
        dsimp only [Pt.U, Pt.locs, Pt.cells, Pt.slots] at X69 l69 y69 z69 st69 hQ69
        subst l69 y69 z69
        obtain ⟨h69, e69⟩ : ∃ z, T69.heap = z := ⟨_, rfl⟩
        rw [e69] at hQ69
        obtain ⟨x6_0_69, rfl, N69q, K69, ng_x6_0_69, sz0_x6_0_69, Q69_0, Q69_1, Q69_2, Q69_3, Q69_4⟩ := hQ69
        refine Go.tr st69 ?_
        have ne_w_NORMAL_x6_0_69 : w_NORMAL ≠ x6_0_69 := Nat.ne_of_lt (Nat.lt_of_lt_of_le E_w_NORMAL.lt sz0_x6_0_69)
        have ne_w_INITIATOR_x6_0_69 : w_INITIATOR ≠ x6_0_69 := Nat.ne_of_lt (Nat.lt_of_lt_of_le E_w_INITIATOR.lt sz0_x6_0_69)
        have ne_w_PASSIVE_x6_0_69 : w_PASSIVE ≠ x6_0_69 := Nat.ne_of_lt (Nat.lt_of_lt_of_le E_w_PASSIVE.lt sz0_x6_0_69)
        have ne_w_LEADER_x6_0_69 : w_LEADER ≠ x6_0_69 := Nat.ne_of_lt (Nat.lt_of_lt_of_le E_w_LEADER.lt sz0_x6_0_69)
        have ne_b56_x6_0_69 : b56 ≠ x6_0_69 := Nat.ne_of_lt (Nat.lt_of_lt_of_le E_b56.lt sz0_x6_0_69)
        have ne__f1_p1_w_NORMAL_w_INITIATOR_w_PASSIVE_w_LEADER__x6_0_69 : (f1 p1 w_NORMAL w_INITIATOR w_PASSIVE w_LEADER) ≠ x6_0_69 := Nat.ne_of_lt (Nat.lt_of_lt_of_le E57_r.lt sz0_x6_0_69)
        have g_x6_0_69 : n0 ≤ x6_0_69 := ng_x6_0_69
        have sz_x6_0_69 : h0.size ≤ x6_0_69 := Nat.le_trans K0.1 sz0_x6_0_69
        replace S_NORMAL := sta_keep S_NORMAL K69 all0
        replace E_w_NORMAL := E_w_NORMAL.keep K69
        replace S_INITIATOR := sta_keep S_INITIATOR K69 all0
        replace E_w_INITIATOR := E_w_INITIATOR.keep K69
        replace S_PASSIVE := sta_keep S_PASSIVE K69 all0
        replace E_w_PASSIVE := E_w_PASSIVE.keep K69
        replace S_LEADER := sta_keep S_LEADER K69 all0
        replace E_w_LEADER := E_w_LEADER.keep K69
        replace E_b56 := E_b56.keep K69
        replace E57_r := E57_r.keep K69
        replace F_b56_phase := F_b56_phase.keep K69 nin0
        replace F_b56_leader := F_b56_leader.keep K69 nin0
        replace F_b56_fromLeft := F_b56_fromLeft.keep K69 nin0
        replace F_b56_fromRight := F_b56_fromRight.keep K69 nin0
        replace Z0 := Nat.le_trans Z0 K69.1
        replace K0 := K0.trans K69 all0
        have E_x6_0_69 := Q69_0
        have F_x6_0_69_phase := Q69_1
        have F_x6_0_69_leader := Q69_2
        have F_x6_0_69_fromLeft := Q69_3
        have F_x6_0_69_fromRight := Q69_4
        have N69 := Fr.app N59 N69q
        show Go _ _ _ (T69.setTop (mkF m 97 #[.val (.int p1), .val (.int p2), .val (.int p3), .val (.int p4), .val (.int p5), .val (.int (-1)), .val (.int p4), .val (.ref b56), .val (.int 0)] [(.ref x6_0_69)])) _
        obtain ⟨cq70, kq70, q70a, q70b, q70c⟩ := isOf hZ e69 E_x6_0_69
        obtain ⟨_, _, ⟨T70, L70, k70, n70⟩, -, X70, ⟨Lc70, hQ70, l70, y70, z70⟩, st70⟩ := X69.virtualBack hx (y := (⟨"com/example/lectern/lectern/catalog/Franklin$Member", "slotsEmpty", "()Z"⟩ : MethodName)) (z := (⟨"com/example/lectern/lectern/catalog/Franklin$Member", "slotsEmpty", "()Z"⟩ : MethodName)) hown (mvT hZ (wd29 hw)) (mvT hZ (wd30 hw)) (notFace_of_selects (args := #[]) (mvT hZ (wd32 hw))) (mvT hZ (wd32 hw)) (mvT hZ (wd31 hw)) (by decide) (backOf (W := 0) (rm5 l Z a0 hw [] x6_0_69 (-1 : Int32) (-1 : Int32) h69 n0 Z0 F_x6_0_69_fromLeft F_x6_0_69_fromRight) hZ (wd33 hw) (wd2 hw) (by decide) (by decide)) q70a q70c (g := (mkF m 97 #[.val (.int p1), .val (.int p2), .val (.int p3), .val (.int p4), .val (.int p5), .val (.int (-1)), .val (.int p4), .val (.ref b56), .val (.int 0)] [(.ref x6_0_69)])) rfl (by rw [hml]; rfl) (Steps.refl _) (argsL := []) (rest := []) (lenOf pd3 rfl) rfl (by show 2 * 0 + _ ≤ _; exact Nat.le_of_eq rfl) (hb hby at_97) (fun _ _ => ⟨rfl, e69, (by decide : 2 + 0 ≤ _), (by decide : 8 + 0 ≤ _)⟩)
        dsimp only [Pt.U, Pt.locs, Pt.cells, Pt.slots] at X70 l70 y70 z70 st70 hQ70
        subst l70 y70 z70
        refine Go.tr st70 ?_
        obtain ⟨rfl, N70q, e70⟩ := hQ70
        have N70 := Fr.app N69 N70q
        show Go _ _ _ (T70.setTop (mkF m 100 #[.val (.int p1), .val (.int p2), .val (.int p3), .val (.int p4), .val (.int p5), .val (.int (-1)), .val (.int p4), .val (.ref b56), .val (.int 0)] [(.int (f5 (-1 : Int32) (-1 : Int32)))])) _
        rw [show (f5 (-1 : Int32) (-1 : Int32)) = (1 : Int32) from by unfold f5; simp only [if_pos (by decide : (-1 : Int32) = (-1 : Int32)), if_pos (by decide : (-1 : Int32) = (-1 : Int32)), if_true, if_false]]
        show Go _ _ _ (T70.setTop (mkF m 100 #[.val (.int p1), .val (.int p2), .val (.int p3), .val (.int p4), .val (.int p5), .val (.int (-1)), .val (.int p4), .val (.ref b56), .val (.int 0)] [(.int 1)])) _
        refine Go.st (fun t k => XS.ifYes X70.here hx rfl (pc0 := 100) (pc' := 105) rfl (hb hby at_100) rfl ((if0 _ _).trans (feq (by decide : ¬ ((1 : Int32) = (0 : Int32)))).2) (by decide) (by decide) k) ?_
        show Go _ _ _ (T70.setTop (mkF m 105 #[.val (.int p1), .val (.int p2), .val (.int p3), .val (.int p4), .val (.int p5), .val (.int (-1)), .val (.int p4), .val (.ref b56), .val (.int 0)] [])) _
        refine Go.st (fun t k => XS.aload X70.here hx rfl (hb hby at_105) rfl rfl k) ?_
        refine Go.st (fun t k => XS.iloadN X70.here hx rfl (hb hby at_107) rfl k) ?_
        obtain ⟨cq71, kq71, q71a, q71b, q71c⟩ := isOf hZ e70 E_b56
        obtain ⟨_, _, ⟨T71, L71, k71, n71⟩, -, X71, ⟨Lc71, hQ71, l71, y71, z71⟩, st71⟩ := X70.virtualBack hx (y := (⟨"com/example/lectern/lectern/catalog/Franklin$Member", "takenFromLeft", "(I)Lcom/example/lectern/lectern/catalog/Franklin$Member;"⟩ : MethodName)) (z := (⟨"com/example/lectern/lectern/catalog/Franklin$Member", "takenFromLeft", "(I)Lcom/example/lectern/lectern/catalog/Franklin$Member;"⟩ : MethodName)) hown (mvT hZ (wd41 hw)) (mvT hZ (wd42 hw)) (notFace_of_selects (args := #[]) (mvT hZ (wd44 hw))) (mvT hZ (wd44 hw)) (mvT hZ (wd43 hw)) (by decide) (backOf (W := 0) (rm7 l Z a0 hw [] b56 p4 (f1 p1 w_NORMAL w_INITIATOR w_PASSIVE w_LEADER) p2 p4 h69 n0 Z0 F_b56_phase F_b56_leader F_b56_fromRight) hZ (wd45 hw) (wd2 hw) (by decide) (by decide)) q71a q71c (g := (mkF m 108 #[.val (.int p1), .val (.int p2), .val (.int p3), .val (.int p4), .val (.int p5), .val (.int (-1)), .val (.int p4), .val (.ref b56), .val (.int 0)] [(.int p4), (.ref b56)])) rfl (by rw [hml]; rfl) (Steps.refl _) (argsL := [(.int p4)]) (rest := []) (lenOf pd5 rfl) rfl (by show 2 * 0 + _ ≤ _; exact Nat.le_of_eq rfl) (hb hby at_108) (fun _ _ => ⟨rfl, e70, (by decide : 2 + 1 ≤ _), (by decide : 8 + 4 ≤ _)⟩)
        dsimp only [Pt.U, Pt.locs, Pt.cells, Pt.slots] at X71 l71 y71 z71 st71 hQ71
        subst l71 y71 z71
        obtain ⟨h71, e71⟩ : ∃ z, T71.heap = z := ⟨_, rfl⟩
        rw [e71] at hQ71
        obtain ⟨x7_0_71, rfl, N71q, K71, ng_x7_0_71, sz0_x7_0_71, Q71_0, Q71_1, Q71_2, Q71_3, Q71_4⟩ := hQ71
        refine Go.tr st71 ?_
        have ne_w_NORMAL_x7_0_71 : w_NORMAL ≠ x7_0_71 := Nat.ne_of_lt (Nat.lt_of_lt_of_le E_w_NORMAL.lt sz0_x7_0_71)
        have ne_w_INITIATOR_x7_0_71 : w_INITIATOR ≠ x7_0_71 := Nat.ne_of_lt (Nat.lt_of_lt_of_le E_w_INITIATOR.lt sz0_x7_0_71)
        have ne_w_PASSIVE_x7_0_71 : w_PASSIVE ≠ x7_0_71 := Nat.ne_of_lt (Nat.lt_of_lt_of_le E_w_PASSIVE.lt sz0_x7_0_71)
        have ne_w_LEADER_x7_0_71 : w_LEADER ≠ x7_0_71 := Nat.ne_of_lt (Nat.lt_of_lt_of_le E_w_LEADER.lt sz0_x7_0_71)
        have ne_b56_x7_0_71 : b56 ≠ x7_0_71 := Nat.ne_of_lt (Nat.lt_of_lt_of_le E_b56.lt sz0_x7_0_71)
        have ne__f1_p1_w_NORMAL_w_INITIATOR_w_PASSIVE_w_LEADER__x7_0_71 : (f1 p1 w_NORMAL w_INITIATOR w_PASSIVE w_LEADER) ≠ x7_0_71 := Nat.ne_of_lt (Nat.lt_of_lt_of_le E57_r.lt sz0_x7_0_71)
        have ne_x6_0_69_x7_0_71 : x6_0_69 ≠ x7_0_71 := Nat.ne_of_lt (Nat.lt_of_lt_of_le E_x6_0_69.lt sz0_x7_0_71)
        have g_x7_0_71 : n0 ≤ x7_0_71 := ng_x7_0_71
        have sz_x7_0_71 : h0.size ≤ x7_0_71 := Nat.le_trans K0.1 sz0_x7_0_71
        replace S_NORMAL := sta_keep S_NORMAL K71 all0
        replace E_w_NORMAL := E_w_NORMAL.keep K71
        replace S_INITIATOR := sta_keep S_INITIATOR K71 all0
        replace E_w_INITIATOR := E_w_INITIATOR.keep K71
        replace S_PASSIVE := sta_keep S_PASSIVE K71 all0
        replace E_w_PASSIVE := E_w_PASSIVE.keep K71
        replace S_LEADER := sta_keep S_LEADER K71 all0
        replace E_w_LEADER := E_w_LEADER.keep K71
        replace E_b56 := E_b56.keep K71
        replace E57_r := E57_r.keep K71
        replace F_b56_phase := F_b56_phase.keep K71 nin0
        replace F_b56_leader := F_b56_leader.keep K71 nin0
        replace F_b56_fromLeft := F_b56_fromLeft.keep K71 nin0
        replace F_b56_fromRight := F_b56_fromRight.keep K71 nin0
        replace E_x6_0_69 := E_x6_0_69.keep K71
        replace F_x6_0_69_phase := F_x6_0_69_phase.keep K71 nin0
        replace F_x6_0_69_leader := F_x6_0_69_leader.keep K71 nin0
        replace F_x6_0_69_fromLeft := F_x6_0_69_fromLeft.keep K71 nin0
        replace F_x6_0_69_fromRight := F_x6_0_69_fromRight.keep K71 nin0
        replace Z0 := Nat.le_trans Z0 K71.1
        replace K0 := K0.trans K71 all0
        have E_x7_0_71 := Q71_0
        have F_x7_0_71_phase := Q71_1
        have F_x7_0_71_leader := Q71_2
        have F_x7_0_71_fromLeft := Q71_3
        have F_x7_0_71_fromRight := Q71_4
        have N71 := Fr.app N70 N71q
        show Go _ _ _ (T71.setTop (mkF m 111 #[.val (.int p1), .val (.int p2), .val (.int p3), .val (.int p4), .val (.int p5), .val (.int (-1)), .val (.int p4), .val (.ref b56), .val (.int 0)] [(.ref x7_0_71)])) _
        obtain ⟨cq72, kq72, q72a, q72b, q72c⟩ := isOf hZ e71 E_x7_0_71
        obtain ⟨_, _, ⟨T72, L72, k72, n72⟩, -, X72, ⟨Lc72, hQ72, l72, y72, z72⟩, st72⟩ := X71.virtualBack hx (y := (⟨"com/example/lectern/lectern/catalog/Franklin$Member", "slotsEmpty", "()Z"⟩ : MethodName)) (z := (⟨"com/example/lectern/lectern/catalog/Franklin$Member", "slotsEmpty", "()Z"⟩ : MethodName)) hown (mvT hZ (wd29 hw)) (mvT hZ (wd30 hw)) (notFace_of_selects (args := #[]) (mvT hZ (wd32 hw))) (mvT hZ (wd32 hw)) (mvT hZ (wd31 hw)) (by decide) (backOf (W := 0) (rm5 l Z a0 hw [] x7_0_71 p4 p4 h71 n0 Z0 F_x7_0_71_fromLeft F_x7_0_71_fromRight) hZ (wd33 hw) (wd2 hw) (by decide) (by decide)) q72a q72c (g := (mkF m 111 #[.val (.int p1), .val (.int p2), .val (.int p3), .val (.int p4), .val (.int p5), .val (.int (-1)), .val (.int p4), .val (.ref b56), .val (.int 0)] [(.ref x7_0_71)])) rfl (by rw [hml]; rfl) (Steps.refl _) (argsL := []) (rest := []) (lenOf pd3 rfl) rfl (by show 2 * 0 + _ ≤ _; exact Nat.le_of_eq rfl) (hb hby at_111) (fun _ _ => ⟨rfl, e71, (by decide : 3 + 0 ≤ _), (by decide : 12 + 0 ≤ _)⟩)
        dsimp only [Pt.U, Pt.locs, Pt.cells, Pt.slots] at X72 l72 y72 z72 st72 hQ72
        subst l72 y72 z72
        refine Go.tr st72 ?_
        obtain ⟨rfl, N72q, e72⟩ := hQ72
        have N72 := Fr.app N71 N72q
        show Go _ _ _ (T72.setTop (mkF m 114 #[.val (.int p1), .val (.int p2), .val (.int p3), .val (.int p4), .val (.int p5), .val (.int (-1)), .val (.int p4), .val (.ref b56), .val (.int 0)] [(.int (f5 p4 p4))])) _
        rw [show (f5 p4 p4) = (0 : Int32) from by unfold f5; simp only [if_neg hc60, if_true, if_false]]
        show Go _ _ _ (T72.setTop (mkF m 114 #[.val (.int p1), .val (.int p2), .val (.int p3), .val (.int p4), .val (.int p5), .val (.int (-1)), .val (.int p4), .val (.ref b56), .val (.int 0)] [(.int 0)])) _
        refine Go.st (fun t k => XS.iloadN X72.here hx rfl (hb hby at_114) rfl k) ?_
        refine Go.st (fun t k => XS.iconst X72.here hx rfl (hb hby at_115) k) ?_
        refine Go.st (fun t k => XS.icmpYes X72.here hx rfl (pc0 := 116) (pc' := 129) rfl (hb hby at_116) rfl (feq hc60).2 (by decide) (by decide) k) ?_
        show Go _ _ _ (T72.setTop (mkF m 129 #[.val (.int p1), .val (.int p2), .val (.int p3), .val (.int p4), .val (.int p5), .val (.int (-1)), .val (.int p4), .val (.ref b56), .val (.int 0)] [(.int 0)])) _
        refine Go.st (fun t k => XS.iconst X72.here hx rfl (hb hby at_129) k) ?_
        refine Go.st (fun t k => XS.icmpYes X72.here hx rfl (pc0 := 130) (pc' := 135) rfl (hb hby at_130) rfl (teq (by decide : (0 : Int32) = (0 : Int32))).1 (by decide) (by decide) k) ?_
        show Go _ _ _ (T72.setTop (mkF m 135 #[.val (.int p1), .val (.int p2), .val (.int p3), .val (.int p4), .val (.int p5), .val (.int (-1)), .val (.int p4), .val (.ref b56), .val (.int 0)] [])) _
        refine Go.st (fun t k => XS.aload X72.here hx rfl (hb hby at_135) rfl rfl k) ?_
        refine Go.st (fun t k => XS.iloadN X72.here hx rfl (hb hby at_137) rfl k) ?_
        obtain ⟨cq73, kq73, q73a, q73b, q73c⟩ := isOf hZ e72 E_b56
        obtain ⟨_, _, ⟨T73, L73, k73, n73⟩, -, X73, ⟨Lc73, hQ73, l73, y73, z73⟩, st73⟩ := X72.virtualBack hx (y := (⟨"com/example/lectern/lectern/catalog/Franklin$Member", "takenFromRight", "(I)Lcom/example/lectern/lectern/catalog/Franklin$Member;"⟩ : MethodName)) (z := (⟨"com/example/lectern/lectern/catalog/Franklin$Member", "takenFromRight", "(I)Lcom/example/lectern/lectern/catalog/Franklin$Member;"⟩ : MethodName)) hown (mvT hZ (wd46 hw)) (mvT hZ (wd47 hw)) (notFace_of_selects (args := #[]) (mvT hZ (wd49 hw))) (mvT hZ (wd49 hw)) (mvT hZ (wd48 hw)) (by decide) (backOf (W := 0) (rm8 l Z a0 hw [] b56 p3 (f1 p1 w_NORMAL w_INITIATOR w_PASSIVE w_LEADER) p2 (-1 : Int32) h71 n0 Z0 F_b56_phase F_b56_leader F_b56_fromLeft) hZ (wd50 hw) (wd2 hw) (by decide) (by decide)) q73a q73c (g := (mkF m 138 #[.val (.int p1), .val (.int p2), .val (.int p3), .val (.int p4), .val (.int p5), .val (.int (-1)), .val (.int p4), .val (.ref b56), .val (.int 0)] [(.int p3), (.ref b56)])) rfl (by rw [hml]; rfl) (Steps.refl _) (argsL := [(.int p3)]) (rest := []) (lenOf pd5 rfl) rfl (by show 2 * 0 + _ ≤ _; exact Nat.le_of_eq rfl) (hb hby at_138) (fun _ _ => ⟨rfl, e72, (by decide : 3 + 1 ≤ _), (by decide : 12 + 4 ≤ _)⟩)
        dsimp only [Pt.U, Pt.locs, Pt.cells, Pt.slots] at X73 l73 y73 z73 st73 hQ73
        subst l73 y73 z73
        obtain ⟨h73, e73⟩ : ∃ z, T73.heap = z := ⟨_, rfl⟩
        rw [e73] at hQ73
        obtain ⟨x8_0_73, rfl, N73q, K73, ng_x8_0_73, sz0_x8_0_73, Q73_0, Q73_1, Q73_2, Q73_3, Q73_4⟩ := hQ73
        refine Go.tr st73 ?_
        have ne_w_NORMAL_x8_0_73 : w_NORMAL ≠ x8_0_73 := Nat.ne_of_lt (Nat.lt_of_lt_of_le E_w_NORMAL.lt sz0_x8_0_73)
        have ne_w_INITIATOR_x8_0_73 : w_INITIATOR ≠ x8_0_73 := Nat.ne_of_lt (Nat.lt_of_lt_of_le E_w_INITIATOR.lt sz0_x8_0_73)
        have ne_w_PASSIVE_x8_0_73 : w_PASSIVE ≠ x8_0_73 := Nat.ne_of_lt (Nat.lt_of_lt_of_le E_w_PASSIVE.lt sz0_x8_0_73)
        have ne_w_LEADER_x8_0_73 : w_LEADER ≠ x8_0_73 := Nat.ne_of_lt (Nat.lt_of_lt_of_le E_w_LEADER.lt sz0_x8_0_73)
        have ne_b56_x8_0_73 : b56 ≠ x8_0_73 := Nat.ne_of_lt (Nat.lt_of_lt_of_le E_b56.lt sz0_x8_0_73)
        have ne__f1_p1_w_NORMAL_w_INITIATOR_w_PASSIVE_w_LEADER__x8_0_73 : (f1 p1 w_NORMAL w_INITIATOR w_PASSIVE w_LEADER) ≠ x8_0_73 := Nat.ne_of_lt (Nat.lt_of_lt_of_le E57_r.lt sz0_x8_0_73)
        have ne_x6_0_69_x8_0_73 : x6_0_69 ≠ x8_0_73 := Nat.ne_of_lt (Nat.lt_of_lt_of_le E_x6_0_69.lt sz0_x8_0_73)
        have ne_x7_0_71_x8_0_73 : x7_0_71 ≠ x8_0_73 := Nat.ne_of_lt (Nat.lt_of_lt_of_le E_x7_0_71.lt sz0_x8_0_73)
        have g_x8_0_73 : n0 ≤ x8_0_73 := ng_x8_0_73
        have sz_x8_0_73 : h0.size ≤ x8_0_73 := Nat.le_trans K0.1 sz0_x8_0_73
        replace S_NORMAL := sta_keep S_NORMAL K73 all0
        replace E_w_NORMAL := E_w_NORMAL.keep K73
        replace S_INITIATOR := sta_keep S_INITIATOR K73 all0
        replace E_w_INITIATOR := E_w_INITIATOR.keep K73
        replace S_PASSIVE := sta_keep S_PASSIVE K73 all0
        replace E_w_PASSIVE := E_w_PASSIVE.keep K73
        replace S_LEADER := sta_keep S_LEADER K73 all0
        replace E_w_LEADER := E_w_LEADER.keep K73
        replace E_b56 := E_b56.keep K73
        replace E57_r := E57_r.keep K73
        replace F_b56_phase := F_b56_phase.keep K73 nin0
        replace F_b56_leader := F_b56_leader.keep K73 nin0
        replace F_b56_fromLeft := F_b56_fromLeft.keep K73 nin0
        replace F_b56_fromRight := F_b56_fromRight.keep K73 nin0
        replace E_x6_0_69 := E_x6_0_69.keep K73
        replace F_x6_0_69_phase := F_x6_0_69_phase.keep K73 nin0
        replace F_x6_0_69_leader := F_x6_0_69_leader.keep K73 nin0
        replace F_x6_0_69_fromLeft := F_x6_0_69_fromLeft.keep K73 nin0
        replace F_x6_0_69_fromRight := F_x6_0_69_fromRight.keep K73 nin0
        replace E_x7_0_71 := E_x7_0_71.keep K73
        replace F_x7_0_71_phase := F_x7_0_71_phase.keep K73 nin0
        replace F_x7_0_71_leader := F_x7_0_71_leader.keep K73 nin0
        replace F_x7_0_71_fromLeft := F_x7_0_71_fromLeft.keep K73 nin0
        replace F_x7_0_71_fromRight := F_x7_0_71_fromRight.keep K73 nin0
        replace Z0 := Nat.le_trans Z0 K73.1
        replace K0 := K0.trans K73 all0
        have E_x8_0_73 := Q73_0
        have F_x8_0_73_phase := Q73_1
        have F_x8_0_73_leader := Q73_2
        have F_x8_0_73_fromLeft := Q73_3
        have F_x8_0_73_fromRight := Q73_4
        have N73 := Fr.app N72 N73q
        show Go _ _ _ (T73.setTop (mkF m 141 #[.val (.int p1), .val (.int p2), .val (.int p3), .val (.int p4), .val (.int p5), .val (.int (-1)), .val (.int p4), .val (.ref b56), .val (.int 0)] [(.ref x8_0_73)])) _
        obtain ⟨cq74, kq74, q74a, q74b, q74c⟩ := isOf hZ e73 E_x8_0_73
        obtain ⟨_, _, ⟨T74, L74, k74, n74⟩, -, X74, ⟨Lc74, hQ74, l74, y74, z74⟩, st74⟩ := X73.virtualBack hx (y := (⟨"com/example/lectern/lectern/catalog/Franklin$Member", "slotsEmpty", "()Z"⟩ : MethodName)) (z := (⟨"com/example/lectern/lectern/catalog/Franklin$Member", "slotsEmpty", "()Z"⟩ : MethodName)) hown (mvT hZ (wd29 hw)) (mvT hZ (wd30 hw)) (notFace_of_selects (args := #[]) (mvT hZ (wd32 hw))) (mvT hZ (wd32 hw)) (mvT hZ (wd31 hw)) (by decide) (backOf (W := 0) (rm5 l Z a0 hw [] x8_0_73 (-1 : Int32) p3 h73 n0 Z0 F_x8_0_73_fromLeft F_x8_0_73_fromRight) hZ (wd33 hw) (wd2 hw) (by decide) (by decide)) q74a q74c (g := (mkF m 141 #[.val (.int p1), .val (.int p2), .val (.int p3), .val (.int p4), .val (.int p5), .val (.int (-1)), .val (.int p4), .val (.ref b56), .val (.int 0)] [(.ref x8_0_73)])) rfl (by rw [hml]; rfl) (Steps.refl _) (argsL := []) (rest := []) (lenOf pd3 rfl) rfl (by show 2 * 0 + _ ≤ _; exact Nat.le_of_eq rfl) (hb hby at_141) (fun _ _ => ⟨rfl, e73, (by decide : 4 + 0 ≤ _), (by decide : 16 + 0 ≤ _)⟩)
        dsimp only [Pt.U, Pt.locs, Pt.cells, Pt.slots] at X74 l74 y74 z74 st74 hQ74
        subst l74 y74 z74
        refine Go.tr st74 ?_
        obtain ⟨rfl, N74q, e74⟩ := hQ74
        have N74 := Fr.app N73 N74q
        show Go _ _ _ (T74.setTop (mkF m 144 #[.val (.int p1), .val (.int p2), .val (.int p3), .val (.int p4), .val (.int p5), .val (.int (-1)), .val (.int p4), .val (.ref b56), .val (.int 0)] [(.int (f5 (-1 : Int32) p3))])) _
        by_cases hc75 : p3 = (-1 : Int32)
        · rw [show (f5 (-1 : Int32) p3) = (1 : Int32) from by unfold f5; simp only [if_pos (by decide : (-1 : Int32) = (-1 : Int32)), if_pos hc75, if_true, if_false]]
          show Go _ _ _ (T74.setTop (mkF m 144 #[.val (.int p1), .val (.int p2), .val (.int p3), .val (.int p4), .val (.int p5), .val (.int (-1)), .val (.int p4), .val (.ref b56), .val (.int 0)] [(.int 1)])) _
          refine Go.st (fun t k => XS.iload X74.here hx rfl (hb hby at_144) rfl k) ?_
          refine Go.st (fun t k => XS.iconst X74.here hx rfl (hb hby at_146) k) ?_
          refine Go.st (fun t k => XS.icmpNo X74.here hx rfl (hb hby at_147) rfl (teq (by decide : (-1 : Int32) = (-1 : Int32))).2 k) ?_
          show Go _ _ _ (T74.setTop (mkF m 150 #[.val (.int p1), .val (.int p2), .val (.int p3), .val (.int p4), .val (.int p5), .val (.int (-1)), .val (.int p4), .val (.ref b56), .val (.int 0)] [(.int 1)])) _
          refine Go.st (fun t k => XS.iloadN X74.here hx rfl (hb hby at_150) rfl k) ?_
          refine Go.st (fun t k => XS.iconst X74.here hx rfl (hb hby at_151) k) ?_
          refine Go.st (fun t k => XS.icmpNo X74.here hx rfl (hb hby at_152) rfl (teq hc75).2 k) ?_
          show Go _ _ _ (T74.setTop (mkF m 155 #[.val (.int p1), .val (.int p2), .val (.int p3), .val (.int p4), .val (.int p5), .val (.int (-1)), .val (.int p4), .val (.ref b56), .val (.int 0)] [(.int 1)])) _
          refine Go.st (fun t k => XS.iconst X74.here hx rfl (hb hby at_155) k) ?_
          refine Go.st (fun t k => XS.goto X74.here hx rfl (pc0 := 156) (pc' := 160) rfl (hb hby at_156) (by decide) (by decide) k) ?_
          refine Go.st (fun t k => XS.icmpYes X74.here hx rfl (pc0 := 160) (pc' := 165) rfl (hb hby at_160) rfl (teq (by decide : (1 : Int32) = (1 : Int32))).1 (by decide) (by decide) k) ?_
          show Go _ _ _ (T74.setTop (mkF m 165 #[.val (.int p1), .val (.int p2), .val (.int p3), .val (.int p4), .val (.int p5), .val (.int (-1)), .val (.int p4), .val (.ref b56), .val (.int 0)] [])) _
          refine Go.st (fun t k => XS.iconst X74.here hx rfl (hb hby at_165) k) ?_
          obtain ⟨fs, hr, hrun, hended, hW, hsame⟩ := X74.leave (v := some (.int (1 : Int32))) (fun h => by rw [Bd.returns] at h; cases h)
          refine Go.fin (retN X74 hx (t := .boolean) Bd.returns (by simp) (hb hby at_166) hr) hrun hended ⟨_, _, rfl, ?_, ⟨_, rfl⟩, hW, hsame.mono (by decide) (by decide)⟩
          show Q0 Z p1 p2 p3 p4 p5 w_NORMAL w_INITIATOR w_PASSIVE w_LEADER h0 n0 _ T74.heap _
          rw [e74]
          exact ⟨rfl, N74⟩
        · rw [show (f5 (-1 : Int32) p3) = (0 : Int32) from by unfold f5; simp only [if_pos (by decide : (-1 : Int32) = (-1 : Int32)), if_neg hc75, if_true, if_false]]
          show Go _ _ _ (T74.setTop (mkF m 144 #[.val (.int p1), .val (.int p2), .val (.int p3), .val (.int p4), .val (.int p5), .val (.int (-1)), .val (.int p4), .val (.ref b56), .val (.int 0)] [(.int 0)])) _
          refine Go.st (fun t k => XS.iload X74.here hx rfl (hb hby at_144) rfl k) ?_
          refine Go.st (fun t k => XS.iconst X74.here hx rfl (hb hby at_146) k) ?_
          refine Go.st (fun t k => XS.icmpNo X74.here hx rfl (hb hby at_147) rfl (teq (by decide : (-1 : Int32) = (-1 : Int32))).2 k) ?_
          show Go _ _ _ (T74.setTop (mkF m 150 #[.val (.int p1), .val (.int p2), .val (.int p3), .val (.int p4), .val (.int p5), .val (.int (-1)), .val (.int p4), .val (.ref b56), .val (.int 0)] [(.int 0)])) _
          refine Go.st (fun t k => XS.iloadN X74.here hx rfl (hb hby at_150) rfl k) ?_
          refine Go.st (fun t k => XS.iconst X74.here hx rfl (hb hby at_151) k) ?_
          refine Go.st (fun t k => XS.icmpYes X74.here hx rfl (pc0 := 152) (pc' := 159) rfl (hb hby at_152) rfl (feq hc75).2 (by decide) (by decide) k) ?_
          show Go _ _ _ (T74.setTop (mkF m 159 #[.val (.int p1), .val (.int p2), .val (.int p3), .val (.int p4), .val (.int p5), .val (.int (-1)), .val (.int p4), .val (.ref b56), .val (.int 0)] [(.int 0)])) _
          refine Go.st (fun t k => XS.iconst X74.here hx rfl (hb hby at_159) k) ?_
          refine Go.st (fun t k => XS.icmpYes X74.here hx rfl (pc0 := 160) (pc' := 165) rfl (hb hby at_160) rfl (teq (by decide : (0 : Int32) = (0 : Int32))).1 (by decide) (by decide) k) ?_
          show Go _ _ _ (T74.setTop (mkF m 165 #[.val (.int p1), .val (.int p2), .val (.int p3), .val (.int p4), .val (.int p5), .val (.int (-1)), .val (.int p4), .val (.ref b56), .val (.int 0)] [])) _
          refine Go.st (fun t k => XS.iconst X74.here hx rfl (hb hby at_165) k) ?_
          obtain ⟨fs, hr, hrun, hended, hW, hsame⟩ := X74.leave (v := some (.int (1 : Int32))) (fun h => by rw [Bd.returns] at h; cases h)
          refine Go.fin (retN X74 hx (t := .boolean) Bd.returns (by simp) (hb hby at_166) hr) hrun hended ⟨_, _, rfl, ?_, ⟨_, rfl⟩, hW, hsame.mono (by decide) (by decide)⟩
          show Q0 Z p1 p2 p3 p4 p5 w_NORMAL w_INITIATOR w_PASSIVE w_LEADER h0 n0 _ T74.heap _
          rw [e74]
          exact ⟨rfl, N74⟩
    · refine Go.st (fun t k => XS.ifNo X0.here hx rfl (hb hby at_18) rfl ((if0 _ _).trans (feq hc55).1) k) ?_
      show Go _ _ _ (s₁.setTop (mkF m 21 #[.val (.int p1), .val (.int p2), .val (.int p3), .val (.int p4), .val (.int p5), .val (.int (-1)), .unset, .unset, .unset] [])) _
      refine Go.st (fun t k => XS.iconst X0.here hx rfl (hb hby at_21) k) ?_
      refine Go.st (fun t k => XS.goto X0.here hx rfl (pc0 := 22) (pc' := 26) rfl (hb hby at_22) (by decide) (by decide) k) ?_
      refine Go.st (fun t k => XS.istore X0.here hx rfl (hb hby at_26) rfl (l' := #[.val (.int p1), .val (.int p2), .val (.int p3), .val (.int p4), .val (.int p5), .val (.int (-1)), .val (.int (-1)), .unset, .unset]) rfl k) ?_
      obtain ⟨T76, h76, X76, e76, E76, A76, D76, -, st76⟩ := newO X0 hx hZ hown (wd0 hw) (wd1 hw) (wd2 hw) e0 (g := (mkF m 28 #[.val (.int p1), .val (.int p2), .val (.int p3), .val (.int p4), .val (.int p5), .val (.int (-1)), .val (.int (-1)), .unset, .unset] [])) rfl (hb hby at_28) (by decide) (by decide)
      obtain ⟨b76, g76⟩ : ∃ z, z = h0.size := ⟨_, rfl⟩
      rw [← g76] at A76 D76 st76
      refine Go.st st76 ?_
      have ne_w_NORMAL_b76 : w_NORMAL ≠ b76 := Nat.ne_of_lt (Nat.lt_of_lt_of_le E_w_NORMAL.lt (Nat.le_of_eq g76.symm))
      have ne_w_INITIATOR_b76 : w_INITIATOR ≠ b76 := Nat.ne_of_lt (Nat.lt_of_lt_of_le E_w_INITIATOR.lt (Nat.le_of_eq g76.symm))
      have ne_w_PASSIVE_b76 : w_PASSIVE ≠ b76 := Nat.ne_of_lt (Nat.lt_of_lt_of_le E_w_PASSIVE.lt (Nat.le_of_eq g76.symm))
      have ne_w_LEADER_b76 : w_LEADER ≠ b76 := Nat.ne_of_lt (Nat.lt_of_lt_of_le E_w_LEADER.lt (Nat.le_of_eq g76.symm))
      have g_b76 : n0 ≤ b76 := Nat.le_trans Z0 (Nat.le_of_eq g76.symm)
      have sz_b76 : h0.size ≤ b76 := Nat.le_trans K0.1 (Nat.le_of_eq g76.symm)
      replace S_NORMAL := S_NORMAL.ext E76
      replace E_w_NORMAL := E_w_NORMAL.ext E76
      replace S_INITIATOR := S_INITIATOR.ext E76
      replace E_w_INITIATOR := E_w_INITIATOR.ext E76
      replace S_PASSIVE := S_PASSIVE.ext E76
      replace E_w_PASSIVE := E_w_PASSIVE.ext E76
      replace S_LEADER := S_LEADER.ext E76
      replace E_w_LEADER := E_w_LEADER.ext E76
      replace K0 := K0.ext E76
      replace Z0 := Nat.le_trans Z0 E76.1
      have E_b76 := A76
      have F_b76_phase : Fld Z h76 b76 "com/example/lectern/lectern/catalog/Franklin$Member" "phase" "Lcom/example/lectern/lectern/catalog/Franklin$Phase;" .null := D76 (Or.inr (wd22 hw)) (ty := (.object "com/example/lectern/lectern/catalog/Franklin$Phase")) (by decide)
      have F_b76_leader : Fld Z h76 b76 "com/example/lectern/lectern/catalog/Franklin$Member" "leader" "I" (.int (0 : Int32)) := D76 (Or.inr (wd24 hw)) (ty := .int) (by decide)
      have F_b76_fromLeft : Fld Z h76 b76 "com/example/lectern/lectern/catalog/Franklin$Member" "fromLeft" "I" (.int (0 : Int32)) := D76 (Or.inr (wd26 hw)) (ty := .int) (by decide)
      have F_b76_fromRight : Fld Z h76 b76 "com/example/lectern/lectern/catalog/Franklin$Member" "fromRight" "I" (.int (0 : Int32)) := D76 (Or.inr (wd28 hw)) (ty := .int) (by decide)
      show Go _ _ _ (T76.setTop (mkF m 31 #[.val (.int p1), .val (.int p2), .val (.int p3), .val (.int p4), .val (.int p5), .val (.int (-1)), .val (.int (-1)), .unset, .unset] [(.ref b76)])) _
      refine Go.st (fun t k => XS.dup X76.here hx rfl (hb hby at_31) rfl rfl k) ?_
      refine Go.st (fun t k => XS.iloadN X76.here hx rfl (hb hby at_32) rfl k) ?_
      obtain ⟨_, _, ⟨T77, L77, k77, n77⟩, -, X77, ⟨Lc77, hQ77, l77, y77, z77⟩, st77⟩ := Jvm.LawKit.callS X76 hx (y := (⟨"com/example/lectern/lectern/catalog/MemberSlotsEmptyPinLaw", "phase", "(I)Lcom/example/lectern/lectern/catalog/Franklin$Phase;"⟩ : MethodName)) hown (mvT hZ (wd3 hw)) (mvT hZ (wd4 hw)) (mvT hZ (wd5 hw)) (mvT hZ (wd6 hw)) (by decide) (backOf (W := 2) (rm1 l Z a0 hw [] p1 w_NORMAL w_INITIATOR w_PASSIVE w_LEADER h76 n0 Z0 S_NORMAL E_w_NORMAL S_INITIATOR E_w_INITIATOR S_PASSIVE E_w_PASSIVE S_LEADER E_w_LEADER) hZ (wd6 hw) (wd5 hw) (by decide) (by decide)) (g := (mkF m 33 #[.val (.int p1), .val (.int p2), .val (.int p3), .val (.int p4), .val (.int p5), .val (.int (-1)), .val (.int (-1)), .unset, .unset] [(.int p1), (.ref b76), (.ref b76)])) rfl (by rw [hml]; rfl) (argsL := [(.int p1)]) (rest := [(.ref b76), (.ref b76)]) (lenOf pd2 rfl) rfl (by show 2 * 0 + _ ≤ _; exact Nat.le_of_eq rfl) (hb hby at_33) (fun _ _ => ⟨rfl, e76, (by decide : 1 + 0 ≤ _), (by decide : 4 + 0 ≤ _)⟩)
      dsimp only [Pt.U, Pt.locs, Pt.cells, Pt.slots] at X77 l77 y77 z77 st77 hQ77
      subst l77 y77 z77
      refine Go.st st77 ?_
      obtain ⟨rfl, N77q, e77, E77_r⟩ := hQ77
      have N77 := Fr.app N0 N77q
      rw [e77] at E77_r
      show Go _ _ _ (T77.setTop (mkF m 36 #[.val (.int p1), .val (.int p2), .val (.int p3), .val (.int p4), .val (.int p5), .val (.int (-1)), .val (.int (-1)), .unset, .unset] [(.ref (f1 p1 w_NORMAL w_INITIATOR w_PASSIVE w_LEADER)), (.ref b76), (.ref b76)])) _
      refine Go.st (fun t k => XS.iloadN X77.here hx rfl (hb hby at_36) rfl k) ?_
      refine Go.st (fun t k => XS.iload X77.here hx rfl (hb hby at_37) rfl k) ?_
      refine Go.st (fun t k => XS.iload X77.here hx rfl (hb hby at_39) rfl k) ?_
      obtain ⟨_, _, ⟨T78, L78, k78, n78⟩, -, X78, ⟨Lc78, hQ78, l78, y78, z78⟩, st78⟩ := X77.specialBack hx (y := (⟨"com/example/lectern/lectern/catalog/Franklin$Member", "<init>", "(Lcom/example/lectern/lectern/catalog/Franklin$Phase;III)V"⟩ : MethodName)) rfl hown (mvT hZ (wd10 hw)) (mvT hZ (wd11 hw)) (mvT hZ (wd12 hw)) (by decide) (backOf (W := 1) (rm2 l Z a0 hw [] b76 (f1 p1 w_NORMAL w_INITIATOR w_PASSIVE w_LEADER) p2 (-1 : Int32) (-1 : Int32) (.null : Value) ((.int (0 : Int32)) : Value) ((.int (0 : Int32)) : Value) ((.int (0 : Int32)) : Value) h76 n0 Z0 E_b76 F_b76_phase F_b76_leader F_b76_fromLeft F_b76_fromRight g_b76) hZ (wd12 hw) (wd2 hw) (by decide) (by decide)) (g := (mkF m 41 #[.val (.int p1), .val (.int p2), .val (.int p3), .val (.int p4), .val (.int p5), .val (.int (-1)), .val (.int (-1)), .unset, .unset] [(.int (-1)), (.int (-1)), (.int p2), (.ref (f1 p1 w_NORMAL w_INITIATOR w_PASSIVE w_LEADER)), (.ref b76), (.ref b76)])) rfl (by rw [hml]; rfl) (Steps.refl _) (a := b76) (argsL := [(.ref (f1 p1 w_NORMAL w_INITIATOR w_PASSIVE w_LEADER)), (.int p2), (.int (-1 : Int32)), (.int (-1 : Int32))]) (rest := [(.ref b76)]) (lenOf pd1 rfl) rfl (by show 2 * 0 + _ ≤ _; exact Nat.le_of_eq rfl) (hb hby at_41) (fun _ _ => ⟨rfl, e77, (by decide : 1 + 0 ≤ _), (by decide : 4 + 0 ≤ _)⟩)
      dsimp only [Pt.U, Pt.locs, Pt.cells, Pt.slots] at X78 l78 y78 z78 st78 hQ78
      subst l78 y78 z78
      refine Go.tr st78 ?_
      have E_b76_pre := E_b76
      have F_b76_phase_pre := F_b76_phase
      have F_b76_leader_pre := F_b76_leader
      have F_b76_fromLeft_pre := F_b76_fromLeft
      have F_b76_fromRight_pre := F_b76_fromRight
      obtain ⟨h78, e78⟩ : ∃ z, T78.heap = z := ⟨_, rfl⟩
      rw [e78] at hQ78
      obtain ⟨rfl, N78q, K78, Q78_0, Q78_1, Q78_2, Q78_3, Q78_4⟩ := hQ78
      replace S_NORMAL := sta_keep S_NORMAL K78 (allS (exa_ns E_b76_pre) all0)
      replace E_w_NORMAL := E_w_NORMAL.keep K78
      replace S_INITIATOR := sta_keep S_INITIATOR K78 (allS (exa_ns E_b76_pre) all0)
      replace E_w_INITIATOR := E_w_INITIATOR.keep K78
      replace S_PASSIVE := sta_keep S_PASSIVE K78 (allS (exa_ns E_b76_pre) all0)
      replace E_w_PASSIVE := E_w_PASSIVE.keep K78
      replace S_LEADER := sta_keep S_LEADER K78 (allS (exa_ns E_b76_pre) all0)
      replace E_w_LEADER := E_w_LEADER.keep K78
      replace E_b76 := E_b76.keep K78
      replace E77_r := E77_r.keep K78
      replace Z0 := Nat.le_trans Z0 K78.1
      replace K0 := K0.trans K78 (allS (Or.inr sz_b76) all0)
      have E_b76 := Q78_0
      have F_b76_phase := Q78_1
      have F_b76_leader := Q78_2
      have F_b76_fromLeft := Q78_3
      have F_b76_fromRight := Q78_4
      have N78 := Fr.app N77 N78q
      show Go _ _ _ (T78.setTop (mkF m 44 #[.val (.int p1), .val (.int p2), .val (.int p3), .val (.int p4), .val (.int p5), .val (.int (-1)), .val (.int (-1)), .unset, .unset] [(.ref b76)])) _
      refine Go.st (fun t k => XS.astore X78.here hx rfl (hb hby at_44) rfl rfl (l' := #[.val (.int p1), .val (.int p2), .val (.int p3), .val (.int p4), .val (.int p5), .val (.int (-1)), .val (.int (-1)), .val (.ref b76), .unset]) rfl k) ?_
      refine Go.st (fun t k => XS.aload X78.here hx rfl (hb hby at_46) rfl rfl k) ?_
      obtain ⟨cq79, kq79, q79a, q79b, q79c⟩ := isOf hZ e78 E_b76
      obtain ⟨_, _, ⟨T79, L79, k79, n79⟩, -, X79, ⟨Lc79, hQ79, l79, y79, z79⟩, st79⟩ := X78.virtualBack hx (y := (⟨"com/example/lectern/lectern/catalog/Franklin$Member", "slotsEmpty", "()Z"⟩ : MethodName)) (z := (⟨"com/example/lectern/lectern/catalog/Franklin$Member", "slotsEmpty", "()Z"⟩ : MethodName)) hown (mvT hZ (wd29 hw)) (mvT hZ (wd30 hw)) (notFace_of_selects (args := #[]) (mvT hZ (wd32 hw))) (mvT hZ (wd32 hw)) (mvT hZ (wd31 hw)) (by decide) (backOf (W := 0) (rm5 l Z a0 hw [] b76 (-1 : Int32) (-1 : Int32) h78 n0 Z0 F_b76_fromLeft F_b76_fromRight) hZ (wd33 hw) (wd2 hw) (by decide) (by decide)) q79a q79c (g := (mkF m 48 #[.val (.int p1), .val (.int p2), .val (.int p3), .val (.int p4), .val (.int p5), .val (.int (-1)), .val (.int (-1)), .val (.ref b76), .unset] [(.ref b76)])) rfl (by rw [hml]; rfl) (Steps.refl _) (argsL := []) (rest := []) (lenOf pd3 rfl) rfl (by show 2 * 0 + _ ≤ _; exact Nat.le_of_eq rfl) (hb hby at_48) (fun _ _ => ⟨rfl, e78, (by decide : 1 + 0 ≤ _), (by decide : 4 + 0 ≤ _)⟩)
      dsimp only [Pt.U, Pt.locs, Pt.cells, Pt.slots] at X79 l79 y79 z79 st79 hQ79
      subst l79 y79 z79
      refine Go.tr st79 ?_
      obtain ⟨rfl, N79q, e79⟩ := hQ79
      have N79 := Fr.app N78 N79q
      show Go _ _ _ (T79.setTop (mkF m 51 #[.val (.int p1), .val (.int p2), .val (.int p3), .val (.int p4), .val (.int p5), .val (.int (-1)), .val (.int (-1)), .val (.ref b76), .unset] [(.int (f5 (-1 : Int32) (-1 : Int32)))])) _
      rw [show (f5 (-1 : Int32) (-1 : Int32)) = (1 : Int32) from by unfold f5; simp only [if_pos (by decide : (-1 : Int32) = (-1 : Int32)), if_pos (by decide : (-1 : Int32) = (-1 : Int32)), if_true, if_false]]
      show Go _ _ _ (T79.setTop (mkF m 51 #[.val (.int p1), .val (.int p2), .val (.int p3), .val (.int p4), .val (.int p5), .val (.int (-1)), .val (.int (-1)), .val (.ref b76), .unset] [(.int 1)])) _
      refine Go.st (fun t k => XS.istore X79.here hx rfl (hb hby at_51) rfl (l' := #[.val (.int p1), .val (.int p2), .val (.int p3), .val (.int p4), .val (.int p5), .val (.int (-1)), .val (.int (-1)), .val (.ref b76), .val (.int 1)]) rfl k) ?_
      refine Go.st (fun t k => XS.iload X79.here hx rfl (hb hby at_53) rfl k) ?_
      refine Go.st (fun t k => XS.iload X79.here hx rfl (hb hby at_55) rfl k) ?_
      refine Go.st (fun t k => XS.iconst X79.here hx rfl (hb hby at_57) k) ?_
      refine Go.st (fun t k => XS.icmpNo X79.here hx rfl (hb hby at_58) rfl (teq (by decide : (-1 : Int32) = (-1 : Int32))).2 k) ?_
      show Go _ _ _ (T79.setTop (mkF m 61 #[.val (.int p1), .val (.int p2), .val (.int p3), .val (.int p4), .val (.int p5), .val (.int (-1)), .val (.int (-1)), .val (.ref b76), .val (.int 1)] [(.int 1)])) _
      refine Go.st (fun t k => XS.iload X79.here hx rfl (hb hby at_61) rfl k) ?_
      refine Go.st (fun t k => XS.iconst X79.here hx rfl (hb hby at_63) k) ?_
      refine Go.st (fun t k => XS.icmpNo X79.here hx rfl (hb hby at_64) rfl (teq (by decide : (-1 : Int32) = (-1 : Int32))).2 k) ?_
      show Go _ _ _ (T79.setTop (mkF m 67 #[.val (.int p1), .val (.int p2), .val (.int p3), .val (.int p4), .val (.int p5), .val (.int (-1)), .val (.int (-1)), .val (.ref b76), .val (.int 1)] [(.int 1)])) _
      refine Go.st (fun t k => XS.iconst X79.here hx rfl (hb hby at_67) k) ?_
      refine Go.st (fun t k => XS.goto X79.here hx rfl (pc0 := 68) (pc' := 72) rfl (hb hby at_68) (by decide) (by decide) k) ?_
      refine Go.st (fun t k => XS.icmpYes X79.here hx rfl (pc0 := 72) (pc' := 77) rfl (hb hby at_72) rfl (teq (by decide : (1 : Int32) = (1 : Int32))).1 (by decide) (by decide) k) ?_
      show Go _ _ _ (T79.setTop (mkF m 77 #[.val (.int p1), .val (.int p2), .val (.int p3), .val (.int p4), .val (.int p5), .val (.int (-1)), .val (.int (-1)), .val (.ref b76), .val (.int 1)] [])) _
      refine Go.st (fun t k => XS.iload X79.here hx rfl (hb hby at_77) rfl k) ?_
      refine Go.st (fun t k => XS.ifNo X79.here hx rfl (hb hby at_79) rfl ((if0 _ _).trans (feq (by decide : ¬ ((1 : Int32) = (0 : Int32)))).1) k) ?_
      show Go _ _ _ (T79.setTop (mkF m 82 #[.val (.int p1), .val (.int p2), .val (.int p3), .val (.int p4), .val (.int p5), .val (.int (-1)), .val (.int (-1)), .val (.ref b76), .val (.int 1)] [])) _
      refine Go.st (fun t k => XS.aload X79.here hx rfl (hb hby at_82) rfl rfl k) ?_
      obtain ⟨cq80, kq80, q80a, q80b, q80c⟩ := isOf hZ e79 E_b76
      obtain ⟨_, _, ⟨T80, L80, k80, n80⟩, -, X80, ⟨Lc80, hQ80, l80, y80, z80⟩, st80⟩ := X79.virtualBack hx (y := (⟨"com/example/lectern/lectern/catalog/Franklin$Member", "slotsFull", "()Z"⟩ : MethodName)) (z := (⟨"com/example/lectern/lectern/catalog/Franklin$Member", "slotsFull", "()Z"⟩ : MethodName)) hown (mvT hZ (wd53 hw)) (mvT hZ (wd54 hw)) (notFace_of_selects (args := #[]) (mvT hZ (wd56 hw))) (mvT hZ (wd56 hw)) (mvT hZ (wd55 hw)) (by decide) (backOf (W := 0) (rm9 l Z a0 hw [] b76 (-1 : Int32) (-1 : Int32) h78 n0 Z0 F_b76_fromLeft F_b76_fromRight) hZ (wd57 hw) (wd2 hw) (by decide) (by decide)) q80a q80c (g := (mkF m 84 #[.val (.int p1), .val (.int p2), .val (.int p3), .val (.int p4), .val (.int p5), .val (.int (-1)), .val (.int (-1)), .val (.ref b76), .val (.int 1)] [(.ref b76)])) rfl (by rw [hml]; rfl) (Steps.refl _) (argsL := []) (rest := []) (lenOf pd3 rfl) rfl (by show 2 * 0 + _ ≤ _; exact Nat.le_of_eq rfl) (hb hby at_84) (fun _ _ => ⟨rfl, e79, (by decide : 1 + 0 ≤ _), (by decide : 4 + 0 ≤ _)⟩)
      dsimp only [Pt.U, Pt.locs, Pt.cells, Pt.slots] at X80 l80 y80 z80 st80 hQ80
      subst l80 y80 z80
      refine Go.tr st80 ?_
      obtain ⟨rfl, N80q, e80⟩ := hQ80
      have N80 := Fr.app N79 N80q
      show Go _ _ _ (T80.setTop (mkF m 87 #[.val (.int p1), .val (.int p2), .val (.int p3), .val (.int p4), .val (.int p5), .val (.int (-1)), .val (.int (-1)), .val (.ref b76), .val (.int 1)] [(.int (f9 (-1 : Int32) (-1 : Int32)))])) _
      rw [show (f9 (-1 : Int32) (-1 : Int32)) = (0 : Int32) from by unfold f9; simp only [if_pos (by decide : (-1 : Int32) = (-1 : Int32)), if_true, if_false]]
      show Go _ _ _ (T80.setTop (mkF m 87 #[.val (.int p1), .val (.int p2), .val (.int p3), .val (.int p4), .val (.int p5), .val (.int (-1)), .val (.int (-1)), .val (.ref b76), .val (.int 1)] [(.int 0)])) _
      refine Go.st (fun t k => XS.ifYes X80.here hx rfl (pc0 := 87) (pc' := 92) rfl (hb hby at_87) rfl ((if0 _ _).trans (teq (by decide : (0 : Int32) = (0 : Int32))).1) (by decide) (by decide) k) ?_
      show Go _ _ _ (T80.setTop (mkF m 92 #[.val (.int p1), .val (.int p2), .val (.int p3), .val (.int p4), .val (.int p5), .val (.int (-1)), .val (.int (-1)), .val (.ref b76), .val (.int 1)] [])) _
      refine Go.st (fun t k => XS.aload X80.here hx rfl (hb hby at_92) rfl rfl k) ?_
      obtain ⟨cq81, kq81, q81a, q81b, q81c⟩ := isOf hZ e80 E_b76
      obtain ⟨_, _, ⟨T81, L81, k81, n81⟩, -, X81, ⟨Lc81, hQ81, l81, y81, z81⟩, st81⟩ := X80.virtualBack hx (y := (⟨"com/example/lectern/lectern/catalog/Franklin$Member", "emptied", "()Lcom/example/lectern/lectern/catalog/Franklin$Member;"⟩ : MethodName)) (z := (⟨"com/example/lectern/lectern/catalog/Franklin$Member", "emptied", "()Lcom/example/lectern/lectern/catalog/Franklin$Member;"⟩ : MethodName)) hown (mvT hZ (wd34 hw)) (mvT hZ (wd35 hw)) (notFace_of_selects (args := #[]) (mvT hZ (wd37 hw))) (mvT hZ (wd37 hw)) (mvT hZ (wd36 hw)) (by decide) (backOf (W := 0) (rm6 l Z a0 hw [] b76 (f1 p1 w_NORMAL w_INITIATOR w_PASSIVE w_LEADER) p2 h78 n0 Z0 F_b76_phase F_b76_leader) hZ (wd38 hw) (wd2 hw) (by decide) (by decide)) q81a q81c (g := (mkF m 94 #[.val (.int p1), .val (.int p2), .val (.int p3), .val (.int p4), .val (.int p5), .val (.int (-1)), .val (.int (-1)), .val (.ref b76), .val (.int 1)] [(.ref b76)])) rfl (by rw [hml]; rfl) (Steps.refl _) (argsL := []) (rest := []) (lenOf pd4 rfl) rfl (by show 2 * 0 + _ ≤ _; exact Nat.le_of_eq rfl) (hb hby at_94) (fun _ _ => ⟨rfl, e80, (by decide : 1 + 1 ≤ _), (by decide : 4 + 4 ≤ _)⟩)
      dsimp only [Pt.U, Pt.locs, Pt.cells, Pt.slots] at X81 l81 y81 z81 st81 hQ81
      subst l81 y81 z81
      obtain ⟨h81, e81⟩ : ∃ z, T81.heap = z := ⟨_, rfl⟩
      rw [e81] at hQ81
      obtain ⟨x6_0_81, rfl, N81q, K81, ng_x6_0_81, sz0_x6_0_81, Q81_0, Q81_1, Q81_2, Q81_3, Q81_4⟩ := hQ81
      refine Go.tr st81 ?_
      have ne_w_NORMAL_x6_0_81 : w_NORMAL ≠ x6_0_81 := Nat.ne_of_lt (Nat.lt_of_lt_of_le E_w_NORMAL.lt sz0_x6_0_81)
      have ne_w_INITIATOR_x6_0_81 : w_INITIATOR ≠ x6_0_81 := Nat.ne_of_lt (Nat.lt_of_lt_of_le E_w_INITIATOR.lt sz0_x6_0_81)
      have ne_w_PASSIVE_x6_0_81 : w_PASSIVE ≠ x6_0_81 := Nat.ne_of_lt (Nat.lt_of_lt_of_le E_w_PASSIVE.lt sz0_x6_0_81)
      have ne_w_LEADER_x6_0_81 : w_LEADER ≠ x6_0_81 := Nat.ne_of_lt (Nat.lt_of_lt_of_le E_w_LEADER.lt sz0_x6_0_81)
      have ne_b76_x6_0_81 : b76 ≠ x6_0_81 := Nat.ne_of_lt (Nat.lt_of_lt_of_le E_b76.lt sz0_x6_0_81)
      have ne__f1_p1_w_NORMAL_w_INITIATOR_w_PASSIVE_w_LEADER__x6_0_81 : (f1 p1 w_NORMAL w_INITIATOR w_PASSIVE w_LEADER) ≠ x6_0_81 := Nat.ne_of_lt (Nat.lt_of_lt_of_le E77_r.lt sz0_x6_0_81)
      have g_x6_0_81 : n0 ≤ x6_0_81 := ng_x6_0_81
      have sz_x6_0_81 : h0.size ≤ x6_0_81 := Nat.le_trans K0.1 sz0_x6_0_81
      replace S_NORMAL := sta_keep S_NORMAL K81 all0
      replace E_w_NORMAL := E_w_NORMAL.keep K81
      replace S_INITIATOR := sta_keep S_INITIATOR K81 all0
      replace E_w_INITIATOR := E_w_INITIATOR.keep K81
      replace S_PASSIVE := sta_keep S_PASSIVE K81 all0
      replace E_w_PASSIVE := E_w_PASSIVE.keep K81
      replace S_LEADER := sta_keep S_LEADER K81 all0
      replace E_w_LEADER := E_w_LEADER.keep K81
      replace E_b76 := E_b76.keep K81
      replace E77_r := E77_r.keep K81
      replace F_b76_phase := F_b76_phase.keep K81 nin0
      replace F_b76_leader := F_b76_leader.keep K81 nin0
      replace F_b76_fromLeft := F_b76_fromLeft.keep K81 nin0
      replace F_b76_fromRight := F_b76_fromRight.keep K81 nin0
      replace Z0 := Nat.le_trans Z0 K81.1
      replace K0 := K0.trans K81 all0
      have E_x6_0_81 := Q81_0
      have F_x6_0_81_phase := Q81_1
      have F_x6_0_81_leader := Q81_2
      have F_x6_0_81_fromLeft := Q81_3
      have F_x6_0_81_fromRight := Q81_4
      have N81 := Fr.app N80 N81q
      show Go _ _ _ (T81.setTop (mkF m 97 #[.val (.int p1), .val (.int p2), .val (.int p3), .val (.int p4), .val (.int p5), .val (.int (-1)), .val (.int (-1)), .val (.ref b76), .val (.int 1)] [(.ref x6_0_81)])) _
      obtain ⟨cq82, kq82, q82a, q82b, q82c⟩ := isOf hZ e81 E_x6_0_81
      obtain ⟨_, _, ⟨T82, L82, k82, n82⟩, -, X82, ⟨Lc82, hQ82, l82, y82, z82⟩, st82⟩ := X81.virtualBack hx (y := (⟨"com/example/lectern/lectern/catalog/Franklin$Member", "slotsEmpty", "()Z"⟩ : MethodName)) (z := (⟨"com/example/lectern/lectern/catalog/Franklin$Member", "slotsEmpty", "()Z"⟩ : MethodName)) hown (mvT hZ (wd29 hw)) (mvT hZ (wd30 hw)) (notFace_of_selects (args := #[]) (mvT hZ (wd32 hw))) (mvT hZ (wd32 hw)) (mvT hZ (wd31 hw)) (by decide) (backOf (W := 0) (rm5 l Z a0 hw [] x6_0_81 (-1 : Int32) (-1 : Int32) h81 n0 Z0 F_x6_0_81_fromLeft F_x6_0_81_fromRight) hZ (wd33 hw) (wd2 hw) (by decide) (by decide)) q82a q82c (g := (mkF m 97 #[.val (.int p1), .val (.int p2), .val (.int p3), .val (.int p4), .val (.int p5), .val (.int (-1)), .val (.int (-1)), .val (.ref b76), .val (.int 1)] [(.ref x6_0_81)])) rfl (by rw [hml]; rfl) (Steps.refl _) (argsL := []) (rest := []) (lenOf pd3 rfl) rfl (by show 2 * 0 + _ ≤ _; exact Nat.le_of_eq rfl) (hb hby at_97) (fun _ _ => ⟨rfl, e81, (by decide : 2 + 0 ≤ _), (by decide : 8 + 0 ≤ _)⟩)
      dsimp only [Pt.U, Pt.locs, Pt.cells, Pt.slots] at X82 l82 y82 z82 st82 hQ82
      subst l82 y82 z82
      refine Go.tr st82 ?_
      obtain ⟨rfl, N82q, e82⟩ := hQ82
      have N82 := Fr.app N81 N82q
      show Go _ _ _ (T82.setTop (mkF m 100 #[.val (.int p1), .val (.int p2), .val (.int p3), .val (.int p4), .val (.int p5), .val (.int (-1)), .val (.int (-1)), .val (.ref b76), .val (.int 1)] [(.int (f5 (-1 : Int32) (-1 : Int32)))])) _
      rw [show (f5 (-1 : Int32) (-1 : Int32)) = (1 : Int32) from by unfold f5; simp only [if_pos (by decide : (-1 : Int32) = (-1 : Int32)), if_pos (by decide : (-1 : Int32) = (-1 : Int32)), if_true, if_false]]
      show Go _ _ _ (T82.setTop (mkF m 100 #[.val (.int p1), .val (.int p2), .val (.int p3), .val (.int p4), .val (.int p5), .val (.int (-1)), .val (.int (-1)), .val (.ref b76), .val (.int 1)] [(.int 1)])) _
      refine Go.st (fun t k => XS.ifYes X82.here hx rfl (pc0 := 100) (pc' := 105) rfl (hb hby at_100) rfl ((if0 _ _).trans (feq (by decide : ¬ ((1 : Int32) = (0 : Int32)))).2) (by decide) (by decide) k) ?_
      show Go _ _ _ (T82.setTop (mkF m 105 #[.val (.int p1), .val (.int p2), .val (.int p3), .val (.int p4), .val (.int p5), .val (.int (-1)), .val (.int (-1)), .val (.ref b76), .val (.int 1)] [])) _
      refine Go.st (fun t k => XS.aload X82.here hx rfl (hb hby at_105) rfl rfl k) ?_
      refine Go.st (fun t k => XS.iloadN X82.here hx rfl (hb hby at_107) rfl k) ?_
      obtain ⟨cq83, kq83, q83a, q83b, q83c⟩ := isOf hZ e82 E_b76
      obtain ⟨_, _, ⟨T83, L83, k83, n83⟩, -, X83, ⟨Lc83, hQ83, l83, y83, z83⟩, st83⟩ := X82.virtualBack hx (y := (⟨"com/example/lectern/lectern/catalog/Franklin$Member", "takenFromLeft", "(I)Lcom/example/lectern/lectern/catalog/Franklin$Member;"⟩ : MethodName)) (z := (⟨"com/example/lectern/lectern/catalog/Franklin$Member", "takenFromLeft", "(I)Lcom/example/lectern/lectern/catalog/Franklin$Member;"⟩ : MethodName)) hown (mvT hZ (wd41 hw)) (mvT hZ (wd42 hw)) (notFace_of_selects (args := #[]) (mvT hZ (wd44 hw))) (mvT hZ (wd44 hw)) (mvT hZ (wd43 hw)) (by decide) (backOf (W := 0) (rm7 l Z a0 hw [] b76 p4 (f1 p1 w_NORMAL w_INITIATOR w_PASSIVE w_LEADER) p2 (-1 : Int32) h81 n0 Z0 F_b76_phase F_b76_leader F_b76_fromRight) hZ (wd45 hw) (wd2 hw) (by decide) (by decide)) q83a q83c (g := (mkF m 108 #[.val (.int p1), .val (.int p2), .val (.int p3), .val (.int p4), .val (.int p5), .val (.int (-1)), .val (.int (-1)), .val (.ref b76), .val (.int 1)] [(.int p4), (.ref b76)])) rfl (by rw [hml]; rfl) (Steps.refl _) (argsL := [(.int p4)]) (rest := []) (lenOf pd5 rfl) rfl (by show 2 * 0 + _ ≤ _; exact Nat.le_of_eq rfl) (hb hby at_108) (fun _ _ => ⟨rfl, e82, (by decide : 2 + 1 ≤ _), (by decide : 8 + 4 ≤ _)⟩)
      dsimp only [Pt.U, Pt.locs, Pt.cells, Pt.slots] at X83 l83 y83 z83 st83 hQ83
      subst l83 y83 z83
      obtain ⟨h83, e83⟩ : ∃ z, T83.heap = z := ⟨_, rfl⟩
      rw [e83] at hQ83
      obtain ⟨x7_0_83, rfl, N83q, K83, ng_x7_0_83, sz0_x7_0_83, Q83_0, Q83_1, Q83_2, Q83_3, Q83_4⟩ := hQ83
      refine Go.tr st83 ?_
      have ne_w_NORMAL_x7_0_83 : w_NORMAL ≠ x7_0_83 := Nat.ne_of_lt (Nat.lt_of_lt_of_le E_w_NORMAL.lt sz0_x7_0_83)
      have ne_w_INITIATOR_x7_0_83 : w_INITIATOR ≠ x7_0_83 := Nat.ne_of_lt (Nat.lt_of_lt_of_le E_w_INITIATOR.lt sz0_x7_0_83)
      have ne_w_PASSIVE_x7_0_83 : w_PASSIVE ≠ x7_0_83 := Nat.ne_of_lt (Nat.lt_of_lt_of_le E_w_PASSIVE.lt sz0_x7_0_83)
      have ne_w_LEADER_x7_0_83 : w_LEADER ≠ x7_0_83 := Nat.ne_of_lt (Nat.lt_of_lt_of_le E_w_LEADER.lt sz0_x7_0_83)
      have ne_b76_x7_0_83 : b76 ≠ x7_0_83 := Nat.ne_of_lt (Nat.lt_of_lt_of_le E_b76.lt sz0_x7_0_83)
      have ne__f1_p1_w_NORMAL_w_INITIATOR_w_PASSIVE_w_LEADER__x7_0_83 : (f1 p1 w_NORMAL w_INITIATOR w_PASSIVE w_LEADER) ≠ x7_0_83 := Nat.ne_of_lt (Nat.lt_of_lt_of_le E77_r.lt sz0_x7_0_83)
      have ne_x6_0_81_x7_0_83 : x6_0_81 ≠ x7_0_83 := Nat.ne_of_lt (Nat.lt_of_lt_of_le E_x6_0_81.lt sz0_x7_0_83)
      have g_x7_0_83 : n0 ≤ x7_0_83 := ng_x7_0_83
      have sz_x7_0_83 : h0.size ≤ x7_0_83 := Nat.le_trans K0.1 sz0_x7_0_83
      replace S_NORMAL := sta_keep S_NORMAL K83 all0
      replace E_w_NORMAL := E_w_NORMAL.keep K83
      replace S_INITIATOR := sta_keep S_INITIATOR K83 all0
      replace E_w_INITIATOR := E_w_INITIATOR.keep K83
      replace S_PASSIVE := sta_keep S_PASSIVE K83 all0
      replace E_w_PASSIVE := E_w_PASSIVE.keep K83
      replace S_LEADER := sta_keep S_LEADER K83 all0
      replace E_w_LEADER := E_w_LEADER.keep K83
      replace E_b76 := E_b76.keep K83
      replace E77_r := E77_r.keep K83
      replace F_b76_phase := F_b76_phase.keep K83 nin0
      replace F_b76_leader := F_b76_leader.keep K83 nin0
      replace F_b76_fromLeft := F_b76_fromLeft.keep K83 nin0
      replace F_b76_fromRight := F_b76_fromRight.keep K83 nin0
      replace E_x6_0_81 := E_x6_0_81.keep K83
      replace F_x6_0_81_phase := F_x6_0_81_phase.keep K83 nin0
      replace F_x6_0_81_leader := F_x6_0_81_leader.keep K83 nin0
      replace F_x6_0_81_fromLeft := F_x6_0_81_fromLeft.keep K83 nin0
      replace F_x6_0_81_fromRight := F_x6_0_81_fromRight.keep K83 nin0
      replace Z0 := Nat.le_trans Z0 K83.1
      replace K0 := K0.trans K83 all0
      have E_x7_0_83 := Q83_0
      have F_x7_0_83_phase := Q83_1
      have F_x7_0_83_leader := Q83_2
      have F_x7_0_83_fromLeft := Q83_3
      have F_x7_0_83_fromRight := Q83_4
      have N83 := Fr.app N82 N83q
      show Go _ _ _ (T83.setTop (mkF m 111 #[.val (.int p1), .val (.int p2), .val (.int p3), .val (.int p4), .val (.int p5), .val (.int (-1)), .val (.int (-1)), .val (.ref b76), .val (.int 1)] [(.ref x7_0_83)])) _
      obtain ⟨cq84, kq84, q84a, q84b, q84c⟩ := isOf hZ e83 E_x7_0_83
      obtain ⟨_, _, ⟨T84, L84, k84, n84⟩, -, X84, ⟨Lc84, hQ84, l84, y84, z84⟩, st84⟩ := X83.virtualBack hx (y := (⟨"com/example/lectern/lectern/catalog/Franklin$Member", "slotsEmpty", "()Z"⟩ : MethodName)) (z := (⟨"com/example/lectern/lectern/catalog/Franklin$Member", "slotsEmpty", "()Z"⟩ : MethodName)) hown (mvT hZ (wd29 hw)) (mvT hZ (wd30 hw)) (notFace_of_selects (args := #[]) (mvT hZ (wd32 hw))) (mvT hZ (wd32 hw)) (mvT hZ (wd31 hw)) (by decide) (backOf (W := 0) (rm5 l Z a0 hw [] x7_0_83 p4 (-1 : Int32) h83 n0 Z0 F_x7_0_83_fromLeft F_x7_0_83_fromRight) hZ (wd33 hw) (wd2 hw) (by decide) (by decide)) q84a q84c (g := (mkF m 111 #[.val (.int p1), .val (.int p2), .val (.int p3), .val (.int p4), .val (.int p5), .val (.int (-1)), .val (.int (-1)), .val (.ref b76), .val (.int 1)] [(.ref x7_0_83)])) rfl (by rw [hml]; rfl) (Steps.refl _) (argsL := []) (rest := []) (lenOf pd3 rfl) rfl (by show 2 * 0 + _ ≤ _; exact Nat.le_of_eq rfl) (hb hby at_111) (fun _ _ => ⟨rfl, e83, (by decide : 3 + 0 ≤ _), (by decide : 12 + 0 ≤ _)⟩)
      dsimp only [Pt.U, Pt.locs, Pt.cells, Pt.slots] at X84 l84 y84 z84 st84 hQ84
      subst l84 y84 z84
      refine Go.tr st84 ?_
      obtain ⟨rfl, N84q, e84⟩ := hQ84
      have N84 := Fr.app N83 N84q
      show Go _ _ _ (T84.setTop (mkF m 114 #[.val (.int p1), .val (.int p2), .val (.int p3), .val (.int p4), .val (.int p5), .val (.int (-1)), .val (.int (-1)), .val (.ref b76), .val (.int 1)] [(.int (f5 p4 (-1 : Int32)))])) _
      by_cases hc85 : p4 = (-1 : Int32)
      · rw [show (f5 p4 (-1 : Int32)) = (1 : Int32) from by unfold f5; simp only [if_pos hc85, if_pos (by decide : (-1 : Int32) = (-1 : Int32)), if_true, if_false]]
        show Go _ _ _ (T84.setTop (mkF m 114 #[.val (.int p1), .val (.int p2), .val (.int p3), .val (.int p4), .val (.int p5), .val (.int (-1)), .val (.int (-1)), .val (.ref b76), .val (.int 1)] [(.int 1)])) _
        refine Go.st (fun t k => XS.iloadN X84.here hx rfl (hb hby at_114) rfl k) ?_
        refine Go.st (fun t k => XS.iconst X84.here hx rfl (hb hby at_115) k) ?_
        refine Go.st (fun t k => XS.icmpNo X84.here hx rfl (hb hby at_116) rfl (teq hc85).2 k) ?_
        show Go _ _ _ (T84.setTop (mkF m 119 #[.val (.int p1), .val (.int p2), .val (.int p3), .val (.int p4), .val (.int p5), .val (.int (-1)), .val (.int (-1)), .val (.ref b76), .val (.int 1)] [(.int 1)])) _
        refine Go.st (fun t k => XS.iload X84.here hx rfl (hb hby at_119) rfl k) ?_
        refine Go.st (fun t k => XS.iconst X84.here hx rfl (hb hby at_121) k) ?_
        refine Go.st (fun t k => XS.icmpNo X84.here hx rfl (hb hby at_122) rfl (teq (by decide : (-1 : Int32) = (-1 : Int32))).2 k) ?_
        show Go _ _ _ (T84.setTop (mkF m 125 #[.val (.int p1), .val (.int p2), .val (.int p3), .val (.int p4), .val (.int p5), .val (.int (-1)), .val (.int (-1)), .val (.ref b76), .val (.int 1)] [(.int 1)])) _
        refine Go.st (fun t k => XS.iconst X84.here hx rfl (hb hby at_125) k) ?_
        refine Go.st (fun t k => XS.goto X84.here hx rfl (pc0 := 126) (pc' := 130) rfl (hb hby at_126) (by decide) (by decide) k) ?_
        refine Go.st (fun t k => XS.icmpYes X84.here hx rfl (pc0 := 130) (pc' := 135) rfl (hb hby at_130) rfl (teq (by decide : (1 : Int32) = (1 : Int32))).1 (by decide) (by decide) k) ?_
        show Go _ _ _ (T84.setTop (mkF m 135 #[.val (.int p1), .val (.int p2), .val (.int p3), .val (.int p4), .val (.int p5), .val (.int (-1)), .val (.int (-1)), .val (.ref b76), .val (.int 1)] [])) _
        refine Go.st (fun t k => XS.aload X84.here hx rfl (hb hby at_135) rfl rfl k) ?_
        refine Go.st (fun t k => XS.iloadN X84.here hx rfl (hb hby at_137) rfl k) ?_
        obtain ⟨cq86, kq86, q86a, q86b, q86c⟩ := isOf hZ e84 E_b76
        obtain ⟨_, _, ⟨T86, L86, k86, n86⟩, -, X86, ⟨Lc86, hQ86, l86, y86, z86⟩, st86⟩ := X84.virtualBack hx (y := (⟨"com/example/lectern/lectern/catalog/Franklin$Member", "takenFromRight", "(I)Lcom/example/lectern/lectern/catalog/Franklin$Member;"⟩ : MethodName)) (z := (⟨"com/example/lectern/lectern/catalog/Franklin$Member", "takenFromRight", "(I)Lcom/example/lectern/lectern/catalog/Franklin$Member;"⟩ : MethodName)) hown (mvT hZ (wd46 hw)) (mvT hZ (wd47 hw)) (notFace_of_selects (args := #[]) (mvT hZ (wd49 hw))) (mvT hZ (wd49 hw)) (mvT hZ (wd48 hw)) (by decide) (backOf (W := 0) (rm8 l Z a0 hw [] b76 p3 (f1 p1 w_NORMAL w_INITIATOR w_PASSIVE w_LEADER) p2 (-1 : Int32) h83 n0 Z0 F_b76_phase F_b76_leader F_b76_fromLeft) hZ (wd50 hw) (wd2 hw) (by decide) (by decide)) q86a q86c (g := (mkF m 138 #[.val (.int p1), .val (.int p2), .val (.int p3), .val (.int p4), .val (.int p5), .val (.int (-1)), .val (.int (-1)), .val (.ref b76), .val (.int 1)] [(.int p3), (.ref b76)])) rfl (by rw [hml]; rfl) (Steps.refl _) (argsL := [(.int p3)]) (rest := []) (lenOf pd5 rfl) rfl (by show 2 * 0 + _ ≤ _; exact Nat.le_of_eq rfl) (hb hby at_138) (fun _ _ => ⟨rfl, e84, (by decide : 3 + 1 ≤ _), (by decide : 12 + 4 ≤ _)⟩)
        dsimp only [Pt.U, Pt.locs, Pt.cells, Pt.slots] at X86 l86 y86 z86 st86 hQ86
        subst l86 y86 z86
        obtain ⟨h86, e86⟩ : ∃ z, T86.heap = z := ⟨_, rfl⟩
        rw [e86] at hQ86
        obtain ⟨x8_0_86, rfl, N86q, K86, ng_x8_0_86, sz0_x8_0_86, Q86_0, Q86_1, Q86_2, Q86_3, Q86_4⟩ := hQ86
        refine Go.tr st86 ?_
        have ne_w_NORMAL_x8_0_86 : w_NORMAL ≠ x8_0_86 := Nat.ne_of_lt (Nat.lt_of_lt_of_le E_w_NORMAL.lt sz0_x8_0_86)
        have ne_w_INITIATOR_x8_0_86 : w_INITIATOR ≠ x8_0_86 := Nat.ne_of_lt (Nat.lt_of_lt_of_le E_w_INITIATOR.lt sz0_x8_0_86)
        have ne_w_PASSIVE_x8_0_86 : w_PASSIVE ≠ x8_0_86 := Nat.ne_of_lt (Nat.lt_of_lt_of_le E_w_PASSIVE.lt sz0_x8_0_86)
        have ne_w_LEADER_x8_0_86 : w_LEADER ≠ x8_0_86 := Nat.ne_of_lt (Nat.lt_of_lt_of_le E_w_LEADER.lt sz0_x8_0_86)
        have ne_b76_x8_0_86 : b76 ≠ x8_0_86 := Nat.ne_of_lt (Nat.lt_of_lt_of_le E_b76.lt sz0_x8_0_86)
        have ne__f1_p1_w_NORMAL_w_INITIATOR_w_PASSIVE_w_LEADER__x8_0_86 : (f1 p1 w_NORMAL w_INITIATOR w_PASSIVE w_LEADER) ≠ x8_0_86 := Nat.ne_of_lt (Nat.lt_of_lt_of_le E77_r.lt sz0_x8_0_86)
        have ne_x6_0_81_x8_0_86 : x6_0_81 ≠ x8_0_86 := Nat.ne_of_lt (Nat.lt_of_lt_of_le E_x6_0_81.lt sz0_x8_0_86)
        have ne_x7_0_83_x8_0_86 : x7_0_83 ≠ x8_0_86 := Nat.ne_of_lt (Nat.lt_of_lt_of_le E_x7_0_83.lt sz0_x8_0_86)
        have g_x8_0_86 : n0 ≤ x8_0_86 := ng_x8_0_86
        have sz_x8_0_86 : h0.size ≤ x8_0_86 := Nat.le_trans K0.1 sz0_x8_0_86
        replace S_NORMAL := sta_keep S_NORMAL K86 all0
        replace E_w_NORMAL := E_w_NORMAL.keep K86
        replace S_INITIATOR := sta_keep S_INITIATOR K86 all0
        replace E_w_INITIATOR := E_w_INITIATOR.keep K86
        replace S_PASSIVE := sta_keep S_PASSIVE K86 all0
        replace E_w_PASSIVE := E_w_PASSIVE.keep K86
        replace S_LEADER := sta_keep S_LEADER K86 all0
        replace E_w_LEADER := E_w_LEADER.keep K86
        replace E_b76 := E_b76.keep K86
        replace E77_r := E77_r.keep K86
        replace F_b76_phase := F_b76_phase.keep K86 nin0
        replace F_b76_leader := F_b76_leader.keep K86 nin0
        replace F_b76_fromLeft := F_b76_fromLeft.keep K86 nin0
        replace F_b76_fromRight := F_b76_fromRight.keep K86 nin0
        replace E_x6_0_81 := E_x6_0_81.keep K86
        replace F_x6_0_81_phase := F_x6_0_81_phase.keep K86 nin0
        replace F_x6_0_81_leader := F_x6_0_81_leader.keep K86 nin0
        replace F_x6_0_81_fromLeft := F_x6_0_81_fromLeft.keep K86 nin0
        replace F_x6_0_81_fromRight := F_x6_0_81_fromRight.keep K86 nin0
        replace E_x7_0_83 := E_x7_0_83.keep K86
        replace F_x7_0_83_phase := F_x7_0_83_phase.keep K86 nin0
        replace F_x7_0_83_leader := F_x7_0_83_leader.keep K86 nin0
        replace F_x7_0_83_fromLeft := F_x7_0_83_fromLeft.keep K86 nin0
        replace F_x7_0_83_fromRight := F_x7_0_83_fromRight.keep K86 nin0
        replace Z0 := Nat.le_trans Z0 K86.1
        replace K0 := K0.trans K86 all0
        have E_x8_0_86 := Q86_0
        have F_x8_0_86_phase := Q86_1
        have F_x8_0_86_leader := Q86_2
        have F_x8_0_86_fromLeft := Q86_3
        have F_x8_0_86_fromRight := Q86_4
        have N86 := Fr.app N84 N86q
        show Go _ _ _ (T86.setTop (mkF m 141 #[.val (.int p1), .val (.int p2), .val (.int p3), .val (.int p4), .val (.int p5), .val (.int (-1)), .val (.int (-1)), .val (.ref b76), .val (.int 1)] [(.ref x8_0_86)])) _
        obtain ⟨cq87, kq87, q87a, q87b, q87c⟩ := isOf hZ e86 E_x8_0_86
        obtain ⟨_, _, ⟨T87, L87, k87, n87⟩, -, X87, ⟨Lc87, hQ87, l87, y87, z87⟩, st87⟩ := X86.virtualBack hx (y := (⟨"com/example/lectern/lectern/catalog/Franklin$Member", "slotsEmpty", "()Z"⟩ : MethodName)) (z := (⟨"com/example/lectern/lectern/catalog/Franklin$Member", "slotsEmpty", "()Z"⟩ : MethodName)) hown (mvT hZ (wd29 hw)) (mvT hZ (wd30 hw)) (notFace_of_selects (args := #[]) (mvT hZ (wd32 hw))) (mvT hZ (wd32 hw)) (mvT hZ (wd31 hw)) (by decide) (backOf (W := 0) (rm5 l Z a0 hw [] x8_0_86 (-1 : Int32) p3 h86 n0 Z0 F_x8_0_86_fromLeft F_x8_0_86_fromRight) hZ (wd33 hw) (wd2 hw) (by decide) (by decide)) q87a q87c (g := (mkF m 141 #[.val (.int p1), .val (.int p2), .val (.int p3), .val (.int p4), .val (.int p5), .val (.int (-1)), .val (.int (-1)), .val (.ref b76), .val (.int 1)] [(.ref x8_0_86)])) rfl (by rw [hml]; rfl) (Steps.refl _) (argsL := []) (rest := []) (lenOf pd3 rfl) rfl (by show 2 * 0 + _ ≤ _; exact Nat.le_of_eq rfl) (hb hby at_141) (fun _ _ => ⟨rfl, e86, (by decide : 4 + 0 ≤ _), (by decide : 16 + 0 ≤ _)⟩)
        dsimp only [Pt.U, Pt.locs, Pt.cells, Pt.slots] at X87 l87 y87 z87 st87 hQ87
        subst l87 y87 z87
        refine Go.tr st87 ?_
        obtain ⟨rfl, N87q, e87⟩ := hQ87
        have N87 := Fr.app N86 N87q
        show Go _ _ _ (T87.setTop (mkF m 144 #[.val (.int p1), .val (.int p2), .val (.int p3), .val (.int p4), .val (.int p5), .val (.int (-1)), .val (.int (-1)), .val (.ref b76), .val (.int 1)] [(.int (f5 (-1 : Int32) p3))])) _
        by_cases hc88 : p3 = (-1 : Int32)
        · rw [show (f5 (-1 : Int32) p3) = (1 : Int32) from by unfold f5; simp only [if_pos (by decide : (-1 : Int32) = (-1 : Int32)), if_pos hc88, if_true, if_false]]
          show Go _ _ _ (T87.setTop (mkF m 144 #[.val (.int p1), .val (.int p2), .val (.int p3), .val (.int p4), .val (.int p5), .val (.int (-1)), .val (.int (-1)), .val (.ref b76), .val (.int 1)] [(.int 1)])) _
          refine Go.st (fun t k => XS.iload X87.here hx rfl (hb hby at_144) rfl k) ?_
          refine Go.st (fun t k => XS.iconst X87.here hx rfl (hb hby at_146) k) ?_
          refine Go.st (fun t k => XS.icmpNo X87.here hx rfl (hb hby at_147) rfl (teq (by decide : (-1 : Int32) = (-1 : Int32))).2 k) ?_
          show Go _ _ _ (T87.setTop (mkF m 150 #[.val (.int p1), .val (.int p2), .val (.int p3), .val (.int p4), .val (.int p5), .val (.int (-1)), .val (.int (-1)), .val (.ref b76), .val (.int 1)] [(.int 1)])) _
          refine Go.st (fun t k => XS.iloadN X87.here hx rfl (hb hby at_150) rfl k) ?_
          refine Go.st (fun t k => XS.iconst X87.here hx rfl (hb hby at_151) k) ?_
          refine Go.st (fun t k => XS.icmpNo X87.here hx rfl (hb hby at_152) rfl (teq hc88).2 k) ?_
          show Go _ _ _ (T87.setTop (mkF m 155 #[.val (.int p1), .val (.int p2), .val (.int p3), .val (.int p4), .val (.int p5), .val (.int (-1)), .val (.int (-1)), .val (.ref b76), .val (.int 1)] [(.int 1)])) _
          refine Go.st (fun t k => XS.iconst X87.here hx rfl (hb hby at_155) k) ?_
          refine Go.st (fun t k => XS.goto X87.here hx rfl (pc0 := 156) (pc' := 160) rfl (hb hby at_156) (by decide) (by decide) k) ?_
          refine Go.st (fun t k => XS.icmpYes X87.here hx rfl (pc0 := 160) (pc' := 165) rfl (hb hby at_160) rfl (teq (by decide : (1 : Int32) = (1 : Int32))).1 (by decide) (by decide) k) ?_
          show Go _ _ _ (T87.setTop (mkF m 165 #[.val (.int p1), .val (.int p2), .val (.int p3), .val (.int p4), .val (.int p5), .val (.int (-1)), .val (.int (-1)), .val (.ref b76), .val (.int 1)] [])) _
          refine Go.st (fun t k => XS.iconst X87.here hx rfl (hb hby at_165) k) ?_
          obtain ⟨fs, hr, hrun, hended, hW, hsame⟩ := X87.leave (v := some (.int (1 : Int32))) (fun h => by rw [Bd.returns] at h; cases h)
          refine Go.fin (retN X87 hx (t := .boolean) Bd.returns (by simp) (hb hby at_166) hr) hrun hended ⟨_, _, rfl, ?_, ⟨_, rfl⟩, hW, hsame.mono (by decide) (by decide)⟩
          show Q0 Z p1 p2 p3 p4 p5 w_NORMAL w_INITIATOR w_PASSIVE w_LEADER h0 n0 _ T87.heap _
          rw [e87]
          exact ⟨rfl, N87⟩
        · rw [show (f5 (-1 : Int32) p3) = (0 : Int32) from by unfold f5; simp only [if_pos (by decide : (-1 : Int32) = (-1 : Int32)), if_neg hc88, if_true, if_false]]
          show Go _ _ _ (T87.setTop (mkF m 144 #[.val (.int p1), .val (.int p2), .val (.int p3), .val (.int p4), .val (.int p5), .val (.int (-1)), .val (.int (-1)), .val (.ref b76), .val (.int 1)] [(.int 0)])) _
          refine Go.st (fun t k => XS.iload X87.here hx rfl (hb hby at_144) rfl k) ?_
          refine Go.st (fun t k => XS.iconst X87.here hx rfl (hb hby at_146) k) ?_
          refine Go.st (fun t k => XS.icmpNo X87.here hx rfl (hb hby at_147) rfl (teq (by decide : (-1 : Int32) = (-1 : Int32))).2 k) ?_
          show Go _ _ _ (T87.setTop (mkF m 150 #[.val (.int p1), .val (.int p2), .val (.int p3), .val (.int p4), .val (.int p5), .val (.int (-1)), .val (.int (-1)), .val (.ref b76), .val (.int 1)] [(.int 0)])) _
          refine Go.st (fun t k => XS.iloadN X87.here hx rfl (hb hby at_150) rfl k) ?_
          refine Go.st (fun t k => XS.iconst X87.here hx rfl (hb hby at_151) k) ?_
          refine Go.st (fun t k => XS.icmpYes X87.here hx rfl (pc0 := 152) (pc' := 159) rfl (hb hby at_152) rfl (feq hc88).2 (by decide) (by decide) k) ?_
          show Go _ _ _ (T87.setTop (mkF m 159 #[.val (.int p1), .val (.int p2), .val (.int p3), .val (.int p4), .val (.int p5), .val (.int (-1)), .val (.int (-1)), .val (.ref b76), .val (.int 1)] [(.int 0)])) _
          refine Go.st (fun t k => XS.iconst X87.here hx rfl (hb hby at_159) k) ?_
          refine Go.st (fun t k => XS.icmpYes X87.here hx rfl (pc0 := 160) (pc' := 165) rfl (hb hby at_160) rfl (teq (by decide : (0 : Int32) = (0 : Int32))).1 (by decide) (by decide) k) ?_
          show Go _ _ _ (T87.setTop (mkF m 165 #[.val (.int p1), .val (.int p2), .val (.int p3), .val (.int p4), .val (.int p5), .val (.int (-1)), .val (.int (-1)), .val (.ref b76), .val (.int 1)] [])) _
          refine Go.st (fun t k => XS.iconst X87.here hx rfl (hb hby at_165) k) ?_
          obtain ⟨fs, hr, hrun, hended, hW, hsame⟩ := X87.leave (v := some (.int (1 : Int32))) (fun h => by rw [Bd.returns] at h; cases h)
          refine Go.fin (retN X87 hx (t := .boolean) Bd.returns (by simp) (hb hby at_166) hr) hrun hended ⟨_, _, rfl, ?_, ⟨_, rfl⟩, hW, hsame.mono (by decide) (by decide)⟩
          show Q0 Z p1 p2 p3 p4 p5 w_NORMAL w_INITIATOR w_PASSIVE w_LEADER h0 n0 _ T87.heap _
          rw [e87]
          exact ⟨rfl, N87⟩
      · rw [show (f5 p4 (-1 : Int32)) = (0 : Int32) from by unfold f5; simp only [if_neg hc85, if_true, if_false]]
        show Go _ _ _ (T84.setTop (mkF m 114 #[.val (.int p1), .val (.int p2), .val (.int p3), .val (.int p4), .val (.int p5), .val (.int (-1)), .val (.int (-1)), .val (.ref b76), .val (.int 1)] [(.int 0)])) _
        refine Go.st (fun t k => XS.iloadN X84.here hx rfl (hb hby at_114) rfl k) ?_
        refine Go.st (fun t k => XS.iconst X84.here hx rfl (hb hby at_115) k) ?_
        refine Go.st (fun t k => XS.icmpYes X84.here hx rfl (pc0 := 116) (pc' := 129) rfl (hb hby at_116) rfl (feq hc85).2 (by decide) (by decide) k) ?_
        show Go _ _ _ (T84.setTop (mkF m 129 #[.val (.int p1), .val (.int p2), .val (.int p3), .val (.int p4), .val (.int p5), .val (.int (-1)), .val (.int (-1)), .val (.ref b76), .val (.int 1)] [(.int 0)])) _
        refine Go.st (fun t k => XS.iconst X84.here hx rfl (hb hby at_129) k) ?_
        refine Go.st (fun t k => XS.icmpYes X84.here hx rfl (pc0 := 130) (pc' := 135) rfl (hb hby at_130) rfl (teq (by decide : (0 : Int32) = (0 : Int32))).1 (by decide) (by decide) k) ?_
        show Go _ _ _ (T84.setTop (mkF m 135 #[.val (.int p1), .val (.int p2), .val (.int p3), .val (.int p4), .val (.int p5), .val (.int (-1)), .val (.int (-1)), .val (.ref b76), .val (.int 1)] [])) _
        refine Go.st (fun t k => XS.aload X84.here hx rfl (hb hby at_135) rfl rfl k) ?_
        refine Go.st (fun t k => XS.iloadN X84.here hx rfl (hb hby at_137) rfl k) ?_
        obtain ⟨cq89, kq89, q89a, q89b, q89c⟩ := isOf hZ e84 E_b76
        obtain ⟨_, _, ⟨T89, L89, k89, n89⟩, -, X89, ⟨Lc89, hQ89, l89, y89, z89⟩, st89⟩ := X84.virtualBack hx (y := (⟨"com/example/lectern/lectern/catalog/Franklin$Member", "takenFromRight", "(I)Lcom/example/lectern/lectern/catalog/Franklin$Member;"⟩ : MethodName)) (z := (⟨"com/example/lectern/lectern/catalog/Franklin$Member", "takenFromRight", "(I)Lcom/example/lectern/lectern/catalog/Franklin$Member;"⟩ : MethodName)) hown (mvT hZ (wd46 hw)) (mvT hZ (wd47 hw)) (notFace_of_selects (args := #[]) (mvT hZ (wd49 hw))) (mvT hZ (wd49 hw)) (mvT hZ (wd48 hw)) (by decide) (backOf (W := 0) (rm8 l Z a0 hw [] b76 p3 (f1 p1 w_NORMAL w_INITIATOR w_PASSIVE w_LEADER) p2 (-1 : Int32) h83 n0 Z0 F_b76_phase F_b76_leader F_b76_fromLeft) hZ (wd50 hw) (wd2 hw) (by decide) (by decide)) q89a q89c (g := (mkF m 138 #[.val (.int p1), .val (.int p2), .val (.int p3), .val (.int p4), .val (.int p5), .val (.int (-1)), .val (.int (-1)), .val (.ref b76), .val (.int 1)] [(.int p3), (.ref b76)])) rfl (by rw [hml]; rfl) (Steps.refl _) (argsL := [(.int p3)]) (rest := []) (lenOf pd5 rfl) rfl (by show 2 * 0 + _ ≤ _; exact Nat.le_of_eq rfl) (hb hby at_138) (fun _ _ => ⟨rfl, e84, (by decide : 3 + 1 ≤ _), (by decide : 12 + 4 ≤ _)⟩)
        dsimp only [Pt.U, Pt.locs, Pt.cells, Pt.slots] at X89 l89 y89 z89 st89 hQ89
        subst l89 y89 z89
        obtain ⟨h89, e89⟩ : ∃ z, T89.heap = z := ⟨_, rfl⟩
        rw [e89] at hQ89
        obtain ⟨x8_0_89, rfl, N89q, K89, ng_x8_0_89, sz0_x8_0_89, Q89_0, Q89_1, Q89_2, Q89_3, Q89_4⟩ := hQ89
        refine Go.tr st89 ?_
        have ne_w_NORMAL_x8_0_89 : w_NORMAL ≠ x8_0_89 := Nat.ne_of_lt (Nat.lt_of_lt_of_le E_w_NORMAL.lt sz0_x8_0_89)
        have ne_w_INITIATOR_x8_0_89 : w_INITIATOR ≠ x8_0_89 := Nat.ne_of_lt (Nat.lt_of_lt_of_le E_w_INITIATOR.lt sz0_x8_0_89)
        have ne_w_PASSIVE_x8_0_89 : w_PASSIVE ≠ x8_0_89 := Nat.ne_of_lt (Nat.lt_of_lt_of_le E_w_PASSIVE.lt sz0_x8_0_89)
        have ne_w_LEADER_x8_0_89 : w_LEADER ≠ x8_0_89 := Nat.ne_of_lt (Nat.lt_of_lt_of_le E_w_LEADER.lt sz0_x8_0_89)
        have ne_b76_x8_0_89 : b76 ≠ x8_0_89 := Nat.ne_of_lt (Nat.lt_of_lt_of_le E_b76.lt sz0_x8_0_89)
        have ne__f1_p1_w_NORMAL_w_INITIATOR_w_PASSIVE_w_LEADER__x8_0_89 : (f1 p1 w_NORMAL w_INITIATOR w_PASSIVE w_LEADER) ≠ x8_0_89 := Nat.ne_of_lt (Nat.lt_of_lt_of_le E77_r.lt sz0_x8_0_89)
        have ne_x6_0_81_x8_0_89 : x6_0_81 ≠ x8_0_89 := Nat.ne_of_lt (Nat.lt_of_lt_of_le E_x6_0_81.lt sz0_x8_0_89)
        have ne_x7_0_83_x8_0_89 : x7_0_83 ≠ x8_0_89 := Nat.ne_of_lt (Nat.lt_of_lt_of_le E_x7_0_83.lt sz0_x8_0_89)
        have g_x8_0_89 : n0 ≤ x8_0_89 := ng_x8_0_89
        have sz_x8_0_89 : h0.size ≤ x8_0_89 := Nat.le_trans K0.1 sz0_x8_0_89
        replace S_NORMAL := sta_keep S_NORMAL K89 all0
        replace E_w_NORMAL := E_w_NORMAL.keep K89
        replace S_INITIATOR := sta_keep S_INITIATOR K89 all0
        replace E_w_INITIATOR := E_w_INITIATOR.keep K89
        replace S_PASSIVE := sta_keep S_PASSIVE K89 all0
        replace E_w_PASSIVE := E_w_PASSIVE.keep K89
        replace S_LEADER := sta_keep S_LEADER K89 all0
        replace E_w_LEADER := E_w_LEADER.keep K89
        replace E_b76 := E_b76.keep K89
        replace E77_r := E77_r.keep K89
        replace F_b76_phase := F_b76_phase.keep K89 nin0
        replace F_b76_leader := F_b76_leader.keep K89 nin0
        replace F_b76_fromLeft := F_b76_fromLeft.keep K89 nin0
        replace F_b76_fromRight := F_b76_fromRight.keep K89 nin0
        replace E_x6_0_81 := E_x6_0_81.keep K89
        replace F_x6_0_81_phase := F_x6_0_81_phase.keep K89 nin0
        replace F_x6_0_81_leader := F_x6_0_81_leader.keep K89 nin0
        replace F_x6_0_81_fromLeft := F_x6_0_81_fromLeft.keep K89 nin0
        replace F_x6_0_81_fromRight := F_x6_0_81_fromRight.keep K89 nin0
        replace E_x7_0_83 := E_x7_0_83.keep K89
        replace F_x7_0_83_phase := F_x7_0_83_phase.keep K89 nin0
        replace F_x7_0_83_leader := F_x7_0_83_leader.keep K89 nin0
        replace F_x7_0_83_fromLeft := F_x7_0_83_fromLeft.keep K89 nin0
        replace F_x7_0_83_fromRight := F_x7_0_83_fromRight.keep K89 nin0
        replace Z0 := Nat.le_trans Z0 K89.1
        replace K0 := K0.trans K89 all0
        have E_x8_0_89 := Q89_0
        have F_x8_0_89_phase := Q89_1
        have F_x8_0_89_leader := Q89_2
        have F_x8_0_89_fromLeft := Q89_3
        have F_x8_0_89_fromRight := Q89_4
        have N89 := Fr.app N84 N89q
        show Go _ _ _ (T89.setTop (mkF m 141 #[.val (.int p1), .val (.int p2), .val (.int p3), .val (.int p4), .val (.int p5), .val (.int (-1)), .val (.int (-1)), .val (.ref b76), .val (.int 1)] [(.ref x8_0_89)])) _
        obtain ⟨cq90, kq90, q90a, q90b, q90c⟩ := isOf hZ e89 E_x8_0_89
        obtain ⟨_, _, ⟨T90, L90, k90, n90⟩, -, X90, ⟨Lc90, hQ90, l90, y90, z90⟩, st90⟩ := X89.virtualBack hx (y := (⟨"com/example/lectern/lectern/catalog/Franklin$Member", "slotsEmpty", "()Z"⟩ : MethodName)) (z := (⟨"com/example/lectern/lectern/catalog/Franklin$Member", "slotsEmpty", "()Z"⟩ : MethodName)) hown (mvT hZ (wd29 hw)) (mvT hZ (wd30 hw)) (notFace_of_selects (args := #[]) (mvT hZ (wd32 hw))) (mvT hZ (wd32 hw)) (mvT hZ (wd31 hw)) (by decide) (backOf (W := 0) (rm5 l Z a0 hw [] x8_0_89 (-1 : Int32) p3 h89 n0 Z0 F_x8_0_89_fromLeft F_x8_0_89_fromRight) hZ (wd33 hw) (wd2 hw) (by decide) (by decide)) q90a q90c (g := (mkF m 141 #[.val (.int p1), .val (.int p2), .val (.int p3), .val (.int p4), .val (.int p5), .val (.int (-1)), .val (.int (-1)), .val (.ref b76), .val (.int 1)] [(.ref x8_0_89)])) rfl (by rw [hml]; rfl) (Steps.refl _) (argsL := []) (rest := []) (lenOf pd3 rfl) rfl (by show 2 * 0 + _ ≤ _; exact Nat.le_of_eq rfl) (hb hby at_141) (fun _ _ => ⟨rfl, e89, (by decide : 4 + 0 ≤ _), (by decide : 16 + 0 ≤ _)⟩)
        dsimp only [Pt.U, Pt.locs, Pt.cells, Pt.slots] at X90 l90 y90 z90 st90 hQ90
        subst l90 y90 z90
        refine Go.tr st90 ?_
        obtain ⟨rfl, N90q, e90⟩ := hQ90
        have N90 := Fr.app N89 N90q
        show Go _ _ _ (T90.setTop (mkF m 144 #[.val (.int p1), .val (.int p2), .val (.int p3), .val (.int p4), .val (.int p5), .val (.int (-1)), .val (.int (-1)), .val (.ref b76), .val (.int 1)] [(.int (f5 (-1 : Int32) p3))])) _
        by_cases hc91 : p3 = (-1 : Int32)
        · rw [show (f5 (-1 : Int32) p3) = (1 : Int32) from by unfold f5; simp only [if_pos (by decide : (-1 : Int32) = (-1 : Int32)), if_pos hc91, if_true, if_false]]
          show Go _ _ _ (T90.setTop (mkF m 144 #[.val (.int p1), .val (.int p2), .val (.int p3), .val (.int p4), .val (.int p5), .val (.int (-1)), .val (.int (-1)), .val (.ref b76), .val (.int 1)] [(.int 1)])) _
          refine Go.st (fun t k => XS.iload X90.here hx rfl (hb hby at_144) rfl k) ?_
          refine Go.st (fun t k => XS.iconst X90.here hx rfl (hb hby at_146) k) ?_
          refine Go.st (fun t k => XS.icmpNo X90.here hx rfl (hb hby at_147) rfl (teq (by decide : (-1 : Int32) = (-1 : Int32))).2 k) ?_
          show Go _ _ _ (T90.setTop (mkF m 150 #[.val (.int p1), .val (.int p2), .val (.int p3), .val (.int p4), .val (.int p5), .val (.int (-1)), .val (.int (-1)), .val (.ref b76), .val (.int 1)] [(.int 1)])) _
          refine Go.st (fun t k => XS.iloadN X90.here hx rfl (hb hby at_150) rfl k) ?_
          refine Go.st (fun t k => XS.iconst X90.here hx rfl (hb hby at_151) k) ?_
          refine Go.st (fun t k => XS.icmpNo X90.here hx rfl (hb hby at_152) rfl (teq hc91).2 k) ?_
          show Go _ _ _ (T90.setTop (mkF m 155 #[.val (.int p1), .val (.int p2), .val (.int p3), .val (.int p4), .val (.int p5), .val (.int (-1)), .val (.int (-1)), .val (.ref b76), .val (.int 1)] [(.int 1)])) _
          refine Go.st (fun t k => XS.iconst X90.here hx rfl (hb hby at_155) k) ?_
          refine Go.st (fun t k => XS.goto X90.here hx rfl (pc0 := 156) (pc' := 160) rfl (hb hby at_156) (by decide) (by decide) k) ?_
          refine Go.st (fun t k => XS.icmpYes X90.here hx rfl (pc0 := 160) (pc' := 165) rfl (hb hby at_160) rfl (teq (by decide : (1 : Int32) = (1 : Int32))).1 (by decide) (by decide) k) ?_
          show Go _ _ _ (T90.setTop (mkF m 165 #[.val (.int p1), .val (.int p2), .val (.int p3), .val (.int p4), .val (.int p5), .val (.int (-1)), .val (.int (-1)), .val (.ref b76), .val (.int 1)] [])) _
          refine Go.st (fun t k => XS.iconst X90.here hx rfl (hb hby at_165) k) ?_
          obtain ⟨fs, hr, hrun, hended, hW, hsame⟩ := X90.leave (v := some (.int (1 : Int32))) (fun h => by rw [Bd.returns] at h; cases h)
          refine Go.fin (retN X90 hx (t := .boolean) Bd.returns (by simp) (hb hby at_166) hr) hrun hended ⟨_, _, rfl, ?_, ⟨_, rfl⟩, hW, hsame.mono (by decide) (by decide)⟩
          show Q0 Z p1 p2 p3 p4 p5 w_NORMAL w_INITIATOR w_PASSIVE w_LEADER h0 n0 _ T90.heap _
          rw [e90]
          exact ⟨rfl, N90⟩
        · rw [show (f5 (-1 : Int32) p3) = (0 : Int32) from by unfold f5; simp only [if_pos (by decide : (-1 : Int32) = (-1 : Int32)), if_neg hc91, if_true, if_false]]
          show Go _ _ _ (T90.setTop (mkF m 144 #[.val (.int p1), .val (.int p2), .val (.int p3), .val (.int p4), .val (.int p5), .val (.int (-1)), .val (.int (-1)), .val (.ref b76), .val (.int 1)] [(.int 0)])) _
          refine Go.st (fun t k => XS.iload X90.here hx rfl (hb hby at_144) rfl k) ?_
          refine Go.st (fun t k => XS.iconst X90.here hx rfl (hb hby at_146) k) ?_
          refine Go.st (fun t k => XS.icmpNo X90.here hx rfl (hb hby at_147) rfl (teq (by decide : (-1 : Int32) = (-1 : Int32))).2 k) ?_
          show Go _ _ _ (T90.setTop (mkF m 150 #[.val (.int p1), .val (.int p2), .val (.int p3), .val (.int p4), .val (.int p5), .val (.int (-1)), .val (.int (-1)), .val (.ref b76), .val (.int 1)] [(.int 0)])) _
          refine Go.st (fun t k => XS.iloadN X90.here hx rfl (hb hby at_150) rfl k) ?_
          refine Go.st (fun t k => XS.iconst X90.here hx rfl (hb hby at_151) k) ?_
          refine Go.st (fun t k => XS.icmpYes X90.here hx rfl (pc0 := 152) (pc' := 159) rfl (hb hby at_152) rfl (feq hc91).2 (by decide) (by decide) k) ?_
          show Go _ _ _ (T90.setTop (mkF m 159 #[.val (.int p1), .val (.int p2), .val (.int p3), .val (.int p4), .val (.int p5), .val (.int (-1)), .val (.int (-1)), .val (.ref b76), .val (.int 1)] [(.int 0)])) _
          refine Go.st (fun t k => XS.iconst X90.here hx rfl (hb hby at_159) k) ?_
          refine Go.st (fun t k => XS.icmpYes X90.here hx rfl (pc0 := 160) (pc' := 165) rfl (hb hby at_160) rfl (teq (by decide : (0 : Int32) = (0 : Int32))).1 (by decide) (by decide) k) ?_
          show Go _ _ _ (T90.setTop (mkF m 165 #[.val (.int p1), .val (.int p2), .val (.int p3), .val (.int p4), .val (.int p5), .val (.int (-1)), .val (.int (-1)), .val (.ref b76), .val (.int 1)] [])) _
          refine Go.st (fun t k => XS.iconst X90.here hx rfl (hb hby at_165) k) ?_
          obtain ⟨fs, hr, hrun, hended, hW, hsame⟩ := X90.leave (v := some (.int (1 : Int32))) (fun h => by rw [Bd.returns] at h; cases h)
          refine Go.fin (retN X90 hx (t := .boolean) Bd.returns (by simp) (hb hby at_166) hr) hrun hended ⟨_, _, rfl, ?_, ⟨_, rfl⟩, hW, hsame.mono (by decide) (by decide)⟩
          show Q0 Z p1 p2 p3 p4 p5 w_NORMAL w_INITIATOR w_PASSIVE w_LEADER h0 n0 _ T90.heap _
          rw [e90]
          exact ⟨rfl, N90⟩
theorem wd8 {Z : State} {a0 : Array Value} (hw : ∀ d ∈ tables_1, d.before a0 Z = true) : (Jvm.Cond.initialized "com/example/lectern/lectern/catalog/Franklin$Phase").before a0 Z = true := hw _ (List.mem_of_getElem? (i := 8) rfl)
theorem wd9 {Z : State} {a0 : Array Value} (hw : ∀ d ∈ tables_1, d.before a0 Z = true) : (Jvm.Cond.laysStatic "com/example/lectern/lectern/catalog/Franklin$Phase" "NORMAL" "Lcom/example/lectern/lectern/catalog/Franklin$Phase;").before a0 Z = true := hw _ (List.mem_of_getElem? (i := 9) rfl)
theorem wd52 {Z : State} {a0 : Array Value} (hw : ∀ d ∈ tables_1, d.before a0 Z = true) : (Jvm.Cond.laysStatic "com/example/lectern/lectern/catalog/Franklin$Phase" "LEADER" "Lcom/example/lectern/lectern/catalog/Franklin$Phase;").before a0 Z = true := hw _ (List.mem_of_getElem? (i := 52) rfl)
theorem wd59 {Z : State} {a0 : Array Value} (hw : ∀ d ∈ tables_1, d.before a0 Z = true) : (Jvm.Cond.laysStatic "com/example/lectern/lectern/catalog/Franklin$Phase" "PASSIVE" "Lcom/example/lectern/lectern/catalog/Franklin$Phase;").before a0 Z = true := hw _ (List.mem_of_getElem? (i := 59) rfl)
theorem wd61 {Z : State} {a0 : Array Value} (hw : ∀ d ∈ tables_1, d.before a0 Z = true) : (Jvm.Cond.laysStatic "com/example/lectern/lectern/catalog/Franklin$Phase" "INITIATOR" "Lcom/example/lectern/lectern/catalog/Franklin$Phase;").before a0 Z = true := hw _ (List.mem_of_getElem? (i := 61) rfl)
set_option maxRecDepth 65536 in
set_option maxHeartbeats 16000000 in
theorem comes_1 {Post : Tables → Env → Array Value → State → Outcome → State → Prop} (hpost : ∀ tb e args s v u, (limb_1_1.after args s (.returned v) u = true ∧ limb_1_2.after args s (.returned v) u = true ∧ True) → FrameEnd s (.returned v) u (Jvm.fieldLocs frame_1_writes args s ++ Jvm.arrayLocs frame_1_arrays args s ++ Jvm.staticLocs frame_1_statics s) 16 128 → Post tb e args s (.returned v) u) :
    ArmFor flags0 classFile x code maxLocals ret World_1 tables_1 room_1 Calls_1 rest_1 Pre_1 Post := by
  intro l hfl _ _ p e ha hc hk s m args below hf hA hF happ hP
  obtain ⟨hcalls, hrest, hpre⟩ := hP
  obtain ⟨-, -, -, hnamed, -, -, -, hat⟩ := (Spec.applies_iff hf).mp happ
  obtain ⟨hg, hn⟩ := and_e (Cond.before_iff.mp (show (Jvm.Cond.and given_1 narrow_1).before args s = true from hpre))
  obtain ⟨g1, g2⟩ := and_e hg
  obtain ⟨g3, g4⟩ := and_e g2
  obtain ⟨g5, g6⟩ := and_e g4
  obtain ⟨g7, g8⟩ := and_e g6
  obtain ⟨g9, g10⟩ := and_e g8
  obtain ⟨g11, g12⟩ := and_e hn
  obtain ⟨g13, g14⟩ := and_e g12
  obtain ⟨g15, g16⟩ := and_e g14
  obtain ⟨w0, w1, w2, w3, w4, rfl⟩ : ∃ w0 w1 w2 w3 w4 : Value, args = #[w0, w1, w2, w3, w4] := by
    have hs : args.size = 5 := by simpa [Cond.value, given_1] using g1
    obtain ⟨L⟩ := args
    match L, hs with
    | [w0, w1, w2, w3, w4], _ => exact ⟨w0, w1, w2, w3, w4, rfl⟩
  have hw := fun d (hd : d ∈ tables_1) => atoms_spec (ws := Jvm.Cond.code x code maxLocals ret :: tables_1) hat d (List.mem_cons_of_mem _ hd)
  have hfit : Fit s := fun {y c} hc i hi => by
    obtain ⟨ha, rfl⟩ := Array.getElem?_eq_some_iff.mp hc
    have q := List.all_eq_true.mp ((Array.all_eq_true_iff_forall_mem.mp hF) _ (Array.getElem_mem ha)) i (List.mem_range.mpr hi)
    simpa [Array.getElem?_eq_getElem hi] using q
  obtain ⟨i0, ei0⟩ := is_v g3
  obtain rfl : w0 = (.int i0) := Option.some.inj ei0
  obtain ⟨i1, ei1⟩ := is_v g5
  obtain rfl : w1 = (.int i1) := Option.some.inj ei1
  obtain ⟨i2, ei2⟩ := is_v g7
  obtain rfl : w2 = (.int i2) := Option.some.inj ei2
  obtain ⟨i3, ei3⟩ := is_v g9
  obtain rfl : w3 = (.int i3) := Option.some.inj ei3
  obtain ⟨i4, ei4⟩ := is_v g10
  obtain rfl : w4 = (.int i4) := Option.some.inj ei4
  obtain ⟨v_NORMAL, ev_v_NORMAL⟩ := exa_v g11
  have E_v_NORMAL := Exa.start ev_v_NORMAL g11
  have S_v_NORMAL := Sta.start ev_v_NORMAL (Or.inr ⟨(wd8 hw), (wd9 hw)⟩)
  obtain ⟨v_LEADER, ev_v_LEADER⟩ := exa_v g13
  have E_v_LEADER := Exa.start ev_v_LEADER g13
  have S_v_LEADER := Sta.start ev_v_LEADER (Or.inr ⟨(wd8 hw), (wd52 hw)⟩)
  obtain ⟨v_PASSIVE, ev_v_PASSIVE⟩ := exa_v g15
  have E_v_PASSIVE := Exa.start ev_v_PASSIVE g15
  have S_v_PASSIVE := Sta.start ev_v_PASSIVE (Or.inr ⟨(wd8 hw), (wd59 hw)⟩)
  obtain ⟨v_INITIATOR, ev_v_INITIATOR⟩ := exa_v g16
  have E_v_INITIATOR := Exa.start ev_v_INITIATOR g16
  have S_v_INITIATOR := Sta.start ev_v_INITIATOR (Or.inr ⟨(wd8 hw), (wd61 hw)⟩)
  have hplain := trivial
  obtain ⟨n, o, h1, h2, h3, _, L, rfl, ⟨rfl, N⟩, hq⟩ := rm0 l s _ hw tables_1 i0 i1 i2 i3 i4 v_NORMAL v_INITIATOR v_PASSIVE v_LEADER s.heap s.heap.size (Nat.le_refl _) S_v_NORMAL E_v_NORMAL S_v_INITIATOR E_v_INITIATOR S_v_PASSIVE E_v_PASSIVE S_v_LEADER E_v_LEADER p e ha hc hk s m _ below hf ((Spec.applies_iff_loose hf).mp happ).1 ⟨rfl, State.Warmed39.refl s, rfl⟩ trivial
  refine ⟨n, _, h1, h2, h3, hpost _ _ _ _ _ _ ⟨Cond.after_iff.mpr rfl, Cond.after_iff.mpr (eq_i res_at (Term.int_eval (1)) rfl), trivial⟩ ⟨hq.1, hq.2.1, (hq.2.2.sift fun y hy => Or.inr (N y hy)).mono (by decide) (by decide)⟩⟩
theorem main_1_1 : Claimed_1_1 := comes_1 fun _ _ _ _ _ _ h hF => ⟨h.1, hF⟩
theorem main_1_2 : Claimed_1_2 := comes_1 fun _ _ _ _ _ _ h hF => ⟨h.2.1, hF⟩
end Jvm.Pilot.@@N@@
namespace Jvm.Pilot.@@N@@
open Jvm Jvm.ClassFile Sem Op Lib Jvm.Free Jvm.Stand Jvm.Pilot.@@N@@.Jvm.D
/-! MADE BY PROGRAM (witnessworld.py) out of the Statement's table words and the real class files: 14 classes; the members and pool entries that the words name. The judged class is class 1, her method 2. -/
namespace start1
open Jvm.ClassFile
def u (s : String) : CpInfo := .utf8 (stringToUtf16 s)
/-- a pool by its gaps: so many unusable entries, then the entry; so many at the end -/
def gap : Nat → List CpInfo → List CpInfo
  | 0, r => r
  | n + 1, r => .unusable :: gap n r
def poolList (es : List (Nat × CpInfo)) (last : Nat) : List CpInfo := es.foldr (fun e r => gap e.1 (e.2 :: r)) (gap last [])
def pool (es : List (Nat × CpInfo)) (last : Nat) : Array CpInfo := ⟨poolList es last⟩
def fileOf (pool : Array CpInfo) (this : Nat) (attrs : Array Attribute := #[]) (ms : Array MethodInfo := #[]) (fl : Nat := 33) (sup : Nat := 0) (ifs : Array Nat := #[]) (fds : Array FieldInfo := #[]) : ClassFile where
  minorVersion := 0
  majorVersion := 65
  constantPool := pool
  accessFlags := fl
  thisClass := this
  superClass := sup
  interfaces := ifs
  fields := fds
  methods := ms
  attributes := attrs
def plain (name : String) (sup : Option ClassId) : Class where
  name := name
  kind := .ordinary
  loader := none
  accessFlags := 33
  super := sup
  interfaces := #[]
  cf := none
  fields := #[]
  methods := #[]
  instanceTypes := #[]
  staticTypes := #[]
  resolved := #[]
  callSites := []
  init := .initialized
  statics := none
  mirror := none

def pool0 : Array CpInfo := pool [(5, u "<init>"), (0, u "()V"), (1, .class_ 10), (1, u "java/lang/Object")] 113

def k0c0 : Code := { maxStack := 0, maxLocals := 1, code := object_method_1_code, exceptionTable := #[], attributes := #[] }
def k0m0 : Method := { name := "<init>", desc := "()V", sig := { parameters := [], returnType := none }, accessFlags := 1, code := some k0c0 }
/-- java/lang/Object -/
def k0 : Class := { plain "java/lang/Object" none with
  accessFlags := 33
  interfaces := #[]
  cf := some (fileOf pool0 8 #[] #[{ accessFlags := 1, nameIndex := 5, descriptorIndex := 6, attributes := #[] }] 33 0 #[] #[])
  fields := #[]
  methods := #[k0m0]
  instanceTypes := #[]
  staticTypes := #[]
  resolved := Array.replicate 124 none
  statics := none }

def pool1 : Array CpInfo := pool [(2, .class_ 4), (1, u "java/lang/Object"), (0, u "<init>"), (0, u "()V"), (0, .fieldref 8 9), (0, .class_ 10), (0, .nameAndType 11 12), (0, u "com/example/lectern/lectern/catalog/Franklin$Phase"), (0, u "NORMAL"), (0, u "Lcom/example/lectern/lectern/catalog/Franklin$Phase;"), (0, .fieldref 8 14), (0, .nameAndType 15 12), (0, u "INITIATOR"), (0, .fieldref 8 17), (0, .nameAndType 18 12), (0, u "PASSIVE"), (0, .fieldref 8 20), (0, .nameAndType 21 12), (0, u "LEADER"), (0, .class_ 23), (0, u "com/example/lectern/lectern/catalog/Franklin$Member"), (0, .methodref 25 26), (0, .class_ 27), (0, .nameAndType 28 29), (0, u "com/example/lectern/lectern/catalog/MemberSlotsEmptyPinLaw"), (0, u "phase"), (0, u "(I)Lcom/example/lectern/lectern/catalog/Franklin$Phase;"), (0, .methodref 22 31), (0, .nameAndType 5 32), (0, u "(Lcom/example/lectern/lectern/catalog/Franklin$Phase;III)V"), (0, .methodref 22 34), (0, .nameAndType 35 36), (0, u "slotsEmpty"), (0, u "()Z"), (0, .methodref 22 38), (0, .nameAndType 39 36), (0, u "slotsFull"), (0, .methodref 22 41), (0, .nameAndType 42 43), (0, u "emptied"), (0, u "()Lcom/example/lectern/lectern/catalog/Franklin$Member;"), (0, .methodref 22 45), (0, .nameAndType 46 47), (0, u "takenFromLeft"), (0, u "(I)Lcom/example/lectern/lectern/catalog/Franklin$Member;"), (0, .methodref 22 49), (0, .nameAndType 50 47), (0, u "takenFromRight"), (3, u "law"), (0, u "(IIIII)Z")] 7

def k1m0 : Method := { name := "<init>", desc := "()V", sig := { parameters := [], returnType := none }, accessFlags := 1, code := none }
def k1c1 : Code := { maxStack := 2, maxLocals := 2, code := method_2_code, exceptionTable := #[], attributes := #[] }
def k1m1 : Method := { name := "phase", desc := "(I)Lcom/example/lectern/lectern/catalog/Franklin$Phase;", sig := { parameters := [.int], returnType := some (.object "com/example/lectern/lectern/catalog/Franklin$Phase") }, accessFlags := 10, code := some k1c1 }
def k1c2 : Code := { maxStack := 6, maxLocals := 9, code := code, exceptionTable := #[], attributes := #[] }
def k1m2 : Method := { name := "law", desc := "(IIIII)Z", sig := { parameters := [.int, .int, .int, .int, .int], returnType := some .boolean }, accessFlags := 9, code := some k1c2 }
/-- com/example/lectern/lectern/catalog/MemberSlotsEmptyPinLaw -/
def k1 : Class := { plain "com/example/lectern/lectern/catalog/MemberSlotsEmptyPinLaw" (some 0) with
  accessFlags := 49
  interfaces := #[]
  cf := some (fileOf pool1 25 #[] #[{ accessFlags := 1, nameIndex := 5, descriptorIndex := 6, attributes := #[] }, { accessFlags := 10, nameIndex := 28, descriptorIndex := 29, attributes := #[] }, { accessFlags := 9, nameIndex := 54, descriptorIndex := 55, attributes := #[] }] 49 2 #[] #[])
  fields := #[]
  methods := #[k1m0, k1m1, k1m2]
  instanceTypes := #[]
  staticTypes := #[]
  resolved := Array.replicate 63 none
  statics := none }

def pool2 : Array CpInfo := pool [(1, .methodref 2 3), (0, .class_ 4), (0, .nameAndType 5 6), (0, u "java/lang/Object"), (0, u "<init>"), (0, u "()V"), (0, .class_ 8), (0, u "java/lang/Record")] 13

def k2c0 : Code := { maxStack := 1, maxLocals := 1, code := jdk_30_method_1_code, exceptionTable := #[], attributes := #[] }
def k2m0 : Method := { name := "<init>", desc := "()V", sig := { parameters := [], returnType := none }, accessFlags := 4, code := some k2c0 }
/-- java/lang/Record -/
def k2 : Class := { plain "java/lang/Record" (some 0) with
  accessFlags := 1057
  interfaces := #[]
  cf := some (fileOf pool2 7 #[] #[{ accessFlags := 4, nameIndex := 5, descriptorIndex := 6, attributes := #[] }] 1057 2 #[] #[])
  fields := #[]
  methods := #[k2m0]
  instanceTypes := #[]
  staticTypes := #[]
  resolved := Array.replicate 22 none
  statics := none }

def pool3 : Array CpInfo := pool [(1, .class_ 2), (0, u "com/example/lectern/lectern/catalog/Franklin"), (0, .methodref 4 5), (0, .class_ 6), (0, .nameAndType 7 8), (0, u "java/lang/Record"), (0, u "<init>"), (0, u "()V"), (0, .fieldref 10 11), (0, .class_ 12), (0, .nameAndType 13 14), (0, u "com/example/lectern/lectern/catalog/Franklin$Member"), (0, u "phase"), (0, u "Lcom/example/lectern/lectern/catalog/Franklin$Phase;"), (0, .fieldref 10 16), (0, .nameAndType 17 18), (0, u "leader"), (0, u "I"), (0, .fieldref 10 20), (0, .nameAndType 21 18), (0, u "fromLeft"), (0, .fieldref 10 23), (0, .nameAndType 24 18), (0, u "fromRight"), (0, .methodref 10 26), (0, .nameAndType 7 27), (0, u "(Lcom/example/lectern/lectern/catalog/Franklin$Phase;III)V"), (18, u "(I)Lcom/example/lectern/lectern/catalog/Franklin$Member;"), (0, u "takenFromLeft"), (0, u "takenFromRight"), (0, u "emptied"), (0, u "()Lcom/example/lectern/lectern/catalog/Franklin$Member;"), (0, u "slotsEmpty"), (0, u "()Z"), (1, u "slotsFull")] 32

def k3c0 : Code := { maxStack := 2, maxLocals := 5, code := prog_30_method_1_code, exceptionTable := #[], attributes := #[] }
def k3m0 : Method := { name := "<init>", desc := "(Lcom/example/lectern/lectern/catalog/Franklin$Phase;III)V", sig := { parameters := [(.object "com/example/lectern/lectern/catalog/Franklin$Phase"), .int, .int, .int], returnType := none }, accessFlags := 0, code := some k3c0 }
def k3c1 : Code := { maxStack := 6, maxLocals := 2, code := prog_30_method_4_code, exceptionTable := #[], attributes := #[] }
def k3m1 : Method := { name := "takenFromLeft", desc := "(I)Lcom/example/lectern/lectern/catalog/Franklin$Member;", sig := { parameters := [.int], returnType := some (.object "com/example/lectern/lectern/catalog/Franklin$Member") }, accessFlags := 0, code := some k3c1 }
def k3c2 : Code := { maxStack := 6, maxLocals := 2, code := prog_30_method_5_code, exceptionTable := #[], attributes := #[] }
def k3m2 : Method := { name := "takenFromRight", desc := "(I)Lcom/example/lectern/lectern/catalog/Franklin$Member;", sig := { parameters := [.int], returnType := some (.object "com/example/lectern/lectern/catalog/Franklin$Member") }, accessFlags := 0, code := some k3c2 }
def k3c3 : Code := { maxStack := 6, maxLocals := 1, code := prog_30_method_6_code, exceptionTable := #[], attributes := #[] }
def k3m3 : Method := { name := "emptied", desc := "()Lcom/example/lectern/lectern/catalog/Franklin$Member;", sig := { parameters := [], returnType := some (.object "com/example/lectern/lectern/catalog/Franklin$Member") }, accessFlags := 0, code := some k3c3 }
def k3c4 : Code := { maxStack := 2, maxLocals := 1, code := prog_30_method_7_code, exceptionTable := #[], attributes := #[] }
def k3m4 : Method := { name := "slotsEmpty", desc := "()Z", sig := { parameters := [], returnType := some .boolean }, accessFlags := 0, code := some k3c4 }
def k3c5 : Code := { maxStack := 2, maxLocals := 1, code := prog_30_method_8_code, exceptionTable := #[], attributes := #[] }
def k3m5 : Method := { name := "slotsFull", desc := "()Z", sig := { parameters := [], returnType := some .boolean }, accessFlags := 0, code := some k3c5 }
/-- com/example/lectern/lectern/catalog/Franklin$Member -/
def k3 : Class := { plain "com/example/lectern/lectern/catalog/Franklin$Member" (some 2) with
  accessFlags := 48
  interfaces := #[]
  cf := some (fileOf pool3 10 #[.nestHost 1] #[{ accessFlags := 0, nameIndex := 7, descriptorIndex := 27, attributes := #[] }, { accessFlags := 0, nameIndex := 47, descriptorIndex := 46, attributes := #[] }, { accessFlags := 0, nameIndex := 48, descriptorIndex := 46, attributes := #[] }, { accessFlags := 0, nameIndex := 49, descriptorIndex := 50, attributes := #[] }, { accessFlags := 0, nameIndex := 51, descriptorIndex := 52, attributes := #[] }, { accessFlags := 0, nameIndex := 54, descriptorIndex := 52, attributes := #[] }] 48 4 #[] #[{ accessFlags := 18, nameIndex := 13, descriptorIndex := 14, attributes := #[] }, { accessFlags := 18, nameIndex := 17, descriptorIndex := 18, attributes := #[] }, { accessFlags := 18, nameIndex := 21, descriptorIndex := 18, attributes := #[] }, { accessFlags := 18, nameIndex := 24, descriptorIndex := 18, attributes := #[] }])
  fields := #[{ name := "phase", type := (.object "com/example/lectern/lectern/catalog/Franklin$Phase"), accessFlags := 18, slot := 0, constantValue := 0 }, { name := "leader", type := .int, accessFlags := 18, slot := 1, constantValue := 0 }, { name := "fromLeft", type := .int, accessFlags := 18, slot := 2, constantValue := 0 }, { name := "fromRight", type := .int, accessFlags := 18, slot := 3, constantValue := 0 }]
  methods := #[k3m0, k3m1, k3m2, k3m3, k3m4, k3m5]
  instanceTypes := #[(.object "com/example/lectern/lectern/catalog/Franklin$Phase"), .int, .int, .int]
  staticTypes := #[]
  resolved := Array.replicate 87 none
  statics := none }

def pool4 : Array CpInfo := pool [(1, .class_ 2), (0, u "java/lang/constant/Constable"), (0, .class_ 4), (0, u "java/lang/Object")] 6

/-- java/lang/constant/Constable -/
def k4 : Class := { plain "java/lang/constant/Constable" (some 0) with
  accessFlags := 1537
  interfaces := #[]
  cf := some (fileOf pool4 1 #[] #[] 1537 3 #[] #[])
  fields := #[]
  methods := #[]
  instanceTypes := #[]
  staticTypes := #[]
  resolved := Array.replicate 11 none
  statics := none }

def pool5 : Array CpInfo := pool [(1, .class_ 2), (0, u "java/lang/Comparable"), (0, .class_ 4), (0, u "java/lang/Object")] 7

/-- java/lang/Comparable -/
def k5 : Class := { plain "java/lang/Comparable" (some 0) with
  accessFlags := 1537
  interfaces := #[]
  cf := some (fileOf pool5 1 #[] #[] 1537 3 #[] #[])
  fields := #[]
  methods := #[]
  instanceTypes := #[]
  staticTypes := #[]
  resolved := Array.replicate 12 none
  statics := none }

def pool6 : Array CpInfo := pool [(1, .class_ 2), (0, u "java/io/Serializable"), (0, .class_ 4), (0, u "java/lang/Object")] 2

/-- java/io/Serializable -/
def k6 : Class := { plain "java/io/Serializable" (some 0) with
  accessFlags := 1537
  interfaces := #[]
  cf := some (fileOf pool6 1 #[] #[] 1537 3 #[] #[])
  fields := #[]
  methods := #[]
  instanceTypes := #[]
  staticTypes := #[]
  resolved := Array.replicate 7 none
  statics := none }

def pool7 : Array CpInfo := pool [(2, .class_ 4), (1, u "java/lang/Enum"), (0, u "name"), (0, u "Ljava/lang/String;"), (2, u "ordinal"), (0, u "I"), (1, .class_ 14), (1, u "java/lang/Object"), (4, u "hash"), (86, .class_ 108), (1, u "java/lang/Enum$EnumDesc"), (2, .class_ 112), (0, u "java/lang/constant/Constable"), (0, .class_ 114), (0, u "java/lang/Comparable"), (0, .class_ 116), (0, u "java/io/Serializable")] 87

/-- java/lang/Enum -/
def k7 : Class := { plain "java/lang/Enum" (some 0) with
  accessFlags := 1057
  interfaces := #[4, 5, 6]
  cf := some (fileOf pool7 2 #[.nestMembers #[106]] #[] 1057 12 #[111, 113, 115] #[{ accessFlags := 18, nameIndex := 5, descriptorIndex := 6, attributes := #[] }, { accessFlags := 18, nameIndex := 9, descriptorIndex := 10, attributes := #[] }, { accessFlags := 2, nameIndex := 19, descriptorIndex := 10, attributes := #[] }])
  fields := #[{ name := "name", type := (.object "java/lang/String"), accessFlags := 18, slot := 0, constantValue := 0 }, { name := "ordinal", type := .int, accessFlags := 18, slot := 1, constantValue := 0 }, { name := "hash", type := .int, accessFlags := 2, slot := 2, constantValue := 0 }]
  methods := #[]
  instanceTypes := #[(.object "java/lang/String"), .int, .int]
  staticTypes := #[]
  resolved := Array.replicate 204 none
  statics := none }

def pool8 : Array CpInfo := pool [(1, .class_ 2), (0, u "com/example/lectern/lectern/catalog/Franklin$Phase"), (2, u "NORMAL"), (0, u "Lcom/example/lectern/lectern/catalog/Franklin$Phase;"), (2, u "INITIATOR"), (2, u "PASSIVE"), (2, u "LEADER"), (2, u "$VALUES"), (0, u "[Lcom/example/lectern/lectern/catalog/Franklin$Phase;"), (6, .class_ 28), (1, u "java/lang/Enum"), (27, .class_ 57), (0, u "com/example/lectern/lectern/catalog/Franklin")] 2

/-- com/example/lectern/lectern/catalog/Franklin$Phase -/
def k8 : Class := { plain "com/example/lectern/lectern/catalog/Franklin$Phase" (some 7) with
  accessFlags := 16432
  interfaces := #[]
  cf := some (fileOf pool8 1 #[.nestHost 56] #[] 16432 26 #[] #[{ accessFlags := 16409, nameIndex := 5, descriptorIndex := 6, attributes := #[] }, { accessFlags := 16409, nameIndex := 9, descriptorIndex := 6, attributes := #[] }, { accessFlags := 16409, nameIndex := 12, descriptorIndex := 6, attributes := #[] }, { accessFlags := 16409, nameIndex := 15, descriptorIndex := 6, attributes := #[] }, { accessFlags := 4122, nameIndex := 18, descriptorIndex := 19, attributes := #[] }])
  fields := #[{ name := "NORMAL", type := (.object "com/example/lectern/lectern/catalog/Franklin$Phase"), accessFlags := 16409, slot := 0, constantValue := 0 }, { name := "INITIATOR", type := (.object "com/example/lectern/lectern/catalog/Franklin$Phase"), accessFlags := 16409, slot := 1, constantValue := 0 }, { name := "PASSIVE", type := (.object "com/example/lectern/lectern/catalog/Franklin$Phase"), accessFlags := 16409, slot := 2, constantValue := 0 }, { name := "LEADER", type := (.object "com/example/lectern/lectern/catalog/Franklin$Phase"), accessFlags := 16409, slot := 3, constantValue := 0 }, { name := "$VALUES", type := (.array (.object "com/example/lectern/lectern/catalog/Franklin$Phase")), accessFlags := 4122, slot := 4, constantValue := 0 }]
  methods := #[]
  instanceTypes := #[(.object "java/lang/String"), .int, .int]
  staticTypes := #[(.object "com/example/lectern/lectern/catalog/Franklin$Phase"), (.object "com/example/lectern/lectern/catalog/Franklin$Phase"), (.object "com/example/lectern/lectern/catalog/Franklin$Phase"), (.object "com/example/lectern/lectern/catalog/Franklin$Phase"), (.array (.object "com/example/lectern/lectern/catalog/Franklin$Phase"))]
  resolved := Array.replicate 60 none
  statics := some 0 }

def pool9 : Array CpInfo := pool [(1, u "java/lang/Cloneable"), (0, .class_ 1), (0, u "java/lang/Object"), (0, .class_ 3)] 3

/-- java/lang/Cloneable -/
def k9 : Class := { plain "java/lang/Cloneable" (some 0) with
  accessFlags := 1537
  interfaces := #[]
  cf := some (fileOf pool9 2 #[] #[] 1537 4 #[] #[])
  fields := #[]
  methods := #[]
  instanceTypes := #[]
  staticTypes := #[]
  resolved := Array.replicate 8 none
  statics := none }

/-- the primitive byte -/
def k10 : Class := { plain "byte" none with kind := .primitive 'B', accessFlags := 0x411 }
/-- [B -/
def k11 : Class := { plain "[B" (some 0) with kind := .array 10 .byte, interfaces := #[9, 6], accessFlags := 1041 }

/-- the primitive int -/
def k12 : Class := { plain "int" none with kind := .primitive 'I', accessFlags := 0x411 }
/-- [I -/
def k13 : Class := { plain "[I" (some 0) with kind := .array 12 .int, interfaces := #[9, 6], accessFlags := 1041 }

def heap : Heap := #[{ cls := 8, slots := #[.ref 1, .ref 2, .ref 3, .ref 4, .null], vm := .statics 8 },
  { cls := 8, slots := #[.null, .int 0, .int 0], vm := .none },
  { cls := 8, slots := #[.null, .int 1, .int 0], vm := .none },
  { cls := 8, slots := #[.null, .int 2, .int 0], vm := .none },
  { cls := 8, slots := #[.null, .int 3, .int 0], vm := .none }]
def classes : Array Class := #[k0, k1, k2, k3, k4, k5, k6, k7, k8, k9, k10, k11, k12, k13]
def interned : List (Array UInt16 × Addr) := []
def slotsUsed : Nat := 17
def theMethod : MethodId := ⟨1, 2⟩
def args0 : Array Value := #[.int 5, .int 6, .int 7, .int 8, .int 9]
def aboutOver (below : List Frame) : State where
  vm := { classes := classes, interned := interned.toArray }
  heap := heap
  slotsUsed := slotsUsed
  threads := #[{ frames := .invoking theMethod args0 :: below }]
def below0 : List Frame := [.native { method := ⟨0, 0⟩, args := #[] }]
def about1 : State := aboutOver below0
def p0 : Program := .bare "" "" ""
def e0 : Env := launch0.env 0 0 0
theorem w_frames : about1.frames = Frame.invoking theMethod args0 :: below0 := rfl
set_option maxRecDepth 65536 in
theorem w_args : argsFit about1.vm theMethod args0 = true := by decide +kernel
set_option maxRecDepth 65536 in
theorem w_heap : heapFits about1 = true := by decide +kernel
set_option maxRecDepth 65536 in
theorem w_runnable : about1.curStatus? = some .runnable := by decide +kernel
set_option maxRecDepth 65536 in
theorem w_alone : about1.alone = true := by decide +kernel
set_option maxRecDepth 65536 in
theorem w_named : about1.methodNamed? x = some theMethod := by decide +kernel
set_option maxRecDepth 65536 in
theorem w_hears : about1.hears theMethod below0 = true := by decide +kernel
set_option maxRecDepth 65536 in
theorem w_ripe : about1.ripe theMethod args0 below0 = true := by decide +kernel
theorem w_running : about1.status = .running := rfl
set_option maxRecDepth 65536 in
theorem w_room : about1.hasRoom e0.platform room_1 = true :=
  launch0.hasRoom_least _ room_1 (by decide +kernel) (by decide +kernel) (by decide +kernel) (by decide +kernel) (by decide +kernel) (by decide +kernel)
theorem allAtoms_all (ts : List Jvm.Cond) (a : Array Jvm.Value) (st : Jvm.State) : (allAtoms ts).before a st = ts.all (fun c => c.before a st) := by
  induction ts with
  | nil => rfl
  | cons c t ih =>
    show (Jvm.Cond.and c (allAtoms t)).before a st = _
    rw [Jvm.Cond.before_and, ih, List.all_cons]
def words1 : List Jvm.Cond := Jvm.Cond.code x code maxLocals ret :: tables_1
/-- a 'code' word, met by the world's own term for the bytes: nothing is compared byte by byte -/
theorem code_word {y : MethodName} {bytes : ByteArray} {mx : Nat} {rt : Option FieldType} {a : Array Value} {s : State} {m : MethodId} {meth : Method} {c : Code} (h1 : s.methodNamed? y = some m) (h2 : s.vm.method? m = some meth) (h3 : meth.code = some c) (h4 : c.code = bytes)
    (h5 : (c.maxLocals == mx && c.exceptionTable.isEmpty && decide (c.maxStack ≤ mostOperands) && decide (meth.sig.returnType = rt) && !meth.locks && decide (parseMethodDescriptor y.desc = some meth.sig)) = true) : (Jvm.Cond.code y bytes mx rt).before a s = true := by
  simp only [Bool.and_eq_true, beq_iff_eq, Bool.not_eq_true', decide_eq_true_eq] at h5
  obtain ⟨⟨⟨⟨⟨g1, g2⟩, g3⟩, g4⟩, g5⟩, g6⟩ := h5
  simp [Cond.before, Cond.holds, Cond.value, h1, h2, h3, h4, g1, g2, g3, g4, g5, g6]
def isCode : Jvm.Cond → Bool
  | .code _ _ _ _ => true
  | _ => false
theorem all_split {L : List Jvm.Cond} {P : Jvm.Cond → Bool} (h1 : L.all (fun c => isCode c || P c) = true) (h2 : ∀ c ∈ L.filter isCode, P c = true) : L.all P = true := by
  refine List.all_eq_true.mpr fun c hc => ?_
  have h := List.all_eq_true.mp h1 c hc
  rcases Bool.eq_false_or_eq_true (isCode c) with hi | hi
  · exact h2 c (List.mem_filter.mpr ⟨hc, hi⟩)
  · simpa [hi] using h
set_option maxRecDepth 65536 in
theorem w_c0 : (Jvm.Cond.code x code maxLocals ret).before args0 about1 = true := code_word (m := ⟨1, 2⟩) (meth := k1m2) (c := k1c2) (by decide +kernel) rfl rfl rfl (by decide +kernel)
set_option maxRecDepth 65536 in
theorem w_c1 : (Jvm.Cond.code ({ cls := "com/example/lectern/lectern/catalog/MemberSlotsEmptyPinLaw", name := "phase", desc := "(I)Lcom/example/lectern/lectern/catalog/Franklin$Phase;" } : Jvm.MethodName) method_2_code (2 : Nat) (Option.some (Jvm.ClassFile.FieldType.object "com/example/lectern/lectern/catalog/Franklin$Phase"))).before args0 about1 = true := code_word (m := ⟨1, 1⟩) (meth := k1m1) (c := k1c1) (by decide +kernel) rfl rfl rfl (by decide +kernel)
set_option maxRecDepth 65536 in
theorem w_c2 : (Jvm.Cond.code ({ cls := "com/example/lectern/lectern/catalog/Franklin$Member", name := "<init>", desc := "(Lcom/example/lectern/lectern/catalog/Franklin$Phase;III)V" } : Jvm.MethodName) prog_30_method_1_code (5 : Nat) (Option.none : Option Jvm.ClassFile.FieldType)).before args0 about1 = true := code_word (m := ⟨3, 0⟩) (meth := k3m0) (c := k3c0) (by decide +kernel) rfl rfl rfl (by decide +kernel)
set_option maxRecDepth 65536 in
theorem w_c3 : (Jvm.Cond.code ({ cls := "java/lang/Record", name := "<init>", desc := "()V" } : Jvm.MethodName) jdk_30_method_1_code (1 : Nat) (Option.none : Option Jvm.ClassFile.FieldType)).before args0 about1 = true := code_word (m := ⟨2, 0⟩) (meth := k2m0) (c := k2c0) (by decide +kernel) rfl rfl rfl (by decide +kernel)
set_option maxRecDepth 65536 in
theorem w_c4 : (Jvm.Cond.code ({ cls := "java/lang/Object", name := "<init>", desc := "()V" } : Jvm.MethodName) object_method_1_code (1 : Nat) (Option.none : Option Jvm.ClassFile.FieldType)).before args0 about1 = true := code_word (m := ⟨0, 0⟩) (meth := k0m0) (c := k0c0) (by decide +kernel) rfl rfl rfl (by decide +kernel)
set_option maxRecDepth 65536 in
theorem w_c5 : (Jvm.Cond.code ({ cls := "com/example/lectern/lectern/catalog/Franklin$Member", name := "slotsEmpty", desc := "()Z" } : Jvm.MethodName) prog_30_method_7_code (1 : Nat) (Option.some Jvm.ClassFile.FieldType.boolean)).before args0 about1 = true := code_word (m := ⟨3, 4⟩) (meth := k3m4) (c := k3c4) (by decide +kernel) rfl rfl rfl (by decide +kernel)
set_option maxRecDepth 65536 in
theorem w_c6 : (Jvm.Cond.code ({ cls := "com/example/lectern/lectern/catalog/Franklin$Member", name := "emptied", desc := "()Lcom/example/lectern/lectern/catalog/Franklin$Member;" } : Jvm.MethodName) prog_30_method_6_code (1 : Nat) (Option.some (Jvm.ClassFile.FieldType.object "com/example/lectern/lectern/catalog/Franklin$Member"))).before args0 about1 = true := code_word (m := ⟨3, 3⟩) (meth := k3m3) (c := k3c3) (by decide +kernel) rfl rfl rfl (by decide +kernel)
set_option maxRecDepth 65536 in
theorem w_c7 : (Jvm.Cond.code ({ cls := "com/example/lectern/lectern/catalog/Franklin$Member", name := "takenFromLeft", desc := "(I)Lcom/example/lectern/lectern/catalog/Franklin$Member;" } : Jvm.MethodName) prog_30_method_4_code (2 : Nat) (Option.some (Jvm.ClassFile.FieldType.object "com/example/lectern/lectern/catalog/Franklin$Member"))).before args0 about1 = true := code_word (m := ⟨3, 1⟩) (meth := k3m1) (c := k3c1) (by decide +kernel) rfl rfl rfl (by decide +kernel)
set_option maxRecDepth 65536 in
theorem w_c8 : (Jvm.Cond.code ({ cls := "com/example/lectern/lectern/catalog/Franklin$Member", name := "takenFromRight", desc := "(I)Lcom/example/lectern/lectern/catalog/Franklin$Member;" } : Jvm.MethodName) prog_30_method_5_code (2 : Nat) (Option.some (Jvm.ClassFile.FieldType.object "com/example/lectern/lectern/catalog/Franklin$Member"))).before args0 about1 = true := code_word (m := ⟨3, 2⟩) (meth := k3m2) (c := k3c2) (by decide +kernel) rfl rfl rfl (by decide +kernel)
set_option maxRecDepth 65536 in
theorem w_c9 : (Jvm.Cond.code ({ cls := "com/example/lectern/lectern/catalog/Franklin$Member", name := "slotsFull", desc := "()Z" } : Jvm.MethodName) prog_30_method_8_code (1 : Nat) (Option.some Jvm.ClassFile.FieldType.boolean)).before args0 about1 = true := code_word (m := ⟨3, 5⟩) (meth := k3m5) (c := k3c5) (by decide +kernel) rfl rfl rfl (by decide +kernel)
def codes1 : List Jvm.Cond := [Jvm.Cond.code x code maxLocals ret, Jvm.Cond.code ({ cls := "com/example/lectern/lectern/catalog/MemberSlotsEmptyPinLaw", name := "phase", desc := "(I)Lcom/example/lectern/lectern/catalog/Franklin$Phase;" } : Jvm.MethodName) method_2_code (2 : Nat) (Option.some (Jvm.ClassFile.FieldType.object "com/example/lectern/lectern/catalog/Franklin$Phase")), Jvm.Cond.code ({ cls := "com/example/lectern/lectern/catalog/Franklin$Member", name := "<init>", desc := "(Lcom/example/lectern/lectern/catalog/Franklin$Phase;III)V" } : Jvm.MethodName) prog_30_method_1_code (5 : Nat) (Option.none : Option Jvm.ClassFile.FieldType), Jvm.Cond.code ({ cls := "java/lang/Record", name := "<init>", desc := "()V" } : Jvm.MethodName) jdk_30_method_1_code (1 : Nat) (Option.none : Option Jvm.ClassFile.FieldType), Jvm.Cond.code ({ cls := "java/lang/Object", name := "<init>", desc := "()V" } : Jvm.MethodName) object_method_1_code (1 : Nat) (Option.none : Option Jvm.ClassFile.FieldType), Jvm.Cond.code ({ cls := "com/example/lectern/lectern/catalog/Franklin$Member", name := "slotsEmpty", desc := "()Z" } : Jvm.MethodName) prog_30_method_7_code (1 : Nat) (Option.some Jvm.ClassFile.FieldType.boolean), Jvm.Cond.code ({ cls := "com/example/lectern/lectern/catalog/Franklin$Member", name := "emptied", desc := "()Lcom/example/lectern/lectern/catalog/Franklin$Member;" } : Jvm.MethodName) prog_30_method_6_code (1 : Nat) (Option.some (Jvm.ClassFile.FieldType.object "com/example/lectern/lectern/catalog/Franklin$Member")), Jvm.Cond.code ({ cls := "com/example/lectern/lectern/catalog/Franklin$Member", name := "takenFromLeft", desc := "(I)Lcom/example/lectern/lectern/catalog/Franklin$Member;" } : Jvm.MethodName) prog_30_method_4_code (2 : Nat) (Option.some (Jvm.ClassFile.FieldType.object "com/example/lectern/lectern/catalog/Franklin$Member")), Jvm.Cond.code ({ cls := "com/example/lectern/lectern/catalog/Franklin$Member", name := "takenFromRight", desc := "(I)Lcom/example/lectern/lectern/catalog/Franklin$Member;" } : Jvm.MethodName) prog_30_method_5_code (2 : Nat) (Option.some (Jvm.ClassFile.FieldType.object "com/example/lectern/lectern/catalog/Franklin$Member")), Jvm.Cond.code ({ cls := "com/example/lectern/lectern/catalog/Franklin$Member", name := "slotsFull", desc := "()Z" } : Jvm.MethodName) prog_30_method_8_code (1 : Nat) (Option.some Jvm.ClassFile.FieldType.boolean)]
set_option maxRecDepth 65536 in
theorem codes_eq : words1.filter isCode = codes1 := rfl
theorem w_codes : ∀ c ∈ words1.filter isCode, c.before args0 about1 = true := by
  rw [codes_eq]
  intro c hc
  simp only [codes1, List.mem_cons, List.not_mem_nil, or_false] at hc
  rcases hc with rfl | rfl | rfl | rfl | rfl | rfl | rfl | rfl | rfl | rfl
  · exact w_c0
  · exact w_c1
  · exact w_c2
  · exact w_c3
  · exact w_c4
  · exact w_c5
  · exact w_c6
  · exact w_c7
  · exact w_c8
  · exact w_c9
set_option maxRecDepth 65536 in
theorem w_t1 : (words1.take 24).all (fun c => isCode c || c.before args0 about1) = true := by decide +kernel
set_option maxRecDepth 65536 in
theorem w_t2 : ((words1.drop 24).take 24).all (fun c => isCode c || c.before args0 about1) = true := by decide +kernel
set_option maxRecDepth 65536 in
theorem w_t3 : ((words1.drop 24).drop 24).all (fun c => isCode c || c.before args0 about1) = true := by decide +kernel
theorem w_tables : (allAtoms (Jvm.Cond.code x code maxLocals ret :: tables_1)).before args0 about1 = true := by
  rw [allAtoms_all]
  show words1.all (fun c => c.before args0 about1) = true
  refine all_split ?_ w_codes
  rw [← List.take_append_drop 24 words1, List.all_append, w_t1, ← List.take_append_drop 24 (words1.drop 24), List.all_append, w_t2, w_t3]
  rfl
set_option maxRecDepth 65536 in
theorem w_case : (Jvm.Cond.and given_1 narrow_1).before args0 about1 = true := by decide +kernel
theorem w_applies : (headSpec (Jvm.Cond.code x code maxLocals ret :: tables_1) room_1).applies x e0.platform about1 = true :=
  (Spec.applies_iff w_frames).mpr ⟨w_running, w_runnable, w_alone, w_named, w_hears, w_ripe, w_room, w_tables⟩
theorem atStart : AtStart classFile x code maxLocals ret World_1 tables_1 room_1 Calls_1 rest_1 Pre_1 launch0 p0 e0 about1 theMethod args0 below0 :=
  ⟨lists_1, trivial, launch0.admits_env _ _ _, launch0.least_env, fairChoices_fair.cas, fairChoices_fair.clock, w_frames, w_args, w_heap, w_applies, trivial, trivial, w_case⟩
end start1
theorem witness_1 : WitnessClaimed_1 := ⟨start1.p0, start1.e0, start1.about1, start1.theMethod, start1.args0, start1.below0, start1.atStart⟩
end Jvm.Pilot.@@N@@
