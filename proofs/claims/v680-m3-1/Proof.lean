import JvmDerived
import JvmDerived.Pilot.@@N@@Statement
import JvmDerived.Pilot.@@N@@Code
set_option linter.unusedVariables false
set_option linter.unusedSimpArgs false
namespace Jvm.Pilot.@@N@@
open Jvm Jvm.ClassFile Sem Op Lib Jvm.Free Jvm.Stand Jvm.LawKit Jvm.RoadKit Bundle Jvm.Pilot.@@N@@.Jvm.D

def Go (tb : Tables) (e : Env) (below : List Frame) (a : State) (P : Outcome → State → Prop) : Prop := ∃ s₂ o, Steps tb e below a s₂ ∧ s₂.status = .running ∧ Ended s₂ below o ∧ P o s₂
theorem Go.st {tb : Tables} {e : Env} {below : List Frame} {a b : State} {P : Outcome → State → Prop} (h : ∀ t, Steps tb e below b t → Steps tb e below a t) (k : Go tb e below b P) : Go tb e below a P := by
  obtain ⟨s, o, h1, h2⟩ := k
  exact ⟨s, o, h _ h1, h2⟩
theorem Go.tr {tb : Tables} {e : Env} {below : List Frame} {a b : State} {P : Outcome → State → Prop} (h : Steps tb e below a b) (k : Go tb e below b P) : Go tb e below a P := Go.st (fun _ q => h.trans q) k
theorem Go.fr {tb : Tables} {e : Env} {below : List Frame} {T : State} {g g' : JFrame} {P : Outcome → State → Prop} (q : g = g') (k : Go tb e below (T.setTop g') P) : Go tb e below (T.setTop g) P := q ▸ k
theorem Go.fin {tb : Tables} {e : Env} {below : List Frame} {a s₂ : State} {o : Outcome} {P : Outcome → State → Prop} (hs : Steps tb e below a s₂) (hr : s₂.status = .running) (he : Ended s₂ below o) (hP : P o s₂) : Go tb e below a P := ⟨_, _, hs, hr, he, hP⟩
theorem exa_ns {Z : State} {h : Heap} {a : Addr} {C : String} (F : Exa Z h a C) : ∃ c : Cell, h[a]? = some c ∧ c.vm.isStatics = false := by
  obtain ⟨c, _, h1, -, -, h4, -⟩ := F
  exact ⟨c, h1, h4⟩
theorem fld_ns {Z : State} {h : Heap} {a : Addr} {C n d : String} {v : Value} (F : Fld Z h a C n d v) : ∃ c : Cell, h[a]? = some c ∧ c.vm.isStatics = false := by
  obtain ⟨c, _, _, _, _, h1, -, -, -, h4, -⟩ := F
  exact ⟨c, h1, h4⟩
theorem arv_ns {Z : State} {h : Heap} {a : Addr} {k : ClassId} {ty : FieldType} {n : Int32} {vs : List Value} {d : Value} (F : Arv Z h a k ty n vs d) : ∃ c : Cell, h[a]? = some c ∧ c.vm.isStatics = false := by
  obtain ⟨c, A, -⟩ := F
  exact ⟨c, A.1, A.plain⟩
theorem sta_keep {Z : State} {h h' : Heap} {C n d : String} {v : Value} {ws : List Addr} (F : Sta Z h C n d v) (K : Keep h h' ws) (q : ∀ x ∈ ws, ∃ c : Cell, h[x]? = some c ∧ c.vm.isStatics = false) : Sta Z h' C n d v := by
  obtain ⟨cf, i, k, f, st, cell, h1, h2, h3, h4, h5, h6, h7⟩ := F
  refine ⟨cf, i, k, f, st, cell, h1, h2, h3, h4, K.2.1 st cell h5 fun z => ?_, h6, h7⟩
  obtain ⟨c, q1, q2⟩ := q st z
  cases q1.symm.trans h5
  rw [q2] at h6
  cases h6
theorem own_selp {s : State} {args : Array Value} {y : MethodName} {n : Nat} (wi : (Cond.instantiable y.cls n).before args s = true) (hp : s.PrivateAt y) (hi : (Cond.instanceMethod y).before args s = true) (hy : y.cls ≠ "java/lang/invoke/MethodHandle" ∧ y.cls ≠ "java/lang/invoke/VarHandle") : (Cond.selects y.cls y y).before args s = true := by
  obtain ⟨c, k, h1, h2, -, h4, -⟩ := Cond.instantiable_spec wi
  simp only [Bool.or_eq_false_iff] at h4
  exact selects_self_of_private h1 h2 h4.1 hp hi hy
theorem own_ne32 {x k : Int32} {a : Int} (ha : k.toInt = a) (h : ¬ x = k) : a ≠ x.toInt := fun e => h (Int32.toInt_inj.mp (e.symm.trans ha.symm))
theorem own_nn (x : Int32) : 0 ≤ (x &&& (2147483647 : Int32)).toInt := (c_andS x 2147483647).2.2 (by decide)
theorem own_rem (x : Int32) (k : Int32) (d : Int) (hd : k.toInt = d) (h0 : 0 < d) : 0 ≤ ((x &&& (2147483647 : Int32)) % k).toInt ∧ ((x &&& (2147483647 : Int32)) % k).toInt < d := by
  have h := own_nn x
  rw [Int32.toInt_mod, hd]
  exact ⟨Int.tmod_nonneg _ h, Int.tmod_lt_of_pos _ h0⟩
theorem own_remb (x : Int32) (k : Int32) (d : Int) (hd : k.toInt = d) (h0 : 0 < d) : ¬ ((x &&& (2147483647 : Int32)) % k) < 0 ∧ ((x &&& (2147483647 : Int32)) % k) < k := by
  obtain ⟨h1, h2⟩ := own_rem x k d hd h0
  rw [Int32.lt_iff_toInt_lt, Int32.lt_iff_toInt_lt, hd]
  exact ⟨Int.not_lt.mpr h1, h2⟩
def own_at (xs : List Int32) (j : Int32) : Int32 := xs.getD j.toNatClampNeg 0
theorem own_atv (xs : List Int32) (j : Int32) : (xs.map Value.int).getD j.toNatClampNeg (.int 0) = .int (own_at xs j) := by
  unfold own_at
  generalize j.toNatClampNeg = n
  induction xs generalizing n with
  | nil => rfl
  | cons a r ih => cases n with
    | zero => rfl
    | succ n => simpa using ih n
theorem own_setl {l : List Value} {k n : Nat} {v : Value} (h : l.length = n) : (l.set k v).length = n := by rw [List.length_set]; exact h
theorem own_setg {l : List Value} {k : Nat} {v d : Value} (h : k < l.length) : (l.set k v).getD k d = v := by simp [List.getD, List.getElem?_set, h]
theorem own_setn {l : List Value} {k i : Nat} {v d : Value} (h : i ≠ k) : (l.set k v).getD i d = l.getD i d := by simp [List.getD, List.getElem?_set, Ne.symm h]
theorem own_lt_of {l : List Value} {n : Nat} {j z : Int32} (h : l.length = n) (q : ¬ j < 0 ∧ j < z) (hz : z.toNatClampNeg = n := by decide) : j.toNatClampNeg < l.length := by
  rw [h, ← hz]
  obtain ⟨q1, q2⟩ := q
  rw [Int32.lt_iff_toInt_lt] at q1 q2
  have : (0 : Int32).toInt = 0 := rfl
  simp only [Int32.toNatClampNeg]
  omega
theorem own_eqi {args : Array Value} {s : State} {t : Term} {k : Int32} (h : (Jvm.Cond.eq t (.int k)).value args s none s [] = some true) : t.eval args s none [] s = some (.int k) := by
  simp only [Cond.value, Term.eval] at h
  cases ht : t.eval args s none [] s with
  | none => simp [ht] at h
  | some x => cases x <;> simp_all
theorem wd3 {Z : State} {a0 : Array Value} (hw : ∀ d ∈ tables_1, d.before a0 Z = true) : (Jvm.Cond.methodLink "com/example/lectern/lectern/catalog/MemberSlotsFullPinLaw" (24 : Nat) ({ cls := "com/example/lectern/lectern/catalog/MemberSlotsFullPinLaw", name := "phase", desc := "(I)Lcom/example/lectern/lectern/catalog/Franklin$Phase;" } : Jvm.MethodName)).before a0 Z = true := hw _ (List.mem_of_getElem? (i := 3) rfl)
theorem wd10 {Z : State} {a0 : Array Value} (hw : ∀ d ∈ tables_1, d.before a0 Z = true) : (Jvm.Cond.methodLink "com/example/lectern/lectern/catalog/MemberSlotsFullPinLaw" (30 : Nat) ({ cls := "com/example/lectern/lectern/catalog/Franklin$Member", name := "<init>", desc := "(Lcom/example/lectern/lectern/catalog/Franklin$Phase;III)V" } : Jvm.MethodName)).before a0 Z = true := hw _ (List.mem_of_getElem? (i := 10) rfl)
theorem wd29 {Z : State} {a0 : Array Value} (hw : ∀ d ∈ tables_1, d.before a0 Z = true) : (Jvm.Cond.methodLink "com/example/lectern/lectern/catalog/MemberSlotsFullPinLaw" (33 : Nat) ({ cls := "com/example/lectern/lectern/catalog/Franklin$Member", name := "slotsFull", desc := "()Z" } : Jvm.MethodName)).before a0 Z = true := hw _ (List.mem_of_getElem? (i := 29) rfl)
theorem wd34 {Z : State} {a0 : Array Value} (hw : ∀ d ∈ tables_1, d.before a0 Z = true) : (Jvm.Cond.methodLink "com/example/lectern/lectern/catalog/MemberSlotsFullPinLaw" (37 : Nat) ({ cls := "com/example/lectern/lectern/catalog/MemberSlotsFullPinLaw", name := "holdsId", desc := "(I)Z" } : Jvm.MethodName)).before a0 Z = true := hw _ (List.mem_of_getElem? (i := 34) rfl)
theorem wd37 {Z : State} {a0 : Array Value} (hw : ∀ d ∈ tables_1, d.before a0 Z = true) : (Jvm.Cond.methodLink "com/example/lectern/lectern/catalog/MemberSlotsFullPinLaw" (41 : Nat) ({ cls := "com/example/lectern/lectern/catalog/Franklin$Member", name := "slotsEmpty", desc := "()Z" } : Jvm.MethodName)).before a0 Z = true := hw _ (List.mem_of_getElem? (i := 37) rfl)
theorem wd42 {Z : State} {a0 : Array Value} (hw : ∀ d ∈ tables_1, d.before a0 Z = true) : (Jvm.Cond.methodLink "com/example/lectern/lectern/catalog/MemberSlotsFullPinLaw" (44 : Nat) ({ cls := "com/example/lectern/lectern/catalog/Franklin$Member", name := "emptied", desc := "()Lcom/example/lectern/lectern/catalog/Franklin$Member;" } : Jvm.MethodName)).before a0 Z = true := hw _ (List.mem_of_getElem? (i := 42) rfl)
theorem wd13 {Z : State} {a0 : Array Value} (hw : ∀ d ∈ tables_1, d.before a0 Z = true) : (Jvm.Cond.methodLink "com/example/lectern/lectern/catalog/Franklin$Member" (3 : Nat) ({ cls := "java/lang/Record", name := "<init>", desc := "()V" } : Jvm.MethodName)).before a0 Z = true := hw _ (List.mem_of_getElem? (i := 13) rfl)
theorem wd18 {Z : State} {a0 : Array Value} (hw : ∀ d ∈ tables_1, d.before a0 Z = true) : (Jvm.Cond.methodLink "java/lang/Record" (1 : Nat) ({ cls := "java/lang/Object", name := "<init>", desc := "()V" } : Jvm.MethodName)).before a0 Z = true := hw _ (List.mem_of_getElem? (i := 18) rfl)
theorem wd48 {Z : State} {a0 : Array Value} (hw : ∀ d ∈ tables_1, d.before a0 Z = true) : (Jvm.Cond.methodLink "com/example/lectern/lectern/catalog/Franklin$Member" (25 : Nat) ({ cls := "com/example/lectern/lectern/catalog/Franklin$Member", name := "<init>", desc := "(Lcom/example/lectern/lectern/catalog/Franklin$Phase;III)V" } : Jvm.MethodName)).before a0 Z = true := hw _ (List.mem_of_getElem? (i := 48) rfl)
theorem d1_0 : decode method_2_code 0 = .ok (.iload_n 0, 1) := by decide +kernel
theorem d1_1 : decode method_2_code 1 = .ok (.iconst 3, 1) := by decide +kernel
theorem d1_2 : decode method_2_code 2 = .ok (.iand, 1) := by decide +kernel
theorem d1_3 : decode method_2_code 3 = .ok (.istore_n 1, 1) := by decide +kernel
theorem d1_4 : decode method_2_code 4 = .ok (.iload_n 1, 1) := by decide +kernel
theorem d1_5 : decode method_2_code 5 = .ok (.ifCond .ne 7, 3) := by decide +kernel
theorem d1_8 : decode method_2_code 8 = .ok (.getstatic 7, 3) := by decide +kernel
theorem wd7 {Z : State} {a0 : Array Value} (hw : ∀ d ∈ tables_1, d.before a0 Z = true) : (Jvm.Cond.fieldLink "com/example/lectern/lectern/catalog/MemberSlotsFullPinLaw" (7 : Nat) "com/example/lectern/lectern/catalog/Franklin$Phase" "NORMAL" "Lcom/example/lectern/lectern/catalog/Franklin$Phase;").before a0 Z = true := hw _ (List.mem_of_getElem? (i := 7) rfl)
theorem d1_11 : decode method_2_code 11 = .ok (.areturn, 1) := by decide +kernel
theorem d1_12 : decode method_2_code 12 = .ok (.iload_n 1, 1) := by decide +kernel
theorem d1_13 : decode method_2_code 13 = .ok (.iconst 1, 1) := by decide +kernel
theorem d1_14 : decode method_2_code 14 = .ok (.if_icmp .ne 7, 3) := by decide +kernel
theorem d1_17 : decode method_2_code 17 = .ok (.getstatic 13, 3) := by decide +kernel
theorem wd53 {Z : State} {a0 : Array Value} (hw : ∀ d ∈ tables_1, d.before a0 Z = true) : (Jvm.Cond.fieldLink "com/example/lectern/lectern/catalog/MemberSlotsFullPinLaw" (13 : Nat) "com/example/lectern/lectern/catalog/Franklin$Phase" "INITIATOR" "Lcom/example/lectern/lectern/catalog/Franklin$Phase;").before a0 Z = true := hw _ (List.mem_of_getElem? (i := 53) rfl)
theorem d1_20 : decode method_2_code 20 = .ok (.areturn, 1) := by decide +kernel
theorem d1_21 : decode method_2_code 21 = .ok (.iload_n 1, 1) := by decide +kernel
theorem d1_22 : decode method_2_code 22 = .ok (.iconst 2, 1) := by decide +kernel
theorem d1_23 : decode method_2_code 23 = .ok (.if_icmp .ne 7, 3) := by decide +kernel
theorem d1_26 : decode method_2_code 26 = .ok (.getstatic 16, 3) := by decide +kernel
theorem wd51 {Z : State} {a0 : Array Value} (hw : ∀ d ∈ tables_1, d.before a0 Z = true) : (Jvm.Cond.fieldLink "com/example/lectern/lectern/catalog/MemberSlotsFullPinLaw" (16 : Nat) "com/example/lectern/lectern/catalog/Franklin$Phase" "PASSIVE" "Lcom/example/lectern/lectern/catalog/Franklin$Phase;").before a0 Z = true := hw _ (List.mem_of_getElem? (i := 51) rfl)
theorem d1_29 : decode method_2_code 29 = .ok (.areturn, 1) := by decide +kernel
theorem d1_30 : decode method_2_code 30 = .ok (.getstatic 19, 3) := by decide +kernel
theorem wd49 {Z : State} {a0 : Array Value} (hw : ∀ d ∈ tables_1, d.before a0 Z = true) : (Jvm.Cond.fieldLink "com/example/lectern/lectern/catalog/MemberSlotsFullPinLaw" (19 : Nat) "com/example/lectern/lectern/catalog/Franklin$Phase" "LEADER" "Lcom/example/lectern/lectern/catalog/Franklin$Phase;").before a0 Z = true := hw _ (List.mem_of_getElem? (i := 49) rfl)
theorem d1_33 : decode method_2_code 33 = .ok (.areturn, 1) := by decide +kernel
theorem pn0 : plainName "com/example/lectern/lectern/catalog/MemberSlotsFullPinLaw" = true := by first | (simp [plainName, overriddenIn]; done) | decide +kernel
def f1 (p1 : Int32) (w_NORMAL : Addr) (w_INITIATOR : Addr) (w_PASSIVE : Addr) (w_LEADER : Addr) : Addr := (if (p1 &&& (3 : Int32)) = (0 : Int32) then w_NORMAL else (if (p1 &&& (3 : Int32)) = (1 : Int32) then w_INITIATOR else (if (p1 &&& (3 : Int32)) = (2 : Int32) then w_PASSIVE else w_LEADER)))
def Q1 (Z : State) (p1 : Int32) (w_NORMAL : Addr) (w_INITIATOR : Addr) (w_PASSIVE : Addr) (w_LEADER : Addr) (h0 : Heap) (n0 : Nat) (v : Option Value) (h : Heap) (L : List Loc) : Prop := v = some (.ref (f1 p1 w_NORMAL w_INITIATOR w_PASSIVE w_LEADER)) ∧ Fr n0 L ∧ h = h0 ∧ Exa Z h (f1 p1 w_NORMAL w_INITIATOR w_PASSIVE w_LEADER) "com/example/lectern/lectern/catalog/Franklin$Phase"
theorem ef1 (m : MethodId) (x0 : Int32) : entryFrame m #[(.int x0)] 2 = mkF m 0 #[.val (.int x0), .unset] [] := by first | (simp [entryFrame, mkF, argsToLocals, Value.category]; done) | rfl
set_option maxRecDepth 65536 in
set_option maxHeartbeats 16000000 in
theorem rm1 (l : Launch) (Z : State) (a0 : Array Value) (hw : ∀ d ∈ tables_1, d.before a0 Z = true) (ws : List Jvm.Cond) (p1 : Int32) (w_NORMAL : Addr) (w_INITIATOR : Addr) (w_PASSIVE : Addr) (w_LEADER : Addr) (h0 : Heap) (n0 : Nat) (Z0 : n0 ≤ h0.size) (S_NORMAL : Sta Z h0 "com/example/lectern/lectern/catalog/Franklin$Phase" "NORMAL" "Lcom/example/lectern/lectern/catalog/Franklin$Phase;" (.ref w_NORMAL)) (E_w_NORMAL : Exa Z h0 w_NORMAL "com/example/lectern/lectern/catalog/Franklin$Phase") (S_INITIATOR : Sta Z h0 "com/example/lectern/lectern/catalog/Franklin$Phase" "INITIATOR" "Lcom/example/lectern/lectern/catalog/Franklin$Phase;" (.ref w_INITIATOR)) (E_w_INITIATOR : Exa Z h0 w_INITIATOR "com/example/lectern/lectern/catalog/Franklin$Phase") (S_PASSIVE : Sta Z h0 "com/example/lectern/lectern/catalog/Franklin$Phase" "PASSIVE" "Lcom/example/lectern/lectern/catalog/Franklin$Phase;" (.ref w_PASSIVE)) (E_w_PASSIVE : Exa Z h0 w_PASSIVE "com/example/lectern/lectern/catalog/Franklin$Phase") (S_LEADER : Sta Z h0 "com/example/lectern/lectern/catalog/Franklin$Phase" "LEADER" "Lcom/example/lectern/lectern/catalog/Franklin$Phase;" (.ref w_LEADER)) (E_w_LEADER : Exa Z h0 w_LEADER "com/example/lectern/lectern/catalog/Franklin$Phase") :
    MetFree l (⟨"com/example/lectern/lectern/catalog/MemberSlotsFullPinLaw", "phase", "(I)Lcom/example/lectern/lectern/catalog/Franklin$Phase;"⟩ : MethodName) (head1 (Jvm.Cond.code (⟨"com/example/lectern/lectern/catalog/MemberSlotsFullPinLaw", "phase", "(I)Lcom/example/lectern/lectern/catalog/Franklin$Phase;"⟩ : MethodName) method_2_code 2 (some (.object "com/example/lectern/lectern/catalog/Franklin$Phase")) :: ws) ({ frames := 0, cells := 0, slots := 0, locals := 0 } : Room)) (fun a U => a = #[(.int p1)] ∧ Z.Warmed39 U.vm ∧ U.heap = h0) (fun _ _ _ _ _ => True) (fun _ U o U' => ∃ v L, o = .returned v ∧ Q1 Z p1 w_NORMAL w_INITIATOR w_PASSIVE w_LEADER h0 n0 v U'.heap L ∧ FrameEnd U o U' L ({ frames := 0, cells := 0, slots := 0, locals := 0 } : Room).cells ({ frames := 0, cells := 0, slots := 0, locals := 0 } : Room).slots) := by
  refine MetFree.of_bodySF (plainFor_of_name pn0) hisR ?_
  intro p e s m args below meth c s₁ Bd hml0 hP hK
  obtain ⟨rfl, hZ, hh⟩ := hP
  have hx := Bd.exec
  have hby := Bd.bytes
  have hml : c.maxLocals = 2 := hml0
  have hown : s.vm.findClass "com/example/lectern/lectern/catalog/MemberSlotsFullPinLaw" = some m.cls := findClass_of_methodNamed Bd.named
  have hnm := (name_of_methodNamed Bd.named Bd.method).1
  have X0 : Stand p l e ({ frames := 0, cells := 0, slots := 0, locals := 0 } : Room) s m #[(.int p1)] below meth c s₁ [] 0 0 := Stand.of_body Bd
  have e0 : s₁.heap = h0 := by rw [← hh, Bd.state]; rfl
  have N0 := Fr.nil n0
  have K0 : Keep h0 h0 [] := Keep.refl h0 _
  refine Go.st (P := fun o U' => ∃ v L, o = .returned v ∧ Q1 Z p1 w_NORMAL w_INITIATOR w_PASSIVE w_LEADER h0 n0 v U'.heap L ∧ FrameEnd s o U' L ({ frames := 0, cells := 0, slots := 0, locals := 0 } : Room).cells ({ frames := 0, cells := 0, slots := 0, locals := 0 } : Room).slots) (fun t k => castTop (ef1 m p1) k) ?_
  show Go _ _ _ (s₁.setTop (mkF m 0 #[.val (.int p1), .unset] [])) _
  refine Go.st (fun t k => XS.iloadN X0.here hx rfl (hb hby d1_0) rfl k) ?_
  refine Go.st (fun t k => XS.iconst X0.here hx rfl (hb hby d1_1) k) ?_
  refine Go.st (fun t k => XS.iand X0.here hx rfl (hb hby d1_2) rfl k) ?_
  show Go _ _ _ (s₁.setTop (mkF m 3 #[.val (.int p1), .unset] [(.int (p1 &&& (3 : Int32)))])) _
  refine Go.st (fun t k => XS.istoreN X0.here hx rfl (hb hby d1_3) rfl (l' := #[.val (.int p1), .val (.int (p1 &&& (3 : Int32)))]) rfl k) ?_
  refine Go.st (fun t k => XS.iloadN X0.here hx rfl (hb hby d1_4) rfl k) ?_
  by_cases hc1 : (p1 &&& (3 : Int32)) = (0 : Int32)
  · refine Go.st (fun t k => XS.ifNo X0.here hx rfl (hb hby d1_5) rfl ((if0 _ _).trans (teq hc1).2) k) ?_
    show Go _ _ _ (s₁.setTop (mkF m 8 #[.val (.int p1), .val (.int (p1 &&& (3 : Int32)))] [])) _
    obtain ⟨T2, X2, e2, st2⟩ := getS2 X0 hx hZ hown (host := "") (Or.inl (wd7 hw)) Via.refl e0 S_NORMAL (g := (mkF m 8 #[.val (.int p1), .val (.int (p1 &&& (3 : Int32)))] [])) rfl (hb hby d1_8)
    refine Go.st st2 ?_
    show Go _ _ _ (T2.setTop (mkF m 11 #[.val (.int p1), .val (.int (p1 &&& (3 : Int32)))] [(.ref w_NORMAL)])) _
    obtain ⟨fs, hr, hrun, hended, hW, hsame⟩ := X2.leave (v := some (.ref w_NORMAL)) (fun h => by rw [Bd.returns] at h; cases h)
    refine Go.fin (retOut X2 hx Bd.returns rfl (Or.inr (Or.inr (Or.inr (Or.inr ⟨rfl, rfl, rfl⟩)))) (hb hby d1_11) hr) hrun hended ⟨_, _, rfl, ?_, ⟨_, rfl⟩, hW, hsame.mono (by decide) (by decide)⟩
    show Q1 Z p1 w_NORMAL w_INITIATOR w_PASSIVE w_LEADER h0 n0 _ T2.heap _
    rw [e2]
    exact ⟨(by unfold f1; simp only [if_pos hc1]), N0, rfl, (by unfold f1; simp only [if_pos hc1]; exact E_w_NORMAL)⟩
  · refine Go.st (fun t k => XS.ifYes X0.here hx rfl (pc0 := 5) (pc' := 12) rfl (hb hby d1_5) rfl ((if0 _ _).trans (feq hc1).2) (by decide) (by decide) k) ?_
    show Go _ _ _ (s₁.setTop (mkF m 12 #[.val (.int p1), .val (.int (p1 &&& (3 : Int32)))] [])) _
    refine Go.st (fun t k => XS.iloadN X0.here hx rfl (hb hby d1_12) rfl k) ?_
    refine Go.st (fun t k => XS.iconst X0.here hx rfl (hb hby d1_13) k) ?_
    by_cases hc3 : (p1 &&& (3 : Int32)) = (1 : Int32)
    · refine Go.st (fun t k => XS.icmpNo X0.here hx rfl (hb hby d1_14) rfl (teq hc3).2 k) ?_
      show Go _ _ _ (s₁.setTop (mkF m 17 #[.val (.int p1), .val (.int (p1 &&& (3 : Int32)))] [])) _
      obtain ⟨T4, X4, e4, st4⟩ := getS2 X0 hx hZ hown (host := "") (Or.inl (wd53 hw)) Via.refl e0 S_INITIATOR (g := (mkF m 17 #[.val (.int p1), .val (.int (p1 &&& (3 : Int32)))] [])) rfl (hb hby d1_17)
      refine Go.st st4 ?_
      show Go _ _ _ (T4.setTop (mkF m 20 #[.val (.int p1), .val (.int (p1 &&& (3 : Int32)))] [(.ref w_INITIATOR)])) _
      obtain ⟨fs, hr, hrun, hended, hW, hsame⟩ := X4.leave (v := some (.ref w_INITIATOR)) (fun h => by rw [Bd.returns] at h; cases h)
      refine Go.fin (retOut X4 hx Bd.returns rfl (Or.inr (Or.inr (Or.inr (Or.inr ⟨rfl, rfl, rfl⟩)))) (hb hby d1_20) hr) hrun hended ⟨_, _, rfl, ?_, ⟨_, rfl⟩, hW, hsame.mono (by decide) (by decide)⟩
      show Q1 Z p1 w_NORMAL w_INITIATOR w_PASSIVE w_LEADER h0 n0 _ T4.heap _
      rw [e4]
      exact ⟨(by unfold f1; simp only [if_neg hc1, if_pos hc3]), N0, rfl, (by unfold f1; simp only [if_neg hc1, if_pos hc3]; exact E_w_INITIATOR)⟩
    · refine Go.st (fun t k => XS.icmpYes X0.here hx rfl (pc0 := 14) (pc' := 21) rfl (hb hby d1_14) rfl (feq hc3).2 (by decide) (by decide) k) ?_
      show Go _ _ _ (s₁.setTop (mkF m 21 #[.val (.int p1), .val (.int (p1 &&& (3 : Int32)))] [])) _
      refine Go.st (fun t k => XS.iloadN X0.here hx rfl (hb hby d1_21) rfl k) ?_
      refine Go.st (fun t k => XS.iconst X0.here hx rfl (hb hby d1_22) k) ?_
      by_cases hc5 : (p1 &&& (3 : Int32)) = (2 : Int32)
      · refine Go.st (fun t k => XS.icmpNo X0.here hx rfl (hb hby d1_23) rfl (teq hc5).2 k) ?_
        show Go _ _ _ (s₁.setTop (mkF m 26 #[.val (.int p1), .val (.int (p1 &&& (3 : Int32)))] [])) _
        obtain ⟨T6, X6, e6, st6⟩ := getS2 X0 hx hZ hown (host := "") (Or.inl (wd51 hw)) Via.refl e0 S_PASSIVE (g := (mkF m 26 #[.val (.int p1), .val (.int (p1 &&& (3 : Int32)))] [])) rfl (hb hby d1_26)
        refine Go.st st6 ?_
        show Go _ _ _ (T6.setTop (mkF m 29 #[.val (.int p1), .val (.int (p1 &&& (3 : Int32)))] [(.ref w_PASSIVE)])) _
        obtain ⟨fs, hr, hrun, hended, hW, hsame⟩ := X6.leave (v := some (.ref w_PASSIVE)) (fun h => by rw [Bd.returns] at h; cases h)
        refine Go.fin (retOut X6 hx Bd.returns rfl (Or.inr (Or.inr (Or.inr (Or.inr ⟨rfl, rfl, rfl⟩)))) (hb hby d1_29) hr) hrun hended ⟨_, _, rfl, ?_, ⟨_, rfl⟩, hW, hsame.mono (by decide) (by decide)⟩
        show Q1 Z p1 w_NORMAL w_INITIATOR w_PASSIVE w_LEADER h0 n0 _ T6.heap _
        rw [e6]
        exact ⟨(by unfold f1; simp only [if_neg hc1, if_neg hc3, if_pos hc5]), N0, rfl, (by unfold f1; simp only [if_neg hc1, if_neg hc3, if_pos hc5]; exact E_w_PASSIVE)⟩
      · refine Go.st (fun t k => XS.icmpYes X0.here hx rfl (pc0 := 23) (pc' := 30) rfl (hb hby d1_23) rfl (feq hc5).2 (by decide) (by decide) k) ?_
        show Go _ _ _ (s₁.setTop (mkF m 30 #[.val (.int p1), .val (.int (p1 &&& (3 : Int32)))] [])) _
        obtain ⟨T7, X7, e7, st7⟩ := getS2 X0 hx hZ hown (host := "") (Or.inl (wd49 hw)) Via.refl e0 S_LEADER (g := (mkF m 30 #[.val (.int p1), .val (.int (p1 &&& (3 : Int32)))] [])) rfl (hb hby d1_30)
        refine Go.st st7 ?_
        show Go _ _ _ (T7.setTop (mkF m 33 #[.val (.int p1), .val (.int (p1 &&& (3 : Int32)))] [(.ref w_LEADER)])) _
        obtain ⟨fs, hr, hrun, hended, hW, hsame⟩ := X7.leave (v := some (.ref w_LEADER)) (fun h => by rw [Bd.returns] at h; cases h)
        refine Go.fin (retOut X7 hx Bd.returns rfl (Or.inr (Or.inr (Or.inr (Or.inr ⟨rfl, rfl, rfl⟩)))) (hb hby d1_33) hr) hrun hended ⟨_, _, rfl, ?_, ⟨_, rfl⟩, hW, hsame.mono (by decide) (by decide)⟩
        show Q1 Z p1 w_NORMAL w_INITIATOR w_PASSIVE w_LEADER h0 n0 _ T7.heap _
        rw [e7]
        exact ⟨(by unfold f1; simp only [if_neg hc1, if_neg hc3, if_neg hc5]), N0, rfl, (by unfold f1; simp only [if_neg hc1, if_neg hc3, if_neg hc5]; exact E_w_LEADER)⟩
theorem d3_0 : decode jdk_30_method_1_code 0 = .ok (.aload_n 0, 1) := by decide +kernel
theorem d3_1 : decode jdk_30_method_1_code 1 = .ok (.invokespecial 1, 3) := by decide +kernel
theorem wd20 {Z : State} {a0 : Array Value} (hw : ∀ d ∈ tables_1, d.before a0 Z = true) : (Jvm.Cond.code ({ cls := "java/lang/Object", name := "<init>", desc := "()V" } : Jvm.MethodName) object_method_1_code (1 : Nat) (Option.none : Option Jvm.ClassFile.FieldType)).before a0 Z = true := hw _ (List.mem_of_getElem? (i := 20) rfl)
theorem wd19 {Z : State} {a0 : Array Value} (hw : ∀ d ∈ tables_1, d.before a0 Z = true) : (Jvm.Cond.instanceMethod ({ cls := "java/lang/Object", name := "<init>", desc := "()V" } : Jvm.MethodName)).before a0 Z = true := hw _ (List.mem_of_getElem? (i := 19) rfl)
theorem d3_4 : decode jdk_30_method_1_code 4 = .ok (.return_, 1) := by decide +kernel
theorem pn1 : plainName "java/lang/Record" = true := by first | (simp [plainName, overriddenIn]; done) | decide +kernel
def Q3 (Z : State) (a1 : Addr) (h0 : Heap) (n0 : Nat) (v : Option Value) (h : Heap) (L : List Loc) : Prop := v = none ∧ Fr n0 L ∧ h = h0
theorem ef3 (m : MethodId) (x0 : Addr) : entryFrame m #[(.ref x0)] 1 = mkF m 0 #[.val (.ref x0)] [] := by first | (simp [entryFrame, mkF, argsToLocals, Value.category]; done) | rfl
set_option maxRecDepth 65536 in
set_option maxHeartbeats 16000000 in
theorem rm3 (l : Launch) (Z : State) (a0 : Array Value) (hw : ∀ d ∈ tables_1, d.before a0 Z = true) (ws : List Jvm.Cond) (a1 : Addr) (h0 : Heap) (n0 : Nat) (Z0 : n0 ≤ h0.size) :
    MetFree l (⟨"java/lang/Record", "<init>", "()V"⟩ : MethodName) (head1 (Jvm.Cond.code (⟨"java/lang/Record", "<init>", "()V"⟩ : MethodName) jdk_30_method_1_code 1 none :: ws) ({ frames := 1, cells := 0, slots := 0, locals := 12 } : Room)) (fun a U => a = #[(.ref a1)] ∧ Z.Warmed39 U.vm ∧ U.heap = h0) (fun _ _ _ _ _ => True) (fun _ U o U' => ∃ v L, o = .returned v ∧ Q3 Z a1 h0 n0 v U'.heap L ∧ FrameEnd U o U' L ({ frames := 1, cells := 0, slots := 0, locals := 12 } : Room).cells ({ frames := 1, cells := 0, slots := 0, locals := 12 } : Room).slots) := by
  refine MetFree.of_bodySF (plainFor_of_name pn1) hisR ?_
  intro p e s m args below meth c s₁ Bd hml0 hP hK
  obtain ⟨rfl, hZ, hh⟩ := hP
  have hx := Bd.exec
  have hby := Bd.bytes
  have hml : c.maxLocals = 1 := hml0
  have hown : s.vm.findClass "java/lang/Record" = some m.cls := findClass_of_methodNamed Bd.named
  have hnm := (name_of_methodNamed Bd.named Bd.method).1
  have X0 : Stand p l e ({ frames := 1, cells := 0, slots := 0, locals := 12 } : Room) s m #[(.ref a1)] below meth c s₁ [] 0 0 := Stand.of_body Bd
  have e0 : s₁.heap = h0 := by rw [← hh, Bd.state]; rfl
  have N0 := Fr.nil n0
  have K0 : Keep h0 h0 [] := Keep.refl h0 _
  refine Go.st (P := fun o U' => ∃ v L, o = .returned v ∧ Q3 Z a1 h0 n0 v U'.heap L ∧ FrameEnd s o U' L ({ frames := 1, cells := 0, slots := 0, locals := 12 } : Room).cells ({ frames := 1, cells := 0, slots := 0, locals := 12 } : Room).slots) (fun t k => castTop (ef3 m a1) k) ?_
  show Go _ _ _ (s₁.setTop (mkF m 0 #[.val (.ref a1)] [])) _
  refine Go.st (fun t k => XS.aloadN X0.here hx rfl (hb hby d3_0) rfl rfl k) ?_
  obtain ⟨T1, X1, e1, st1⟩ := initO X0 hx hZ hown (wd18 hw) (wd19 hw) (wd20 hw) e0 (g := (mkF m 1 #[.val (.ref a1)] [(.ref a1)])) rfl (by rw [hml]; rfl) rfl (hb hby d3_1) (by decide) (W := 0) (by show 2 * 0 + _ ≤ _; exact Nat.le_of_eq rfl) (by decide)
  refine Go.st st1 ?_
  show Go _ _ _ (T1.setTop (mkF m 4 #[.val (.ref a1)] [])) _
  obtain ⟨fs, hr, hrun, hended, hW, hsame⟩ := X1.leave (v := none) (fun _ => rfl)
  refine Go.fin (X1.returnOut hx Bd.returns (hb hby d3_4) hr) hrun hended ⟨_, _, rfl, ?_, ⟨_, rfl⟩, hW, hsame.mono (by decide) (by decide)⟩
  show Q3 Z a1 h0 n0 _ T1.heap _
  rw [e1]
  exact ⟨rfl, N0, rfl⟩
theorem d2_0 : decode prog_30_method_1_code 0 = .ok (.aload_n 0, 1) := by decide +kernel
theorem d2_1 : decode prog_30_method_1_code 1 = .ok (.invokespecial 3, 3) := by decide +kernel
theorem wd17 {Z : State} {a0 : Array Value} (hw : ∀ d ∈ tables_1, d.before a0 Z = true) : (Jvm.Cond.code ({ cls := "java/lang/Record", name := "<init>", desc := "()V" } : Jvm.MethodName) jdk_30_method_1_code (1 : Nat) (Option.none : Option Jvm.ClassFile.FieldType)).before a0 Z = true := hw _ (List.mem_of_getElem? (i := 17) rfl)
theorem wd16 {Z : State} {a0 : Array Value} (hw : ∀ d ∈ tables_1, d.before a0 Z = true) : (Jvm.Cond.initialized "java/lang/Record").before a0 Z = true := hw _ (List.mem_of_getElem? (i := 16) rfl)
theorem pd0 : parseMethodDescriptor "()V" = some ⟨[], none⟩ := by decide +kernel
theorem wd14 {Z : State} {a0 : Array Value} (hw : ∀ d ∈ tables_1, d.before a0 Z = true) : (Jvm.Cond.instanceMethod ({ cls := "java/lang/Record", name := "<init>", desc := "()V" } : Jvm.MethodName)).before a0 Z = true := hw _ (List.mem_of_getElem? (i := 14) rfl)
theorem d2_4 : decode prog_30_method_1_code 4 = .ok (.aload_n 0, 1) := by decide +kernel
theorem d2_5 : decode prog_30_method_1_code 5 = .ok (.aload_n 1, 1) := by decide +kernel
theorem d2_6 : decode prog_30_method_1_code 6 = .ok (.putfield 9, 3) := by decide +kernel
theorem wd21 {Z : State} {a0 : Array Value} (hw : ∀ d ∈ tables_1, d.before a0 Z = true) : (Jvm.Cond.fieldLink "com/example/lectern/lectern/catalog/Franklin$Member" (9 : Nat) "com/example/lectern/lectern/catalog/Franklin$Member" "phase" "Lcom/example/lectern/lectern/catalog/Franklin$Phase;").before a0 Z = true := hw _ (List.mem_of_getElem? (i := 21) rfl)
theorem wd22 {Z : State} {a0 : Array Value} (hw : ∀ d ∈ tables_1, d.before a0 Z = true) : (Jvm.Cond.laysFinal "com/example/lectern/lectern/catalog/Franklin$Member" "com/example/lectern/lectern/catalog/Franklin$Member" "phase" "Lcom/example/lectern/lectern/catalog/Franklin$Phase;").before a0 Z = true := hw _ (List.mem_of_getElem? (i := 22) rfl)
theorem wd1 {Z : State} {a0 : Array Value} (hw : ∀ d ∈ tables_1, d.before a0 Z = true) : (Jvm.Cond.instantiable "com/example/lectern/lectern/catalog/Franklin$Member" (4 : Nat)).before a0 Z = true := hw _ (List.mem_of_getElem? (i := 1) rfl)
theorem d2_9 : decode prog_30_method_1_code 9 = .ok (.aload_n 0, 1) := by decide +kernel
theorem d2_10 : decode prog_30_method_1_code 10 = .ok (.iload_n 2, 1) := by decide +kernel
theorem d2_11 : decode prog_30_method_1_code 11 = .ok (.putfield 15, 3) := by decide +kernel
theorem wd23 {Z : State} {a0 : Array Value} (hw : ∀ d ∈ tables_1, d.before a0 Z = true) : (Jvm.Cond.fieldLink "com/example/lectern/lectern/catalog/Franklin$Member" (15 : Nat) "com/example/lectern/lectern/catalog/Franklin$Member" "leader" "I").before a0 Z = true := hw _ (List.mem_of_getElem? (i := 23) rfl)
theorem wd24 {Z : State} {a0 : Array Value} (hw : ∀ d ∈ tables_1, d.before a0 Z = true) : (Jvm.Cond.laysFinal "com/example/lectern/lectern/catalog/Franklin$Member" "com/example/lectern/lectern/catalog/Franklin$Member" "leader" "I").before a0 Z = true := hw _ (List.mem_of_getElem? (i := 24) rfl)
theorem d2_14 : decode prog_30_method_1_code 14 = .ok (.aload_n 0, 1) := by decide +kernel
theorem d2_15 : decode prog_30_method_1_code 15 = .ok (.iload_n 3, 1) := by decide +kernel
theorem d2_16 : decode prog_30_method_1_code 16 = .ok (.putfield 19, 3) := by decide +kernel
theorem wd25 {Z : State} {a0 : Array Value} (hw : ∀ d ∈ tables_1, d.before a0 Z = true) : (Jvm.Cond.fieldLink "com/example/lectern/lectern/catalog/Franklin$Member" (19 : Nat) "com/example/lectern/lectern/catalog/Franklin$Member" "fromLeft" "I").before a0 Z = true := hw _ (List.mem_of_getElem? (i := 25) rfl)
theorem wd26 {Z : State} {a0 : Array Value} (hw : ∀ d ∈ tables_1, d.before a0 Z = true) : (Jvm.Cond.laysFinal "com/example/lectern/lectern/catalog/Franklin$Member" "com/example/lectern/lectern/catalog/Franklin$Member" "fromLeft" "I").before a0 Z = true := hw _ (List.mem_of_getElem? (i := 26) rfl)
theorem d2_19 : decode prog_30_method_1_code 19 = .ok (.aload_n 0, 1) := by decide +kernel
theorem d2_20 : decode prog_30_method_1_code 20 = .ok (.iload 4, 2) := by decide +kernel
theorem d2_22 : decode prog_30_method_1_code 22 = .ok (.putfield 22, 3) := by decide +kernel
theorem wd27 {Z : State} {a0 : Array Value} (hw : ∀ d ∈ tables_1, d.before a0 Z = true) : (Jvm.Cond.fieldLink "com/example/lectern/lectern/catalog/Franklin$Member" (22 : Nat) "com/example/lectern/lectern/catalog/Franklin$Member" "fromRight" "I").before a0 Z = true := hw _ (List.mem_of_getElem? (i := 27) rfl)
theorem wd28 {Z : State} {a0 : Array Value} (hw : ∀ d ∈ tables_1, d.before a0 Z = true) : (Jvm.Cond.laysFinal "com/example/lectern/lectern/catalog/Franklin$Member" "com/example/lectern/lectern/catalog/Franklin$Member" "fromRight" "I").before a0 Z = true := hw _ (List.mem_of_getElem? (i := 28) rfl)
theorem d2_25 : decode prog_30_method_1_code 25 = .ok (.return_, 1) := by decide +kernel
theorem pn2 : plainName "com/example/lectern/lectern/catalog/Franklin$Member" = true := by first | (simp [plainName, overriddenIn]; done) | decide +kernel
def Q2 (Z : State) (a1 : Addr) (a2 : Addr) (p3 : Int32) (p4 : Int32) (p5 : Int32) (u_a1_phase : Value) (u_a1_leader : Value) (u_a1_fromLeft : Value) (u_a1_fromRight : Value) (h0 : Heap) (n0 : Nat) (v : Option Value) (h : Heap) (L : List Loc) : Prop := v = none ∧ Fr n0 L ∧ Keep h0 h [a1] ∧ Exa Z h a1 "com/example/lectern/lectern/catalog/Franklin$Member" ∧ Fld Z h a1 "com/example/lectern/lectern/catalog/Franklin$Member" "phase" "Lcom/example/lectern/lectern/catalog/Franklin$Phase;" (.ref a2) ∧ Fld Z h a1 "com/example/lectern/lectern/catalog/Franklin$Member" "leader" "I" (.int p3) ∧ Fld Z h a1 "com/example/lectern/lectern/catalog/Franklin$Member" "fromLeft" "I" (.int p4) ∧ Fld Z h a1 "com/example/lectern/lectern/catalog/Franklin$Member" "fromRight" "I" (.int p5)
theorem ef2 (m : MethodId) (x0 : Addr) (x1 : Addr) (x2 : Int32) (x3 : Int32) (x4 : Int32) : entryFrame m #[(.ref x0), (.ref x1), (.int x2), (.int x3), (.int x4)] 5 = mkF m 0 #[.val (.ref x0), .val (.ref x1), .val (.int x2), .val (.int x3), .val (.int x4)] [] := by first | (simp [entryFrame, mkF, argsToLocals, Value.category]; done) | rfl
set_option maxRecDepth 65536 in
set_option maxHeartbeats 16000000 in
theorem rm2 (l : Launch) (Z : State) (a0 : Array Value) (hw : ∀ d ∈ tables_1, d.before a0 Z = true) (ws : List Jvm.Cond) (a1 : Addr) (a2 : Addr) (p3 : Int32) (p4 : Int32) (p5 : Int32) (u_a1_phase : Value) (u_a1_leader : Value) (u_a1_fromLeft : Value) (u_a1_fromRight : Value) (h0 : Heap) (n0 : Nat) (Z0 : n0 ≤ h0.size) (E_a1 : Exa Z h0 a1 "com/example/lectern/lectern/catalog/Franklin$Member") (F_a1_phase : Fld Z h0 a1 "com/example/lectern/lectern/catalog/Franklin$Member" "phase" "Lcom/example/lectern/lectern/catalog/Franklin$Phase;" u_a1_phase) (F_a1_leader : Fld Z h0 a1 "com/example/lectern/lectern/catalog/Franklin$Member" "leader" "I" u_a1_leader) (F_a1_fromLeft : Fld Z h0 a1 "com/example/lectern/lectern/catalog/Franklin$Member" "fromLeft" "I" u_a1_fromLeft) (F_a1_fromRight : Fld Z h0 a1 "com/example/lectern/lectern/catalog/Franklin$Member" "fromRight" "I" u_a1_fromRight) (g_a1 : n0 ≤ a1) :
    MetFree l (⟨"com/example/lectern/lectern/catalog/Franklin$Member", "<init>", "(Lcom/example/lectern/lectern/catalog/Franklin$Phase;III)V"⟩ : MethodName) (head1 (Jvm.Cond.code (⟨"com/example/lectern/lectern/catalog/Franklin$Member", "<init>", "(Lcom/example/lectern/lectern/catalog/Franklin$Phase;III)V"⟩ : MethodName) prog_30_method_1_code 5 none :: ws) ({ frames := 2, cells := 0, slots := 0, locals := 24 } : Room)) (fun a U => a = #[(.ref a1), (.ref a2), (.int p3), (.int p4), (.int p5)] ∧ Z.Warmed39 U.vm ∧ U.heap = h0) (fun _ _ _ _ _ => True) (fun _ U o U' => ∃ v L, o = .returned v ∧ Q2 Z a1 a2 p3 p4 p5 u_a1_phase u_a1_leader u_a1_fromLeft u_a1_fromRight h0 n0 v U'.heap L ∧ FrameEnd U o U' L ({ frames := 2, cells := 0, slots := 0, locals := 24 } : Room).cells ({ frames := 2, cells := 0, slots := 0, locals := 24 } : Room).slots) := by
  refine MetFree.of_bodySF (plainFor_of_name pn2) hisR ?_
  intro p e s m args below meth c s₁ Bd hml0 hP hK
  obtain ⟨rfl, hZ, hh⟩ := hP
  have hx := Bd.exec
  have hby := Bd.bytes
  have hml : c.maxLocals = 5 := hml0
  have hown : s.vm.findClass "com/example/lectern/lectern/catalog/Franklin$Member" = some m.cls := findClass_of_methodNamed Bd.named
  have hnm := (name_of_methodNamed Bd.named Bd.method).1
  have X0 : Stand p l e ({ frames := 2, cells := 0, slots := 0, locals := 24 } : Room) s m #[(.ref a1), (.ref a2), (.int p3), (.int p4), (.int p5)] below meth c s₁ [] 0 0 := Stand.of_body Bd
  have e0 : s₁.heap = h0 := by rw [← hh, Bd.state]; rfl
  have N0 := Fr.nil n0
  have K0 : Keep h0 h0 [a1] := Keep.refl h0 _
  refine Go.st (P := fun o U' => ∃ v L, o = .returned v ∧ Q2 Z a1 a2 p3 p4 p5 u_a1_phase u_a1_leader u_a1_fromLeft u_a1_fromRight h0 n0 v U'.heap L ∧ FrameEnd s o U' L ({ frames := 2, cells := 0, slots := 0, locals := 24 } : Room).cells ({ frames := 2, cells := 0, slots := 0, locals := 24 } : Room).slots) (fun t k => castTop (ef2 m a1 a2 p3 p4 p5) k) ?_
  show Go _ _ _ (s₁.setTop (mkF m 0 #[.val (.ref a1), .val (.ref a2), .val (.int p3), .val (.int p4), .val (.int p5)] [])) _
  refine Go.st (fun t k => XS.aloadN X0.here hx rfl (hb hby d2_0) rfl rfl k) ?_
  obtain ⟨_, _, ⟨T1, L1, k1, n1⟩, -, X1, ⟨Lc1, hQ1, l1, y1, z1⟩, st1⟩ := X0.specialBack hx (y := (⟨"java/lang/Record", "<init>", "()V"⟩ : MethodName)) rfl hown (mvT hZ (wd13 hw)) (mvT hZ (wd14 hw)) (mvT hZ (wd17 hw)) (by decide) (backOf (W := 0) (rm3 l Z a0 hw [] a1 h0 n0 Z0) hZ (wd17 hw) (wd16 hw) (by decide) (by decide)) (g := (mkF m 1 #[.val (.ref a1), .val (.ref a2), .val (.int p3), .val (.int p4), .val (.int p5)] [(.ref a1)])) rfl (by rw [hml]; rfl) (Steps.refl _) (a := a1) (argsL := []) (rest := []) (lenOf pd0 rfl) rfl (by show 2 * 0 + _ ≤ _; exact Nat.le_of_eq rfl) (hb hby d2_1) (fun _ _ => ⟨rfl, e0, (by decide : 0 + 0 ≤ _), (by decide : 0 + 0 ≤ _)⟩)
  dsimp only [Pt.U, Pt.locs, Pt.cells, Pt.slots] at X1 l1 y1 z1 st1 hQ1
  subst l1 y1 z1
  refine Go.tr st1 ?_
  obtain ⟨rfl, N1q, e1⟩ := hQ1
  have N1 := Fr.app N0 N1q
  show Go _ _ _ (T1.setTop (mkF m 4 #[.val (.ref a1), .val (.ref a2), .val (.int p3), .val (.int p4), .val (.int p5)] [])) _
  refine Go.st (fun t k => XS.aloadN X1.here hx rfl (hb hby d2_4) rfl rfl k) ?_
  refine Go.st (fun t k => XS.aloadN X1.here hx rfl (hb hby d2_5) rfl rfl k) ?_
  obtain ⟨T2, h2, X2, e2, W2, st2⟩ := putF X1 hx hZ hown (host := "") (Or.inl (wd21 hw)) Via.refl e1 F_a1_phase E_a1 (Or.inr ⟨(wd22 hw), rfl, hnm⟩) (wd1 hw) (ty := (.object "com/example/lectern/lectern/catalog/Franklin$Phase")) (by decide) rfl rfl (g := (mkF m 6 #[.val (.ref a1), .val (.ref a2), .val (.int p3), .val (.int p4), .val (.int p5)] [(.ref a2), (.ref a1)])) rfl rfl (hb hby d2_6)
  refine Go.st st2 ?_
  have N2 := Fr.snoc X2 N1 g_a1
  replace E_a1 := E_a1.wr W2
  replace F_a1_phase := F_a1_phase.same W2
  replace F_a1_leader := F_a1_leader.other W2 (Or.inr (slot_ne (Or.inr (wd24 hw)) (Or.inr (wd22 hw)) (by decide) (t := .int) (t' := (.object "com/example/lectern/lectern/catalog/Franklin$Phase")) (by decide) (by decide)))
  replace F_a1_fromLeft := F_a1_fromLeft.other W2 (Or.inr (slot_ne (Or.inr (wd26 hw)) (Or.inr (wd22 hw)) (by decide) (t := .int) (t' := (.object "com/example/lectern/lectern/catalog/Franklin$Phase")) (by decide) (by decide)))
  replace F_a1_fromRight := F_a1_fromRight.other W2 (Or.inr (slot_ne (Or.inr (wd28 hw)) (Or.inr (wd22 hw)) (by decide) (t := .int) (t' := (.object "com/example/lectern/lectern/catalog/Franklin$Phase")) (by decide) (by decide)))
  replace Z0 := Nat.le_trans Z0 (Nat.le_of_eq W2.size.symm)
  replace K0 := K0.wr W2 (Or.inl (by simp))
  show Go _ _ _ (T2.setTop (mkF m 9 #[.val (.ref a1), .val (.ref a2), .val (.int p3), .val (.int p4), .val (.int p5)] [])) _
  refine Go.st (fun t k => XS.aloadN X2.here hx rfl (hb hby d2_9) rfl rfl k) ?_
  refine Go.st (fun t k => XS.iloadN X2.here hx rfl (hb hby d2_10) rfl k) ?_
  obtain ⟨T3, h3, X3, e3, W3, st3⟩ := putF X2 hx hZ hown (host := "") (Or.inl (wd23 hw)) Via.refl e2 F_a1_leader E_a1 (Or.inr ⟨(wd24 hw), rfl, hnm⟩) (wd1 hw) (ty := .int) (by decide) rfl rfl (g := (mkF m 11 #[.val (.ref a1), .val (.ref a2), .val (.int p3), .val (.int p4), .val (.int p5)] [(.int p3), (.ref a1)])) rfl rfl (hb hby d2_11)
  refine Go.st st3 ?_
  have N3 := Fr.snoc X3 N2 g_a1
  replace E_a1 := E_a1.wr W3
  replace F_a1_phase := F_a1_phase.other W3 (Or.inr (slot_ne (Or.inr (wd22 hw)) (Or.inr (wd24 hw)) (by decide) (t := (.object "com/example/lectern/lectern/catalog/Franklin$Phase")) (t' := .int) (by decide) (by decide)))
  replace F_a1_leader := F_a1_leader.same W3
  replace F_a1_fromLeft := F_a1_fromLeft.other W3 (Or.inr (slot_ne (Or.inr (wd26 hw)) (Or.inr (wd24 hw)) (by decide) (t := .int) (t' := .int) (by decide) (by decide)))
  replace F_a1_fromRight := F_a1_fromRight.other W3 (Or.inr (slot_ne (Or.inr (wd28 hw)) (Or.inr (wd24 hw)) (by decide) (t := .int) (t' := .int) (by decide) (by decide)))
  replace Z0 := Nat.le_trans Z0 (Nat.le_of_eq W3.size.symm)
  replace K0 := K0.wr W3 (Or.inl (by simp))
  show Go _ _ _ (T3.setTop (mkF m 14 #[.val (.ref a1), .val (.ref a2), .val (.int p3), .val (.int p4), .val (.int p5)] [])) _
  refine Go.st (fun t k => XS.aloadN X3.here hx rfl (hb hby d2_14) rfl rfl k) ?_
  refine Go.st (fun t k => XS.iloadN X3.here hx rfl (hb hby d2_15) rfl k) ?_
  obtain ⟨T4, h4, X4, e4, W4, st4⟩ := putF X3 hx hZ hown (host := "") (Or.inl (wd25 hw)) Via.refl e3 F_a1_fromLeft E_a1 (Or.inr ⟨(wd26 hw), rfl, hnm⟩) (wd1 hw) (ty := .int) (by decide) rfl rfl (g := (mkF m 16 #[.val (.ref a1), .val (.ref a2), .val (.int p3), .val (.int p4), .val (.int p5)] [(.int p4), (.ref a1)])) rfl rfl (hb hby d2_16)
  refine Go.st st4 ?_
  have N4 := Fr.snoc X4 N3 g_a1
  replace E_a1 := E_a1.wr W4
  replace F_a1_phase := F_a1_phase.other W4 (Or.inr (slot_ne (Or.inr (wd22 hw)) (Or.inr (wd26 hw)) (by decide) (t := (.object "com/example/lectern/lectern/catalog/Franklin$Phase")) (t' := .int) (by decide) (by decide)))
  replace F_a1_leader := F_a1_leader.other W4 (Or.inr (slot_ne (Or.inr (wd24 hw)) (Or.inr (wd26 hw)) (by decide) (t := .int) (t' := .int) (by decide) (by decide)))
  replace F_a1_fromLeft := F_a1_fromLeft.same W4
  replace F_a1_fromRight := F_a1_fromRight.other W4 (Or.inr (slot_ne (Or.inr (wd28 hw)) (Or.inr (wd26 hw)) (by decide) (t := .int) (t' := .int) (by decide) (by decide)))
  replace Z0 := Nat.le_trans Z0 (Nat.le_of_eq W4.size.symm)
  replace K0 := K0.wr W4 (Or.inl (by simp))
  show Go _ _ _ (T4.setTop (mkF m 19 #[.val (.ref a1), .val (.ref a2), .val (.int p3), .val (.int p4), .val (.int p5)] [])) _
  refine Go.st (fun t k => XS.aloadN X4.here hx rfl (hb hby d2_19) rfl rfl k) ?_
  refine Go.st (fun t k => XS.iload X4.here hx rfl (hb hby d2_20) rfl k) ?_
  obtain ⟨T5, h5, X5, e5, W5, st5⟩ := putF X4 hx hZ hown (host := "") (Or.inl (wd27 hw)) Via.refl e4 F_a1_fromRight E_a1 (Or.inr ⟨(wd28 hw), rfl, hnm⟩) (wd1 hw) (ty := .int) (by decide) rfl rfl (g := (mkF m 22 #[.val (.ref a1), .val (.ref a2), .val (.int p3), .val (.int p4), .val (.int p5)] [(.int p5), (.ref a1)])) rfl rfl (hb hby d2_22)
  refine Go.st st5 ?_
  have N5 := Fr.snoc X5 N4 g_a1
  replace E_a1 := E_a1.wr W5
  replace F_a1_phase := F_a1_phase.other W5 (Or.inr (slot_ne (Or.inr (wd22 hw)) (Or.inr (wd28 hw)) (by decide) (t := (.object "com/example/lectern/lectern/catalog/Franklin$Phase")) (t' := .int) (by decide) (by decide)))
  replace F_a1_leader := F_a1_leader.other W5 (Or.inr (slot_ne (Or.inr (wd24 hw)) (Or.inr (wd28 hw)) (by decide) (t := .int) (t' := .int) (by decide) (by decide)))
  replace F_a1_fromLeft := F_a1_fromLeft.other W5 (Or.inr (slot_ne (Or.inr (wd26 hw)) (Or.inr (wd28 hw)) (by decide) (t := .int) (t' := .int) (by decide) (by decide)))
  replace F_a1_fromRight := F_a1_fromRight.same W5
  replace Z0 := Nat.le_trans Z0 (Nat.le_of_eq W5.size.symm)
  replace K0 := K0.wr W5 (Or.inl (by simp))
  show Go _ _ _ (T5.setTop (mkF m 25 #[.val (.ref a1), .val (.ref a2), .val (.int p3), .val (.int p4), .val (.int p5)] [])) _
  obtain ⟨fs, hr, hrun, hended, hW, hsame⟩ := X5.leave (v := none) (fun _ => rfl)
  refine Go.fin (X5.returnOut hx Bd.returns (hb hby d2_25) hr) hrun hended ⟨_, _, rfl, ?_, ⟨_, rfl⟩, hW, hsame.mono (by decide) (by decide)⟩
  show Q2 Z a1 a2 p3 p4 p5 u_a1_phase u_a1_leader u_a1_fromLeft u_a1_fromRight h0 n0 _ T5.heap _
  rw [e5]
  exact ⟨rfl, N5, K0, E_a1, F_a1_phase, F_a1_leader, F_a1_fromLeft, F_a1_fromRight⟩
theorem d5_0 : decode prog_30_method_8_code 0 = .ok (.aload_n 0, 1) := by decide +kernel
theorem d5_1 : decode prog_30_method_8_code 1 = .ok (.getfield 19, 3) := by decide +kernel
theorem d5_4 : decode prog_30_method_8_code 4 = .ok (.iconst (-1), 1) := by decide +kernel
theorem d5_5 : decode prog_30_method_8_code 5 = .ok (.if_icmp .eq 15, 3) := by decide +kernel
theorem d5_20 : decode prog_30_method_8_code 20 = .ok (.iconst 0, 1) := by decide +kernel
theorem d5_21 : decode prog_30_method_8_code 21 = .ok (.ireturn, 1) := by decide +kernel
theorem d5_8 : decode prog_30_method_8_code 8 = .ok (.aload_n 0, 1) := by decide +kernel
theorem d5_9 : decode prog_30_method_8_code 9 = .ok (.getfield 22, 3) := by decide +kernel
theorem d5_12 : decode prog_30_method_8_code 12 = .ok (.iconst (-1), 1) := by decide +kernel
theorem d5_13 : decode prog_30_method_8_code 13 = .ok (.if_icmp .eq 7, 3) := by decide +kernel
theorem d5_16 : decode prog_30_method_8_code 16 = .ok (.iconst 1, 1) := by decide +kernel
theorem d5_17 : decode prog_30_method_8_code 17 = .ok (.goto 4, 3) := by decide +kernel
def f5 (w_a1_fromLeft : Int32) (w_a1_fromRight : Int32) : Int32 := (if w_a1_fromLeft = (-1 : Int32) then (0 : Int32) else (if w_a1_fromRight = (-1 : Int32) then (0 : Int32) else (1 : Int32)))
def Q5 (Z : State) (a1 : Addr) (w_a1_fromLeft : Int32) (w_a1_fromRight : Int32) (h0 : Heap) (n0 : Nat) (v : Option Value) (h : Heap) (L : List Loc) : Prop := v = some (.int (f5 w_a1_fromLeft w_a1_fromRight)) ∧ Fr n0 L ∧ h = h0
theorem ef5 (m : MethodId) (x0 : Addr) : entryFrame m #[(.ref x0)] 1 = mkF m 0 #[.val (.ref x0)] [] := by first | (simp [entryFrame, mkF, argsToLocals, Value.category]; done) | rfl
set_option maxRecDepth 65536 in
set_option maxHeartbeats 16000000 in
theorem rm5 (l : Launch) (Z : State) (a0 : Array Value) (hw : ∀ d ∈ tables_1, d.before a0 Z = true) (ws : List Jvm.Cond) (a1 : Addr) (w_a1_fromLeft : Int32) (w_a1_fromRight : Int32) (h0 : Heap) (n0 : Nat) (Z0 : n0 ≤ h0.size) (F_a1_fromLeft : Fld Z h0 a1 "com/example/lectern/lectern/catalog/Franklin$Member" "fromLeft" "I" (.int w_a1_fromLeft)) (F_a1_fromRight : Fld Z h0 a1 "com/example/lectern/lectern/catalog/Franklin$Member" "fromRight" "I" (.int w_a1_fromRight)) :
    MetFree l (⟨"com/example/lectern/lectern/catalog/Franklin$Member", "slotsFull", "()Z"⟩ : MethodName) (head1 (Jvm.Cond.code (⟨"com/example/lectern/lectern/catalog/Franklin$Member", "slotsFull", "()Z"⟩ : MethodName) prog_30_method_8_code 1 (some .boolean) :: ws) ({ frames := 0, cells := 0, slots := 0, locals := 0 } : Room)) (fun a U => a = #[(.ref a1)] ∧ Z.Warmed39 U.vm ∧ U.heap = h0) (fun _ _ _ _ _ => True) (fun _ U o U' => ∃ v L, o = .returned v ∧ Q5 Z a1 w_a1_fromLeft w_a1_fromRight h0 n0 v U'.heap L ∧ FrameEnd U o U' L ({ frames := 0, cells := 0, slots := 0, locals := 0 } : Room).cells ({ frames := 0, cells := 0, slots := 0, locals := 0 } : Room).slots) := by
  refine MetFree.of_bodySF (plainFor_of_name pn2) hisR ?_
  intro p e s m args below meth c s₁ Bd hml0 hP hK
  obtain ⟨rfl, hZ, hh⟩ := hP
  have hx := Bd.exec
  have hby := Bd.bytes
  have hml : c.maxLocals = 1 := hml0
  have hown : s.vm.findClass "com/example/lectern/lectern/catalog/Franklin$Member" = some m.cls := findClass_of_methodNamed Bd.named
  have hnm := (name_of_methodNamed Bd.named Bd.method).1
  have X0 : Stand p l e ({ frames := 0, cells := 0, slots := 0, locals := 0 } : Room) s m #[(.ref a1)] below meth c s₁ [] 0 0 := Stand.of_body Bd
  have e0 : s₁.heap = h0 := by rw [← hh, Bd.state]; rfl
  have N0 := Fr.nil n0
  have K0 : Keep h0 h0 [] := Keep.refl h0 _
  refine Go.st (P := fun o U' => ∃ v L, o = .returned v ∧ Q5 Z a1 w_a1_fromLeft w_a1_fromRight h0 n0 v U'.heap L ∧ FrameEnd s o U' L ({ frames := 0, cells := 0, slots := 0, locals := 0 } : Room).cells ({ frames := 0, cells := 0, slots := 0, locals := 0 } : Room).slots) (fun t k => castTop (ef5 m a1) k) ?_
  show Go _ _ _ (s₁.setTop (mkF m 0 #[.val (.ref a1)] [])) _
  refine Go.st (fun t k => XS.aloadN X0.here hx rfl (hb hby d5_0) rfl rfl k) ?_
  obtain ⟨T1, X1, e1, st1⟩ := getF X0 hx hZ hown (host := "") (Or.inl (wd25 hw)) Via.refl e0 F_a1_fromLeft (g := (mkF m 1 #[.val (.ref a1)] [(.ref a1)])) rfl rfl (hb hby d5_1)
  refine Go.st st1 ?_
  show Go _ _ _ (T1.setTop (mkF m 4 #[.val (.ref a1)] [(.int w_a1_fromLeft)])) _
  refine Go.st (fun t k => XS.iconst X1.here hx rfl (hb hby d5_4) k) ?_
  by_cases hc2 : w_a1_fromLeft = (-1 : Int32)
  · refine Go.st (fun t k => XS.icmpYes X1.here hx rfl (pc0 := 5) (pc' := 20) rfl (hb hby d5_5) rfl (teq hc2).1 (by decide) (by decide) k) ?_
    show Go _ _ _ (T1.setTop (mkF m 20 #[.val (.ref a1)] [])) _
    refine Go.st (fun t k => XS.iconst X1.here hx rfl (hb hby d5_20) k) ?_
    obtain ⟨fs, hr, hrun, hended, hW, hsame⟩ := X1.leave (v := some (.int (0 : Int32))) (fun h => by rw [Bd.returns] at h; cases h)
    refine Go.fin (retN X1 hx (t := .boolean) Bd.returns (by simp) (hb hby d5_21) hr) hrun hended ⟨_, _, rfl, ?_, ⟨_, rfl⟩, hW, hsame.mono (by decide) (by decide)⟩
    show Q5 Z a1 w_a1_fromLeft w_a1_fromRight h0 n0 _ T1.heap _
    rw [e1]
    exact ⟨(by unfold f5; simp only [if_pos hc2]), N0, rfl⟩
  · refine Go.st (fun t k => XS.icmpNo X1.here hx rfl (hb hby d5_5) rfl (feq hc2).1 k) ?_
    show Go _ _ _ (T1.setTop (mkF m 8 #[.val (.ref a1)] [])) _
    refine Go.st (fun t k => XS.aloadN X1.here hx rfl (hb hby d5_8) rfl rfl k) ?_
    obtain ⟨T3, X3, e3, st3⟩ := getF X1 hx hZ hown (host := "") (Or.inl (wd27 hw)) Via.refl e1 F_a1_fromRight (g := (mkF m 9 #[.val (.ref a1)] [(.ref a1)])) rfl rfl (hb hby d5_9)
    refine Go.st st3 ?_
    show Go _ _ _ (T3.setTop (mkF m 12 #[.val (.ref a1)] [(.int w_a1_fromRight)])) _
    refine Go.st (fun t k => XS.iconst X3.here hx rfl (hb hby d5_12) k) ?_
    by_cases hc4 : w_a1_fromRight = (-1 : Int32)
    · refine Go.st (fun t k => XS.icmpYes X3.here hx rfl (pc0 := 13) (pc' := 20) rfl (hb hby d5_13) rfl (teq hc4).1 (by decide) (by decide) k) ?_
      show Go _ _ _ (T3.setTop (mkF m 20 #[.val (.ref a1)] [])) _
      refine Go.st (fun t k => XS.iconst X3.here hx rfl (hb hby d5_20) k) ?_
      obtain ⟨fs, hr, hrun, hended, hW, hsame⟩ := X3.leave (v := some (.int (0 : Int32))) (fun h => by rw [Bd.returns] at h; cases h)
      refine Go.fin (retN X3 hx (t := .boolean) Bd.returns (by simp) (hb hby d5_21) hr) hrun hended ⟨_, _, rfl, ?_, ⟨_, rfl⟩, hW, hsame.mono (by decide) (by decide)⟩
      show Q5 Z a1 w_a1_fromLeft w_a1_fromRight h0 n0 _ T3.heap _
      rw [e3]
      exact ⟨(by unfold f5; simp only [if_neg hc2, if_pos hc4]), N0, rfl⟩
    · refine Go.st (fun t k => XS.icmpNo X3.here hx rfl (hb hby d5_13) rfl (feq hc4).1 k) ?_
      show Go _ _ _ (T3.setTop (mkF m 16 #[.val (.ref a1)] [])) _
      refine Go.st (fun t k => XS.iconst X3.here hx rfl (hb hby d5_16) k) ?_
      refine Go.st (fun t k => XS.goto X3.here hx rfl (pc0 := 17) (pc' := 21) rfl (hb hby d5_17) (by decide) (by decide) k) ?_
      obtain ⟨fs, hr, hrun, hended, hW, hsame⟩ := X3.leave (v := some (.int (1 : Int32))) (fun h => by rw [Bd.returns] at h; cases h)
      refine Go.fin (retN X3 hx (t := .boolean) Bd.returns (by simp) (hb hby d5_21) hr) hrun hended ⟨_, _, rfl, ?_, ⟨_, rfl⟩, hW, hsame.mono (by decide) (by decide)⟩
      show Q5 Z a1 w_a1_fromLeft w_a1_fromRight h0 n0 _ T3.heap _
      rw [e3]
      exact ⟨(by unfold f5; simp only [if_neg hc2, if_neg hc4]), N0, rfl⟩
theorem d6_0 : decode method_3_code 0 = .ok (.iload_n 0, 1) := by decide +kernel
theorem d6_1 : decode method_3_code 1 = .ok (.iconst (-1), 1) := by decide +kernel
theorem d6_2 : decode method_3_code 2 = .ok (.if_icmp .ne 5, 3) := by decide +kernel
theorem d6_5 : decode method_3_code 5 = .ok (.iconst 0, 1) := by decide +kernel
theorem d6_6 : decode method_3_code 6 = .ok (.ireturn, 1) := by decide +kernel
theorem d6_7 : decode method_3_code 7 = .ok (.iconst 1, 1) := by decide +kernel
theorem d6_8 : decode method_3_code 8 = .ok (.ireturn, 1) := by decide +kernel
def f6 (p1 : Int32) : Int32 := (if p1 = (-1 : Int32) then (0 : Int32) else (1 : Int32))
def Q6 (Z : State) (p1 : Int32) (h0 : Heap) (n0 : Nat) (v : Option Value) (h : Heap) (L : List Loc) : Prop := v = some (.int (f6 p1)) ∧ Fr n0 L ∧ h = h0
theorem ef6 (m : MethodId) (x0 : Int32) : entryFrame m #[(.int x0)] 1 = mkF m 0 #[.val (.int x0)] [] := by first | (simp [entryFrame, mkF, argsToLocals, Value.category]; done) | rfl
set_option maxRecDepth 65536 in
set_option maxHeartbeats 16000000 in
theorem rm6 (l : Launch) (Z : State) (a0 : Array Value) (hw : ∀ d ∈ tables_1, d.before a0 Z = true) (ws : List Jvm.Cond) (p1 : Int32) (h0 : Heap) (n0 : Nat) (Z0 : n0 ≤ h0.size) :
    MetFree l (⟨"com/example/lectern/lectern/catalog/MemberSlotsFullPinLaw", "holdsId", "(I)Z"⟩ : MethodName) (head1 (Jvm.Cond.code (⟨"com/example/lectern/lectern/catalog/MemberSlotsFullPinLaw", "holdsId", "(I)Z"⟩ : MethodName) method_3_code 1 (some .boolean) :: ws) ({ frames := 0, cells := 0, slots := 0, locals := 0 } : Room)) (fun a U => a = #[(.int p1)] ∧ Z.Warmed39 U.vm ∧ U.heap = h0) (fun _ _ _ _ _ => True) (fun _ U o U' => ∃ v L, o = .returned v ∧ Q6 Z p1 h0 n0 v U'.heap L ∧ FrameEnd U o U' L ({ frames := 0, cells := 0, slots := 0, locals := 0 } : Room).cells ({ frames := 0, cells := 0, slots := 0, locals := 0 } : Room).slots) := by
  refine MetFree.of_bodySF (plainFor_of_name pn0) hisR ?_
  intro p e s m args below meth c s₁ Bd hml0 hP hK
  obtain ⟨rfl, hZ, hh⟩ := hP
  have hx := Bd.exec
  have hby := Bd.bytes
  have hml : c.maxLocals = 1 := hml0
  have hown : s.vm.findClass "com/example/lectern/lectern/catalog/MemberSlotsFullPinLaw" = some m.cls := findClass_of_methodNamed Bd.named
  have hnm := (name_of_methodNamed Bd.named Bd.method).1
  have X0 : Stand p l e ({ frames := 0, cells := 0, slots := 0, locals := 0 } : Room) s m #[(.int p1)] below meth c s₁ [] 0 0 := Stand.of_body Bd
  have e0 : s₁.heap = h0 := by rw [← hh, Bd.state]; rfl
  have N0 := Fr.nil n0
  have K0 : Keep h0 h0 [] := Keep.refl h0 _
  refine Go.st (P := fun o U' => ∃ v L, o = .returned v ∧ Q6 Z p1 h0 n0 v U'.heap L ∧ FrameEnd s o U' L ({ frames := 0, cells := 0, slots := 0, locals := 0 } : Room).cells ({ frames := 0, cells := 0, slots := 0, locals := 0 } : Room).slots) (fun t k => castTop (ef6 m p1) k) ?_
  show Go _ _ _ (s₁.setTop (mkF m 0 #[.val (.int p1)] [])) _
  refine Go.st (fun t k => XS.iloadN X0.here hx rfl (hb hby d6_0) rfl k) ?_
  refine Go.st (fun t k => XS.iconst X0.here hx rfl (hb hby d6_1) k) ?_
  by_cases hc1 : p1 = (-1 : Int32)
  · refine Go.st (fun t k => XS.icmpNo X0.here hx rfl (hb hby d6_2) rfl (teq hc1).2 k) ?_
    show Go _ _ _ (s₁.setTop (mkF m 5 #[.val (.int p1)] [])) _
    refine Go.st (fun t k => XS.iconst X0.here hx rfl (hb hby d6_5) k) ?_
    obtain ⟨fs, hr, hrun, hended, hW, hsame⟩ := X0.leave (v := some (.int (0 : Int32))) (fun h => by rw [Bd.returns] at h; cases h)
    refine Go.fin (retN X0 hx (t := .boolean) Bd.returns (by simp) (hb hby d6_6) hr) hrun hended ⟨_, _, rfl, ?_, ⟨_, rfl⟩, hW, hsame.mono (by decide) (by decide)⟩
    show Q6 Z p1 h0 n0 _ s₁.heap _
    rw [e0]
    exact ⟨(by unfold f6; simp only [if_pos hc1]), N0, rfl⟩
  · refine Go.st (fun t k => XS.icmpYes X0.here hx rfl (pc0 := 2) (pc' := 7) rfl (hb hby d6_2) rfl (feq hc1).2 (by decide) (by decide) k) ?_
    show Go _ _ _ (s₁.setTop (mkF m 7 #[.val (.int p1)] [])) _
    refine Go.st (fun t k => XS.iconst X0.here hx rfl (hb hby d6_7) k) ?_
    obtain ⟨fs, hr, hrun, hended, hW, hsame⟩ := X0.leave (v := some (.int (1 : Int32))) (fun h => by rw [Bd.returns] at h; cases h)
    refine Go.fin (retN X0 hx (t := .boolean) Bd.returns (by simp) (hb hby d6_8) hr) hrun hended ⟨_, _, rfl, ?_, ⟨_, rfl⟩, hW, hsame.mono (by decide) (by decide)⟩
    show Q6 Z p1 h0 n0 _ s₁.heap _
    rw [e0]
    exact ⟨(by unfold f6; simp only [if_neg hc1]), N0, rfl⟩
theorem d7_0 : decode prog_30_method_7_code 0 = .ok (.aload_n 0, 1) := by decide +kernel
theorem d7_1 : decode prog_30_method_7_code 1 = .ok (.getfield 19, 3) := by decide +kernel
theorem d7_4 : decode prog_30_method_7_code 4 = .ok (.iconst (-1), 1) := by decide +kernel
theorem d7_5 : decode prog_30_method_7_code 5 = .ok (.if_icmp .ne 15, 3) := by decide +kernel
theorem d7_8 : decode prog_30_method_7_code 8 = .ok (.aload_n 0, 1) := by decide +kernel
theorem d7_9 : decode prog_30_method_7_code 9 = .ok (.getfield 22, 3) := by decide +kernel
theorem d7_12 : decode prog_30_method_7_code 12 = .ok (.iconst (-1), 1) := by decide +kernel
theorem d7_13 : decode prog_30_method_7_code 13 = .ok (.if_icmp .ne 7, 3) := by decide +kernel
theorem d7_16 : decode prog_30_method_7_code 16 = .ok (.iconst 1, 1) := by decide +kernel
theorem d7_17 : decode prog_30_method_7_code 17 = .ok (.goto 4, 3) := by decide +kernel
theorem d7_21 : decode prog_30_method_7_code 21 = .ok (.ireturn, 1) := by decide +kernel
theorem d7_20 : decode prog_30_method_7_code 20 = .ok (.iconst 0, 1) := by decide +kernel
def f7 (w_a1_fromLeft : Int32) (w_a1_fromRight : Int32) : Int32 := (if w_a1_fromLeft = (-1 : Int32) then (if w_a1_fromRight = (-1 : Int32) then (1 : Int32) else (0 : Int32)) else (0 : Int32))
def Q7 (Z : State) (a1 : Addr) (w_a1_fromLeft : Int32) (w_a1_fromRight : Int32) (h0 : Heap) (n0 : Nat) (v : Option Value) (h : Heap) (L : List Loc) : Prop := v = some (.int (f7 w_a1_fromLeft w_a1_fromRight)) ∧ Fr n0 L ∧ h = h0
theorem ef7 (m : MethodId) (x0 : Addr) : entryFrame m #[(.ref x0)] 1 = mkF m 0 #[.val (.ref x0)] [] := by first | (simp [entryFrame, mkF, argsToLocals, Value.category]; done) | rfl
set_option maxRecDepth 65536 in
set_option maxHeartbeats 16000000 in
theorem rm7 (l : Launch) (Z : State) (a0 : Array Value) (hw : ∀ d ∈ tables_1, d.before a0 Z = true) (ws : List Jvm.Cond) (a1 : Addr) (w_a1_fromLeft : Int32) (w_a1_fromRight : Int32) (h0 : Heap) (n0 : Nat) (Z0 : n0 ≤ h0.size) (F_a1_fromLeft : Fld Z h0 a1 "com/example/lectern/lectern/catalog/Franklin$Member" "fromLeft" "I" (.int w_a1_fromLeft)) (F_a1_fromRight : Fld Z h0 a1 "com/example/lectern/lectern/catalog/Franklin$Member" "fromRight" "I" (.int w_a1_fromRight)) :
    MetFree l (⟨"com/example/lectern/lectern/catalog/Franklin$Member", "slotsEmpty", "()Z"⟩ : MethodName) (head1 (Jvm.Cond.code (⟨"com/example/lectern/lectern/catalog/Franklin$Member", "slotsEmpty", "()Z"⟩ : MethodName) prog_30_method_7_code 1 (some .boolean) :: ws) ({ frames := 0, cells := 0, slots := 0, locals := 0 } : Room)) (fun a U => a = #[(.ref a1)] ∧ Z.Warmed39 U.vm ∧ U.heap = h0) (fun _ _ _ _ _ => True) (fun _ U o U' => ∃ v L, o = .returned v ∧ Q7 Z a1 w_a1_fromLeft w_a1_fromRight h0 n0 v U'.heap L ∧ FrameEnd U o U' L ({ frames := 0, cells := 0, slots := 0, locals := 0 } : Room).cells ({ frames := 0, cells := 0, slots := 0, locals := 0 } : Room).slots) := by
  refine MetFree.of_bodySF (plainFor_of_name pn2) hisR ?_
  intro p e s m args below meth c s₁ Bd hml0 hP hK
  obtain ⟨rfl, hZ, hh⟩ := hP
  have hx := Bd.exec
  have hby := Bd.bytes
  have hml : c.maxLocals = 1 := hml0
  have hown : s.vm.findClass "com/example/lectern/lectern/catalog/Franklin$Member" = some m.cls := findClass_of_methodNamed Bd.named
  have hnm := (name_of_methodNamed Bd.named Bd.method).1
  have X0 : Stand p l e ({ frames := 0, cells := 0, slots := 0, locals := 0 } : Room) s m #[(.ref a1)] below meth c s₁ [] 0 0 := Stand.of_body Bd
  have e0 : s₁.heap = h0 := by rw [← hh, Bd.state]; rfl
  have N0 := Fr.nil n0
  have K0 : Keep h0 h0 [] := Keep.refl h0 _
  refine Go.st (P := fun o U' => ∃ v L, o = .returned v ∧ Q7 Z a1 w_a1_fromLeft w_a1_fromRight h0 n0 v U'.heap L ∧ FrameEnd s o U' L ({ frames := 0, cells := 0, slots := 0, locals := 0 } : Room).cells ({ frames := 0, cells := 0, slots := 0, locals := 0 } : Room).slots) (fun t k => castTop (ef7 m a1) k) ?_
  show Go _ _ _ (s₁.setTop (mkF m 0 #[.val (.ref a1)] [])) _
  refine Go.st (fun t k => XS.aloadN X0.here hx rfl (hb hby d7_0) rfl rfl k) ?_
  obtain ⟨T1, X1, e1, st1⟩ := getF X0 hx hZ hown (host := "") (Or.inl (wd25 hw)) Via.refl e0 F_a1_fromLeft (g := (mkF m 1 #[.val (.ref a1)] [(.ref a1)])) rfl rfl (hb hby d7_1)
  refine Go.st st1 ?_
  show Go _ _ _ (T1.setTop (mkF m 4 #[.val (.ref a1)] [(.int w_a1_fromLeft)])) _
  refine Go.st (fun t k => XS.iconst X1.here hx rfl (hb hby d7_4) k) ?_
  by_cases hc2 : w_a1_fromLeft = (-1 : Int32)
  · refine Go.st (fun t k => XS.icmpNo X1.here hx rfl (hb hby d7_5) rfl (teq hc2).2 k) ?_
    show Go _ _ _ (T1.setTop (mkF m 8 #[.val (.ref a1)] [])) _
    refine Go.st (fun t k => XS.aloadN X1.here hx rfl (hb hby d7_8) rfl rfl k) ?_
    obtain ⟨T3, X3, e3, st3⟩ := getF X1 hx hZ hown (host := "") (Or.inl (wd27 hw)) Via.refl e1 F_a1_fromRight (g := (mkF m 9 #[.val (.ref a1)] [(.ref a1)])) rfl rfl (hb hby d7_9)
    refine Go.st st3 ?_
    show Go _ _ _ (T3.setTop (mkF m 12 #[.val (.ref a1)] [(.int w_a1_fromRight)])) _
    refine Go.st (fun t k => XS.iconst X3.here hx rfl (hb hby d7_12) k) ?_
    by_cases hc4 : w_a1_fromRight = (-1 : Int32)
    · refine Go.st (fun t k => XS.icmpNo X3.here hx rfl (hb hby d7_13) rfl (teq hc4).2 k) ?_
      show Go _ _ _ (T3.setTop (mkF m 16 #[.val (.ref a1)] [])) _
      refine Go.st (fun t k => XS.iconst X3.here hx rfl (hb hby d7_16) k) ?_
      refine Go.st (fun t k => XS.goto X3.here hx rfl (pc0 := 17) (pc' := 21) rfl (hb hby d7_17) (by decide) (by decide) k) ?_
      obtain ⟨fs, hr, hrun, hended, hW, hsame⟩ := X3.leave (v := some (.int (1 : Int32))) (fun h => by rw [Bd.returns] at h; cases h)
      refine Go.fin (retN X3 hx (t := .boolean) Bd.returns (by simp) (hb hby d7_21) hr) hrun hended ⟨_, _, rfl, ?_, ⟨_, rfl⟩, hW, hsame.mono (by decide) (by decide)⟩
      show Q7 Z a1 w_a1_fromLeft w_a1_fromRight h0 n0 _ T3.heap _
      rw [e3]
      exact ⟨(by unfold f7; simp only [if_pos hc2, if_pos hc4]), N0, rfl⟩
    · refine Go.st (fun t k => XS.icmpYes X3.here hx rfl (pc0 := 13) (pc' := 20) rfl (hb hby d7_13) rfl (feq hc4).2 (by decide) (by decide) k) ?_
      show Go _ _ _ (T3.setTop (mkF m 20 #[.val (.ref a1)] [])) _
      refine Go.st (fun t k => XS.iconst X3.here hx rfl (hb hby d7_20) k) ?_
      obtain ⟨fs, hr, hrun, hended, hW, hsame⟩ := X3.leave (v := some (.int (0 : Int32))) (fun h => by rw [Bd.returns] at h; cases h)
      refine Go.fin (retN X3 hx (t := .boolean) Bd.returns (by simp) (hb hby d7_21) hr) hrun hended ⟨_, _, rfl, ?_, ⟨_, rfl⟩, hW, hsame.mono (by decide) (by decide)⟩
      show Q7 Z a1 w_a1_fromLeft w_a1_fromRight h0 n0 _ T3.heap _
      rw [e3]
      exact ⟨(by unfold f7; simp only [if_pos hc2, if_neg hc4]), N0, rfl⟩
  · refine Go.st (fun t k => XS.icmpYes X1.here hx rfl (pc0 := 5) (pc' := 20) rfl (hb hby d7_5) rfl (feq hc2).2 (by decide) (by decide) k) ?_
    show Go _ _ _ (T1.setTop (mkF m 20 #[.val (.ref a1)] [])) _
    refine Go.st (fun t k => XS.iconst X1.here hx rfl (hb hby d7_20) k) ?_
    obtain ⟨fs, hr, hrun, hended, hW, hsame⟩ := X1.leave (v := some (.int (0 : Int32))) (fun h => by rw [Bd.returns] at h; cases h)
    refine Go.fin (retN X1 hx (t := .boolean) Bd.returns (by simp) (hb hby d7_21) hr) hrun hended ⟨_, _, rfl, ?_, ⟨_, rfl⟩, hW, hsame.mono (by decide) (by decide)⟩
    show Q7 Z a1 w_a1_fromLeft w_a1_fromRight h0 n0 _ T1.heap _
    rw [e1]
    exact ⟨(by unfold f7; simp only [if_neg hc2]), N0, rfl⟩
theorem d8_0 : decode prog_30_method_6_code 0 = .ok (.new 10, 3) := by decide +kernel
theorem wd47 {Z : State} {a0 : Array Value} (hw : ∀ d ∈ tables_1, d.before a0 Z = true) : (Jvm.Cond.classLink "com/example/lectern/lectern/catalog/Franklin$Member" (10 : Nat) "com/example/lectern/lectern/catalog/Franklin$Member").before a0 Z = true := hw _ (List.mem_of_getElem? (i := 47) rfl)
theorem wd2 {Z : State} {a0 : Array Value} (hw : ∀ d ∈ tables_1, d.before a0 Z = true) : (Jvm.Cond.initialized "com/example/lectern/lectern/catalog/Franklin$Member").before a0 Z = true := hw _ (List.mem_of_getElem? (i := 2) rfl)
theorem d8_3 : decode prog_30_method_6_code 3 = .ok (.dup, 1) := by decide +kernel
theorem d8_4 : decode prog_30_method_6_code 4 = .ok (.aload_n 0, 1) := by decide +kernel
theorem d8_5 : decode prog_30_method_6_code 5 = .ok (.getfield 9, 3) := by decide +kernel
theorem d8_8 : decode prog_30_method_6_code 8 = .ok (.aload_n 0, 1) := by decide +kernel
theorem d8_9 : decode prog_30_method_6_code 9 = .ok (.getfield 15, 3) := by decide +kernel
theorem d8_12 : decode prog_30_method_6_code 12 = .ok (.iconst (-1), 1) := by decide +kernel
theorem d8_13 : decode prog_30_method_6_code 13 = .ok (.iconst (-1), 1) := by decide +kernel
theorem d8_14 : decode prog_30_method_6_code 14 = .ok (.invokespecial 25, 3) := by decide +kernel
theorem wd12 {Z : State} {a0 : Array Value} (hw : ∀ d ∈ tables_1, d.before a0 Z = true) : (Jvm.Cond.code ({ cls := "com/example/lectern/lectern/catalog/Franklin$Member", name := "<init>", desc := "(Lcom/example/lectern/lectern/catalog/Franklin$Phase;III)V" } : Jvm.MethodName) prog_30_method_1_code (5 : Nat) (Option.none : Option Jvm.ClassFile.FieldType)).before a0 Z = true := hw _ (List.mem_of_getElem? (i := 12) rfl)
theorem pd1 : parseMethodDescriptor "(Lcom/example/lectern/lectern/catalog/Franklin$Phase;III)V" = some ⟨[(.object "com/example/lectern/lectern/catalog/Franklin$Phase"), .int, .int, .int], none⟩ := by decide +kernel
theorem wd11 {Z : State} {a0 : Array Value} (hw : ∀ d ∈ tables_1, d.before a0 Z = true) : (Jvm.Cond.instanceMethod ({ cls := "com/example/lectern/lectern/catalog/Franklin$Member", name := "<init>", desc := "(Lcom/example/lectern/lectern/catalog/Franklin$Phase;III)V" } : Jvm.MethodName)).before a0 Z = true := hw _ (List.mem_of_getElem? (i := 11) rfl)
theorem d8_17 : decode prog_30_method_6_code 17 = .ok (.areturn, 1) := by decide +kernel
def Q8 (Z : State) (a1 : Addr) (w_a1_phase : Addr) (w_a1_leader : Int32) (h0 : Heap) (n0 : Nat) (v : Option Value) (h : Heap) (L : List Loc) : Prop := ∃ x8_0 : Addr, v = some (.ref x8_0) ∧ Fr n0 L ∧ Keep h0 h [] ∧ n0 ≤ x8_0 ∧ h0.size ≤ x8_0 ∧ Exa Z h x8_0 "com/example/lectern/lectern/catalog/Franklin$Member" ∧ Fld Z h x8_0 "com/example/lectern/lectern/catalog/Franklin$Member" "phase" "Lcom/example/lectern/lectern/catalog/Franklin$Phase;" (.ref w_a1_phase) ∧ Fld Z h x8_0 "com/example/lectern/lectern/catalog/Franklin$Member" "leader" "I" (.int w_a1_leader) ∧ Fld Z h x8_0 "com/example/lectern/lectern/catalog/Franklin$Member" "fromLeft" "I" (.int (-1 : Int32)) ∧ Fld Z h x8_0 "com/example/lectern/lectern/catalog/Franklin$Member" "fromRight" "I" (.int (-1 : Int32))
theorem ef8 (m : MethodId) (x0 : Addr) : entryFrame m #[(.ref x0)] 1 = mkF m 0 #[.val (.ref x0)] [] := by first | (simp [entryFrame, mkF, argsToLocals, Value.category]; done) | rfl
set_option maxRecDepth 65536 in
set_option maxHeartbeats 16000000 in
theorem rm8 (l : Launch) (Z : State) (a0 : Array Value) (hw : ∀ d ∈ tables_1, d.before a0 Z = true) (ws : List Jvm.Cond) (a1 : Addr) (w_a1_phase : Addr) (w_a1_leader : Int32) (h0 : Heap) (n0 : Nat) (Z0 : n0 ≤ h0.size) (F_a1_phase : Fld Z h0 a1 "com/example/lectern/lectern/catalog/Franklin$Member" "phase" "Lcom/example/lectern/lectern/catalog/Franklin$Phase;" (.ref w_a1_phase)) (F_a1_leader : Fld Z h0 a1 "com/example/lectern/lectern/catalog/Franklin$Member" "leader" "I" (.int w_a1_leader)) :
    MetFree l (⟨"com/example/lectern/lectern/catalog/Franklin$Member", "emptied", "()Lcom/example/lectern/lectern/catalog/Franklin$Member;"⟩ : MethodName) (head1 (Jvm.Cond.code (⟨"com/example/lectern/lectern/catalog/Franklin$Member", "emptied", "()Lcom/example/lectern/lectern/catalog/Franklin$Member;"⟩ : MethodName) prog_30_method_6_code 1 (some (.object "com/example/lectern/lectern/catalog/Franklin$Member")) :: ws) ({ frames := 3, cells := 1, slots := 4, locals := 41 } : Room)) (fun a U => a = #[(.ref a1)] ∧ Z.Warmed39 U.vm ∧ U.heap = h0) (fun _ _ _ _ _ => True) (fun _ U o U' => ∃ v L, o = .returned v ∧ Q8 Z a1 w_a1_phase w_a1_leader h0 n0 v U'.heap L ∧ FrameEnd U o U' L ({ frames := 3, cells := 1, slots := 4, locals := 41 } : Room).cells ({ frames := 3, cells := 1, slots := 4, locals := 41 } : Room).slots) := by
  refine MetFree.of_bodySF (plainFor_of_name pn2) hisR ?_
  intro p e s m args below meth c s₁ Bd hml0 hP hK
  obtain ⟨rfl, hZ, hh⟩ := hP
  have hx := Bd.exec
  have hby := Bd.bytes
  have hml : c.maxLocals = 1 := hml0
  have hown : s.vm.findClass "com/example/lectern/lectern/catalog/Franklin$Member" = some m.cls := findClass_of_methodNamed Bd.named
  have hnm := (name_of_methodNamed Bd.named Bd.method).1
  have X0 : Stand p l e ({ frames := 3, cells := 1, slots := 4, locals := 41 } : Room) s m #[(.ref a1)] below meth c s₁ [] 0 0 := Stand.of_body Bd
  have e0 : s₁.heap = h0 := by rw [← hh, Bd.state]; rfl
  have N0 := Fr.nil n0
  have K0 : Keep h0 h0 [] := Keep.refl h0 _
  refine Go.st (P := fun o U' => ∃ v L, o = .returned v ∧ Q8 Z a1 w_a1_phase w_a1_leader h0 n0 v U'.heap L ∧ FrameEnd s o U' L ({ frames := 3, cells := 1, slots := 4, locals := 41 } : Room).cells ({ frames := 3, cells := 1, slots := 4, locals := 41 } : Room).slots) (fun t k => castTop (ef8 m a1) k) ?_
  show Go _ _ _ (s₁.setTop (mkF m 0 #[.val (.ref a1)] [])) _
  obtain ⟨T1, h1, X1, e1, E1, A1, D1, -, st1⟩ := newO X0 hx hZ hown (wd47 hw) (wd1 hw) (wd2 hw) e0 (g := (mkF m 0 #[.val (.ref a1)] [])) rfl (hb hby d8_0) (by decide) (by decide)
  obtain ⟨b1, g1⟩ : ∃ z, z = h0.size := ⟨_, rfl⟩
  rw [← g1] at A1 D1 st1
  refine Go.st st1 ?_
  have ne_a1_b1 : a1 ≠ b1 := Nat.ne_of_lt (Nat.lt_of_lt_of_le F_a1_phase.lt (Nat.le_of_eq g1.symm))
  have g_b1 : n0 ≤ b1 := Nat.le_trans Z0 (Nat.le_of_eq g1.symm)
  have sz_b1 : h0.size ≤ b1 := Nat.le_trans K0.1 (Nat.le_of_eq g1.symm)
  replace F_a1_phase := F_a1_phase.ext E1
  replace F_a1_leader := F_a1_leader.ext E1
  replace K0 := K0.ext E1
  replace Z0 := Nat.le_trans Z0 E1.1
  have E_b1 := A1
  have F_b1_phase : Fld Z h1 b1 "com/example/lectern/lectern/catalog/Franklin$Member" "phase" "Lcom/example/lectern/lectern/catalog/Franklin$Phase;" .null := D1 (Or.inr (wd22 hw)) (ty := (.object "com/example/lectern/lectern/catalog/Franklin$Phase")) (by decide)
  have F_b1_leader : Fld Z h1 b1 "com/example/lectern/lectern/catalog/Franklin$Member" "leader" "I" (.int (0 : Int32)) := D1 (Or.inr (wd24 hw)) (ty := .int) (by decide)
  have F_b1_fromLeft : Fld Z h1 b1 "com/example/lectern/lectern/catalog/Franklin$Member" "fromLeft" "I" (.int (0 : Int32)) := D1 (Or.inr (wd26 hw)) (ty := .int) (by decide)
  have F_b1_fromRight : Fld Z h1 b1 "com/example/lectern/lectern/catalog/Franklin$Member" "fromRight" "I" (.int (0 : Int32)) := D1 (Or.inr (wd28 hw)) (ty := .int) (by decide)
  show Go _ _ _ (T1.setTop (mkF m 3 #[.val (.ref a1)] [(.ref b1)])) _
  refine Go.st (fun t k => XS.dup X1.here hx rfl (hb hby d8_3) rfl rfl k) ?_
  refine Go.st (fun t k => XS.aloadN X1.here hx rfl (hb hby d8_4) rfl rfl k) ?_
  obtain ⟨T2, X2, e2, st2⟩ := getF X1 hx hZ hown (host := "") (Or.inl (wd21 hw)) Via.refl e1 F_a1_phase (g := (mkF m 5 #[.val (.ref a1)] [(.ref a1), (.ref b1), (.ref b1)])) rfl rfl (hb hby d8_5)
  refine Go.st st2 ?_
  show Go _ _ _ (T2.setTop (mkF m 8 #[.val (.ref a1)] [(.ref w_a1_phase), (.ref b1), (.ref b1)])) _
  refine Go.st (fun t k => XS.aloadN X2.here hx rfl (hb hby d8_8) rfl rfl k) ?_
  obtain ⟨T3, X3, e3, st3⟩ := getF X2 hx hZ hown (host := "") (Or.inl (wd23 hw)) Via.refl e2 F_a1_leader (g := (mkF m 9 #[.val (.ref a1)] [(.ref a1), (.ref w_a1_phase), (.ref b1), (.ref b1)])) rfl rfl (hb hby d8_9)
  refine Go.st st3 ?_
  show Go _ _ _ (T3.setTop (mkF m 12 #[.val (.ref a1)] [(.int w_a1_leader), (.ref w_a1_phase), (.ref b1), (.ref b1)])) _
  refine Go.st (fun t k => XS.iconst X3.here hx rfl (hb hby d8_12) k) ?_
  refine Go.st (fun t k => XS.iconst X3.here hx rfl (hb hby d8_13) k) ?_
  obtain ⟨_, _, ⟨T4, L4, k4, n4⟩, -, X4, ⟨Lc4, hQ4, l4, y4, z4⟩, st4⟩ := X3.specialBack hx (y := (⟨"com/example/lectern/lectern/catalog/Franklin$Member", "<init>", "(Lcom/example/lectern/lectern/catalog/Franklin$Phase;III)V"⟩ : MethodName)) rfl hown (mvT hZ (wd48 hw)) (mvT hZ (wd11 hw)) (mvT hZ (wd12 hw)) (by decide) (backOf (W := 1) (rm2 l Z a0 hw [] b1 w_a1_phase w_a1_leader (-1 : Int32) (-1 : Int32) (.null : Value) ((.int (0 : Int32)) : Value) ((.int (0 : Int32)) : Value) ((.int (0 : Int32)) : Value) h1 n0 Z0 E_b1 F_b1_phase F_b1_leader F_b1_fromLeft F_b1_fromRight g_b1) hZ (wd12 hw) (wd2 hw) (by decide) (by decide)) (g := (mkF m 14 #[.val (.ref a1)] [(.int (-1)), (.int (-1)), (.int w_a1_leader), (.ref w_a1_phase), (.ref b1), (.ref b1)])) rfl (by rw [hml]; rfl) (Steps.refl _) (a := b1) (argsL := [(.ref w_a1_phase), (.int w_a1_leader), (.int (-1 : Int32)), (.int (-1 : Int32))]) (rest := [(.ref b1)]) (lenOf pd1 rfl) rfl (by show 2 * 0 + _ ≤ _; exact Nat.le_of_eq rfl) (hb hby d8_14) (fun _ _ => ⟨rfl, e3, (by decide : 1 + 0 ≤ _), (by decide : 4 + 0 ≤ _)⟩)
  dsimp only [Pt.U, Pt.locs, Pt.cells, Pt.slots] at X4 l4 y4 z4 st4 hQ4
  subst l4 y4 z4
  refine Go.tr st4 ?_
  have E_b1_pre := E_b1
  have F_b1_phase_pre := F_b1_phase
  have F_b1_leader_pre := F_b1_leader
  have F_b1_fromLeft_pre := F_b1_fromLeft
  have F_b1_fromRight_pre := F_b1_fromRight
  obtain ⟨h4, e4⟩ : ∃ z, T4.heap = z := ⟨_, rfl⟩
  rw [e4] at hQ4
  obtain ⟨rfl, N4q, K4, Q4_0, Q4_1, Q4_2, Q4_3, Q4_4⟩ := hQ4
  replace F_a1_phase := F_a1_phase.keep K4 (ninS ne_a1_b1 nin0)
  replace F_a1_leader := F_a1_leader.keep K4 (ninS ne_a1_b1 nin0)
  replace E_b1 := E_b1.keep K4
  replace Z0 := Nat.le_trans Z0 K4.1
  replace K0 := K0.trans K4 (allS (Or.inr sz_b1) all0)
  have E_b1 := Q4_0
  have F_b1_phase := Q4_1
  have F_b1_leader := Q4_2
  have F_b1_fromLeft := Q4_3
  have F_b1_fromRight := Q4_4
  have N4 := Fr.app N0 N4q
  show Go _ _ _ (T4.setTop (mkF m 17 #[.val (.ref a1)] [(.ref b1)])) _
  obtain ⟨fs, hr, hrun, hended, hW, hsame⟩ := X4.leave (v := some (.ref b1)) (fun h => by rw [Bd.returns] at h; cases h)
  refine Go.fin (retOut X4 hx Bd.returns rfl (Or.inr (Or.inr (Or.inr (Or.inr ⟨rfl, rfl, rfl⟩)))) (hb hby d8_17) hr) hrun hended ⟨_, _, rfl, ?_, ⟨_, rfl⟩, hW, hsame.mono (by decide) (by decide)⟩
  show Q8 Z a1 w_a1_phase w_a1_leader h0 n0 _ T4.heap _
  rw [e4]
  exact ⟨b1, rfl, N4, K0, g_b1, sz_b1, E_b1, F_b1_phase, F_b1_leader, F_b1_fromLeft, F_b1_fromRight⟩
theorem wd0 {Z : State} {a0 : Array Value} (hw : ∀ d ∈ tables_1, d.before a0 Z = true) : (Jvm.Cond.classLink "com/example/lectern/lectern/catalog/MemberSlotsFullPinLaw" (22 : Nat) "com/example/lectern/lectern/catalog/Franklin$Member").before a0 Z = true := hw _ (List.mem_of_getElem? (i := 0) rfl)
theorem wd6 {Z : State} {a0 : Array Value} (hw : ∀ d ∈ tables_1, d.before a0 Z = true) : (Jvm.Cond.code ({ cls := "com/example/lectern/lectern/catalog/MemberSlotsFullPinLaw", name := "phase", desc := "(I)Lcom/example/lectern/lectern/catalog/Franklin$Phase;" } : Jvm.MethodName) method_2_code (2 : Nat) (Option.some (Jvm.ClassFile.FieldType.object "com/example/lectern/lectern/catalog/Franklin$Phase"))).before a0 Z = true := hw _ (List.mem_of_getElem? (i := 6) rfl)
theorem wd5 {Z : State} {a0 : Array Value} (hw : ∀ d ∈ tables_1, d.before a0 Z = true) : (Jvm.Cond.initialized "com/example/lectern/lectern/catalog/MemberSlotsFullPinLaw").before a0 Z = true := hw _ (List.mem_of_getElem? (i := 5) rfl)
theorem pd2 : parseMethodDescriptor "(I)Lcom/example/lectern/lectern/catalog/Franklin$Phase;" = some ⟨[.int], some (.object "com/example/lectern/lectern/catalog/Franklin$Phase")⟩ := by decide +kernel
theorem wd4 {Z : State} {a0 : Array Value} (hw : ∀ d ∈ tables_1, d.before a0 Z = true) : (Jvm.Cond.static ({ cls := "com/example/lectern/lectern/catalog/MemberSlotsFullPinLaw", name := "phase", desc := "(I)Lcom/example/lectern/lectern/catalog/Franklin$Phase;" } : Jvm.MethodName)).before a0 Z = true := hw _ (List.mem_of_getElem? (i := 4) rfl)
theorem wd33 {Z : State} {a0 : Array Value} (hw : ∀ d ∈ tables_1, d.before a0 Z = true) : (Jvm.Cond.code ({ cls := "com/example/lectern/lectern/catalog/Franklin$Member", name := "slotsFull", desc := "()Z" } : Jvm.MethodName) prog_30_method_8_code (1 : Nat) (Option.some Jvm.ClassFile.FieldType.boolean)).before a0 Z = true := hw _ (List.mem_of_getElem? (i := 33) rfl)
theorem pd3 : parseMethodDescriptor "()Z" = some ⟨[], some .boolean⟩ := by decide +kernel
theorem wd32 {Z : State} {a0 : Array Value} (hw : ∀ d ∈ tables_1, d.before a0 Z = true) : (Jvm.Cond.selects "com/example/lectern/lectern/catalog/Franklin$Member" ({ cls := "com/example/lectern/lectern/catalog/Franklin$Member", name := "slotsFull", desc := "()Z" } : Jvm.MethodName) ({ cls := "com/example/lectern/lectern/catalog/Franklin$Member", name := "slotsFull", desc := "()Z" } : Jvm.MethodName)).before a0 Z = true := hw _ (List.mem_of_getElem? (i := 32) rfl)
theorem wd30 {Z : State} {a0 : Array Value} (hw : ∀ d ∈ tables_1, d.before a0 Z = true) : (Jvm.Cond.declares ({ cls := "com/example/lectern/lectern/catalog/Franklin$Member", name := "slotsFull", desc := "()Z" } : Jvm.MethodName)).before a0 Z = true := hw _ (List.mem_of_getElem? (i := 30) rfl)
theorem wd31 {Z : State} {a0 : Array Value} (hw : ∀ d ∈ tables_1, d.before a0 Z = true) : (Jvm.Cond.instanceMethod ({ cls := "com/example/lectern/lectern/catalog/Franklin$Member", name := "slotsFull", desc := "()Z" } : Jvm.MethodName)).before a0 Z = true := hw _ (List.mem_of_getElem? (i := 31) rfl)
theorem wd36 {Z : State} {a0 : Array Value} (hw : ∀ d ∈ tables_1, d.before a0 Z = true) : (Jvm.Cond.code ({ cls := "com/example/lectern/lectern/catalog/MemberSlotsFullPinLaw", name := "holdsId", desc := "(I)Z" } : Jvm.MethodName) method_3_code (1 : Nat) (Option.some Jvm.ClassFile.FieldType.boolean)).before a0 Z = true := hw _ (List.mem_of_getElem? (i := 36) rfl)
theorem pd4 : parseMethodDescriptor "(I)Z" = some ⟨[.int], some .boolean⟩ := by decide +kernel
theorem wd35 {Z : State} {a0 : Array Value} (hw : ∀ d ∈ tables_1, d.before a0 Z = true) : (Jvm.Cond.static ({ cls := "com/example/lectern/lectern/catalog/MemberSlotsFullPinLaw", name := "holdsId", desc := "(I)Z" } : Jvm.MethodName)).before a0 Z = true := hw _ (List.mem_of_getElem? (i := 35) rfl)
theorem wd46 {Z : State} {a0 : Array Value} (hw : ∀ d ∈ tables_1, d.before a0 Z = true) : (Jvm.Cond.code ({ cls := "com/example/lectern/lectern/catalog/Franklin$Member", name := "emptied", desc := "()Lcom/example/lectern/lectern/catalog/Franklin$Member;" } : Jvm.MethodName) prog_30_method_6_code (1 : Nat) (Option.some (Jvm.ClassFile.FieldType.object "com/example/lectern/lectern/catalog/Franklin$Member"))).before a0 Z = true := hw _ (List.mem_of_getElem? (i := 46) rfl)
theorem pd5 : parseMethodDescriptor "()Lcom/example/lectern/lectern/catalog/Franklin$Member;" = some ⟨[], some (.object "com/example/lectern/lectern/catalog/Franklin$Member")⟩ := by decide +kernel
theorem wd45 {Z : State} {a0 : Array Value} (hw : ∀ d ∈ tables_1, d.before a0 Z = true) : (Jvm.Cond.selects "com/example/lectern/lectern/catalog/Franklin$Member" ({ cls := "com/example/lectern/lectern/catalog/Franklin$Member", name := "emptied", desc := "()Lcom/example/lectern/lectern/catalog/Franklin$Member;" } : Jvm.MethodName) ({ cls := "com/example/lectern/lectern/catalog/Franklin$Member", name := "emptied", desc := "()Lcom/example/lectern/lectern/catalog/Franklin$Member;" } : Jvm.MethodName)).before a0 Z = true := hw _ (List.mem_of_getElem? (i := 45) rfl)
theorem wd43 {Z : State} {a0 : Array Value} (hw : ∀ d ∈ tables_1, d.before a0 Z = true) : (Jvm.Cond.declares ({ cls := "com/example/lectern/lectern/catalog/Franklin$Member", name := "emptied", desc := "()Lcom/example/lectern/lectern/catalog/Franklin$Member;" } : Jvm.MethodName)).before a0 Z = true := hw _ (List.mem_of_getElem? (i := 43) rfl)
theorem wd44 {Z : State} {a0 : Array Value} (hw : ∀ d ∈ tables_1, d.before a0 Z = true) : (Jvm.Cond.instanceMethod ({ cls := "com/example/lectern/lectern/catalog/Franklin$Member", name := "emptied", desc := "()Lcom/example/lectern/lectern/catalog/Franklin$Member;" } : Jvm.MethodName)).before a0 Z = true := hw _ (List.mem_of_getElem? (i := 44) rfl)
theorem wd41 {Z : State} {a0 : Array Value} (hw : ∀ d ∈ tables_1, d.before a0 Z = true) : (Jvm.Cond.code ({ cls := "com/example/lectern/lectern/catalog/Franklin$Member", name := "slotsEmpty", desc := "()Z" } : Jvm.MethodName) prog_30_method_7_code (1 : Nat) (Option.some Jvm.ClassFile.FieldType.boolean)).before a0 Z = true := hw _ (List.mem_of_getElem? (i := 41) rfl)
theorem wd40 {Z : State} {a0 : Array Value} (hw : ∀ d ∈ tables_1, d.before a0 Z = true) : (Jvm.Cond.selects "com/example/lectern/lectern/catalog/Franklin$Member" ({ cls := "com/example/lectern/lectern/catalog/Franklin$Member", name := "slotsEmpty", desc := "()Z" } : Jvm.MethodName) ({ cls := "com/example/lectern/lectern/catalog/Franklin$Member", name := "slotsEmpty", desc := "()Z" } : Jvm.MethodName)).before a0 Z = true := hw _ (List.mem_of_getElem? (i := 40) rfl)
theorem wd38 {Z : State} {a0 : Array Value} (hw : ∀ d ∈ tables_1, d.before a0 Z = true) : (Jvm.Cond.declares ({ cls := "com/example/lectern/lectern/catalog/Franklin$Member", name := "slotsEmpty", desc := "()Z" } : Jvm.MethodName)).before a0 Z = true := hw _ (List.mem_of_getElem? (i := 38) rfl)
theorem wd39 {Z : State} {a0 : Array Value} (hw : ∀ d ∈ tables_1, d.before a0 Z = true) : (Jvm.Cond.instanceMethod ({ cls := "com/example/lectern/lectern/catalog/Franklin$Member", name := "slotsEmpty", desc := "()Z" } : Jvm.MethodName)).before a0 Z = true := hw _ (List.mem_of_getElem? (i := 39) rfl)
def Q0 (Z : State) (p1 : Int32) (p2 : Int32) (p3 : Int32) (p4 : Int32) (p5 : Int32) (w_NORMAL : Addr) (w_INITIATOR : Addr) (w_PASSIVE : Addr) (w_LEADER : Addr) (h0 : Heap) (n0 : Nat) (v : Option Value) (h : Heap) (L : List Loc) : Prop := v = some (.int (1 : Int32)) ∧ Fr n0 L
theorem ef0 (m : MethodId) (x0 : Int32) (x1 : Int32) (x2 : Int32) (x3 : Int32) (x4 : Int32) : entryFrame m #[(.int x0), (.int x1), (.int x2), (.int x3), (.int x4)] maxLocals = mkF m 0 #[.val (.int x0), .val (.int x1), .val (.int x2), .val (.int x3), .val (.int x4), .unset, .unset, .unset, .unset, .unset, .unset, .unset] [] := by first | (simp [entryFrame, mkF, argsToLocals, Value.category, maxLocals]; done) | rfl
set_option maxRecDepth 65536 in
set_option maxHeartbeats 16000000 in
theorem rm0 (l : Launch) (Z : State) (a0 : Array Value) (hw : ∀ d ∈ tables_1, d.before a0 Z = true) (ws : List Jvm.Cond) (p1 : Int32) (p2 : Int32) (p3 : Int32) (p4 : Int32) (p5 : Int32) (w_NORMAL : Addr) (w_INITIATOR : Addr) (w_PASSIVE : Addr) (w_LEADER : Addr) (h0 : Heap) (n0 : Nat) (Z0 : n0 ≤ h0.size) (S_NORMAL : Sta Z h0 "com/example/lectern/lectern/catalog/Franklin$Phase" "NORMAL" "Lcom/example/lectern/lectern/catalog/Franklin$Phase;" (.ref w_NORMAL)) (E_w_NORMAL : Exa Z h0 w_NORMAL "com/example/lectern/lectern/catalog/Franklin$Phase") (S_INITIATOR : Sta Z h0 "com/example/lectern/lectern/catalog/Franklin$Phase" "INITIATOR" "Lcom/example/lectern/lectern/catalog/Franklin$Phase;" (.ref w_INITIATOR)) (E_w_INITIATOR : Exa Z h0 w_INITIATOR "com/example/lectern/lectern/catalog/Franklin$Phase") (S_PASSIVE : Sta Z h0 "com/example/lectern/lectern/catalog/Franklin$Phase" "PASSIVE" "Lcom/example/lectern/lectern/catalog/Franklin$Phase;" (.ref w_PASSIVE)) (E_w_PASSIVE : Exa Z h0 w_PASSIVE "com/example/lectern/lectern/catalog/Franklin$Phase") (S_LEADER : Sta Z h0 "com/example/lectern/lectern/catalog/Franklin$Phase" "LEADER" "Lcom/example/lectern/lectern/catalog/Franklin$Phase;" (.ref w_LEADER)) (E_w_LEADER : Exa Z h0 w_LEADER "com/example/lectern/lectern/catalog/Franklin$Phase") :
    MetFree l x (head1 (Jvm.Cond.code x code maxLocals ret :: ws) room_1) (fun a U => a = #[(.int p1), (.int p2), (.int p3), (.int p4), (.int p5)] ∧ Z.Warmed39 U.vm ∧ U.heap = h0) (fun _ _ _ _ _ => True) (fun _ U o U' => ∃ v L, o = .returned v ∧ Q0 Z p1 p2 p3 p4 p5 w_NORMAL w_INITIATOR w_PASSIVE w_LEADER h0 n0 v U'.heap L ∧ FrameEnd U o U' L 16 128) := by
  refine MetFree.of_bodySF (plainFor_of_name pn0) hisR ?_
  intro p e s m args below meth c s₁ Bd hml0 hP hK
  obtain ⟨rfl, hZ, hh⟩ := hP
  have hx := Bd.exec
  have hby := Bd.bytes
  have hml : c.maxLocals = 12 := hml0
  have hown : s.vm.findClass "com/example/lectern/lectern/catalog/MemberSlotsFullPinLaw" = some m.cls := findClass_of_methodNamed Bd.named
  have hnm := (name_of_methodNamed Bd.named Bd.method).1
  have X0 : Stand p l e room_1 s m #[(.int p1), (.int p2), (.int p3), (.int p4), (.int p5)] below meth c s₁ [] 0 0 := Stand.of_body Bd
  have e0 : s₁.heap = h0 := by rw [← hh, Bd.state]; rfl
  have N0 := Fr.nil n0
  have K0 : Keep h0 h0 [] := Keep.refl h0 _
  refine Go.st (P := fun o U' => ∃ v L, o = .returned v ∧ Q0 Z p1 p2 p3 p4 p5 w_NORMAL w_INITIATOR w_PASSIVE w_LEADER h0 n0 v U'.heap L ∧ FrameEnd s o U' L 16 128) (fun t k => castTop (ef0 m p1 p2 p3 p4 p5) k) ?_
  show Go _ _ _ (s₁.setTop (mkF m 0 #[.val (.int p1), .val (.int p2), .val (.int p3), .val (.int p4), .val (.int p5), .unset, .unset, .unset, .unset, .unset, .unset, .unset] [])) _
  refine Go.st (fun t k => XS.iload X0.here hx rfl (hb hby at_0) rfl k) ?_
  refine Go.st (fun t k => XS.iconst X0.here hx rfl (hb hby at_2) k) ?_
  refine Go.st (fun t k => XS.iand X0.here hx rfl (hb hby at_3) rfl k) ?_
  show Go _ _ _ (s₁.setTop (mkF m 4 #[.val (.int p1), .val (.int p2), .val (.int p3), .val (.int p4), .val (.int p5), .unset, .unset, .unset, .unset, .unset, .unset, .unset] [(.int (p5 &&& (1 : Int32)))])) _
  by_cases hc1 : (p5 &&& (1 : Int32)) = (0 : Int32)
  · refine Go.st (fun t k => XS.ifYes X0.here hx rfl (pc0 := 4) (pc' := 11) rfl (hb hby at_4) rfl ((if0 _ _).trans (teq hc1).1) (by decide) (by decide) k) ?_
    show Go _ _ _ (s₁.setTop (mkF m 11 #[.val (.int p1), .val (.int p2), .val (.int p3), .val (.int p4), .val (.int p5), .unset, .unset, .unset, .unset, .unset, .unset, .unset] [])) _
    refine Go.st (fun t k => XS.iloadN X0.here hx rfl (hb hby at_11) rfl k) ?_
    refine Go.st (fun t k => XS.istore X0.here hx rfl (hb hby at_12) rfl (l' := #[.val (.int p1), .val (.int p2), .val (.int p3), .val (.int p4), .val (.int p5), .val (.int p3), .unset, .unset, .unset, .unset, .unset, .unset]) rfl k) ?_
    refine Go.st (fun t k => XS.iload X0.here hx rfl (hb hby at_14) rfl k) ?_
    refine Go.st (fun t k => XS.iconst X0.here hx rfl (hb hby at_16) k) ?_
    refine Go.st (fun t k => XS.iand X0.here hx rfl (hb hby at_17) rfl k) ?_
    show Go _ _ _ (s₁.setTop (mkF m 18 #[.val (.int p1), .val (.int p2), .val (.int p3), .val (.int p4), .val (.int p5), .val (.int p3), .unset, .unset, .unset, .unset, .unset, .unset] [(.int (p5 &&& (2 : Int32)))])) _
    by_cases hc2 : (p5 &&& (2 : Int32)) = (0 : Int32)
    · refine Go.st (fun t k => XS.ifYes X0.here hx rfl (pc0 := 18) (pc' := 25) rfl (hb hby at_18) rfl ((if0 _ _).trans (teq hc2).1) (by decide) (by decide) k) ?_
      show Go _ _ _ (s₁.setTop (mkF m 25 #[.val (.int p1), .val (.int p2), .val (.int p3), .val (.int p4), .val (.int p5), .val (.int p3), .unset, .unset, .unset, .unset, .unset, .unset] [])) _
      refine Go.st (fun t k => XS.iloadN X0.here hx rfl (hb hby at_25) rfl k) ?_
      refine Go.st (fun t k => XS.istore X0.here hx rfl (hb hby at_26) rfl (l' := #[.val (.int p1), .val (.int p2), .val (.int p3), .val (.int p4), .val (.int p5), .val (.int p3), .val (.int p4), .unset, .unset, .unset, .unset, .unset]) rfl k) ?_
      obtain ⟨T3, h3, X3, e3, E3, A3, D3, -, st3⟩ := newO X0 hx hZ hown (wd0 hw) (wd1 hw) (wd2 hw) e0 (g := (mkF m 28 #[.val (.int p1), .val (.int p2), .val (.int p3), .val (.int p4), .val (.int p5), .val (.int p3), .val (.int p4), .unset, .unset, .unset, .unset, .unset] [])) rfl (hb hby at_28) (by decide) (by decide)
      obtain ⟨b3, g3⟩ : ∃ z, z = h0.size := ⟨_, rfl⟩
      rw [← g3] at A3 D3 st3
      refine Go.st st3 ?_
      have ne_w_NORMAL_b3 : w_NORMAL ≠ b3 := Nat.ne_of_lt (Nat.lt_of_lt_of_le E_w_NORMAL.lt (Nat.le_of_eq g3.symm))
      have ne_w_INITIATOR_b3 : w_INITIATOR ≠ b3 := Nat.ne_of_lt (Nat.lt_of_lt_of_le E_w_INITIATOR.lt (Nat.le_of_eq g3.symm))
      have ne_w_PASSIVE_b3 : w_PASSIVE ≠ b3 := Nat.ne_of_lt (Nat.lt_of_lt_of_le E_w_PASSIVE.lt (Nat.le_of_eq g3.symm))
      have ne_w_LEADER_b3 : w_LEADER ≠ b3 := Nat.ne_of_lt (Nat.lt_of_lt_of_le E_w_LEADER.lt (Nat.le_of_eq g3.symm))
      have g_b3 : n0 ≤ b3 := Nat.le_trans Z0 (Nat.le_of_eq g3.symm)
      have sz_b3 : h0.size ≤ b3 := Nat.le_trans K0.1 (Nat.le_of_eq g3.symm)
      replace S_NORMAL := S_NORMAL.ext E3
      replace E_w_NORMAL := E_w_NORMAL.ext E3
      replace S_INITIATOR := S_INITIATOR.ext E3
      replace E_w_INITIATOR := E_w_INITIATOR.ext E3
      replace S_PASSIVE := S_PASSIVE.ext E3
      replace E_w_PASSIVE := E_w_PASSIVE.ext E3
      replace S_LEADER := S_LEADER.ext E3
      replace E_w_LEADER := E_w_LEADER.ext E3
      replace K0 := K0.ext E3
      replace Z0 := Nat.le_trans Z0 E3.1
      have E_b3 := A3
      have F_b3_phase : Fld Z h3 b3 "com/example/lectern/lectern/catalog/Franklin$Member" "phase" "Lcom/example/lectern/lectern/catalog/Franklin$Phase;" .null := D3 (Or.inr (wd22 hw)) (ty := (.object "com/example/lectern/lectern/catalog/Franklin$Phase")) (by decide)
      have F_b3_leader : Fld Z h3 b3 "com/example/lectern/lectern/catalog/Franklin$Member" "leader" "I" (.int (0 : Int32)) := D3 (Or.inr (wd24 hw)) (ty := .int) (by decide)
      have F_b3_fromLeft : Fld Z h3 b3 "com/example/lectern/lectern/catalog/Franklin$Member" "fromLeft" "I" (.int (0 : Int32)) := D3 (Or.inr (wd26 hw)) (ty := .int) (by decide)
      have F_b3_fromRight : Fld Z h3 b3 "com/example/lectern/lectern/catalog/Franklin$Member" "fromRight" "I" (.int (0 : Int32)) := D3 (Or.inr (wd28 hw)) (ty := .int) (by decide)
      show Go _ _ _ (T3.setTop (mkF m 31 #[.val (.int p1), .val (.int p2), .val (.int p3), .val (.int p4), .val (.int p5), .val (.int p3), .val (.int p4), .unset, .unset, .unset, .unset, .unset] [(.ref b3)])) _
      refine Go.st (fun t k => XS.dup X3.here hx rfl (hb hby at_31) rfl rfl k) ?_
      refine Go.st (fun t k => XS.iloadN X3.here hx rfl (hb hby at_32) rfl k) ?_
      obtain ⟨_, _, ⟨T4, L4, k4, n4⟩, -, X4, ⟨Lc4, hQ4, l4, y4, z4⟩, st4⟩ := Jvm.LawKit.callS X3 hx (y := (⟨"com/example/lectern/lectern/catalog/MemberSlotsFullPinLaw", "phase", "(I)Lcom/example/lectern/lectern/catalog/Franklin$Phase;"⟩ : MethodName)) hown (mvT hZ (wd3 hw)) (mvT hZ (wd4 hw)) (mvT hZ (wd5 hw)) (mvT hZ (wd6 hw)) (by decide) (backOf (W := 2) (rm1 l Z a0 hw [] p1 w_NORMAL w_INITIATOR w_PASSIVE w_LEADER h3 n0 Z0 S_NORMAL E_w_NORMAL S_INITIATOR E_w_INITIATOR S_PASSIVE E_w_PASSIVE S_LEADER E_w_LEADER) hZ (wd6 hw) (wd5 hw) (by decide) (by decide)) (g := (mkF m 33 #[.val (.int p1), .val (.int p2), .val (.int p3), .val (.int p4), .val (.int p5), .val (.int p3), .val (.int p4), .unset, .unset, .unset, .unset, .unset] [(.int p1), (.ref b3), (.ref b3)])) rfl (by rw [hml]; rfl) (argsL := [(.int p1)]) (rest := [(.ref b3), (.ref b3)]) (lenOf pd2 rfl) rfl (by show 2 * 0 + _ ≤ _; exact Nat.le_of_eq rfl) (hb hby at_33) (fun _ _ => ⟨rfl, e3, (by decide : 1 + 0 ≤ _), (by decide : 4 + 0 ≤ _)⟩)
      dsimp only [Pt.U, Pt.locs, Pt.cells, Pt.slots] at X4 l4 y4 z4 st4 hQ4
      subst l4 y4 z4
      refine Go.st st4 ?_
      obtain ⟨rfl, N4q, e4, E4_r⟩ := hQ4
      have N4 := Fr.app N0 N4q
      rw [e4] at E4_r
      show Go _ _ _ (T4.setTop (mkF m 36 #[.val (.int p1), .val (.int p2), .val (.int p3), .val (.int p4), .val (.int p5), .val (.int p3), .val (.int p4), .unset, .unset, .unset, .unset, .unset] [(.ref (f1 p1 w_NORMAL w_INITIATOR w_PASSIVE w_LEADER)), (.ref b3), (.ref b3)])) _
      refine Go.st (fun t k => XS.iloadN X4.here hx rfl (hb hby at_36) rfl k) ?_
      refine Go.st (fun t k => XS.iload X4.here hx rfl (hb hby at_37) rfl k) ?_
      refine Go.st (fun t k => XS.iload X4.here hx rfl (hb hby at_39) rfl k) ?_
      obtain ⟨_, _, ⟨T5, L5, k5, n5⟩, -, X5, ⟨Lc5, hQ5, l5, y5, z5⟩, st5⟩ := X4.specialBack hx (y := (⟨"com/example/lectern/lectern/catalog/Franklin$Member", "<init>", "(Lcom/example/lectern/lectern/catalog/Franklin$Phase;III)V"⟩ : MethodName)) rfl hown (mvT hZ (wd10 hw)) (mvT hZ (wd11 hw)) (mvT hZ (wd12 hw)) (by decide) (backOf (W := 1) (rm2 l Z a0 hw [] b3 (f1 p1 w_NORMAL w_INITIATOR w_PASSIVE w_LEADER) p2 p3 p4 (.null : Value) ((.int (0 : Int32)) : Value) ((.int (0 : Int32)) : Value) ((.int (0 : Int32)) : Value) h3 n0 Z0 E_b3 F_b3_phase F_b3_leader F_b3_fromLeft F_b3_fromRight g_b3) hZ (wd12 hw) (wd2 hw) (by decide) (by decide)) (g := (mkF m 41 #[.val (.int p1), .val (.int p2), .val (.int p3), .val (.int p4), .val (.int p5), .val (.int p3), .val (.int p4), .unset, .unset, .unset, .unset, .unset] [(.int p4), (.int p3), (.int p2), (.ref (f1 p1 w_NORMAL w_INITIATOR w_PASSIVE w_LEADER)), (.ref b3), (.ref b3)])) rfl (by rw [hml]; rfl) (Steps.refl _) (a := b3) (argsL := [(.ref (f1 p1 w_NORMAL w_INITIATOR w_PASSIVE w_LEADER)), (.int p2), (.int p3), (.int p4)]) (rest := [(.ref b3)]) (lenOf pd1 rfl) rfl (by show 2 * 0 + _ ≤ _; exact Nat.le_of_eq rfl) (hb hby at_41) (fun _ _ => ⟨rfl, e4, (by decide : 1 + 0 ≤ _), (by decide : 4 + 0 ≤ _)⟩)
      dsimp only [Pt.U, Pt.locs, Pt.cells, Pt.slots] at X5 l5 y5 z5 st5 hQ5
      subst l5 y5 z5
      refine Go.tr st5 ?_
      have E_b3_pre := E_b3
      have F_b3_phase_pre := F_b3_phase
      have F_b3_leader_pre := F_b3_leader
      have F_b3_fromLeft_pre := F_b3_fromLeft
      have F_b3_fromRight_pre := F_b3_fromRight
      obtain ⟨h5, e5⟩ : ∃ z, T5.heap = z := ⟨_, rfl⟩
      rw [e5] at hQ5
      obtain ⟨rfl, N5q, K5, Q5_0, Q5_1, Q5_2, Q5_3, Q5_4⟩ := hQ5
      replace S_NORMAL := sta_keep S_NORMAL K5 (allS (exa_ns E_b3_pre) all0)
      replace E_w_NORMAL := E_w_NORMAL.keep K5
      replace S_INITIATOR := sta_keep S_INITIATOR K5 (allS (exa_ns E_b3_pre) all0)
      replace E_w_INITIATOR := E_w_INITIATOR.keep K5
      replace S_PASSIVE := sta_keep S_PASSIVE K5 (allS (exa_ns E_b3_pre) all0)
      replace E_w_PASSIVE := E_w_PASSIVE.keep K5
      replace S_LEADER := sta_keep S_LEADER K5 (allS (exa_ns E_b3_pre) all0)
      replace E_w_LEADER := E_w_LEADER.keep K5
      replace E_b3 := E_b3.keep K5
      replace E4_r := E4_r.keep K5
      replace Z0 := Nat.le_trans Z0 K5.1
      replace K0 := K0.trans K5 (allS (Or.inr sz_b3) all0)
      have E_b3 := Q5_0
      have F_b3_phase := Q5_1
      have F_b3_leader := Q5_2
      have F_b3_fromLeft := Q5_3
      have F_b3_fromRight := Q5_4
      have N5 := Fr.app N4 N5q
      show Go _ _ _ (T5.setTop (mkF m 44 #[.val (.int p1), .val (.int p2), .val (.int p3), .val (.int p4), .val (.int p5), .val (.int p3), .val (.int p4), .unset, .unset, .unset, .unset, .unset] [(.ref b3)])) _
      refine Go.st (fun t k => XS.astore X5.here hx rfl (hb hby at_44) rfl rfl (l' := #[.val (.int p1), .val (.int p2), .val (.int p3), .val (.int p4), .val (.int p5), .val (.int p3), .val (.int p4), .val (.ref b3), .unset, .unset, .unset, .unset]) rfl k) ?_
      refine Go.st (fun t k => XS.aload X5.here hx rfl (hb hby at_46) rfl rfl k) ?_
      obtain ⟨cq6, kq6, q6a, q6b, q6c⟩ := isOf hZ e5 E_b3
      obtain ⟨_, _, ⟨T6, L6, k6, n6⟩, -, X6, ⟨Lc6, hQ6, l6, y6, z6⟩, st6⟩ := X5.virtualBack hx (y := (⟨"com/example/lectern/lectern/catalog/Franklin$Member", "slotsFull", "()Z"⟩ : MethodName)) (z := (⟨"com/example/lectern/lectern/catalog/Franklin$Member", "slotsFull", "()Z"⟩ : MethodName)) hown (mvT hZ (wd29 hw)) (mvT hZ (wd30 hw)) (notFace_of_selects (args := #[]) (mvT hZ (wd32 hw))) (mvT hZ (wd32 hw)) (mvT hZ (wd31 hw)) (by decide) (backOf (W := 0) (rm5 l Z a0 hw [] b3 p3 p4 h5 n0 Z0 F_b3_fromLeft F_b3_fromRight) hZ (wd33 hw) (wd2 hw) (by decide) (by decide)) q6a q6c (g := (mkF m 48 #[.val (.int p1), .val (.int p2), .val (.int p3), .val (.int p4), .val (.int p5), .val (.int p3), .val (.int p4), .val (.ref b3), .unset, .unset, .unset, .unset] [(.ref b3)])) rfl (by rw [hml]; rfl) (Steps.refl _) (argsL := []) (rest := []) (lenOf pd3 rfl) rfl (by show 2 * 0 + _ ≤ _; exact Nat.le_of_eq rfl) (hb hby at_48) (fun _ _ => ⟨rfl, e5, (by decide : 1 + 0 ≤ _), (by decide : 4 + 0 ≤ _)⟩)
      dsimp only [Pt.U, Pt.locs, Pt.cells, Pt.slots] at X6 l6 y6 z6 st6 hQ6
      subst l6 y6 z6
      refine Go.tr st6 ?_
      obtain ⟨rfl, N6q, e6⟩ := hQ6
      have N6 := Fr.app N5 N6q
      show Go _ _ _ (T6.setTop (mkF m 51 #[.val (.int p1), .val (.int p2), .val (.int p3), .val (.int p4), .val (.int p5), .val (.int p3), .val (.int p4), .val (.ref b3), .unset, .unset, .unset, .unset] [(.int (f5 p3 p4))])) _
      by_cases hc7 : p3 = (-1 : Int32)
      · rw [show (f5 p3 p4) = (0 : Int32) from by unfold f5; simp only [if_pos hc7, if_true, if_false]]
        show Go _ _ _ (T6.setTop (mkF m 51 #[.val (.int p1), .val (.int p2), .val (.int p3), .val (.int p4), .val (.int p5), .val (.int p3), .val (.int p4), .val (.ref b3), .unset, .unset, .unset, .unset] [(.int 0)])) _
        refine Go.st (fun t k => XS.istore X6.here hx rfl (hb hby at_51) rfl (l' := #[.val (.int p1), .val (.int p2), .val (.int p3), .val (.int p4), .val (.int p5), .val (.int p3), .val (.int p4), .val (.ref b3), .val (.int 0), .unset, .unset, .unset]) rfl k) ?_
        refine Go.st (fun t k => XS.iconst X6.here hx rfl (hb hby at_53) k) ?_
        refine Go.st (fun t k => XS.istore X6.here hx rfl (hb hby at_54) rfl (l' := #[.val (.int p1), .val (.int p2), .val (.int p3), .val (.int p4), .val (.int p5), .val (.int p3), .val (.int p4), .val (.ref b3), .val (.int 0), .val (.int 0), .unset, .unset]) rfl k) ?_
        refine Go.st (fun t k => XS.iload X6.here hx rfl (hb hby at_56) rfl k) ?_
        obtain ⟨_, _, ⟨T8, L8, k8, n8⟩, -, X8, ⟨Lc8, hQ8, l8, y8, z8⟩, st8⟩ := Jvm.LawKit.callS X6 hx (y := (⟨"com/example/lectern/lectern/catalog/MemberSlotsFullPinLaw", "holdsId", "(I)Z"⟩ : MethodName)) hown (mvT hZ (wd34 hw)) (mvT hZ (wd35 hw)) (mvT hZ (wd5 hw)) (mvT hZ (wd36 hw)) (by decide) (backOf (W := 0) (rm6 l Z a0 hw [] p3 h5 n0 Z0) hZ (wd36 hw) (wd5 hw) (by decide) (by decide)) (g := (mkF m 58 #[.val (.int p1), .val (.int p2), .val (.int p3), .val (.int p4), .val (.int p5), .val (.int p3), .val (.int p4), .val (.ref b3), .val (.int 0), .val (.int 0), .unset, .unset] [(.int p3)])) rfl (by rw [hml]; rfl) (argsL := [(.int p3)]) (rest := []) (lenOf pd4 rfl) rfl (by show 2 * 0 + _ ≤ _; exact Nat.le_of_eq rfl) (hb hby at_58) (fun _ _ => ⟨rfl, e6, (by decide : 1 + 0 ≤ _), (by decide : 4 + 0 ≤ _)⟩)
        dsimp only [Pt.U, Pt.locs, Pt.cells, Pt.slots] at X8 l8 y8 z8 st8 hQ8
        subst l8 y8 z8
        refine Go.st st8 ?_
        obtain ⟨rfl, N8q, e8⟩ := hQ8
        have N8 := Fr.app N6 N8q
        show Go _ _ _ (T8.setTop (mkF m 61 #[.val (.int p1), .val (.int p2), .val (.int p3), .val (.int p4), .val (.int p5), .val (.int p3), .val (.int p4), .val (.ref b3), .val (.int 0), .val (.int 0), .unset, .unset] [(.int (f6 p3))])) _
        rw [show (f6 p3) = (0 : Int32) from by unfold f6; simp only [if_pos hc7, if_true, if_false]]
        show Go _ _ _ (T8.setTop (mkF m 61 #[.val (.int p1), .val (.int p2), .val (.int p3), .val (.int p4), .val (.int p5), .val (.int p3), .val (.int p4), .val (.ref b3), .val (.int 0), .val (.int 0), .unset, .unset] [(.int 0)])) _
        refine Go.st (fun t k => XS.ifYes X8.here hx rfl (pc0 := 61) (pc' := 75) rfl (hb hby at_61) rfl ((if0 _ _).trans (teq (by decide : (0 : Int32) = (0 : Int32))).1) (by decide) (by decide) k) ?_
        show Go _ _ _ (T8.setTop (mkF m 75 #[.val (.int p1), .val (.int p2), .val (.int p3), .val (.int p4), .val (.int p5), .val (.int p3), .val (.int p4), .val (.ref b3), .val (.int 0), .val (.int 0), .unset, .unset] [])) _
        refine Go.st (fun t k => XS.iload X8.here hx rfl (hb hby at_75) rfl k) ?_
        refine Go.st (fun t k => XS.ifYes X8.here hx rfl (pc0 := 77) (pc' := 88) rfl (hb hby at_77) rfl ((if0 _ _).trans (teq (by decide : (0 : Int32) = (0 : Int32))).1) (by decide) (by decide) k) ?_
        show Go _ _ _ (T8.setTop (mkF m 88 #[.val (.int p1), .val (.int p2), .val (.int p3), .val (.int p4), .val (.int p5), .val (.int p3), .val (.int p4), .val (.ref b3), .val (.int 0), .val (.int 0), .unset, .unset] [])) _
        refine Go.st (fun t k => XS.iconst X8.here hx rfl (hb hby at_88) k) ?_
        refine Go.st (fun t k => XS.goto X8.here hx rfl (pc0 := 89) (pc' := 93) rfl (hb hby at_89) (by decide) (by decide) k) ?_
        refine Go.st (fun t k => XS.istore X8.here hx rfl (hb hby at_93) rfl (l' := #[.val (.int p1), .val (.int p2), .val (.int p3), .val (.int p4), .val (.int p5), .val (.int p3), .val (.int p4), .val (.ref b3), .val (.int 0), .val (.int 0), .val (.int 1), .unset]) rfl k) ?_
        refine Go.st (fun t k => XS.aload X8.here hx rfl (hb hby at_95) rfl rfl k) ?_
        obtain ⟨cq9, kq9, q9a, q9b, q9c⟩ := isOf hZ e8 E_b3
        obtain ⟨_, _, ⟨T9, L9, k9, n9⟩, -, X9, ⟨Lc9, hQ9, l9, y9, z9⟩, st9⟩ := X8.virtualBack hx (y := (⟨"com/example/lectern/lectern/catalog/Franklin$Member", "emptied", "()Lcom/example/lectern/lectern/catalog/Franklin$Member;"⟩ : MethodName)) (z := (⟨"com/example/lectern/lectern/catalog/Franklin$Member", "emptied", "()Lcom/example/lectern/lectern/catalog/Franklin$Member;"⟩ : MethodName)) hown (mvT hZ (wd42 hw)) (mvT hZ (wd43 hw)) (notFace_of_selects (args := #[]) (mvT hZ (wd45 hw))) (mvT hZ (wd45 hw)) (mvT hZ (wd44 hw)) (by decide) (backOf (W := 0) (rm8 l Z a0 hw [] b3 (f1 p1 w_NORMAL w_INITIATOR w_PASSIVE w_LEADER) p2 h5 n0 Z0 F_b3_phase F_b3_leader) hZ (wd46 hw) (wd2 hw) (by decide) (by decide)) q9a q9c (g := (mkF m 97 #[.val (.int p1), .val (.int p2), .val (.int p3), .val (.int p4), .val (.int p5), .val (.int p3), .val (.int p4), .val (.ref b3), .val (.int 0), .val (.int 0), .val (.int 1), .unset] [(.ref b3)])) rfl (by rw [hml]; rfl) (Steps.refl _) (argsL := []) (rest := []) (lenOf pd5 rfl) rfl (by show 2 * 0 + _ ≤ _; exact Nat.le_of_eq rfl) (hb hby at_97) (fun _ _ => ⟨rfl, e8, (by decide : 1 + 1 ≤ _), (by decide : 4 + 4 ≤ _)⟩)
        dsimp only [Pt.U, Pt.locs, Pt.cells, Pt.slots] at X9 l9 y9 z9 st9 hQ9
        subst l9 y9 z9
        obtain ⟨h9, e9⟩ : ∃ z, T9.heap = z := ⟨_, rfl⟩
        rw [e9] at hQ9
        obtain ⟨x8_0_9, rfl, N9q, K9, ng_x8_0_9, sz0_x8_0_9, Q9_0, Q9_1, Q9_2, Q9_3, Q9_4⟩ := hQ9
        refine Go.tr st9 ?_
        have ne_w_NORMAL_x8_0_9 : w_NORMAL ≠ x8_0_9 := Nat.ne_of_lt (Nat.lt_of_lt_of_le E_w_NORMAL.lt sz0_x8_0_9)
        have ne_w_INITIATOR_x8_0_9 : w_INITIATOR ≠ x8_0_9 := Nat.ne_of_lt (Nat.lt_of_lt_of_le E_w_INITIATOR.lt sz0_x8_0_9)
        have ne_w_PASSIVE_x8_0_9 : w_PASSIVE ≠ x8_0_9 := Nat.ne_of_lt (Nat.lt_of_lt_of_le E_w_PASSIVE.lt sz0_x8_0_9)
        have ne_w_LEADER_x8_0_9 : w_LEADER ≠ x8_0_9 := Nat.ne_of_lt (Nat.lt_of_lt_of_le E_w_LEADER.lt sz0_x8_0_9)
        have ne_b3_x8_0_9 : b3 ≠ x8_0_9 := Nat.ne_of_lt (Nat.lt_of_lt_of_le E_b3.lt sz0_x8_0_9)
        have ne__f1_p1_w_NORMAL_w_INITIATOR_w_PASSIVE_w_LEADER__x8_0_9 : (f1 p1 w_NORMAL w_INITIATOR w_PASSIVE w_LEADER) ≠ x8_0_9 := Nat.ne_of_lt (Nat.lt_of_lt_of_le E4_r.lt sz0_x8_0_9)
        have g_x8_0_9 : n0 ≤ x8_0_9 := ng_x8_0_9
        have sz_x8_0_9 : h0.size ≤ x8_0_9 := Nat.le_trans K0.1 sz0_x8_0_9
        replace S_NORMAL := sta_keep S_NORMAL K9 all0
        replace E_w_NORMAL := E_w_NORMAL.keep K9
        replace S_INITIATOR := sta_keep S_INITIATOR K9 all0
        replace E_w_INITIATOR := E_w_INITIATOR.keep K9
        replace S_PASSIVE := sta_keep S_PASSIVE K9 all0
        replace E_w_PASSIVE := E_w_PASSIVE.keep K9
        replace S_LEADER := sta_keep S_LEADER K9 all0
        replace E_w_LEADER := E_w_LEADER.keep K9
        replace E_b3 := E_b3.keep K9
        replace E4_r := E4_r.keep K9
        replace F_b3_phase := F_b3_phase.keep K9 nin0
        replace F_b3_leader := F_b3_leader.keep K9 nin0
        replace F_b3_fromLeft := F_b3_fromLeft.keep K9 nin0
        replace F_b3_fromRight := F_b3_fromRight.keep K9 nin0
        replace Z0 := Nat.le_trans Z0 K9.1
        replace K0 := K0.trans K9 all0
        have E_x8_0_9 := Q9_0
        have F_x8_0_9_phase := Q9_1
        have F_x8_0_9_leader := Q9_2
        have F_x8_0_9_fromLeft := Q9_3
        have F_x8_0_9_fromRight := Q9_4
        have N9 := Fr.app N8 N9q
        show Go _ _ _ (T9.setTop (mkF m 100 #[.val (.int p1), .val (.int p2), .val (.int p3), .val (.int p4), .val (.int p5), .val (.int p3), .val (.int p4), .val (.ref b3), .val (.int 0), .val (.int 0), .val (.int 1), .unset] [(.ref x8_0_9)])) _
        obtain ⟨cq10, kq10, q10a, q10b, q10c⟩ := isOf hZ e9 E_x8_0_9
        obtain ⟨_, _, ⟨T10, L10, k10, n10⟩, -, X10, ⟨Lc10, hQ10, l10, y10, z10⟩, st10⟩ := X9.virtualBack hx (y := (⟨"com/example/lectern/lectern/catalog/Franklin$Member", "slotsFull", "()Z"⟩ : MethodName)) (z := (⟨"com/example/lectern/lectern/catalog/Franklin$Member", "slotsFull", "()Z"⟩ : MethodName)) hown (mvT hZ (wd29 hw)) (mvT hZ (wd30 hw)) (notFace_of_selects (args := #[]) (mvT hZ (wd32 hw))) (mvT hZ (wd32 hw)) (mvT hZ (wd31 hw)) (by decide) (backOf (W := 0) (rm5 l Z a0 hw [] x8_0_9 (-1 : Int32) (-1 : Int32) h9 n0 Z0 F_x8_0_9_fromLeft F_x8_0_9_fromRight) hZ (wd33 hw) (wd2 hw) (by decide) (by decide)) q10a q10c (g := (mkF m 100 #[.val (.int p1), .val (.int p2), .val (.int p3), .val (.int p4), .val (.int p5), .val (.int p3), .val (.int p4), .val (.ref b3), .val (.int 0), .val (.int 0), .val (.int 1), .unset] [(.ref x8_0_9)])) rfl (by rw [hml]; rfl) (Steps.refl _) (argsL := []) (rest := []) (lenOf pd3 rfl) rfl (by show 2 * 0 + _ ≤ _; exact Nat.le_of_eq rfl) (hb hby at_100) (fun _ _ => ⟨rfl, e9, (by decide : 2 + 0 ≤ _), (by decide : 8 + 0 ≤ _)⟩)
        dsimp only [Pt.U, Pt.locs, Pt.cells, Pt.slots] at X10 l10 y10 z10 st10 hQ10
        subst l10 y10 z10
        refine Go.tr st10 ?_
        obtain ⟨rfl, N10q, e10⟩ := hQ10
        have N10 := Fr.app N9 N10q
        show Go _ _ _ (T10.setTop (mkF m 103 #[.val (.int p1), .val (.int p2), .val (.int p3), .val (.int p4), .val (.int p5), .val (.int p3), .val (.int p4), .val (.ref b3), .val (.int 0), .val (.int 0), .val (.int 1), .unset] [(.int (f5 (-1 : Int32) (-1 : Int32)))])) _
        rw [show (f5 (-1 : Int32) (-1 : Int32)) = (0 : Int32) from by unfold f5; simp only [if_pos (by decide : (-1 : Int32) = (-1 : Int32)), if_true, if_false]]
        show Go _ _ _ (T10.setTop (mkF m 103 #[.val (.int p1), .val (.int p2), .val (.int p3), .val (.int p4), .val (.int p5), .val (.int p3), .val (.int p4), .val (.ref b3), .val (.int 0), .val (.int 0), .val (.int 1), .unset] [(.int 0)])) _
        refine Go.st (fun t k => XS.ifNo X10.here hx rfl (hb hby at_103) rfl ((if0 _ _).trans (teq (by decide : (0 : Int32) = (0 : Int32))).2) k) ?_
        show Go _ _ _ (T10.setTop (mkF m 106 #[.val (.int p1), .val (.int p2), .val (.int p3), .val (.int p4), .val (.int p5), .val (.int p3), .val (.int p4), .val (.ref b3), .val (.int 0), .val (.int 0), .val (.int 1), .unset] [])) _
        refine Go.st (fun t k => XS.iconst X10.here hx rfl (hb hby at_106) k) ?_
        refine Go.st (fun t k => XS.goto X10.here hx rfl (pc0 := 107) (pc' := 111) rfl (hb hby at_107) (by decide) (by decide) k) ?_
        refine Go.st (fun t k => XS.istore X10.here hx rfl (hb hby at_111) rfl (l' := #[.val (.int p1), .val (.int p2), .val (.int p3), .val (.int p4), .val (.int p5), .val (.int p3), .val (.int p4), .val (.ref b3), .val (.int 0), .val (.int 0), .val (.int 1), .val (.int 1)]) rfl k) ?_
        refine Go.st (fun t k => XS.iload X10.here hx rfl (hb hby at_113) rfl k) ?_
        refine Go.st (fun t k => XS.iload X10.here hx rfl (hb hby at_115) rfl k) ?_
        refine Go.st (fun t k => XS.icmpNo X10.here hx rfl (hb hby at_117) rfl (teq (by decide : (0 : Int32) = (0 : Int32))).2 k) ?_
        show Go _ _ _ (T10.setTop (mkF m 120 #[.val (.int p1), .val (.int p2), .val (.int p3), .val (.int p4), .val (.int p5), .val (.int p3), .val (.int p4), .val (.ref b3), .val (.int 0), .val (.int 0), .val (.int 1), .val (.int 1)] [])) _
        refine Go.st (fun t k => XS.iload X10.here hx rfl (hb hby at_120) rfl k) ?_
        refine Go.st (fun t k => XS.ifNo X10.here hx rfl (hb hby at_122) rfl ((if0 _ _).trans (feq (by decide : ¬ ((1 : Int32) = (0 : Int32)))).1) k) ?_
        show Go _ _ _ (T10.setTop (mkF m 125 #[.val (.int p1), .val (.int p2), .val (.int p3), .val (.int p4), .val (.int p5), .val (.int p3), .val (.int p4), .val (.ref b3), .val (.int 0), .val (.int 0), .val (.int 1), .val (.int 1)] [])) _
        refine Go.st (fun t k => XS.iload X10.here hx rfl (hb hby at_125) rfl k) ?_
        refine Go.st (fun t k => XS.ifNo X10.here hx rfl (hb hby at_127) rfl ((if0 _ _).trans (feq (by decide : ¬ ((1 : Int32) = (0 : Int32)))).1) k) ?_
        show Go _ _ _ (T10.setTop (mkF m 130 #[.val (.int p1), .val (.int p2), .val (.int p3), .val (.int p4), .val (.int p5), .val (.int p3), .val (.int p4), .val (.ref b3), .val (.int 0), .val (.int 0), .val (.int 1), .val (.int 1)] [])) _
        refine Go.st (fun t k => XS.iconst X10.here hx rfl (hb hby at_130) k) ?_
        refine Go.st (fun t k => XS.goto X10.here hx rfl (pc0 := 131) (pc' := 135) rfl (hb hby at_131) (by decide) (by decide) k) ?_
        obtain ⟨fs, hr, hrun, hended, hW, hsame⟩ := X10.leave (v := some (.int (1 : Int32))) (fun h => by rw [Bd.returns] at h; cases h)
        refine Go.fin (retN X10 hx (t := .boolean) Bd.returns (by simp) (hb hby at_135) hr) hrun hended ⟨_, _, rfl, ?_, ⟨_, rfl⟩, hW, hsame.mono (by decide) (by decide)⟩
        show Q0 Z p1 p2 p3 p4 p5 w_NORMAL w_INITIATOR w_PASSIVE w_LEADER h0 n0 _ T10.heap _
        rw [e10]
        exact ⟨rfl, N10⟩
      · by_cases hc11 : p4 = (-1 : Int32)
        · rw [show (f5 p3 p4) = (0 : Int32) from by unfold f5; simp only [if_neg hc7, if_pos hc11, if_true, if_false]]
          show Go _ _ _ (T6.setTop (mkF m 51 #[.val (.int p1), .val (.int p2), .val (.int p3), .val (.int p4), .val (.int p5), .val (.int p3), .val (.int p4), .val (.ref b3), .unset, .unset, .unset, .unset] [(.int 0)])) _
          refine Go.st (fun t k => XS.istore X6.here hx rfl (hb hby at_51) rfl (l' := #[.val (.int p1), .val (.int p2), .val (.int p3), .val (.int p4), .val (.int p5), .val (.int p3), .val (.int p4), .val (.ref b3), .val (.int 0), .unset, .unset, .unset]) rfl k) ?_
          refine Go.st (fun t k => XS.iconst X6.here hx rfl (hb hby at_53) k) ?_
          refine Go.st (fun t k => XS.istore X6.here hx rfl (hb hby at_54) rfl (l' := #[.val (.int p1), .val (.int p2), .val (.int p3), .val (.int p4), .val (.int p5), .val (.int p3), .val (.int p4), .val (.ref b3), .val (.int 0), .val (.int 0), .unset, .unset]) rfl k) ?_
          refine Go.st (fun t k => XS.iload X6.here hx rfl (hb hby at_56) rfl k) ?_
          obtain ⟨_, _, ⟨T12, L12, k12, n12⟩, -, X12, ⟨Lc12, hQ12, l12, y12, z12⟩, st12⟩ := Jvm.LawKit.callS X6 hx (y := (⟨"com/example/lectern/lectern/catalog/MemberSlotsFullPinLaw", "holdsId", "(I)Z"⟩ : MethodName)) hown (mvT hZ (wd34 hw)) (mvT hZ (wd35 hw)) (mvT hZ (wd5 hw)) (mvT hZ (wd36 hw)) (by decide) (backOf (W := 0) (rm6 l Z a0 hw [] p3 h5 n0 Z0) hZ (wd36 hw) (wd5 hw) (by decide) (by decide)) (g := (mkF m 58 #[.val (.int p1), .val (.int p2), .val (.int p3), .val (.int p4), .val (.int p5), .val (.int p3), .val (.int p4), .val (.ref b3), .val (.int 0), .val (.int 0), .unset, .unset] [(.int p3)])) rfl (by rw [hml]; rfl) (argsL := [(.int p3)]) (rest := []) (lenOf pd4 rfl) rfl (by show 2 * 0 + _ ≤ _; exact Nat.le_of_eq rfl) (hb hby at_58) (fun _ _ => ⟨rfl, e6, (by decide : 1 + 0 ≤ _), (by decide : 4 + 0 ≤ _)⟩)
          dsimp only [Pt.U, Pt.locs, Pt.cells, Pt.slots] at X12 l12 y12 z12 st12 hQ12
          subst l12 y12 z12
          refine Go.st st12 ?_
          obtain ⟨rfl, N12q, e12⟩ := hQ12
          have N12 := Fr.app N6 N12q
          show Go _ _ _ (T12.setTop (mkF m 61 #[.val (.int p1), .val (.int p2), .val (.int p3), .val (.int p4), .val (.int p5), .val (.int p3), .val (.int p4), .val (.ref b3), .val (.int 0), .val (.int 0), .unset, .unset] [(.int (f6 p3))])) _
          rw [show (f6 p3) = (1 : Int32) from by unfold f6; simp only [if_neg hc7, if_true, if_false]]
          show Go _ _ _ (T12.setTop (mkF m 61 #[.val (.int p1), .val (.int p2), .val (.int p3), .val (.int p4), .val (.int p5), .val (.int p3), .val (.int p4), .val (.ref b3), .val (.int 0), .val (.int 0), .unset, .unset] [(.int 1)])) _
          refine Go.st (fun t k => XS.ifNo X12.here hx rfl (hb hby at_61) rfl ((if0 _ _).trans (feq (by decide : ¬ ((1 : Int32) = (0 : Int32)))).1) k) ?_
          show Go _ _ _ (T12.setTop (mkF m 64 #[.val (.int p1), .val (.int p2), .val (.int p3), .val (.int p4), .val (.int p5), .val (.int p3), .val (.int p4), .val (.ref b3), .val (.int 0), .val (.int 0), .unset, .unset] [])) _
          refine Go.st (fun t k => XS.iload X12.here hx rfl (hb hby at_64) rfl k) ?_
          obtain ⟨_, _, ⟨T13, L13, k13, n13⟩, -, X13, ⟨Lc13, hQ13, l13, y13, z13⟩, st13⟩ := Jvm.LawKit.callS X12 hx (y := (⟨"com/example/lectern/lectern/catalog/MemberSlotsFullPinLaw", "holdsId", "(I)Z"⟩ : MethodName)) hown (mvT hZ (wd34 hw)) (mvT hZ (wd35 hw)) (mvT hZ (wd5 hw)) (mvT hZ (wd36 hw)) (by decide) (backOf (W := 0) (rm6 l Z a0 hw [] p4 h5 n0 Z0) hZ (wd36 hw) (wd5 hw) (by decide) (by decide)) (g := (mkF m 66 #[.val (.int p1), .val (.int p2), .val (.int p3), .val (.int p4), .val (.int p5), .val (.int p3), .val (.int p4), .val (.ref b3), .val (.int 0), .val (.int 0), .unset, .unset] [(.int p4)])) rfl (by rw [hml]; rfl) (argsL := [(.int p4)]) (rest := []) (lenOf pd4 rfl) rfl (by show 2 * 0 + _ ≤ _; exact Nat.le_of_eq rfl) (hb hby at_66) (fun _ _ => ⟨rfl, e12, (by decide : 1 + 0 ≤ _), (by decide : 4 + 0 ≤ _)⟩)
          dsimp only [Pt.U, Pt.locs, Pt.cells, Pt.slots] at X13 l13 y13 z13 st13 hQ13
          subst l13 y13 z13
          refine Go.st st13 ?_
          obtain ⟨rfl, N13q, e13⟩ := hQ13
          have N13 := Fr.app N12 N13q
          show Go _ _ _ (T13.setTop (mkF m 69 #[.val (.int p1), .val (.int p2), .val (.int p3), .val (.int p4), .val (.int p5), .val (.int p3), .val (.int p4), .val (.ref b3), .val (.int 0), .val (.int 0), .unset, .unset] [(.int (f6 p4))])) _
          rw [show (f6 p4) = (0 : Int32) from by unfold f6; simp only [if_pos hc11, if_true, if_false]]
          show Go _ _ _ (T13.setTop (mkF m 69 #[.val (.int p1), .val (.int p2), .val (.int p3), .val (.int p4), .val (.int p5), .val (.int p3), .val (.int p4), .val (.ref b3), .val (.int 0), .val (.int 0), .unset, .unset] [(.int 0)])) _
          refine Go.st (fun t k => XS.ifYes X13.here hx rfl (pc0 := 69) (pc' := 75) rfl (hb hby at_69) rfl ((if0 _ _).trans (teq (by decide : (0 : Int32) = (0 : Int32))).1) (by decide) (by decide) k) ?_
          show Go _ _ _ (T13.setTop (mkF m 75 #[.val (.int p1), .val (.int p2), .val (.int p3), .val (.int p4), .val (.int p5), .val (.int p3), .val (.int p4), .val (.ref b3), .val (.int 0), .val (.int 0), .unset, .unset] [])) _
          refine Go.st (fun t k => XS.iload X13.here hx rfl (hb hby at_75) rfl k) ?_
          refine Go.st (fun t k => XS.ifYes X13.here hx rfl (pc0 := 77) (pc' := 88) rfl (hb hby at_77) rfl ((if0 _ _).trans (teq (by decide : (0 : Int32) = (0 : Int32))).1) (by decide) (by decide) k) ?_
          show Go _ _ _ (T13.setTop (mkF m 88 #[.val (.int p1), .val (.int p2), .val (.int p3), .val (.int p4), .val (.int p5), .val (.int p3), .val (.int p4), .val (.ref b3), .val (.int 0), .val (.int 0), .unset, .unset] [])) _
          refine Go.st (fun t k => XS.iconst X13.here hx rfl (hb hby at_88) k) ?_
          refine Go.st (fun t k => XS.goto X13.here hx rfl (pc0 := 89) (pc' := 93) rfl (hb hby at_89) (by decide) (by decide) k) ?_
          refine Go.st (fun t k => XS.istore X13.here hx rfl (hb hby at_93) rfl (l' := #[.val (.int p1), .val (.int p2), .val (.int p3), .val (.int p4), .val (.int p5), .val (.int p3), .val (.int p4), .val (.ref b3), .val (.int 0), .val (.int 0), .val (.int 1), .unset]) rfl k) ?_
          refine Go.st (fun t k => XS.aload X13.here hx rfl (hb hby at_95) rfl rfl k) ?_
          obtain ⟨cq14, kq14, q14a, q14b, q14c⟩ := isOf hZ e13 E_b3
          obtain ⟨_, _, ⟨T14, L14, k14, n14⟩, -, X14, ⟨Lc14, hQ14, l14, y14, z14⟩, st14⟩ := X13.virtualBack hx (y := (⟨"com/example/lectern/lectern/catalog/Franklin$Member", "emptied", "()Lcom/example/lectern/lectern/catalog/Franklin$Member;"⟩ : MethodName)) (z := (⟨"com/example/lectern/lectern/catalog/Franklin$Member", "emptied", "()Lcom/example/lectern/lectern/catalog/Franklin$Member;"⟩ : MethodName)) hown (mvT hZ (wd42 hw)) (mvT hZ (wd43 hw)) (notFace_of_selects (args := #[]) (mvT hZ (wd45 hw))) (mvT hZ (wd45 hw)) (mvT hZ (wd44 hw)) (by decide) (backOf (W := 0) (rm8 l Z a0 hw [] b3 (f1 p1 w_NORMAL w_INITIATOR w_PASSIVE w_LEADER) p2 h5 n0 Z0 F_b3_phase F_b3_leader) hZ (wd46 hw) (wd2 hw) (by decide) (by decide)) q14a q14c (g := (mkF m 97 #[.val (.int p1), .val (.int p2), .val (.int p3), .val (.int p4), .val (.int p5), .val (.int p3), .val (.int p4), .val (.ref b3), .val (.int 0), .val (.int 0), .val (.int 1), .unset] [(.ref b3)])) rfl (by rw [hml]; rfl) (Steps.refl _) (argsL := []) (rest := []) (lenOf pd5 rfl) rfl (by show 2 * 0 + _ ≤ _; exact Nat.le_of_eq rfl) (hb hby at_97) (fun _ _ => ⟨rfl, e13, (by decide : 1 + 1 ≤ _), (by decide : 4 + 4 ≤ _)⟩)
          dsimp only [Pt.U, Pt.locs, Pt.cells, Pt.slots] at X14 l14 y14 z14 st14 hQ14
          subst l14 y14 z14
          obtain ⟨h14, e14⟩ : ∃ z, T14.heap = z := ⟨_, rfl⟩
          rw [e14] at hQ14
          obtain ⟨x8_0_14, rfl, N14q, K14, ng_x8_0_14, sz0_x8_0_14, Q14_0, Q14_1, Q14_2, Q14_3, Q14_4⟩ := hQ14
          refine Go.tr st14 ?_
          have ne_w_NORMAL_x8_0_14 : w_NORMAL ≠ x8_0_14 := Nat.ne_of_lt (Nat.lt_of_lt_of_le E_w_NORMAL.lt sz0_x8_0_14)
          have ne_w_INITIATOR_x8_0_14 : w_INITIATOR ≠ x8_0_14 := Nat.ne_of_lt (Nat.lt_of_lt_of_le E_w_INITIATOR.lt sz0_x8_0_14)
          have ne_w_PASSIVE_x8_0_14 : w_PASSIVE ≠ x8_0_14 := Nat.ne_of_lt (Nat.lt_of_lt_of_le E_w_PASSIVE.lt sz0_x8_0_14)
          have ne_w_LEADER_x8_0_14 : w_LEADER ≠ x8_0_14 := Nat.ne_of_lt (Nat.lt_of_lt_of_le E_w_LEADER.lt sz0_x8_0_14)
          have ne_b3_x8_0_14 : b3 ≠ x8_0_14 := Nat.ne_of_lt (Nat.lt_of_lt_of_le E_b3.lt sz0_x8_0_14)
          have ne__f1_p1_w_NORMAL_w_INITIATOR_w_PASSIVE_w_LEADER__x8_0_14 : (f1 p1 w_NORMAL w_INITIATOR w_PASSIVE w_LEADER) ≠ x8_0_14 := Nat.ne_of_lt (Nat.lt_of_lt_of_le E4_r.lt sz0_x8_0_14)
          have g_x8_0_14 : n0 ≤ x8_0_14 := ng_x8_0_14
          have sz_x8_0_14 : h0.size ≤ x8_0_14 := Nat.le_trans K0.1 sz0_x8_0_14
          replace S_NORMAL := sta_keep S_NORMAL K14 all0
          replace E_w_NORMAL := E_w_NORMAL.keep K14
          replace S_INITIATOR := sta_keep S_INITIATOR K14 all0
          replace E_w_INITIATOR := E_w_INITIATOR.keep K14
          replace S_PASSIVE := sta_keep S_PASSIVE K14 all0
          replace E_w_PASSIVE := E_w_PASSIVE.keep K14
          replace S_LEADER := sta_keep S_LEADER K14 all0
          replace E_w_LEADER := E_w_LEADER.keep K14
          replace E_b3 := E_b3.keep K14
          replace E4_r := E4_r.keep K14
          replace F_b3_phase := F_b3_phase.keep K14 nin0
          replace F_b3_leader := F_b3_leader.keep K14 nin0
          replace F_b3_fromLeft := F_b3_fromLeft.keep K14 nin0
          replace F_b3_fromRight := F_b3_fromRight.keep K14 nin0
          replace Z0 := Nat.le_trans Z0 K14.1
          replace K0 := K0.trans K14 all0
          have E_x8_0_14 := Q14_0
          have F_x8_0_14_phase := Q14_1
          have F_x8_0_14_leader := Q14_2
          have F_x8_0_14_fromLeft := Q14_3
          have F_x8_0_14_fromRight := Q14_4
          have N14 := Fr.app N13 N14q
          show Go _ _ _ (T14.setTop (mkF m 100 #[.val (.int p1), .val (.int p2), .val (.int p3), .val (.int p4), .val (.int p5), .val (.int p3), .val (.int p4), .val (.ref b3), .val (.int 0), .val (.int 0), .val (.int 1), .unset] [(.ref x8_0_14)])) _
          obtain ⟨cq15, kq15, q15a, q15b, q15c⟩ := isOf hZ e14 E_x8_0_14
          obtain ⟨_, _, ⟨T15, L15, k15, n15⟩, -, X15, ⟨Lc15, hQ15, l15, y15, z15⟩, st15⟩ := X14.virtualBack hx (y := (⟨"com/example/lectern/lectern/catalog/Franklin$Member", "slotsFull", "()Z"⟩ : MethodName)) (z := (⟨"com/example/lectern/lectern/catalog/Franklin$Member", "slotsFull", "()Z"⟩ : MethodName)) hown (mvT hZ (wd29 hw)) (mvT hZ (wd30 hw)) (notFace_of_selects (args := #[]) (mvT hZ (wd32 hw))) (mvT hZ (wd32 hw)) (mvT hZ (wd31 hw)) (by decide) (backOf (W := 0) (rm5 l Z a0 hw [] x8_0_14 (-1 : Int32) (-1 : Int32) h14 n0 Z0 F_x8_0_14_fromLeft F_x8_0_14_fromRight) hZ (wd33 hw) (wd2 hw) (by decide) (by decide)) q15a q15c (g := (mkF m 100 #[.val (.int p1), .val (.int p2), .val (.int p3), .val (.int p4), .val (.int p5), .val (.int p3), .val (.int p4), .val (.ref b3), .val (.int 0), .val (.int 0), .val (.int 1), .unset] [(.ref x8_0_14)])) rfl (by rw [hml]; rfl) (Steps.refl _) (argsL := []) (rest := []) (lenOf pd3 rfl) rfl (by show 2 * 0 + _ ≤ _; exact Nat.le_of_eq rfl) (hb hby at_100) (fun _ _ => ⟨rfl, e14, (by decide : 2 + 0 ≤ _), (by decide : 8 + 0 ≤ _)⟩)
          dsimp only [Pt.U, Pt.locs, Pt.cells, Pt.slots] at X15 l15 y15 z15 st15 hQ15
          subst l15 y15 z15
          refine Go.tr st15 ?_
          obtain ⟨rfl, N15q, e15⟩ := hQ15
          have N15 := Fr.app N14 N15q
          show Go _ _ _ (T15.setTop (mkF m 103 #[.val (.int p1), .val (.int p2), .val (.int p3), .val (.int p4), .val (.int p5), .val (.int p3), .val (.int p4), .val (.ref b3), .val (.int 0), .val (.int 0), .val (.int 1), .unset] [(.int (f5 (-1 : Int32) (-1 : Int32)))])) _
          rw [show (f5 (-1 : Int32) (-1 : Int32)) = (0 : Int32) from by unfold f5; simp only [if_pos (by decide : (-1 : Int32) = (-1 : Int32)), if_true, if_false]]
          show Go _ _ _ (T15.setTop (mkF m 103 #[.val (.int p1), .val (.int p2), .val (.int p3), .val (.int p4), .val (.int p5), .val (.int p3), .val (.int p4), .val (.ref b3), .val (.int 0), .val (.int 0), .val (.int 1), .unset] [(.int 0)])) _
          refine Go.st (fun t k => XS.ifNo X15.here hx rfl (hb hby at_103) rfl ((if0 _ _).trans (teq (by decide : (0 : Int32) = (0 : Int32))).2) k) ?_
          show Go _ _ _ (T15.setTop (mkF m 106 #[.val (.int p1), .val (.int p2), .val (.int p3), .val (.int p4), .val (.int p5), .val (.int p3), .val (.int p4), .val (.ref b3), .val (.int 0), .val (.int 0), .val (.int 1), .unset] [])) _
          refine Go.st (fun t k => XS.iconst X15.here hx rfl (hb hby at_106) k) ?_
          refine Go.st (fun t k => XS.goto X15.here hx rfl (pc0 := 107) (pc' := 111) rfl (hb hby at_107) (by decide) (by decide) k) ?_
          refine Go.st (fun t k => XS.istore X15.here hx rfl (hb hby at_111) rfl (l' := #[.val (.int p1), .val (.int p2), .val (.int p3), .val (.int p4), .val (.int p5), .val (.int p3), .val (.int p4), .val (.ref b3), .val (.int 0), .val (.int 0), .val (.int 1), .val (.int 1)]) rfl k) ?_
          refine Go.st (fun t k => XS.iload X15.here hx rfl (hb hby at_113) rfl k) ?_
          refine Go.st (fun t k => XS.iload X15.here hx rfl (hb hby at_115) rfl k) ?_
          refine Go.st (fun t k => XS.icmpNo X15.here hx rfl (hb hby at_117) rfl (teq (by decide : (0 : Int32) = (0 : Int32))).2 k) ?_
          show Go _ _ _ (T15.setTop (mkF m 120 #[.val (.int p1), .val (.int p2), .val (.int p3), .val (.int p4), .val (.int p5), .val (.int p3), .val (.int p4), .val (.ref b3), .val (.int 0), .val (.int 0), .val (.int 1), .val (.int 1)] [])) _
          refine Go.st (fun t k => XS.iload X15.here hx rfl (hb hby at_120) rfl k) ?_
          refine Go.st (fun t k => XS.ifNo X15.here hx rfl (hb hby at_122) rfl ((if0 _ _).trans (feq (by decide : ¬ ((1 : Int32) = (0 : Int32)))).1) k) ?_
          show Go _ _ _ (T15.setTop (mkF m 125 #[.val (.int p1), .val (.int p2), .val (.int p3), .val (.int p4), .val (.int p5), .val (.int p3), .val (.int p4), .val (.ref b3), .val (.int 0), .val (.int 0), .val (.int 1), .val (.int 1)] [])) _
          refine Go.st (fun t k => XS.iload X15.here hx rfl (hb hby at_125) rfl k) ?_
          refine Go.st (fun t k => XS.ifNo X15.here hx rfl (hb hby at_127) rfl ((if0 _ _).trans (feq (by decide : ¬ ((1 : Int32) = (0 : Int32)))).1) k) ?_
          show Go _ _ _ (T15.setTop (mkF m 130 #[.val (.int p1), .val (.int p2), .val (.int p3), .val (.int p4), .val (.int p5), .val (.int p3), .val (.int p4), .val (.ref b3), .val (.int 0), .val (.int 0), .val (.int 1), .val (.int 1)] [])) _
          refine Go.st (fun t k => XS.iconst X15.here hx rfl (hb hby at_130) k) ?_
          refine Go.st (fun t k => XS.goto X15.here hx rfl (pc0 := 131) (pc' := 135) rfl (hb hby at_131) (by decide) (by decide) k) ?_
          obtain ⟨fs, hr, hrun, hended, hW, hsame⟩ := X15.leave (v := some (.int (1 : Int32))) (fun h => by rw [Bd.returns] at h; cases h)
          refine Go.fin (retN X15 hx (t := .boolean) Bd.returns (by simp) (hb hby at_135) hr) hrun hended ⟨_, _, rfl, ?_, ⟨_, rfl⟩, hW, hsame.mono (by decide) (by decide)⟩
          show Q0 Z p1 p2 p3 p4 p5 w_NORMAL w_INITIATOR w_PASSIVE w_LEADER h0 n0 _ T15.heap _
          rw [e15]
          exact ⟨rfl, N15⟩
        · rw [show (f5 p3 p4) = (1 : Int32) from by unfold f5; simp only [if_neg hc7, if_neg hc11, if_true, if_false]]
          show Go _ _ _ (T6.setTop (mkF m 51 #[.val (.int p1), .val (.int p2), .val (.int p3), .val (.int p4), .val (.int p5), .val (.int p3), .val (.int p4), .val (.ref b3), .unset, .unset, .unset, .unset] [(.int 1)])) _
          refine Go.st (fun t k => XS.istore X6.here hx rfl (hb hby at_51) rfl (l' := #[.val (.int p1), .val (.int p2), .val (.int p3), .val (.int p4), .val (.int p5), .val (.int p3), .val (.int p4), .val (.ref b3), .val (.int 1), .unset, .unset, .unset]) rfl k) ?_
          refine Go.st (fun t k => XS.iconst X6.here hx rfl (hb hby at_53) k) ?_
          refine Go.st (fun t k => XS.istore X6.here hx rfl (hb hby at_54) rfl (l' := #[.val (.int p1), .val (.int p2), .val (.int p3), .val (.int p4), .val (.int p5), .val (.int p3), .val (.int p4), .val (.ref b3), .val (.int 1), .val (.int 0), .unset, .unset]) rfl k) ?_
          refine Go.st (fun t k => XS.iload X6.here hx rfl (hb hby at_56) rfl k) ?_
          obtain ⟨_, _, ⟨T16, L16, k16, n16⟩, -, X16, ⟨Lc16, hQ16, l16, y16, z16⟩, st16⟩ := Jvm.LawKit.callS X6 hx (y := (⟨"com/example/lectern/lectern/catalog/MemberSlotsFullPinLaw", "holdsId", "(I)Z"⟩ : MethodName)) hown (mvT hZ (wd34 hw)) (mvT hZ (wd35 hw)) (mvT hZ (wd5 hw)) (mvT hZ (wd36 hw)) (by decide) (backOf (W := 0) (rm6 l Z a0 hw [] p3 h5 n0 Z0) hZ (wd36 hw) (wd5 hw) (by decide) (by decide)) (g := (mkF m 58 #[.val (.int p1), .val (.int p2), .val (.int p3), .val (.int p4), .val (.int p5), .val (.int p3), .val (.int p4), .val (.ref b3), .val (.int 1), .val (.int 0), .unset, .unset] [(.int p3)])) rfl (by rw [hml]; rfl) (argsL := [(.int p3)]) (rest := []) (lenOf pd4 rfl) rfl (by show 2 * 0 + _ ≤ _; exact Nat.le_of_eq rfl) (hb hby at_58) (fun _ _ => ⟨rfl, e6, (by decide : 1 + 0 ≤ _), (by decide : 4 + 0 ≤ _)⟩)
          dsimp only [Pt.U, Pt.locs, Pt.cells, Pt.slots] at X16 l16 y16 z16 st16 hQ16
          subst l16 y16 z16
          refine Go.st st16 ?_
          obtain ⟨rfl, N16q, e16⟩ := hQ16
          have N16 := Fr.app N6 N16q
          show Go _ _ _ (T16.setTop (mkF m 61 #[.val (.int p1), .val (.int p2), .val (.int p3), .val (.int p4), .val (.int p5), .val (.int p3), .val (.int p4), .val (.ref b3), .val (.int 1), .val (.int 0), .unset, .unset] [(.int (f6 p3))])) _
          rw [show (f6 p3) = (1 : Int32) from by unfold f6; simp only [if_neg hc7, if_true, if_false]]
          show Go _ _ _ (T16.setTop (mkF m 61 #[.val (.int p1), .val (.int p2), .val (.int p3), .val (.int p4), .val (.int p5), .val (.int p3), .val (.int p4), .val (.ref b3), .val (.int 1), .val (.int 0), .unset, .unset] [(.int 1)])) _
          refine Go.st (fun t k => XS.ifNo X16.here hx rfl (hb hby at_61) rfl ((if0 _ _).trans (feq (by decide : ¬ ((1 : Int32) = (0 : Int32)))).1) k) ?_
          show Go _ _ _ (T16.setTop (mkF m 64 #[.val (.int p1), .val (.int p2), .val (.int p3), .val (.int p4), .val (.int p5), .val (.int p3), .val (.int p4), .val (.ref b3), .val (.int 1), .val (.int 0), .unset, .unset] [])) _
          refine Go.st (fun t k => XS.iload X16.here hx rfl (hb hby at_64) rfl k) ?_
          obtain ⟨_, _, ⟨T17, L17, k17, n17⟩, -, X17, ⟨Lc17, hQ17, l17, y17, z17⟩, st17⟩ := Jvm.LawKit.callS X16 hx (y := (⟨"com/example/lectern/lectern/catalog/MemberSlotsFullPinLaw", "holdsId", "(I)Z"⟩ : MethodName)) hown (mvT hZ (wd34 hw)) (mvT hZ (wd35 hw)) (mvT hZ (wd5 hw)) (mvT hZ (wd36 hw)) (by decide) (backOf (W := 0) (rm6 l Z a0 hw [] p4 h5 n0 Z0) hZ (wd36 hw) (wd5 hw) (by decide) (by decide)) (g := (mkF m 66 #[.val (.int p1), .val (.int p2), .val (.int p3), .val (.int p4), .val (.int p5), .val (.int p3), .val (.int p4), .val (.ref b3), .val (.int 1), .val (.int 0), .unset, .unset] [(.int p4)])) rfl (by rw [hml]; rfl) (argsL := [(.int p4)]) (rest := []) (lenOf pd4 rfl) rfl (by show 2 * 0 + _ ≤ _; exact Nat.le_of_eq rfl) (hb hby at_66) (fun _ _ => ⟨rfl, e16, (by decide : 1 + 0 ≤ _), (by decide : 4 + 0 ≤ _)⟩)
          dsimp only [Pt.U, Pt.locs, Pt.cells, Pt.slots] at X17 l17 y17 z17 st17 hQ17
          subst l17 y17 z17
          refine Go.st st17 ?_
          obtain ⟨rfl, N17q, e17⟩ := hQ17
          have N17 := Fr.app N16 N17q
          show Go _ _ _ (T17.setTop (mkF m 69 #[.val (.int p1), .val (.int p2), .val (.int p3), .val (.int p4), .val (.int p5), .val (.int p3), .val (.int p4), .val (.ref b3), .val (.int 1), .val (.int 0), .unset, .unset] [(.int (f6 p4))])) _
          rw [show (f6 p4) = (1 : Int32) from by unfold f6; simp only [if_neg hc11, if_true, if_false]]
          show Go _ _ _ (T17.setTop (mkF m 69 #[.val (.int p1), .val (.int p2), .val (.int p3), .val (.int p4), .val (.int p5), .val (.int p3), .val (.int p4), .val (.ref b3), .val (.int 1), .val (.int 0), .unset, .unset] [(.int 1)])) _
          refine Go.st (fun t k => XS.ifNo X17.here hx rfl (hb hby at_69) rfl ((if0 _ _).trans (feq (by decide : ¬ ((1 : Int32) = (0 : Int32)))).1) k) ?_
          show Go _ _ _ (T17.setTop (mkF m 72 #[.val (.int p1), .val (.int p2), .val (.int p3), .val (.int p4), .val (.int p5), .val (.int p3), .val (.int p4), .val (.ref b3), .val (.int 1), .val (.int 0), .unset, .unset] [])) _
          refine Go.st (fun t k => XS.iconst X17.here hx rfl (hb hby at_72) k) ?_
          refine Go.st (fun t k => XS.istore X17.here hx rfl (hb hby at_73) rfl (l' := #[.val (.int p1), .val (.int p2), .val (.int p3), .val (.int p4), .val (.int p5), .val (.int p3), .val (.int p4), .val (.ref b3), .val (.int 1), .val (.int 1), .unset, .unset]) rfl k) ?_
          refine Go.st (fun t k => XS.iload X17.here hx rfl (hb hby at_75) rfl k) ?_
          refine Go.st (fun t k => XS.ifNo X17.here hx rfl (hb hby at_77) rfl ((if0 _ _).trans (feq (by decide : ¬ ((1 : Int32) = (0 : Int32)))).1) k) ?_
          show Go _ _ _ (T17.setTop (mkF m 80 #[.val (.int p1), .val (.int p2), .val (.int p3), .val (.int p4), .val (.int p5), .val (.int p3), .val (.int p4), .val (.ref b3), .val (.int 1), .val (.int 1), .unset, .unset] [])) _
          refine Go.st (fun t k => XS.aload X17.here hx rfl (hb hby at_80) rfl rfl k) ?_
          obtain ⟨cq18, kq18, q18a, q18b, q18c⟩ := isOf hZ e17 E_b3
          obtain ⟨_, _, ⟨T18, L18, k18, n18⟩, -, X18, ⟨Lc18, hQ18, l18, y18, z18⟩, st18⟩ := X17.virtualBack hx (y := (⟨"com/example/lectern/lectern/catalog/Franklin$Member", "slotsEmpty", "()Z"⟩ : MethodName)) (z := (⟨"com/example/lectern/lectern/catalog/Franklin$Member", "slotsEmpty", "()Z"⟩ : MethodName)) hown (mvT hZ (wd37 hw)) (mvT hZ (wd38 hw)) (notFace_of_selects (args := #[]) (mvT hZ (wd40 hw))) (mvT hZ (wd40 hw)) (mvT hZ (wd39 hw)) (by decide) (backOf (W := 0) (rm7 l Z a0 hw [] b3 p3 p4 h5 n0 Z0 F_b3_fromLeft F_b3_fromRight) hZ (wd41 hw) (wd2 hw) (by decide) (by decide)) q18a q18c (g := (mkF m 82 #[.val (.int p1), .val (.int p2), .val (.int p3), .val (.int p4), .val (.int p5), .val (.int p3), .val (.int p4), .val (.ref b3), .val (.int 1), .val (.int 1), .unset, .unset] [(.ref b3)])) rfl (by rw [hml]; rfl) (Steps.refl _) (argsL := []) (rest := []) (lenOf pd3 rfl) rfl (by show 2 * 0 + _ ≤ _; exact Nat.le_of_eq rfl) (hb hby at_82) (fun _ _ => ⟨rfl, e17, (by decide : 1 + 0 ≤ _), (by decide : 4 + 0 ≤ _)⟩)
          dsimp only [Pt.U, Pt.locs, Pt.cells, Pt.slots] at X18 l18 y18 z18 st18 hQ18
          subst l18 y18 z18
          refine Go.tr st18 ?_
          obtain ⟨rfl, N18q, e18⟩ := hQ18
          have N18 := Fr.app N17 N18q
          show Go _ _ _ (T18.setTop (mkF m 85 #[.val (.int p1), .val (.int p2), .val (.int p3), .val (.int p4), .val (.int p5), .val (.int p3), .val (.int p4), .val (.ref b3), .val (.int 1), .val (.int 1), .unset, .unset] [(.int (f7 p3 p4))])) _
          rw [show (f7 p3 p4) = (0 : Int32) from by unfold f7; simp only [if_neg hc7, if_true, if_false]]
          show Go _ _ _ (T18.setTop (mkF m 85 #[.val (.int p1), .val (.int p2), .val (.int p3), .val (.int p4), .val (.int p5), .val (.int p3), .val (.int p4), .val (.ref b3), .val (.int 1), .val (.int 1), .unset, .unset] [(.int 0)])) _
          refine Go.st (fun t k => XS.ifNo X18.here hx rfl (hb hby at_85) rfl ((if0 _ _).trans (teq (by decide : (0 : Int32) = (0 : Int32))).2) k) ?_
          show Go _ _ _ (T18.setTop (mkF m 88 #[.val (.int p1), .val (.int p2), .val (.int p3), .val (.int p4), .val (.int p5), .val (.int p3), .val (.int p4), .val (.ref b3), .val (.int 1), .val (.int 1), .unset, .unset] [])) _
          refine Go.st (fun t k => XS.iconst X18.here hx rfl (hb hby at_88) k) ?_
          refine Go.st (fun t k => XS.goto X18.here hx rfl (pc0 := 89) (pc' := 93) rfl (hb hby at_89) (by decide) (by decide) k) ?_
          refine Go.st (fun t k => XS.istore X18.here hx rfl (hb hby at_93) rfl (l' := #[.val (.int p1), .val (.int p2), .val (.int p3), .val (.int p4), .val (.int p5), .val (.int p3), .val (.int p4), .val (.ref b3), .val (.int 1), .val (.int 1), .val (.int 1), .unset]) rfl k) ?_
          refine Go.st (fun t k => XS.aload X18.here hx rfl (hb hby at_95) rfl rfl k) ?_
          obtain ⟨cq19, kq19, q19a, q19b, q19c⟩ := isOf hZ e18 E_b3
          obtain ⟨_, _, ⟨T19, L19, k19, n19⟩, -, X19, ⟨Lc19, hQ19, l19, y19, z19⟩, st19⟩ := X18.virtualBack hx (y := (⟨"com/example/lectern/lectern/catalog/Franklin$Member", "emptied", "()Lcom/example/lectern/lectern/catalog/Franklin$Member;"⟩ : MethodName)) (z := (⟨"com/example/lectern/lectern/catalog/Franklin$Member", "emptied", "()Lcom/example/lectern/lectern/catalog/Franklin$Member;"⟩ : MethodName)) hown (mvT hZ (wd42 hw)) (mvT hZ (wd43 hw)) (notFace_of_selects (args := #[]) (mvT hZ (wd45 hw))) (mvT hZ (wd45 hw)) (mvT hZ (wd44 hw)) (by decide) (backOf (W := 0) (rm8 l Z a0 hw [] b3 (f1 p1 w_NORMAL w_INITIATOR w_PASSIVE w_LEADER) p2 h5 n0 Z0 F_b3_phase F_b3_leader) hZ (wd46 hw) (wd2 hw) (by decide) (by decide)) q19a q19c (g := (mkF m 97 #[.val (.int p1), .val (.int p2), .val (.int p3), .val (.int p4), .val (.int p5), .val (.int p3), .val (.int p4), .val (.ref b3), .val (.int 1), .val (.int 1), .val (.int 1), .unset] [(.ref b3)])) rfl (by rw [hml]; rfl) (Steps.refl _) (argsL := []) (rest := []) (lenOf pd5 rfl) rfl (by show 2 * 0 + _ ≤ _; exact Nat.le_of_eq rfl) (hb hby at_97) (fun _ _ => ⟨rfl, e18, (by decide : 1 + 1 ≤ _), (by decide : 4 + 4 ≤ _)⟩)
          dsimp only [Pt.U, Pt.locs, Pt.cells, Pt.slots] at X19 l19 y19 z19 st19 hQ19
          subst l19 y19 z19
          obtain ⟨h19, e19⟩ : ∃ z, T19.heap = z := ⟨_, rfl⟩
          rw [e19] at hQ19
          obtain ⟨x8_0_19, rfl, N19q, K19, ng_x8_0_19, sz0_x8_0_19, Q19_0, Q19_1, Q19_2, Q19_3, Q19_4⟩ := hQ19
          refine Go.tr st19 ?_
          have ne_w_NORMAL_x8_0_19 : w_NORMAL ≠ x8_0_19 := Nat.ne_of_lt (Nat.lt_of_lt_of_le E_w_NORMAL.lt sz0_x8_0_19)
          have ne_w_INITIATOR_x8_0_19 : w_INITIATOR ≠ x8_0_19 := Nat.ne_of_lt (Nat.lt_of_lt_of_le E_w_INITIATOR.lt sz0_x8_0_19)
          have ne_w_PASSIVE_x8_0_19 : w_PASSIVE ≠ x8_0_19 := Nat.ne_of_lt (Nat.lt_of_lt_of_le E_w_PASSIVE.lt sz0_x8_0_19)
          have ne_w_LEADER_x8_0_19 : w_LEADER ≠ x8_0_19 := Nat.ne_of_lt (Nat.lt_of_lt_of_le E_w_LEADER.lt sz0_x8_0_19)
          have ne_b3_x8_0_19 : b3 ≠ x8_0_19 := Nat.ne_of_lt (Nat.lt_of_lt_of_le E_b3.lt sz0_x8_0_19)
          have ne__f1_p1_w_NORMAL_w_INITIATOR_w_PASSIVE_w_LEADER__x8_0_19 : (f1 p1 w_NORMAL w_INITIATOR w_PASSIVE w_LEADER) ≠ x8_0_19 := Nat.ne_of_lt (Nat.lt_of_lt_of_le E4_r.lt sz0_x8_0_19)
          have g_x8_0_19 : n0 ≤ x8_0_19 := ng_x8_0_19
          have sz_x8_0_19 : h0.size ≤ x8_0_19 := Nat.le_trans K0.1 sz0_x8_0_19
          replace S_NORMAL := sta_keep S_NORMAL K19 all0
          replace E_w_NORMAL := E_w_NORMAL.keep K19
          replace S_INITIATOR := sta_keep S_INITIATOR K19 all0
          replace E_w_INITIATOR := E_w_INITIATOR.keep K19
          replace S_PASSIVE := sta_keep S_PASSIVE K19 all0
          replace E_w_PASSIVE := E_w_PASSIVE.keep K19
          replace S_LEADER := sta_keep S_LEADER K19 all0
          replace E_w_LEADER := E_w_LEADER.keep K19
          replace E_b3 := E_b3.keep K19
          replace E4_r := E4_r.keep K19
          replace F_b3_phase := F_b3_phase.keep K19 nin0
          replace F_b3_leader := F_b3_leader.keep K19 nin0
          replace F_b3_fromLeft := F_b3_fromLeft.keep K19 nin0
          replace F_b3_fromRight := F_b3_fromRight.keep K19 nin0
          replace Z0 := Nat.le_trans Z0 K19.1
          replace K0 := K0.trans K19 all0
          have E_x8_0_19 := Q19_0
          have F_x8_0_19_phase := Q19_1
          have F_x8_0_19_leader := Q19_2
          have F_x8_0_19_fromLeft := Q19_3
          have F_x8_0_19_fromRight := Q19_4
          have N19 := Fr.app N18 N19q
          show Go _ _ _ (T19.setTop (mkF m 100 #[.val (.int p1), .val (.int p2), .val (.int p3), .val (.int p4), .val (.int p5), .val (.int p3), .val (.int p4), .val (.ref b3), .val (.int 1), .val (.int 1), .val (.int 1), .unset] [(.ref x8_0_19)])) _
          obtain ⟨cq20, kq20, q20a, q20b, q20c⟩ := isOf hZ e19 E_x8_0_19
          obtain ⟨_, _, ⟨T20, L20, k20, n20⟩, -, X20, ⟨Lc20, hQ20, l20, y20, z20⟩, st20⟩ := X19.virtualBack hx (y := (⟨"com/example/lectern/lectern/catalog/Franklin$Member", "slotsFull", "()Z"⟩ : MethodName)) (z := (⟨"com/example/lectern/lectern/catalog/Franklin$Member", "slotsFull", "()Z"⟩ : MethodName)) hown (mvT hZ (wd29 hw)) (mvT hZ (wd30 hw)) (notFace_of_selects (args := #[]) (mvT hZ (wd32 hw))) (mvT hZ (wd32 hw)) (mvT hZ (wd31 hw)) (by decide) (backOf (W := 0) (rm5 l Z a0 hw [] x8_0_19 (-1 : Int32) (-1 : Int32) h19 n0 Z0 F_x8_0_19_fromLeft F_x8_0_19_fromRight) hZ (wd33 hw) (wd2 hw) (by decide) (by decide)) q20a q20c (g := (mkF m 100 #[.val (.int p1), .val (.int p2), .val (.int p3), .val (.int p4), .val (.int p5), .val (.int p3), .val (.int p4), .val (.ref b3), .val (.int 1), .val (.int 1), .val (.int 1), .unset] [(.ref x8_0_19)])) rfl (by rw [hml]; rfl) (Steps.refl _) (argsL := []) (rest := []) (lenOf pd3 rfl) rfl (by show 2 * 0 + _ ≤ _; exact Nat.le_of_eq rfl) (hb hby at_100) (fun _ _ => ⟨rfl, e19, (by decide : 2 + 0 ≤ _), (by decide : 8 + 0 ≤ _)⟩)
          dsimp only [Pt.U, Pt.locs, Pt.cells, Pt.slots] at X20 l20 y20 z20 st20 hQ20
          subst l20 y20 z20
          refine Go.tr st20 ?_
          obtain ⟨rfl, N20q, e20⟩ := hQ20
          have N20 := Fr.app N19 N20q
          show Go _ _ _ (T20.setTop (mkF m 103 #[.val (.int p1), .val (.int p2), .val (.int p3), .val (.int p4), .val (.int p5), .val (.int p3), .val (.int p4), .val (.ref b3), .val (.int 1), .val (.int 1), .val (.int 1), .unset] [(.int (f5 (-1 : Int32) (-1 : Int32)))])) _
          rw [show (f5 (-1 : Int32) (-1 : Int32)) = (0 : Int32) from by unfold f5; simp only [if_pos (by decide : (-1 : Int32) = (-1 : Int32)), if_true, if_false]]
          show Go _ _ _ (T20.setTop (mkF m 103 #[.val (.int p1), .val (.int p2), .val (.int p3), .val (.int p4), .val (.int p5), .val (.int p3), .val (.int p4), .val (.ref b3), .val (.int 1), .val (.int 1), .val (.int 1), .unset] [(.int 0)])) _
          refine Go.st (fun t k => XS.ifNo X20.here hx rfl (hb hby at_103) rfl ((if0 _ _).trans (teq (by decide : (0 : Int32) = (0 : Int32))).2) k) ?_
          show Go _ _ _ (T20.setTop (mkF m 106 #[.val (.int p1), .val (.int p2), .val (.int p3), .val (.int p4), .val (.int p5), .val (.int p3), .val (.int p4), .val (.ref b3), .val (.int 1), .val (.int 1), .val (.int 1), .unset] [])) _
          refine Go.st (fun t k => XS.iconst X20.here hx rfl (hb hby at_106) k) ?_
          refine Go.st (fun t k => XS.goto X20.here hx rfl (pc0 := 107) (pc' := 111) rfl (hb hby at_107) (by decide) (by decide) k) ?_
          refine Go.st (fun t k => XS.istore X20.here hx rfl (hb hby at_111) rfl (l' := #[.val (.int p1), .val (.int p2), .val (.int p3), .val (.int p4), .val (.int p5), .val (.int p3), .val (.int p4), .val (.ref b3), .val (.int 1), .val (.int 1), .val (.int 1), .val (.int 1)]) rfl k) ?_
          refine Go.st (fun t k => XS.iload X20.here hx rfl (hb hby at_113) rfl k) ?_
          refine Go.st (fun t k => XS.iload X20.here hx rfl (hb hby at_115) rfl k) ?_
          refine Go.st (fun t k => XS.icmpNo X20.here hx rfl (hb hby at_117) rfl (teq (by decide : (1 : Int32) = (1 : Int32))).2 k) ?_
          show Go _ _ _ (T20.setTop (mkF m 120 #[.val (.int p1), .val (.int p2), .val (.int p3), .val (.int p4), .val (.int p5), .val (.int p3), .val (.int p4), .val (.ref b3), .val (.int 1), .val (.int 1), .val (.int 1), .val (.int 1)] [])) _
          refine Go.st (fun t k => XS.iload X20.here hx rfl (hb hby at_120) rfl k) ?_
          refine Go.st (fun t k => XS.ifNo X20.here hx rfl (hb hby at_122) rfl ((if0 _ _).trans (feq (by decide : ¬ ((1 : Int32) = (0 : Int32)))).1) k) ?_
          show Go _ _ _ (T20.setTop (mkF m 125 #[.val (.int p1), .val (.int p2), .val (.int p3), .val (.int p4), .val (.int p5), .val (.int p3), .val (.int p4), .val (.ref b3), .val (.int 1), .val (.int 1), .val (.int 1), .val (.int 1)] [])) _
          refine Go.st (fun t k => XS.iload X20.here hx rfl (hb hby at_125) rfl k) ?_
          refine Go.st (fun t k => XS.ifNo X20.here hx rfl (hb hby at_127) rfl ((if0 _ _).trans (feq (by decide : ¬ ((1 : Int32) = (0 : Int32)))).1) k) ?_
          show Go _ _ _ (T20.setTop (mkF m 130 #[.val (.int p1), .val (.int p2), .val (.int p3), .val (.int p4), .val (.int p5), .val (.int p3), .val (.int p4), .val (.ref b3), .val (.int 1), .val (.int 1), .val (.int 1), .val (.int 1)] [])) _
          refine Go.st (fun t k => XS.iconst X20.here hx rfl (hb hby at_130) k) ?_
          refine Go.st (fun t k => XS.goto X20.here hx rfl (pc0 := 131) (pc' := 135) rfl (hb hby at_131) (by decide) (by decide) k) ?_
          obtain ⟨fs, hr, hrun, hended, hW, hsame⟩ := X20.leave (v := some (.int (1 : Int32))) (fun h => by rw [Bd.returns] at h; cases h)
          refine Go.fin (retN X20 hx (t := .boolean) Bd.returns (by simp) (hb hby at_135) hr) hrun hended ⟨_, _, rfl, ?_, ⟨_, rfl⟩, hW, hsame.mono (by decide) (by decide)⟩
          show Q0 Z p1 p2 p3 p4 p5 w_NORMAL w_INITIATOR w_PASSIVE w_LEADER h0 n0 _ T20.heap _
          rw [e20]
          exact ⟨rfl, N20⟩
    · refine Go.st (fun t k => XS.ifNo X0.here hx rfl (hb hby at_18) rfl ((if0 _ _).trans (feq hc2).1) k) ?_
      show Go _ _ _ (s₁.setTop (mkF m 21 #[.val (.int p1), .val (.int p2), .val (.int p3), .val (.int p4), .val (.int p5), .val (.int p3), .unset, .unset, .unset, .unset, .unset, .unset] [])) _
      refine Go.st (fun t k => XS.iconst X0.here hx rfl (hb hby at_21) k) ?_
      refine Go.st (fun t k => XS.goto X0.here hx rfl (pc0 := 22) (pc' := 26) rfl (hb hby at_22) (by decide) (by decide) k) ?_
      refine Go.st (fun t k => XS.istore X0.here hx rfl (hb hby at_26) rfl (l' := #[.val (.int p1), .val (.int p2), .val (.int p3), .val (.int p4), .val (.int p5), .val (.int p3), .val (.int (-1)), .unset, .unset, .unset, .unset, .unset]) rfl k) ?_
      obtain ⟨T21, h21, X21, e21, E21, A21, D21, -, st21⟩ := newO X0 hx hZ hown (wd0 hw) (wd1 hw) (wd2 hw) e0 (g := (mkF m 28 #[.val (.int p1), .val (.int p2), .val (.int p3), .val (.int p4), .val (.int p5), .val (.int p3), .val (.int (-1)), .unset, .unset, .unset, .unset, .unset] [])) rfl (hb hby at_28) (by decide) (by decide)
      obtain ⟨b21, g21⟩ : ∃ z, z = h0.size := ⟨_, rfl⟩
      rw [← g21] at A21 D21 st21
      refine Go.st st21 ?_
      have ne_w_NORMAL_b21 : w_NORMAL ≠ b21 := Nat.ne_of_lt (Nat.lt_of_lt_of_le E_w_NORMAL.lt (Nat.le_of_eq g21.symm))
      have ne_w_INITIATOR_b21 : w_INITIATOR ≠ b21 := Nat.ne_of_lt (Nat.lt_of_lt_of_le E_w_INITIATOR.lt (Nat.le_of_eq g21.symm))
      have ne_w_PASSIVE_b21 : w_PASSIVE ≠ b21 := Nat.ne_of_lt (Nat.lt_of_lt_of_le E_w_PASSIVE.lt (Nat.le_of_eq g21.symm))
      have ne_w_LEADER_b21 : w_LEADER ≠ b21 := Nat.ne_of_lt (Nat.lt_of_lt_of_le E_w_LEADER.lt (Nat.le_of_eq g21.symm))
      have g_b21 : n0 ≤ b21 := Nat.le_trans Z0 (Nat.le_of_eq g21.symm)
      have sz_b21 : h0.size ≤ b21 := Nat.le_trans K0.1 (Nat.le_of_eq g21.symm)
      replace S_NORMAL := S_NORMAL.ext E21
      replace E_w_NORMAL := E_w_NORMAL.ext E21
      replace S_INITIATOR := S_INITIATOR.ext E21
      replace E_w_INITIATOR := E_w_INITIATOR.ext E21
      replace S_PASSIVE := S_PASSIVE.ext E21
      replace E_w_PASSIVE := E_w_PASSIVE.ext E21
      replace S_LEADER := S_LEADER.ext E21
      replace E_w_LEADER := E_w_LEADER.ext E21
      replace K0 := K0.ext E21
      replace Z0 := Nat.le_trans Z0 E21.1
      have E_b21 := A21
      have F_b21_phase : Fld Z h21 b21 "com/example/lectern/lectern/catalog/Franklin$Member" "phase" "Lcom/example/lectern/lectern/catalog/Franklin$Phase;" .null := D21 (Or.inr (wd22 hw)) (ty := (.object "com/example/lectern/lectern/catalog/Franklin$Phase")) (by decide)
      have F_b21_leader : Fld Z h21 b21 "com/example/lectern/lectern/catalog/Franklin$Member" "leader" "I" (.int (0 : Int32)) := D21 (Or.inr (wd24 hw)) (ty := .int) (by decide)
      have F_b21_fromLeft : Fld Z h21 b21 "com/example/lectern/lectern/catalog/Franklin$Member" "fromLeft" "I" (.int (0 : Int32)) := D21 (Or.inr (wd26 hw)) (ty := .int) (by decide)
      have F_b21_fromRight : Fld Z h21 b21 "com/example/lectern/lectern/catalog/Franklin$Member" "fromRight" "I" (.int (0 : Int32)) := D21 (Or.inr (wd28 hw)) (ty := .int) (by decide)
      show Go _ _ _ (T21.setTop (mkF m 31 #[.val (.int p1), .val (.int p2), .val (.int p3), .val (.int p4), .val (.int p5), .val (.int p3), .val (.int (-1)), .unset, .unset, .unset, .unset, .unset] [(.ref b21)])) _
      refine Go.st (fun t k => XS.dup X21.here hx rfl (hb hby at_31) rfl rfl k) ?_
      refine Go.st (fun t k => XS.iloadN X21.here hx rfl (hb hby at_32) rfl k) ?_
      obtain ⟨_, _, ⟨T22, L22, k22, n22⟩, -, X22, ⟨Lc22, hQ22, l22, y22, z22⟩, st22⟩ := Jvm.LawKit.callS X21 hx (y := (⟨"com/example/lectern/lectern/catalog/MemberSlotsFullPinLaw", "phase", "(I)Lcom/example/lectern/lectern/catalog/Franklin$Phase;"⟩ : MethodName)) hown (mvT hZ (wd3 hw)) (mvT hZ (wd4 hw)) (mvT hZ (wd5 hw)) (mvT hZ (wd6 hw)) (by decide) (backOf (W := 2) (rm1 l Z a0 hw [] p1 w_NORMAL w_INITIATOR w_PASSIVE w_LEADER h21 n0 Z0 S_NORMAL E_w_NORMAL S_INITIATOR E_w_INITIATOR S_PASSIVE E_w_PASSIVE S_LEADER E_w_LEADER) hZ (wd6 hw) (wd5 hw) (by decide) (by decide)) (g := (mkF m 33 #[.val (.int p1), .val (.int p2), .val (.int p3), .val (.int p4), .val (.int p5), .val (.int p3), .val (.int (-1)), .unset, .unset, .unset, .unset, .unset] [(.int p1), (.ref b21), (.ref b21)])) rfl (by rw [hml]; rfl) (argsL := [(.int p1)]) (rest := [(.ref b21), (.ref b21)]) (lenOf pd2 rfl) rfl (by show 2 * 0 + _ ≤ _; exact Nat.le_of_eq rfl) (hb hby at_33) (fun _ _ => ⟨rfl, e21, (by decide : 1 + 0 ≤ _), (by decide : 4 + 0 ≤ _)⟩)
      dsimp only [Pt.U, Pt.locs, Pt.cells, Pt.slots] at X22 l22 y22 z22 st22 hQ22
      subst l22 y22 z22
      refine Go.st st22 ?_
      obtain ⟨rfl, N22q, e22, E22_r⟩ := hQ22
      have N22 := Fr.app N0 N22q
      rw [e22] at E22_r
      show Go _ _ _ (T22.setTop (mkF m 36 #[.val (.int p1), .val (.int p2), .val (.int p3), .val (.int p4), .val (.int p5), .val (.int p3), .val (.int (-1)), .unset, .unset, .unset, .unset, .unset] [(.ref (f1 p1 w_NORMAL w_INITIATOR w_PASSIVE w_LEADER)), (.ref b21), (.ref b21)])) _
      refine Go.st (fun t k => XS.iloadN X22.here hx rfl (hb hby at_36) rfl k) ?_
      refine Go.st (fun t k => XS.iload X22.here hx rfl (hb hby at_37) rfl k) ?_
      refine Go.st (fun t k => XS.iload X22.here hx rfl (hb hby at_39) rfl k) ?_
      obtain ⟨_, _, ⟨T23, L23, k23, n23⟩, -, X23, ⟨Lc23, hQ23, l23, y23, z23⟩, st23⟩ := X22.specialBack hx (y := (⟨"com/example/lectern/lectern/catalog/Franklin$Member", "<init>", "(Lcom/example/lectern/lectern/catalog/Franklin$Phase;III)V"⟩ : MethodName)) rfl hown (mvT hZ (wd10 hw)) (mvT hZ (wd11 hw)) (mvT hZ (wd12 hw)) (by decide) (backOf (W := 1) (rm2 l Z a0 hw [] b21 (f1 p1 w_NORMAL w_INITIATOR w_PASSIVE w_LEADER) p2 p3 (-1 : Int32) (.null : Value) ((.int (0 : Int32)) : Value) ((.int (0 : Int32)) : Value) ((.int (0 : Int32)) : Value) h21 n0 Z0 E_b21 F_b21_phase F_b21_leader F_b21_fromLeft F_b21_fromRight g_b21) hZ (wd12 hw) (wd2 hw) (by decide) (by decide)) (g := (mkF m 41 #[.val (.int p1), .val (.int p2), .val (.int p3), .val (.int p4), .val (.int p5), .val (.int p3), .val (.int (-1)), .unset, .unset, .unset, .unset, .unset] [(.int (-1)), (.int p3), (.int p2), (.ref (f1 p1 w_NORMAL w_INITIATOR w_PASSIVE w_LEADER)), (.ref b21), (.ref b21)])) rfl (by rw [hml]; rfl) (Steps.refl _) (a := b21) (argsL := [(.ref (f1 p1 w_NORMAL w_INITIATOR w_PASSIVE w_LEADER)), (.int p2), (.int p3), (.int (-1 : Int32))]) (rest := [(.ref b21)]) (lenOf pd1 rfl) rfl (by show 2 * 0 + _ ≤ _; exact Nat.le_of_eq rfl) (hb hby at_41) (fun _ _ => ⟨rfl, e22, (by decide : 1 + 0 ≤ _), (by decide : 4 + 0 ≤ _)⟩)
      dsimp only [Pt.U, Pt.locs, Pt.cells, Pt.slots] at X23 l23 y23 z23 st23 hQ23
      subst l23 y23 z23
      refine Go.tr st23 ?_
      have E_b21_pre := E_b21
      have F_b21_phase_pre := F_b21_phase
      have F_b21_leader_pre := F_b21_leader
      have F_b21_fromLeft_pre := F_b21_fromLeft
      have F_b21_fromRight_pre := F_b21_fromRight
      obtain ⟨h23, e23⟩ : ∃ z, T23.heap = z := ⟨_, rfl⟩
      rw [e23] at hQ23
      obtain ⟨rfl, N23q, K23, Q23_0, Q23_1, Q23_2, Q23_3, Q23_4⟩ := hQ23
      replace S_NORMAL := sta_keep S_NORMAL K23 (allS (exa_ns E_b21_pre) all0)
      replace E_w_NORMAL := E_w_NORMAL.keep K23
      replace S_INITIATOR := sta_keep S_INITIATOR K23 (allS (exa_ns E_b21_pre) all0)
      replace E_w_INITIATOR := E_w_INITIATOR.keep K23
      replace S_PASSIVE := sta_keep S_PASSIVE K23 (allS (exa_ns E_b21_pre) all0)
      replace E_w_PASSIVE := E_w_PASSIVE.keep K23
      replace S_LEADER := sta_keep S_LEADER K23 (allS (exa_ns E_b21_pre) all0)
      replace E_w_LEADER := E_w_LEADER.keep K23
      replace E_b21 := E_b21.keep K23
      replace E22_r := E22_r.keep K23
      replace Z0 := Nat.le_trans Z0 K23.1
      replace K0 := K0.trans K23 (allS (Or.inr sz_b21) all0)
      have E_b21 := Q23_0
      have F_b21_phase := Q23_1
      have F_b21_leader := Q23_2
      have F_b21_fromLeft := Q23_3
      have F_b21_fromRight := Q23_4
      have N23 := Fr.app N22 N23q
      show Go _ _ _ (T23.setTop (mkF m 44 #[.val (.int p1), .val (.int p2), .val (.int p3), .val (.int p4), .val (.int p5), .val (.int p3), .val (.int (-1)), .unset, .unset, .unset, .unset, .unset] [(.ref b21)])) _
      refine Go.st (fun t k => XS.astore X23.here hx rfl (hb hby at_44) rfl rfl (l' := #[.val (.int p1), .val (.int p2), .val (.int p3), .val (.int p4), .val (.int p5), .val (.int p3), .val (.int (-1)), .val (.ref b21), .unset, .unset, .unset, .unset]) rfl k) ?_
      refine Go.st (fun t k => XS.aload X23.here hx rfl (hb hby at_46) rfl rfl k) ?_
      obtain ⟨cq24, kq24, q24a, q24b, q24c⟩ := isOf hZ e23 E_b21
      obtain ⟨_, _, ⟨T24, L24, k24, n24⟩, -, X24, ⟨Lc24, hQ24, l24, y24, z24⟩, st24⟩ := X23.virtualBack hx (y := (⟨"com/example/lectern/lectern/catalog/Franklin$Member", "slotsFull", "()Z"⟩ : MethodName)) (z := (⟨"com/example/lectern/lectern/catalog/Franklin$Member", "slotsFull", "()Z"⟩ : MethodName)) hown (mvT hZ (wd29 hw)) (mvT hZ (wd30 hw)) (notFace_of_selects (args := #[]) (mvT hZ (wd32 hw))) (mvT hZ (wd32 hw)) (mvT hZ (wd31 hw)) (by decide) (backOf (W := 0) (rm5 l Z a0 hw [] b21 p3 (-1 : Int32) h23 n0 Z0 F_b21_fromLeft F_b21_fromRight) hZ (wd33 hw) (wd2 hw) (by decide) (by decide)) q24a q24c (g := (mkF m 48 #[.val (.int p1), .val (.int p2), .val (.int p3), .val (.int p4), .val (.int p5), .val (.int p3), .val (.int (-1)), .val (.ref b21), .unset, .unset, .unset, .unset] [(.ref b21)])) rfl (by rw [hml]; rfl) (Steps.refl _) (argsL := []) (rest := []) (lenOf pd3 rfl) rfl (by show 2 * 0 + _ ≤ _; exact Nat.le_of_eq rfl) (hb hby at_48) (fun _ _ => ⟨rfl, e23, (by decide : 1 + 0 ≤ _), (by decide : 4 + 0 ≤ _)⟩)
      dsimp only [Pt.U, Pt.locs, Pt.cells, Pt.slots] at X24 l24 y24 z24 st24 hQ24
      subst l24 y24 z24
      refine Go.tr st24 ?_
      obtain ⟨rfl, N24q, e24⟩ := hQ24
      have N24 := Fr.app N23 N24q
      show Go _ _ _ (T24.setTop (mkF m 51 #[.val (.int p1), .val (.int p2), .val (.int p3), .val (.int p4), .val (.int p5), .val (.int p3), .val (.int (-1)), .val (.ref b21), .unset, .unset, .unset, .unset] [(.int (f5 p3 (-1 : Int32)))])) _
      by_cases hc25 : p3 = (-1 : Int32)
      · rw [show (f5 p3 (-1 : Int32)) = (0 : Int32) from by unfold f5; simp only [if_pos hc25, if_true, if_false]]
        show Go _ _ _ (T24.setTop (mkF m 51 #[.val (.int p1), .val (.int p2), .val (.int p3), .val (.int p4), .val (.int p5), .val (.int p3), .val (.int (-1)), .val (.ref b21), .unset, .unset, .unset, .unset] [(.int 0)])) _
        refine Go.st (fun t k => XS.istore X24.here hx rfl (hb hby at_51) rfl (l' := #[.val (.int p1), .val (.int p2), .val (.int p3), .val (.int p4), .val (.int p5), .val (.int p3), .val (.int (-1)), .val (.ref b21), .val (.int 0), .unset, .unset, .unset]) rfl k) ?_
        refine Go.st (fun t k => XS.iconst X24.here hx rfl (hb hby at_53) k) ?_
        refine Go.st (fun t k => XS.istore X24.here hx rfl (hb hby at_54) rfl (l' := #[.val (.int p1), .val (.int p2), .val (.int p3), .val (.int p4), .val (.int p5), .val (.int p3), .val (.int (-1)), .val (.ref b21), .val (.int 0), .val (.int 0), .unset, .unset]) rfl k) ?_
        refine Go.st (fun t k => XS.iload X24.here hx rfl (hb hby at_56) rfl k) ?_
        obtain ⟨_, _, ⟨T26, L26, k26, n26⟩, -, X26, ⟨Lc26, hQ26, l26, y26, z26⟩, st26⟩ := Jvm.LawKit.callS X24 hx (y := (⟨"com/example/lectern/lectern/catalog/MemberSlotsFullPinLaw", "holdsId", "(I)Z"⟩ : MethodName)) hown (mvT hZ (wd34 hw)) (mvT hZ (wd35 hw)) (mvT hZ (wd5 hw)) (mvT hZ (wd36 hw)) (by decide) (backOf (W := 0) (rm6 l Z a0 hw [] p3 h23 n0 Z0) hZ (wd36 hw) (wd5 hw) (by decide) (by decide)) (g := (mkF m 58 #[.val (.int p1), .val (.int p2), .val (.int p3), .val (.int p4), .val (.int p5), .val (.int p3), .val (.int (-1)), .val (.ref b21), .val (.int 0), .val (.int 0), .unset, .unset] [(.int p3)])) rfl (by rw [hml]; rfl) (argsL := [(.int p3)]) (rest := []) (lenOf pd4 rfl) rfl (by show 2 * 0 + _ ≤ _; exact Nat.le_of_eq rfl) (hb hby at_58) (fun _ _ => ⟨rfl, e24, (by decide : 1 + 0 ≤ _), (by decide : 4 + 0 ≤ _)⟩)
        dsimp only [Pt.U, Pt.locs, Pt.cells, Pt.slots] at X26 l26 y26 z26 st26 hQ26
        subst l26 y26 z26
        refine Go.st st26 ?_
        obtain ⟨rfl, N26q, e26⟩ := hQ26
        have N26 := Fr.app N24 N26q
        show Go _ _ _ (T26.setTop (mkF m 61 #[.val (.int p1), .val (.int p2), .val (.int p3), .val (.int p4), .val (.int p5), .val (.int p3), .val (.int (-1)), .val (.ref b21), .val (.int 0), .val (.int 0), .unset, .unset] [(.int (f6 p3))])) _
        rw [show (f6 p3) = (0 : Int32) from by unfold f6; simp only [if_pos hc25, if_true, if_false]]
        show Go _ _ _ (T26.setTop (mkF m 61 #[.val (.int p1), .val (.int p2), .val (.int p3), .val (.int p4), .val (.int p5), .val (.int p3), .val (.int (-1)), .val (.ref b21), .val (.int 0), .val (.int 0), .unset, .unset] [(.int 0)])) _
        refine Go.st (fun t k => XS.ifYes X26.here hx rfl (pc0 := 61) (pc' := 75) rfl (hb hby at_61) rfl ((if0 _ _).trans (teq (by decide : (0 : Int32) = (0 : Int32))).1) (by decide) (by decide) k) ?_
        show Go _ _ _ (T26.setTop (mkF m 75 #[.val (.int p1), .val (.int p2), .val (.int p3), .val (.int p4), .val (.int p5), .val (.int p3), .val (.int (-1)), .val (.ref b21), .val (.int 0), .val (.int 0), .unset, .unset] [])) _
        refine Go.st (fun t k => XS.iload X26.here hx rfl (hb hby at_75) rfl k) ?_
        refine Go.st (fun t k => XS.ifYes X26.here hx rfl (pc0 := 77) (pc' := 88) rfl (hb hby at_77) rfl ((if0 _ _).trans (teq (by decide : (0 : Int32) = (0 : Int32))).1) (by decide) (by decide) k) ?_
        show Go _ _ _ (T26.setTop (mkF m 88 #[.val (.int p1), .val (.int p2), .val (.int p3), .val (.int p4), .val (.int p5), .val (.int p3), .val (.int (-1)), .val (.ref b21), .val (.int 0), .val (.int 0), .unset, .unset] [])) _
        refine Go.st (fun t k => XS.iconst X26.here hx rfl (hb hby at_88) k) ?_
        refine Go.st (fun t k => XS.goto X26.here hx rfl (pc0 := 89) (pc' := 93) rfl (hb hby at_89) (by decide) (by decide) k) ?_
        refine Go.st (fun t k => XS.istore X26.here hx rfl (hb hby at_93) rfl (l' := #[.val (.int p1), .val (.int p2), .val (.int p3), .val (.int p4), .val (.int p5), .val (.int p3), .val (.int (-1)), .val (.ref b21), .val (.int 0), .val (.int 0), .val (.int 1), .unset]) rfl k) ?_
        refine Go.st (fun t k => XS.aload X26.here hx rfl (hb hby at_95) rfl rfl k) ?_
        obtain ⟨cq27, kq27, q27a, q27b, q27c⟩ := isOf hZ e26 E_b21
        obtain ⟨_, _, ⟨T27, L27, k27, n27⟩, -, X27, ⟨Lc27, hQ27, l27, y27, z27⟩, st27⟩ := X26.virtualBack hx (y := (⟨"com/example/lectern/lectern/catalog/Franklin$Member", "emptied", "()Lcom/example/lectern/lectern/catalog/Franklin$Member;"⟩ : MethodName)) (z := (⟨"com/example/lectern/lectern/catalog/Franklin$Member", "emptied", "()Lcom/example/lectern/lectern/catalog/Franklin$Member;"⟩ : MethodName)) hown (mvT hZ (wd42 hw)) (mvT hZ (wd43 hw)) (notFace_of_selects (args := #[]) (mvT hZ (wd45 hw))) (mvT hZ (wd45 hw)) (mvT hZ (wd44 hw)) (by decide) (backOf (W := 0) (rm8 l Z a0 hw [] b21 (f1 p1 w_NORMAL w_INITIATOR w_PASSIVE w_LEADER) p2 h23 n0 Z0 F_b21_phase F_b21_leader) hZ (wd46 hw) (wd2 hw) (by decide) (by decide)) q27a q27c (g := (mkF m 97 #[.val (.int p1), .val (.int p2), .val (.int p3), .val (.int p4), .val (.int p5), .val (.int p3), .val (.int (-1)), .val (.ref b21), .val (.int 0), .val (.int 0), .val (.int 1), .unset] [(.ref b21)])) rfl (by rw [hml]; rfl) (Steps.refl _) (argsL := []) (rest := []) (lenOf pd5 rfl) rfl (by show 2 * 0 + _ ≤ _; exact Nat.le_of_eq rfl) (hb hby at_97) (fun _ _ => ⟨rfl, e26, (by decide : 1 + 1 ≤ _), (by decide : 4 + 4 ≤ _)⟩)
        dsimp only [Pt.U, Pt.locs, Pt.cells, Pt.slots] at X27 l27 y27 z27 st27 hQ27
        subst l27 y27 z27
        obtain ⟨h27, e27⟩ : ∃ z, T27.heap = z := ⟨_, rfl⟩
        rw [e27] at hQ27
        obtain ⟨x8_0_27, rfl, N27q, K27, ng_x8_0_27, sz0_x8_0_27, Q27_0, Q27_1, Q27_2, Q27_3, Q27_4⟩ := hQ27
        refine Go.tr st27 ?_
        have ne_w_NORMAL_x8_0_27 : w_NORMAL ≠ x8_0_27 := Nat.ne_of_lt (Nat.lt_of_lt_of_le E_w_NORMAL.lt sz0_x8_0_27)
        have ne_w_INITIATOR_x8_0_27 : w_INITIATOR ≠ x8_0_27 := Nat.ne_of_lt (Nat.lt_of_lt_of_le E_w_INITIATOR.lt sz0_x8_0_27)
        have ne_w_PASSIVE_x8_0_27 : w_PASSIVE ≠ x8_0_27 := Nat.ne_of_lt (Nat.lt_of_lt_of_le E_w_PASSIVE.lt sz0_x8_0_27)
        have ne_w_LEADER_x8_0_27 : w_LEADER ≠ x8_0_27 := Nat.ne_of_lt (Nat.lt_of_lt_of_le E_w_LEADER.lt sz0_x8_0_27)
        have ne_b21_x8_0_27 : b21 ≠ x8_0_27 := Nat.ne_of_lt (Nat.lt_of_lt_of_le E_b21.lt sz0_x8_0_27)
        have ne__f1_p1_w_NORMAL_w_INITIATOR_w_PASSIVE_w_LEADER__x8_0_27 : (f1 p1 w_NORMAL w_INITIATOR w_PASSIVE w_LEADER) ≠ x8_0_27 := Nat.ne_of_lt (Nat.lt_of_lt_of_le E22_r.lt sz0_x8_0_27)
        have g_x8_0_27 : n0 ≤ x8_0_27 := ng_x8_0_27
        have sz_x8_0_27 : h0.size ≤ x8_0_27 := Nat.le_trans K0.1 sz0_x8_0_27
        replace S_NORMAL := sta_keep S_NORMAL K27 all0
        replace E_w_NORMAL := E_w_NORMAL.keep K27
        replace S_INITIATOR := sta_keep S_INITIATOR K27 all0
        replace E_w_INITIATOR := E_w_INITIATOR.keep K27
        replace S_PASSIVE := sta_keep S_PASSIVE K27 all0
        replace E_w_PASSIVE := E_w_PASSIVE.keep K27
        replace S_LEADER := sta_keep S_LEADER K27 all0
        replace E_w_LEADER := E_w_LEADER.keep K27
        replace E_b21 := E_b21.keep K27
        replace E22_r := E22_r.keep K27
        replace F_b21_phase := F_b21_phase.keep K27 nin0
        replace F_b21_leader := F_b21_leader.keep K27 nin0
        replace F_b21_fromLeft := F_b21_fromLeft.keep K27 nin0
        replace F_b21_fromRight := F_b21_fromRight.keep K27 nin0
        replace Z0 := Nat.le_trans Z0 K27.1
        replace K0 := K0.trans K27 all0
        have E_x8_0_27 := Q27_0
        have F_x8_0_27_phase := Q27_1
        have F_x8_0_27_leader := Q27_2
        have F_x8_0_27_fromLeft := Q27_3
        have F_x8_0_27_fromRight := Q27_4
        have N27 := Fr.app N26 N27q
        show Go _ _ _ (T27.setTop (mkF m 100 #[.val (.int p1), .val (.int p2), .val (.int p3), .val (.int p4), .val (.int p5), .val (.int p3), .val (.int (-1)), .val (.ref b21), .val (.int 0), .val (.int 0), .val (.int 1), .unset] [(.ref x8_0_27)])) _
        obtain ⟨cq28, kq28, q28a, q28b, q28c⟩ := isOf hZ e27 E_x8_0_27
        obtain ⟨_, _, ⟨T28, L28, k28, n28⟩, -, X28, ⟨Lc28, hQ28, l28, y28, z28⟩, st28⟩ := X27.virtualBack hx (y := (⟨"com/example/lectern/lectern/catalog/Franklin$Member", "slotsFull", "()Z"⟩ : MethodName)) (z := (⟨"com/example/lectern/lectern/catalog/Franklin$Member", "slotsFull", "()Z"⟩ : MethodName)) hown (mvT hZ (wd29 hw)) (mvT hZ (wd30 hw)) (notFace_of_selects (args := #[]) (mvT hZ (wd32 hw))) (mvT hZ (wd32 hw)) (mvT hZ (wd31 hw)) (by decide) (backOf (W := 0) (rm5 l Z a0 hw [] x8_0_27 (-1 : Int32) (-1 : Int32) h27 n0 Z0 F_x8_0_27_fromLeft F_x8_0_27_fromRight) hZ (wd33 hw) (wd2 hw) (by decide) (by decide)) q28a q28c (g := (mkF m 100 #[.val (.int p1), .val (.int p2), .val (.int p3), .val (.int p4), .val (.int p5), .val (.int p3), .val (.int (-1)), .val (.ref b21), .val (.int 0), .val (.int 0), .val (.int 1), .unset] [(.ref x8_0_27)])) rfl (by rw [hml]; rfl) (Steps.refl _) (argsL := []) (rest := []) (lenOf pd3 rfl) rfl (by show 2 * 0 + _ ≤ _; exact Nat.le_of_eq rfl) (hb hby at_100) (fun _ _ => ⟨rfl, e27, (by decide : 2 + 0 ≤ _), (by decide : 8 + 0 ≤ _)⟩)
        dsimp only [Pt.U, Pt.locs, Pt.cells, Pt.slots] at X28 l28 y28 z28 st28 hQ28
        subst l28 y28 z28
        refine Go.tr st28 ?_
        obtain ⟨rfl, N28q, e28⟩ := hQ28
        have N28 := Fr.app N27 N28q
        show Go _ _ _ (T28.setTop (mkF m 103 #[.val (.int p1), .val (.int p2), .val (.int p3), .val (.int p4), .val (.int p5), .val (.int p3), .val (.int (-1)), .val (.ref b21), .val (.int 0), .val (.int 0), .val (.int 1), .unset] [(.int (f5 (-1 : Int32) (-1 : Int32)))])) _
        rw [show (f5 (-1 : Int32) (-1 : Int32)) = (0 : Int32) from by unfold f5; simp only [if_pos (by decide : (-1 : Int32) = (-1 : Int32)), if_true, if_false]]
        show Go _ _ _ (T28.setTop (mkF m 103 #[.val (.int p1), .val (.int p2), .val (.int p3), .val (.int p4), .val (.int p5), .val (.int p3), .val (.int (-1)), .val (.ref b21), .val (.int 0), .val (.int 0), .val (.int 1), .unset] [(.int 0)])) _
        refine Go.st (fun t k => XS.ifNo X28.here hx rfl (hb hby at_103) rfl ((if0 _ _).trans (teq (by decide : (0 : Int32) = (0 : Int32))).2) k) ?_
        show Go _ _ _ (T28.setTop (mkF m 106 #[.val (.int p1), .val (.int p2), .val (.int p3), .val (.int p4), .val (.int p5), .val (.int p3), .val (.int (-1)), .val (.ref b21), .val (.int 0), .val (.int 0), .val (.int 1), .unset] [])) _
        refine Go.st (fun t k => XS.iconst X28.here hx rfl (hb hby at_106) k) ?_
        refine Go.st (fun t k => XS.goto X28.here hx rfl (pc0 := 107) (pc' := 111) rfl (hb hby at_107) (by decide) (by decide) k) ?_
        refine Go.st (fun t k => XS.istore X28.here hx rfl (hb hby at_111) rfl (l' := #[.val (.int p1), .val (.int p2), .val (.int p3), .val (.int p4), .val (.int p5), .val (.int p3), .val (.int (-1)), .val (.ref b21), .val (.int 0), .val (.int 0), .val (.int 1), .val (.int 1)]) rfl k) ?_
        refine Go.st (fun t k => XS.iload X28.here hx rfl (hb hby at_113) rfl k) ?_
        refine Go.st (fun t k => XS.iload X28.here hx rfl (hb hby at_115) rfl k) ?_
        refine Go.st (fun t k => XS.icmpNo X28.here hx rfl (hb hby at_117) rfl (teq (by decide : (0 : Int32) = (0 : Int32))).2 k) ?_
        show Go _ _ _ (T28.setTop (mkF m 120 #[.val (.int p1), .val (.int p2), .val (.int p3), .val (.int p4), .val (.int p5), .val (.int p3), .val (.int (-1)), .val (.ref b21), .val (.int 0), .val (.int 0), .val (.int 1), .val (.int 1)] [])) _
        refine Go.st (fun t k => XS.iload X28.here hx rfl (hb hby at_120) rfl k) ?_
        refine Go.st (fun t k => XS.ifNo X28.here hx rfl (hb hby at_122) rfl ((if0 _ _).trans (feq (by decide : ¬ ((1 : Int32) = (0 : Int32)))).1) k) ?_
        show Go _ _ _ (T28.setTop (mkF m 125 #[.val (.int p1), .val (.int p2), .val (.int p3), .val (.int p4), .val (.int p5), .val (.int p3), .val (.int (-1)), .val (.ref b21), .val (.int 0), .val (.int 0), .val (.int 1), .val (.int 1)] [])) _
        refine Go.st (fun t k => XS.iload X28.here hx rfl (hb hby at_125) rfl k) ?_
        refine Go.st (fun t k => XS.ifNo X28.here hx rfl (hb hby at_127) rfl ((if0 _ _).trans (feq (by decide : ¬ ((1 : Int32) = (0 : Int32)))).1) k) ?_
        show Go _ _ _ (T28.setTop (mkF m 130 #[.val (.int p1), .val (.int p2), .val (.int p3), .val (.int p4), .val (.int p5), .val (.int p3), .val (.int (-1)), .val (.ref b21), .val (.int 0), .val (.int 0), .val (.int 1), .val (.int 1)] [])) _
        refine Go.st (fun t k => XS.iconst X28.here hx rfl (hb hby at_130) k) ?_
        refine Go.st (fun t k => XS.goto X28.here hx rfl (pc0 := 131) (pc' := 135) rfl (hb hby at_131) (by decide) (by decide) k) ?_
        obtain ⟨fs, hr, hrun, hended, hW, hsame⟩ := X28.leave (v := some (.int (1 : Int32))) (fun h => by rw [Bd.returns] at h; cases h)
        refine Go.fin (retN X28 hx (t := .boolean) Bd.returns (by simp) (hb hby at_135) hr) hrun hended ⟨_, _, rfl, ?_, ⟨_, rfl⟩, hW, hsame.mono (by decide) (by decide)⟩
        show Q0 Z p1 p2 p3 p4 p5 w_NORMAL w_INITIATOR w_PASSIVE w_LEADER h0 n0 _ T28.heap _
        rw [e28]
        exact ⟨rfl, N28⟩
      · rw [show (f5 p3 (-1 : Int32)) = (0 : Int32) from by unfold f5; simp only [if_neg hc25, if_pos (by decide : (-1 : Int32) = (-1 : Int32)), if_true, if_false]]
        show Go _ _ _ (T24.setTop (mkF m 51 #[.val (.int p1), .val (.int p2), .val (.int p3), .val (.int p4), .val (.int p5), .val (.int p3), .val (.int (-1)), .val (.ref b21), .unset, .unset, .unset, .unset] [(.int 0)])) _
        refine Go.st (fun t k => XS.istore X24.here hx rfl (hb hby at_51) rfl (l' := #[.val (.int p1), .val (.int p2), .val (.int p3), .val (.int p4), .val (.int p5), .val (.int p3), .val (.int (-1)), .val (.ref b21), .val (.int 0), .unset, .unset, .unset]) rfl k) ?_
        refine Go.st (fun t k => XS.iconst X24.here hx rfl (hb hby at_53) k) ?_
        refine Go.st (fun t k => XS.istore X24.here hx rfl (hb hby at_54) rfl (l' := #[.val (.int p1), .val (.int p2), .val (.int p3), .val (.int p4), .val (.int p5), .val (.int p3), .val (.int (-1)), .val (.ref b21), .val (.int 0), .val (.int 0), .unset, .unset]) rfl k) ?_
        refine Go.st (fun t k => XS.iload X24.here hx rfl (hb hby at_56) rfl k) ?_
        obtain ⟨_, _, ⟨T29, L29, k29, n29⟩, -, X29, ⟨Lc29, hQ29, l29, y29, z29⟩, st29⟩ := Jvm.LawKit.callS X24 hx (y := (⟨"com/example/lectern/lectern/catalog/MemberSlotsFullPinLaw", "holdsId", "(I)Z"⟩ : MethodName)) hown (mvT hZ (wd34 hw)) (mvT hZ (wd35 hw)) (mvT hZ (wd5 hw)) (mvT hZ (wd36 hw)) (by decide) (backOf (W := 0) (rm6 l Z a0 hw [] p3 h23 n0 Z0) hZ (wd36 hw) (wd5 hw) (by decide) (by decide)) (g := (mkF m 58 #[.val (.int p1), .val (.int p2), .val (.int p3), .val (.int p4), .val (.int p5), .val (.int p3), .val (.int (-1)), .val (.ref b21), .val (.int 0), .val (.int 0), .unset, .unset] [(.int p3)])) rfl (by rw [hml]; rfl) (argsL := [(.int p3)]) (rest := []) (lenOf pd4 rfl) rfl (by show 2 * 0 + _ ≤ _; exact Nat.le_of_eq rfl) (hb hby at_58) (fun _ _ => ⟨rfl, e24, (by decide : 1 + 0 ≤ _), (by decide : 4 + 0 ≤ _)⟩)
        dsimp only [Pt.U, Pt.locs, Pt.cells, Pt.slots] at X29 l29 y29 z29 st29 hQ29
        subst l29 y29 z29
        refine Go.st st29 ?_
        obtain ⟨rfl, N29q, e29⟩ := hQ29
        have N29 := Fr.app N24 N29q
        show Go _ _ _ (T29.setTop (mkF m 61 #[.val (.int p1), .val (.int p2), .val (.int p3), .val (.int p4), .val (.int p5), .val (.int p3), .val (.int (-1)), .val (.ref b21), .val (.int 0), .val (.int 0), .unset, .unset] [(.int (f6 p3))])) _
        rw [show (f6 p3) = (1 : Int32) from by unfold f6; simp only [if_neg hc25, if_true, if_false]]
        show Go _ _ _ (T29.setTop (mkF m 61 #[.val (.int p1), .val (.int p2), .val (.int p3), .val (.int p4), .val (.int p5), .val (.int p3), .val (.int (-1)), .val (.ref b21), .val (.int 0), .val (.int 0), .unset, .unset] [(.int 1)])) _
        refine Go.st (fun t k => XS.ifNo X29.here hx rfl (hb hby at_61) rfl ((if0 _ _).trans (feq (by decide : ¬ ((1 : Int32) = (0 : Int32)))).1) k) ?_
        show Go _ _ _ (T29.setTop (mkF m 64 #[.val (.int p1), .val (.int p2), .val (.int p3), .val (.int p4), .val (.int p5), .val (.int p3), .val (.int (-1)), .val (.ref b21), .val (.int 0), .val (.int 0), .unset, .unset] [])) _
        refine Go.st (fun t k => XS.iload X29.here hx rfl (hb hby at_64) rfl k) ?_
        obtain ⟨_, _, ⟨T30, L30, k30, n30⟩, -, X30, ⟨Lc30, hQ30, l30, y30, z30⟩, st30⟩ := Jvm.LawKit.callS X29 hx (y := (⟨"com/example/lectern/lectern/catalog/MemberSlotsFullPinLaw", "holdsId", "(I)Z"⟩ : MethodName)) hown (mvT hZ (wd34 hw)) (mvT hZ (wd35 hw)) (mvT hZ (wd5 hw)) (mvT hZ (wd36 hw)) (by decide) (backOf (W := 0) (rm6 l Z a0 hw [] (-1 : Int32) h23 n0 Z0) hZ (wd36 hw) (wd5 hw) (by decide) (by decide)) (g := (mkF m 66 #[.val (.int p1), .val (.int p2), .val (.int p3), .val (.int p4), .val (.int p5), .val (.int p3), .val (.int (-1)), .val (.ref b21), .val (.int 0), .val (.int 0), .unset, .unset] [(.int (-1))])) rfl (by rw [hml]; rfl) (argsL := [(.int (-1 : Int32))]) (rest := []) (lenOf pd4 rfl) rfl (by show 2 * 0 + _ ≤ _; exact Nat.le_of_eq rfl) (hb hby at_66) (fun _ _ => ⟨rfl, e29, (by decide : 1 + 0 ≤ _), (by decide : 4 + 0 ≤ _)⟩)
        dsimp only [Pt.U, Pt.locs, Pt.cells, Pt.slots] at X30 l30 y30 z30 st30 hQ30
        subst l30 y30 z30
        refine Go.st st30 ?_
        obtain ⟨rfl, N30q, e30⟩ := hQ30
        have N30 := Fr.app N29 N30q
        show Go _ _ _ (T30.setTop (mkF m 69 #[.val (.int p1), .val (.int p2), .val (.int p3), .val (.int p4), .val (.int p5), .val (.int p3), .val (.int (-1)), .val (.ref b21), .val (.int 0), .val (.int 0), .unset, .unset] [(.int (f6 (-1 : Int32)))])) _
        rw [show (f6 (-1 : Int32)) = (0 : Int32) from by unfold f6; simp only [if_pos (by decide : (-1 : Int32) = (-1 : Int32)), if_true, if_false]]
        show Go _ _ _ (T30.setTop (mkF m 69 #[.val (.int p1), .val (.int p2), .val (.int p3), .val (.int p4), .val (.int p5), .val (.int p3), .val (.int (-1)), .val (.ref b21), .val (.int 0), .val (.int 0), .unset, .unset] [(.int 0)])) _
        refine Go.st (fun t k => XS.ifYes X30.here hx rfl (pc0 := 69) (pc' := 75) rfl (hb hby at_69) rfl ((if0 _ _).trans (teq (by decide : (0 : Int32) = (0 : Int32))).1) (by decide) (by decide) k) ?_
        show Go _ _ _ (T30.setTop (mkF m 75 #[.val (.int p1), .val (.int p2), .val (.int p3), .val (.int p4), .val (.int p5), .val (.int p3), .val (.int (-1)), .val (.ref b21), .val (.int 0), .val (.int 0), .unset, .unset] [])) _
        refine Go.st (fun t k => XS.iload X30.here hx rfl (hb hby at_75) rfl k) ?_
        refine Go.st (fun t k => XS.ifYes X30.here hx rfl (pc0 := 77) (pc' := 88) rfl (hb hby at_77) rfl ((if0 _ _).trans (teq (by decide : (0 : Int32) = (0 : Int32))).1) (by decide) (by decide) k) ?_
        show Go _ _ _ (T30.setTop (mkF m 88 #[.val (.int p1), .val (.int p2), .val (.int p3), .val (.int p4), .val (.int p5), .val (.int p3), .val (.int (-1)), .val (.ref b21), .val (.int 0), .val (.int 0), .unset, .unset] [])) _
        refine Go.st (fun t k => XS.iconst X30.here hx rfl (hb hby at_88) k) ?_
        refine Go.st (fun t k => XS.goto X30.here hx rfl (pc0 := 89) (pc' := 93) rfl (hb hby at_89) (by decide) (by decide) k) ?_
        refine Go.st (fun t k => XS.istore X30.here hx rfl (hb hby at_93) rfl (l' := #[.val (.int p1), .val (.int p2), .val (.int p3), .val (.int p4), .val (.int p5), .val (.int p3), .val (.int (-1)), .val (.ref b21), .val (.int 0), .val (.int 0), .val (.int 1), .unset]) rfl k) ?_
        refine Go.st (fun t k => XS.aload X30.here hx rfl (hb hby at_95) rfl rfl k) ?_
        obtain ⟨cq31, kq31, q31a, q31b, q31c⟩ := isOf hZ e30 E_b21
        obtain ⟨_, _, ⟨T31, L31, k31, n31⟩, -, X31, ⟨Lc31, hQ31, l31, y31, z31⟩, st31⟩ := X30.virtualBack hx (y := (⟨"com/example/lectern/lectern/catalog/Franklin$Member", "emptied", "()Lcom/example/lectern/lectern/catalog/Franklin$Member;"⟩ : MethodName)) (z := (⟨"com/example/lectern/lectern/catalog/Franklin$Member", "emptied", "()Lcom/example/lectern/lectern/catalog/Franklin$Member;"⟩ : MethodName)) hown (mvT hZ (wd42 hw)) (mvT hZ (wd43 hw)) (notFace_of_selects (args := #[]) (mvT hZ (wd45 hw))) (mvT hZ (wd45 hw)) (mvT hZ (wd44 hw)) (by decide) (backOf (W := 0) (rm8 l Z a0 hw [] b21 (f1 p1 w_NORMAL w_INITIATOR w_PASSIVE w_LEADER) p2 h23 n0 Z0 F_b21_phase F_b21_leader) hZ (wd46 hw) (wd2 hw) (by decide) (by decide)) q31a q31c (g := (mkF m 97 #[.val (.int p1), .val (.int p2), .val (.int p3), .val (.int p4), .val (.int p5), .val (.int p3), .val (.int (-1)), .val (.ref b21), .val (.int 0), .val (.int 0), .val (.int 1), .unset] [(.ref b21)])) rfl (by rw [hml]; rfl) (Steps.refl _) (argsL := []) (rest := []) (lenOf pd5 rfl) rfl (by show 2 * 0 + _ ≤ _; exact Nat.le_of_eq rfl) (hb hby at_97) (fun _ _ => ⟨rfl, e30, (by decide : 1 + 1 ≤ _), (by decide : 4 + 4 ≤ _)⟩)
        dsimp only [Pt.U, Pt.locs, Pt.cells, Pt.slots] at X31 l31 y31 z31 st31 hQ31
        subst l31 y31 z31
        obtain ⟨h31, e31⟩ : ∃ z, T31.heap = z := ⟨_, rfl⟩
        rw [e31] at hQ31
        obtain ⟨x8_0_31, rfl, N31q, K31, ng_x8_0_31, sz0_x8_0_31, Q31_0, Q31_1, Q31_2, Q31_3, Q31_4⟩ := hQ31
        refine Go.tr st31 ?_
        have ne_w_NORMAL_x8_0_31 : w_NORMAL ≠ x8_0_31 := Nat.ne_of_lt (Nat.lt_of_lt_of_le E_w_NORMAL.lt sz0_x8_0_31)
        have ne_w_INITIATOR_x8_0_31 : w_INITIATOR ≠ x8_0_31 := Nat.ne_of_lt (Nat.lt_of_lt_of_le E_w_INITIATOR.lt sz0_x8_0_31)
        have ne_w_PASSIVE_x8_0_31 : w_PASSIVE ≠ x8_0_31 := Nat.ne_of_lt (Nat.lt_of_lt_of_le E_w_PASSIVE.lt sz0_x8_0_31)
        have ne_w_LEADER_x8_0_31 : w_LEADER ≠ x8_0_31 := Nat.ne_of_lt (Nat.lt_of_lt_of_le E_w_LEADER.lt sz0_x8_0_31)
        have ne_b21_x8_0_31 : b21 ≠ x8_0_31 := Nat.ne_of_lt (Nat.lt_of_lt_of_le E_b21.lt sz0_x8_0_31)
        have ne__f1_p1_w_NORMAL_w_INITIATOR_w_PASSIVE_w_LEADER__x8_0_31 : (f1 p1 w_NORMAL w_INITIATOR w_PASSIVE w_LEADER) ≠ x8_0_31 := Nat.ne_of_lt (Nat.lt_of_lt_of_le E22_r.lt sz0_x8_0_31)
        have g_x8_0_31 : n0 ≤ x8_0_31 := ng_x8_0_31
        have sz_x8_0_31 : h0.size ≤ x8_0_31 := Nat.le_trans K0.1 sz0_x8_0_31
        replace S_NORMAL := sta_keep S_NORMAL K31 all0
        replace E_w_NORMAL := E_w_NORMAL.keep K31
        replace S_INITIATOR := sta_keep S_INITIATOR K31 all0
        replace E_w_INITIATOR := E_w_INITIATOR.keep K31
        replace S_PASSIVE := sta_keep S_PASSIVE K31 all0
        replace E_w_PASSIVE := E_w_PASSIVE.keep K31
        replace S_LEADER := sta_keep S_LEADER K31 all0
        replace E_w_LEADER := E_w_LEADER.keep K31
        replace E_b21 := E_b21.keep K31
        replace E22_r := E22_r.keep K31
        replace F_b21_phase := F_b21_phase.keep K31 nin0
        replace F_b21_leader := F_b21_leader.keep K31 nin0
        replace F_b21_fromLeft := F_b21_fromLeft.keep K31 nin0
        replace F_b21_fromRight := F_b21_fromRight.keep K31 nin0
        replace Z0 := Nat.le_trans Z0 K31.1
        replace K0 := K0.trans K31 all0
        have E_x8_0_31 := Q31_0
        have F_x8_0_31_phase := Q31_1
        have F_x8_0_31_leader := Q31_2
        have F_x8_0_31_fromLeft := Q31_3
        have F_x8_0_31_fromRight := Q31_4
        have N31 := Fr.app N30 N31q
        show Go _ _ _ (T31.setTop (mkF m 100 #[.val (.int p1), .val (.int p2), .val (.int p3), .val (.int p4), .val (.int p5), .val (.int p3), .val (.int (-1)), .val (.ref b21), .val (.int 0), .val (.int 0), .val (.int 1), .unset] [(.ref x8_0_31)])) _
        obtain ⟨cq32, kq32, q32a, q32b, q32c⟩ := isOf hZ e31 E_x8_0_31
        obtain ⟨_, _, ⟨T32, L32, k32, n32⟩, -, X32, ⟨Lc32, hQ32, l32, y32, z32⟩, st32⟩ := X31.virtualBack hx (y := (⟨"com/example/lectern/lectern/catalog/Franklin$Member", "slotsFull", "()Z"⟩ : MethodName)) (z := (⟨"com/example/lectern/lectern/catalog/Franklin$Member", "slotsFull", "()Z"⟩ : MethodName)) hown (mvT hZ (wd29 hw)) (mvT hZ (wd30 hw)) (notFace_of_selects (args := #[]) (mvT hZ (wd32 hw))) (mvT hZ (wd32 hw)) (mvT hZ (wd31 hw)) (by decide) (backOf (W := 0) (rm5 l Z a0 hw [] x8_0_31 (-1 : Int32) (-1 : Int32) h31 n0 Z0 F_x8_0_31_fromLeft F_x8_0_31_fromRight) hZ (wd33 hw) (wd2 hw) (by decide) (by decide)) q32a q32c (g := (mkF m 100 #[.val (.int p1), .val (.int p2), .val (.int p3), .val (.int p4), .val (.int p5), .val (.int p3), .val (.int (-1)), .val (.ref b21), .val (.int 0), .val (.int 0), .val (.int 1), .unset] [(.ref x8_0_31)])) rfl (by rw [hml]; rfl) (Steps.refl _) (argsL := []) (rest := []) (lenOf pd3 rfl) rfl (by show 2 * 0 + _ ≤ _; exact Nat.le_of_eq rfl) (hb hby at_100) (fun _ _ => ⟨rfl, e31, (by decide : 2 + 0 ≤ _), (by decide : 8 + 0 ≤ _)⟩)
        dsimp only [Pt.U, Pt.locs, Pt.cells, Pt.slots] at X32 l32 y32 z32 st32 hQ32
        subst l32 y32 z32
        refine Go.tr st32 ?_
        obtain ⟨rfl, N32q, e32⟩ := hQ32
        have N32 := Fr.app N31 N32q
        show Go _ _ _ (T32.setTop (mkF m 103 #[.val (.int p1), .val (.int p2), .val (.int p3), .val (.int p4), .val (.int p5), .val (.int p3), .val (.int (-1)), .val (.ref b21), .val (.int 0), .val (.int 0), .val (.int 1), .unset] [(.int (f5 (-1 : Int32) (-1 : Int32)))])) _
        rw [show (f5 (-1 : Int32) (-1 : Int32)) = (0 : Int32) from by unfold f5; simp only [if_pos (by decide : (-1 : Int32) = (-1 : Int32)), if_true, if_false]]
        show Go _ _ _ (T32.setTop (mkF m 103 #[.val (.int p1), .val (.int p2), .val (.int p3), .val (.int p4), .val (.int p5), .val (.int p3), .val (.int (-1)), .val (.ref b21), .val (.int 0), .val (.int 0), .val (.int 1), .unset] [(.int 0)])) _
        refine Go.st (fun t k => XS.ifNo X32.here hx rfl (hb hby at_103) rfl ((if0 _ _).trans (teq (by decide : (0 : Int32) = (0 : Int32))).2) k) ?_
        show Go _ _ _ (T32.setTop (mkF m 106 #[.val (.int p1), .val (.int p2), .val (.int p3), .val (.int p4), .val (.int p5), .val (.int p3), .val (.int (-1)), .val (.ref b21), .val (.int 0), .val (.int 0), .val (.int 1), .unset] [])) _
        refine Go.st (fun t k => XS.iconst X32.here hx rfl (hb hby at_106) k) ?_
        refine Go.st (fun t k => XS.goto X32.here hx rfl (pc0 := 107) (pc' := 111) rfl (hb hby at_107) (by decide) (by decide) k) ?_
        refine Go.st (fun t k => XS.istore X32.here hx rfl (hb hby at_111) rfl (l' := #[.val (.int p1), .val (.int p2), .val (.int p3), .val (.int p4), .val (.int p5), .val (.int p3), .val (.int (-1)), .val (.ref b21), .val (.int 0), .val (.int 0), .val (.int 1), .val (.int 1)]) rfl k) ?_
        refine Go.st (fun t k => XS.iload X32.here hx rfl (hb hby at_113) rfl k) ?_
        refine Go.st (fun t k => XS.iload X32.here hx rfl (hb hby at_115) rfl k) ?_
        refine Go.st (fun t k => XS.icmpNo X32.here hx rfl (hb hby at_117) rfl (teq (by decide : (0 : Int32) = (0 : Int32))).2 k) ?_
        show Go _ _ _ (T32.setTop (mkF m 120 #[.val (.int p1), .val (.int p2), .val (.int p3), .val (.int p4), .val (.int p5), .val (.int p3), .val (.int (-1)), .val (.ref b21), .val (.int 0), .val (.int 0), .val (.int 1), .val (.int 1)] [])) _
        refine Go.st (fun t k => XS.iload X32.here hx rfl (hb hby at_120) rfl k) ?_
        refine Go.st (fun t k => XS.ifNo X32.here hx rfl (hb hby at_122) rfl ((if0 _ _).trans (feq (by decide : ¬ ((1 : Int32) = (0 : Int32)))).1) k) ?_
        show Go _ _ _ (T32.setTop (mkF m 125 #[.val (.int p1), .val (.int p2), .val (.int p3), .val (.int p4), .val (.int p5), .val (.int p3), .val (.int (-1)), .val (.ref b21), .val (.int 0), .val (.int 0), .val (.int 1), .val (.int 1)] [])) _
        refine Go.st (fun t k => XS.iload X32.here hx rfl (hb hby at_125) rfl k) ?_
        refine Go.st (fun t k => XS.ifNo X32.here hx rfl (hb hby at_127) rfl ((if0 _ _).trans (feq (by decide : ¬ ((1 : Int32) = (0 : Int32)))).1) k) ?_
        show Go _ _ _ (T32.setTop (mkF m 130 #[.val (.int p1), .val (.int p2), .val (.int p3), .val (.int p4), .val (.int p5), .val (.int p3), .val (.int (-1)), .val (.ref b21), .val (.int 0), .val (.int 0), .val (.int 1), .val (.int 1)] [])) _
        refine Go.st (fun t k => XS.iconst X32.here hx rfl (hb hby at_130) k) ?_
        refine Go.st (fun t k => XS.goto X32.here hx rfl (pc0 := 131) (pc' := 135) rfl (hb hby at_131) (by decide) (by decide) k) ?_
        obtain ⟨fs, hr, hrun, hended, hW, hsame⟩ := X32.leave (v := some (.int (1 : Int32))) (fun h => by rw [Bd.returns] at h; cases h)
        refine Go.fin (retN X32 hx (t := .boolean) Bd.returns (by simp) (hb hby at_135) hr) hrun hended ⟨_, _, rfl, ?_, ⟨_, rfl⟩, hW, hsame.mono (by decide) (by decide)⟩
        show Q0 Z p1 p2 p3 p4 p5 w_NORMAL w_INITIATOR w_PASSIVE w_LEADER h0 n0 _ T32.heap _
        rw [e32]
        exact ⟨rfl, N32⟩
  · refine Go.st (fun t k => XS.ifNo X0.here hx rfl (hb hby at_4) rfl ((if0 _ _).trans (feq hc1).1) k) ?_
    show Go _ _ _ (s₁.setTop (mkF m 7 #[.val (.int p1), .val (.int p2), .val (.int p3), .val (.int p4), .val (.int p5), .unset, .unset, .unset, .unset, .unset, .unset, .unset] [])) _
    refine Go.st (fun t k => XS.iconst X0.here hx rfl (hb hby at_7) k) ?_
    refine Go.st (fun t k => XS.goto X0.here hx rfl (pc0 := 8) (pc' := 12) rfl (hb hby at_8) (by decide) (by decide) k) ?_
    refine Go.st (fun t k => XS.istore X0.here hx rfl (hb hby at_12) rfl (l' := #[.val (.int p1), .val (.int p2), .val (.int p3), .val (.int p4), .val (.int p5), .val (.int (-1)), .unset, .unset, .unset, .unset, .unset, .unset]) rfl k) ?_
    refine Go.st (fun t k => XS.iload X0.here hx rfl (hb hby at_14) rfl k) ?_
    refine Go.st (fun t k => XS.iconst X0.here hx rfl (hb hby at_16) k) ?_
    refine Go.st (fun t k => XS.iand X0.here hx rfl (hb hby at_17) rfl k) ?_
    show Go _ _ _ (s₁.setTop (mkF m 18 #[.val (.int p1), .val (.int p2), .val (.int p3), .val (.int p4), .val (.int p5), .val (.int (-1)), .unset, .unset, .unset, .unset, .unset, .unset] [(.int (p5 &&& (2 : Int32)))])) _
    by_cases hc33 : (p5 &&& (2 : Int32)) = (0 : Int32)
    · refine Go.st (fun t k => XS.ifYes X0.here hx rfl (pc0 := 18) (pc' := 25) rfl (hb hby at_18) rfl ((if0 _ _).trans (teq hc33).1) (by decide) (by decide) k) ?_
      show Go _ _ _ (s₁.setTop (mkF m 25 #[.val (.int p1), .val (.int p2), .val (.int p3), .val (.int p4), .val (.int p5), .val (.int (-1)), .unset, .unset, .unset, .unset, .unset, .unset] [])) _
      refine Go.st (fun t k => XS.iloadN X0.here hx rfl (hb hby at_25) rfl k) ?_
      refine Go.st (fun t k => XS.istore X0.here hx rfl (hb hby at_26) rfl (l' := #[.val (.int p1), .val (.int p2), .val (.int p3), .val (.int p4), .val (.int p5), .val (.int (-1)), .val (.int p4), .unset, .unset, .unset, .unset, .unset]) rfl k) ?_
      obtain ⟨T34, h34, X34, e34, E34, A34, D34, -, st34⟩ := newO X0 hx hZ hown (wd0 hw) (wd1 hw) (wd2 hw) e0 (g := (mkF m 28 #[.val (.int p1), .val (.int p2), .val (.int p3), .val (.int p4), .val (.int p5), .val (.int (-1)), .val (.int p4), .unset, .unset, .unset, .unset, .unset] [])) rfl (hb hby at_28) (by decide) (by decide)
      obtain ⟨b34, g34⟩ : ∃ z, z = h0.size := ⟨_, rfl⟩
      rw [← g34] at A34 D34 st34
      refine Go.st st34 ?_
      have ne_w_NORMAL_b34 : w_NORMAL ≠ b34 := Nat.ne_of_lt (Nat.lt_of_lt_of_le E_w_NORMAL.lt (Nat.le_of_eq g34.symm))
      have ne_w_INITIATOR_b34 : w_INITIATOR ≠ b34 := Nat.ne_of_lt (Nat.lt_of_lt_of_le E_w_INITIATOR.lt (Nat.le_of_eq g34.symm))
      have ne_w_PASSIVE_b34 : w_PASSIVE ≠ b34 := Nat.ne_of_lt (Nat.lt_of_lt_of_le E_w_PASSIVE.lt (Nat.le_of_eq g34.symm))
      have ne_w_LEADER_b34 : w_LEADER ≠ b34 := Nat.ne_of_lt (Nat.lt_of_lt_of_le E_w_LEADER.lt (Nat.le_of_eq g34.symm))
      have g_b34 : n0 ≤ b34 := Nat.le_trans Z0 (Nat.le_of_eq g34.symm)
      have sz_b34 : h0.size ≤ b34 := Nat.le_trans K0.1 (Nat.le_of_eq g34.symm)
      replace S_NORMAL := S_NORMAL.ext E34
      replace E_w_NORMAL := E_w_NORMAL.ext E34
      replace S_INITIATOR := S_INITIATOR.ext E34
      replace E_w_INITIATOR := E_w_INITIATOR.ext E34
      replace S_PASSIVE := S_PASSIVE.ext E34
      replace E_w_PASSIVE := E_w_PASSIVE.ext E34
      replace S_LEADER := S_LEADER.ext E34
      replace E_w_LEADER := E_w_LEADER.ext E34
      replace K0 := K0.ext E34
      replace Z0 := Nat.le_trans Z0 E34.1
      have E_b34 := A34
      have F_b34_phase : Fld Z h34 b34 "com/example/lectern/lectern/catalog/Franklin$Member" "phase" "Lcom/example/lectern/lectern/catalog/Franklin$Phase;" .null := D34 (Or.inr (wd22 hw)) (ty := (.object "com/example/lectern/lectern/catalog/Franklin$Phase")) (by decide)
      have F_b34_leader : Fld Z h34 b34 "com/example/lectern/lectern/catalog/Franklin$Member" "leader" "I" (.int (0 : Int32)) := D34 (Or.inr (wd24 hw)) (ty := .int) (by decide)
      have F_b34_fromLeft : Fld Z h34 b34 "com/example/lectern/lectern/catalog/Franklin$Member" "fromLeft" "I" (.int (0 : Int32)) := D34 (Or.inr (wd26 hw)) (ty := .int) (by decide)
      have F_b34_fromRight : Fld Z h34 b34 "com/example/lectern/lectern/catalog/Franklin$Member" "fromRight" "I" (.int (0 : Int32)) := D34 (Or.inr (wd28 hw)) (ty := .int) (by decide)
      show Go _ _ _ (T34.setTop (mkF m 31 #[.val (.int p1), .val (.int p2), .val (.int p3), .val (.int p4), .val (.int p5), .val (.int (-1)), .val (.int p4), .unset, .unset, .unset, .unset, .unset] [(.ref b34)])) _
      refine Go.st (fun t k => XS.dup X34.here hx rfl (hb hby at_31) rfl rfl k) ?_
      refine Go.st (fun t k => XS.iloadN X34.here hx rfl (hb hby at_32) rfl k) ?_
      obtain ⟨_, _, ⟨T35, L35, k35, n35⟩, -, X35, ⟨Lc35, hQ35, l35, y35, z35⟩, st35⟩ := Jvm.LawKit.callS X34 hx (y := (⟨"com/example/lectern/lectern/catalog/MemberSlotsFullPinLaw", "phase", "(I)Lcom/example/lectern/lectern/catalog/Franklin$Phase;"⟩ : MethodName)) hown (mvT hZ (wd3 hw)) (mvT hZ (wd4 hw)) (mvT hZ (wd5 hw)) (mvT hZ (wd6 hw)) (by decide) (backOf (W := 2) (rm1 l Z a0 hw [] p1 w_NORMAL w_INITIATOR w_PASSIVE w_LEADER h34 n0 Z0 S_NORMAL E_w_NORMAL S_INITIATOR E_w_INITIATOR S_PASSIVE E_w_PASSIVE S_LEADER E_w_LEADER) hZ (wd6 hw) (wd5 hw) (by decide) (by decide)) (g := (mkF m 33 #[.val (.int p1), .val (.int p2), .val (.int p3), .val (.int p4), .val (.int p5), .val (.int (-1)), .val (.int p4), .unset, .unset, .unset, .unset, .unset] [(.int p1), (.ref b34), (.ref b34)])) rfl (by rw [hml]; rfl) (argsL := [(.int p1)]) (rest := [(.ref b34), (.ref b34)]) (lenOf pd2 rfl) rfl (by show 2 * 0 + _ ≤ _; exact Nat.le_of_eq rfl) (hb hby at_33) (fun _ _ => ⟨rfl, e34, (by decide : 1 + 0 ≤ _), (by decide : 4 + 0 ≤ _)⟩)
      dsimp only [Pt.U, Pt.locs, Pt.cells, Pt.slots] at X35 l35 y35 z35 st35 hQ35
      subst l35 y35 z35
      refine Go.st st35 ?_
      obtain ⟨rfl, N35q, e35, E35_r⟩ := hQ35
      have N35 := Fr.app N0 N35q
      rw [e35] at E35_r
      show Go _ _ _ (T35.setTop (mkF m 36 #[.val (.int p1), .val (.int p2), .val (.int p3), .val (.int p4), .val (.int p5), .val (.int (-1)), .val (.int p4), .unset, .unset, .unset, .unset, .unset] [(.ref (f1 p1 w_NORMAL w_INITIATOR w_PASSIVE w_LEADER)), (.ref b34), (.ref b34)])) _
      refine Go.st (fun t k => XS.iloadN X35.here hx rfl (hb hby at_36) rfl k) ?_
      refine Go.st (fun t k => XS.iload X35.here hx rfl (hb hby at_37) rfl k) ?_
      refine Go.st (fun t k => XS.iload X35.here hx rfl (hb hby at_39) rfl k) ?_
      obtain ⟨_, _, ⟨T36, L36, k36, n36⟩, -, X36, ⟨Lc36, hQ36, l36, y36, z36⟩, st36⟩ := X35.specialBack hx (y := (⟨"com/example/lectern/lectern/catalog/Franklin$Member", "<init>", "(Lcom/example/lectern/lectern/catalog/Franklin$Phase;III)V"⟩ : MethodName)) rfl hown (mvT hZ (wd10 hw)) (mvT hZ (wd11 hw)) (mvT hZ (wd12 hw)) (by decide) (backOf (W := 1) (rm2 l Z a0 hw [] b34 (f1 p1 w_NORMAL w_INITIATOR w_PASSIVE w_LEADER) p2 (-1 : Int32) p4 (.null : Value) ((.int (0 : Int32)) : Value) ((.int (0 : Int32)) : Value) ((.int (0 : Int32)) : Value) h34 n0 Z0 E_b34 F_b34_phase F_b34_leader F_b34_fromLeft F_b34_fromRight g_b34) hZ (wd12 hw) (wd2 hw) (by decide) (by decide)) (g := (mkF m 41 #[.val (.int p1), .val (.int p2), .val (.int p3), .val (.int p4), .val (.int p5), .val (.int (-1)), .val (.int p4), .unset, .unset, .unset, .unset, .unset] [(.int p4), (.int (-1)), (.int p2), (.ref (f1 p1 w_NORMAL w_INITIATOR w_PASSIVE w_LEADER)), (.ref b34), (.ref b34)])) rfl (by rw [hml]; rfl) (Steps.refl _) (a := b34) (argsL := [(.ref (f1 p1 w_NORMAL w_INITIATOR w_PASSIVE w_LEADER)), (.int p2), (.int (-1 : Int32)), (.int p4)]) (rest := [(.ref b34)]) (lenOf pd1 rfl) rfl (by show 2 * 0 + _ ≤ _; exact Nat.le_of_eq rfl) (hb hby at_41) (fun _ _ => ⟨rfl, e35, (by decide : 1 + 0 ≤ _), (by decide : 4 + 0 ≤ _)⟩)
      dsimp only [Pt.U, Pt.locs, Pt.cells, Pt.slots] at X36 l36 y36 z36 st36 hQ36
      subst l36 y36 z36
      refine Go.tr st36 ?_
      have E_b34_pre := E_b34
      have F_b34_phase_pre := F_b34_phase
      have F_b34_leader_pre := F_b34_leader
      have F_b34_fromLeft_pre := F_b34_fromLeft
      have F_b34_fromRight_pre := F_b34_fromRight
      obtain ⟨h36, e36⟩ : ∃ z, T36.heap = z := ⟨_, rfl⟩
      rw [e36] at hQ36
      obtain ⟨rfl, N36q, K36, Q36_0, Q36_1, Q36_2, Q36_3, Q36_4⟩ := hQ36
      replace S_NORMAL := sta_keep S_NORMAL K36 (allS (exa_ns E_b34_pre) all0)
      replace E_w_NORMAL := E_w_NORMAL.keep K36
      replace S_INITIATOR := sta_keep S_INITIATOR K36 (allS (exa_ns E_b34_pre) all0)
      replace E_w_INITIATOR := E_w_INITIATOR.keep K36
      replace S_PASSIVE := sta_keep S_PASSIVE K36 (allS (exa_ns E_b34_pre) all0)
      replace E_w_PASSIVE := E_w_PASSIVE.keep K36
      replace S_LEADER := sta_keep S_LEADER K36 (allS (exa_ns E_b34_pre) all0)
      replace E_w_LEADER := E_w_LEADER.keep K36
      replace E_b34 := E_b34.keep K36
      replace E35_r := E35_r.keep K36
      replace Z0 := Nat.le_trans Z0 K36.1
      replace K0 := K0.trans K36 (allS (Or.inr sz_b34) all0)
      have E_b34 := Q36_0
      have F_b34_phase := Q36_1
      have F_b34_leader := Q36_2
      have F_b34_fromLeft := Q36_3
      have F_b34_fromRight := Q36_4
      have N36 := Fr.app N35 N36q
      show Go _ _ _ (T36.setTop (mkF m 44 #[.val (.int p1), .val (.int p2), .val (.int p3), .val (.int p4), .val (.int p5), .val (.int (-1)), .val (.int p4), .unset, .unset, .unset, .unset, .unset] [(.ref b34)])) _
      refine Go.st (fun t k => XS.astore X36.here hx rfl (hb hby at_44) rfl rfl (l' := #[.val (.int p1), .val (.int p2), .val (.int p3), .val (.int p4), .val (.int p5), .val (.int (-1)), .val (.int p4), .val (.ref b34), .unset, .unset, .unset, .unset]) rfl k) ?_
      refine Go.st (fun t k => XS.aload X36.here hx rfl (hb hby at_46) rfl rfl k) ?_
      obtain ⟨cq37, kq37, q37a, q37b, q37c⟩ := isOf hZ e36 E_b34
      obtain ⟨_, _, ⟨T37, L37, k37, n37⟩, -, X37, ⟨Lc37, hQ37, l37, y37, z37⟩, st37⟩ := X36.virtualBack hx (y := (⟨"com/example/lectern/lectern/catalog/Franklin$Member", "slotsFull", "()Z"⟩ : MethodName)) (z := (⟨"com/example/lectern/lectern/catalog/Franklin$Member", "slotsFull", "()Z"⟩ : MethodName)) hown (mvT hZ (wd29 hw)) (mvT hZ (wd30 hw)) (notFace_of_selects (args := #[]) (mvT hZ (wd32 hw))) (mvT hZ (wd32 hw)) (mvT hZ (wd31 hw)) (by decide) (backOf (W := 0) (rm5 l Z a0 hw [] b34 (-1 : Int32) p4 h36 n0 Z0 F_b34_fromLeft F_b34_fromRight) hZ (wd33 hw) (wd2 hw) (by decide) (by decide)) q37a q37c (g := (mkF m 48 #[.val (.int p1), .val (.int p2), .val (.int p3), .val (.int p4), .val (.int p5), .val (.int (-1)), .val (.int p4), .val (.ref b34), .unset, .unset, .unset, .unset] [(.ref b34)])) rfl (by rw [hml]; rfl) (Steps.refl _) (argsL := []) (rest := []) (lenOf pd3 rfl) rfl (by show 2 * 0 + _ ≤ _; exact Nat.le_of_eq rfl) (hb hby at_48) (fun _ _ => ⟨rfl, e36, (by decide : 1 + 0 ≤ _), (by decide : 4 + 0 ≤ _)⟩)
      dsimp only [Pt.U, Pt.locs, Pt.cells, Pt.slots] at X37 l37 y37 z37 st37 hQ37
      subst l37 y37 z37
      refine Go.tr st37 ?_
      obtain ⟨rfl, N37q, e37⟩ := hQ37
      have N37 := Fr.app N36 N37q
      show Go _ _ _ (T37.setTop (mkF m 51 #[.val (.int p1), .val (.int p2), .val (.int p3), .val (.int p4), .val (.int p5), .val (.int (-1)), .val (.int p4), .val (.ref b34), .unset, .unset, .unset, .unset] [(.int (f5 (-1 : Int32) p4))])) _
      rw [show (f5 (-1 : Int32) p4) = (0 : Int32) from by unfold f5; simp only [if_pos (by decide : (-1 : Int32) = (-1 : Int32)), if_true, if_false]]
      show Go _ _ _ (T37.setTop (mkF m 51 #[.val (.int p1), .val (.int p2), .val (.int p3), .val (.int p4), .val (.int p5), .val (.int (-1)), .val (.int p4), .val (.ref b34), .unset, .unset, .unset, .unset] [(.int 0)])) _
      refine Go.st (fun t k => XS.istore X37.here hx rfl (hb hby at_51) rfl (l' := #[.val (.int p1), .val (.int p2), .val (.int p3), .val (.int p4), .val (.int p5), .val (.int (-1)), .val (.int p4), .val (.ref b34), .val (.int 0), .unset, .unset, .unset]) rfl k) ?_
      refine Go.st (fun t k => XS.iconst X37.here hx rfl (hb hby at_53) k) ?_
      refine Go.st (fun t k => XS.istore X37.here hx rfl (hb hby at_54) rfl (l' := #[.val (.int p1), .val (.int p2), .val (.int p3), .val (.int p4), .val (.int p5), .val (.int (-1)), .val (.int p4), .val (.ref b34), .val (.int 0), .val (.int 0), .unset, .unset]) rfl k) ?_
      refine Go.st (fun t k => XS.iload X37.here hx rfl (hb hby at_56) rfl k) ?_
      obtain ⟨_, _, ⟨T38, L38, k38, n38⟩, -, X38, ⟨Lc38, hQ38, l38, y38, z38⟩, st38⟩ := Jvm.LawKit.callS X37 hx (y := (⟨"com/example/lectern/lectern/catalog/MemberSlotsFullPinLaw", "holdsId", "(I)Z"⟩ : MethodName)) hown (mvT hZ (wd34 hw)) (mvT hZ (wd35 hw)) (mvT hZ (wd5 hw)) (mvT hZ (wd36 hw)) (by decide) (backOf (W := 0) (rm6 l Z a0 hw [] (-1 : Int32) h36 n0 Z0) hZ (wd36 hw) (wd5 hw) (by decide) (by decide)) (g := (mkF m 58 #[.val (.int p1), .val (.int p2), .val (.int p3), .val (.int p4), .val (.int p5), .val (.int (-1)), .val (.int p4), .val (.ref b34), .val (.int 0), .val (.int 0), .unset, .unset] [(.int (-1))])) rfl (by rw [hml]; rfl) (argsL := [(.int (-1 : Int32))]) (rest := []) (lenOf pd4 rfl) rfl (by show 2 * 0 + _ ≤ _; exact Nat.le_of_eq rfl) (hb hby at_58) (fun _ _ => ⟨rfl, e37, (by decide : 1 + 0 ≤ _), (by decide : 4 + 0 ≤ _)⟩)
      dsimp only [Pt.U, Pt.locs, Pt.cells, Pt.slots] at X38 l38 y38 z38 st38 hQ38
      subst l38 y38 z38
      refine Go.st st38 ?_
      obtain ⟨rfl, N38q, e38⟩ := hQ38
      have N38 := Fr.app N37 N38q
      show Go _ _ _ (T38.setTop (mkF m 61 #[.val (.int p1), .val (.int p2), .val (.int p3), .val (.int p4), .val (.int p5), .val (.int (-1)), .val (.int p4), .val (.ref b34), .val (.int 0), .val (.int 0), .unset, .unset] [(.int (f6 (-1 : Int32)))])) _
      rw [show (f6 (-1 : Int32)) = (0 : Int32) from by unfold f6; simp only [if_pos (by decide : (-1 : Int32) = (-1 : Int32)), if_true, if_false]]
      show Go _ _ _ (T38.setTop (mkF m 61 #[.val (.int p1), .val (.int p2), .val (.int p3), .val (.int p4), .val (.int p5), .val (.int (-1)), .val (.int p4), .val (.ref b34), .val (.int 0), .val (.int 0), .unset, .unset] [(.int 0)])) _
      refine Go.st (fun t k => XS.ifYes X38.here hx rfl (pc0 := 61) (pc' := 75) rfl (hb hby at_61) rfl ((if0 _ _).trans (teq (by decide : (0 : Int32) = (0 : Int32))).1) (by decide) (by decide) k) ?_
      show Go _ _ _ (T38.setTop (mkF m 75 #[.val (.int p1), .val (.int p2), .val (.int p3), .val (.int p4), .val (.int p5), .val (.int (-1)), .val (.int p4), .val (.ref b34), .val (.int 0), .val (.int 0), .unset, .unset] [])) _
      refine Go.st (fun t k => XS.iload X38.here hx rfl (hb hby at_75) rfl k) ?_
      refine Go.st (fun t k => XS.ifYes X38.here hx rfl (pc0 := 77) (pc' := 88) rfl (hb hby at_77) rfl ((if0 _ _).trans (teq (by decide : (0 : Int32) = (0 : Int32))).1) (by decide) (by decide) k) ?_
      show Go _ _ _ (T38.setTop (mkF m 88 #[.val (.int p1), .val (.int p2), .val (.int p3), .val (.int p4), .val (.int p5), .val (.int (-1)), .val (.int p4), .val (.ref b34), .val (.int 0), .val (.int 0), .unset, .unset] [])) _
      refine Go.st (fun t k => XS.iconst X38.here hx rfl (hb hby at_88) k) ?_
      refine Go.st (fun t k => XS.goto X38.here hx rfl (pc0 := 89) (pc' := 93) rfl (hb hby at_89) (by decide) (by decide) k) ?_
      refine Go.st (fun t k => XS.istore X38.here hx rfl (hb hby at_93) rfl (l' := #[.val (.int p1), .val (.int p2), .val (.int p3), .val (.int p4), .val (.int p5), .val (.int (-1)), .val (.int p4), .val (.ref b34), .val (.int 0), .val (.int 0), .val (.int 1), .unset]) rfl k) ?_
      refine Go.st (fun t k => XS.aload X38.here hx rfl (hb hby at_95) rfl rfl k) ?_
      obtain ⟨cq39, kq39, q39a, q39b, q39c⟩ := isOf hZ e38 E_b34
      obtain ⟨_, _, ⟨T39, L39, k39, n39⟩, -, X39, ⟨Lc39, hQ39, l39, y39, z39⟩, st39⟩ := X38.virtualBack hx (y := (⟨"com/example/lectern/lectern/catalog/Franklin$Member", "emptied", "()Lcom/example/lectern/lectern/catalog/Franklin$Member;"⟩ : MethodName)) (z := (⟨"com/example/lectern/lectern/catalog/Franklin$Member", "emptied", "()Lcom/example/lectern/lectern/catalog/Franklin$Member;"⟩ : MethodName)) hown (mvT hZ (wd42 hw)) (mvT hZ (wd43 hw)) (notFace_of_selects (args := #[]) (mvT hZ (wd45 hw))) (mvT hZ (wd45 hw)) (mvT hZ (wd44 hw)) (by decide) (backOf (W := 0) (rm8 l Z a0 hw [] b34 (f1 p1 w_NORMAL w_INITIATOR w_PASSIVE w_LEADER) p2 h36 n0 Z0 F_b34_phase F_b34_leader) hZ (wd46 hw) (wd2 hw) (by decide) (by decide)) q39a q39c (g := (mkF m 97 #[.val (.int p1), .val (.int p2), .val (.int p3), .val (.int p4), .val (.int p5), .val (.int (-1)), .val (.int p4), .val (.ref b34), .val (.int 0), .val (.int 0), .val (.int 1), .unset] [(.ref b34)])) rfl (by rw [hml]; rfl) (Steps.refl _) (argsL := []) (rest := []) (lenOf pd5 rfl) rfl (by show 2 * 0 + _ ≤ _; exact Nat.le_of_eq rfl) (hb hby at_97) (fun _ _ => ⟨rfl, e38, (by decide : 1 + 1 ≤ _), (by decide : 4 + 4 ≤ _)⟩)
      dsimp only [Pt.U, Pt.locs, Pt.cells, Pt.slots] at X39 l39 y39 z39 st39 hQ39
      subst l39 y39 z39
      obtain ⟨h39, e39⟩ : ∃ z, T39.heap = z := ⟨_, rfl⟩
      rw [e39] at hQ39
      obtain ⟨x8_0_39, rfl, N39q, K39, ng_x8_0_39, sz0_x8_0_39, Q39_0, Q39_1, Q39_2, Q39_3, Q39_4⟩ := hQ39
      refine Go.tr st39 ?_
      have ne_w_NORMAL_x8_0_39 : w_NORMAL ≠ x8_0_39 := Nat.ne_of_lt (Nat.lt_of_lt_of_le E_w_NORMAL.lt sz0_x8_0_39)
      have ne_w_INITIATOR_x8_0_39 : w_INITIATOR ≠ x8_0_39 := Nat.ne_of_lt (Nat.lt_of_lt_of_le E_w_INITIATOR.lt sz0_x8_0_39)
      have ne_w_PASSIVE_x8_0_39 : w_PASSIVE ≠ x8_0_39 := Nat.ne_of_lt (Nat.lt_of_lt_of_le E_w_PASSIVE.lt sz0_x8_0_39)
      have ne_w_LEADER_x8_0_39 : w_LEADER ≠ x8_0_39 := Nat.ne_of_lt (Nat.lt_of_lt_of_le E_w_LEADER.lt sz0_x8_0_39)
      have ne_b34_x8_0_39 : b34 ≠ x8_0_39 := Nat.ne_of_lt (Nat.lt_of_lt_of_le E_b34.lt sz0_x8_0_39)
      have ne__f1_p1_w_NORMAL_w_INITIATOR_w_PASSIVE_w_LEADER__x8_0_39 : (f1 p1 w_NORMAL w_INITIATOR w_PASSIVE w_LEADER) ≠ x8_0_39 := Nat.ne_of_lt (Nat.lt_of_lt_of_le E35_r.lt sz0_x8_0_39)
      have g_x8_0_39 : n0 ≤ x8_0_39 := ng_x8_0_39
      have sz_x8_0_39 : h0.size ≤ x8_0_39 := Nat.le_trans K0.1 sz0_x8_0_39
      replace S_NORMAL := sta_keep S_NORMAL K39 all0
      replace E_w_NORMAL := E_w_NORMAL.keep K39
      replace S_INITIATOR := sta_keep S_INITIATOR K39 all0
      replace E_w_INITIATOR := E_w_INITIATOR.keep K39
      replace S_PASSIVE := sta_keep S_PASSIVE K39 all0
      replace E_w_PASSIVE := E_w_PASSIVE.keep K39
      replace S_LEADER := sta_keep S_LEADER K39 all0
      replace E_w_LEADER := E_w_LEADER.keep K39
      replace E_b34 := E_b34.keep K39
      replace E35_r := E35_r.keep K39
      replace F_b34_phase := F_b34_phase.keep K39 nin0
      replace F_b34_leader := F_b34_leader.keep K39 nin0
      replace F_b34_fromLeft := F_b34_fromLeft.keep K39 nin0
      replace F_b34_fromRight := F_b34_fromRight.keep K39 nin0
      replace Z0 := Nat.le_trans Z0 K39.1
      replace K0 := K0.trans K39 all0
      have E_x8_0_39 := Q39_0
      have F_x8_0_39_phase := Q39_1
      have F_x8_0_39_leader := Q39_2
      have F_x8_0_39_fromLeft := Q39_3
      have F_x8_0_39_fromRight := Q39_4
      have N39 := Fr.app N38 N39q
      show Go _ _ _ (T39.setTop (mkF m 100 #[.val (.int p1), .val (.int p2), .val (.int p3), .val (.int p4), .val (.int p5), .val (.int (-1)), .val (.int p4), .val (.ref b34), .val (.int 0), .val (.int 0), .val (.int 1), .unset] [(.ref x8_0_39)])) _
      obtain ⟨cq40, kq40, q40a, q40b, q40c⟩ := isOf hZ e39 E_x8_0_39
      obtain ⟨_, _, ⟨T40, L40, k40, n40⟩, -, X40, ⟨Lc40, hQ40, l40, y40, z40⟩, st40⟩ := X39.virtualBack hx (y := (⟨"com/example/lectern/lectern/catalog/Franklin$Member", "slotsFull", "()Z"⟩ : MethodName)) (z := (⟨"com/example/lectern/lectern/catalog/Franklin$Member", "slotsFull", "()Z"⟩ : MethodName)) hown (mvT hZ (wd29 hw)) (mvT hZ (wd30 hw)) (notFace_of_selects (args := #[]) (mvT hZ (wd32 hw))) (mvT hZ (wd32 hw)) (mvT hZ (wd31 hw)) (by decide) (backOf (W := 0) (rm5 l Z a0 hw [] x8_0_39 (-1 : Int32) (-1 : Int32) h39 n0 Z0 F_x8_0_39_fromLeft F_x8_0_39_fromRight) hZ (wd33 hw) (wd2 hw) (by decide) (by decide)) q40a q40c (g := (mkF m 100 #[.val (.int p1), .val (.int p2), .val (.int p3), .val (.int p4), .val (.int p5), .val (.int (-1)), .val (.int p4), .val (.ref b34), .val (.int 0), .val (.int 0), .val (.int 1), .unset] [(.ref x8_0_39)])) rfl (by rw [hml]; rfl) (Steps.refl _) (argsL := []) (rest := []) (lenOf pd3 rfl) rfl (by show 2 * 0 + _ ≤ _; exact Nat.le_of_eq rfl) (hb hby at_100) (fun _ _ => ⟨rfl, e39, (by decide : 2 + 0 ≤ _), (by decide : 8 + 0 ≤ _)⟩)
      dsimp only [Pt.U, Pt.locs, Pt.cells, Pt.slots] at X40 l40 y40 z40 st40 hQ40
      subst l40 y40 z40
      refine Go.tr st40 ?_
      obtain ⟨rfl, N40q, e40⟩ := hQ40
      have N40 := Fr.app N39 N40q
      show Go _ _ _ (T40.setTop (mkF m 103 #[.val (.int p1), .val (.int p2), .val (.int p3), .val (.int p4), .val (.int p5), .val (.int (-1)), .val (.int p4), .val (.ref b34), .val (.int 0), .val (.int 0), .val (.int 1), .unset] [(.int (f5 (-1 : Int32) (-1 : Int32)))])) _
      rw [show (f5 (-1 : Int32) (-1 : Int32)) = (0 : Int32) from by unfold f5; simp only [if_pos (by decide : (-1 : Int32) = (-1 : Int32)), if_true, if_false]]
      show Go _ _ _ (T40.setTop (mkF m 103 #[.val (.int p1), .val (.int p2), .val (.int p3), .val (.int p4), .val (.int p5), .val (.int (-1)), .val (.int p4), .val (.ref b34), .val (.int 0), .val (.int 0), .val (.int 1), .unset] [(.int 0)])) _
      refine Go.st (fun t k => XS.ifNo X40.here hx rfl (hb hby at_103) rfl ((if0 _ _).trans (teq (by decide : (0 : Int32) = (0 : Int32))).2) k) ?_
      show Go _ _ _ (T40.setTop (mkF m 106 #[.val (.int p1), .val (.int p2), .val (.int p3), .val (.int p4), .val (.int p5), .val (.int (-1)), .val (.int p4), .val (.ref b34), .val (.int 0), .val (.int 0), .val (.int 1), .unset] [])) _
      refine Go.st (fun t k => XS.iconst X40.here hx rfl (hb hby at_106) k) ?_
      refine Go.st (fun t k => XS.goto X40.here hx rfl (pc0 := 107) (pc' := 111) rfl (hb hby at_107) (by decide) (by decide) k) ?_
      refine Go.st (fun t k => XS.istore X40.here hx rfl (hb hby at_111) rfl (l' := #[.val (.int p1), .val (.int p2), .val (.int p3), .val (.int p4), .val (.int p5), .val (.int (-1)), .val (.int p4), .val (.ref b34), .val (.int 0), .val (.int 0), .val (.int 1), .val (.int 1)]) rfl k) ?_
      refine Go.st (fun t k => XS.iload X40.here hx rfl (hb hby at_113) rfl k) ?_
      refine Go.st (fun t k => XS.iload X40.here hx rfl (hb hby at_115) rfl k) ?_
      refine Go.st (fun t k => XS.icmpNo X40.here hx rfl (hb hby at_117) rfl (teq (by decide : (0 : Int32) = (0 : Int32))).2 k) ?_
      show Go _ _ _ (T40.setTop (mkF m 120 #[.val (.int p1), .val (.int p2), .val (.int p3), .val (.int p4), .val (.int p5), .val (.int (-1)), .val (.int p4), .val (.ref b34), .val (.int 0), .val (.int 0), .val (.int 1), .val (.int 1)] [])) _
      refine Go.st (fun t k => XS.iload X40.here hx rfl (hb hby at_120) rfl k) ?_
      refine Go.st (fun t k => XS.ifNo X40.here hx rfl (hb hby at_122) rfl ((if0 _ _).trans (feq (by decide : ¬ ((1 : Int32) = (0 : Int32)))).1) k) ?_
      show Go _ _ _ (T40.setTop (mkF m 125 #[.val (.int p1), .val (.int p2), .val (.int p3), .val (.int p4), .val (.int p5), .val (.int (-1)), .val (.int p4), .val (.ref b34), .val (.int 0), .val (.int 0), .val (.int 1), .val (.int 1)] [])) _
      refine Go.st (fun t k => XS.iload X40.here hx rfl (hb hby at_125) rfl k) ?_
      refine Go.st (fun t k => XS.ifNo X40.here hx rfl (hb hby at_127) rfl ((if0 _ _).trans (feq (by decide : ¬ ((1 : Int32) = (0 : Int32)))).1) k) ?_
      show Go _ _ _ (T40.setTop (mkF m 130 #[.val (.int p1), .val (.int p2), .val (.int p3), .val (.int p4), .val (.int p5), .val (.int (-1)), .val (.int p4), .val (.ref b34), .val (.int 0), .val (.int 0), .val (.int 1), .val (.int 1)] [])) _
      refine Go.st (fun t k => XS.iconst X40.here hx rfl (hb hby at_130) k) ?_
      refine Go.st (fun t k => XS.goto X40.here hx rfl (pc0 := 131) (pc' := 135) rfl (hb hby at_131) (by decide) (by decide) k) ?_
      obtain ⟨fs, hr, hrun, hended, hW, hsame⟩ := X40.leave (v := some (.int (1 : Int32))) (fun h => by rw [Bd.returns] at h; cases h)
      refine Go.fin (retN X40 hx (t := .boolean) Bd.returns (by simp) (hb hby at_135) hr) hrun hended ⟨_, _, rfl, ?_, ⟨_, rfl⟩, hW, hsame.mono (by decide) (by decide)⟩
      show Q0 Z p1 p2 p3 p4 p5 w_NORMAL w_INITIATOR w_PASSIVE w_LEADER h0 n0 _ T40.heap _
      rw [e40]
      exact ⟨rfl, N40⟩
    · refine Go.st (fun t k => XS.ifNo X0.here hx rfl (hb hby at_18) rfl ((if0 _ _).trans (feq hc33).1) k) ?_
      show Go _ _ _ (s₁.setTop (mkF m 21 #[.val (.int p1), .val (.int p2), .val (.int p3), .val (.int p4), .val (.int p5), .val (.int (-1)), .unset, .unset, .unset, .unset, .unset, .unset] [])) _
      refine Go.st (fun t k => XS.iconst X0.here hx rfl (hb hby at_21) k) ?_
      refine Go.st (fun t k => XS.goto X0.here hx rfl (pc0 := 22) (pc' := 26) rfl (hb hby at_22) (by decide) (by decide) k) ?_
      refine Go.st (fun t k => XS.istore X0.here hx rfl (hb hby at_26) rfl (l' := #[.val (.int p1), .val (.int p2), .val (.int p3), .val (.int p4), .val (.int p5), .val (.int (-1)), .val (.int (-1)), .unset, .unset, .unset, .unset, .unset]) rfl k) ?_
      obtain ⟨T41, h41, X41, e41, E41, A41, D41, -, st41⟩ := newO X0 hx hZ hown (wd0 hw) (wd1 hw) (wd2 hw) e0 (g := (mkF m 28 #[.val (.int p1), .val (.int p2), .val (.int p3), .val (.int p4), .val (.int p5), .val (.int (-1)), .val (.int (-1)), .unset, .unset, .unset, .unset, .unset] [])) rfl (hb hby at_28) (by decide) (by decide)
      obtain ⟨b41, g41⟩ : ∃ z, z = h0.size := ⟨_, rfl⟩
      rw [← g41] at A41 D41 st41
      refine Go.st st41 ?_
      have ne_w_NORMAL_b41 : w_NORMAL ≠ b41 := Nat.ne_of_lt (Nat.lt_of_lt_of_le E_w_NORMAL.lt (Nat.le_of_eq g41.symm))
      have ne_w_INITIATOR_b41 : w_INITIATOR ≠ b41 := Nat.ne_of_lt (Nat.lt_of_lt_of_le E_w_INITIATOR.lt (Nat.le_of_eq g41.symm))
      have ne_w_PASSIVE_b41 : w_PASSIVE ≠ b41 := Nat.ne_of_lt (Nat.lt_of_lt_of_le E_w_PASSIVE.lt (Nat.le_of_eq g41.symm))
      have ne_w_LEADER_b41 : w_LEADER ≠ b41 := Nat.ne_of_lt (Nat.lt_of_lt_of_le E_w_LEADER.lt (Nat.le_of_eq g41.symm))
      have g_b41 : n0 ≤ b41 := Nat.le_trans Z0 (Nat.le_of_eq g41.symm)
      have sz_b41 : h0.size ≤ b41 := Nat.le_trans K0.1 (Nat.le_of_eq g41.symm)
      replace S_NORMAL := S_NORMAL.ext E41
      replace E_w_NORMAL := E_w_NORMAL.ext E41
      replace S_INITIATOR := S_INITIATOR.ext E41
      replace E_w_INITIATOR := E_w_INITIATOR.ext E41
      replace S_PASSIVE := S_PASSIVE.ext E41
      replace E_w_PASSIVE := E_w_PASSIVE.ext E41
      replace S_LEADER := S_LEADER.ext E41
      replace E_w_LEADER := E_w_LEADER.ext E41
      replace K0 := K0.ext E41
      replace Z0 := Nat.le_trans Z0 E41.1
      have E_b41 := A41
      have F_b41_phase : Fld Z h41 b41 "com/example/lectern/lectern/catalog/Franklin$Member" "phase" "Lcom/example/lectern/lectern/catalog/Franklin$Phase;" .null := D41 (Or.inr (wd22 hw)) (ty := (.object "com/example/lectern/lectern/catalog/Franklin$Phase")) (by decide)
      have F_b41_leader : Fld Z h41 b41 "com/example/lectern/lectern/catalog/Franklin$Member" "leader" "I" (.int (0 : Int32)) := D41 (Or.inr (wd24 hw)) (ty := .int) (by decide)
      have F_b41_fromLeft : Fld Z h41 b41 "com/example/lectern/lectern/catalog/Franklin$Member" "fromLeft" "I" (.int (0 : Int32)) := D41 (Or.inr (wd26 hw)) (ty := .int) (by decide)
      have F_b41_fromRight : Fld Z h41 b41 "com/example/lectern/lectern/catalog/Franklin$Member" "fromRight" "I" (.int (0 : Int32)) := D41 (Or.inr (wd28 hw)) (ty := .int) (by decide)
      show Go _ _ _ (T41.setTop (mkF m 31 #[.val (.int p1), .val (.int p2), .val (.int p3), .val (.int p4), .val (.int p5), .val (.int (-1)), .val (.int (-1)), .unset, .unset, .unset, .unset, .unset] [(.ref b41)])) _
      refine Go.st (fun t k => XS.dup X41.here hx rfl (hb hby at_31) rfl rfl k) ?_
      refine Go.st (fun t k => XS.iloadN X41.here hx rfl (hb hby at_32) rfl k) ?_
      obtain ⟨_, _, ⟨T42, L42, k42, n42⟩, -, X42, ⟨Lc42, hQ42, l42, y42, z42⟩, st42⟩ := Jvm.LawKit.callS X41 hx (y := (⟨"com/example/lectern/lectern/catalog/MemberSlotsFullPinLaw", "phase", "(I)Lcom/example/lectern/lectern/catalog/Franklin$Phase;"⟩ : MethodName)) hown (mvT hZ (wd3 hw)) (mvT hZ (wd4 hw)) (mvT hZ (wd5 hw)) (mvT hZ (wd6 hw)) (by decide) (backOf (W := 2) (rm1 l Z a0 hw [] p1 w_NORMAL w_INITIATOR w_PASSIVE w_LEADER h41 n0 Z0 S_NORMAL E_w_NORMAL S_INITIATOR E_w_INITIATOR S_PASSIVE E_w_PASSIVE S_LEADER E_w_LEADER) hZ (wd6 hw) (wd5 hw) (by decide) (by decide)) (g := (mkF m 33 #[.val (.int p1), .val (.int p2), .val (.int p3), .val (.int p4), .val (.int p5), .val (.int (-1)), .val (.int (-1)), .unset, .unset, .unset, .unset, .unset] [(.int p1), (.ref b41), (.ref b41)])) rfl (by rw [hml]; rfl) (argsL := [(.int p1)]) (rest := [(.ref b41), (.ref b41)]) (lenOf pd2 rfl) rfl (by show 2 * 0 + _ ≤ _; exact Nat.le_of_eq rfl) (hb hby at_33) (fun _ _ => ⟨rfl, e41, (by decide : 1 + 0 ≤ _), (by decide : 4 + 0 ≤ _)⟩)
      dsimp only [Pt.U, Pt.locs, Pt.cells, Pt.slots] at X42 l42 y42 z42 st42 hQ42
      subst l42 y42 z42
      refine Go.st st42 ?_
      obtain ⟨rfl, N42q, e42, E42_r⟩ := hQ42
      have N42 := Fr.app N0 N42q
      rw [e42] at E42_r
      show Go _ _ _ (T42.setTop (mkF m 36 #[.val (.int p1), .val (.int p2), .val (.int p3), .val (.int p4), .val (.int p5), .val (.int (-1)), .val (.int (-1)), .unset, .unset, .unset, .unset, .unset] [(.ref (f1 p1 w_NORMAL w_INITIATOR w_PASSIVE w_LEADER)), (.ref b41), (.ref b41)])) _
      refine Go.st (fun t k => XS.iloadN X42.here hx rfl (hb hby at_36) rfl k) ?_
      refine Go.st (fun t k => XS.iload X42.here hx rfl (hb hby at_37) rfl k) ?_
      refine Go.st (fun t k => XS.iload X42.here hx rfl (hb hby at_39) rfl k) ?_
      obtain ⟨_, _, ⟨T43, L43, k43, n43⟩, -, X43, ⟨Lc43, hQ43, l43, y43, z43⟩, st43⟩ := X42.specialBack hx (y := (⟨"com/example/lectern/lectern/catalog/Franklin$Member", "<init>", "(Lcom/example/lectern/lectern/catalog/Franklin$Phase;III)V"⟩ : MethodName)) rfl hown (mvT hZ (wd10 hw)) (mvT hZ (wd11 hw)) (mvT hZ (wd12 hw)) (by decide) (backOf (W := 1) (rm2 l Z a0 hw [] b41 (f1 p1 w_NORMAL w_INITIATOR w_PASSIVE w_LEADER) p2 (-1 : Int32) (-1 : Int32) (.null : Value) ((.int (0 : Int32)) : Value) ((.int (0 : Int32)) : Value) ((.int (0 : Int32)) : Value) h41 n0 Z0 E_b41 F_b41_phase F_b41_leader F_b41_fromLeft F_b41_fromRight g_b41) hZ (wd12 hw) (wd2 hw) (by decide) (by decide)) (g := (mkF m 41 #[.val (.int p1), .val (.int p2), .val (.int p3), .val (.int p4), .val (.int p5), .val (.int (-1)), .val (.int (-1)), .unset, .unset, .unset, .unset, .unset] [(.int (-1)), (.int (-1)), (.int p2), (.ref (f1 p1 w_NORMAL w_INITIATOR w_PASSIVE w_LEADER)), (.ref b41), (.ref b41)])) rfl (by rw [hml]; rfl) (Steps.refl _) (a := b41) (argsL := [(.ref (f1 p1 w_NORMAL w_INITIATOR w_PASSIVE w_LEADER)), (.int p2), (.int (-1 : Int32)), (.int (-1 : Int32))]) (rest := [(.ref b41)]) (lenOf pd1 rfl) rfl (by show 2 * 0 + _ ≤ _; exact Nat.le_of_eq rfl) (hb hby at_41) (fun _ _ => ⟨rfl, e42, (by decide : 1 + 0 ≤ _), (by decide : 4 + 0 ≤ _)⟩)
      dsimp only [Pt.U, Pt.locs, Pt.cells, Pt.slots] at X43 l43 y43 z43 st43 hQ43
      subst l43 y43 z43
      refine Go.tr st43 ?_
      have E_b41_pre := E_b41
      have F_b41_phase_pre := F_b41_phase
      have F_b41_leader_pre := F_b41_leader
      have F_b41_fromLeft_pre := F_b41_fromLeft
      have F_b41_fromRight_pre := F_b41_fromRight
      obtain ⟨h43, e43⟩ : ∃ z, T43.heap = z := ⟨_, rfl⟩
      rw [e43] at hQ43
      obtain ⟨rfl, N43q, K43, Q43_0, Q43_1, Q43_2, Q43_3, Q43_4⟩ := hQ43
      replace S_NORMAL := sta_keep S_NORMAL K43 (allS (exa_ns E_b41_pre) all0)
      replace E_w_NORMAL := E_w_NORMAL.keep K43
      replace S_INITIATOR := sta_keep S_INITIATOR K43 (allS (exa_ns E_b41_pre) all0)
      replace E_w_INITIATOR := E_w_INITIATOR.keep K43
      replace S_PASSIVE := sta_keep S_PASSIVE K43 (allS (exa_ns E_b41_pre) all0)
      replace E_w_PASSIVE := E_w_PASSIVE.keep K43
      replace S_LEADER := sta_keep S_LEADER K43 (allS (exa_ns E_b41_pre) all0)
      replace E_w_LEADER := E_w_LEADER.keep K43
      replace E_b41 := E_b41.keep K43
      replace E42_r := E42_r.keep K43
      replace Z0 := Nat.le_trans Z0 K43.1
      replace K0 := K0.trans K43 (allS (Or.inr sz_b41) all0)
      have E_b41 := Q43_0
      have F_b41_phase := Q43_1
      have F_b41_leader := Q43_2
      have F_b41_fromLeft := Q43_3
      have F_b41_fromRight := Q43_4
      have N43 := Fr.app N42 N43q
      show Go _ _ _ (T43.setTop (mkF m 44 #[.val (.int p1), .val (.int p2), .val (.int p3), .val (.int p4), .val (.int p5), .val (.int (-1)), .val (.int (-1)), .unset, .unset, .unset, .unset, .unset] [(.ref b41)])) _
      refine Go.st (fun t k => XS.astore X43.here hx rfl (hb hby at_44) rfl rfl (l' := #[.val (.int p1), .val (.int p2), .val (.int p3), .val (.int p4), .val (.int p5), .val (.int (-1)), .val (.int (-1)), .val (.ref b41), .unset, .unset, .unset, .unset]) rfl k) ?_
      refine Go.st (fun t k => XS.aload X43.here hx rfl (hb hby at_46) rfl rfl k) ?_
      obtain ⟨cq44, kq44, q44a, q44b, q44c⟩ := isOf hZ e43 E_b41
      obtain ⟨_, _, ⟨T44, L44, k44, n44⟩, -, X44, ⟨Lc44, hQ44, l44, y44, z44⟩, st44⟩ := X43.virtualBack hx (y := (⟨"com/example/lectern/lectern/catalog/Franklin$Member", "slotsFull", "()Z"⟩ : MethodName)) (z := (⟨"com/example/lectern/lectern/catalog/Franklin$Member", "slotsFull", "()Z"⟩ : MethodName)) hown (mvT hZ (wd29 hw)) (mvT hZ (wd30 hw)) (notFace_of_selects (args := #[]) (mvT hZ (wd32 hw))) (mvT hZ (wd32 hw)) (mvT hZ (wd31 hw)) (by decide) (backOf (W := 0) (rm5 l Z a0 hw [] b41 (-1 : Int32) (-1 : Int32) h43 n0 Z0 F_b41_fromLeft F_b41_fromRight) hZ (wd33 hw) (wd2 hw) (by decide) (by decide)) q44a q44c (g := (mkF m 48 #[.val (.int p1), .val (.int p2), .val (.int p3), .val (.int p4), .val (.int p5), .val (.int (-1)), .val (.int (-1)), .val (.ref b41), .unset, .unset, .unset, .unset] [(.ref b41)])) rfl (by rw [hml]; rfl) (Steps.refl _) (argsL := []) (rest := []) (lenOf pd3 rfl) rfl (by show 2 * 0 + _ ≤ _; exact Nat.le_of_eq rfl) (hb hby at_48) (fun _ _ => ⟨rfl, e43, (by decide : 1 + 0 ≤ _), (by decide : 4 + 0 ≤ _)⟩)
      dsimp only [Pt.U, Pt.locs, Pt.cells, Pt.slots] at X44 l44 y44 z44 st44 hQ44
      subst l44 y44 z44
      refine Go.tr st44 ?_
      obtain ⟨rfl, N44q, e44⟩ := hQ44
      have N44 := Fr.app N43 N44q
      show Go _ _ _ (T44.setTop (mkF m 51 #[.val (.int p1), .val (.int p2), .val (.int p3), .val (.int p4), .val (.int p5), .val (.int (-1)), .val (.int (-1)), .val (.ref b41), .unset, .unset, .unset, .unset] [(.int (f5 (-1 : Int32) (-1 : Int32)))])) _
      rw [show (f5 (-1 : Int32) (-1 : Int32)) = (0 : Int32) from by unfold f5; simp only [if_pos (by decide : (-1 : Int32) = (-1 : Int32)), if_true, if_false]]
      show Go _ _ _ (T44.setTop (mkF m 51 #[.val (.int p1), .val (.int p2), .val (.int p3), .val (.int p4), .val (.int p5), .val (.int (-1)), .val (.int (-1)), .val (.ref b41), .unset, .unset, .unset, .unset] [(.int 0)])) _
      refine Go.st (fun t k => XS.istore X44.here hx rfl (hb hby at_51) rfl (l' := #[.val (.int p1), .val (.int p2), .val (.int p3), .val (.int p4), .val (.int p5), .val (.int (-1)), .val (.int (-1)), .val (.ref b41), .val (.int 0), .unset, .unset, .unset]) rfl k) ?_
      refine Go.st (fun t k => XS.iconst X44.here hx rfl (hb hby at_53) k) ?_
      refine Go.st (fun t k => XS.istore X44.here hx rfl (hb hby at_54) rfl (l' := #[.val (.int p1), .val (.int p2), .val (.int p3), .val (.int p4), .val (.int p5), .val (.int (-1)), .val (.int (-1)), .val (.ref b41), .val (.int 0), .val (.int 0), .unset, .unset]) rfl k) ?_
      refine Go.st (fun t k => XS.iload X44.here hx rfl (hb hby at_56) rfl k) ?_
      obtain ⟨_, _, ⟨T45, L45, k45, n45⟩, -, X45, ⟨Lc45, hQ45, l45, y45, z45⟩, st45⟩ := Jvm.LawKit.callS X44 hx (y := (⟨"com/example/lectern/lectern/catalog/MemberSlotsFullPinLaw", "holdsId", "(I)Z"⟩ : MethodName)) hown (mvT hZ (wd34 hw)) (mvT hZ (wd35 hw)) (mvT hZ (wd5 hw)) (mvT hZ (wd36 hw)) (by decide) (backOf (W := 0) (rm6 l Z a0 hw [] (-1 : Int32) h43 n0 Z0) hZ (wd36 hw) (wd5 hw) (by decide) (by decide)) (g := (mkF m 58 #[.val (.int p1), .val (.int p2), .val (.int p3), .val (.int p4), .val (.int p5), .val (.int (-1)), .val (.int (-1)), .val (.ref b41), .val (.int 0), .val (.int 0), .unset, .unset] [(.int (-1))])) rfl (by rw [hml]; rfl) (argsL := [(.int (-1 : Int32))]) (rest := []) (lenOf pd4 rfl) rfl (by show 2 * 0 + _ ≤ _; exact Nat.le_of_eq rfl) (hb hby at_58) (fun _ _ => ⟨rfl, e44, (by decide : 1 + 0 ≤ _), (by decide : 4 + 0 ≤ _)⟩)
      dsimp only [Pt.U, Pt.locs, Pt.cells, Pt.slots] at X45 l45 y45 z45 st45 hQ45
      subst l45 y45 z45
      refine Go.st st45 ?_
      obtain ⟨rfl, N45q, e45⟩ := hQ45
      have N45 := Fr.app N44 N45q
      show Go _ _ _ (T45.setTop (mkF m 61 #[.val (.int p1), .val (.int p2), .val (.int p3), .val (.int p4), .val (.int p5), .val (.int (-1)), .val (.int (-1)), .val (.ref b41), .val (.int 0), .val (.int 0), .unset, .unset] [(.int (f6 (-1 : Int32)))])) _
      rw [show (f6 (-1 : Int32)) = (0 : Int32) from by unfold f6; simp only [if_pos (by decide : (-1 : Int32) = (-1 : Int32)), if_true, if_false]]
      show Go _ _ _ (T45.setTop (mkF m 61 #[.val (.int p1), .val (.int p2), .val (.int p3), .val (.int p4), .val (.int p5), .val (.int (-1)), .val (.int (-1)), .val (.ref b41), .val (.int 0), .val (.int 0), .unset, .unset] [(.int 0)])) _
      refine Go.st (fun t k => XS.ifYes X45.here hx rfl (pc0 := 61) (pc' := 75) rfl (hb hby at_61) rfl ((if0 _ _).trans (teq (by decide : (0 : Int32) = (0 : Int32))).1) (by decide) (by decide) k) ?_
      show Go _ _ _ (T45.setTop (mkF m 75 #[.val (.int p1), .val (.int p2), .val (.int p3), .val (.int p4), .val (.int p5), .val (.int (-1)), .val (.int (-1)), .val (.ref b41), .val (.int 0), .val (.int 0), .unset, .unset] [])) _
      refine Go.st (fun t k => XS.iload X45.here hx rfl (hb hby at_75) rfl k) ?_
      refine Go.st (fun t k => XS.ifYes X45.here hx rfl (pc0 := 77) (pc' := 88) rfl (hb hby at_77) rfl ((if0 _ _).trans (teq (by decide : (0 : Int32) = (0 : Int32))).1) (by decide) (by decide) k) ?_
      show Go _ _ _ (T45.setTop (mkF m 88 #[.val (.int p1), .val (.int p2), .val (.int p3), .val (.int p4), .val (.int p5), .val (.int (-1)), .val (.int (-1)), .val (.ref b41), .val (.int 0), .val (.int 0), .unset, .unset] [])) _
      refine Go.st (fun t k => XS.iconst X45.here hx rfl (hb hby at_88) k) ?_
      refine Go.st (fun t k => XS.goto X45.here hx rfl (pc0 := 89) (pc' := 93) rfl (hb hby at_89) (by decide) (by decide) k) ?_
      refine Go.st (fun t k => XS.istore X45.here hx rfl (hb hby at_93) rfl (l' := #[.val (.int p1), .val (.int p2), .val (.int p3), .val (.int p4), .val (.int p5), .val (.int (-1)), .val (.int (-1)), .val (.ref b41), .val (.int 0), .val (.int 0), .val (.int 1), .unset]) rfl k) ?_
      refine Go.st (fun t k => XS.aload X45.here hx rfl (hb hby at_95) rfl rfl k) ?_
      obtain ⟨cq46, kq46, q46a, q46b, q46c⟩ := isOf hZ e45 E_b41
      obtain ⟨_, _, ⟨T46, L46, k46, n46⟩, -, X46, ⟨Lc46, hQ46, l46, y46, z46⟩, st46⟩ := X45.virtualBack hx (y := (⟨"com/example/lectern/lectern/catalog/Franklin$Member", "emptied", "()Lcom/example/lectern/lectern/catalog/Franklin$Member;"⟩ : MethodName)) (z := (⟨"com/example/lectern/lectern/catalog/Franklin$Member", "emptied", "()Lcom/example/lectern/lectern/catalog/Franklin$Member;"⟩ : MethodName)) hown (mvT hZ (wd42 hw)) (mvT hZ (wd43 hw)) (notFace_of_selects (args := #[]) (mvT hZ (wd45 hw))) (mvT hZ (wd45 hw)) (mvT hZ (wd44 hw)) (by decide) (backOf (W := 0) (rm8 l Z a0 hw [] b41 (f1 p1 w_NORMAL w_INITIATOR w_PASSIVE w_LEADER) p2 h43 n0 Z0 F_b41_phase F_b41_leader) hZ (wd46 hw) (wd2 hw) (by decide) (by decide)) q46a q46c (g := (mkF m 97 #[.val (.int p1), .val (.int p2), .val (.int p3), .val (.int p4), .val (.int p5), .val (.int (-1)), .val (.int (-1)), .val (.ref b41), .val (.int 0), .val (.int 0), .val (.int 1), .unset] [(.ref b41)])) rfl (by rw [hml]; rfl) (Steps.refl _) (argsL := []) (rest := []) (lenOf pd5 rfl) rfl (by show 2 * 0 + _ ≤ _; exact Nat.le_of_eq rfl) (hb hby at_97) (fun _ _ => ⟨rfl, e45, (by decide : 1 + 1 ≤ _), (by decide : 4 + 4 ≤ _)⟩)
      dsimp only [Pt.U, Pt.locs, Pt.cells, Pt.slots] at X46 l46 y46 z46 st46 hQ46
      subst l46 y46 z46
      obtain ⟨h46, e46⟩ : ∃ z, T46.heap = z := ⟨_, rfl⟩
      rw [e46] at hQ46
      obtain ⟨x8_0_46, rfl, N46q, K46, ng_x8_0_46, sz0_x8_0_46, Q46_0, Q46_1, Q46_2, Q46_3, Q46_4⟩ := hQ46
      refine Go.tr st46 ?_
      have ne_w_NORMAL_x8_0_46 : w_NORMAL ≠ x8_0_46 := Nat.ne_of_lt (Nat.lt_of_lt_of_le E_w_NORMAL.lt sz0_x8_0_46)
      have ne_w_INITIATOR_x8_0_46 : w_INITIATOR ≠ x8_0_46 := Nat.ne_of_lt (Nat.lt_of_lt_of_le E_w_INITIATOR.lt sz0_x8_0_46)
      have ne_w_PASSIVE_x8_0_46 : w_PASSIVE ≠ x8_0_46 := Nat.ne_of_lt (Nat.lt_of_lt_of_le E_w_PASSIVE.lt sz0_x8_0_46)
      have ne_w_LEADER_x8_0_46 : w_LEADER ≠ x8_0_46 := Nat.ne_of_lt (Nat.lt_of_lt_of_le E_w_LEADER.lt sz0_x8_0_46)
      have ne_b41_x8_0_46 : b41 ≠ x8_0_46 := Nat.ne_of_lt (Nat.lt_of_lt_of_le E_b41.lt sz0_x8_0_46)
      have ne__f1_p1_w_NORMAL_w_INITIATOR_w_PASSIVE_w_LEADER__x8_0_46 : (f1 p1 w_NORMAL w_INITIATOR w_PASSIVE w_LEADER) ≠ x8_0_46 := Nat.ne_of_lt (Nat.lt_of_lt_of_le E42_r.lt sz0_x8_0_46)
      have g_x8_0_46 : n0 ≤ x8_0_46 := ng_x8_0_46
      have sz_x8_0_46 : h0.size ≤ x8_0_46 := Nat.le_trans K0.1 sz0_x8_0_46
      replace S_NORMAL := sta_keep S_NORMAL K46 all0
      replace E_w_NORMAL := E_w_NORMAL.keep K46
      replace S_INITIATOR := sta_keep S_INITIATOR K46 all0
      replace E_w_INITIATOR := E_w_INITIATOR.keep K46
      replace S_PASSIVE := sta_keep S_PASSIVE K46 all0
      replace E_w_PASSIVE := E_w_PASSIVE.keep K46
      replace S_LEADER := sta_keep S_LEADER K46 all0
      replace E_w_LEADER := E_w_LEADER.keep K46
      replace E_b41 := E_b41.keep K46
      replace E42_r := E42_r.keep K46
      replace F_b41_phase := F_b41_phase.keep K46 nin0
      replace F_b41_leader := F_b41_leader.keep K46 nin0
      replace F_b41_fromLeft := F_b41_fromLeft.keep K46 nin0
      replace F_b41_fromRight := F_b41_fromRight.keep K46 nin0
      replace Z0 := Nat.le_trans Z0 K46.1
      replace K0 := K0.trans K46 all0
      have E_x8_0_46 := Q46_0
      have F_x8_0_46_phase := Q46_1
      have F_x8_0_46_leader := Q46_2
      have F_x8_0_46_fromLeft := Q46_3
      have F_x8_0_46_fromRight := Q46_4
      have N46 := Fr.app N45 N46q
      show Go _ _ _ (T46.setTop (mkF m 100 #[.val (.int p1), .val (.int p2), .val (.int p3), .val (.int p4), .val (.int p5), .val (.int (-1)), .val (.int (-1)), .val (.ref b41), .val (.int 0), .val (.int 0), .val (.int 1), .unset] [(.ref x8_0_46)])) _
      obtain ⟨cq47, kq47, q47a, q47b, q47c⟩ := isOf hZ e46 E_x8_0_46
      obtain ⟨_, _, ⟨T47, L47, k47, n47⟩, -, X47, ⟨Lc47, hQ47, l47, y47, z47⟩, st47⟩ := X46.virtualBack hx (y := (⟨"com/example/lectern/lectern/catalog/Franklin$Member", "slotsFull", "()Z"⟩ : MethodName)) (z := (⟨"com/example/lectern/lectern/catalog/Franklin$Member", "slotsFull", "()Z"⟩ : MethodName)) hown (mvT hZ (wd29 hw)) (mvT hZ (wd30 hw)) (notFace_of_selects (args := #[]) (mvT hZ (wd32 hw))) (mvT hZ (wd32 hw)) (mvT hZ (wd31 hw)) (by decide) (backOf (W := 0) (rm5 l Z a0 hw [] x8_0_46 (-1 : Int32) (-1 : Int32) h46 n0 Z0 F_x8_0_46_fromLeft F_x8_0_46_fromRight) hZ (wd33 hw) (wd2 hw) (by decide) (by decide)) q47a q47c (g := (mkF m 100 #[.val (.int p1), .val (.int p2), .val (.int p3), .val (.int p4), .val (.int p5), .val (.int (-1)), .val (.int (-1)), .val (.ref b41), .val (.int 0), .val (.int 0), .val (.int 1), .unset] [(.ref x8_0_46)])) rfl (by rw [hml]; rfl) (Steps.refl _) (argsL := []) (rest := []) (lenOf pd3 rfl) rfl (by show 2 * 0 + _ ≤ _; exact Nat.le_of_eq rfl) (hb hby at_100) (fun _ _ => ⟨rfl, e46, (by decide : 2 + 0 ≤ _), (by decide : 8 + 0 ≤ _)⟩)
      dsimp only [Pt.U, Pt.locs, Pt.cells, Pt.slots] at X47 l47 y47 z47 st47 hQ47
      subst l47 y47 z47
      refine Go.tr st47 ?_
      obtain ⟨rfl, N47q, e47⟩ := hQ47
      have N47 := Fr.app N46 N47q
      show Go _ _ _ (T47.setTop (mkF m 103 #[.val (.int p1), .val (.int p2), .val (.int p3), .val (.int p4), .val (.int p5), .val (.int (-1)), .val (.int (-1)), .val (.ref b41), .val (.int 0), .val (.int 0), .val (.int 1), .unset] [(.int (f5 (-1 : Int32) (-1 : Int32)))])) _
      rw [show (f5 (-1 : Int32) (-1 : Int32)) = (0 : Int32) from by unfold f5; simp only [if_pos (by decide : (-1 : Int32) = (-1 : Int32)), if_true, if_false]]
      show Go _ _ _ (T47.setTop (mkF m 103 #[.val (.int p1), .val (.int p2), .val (.int p3), .val (.int p4), .val (.int p5), .val (.int (-1)), .val (.int (-1)), .val (.ref b41), .val (.int 0), .val (.int 0), .val (.int 1), .unset] [(.int 0)])) _
      refine Go.st (fun t k => XS.ifNo X47.here hx rfl (hb hby at_103) rfl ((if0 _ _).trans (teq (by decide : (0 : Int32) = (0 : Int32))).2) k) ?_
      show Go _ _ _ (T47.setTop (mkF m 106 #[.val (.int p1), .val (.int p2), .val (.int p3), .val (.int p4), .val (.int p5), .val (.int (-1)), .val (.int (-1)), .val (.ref b41), .val (.int 0), .val (.int 0), .val (.int 1), .unset] [])) _
      refine Go.st (fun t k => XS.iconst X47.here hx rfl (hb hby at_106) k) ?_
      refine Go.st (fun t k => XS.goto X47.here hx rfl (pc0 := 107) (pc' := 111) rfl (hb hby at_107) (by decide) (by decide) k) ?_
      refine Go.st (fun t k => XS.istore X47.here hx rfl (hb hby at_111) rfl (l' := #[.val (.int p1), .val (.int p2), .val (.int p3), .val (.int p4), .val (.int p5), .val (.int (-1)), .val (.int (-1)), .val (.ref b41), .val (.int 0), .val (.int 0), .val (.int 1), .val (.int 1)]) rfl k) ?_
      refine Go.st (fun t k => XS.iload X47.here hx rfl (hb hby at_113) rfl k) ?_
      refine Go.st (fun t k => XS.iload X47.here hx rfl (hb hby at_115) rfl k) ?_
      refine Go.st (fun t k => XS.icmpNo X47.here hx rfl (hb hby at_117) rfl (teq (by decide : (0 : Int32) = (0 : Int32))).2 k) ?_
      show Go _ _ _ (T47.setTop (mkF m 120 #[.val (.int p1), .val (.int p2), .val (.int p3), .val (.int p4), .val (.int p5), .val (.int (-1)), .val (.int (-1)), .val (.ref b41), .val (.int 0), .val (.int 0), .val (.int 1), .val (.int 1)] [])) _
      refine Go.st (fun t k => XS.iload X47.here hx rfl (hb hby at_120) rfl k) ?_
      refine Go.st (fun t k => XS.ifNo X47.here hx rfl (hb hby at_122) rfl ((if0 _ _).trans (feq (by decide : ¬ ((1 : Int32) = (0 : Int32)))).1) k) ?_
      show Go _ _ _ (T47.setTop (mkF m 125 #[.val (.int p1), .val (.int p2), .val (.int p3), .val (.int p4), .val (.int p5), .val (.int (-1)), .val (.int (-1)), .val (.ref b41), .val (.int 0), .val (.int 0), .val (.int 1), .val (.int 1)] [])) _
      refine Go.st (fun t k => XS.iload X47.here hx rfl (hb hby at_125) rfl k) ?_
      refine Go.st (fun t k => XS.ifNo X47.here hx rfl (hb hby at_127) rfl ((if0 _ _).trans (feq (by decide : ¬ ((1 : Int32) = (0 : Int32)))).1) k) ?_
      show Go _ _ _ (T47.setTop (mkF m 130 #[.val (.int p1), .val (.int p2), .val (.int p3), .val (.int p4), .val (.int p5), .val (.int (-1)), .val (.int (-1)), .val (.ref b41), .val (.int 0), .val (.int 0), .val (.int 1), .val (.int 1)] [])) _
      refine Go.st (fun t k => XS.iconst X47.here hx rfl (hb hby at_130) k) ?_
      refine Go.st (fun t k => XS.goto X47.here hx rfl (pc0 := 131) (pc' := 135) rfl (hb hby at_131) (by decide) (by decide) k) ?_
      obtain ⟨fs, hr, hrun, hended, hW, hsame⟩ := X47.leave (v := some (.int (1 : Int32))) (fun h => by rw [Bd.returns] at h; cases h)
      refine Go.fin (retN X47 hx (t := .boolean) Bd.returns (by simp) (hb hby at_135) hr) hrun hended ⟨_, _, rfl, ?_, ⟨_, rfl⟩, hW, hsame.mono (by decide) (by decide)⟩
      show Q0 Z p1 p2 p3 p4 p5 w_NORMAL w_INITIATOR w_PASSIVE w_LEADER h0 n0 _ T47.heap _
      rw [e47]
      exact ⟨rfl, N47⟩
theorem wd8 {Z : State} {a0 : Array Value} (hw : ∀ d ∈ tables_1, d.before a0 Z = true) : (Jvm.Cond.initialized "com/example/lectern/lectern/catalog/Franklin$Phase").before a0 Z = true := hw _ (List.mem_of_getElem? (i := 8) rfl)
theorem wd9 {Z : State} {a0 : Array Value} (hw : ∀ d ∈ tables_1, d.before a0 Z = true) : (Jvm.Cond.laysStatic "com/example/lectern/lectern/catalog/Franklin$Phase" "NORMAL" "Lcom/example/lectern/lectern/catalog/Franklin$Phase;").before a0 Z = true := hw _ (List.mem_of_getElem? (i := 9) rfl)
theorem wd50 {Z : State} {a0 : Array Value} (hw : ∀ d ∈ tables_1, d.before a0 Z = true) : (Jvm.Cond.laysStatic "com/example/lectern/lectern/catalog/Franklin$Phase" "LEADER" "Lcom/example/lectern/lectern/catalog/Franklin$Phase;").before a0 Z = true := hw _ (List.mem_of_getElem? (i := 50) rfl)
theorem wd52 {Z : State} {a0 : Array Value} (hw : ∀ d ∈ tables_1, d.before a0 Z = true) : (Jvm.Cond.laysStatic "com/example/lectern/lectern/catalog/Franklin$Phase" "PASSIVE" "Lcom/example/lectern/lectern/catalog/Franklin$Phase;").before a0 Z = true := hw _ (List.mem_of_getElem? (i := 52) rfl)
theorem wd54 {Z : State} {a0 : Array Value} (hw : ∀ d ∈ tables_1, d.before a0 Z = true) : (Jvm.Cond.laysStatic "com/example/lectern/lectern/catalog/Franklin$Phase" "INITIATOR" "Lcom/example/lectern/lectern/catalog/Franklin$Phase;").before a0 Z = true := hw _ (List.mem_of_getElem? (i := 54) rfl)
set_option maxRecDepth 65536 in
set_option maxHeartbeats 16000000 in
theorem comes_1 {Post : Tables → Env → Array Value → State → Outcome → State → Prop} (hpost : ∀ tb e args s v u, (limb_1_1.after args s (.returned v) u = true ∧ limb_1_2.after args s (.returned v) u = true ∧ True) → FrameEnd s (.returned v) u (Jvm.fieldLocs frame_1_writes args s ++ Jvm.arrayLocs frame_1_arrays args s ++ Jvm.staticLocs frame_1_statics s) 16 128 → Post tb e args s (.returned v) u) :
    ArmFor flags0 classFile x code maxLocals ret World_1 tables_1 room_1 Calls_1 rest_1 Pre_1 Post := by
  intro l hfl _ _ p e ha hc hk s m args below hf hA hF happ hP
  obtain ⟨hcalls, hrest, hpre⟩ := hP
  obtain ⟨-, -, -, hnamed, -, -, -, hat⟩ := (Spec.applies_iff hf).mp happ
  obtain ⟨hg, hn⟩ := and_e (Cond.before_iff.mp (show (Jvm.Cond.and given_1 narrow_1).before args s = true from hpre))
  obtain ⟨g1, g2⟩ := and_e hg
  obtain ⟨g3, g4⟩ := and_e g2
  obtain ⟨g5, g6⟩ := and_e g4
  obtain ⟨g7, g8⟩ := and_e g6
  obtain ⟨g9, g10⟩ := and_e g8
  obtain ⟨g11, g12⟩ := and_e hn
  obtain ⟨g13, g14⟩ := and_e g12
  obtain ⟨g15, g16⟩ := and_e g14
  obtain ⟨w0, w1, w2, w3, w4, rfl⟩ : ∃ w0 w1 w2 w3 w4 : Value, args = #[w0, w1, w2, w3, w4] := by
    have hs : args.size = 5 := by simpa [Cond.value, given_1] using g1
    obtain ⟨L⟩ := args
    match L, hs with
    | [w0, w1, w2, w3, w4], _ => exact ⟨w0, w1, w2, w3, w4, rfl⟩
  have hw := fun d (hd : d ∈ tables_1) => atoms_spec (ws := Jvm.Cond.code x code maxLocals ret :: tables_1) hat d (List.mem_cons_of_mem _ hd)
  have hfit : Fit s := fun {y c} hc i hi => by
    obtain ⟨ha, rfl⟩ := Array.getElem?_eq_some_iff.mp hc
    have q := List.all_eq_true.mp ((Array.all_eq_true_iff_forall_mem.mp hF) _ (Array.getElem_mem ha)) i (List.mem_range.mpr hi)
    simpa [Array.getElem?_eq_getElem hi] using q
  obtain ⟨i0, ei0⟩ := is_v g3
  obtain rfl : w0 = (.int i0) := Option.some.inj ei0
  obtain ⟨i1, ei1⟩ := is_v g5
  obtain rfl : w1 = (.int i1) := Option.some.inj ei1
  obtain ⟨i2, ei2⟩ := is_v g7
  obtain rfl : w2 = (.int i2) := Option.some.inj ei2
  obtain ⟨i3, ei3⟩ := is_v g9
  obtain rfl : w3 = (.int i3) := Option.some.inj ei3
  obtain ⟨i4, ei4⟩ := is_v g10
  obtain rfl : w4 = (.int i4) := Option.some.inj ei4
  obtain ⟨v_NORMAL, ev_v_NORMAL⟩ := exa_v g11
  have E_v_NORMAL := Exa.start ev_v_NORMAL g11
  have S_v_NORMAL := Sta.start ev_v_NORMAL (Or.inr ⟨(wd8 hw), (wd9 hw)⟩)
  obtain ⟨v_LEADER, ev_v_LEADER⟩ := exa_v g13
  have E_v_LEADER := Exa.start ev_v_LEADER g13
  have S_v_LEADER := Sta.start ev_v_LEADER (Or.inr ⟨(wd8 hw), (wd50 hw)⟩)
  obtain ⟨v_PASSIVE, ev_v_PASSIVE⟩ := exa_v g15
  have E_v_PASSIVE := Exa.start ev_v_PASSIVE g15
  have S_v_PASSIVE := Sta.start ev_v_PASSIVE (Or.inr ⟨(wd8 hw), (wd52 hw)⟩)
  obtain ⟨v_INITIATOR, ev_v_INITIATOR⟩ := exa_v g16
  have E_v_INITIATOR := Exa.start ev_v_INITIATOR g16
  have S_v_INITIATOR := Sta.start ev_v_INITIATOR (Or.inr ⟨(wd8 hw), (wd54 hw)⟩)
  have hplain := trivial
  obtain ⟨n, o, h1, h2, h3, _, L, rfl, ⟨rfl, N⟩, hq⟩ := rm0 l s _ hw tables_1 i0 i1 i2 i3 i4 v_NORMAL v_INITIATOR v_PASSIVE v_LEADER s.heap s.heap.size (Nat.le_refl _) S_v_NORMAL E_v_NORMAL S_v_INITIATOR E_v_INITIATOR S_v_PASSIVE E_v_PASSIVE S_v_LEADER E_v_LEADER p e ha hc hk s m _ below hf ((Spec.applies_iff_loose hf).mp happ).1 ⟨rfl, State.Warmed39.refl s, rfl⟩ trivial
  refine ⟨n, _, h1, h2, h3, hpost _ _ _ _ _ _ ⟨Cond.after_iff.mpr rfl, Cond.after_iff.mpr (eq_i res_at (Term.int_eval (1)) rfl), trivial⟩ ⟨hq.1, hq.2.1, (hq.2.2.sift fun y hy => Or.inr (N y hy)).mono (by decide) (by decide)⟩⟩
theorem main_1_1 : Claimed_1_1 := comes_1 fun _ _ _ _ _ _ h hF => ⟨h.1, hF⟩
theorem main_1_2 : Claimed_1_2 := comes_1 fun _ _ _ _ _ _ h hF => ⟨h.2.1, hF⟩
end Jvm.Pilot.@@N@@
namespace Jvm.Pilot.@@N@@
open Jvm Jvm.ClassFile Sem Op Lib Jvm.Free Jvm.Stand Jvm.Pilot.@@N@@.Jvm.D
/-! MADE BY PROGRAM (witnessworld.py) out of the Statement's table words and the real class files: 14 classes; the members and pool entries that the words name. The judged class is class 1, her method 3. -/
namespace start1
open Jvm.ClassFile
def u (s : String) : CpInfo := .utf8 (stringToUtf16 s)
/-- a pool by its gaps: so many unusable entries, then the entry; so many at the end -/
def gap : Nat → List CpInfo → List CpInfo
  | 0, r => r
  | n + 1, r => .unusable :: gap n r
def poolList (es : List (Nat × CpInfo)) (last : Nat) : List CpInfo := es.foldr (fun e r => gap e.1 (e.2 :: r)) (gap last [])
def pool (es : List (Nat × CpInfo)) (last : Nat) : Array CpInfo := ⟨poolList es last⟩
def fileOf (pool : Array CpInfo) (this : Nat) (attrs : Array Attribute := #[]) (ms : Array MethodInfo := #[]) (fl : Nat := 33) (sup : Nat := 0) (ifs : Array Nat := #[]) (fds : Array FieldInfo := #[]) : ClassFile where
  minorVersion := 0
  majorVersion := 65
  constantPool := pool
  accessFlags := fl
  thisClass := this
  superClass := sup
  interfaces := ifs
  fields := fds
  methods := ms
  attributes := attrs
def plain (name : String) (sup : Option ClassId) : Class where
  name := name
  kind := .ordinary
  loader := none
  accessFlags := 33
  super := sup
  interfaces := #[]
  cf := none
  fields := #[]
  methods := #[]
  instanceTypes := #[]
  staticTypes := #[]
  resolved := #[]
  callSites := []
  init := .initialized
  statics := none
  mirror := none

def pool0 : Array CpInfo := pool [(5, u "<init>"), (0, u "()V"), (1, .class_ 10), (1, u "java/lang/Object")] 113

def k0c0 : Code := { maxStack := 0, maxLocals := 1, code := object_method_1_code, exceptionTable := #[], attributes := #[] }
def k0m0 : Method := { name := "<init>", desc := "()V", sig := { parameters := [], returnType := none }, accessFlags := 1, code := some k0c0 }
/-- java/lang/Object -/
def k0 : Class := { plain "java/lang/Object" none with
  accessFlags := 33
  interfaces := #[]
  cf := some (fileOf pool0 8 #[] #[{ accessFlags := 1, nameIndex := 5, descriptorIndex := 6, attributes := #[] }] 33 0 #[] #[])
  fields := #[]
  methods := #[k0m0]
  instanceTypes := #[]
  staticTypes := #[]
  resolved := Array.replicate 124 none
  statics := none }

def pool1 : Array CpInfo := pool [(2, .class_ 4), (1, u "java/lang/Object"), (0, u "<init>"), (0, u "()V"), (0, .fieldref 8 9), (0, .class_ 10), (0, .nameAndType 11 12), (0, u "com/example/lectern/lectern/catalog/Franklin$Phase"), (0, u "NORMAL"), (0, u "Lcom/example/lectern/lectern/catalog/Franklin$Phase;"), (0, .fieldref 8 14), (0, .nameAndType 15 12), (0, u "INITIATOR"), (0, .fieldref 8 17), (0, .nameAndType 18 12), (0, u "PASSIVE"), (0, .fieldref 8 20), (0, .nameAndType 21 12), (0, u "LEADER"), (0, .class_ 23), (0, u "com/example/lectern/lectern/catalog/Franklin$Member"), (0, .methodref 25 26), (0, .class_ 27), (0, .nameAndType 28 29), (0, u "com/example/lectern/lectern/catalog/MemberSlotsFullPinLaw"), (0, u "phase"), (0, u "(I)Lcom/example/lectern/lectern/catalog/Franklin$Phase;"), (0, .methodref 22 31), (0, .nameAndType 5 32), (0, u "(Lcom/example/lectern/lectern/catalog/Franklin$Phase;III)V"), (0, .methodref 22 34), (0, .nameAndType 35 36), (0, u "slotsFull"), (0, u "()Z"), (0, .methodref 25 38), (0, .nameAndType 39 40), (0, u "holdsId"), (0, u "(I)Z"), (0, .methodref 22 42), (0, .nameAndType 43 36), (0, u "slotsEmpty"), (0, .methodref 22 45), (0, .nameAndType 46 47), (0, u "emptied"), (0, u "()Lcom/example/lectern/lectern/catalog/Franklin$Member;"), (3, u "law"), (0, u "(IIIII)Z")] 7

def k1m0 : Method := { name := "<init>", desc := "()V", sig := { parameters := [], returnType := none }, accessFlags := 2, code := none }
def k1c1 : Code := { maxStack := 2, maxLocals := 2, code := method_2_code, exceptionTable := #[], attributes := #[] }
def k1m1 : Method := { name := "phase", desc := "(I)Lcom/example/lectern/lectern/catalog/Franklin$Phase;", sig := { parameters := [.int], returnType := some (.object "com/example/lectern/lectern/catalog/Franklin$Phase") }, accessFlags := 10, code := some k1c1 }
def k1c2 : Code := { maxStack := 2, maxLocals := 1, code := method_3_code, exceptionTable := #[], attributes := #[] }
def k1m2 : Method := { name := "holdsId", desc := "(I)Z", sig := { parameters := [.int], returnType := some .boolean }, accessFlags := 10, code := some k1c2 }
def k1c3 : Code := { maxStack := 6, maxLocals := 12, code := code, exceptionTable := #[], attributes := #[] }
def k1m3 : Method := { name := "law", desc := "(IIIII)Z", sig := { parameters := [.int, .int, .int, .int, .int], returnType := some .boolean }, accessFlags := 9, code := some k1c3 }
/-- com/example/lectern/lectern/catalog/MemberSlotsFullPinLaw -/
def k1 : Class := { plain "com/example/lectern/lectern/catalog/MemberSlotsFullPinLaw" (some 0) with
  accessFlags := 49
  interfaces := #[]
  cf := some (fileOf pool1 25 #[] #[{ accessFlags := 2, nameIndex := 5, descriptorIndex := 6, attributes := #[] }, { accessFlags := 10, nameIndex := 28, descriptorIndex := 29, attributes := #[] }, { accessFlags := 10, nameIndex := 39, descriptorIndex := 40, attributes := #[] }, { accessFlags := 9, nameIndex := 51, descriptorIndex := 52, attributes := #[] }] 49 2 #[] #[])
  fields := #[]
  methods := #[k1m0, k1m1, k1m2, k1m3]
  instanceTypes := #[]
  staticTypes := #[]
  resolved := Array.replicate 60 none
  statics := none }

def pool2 : Array CpInfo := pool [(1, .methodref 2 3), (0, .class_ 4), (0, .nameAndType 5 6), (0, u "java/lang/Object"), (0, u "<init>"), (0, u "()V"), (0, .class_ 8), (0, u "java/lang/Record")] 13

def k2c0 : Code := { maxStack := 1, maxLocals := 1, code := jdk_30_method_1_code, exceptionTable := #[], attributes := #[] }
def k2m0 : Method := { name := "<init>", desc := "()V", sig := { parameters := [], returnType := none }, accessFlags := 4, code := some k2c0 }
/-- java/lang/Record -/
def k2 : Class := { plain "java/lang/Record" (some 0) with
  accessFlags := 1057
  interfaces := #[]
  cf := some (fileOf pool2 7 #[] #[{ accessFlags := 4, nameIndex := 5, descriptorIndex := 6, attributes := #[] }] 1057 2 #[] #[])
  fields := #[]
  methods := #[k2m0]
  instanceTypes := #[]
  staticTypes := #[]
  resolved := Array.replicate 22 none
  statics := none }

def pool3 : Array CpInfo := pool [(1, .class_ 2), (0, u "com/example/lectern/lectern/catalog/Franklin"), (0, .methodref 4 5), (0, .class_ 6), (0, .nameAndType 7 8), (0, u "java/lang/Record"), (0, u "<init>"), (0, u "()V"), (0, .fieldref 10 11), (0, .class_ 12), (0, .nameAndType 13 14), (0, u "com/example/lectern/lectern/catalog/Franklin$Member"), (0, u "phase"), (0, u "Lcom/example/lectern/lectern/catalog/Franklin$Phase;"), (0, .fieldref 10 16), (0, .nameAndType 17 18), (0, u "leader"), (0, u "I"), (0, .fieldref 10 20), (0, .nameAndType 21 18), (0, u "fromLeft"), (0, .fieldref 10 23), (0, .nameAndType 24 18), (0, u "fromRight"), (0, .methodref 10 26), (0, .nameAndType 7 27), (0, u "(Lcom/example/lectern/lectern/catalog/Franklin$Phase;III)V"), (21, u "emptied"), (0, u "()Lcom/example/lectern/lectern/catalog/Franklin$Member;"), (0, u "slotsEmpty"), (0, u "()Z"), (1, u "slotsFull")] 32

def k3c0 : Code := { maxStack := 2, maxLocals := 5, code := prog_30_method_1_code, exceptionTable := #[], attributes := #[] }
def k3m0 : Method := { name := "<init>", desc := "(Lcom/example/lectern/lectern/catalog/Franklin$Phase;III)V", sig := { parameters := [(.object "com/example/lectern/lectern/catalog/Franklin$Phase"), .int, .int, .int], returnType := none }, accessFlags := 0, code := some k3c0 }
def k3c1 : Code := { maxStack := 6, maxLocals := 1, code := prog_30_method_6_code, exceptionTable := #[], attributes := #[] }
def k3m1 : Method := { name := "emptied", desc := "()Lcom/example/lectern/lectern/catalog/Franklin$Member;", sig := { parameters := [], returnType := some (.object "com/example/lectern/lectern/catalog/Franklin$Member") }, accessFlags := 0, code := some k3c1 }
def k3c2 : Code := { maxStack := 2, maxLocals := 1, code := prog_30_method_7_code, exceptionTable := #[], attributes := #[] }
def k3m2 : Method := { name := "slotsEmpty", desc := "()Z", sig := { parameters := [], returnType := some .boolean }, accessFlags := 0, code := some k3c2 }
def k3c3 : Code := { maxStack := 2, maxLocals := 1, code := prog_30_method_8_code, exceptionTable := #[], attributes := #[] }
def k3m3 : Method := { name := "slotsFull", desc := "()Z", sig := { parameters := [], returnType := some .boolean }, accessFlags := 0, code := some k3c3 }
/-- com/example/lectern/lectern/catalog/Franklin$Member -/
def k3 : Class := { plain "com/example/lectern/lectern/catalog/Franklin$Member" (some 2) with
  accessFlags := 48
  interfaces := #[]
  cf := some (fileOf pool3 10 #[.nestHost 1] #[{ accessFlags := 0, nameIndex := 7, descriptorIndex := 27, attributes := #[] }, { accessFlags := 0, nameIndex := 49, descriptorIndex := 50, attributes := #[] }, { accessFlags := 0, nameIndex := 51, descriptorIndex := 52, attributes := #[] }, { accessFlags := 0, nameIndex := 54, descriptorIndex := 52, attributes := #[] }] 48 4 #[] #[{ accessFlags := 18, nameIndex := 13, descriptorIndex := 14, attributes := #[] }, { accessFlags := 18, nameIndex := 17, descriptorIndex := 18, attributes := #[] }, { accessFlags := 18, nameIndex := 21, descriptorIndex := 18, attributes := #[] }, { accessFlags := 18, nameIndex := 24, descriptorIndex := 18, attributes := #[] }])
  fields := #[{ name := "phase", type := (.object "com/example/lectern/lectern/catalog/Franklin$Phase"), accessFlags := 18, slot := 0, constantValue := 0 }, { name := "leader", type := .int, accessFlags := 18, slot := 1, constantValue := 0 }, { name := "fromLeft", type := .int, accessFlags := 18, slot := 2, constantValue := 0 }, { name := "fromRight", type := .int, accessFlags := 18, slot := 3, constantValue := 0 }]
  methods := #[k3m0, k3m1, k3m2, k3m3]
  instanceTypes := #[(.object "com/example/lectern/lectern/catalog/Franklin$Phase"), .int, .int, .int]
  staticTypes := #[]
  resolved := Array.replicate 87 none
  statics := none }

def pool4 : Array CpInfo := pool [(1, .class_ 2), (0, u "java/lang/constant/Constable"), (0, .class_ 4), (0, u "java/lang/Object")] 6

/-- java/lang/constant/Constable -/
def k4 : Class := { plain "java/lang/constant/Constable" (some 0) with
  accessFlags := 1537
  interfaces := #[]
  cf := some (fileOf pool4 1 #[] #[] 1537 3 #[] #[])
  fields := #[]
  methods := #[]
  instanceTypes := #[]
  staticTypes := #[]
  resolved := Array.replicate 11 none
  statics := none }

def pool5 : Array CpInfo := pool [(1, .class_ 2), (0, u "java/lang/Comparable"), (0, .class_ 4), (0, u "java/lang/Object")] 7

/-- java/lang/Comparable -/
def k5 : Class := { plain "java/lang/Comparable" (some 0) with
  accessFlags := 1537
  interfaces := #[]
  cf := some (fileOf pool5 1 #[] #[] 1537 3 #[] #[])
  fields := #[]
  methods := #[]
  instanceTypes := #[]
  staticTypes := #[]
  resolved := Array.replicate 12 none
  statics := none }

def pool6 : Array CpInfo := pool [(1, .class_ 2), (0, u "java/io/Serializable"), (0, .class_ 4), (0, u "java/lang/Object")] 2

/-- java/io/Serializable -/
def k6 : Class := { plain "java/io/Serializable" (some 0) with
  accessFlags := 1537
  interfaces := #[]
  cf := some (fileOf pool6 1 #[] #[] 1537 3 #[] #[])
  fields := #[]
  methods := #[]
  instanceTypes := #[]
  staticTypes := #[]
  resolved := Array.replicate 7 none
  statics := none }

def pool7 : Array CpInfo := pool [(2, .class_ 4), (1, u "java/lang/Enum"), (0, u "name"), (0, u "Ljava/lang/String;"), (2, u "ordinal"), (0, u "I"), (1, .class_ 14), (1, u "java/lang/Object"), (4, u "hash"), (86, .class_ 108), (1, u "java/lang/Enum$EnumDesc"), (2, .class_ 112), (0, u "java/lang/constant/Constable"), (0, .class_ 114), (0, u "java/lang/Comparable"), (0, .class_ 116), (0, u "java/io/Serializable")] 87

/-- java/lang/Enum -/
def k7 : Class := { plain "java/lang/Enum" (some 0) with
  accessFlags := 1057
  interfaces := #[4, 5, 6]
  cf := some (fileOf pool7 2 #[.nestMembers #[106]] #[] 1057 12 #[111, 113, 115] #[{ accessFlags := 18, nameIndex := 5, descriptorIndex := 6, attributes := #[] }, { accessFlags := 18, nameIndex := 9, descriptorIndex := 10, attributes := #[] }, { accessFlags := 2, nameIndex := 19, descriptorIndex := 10, attributes := #[] }])
  fields := #[{ name := "name", type := (.object "java/lang/String"), accessFlags := 18, slot := 0, constantValue := 0 }, { name := "ordinal", type := .int, accessFlags := 18, slot := 1, constantValue := 0 }, { name := "hash", type := .int, accessFlags := 2, slot := 2, constantValue := 0 }]
  methods := #[]
  instanceTypes := #[(.object "java/lang/String"), .int, .int]
  staticTypes := #[]
  resolved := Array.replicate 204 none
  statics := none }

def pool8 : Array CpInfo := pool [(1, .class_ 2), (0, u "com/example/lectern/lectern/catalog/Franklin$Phase"), (2, u "NORMAL"), (0, u "Lcom/example/lectern/lectern/catalog/Franklin$Phase;"), (2, u "INITIATOR"), (2, u "PASSIVE"), (2, u "LEADER"), (2, u "$VALUES"), (0, u "[Lcom/example/lectern/lectern/catalog/Franklin$Phase;"), (6, .class_ 28), (1, u "java/lang/Enum"), (27, .class_ 57), (0, u "com/example/lectern/lectern/catalog/Franklin")] 2

/-- com/example/lectern/lectern/catalog/Franklin$Phase -/
def k8 : Class := { plain "com/example/lectern/lectern/catalog/Franklin$Phase" (some 7) with
  accessFlags := 16432
  interfaces := #[]
  cf := some (fileOf pool8 1 #[.nestHost 56] #[] 16432 26 #[] #[{ accessFlags := 16409, nameIndex := 5, descriptorIndex := 6, attributes := #[] }, { accessFlags := 16409, nameIndex := 9, descriptorIndex := 6, attributes := #[] }, { accessFlags := 16409, nameIndex := 12, descriptorIndex := 6, attributes := #[] }, { accessFlags := 16409, nameIndex := 15, descriptorIndex := 6, attributes := #[] }, { accessFlags := 4122, nameIndex := 18, descriptorIndex := 19, attributes := #[] }])
  fields := #[{ name := "NORMAL", type := (.object "com/example/lectern/lectern/catalog/Franklin$Phase"), accessFlags := 16409, slot := 0, constantValue := 0 }, { name := "INITIATOR", type := (.object "com/example/lectern/lectern/catalog/Franklin$Phase"), accessFlags := 16409, slot := 1, constantValue := 0 }, { name := "PASSIVE", type := (.object "com/example/lectern/lectern/catalog/Franklin$Phase"), accessFlags := 16409, slot := 2, constantValue := 0 }, { name := "LEADER", type := (.object "com/example/lectern/lectern/catalog/Franklin$Phase"), accessFlags := 16409, slot := 3, constantValue := 0 }, { name := "$VALUES", type := (.array (.object "com/example/lectern/lectern/catalog/Franklin$Phase")), accessFlags := 4122, slot := 4, constantValue := 0 }]
  methods := #[]
  instanceTypes := #[(.object "java/lang/String"), .int, .int]
  staticTypes := #[(.object "com/example/lectern/lectern/catalog/Franklin$Phase"), (.object "com/example/lectern/lectern/catalog/Franklin$Phase"), (.object "com/example/lectern/lectern/catalog/Franklin$Phase"), (.object "com/example/lectern/lectern/catalog/Franklin$Phase"), (.array (.object "com/example/lectern/lectern/catalog/Franklin$Phase"))]
  resolved := Array.replicate 60 none
  statics := some 0 }

def pool9 : Array CpInfo := pool [(1, u "java/lang/Cloneable"), (0, .class_ 1), (0, u "java/lang/Object"), (0, .class_ 3)] 3

/-- java/lang/Cloneable -/
def k9 : Class := { plain "java/lang/Cloneable" (some 0) with
  accessFlags := 1537
  interfaces := #[]
  cf := some (fileOf pool9 2 #[] #[] 1537 4 #[] #[])
  fields := #[]
  methods := #[]
  instanceTypes := #[]
  staticTypes := #[]
  resolved := Array.replicate 8 none
  statics := none }

/-- the primitive byte -/
def k10 : Class := { plain "byte" none with kind := .primitive 'B', accessFlags := 0x411 }
/-- [B -/
def k11 : Class := { plain "[B" (some 0) with kind := .array 10 .byte, interfaces := #[9, 6], accessFlags := 1041 }

/-- the primitive int -/
def k12 : Class := { plain "int" none with kind := .primitive 'I', accessFlags := 0x411 }
/-- [I -/
def k13 : Class := { plain "[I" (some 0) with kind := .array 12 .int, interfaces := #[9, 6], accessFlags := 1041 }

def heap : Heap := #[{ cls := 8, slots := #[.ref 1, .ref 2, .ref 3, .ref 4, .null], vm := .statics 8 },
  { cls := 8, slots := #[.null, .int 0, .int 0], vm := .none },
  { cls := 8, slots := #[.null, .int 1, .int 0], vm := .none },
  { cls := 8, slots := #[.null, .int 2, .int 0], vm := .none },
  { cls := 8, slots := #[.null, .int 3, .int 0], vm := .none }]
def classes : Array Class := #[k0, k1, k2, k3, k4, k5, k6, k7, k8, k9, k10, k11, k12, k13]
def interned : List (Array UInt16 × Addr) := []
def slotsUsed : Nat := 17
def theMethod : MethodId := ⟨1, 3⟩
def args0 : Array Value := #[.int 5, .int 6, .int 7, .int 8, .int 9]
def aboutOver (below : List Frame) : State where
  vm := { classes := classes, interned := interned.toArray }
  heap := heap
  slotsUsed := slotsUsed
  threads := #[{ frames := .invoking theMethod args0 :: below }]
def below0 : List Frame := [.native { method := ⟨0, 0⟩, args := #[] }]
def about1 : State := aboutOver below0
def p0 : Program := .bare "" "" ""
def e0 : Env := launch0.env 0 0 0
theorem w_frames : about1.frames = Frame.invoking theMethod args0 :: below0 := rfl
set_option maxRecDepth 65536 in
theorem w_args : argsFit about1.vm theMethod args0 = true := by decide +kernel
set_option maxRecDepth 65536 in
theorem w_heap : heapFits about1 = true := by decide +kernel
set_option maxRecDepth 65536 in
theorem w_runnable : about1.curStatus? = some .runnable := by decide +kernel
set_option maxRecDepth 65536 in
theorem w_alone : about1.alone = true := by decide +kernel
set_option maxRecDepth 65536 in
theorem w_named : about1.methodNamed? x = some theMethod := by decide +kernel
set_option maxRecDepth 65536 in
theorem w_hears : about1.hears theMethod below0 = true := by decide +kernel
set_option maxRecDepth 65536 in
theorem w_ripe : about1.ripe theMethod args0 below0 = true := by decide +kernel
theorem w_running : about1.status = .running := rfl
set_option maxRecDepth 65536 in
theorem w_room : about1.hasRoom e0.platform room_1 = true :=
  launch0.hasRoom_least _ room_1 (by decide +kernel) (by decide +kernel) (by decide +kernel) (by decide +kernel) (by decide +kernel) (by decide +kernel)
theorem allAtoms_all (ts : List Jvm.Cond) (a : Array Jvm.Value) (st : Jvm.State) : (allAtoms ts).before a st = ts.all (fun c => c.before a st) := by
  induction ts with
  | nil => rfl
  | cons c t ih =>
    show (Jvm.Cond.and c (allAtoms t)).before a st = _
    rw [Jvm.Cond.before_and, ih, List.all_cons]
def words1 : List Jvm.Cond := Jvm.Cond.code x code maxLocals ret :: tables_1
/-- a 'code' word, met by the world's own term for the bytes: nothing is compared byte by byte -/
theorem code_word {y : MethodName} {bytes : ByteArray} {mx : Nat} {rt : Option FieldType} {a : Array Value} {s : State} {m : MethodId} {meth : Method} {c : Code} (h1 : s.methodNamed? y = some m) (h2 : s.vm.method? m = some meth) (h3 : meth.code = some c) (h4 : c.code = bytes)
    (h5 : (c.maxLocals == mx && c.exceptionTable.isEmpty && decide (c.maxStack ≤ mostOperands) && decide (meth.sig.returnType = rt) && !meth.locks && decide (parseMethodDescriptor y.desc = some meth.sig)) = true) : (Jvm.Cond.code y bytes mx rt).before a s = true := by
  simp only [Bool.and_eq_true, beq_iff_eq, Bool.not_eq_true', decide_eq_true_eq] at h5
  obtain ⟨⟨⟨⟨⟨g1, g2⟩, g3⟩, g4⟩, g5⟩, g6⟩ := h5
  simp [Cond.before, Cond.holds, Cond.value, h1, h2, h3, h4, g1, g2, g3, g4, g5, g6]
def isCode : Jvm.Cond → Bool
  | .code _ _ _ _ => true
  | _ => false
theorem all_split {L : List Jvm.Cond} {P : Jvm.Cond → Bool} (h1 : L.all (fun c => isCode c || P c) = true) (h2 : ∀ c ∈ L.filter isCode, P c = true) : L.all P = true := by
  refine List.all_eq_true.mpr fun c hc => ?_
  have h := List.all_eq_true.mp h1 c hc
  rcases Bool.eq_false_or_eq_true (isCode c) with hi | hi
  · exact h2 c (List.mem_filter.mpr ⟨hc, hi⟩)
  · simpa [hi] using h
set_option maxRecDepth 65536 in
theorem w_c0 : (Jvm.Cond.code x code maxLocals ret).before args0 about1 = true := code_word (m := ⟨1, 3⟩) (meth := k1m3) (c := k1c3) (by decide +kernel) rfl rfl rfl (by decide +kernel)
set_option maxRecDepth 65536 in
theorem w_c1 : (Jvm.Cond.code ({ cls := "com/example/lectern/lectern/catalog/MemberSlotsFullPinLaw", name := "phase", desc := "(I)Lcom/example/lectern/lectern/catalog/Franklin$Phase;" } : Jvm.MethodName) method_2_code (2 : Nat) (Option.some (Jvm.ClassFile.FieldType.object "com/example/lectern/lectern/catalog/Franklin$Phase"))).before args0 about1 = true := code_word (m := ⟨1, 1⟩) (meth := k1m1) (c := k1c1) (by decide +kernel) rfl rfl rfl (by decide +kernel)
set_option maxRecDepth 65536 in
theorem w_c2 : (Jvm.Cond.code ({ cls := "com/example/lectern/lectern/catalog/Franklin$Member", name := "<init>", desc := "(Lcom/example/lectern/lectern/catalog/Franklin$Phase;III)V" } : Jvm.MethodName) prog_30_method_1_code (5 : Nat) (Option.none : Option Jvm.ClassFile.FieldType)).before args0 about1 = true := code_word (m := ⟨3, 0⟩) (meth := k3m0) (c := k3c0) (by decide +kernel) rfl rfl rfl (by decide +kernel)
set_option maxRecDepth 65536 in
theorem w_c3 : (Jvm.Cond.code ({ cls := "java/lang/Record", name := "<init>", desc := "()V" } : Jvm.MethodName) jdk_30_method_1_code (1 : Nat) (Option.none : Option Jvm.ClassFile.FieldType)).before args0 about1 = true := code_word (m := ⟨2, 0⟩) (meth := k2m0) (c := k2c0) (by decide +kernel) rfl rfl rfl (by decide +kernel)
set_option maxRecDepth 65536 in
theorem w_c4 : (Jvm.Cond.code ({ cls := "java/lang/Object", name := "<init>", desc := "()V" } : Jvm.MethodName) object_method_1_code (1 : Nat) (Option.none : Option Jvm.ClassFile.FieldType)).before args0 about1 = true := code_word (m := ⟨0, 0⟩) (meth := k0m0) (c := k0c0) (by decide +kernel) rfl rfl rfl (by decide +kernel)
set_option maxRecDepth 65536 in
theorem w_c5 : (Jvm.Cond.code ({ cls := "com/example/lectern/lectern/catalog/Franklin$Member", name := "slotsFull", desc := "()Z" } : Jvm.MethodName) prog_30_method_8_code (1 : Nat) (Option.some Jvm.ClassFile.FieldType.boolean)).before args0 about1 = true := code_word (m := ⟨3, 3⟩) (meth := k3m3) (c := k3c3) (by decide +kernel) rfl rfl rfl (by decide +kernel)
set_option maxRecDepth 65536 in
theorem w_c6 : (Jvm.Cond.code ({ cls := "com/example/lectern/lectern/catalog/MemberSlotsFullPinLaw", name := "holdsId", desc := "(I)Z" } : Jvm.MethodName) method_3_code (1 : Nat) (Option.some Jvm.ClassFile.FieldType.boolean)).before args0 about1 = true := code_word (m := ⟨1, 2⟩) (meth := k1m2) (c := k1c2) (by decide +kernel) rfl rfl rfl (by decide +kernel)
set_option maxRecDepth 65536 in
theorem w_c7 : (Jvm.Cond.code ({ cls := "com/example/lectern/lectern/catalog/Franklin$Member", name := "slotsEmpty", desc := "()Z" } : Jvm.MethodName) prog_30_method_7_code (1 : Nat) (Option.some Jvm.ClassFile.FieldType.boolean)).before args0 about1 = true := code_word (m := ⟨3, 2⟩) (meth := k3m2) (c := k3c2) (by decide +kernel) rfl rfl rfl (by decide +kernel)
set_option maxRecDepth 65536 in
theorem w_c8 : (Jvm.Cond.code ({ cls := "com/example/lectern/lectern/catalog/Franklin$Member", name := "emptied", desc := "()Lcom/example/lectern/lectern/catalog/Franklin$Member;" } : Jvm.MethodName) prog_30_method_6_code (1 : Nat) (Option.some (Jvm.ClassFile.FieldType.object "com/example/lectern/lectern/catalog/Franklin$Member"))).before args0 about1 = true := code_word (m := ⟨3, 1⟩) (meth := k3m1) (c := k3c1) (by decide +kernel) rfl rfl rfl (by decide +kernel)
def codes1 : List Jvm.Cond := [Jvm.Cond.code x code maxLocals ret, Jvm.Cond.code ({ cls := "com/example/lectern/lectern/catalog/MemberSlotsFullPinLaw", name := "phase", desc := "(I)Lcom/example/lectern/lectern/catalog/Franklin$Phase;" } : Jvm.MethodName) method_2_code (2 : Nat) (Option.some (Jvm.ClassFile.FieldType.object "com/example/lectern/lectern/catalog/Franklin$Phase")), Jvm.Cond.code ({ cls := "com/example/lectern/lectern/catalog/Franklin$Member", name := "<init>", desc := "(Lcom/example/lectern/lectern/catalog/Franklin$Phase;III)V" } : Jvm.MethodName) prog_30_method_1_code (5 : Nat) (Option.none : Option Jvm.ClassFile.FieldType), Jvm.Cond.code ({ cls := "java/lang/Record", name := "<init>", desc := "()V" } : Jvm.MethodName) jdk_30_method_1_code (1 : Nat) (Option.none : Option Jvm.ClassFile.FieldType), Jvm.Cond.code ({ cls := "java/lang/Object", name := "<init>", desc := "()V" } : Jvm.MethodName) object_method_1_code (1 : Nat) (Option.none : Option Jvm.ClassFile.FieldType), Jvm.Cond.code ({ cls := "com/example/lectern/lectern/catalog/Franklin$Member", name := "slotsFull", desc := "()Z" } : Jvm.MethodName) prog_30_method_8_code (1 : Nat) (Option.some Jvm.ClassFile.FieldType.boolean), Jvm.Cond.code ({ cls := "com/example/lectern/lectern/catalog/MemberSlotsFullPinLaw", name := "holdsId", desc := "(I)Z" } : Jvm.MethodName) method_3_code (1 : Nat) (Option.some Jvm.ClassFile.FieldType.boolean), Jvm.Cond.code ({ cls := "com/example/lectern/lectern/catalog/Franklin$Member", name := "slotsEmpty", desc := "()Z" } : Jvm.MethodName) prog_30_method_7_code (1 : Nat) (Option.some Jvm.ClassFile.FieldType.boolean), Jvm.Cond.code ({ cls := "com/example/lectern/lectern/catalog/Franklin$Member", name := "emptied", desc := "()Lcom/example/lectern/lectern/catalog/Franklin$Member;" } : Jvm.MethodName) prog_30_method_6_code (1 : Nat) (Option.some (Jvm.ClassFile.FieldType.object "com/example/lectern/lectern/catalog/Franklin$Member"))]
set_option maxRecDepth 65536 in
theorem codes_eq : words1.filter isCode = codes1 := rfl
theorem w_codes : ∀ c ∈ words1.filter isCode, c.before args0 about1 = true := by
  rw [codes_eq]
  intro c hc
  simp only [codes1, List.mem_cons, List.not_mem_nil, or_false] at hc
  rcases hc with rfl | rfl | rfl | rfl | rfl | rfl | rfl | rfl | rfl
  · exact w_c0
  · exact w_c1
  · exact w_c2
  · exact w_c3
  · exact w_c4
  · exact w_c5
  · exact w_c6
  · exact w_c7
  · exact w_c8
set_option maxRecDepth 65536 in
theorem w_t1 : (words1.take 24).all (fun c => isCode c || c.before args0 about1) = true := by decide +kernel
set_option maxRecDepth 65536 in
theorem w_t2 : ((words1.drop 24).take 24).all (fun c => isCode c || c.before args0 about1) = true := by decide +kernel
set_option maxRecDepth 65536 in
theorem w_t3 : ((words1.drop 24).drop 24).all (fun c => isCode c || c.before args0 about1) = true := by decide +kernel
theorem w_tables : (allAtoms (Jvm.Cond.code x code maxLocals ret :: tables_1)).before args0 about1 = true := by
  rw [allAtoms_all]
  show words1.all (fun c => c.before args0 about1) = true
  refine all_split ?_ w_codes
  rw [← List.take_append_drop 24 words1, List.all_append, w_t1, ← List.take_append_drop 24 (words1.drop 24), List.all_append, w_t2, w_t3]
  rfl
set_option maxRecDepth 65536 in
theorem w_case : (Jvm.Cond.and given_1 narrow_1).before args0 about1 = true := by decide +kernel
theorem w_applies : (headSpec (Jvm.Cond.code x code maxLocals ret :: tables_1) room_1).applies x e0.platform about1 = true :=
  (Spec.applies_iff w_frames).mpr ⟨w_running, w_runnable, w_alone, w_named, w_hears, w_ripe, w_room, w_tables⟩
theorem atStart : AtStart classFile x code maxLocals ret World_1 tables_1 room_1 Calls_1 rest_1 Pre_1 launch0 p0 e0 about1 theMethod args0 below0 :=
  ⟨lists_1, trivial, launch0.admits_env _ _ _, launch0.least_env, fairChoices_fair.cas, fairChoices_fair.clock, w_frames, w_args, w_heap, w_applies, trivial, trivial, w_case⟩
end start1
theorem witness_1 : WitnessClaimed_1 := ⟨start1.p0, start1.e0, start1.about1, start1.theMethod, start1.args0, start1.below0, start1.atStart⟩
end Jvm.Pilot.@@N@@
