import JvmDerived
import JvmDerived.Pilot.@@N@@Statement
import JvmDerived.Pilot.@@N@@Code
set_option linter.unusedVariables false
set_option linter.unusedSimpArgs false
namespace Jvm.Pilot.@@N@@
open Jvm Jvm.ClassFile Sem Op Lib Jvm.Free Jvm.Stand Jvm.LawKit Jvm.RoadKit Bundle Jvm.Pilot.@@N@@.Jvm.D

def Go (tb : Tables) (e : Env) (below : List Frame) (a : State) (P : Outcome → State → Prop) : Prop := ∃ s₂ o, Steps tb e below a s₂ ∧ s₂.status = .running ∧ Ended s₂ below o ∧ P o s₂
theorem Go.st {tb : Tables} {e : Env} {below : List Frame} {a b : State} {P : Outcome → State → Prop} (h : ∀ t, Steps tb e below b t → Steps tb e below a t) (k : Go tb e below b P) : Go tb e below a P := by
  obtain ⟨s, o, h1, h2⟩ := k
  exact ⟨s, o, h _ h1, h2⟩
theorem Go.tr {tb : Tables} {e : Env} {below : List Frame} {a b : State} {P : Outcome → State → Prop} (h : Steps tb e below a b) (k : Go tb e below b P) : Go tb e below a P := Go.st (fun _ q => h.trans q) k
theorem Go.fr {tb : Tables} {e : Env} {below : List Frame} {T : State} {g g' : JFrame} {P : Outcome → State → Prop} (q : g = g') (k : Go tb e below (T.setTop g') P) : Go tb e below (T.setTop g) P := q ▸ k
theorem Go.fin {tb : Tables} {e : Env} {below : List Frame} {a s₂ : State} {o : Outcome} {P : Outcome → State → Prop} (hs : Steps tb e below a s₂) (hr : s₂.status = .running) (he : Ended s₂ below o) (hP : P o s₂) : Go tb e below a P := ⟨_, _, hs, hr, he, hP⟩
theorem exa_ns {Z : State} {h : Heap} {a : Addr} {C : String} (F : Exa Z h a C) : ∃ c : Cell, h[a]? = some c ∧ c.vm.isStatics = false := by
  obtain ⟨c, _, h1, -, -, h4, -⟩ := F
  exact ⟨c, h1, h4⟩
theorem fld_ns {Z : State} {h : Heap} {a : Addr} {C n d : String} {v : Value} (F : Fld Z h a C n d v) : ∃ c : Cell, h[a]? = some c ∧ c.vm.isStatics = false := by
  obtain ⟨c, _, _, _, _, h1, -, -, -, h4, -⟩ := F
  exact ⟨c, h1, h4⟩
theorem arv_ns {Z : State} {h : Heap} {a : Addr} {k : ClassId} {ty : FieldType} {n : Int32} {vs : List Value} {d : Value} (F : Arv Z h a k ty n vs d) : ∃ c : Cell, h[a]? = some c ∧ c.vm.isStatics = false := by
  obtain ⟨c, A, -⟩ := F
  exact ⟨c, A.1, A.plain⟩
theorem sta_keep {Z : State} {h h' : Heap} {C n d : String} {v : Value} {ws : List Addr} (F : Sta Z h C n d v) (K : Keep h h' ws) (q : ∀ x ∈ ws, ∃ c : Cell, h[x]? = some c ∧ c.vm.isStatics = false) : Sta Z h' C n d v := by
  obtain ⟨cf, i, k, f, st, cell, h1, h2, h3, h4, h5, h6, h7⟩ := F
  refine ⟨cf, i, k, f, st, cell, h1, h2, h3, h4, K.2.1 st cell h5 fun z => ?_, h6, h7⟩
  obtain ⟨c, q1, q2⟩ := q st z
  cases q1.symm.trans h5
  rw [q2] at h6
  cases h6
theorem own_selp {s : State} {args : Array Value} {y : MethodName} {n : Nat} (wi : (Cond.instantiable y.cls n).before args s = true) (hp : s.PrivateAt y) (hi : (Cond.instanceMethod y).before args s = true) (hy : y.cls ≠ "java/lang/invoke/MethodHandle" ∧ y.cls ≠ "java/lang/invoke/VarHandle") : (Cond.selects y.cls y y).before args s = true := by
  obtain ⟨c, k, h1, h2, -, h4, -⟩ := Cond.instantiable_spec wi
  simp only [Bool.or_eq_false_iff] at h4
  exact selects_self_of_private h1 h2 h4.1 hp hi hy
theorem own_ne32 {x k : Int32} {a : Int} (ha : k.toInt = a) (h : ¬ x = k) : a ≠ x.toInt := fun e => h (Int32.toInt_inj.mp (e.symm.trans ha.symm))
theorem own_nn (x : Int32) : 0 ≤ (x &&& (2147483647 : Int32)).toInt := (c_andS x 2147483647).2.2 (by decide)
theorem own_rem (x : Int32) (k : Int32) (d : Int) (hd : k.toInt = d) (h0 : 0 < d) : 0 ≤ ((x &&& (2147483647 : Int32)) % k).toInt ∧ ((x &&& (2147483647 : Int32)) % k).toInt < d := by
  have h := own_nn x
  rw [Int32.toInt_mod, hd]
  exact ⟨Int.tmod_nonneg _ h, Int.tmod_lt_of_pos _ h0⟩
theorem own_remb (x : Int32) (k : Int32) (d : Int) (hd : k.toInt = d) (h0 : 0 < d) : ¬ ((x &&& (2147483647 : Int32)) % k) < 0 ∧ ((x &&& (2147483647 : Int32)) % k) < k := by
  obtain ⟨h1, h2⟩ := own_rem x k d hd h0
  rw [Int32.lt_iff_toInt_lt, Int32.lt_iff_toInt_lt, hd]
  exact ⟨Int.not_lt.mpr h1, h2⟩
def own_at (xs : List Int32) (j : Int32) : Int32 := xs.getD j.toNatClampNeg 0
theorem own_atv (xs : List Int32) (j : Int32) : (xs.map Value.int).getD j.toNatClampNeg (.int 0) = .int (own_at xs j) := by
  unfold own_at
  generalize j.toNatClampNeg = n
  induction xs generalizing n with
  | nil => rfl
  | cons a r ih => cases n with
    | zero => rfl
    | succ n => simpa using ih n
theorem own_setl {l : List Value} {k n : Nat} {v : Value} (h : l.length = n) : (l.set k v).length = n := by rw [List.length_set]; exact h
theorem own_setg {l : List Value} {k : Nat} {v d : Value} (h : k < l.length) : (l.set k v).getD k d = v := by simp [List.getD, List.getElem?_set, h]
theorem own_setn {l : List Value} {k i : Nat} {v d : Value} (h : i ≠ k) : (l.set k v).getD i d = l.getD i d := by simp [List.getD, List.getElem?_set, Ne.symm h]
theorem own_lt_of {l : List Value} {n : Nat} {j z : Int32} (h : l.length = n) (q : ¬ j < 0 ∧ j < z) (hz : z.toNatClampNeg = n := by decide) : j.toNatClampNeg < l.length := by
  rw [h, ← hz]
  obtain ⟨q1, q2⟩ := q
  rw [Int32.lt_iff_toInt_lt] at q1 q2
  have : (0 : Int32).toInt = 0 := rfl
  simp only [Int32.toNatClampNeg]
  omega
theorem own_eqi {args : Array Value} {s : State} {t : Term} {k : Int32} (h : (Jvm.Cond.eq t (.int k)).value args s none s [] = some true) : t.eval args s none [] s = some (.int k) := by
  simp only [Cond.value, Term.eval] at h
  cases ht : t.eval args s none [] s with
  | none => simp [ht] at h
  | some x => cases x <;> simp_all
theorem own_need (p e : Int32) (hp : 0 ≤ p.toInt ∧ p.toInt ≤ 3) (he : 0 ≤ e.toInt ∧ e.toInt ≤ 3) (h : p < e) : ¬ (e - p) < (1 : Int32) := by
  rw [Int32.lt_iff_toInt_lt] at h ⊢
  rw [Int32.toInt_sub, show (1 : Int32).toInt = 1 from rfl, Int.bmod_eq_of_le (by omega) (by omega)]
  omega
theorem own_inb (p e : Int32) (hp : 0 ≤ p.toInt ∧ p.toInt ≤ 3) (he : 0 ≤ e.toInt ∧ e.toInt ≤ 3) (h : p < e) : ¬ p < 0 ∧ p < (3 : Int32) := by
  rw [Int32.lt_iff_toInt_lt] at h
  rw [Int32.lt_iff_toInt_lt, Int32.lt_iff_toInt_lt, show (0 : Int32).toInt = 0 from rfl, show (3 : Int32).toInt = 3 from rfl]
  omega
theorem d1_0 : decode prog_46_method_2_code 0 = .ok (.aload_n 0, 1) := by decide +kernel
theorem d1_1 : decode prog_46_method_2_code 1 = .ok (.invokespecial 7, 3) := by decide +kernel
theorem wd7 {Z : State} {a0 : Array Value} (hw : ∀ d ∈ tables_1, d.before a0 Z = true) : (Jvm.Cond.methodLink "com/example/piece/piece/store/RecordReader" (7 : Nat) ({ cls := "java/lang/Object", name := "<init>", desc := "()V" } : Jvm.MethodName)).before a0 Z = true := hw _ (List.mem_of_getElem? (i := 7) rfl)
theorem wd9 {Z : State} {a0 : Array Value} (hw : ∀ d ∈ tables_1, d.before a0 Z = true) : (Jvm.Cond.code ({ cls := "java/lang/Object", name := "<init>", desc := "()V" } : Jvm.MethodName) object_method_1_code (1 : Nat) (Option.none : Option Jvm.ClassFile.FieldType)).before a0 Z = true := hw _ (List.mem_of_getElem? (i := 9) rfl)
theorem wd8 {Z : State} {a0 : Array Value} (hw : ∀ d ∈ tables_1, d.before a0 Z = true) : (Jvm.Cond.instanceMethod ({ cls := "java/lang/Object", name := "<init>", desc := "()V" } : Jvm.MethodName)).before a0 Z = true := hw _ (List.mem_of_getElem? (i := 8) rfl)
theorem d1_4 : decode prog_46_method_2_code 4 = .ok (.aload_n 0, 1) := by decide +kernel
theorem d1_5 : decode prog_46_method_2_code 5 = .ok (.aload_n 1, 1) := by decide +kernel
theorem d1_6 : decode prog_46_method_2_code 6 = .ok (.putfield 12, 3) := by decide +kernel
theorem wd10 {Z : State} {a0 : Array Value} (hw : ∀ d ∈ tables_1, d.before a0 Z = true) : (Jvm.Cond.fieldLink "com/example/piece/piece/store/RecordReader" (12 : Nat) "com/example/piece/piece/store/RecordReader" "bytes" "[B").before a0 Z = true := hw _ (List.mem_of_getElem? (i := 10) rfl)
theorem wd11 {Z : State} {a0 : Array Value} (hw : ∀ d ∈ tables_1, d.before a0 Z = true) : (Jvm.Cond.laysFinal "com/example/piece/piece/store/RecordReader" "com/example/piece/piece/store/RecordReader" "bytes" "[B").before a0 Z = true := hw _ (List.mem_of_getElem? (i := 11) rfl)
theorem wd1 {Z : State} {a0 : Array Value} (hw : ∀ d ∈ tables_1, d.before a0 Z = true) : (Jvm.Cond.instantiable "com/example/piece/piece/store/RecordReader" (3 : Nat)).before a0 Z = true := hw _ (List.mem_of_getElem? (i := 1) rfl)
theorem d1_9 : decode prog_46_method_2_code 9 = .ok (.aload_n 0, 1) := by decide +kernel
theorem d1_10 : decode prog_46_method_2_code 10 = .ok (.iload_n 3, 1) := by decide +kernel
theorem d1_11 : decode prog_46_method_2_code 11 = .ok (.putfield 16, 3) := by decide +kernel
theorem wd12 {Z : State} {a0 : Array Value} (hw : ∀ d ∈ tables_1, d.before a0 Z = true) : (Jvm.Cond.fieldLink "com/example/piece/piece/store/RecordReader" (16 : Nat) "com/example/piece/piece/store/RecordReader" "end" "I").before a0 Z = true := hw _ (List.mem_of_getElem? (i := 12) rfl)
theorem wd13 {Z : State} {a0 : Array Value} (hw : ∀ d ∈ tables_1, d.before a0 Z = true) : (Jvm.Cond.laysFinal "com/example/piece/piece/store/RecordReader" "com/example/piece/piece/store/RecordReader" "end" "I").before a0 Z = true := hw _ (List.mem_of_getElem? (i := 13) rfl)
theorem d1_14 : decode prog_46_method_2_code 14 = .ok (.aload_n 0, 1) := by decide +kernel
theorem d1_15 : decode prog_46_method_2_code 15 = .ok (.iload_n 2, 1) := by decide +kernel
theorem d1_16 : decode prog_46_method_2_code 16 = .ok (.putfield 20, 3) := by decide +kernel
theorem wd14 {Z : State} {a0 : Array Value} (hw : ∀ d ∈ tables_1, d.before a0 Z = true) : (Jvm.Cond.fieldLink "com/example/piece/piece/store/RecordReader" (20 : Nat) "com/example/piece/piece/store/RecordReader" "position" "I").before a0 Z = true := hw _ (List.mem_of_getElem? (i := 14) rfl)
theorem wd15 {Z : State} {a0 : Array Value} (hw : ∀ d ∈ tables_1, d.before a0 Z = true) : (Jvm.Cond.lays "com/example/piece/piece/store/RecordReader" "com/example/piece/piece/store/RecordReader" "position" "I").before a0 Z = true := hw _ (List.mem_of_getElem? (i := 15) rfl)
theorem d1_19 : decode prog_46_method_2_code 19 = .ok (.return_, 1) := by decide +kernel
theorem pn0 : plainName "com/example/piece/piece/store/RecordReader" = true := by first | (simp [plainName, overriddenIn]; done) | decide +kernel
def Q1 (Z : State) (a1 : Addr) (a2 : Addr) (p3 : Int32) (p4 : Int32) (u_a1_bytes : Value) (u_a1_end : Value) (u_a1_position : Value) (h0 : Heap) (n0 : Nat) (v : Option Value) (h : Heap) (L : List Loc) : Prop := v = none ∧ Fr n0 L ∧ Keep h0 h [a1] ∧ Exa Z h a1 "com/example/piece/piece/store/RecordReader" ∧ Fld Z h a1 "com/example/piece/piece/store/RecordReader" "bytes" "[B" (.ref a2) ∧ Fld Z h a1 "com/example/piece/piece/store/RecordReader" "end" "I" (.int p4) ∧ Fld Z h a1 "com/example/piece/piece/store/RecordReader" "position" "I" (.int p3)
theorem ef1 (m : MethodId) (x0 : Addr) (x1 : Addr) (x2 : Int32) (x3 : Int32) : entryFrame m #[(.ref x0), (.ref x1), (.int x2), (.int x3)] 4 = mkF m 0 #[.val (.ref x0), .val (.ref x1), .val (.int x2), .val (.int x3)] [] := by first | (simp [entryFrame, mkF, argsToLocals, Value.category]; done) | rfl
set_option maxRecDepth 65536 in
set_option maxHeartbeats 16000000 in
theorem rm1 (l : Launch) (Z : State) (a0 : Array Value) (hw : ∀ d ∈ tables_1, d.before a0 Z = true) (ws : List Jvm.Cond) (a1 : Addr) (a2 : Addr) (p3 : Int32) (p4 : Int32) (u_a1_bytes : Value) (u_a1_end : Value) (u_a1_position : Value) (h0 : Heap) (n0 : Nat) (Z0 : n0 ≤ h0.size) (E_a1 : Exa Z h0 a1 "com/example/piece/piece/store/RecordReader") (F_a1_bytes : Fld Z h0 a1 "com/example/piece/piece/store/RecordReader" "bytes" "[B" u_a1_bytes) (F_a1_end : Fld Z h0 a1 "com/example/piece/piece/store/RecordReader" "end" "I" u_a1_end) (F_a1_position : Fld Z h0 a1 "com/example/piece/piece/store/RecordReader" "position" "I" u_a1_position) (g_a1 : n0 ≤ a1) :
    MetFree l (⟨"com/example/piece/piece/store/RecordReader", "<init>", "([BII)V"⟩ : MethodName) (head1 (Jvm.Cond.code (⟨"com/example/piece/piece/store/RecordReader", "<init>", "([BII)V"⟩ : MethodName) prog_46_method_2_code 4 none :: ws) ({ frames := 1, cells := 0, slots := 0, locals := 12 } : Room)) (fun a U => a = #[(.ref a1), (.ref a2), (.int p3), (.int p4)] ∧ Z.Warmed39 U.vm ∧ U.heap = h0) (fun _ _ _ _ _ => True) (fun _ U o U' => ∃ v L, o = .returned v ∧ Q1 Z a1 a2 p3 p4 u_a1_bytes u_a1_end u_a1_position h0 n0 v U'.heap L ∧ FrameEnd U o U' L ({ frames := 1, cells := 0, slots := 0, locals := 12 } : Room).cells ({ frames := 1, cells := 0, slots := 0, locals := 12 } : Room).slots) := by
  refine MetFree.of_bodySF (plainFor_of_name pn0) hisR ?_
  intro p e s m args below meth c s₁ Bd hml0 hP hK
  obtain ⟨rfl, hZ, hh⟩ := hP
  have hx := Bd.exec
  have hby := Bd.bytes
  have hml : c.maxLocals = 4 := hml0
  have hown : s.vm.findClass "com/example/piece/piece/store/RecordReader" = some m.cls := findClass_of_methodNamed Bd.named
  have hnm := (name_of_methodNamed Bd.named Bd.method).1
  have X0 : Stand p l e ({ frames := 1, cells := 0, slots := 0, locals := 12 } : Room) s m #[(.ref a1), (.ref a2), (.int p3), (.int p4)] below meth c s₁ [] 0 0 := Stand.of_body Bd
  have e0 : s₁.heap = h0 := by rw [← hh, Bd.state]; rfl
  have N0 := Fr.nil n0
  have K0 : Keep h0 h0 [a1] := Keep.refl h0 _
  refine Go.st (P := fun o U' => ∃ v L, o = .returned v ∧ Q1 Z a1 a2 p3 p4 u_a1_bytes u_a1_end u_a1_position h0 n0 v U'.heap L ∧ FrameEnd s o U' L ({ frames := 1, cells := 0, slots := 0, locals := 12 } : Room).cells ({ frames := 1, cells := 0, slots := 0, locals := 12 } : Room).slots) (fun t k => castTop (ef1 m a1 a2 p3 p4) k) ?_
  show Go _ _ _ (s₁.setTop (mkF m 0 #[.val (.ref a1), .val (.ref a2), .val (.int p3), .val (.int p4)] [])) _
  refine Go.st (fun t k => XS.aloadN X0.here hx rfl (hb hby d1_0) rfl rfl k) ?_
  obtain ⟨T1, X1, e1, st1⟩ := initO X0 hx hZ hown (wd7 hw) (wd8 hw) (wd9 hw) e0 (g := (mkF m 1 #[.val (.ref a1), .val (.ref a2), .val (.int p3), .val (.int p4)] [(.ref a1)])) rfl (by rw [hml]; rfl) rfl (hb hby d1_1) (by decide) (W := 0) (by show 2 * 0 + _ ≤ _; exact Nat.le_of_eq rfl) (by decide)
  refine Go.st st1 ?_
  show Go _ _ _ (T1.setTop (mkF m 4 #[.val (.ref a1), .val (.ref a2), .val (.int p3), .val (.int p4)] [])) _
  refine Go.st (fun t k => XS.aloadN X1.here hx rfl (hb hby d1_4) rfl rfl k) ?_
  refine Go.st (fun t k => XS.aloadN X1.here hx rfl (hb hby d1_5) rfl rfl k) ?_
  obtain ⟨T2, h2, X2, e2, W2, st2⟩ := putF X1 hx hZ hown (host := "") (Or.inl (wd10 hw)) Via.refl e1 F_a1_bytes E_a1 (Or.inr ⟨(wd11 hw), rfl, hnm⟩) (wd1 hw) (ty := (.array .byte)) (by decide) rfl rfl (g := (mkF m 6 #[.val (.ref a1), .val (.ref a2), .val (.int p3), .val (.int p4)] [(.ref a2), (.ref a1)])) rfl rfl (hb hby d1_6)
  refine Go.st st2 ?_
  have N2 := Fr.snoc X2 N0 g_a1
  replace E_a1 := E_a1.wr W2
  replace F_a1_bytes := F_a1_bytes.same W2
  replace F_a1_end := F_a1_end.other W2 (Or.inr (slot_ne (Or.inr (wd13 hw)) (Or.inr (wd11 hw)) (by decide) (t := .int) (t' := (.array .byte)) (by decide) (by decide)))
  replace F_a1_position := F_a1_position.other W2 (Or.inr (slot_ne (Or.inl (wd15 hw)) (Or.inr (wd11 hw)) (by decide) (t := .int) (t' := (.array .byte)) (by decide) (by decide)))
  replace Z0 := Nat.le_trans Z0 (Nat.le_of_eq W2.size.symm)
  replace K0 := K0.wr W2 (Or.inl (by simp))
  show Go _ _ _ (T2.setTop (mkF m 9 #[.val (.ref a1), .val (.ref a2), .val (.int p3), .val (.int p4)] [])) _
  refine Go.st (fun t k => XS.aloadN X2.here hx rfl (hb hby d1_9) rfl rfl k) ?_
  refine Go.st (fun t k => XS.iloadN X2.here hx rfl (hb hby d1_10) rfl k) ?_
  obtain ⟨T3, h3, X3, e3, W3, st3⟩ := putF X2 hx hZ hown (host := "") (Or.inl (wd12 hw)) Via.refl e2 F_a1_end E_a1 (Or.inr ⟨(wd13 hw), rfl, hnm⟩) (wd1 hw) (ty := .int) (by decide) rfl rfl (g := (mkF m 11 #[.val (.ref a1), .val (.ref a2), .val (.int p3), .val (.int p4)] [(.int p4), (.ref a1)])) rfl rfl (hb hby d1_11)
  refine Go.st st3 ?_
  have N3 := Fr.snoc X3 N2 g_a1
  replace E_a1 := E_a1.wr W3
  replace F_a1_bytes := F_a1_bytes.other W3 (Or.inr (slot_ne (Or.inr (wd11 hw)) (Or.inr (wd13 hw)) (by decide) (t := (.array .byte)) (t' := .int) (by decide) (by decide)))
  replace F_a1_end := F_a1_end.same W3
  replace F_a1_position := F_a1_position.other W3 (Or.inr (slot_ne (Or.inl (wd15 hw)) (Or.inr (wd13 hw)) (by decide) (t := .int) (t' := .int) (by decide) (by decide)))
  replace Z0 := Nat.le_trans Z0 (Nat.le_of_eq W3.size.symm)
  replace K0 := K0.wr W3 (Or.inl (by simp))
  show Go _ _ _ (T3.setTop (mkF m 14 #[.val (.ref a1), .val (.ref a2), .val (.int p3), .val (.int p4)] [])) _
  refine Go.st (fun t k => XS.aloadN X3.here hx rfl (hb hby d1_14) rfl rfl k) ?_
  refine Go.st (fun t k => XS.iloadN X3.here hx rfl (hb hby d1_15) rfl k) ?_
  obtain ⟨T4, h4, X4, e4, W4, st4⟩ := putF X3 hx hZ hown (host := "") (Or.inl (wd14 hw)) Via.refl e3 F_a1_position E_a1 (Or.inl (wd15 hw)) (wd1 hw) (ty := .int) (by decide) rfl rfl (g := (mkF m 16 #[.val (.ref a1), .val (.ref a2), .val (.int p3), .val (.int p4)] [(.int p3), (.ref a1)])) rfl rfl (hb hby d1_16)
  refine Go.st st4 ?_
  have N4 := Fr.snoc X4 N3 g_a1
  replace E_a1 := E_a1.wr W4
  replace F_a1_bytes := F_a1_bytes.other W4 (Or.inr (slot_ne (Or.inr (wd11 hw)) (Or.inl (wd15 hw)) (by decide) (t := (.array .byte)) (t' := .int) (by decide) (by decide)))
  replace F_a1_end := F_a1_end.other W4 (Or.inr (slot_ne (Or.inr (wd13 hw)) (Or.inl (wd15 hw)) (by decide) (t := .int) (t' := .int) (by decide) (by decide)))
  replace F_a1_position := F_a1_position.same W4
  replace Z0 := Nat.le_trans Z0 (Nat.le_of_eq W4.size.symm)
  replace K0 := K0.wr W4 (Or.inl (by simp))
  show Go _ _ _ (T4.setTop (mkF m 19 #[.val (.ref a1), .val (.ref a2), .val (.int p3), .val (.int p4)] [])) _
  obtain ⟨fs, hr, hrun, hended, hW, hsame⟩ := X4.leave (v := none) (fun _ => rfl)
  refine Go.fin (X4.returnOut hx Bd.returns (hb hby d1_19) hr) hrun hended ⟨_, _, rfl, ?_, ⟨_, rfl⟩, hW, hsame.mono (by decide) (by decide)⟩
  show Q1 Z a1 a2 p3 p4 u_a1_bytes u_a1_end u_a1_position h0 n0 _ T4.heap _
  rw [e4]
  exact ⟨rfl, N4, K0, E_a1, F_a1_bytes, F_a1_end, F_a1_position⟩
theorem d3_0 : decode prog_46_method_4_code 0 = .ok (.aload_n 0, 1) := by decide +kernel
theorem d3_1 : decode prog_46_method_4_code 1 = .ok (.getfield 20, 3) := by decide +kernel
theorem d3_4 : decode prog_46_method_4_code 4 = .ok (.aload_n 0, 1) := by decide +kernel
theorem d3_5 : decode prog_46_method_4_code 5 = .ok (.getfield 16, 3) := by decide +kernel
theorem d3_8 : decode prog_46_method_4_code 8 = .ok (.if_icmp .ge 7, 3) := by decide +kernel
theorem d3_11 : decode prog_46_method_4_code 11 = .ok (.iconst 1, 1) := by decide +kernel
theorem d3_12 : decode prog_46_method_4_code 12 = .ok (.goto 4, 3) := by decide +kernel
theorem d3_16 : decode prog_46_method_4_code 16 = .ok (.ireturn, 1) := by decide +kernel
theorem d3_15 : decode prog_46_method_4_code 15 = .ok (.iconst 0, 1) := by decide +kernel
def f3 (w_a1_position : Int32) (w_a1_end : Int32) : Int32 := (if w_a1_position < w_a1_end then (1 : Int32) else (0 : Int32))
def Q3 (Z : State) (a1 : Addr) (w_a1_position : Int32) (w_a1_end : Int32) (h0 : Heap) (n0 : Nat) (v : Option Value) (h : Heap) (L : List Loc) : Prop := v = some (.int (f3 w_a1_position w_a1_end)) ∧ Fr n0 L ∧ h = h0
theorem ef3 (m : MethodId) (x0 : Addr) : entryFrame m #[(.ref x0)] 1 = mkF m 0 #[.val (.ref x0)] [] := by first | (simp [entryFrame, mkF, argsToLocals, Value.category]; done) | rfl
set_option maxRecDepth 65536 in
set_option maxHeartbeats 16000000 in
theorem rm3 (l : Launch) (Z : State) (a0 : Array Value) (hw : ∀ d ∈ tables_1, d.before a0 Z = true) (ws : List Jvm.Cond) (a1 : Addr) (w_a1_position : Int32) (w_a1_end : Int32) (h0 : Heap) (n0 : Nat) (Z0 : n0 ≤ h0.size) (F_a1_position : Fld Z h0 a1 "com/example/piece/piece/store/RecordReader" "position" "I" (.int w_a1_position)) (F_a1_end : Fld Z h0 a1 "com/example/piece/piece/store/RecordReader" "end" "I" (.int w_a1_end)) :
    MetFree l (⟨"com/example/piece/piece/store/RecordReader", "hasMore", "()Z"⟩ : MethodName) (head1 (Jvm.Cond.code (⟨"com/example/piece/piece/store/RecordReader", "hasMore", "()Z"⟩ : MethodName) prog_46_method_4_code 1 (some .boolean) :: ws) ({ frames := 0, cells := 0, slots := 0, locals := 0 } : Room)) (fun a U => a = #[(.ref a1)] ∧ Z.Warmed39 U.vm ∧ U.heap = h0) (fun _ _ _ _ _ => True) (fun _ U o U' => ∃ v L, o = .returned v ∧ Q3 Z a1 w_a1_position w_a1_end h0 n0 v U'.heap L ∧ FrameEnd U o U' L ({ frames := 0, cells := 0, slots := 0, locals := 0 } : Room).cells ({ frames := 0, cells := 0, slots := 0, locals := 0 } : Room).slots) := by
  refine MetFree.of_bodySF (plainFor_of_name pn0) hisR ?_
  intro p e s m args below meth c s₁ Bd hml0 hP hK
  obtain ⟨rfl, hZ, hh⟩ := hP
  have hx := Bd.exec
  have hby := Bd.bytes
  have hml : c.maxLocals = 1 := hml0
  have hown : s.vm.findClass "com/example/piece/piece/store/RecordReader" = some m.cls := findClass_of_methodNamed Bd.named
  have hnm := (name_of_methodNamed Bd.named Bd.method).1
  have X0 : Stand p l e ({ frames := 0, cells := 0, slots := 0, locals := 0 } : Room) s m #[(.ref a1)] below meth c s₁ [] 0 0 := Stand.of_body Bd
  have e0 : s₁.heap = h0 := by rw [← hh, Bd.state]; rfl
  have N0 := Fr.nil n0
  have K0 : Keep h0 h0 [] := Keep.refl h0 _
  refine Go.st (P := fun o U' => ∃ v L, o = .returned v ∧ Q3 Z a1 w_a1_position w_a1_end h0 n0 v U'.heap L ∧ FrameEnd s o U' L ({ frames := 0, cells := 0, slots := 0, locals := 0 } : Room).cells ({ frames := 0, cells := 0, slots := 0, locals := 0 } : Room).slots) (fun t k => castTop (ef3 m a1) k) ?_
  show Go _ _ _ (s₁.setTop (mkF m 0 #[.val (.ref a1)] [])) _
  refine Go.st (fun t k => XS.aloadN X0.here hx rfl (hb hby d3_0) rfl rfl k) ?_
  obtain ⟨T1, X1, e1, st1⟩ := getF X0 hx hZ hown (host := "") (Or.inl (wd14 hw)) Via.refl e0 F_a1_position (g := (mkF m 1 #[.val (.ref a1)] [(.ref a1)])) rfl rfl (hb hby d3_1)
  refine Go.st st1 ?_
  show Go _ _ _ (T1.setTop (mkF m 4 #[.val (.ref a1)] [(.int w_a1_position)])) _
  refine Go.st (fun t k => XS.aloadN X1.here hx rfl (hb hby d3_4) rfl rfl k) ?_
  obtain ⟨T2, X2, e2, st2⟩ := getF X1 hx hZ hown (host := "") (Or.inl (wd12 hw)) Via.refl e1 F_a1_end (g := (mkF m 5 #[.val (.ref a1)] [(.ref a1), (.int w_a1_position)])) rfl rfl (hb hby d3_5)
  refine Go.st st2 ?_
  show Go _ _ _ (T2.setTop (mkF m 8 #[.val (.ref a1)] [(.int w_a1_end), (.int w_a1_position)])) _
  by_cases hc3 : w_a1_position < w_a1_end
  · refine Go.st (fun t k => XS.icmpNo X2.here hx rfl (hb hby d3_8) rfl (tlt hc3).2.1 k) ?_
    show Go _ _ _ (T2.setTop (mkF m 11 #[.val (.ref a1)] [])) _
    refine Go.st (fun t k => XS.iconst X2.here hx rfl (hb hby d3_11) k) ?_
    refine Go.st (fun t k => XS.goto X2.here hx rfl (pc0 := 12) (pc' := 16) rfl (hb hby d3_12) (by decide) (by decide) k) ?_
    obtain ⟨fs, hr, hrun, hended, hW, hsame⟩ := X2.leave (v := some (.int (1 : Int32))) (fun h => by rw [Bd.returns] at h; cases h)
    refine Go.fin (retN X2 hx (t := .boolean) Bd.returns (by simp) (hb hby d3_16) hr) hrun hended ⟨_, _, rfl, ?_, ⟨_, rfl⟩, hW, hsame.mono (by decide) (by decide)⟩
    show Q3 Z a1 w_a1_position w_a1_end h0 n0 _ T2.heap _
    rw [e2]
    exact ⟨(by unfold f3; simp only [if_pos hc3]), N0, rfl⟩
  · refine Go.st (fun t k => XS.icmpYes X2.here hx rfl (pc0 := 8) (pc' := 15) rfl (hb hby d3_8) rfl (flt hc3).2.1 (by decide) (by decide) k) ?_
    show Go _ _ _ (T2.setTop (mkF m 15 #[.val (.ref a1)] [])) _
    refine Go.st (fun t k => XS.iconst X2.here hx rfl (hb hby d3_15) k) ?_
    obtain ⟨fs, hr, hrun, hended, hW, hsame⟩ := X2.leave (v := some (.int (0 : Int32))) (fun h => by rw [Bd.returns] at h; cases h)
    refine Go.fin (retN X2 hx (t := .boolean) Bd.returns (by simp) (hb hby d3_16) hr) hrun hended ⟨_, _, rfl, ?_, ⟨_, rfl⟩, hW, hsame.mono (by decide) (by decide)⟩
    show Q3 Z a1 w_a1_position w_a1_end h0 n0 _ T2.heap _
    rw [e2]
    exact ⟨(by unfold f3; simp only [if_neg hc3]), N0, rfl⟩
theorem d7_0 : decode prog_46_method_21_code 0 = .ok (.iload_n 1, 1) := by decide +kernel
theorem d7_1 : decode prog_46_method_21_code 1 = .ok (.aload_n 0, 1) := by decide +kernel
theorem d7_2 : decode prog_46_method_21_code 2 = .ok (.getfield 16, 3) := by decide +kernel
theorem d7_5 : decode prog_46_method_21_code 5 = .ok (.aload_n 0, 1) := by decide +kernel
theorem d7_6 : decode prog_46_method_21_code 6 = .ok (.getfield 20, 3) := by decide +kernel
theorem d7_9 : decode prog_46_method_21_code 9 = .ok (.isub, 1) := by decide +kernel
theorem d7_10 : decode prog_46_method_21_code 10 = .ok (.if_icmp .le 8, 3) := by decide +kernel
theorem d7_18 : decode prog_46_method_21_code 18 = .ok (.return_, 1) := by decide +kernel
def Q7 (Z : State) (a1 : Addr) (p2 : Int32) (w_a1_end : Int32) (w_a1_position : Int32) (h0 : Heap) (n0 : Nat) (v : Option Value) (h : Heap) (L : List Loc) : Prop := v = none ∧ Fr n0 L ∧ h = h0
theorem ef7 (m : MethodId) (x0 : Addr) (x1 : Int32) : entryFrame m #[(.ref x0), (.int x1)] 2 = mkF m 0 #[.val (.ref x0), .val (.int x1)] [] := by first | (simp [entryFrame, mkF, argsToLocals, Value.category]; done) | rfl
set_option maxRecDepth 65536 in
set_option maxHeartbeats 16000000 in
theorem rm7 (l : Launch) (Z : State) (a0 : Array Value) (hw : ∀ d ∈ tables_1, d.before a0 Z = true) (ws : List Jvm.Cond) (a1 : Addr) (p2 : Int32) (w_a1_end : Int32) (w_a1_position : Int32) (h0 : Heap) (n0 : Nat) (Z0 : n0 ≤ h0.size) (F_a1_end : Fld Z h0 a1 "com/example/piece/piece/store/RecordReader" "end" "I" (.int w_a1_end)) (F_a1_position : Fld Z h0 a1 "com/example/piece/piece/store/RecordReader" "position" "I" (.int w_a1_position)) (hneed : ¬ (w_a1_end - w_a1_position) < p2) :
    MetFree l (⟨"com/example/piece/piece/store/RecordReader", "need", "(I)V"⟩ : MethodName) (head1 (Jvm.Cond.code (⟨"com/example/piece/piece/store/RecordReader", "need", "(I)V"⟩ : MethodName) prog_46_method_21_code 2 none :: ws) ({ frames := 0, cells := 0, slots := 0, locals := 0 } : Room)) (fun a U => a = #[(.ref a1), (.int p2)] ∧ Z.Warmed39 U.vm ∧ U.heap = h0) (fun _ _ _ _ _ => True) (fun _ U o U' => ∃ v L, o = .returned v ∧ Q7 Z a1 p2 w_a1_end w_a1_position h0 n0 v U'.heap L ∧ FrameEnd U o U' L ({ frames := 0, cells := 0, slots := 0, locals := 0 } : Room).cells ({ frames := 0, cells := 0, slots := 0, locals := 0 } : Room).slots) := by
  refine MetFree.of_bodySF (plainFor_of_name pn0) hisR ?_
  intro p e s m args below meth c s₁ Bd hml0 hP hK
  obtain ⟨rfl, hZ, hh⟩ := hP
  have hx := Bd.exec
  have hby := Bd.bytes
  have hml : c.maxLocals = 2 := hml0
  have hown : s.vm.findClass "com/example/piece/piece/store/RecordReader" = some m.cls := findClass_of_methodNamed Bd.named
  have hnm := (name_of_methodNamed Bd.named Bd.method).1
  have X0 : Stand p l e ({ frames := 0, cells := 0, slots := 0, locals := 0 } : Room) s m #[(.ref a1), (.int p2)] below meth c s₁ [] 0 0 := Stand.of_body Bd
  have e0 : s₁.heap = h0 := by rw [← hh, Bd.state]; rfl
  have N0 := Fr.nil n0
  have K0 : Keep h0 h0 [] := Keep.refl h0 _
  refine Go.st (P := fun o U' => ∃ v L, o = .returned v ∧ Q7 Z a1 p2 w_a1_end w_a1_position h0 n0 v U'.heap L ∧ FrameEnd s o U' L ({ frames := 0, cells := 0, slots := 0, locals := 0 } : Room).cells ({ frames := 0, cells := 0, slots := 0, locals := 0 } : Room).slots) (fun t k => castTop (ef7 m a1 p2) k) ?_
  show Go _ _ _ (s₁.setTop (mkF m 0 #[.val (.ref a1), .val (.int p2)] [])) _
  refine Go.st (fun t k => XS.iloadN X0.here hx rfl (hb hby d7_0) rfl k) ?_
  refine Go.st (fun t k => XS.aloadN X0.here hx rfl (hb hby d7_1) rfl rfl k) ?_
  obtain ⟨T1, X1, e1, st1⟩ := getF X0 hx hZ hown (host := "") (Or.inl (wd12 hw)) Via.refl e0 F_a1_end (g := (mkF m 2 #[.val (.ref a1), .val (.int p2)] [(.ref a1), (.int p2)])) rfl rfl (hb hby d7_2)
  refine Go.st st1 ?_
  show Go _ _ _ (T1.setTop (mkF m 5 #[.val (.ref a1), .val (.int p2)] [(.int w_a1_end), (.int p2)])) _
  refine Go.st (fun t k => XS.aloadN X1.here hx rfl (hb hby d7_5) rfl rfl k) ?_
  obtain ⟨T2, X2, e2, st2⟩ := getF X1 hx hZ hown (host := "") (Or.inl (wd14 hw)) Via.refl e1 F_a1_position (g := (mkF m 6 #[.val (.ref a1), .val (.int p2)] [(.ref a1), (.int w_a1_end), (.int p2)])) rfl rfl (hb hby d7_6)
  refine Go.st st2 ?_
  show Go _ _ _ (T2.setTop (mkF m 9 #[.val (.ref a1), .val (.int p2)] [(.int w_a1_position), (.int w_a1_end), (.int p2)])) _
  refine Go.st (fun t k => XS.isub X2.here hx rfl (hb hby d7_9) rfl k) ?_
  show Go _ _ _ (T2.setTop (mkF m 10 #[.val (.ref a1), .val (.int p2)] [(.int (w_a1_end - w_a1_position)), (.int p2)])) _
  refine Go.st (fun t k => XS.icmpYes X2.here hx rfl (pc0 := 10) (pc' := 18) rfl (hb hby d7_10) rfl (flt (show ¬ ((w_a1_end - w_a1_position) < p2) from hneed)).2.2.2 (by decide) (by decide) k) ?_
  show Go _ _ _ (T2.setTop (mkF m 18 #[.val (.ref a1), .val (.int p2)] [])) _
  obtain ⟨fs, hr, hrun, hended, hW, hsame⟩ := X2.leave (v := none) (fun _ => rfl)
  refine Go.fin (X2.returnOut hx Bd.returns (hb hby d7_18) hr) hrun hended ⟨_, _, rfl, ?_, ⟨_, rfl⟩, hW, hsame.mono (by decide) (by decide)⟩
  show Q7 Z a1 p2 w_a1_end w_a1_position h0 n0 _ T2.heap _
  rw [e2]
  exact ⟨rfl, N0, rfl⟩
theorem d6_0 : decode prog_46_method_5_code 0 = .ok (.aload_n 0, 1) := by decide +kernel
theorem d6_1 : decode prog_46_method_5_code 1 = .ok (.iconst 1, 1) := by decide +kernel
theorem d6_2 : decode prog_46_method_5_code 2 = .ok (.invokevirtual 23, 3) := by decide +kernel
theorem wd34 {Z : State} {a0 : Array Value} (hw : ∀ d ∈ tables_1, d.before a0 Z = true) : (Jvm.Cond.methodLink "com/example/piece/piece/store/RecordReader" (23 : Nat) ({ cls := "com/example/piece/piece/store/RecordReader", name := "need", desc := "(I)V" } : Jvm.MethodName)).before a0 Z = true := hw _ (List.mem_of_getElem? (i := 34) rfl)
theorem wd37 {Z : State} {a0 : Array Value} (hw : ∀ d ∈ tables_1, d.before a0 Z = true) : (Jvm.Cond.code ({ cls := "com/example/piece/piece/store/RecordReader", name := "need", desc := "(I)V" } : Jvm.MethodName) prog_46_method_21_code (2 : Nat) (Option.none : Option Jvm.ClassFile.FieldType)).before a0 Z = true := hw _ (List.mem_of_getElem? (i := 37) rfl)
theorem wd2 {Z : State} {a0 : Array Value} (hw : ∀ d ∈ tables_1, d.before a0 Z = true) : (Jvm.Cond.initialized "com/example/piece/piece/store/RecordReader").before a0 Z = true := hw _ (List.mem_of_getElem? (i := 2) rfl)
theorem pd0 : parseMethodDescriptor "(I)V" = some ⟨[.int], none⟩ := by decide +kernel
theorem wd35 {Z : State} {a0 : Array Value} (hw : ∀ d ∈ tables_1, d.before a0 Z = true) : (Jvm.Cond.instanceMethod ({ cls := "com/example/piece/piece/store/RecordReader", name := "need", desc := "(I)V" } : Jvm.MethodName)).before a0 Z = true := hw _ (List.mem_of_getElem? (i := 35) rfl)
theorem wd36 {Z : State} {a0 : Array Value} (hw : ∀ d ∈ tables_1, d.before a0 Z = true) : (Jvm.Cond.privateMethod ({ cls := "com/example/piece/piece/store/RecordReader", name := "need", desc := "(I)V" } : Jvm.MethodName)).before a0 Z = true := hw _ (List.mem_of_getElem? (i := 36) rfl)
theorem d6_5 : decode prog_46_method_5_code 5 = .ok (.aload_n 0, 1) := by decide +kernel
theorem d6_6 : decode prog_46_method_5_code 6 = .ok (.getfield 12, 3) := by decide +kernel
theorem d6_9 : decode prog_46_method_5_code 9 = .ok (.aload_n 0, 1) := by decide +kernel
theorem d6_10 : decode prog_46_method_5_code 10 = .ok (.dup, 1) := by decide +kernel
theorem d6_11 : decode prog_46_method_5_code 11 = .ok (.getfield 20, 3) := by decide +kernel
theorem d6_14 : decode prog_46_method_5_code 14 = .ok (.dup_x1, 1) := by decide +kernel
theorem d6_15 : decode prog_46_method_5_code 15 = .ok (.iconst 1, 1) := by decide +kernel
theorem d6_16 : decode prog_46_method_5_code 16 = .ok (.iadd, 1) := by decide +kernel
theorem d6_17 : decode prog_46_method_5_code 17 = .ok (.putfield 20, 3) := by decide +kernel
theorem d6_20 : decode prog_46_method_5_code 20 = .ok (.baload, 1) := by decide +kernel
theorem d6_21 : decode prog_46_method_5_code 21 = .ok (.sipush 255, 3) := by decide +kernel
theorem d6_24 : decode prog_46_method_5_code 24 = .ok (.iand, 1) := by decide +kernel
theorem d6_25 : decode prog_46_method_5_code 25 = .ok (.ireturn, 1) := by decide +kernel
def Q6 (Z : State) (a1 : Addr) (w_a1_bytes : Addr) (w_a1_end : Int32) (w_a1_position : Int32) (k_arr : ClassId) (x0 : Int32) (x1 : Int32) (x2 : Int32) (h0 : Heap) (n0 : Nat) (v : Option Value) (h : Heap) (L : List Loc) : Prop := v = some (.int ((own_at [x0, x1, x2] w_a1_position) &&& (255 : Int32))) ∧ Fr n0 L ∧ Keep h0 h [a1] ∧ Exa Z h a1 "com/example/piece/piece/store/RecordReader" ∧ Fld Z h a1 "com/example/piece/piece/store/RecordReader" "end" "I" (.int w_a1_end) ∧ Fld Z h a1 "com/example/piece/piece/store/RecordReader" "position" "I" (.int (w_a1_position + (1 : Int32))) ∧ Fld Z h a1 "com/example/piece/piece/store/RecordReader" "bytes" "[B" (.ref w_a1_bytes)
theorem ef6 (m : MethodId) (x0 : Addr) : entryFrame m #[(.ref x0)] 1 = mkF m 0 #[.val (.ref x0)] [] := by first | (simp [entryFrame, mkF, argsToLocals, Value.category]; done) | rfl
set_option maxRecDepth 65536 in
set_option maxHeartbeats 16000000 in
theorem rm6 (l : Launch) (Z : State) (a0 : Array Value) (hw : ∀ d ∈ tables_1, d.before a0 Z = true) (ws : List Jvm.Cond) (a1 : Addr) (w_a1_bytes : Addr) (w_a1_end : Int32) (w_a1_position : Int32) (k_arr : ClassId) (x0 : Int32) (x1 : Int32) (x2 : Int32) (h0 : Heap) (n0 : Nat) (Z0 : n0 ≤ h0.size) (V_arr : Arv Z h0 w_a1_bytes k_arr .byte (3 : Int32) [(.int x0), (.int x1), (.int x2)] (.int (0 : Int32))) (E_a1 : Exa Z h0 a1 "com/example/piece/piece/store/RecordReader") (F_a1_end : Fld Z h0 a1 "com/example/piece/piece/store/RecordReader" "end" "I" (.int w_a1_end)) (F_a1_position : Fld Z h0 a1 "com/example/piece/piece/store/RecordReader" "position" "I" (.int w_a1_position)) (F_a1_bytes : Fld Z h0 a1 "com/example/piece/piece/store/RecordReader" "bytes" "[B" (.ref w_a1_bytes)) (hneed : ¬ (w_a1_end - w_a1_position) < (1 : Int32)) (hinb : ¬ w_a1_position < 0 ∧ w_a1_position < (3 : Int32)) (hne : w_a1_bytes ≠ a1) (g_a1 : n0 ≤ a1) :
    MetFree l (⟨"com/example/piece/piece/store/RecordReader", "getByte", "()I"⟩ : MethodName) (head1 (Jvm.Cond.code (⟨"com/example/piece/piece/store/RecordReader", "getByte", "()I"⟩ : MethodName) prog_46_method_5_code 1 (some .int) :: ws) ({ frames := 1, cells := 0, slots := 0, locals := 13 } : Room)) (fun a U => a = #[(.ref a1)] ∧ Z.Warmed39 U.vm ∧ U.heap = h0) (fun _ _ _ _ _ => True) (fun _ U o U' => ∃ v L, o = .returned v ∧ Q6 Z a1 w_a1_bytes w_a1_end w_a1_position k_arr x0 x1 x2 h0 n0 v U'.heap L ∧ FrameEnd U o U' L ({ frames := 1, cells := 0, slots := 0, locals := 13 } : Room).cells ({ frames := 1, cells := 0, slots := 0, locals := 13 } : Room).slots) := by
  refine MetFree.of_bodySF (plainFor_of_name pn0) hisR ?_
  intro p e s m args below meth c s₁ Bd hml0 hP hK
  obtain ⟨rfl, hZ, hh⟩ := hP
  have hx := Bd.exec
  have hby := Bd.bytes
  have hml : c.maxLocals = 1 := hml0
  have hown : s.vm.findClass "com/example/piece/piece/store/RecordReader" = some m.cls := findClass_of_methodNamed Bd.named
  have hnm := (name_of_methodNamed Bd.named Bd.method).1
  have X0 : Stand p l e ({ frames := 1, cells := 0, slots := 0, locals := 13 } : Room) s m #[(.ref a1)] below meth c s₁ [] 0 0 := Stand.of_body Bd
  have e0 : s₁.heap = h0 := by rw [← hh, Bd.state]; rfl
  have N0 := Fr.nil n0
  have K0 : Keep h0 h0 [a1] := Keep.refl h0 _
  refine Go.st (P := fun o U' => ∃ v L, o = .returned v ∧ Q6 Z a1 w_a1_bytes w_a1_end w_a1_position k_arr x0 x1 x2 h0 n0 v U'.heap L ∧ FrameEnd s o U' L ({ frames := 1, cells := 0, slots := 0, locals := 13 } : Room).cells ({ frames := 1, cells := 0, slots := 0, locals := 13 } : Room).slots) (fun t k => castTop (ef6 m a1) k) ?_
  show Go _ _ _ (s₁.setTop (mkF m 0 #[.val (.ref a1)] [])) _
  refine Go.st (fun t k => XS.aloadN X0.here hx rfl (hb hby d6_0) rfl rfl k) ?_
  refine Go.st (fun t k => XS.iconst X0.here hx rfl (hb hby d6_1) k) ?_
  obtain ⟨cq1, qq1, qq1'⟩ := E_a1.cell
  obtain ⟨_, _, ⟨T1, L1, k1, n1⟩, -, X1, ⟨Lc1, hQ1, l1, y1, z1⟩, st1⟩ := X0.privateBack hx (y := (⟨"com/example/piece/piece/store/RecordReader", "need", "(I)V"⟩ : MethodName)) hown (mvT hZ (wd34 hw)) (mvT hZ (wd35 hw)) (own_selp (mvT hZ (wd1 hw)) (Cond.privateMethod_at (mvP hZ (wd36 hw) (args := #[]))) (mvT hZ (wd35 hw)) (by decide)) (Cond.privateMethod_at (mvP hZ (wd36 hw) (args := #[]))) (mvT hZ (wd37 hw)) (by decide) (backOf (W := 0) (rm7 l Z a0 hw [] a1 (1 : Int32) w_a1_end w_a1_position h0 n0 Z0 F_a1_end F_a1_position hneed) hZ (wd37 hw) (wd2 hw) (by decide) (by decide)) (g := (mkF m 2 #[.val (.ref a1)] [(.int 1), (.ref a1)])) rfl (by rw [hml]; rfl) (Steps.refl _) (a := a1) (by rw [e0]; exact qq1) qq1' (argsL := [(.int (1 : Int32))]) (rest := []) (lenOf pd0 rfl) rfl (by show 2 * 0 + _ ≤ _; exact Nat.le_of_eq rfl) (hb hby d6_2) (fun _ _ => ⟨rfl, e0, (by decide : 0 + 0 ≤ _), (by decide : 0 + 0 ≤ _)⟩)
  dsimp only [Pt.U, Pt.locs, Pt.cells, Pt.slots] at X1 l1 y1 z1 st1 hQ1
  subst l1 y1 z1
  refine Go.tr st1 ?_
  obtain ⟨rfl, N1q, e1⟩ := hQ1
  have N1 := Fr.app N0 N1q
  show Go _ _ _ (T1.setTop (mkF m 5 #[.val (.ref a1)] [])) _
  refine Go.st (fun t k => XS.aloadN X1.here hx rfl (hb hby d6_5) rfl rfl k) ?_
  obtain ⟨T2, X2, e2, st2⟩ := getF X1 hx hZ hown (host := "") (Or.inl (wd10 hw)) Via.refl e1 F_a1_bytes (g := (mkF m 6 #[.val (.ref a1)] [(.ref a1)])) rfl rfl (hb hby d6_6)
  refine Go.st st2 ?_
  show Go _ _ _ (T2.setTop (mkF m 9 #[.val (.ref a1)] [(.ref w_a1_bytes)])) _
  refine Go.st (fun t k => XS.aloadN X2.here hx rfl (hb hby d6_9) rfl rfl k) ?_
  refine Go.st (fun t k => XS.dup X2.here hx rfl (hb hby d6_10) rfl rfl k) ?_
  obtain ⟨T3, X3, e3, st3⟩ := getF X2 hx hZ hown (host := "") (Or.inl (wd14 hw)) Via.refl e2 F_a1_position (g := (mkF m 11 #[.val (.ref a1)] [(.ref a1), (.ref a1), (.ref w_a1_bytes)])) rfl rfl (hb hby d6_11)
  refine Go.st st3 ?_
  show Go _ _ _ (T3.setTop (mkF m 14 #[.val (.ref a1)] [(.int w_a1_position), (.ref a1), (.ref w_a1_bytes)])) _
  refine Go.st (fun t k => XS.dupX1 X3.here hx rfl (hb hby d6_14) rfl rfl rfl k) ?_
  show Go _ _ _ (T3.setTop (mkF m 15 #[.val (.ref a1)] [(.int w_a1_position), (.ref a1), (.int w_a1_position), (.ref w_a1_bytes)])) _
  refine Go.st (fun t k => XS.iconst X3.here hx rfl (hb hby d6_15) k) ?_
  refine Go.st (fun t k => XS.iadd X3.here hx rfl (hb hby d6_16) rfl k) ?_
  show Go _ _ _ (T3.setTop (mkF m 17 #[.val (.ref a1)] [(.int (w_a1_position + (1 : Int32))), (.ref a1), (.int w_a1_position), (.ref w_a1_bytes)])) _
  obtain ⟨T4, h4, X4, e4, W4, st4⟩ := putF X3 hx hZ hown (host := "") (Or.inl (wd14 hw)) Via.refl e3 F_a1_position E_a1 (Or.inl (wd15 hw)) (wd1 hw) (ty := .int) (by decide) rfl rfl (g := (mkF m 17 #[.val (.ref a1)] [(.int (w_a1_position + (1 : Int32))), (.ref a1), (.int w_a1_position), (.ref w_a1_bytes)])) rfl rfl (hb hby d6_17)
  refine Go.st st4 ?_
  have N4 := Fr.snoc X4 N1 g_a1
  replace V_arr := V_arr.other W4 hne
  replace E_a1 := E_a1.wr W4
  replace F_a1_end := F_a1_end.other W4 (Or.inr (slot_ne (Or.inr (wd13 hw)) (Or.inl (wd15 hw)) (by decide) (t := .int) (t' := .int) (by decide) (by decide)))
  replace F_a1_position := F_a1_position.same W4
  replace F_a1_bytes := F_a1_bytes.other W4 (Or.inr (slot_ne (Or.inr (wd11 hw)) (Or.inl (wd15 hw)) (by decide) (t := (.array .byte)) (t' := .int) (by decide) (by decide)))
  replace Z0 := Nat.le_trans Z0 (Nat.le_of_eq W4.size.symm)
  replace K0 := K0.wr W4 (Or.inl (by simp))
  show Go _ _ _ (T4.setTop (mkF m 20 #[.val (.ref a1)] [(.int w_a1_position), (.ref w_a1_bytes)])) _
  obtain ⟨cl5, Ar5, -, Sz5, Ng5, Hs5, -⟩ := id V_arr
  have hin5 : ¬ (w_a1_position < 0 ∨ cl5.slots.size ≤ (w_a1_position).toNatClampNeg) := inb_of Sz5 hinb
  refine Go.st (fun t k => X4.baloadBytes hx (j := w_a1_position) (v := (.int (own_at [x0, x1, x2] w_a1_position))) (by rw [e4]; exact Ar5.1) (State.isArrayOf_alike hZ.alike Ar5.2.1) Ar5.2.2 hin5 (Has.at Hs5 hin5 (own_atv [x0, x1, x2] _)) (g := (mkF m 20 #[.val (.ref a1)] [(.int w_a1_position), (.ref w_a1_bytes)])) rfl rfl (hb hby d6_20) _ k) ?_
  show Go _ _ _ (T4.setTop (mkF m 21 #[.val (.ref a1)] [(.int (own_at [x0, x1, x2] w_a1_position))])) _
  refine Go.st (fun t k => XS.sipush X4.here hx rfl (hb hby d6_21) k) ?_
  refine Go.st (fun t k => XS.iand X4.here hx rfl (hb hby d6_24) rfl k) ?_
  show Go _ _ _ (T4.setTop (mkF m 25 #[.val (.ref a1)] [(.int ((own_at [x0, x1, x2] w_a1_position) &&& (255 : Int32)))])) _
  obtain ⟨fs, hr, hrun, hended, hW, hsame⟩ := X4.leave (v := some (.int ((own_at [x0, x1, x2] w_a1_position) &&& (255 : Int32)))) (fun h => by rw [Bd.returns] at h; cases h)
  refine Go.fin (retOut X4 hx Bd.returns rfl (Or.inl ⟨rfl, Or.inl rfl, _, rfl⟩) (hb hby d6_25) hr) hrun hended ⟨_, _, rfl, ?_, ⟨_, rfl⟩, hW, hsame.mono (by decide) (by decide)⟩
  show Q6 Z a1 w_a1_bytes w_a1_end w_a1_position k_arr x0 x1 x2 h0 n0 _ T4.heap _
  rw [e4]
  exact ⟨rfl, N4, K0, E_a1, F_a1_end, F_a1_position, F_a1_bytes⟩
theorem d4_0 : decode method_2_code 0 = .ok (.aload_n 0, 1) := by decide +kernel
theorem d4_1 : decode method_2_code 1 = .ok (.invokevirtual 7, 3) := by decide +kernel
theorem wd16 {Z : State} {a0 : Array Value} (hw : ∀ d ∈ tables_1, d.before a0 Z = true) : (Jvm.Cond.methodLink "com/example/piece/piece/store/RecordReaderHasMorePinLaw" (7 : Nat) ({ cls := "com/example/piece/piece/store/RecordReader", name := "hasMore", desc := "()Z" } : Jvm.MethodName)).before a0 Z = true := hw _ (List.mem_of_getElem? (i := 16) rfl)
theorem wd20 {Z : State} {a0 : Array Value} (hw : ∀ d ∈ tables_1, d.before a0 Z = true) : (Jvm.Cond.code ({ cls := "com/example/piece/piece/store/RecordReader", name := "hasMore", desc := "()Z" } : Jvm.MethodName) prog_46_method_4_code (1 : Nat) (Option.some Jvm.ClassFile.FieldType.boolean)).before a0 Z = true := hw _ (List.mem_of_getElem? (i := 20) rfl)
theorem pd1 : parseMethodDescriptor "()Z" = some ⟨[], some .boolean⟩ := by decide +kernel
theorem wd19 {Z : State} {a0 : Array Value} (hw : ∀ d ∈ tables_1, d.before a0 Z = true) : (Jvm.Cond.selects "com/example/piece/piece/store/RecordReader" ({ cls := "com/example/piece/piece/store/RecordReader", name := "hasMore", desc := "()Z" } : Jvm.MethodName) ({ cls := "com/example/piece/piece/store/RecordReader", name := "hasMore", desc := "()Z" } : Jvm.MethodName)).before a0 Z = true := hw _ (List.mem_of_getElem? (i := 19) rfl)
theorem wd17 {Z : State} {a0 : Array Value} (hw : ∀ d ∈ tables_1, d.before a0 Z = true) : (Jvm.Cond.declares ({ cls := "com/example/piece/piece/store/RecordReader", name := "hasMore", desc := "()Z" } : Jvm.MethodName)).before a0 Z = true := hw _ (List.mem_of_getElem? (i := 17) rfl)
theorem wd18 {Z : State} {a0 : Array Value} (hw : ∀ d ∈ tables_1, d.before a0 Z = true) : (Jvm.Cond.instanceMethod ({ cls := "com/example/piece/piece/store/RecordReader", name := "hasMore", desc := "()Z" } : Jvm.MethodName)).before a0 Z = true := hw _ (List.mem_of_getElem? (i := 18) rfl)
theorem d4_4 : decode method_2_code 4 = .ok (.istore 4, 2) := by decide +kernel
theorem d4_6 : decode method_2_code 6 = .ok (.iload 4, 2) := by decide +kernel
theorem d4_8 : decode method_2_code 8 = .ok (.iload_n 2, 1) := by decide +kernel
theorem d4_9 : decode method_2_code 9 = .ok (.iload_n 3, 1) := by decide +kernel
theorem d4_10 : decode method_2_code 10 = .ok (.if_icmp .ge 7, 3) := by decide +kernel
theorem d4_13 : decode method_2_code 13 = .ok (.iconst 1, 1) := by decide +kernel
theorem d4_14 : decode method_2_code 14 = .ok (.goto 4, 3) := by decide +kernel
theorem d4_18 : decode method_2_code 18 = .ok (.if_icmp .eq 5, 3) := by decide +kernel
theorem d4_23 : decode method_2_code 23 = .ok (.iload 4, 2) := by decide +kernel
theorem d4_25 : decode method_2_code 25 = .ok (.ifCond .ne 5, 3) := by decide +kernel
theorem d4_30 : decode method_2_code 30 = .ok (.aload_n 0, 1) := by decide +kernel
theorem d4_31 : decode method_2_code 31 = .ok (.invokevirtual 13, 3) := by decide +kernel
theorem wd29 {Z : State} {a0 : Array Value} (hw : ∀ d ∈ tables_1, d.before a0 Z = true) : (Jvm.Cond.methodLink "com/example/piece/piece/store/RecordReaderHasMorePinLaw" (13 : Nat) ({ cls := "com/example/piece/piece/store/RecordReader", name := "getByte", desc := "()I" } : Jvm.MethodName)).before a0 Z = true := hw _ (List.mem_of_getElem? (i := 29) rfl)
theorem wd33 {Z : State} {a0 : Array Value} (hw : ∀ d ∈ tables_1, d.before a0 Z = true) : (Jvm.Cond.code ({ cls := "com/example/piece/piece/store/RecordReader", name := "getByte", desc := "()I" } : Jvm.MethodName) prog_46_method_5_code (1 : Nat) (Option.some Jvm.ClassFile.FieldType.int)).before a0 Z = true := hw _ (List.mem_of_getElem? (i := 33) rfl)
theorem pd2 : parseMethodDescriptor "()I" = some ⟨[], some .int⟩ := by decide +kernel
theorem wd32 {Z : State} {a0 : Array Value} (hw : ∀ d ∈ tables_1, d.before a0 Z = true) : (Jvm.Cond.selects "com/example/piece/piece/store/RecordReader" ({ cls := "com/example/piece/piece/store/RecordReader", name := "getByte", desc := "()I" } : Jvm.MethodName) ({ cls := "com/example/piece/piece/store/RecordReader", name := "getByte", desc := "()I" } : Jvm.MethodName)).before a0 Z = true := hw _ (List.mem_of_getElem? (i := 32) rfl)
theorem wd30 {Z : State} {a0 : Array Value} (hw : ∀ d ∈ tables_1, d.before a0 Z = true) : (Jvm.Cond.declares ({ cls := "com/example/piece/piece/store/RecordReader", name := "getByte", desc := "()I" } : Jvm.MethodName)).before a0 Z = true := hw _ (List.mem_of_getElem? (i := 30) rfl)
theorem wd31 {Z : State} {a0 : Array Value} (hw : ∀ d ∈ tables_1, d.before a0 Z = true) : (Jvm.Cond.instanceMethod ({ cls := "com/example/piece/piece/store/RecordReader", name := "getByte", desc := "()I" } : Jvm.MethodName)).before a0 Z = true := hw _ (List.mem_of_getElem? (i := 31) rfl)
theorem d4_34 : decode method_2_code 34 = .ok (.aload_n 1, 1) := by decide +kernel
theorem d4_35 : decode method_2_code 35 = .ok (.iload_n 2, 1) := by decide +kernel
theorem d4_36 : decode method_2_code 36 = .ok (.baload, 1) := by decide +kernel
theorem d4_37 : decode method_2_code 37 = .ok (.sipush 255, 3) := by decide +kernel
theorem d4_40 : decode method_2_code 40 = .ok (.iand, 1) := by decide +kernel
theorem d4_41 : decode method_2_code 41 = .ok (.if_icmp .ne 7, 3) := by decide +kernel
theorem d4_44 : decode method_2_code 44 = .ok (.iconst 1, 1) := by decide +kernel
theorem d4_45 : decode method_2_code 45 = .ok (.goto 4, 3) := by decide +kernel
theorem d4_49 : decode method_2_code 49 = .ok (.ireturn, 1) := by decide +kernel
theorem d4_17 : decode method_2_code 17 = .ok (.iconst 0, 1) := by decide +kernel
theorem d4_28 : decode method_2_code 28 = .ok (.iconst 1, 1) := by decide +kernel
theorem d4_29 : decode method_2_code 29 = .ok (.ireturn, 1) := by decide +kernel
theorem pn1 : plainName "com/example/piece/piece/store/RecordReaderHasMorePinLaw" = true := by first | (simp [plainName, overriddenIn]; done) | decide +kernel
def f4_a1_position (p3 : Int32) (p4 : Int32) : Int32 := (if p3 < p4 then (p3 + (1 : Int32)) else p3)
def Q4 (Z : State) (a1 : Addr) (a2 : Addr) (p3 : Int32) (p4 : Int32) (k_arr : ClassId) (x0 : Int32) (x1 : Int32) (x2 : Int32) (h0 : Heap) (n0 : Nat) (v : Option Value) (h : Heap) (L : List Loc) : Prop := v = some (.int (1 : Int32)) ∧ Fr n0 L ∧ Keep h0 h [a1] ∧ Exa Z h a1 "com/example/piece/piece/store/RecordReader" ∧ Fld Z h a1 "com/example/piece/piece/store/RecordReader" "end" "I" (.int p4) ∧ Fld Z h a1 "com/example/piece/piece/store/RecordReader" "position" "I" (.int (f4_a1_position p3 p4)) ∧ Fld Z h a1 "com/example/piece/piece/store/RecordReader" "bytes" "[B" (.ref a2)
theorem ef4 (m : MethodId) (x0 : Addr) (x1 : Addr) (x2 : Int32) (x3 : Int32) : entryFrame m #[(.ref x0), (.ref x1), (.int x2), (.int x3)] 5 = mkF m 0 #[.val (.ref x0), .val (.ref x1), .val (.int x2), .val (.int x3), .unset] [] := by first | (simp [entryFrame, mkF, argsToLocals, Value.category]; done) | rfl
set_option maxRecDepth 65536 in
set_option maxHeartbeats 16000000 in
theorem rm4 (l : Launch) (Z : State) (a0 : Array Value) (hw : ∀ d ∈ tables_1, d.before a0 Z = true) (ws : List Jvm.Cond) (a1 : Addr) (a2 : Addr) (p3 : Int32) (p4 : Int32) (k_arr : ClassId) (x0 : Int32) (x1 : Int32) (x2 : Int32) (h0 : Heap) (n0 : Nat) (Z0 : n0 ≤ h0.size) (E_a1 : Exa Z h0 a1 "com/example/piece/piece/store/RecordReader") (F_a1_bytes : Fld Z h0 a1 "com/example/piece/piece/store/RecordReader" "bytes" "[B" (.ref a2)) (F_a1_end : Fld Z h0 a1 "com/example/piece/piece/store/RecordReader" "end" "I" (.int p4)) (F_a1_position : Fld Z h0 a1 "com/example/piece/piece/store/RecordReader" "position" "I" (.int p3)) (V_arr : Arv Z h0 a2 k_arr .byte (3 : Int32) [(.int x0), (.int x1), (.int x2)] (.int (0 : Int32))) (hp : 0 ≤ p3.toInt ∧ p3.toInt ≤ 3) (he : 0 ≤ p4.toInt ∧ p4.toInt ≤ 3) (hne : a2 ≠ a1) (g_a1 : n0 ≤ a1) :
    MetFree l (⟨"com/example/piece/piece/store/RecordReaderHasMorePinLaw", "step", "(Lcom/example/piece/piece/store/RecordReader;[BII)Z"⟩ : MethodName) (head1 (Jvm.Cond.code (⟨"com/example/piece/piece/store/RecordReaderHasMorePinLaw", "step", "(Lcom/example/piece/piece/store/RecordReader;[BII)Z"⟩ : MethodName) method_2_code 5 (some .boolean) :: ws) ({ frames := 2, cells := 0, slots := 0, locals := 25 } : Room)) (fun a U => a = #[(.ref a1), (.ref a2), (.int p3), (.int p4)] ∧ Z.Warmed39 U.vm ∧ U.heap = h0) (fun _ _ _ _ _ => True) (fun _ U o U' => ∃ v L, o = .returned v ∧ Q4 Z a1 a2 p3 p4 k_arr x0 x1 x2 h0 n0 v U'.heap L ∧ FrameEnd U o U' L ({ frames := 2, cells := 0, slots := 0, locals := 25 } : Room).cells ({ frames := 2, cells := 0, slots := 0, locals := 25 } : Room).slots) := by
  refine MetFree.of_bodySF (plainFor_of_name pn1) hisR ?_
  intro p e s m args below meth c s₁ Bd hml0 hP hK
  obtain ⟨rfl, hZ, hh⟩ := hP
  have hx := Bd.exec
  have hby := Bd.bytes
  have hml : c.maxLocals = 5 := hml0
  have hown : s.vm.findClass "com/example/piece/piece/store/RecordReaderHasMorePinLaw" = some m.cls := findClass_of_methodNamed Bd.named
  have hnm := (name_of_methodNamed Bd.named Bd.method).1
  have X0 : Stand p l e ({ frames := 2, cells := 0, slots := 0, locals := 25 } : Room) s m #[(.ref a1), (.ref a2), (.int p3), (.int p4)] below meth c s₁ [] 0 0 := Stand.of_body Bd
  have e0 : s₁.heap = h0 := by rw [← hh, Bd.state]; rfl
  have N0 := Fr.nil n0
  have K0 : Keep h0 h0 [a1] := Keep.refl h0 _
  refine Go.st (P := fun o U' => ∃ v L, o = .returned v ∧ Q4 Z a1 a2 p3 p4 k_arr x0 x1 x2 h0 n0 v U'.heap L ∧ FrameEnd s o U' L ({ frames := 2, cells := 0, slots := 0, locals := 25 } : Room).cells ({ frames := 2, cells := 0, slots := 0, locals := 25 } : Room).slots) (fun t k => castTop (ef4 m a1 a2 p3 p4) k) ?_
  show Go _ _ _ (s₁.setTop (mkF m 0 #[.val (.ref a1), .val (.ref a2), .val (.int p3), .val (.int p4), .unset] [])) _
  refine Go.st (fun t k => XS.aloadN X0.here hx rfl (hb hby d4_0) rfl rfl k) ?_
  obtain ⟨cq1, kq1, q1a, q1b, q1c⟩ := isOf hZ e0 E_a1
  obtain ⟨_, _, ⟨T1, L1, k1, n1⟩, -, X1, ⟨Lc1, hQ1, l1, y1, z1⟩, st1⟩ := X0.virtualBack hx (y := (⟨"com/example/piece/piece/store/RecordReader", "hasMore", "()Z"⟩ : MethodName)) (z := (⟨"com/example/piece/piece/store/RecordReader", "hasMore", "()Z"⟩ : MethodName)) hown (mvT hZ (wd16 hw)) (mvT hZ (wd17 hw)) (notFace_of_selects (args := #[]) (mvT hZ (wd19 hw))) (mvT hZ (wd19 hw)) (mvT hZ (wd18 hw)) (by decide) (backOf (W := 0) (rm3 l Z a0 hw [] a1 p3 p4 h0 n0 Z0 F_a1_position F_a1_end) hZ (wd20 hw) (wd2 hw) (by decide) (by decide)) q1a q1c (g := (mkF m 1 #[.val (.ref a1), .val (.ref a2), .val (.int p3), .val (.int p4), .unset] [(.ref a1)])) rfl (by rw [hml]; rfl) (Steps.refl _) (argsL := []) (rest := []) (lenOf pd1 rfl) rfl (by show 2 * 0 + _ ≤ _; exact Nat.le_of_eq rfl) (hb hby d4_1) (fun _ _ => ⟨rfl, e0, (by decide : 0 + 0 ≤ _), (by decide : 0 + 0 ≤ _)⟩)
  dsimp only [Pt.U, Pt.locs, Pt.cells, Pt.slots] at X1 l1 y1 z1 st1 hQ1
  subst l1 y1 z1
  refine Go.tr st1 ?_
  obtain ⟨rfl, N1q, e1⟩ := hQ1
  have N1 := Fr.app N0 N1q
  show Go _ _ _ (T1.setTop (mkF m 4 #[.val (.ref a1), .val (.ref a2), .val (.int p3), .val (.int p4), .unset] [(.int (f3 p3 p4))])) _
  by_cases hc2 : p3 < p4
  · rw [show (f3 p3 p4) = (1 : Int32) from by unfold f3; simp only [if_pos hc2, if_true, if_false]]
    show Go _ _ _ (T1.setTop (mkF m 4 #[.val (.ref a1), .val (.ref a2), .val (.int p3), .val (.int p4), .unset] [(.int 1)])) _
    refine Go.st (fun t k => XS.istore X1.here hx rfl (hb hby d4_4) rfl (l' := #[.val (.ref a1), .val (.ref a2), .val (.int p3), .val (.int p4), .val (.int 1)]) rfl k) ?_
    refine Go.st (fun t k => XS.iload X1.here hx rfl (hb hby d4_6) rfl k) ?_
    refine Go.st (fun t k => XS.iloadN X1.here hx rfl (hb hby d4_8) rfl k) ?_
    refine Go.st (fun t k => XS.iloadN X1.here hx rfl (hb hby d4_9) rfl k) ?_
    refine Go.st (fun t k => XS.icmpNo X1.here hx rfl (hb hby d4_10) rfl (tlt hc2).2.1 k) ?_
    show Go _ _ _ (T1.setTop (mkF m 13 #[.val (.ref a1), .val (.ref a2), .val (.int p3), .val (.int p4), .val (.int 1)] [(.int 1)])) _
    refine Go.st (fun t k => XS.iconst X1.here hx rfl (hb hby d4_13) k) ?_
    refine Go.st (fun t k => XS.goto X1.here hx rfl (pc0 := 14) (pc' := 18) rfl (hb hby d4_14) (by decide) (by decide) k) ?_
    refine Go.st (fun t k => XS.icmpYes X1.here hx rfl (pc0 := 18) (pc' := 23) rfl (hb hby d4_18) rfl (teq (by decide : (1 : Int32) = (1 : Int32))).1 (by decide) (by decide) k) ?_
    show Go _ _ _ (T1.setTop (mkF m 23 #[.val (.ref a1), .val (.ref a2), .val (.int p3), .val (.int p4), .val (.int 1)] [])) _
    refine Go.st (fun t k => XS.iload X1.here hx rfl (hb hby d4_23) rfl k) ?_
    refine Go.st (fun t k => XS.ifYes X1.here hx rfl (pc0 := 25) (pc' := 30) rfl (hb hby d4_25) rfl ((if0 _ _).trans (feq (by decide : ¬ ((1 : Int32) = (0 : Int32)))).2) (by decide) (by decide) k) ?_
    show Go _ _ _ (T1.setTop (mkF m 30 #[.val (.ref a1), .val (.ref a2), .val (.int p3), .val (.int p4), .val (.int 1)] [])) _
    refine Go.st (fun t k => XS.aloadN X1.here hx rfl (hb hby d4_30) rfl rfl k) ?_
    obtain ⟨cq3, kq3, q3a, q3b, q3c⟩ := isOf hZ e1 E_a1
    obtain ⟨_, _, ⟨T3, L3, k3, n3⟩, -, X3, ⟨Lc3, hQ3, l3, y3, z3⟩, st3⟩ := X1.virtualBack hx (y := (⟨"com/example/piece/piece/store/RecordReader", "getByte", "()I"⟩ : MethodName)) (z := (⟨"com/example/piece/piece/store/RecordReader", "getByte", "()I"⟩ : MethodName)) hown (mvT hZ (wd29 hw)) (mvT hZ (wd30 hw)) (notFace_of_selects (args := #[]) (mvT hZ (wd32 hw))) (mvT hZ (wd32 hw)) (mvT hZ (wd31 hw)) (by decide) (backOf (W := 0) (rm6 l Z a0 hw [] a1 a2 p4 p3 k_arr x0 x1 x2 h0 n0 Z0 V_arr E_a1 F_a1_end F_a1_position F_a1_bytes (own_need p3 p4 hp he hc2) (own_inb p3 p4 hp he hc2) hne g_a1) hZ (wd33 hw) (wd2 hw) (by decide) (by decide)) q3a q3c (g := (mkF m 31 #[.val (.ref a1), .val (.ref a2), .val (.int p3), .val (.int p4), .val (.int 1)] [(.ref a1)])) rfl (by rw [hml]; rfl) (Steps.refl _) (argsL := []) (rest := []) (lenOf pd2 rfl) rfl (by show 2 * 0 + _ ≤ _; exact Nat.le_of_eq rfl) (hb hby d4_31) (fun _ _ => ⟨rfl, e1, (by decide : 0 + 0 ≤ _), (by decide : 0 + 0 ≤ _)⟩)
    dsimp only [Pt.U, Pt.locs, Pt.cells, Pt.slots] at X3 l3 y3 z3 st3 hQ3
    subst l3 y3 z3
    refine Go.tr st3 ?_
    have E_a1_pre := E_a1
    have F_a1_bytes_pre := F_a1_bytes
    have F_a1_end_pre := F_a1_end
    have F_a1_position_pre := F_a1_position
    obtain ⟨h3, e3⟩ : ∃ z, T3.heap = z := ⟨_, rfl⟩
    rw [e3] at hQ3
    obtain ⟨rfl, N3q, K3, Q3_0, Q3_1, Q3_2, Q3_3⟩ := hQ3
    replace E_a1 := E_a1.keep K3
    replace V_arr := V_arr.keep K3 (ninS hne nin0)
    replace Z0 := Nat.le_trans Z0 K3.1
    replace K0 := K0.trans K3 (allS (Or.inl (by simp)) all0)
    have E_a1 := Q3_0
    have F_a1_end := Q3_1
    have F_a1_position := Q3_2
    have F_a1_bytes := Q3_3
    have N3 := Fr.app N1 N3q
    show Go _ _ _ (T3.setTop (mkF m 34 #[.val (.ref a1), .val (.ref a2), .val (.int p3), .val (.int p4), .val (.int 1)] [(.int ((own_at [x0, x1, x2] p3) &&& (255 : Int32)))])) _
    refine Go.st (fun t k => XS.aloadN X3.here hx rfl (hb hby d4_34) rfl rfl k) ?_
    refine Go.st (fun t k => XS.iloadN X3.here hx rfl (hb hby d4_35) rfl k) ?_
    show Go _ _ _ (T3.setTop (mkF m 36 #[.val (.ref a1), .val (.ref a2), .val (.int p3), .val (.int p4), .val (.int 1)] [(.int p3), (.ref a2), (.int ((own_at [x0, x1, x2] p3) &&& (255 : Int32)))])) _
    obtain ⟨cl4, Ar4, -, Sz4, Ng4, Hs4, -⟩ := id V_arr
    have hin4 : ¬ (p3 < 0 ∨ cl4.slots.size ≤ (p3).toNatClampNeg) := inb_of Sz4 (own_inb p3 p4 hp he hc2)
    refine Go.st (fun t k => X3.baloadBytes hx (j := p3) (v := (.int (own_at [x0, x1, x2] p3))) (by rw [e3]; exact Ar4.1) (State.isArrayOf_alike hZ.alike Ar4.2.1) Ar4.2.2 hin4 (Has.at Hs4 hin4 (own_atv [x0, x1, x2] _)) (g := (mkF m 36 #[.val (.ref a1), .val (.ref a2), .val (.int p3), .val (.int p4), .val (.int 1)] [(.int p3), (.ref a2), (.int ((own_at [x0, x1, x2] p3) &&& (255 : Int32)))])) rfl rfl (hb hby d4_36) _ k) ?_
    show Go _ _ _ (T3.setTop (mkF m 37 #[.val (.ref a1), .val (.ref a2), .val (.int p3), .val (.int p4), .val (.int 1)] [(.int (own_at [x0, x1, x2] p3)), (.int ((own_at [x0, x1, x2] p3) &&& (255 : Int32)))])) _
    refine Go.st (fun t k => XS.sipush X3.here hx rfl (hb hby d4_37) k) ?_
    refine Go.st (fun t k => XS.iand X3.here hx rfl (hb hby d4_40) rfl k) ?_
    show Go _ _ _ (T3.setTop (mkF m 41 #[.val (.ref a1), .val (.ref a2), .val (.int p3), .val (.int p4), .val (.int 1)] [(.int ((own_at [x0, x1, x2] p3) &&& (255 : Int32))), (.int ((own_at [x0, x1, x2] p3) &&& (255 : Int32)))])) _
    refine Go.st (fun t k => XS.icmpNo X3.here hx rfl (hb hby d4_41) rfl (teq (rfl : ((own_at [x0, x1, x2] p3) &&& (255 : Int32)) = ((own_at [x0, x1, x2] p3) &&& (255 : Int32)))).2 k) ?_
    show Go _ _ _ (T3.setTop (mkF m 44 #[.val (.ref a1), .val (.ref a2), .val (.int p3), .val (.int p4), .val (.int 1)] [])) _
    refine Go.st (fun t k => XS.iconst X3.here hx rfl (hb hby d4_44) k) ?_
    refine Go.st (fun t k => XS.goto X3.here hx rfl (pc0 := 45) (pc' := 49) rfl (hb hby d4_45) (by decide) (by decide) k) ?_
    obtain ⟨fs, hr, hrun, hended, hW, hsame⟩ := X3.leave (v := some (.int (1 : Int32))) (fun h => by rw [Bd.returns] at h; cases h)
    refine Go.fin (retN X3 hx (t := .boolean) Bd.returns (by simp) (hb hby d4_49) hr) hrun hended ⟨_, _, rfl, ?_, ⟨_, rfl⟩, hW, hsame.mono (by decide) (by decide)⟩
    show Q4 Z a1 a2 p3 p4 k_arr x0 x1 x2 h0 n0 _ T3.heap _
    rw [e3]
    exact ⟨rfl, N3, K0, E_a1, F_a1_end, (by unfold f4_a1_position; simp only [if_pos hc2]; exact F_a1_position), F_a1_bytes⟩
  · rw [show (f3 p3 p4) = (0 : Int32) from by unfold f3; simp only [if_neg hc2, if_true, if_false]]
    show Go _ _ _ (T1.setTop (mkF m 4 #[.val (.ref a1), .val (.ref a2), .val (.int p3), .val (.int p4), .unset] [(.int 0)])) _
    refine Go.st (fun t k => XS.istore X1.here hx rfl (hb hby d4_4) rfl (l' := #[.val (.ref a1), .val (.ref a2), .val (.int p3), .val (.int p4), .val (.int 0)]) rfl k) ?_
    refine Go.st (fun t k => XS.iload X1.here hx rfl (hb hby d4_6) rfl k) ?_
    refine Go.st (fun t k => XS.iloadN X1.here hx rfl (hb hby d4_8) rfl k) ?_
    refine Go.st (fun t k => XS.iloadN X1.here hx rfl (hb hby d4_9) rfl k) ?_
    refine Go.st (fun t k => XS.icmpYes X1.here hx rfl (pc0 := 10) (pc' := 17) rfl (hb hby d4_10) rfl (flt hc2).2.1 (by decide) (by decide) k) ?_
    show Go _ _ _ (T1.setTop (mkF m 17 #[.val (.ref a1), .val (.ref a2), .val (.int p3), .val (.int p4), .val (.int 0)] [(.int 0)])) _
    refine Go.st (fun t k => XS.iconst X1.here hx rfl (hb hby d4_17) k) ?_
    refine Go.st (fun t k => XS.icmpYes X1.here hx rfl (pc0 := 18) (pc' := 23) rfl (hb hby d4_18) rfl (teq (by decide : (0 : Int32) = (0 : Int32))).1 (by decide) (by decide) k) ?_
    show Go _ _ _ (T1.setTop (mkF m 23 #[.val (.ref a1), .val (.ref a2), .val (.int p3), .val (.int p4), .val (.int 0)] [])) _
    refine Go.st (fun t k => XS.iload X1.here hx rfl (hb hby d4_23) rfl k) ?_
    refine Go.st (fun t k => XS.ifNo X1.here hx rfl (hb hby d4_25) rfl ((if0 _ _).trans (teq (by decide : (0 : Int32) = (0 : Int32))).2) k) ?_
    show Go _ _ _ (T1.setTop (mkF m 28 #[.val (.ref a1), .val (.ref a2), .val (.int p3), .val (.int p4), .val (.int 0)] [])) _
    refine Go.st (fun t k => XS.iconst X1.here hx rfl (hb hby d4_28) k) ?_
    obtain ⟨fs, hr, hrun, hended, hW, hsame⟩ := X1.leave (v := some (.int (1 : Int32))) (fun h => by rw [Bd.returns] at h; cases h)
    refine Go.fin (retN X1 hx (t := .boolean) Bd.returns (by simp) (hb hby d4_29) hr) hrun hended ⟨_, _, rfl, ?_, ⟨_, rfl⟩, hW, hsame.mono (by decide) (by decide)⟩
    show Q4 Z a1 a2 p3 p4 k_arr x0 x1 x2 h0 n0 _ T1.heap _
    rw [e1]
    exact ⟨rfl, N1, K0, E_a1, F_a1_end, (by unfold f4_a1_position; simp only [if_neg hc2]; exact F_a1_position), F_a1_bytes⟩
theorem d5_0 : decode method_3_code 0 = .ok (.iload_n 0, 1) := by decide +kernel
theorem d5_1 : decode method_3_code 1 = .ok (.iload_n 1, 1) := by decide +kernel
theorem d5_2 : decode method_3_code 2 = .ok (.if_icmp .ge 9, 3) := by decide +kernel
theorem d5_5 : decode method_3_code 5 = .ok (.iload_n 0, 1) := by decide +kernel
theorem d5_6 : decode method_3_code 6 = .ok (.iconst 1, 1) := by decide +kernel
theorem d5_7 : decode method_3_code 7 = .ok (.iadd, 1) := by decide +kernel
theorem d5_8 : decode method_3_code 8 = .ok (.goto 4, 3) := by decide +kernel
theorem d5_12 : decode method_3_code 12 = .ok (.ireturn, 1) := by decide +kernel
theorem d5_11 : decode method_3_code 11 = .ok (.iload_n 0, 1) := by decide +kernel
def f5 (p1 : Int32) (p2 : Int32) : Int32 := (if p1 < p2 then (p1 + (1 : Int32)) else p1)
def Q5 (Z : State) (p1 : Int32) (p2 : Int32) (h0 : Heap) (n0 : Nat) (v : Option Value) (h : Heap) (L : List Loc) : Prop := v = some (.int (f5 p1 p2)) ∧ Fr n0 L ∧ h = h0
theorem ef5 (m : MethodId) (x0 : Int32) (x1 : Int32) : entryFrame m #[(.int x0), (.int x1)] 2 = mkF m 0 #[.val (.int x0), .val (.int x1)] [] := by first | (simp [entryFrame, mkF, argsToLocals, Value.category]; done) | rfl
set_option maxRecDepth 65536 in
set_option maxHeartbeats 16000000 in
theorem rm5 (l : Launch) (Z : State) (a0 : Array Value) (hw : ∀ d ∈ tables_1, d.before a0 Z = true) (ws : List Jvm.Cond) (p1 : Int32) (p2 : Int32) (h0 : Heap) (n0 : Nat) (Z0 : n0 ≤ h0.size) :
    MetFree l (⟨"com/example/piece/piece/store/RecordReaderHasMorePinLaw", "next", "(II)I"⟩ : MethodName) (head1 (Jvm.Cond.code (⟨"com/example/piece/piece/store/RecordReaderHasMorePinLaw", "next", "(II)I"⟩ : MethodName) method_3_code 2 (some .int) :: ws) ({ frames := 0, cells := 0, slots := 0, locals := 0 } : Room)) (fun a U => a = #[(.int p1), (.int p2)] ∧ Z.Warmed39 U.vm ∧ U.heap = h0) (fun _ _ _ _ _ => True) (fun _ U o U' => ∃ v L, o = .returned v ∧ Q5 Z p1 p2 h0 n0 v U'.heap L ∧ FrameEnd U o U' L ({ frames := 0, cells := 0, slots := 0, locals := 0 } : Room).cells ({ frames := 0, cells := 0, slots := 0, locals := 0 } : Room).slots) := by
  refine MetFree.of_bodySF (plainFor_of_name pn1) hisR ?_
  intro p e s m args below meth c s₁ Bd hml0 hP hK
  obtain ⟨rfl, hZ, hh⟩ := hP
  have hx := Bd.exec
  have hby := Bd.bytes
  have hml : c.maxLocals = 2 := hml0
  have hown : s.vm.findClass "com/example/piece/piece/store/RecordReaderHasMorePinLaw" = some m.cls := findClass_of_methodNamed Bd.named
  have hnm := (name_of_methodNamed Bd.named Bd.method).1
  have X0 : Stand p l e ({ frames := 0, cells := 0, slots := 0, locals := 0 } : Room) s m #[(.int p1), (.int p2)] below meth c s₁ [] 0 0 := Stand.of_body Bd
  have e0 : s₁.heap = h0 := by rw [← hh, Bd.state]; rfl
  have N0 := Fr.nil n0
  have K0 : Keep h0 h0 [] := Keep.refl h0 _
  refine Go.st (P := fun o U' => ∃ v L, o = .returned v ∧ Q5 Z p1 p2 h0 n0 v U'.heap L ∧ FrameEnd s o U' L ({ frames := 0, cells := 0, slots := 0, locals := 0 } : Room).cells ({ frames := 0, cells := 0, slots := 0, locals := 0 } : Room).slots) (fun t k => castTop (ef5 m p1 p2) k) ?_
  show Go _ _ _ (s₁.setTop (mkF m 0 #[.val (.int p1), .val (.int p2)] [])) _
  refine Go.st (fun t k => XS.iloadN X0.here hx rfl (hb hby d5_0) rfl k) ?_
  refine Go.st (fun t k => XS.iloadN X0.here hx rfl (hb hby d5_1) rfl k) ?_
  by_cases hc1 : p1 < p2
  · refine Go.st (fun t k => XS.icmpNo X0.here hx rfl (hb hby d5_2) rfl (tlt hc1).2.1 k) ?_
    show Go _ _ _ (s₁.setTop (mkF m 5 #[.val (.int p1), .val (.int p2)] [])) _
    refine Go.st (fun t k => XS.iloadN X0.here hx rfl (hb hby d5_5) rfl k) ?_
    refine Go.st (fun t k => XS.iconst X0.here hx rfl (hb hby d5_6) k) ?_
    refine Go.st (fun t k => XS.iadd X0.here hx rfl (hb hby d5_7) rfl k) ?_
    show Go _ _ _ (s₁.setTop (mkF m 8 #[.val (.int p1), .val (.int p2)] [(.int (p1 + (1 : Int32)))])) _
    refine Go.st (fun t k => XS.goto X0.here hx rfl (pc0 := 8) (pc' := 12) rfl (hb hby d5_8) (by decide) (by decide) k) ?_
    obtain ⟨fs, hr, hrun, hended, hW, hsame⟩ := X0.leave (v := some (.int (p1 + (1 : Int32)))) (fun h => by rw [Bd.returns] at h; cases h)
    refine Go.fin (retOut X0 hx Bd.returns rfl (Or.inl ⟨rfl, Or.inl rfl, _, rfl⟩) (hb hby d5_12) hr) hrun hended ⟨_, _, rfl, ?_, ⟨_, rfl⟩, hW, hsame.mono (by decide) (by decide)⟩
    show Q5 Z p1 p2 h0 n0 _ s₁.heap _
    rw [e0]
    exact ⟨(by unfold f5; simp only [if_pos hc1]), N0, rfl⟩
  · refine Go.st (fun t k => XS.icmpYes X0.here hx rfl (pc0 := 2) (pc' := 11) rfl (hb hby d5_2) rfl (flt hc1).2.1 (by decide) (by decide) k) ?_
    show Go _ _ _ (s₁.setTop (mkF m 11 #[.val (.int p1), .val (.int p2)] [])) _
    refine Go.st (fun t k => XS.iloadN X0.here hx rfl (hb hby d5_11) rfl k) ?_
    obtain ⟨fs, hr, hrun, hended, hW, hsame⟩ := X0.leave (v := some (.int p1)) (fun h => by rw [Bd.returns] at h; cases h)
    refine Go.fin (retOut X0 hx Bd.returns rfl (Or.inl ⟨rfl, Or.inl rfl, _, rfl⟩) (hb hby d5_12) hr) hrun hended ⟨_, _, rfl, ?_, ⟨_, rfl⟩, hW, hsame.mono (by decide) (by decide)⟩
    show Q5 Z p1 p2 h0 n0 _ s₁.heap _
    rw [e0]
    exact ⟨(by unfold f5; simp only [if_neg hc1]), N0, rfl⟩
theorem own_nx (p e : Int32) (hp : 0 ≤ p.toInt ∧ p.toInt ≤ 3) (he : 0 ≤ e.toInt ∧ e.toInt ≤ 3) : 0 ≤ (f5 p e).toInt ∧ (f5 p e).toInt ≤ 3 ∧ (e.toInt ≤ p.toInt → (f5 p e).toInt = p.toInt) ∧ (p.toInt < e.toInt → (f5 p e).toInt = p.toInt + 1) := by
  unfold f5
  split
  · rename_i h
    rw [Int32.lt_iff_toInt_lt] at h
    rw [Int32.toInt_add, show (1 : Int32).toInt = 1 from rfl, Int.bmod_eq_of_le (by omega) (by omega)]
    omega
  · rename_i h
    rw [Int32.lt_iff_toInt_lt] at h
    omega
theorem own_nx3 (p e : Int32) (hp : 0 ≤ p.toInt ∧ p.toInt ≤ 3) (he : 0 ≤ e.toInt ∧ e.toInt ≤ 3) : 0 ≤ (f5 p e).toInt ∧ (f5 p e).toInt ≤ 3 := ⟨(own_nx p e hp he).1, (own_nx p e hp he).2.1⟩
theorem own_done (p e : Int32) (hp : 0 ≤ p.toInt ∧ p.toInt ≤ 3) (he : 0 ≤ e.toInt ∧ e.toInt ≤ 3) : ¬ f5 (f5 (f5 p e) e) e < e := by
  have h1 := own_nx p e hp he
  have h2 := own_nx _ e (own_nx3 p e hp he) he
  have h3 := own_nx _ e (own_nx3 _ e (own_nx3 p e hp he) he) he
  rw [Int32.lt_iff_toInt_lt]
  omega
theorem own_r4 (x : Int32) : 0 ≤ ((x &&& (2147483647 : Int32)) % (4 : Int32)).toInt ∧ ((x &&& (2147483647 : Int32)) % (4 : Int32)).toInt ≤ 3 := by
  have := own_rem x 4 4 rfl (by decide)
  omega
theorem wd0 {Z : State} {a0 : Array Value} (hw : ∀ d ∈ tables_1, d.before a0 Z = true) : (Jvm.Cond.classLink "com/example/piece/piece/store/RecordReaderHasMorePinLaw" (8 : Nat) "com/example/piece/piece/store/RecordReader").before a0 Z = true := hw _ (List.mem_of_getElem? (i := 0) rfl)
theorem wd3 {Z : State} {a0 : Array Value} (hw : ∀ d ∈ tables_1, d.before a0 Z = true) : (Jvm.Cond.arrayClass Jvm.ClassFile.FieldType.byte).before a0 Z = true := hw _ (List.mem_of_getElem? (i := 3) rfl)
theorem wd4 {Z : State} {a0 : Array Value} (hw : ∀ d ∈ tables_1, d.before a0 Z = true) : (Jvm.Cond.methodLink "com/example/piece/piece/store/RecordReaderHasMorePinLaw" (17 : Nat) ({ cls := "com/example/piece/piece/store/RecordReader", name := "<init>", desc := "([BII)V" } : Jvm.MethodName)).before a0 Z = true := hw _ (List.mem_of_getElem? (i := 4) rfl)
theorem wd6 {Z : State} {a0 : Array Value} (hw : ∀ d ∈ tables_1, d.before a0 Z = true) : (Jvm.Cond.code ({ cls := "com/example/piece/piece/store/RecordReader", name := "<init>", desc := "([BII)V" } : Jvm.MethodName) prog_46_method_2_code (4 : Nat) (Option.none : Option Jvm.ClassFile.FieldType)).before a0 Z = true := hw _ (List.mem_of_getElem? (i := 6) rfl)
theorem pd3 : parseMethodDescriptor "([BII)V" = some ⟨[(.array .byte), .int, .int], none⟩ := by decide +kernel
theorem wd5 {Z : State} {a0 : Array Value} (hw : ∀ d ∈ tables_1, d.before a0 Z = true) : (Jvm.Cond.instanceMethod ({ cls := "com/example/piece/piece/store/RecordReader", name := "<init>", desc := "([BII)V" } : Jvm.MethodName)).before a0 Z = true := hw _ (List.mem_of_getElem? (i := 5) rfl)
theorem wd21 {Z : State} {a0 : Array Value} (hw : ∀ d ∈ tables_1, d.before a0 Z = true) : (Jvm.Cond.constant "com/example/piece/piece/store/RecordReaderHasMorePinLaw" (20 : Nat) (2147483647 : Int32)).before a0 Z = true := hw _ (List.mem_of_getElem? (i := 21) rfl)
theorem wd22 {Z : State} {a0 : Array Value} (hw : ∀ d ∈ tables_1, d.before a0 Z = true) : (Jvm.Cond.methodLink "com/example/piece/piece/store/RecordReaderHasMorePinLaw" (21 : Nat) ({ cls := "com/example/piece/piece/store/RecordReaderHasMorePinLaw", name := "step", desc := "(Lcom/example/piece/piece/store/RecordReader;[BII)Z" } : Jvm.MethodName)).before a0 Z = true := hw _ (List.mem_of_getElem? (i := 22) rfl)
theorem wd25 {Z : State} {a0 : Array Value} (hw : ∀ d ∈ tables_1, d.before a0 Z = true) : (Jvm.Cond.code ({ cls := "com/example/piece/piece/store/RecordReaderHasMorePinLaw", name := "step", desc := "(Lcom/example/piece/piece/store/RecordReader;[BII)Z" } : Jvm.MethodName) method_2_code (5 : Nat) (Option.some Jvm.ClassFile.FieldType.boolean)).before a0 Z = true := hw _ (List.mem_of_getElem? (i := 25) rfl)
theorem wd24 {Z : State} {a0 : Array Value} (hw : ∀ d ∈ tables_1, d.before a0 Z = true) : (Jvm.Cond.initialized "com/example/piece/piece/store/RecordReaderHasMorePinLaw").before a0 Z = true := hw _ (List.mem_of_getElem? (i := 24) rfl)
theorem pd4 : parseMethodDescriptor "(Lcom/example/piece/piece/store/RecordReader;[BII)Z" = some ⟨[(.object "com/example/piece/piece/store/RecordReader"), (.array .byte), .int, .int], some .boolean⟩ := by decide +kernel
theorem wd23 {Z : State} {a0 : Array Value} (hw : ∀ d ∈ tables_1, d.before a0 Z = true) : (Jvm.Cond.static ({ cls := "com/example/piece/piece/store/RecordReaderHasMorePinLaw", name := "step", desc := "(Lcom/example/piece/piece/store/RecordReader;[BII)Z" } : Jvm.MethodName)).before a0 Z = true := hw _ (List.mem_of_getElem? (i := 23) rfl)
theorem wd26 {Z : State} {a0 : Array Value} (hw : ∀ d ∈ tables_1, d.before a0 Z = true) : (Jvm.Cond.methodLink "com/example/piece/piece/store/RecordReaderHasMorePinLaw" (27 : Nat) ({ cls := "com/example/piece/piece/store/RecordReaderHasMorePinLaw", name := "next", desc := "(II)I" } : Jvm.MethodName)).before a0 Z = true := hw _ (List.mem_of_getElem? (i := 26) rfl)
theorem wd28 {Z : State} {a0 : Array Value} (hw : ∀ d ∈ tables_1, d.before a0 Z = true) : (Jvm.Cond.code ({ cls := "com/example/piece/piece/store/RecordReaderHasMorePinLaw", name := "next", desc := "(II)I" } : Jvm.MethodName) method_3_code (2 : Nat) (Option.some Jvm.ClassFile.FieldType.int)).before a0 Z = true := hw _ (List.mem_of_getElem? (i := 28) rfl)
theorem pd5 : parseMethodDescriptor "(II)I" = some ⟨[.int, .int], some .int⟩ := by decide +kernel
theorem wd27 {Z : State} {a0 : Array Value} (hw : ∀ d ∈ tables_1, d.before a0 Z = true) : (Jvm.Cond.static ({ cls := "com/example/piece/piece/store/RecordReaderHasMorePinLaw", name := "next", desc := "(II)I" } : Jvm.MethodName)).before a0 Z = true := hw _ (List.mem_of_getElem? (i := 27) rfl)
def Q0 (Z : State) (p1 : Int32) (p2 : Int32) (p3 : Int32) (p4 : Int32) (p5 : Int32) (h0 : Heap) (n0 : Nat) (v : Option Value) (h : Heap) (L : List Loc) : Prop := v = some (.int (1 : Int32)) ∧ Fr n0 L
theorem ef0 (m : MethodId) (x0 : Int32) (x1 : Int32) (x2 : Int32) (x3 : Int32) (x4 : Int32) : entryFrame m #[(.int x0), (.int x1), (.int x2), (.int x3), (.int x4)] maxLocals = mkF m 0 #[.val (.int x0), .val (.int x1), .val (.int x2), .val (.int x3), .val (.int x4), .unset, .unset, .unset, .unset, .unset, .unset, .unset, .unset, .unset] [] := by first | (simp [entryFrame, mkF, argsToLocals, Value.category, maxLocals]; done) | rfl
set_option maxRecDepth 65536 in
set_option maxHeartbeats 16000000 in
theorem rm0 (l : Launch) (Z : State) (a0 : Array Value) (hw : ∀ d ∈ tables_1, d.before a0 Z = true) (ws : List Jvm.Cond) (p1 : Int32) (p2 : Int32) (p3 : Int32) (p4 : Int32) (p5 : Int32) (h0 : Heap) (n0 : Nat) (Z0 : n0 ≤ h0.size) :
    MetFree l x (head1 (Jvm.Cond.code x code maxLocals ret :: ws) room_1) (fun a U => a = #[(.int p1), (.int p2), (.int p3), (.int p4), (.int p5)] ∧ Z.Warmed39 U.vm ∧ U.heap = h0) (fun _ _ _ _ _ => True) (fun _ U o U' => ∃ v L, o = .returned v ∧ Q0 Z p1 p2 p3 p4 p5 h0 n0 v U'.heap L ∧ FrameEnd U o U' L 16 128) := by
  refine MetFree.of_bodySF (plainFor_of_name pn1) hisR ?_
  intro p e s m args below meth c s₁ Bd hml0 hP hK
  obtain ⟨rfl, hZ, hh⟩ := hP
  have hx := Bd.exec
  have hby := Bd.bytes
  have hml : c.maxLocals = 14 := hml0
  have hown : s.vm.findClass "com/example/piece/piece/store/RecordReaderHasMorePinLaw" = some m.cls := findClass_of_methodNamed Bd.named
  have hnm := (name_of_methodNamed Bd.named Bd.method).1
  have X0 : Stand p l e room_1 s m #[(.int p1), (.int p2), (.int p3), (.int p4), (.int p5)] below meth c s₁ [] 0 0 := Stand.of_body Bd
  have e0 : s₁.heap = h0 := by rw [← hh, Bd.state]; rfl
  have N0 := Fr.nil n0
  have K0 : Keep h0 h0 [] := Keep.refl h0 _
  refine Go.st (P := fun o U' => ∃ v L, o = .returned v ∧ Q0 Z p1 p2 p3 p4 p5 h0 n0 v U'.heap L ∧ FrameEnd s o U' L 16 128) (fun t k => castTop (ef0 m p1 p2 p3 p4 p5) k) ?_
  show Go _ _ _ (s₁.setTop (mkF m 0 #[.val (.int p1), .val (.int p2), .val (.int p3), .val (.int p4), .val (.int p5), .unset, .unset, .unset, .unset, .unset, .unset, .unset, .unset, .unset] [])) _
  obtain ⟨T1, h1, X1, e1, E1, A1, D1, -, st1⟩ := newO X0 hx hZ hown (wd0 hw) (wd1 hw) (wd2 hw) e0 (g := (mkF m 0 #[.val (.int p1), .val (.int p2), .val (.int p3), .val (.int p4), .val (.int p5), .unset, .unset, .unset, .unset, .unset, .unset, .unset, .unset, .unset] [])) rfl (hb hby at_0) (by decide) (by decide)
  obtain ⟨b1, g1⟩ : ∃ z, z = h0.size := ⟨_, rfl⟩
  rw [← g1] at A1 D1 st1
  refine Go.st st1 ?_
  have g_b1 : n0 ≤ b1 := Nat.le_trans Z0 (Nat.le_of_eq g1.symm)
  have sz_b1 : h0.size ≤ b1 := Nat.le_trans K0.1 (Nat.le_of_eq g1.symm)
  replace K0 := K0.ext E1
  replace Z0 := Nat.le_trans Z0 E1.1
  have E_b1 := A1
  have F_b1_bytes : Fld Z h1 b1 "com/example/piece/piece/store/RecordReader" "bytes" "[B" .null := D1 (Or.inr (wd11 hw)) (ty := (.array .byte)) (by decide)
  have F_b1_end : Fld Z h1 b1 "com/example/piece/piece/store/RecordReader" "end" "I" (.int (0 : Int32)) := D1 (Or.inr (wd13 hw)) (ty := .int) (by decide)
  have F_b1_position : Fld Z h1 b1 "com/example/piece/piece/store/RecordReader" "position" "I" (.int (0 : Int32)) := D1 (Or.inl (wd15 hw)) (ty := .int) (by decide)
  show Go _ _ _ (T1.setTop (mkF m 3 #[.val (.int p1), .val (.int p2), .val (.int p3), .val (.int p4), .val (.int p5), .unset, .unset, .unset, .unset, .unset, .unset, .unset, .unset, .unset] [(.ref b1)])) _
  refine Go.st (fun t k => XS.dup X1.here hx rfl (hb hby at_3) rfl rfl k) ?_
  refine Go.st (fun t k => XS.iconst X1.here hx rfl (hb hby at_4) k) ?_
  obtain ⟨T2, h2, k2, X2, e2, E2, A2, st2⟩ := newP X1 hx hZ (aty := .byte) (wd3 hw) e1 (g := (mkF m 5 #[.val (.int p1), .val (.int p2), .val (.int p3), .val (.int p4), .val (.int p5), .unset, .unset, .unset, .unset, .unset, .unset, .unset, .unset, .unset] [(.int 0), (.ref b1), (.ref b1)])) rfl (hb hby at_5) rfl (by decide) (cap := 0) (by decide) (by decide) (by decide) (by decide)
  obtain ⟨b2, g2⟩ : ∃ z, z = h1.size := ⟨_, rfl⟩
  rw [← g2] at A2 st2
  refine Go.st st2 ?_
  have ne_b1_b2 : b1 ≠ b2 := Nat.ne_of_lt (Nat.lt_of_lt_of_le E_b1.lt (Nat.le_of_eq g2.symm))
  have g_b2 : n0 ≤ b2 := Nat.le_trans Z0 (Nat.le_of_eq g2.symm)
  have sz_b2 : h0.size ≤ b2 := Nat.le_trans K0.1 (Nat.le_of_eq g2.symm)
  replace E_b1 := E_b1.ext E2
  replace F_b1_bytes := F_b1_bytes.ext E2
  replace F_b1_end := F_b1_end.ext E2
  replace F_b1_position := F_b1_position.ext E2
  replace K0 := K0.ext E2
  replace Z0 := Nat.le_trans Z0 E2.1
  have V_b2 : Arv Z h2 b2 k2 .byte (0 : Int32) [] (.int (0 : Int32)) := (Arv.new A2 (by decide)).pad (pad_rep [] (.int (0 : Int32)) 0)
  show Go _ _ _ (T2.setTop (mkF m 7 #[.val (.int p1), .val (.int p2), .val (.int p3), .val (.int p4), .val (.int p5), .unset, .unset, .unset, .unset, .unset, .unset, .unset, .unset, .unset] [(.ref b2), (.ref b1), (.ref b1)])) _
  refine Go.st (fun t k => XS.iloadN X2.here hx rfl (hb hby at_7) rfl k) ?_
  refine Go.st (fun t k => XS.iloadN X2.here hx rfl (hb hby at_8) rfl k) ?_
  obtain ⟨_, _, ⟨T3, L3, k3, n3⟩, -, X3, ⟨Lc3, hQ3, l3, y3, z3⟩, st3⟩ := X2.specialBack hx (y := (⟨"com/example/piece/piece/store/RecordReader", "<init>", "([BII)V"⟩ : MethodName)) rfl hown (mvT hZ (wd4 hw)) (mvT hZ (wd5 hw)) (mvT hZ (wd6 hw)) (by decide) (backOf (W := 1) (rm1 l Z a0 hw [] b1 b2 p1 p2 (.null : Value) ((.int (0 : Int32)) : Value) ((.int (0 : Int32)) : Value) h2 n0 Z0 E_b1 F_b1_bytes F_b1_end F_b1_position g_b1) hZ (wd6 hw) (wd2 hw) (by decide) (by decide)) (g := (mkF m 9 #[.val (.int p1), .val (.int p2), .val (.int p3), .val (.int p4), .val (.int p5), .unset, .unset, .unset, .unset, .unset, .unset, .unset, .unset, .unset] [(.int p2), (.int p1), (.ref b2), (.ref b1), (.ref b1)])) rfl (by rw [hml]; rfl) (Steps.refl _) (a := b1) (argsL := [(.ref b2), (.int p1), (.int p2)]) (rest := [(.ref b1)]) (lenOf pd3 rfl) rfl (by show 2 * 0 + _ ≤ _; exact Nat.le_of_eq rfl) (hb hby at_9) (fun _ _ => ⟨rfl, e2, (by decide : 2 + 0 ≤ _), (by decide : 3 + 0 ≤ _)⟩)
  dsimp only [Pt.U, Pt.locs, Pt.cells, Pt.slots] at X3 l3 y3 z3 st3 hQ3
  subst l3 y3 z3
  refine Go.tr st3 ?_
  have E_b1_pre := E_b1
  have F_b1_bytes_pre := F_b1_bytes
  have F_b1_end_pre := F_b1_end
  have F_b1_position_pre := F_b1_position
  obtain ⟨h3, e3⟩ : ∃ z, T3.heap = z := ⟨_, rfl⟩
  rw [e3] at hQ3
  obtain ⟨rfl, N3q, K3, Q3_0, Q3_1, Q3_2, Q3_3⟩ := hQ3
  replace E_b1 := E_b1.keep K3
  replace V_b2 := V_b2.keep K3 (ninS (Ne.symm ne_b1_b2) nin0)
  replace Z0 := Nat.le_trans Z0 K3.1
  replace K0 := K0.trans K3 (allS (Or.inr sz_b1) all0)
  have E_b1 := Q3_0
  have F_b1_bytes := Q3_1
  have F_b1_end := Q3_2
  have F_b1_position := Q3_3
  have N3 := Fr.app N0 N3q
  show Go _ _ _ (T3.setTop (mkF m 12 #[.val (.int p1), .val (.int p2), .val (.int p3), .val (.int p4), .val (.int p5), .unset, .unset, .unset, .unset, .unset, .unset, .unset, .unset, .unset] [(.ref b1)])) _
  refine Go.st (fun t k => XS.astore X3.here hx rfl (hb hby at_12) rfl rfl (l' := #[.val (.int p1), .val (.int p2), .val (.int p3), .val (.int p4), .val (.int p5), .val (.ref b1), .unset, .unset, .unset, .unset, .unset, .unset, .unset, .unset]) rfl k) ?_
  refine Go.st (fun t k => XS.aload X3.here hx rfl (hb hby at_14) rfl rfl k) ?_
  obtain ⟨cq4, kq4, q4a, q4b, q4c⟩ := isOf hZ e3 E_b1
  obtain ⟨_, _, ⟨T4, L4, k4, n4⟩, -, X4, ⟨Lc4, hQ4, l4, y4, z4⟩, st4⟩ := X3.virtualBack hx (y := (⟨"com/example/piece/piece/store/RecordReader", "hasMore", "()Z"⟩ : MethodName)) (z := (⟨"com/example/piece/piece/store/RecordReader", "hasMore", "()Z"⟩ : MethodName)) hown (mvT hZ (wd16 hw)) (mvT hZ (wd17 hw)) (notFace_of_selects (args := #[]) (mvT hZ (wd19 hw))) (mvT hZ (wd19 hw)) (mvT hZ (wd18 hw)) (by decide) (backOf (W := 0) (rm3 l Z a0 hw [] b1 p1 p2 h3 n0 Z0 F_b1_position F_b1_end) hZ (wd20 hw) (wd2 hw) (by decide) (by decide)) q4a q4c (g := (mkF m 16 #[.val (.int p1), .val (.int p2), .val (.int p3), .val (.int p4), .val (.int p5), .val (.ref b1), .unset, .unset, .unset, .unset, .unset, .unset, .unset, .unset] [(.ref b1)])) rfl (by rw [hml]; rfl) (Steps.refl _) (argsL := []) (rest := []) (lenOf pd1 rfl) rfl (by show 2 * 0 + _ ≤ _; exact Nat.le_of_eq rfl) (hb hby at_16) (fun _ _ => ⟨rfl, e3, (by decide : 2 + 0 ≤ _), (by decide : 3 + 0 ≤ _)⟩)
  dsimp only [Pt.U, Pt.locs, Pt.cells, Pt.slots] at X4 l4 y4 z4 st4 hQ4
  subst l4 y4 z4
  refine Go.tr st4 ?_
  obtain ⟨rfl, N4q, e4⟩ := hQ4
  have N4 := Fr.app N3 N4q
  show Go _ _ _ (T4.setTop (mkF m 19 #[.val (.int p1), .val (.int p2), .val (.int p3), .val (.int p4), .val (.int p5), .val (.ref b1), .unset, .unset, .unset, .unset, .unset, .unset, .unset, .unset] [(.int (f3 p1 p2))])) _
  by_cases hc5 : p1 < p2
  · rw [show (f3 p1 p2) = (1 : Int32) from by unfold f3; simp only [if_pos hc5, if_true, if_false]]
    show Go _ _ _ (T4.setTop (mkF m 19 #[.val (.int p1), .val (.int p2), .val (.int p3), .val (.int p4), .val (.int p5), .val (.ref b1), .unset, .unset, .unset, .unset, .unset, .unset, .unset, .unset] [(.int 1)])) _
    refine Go.st (fun t k => XS.iloadN X4.here hx rfl (hb hby at_19) rfl k) ?_
    refine Go.st (fun t k => XS.iloadN X4.here hx rfl (hb hby at_20) rfl k) ?_
    refine Go.st (fun t k => XS.icmpNo X4.here hx rfl (hb hby at_21) rfl (tlt hc5).2.1 k) ?_
    show Go _ _ _ (T4.setTop (mkF m 24 #[.val (.int p1), .val (.int p2), .val (.int p3), .val (.int p4), .val (.int p5), .val (.ref b1), .unset, .unset, .unset, .unset, .unset, .unset, .unset, .unset] [(.int 1)])) _
    refine Go.st (fun t k => XS.iconst X4.here hx rfl (hb hby at_24) k) ?_
    refine Go.st (fun t k => XS.goto X4.here hx rfl (pc0 := 25) (pc' := 29) rfl (hb hby at_25) (by decide) (by decide) k) ?_
    refine Go.st (fun t k => XS.icmpNo X4.here hx rfl (hb hby at_29) rfl (teq (by decide : (1 : Int32) = (1 : Int32))).2 k) ?_
    show Go _ _ _ (T4.setTop (mkF m 32 #[.val (.int p1), .val (.int p2), .val (.int p3), .val (.int p4), .val (.int p5), .val (.ref b1), .unset, .unset, .unset, .unset, .unset, .unset, .unset, .unset] [])) _
    refine Go.st (fun t k => XS.iconst X4.here hx rfl (hb hby at_32) k) ?_
    refine Go.st (fun t k => XS.goto X4.here hx rfl (pc0 := 33) (pc' := 37) rfl (hb hby at_33) (by decide) (by decide) k) ?_
    refine Go.st (fun t k => XS.istore X4.here hx rfl (hb hby at_37) rfl (l' := #[.val (.int p1), .val (.int p2), .val (.int p3), .val (.int p4), .val (.int p5), .val (.ref b1), .val (.int 1), .unset, .unset, .unset, .unset, .unset, .unset, .unset]) rfl k) ?_
    refine Go.st (fun t k => XS.iconst X4.here hx rfl (hb hby at_39) k) ?_
    obtain ⟨T6, h6, k6, X6, e6, E6, A6, st6⟩ := newP X4 hx hZ (aty := .byte) (wd3 hw) e4 (g := (mkF m 40 #[.val (.int p1), .val (.int p2), .val (.int p3), .val (.int p4), .val (.int p5), .val (.ref b1), .val (.int 1), .unset, .unset, .unset, .unset, .unset, .unset, .unset] [(.int 3)])) rfl (hb hby at_40) rfl (by decide) (cap := 3) (by decide) (by decide) (by decide) (by decide)
    obtain ⟨b6, g6⟩ : ∃ z, z = h3.size := ⟨_, rfl⟩
    rw [← g6] at A6 st6
    refine Go.st st6 ?_
    have ne_b1_b6 : b1 ≠ b6 := Nat.ne_of_lt (Nat.lt_of_lt_of_le E_b1.lt (Nat.le_of_eq g6.symm))
    have ne_b2_b6 : b2 ≠ b6 := Nat.ne_of_lt (Nat.lt_of_lt_of_le V_b2.lt (Nat.le_of_eq g6.symm))
    have g_b6 : n0 ≤ b6 := Nat.le_trans Z0 (Nat.le_of_eq g6.symm)
    have sz_b6 : h0.size ≤ b6 := Nat.le_trans K0.1 (Nat.le_of_eq g6.symm)
    replace E_b1 := E_b1.ext E6
    replace V_b2 := V_b2.ext E6
    replace F_b1_bytes := F_b1_bytes.ext E6
    replace F_b1_end := F_b1_end.ext E6
    replace F_b1_position := F_b1_position.ext E6
    replace K0 := K0.ext E6
    replace Z0 := Nat.le_trans Z0 E6.1
    have V_b6 : Arv Z h6 b6 k6 .byte (3 : Int32) [(.int (0 : Int32)), (.int (0 : Int32)), (.int (0 : Int32))] (.int (0 : Int32)) := (Arv.new A6 (by decide)).pad (pad_rep [] (.int (0 : Int32)) 3)
    show Go _ _ _ (T6.setTop (mkF m 42 #[.val (.int p1), .val (.int p2), .val (.int p3), .val (.int p4), .val (.int p5), .val (.ref b1), .val (.int 1), .unset, .unset, .unset, .unset, .unset, .unset, .unset] [(.ref b6)])) _
    refine Go.st (fun t k => XS.astore X6.here hx rfl (hb hby at_42) rfl rfl (l' := #[.val (.int p1), .val (.int p2), .val (.int p3), .val (.int p4), .val (.int p5), .val (.ref b1), .val (.int 1), .val (.ref b6), .unset, .unset, .unset, .unset, .unset, .unset]) rfl k) ?_
    refine Go.st (fun t k => XS.aload X6.here hx rfl (hb hby at_44) rfl rfl k) ?_
    refine Go.st (fun t k => XS.iconst X6.here hx rfl (hb hby at_46) k) ?_
    refine Go.st (fun t k => XS.iload X6.here hx rfl (hb hby at_47) rfl k) ?_
    refine Go.st (fun t k => XS.i2b X6.here hx rfl (hb hby at_49) rfl k) ?_
    show Go _ _ _ (T6.setTop (mkF m 50 #[.val (.int p1), .val (.int p2), .val (.int p3), .val (.int p4), .val (.int p5), .val (.ref b1), .val (.int 1), .val (.ref b6), .unset, .unset, .unset, .unset, .unset, .unset] [(.int (p5.toInt8.toInt32)), (.int 0), (.ref b6)])) _
    obtain ⟨cl7, Ar7, qq7, Sz7, Ng7, Hs7, Gs7⟩ := id V_b6
    have hin7 : ¬ ((0 : Int32) < 0 ∨ cl7.slots.size ≤ ((0 : Int32)).toNatClampNeg) := inb_of Sz7 ⟨by decide, by decide⟩
    obtain ⟨T8, h8, X8, e8, W8, st8⟩ := stB X6 hx hZ e6 Ar7 (j := (0 : Int32)) hin7 (g := (mkF m 50 #[.val (.int p1), .val (.int p2), .val (.int p3), .val (.int p4), .val (.int p5), .val (.ref b1), .val (.int 1), .val (.ref b6), .unset, .unset, .unset, .unset, .unset, .unset] [(.int (p5.toInt8.toInt32)), (.int 0), (.ref b6)])) rfl rfl (hb hby at_50)
    refine Go.st st8 ?_
    have N8 := Fr.snoc X8 N4 g_b6
    replace E_b1 := E_b1.wr W8
    replace V_b2 := V_b2.other W8 ne_b2_b6
    replace F_b1_bytes := F_b1_bytes.other W8 (Or.inl ne_b1_b6)
    replace F_b1_end := F_b1_end.other W8 (Or.inl ne_b1_b6)
    replace F_b1_position := F_b1_position.other W8 (Or.inl ne_b1_b6)
    replace Z0 := Nat.le_trans Z0 (Nat.le_of_eq W8.size.symm)
    replace K0 := K0.wr W8 (Or.inr sz_b6)
    replace V_b6 : Arv Z h8 b6 k6 .byte (3 : Int32) [(.int ((p5.toInt8.toInt32).toInt8.toInt32)), (.int (0 : Int32)), (.int (0 : Int32))] (.int (0 : Int32)) := Arv.set Ar7 qq7 Sz7 Ng7 Hs7 Gs7 (fits_nar_byte _) W8 0 rfl (Nat.le_of_ble_eq_true rfl)
    show Go _ _ _ (T8.setTop (mkF m 51 #[.val (.int p1), .val (.int p2), .val (.int p3), .val (.int p4), .val (.int p5), .val (.ref b1), .val (.int 1), .val (.ref b6), .unset, .unset, .unset, .unset, .unset, .unset] [])) _
    refine Go.st (fun t k => XS.aload X8.here hx rfl (hb hby at_51) rfl rfl k) ?_
    refine Go.st (fun t k => XS.iconst X8.here hx rfl (hb hby at_53) k) ?_
    refine Go.st (fun t k => XS.iload X8.here hx rfl (hb hby at_54) rfl k) ?_
    refine Go.st (fun t k => XS.bipush X8.here hx rfl (hb hby at_56) k) ?_
    refine Go.st (fun t k => XS.iushr X8.here hx rfl (hb hby at_58) rfl k) ?_
    show Go _ _ _ (T8.setTop (mkF m 59 #[.val (.int p1), .val (.int p2), .val (.int p3), .val (.int p4), .val (.int p5), .val (.ref b1), .val (.int 1), .val (.ref b6), .unset, .unset, .unset, .unset, .unset, .unset] [(.int ((p5.toUInt32 >>> ((8 : Int32) &&& 31).toUInt32).toInt32)), (.int 1), (.ref b6)])) _
    refine Go.st (fun t k => XS.i2b X8.here hx rfl (hb hby at_59) rfl k) ?_
    show Go _ _ _ (T8.setTop (mkF m 60 #[.val (.int p1), .val (.int p2), .val (.int p3), .val (.int p4), .val (.int p5), .val (.ref b1), .val (.int 1), .val (.ref b6), .unset, .unset, .unset, .unset, .unset, .unset] [(.int (((p5.toUInt32 >>> ((8 : Int32) &&& 31).toUInt32).toInt32).toInt8.toInt32)), (.int 1), (.ref b6)])) _
    obtain ⟨cl9, Ar9, qq9, Sz9, Ng9, Hs9, Gs9⟩ := id V_b6
    have hin9 : ¬ ((1 : Int32) < 0 ∨ cl9.slots.size ≤ ((1 : Int32)).toNatClampNeg) := inb_of Sz9 ⟨by decide, by decide⟩
    obtain ⟨T10, h10, X10, e10, W10, st10⟩ := stB X8 hx hZ e8 Ar9 (j := (1 : Int32)) hin9 (g := (mkF m 60 #[.val (.int p1), .val (.int p2), .val (.int p3), .val (.int p4), .val (.int p5), .val (.ref b1), .val (.int 1), .val (.ref b6), .unset, .unset, .unset, .unset, .unset, .unset] [(.int (((p5.toUInt32 >>> ((8 : Int32) &&& 31).toUInt32).toInt32).toInt8.toInt32)), (.int 1), (.ref b6)])) rfl rfl (hb hby at_60)
    refine Go.st st10 ?_
    have N10 := Fr.snoc X10 N8 g_b6
    replace E_b1 := E_b1.wr W10
    replace V_b2 := V_b2.other W10 ne_b2_b6
    replace F_b1_bytes := F_b1_bytes.other W10 (Or.inl ne_b1_b6)
    replace F_b1_end := F_b1_end.other W10 (Or.inl ne_b1_b6)
    replace F_b1_position := F_b1_position.other W10 (Or.inl ne_b1_b6)
    replace Z0 := Nat.le_trans Z0 (Nat.le_of_eq W10.size.symm)
    replace K0 := K0.wr W10 (Or.inr sz_b6)
    replace V_b6 : Arv Z h10 b6 k6 .byte (3 : Int32) [(.int ((p5.toInt8.toInt32).toInt8.toInt32)), (.int ((((p5.toUInt32 >>> ((8 : Int32) &&& 31).toUInt32).toInt32).toInt8.toInt32).toInt8.toInt32)), (.int (0 : Int32))] (.int (0 : Int32)) := Arv.set Ar9 qq9 Sz9 Ng9 Hs9 Gs9 (fits_nar_byte _) W10 1 rfl (Nat.le_of_ble_eq_true rfl)
    show Go _ _ _ (T10.setTop (mkF m 61 #[.val (.int p1), .val (.int p2), .val (.int p3), .val (.int p4), .val (.int p5), .val (.ref b1), .val (.int 1), .val (.ref b6), .unset, .unset, .unset, .unset, .unset, .unset] [])) _
    refine Go.st (fun t k => XS.aload X10.here hx rfl (hb hby at_61) rfl rfl k) ?_
    refine Go.st (fun t k => XS.iconst X10.here hx rfl (hb hby at_63) k) ?_
    refine Go.st (fun t k => XS.iload X10.here hx rfl (hb hby at_64) rfl k) ?_
    refine Go.st (fun t k => XS.bipush X10.here hx rfl (hb hby at_66) k) ?_
    refine Go.st (fun t k => XS.iushr X10.here hx rfl (hb hby at_68) rfl k) ?_
    show Go _ _ _ (T10.setTop (mkF m 69 #[.val (.int p1), .val (.int p2), .val (.int p3), .val (.int p4), .val (.int p5), .val (.ref b1), .val (.int 1), .val (.ref b6), .unset, .unset, .unset, .unset, .unset, .unset] [(.int ((p5.toUInt32 >>> ((16 : Int32) &&& 31).toUInt32).toInt32)), (.int 2), (.ref b6)])) _
    refine Go.st (fun t k => XS.i2b X10.here hx rfl (hb hby at_69) rfl k) ?_
    show Go _ _ _ (T10.setTop (mkF m 70 #[.val (.int p1), .val (.int p2), .val (.int p3), .val (.int p4), .val (.int p5), .val (.ref b1), .val (.int 1), .val (.ref b6), .unset, .unset, .unset, .unset, .unset, .unset] [(.int (((p5.toUInt32 >>> ((16 : Int32) &&& 31).toUInt32).toInt32).toInt8.toInt32)), (.int 2), (.ref b6)])) _
    obtain ⟨cl11, Ar11, qq11, Sz11, Ng11, Hs11, Gs11⟩ := id V_b6
    have hin11 : ¬ ((2 : Int32) < 0 ∨ cl11.slots.size ≤ ((2 : Int32)).toNatClampNeg) := inb_of Sz11 ⟨by decide, by decide⟩
    obtain ⟨T12, h12, X12, e12, W12, st12⟩ := stB X10 hx hZ e10 Ar11 (j := (2 : Int32)) hin11 (g := (mkF m 70 #[.val (.int p1), .val (.int p2), .val (.int p3), .val (.int p4), .val (.int p5), .val (.ref b1), .val (.int 1), .val (.ref b6), .unset, .unset, .unset, .unset, .unset, .unset] [(.int (((p5.toUInt32 >>> ((16 : Int32) &&& 31).toUInt32).toInt32).toInt8.toInt32)), (.int 2), (.ref b6)])) rfl rfl (hb hby at_70)
    refine Go.st st12 ?_
    have N12 := Fr.snoc X12 N10 g_b6
    replace E_b1 := E_b1.wr W12
    replace V_b2 := V_b2.other W12 ne_b2_b6
    replace F_b1_bytes := F_b1_bytes.other W12 (Or.inl ne_b1_b6)
    replace F_b1_end := F_b1_end.other W12 (Or.inl ne_b1_b6)
    replace F_b1_position := F_b1_position.other W12 (Or.inl ne_b1_b6)
    replace Z0 := Nat.le_trans Z0 (Nat.le_of_eq W12.size.symm)
    replace K0 := K0.wr W12 (Or.inr sz_b6)
    replace V_b6 : Arv Z h12 b6 k6 .byte (3 : Int32) [(.int ((p5.toInt8.toInt32).toInt8.toInt32)), (.int ((((p5.toUInt32 >>> ((8 : Int32) &&& 31).toUInt32).toInt32).toInt8.toInt32).toInt8.toInt32)), (.int ((((p5.toUInt32 >>> ((16 : Int32) &&& 31).toUInt32).toInt32).toInt8.toInt32).toInt8.toInt32))] (.int (0 : Int32)) := Arv.set Ar11 qq11 Sz11 Ng11 Hs11 Gs11 (fits_nar_byte _) W12 2 rfl (Nat.le_of_ble_eq_true rfl)
    show Go _ _ _ (T12.setTop (mkF m 71 #[.val (.int p1), .val (.int p2), .val (.int p3), .val (.int p4), .val (.int p5), .val (.ref b1), .val (.int 1), .val (.ref b6), .unset, .unset, .unset, .unset, .unset, .unset] [])) _
    refine Go.st (fun t k => XS.iloadN X12.here hx rfl (hb hby at_71) rfl k) ?_
    refine Go.st (fun t k => X12.ldcInt hx hown (mvT hZ (wd21 hw)) (g := (mkF m 72 #[.val (.int p1), .val (.int p2), .val (.int p3), .val (.int p4), .val (.int p5), .val (.ref b1), .val (.int 1), .val (.ref b6), .unset, .unset, .unset, .unset, .unset, .unset] [(.int p3)])) rfl (hb hby at_72) _ k) ?_
    show Go _ _ _ (T12.setTop (mkF m 74 #[.val (.int p1), .val (.int p2), .val (.int p3), .val (.int p4), .val (.int p5), .val (.ref b1), .val (.int 1), .val (.ref b6), .unset, .unset, .unset, .unset, .unset, .unset] [(.int 2147483647), (.int p3)])) _
    refine Go.st (fun t k => XS.iand X12.here hx rfl (hb hby at_74) rfl k) ?_
    show Go _ _ _ (T12.setTop (mkF m 75 #[.val (.int p1), .val (.int p2), .val (.int p3), .val (.int p4), .val (.int p5), .val (.ref b1), .val (.int 1), .val (.ref b6), .unset, .unset, .unset, .unset, .unset, .unset] [(.int (p3 &&& (2147483647 : Int32)))])) _
    refine Go.st (fun t k => XS.iconst X12.here hx rfl (hb hby at_75) k) ?_
    refine Go.st (fun t k => iremM X12 hx rfl (hb hby at_76) rfl (by decide) k) ?_
    show Go _ _ _ (T12.setTop (mkF m 77 #[.val (.int p1), .val (.int p2), .val (.int p3), .val (.int p4), .val (.int p5), .val (.ref b1), .val (.int 1), .val (.ref b6), .unset, .unset, .unset, .unset, .unset, .unset] [(.int ((p3 &&& (2147483647 : Int32)) % (4 : Int32)))])) _
    refine Go.st (fun t k => XS.istore X12.here hx rfl (hb hby at_77) rfl (l' := #[.val (.int p1), .val (.int p2), .val (.int p3), .val (.int p4), .val (.int p5), .val (.ref b1), .val (.int 1), .val (.ref b6), .val (.int ((p3 &&& (2147483647 : Int32)) % (4 : Int32))), .unset, .unset, .unset, .unset, .unset]) rfl k) ?_
    refine Go.st (fun t k => XS.iloadN X12.here hx rfl (hb hby at_79) rfl k) ?_
    refine Go.st (fun t k => X12.ldcInt hx hown (mvT hZ (wd21 hw)) (g := (mkF m 80 #[.val (.int p1), .val (.int p2), .val (.int p3), .val (.int p4), .val (.int p5), .val (.ref b1), .val (.int 1), .val (.ref b6), .val (.int ((p3 &&& (2147483647 : Int32)) % (4 : Int32))), .unset, .unset, .unset, .unset, .unset] [(.int p4)])) rfl (hb hby at_80) _ k) ?_
    show Go _ _ _ (T12.setTop (mkF m 82 #[.val (.int p1), .val (.int p2), .val (.int p3), .val (.int p4), .val (.int p5), .val (.ref b1), .val (.int 1), .val (.ref b6), .val (.int ((p3 &&& (2147483647 : Int32)) % (4 : Int32))), .unset, .unset, .unset, .unset, .unset] [(.int 2147483647), (.int p4)])) _
    refine Go.st (fun t k => XS.iand X12.here hx rfl (hb hby at_82) rfl k) ?_
    show Go _ _ _ (T12.setTop (mkF m 83 #[.val (.int p1), .val (.int p2), .val (.int p3), .val (.int p4), .val (.int p5), .val (.ref b1), .val (.int 1), .val (.ref b6), .val (.int ((p3 &&& (2147483647 : Int32)) % (4 : Int32))), .unset, .unset, .unset, .unset, .unset] [(.int (p4 &&& (2147483647 : Int32)))])) _
    refine Go.st (fun t k => XS.iconst X12.here hx rfl (hb hby at_83) k) ?_
    refine Go.st (fun t k => iremM X12 hx rfl (hb hby at_84) rfl (by decide) k) ?_
    show Go _ _ _ (T12.setTop (mkF m 85 #[.val (.int p1), .val (.int p2), .val (.int p3), .val (.int p4), .val (.int p5), .val (.ref b1), .val (.int 1), .val (.ref b6), .val (.int ((p3 &&& (2147483647 : Int32)) % (4 : Int32))), .unset, .unset, .unset, .unset, .unset] [(.int ((p4 &&& (2147483647 : Int32)) % (4 : Int32)))])) _
    refine Go.st (fun t k => XS.istore X12.here hx rfl (hb hby at_85) rfl (l' := #[.val (.int p1), .val (.int p2), .val (.int p3), .val (.int p4), .val (.int p5), .val (.ref b1), .val (.int 1), .val (.ref b6), .val (.int ((p3 &&& (2147483647 : Int32)) % (4 : Int32))), .val (.int ((p4 &&& (2147483647 : Int32)) % (4 : Int32))), .unset, .unset, .unset, .unset]) rfl k) ?_
    obtain ⟨T13, h13, X13, e13, E13, A13, D13, -, st13⟩ := newO X12 hx hZ hown (wd0 hw) (wd1 hw) (wd2 hw) e12 (g := (mkF m 87 #[.val (.int p1), .val (.int p2), .val (.int p3), .val (.int p4), .val (.int p5), .val (.ref b1), .val (.int 1), .val (.ref b6), .val (.int ((p3 &&& (2147483647 : Int32)) % (4 : Int32))), .val (.int ((p4 &&& (2147483647 : Int32)) % (4 : Int32))), .unset, .unset, .unset, .unset] [])) rfl (hb hby at_87) (by decide) (by decide)
    obtain ⟨b13, g13⟩ : ∃ z, z = h12.size := ⟨_, rfl⟩
    rw [← g13] at A13 D13 st13
    refine Go.st st13 ?_
    have ne_b1_b13 : b1 ≠ b13 := Nat.ne_of_lt (Nat.lt_of_lt_of_le E_b1.lt (Nat.le_of_eq g13.symm))
    have ne_b2_b13 : b2 ≠ b13 := Nat.ne_of_lt (Nat.lt_of_lt_of_le V_b2.lt (Nat.le_of_eq g13.symm))
    have ne_b6_b13 : b6 ≠ b13 := Nat.ne_of_lt (Nat.lt_of_lt_of_le V_b6.lt (Nat.le_of_eq g13.symm))
    have g_b13 : n0 ≤ b13 := Nat.le_trans Z0 (Nat.le_of_eq g13.symm)
    have sz_b13 : h0.size ≤ b13 := Nat.le_trans K0.1 (Nat.le_of_eq g13.symm)
    replace E_b1 := E_b1.ext E13
    replace V_b2 := V_b2.ext E13
    replace F_b1_bytes := F_b1_bytes.ext E13
    replace F_b1_end := F_b1_end.ext E13
    replace F_b1_position := F_b1_position.ext E13
    replace V_b6 := V_b6.ext E13
    replace K0 := K0.ext E13
    replace Z0 := Nat.le_trans Z0 E13.1
    have E_b13 := A13
    have F_b13_bytes : Fld Z h13 b13 "com/example/piece/piece/store/RecordReader" "bytes" "[B" .null := D13 (Or.inr (wd11 hw)) (ty := (.array .byte)) (by decide)
    have F_b13_end : Fld Z h13 b13 "com/example/piece/piece/store/RecordReader" "end" "I" (.int (0 : Int32)) := D13 (Or.inr (wd13 hw)) (ty := .int) (by decide)
    have F_b13_position : Fld Z h13 b13 "com/example/piece/piece/store/RecordReader" "position" "I" (.int (0 : Int32)) := D13 (Or.inl (wd15 hw)) (ty := .int) (by decide)
    show Go _ _ _ (T13.setTop (mkF m 90 #[.val (.int p1), .val (.int p2), .val (.int p3), .val (.int p4), .val (.int p5), .val (.ref b1), .val (.int 1), .val (.ref b6), .val (.int ((p3 &&& (2147483647 : Int32)) % (4 : Int32))), .val (.int ((p4 &&& (2147483647 : Int32)) % (4 : Int32))), .unset, .unset, .unset, .unset] [(.ref b13)])) _
    refine Go.st (fun t k => XS.dup X13.here hx rfl (hb hby at_90) rfl rfl k) ?_
    refine Go.st (fun t k => XS.aload X13.here hx rfl (hb hby at_91) rfl rfl k) ?_
    refine Go.st (fun t k => XS.iload X13.here hx rfl (hb hby at_93) rfl k) ?_
    refine Go.st (fun t k => XS.iload X13.here hx rfl (hb hby at_95) rfl k) ?_
    obtain ⟨_, _, ⟨T14, L14, k14, n14⟩, -, X14, ⟨Lc14, hQ14, l14, y14, z14⟩, st14⟩ := X13.specialBack hx (y := (⟨"com/example/piece/piece/store/RecordReader", "<init>", "([BII)V"⟩ : MethodName)) rfl hown (mvT hZ (wd4 hw)) (mvT hZ (wd5 hw)) (mvT hZ (wd6 hw)) (by decide) (backOf (W := 1) (rm1 l Z a0 hw [] b13 b6 ((p3 &&& (2147483647 : Int32)) % (4 : Int32)) ((p4 &&& (2147483647 : Int32)) % (4 : Int32)) (.null : Value) ((.int (0 : Int32)) : Value) ((.int (0 : Int32)) : Value) h13 n0 Z0 E_b13 F_b13_bytes F_b13_end F_b13_position g_b13) hZ (wd6 hw) (wd2 hw) (by decide) (by decide)) (g := (mkF m 97 #[.val (.int p1), .val (.int p2), .val (.int p3), .val (.int p4), .val (.int p5), .val (.ref b1), .val (.int 1), .val (.ref b6), .val (.int ((p3 &&& (2147483647 : Int32)) % (4 : Int32))), .val (.int ((p4 &&& (2147483647 : Int32)) % (4 : Int32))), .unset, .unset, .unset, .unset] [(.int ((p4 &&& (2147483647 : Int32)) % (4 : Int32))), (.int ((p3 &&& (2147483647 : Int32)) % (4 : Int32))), (.ref b6), (.ref b13), (.ref b13)])) rfl (by rw [hml]; rfl) (Steps.refl _) (a := b13) (argsL := [(.ref b6), (.int ((p3 &&& (2147483647 : Int32)) % (4 : Int32))), (.int ((p4 &&& (2147483647 : Int32)) % (4 : Int32)))]) (rest := [(.ref b13)]) (lenOf pd3 rfl) rfl (by show 2 * 0 + _ ≤ _; exact Nat.le_of_eq rfl) (hb hby at_97) (fun _ _ => ⟨rfl, e13, (by decide : 4 + 0 ≤ _), (by decide : 9 + 0 ≤ _)⟩)
    dsimp only [Pt.U, Pt.locs, Pt.cells, Pt.slots] at X14 l14 y14 z14 st14 hQ14
    subst l14 y14 z14
    refine Go.tr st14 ?_
    have E_b13_pre := E_b13
    have F_b13_bytes_pre := F_b13_bytes
    have F_b13_end_pre := F_b13_end
    have F_b13_position_pre := F_b13_position
    obtain ⟨h14, e14⟩ : ∃ z, T14.heap = z := ⟨_, rfl⟩
    rw [e14] at hQ14
    obtain ⟨rfl, N14q, K14, Q14_0, Q14_1, Q14_2, Q14_3⟩ := hQ14
    replace E_b1 := E_b1.keep K14
    replace V_b2 := V_b2.keep K14 (ninS ne_b2_b13 nin0)
    replace F_b1_bytes := F_b1_bytes.keep K14 (ninS ne_b1_b13 nin0)
    replace F_b1_end := F_b1_end.keep K14 (ninS ne_b1_b13 nin0)
    replace F_b1_position := F_b1_position.keep K14 (ninS ne_b1_b13 nin0)
    replace V_b6 := V_b6.keep K14 (ninS ne_b6_b13 nin0)
    replace E_b13 := E_b13.keep K14
    replace Z0 := Nat.le_trans Z0 K14.1
    replace K0 := K0.trans K14 (allS (Or.inr sz_b13) all0)
    have E_b13 := Q14_0
    have F_b13_bytes := Q14_1
    have F_b13_end := Q14_2
    have F_b13_position := Q14_3
    have N14 := Fr.app N12 N14q
    show Go _ _ _ (T14.setTop (mkF m 100 #[.val (.int p1), .val (.int p2), .val (.int p3), .val (.int p4), .val (.int p5), .val (.ref b1), .val (.int 1), .val (.ref b6), .val (.int ((p3 &&& (2147483647 : Int32)) % (4 : Int32))), .val (.int ((p4 &&& (2147483647 : Int32)) % (4 : Int32))), .unset, .unset, .unset, .unset] [(.ref b13)])) _
    refine Go.st (fun t k => XS.astore X14.here hx rfl (hb hby at_100) rfl rfl (l' := #[.val (.int p1), .val (.int p2), .val (.int p3), .val (.int p4), .val (.int p5), .val (.ref b1), .val (.int 1), .val (.ref b6), .val (.int ((p3 &&& (2147483647 : Int32)) % (4 : Int32))), .val (.int ((p4 &&& (2147483647 : Int32)) % (4 : Int32))), .val (.ref b13), .unset, .unset, .unset]) rfl k) ?_
    refine Go.st (fun t k => XS.iload X14.here hx rfl (hb hby at_102) rfl k) ?_
    refine Go.st (fun t k => XS.istore X14.here hx rfl (hb hby at_104) rfl (l' := #[.val (.int p1), .val (.int p2), .val (.int p3), .val (.int p4), .val (.int p5), .val (.ref b1), .val (.int 1), .val (.ref b6), .val (.int ((p3 &&& (2147483647 : Int32)) % (4 : Int32))), .val (.int ((p4 &&& (2147483647 : Int32)) % (4 : Int32))), .val (.ref b13), .val (.int ((p3 &&& (2147483647 : Int32)) % (4 : Int32))), .unset, .unset]) rfl k) ?_
    refine Go.st (fun t k => XS.iload X14.here hx rfl (hb hby at_106) rfl k) ?_
    refine Go.st (fun t k => XS.ifNo X14.here hx rfl (hb hby at_108) rfl ((if0 _ _).trans (feq (by decide : ¬ ((1 : Int32) = (0 : Int32)))).1) k) ?_
    show Go _ _ _ (T14.setTop (mkF m 111 #[.val (.int p1), .val (.int p2), .val (.int p3), .val (.int p4), .val (.int p5), .val (.ref b1), .val (.int 1), .val (.ref b6), .val (.int ((p3 &&& (2147483647 : Int32)) % (4 : Int32))), .val (.int ((p4 &&& (2147483647 : Int32)) % (4 : Int32))), .val (.ref b13), .val (.int ((p3 &&& (2147483647 : Int32)) % (4 : Int32))), .unset, .unset] [])) _
    refine Go.st (fun t k => XS.aload X14.here hx rfl (hb hby at_111) rfl rfl k) ?_
    refine Go.st (fun t k => XS.aload X14.here hx rfl (hb hby at_113) rfl rfl k) ?_
    refine Go.st (fun t k => XS.iload X14.here hx rfl (hb hby at_115) rfl k) ?_
    refine Go.st (fun t k => XS.iload X14.here hx rfl (hb hby at_117) rfl k) ?_
    obtain ⟨_, _, ⟨T15, L15, k15, n15⟩, -, X15, ⟨Lc15, hQ15, l15, y15, z15⟩, st15⟩ := Jvm.LawKit.callS X14 hx (y := (⟨"com/example/piece/piece/store/RecordReaderHasMorePinLaw", "step", "(Lcom/example/piece/piece/store/RecordReader;[BII)Z"⟩ : MethodName)) hown (mvT hZ (wd22 hw)) (mvT hZ (wd23 hw)) (mvT hZ (wd24 hw)) (mvT hZ (wd25 hw)) (by decide) (backOf (W := 0) (rm4 l Z a0 hw [] b13 b6 ((p3 &&& (2147483647 : Int32)) % (4 : Int32)) ((p4 &&& (2147483647 : Int32)) % (4 : Int32)) k6 ((p5.toInt8.toInt32).toInt8.toInt32) ((((p5.toUInt32 >>> ((8 : Int32) &&& 31).toUInt32).toInt32).toInt8.toInt32).toInt8.toInt32) ((((p5.toUInt32 >>> ((16 : Int32) &&& 31).toUInt32).toInt32).toInt8.toInt32).toInt8.toInt32) h14 n0 Z0 E_b13 F_b13_bytes F_b13_end F_b13_position V_b6 (own_r4 p3) (own_r4 p4) ne_b6_b13 g_b13) hZ (wd25 hw) (wd24 hw) (by decide) (by decide)) (g := (mkF m 119 #[.val (.int p1), .val (.int p2), .val (.int p3), .val (.int p4), .val (.int p5), .val (.ref b1), .val (.int 1), .val (.ref b6), .val (.int ((p3 &&& (2147483647 : Int32)) % (4 : Int32))), .val (.int ((p4 &&& (2147483647 : Int32)) % (4 : Int32))), .val (.ref b13), .val (.int ((p3 &&& (2147483647 : Int32)) % (4 : Int32))), .unset, .unset] [(.int ((p4 &&& (2147483647 : Int32)) % (4 : Int32))), (.int ((p3 &&& (2147483647 : Int32)) % (4 : Int32))), (.ref b6), (.ref b13)])) rfl (by rw [hml]; rfl) (argsL := [(.ref b13), (.ref b6), (.int ((p3 &&& (2147483647 : Int32)) % (4 : Int32))), (.int ((p4 &&& (2147483647 : Int32)) % (4 : Int32)))]) (rest := []) (lenOf pd4 rfl) rfl (by show 2 * 0 + _ ≤ _; exact Nat.le_of_eq rfl) (hb hby at_119) (fun _ _ => ⟨rfl, e14, (by decide : 4 + 0 ≤ _), (by decide : 9 + 0 ≤ _)⟩)
    dsimp only [Pt.U, Pt.locs, Pt.cells, Pt.slots] at X15 l15 y15 z15 st15 hQ15
    subst l15 y15 z15
    refine Go.st st15 ?_
    have E_b13_pre := E_b13
    have F_b13_bytes_pre := F_b13_bytes
    have F_b13_end_pre := F_b13_end
    have F_b13_position_pre := F_b13_position
    obtain ⟨h15, e15⟩ : ∃ z, T15.heap = z := ⟨_, rfl⟩
    rw [e15] at hQ15
    obtain ⟨rfl, N15q, K15, Q15_0, Q15_1, Q15_2, Q15_3⟩ := hQ15
    replace E_b1 := E_b1.keep K15
    replace V_b2 := V_b2.keep K15 (ninS ne_b2_b13 nin0)
    replace F_b1_bytes := F_b1_bytes.keep K15 (ninS ne_b1_b13 nin0)
    replace F_b1_end := F_b1_end.keep K15 (ninS ne_b1_b13 nin0)
    replace F_b1_position := F_b1_position.keep K15 (ninS ne_b1_b13 nin0)
    replace V_b6 := V_b6.keep K15 (ninS ne_b6_b13 nin0)
    replace E_b13 := E_b13.keep K15
    replace Z0 := Nat.le_trans Z0 K15.1
    replace K0 := K0.trans K15 (allS (Or.inr sz_b13) all0)
    have E_b13 := Q15_0
    have F_b13_end := Q15_1
    have F_b13_position := Q15_2
    have F_b13_bytes := Q15_3
    have N15 := Fr.app N14 N15q
    show Go _ _ _ (T15.setTop (mkF m 122 #[.val (.int p1), .val (.int p2), .val (.int p3), .val (.int p4), .val (.int p5), .val (.ref b1), .val (.int 1), .val (.ref b6), .val (.int ((p3 &&& (2147483647 : Int32)) % (4 : Int32))), .val (.int ((p4 &&& (2147483647 : Int32)) % (4 : Int32))), .val (.ref b13), .val (.int ((p3 &&& (2147483647 : Int32)) % (4 : Int32))), .unset, .unset] [(.int 1)])) _
    refine Go.st (fun t k => XS.ifNo X15.here hx rfl (hb hby at_122) rfl ((if0 _ _).trans (feq (by decide : ¬ ((1 : Int32) = (0 : Int32)))).1) k) ?_
    show Go _ _ _ (T15.setTop (mkF m 125 #[.val (.int p1), .val (.int p2), .val (.int p3), .val (.int p4), .val (.int p5), .val (.ref b1), .val (.int 1), .val (.ref b6), .val (.int ((p3 &&& (2147483647 : Int32)) % (4 : Int32))), .val (.int ((p4 &&& (2147483647 : Int32)) % (4 : Int32))), .val (.ref b13), .val (.int ((p3 &&& (2147483647 : Int32)) % (4 : Int32))), .unset, .unset] [])) _
    refine Go.st (fun t k => XS.iconst X15.here hx rfl (hb hby at_125) k) ?_
    refine Go.st (fun t k => XS.goto X15.here hx rfl (pc0 := 126) (pc' := 130) rfl (hb hby at_126) (by decide) (by decide) k) ?_
    refine Go.st (fun t k => XS.istore X15.here hx rfl (hb hby at_130) rfl (l' := #[.val (.int p1), .val (.int p2), .val (.int p3), .val (.int p4), .val (.int p5), .val (.ref b1), .val (.int 1), .val (.ref b6), .val (.int ((p3 &&& (2147483647 : Int32)) % (4 : Int32))), .val (.int ((p4 &&& (2147483647 : Int32)) % (4 : Int32))), .val (.ref b13), .val (.int ((p3 &&& (2147483647 : Int32)) % (4 : Int32))), .unset, .unset]) rfl k) ?_
    refine Go.st (fun t k => XS.iload X15.here hx rfl (hb hby at_132) rfl k) ?_
    refine Go.st (fun t k => XS.iload X15.here hx rfl (hb hby at_134) rfl k) ?_
    obtain ⟨_, _, ⟨T16, L16, k16, n16⟩, -, X16, ⟨Lc16, hQ16, l16, y16, z16⟩, st16⟩ := Jvm.LawKit.callS X15 hx (y := (⟨"com/example/piece/piece/store/RecordReaderHasMorePinLaw", "next", "(II)I"⟩ : MethodName)) hown (mvT hZ (wd26 hw)) (mvT hZ (wd27 hw)) (mvT hZ (wd24 hw)) (mvT hZ (wd28 hw)) (by decide) (backOf (W := 0) (rm5 l Z a0 hw [] ((p3 &&& (2147483647 : Int32)) % (4 : Int32)) ((p4 &&& (2147483647 : Int32)) % (4 : Int32)) h15 n0 Z0) hZ (wd28 hw) (wd24 hw) (by decide) (by decide)) (g := (mkF m 136 #[.val (.int p1), .val (.int p2), .val (.int p3), .val (.int p4), .val (.int p5), .val (.ref b1), .val (.int 1), .val (.ref b6), .val (.int ((p3 &&& (2147483647 : Int32)) % (4 : Int32))), .val (.int ((p4 &&& (2147483647 : Int32)) % (4 : Int32))), .val (.ref b13), .val (.int ((p3 &&& (2147483647 : Int32)) % (4 : Int32))), .unset, .unset] [(.int ((p4 &&& (2147483647 : Int32)) % (4 : Int32))), (.int ((p3 &&& (2147483647 : Int32)) % (4 : Int32)))])) rfl (by rw [hml]; rfl) (argsL := [(.int ((p3 &&& (2147483647 : Int32)) % (4 : Int32))), (.int ((p4 &&& (2147483647 : Int32)) % (4 : Int32)))]) (rest := []) (lenOf pd5 rfl) rfl (by show 2 * 0 + _ ≤ _; exact Nat.le_of_eq rfl) (hb hby at_136) (fun _ _ => ⟨rfl, e15, (by decide : 4 + 0 ≤ _), (by decide : 9 + 0 ≤ _)⟩)
    dsimp only [Pt.U, Pt.locs, Pt.cells, Pt.slots] at X16 l16 y16 z16 st16 hQ16
    subst l16 y16 z16
    refine Go.st st16 ?_
    obtain ⟨rfl, N16q, e16⟩ := hQ16
    have N16 := Fr.app N15 N16q
    show Go _ _ _ (T16.setTop (mkF m 139 #[.val (.int p1), .val (.int p2), .val (.int p3), .val (.int p4), .val (.int p5), .val (.ref b1), .val (.int 1), .val (.ref b6), .val (.int ((p3 &&& (2147483647 : Int32)) % (4 : Int32))), .val (.int ((p4 &&& (2147483647 : Int32)) % (4 : Int32))), .val (.ref b13), .val (.int ((p3 &&& (2147483647 : Int32)) % (4 : Int32))), .unset, .unset] [(.int (f5 ((p3 &&& (2147483647 : Int32)) % (4 : Int32)) ((p4 &&& (2147483647 : Int32)) % (4 : Int32))))])) _
    refine Go.st (fun t k => XS.istore X16.here hx rfl (hb hby at_139) rfl (l' := #[.val (.int p1), .val (.int p2), .val (.int p3), .val (.int p4), .val (.int p5), .val (.ref b1), .val (.int 1), .val (.ref b6), .val (.int ((p3 &&& (2147483647 : Int32)) % (4 : Int32))), .val (.int ((p4 &&& (2147483647 : Int32)) % (4 : Int32))), .val (.ref b13), .val (.int ((p3 &&& (2147483647 : Int32)) % (4 : Int32))), .val (.int (f5 ((p3 &&& (2147483647 : Int32)) % (4 : Int32)) ((p4 &&& (2147483647 : Int32)) % (4 : Int32)))), .unset]) rfl k) ?_
    refine Go.st (fun t k => XS.iload X16.here hx rfl (hb hby at_141) rfl k) ?_
    refine Go.st (fun t k => XS.ifNo X16.here hx rfl (hb hby at_143) rfl ((if0 _ _).trans (feq (by decide : ¬ ((1 : Int32) = (0 : Int32)))).1) k) ?_
    show Go _ _ _ (T16.setTop (mkF m 146 #[.val (.int p1), .val (.int p2), .val (.int p3), .val (.int p4), .val (.int p5), .val (.ref b1), .val (.int 1), .val (.ref b6), .val (.int ((p3 &&& (2147483647 : Int32)) % (4 : Int32))), .val (.int ((p4 &&& (2147483647 : Int32)) % (4 : Int32))), .val (.ref b13), .val (.int ((p3 &&& (2147483647 : Int32)) % (4 : Int32))), .val (.int (f5 ((p3 &&& (2147483647 : Int32)) % (4 : Int32)) ((p4 &&& (2147483647 : Int32)) % (4 : Int32)))), .unset] [])) _
    refine Go.st (fun t k => XS.aload X16.here hx rfl (hb hby at_146) rfl rfl k) ?_
    refine Go.st (fun t k => XS.aload X16.here hx rfl (hb hby at_148) rfl rfl k) ?_
    refine Go.st (fun t k => XS.iload X16.here hx rfl (hb hby at_150) rfl k) ?_
    refine Go.st (fun t k => XS.iload X16.here hx rfl (hb hby at_152) rfl k) ?_
    obtain ⟨_, _, ⟨T17, L17, k17, n17⟩, -, X17, ⟨Lc17, hQ17, l17, y17, z17⟩, st17⟩ := Jvm.LawKit.callS X16 hx (y := (⟨"com/example/piece/piece/store/RecordReaderHasMorePinLaw", "step", "(Lcom/example/piece/piece/store/RecordReader;[BII)Z"⟩ : MethodName)) hown (mvT hZ (wd22 hw)) (mvT hZ (wd23 hw)) (mvT hZ (wd24 hw)) (mvT hZ (wd25 hw)) (by decide) (backOf (W := 0) (rm4 l Z a0 hw [] b13 b6 (f5 ((p3 &&& (2147483647 : Int32)) % (4 : Int32)) ((p4 &&& (2147483647 : Int32)) % (4 : Int32))) ((p4 &&& (2147483647 : Int32)) % (4 : Int32)) k6 ((p5.toInt8.toInt32).toInt8.toInt32) ((((p5.toUInt32 >>> ((8 : Int32) &&& 31).toUInt32).toInt32).toInt8.toInt32).toInt8.toInt32) ((((p5.toUInt32 >>> ((16 : Int32) &&& 31).toUInt32).toInt32).toInt8.toInt32).toInt8.toInt32) h15 n0 Z0 E_b13 F_b13_bytes F_b13_end F_b13_position V_b6 (own_nx3 _ _ (own_r4 p3) (own_r4 p4)) (own_r4 p4) ne_b6_b13 g_b13) hZ (wd25 hw) (wd24 hw) (by decide) (by decide)) (g := (mkF m 154 #[.val (.int p1), .val (.int p2), .val (.int p3), .val (.int p4), .val (.int p5), .val (.ref b1), .val (.int 1), .val (.ref b6), .val (.int ((p3 &&& (2147483647 : Int32)) % (4 : Int32))), .val (.int ((p4 &&& (2147483647 : Int32)) % (4 : Int32))), .val (.ref b13), .val (.int ((p3 &&& (2147483647 : Int32)) % (4 : Int32))), .val (.int (f5 ((p3 &&& (2147483647 : Int32)) % (4 : Int32)) ((p4 &&& (2147483647 : Int32)) % (4 : Int32)))), .unset] [(.int ((p4 &&& (2147483647 : Int32)) % (4 : Int32))), (.int (f5 ((p3 &&& (2147483647 : Int32)) % (4 : Int32)) ((p4 &&& (2147483647 : Int32)) % (4 : Int32)))), (.ref b6), (.ref b13)])) rfl (by rw [hml]; rfl) (argsL := [(.ref b13), (.ref b6), (.int (f5 ((p3 &&& (2147483647 : Int32)) % (4 : Int32)) ((p4 &&& (2147483647 : Int32)) % (4 : Int32)))), (.int ((p4 &&& (2147483647 : Int32)) % (4 : Int32)))]) (rest := []) (lenOf pd4 rfl) rfl (by show 2 * 0 + _ ≤ _; exact Nat.le_of_eq rfl) (hb hby at_154) (fun _ _ => ⟨rfl, e16, (by decide : 4 + 0 ≤ _), (by decide : 9 + 0 ≤ _)⟩)
    dsimp only [Pt.U, Pt.locs, Pt.cells, Pt.slots] at X17 l17 y17 z17 st17 hQ17
    subst l17 y17 z17
    refine Go.st st17 ?_
    have E_b13_pre := E_b13
    have F_b13_end_pre := F_b13_end
    have F_b13_position_pre := F_b13_position
    have F_b13_bytes_pre := F_b13_bytes
    obtain ⟨h17, e17⟩ : ∃ z, T17.heap = z := ⟨_, rfl⟩
    rw [e17] at hQ17
    obtain ⟨rfl, N17q, K17, Q17_0, Q17_1, Q17_2, Q17_3⟩ := hQ17
    replace E_b1 := E_b1.keep K17
    replace V_b2 := V_b2.keep K17 (ninS ne_b2_b13 nin0)
    replace F_b1_bytes := F_b1_bytes.keep K17 (ninS ne_b1_b13 nin0)
    replace F_b1_end := F_b1_end.keep K17 (ninS ne_b1_b13 nin0)
    replace F_b1_position := F_b1_position.keep K17 (ninS ne_b1_b13 nin0)
    replace V_b6 := V_b6.keep K17 (ninS ne_b6_b13 nin0)
    replace E_b13 := E_b13.keep K17
    replace Z0 := Nat.le_trans Z0 K17.1
    replace K0 := K0.trans K17 (allS (Or.inr sz_b13) all0)
    have E_b13 := Q17_0
    have F_b13_end := Q17_1
    have F_b13_position := Q17_2
    have F_b13_bytes := Q17_3
    have N17 := Fr.app N16 N17q
    show Go _ _ _ (T17.setTop (mkF m 157 #[.val (.int p1), .val (.int p2), .val (.int p3), .val (.int p4), .val (.int p5), .val (.ref b1), .val (.int 1), .val (.ref b6), .val (.int ((p3 &&& (2147483647 : Int32)) % (4 : Int32))), .val (.int ((p4 &&& (2147483647 : Int32)) % (4 : Int32))), .val (.ref b13), .val (.int ((p3 &&& (2147483647 : Int32)) % (4 : Int32))), .val (.int (f5 ((p3 &&& (2147483647 : Int32)) % (4 : Int32)) ((p4 &&& (2147483647 : Int32)) % (4 : Int32)))), .unset] [(.int 1)])) _
    refine Go.st (fun t k => XS.ifNo X17.here hx rfl (hb hby at_157) rfl ((if0 _ _).trans (feq (by decide : ¬ ((1 : Int32) = (0 : Int32)))).1) k) ?_
    show Go _ _ _ (T17.setTop (mkF m 160 #[.val (.int p1), .val (.int p2), .val (.int p3), .val (.int p4), .val (.int p5), .val (.ref b1), .val (.int 1), .val (.ref b6), .val (.int ((p3 &&& (2147483647 : Int32)) % (4 : Int32))), .val (.int ((p4 &&& (2147483647 : Int32)) % (4 : Int32))), .val (.ref b13), .val (.int ((p3 &&& (2147483647 : Int32)) % (4 : Int32))), .val (.int (f5 ((p3 &&& (2147483647 : Int32)) % (4 : Int32)) ((p4 &&& (2147483647 : Int32)) % (4 : Int32)))), .unset] [])) _
    refine Go.st (fun t k => XS.iconst X17.here hx rfl (hb hby at_160) k) ?_
    refine Go.st (fun t k => XS.goto X17.here hx rfl (pc0 := 161) (pc' := 165) rfl (hb hby at_161) (by decide) (by decide) k) ?_
    refine Go.st (fun t k => XS.istore X17.here hx rfl (hb hby at_165) rfl (l' := #[.val (.int p1), .val (.int p2), .val (.int p3), .val (.int p4), .val (.int p5), .val (.ref b1), .val (.int 1), .val (.ref b6), .val (.int ((p3 &&& (2147483647 : Int32)) % (4 : Int32))), .val (.int ((p4 &&& (2147483647 : Int32)) % (4 : Int32))), .val (.ref b13), .val (.int ((p3 &&& (2147483647 : Int32)) % (4 : Int32))), .val (.int (f5 ((p3 &&& (2147483647 : Int32)) % (4 : Int32)) ((p4 &&& (2147483647 : Int32)) % (4 : Int32)))), .unset]) rfl k) ?_
    refine Go.st (fun t k => XS.iload X17.here hx rfl (hb hby at_167) rfl k) ?_
    refine Go.st (fun t k => XS.iload X17.here hx rfl (hb hby at_169) rfl k) ?_
    obtain ⟨_, _, ⟨T18, L18, k18, n18⟩, -, X18, ⟨Lc18, hQ18, l18, y18, z18⟩, st18⟩ := Jvm.LawKit.callS X17 hx (y := (⟨"com/example/piece/piece/store/RecordReaderHasMorePinLaw", "next", "(II)I"⟩ : MethodName)) hown (mvT hZ (wd26 hw)) (mvT hZ (wd27 hw)) (mvT hZ (wd24 hw)) (mvT hZ (wd28 hw)) (by decide) (backOf (W := 0) (rm5 l Z a0 hw [] (f5 ((p3 &&& (2147483647 : Int32)) % (4 : Int32)) ((p4 &&& (2147483647 : Int32)) % (4 : Int32))) ((p4 &&& (2147483647 : Int32)) % (4 : Int32)) h17 n0 Z0) hZ (wd28 hw) (wd24 hw) (by decide) (by decide)) (g := (mkF m 171 #[.val (.int p1), .val (.int p2), .val (.int p3), .val (.int p4), .val (.int p5), .val (.ref b1), .val (.int 1), .val (.ref b6), .val (.int ((p3 &&& (2147483647 : Int32)) % (4 : Int32))), .val (.int ((p4 &&& (2147483647 : Int32)) % (4 : Int32))), .val (.ref b13), .val (.int ((p3 &&& (2147483647 : Int32)) % (4 : Int32))), .val (.int (f5 ((p3 &&& (2147483647 : Int32)) % (4 : Int32)) ((p4 &&& (2147483647 : Int32)) % (4 : Int32)))), .unset] [(.int ((p4 &&& (2147483647 : Int32)) % (4 : Int32))), (.int (f5 ((p3 &&& (2147483647 : Int32)) % (4 : Int32)) ((p4 &&& (2147483647 : Int32)) % (4 : Int32))))])) rfl (by rw [hml]; rfl) (argsL := [(.int (f5 ((p3 &&& (2147483647 : Int32)) % (4 : Int32)) ((p4 &&& (2147483647 : Int32)) % (4 : Int32)))), (.int ((p4 &&& (2147483647 : Int32)) % (4 : Int32)))]) (rest := []) (lenOf pd5 rfl) rfl (by show 2 * 0 + _ ≤ _; exact Nat.le_of_eq rfl) (hb hby at_171) (fun _ _ => ⟨rfl, e17, (by decide : 4 + 0 ≤ _), (by decide : 9 + 0 ≤ _)⟩)
    dsimp only [Pt.U, Pt.locs, Pt.cells, Pt.slots] at X18 l18 y18 z18 st18 hQ18
    subst l18 y18 z18
    refine Go.st st18 ?_
    obtain ⟨rfl, N18q, e18⟩ := hQ18
    have N18 := Fr.app N17 N18q
    show Go _ _ _ (T18.setTop (mkF m 174 #[.val (.int p1), .val (.int p2), .val (.int p3), .val (.int p4), .val (.int p5), .val (.ref b1), .val (.int 1), .val (.ref b6), .val (.int ((p3 &&& (2147483647 : Int32)) % (4 : Int32))), .val (.int ((p4 &&& (2147483647 : Int32)) % (4 : Int32))), .val (.ref b13), .val (.int ((p3 &&& (2147483647 : Int32)) % (4 : Int32))), .val (.int (f5 ((p3 &&& (2147483647 : Int32)) % (4 : Int32)) ((p4 &&& (2147483647 : Int32)) % (4 : Int32)))), .unset] [(.int (f5 (f5 ((p3 &&& (2147483647 : Int32)) % (4 : Int32)) ((p4 &&& (2147483647 : Int32)) % (4 : Int32))) ((p4 &&& (2147483647 : Int32)) % (4 : Int32))))])) _
    refine Go.st (fun t k => XS.istore X18.here hx rfl (hb hby at_174) rfl (l' := #[.val (.int p1), .val (.int p2), .val (.int p3), .val (.int p4), .val (.int p5), .val (.ref b1), .val (.int 1), .val (.ref b6), .val (.int ((p3 &&& (2147483647 : Int32)) % (4 : Int32))), .val (.int ((p4 &&& (2147483647 : Int32)) % (4 : Int32))), .val (.ref b13), .val (.int ((p3 &&& (2147483647 : Int32)) % (4 : Int32))), .val (.int (f5 ((p3 &&& (2147483647 : Int32)) % (4 : Int32)) ((p4 &&& (2147483647 : Int32)) % (4 : Int32)))), .val (.int (f5 (f5 ((p3 &&& (2147483647 : Int32)) % (4 : Int32)) ((p4 &&& (2147483647 : Int32)) % (4 : Int32))) ((p4 &&& (2147483647 : Int32)) % (4 : Int32))))]) rfl k) ?_
    refine Go.st (fun t k => XS.iload X18.here hx rfl (hb hby at_176) rfl k) ?_
    refine Go.st (fun t k => XS.ifNo X18.here hx rfl (hb hby at_178) rfl ((if0 _ _).trans (feq (by decide : ¬ ((1 : Int32) = (0 : Int32)))).1) k) ?_
    show Go _ _ _ (T18.setTop (mkF m 181 #[.val (.int p1), .val (.int p2), .val (.int p3), .val (.int p4), .val (.int p5), .val (.ref b1), .val (.int 1), .val (.ref b6), .val (.int ((p3 &&& (2147483647 : Int32)) % (4 : Int32))), .val (.int ((p4 &&& (2147483647 : Int32)) % (4 : Int32))), .val (.ref b13), .val (.int ((p3 &&& (2147483647 : Int32)) % (4 : Int32))), .val (.int (f5 ((p3 &&& (2147483647 : Int32)) % (4 : Int32)) ((p4 &&& (2147483647 : Int32)) % (4 : Int32)))), .val (.int (f5 (f5 ((p3 &&& (2147483647 : Int32)) % (4 : Int32)) ((p4 &&& (2147483647 : Int32)) % (4 : Int32))) ((p4 &&& (2147483647 : Int32)) % (4 : Int32))))] [])) _
    refine Go.st (fun t k => XS.aload X18.here hx rfl (hb hby at_181) rfl rfl k) ?_
    refine Go.st (fun t k => XS.aload X18.here hx rfl (hb hby at_183) rfl rfl k) ?_
    refine Go.st (fun t k => XS.iload X18.here hx rfl (hb hby at_185) rfl k) ?_
    refine Go.st (fun t k => XS.iload X18.here hx rfl (hb hby at_187) rfl k) ?_
    obtain ⟨_, _, ⟨T19, L19, k19, n19⟩, -, X19, ⟨Lc19, hQ19, l19, y19, z19⟩, st19⟩ := Jvm.LawKit.callS X18 hx (y := (⟨"com/example/piece/piece/store/RecordReaderHasMorePinLaw", "step", "(Lcom/example/piece/piece/store/RecordReader;[BII)Z"⟩ : MethodName)) hown (mvT hZ (wd22 hw)) (mvT hZ (wd23 hw)) (mvT hZ (wd24 hw)) (mvT hZ (wd25 hw)) (by decide) (backOf (W := 0) (rm4 l Z a0 hw [] b13 b6 (f5 (f5 ((p3 &&& (2147483647 : Int32)) % (4 : Int32)) ((p4 &&& (2147483647 : Int32)) % (4 : Int32))) ((p4 &&& (2147483647 : Int32)) % (4 : Int32))) ((p4 &&& (2147483647 : Int32)) % (4 : Int32)) k6 ((p5.toInt8.toInt32).toInt8.toInt32) ((((p5.toUInt32 >>> ((8 : Int32) &&& 31).toUInt32).toInt32).toInt8.toInt32).toInt8.toInt32) ((((p5.toUInt32 >>> ((16 : Int32) &&& 31).toUInt32).toInt32).toInt8.toInt32).toInt8.toInt32) h17 n0 Z0 E_b13 F_b13_bytes F_b13_end F_b13_position V_b6 (own_nx3 _ _ (own_nx3 _ _ (own_r4 p3) (own_r4 p4)) (own_r4 p4)) (own_r4 p4) ne_b6_b13 g_b13) hZ (wd25 hw) (wd24 hw) (by decide) (by decide)) (g := (mkF m 189 #[.val (.int p1), .val (.int p2), .val (.int p3), .val (.int p4), .val (.int p5), .val (.ref b1), .val (.int 1), .val (.ref b6), .val (.int ((p3 &&& (2147483647 : Int32)) % (4 : Int32))), .val (.int ((p4 &&& (2147483647 : Int32)) % (4 : Int32))), .val (.ref b13), .val (.int ((p3 &&& (2147483647 : Int32)) % (4 : Int32))), .val (.int (f5 ((p3 &&& (2147483647 : Int32)) % (4 : Int32)) ((p4 &&& (2147483647 : Int32)) % (4 : Int32)))), .val (.int (f5 (f5 ((p3 &&& (2147483647 : Int32)) % (4 : Int32)) ((p4 &&& (2147483647 : Int32)) % (4 : Int32))) ((p4 &&& (2147483647 : Int32)) % (4 : Int32))))] [(.int ((p4 &&& (2147483647 : Int32)) % (4 : Int32))), (.int (f5 (f5 ((p3 &&& (2147483647 : Int32)) % (4 : Int32)) ((p4 &&& (2147483647 : Int32)) % (4 : Int32))) ((p4 &&& (2147483647 : Int32)) % (4 : Int32)))), (.ref b6), (.ref b13)])) rfl (by rw [hml]; rfl) (argsL := [(.ref b13), (.ref b6), (.int (f5 (f5 ((p3 &&& (2147483647 : Int32)) % (4 : Int32)) ((p4 &&& (2147483647 : Int32)) % (4 : Int32))) ((p4 &&& (2147483647 : Int32)) % (4 : Int32)))), (.int ((p4 &&& (2147483647 : Int32)) % (4 : Int32)))]) (rest := []) (lenOf pd4 rfl) rfl (by show 2 * 0 + _ ≤ _; exact Nat.le_of_eq rfl) (hb hby at_189) (fun _ _ => ⟨rfl, e18, (by decide : 4 + 0 ≤ _), (by decide : 9 + 0 ≤ _)⟩)
    dsimp only [Pt.U, Pt.locs, Pt.cells, Pt.slots] at X19 l19 y19 z19 st19 hQ19
    subst l19 y19 z19
    refine Go.st st19 ?_
    have E_b13_pre := E_b13
    have F_b13_end_pre := F_b13_end
    have F_b13_position_pre := F_b13_position
    have F_b13_bytes_pre := F_b13_bytes
    obtain ⟨h19, e19⟩ : ∃ z, T19.heap = z := ⟨_, rfl⟩
    rw [e19] at hQ19
    obtain ⟨rfl, N19q, K19, Q19_0, Q19_1, Q19_2, Q19_3⟩ := hQ19
    replace E_b1 := E_b1.keep K19
    replace V_b2 := V_b2.keep K19 (ninS ne_b2_b13 nin0)
    replace F_b1_bytes := F_b1_bytes.keep K19 (ninS ne_b1_b13 nin0)
    replace F_b1_end := F_b1_end.keep K19 (ninS ne_b1_b13 nin0)
    replace F_b1_position := F_b1_position.keep K19 (ninS ne_b1_b13 nin0)
    replace V_b6 := V_b6.keep K19 (ninS ne_b6_b13 nin0)
    replace E_b13 := E_b13.keep K19
    replace Z0 := Nat.le_trans Z0 K19.1
    replace K0 := K0.trans K19 (allS (Or.inr sz_b13) all0)
    have E_b13 := Q19_0
    have F_b13_end := Q19_1
    have F_b13_position := Q19_2
    have F_b13_bytes := Q19_3
    have N19 := Fr.app N18 N19q
    show Go _ _ _ (T19.setTop (mkF m 192 #[.val (.int p1), .val (.int p2), .val (.int p3), .val (.int p4), .val (.int p5), .val (.ref b1), .val (.int 1), .val (.ref b6), .val (.int ((p3 &&& (2147483647 : Int32)) % (4 : Int32))), .val (.int ((p4 &&& (2147483647 : Int32)) % (4 : Int32))), .val (.ref b13), .val (.int ((p3 &&& (2147483647 : Int32)) % (4 : Int32))), .val (.int (f5 ((p3 &&& (2147483647 : Int32)) % (4 : Int32)) ((p4 &&& (2147483647 : Int32)) % (4 : Int32)))), .val (.int (f5 (f5 ((p3 &&& (2147483647 : Int32)) % (4 : Int32)) ((p4 &&& (2147483647 : Int32)) % (4 : Int32))) ((p4 &&& (2147483647 : Int32)) % (4 : Int32))))] [(.int 1)])) _
    refine Go.st (fun t k => XS.ifNo X19.here hx rfl (hb hby at_192) rfl ((if0 _ _).trans (feq (by decide : ¬ ((1 : Int32) = (0 : Int32)))).1) k) ?_
    show Go _ _ _ (T19.setTop (mkF m 195 #[.val (.int p1), .val (.int p2), .val (.int p3), .val (.int p4), .val (.int p5), .val (.ref b1), .val (.int 1), .val (.ref b6), .val (.int ((p3 &&& (2147483647 : Int32)) % (4 : Int32))), .val (.int ((p4 &&& (2147483647 : Int32)) % (4 : Int32))), .val (.ref b13), .val (.int ((p3 &&& (2147483647 : Int32)) % (4 : Int32))), .val (.int (f5 ((p3 &&& (2147483647 : Int32)) % (4 : Int32)) ((p4 &&& (2147483647 : Int32)) % (4 : Int32)))), .val (.int (f5 (f5 ((p3 &&& (2147483647 : Int32)) % (4 : Int32)) ((p4 &&& (2147483647 : Int32)) % (4 : Int32))) ((p4 &&& (2147483647 : Int32)) % (4 : Int32))))] [])) _
    refine Go.st (fun t k => XS.iconst X19.here hx rfl (hb hby at_195) k) ?_
    refine Go.st (fun t k => XS.goto X19.here hx rfl (pc0 := 196) (pc' := 200) rfl (hb hby at_196) (by decide) (by decide) k) ?_
    refine Go.st (fun t k => XS.istore X19.here hx rfl (hb hby at_200) rfl (l' := #[.val (.int p1), .val (.int p2), .val (.int p3), .val (.int p4), .val (.int p5), .val (.ref b1), .val (.int 1), .val (.ref b6), .val (.int ((p3 &&& (2147483647 : Int32)) % (4 : Int32))), .val (.int ((p4 &&& (2147483647 : Int32)) % (4 : Int32))), .val (.ref b13), .val (.int ((p3 &&& (2147483647 : Int32)) % (4 : Int32))), .val (.int (f5 ((p3 &&& (2147483647 : Int32)) % (4 : Int32)) ((p4 &&& (2147483647 : Int32)) % (4 : Int32)))), .val (.int (f5 (f5 ((p3 &&& (2147483647 : Int32)) % (4 : Int32)) ((p4 &&& (2147483647 : Int32)) % (4 : Int32))) ((p4 &&& (2147483647 : Int32)) % (4 : Int32))))]) rfl k) ?_
    refine Go.st (fun t k => XS.iload X19.here hx rfl (hb hby at_202) rfl k) ?_
    refine Go.st (fun t k => XS.ifNo X19.here hx rfl (hb hby at_204) rfl ((if0 _ _).trans (feq (by decide : ¬ ((1 : Int32) = (0 : Int32)))).1) k) ?_
    show Go _ _ _ (T19.setTop (mkF m 207 #[.val (.int p1), .val (.int p2), .val (.int p3), .val (.int p4), .val (.int p5), .val (.ref b1), .val (.int 1), .val (.ref b6), .val (.int ((p3 &&& (2147483647 : Int32)) % (4 : Int32))), .val (.int ((p4 &&& (2147483647 : Int32)) % (4 : Int32))), .val (.ref b13), .val (.int ((p3 &&& (2147483647 : Int32)) % (4 : Int32))), .val (.int (f5 ((p3 &&& (2147483647 : Int32)) % (4 : Int32)) ((p4 &&& (2147483647 : Int32)) % (4 : Int32)))), .val (.int (f5 (f5 ((p3 &&& (2147483647 : Int32)) % (4 : Int32)) ((p4 &&& (2147483647 : Int32)) % (4 : Int32))) ((p4 &&& (2147483647 : Int32)) % (4 : Int32))))] [])) _
    refine Go.st (fun t k => XS.aload X19.here hx rfl (hb hby at_207) rfl rfl k) ?_
    obtain ⟨cq20, kq20, q20a, q20b, q20c⟩ := isOf hZ e19 E_b13
    obtain ⟨_, _, ⟨T20, L20, k20, n20⟩, -, X20, ⟨Lc20, hQ20, l20, y20, z20⟩, st20⟩ := X19.virtualBack hx (y := (⟨"com/example/piece/piece/store/RecordReader", "hasMore", "()Z"⟩ : MethodName)) (z := (⟨"com/example/piece/piece/store/RecordReader", "hasMore", "()Z"⟩ : MethodName)) hown (mvT hZ (wd16 hw)) (mvT hZ (wd17 hw)) (notFace_of_selects (args := #[]) (mvT hZ (wd19 hw))) (mvT hZ (wd19 hw)) (mvT hZ (wd18 hw)) (by decide) (backOf (W := 0) (rm3 l Z a0 hw [] b13 (f4_a1_position (f5 (f5 ((p3 &&& (2147483647 : Int32)) % (4 : Int32)) ((p4 &&& (2147483647 : Int32)) % (4 : Int32))) ((p4 &&& (2147483647 : Int32)) % (4 : Int32))) ((p4 &&& (2147483647 : Int32)) % (4 : Int32))) ((p4 &&& (2147483647 : Int32)) % (4 : Int32)) h19 n0 Z0 F_b13_position F_b13_end) hZ (wd20 hw) (wd2 hw) (by decide) (by decide)) q20a q20c (g := (mkF m 209 #[.val (.int p1), .val (.int p2), .val (.int p3), .val (.int p4), .val (.int p5), .val (.ref b1), .val (.int 1), .val (.ref b6), .val (.int ((p3 &&& (2147483647 : Int32)) % (4 : Int32))), .val (.int ((p4 &&& (2147483647 : Int32)) % (4 : Int32))), .val (.ref b13), .val (.int ((p3 &&& (2147483647 : Int32)) % (4 : Int32))), .val (.int (f5 ((p3 &&& (2147483647 : Int32)) % (4 : Int32)) ((p4 &&& (2147483647 : Int32)) % (4 : Int32)))), .val (.int (f5 (f5 ((p3 &&& (2147483647 : Int32)) % (4 : Int32)) ((p4 &&& (2147483647 : Int32)) % (4 : Int32))) ((p4 &&& (2147483647 : Int32)) % (4 : Int32))))] [(.ref b13)])) rfl (by rw [hml]; rfl) (Steps.refl _) (argsL := []) (rest := []) (lenOf pd1 rfl) rfl (by show 2 * 0 + _ ≤ _; exact Nat.le_of_eq rfl) (hb hby at_209) (fun _ _ => ⟨rfl, e19, (by decide : 4 + 0 ≤ _), (by decide : 9 + 0 ≤ _)⟩)
    dsimp only [Pt.U, Pt.locs, Pt.cells, Pt.slots] at X20 l20 y20 z20 st20 hQ20
    subst l20 y20 z20
    refine Go.tr st20 ?_
    obtain ⟨rfl, N20q, e20⟩ := hQ20
    have N20 := Fr.app N19 N20q
    show Go _ _ _ (T20.setTop (mkF m 212 #[.val (.int p1), .val (.int p2), .val (.int p3), .val (.int p4), .val (.int p5), .val (.ref b1), .val (.int 1), .val (.ref b6), .val (.int ((p3 &&& (2147483647 : Int32)) % (4 : Int32))), .val (.int ((p4 &&& (2147483647 : Int32)) % (4 : Int32))), .val (.ref b13), .val (.int ((p3 &&& (2147483647 : Int32)) % (4 : Int32))), .val (.int (f5 ((p3 &&& (2147483647 : Int32)) % (4 : Int32)) ((p4 &&& (2147483647 : Int32)) % (4 : Int32)))), .val (.int (f5 (f5 ((p3 &&& (2147483647 : Int32)) % (4 : Int32)) ((p4 &&& (2147483647 : Int32)) % (4 : Int32))) ((p4 &&& (2147483647 : Int32)) % (4 : Int32))))] [(.int (f3 (f4_a1_position (f5 (f5 ((p3 &&& (2147483647 : Int32)) % (4 : Int32)) ((p4 &&& (2147483647 : Int32)) % (4 : Int32))) ((p4 &&& (2147483647 : Int32)) % (4 : Int32))) ((p4 &&& (2147483647 : Int32)) % (4 : Int32))) ((p4 &&& (2147483647 : Int32)) % (4 : Int32))))])) _
    rw [show (f3 (f4_a1_position (f5 (f5 ((p3 &&& (2147483647 : Int32)) % (4 : Int32)) ((p4 &&& (2147483647 : Int32)) % (4 : Int32))) ((p4 &&& (2147483647 : Int32)) % (4 : Int32))) ((p4 &&& (2147483647 : Int32)) % (4 : Int32))) ((p4 &&& (2147483647 : Int32)) % (4 : Int32))) = (0 : Int32) from by unfold f3; simp only [if_neg (show ¬ ((f4_a1_position (f5 (f5 ((p3 &&& (2147483647 : Int32)) % (4 : Int32)) ((p4 &&& (2147483647 : Int32)) % (4 : Int32))) ((p4 &&& (2147483647 : Int32)) % (4 : Int32))) ((p4 &&& (2147483647 : Int32)) % (4 : Int32))) < ((p4 &&& (2147483647 : Int32)) % (4 : Int32))) from (own_done _ _ (own_r4 p3) (own_r4 p4))), if_true, if_false]]
    show Go _ _ _ (T20.setTop (mkF m 212 #[.val (.int p1), .val (.int p2), .val (.int p3), .val (.int p4), .val (.int p5), .val (.ref b1), .val (.int 1), .val (.ref b6), .val (.int ((p3 &&& (2147483647 : Int32)) % (4 : Int32))), .val (.int ((p4 &&& (2147483647 : Int32)) % (4 : Int32))), .val (.ref b13), .val (.int ((p3 &&& (2147483647 : Int32)) % (4 : Int32))), .val (.int (f5 ((p3 &&& (2147483647 : Int32)) % (4 : Int32)) ((p4 &&& (2147483647 : Int32)) % (4 : Int32)))), .val (.int (f5 (f5 ((p3 &&& (2147483647 : Int32)) % (4 : Int32)) ((p4 &&& (2147483647 : Int32)) % (4 : Int32))) ((p4 &&& (2147483647 : Int32)) % (4 : Int32))))] [(.int 0)])) _
    refine Go.st (fun t k => XS.ifNo X20.here hx rfl (hb hby at_212) rfl ((if0 _ _).trans (teq (by decide : (0 : Int32) = (0 : Int32))).2) k) ?_
    show Go _ _ _ (T20.setTop (mkF m 215 #[.val (.int p1), .val (.int p2), .val (.int p3), .val (.int p4), .val (.int p5), .val (.ref b1), .val (.int 1), .val (.ref b6), .val (.int ((p3 &&& (2147483647 : Int32)) % (4 : Int32))), .val (.int ((p4 &&& (2147483647 : Int32)) % (4 : Int32))), .val (.ref b13), .val (.int ((p3 &&& (2147483647 : Int32)) % (4 : Int32))), .val (.int (f5 ((p3 &&& (2147483647 : Int32)) % (4 : Int32)) ((p4 &&& (2147483647 : Int32)) % (4 : Int32)))), .val (.int (f5 (f5 ((p3 &&& (2147483647 : Int32)) % (4 : Int32)) ((p4 &&& (2147483647 : Int32)) % (4 : Int32))) ((p4 &&& (2147483647 : Int32)) % (4 : Int32))))] [])) _
    refine Go.st (fun t k => XS.iconst X20.here hx rfl (hb hby at_215) k) ?_
    refine Go.st (fun t k => XS.goto X20.here hx rfl (pc0 := 216) (pc' := 220) rfl (hb hby at_216) (by decide) (by decide) k) ?_
    refine Go.st (fun t k => XS.istore X20.here hx rfl (hb hby at_220) rfl (l' := #[.val (.int p1), .val (.int p2), .val (.int p3), .val (.int p4), .val (.int p5), .val (.ref b1), .val (.int 1), .val (.ref b6), .val (.int ((p3 &&& (2147483647 : Int32)) % (4 : Int32))), .val (.int ((p4 &&& (2147483647 : Int32)) % (4 : Int32))), .val (.ref b13), .val (.int ((p3 &&& (2147483647 : Int32)) % (4 : Int32))), .val (.int (f5 ((p3 &&& (2147483647 : Int32)) % (4 : Int32)) ((p4 &&& (2147483647 : Int32)) % (4 : Int32)))), .val (.int (f5 (f5 ((p3 &&& (2147483647 : Int32)) % (4 : Int32)) ((p4 &&& (2147483647 : Int32)) % (4 : Int32))) ((p4 &&& (2147483647 : Int32)) % (4 : Int32))))]) rfl k) ?_
    refine Go.st (fun t k => XS.iload X20.here hx rfl (hb hby at_222) rfl k) ?_
    obtain ⟨fs, hr, hrun, hended, hW, hsame⟩ := X20.leave (v := some (.int (1 : Int32))) (fun h => by rw [Bd.returns] at h; cases h)
    refine Go.fin (retN X20 hx (t := .boolean) Bd.returns (by simp) (hb hby at_224) hr) hrun hended ⟨_, _, rfl, ?_, ⟨_, rfl⟩, hW, hsame.mono (by decide) (by decide)⟩
    show Q0 Z p1 p2 p3 p4 p5 h0 n0 _ T20.heap _
    rw [e20]
    exact ⟨rfl, N20⟩
  · rw [show (f3 p1 p2) = (0 : Int32) from by unfold f3; simp only [if_neg hc5, if_true, if_false]]
    show Go _ _ _ (T4.setTop (mkF m 19 #[.val (.int p1), .val (.int p2), .val (.int p3), .val (.int p4), .val (.int p5), .val (.ref b1), .unset, .unset, .unset, .unset, .unset, .unset, .unset, .unset] [(.int 0)])) _
    refine Go.st (fun t k => XS.iloadN X4.here hx rfl (hb hby at_19) rfl k) ?_
    refine Go.st (fun t k => XS.iloadN X4.here hx rfl (hb hby at_20) rfl k) ?_
    refine Go.st (fun t k => XS.icmpYes X4.here hx rfl (pc0 := 21) (pc' := 28) rfl (hb hby at_21) rfl (flt hc5).2.1 (by decide) (by decide) k) ?_
    show Go _ _ _ (T4.setTop (mkF m 28 #[.val (.int p1), .val (.int p2), .val (.int p3), .val (.int p4), .val (.int p5), .val (.ref b1), .unset, .unset, .unset, .unset, .unset, .unset, .unset, .unset] [(.int 0)])) _
    refine Go.st (fun t k => XS.iconst X4.here hx rfl (hb hby at_28) k) ?_
    refine Go.st (fun t k => XS.icmpNo X4.here hx rfl (hb hby at_29) rfl (teq (by decide : (0 : Int32) = (0 : Int32))).2 k) ?_
    show Go _ _ _ (T4.setTop (mkF m 32 #[.val (.int p1), .val (.int p2), .val (.int p3), .val (.int p4), .val (.int p5), .val (.ref b1), .unset, .unset, .unset, .unset, .unset, .unset, .unset, .unset] [])) _
    refine Go.st (fun t k => XS.iconst X4.here hx rfl (hb hby at_32) k) ?_
    refine Go.st (fun t k => XS.goto X4.here hx rfl (pc0 := 33) (pc' := 37) rfl (hb hby at_33) (by decide) (by decide) k) ?_
    refine Go.st (fun t k => XS.istore X4.here hx rfl (hb hby at_37) rfl (l' := #[.val (.int p1), .val (.int p2), .val (.int p3), .val (.int p4), .val (.int p5), .val (.ref b1), .val (.int 1), .unset, .unset, .unset, .unset, .unset, .unset, .unset]) rfl k) ?_
    refine Go.st (fun t k => XS.iconst X4.here hx rfl (hb hby at_39) k) ?_
    obtain ⟨T21, h21, k21, X21, e21, E21, A21, st21⟩ := newP X4 hx hZ (aty := .byte) (wd3 hw) e4 (g := (mkF m 40 #[.val (.int p1), .val (.int p2), .val (.int p3), .val (.int p4), .val (.int p5), .val (.ref b1), .val (.int 1), .unset, .unset, .unset, .unset, .unset, .unset, .unset] [(.int 3)])) rfl (hb hby at_40) rfl (by decide) (cap := 3) (by decide) (by decide) (by decide) (by decide)
    obtain ⟨b21, g21⟩ : ∃ z, z = h3.size := ⟨_, rfl⟩
    rw [← g21] at A21 st21
    refine Go.st st21 ?_
    have ne_b1_b21 : b1 ≠ b21 := Nat.ne_of_lt (Nat.lt_of_lt_of_le E_b1.lt (Nat.le_of_eq g21.symm))
    have ne_b2_b21 : b2 ≠ b21 := Nat.ne_of_lt (Nat.lt_of_lt_of_le V_b2.lt (Nat.le_of_eq g21.symm))
    have g_b21 : n0 ≤ b21 := Nat.le_trans Z0 (Nat.le_of_eq g21.symm)
    have sz_b21 : h0.size ≤ b21 := Nat.le_trans K0.1 (Nat.le_of_eq g21.symm)
    replace E_b1 := E_b1.ext E21
    replace V_b2 := V_b2.ext E21
    replace F_b1_bytes := F_b1_bytes.ext E21
    replace F_b1_end := F_b1_end.ext E21
    replace F_b1_position := F_b1_position.ext E21
    replace K0 := K0.ext E21
    replace Z0 := Nat.le_trans Z0 E21.1
    have V_b21 : Arv Z h21 b21 k21 .byte (3 : Int32) [(.int (0 : Int32)), (.int (0 : Int32)), (.int (0 : Int32))] (.int (0 : Int32)) := (Arv.new A21 (by decide)).pad (pad_rep [] (.int (0 : Int32)) 3)
    show Go _ _ _ (T21.setTop (mkF m 42 #[.val (.int p1), .val (.int p2), .val (.int p3), .val (.int p4), .val (.int p5), .val (.ref b1), .val (.int 1), .unset, .unset, .unset, .unset, .unset, .unset, .unset] [(.ref b21)])) _
    refine Go.st (fun t k => XS.astore X21.here hx rfl (hb hby at_42) rfl rfl (l' := #[.val (.int p1), .val (.int p2), .val (.int p3), .val (.int p4), .val (.int p5), .val (.ref b1), .val (.int 1), .val (.ref b21), .unset, .unset, .unset, .unset, .unset, .unset]) rfl k) ?_
    refine Go.st (fun t k => XS.aload X21.here hx rfl (hb hby at_44) rfl rfl k) ?_
    refine Go.st (fun t k => XS.iconst X21.here hx rfl (hb hby at_46) k) ?_
    refine Go.st (fun t k => XS.iload X21.here hx rfl (hb hby at_47) rfl k) ?_
    refine Go.st (fun t k => XS.i2b X21.here hx rfl (hb hby at_49) rfl k) ?_
    show Go _ _ _ (T21.setTop (mkF m 50 #[.val (.int p1), .val (.int p2), .val (.int p3), .val (.int p4), .val (.int p5), .val (.ref b1), .val (.int 1), .val (.ref b21), .unset, .unset, .unset, .unset, .unset, .unset] [(.int (p5.toInt8.toInt32)), (.int 0), (.ref b21)])) _
    obtain ⟨cl22, Ar22, qq22, Sz22, Ng22, Hs22, Gs22⟩ := id V_b21
    have hin22 : ¬ ((0 : Int32) < 0 ∨ cl22.slots.size ≤ ((0 : Int32)).toNatClampNeg) := inb_of Sz22 ⟨by decide, by decide⟩
    obtain ⟨T23, h23, X23, e23, W23, st23⟩ := stB X21 hx hZ e21 Ar22 (j := (0 : Int32)) hin22 (g := (mkF m 50 #[.val (.int p1), .val (.int p2), .val (.int p3), .val (.int p4), .val (.int p5), .val (.ref b1), .val (.int 1), .val (.ref b21), .unset, .unset, .unset, .unset, .unset, .unset] [(.int (p5.toInt8.toInt32)), (.int 0), (.ref b21)])) rfl rfl (hb hby at_50)
    refine Go.st st23 ?_
    have N23 := Fr.snoc X23 N4 g_b21
    replace E_b1 := E_b1.wr W23
    replace V_b2 := V_b2.other W23 ne_b2_b21
    replace F_b1_bytes := F_b1_bytes.other W23 (Or.inl ne_b1_b21)
    replace F_b1_end := F_b1_end.other W23 (Or.inl ne_b1_b21)
    replace F_b1_position := F_b1_position.other W23 (Or.inl ne_b1_b21)
    replace Z0 := Nat.le_trans Z0 (Nat.le_of_eq W23.size.symm)
    replace K0 := K0.wr W23 (Or.inr sz_b21)
    replace V_b21 : Arv Z h23 b21 k21 .byte (3 : Int32) [(.int ((p5.toInt8.toInt32).toInt8.toInt32)), (.int (0 : Int32)), (.int (0 : Int32))] (.int (0 : Int32)) := Arv.set Ar22 qq22 Sz22 Ng22 Hs22 Gs22 (fits_nar_byte _) W23 0 rfl (Nat.le_of_ble_eq_true rfl)
    show Go _ _ _ (T23.setTop (mkF m 51 #[.val (.int p1), .val (.int p2), .val (.int p3), .val (.int p4), .val (.int p5), .val (.ref b1), .val (.int 1), .val (.ref b21), .unset, .unset, .unset, .unset, .unset, .unset] [])) _
    refine Go.st (fun t k => XS.aload X23.here hx rfl (hb hby at_51) rfl rfl k) ?_
    refine Go.st (fun t k => XS.iconst X23.here hx rfl (hb hby at_53) k) ?_
    refine Go.st (fun t k => XS.iload X23.here hx rfl (hb hby at_54) rfl k) ?_
    refine Go.st (fun t k => XS.bipush X23.here hx rfl (hb hby at_56) k) ?_
    refine Go.st (fun t k => XS.iushr X23.here hx rfl (hb hby at_58) rfl k) ?_
    show Go _ _ _ (T23.setTop (mkF m 59 #[.val (.int p1), .val (.int p2), .val (.int p3), .val (.int p4), .val (.int p5), .val (.ref b1), .val (.int 1), .val (.ref b21), .unset, .unset, .unset, .unset, .unset, .unset] [(.int ((p5.toUInt32 >>> ((8 : Int32) &&& 31).toUInt32).toInt32)), (.int 1), (.ref b21)])) _
    refine Go.st (fun t k => XS.i2b X23.here hx rfl (hb hby at_59) rfl k) ?_
    show Go _ _ _ (T23.setTop (mkF m 60 #[.val (.int p1), .val (.int p2), .val (.int p3), .val (.int p4), .val (.int p5), .val (.ref b1), .val (.int 1), .val (.ref b21), .unset, .unset, .unset, .unset, .unset, .unset] [(.int (((p5.toUInt32 >>> ((8 : Int32) &&& 31).toUInt32).toInt32).toInt8.toInt32)), (.int 1), (.ref b21)])) _
    obtain ⟨cl24, Ar24, qq24, Sz24, Ng24, Hs24, Gs24⟩ := id V_b21
    have hin24 : ¬ ((1 : Int32) < 0 ∨ cl24.slots.size ≤ ((1 : Int32)).toNatClampNeg) := inb_of Sz24 ⟨by decide, by decide⟩
    obtain ⟨T25, h25, X25, e25, W25, st25⟩ := stB X23 hx hZ e23 Ar24 (j := (1 : Int32)) hin24 (g := (mkF m 60 #[.val (.int p1), .val (.int p2), .val (.int p3), .val (.int p4), .val (.int p5), .val (.ref b1), .val (.int 1), .val (.ref b21), .unset, .unset, .unset, .unset, .unset, .unset] [(.int (((p5.toUInt32 >>> ((8 : Int32) &&& 31).toUInt32).toInt32).toInt8.toInt32)), (.int 1), (.ref b21)])) rfl rfl (hb hby at_60)
    refine Go.st st25 ?_
    have N25 := Fr.snoc X25 N23 g_b21
    replace E_b1 := E_b1.wr W25
    replace V_b2 := V_b2.other W25 ne_b2_b21
    replace F_b1_bytes := F_b1_bytes.other W25 (Or.inl ne_b1_b21)
    replace F_b1_end := F_b1_end.other W25 (Or.inl ne_b1_b21)
    replace F_b1_position := F_b1_position.other W25 (Or.inl ne_b1_b21)
    replace Z0 := Nat.le_trans Z0 (Nat.le_of_eq W25.size.symm)
    replace K0 := K0.wr W25 (Or.inr sz_b21)
    replace V_b21 : Arv Z h25 b21 k21 .byte (3 : Int32) [(.int ((p5.toInt8.toInt32).toInt8.toInt32)), (.int ((((p5.toUInt32 >>> ((8 : Int32) &&& 31).toUInt32).toInt32).toInt8.toInt32).toInt8.toInt32)), (.int (0 : Int32))] (.int (0 : Int32)) := Arv.set Ar24 qq24 Sz24 Ng24 Hs24 Gs24 (fits_nar_byte _) W25 1 rfl (Nat.le_of_ble_eq_true rfl)
    show Go _ _ _ (T25.setTop (mkF m 61 #[.val (.int p1), .val (.int p2), .val (.int p3), .val (.int p4), .val (.int p5), .val (.ref b1), .val (.int 1), .val (.ref b21), .unset, .unset, .unset, .unset, .unset, .unset] [])) _
    refine Go.st (fun t k => XS.aload X25.here hx rfl (hb hby at_61) rfl rfl k) ?_
    refine Go.st (fun t k => XS.iconst X25.here hx rfl (hb hby at_63) k) ?_
    refine Go.st (fun t k => XS.iload X25.here hx rfl (hb hby at_64) rfl k) ?_
    refine Go.st (fun t k => XS.bipush X25.here hx rfl (hb hby at_66) k) ?_
    refine Go.st (fun t k => XS.iushr X25.here hx rfl (hb hby at_68) rfl k) ?_
    show Go _ _ _ (T25.setTop (mkF m 69 #[.val (.int p1), .val (.int p2), .val (.int p3), .val (.int p4), .val (.int p5), .val (.ref b1), .val (.int 1), .val (.ref b21), .unset, .unset, .unset, .unset, .unset, .unset] [(.int ((p5.toUInt32 >>> ((16 : Int32) &&& 31).toUInt32).toInt32)), (.int 2), (.ref b21)])) _
    refine Go.st (fun t k => XS.i2b X25.here hx rfl (hb hby at_69) rfl k) ?_
    show Go _ _ _ (T25.setTop (mkF m 70 #[.val (.int p1), .val (.int p2), .val (.int p3), .val (.int p4), .val (.int p5), .val (.ref b1), .val (.int 1), .val (.ref b21), .unset, .unset, .unset, .unset, .unset, .unset] [(.int (((p5.toUInt32 >>> ((16 : Int32) &&& 31).toUInt32).toInt32).toInt8.toInt32)), (.int 2), (.ref b21)])) _
    obtain ⟨cl26, Ar26, qq26, Sz26, Ng26, Hs26, Gs26⟩ := id V_b21
    have hin26 : ¬ ((2 : Int32) < 0 ∨ cl26.slots.size ≤ ((2 : Int32)).toNatClampNeg) := inb_of Sz26 ⟨by decide, by decide⟩
    obtain ⟨T27, h27, X27, e27, W27, st27⟩ := stB X25 hx hZ e25 Ar26 (j := (2 : Int32)) hin26 (g := (mkF m 70 #[.val (.int p1), .val (.int p2), .val (.int p3), .val (.int p4), .val (.int p5), .val (.ref b1), .val (.int 1), .val (.ref b21), .unset, .unset, .unset, .unset, .unset, .unset] [(.int (((p5.toUInt32 >>> ((16 : Int32) &&& 31).toUInt32).toInt32).toInt8.toInt32)), (.int 2), (.ref b21)])) rfl rfl (hb hby at_70)
    refine Go.st st27 ?_
    have N27 := Fr.snoc X27 N25 g_b21
    replace E_b1 := E_b1.wr W27
    replace V_b2 := V_b2.other W27 ne_b2_b21
    replace F_b1_bytes := F_b1_bytes.other W27 (Or.inl ne_b1_b21)
    replace F_b1_end := F_b1_end.other W27 (Or.inl ne_b1_b21)
    replace F_b1_position := F_b1_position.other W27 (Or.inl ne_b1_b21)
    replace Z0 := Nat.le_trans Z0 (Nat.le_of_eq W27.size.symm)
    replace K0 := K0.wr W27 (Or.inr sz_b21)
    replace V_b21 : Arv Z h27 b21 k21 .byte (3 : Int32) [(.int ((p5.toInt8.toInt32).toInt8.toInt32)), (.int ((((p5.toUInt32 >>> ((8 : Int32) &&& 31).toUInt32).toInt32).toInt8.toInt32).toInt8.toInt32)), (.int ((((p5.toUInt32 >>> ((16 : Int32) &&& 31).toUInt32).toInt32).toInt8.toInt32).toInt8.toInt32))] (.int (0 : Int32)) := Arv.set Ar26 qq26 Sz26 Ng26 Hs26 Gs26 (fits_nar_byte _) W27 2 rfl (Nat.le_of_ble_eq_true rfl)
    show Go _ _ _ (T27.setTop (mkF m 71 #[.val (.int p1), .val (.int p2), .val (.int p3), .val (.int p4), .val (.int p5), .val (.ref b1), .val (.int 1), .val (.ref b21), .unset, .unset, .unset, .unset, .unset, .unset] [])) _
    refine Go.st (fun t k => XS.iloadN X27.here hx rfl (hb hby at_71) rfl k) ?_
    refine Go.st (fun t k => X27.ldcInt hx hown (mvT hZ (wd21 hw)) (g := (mkF m 72 #[.val (.int p1), .val (.int p2), .val (.int p3), .val (.int p4), .val (.int p5), .val (.ref b1), .val (.int 1), .val (.ref b21), .unset, .unset, .unset, .unset, .unset, .unset] [(.int p3)])) rfl (hb hby at_72) _ k) ?_
    show Go _ _ _ (T27.setTop (mkF m 74 #[.val (.int p1), .val (.int p2), .val (.int p3), .val (.int p4), .val (.int p5), .val (.ref b1), .val (.int 1), .val (.ref b21), .unset, .unset, .unset, .unset, .unset, .unset] [(.int 2147483647), (.int p3)])) _
    refine Go.st (fun t k => XS.iand X27.here hx rfl (hb hby at_74) rfl k) ?_
    show Go _ _ _ (T27.setTop (mkF m 75 #[.val (.int p1), .val (.int p2), .val (.int p3), .val (.int p4), .val (.int p5), .val (.ref b1), .val (.int 1), .val (.ref b21), .unset, .unset, .unset, .unset, .unset, .unset] [(.int (p3 &&& (2147483647 : Int32)))])) _
    refine Go.st (fun t k => XS.iconst X27.here hx rfl (hb hby at_75) k) ?_
    refine Go.st (fun t k => iremM X27 hx rfl (hb hby at_76) rfl (by decide) k) ?_
    show Go _ _ _ (T27.setTop (mkF m 77 #[.val (.int p1), .val (.int p2), .val (.int p3), .val (.int p4), .val (.int p5), .val (.ref b1), .val (.int 1), .val (.ref b21), .unset, .unset, .unset, .unset, .unset, .unset] [(.int ((p3 &&& (2147483647 : Int32)) % (4 : Int32)))])) _
    refine Go.st (fun t k => XS.istore X27.here hx rfl (hb hby at_77) rfl (l' := #[.val (.int p1), .val (.int p2), .val (.int p3), .val (.int p4), .val (.int p5), .val (.ref b1), .val (.int 1), .val (.ref b21), .val (.int ((p3 &&& (2147483647 : Int32)) % (4 : Int32))), .unset, .unset, .unset, .unset, .unset]) rfl k) ?_
    refine Go.st (fun t k => XS.iloadN X27.here hx rfl (hb hby at_79) rfl k) ?_
    refine Go.st (fun t k => X27.ldcInt hx hown (mvT hZ (wd21 hw)) (g := (mkF m 80 #[.val (.int p1), .val (.int p2), .val (.int p3), .val (.int p4), .val (.int p5), .val (.ref b1), .val (.int 1), .val (.ref b21), .val (.int ((p3 &&& (2147483647 : Int32)) % (4 : Int32))), .unset, .unset, .unset, .unset, .unset] [(.int p4)])) rfl (hb hby at_80) _ k) ?_
    show Go _ _ _ (T27.setTop (mkF m 82 #[.val (.int p1), .val (.int p2), .val (.int p3), .val (.int p4), .val (.int p5), .val (.ref b1), .val (.int 1), .val (.ref b21), .val (.int ((p3 &&& (2147483647 : Int32)) % (4 : Int32))), .unset, .unset, .unset, .unset, .unset] [(.int 2147483647), (.int p4)])) _
    refine Go.st (fun t k => XS.iand X27.here hx rfl (hb hby at_82) rfl k) ?_
    show Go _ _ _ (T27.setTop (mkF m 83 #[.val (.int p1), .val (.int p2), .val (.int p3), .val (.int p4), .val (.int p5), .val (.ref b1), .val (.int 1), .val (.ref b21), .val (.int ((p3 &&& (2147483647 : Int32)) % (4 : Int32))), .unset, .unset, .unset, .unset, .unset] [(.int (p4 &&& (2147483647 : Int32)))])) _
    refine Go.st (fun t k => XS.iconst X27.here hx rfl (hb hby at_83) k) ?_
    refine Go.st (fun t k => iremM X27 hx rfl (hb hby at_84) rfl (by decide) k) ?_
    show Go _ _ _ (T27.setTop (mkF m 85 #[.val (.int p1), .val (.int p2), .val (.int p3), .val (.int p4), .val (.int p5), .val (.ref b1), .val (.int 1), .val (.ref b21), .val (.int ((p3 &&& (2147483647 : Int32)) % (4 : Int32))), .unset, .unset, .unset, .unset, .unset] [(.int ((p4 &&& (2147483647 : Int32)) % (4 : Int32)))])) _
    refine Go.st (fun t k => XS.istore X27.here hx rfl (hb hby at_85) rfl (l' := #[.val (.int p1), .val (.int p2), .val (.int p3), .val (.int p4), .val (.int p5), .val (.ref b1), .val (.int 1), .val (.ref b21), .val (.int ((p3 &&& (2147483647 : Int32)) % (4 : Int32))), .val (.int ((p4 &&& (2147483647 : Int32)) % (4 : Int32))), .unset, .unset, .unset, .unset]) rfl k) ?_
    obtain ⟨T28, h28, X28, e28, E28, A28, D28, -, st28⟩ := newO X27 hx hZ hown (wd0 hw) (wd1 hw) (wd2 hw) e27 (g := (mkF m 87 #[.val (.int p1), .val (.int p2), .val (.int p3), .val (.int p4), .val (.int p5), .val (.ref b1), .val (.int 1), .val (.ref b21), .val (.int ((p3 &&& (2147483647 : Int32)) % (4 : Int32))), .val (.int ((p4 &&& (2147483647 : Int32)) % (4 : Int32))), .unset, .unset, .unset, .unset] [])) rfl (hb hby at_87) (by decide) (by decide)
    obtain ⟨b28, g28⟩ : ∃ z, z = h27.size := ⟨_, rfl⟩
    rw [← g28] at A28 D28 st28
    refine Go.st st28 ?_
    have ne_b1_b28 : b1 ≠ b28 := Nat.ne_of_lt (Nat.lt_of_lt_of_le E_b1.lt (Nat.le_of_eq g28.symm))
    have ne_b2_b28 : b2 ≠ b28 := Nat.ne_of_lt (Nat.lt_of_lt_of_le V_b2.lt (Nat.le_of_eq g28.symm))
    have ne_b21_b28 : b21 ≠ b28 := Nat.ne_of_lt (Nat.lt_of_lt_of_le V_b21.lt (Nat.le_of_eq g28.symm))
    have g_b28 : n0 ≤ b28 := Nat.le_trans Z0 (Nat.le_of_eq g28.symm)
    have sz_b28 : h0.size ≤ b28 := Nat.le_trans K0.1 (Nat.le_of_eq g28.symm)
    replace E_b1 := E_b1.ext E28
    replace V_b2 := V_b2.ext E28
    replace F_b1_bytes := F_b1_bytes.ext E28
    replace F_b1_end := F_b1_end.ext E28
    replace F_b1_position := F_b1_position.ext E28
    replace V_b21 := V_b21.ext E28
    replace K0 := K0.ext E28
    replace Z0 := Nat.le_trans Z0 E28.1
    have E_b28 := A28
    have F_b28_bytes : Fld Z h28 b28 "com/example/piece/piece/store/RecordReader" "bytes" "[B" .null := D28 (Or.inr (wd11 hw)) (ty := (.array .byte)) (by decide)
    have F_b28_end : Fld Z h28 b28 "com/example/piece/piece/store/RecordReader" "end" "I" (.int (0 : Int32)) := D28 (Or.inr (wd13 hw)) (ty := .int) (by decide)
    have F_b28_position : Fld Z h28 b28 "com/example/piece/piece/store/RecordReader" "position" "I" (.int (0 : Int32)) := D28 (Or.inl (wd15 hw)) (ty := .int) (by decide)
    show Go _ _ _ (T28.setTop (mkF m 90 #[.val (.int p1), .val (.int p2), .val (.int p3), .val (.int p4), .val (.int p5), .val (.ref b1), .val (.int 1), .val (.ref b21), .val (.int ((p3 &&& (2147483647 : Int32)) % (4 : Int32))), .val (.int ((p4 &&& (2147483647 : Int32)) % (4 : Int32))), .unset, .unset, .unset, .unset] [(.ref b28)])) _
    refine Go.st (fun t k => XS.dup X28.here hx rfl (hb hby at_90) rfl rfl k) ?_
    refine Go.st (fun t k => XS.aload X28.here hx rfl (hb hby at_91) rfl rfl k) ?_
    refine Go.st (fun t k => XS.iload X28.here hx rfl (hb hby at_93) rfl k) ?_
    refine Go.st (fun t k => XS.iload X28.here hx rfl (hb hby at_95) rfl k) ?_
    obtain ⟨_, _, ⟨T29, L29, k29, n29⟩, -, X29, ⟨Lc29, hQ29, l29, y29, z29⟩, st29⟩ := X28.specialBack hx (y := (⟨"com/example/piece/piece/store/RecordReader", "<init>", "([BII)V"⟩ : MethodName)) rfl hown (mvT hZ (wd4 hw)) (mvT hZ (wd5 hw)) (mvT hZ (wd6 hw)) (by decide) (backOf (W := 1) (rm1 l Z a0 hw [] b28 b21 ((p3 &&& (2147483647 : Int32)) % (4 : Int32)) ((p4 &&& (2147483647 : Int32)) % (4 : Int32)) (.null : Value) ((.int (0 : Int32)) : Value) ((.int (0 : Int32)) : Value) h28 n0 Z0 E_b28 F_b28_bytes F_b28_end F_b28_position g_b28) hZ (wd6 hw) (wd2 hw) (by decide) (by decide)) (g := (mkF m 97 #[.val (.int p1), .val (.int p2), .val (.int p3), .val (.int p4), .val (.int p5), .val (.ref b1), .val (.int 1), .val (.ref b21), .val (.int ((p3 &&& (2147483647 : Int32)) % (4 : Int32))), .val (.int ((p4 &&& (2147483647 : Int32)) % (4 : Int32))), .unset, .unset, .unset, .unset] [(.int ((p4 &&& (2147483647 : Int32)) % (4 : Int32))), (.int ((p3 &&& (2147483647 : Int32)) % (4 : Int32))), (.ref b21), (.ref b28), (.ref b28)])) rfl (by rw [hml]; rfl) (Steps.refl _) (a := b28) (argsL := [(.ref b21), (.int ((p3 &&& (2147483647 : Int32)) % (4 : Int32))), (.int ((p4 &&& (2147483647 : Int32)) % (4 : Int32)))]) (rest := [(.ref b28)]) (lenOf pd3 rfl) rfl (by show 2 * 0 + _ ≤ _; exact Nat.le_of_eq rfl) (hb hby at_97) (fun _ _ => ⟨rfl, e28, (by decide : 4 + 0 ≤ _), (by decide : 9 + 0 ≤ _)⟩)
    dsimp only [Pt.U, Pt.locs, Pt.cells, Pt.slots] at X29 l29 y29 z29 st29 hQ29
    subst l29 y29 z29
    refine Go.tr st29 ?_
    have E_b28_pre := E_b28
    have F_b28_bytes_pre := F_b28_bytes
    have F_b28_end_pre := F_b28_end
    have F_b28_position_pre := F_b28_position
    obtain ⟨h29, e29⟩ : ∃ z, T29.heap = z := ⟨_, rfl⟩
    rw [e29] at hQ29
    obtain ⟨rfl, N29q, K29, Q29_0, Q29_1, Q29_2, Q29_3⟩ := hQ29
    replace E_b1 := E_b1.keep K29
    replace V_b2 := V_b2.keep K29 (ninS ne_b2_b28 nin0)
    replace F_b1_bytes := F_b1_bytes.keep K29 (ninS ne_b1_b28 nin0)
    replace F_b1_end := F_b1_end.keep K29 (ninS ne_b1_b28 nin0)
    replace F_b1_position := F_b1_position.keep K29 (ninS ne_b1_b28 nin0)
    replace V_b21 := V_b21.keep K29 (ninS ne_b21_b28 nin0)
    replace E_b28 := E_b28.keep K29
    replace Z0 := Nat.le_trans Z0 K29.1
    replace K0 := K0.trans K29 (allS (Or.inr sz_b28) all0)
    have E_b28 := Q29_0
    have F_b28_bytes := Q29_1
    have F_b28_end := Q29_2
    have F_b28_position := Q29_3
    have N29 := Fr.app N27 N29q
    show Go _ _ _ (T29.setTop (mkF m 100 #[.val (.int p1), .val (.int p2), .val (.int p3), .val (.int p4), .val (.int p5), .val (.ref b1), .val (.int 1), .val (.ref b21), .val (.int ((p3 &&& (2147483647 : Int32)) % (4 : Int32))), .val (.int ((p4 &&& (2147483647 : Int32)) % (4 : Int32))), .unset, .unset, .unset, .unset] [(.ref b28)])) _
    refine Go.st (fun t k => XS.astore X29.here hx rfl (hb hby at_100) rfl rfl (l' := #[.val (.int p1), .val (.int p2), .val (.int p3), .val (.int p4), .val (.int p5), .val (.ref b1), .val (.int 1), .val (.ref b21), .val (.int ((p3 &&& (2147483647 : Int32)) % (4 : Int32))), .val (.int ((p4 &&& (2147483647 : Int32)) % (4 : Int32))), .val (.ref b28), .unset, .unset, .unset]) rfl k) ?_
    refine Go.st (fun t k => XS.iload X29.here hx rfl (hb hby at_102) rfl k) ?_
    refine Go.st (fun t k => XS.istore X29.here hx rfl (hb hby at_104) rfl (l' := #[.val (.int p1), .val (.int p2), .val (.int p3), .val (.int p4), .val (.int p5), .val (.ref b1), .val (.int 1), .val (.ref b21), .val (.int ((p3 &&& (2147483647 : Int32)) % (4 : Int32))), .val (.int ((p4 &&& (2147483647 : Int32)) % (4 : Int32))), .val (.ref b28), .val (.int ((p3 &&& (2147483647 : Int32)) % (4 : Int32))), .unset, .unset]) rfl k) ?_
    refine Go.st (fun t k => XS.iload X29.here hx rfl (hb hby at_106) rfl k) ?_
    refine Go.st (fun t k => XS.ifNo X29.here hx rfl (hb hby at_108) rfl ((if0 _ _).trans (feq (by decide : ¬ ((1 : Int32) = (0 : Int32)))).1) k) ?_
    show Go _ _ _ (T29.setTop (mkF m 111 #[.val (.int p1), .val (.int p2), .val (.int p3), .val (.int p4), .val (.int p5), .val (.ref b1), .val (.int 1), .val (.ref b21), .val (.int ((p3 &&& (2147483647 : Int32)) % (4 : Int32))), .val (.int ((p4 &&& (2147483647 : Int32)) % (4 : Int32))), .val (.ref b28), .val (.int ((p3 &&& (2147483647 : Int32)) % (4 : Int32))), .unset, .unset] [])) _
    refine Go.st (fun t k => XS.aload X29.here hx rfl (hb hby at_111) rfl rfl k) ?_
    refine Go.st (fun t k => XS.aload X29.here hx rfl (hb hby at_113) rfl rfl k) ?_
    refine Go.st (fun t k => XS.iload X29.here hx rfl (hb hby at_115) rfl k) ?_
    refine Go.st (fun t k => XS.iload X29.here hx rfl (hb hby at_117) rfl k) ?_
    obtain ⟨_, _, ⟨T30, L30, k30, n30⟩, -, X30, ⟨Lc30, hQ30, l30, y30, z30⟩, st30⟩ := Jvm.LawKit.callS X29 hx (y := (⟨"com/example/piece/piece/store/RecordReaderHasMorePinLaw", "step", "(Lcom/example/piece/piece/store/RecordReader;[BII)Z"⟩ : MethodName)) hown (mvT hZ (wd22 hw)) (mvT hZ (wd23 hw)) (mvT hZ (wd24 hw)) (mvT hZ (wd25 hw)) (by decide) (backOf (W := 0) (rm4 l Z a0 hw [] b28 b21 ((p3 &&& (2147483647 : Int32)) % (4 : Int32)) ((p4 &&& (2147483647 : Int32)) % (4 : Int32)) k21 ((p5.toInt8.toInt32).toInt8.toInt32) ((((p5.toUInt32 >>> ((8 : Int32) &&& 31).toUInt32).toInt32).toInt8.toInt32).toInt8.toInt32) ((((p5.toUInt32 >>> ((16 : Int32) &&& 31).toUInt32).toInt32).toInt8.toInt32).toInt8.toInt32) h29 n0 Z0 E_b28 F_b28_bytes F_b28_end F_b28_position V_b21 (own_r4 p3) (own_r4 p4) ne_b21_b28 g_b28) hZ (wd25 hw) (wd24 hw) (by decide) (by decide)) (g := (mkF m 119 #[.val (.int p1), .val (.int p2), .val (.int p3), .val (.int p4), .val (.int p5), .val (.ref b1), .val (.int 1), .val (.ref b21), .val (.int ((p3 &&& (2147483647 : Int32)) % (4 : Int32))), .val (.int ((p4 &&& (2147483647 : Int32)) % (4 : Int32))), .val (.ref b28), .val (.int ((p3 &&& (2147483647 : Int32)) % (4 : Int32))), .unset, .unset] [(.int ((p4 &&& (2147483647 : Int32)) % (4 : Int32))), (.int ((p3 &&& (2147483647 : Int32)) % (4 : Int32))), (.ref b21), (.ref b28)])) rfl (by rw [hml]; rfl) (argsL := [(.ref b28), (.ref b21), (.int ((p3 &&& (2147483647 : Int32)) % (4 : Int32))), (.int ((p4 &&& (2147483647 : Int32)) % (4 : Int32)))]) (rest := []) (lenOf pd4 rfl) rfl (by show 2 * 0 + _ ≤ _; exact Nat.le_of_eq rfl) (hb hby at_119) (fun _ _ => ⟨rfl, e29, (by decide : 4 + 0 ≤ _), (by decide : 9 + 0 ≤ _)⟩)
    dsimp only [Pt.U, Pt.locs, Pt.cells, Pt.slots] at X30 l30 y30 z30 st30 hQ30
    subst l30 y30 z30
    refine Go.st st30 ?_
    have E_b28_pre := E_b28
    have F_b28_bytes_pre := F_b28_bytes
    have F_b28_end_pre := F_b28_end
    have F_b28_position_pre := F_b28_position
    obtain ⟨h30, e30⟩ : ∃ z, T30.heap = z := ⟨_, rfl⟩
    rw [e30] at hQ30
    obtain ⟨rfl, N30q, K30, Q30_0, Q30_1, Q30_2, Q30_3⟩ := hQ30
    replace E_b1 := E_b1.keep K30
    replace V_b2 := V_b2.keep K30 (ninS ne_b2_b28 nin0)
    replace F_b1_bytes := F_b1_bytes.keep K30 (ninS ne_b1_b28 nin0)
    replace F_b1_end := F_b1_end.keep K30 (ninS ne_b1_b28 nin0)
    replace F_b1_position := F_b1_position.keep K30 (ninS ne_b1_b28 nin0)
    replace V_b21 := V_b21.keep K30 (ninS ne_b21_b28 nin0)
    replace E_b28 := E_b28.keep K30
    replace Z0 := Nat.le_trans Z0 K30.1
    replace K0 := K0.trans K30 (allS (Or.inr sz_b28) all0)
    have E_b28 := Q30_0
    have F_b28_end := Q30_1
    have F_b28_position := Q30_2
    have F_b28_bytes := Q30_3
    have N30 := Fr.app N29 N30q
    show Go _ _ _ (T30.setTop (mkF m 122 #[.val (.int p1), .val (.int p2), .val (.int p3), .val (.int p4), .val (.int p5), .val (.ref b1), .val (.int 1), .val (.ref b21), .val (.int ((p3 &&& (2147483647 : Int32)) % (4 : Int32))), .val (.int ((p4 &&& (2147483647 : Int32)) % (4 : Int32))), .val (.ref b28), .val (.int ((p3 &&& (2147483647 : Int32)) % (4 : Int32))), .unset, .unset] [(.int 1)])) _
    refine Go.st (fun t k => XS.ifNo X30.here hx rfl (hb hby at_122) rfl ((if0 _ _).trans (feq (by decide : ¬ ((1 : Int32) = (0 : Int32)))).1) k) ?_
    show Go _ _ _ (T30.setTop (mkF m 125 #[.val (.int p1), .val (.int p2), .val (.int p3), .val (.int p4), .val (.int p5), .val (.ref b1), .val (.int 1), .val (.ref b21), .val (.int ((p3 &&& (2147483647 : Int32)) % (4 : Int32))), .val (.int ((p4 &&& (2147483647 : Int32)) % (4 : Int32))), .val (.ref b28), .val (.int ((p3 &&& (2147483647 : Int32)) % (4 : Int32))), .unset, .unset] [])) _
    refine Go.st (fun t k => XS.iconst X30.here hx rfl (hb hby at_125) k) ?_
    refine Go.st (fun t k => XS.goto X30.here hx rfl (pc0 := 126) (pc' := 130) rfl (hb hby at_126) (by decide) (by decide) k) ?_
    refine Go.st (fun t k => XS.istore X30.here hx rfl (hb hby at_130) rfl (l' := #[.val (.int p1), .val (.int p2), .val (.int p3), .val (.int p4), .val (.int p5), .val (.ref b1), .val (.int 1), .val (.ref b21), .val (.int ((p3 &&& (2147483647 : Int32)) % (4 : Int32))), .val (.int ((p4 &&& (2147483647 : Int32)) % (4 : Int32))), .val (.ref b28), .val (.int ((p3 &&& (2147483647 : Int32)) % (4 : Int32))), .unset, .unset]) rfl k) ?_
    refine Go.st (fun t k => XS.iload X30.here hx rfl (hb hby at_132) rfl k) ?_
    refine Go.st (fun t k => XS.iload X30.here hx rfl (hb hby at_134) rfl k) ?_
    obtain ⟨_, _, ⟨T31, L31, k31, n31⟩, -, X31, ⟨Lc31, hQ31, l31, y31, z31⟩, st31⟩ := Jvm.LawKit.callS X30 hx (y := (⟨"com/example/piece/piece/store/RecordReaderHasMorePinLaw", "next", "(II)I"⟩ : MethodName)) hown (mvT hZ (wd26 hw)) (mvT hZ (wd27 hw)) (mvT hZ (wd24 hw)) (mvT hZ (wd28 hw)) (by decide) (backOf (W := 0) (rm5 l Z a0 hw [] ((p3 &&& (2147483647 : Int32)) % (4 : Int32)) ((p4 &&& (2147483647 : Int32)) % (4 : Int32)) h30 n0 Z0) hZ (wd28 hw) (wd24 hw) (by decide) (by decide)) (g := (mkF m 136 #[.val (.int p1), .val (.int p2), .val (.int p3), .val (.int p4), .val (.int p5), .val (.ref b1), .val (.int 1), .val (.ref b21), .val (.int ((p3 &&& (2147483647 : Int32)) % (4 : Int32))), .val (.int ((p4 &&& (2147483647 : Int32)) % (4 : Int32))), .val (.ref b28), .val (.int ((p3 &&& (2147483647 : Int32)) % (4 : Int32))), .unset, .unset] [(.int ((p4 &&& (2147483647 : Int32)) % (4 : Int32))), (.int ((p3 &&& (2147483647 : Int32)) % (4 : Int32)))])) rfl (by rw [hml]; rfl) (argsL := [(.int ((p3 &&& (2147483647 : Int32)) % (4 : Int32))), (.int ((p4 &&& (2147483647 : Int32)) % (4 : Int32)))]) (rest := []) (lenOf pd5 rfl) rfl (by show 2 * 0 + _ ≤ _; exact Nat.le_of_eq rfl) (hb hby at_136) (fun _ _ => ⟨rfl, e30, (by decide : 4 + 0 ≤ _), (by decide : 9 + 0 ≤ _)⟩)
    dsimp only [Pt.U, Pt.locs, Pt.cells, Pt.slots] at X31 l31 y31 z31 st31 hQ31
    subst l31 y31 z31
    refine Go.st st31 ?_
    obtain ⟨rfl, N31q, e31⟩ := hQ31
    have N31 := Fr.app N30 N31q
    show Go _ _ _ (T31.setTop (mkF m 139 #[.val (.int p1), .val (.int p2), .val (.int p3), .val (.int p4), .val (.int p5), .val (.ref b1), .val (.int 1), .val (.ref b21), .val (.int ((p3 &&& (2147483647 : Int32)) % (4 : Int32))), .val (.int ((p4 &&& (2147483647 : Int32)) % (4 : Int32))), .val (.ref b28), .val (.int ((p3 &&& (2147483647 : Int32)) % (4 : Int32))), .unset, .unset] [(.int (f5 ((p3 &&& (2147483647 : Int32)) % (4 : Int32)) ((p4 &&& (2147483647 : Int32)) % (4 : Int32))))])) _
    refine Go.st (fun t k => XS.istore X31.here hx rfl (hb hby at_139) rfl (l' := #[.val (.int p1), .val (.int p2), .val (.int p3), .val (.int p4), .val (.int p5), .val (.ref b1), .val (.int 1), .val (.ref b21), .val (.int ((p3 &&& (2147483647 : Int32)) % (4 : Int32))), .val (.int ((p4 &&& (2147483647 : Int32)) % (4 : Int32))), .val (.ref b28), .val (.int ((p3 &&& (2147483647 : Int32)) % (4 : Int32))), .val (.int (f5 ((p3 &&& (2147483647 : Int32)) % (4 : Int32)) ((p4 &&& (2147483647 : Int32)) % (4 : Int32)))), .unset]) rfl k) ?_
    refine Go.st (fun t k => XS.iload X31.here hx rfl (hb hby at_141) rfl k) ?_
    refine Go.st (fun t k => XS.ifNo X31.here hx rfl (hb hby at_143) rfl ((if0 _ _).trans (feq (by decide : ¬ ((1 : Int32) = (0 : Int32)))).1) k) ?_
    show Go _ _ _ (T31.setTop (mkF m 146 #[.val (.int p1), .val (.int p2), .val (.int p3), .val (.int p4), .val (.int p5), .val (.ref b1), .val (.int 1), .val (.ref b21), .val (.int ((p3 &&& (2147483647 : Int32)) % (4 : Int32))), .val (.int ((p4 &&& (2147483647 : Int32)) % (4 : Int32))), .val (.ref b28), .val (.int ((p3 &&& (2147483647 : Int32)) % (4 : Int32))), .val (.int (f5 ((p3 &&& (2147483647 : Int32)) % (4 : Int32)) ((p4 &&& (2147483647 : Int32)) % (4 : Int32)))), .unset] [])) _
    refine Go.st (fun t k => XS.aload X31.here hx rfl (hb hby at_146) rfl rfl k) ?_
    refine Go.st (fun t k => XS.aload X31.here hx rfl (hb hby at_148) rfl rfl k) ?_
    refine Go.st (fun t k => XS.iload X31.here hx rfl (hb hby at_150) rfl k) ?_
    refine Go.st (fun t k => XS.iload X31.here hx rfl (hb hby at_152) rfl k) ?_
    obtain ⟨_, _, ⟨T32, L32, k32, n32⟩, -, X32, ⟨Lc32, hQ32, l32, y32, z32⟩, st32⟩ := Jvm.LawKit.callS X31 hx (y := (⟨"com/example/piece/piece/store/RecordReaderHasMorePinLaw", "step", "(Lcom/example/piece/piece/store/RecordReader;[BII)Z"⟩ : MethodName)) hown (mvT hZ (wd22 hw)) (mvT hZ (wd23 hw)) (mvT hZ (wd24 hw)) (mvT hZ (wd25 hw)) (by decide) (backOf (W := 0) (rm4 l Z a0 hw [] b28 b21 (f5 ((p3 &&& (2147483647 : Int32)) % (4 : Int32)) ((p4 &&& (2147483647 : Int32)) % (4 : Int32))) ((p4 &&& (2147483647 : Int32)) % (4 : Int32)) k21 ((p5.toInt8.toInt32).toInt8.toInt32) ((((p5.toUInt32 >>> ((8 : Int32) &&& 31).toUInt32).toInt32).toInt8.toInt32).toInt8.toInt32) ((((p5.toUInt32 >>> ((16 : Int32) &&& 31).toUInt32).toInt32).toInt8.toInt32).toInt8.toInt32) h30 n0 Z0 E_b28 F_b28_bytes F_b28_end F_b28_position V_b21 (own_nx3 _ _ (own_r4 p3) (own_r4 p4)) (own_r4 p4) ne_b21_b28 g_b28) hZ (wd25 hw) (wd24 hw) (by decide) (by decide)) (g := (mkF m 154 #[.val (.int p1), .val (.int p2), .val (.int p3), .val (.int p4), .val (.int p5), .val (.ref b1), .val (.int 1), .val (.ref b21), .val (.int ((p3 &&& (2147483647 : Int32)) % (4 : Int32))), .val (.int ((p4 &&& (2147483647 : Int32)) % (4 : Int32))), .val (.ref b28), .val (.int ((p3 &&& (2147483647 : Int32)) % (4 : Int32))), .val (.int (f5 ((p3 &&& (2147483647 : Int32)) % (4 : Int32)) ((p4 &&& (2147483647 : Int32)) % (4 : Int32)))), .unset] [(.int ((p4 &&& (2147483647 : Int32)) % (4 : Int32))), (.int (f5 ((p3 &&& (2147483647 : Int32)) % (4 : Int32)) ((p4 &&& (2147483647 : Int32)) % (4 : Int32)))), (.ref b21), (.ref b28)])) rfl (by rw [hml]; rfl) (argsL := [(.ref b28), (.ref b21), (.int (f5 ((p3 &&& (2147483647 : Int32)) % (4 : Int32)) ((p4 &&& (2147483647 : Int32)) % (4 : Int32)))), (.int ((p4 &&& (2147483647 : Int32)) % (4 : Int32)))]) (rest := []) (lenOf pd4 rfl) rfl (by show 2 * 0 + _ ≤ _; exact Nat.le_of_eq rfl) (hb hby at_154) (fun _ _ => ⟨rfl, e31, (by decide : 4 + 0 ≤ _), (by decide : 9 + 0 ≤ _)⟩)
    dsimp only [Pt.U, Pt.locs, Pt.cells, Pt.slots] at X32 l32 y32 z32 st32 hQ32
    subst l32 y32 z32
    refine Go.st st32 ?_
    have E_b28_pre := E_b28
    have F_b28_end_pre := F_b28_end
    have F_b28_position_pre := F_b28_position
    have F_b28_bytes_pre := F_b28_bytes
    obtain ⟨h32, e32⟩ : ∃ z, T32.heap = z := ⟨_, rfl⟩
    rw [e32] at hQ32
    obtain ⟨rfl, N32q, K32, Q32_0, Q32_1, Q32_2, Q32_3⟩ := hQ32
    replace E_b1 := E_b1.keep K32
    replace V_b2 := V_b2.keep K32 (ninS ne_b2_b28 nin0)
    replace F_b1_bytes := F_b1_bytes.keep K32 (ninS ne_b1_b28 nin0)
    replace F_b1_end := F_b1_end.keep K32 (ninS ne_b1_b28 nin0)
    replace F_b1_position := F_b1_position.keep K32 (ninS ne_b1_b28 nin0)
    replace V_b21 := V_b21.keep K32 (ninS ne_b21_b28 nin0)
    replace E_b28 := E_b28.keep K32
    replace Z0 := Nat.le_trans Z0 K32.1
    replace K0 := K0.trans K32 (allS (Or.inr sz_b28) all0)
    have E_b28 := Q32_0
    have F_b28_end := Q32_1
    have F_b28_position := Q32_2
    have F_b28_bytes := Q32_3
    have N32 := Fr.app N31 N32q
    show Go _ _ _ (T32.setTop (mkF m 157 #[.val (.int p1), .val (.int p2), .val (.int p3), .val (.int p4), .val (.int p5), .val (.ref b1), .val (.int 1), .val (.ref b21), .val (.int ((p3 &&& (2147483647 : Int32)) % (4 : Int32))), .val (.int ((p4 &&& (2147483647 : Int32)) % (4 : Int32))), .val (.ref b28), .val (.int ((p3 &&& (2147483647 : Int32)) % (4 : Int32))), .val (.int (f5 ((p3 &&& (2147483647 : Int32)) % (4 : Int32)) ((p4 &&& (2147483647 : Int32)) % (4 : Int32)))), .unset] [(.int 1)])) _
    refine Go.st (fun t k => XS.ifNo X32.here hx rfl (hb hby at_157) rfl ((if0 _ _).trans (feq (by decide : ¬ ((1 : Int32) = (0 : Int32)))).1) k) ?_
    show Go _ _ _ (T32.setTop (mkF m 160 #[.val (.int p1), .val (.int p2), .val (.int p3), .val (.int p4), .val (.int p5), .val (.ref b1), .val (.int 1), .val (.ref b21), .val (.int ((p3 &&& (2147483647 : Int32)) % (4 : Int32))), .val (.int ((p4 &&& (2147483647 : Int32)) % (4 : Int32))), .val (.ref b28), .val (.int ((p3 &&& (2147483647 : Int32)) % (4 : Int32))), .val (.int (f5 ((p3 &&& (2147483647 : Int32)) % (4 : Int32)) ((p4 &&& (2147483647 : Int32)) % (4 : Int32)))), .unset] [])) _
    refine Go.st (fun t k => XS.iconst X32.here hx rfl (hb hby at_160) k) ?_
    refine Go.st (fun t k => XS.goto X32.here hx rfl (pc0 := 161) (pc' := 165) rfl (hb hby at_161) (by decide) (by decide) k) ?_
    refine Go.st (fun t k => XS.istore X32.here hx rfl (hb hby at_165) rfl (l' := #[.val (.int p1), .val (.int p2), .val (.int p3), .val (.int p4), .val (.int p5), .val (.ref b1), .val (.int 1), .val (.ref b21), .val (.int ((p3 &&& (2147483647 : Int32)) % (4 : Int32))), .val (.int ((p4 &&& (2147483647 : Int32)) % (4 : Int32))), .val (.ref b28), .val (.int ((p3 &&& (2147483647 : Int32)) % (4 : Int32))), .val (.int (f5 ((p3 &&& (2147483647 : Int32)) % (4 : Int32)) ((p4 &&& (2147483647 : Int32)) % (4 : Int32)))), .unset]) rfl k) ?_
    refine Go.st (fun t k => XS.iload X32.here hx rfl (hb hby at_167) rfl k) ?_
    refine Go.st (fun t k => XS.iload X32.here hx rfl (hb hby at_169) rfl k) ?_
    obtain ⟨_, _, ⟨T33, L33, k33, n33⟩, -, X33, ⟨Lc33, hQ33, l33, y33, z33⟩, st33⟩ := Jvm.LawKit.callS X32 hx (y := (⟨"com/example/piece/piece/store/RecordReaderHasMorePinLaw", "next", "(II)I"⟩ : MethodName)) hown (mvT hZ (wd26 hw)) (mvT hZ (wd27 hw)) (mvT hZ (wd24 hw)) (mvT hZ (wd28 hw)) (by decide) (backOf (W := 0) (rm5 l Z a0 hw [] (f5 ((p3 &&& (2147483647 : Int32)) % (4 : Int32)) ((p4 &&& (2147483647 : Int32)) % (4 : Int32))) ((p4 &&& (2147483647 : Int32)) % (4 : Int32)) h32 n0 Z0) hZ (wd28 hw) (wd24 hw) (by decide) (by decide)) (g := (mkF m 171 #[.val (.int p1), .val (.int p2), .val (.int p3), .val (.int p4), .val (.int p5), .val (.ref b1), .val (.int 1), .val (.ref b21), .val (.int ((p3 &&& (2147483647 : Int32)) % (4 : Int32))), .val (.int ((p4 &&& (2147483647 : Int32)) % (4 : Int32))), .val (.ref b28), .val (.int ((p3 &&& (2147483647 : Int32)) % (4 : Int32))), .val (.int (f5 ((p3 &&& (2147483647 : Int32)) % (4 : Int32)) ((p4 &&& (2147483647 : Int32)) % (4 : Int32)))), .unset] [(.int ((p4 &&& (2147483647 : Int32)) % (4 : Int32))), (.int (f5 ((p3 &&& (2147483647 : Int32)) % (4 : Int32)) ((p4 &&& (2147483647 : Int32)) % (4 : Int32))))])) rfl (by rw [hml]; rfl) (argsL := [(.int (f5 ((p3 &&& (2147483647 : Int32)) % (4 : Int32)) ((p4 &&& (2147483647 : Int32)) % (4 : Int32)))), (.int ((p4 &&& (2147483647 : Int32)) % (4 : Int32)))]) (rest := []) (lenOf pd5 rfl) rfl (by show 2 * 0 + _ ≤ _; exact Nat.le_of_eq rfl) (hb hby at_171) (fun _ _ => ⟨rfl, e32, (by decide : 4 + 0 ≤ _), (by decide : 9 + 0 ≤ _)⟩)
    dsimp only [Pt.U, Pt.locs, Pt.cells, Pt.slots] at X33 l33 y33 z33 st33 hQ33
    subst l33 y33 z33
    refine Go.st st33 ?_
    obtain ⟨rfl, N33q, e33⟩ := hQ33
    have N33 := Fr.app N32 N33q
    show Go _ _ _ (T33.setTop (mkF m 174 #[.val (.int p1), .val (.int p2), .val (.int p3), .val (.int p4), .val (.int p5), .val (.ref b1), .val (.int 1), .val (.ref b21), .val (.int ((p3 &&& (2147483647 : Int32)) % (4 : Int32))), .val (.int ((p4 &&& (2147483647 : Int32)) % (4 : Int32))), .val (.ref b28), .val (.int ((p3 &&& (2147483647 : Int32)) % (4 : Int32))), .val (.int (f5 ((p3 &&& (2147483647 : Int32)) % (4 : Int32)) ((p4 &&& (2147483647 : Int32)) % (4 : Int32)))), .unset] [(.int (f5 (f5 ((p3 &&& (2147483647 : Int32)) % (4 : Int32)) ((p4 &&& (2147483647 : Int32)) % (4 : Int32))) ((p4 &&& (2147483647 : Int32)) % (4 : Int32))))])) _
    refine Go.st (fun t k => XS.istore X33.here hx rfl (hb hby at_174) rfl (l' := #[.val (.int p1), .val (.int p2), .val (.int p3), .val (.int p4), .val (.int p5), .val (.ref b1), .val (.int 1), .val (.ref b21), .val (.int ((p3 &&& (2147483647 : Int32)) % (4 : Int32))), .val (.int ((p4 &&& (2147483647 : Int32)) % (4 : Int32))), .val (.ref b28), .val (.int ((p3 &&& (2147483647 : Int32)) % (4 : Int32))), .val (.int (f5 ((p3 &&& (2147483647 : Int32)) % (4 : Int32)) ((p4 &&& (2147483647 : Int32)) % (4 : Int32)))), .val (.int (f5 (f5 ((p3 &&& (2147483647 : Int32)) % (4 : Int32)) ((p4 &&& (2147483647 : Int32)) % (4 : Int32))) ((p4 &&& (2147483647 : Int32)) % (4 : Int32))))]) rfl k) ?_
    refine Go.st (fun t k => XS.iload X33.here hx rfl (hb hby at_176) rfl k) ?_
    refine Go.st (fun t k => XS.ifNo X33.here hx rfl (hb hby at_178) rfl ((if0 _ _).trans (feq (by decide : ¬ ((1 : Int32) = (0 : Int32)))).1) k) ?_
    show Go _ _ _ (T33.setTop (mkF m 181 #[.val (.int p1), .val (.int p2), .val (.int p3), .val (.int p4), .val (.int p5), .val (.ref b1), .val (.int 1), .val (.ref b21), .val (.int ((p3 &&& (2147483647 : Int32)) % (4 : Int32))), .val (.int ((p4 &&& (2147483647 : Int32)) % (4 : Int32))), .val (.ref b28), .val (.int ((p3 &&& (2147483647 : Int32)) % (4 : Int32))), .val (.int (f5 ((p3 &&& (2147483647 : Int32)) % (4 : Int32)) ((p4 &&& (2147483647 : Int32)) % (4 : Int32)))), .val (.int (f5 (f5 ((p3 &&& (2147483647 : Int32)) % (4 : Int32)) ((p4 &&& (2147483647 : Int32)) % (4 : Int32))) ((p4 &&& (2147483647 : Int32)) % (4 : Int32))))] [])) _
    refine Go.st (fun t k => XS.aload X33.here hx rfl (hb hby at_181) rfl rfl k) ?_
    refine Go.st (fun t k => XS.aload X33.here hx rfl (hb hby at_183) rfl rfl k) ?_
    refine Go.st (fun t k => XS.iload X33.here hx rfl (hb hby at_185) rfl k) ?_
    refine Go.st (fun t k => XS.iload X33.here hx rfl (hb hby at_187) rfl k) ?_
    obtain ⟨_, _, ⟨T34, L34, k34, n34⟩, -, X34, ⟨Lc34, hQ34, l34, y34, z34⟩, st34⟩ := Jvm.LawKit.callS X33 hx (y := (⟨"com/example/piece/piece/store/RecordReaderHasMorePinLaw", "step", "(Lcom/example/piece/piece/store/RecordReader;[BII)Z"⟩ : MethodName)) hown (mvT hZ (wd22 hw)) (mvT hZ (wd23 hw)) (mvT hZ (wd24 hw)) (mvT hZ (wd25 hw)) (by decide) (backOf (W := 0) (rm4 l Z a0 hw [] b28 b21 (f5 (f5 ((p3 &&& (2147483647 : Int32)) % (4 : Int32)) ((p4 &&& (2147483647 : Int32)) % (4 : Int32))) ((p4 &&& (2147483647 : Int32)) % (4 : Int32))) ((p4 &&& (2147483647 : Int32)) % (4 : Int32)) k21 ((p5.toInt8.toInt32).toInt8.toInt32) ((((p5.toUInt32 >>> ((8 : Int32) &&& 31).toUInt32).toInt32).toInt8.toInt32).toInt8.toInt32) ((((p5.toUInt32 >>> ((16 : Int32) &&& 31).toUInt32).toInt32).toInt8.toInt32).toInt8.toInt32) h32 n0 Z0 E_b28 F_b28_bytes F_b28_end F_b28_position V_b21 (own_nx3 _ _ (own_nx3 _ _ (own_r4 p3) (own_r4 p4)) (own_r4 p4)) (own_r4 p4) ne_b21_b28 g_b28) hZ (wd25 hw) (wd24 hw) (by decide) (by decide)) (g := (mkF m 189 #[.val (.int p1), .val (.int p2), .val (.int p3), .val (.int p4), .val (.int p5), .val (.ref b1), .val (.int 1), .val (.ref b21), .val (.int ((p3 &&& (2147483647 : Int32)) % (4 : Int32))), .val (.int ((p4 &&& (2147483647 : Int32)) % (4 : Int32))), .val (.ref b28), .val (.int ((p3 &&& (2147483647 : Int32)) % (4 : Int32))), .val (.int (f5 ((p3 &&& (2147483647 : Int32)) % (4 : Int32)) ((p4 &&& (2147483647 : Int32)) % (4 : Int32)))), .val (.int (f5 (f5 ((p3 &&& (2147483647 : Int32)) % (4 : Int32)) ((p4 &&& (2147483647 : Int32)) % (4 : Int32))) ((p4 &&& (2147483647 : Int32)) % (4 : Int32))))] [(.int ((p4 &&& (2147483647 : Int32)) % (4 : Int32))), (.int (f5 (f5 ((p3 &&& (2147483647 : Int32)) % (4 : Int32)) ((p4 &&& (2147483647 : Int32)) % (4 : Int32))) ((p4 &&& (2147483647 : Int32)) % (4 : Int32)))), (.ref b21), (.ref b28)])) rfl (by rw [hml]; rfl) (argsL := [(.ref b28), (.ref b21), (.int (f5 (f5 ((p3 &&& (2147483647 : Int32)) % (4 : Int32)) ((p4 &&& (2147483647 : Int32)) % (4 : Int32))) ((p4 &&& (2147483647 : Int32)) % (4 : Int32)))), (.int ((p4 &&& (2147483647 : Int32)) % (4 : Int32)))]) (rest := []) (lenOf pd4 rfl) rfl (by show 2 * 0 + _ ≤ _; exact Nat.le_of_eq rfl) (hb hby at_189) (fun _ _ => ⟨rfl, e33, (by decide : 4 + 0 ≤ _), (by decide : 9 + 0 ≤ _)⟩)
    dsimp only [Pt.U, Pt.locs, Pt.cells, Pt.slots] at X34 l34 y34 z34 st34 hQ34
    subst l34 y34 z34
    refine Go.st st34 ?_
    have E_b28_pre := E_b28
    have F_b28_end_pre := F_b28_end
    have F_b28_position_pre := F_b28_position
    have F_b28_bytes_pre := F_b28_bytes
    obtain ⟨h34, e34⟩ : ∃ z, T34.heap = z := ⟨_, rfl⟩
    rw [e34] at hQ34
    obtain ⟨rfl, N34q, K34, Q34_0, Q34_1, Q34_2, Q34_3⟩ := hQ34
    replace E_b1 := E_b1.keep K34
    replace V_b2 := V_b2.keep K34 (ninS ne_b2_b28 nin0)
    replace F_b1_bytes := F_b1_bytes.keep K34 (ninS ne_b1_b28 nin0)
    replace F_b1_end := F_b1_end.keep K34 (ninS ne_b1_b28 nin0)
    replace F_b1_position := F_b1_position.keep K34 (ninS ne_b1_b28 nin0)
    replace V_b21 := V_b21.keep K34 (ninS ne_b21_b28 nin0)
    replace E_b28 := E_b28.keep K34
    replace Z0 := Nat.le_trans Z0 K34.1
    replace K0 := K0.trans K34 (allS (Or.inr sz_b28) all0)
    have E_b28 := Q34_0
    have F_b28_end := Q34_1
    have F_b28_position := Q34_2
    have F_b28_bytes := Q34_3
    have N34 := Fr.app N33 N34q
    show Go _ _ _ (T34.setTop (mkF m 192 #[.val (.int p1), .val (.int p2), .val (.int p3), .val (.int p4), .val (.int p5), .val (.ref b1), .val (.int 1), .val (.ref b21), .val (.int ((p3 &&& (2147483647 : Int32)) % (4 : Int32))), .val (.int ((p4 &&& (2147483647 : Int32)) % (4 : Int32))), .val (.ref b28), .val (.int ((p3 &&& (2147483647 : Int32)) % (4 : Int32))), .val (.int (f5 ((p3 &&& (2147483647 : Int32)) % (4 : Int32)) ((p4 &&& (2147483647 : Int32)) % (4 : Int32)))), .val (.int (f5 (f5 ((p3 &&& (2147483647 : Int32)) % (4 : Int32)) ((p4 &&& (2147483647 : Int32)) % (4 : Int32))) ((p4 &&& (2147483647 : Int32)) % (4 : Int32))))] [(.int 1)])) _
    refine Go.st (fun t k => XS.ifNo X34.here hx rfl (hb hby at_192) rfl ((if0 _ _).trans (feq (by decide : ¬ ((1 : Int32) = (0 : Int32)))).1) k) ?_
    show Go _ _ _ (T34.setTop (mkF m 195 #[.val (.int p1), .val (.int p2), .val (.int p3), .val (.int p4), .val (.int p5), .val (.ref b1), .val (.int 1), .val (.ref b21), .val (.int ((p3 &&& (2147483647 : Int32)) % (4 : Int32))), .val (.int ((p4 &&& (2147483647 : Int32)) % (4 : Int32))), .val (.ref b28), .val (.int ((p3 &&& (2147483647 : Int32)) % (4 : Int32))), .val (.int (f5 ((p3 &&& (2147483647 : Int32)) % (4 : Int32)) ((p4 &&& (2147483647 : Int32)) % (4 : Int32)))), .val (.int (f5 (f5 ((p3 &&& (2147483647 : Int32)) % (4 : Int32)) ((p4 &&& (2147483647 : Int32)) % (4 : Int32))) ((p4 &&& (2147483647 : Int32)) % (4 : Int32))))] [])) _
    refine Go.st (fun t k => XS.iconst X34.here hx rfl (hb hby at_195) k) ?_
    refine Go.st (fun t k => XS.goto X34.here hx rfl (pc0 := 196) (pc' := 200) rfl (hb hby at_196) (by decide) (by decide) k) ?_
    refine Go.st (fun t k => XS.istore X34.here hx rfl (hb hby at_200) rfl (l' := #[.val (.int p1), .val (.int p2), .val (.int p3), .val (.int p4), .val (.int p5), .val (.ref b1), .val (.int 1), .val (.ref b21), .val (.int ((p3 &&& (2147483647 : Int32)) % (4 : Int32))), .val (.int ((p4 &&& (2147483647 : Int32)) % (4 : Int32))), .val (.ref b28), .val (.int ((p3 &&& (2147483647 : Int32)) % (4 : Int32))), .val (.int (f5 ((p3 &&& (2147483647 : Int32)) % (4 : Int32)) ((p4 &&& (2147483647 : Int32)) % (4 : Int32)))), .val (.int (f5 (f5 ((p3 &&& (2147483647 : Int32)) % (4 : Int32)) ((p4 &&& (2147483647 : Int32)) % (4 : Int32))) ((p4 &&& (2147483647 : Int32)) % (4 : Int32))))]) rfl k) ?_
    refine Go.st (fun t k => XS.iload X34.here hx rfl (hb hby at_202) rfl k) ?_
    refine Go.st (fun t k => XS.ifNo X34.here hx rfl (hb hby at_204) rfl ((if0 _ _).trans (feq (by decide : ¬ ((1 : Int32) = (0 : Int32)))).1) k) ?_
    show Go _ _ _ (T34.setTop (mkF m 207 #[.val (.int p1), .val (.int p2), .val (.int p3), .val (.int p4), .val (.int p5), .val (.ref b1), .val (.int 1), .val (.ref b21), .val (.int ((p3 &&& (2147483647 : Int32)) % (4 : Int32))), .val (.int ((p4 &&& (2147483647 : Int32)) % (4 : Int32))), .val (.ref b28), .val (.int ((p3 &&& (2147483647 : Int32)) % (4 : Int32))), .val (.int (f5 ((p3 &&& (2147483647 : Int32)) % (4 : Int32)) ((p4 &&& (2147483647 : Int32)) % (4 : Int32)))), .val (.int (f5 (f5 ((p3 &&& (2147483647 : Int32)) % (4 : Int32)) ((p4 &&& (2147483647 : Int32)) % (4 : Int32))) ((p4 &&& (2147483647 : Int32)) % (4 : Int32))))] [])) _
    refine Go.st (fun t k => XS.aload X34.here hx rfl (hb hby at_207) rfl rfl k) ?_
    obtain ⟨cq35, kq35, q35a, q35b, q35c⟩ := isOf hZ e34 E_b28
    obtain ⟨_, _, ⟨T35, L35, k35, n35⟩, -, X35, ⟨Lc35, hQ35, l35, y35, z35⟩, st35⟩ := X34.virtualBack hx (y := (⟨"com/example/piece/piece/store/RecordReader", "hasMore", "()Z"⟩ : MethodName)) (z := (⟨"com/example/piece/piece/store/RecordReader", "hasMore", "()Z"⟩ : MethodName)) hown (mvT hZ (wd16 hw)) (mvT hZ (wd17 hw)) (notFace_of_selects (args := #[]) (mvT hZ (wd19 hw))) (mvT hZ (wd19 hw)) (mvT hZ (wd18 hw)) (by decide) (backOf (W := 0) (rm3 l Z a0 hw [] b28 (f4_a1_position (f5 (f5 ((p3 &&& (2147483647 : Int32)) % (4 : Int32)) ((p4 &&& (2147483647 : Int32)) % (4 : Int32))) ((p4 &&& (2147483647 : Int32)) % (4 : Int32))) ((p4 &&& (2147483647 : Int32)) % (4 : Int32))) ((p4 &&& (2147483647 : Int32)) % (4 : Int32)) h34 n0 Z0 F_b28_position F_b28_end) hZ (wd20 hw) (wd2 hw) (by decide) (by decide)) q35a q35c (g := (mkF m 209 #[.val (.int p1), .val (.int p2), .val (.int p3), .val (.int p4), .val (.int p5), .val (.ref b1), .val (.int 1), .val (.ref b21), .val (.int ((p3 &&& (2147483647 : Int32)) % (4 : Int32))), .val (.int ((p4 &&& (2147483647 : Int32)) % (4 : Int32))), .val (.ref b28), .val (.int ((p3 &&& (2147483647 : Int32)) % (4 : Int32))), .val (.int (f5 ((p3 &&& (2147483647 : Int32)) % (4 : Int32)) ((p4 &&& (2147483647 : Int32)) % (4 : Int32)))), .val (.int (f5 (f5 ((p3 &&& (2147483647 : Int32)) % (4 : Int32)) ((p4 &&& (2147483647 : Int32)) % (4 : Int32))) ((p4 &&& (2147483647 : Int32)) % (4 : Int32))))] [(.ref b28)])) rfl (by rw [hml]; rfl) (Steps.refl _) (argsL := []) (rest := []) (lenOf pd1 rfl) rfl (by show 2 * 0 + _ ≤ _; exact Nat.le_of_eq rfl) (hb hby at_209) (fun _ _ => ⟨rfl, e34, (by decide : 4 + 0 ≤ _), (by decide : 9 + 0 ≤ _)⟩)
    dsimp only [Pt.U, Pt.locs, Pt.cells, Pt.slots] at X35 l35 y35 z35 st35 hQ35
    subst l35 y35 z35
    refine Go.tr st35 ?_
    obtain ⟨rfl, N35q, e35⟩ := hQ35
    have N35 := Fr.app N34 N35q
    show Go _ _ _ (T35.setTop (mkF m 212 #[.val (.int p1), .val (.int p2), .val (.int p3), .val (.int p4), .val (.int p5), .val (.ref b1), .val (.int 1), .val (.ref b21), .val (.int ((p3 &&& (2147483647 : Int32)) % (4 : Int32))), .val (.int ((p4 &&& (2147483647 : Int32)) % (4 : Int32))), .val (.ref b28), .val (.int ((p3 &&& (2147483647 : Int32)) % (4 : Int32))), .val (.int (f5 ((p3 &&& (2147483647 : Int32)) % (4 : Int32)) ((p4 &&& (2147483647 : Int32)) % (4 : Int32)))), .val (.int (f5 (f5 ((p3 &&& (2147483647 : Int32)) % (4 : Int32)) ((p4 &&& (2147483647 : Int32)) % (4 : Int32))) ((p4 &&& (2147483647 : Int32)) % (4 : Int32))))] [(.int (f3 (f4_a1_position (f5 (f5 ((p3 &&& (2147483647 : Int32)) % (4 : Int32)) ((p4 &&& (2147483647 : Int32)) % (4 : Int32))) ((p4 &&& (2147483647 : Int32)) % (4 : Int32))) ((p4 &&& (2147483647 : Int32)) % (4 : Int32))) ((p4 &&& (2147483647 : Int32)) % (4 : Int32))))])) _
    rw [show (f3 (f4_a1_position (f5 (f5 ((p3 &&& (2147483647 : Int32)) % (4 : Int32)) ((p4 &&& (2147483647 : Int32)) % (4 : Int32))) ((p4 &&& (2147483647 : Int32)) % (4 : Int32))) ((p4 &&& (2147483647 : Int32)) % (4 : Int32))) ((p4 &&& (2147483647 : Int32)) % (4 : Int32))) = (0 : Int32) from by unfold f3; simp only [if_neg (show ¬ ((f4_a1_position (f5 (f5 ((p3 &&& (2147483647 : Int32)) % (4 : Int32)) ((p4 &&& (2147483647 : Int32)) % (4 : Int32))) ((p4 &&& (2147483647 : Int32)) % (4 : Int32))) ((p4 &&& (2147483647 : Int32)) % (4 : Int32))) < ((p4 &&& (2147483647 : Int32)) % (4 : Int32))) from (own_done _ _ (own_r4 p3) (own_r4 p4))), if_true, if_false]]
    show Go _ _ _ (T35.setTop (mkF m 212 #[.val (.int p1), .val (.int p2), .val (.int p3), .val (.int p4), .val (.int p5), .val (.ref b1), .val (.int 1), .val (.ref b21), .val (.int ((p3 &&& (2147483647 : Int32)) % (4 : Int32))), .val (.int ((p4 &&& (2147483647 : Int32)) % (4 : Int32))), .val (.ref b28), .val (.int ((p3 &&& (2147483647 : Int32)) % (4 : Int32))), .val (.int (f5 ((p3 &&& (2147483647 : Int32)) % (4 : Int32)) ((p4 &&& (2147483647 : Int32)) % (4 : Int32)))), .val (.int (f5 (f5 ((p3 &&& (2147483647 : Int32)) % (4 : Int32)) ((p4 &&& (2147483647 : Int32)) % (4 : Int32))) ((p4 &&& (2147483647 : Int32)) % (4 : Int32))))] [(.int 0)])) _
    refine Go.st (fun t k => XS.ifNo X35.here hx rfl (hb hby at_212) rfl ((if0 _ _).trans (teq (by decide : (0 : Int32) = (0 : Int32))).2) k) ?_
    show Go _ _ _ (T35.setTop (mkF m 215 #[.val (.int p1), .val (.int p2), .val (.int p3), .val (.int p4), .val (.int p5), .val (.ref b1), .val (.int 1), .val (.ref b21), .val (.int ((p3 &&& (2147483647 : Int32)) % (4 : Int32))), .val (.int ((p4 &&& (2147483647 : Int32)) % (4 : Int32))), .val (.ref b28), .val (.int ((p3 &&& (2147483647 : Int32)) % (4 : Int32))), .val (.int (f5 ((p3 &&& (2147483647 : Int32)) % (4 : Int32)) ((p4 &&& (2147483647 : Int32)) % (4 : Int32)))), .val (.int (f5 (f5 ((p3 &&& (2147483647 : Int32)) % (4 : Int32)) ((p4 &&& (2147483647 : Int32)) % (4 : Int32))) ((p4 &&& (2147483647 : Int32)) % (4 : Int32))))] [])) _
    refine Go.st (fun t k => XS.iconst X35.here hx rfl (hb hby at_215) k) ?_
    refine Go.st (fun t k => XS.goto X35.here hx rfl (pc0 := 216) (pc' := 220) rfl (hb hby at_216) (by decide) (by decide) k) ?_
    refine Go.st (fun t k => XS.istore X35.here hx rfl (hb hby at_220) rfl (l' := #[.val (.int p1), .val (.int p2), .val (.int p3), .val (.int p4), .val (.int p5), .val (.ref b1), .val (.int 1), .val (.ref b21), .val (.int ((p3 &&& (2147483647 : Int32)) % (4 : Int32))), .val (.int ((p4 &&& (2147483647 : Int32)) % (4 : Int32))), .val (.ref b28), .val (.int ((p3 &&& (2147483647 : Int32)) % (4 : Int32))), .val (.int (f5 ((p3 &&& (2147483647 : Int32)) % (4 : Int32)) ((p4 &&& (2147483647 : Int32)) % (4 : Int32)))), .val (.int (f5 (f5 ((p3 &&& (2147483647 : Int32)) % (4 : Int32)) ((p4 &&& (2147483647 : Int32)) % (4 : Int32))) ((p4 &&& (2147483647 : Int32)) % (4 : Int32))))]) rfl k) ?_
    refine Go.st (fun t k => XS.iload X35.here hx rfl (hb hby at_222) rfl k) ?_
    obtain ⟨fs, hr, hrun, hended, hW, hsame⟩ := X35.leave (v := some (.int (1 : Int32))) (fun h => by rw [Bd.returns] at h; cases h)
    refine Go.fin (retN X35 hx (t := .boolean) Bd.returns (by simp) (hb hby at_224) hr) hrun hended ⟨_, _, rfl, ?_, ⟨_, rfl⟩, hW, hsame.mono (by decide) (by decide)⟩
    show Q0 Z p1 p2 p3 p4 p5 h0 n0 _ T35.heap _
    rw [e35]
    exact ⟨rfl, N35⟩
set_option maxRecDepth 65536 in
set_option maxHeartbeats 16000000 in
theorem comes_1 {Post : Tables → Env → Array Value → State → Outcome → State → Prop} (hpost : ∀ tb e args s v u, (limb_1_1.after args s (.returned v) u = true ∧ limb_1_2.after args s (.returned v) u = true ∧ True) → FrameEnd s (.returned v) u (Jvm.fieldLocs frame_1_writes args s ++ Jvm.arrayLocs frame_1_arrays args s ++ Jvm.staticLocs frame_1_statics s) 16 128 → Post tb e args s (.returned v) u) :
    ArmFor flags0 classFile x code maxLocals ret World_1 tables_1 room_1 Calls_1 rest_1 Pre_1 Post := by
  intro l hfl _ _ p e ha hc hk s m args below hf hA hF happ hP
  obtain ⟨hcalls, hrest, hpre⟩ := hP
  obtain ⟨-, -, -, hnamed, -, -, -, hat⟩ := (Spec.applies_iff hf).mp happ
  obtain ⟨hg, hn⟩ := and_e (Cond.before_iff.mp (show (Jvm.Cond.and given_1 narrow_1).before args s = true from hpre))
  obtain ⟨g1, g2⟩ := and_e hg
  obtain ⟨g3, g4⟩ := and_e g2
  obtain ⟨g5, g6⟩ := and_e g4
  obtain ⟨g7, g8⟩ := and_e g6
  obtain ⟨g9, g10⟩ := and_e g8
  obtain ⟨w0, w1, w2, w3, w4, rfl⟩ : ∃ w0 w1 w2 w3 w4 : Value, args = #[w0, w1, w2, w3, w4] := by
    have hs : args.size = 5 := by simpa [Cond.value, given_1] using g1
    obtain ⟨L⟩ := args
    match L, hs with
    | [w0, w1, w2, w3, w4], _ => exact ⟨w0, w1, w2, w3, w4, rfl⟩
  have hw := fun d (hd : d ∈ tables_1) => atoms_spec (ws := Jvm.Cond.code x code maxLocals ret :: tables_1) hat d (List.mem_cons_of_mem _ hd)
  have hfit : Fit s := fun {y c} hc i hi => by
    obtain ⟨ha, rfl⟩ := Array.getElem?_eq_some_iff.mp hc
    have q := List.all_eq_true.mp ((Array.all_eq_true_iff_forall_mem.mp hF) _ (Array.getElem_mem ha)) i (List.mem_range.mpr hi)
    simpa [Array.getElem?_eq_getElem hi] using q
  obtain ⟨i0, ei0⟩ := is_v g3
  obtain rfl : w0 = (.int i0) := Option.some.inj ei0
  obtain ⟨i1, ei1⟩ := is_v g5
  obtain rfl : w1 = (.int i1) := Option.some.inj ei1
  obtain ⟨i2, ei2⟩ := is_v g7
  obtain rfl : w2 = (.int i2) := Option.some.inj ei2
  obtain ⟨i3, ei3⟩ := is_v g9
  obtain rfl : w3 = (.int i3) := Option.some.inj ei3
  obtain ⟨i4, ei4⟩ := is_v g10
  obtain rfl : w4 = (.int i4) := Option.some.inj ei4
  have hplain := trivial
  obtain ⟨n, o, h1, h2, h3, _, L, rfl, ⟨rfl, N⟩, hq⟩ := rm0 l s _ hw tables_1 i0 i1 i2 i3 i4 s.heap s.heap.size (Nat.le_refl _)  p e ha hc hk s m _ below hf ((Spec.applies_iff_loose hf).mp happ).1 ⟨rfl, State.Warmed39.refl s, rfl⟩ trivial
  refine ⟨n, _, h1, h2, h3, hpost _ _ _ _ _ _ ⟨Cond.after_iff.mpr rfl, Cond.after_iff.mpr (eq_i res_at (Term.int_eval (1)) rfl), trivial⟩ ⟨hq.1, hq.2.1, (hq.2.2.sift fun y hy => Or.inr (N y hy)).mono (by decide) (by decide)⟩⟩
theorem main_1_1 : Claimed_1_1 := comes_1 fun _ _ _ _ _ _ h hF => ⟨h.1, hF⟩
theorem main_1_2 : Claimed_1_2 := comes_1 fun _ _ _ _ _ _ h hF => ⟨h.2.1, hF⟩
end Jvm.Pilot.@@N@@
namespace Jvm.Pilot.@@N@@
open Jvm Jvm.ClassFile Sem Op Lib Jvm.Free Jvm.Stand Jvm.Pilot.@@N@@.Jvm.D
/-! MADE BY PROGRAM (witnessworld.py) out of the Statement's table words and the real class files: 9 classes; the members and pool entries that the words name. The judged class is class 1, her method 3. -/
namespace start1
open Jvm.ClassFile
def u (s : String) : CpInfo := .utf8 (stringToUtf16 s)
/-- a pool by its gaps: so many unusable entries, then the entry; so many at the end -/
def gap : Nat → List CpInfo → List CpInfo
  | 0, r => r
  | n + 1, r => .unusable :: gap n r
def poolList (es : List (Nat × CpInfo)) (last : Nat) : List CpInfo := es.foldr (fun e r => gap e.1 (e.2 :: r)) (gap last [])
def pool (es : List (Nat × CpInfo)) (last : Nat) : Array CpInfo := ⟨poolList es last⟩
def fileOf (pool : Array CpInfo) (this : Nat) (attrs : Array Attribute := #[]) (ms : Array MethodInfo := #[]) (fl : Nat := 33) (sup : Nat := 0) (ifs : Array Nat := #[]) (fds : Array FieldInfo := #[]) : ClassFile where
  minorVersion := 0
  majorVersion := 65
  constantPool := pool
  accessFlags := fl
  thisClass := this
  superClass := sup
  interfaces := ifs
  fields := fds
  methods := ms
  attributes := attrs
def plain (name : String) (sup : Option ClassId) : Class where
  name := name
  kind := .ordinary
  loader := none
  accessFlags := 33
  super := sup
  interfaces := #[]
  cf := none
  fields := #[]
  methods := #[]
  instanceTypes := #[]
  staticTypes := #[]
  resolved := #[]
  callSites := []
  init := .initialized
  statics := none
  mirror := none

def pool0 : Array CpInfo := pool [(5, u "<init>"), (0, u "()V"), (1, .class_ 10), (1, u "java/lang/Object")] 113

def k0c0 : Code := { maxStack := 0, maxLocals := 1, code := object_method_1_code, exceptionTable := #[], attributes := #[] }
def k0m0 : Method := { name := "<init>", desc := "()V", sig := { parameters := [], returnType := none }, accessFlags := 1, code := some k0c0 }
/-- java/lang/Object -/
def k0 : Class := { plain "java/lang/Object" none with
  accessFlags := 33
  interfaces := #[]
  cf := some (fileOf pool0 8 #[] #[{ accessFlags := 1, nameIndex := 5, descriptorIndex := 6, attributes := #[] }] 33 0 #[] #[])
  fields := #[]
  methods := #[k0m0]
  instanceTypes := #[]
  staticTypes := #[]
  resolved := Array.replicate 124 none
  statics := none }

def pool1 : Array CpInfo := pool [(2, .class_ 4), (1, u "java/lang/Object"), (0, u "<init>"), (0, u "()V"), (0, .methodref 8 9), (0, .class_ 10), (0, .nameAndType 11 12), (0, u "com/example/piece/piece/store/RecordReader"), (0, u "hasMore"), (0, u "()Z"), (0, .methodref 8 14), (0, .nameAndType 15 16), (0, u "getByte"), (0, u "()I"), (0, .methodref 8 18), (0, .nameAndType 5 19), (0, u "([BII)V"), (0, .integer 2147483647), (0, .methodref 22 23), (0, .class_ 24), (0, .nameAndType 25 26), (0, u "com/example/piece/piece/store/RecordReaderHasMorePinLaw"), (0, u "step"), (0, u "(Lcom/example/piece/piece/store/RecordReader;[BII)Z"), (0, .methodref 22 28), (0, .nameAndType 29 30), (0, u "next"), (0, u "(II)I"), (5, u "law"), (0, u "(IIIII)Z")] 2

def k1m0 : Method := { name := "<init>", desc := "()V", sig := { parameters := [], returnType := none }, accessFlags := 2, code := none }
def k1c1 : Code := { maxStack := 3, maxLocals := 5, code := method_2_code, exceptionTable := #[], attributes := #[] }
def k1m1 : Method := { name := "step", desc := "(Lcom/example/piece/piece/store/RecordReader;[BII)Z", sig := { parameters := [(.object "com/example/piece/piece/store/RecordReader"), (.array .byte), .int, .int], returnType := some .boolean }, accessFlags := 10, code := some k1c1 }
def k1c2 : Code := { maxStack := 2, maxLocals := 2, code := method_3_code, exceptionTable := #[], attributes := #[] }
def k1m2 : Method := { name := "next", desc := "(II)I", sig := { parameters := [.int, .int], returnType := some .int }, accessFlags := 10, code := some k1c2 }
def k1c3 : Code := { maxStack := 5, maxLocals := 14, code := code, exceptionTable := #[], attributes := #[] }
def k1m3 : Method := { name := "law", desc := "(IIIII)Z", sig := { parameters := [.int, .int, .int, .int, .int], returnType := some .boolean }, accessFlags := 9, code := some k1c3 }
/-- com/example/piece/piece/store/RecordReaderHasMorePinLaw -/
def k1 : Class := { plain "com/example/piece/piece/store/RecordReaderHasMorePinLaw" (some 0) with
  accessFlags := 49
  interfaces := #[]
  cf := some (fileOf pool1 22 #[] #[{ accessFlags := 2, nameIndex := 5, descriptorIndex := 6, attributes := #[] }, { accessFlags := 10, nameIndex := 25, descriptorIndex := 26, attributes := #[] }, { accessFlags := 10, nameIndex := 29, descriptorIndex := 30, attributes := #[] }, { accessFlags := 9, nameIndex := 36, descriptorIndex := 37, attributes := #[] }] 49 2 #[] #[])
  fields := #[]
  methods := #[k1m0, k1m1, k1m2, k1m3]
  instanceTypes := #[]
  staticTypes := #[]
  resolved := Array.replicate 40 none
  statics := none }

def pool2 : Array CpInfo := pool [(2, .class_ 4), (1, u "com/example/piece/piece/store/RecordReader"), (0, u "<init>"), (0, u "([BII)V"), (0, .methodref 8 9), (0, .class_ 10), (0, .nameAndType 5 11), (0, u "java/lang/Object"), (0, u "()V"), (0, .fieldref 2 13), (0, .nameAndType 14 15), (0, u "bytes"), (0, u "[B"), (0, .fieldref 2 17), (0, .nameAndType 18 19), (0, u "end"), (0, u "I"), (0, .fieldref 2 21), (0, .nameAndType 22 19), (0, u "position"), (0, .methodref 2 24), (0, .nameAndType 25 26), (0, u "need"), (0, u "(I)V"), (4, u "LONGS"), (0, u "Ljava/lang/invoke/VarHandle;"), (19, u "getByte"), (0, u "()I"), (66, u "WHOLE_NUMBER_BYTES"), (6, u "hasMore"), (0, u "()Z")] 29

def k2c0 : Code := { maxStack := 2, maxLocals := 4, code := prog_46_method_2_code, exceptionTable := #[], attributes := #[] }
def k2m0 : Method := { name := "<init>", desc := "([BII)V", sig := { parameters := [(.array .byte), .int, .int], returnType := none }, accessFlags := 0, code := some k2c0 }
def k2c1 : Code := { maxStack := 2, maxLocals := 1, code := prog_46_method_4_code, exceptionTable := #[], attributes := #[] }
def k2m1 : Method := { name := "hasMore", desc := "()Z", sig := { parameters := [], returnType := some .boolean }, accessFlags := 0, code := some k2c1 }
def k2c2 : Code := { maxStack := 5, maxLocals := 1, code := prog_46_method_5_code, exceptionTable := #[], attributes := #[] }
def k2m2 : Method := { name := "getByte", desc := "()I", sig := { parameters := [], returnType := some .int }, accessFlags := 0, code := some k2c2 }
def k2c3 : Code := { maxStack := 3, maxLocals := 2, code := prog_46_method_21_code, exceptionTable := #[], attributes := #[] }
def k2m3 : Method := { name := "need", desc := "(I)V", sig := { parameters := [.int], returnType := none }, accessFlags := 2, code := some k2c3 }
/-- com/example/piece/piece/store/RecordReader -/
def k2 : Class := { plain "com/example/piece/piece/store/RecordReader" (some 0) with
  accessFlags := 48
  interfaces := #[]
  cf := some (fileOf pool2 2 #[] #[{ accessFlags := 0, nameIndex := 5, descriptorIndex := 6, attributes := #[] }, { accessFlags := 0, nameIndex := 127, descriptorIndex := 128, attributes := #[] }, { accessFlags := 0, nameIndex := 52, descriptorIndex := 53, attributes := #[] }, { accessFlags := 2, nameIndex := 25, descriptorIndex := 26, attributes := #[] }] 48 8 #[] #[{ accessFlags := 26, nameIndex := 31, descriptorIndex := 32, attributes := #[] }, { accessFlags := 26, nameIndex := 120, descriptorIndex := 19, attributes := #[] }, { accessFlags := 18, nameIndex := 14, descriptorIndex := 15, attributes := #[] }, { accessFlags := 18, nameIndex := 18, descriptorIndex := 19, attributes := #[] }, { accessFlags := 2, nameIndex := 22, descriptorIndex := 19, attributes := #[] }])
  fields := #[{ name := "LONGS", type := (.object "java/lang/invoke/VarHandle"), accessFlags := 26, slot := 0, constantValue := 0 }, { name := "WHOLE_NUMBER_BYTES", type := .int, accessFlags := 26, slot := 1, constantValue := 0 }, { name := "bytes", type := (.array .byte), accessFlags := 18, slot := 0, constantValue := 0 }, { name := "end", type := .int, accessFlags := 18, slot := 1, constantValue := 0 }, { name := "position", type := .int, accessFlags := 2, slot := 2, constantValue := 0 }]
  methods := #[k2m0, k2m1, k2m2, k2m3]
  instanceTypes := #[(.array .byte), .int, .int]
  staticTypes := #[(.object "java/lang/invoke/VarHandle"), .int]
  resolved := Array.replicate 158 none
  statics := none }

def pool3 : Array CpInfo := pool [(1, u "java/lang/Cloneable"), (0, .class_ 1), (0, u "java/lang/Object"), (0, .class_ 3)] 3

/-- java/lang/Cloneable -/
def k3 : Class := { plain "java/lang/Cloneable" (some 0) with
  accessFlags := 1537
  interfaces := #[]
  cf := some (fileOf pool3 2 #[] #[] 1537 4 #[] #[])
  fields := #[]
  methods := #[]
  instanceTypes := #[]
  staticTypes := #[]
  resolved := Array.replicate 8 none
  statics := none }

def pool4 : Array CpInfo := pool [(1, u "java/io/Serializable"), (0, .class_ 1), (0, u "java/lang/Object"), (0, .class_ 3)] 3

/-- java/io/Serializable -/
def k4 : Class := { plain "java/io/Serializable" (some 0) with
  accessFlags := 1537
  interfaces := #[]
  cf := some (fileOf pool4 2 #[] #[] 1537 4 #[] #[])
  fields := #[]
  methods := #[]
  instanceTypes := #[]
  staticTypes := #[]
  resolved := Array.replicate 8 none
  statics := none }

/-- the primitive byte -/
def k5 : Class := { plain "byte" none with kind := .primitive 'B', accessFlags := 0x411 }
/-- [B -/
def k6 : Class := { plain "[B" (some 0) with kind := .array 5 .byte, interfaces := #[3, 4], accessFlags := 1041 }

/-- the primitive int -/
def k7 : Class := { plain "int" none with kind := .primitive 'I', accessFlags := 0x411 }
/-- [I -/
def k8 : Class := { plain "[I" (some 0) with kind := .array 7 .int, interfaces := #[3, 4], accessFlags := 1041 }

def heap : Heap := #[]
def classes : Array Class := #[k0, k1, k2, k3, k4, k5, k6, k7, k8]
def interned : List (Array UInt16 × Addr) := []
def slotsUsed : Nat := 0
def theMethod : MethodId := ⟨1, 3⟩
def args0 : Array Value := #[.int 5, .int 6, .int 7, .int 8, .int 9]
def aboutOver (below : List Frame) : State where
  vm := { classes := classes, interned := interned.toArray }
  heap := heap
  slotsUsed := slotsUsed
  threads := #[{ frames := .invoking theMethod args0 :: below }]
def below0 : List Frame := [.native { method := ⟨0, 0⟩, args := #[] }]
def about1 : State := aboutOver below0
def p0 : Program := .bare "" "" ""
def e0 : Env := launch0.env 0 0 0
theorem w_frames : about1.frames = Frame.invoking theMethod args0 :: below0 := rfl
set_option maxRecDepth 65536 in
theorem w_args : argsFit about1.vm theMethod args0 = true := by decide +kernel
set_option maxRecDepth 65536 in
theorem w_heap : heapFits about1 = true := by decide +kernel
set_option maxRecDepth 65536 in
theorem w_runnable : about1.curStatus? = some .runnable := by decide +kernel
set_option maxRecDepth 65536 in
theorem w_alone : about1.alone = true := by decide +kernel
set_option maxRecDepth 65536 in
theorem w_named : about1.methodNamed? x = some theMethod := by decide +kernel
set_option maxRecDepth 65536 in
theorem w_hears : about1.hears theMethod below0 = true := by decide +kernel
set_option maxRecDepth 65536 in
theorem w_ripe : about1.ripe theMethod args0 below0 = true := by decide +kernel
theorem w_running : about1.status = .running := rfl
set_option maxRecDepth 65536 in
theorem w_room : about1.hasRoom e0.platform room_1 = true :=
  launch0.hasRoom_least _ room_1 (by decide +kernel) (by decide +kernel) (by decide +kernel) (by decide +kernel) (by decide +kernel) (by decide +kernel)
theorem allAtoms_all (ts : List Jvm.Cond) (a : Array Jvm.Value) (st : Jvm.State) : (allAtoms ts).before a st = ts.all (fun c => c.before a st) := by
  induction ts with
  | nil => rfl
  | cons c t ih =>
    show (Jvm.Cond.and c (allAtoms t)).before a st = _
    rw [Jvm.Cond.before_and, ih, List.all_cons]
def words1 : List Jvm.Cond := Jvm.Cond.code x code maxLocals ret :: tables_1
/-- a 'code' word, met by the world's own term for the bytes: nothing is compared byte by byte -/
theorem code_word {y : MethodName} {bytes : ByteArray} {mx : Nat} {rt : Option FieldType} {a : Array Value} {s : State} {m : MethodId} {meth : Method} {c : Code} (h1 : s.methodNamed? y = some m) (h2 : s.vm.method? m = some meth) (h3 : meth.code = some c) (h4 : c.code = bytes)
    (h5 : (c.maxLocals == mx && c.exceptionTable.isEmpty && decide (c.maxStack ≤ mostOperands) && decide (meth.sig.returnType = rt) && !meth.locks && decide (parseMethodDescriptor y.desc = some meth.sig)) = true) : (Jvm.Cond.code y bytes mx rt).before a s = true := by
  simp only [Bool.and_eq_true, beq_iff_eq, Bool.not_eq_true', decide_eq_true_eq] at h5
  obtain ⟨⟨⟨⟨⟨g1, g2⟩, g3⟩, g4⟩, g5⟩, g6⟩ := h5
  simp [Cond.before, Cond.holds, Cond.value, h1, h2, h3, h4, g1, g2, g3, g4, g5, g6]
def isCode : Jvm.Cond → Bool
  | .code _ _ _ _ => true
  | _ => false
theorem all_split {L : List Jvm.Cond} {P : Jvm.Cond → Bool} (h1 : L.all (fun c => isCode c || P c) = true) (h2 : ∀ c ∈ L.filter isCode, P c = true) : L.all P = true := by
  refine List.all_eq_true.mpr fun c hc => ?_
  have h := List.all_eq_true.mp h1 c hc
  rcases Bool.eq_false_or_eq_true (isCode c) with hi | hi
  · exact h2 c (List.mem_filter.mpr ⟨hc, hi⟩)
  · simpa [hi] using h
set_option maxRecDepth 65536 in
theorem w_c0 : (Jvm.Cond.code x code maxLocals ret).before args0 about1 = true := code_word (m := ⟨1, 3⟩) (meth := k1m3) (c := k1c3) (by decide +kernel) rfl rfl rfl (by decide +kernel)
set_option maxRecDepth 65536 in
theorem w_c1 : (Jvm.Cond.code ({ cls := "com/example/piece/piece/store/RecordReader", name := "<init>", desc := "([BII)V" } : Jvm.MethodName) prog_46_method_2_code (4 : Nat) (Option.none : Option Jvm.ClassFile.FieldType)).before args0 about1 = true := code_word (m := ⟨2, 0⟩) (meth := k2m0) (c := k2c0) (by decide +kernel) rfl rfl rfl (by decide +kernel)
set_option maxRecDepth 65536 in
theorem w_c2 : (Jvm.Cond.code ({ cls := "java/lang/Object", name := "<init>", desc := "()V" } : Jvm.MethodName) object_method_1_code (1 : Nat) (Option.none : Option Jvm.ClassFile.FieldType)).before args0 about1 = true := code_word (m := ⟨0, 0⟩) (meth := k0m0) (c := k0c0) (by decide +kernel) rfl rfl rfl (by decide +kernel)
set_option maxRecDepth 65536 in
theorem w_c3 : (Jvm.Cond.code ({ cls := "com/example/piece/piece/store/RecordReader", name := "hasMore", desc := "()Z" } : Jvm.MethodName) prog_46_method_4_code (1 : Nat) (Option.some Jvm.ClassFile.FieldType.boolean)).before args0 about1 = true := code_word (m := ⟨2, 1⟩) (meth := k2m1) (c := k2c1) (by decide +kernel) rfl rfl rfl (by decide +kernel)
set_option maxRecDepth 65536 in
theorem w_c4 : (Jvm.Cond.code ({ cls := "com/example/piece/piece/store/RecordReaderHasMorePinLaw", name := "step", desc := "(Lcom/example/piece/piece/store/RecordReader;[BII)Z" } : Jvm.MethodName) method_2_code (5 : Nat) (Option.some Jvm.ClassFile.FieldType.boolean)).before args0 about1 = true := code_word (m := ⟨1, 1⟩) (meth := k1m1) (c := k1c1) (by decide +kernel) rfl rfl rfl (by decide +kernel)
set_option maxRecDepth 65536 in
theorem w_c5 : (Jvm.Cond.code ({ cls := "com/example/piece/piece/store/RecordReaderHasMorePinLaw", name := "next", desc := "(II)I" } : Jvm.MethodName) method_3_code (2 : Nat) (Option.some Jvm.ClassFile.FieldType.int)).before args0 about1 = true := code_word (m := ⟨1, 2⟩) (meth := k1m2) (c := k1c2) (by decide +kernel) rfl rfl rfl (by decide +kernel)
set_option maxRecDepth 65536 in
theorem w_c6 : (Jvm.Cond.code ({ cls := "com/example/piece/piece/store/RecordReader", name := "getByte", desc := "()I" } : Jvm.MethodName) prog_46_method_5_code (1 : Nat) (Option.some Jvm.ClassFile.FieldType.int)).before args0 about1 = true := code_word (m := ⟨2, 2⟩) (meth := k2m2) (c := k2c2) (by decide +kernel) rfl rfl rfl (by decide +kernel)
set_option maxRecDepth 65536 in
theorem w_c7 : (Jvm.Cond.code ({ cls := "com/example/piece/piece/store/RecordReader", name := "need", desc := "(I)V" } : Jvm.MethodName) prog_46_method_21_code (2 : Nat) (Option.none : Option Jvm.ClassFile.FieldType)).before args0 about1 = true := code_word (m := ⟨2, 3⟩) (meth := k2m3) (c := k2c3) (by decide +kernel) rfl rfl rfl (by decide +kernel)
def codes1 : List Jvm.Cond := [Jvm.Cond.code x code maxLocals ret, Jvm.Cond.code ({ cls := "com/example/piece/piece/store/RecordReader", name := "<init>", desc := "([BII)V" } : Jvm.MethodName) prog_46_method_2_code (4 : Nat) (Option.none : Option Jvm.ClassFile.FieldType), Jvm.Cond.code ({ cls := "java/lang/Object", name := "<init>", desc := "()V" } : Jvm.MethodName) object_method_1_code (1 : Nat) (Option.none : Option Jvm.ClassFile.FieldType), Jvm.Cond.code ({ cls := "com/example/piece/piece/store/RecordReader", name := "hasMore", desc := "()Z" } : Jvm.MethodName) prog_46_method_4_code (1 : Nat) (Option.some Jvm.ClassFile.FieldType.boolean), Jvm.Cond.code ({ cls := "com/example/piece/piece/store/RecordReaderHasMorePinLaw", name := "step", desc := "(Lcom/example/piece/piece/store/RecordReader;[BII)Z" } : Jvm.MethodName) method_2_code (5 : Nat) (Option.some Jvm.ClassFile.FieldType.boolean), Jvm.Cond.code ({ cls := "com/example/piece/piece/store/RecordReaderHasMorePinLaw", name := "next", desc := "(II)I" } : Jvm.MethodName) method_3_code (2 : Nat) (Option.some Jvm.ClassFile.FieldType.int), Jvm.Cond.code ({ cls := "com/example/piece/piece/store/RecordReader", name := "getByte", desc := "()I" } : Jvm.MethodName) prog_46_method_5_code (1 : Nat) (Option.some Jvm.ClassFile.FieldType.int), Jvm.Cond.code ({ cls := "com/example/piece/piece/store/RecordReader", name := "need", desc := "(I)V" } : Jvm.MethodName) prog_46_method_21_code (2 : Nat) (Option.none : Option Jvm.ClassFile.FieldType)]
set_option maxRecDepth 65536 in
theorem codes_eq : words1.filter isCode = codes1 := rfl
theorem w_codes : ∀ c ∈ words1.filter isCode, c.before args0 about1 = true := by
  rw [codes_eq]
  intro c hc
  simp only [codes1, List.mem_cons, List.not_mem_nil, or_false] at hc
  rcases hc with rfl | rfl | rfl | rfl | rfl | rfl | rfl | rfl
  · exact w_c0
  · exact w_c1
  · exact w_c2
  · exact w_c3
  · exact w_c4
  · exact w_c5
  · exact w_c6
  · exact w_c7
set_option maxRecDepth 65536 in
theorem w_t1 : (words1.take 24).all (fun c => isCode c || c.before args0 about1) = true := by decide +kernel
set_option maxRecDepth 65536 in
theorem w_t2 : (words1.drop 24).all (fun c => isCode c || c.before args0 about1) = true := by decide +kernel
theorem w_tables : (allAtoms (Jvm.Cond.code x code maxLocals ret :: tables_1)).before args0 about1 = true := by
  rw [allAtoms_all]
  show words1.all (fun c => c.before args0 about1) = true
  refine all_split ?_ w_codes
  rw [← List.take_append_drop 24 words1, List.all_append, w_t1, w_t2]
  rfl
set_option maxRecDepth 65536 in
theorem w_case : (Jvm.Cond.and given_1 narrow_1).before args0 about1 = true := by decide +kernel
theorem w_applies : (headSpec (Jvm.Cond.code x code maxLocals ret :: tables_1) room_1).applies x e0.platform about1 = true :=
  (Spec.applies_iff w_frames).mpr ⟨w_running, w_runnable, w_alone, w_named, w_hears, w_ripe, w_room, w_tables⟩
theorem atStart : AtStart classFile x code maxLocals ret World_1 tables_1 room_1 Calls_1 rest_1 Pre_1 launch0 p0 e0 about1 theMethod args0 below0 :=
  ⟨lists_1, trivial, launch0.admits_env _ _ _, launch0.least_env, fairChoices_fair.cas, fairChoices_fair.clock, w_frames, w_args, w_heap, w_applies, trivial, trivial, w_case⟩
end start1
theorem witness_1 : WitnessClaimed_1 := ⟨start1.p0, start1.e0, start1.about1, start1.theMethod, start1.args0, start1.below0, start1.atStart⟩
end Jvm.Pilot.@@N@@
