import JvmDerived
import JvmDerived.Pilot.@@N@@Statement
import JvmDerived.Pilot.@@N@@Code
set_option linter.unusedVariables false
set_option linter.unusedSimpArgs false
namespace Jvm.Pilot.@@N@@
open Jvm Jvm.ClassFile Sem Op Lib Jvm.Free Jvm.Stand Jvm.LawKit Jvm.RoadKit Bundle Jvm.Pilot.@@N@@.Jvm.D

def Go (tb : Tables) (e : Env) (below : List Frame) (a : State) (P : Outcome → State → Prop) : Prop := ∃ s₂ o, Steps tb e below a s₂ ∧ s₂.status = .running ∧ Ended s₂ below o ∧ P o s₂
theorem Go.st {tb : Tables} {e : Env} {below : List Frame} {a b : State} {P : Outcome → State → Prop} (h : ∀ t, Steps tb e below b t → Steps tb e below a t) (k : Go tb e below b P) : Go tb e below a P := by
  obtain ⟨s, o, h1, h2⟩ := k
  exact ⟨s, o, h _ h1, h2⟩
theorem Go.tr {tb : Tables} {e : Env} {below : List Frame} {a b : State} {P : Outcome → State → Prop} (h : Steps tb e below a b) (k : Go tb e below b P) : Go tb e below a P := Go.st (fun _ q => h.trans q) k
theorem Go.fin {tb : Tables} {e : Env} {below : List Frame} {a s₂ : State} {o : Outcome} {P : Outcome → State → Prop} (hs : Steps tb e below a s₂) (hr : s₂.status = .running) (he : Ended s₂ below o) (hP : P o s₂) : Go tb e below a P := ⟨_, _, hs, hr, he, hP⟩
theorem exa_ns {Z : State} {h : Heap} {a : Addr} {C : String} (F : Exa Z h a C) : ∃ c : Cell, h[a]? = some c ∧ c.vm.isStatics = false := by
  obtain ⟨c, _, h1, -, -, h4, -⟩ := F
  exact ⟨c, h1, h4⟩
theorem fld_ns {Z : State} {h : Heap} {a : Addr} {C n d : String} {v : Value} (F : Fld Z h a C n d v) : ∃ c : Cell, h[a]? = some c ∧ c.vm.isStatics = false := by
  obtain ⟨c, _, _, _, _, h1, -, -, -, h4, -⟩ := F
  exact ⟨c, h1, h4⟩
theorem arv_ns {Z : State} {h : Heap} {a : Addr} {k : ClassId} {ty : FieldType} {n : Int32} {vs : List Value} {d : Value} (F : Arv Z h a k ty n vs d) : ∃ c : Cell, h[a]? = some c ∧ c.vm.isStatics = false := by
  obtain ⟨c, A, -⟩ := F
  exact ⟨c, A.1, A.plain⟩
theorem sta_keep {Z : State} {h h' : Heap} {C n d : String} {v : Value} {ws : List Addr} (F : Sta Z h C n d v) (K : Keep h h' ws) (q : ∀ x ∈ ws, ∃ c : Cell, h[x]? = some c ∧ c.vm.isStatics = false) : Sta Z h' C n d v := by
  obtain ⟨cf, i, k, f, st, cell, h1, h2, h3, h4, h5, h6, h7⟩ := F
  refine ⟨cf, i, k, f, st, cell, h1, h2, h3, h4, K.2.1 st cell h5 fun z => ?_, h6, h7⟩
  obtain ⟨c, q1, q2⟩ := q st z
  cases q1.symm.trans h5
  rw [q2] at h6
  cases h6
theorem own_selp {s : State} {args : Array Value} {y : MethodName} {n : Nat} (wi : (Cond.instantiable y.cls n).before args s = true) (hp : s.PrivateAt y) (hi : (Cond.instanceMethod y).before args s = true) (hy : y.cls ≠ "java/lang/invoke/MethodHandle" ∧ y.cls ≠ "java/lang/invoke/VarHandle") : (Cond.selects y.cls y y).before args s = true := by
  obtain ⟨c, k, h1, h2, -, h4, -⟩ := Cond.instantiable_spec wi
  simp only [Bool.or_eq_false_iff] at h4
  exact selects_self_of_private h1 h2 h4.1 hp hi hy
theorem own_ne32 {x k : Int32} {a : Int} (ha : k.toInt = a) (h : ¬ x = k) : a ≠ x.toInt := fun e => h (Int32.toInt_inj.mp (e.symm.trans ha.symm))
theorem own_nn (x : Int32) : 0 ≤ (x &&& (2147483647 : Int32)).toInt := (c_andS x 2147483647).2.2 (by decide)
theorem own_rem (x : Int32) (k : Int32) (d : Int) (hd : k.toInt = d) (h0 : 0 < d) : 0 ≤ ((x &&& (2147483647 : Int32)) % k).toInt ∧ ((x &&& (2147483647 : Int32)) % k).toInt < d := by
  have h := own_nn x
  rw [Int32.toInt_mod, hd]
  exact ⟨Int.tmod_nonneg _ h, Int.tmod_lt_of_pos _ h0⟩
theorem own_remb (x : Int32) (k : Int32) (d : Int) (hd : k.toInt = d) (h0 : 0 < d) : ¬ ((x &&& (2147483647 : Int32)) % k) < 0 ∧ ((x &&& (2147483647 : Int32)) % k) < k := by
  obtain ⟨h1, h2⟩ := own_rem x k d hd h0
  rw [Int32.lt_iff_toInt_lt, Int32.lt_iff_toInt_lt, hd]
  exact ⟨Int.not_lt.mpr h1, h2⟩
def own_at (xs : List Int32) (j : Int32) : Int32 := xs.getD j.toNatClampNeg 0
theorem own_atv (xs : List Int32) (j : Int32) : (xs.map Value.int).getD j.toNatClampNeg (.int 0) = .int (own_at xs j) := by
  unfold own_at
  generalize j.toNatClampNeg = n
  induction xs generalizing n with
  | nil => rfl
  | cons a r ih => cases n with
    | zero => rfl
    | succ n => simpa using ih n
theorem own_setl {l : List Value} {k n : Nat} {v : Value} (h : l.length = n) : (l.set k v).length = n := by rw [List.length_set]; exact h
theorem own_setg {l : List Value} {k : Nat} {v d : Value} (h : k < l.length) : (l.set k v).getD k d = v := by simp [List.getD, List.getElem?_set, h]
theorem own_setn {l : List Value} {k i : Nat} {v d : Value} (h : i ≠ k) : (l.set k v).getD i d = l.getD i d := by simp [List.getD, List.getElem?_set, Ne.symm h]
theorem own_lt_of {l : List Value} {n : Nat} {j z : Int32} (h : l.length = n) (q : ¬ j < 0 ∧ j < z) (hz : z.toNatClampNeg = n := by decide) : j.toNatClampNeg < l.length := by
  rw [h, ← hz]
  obtain ⟨q1, q2⟩ := q
  rw [Int32.lt_iff_toInt_lt] at q1 q2
  have : (0 : Int32).toInt = 0 := rfl
  simp only [Int32.toNatClampNeg]
  omega
theorem own_eqi {args : Array Value} {s : State} {t : Term} {k : Int32} (h : (Jvm.Cond.eq t (.int k)).value args s none s [] = some true) : t.eval args s none [] s = some (.int k) := by
  simp only [Cond.value, Term.eval] at h
  cases ht : t.eval args s none [] s with
  | none => simp [ht] at h
  | some x => cases x <;> simp_all
theorem d1_0 : decode prog_84_method_4_code 0 = .ok (.iload_n 0, 1) := by decide +kernel
theorem d1_1 : decode prog_84_method_4_code 1 = .ok (.bipush 48, 2) := by decide +kernel
theorem d1_3 : decode prog_84_method_4_code 3 = .ok (.if_icmp .lt 13, 3) := by decide +kernel
theorem d1_16 : decode prog_84_method_4_code 16 = .ok (.iconst 0, 1) := by decide +kernel
theorem d1_17 : decode prog_84_method_4_code 17 = .ok (.ireturn, 1) := by decide +kernel
theorem d1_6 : decode prog_84_method_4_code 6 = .ok (.iload_n 0, 1) := by decide +kernel
theorem d1_7 : decode prog_84_method_4_code 7 = .ok (.bipush 57, 2) := by decide +kernel
theorem d1_9 : decode prog_84_method_4_code 9 = .ok (.if_icmp .gt 7, 3) := by decide +kernel
theorem d1_12 : decode prog_84_method_4_code 12 = .ok (.iconst 1, 1) := by decide +kernel
theorem d1_13 : decode prog_84_method_4_code 13 = .ok (.goto 4, 3) := by decide +kernel
theorem pn0 : plainName "com/example/forel/forel/Syntax" = true := by first | (simp [plainName, overriddenIn]; done) | decide +kernel
def f1 (p1 : Int32) : Int32 := (if p1 < (48 : Int32) then (0 : Int32) else (if (57 : Int32) < p1 then (0 : Int32) else (1 : Int32)))
def Q1 (Z : State) (p1 : Int32) (h0 : Heap) (n0 : Nat) (v : Option Value) (h : Heap) (L : List Loc) : Prop := v = some (.int (f1 p1)) ∧ Fr n0 L ∧ h = h0
theorem ef1 (m : MethodId) (x0 : Int32) : entryFrame m #[(.int x0)] 1 = mkF m 0 #[.val (.int x0)] [] := by first | (simp [entryFrame, mkF, argsToLocals, Value.category]; done) | rfl
set_option maxRecDepth 65536 in
set_option maxHeartbeats 40000000 in
theorem rm1 (l : Launch) (Z : State) (a0 : Array Value) (hw : ∀ d ∈ tables_1, d.before a0 Z = true) (ws : List Jvm.Cond) (p1 : Int32) (h0 : Heap) (n0 : Nat) (Z0 : n0 ≤ h0.size) :
    MetFree l (⟨"com/example/forel/forel/Syntax", "isDigit", "(I)Z"⟩ : MethodName) (head1 (Jvm.Cond.code (⟨"com/example/forel/forel/Syntax", "isDigit", "(I)Z"⟩ : MethodName) prog_84_method_4_code 1 (some .boolean) :: ws) ({ frames := 0, cells := 0, slots := 0, locals := 0 } : Room)) (fun a U => a = #[(.int p1)] ∧ Z.Warmed39 U.vm ∧ U.heap = h0) (fun _ _ _ _ _ => True) (fun _ U o U' => ∃ v L, o = .returned v ∧ Q1 Z p1 h0 n0 v U'.heap L ∧ FrameEnd U o U' L ({ frames := 0, cells := 0, slots := 0, locals := 0 } : Room).cells ({ frames := 0, cells := 0, slots := 0, locals := 0 } : Room).slots) := by
  refine MetFree.of_bodySF (plainFor_of_name pn0) hisR ?_
  intro p e s m args below meth c s₁ Bd hml0 hP hK
  obtain ⟨rfl, hZ, hh⟩ := hP
  have hx := Bd.exec
  have hby := Bd.bytes
  have hml : c.maxLocals = 1 := hml0
  have hown : s.vm.findClass "com/example/forel/forel/Syntax" = some m.cls := findClass_of_methodNamed Bd.named
  have hnm := (name_of_methodNamed Bd.named Bd.method).1
  have X0 : Stand p l e ({ frames := 0, cells := 0, slots := 0, locals := 0 } : Room) s m #[(.int p1)] below meth c s₁ [] 0 0 := Stand.of_body Bd
  have e0 : s₁.heap = h0 := by rw [← hh, Bd.state]; rfl
  have N0 := Fr.nil n0
  have K0 : Keep h0 h0 [] := Keep.refl h0 _
  refine Go.st (P := fun o U' => ∃ v L, o = .returned v ∧ Q1 Z p1 h0 n0 v U'.heap L ∧ FrameEnd s o U' L ({ frames := 0, cells := 0, slots := 0, locals := 0 } : Room).cells ({ frames := 0, cells := 0, slots := 0, locals := 0 } : Room).slots) (fun t k => castTop (ef1 m p1) k) ?_
  show Go _ _ _ (s₁.setTop (mkF m 0 #[.val (.int p1)] [])) _
  refine Go.st (fun t k => XS.iloadN X0.here hx rfl (hb hby d1_0) rfl k) ?_
  refine Go.st (fun t k => XS.bipush X0.here hx rfl (hb hby d1_1) k) ?_
  by_cases hc1 : p1 < (48 : Int32)
  · refine Go.st (fun t k => XS.icmpYes X0.here hx rfl (pc0 := 3) (pc' := 16) rfl (hb hby d1_3) rfl (tlt hc1).1 (by decide) (by decide) k) ?_
    show Go _ _ _ (s₁.setTop (mkF m 16 #[.val (.int p1)] [])) _
    refine Go.st (fun t k => XS.iconst X0.here hx rfl (hb hby d1_16) k) ?_
    obtain ⟨fs, hr, hrun, hended, hW, hsame⟩ := X0.leave (v := some (.int (0 : Int32))) (fun h => by rw [Bd.returns] at h; cases h)
    refine Go.fin (retN X0 hx (t := .boolean) Bd.returns (by simp) (hb hby d1_17) hr) hrun hended ⟨_, _, rfl, ?_, ⟨_, rfl⟩, hW, hsame.mono (by decide) (by decide)⟩
    show Q1 Z p1 h0 n0 _ s₁.heap _
    rw [e0]
    exact ⟨(by unfold f1; simp only [if_pos hc1]), N0, rfl⟩
  · refine Go.st (fun t k => XS.icmpNo X0.here hx rfl (hb hby d1_3) rfl (flt hc1).1 k) ?_
    show Go _ _ _ (s₁.setTop (mkF m 6 #[.val (.int p1)] [])) _
    refine Go.st (fun t k => XS.iloadN X0.here hx rfl (hb hby d1_6) rfl k) ?_
    refine Go.st (fun t k => XS.bipush X0.here hx rfl (hb hby d1_7) k) ?_
    by_cases hc2 : (57 : Int32) < p1
    · refine Go.st (fun t k => XS.icmpYes X0.here hx rfl (pc0 := 9) (pc' := 16) rfl (hb hby d1_9) rfl (tlt hc2).2.2.1 (by decide) (by decide) k) ?_
      show Go _ _ _ (s₁.setTop (mkF m 16 #[.val (.int p1)] [])) _
      refine Go.st (fun t k => XS.iconst X0.here hx rfl (hb hby d1_16) k) ?_
      obtain ⟨fs, hr, hrun, hended, hW, hsame⟩ := X0.leave (v := some (.int (0 : Int32))) (fun h => by rw [Bd.returns] at h; cases h)
      refine Go.fin (retN X0 hx (t := .boolean) Bd.returns (by simp) (hb hby d1_17) hr) hrun hended ⟨_, _, rfl, ?_, ⟨_, rfl⟩, hW, hsame.mono (by decide) (by decide)⟩
      show Q1 Z p1 h0 n0 _ s₁.heap _
      rw [e0]
      exact ⟨(by unfold f1; simp only [if_neg hc1, if_pos hc2]), N0, rfl⟩
    · refine Go.st (fun t k => XS.icmpNo X0.here hx rfl (hb hby d1_9) rfl (flt hc2).2.2.1 k) ?_
      show Go _ _ _ (s₁.setTop (mkF m 12 #[.val (.int p1)] [])) _
      refine Go.st (fun t k => XS.iconst X0.here hx rfl (hb hby d1_12) k) ?_
      refine Go.st (fun t k => XS.goto X0.here hx rfl (pc0 := 13) (pc' := 17) rfl (hb hby d1_13) (by decide) (by decide) k) ?_
      obtain ⟨fs, hr, hrun, hended, hW, hsame⟩ := X0.leave (v := some (.int (1 : Int32))) (fun h => by rw [Bd.returns] at h; cases h)
      refine Go.fin (retN X0 hx (t := .boolean) Bd.returns (by simp) (hb hby d1_17) hr) hrun hended ⟨_, _, rfl, ?_, ⟨_, rfl⟩, hW, hsame.mono (by decide) (by decide)⟩
      show Q1 Z p1 h0 n0 _ s₁.heap _
      rw [e0]
      exact ⟨(by unfold f1; simp only [if_neg hc1, if_neg hc2]), N0, rfl⟩
theorem d2_0 : decode method_2_code 0 = .ok (.iload_n 0, 1) := by decide +kernel
theorem d2_1 : decode method_2_code 1 = .ok (.bipush 48, 2) := by decide +kernel
theorem d2_3 : decode method_2_code 3 = .ok (.if_icmp .eq 57, 3) := by decide +kernel
theorem d2_60 : decode method_2_code 60 = .ok (.iconst 1, 1) := by decide +kernel
theorem d2_61 : decode method_2_code 61 = .ok (.goto 4, 3) := by decide +kernel
theorem d2_65 : decode method_2_code 65 = .ok (.ireturn, 1) := by decide +kernel
theorem d2_6 : decode method_2_code 6 = .ok (.iload_n 0, 1) := by decide +kernel
theorem d2_7 : decode method_2_code 7 = .ok (.bipush 49, 2) := by decide +kernel
theorem d2_9 : decode method_2_code 9 = .ok (.if_icmp .eq 51, 3) := by decide +kernel
theorem d2_12 : decode method_2_code 12 = .ok (.iload_n 0, 1) := by decide +kernel
theorem d2_13 : decode method_2_code 13 = .ok (.bipush 50, 2) := by decide +kernel
theorem d2_15 : decode method_2_code 15 = .ok (.if_icmp .eq 45, 3) := by decide +kernel
theorem d2_18 : decode method_2_code 18 = .ok (.iload_n 0, 1) := by decide +kernel
theorem d2_19 : decode method_2_code 19 = .ok (.bipush 51, 2) := by decide +kernel
theorem d2_21 : decode method_2_code 21 = .ok (.if_icmp .eq 39, 3) := by decide +kernel
theorem d2_24 : decode method_2_code 24 = .ok (.iload_n 0, 1) := by decide +kernel
theorem d2_25 : decode method_2_code 25 = .ok (.bipush 52, 2) := by decide +kernel
theorem d2_27 : decode method_2_code 27 = .ok (.if_icmp .eq 33, 3) := by decide +kernel
theorem d2_30 : decode method_2_code 30 = .ok (.iload_n 0, 1) := by decide +kernel
theorem d2_31 : decode method_2_code 31 = .ok (.bipush 53, 2) := by decide +kernel
theorem d2_33 : decode method_2_code 33 = .ok (.if_icmp .eq 27, 3) := by decide +kernel
theorem d2_36 : decode method_2_code 36 = .ok (.iload_n 0, 1) := by decide +kernel
theorem d2_37 : decode method_2_code 37 = .ok (.bipush 54, 2) := by decide +kernel
theorem d2_39 : decode method_2_code 39 = .ok (.if_icmp .eq 21, 3) := by decide +kernel
theorem d2_42 : decode method_2_code 42 = .ok (.iload_n 0, 1) := by decide +kernel
theorem d2_43 : decode method_2_code 43 = .ok (.bipush 55, 2) := by decide +kernel
theorem d2_45 : decode method_2_code 45 = .ok (.if_icmp .eq 15, 3) := by decide +kernel
theorem d2_48 : decode method_2_code 48 = .ok (.iload_n 0, 1) := by decide +kernel
theorem d2_49 : decode method_2_code 49 = .ok (.bipush 56, 2) := by decide +kernel
theorem d2_51 : decode method_2_code 51 = .ok (.if_icmp .eq 9, 3) := by decide +kernel
theorem d2_54 : decode method_2_code 54 = .ok (.iload_n 0, 1) := by decide +kernel
theorem d2_55 : decode method_2_code 55 = .ok (.bipush 57, 2) := by decide +kernel
theorem d2_57 : decode method_2_code 57 = .ok (.if_icmp .ne 7, 3) := by decide +kernel
theorem d2_64 : decode method_2_code 64 = .ok (.iconst 0, 1) := by decide +kernel
theorem pn1 : plainName "com/example/forel/forel/SyntaxIsDigitPinLaw" = true := by first | (simp [plainName, overriddenIn]; done) | decide +kernel
def f2 (p1 : Int32) : Int32 := (if p1 = (48 : Int32) then (1 : Int32) else (if p1 = (49 : Int32) then (1 : Int32) else (if p1 = (50 : Int32) then (1 : Int32) else (if p1 = (51 : Int32) then (1 : Int32) else (if p1 = (52 : Int32) then (1 : Int32) else (if p1 = (53 : Int32) then (1 : Int32) else (if p1 = (54 : Int32) then (1 : Int32) else (if p1 = (55 : Int32) then (1 : Int32) else (if p1 = (56 : Int32) then (1 : Int32) else (if p1 = (57 : Int32) then (1 : Int32) else (0 : Int32)))))))))))
def Q2 (Z : State) (p1 : Int32) (h0 : Heap) (n0 : Nat) (v : Option Value) (h : Heap) (L : List Loc) : Prop := v = some (.int (f2 p1)) ∧ Fr n0 L ∧ h = h0
theorem ef2 (m : MethodId) (x0 : Int32) : entryFrame m #[(.int x0)] 1 = mkF m 0 #[.val (.int x0)] [] := by first | (simp [entryFrame, mkF, argsToLocals, Value.category]; done) | rfl
set_option maxRecDepth 65536 in
set_option maxHeartbeats 40000000 in
theorem rm2 (l : Launch) (Z : State) (a0 : Array Value) (hw : ∀ d ∈ tables_1, d.before a0 Z = true) (ws : List Jvm.Cond) (p1 : Int32) (h0 : Heap) (n0 : Nat) (Z0 : n0 ≤ h0.size) :
    MetFree l (⟨"com/example/forel/forel/SyntaxIsDigitPinLaw", "ref", "(I)Z"⟩ : MethodName) (head1 (Jvm.Cond.code (⟨"com/example/forel/forel/SyntaxIsDigitPinLaw", "ref", "(I)Z"⟩ : MethodName) method_2_code 1 (some .boolean) :: ws) ({ frames := 0, cells := 0, slots := 0, locals := 0 } : Room)) (fun a U => a = #[(.int p1)] ∧ Z.Warmed39 U.vm ∧ U.heap = h0) (fun _ _ _ _ _ => True) (fun _ U o U' => ∃ v L, o = .returned v ∧ Q2 Z p1 h0 n0 v U'.heap L ∧ FrameEnd U o U' L ({ frames := 0, cells := 0, slots := 0, locals := 0 } : Room).cells ({ frames := 0, cells := 0, slots := 0, locals := 0 } : Room).slots) := by
  refine MetFree.of_bodySF (plainFor_of_name pn1) hisR ?_
  intro p e s m args below meth c s₁ Bd hml0 hP hK
  obtain ⟨rfl, hZ, hh⟩ := hP
  have hx := Bd.exec
  have hby := Bd.bytes
  have hml : c.maxLocals = 1 := hml0
  have hown : s.vm.findClass "com/example/forel/forel/SyntaxIsDigitPinLaw" = some m.cls := findClass_of_methodNamed Bd.named
  have hnm := (name_of_methodNamed Bd.named Bd.method).1
  have X0 : Stand p l e ({ frames := 0, cells := 0, slots := 0, locals := 0 } : Room) s m #[(.int p1)] below meth c s₁ [] 0 0 := Stand.of_body Bd
  have e0 : s₁.heap = h0 := by rw [← hh, Bd.state]; rfl
  have N0 := Fr.nil n0
  have K0 : Keep h0 h0 [] := Keep.refl h0 _
  refine Go.st (P := fun o U' => ∃ v L, o = .returned v ∧ Q2 Z p1 h0 n0 v U'.heap L ∧ FrameEnd s o U' L ({ frames := 0, cells := 0, slots := 0, locals := 0 } : Room).cells ({ frames := 0, cells := 0, slots := 0, locals := 0 } : Room).slots) (fun t k => castTop (ef2 m p1) k) ?_
  show Go _ _ _ (s₁.setTop (mkF m 0 #[.val (.int p1)] [])) _
  refine Go.st (fun t k => XS.iloadN X0.here hx rfl (hb hby d2_0) rfl k) ?_
  refine Go.st (fun t k => XS.bipush X0.here hx rfl (hb hby d2_1) k) ?_
  by_cases hc1 : p1 = (48 : Int32)
  · refine Go.st (fun t k => XS.icmpYes X0.here hx rfl (pc0 := 3) (pc' := 60) rfl (hb hby d2_3) rfl (teq hc1).1 (by decide) (by decide) k) ?_
    show Go _ _ _ (s₁.setTop (mkF m 60 #[.val (.int p1)] [])) _
    refine Go.st (fun t k => XS.iconst X0.here hx rfl (hb hby d2_60) k) ?_
    refine Go.st (fun t k => XS.goto X0.here hx rfl (pc0 := 61) (pc' := 65) rfl (hb hby d2_61) (by decide) (by decide) k) ?_
    obtain ⟨fs, hr, hrun, hended, hW, hsame⟩ := X0.leave (v := some (.int (1 : Int32))) (fun h => by rw [Bd.returns] at h; cases h)
    refine Go.fin (retN X0 hx (t := .boolean) Bd.returns (by simp) (hb hby d2_65) hr) hrun hended ⟨_, _, rfl, ?_, ⟨_, rfl⟩, hW, hsame.mono (by decide) (by decide)⟩
    show Q2 Z p1 h0 n0 _ s₁.heap _
    rw [e0]
    exact ⟨(by unfold f2; simp only [if_pos hc1]), N0, rfl⟩
  · refine Go.st (fun t k => XS.icmpNo X0.here hx rfl (hb hby d2_3) rfl (feq hc1).1 k) ?_
    show Go _ _ _ (s₁.setTop (mkF m 6 #[.val (.int p1)] [])) _
    refine Go.st (fun t k => XS.iloadN X0.here hx rfl (hb hby d2_6) rfl k) ?_
    refine Go.st (fun t k => XS.bipush X0.here hx rfl (hb hby d2_7) k) ?_
    by_cases hc2 : p1 = (49 : Int32)
    · refine Go.st (fun t k => XS.icmpYes X0.here hx rfl (pc0 := 9) (pc' := 60) rfl (hb hby d2_9) rfl (teq hc2).1 (by decide) (by decide) k) ?_
      show Go _ _ _ (s₁.setTop (mkF m 60 #[.val (.int p1)] [])) _
      refine Go.st (fun t k => XS.iconst X0.here hx rfl (hb hby d2_60) k) ?_
      refine Go.st (fun t k => XS.goto X0.here hx rfl (pc0 := 61) (pc' := 65) rfl (hb hby d2_61) (by decide) (by decide) k) ?_
      obtain ⟨fs, hr, hrun, hended, hW, hsame⟩ := X0.leave (v := some (.int (1 : Int32))) (fun h => by rw [Bd.returns] at h; cases h)
      refine Go.fin (retN X0 hx (t := .boolean) Bd.returns (by simp) (hb hby d2_65) hr) hrun hended ⟨_, _, rfl, ?_, ⟨_, rfl⟩, hW, hsame.mono (by decide) (by decide)⟩
      show Q2 Z p1 h0 n0 _ s₁.heap _
      rw [e0]
      exact ⟨(by unfold f2; simp only [if_neg hc1, if_pos hc2]), N0, rfl⟩
    · refine Go.st (fun t k => XS.icmpNo X0.here hx rfl (hb hby d2_9) rfl (feq hc2).1 k) ?_
      show Go _ _ _ (s₁.setTop (mkF m 12 #[.val (.int p1)] [])) _
      refine Go.st (fun t k => XS.iloadN X0.here hx rfl (hb hby d2_12) rfl k) ?_
      refine Go.st (fun t k => XS.bipush X0.here hx rfl (hb hby d2_13) k) ?_
      by_cases hc3 : p1 = (50 : Int32)
      · refine Go.st (fun t k => XS.icmpYes X0.here hx rfl (pc0 := 15) (pc' := 60) rfl (hb hby d2_15) rfl (teq hc3).1 (by decide) (by decide) k) ?_
        show Go _ _ _ (s₁.setTop (mkF m 60 #[.val (.int p1)] [])) _
        refine Go.st (fun t k => XS.iconst X0.here hx rfl (hb hby d2_60) k) ?_
        refine Go.st (fun t k => XS.goto X0.here hx rfl (pc0 := 61) (pc' := 65) rfl (hb hby d2_61) (by decide) (by decide) k) ?_
        obtain ⟨fs, hr, hrun, hended, hW, hsame⟩ := X0.leave (v := some (.int (1 : Int32))) (fun h => by rw [Bd.returns] at h; cases h)
        refine Go.fin (retN X0 hx (t := .boolean) Bd.returns (by simp) (hb hby d2_65) hr) hrun hended ⟨_, _, rfl, ?_, ⟨_, rfl⟩, hW, hsame.mono (by decide) (by decide)⟩
        show Q2 Z p1 h0 n0 _ s₁.heap _
        rw [e0]
        exact ⟨(by unfold f2; simp only [if_neg hc1, if_neg hc2, if_pos hc3]), N0, rfl⟩
      · refine Go.st (fun t k => XS.icmpNo X0.here hx rfl (hb hby d2_15) rfl (feq hc3).1 k) ?_
        show Go _ _ _ (s₁.setTop (mkF m 18 #[.val (.int p1)] [])) _
        refine Go.st (fun t k => XS.iloadN X0.here hx rfl (hb hby d2_18) rfl k) ?_
        refine Go.st (fun t k => XS.bipush X0.here hx rfl (hb hby d2_19) k) ?_
        by_cases hc4 : p1 = (51 : Int32)
        · refine Go.st (fun t k => XS.icmpYes X0.here hx rfl (pc0 := 21) (pc' := 60) rfl (hb hby d2_21) rfl (teq hc4).1 (by decide) (by decide) k) ?_
          show Go _ _ _ (s₁.setTop (mkF m 60 #[.val (.int p1)] [])) _
          refine Go.st (fun t k => XS.iconst X0.here hx rfl (hb hby d2_60) k) ?_
          refine Go.st (fun t k => XS.goto X0.here hx rfl (pc0 := 61) (pc' := 65) rfl (hb hby d2_61) (by decide) (by decide) k) ?_
          obtain ⟨fs, hr, hrun, hended, hW, hsame⟩ := X0.leave (v := some (.int (1 : Int32))) (fun h => by rw [Bd.returns] at h; cases h)
          refine Go.fin (retN X0 hx (t := .boolean) Bd.returns (by simp) (hb hby d2_65) hr) hrun hended ⟨_, _, rfl, ?_, ⟨_, rfl⟩, hW, hsame.mono (by decide) (by decide)⟩
          show Q2 Z p1 h0 n0 _ s₁.heap _
          rw [e0]
          exact ⟨(by unfold f2; simp only [if_neg hc1, if_neg hc2, if_neg hc3, if_pos hc4]), N0, rfl⟩
        · refine Go.st (fun t k => XS.icmpNo X0.here hx rfl (hb hby d2_21) rfl (feq hc4).1 k) ?_
          show Go _ _ _ (s₁.setTop (mkF m 24 #[.val (.int p1)] [])) _
          refine Go.st (fun t k => XS.iloadN X0.here hx rfl (hb hby d2_24) rfl k) ?_
          refine Go.st (fun t k => XS.bipush X0.here hx rfl (hb hby d2_25) k) ?_
          by_cases hc5 : p1 = (52 : Int32)
          · refine Go.st (fun t k => XS.icmpYes X0.here hx rfl (pc0 := 27) (pc' := 60) rfl (hb hby d2_27) rfl (teq hc5).1 (by decide) (by decide) k) ?_
            show Go _ _ _ (s₁.setTop (mkF m 60 #[.val (.int p1)] [])) _
            refine Go.st (fun t k => XS.iconst X0.here hx rfl (hb hby d2_60) k) ?_
            refine Go.st (fun t k => XS.goto X0.here hx rfl (pc0 := 61) (pc' := 65) rfl (hb hby d2_61) (by decide) (by decide) k) ?_
            obtain ⟨fs, hr, hrun, hended, hW, hsame⟩ := X0.leave (v := some (.int (1 : Int32))) (fun h => by rw [Bd.returns] at h; cases h)
            refine Go.fin (retN X0 hx (t := .boolean) Bd.returns (by simp) (hb hby d2_65) hr) hrun hended ⟨_, _, rfl, ?_, ⟨_, rfl⟩, hW, hsame.mono (by decide) (by decide)⟩
            show Q2 Z p1 h0 n0 _ s₁.heap _
            rw [e0]
            exact ⟨(by unfold f2; simp only [if_neg hc1, if_neg hc2, if_neg hc3, if_neg hc4, if_pos hc5]), N0, rfl⟩
          · refine Go.st (fun t k => XS.icmpNo X0.here hx rfl (hb hby d2_27) rfl (feq hc5).1 k) ?_
            show Go _ _ _ (s₁.setTop (mkF m 30 #[.val (.int p1)] [])) _
            refine Go.st (fun t k => XS.iloadN X0.here hx rfl (hb hby d2_30) rfl k) ?_
            refine Go.st (fun t k => XS.bipush X0.here hx rfl (hb hby d2_31) k) ?_
            by_cases hc6 : p1 = (53 : Int32)
            · refine Go.st (fun t k => XS.icmpYes X0.here hx rfl (pc0 := 33) (pc' := 60) rfl (hb hby d2_33) rfl (teq hc6).1 (by decide) (by decide) k) ?_
              show Go _ _ _ (s₁.setTop (mkF m 60 #[.val (.int p1)] [])) _
              refine Go.st (fun t k => XS.iconst X0.here hx rfl (hb hby d2_60) k) ?_
              refine Go.st (fun t k => XS.goto X0.here hx rfl (pc0 := 61) (pc' := 65) rfl (hb hby d2_61) (by decide) (by decide) k) ?_
              obtain ⟨fs, hr, hrun, hended, hW, hsame⟩ := X0.leave (v := some (.int (1 : Int32))) (fun h => by rw [Bd.returns] at h; cases h)
              refine Go.fin (retN X0 hx (t := .boolean) Bd.returns (by simp) (hb hby d2_65) hr) hrun hended ⟨_, _, rfl, ?_, ⟨_, rfl⟩, hW, hsame.mono (by decide) (by decide)⟩
              show Q2 Z p1 h0 n0 _ s₁.heap _
              rw [e0]
              exact ⟨(by unfold f2; simp only [if_neg hc1, if_neg hc2, if_neg hc3, if_neg hc4, if_neg hc5, if_pos hc6]), N0, rfl⟩
            · refine Go.st (fun t k => XS.icmpNo X0.here hx rfl (hb hby d2_33) rfl (feq hc6).1 k) ?_
              show Go _ _ _ (s₁.setTop (mkF m 36 #[.val (.int p1)] [])) _
              refine Go.st (fun t k => XS.iloadN X0.here hx rfl (hb hby d2_36) rfl k) ?_
              refine Go.st (fun t k => XS.bipush X0.here hx rfl (hb hby d2_37) k) ?_
              by_cases hc7 : p1 = (54 : Int32)
              · refine Go.st (fun t k => XS.icmpYes X0.here hx rfl (pc0 := 39) (pc' := 60) rfl (hb hby d2_39) rfl (teq hc7).1 (by decide) (by decide) k) ?_
                show Go _ _ _ (s₁.setTop (mkF m 60 #[.val (.int p1)] [])) _
                refine Go.st (fun t k => XS.iconst X0.here hx rfl (hb hby d2_60) k) ?_
                refine Go.st (fun t k => XS.goto X0.here hx rfl (pc0 := 61) (pc' := 65) rfl (hb hby d2_61) (by decide) (by decide) k) ?_
                obtain ⟨fs, hr, hrun, hended, hW, hsame⟩ := X0.leave (v := some (.int (1 : Int32))) (fun h => by rw [Bd.returns] at h; cases h)
                refine Go.fin (retN X0 hx (t := .boolean) Bd.returns (by simp) (hb hby d2_65) hr) hrun hended ⟨_, _, rfl, ?_, ⟨_, rfl⟩, hW, hsame.mono (by decide) (by decide)⟩
                show Q2 Z p1 h0 n0 _ s₁.heap _
                rw [e0]
                exact ⟨(by unfold f2; simp only [if_neg hc1, if_neg hc2, if_neg hc3, if_neg hc4, if_neg hc5, if_neg hc6, if_pos hc7]), N0, rfl⟩
              · refine Go.st (fun t k => XS.icmpNo X0.here hx rfl (hb hby d2_39) rfl (feq hc7).1 k) ?_
                show Go _ _ _ (s₁.setTop (mkF m 42 #[.val (.int p1)] [])) _
                refine Go.st (fun t k => XS.iloadN X0.here hx rfl (hb hby d2_42) rfl k) ?_
                refine Go.st (fun t k => XS.bipush X0.here hx rfl (hb hby d2_43) k) ?_
                by_cases hc8 : p1 = (55 : Int32)
                · refine Go.st (fun t k => XS.icmpYes X0.here hx rfl (pc0 := 45) (pc' := 60) rfl (hb hby d2_45) rfl (teq hc8).1 (by decide) (by decide) k) ?_
                  show Go _ _ _ (s₁.setTop (mkF m 60 #[.val (.int p1)] [])) _
                  refine Go.st (fun t k => XS.iconst X0.here hx rfl (hb hby d2_60) k) ?_
                  refine Go.st (fun t k => XS.goto X0.here hx rfl (pc0 := 61) (pc' := 65) rfl (hb hby d2_61) (by decide) (by decide) k) ?_
                  obtain ⟨fs, hr, hrun, hended, hW, hsame⟩ := X0.leave (v := some (.int (1 : Int32))) (fun h => by rw [Bd.returns] at h; cases h)
                  refine Go.fin (retN X0 hx (t := .boolean) Bd.returns (by simp) (hb hby d2_65) hr) hrun hended ⟨_, _, rfl, ?_, ⟨_, rfl⟩, hW, hsame.mono (by decide) (by decide)⟩
                  show Q2 Z p1 h0 n0 _ s₁.heap _
                  rw [e0]
                  exact ⟨(by unfold f2; simp only [if_neg hc1, if_neg hc2, if_neg hc3, if_neg hc4, if_neg hc5, if_neg hc6, if_neg hc7, if_pos hc8]), N0, rfl⟩
                · refine Go.st (fun t k => XS.icmpNo X0.here hx rfl (hb hby d2_45) rfl (feq hc8).1 k) ?_
                  show Go _ _ _ (s₁.setTop (mkF m 48 #[.val (.int p1)] [])) _
                  refine Go.st (fun t k => XS.iloadN X0.here hx rfl (hb hby d2_48) rfl k) ?_
                  refine Go.st (fun t k => XS.bipush X0.here hx rfl (hb hby d2_49) k) ?_
                  by_cases hc9 : p1 = (56 : Int32)
                  · refine Go.st (fun t k => XS.icmpYes X0.here hx rfl (pc0 := 51) (pc' := 60) rfl (hb hby d2_51) rfl (teq hc9).1 (by decide) (by decide) k) ?_
                    show Go _ _ _ (s₁.setTop (mkF m 60 #[.val (.int p1)] [])) _
                    refine Go.st (fun t k => XS.iconst X0.here hx rfl (hb hby d2_60) k) ?_
                    refine Go.st (fun t k => XS.goto X0.here hx rfl (pc0 := 61) (pc' := 65) rfl (hb hby d2_61) (by decide) (by decide) k) ?_
                    obtain ⟨fs, hr, hrun, hended, hW, hsame⟩ := X0.leave (v := some (.int (1 : Int32))) (fun h => by rw [Bd.returns] at h; cases h)
                    refine Go.fin (retN X0 hx (t := .boolean) Bd.returns (by simp) (hb hby d2_65) hr) hrun hended ⟨_, _, rfl, ?_, ⟨_, rfl⟩, hW, hsame.mono (by decide) (by decide)⟩
                    show Q2 Z p1 h0 n0 _ s₁.heap _
                    rw [e0]
                    exact ⟨(by unfold f2; simp only [if_neg hc1, if_neg hc2, if_neg hc3, if_neg hc4, if_neg hc5, if_neg hc6, if_neg hc7, if_neg hc8, if_pos hc9]), N0, rfl⟩
                  · refine Go.st (fun t k => XS.icmpNo X0.here hx rfl (hb hby d2_51) rfl (feq hc9).1 k) ?_
                    show Go _ _ _ (s₁.setTop (mkF m 54 #[.val (.int p1)] [])) _
                    refine Go.st (fun t k => XS.iloadN X0.here hx rfl (hb hby d2_54) rfl k) ?_
                    refine Go.st (fun t k => XS.bipush X0.here hx rfl (hb hby d2_55) k) ?_
                    by_cases hc10 : p1 = (57 : Int32)
                    · refine Go.st (fun t k => XS.icmpNo X0.here hx rfl (hb hby d2_57) rfl (teq hc10).2 k) ?_
                      show Go _ _ _ (s₁.setTop (mkF m 60 #[.val (.int p1)] [])) _
                      refine Go.st (fun t k => XS.iconst X0.here hx rfl (hb hby d2_60) k) ?_
                      refine Go.st (fun t k => XS.goto X0.here hx rfl (pc0 := 61) (pc' := 65) rfl (hb hby d2_61) (by decide) (by decide) k) ?_
                      obtain ⟨fs, hr, hrun, hended, hW, hsame⟩ := X0.leave (v := some (.int (1 : Int32))) (fun h => by rw [Bd.returns] at h; cases h)
                      refine Go.fin (retN X0 hx (t := .boolean) Bd.returns (by simp) (hb hby d2_65) hr) hrun hended ⟨_, _, rfl, ?_, ⟨_, rfl⟩, hW, hsame.mono (by decide) (by decide)⟩
                      show Q2 Z p1 h0 n0 _ s₁.heap _
                      rw [e0]
                      exact ⟨(by unfold f2; simp only [if_neg hc1, if_neg hc2, if_neg hc3, if_neg hc4, if_neg hc5, if_neg hc6, if_neg hc7, if_neg hc8, if_neg hc9, if_pos hc10]), N0, rfl⟩
                    · refine Go.st (fun t k => XS.icmpYes X0.here hx rfl (pc0 := 57) (pc' := 64) rfl (hb hby d2_57) rfl (feq hc10).2 (by decide) (by decide) k) ?_
                      show Go _ _ _ (s₁.setTop (mkF m 64 #[.val (.int p1)] [])) _
                      refine Go.st (fun t k => XS.iconst X0.here hx rfl (hb hby d2_64) k) ?_
                      obtain ⟨fs, hr, hrun, hended, hW, hsame⟩ := X0.leave (v := some (.int (0 : Int32))) (fun h => by rw [Bd.returns] at h; cases h)
                      refine Go.fin (retN X0 hx (t := .boolean) Bd.returns (by simp) (hb hby d2_65) hr) hrun hended ⟨_, _, rfl, ?_, ⟨_, rfl⟩, hW, hsame.mono (by decide) (by decide)⟩
                      show Q2 Z p1 h0 n0 _ s₁.heap _
                      rw [e0]
                      exact ⟨(by unfold f2; simp only [if_neg hc1, if_neg hc2, if_neg hc3, if_neg hc4, if_neg hc5, if_neg hc6, if_neg hc7, if_neg hc8, if_neg hc9, if_neg hc10]), N0, rfl⟩
theorem wd0 {Z : State} {a0 : Array Value} (hw : ∀ d ∈ tables_1, d.before a0 Z = true) : (Jvm.Cond.constant "com/example/forel/forel/SyntaxIsDigitPinLaw" (7 : Nat) (2147483647 : Int32)).before a0 Z = true := hw _ (List.mem_of_getElem? (i := 0) rfl)
theorem wd1 {Z : State} {a0 : Array Value} (hw : ∀ d ∈ tables_1, d.before a0 Z = true) : (Jvm.Cond.methodLink "com/example/forel/forel/SyntaxIsDigitPinLaw" (8 : Nat) ({ cls := "com/example/forel/forel/Syntax", name := "isDigit", desc := "(I)Z" } : Jvm.MethodName)).before a0 Z = true := hw _ (List.mem_of_getElem? (i := 1) rfl)
theorem wd4 {Z : State} {a0 : Array Value} (hw : ∀ d ∈ tables_1, d.before a0 Z = true) : (Jvm.Cond.code ({ cls := "com/example/forel/forel/Syntax", name := "isDigit", desc := "(I)Z" } : Jvm.MethodName) prog_84_method_4_code (1 : Nat) (Option.some Jvm.ClassFile.FieldType.boolean)).before a0 Z = true := hw _ (List.mem_of_getElem? (i := 4) rfl)
theorem wd3 {Z : State} {a0 : Array Value} (hw : ∀ d ∈ tables_1, d.before a0 Z = true) : (Jvm.Cond.initialized "com/example/forel/forel/Syntax").before a0 Z = true := hw _ (List.mem_of_getElem? (i := 3) rfl)
theorem pd0 : parseMethodDescriptor "(I)Z" = some ⟨[.int], some .boolean⟩ := by decide +kernel
theorem wd2 {Z : State} {a0 : Array Value} (hw : ∀ d ∈ tables_1, d.before a0 Z = true) : (Jvm.Cond.static ({ cls := "com/example/forel/forel/Syntax", name := "isDigit", desc := "(I)Z" } : Jvm.MethodName)).before a0 Z = true := hw _ (List.mem_of_getElem? (i := 2) rfl)
theorem wd5 {Z : State} {a0 : Array Value} (hw : ∀ d ∈ tables_1, d.before a0 Z = true) : (Jvm.Cond.methodLink "com/example/forel/forel/SyntaxIsDigitPinLaw" (14 : Nat) ({ cls := "com/example/forel/forel/SyntaxIsDigitPinLaw", name := "ref", desc := "(I)Z" } : Jvm.MethodName)).before a0 Z = true := hw _ (List.mem_of_getElem? (i := 5) rfl)
theorem wd8 {Z : State} {a0 : Array Value} (hw : ∀ d ∈ tables_1, d.before a0 Z = true) : (Jvm.Cond.code ({ cls := "com/example/forel/forel/SyntaxIsDigitPinLaw", name := "ref", desc := "(I)Z" } : Jvm.MethodName) method_2_code (1 : Nat) (Option.some Jvm.ClassFile.FieldType.boolean)).before a0 Z = true := hw _ (List.mem_of_getElem? (i := 8) rfl)
theorem wd7 {Z : State} {a0 : Array Value} (hw : ∀ d ∈ tables_1, d.before a0 Z = true) : (Jvm.Cond.initialized "com/example/forel/forel/SyntaxIsDigitPinLaw").before a0 Z = true := hw _ (List.mem_of_getElem? (i := 7) rfl)
theorem wd6 {Z : State} {a0 : Array Value} (hw : ∀ d ∈ tables_1, d.before a0 Z = true) : (Jvm.Cond.static ({ cls := "com/example/forel/forel/SyntaxIsDigitPinLaw", name := "ref", desc := "(I)Z" } : Jvm.MethodName)).before a0 Z = true := hw _ (List.mem_of_getElem? (i := 6) rfl)
def f0 (p1 : Int32) (p2 : Int32) : Int32 := (if (f1 p1) = (f2 p1) then (if (f1 ((47 : Int32) + ((p2 &&& (2147483647 : Int32)) % (12 : Int32)))) = (f2 ((47 : Int32) + ((p2 &&& (2147483647 : Int32)) % (12 : Int32)))) then (1 : Int32) else (0 : Int32)) else (0 : Int32))
def Q0 (Z : State) (p1 : Int32) (p2 : Int32) (h0 : Heap) (n0 : Nat) (v : Option Value) (h : Heap) (L : List Loc) : Prop := v = some (.int (f0 p1 p2)) ∧ Fr n0 L
theorem ef0 (m : MethodId) (x0 : Int32) (x1 : Int32) : entryFrame m #[(.int x0), (.int x1)] maxLocals = mkF m 0 #[.val (.int x0), .val (.int x1), .unset] [] := by first | (simp [entryFrame, mkF, argsToLocals, Value.category, maxLocals]; done) | rfl
set_option maxRecDepth 65536 in
set_option maxHeartbeats 40000000 in
theorem rm0 (l : Launch) (Z : State) (a0 : Array Value) (hw : ∀ d ∈ tables_1, d.before a0 Z = true) (ws : List Jvm.Cond) (p1 : Int32) (p2 : Int32) (h0 : Heap) (n0 : Nat) (Z0 : n0 ≤ h0.size) :
    MetFree l x (head1 (Jvm.Cond.code x code maxLocals ret :: ws) room_1) (fun a U => a = #[(.int p1), (.int p2)] ∧ Z.Warmed39 U.vm ∧ U.heap = h0) (fun _ _ _ _ _ => True) (fun _ U o U' => ∃ v L, o = .returned v ∧ Q0 Z p1 p2 h0 n0 v U'.heap L ∧ FrameEnd U o U' L 0 0) := by
  refine MetFree.of_bodySF (plainFor_of_name pn1) hisR ?_
  intro p e s m args below meth c s₁ Bd hml0 hP hK
  obtain ⟨rfl, hZ, hh⟩ := hP
  have hx := Bd.exec
  have hby := Bd.bytes
  have hml : c.maxLocals = 3 := hml0
  have hown : s.vm.findClass "com/example/forel/forel/SyntaxIsDigitPinLaw" = some m.cls := findClass_of_methodNamed Bd.named
  have hnm := (name_of_methodNamed Bd.named Bd.method).1
  have X0 : Stand p l e room_1 s m #[(.int p1), (.int p2)] below meth c s₁ [] 0 0 := Stand.of_body Bd
  have e0 : s₁.heap = h0 := by rw [← hh, Bd.state]; rfl
  have N0 := Fr.nil n0
  have K0 : Keep h0 h0 [] := Keep.refl h0 _
  refine Go.st (P := fun o U' => ∃ v L, o = .returned v ∧ Q0 Z p1 p2 h0 n0 v U'.heap L ∧ FrameEnd s o U' L 0 0) (fun t k => castTop (ef0 m p1 p2) k) ?_
  show Go _ _ _ (s₁.setTop (mkF m 0 #[.val (.int p1), .val (.int p2), .unset] [])) _
  refine Go.st (fun t k => XS.bipush X0.here hx rfl (hb hby at_0) k) ?_
  refine Go.st (fun t k => XS.iloadN X0.here hx rfl (hb hby at_2) rfl k) ?_
  refine Go.st (fun t k => X0.ldcInt hx hown (mvT hZ (wd0 hw)) (g := (mkF m 3 #[.val (.int p1), .val (.int p2), .unset] [(.int p2), (.int 47)])) rfl (hb hby at_3) _ k) ?_
  show Go _ _ _ (s₁.setTop (mkF m 5 #[.val (.int p1), .val (.int p2), .unset] [(.int 2147483647), (.int p2), (.int 47)])) _
  refine Go.st (fun t k => XS.iand X0.here hx rfl (hb hby at_5) rfl k) ?_
  show Go _ _ _ (s₁.setTop (mkF m 6 #[.val (.int p1), .val (.int p2), .unset] [(.int (p2 &&& (2147483647 : Int32))), (.int 47)])) _
  refine Go.st (fun t k => XS.bipush X0.here hx rfl (hb hby at_6) k) ?_
  refine Go.st (fun t k => iremM X0 hx rfl (hb hby at_8) rfl (by decide) k) ?_
  show Go _ _ _ (s₁.setTop (mkF m 9 #[.val (.int p1), .val (.int p2), .unset] [(.int ((p2 &&& (2147483647 : Int32)) % (12 : Int32))), (.int 47)])) _
  refine Go.st (fun t k => XS.iadd X0.here hx rfl (hb hby at_9) rfl k) ?_
  show Go _ _ _ (s₁.setTop (mkF m 10 #[.val (.int p1), .val (.int p2), .unset] [(.int ((47 : Int32) + ((p2 &&& (2147483647 : Int32)) % (12 : Int32))))])) _
  refine Go.st (fun t k => XS.istoreN X0.here hx rfl (hb hby at_10) rfl (l' := #[.val (.int p1), .val (.int p2), .val (.int ((47 : Int32) + ((p2 &&& (2147483647 : Int32)) % (12 : Int32))))]) rfl k) ?_
  refine Go.st (fun t k => XS.iloadN X0.here hx rfl (hb hby at_11) rfl k) ?_
  obtain ⟨_, _, ⟨T1, L1, k1, n1⟩, -, X1, ⟨Lc1, hQ1, l1, y1, z1⟩, st1⟩ := Jvm.LawKit.callS X0 hx (y := (⟨"com/example/forel/forel/Syntax", "isDigit", "(I)Z"⟩ : MethodName)) hown (mvT hZ (wd1 hw)) (mvT hZ (wd2 hw)) (mvT hZ (wd3 hw)) (mvT hZ (wd4 hw)) (by decide) (backOf (W := 0) (rm1 l Z a0 hw [] p1 h0 n0 Z0) hZ (wd4 hw) (wd3 hw) (by decide) (by decide)) (g := (mkF m 12 #[.val (.int p1), .val (.int p2), .val (.int ((47 : Int32) + ((p2 &&& (2147483647 : Int32)) % (12 : Int32))))] [(.int p1)])) rfl (by rw [hml]; rfl) (argsL := [(.int p1)]) (rest := []) (lenOf pd0 rfl) rfl (by show 2 * 0 + _ ≤ _; exact Nat.le_of_eq rfl) (hb hby at_12) (fun _ _ => ⟨rfl, e0, (by decide : 0 + 0 ≤ _), (by decide : 0 + 0 ≤ _)⟩)
  dsimp only [Pt.U, Pt.locs, Pt.cells, Pt.slots] at X1 l1 y1 z1 st1 hQ1
  subst l1 y1 z1
  refine Go.st st1 ?_
  obtain ⟨rfl, N1q, e1⟩ := hQ1
  have N1 := Fr.app N0 N1q
  show Go _ _ _ (T1.setTop (mkF m 15 #[.val (.int p1), .val (.int p2), .val (.int ((47 : Int32) + ((p2 &&& (2147483647 : Int32)) % (12 : Int32))))] [(.int (f1 p1))])) _
  refine Go.st (fun t k => XS.iloadN X1.here hx rfl (hb hby at_15) rfl k) ?_
  obtain ⟨_, _, ⟨T2, L2, k2, n2⟩, -, X2, ⟨Lc2, hQ2, l2, y2, z2⟩, st2⟩ := Jvm.LawKit.callS X1 hx (y := (⟨"com/example/forel/forel/SyntaxIsDigitPinLaw", "ref", "(I)Z"⟩ : MethodName)) hown (mvT hZ (wd5 hw)) (mvT hZ (wd6 hw)) (mvT hZ (wd7 hw)) (mvT hZ (wd8 hw)) (by decide) (backOf (W := 1) (rm2 l Z a0 hw [] p1 h0 n0 Z0) hZ (wd8 hw) (wd7 hw) (by decide) (by decide)) (g := (mkF m 16 #[.val (.int p1), .val (.int p2), .val (.int ((47 : Int32) + ((p2 &&& (2147483647 : Int32)) % (12 : Int32))))] [(.int p1), (.int (f1 p1))])) rfl (by rw [hml]; rfl) (argsL := [(.int p1)]) (rest := [(.int (f1 p1))]) (lenOf pd0 rfl) rfl (by show 2 * 0 + _ ≤ _; exact Nat.le_of_eq rfl) (hb hby at_16) (fun _ _ => ⟨rfl, e1, (by decide : 0 + 0 ≤ _), (by decide : 0 + 0 ≤ _)⟩)
  dsimp only [Pt.U, Pt.locs, Pt.cells, Pt.slots] at X2 l2 y2 z2 st2 hQ2
  subst l2 y2 z2
  refine Go.st st2 ?_
  obtain ⟨rfl, N2q, e2⟩ := hQ2
  have N2 := Fr.app N1 N2q
  show Go _ _ _ (T2.setTop (mkF m 19 #[.val (.int p1), .val (.int p2), .val (.int ((47 : Int32) + ((p2 &&& (2147483647 : Int32)) % (12 : Int32))))] [(.int (f2 p1)), (.int (f1 p1))])) _
  by_cases hc3 : (f1 p1) = (f2 p1)
  · refine Go.st (fun t k => XS.icmpNo X2.here hx rfl (hb hby at_19) rfl (teq hc3).2 k) ?_
    show Go _ _ _ (T2.setTop (mkF m 22 #[.val (.int p1), .val (.int p2), .val (.int ((47 : Int32) + ((p2 &&& (2147483647 : Int32)) % (12 : Int32))))] [])) _
    refine Go.st (fun t k => XS.iloadN X2.here hx rfl (hb hby at_22) rfl k) ?_
    obtain ⟨_, _, ⟨T4, L4, k4, n4⟩, -, X4, ⟨Lc4, hQ4, l4, y4, z4⟩, st4⟩ := Jvm.LawKit.callS X2 hx (y := (⟨"com/example/forel/forel/Syntax", "isDigit", "(I)Z"⟩ : MethodName)) hown (mvT hZ (wd1 hw)) (mvT hZ (wd2 hw)) (mvT hZ (wd3 hw)) (mvT hZ (wd4 hw)) (by decide) (backOf (W := 0) (rm1 l Z a0 hw [] ((47 : Int32) + ((p2 &&& (2147483647 : Int32)) % (12 : Int32))) h0 n0 Z0) hZ (wd4 hw) (wd3 hw) (by decide) (by decide)) (g := (mkF m 23 #[.val (.int p1), .val (.int p2), .val (.int ((47 : Int32) + ((p2 &&& (2147483647 : Int32)) % (12 : Int32))))] [(.int ((47 : Int32) + ((p2 &&& (2147483647 : Int32)) % (12 : Int32))))])) rfl (by rw [hml]; rfl) (argsL := [(.int ((47 : Int32) + ((p2 &&& (2147483647 : Int32)) % (12 : Int32))))]) (rest := []) (lenOf pd0 rfl) rfl (by show 2 * 0 + _ ≤ _; exact Nat.le_of_eq rfl) (hb hby at_23) (fun _ _ => ⟨rfl, e2, (by decide : 0 + 0 ≤ _), (by decide : 0 + 0 ≤ _)⟩)
    dsimp only [Pt.U, Pt.locs, Pt.cells, Pt.slots] at X4 l4 y4 z4 st4 hQ4
    subst l4 y4 z4
    refine Go.st st4 ?_
    obtain ⟨rfl, N4q, e4⟩ := hQ4
    have N4 := Fr.app N2 N4q
    show Go _ _ _ (T4.setTop (mkF m 26 #[.val (.int p1), .val (.int p2), .val (.int ((47 : Int32) + ((p2 &&& (2147483647 : Int32)) % (12 : Int32))))] [(.int (f1 ((47 : Int32) + ((p2 &&& (2147483647 : Int32)) % (12 : Int32)))))])) _
    refine Go.st (fun t k => XS.iloadN X4.here hx rfl (hb hby at_26) rfl k) ?_
    obtain ⟨_, _, ⟨T5, L5, k5, n5⟩, -, X5, ⟨Lc5, hQ5, l5, y5, z5⟩, st5⟩ := Jvm.LawKit.callS X4 hx (y := (⟨"com/example/forel/forel/SyntaxIsDigitPinLaw", "ref", "(I)Z"⟩ : MethodName)) hown (mvT hZ (wd5 hw)) (mvT hZ (wd6 hw)) (mvT hZ (wd7 hw)) (mvT hZ (wd8 hw)) (by decide) (backOf (W := 1) (rm2 l Z a0 hw [] ((47 : Int32) + ((p2 &&& (2147483647 : Int32)) % (12 : Int32))) h0 n0 Z0) hZ (wd8 hw) (wd7 hw) (by decide) (by decide)) (g := (mkF m 27 #[.val (.int p1), .val (.int p2), .val (.int ((47 : Int32) + ((p2 &&& (2147483647 : Int32)) % (12 : Int32))))] [(.int ((47 : Int32) + ((p2 &&& (2147483647 : Int32)) % (12 : Int32)))), (.int (f1 ((47 : Int32) + ((p2 &&& (2147483647 : Int32)) % (12 : Int32)))))])) rfl (by rw [hml]; rfl) (argsL := [(.int ((47 : Int32) + ((p2 &&& (2147483647 : Int32)) % (12 : Int32))))]) (rest := [(.int (f1 ((47 : Int32) + ((p2 &&& (2147483647 : Int32)) % (12 : Int32)))))]) (lenOf pd0 rfl) rfl (by show 2 * 0 + _ ≤ _; exact Nat.le_of_eq rfl) (hb hby at_27) (fun _ _ => ⟨rfl, e4, (by decide : 0 + 0 ≤ _), (by decide : 0 + 0 ≤ _)⟩)
    dsimp only [Pt.U, Pt.locs, Pt.cells, Pt.slots] at X5 l5 y5 z5 st5 hQ5
    subst l5 y5 z5
    refine Go.st st5 ?_
    obtain ⟨rfl, N5q, e5⟩ := hQ5
    have N5 := Fr.app N4 N5q
    show Go _ _ _ (T5.setTop (mkF m 30 #[.val (.int p1), .val (.int p2), .val (.int ((47 : Int32) + ((p2 &&& (2147483647 : Int32)) % (12 : Int32))))] [(.int (f2 ((47 : Int32) + ((p2 &&& (2147483647 : Int32)) % (12 : Int32))))), (.int (f1 ((47 : Int32) + ((p2 &&& (2147483647 : Int32)) % (12 : Int32)))))])) _
    by_cases hc6 : (f1 ((47 : Int32) + ((p2 &&& (2147483647 : Int32)) % (12 : Int32)))) = (f2 ((47 : Int32) + ((p2 &&& (2147483647 : Int32)) % (12 : Int32))))
    · refine Go.st (fun t k => XS.icmpNo X5.here hx rfl (hb hby at_30) rfl (teq hc6).2 k) ?_
      show Go _ _ _ (T5.setTop (mkF m 33 #[.val (.int p1), .val (.int p2), .val (.int ((47 : Int32) + ((p2 &&& (2147483647 : Int32)) % (12 : Int32))))] [])) _
      refine Go.st (fun t k => XS.iconst X5.here hx rfl (hb hby at_33) k) ?_
      refine Go.st (fun t k => XS.goto X5.here hx rfl (pc0 := 34) (pc' := 38) rfl (hb hby at_34) (by decide) (by decide) k) ?_
      obtain ⟨fs, hr, hrun, hended, hW, hsame⟩ := X5.leave (v := some (.int (1 : Int32))) (fun h => by rw [Bd.returns] at h; cases h)
      refine Go.fin (retN X5 hx (t := .boolean) Bd.returns (by simp) (hb hby at_38) hr) hrun hended ⟨_, _, rfl, ?_, ⟨_, rfl⟩, hW, hsame.mono (by decide) (by decide)⟩
      show Q0 Z p1 p2 h0 n0 _ T5.heap _
      rw [e5]
      exact ⟨(by unfold f0; simp only [if_pos hc3, if_pos hc6]), N5⟩
    · refine Go.st (fun t k => XS.icmpYes X5.here hx rfl (pc0 := 30) (pc' := 37) rfl (hb hby at_30) rfl (feq hc6).2 (by decide) (by decide) k) ?_
      show Go _ _ _ (T5.setTop (mkF m 37 #[.val (.int p1), .val (.int p2), .val (.int ((47 : Int32) + ((p2 &&& (2147483647 : Int32)) % (12 : Int32))))] [])) _
      refine Go.st (fun t k => XS.iconst X5.here hx rfl (hb hby at_37) k) ?_
      obtain ⟨fs, hr, hrun, hended, hW, hsame⟩ := X5.leave (v := some (.int (0 : Int32))) (fun h => by rw [Bd.returns] at h; cases h)
      refine Go.fin (retN X5 hx (t := .boolean) Bd.returns (by simp) (hb hby at_38) hr) hrun hended ⟨_, _, rfl, ?_, ⟨_, rfl⟩, hW, hsame.mono (by decide) (by decide)⟩
      show Q0 Z p1 p2 h0 n0 _ T5.heap _
      rw [e5]
      exact ⟨(by unfold f0; simp only [if_pos hc3, if_neg hc6]), N5⟩
  · refine Go.st (fun t k => XS.icmpYes X2.here hx rfl (pc0 := 19) (pc' := 37) rfl (hb hby at_19) rfl (feq hc3).2 (by decide) (by decide) k) ?_
    show Go _ _ _ (T2.setTop (mkF m 37 #[.val (.int p1), .val (.int p2), .val (.int ((47 : Int32) + ((p2 &&& (2147483647 : Int32)) % (12 : Int32))))] [])) _
    refine Go.st (fun t k => XS.iconst X2.here hx rfl (hb hby at_37) k) ?_
    obtain ⟨fs, hr, hrun, hended, hW, hsame⟩ := X2.leave (v := some (.int (0 : Int32))) (fun h => by rw [Bd.returns] at h; cases h)
    refine Go.fin (retN X2 hx (t := .boolean) Bd.returns (by simp) (hb hby at_38) hr) hrun hended ⟨_, _, rfl, ?_, ⟨_, rfl⟩, hW, hsame.mono (by decide) (by decide)⟩
    show Q0 Z p1 p2 h0 n0 _ T2.heap _
    rw [e2]
    exact ⟨(by unfold f0; simp only [if_neg hc3]), N2⟩
theorem own_ne {x k : Int32} (h : ¬ x = k) : x.toInt ≠ k.toInt := fun e => h (Int32.toInt_inj.mp e)
theorem own_same (x : Int32) : f1 x = f2 x := by
  unfold f2
  by_cases h0 : x = 48
  · subst h0; decide
  by_cases h1 : x = 49
  · subst h1; decide
  by_cases h2 : x = 50
  · subst h2; decide
  by_cases h3 : x = 51
  · subst h3; decide
  by_cases h4 : x = 52
  · subst h4; decide
  by_cases h5 : x = 53
  · subst h5; decide
  by_cases h6 : x = 54
  · subst h6; decide
  by_cases h7 : x = 55
  · subst h7; decide
  by_cases h8 : x = 56
  · subst h8; decide
  by_cases h9 : x = 57
  · subst h9; decide
  rw [if_neg h0, if_neg h1, if_neg h2, if_neg h3, if_neg h4, if_neg h5, if_neg h6, if_neg h7, if_neg h8, if_neg h9]
  unfold f1
  by_cases ha : x < 48
  · rw [if_pos ha]
  · by_cases hb : 57 < x
    · rw [if_neg ha, if_pos hb]
    · exfalso
      rw [Int32.lt_iff_toInt_lt] at ha hb
      have e0 := own_ne h0; have e1 := own_ne h1; have e2 := own_ne h2; have e3 := own_ne h3; have e4 := own_ne h4
      have e5 := own_ne h5; have e6 := own_ne h6; have e7 := own_ne h7; have e8 := own_ne h8; have e9 := own_ne h9
      simp only [Int32.reduceToInt] at *
      omega
theorem own_plain (a b : Int32) : f0 a b = 1 := by unfold f0; rw [if_pos (own_same a), if_pos (own_same _)]

set_option maxRecDepth 65536 in
set_option maxHeartbeats 40000000 in
theorem comes_1 {Post : Tables → Env → Array Value → State → Outcome → State → Prop} (hpost : ∀ tb e args s v u, (limb_1_1.after args s (.returned v) u = true ∧ limb_1_2.after args s (.returned v) u = true ∧ True) → FrameEnd s (.returned v) u (Jvm.fieldLocs frame_1_writes args s ++ Jvm.arrayLocs frame_1_arrays args s ++ Jvm.staticLocs frame_1_statics s) 0 0 → Post tb e args s (.returned v) u) :
    ArmFor flags0 classFile x code maxLocals ret World_1 tables_1 room_1 Calls_1 rest_1 Pre_1 Post := by
  intro l hfl _ _ p e ha hc hk s m args below hf hA hF happ hP
  obtain ⟨hcalls, hrest, hpre⟩ := hP
  obtain ⟨-, -, -, hnamed, -, -, -, hat⟩ := (Spec.applies_iff hf).mp happ
  obtain ⟨hg, hn⟩ := and_e (Cond.before_iff.mp (show (Jvm.Cond.and given_1 narrow_1).before args s = true from hpre))
  obtain ⟨g1, g2⟩ := and_e hg
  obtain ⟨g3, g4⟩ := and_e g2
  obtain ⟨w0, w1, rfl⟩ : ∃ w0 w1 : Value, args = #[w0, w1] := by
    have hs : args.size = 2 := by simpa [Cond.value, given_1] using g1
    obtain ⟨L⟩ := args
    match L, hs with
    | [w0, w1], _ => exact ⟨w0, w1, rfl⟩
  have hw := fun d (hd : d ∈ tables_1) => atoms_spec (ws := Jvm.Cond.code x code maxLocals ret :: tables_1) hat d (List.mem_cons_of_mem _ hd)
  have hfit : Fit s := fun {y c} hc i hi => by
    obtain ⟨ha, rfl⟩ := Array.getElem?_eq_some_iff.mp hc
    have q := List.all_eq_true.mp ((Array.all_eq_true_iff_forall_mem.mp hF) _ (Array.getElem_mem ha)) i (List.mem_range.mpr hi)
    simpa [Array.getElem?_eq_getElem hi] using q
  obtain ⟨i0, ei0⟩ := is_v g3
  obtain rfl : w0 = (.int i0) := Option.some.inj ei0
  obtain ⟨i1, ei1⟩ := is_v g4
  obtain rfl : w1 = (.int i1) := Option.some.inj ei1
  have hplain := own_plain i0 i1
  obtain ⟨n, o, h1, h2, h3, _, L, rfl, ⟨rfl, N⟩, hq⟩ := rm0 l s _ hw tables_1 i0 i1 s.heap s.heap.size (Nat.le_refl _)  p e ha hc hk s m _ below hf ((Spec.applies_iff_loose hf).mp happ).1 ⟨rfl, State.Warmed39.refl s, rfl⟩ trivial
  rw [hplain] at *
  refine ⟨n, _, h1, h2, h3, hpost _ _ _ _ _ _ ⟨Cond.after_iff.mpr rfl, Cond.after_iff.mpr (eq_i res_at (Term.int_eval (1)) rfl), trivial⟩ ⟨hq.1, hq.2.1, (hq.2.2.sift fun y hy => Or.inr (N y hy)).mono (by decide) (by decide)⟩⟩
theorem main_1_1 : Claimed_1_1 := comes_1 fun _ _ _ _ _ _ h hF => ⟨h.1, hF⟩
theorem main_1_2 : Claimed_1_2 := comes_1 fun _ _ _ _ _ _ h hF => ⟨h.2.1, hF⟩
end Jvm.Pilot.@@N@@
namespace Jvm.Pilot.@@N@@
open Jvm Jvm.ClassFile Sem Op Lib Jvm.Free Jvm.Stand Jvm.Pilot.@@N@@.Jvm.D
/-! MADE BY PROGRAM (witnessworld.py) out of the Statement's table words and the real class files: 7 classes; the members and pool entries that the words name. The judged class is class 1, her method 2. -/
namespace start1
open Jvm.ClassFile
def u (s : String) : CpInfo := .utf8 (stringToUtf16 s)
/-- a pool by its gaps: so many unusable entries, then the entry; so many at the end -/
def gap : Nat → List CpInfo → List CpInfo
  | 0, r => r
  | n + 1, r => .unusable :: gap n r
def poolList (es : List (Nat × CpInfo)) (last : Nat) : List CpInfo := es.foldr (fun e r => gap e.1 (e.2 :: r)) (gap last [])
def pool (es : List (Nat × CpInfo)) (last : Nat) : Array CpInfo := ⟨poolList es last⟩
def fileOf (pool : Array CpInfo) (this : Nat) (attrs : Array Attribute := #[]) (ms : Array MethodInfo := #[]) (fl : Nat := 33) (sup : Nat := 0) (ifs : Array Nat := #[]) (fds : Array FieldInfo := #[]) : ClassFile where
  minorVersion := 0
  majorVersion := 65
  constantPool := pool
  accessFlags := fl
  thisClass := this
  superClass := sup
  interfaces := ifs
  fields := fds
  methods := ms
  attributes := attrs
def plain (name : String) (sup : Option ClassId) : Class where
  name := name
  kind := .ordinary
  loader := none
  accessFlags := 33
  super := sup
  interfaces := #[]
  cf := none
  fields := #[]
  methods := #[]
  instanceTypes := #[]
  staticTypes := #[]
  resolved := #[]
  callSites := []
  init := .initialized
  statics := none
  mirror := none

def pool0 : Array CpInfo := pool [(5, u "<init>"), (0, u "()V"), (1, .class_ 10), (1, u "java/lang/Object")] 113

def k0m0 : Method := { name := "<init>", desc := "()V", sig := { parameters := [], returnType := none }, accessFlags := 1, code := none }
/-- java/lang/Object -/
def k0 : Class := { plain "java/lang/Object" none with
  accessFlags := 33
  interfaces := #[]
  cf := some (fileOf pool0 8 #[] #[{ accessFlags := 1, nameIndex := 5, descriptorIndex := 6, attributes := #[] }] 33 0 #[] #[])
  fields := #[]
  methods := #[k0m0]
  instanceTypes := #[]
  staticTypes := #[]
  resolved := Array.replicate 124 none
  statics := none }

def pool1 : Array CpInfo := pool [(2, .class_ 4), (1, u "java/lang/Object"), (0, u "<init>"), (0, u "()V"), (0, .integer 2147483647), (0, .methodref 9 10), (0, .class_ 11), (0, .nameAndType 12 13), (0, u "com/example/forel/forel/Syntax"), (0, u "isDigit"), (0, u "(I)Z"), (0, .methodref 15 16), (0, .class_ 17), (0, .nameAndType 18 13), (0, u "com/example/forel/forel/SyntaxIsDigitPinLaw"), (0, u "ref"), (3, u "law"), (0, u "(II)Z")] 2

def k1m0 : Method := { name := "<init>", desc := "()V", sig := { parameters := [], returnType := none }, accessFlags := 2, code := none }
def k1c1 : Code := { maxStack := 2, maxLocals := 1, code := method_2_code, exceptionTable := #[], attributes := #[] }
def k1m1 : Method := { name := "ref", desc := "(I)Z", sig := { parameters := [.int], returnType := some .boolean }, accessFlags := 10, code := some k1c1 }
def k1c2 : Code := { maxStack := 3, maxLocals := 3, code := code, exceptionTable := #[], attributes := #[] }
def k1m2 : Method := { name := "law", desc := "(II)Z", sig := { parameters := [.int, .int], returnType := some .boolean }, accessFlags := 9, code := some k1c2 }
/-- com/example/forel/forel/SyntaxIsDigitPinLaw -/
def k1 : Class := { plain "com/example/forel/forel/SyntaxIsDigitPinLaw" (some 0) with
  accessFlags := 49
  interfaces := #[]
  cf := some (fileOf pool1 15 #[] #[{ accessFlags := 2, nameIndex := 5, descriptorIndex := 6, attributes := #[] }, { accessFlags := 10, nameIndex := 18, descriptorIndex := 13, attributes := #[] }, { accessFlags := 9, nameIndex := 22, descriptorIndex := 23, attributes := #[] }] 49 2 #[] #[])
  fields := #[]
  methods := #[k1m0, k1m1, k1m2]
  instanceTypes := #[]
  staticTypes := #[]
  resolved := Array.replicate 26 none
  statics := none }

def pool2 : Array CpInfo := pool [(2, .class_ 4), (1, u "java/lang/Object"), (0, u "<init>"), (0, u "()V"), (1, .class_ 10), (1, u "com/example/forel/forel/Syntax"), (0, u "isDigit"), (0, u "(I)Z"), (14, u "GRAPHIC"), (0, u "[Z"), (74, u "SOLO"), (0, u "Ljava/util/Set;"), (9, u "Lcom/example/forel/forel/Operators;"), (100, u "OPERATORS"), (16, u "CONJUNCTION"), (0, u "Ljava/lang/String;"), (1, u "DISJUNCTION"), (0, u "IF_THEN"), (0, u "CURLY"), (0, u "ANONYMOUS"), (4, u "ESCAPED"), (0, u "LETTERS"), (0, u "QUOTES")] 39

def k2m0 : Method := { name := "<init>", desc := "()V", sig := { parameters := [], returnType := none }, accessFlags := 2, code := none }
def k2c1 : Code := { maxStack := 2, maxLocals := 1, code := prog_84_method_4_code, exceptionTable := #[], attributes := #[] }
def k2m1 : Method := { name := "isDigit", desc := "(I)Z", sig := { parameters := [.int], returnType := some .boolean }, accessFlags := 8, code := some k2c1 }
/-- com/example/forel/forel/Syntax -/
def k2 : Class := { plain "com/example/forel/forel/Syntax" (some 0) with
  accessFlags := 48
  interfaces := #[]
  cf := some (fileOf pool2 8 #[] #[{ accessFlags := 2, nameIndex := 5, descriptorIndex := 6, attributes := #[] }, { accessFlags := 8, nameIndex := 11, descriptorIndex := 12, attributes := #[] }] 48 2 #[] #[{ accessFlags := 24, nameIndex := 215, descriptorIndex := 114, attributes := #[] }, { accessFlags := 24, nameIndex := 232, descriptorIndex := 233, attributes := #[] }, { accessFlags := 24, nameIndex := 235, descriptorIndex := 233, attributes := #[] }, { accessFlags := 24, nameIndex := 236, descriptorIndex := 233, attributes := #[] }, { accessFlags := 24, nameIndex := 237, descriptorIndex := 233, attributes := #[] }, { accessFlags := 24, nameIndex := 238, descriptorIndex := 233, attributes := #[] }, { accessFlags := 26, nameIndex := 27, descriptorIndex := 28, attributes := #[] }, { accessFlags := 26, nameIndex := 103, descriptorIndex := 104, attributes := #[] }, { accessFlags := 26, nameIndex := 243, descriptorIndex := 233, attributes := #[] }, { accessFlags := 26, nameIndex := 244, descriptorIndex := 233, attributes := #[] }, { accessFlags := 26, nameIndex := 245, descriptorIndex := 233, attributes := #[] }])
  fields := #[{ name := "OPERATORS", type := (.object "com/example/forel/forel/Operators"), accessFlags := 24, slot := 0, constantValue := 0 }, { name := "CONJUNCTION", type := (.object "java/lang/String"), accessFlags := 24, slot := 1, constantValue := 0 }, { name := "DISJUNCTION", type := (.object "java/lang/String"), accessFlags := 24, slot := 2, constantValue := 0 }, { name := "IF_THEN", type := (.object "java/lang/String"), accessFlags := 24, slot := 3, constantValue := 0 }, { name := "CURLY", type := (.object "java/lang/String"), accessFlags := 24, slot := 4, constantValue := 0 }, { name := "ANONYMOUS", type := (.object "java/lang/String"), accessFlags := 24, slot := 5, constantValue := 0 }, { name := "GRAPHIC", type := (.array .boolean), accessFlags := 26, slot := 6, constantValue := 0 }, { name := "SOLO", type := (.object "java/util/Set"), accessFlags := 26, slot := 7, constantValue := 0 }, { name := "ESCAPED", type := (.object "java/lang/String"), accessFlags := 26, slot := 8, constantValue := 0 }, { name := "LETTERS", type := (.object "java/lang/String"), accessFlags := 26, slot := 9, constantValue := 0 }, { name := "QUOTES", type := (.object "java/lang/String"), accessFlags := 26, slot := 10, constantValue := 0 }]
  methods := #[k2m0, k2m1]
  instanceTypes := #[]
  staticTypes := #[(.object "com/example/forel/forel/Operators"), (.object "java/lang/String"), (.object "java/lang/String"), (.object "java/lang/String"), (.object "java/lang/String"), (.object "java/lang/String"), (.array .boolean), (.object "java/util/Set"), (.object "java/lang/String"), (.object "java/lang/String"), (.object "java/lang/String")]
  resolved := Array.replicate 285 none
  statics := none }

def pool3 : Array CpInfo := pool [(1, u "java/lang/Cloneable"), (0, .class_ 1), (0, u "java/lang/Object"), (0, .class_ 3)] 3

/-- java/lang/Cloneable -/
def k3 : Class := { plain "java/lang/Cloneable" (some 0) with
  accessFlags := 1537
  interfaces := #[]
  cf := some (fileOf pool3 2 #[] #[] 1537 4 #[] #[])
  fields := #[]
  methods := #[]
  instanceTypes := #[]
  staticTypes := #[]
  resolved := Array.replicate 8 none
  statics := none }

def pool4 : Array CpInfo := pool [(1, u "java/io/Serializable"), (0, .class_ 1), (0, u "java/lang/Object"), (0, .class_ 3)] 3

/-- java/io/Serializable -/
def k4 : Class := { plain "java/io/Serializable" (some 0) with
  accessFlags := 1537
  interfaces := #[]
  cf := some (fileOf pool4 2 #[] #[] 1537 4 #[] #[])
  fields := #[]
  methods := #[]
  instanceTypes := #[]
  staticTypes := #[]
  resolved := Array.replicate 8 none
  statics := none }

/-- the primitive byte -/
def k5 : Class := { plain "byte" none with kind := .primitive 'B', accessFlags := 0x411 }
/-- [B -/
def k6 : Class := { plain "[B" (some 0) with kind := .array 5 .byte, interfaces := #[3, 4], accessFlags := 1041 }

def heap : Heap := #[]
def classes : Array Class := #[k0, k1, k2, k3, k4, k5, k6]
def interned : List (Array UInt16 × Addr) := []
def slotsUsed : Nat := 0
def theMethod : MethodId := ⟨1, 2⟩
def args0 : Array Value := #[.int 5, .int 7]
def aboutOver (below : List Frame) : State where
  vm := { classes := classes, interned := interned.toArray }
  heap := heap
  slotsUsed := slotsUsed
  threads := #[{ frames := .invoking theMethod args0 :: below }]
def below0 : List Frame := [.native { method := ⟨0, 0⟩, args := #[] }]
def about1 : State := aboutOver below0
def p0 : Program := .bare "" "" ""
def e0 : Env := launch0.env 0 0 0
theorem w_frames : about1.frames = Frame.invoking theMethod args0 :: below0 := rfl
set_option maxRecDepth 65536 in
theorem w_args : argsFit about1.vm theMethod args0 = true := by decide +kernel
set_option maxRecDepth 65536 in
theorem w_heap : heapFits about1 = true := by decide +kernel
set_option maxRecDepth 65536 in
theorem w_runnable : about1.curStatus? = some .runnable := by decide +kernel
set_option maxRecDepth 65536 in
theorem w_alone : about1.alone = true := by decide +kernel
set_option maxRecDepth 65536 in
theorem w_named : about1.methodNamed? x = some theMethod := by decide +kernel
set_option maxRecDepth 65536 in
theorem w_hears : about1.hears theMethod below0 = true := by decide +kernel
set_option maxRecDepth 65536 in
theorem w_ripe : about1.ripe theMethod args0 below0 = true := by decide +kernel
theorem w_running : about1.status = .running := rfl
set_option maxRecDepth 65536 in
theorem w_room : about1.hasRoom e0.platform room_1 = true :=
  launch0.hasRoom_least _ room_1 (by decide +kernel) (by decide +kernel) (by decide +kernel) (by decide +kernel) (by decide +kernel) (by decide +kernel)
theorem allAtoms_all (ts : List Jvm.Cond) (a : Array Jvm.Value) (st : Jvm.State) : (allAtoms ts).before a st = ts.all (fun c => c.before a st) := by
  induction ts with
  | nil => rfl
  | cons c t ih =>
    show (Jvm.Cond.and c (allAtoms t)).before a st = _
    rw [Jvm.Cond.before_and, ih, List.all_cons]
def words1 : List Jvm.Cond := Jvm.Cond.code x code maxLocals ret :: tables_1
/-- a 'code' word, met by the world's own term for the bytes: nothing is compared byte by byte -/
theorem code_word {y : MethodName} {bytes : ByteArray} {mx : Nat} {rt : Option FieldType} {a : Array Value} {s : State} {m : MethodId} {meth : Method} {c : Code} (h1 : s.methodNamed? y = some m) (h2 : s.vm.method? m = some meth) (h3 : meth.code = some c) (h4 : c.code = bytes)
    (h5 : (c.maxLocals == mx && c.exceptionTable.isEmpty && decide (c.maxStack ≤ mostOperands) && decide (meth.sig.returnType = rt) && !meth.locks && decide (parseMethodDescriptor y.desc = some meth.sig)) = true) : (Jvm.Cond.code y bytes mx rt).before a s = true := by
  simp only [Bool.and_eq_true, beq_iff_eq, Bool.not_eq_true', decide_eq_true_eq] at h5
  obtain ⟨⟨⟨⟨⟨g1, g2⟩, g3⟩, g4⟩, g5⟩, g6⟩ := h5
  simp [Cond.before, Cond.holds, Cond.value, h1, h2, h3, h4, g1, g2, g3, g4, g5, g6]
def isCode : Jvm.Cond → Bool
  | .code _ _ _ _ => true
  | _ => false
theorem all_split {L : List Jvm.Cond} {P : Jvm.Cond → Bool} (h1 : L.all (fun c => isCode c || P c) = true) (h2 : ∀ c ∈ L.filter isCode, P c = true) : L.all P = true := by
  refine List.all_eq_true.mpr fun c hc => ?_
  have h := List.all_eq_true.mp h1 c hc
  rcases Bool.eq_false_or_eq_true (isCode c) with hi | hi
  · exact h2 c (List.mem_filter.mpr ⟨hc, hi⟩)
  · simpa [hi] using h
set_option maxRecDepth 65536 in
theorem w_c0 : (Jvm.Cond.code x code maxLocals ret).before args0 about1 = true := code_word (m := ⟨1, 2⟩) (meth := k1m2) (c := k1c2) (by decide +kernel) rfl rfl rfl (by decide +kernel)
set_option maxRecDepth 65536 in
theorem w_c1 : (Jvm.Cond.code ({ cls := "com/example/forel/forel/Syntax", name := "isDigit", desc := "(I)Z" } : Jvm.MethodName) prog_84_method_4_code (1 : Nat) (Option.some Jvm.ClassFile.FieldType.boolean)).before args0 about1 = true := code_word (m := ⟨2, 1⟩) (meth := k2m1) (c := k2c1) (by decide +kernel) rfl rfl rfl (by decide +kernel)
set_option maxRecDepth 65536 in
theorem w_c2 : (Jvm.Cond.code ({ cls := "com/example/forel/forel/SyntaxIsDigitPinLaw", name := "ref", desc := "(I)Z" } : Jvm.MethodName) method_2_code (1 : Nat) (Option.some Jvm.ClassFile.FieldType.boolean)).before args0 about1 = true := code_word (m := ⟨1, 1⟩) (meth := k1m1) (c := k1c1) (by decide +kernel) rfl rfl rfl (by decide +kernel)
def codes1 : List Jvm.Cond := [Jvm.Cond.code x code maxLocals ret, Jvm.Cond.code ({ cls := "com/example/forel/forel/Syntax", name := "isDigit", desc := "(I)Z" } : Jvm.MethodName) prog_84_method_4_code (1 : Nat) (Option.some Jvm.ClassFile.FieldType.boolean), Jvm.Cond.code ({ cls := "com/example/forel/forel/SyntaxIsDigitPinLaw", name := "ref", desc := "(I)Z" } : Jvm.MethodName) method_2_code (1 : Nat) (Option.some Jvm.ClassFile.FieldType.boolean)]
set_option maxRecDepth 65536 in
theorem codes_eq : words1.filter isCode = codes1 := rfl
theorem w_codes : ∀ c ∈ words1.filter isCode, c.before args0 about1 = true := by
  rw [codes_eq]
  intro c hc
  simp only [codes1, List.mem_cons, List.not_mem_nil, or_false] at hc
  rcases hc with rfl | rfl | rfl
  · exact w_c0
  · exact w_c1
  · exact w_c2
set_option maxRecDepth 65536 in
theorem w_t1 : words1.all (fun c => isCode c || c.before args0 about1) = true := by decide +kernel
theorem w_tables : (allAtoms (Jvm.Cond.code x code maxLocals ret :: tables_1)).before args0 about1 = true := by
  rw [allAtoms_all]
  show words1.all (fun c => c.before args0 about1) = true
  refine all_split ?_ w_codes
  rw [w_t1]
set_option maxRecDepth 65536 in
theorem w_case : (Jvm.Cond.and given_1 narrow_1).before args0 about1 = true := by decide +kernel
theorem w_applies : (headSpec (Jvm.Cond.code x code maxLocals ret :: tables_1) room_1).applies x e0.platform about1 = true :=
  (Spec.applies_iff w_frames).mpr ⟨w_running, w_runnable, w_alone, w_named, w_hears, w_ripe, w_room, w_tables⟩
theorem atStart : AtStart classFile x code maxLocals ret World_1 tables_1 room_1 Calls_1 rest_1 Pre_1 launch0 p0 e0 about1 theMethod args0 below0 :=
  ⟨lists_1, trivial, launch0.admits_env _ _ _, launch0.least_env, fairChoices_fair.cas, fairChoices_fair.clock, w_frames, w_args, w_heap, w_applies, trivial, trivial, w_case⟩
end start1
theorem witness_1 : WitnessClaimed_1 := ⟨start1.p0, start1.e0, start1.about1, start1.theMethod, start1.args0, start1.below0, start1.atStart⟩
end Jvm.Pilot.@@N@@
