import JvmDerived
import JvmDerived.Pilot.@@N@@Statement
import JvmDerived.Pilot.@@N@@Code
set_option linter.unusedVariables false
set_option linter.unusedSimpArgs false
namespace Jvm.Pilot.@@N@@
open Jvm Jvm.ClassFile Sem Op Lib Jvm.Free Jvm.Stand Jvm.LawKit Jvm.RoadKit Bundle Jvm.Pilot.@@N@@.Jvm.D

def Go (tb : Tables) (e : Env) (below : List Frame) (a : State) (P : Outcome → State → Prop) : Prop := ∃ s₂ o, Steps tb e below a s₂ ∧ s₂.status = .running ∧ Ended s₂ below o ∧ P o s₂
theorem Go.st {tb : Tables} {e : Env} {below : List Frame} {a b : State} {P : Outcome → State → Prop} (h : ∀ t, Steps tb e below b t → Steps tb e below a t) (k : Go tb e below b P) : Go tb e below a P := by
  obtain ⟨s, o, h1, h2⟩ := k
  exact ⟨s, o, h _ h1, h2⟩
theorem Go.tr {tb : Tables} {e : Env} {below : List Frame} {a b : State} {P : Outcome → State → Prop} (h : Steps tb e below a b) (k : Go tb e below b P) : Go tb e below a P := Go.st (fun _ q => h.trans q) k
theorem Go.fr {tb : Tables} {e : Env} {below : List Frame} {T : State} {g g' : JFrame} {P : Outcome → State → Prop} (q : g = g') (k : Go tb e below (T.setTop g') P) : Go tb e below (T.setTop g) P := q ▸ k
theorem Go.fin {tb : Tables} {e : Env} {below : List Frame} {a s₂ : State} {o : Outcome} {P : Outcome → State → Prop} (hs : Steps tb e below a s₂) (hr : s₂.status = .running) (he : Ended s₂ below o) (hP : P o s₂) : Go tb e below a P := ⟨_, _, hs, hr, he, hP⟩
theorem exa_ns {Z : State} {h : Heap} {a : Addr} {C : String} (F : Exa Z h a C) : ∃ c : Cell, h[a]? = some c ∧ c.vm.isStatics = false := by
  obtain ⟨c, _, h1, -, -, h4, -⟩ := F
  exact ⟨c, h1, h4⟩
theorem fld_ns {Z : State} {h : Heap} {a : Addr} {C n d : String} {v : Value} (F : Fld Z h a C n d v) : ∃ c : Cell, h[a]? = some c ∧ c.vm.isStatics = false := by
  obtain ⟨c, _, _, _, _, h1, -, -, -, h4, -⟩ := F
  exact ⟨c, h1, h4⟩
theorem arv_ns {Z : State} {h : Heap} {a : Addr} {k : ClassId} {ty : FieldType} {n : Int32} {vs : List Value} {d : Value} (F : Arv Z h a k ty n vs d) : ∃ c : Cell, h[a]? = some c ∧ c.vm.isStatics = false := by
  obtain ⟨c, A, -⟩ := F
  exact ⟨c, A.1, A.plain⟩
theorem sta_keep {Z : State} {h h' : Heap} {C n d : String} {v : Value} {ws : List Addr} (F : Sta Z h C n d v) (K : Keep h h' ws) (q : ∀ x ∈ ws, ∃ c : Cell, h[x]? = some c ∧ c.vm.isStatics = false) : Sta Z h' C n d v := by
  obtain ⟨cf, i, k, f, st, cell, h1, h2, h3, h4, h5, h6, h7⟩ := F
  refine ⟨cf, i, k, f, st, cell, h1, h2, h3, h4, K.2.1 st cell h5 fun z => ?_, h6, h7⟩
  obtain ⟨c, q1, q2⟩ := q st z
  cases q1.symm.trans h5
  rw [q2] at h6
  cases h6
theorem own_selp {s : State} {args : Array Value} {y : MethodName} {n : Nat} (wi : (Cond.instantiable y.cls n).before args s = true) (hp : s.PrivateAt y) (hi : (Cond.instanceMethod y).before args s = true) (hy : y.cls ≠ "java/lang/invoke/MethodHandle" ∧ y.cls ≠ "java/lang/invoke/VarHandle") : (Cond.selects y.cls y y).before args s = true := by
  obtain ⟨c, k, h1, h2, -, h4, -⟩ := Cond.instantiable_spec wi
  simp only [Bool.or_eq_false_iff] at h4
  exact selects_self_of_private h1 h2 h4.1 hp hi hy
theorem own_ne32 {x k : Int32} {a : Int} (ha : k.toInt = a) (h : ¬ x = k) : a ≠ x.toInt := fun e => h (Int32.toInt_inj.mp (e.symm.trans ha.symm))
theorem own_nn (x : Int32) : 0 ≤ (x &&& (2147483647 : Int32)).toInt := (c_andS x 2147483647).2.2 (by decide)
theorem own_rem (x : Int32) (k : Int32) (d : Int) (hd : k.toInt = d) (h0 : 0 < d) : 0 ≤ ((x &&& (2147483647 : Int32)) % k).toInt ∧ ((x &&& (2147483647 : Int32)) % k).toInt < d := by
  have h := own_nn x
  rw [Int32.toInt_mod, hd]
  exact ⟨Int.tmod_nonneg _ h, Int.tmod_lt_of_pos _ h0⟩
theorem own_remb (x : Int32) (k : Int32) (d : Int) (hd : k.toInt = d) (h0 : 0 < d) : ¬ ((x &&& (2147483647 : Int32)) % k) < 0 ∧ ((x &&& (2147483647 : Int32)) % k) < k := by
  obtain ⟨h1, h2⟩ := own_rem x k d hd h0
  rw [Int32.lt_iff_toInt_lt, Int32.lt_iff_toInt_lt, hd]
  exact ⟨Int.not_lt.mpr h1, h2⟩
def own_at (xs : List Int32) (j : Int32) : Int32 := xs.getD j.toNatClampNeg 0
theorem own_atv (xs : List Int32) (j : Int32) : (xs.map Value.int).getD j.toNatClampNeg (.int 0) = .int (own_at xs j) := by
  unfold own_at
  generalize j.toNatClampNeg = n
  induction xs generalizing n with
  | nil => rfl
  | cons a r ih => cases n with
    | zero => rfl
    | succ n => simpa using ih n
theorem own_setl {l : List Value} {k n : Nat} {v : Value} (h : l.length = n) : (l.set k v).length = n := by rw [List.length_set]; exact h
theorem own_setg {l : List Value} {k : Nat} {v d : Value} (h : k < l.length) : (l.set k v).getD k d = v := by simp [List.getD, List.getElem?_set, h]
theorem own_setn {l : List Value} {k i : Nat} {v d : Value} (h : i ≠ k) : (l.set k v).getD i d = l.getD i d := by simp [List.getD, List.getElem?_set, Ne.symm h]
theorem own_lt_of {l : List Value} {n : Nat} {j z : Int32} (h : l.length = n) (q : ¬ j < 0 ∧ j < z) (hz : z.toNatClampNeg = n := by decide) : j.toNatClampNeg < l.length := by
  rw [h, ← hz]
  obtain ⟨q1, q2⟩ := q
  rw [Int32.lt_iff_toInt_lt] at q1 q2
  have : (0 : Int32).toInt = 0 := rfl
  simp only [Int32.toNatClampNeg]
  omega
theorem own_eqi {args : Array Value} {s : State} {t : Term} {k : Int32} (h : (Jvm.Cond.eq t (.int k)).value args s none s [] = some true) : t.eval args s none [] s = some (.int k) := by
  simp only [Cond.value, Term.eval] at h
  cases ht : t.eval args s none [] s with
  | none => simp [ht] at h
  | some x => cases x <;> simp_all
theorem d2_0 : decode prog_43_method_6_code 0 = .ok (.iload_n 0, 1) := by decide +kernel
theorem d2_1 : decode prog_43_method_6_code 1 = .ok (.bipush 9, 2) := by decide +kernel
theorem d2_3 : decode prog_43_method_6_code 3 = .ok (.if_icmp .eq 51, 3) := by decide +kernel
theorem d2_54 : decode prog_43_method_6_code 54 = .ok (.iconst 1, 1) := by decide +kernel
theorem d2_55 : decode prog_43_method_6_code 55 = .ok (.goto 4, 3) := by decide +kernel
theorem d2_59 : decode prog_43_method_6_code 59 = .ok (.ireturn, 1) := by decide +kernel
theorem d2_6 : decode prog_43_method_6_code 6 = .ok (.iload_n 0, 1) := by decide +kernel
theorem d2_7 : decode prog_43_method_6_code 7 = .ok (.bipush 10, 2) := by decide +kernel
theorem d2_9 : decode prog_43_method_6_code 9 = .ok (.if_icmp .eq 45, 3) := by decide +kernel
theorem d2_12 : decode prog_43_method_6_code 12 = .ok (.iload_n 0, 1) := by decide +kernel
theorem d2_13 : decode prog_43_method_6_code 13 = .ok (.bipush 13, 2) := by decide +kernel
theorem d2_15 : decode prog_43_method_6_code 15 = .ok (.if_icmp .eq 39, 3) := by decide +kernel
theorem d2_18 : decode prog_43_method_6_code 18 = .ok (.iload_n 0, 1) := by decide +kernel
theorem d2_19 : decode prog_43_method_6_code 19 = .ok (.bipush 32, 2) := by decide +kernel
theorem d2_21 : decode prog_43_method_6_code 21 = .ok (.if_icmp .lt 9, 3) := by decide +kernel
theorem d2_30 : decode prog_43_method_6_code 30 = .ok (.iload_n 0, 1) := by decide +kernel
theorem d2_31 : decode prog_43_method_6_code 31 = .ok (.ldc 99, 2) := by decide +kernel
theorem wd22 {Z : State} {a0 : Array Value} (hw : ∀ d ∈ tables_1, d.before a0 Z = true) : (Jvm.Cond.constant "com/example/tariffwire/tariffwire/xml/XmlDocuments" (99 : Nat) (57344 : Int32)).before a0 Z = true := hw _ (List.mem_of_getElem? (i := 22) rfl)
theorem d2_33 : decode prog_43_method_6_code 33 = .ok (.if_icmp .lt 9, 3) := by decide +kernel
theorem d2_42 : decode prog_43_method_6_code 42 = .ok (.iload_n 0, 1) := by decide +kernel
theorem d2_43 : decode prog_43_method_6_code 43 = .ok (.ldc 101, 2) := by decide +kernel
theorem wd23 {Z : State} {a0 : Array Value} (hw : ∀ d ∈ tables_1, d.before a0 Z = true) : (Jvm.Cond.constant "com/example/tariffwire/tariffwire/xml/XmlDocuments" (101 : Nat) (65536 : Int32)).before a0 Z = true := hw _ (List.mem_of_getElem? (i := 23) rfl)
theorem d2_45 : decode prog_43_method_6_code 45 = .ok (.if_icmp .lt 13, 3) := by decide +kernel
theorem d2_58 : decode prog_43_method_6_code 58 = .ok (.iconst 0, 1) := by decide +kernel
theorem d2_48 : decode prog_43_method_6_code 48 = .ok (.iload_n 0, 1) := by decide +kernel
theorem d2_49 : decode prog_43_method_6_code 49 = .ok (.ldc 102, 2) := by decide +kernel
theorem wd29 {Z : State} {a0 : Array Value} (hw : ∀ d ∈ tables_1, d.before a0 Z = true) : (Jvm.Cond.constant "com/example/tariffwire/tariffwire/xml/XmlDocuments" (102 : Nat) (1114111 : Int32)).before a0 Z = true := hw _ (List.mem_of_getElem? (i := 29) rfl)
theorem d2_51 : decode prog_43_method_6_code 51 = .ok (.if_icmp .gt 7, 3) := by decide +kernel
theorem d2_36 : decode prog_43_method_6_code 36 = .ok (.iload_n 0, 1) := by decide +kernel
theorem d2_37 : decode prog_43_method_6_code 37 = .ok (.ldc 100, 2) := by decide +kernel
theorem wd28 {Z : State} {a0 : Array Value} (hw : ∀ d ∈ tables_1, d.before a0 Z = true) : (Jvm.Cond.constant "com/example/tariffwire/tariffwire/xml/XmlDocuments" (100 : Nat) (65533 : Int32)).before a0 Z = true := hw _ (List.mem_of_getElem? (i := 28) rfl)
theorem d2_39 : decode prog_43_method_6_code 39 = .ok (.if_icmp .le 15, 3) := by decide +kernel
theorem d2_24 : decode prog_43_method_6_code 24 = .ok (.iload_n 0, 1) := by decide +kernel
theorem d2_25 : decode prog_43_method_6_code 25 = .ok (.ldc 98, 2) := by decide +kernel
theorem wd27 {Z : State} {a0 : Array Value} (hw : ∀ d ∈ tables_1, d.before a0 Z = true) : (Jvm.Cond.constant "com/example/tariffwire/tariffwire/xml/XmlDocuments" (98 : Nat) (55295 : Int32)).before a0 Z = true := hw _ (List.mem_of_getElem? (i := 27) rfl)
theorem d2_27 : decode prog_43_method_6_code 27 = .ok (.if_icmp .le 27, 3) := by decide +kernel
theorem pn0 : plainName "com/example/tariffwire/tariffwire/xml/XmlDocuments" = true := by first | (simp [plainName, overriddenIn]; done) | decide +kernel
def f2 (p1 : Int32) : Int32 := (if p1 = (9 : Int32) then (1 : Int32) else (if p1 = (10 : Int32) then (1 : Int32) else (if p1 = (13 : Int32) then (1 : Int32) else (if p1 < (32 : Int32) then (if p1 < (57344 : Int32) then (if p1 < (65536 : Int32) then (0 : Int32) else (if (1114111 : Int32) < p1 then (0 : Int32) else (1 : Int32))) else (if (65533 : Int32) < p1 then (if p1 < (65536 : Int32) then (0 : Int32) else (if (1114111 : Int32) < p1 then (0 : Int32) else (1 : Int32))) else (1 : Int32))) else (if (55295 : Int32) < p1 then (if p1 < (57344 : Int32) then (if p1 < (65536 : Int32) then (0 : Int32) else (if (1114111 : Int32) < p1 then (0 : Int32) else (1 : Int32))) else (if (65533 : Int32) < p1 then (if p1 < (65536 : Int32) then (0 : Int32) else (if (1114111 : Int32) < p1 then (0 : Int32) else (1 : Int32))) else (1 : Int32))) else (1 : Int32))))))
def Q2 (Z : State) (p1 : Int32) (h0 : Heap) (n0 : Nat) (v : Option Value) (h : Heap) (L : List Loc) : Prop := v = some (.int (f2 p1)) ∧ Fr n0 L ∧ h = h0
theorem ef2 (m : MethodId) (x0 : Int32) : entryFrame m #[(.int x0)] 1 = mkF m 0 #[.val (.int x0)] [] := by first | (simp [entryFrame, mkF, argsToLocals, Value.category]; done) | rfl
set_option maxRecDepth 65536 in
set_option maxHeartbeats 16000000 in
theorem rm2 (l : Launch) (Z : State) (a0 : Array Value) (hw : ∀ d ∈ tables_1, d.before a0 Z = true) (ws : List Jvm.Cond) (p1 : Int32) (h0 : Heap) (n0 : Nat) (Z0 : n0 ≤ h0.size) :
    MetFree l (⟨"com/example/tariffwire/tariffwire/xml/XmlDocuments", "isXmlCharacter", "(I)Z"⟩ : MethodName) (head1 (Jvm.Cond.code (⟨"com/example/tariffwire/tariffwire/xml/XmlDocuments", "isXmlCharacter", "(I)Z"⟩ : MethodName) prog_43_method_6_code 1 (some .boolean) :: ws) ({ frames := 0, cells := 0, slots := 0, locals := 0 } : Room)) (fun a U => a = #[(.int p1)] ∧ Z.Warmed39 U.vm ∧ U.heap = h0) (fun _ _ _ _ _ => True) (fun _ U o U' => ∃ v L, o = .returned v ∧ Q2 Z p1 h0 n0 v U'.heap L ∧ FrameEnd U o U' L ({ frames := 0, cells := 0, slots := 0, locals := 0 } : Room).cells ({ frames := 0, cells := 0, slots := 0, locals := 0 } : Room).slots) := by
  refine MetFree.of_bodySF (plainFor_of_name pn0) hisR ?_
  intro p e s m args below meth c s₁ Bd hml0 hP hK
  obtain ⟨rfl, hZ, hh⟩ := hP
  have hx := Bd.exec
  have hby := Bd.bytes
  have hml : c.maxLocals = 1 := hml0
  have hown : s.vm.findClass "com/example/tariffwire/tariffwire/xml/XmlDocuments" = some m.cls := findClass_of_methodNamed Bd.named
  have hnm := (name_of_methodNamed Bd.named Bd.method).1
  have X0 : Stand p l e ({ frames := 0, cells := 0, slots := 0, locals := 0 } : Room) s m #[(.int p1)] below meth c s₁ [] 0 0 := Stand.of_body Bd
  have e0 : s₁.heap = h0 := by rw [← hh, Bd.state]; rfl
  have N0 := Fr.nil n0
  have K0 : Keep h0 h0 [] := Keep.refl h0 _
  refine Go.st (P := fun o U' => ∃ v L, o = .returned v ∧ Q2 Z p1 h0 n0 v U'.heap L ∧ FrameEnd s o U' L ({ frames := 0, cells := 0, slots := 0, locals := 0 } : Room).cells ({ frames := 0, cells := 0, slots := 0, locals := 0 } : Room).slots) (fun t k => castTop (ef2 m p1) k) ?_
  show Go _ _ _ (s₁.setTop (mkF m 0 #[.val (.int p1)] [])) _
  refine Go.st (fun t k => XS.iloadN X0.here hx rfl (hb hby d2_0) rfl k) ?_
  show Go _ _ _ (s₁.setTop (mkF m 1 #[.val (.int p1)] [(.int p1)])) _
  refine Go.st (fun t k => XS.bipush X0.here hx rfl (hb hby d2_1) k) ?_
  show Go _ _ _ (s₁.setTop (mkF m 3 #[.val (.int p1)] [(.int 9), (.int p1)])) _
  by_cases hc1 : p1 = (9 : Int32)
  · refine Go.st (fun t k => XS.icmpYes X0.here hx rfl (pc0 := 3) (pc' := 54) rfl (hb hby d2_3) rfl (teq hc1).1 (by decide) (by decide) k) ?_
    show Go _ _ _ (s₁.setTop (mkF m 54 #[.val (.int p1)] [])) _
    refine Go.st (fun t k => XS.iconst X0.here hx rfl (hb hby d2_54) k) ?_
    show Go _ _ _ (s₁.setTop (mkF m 55 #[.val (.int p1)] [(.int 1)])) _
    refine Go.st (fun t k => XS.goto X0.here hx rfl (pc0 := 55) (pc' := 59) rfl (hb hby d2_55) (by decide) (by decide) k) ?_
    show Go _ _ _ (s₁.setTop (mkF m 59 #[.val (.int p1)] [(.int 1)])) _
    obtain ⟨fs, hr, hrun, hended, hW, hsame⟩ := X0.leave (v := some (.int (1 : Int32))) (fun h => by rw [Bd.returns] at h; cases h)
    refine Go.fin (retN X0 hx (t := .boolean) Bd.returns (by simp) (hb hby d2_59) hr) hrun hended ⟨_, _, rfl, ?_, ⟨_, rfl⟩, hW, hsame.mono (by decide) (by decide)⟩
    show Q2 Z p1 h0 n0 _ s₁.heap _
    rw [e0]
    exact ⟨(by unfold f2; simp only [if_pos hc1]), N0, rfl⟩
  · refine Go.st (fun t k => XS.icmpNo X0.here hx rfl (hb hby d2_3) rfl (feq hc1).1 k) ?_
    show Go _ _ _ (s₁.setTop (mkF m 6 #[.val (.int p1)] [])) _
    refine Go.st (fun t k => XS.iloadN X0.here hx rfl (hb hby d2_6) rfl k) ?_
    show Go _ _ _ (s₁.setTop (mkF m 7 #[.val (.int p1)] [(.int p1)])) _
    refine Go.st (fun t k => XS.bipush X0.here hx rfl (hb hby d2_7) k) ?_
    show Go _ _ _ (s₁.setTop (mkF m 9 #[.val (.int p1)] [(.int 10), (.int p1)])) _
    by_cases hc2 : p1 = (10 : Int32)
    · refine Go.st (fun t k => XS.icmpYes X0.here hx rfl (pc0 := 9) (pc' := 54) rfl (hb hby d2_9) rfl (teq hc2).1 (by decide) (by decide) k) ?_
      show Go _ _ _ (s₁.setTop (mkF m 54 #[.val (.int p1)] [])) _
      refine Go.st (fun t k => XS.iconst X0.here hx rfl (hb hby d2_54) k) ?_
      show Go _ _ _ (s₁.setTop (mkF m 55 #[.val (.int p1)] [(.int 1)])) _
      refine Go.st (fun t k => XS.goto X0.here hx rfl (pc0 := 55) (pc' := 59) rfl (hb hby d2_55) (by decide) (by decide) k) ?_
      show Go _ _ _ (s₁.setTop (mkF m 59 #[.val (.int p1)] [(.int 1)])) _
      obtain ⟨fs, hr, hrun, hended, hW, hsame⟩ := X0.leave (v := some (.int (1 : Int32))) (fun h => by rw [Bd.returns] at h; cases h)
      refine Go.fin (retN X0 hx (t := .boolean) Bd.returns (by simp) (hb hby d2_59) hr) hrun hended ⟨_, _, rfl, ?_, ⟨_, rfl⟩, hW, hsame.mono (by decide) (by decide)⟩
      show Q2 Z p1 h0 n0 _ s₁.heap _
      rw [e0]
      exact ⟨(by unfold f2; simp only [if_neg hc1, if_pos hc2]), N0, rfl⟩
    · refine Go.st (fun t k => XS.icmpNo X0.here hx rfl (hb hby d2_9) rfl (feq hc2).1 k) ?_
      show Go _ _ _ (s₁.setTop (mkF m 12 #[.val (.int p1)] [])) _
      refine Go.st (fun t k => XS.iloadN X0.here hx rfl (hb hby d2_12) rfl k) ?_
      show Go _ _ _ (s₁.setTop (mkF m 13 #[.val (.int p1)] [(.int p1)])) _
      refine Go.st (fun t k => XS.bipush X0.here hx rfl (hb hby d2_13) k) ?_
      show Go _ _ _ (s₁.setTop (mkF m 15 #[.val (.int p1)] [(.int 13), (.int p1)])) _
      by_cases hc3 : p1 = (13 : Int32)
      · refine Go.st (fun t k => XS.icmpYes X0.here hx rfl (pc0 := 15) (pc' := 54) rfl (hb hby d2_15) rfl (teq hc3).1 (by decide) (by decide) k) ?_
        show Go _ _ _ (s₁.setTop (mkF m 54 #[.val (.int p1)] [])) _
        refine Go.st (fun t k => XS.iconst X0.here hx rfl (hb hby d2_54) k) ?_
        show Go _ _ _ (s₁.setTop (mkF m 55 #[.val (.int p1)] [(.int 1)])) _
        refine Go.st (fun t k => XS.goto X0.here hx rfl (pc0 := 55) (pc' := 59) rfl (hb hby d2_55) (by decide) (by decide) k) ?_
        show Go _ _ _ (s₁.setTop (mkF m 59 #[.val (.int p1)] [(.int 1)])) _
        obtain ⟨fs, hr, hrun, hended, hW, hsame⟩ := X0.leave (v := some (.int (1 : Int32))) (fun h => by rw [Bd.returns] at h; cases h)
        refine Go.fin (retN X0 hx (t := .boolean) Bd.returns (by simp) (hb hby d2_59) hr) hrun hended ⟨_, _, rfl, ?_, ⟨_, rfl⟩, hW, hsame.mono (by decide) (by decide)⟩
        show Q2 Z p1 h0 n0 _ s₁.heap _
        rw [e0]
        exact ⟨(by unfold f2; simp only [if_neg hc1, if_neg hc2, if_pos hc3]), N0, rfl⟩
      · refine Go.st (fun t k => XS.icmpNo X0.here hx rfl (hb hby d2_15) rfl (feq hc3).1 k) ?_
        show Go _ _ _ (s₁.setTop (mkF m 18 #[.val (.int p1)] [])) _
        refine Go.st (fun t k => XS.iloadN X0.here hx rfl (hb hby d2_18) rfl k) ?_
        show Go _ _ _ (s₁.setTop (mkF m 19 #[.val (.int p1)] [(.int p1)])) _
        refine Go.st (fun t k => XS.bipush X0.here hx rfl (hb hby d2_19) k) ?_
        show Go _ _ _ (s₁.setTop (mkF m 21 #[.val (.int p1)] [(.int 32), (.int p1)])) _
        by_cases hc4 : p1 < (32 : Int32)
        · refine Go.st (fun t k => XS.icmpYes X0.here hx rfl (pc0 := 21) (pc' := 30) rfl (hb hby d2_21) rfl (tlt hc4).1 (by decide) (by decide) k) ?_
          show Go _ _ _ (s₁.setTop (mkF m 30 #[.val (.int p1)] [])) _
          refine Go.st (fun t k => XS.iloadN X0.here hx rfl (hb hby d2_30) rfl k) ?_
          show Go _ _ _ (s₁.setTop (mkF m 31 #[.val (.int p1)] [(.int p1)])) _
          refine Go.st (fun t k => X0.ldcInt hx hown (mvT hZ (wd22 hw)) (g := (mkF m 31 #[.val (.int p1)] [(.int p1)])) rfl (hb hby d2_31) _ k) ?_
          show Go _ _ _ (s₁.setTop (mkF m 33 #[.val (.int p1)] [(.int 57344), (.int p1)])) _
          by_cases hc5 : p1 < (57344 : Int32)
          · refine Go.st (fun t k => XS.icmpYes X0.here hx rfl (pc0 := 33) (pc' := 42) rfl (hb hby d2_33) rfl (tlt hc5).1 (by decide) (by decide) k) ?_
            show Go _ _ _ (s₁.setTop (mkF m 42 #[.val (.int p1)] [])) _
            refine Go.st (fun t k => XS.iloadN X0.here hx rfl (hb hby d2_42) rfl k) ?_
            show Go _ _ _ (s₁.setTop (mkF m 43 #[.val (.int p1)] [(.int p1)])) _
            refine Go.st (fun t k => X0.ldcInt hx hown (mvT hZ (wd23 hw)) (g := (mkF m 43 #[.val (.int p1)] [(.int p1)])) rfl (hb hby d2_43) _ k) ?_
            show Go _ _ _ (s₁.setTop (mkF m 45 #[.val (.int p1)] [(.int 65536), (.int p1)])) _
            by_cases hc6 : p1 < (65536 : Int32)
            · refine Go.st (fun t k => XS.icmpYes X0.here hx rfl (pc0 := 45) (pc' := 58) rfl (hb hby d2_45) rfl (tlt hc6).1 (by decide) (by decide) k) ?_
              show Go _ _ _ (s₁.setTop (mkF m 58 #[.val (.int p1)] [])) _
              refine Go.st (fun t k => XS.iconst X0.here hx rfl (hb hby d2_58) k) ?_
              show Go _ _ _ (s₁.setTop (mkF m 59 #[.val (.int p1)] [(.int 0)])) _
              obtain ⟨fs, hr, hrun, hended, hW, hsame⟩ := X0.leave (v := some (.int (0 : Int32))) (fun h => by rw [Bd.returns] at h; cases h)
              refine Go.fin (retN X0 hx (t := .boolean) Bd.returns (by simp) (hb hby d2_59) hr) hrun hended ⟨_, _, rfl, ?_, ⟨_, rfl⟩, hW, hsame.mono (by decide) (by decide)⟩
              show Q2 Z p1 h0 n0 _ s₁.heap _
              rw [e0]
              exact ⟨(by unfold f2; simp only [if_neg hc1, if_neg hc2, if_neg hc3, if_pos hc4, if_pos hc5, if_pos hc6]), N0, rfl⟩
            · refine Go.st (fun t k => XS.icmpNo X0.here hx rfl (hb hby d2_45) rfl (flt hc6).1 k) ?_
              show Go _ _ _ (s₁.setTop (mkF m 48 #[.val (.int p1)] [])) _
              refine Go.st (fun t k => XS.iloadN X0.here hx rfl (hb hby d2_48) rfl k) ?_
              show Go _ _ _ (s₁.setTop (mkF m 49 #[.val (.int p1)] [(.int p1)])) _
              refine Go.st (fun t k => X0.ldcInt hx hown (mvT hZ (wd29 hw)) (g := (mkF m 49 #[.val (.int p1)] [(.int p1)])) rfl (hb hby d2_49) _ k) ?_
              show Go _ _ _ (s₁.setTop (mkF m 51 #[.val (.int p1)] [(.int 1114111), (.int p1)])) _
              by_cases hc7 : (1114111 : Int32) < p1
              · refine Go.st (fun t k => XS.icmpYes X0.here hx rfl (pc0 := 51) (pc' := 58) rfl (hb hby d2_51) rfl (tlt hc7).2.2.1 (by decide) (by decide) k) ?_
                show Go _ _ _ (s₁.setTop (mkF m 58 #[.val (.int p1)] [])) _
                refine Go.st (fun t k => XS.iconst X0.here hx rfl (hb hby d2_58) k) ?_
                show Go _ _ _ (s₁.setTop (mkF m 59 #[.val (.int p1)] [(.int 0)])) _
                obtain ⟨fs, hr, hrun, hended, hW, hsame⟩ := X0.leave (v := some (.int (0 : Int32))) (fun h => by rw [Bd.returns] at h; cases h)
                refine Go.fin (retN X0 hx (t := .boolean) Bd.returns (by simp) (hb hby d2_59) hr) hrun hended ⟨_, _, rfl, ?_, ⟨_, rfl⟩, hW, hsame.mono (by decide) (by decide)⟩
                show Q2 Z p1 h0 n0 _ s₁.heap _
                rw [e0]
                exact ⟨(by unfold f2; simp only [if_neg hc1, if_neg hc2, if_neg hc3, if_pos hc4, if_pos hc5, if_neg hc6, if_pos hc7]), N0, rfl⟩
              · refine Go.st (fun t k => XS.icmpNo X0.here hx rfl (hb hby d2_51) rfl (flt hc7).2.2.1 k) ?_
                show Go _ _ _ (s₁.setTop (mkF m 54 #[.val (.int p1)] [])) _
                refine Go.st (fun t k => XS.iconst X0.here hx rfl (hb hby d2_54) k) ?_
                show Go _ _ _ (s₁.setTop (mkF m 55 #[.val (.int p1)] [(.int 1)])) _
                refine Go.st (fun t k => XS.goto X0.here hx rfl (pc0 := 55) (pc' := 59) rfl (hb hby d2_55) (by decide) (by decide) k) ?_
                show Go _ _ _ (s₁.setTop (mkF m 59 #[.val (.int p1)] [(.int 1)])) _
                obtain ⟨fs, hr, hrun, hended, hW, hsame⟩ := X0.leave (v := some (.int (1 : Int32))) (fun h => by rw [Bd.returns] at h; cases h)
                refine Go.fin (retN X0 hx (t := .boolean) Bd.returns (by simp) (hb hby d2_59) hr) hrun hended ⟨_, _, rfl, ?_, ⟨_, rfl⟩, hW, hsame.mono (by decide) (by decide)⟩
                show Q2 Z p1 h0 n0 _ s₁.heap _
                rw [e0]
                exact ⟨(by unfold f2; simp only [if_neg hc1, if_neg hc2, if_neg hc3, if_pos hc4, if_pos hc5, if_neg hc6, if_neg hc7]), N0, rfl⟩
          · refine Go.st (fun t k => XS.icmpNo X0.here hx rfl (hb hby d2_33) rfl (flt hc5).1 k) ?_
            show Go _ _ _ (s₁.setTop (mkF m 36 #[.val (.int p1)] [])) _
            refine Go.st (fun t k => XS.iloadN X0.here hx rfl (hb hby d2_36) rfl k) ?_
            show Go _ _ _ (s₁.setTop (mkF m 37 #[.val (.int p1)] [(.int p1)])) _
            refine Go.st (fun t k => X0.ldcInt hx hown (mvT hZ (wd28 hw)) (g := (mkF m 37 #[.val (.int p1)] [(.int p1)])) rfl (hb hby d2_37) _ k) ?_
            show Go _ _ _ (s₁.setTop (mkF m 39 #[.val (.int p1)] [(.int 65533), (.int p1)])) _
            by_cases hc8 : (65533 : Int32) < p1
            · refine Go.st (fun t k => XS.icmpNo X0.here hx rfl (hb hby d2_39) rfl (tlt hc8).2.2.2 k) ?_
              show Go _ _ _ (s₁.setTop (mkF m 42 #[.val (.int p1)] [])) _
              refine Go.st (fun t k => XS.iloadN X0.here hx rfl (hb hby d2_42) rfl k) ?_
              show Go _ _ _ (s₁.setTop (mkF m 43 #[.val (.int p1)] [(.int p1)])) _
              refine Go.st (fun t k => X0.ldcInt hx hown (mvT hZ (wd23 hw)) (g := (mkF m 43 #[.val (.int p1)] [(.int p1)])) rfl (hb hby d2_43) _ k) ?_
              show Go _ _ _ (s₁.setTop (mkF m 45 #[.val (.int p1)] [(.int 65536), (.int p1)])) _
              by_cases hc9 : p1 < (65536 : Int32)
              · refine Go.st (fun t k => XS.icmpYes X0.here hx rfl (pc0 := 45) (pc' := 58) rfl (hb hby d2_45) rfl (tlt hc9).1 (by decide) (by decide) k) ?_
                show Go _ _ _ (s₁.setTop (mkF m 58 #[.val (.int p1)] [])) _
                refine Go.st (fun t k => XS.iconst X0.here hx rfl (hb hby d2_58) k) ?_
                show Go _ _ _ (s₁.setTop (mkF m 59 #[.val (.int p1)] [(.int 0)])) _
                obtain ⟨fs, hr, hrun, hended, hW, hsame⟩ := X0.leave (v := some (.int (0 : Int32))) (fun h => by rw [Bd.returns] at h; cases h)
                refine Go.fin (retN X0 hx (t := .boolean) Bd.returns (by simp) (hb hby d2_59) hr) hrun hended ⟨_, _, rfl, ?_, ⟨_, rfl⟩, hW, hsame.mono (by decide) (by decide)⟩
                show Q2 Z p1 h0 n0 _ s₁.heap _
                rw [e0]
                exact ⟨(by unfold f2; simp only [if_neg hc1, if_neg hc2, if_neg hc3, if_pos hc4, if_neg hc5, if_pos hc8, if_pos hc9]), N0, rfl⟩
              · refine Go.st (fun t k => XS.icmpNo X0.here hx rfl (hb hby d2_45) rfl (flt hc9).1 k) ?_
                show Go _ _ _ (s₁.setTop (mkF m 48 #[.val (.int p1)] [])) _
                refine Go.st (fun t k => XS.iloadN X0.here hx rfl (hb hby d2_48) rfl k) ?_
                show Go _ _ _ (s₁.setTop (mkF m 49 #[.val (.int p1)] [(.int p1)])) _
                refine Go.st (fun t k => X0.ldcInt hx hown (mvT hZ (wd29 hw)) (g := (mkF m 49 #[.val (.int p1)] [(.int p1)])) rfl (hb hby d2_49) _ k) ?_
                show Go _ _ _ (s₁.setTop (mkF m 51 #[.val (.int p1)] [(.int 1114111), (.int p1)])) _
                by_cases hc10 : (1114111 : Int32) < p1
                · refine Go.st (fun t k => XS.icmpYes X0.here hx rfl (pc0 := 51) (pc' := 58) rfl (hb hby d2_51) rfl (tlt hc10).2.2.1 (by decide) (by decide) k) ?_
                  show Go _ _ _ (s₁.setTop (mkF m 58 #[.val (.int p1)] [])) _
                  refine Go.st (fun t k => XS.iconst X0.here hx rfl (hb hby d2_58) k) ?_
                  show Go _ _ _ (s₁.setTop (mkF m 59 #[.val (.int p1)] [(.int 0)])) _
                  obtain ⟨fs, hr, hrun, hended, hW, hsame⟩ := X0.leave (v := some (.int (0 : Int32))) (fun h => by rw [Bd.returns] at h; cases h)
                  refine Go.fin (retN X0 hx (t := .boolean) Bd.returns (by simp) (hb hby d2_59) hr) hrun hended ⟨_, _, rfl, ?_, ⟨_, rfl⟩, hW, hsame.mono (by decide) (by decide)⟩
                  show Q2 Z p1 h0 n0 _ s₁.heap _
                  rw [e0]
                  exact ⟨(by unfold f2; simp only [if_neg hc1, if_neg hc2, if_neg hc3, if_pos hc4, if_neg hc5, if_pos hc8, if_neg hc9, if_pos hc10]), N0, rfl⟩
                · refine Go.st (fun t k => XS.icmpNo X0.here hx rfl (hb hby d2_51) rfl (flt hc10).2.2.1 k) ?_
                  show Go _ _ _ (s₁.setTop (mkF m 54 #[.val (.int p1)] [])) _
                  refine Go.st (fun t k => XS.iconst X0.here hx rfl (hb hby d2_54) k) ?_
                  show Go _ _ _ (s₁.setTop (mkF m 55 #[.val (.int p1)] [(.int 1)])) _
                  refine Go.st (fun t k => XS.goto X0.here hx rfl (pc0 := 55) (pc' := 59) rfl (hb hby d2_55) (by decide) (by decide) k) ?_
                  show Go _ _ _ (s₁.setTop (mkF m 59 #[.val (.int p1)] [(.int 1)])) _
                  obtain ⟨fs, hr, hrun, hended, hW, hsame⟩ := X0.leave (v := some (.int (1 : Int32))) (fun h => by rw [Bd.returns] at h; cases h)
                  refine Go.fin (retN X0 hx (t := .boolean) Bd.returns (by simp) (hb hby d2_59) hr) hrun hended ⟨_, _, rfl, ?_, ⟨_, rfl⟩, hW, hsame.mono (by decide) (by decide)⟩
                  show Q2 Z p1 h0 n0 _ s₁.heap _
                  rw [e0]
                  exact ⟨(by unfold f2; simp only [if_neg hc1, if_neg hc2, if_neg hc3, if_pos hc4, if_neg hc5, if_pos hc8, if_neg hc9, if_neg hc10]), N0, rfl⟩
            · refine Go.st (fun t k => XS.icmpYes X0.here hx rfl (pc0 := 39) (pc' := 54) rfl (hb hby d2_39) rfl (flt hc8).2.2.2 (by decide) (by decide) k) ?_
              show Go _ _ _ (s₁.setTop (mkF m 54 #[.val (.int p1)] [])) _
              refine Go.st (fun t k => XS.iconst X0.here hx rfl (hb hby d2_54) k) ?_
              show Go _ _ _ (s₁.setTop (mkF m 55 #[.val (.int p1)] [(.int 1)])) _
              refine Go.st (fun t k => XS.goto X0.here hx rfl (pc0 := 55) (pc' := 59) rfl (hb hby d2_55) (by decide) (by decide) k) ?_
              show Go _ _ _ (s₁.setTop (mkF m 59 #[.val (.int p1)] [(.int 1)])) _
              obtain ⟨fs, hr, hrun, hended, hW, hsame⟩ := X0.leave (v := some (.int (1 : Int32))) (fun h => by rw [Bd.returns] at h; cases h)
              refine Go.fin (retN X0 hx (t := .boolean) Bd.returns (by simp) (hb hby d2_59) hr) hrun hended ⟨_, _, rfl, ?_, ⟨_, rfl⟩, hW, hsame.mono (by decide) (by decide)⟩
              show Q2 Z p1 h0 n0 _ s₁.heap _
              rw [e0]
              exact ⟨(by unfold f2; simp only [if_neg hc1, if_neg hc2, if_neg hc3, if_pos hc4, if_neg hc5, if_neg hc8]), N0, rfl⟩
        · refine Go.st (fun t k => XS.icmpNo X0.here hx rfl (hb hby d2_21) rfl (flt hc4).1 k) ?_
          show Go _ _ _ (s₁.setTop (mkF m 24 #[.val (.int p1)] [])) _
          refine Go.st (fun t k => XS.iloadN X0.here hx rfl (hb hby d2_24) rfl k) ?_
          show Go _ _ _ (s₁.setTop (mkF m 25 #[.val (.int p1)] [(.int p1)])) _
          refine Go.st (fun t k => X0.ldcInt hx hown (mvT hZ (wd27 hw)) (g := (mkF m 25 #[.val (.int p1)] [(.int p1)])) rfl (hb hby d2_25) _ k) ?_
          show Go _ _ _ (s₁.setTop (mkF m 27 #[.val (.int p1)] [(.int 55295), (.int p1)])) _
          by_cases hc11 : (55295 : Int32) < p1
          · refine Go.st (fun t k => XS.icmpNo X0.here hx rfl (hb hby d2_27) rfl (tlt hc11).2.2.2 k) ?_
            show Go _ _ _ (s₁.setTop (mkF m 30 #[.val (.int p1)] [])) _
            refine Go.st (fun t k => XS.iloadN X0.here hx rfl (hb hby d2_30) rfl k) ?_
            show Go _ _ _ (s₁.setTop (mkF m 31 #[.val (.int p1)] [(.int p1)])) _
            refine Go.st (fun t k => X0.ldcInt hx hown (mvT hZ (wd22 hw)) (g := (mkF m 31 #[.val (.int p1)] [(.int p1)])) rfl (hb hby d2_31) _ k) ?_
            show Go _ _ _ (s₁.setTop (mkF m 33 #[.val (.int p1)] [(.int 57344), (.int p1)])) _
            by_cases hc12 : p1 < (57344 : Int32)
            · refine Go.st (fun t k => XS.icmpYes X0.here hx rfl (pc0 := 33) (pc' := 42) rfl (hb hby d2_33) rfl (tlt hc12).1 (by decide) (by decide) k) ?_
              show Go _ _ _ (s₁.setTop (mkF m 42 #[.val (.int p1)] [])) _
              refine Go.st (fun t k => XS.iloadN X0.here hx rfl (hb hby d2_42) rfl k) ?_
              show Go _ _ _ (s₁.setTop (mkF m 43 #[.val (.int p1)] [(.int p1)])) _
              refine Go.st (fun t k => X0.ldcInt hx hown (mvT hZ (wd23 hw)) (g := (mkF m 43 #[.val (.int p1)] [(.int p1)])) rfl (hb hby d2_43) _ k) ?_
              show Go _ _ _ (s₁.setTop (mkF m 45 #[.val (.int p1)] [(.int 65536), (.int p1)])) _
              by_cases hc13 : p1 < (65536 : Int32)
              · refine Go.st (fun t k => XS.icmpYes X0.here hx rfl (pc0 := 45) (pc' := 58) rfl (hb hby d2_45) rfl (tlt hc13).1 (by decide) (by decide) k) ?_
                show Go _ _ _ (s₁.setTop (mkF m 58 #[.val (.int p1)] [])) _
                refine Go.st (fun t k => XS.iconst X0.here hx rfl (hb hby d2_58) k) ?_
                show Go _ _ _ (s₁.setTop (mkF m 59 #[.val (.int p1)] [(.int 0)])) _
                obtain ⟨fs, hr, hrun, hended, hW, hsame⟩ := X0.leave (v := some (.int (0 : Int32))) (fun h => by rw [Bd.returns] at h; cases h)
                refine Go.fin (retN X0 hx (t := .boolean) Bd.returns (by simp) (hb hby d2_59) hr) hrun hended ⟨_, _, rfl, ?_, ⟨_, rfl⟩, hW, hsame.mono (by decide) (by decide)⟩
                show Q2 Z p1 h0 n0 _ s₁.heap _
                rw [e0]
                exact ⟨(by unfold f2; simp only [if_neg hc1, if_neg hc2, if_neg hc3, if_neg hc4, if_pos hc11, if_pos hc12, if_pos hc13]), N0, rfl⟩
              · refine Go.st (fun t k => XS.icmpNo X0.here hx rfl (hb hby d2_45) rfl (flt hc13).1 k) ?_
                show Go _ _ _ (s₁.setTop (mkF m 48 #[.val (.int p1)] [])) _
                refine Go.st (fun t k => XS.iloadN X0.here hx rfl (hb hby d2_48) rfl k) ?_
                show Go _ _ _ (s₁.setTop (mkF m 49 #[.val (.int p1)] [(.int p1)])) _
                refine Go.st (fun t k => X0.ldcInt hx hown (mvT hZ (wd29 hw)) (g := (mkF m 49 #[.val (.int p1)] [(.int p1)])) rfl (hb hby d2_49) _ k) ?_
                show Go _ _ _ (s₁.setTop (mkF m 51 #[.val (.int p1)] [(.int 1114111), (.int p1)])) _
                by_cases hc14 : (1114111 : Int32) < p1
                · refine Go.st (fun t k => XS.icmpYes X0.here hx rfl (pc0 := 51) (pc' := 58) rfl (hb hby d2_51) rfl (tlt hc14).2.2.1 (by decide) (by decide) k) ?_
                  show Go _ _ _ (s₁.setTop (mkF m 58 #[.val (.int p1)] [])) _
                  refine Go.st (fun t k => XS.iconst X0.here hx rfl (hb hby d2_58) k) ?_
                  show Go _ _ _ (s₁.setTop (mkF m 59 #[.val (.int p1)] [(.int 0)])) _
                  obtain ⟨fs, hr, hrun, hended, hW, hsame⟩ := X0.leave (v := some (.int (0 : Int32))) (fun h => by rw [Bd.returns] at h; cases h)
                  refine Go.fin (retN X0 hx (t := .boolean) Bd.returns (by simp) (hb hby d2_59) hr) hrun hended ⟨_, _, rfl, ?_, ⟨_, rfl⟩, hW, hsame.mono (by decide) (by decide)⟩
                  show Q2 Z p1 h0 n0 _ s₁.heap _
                  rw [e0]
                  exact ⟨(by unfold f2; simp only [if_neg hc1, if_neg hc2, if_neg hc3, if_neg hc4, if_pos hc11, if_pos hc12, if_neg hc13, if_pos hc14]), N0, rfl⟩
                · refine Go.st (fun t k => XS.icmpNo X0.here hx rfl (hb hby d2_51) rfl (flt hc14).2.2.1 k) ?_
                  show Go _ _ _ (s₁.setTop (mkF m 54 #[.val (.int p1)] [])) _
                  refine Go.st (fun t k => XS.iconst X0.here hx rfl (hb hby d2_54) k) ?_
                  show Go _ _ _ (s₁.setTop (mkF m 55 #[.val (.int p1)] [(.int 1)])) _
                  refine Go.st (fun t k => XS.goto X0.here hx rfl (pc0 := 55) (pc' := 59) rfl (hb hby d2_55) (by decide) (by decide) k) ?_
                  show Go _ _ _ (s₁.setTop (mkF m 59 #[.val (.int p1)] [(.int 1)])) _
                  obtain ⟨fs, hr, hrun, hended, hW, hsame⟩ := X0.leave (v := some (.int (1 : Int32))) (fun h => by rw [Bd.returns] at h; cases h)
                  refine Go.fin (retN X0 hx (t := .boolean) Bd.returns (by simp) (hb hby d2_59) hr) hrun hended ⟨_, _, rfl, ?_, ⟨_, rfl⟩, hW, hsame.mono (by decide) (by decide)⟩
                  show Q2 Z p1 h0 n0 _ s₁.heap _
                  rw [e0]
                  exact ⟨(by unfold f2; simp only [if_neg hc1, if_neg hc2, if_neg hc3, if_neg hc4, if_pos hc11, if_pos hc12, if_neg hc13, if_neg hc14]), N0, rfl⟩
            · refine Go.st (fun t k => XS.icmpNo X0.here hx rfl (hb hby d2_33) rfl (flt hc12).1 k) ?_
              show Go _ _ _ (s₁.setTop (mkF m 36 #[.val (.int p1)] [])) _
              refine Go.st (fun t k => XS.iloadN X0.here hx rfl (hb hby d2_36) rfl k) ?_
              show Go _ _ _ (s₁.setTop (mkF m 37 #[.val (.int p1)] [(.int p1)])) _
              refine Go.st (fun t k => X0.ldcInt hx hown (mvT hZ (wd28 hw)) (g := (mkF m 37 #[.val (.int p1)] [(.int p1)])) rfl (hb hby d2_37) _ k) ?_
              show Go _ _ _ (s₁.setTop (mkF m 39 #[.val (.int p1)] [(.int 65533), (.int p1)])) _
              by_cases hc15 : (65533 : Int32) < p1
              · refine Go.st (fun t k => XS.icmpNo X0.here hx rfl (hb hby d2_39) rfl (tlt hc15).2.2.2 k) ?_
                show Go _ _ _ (s₁.setTop (mkF m 42 #[.val (.int p1)] [])) _
                refine Go.st (fun t k => XS.iloadN X0.here hx rfl (hb hby d2_42) rfl k) ?_
                show Go _ _ _ (s₁.setTop (mkF m 43 #[.val (.int p1)] [(.int p1)])) _
                refine Go.st (fun t k => X0.ldcInt hx hown (mvT hZ (wd23 hw)) (g := (mkF m 43 #[.val (.int p1)] [(.int p1)])) rfl (hb hby d2_43) _ k) ?_
                show Go _ _ _ (s₁.setTop (mkF m 45 #[.val (.int p1)] [(.int 65536), (.int p1)])) _
                by_cases hc16 : p1 < (65536 : Int32)
                · refine Go.st (fun t k => XS.icmpYes X0.here hx rfl (pc0 := 45) (pc' := 58) rfl (hb hby d2_45) rfl (tlt hc16).1 (by decide) (by decide) k) ?_
                  show Go _ _ _ (s₁.setTop (mkF m 58 #[.val (.int p1)] [])) _
                  refine Go.st (fun t k => XS.iconst X0.here hx rfl (hb hby d2_58) k) ?_
                  show Go _ _ _ (s₁.setTop (mkF m 59 #[.val (.int p1)] [(.int 0)])) _
                  obtain ⟨fs, hr, hrun, hended, hW, hsame⟩ := X0.leave (v := some (.int (0 : Int32))) (fun h => by rw [Bd.returns] at h; cases h)
                  refine Go.fin (retN X0 hx (t := .boolean) Bd.returns (by simp) (hb hby d2_59) hr) hrun hended ⟨_, _, rfl, ?_, ⟨_, rfl⟩, hW, hsame.mono (by decide) (by decide)⟩
                  show Q2 Z p1 h0 n0 _ s₁.heap _
                  rw [e0]
                  exact ⟨(by unfold f2; simp only [if_neg hc1, if_neg hc2, if_neg hc3, if_neg hc4, if_pos hc11, if_neg hc12, if_pos hc15, if_pos hc16]), N0, rfl⟩
                · refine Go.st (fun t k => XS.icmpNo X0.here hx rfl (hb hby d2_45) rfl (flt hc16).1 k) ?_
                  show Go _ _ _ (s₁.setTop (mkF m 48 #[.val (.int p1)] [])) _
                  refine Go.st (fun t k => XS.iloadN X0.here hx rfl (hb hby d2_48) rfl k) ?_
                  show Go _ _ _ (s₁.setTop (mkF m 49 #[.val (.int p1)] [(.int p1)])) _
                  refine Go.st (fun t k => X0.ldcInt hx hown (mvT hZ (wd29 hw)) (g := (mkF m 49 #[.val (.int p1)] [(.int p1)])) rfl (hb hby d2_49) _ k) ?_
                  show Go _ _ _ (s₁.setTop (mkF m 51 #[.val (.int p1)] [(.int 1114111), (.int p1)])) _
                  by_cases hc17 : (1114111 : Int32) < p1
                  · refine Go.st (fun t k => XS.icmpYes X0.here hx rfl (pc0 := 51) (pc' := 58) rfl (hb hby d2_51) rfl (tlt hc17).2.2.1 (by decide) (by decide) k) ?_
                    show Go _ _ _ (s₁.setTop (mkF m 58 #[.val (.int p1)] [])) _
                    refine Go.st (fun t k => XS.iconst X0.here hx rfl (hb hby d2_58) k) ?_
                    show Go _ _ _ (s₁.setTop (mkF m 59 #[.val (.int p1)] [(.int 0)])) _
                    obtain ⟨fs, hr, hrun, hended, hW, hsame⟩ := X0.leave (v := some (.int (0 : Int32))) (fun h => by rw [Bd.returns] at h; cases h)
                    refine Go.fin (retN X0 hx (t := .boolean) Bd.returns (by simp) (hb hby d2_59) hr) hrun hended ⟨_, _, rfl, ?_, ⟨_, rfl⟩, hW, hsame.mono (by decide) (by decide)⟩
                    show Q2 Z p1 h0 n0 _ s₁.heap _
                    rw [e0]
                    exact ⟨(by unfold f2; simp only [if_neg hc1, if_neg hc2, if_neg hc3, if_neg hc4, if_pos hc11, if_neg hc12, if_pos hc15, if_neg hc16, if_pos hc17]), N0, rfl⟩
                  · refine Go.st (fun t k => XS.icmpNo X0.here hx rfl (hb hby d2_51) rfl (flt hc17).2.2.1 k) ?_
                    show Go _ _ _ (s₁.setTop (mkF m 54 #[.val (.int p1)] [])) _
                    refine Go.st (fun t k => XS.iconst X0.here hx rfl (hb hby d2_54) k) ?_
                    show Go _ _ _ (s₁.setTop (mkF m 55 #[.val (.int p1)] [(.int 1)])) _
                    refine Go.st (fun t k => XS.goto X0.here hx rfl (pc0 := 55) (pc' := 59) rfl (hb hby d2_55) (by decide) (by decide) k) ?_
                    show Go _ _ _ (s₁.setTop (mkF m 59 #[.val (.int p1)] [(.int 1)])) _
                    obtain ⟨fs, hr, hrun, hended, hW, hsame⟩ := X0.leave (v := some (.int (1 : Int32))) (fun h => by rw [Bd.returns] at h; cases h)
                    refine Go.fin (retN X0 hx (t := .boolean) Bd.returns (by simp) (hb hby d2_59) hr) hrun hended ⟨_, _, rfl, ?_, ⟨_, rfl⟩, hW, hsame.mono (by decide) (by decide)⟩
                    show Q2 Z p1 h0 n0 _ s₁.heap _
                    rw [e0]
                    exact ⟨(by unfold f2; simp only [if_neg hc1, if_neg hc2, if_neg hc3, if_neg hc4, if_pos hc11, if_neg hc12, if_pos hc15, if_neg hc16, if_neg hc17]), N0, rfl⟩
              · refine Go.st (fun t k => XS.icmpYes X0.here hx rfl (pc0 := 39) (pc' := 54) rfl (hb hby d2_39) rfl (flt hc15).2.2.2 (by decide) (by decide) k) ?_
                show Go _ _ _ (s₁.setTop (mkF m 54 #[.val (.int p1)] [])) _
                refine Go.st (fun t k => XS.iconst X0.here hx rfl (hb hby d2_54) k) ?_
                show Go _ _ _ (s₁.setTop (mkF m 55 #[.val (.int p1)] [(.int 1)])) _
                refine Go.st (fun t k => XS.goto X0.here hx rfl (pc0 := 55) (pc' := 59) rfl (hb hby d2_55) (by decide) (by decide) k) ?_
                show Go _ _ _ (s₁.setTop (mkF m 59 #[.val (.int p1)] [(.int 1)])) _
                obtain ⟨fs, hr, hrun, hended, hW, hsame⟩ := X0.leave (v := some (.int (1 : Int32))) (fun h => by rw [Bd.returns] at h; cases h)
                refine Go.fin (retN X0 hx (t := .boolean) Bd.returns (by simp) (hb hby d2_59) hr) hrun hended ⟨_, _, rfl, ?_, ⟨_, rfl⟩, hW, hsame.mono (by decide) (by decide)⟩
                show Q2 Z p1 h0 n0 _ s₁.heap _
                rw [e0]
                exact ⟨(by unfold f2; simp only [if_neg hc1, if_neg hc2, if_neg hc3, if_neg hc4, if_pos hc11, if_neg hc12, if_neg hc15]), N0, rfl⟩
          · refine Go.st (fun t k => XS.icmpYes X0.here hx rfl (pc0 := 27) (pc' := 54) rfl (hb hby d2_27) rfl (flt hc11).2.2.2 (by decide) (by decide) k) ?_
            show Go _ _ _ (s₁.setTop (mkF m 54 #[.val (.int p1)] [])) _
            refine Go.st (fun t k => XS.iconst X0.here hx rfl (hb hby d2_54) k) ?_
            show Go _ _ _ (s₁.setTop (mkF m 55 #[.val (.int p1)] [(.int 1)])) _
            refine Go.st (fun t k => XS.goto X0.here hx rfl (pc0 := 55) (pc' := 59) rfl (hb hby d2_55) (by decide) (by decide) k) ?_
            show Go _ _ _ (s₁.setTop (mkF m 59 #[.val (.int p1)] [(.int 1)])) _
            obtain ⟨fs, hr, hrun, hended, hW, hsame⟩ := X0.leave (v := some (.int (1 : Int32))) (fun h => by rw [Bd.returns] at h; cases h)
            refine Go.fin (retN X0 hx (t := .boolean) Bd.returns (by simp) (hb hby d2_59) hr) hrun hended ⟨_, _, rfl, ?_, ⟨_, rfl⟩, hW, hsame.mono (by decide) (by decide)⟩
            show Q2 Z p1 h0 n0 _ s₁.heap _
            rw [e0]
            exact ⟨(by unfold f2; simp only [if_neg hc1, if_neg hc2, if_neg hc3, if_neg hc4, if_neg hc11]), N0, rfl⟩
theorem d3_0 : decode method_2_code 0 = .ok (.iload_n 0, 1) := by decide +kernel
theorem d3_1 : decode method_2_code 1 = .ok (.ifCond .lt 9, 3) := by decide +kernel
theorem d3_10 : decode method_2_code 10 = .ok (.iconst 0, 1) := by decide +kernel
theorem d3_11 : decode method_2_code 11 = .ok (.ireturn, 1) := by decide +kernel
theorem d3_4 : decode method_2_code 4 = .ok (.iload_n 0, 1) := by decide +kernel
theorem d3_5 : decode method_2_code 5 = .ok (.ldc 7, 2) := by decide +kernel
theorem wd9 {Z : State} {a0 : Array Value} (hw : ∀ d ∈ tables_1, d.before a0 Z = true) : (Jvm.Cond.constant "com/example/tariffwire/tariffwire/xml/XmlDocumentsIsXmlCharacterPinLaw" (7 : Nat) (1114111 : Int32)).before a0 Z = true := hw _ (List.mem_of_getElem? (i := 9) rfl)
theorem d3_7 : decode method_2_code 7 = .ok (.if_icmp .le 5, 3) := by decide +kernel
theorem d3_12 : decode method_2_code 12 = .ok (.iload_n 0, 1) := by decide +kernel
theorem d3_13 : decode method_2_code 13 = .ok (.bipush 32, 2) := by decide +kernel
theorem d3_15 : decode method_2_code 15 = .ok (.if_icmp .ge 27, 3) := by decide +kernel
theorem d3_18 : decode method_2_code 18 = .ok (.iload_n 0, 1) := by decide +kernel
theorem d3_19 : decode method_2_code 19 = .ok (.bipush 9, 2) := by decide +kernel
theorem d3_21 : decode method_2_code 21 = .ok (.if_icmp .eq 15, 3) := by decide +kernel
theorem d3_36 : decode method_2_code 36 = .ok (.iconst 1, 1) := by decide +kernel
theorem d3_37 : decode method_2_code 37 = .ok (.goto 4, 3) := by decide +kernel
theorem d3_41 : decode method_2_code 41 = .ok (.ireturn, 1) := by decide +kernel
theorem d3_24 : decode method_2_code 24 = .ok (.iload_n 0, 1) := by decide +kernel
theorem d3_25 : decode method_2_code 25 = .ok (.bipush 10, 2) := by decide +kernel
theorem d3_27 : decode method_2_code 27 = .ok (.if_icmp .eq 9, 3) := by decide +kernel
theorem d3_30 : decode method_2_code 30 = .ok (.iload_n 0, 1) := by decide +kernel
theorem d3_31 : decode method_2_code 31 = .ok (.bipush 13, 2) := by decide +kernel
theorem d3_33 : decode method_2_code 33 = .ok (.if_icmp .ne 7, 3) := by decide +kernel
theorem d3_40 : decode method_2_code 40 = .ok (.iconst 0, 1) := by decide +kernel
theorem d3_42 : decode method_2_code 42 = .ok (.iload_n 0, 1) := by decide +kernel
theorem d3_43 : decode method_2_code 43 = .ok (.ldc 8, 2) := by decide +kernel
theorem wd2 {Z : State} {a0 : Array Value} (hw : ∀ d ∈ tables_1, d.before a0 Z = true) : (Jvm.Cond.constant "com/example/tariffwire/tariffwire/xml/XmlDocumentsIsXmlCharacterPinLaw" (8 : Nat) (55296 : Int32)).before a0 Z = true := hw _ (List.mem_of_getElem? (i := 2) rfl)
theorem d3_45 : decode method_2_code 45 = .ok (.if_icmp .lt 11, 3) := by decide +kernel
theorem d3_56 : decode method_2_code 56 = .ok (.iload_n 0, 1) := by decide +kernel
theorem d3_57 : decode method_2_code 57 = .ok (.ldc 10, 2) := by decide +kernel
theorem wd6 {Z : State} {a0 : Array Value} (hw : ∀ d ∈ tables_1, d.before a0 Z = true) : (Jvm.Cond.constant "com/example/tariffwire/tariffwire/xml/XmlDocumentsIsXmlCharacterPinLaw" (10 : Nat) (65534 : Int32)).before a0 Z = true := hw _ (List.mem_of_getElem? (i := 6) rfl)
theorem d3_59 : decode method_2_code 59 = .ok (.if_icmp .eq 9, 3) := by decide +kernel
theorem d3_68 : decode method_2_code 68 = .ok (.iconst 0, 1) := by decide +kernel
theorem d3_69 : decode method_2_code 69 = .ok (.ireturn, 1) := by decide +kernel
theorem d3_62 : decode method_2_code 62 = .ok (.iload_n 0, 1) := by decide +kernel
theorem d3_63 : decode method_2_code 63 = .ok (.ldc 11, 2) := by decide +kernel
theorem wd7 {Z : State} {a0 : Array Value} (hw : ∀ d ∈ tables_1, d.before a0 Z = true) : (Jvm.Cond.constant "com/example/tariffwire/tariffwire/xml/XmlDocumentsIsXmlCharacterPinLaw" (11 : Nat) (65535 : Int32)).before a0 Z = true := hw _ (List.mem_of_getElem? (i := 7) rfl)
theorem d3_65 : decode method_2_code 65 = .ok (.if_icmp .ne 5, 3) := by decide +kernel
theorem d3_70 : decode method_2_code 70 = .ok (.iconst 1, 1) := by decide +kernel
theorem d3_71 : decode method_2_code 71 = .ok (.ireturn, 1) := by decide +kernel
theorem d3_48 : decode method_2_code 48 = .ok (.iload_n 0, 1) := by decide +kernel
theorem d3_49 : decode method_2_code 49 = .ok (.ldc 9, 2) := by decide +kernel
theorem wd3 {Z : State} {a0 : Array Value} (hw : ∀ d ∈ tables_1, d.before a0 Z = true) : (Jvm.Cond.constant "com/example/tariffwire/tariffwire/xml/XmlDocumentsIsXmlCharacterPinLaw" (9 : Nat) (57343 : Int32)).before a0 Z = true := hw _ (List.mem_of_getElem? (i := 3) rfl)
theorem d3_51 : decode method_2_code 51 = .ok (.if_icmp .gt 5, 3) := by decide +kernel
theorem d3_54 : decode method_2_code 54 = .ok (.iconst 0, 1) := by decide +kernel
theorem d3_55 : decode method_2_code 55 = .ok (.ireturn, 1) := by decide +kernel
theorem pn1 : plainName "com/example/tariffwire/tariffwire/xml/XmlDocumentsIsXmlCharacterPinLaw" = true := by first | (simp [plainName, overriddenIn]; done) | decide +kernel
def f3 (p1 : Int32) : Int32 := (if p1 < (0 : Int32) then (0 : Int32) else (if (1114111 : Int32) < p1 then (0 : Int32) else (if p1 < (32 : Int32) then (if p1 = (9 : Int32) then (1 : Int32) else (if p1 = (10 : Int32) then (1 : Int32) else (if p1 = (13 : Int32) then (1 : Int32) else (0 : Int32)))) else (if p1 < (55296 : Int32) then (if p1 = (65534 : Int32) then (0 : Int32) else (if p1 = (65535 : Int32) then (0 : Int32) else (1 : Int32))) else (if (57343 : Int32) < p1 then (if p1 = (65534 : Int32) then (0 : Int32) else (if p1 = (65535 : Int32) then (0 : Int32) else (1 : Int32))) else (0 : Int32))))))
def Q3 (Z : State) (p1 : Int32) (h0 : Heap) (n0 : Nat) (v : Option Value) (h : Heap) (L : List Loc) : Prop := v = some (.int (f3 p1)) ∧ Fr n0 L ∧ h = h0
theorem ef3 (m : MethodId) (x0 : Int32) : entryFrame m #[(.int x0)] 1 = mkF m 0 #[.val (.int x0)] [] := by first | (simp [entryFrame, mkF, argsToLocals, Value.category]; done) | rfl
set_option maxRecDepth 65536 in
set_option maxHeartbeats 16000000 in
theorem rm3 (l : Launch) (Z : State) (a0 : Array Value) (hw : ∀ d ∈ tables_1, d.before a0 Z = true) (ws : List Jvm.Cond) (p1 : Int32) (h0 : Heap) (n0 : Nat) (Z0 : n0 ≤ h0.size) :
    MetFree l (⟨"com/example/tariffwire/tariffwire/xml/XmlDocumentsIsXmlCharacterPinLaw", "reference", "(I)Z"⟩ : MethodName) (head1 (Jvm.Cond.code (⟨"com/example/tariffwire/tariffwire/xml/XmlDocumentsIsXmlCharacterPinLaw", "reference", "(I)Z"⟩ : MethodName) method_2_code 1 (some .boolean) :: ws) ({ frames := 0, cells := 0, slots := 0, locals := 0 } : Room)) (fun a U => a = #[(.int p1)] ∧ Z.Warmed39 U.vm ∧ U.heap = h0) (fun _ _ _ _ _ => True) (fun _ U o U' => ∃ v L, o = .returned v ∧ Q3 Z p1 h0 n0 v U'.heap L ∧ FrameEnd U o U' L ({ frames := 0, cells := 0, slots := 0, locals := 0 } : Room).cells ({ frames := 0, cells := 0, slots := 0, locals := 0 } : Room).slots) := by
  refine MetFree.of_bodySF (plainFor_of_name pn1) hisR ?_
  intro p e s m args below meth c s₁ Bd hml0 hP hK
  obtain ⟨rfl, hZ, hh⟩ := hP
  have hx := Bd.exec
  have hby := Bd.bytes
  have hml : c.maxLocals = 1 := hml0
  have hown : s.vm.findClass "com/example/tariffwire/tariffwire/xml/XmlDocumentsIsXmlCharacterPinLaw" = some m.cls := findClass_of_methodNamed Bd.named
  have hnm := (name_of_methodNamed Bd.named Bd.method).1
  have X0 : Stand p l e ({ frames := 0, cells := 0, slots := 0, locals := 0 } : Room) s m #[(.int p1)] below meth c s₁ [] 0 0 := Stand.of_body Bd
  have e0 : s₁.heap = h0 := by rw [← hh, Bd.state]; rfl
  have N0 := Fr.nil n0
  have K0 : Keep h0 h0 [] := Keep.refl h0 _
  refine Go.st (P := fun o U' => ∃ v L, o = .returned v ∧ Q3 Z p1 h0 n0 v U'.heap L ∧ FrameEnd s o U' L ({ frames := 0, cells := 0, slots := 0, locals := 0 } : Room).cells ({ frames := 0, cells := 0, slots := 0, locals := 0 } : Room).slots) (fun t k => castTop (ef3 m p1) k) ?_
  show Go _ _ _ (s₁.setTop (mkF m 0 #[.val (.int p1)] [])) _
  refine Go.st (fun t k => XS.iloadN X0.here hx rfl (hb hby d3_0) rfl k) ?_
  show Go _ _ _ (s₁.setTop (mkF m 1 #[.val (.int p1)] [(.int p1)])) _
  by_cases hc1 : p1 < (0 : Int32)
  · refine Go.st (fun t k => XS.ifYes X0.here hx rfl (pc0 := 1) (pc' := 10) rfl (hb hby d3_1) rfl ((if0 _ _).trans (tlt hc1).1) (by decide) (by decide) k) ?_
    show Go _ _ _ (s₁.setTop (mkF m 10 #[.val (.int p1)] [])) _
    refine Go.st (fun t k => XS.iconst X0.here hx rfl (hb hby d3_10) k) ?_
    show Go _ _ _ (s₁.setTop (mkF m 11 #[.val (.int p1)] [(.int 0)])) _
    obtain ⟨fs, hr, hrun, hended, hW, hsame⟩ := X0.leave (v := some (.int (0 : Int32))) (fun h => by rw [Bd.returns] at h; cases h)
    refine Go.fin (retN X0 hx (t := .boolean) Bd.returns (by simp) (hb hby d3_11) hr) hrun hended ⟨_, _, rfl, ?_, ⟨_, rfl⟩, hW, hsame.mono (by decide) (by decide)⟩
    show Q3 Z p1 h0 n0 _ s₁.heap _
    rw [e0]
    exact ⟨(by unfold f3; simp only [if_pos hc1]), N0, rfl⟩
  · refine Go.st (fun t k => XS.ifNo X0.here hx rfl (hb hby d3_1) rfl ((if0 _ _).trans (flt hc1).1) k) ?_
    show Go _ _ _ (s₁.setTop (mkF m 4 #[.val (.int p1)] [])) _
    refine Go.st (fun t k => XS.iloadN X0.here hx rfl (hb hby d3_4) rfl k) ?_
    show Go _ _ _ (s₁.setTop (mkF m 5 #[.val (.int p1)] [(.int p1)])) _
    refine Go.st (fun t k => X0.ldcInt hx hown (mvT hZ (wd9 hw)) (g := (mkF m 5 #[.val (.int p1)] [(.int p1)])) rfl (hb hby d3_5) _ k) ?_
    show Go _ _ _ (s₁.setTop (mkF m 7 #[.val (.int p1)] [(.int 1114111), (.int p1)])) _
    by_cases hc2 : (1114111 : Int32) < p1
    · refine Go.st (fun t k => XS.icmpNo X0.here hx rfl (hb hby d3_7) rfl (tlt hc2).2.2.2 k) ?_
      show Go _ _ _ (s₁.setTop (mkF m 10 #[.val (.int p1)] [])) _
      refine Go.st (fun t k => XS.iconst X0.here hx rfl (hb hby d3_10) k) ?_
      show Go _ _ _ (s₁.setTop (mkF m 11 #[.val (.int p1)] [(.int 0)])) _
      obtain ⟨fs, hr, hrun, hended, hW, hsame⟩ := X0.leave (v := some (.int (0 : Int32))) (fun h => by rw [Bd.returns] at h; cases h)
      refine Go.fin (retN X0 hx (t := .boolean) Bd.returns (by simp) (hb hby d3_11) hr) hrun hended ⟨_, _, rfl, ?_, ⟨_, rfl⟩, hW, hsame.mono (by decide) (by decide)⟩
      show Q3 Z p1 h0 n0 _ s₁.heap _
      rw [e0]
      exact ⟨(by unfold f3; simp only [if_neg hc1, if_pos hc2]), N0, rfl⟩
    · refine Go.st (fun t k => XS.icmpYes X0.here hx rfl (pc0 := 7) (pc' := 12) rfl (hb hby d3_7) rfl (flt hc2).2.2.2 (by decide) (by decide) k) ?_
      show Go _ _ _ (s₁.setTop (mkF m 12 #[.val (.int p1)] [])) _
      refine Go.st (fun t k => XS.iloadN X0.here hx rfl (hb hby d3_12) rfl k) ?_
      show Go _ _ _ (s₁.setTop (mkF m 13 #[.val (.int p1)] [(.int p1)])) _
      refine Go.st (fun t k => XS.bipush X0.here hx rfl (hb hby d3_13) k) ?_
      show Go _ _ _ (s₁.setTop (mkF m 15 #[.val (.int p1)] [(.int 32), (.int p1)])) _
      by_cases hc3 : p1 < (32 : Int32)
      · refine Go.st (fun t k => XS.icmpNo X0.here hx rfl (hb hby d3_15) rfl (tlt hc3).2.1 k) ?_
        show Go _ _ _ (s₁.setTop (mkF m 18 #[.val (.int p1)] [])) _
        refine Go.st (fun t k => XS.iloadN X0.here hx rfl (hb hby d3_18) rfl k) ?_
        show Go _ _ _ (s₁.setTop (mkF m 19 #[.val (.int p1)] [(.int p1)])) _
        refine Go.st (fun t k => XS.bipush X0.here hx rfl (hb hby d3_19) k) ?_
        show Go _ _ _ (s₁.setTop (mkF m 21 #[.val (.int p1)] [(.int 9), (.int p1)])) _
        by_cases hc4 : p1 = (9 : Int32)
        · refine Go.st (fun t k => XS.icmpYes X0.here hx rfl (pc0 := 21) (pc' := 36) rfl (hb hby d3_21) rfl (teq hc4).1 (by decide) (by decide) k) ?_
          show Go _ _ _ (s₁.setTop (mkF m 36 #[.val (.int p1)] [])) _
          refine Go.st (fun t k => XS.iconst X0.here hx rfl (hb hby d3_36) k) ?_
          show Go _ _ _ (s₁.setTop (mkF m 37 #[.val (.int p1)] [(.int 1)])) _
          refine Go.st (fun t k => XS.goto X0.here hx rfl (pc0 := 37) (pc' := 41) rfl (hb hby d3_37) (by decide) (by decide) k) ?_
          show Go _ _ _ (s₁.setTop (mkF m 41 #[.val (.int p1)] [(.int 1)])) _
          obtain ⟨fs, hr, hrun, hended, hW, hsame⟩ := X0.leave (v := some (.int (1 : Int32))) (fun h => by rw [Bd.returns] at h; cases h)
          refine Go.fin (retN X0 hx (t := .boolean) Bd.returns (by simp) (hb hby d3_41) hr) hrun hended ⟨_, _, rfl, ?_, ⟨_, rfl⟩, hW, hsame.mono (by decide) (by decide)⟩
          show Q3 Z p1 h0 n0 _ s₁.heap _
          rw [e0]
          exact ⟨(by unfold f3; simp only [if_neg hc1, if_neg hc2, if_pos hc3, if_pos hc4]), N0, rfl⟩
        · refine Go.st (fun t k => XS.icmpNo X0.here hx rfl (hb hby d3_21) rfl (feq hc4).1 k) ?_
          show Go _ _ _ (s₁.setTop (mkF m 24 #[.val (.int p1)] [])) _
          refine Go.st (fun t k => XS.iloadN X0.here hx rfl (hb hby d3_24) rfl k) ?_
          show Go _ _ _ (s₁.setTop (mkF m 25 #[.val (.int p1)] [(.int p1)])) _
          refine Go.st (fun t k => XS.bipush X0.here hx rfl (hb hby d3_25) k) ?_
          show Go _ _ _ (s₁.setTop (mkF m 27 #[.val (.int p1)] [(.int 10), (.int p1)])) _
          by_cases hc5 : p1 = (10 : Int32)
          · refine Go.st (fun t k => XS.icmpYes X0.here hx rfl (pc0 := 27) (pc' := 36) rfl (hb hby d3_27) rfl (teq hc5).1 (by decide) (by decide) k) ?_
            show Go _ _ _ (s₁.setTop (mkF m 36 #[.val (.int p1)] [])) _
            refine Go.st (fun t k => XS.iconst X0.here hx rfl (hb hby d3_36) k) ?_
            show Go _ _ _ (s₁.setTop (mkF m 37 #[.val (.int p1)] [(.int 1)])) _
            refine Go.st (fun t k => XS.goto X0.here hx rfl (pc0 := 37) (pc' := 41) rfl (hb hby d3_37) (by decide) (by decide) k) ?_
            show Go _ _ _ (s₁.setTop (mkF m 41 #[.val (.int p1)] [(.int 1)])) _
            obtain ⟨fs, hr, hrun, hended, hW, hsame⟩ := X0.leave (v := some (.int (1 : Int32))) (fun h => by rw [Bd.returns] at h; cases h)
            refine Go.fin (retN X0 hx (t := .boolean) Bd.returns (by simp) (hb hby d3_41) hr) hrun hended ⟨_, _, rfl, ?_, ⟨_, rfl⟩, hW, hsame.mono (by decide) (by decide)⟩
            show Q3 Z p1 h0 n0 _ s₁.heap _
            rw [e0]
            exact ⟨(by unfold f3; simp only [if_neg hc1, if_neg hc2, if_pos hc3, if_neg hc4, if_pos hc5]), N0, rfl⟩
          · refine Go.st (fun t k => XS.icmpNo X0.here hx rfl (hb hby d3_27) rfl (feq hc5).1 k) ?_
            show Go _ _ _ (s₁.setTop (mkF m 30 #[.val (.int p1)] [])) _
            refine Go.st (fun t k => XS.iloadN X0.here hx rfl (hb hby d3_30) rfl k) ?_
            show Go _ _ _ (s₁.setTop (mkF m 31 #[.val (.int p1)] [(.int p1)])) _
            refine Go.st (fun t k => XS.bipush X0.here hx rfl (hb hby d3_31) k) ?_
            show Go _ _ _ (s₁.setTop (mkF m 33 #[.val (.int p1)] [(.int 13), (.int p1)])) _
            by_cases hc6 : p1 = (13 : Int32)
            · refine Go.st (fun t k => XS.icmpNo X0.here hx rfl (hb hby d3_33) rfl (teq hc6).2 k) ?_
              show Go _ _ _ (s₁.setTop (mkF m 36 #[.val (.int p1)] [])) _
              refine Go.st (fun t k => XS.iconst X0.here hx rfl (hb hby d3_36) k) ?_
              show Go _ _ _ (s₁.setTop (mkF m 37 #[.val (.int p1)] [(.int 1)])) _
              refine Go.st (fun t k => XS.goto X0.here hx rfl (pc0 := 37) (pc' := 41) rfl (hb hby d3_37) (by decide) (by decide) k) ?_
              show Go _ _ _ (s₁.setTop (mkF m 41 #[.val (.int p1)] [(.int 1)])) _
              obtain ⟨fs, hr, hrun, hended, hW, hsame⟩ := X0.leave (v := some (.int (1 : Int32))) (fun h => by rw [Bd.returns] at h; cases h)
              refine Go.fin (retN X0 hx (t := .boolean) Bd.returns (by simp) (hb hby d3_41) hr) hrun hended ⟨_, _, rfl, ?_, ⟨_, rfl⟩, hW, hsame.mono (by decide) (by decide)⟩
              show Q3 Z p1 h0 n0 _ s₁.heap _
              rw [e0]
              exact ⟨(by unfold f3; simp only [if_neg hc1, if_neg hc2, if_pos hc3, if_neg hc4, if_neg hc5, if_pos hc6]), N0, rfl⟩
            · refine Go.st (fun t k => XS.icmpYes X0.here hx rfl (pc0 := 33) (pc' := 40) rfl (hb hby d3_33) rfl (feq hc6).2 (by decide) (by decide) k) ?_
              show Go _ _ _ (s₁.setTop (mkF m 40 #[.val (.int p1)] [])) _
              refine Go.st (fun t k => XS.iconst X0.here hx rfl (hb hby d3_40) k) ?_
              show Go _ _ _ (s₁.setTop (mkF m 41 #[.val (.int p1)] [(.int 0)])) _
              obtain ⟨fs, hr, hrun, hended, hW, hsame⟩ := X0.leave (v := some (.int (0 : Int32))) (fun h => by rw [Bd.returns] at h; cases h)
              refine Go.fin (retN X0 hx (t := .boolean) Bd.returns (by simp) (hb hby d3_41) hr) hrun hended ⟨_, _, rfl, ?_, ⟨_, rfl⟩, hW, hsame.mono (by decide) (by decide)⟩
              show Q3 Z p1 h0 n0 _ s₁.heap _
              rw [e0]
              exact ⟨(by unfold f3; simp only [if_neg hc1, if_neg hc2, if_pos hc3, if_neg hc4, if_neg hc5, if_neg hc6]), N0, rfl⟩
      · refine Go.st (fun t k => XS.icmpYes X0.here hx rfl (pc0 := 15) (pc' := 42) rfl (hb hby d3_15) rfl (flt hc3).2.1 (by decide) (by decide) k) ?_
        show Go _ _ _ (s₁.setTop (mkF m 42 #[.val (.int p1)] [])) _
        refine Go.st (fun t k => XS.iloadN X0.here hx rfl (hb hby d3_42) rfl k) ?_
        show Go _ _ _ (s₁.setTop (mkF m 43 #[.val (.int p1)] [(.int p1)])) _
        refine Go.st (fun t k => X0.ldcInt hx hown (mvT hZ (wd2 hw)) (g := (mkF m 43 #[.val (.int p1)] [(.int p1)])) rfl (hb hby d3_43) _ k) ?_
        show Go _ _ _ (s₁.setTop (mkF m 45 #[.val (.int p1)] [(.int 55296), (.int p1)])) _
        by_cases hc7 : p1 < (55296 : Int32)
        · refine Go.st (fun t k => XS.icmpYes X0.here hx rfl (pc0 := 45) (pc' := 56) rfl (hb hby d3_45) rfl (tlt hc7).1 (by decide) (by decide) k) ?_
          show Go _ _ _ (s₁.setTop (mkF m 56 #[.val (.int p1)] [])) _
          refine Go.st (fun t k => XS.iloadN X0.here hx rfl (hb hby d3_56) rfl k) ?_
          show Go _ _ _ (s₁.setTop (mkF m 57 #[.val (.int p1)] [(.int p1)])) _
          refine Go.st (fun t k => X0.ldcInt hx hown (mvT hZ (wd6 hw)) (g := (mkF m 57 #[.val (.int p1)] [(.int p1)])) rfl (hb hby d3_57) _ k) ?_
          show Go _ _ _ (s₁.setTop (mkF m 59 #[.val (.int p1)] [(.int 65534), (.int p1)])) _
          by_cases hc8 : p1 = (65534 : Int32)
          · refine Go.st (fun t k => XS.icmpYes X0.here hx rfl (pc0 := 59) (pc' := 68) rfl (hb hby d3_59) rfl (teq hc8).1 (by decide) (by decide) k) ?_
            show Go _ _ _ (s₁.setTop (mkF m 68 #[.val (.int p1)] [])) _
            refine Go.st (fun t k => XS.iconst X0.here hx rfl (hb hby d3_68) k) ?_
            show Go _ _ _ (s₁.setTop (mkF m 69 #[.val (.int p1)] [(.int 0)])) _
            obtain ⟨fs, hr, hrun, hended, hW, hsame⟩ := X0.leave (v := some (.int (0 : Int32))) (fun h => by rw [Bd.returns] at h; cases h)
            refine Go.fin (retN X0 hx (t := .boolean) Bd.returns (by simp) (hb hby d3_69) hr) hrun hended ⟨_, _, rfl, ?_, ⟨_, rfl⟩, hW, hsame.mono (by decide) (by decide)⟩
            show Q3 Z p1 h0 n0 _ s₁.heap _
            rw [e0]
            exact ⟨(by unfold f3; simp only [if_neg hc1, if_neg hc2, if_neg hc3, if_pos hc7, if_pos hc8]), N0, rfl⟩
          · refine Go.st (fun t k => XS.icmpNo X0.here hx rfl (hb hby d3_59) rfl (feq hc8).1 k) ?_
            show Go _ _ _ (s₁.setTop (mkF m 62 #[.val (.int p1)] [])) _
            refine Go.st (fun t k => XS.iloadN X0.here hx rfl (hb hby d3_62) rfl k) ?_
            show Go _ _ _ (s₁.setTop (mkF m 63 #[.val (.int p1)] [(.int p1)])) _
            refine Go.st (fun t k => X0.ldcInt hx hown (mvT hZ (wd7 hw)) (g := (mkF m 63 #[.val (.int p1)] [(.int p1)])) rfl (hb hby d3_63) _ k) ?_
            show Go _ _ _ (s₁.setTop (mkF m 65 #[.val (.int p1)] [(.int 65535), (.int p1)])) _
            by_cases hc9 : p1 = (65535 : Int32)
            · refine Go.st (fun t k => XS.icmpNo X0.here hx rfl (hb hby d3_65) rfl (teq hc9).2 k) ?_
              show Go _ _ _ (s₁.setTop (mkF m 68 #[.val (.int p1)] [])) _
              refine Go.st (fun t k => XS.iconst X0.here hx rfl (hb hby d3_68) k) ?_
              show Go _ _ _ (s₁.setTop (mkF m 69 #[.val (.int p1)] [(.int 0)])) _
              obtain ⟨fs, hr, hrun, hended, hW, hsame⟩ := X0.leave (v := some (.int (0 : Int32))) (fun h => by rw [Bd.returns] at h; cases h)
              refine Go.fin (retN X0 hx (t := .boolean) Bd.returns (by simp) (hb hby d3_69) hr) hrun hended ⟨_, _, rfl, ?_, ⟨_, rfl⟩, hW, hsame.mono (by decide) (by decide)⟩
              show Q3 Z p1 h0 n0 _ s₁.heap _
              rw [e0]
              exact ⟨(by unfold f3; simp only [if_neg hc1, if_neg hc2, if_neg hc3, if_pos hc7, if_neg hc8, if_pos hc9]), N0, rfl⟩
            · refine Go.st (fun t k => XS.icmpYes X0.here hx rfl (pc0 := 65) (pc' := 70) rfl (hb hby d3_65) rfl (feq hc9).2 (by decide) (by decide) k) ?_
              show Go _ _ _ (s₁.setTop (mkF m 70 #[.val (.int p1)] [])) _
              refine Go.st (fun t k => XS.iconst X0.here hx rfl (hb hby d3_70) k) ?_
              show Go _ _ _ (s₁.setTop (mkF m 71 #[.val (.int p1)] [(.int 1)])) _
              obtain ⟨fs, hr, hrun, hended, hW, hsame⟩ := X0.leave (v := some (.int (1 : Int32))) (fun h => by rw [Bd.returns] at h; cases h)
              refine Go.fin (retN X0 hx (t := .boolean) Bd.returns (by simp) (hb hby d3_71) hr) hrun hended ⟨_, _, rfl, ?_, ⟨_, rfl⟩, hW, hsame.mono (by decide) (by decide)⟩
              show Q3 Z p1 h0 n0 _ s₁.heap _
              rw [e0]
              exact ⟨(by unfold f3; simp only [if_neg hc1, if_neg hc2, if_neg hc3, if_pos hc7, if_neg hc8, if_neg hc9]), N0, rfl⟩
        · refine Go.st (fun t k => XS.icmpNo X0.here hx rfl (hb hby d3_45) rfl (flt hc7).1 k) ?_
          show Go _ _ _ (s₁.setTop (mkF m 48 #[.val (.int p1)] [])) _
          refine Go.st (fun t k => XS.iloadN X0.here hx rfl (hb hby d3_48) rfl k) ?_
          show Go _ _ _ (s₁.setTop (mkF m 49 #[.val (.int p1)] [(.int p1)])) _
          refine Go.st (fun t k => X0.ldcInt hx hown (mvT hZ (wd3 hw)) (g := (mkF m 49 #[.val (.int p1)] [(.int p1)])) rfl (hb hby d3_49) _ k) ?_
          show Go _ _ _ (s₁.setTop (mkF m 51 #[.val (.int p1)] [(.int 57343), (.int p1)])) _
          by_cases hc10 : (57343 : Int32) < p1
          · refine Go.st (fun t k => XS.icmpYes X0.here hx rfl (pc0 := 51) (pc' := 56) rfl (hb hby d3_51) rfl (tlt hc10).2.2.1 (by decide) (by decide) k) ?_
            show Go _ _ _ (s₁.setTop (mkF m 56 #[.val (.int p1)] [])) _
            refine Go.st (fun t k => XS.iloadN X0.here hx rfl (hb hby d3_56) rfl k) ?_
            show Go _ _ _ (s₁.setTop (mkF m 57 #[.val (.int p1)] [(.int p1)])) _
            refine Go.st (fun t k => X0.ldcInt hx hown (mvT hZ (wd6 hw)) (g := (mkF m 57 #[.val (.int p1)] [(.int p1)])) rfl (hb hby d3_57) _ k) ?_
            show Go _ _ _ (s₁.setTop (mkF m 59 #[.val (.int p1)] [(.int 65534), (.int p1)])) _
            by_cases hc11 : p1 = (65534 : Int32)
            · refine Go.st (fun t k => XS.icmpYes X0.here hx rfl (pc0 := 59) (pc' := 68) rfl (hb hby d3_59) rfl (teq hc11).1 (by decide) (by decide) k) ?_
              show Go _ _ _ (s₁.setTop (mkF m 68 #[.val (.int p1)] [])) _
              refine Go.st (fun t k => XS.iconst X0.here hx rfl (hb hby d3_68) k) ?_
              show Go _ _ _ (s₁.setTop (mkF m 69 #[.val (.int p1)] [(.int 0)])) _
              obtain ⟨fs, hr, hrun, hended, hW, hsame⟩ := X0.leave (v := some (.int (0 : Int32))) (fun h => by rw [Bd.returns] at h; cases h)
              refine Go.fin (retN X0 hx (t := .boolean) Bd.returns (by simp) (hb hby d3_69) hr) hrun hended ⟨_, _, rfl, ?_, ⟨_, rfl⟩, hW, hsame.mono (by decide) (by decide)⟩
              show Q3 Z p1 h0 n0 _ s₁.heap _
              rw [e0]
              exact ⟨(by unfold f3; simp only [if_neg hc1, if_neg hc2, if_neg hc3, if_neg hc7, if_pos hc10, if_pos hc11]), N0, rfl⟩
            · refine Go.st (fun t k => XS.icmpNo X0.here hx rfl (hb hby d3_59) rfl (feq hc11).1 k) ?_
              show Go _ _ _ (s₁.setTop (mkF m 62 #[.val (.int p1)] [])) _
              refine Go.st (fun t k => XS.iloadN X0.here hx rfl (hb hby d3_62) rfl k) ?_
              show Go _ _ _ (s₁.setTop (mkF m 63 #[.val (.int p1)] [(.int p1)])) _
              refine Go.st (fun t k => X0.ldcInt hx hown (mvT hZ (wd7 hw)) (g := (mkF m 63 #[.val (.int p1)] [(.int p1)])) rfl (hb hby d3_63) _ k) ?_
              show Go _ _ _ (s₁.setTop (mkF m 65 #[.val (.int p1)] [(.int 65535), (.int p1)])) _
              by_cases hc12 : p1 = (65535 : Int32)
              · refine Go.st (fun t k => XS.icmpNo X0.here hx rfl (hb hby d3_65) rfl (teq hc12).2 k) ?_
                show Go _ _ _ (s₁.setTop (mkF m 68 #[.val (.int p1)] [])) _
                refine Go.st (fun t k => XS.iconst X0.here hx rfl (hb hby d3_68) k) ?_
                show Go _ _ _ (s₁.setTop (mkF m 69 #[.val (.int p1)] [(.int 0)])) _
                obtain ⟨fs, hr, hrun, hended, hW, hsame⟩ := X0.leave (v := some (.int (0 : Int32))) (fun h => by rw [Bd.returns] at h; cases h)
                refine Go.fin (retN X0 hx (t := .boolean) Bd.returns (by simp) (hb hby d3_69) hr) hrun hended ⟨_, _, rfl, ?_, ⟨_, rfl⟩, hW, hsame.mono (by decide) (by decide)⟩
                show Q3 Z p1 h0 n0 _ s₁.heap _
                rw [e0]
                exact ⟨(by unfold f3; simp only [if_neg hc1, if_neg hc2, if_neg hc3, if_neg hc7, if_pos hc10, if_neg hc11, if_pos hc12]), N0, rfl⟩
              · refine Go.st (fun t k => XS.icmpYes X0.here hx rfl (pc0 := 65) (pc' := 70) rfl (hb hby d3_65) rfl (feq hc12).2 (by decide) (by decide) k) ?_
                show Go _ _ _ (s₁.setTop (mkF m 70 #[.val (.int p1)] [])) _
                refine Go.st (fun t k => XS.iconst X0.here hx rfl (hb hby d3_70) k) ?_
                show Go _ _ _ (s₁.setTop (mkF m 71 #[.val (.int p1)] [(.int 1)])) _
                obtain ⟨fs, hr, hrun, hended, hW, hsame⟩ := X0.leave (v := some (.int (1 : Int32))) (fun h => by rw [Bd.returns] at h; cases h)
                refine Go.fin (retN X0 hx (t := .boolean) Bd.returns (by simp) (hb hby d3_71) hr) hrun hended ⟨_, _, rfl, ?_, ⟨_, rfl⟩, hW, hsame.mono (by decide) (by decide)⟩
                show Q3 Z p1 h0 n0 _ s₁.heap _
                rw [e0]
                exact ⟨(by unfold f3; simp only [if_neg hc1, if_neg hc2, if_neg hc3, if_neg hc7, if_pos hc10, if_neg hc11, if_neg hc12]), N0, rfl⟩
          · refine Go.st (fun t k => XS.icmpNo X0.here hx rfl (hb hby d3_51) rfl (flt hc10).2.2.1 k) ?_
            show Go _ _ _ (s₁.setTop (mkF m 54 #[.val (.int p1)] [])) _
            refine Go.st (fun t k => XS.iconst X0.here hx rfl (hb hby d3_54) k) ?_
            show Go _ _ _ (s₁.setTop (mkF m 55 #[.val (.int p1)] [(.int 0)])) _
            obtain ⟨fs, hr, hrun, hended, hW, hsame⟩ := X0.leave (v := some (.int (0 : Int32))) (fun h => by rw [Bd.returns] at h; cases h)
            refine Go.fin (retN X0 hx (t := .boolean) Bd.returns (by simp) (hb hby d3_55) hr) hrun hended ⟨_, _, rfl, ?_, ⟨_, rfl⟩, hW, hsame.mono (by decide) (by decide)⟩
            show Q3 Z p1 h0 n0 _ s₁.heap _
            rw [e0]
            exact ⟨(by unfold f3; simp only [if_neg hc1, if_neg hc2, if_neg hc3, if_neg hc7, if_neg hc10]), N0, rfl⟩
theorem d1_0 : decode method_3_code 0 = .ok (.iload_n 0, 1) := by decide +kernel
theorem d1_1 : decode method_3_code 1 = .ok (.invokestatic 12, 3) := by decide +kernel
theorem wd18 {Z : State} {a0 : Array Value} (hw : ∀ d ∈ tables_1, d.before a0 Z = true) : (Jvm.Cond.methodLink "com/example/tariffwire/tariffwire/xml/XmlDocumentsIsXmlCharacterPinLaw" (12 : Nat) ({ cls := "com/example/tariffwire/tariffwire/xml/XmlDocuments", name := "isXmlCharacter", desc := "(I)Z" } : Jvm.MethodName)).before a0 Z = true := hw _ (List.mem_of_getElem? (i := 18) rfl)
theorem wd21 {Z : State} {a0 : Array Value} (hw : ∀ d ∈ tables_1, d.before a0 Z = true) : (Jvm.Cond.code ({ cls := "com/example/tariffwire/tariffwire/xml/XmlDocuments", name := "isXmlCharacter", desc := "(I)Z" } : Jvm.MethodName) prog_43_method_6_code (1 : Nat) (Option.some Jvm.ClassFile.FieldType.boolean)).before a0 Z = true := hw _ (List.mem_of_getElem? (i := 21) rfl)
theorem wd20 {Z : State} {a0 : Array Value} (hw : ∀ d ∈ tables_1, d.before a0 Z = true) : (Jvm.Cond.initialized "com/example/tariffwire/tariffwire/xml/XmlDocuments").before a0 Z = true := hw _ (List.mem_of_getElem? (i := 20) rfl)
theorem pd0 : parseMethodDescriptor "(I)Z" = some ⟨[.int], some .boolean⟩ := by decide +kernel
theorem wd19 {Z : State} {a0 : Array Value} (hw : ∀ d ∈ tables_1, d.before a0 Z = true) : (Jvm.Cond.static ({ cls := "com/example/tariffwire/tariffwire/xml/XmlDocuments", name := "isXmlCharacter", desc := "(I)Z" } : Jvm.MethodName)).before a0 Z = true := hw _ (List.mem_of_getElem? (i := 19) rfl)
theorem d1_4 : decode method_3_code 4 = .ok (.iload_n 0, 1) := by decide +kernel
theorem d1_5 : decode method_3_code 5 = .ok (.invokestatic 18, 3) := by decide +kernel
theorem wd24 {Z : State} {a0 : Array Value} (hw : ∀ d ∈ tables_1, d.before a0 Z = true) : (Jvm.Cond.methodLink "com/example/tariffwire/tariffwire/xml/XmlDocumentsIsXmlCharacterPinLaw" (18 : Nat) ({ cls := "com/example/tariffwire/tariffwire/xml/XmlDocumentsIsXmlCharacterPinLaw", name := "reference", desc := "(I)Z" } : Jvm.MethodName)).before a0 Z = true := hw _ (List.mem_of_getElem? (i := 24) rfl)
theorem wd26 {Z : State} {a0 : Array Value} (hw : ∀ d ∈ tables_1, d.before a0 Z = true) : (Jvm.Cond.code ({ cls := "com/example/tariffwire/tariffwire/xml/XmlDocumentsIsXmlCharacterPinLaw", name := "reference", desc := "(I)Z" } : Jvm.MethodName) method_2_code (1 : Nat) (Option.some Jvm.ClassFile.FieldType.boolean)).before a0 Z = true := hw _ (List.mem_of_getElem? (i := 26) rfl)
theorem wd16 {Z : State} {a0 : Array Value} (hw : ∀ d ∈ tables_1, d.before a0 Z = true) : (Jvm.Cond.initialized "com/example/tariffwire/tariffwire/xml/XmlDocumentsIsXmlCharacterPinLaw").before a0 Z = true := hw _ (List.mem_of_getElem? (i := 16) rfl)
theorem wd25 {Z : State} {a0 : Array Value} (hw : ∀ d ∈ tables_1, d.before a0 Z = true) : (Jvm.Cond.static ({ cls := "com/example/tariffwire/tariffwire/xml/XmlDocumentsIsXmlCharacterPinLaw", name := "reference", desc := "(I)Z" } : Jvm.MethodName)).before a0 Z = true := hw _ (List.mem_of_getElem? (i := 25) rfl)
theorem d1_8 : decode method_3_code 8 = .ok (.if_icmp .ne 7, 3) := by decide +kernel
theorem d1_11 : decode method_3_code 11 = .ok (.iconst 1, 1) := by decide +kernel
theorem d1_12 : decode method_3_code 12 = .ok (.goto 4, 3) := by decide +kernel
theorem d1_16 : decode method_3_code 16 = .ok (.ireturn, 1) := by decide +kernel
theorem d1_15 : decode method_3_code 15 = .ok (.iconst 0, 1) := by decide +kernel
def f1 (p1 : Int32) : Int32 := (if (f2 p1) = (f3 p1) then (1 : Int32) else (0 : Int32))
def Q1 (Z : State) (p1 : Int32) (h0 : Heap) (n0 : Nat) (v : Option Value) (h : Heap) (L : List Loc) : Prop := v = some (.int (f1 p1)) ∧ Fr n0 L ∧ h = h0
theorem ef1 (m : MethodId) (x0 : Int32) : entryFrame m #[(.int x0)] 1 = mkF m 0 #[.val (.int x0)] [] := by first | (simp [entryFrame, mkF, argsToLocals, Value.category]; done) | rfl
set_option maxRecDepth 65536 in
set_option maxHeartbeats 16000000 in
theorem rm1 (l : Launch) (Z : State) (a0 : Array Value) (hw : ∀ d ∈ tables_1, d.before a0 Z = true) (ws : List Jvm.Cond) (p1 : Int32) (h0 : Heap) (n0 : Nat) (Z0 : n0 ≤ h0.size) :
    MetFree l (⟨"com/example/tariffwire/tariffwire/xml/XmlDocumentsIsXmlCharacterPinLaw", "agrees", "(I)Z"⟩ : MethodName) (head1 (Jvm.Cond.code (⟨"com/example/tariffwire/tariffwire/xml/XmlDocumentsIsXmlCharacterPinLaw", "agrees", "(I)Z"⟩ : MethodName) method_3_code 1 (some .boolean) :: ws) ({ frames := 1, cells := 0, slots := 0, locals := 13 } : Room)) (fun a U => a = #[(.int p1)] ∧ Z.Warmed39 U.vm ∧ U.heap = h0) (fun _ _ _ _ _ => True) (fun _ U o U' => ∃ v L, o = .returned v ∧ Q1 Z p1 h0 n0 v U'.heap L ∧ FrameEnd U o U' L ({ frames := 1, cells := 0, slots := 0, locals := 13 } : Room).cells ({ frames := 1, cells := 0, slots := 0, locals := 13 } : Room).slots) := by
  refine MetFree.of_bodySF (plainFor_of_name pn1) hisR ?_
  intro p e s m args below meth c s₁ Bd hml0 hP hK
  obtain ⟨rfl, hZ, hh⟩ := hP
  have hx := Bd.exec
  have hby := Bd.bytes
  have hml : c.maxLocals = 1 := hml0
  have hown : s.vm.findClass "com/example/tariffwire/tariffwire/xml/XmlDocumentsIsXmlCharacterPinLaw" = some m.cls := findClass_of_methodNamed Bd.named
  have hnm := (name_of_methodNamed Bd.named Bd.method).1
  have X0 : Stand p l e ({ frames := 1, cells := 0, slots := 0, locals := 13 } : Room) s m #[(.int p1)] below meth c s₁ [] 0 0 := Stand.of_body Bd
  have e0 : s₁.heap = h0 := by rw [← hh, Bd.state]; rfl
  have N0 := Fr.nil n0
  have K0 : Keep h0 h0 [] := Keep.refl h0 _
  refine Go.st (P := fun o U' => ∃ v L, o = .returned v ∧ Q1 Z p1 h0 n0 v U'.heap L ∧ FrameEnd s o U' L ({ frames := 1, cells := 0, slots := 0, locals := 13 } : Room).cells ({ frames := 1, cells := 0, slots := 0, locals := 13 } : Room).slots) (fun t k => castTop (ef1 m p1) k) ?_
  show Go _ _ _ (s₁.setTop (mkF m 0 #[.val (.int p1)] [])) _
  refine Go.st (fun t k => XS.iloadN X0.here hx rfl (hb hby d1_0) rfl k) ?_
  show Go _ _ _ (s₁.setTop (mkF m 1 #[.val (.int p1)] [(.int p1)])) _
  obtain ⟨_, _, ⟨T1, L1, k1, n1⟩, -, X1, ⟨Lc1, hQ1, l1, y1, z1⟩, st1⟩ := Jvm.LawKit.callS X0 hx (y := (⟨"com/example/tariffwire/tariffwire/xml/XmlDocuments", "isXmlCharacter", "(I)Z"⟩ : MethodName)) hown (mvT hZ (wd18 hw)) (mvT hZ (wd19 hw)) (mvT hZ (wd20 hw)) (mvT hZ (wd21 hw)) (by decide) (backOf (W := 0) (rm2 l Z a0 hw [] p1 h0 n0 Z0) hZ (wd21 hw) (wd20 hw) (by decide) (by decide)) (g := (mkF m 1 #[.val (.int p1)] [(.int p1)])) rfl (by rw [hml]; rfl) (argsL := [(.int p1)]) (rest := []) (lenOf pd0 rfl) rfl (by show 2 * 0 + _ ≤ _; exact Nat.le_of_eq rfl) (hb hby d1_1) (fun _ _ => ⟨rfl, e0, (by decide : 0 + 0 ≤ _), (by decide : 0 + 0 ≤ _)⟩)
  dsimp only [Pt.U, Pt.locs, Pt.cells, Pt.slots] at X1 l1 y1 z1 st1 hQ1
  subst l1 y1 z1
  refine Go.st st1 ?_
  obtain ⟨rfl, N1q, e1⟩ := hQ1
  have N1 := Fr.app N0 N1q
  show Go _ _ _ (T1.setTop (mkF m 4 #[.val (.int p1)] [(.int (f2 p1))])) _
  refine Go.st (fun t k => XS.iloadN X1.here hx rfl (hb hby d1_4) rfl k) ?_
  show Go _ _ _ (T1.setTop (mkF m 5 #[.val (.int p1)] [(.int p1), (.int (f2 p1))])) _
  obtain ⟨_, _, ⟨T2, L2, k2, n2⟩, -, X2, ⟨Lc2, hQ2, l2, y2, z2⟩, st2⟩ := Jvm.LawKit.callS X1 hx (y := (⟨"com/example/tariffwire/tariffwire/xml/XmlDocumentsIsXmlCharacterPinLaw", "reference", "(I)Z"⟩ : MethodName)) hown (mvT hZ (wd24 hw)) (mvT hZ (wd25 hw)) (mvT hZ (wd16 hw)) (mvT hZ (wd26 hw)) (by decide) (backOf (W := 1) (rm3 l Z a0 hw [] p1 h0 n0 Z0) hZ (wd26 hw) (wd16 hw) (by decide) (by decide)) (g := (mkF m 5 #[.val (.int p1)] [(.int p1), (.int (f2 p1))])) rfl (by rw [hml]; rfl) (argsL := [(.int p1)]) (rest := [(.int (f2 p1))]) (lenOf pd0 rfl) rfl (by show 2 * 0 + _ ≤ _; exact Nat.le_of_eq rfl) (hb hby d1_5) (fun _ _ => ⟨rfl, e1, (by decide : 0 + 0 ≤ _), (by decide : 0 + 0 ≤ _)⟩)
  dsimp only [Pt.U, Pt.locs, Pt.cells, Pt.slots] at X2 l2 y2 z2 st2 hQ2
  subst l2 y2 z2
  refine Go.st st2 ?_
  obtain ⟨rfl, N2q, e2⟩ := hQ2
  have N2 := Fr.app N1 N2q
  show Go _ _ _ (T2.setTop (mkF m 8 #[.val (.int p1)] [(.int (f3 p1)), (.int (f2 p1))])) _
  by_cases hc3 : (f2 p1) = (f3 p1)
  · refine Go.st (fun t k => XS.icmpNo X2.here hx rfl (hb hby d1_8) rfl (teq hc3).2 k) ?_
    show Go _ _ _ (T2.setTop (mkF m 11 #[.val (.int p1)] [])) _
    refine Go.st (fun t k => XS.iconst X2.here hx rfl (hb hby d1_11) k) ?_
    show Go _ _ _ (T2.setTop (mkF m 12 #[.val (.int p1)] [(.int 1)])) _
    refine Go.st (fun t k => XS.goto X2.here hx rfl (pc0 := 12) (pc' := 16) rfl (hb hby d1_12) (by decide) (by decide) k) ?_
    show Go _ _ _ (T2.setTop (mkF m 16 #[.val (.int p1)] [(.int 1)])) _
    obtain ⟨fs, hr, hrun, hended, hW, hsame⟩ := X2.leave (v := some (.int (1 : Int32))) (fun h => by rw [Bd.returns] at h; cases h)
    refine Go.fin (retN X2 hx (t := .boolean) Bd.returns (by simp) (hb hby d1_16) hr) hrun hended ⟨_, _, rfl, ?_, ⟨_, rfl⟩, hW, hsame.mono (by decide) (by decide)⟩
    show Q1 Z p1 h0 n0 _ T2.heap _
    rw [e2]
    exact ⟨(by unfold f1; simp only [if_pos hc3]), N2, rfl⟩
  · refine Go.st (fun t k => XS.icmpYes X2.here hx rfl (pc0 := 8) (pc' := 15) rfl (hb hby d1_8) rfl (feq hc3).2 (by decide) (by decide) k) ?_
    show Go _ _ _ (T2.setTop (mkF m 15 #[.val (.int p1)] [])) _
    refine Go.st (fun t k => XS.iconst X2.here hx rfl (hb hby d1_15) k) ?_
    show Go _ _ _ (T2.setTop (mkF m 16 #[.val (.int p1)] [(.int 0)])) _
    obtain ⟨fs, hr, hrun, hended, hW, hsame⟩ := X2.leave (v := some (.int (0 : Int32))) (fun h => by rw [Bd.returns] at h; cases h)
    refine Go.fin (retN X2 hx (t := .boolean) Bd.returns (by simp) (hb hby d1_16) hr) hrun hended ⟨_, _, rfl, ?_, ⟨_, rfl⟩, hW, hsame.mono (by decide) (by decide)⟩
    show Q1 Z p1 h0 n0 _ T2.heap _
    rw [e2]
    exact ⟨(by unfold f1; simp only [if_neg hc3]), N2, rfl⟩
theorem wd0 {Z : State} {a0 : Array Value} (hw : ∀ d ∈ tables_1, d.before a0 Z = true) : (Jvm.Cond.arrayClass Jvm.ClassFile.FieldType.int).before a0 Z = true := hw _ (List.mem_of_getElem? (i := 0) rfl)
theorem wd1 {Z : State} {a0 : Array Value} (hw : ∀ d ∈ tables_1, d.before a0 Z = true) : (Jvm.Cond.constant "com/example/tariffwire/tariffwire/xml/XmlDocumentsIsXmlCharacterPinLaw" (23 : Nat) (55295 : Int32)).before a0 Z = true := hw _ (List.mem_of_getElem? (i := 1) rfl)
theorem wd4 {Z : State} {a0 : Array Value} (hw : ∀ d ∈ tables_1, d.before a0 Z = true) : (Jvm.Cond.constant "com/example/tariffwire/tariffwire/xml/XmlDocumentsIsXmlCharacterPinLaw" (24 : Nat) (57344 : Int32)).before a0 Z = true := hw _ (List.mem_of_getElem? (i := 4) rfl)
theorem wd5 {Z : State} {a0 : Array Value} (hw : ∀ d ∈ tables_1, d.before a0 Z = true) : (Jvm.Cond.constant "com/example/tariffwire/tariffwire/xml/XmlDocumentsIsXmlCharacterPinLaw" (25 : Nat) (65533 : Int32)).before a0 Z = true := hw _ (List.mem_of_getElem? (i := 5) rfl)
theorem wd8 {Z : State} {a0 : Array Value} (hw : ∀ d ∈ tables_1, d.before a0 Z = true) : (Jvm.Cond.constant "com/example/tariffwire/tariffwire/xml/XmlDocumentsIsXmlCharacterPinLaw" (26 : Nat) (65536 : Int32)).before a0 Z = true := hw _ (List.mem_of_getElem? (i := 8) rfl)
theorem wd10 {Z : State} {a0 : Array Value} (hw : ∀ d ∈ tables_1, d.before a0 Z = true) : (Jvm.Cond.constant "com/example/tariffwire/tariffwire/xml/XmlDocumentsIsXmlCharacterPinLaw" (27 : Nat) (1114112 : Int32)).before a0 Z = true := hw _ (List.mem_of_getElem? (i := 10) rfl)
theorem wd11 {Z : State} {a0 : Array Value} (hw : ∀ d ∈ tables_1, d.before a0 Z = true) : (Jvm.Cond.constant "com/example/tariffwire/tariffwire/xml/XmlDocumentsIsXmlCharacterPinLaw" (30 : Nat) (-2147483648 : Int32)).before a0 Z = true := hw _ (List.mem_of_getElem? (i := 11) rfl)
theorem wd12 {Z : State} {a0 : Array Value} (hw : ∀ d ∈ tables_1, d.before a0 Z = true) : (Jvm.Cond.constant "com/example/tariffwire/tariffwire/xml/XmlDocumentsIsXmlCharacterPinLaw" (31 : Nat) (2147483647 : Int32)).before a0 Z = true := hw _ (List.mem_of_getElem? (i := 12) rfl)
def own_edges : List Int32 := [(0 : Int32), (8 : Int32), (9 : Int32), (10 : Int32), (11 : Int32), (12 : Int32), (13 : Int32), (14 : Int32), (31 : Int32), (32 : Int32), (55295 : Int32), (55296 : Int32), (57343 : Int32), (57344 : Int32), (65533 : Int32), (65534 : Int32), (65535 : Int32), (65536 : Int32), (1114111 : Int32), (1114112 : Int32), (-1 : Int32), (-2147483648 : Int32), (2147483647 : Int32)]
def t0_0 (p2 : Int32) (p3 : Int32) : Int32 := ((own_at own_edges ((p2 &&& (2147483647 : Int32)) % (23 : Int32))) + (((p3 &&& (2147483647 : Int32)) % (3 : Int32)) - (1 : Int32)))
theorem wd13 {Z : State} {a0 : Array Value} (hw : ∀ d ∈ tables_1, d.before a0 Z = true) : (Jvm.Cond.constant "com/example/tariffwire/tariffwire/xml/XmlDocumentsIsXmlCharacterPinLaw" (32 : Nat) (2097151 : Int32)).before a0 Z = true := hw _ (List.mem_of_getElem? (i := 13) rfl)
theorem wd14 {Z : State} {a0 : Array Value} (hw : ∀ d ∈ tables_1, d.before a0 Z = true) : (Jvm.Cond.methodLink "com/example/tariffwire/tariffwire/xml/XmlDocumentsIsXmlCharacterPinLaw" (33 : Nat) ({ cls := "com/example/tariffwire/tariffwire/xml/XmlDocumentsIsXmlCharacterPinLaw", name := "agrees", desc := "(I)Z" } : Jvm.MethodName)).before a0 Z = true := hw _ (List.mem_of_getElem? (i := 14) rfl)
theorem wd17 {Z : State} {a0 : Array Value} (hw : ∀ d ∈ tables_1, d.before a0 Z = true) : (Jvm.Cond.code ({ cls := "com/example/tariffwire/tariffwire/xml/XmlDocumentsIsXmlCharacterPinLaw", name := "agrees", desc := "(I)Z" } : Jvm.MethodName) method_3_code (1 : Nat) (Option.some Jvm.ClassFile.FieldType.boolean)).before a0 Z = true := hw _ (List.mem_of_getElem? (i := 17) rfl)
theorem wd15 {Z : State} {a0 : Array Value} (hw : ∀ d ∈ tables_1, d.before a0 Z = true) : (Jvm.Cond.static ({ cls := "com/example/tariffwire/tariffwire/xml/XmlDocumentsIsXmlCharacterPinLaw", name := "agrees", desc := "(I)Z" } : Jvm.MethodName)).before a0 Z = true := hw _ (List.mem_of_getElem? (i := 15) rfl)
def f0 (p1 : Int32) (p2 : Int32) (p3 : Int32) (p4 : Int32) : Int32 := (if (f1 p1) = (0 : Int32) then (0 : Int32) else (if (f1 (t0_0 p2 p3)) = (0 : Int32) then (0 : Int32) else (if (f1 (p4 &&& (2097151 : Int32))) = (0 : Int32) then (0 : Int32) else (1 : Int32))))
def Q0 (Z : State) (p1 : Int32) (p2 : Int32) (p3 : Int32) (p4 : Int32) (h0 : Heap) (n0 : Nat) (v : Option Value) (h : Heap) (L : List Loc) : Prop := v = some (.int (f0 p1 p2 p3 p4)) ∧ Fr n0 L
theorem ef0 (m : MethodId) (x0 : Int32) (x1 : Int32) (x2 : Int32) (x3 : Int32) : entryFrame m #[(.int x0), (.int x1), (.int x2), (.int x3)] maxLocals = mkF m 0 #[.val (.int x0), .val (.int x1), .val (.int x2), .val (.int x3), .unset, .unset, .unset, .unset, .unset] [] := by first | (simp [entryFrame, mkF, argsToLocals, Value.category, maxLocals]; done) | rfl
set_option maxRecDepth 65536 in
set_option maxHeartbeats 16000000 in
theorem rm0 (l : Launch) (Z : State) (a0 : Array Value) (hw : ∀ d ∈ tables_1, d.before a0 Z = true) (ws : List Jvm.Cond) (p1 : Int32) (p2 : Int32) (p3 : Int32) (p4 : Int32) (h0 : Heap) (n0 : Nat) (Z0 : n0 ≤ h0.size) :
    MetFree l x (head1 (Jvm.Cond.code x code maxLocals ret :: ws) room_1) (fun a U => a = #[(.int p1), (.int p2), (.int p3), (.int p4)] ∧ Z.Warmed39 U.vm ∧ U.heap = h0) (fun _ _ _ _ _ => True) (fun _ U o U' => ∃ v L, o = .returned v ∧ Q0 Z p1 p2 p3 p4 h0 n0 v U'.heap L ∧ FrameEnd U o U' L 16 128) := by
  refine MetFree.of_bodySF (plainFor_of_name pn1) hisR ?_
  intro p e s m args below meth c s₁ Bd hml0 hP hK
  obtain ⟨rfl, hZ, hh⟩ := hP
  have hx := Bd.exec
  have hby := Bd.bytes
  have hml : c.maxLocals = 9 := hml0
  have hown : s.vm.findClass "com/example/tariffwire/tariffwire/xml/XmlDocumentsIsXmlCharacterPinLaw" = some m.cls := findClass_of_methodNamed Bd.named
  have hnm := (name_of_methodNamed Bd.named Bd.method).1
  have X0 : Stand p l e room_1 s m #[(.int p1), (.int p2), (.int p3), (.int p4)] below meth c s₁ [] 0 0 := Stand.of_body Bd
  have e0 : s₁.heap = h0 := by rw [← hh, Bd.state]; rfl
  have N0 := Fr.nil n0
  have K0 : Keep h0 h0 [] := Keep.refl h0 _
  refine Go.st (P := fun o U' => ∃ v L, o = .returned v ∧ Q0 Z p1 p2 p3 p4 h0 n0 v U'.heap L ∧ FrameEnd s o U' L 16 128) (fun t k => castTop (ef0 m p1 p2 p3 p4) k) ?_
  show Go _ _ _ (s₁.setTop (mkF m 0 #[.val (.int p1), .val (.int p2), .val (.int p3), .val (.int p4), .unset, .unset, .unset, .unset, .unset] [])) _
  refine Go.st (fun t k => XS.bipush X0.here hx rfl (hb hby at_0) k) ?_
  show Go _ _ _ (s₁.setTop (mkF m 2 #[.val (.int p1), .val (.int p2), .val (.int p3), .val (.int p4), .unset, .unset, .unset, .unset, .unset] [(.int 23)])) _
  obtain ⟨T1, h1, k1, X1, e1, E1, A1, st1⟩ := newP X0 hx hZ (aty := .int) (wd0 hw) e0 (g := (mkF m 2 #[.val (.int p1), .val (.int p2), .val (.int p3), .val (.int p4), .unset, .unset, .unset, .unset, .unset] [(.int 23)])) rfl (hb hby at_2) rfl (by decide) (cap := 23) (by decide) (by decide) (by decide) (by decide)
  obtain ⟨b1, g1⟩ : ∃ z, z = h0.size := ⟨_, rfl⟩
  rw [← g1] at A1 st1
  refine Go.st st1 ?_
  have g_b1 : n0 ≤ b1 := Nat.le_trans Z0 (Nat.le_of_eq g1.symm)
  have sz_b1 : h0.size ≤ b1 := Nat.le_trans K0.1 (Nat.le_of_eq g1.symm)
  replace K0 := K0.ext E1
  replace Z0 := Nat.le_trans Z0 E1.1
  have V_b1 : Arv Z h1 b1 k1 .int (23 : Int32) [(.int (0 : Int32)), (.int (0 : Int32)), (.int (0 : Int32)), (.int (0 : Int32)), (.int (0 : Int32)), (.int (0 : Int32)), (.int (0 : Int32)), (.int (0 : Int32)), (.int (0 : Int32)), (.int (0 : Int32)), (.int (0 : Int32)), (.int (0 : Int32)), (.int (0 : Int32)), (.int (0 : Int32)), (.int (0 : Int32)), (.int (0 : Int32)), (.int (0 : Int32)), (.int (0 : Int32)), (.int (0 : Int32)), (.int (0 : Int32)), (.int (0 : Int32)), (.int (0 : Int32)), (.int (0 : Int32))] (.int (0 : Int32)) := (Arv.new A1 (by decide)).pad (pad_rep [] (.int (0 : Int32)) 23)
  show Go _ _ _ (T1.setTop (mkF m 4 #[.val (.int p1), .val (.int p2), .val (.int p3), .val (.int p4), .unset, .unset, .unset, .unset, .unset] [(.ref b1)])) _
  refine Go.st (fun t k => XS.dup X1.here hx rfl (hb hby at_4) rfl rfl k) ?_
  show Go _ _ _ (T1.setTop (mkF m 5 #[.val (.int p1), .val (.int p2), .val (.int p3), .val (.int p4), .unset, .unset, .unset, .unset, .unset] [(.ref b1), (.ref b1)])) _
  refine Go.st (fun t k => XS.iconst X1.here hx rfl (hb hby at_5) k) ?_
  show Go _ _ _ (T1.setTop (mkF m 6 #[.val (.int p1), .val (.int p2), .val (.int p3), .val (.int p4), .unset, .unset, .unset, .unset, .unset] [(.int 0), (.ref b1), (.ref b1)])) _
  refine Go.st (fun t k => XS.iconst X1.here hx rfl (hb hby at_6) k) ?_
  show Go _ _ _ (T1.setTop (mkF m 7 #[.val (.int p1), .val (.int p2), .val (.int p3), .val (.int p4), .unset, .unset, .unset, .unset, .unset] [(.int 0), (.int 0), (.ref b1), (.ref b1)])) _
  obtain ⟨cl2, Ar2, qq2, Sz2, Ng2, Hs2, Gs2⟩ := id V_b1
  have hin2 : ¬ ((0 : Int32) < 0 ∨ cl2.slots.size ≤ ((0 : Int32)).toNatClampNeg) := inb_of Sz2 ⟨by decide, by decide⟩
  obtain ⟨T3, h3, X3, e3, W3, st3⟩ := stI X1 hx hZ e1 Ar2 (j := (0 : Int32)) hin2 (g := (mkF m 7 #[.val (.int p1), .val (.int p2), .val (.int p3), .val (.int p4), .unset, .unset, .unset, .unset, .unset] [(.int 0), (.int 0), (.ref b1), (.ref b1)])) rfl rfl (hb hby at_7)
  refine Go.st st3 ?_
  have N3 := Fr.snoc X3 N0 g_b1
  replace Z0 := Nat.le_trans Z0 (Nat.le_of_eq W3.size.symm)
  replace K0 := K0.wr W3 (Or.inr sz_b1)
  replace V_b1 : Arv Z h3 b1 k1 .int (23 : Int32) [(.int (0 : Int32)), (.int (0 : Int32)), (.int (0 : Int32)), (.int (0 : Int32)), (.int (0 : Int32)), (.int (0 : Int32)), (.int (0 : Int32)), (.int (0 : Int32)), (.int (0 : Int32)), (.int (0 : Int32)), (.int (0 : Int32)), (.int (0 : Int32)), (.int (0 : Int32)), (.int (0 : Int32)), (.int (0 : Int32)), (.int (0 : Int32)), (.int (0 : Int32)), (.int (0 : Int32)), (.int (0 : Int32)), (.int (0 : Int32)), (.int (0 : Int32)), (.int (0 : Int32)), (.int (0 : Int32))] (.int (0 : Int32)) := Arv.set Ar2 qq2 Sz2 Ng2 Hs2 Gs2 rfl W3 0 rfl (Nat.le_of_ble_eq_true rfl)
  show Go _ _ _ (T3.setTop (mkF m 8 #[.val (.int p1), .val (.int p2), .val (.int p3), .val (.int p4), .unset, .unset, .unset, .unset, .unset] [(.ref b1)])) _
  refine Go.st (fun t k => XS.dup X3.here hx rfl (hb hby at_8) rfl rfl k) ?_
  show Go _ _ _ (T3.setTop (mkF m 9 #[.val (.int p1), .val (.int p2), .val (.int p3), .val (.int p4), .unset, .unset, .unset, .unset, .unset] [(.ref b1), (.ref b1)])) _
  refine Go.st (fun t k => XS.iconst X3.here hx rfl (hb hby at_9) k) ?_
  show Go _ _ _ (T3.setTop (mkF m 10 #[.val (.int p1), .val (.int p2), .val (.int p3), .val (.int p4), .unset, .unset, .unset, .unset, .unset] [(.int 1), (.ref b1), (.ref b1)])) _
  refine Go.st (fun t k => XS.bipush X3.here hx rfl (hb hby at_10) k) ?_
  show Go _ _ _ (T3.setTop (mkF m 12 #[.val (.int p1), .val (.int p2), .val (.int p3), .val (.int p4), .unset, .unset, .unset, .unset, .unset] [(.int 8), (.int 1), (.ref b1), (.ref b1)])) _
  obtain ⟨cl4, Ar4, qq4, Sz4, Ng4, Hs4, Gs4⟩ := id V_b1
  have hin4 : ¬ ((1 : Int32) < 0 ∨ cl4.slots.size ≤ ((1 : Int32)).toNatClampNeg) := inb_of Sz4 ⟨by decide, by decide⟩
  obtain ⟨T5, h5, X5, e5, W5, st5⟩ := stI X3 hx hZ e3 Ar4 (j := (1 : Int32)) hin4 (g := (mkF m 12 #[.val (.int p1), .val (.int p2), .val (.int p3), .val (.int p4), .unset, .unset, .unset, .unset, .unset] [(.int 8), (.int 1), (.ref b1), (.ref b1)])) rfl rfl (hb hby at_12)
  refine Go.st st5 ?_
  have N5 := Fr.snoc X5 N3 g_b1
  replace Z0 := Nat.le_trans Z0 (Nat.le_of_eq W5.size.symm)
  replace K0 := K0.wr W5 (Or.inr sz_b1)
  replace V_b1 : Arv Z h5 b1 k1 .int (23 : Int32) [(.int (0 : Int32)), (.int (8 : Int32)), (.int (0 : Int32)), (.int (0 : Int32)), (.int (0 : Int32)), (.int (0 : Int32)), (.int (0 : Int32)), (.int (0 : Int32)), (.int (0 : Int32)), (.int (0 : Int32)), (.int (0 : Int32)), (.int (0 : Int32)), (.int (0 : Int32)), (.int (0 : Int32)), (.int (0 : Int32)), (.int (0 : Int32)), (.int (0 : Int32)), (.int (0 : Int32)), (.int (0 : Int32)), (.int (0 : Int32)), (.int (0 : Int32)), (.int (0 : Int32)), (.int (0 : Int32))] (.int (0 : Int32)) := Arv.set Ar4 qq4 Sz4 Ng4 Hs4 Gs4 rfl W5 1 rfl (Nat.le_of_ble_eq_true rfl)
  show Go _ _ _ (T5.setTop (mkF m 13 #[.val (.int p1), .val (.int p2), .val (.int p3), .val (.int p4), .unset, .unset, .unset, .unset, .unset] [(.ref b1)])) _
  refine Go.st (fun t k => XS.dup X5.here hx rfl (hb hby at_13) rfl rfl k) ?_
  show Go _ _ _ (T5.setTop (mkF m 14 #[.val (.int p1), .val (.int p2), .val (.int p3), .val (.int p4), .unset, .unset, .unset, .unset, .unset] [(.ref b1), (.ref b1)])) _
  refine Go.st (fun t k => XS.iconst X5.here hx rfl (hb hby at_14) k) ?_
  show Go _ _ _ (T5.setTop (mkF m 15 #[.val (.int p1), .val (.int p2), .val (.int p3), .val (.int p4), .unset, .unset, .unset, .unset, .unset] [(.int 2), (.ref b1), (.ref b1)])) _
  refine Go.st (fun t k => XS.bipush X5.here hx rfl (hb hby at_15) k) ?_
  show Go _ _ _ (T5.setTop (mkF m 17 #[.val (.int p1), .val (.int p2), .val (.int p3), .val (.int p4), .unset, .unset, .unset, .unset, .unset] [(.int 9), (.int 2), (.ref b1), (.ref b1)])) _
  obtain ⟨cl6, Ar6, qq6, Sz6, Ng6, Hs6, Gs6⟩ := id V_b1
  have hin6 : ¬ ((2 : Int32) < 0 ∨ cl6.slots.size ≤ ((2 : Int32)).toNatClampNeg) := inb_of Sz6 ⟨by decide, by decide⟩
  obtain ⟨T7, h7, X7, e7, W7, st7⟩ := stI X5 hx hZ e5 Ar6 (j := (2 : Int32)) hin6 (g := (mkF m 17 #[.val (.int p1), .val (.int p2), .val (.int p3), .val (.int p4), .unset, .unset, .unset, .unset, .unset] [(.int 9), (.int 2), (.ref b1), (.ref b1)])) rfl rfl (hb hby at_17)
  refine Go.st st7 ?_
  have N7 := Fr.snoc X7 N5 g_b1
  replace Z0 := Nat.le_trans Z0 (Nat.le_of_eq W7.size.symm)
  replace K0 := K0.wr W7 (Or.inr sz_b1)
  replace V_b1 : Arv Z h7 b1 k1 .int (23 : Int32) [(.int (0 : Int32)), (.int (8 : Int32)), (.int (9 : Int32)), (.int (0 : Int32)), (.int (0 : Int32)), (.int (0 : Int32)), (.int (0 : Int32)), (.int (0 : Int32)), (.int (0 : Int32)), (.int (0 : Int32)), (.int (0 : Int32)), (.int (0 : Int32)), (.int (0 : Int32)), (.int (0 : Int32)), (.int (0 : Int32)), (.int (0 : Int32)), (.int (0 : Int32)), (.int (0 : Int32)), (.int (0 : Int32)), (.int (0 : Int32)), (.int (0 : Int32)), (.int (0 : Int32)), (.int (0 : Int32))] (.int (0 : Int32)) := Arv.set Ar6 qq6 Sz6 Ng6 Hs6 Gs6 rfl W7 2 rfl (Nat.le_of_ble_eq_true rfl)
  show Go _ _ _ (T7.setTop (mkF m 18 #[.val (.int p1), .val (.int p2), .val (.int p3), .val (.int p4), .unset, .unset, .unset, .unset, .unset] [(.ref b1)])) _
  refine Go.st (fun t k => XS.dup X7.here hx rfl (hb hby at_18) rfl rfl k) ?_
  show Go _ _ _ (T7.setTop (mkF m 19 #[.val (.int p1), .val (.int p2), .val (.int p3), .val (.int p4), .unset, .unset, .unset, .unset, .unset] [(.ref b1), (.ref b1)])) _
  refine Go.st (fun t k => XS.iconst X7.here hx rfl (hb hby at_19) k) ?_
  show Go _ _ _ (T7.setTop (mkF m 20 #[.val (.int p1), .val (.int p2), .val (.int p3), .val (.int p4), .unset, .unset, .unset, .unset, .unset] [(.int 3), (.ref b1), (.ref b1)])) _
  refine Go.st (fun t k => XS.bipush X7.here hx rfl (hb hby at_20) k) ?_
  show Go _ _ _ (T7.setTop (mkF m 22 #[.val (.int p1), .val (.int p2), .val (.int p3), .val (.int p4), .unset, .unset, .unset, .unset, .unset] [(.int 10), (.int 3), (.ref b1), (.ref b1)])) _
  obtain ⟨cl8, Ar8, qq8, Sz8, Ng8, Hs8, Gs8⟩ := id V_b1
  have hin8 : ¬ ((3 : Int32) < 0 ∨ cl8.slots.size ≤ ((3 : Int32)).toNatClampNeg) := inb_of Sz8 ⟨by decide, by decide⟩
  obtain ⟨T9, h9, X9, e9, W9, st9⟩ := stI X7 hx hZ e7 Ar8 (j := (3 : Int32)) hin8 (g := (mkF m 22 #[.val (.int p1), .val (.int p2), .val (.int p3), .val (.int p4), .unset, .unset, .unset, .unset, .unset] [(.int 10), (.int 3), (.ref b1), (.ref b1)])) rfl rfl (hb hby at_22)
  refine Go.st st9 ?_
  have N9 := Fr.snoc X9 N7 g_b1
  obtain ⟨LL9, X9, N9⟩ : ∃ LL, Stand p l e room_1 s m #[(.int p1), (.int p2), (.int p3), (.int p4)] below meth c T9 LL 1 23 ∧ Fr n0 LL := ⟨_, X9, N9⟩
  replace Z0 := Nat.le_trans Z0 (Nat.le_of_eq W9.size.symm)
  replace K0 := K0.wr W9 (Or.inr sz_b1)
  replace V_b1 : Arv Z h9 b1 k1 .int (23 : Int32) [(.int (0 : Int32)), (.int (8 : Int32)), (.int (9 : Int32)), (.int (10 : Int32)), (.int (0 : Int32)), (.int (0 : Int32)), (.int (0 : Int32)), (.int (0 : Int32)), (.int (0 : Int32)), (.int (0 : Int32)), (.int (0 : Int32)), (.int (0 : Int32)), (.int (0 : Int32)), (.int (0 : Int32)), (.int (0 : Int32)), (.int (0 : Int32)), (.int (0 : Int32)), (.int (0 : Int32)), (.int (0 : Int32)), (.int (0 : Int32)), (.int (0 : Int32)), (.int (0 : Int32)), (.int (0 : Int32))] (.int (0 : Int32)) := Arv.set Ar8 qq8 Sz8 Ng8 Hs8 Gs8 rfl W9 3 rfl (Nat.le_of_ble_eq_true rfl)
  show Go _ _ _ (T9.setTop (mkF m 23 #[.val (.int p1), .val (.int p2), .val (.int p3), .val (.int p4), .unset, .unset, .unset, .unset, .unset] [(.ref b1)])) _
  refine Go.st (fun t k => XS.dup X9.here hx rfl (hb hby at_23) rfl rfl k) ?_
  show Go _ _ _ (T9.setTop (mkF m 24 #[.val (.int p1), .val (.int p2), .val (.int p3), .val (.int p4), .unset, .unset, .unset, .unset, .unset] [(.ref b1), (.ref b1)])) _
  refine Go.st (fun t k => XS.iconst X9.here hx rfl (hb hby at_24) k) ?_
  show Go _ _ _ (T9.setTop (mkF m 25 #[.val (.int p1), .val (.int p2), .val (.int p3), .val (.int p4), .unset, .unset, .unset, .unset, .unset] [(.int 4), (.ref b1), (.ref b1)])) _
  refine Go.st (fun t k => XS.bipush X9.here hx rfl (hb hby at_25) k) ?_
  show Go _ _ _ (T9.setTop (mkF m 27 #[.val (.int p1), .val (.int p2), .val (.int p3), .val (.int p4), .unset, .unset, .unset, .unset, .unset] [(.int 11), (.int 4), (.ref b1), (.ref b1)])) _
  obtain ⟨cl10, Ar10, qq10, Sz10, Ng10, Hs10, Gs10⟩ := id V_b1
  have hin10 : ¬ ((4 : Int32) < 0 ∨ cl10.slots.size ≤ ((4 : Int32)).toNatClampNeg) := inb_of Sz10 ⟨by decide, by decide⟩
  obtain ⟨T11, h11, X11, e11, W11, st11⟩ := stI X9 hx hZ e9 Ar10 (j := (4 : Int32)) hin10 (g := (mkF m 27 #[.val (.int p1), .val (.int p2), .val (.int p3), .val (.int p4), .unset, .unset, .unset, .unset, .unset] [(.int 11), (.int 4), (.ref b1), (.ref b1)])) rfl rfl (hb hby at_27)
  refine Go.st st11 ?_
  have N11 := Fr.snoc X11 N9 g_b1
  replace Z0 := Nat.le_trans Z0 (Nat.le_of_eq W11.size.symm)
  replace K0 := K0.wr W11 (Or.inr sz_b1)
  replace V_b1 : Arv Z h11 b1 k1 .int (23 : Int32) [(.int (0 : Int32)), (.int (8 : Int32)), (.int (9 : Int32)), (.int (10 : Int32)), (.int (11 : Int32)), (.int (0 : Int32)), (.int (0 : Int32)), (.int (0 : Int32)), (.int (0 : Int32)), (.int (0 : Int32)), (.int (0 : Int32)), (.int (0 : Int32)), (.int (0 : Int32)), (.int (0 : Int32)), (.int (0 : Int32)), (.int (0 : Int32)), (.int (0 : Int32)), (.int (0 : Int32)), (.int (0 : Int32)), (.int (0 : Int32)), (.int (0 : Int32)), (.int (0 : Int32)), (.int (0 : Int32))] (.int (0 : Int32)) := Arv.set Ar10 qq10 Sz10 Ng10 Hs10 Gs10 rfl W11 4 rfl (Nat.le_of_ble_eq_true rfl)
  show Go _ _ _ (T11.setTop (mkF m 28 #[.val (.int p1), .val (.int p2), .val (.int p3), .val (.int p4), .unset, .unset, .unset, .unset, .unset] [(.ref b1)])) _
  refine Go.st (fun t k => XS.dup X11.here hx rfl (hb hby at_28) rfl rfl k) ?_
  show Go _ _ _ (T11.setTop (mkF m 29 #[.val (.int p1), .val (.int p2), .val (.int p3), .val (.int p4), .unset, .unset, .unset, .unset, .unset] [(.ref b1), (.ref b1)])) _
  refine Go.st (fun t k => XS.iconst X11.here hx rfl (hb hby at_29) k) ?_
  show Go _ _ _ (T11.setTop (mkF m 30 #[.val (.int p1), .val (.int p2), .val (.int p3), .val (.int p4), .unset, .unset, .unset, .unset, .unset] [(.int 5), (.ref b1), (.ref b1)])) _
  refine Go.st (fun t k => XS.bipush X11.here hx rfl (hb hby at_30) k) ?_
  show Go _ _ _ (T11.setTop (mkF m 32 #[.val (.int p1), .val (.int p2), .val (.int p3), .val (.int p4), .unset, .unset, .unset, .unset, .unset] [(.int 12), (.int 5), (.ref b1), (.ref b1)])) _
  obtain ⟨cl12, Ar12, qq12, Sz12, Ng12, Hs12, Gs12⟩ := id V_b1
  have hin12 : ¬ ((5 : Int32) < 0 ∨ cl12.slots.size ≤ ((5 : Int32)).toNatClampNeg) := inb_of Sz12 ⟨by decide, by decide⟩
  obtain ⟨T13, h13, X13, e13, W13, st13⟩ := stI X11 hx hZ e11 Ar12 (j := (5 : Int32)) hin12 (g := (mkF m 32 #[.val (.int p1), .val (.int p2), .val (.int p3), .val (.int p4), .unset, .unset, .unset, .unset, .unset] [(.int 12), (.int 5), (.ref b1), (.ref b1)])) rfl rfl (hb hby at_32)
  refine Go.st st13 ?_
  have N13 := Fr.snoc X13 N11 g_b1
  replace Z0 := Nat.le_trans Z0 (Nat.le_of_eq W13.size.symm)
  replace K0 := K0.wr W13 (Or.inr sz_b1)
  replace V_b1 : Arv Z h13 b1 k1 .int (23 : Int32) [(.int (0 : Int32)), (.int (8 : Int32)), (.int (9 : Int32)), (.int (10 : Int32)), (.int (11 : Int32)), (.int (12 : Int32)), (.int (0 : Int32)), (.int (0 : Int32)), (.int (0 : Int32)), (.int (0 : Int32)), (.int (0 : Int32)), (.int (0 : Int32)), (.int (0 : Int32)), (.int (0 : Int32)), (.int (0 : Int32)), (.int (0 : Int32)), (.int (0 : Int32)), (.int (0 : Int32)), (.int (0 : Int32)), (.int (0 : Int32)), (.int (0 : Int32)), (.int (0 : Int32)), (.int (0 : Int32))] (.int (0 : Int32)) := Arv.set Ar12 qq12 Sz12 Ng12 Hs12 Gs12 rfl W13 5 rfl (Nat.le_of_ble_eq_true rfl)
  show Go _ _ _ (T13.setTop (mkF m 33 #[.val (.int p1), .val (.int p2), .val (.int p3), .val (.int p4), .unset, .unset, .unset, .unset, .unset] [(.ref b1)])) _
  refine Go.st (fun t k => XS.dup X13.here hx rfl (hb hby at_33) rfl rfl k) ?_
  show Go _ _ _ (T13.setTop (mkF m 34 #[.val (.int p1), .val (.int p2), .val (.int p3), .val (.int p4), .unset, .unset, .unset, .unset, .unset] [(.ref b1), (.ref b1)])) _
  refine Go.st (fun t k => XS.bipush X13.here hx rfl (hb hby at_34) k) ?_
  show Go _ _ _ (T13.setTop (mkF m 36 #[.val (.int p1), .val (.int p2), .val (.int p3), .val (.int p4), .unset, .unset, .unset, .unset, .unset] [(.int 6), (.ref b1), (.ref b1)])) _
  refine Go.st (fun t k => XS.bipush X13.here hx rfl (hb hby at_36) k) ?_
  show Go _ _ _ (T13.setTop (mkF m 38 #[.val (.int p1), .val (.int p2), .val (.int p3), .val (.int p4), .unset, .unset, .unset, .unset, .unset] [(.int 13), (.int 6), (.ref b1), (.ref b1)])) _
  obtain ⟨cl14, Ar14, qq14, Sz14, Ng14, Hs14, Gs14⟩ := id V_b1
  have hin14 : ¬ ((6 : Int32) < 0 ∨ cl14.slots.size ≤ ((6 : Int32)).toNatClampNeg) := inb_of Sz14 ⟨by decide, by decide⟩
  obtain ⟨T15, h15, X15, e15, W15, st15⟩ := stI X13 hx hZ e13 Ar14 (j := (6 : Int32)) hin14 (g := (mkF m 38 #[.val (.int p1), .val (.int p2), .val (.int p3), .val (.int p4), .unset, .unset, .unset, .unset, .unset] [(.int 13), (.int 6), (.ref b1), (.ref b1)])) rfl rfl (hb hby at_38)
  refine Go.st st15 ?_
  have N15 := Fr.snoc X15 N13 g_b1
  replace Z0 := Nat.le_trans Z0 (Nat.le_of_eq W15.size.symm)
  replace K0 := K0.wr W15 (Or.inr sz_b1)
  replace V_b1 : Arv Z h15 b1 k1 .int (23 : Int32) [(.int (0 : Int32)), (.int (8 : Int32)), (.int (9 : Int32)), (.int (10 : Int32)), (.int (11 : Int32)), (.int (12 : Int32)), (.int (13 : Int32)), (.int (0 : Int32)), (.int (0 : Int32)), (.int (0 : Int32)), (.int (0 : Int32)), (.int (0 : Int32)), (.int (0 : Int32)), (.int (0 : Int32)), (.int (0 : Int32)), (.int (0 : Int32)), (.int (0 : Int32)), (.int (0 : Int32)), (.int (0 : Int32)), (.int (0 : Int32)), (.int (0 : Int32)), (.int (0 : Int32)), (.int (0 : Int32))] (.int (0 : Int32)) := Arv.set Ar14 qq14 Sz14 Ng14 Hs14 Gs14 rfl W15 6 rfl (Nat.le_of_ble_eq_true rfl)
  show Go _ _ _ (T15.setTop (mkF m 39 #[.val (.int p1), .val (.int p2), .val (.int p3), .val (.int p4), .unset, .unset, .unset, .unset, .unset] [(.ref b1)])) _
  refine Go.st (fun t k => XS.dup X15.here hx rfl (hb hby at_39) rfl rfl k) ?_
  show Go _ _ _ (T15.setTop (mkF m 40 #[.val (.int p1), .val (.int p2), .val (.int p3), .val (.int p4), .unset, .unset, .unset, .unset, .unset] [(.ref b1), (.ref b1)])) _
  refine Go.st (fun t k => XS.bipush X15.here hx rfl (hb hby at_40) k) ?_
  show Go _ _ _ (T15.setTop (mkF m 42 #[.val (.int p1), .val (.int p2), .val (.int p3), .val (.int p4), .unset, .unset, .unset, .unset, .unset] [(.int 7), (.ref b1), (.ref b1)])) _
  refine Go.st (fun t k => XS.bipush X15.here hx rfl (hb hby at_42) k) ?_
  show Go _ _ _ (T15.setTop (mkF m 44 #[.val (.int p1), .val (.int p2), .val (.int p3), .val (.int p4), .unset, .unset, .unset, .unset, .unset] [(.int 14), (.int 7), (.ref b1), (.ref b1)])) _
  obtain ⟨cl16, Ar16, qq16, Sz16, Ng16, Hs16, Gs16⟩ := id V_b1
  have hin16 : ¬ ((7 : Int32) < 0 ∨ cl16.slots.size ≤ ((7 : Int32)).toNatClampNeg) := inb_of Sz16 ⟨by decide, by decide⟩
  obtain ⟨T17, h17, X17, e17, W17, st17⟩ := stI X15 hx hZ e15 Ar16 (j := (7 : Int32)) hin16 (g := (mkF m 44 #[.val (.int p1), .val (.int p2), .val (.int p3), .val (.int p4), .unset, .unset, .unset, .unset, .unset] [(.int 14), (.int 7), (.ref b1), (.ref b1)])) rfl rfl (hb hby at_44)
  refine Go.st st17 ?_
  have N17 := Fr.snoc X17 N15 g_b1
  obtain ⟨LL17, X17, N17⟩ : ∃ LL, Stand p l e room_1 s m #[(.int p1), (.int p2), (.int p3), (.int p4)] below meth c T17 LL 1 23 ∧ Fr n0 LL := ⟨_, X17, N17⟩
  replace Z0 := Nat.le_trans Z0 (Nat.le_of_eq W17.size.symm)
  replace K0 := K0.wr W17 (Or.inr sz_b1)
  replace V_b1 : Arv Z h17 b1 k1 .int (23 : Int32) [(.int (0 : Int32)), (.int (8 : Int32)), (.int (9 : Int32)), (.int (10 : Int32)), (.int (11 : Int32)), (.int (12 : Int32)), (.int (13 : Int32)), (.int (14 : Int32)), (.int (0 : Int32)), (.int (0 : Int32)), (.int (0 : Int32)), (.int (0 : Int32)), (.int (0 : Int32)), (.int (0 : Int32)), (.int (0 : Int32)), (.int (0 : Int32)), (.int (0 : Int32)), (.int (0 : Int32)), (.int (0 : Int32)), (.int (0 : Int32)), (.int (0 : Int32)), (.int (0 : Int32)), (.int (0 : Int32))] (.int (0 : Int32)) := Arv.set Ar16 qq16 Sz16 Ng16 Hs16 Gs16 rfl W17 7 rfl (Nat.le_of_ble_eq_true rfl)
  show Go _ _ _ (T17.setTop (mkF m 45 #[.val (.int p1), .val (.int p2), .val (.int p3), .val (.int p4), .unset, .unset, .unset, .unset, .unset] [(.ref b1)])) _
  refine Go.st (fun t k => XS.dup X17.here hx rfl (hb hby at_45) rfl rfl k) ?_
  show Go _ _ _ (T17.setTop (mkF m 46 #[.val (.int p1), .val (.int p2), .val (.int p3), .val (.int p4), .unset, .unset, .unset, .unset, .unset] [(.ref b1), (.ref b1)])) _
  refine Go.st (fun t k => XS.bipush X17.here hx rfl (hb hby at_46) k) ?_
  show Go _ _ _ (T17.setTop (mkF m 48 #[.val (.int p1), .val (.int p2), .val (.int p3), .val (.int p4), .unset, .unset, .unset, .unset, .unset] [(.int 8), (.ref b1), (.ref b1)])) _
  refine Go.st (fun t k => XS.bipush X17.here hx rfl (hb hby at_48) k) ?_
  show Go _ _ _ (T17.setTop (mkF m 50 #[.val (.int p1), .val (.int p2), .val (.int p3), .val (.int p4), .unset, .unset, .unset, .unset, .unset] [(.int 31), (.int 8), (.ref b1), (.ref b1)])) _
  obtain ⟨cl18, Ar18, qq18, Sz18, Ng18, Hs18, Gs18⟩ := id V_b1
  have hin18 : ¬ ((8 : Int32) < 0 ∨ cl18.slots.size ≤ ((8 : Int32)).toNatClampNeg) := inb_of Sz18 ⟨by decide, by decide⟩
  obtain ⟨T19, h19, X19, e19, W19, st19⟩ := stI X17 hx hZ e17 Ar18 (j := (8 : Int32)) hin18 (g := (mkF m 50 #[.val (.int p1), .val (.int p2), .val (.int p3), .val (.int p4), .unset, .unset, .unset, .unset, .unset] [(.int 31), (.int 8), (.ref b1), (.ref b1)])) rfl rfl (hb hby at_50)
  refine Go.st st19 ?_
  have N19 := Fr.snoc X19 N17 g_b1
  replace Z0 := Nat.le_trans Z0 (Nat.le_of_eq W19.size.symm)
  replace K0 := K0.wr W19 (Or.inr sz_b1)
  replace V_b1 : Arv Z h19 b1 k1 .int (23 : Int32) [(.int (0 : Int32)), (.int (8 : Int32)), (.int (9 : Int32)), (.int (10 : Int32)), (.int (11 : Int32)), (.int (12 : Int32)), (.int (13 : Int32)), (.int (14 : Int32)), (.int (31 : Int32)), (.int (0 : Int32)), (.int (0 : Int32)), (.int (0 : Int32)), (.int (0 : Int32)), (.int (0 : Int32)), (.int (0 : Int32)), (.int (0 : Int32)), (.int (0 : Int32)), (.int (0 : Int32)), (.int (0 : Int32)), (.int (0 : Int32)), (.int (0 : Int32)), (.int (0 : Int32)), (.int (0 : Int32))] (.int (0 : Int32)) := Arv.set Ar18 qq18 Sz18 Ng18 Hs18 Gs18 rfl W19 8 rfl (Nat.le_of_ble_eq_true rfl)
  show Go _ _ _ (T19.setTop (mkF m 51 #[.val (.int p1), .val (.int p2), .val (.int p3), .val (.int p4), .unset, .unset, .unset, .unset, .unset] [(.ref b1)])) _
  refine Go.st (fun t k => XS.dup X19.here hx rfl (hb hby at_51) rfl rfl k) ?_
  show Go _ _ _ (T19.setTop (mkF m 52 #[.val (.int p1), .val (.int p2), .val (.int p3), .val (.int p4), .unset, .unset, .unset, .unset, .unset] [(.ref b1), (.ref b1)])) _
  refine Go.st (fun t k => XS.bipush X19.here hx rfl (hb hby at_52) k) ?_
  show Go _ _ _ (T19.setTop (mkF m 54 #[.val (.int p1), .val (.int p2), .val (.int p3), .val (.int p4), .unset, .unset, .unset, .unset, .unset] [(.int 9), (.ref b1), (.ref b1)])) _
  refine Go.st (fun t k => XS.bipush X19.here hx rfl (hb hby at_54) k) ?_
  show Go _ _ _ (T19.setTop (mkF m 56 #[.val (.int p1), .val (.int p2), .val (.int p3), .val (.int p4), .unset, .unset, .unset, .unset, .unset] [(.int 32), (.int 9), (.ref b1), (.ref b1)])) _
  obtain ⟨cl20, Ar20, qq20, Sz20, Ng20, Hs20, Gs20⟩ := id V_b1
  have hin20 : ¬ ((9 : Int32) < 0 ∨ cl20.slots.size ≤ ((9 : Int32)).toNatClampNeg) := inb_of Sz20 ⟨by decide, by decide⟩
  obtain ⟨T21, h21, X21, e21, W21, st21⟩ := stI X19 hx hZ e19 Ar20 (j := (9 : Int32)) hin20 (g := (mkF m 56 #[.val (.int p1), .val (.int p2), .val (.int p3), .val (.int p4), .unset, .unset, .unset, .unset, .unset] [(.int 32), (.int 9), (.ref b1), (.ref b1)])) rfl rfl (hb hby at_56)
  refine Go.st st21 ?_
  have N21 := Fr.snoc X21 N19 g_b1
  replace Z0 := Nat.le_trans Z0 (Nat.le_of_eq W21.size.symm)
  replace K0 := K0.wr W21 (Or.inr sz_b1)
  replace V_b1 : Arv Z h21 b1 k1 .int (23 : Int32) [(.int (0 : Int32)), (.int (8 : Int32)), (.int (9 : Int32)), (.int (10 : Int32)), (.int (11 : Int32)), (.int (12 : Int32)), (.int (13 : Int32)), (.int (14 : Int32)), (.int (31 : Int32)), (.int (32 : Int32)), (.int (0 : Int32)), (.int (0 : Int32)), (.int (0 : Int32)), (.int (0 : Int32)), (.int (0 : Int32)), (.int (0 : Int32)), (.int (0 : Int32)), (.int (0 : Int32)), (.int (0 : Int32)), (.int (0 : Int32)), (.int (0 : Int32)), (.int (0 : Int32)), (.int (0 : Int32))] (.int (0 : Int32)) := Arv.set Ar20 qq20 Sz20 Ng20 Hs20 Gs20 rfl W21 9 rfl (Nat.le_of_ble_eq_true rfl)
  show Go _ _ _ (T21.setTop (mkF m 57 #[.val (.int p1), .val (.int p2), .val (.int p3), .val (.int p4), .unset, .unset, .unset, .unset, .unset] [(.ref b1)])) _
  refine Go.st (fun t k => XS.dup X21.here hx rfl (hb hby at_57) rfl rfl k) ?_
  show Go _ _ _ (T21.setTop (mkF m 58 #[.val (.int p1), .val (.int p2), .val (.int p3), .val (.int p4), .unset, .unset, .unset, .unset, .unset] [(.ref b1), (.ref b1)])) _
  refine Go.st (fun t k => XS.bipush X21.here hx rfl (hb hby at_58) k) ?_
  show Go _ _ _ (T21.setTop (mkF m 60 #[.val (.int p1), .val (.int p2), .val (.int p3), .val (.int p4), .unset, .unset, .unset, .unset, .unset] [(.int 10), (.ref b1), (.ref b1)])) _
  refine Go.st (fun t k => X21.ldcInt hx hown (mvT hZ (wd1 hw)) (g := (mkF m 60 #[.val (.int p1), .val (.int p2), .val (.int p3), .val (.int p4), .unset, .unset, .unset, .unset, .unset] [(.int 10), (.ref b1), (.ref b1)])) rfl (hb hby at_60) _ k) ?_
  show Go _ _ _ (T21.setTop (mkF m 62 #[.val (.int p1), .val (.int p2), .val (.int p3), .val (.int p4), .unset, .unset, .unset, .unset, .unset] [(.int 55295), (.int 10), (.ref b1), (.ref b1)])) _
  obtain ⟨cl22, Ar22, qq22, Sz22, Ng22, Hs22, Gs22⟩ := id V_b1
  have hin22 : ¬ ((10 : Int32) < 0 ∨ cl22.slots.size ≤ ((10 : Int32)).toNatClampNeg) := inb_of Sz22 ⟨by decide, by decide⟩
  obtain ⟨T23, h23, X23, e23, W23, st23⟩ := stI X21 hx hZ e21 Ar22 (j := (10 : Int32)) hin22 (g := (mkF m 62 #[.val (.int p1), .val (.int p2), .val (.int p3), .val (.int p4), .unset, .unset, .unset, .unset, .unset] [(.int 55295), (.int 10), (.ref b1), (.ref b1)])) rfl rfl (hb hby at_62)
  refine Go.st st23 ?_
  have N23 := Fr.snoc X23 N21 g_b1
  replace Z0 := Nat.le_trans Z0 (Nat.le_of_eq W23.size.symm)
  replace K0 := K0.wr W23 (Or.inr sz_b1)
  replace V_b1 : Arv Z h23 b1 k1 .int (23 : Int32) [(.int (0 : Int32)), (.int (8 : Int32)), (.int (9 : Int32)), (.int (10 : Int32)), (.int (11 : Int32)), (.int (12 : Int32)), (.int (13 : Int32)), (.int (14 : Int32)), (.int (31 : Int32)), (.int (32 : Int32)), (.int (55295 : Int32)), (.int (0 : Int32)), (.int (0 : Int32)), (.int (0 : Int32)), (.int (0 : Int32)), (.int (0 : Int32)), (.int (0 : Int32)), (.int (0 : Int32)), (.int (0 : Int32)), (.int (0 : Int32)), (.int (0 : Int32)), (.int (0 : Int32)), (.int (0 : Int32))] (.int (0 : Int32)) := Arv.set Ar22 qq22 Sz22 Ng22 Hs22 Gs22 rfl W23 10 rfl (Nat.le_of_ble_eq_true rfl)
  show Go _ _ _ (T23.setTop (mkF m 63 #[.val (.int p1), .val (.int p2), .val (.int p3), .val (.int p4), .unset, .unset, .unset, .unset, .unset] [(.ref b1)])) _
  refine Go.st (fun t k => XS.dup X23.here hx rfl (hb hby at_63) rfl rfl k) ?_
  show Go _ _ _ (T23.setTop (mkF m 64 #[.val (.int p1), .val (.int p2), .val (.int p3), .val (.int p4), .unset, .unset, .unset, .unset, .unset] [(.ref b1), (.ref b1)])) _
  refine Go.st (fun t k => XS.bipush X23.here hx rfl (hb hby at_64) k) ?_
  show Go _ _ _ (T23.setTop (mkF m 66 #[.val (.int p1), .val (.int p2), .val (.int p3), .val (.int p4), .unset, .unset, .unset, .unset, .unset] [(.int 11), (.ref b1), (.ref b1)])) _
  refine Go.st (fun t k => X23.ldcInt hx hown (mvT hZ (wd2 hw)) (g := (mkF m 66 #[.val (.int p1), .val (.int p2), .val (.int p3), .val (.int p4), .unset, .unset, .unset, .unset, .unset] [(.int 11), (.ref b1), (.ref b1)])) rfl (hb hby at_66) _ k) ?_
  show Go _ _ _ (T23.setTop (mkF m 68 #[.val (.int p1), .val (.int p2), .val (.int p3), .val (.int p4), .unset, .unset, .unset, .unset, .unset] [(.int 55296), (.int 11), (.ref b1), (.ref b1)])) _
  obtain ⟨cl24, Ar24, qq24, Sz24, Ng24, Hs24, Gs24⟩ := id V_b1
  have hin24 : ¬ ((11 : Int32) < 0 ∨ cl24.slots.size ≤ ((11 : Int32)).toNatClampNeg) := inb_of Sz24 ⟨by decide, by decide⟩
  obtain ⟨T25, h25, X25, e25, W25, st25⟩ := stI X23 hx hZ e23 Ar24 (j := (11 : Int32)) hin24 (g := (mkF m 68 #[.val (.int p1), .val (.int p2), .val (.int p3), .val (.int p4), .unset, .unset, .unset, .unset, .unset] [(.int 55296), (.int 11), (.ref b1), (.ref b1)])) rfl rfl (hb hby at_68)
  refine Go.st st25 ?_
  have N25 := Fr.snoc X25 N23 g_b1
  obtain ⟨LL25, X25, N25⟩ : ∃ LL, Stand p l e room_1 s m #[(.int p1), (.int p2), (.int p3), (.int p4)] below meth c T25 LL 1 23 ∧ Fr n0 LL := ⟨_, X25, N25⟩
  replace Z0 := Nat.le_trans Z0 (Nat.le_of_eq W25.size.symm)
  replace K0 := K0.wr W25 (Or.inr sz_b1)
  replace V_b1 : Arv Z h25 b1 k1 .int (23 : Int32) [(.int (0 : Int32)), (.int (8 : Int32)), (.int (9 : Int32)), (.int (10 : Int32)), (.int (11 : Int32)), (.int (12 : Int32)), (.int (13 : Int32)), (.int (14 : Int32)), (.int (31 : Int32)), (.int (32 : Int32)), (.int (55295 : Int32)), (.int (55296 : Int32)), (.int (0 : Int32)), (.int (0 : Int32)), (.int (0 : Int32)), (.int (0 : Int32)), (.int (0 : Int32)), (.int (0 : Int32)), (.int (0 : Int32)), (.int (0 : Int32)), (.int (0 : Int32)), (.int (0 : Int32)), (.int (0 : Int32))] (.int (0 : Int32)) := Arv.set Ar24 qq24 Sz24 Ng24 Hs24 Gs24 rfl W25 11 rfl (Nat.le_of_ble_eq_true rfl)
  show Go _ _ _ (T25.setTop (mkF m 69 #[.val (.int p1), .val (.int p2), .val (.int p3), .val (.int p4), .unset, .unset, .unset, .unset, .unset] [(.ref b1)])) _
  refine Go.st (fun t k => XS.dup X25.here hx rfl (hb hby at_69) rfl rfl k) ?_
  show Go _ _ _ (T25.setTop (mkF m 70 #[.val (.int p1), .val (.int p2), .val (.int p3), .val (.int p4), .unset, .unset, .unset, .unset, .unset] [(.ref b1), (.ref b1)])) _
  refine Go.st (fun t k => XS.bipush X25.here hx rfl (hb hby at_70) k) ?_
  show Go _ _ _ (T25.setTop (mkF m 72 #[.val (.int p1), .val (.int p2), .val (.int p3), .val (.int p4), .unset, .unset, .unset, .unset, .unset] [(.int 12), (.ref b1), (.ref b1)])) _
  refine Go.st (fun t k => X25.ldcInt hx hown (mvT hZ (wd3 hw)) (g := (mkF m 72 #[.val (.int p1), .val (.int p2), .val (.int p3), .val (.int p4), .unset, .unset, .unset, .unset, .unset] [(.int 12), (.ref b1), (.ref b1)])) rfl (hb hby at_72) _ k) ?_
  show Go _ _ _ (T25.setTop (mkF m 74 #[.val (.int p1), .val (.int p2), .val (.int p3), .val (.int p4), .unset, .unset, .unset, .unset, .unset] [(.int 57343), (.int 12), (.ref b1), (.ref b1)])) _
  obtain ⟨cl26, Ar26, qq26, Sz26, Ng26, Hs26, Gs26⟩ := id V_b1
  have hin26 : ¬ ((12 : Int32) < 0 ∨ cl26.slots.size ≤ ((12 : Int32)).toNatClampNeg) := inb_of Sz26 ⟨by decide, by decide⟩
  obtain ⟨T27, h27, X27, e27, W27, st27⟩ := stI X25 hx hZ e25 Ar26 (j := (12 : Int32)) hin26 (g := (mkF m 74 #[.val (.int p1), .val (.int p2), .val (.int p3), .val (.int p4), .unset, .unset, .unset, .unset, .unset] [(.int 57343), (.int 12), (.ref b1), (.ref b1)])) rfl rfl (hb hby at_74)
  refine Go.st st27 ?_
  have N27 := Fr.snoc X27 N25 g_b1
  replace Z0 := Nat.le_trans Z0 (Nat.le_of_eq W27.size.symm)
  replace K0 := K0.wr W27 (Or.inr sz_b1)
  replace V_b1 : Arv Z h27 b1 k1 .int (23 : Int32) [(.int (0 : Int32)), (.int (8 : Int32)), (.int (9 : Int32)), (.int (10 : Int32)), (.int (11 : Int32)), (.int (12 : Int32)), (.int (13 : Int32)), (.int (14 : Int32)), (.int (31 : Int32)), (.int (32 : Int32)), (.int (55295 : Int32)), (.int (55296 : Int32)), (.int (57343 : Int32)), (.int (0 : Int32)), (.int (0 : Int32)), (.int (0 : Int32)), (.int (0 : Int32)), (.int (0 : Int32)), (.int (0 : Int32)), (.int (0 : Int32)), (.int (0 : Int32)), (.int (0 : Int32)), (.int (0 : Int32))] (.int (0 : Int32)) := Arv.set Ar26 qq26 Sz26 Ng26 Hs26 Gs26 rfl W27 12 rfl (Nat.le_of_ble_eq_true rfl)
  show Go _ _ _ (T27.setTop (mkF m 75 #[.val (.int p1), .val (.int p2), .val (.int p3), .val (.int p4), .unset, .unset, .unset, .unset, .unset] [(.ref b1)])) _
  refine Go.st (fun t k => XS.dup X27.here hx rfl (hb hby at_75) rfl rfl k) ?_
  show Go _ _ _ (T27.setTop (mkF m 76 #[.val (.int p1), .val (.int p2), .val (.int p3), .val (.int p4), .unset, .unset, .unset, .unset, .unset] [(.ref b1), (.ref b1)])) _
  refine Go.st (fun t k => XS.bipush X27.here hx rfl (hb hby at_76) k) ?_
  show Go _ _ _ (T27.setTop (mkF m 78 #[.val (.int p1), .val (.int p2), .val (.int p3), .val (.int p4), .unset, .unset, .unset, .unset, .unset] [(.int 13), (.ref b1), (.ref b1)])) _
  refine Go.st (fun t k => X27.ldcInt hx hown (mvT hZ (wd4 hw)) (g := (mkF m 78 #[.val (.int p1), .val (.int p2), .val (.int p3), .val (.int p4), .unset, .unset, .unset, .unset, .unset] [(.int 13), (.ref b1), (.ref b1)])) rfl (hb hby at_78) _ k) ?_
  show Go _ _ _ (T27.setTop (mkF m 80 #[.val (.int p1), .val (.int p2), .val (.int p3), .val (.int p4), .unset, .unset, .unset, .unset, .unset] [(.int 57344), (.int 13), (.ref b1), (.ref b1)])) _
  obtain ⟨cl28, Ar28, qq28, Sz28, Ng28, Hs28, Gs28⟩ := id V_b1
  have hin28 : ¬ ((13 : Int32) < 0 ∨ cl28.slots.size ≤ ((13 : Int32)).toNatClampNeg) := inb_of Sz28 ⟨by decide, by decide⟩
  obtain ⟨T29, h29, X29, e29, W29, st29⟩ := stI X27 hx hZ e27 Ar28 (j := (13 : Int32)) hin28 (g := (mkF m 80 #[.val (.int p1), .val (.int p2), .val (.int p3), .val (.int p4), .unset, .unset, .unset, .unset, .unset] [(.int 57344), (.int 13), (.ref b1), (.ref b1)])) rfl rfl (hb hby at_80)
  refine Go.st st29 ?_
  have N29 := Fr.snoc X29 N27 g_b1
  replace Z0 := Nat.le_trans Z0 (Nat.le_of_eq W29.size.symm)
  replace K0 := K0.wr W29 (Or.inr sz_b1)
  replace V_b1 : Arv Z h29 b1 k1 .int (23 : Int32) [(.int (0 : Int32)), (.int (8 : Int32)), (.int (9 : Int32)), (.int (10 : Int32)), (.int (11 : Int32)), (.int (12 : Int32)), (.int (13 : Int32)), (.int (14 : Int32)), (.int (31 : Int32)), (.int (32 : Int32)), (.int (55295 : Int32)), (.int (55296 : Int32)), (.int (57343 : Int32)), (.int (57344 : Int32)), (.int (0 : Int32)), (.int (0 : Int32)), (.int (0 : Int32)), (.int (0 : Int32)), (.int (0 : Int32)), (.int (0 : Int32)), (.int (0 : Int32)), (.int (0 : Int32)), (.int (0 : Int32))] (.int (0 : Int32)) := Arv.set Ar28 qq28 Sz28 Ng28 Hs28 Gs28 rfl W29 13 rfl (Nat.le_of_ble_eq_true rfl)
  show Go _ _ _ (T29.setTop (mkF m 81 #[.val (.int p1), .val (.int p2), .val (.int p3), .val (.int p4), .unset, .unset, .unset, .unset, .unset] [(.ref b1)])) _
  refine Go.st (fun t k => XS.dup X29.here hx rfl (hb hby at_81) rfl rfl k) ?_
  show Go _ _ _ (T29.setTop (mkF m 82 #[.val (.int p1), .val (.int p2), .val (.int p3), .val (.int p4), .unset, .unset, .unset, .unset, .unset] [(.ref b1), (.ref b1)])) _
  refine Go.st (fun t k => XS.bipush X29.here hx rfl (hb hby at_82) k) ?_
  show Go _ _ _ (T29.setTop (mkF m 84 #[.val (.int p1), .val (.int p2), .val (.int p3), .val (.int p4), .unset, .unset, .unset, .unset, .unset] [(.int 14), (.ref b1), (.ref b1)])) _
  refine Go.st (fun t k => X29.ldcInt hx hown (mvT hZ (wd5 hw)) (g := (mkF m 84 #[.val (.int p1), .val (.int p2), .val (.int p3), .val (.int p4), .unset, .unset, .unset, .unset, .unset] [(.int 14), (.ref b1), (.ref b1)])) rfl (hb hby at_84) _ k) ?_
  show Go _ _ _ (T29.setTop (mkF m 86 #[.val (.int p1), .val (.int p2), .val (.int p3), .val (.int p4), .unset, .unset, .unset, .unset, .unset] [(.int 65533), (.int 14), (.ref b1), (.ref b1)])) _
  obtain ⟨cl30, Ar30, qq30, Sz30, Ng30, Hs30, Gs30⟩ := id V_b1
  have hin30 : ¬ ((14 : Int32) < 0 ∨ cl30.slots.size ≤ ((14 : Int32)).toNatClampNeg) := inb_of Sz30 ⟨by decide, by decide⟩
  obtain ⟨T31, h31, X31, e31, W31, st31⟩ := stI X29 hx hZ e29 Ar30 (j := (14 : Int32)) hin30 (g := (mkF m 86 #[.val (.int p1), .val (.int p2), .val (.int p3), .val (.int p4), .unset, .unset, .unset, .unset, .unset] [(.int 65533), (.int 14), (.ref b1), (.ref b1)])) rfl rfl (hb hby at_86)
  refine Go.st st31 ?_
  have N31 := Fr.snoc X31 N29 g_b1
  replace Z0 := Nat.le_trans Z0 (Nat.le_of_eq W31.size.symm)
  replace K0 := K0.wr W31 (Or.inr sz_b1)
  replace V_b1 : Arv Z h31 b1 k1 .int (23 : Int32) [(.int (0 : Int32)), (.int (8 : Int32)), (.int (9 : Int32)), (.int (10 : Int32)), (.int (11 : Int32)), (.int (12 : Int32)), (.int (13 : Int32)), (.int (14 : Int32)), (.int (31 : Int32)), (.int (32 : Int32)), (.int (55295 : Int32)), (.int (55296 : Int32)), (.int (57343 : Int32)), (.int (57344 : Int32)), (.int (65533 : Int32)), (.int (0 : Int32)), (.int (0 : Int32)), (.int (0 : Int32)), (.int (0 : Int32)), (.int (0 : Int32)), (.int (0 : Int32)), (.int (0 : Int32)), (.int (0 : Int32))] (.int (0 : Int32)) := Arv.set Ar30 qq30 Sz30 Ng30 Hs30 Gs30 rfl W31 14 rfl (Nat.le_of_ble_eq_true rfl)
  show Go _ _ _ (T31.setTop (mkF m 87 #[.val (.int p1), .val (.int p2), .val (.int p3), .val (.int p4), .unset, .unset, .unset, .unset, .unset] [(.ref b1)])) _
  refine Go.st (fun t k => XS.dup X31.here hx rfl (hb hby at_87) rfl rfl k) ?_
  show Go _ _ _ (T31.setTop (mkF m 88 #[.val (.int p1), .val (.int p2), .val (.int p3), .val (.int p4), .unset, .unset, .unset, .unset, .unset] [(.ref b1), (.ref b1)])) _
  refine Go.st (fun t k => XS.bipush X31.here hx rfl (hb hby at_88) k) ?_
  show Go _ _ _ (T31.setTop (mkF m 90 #[.val (.int p1), .val (.int p2), .val (.int p3), .val (.int p4), .unset, .unset, .unset, .unset, .unset] [(.int 15), (.ref b1), (.ref b1)])) _
  refine Go.st (fun t k => X31.ldcInt hx hown (mvT hZ (wd6 hw)) (g := (mkF m 90 #[.val (.int p1), .val (.int p2), .val (.int p3), .val (.int p4), .unset, .unset, .unset, .unset, .unset] [(.int 15), (.ref b1), (.ref b1)])) rfl (hb hby at_90) _ k) ?_
  show Go _ _ _ (T31.setTop (mkF m 92 #[.val (.int p1), .val (.int p2), .val (.int p3), .val (.int p4), .unset, .unset, .unset, .unset, .unset] [(.int 65534), (.int 15), (.ref b1), (.ref b1)])) _
  obtain ⟨cl32, Ar32, qq32, Sz32, Ng32, Hs32, Gs32⟩ := id V_b1
  have hin32 : ¬ ((15 : Int32) < 0 ∨ cl32.slots.size ≤ ((15 : Int32)).toNatClampNeg) := inb_of Sz32 ⟨by decide, by decide⟩
  obtain ⟨T33, h33, X33, e33, W33, st33⟩ := stI X31 hx hZ e31 Ar32 (j := (15 : Int32)) hin32 (g := (mkF m 92 #[.val (.int p1), .val (.int p2), .val (.int p3), .val (.int p4), .unset, .unset, .unset, .unset, .unset] [(.int 65534), (.int 15), (.ref b1), (.ref b1)])) rfl rfl (hb hby at_92)
  refine Go.st st33 ?_
  have N33 := Fr.snoc X33 N31 g_b1
  obtain ⟨LL33, X33, N33⟩ : ∃ LL, Stand p l e room_1 s m #[(.int p1), (.int p2), (.int p3), (.int p4)] below meth c T33 LL 1 23 ∧ Fr n0 LL := ⟨_, X33, N33⟩
  replace Z0 := Nat.le_trans Z0 (Nat.le_of_eq W33.size.symm)
  replace K0 := K0.wr W33 (Or.inr sz_b1)
  replace V_b1 : Arv Z h33 b1 k1 .int (23 : Int32) [(.int (0 : Int32)), (.int (8 : Int32)), (.int (9 : Int32)), (.int (10 : Int32)), (.int (11 : Int32)), (.int (12 : Int32)), (.int (13 : Int32)), (.int (14 : Int32)), (.int (31 : Int32)), (.int (32 : Int32)), (.int (55295 : Int32)), (.int (55296 : Int32)), (.int (57343 : Int32)), (.int (57344 : Int32)), (.int (65533 : Int32)), (.int (65534 : Int32)), (.int (0 : Int32)), (.int (0 : Int32)), (.int (0 : Int32)), (.int (0 : Int32)), (.int (0 : Int32)), (.int (0 : Int32)), (.int (0 : Int32))] (.int (0 : Int32)) := Arv.set Ar32 qq32 Sz32 Ng32 Hs32 Gs32 rfl W33 15 rfl (Nat.le_of_ble_eq_true rfl)
  show Go _ _ _ (T33.setTop (mkF m 93 #[.val (.int p1), .val (.int p2), .val (.int p3), .val (.int p4), .unset, .unset, .unset, .unset, .unset] [(.ref b1)])) _
  refine Go.st (fun t k => XS.dup X33.here hx rfl (hb hby at_93) rfl rfl k) ?_
  show Go _ _ _ (T33.setTop (mkF m 94 #[.val (.int p1), .val (.int p2), .val (.int p3), .val (.int p4), .unset, .unset, .unset, .unset, .unset] [(.ref b1), (.ref b1)])) _
  refine Go.st (fun t k => XS.bipush X33.here hx rfl (hb hby at_94) k) ?_
  show Go _ _ _ (T33.setTop (mkF m 96 #[.val (.int p1), .val (.int p2), .val (.int p3), .val (.int p4), .unset, .unset, .unset, .unset, .unset] [(.int 16), (.ref b1), (.ref b1)])) _
  refine Go.st (fun t k => X33.ldcInt hx hown (mvT hZ (wd7 hw)) (g := (mkF m 96 #[.val (.int p1), .val (.int p2), .val (.int p3), .val (.int p4), .unset, .unset, .unset, .unset, .unset] [(.int 16), (.ref b1), (.ref b1)])) rfl (hb hby at_96) _ k) ?_
  show Go _ _ _ (T33.setTop (mkF m 98 #[.val (.int p1), .val (.int p2), .val (.int p3), .val (.int p4), .unset, .unset, .unset, .unset, .unset] [(.int 65535), (.int 16), (.ref b1), (.ref b1)])) _
  obtain ⟨cl34, Ar34, qq34, Sz34, Ng34, Hs34, Gs34⟩ := id V_b1
  have hin34 : ¬ ((16 : Int32) < 0 ∨ cl34.slots.size ≤ ((16 : Int32)).toNatClampNeg) := inb_of Sz34 ⟨by decide, by decide⟩
  obtain ⟨T35, h35, X35, e35, W35, st35⟩ := stI X33 hx hZ e33 Ar34 (j := (16 : Int32)) hin34 (g := (mkF m 98 #[.val (.int p1), .val (.int p2), .val (.int p3), .val (.int p4), .unset, .unset, .unset, .unset, .unset] [(.int 65535), (.int 16), (.ref b1), (.ref b1)])) rfl rfl (hb hby at_98)
  refine Go.st st35 ?_
  have N35 := Fr.snoc X35 N33 g_b1
  replace Z0 := Nat.le_trans Z0 (Nat.le_of_eq W35.size.symm)
  replace K0 := K0.wr W35 (Or.inr sz_b1)
  replace V_b1 : Arv Z h35 b1 k1 .int (23 : Int32) [(.int (0 : Int32)), (.int (8 : Int32)), (.int (9 : Int32)), (.int (10 : Int32)), (.int (11 : Int32)), (.int (12 : Int32)), (.int (13 : Int32)), (.int (14 : Int32)), (.int (31 : Int32)), (.int (32 : Int32)), (.int (55295 : Int32)), (.int (55296 : Int32)), (.int (57343 : Int32)), (.int (57344 : Int32)), (.int (65533 : Int32)), (.int (65534 : Int32)), (.int (65535 : Int32)), (.int (0 : Int32)), (.int (0 : Int32)), (.int (0 : Int32)), (.int (0 : Int32)), (.int (0 : Int32)), (.int (0 : Int32))] (.int (0 : Int32)) := Arv.set Ar34 qq34 Sz34 Ng34 Hs34 Gs34 rfl W35 16 rfl (Nat.le_of_ble_eq_true rfl)
  show Go _ _ _ (T35.setTop (mkF m 99 #[.val (.int p1), .val (.int p2), .val (.int p3), .val (.int p4), .unset, .unset, .unset, .unset, .unset] [(.ref b1)])) _
  refine Go.st (fun t k => XS.dup X35.here hx rfl (hb hby at_99) rfl rfl k) ?_
  show Go _ _ _ (T35.setTop (mkF m 100 #[.val (.int p1), .val (.int p2), .val (.int p3), .val (.int p4), .unset, .unset, .unset, .unset, .unset] [(.ref b1), (.ref b1)])) _
  refine Go.st (fun t k => XS.bipush X35.here hx rfl (hb hby at_100) k) ?_
  show Go _ _ _ (T35.setTop (mkF m 102 #[.val (.int p1), .val (.int p2), .val (.int p3), .val (.int p4), .unset, .unset, .unset, .unset, .unset] [(.int 17), (.ref b1), (.ref b1)])) _
  refine Go.st (fun t k => X35.ldcInt hx hown (mvT hZ (wd8 hw)) (g := (mkF m 102 #[.val (.int p1), .val (.int p2), .val (.int p3), .val (.int p4), .unset, .unset, .unset, .unset, .unset] [(.int 17), (.ref b1), (.ref b1)])) rfl (hb hby at_102) _ k) ?_
  show Go _ _ _ (T35.setTop (mkF m 104 #[.val (.int p1), .val (.int p2), .val (.int p3), .val (.int p4), .unset, .unset, .unset, .unset, .unset] [(.int 65536), (.int 17), (.ref b1), (.ref b1)])) _
  obtain ⟨cl36, Ar36, qq36, Sz36, Ng36, Hs36, Gs36⟩ := id V_b1
  have hin36 : ¬ ((17 : Int32) < 0 ∨ cl36.slots.size ≤ ((17 : Int32)).toNatClampNeg) := inb_of Sz36 ⟨by decide, by decide⟩
  obtain ⟨T37, h37, X37, e37, W37, st37⟩ := stI X35 hx hZ e35 Ar36 (j := (17 : Int32)) hin36 (g := (mkF m 104 #[.val (.int p1), .val (.int p2), .val (.int p3), .val (.int p4), .unset, .unset, .unset, .unset, .unset] [(.int 65536), (.int 17), (.ref b1), (.ref b1)])) rfl rfl (hb hby at_104)
  refine Go.st st37 ?_
  have N37 := Fr.snoc X37 N35 g_b1
  replace Z0 := Nat.le_trans Z0 (Nat.le_of_eq W37.size.symm)
  replace K0 := K0.wr W37 (Or.inr sz_b1)
  replace V_b1 : Arv Z h37 b1 k1 .int (23 : Int32) [(.int (0 : Int32)), (.int (8 : Int32)), (.int (9 : Int32)), (.int (10 : Int32)), (.int (11 : Int32)), (.int (12 : Int32)), (.int (13 : Int32)), (.int (14 : Int32)), (.int (31 : Int32)), (.int (32 : Int32)), (.int (55295 : Int32)), (.int (55296 : Int32)), (.int (57343 : Int32)), (.int (57344 : Int32)), (.int (65533 : Int32)), (.int (65534 : Int32)), (.int (65535 : Int32)), (.int (65536 : Int32)), (.int (0 : Int32)), (.int (0 : Int32)), (.int (0 : Int32)), (.int (0 : Int32)), (.int (0 : Int32))] (.int (0 : Int32)) := Arv.set Ar36 qq36 Sz36 Ng36 Hs36 Gs36 rfl W37 17 rfl (Nat.le_of_ble_eq_true rfl)
  show Go _ _ _ (T37.setTop (mkF m 105 #[.val (.int p1), .val (.int p2), .val (.int p3), .val (.int p4), .unset, .unset, .unset, .unset, .unset] [(.ref b1)])) _
  refine Go.st (fun t k => XS.dup X37.here hx rfl (hb hby at_105) rfl rfl k) ?_
  show Go _ _ _ (T37.setTop (mkF m 106 #[.val (.int p1), .val (.int p2), .val (.int p3), .val (.int p4), .unset, .unset, .unset, .unset, .unset] [(.ref b1), (.ref b1)])) _
  refine Go.st (fun t k => XS.bipush X37.here hx rfl (hb hby at_106) k) ?_
  show Go _ _ _ (T37.setTop (mkF m 108 #[.val (.int p1), .val (.int p2), .val (.int p3), .val (.int p4), .unset, .unset, .unset, .unset, .unset] [(.int 18), (.ref b1), (.ref b1)])) _
  refine Go.st (fun t k => X37.ldcInt hx hown (mvT hZ (wd9 hw)) (g := (mkF m 108 #[.val (.int p1), .val (.int p2), .val (.int p3), .val (.int p4), .unset, .unset, .unset, .unset, .unset] [(.int 18), (.ref b1), (.ref b1)])) rfl (hb hby at_108) _ k) ?_
  show Go _ _ _ (T37.setTop (mkF m 110 #[.val (.int p1), .val (.int p2), .val (.int p3), .val (.int p4), .unset, .unset, .unset, .unset, .unset] [(.int 1114111), (.int 18), (.ref b1), (.ref b1)])) _
  obtain ⟨cl38, Ar38, qq38, Sz38, Ng38, Hs38, Gs38⟩ := id V_b1
  have hin38 : ¬ ((18 : Int32) < 0 ∨ cl38.slots.size ≤ ((18 : Int32)).toNatClampNeg) := inb_of Sz38 ⟨by decide, by decide⟩
  obtain ⟨T39, h39, X39, e39, W39, st39⟩ := stI X37 hx hZ e37 Ar38 (j := (18 : Int32)) hin38 (g := (mkF m 110 #[.val (.int p1), .val (.int p2), .val (.int p3), .val (.int p4), .unset, .unset, .unset, .unset, .unset] [(.int 1114111), (.int 18), (.ref b1), (.ref b1)])) rfl rfl (hb hby at_110)
  refine Go.st st39 ?_
  have N39 := Fr.snoc X39 N37 g_b1
  replace Z0 := Nat.le_trans Z0 (Nat.le_of_eq W39.size.symm)
  replace K0 := K0.wr W39 (Or.inr sz_b1)
  replace V_b1 : Arv Z h39 b1 k1 .int (23 : Int32) [(.int (0 : Int32)), (.int (8 : Int32)), (.int (9 : Int32)), (.int (10 : Int32)), (.int (11 : Int32)), (.int (12 : Int32)), (.int (13 : Int32)), (.int (14 : Int32)), (.int (31 : Int32)), (.int (32 : Int32)), (.int (55295 : Int32)), (.int (55296 : Int32)), (.int (57343 : Int32)), (.int (57344 : Int32)), (.int (65533 : Int32)), (.int (65534 : Int32)), (.int (65535 : Int32)), (.int (65536 : Int32)), (.int (1114111 : Int32)), (.int (0 : Int32)), (.int (0 : Int32)), (.int (0 : Int32)), (.int (0 : Int32))] (.int (0 : Int32)) := Arv.set Ar38 qq38 Sz38 Ng38 Hs38 Gs38 rfl W39 18 rfl (Nat.le_of_ble_eq_true rfl)
  show Go _ _ _ (T39.setTop (mkF m 111 #[.val (.int p1), .val (.int p2), .val (.int p3), .val (.int p4), .unset, .unset, .unset, .unset, .unset] [(.ref b1)])) _
  refine Go.st (fun t k => XS.dup X39.here hx rfl (hb hby at_111) rfl rfl k) ?_
  show Go _ _ _ (T39.setTop (mkF m 112 #[.val (.int p1), .val (.int p2), .val (.int p3), .val (.int p4), .unset, .unset, .unset, .unset, .unset] [(.ref b1), (.ref b1)])) _
  refine Go.st (fun t k => XS.bipush X39.here hx rfl (hb hby at_112) k) ?_
  show Go _ _ _ (T39.setTop (mkF m 114 #[.val (.int p1), .val (.int p2), .val (.int p3), .val (.int p4), .unset, .unset, .unset, .unset, .unset] [(.int 19), (.ref b1), (.ref b1)])) _
  refine Go.st (fun t k => X39.ldcInt hx hown (mvT hZ (wd10 hw)) (g := (mkF m 114 #[.val (.int p1), .val (.int p2), .val (.int p3), .val (.int p4), .unset, .unset, .unset, .unset, .unset] [(.int 19), (.ref b1), (.ref b1)])) rfl (hb hby at_114) _ k) ?_
  show Go _ _ _ (T39.setTop (mkF m 116 #[.val (.int p1), .val (.int p2), .val (.int p3), .val (.int p4), .unset, .unset, .unset, .unset, .unset] [(.int 1114112), (.int 19), (.ref b1), (.ref b1)])) _
  obtain ⟨cl40, Ar40, qq40, Sz40, Ng40, Hs40, Gs40⟩ := id V_b1
  have hin40 : ¬ ((19 : Int32) < 0 ∨ cl40.slots.size ≤ ((19 : Int32)).toNatClampNeg) := inb_of Sz40 ⟨by decide, by decide⟩
  obtain ⟨T41, h41, X41, e41, W41, st41⟩ := stI X39 hx hZ e39 Ar40 (j := (19 : Int32)) hin40 (g := (mkF m 116 #[.val (.int p1), .val (.int p2), .val (.int p3), .val (.int p4), .unset, .unset, .unset, .unset, .unset] [(.int 1114112), (.int 19), (.ref b1), (.ref b1)])) rfl rfl (hb hby at_116)
  refine Go.st st41 ?_
  have N41 := Fr.snoc X41 N39 g_b1
  obtain ⟨LL41, X41, N41⟩ : ∃ LL, Stand p l e room_1 s m #[(.int p1), (.int p2), (.int p3), (.int p4)] below meth c T41 LL 1 23 ∧ Fr n0 LL := ⟨_, X41, N41⟩
  replace Z0 := Nat.le_trans Z0 (Nat.le_of_eq W41.size.symm)
  replace K0 := K0.wr W41 (Or.inr sz_b1)
  replace V_b1 : Arv Z h41 b1 k1 .int (23 : Int32) [(.int (0 : Int32)), (.int (8 : Int32)), (.int (9 : Int32)), (.int (10 : Int32)), (.int (11 : Int32)), (.int (12 : Int32)), (.int (13 : Int32)), (.int (14 : Int32)), (.int (31 : Int32)), (.int (32 : Int32)), (.int (55295 : Int32)), (.int (55296 : Int32)), (.int (57343 : Int32)), (.int (57344 : Int32)), (.int (65533 : Int32)), (.int (65534 : Int32)), (.int (65535 : Int32)), (.int (65536 : Int32)), (.int (1114111 : Int32)), (.int (1114112 : Int32)), (.int (0 : Int32)), (.int (0 : Int32)), (.int (0 : Int32))] (.int (0 : Int32)) := Arv.set Ar40 qq40 Sz40 Ng40 Hs40 Gs40 rfl W41 19 rfl (Nat.le_of_ble_eq_true rfl)
  show Go _ _ _ (T41.setTop (mkF m 117 #[.val (.int p1), .val (.int p2), .val (.int p3), .val (.int p4), .unset, .unset, .unset, .unset, .unset] [(.ref b1)])) _
  refine Go.st (fun t k => XS.dup X41.here hx rfl (hb hby at_117) rfl rfl k) ?_
  show Go _ _ _ (T41.setTop (mkF m 118 #[.val (.int p1), .val (.int p2), .val (.int p3), .val (.int p4), .unset, .unset, .unset, .unset, .unset] [(.ref b1), (.ref b1)])) _
  refine Go.st (fun t k => XS.bipush X41.here hx rfl (hb hby at_118) k) ?_
  show Go _ _ _ (T41.setTop (mkF m 120 #[.val (.int p1), .val (.int p2), .val (.int p3), .val (.int p4), .unset, .unset, .unset, .unset, .unset] [(.int 20), (.ref b1), (.ref b1)])) _
  refine Go.st (fun t k => XS.iconst X41.here hx rfl (hb hby at_120) k) ?_
  show Go _ _ _ (T41.setTop (mkF m 121 #[.val (.int p1), .val (.int p2), .val (.int p3), .val (.int p4), .unset, .unset, .unset, .unset, .unset] [(.int (-1)), (.int 20), (.ref b1), (.ref b1)])) _
  obtain ⟨cl42, Ar42, qq42, Sz42, Ng42, Hs42, Gs42⟩ := id V_b1
  have hin42 : ¬ ((20 : Int32) < 0 ∨ cl42.slots.size ≤ ((20 : Int32)).toNatClampNeg) := inb_of Sz42 ⟨by decide, by decide⟩
  obtain ⟨T43, h43, X43, e43, W43, st43⟩ := stI X41 hx hZ e41 Ar42 (j := (20 : Int32)) hin42 (g := (mkF m 121 #[.val (.int p1), .val (.int p2), .val (.int p3), .val (.int p4), .unset, .unset, .unset, .unset, .unset] [(.int (-1)), (.int 20), (.ref b1), (.ref b1)])) rfl rfl (hb hby at_121)
  refine Go.st st43 ?_
  have N43 := Fr.snoc X43 N41 g_b1
  replace Z0 := Nat.le_trans Z0 (Nat.le_of_eq W43.size.symm)
  replace K0 := K0.wr W43 (Or.inr sz_b1)
  replace V_b1 : Arv Z h43 b1 k1 .int (23 : Int32) [(.int (0 : Int32)), (.int (8 : Int32)), (.int (9 : Int32)), (.int (10 : Int32)), (.int (11 : Int32)), (.int (12 : Int32)), (.int (13 : Int32)), (.int (14 : Int32)), (.int (31 : Int32)), (.int (32 : Int32)), (.int (55295 : Int32)), (.int (55296 : Int32)), (.int (57343 : Int32)), (.int (57344 : Int32)), (.int (65533 : Int32)), (.int (65534 : Int32)), (.int (65535 : Int32)), (.int (65536 : Int32)), (.int (1114111 : Int32)), (.int (1114112 : Int32)), (.int (-1 : Int32)), (.int (0 : Int32)), (.int (0 : Int32))] (.int (0 : Int32)) := Arv.set Ar42 qq42 Sz42 Ng42 Hs42 Gs42 rfl W43 20 rfl (Nat.le_of_ble_eq_true rfl)
  show Go _ _ _ (T43.setTop (mkF m 122 #[.val (.int p1), .val (.int p2), .val (.int p3), .val (.int p4), .unset, .unset, .unset, .unset, .unset] [(.ref b1)])) _
  refine Go.st (fun t k => XS.dup X43.here hx rfl (hb hby at_122) rfl rfl k) ?_
  show Go _ _ _ (T43.setTop (mkF m 123 #[.val (.int p1), .val (.int p2), .val (.int p3), .val (.int p4), .unset, .unset, .unset, .unset, .unset] [(.ref b1), (.ref b1)])) _
  refine Go.st (fun t k => XS.bipush X43.here hx rfl (hb hby at_123) k) ?_
  show Go _ _ _ (T43.setTop (mkF m 125 #[.val (.int p1), .val (.int p2), .val (.int p3), .val (.int p4), .unset, .unset, .unset, .unset, .unset] [(.int 21), (.ref b1), (.ref b1)])) _
  refine Go.st (fun t k => X43.ldcInt hx hown (mvT hZ (wd11 hw)) (g := (mkF m 125 #[.val (.int p1), .val (.int p2), .val (.int p3), .val (.int p4), .unset, .unset, .unset, .unset, .unset] [(.int 21), (.ref b1), (.ref b1)])) rfl (hb hby at_125) _ k) ?_
  show Go _ _ _ (T43.setTop (mkF m 127 #[.val (.int p1), .val (.int p2), .val (.int p3), .val (.int p4), .unset, .unset, .unset, .unset, .unset] [(.int (-2147483648)), (.int 21), (.ref b1), (.ref b1)])) _
  obtain ⟨cl44, Ar44, qq44, Sz44, Ng44, Hs44, Gs44⟩ := id V_b1
  have hin44 : ¬ ((21 : Int32) < 0 ∨ cl44.slots.size ≤ ((21 : Int32)).toNatClampNeg) := inb_of Sz44 ⟨by decide, by decide⟩
  obtain ⟨T45, h45, X45, e45, W45, st45⟩ := stI X43 hx hZ e43 Ar44 (j := (21 : Int32)) hin44 (g := (mkF m 127 #[.val (.int p1), .val (.int p2), .val (.int p3), .val (.int p4), .unset, .unset, .unset, .unset, .unset] [(.int (-2147483648)), (.int 21), (.ref b1), (.ref b1)])) rfl rfl (hb hby at_127)
  refine Go.st st45 ?_
  have N45 := Fr.snoc X45 N43 g_b1
  replace Z0 := Nat.le_trans Z0 (Nat.le_of_eq W45.size.symm)
  replace K0 := K0.wr W45 (Or.inr sz_b1)
  replace V_b1 : Arv Z h45 b1 k1 .int (23 : Int32) [(.int (0 : Int32)), (.int (8 : Int32)), (.int (9 : Int32)), (.int (10 : Int32)), (.int (11 : Int32)), (.int (12 : Int32)), (.int (13 : Int32)), (.int (14 : Int32)), (.int (31 : Int32)), (.int (32 : Int32)), (.int (55295 : Int32)), (.int (55296 : Int32)), (.int (57343 : Int32)), (.int (57344 : Int32)), (.int (65533 : Int32)), (.int (65534 : Int32)), (.int (65535 : Int32)), (.int (65536 : Int32)), (.int (1114111 : Int32)), (.int (1114112 : Int32)), (.int (-1 : Int32)), (.int (-2147483648 : Int32)), (.int (0 : Int32))] (.int (0 : Int32)) := Arv.set Ar44 qq44 Sz44 Ng44 Hs44 Gs44 rfl W45 21 rfl (Nat.le_of_ble_eq_true rfl)
  show Go _ _ _ (T45.setTop (mkF m 128 #[.val (.int p1), .val (.int p2), .val (.int p3), .val (.int p4), .unset, .unset, .unset, .unset, .unset] [(.ref b1)])) _
  refine Go.st (fun t k => XS.dup X45.here hx rfl (hb hby at_128) rfl rfl k) ?_
  show Go _ _ _ (T45.setTop (mkF m 129 #[.val (.int p1), .val (.int p2), .val (.int p3), .val (.int p4), .unset, .unset, .unset, .unset, .unset] [(.ref b1), (.ref b1)])) _
  refine Go.st (fun t k => XS.bipush X45.here hx rfl (hb hby at_129) k) ?_
  show Go _ _ _ (T45.setTop (mkF m 131 #[.val (.int p1), .val (.int p2), .val (.int p3), .val (.int p4), .unset, .unset, .unset, .unset, .unset] [(.int 22), (.ref b1), (.ref b1)])) _
  refine Go.st (fun t k => X45.ldcInt hx hown (mvT hZ (wd12 hw)) (g := (mkF m 131 #[.val (.int p1), .val (.int p2), .val (.int p3), .val (.int p4), .unset, .unset, .unset, .unset, .unset] [(.int 22), (.ref b1), (.ref b1)])) rfl (hb hby at_131) _ k) ?_
  show Go _ _ _ (T45.setTop (mkF m 133 #[.val (.int p1), .val (.int p2), .val (.int p3), .val (.int p4), .unset, .unset, .unset, .unset, .unset] [(.int 2147483647), (.int 22), (.ref b1), (.ref b1)])) _
  obtain ⟨cl46, Ar46, qq46, Sz46, Ng46, Hs46, Gs46⟩ := id V_b1
  have hin46 : ¬ ((22 : Int32) < 0 ∨ cl46.slots.size ≤ ((22 : Int32)).toNatClampNeg) := inb_of Sz46 ⟨by decide, by decide⟩
  obtain ⟨T47, h47, X47, e47, W47, st47⟩ := stI X45 hx hZ e45 Ar46 (j := (22 : Int32)) hin46 (g := (mkF m 133 #[.val (.int p1), .val (.int p2), .val (.int p3), .val (.int p4), .unset, .unset, .unset, .unset, .unset] [(.int 2147483647), (.int 22), (.ref b1), (.ref b1)])) rfl rfl (hb hby at_133)
  refine Go.st st47 ?_
  have N47 := Fr.snoc X47 N45 g_b1
  replace Z0 := Nat.le_trans Z0 (Nat.le_of_eq W47.size.symm)
  replace K0 := K0.wr W47 (Or.inr sz_b1)
  replace V_b1 : Arv Z h47 b1 k1 .int (23 : Int32) [(.int (0 : Int32)), (.int (8 : Int32)), (.int (9 : Int32)), (.int (10 : Int32)), (.int (11 : Int32)), (.int (12 : Int32)), (.int (13 : Int32)), (.int (14 : Int32)), (.int (31 : Int32)), (.int (32 : Int32)), (.int (55295 : Int32)), (.int (55296 : Int32)), (.int (57343 : Int32)), (.int (57344 : Int32)), (.int (65533 : Int32)), (.int (65534 : Int32)), (.int (65535 : Int32)), (.int (65536 : Int32)), (.int (1114111 : Int32)), (.int (1114112 : Int32)), (.int (-1 : Int32)), (.int (-2147483648 : Int32)), (.int (2147483647 : Int32))] (.int (0 : Int32)) := Arv.set Ar46 qq46 Sz46 Ng46 Hs46 Gs46 rfl W47 22 rfl (Nat.le_of_ble_eq_true rfl)
  show Go _ _ _ (T47.setTop (mkF m 134 #[.val (.int p1), .val (.int p2), .val (.int p3), .val (.int p4), .unset, .unset, .unset, .unset, .unset] [(.ref b1)])) _
  refine Go.st (fun t k => XS.astore X47.here hx rfl (hb hby at_134) rfl rfl (l' := #[.val (.int p1), .val (.int p2), .val (.int p3), .val (.int p4), .val (.ref b1), .unset, .unset, .unset, .unset]) rfl k) ?_
  show Go _ _ _ (T47.setTop (mkF m 136 #[.val (.int p1), .val (.int p2), .val (.int p3), .val (.int p4), .val (.ref b1), .unset, .unset, .unset, .unset] [])) _
  refine Go.st (fun t k => XS.aload X47.here hx rfl (hb hby at_136) rfl rfl k) ?_
  show Go _ _ _ (T47.setTop (mkF m 138 #[.val (.int p1), .val (.int p2), .val (.int p3), .val (.int p4), .val (.ref b1), .unset, .unset, .unset, .unset] [(.ref b1)])) _
  refine Go.st (fun t k => XS.iloadN X47.here hx rfl (hb hby at_138) rfl k) ?_
  show Go _ _ _ (T47.setTop (mkF m 139 #[.val (.int p1), .val (.int p2), .val (.int p3), .val (.int p4), .val (.ref b1), .unset, .unset, .unset, .unset] [(.int p2), (.ref b1)])) _
  refine Go.st (fun t k => X47.ldcInt hx hown (mvT hZ (wd12 hw)) (g := (mkF m 139 #[.val (.int p1), .val (.int p2), .val (.int p3), .val (.int p4), .val (.ref b1), .unset, .unset, .unset, .unset] [(.int p2), (.ref b1)])) rfl (hb hby at_139) _ k) ?_
  show Go _ _ _ (T47.setTop (mkF m 141 #[.val (.int p1), .val (.int p2), .val (.int p3), .val (.int p4), .val (.ref b1), .unset, .unset, .unset, .unset] [(.int 2147483647), (.int p2), (.ref b1)])) _
  refine Go.st (fun t k => XS.iand X47.here hx rfl (hb hby at_141) rfl k) ?_
  show Go _ _ _ (T47.setTop (mkF m 142 #[.val (.int p1), .val (.int p2), .val (.int p3), .val (.int p4), .val (.ref b1), .unset, .unset, .unset, .unset] [(.int (p2 &&& (2147483647 : Int32))), (.ref b1)])) _
  refine Go.st (fun t k => XS.aload X47.here hx rfl (hb hby at_142) rfl rfl k) ?_
  show Go _ _ _ (T47.setTop (mkF m 144 #[.val (.int p1), .val (.int p2), .val (.int p3), .val (.int p4), .val (.ref b1), .unset, .unset, .unset, .unset] [(.ref b1), (.int (p2 &&& (2147483647 : Int32))), (.ref b1)])) _
  obtain ⟨cl48, Ar48, -, Sz48, Ng48, -, -⟩ := id V_b1
  refine Go.st (fun t k => X47.arraylength hx (by rw [e47]; exact Ar48.1) (State.isArrayOf_alike hZ.alike Ar48.2.1) (g := (mkF m 144 #[.val (.int p1), .val (.int p2), .val (.int p3), .val (.int p4), .val (.ref b1), .unset, .unset, .unset, .unset] [(.ref b1), (.int (p2 &&& (2147483647 : Int32))), (.ref b1)])) rfl rfl (hb hby at_144) _ k) ?_
  rw [len_of Sz48 Ng48]
  show Go _ _ _ (T47.setTop (mkF m 145 #[.val (.int p1), .val (.int p2), .val (.int p3), .val (.int p4), .val (.ref b1), .unset, .unset, .unset, .unset] [(.int 23), (.int (p2 &&& (2147483647 : Int32))), (.ref b1)])) _
  refine Go.st (fun t k => iremM X47 hx rfl (hb hby at_145) rfl (by decide) k) ?_
  show Go _ _ _ (T47.setTop (mkF m 146 #[.val (.int p1), .val (.int p2), .val (.int p3), .val (.int p4), .val (.ref b1), .unset, .unset, .unset, .unset] [(.int ((p2 &&& (2147483647 : Int32)) % (23 : Int32))), (.ref b1)])) _
  replace V_b1 : Arv Z h47 b1 k1 .int (23 : Int32) (List.map Value.int own_edges) (.int (0 : Int32)) := V_b1
  obtain ⟨cl49, Ar49, -, Sz49, Ng49, Hs49, -⟩ := id V_b1
  have hin49 : ¬ (((p2 &&& (2147483647 : Int32)) % (23 : Int32)) < 0 ∨ cl49.slots.size ≤ (((p2 &&& (2147483647 : Int32)) % (23 : Int32))).toNatClampNeg) := inb_of Sz49 (own_remb p2 23 23 rfl (by decide))
  refine Go.st (fun t k => X47.iaload hx (j := ((p2 &&& (2147483647 : Int32)) % (23 : Int32))) (v := (.int (own_at own_edges ((p2 &&& (2147483647 : Int32)) % (23 : Int32))))) (by rw [e47]; exact Ar49.1) (State.isArrayOf_alike hZ.alike Ar49.2.1) Ar49.2.2 hin49 (Has.at Hs49 hin49 (own_atv own_edges _)) (g := (mkF m 146 #[.val (.int p1), .val (.int p2), .val (.int p3), .val (.int p4), .val (.ref b1), .unset, .unset, .unset, .unset] [(.int ((p2 &&& (2147483647 : Int32)) % (23 : Int32))), (.ref b1)])) rfl rfl (hb hby at_146) _ k) ?_
  show Go _ _ _ (T47.setTop (mkF m 147 #[.val (.int p1), .val (.int p2), .val (.int p3), .val (.int p4), .val (.ref b1), .unset, .unset, .unset, .unset] [(.int (own_at own_edges ((p2 &&& (2147483647 : Int32)) % (23 : Int32))))])) _
  refine Go.st (fun t k => XS.istore X47.here hx rfl (hb hby at_147) rfl (l' := #[.val (.int p1), .val (.int p2), .val (.int p3), .val (.int p4), .val (.ref b1), .val (.int (own_at own_edges ((p2 &&& (2147483647 : Int32)) % (23 : Int32)))), .unset, .unset, .unset]) rfl k) ?_
  show Go _ _ _ (T47.setTop (mkF m 149 #[.val (.int p1), .val (.int p2), .val (.int p3), .val (.int p4), .val (.ref b1), .val (.int (own_at own_edges ((p2 &&& (2147483647 : Int32)) % (23 : Int32)))), .unset, .unset, .unset] [])) _
  refine Go.st (fun t k => XS.iloadN X47.here hx rfl (hb hby at_149) rfl k) ?_
  show Go _ _ _ (T47.setTop (mkF m 150 #[.val (.int p1), .val (.int p2), .val (.int p3), .val (.int p4), .val (.ref b1), .val (.int (own_at own_edges ((p2 &&& (2147483647 : Int32)) % (23 : Int32)))), .unset, .unset, .unset] [(.int p3)])) _
  refine Go.st (fun t k => X47.ldcInt hx hown (mvT hZ (wd12 hw)) (g := (mkF m 150 #[.val (.int p1), .val (.int p2), .val (.int p3), .val (.int p4), .val (.ref b1), .val (.int (own_at own_edges ((p2 &&& (2147483647 : Int32)) % (23 : Int32)))), .unset, .unset, .unset] [(.int p3)])) rfl (hb hby at_150) _ k) ?_
  show Go _ _ _ (T47.setTop (mkF m 152 #[.val (.int p1), .val (.int p2), .val (.int p3), .val (.int p4), .val (.ref b1), .val (.int (own_at own_edges ((p2 &&& (2147483647 : Int32)) % (23 : Int32)))), .unset, .unset, .unset] [(.int 2147483647), (.int p3)])) _
  refine Go.st (fun t k => XS.iand X47.here hx rfl (hb hby at_152) rfl k) ?_
  show Go _ _ _ (T47.setTop (mkF m 153 #[.val (.int p1), .val (.int p2), .val (.int p3), .val (.int p4), .val (.ref b1), .val (.int (own_at own_edges ((p2 &&& (2147483647 : Int32)) % (23 : Int32)))), .unset, .unset, .unset] [(.int (p3 &&& (2147483647 : Int32)))])) _
  refine Go.st (fun t k => XS.iconst X47.here hx rfl (hb hby at_153) k) ?_
  show Go _ _ _ (T47.setTop (mkF m 154 #[.val (.int p1), .val (.int p2), .val (.int p3), .val (.int p4), .val (.ref b1), .val (.int (own_at own_edges ((p2 &&& (2147483647 : Int32)) % (23 : Int32)))), .unset, .unset, .unset] [(.int 3), (.int (p3 &&& (2147483647 : Int32)))])) _
  refine Go.st (fun t k => iremM X47 hx rfl (hb hby at_154) rfl (by decide) k) ?_
  show Go _ _ _ (T47.setTop (mkF m 155 #[.val (.int p1), .val (.int p2), .val (.int p3), .val (.int p4), .val (.ref b1), .val (.int (own_at own_edges ((p2 &&& (2147483647 : Int32)) % (23 : Int32)))), .unset, .unset, .unset] [(.int ((p3 &&& (2147483647 : Int32)) % (3 : Int32)))])) _
  refine Go.st (fun t k => XS.iconst X47.here hx rfl (hb hby at_155) k) ?_
  show Go _ _ _ (T47.setTop (mkF m 156 #[.val (.int p1), .val (.int p2), .val (.int p3), .val (.int p4), .val (.ref b1), .val (.int (own_at own_edges ((p2 &&& (2147483647 : Int32)) % (23 : Int32)))), .unset, .unset, .unset] [(.int 1), (.int ((p3 &&& (2147483647 : Int32)) % (3 : Int32)))])) _
  refine Go.st (fun t k => XS.isub X47.here hx rfl (hb hby at_156) rfl k) ?_
  show Go _ _ _ (T47.setTop (mkF m 157 #[.val (.int p1), .val (.int p2), .val (.int p3), .val (.int p4), .val (.ref b1), .val (.int (own_at own_edges ((p2 &&& (2147483647 : Int32)) % (23 : Int32)))), .unset, .unset, .unset] [(.int (((p3 &&& (2147483647 : Int32)) % (3 : Int32)) - (1 : Int32)))])) _
  refine Go.st (fun t k => XS.istore X47.here hx rfl (hb hby at_157) rfl (l' := #[.val (.int p1), .val (.int p2), .val (.int p3), .val (.int p4), .val (.ref b1), .val (.int (own_at own_edges ((p2 &&& (2147483647 : Int32)) % (23 : Int32)))), .val (.int (((p3 &&& (2147483647 : Int32)) % (3 : Int32)) - (1 : Int32))), .unset, .unset]) rfl k) ?_
  show Go _ _ _ (T47.setTop (mkF m 159 #[.val (.int p1), .val (.int p2), .val (.int p3), .val (.int p4), .val (.ref b1), .val (.int (own_at own_edges ((p2 &&& (2147483647 : Int32)) % (23 : Int32)))), .val (.int (((p3 &&& (2147483647 : Int32)) % (3 : Int32)) - (1 : Int32))), .unset, .unset] [])) _
  refine Go.st (fun t k => XS.iload X47.here hx rfl (hb hby at_159) rfl k) ?_
  show Go _ _ _ (T47.setTop (mkF m 161 #[.val (.int p1), .val (.int p2), .val (.int p3), .val (.int p4), .val (.ref b1), .val (.int (own_at own_edges ((p2 &&& (2147483647 : Int32)) % (23 : Int32)))), .val (.int (((p3 &&& (2147483647 : Int32)) % (3 : Int32)) - (1 : Int32))), .unset, .unset] [(.int (own_at own_edges ((p2 &&& (2147483647 : Int32)) % (23 : Int32))))])) _
  refine Go.st (fun t k => XS.iload X47.here hx rfl (hb hby at_161) rfl k) ?_
  show Go _ _ _ (T47.setTop (mkF m 163 #[.val (.int p1), .val (.int p2), .val (.int p3), .val (.int p4), .val (.ref b1), .val (.int (own_at own_edges ((p2 &&& (2147483647 : Int32)) % (23 : Int32)))), .val (.int (((p3 &&& (2147483647 : Int32)) % (3 : Int32)) - (1 : Int32))), .unset, .unset] [(.int (((p3 &&& (2147483647 : Int32)) % (3 : Int32)) - (1 : Int32))), (.int (own_at own_edges ((p2 &&& (2147483647 : Int32)) % (23 : Int32))))])) _
  refine Go.st (fun t k => XS.iadd X47.here hx rfl (hb hby at_163) rfl k) ?_
  show Go _ _ _ (T47.setTop (mkF m 164 #[.val (.int p1), .val (.int p2), .val (.int p3), .val (.int p4), .val (.ref b1), .val (.int (own_at own_edges ((p2 &&& (2147483647 : Int32)) % (23 : Int32)))), .val (.int (((p3 &&& (2147483647 : Int32)) % (3 : Int32)) - (1 : Int32))), .unset, .unset] [(.int ((own_at own_edges ((p2 &&& (2147483647 : Int32)) % (23 : Int32))) + (((p3 &&& (2147483647 : Int32)) % (3 : Int32)) - (1 : Int32))))])) _
  refine Go.st (fun t k => XS.istore X47.here hx rfl (hb hby at_164) rfl (l' := #[.val (.int p1), .val (.int p2), .val (.int p3), .val (.int p4), .val (.ref b1), .val (.int (own_at own_edges ((p2 &&& (2147483647 : Int32)) % (23 : Int32)))), .val (.int (((p3 &&& (2147483647 : Int32)) % (3 : Int32)) - (1 : Int32))), .val (.int (t0_0 p2 p3)), .unset]) rfl k) ?_
  show Go _ _ _ (T47.setTop (mkF m 166 #[.val (.int p1), .val (.int p2), .val (.int p3), .val (.int p4), .val (.ref b1), .val (.int (own_at own_edges ((p2 &&& (2147483647 : Int32)) % (23 : Int32)))), .val (.int (((p3 &&& (2147483647 : Int32)) % (3 : Int32)) - (1 : Int32))), .val (.int (t0_0 p2 p3)), .unset] [])) _
  refine Go.st (fun t k => XS.iloadN X47.here hx rfl (hb hby at_166) rfl k) ?_
  show Go _ _ _ (T47.setTop (mkF m 167 #[.val (.int p1), .val (.int p2), .val (.int p3), .val (.int p4), .val (.ref b1), .val (.int (own_at own_edges ((p2 &&& (2147483647 : Int32)) % (23 : Int32)))), .val (.int (((p3 &&& (2147483647 : Int32)) % (3 : Int32)) - (1 : Int32))), .val (.int (t0_0 p2 p3)), .unset] [(.int p4)])) _
  refine Go.st (fun t k => X47.ldcInt hx hown (mvT hZ (wd13 hw)) (g := (mkF m 167 #[.val (.int p1), .val (.int p2), .val (.int p3), .val (.int p4), .val (.ref b1), .val (.int (own_at own_edges ((p2 &&& (2147483647 : Int32)) % (23 : Int32)))), .val (.int (((p3 &&& (2147483647 : Int32)) % (3 : Int32)) - (1 : Int32))), .val (.int (t0_0 p2 p3)), .unset] [(.int p4)])) rfl (hb hby at_167) _ k) ?_
  show Go _ _ _ (T47.setTop (mkF m 169 #[.val (.int p1), .val (.int p2), .val (.int p3), .val (.int p4), .val (.ref b1), .val (.int (own_at own_edges ((p2 &&& (2147483647 : Int32)) % (23 : Int32)))), .val (.int (((p3 &&& (2147483647 : Int32)) % (3 : Int32)) - (1 : Int32))), .val (.int (t0_0 p2 p3)), .unset] [(.int 2097151), (.int p4)])) _
  refine Go.st (fun t k => XS.iand X47.here hx rfl (hb hby at_169) rfl k) ?_
  show Go _ _ _ (T47.setTop (mkF m 170 #[.val (.int p1), .val (.int p2), .val (.int p3), .val (.int p4), .val (.ref b1), .val (.int (own_at own_edges ((p2 &&& (2147483647 : Int32)) % (23 : Int32)))), .val (.int (((p3 &&& (2147483647 : Int32)) % (3 : Int32)) - (1 : Int32))), .val (.int (t0_0 p2 p3)), .unset] [(.int (p4 &&& (2097151 : Int32)))])) _
  refine Go.st (fun t k => XS.istore X47.here hx rfl (hb hby at_170) rfl (l' := #[.val (.int p1), .val (.int p2), .val (.int p3), .val (.int p4), .val (.ref b1), .val (.int (own_at own_edges ((p2 &&& (2147483647 : Int32)) % (23 : Int32)))), .val (.int (((p3 &&& (2147483647 : Int32)) % (3 : Int32)) - (1 : Int32))), .val (.int (t0_0 p2 p3)), .val (.int (p4 &&& (2097151 : Int32)))]) rfl k) ?_
  show Go _ _ _ (T47.setTop (mkF m 172 #[.val (.int p1), .val (.int p2), .val (.int p3), .val (.int p4), .val (.ref b1), .val (.int (own_at own_edges ((p2 &&& (2147483647 : Int32)) % (23 : Int32)))), .val (.int (((p3 &&& (2147483647 : Int32)) % (3 : Int32)) - (1 : Int32))), .val (.int (t0_0 p2 p3)), .val (.int (p4 &&& (2097151 : Int32)))] [])) _
  refine Go.st (fun t k => XS.iloadN X47.here hx rfl (hb hby at_172) rfl k) ?_
  show Go _ _ _ (T47.setTop (mkF m 173 #[.val (.int p1), .val (.int p2), .val (.int p3), .val (.int p4), .val (.ref b1), .val (.int (own_at own_edges ((p2 &&& (2147483647 : Int32)) % (23 : Int32)))), .val (.int (((p3 &&& (2147483647 : Int32)) % (3 : Int32)) - (1 : Int32))), .val (.int (t0_0 p2 p3)), .val (.int (p4 &&& (2097151 : Int32)))] [(.int p1)])) _
  obtain ⟨_, _, ⟨T50, L50, k50, n50⟩, -, X50, ⟨Lc50, hQ50, l50, y50, z50⟩, st50⟩ := Jvm.LawKit.callS X47 hx (y := (⟨"com/example/tariffwire/tariffwire/xml/XmlDocumentsIsXmlCharacterPinLaw", "agrees", "(I)Z"⟩ : MethodName)) hown (mvT hZ (wd14 hw)) (mvT hZ (wd15 hw)) (mvT hZ (wd16 hw)) (mvT hZ (wd17 hw)) (by decide) (backOf (W := 0) (rm1 l Z a0 hw [] p1 h47 n0 Z0) hZ (wd17 hw) (wd16 hw) (by decide) (by decide)) (g := (mkF m 173 #[.val (.int p1), .val (.int p2), .val (.int p3), .val (.int p4), .val (.ref b1), .val (.int (own_at own_edges ((p2 &&& (2147483647 : Int32)) % (23 : Int32)))), .val (.int (((p3 &&& (2147483647 : Int32)) % (3 : Int32)) - (1 : Int32))), .val (.int (t0_0 p2 p3)), .val (.int (p4 &&& (2097151 : Int32)))] [(.int p1)])) rfl (by rw [hml]; rfl) (argsL := [(.int p1)]) (rest := []) (lenOf pd0 rfl) rfl (by show 2 * 0 + _ ≤ _; exact Nat.le_of_eq rfl) (hb hby at_173) (fun _ _ => ⟨rfl, e47, (by decide : 1 + 0 ≤ _), (by decide : 23 + 0 ≤ _)⟩)
  dsimp only [Pt.U, Pt.locs, Pt.cells, Pt.slots] at X50 l50 y50 z50 st50 hQ50
  subst l50 y50 z50
  refine Go.st st50 ?_
  obtain ⟨rfl, N50q, e50⟩ := hQ50
  have N50 := Fr.app N47 N50q
  obtain ⟨LL50, X50, N50⟩ : ∃ LL, Stand p l e room_1 s m #[(.int p1), (.int p2), (.int p3), (.int p4)] below meth c T50 LL 1 23 ∧ Fr n0 LL := ⟨_, X50, N50⟩
  show Go _ _ _ (T50.setTop (mkF m 176 #[.val (.int p1), .val (.int p2), .val (.int p3), .val (.int p4), .val (.ref b1), .val (.int (own_at own_edges ((p2 &&& (2147483647 : Int32)) % (23 : Int32)))), .val (.int (((p3 &&& (2147483647 : Int32)) % (3 : Int32)) - (1 : Int32))), .val (.int (t0_0 p2 p3)), .val (.int (p4 &&& (2097151 : Int32)))] [(.int (f1 p1))])) _
  by_cases hc51 : (f1 p1) = (0 : Int32)
  · refine Go.st (fun t k => XS.ifYes X50.here hx rfl (pc0 := 176) (pc' := 199) rfl (hb hby at_176) rfl ((if0 _ _).trans (teq hc51).1) (by decide) (by decide) k) ?_
    show Go _ _ _ (T50.setTop (mkF m 199 #[.val (.int p1), .val (.int p2), .val (.int p3), .val (.int p4), .val (.ref b1), .val (.int (own_at own_edges ((p2 &&& (2147483647 : Int32)) % (23 : Int32)))), .val (.int (((p3 &&& (2147483647 : Int32)) % (3 : Int32)) - (1 : Int32))), .val (.int (t0_0 p2 p3)), .val (.int (p4 &&& (2097151 : Int32)))] [])) _
    refine Go.st (fun t k => XS.iconst X50.here hx rfl (hb hby at_199) k) ?_
    show Go _ _ _ (T50.setTop (mkF m 200 #[.val (.int p1), .val (.int p2), .val (.int p3), .val (.int p4), .val (.ref b1), .val (.int (own_at own_edges ((p2 &&& (2147483647 : Int32)) % (23 : Int32)))), .val (.int (((p3 &&& (2147483647 : Int32)) % (3 : Int32)) - (1 : Int32))), .val (.int (t0_0 p2 p3)), .val (.int (p4 &&& (2097151 : Int32)))] [(.int 0)])) _
    obtain ⟨fs, hr, hrun, hended, hW, hsame⟩ := X50.leave (v := some (.int (0 : Int32))) (fun h => by rw [Bd.returns] at h; cases h)
    refine Go.fin (retN X50 hx (t := .boolean) Bd.returns (by simp) (hb hby at_200) hr) hrun hended ⟨_, _, rfl, ?_, ⟨_, rfl⟩, hW, hsame.mono (by decide) (by decide)⟩
    show Q0 Z p1 p2 p3 p4 h0 n0 _ T50.heap _
    rw [e50]
    exact ⟨(by unfold f0; simp only [if_pos hc51]), N50⟩
  · refine Go.st (fun t k => XS.ifNo X50.here hx rfl (hb hby at_176) rfl ((if0 _ _).trans (feq hc51).1) k) ?_
    show Go _ _ _ (T50.setTop (mkF m 179 #[.val (.int p1), .val (.int p2), .val (.int p3), .val (.int p4), .val (.ref b1), .val (.int (own_at own_edges ((p2 &&& (2147483647 : Int32)) % (23 : Int32)))), .val (.int (((p3 &&& (2147483647 : Int32)) % (3 : Int32)) - (1 : Int32))), .val (.int (t0_0 p2 p3)), .val (.int (p4 &&& (2097151 : Int32)))] [])) _
    refine Go.st (fun t k => XS.iload X50.here hx rfl (hb hby at_179) rfl k) ?_
    show Go _ _ _ (T50.setTop (mkF m 181 #[.val (.int p1), .val (.int p2), .val (.int p3), .val (.int p4), .val (.ref b1), .val (.int (own_at own_edges ((p2 &&& (2147483647 : Int32)) % (23 : Int32)))), .val (.int (((p3 &&& (2147483647 : Int32)) % (3 : Int32)) - (1 : Int32))), .val (.int (t0_0 p2 p3)), .val (.int (p4 &&& (2097151 : Int32)))] [(.int (t0_0 p2 p3))])) _
    obtain ⟨_, _, ⟨T52, L52, k52, n52⟩, -, X52, ⟨Lc52, hQ52, l52, y52, z52⟩, st52⟩ := Jvm.LawKit.callS X50 hx (y := (⟨"com/example/tariffwire/tariffwire/xml/XmlDocumentsIsXmlCharacterPinLaw", "agrees", "(I)Z"⟩ : MethodName)) hown (mvT hZ (wd14 hw)) (mvT hZ (wd15 hw)) (mvT hZ (wd16 hw)) (mvT hZ (wd17 hw)) (by decide) (backOf (W := 0) (rm1 l Z a0 hw [] (t0_0 p2 p3) h47 n0 Z0) hZ (wd17 hw) (wd16 hw) (by decide) (by decide)) (g := (mkF m 181 #[.val (.int p1), .val (.int p2), .val (.int p3), .val (.int p4), .val (.ref b1), .val (.int (own_at own_edges ((p2 &&& (2147483647 : Int32)) % (23 : Int32)))), .val (.int (((p3 &&& (2147483647 : Int32)) % (3 : Int32)) - (1 : Int32))), .val (.int (t0_0 p2 p3)), .val (.int (p4 &&& (2097151 : Int32)))] [(.int (t0_0 p2 p3))])) rfl (by rw [hml]; rfl) (argsL := [(.int (t0_0 p2 p3))]) (rest := []) (lenOf pd0 rfl) rfl (by show 2 * 0 + _ ≤ _; exact Nat.le_of_eq rfl) (hb hby at_181) (fun _ _ => ⟨rfl, e50, (by decide : 1 + 0 ≤ _), (by decide : 23 + 0 ≤ _)⟩)
    dsimp only [Pt.U, Pt.locs, Pt.cells, Pt.slots] at X52 l52 y52 z52 st52 hQ52
    subst l52 y52 z52
    refine Go.st st52 ?_
    obtain ⟨rfl, N52q, e52⟩ := hQ52
    have N52 := Fr.app N50 N52q
    show Go _ _ _ (T52.setTop (mkF m 184 #[.val (.int p1), .val (.int p2), .val (.int p3), .val (.int p4), .val (.ref b1), .val (.int (own_at own_edges ((p2 &&& (2147483647 : Int32)) % (23 : Int32)))), .val (.int (((p3 &&& (2147483647 : Int32)) % (3 : Int32)) - (1 : Int32))), .val (.int (t0_0 p2 p3)), .val (.int (p4 &&& (2097151 : Int32)))] [(.int (f1 (t0_0 p2 p3)))])) _
    by_cases hc53 : (f1 (t0_0 p2 p3)) = (0 : Int32)
    · refine Go.st (fun t k => XS.ifYes X52.here hx rfl (pc0 := 184) (pc' := 199) rfl (hb hby at_184) rfl ((if0 _ _).trans (teq hc53).1) (by decide) (by decide) k) ?_
      show Go _ _ _ (T52.setTop (mkF m 199 #[.val (.int p1), .val (.int p2), .val (.int p3), .val (.int p4), .val (.ref b1), .val (.int (own_at own_edges ((p2 &&& (2147483647 : Int32)) % (23 : Int32)))), .val (.int (((p3 &&& (2147483647 : Int32)) % (3 : Int32)) - (1 : Int32))), .val (.int (t0_0 p2 p3)), .val (.int (p4 &&& (2097151 : Int32)))] [])) _
      refine Go.st (fun t k => XS.iconst X52.here hx rfl (hb hby at_199) k) ?_
      show Go _ _ _ (T52.setTop (mkF m 200 #[.val (.int p1), .val (.int p2), .val (.int p3), .val (.int p4), .val (.ref b1), .val (.int (own_at own_edges ((p2 &&& (2147483647 : Int32)) % (23 : Int32)))), .val (.int (((p3 &&& (2147483647 : Int32)) % (3 : Int32)) - (1 : Int32))), .val (.int (t0_0 p2 p3)), .val (.int (p4 &&& (2097151 : Int32)))] [(.int 0)])) _
      obtain ⟨fs, hr, hrun, hended, hW, hsame⟩ := X52.leave (v := some (.int (0 : Int32))) (fun h => by rw [Bd.returns] at h; cases h)
      refine Go.fin (retN X52 hx (t := .boolean) Bd.returns (by simp) (hb hby at_200) hr) hrun hended ⟨_, _, rfl, ?_, ⟨_, rfl⟩, hW, hsame.mono (by decide) (by decide)⟩
      show Q0 Z p1 p2 p3 p4 h0 n0 _ T52.heap _
      rw [e52]
      exact ⟨(by unfold f0; simp only [if_neg hc51, if_pos hc53]), N52⟩
    · refine Go.st (fun t k => XS.ifNo X52.here hx rfl (hb hby at_184) rfl ((if0 _ _).trans (feq hc53).1) k) ?_
      show Go _ _ _ (T52.setTop (mkF m 187 #[.val (.int p1), .val (.int p2), .val (.int p3), .val (.int p4), .val (.ref b1), .val (.int (own_at own_edges ((p2 &&& (2147483647 : Int32)) % (23 : Int32)))), .val (.int (((p3 &&& (2147483647 : Int32)) % (3 : Int32)) - (1 : Int32))), .val (.int (t0_0 p2 p3)), .val (.int (p4 &&& (2097151 : Int32)))] [])) _
      refine Go.st (fun t k => XS.iload X52.here hx rfl (hb hby at_187) rfl k) ?_
      show Go _ _ _ (T52.setTop (mkF m 189 #[.val (.int p1), .val (.int p2), .val (.int p3), .val (.int p4), .val (.ref b1), .val (.int (own_at own_edges ((p2 &&& (2147483647 : Int32)) % (23 : Int32)))), .val (.int (((p3 &&& (2147483647 : Int32)) % (3 : Int32)) - (1 : Int32))), .val (.int (t0_0 p2 p3)), .val (.int (p4 &&& (2097151 : Int32)))] [(.int (p4 &&& (2097151 : Int32)))])) _
      obtain ⟨_, _, ⟨T54, L54, k54, n54⟩, -, X54, ⟨Lc54, hQ54, l54, y54, z54⟩, st54⟩ := Jvm.LawKit.callS X52 hx (y := (⟨"com/example/tariffwire/tariffwire/xml/XmlDocumentsIsXmlCharacterPinLaw", "agrees", "(I)Z"⟩ : MethodName)) hown (mvT hZ (wd14 hw)) (mvT hZ (wd15 hw)) (mvT hZ (wd16 hw)) (mvT hZ (wd17 hw)) (by decide) (backOf (W := 0) (rm1 l Z a0 hw [] (p4 &&& (2097151 : Int32)) h47 n0 Z0) hZ (wd17 hw) (wd16 hw) (by decide) (by decide)) (g := (mkF m 189 #[.val (.int p1), .val (.int p2), .val (.int p3), .val (.int p4), .val (.ref b1), .val (.int (own_at own_edges ((p2 &&& (2147483647 : Int32)) % (23 : Int32)))), .val (.int (((p3 &&& (2147483647 : Int32)) % (3 : Int32)) - (1 : Int32))), .val (.int (t0_0 p2 p3)), .val (.int (p4 &&& (2097151 : Int32)))] [(.int (p4 &&& (2097151 : Int32)))])) rfl (by rw [hml]; rfl) (argsL := [(.int (p4 &&& (2097151 : Int32)))]) (rest := []) (lenOf pd0 rfl) rfl (by show 2 * 0 + _ ≤ _; exact Nat.le_of_eq rfl) (hb hby at_189) (fun _ _ => ⟨rfl, e52, (by decide : 1 + 0 ≤ _), (by decide : 23 + 0 ≤ _)⟩)
      dsimp only [Pt.U, Pt.locs, Pt.cells, Pt.slots] at X54 l54 y54 z54 st54 hQ54
      subst l54 y54 z54
      refine Go.st st54 ?_
      obtain ⟨rfl, N54q, e54⟩ := hQ54
      have N54 := Fr.app N52 N54q
      show Go _ _ _ (T54.setTop (mkF m 192 #[.val (.int p1), .val (.int p2), .val (.int p3), .val (.int p4), .val (.ref b1), .val (.int (own_at own_edges ((p2 &&& (2147483647 : Int32)) % (23 : Int32)))), .val (.int (((p3 &&& (2147483647 : Int32)) % (3 : Int32)) - (1 : Int32))), .val (.int (t0_0 p2 p3)), .val (.int (p4 &&& (2097151 : Int32)))] [(.int (f1 (p4 &&& (2097151 : Int32))))])) _
      by_cases hc55 : (f1 (p4 &&& (2097151 : Int32))) = (0 : Int32)
      · refine Go.st (fun t k => XS.ifYes X54.here hx rfl (pc0 := 192) (pc' := 199) rfl (hb hby at_192) rfl ((if0 _ _).trans (teq hc55).1) (by decide) (by decide) k) ?_
        show Go _ _ _ (T54.setTop (mkF m 199 #[.val (.int p1), .val (.int p2), .val (.int p3), .val (.int p4), .val (.ref b1), .val (.int (own_at own_edges ((p2 &&& (2147483647 : Int32)) % (23 : Int32)))), .val (.int (((p3 &&& (2147483647 : Int32)) % (3 : Int32)) - (1 : Int32))), .val (.int (t0_0 p2 p3)), .val (.int (p4 &&& (2097151 : Int32)))] [])) _
        refine Go.st (fun t k => XS.iconst X54.here hx rfl (hb hby at_199) k) ?_
        show Go _ _ _ (T54.setTop (mkF m 200 #[.val (.int p1), .val (.int p2), .val (.int p3), .val (.int p4), .val (.ref b1), .val (.int (own_at own_edges ((p2 &&& (2147483647 : Int32)) % (23 : Int32)))), .val (.int (((p3 &&& (2147483647 : Int32)) % (3 : Int32)) - (1 : Int32))), .val (.int (t0_0 p2 p3)), .val (.int (p4 &&& (2097151 : Int32)))] [(.int 0)])) _
        obtain ⟨fs, hr, hrun, hended, hW, hsame⟩ := X54.leave (v := some (.int (0 : Int32))) (fun h => by rw [Bd.returns] at h; cases h)
        refine Go.fin (retN X54 hx (t := .boolean) Bd.returns (by simp) (hb hby at_200) hr) hrun hended ⟨_, _, rfl, ?_, ⟨_, rfl⟩, hW, hsame.mono (by decide) (by decide)⟩
        show Q0 Z p1 p2 p3 p4 h0 n0 _ T54.heap _
        rw [e54]
        exact ⟨(by unfold f0; simp only [if_neg hc51, if_neg hc53, if_pos hc55]), N54⟩
      · refine Go.st (fun t k => XS.ifNo X54.here hx rfl (hb hby at_192) rfl ((if0 _ _).trans (feq hc55).1) k) ?_
        show Go _ _ _ (T54.setTop (mkF m 195 #[.val (.int p1), .val (.int p2), .val (.int p3), .val (.int p4), .val (.ref b1), .val (.int (own_at own_edges ((p2 &&& (2147483647 : Int32)) % (23 : Int32)))), .val (.int (((p3 &&& (2147483647 : Int32)) % (3 : Int32)) - (1 : Int32))), .val (.int (t0_0 p2 p3)), .val (.int (p4 &&& (2097151 : Int32)))] [])) _
        refine Go.st (fun t k => XS.iconst X54.here hx rfl (hb hby at_195) k) ?_
        show Go _ _ _ (T54.setTop (mkF m 196 #[.val (.int p1), .val (.int p2), .val (.int p3), .val (.int p4), .val (.ref b1), .val (.int (own_at own_edges ((p2 &&& (2147483647 : Int32)) % (23 : Int32)))), .val (.int (((p3 &&& (2147483647 : Int32)) % (3 : Int32)) - (1 : Int32))), .val (.int (t0_0 p2 p3)), .val (.int (p4 &&& (2097151 : Int32)))] [(.int 1)])) _
        refine Go.st (fun t k => XS.goto X54.here hx rfl (pc0 := 196) (pc' := 200) rfl (hb hby at_196) (by decide) (by decide) k) ?_
        show Go _ _ _ (T54.setTop (mkF m 200 #[.val (.int p1), .val (.int p2), .val (.int p3), .val (.int p4), .val (.ref b1), .val (.int (own_at own_edges ((p2 &&& (2147483647 : Int32)) % (23 : Int32)))), .val (.int (((p3 &&& (2147483647 : Int32)) % (3 : Int32)) - (1 : Int32))), .val (.int (t0_0 p2 p3)), .val (.int (p4 &&& (2097151 : Int32)))] [(.int 1)])) _
        obtain ⟨fs, hr, hrun, hended, hW, hsame⟩ := X54.leave (v := some (.int (1 : Int32))) (fun h => by rw [Bd.returns] at h; cases h)
        refine Go.fin (retN X54 hx (t := .boolean) Bd.returns (by simp) (hb hby at_200) hr) hrun hended ⟨_, _, rfl, ?_, ⟨_, rfl⟩, hW, hsame.mono (by decide) (by decide)⟩
        show Q0 Z p1 p2 p3 p4 h0 n0 _ T54.heap _
        rw [e54]
        exact ⟨(by unfold f0; simp only [if_neg hc51, if_neg hc53, if_neg hc55]), N54⟩
theorem own_lt (x k : Int32) (n : Int) (hk : k.toInt = n) : (x < k) ↔ x.toInt < n := by rw [Int32.lt_iff_toInt_lt, hk]
theorem own_gt (x k : Int32) (n : Int) (hk : k.toInt = n) : (k < x) ↔ n < x.toInt := by rw [Int32.lt_iff_toInt_lt, hk]
theorem own_same (x : Int32) : f2 x = f3 x := by
  by_cases e0 : x = 9
  · subst e0; decide
  by_cases e1 : x = 10
  · subst e1; decide
  by_cases e2 : x = 13
  · subst e2; decide
  by_cases e3 : x = 65534
  · subst e3; decide
  by_cases e4 : x = 65535
  · subst e4; decide
  have r := x.toInt_lt; have r' := x.le_toInt
  have n0 : x.toInt ≠ 9 := fun h => e0 (Int32.toInt_inj.mp h)
  have n1 : x.toInt ≠ 10 := fun h => e1 (Int32.toInt_inj.mp h)
  have n2 : x.toInt ≠ 13 := fun h => e2 (Int32.toInt_inj.mp h)
  have n3 : x.toInt ≠ 65534 := fun h => e3 (Int32.toInt_inj.mp h)
  have n4 : x.toInt ≠ 65535 := fun h => e4 (Int32.toInt_inj.mp h)
  have hall : (x.toInt ≤ -1) ∨ (0 ≤ x.toInt ∧ x.toInt ≤ 31) ∨ (32 ≤ x.toInt ∧ x.toInt ≤ 55295) ∨ (55296 ≤ x.toInt ∧ x.toInt ≤ 57343) ∨ (57344 ≤ x.toInt ∧ x.toInt ≤ 65533) ∨ (65536 ≤ x.toInt ∧ x.toInt ≤ 1114111) ∨ (1114112 ≤ x.toInt) := by omega
  rcases hall with h | h | h | h | h | h | h
  · have c0 : ¬ ((1114111 : Int32) < x) := by rw [own_gt x 1114111 1114111 rfl]; omega
    have c1 : ¬ ((55295 : Int32) < x) := by rw [own_gt x 55295 55295 rfl]; omega
    have c2 : ¬ ((57343 : Int32) < x) := by rw [own_gt x 57343 57343 rfl]; omega
    have c3 : ¬ ((65533 : Int32) < x) := by rw [own_gt x 65533 65533 rfl]; omega
    have c4 : (x < (0 : Int32)) := by rw [own_lt x 0 0 rfl]; omega
    have c5 : (x < (32 : Int32)) := by rw [own_lt x 32 32 rfl]; omega
    have c6 : (x < (55296 : Int32)) := by rw [own_lt x 55296 55296 rfl]; omega
    have c7 : (x < (57344 : Int32)) := by rw [own_lt x 57344 57344 rfl]; omega
    have c8 : (x < (65536 : Int32)) := by rw [own_lt x 65536 65536 rfl]; omega
    simp only [f2, f3, if_neg c0, if_neg c1, if_neg c2, if_neg c3, if_pos c4, if_pos c5, if_pos c6, if_pos c7, if_pos c8, if_neg e1, if_neg e2, if_neg e3, if_neg e4, if_neg e0]
  · have c0 : ¬ ((1114111 : Int32) < x) := by rw [own_gt x 1114111 1114111 rfl]; omega
    have c1 : ¬ ((55295 : Int32) < x) := by rw [own_gt x 55295 55295 rfl]; omega
    have c2 : ¬ ((57343 : Int32) < x) := by rw [own_gt x 57343 57343 rfl]; omega
    have c3 : ¬ ((65533 : Int32) < x) := by rw [own_gt x 65533 65533 rfl]; omega
    have c4 : ¬ (x < (0 : Int32)) := by rw [own_lt x 0 0 rfl]; omega
    have c5 : (x < (32 : Int32)) := by rw [own_lt x 32 32 rfl]; omega
    have c6 : (x < (55296 : Int32)) := by rw [own_lt x 55296 55296 rfl]; omega
    have c7 : (x < (57344 : Int32)) := by rw [own_lt x 57344 57344 rfl]; omega
    have c8 : (x < (65536 : Int32)) := by rw [own_lt x 65536 65536 rfl]; omega
    simp only [f2, f3, if_neg c0, if_neg c1, if_neg c2, if_neg c3, if_neg c4, if_pos c5, if_pos c6, if_pos c7, if_pos c8, if_neg e1, if_neg e2, if_neg e3, if_neg e4, if_neg e0]
  · have c0 : ¬ ((1114111 : Int32) < x) := by rw [own_gt x 1114111 1114111 rfl]; omega
    have c1 : ¬ ((55295 : Int32) < x) := by rw [own_gt x 55295 55295 rfl]; omega
    have c2 : ¬ ((57343 : Int32) < x) := by rw [own_gt x 57343 57343 rfl]; omega
    have c3 : ¬ ((65533 : Int32) < x) := by rw [own_gt x 65533 65533 rfl]; omega
    have c4 : ¬ (x < (0 : Int32)) := by rw [own_lt x 0 0 rfl]; omega
    have c5 : ¬ (x < (32 : Int32)) := by rw [own_lt x 32 32 rfl]; omega
    have c6 : (x < (55296 : Int32)) := by rw [own_lt x 55296 55296 rfl]; omega
    have c7 : (x < (57344 : Int32)) := by rw [own_lt x 57344 57344 rfl]; omega
    have c8 : (x < (65536 : Int32)) := by rw [own_lt x 65536 65536 rfl]; omega
    simp only [f2, f3, if_neg c0, if_neg c1, if_neg c2, if_neg c3, if_neg c4, if_neg c5, if_pos c6, if_pos c7, if_pos c8, if_neg e1, if_neg e2, if_neg e3, if_neg e4, if_neg e0]
  · have c0 : ¬ ((1114111 : Int32) < x) := by rw [own_gt x 1114111 1114111 rfl]; omega
    have c1 : ((55295 : Int32) < x) := by rw [own_gt x 55295 55295 rfl]; omega
    have c2 : ¬ ((57343 : Int32) < x) := by rw [own_gt x 57343 57343 rfl]; omega
    have c3 : ¬ ((65533 : Int32) < x) := by rw [own_gt x 65533 65533 rfl]; omega
    have c4 : ¬ (x < (0 : Int32)) := by rw [own_lt x 0 0 rfl]; omega
    have c5 : ¬ (x < (32 : Int32)) := by rw [own_lt x 32 32 rfl]; omega
    have c6 : ¬ (x < (55296 : Int32)) := by rw [own_lt x 55296 55296 rfl]; omega
    have c7 : (x < (57344 : Int32)) := by rw [own_lt x 57344 57344 rfl]; omega
    have c8 : (x < (65536 : Int32)) := by rw [own_lt x 65536 65536 rfl]; omega
    simp only [f2, f3, if_neg c0, if_pos c1, if_neg c2, if_neg c3, if_neg c4, if_neg c5, if_neg c6, if_pos c7, if_pos c8, if_neg e1, if_neg e2, if_neg e3, if_neg e4, if_neg e0]
  · have c0 : ¬ ((1114111 : Int32) < x) := by rw [own_gt x 1114111 1114111 rfl]; omega
    have c1 : ((55295 : Int32) < x) := by rw [own_gt x 55295 55295 rfl]; omega
    have c2 : ((57343 : Int32) < x) := by rw [own_gt x 57343 57343 rfl]; omega
    have c3 : ¬ ((65533 : Int32) < x) := by rw [own_gt x 65533 65533 rfl]; omega
    have c4 : ¬ (x < (0 : Int32)) := by rw [own_lt x 0 0 rfl]; omega
    have c5 : ¬ (x < (32 : Int32)) := by rw [own_lt x 32 32 rfl]; omega
    have c6 : ¬ (x < (55296 : Int32)) := by rw [own_lt x 55296 55296 rfl]; omega
    have c7 : ¬ (x < (57344 : Int32)) := by rw [own_lt x 57344 57344 rfl]; omega
    have c8 : (x < (65536 : Int32)) := by rw [own_lt x 65536 65536 rfl]; omega
    simp only [f2, f3, if_neg c0, if_pos c1, if_pos c2, if_neg c3, if_neg c4, if_neg c5, if_neg c6, if_neg c7, if_pos c8, if_neg e1, if_neg e2, if_neg e3, if_neg e4, if_neg e0]
  · have c0 : ¬ ((1114111 : Int32) < x) := by rw [own_gt x 1114111 1114111 rfl]; omega
    have c1 : ((55295 : Int32) < x) := by rw [own_gt x 55295 55295 rfl]; omega
    have c2 : ((57343 : Int32) < x) := by rw [own_gt x 57343 57343 rfl]; omega
    have c3 : ((65533 : Int32) < x) := by rw [own_gt x 65533 65533 rfl]; omega
    have c4 : ¬ (x < (0 : Int32)) := by rw [own_lt x 0 0 rfl]; omega
    have c5 : ¬ (x < (32 : Int32)) := by rw [own_lt x 32 32 rfl]; omega
    have c6 : ¬ (x < (55296 : Int32)) := by rw [own_lt x 55296 55296 rfl]; omega
    have c7 : ¬ (x < (57344 : Int32)) := by rw [own_lt x 57344 57344 rfl]; omega
    have c8 : ¬ (x < (65536 : Int32)) := by rw [own_lt x 65536 65536 rfl]; omega
    simp only [f2, f3, if_neg c0, if_pos c1, if_pos c2, if_pos c3, if_neg c4, if_neg c5, if_neg c6, if_neg c7, if_neg c8, if_neg e1, if_neg e2, if_neg e3, if_neg e4, if_neg e0]
  · have c0 : ((1114111 : Int32) < x) := by rw [own_gt x 1114111 1114111 rfl]; omega
    have c1 : ((55295 : Int32) < x) := by rw [own_gt x 55295 55295 rfl]; omega
    have c2 : ((57343 : Int32) < x) := by rw [own_gt x 57343 57343 rfl]; omega
    have c3 : ((65533 : Int32) < x) := by rw [own_gt x 65533 65533 rfl]; omega
    have c4 : ¬ (x < (0 : Int32)) := by rw [own_lt x 0 0 rfl]; omega
    have c5 : ¬ (x < (32 : Int32)) := by rw [own_lt x 32 32 rfl]; omega
    have c6 : ¬ (x < (55296 : Int32)) := by rw [own_lt x 55296 55296 rfl]; omega
    have c7 : ¬ (x < (57344 : Int32)) := by rw [own_lt x 57344 57344 rfl]; omega
    have c8 : ¬ (x < (65536 : Int32)) := by rw [own_lt x 65536 65536 rfl]; omega
    simp only [f2, f3, if_pos c0, if_pos c1, if_pos c2, if_pos c3, if_neg c4, if_neg c5, if_neg c6, if_neg c7, if_neg c8, if_neg e1, if_neg e2, if_neg e3, if_neg e4, if_neg e0]
theorem own_one (x : Int32) : f1 x = 1 := by unfold f1; rw [if_pos (own_same x)]
theorem own_plain (a b d e : Int32) : f0 a b d e = 1 := by
  unfold f0
  rw [own_one, own_one, own_one]
  rfl

set_option maxRecDepth 65536 in
set_option maxHeartbeats 16000000 in
theorem comes_1 {Post : Tables → Env → Array Value → State → Outcome → State → Prop} (hpost : ∀ tb e args s v u, (limb_1_1.after args s (.returned v) u = true ∧ limb_1_2.after args s (.returned v) u = true ∧ True) → FrameEnd s (.returned v) u (Jvm.fieldLocs frame_1_writes args s ++ Jvm.arrayLocs frame_1_arrays args s ++ Jvm.staticLocs frame_1_statics s) 16 128 → Post tb e args s (.returned v) u) :
    ArmFor flags0 classFile x code maxLocals ret World_1 tables_1 room_1 Calls_1 rest_1 Pre_1 Post := by
  intro l hfl _ _ p e ha hc hk s m args below hf hA hF happ hP
  obtain ⟨hcalls, hrest, hpre⟩ := hP
  obtain ⟨-, -, -, hnamed, -, -, -, hat⟩ := (Spec.applies_iff hf).mp happ
  obtain ⟨hg, hn⟩ := and_e (Cond.before_iff.mp (show (Jvm.Cond.and given_1 narrow_1).before args s = true from hpre))
  obtain ⟨g1, g2⟩ := and_e hg
  obtain ⟨g3, g4⟩ := and_e g2
  obtain ⟨g5, g6⟩ := and_e g4
  obtain ⟨g7, g8⟩ := and_e g6
  obtain ⟨w0, w1, w2, w3, rfl⟩ : ∃ w0 w1 w2 w3 : Value, args = #[w0, w1, w2, w3] := by
    have hs : args.size = 4 := by simpa [Cond.value, given_1] using g1
    obtain ⟨L⟩ := args
    match L, hs with
    | [w0, w1, w2, w3], _ => exact ⟨w0, w1, w2, w3, rfl⟩
  have hw := fun d (hd : d ∈ tables_1) => atoms_spec (ws := Jvm.Cond.code x code maxLocals ret :: tables_1) hat d (List.mem_cons_of_mem _ hd)
  have hfit : Fit s := fun {y c} hc i hi => by
    obtain ⟨ha, rfl⟩ := Array.getElem?_eq_some_iff.mp hc
    have q := List.all_eq_true.mp ((Array.all_eq_true_iff_forall_mem.mp hF) _ (Array.getElem_mem ha)) i (List.mem_range.mpr hi)
    simpa [Array.getElem?_eq_getElem hi] using q
  obtain ⟨i0, ei0⟩ := is_v g3
  obtain rfl : w0 = (.int i0) := Option.some.inj ei0
  obtain ⟨i1, ei1⟩ := is_v g5
  obtain rfl : w1 = (.int i1) := Option.some.inj ei1
  obtain ⟨i2, ei2⟩ := is_v g7
  obtain rfl : w2 = (.int i2) := Option.some.inj ei2
  obtain ⟨i3, ei3⟩ := is_v g8
  obtain rfl : w3 = (.int i3) := Option.some.inj ei3
  have hplain := own_plain i0 i1 i2 i3
  obtain ⟨n, o, h1, h2, h3, _, L, rfl, ⟨rfl, N⟩, hq⟩ := rm0 l s _ hw tables_1 i0 i1 i2 i3 s.heap s.heap.size (Nat.le_refl _)  p e ha hc hk s m _ below hf ((Spec.applies_iff_loose hf).mp happ).1 ⟨rfl, State.Warmed39.refl s, rfl⟩ trivial
  rw [hplain] at *
  refine ⟨n, _, h1, h2, h3, hpost _ _ _ _ _ _ ⟨Cond.after_iff.mpr rfl, Cond.after_iff.mpr (eq_i res_at (Term.int_eval (1)) rfl), trivial⟩ ⟨hq.1, hq.2.1, (hq.2.2.sift fun y hy => Or.inr (N y hy)).mono (by decide) (by decide)⟩⟩
theorem main_1_1 : Claimed_1_1 := comes_1 fun _ _ _ _ _ _ h hF => ⟨h.1, hF⟩
theorem main_1_2 : Claimed_1_2 := comes_1 fun _ _ _ _ _ _ h hF => ⟨h.2.1, hF⟩
end Jvm.Pilot.@@N@@
namespace Jvm.Pilot.@@N@@
open Jvm Jvm.ClassFile Sem Op Lib Jvm.Free Jvm.Stand Jvm.Pilot.@@N@@.Jvm.D
/-! MADE BY PROGRAM (witnessworld.py) out of the Statement's table words and the real class files: 9 classes; the members and pool entries that the words name. The judged class is class 1, her method 3. -/
namespace start1
open Jvm.ClassFile
def u (s : String) : CpInfo := .utf8 (stringToUtf16 s)
/-- a pool by its gaps: so many unusable entries, then the entry; so many at the end -/
def gap : Nat → List CpInfo → List CpInfo
  | 0, r => r
  | n + 1, r => .unusable :: gap n r
def poolList (es : List (Nat × CpInfo)) (last : Nat) : List CpInfo := es.foldr (fun e r => gap e.1 (e.2 :: r)) (gap last [])
def pool (es : List (Nat × CpInfo)) (last : Nat) : Array CpInfo := ⟨poolList es last⟩
def fileOf (pool : Array CpInfo) (this : Nat) (attrs : Array Attribute := #[]) (ms : Array MethodInfo := #[]) (fl : Nat := 33) (sup : Nat := 0) (ifs : Array Nat := #[]) (fds : Array FieldInfo := #[]) : ClassFile where
  minorVersion := 0
  majorVersion := 65
  constantPool := pool
  accessFlags := fl
  thisClass := this
  superClass := sup
  interfaces := ifs
  fields := fds
  methods := ms
  attributes := attrs
def plain (name : String) (sup : Option ClassId) : Class where
  name := name
  kind := .ordinary
  loader := none
  accessFlags := 33
  super := sup
  interfaces := #[]
  cf := none
  fields := #[]
  methods := #[]
  instanceTypes := #[]
  staticTypes := #[]
  resolved := #[]
  callSites := []
  init := .initialized
  statics := none
  mirror := none

def pool0 : Array CpInfo := pool [(5, u "<init>"), (0, u "()V"), (1, .class_ 10), (1, u "java/lang/Object")] 113

def k0m0 : Method := { name := "<init>", desc := "()V", sig := { parameters := [], returnType := none }, accessFlags := 1, code := none }
/-- java/lang/Object -/
def k0 : Class := { plain "java/lang/Object" none with
  accessFlags := 33
  interfaces := #[]
  cf := some (fileOf pool0 8 #[] #[{ accessFlags := 1, nameIndex := 5, descriptorIndex := 6, attributes := #[] }] 33 0 #[] #[])
  fields := #[]
  methods := #[k0m0]
  instanceTypes := #[]
  staticTypes := #[]
  resolved := Array.replicate 124 none
  statics := none }

def pool1 : Array CpInfo := pool [(2, .class_ 4), (1, u "java/lang/Object"), (0, u "<init>"), (0, u "()V"), (0, .integer 1114111), (0, .integer 55296), (0, .integer 57343), (0, .integer 65534), (0, .integer 65535), (0, .methodref 13 14), (0, .class_ 15), (0, .nameAndType 16 17), (0, u "com/example/tariffwire/tariffwire/xml/XmlDocuments"), (0, u "isXmlCharacter"), (0, u "(I)Z"), (0, .methodref 19 20), (0, .class_ 21), (0, .nameAndType 22 17), (0, u "com/example/tariffwire/tariffwire/xml/XmlDocumentsIsXmlCharacterPinLaw"), (0, u "reference"), (0, .integer 55295), (0, .integer 57344), (0, .integer 65533), (0, .integer 65536), (0, .integer 1114112), (2, .integer 2147483648), (0, .integer 2147483647), (0, .integer 2097151), (0, .methodref 19 34), (0, .nameAndType 35 17), (0, u "agrees"), (3, u "law"), (0, u "(IIII)Z")] 4

def k1m0 : Method := { name := "<init>", desc := "()V", sig := { parameters := [], returnType := none }, accessFlags := 1, code := none }
def k1c1 : Code := { maxStack := 2, maxLocals := 1, code := method_2_code, exceptionTable := #[], attributes := #[] }
def k1m1 : Method := { name := "reference", desc := "(I)Z", sig := { parameters := [.int], returnType := some .boolean }, accessFlags := 10, code := some k1c1 }
def k1c2 : Code := { maxStack := 2, maxLocals := 1, code := method_3_code, exceptionTable := #[], attributes := #[] }
def k1m2 : Method := { name := "agrees", desc := "(I)Z", sig := { parameters := [.int], returnType := some .boolean }, accessFlags := 10, code := some k1c2 }
def k1c3 : Code := { maxStack := 4, maxLocals := 9, code := code, exceptionTable := #[], attributes := #[] }
def k1m3 : Method := { name := "law", desc := "(IIII)Z", sig := { parameters := [.int, .int, .int, .int], returnType := some .boolean }, accessFlags := 9, code := some k1c3 }
/-- com/example/tariffwire/tariffwire/xml/XmlDocumentsIsXmlCharacterPinLaw -/
def k1 : Class := { plain "com/example/tariffwire/tariffwire/xml/XmlDocumentsIsXmlCharacterPinLaw" (some 0) with
  accessFlags := 49
  interfaces := #[]
  cf := some (fileOf pool1 19 #[] #[{ accessFlags := 1, nameIndex := 5, descriptorIndex := 6, attributes := #[] }, { accessFlags := 10, nameIndex := 22, descriptorIndex := 17, attributes := #[] }, { accessFlags := 10, nameIndex := 35, descriptorIndex := 17, attributes := #[] }, { accessFlags := 9, nameIndex := 39, descriptorIndex := 40, attributes := #[] }] 49 2 #[] #[])
  fields := #[]
  methods := #[k1m0, k1m1, k1m2, k1m3]
  instanceTypes := #[]
  staticTypes := #[]
  resolved := Array.replicate 45 none
  statics := none }

def pool2 : Array CpInfo := pool [(2, .class_ 4), (1, u "java/lang/Object"), (0, u "<init>"), (0, u "()V"), (1, .class_ 10), (1, u "com/example/tariffwire/tariffwire/xml/XmlDocuments"), (0, u "BUILDERS"), (0, u "Ljava/lang/ThreadLocal;"), (78, u "isXmlCharacter"), (0, u "(I)Z"), (5, .integer 55295), (0, .integer 57344), (0, .integer 65533), (0, .integer 65536), (0, .integer 1114111), (94, .class_ 198), (0, u "com/example/tariffwire/tariffwire/xml/XmlDocuments$1"), (12, u "MAX_DEPTH"), (0, u "I"), (2, u "MAX_ELEMENT_DEPTH"), (0, u "Ljava/lang/String;"), (0, u "DISALLOW_DOCTYPE"), (0, u "RESET_SYMBOL_TABLE"), (2, u "REUSED_PARSER_MAX_BYTES")] 44

def k2m0 : Method := { name := "<init>", desc := "()V", sig := { parameters := [], returnType := none }, accessFlags := 2, code := none }
def k2c1 : Code := { maxStack := 2, maxLocals := 1, code := prog_43_method_6_code, exceptionTable := #[], attributes := #[] }
def k2m1 : Method := { name := "isXmlCharacter", desc := "(I)Z", sig := { parameters := [.int], returnType := some .boolean }, accessFlags := 8, code := some k2c1 }
/-- com/example/tariffwire/tariffwire/xml/XmlDocuments -/
def k2 : Class := { plain "com/example/tariffwire/tariffwire/xml/XmlDocuments" (some 0) with
  accessFlags := 49
  interfaces := #[]
  cf := some (fileOf pool2 8 #[.nestMembers #[197]] #[{ accessFlags := 2, nameIndex := 5, descriptorIndex := 6, attributes := #[] }, { accessFlags := 8, nameIndex := 91, descriptorIndex := 92, attributes := #[] }] 49 2 #[] #[{ accessFlags := 25, nameIndex := 211, descriptorIndex := 212, attributes := #[] }, { accessFlags := 26, nameIndex := 215, descriptorIndex := 216, attributes := #[] }, { accessFlags := 26, nameIndex := 217, descriptorIndex := 216, attributes := #[] }, { accessFlags := 26, nameIndex := 218, descriptorIndex := 216, attributes := #[] }, { accessFlags := 26, nameIndex := 11, descriptorIndex := 12, attributes := #[] }, { accessFlags := 26, nameIndex := 221, descriptorIndex := 212, attributes := #[] }])
  fields := #[{ name := "MAX_DEPTH", type := .int, accessFlags := 25, slot := 0, constantValue := 0 }, { name := "MAX_ELEMENT_DEPTH", type := (.object "java/lang/String"), accessFlags := 26, slot := 1, constantValue := 0 }, { name := "DISALLOW_DOCTYPE", type := (.object "java/lang/String"), accessFlags := 26, slot := 2, constantValue := 0 }, { name := "RESET_SYMBOL_TABLE", type := (.object "java/lang/String"), accessFlags := 26, slot := 3, constantValue := 0 }, { name := "BUILDERS", type := (.object "java/lang/ThreadLocal"), accessFlags := 26, slot := 4, constantValue := 0 }, { name := "REUSED_PARSER_MAX_BYTES", type := .int, accessFlags := 26, slot := 5, constantValue := 0 }]
  methods := #[k2m0, k2m1]
  instanceTypes := #[]
  staticTypes := #[.int, (.object "java/lang/String"), (.object "java/lang/String"), (.object "java/lang/String"), (.object "java/lang/ThreadLocal"), .int]
  resolved := Array.replicate 266 none
  statics := none }

def pool3 : Array CpInfo := pool [(1, u "java/lang/Cloneable"), (0, .class_ 1), (0, u "java/lang/Object"), (0, .class_ 3)] 3

/-- java/lang/Cloneable -/
def k3 : Class := { plain "java/lang/Cloneable" (some 0) with
  accessFlags := 1537
  interfaces := #[]
  cf := some (fileOf pool3 2 #[] #[] 1537 4 #[] #[])
  fields := #[]
  methods := #[]
  instanceTypes := #[]
  staticTypes := #[]
  resolved := Array.replicate 8 none
  statics := none }

def pool4 : Array CpInfo := pool [(1, u "java/io/Serializable"), (0, .class_ 1), (0, u "java/lang/Object"), (0, .class_ 3)] 3

/-- java/io/Serializable -/
def k4 : Class := { plain "java/io/Serializable" (some 0) with
  accessFlags := 1537
  interfaces := #[]
  cf := some (fileOf pool4 2 #[] #[] 1537 4 #[] #[])
  fields := #[]
  methods := #[]
  instanceTypes := #[]
  staticTypes := #[]
  resolved := Array.replicate 8 none
  statics := none }

/-- the primitive byte -/
def k5 : Class := { plain "byte" none with kind := .primitive 'B', accessFlags := 0x411 }
/-- [B -/
def k6 : Class := { plain "[B" (some 0) with kind := .array 5 .byte, interfaces := #[3, 4], accessFlags := 1041 }

/-- the primitive int -/
def k7 : Class := { plain "int" none with kind := .primitive 'I', accessFlags := 0x411 }
/-- [I -/
def k8 : Class := { plain "[I" (some 0) with kind := .array 7 .int, interfaces := #[3, 4], accessFlags := 1041 }

def heap : Heap := #[]
def classes : Array Class := #[k0, k1, k2, k3, k4, k5, k6, k7, k8]
def interned : List (Array UInt16 × Addr) := []
def slotsUsed : Nat := 0
def theMethod : MethodId := ⟨1, 3⟩
def args0 : Array Value := #[.int 5, .int 6, .int 7, .int 8]
def aboutOver (below : List Frame) : State where
  vm := { classes := classes, interned := interned.toArray }
  heap := heap
  slotsUsed := slotsUsed
  threads := #[{ frames := .invoking theMethod args0 :: below }]
def below0 : List Frame := [.native { method := ⟨0, 0⟩, args := #[] }]
def about1 : State := aboutOver below0
def p0 : Program := .bare "" "" ""
def e0 : Env := launch0.env 0 0 0
theorem w_frames : about1.frames = Frame.invoking theMethod args0 :: below0 := rfl
set_option maxRecDepth 65536 in
theorem w_args : argsFit about1.vm theMethod args0 = true := by decide +kernel
set_option maxRecDepth 65536 in
theorem w_heap : heapFits about1 = true := by decide +kernel
set_option maxRecDepth 65536 in
theorem w_runnable : about1.curStatus? = some .runnable := by decide +kernel
set_option maxRecDepth 65536 in
theorem w_alone : about1.alone = true := by decide +kernel
set_option maxRecDepth 65536 in
theorem w_named : about1.methodNamed? x = some theMethod := by decide +kernel
set_option maxRecDepth 65536 in
theorem w_hears : about1.hears theMethod below0 = true := by decide +kernel
set_option maxRecDepth 65536 in
theorem w_ripe : about1.ripe theMethod args0 below0 = true := by decide +kernel
theorem w_running : about1.status = .running := rfl
set_option maxRecDepth 65536 in
theorem w_room : about1.hasRoom e0.platform room_1 = true :=
  launch0.hasRoom_least _ room_1 (by decide +kernel) (by decide +kernel) (by decide +kernel) (by decide +kernel) (by decide +kernel) (by decide +kernel)
theorem allAtoms_all (ts : List Jvm.Cond) (a : Array Jvm.Value) (st : Jvm.State) : (allAtoms ts).before a st = ts.all (fun c => c.before a st) := by
  induction ts with
  | nil => rfl
  | cons c t ih =>
    show (Jvm.Cond.and c (allAtoms t)).before a st = _
    rw [Jvm.Cond.before_and, ih, List.all_cons]
def words1 : List Jvm.Cond := Jvm.Cond.code x code maxLocals ret :: tables_1
/-- a 'code' word, met by the world's own term for the bytes: nothing is compared byte by byte -/
theorem code_word {y : MethodName} {bytes : ByteArray} {mx : Nat} {rt : Option FieldType} {a : Array Value} {s : State} {m : MethodId} {meth : Method} {c : Code} (h1 : s.methodNamed? y = some m) (h2 : s.vm.method? m = some meth) (h3 : meth.code = some c) (h4 : c.code = bytes)
    (h5 : (c.maxLocals == mx && c.exceptionTable.isEmpty && decide (c.maxStack ≤ mostOperands) && decide (meth.sig.returnType = rt) && !meth.locks && decide (parseMethodDescriptor y.desc = some meth.sig)) = true) : (Jvm.Cond.code y bytes mx rt).before a s = true := by
  simp only [Bool.and_eq_true, beq_iff_eq, Bool.not_eq_true', decide_eq_true_eq] at h5
  obtain ⟨⟨⟨⟨⟨g1, g2⟩, g3⟩, g4⟩, g5⟩, g6⟩ := h5
  simp [Cond.before, Cond.holds, Cond.value, h1, h2, h3, h4, g1, g2, g3, g4, g5, g6]
def isCode : Jvm.Cond → Bool
  | .code _ _ _ _ => true
  | _ => false
theorem all_split {L : List Jvm.Cond} {P : Jvm.Cond → Bool} (h1 : L.all (fun c => isCode c || P c) = true) (h2 : ∀ c ∈ L.filter isCode, P c = true) : L.all P = true := by
  refine List.all_eq_true.mpr fun c hc => ?_
  have h := List.all_eq_true.mp h1 c hc
  rcases Bool.eq_false_or_eq_true (isCode c) with hi | hi
  · exact h2 c (List.mem_filter.mpr ⟨hc, hi⟩)
  · simpa [hi] using h
set_option maxRecDepth 65536 in
theorem w_c0 : (Jvm.Cond.code x code maxLocals ret).before args0 about1 = true := code_word (m := ⟨1, 3⟩) (meth := k1m3) (c := k1c3) (by decide +kernel) rfl rfl rfl (by decide +kernel)
set_option maxRecDepth 65536 in
theorem w_c1 : (Jvm.Cond.code ({ cls := "com/example/tariffwire/tariffwire/xml/XmlDocumentsIsXmlCharacterPinLaw", name := "agrees", desc := "(I)Z" } : Jvm.MethodName) method_3_code (1 : Nat) (Option.some Jvm.ClassFile.FieldType.boolean)).before args0 about1 = true := code_word (m := ⟨1, 2⟩) (meth := k1m2) (c := k1c2) (by decide +kernel) rfl rfl rfl (by decide +kernel)
set_option maxRecDepth 65536 in
theorem w_c2 : (Jvm.Cond.code ({ cls := "com/example/tariffwire/tariffwire/xml/XmlDocuments", name := "isXmlCharacter", desc := "(I)Z" } : Jvm.MethodName) prog_43_method_6_code (1 : Nat) (Option.some Jvm.ClassFile.FieldType.boolean)).before args0 about1 = true := code_word (m := ⟨2, 1⟩) (meth := k2m1) (c := k2c1) (by decide +kernel) rfl rfl rfl (by decide +kernel)
set_option maxRecDepth 65536 in
theorem w_c3 : (Jvm.Cond.code ({ cls := "com/example/tariffwire/tariffwire/xml/XmlDocumentsIsXmlCharacterPinLaw", name := "reference", desc := "(I)Z" } : Jvm.MethodName) method_2_code (1 : Nat) (Option.some Jvm.ClassFile.FieldType.boolean)).before args0 about1 = true := code_word (m := ⟨1, 1⟩) (meth := k1m1) (c := k1c1) (by decide +kernel) rfl rfl rfl (by decide +kernel)
def codes1 : List Jvm.Cond := [Jvm.Cond.code x code maxLocals ret, Jvm.Cond.code ({ cls := "com/example/tariffwire/tariffwire/xml/XmlDocumentsIsXmlCharacterPinLaw", name := "agrees", desc := "(I)Z" } : Jvm.MethodName) method_3_code (1 : Nat) (Option.some Jvm.ClassFile.FieldType.boolean), Jvm.Cond.code ({ cls := "com/example/tariffwire/tariffwire/xml/XmlDocuments", name := "isXmlCharacter", desc := "(I)Z" } : Jvm.MethodName) prog_43_method_6_code (1 : Nat) (Option.some Jvm.ClassFile.FieldType.boolean), Jvm.Cond.code ({ cls := "com/example/tariffwire/tariffwire/xml/XmlDocumentsIsXmlCharacterPinLaw", name := "reference", desc := "(I)Z" } : Jvm.MethodName) method_2_code (1 : Nat) (Option.some Jvm.ClassFile.FieldType.boolean)]
set_option maxRecDepth 65536 in
theorem codes_eq : words1.filter isCode = codes1 := rfl
theorem w_codes : ∀ c ∈ words1.filter isCode, c.before args0 about1 = true := by
  rw [codes_eq]
  intro c hc
  simp only [codes1, List.mem_cons, List.not_mem_nil, or_false] at hc
  rcases hc with rfl | rfl | rfl | rfl
  · exact w_c0
  · exact w_c1
  · exact w_c2
  · exact w_c3
set_option maxRecDepth 65536 in
theorem w_t1 : (words1.take 24).all (fun c => isCode c || c.before args0 about1) = true := by decide +kernel
set_option maxRecDepth 65536 in
theorem w_t2 : (words1.drop 24).all (fun c => isCode c || c.before args0 about1) = true := by decide +kernel
theorem w_tables : (allAtoms (Jvm.Cond.code x code maxLocals ret :: tables_1)).before args0 about1 = true := by
  rw [allAtoms_all]
  show words1.all (fun c => c.before args0 about1) = true
  refine all_split ?_ w_codes
  rw [← List.take_append_drop 24 words1, List.all_append, w_t1, w_t2]
  rfl
set_option maxRecDepth 65536 in
theorem w_case : (Jvm.Cond.and given_1 narrow_1).before args0 about1 = true := by decide +kernel
theorem w_applies : (headSpec (Jvm.Cond.code x code maxLocals ret :: tables_1) room_1).applies x e0.platform about1 = true :=
  (Spec.applies_iff w_frames).mpr ⟨w_running, w_runnable, w_alone, w_named, w_hears, w_ripe, w_room, w_tables⟩
theorem atStart : AtStart classFile x code maxLocals ret World_1 tables_1 room_1 Calls_1 rest_1 Pre_1 launch0 p0 e0 about1 theMethod args0 below0 :=
  ⟨lists_1, trivial, launch0.admits_env _ _ _, launch0.least_env, fairChoices_fair.cas, fairChoices_fair.clock, w_frames, w_args, w_heap, w_applies, trivial, trivial, w_case⟩
end start1
theorem witness_1 : WitnessClaimed_1 := ⟨start1.p0, start1.e0, start1.about1, start1.theMethod, start1.args0, start1.below0, start1.atStart⟩
end Jvm.Pilot.@@N@@
