import JvmDerived
import JvmDerived.Pilot.@@N@@Statement
import JvmDerived.Pilot.@@N@@Code
set_option linter.unusedVariables false
set_option linter.unusedSimpArgs false
namespace Jvm.Pilot.@@N@@
open Jvm Jvm.ClassFile Sem Op Lib Jvm.Free Jvm.Stand Jvm.LawKit Jvm.RoadKit Bundle Jvm.Pilot.@@N@@.Jvm.D

def Go (tb : Tables) (e : Env) (below : List Frame) (a : State) (P : Outcome → State → Prop) : Prop := ∃ s₂ o, Steps tb e below a s₂ ∧ s₂.status = .running ∧ Ended s₂ below o ∧ P o s₂
theorem Go.st {tb : Tables} {e : Env} {below : List Frame} {a b : State} {P : Outcome → State → Prop} (h : ∀ t, Steps tb e below b t → Steps tb e below a t) (k : Go tb e below b P) : Go tb e below a P := by
  obtain ⟨s, o, h1, h2⟩ := k
  exact ⟨s, o, h _ h1, h2⟩
theorem Go.tr {tb : Tables} {e : Env} {below : List Frame} {a b : State} {P : Outcome → State → Prop} (h : Steps tb e below a b) (k : Go tb e below b P) : Go tb e below a P := Go.st (fun _ q => h.trans q) k
theorem Go.fin {tb : Tables} {e : Env} {below : List Frame} {a s₂ : State} {o : Outcome} {P : Outcome → State → Prop} (hs : Steps tb e below a s₂) (hr : s₂.status = .running) (he : Ended s₂ below o) (hP : P o s₂) : Go tb e below a P := ⟨_, _, hs, hr, he, hP⟩
theorem exa_ns {Z : State} {h : Heap} {a : Addr} {C : String} (F : Exa Z h a C) : ∃ c : Cell, h[a]? = some c ∧ c.vm.isStatics = false := by
  obtain ⟨c, _, h1, -, -, h4, -⟩ := F
  exact ⟨c, h1, h4⟩
theorem fld_ns {Z : State} {h : Heap} {a : Addr} {C n d : String} {v : Value} (F : Fld Z h a C n d v) : ∃ c : Cell, h[a]? = some c ∧ c.vm.isStatics = false := by
  obtain ⟨c, _, _, _, _, h1, -, -, -, h4, -⟩ := F
  exact ⟨c, h1, h4⟩
theorem arv_ns {Z : State} {h : Heap} {a : Addr} {k : ClassId} {ty : FieldType} {n : Int32} {vs : List Value} {d : Value} (F : Arv Z h a k ty n vs d) : ∃ c : Cell, h[a]? = some c ∧ c.vm.isStatics = false := by
  obtain ⟨c, A, -⟩ := F
  exact ⟨c, A.1, A.plain⟩
theorem sta_keep {Z : State} {h h' : Heap} {C n d : String} {v : Value} {ws : List Addr} (F : Sta Z h C n d v) (K : Keep h h' ws) (q : ∀ x ∈ ws, ∃ c : Cell, h[x]? = some c ∧ c.vm.isStatics = false) : Sta Z h' C n d v := by
  obtain ⟨cf, i, k, f, st, cell, h1, h2, h3, h4, h5, h6, h7⟩ := F
  refine ⟨cf, i, k, f, st, cell, h1, h2, h3, h4, K.2.1 st cell h5 fun z => ?_, h6, h7⟩
  obtain ⟨c, q1, q2⟩ := q st z
  cases q1.symm.trans h5
  rw [q2] at h6
  cases h6
theorem own_selp {s : State} {args : Array Value} {y : MethodName} {n : Nat} (wi : (Cond.instantiable y.cls n).before args s = true) (hp : s.PrivateAt y) (hi : (Cond.instanceMethod y).before args s = true) (hy : y.cls ≠ "java/lang/invoke/MethodHandle" ∧ y.cls ≠ "java/lang/invoke/VarHandle") : (Cond.selects y.cls y y).before args s = true := by
  obtain ⟨c, k, h1, h2, -, h4, -⟩ := Cond.instantiable_spec wi
  simp only [Bool.or_eq_false_iff] at h4
  exact selects_self_of_private h1 h2 h4.1 hp hi hy
theorem own_ne32 {x k : Int32} {a : Int} (ha : k.toInt = a) (h : ¬ x = k) : a ≠ x.toInt := fun e => h (Int32.toInt_inj.mp (e.symm.trans ha.symm))
theorem own_nn (x : Int32) : 0 ≤ (x &&& (2147483647 : Int32)).toInt := (c_andS x 2147483647).2.2 (by decide)
theorem own_rem (x : Int32) (k : Int32) (d : Int) (hd : k.toInt = d) (h0 : 0 < d) : 0 ≤ ((x &&& (2147483647 : Int32)) % k).toInt ∧ ((x &&& (2147483647 : Int32)) % k).toInt < d := by
  have h := own_nn x
  rw [Int32.toInt_mod, hd]
  exact ⟨Int.tmod_nonneg _ h, Int.tmod_lt_of_pos _ h0⟩
theorem own_remb (x : Int32) (k : Int32) (d : Int) (hd : k.toInt = d) (h0 : 0 < d) : ¬ ((x &&& (2147483647 : Int32)) % k) < 0 ∧ ((x &&& (2147483647 : Int32)) % k) < k := by
  obtain ⟨h1, h2⟩ := own_rem x k d hd h0
  rw [Int32.lt_iff_toInt_lt, Int32.lt_iff_toInt_lt, hd]
  exact ⟨Int.not_lt.mpr h1, h2⟩
def own_at (xs : List Int32) (j : Int32) : Int32 := xs.getD j.toNatClampNeg 0
theorem own_atv (xs : List Int32) (j : Int32) : (xs.map Value.int).getD j.toNatClampNeg (.int 0) = .int (own_at xs j) := by
  unfold own_at
  generalize j.toNatClampNeg = n
  induction xs generalizing n with
  | nil => rfl
  | cons a r ih => cases n with
    | zero => rfl
    | succ n => simpa using ih n
theorem own_setl {l : List Value} {k n : Nat} {v : Value} (h : l.length = n) : (l.set k v).length = n := by rw [List.length_set]; exact h
theorem own_setg {l : List Value} {k : Nat} {v d : Value} (h : k < l.length) : (l.set k v).getD k d = v := by simp [List.getD, List.getElem?_set, h]
theorem own_setn {l : List Value} {k i : Nat} {v d : Value} (h : i ≠ k) : (l.set k v).getD i d = l.getD i d := by simp [List.getD, List.getElem?_set, Ne.symm h]
theorem own_lt_of {l : List Value} {n : Nat} {j z : Int32} (h : l.length = n) (q : ¬ j < 0 ∧ j < z) (hz : z.toNatClampNeg = n := by decide) : j.toNatClampNeg < l.length := by
  rw [h, ← hz]
  obtain ⟨q1, q2⟩ := q
  rw [Int32.lt_iff_toInt_lt] at q1 q2
  have : (0 : Int32).toInt = 0 := rfl
  simp only [Int32.toNatClampNeg]
  omega
theorem own_eqi {args : Array Value} {s : State} {t : Term} {k : Int32} (h : (Jvm.Cond.eq t (.int k)).value args s none s [] = some true) : t.eval args s none [] s = some (.int k) := by
  simp only [Cond.value, Term.eval] at h
  cases ht : t.eval args s none [] s with
  | none => simp [ht] at h
  | some x => cases x <;> simp_all
def own_gr : List Int32 := [0, 0, 0, 0, 0, 0, 0, 0, 0, 0, 0, 0, 0, 0, 0, 0, 0, 0, 0, 0, 0, 0, 0, 0, 0, 0, 0, 0, 0, 0, 0, 0, 0, 0, 0, 1, 1, 0, 1, 0, 0, 0, 1, 1, 0, 1, 1, 1, 0, 0, 0, 0, 0, 0, 0, 0, 0, 0, 1, 0, 1, 1, 1, 1, 1, 0, 0, 0, 0, 0, 0, 0, 0, 0, 0, 0, 0, 0, 0, 0, 0, 0, 0, 0, 0, 0, 0, 0, 0, 0, 0, 0, 1, 0, 1, 0, 0, 0, 0, 0, 0, 0, 0, 0, 0, 0, 0, 0, 0, 0, 0, 0, 0, 0, 0, 0, 0, 0, 0, 0, 0, 0, 0, 0, 0, 0, 1, 0]
abbrev own_grv : List Value := own_gr.map Value.int
theorem d1_0 : decode prog_84_method_9_code 0 = .ok (.iload_n 0, 1) := by decide +kernel
theorem d1_1 : decode prog_84_method_9_code 1 = .ok (.ifCond .lt 23, 3) := by decide +kernel
theorem d1_24 : decode prog_84_method_9_code 24 = .ok (.iconst 0, 1) := by decide +kernel
theorem d1_25 : decode prog_84_method_9_code 25 = .ok (.ireturn, 1) := by decide +kernel
theorem d1_4 : decode prog_84_method_9_code 4 = .ok (.iload_n 0, 1) := by decide +kernel
theorem d1_5 : decode prog_84_method_9_code 5 = .ok (.getstatic 25, 3) := by decide +kernel
theorem wd5 {Z : State} {a0 : Array Value} (hw : ∀ d ∈ tables_1, d.before a0 Z = true) : (Jvm.Cond.fieldLink "com/example/forel/forel/Syntax" (25 : Nat) "com/example/forel/forel/Syntax" "GRAPHIC" "[Z").before a0 Z = true := hw _ (List.mem_of_getElem? (i := 5) rfl)
theorem d1_8 : decode prog_84_method_9_code 8 = .ok (.arraylength, 1) := by decide +kernel
theorem d1_9 : decode prog_84_method_9_code 9 = .ok (.if_icmp .ge 15, 3) := by decide +kernel
theorem d1_12 : decode prog_84_method_9_code 12 = .ok (.getstatic 25, 3) := by decide +kernel
theorem d1_15 : decode prog_84_method_9_code 15 = .ok (.iload_n 0, 1) := by decide +kernel
theorem d1_16 : decode prog_84_method_9_code 16 = .ok (.baload, 1) := by decide +kernel
theorem d1_17 : decode prog_84_method_9_code 17 = .ok (.ifCond .eq 7, 3) := by decide +kernel
theorem d1_20 : decode prog_84_method_9_code 20 = .ok (.iconst 1, 1) := by decide +kernel
theorem d1_21 : decode prog_84_method_9_code 21 = .ok (.goto 4, 3) := by decide +kernel
theorem pn0 : plainName "com/example/forel/forel/Syntax" = true := by first | (simp [plainName, overriddenIn]; done) | decide +kernel
def f1 (p1 : Int32) : Int32 := (if p1 < (0 : Int32) then (0 : Int32) else (if p1 < (128 : Int32) then (if (own_at own_gr p1) = (0 : Int32) then (0 : Int32) else (1 : Int32)) else (0 : Int32)))
def Q1 (Z : State) (p1 : Int32) (w_GRAPHIC : Addr) (k_G : ClassId) (h0 : Heap) (n0 : Nat) (v : Option Value) (h : Heap) (L : List Loc) : Prop := v = some (.int (f1 p1)) ∧ Fr n0 L ∧ h = h0
theorem ef1 (m : MethodId) (x0 : Int32) : entryFrame m #[(.int x0)] 1 = mkF m 0 #[.val (.int x0)] [] := by first | (simp [entryFrame, mkF, argsToLocals, Value.category]; done) | rfl
set_option maxRecDepth 65536 in
set_option maxHeartbeats 16000000 in
theorem rm1 (l : Launch) (Z : State) (a0 : Array Value) (hw : ∀ d ∈ tables_1, d.before a0 Z = true) (ws : List Jvm.Cond) (p1 : Int32) (w_GRAPHIC : Addr) (k_G : ClassId) (h0 : Heap) (n0 : Nat) (Z0 : n0 ≤ h0.size) (S_GRAPHIC : Sta Z h0 "com/example/forel/forel/Syntax" "GRAPHIC" "[Z" (.ref w_GRAPHIC)) (V_GRAPHIC : Arv Z h0 w_GRAPHIC k_G .boolean (128 : Int32) own_grv (.int (0 : Int32))) :
    MetFree l (⟨"com/example/forel/forel/Syntax", "isGraphic", "(I)Z"⟩ : MethodName) (head1 (Jvm.Cond.code (⟨"com/example/forel/forel/Syntax", "isGraphic", "(I)Z"⟩ : MethodName) prog_84_method_9_code 1 (some .boolean) :: ws) ({ frames := 0, cells := 0, slots := 0, locals := 0 } : Room)) (fun a U => a = #[(.int p1)] ∧ Z.Warmed39 U.vm ∧ U.heap = h0) (fun _ _ _ _ _ => True) (fun _ U o U' => ∃ v L, o = .returned v ∧ Q1 Z p1 w_GRAPHIC k_G h0 n0 v U'.heap L ∧ FrameEnd U o U' L ({ frames := 0, cells := 0, slots := 0, locals := 0 } : Room).cells ({ frames := 0, cells := 0, slots := 0, locals := 0 } : Room).slots) := by
  refine MetFree.of_bodySF (plainFor_of_name pn0) hisR ?_
  intro p e s m args below meth c s₁ Bd hml0 hP hK
  obtain ⟨rfl, hZ, hh⟩ := hP
  have hx := Bd.exec
  have hby := Bd.bytes
  have hml : c.maxLocals = 1 := hml0
  have hown : s.vm.findClass "com/example/forel/forel/Syntax" = some m.cls := findClass_of_methodNamed Bd.named
  have hnm := (name_of_methodNamed Bd.named Bd.method).1
  have X0 : Stand p l e ({ frames := 0, cells := 0, slots := 0, locals := 0 } : Room) s m #[(.int p1)] below meth c s₁ [] 0 0 := Stand.of_body Bd
  have e0 : s₁.heap = h0 := by rw [← hh, Bd.state]; rfl
  have N0 := Fr.nil n0
  have K0 : Keep h0 h0 [] := Keep.refl h0 _
  refine Go.st (P := fun o U' => ∃ v L, o = .returned v ∧ Q1 Z p1 w_GRAPHIC k_G h0 n0 v U'.heap L ∧ FrameEnd s o U' L ({ frames := 0, cells := 0, slots := 0, locals := 0 } : Room).cells ({ frames := 0, cells := 0, slots := 0, locals := 0 } : Room).slots) (fun t k => castTop (ef1 m p1) k) ?_
  show Go _ _ _ (s₁.setTop (mkF m 0 #[.val (.int p1)] [])) _
  refine Go.st (fun t k => XS.iloadN X0.here hx rfl (hb hby d1_0) rfl k) ?_
  by_cases hc1 : p1 < (0 : Int32)
  · refine Go.st (fun t k => XS.ifYes X0.here hx rfl (pc0 := 1) (pc' := 24) rfl (hb hby d1_1) rfl ((if0 _ _).trans (tlt hc1).1) (by decide) (by decide) k) ?_
    show Go _ _ _ (s₁.setTop (mkF m 24 #[.val (.int p1)] [])) _
    refine Go.st (fun t k => XS.iconst X0.here hx rfl (hb hby d1_24) k) ?_
    obtain ⟨fs, hr, hrun, hended, hW, hsame⟩ := X0.leave (v := some (.int (0 : Int32))) (fun h => by rw [Bd.returns] at h; cases h)
    refine Go.fin (retN X0 hx (t := .boolean) Bd.returns (by simp) (hb hby d1_25) hr) hrun hended ⟨_, _, rfl, ?_, ⟨_, rfl⟩, hW, hsame.mono (by decide) (by decide)⟩
    show Q1 Z p1 w_GRAPHIC k_G h0 n0 _ s₁.heap _
    rw [e0]
    exact ⟨(by unfold f1; simp only [if_pos hc1]), N0, rfl⟩
  · refine Go.st (fun t k => XS.ifNo X0.here hx rfl (hb hby d1_1) rfl ((if0 _ _).trans (flt hc1).1) k) ?_
    show Go _ _ _ (s₁.setTop (mkF m 4 #[.val (.int p1)] [])) _
    refine Go.st (fun t k => XS.iloadN X0.here hx rfl (hb hby d1_4) rfl k) ?_
    obtain ⟨T2, X2, e2, st2⟩ := getS2 X0 hx hZ hown (host := "") (Or.inl (wd5 hw)) Via.refl e0 S_GRAPHIC (g := (mkF m 5 #[.val (.int p1)] [(.int p1)])) rfl (hb hby d1_5)
    refine Go.st st2 ?_
    show Go _ _ _ (T2.setTop (mkF m 8 #[.val (.int p1)] [(.ref w_GRAPHIC), (.int p1)])) _
    obtain ⟨cl3, Ar3, -, Sz3, Ng3, -, -⟩ := id V_GRAPHIC
    refine Go.st (fun t k => X2.arraylength hx (by rw [e2]; exact Ar3.1) (State.isArrayOf_alike hZ.alike Ar3.2.1) (g := (mkF m 8 #[.val (.int p1)] [(.ref w_GRAPHIC), (.int p1)])) rfl rfl (hb hby d1_8) _ k) ?_
    rw [len_of Sz3 Ng3]
    show Go _ _ _ (T2.setTop (mkF m 9 #[.val (.int p1)] [(.int 128), (.int p1)])) _
    by_cases hc4 : p1 < (128 : Int32)
    · refine Go.st (fun t k => XS.icmpNo X2.here hx rfl (hb hby d1_9) rfl (tlt hc4).2.1 k) ?_
      show Go _ _ _ (T2.setTop (mkF m 12 #[.val (.int p1)] [])) _
      obtain ⟨T5, X5, e5, st5⟩ := getS2 X2 hx hZ hown (host := "") (Or.inl (wd5 hw)) Via.refl e2 S_GRAPHIC (g := (mkF m 12 #[.val (.int p1)] [])) rfl (hb hby d1_12)
      refine Go.st st5 ?_
      show Go _ _ _ (T5.setTop (mkF m 15 #[.val (.int p1)] [(.ref w_GRAPHIC)])) _
      refine Go.st (fun t k => XS.iloadN X5.here hx rfl (hb hby d1_15) rfl k) ?_
      show Go _ _ _ (T5.setTop (mkF m 16 #[.val (.int p1)] [(.int p1), (.ref w_GRAPHIC)])) _
      obtain ⟨cl6, Ar6, -, Sz6, Ng6, Hs6, -⟩ := id V_GRAPHIC
      have hin6 : ¬ (p1 < 0 ∨ cl6.slots.size ≤ (p1).toNatClampNeg) := inb_of Sz6 ⟨hc1, hc4⟩
      refine Go.st (fun t k => X5.baloadBooleans hx (j := p1) (v := (.int (own_at own_gr p1))) (by rw [e5]; exact Ar6.1) (State.isArrayOf_alike hZ.alike Ar6.2.1) Ar6.2.2 hin6 (Has.at Hs6 hin6 (own_atv own_gr _)) (g := (mkF m 16 #[.val (.int p1)] [(.int p1), (.ref w_GRAPHIC)])) rfl rfl (hb hby d1_16) _ k) ?_
      show Go _ _ _ (T5.setTop (mkF m 17 #[.val (.int p1)] [(.int (own_at own_gr p1))])) _
      by_cases hc7 : (own_at own_gr p1) = (0 : Int32)
      · refine Go.st (fun t k => XS.ifYes X5.here hx rfl (pc0 := 17) (pc' := 24) rfl (hb hby d1_17) rfl ((if0 _ _).trans (teq hc7).1) (by decide) (by decide) k) ?_
        show Go _ _ _ (T5.setTop (mkF m 24 #[.val (.int p1)] [])) _
        refine Go.st (fun t k => XS.iconst X5.here hx rfl (hb hby d1_24) k) ?_
        obtain ⟨fs, hr, hrun, hended, hW, hsame⟩ := X5.leave (v := some (.int (0 : Int32))) (fun h => by rw [Bd.returns] at h; cases h)
        refine Go.fin (retN X5 hx (t := .boolean) Bd.returns (by simp) (hb hby d1_25) hr) hrun hended ⟨_, _, rfl, ?_, ⟨_, rfl⟩, hW, hsame.mono (by decide) (by decide)⟩
        show Q1 Z p1 w_GRAPHIC k_G h0 n0 _ T5.heap _
        rw [e5]
        exact ⟨(by unfold f1; simp only [if_neg hc1, if_pos hc4, if_pos hc7]), N0, rfl⟩
      · refine Go.st (fun t k => XS.ifNo X5.here hx rfl (hb hby d1_17) rfl ((if0 _ _).trans (feq hc7).1) k) ?_
        show Go _ _ _ (T5.setTop (mkF m 20 #[.val (.int p1)] [])) _
        refine Go.st (fun t k => XS.iconst X5.here hx rfl (hb hby d1_20) k) ?_
        refine Go.st (fun t k => XS.goto X5.here hx rfl (pc0 := 21) (pc' := 25) rfl (hb hby d1_21) (by decide) (by decide) k) ?_
        obtain ⟨fs, hr, hrun, hended, hW, hsame⟩ := X5.leave (v := some (.int (1 : Int32))) (fun h => by rw [Bd.returns] at h; cases h)
        refine Go.fin (retN X5 hx (t := .boolean) Bd.returns (by simp) (hb hby d1_25) hr) hrun hended ⟨_, _, rfl, ?_, ⟨_, rfl⟩, hW, hsame.mono (by decide) (by decide)⟩
        show Q1 Z p1 w_GRAPHIC k_G h0 n0 _ T5.heap _
        rw [e5]
        exact ⟨(by unfold f1; simp only [if_neg hc1, if_pos hc4, if_neg hc7]), N0, rfl⟩
    · refine Go.st (fun t k => XS.icmpYes X2.here hx rfl (pc0 := 9) (pc' := 24) rfl (hb hby d1_9) rfl (flt hc4).2.1 (by decide) (by decide) k) ?_
      show Go _ _ _ (T2.setTop (mkF m 24 #[.val (.int p1)] [])) _
      refine Go.st (fun t k => XS.iconst X2.here hx rfl (hb hby d1_24) k) ?_
      obtain ⟨fs, hr, hrun, hended, hW, hsame⟩ := X2.leave (v := some (.int (0 : Int32))) (fun h => by rw [Bd.returns] at h; cases h)
      refine Go.fin (retN X2 hx (t := .boolean) Bd.returns (by simp) (hb hby d1_25) hr) hrun hended ⟨_, _, rfl, ?_, ⟨_, rfl⟩, hW, hsame.mono (by decide) (by decide)⟩
      show Q1 Z p1 w_GRAPHIC k_G h0 n0 _ T2.heap _
      rw [e2]
      exact ⟨(by unfold f1; simp only [if_neg hc1, if_neg hc4]), N0, rfl⟩
theorem d2_0 : decode method_2_code 0 = .ok (.iload_n 0, 1) := by decide +kernel
theorem d2_1 : decode method_2_code 1 = .ok (.bipush 43, 2) := by decide +kernel
theorem d2_3 : decode method_2_code 3 = .ok (.if_icmp .eq 99, 3) := by decide +kernel
theorem d2_102 : decode method_2_code 102 = .ok (.iconst 1, 1) := by decide +kernel
theorem d2_103 : decode method_2_code 103 = .ok (.goto 4, 3) := by decide +kernel
theorem d2_107 : decode method_2_code 107 = .ok (.ireturn, 1) := by decide +kernel
theorem d2_6 : decode method_2_code 6 = .ok (.iload_n 0, 1) := by decide +kernel
theorem d2_7 : decode method_2_code 7 = .ok (.bipush 45, 2) := by decide +kernel
theorem d2_9 : decode method_2_code 9 = .ok (.if_icmp .eq 93, 3) := by decide +kernel
theorem d2_12 : decode method_2_code 12 = .ok (.iload_n 0, 1) := by decide +kernel
theorem d2_13 : decode method_2_code 13 = .ok (.bipush 42, 2) := by decide +kernel
theorem d2_15 : decode method_2_code 15 = .ok (.if_icmp .eq 87, 3) := by decide +kernel
theorem d2_18 : decode method_2_code 18 = .ok (.iload_n 0, 1) := by decide +kernel
theorem d2_19 : decode method_2_code 19 = .ok (.bipush 47, 2) := by decide +kernel
theorem d2_21 : decode method_2_code 21 = .ok (.if_icmp .eq 81, 3) := by decide +kernel
theorem d2_24 : decode method_2_code 24 = .ok (.iload_n 0, 1) := by decide +kernel
theorem d2_25 : decode method_2_code 25 = .ok (.bipush 92, 2) := by decide +kernel
theorem d2_27 : decode method_2_code 27 = .ok (.if_icmp .eq 75, 3) := by decide +kernel
theorem d2_30 : decode method_2_code 30 = .ok (.iload_n 0, 1) := by decide +kernel
theorem d2_31 : decode method_2_code 31 = .ok (.bipush 94, 2) := by decide +kernel
theorem d2_33 : decode method_2_code 33 = .ok (.if_icmp .eq 69, 3) := by decide +kernel
theorem d2_36 : decode method_2_code 36 = .ok (.iload_n 0, 1) := by decide +kernel
theorem d2_37 : decode method_2_code 37 = .ok (.bipush 60, 2) := by decide +kernel
theorem d2_39 : decode method_2_code 39 = .ok (.if_icmp .eq 63, 3) := by decide +kernel
theorem d2_42 : decode method_2_code 42 = .ok (.iload_n 0, 1) := by decide +kernel
theorem d2_43 : decode method_2_code 43 = .ok (.bipush 62, 2) := by decide +kernel
theorem d2_45 : decode method_2_code 45 = .ok (.if_icmp .eq 57, 3) := by decide +kernel
theorem d2_48 : decode method_2_code 48 = .ok (.iload_n 0, 1) := by decide +kernel
theorem d2_49 : decode method_2_code 49 = .ok (.bipush 61, 2) := by decide +kernel
theorem d2_51 : decode method_2_code 51 = .ok (.if_icmp .eq 51, 3) := by decide +kernel
theorem d2_54 : decode method_2_code 54 = .ok (.iload_n 0, 1) := by decide +kernel
theorem d2_55 : decode method_2_code 55 = .ok (.bipush 126, 2) := by decide +kernel
theorem d2_57 : decode method_2_code 57 = .ok (.if_icmp .eq 45, 3) := by decide +kernel
theorem d2_60 : decode method_2_code 60 = .ok (.iload_n 0, 1) := by decide +kernel
theorem d2_61 : decode method_2_code 61 = .ok (.bipush 58, 2) := by decide +kernel
theorem d2_63 : decode method_2_code 63 = .ok (.if_icmp .eq 39, 3) := by decide +kernel
theorem d2_66 : decode method_2_code 66 = .ok (.iload_n 0, 1) := by decide +kernel
theorem d2_67 : decode method_2_code 67 = .ok (.bipush 46, 2) := by decide +kernel
theorem d2_69 : decode method_2_code 69 = .ok (.if_icmp .eq 33, 3) := by decide +kernel
theorem d2_72 : decode method_2_code 72 = .ok (.iload_n 0, 1) := by decide +kernel
theorem d2_73 : decode method_2_code 73 = .ok (.bipush 63, 2) := by decide +kernel
theorem d2_75 : decode method_2_code 75 = .ok (.if_icmp .eq 27, 3) := by decide +kernel
theorem d2_78 : decode method_2_code 78 = .ok (.iload_n 0, 1) := by decide +kernel
theorem d2_79 : decode method_2_code 79 = .ok (.bipush 64, 2) := by decide +kernel
theorem d2_81 : decode method_2_code 81 = .ok (.if_icmp .eq 21, 3) := by decide +kernel
theorem d2_84 : decode method_2_code 84 = .ok (.iload_n 0, 1) := by decide +kernel
theorem d2_85 : decode method_2_code 85 = .ok (.bipush 35, 2) := by decide +kernel
theorem d2_87 : decode method_2_code 87 = .ok (.if_icmp .eq 15, 3) := by decide +kernel
theorem d2_90 : decode method_2_code 90 = .ok (.iload_n 0, 1) := by decide +kernel
theorem d2_91 : decode method_2_code 91 = .ok (.bipush 38, 2) := by decide +kernel
theorem d2_93 : decode method_2_code 93 = .ok (.if_icmp .eq 9, 3) := by decide +kernel
theorem d2_96 : decode method_2_code 96 = .ok (.iload_n 0, 1) := by decide +kernel
theorem d2_97 : decode method_2_code 97 = .ok (.bipush 36, 2) := by decide +kernel
theorem d2_99 : decode method_2_code 99 = .ok (.if_icmp .ne 7, 3) := by decide +kernel
theorem d2_106 : decode method_2_code 106 = .ok (.iconst 0, 1) := by decide +kernel
theorem pn1 : plainName "com/example/forel/forel/SyntaxIsGraphicPinLaw" = true := by first | (simp [plainName, overriddenIn]; done) | decide +kernel
def f2 (p1 : Int32) : Int32 := (if p1 = (43 : Int32) then (1 : Int32) else (if p1 = (45 : Int32) then (1 : Int32) else (if p1 = (42 : Int32) then (1 : Int32) else (if p1 = (47 : Int32) then (1 : Int32) else (if p1 = (92 : Int32) then (1 : Int32) else (if p1 = (94 : Int32) then (1 : Int32) else (if p1 = (60 : Int32) then (1 : Int32) else (if p1 = (62 : Int32) then (1 : Int32) else (if p1 = (61 : Int32) then (1 : Int32) else (if p1 = (126 : Int32) then (1 : Int32) else (if p1 = (58 : Int32) then (1 : Int32) else (if p1 = (46 : Int32) then (1 : Int32) else (if p1 = (63 : Int32) then (1 : Int32) else (if p1 = (64 : Int32) then (1 : Int32) else (if p1 = (35 : Int32) then (1 : Int32) else (if p1 = (38 : Int32) then (1 : Int32) else (if p1 = (36 : Int32) then (1 : Int32) else (0 : Int32))))))))))))))))))
def Q2 (Z : State) (p1 : Int32) (h0 : Heap) (n0 : Nat) (v : Option Value) (h : Heap) (L : List Loc) : Prop := v = some (.int (f2 p1)) ∧ Fr n0 L ∧ h = h0
theorem ef2 (m : MethodId) (x0 : Int32) : entryFrame m #[(.int x0)] 1 = mkF m 0 #[.val (.int x0)] [] := by first | (simp [entryFrame, mkF, argsToLocals, Value.category]; done) | rfl
set_option maxRecDepth 65536 in
set_option maxHeartbeats 16000000 in
theorem rm2 (l : Launch) (Z : State) (a0 : Array Value) (hw : ∀ d ∈ tables_1, d.before a0 Z = true) (ws : List Jvm.Cond) (p1 : Int32) (h0 : Heap) (n0 : Nat) (Z0 : n0 ≤ h0.size) :
    MetFree l (⟨"com/example/forel/forel/SyntaxIsGraphicPinLaw", "expected", "(I)Z"⟩ : MethodName) (head1 (Jvm.Cond.code (⟨"com/example/forel/forel/SyntaxIsGraphicPinLaw", "expected", "(I)Z"⟩ : MethodName) method_2_code 1 (some .boolean) :: ws) ({ frames := 0, cells := 0, slots := 0, locals := 0 } : Room)) (fun a U => a = #[(.int p1)] ∧ Z.Warmed39 U.vm ∧ U.heap = h0) (fun _ _ _ _ _ => True) (fun _ U o U' => ∃ v L, o = .returned v ∧ Q2 Z p1 h0 n0 v U'.heap L ∧ FrameEnd U o U' L ({ frames := 0, cells := 0, slots := 0, locals := 0 } : Room).cells ({ frames := 0, cells := 0, slots := 0, locals := 0 } : Room).slots) := by
  refine MetFree.of_bodySF (plainFor_of_name pn1) hisR ?_
  intro p e s m args below meth c s₁ Bd hml0 hP hK
  obtain ⟨rfl, hZ, hh⟩ := hP
  have hx := Bd.exec
  have hby := Bd.bytes
  have hml : c.maxLocals = 1 := hml0
  have hown : s.vm.findClass "com/example/forel/forel/SyntaxIsGraphicPinLaw" = some m.cls := findClass_of_methodNamed Bd.named
  have hnm := (name_of_methodNamed Bd.named Bd.method).1
  have X0 : Stand p l e ({ frames := 0, cells := 0, slots := 0, locals := 0 } : Room) s m #[(.int p1)] below meth c s₁ [] 0 0 := Stand.of_body Bd
  have e0 : s₁.heap = h0 := by rw [← hh, Bd.state]; rfl
  have N0 := Fr.nil n0
  have K0 : Keep h0 h0 [] := Keep.refl h0 _
  refine Go.st (P := fun o U' => ∃ v L, o = .returned v ∧ Q2 Z p1 h0 n0 v U'.heap L ∧ FrameEnd s o U' L ({ frames := 0, cells := 0, slots := 0, locals := 0 } : Room).cells ({ frames := 0, cells := 0, slots := 0, locals := 0 } : Room).slots) (fun t k => castTop (ef2 m p1) k) ?_
  show Go _ _ _ (s₁.setTop (mkF m 0 #[.val (.int p1)] [])) _
  refine Go.st (fun t k => XS.iloadN X0.here hx rfl (hb hby d2_0) rfl k) ?_
  refine Go.st (fun t k => XS.bipush X0.here hx rfl (hb hby d2_1) k) ?_
  by_cases hc1 : p1 = (43 : Int32)
  · refine Go.st (fun t k => XS.icmpYes X0.here hx rfl (pc0 := 3) (pc' := 102) rfl (hb hby d2_3) rfl (teq hc1).1 (by decide) (by decide) k) ?_
    show Go _ _ _ (s₁.setTop (mkF m 102 #[.val (.int p1)] [])) _
    refine Go.st (fun t k => XS.iconst X0.here hx rfl (hb hby d2_102) k) ?_
    refine Go.st (fun t k => XS.goto X0.here hx rfl (pc0 := 103) (pc' := 107) rfl (hb hby d2_103) (by decide) (by decide) k) ?_
    obtain ⟨fs, hr, hrun, hended, hW, hsame⟩ := X0.leave (v := some (.int (1 : Int32))) (fun h => by rw [Bd.returns] at h; cases h)
    refine Go.fin (retN X0 hx (t := .boolean) Bd.returns (by simp) (hb hby d2_107) hr) hrun hended ⟨_, _, rfl, ?_, ⟨_, rfl⟩, hW, hsame.mono (by decide) (by decide)⟩
    show Q2 Z p1 h0 n0 _ s₁.heap _
    rw [e0]
    exact ⟨(by unfold f2; simp only [if_pos hc1]), N0, rfl⟩
  · refine Go.st (fun t k => XS.icmpNo X0.here hx rfl (hb hby d2_3) rfl (feq hc1).1 k) ?_
    show Go _ _ _ (s₁.setTop (mkF m 6 #[.val (.int p1)] [])) _
    refine Go.st (fun t k => XS.iloadN X0.here hx rfl (hb hby d2_6) rfl k) ?_
    refine Go.st (fun t k => XS.bipush X0.here hx rfl (hb hby d2_7) k) ?_
    by_cases hc2 : p1 = (45 : Int32)
    · refine Go.st (fun t k => XS.icmpYes X0.here hx rfl (pc0 := 9) (pc' := 102) rfl (hb hby d2_9) rfl (teq hc2).1 (by decide) (by decide) k) ?_
      show Go _ _ _ (s₁.setTop (mkF m 102 #[.val (.int p1)] [])) _
      refine Go.st (fun t k => XS.iconst X0.here hx rfl (hb hby d2_102) k) ?_
      refine Go.st (fun t k => XS.goto X0.here hx rfl (pc0 := 103) (pc' := 107) rfl (hb hby d2_103) (by decide) (by decide) k) ?_
      obtain ⟨fs, hr, hrun, hended, hW, hsame⟩ := X0.leave (v := some (.int (1 : Int32))) (fun h => by rw [Bd.returns] at h; cases h)
      refine Go.fin (retN X0 hx (t := .boolean) Bd.returns (by simp) (hb hby d2_107) hr) hrun hended ⟨_, _, rfl, ?_, ⟨_, rfl⟩, hW, hsame.mono (by decide) (by decide)⟩
      show Q2 Z p1 h0 n0 _ s₁.heap _
      rw [e0]
      exact ⟨(by unfold f2; simp only [if_neg hc1, if_pos hc2]), N0, rfl⟩
    · refine Go.st (fun t k => XS.icmpNo X0.here hx rfl (hb hby d2_9) rfl (feq hc2).1 k) ?_
      show Go _ _ _ (s₁.setTop (mkF m 12 #[.val (.int p1)] [])) _
      refine Go.st (fun t k => XS.iloadN X0.here hx rfl (hb hby d2_12) rfl k) ?_
      refine Go.st (fun t k => XS.bipush X0.here hx rfl (hb hby d2_13) k) ?_
      by_cases hc3 : p1 = (42 : Int32)
      · refine Go.st (fun t k => XS.icmpYes X0.here hx rfl (pc0 := 15) (pc' := 102) rfl (hb hby d2_15) rfl (teq hc3).1 (by decide) (by decide) k) ?_
        show Go _ _ _ (s₁.setTop (mkF m 102 #[.val (.int p1)] [])) _
        refine Go.st (fun t k => XS.iconst X0.here hx rfl (hb hby d2_102) k) ?_
        refine Go.st (fun t k => XS.goto X0.here hx rfl (pc0 := 103) (pc' := 107) rfl (hb hby d2_103) (by decide) (by decide) k) ?_
        obtain ⟨fs, hr, hrun, hended, hW, hsame⟩ := X0.leave (v := some (.int (1 : Int32))) (fun h => by rw [Bd.returns] at h; cases h)
        refine Go.fin (retN X0 hx (t := .boolean) Bd.returns (by simp) (hb hby d2_107) hr) hrun hended ⟨_, _, rfl, ?_, ⟨_, rfl⟩, hW, hsame.mono (by decide) (by decide)⟩
        show Q2 Z p1 h0 n0 _ s₁.heap _
        rw [e0]
        exact ⟨(by unfold f2; simp only [if_neg hc1, if_neg hc2, if_pos hc3]), N0, rfl⟩
      · refine Go.st (fun t k => XS.icmpNo X0.here hx rfl (hb hby d2_15) rfl (feq hc3).1 k) ?_
        show Go _ _ _ (s₁.setTop (mkF m 18 #[.val (.int p1)] [])) _
        refine Go.st (fun t k => XS.iloadN X0.here hx rfl (hb hby d2_18) rfl k) ?_
        refine Go.st (fun t k => XS.bipush X0.here hx rfl (hb hby d2_19) k) ?_
        by_cases hc4 : p1 = (47 : Int32)
        · refine Go.st (fun t k => XS.icmpYes X0.here hx rfl (pc0 := 21) (pc' := 102) rfl (hb hby d2_21) rfl (teq hc4).1 (by decide) (by decide) k) ?_
          show Go _ _ _ (s₁.setTop (mkF m 102 #[.val (.int p1)] [])) _
          refine Go.st (fun t k => XS.iconst X0.here hx rfl (hb hby d2_102) k) ?_
          refine Go.st (fun t k => XS.goto X0.here hx rfl (pc0 := 103) (pc' := 107) rfl (hb hby d2_103) (by decide) (by decide) k) ?_
          obtain ⟨fs, hr, hrun, hended, hW, hsame⟩ := X0.leave (v := some (.int (1 : Int32))) (fun h => by rw [Bd.returns] at h; cases h)
          refine Go.fin (retN X0 hx (t := .boolean) Bd.returns (by simp) (hb hby d2_107) hr) hrun hended ⟨_, _, rfl, ?_, ⟨_, rfl⟩, hW, hsame.mono (by decide) (by decide)⟩
          show Q2 Z p1 h0 n0 _ s₁.heap _
          rw [e0]
          exact ⟨(by unfold f2; simp only [if_neg hc1, if_neg hc2, if_neg hc3, if_pos hc4]), N0, rfl⟩
        · refine Go.st (fun t k => XS.icmpNo X0.here hx rfl (hb hby d2_21) rfl (feq hc4).1 k) ?_
          show Go _ _ _ (s₁.setTop (mkF m 24 #[.val (.int p1)] [])) _
          refine Go.st (fun t k => XS.iloadN X0.here hx rfl (hb hby d2_24) rfl k) ?_
          refine Go.st (fun t k => XS.bipush X0.here hx rfl (hb hby d2_25) k) ?_
          by_cases hc5 : p1 = (92 : Int32)
          · refine Go.st (fun t k => XS.icmpYes X0.here hx rfl (pc0 := 27) (pc' := 102) rfl (hb hby d2_27) rfl (teq hc5).1 (by decide) (by decide) k) ?_
            show Go _ _ _ (s₁.setTop (mkF m 102 #[.val (.int p1)] [])) _
            refine Go.st (fun t k => XS.iconst X0.here hx rfl (hb hby d2_102) k) ?_
            refine Go.st (fun t k => XS.goto X0.here hx rfl (pc0 := 103) (pc' := 107) rfl (hb hby d2_103) (by decide) (by decide) k) ?_
            obtain ⟨fs, hr, hrun, hended, hW, hsame⟩ := X0.leave (v := some (.int (1 : Int32))) (fun h => by rw [Bd.returns] at h; cases h)
            refine Go.fin (retN X0 hx (t := .boolean) Bd.returns (by simp) (hb hby d2_107) hr) hrun hended ⟨_, _, rfl, ?_, ⟨_, rfl⟩, hW, hsame.mono (by decide) (by decide)⟩
            show Q2 Z p1 h0 n0 _ s₁.heap _
            rw [e0]
            exact ⟨(by unfold f2; simp only [if_neg hc1, if_neg hc2, if_neg hc3, if_neg hc4, if_pos hc5]), N0, rfl⟩
          · refine Go.st (fun t k => XS.icmpNo X0.here hx rfl (hb hby d2_27) rfl (feq hc5).1 k) ?_
            show Go _ _ _ (s₁.setTop (mkF m 30 #[.val (.int p1)] [])) _
            refine Go.st (fun t k => XS.iloadN X0.here hx rfl (hb hby d2_30) rfl k) ?_
            refine Go.st (fun t k => XS.bipush X0.here hx rfl (hb hby d2_31) k) ?_
            by_cases hc6 : p1 = (94 : Int32)
            · refine Go.st (fun t k => XS.icmpYes X0.here hx rfl (pc0 := 33) (pc' := 102) rfl (hb hby d2_33) rfl (teq hc6).1 (by decide) (by decide) k) ?_
              show Go _ _ _ (s₁.setTop (mkF m 102 #[.val (.int p1)] [])) _
              refine Go.st (fun t k => XS.iconst X0.here hx rfl (hb hby d2_102) k) ?_
              refine Go.st (fun t k => XS.goto X0.here hx rfl (pc0 := 103) (pc' := 107) rfl (hb hby d2_103) (by decide) (by decide) k) ?_
              obtain ⟨fs, hr, hrun, hended, hW, hsame⟩ := X0.leave (v := some (.int (1 : Int32))) (fun h => by rw [Bd.returns] at h; cases h)
              refine Go.fin (retN X0 hx (t := .boolean) Bd.returns (by simp) (hb hby d2_107) hr) hrun hended ⟨_, _, rfl, ?_, ⟨_, rfl⟩, hW, hsame.mono (by decide) (by decide)⟩
              show Q2 Z p1 h0 n0 _ s₁.heap _
              rw [e0]
              exact ⟨(by unfold f2; simp only [if_neg hc1, if_neg hc2, if_neg hc3, if_neg hc4, if_neg hc5, if_pos hc6]), N0, rfl⟩
            · refine Go.st (fun t k => XS.icmpNo X0.here hx rfl (hb hby d2_33) rfl (feq hc6).1 k) ?_
              show Go _ _ _ (s₁.setTop (mkF m 36 #[.val (.int p1)] [])) _
              refine Go.st (fun t k => XS.iloadN X0.here hx rfl (hb hby d2_36) rfl k) ?_
              refine Go.st (fun t k => XS.bipush X0.here hx rfl (hb hby d2_37) k) ?_
              by_cases hc7 : p1 = (60 : Int32)
              · refine Go.st (fun t k => XS.icmpYes X0.here hx rfl (pc0 := 39) (pc' := 102) rfl (hb hby d2_39) rfl (teq hc7).1 (by decide) (by decide) k) ?_
                show Go _ _ _ (s₁.setTop (mkF m 102 #[.val (.int p1)] [])) _
                refine Go.st (fun t k => XS.iconst X0.here hx rfl (hb hby d2_102) k) ?_
                refine Go.st (fun t k => XS.goto X0.here hx rfl (pc0 := 103) (pc' := 107) rfl (hb hby d2_103) (by decide) (by decide) k) ?_
                obtain ⟨fs, hr, hrun, hended, hW, hsame⟩ := X0.leave (v := some (.int (1 : Int32))) (fun h => by rw [Bd.returns] at h; cases h)
                refine Go.fin (retN X0 hx (t := .boolean) Bd.returns (by simp) (hb hby d2_107) hr) hrun hended ⟨_, _, rfl, ?_, ⟨_, rfl⟩, hW, hsame.mono (by decide) (by decide)⟩
                show Q2 Z p1 h0 n0 _ s₁.heap _
                rw [e0]
                exact ⟨(by unfold f2; simp only [if_neg hc1, if_neg hc2, if_neg hc3, if_neg hc4, if_neg hc5, if_neg hc6, if_pos hc7]), N0, rfl⟩
              · refine Go.st (fun t k => XS.icmpNo X0.here hx rfl (hb hby d2_39) rfl (feq hc7).1 k) ?_
                show Go _ _ _ (s₁.setTop (mkF m 42 #[.val (.int p1)] [])) _
                refine Go.st (fun t k => XS.iloadN X0.here hx rfl (hb hby d2_42) rfl k) ?_
                refine Go.st (fun t k => XS.bipush X0.here hx rfl (hb hby d2_43) k) ?_
                by_cases hc8 : p1 = (62 : Int32)
                · refine Go.st (fun t k => XS.icmpYes X0.here hx rfl (pc0 := 45) (pc' := 102) rfl (hb hby d2_45) rfl (teq hc8).1 (by decide) (by decide) k) ?_
                  show Go _ _ _ (s₁.setTop (mkF m 102 #[.val (.int p1)] [])) _
                  refine Go.st (fun t k => XS.iconst X0.here hx rfl (hb hby d2_102) k) ?_
                  refine Go.st (fun t k => XS.goto X0.here hx rfl (pc0 := 103) (pc' := 107) rfl (hb hby d2_103) (by decide) (by decide) k) ?_
                  obtain ⟨fs, hr, hrun, hended, hW, hsame⟩ := X0.leave (v := some (.int (1 : Int32))) (fun h => by rw [Bd.returns] at h; cases h)
                  refine Go.fin (retN X0 hx (t := .boolean) Bd.returns (by simp) (hb hby d2_107) hr) hrun hended ⟨_, _, rfl, ?_, ⟨_, rfl⟩, hW, hsame.mono (by decide) (by decide)⟩
                  show Q2 Z p1 h0 n0 _ s₁.heap _
                  rw [e0]
                  exact ⟨(by unfold f2; simp only [if_neg hc1, if_neg hc2, if_neg hc3, if_neg hc4, if_neg hc5, if_neg hc6, if_neg hc7, if_pos hc8]), N0, rfl⟩
                · refine Go.st (fun t k => XS.icmpNo X0.here hx rfl (hb hby d2_45) rfl (feq hc8).1 k) ?_
                  show Go _ _ _ (s₁.setTop (mkF m 48 #[.val (.int p1)] [])) _
                  refine Go.st (fun t k => XS.iloadN X0.here hx rfl (hb hby d2_48) rfl k) ?_
                  refine Go.st (fun t k => XS.bipush X0.here hx rfl (hb hby d2_49) k) ?_
                  by_cases hc9 : p1 = (61 : Int32)
                  · refine Go.st (fun t k => XS.icmpYes X0.here hx rfl (pc0 := 51) (pc' := 102) rfl (hb hby d2_51) rfl (teq hc9).1 (by decide) (by decide) k) ?_
                    show Go _ _ _ (s₁.setTop (mkF m 102 #[.val (.int p1)] [])) _
                    refine Go.st (fun t k => XS.iconst X0.here hx rfl (hb hby d2_102) k) ?_
                    refine Go.st (fun t k => XS.goto X0.here hx rfl (pc0 := 103) (pc' := 107) rfl (hb hby d2_103) (by decide) (by decide) k) ?_
                    obtain ⟨fs, hr, hrun, hended, hW, hsame⟩ := X0.leave (v := some (.int (1 : Int32))) (fun h => by rw [Bd.returns] at h; cases h)
                    refine Go.fin (retN X0 hx (t := .boolean) Bd.returns (by simp) (hb hby d2_107) hr) hrun hended ⟨_, _, rfl, ?_, ⟨_, rfl⟩, hW, hsame.mono (by decide) (by decide)⟩
                    show Q2 Z p1 h0 n0 _ s₁.heap _
                    rw [e0]
                    exact ⟨(by unfold f2; simp only [if_neg hc1, if_neg hc2, if_neg hc3, if_neg hc4, if_neg hc5, if_neg hc6, if_neg hc7, if_neg hc8, if_pos hc9]), N0, rfl⟩
                  · refine Go.st (fun t k => XS.icmpNo X0.here hx rfl (hb hby d2_51) rfl (feq hc9).1 k) ?_
                    show Go _ _ _ (s₁.setTop (mkF m 54 #[.val (.int p1)] [])) _
                    refine Go.st (fun t k => XS.iloadN X0.here hx rfl (hb hby d2_54) rfl k) ?_
                    refine Go.st (fun t k => XS.bipush X0.here hx rfl (hb hby d2_55) k) ?_
                    by_cases hc10 : p1 = (126 : Int32)
                    · refine Go.st (fun t k => XS.icmpYes X0.here hx rfl (pc0 := 57) (pc' := 102) rfl (hb hby d2_57) rfl (teq hc10).1 (by decide) (by decide) k) ?_
                      show Go _ _ _ (s₁.setTop (mkF m 102 #[.val (.int p1)] [])) _
                      refine Go.st (fun t k => XS.iconst X0.here hx rfl (hb hby d2_102) k) ?_
                      refine Go.st (fun t k => XS.goto X0.here hx rfl (pc0 := 103) (pc' := 107) rfl (hb hby d2_103) (by decide) (by decide) k) ?_
                      obtain ⟨fs, hr, hrun, hended, hW, hsame⟩ := X0.leave (v := some (.int (1 : Int32))) (fun h => by rw [Bd.returns] at h; cases h)
                      refine Go.fin (retN X0 hx (t := .boolean) Bd.returns (by simp) (hb hby d2_107) hr) hrun hended ⟨_, _, rfl, ?_, ⟨_, rfl⟩, hW, hsame.mono (by decide) (by decide)⟩
                      show Q2 Z p1 h0 n0 _ s₁.heap _
                      rw [e0]
                      exact ⟨(by unfold f2; simp only [if_neg hc1, if_neg hc2, if_neg hc3, if_neg hc4, if_neg hc5, if_neg hc6, if_neg hc7, if_neg hc8, if_neg hc9, if_pos hc10]), N0, rfl⟩
                    · refine Go.st (fun t k => XS.icmpNo X0.here hx rfl (hb hby d2_57) rfl (feq hc10).1 k) ?_
                      show Go _ _ _ (s₁.setTop (mkF m 60 #[.val (.int p1)] [])) _
                      refine Go.st (fun t k => XS.iloadN X0.here hx rfl (hb hby d2_60) rfl k) ?_
                      refine Go.st (fun t k => XS.bipush X0.here hx rfl (hb hby d2_61) k) ?_
                      by_cases hc11 : p1 = (58 : Int32)
                      · refine Go.st (fun t k => XS.icmpYes X0.here hx rfl (pc0 := 63) (pc' := 102) rfl (hb hby d2_63) rfl (teq hc11).1 (by decide) (by decide) k) ?_
                        show Go _ _ _ (s₁.setTop (mkF m 102 #[.val (.int p1)] [])) _
                        refine Go.st (fun t k => XS.iconst X0.here hx rfl (hb hby d2_102) k) ?_
                        refine Go.st (fun t k => XS.goto X0.here hx rfl (pc0 := 103) (pc' := 107) rfl (hb hby d2_103) (by decide) (by decide) k) ?_
                        obtain ⟨fs, hr, hrun, hended, hW, hsame⟩ := X0.leave (v := some (.int (1 : Int32))) (fun h => by rw [Bd.returns] at h; cases h)
                        refine Go.fin (retN X0 hx (t := .boolean) Bd.returns (by simp) (hb hby d2_107) hr) hrun hended ⟨_, _, rfl, ?_, ⟨_, rfl⟩, hW, hsame.mono (by decide) (by decide)⟩
                        show Q2 Z p1 h0 n0 _ s₁.heap _
                        rw [e0]
                        exact ⟨(by unfold f2; simp only [if_neg hc1, if_neg hc2, if_neg hc3, if_neg hc4, if_neg hc5, if_neg hc6, if_neg hc7, if_neg hc8, if_neg hc9, if_neg hc10, if_pos hc11]), N0, rfl⟩
                      · refine Go.st (fun t k => XS.icmpNo X0.here hx rfl (hb hby d2_63) rfl (feq hc11).1 k) ?_
                        show Go _ _ _ (s₁.setTop (mkF m 66 #[.val (.int p1)] [])) _
                        refine Go.st (fun t k => XS.iloadN X0.here hx rfl (hb hby d2_66) rfl k) ?_
                        refine Go.st (fun t k => XS.bipush X0.here hx rfl (hb hby d2_67) k) ?_
                        by_cases hc12 : p1 = (46 : Int32)
                        · refine Go.st (fun t k => XS.icmpYes X0.here hx rfl (pc0 := 69) (pc' := 102) rfl (hb hby d2_69) rfl (teq hc12).1 (by decide) (by decide) k) ?_
                          show Go _ _ _ (s₁.setTop (mkF m 102 #[.val (.int p1)] [])) _
                          refine Go.st (fun t k => XS.iconst X0.here hx rfl (hb hby d2_102) k) ?_
                          refine Go.st (fun t k => XS.goto X0.here hx rfl (pc0 := 103) (pc' := 107) rfl (hb hby d2_103) (by decide) (by decide) k) ?_
                          obtain ⟨fs, hr, hrun, hended, hW, hsame⟩ := X0.leave (v := some (.int (1 : Int32))) (fun h => by rw [Bd.returns] at h; cases h)
                          refine Go.fin (retN X0 hx (t := .boolean) Bd.returns (by simp) (hb hby d2_107) hr) hrun hended ⟨_, _, rfl, ?_, ⟨_, rfl⟩, hW, hsame.mono (by decide) (by decide)⟩
                          show Q2 Z p1 h0 n0 _ s₁.heap _
                          rw [e0]
                          exact ⟨(by unfold f2; simp only [if_neg hc1, if_neg hc2, if_neg hc3, if_neg hc4, if_neg hc5, if_neg hc6, if_neg hc7, if_neg hc8, if_neg hc9, if_neg hc10, if_neg hc11, if_pos hc12]), N0, rfl⟩
                        · refine Go.st (fun t k => XS.icmpNo X0.here hx rfl (hb hby d2_69) rfl (feq hc12).1 k) ?_
                          show Go _ _ _ (s₁.setTop (mkF m 72 #[.val (.int p1)] [])) _
                          refine Go.st (fun t k => XS.iloadN X0.here hx rfl (hb hby d2_72) rfl k) ?_
                          refine Go.st (fun t k => XS.bipush X0.here hx rfl (hb hby d2_73) k) ?_
                          by_cases hc13 : p1 = (63 : Int32)
                          · refine Go.st (fun t k => XS.icmpYes X0.here hx rfl (pc0 := 75) (pc' := 102) rfl (hb hby d2_75) rfl (teq hc13).1 (by decide) (by decide) k) ?_
                            show Go _ _ _ (s₁.setTop (mkF m 102 #[.val (.int p1)] [])) _
                            refine Go.st (fun t k => XS.iconst X0.here hx rfl (hb hby d2_102) k) ?_
                            refine Go.st (fun t k => XS.goto X0.here hx rfl (pc0 := 103) (pc' := 107) rfl (hb hby d2_103) (by decide) (by decide) k) ?_
                            obtain ⟨fs, hr, hrun, hended, hW, hsame⟩ := X0.leave (v := some (.int (1 : Int32))) (fun h => by rw [Bd.returns] at h; cases h)
                            refine Go.fin (retN X0 hx (t := .boolean) Bd.returns (by simp) (hb hby d2_107) hr) hrun hended ⟨_, _, rfl, ?_, ⟨_, rfl⟩, hW, hsame.mono (by decide) (by decide)⟩
                            show Q2 Z p1 h0 n0 _ s₁.heap _
                            rw [e0]
                            exact ⟨(by unfold f2; simp only [if_neg hc1, if_neg hc2, if_neg hc3, if_neg hc4, if_neg hc5, if_neg hc6, if_neg hc7, if_neg hc8, if_neg hc9, if_neg hc10, if_neg hc11, if_neg hc12, if_pos hc13]), N0, rfl⟩
                          · refine Go.st (fun t k => XS.icmpNo X0.here hx rfl (hb hby d2_75) rfl (feq hc13).1 k) ?_
                            show Go _ _ _ (s₁.setTop (mkF m 78 #[.val (.int p1)] [])) _
                            refine Go.st (fun t k => XS.iloadN X0.here hx rfl (hb hby d2_78) rfl k) ?_
                            refine Go.st (fun t k => XS.bipush X0.here hx rfl (hb hby d2_79) k) ?_
                            by_cases hc14 : p1 = (64 : Int32)
                            · refine Go.st (fun t k => XS.icmpYes X0.here hx rfl (pc0 := 81) (pc' := 102) rfl (hb hby d2_81) rfl (teq hc14).1 (by decide) (by decide) k) ?_
                              show Go _ _ _ (s₁.setTop (mkF m 102 #[.val (.int p1)] [])) _
                              refine Go.st (fun t k => XS.iconst X0.here hx rfl (hb hby d2_102) k) ?_
                              refine Go.st (fun t k => XS.goto X0.here hx rfl (pc0 := 103) (pc' := 107) rfl (hb hby d2_103) (by decide) (by decide) k) ?_
                              obtain ⟨fs, hr, hrun, hended, hW, hsame⟩ := X0.leave (v := some (.int (1 : Int32))) (fun h => by rw [Bd.returns] at h; cases h)
                              refine Go.fin (retN X0 hx (t := .boolean) Bd.returns (by simp) (hb hby d2_107) hr) hrun hended ⟨_, _, rfl, ?_, ⟨_, rfl⟩, hW, hsame.mono (by decide) (by decide)⟩
                              show Q2 Z p1 h0 n0 _ s₁.heap _
                              rw [e0]
                              exact ⟨(by unfold f2; simp only [if_neg hc1, if_neg hc2, if_neg hc3, if_neg hc4, if_neg hc5, if_neg hc6, if_neg hc7, if_neg hc8, if_neg hc9, if_neg hc10, if_neg hc11, if_neg hc12, if_neg hc13, if_pos hc14]), N0, rfl⟩
                            · refine Go.st (fun t k => XS.icmpNo X0.here hx rfl (hb hby d2_81) rfl (feq hc14).1 k) ?_
                              show Go _ _ _ (s₁.setTop (mkF m 84 #[.val (.int p1)] [])) _
                              refine Go.st (fun t k => XS.iloadN X0.here hx rfl (hb hby d2_84) rfl k) ?_
                              refine Go.st (fun t k => XS.bipush X0.here hx rfl (hb hby d2_85) k) ?_
                              by_cases hc15 : p1 = (35 : Int32)
                              · refine Go.st (fun t k => XS.icmpYes X0.here hx rfl (pc0 := 87) (pc' := 102) rfl (hb hby d2_87) rfl (teq hc15).1 (by decide) (by decide) k) ?_
                                show Go _ _ _ (s₁.setTop (mkF m 102 #[.val (.int p1)] [])) _
                                refine Go.st (fun t k => XS.iconst X0.here hx rfl (hb hby d2_102) k) ?_
                                refine Go.st (fun t k => XS.goto X0.here hx rfl (pc0 := 103) (pc' := 107) rfl (hb hby d2_103) (by decide) (by decide) k) ?_
                                obtain ⟨fs, hr, hrun, hended, hW, hsame⟩ := X0.leave (v := some (.int (1 : Int32))) (fun h => by rw [Bd.returns] at h; cases h)
                                refine Go.fin (retN X0 hx (t := .boolean) Bd.returns (by simp) (hb hby d2_107) hr) hrun hended ⟨_, _, rfl, ?_, ⟨_, rfl⟩, hW, hsame.mono (by decide) (by decide)⟩
                                show Q2 Z p1 h0 n0 _ s₁.heap _
                                rw [e0]
                                exact ⟨(by unfold f2; simp only [if_neg hc1, if_neg hc2, if_neg hc3, if_neg hc4, if_neg hc5, if_neg hc6, if_neg hc7, if_neg hc8, if_neg hc9, if_neg hc10, if_neg hc11, if_neg hc12, if_neg hc13, if_neg hc14, if_pos hc15]), N0, rfl⟩
                              · refine Go.st (fun t k => XS.icmpNo X0.here hx rfl (hb hby d2_87) rfl (feq hc15).1 k) ?_
                                show Go _ _ _ (s₁.setTop (mkF m 90 #[.val (.int p1)] [])) _
                                refine Go.st (fun t k => XS.iloadN X0.here hx rfl (hb hby d2_90) rfl k) ?_
                                refine Go.st (fun t k => XS.bipush X0.here hx rfl (hb hby d2_91) k) ?_
                                by_cases hc16 : p1 = (38 : Int32)
                                · refine Go.st (fun t k => XS.icmpYes X0.here hx rfl (pc0 := 93) (pc' := 102) rfl (hb hby d2_93) rfl (teq hc16).1 (by decide) (by decide) k) ?_
                                  show Go _ _ _ (s₁.setTop (mkF m 102 #[.val (.int p1)] [])) _
                                  refine Go.st (fun t k => XS.iconst X0.here hx rfl (hb hby d2_102) k) ?_
                                  refine Go.st (fun t k => XS.goto X0.here hx rfl (pc0 := 103) (pc' := 107) rfl (hb hby d2_103) (by decide) (by decide) k) ?_
                                  obtain ⟨fs, hr, hrun, hended, hW, hsame⟩ := X0.leave (v := some (.int (1 : Int32))) (fun h => by rw [Bd.returns] at h; cases h)
                                  refine Go.fin (retN X0 hx (t := .boolean) Bd.returns (by simp) (hb hby d2_107) hr) hrun hended ⟨_, _, rfl, ?_, ⟨_, rfl⟩, hW, hsame.mono (by decide) (by decide)⟩
                                  show Q2 Z p1 h0 n0 _ s₁.heap _
                                  rw [e0]
                                  exact ⟨(by unfold f2; simp only [if_neg hc1, if_neg hc2, if_neg hc3, if_neg hc4, if_neg hc5, if_neg hc6, if_neg hc7, if_neg hc8, if_neg hc9, if_neg hc10, if_neg hc11, if_neg hc12, if_neg hc13, if_neg hc14, if_neg hc15, if_pos hc16]), N0, rfl⟩
                                · refine Go.st (fun t k => XS.icmpNo X0.here hx rfl (hb hby d2_93) rfl (feq hc16).1 k) ?_
                                  show Go _ _ _ (s₁.setTop (mkF m 96 #[.val (.int p1)] [])) _
                                  refine Go.st (fun t k => XS.iloadN X0.here hx rfl (hb hby d2_96) rfl k) ?_
                                  refine Go.st (fun t k => XS.bipush X0.here hx rfl (hb hby d2_97) k) ?_
                                  by_cases hc17 : p1 = (36 : Int32)
                                  · refine Go.st (fun t k => XS.icmpNo X0.here hx rfl (hb hby d2_99) rfl (teq hc17).2 k) ?_
                                    show Go _ _ _ (s₁.setTop (mkF m 102 #[.val (.int p1)] [])) _
                                    refine Go.st (fun t k => XS.iconst X0.here hx rfl (hb hby d2_102) k) ?_
                                    refine Go.st (fun t k => XS.goto X0.here hx rfl (pc0 := 103) (pc' := 107) rfl (hb hby d2_103) (by decide) (by decide) k) ?_
                                    obtain ⟨fs, hr, hrun, hended, hW, hsame⟩ := X0.leave (v := some (.int (1 : Int32))) (fun h => by rw [Bd.returns] at h; cases h)
                                    refine Go.fin (retN X0 hx (t := .boolean) Bd.returns (by simp) (hb hby d2_107) hr) hrun hended ⟨_, _, rfl, ?_, ⟨_, rfl⟩, hW, hsame.mono (by decide) (by decide)⟩
                                    show Q2 Z p1 h0 n0 _ s₁.heap _
                                    rw [e0]
                                    exact ⟨(by unfold f2; simp only [if_neg hc1, if_neg hc2, if_neg hc3, if_neg hc4, if_neg hc5, if_neg hc6, if_neg hc7, if_neg hc8, if_neg hc9, if_neg hc10, if_neg hc11, if_neg hc12, if_neg hc13, if_neg hc14, if_neg hc15, if_neg hc16, if_pos hc17]), N0, rfl⟩
                                  · refine Go.st (fun t k => XS.icmpYes X0.here hx rfl (pc0 := 99) (pc' := 106) rfl (hb hby d2_99) rfl (feq hc17).2 (by decide) (by decide) k) ?_
                                    show Go _ _ _ (s₁.setTop (mkF m 106 #[.val (.int p1)] [])) _
                                    refine Go.st (fun t k => XS.iconst X0.here hx rfl (hb hby d2_106) k) ?_
                                    obtain ⟨fs, hr, hrun, hended, hW, hsame⟩ := X0.leave (v := some (.int (0 : Int32))) (fun h => by rw [Bd.returns] at h; cases h)
                                    refine Go.fin (retN X0 hx (t := .boolean) Bd.returns (by simp) (hb hby d2_107) hr) hrun hended ⟨_, _, rfl, ?_, ⟨_, rfl⟩, hW, hsame.mono (by decide) (by decide)⟩
                                    show Q2 Z p1 h0 n0 _ s₁.heap _
                                    rw [e0]
                                    exact ⟨(by unfold f2; simp only [if_neg hc1, if_neg hc2, if_neg hc3, if_neg hc4, if_neg hc5, if_neg hc6, if_neg hc7, if_neg hc8, if_neg hc9, if_neg hc10, if_neg hc11, if_neg hc12, if_neg hc13, if_neg hc14, if_neg hc15, if_neg hc16, if_neg hc17]), N0, rfl⟩
theorem own_fin : ∀ n : Fin 128, f1 (Int32.ofInt (n.1 : Int)) = f2 (Int32.ofInt (n.1 : Int)) := by decide +kernel
theorem own_far {x : Int32} (h : x.toInt < 0 ∨ 128 ≤ x.toInt) (k : Int32) (n : Int) (hk : k.toInt = n) (hn : 0 ≤ n ∧ n < 128) : ¬ x = k := fun e => by rw [e, hk] at h; omega
theorem own_same (x : Int32) : f1 x = f2 x := by
  by_cases h : x.toInt < 0 ∨ 128 ≤ x.toInt
  · have e1 : f1 x = 0 := by
      unfold f1
      by_cases h0 : x < 0
      · rw [if_pos h0]
      · rw [if_neg h0]
        have : ¬ x < 128 := by
          rw [Int32.lt_iff_toInt_lt] at h0 ⊢
          rw [show (0 : Int32).toInt = 0 from rfl] at h0
          rw [show (128 : Int32).toInt = 128 from rfl]
          omega
        rw [if_neg this]
    rw [e1]
    unfold f2
    have g := fun k n hk hn => own_far h k n hk hn
    rw [if_neg (g 43 43 rfl (by decide)), if_neg (g 45 45 rfl (by decide)), if_neg (g 42 42 rfl (by decide)), if_neg (g 47 47 rfl (by decide)), if_neg (g 92 92 rfl (by decide)), if_neg (g 94 94 rfl (by decide)), if_neg (g 60 60 rfl (by decide)), if_neg (g 62 62 rfl (by decide)), if_neg (g 61 61 rfl (by decide)), if_neg (g 126 126 rfl (by decide)), if_neg (g 58 58 rfl (by decide)), if_neg (g 46 46 rfl (by decide)), if_neg (g 63 63 rfl (by decide)), if_neg (g 64 64 rfl (by decide)), if_neg (g 35 35 rfl (by decide)), if_neg (g 38 38 rfl (by decide)), if_neg (g 36 36 rfl (by decide))]
  · have h1 : 0 ≤ x.toInt ∧ x.toInt < 128 := by omega
    have e := own_fin ⟨x.toInt.toNat, by omega⟩
    have e2 : Int32.ofInt ((x.toInt.toNat : Nat) : Int) = x := by rw [Int.toNat_of_nonneg h1.1]; exact Int32.ofInt_toInt x
    simp only [e2] at e
    exact e

theorem wd1 {Z : State} {a0 : Array Value} (hw : ∀ d ∈ tables_1, d.before a0 Z = true) : (Jvm.Cond.methodLink "com/example/forel/forel/SyntaxIsGraphicPinLaw" (8 : Nat) ({ cls := "com/example/forel/forel/Syntax", name := "isGraphic", desc := "(I)Z" } : Jvm.MethodName)).before a0 Z = true := hw _ (List.mem_of_getElem? (i := 1) rfl)
theorem wd4 {Z : State} {a0 : Array Value} (hw : ∀ d ∈ tables_1, d.before a0 Z = true) : (Jvm.Cond.code ({ cls := "com/example/forel/forel/Syntax", name := "isGraphic", desc := "(I)Z" } : Jvm.MethodName) prog_84_method_9_code (1 : Nat) (Option.some Jvm.ClassFile.FieldType.boolean)).before a0 Z = true := hw _ (List.mem_of_getElem? (i := 4) rfl)
theorem wd3 {Z : State} {a0 : Array Value} (hw : ∀ d ∈ tables_1, d.before a0 Z = true) : (Jvm.Cond.initialized "com/example/forel/forel/Syntax").before a0 Z = true := hw _ (List.mem_of_getElem? (i := 3) rfl)
theorem pd0 : parseMethodDescriptor "(I)Z" = some ⟨[.int], some .boolean⟩ := by decide +kernel
theorem wd2 {Z : State} {a0 : Array Value} (hw : ∀ d ∈ tables_1, d.before a0 Z = true) : (Jvm.Cond.static ({ cls := "com/example/forel/forel/Syntax", name := "isGraphic", desc := "(I)Z" } : Jvm.MethodName)).before a0 Z = true := hw _ (List.mem_of_getElem? (i := 2) rfl)
theorem wd7 {Z : State} {a0 : Array Value} (hw : ∀ d ∈ tables_1, d.before a0 Z = true) : (Jvm.Cond.methodLink "com/example/forel/forel/SyntaxIsGraphicPinLaw" (14 : Nat) ({ cls := "com/example/forel/forel/SyntaxIsGraphicPinLaw", name := "expected", desc := "(I)Z" } : Jvm.MethodName)).before a0 Z = true := hw _ (List.mem_of_getElem? (i := 7) rfl)
theorem wd10 {Z : State} {a0 : Array Value} (hw : ∀ d ∈ tables_1, d.before a0 Z = true) : (Jvm.Cond.code ({ cls := "com/example/forel/forel/SyntaxIsGraphicPinLaw", name := "expected", desc := "(I)Z" } : Jvm.MethodName) method_2_code (1 : Nat) (Option.some Jvm.ClassFile.FieldType.boolean)).before a0 Z = true := hw _ (List.mem_of_getElem? (i := 10) rfl)
theorem wd9 {Z : State} {a0 : Array Value} (hw : ∀ d ∈ tables_1, d.before a0 Z = true) : (Jvm.Cond.initialized "com/example/forel/forel/SyntaxIsGraphicPinLaw").before a0 Z = true := hw _ (List.mem_of_getElem? (i := 9) rfl)
theorem wd8 {Z : State} {a0 : Array Value} (hw : ∀ d ∈ tables_1, d.before a0 Z = true) : (Jvm.Cond.static ({ cls := "com/example/forel/forel/SyntaxIsGraphicPinLaw", name := "expected", desc := "(I)Z" } : Jvm.MethodName)).before a0 Z = true := hw _ (List.mem_of_getElem? (i := 8) rfl)
theorem wd0 {Z : State} {a0 : Array Value} (hw : ∀ d ∈ tables_1, d.before a0 Z = true) : (Jvm.Cond.constant "com/example/forel/forel/SyntaxIsGraphicPinLaw" (7 : Nat) (65535 : Int32)).before a0 Z = true := hw _ (List.mem_of_getElem? (i := 0) rfl)
def Q0 (Z : State) (p1 : Int32) (p2 : Int32) (w_GRAPHIC : Addr) (k_G : ClassId) (h0 : Heap) (n0 : Nat) (v : Option Value) (h : Heap) (L : List Loc) : Prop := v = some (.int (1 : Int32)) ∧ Fr n0 L
theorem ef0 (m : MethodId) (x0 : Int32) (x1 : Int32) : entryFrame m #[(.int x0), (.int x1)] maxLocals = mkF m 0 #[.val (.int x0), .val (.int x1), .unset, .unset] [] := by first | (simp [entryFrame, mkF, argsToLocals, Value.category, maxLocals]; done) | rfl
set_option maxRecDepth 65536 in
set_option maxHeartbeats 16000000 in
theorem rm0 (l : Launch) (Z : State) (a0 : Array Value) (hw : ∀ d ∈ tables_1, d.before a0 Z = true) (ws : List Jvm.Cond) (p1 : Int32) (p2 : Int32) (w_GRAPHIC : Addr) (k_G : ClassId) (h0 : Heap) (n0 : Nat) (Z0 : n0 ≤ h0.size) (S_GRAPHIC : Sta Z h0 "com/example/forel/forel/Syntax" "GRAPHIC" "[Z" (.ref w_GRAPHIC)) (V_GRAPHIC : Arv Z h0 w_GRAPHIC k_G .boolean (128 : Int32) own_grv (.int (0 : Int32))) :
    MetFree l x (head1 (Jvm.Cond.code x code maxLocals ret :: ws) room_1) (fun a U => a = #[(.int p1), (.int p2)] ∧ Z.Warmed39 U.vm ∧ U.heap = h0) (fun _ _ _ _ _ => True) (fun _ U o U' => ∃ v L, o = .returned v ∧ Q0 Z p1 p2 w_GRAPHIC k_G h0 n0 v U'.heap L ∧ FrameEnd U o U' L 0 0) := by
  refine MetFree.of_bodySF (plainFor_of_name pn1) hisR ?_
  intro p e s m args below meth c s₁ Bd hml0 hP hK
  obtain ⟨rfl, hZ, hh⟩ := hP
  have hx := Bd.exec
  have hby := Bd.bytes
  have hml : c.maxLocals = 4 := hml0
  have hown : s.vm.findClass "com/example/forel/forel/SyntaxIsGraphicPinLaw" = some m.cls := findClass_of_methodNamed Bd.named
  have hnm := (name_of_methodNamed Bd.named Bd.method).1
  have X0 : Stand p l e room_1 s m #[(.int p1), (.int p2)] below meth c s₁ [] 0 0 := Stand.of_body Bd
  have e0 : s₁.heap = h0 := by rw [← hh, Bd.state]; rfl
  have N0 := Fr.nil n0
  have K0 : Keep h0 h0 [] := Keep.refl h0 _
  refine Go.st (P := fun o U' => ∃ v L, o = .returned v ∧ Q0 Z p1 p2 w_GRAPHIC k_G h0 n0 v U'.heap L ∧ FrameEnd s o U' L 0 0) (fun t k => castTop (ef0 m p1 p2) k) ?_
  show Go _ _ _ (s₁.setTop (mkF m 0 #[.val (.int p1), .val (.int p2), .unset, .unset] [])) _
  refine Go.st (fun t k => XS.iloadN X0.here hx rfl (hb hby at_0) rfl k) ?_
  refine Go.st (fun t k => XS.iconst X0.here hx rfl (hb hby at_1) k) ?_
  refine Go.st (fun t k => XS.iand X0.here hx rfl (hb hby at_2) rfl k) ?_
  show Go _ _ _ (s₁.setTop (mkF m 3 #[.val (.int p1), .val (.int p2), .unset, .unset] [(.int (p2 &&& (3 : Int32)))])) _
  refine Go.st (fun t k => XS.istoreN X0.here hx rfl (hb hby at_3) rfl (l' := #[.val (.int p1), .val (.int p2), .val (.int (p2 &&& (3 : Int32))), .unset]) rfl k) ?_
  refine Go.st (fun t k => XS.iloadN X0.here hx rfl (hb hby at_4) rfl k) ?_
  by_cases hc1 : (p2 &&& (3 : Int32)) = (0 : Int32)
  · refine Go.st (fun t k => XS.ifNo X0.here hx rfl (hb hby at_5) rfl ((if0 _ _).trans (teq hc1).2) k) ?_
    show Go _ _ _ (s₁.setTop (mkF m 8 #[.val (.int p1), .val (.int p2), .val (.int (p2 &&& (3 : Int32))), .unset] [])) _
    refine Go.st (fun t k => XS.iloadN X0.here hx rfl (hb hby at_8) rfl k) ?_
    refine Go.st (fun t k => XS.istoreN X0.here hx rfl (hb hby at_9) rfl (l' := #[.val (.int p1), .val (.int p2), .val (.int (p2 &&& (3 : Int32))), .val (.int p1)]) rfl k) ?_
    refine Go.st (fun t k => XS.goto X0.here hx rfl (pc0 := 10) (pc' := 45) rfl (hb hby at_10) (by decide) (by decide) k) ?_
    refine Go.st (fun t k => XS.iloadN X0.here hx rfl (hb hby at_45) rfl k) ?_
    obtain ⟨_, _, ⟨T2, L2, k2, n2⟩, -, X2, ⟨Lc2, hQ2, l2, y2, z2⟩, st2⟩ := Jvm.LawKit.callS X0 hx (y := (⟨"com/example/forel/forel/Syntax", "isGraphic", "(I)Z"⟩ : MethodName)) hown (mvT hZ (wd1 hw)) (mvT hZ (wd2 hw)) (mvT hZ (wd3 hw)) (mvT hZ (wd4 hw)) (by decide) (backOf (W := 0) (rm1 l Z a0 hw [] p1 w_GRAPHIC k_G h0 n0 Z0 S_GRAPHIC V_GRAPHIC) hZ (wd4 hw) (wd3 hw) (by decide) (by decide)) (g := (mkF m 46 #[.val (.int p1), .val (.int p2), .val (.int (p2 &&& (3 : Int32))), .val (.int p1)] [(.int p1)])) rfl (by rw [hml]; rfl) (argsL := [(.int p1)]) (rest := []) (lenOf pd0 rfl) rfl (by show 2 * 0 + _ ≤ _; exact Nat.le_of_eq rfl) (hb hby at_46) (fun _ _ => ⟨rfl, e0, (by decide : 0 + 0 ≤ _), (by decide : 0 + 0 ≤ _)⟩)
    dsimp only [Pt.U, Pt.locs, Pt.cells, Pt.slots] at X2 l2 y2 z2 st2 hQ2
    subst l2 y2 z2
    refine Go.st st2 ?_
    obtain ⟨rfl, N2q, e2⟩ := hQ2
    have N2 := Fr.app N0 N2q
    show Go _ _ _ (T2.setTop (mkF m 49 #[.val (.int p1), .val (.int p2), .val (.int (p2 &&& (3 : Int32))), .val (.int p1)] [(.int (f1 p1))])) _
    refine Go.st (fun t k => XS.iloadN X2.here hx rfl (hb hby at_49) rfl k) ?_
    obtain ⟨_, _, ⟨T3, L3, k3, n3⟩, -, X3, ⟨Lc3, hQ3, l3, y3, z3⟩, st3⟩ := Jvm.LawKit.callS X2 hx (y := (⟨"com/example/forel/forel/SyntaxIsGraphicPinLaw", "expected", "(I)Z"⟩ : MethodName)) hown (mvT hZ (wd7 hw)) (mvT hZ (wd8 hw)) (mvT hZ (wd9 hw)) (mvT hZ (wd10 hw)) (by decide) (backOf (W := 1) (rm2 l Z a0 hw [] p1 h0 n0 Z0) hZ (wd10 hw) (wd9 hw) (by decide) (by decide)) (g := (mkF m 50 #[.val (.int p1), .val (.int p2), .val (.int (p2 &&& (3 : Int32))), .val (.int p1)] [(.int p1), (.int (f1 p1))])) rfl (by rw [hml]; rfl) (argsL := [(.int p1)]) (rest := [(.int (f1 p1))]) (lenOf pd0 rfl) rfl (by show 2 * 0 + _ ≤ _; exact Nat.le_of_eq rfl) (hb hby at_50) (fun _ _ => ⟨rfl, e2, (by decide : 0 + 0 ≤ _), (by decide : 0 + 0 ≤ _)⟩)
    dsimp only [Pt.U, Pt.locs, Pt.cells, Pt.slots] at X3 l3 y3 z3 st3 hQ3
    subst l3 y3 z3
    refine Go.st st3 ?_
    obtain ⟨rfl, N3q, e3⟩ := hQ3
    have N3 := Fr.app N2 N3q
    show Go _ _ _ (T3.setTop (mkF m 53 #[.val (.int p1), .val (.int p2), .val (.int (p2 &&& (3 : Int32))), .val (.int p1)] [(.int (f2 p1)), (.int (f1 p1))])) _
    refine Go.st (fun t k => XS.icmpNo X3.here hx rfl (hb hby at_53) rfl (teq (own_same _)).2 k) ?_
    show Go _ _ _ (T3.setTop (mkF m 56 #[.val (.int p1), .val (.int p2), .val (.int (p2 &&& (3 : Int32))), .val (.int p1)] [])) _
    refine Go.st (fun t k => XS.iconst X3.here hx rfl (hb hby at_56) k) ?_
    refine Go.st (fun t k => XS.goto X3.here hx rfl (pc0 := 57) (pc' := 61) rfl (hb hby at_57) (by decide) (by decide) k) ?_
    obtain ⟨fs, hr, hrun, hended, hW, hsame⟩ := X3.leave (v := some (.int (1 : Int32))) (fun h => by rw [Bd.returns] at h; cases h)
    refine Go.fin (retN X3 hx (t := .boolean) Bd.returns (by simp) (hb hby at_61) hr) hrun hended ⟨_, _, rfl, ?_, ⟨_, rfl⟩, hW, hsame.mono (by decide) (by decide)⟩
    show Q0 Z p1 p2 w_GRAPHIC k_G h0 n0 _ T3.heap _
    rw [e3]
    exact ⟨rfl, N3⟩
  · refine Go.st (fun t k => XS.ifYes X0.here hx rfl (pc0 := 5) (pc' := 13) rfl (hb hby at_5) rfl ((if0 _ _).trans (feq hc1).2) (by decide) (by decide) k) ?_
    show Go _ _ _ (s₁.setTop (mkF m 13 #[.val (.int p1), .val (.int p2), .val (.int (p2 &&& (3 : Int32))), .unset] [])) _
    refine Go.st (fun t k => XS.iloadN X0.here hx rfl (hb hby at_13) rfl k) ?_
    refine Go.st (fun t k => XS.iconst X0.here hx rfl (hb hby at_14) k) ?_
    by_cases hc4 : (p2 &&& (3 : Int32)) = (1 : Int32)
    · refine Go.st (fun t k => XS.icmpNo X0.here hx rfl (hb hby at_15) rfl (teq hc4).2 k) ?_
      show Go _ _ _ (s₁.setTop (mkF m 18 #[.val (.int p1), .val (.int p2), .val (.int (p2 &&& (3 : Int32))), .unset] [])) _
      refine Go.st (fun t k => XS.iloadN X0.here hx rfl (hb hby at_18) rfl k) ?_
      refine Go.st (fun t k => XS.bipush X0.here hx rfl (hb hby at_19) k) ?_
      refine Go.st (fun t k => XS.iand X0.here hx rfl (hb hby at_21) rfl k) ?_
      show Go _ _ _ (s₁.setTop (mkF m 22 #[.val (.int p1), .val (.int p2), .val (.int (p2 &&& (3 : Int32))), .unset] [(.int (p1 &&& (127 : Int32)))])) _
      refine Go.st (fun t k => XS.istoreN X0.here hx rfl (hb hby at_22) rfl (l' := #[.val (.int p1), .val (.int p2), .val (.int (p2 &&& (3 : Int32))), .val (.int (p1 &&& (127 : Int32)))]) rfl k) ?_
      refine Go.st (fun t k => XS.goto X0.here hx rfl (pc0 := 23) (pc' := 45) rfl (hb hby at_23) (by decide) (by decide) k) ?_
      refine Go.st (fun t k => XS.iloadN X0.here hx rfl (hb hby at_45) rfl k) ?_
      obtain ⟨_, _, ⟨T5, L5, k5, n5⟩, -, X5, ⟨Lc5, hQ5, l5, y5, z5⟩, st5⟩ := Jvm.LawKit.callS X0 hx (y := (⟨"com/example/forel/forel/Syntax", "isGraphic", "(I)Z"⟩ : MethodName)) hown (mvT hZ (wd1 hw)) (mvT hZ (wd2 hw)) (mvT hZ (wd3 hw)) (mvT hZ (wd4 hw)) (by decide) (backOf (W := 0) (rm1 l Z a0 hw [] (p1 &&& (127 : Int32)) w_GRAPHIC k_G h0 n0 Z0 S_GRAPHIC V_GRAPHIC) hZ (wd4 hw) (wd3 hw) (by decide) (by decide)) (g := (mkF m 46 #[.val (.int p1), .val (.int p2), .val (.int (p2 &&& (3 : Int32))), .val (.int (p1 &&& (127 : Int32)))] [(.int (p1 &&& (127 : Int32)))])) rfl (by rw [hml]; rfl) (argsL := [(.int (p1 &&& (127 : Int32)))]) (rest := []) (lenOf pd0 rfl) rfl (by show 2 * 0 + _ ≤ _; exact Nat.le_of_eq rfl) (hb hby at_46) (fun _ _ => ⟨rfl, e0, (by decide : 0 + 0 ≤ _), (by decide : 0 + 0 ≤ _)⟩)
      dsimp only [Pt.U, Pt.locs, Pt.cells, Pt.slots] at X5 l5 y5 z5 st5 hQ5
      subst l5 y5 z5
      refine Go.st st5 ?_
      obtain ⟨rfl, N5q, e5⟩ := hQ5
      have N5 := Fr.app N0 N5q
      show Go _ _ _ (T5.setTop (mkF m 49 #[.val (.int p1), .val (.int p2), .val (.int (p2 &&& (3 : Int32))), .val (.int (p1 &&& (127 : Int32)))] [(.int (f1 (p1 &&& (127 : Int32))))])) _
      refine Go.st (fun t k => XS.iloadN X5.here hx rfl (hb hby at_49) rfl k) ?_
      obtain ⟨_, _, ⟨T6, L6, k6, n6⟩, -, X6, ⟨Lc6, hQ6, l6, y6, z6⟩, st6⟩ := Jvm.LawKit.callS X5 hx (y := (⟨"com/example/forel/forel/SyntaxIsGraphicPinLaw", "expected", "(I)Z"⟩ : MethodName)) hown (mvT hZ (wd7 hw)) (mvT hZ (wd8 hw)) (mvT hZ (wd9 hw)) (mvT hZ (wd10 hw)) (by decide) (backOf (W := 1) (rm2 l Z a0 hw [] (p1 &&& (127 : Int32)) h0 n0 Z0) hZ (wd10 hw) (wd9 hw) (by decide) (by decide)) (g := (mkF m 50 #[.val (.int p1), .val (.int p2), .val (.int (p2 &&& (3 : Int32))), .val (.int (p1 &&& (127 : Int32)))] [(.int (p1 &&& (127 : Int32))), (.int (f1 (p1 &&& (127 : Int32))))])) rfl (by rw [hml]; rfl) (argsL := [(.int (p1 &&& (127 : Int32)))]) (rest := [(.int (f1 (p1 &&& (127 : Int32))))]) (lenOf pd0 rfl) rfl (by show 2 * 0 + _ ≤ _; exact Nat.le_of_eq rfl) (hb hby at_50) (fun _ _ => ⟨rfl, e5, (by decide : 0 + 0 ≤ _), (by decide : 0 + 0 ≤ _)⟩)
      dsimp only [Pt.U, Pt.locs, Pt.cells, Pt.slots] at X6 l6 y6 z6 st6 hQ6
      subst l6 y6 z6
      refine Go.st st6 ?_
      obtain ⟨rfl, N6q, e6⟩ := hQ6
      have N6 := Fr.app N5 N6q
      show Go _ _ _ (T6.setTop (mkF m 53 #[.val (.int p1), .val (.int p2), .val (.int (p2 &&& (3 : Int32))), .val (.int (p1 &&& (127 : Int32)))] [(.int (f2 (p1 &&& (127 : Int32)))), (.int (f1 (p1 &&& (127 : Int32))))])) _
      refine Go.st (fun t k => XS.icmpNo X6.here hx rfl (hb hby at_53) rfl (teq (own_same _)).2 k) ?_
      show Go _ _ _ (T6.setTop (mkF m 56 #[.val (.int p1), .val (.int p2), .val (.int (p2 &&& (3 : Int32))), .val (.int (p1 &&& (127 : Int32)))] [])) _
      refine Go.st (fun t k => XS.iconst X6.here hx rfl (hb hby at_56) k) ?_
      refine Go.st (fun t k => XS.goto X6.here hx rfl (pc0 := 57) (pc' := 61) rfl (hb hby at_57) (by decide) (by decide) k) ?_
      obtain ⟨fs, hr, hrun, hended, hW, hsame⟩ := X6.leave (v := some (.int (1 : Int32))) (fun h => by rw [Bd.returns] at h; cases h)
      refine Go.fin (retN X6 hx (t := .boolean) Bd.returns (by simp) (hb hby at_61) hr) hrun hended ⟨_, _, rfl, ?_, ⟨_, rfl⟩, hW, hsame.mono (by decide) (by decide)⟩
      show Q0 Z p1 p2 w_GRAPHIC k_G h0 n0 _ T6.heap _
      rw [e6]
      exact ⟨rfl, N6⟩
    · refine Go.st (fun t k => XS.icmpYes X0.here hx rfl (pc0 := 15) (pc' := 26) rfl (hb hby at_15) rfl (feq hc4).2 (by decide) (by decide) k) ?_
      show Go _ _ _ (s₁.setTop (mkF m 26 #[.val (.int p1), .val (.int p2), .val (.int (p2 &&& (3 : Int32))), .unset] [])) _
      refine Go.st (fun t k => XS.iloadN X0.here hx rfl (hb hby at_26) rfl k) ?_
      refine Go.st (fun t k => XS.iconst X0.here hx rfl (hb hby at_27) k) ?_
      by_cases hc7 : (p2 &&& (3 : Int32)) = (2 : Int32)
      · refine Go.st (fun t k => XS.icmpNo X0.here hx rfl (hb hby at_28) rfl (teq hc7).2 k) ?_
        show Go _ _ _ (s₁.setTop (mkF m 31 #[.val (.int p1), .val (.int p2), .val (.int (p2 &&& (3 : Int32))), .unset] [])) _
        refine Go.st (fun t k => XS.iloadN X0.here hx rfl (hb hby at_31) rfl k) ?_
        refine Go.st (fun t k => XS.sipush X0.here hx rfl (hb hby at_32) k) ?_
        refine Go.st (fun t k => XS.iand X0.here hx rfl (hb hby at_35) rfl k) ?_
        show Go _ _ _ (s₁.setTop (mkF m 36 #[.val (.int p1), .val (.int p2), .val (.int (p2 &&& (3 : Int32))), .unset] [(.int (p1 &&& (255 : Int32)))])) _
        refine Go.st (fun t k => XS.istoreN X0.here hx rfl (hb hby at_36) rfl (l' := #[.val (.int p1), .val (.int p2), .val (.int (p2 &&& (3 : Int32))), .val (.int (p1 &&& (255 : Int32)))]) rfl k) ?_
        refine Go.st (fun t k => XS.goto X0.here hx rfl (pc0 := 37) (pc' := 45) rfl (hb hby at_37) (by decide) (by decide) k) ?_
        refine Go.st (fun t k => XS.iloadN X0.here hx rfl (hb hby at_45) rfl k) ?_
        obtain ⟨_, _, ⟨T8, L8, k8, n8⟩, -, X8, ⟨Lc8, hQ8, l8, y8, z8⟩, st8⟩ := Jvm.LawKit.callS X0 hx (y := (⟨"com/example/forel/forel/Syntax", "isGraphic", "(I)Z"⟩ : MethodName)) hown (mvT hZ (wd1 hw)) (mvT hZ (wd2 hw)) (mvT hZ (wd3 hw)) (mvT hZ (wd4 hw)) (by decide) (backOf (W := 0) (rm1 l Z a0 hw [] (p1 &&& (255 : Int32)) w_GRAPHIC k_G h0 n0 Z0 S_GRAPHIC V_GRAPHIC) hZ (wd4 hw) (wd3 hw) (by decide) (by decide)) (g := (mkF m 46 #[.val (.int p1), .val (.int p2), .val (.int (p2 &&& (3 : Int32))), .val (.int (p1 &&& (255 : Int32)))] [(.int (p1 &&& (255 : Int32)))])) rfl (by rw [hml]; rfl) (argsL := [(.int (p1 &&& (255 : Int32)))]) (rest := []) (lenOf pd0 rfl) rfl (by show 2 * 0 + _ ≤ _; exact Nat.le_of_eq rfl) (hb hby at_46) (fun _ _ => ⟨rfl, e0, (by decide : 0 + 0 ≤ _), (by decide : 0 + 0 ≤ _)⟩)
        dsimp only [Pt.U, Pt.locs, Pt.cells, Pt.slots] at X8 l8 y8 z8 st8 hQ8
        subst l8 y8 z8
        refine Go.st st8 ?_
        obtain ⟨rfl, N8q, e8⟩ := hQ8
        have N8 := Fr.app N0 N8q
        show Go _ _ _ (T8.setTop (mkF m 49 #[.val (.int p1), .val (.int p2), .val (.int (p2 &&& (3 : Int32))), .val (.int (p1 &&& (255 : Int32)))] [(.int (f1 (p1 &&& (255 : Int32))))])) _
        refine Go.st (fun t k => XS.iloadN X8.here hx rfl (hb hby at_49) rfl k) ?_
        obtain ⟨_, _, ⟨T9, L9, k9, n9⟩, -, X9, ⟨Lc9, hQ9, l9, y9, z9⟩, st9⟩ := Jvm.LawKit.callS X8 hx (y := (⟨"com/example/forel/forel/SyntaxIsGraphicPinLaw", "expected", "(I)Z"⟩ : MethodName)) hown (mvT hZ (wd7 hw)) (mvT hZ (wd8 hw)) (mvT hZ (wd9 hw)) (mvT hZ (wd10 hw)) (by decide) (backOf (W := 1) (rm2 l Z a0 hw [] (p1 &&& (255 : Int32)) h0 n0 Z0) hZ (wd10 hw) (wd9 hw) (by decide) (by decide)) (g := (mkF m 50 #[.val (.int p1), .val (.int p2), .val (.int (p2 &&& (3 : Int32))), .val (.int (p1 &&& (255 : Int32)))] [(.int (p1 &&& (255 : Int32))), (.int (f1 (p1 &&& (255 : Int32))))])) rfl (by rw [hml]; rfl) (argsL := [(.int (p1 &&& (255 : Int32)))]) (rest := [(.int (f1 (p1 &&& (255 : Int32))))]) (lenOf pd0 rfl) rfl (by show 2 * 0 + _ ≤ _; exact Nat.le_of_eq rfl) (hb hby at_50) (fun _ _ => ⟨rfl, e8, (by decide : 0 + 0 ≤ _), (by decide : 0 + 0 ≤ _)⟩)
        dsimp only [Pt.U, Pt.locs, Pt.cells, Pt.slots] at X9 l9 y9 z9 st9 hQ9
        subst l9 y9 z9
        refine Go.st st9 ?_
        obtain ⟨rfl, N9q, e9⟩ := hQ9
        have N9 := Fr.app N8 N9q
        show Go _ _ _ (T9.setTop (mkF m 53 #[.val (.int p1), .val (.int p2), .val (.int (p2 &&& (3 : Int32))), .val (.int (p1 &&& (255 : Int32)))] [(.int (f2 (p1 &&& (255 : Int32)))), (.int (f1 (p1 &&& (255 : Int32))))])) _
        refine Go.st (fun t k => XS.icmpNo X9.here hx rfl (hb hby at_53) rfl (teq (own_same _)).2 k) ?_
        show Go _ _ _ (T9.setTop (mkF m 56 #[.val (.int p1), .val (.int p2), .val (.int (p2 &&& (3 : Int32))), .val (.int (p1 &&& (255 : Int32)))] [])) _
        refine Go.st (fun t k => XS.iconst X9.here hx rfl (hb hby at_56) k) ?_
        refine Go.st (fun t k => XS.goto X9.here hx rfl (pc0 := 57) (pc' := 61) rfl (hb hby at_57) (by decide) (by decide) k) ?_
        obtain ⟨fs, hr, hrun, hended, hW, hsame⟩ := X9.leave (v := some (.int (1 : Int32))) (fun h => by rw [Bd.returns] at h; cases h)
        refine Go.fin (retN X9 hx (t := .boolean) Bd.returns (by simp) (hb hby at_61) hr) hrun hended ⟨_, _, rfl, ?_, ⟨_, rfl⟩, hW, hsame.mono (by decide) (by decide)⟩
        show Q0 Z p1 p2 w_GRAPHIC k_G h0 n0 _ T9.heap _
        rw [e9]
        exact ⟨rfl, N9⟩
      · refine Go.st (fun t k => XS.icmpYes X0.here hx rfl (pc0 := 28) (pc' := 40) rfl (hb hby at_28) rfl (feq hc7).2 (by decide) (by decide) k) ?_
        show Go _ _ _ (s₁.setTop (mkF m 40 #[.val (.int p1), .val (.int p2), .val (.int (p2 &&& (3 : Int32))), .unset] [])) _
        refine Go.st (fun t k => XS.iloadN X0.here hx rfl (hb hby at_40) rfl k) ?_
        refine Go.st (fun t k => X0.ldcInt hx hown (mvT hZ (wd0 hw)) (g := (mkF m 41 #[.val (.int p1), .val (.int p2), .val (.int (p2 &&& (3 : Int32))), .unset] [(.int p1)])) rfl (hb hby at_41) _ k) ?_
        show Go _ _ _ (s₁.setTop (mkF m 43 #[.val (.int p1), .val (.int p2), .val (.int (p2 &&& (3 : Int32))), .unset] [(.int 65535), (.int p1)])) _
        refine Go.st (fun t k => XS.iand X0.here hx rfl (hb hby at_43) rfl k) ?_
        show Go _ _ _ (s₁.setTop (mkF m 44 #[.val (.int p1), .val (.int p2), .val (.int (p2 &&& (3 : Int32))), .unset] [(.int (p1 &&& (65535 : Int32)))])) _
        refine Go.st (fun t k => XS.istoreN X0.here hx rfl (hb hby at_44) rfl (l' := #[.val (.int p1), .val (.int p2), .val (.int (p2 &&& (3 : Int32))), .val (.int (p1 &&& (65535 : Int32)))]) rfl k) ?_
        refine Go.st (fun t k => XS.iloadN X0.here hx rfl (hb hby at_45) rfl k) ?_
        obtain ⟨_, _, ⟨T10, L10, k10, n10⟩, -, X10, ⟨Lc10, hQ10, l10, y10, z10⟩, st10⟩ := Jvm.LawKit.callS X0 hx (y := (⟨"com/example/forel/forel/Syntax", "isGraphic", "(I)Z"⟩ : MethodName)) hown (mvT hZ (wd1 hw)) (mvT hZ (wd2 hw)) (mvT hZ (wd3 hw)) (mvT hZ (wd4 hw)) (by decide) (backOf (W := 0) (rm1 l Z a0 hw [] (p1 &&& (65535 : Int32)) w_GRAPHIC k_G h0 n0 Z0 S_GRAPHIC V_GRAPHIC) hZ (wd4 hw) (wd3 hw) (by decide) (by decide)) (g := (mkF m 46 #[.val (.int p1), .val (.int p2), .val (.int (p2 &&& (3 : Int32))), .val (.int (p1 &&& (65535 : Int32)))] [(.int (p1 &&& (65535 : Int32)))])) rfl (by rw [hml]; rfl) (argsL := [(.int (p1 &&& (65535 : Int32)))]) (rest := []) (lenOf pd0 rfl) rfl (by show 2 * 0 + _ ≤ _; exact Nat.le_of_eq rfl) (hb hby at_46) (fun _ _ => ⟨rfl, e0, (by decide : 0 + 0 ≤ _), (by decide : 0 + 0 ≤ _)⟩)
        dsimp only [Pt.U, Pt.locs, Pt.cells, Pt.slots] at X10 l10 y10 z10 st10 hQ10
        subst l10 y10 z10
        refine Go.st st10 ?_
        obtain ⟨rfl, N10q, e10⟩ := hQ10
        have N10 := Fr.app N0 N10q
        show Go _ _ _ (T10.setTop (mkF m 49 #[.val (.int p1), .val (.int p2), .val (.int (p2 &&& (3 : Int32))), .val (.int (p1 &&& (65535 : Int32)))] [(.int (f1 (p1 &&& (65535 : Int32))))])) _
        refine Go.st (fun t k => XS.iloadN X10.here hx rfl (hb hby at_49) rfl k) ?_
        obtain ⟨_, _, ⟨T11, L11, k11, n11⟩, -, X11, ⟨Lc11, hQ11, l11, y11, z11⟩, st11⟩ := Jvm.LawKit.callS X10 hx (y := (⟨"com/example/forel/forel/SyntaxIsGraphicPinLaw", "expected", "(I)Z"⟩ : MethodName)) hown (mvT hZ (wd7 hw)) (mvT hZ (wd8 hw)) (mvT hZ (wd9 hw)) (mvT hZ (wd10 hw)) (by decide) (backOf (W := 1) (rm2 l Z a0 hw [] (p1 &&& (65535 : Int32)) h0 n0 Z0) hZ (wd10 hw) (wd9 hw) (by decide) (by decide)) (g := (mkF m 50 #[.val (.int p1), .val (.int p2), .val (.int (p2 &&& (3 : Int32))), .val (.int (p1 &&& (65535 : Int32)))] [(.int (p1 &&& (65535 : Int32))), (.int (f1 (p1 &&& (65535 : Int32))))])) rfl (by rw [hml]; rfl) (argsL := [(.int (p1 &&& (65535 : Int32)))]) (rest := [(.int (f1 (p1 &&& (65535 : Int32))))]) (lenOf pd0 rfl) rfl (by show 2 * 0 + _ ≤ _; exact Nat.le_of_eq rfl) (hb hby at_50) (fun _ _ => ⟨rfl, e10, (by decide : 0 + 0 ≤ _), (by decide : 0 + 0 ≤ _)⟩)
        dsimp only [Pt.U, Pt.locs, Pt.cells, Pt.slots] at X11 l11 y11 z11 st11 hQ11
        subst l11 y11 z11
        refine Go.st st11 ?_
        obtain ⟨rfl, N11q, e11⟩ := hQ11
        have N11 := Fr.app N10 N11q
        show Go _ _ _ (T11.setTop (mkF m 53 #[.val (.int p1), .val (.int p2), .val (.int (p2 &&& (3 : Int32))), .val (.int (p1 &&& (65535 : Int32)))] [(.int (f2 (p1 &&& (65535 : Int32)))), (.int (f1 (p1 &&& (65535 : Int32))))])) _
        refine Go.st (fun t k => XS.icmpNo X11.here hx rfl (hb hby at_53) rfl (teq (own_same _)).2 k) ?_
        show Go _ _ _ (T11.setTop (mkF m 56 #[.val (.int p1), .val (.int p2), .val (.int (p2 &&& (3 : Int32))), .val (.int (p1 &&& (65535 : Int32)))] [])) _
        refine Go.st (fun t k => XS.iconst X11.here hx rfl (hb hby at_56) k) ?_
        refine Go.st (fun t k => XS.goto X11.here hx rfl (pc0 := 57) (pc' := 61) rfl (hb hby at_57) (by decide) (by decide) k) ?_
        obtain ⟨fs, hr, hrun, hended, hW, hsame⟩ := X11.leave (v := some (.int (1 : Int32))) (fun h => by rw [Bd.returns] at h; cases h)
        refine Go.fin (retN X11 hx (t := .boolean) Bd.returns (by simp) (hb hby at_61) hr) hrun hended ⟨_, _, rfl, ?_, ⟨_, rfl⟩, hW, hsame.mono (by decide) (by decide)⟩
        show Q0 Z p1 p2 w_GRAPHIC k_G h0 n0 _ T11.heap _
        rw [e11]
        exact ⟨rfl, N11⟩
theorem own_len {args : Array Value} {s : State} {t : Term} {a : Addr} {cl : Cell} {ty : FieldType} {k : Int32} (ev : t.eval args s none [] s = some (.ref a)) (A : Arr s s.heap a cl ty) (h : (Jvm.Cond.eq (.length t) (.int k)).value args s none s [] = some true) : cl.slots.size < 2 ^ 31 ∧ cl.slots.size.toInt32 = k := by
  have e := own_eqi h
  have ha := A.fin (Vm.Alike.refl _)
  by_cases hn : cl.slots.size < 2 ^ 31
  · rw [len_f ev ha hn] at e
    exact ⟨hn, Value.int.inj (Option.some.inj e)⟩
  · exact absurd e (by simp [Term.eval, ev, ha, show ¬ cl.slots.size < 2147483648 from hn])
theorem own_eqr {args : Array Value} {s : State} {t u : Term} {x : Addr} (hu : u.eval args s none [] s = some (.ref x)) (h : (Jvm.Cond.eq t u).value args s none s [] = some true) : t.eval args s none [] s = some (.ref x) := by
  obtain ⟨v, y, e1, e2, k1, k2⟩ := cmp_v (Or.inl h)
  cases hu.symm.trans e2
  cases v <;> simp [Cond.value, e1, hu] at h
  rw [e1, h]
theorem own_elr {args : Array Value} {s : State} {t u : Term} {a x : Addr} {cl : Cell} {ty : FieldType} {j : Int32} (ev : t.eval args s none [] s = some (.ref a)) (A : Arr s s.heap a cl ty) (hu : u.eval args s none [] s = some (.ref x)) (h : (Jvm.Cond.eq (.elem t (.int j)) u).value args s none s [] = some true) : cl.slots[j.toNatClampNeg]? = some (.ref x) :=
  (elem_in (own_eqr hu h) ev (Term.int_eval j) A.1).2
theorem own_eli {args : Array Value} {s : State} {t : Term} {a : Addr} {cl : Cell} {ty : FieldType} {j k : Int32} (ev : t.eval args s none [] s = some (.ref a)) (A : Arr s s.heap a cl ty) (h : (Jvm.Cond.eq (.elem t (.int j)) (.int k)).value args s none s [] = some true) : atv cl j = k :=
  atv_of (elem_in (own_eqi h) ev (Term.int_eval j) A.1).2
theorem own_tabArv {s : State} {a : Addr} {cl : Cell} {ty : FieldType} {z : Int32} (hfit : Fit s) (T : Tab s s.heap a cl ty z) (q : cl.slots.size < 2 ^ 31) (e : cl.slots.size.toInt32 = z) (xs : List Int32) (h : ∀ j : Int32, ¬ j < 0 → j < z → atv cl j = own_at xs j) : Arv s s.heap a cl.cls ty z (xs.map Value.int) (.int 0) := by
  have hk : ∀ k, k < cl.slots.size → (Nat.toInt32 k).toNatClampNeg = k ∧ cl.slots[k]? = some ((xs.map Value.int).getD k (.int 0)) := by
    intro k hk
    have e1 : (Nat.toInt32 k).toNatClampNeg = k := by simp only [Int32.toNatClampNeg, len_toInt (Nat.lt_trans hk q)]; rfl
    have hi := idx_in hk q
    have g := T.2.2.2 (Nat.toInt32 k) hi
    have hlt : Nat.toInt32 k < z := by
      rw [← e, Int32.lt_iff_toInt_lt, len_toInt (Nat.lt_trans hk q), len_toInt q]
      omega
    rw [h _ (fun y => hi (Or.inl y)) hlt, ← own_atv, e1] at g
    exact ⟨e1, g⟩
  refine ⟨cl, T.1, rfl, T.2.1, T.2.2.1, fun k q' => (hk k q').2, fun k q' => ?_⟩
  exact elem_fits (j := Nat.toInt32 k) hfit T.1 (idx_in q' q) (by rw [(hk k q').1]; exact (hk k q').2)
theorem own_all2 {args : Array Value} {s : State} {t : Term} {a : Addr} {cl : Cell} {ty : FieldType} {z hi v : Int32} (et : ∀ idx, t.eval args s none idx s = some (.ref a)) (T : Tab s s.heap a cl ty z) (h : (Jvm.Cond.all t (.or (.le (.int hi) (.index 0)) (.eq (.elem t (.index 0)) (.int v)))).value args s none s [] = some true) (j : Int32) (h0 : ¬ j < 0) (h1 : j < z) : ¬ j < hi ∨ atv cl j = v := by
  have ha := T.1.fin (Vm.Alike.refl _)
  have hin : ¬ (j < 0 ∨ cl.slots.size ≤ j.toNatClampNeg) := inb_of T.2.1 ⟨h0, h1⟩
  have c := Cond.all_elim (et []) ha h j.toNatClampNeg (Nat.lt_of_not_le fun x => hin (Or.inr x))
  have e1 : (Term.elem t (.index 0)).eval args s none [j.toNatClampNeg] s = some (.int (atv cl j)) := (elem_f (et _) (idx_at h0) ha h0).trans (T.2.2.2 j hin)
  have v1 : (Jvm.Cond.le (.int hi) (.index 0)).value args s none s [j.toNatClampNeg] = some (decide (hi ≤ j)) := Cond.le_ints (Term.int_eval hi) (idx_at h0)
  have v2 : (Jvm.Cond.eq (.elem t (.index 0)) (.int v)).value args s none s [j.toNatClampNeg] = some (decide (atv cl j = v)) := Cond.eq_ints e1 (Term.int_eval v)
  rcases or_e2 v1 v2 c with q | q
  · exact Or.inl (Int32.not_lt.mpr q)
  · exact Or.inr q
theorem own_all3 {args : Array Value} {s : State} {t : Term} {a : Addr} {cl : Cell} {ty : FieldType} {z lo hi v : Int32} (et : ∀ idx, t.eval args s none idx s = some (.ref a)) (T : Tab s s.heap a cl ty z) (h : (Jvm.Cond.all t (.or (.lt (.index 0) (.int lo)) (.or (.le (.int hi) (.index 0)) (.eq (.elem t (.index 0)) (.int v))))).value args s none s [] = some true) (j : Int32) (h0 : ¬ j < 0) (h1 : j < z) : j < lo ∨ ¬ j < hi ∨ atv cl j = v := by
  have ha := T.1.fin (Vm.Alike.refl _)
  have hin : ¬ (j < 0 ∨ cl.slots.size ≤ j.toNatClampNeg) := inb_of T.2.1 ⟨h0, h1⟩
  have c := Cond.all_elim (et []) ha h j.toNatClampNeg (Nat.lt_of_not_le fun x => hin (Or.inr x))
  have e1 : (Term.elem t (.index 0)).eval args s none [j.toNatClampNeg] s = some (.int (atv cl j)) := (elem_f (et _) (idx_at h0) ha h0).trans (T.2.2.2 j hin)
  have v1 : (Jvm.Cond.lt (.index 0) (.int lo)).value args s none s [j.toNatClampNeg] = some (decide (j < lo)) := Cond.lt_ints (idx_at h0) (Term.int_eval lo)
  have v2 : (Jvm.Cond.le (.int hi) (.index 0)).value args s none s [j.toNatClampNeg] = some (decide (hi ≤ j)) := Cond.le_ints (Term.int_eval hi) (idx_at h0)
  have v3 : (Jvm.Cond.eq (.elem t (.index 0)) (.int v)).value args s none s [j.toNatClampNeg] = some (decide (atv cl j = v)) := Cond.eq_ints e1 (Term.int_eval v)
  exact or3 c v1 v2 v3
theorem own_l48 {args : Array Value} {s : State} {t : Term} {cl : Cell} {j : Int32} {k : Int64} (h0 : ¬ j < 0) (e1 : (Term.elem t (.index 0)).eval args s none [j.toNatClampNeg] s = some (.int (atv cl j))) : (Jvm.Cond.eq (.op1 .i2l (.elem t (.index 0))) (.op2 .ladd (.op1 .i2l (.index 0)) (.long k))).value args s none s [j.toNatClampNeg] = some (decide ((atv cl j).toInt64 = j.toInt64 + k)) :=
  eq_L (i2l_at e1) ((op2_f (i2l_at (idx_at h0)) rfl).trans rfl)
theorem own_allA {args : Array Value} {s : State} {t : Term} {a : Addr} {cl : Cell} {ty : FieldType} {z hi : Int32} {k : Int64} (et : ∀ idx, t.eval args s none idx s = some (.ref a)) (T : Tab s s.heap a cl ty z) (h : (Jvm.Cond.all t (.or (.le (.int hi) (.index 0)) (.eq (.op1 .i2l (.elem t (.index 0))) (.op2 .ladd (.op1 .i2l (.index 0)) (.long k))))).value args s none s [] = some true) (j : Int32) (h0 : ¬ j < 0) (h1 : j < z) (h2 : j < hi) : (atv cl j).toInt64 = j.toInt64 + k := by
  have ha := T.1.fin (Vm.Alike.refl _)
  have hin : ¬ (j < 0 ∨ cl.slots.size ≤ j.toNatClampNeg) := inb_of T.2.1 ⟨h0, h1⟩
  have c := Cond.all_elim (et []) ha h j.toNatClampNeg (Nat.lt_of_not_le fun x => hin (Or.inr x))
  have e1 : (Term.elem t (.index 0)).eval args s none [j.toNatClampNeg] s = some (.int (atv cl j)) := (elem_f (et _) (idx_at h0) ha h0).trans (T.2.2.2 j hin)
  rcases or_e2 (Cond.le_ints (Term.int_eval hi) (idx_at h0)) (own_l48 h0 e1) c with q | q
  · exact absurd h2 (Int32.not_lt.mpr q)
  · exact q
theorem own_allB {args : Array Value} {s : State} {t : Term} {a : Addr} {cl : Cell} {ty : FieldType} {z lo : Int32} {k : Int64} (et : ∀ idx, t.eval args s none idx s = some (.ref a)) (T : Tab s s.heap a cl ty z) (h : (Jvm.Cond.all t (.or (.lt (.index 0) (.int lo)) (.eq (.op1 .i2l (.elem t (.index 0))) (.op2 .ladd (.op1 .i2l (.index 0)) (.long k))))).value args s none s [] = some true) (j : Int32) (h0 : ¬ j < 0) (h1 : j < z) (h2 : ¬ j < lo) : (atv cl j).toInt64 = j.toInt64 + k := by
  have ha := T.1.fin (Vm.Alike.refl _)
  have hin : ¬ (j < 0 ∨ cl.slots.size ≤ j.toNatClampNeg) := inb_of T.2.1 ⟨h0, h1⟩
  have c := Cond.all_elim (et []) ha h j.toNatClampNeg (Nat.lt_of_not_le fun x => hin (Or.inr x))
  have e1 : (Term.elem t (.index 0)).eval args s none [j.toNatClampNeg] s = some (.int (atv cl j)) := (elem_f (et _) (idx_at h0) ha h0).trans (T.2.2.2 j hin)
  rcases or_e2 (Cond.lt_ints (idx_at h0) (Term.int_eval lo)) (own_l48 h0 e1) c with q | q
  · exact absurd q h2
  · exact q

theorem own_rng (lo hi : Nat) (v : Int32) (hd : ∀ k : Fin 128, lo ≤ k.1 → k.1 < hi → own_at own_gr (Int32.ofInt (k.1 : Int)) = v) (j : Int32) (h0 : 0 ≤ j.toInt ∧ j.toInt < 128) (h1 : (lo : Int) ≤ j.toInt ∧ j.toInt < hi) : own_at own_gr j = v := by
  have := hd ⟨j.toInt.toNat, by omega⟩ (by simp only; omega) (by simp only; omega)
  rw [Int.toNat_of_nonneg h0.1, Int32.ofInt_toInt] at this
  exact this
theorem own_grval (x : Int32 → Int32) (r0 : ∀ j : Int32, ¬ j < 0 → j < (128 : Int32) → ¬ j < (35 : Int32) ∨ x j = (0 : Int32)) (r1 : ∀ j : Int32, ¬ j < 0 → j < (128 : Int32) → j < (48 : Int32) ∨ ¬ j < (58 : Int32) ∨ x j = (0 : Int32)) (r2 : ∀ j : Int32, ¬ j < 0 → j < (128 : Int32) → j < (60 : Int32) ∨ ¬ j < (65 : Int32) ∨ x j = (1 : Int32)) (r3 : ∀ j : Int32, ¬ j < 0 → j < (128 : Int32) → j < (65 : Int32) ∨ ¬ j < (92 : Int32) ∨ x j = (0 : Int32)) (r4 : ∀ j : Int32, ¬ j < 0 → j < (128 : Int32) → j < (95 : Int32) ∨ ¬ j < (126 : Int32) ∨ x j = (0 : Int32)) (e35 : x (35 : Int32) = (1 : Int32)) (e36 : x (36 : Int32) = (1 : Int32)) (e37 : x (37 : Int32) = (0 : Int32)) (e38 : x (38 : Int32) = (1 : Int32)) (e39 : x (39 : Int32) = (0 : Int32)) (e40 : x (40 : Int32) = (0 : Int32)) (e41 : x (41 : Int32) = (0 : Int32)) (e42 : x (42 : Int32) = (1 : Int32)) (e43 : x (43 : Int32) = (1 : Int32)) (e44 : x (44 : Int32) = (0 : Int32)) (e45 : x (45 : Int32) = (1 : Int32)) (e46 : x (46 : Int32) = (1 : Int32)) (e47 : x (47 : Int32) = (1 : Int32)) (e58 : x (58 : Int32) = (1 : Int32)) (e59 : x (59 : Int32) = (0 : Int32)) (e92 : x (92 : Int32) = (1 : Int32)) (e93 : x (93 : Int32) = (0 : Int32)) (e94 : x (94 : Int32) = (1 : Int32)) (e126 : x (126 : Int32) = (1 : Int32)) (e127 : x (127 : Int32) = (0 : Int32)) : ∀ j : Int32, ¬ j < 0 → j < (128 : Int32) → x j = own_at own_gr j := by
  intro j h0 h1
  have b0 := h0; have b1 := h1
  rw [Int32.lt_iff_toInt_lt, show (0 : Int32).toInt = 0 from rfl] at b0
  rw [Int32.lt_iff_toInt_lt, show (128 : Int32).toInt = 128 from rfl] at b1
  by_cases q35 : j = (35 : Int32)
  · subst q35; exact e35.trans (by decide)
  by_cases q36 : j = (36 : Int32)
  · subst q36; exact e36.trans (by decide)
  by_cases q37 : j = (37 : Int32)
  · subst q37; exact e37.trans (by decide)
  by_cases q38 : j = (38 : Int32)
  · subst q38; exact e38.trans (by decide)
  by_cases q39 : j = (39 : Int32)
  · subst q39; exact e39.trans (by decide)
  by_cases q40 : j = (40 : Int32)
  · subst q40; exact e40.trans (by decide)
  by_cases q41 : j = (41 : Int32)
  · subst q41; exact e41.trans (by decide)
  by_cases q42 : j = (42 : Int32)
  · subst q42; exact e42.trans (by decide)
  by_cases q43 : j = (43 : Int32)
  · subst q43; exact e43.trans (by decide)
  by_cases q44 : j = (44 : Int32)
  · subst q44; exact e44.trans (by decide)
  by_cases q45 : j = (45 : Int32)
  · subst q45; exact e45.trans (by decide)
  by_cases q46 : j = (46 : Int32)
  · subst q46; exact e46.trans (by decide)
  by_cases q47 : j = (47 : Int32)
  · subst q47; exact e47.trans (by decide)
  by_cases q58 : j = (58 : Int32)
  · subst q58; exact e58.trans (by decide)
  by_cases q59 : j = (59 : Int32)
  · subst q59; exact e59.trans (by decide)
  by_cases q92 : j = (92 : Int32)
  · subst q92; exact e92.trans (by decide)
  by_cases q93 : j = (93 : Int32)
  · subst q93; exact e93.trans (by decide)
  by_cases q94 : j = (94 : Int32)
  · subst q94; exact e94.trans (by decide)
  by_cases q126 : j = (126 : Int32)
  · subst q126; exact e126.trans (by decide)
  by_cases q127 : j = (127 : Int32)
  · subst q127; exact e127.trans (by decide)
  have n35 := own_ne32 (a := 35) rfl q35
  have n36 := own_ne32 (a := 36) rfl q36
  have n37 := own_ne32 (a := 37) rfl q37
  have n38 := own_ne32 (a := 38) rfl q38
  have n39 := own_ne32 (a := 39) rfl q39
  have n40 := own_ne32 (a := 40) rfl q40
  have n41 := own_ne32 (a := 41) rfl q41
  have n42 := own_ne32 (a := 42) rfl q42
  have n43 := own_ne32 (a := 43) rfl q43
  have n44 := own_ne32 (a := 44) rfl q44
  have n45 := own_ne32 (a := 45) rfl q45
  have n46 := own_ne32 (a := 46) rfl q46
  have n47 := own_ne32 (a := 47) rfl q47
  have n58 := own_ne32 (a := 58) rfl q58
  have n59 := own_ne32 (a := 59) rfl q59
  have n92 := own_ne32 (a := 92) rfl q92
  have n93 := own_ne32 (a := 93) rfl q93
  have n94 := own_ne32 (a := 94) rfl q94
  have n126 := own_ne32 (a := 126) rfl q126
  have n127 := own_ne32 (a := 127) rfl q127
  have hall : (0 ≤ j.toInt ∧ j.toInt < 35) ∨ (48 ≤ j.toInt ∧ j.toInt < 58) ∨ (60 ≤ j.toInt ∧ j.toInt < 65) ∨ (65 ≤ j.toInt ∧ j.toInt < 92) ∨ (95 ≤ j.toInt ∧ j.toInt < 126) := by omega
  rcases hall with h | h | h | h | h
  · rw [own_rng 0 35 0 (by decide +kernel) j (by omega) h]
    have c1 : j < (35 : Int32) := by rw [Int32.lt_iff_toInt_lt]; exact h.2
    rcases r0 j h0 h1 with y | y
    · exact absurd c1 y
    · exact y
  · rw [own_rng 48 58 0 (by decide +kernel) j (by omega) h]
    have c1 : j < (58 : Int32) := by rw [Int32.lt_iff_toInt_lt]; exact h.2
    have c0 : ¬ j < (48 : Int32) := by rw [Int32.lt_iff_toInt_lt]; exact Int.not_lt.mpr h.1
    rcases r1 j h0 h1 with y | y | y
    · exact absurd y c0
    · exact absurd c1 y
    · exact y
  · rw [own_rng 60 65 1 (by decide +kernel) j (by omega) h]
    have c1 : j < (65 : Int32) := by rw [Int32.lt_iff_toInt_lt]; exact h.2
    have c0 : ¬ j < (60 : Int32) := by rw [Int32.lt_iff_toInt_lt]; exact Int.not_lt.mpr h.1
    rcases r2 j h0 h1 with y | y | y
    · exact absurd y c0
    · exact absurd c1 y
    · exact y
  · rw [own_rng 65 92 0 (by decide +kernel) j (by omega) h]
    have c1 : j < (92 : Int32) := by rw [Int32.lt_iff_toInt_lt]; exact h.2
    have c0 : ¬ j < (65 : Int32) := by rw [Int32.lt_iff_toInt_lt]; exact Int.not_lt.mpr h.1
    rcases r3 j h0 h1 with y | y | y
    · exact absurd y c0
    · exact absurd c1 y
    · exact y
  · rw [own_rng 95 126 0 (by decide +kernel) j (by omega) h]
    have c1 : j < (126 : Int32) := by rw [Int32.lt_iff_toInt_lt]; exact h.2
    have c0 : ¬ j < (95 : Int32) := by rw [Int32.lt_iff_toInt_lt]; exact Int.not_lt.mpr h.1
    rcases r4 j h0 h1 with y | y | y
    · exact absurd y c0
    · exact absurd c1 y
    · exact y
theorem wd6 {Z : State} {a0 : Array Value} (hw : ∀ d ∈ tables_1, d.before a0 Z = true) : (Jvm.Cond.laysStatic "com/example/forel/forel/Syntax" "GRAPHIC" "[Z").before a0 Z = true := hw _ (List.mem_of_getElem? (i := 6) rfl)
set_option maxRecDepth 65536 in
set_option maxHeartbeats 16000000 in
theorem comes_1 {Post : Tables → Env → Array Value → State → Outcome → State → Prop} (hpost : ∀ tb e args s v u, (limb_1_1.after args s (.returned v) u = true ∧ limb_1_2.after args s (.returned v) u = true ∧ True) → FrameEnd s (.returned v) u (Jvm.fieldLocs frame_1_writes args s ++ Jvm.arrayLocs frame_1_arrays args s ++ Jvm.staticLocs frame_1_statics s) 0 0 → Post tb e args s (.returned v) u) :
    ArmFor flags0 classFile x code maxLocals ret World_1 tables_1 room_1 Calls_1 rest_1 Pre_1 Post := by
  intro l hfl _ _ p e ha hc hk s m args below hf hA hF happ hP
  obtain ⟨hcalls, hrest, hpre⟩ := hP
  obtain ⟨-, -, -, hnamed, -, -, -, hat⟩ := (Spec.applies_iff hf).mp happ
  obtain ⟨hg, hn⟩ := and_e (Cond.before_iff.mp (show (Jvm.Cond.and given_1 narrow_1).before args s = true from hpre))
  obtain ⟨g1, g2⟩ := and_e hg
  obtain ⟨g3, g4⟩ := and_e g2
  obtain ⟨g5, g6⟩ := and_e hn
  obtain ⟨g7, g8⟩ := and_e g6
  obtain ⟨g9, g10⟩ := and_e g8
  obtain ⟨g11, g12⟩ := and_e g10
  obtain ⟨g13, g14⟩ := and_e g12
  obtain ⟨g15, g16⟩ := and_e g14
  obtain ⟨g17, g18⟩ := and_e g16
  obtain ⟨g19, g20⟩ := and_e g18
  obtain ⟨g21, g22⟩ := and_e g20
  obtain ⟨g23, g24⟩ := and_e g22
  obtain ⟨g25, g26⟩ := and_e g24
  obtain ⟨g27, g28⟩ := and_e g26
  obtain ⟨g29, g30⟩ := and_e g28
  obtain ⟨g31, g32⟩ := and_e g30
  obtain ⟨g33, g34⟩ := and_e g32
  obtain ⟨g35, g36⟩ := and_e g34
  obtain ⟨g37, g38⟩ := and_e g36
  obtain ⟨g39, g40⟩ := and_e g38
  obtain ⟨g41, g42⟩ := and_e g40
  obtain ⟨g43, g44⟩ := and_e g42
  obtain ⟨g45, g46⟩ := and_e g44
  obtain ⟨g47, g48⟩ := and_e g46
  obtain ⟨g49, g50⟩ := and_e g48
  obtain ⟨g51, g52⟩ := and_e g50
  obtain ⟨g53, g54⟩ := and_e g52
  obtain ⟨g55, g56⟩ := and_e g54
  obtain ⟨w0, w1, rfl⟩ : ∃ w0 w1 : Value, args = #[w0, w1] := by
    have hs : args.size = 2 := by simpa [Cond.value, given_1] using g1
    obtain ⟨L⟩ := args
    match L, hs with
    | [w0, w1], _ => exact ⟨w0, w1, rfl⟩
  have hw := fun d (hd : d ∈ tables_1) => atoms_spec (ws := Jvm.Cond.code x code maxLocals ret :: tables_1) hat d (List.mem_cons_of_mem _ hd)
  have hfit : Fit s := fun {y c} hc i hi => by
    obtain ⟨ha, rfl⟩ := Array.getElem?_eq_some_iff.mp hc
    have q := List.all_eq_true.mp ((Array.all_eq_true_iff_forall_mem.mp hF) _ (Array.getElem_mem ha)) i (List.mem_range.mpr hi)
    simpa [Array.getElem?_eq_getElem hi] using q
  obtain ⟨i0, ei0⟩ := is_v g3
  obtain rfl : w0 = (.int i0) := Option.some.inj ei0
  obtain ⟨i1, ei1⟩ := is_v g4
  obtain rfl : w1 = (.int i1) := Option.some.inj ei1
  obtain ⟨v_GRAPHIC, ev_v_GRAPHIC⟩ := arr_v g5
  have S_v_GRAPHIC := Sta.start ev_v_GRAPHIC (Or.inr ⟨(wd3 hw), (wd6 hw)⟩)
  obtain ⟨cl_v_GRAPHIC, Ar_v_GRAPHIC⟩ := Arr.start ev_v_GRAPHIC g5
  obtain ⟨q_v_GRAPHIC, e_v_GRAPHIC⟩ := own_len ev_v_GRAPHIC Ar_v_GRAPHIC g7
  have T_v_GRAPHIC := Tab.start hfit Ar_v_GRAPHIC (by simp) q_v_GRAPHIC e_v_GRAPHIC (by decide)
  have V_v_GRAPHIC := own_tabArv hfit T_v_GRAPHIC q_v_GRAPHIC e_v_GRAPHIC own_gr (own_grval (atv cl_v_GRAPHIC) (own_all2 (fun _ => ev_v_GRAPHIC) T_v_GRAPHIC g9) (own_all3 (fun _ => ev_v_GRAPHIC) T_v_GRAPHIC g37) (own_all3 (fun _ => ev_v_GRAPHIC) T_v_GRAPHIC g43) (own_all3 (fun _ => ev_v_GRAPHIC) T_v_GRAPHIC g45) (own_all3 (fun _ => ev_v_GRAPHIC) T_v_GRAPHIC g53) (own_eli ev_v_GRAPHIC Ar_v_GRAPHIC g11) (own_eli ev_v_GRAPHIC Ar_v_GRAPHIC g13) (own_eli ev_v_GRAPHIC Ar_v_GRAPHIC g15) (own_eli ev_v_GRAPHIC Ar_v_GRAPHIC g17) (own_eli ev_v_GRAPHIC Ar_v_GRAPHIC g19) (own_eli ev_v_GRAPHIC Ar_v_GRAPHIC g21) (own_eli ev_v_GRAPHIC Ar_v_GRAPHIC g23) (own_eli ev_v_GRAPHIC Ar_v_GRAPHIC g25) (own_eli ev_v_GRAPHIC Ar_v_GRAPHIC g27) (own_eli ev_v_GRAPHIC Ar_v_GRAPHIC g29) (own_eli ev_v_GRAPHIC Ar_v_GRAPHIC g31) (own_eli ev_v_GRAPHIC Ar_v_GRAPHIC g33) (own_eli ev_v_GRAPHIC Ar_v_GRAPHIC g35) (own_eli ev_v_GRAPHIC Ar_v_GRAPHIC g39) (own_eli ev_v_GRAPHIC Ar_v_GRAPHIC g41) (own_eli ev_v_GRAPHIC Ar_v_GRAPHIC g47) (own_eli ev_v_GRAPHIC Ar_v_GRAPHIC g49) (own_eli ev_v_GRAPHIC Ar_v_GRAPHIC g51) (own_eli ev_v_GRAPHIC Ar_v_GRAPHIC g55) (own_eli ev_v_GRAPHIC Ar_v_GRAPHIC g56))
  have hplain := trivial
  obtain ⟨n, o, h1, h2, h3, _, L, rfl, ⟨rfl, N⟩, hq⟩ := rm0 l s _ hw tables_1 i0 i1 v_GRAPHIC cl_v_GRAPHIC.cls s.heap s.heap.size (Nat.le_refl _) S_v_GRAPHIC V_v_GRAPHIC p e ha hc hk s m _ below hf ((Spec.applies_iff_loose hf).mp happ).1 ⟨rfl, State.Warmed39.refl s, rfl⟩ trivial
  refine ⟨n, _, h1, h2, h3, hpost _ _ _ _ _ _ ⟨Cond.after_iff.mpr rfl, Cond.after_iff.mpr (eq_i res_at (Term.int_eval (1)) rfl), trivial⟩ ⟨hq.1, hq.2.1, (hq.2.2.sift fun y hy => Or.inr (N y hy)).mono (by decide) (by decide)⟩⟩
theorem main_1_1 : Claimed_1_1 := comes_1 fun _ _ _ _ _ _ h hF => ⟨h.1, hF⟩
theorem main_1_2 : Claimed_1_2 := comes_1 fun _ _ _ _ _ _ h hF => ⟨h.2.1, hF⟩
end Jvm.Pilot.@@N@@
namespace Jvm.Pilot.@@N@@
open Jvm Jvm.ClassFile Sem Op Lib Jvm.Free Jvm.Stand Jvm.Pilot.@@N@@.Jvm.D
/-! MADE BY PROGRAM (witnessworld.py) out of the Statement's table words and the real class files: 11 classes; the members and pool entries that the words name. The judged class is class 1, her method 2. -/
namespace start1
open Jvm.ClassFile
def u (s : String) : CpInfo := .utf8 (stringToUtf16 s)
/-- a pool by its gaps: so many unusable entries, then the entry; so many at the end -/
def gap : Nat → List CpInfo → List CpInfo
  | 0, r => r
  | n + 1, r => .unusable :: gap n r
def poolList (es : List (Nat × CpInfo)) (last : Nat) : List CpInfo := es.foldr (fun e r => gap e.1 (e.2 :: r)) (gap last [])
def pool (es : List (Nat × CpInfo)) (last : Nat) : Array CpInfo := ⟨poolList es last⟩
def fileOf (pool : Array CpInfo) (this : Nat) (attrs : Array Attribute := #[]) (ms : Array MethodInfo := #[]) (fl : Nat := 33) (sup : Nat := 0) (ifs : Array Nat := #[]) (fds : Array FieldInfo := #[]) : ClassFile where
  minorVersion := 0
  majorVersion := 65
  constantPool := pool
  accessFlags := fl
  thisClass := this
  superClass := sup
  interfaces := ifs
  fields := fds
  methods := ms
  attributes := attrs
def plain (name : String) (sup : Option ClassId) : Class where
  name := name
  kind := .ordinary
  loader := none
  accessFlags := 33
  super := sup
  interfaces := #[]
  cf := none
  fields := #[]
  methods := #[]
  instanceTypes := #[]
  staticTypes := #[]
  resolved := #[]
  callSites := []
  init := .initialized
  statics := none
  mirror := none

def pool0 : Array CpInfo := pool [(5, u "<init>"), (0, u "()V"), (1, .class_ 10), (1, u "java/lang/Object")] 113

def k0m0 : Method := { name := "<init>", desc := "()V", sig := { parameters := [], returnType := none }, accessFlags := 1, code := none }
/-- java/lang/Object -/
def k0 : Class := { plain "java/lang/Object" none with
  accessFlags := 33
  interfaces := #[]
  cf := some (fileOf pool0 8 #[] #[{ accessFlags := 1, nameIndex := 5, descriptorIndex := 6, attributes := #[] }] 33 0 #[] #[])
  fields := #[]
  methods := #[k0m0]
  instanceTypes := #[]
  staticTypes := #[]
  resolved := Array.replicate 124 none
  statics := none }

def pool1 : Array CpInfo := pool [(2, .class_ 4), (1, u "java/lang/Object"), (0, u "<init>"), (0, u "()V"), (0, .integer 65535), (0, .methodref 9 10), (0, .class_ 11), (0, .nameAndType 12 13), (0, u "com/example/forel/forel/Syntax"), (0, u "isGraphic"), (0, u "(I)Z"), (0, .methodref 15 16), (0, .class_ 17), (0, .nameAndType 18 13), (0, u "com/example/forel/forel/SyntaxIsGraphicPinLaw"), (0, u "expected"), (3, u "law"), (0, u "(II)Z")] 2

def k1m0 : Method := { name := "<init>", desc := "()V", sig := { parameters := [], returnType := none }, accessFlags := 2, code := none }
def k1c1 : Code := { maxStack := 2, maxLocals := 1, code := method_2_code, exceptionTable := #[], attributes := #[] }
def k1m1 : Method := { name := "expected", desc := "(I)Z", sig := { parameters := [.int], returnType := some .boolean }, accessFlags := 10, code := some k1c1 }
def k1c2 : Code := { maxStack := 2, maxLocals := 4, code := code, exceptionTable := #[], attributes := #[] }
def k1m2 : Method := { name := "law", desc := "(II)Z", sig := { parameters := [.int, .int], returnType := some .boolean }, accessFlags := 9, code := some k1c2 }
/-- com/example/forel/forel/SyntaxIsGraphicPinLaw -/
def k1 : Class := { plain "com/example/forel/forel/SyntaxIsGraphicPinLaw" (some 0) with
  accessFlags := 49
  interfaces := #[]
  cf := some (fileOf pool1 15 #[] #[{ accessFlags := 2, nameIndex := 5, descriptorIndex := 6, attributes := #[] }, { accessFlags := 10, nameIndex := 18, descriptorIndex := 13, attributes := #[] }, { accessFlags := 9, nameIndex := 22, descriptorIndex := 23, attributes := #[] }] 49 2 #[] #[])
  fields := #[]
  methods := #[k1m0, k1m1, k1m2]
  instanceTypes := #[]
  staticTypes := #[]
  resolved := Array.replicate 26 none
  statics := none }

def pool2 : Array CpInfo := pool [(2, .class_ 4), (1, u "java/lang/Object"), (0, u "<init>"), (0, u "()V"), (1, .class_ 10), (1, u "com/example/forel/forel/Syntax"), (1, u "(I)Z"), (12, .fieldref 8 26), (0, .nameAndType 27 28), (0, u "GRAPHIC"), (0, u "[Z"), (59, u "isGraphic"), (14, u "SOLO"), (0, u "Ljava/util/Set;"), (9, u "Lcom/example/forel/forel/Operators;"), (100, u "OPERATORS"), (16, u "CONJUNCTION"), (0, u "Ljava/lang/String;"), (1, u "DISJUNCTION"), (0, u "IF_THEN"), (0, u "CURLY"), (0, u "ANONYMOUS"), (4, u "ESCAPED"), (0, u "LETTERS"), (0, u "QUOTES")] 39

def k2m0 : Method := { name := "<init>", desc := "()V", sig := { parameters := [], returnType := none }, accessFlags := 2, code := none }
def k2c1 : Code := { maxStack := 2, maxLocals := 1, code := prog_84_method_9_code, exceptionTable := #[], attributes := #[] }
def k2m1 : Method := { name := "isGraphic", desc := "(I)Z", sig := { parameters := [.int], returnType := some .boolean }, accessFlags := 8, code := some k2c1 }
/-- com/example/forel/forel/Syntax -/
def k2 : Class := { plain "com/example/forel/forel/Syntax" (some 0) with
  accessFlags := 48
  interfaces := #[]
  cf := some (fileOf pool2 8 #[] #[{ accessFlags := 2, nameIndex := 5, descriptorIndex := 6, attributes := #[] }, { accessFlags := 8, nameIndex := 88, descriptorIndex := 12, attributes := #[] }] 48 2 #[] #[{ accessFlags := 24, nameIndex := 215, descriptorIndex := 114, attributes := #[] }, { accessFlags := 24, nameIndex := 232, descriptorIndex := 233, attributes := #[] }, { accessFlags := 24, nameIndex := 235, descriptorIndex := 233, attributes := #[] }, { accessFlags := 24, nameIndex := 236, descriptorIndex := 233, attributes := #[] }, { accessFlags := 24, nameIndex := 237, descriptorIndex := 233, attributes := #[] }, { accessFlags := 24, nameIndex := 238, descriptorIndex := 233, attributes := #[] }, { accessFlags := 26, nameIndex := 27, descriptorIndex := 28, attributes := #[] }, { accessFlags := 26, nameIndex := 103, descriptorIndex := 104, attributes := #[] }, { accessFlags := 26, nameIndex := 243, descriptorIndex := 233, attributes := #[] }, { accessFlags := 26, nameIndex := 244, descriptorIndex := 233, attributes := #[] }, { accessFlags := 26, nameIndex := 245, descriptorIndex := 233, attributes := #[] }])
  fields := #[{ name := "OPERATORS", type := (.object "com/example/forel/forel/Operators"), accessFlags := 24, slot := 0, constantValue := 0 }, { name := "CONJUNCTION", type := (.object "java/lang/String"), accessFlags := 24, slot := 1, constantValue := 0 }, { name := "DISJUNCTION", type := (.object "java/lang/String"), accessFlags := 24, slot := 2, constantValue := 0 }, { name := "IF_THEN", type := (.object "java/lang/String"), accessFlags := 24, slot := 3, constantValue := 0 }, { name := "CURLY", type := (.object "java/lang/String"), accessFlags := 24, slot := 4, constantValue := 0 }, { name := "ANONYMOUS", type := (.object "java/lang/String"), accessFlags := 24, slot := 5, constantValue := 0 }, { name := "GRAPHIC", type := (.array .boolean), accessFlags := 26, slot := 6, constantValue := 0 }, { name := "SOLO", type := (.object "java/util/Set"), accessFlags := 26, slot := 7, constantValue := 0 }, { name := "ESCAPED", type := (.object "java/lang/String"), accessFlags := 26, slot := 8, constantValue := 0 }, { name := "LETTERS", type := (.object "java/lang/String"), accessFlags := 26, slot := 9, constantValue := 0 }, { name := "QUOTES", type := (.object "java/lang/String"), accessFlags := 26, slot := 10, constantValue := 0 }]
  methods := #[k2m0, k2m1]
  instanceTypes := #[]
  staticTypes := #[(.object "com/example/forel/forel/Operators"), (.object "java/lang/String"), (.object "java/lang/String"), (.object "java/lang/String"), (.object "java/lang/String"), (.object "java/lang/String"), (.array .boolean), (.object "java/util/Set"), (.object "java/lang/String"), (.object "java/lang/String"), (.object "java/lang/String")]
  resolved := Array.replicate 285 none
  statics := some 0 }

def pool3 : Array CpInfo := pool [(1, u "java/lang/Cloneable"), (0, .class_ 1), (0, u "java/lang/Object"), (0, .class_ 3)] 3

/-- java/lang/Cloneable -/
def k3 : Class := { plain "java/lang/Cloneable" (some 0) with
  accessFlags := 1537
  interfaces := #[]
  cf := some (fileOf pool3 2 #[] #[] 1537 4 #[] #[])
  fields := #[]
  methods := #[]
  instanceTypes := #[]
  staticTypes := #[]
  resolved := Array.replicate 8 none
  statics := none }

def pool4 : Array CpInfo := pool [(1, u "java/io/Serializable"), (0, .class_ 1), (0, u "java/lang/Object"), (0, .class_ 3)] 3

/-- java/io/Serializable -/
def k4 : Class := { plain "java/io/Serializable" (some 0) with
  accessFlags := 1537
  interfaces := #[]
  cf := some (fileOf pool4 2 #[] #[] 1537 4 #[] #[])
  fields := #[]
  methods := #[]
  instanceTypes := #[]
  staticTypes := #[]
  resolved := Array.replicate 8 none
  statics := none }

/-- the primitive boolean -/
def k5 : Class := { plain "boolean" none with kind := .primitive 'Z', accessFlags := 0x411 }
/-- [Z -/
def k6 : Class := { plain "[Z" (some 0) with kind := .array 5 .boolean, interfaces := #[3, 4], accessFlags := 1041 }

/-- the primitive byte -/
def k7 : Class := { plain "byte" none with kind := .primitive 'B', accessFlags := 0x411 }
/-- [B -/
def k8 : Class := { plain "[B" (some 0) with kind := .array 7 .byte, interfaces := #[3, 4], accessFlags := 1041 }

/-- the primitive int -/
def k9 : Class := { plain "int" none with kind := .primitive 'I', accessFlags := 0x411 }
/-- [I -/
def k10 : Class := { plain "[I" (some 0) with kind := .array 9 .int, interfaces := #[3, 4], accessFlags := 1041 }

def heap : Heap := #[{ cls := 2, slots := #[.null, .null, .null, .null, .null, .null, .ref 1, .null, .null, .null, .null], vm := .statics 2 },
  { cls := 6, slots := #[.int 0, .int 0, .int 0, .int 0, .int 0, .int 0, .int 0, .int 0, .int 0, .int 0, .int 0, .int 0, .int 0, .int 0, .int 0, .int 0, .int 0, .int 0, .int 0, .int 0, .int 0, .int 0, .int 0, .int 0, .int 0, .int 0, .int 0, .int 0, .int 0, .int 0, .int 0, .int 0, .int 0, .int 0, .int 0, .int 1, .int 1, .int 0, .int 1, .int 0, .int 0, .int 0, .int 1, .int 1, .int 0, .int 1, .int 1, .int 1, .int 0, .int 0, .int 0, .int 0, .int 0, .int 0, .int 0, .int 0, .int 0, .int 0, .int 1, .int 0, .int 1, .int 1, .int 1, .int 1, .int 1, .int 0, .int 0, .int 0, .int 0, .int 0, .int 0, .int 0, .int 0, .int 0, .int 0, .int 0, .int 0, .int 0, .int 0, .int 0, .int 0, .int 0, .int 0, .int 0, .int 0, .int 0, .int 0, .int 0, .int 0, .int 0, .int 0, .int 0, .int 1, .int 0, .int 1, .int 0, .int 0, .int 0, .int 0, .int 0, .int 0, .int 0, .int 0, .int 0, .int 0, .int 0, .int 0, .int 0, .int 0, .int 0, .int 0, .int 0, .int 0, .int 0, .int 0, .int 0, .int 0, .int 0, .int 0, .int 0, .int 0, .int 0, .int 0, .int 0, .int 0, .int 0, .int 1, .int 0], vm := .none }]
def classes : Array Class := #[k0, k1, k2, k3, k4, k5, k6, k7, k8, k9, k10]
def interned : List (Array UInt16 × Addr) := []
def slotsUsed : Nat := 139
def theMethod : MethodId := ⟨1, 2⟩
def args0 : Array Value := #[.int 5, .int 6]
def aboutOver (below : List Frame) : State where
  vm := { classes := classes, interned := interned.toArray }
  heap := heap
  slotsUsed := slotsUsed
  threads := #[{ frames := .invoking theMethod args0 :: below }]
def below0 : List Frame := [.native { method := ⟨0, 0⟩, args := #[] }]
def about1 : State := aboutOver below0
def p0 : Program := .bare "" "" ""
def e0 : Env := launch0.env 0 0 0
theorem w_frames : about1.frames = Frame.invoking theMethod args0 :: below0 := rfl
set_option maxRecDepth 65536 in
theorem w_args : argsFit about1.vm theMethod args0 = true := by decide +kernel
set_option maxRecDepth 65536 in
theorem w_heap : heapFits about1 = true := by decide +kernel
set_option maxRecDepth 65536 in
theorem w_runnable : about1.curStatus? = some .runnable := by decide +kernel
set_option maxRecDepth 65536 in
theorem w_alone : about1.alone = true := by decide +kernel
set_option maxRecDepth 65536 in
theorem w_named : about1.methodNamed? x = some theMethod := by decide +kernel
set_option maxRecDepth 65536 in
theorem w_hears : about1.hears theMethod below0 = true := by decide +kernel
set_option maxRecDepth 65536 in
theorem w_ripe : about1.ripe theMethod args0 below0 = true := by decide +kernel
theorem w_running : about1.status = .running := rfl
set_option maxRecDepth 65536 in
theorem w_room : about1.hasRoom e0.platform room_1 = true :=
  launch0.hasRoom_least _ room_1 (by decide +kernel) (by decide +kernel) (by decide +kernel) (by decide +kernel) (by decide +kernel) (by decide +kernel)
theorem allAtoms_all (ts : List Jvm.Cond) (a : Array Jvm.Value) (st : Jvm.State) : (allAtoms ts).before a st = ts.all (fun c => c.before a st) := by
  induction ts with
  | nil => rfl
  | cons c t ih =>
    show (Jvm.Cond.and c (allAtoms t)).before a st = _
    rw [Jvm.Cond.before_and, ih, List.all_cons]
def words1 : List Jvm.Cond := Jvm.Cond.code x code maxLocals ret :: tables_1
/-- a 'code' word, met by the world's own term for the bytes: nothing is compared byte by byte -/
theorem code_word {y : MethodName} {bytes : ByteArray} {mx : Nat} {rt : Option FieldType} {a : Array Value} {s : State} {m : MethodId} {meth : Method} {c : Code} (h1 : s.methodNamed? y = some m) (h2 : s.vm.method? m = some meth) (h3 : meth.code = some c) (h4 : c.code = bytes)
    (h5 : (c.maxLocals == mx && c.exceptionTable.isEmpty && decide (c.maxStack ≤ mostOperands) && decide (meth.sig.returnType = rt) && !meth.locks && decide (parseMethodDescriptor y.desc = some meth.sig)) = true) : (Jvm.Cond.code y bytes mx rt).before a s = true := by
  simp only [Bool.and_eq_true, beq_iff_eq, Bool.not_eq_true', decide_eq_true_eq] at h5
  obtain ⟨⟨⟨⟨⟨g1, g2⟩, g3⟩, g4⟩, g5⟩, g6⟩ := h5
  simp [Cond.before, Cond.holds, Cond.value, h1, h2, h3, h4, g1, g2, g3, g4, g5, g6]
def isCode : Jvm.Cond → Bool
  | .code _ _ _ _ => true
  | _ => false
theorem all_split {L : List Jvm.Cond} {P : Jvm.Cond → Bool} (h1 : L.all (fun c => isCode c || P c) = true) (h2 : ∀ c ∈ L.filter isCode, P c = true) : L.all P = true := by
  refine List.all_eq_true.mpr fun c hc => ?_
  have h := List.all_eq_true.mp h1 c hc
  rcases Bool.eq_false_or_eq_true (isCode c) with hi | hi
  · exact h2 c (List.mem_filter.mpr ⟨hc, hi⟩)
  · simpa [hi] using h
set_option maxRecDepth 65536 in
theorem w_c0 : (Jvm.Cond.code x code maxLocals ret).before args0 about1 = true := code_word (m := ⟨1, 2⟩) (meth := k1m2) (c := k1c2) (by decide +kernel) rfl rfl rfl (by decide +kernel)
set_option maxRecDepth 65536 in
theorem w_c1 : (Jvm.Cond.code ({ cls := "com/example/forel/forel/Syntax", name := "isGraphic", desc := "(I)Z" } : Jvm.MethodName) prog_84_method_9_code (1 : Nat) (Option.some Jvm.ClassFile.FieldType.boolean)).before args0 about1 = true := code_word (m := ⟨2, 1⟩) (meth := k2m1) (c := k2c1) (by decide +kernel) rfl rfl rfl (by decide +kernel)
set_option maxRecDepth 65536 in
theorem w_c2 : (Jvm.Cond.code ({ cls := "com/example/forel/forel/SyntaxIsGraphicPinLaw", name := "expected", desc := "(I)Z" } : Jvm.MethodName) method_2_code (1 : Nat) (Option.some Jvm.ClassFile.FieldType.boolean)).before args0 about1 = true := code_word (m := ⟨1, 1⟩) (meth := k1m1) (c := k1c1) (by decide +kernel) rfl rfl rfl (by decide +kernel)
def codes1 : List Jvm.Cond := [Jvm.Cond.code x code maxLocals ret, Jvm.Cond.code ({ cls := "com/example/forel/forel/Syntax", name := "isGraphic", desc := "(I)Z" } : Jvm.MethodName) prog_84_method_9_code (1 : Nat) (Option.some Jvm.ClassFile.FieldType.boolean), Jvm.Cond.code ({ cls := "com/example/forel/forel/SyntaxIsGraphicPinLaw", name := "expected", desc := "(I)Z" } : Jvm.MethodName) method_2_code (1 : Nat) (Option.some Jvm.ClassFile.FieldType.boolean)]
set_option maxRecDepth 65536 in
theorem codes_eq : words1.filter isCode = codes1 := rfl
theorem w_codes : ∀ c ∈ words1.filter isCode, c.before args0 about1 = true := by
  rw [codes_eq]
  intro c hc
  simp only [codes1, List.mem_cons, List.not_mem_nil, or_false] at hc
  rcases hc with rfl | rfl | rfl
  · exact w_c0
  · exact w_c1
  · exact w_c2
set_option maxRecDepth 65536 in
theorem w_t1 : words1.all (fun c => isCode c || c.before args0 about1) = true := by decide +kernel
theorem w_tables : (allAtoms (Jvm.Cond.code x code maxLocals ret :: tables_1)).before args0 about1 = true := by
  rw [allAtoms_all]
  show words1.all (fun c => c.before args0 about1) = true
  refine all_split ?_ w_codes
  rw [w_t1]
set_option maxRecDepth 65536 in
theorem w_case : (Jvm.Cond.and given_1 narrow_1).before args0 about1 = true := by decide +kernel
theorem w_applies : (headSpec (Jvm.Cond.code x code maxLocals ret :: tables_1) room_1).applies x e0.platform about1 = true :=
  (Spec.applies_iff w_frames).mpr ⟨w_running, w_runnable, w_alone, w_named, w_hears, w_ripe, w_room, w_tables⟩
theorem atStart : AtStart classFile x code maxLocals ret World_1 tables_1 room_1 Calls_1 rest_1 Pre_1 launch0 p0 e0 about1 theMethod args0 below0 :=
  ⟨lists_1, trivial, launch0.admits_env _ _ _, launch0.least_env, fairChoices_fair.cas, fairChoices_fair.clock, w_frames, w_args, w_heap, w_applies, trivial, trivial, w_case⟩
end start1
theorem witness_1 : WitnessClaimed_1 := ⟨start1.p0, start1.e0, start1.about1, start1.theMethod, start1.args0, start1.below0, start1.atStart⟩
end Jvm.Pilot.@@N@@
