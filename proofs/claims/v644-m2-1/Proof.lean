import JvmDerived
import JvmDerived.Pilot.@@N@@Statement
import JvmDerived.Pilot.@@N@@Code
set_option linter.unusedVariables false
set_option linter.unusedSimpArgs false
namespace Jvm.Pilot.@@N@@
open Jvm Jvm.ClassFile Sem Op Lib Jvm.Free Jvm.Stand Jvm.LawKit Jvm.RoadKit Bundle Jvm.Pilot.@@N@@.Jvm.D

def Go (tb : Tables) (e : Env) (below : List Frame) (a : State) (P : Outcome → State → Prop) : Prop := ∃ s₂ o, Steps tb e below a s₂ ∧ s₂.status = .running ∧ Ended s₂ below o ∧ P o s₂
theorem Go.st {tb : Tables} {e : Env} {below : List Frame} {a b : State} {P : Outcome → State → Prop} (h : ∀ t, Steps tb e below b t → Steps tb e below a t) (k : Go tb e below b P) : Go tb e below a P := by
  obtain ⟨s, o, h1, h2⟩ := k
  exact ⟨s, o, h _ h1, h2⟩
theorem Go.tr {tb : Tables} {e : Env} {below : List Frame} {a b : State} {P : Outcome → State → Prop} (h : Steps tb e below a b) (k : Go tb e below b P) : Go tb e below a P := Go.st (fun _ q => h.trans q) k
theorem Go.fr {tb : Tables} {e : Env} {below : List Frame} {T : State} {g g' : JFrame} {P : Outcome → State → Prop} (q : g = g') (k : Go tb e below (T.setTop g') P) : Go tb e below (T.setTop g) P := q ▸ k
theorem Go.fin {tb : Tables} {e : Env} {below : List Frame} {a s₂ : State} {o : Outcome} {P : Outcome → State → Prop} (hs : Steps tb e below a s₂) (hr : s₂.status = .running) (he : Ended s₂ below o) (hP : P o s₂) : Go tb e below a P := ⟨_, _, hs, hr, he, hP⟩
theorem exa_ns {Z : State} {h : Heap} {a : Addr} {C : String} (F : Exa Z h a C) : ∃ c : Cell, h[a]? = some c ∧ c.vm.isStatics = false := by
  obtain ⟨c, _, h1, -, -, h4, -⟩ := F
  exact ⟨c, h1, h4⟩
theorem fld_ns {Z : State} {h : Heap} {a : Addr} {C n d : String} {v : Value} (F : Fld Z h a C n d v) : ∃ c : Cell, h[a]? = some c ∧ c.vm.isStatics = false := by
  obtain ⟨c, _, _, _, _, h1, -, -, -, h4, -⟩ := F
  exact ⟨c, h1, h4⟩
theorem arv_ns {Z : State} {h : Heap} {a : Addr} {k : ClassId} {ty : FieldType} {n : Int32} {vs : List Value} {d : Value} (F : Arv Z h a k ty n vs d) : ∃ c : Cell, h[a]? = some c ∧ c.vm.isStatics = false := by
  obtain ⟨c, A, -⟩ := F
  exact ⟨c, A.1, A.plain⟩
theorem sta_keep {Z : State} {h h' : Heap} {C n d : String} {v : Value} {ws : List Addr} (F : Sta Z h C n d v) (K : Keep h h' ws) (q : ∀ x ∈ ws, ∃ c : Cell, h[x]? = some c ∧ c.vm.isStatics = false) : Sta Z h' C n d v := by
  obtain ⟨cf, i, k, f, st, cell, h1, h2, h3, h4, h5, h6, h7⟩ := F
  refine ⟨cf, i, k, f, st, cell, h1, h2, h3, h4, K.2.1 st cell h5 fun z => ?_, h6, h7⟩
  obtain ⟨c, q1, q2⟩ := q st z
  cases q1.symm.trans h5
  rw [q2] at h6
  cases h6
theorem own_selp {s : State} {args : Array Value} {y : MethodName} {n : Nat} (wi : (Cond.instantiable y.cls n).before args s = true) (hp : s.PrivateAt y) (hi : (Cond.instanceMethod y).before args s = true) (hy : y.cls ≠ "java/lang/invoke/MethodHandle" ∧ y.cls ≠ "java/lang/invoke/VarHandle") : (Cond.selects y.cls y y).before args s = true := by
  obtain ⟨c, k, h1, h2, -, h4, -⟩ := Cond.instantiable_spec wi
  simp only [Bool.or_eq_false_iff] at h4
  exact selects_self_of_private h1 h2 h4.1 hp hi hy
theorem own_ne32 {x k : Int32} {a : Int} (ha : k.toInt = a) (h : ¬ x = k) : a ≠ x.toInt := fun e => h (Int32.toInt_inj.mp (e.symm.trans ha.symm))
theorem own_nn (x : Int32) : 0 ≤ (x &&& (2147483647 : Int32)).toInt := (c_andS x 2147483647).2.2 (by decide)
theorem own_rem (x : Int32) (k : Int32) (d : Int) (hd : k.toInt = d) (h0 : 0 < d) : 0 ≤ ((x &&& (2147483647 : Int32)) % k).toInt ∧ ((x &&& (2147483647 : Int32)) % k).toInt < d := by
  have h := own_nn x
  rw [Int32.toInt_mod, hd]
  exact ⟨Int.tmod_nonneg _ h, Int.tmod_lt_of_pos _ h0⟩
theorem own_remb (x : Int32) (k : Int32) (d : Int) (hd : k.toInt = d) (h0 : 0 < d) : ¬ ((x &&& (2147483647 : Int32)) % k) < 0 ∧ ((x &&& (2147483647 : Int32)) % k) < k := by
  obtain ⟨h1, h2⟩ := own_rem x k d hd h0
  rw [Int32.lt_iff_toInt_lt, Int32.lt_iff_toInt_lt, hd]
  exact ⟨Int.not_lt.mpr h1, h2⟩
def own_at (xs : List Int32) (j : Int32) : Int32 := xs.getD j.toNatClampNeg 0
theorem own_atv (xs : List Int32) (j : Int32) : (xs.map Value.int).getD j.toNatClampNeg (.int 0) = .int (own_at xs j) := by
  unfold own_at
  generalize j.toNatClampNeg = n
  induction xs generalizing n with
  | nil => rfl
  | cons a r ih => cases n with
    | zero => rfl
    | succ n => simpa using ih n
theorem own_setl {l : List Value} {k n : Nat} {v : Value} (h : l.length = n) : (l.set k v).length = n := by rw [List.length_set]; exact h
theorem own_setg {l : List Value} {k : Nat} {v d : Value} (h : k < l.length) : (l.set k v).getD k d = v := by simp [List.getD, List.getElem?_set, h]
theorem own_setn {l : List Value} {k i : Nat} {v d : Value} (h : i ≠ k) : (l.set k v).getD i d = l.getD i d := by simp [List.getD, List.getElem?_set, Ne.symm h]
theorem own_lt_of {l : List Value} {n : Nat} {j z : Int32} (h : l.length = n) (q : ¬ j < 0 ∧ j < z) (hz : z.toNatClampNeg = n := by decide) : j.toNatClampNeg < l.length := by
  rw [h, ← hz]
  obtain ⟨q1, q2⟩ := q
  rw [Int32.lt_iff_toInt_lt] at q1 q2
  have : (0 : Int32).toInt = 0 := rfl
  simp only [Int32.toNatClampNeg]
  omega
theorem own_eqi {args : Array Value} {s : State} {t : Term} {k : Int32} (h : (Jvm.Cond.eq t (.int k)).value args s none s [] = some true) : t.eval args s none [] s = some (.int k) := by
  simp only [Cond.value, Term.eval] at h
  cases ht : t.eval args s none [] s with
  | none => simp [ht] at h
  | some x => cases x <;> simp_all
theorem d1_0 : decode method_2_code 0 = .ok (.iload_n 0, 1) := by decide +kernel
theorem d1_1 : decode method_2_code 1 = .ok (.ifCond .ne 7, 3) := by decide +kernel
theorem d1_4 : decode method_2_code 4 = .ok (.getstatic 7, 3) := by decide +kernel
theorem wd5 {Z : State} {a0 : Array Value} (hw : ∀ d ∈ tables_1, d.before a0 Z = true) : (Jvm.Cond.fieldLink "com/example/forel/forel/TypeIsPrefixPinLaw" (7 : Nat) "com/example/forel/forel/Operators$Type" "FX" "Lcom/example/forel/forel/Operators$Type;").before a0 Z = true := hw _ (List.mem_of_getElem? (i := 5) rfl)
theorem d1_7 : decode method_2_code 7 = .ok (.areturn, 1) := by decide +kernel
theorem d1_8 : decode method_2_code 8 = .ok (.iload_n 0, 1) := by decide +kernel
theorem d1_9 : decode method_2_code 9 = .ok (.iconst 1, 1) := by decide +kernel
theorem d1_10 : decode method_2_code 10 = .ok (.if_icmp .ne 7, 3) := by decide +kernel
theorem d1_13 : decode method_2_code 13 = .ok (.getstatic 13, 3) := by decide +kernel
theorem wd21 {Z : State} {a0 : Array Value} (hw : ∀ d ∈ tables_1, d.before a0 Z = true) : (Jvm.Cond.fieldLink "com/example/forel/forel/TypeIsPrefixPinLaw" (13 : Nat) "com/example/forel/forel/Operators$Type" "FY" "Lcom/example/forel/forel/Operators$Type;").before a0 Z = true := hw _ (List.mem_of_getElem? (i := 21) rfl)
theorem d1_16 : decode method_2_code 16 = .ok (.areturn, 1) := by decide +kernel
theorem d1_17 : decode method_2_code 17 = .ok (.iload_n 0, 1) := by decide +kernel
theorem d1_18 : decode method_2_code 18 = .ok (.iconst 2, 1) := by decide +kernel
theorem d1_19 : decode method_2_code 19 = .ok (.if_icmp .ne 7, 3) := by decide +kernel
theorem d1_22 : decode method_2_code 22 = .ok (.getstatic 16, 3) := by decide +kernel
theorem wd24 {Z : State} {a0 : Array Value} (hw : ∀ d ∈ tables_1, d.before a0 Z = true) : (Jvm.Cond.fieldLink "com/example/forel/forel/TypeIsPrefixPinLaw" (16 : Nat) "com/example/forel/forel/Operators$Type" "XFX" "Lcom/example/forel/forel/Operators$Type;").before a0 Z = true := hw _ (List.mem_of_getElem? (i := 24) rfl)
theorem d1_25 : decode method_2_code 25 = .ok (.areturn, 1) := by decide +kernel
theorem d1_26 : decode method_2_code 26 = .ok (.iload_n 0, 1) := by decide +kernel
theorem d1_27 : decode method_2_code 27 = .ok (.iconst 3, 1) := by decide +kernel
theorem d1_28 : decode method_2_code 28 = .ok (.if_icmp .ne 7, 3) := by decide +kernel
theorem d1_31 : decode method_2_code 31 = .ok (.getstatic 19, 3) := by decide +kernel
theorem wd17 {Z : State} {a0 : Array Value} (hw : ∀ d ∈ tables_1, d.before a0 Z = true) : (Jvm.Cond.fieldLink "com/example/forel/forel/TypeIsPrefixPinLaw" (19 : Nat) "com/example/forel/forel/Operators$Type" "XFY" "Lcom/example/forel/forel/Operators$Type;").before a0 Z = true := hw _ (List.mem_of_getElem? (i := 17) rfl)
theorem d1_34 : decode method_2_code 34 = .ok (.areturn, 1) := by decide +kernel
theorem d1_35 : decode method_2_code 35 = .ok (.getstatic 22, 3) := by decide +kernel
theorem wd22 {Z : State} {a0 : Array Value} (hw : ∀ d ∈ tables_1, d.before a0 Z = true) : (Jvm.Cond.fieldLink "com/example/forel/forel/TypeIsPrefixPinLaw" (22 : Nat) "com/example/forel/forel/Operators$Type" "YFX" "Lcom/example/forel/forel/Operators$Type;").before a0 Z = true := hw _ (List.mem_of_getElem? (i := 22) rfl)
theorem d1_38 : decode method_2_code 38 = .ok (.areturn, 1) := by decide +kernel
theorem pn0 : plainName "com/example/forel/forel/TypeIsPrefixPinLaw" = true := by first | (simp [plainName, overriddenIn]; done) | decide +kernel
def f1 (p1 : Int32) (w_FX : Addr) (w_FY : Addr) (w_XFX : Addr) (w_XFY : Addr) (w_YFX : Addr) : Addr := (if p1 = (0 : Int32) then w_FX else (if p1 = (1 : Int32) then w_FY else (if p1 = (2 : Int32) then w_XFX else (if p1 = (3 : Int32) then w_XFY else w_YFX))))
def Q1 (Z : State) (p1 : Int32) (w_FX : Addr) (w_FY : Addr) (w_XFX : Addr) (w_XFY : Addr) (w_YFX : Addr) (h0 : Heap) (n0 : Nat) (v : Option Value) (h : Heap) (L : List Loc) : Prop := v = some (.ref (f1 p1 w_FX w_FY w_XFX w_XFY w_YFX)) ∧ Fr n0 L ∧ h = h0 ∧ Exa Z h (f1 p1 w_FX w_FY w_XFX w_XFY w_YFX) "com/example/forel/forel/Operators$Type"
theorem ef1 (m : MethodId) (x0 : Int32) : entryFrame m #[(.int x0)] 1 = mkF m 0 #[.val (.int x0)] [] := by first | (simp [entryFrame, mkF, argsToLocals, Value.category]; done) | rfl
set_option maxRecDepth 65536 in
set_option maxHeartbeats 16000000 in
theorem rm1 (l : Launch) (Z : State) (a0 : Array Value) (hw : ∀ d ∈ tables_1, d.before a0 Z = true) (ws : List Jvm.Cond) (p1 : Int32) (w_FX : Addr) (w_FY : Addr) (w_XFX : Addr) (w_XFY : Addr) (w_YFX : Addr) (h0 : Heap) (n0 : Nat) (Z0 : n0 ≤ h0.size) (S_FX : Sta Z h0 "com/example/forel/forel/Operators$Type" "FX" "Lcom/example/forel/forel/Operators$Type;" (.ref w_FX)) (E_w_FX : Exa Z h0 w_FX "com/example/forel/forel/Operators$Type") (S_FY : Sta Z h0 "com/example/forel/forel/Operators$Type" "FY" "Lcom/example/forel/forel/Operators$Type;" (.ref w_FY)) (E_w_FY : Exa Z h0 w_FY "com/example/forel/forel/Operators$Type") (S_XFX : Sta Z h0 "com/example/forel/forel/Operators$Type" "XFX" "Lcom/example/forel/forel/Operators$Type;" (.ref w_XFX)) (E_w_XFX : Exa Z h0 w_XFX "com/example/forel/forel/Operators$Type") (S_XFY : Sta Z h0 "com/example/forel/forel/Operators$Type" "XFY" "Lcom/example/forel/forel/Operators$Type;" (.ref w_XFY)) (E_w_XFY : Exa Z h0 w_XFY "com/example/forel/forel/Operators$Type") (S_YFX : Sta Z h0 "com/example/forel/forel/Operators$Type" "YFX" "Lcom/example/forel/forel/Operators$Type;" (.ref w_YFX)) (E_w_YFX : Exa Z h0 w_YFX "com/example/forel/forel/Operators$Type") :
    MetFree l (⟨"com/example/forel/forel/TypeIsPrefixPinLaw", "pick", "(I)Lcom/example/forel/forel/Operators$Type;"⟩ : MethodName) (head1 (Jvm.Cond.code (⟨"com/example/forel/forel/TypeIsPrefixPinLaw", "pick", "(I)Lcom/example/forel/forel/Operators$Type;"⟩ : MethodName) method_2_code 1 (some (.object "com/example/forel/forel/Operators$Type")) :: ws) ({ frames := 0, cells := 0, slots := 0, locals := 0 } : Room)) (fun a U => a = #[(.int p1)] ∧ Z.Warmed39 U.vm ∧ U.heap = h0) (fun _ _ _ _ _ => True) (fun _ U o U' => ∃ v L, o = .returned v ∧ Q1 Z p1 w_FX w_FY w_XFX w_XFY w_YFX h0 n0 v U'.heap L ∧ FrameEnd U o U' L ({ frames := 0, cells := 0, slots := 0, locals := 0 } : Room).cells ({ frames := 0, cells := 0, slots := 0, locals := 0 } : Room).slots) := by
  refine MetFree.of_bodySF (plainFor_of_name pn0) hisR ?_
  intro p e s m args below meth c s₁ Bd hml0 hP hK
  obtain ⟨rfl, hZ, hh⟩ := hP
  have hx := Bd.exec
  have hby := Bd.bytes
  have hml : c.maxLocals = 1 := hml0
  have hown : s.vm.findClass "com/example/forel/forel/TypeIsPrefixPinLaw" = some m.cls := findClass_of_methodNamed Bd.named
  have hnm := (name_of_methodNamed Bd.named Bd.method).1
  have X0 : Stand p l e ({ frames := 0, cells := 0, slots := 0, locals := 0 } : Room) s m #[(.int p1)] below meth c s₁ [] 0 0 := Stand.of_body Bd
  have e0 : s₁.heap = h0 := by rw [← hh, Bd.state]; rfl
  have N0 := Fr.nil n0
  have K0 : Keep h0 h0 [] := Keep.refl h0 _
  refine Go.st (P := fun o U' => ∃ v L, o = .returned v ∧ Q1 Z p1 w_FX w_FY w_XFX w_XFY w_YFX h0 n0 v U'.heap L ∧ FrameEnd s o U' L ({ frames := 0, cells := 0, slots := 0, locals := 0 } : Room).cells ({ frames := 0, cells := 0, slots := 0, locals := 0 } : Room).slots) (fun t k => castTop (ef1 m p1) k) ?_
  show Go _ _ _ (s₁.setTop (mkF m 0 #[.val (.int p1)] [])) _
  refine Go.st (fun t k => XS.iloadN X0.here hx rfl (hb hby d1_0) rfl k) ?_
  by_cases hc1 : p1 = (0 : Int32)
  · refine Go.st (fun t k => XS.ifNo X0.here hx rfl (hb hby d1_1) rfl ((if0 _ _).trans (teq hc1).2) k) ?_
    show Go _ _ _ (s₁.setTop (mkF m 4 #[.val (.int p1)] [])) _
    obtain ⟨T2, X2, e2, st2⟩ := getS2 X0 hx hZ hown (host := "") (Or.inl (wd5 hw)) Via.refl e0 S_FX (g := (mkF m 4 #[.val (.int p1)] [])) rfl (hb hby d1_4)
    refine Go.st st2 ?_
    show Go _ _ _ (T2.setTop (mkF m 7 #[.val (.int p1)] [(.ref w_FX)])) _
    obtain ⟨fs, hr, hrun, hended, hW, hsame⟩ := X2.leave (v := some (.ref w_FX)) (fun h => by rw [Bd.returns] at h; cases h)
    refine Go.fin (retOut X2 hx Bd.returns rfl (Or.inr (Or.inr (Or.inr (Or.inr ⟨rfl, rfl, rfl⟩)))) (hb hby d1_7) hr) hrun hended ⟨_, _, rfl, ?_, ⟨_, rfl⟩, hW, hsame.mono (by decide) (by decide)⟩
    show Q1 Z p1 w_FX w_FY w_XFX w_XFY w_YFX h0 n0 _ T2.heap _
    rw [e2]
    exact ⟨(by unfold f1; simp only [if_pos hc1]), N0, rfl, (by unfold f1; simp only [if_pos hc1]; exact E_w_FX)⟩
  · refine Go.st (fun t k => XS.ifYes X0.here hx rfl (pc0 := 1) (pc' := 8) rfl (hb hby d1_1) rfl ((if0 _ _).trans (feq hc1).2) (by decide) (by decide) k) ?_
    show Go _ _ _ (s₁.setTop (mkF m 8 #[.val (.int p1)] [])) _
    refine Go.st (fun t k => XS.iloadN X0.here hx rfl (hb hby d1_8) rfl k) ?_
    refine Go.st (fun t k => XS.iconst X0.here hx rfl (hb hby d1_9) k) ?_
    by_cases hc3 : p1 = (1 : Int32)
    · refine Go.st (fun t k => XS.icmpNo X0.here hx rfl (hb hby d1_10) rfl (teq hc3).2 k) ?_
      show Go _ _ _ (s₁.setTop (mkF m 13 #[.val (.int p1)] [])) _
      obtain ⟨T4, X4, e4, st4⟩ := getS2 X0 hx hZ hown (host := "") (Or.inl (wd21 hw)) Via.refl e0 S_FY (g := (mkF m 13 #[.val (.int p1)] [])) rfl (hb hby d1_13)
      refine Go.st st4 ?_
      show Go _ _ _ (T4.setTop (mkF m 16 #[.val (.int p1)] [(.ref w_FY)])) _
      obtain ⟨fs, hr, hrun, hended, hW, hsame⟩ := X4.leave (v := some (.ref w_FY)) (fun h => by rw [Bd.returns] at h; cases h)
      refine Go.fin (retOut X4 hx Bd.returns rfl (Or.inr (Or.inr (Or.inr (Or.inr ⟨rfl, rfl, rfl⟩)))) (hb hby d1_16) hr) hrun hended ⟨_, _, rfl, ?_, ⟨_, rfl⟩, hW, hsame.mono (by decide) (by decide)⟩
      show Q1 Z p1 w_FX w_FY w_XFX w_XFY w_YFX h0 n0 _ T4.heap _
      rw [e4]
      exact ⟨(by unfold f1; simp only [if_neg hc1, if_pos hc3]), N0, rfl, (by unfold f1; simp only [if_neg hc1, if_pos hc3]; exact E_w_FY)⟩
    · refine Go.st (fun t k => XS.icmpYes X0.here hx rfl (pc0 := 10) (pc' := 17) rfl (hb hby d1_10) rfl (feq hc3).2 (by decide) (by decide) k) ?_
      show Go _ _ _ (s₁.setTop (mkF m 17 #[.val (.int p1)] [])) _
      refine Go.st (fun t k => XS.iloadN X0.here hx rfl (hb hby d1_17) rfl k) ?_
      refine Go.st (fun t k => XS.iconst X0.here hx rfl (hb hby d1_18) k) ?_
      by_cases hc5 : p1 = (2 : Int32)
      · refine Go.st (fun t k => XS.icmpNo X0.here hx rfl (hb hby d1_19) rfl (teq hc5).2 k) ?_
        show Go _ _ _ (s₁.setTop (mkF m 22 #[.val (.int p1)] [])) _
        obtain ⟨T6, X6, e6, st6⟩ := getS2 X0 hx hZ hown (host := "") (Or.inl (wd24 hw)) Via.refl e0 S_XFX (g := (mkF m 22 #[.val (.int p1)] [])) rfl (hb hby d1_22)
        refine Go.st st6 ?_
        show Go _ _ _ (T6.setTop (mkF m 25 #[.val (.int p1)] [(.ref w_XFX)])) _
        obtain ⟨fs, hr, hrun, hended, hW, hsame⟩ := X6.leave (v := some (.ref w_XFX)) (fun h => by rw [Bd.returns] at h; cases h)
        refine Go.fin (retOut X6 hx Bd.returns rfl (Or.inr (Or.inr (Or.inr (Or.inr ⟨rfl, rfl, rfl⟩)))) (hb hby d1_25) hr) hrun hended ⟨_, _, rfl, ?_, ⟨_, rfl⟩, hW, hsame.mono (by decide) (by decide)⟩
        show Q1 Z p1 w_FX w_FY w_XFX w_XFY w_YFX h0 n0 _ T6.heap _
        rw [e6]
        exact ⟨(by unfold f1; simp only [if_neg hc1, if_neg hc3, if_pos hc5]), N0, rfl, (by unfold f1; simp only [if_neg hc1, if_neg hc3, if_pos hc5]; exact E_w_XFX)⟩
      · refine Go.st (fun t k => XS.icmpYes X0.here hx rfl (pc0 := 19) (pc' := 26) rfl (hb hby d1_19) rfl (feq hc5).2 (by decide) (by decide) k) ?_
        show Go _ _ _ (s₁.setTop (mkF m 26 #[.val (.int p1)] [])) _
        refine Go.st (fun t k => XS.iloadN X0.here hx rfl (hb hby d1_26) rfl k) ?_
        refine Go.st (fun t k => XS.iconst X0.here hx rfl (hb hby d1_27) k) ?_
        by_cases hc7 : p1 = (3 : Int32)
        · refine Go.st (fun t k => XS.icmpNo X0.here hx rfl (hb hby d1_28) rfl (teq hc7).2 k) ?_
          show Go _ _ _ (s₁.setTop (mkF m 31 #[.val (.int p1)] [])) _
          obtain ⟨T8, X8, e8, st8⟩ := getS2 X0 hx hZ hown (host := "") (Or.inl (wd17 hw)) Via.refl e0 S_XFY (g := (mkF m 31 #[.val (.int p1)] [])) rfl (hb hby d1_31)
          refine Go.st st8 ?_
          show Go _ _ _ (T8.setTop (mkF m 34 #[.val (.int p1)] [(.ref w_XFY)])) _
          obtain ⟨fs, hr, hrun, hended, hW, hsame⟩ := X8.leave (v := some (.ref w_XFY)) (fun h => by rw [Bd.returns] at h; cases h)
          refine Go.fin (retOut X8 hx Bd.returns rfl (Or.inr (Or.inr (Or.inr (Or.inr ⟨rfl, rfl, rfl⟩)))) (hb hby d1_34) hr) hrun hended ⟨_, _, rfl, ?_, ⟨_, rfl⟩, hW, hsame.mono (by decide) (by decide)⟩
          show Q1 Z p1 w_FX w_FY w_XFX w_XFY w_YFX h0 n0 _ T8.heap _
          rw [e8]
          exact ⟨(by unfold f1; simp only [if_neg hc1, if_neg hc3, if_neg hc5, if_pos hc7]), N0, rfl, (by unfold f1; simp only [if_neg hc1, if_neg hc3, if_neg hc5, if_pos hc7]; exact E_w_XFY)⟩
        · refine Go.st (fun t k => XS.icmpYes X0.here hx rfl (pc0 := 28) (pc' := 35) rfl (hb hby d1_28) rfl (feq hc7).2 (by decide) (by decide) k) ?_
          show Go _ _ _ (s₁.setTop (mkF m 35 #[.val (.int p1)] [])) _
          obtain ⟨T9, X9, e9, st9⟩ := getS2 X0 hx hZ hown (host := "") (Or.inl (wd22 hw)) Via.refl e0 S_YFX (g := (mkF m 35 #[.val (.int p1)] [])) rfl (hb hby d1_35)
          refine Go.st st9 ?_
          show Go _ _ _ (T9.setTop (mkF m 38 #[.val (.int p1)] [(.ref w_YFX)])) _
          obtain ⟨fs, hr, hrun, hended, hW, hsame⟩ := X9.leave (v := some (.ref w_YFX)) (fun h => by rw [Bd.returns] at h; cases h)
          refine Go.fin (retOut X9 hx Bd.returns rfl (Or.inr (Or.inr (Or.inr (Or.inr ⟨rfl, rfl, rfl⟩)))) (hb hby d1_38) hr) hrun hended ⟨_, _, rfl, ?_, ⟨_, rfl⟩, hW, hsame.mono (by decide) (by decide)⟩
          show Q1 Z p1 w_FX w_FY w_XFX w_XFY w_YFX h0 n0 _ T9.heap _
          rw [e9]
          exact ⟨(by unfold f1; simp only [if_neg hc1, if_neg hc3, if_neg hc5, if_neg hc7]), N0, rfl, (by unfold f1; simp only [if_neg hc1, if_neg hc3, if_neg hc5, if_neg hc7]; exact E_w_YFX)⟩
theorem d2_0 : decode prog_57_method_4_code 0 = .ok (.aload_n 0, 1) := by decide +kernel
theorem d2_1 : decode prog_57_method_4_code 1 = .ok (.getstatic 3, 3) := by decide +kernel
theorem wd13 {Z : State} {a0 : Array Value} (hw : ∀ d ∈ tables_1, d.before a0 Z = true) : (Jvm.Cond.fieldLink "com/example/forel/forel/Operators$Type" (3 : Nat) "com/example/forel/forel/Operators$Type" "FX" "Lcom/example/forel/forel/Operators$Type;").before a0 Z = true := hw _ (List.mem_of_getElem? (i := 13) rfl)
theorem d2_4 : decode prog_57_method_4_code 4 = .ok (.if_acmp .eq 10, 3) := by decide +kernel
theorem d2_14 : decode prog_57_method_4_code 14 = .ok (.iconst 1, 1) := by decide +kernel
theorem d2_15 : decode prog_57_method_4_code 15 = .ok (.goto 4, 3) := by decide +kernel
theorem d2_19 : decode prog_57_method_4_code 19 = .ok (.ireturn, 1) := by decide +kernel
theorem d2_7 : decode prog_57_method_4_code 7 = .ok (.aload_n 0, 1) := by decide +kernel
theorem d2_8 : decode prog_57_method_4_code 8 = .ok (.getstatic 7, 3) := by decide +kernel
theorem wd19 {Z : State} {a0 : Array Value} (hw : ∀ d ∈ tables_1, d.before a0 Z = true) : (Jvm.Cond.fieldLink "com/example/forel/forel/Operators$Type" (7 : Nat) "com/example/forel/forel/Operators$Type" "FY" "Lcom/example/forel/forel/Operators$Type;").before a0 Z = true := hw _ (List.mem_of_getElem? (i := 19) rfl)
theorem d2_11 : decode prog_57_method_4_code 11 = .ok (.if_acmp .ne 7, 3) := by decide +kernel
theorem d2_18 : decode prog_57_method_4_code 18 = .ok (.iconst 0, 1) := by decide +kernel
theorem pn1 : plainName "com/example/forel/forel/Operators$Type" = true := by first | (simp [plainName, overriddenIn]; done) | decide +kernel
def f2 (a1 : Addr) (w_FX : Addr) (w_FY : Addr) : Int32 := (if a1 = w_FX then (1 : Int32) else (if a1 = w_FY then (1 : Int32) else (0 : Int32)))
def Q2 (Z : State) (a1 : Addr) (w_FX : Addr) (w_FY : Addr) (h0 : Heap) (n0 : Nat) (v : Option Value) (h : Heap) (L : List Loc) : Prop := v = some (.int (f2 a1 w_FX w_FY)) ∧ Fr n0 L ∧ h = h0
theorem ef2 (m : MethodId) (x0 : Addr) : entryFrame m #[(.ref x0)] 1 = mkF m 0 #[.val (.ref x0)] [] := by first | (simp [entryFrame, mkF, argsToLocals, Value.category]; done) | rfl
set_option maxRecDepth 65536 in
set_option maxHeartbeats 16000000 in
theorem rm2 (l : Launch) (Z : State) (a0 : Array Value) (hw : ∀ d ∈ tables_1, d.before a0 Z = true) (ws : List Jvm.Cond) (a1 : Addr) (w_FX : Addr) (w_FY : Addr) (h0 : Heap) (n0 : Nat) (Z0 : n0 ≤ h0.size) (S_FX : Sta Z h0 "com/example/forel/forel/Operators$Type" "FX" "Lcom/example/forel/forel/Operators$Type;" (.ref w_FX)) (E_w_FX : Exa Z h0 w_FX "com/example/forel/forel/Operators$Type") (S_FY : Sta Z h0 "com/example/forel/forel/Operators$Type" "FY" "Lcom/example/forel/forel/Operators$Type;" (.ref w_FY)) (E_w_FY : Exa Z h0 w_FY "com/example/forel/forel/Operators$Type") :
    MetFree l (⟨"com/example/forel/forel/Operators$Type", "isPrefix", "()Z"⟩ : MethodName) (head1 (Jvm.Cond.code (⟨"com/example/forel/forel/Operators$Type", "isPrefix", "()Z"⟩ : MethodName) prog_57_method_4_code 1 (some .boolean) :: ws) ({ frames := 0, cells := 0, slots := 0, locals := 0 } : Room)) (fun a U => a = #[(.ref a1)] ∧ Z.Warmed39 U.vm ∧ U.heap = h0) (fun _ _ _ _ _ => True) (fun _ U o U' => ∃ v L, o = .returned v ∧ Q2 Z a1 w_FX w_FY h0 n0 v U'.heap L ∧ FrameEnd U o U' L ({ frames := 0, cells := 0, slots := 0, locals := 0 } : Room).cells ({ frames := 0, cells := 0, slots := 0, locals := 0 } : Room).slots) := by
  refine MetFree.of_bodySF (plainFor_of_name pn1) hisR ?_
  intro p e s m args below meth c s₁ Bd hml0 hP hK
  obtain ⟨rfl, hZ, hh⟩ := hP
  have hx := Bd.exec
  have hby := Bd.bytes
  have hml : c.maxLocals = 1 := hml0
  have hown : s.vm.findClass "com/example/forel/forel/Operators$Type" = some m.cls := findClass_of_methodNamed Bd.named
  have hnm := (name_of_methodNamed Bd.named Bd.method).1
  have X0 : Stand p l e ({ frames := 0, cells := 0, slots := 0, locals := 0 } : Room) s m #[(.ref a1)] below meth c s₁ [] 0 0 := Stand.of_body Bd
  have e0 : s₁.heap = h0 := by rw [← hh, Bd.state]; rfl
  have N0 := Fr.nil n0
  have K0 : Keep h0 h0 [] := Keep.refl h0 _
  refine Go.st (P := fun o U' => ∃ v L, o = .returned v ∧ Q2 Z a1 w_FX w_FY h0 n0 v U'.heap L ∧ FrameEnd s o U' L ({ frames := 0, cells := 0, slots := 0, locals := 0 } : Room).cells ({ frames := 0, cells := 0, slots := 0, locals := 0 } : Room).slots) (fun t k => castTop (ef2 m a1) k) ?_
  show Go _ _ _ (s₁.setTop (mkF m 0 #[.val (.ref a1)] [])) _
  refine Go.st (fun t k => XS.aloadN X0.here hx rfl (hb hby d2_0) rfl rfl k) ?_
  obtain ⟨T1, X1, e1, st1⟩ := getS2 X0 hx hZ hown (host := "") (Or.inl (wd13 hw)) Via.refl e0 S_FX (g := (mkF m 1 #[.val (.ref a1)] [(.ref a1)])) rfl (hb hby d2_1)
  refine Go.st st1 ?_
  show Go _ _ _ (T1.setTop (mkF m 4 #[.val (.ref a1)] [(.ref w_FX), (.ref a1)])) _
  by_cases hc2 : a1 = w_FX
  · refine Go.st (fun t k => Jvm.RoadKit.acmp (g := (mkF m 4 #[.val (.ref a1)] [(.ref w_FX), (.ref a1)])) X1 hx rfl rfl rfl (pc0 := 4) (pc' := 14) (same := true) rfl (hb hby d2_4) rfl (decide_eq_true (congrArg Value.ref hc2)) (by decide) (by decide) k) ?_
    show Go _ _ _ (T1.setTop (mkF m 14 #[.val (.ref a1)] [])) _
    refine Go.st (fun t k => XS.iconst X1.here hx rfl (hb hby d2_14) k) ?_
    refine Go.st (fun t k => XS.goto X1.here hx rfl (pc0 := 15) (pc' := 19) rfl (hb hby d2_15) (by decide) (by decide) k) ?_
    obtain ⟨fs, hr, hrun, hended, hW, hsame⟩ := X1.leave (v := some (.int (1 : Int32))) (fun h => by rw [Bd.returns] at h; cases h)
    refine Go.fin (retN X1 hx (t := .boolean) Bd.returns (by simp) (hb hby d2_19) hr) hrun hended ⟨_, _, rfl, ?_, ⟨_, rfl⟩, hW, hsame.mono (by decide) (by decide)⟩
    show Q2 Z a1 w_FX w_FY h0 n0 _ T1.heap _
    rw [e1]
    exact ⟨(by unfold f2; simp only [if_pos hc2]), N0, rfl⟩
  · refine Go.st (fun t k => Jvm.RoadKit.acmp (g := (mkF m 4 #[.val (.ref a1)] [(.ref w_FX), (.ref a1)])) X1 hx rfl rfl rfl (pc0 := 4) (pc' := 7) (same := false) rfl (hb hby d2_4) rfl (decide_eq_false fun q => hc2 (Value.ref.inj q)) (by decide) (by decide) k) ?_
    show Go _ _ _ (T1.setTop (mkF m 7 #[.val (.ref a1)] [])) _
    refine Go.st (fun t k => XS.aloadN X1.here hx rfl (hb hby d2_7) rfl rfl k) ?_
    obtain ⟨T3, X3, e3, st3⟩ := getS2 X1 hx hZ hown (host := "") (Or.inl (wd19 hw)) Via.refl e1 S_FY (g := (mkF m 8 #[.val (.ref a1)] [(.ref a1)])) rfl (hb hby d2_8)
    refine Go.st st3 ?_
    show Go _ _ _ (T3.setTop (mkF m 11 #[.val (.ref a1)] [(.ref w_FY), (.ref a1)])) _
    by_cases hc4 : a1 = w_FY
    · refine Go.st (fun t k => Jvm.RoadKit.acmp (g := (mkF m 11 #[.val (.ref a1)] [(.ref w_FY), (.ref a1)])) X3 hx rfl rfl rfl (pc0 := 11) (pc' := 14) (same := true) rfl (hb hby d2_11) rfl (decide_eq_true (congrArg Value.ref hc4)) (by decide) (by decide) k) ?_
      show Go _ _ _ (T3.setTop (mkF m 14 #[.val (.ref a1)] [])) _
      refine Go.st (fun t k => XS.iconst X3.here hx rfl (hb hby d2_14) k) ?_
      refine Go.st (fun t k => XS.goto X3.here hx rfl (pc0 := 15) (pc' := 19) rfl (hb hby d2_15) (by decide) (by decide) k) ?_
      obtain ⟨fs, hr, hrun, hended, hW, hsame⟩ := X3.leave (v := some (.int (1 : Int32))) (fun h => by rw [Bd.returns] at h; cases h)
      refine Go.fin (retN X3 hx (t := .boolean) Bd.returns (by simp) (hb hby d2_19) hr) hrun hended ⟨_, _, rfl, ?_, ⟨_, rfl⟩, hW, hsame.mono (by decide) (by decide)⟩
      show Q2 Z a1 w_FX w_FY h0 n0 _ T3.heap _
      rw [e3]
      exact ⟨(by unfold f2; simp only [if_neg hc2, if_pos hc4]), N0, rfl⟩
    · refine Go.st (fun t k => Jvm.RoadKit.acmp (g := (mkF m 11 #[.val (.ref a1)] [(.ref w_FY), (.ref a1)])) X3 hx rfl rfl rfl (pc0 := 11) (pc' := 18) (same := false) rfl (hb hby d2_11) rfl (decide_eq_false fun q => hc4 (Value.ref.inj q)) (by decide) (by decide) k) ?_
      show Go _ _ _ (T3.setTop (mkF m 18 #[.val (.ref a1)] [])) _
      refine Go.st (fun t k => XS.iconst X3.here hx rfl (hb hby d2_18) k) ?_
      obtain ⟨fs, hr, hrun, hended, hW, hsame⟩ := X3.leave (v := some (.int (0 : Int32))) (fun h => by rw [Bd.returns] at h; cases h)
      refine Go.fin (retN X3 hx (t := .boolean) Bd.returns (by simp) (hb hby d2_19) hr) hrun hended ⟨_, _, rfl, ?_, ⟨_, rfl⟩, hW, hsame.mono (by decide) (by decide)⟩
      show Q2 Z a1 w_FX w_FY h0 n0 _ T3.heap _
      rw [e3]
      exact ⟨(by unfold f2; simp only [if_neg hc2, if_neg hc4]), N0, rfl⟩
theorem d3_0 : decode method_3_code 0 = .ok (.iload_n 0, 1) := by decide +kernel
theorem d3_1 : decode method_3_code 1 = .ok (.ifCond .ne 5, 3) := by decide +kernel
theorem d3_4 : decode method_3_code 4 = .ok (.iconst 1, 1) := by decide +kernel
theorem d3_5 : decode method_3_code 5 = .ok (.ireturn, 1) := by decide +kernel
theorem d3_6 : decode method_3_code 6 = .ok (.iload_n 0, 1) := by decide +kernel
theorem d3_7 : decode method_3_code 7 = .ok (.iconst 1, 1) := by decide +kernel
theorem d3_8 : decode method_3_code 8 = .ok (.if_icmp .ne 5, 3) := by decide +kernel
theorem d3_11 : decode method_3_code 11 = .ok (.iconst 1, 1) := by decide +kernel
theorem d3_12 : decode method_3_code 12 = .ok (.ireturn, 1) := by decide +kernel
theorem d3_13 : decode method_3_code 13 = .ok (.iconst 0, 1) := by decide +kernel
theorem d3_14 : decode method_3_code 14 = .ok (.ireturn, 1) := by decide +kernel
def f3 (p1 : Int32) : Int32 := (if p1 = (0 : Int32) then (1 : Int32) else (if p1 = (1 : Int32) then (1 : Int32) else (0 : Int32)))
def Q3 (Z : State) (p1 : Int32) (h0 : Heap) (n0 : Nat) (v : Option Value) (h : Heap) (L : List Loc) : Prop := v = some (.int (f3 p1)) ∧ Fr n0 L ∧ h = h0
theorem ef3 (m : MethodId) (x0 : Int32) : entryFrame m #[(.int x0)] 1 = mkF m 0 #[.val (.int x0)] [] := by first | (simp [entryFrame, mkF, argsToLocals, Value.category]; done) | rfl
set_option maxRecDepth 65536 in
set_option maxHeartbeats 16000000 in
theorem rm3 (l : Launch) (Z : State) (a0 : Array Value) (hw : ∀ d ∈ tables_1, d.before a0 Z = true) (ws : List Jvm.Cond) (p1 : Int32) (h0 : Heap) (n0 : Nat) (Z0 : n0 ≤ h0.size) :
    MetFree l (⟨"com/example/forel/forel/TypeIsPrefixPinLaw", "documentedPrefix", "(I)Z"⟩ : MethodName) (head1 (Jvm.Cond.code (⟨"com/example/forel/forel/TypeIsPrefixPinLaw", "documentedPrefix", "(I)Z"⟩ : MethodName) method_3_code 1 (some .boolean) :: ws) ({ frames := 0, cells := 0, slots := 0, locals := 0 } : Room)) (fun a U => a = #[(.int p1)] ∧ Z.Warmed39 U.vm ∧ U.heap = h0) (fun _ _ _ _ _ => True) (fun _ U o U' => ∃ v L, o = .returned v ∧ Q3 Z p1 h0 n0 v U'.heap L ∧ FrameEnd U o U' L ({ frames := 0, cells := 0, slots := 0, locals := 0 } : Room).cells ({ frames := 0, cells := 0, slots := 0, locals := 0 } : Room).slots) := by
  refine MetFree.of_bodySF (plainFor_of_name pn0) hisR ?_
  intro p e s m args below meth c s₁ Bd hml0 hP hK
  obtain ⟨rfl, hZ, hh⟩ := hP
  have hx := Bd.exec
  have hby := Bd.bytes
  have hml : c.maxLocals = 1 := hml0
  have hown : s.vm.findClass "com/example/forel/forel/TypeIsPrefixPinLaw" = some m.cls := findClass_of_methodNamed Bd.named
  have hnm := (name_of_methodNamed Bd.named Bd.method).1
  have X0 : Stand p l e ({ frames := 0, cells := 0, slots := 0, locals := 0 } : Room) s m #[(.int p1)] below meth c s₁ [] 0 0 := Stand.of_body Bd
  have e0 : s₁.heap = h0 := by rw [← hh, Bd.state]; rfl
  have N0 := Fr.nil n0
  have K0 : Keep h0 h0 [] := Keep.refl h0 _
  refine Go.st (P := fun o U' => ∃ v L, o = .returned v ∧ Q3 Z p1 h0 n0 v U'.heap L ∧ FrameEnd s o U' L ({ frames := 0, cells := 0, slots := 0, locals := 0 } : Room).cells ({ frames := 0, cells := 0, slots := 0, locals := 0 } : Room).slots) (fun t k => castTop (ef3 m p1) k) ?_
  show Go _ _ _ (s₁.setTop (mkF m 0 #[.val (.int p1)] [])) _
  refine Go.st (fun t k => XS.iloadN X0.here hx rfl (hb hby d3_0) rfl k) ?_
  by_cases hc1 : p1 = (0 : Int32)
  · refine Go.st (fun t k => XS.ifNo X0.here hx rfl (hb hby d3_1) rfl ((if0 _ _).trans (teq hc1).2) k) ?_
    show Go _ _ _ (s₁.setTop (mkF m 4 #[.val (.int p1)] [])) _
    refine Go.st (fun t k => XS.iconst X0.here hx rfl (hb hby d3_4) k) ?_
    obtain ⟨fs, hr, hrun, hended, hW, hsame⟩ := X0.leave (v := some (.int (1 : Int32))) (fun h => by rw [Bd.returns] at h; cases h)
    refine Go.fin (retN X0 hx (t := .boolean) Bd.returns (by simp) (hb hby d3_5) hr) hrun hended ⟨_, _, rfl, ?_, ⟨_, rfl⟩, hW, hsame.mono (by decide) (by decide)⟩
    show Q3 Z p1 h0 n0 _ s₁.heap _
    rw [e0]
    exact ⟨(by unfold f3; simp only [if_pos hc1]), N0, rfl⟩
  · refine Go.st (fun t k => XS.ifYes X0.here hx rfl (pc0 := 1) (pc' := 6) rfl (hb hby d3_1) rfl ((if0 _ _).trans (feq hc1).2) (by decide) (by decide) k) ?_
    show Go _ _ _ (s₁.setTop (mkF m 6 #[.val (.int p1)] [])) _
    refine Go.st (fun t k => XS.iloadN X0.here hx rfl (hb hby d3_6) rfl k) ?_
    refine Go.st (fun t k => XS.iconst X0.here hx rfl (hb hby d3_7) k) ?_
    by_cases hc2 : p1 = (1 : Int32)
    · refine Go.st (fun t k => XS.icmpNo X0.here hx rfl (hb hby d3_8) rfl (teq hc2).2 k) ?_
      show Go _ _ _ (s₁.setTop (mkF m 11 #[.val (.int p1)] [])) _
      refine Go.st (fun t k => XS.iconst X0.here hx rfl (hb hby d3_11) k) ?_
      obtain ⟨fs, hr, hrun, hended, hW, hsame⟩ := X0.leave (v := some (.int (1 : Int32))) (fun h => by rw [Bd.returns] at h; cases h)
      refine Go.fin (retN X0 hx (t := .boolean) Bd.returns (by simp) (hb hby d3_12) hr) hrun hended ⟨_, _, rfl, ?_, ⟨_, rfl⟩, hW, hsame.mono (by decide) (by decide)⟩
      show Q3 Z p1 h0 n0 _ s₁.heap _
      rw [e0]
      exact ⟨(by unfold f3; simp only [if_neg hc1, if_pos hc2]), N0, rfl⟩
    · refine Go.st (fun t k => XS.icmpYes X0.here hx rfl (pc0 := 8) (pc' := 13) rfl (hb hby d3_8) rfl (feq hc2).2 (by decide) (by decide) k) ?_
      show Go _ _ _ (s₁.setTop (mkF m 13 #[.val (.int p1)] [])) _
      refine Go.st (fun t k => XS.iconst X0.here hx rfl (hb hby d3_13) k) ?_
      obtain ⟨fs, hr, hrun, hended, hW, hsame⟩ := X0.leave (v := some (.int (0 : Int32))) (fun h => by rw [Bd.returns] at h; cases h)
      refine Go.fin (retN X0 hx (t := .boolean) Bd.returns (by simp) (hb hby d3_14) hr) hrun hended ⟨_, _, rfl, ?_, ⟨_, rfl⟩, hW, hsame.mono (by decide) (by decide)⟩
      show Q3 Z p1 h0 n0 _ s₁.heap _
      rw [e0]
      exact ⟨(by unfold f3; simp only [if_neg hc1, if_neg hc2]), N0, rfl⟩
theorem wd0 {Z : State} {a0 : Array Value} (hw : ∀ d ∈ tables_1, d.before a0 Z = true) : (Jvm.Cond.constant "com/example/forel/forel/TypeIsPrefixPinLaw" (25 : Nat) (2147483647 : Int32)).before a0 Z = true := hw _ (List.mem_of_getElem? (i := 0) rfl)
theorem wd1 {Z : State} {a0 : Array Value} (hw : ∀ d ∈ tables_1, d.before a0 Z = true) : (Jvm.Cond.methodLink "com/example/forel/forel/TypeIsPrefixPinLaw" (26 : Nat) ({ cls := "com/example/forel/forel/TypeIsPrefixPinLaw", name := "pick", desc := "(I)Lcom/example/forel/forel/Operators$Type;" } : Jvm.MethodName)).before a0 Z = true := hw _ (List.mem_of_getElem? (i := 1) rfl)
theorem wd4 {Z : State} {a0 : Array Value} (hw : ∀ d ∈ tables_1, d.before a0 Z = true) : (Jvm.Cond.code ({ cls := "com/example/forel/forel/TypeIsPrefixPinLaw", name := "pick", desc := "(I)Lcom/example/forel/forel/Operators$Type;" } : Jvm.MethodName) method_2_code (1 : Nat) (Option.some (Jvm.ClassFile.FieldType.object "com/example/forel/forel/Operators$Type"))).before a0 Z = true := hw _ (List.mem_of_getElem? (i := 4) rfl)
theorem wd3 {Z : State} {a0 : Array Value} (hw : ∀ d ∈ tables_1, d.before a0 Z = true) : (Jvm.Cond.initialized "com/example/forel/forel/TypeIsPrefixPinLaw").before a0 Z = true := hw _ (List.mem_of_getElem? (i := 3) rfl)
theorem pd0 : parseMethodDescriptor "(I)Lcom/example/forel/forel/Operators$Type;" = some ⟨[.int], some (.object "com/example/forel/forel/Operators$Type")⟩ := by decide +kernel
theorem wd2 {Z : State} {a0 : Array Value} (hw : ∀ d ∈ tables_1, d.before a0 Z = true) : (Jvm.Cond.static ({ cls := "com/example/forel/forel/TypeIsPrefixPinLaw", name := "pick", desc := "(I)Lcom/example/forel/forel/Operators$Type;" } : Jvm.MethodName)).before a0 Z = true := hw _ (List.mem_of_getElem? (i := 2) rfl)
theorem wd8 {Z : State} {a0 : Array Value} (hw : ∀ d ∈ tables_1, d.before a0 Z = true) : (Jvm.Cond.methodLink "com/example/forel/forel/TypeIsPrefixPinLaw" (32 : Nat) ({ cls := "com/example/forel/forel/Operators$Type", name := "isPrefix", desc := "()Z" } : Jvm.MethodName)).before a0 Z = true := hw _ (List.mem_of_getElem? (i := 8) rfl)
theorem wd12 {Z : State} {a0 : Array Value} (hw : ∀ d ∈ tables_1, d.before a0 Z = true) : (Jvm.Cond.code ({ cls := "com/example/forel/forel/Operators$Type", name := "isPrefix", desc := "()Z" } : Jvm.MethodName) prog_57_method_4_code (1 : Nat) (Option.some Jvm.ClassFile.FieldType.boolean)).before a0 Z = true := hw _ (List.mem_of_getElem? (i := 12) rfl)
theorem wd6 {Z : State} {a0 : Array Value} (hw : ∀ d ∈ tables_1, d.before a0 Z = true) : (Jvm.Cond.initialized "com/example/forel/forel/Operators$Type").before a0 Z = true := hw _ (List.mem_of_getElem? (i := 6) rfl)
theorem pd1 : parseMethodDescriptor "()Z" = some ⟨[], some .boolean⟩ := by decide +kernel
theorem wd11 {Z : State} {a0 : Array Value} (hw : ∀ d ∈ tables_1, d.before a0 Z = true) : (Jvm.Cond.selects "com/example/forel/forel/Operators$Type" ({ cls := "com/example/forel/forel/Operators$Type", name := "isPrefix", desc := "()Z" } : Jvm.MethodName) ({ cls := "com/example/forel/forel/Operators$Type", name := "isPrefix", desc := "()Z" } : Jvm.MethodName)).before a0 Z = true := hw _ (List.mem_of_getElem? (i := 11) rfl)
theorem wd9 {Z : State} {a0 : Array Value} (hw : ∀ d ∈ tables_1, d.before a0 Z = true) : (Jvm.Cond.declares ({ cls := "com/example/forel/forel/Operators$Type", name := "isPrefix", desc := "()Z" } : Jvm.MethodName)).before a0 Z = true := hw _ (List.mem_of_getElem? (i := 9) rfl)
theorem wd10 {Z : State} {a0 : Array Value} (hw : ∀ d ∈ tables_1, d.before a0 Z = true) : (Jvm.Cond.instanceMethod ({ cls := "com/example/forel/forel/Operators$Type", name := "isPrefix", desc := "()Z" } : Jvm.MethodName)).before a0 Z = true := hw _ (List.mem_of_getElem? (i := 10) rfl)
theorem wd14 {Z : State} {a0 : Array Value} (hw : ∀ d ∈ tables_1, d.before a0 Z = true) : (Jvm.Cond.methodLink "com/example/forel/forel/TypeIsPrefixPinLaw" (36 : Nat) ({ cls := "com/example/forel/forel/TypeIsPrefixPinLaw", name := "documentedPrefix", desc := "(I)Z" } : Jvm.MethodName)).before a0 Z = true := hw _ (List.mem_of_getElem? (i := 14) rfl)
theorem wd16 {Z : State} {a0 : Array Value} (hw : ∀ d ∈ tables_1, d.before a0 Z = true) : (Jvm.Cond.code ({ cls := "com/example/forel/forel/TypeIsPrefixPinLaw", name := "documentedPrefix", desc := "(I)Z" } : Jvm.MethodName) method_3_code (1 : Nat) (Option.some Jvm.ClassFile.FieldType.boolean)).before a0 Z = true := hw _ (List.mem_of_getElem? (i := 16) rfl)
theorem pd2 : parseMethodDescriptor "(I)Z" = some ⟨[.int], some .boolean⟩ := by decide +kernel
theorem wd15 {Z : State} {a0 : Array Value} (hw : ∀ d ∈ tables_1, d.before a0 Z = true) : (Jvm.Cond.static ({ cls := "com/example/forel/forel/TypeIsPrefixPinLaw", name := "documentedPrefix", desc := "(I)Z" } : Jvm.MethodName)).before a0 Z = true := hw _ (List.mem_of_getElem? (i := 15) rfl)
def f0 (p1 : Int32) (w_FX : Addr) (w_FY : Addr) (w_XFX : Addr) (w_XFY : Addr) (w_YFX : Addr) : Int32 := (if (f2 (f1 ((p1 &&& (2147483647 : Int32)) % (5 : Int32)) w_FX w_FY w_XFX w_XFY w_YFX) w_FX w_FY) = (f3 ((p1 &&& (2147483647 : Int32)) % (5 : Int32))) then (1 : Int32) else (0 : Int32))
def Q0 (Z : State) (p1 : Int32) (w_FX : Addr) (w_FY : Addr) (w_XFX : Addr) (w_XFY : Addr) (w_YFX : Addr) (h0 : Heap) (n0 : Nat) (v : Option Value) (h : Heap) (L : List Loc) : Prop := v = some (.int (f0 p1 w_FX w_FY w_XFX w_XFY w_YFX)) ∧ Fr n0 L
theorem ef0 (m : MethodId) (x0 : Int32) : entryFrame m #[(.int x0)] maxLocals = mkF m 0 #[.val (.int x0), .unset, .unset] [] := by first | (simp [entryFrame, mkF, argsToLocals, Value.category, maxLocals]; done) | rfl
set_option maxRecDepth 65536 in
set_option maxHeartbeats 16000000 in
theorem rm0 (l : Launch) (Z : State) (a0 : Array Value) (hw : ∀ d ∈ tables_1, d.before a0 Z = true) (ws : List Jvm.Cond) (p1 : Int32) (w_FX : Addr) (w_FY : Addr) (w_XFX : Addr) (w_XFY : Addr) (w_YFX : Addr) (h0 : Heap) (n0 : Nat) (Z0 : n0 ≤ h0.size) (S_FX : Sta Z h0 "com/example/forel/forel/Operators$Type" "FX" "Lcom/example/forel/forel/Operators$Type;" (.ref w_FX)) (E_w_FX : Exa Z h0 w_FX "com/example/forel/forel/Operators$Type") (S_FY : Sta Z h0 "com/example/forel/forel/Operators$Type" "FY" "Lcom/example/forel/forel/Operators$Type;" (.ref w_FY)) (E_w_FY : Exa Z h0 w_FY "com/example/forel/forel/Operators$Type") (S_XFX : Sta Z h0 "com/example/forel/forel/Operators$Type" "XFX" "Lcom/example/forel/forel/Operators$Type;" (.ref w_XFX)) (E_w_XFX : Exa Z h0 w_XFX "com/example/forel/forel/Operators$Type") (S_XFY : Sta Z h0 "com/example/forel/forel/Operators$Type" "XFY" "Lcom/example/forel/forel/Operators$Type;" (.ref w_XFY)) (E_w_XFY : Exa Z h0 w_XFY "com/example/forel/forel/Operators$Type") (S_YFX : Sta Z h0 "com/example/forel/forel/Operators$Type" "YFX" "Lcom/example/forel/forel/Operators$Type;" (.ref w_YFX)) (E_w_YFX : Exa Z h0 w_YFX "com/example/forel/forel/Operators$Type") :
    MetFree l x (head1 (Jvm.Cond.code x code maxLocals ret :: ws) room_1) (fun a U => a = #[(.int p1)] ∧ Z.Warmed39 U.vm ∧ U.heap = h0) (fun _ _ _ _ _ => True) (fun _ U o U' => ∃ v L, o = .returned v ∧ Q0 Z p1 w_FX w_FY w_XFX w_XFY w_YFX h0 n0 v U'.heap L ∧ FrameEnd U o U' L 0 0) := by
  refine MetFree.of_bodySF (plainFor_of_name pn0) hisR ?_
  intro p e s m args below meth c s₁ Bd hml0 hP hK
  obtain ⟨rfl, hZ, hh⟩ := hP
  have hx := Bd.exec
  have hby := Bd.bytes
  have hml : c.maxLocals = 3 := hml0
  have hown : s.vm.findClass "com/example/forel/forel/TypeIsPrefixPinLaw" = some m.cls := findClass_of_methodNamed Bd.named
  have hnm := (name_of_methodNamed Bd.named Bd.method).1
  have X0 : Stand p l e room_1 s m #[(.int p1)] below meth c s₁ [] 0 0 := Stand.of_body Bd
  have e0 : s₁.heap = h0 := by rw [← hh, Bd.state]; rfl
  have N0 := Fr.nil n0
  have K0 : Keep h0 h0 [] := Keep.refl h0 _
  refine Go.st (P := fun o U' => ∃ v L, o = .returned v ∧ Q0 Z p1 w_FX w_FY w_XFX w_XFY w_YFX h0 n0 v U'.heap L ∧ FrameEnd s o U' L 0 0) (fun t k => castTop (ef0 m p1) k) ?_
  show Go _ _ _ (s₁.setTop (mkF m 0 #[.val (.int p1), .unset, .unset] [])) _
  refine Go.st (fun t k => XS.iloadN X0.here hx rfl (hb hby at_0) rfl k) ?_
  refine Go.st (fun t k => X0.ldcInt hx hown (mvT hZ (wd0 hw)) (g := (mkF m 1 #[.val (.int p1), .unset, .unset] [(.int p1)])) rfl (hb hby at_1) _ k) ?_
  show Go _ _ _ (s₁.setTop (mkF m 3 #[.val (.int p1), .unset, .unset] [(.int 2147483647), (.int p1)])) _
  refine Go.st (fun t k => XS.iand X0.here hx rfl (hb hby at_3) rfl k) ?_
  show Go _ _ _ (s₁.setTop (mkF m 4 #[.val (.int p1), .unset, .unset] [(.int (p1 &&& (2147483647 : Int32)))])) _
  refine Go.st (fun t k => XS.iconst X0.here hx rfl (hb hby at_4) k) ?_
  refine Go.st (fun t k => iremM X0 hx rfl (hb hby at_5) rfl (by decide) k) ?_
  show Go _ _ _ (s₁.setTop (mkF m 6 #[.val (.int p1), .unset, .unset] [(.int ((p1 &&& (2147483647 : Int32)) % (5 : Int32)))])) _
  refine Go.st (fun t k => XS.istoreN X0.here hx rfl (hb hby at_6) rfl (l' := #[.val (.int p1), .val (.int ((p1 &&& (2147483647 : Int32)) % (5 : Int32))), .unset]) rfl k) ?_
  refine Go.st (fun t k => XS.iloadN X0.here hx rfl (hb hby at_7) rfl k) ?_
  obtain ⟨_, _, ⟨T1, L1, k1, n1⟩, -, X1, ⟨Lc1, hQ1, l1, y1, z1⟩, st1⟩ := Jvm.LawKit.callS X0 hx (y := (⟨"com/example/forel/forel/TypeIsPrefixPinLaw", "pick", "(I)Lcom/example/forel/forel/Operators$Type;"⟩ : MethodName)) hown (mvT hZ (wd1 hw)) (mvT hZ (wd2 hw)) (mvT hZ (wd3 hw)) (mvT hZ (wd4 hw)) (by decide) (backOf (W := 0) (rm1 l Z a0 hw [] ((p1 &&& (2147483647 : Int32)) % (5 : Int32)) w_FX w_FY w_XFX w_XFY w_YFX h0 n0 Z0 S_FX E_w_FX S_FY E_w_FY S_XFX E_w_XFX S_XFY E_w_XFY S_YFX E_w_YFX) hZ (wd4 hw) (wd3 hw) (by decide) (by decide)) (g := (mkF m 8 #[.val (.int p1), .val (.int ((p1 &&& (2147483647 : Int32)) % (5 : Int32))), .unset] [(.int ((p1 &&& (2147483647 : Int32)) % (5 : Int32)))])) rfl (by rw [hml]; rfl) (argsL := [(.int ((p1 &&& (2147483647 : Int32)) % (5 : Int32)))]) (rest := []) (lenOf pd0 rfl) rfl (by show 2 * 0 + _ ≤ _; exact Nat.le_of_eq rfl) (hb hby at_8) (fun _ _ => ⟨rfl, e0, (by decide : 0 + 0 ≤ _), (by decide : 0 + 0 ≤ _)⟩)
  dsimp only [Pt.U, Pt.locs, Pt.cells, Pt.slots] at X1 l1 y1 z1 st1 hQ1
  subst l1 y1 z1
  refine Go.st st1 ?_
  obtain ⟨rfl, N1q, e1, E1_r⟩ := hQ1
  have N1 := Fr.app N0 N1q
  rw [e1] at E1_r
  show Go _ _ _ (T1.setTop (mkF m 11 #[.val (.int p1), .val (.int ((p1 &&& (2147483647 : Int32)) % (5 : Int32))), .unset] [(.ref (f1 ((p1 &&& (2147483647 : Int32)) % (5 : Int32)) w_FX w_FY w_XFX w_XFY w_YFX))])) _
  refine Go.st (fun t k => XS.astoreN X1.here hx rfl (hb hby at_11) rfl rfl (l' := #[.val (.int p1), .val (.int ((p1 &&& (2147483647 : Int32)) % (5 : Int32))), .val (.ref (f1 ((p1 &&& (2147483647 : Int32)) % (5 : Int32)) w_FX w_FY w_XFX w_XFY w_YFX))]) rfl k) ?_
  refine Go.st (fun t k => XS.aloadN X1.here hx rfl (hb hby at_12) rfl rfl k) ?_
  obtain ⟨cq2, kq2, q2a, q2b, q2c⟩ := isOf hZ e1 E1_r
  obtain ⟨_, _, ⟨T2, L2, k2, n2⟩, -, X2, ⟨Lc2, hQ2, l2, y2, z2⟩, st2⟩ := X1.virtualBack hx (y := (⟨"com/example/forel/forel/Operators$Type", "isPrefix", "()Z"⟩ : MethodName)) (z := (⟨"com/example/forel/forel/Operators$Type", "isPrefix", "()Z"⟩ : MethodName)) hown (mvT hZ (wd8 hw)) (mvT hZ (wd9 hw)) (notFace_of_selects (args := #[]) (mvT hZ (wd11 hw))) (mvT hZ (wd11 hw)) (mvT hZ (wd10 hw)) (by decide) (backOf (W := 0) (rm2 l Z a0 hw [] (f1 ((p1 &&& (2147483647 : Int32)) % (5 : Int32)) w_FX w_FY w_XFX w_XFY w_YFX) w_FX w_FY h0 n0 Z0 S_FX E_w_FX S_FY E_w_FY) hZ (wd12 hw) (wd6 hw) (by decide) (by decide)) q2a q2c (g := (mkF m 13 #[.val (.int p1), .val (.int ((p1 &&& (2147483647 : Int32)) % (5 : Int32))), .val (.ref (f1 ((p1 &&& (2147483647 : Int32)) % (5 : Int32)) w_FX w_FY w_XFX w_XFY w_YFX))] [(.ref (f1 ((p1 &&& (2147483647 : Int32)) % (5 : Int32)) w_FX w_FY w_XFX w_XFY w_YFX))])) rfl (by rw [hml]; rfl) (Steps.refl _) (argsL := []) (rest := []) (lenOf pd1 rfl) rfl (by show 2 * 0 + _ ≤ _; exact Nat.le_of_eq rfl) (hb hby at_13) (fun _ _ => ⟨rfl, e1, (by decide : 0 + 0 ≤ _), (by decide : 0 + 0 ≤ _)⟩)
  dsimp only [Pt.U, Pt.locs, Pt.cells, Pt.slots] at X2 l2 y2 z2 st2 hQ2
  subst l2 y2 z2
  refine Go.tr st2 ?_
  obtain ⟨rfl, N2q, e2⟩ := hQ2
  have N2 := Fr.app N1 N2q
  show Go _ _ _ (T2.setTop (mkF m 16 #[.val (.int p1), .val (.int ((p1 &&& (2147483647 : Int32)) % (5 : Int32))), .val (.ref (f1 ((p1 &&& (2147483647 : Int32)) % (5 : Int32)) w_FX w_FY w_XFX w_XFY w_YFX))] [(.int (f2 (f1 ((p1 &&& (2147483647 : Int32)) % (5 : Int32)) w_FX w_FY w_XFX w_XFY w_YFX) w_FX w_FY))])) _
  refine Go.st (fun t k => XS.iloadN X2.here hx rfl (hb hby at_16) rfl k) ?_
  obtain ⟨_, _, ⟨T3, L3, k3, n3⟩, -, X3, ⟨Lc3, hQ3, l3, y3, z3⟩, st3⟩ := Jvm.LawKit.callS X2 hx (y := (⟨"com/example/forel/forel/TypeIsPrefixPinLaw", "documentedPrefix", "(I)Z"⟩ : MethodName)) hown (mvT hZ (wd14 hw)) (mvT hZ (wd15 hw)) (mvT hZ (wd3 hw)) (mvT hZ (wd16 hw)) (by decide) (backOf (W := 1) (rm3 l Z a0 hw [] ((p1 &&& (2147483647 : Int32)) % (5 : Int32)) h0 n0 Z0) hZ (wd16 hw) (wd3 hw) (by decide) (by decide)) (g := (mkF m 17 #[.val (.int p1), .val (.int ((p1 &&& (2147483647 : Int32)) % (5 : Int32))), .val (.ref (f1 ((p1 &&& (2147483647 : Int32)) % (5 : Int32)) w_FX w_FY w_XFX w_XFY w_YFX))] [(.int ((p1 &&& (2147483647 : Int32)) % (5 : Int32))), (.int (f2 (f1 ((p1 &&& (2147483647 : Int32)) % (5 : Int32)) w_FX w_FY w_XFX w_XFY w_YFX) w_FX w_FY))])) rfl (by rw [hml]; rfl) (argsL := [(.int ((p1 &&& (2147483647 : Int32)) % (5 : Int32)))]) (rest := [(.int (f2 (f1 ((p1 &&& (2147483647 : Int32)) % (5 : Int32)) w_FX w_FY w_XFX w_XFY w_YFX) w_FX w_FY))]) (lenOf pd2 rfl) rfl (by show 2 * 0 + _ ≤ _; exact Nat.le_of_eq rfl) (hb hby at_17) (fun _ _ => ⟨rfl, e2, (by decide : 0 + 0 ≤ _), (by decide : 0 + 0 ≤ _)⟩)
  dsimp only [Pt.U, Pt.locs, Pt.cells, Pt.slots] at X3 l3 y3 z3 st3 hQ3
  subst l3 y3 z3
  refine Go.st st3 ?_
  obtain ⟨rfl, N3q, e3⟩ := hQ3
  have N3 := Fr.app N2 N3q
  show Go _ _ _ (T3.setTop (mkF m 20 #[.val (.int p1), .val (.int ((p1 &&& (2147483647 : Int32)) % (5 : Int32))), .val (.ref (f1 ((p1 &&& (2147483647 : Int32)) % (5 : Int32)) w_FX w_FY w_XFX w_XFY w_YFX))] [(.int (f3 ((p1 &&& (2147483647 : Int32)) % (5 : Int32)))), (.int (f2 (f1 ((p1 &&& (2147483647 : Int32)) % (5 : Int32)) w_FX w_FY w_XFX w_XFY w_YFX) w_FX w_FY))])) _
  by_cases hc4 : (f2 (f1 ((p1 &&& (2147483647 : Int32)) % (5 : Int32)) w_FX w_FY w_XFX w_XFY w_YFX) w_FX w_FY) = (f3 ((p1 &&& (2147483647 : Int32)) % (5 : Int32)))
  · refine Go.st (fun t k => XS.icmpNo X3.here hx rfl (hb hby at_20) rfl (teq hc4).2 k) ?_
    show Go _ _ _ (T3.setTop (mkF m 23 #[.val (.int p1), .val (.int ((p1 &&& (2147483647 : Int32)) % (5 : Int32))), .val (.ref (f1 ((p1 &&& (2147483647 : Int32)) % (5 : Int32)) w_FX w_FY w_XFX w_XFY w_YFX))] [])) _
    refine Go.st (fun t k => XS.iconst X3.here hx rfl (hb hby at_23) k) ?_
    refine Go.st (fun t k => XS.goto X3.here hx rfl (pc0 := 24) (pc' := 28) rfl (hb hby at_24) (by decide) (by decide) k) ?_
    obtain ⟨fs, hr, hrun, hended, hW, hsame⟩ := X3.leave (v := some (.int (1 : Int32))) (fun h => by rw [Bd.returns] at h; cases h)
    refine Go.fin (retN X3 hx (t := .boolean) Bd.returns (by simp) (hb hby at_28) hr) hrun hended ⟨_, _, rfl, ?_, ⟨_, rfl⟩, hW, hsame.mono (by decide) (by decide)⟩
    show Q0 Z p1 w_FX w_FY w_XFX w_XFY w_YFX h0 n0 _ T3.heap _
    rw [e3]
    exact ⟨(by unfold f0; simp only [if_pos hc4]), N3⟩
  · refine Go.st (fun t k => XS.icmpYes X3.here hx rfl (pc0 := 20) (pc' := 27) rfl (hb hby at_20) rfl (feq hc4).2 (by decide) (by decide) k) ?_
    show Go _ _ _ (T3.setTop (mkF m 27 #[.val (.int p1), .val (.int ((p1 &&& (2147483647 : Int32)) % (5 : Int32))), .val (.ref (f1 ((p1 &&& (2147483647 : Int32)) % (5 : Int32)) w_FX w_FY w_XFX w_XFY w_YFX))] [])) _
    refine Go.st (fun t k => XS.iconst X3.here hx rfl (hb hby at_27) k) ?_
    obtain ⟨fs, hr, hrun, hended, hW, hsame⟩ := X3.leave (v := some (.int (0 : Int32))) (fun h => by rw [Bd.returns] at h; cases h)
    refine Go.fin (retN X3 hx (t := .boolean) Bd.returns (by simp) (hb hby at_28) hr) hrun hended ⟨_, _, rfl, ?_, ⟨_, rfl⟩, hW, hsame.mono (by decide) (by decide)⟩
    show Q0 Z p1 w_FX w_FY w_XFX w_XFY w_YFX h0 n0 _ T3.heap _
    rw [e3]
    exact ⟨(by unfold f0; simp only [if_neg hc4]), N3⟩
theorem own_plain (p1 : Int32) (a0 a1 a2 a3 a4 : Addr) (n2 : a2 ≠ a0) (n3 : a3 ≠ a0) (n4 : a4 ≠ a0) (m2 : a2 ≠ a1) (m3 : a3 ≠ a1) (m4 : a4 ≠ a1) : f0 p1 a0 a1 a2 a3 a4 = 1 := by
  unfold f0
  generalize ((p1 &&& (2147483647 : Int32)) % (5 : Int32)) = i
  rw [if_pos]
  by_cases h0 : i = 0
  · subst h0
    simp [f1, f2, f3]
  · by_cases h1 : i = 1
    · subst h1
      simp [f1, f2, f3]
    · unfold f1 f2 f3
      rw [if_neg h0, if_neg h1, if_neg h0, if_neg h1]
      repeat' split
      all_goals simp_all

theorem wd7 {Z : State} {a0 : Array Value} (hw : ∀ d ∈ tables_1, d.before a0 Z = true) : (Jvm.Cond.laysStatic "com/example/forel/forel/Operators$Type" "FX" "Lcom/example/forel/forel/Operators$Type;").before a0 Z = true := hw _ (List.mem_of_getElem? (i := 7) rfl)
theorem wd18 {Z : State} {a0 : Array Value} (hw : ∀ d ∈ tables_1, d.before a0 Z = true) : (Jvm.Cond.laysStatic "com/example/forel/forel/Operators$Type" "XFY" "Lcom/example/forel/forel/Operators$Type;").before a0 Z = true := hw _ (List.mem_of_getElem? (i := 18) rfl)
theorem wd20 {Z : State} {a0 : Array Value} (hw : ∀ d ∈ tables_1, d.before a0 Z = true) : (Jvm.Cond.laysStatic "com/example/forel/forel/Operators$Type" "FY" "Lcom/example/forel/forel/Operators$Type;").before a0 Z = true := hw _ (List.mem_of_getElem? (i := 20) rfl)
theorem wd23 {Z : State} {a0 : Array Value} (hw : ∀ d ∈ tables_1, d.before a0 Z = true) : (Jvm.Cond.laysStatic "com/example/forel/forel/Operators$Type" "YFX" "Lcom/example/forel/forel/Operators$Type;").before a0 Z = true := hw _ (List.mem_of_getElem? (i := 23) rfl)
theorem wd25 {Z : State} {a0 : Array Value} (hw : ∀ d ∈ tables_1, d.before a0 Z = true) : (Jvm.Cond.laysStatic "com/example/forel/forel/Operators$Type" "XFX" "Lcom/example/forel/forel/Operators$Type;").before a0 Z = true := hw _ (List.mem_of_getElem? (i := 25) rfl)
set_option maxRecDepth 65536 in
set_option maxHeartbeats 16000000 in
theorem comes_1 {Post : Tables → Env → Array Value → State → Outcome → State → Prop} (hpost : ∀ tb e args s v u, (limb_1_1.after args s (.returned v) u = true ∧ limb_1_2.after args s (.returned v) u = true ∧ True) → FrameEnd s (.returned v) u (Jvm.fieldLocs frame_1_writes args s ++ Jvm.arrayLocs frame_1_arrays args s ++ Jvm.staticLocs frame_1_statics s) 0 0 → Post tb e args s (.returned v) u) :
    ArmFor flags0 classFile x code maxLocals ret World_1 tables_1 room_1 Calls_1 rest_1 Pre_1 Post := by
  intro l hfl _ _ p e ha hc hk s m args below hf hA hF happ hP
  obtain ⟨hcalls, hrest, hpre⟩ := hP
  obtain ⟨-, -, -, hnamed, -, -, -, hat⟩ := (Spec.applies_iff hf).mp happ
  obtain ⟨hg, hn⟩ := and_e (Cond.before_iff.mp (show (Jvm.Cond.and given_1 narrow_1).before args s = true from hpre))
  obtain ⟨g1, g2⟩ := and_e hg
  obtain ⟨g3, g4⟩ := and_e hn
  obtain ⟨g5, g6⟩ := and_e g4
  obtain ⟨g7, g8⟩ := and_e g6
  obtain ⟨g9, g10⟩ := and_e g8
  obtain ⟨g11, g12⟩ := and_e g10
  obtain ⟨g13, g14⟩ := and_e g12
  obtain ⟨g15, g16⟩ := and_e g14
  obtain ⟨g17, g18⟩ := and_e g16
  obtain ⟨g19, g20⟩ := and_e g18
  obtain ⟨w0, rfl⟩ : ∃ w0 : Value, args = #[w0] := by
    have hs : args.size = 1 := by simpa [Cond.value, given_1] using g1
    obtain ⟨L⟩ := args
    match L, hs with
    | [w0], _ => exact ⟨w0, rfl⟩
  have hw := fun d (hd : d ∈ tables_1) => atoms_spec (ws := Jvm.Cond.code x code maxLocals ret :: tables_1) hat d (List.mem_cons_of_mem _ hd)
  have hfit : Fit s := fun {y c} hc i hi => by
    obtain ⟨ha, rfl⟩ := Array.getElem?_eq_some_iff.mp hc
    have q := List.all_eq_true.mp ((Array.all_eq_true_iff_forall_mem.mp hF) _ (Array.getElem_mem ha)) i (List.mem_range.mpr hi)
    simpa [Array.getElem?_eq_getElem hi] using q
  obtain ⟨i0, ei0⟩ := is_v g2
  obtain rfl : w0 = (.int i0) := Option.some.inj ei0
  obtain ⟨v_FX, ev_v_FX⟩ := exa_v g3
  have E_v_FX := Exa.start ev_v_FX g3
  have S_v_FX := Sta.start ev_v_FX (Or.inr ⟨(wd6 hw), (wd7 hw)⟩)
  obtain ⟨v_XFY, ev_v_XFY⟩ := exa_v g5
  have E_v_XFY := Exa.start ev_v_XFY g5
  have S_v_XFY := Sta.start ev_v_XFY (Or.inr ⟨(wd6 hw), (wd18 hw)⟩)
  have F_v_XFY_ordinal := Fld.start ((fld_at ev_v_XFY).symm.trans (own_eqi g7))
  have F_v_FX_ordinal := Fld.start ((fld_at ev_v_FX).symm.trans (own_eqi g9))
  obtain ⟨v_FY, ev_v_FY⟩ := exa_v g11
  have E_v_FY := Exa.start ev_v_FY g11
  have S_v_FY := Sta.start ev_v_FY (Or.inr ⟨(wd6 hw), (wd20 hw)⟩)
  have F_v_FY_ordinal := Fld.start ((fld_at ev_v_FY).symm.trans (own_eqi g13))
  obtain ⟨v_YFX, ev_v_YFX⟩ := exa_v g15
  have E_v_YFX := Exa.start ev_v_YFX g15
  have S_v_YFX := Sta.start ev_v_YFX (Or.inr ⟨(wd6 hw), (wd23 hw)⟩)
  have F_v_YFX_ordinal := Fld.start ((fld_at ev_v_YFX).symm.trans (own_eqi g17))
  obtain ⟨v_XFX, ev_v_XFX⟩ := exa_v g19
  have E_v_XFX := Exa.start ev_v_XFX g19
  have S_v_XFX := Sta.start ev_v_XFX (Or.inr ⟨(wd6 hw), (wd25 hw)⟩)
  have F_v_XFX_ordinal := Fld.start ((fld_at ev_v_XFX).symm.trans (own_eqi g20))
  have hplain := own_plain i0 v_FX v_FY v_XFX v_XFY v_YFX (Fld.ne F_v_XFX_ordinal F_v_FX_ordinal (fun hq => absurd (Value.int.inj hq) (by decide))) (Fld.ne F_v_XFY_ordinal F_v_FX_ordinal (fun hq => absurd (Value.int.inj hq) (by decide))) (Fld.ne F_v_YFX_ordinal F_v_FX_ordinal (fun hq => absurd (Value.int.inj hq) (by decide))) (Fld.ne F_v_XFX_ordinal F_v_FY_ordinal (fun hq => absurd (Value.int.inj hq) (by decide))) (Fld.ne F_v_XFY_ordinal F_v_FY_ordinal (fun hq => absurd (Value.int.inj hq) (by decide))) (Fld.ne F_v_YFX_ordinal F_v_FY_ordinal (fun hq => absurd (Value.int.inj hq) (by decide)))
  obtain ⟨n, o, h1, h2, h3, _, L, rfl, ⟨rfl, N⟩, hq⟩ := rm0 l s _ hw tables_1 i0 v_FX v_FY v_XFX v_XFY v_YFX s.heap s.heap.size (Nat.le_refl _) S_v_FX E_v_FX S_v_FY E_v_FY S_v_XFX E_v_XFX S_v_XFY E_v_XFY S_v_YFX E_v_YFX p e ha hc hk s m _ below hf ((Spec.applies_iff_loose hf).mp happ).1 ⟨rfl, State.Warmed39.refl s, rfl⟩ trivial
  rw [hplain] at *
  refine ⟨n, _, h1, h2, h3, hpost _ _ _ _ _ _ ⟨Cond.after_iff.mpr rfl, Cond.after_iff.mpr (eq_i res_at (Term.int_eval (1)) rfl), trivial⟩ ⟨hq.1, hq.2.1, (hq.2.2.sift fun y hy => Or.inr (N y hy)).mono (by decide) (by decide)⟩⟩
theorem main_1_1 : Claimed_1_1 := comes_1 fun _ _ _ _ _ _ h hF => ⟨h.1, hF⟩
theorem main_1_2 : Claimed_1_2 := comes_1 fun _ _ _ _ _ _ h hF => ⟨h.2.1, hF⟩
end Jvm.Pilot.@@N@@
namespace Jvm.Pilot.@@N@@
open Jvm Jvm.ClassFile Sem Op Lib Jvm.Free Jvm.Stand Jvm.Pilot.@@N@@.Jvm.D
/-! MADE BY PROGRAM (witnessworld.py) out of the Statement's table words and the real class files: 12 classes; the members and pool entries that the words name. The judged class is class 1, her method 3. -/
namespace start1
open Jvm.ClassFile
def u (s : String) : CpInfo := .utf8 (stringToUtf16 s)
/-- a pool by its gaps: so many unusable entries, then the entry; so many at the end -/
def gap : Nat → List CpInfo → List CpInfo
  | 0, r => r
  | n + 1, r => .unusable :: gap n r
def poolList (es : List (Nat × CpInfo)) (last : Nat) : List CpInfo := es.foldr (fun e r => gap e.1 (e.2 :: r)) (gap last [])
def pool (es : List (Nat × CpInfo)) (last : Nat) : Array CpInfo := ⟨poolList es last⟩
def fileOf (pool : Array CpInfo) (this : Nat) (attrs : Array Attribute := #[]) (ms : Array MethodInfo := #[]) (fl : Nat := 33) (sup : Nat := 0) (ifs : Array Nat := #[]) (fds : Array FieldInfo := #[]) : ClassFile where
  minorVersion := 0
  majorVersion := 65
  constantPool := pool
  accessFlags := fl
  thisClass := this
  superClass := sup
  interfaces := ifs
  fields := fds
  methods := ms
  attributes := attrs
def plain (name : String) (sup : Option ClassId) : Class where
  name := name
  kind := .ordinary
  loader := none
  accessFlags := 33
  super := sup
  interfaces := #[]
  cf := none
  fields := #[]
  methods := #[]
  instanceTypes := #[]
  staticTypes := #[]
  resolved := #[]
  callSites := []
  init := .initialized
  statics := none
  mirror := none

def pool0 : Array CpInfo := pool [(5, u "<init>"), (0, u "()V"), (1, .class_ 10), (1, u "java/lang/Object")] 113

def k0m0 : Method := { name := "<init>", desc := "()V", sig := { parameters := [], returnType := none }, accessFlags := 1, code := none }
/-- java/lang/Object -/
def k0 : Class := { plain "java/lang/Object" none with
  accessFlags := 33
  interfaces := #[]
  cf := some (fileOf pool0 8 #[] #[{ accessFlags := 1, nameIndex := 5, descriptorIndex := 6, attributes := #[] }] 33 0 #[] #[])
  fields := #[]
  methods := #[k0m0]
  instanceTypes := #[]
  staticTypes := #[]
  resolved := Array.replicate 124 none
  statics := none }

def pool1 : Array CpInfo := pool [(2, .class_ 4), (1, u "java/lang/Object"), (0, u "<init>"), (0, u "()V"), (0, .fieldref 8 9), (0, .class_ 10), (0, .nameAndType 11 12), (0, u "com/example/forel/forel/Operators$Type"), (0, u "FX"), (0, u "Lcom/example/forel/forel/Operators$Type;"), (0, .fieldref 8 14), (0, .nameAndType 15 12), (0, u "FY"), (0, .fieldref 8 17), (0, .nameAndType 18 12), (0, u "XFX"), (0, .fieldref 8 20), (0, .nameAndType 21 12), (0, u "XFY"), (0, .fieldref 8 23), (0, .nameAndType 24 12), (0, u "YFX"), (0, .integer 2147483647), (0, .methodref 27 28), (0, .class_ 29), (0, .nameAndType 30 31), (0, u "com/example/forel/forel/TypeIsPrefixPinLaw"), (0, u "pick"), (0, u "(I)Lcom/example/forel/forel/Operators$Type;"), (0, .methodref 8 33), (0, .nameAndType 34 35), (0, u "isPrefix"), (0, u "()Z"), (0, .methodref 27 37), (0, .nameAndType 38 39), (0, u "documentedPrefix"), (0, u "(I)Z"), (3, u "law")] 6

def k1m0 : Method := { name := "<init>", desc := "()V", sig := { parameters := [], returnType := none }, accessFlags := 1, code := none }
def k1c1 : Code := { maxStack := 2, maxLocals := 1, code := method_2_code, exceptionTable := #[], attributes := #[] }
def k1m1 : Method := { name := "pick", desc := "(I)Lcom/example/forel/forel/Operators$Type;", sig := { parameters := [.int], returnType := some (.object "com/example/forel/forel/Operators$Type") }, accessFlags := 10, code := some k1c1 }
def k1c2 : Code := { maxStack := 2, maxLocals := 1, code := method_3_code, exceptionTable := #[], attributes := #[] }
def k1m2 : Method := { name := "documentedPrefix", desc := "(I)Z", sig := { parameters := [.int], returnType := some .boolean }, accessFlags := 10, code := some k1c2 }
def k1c3 : Code := { maxStack := 2, maxLocals := 3, code := code, exceptionTable := #[], attributes := #[] }
def k1m3 : Method := { name := "law", desc := "(I)Z", sig := { parameters := [.int], returnType := some .boolean }, accessFlags := 9, code := some k1c3 }
/-- com/example/forel/forel/TypeIsPrefixPinLaw -/
def k1 : Class := { plain "com/example/forel/forel/TypeIsPrefixPinLaw" (some 0) with
  accessFlags := 49
  interfaces := #[]
  cf := some (fileOf pool1 27 #[] #[{ accessFlags := 1, nameIndex := 5, descriptorIndex := 6, attributes := #[] }, { accessFlags := 10, nameIndex := 30, descriptorIndex := 31, attributes := #[] }, { accessFlags := 10, nameIndex := 38, descriptorIndex := 39, attributes := #[] }, { accessFlags := 9, nameIndex := 43, descriptorIndex := 39, attributes := #[] }] 49 2 #[] #[])
  fields := #[]
  methods := #[k1m0, k1m1, k1m2, k1m3]
  instanceTypes := #[]
  staticTypes := #[]
  resolved := Array.replicate 50 none
  statics := none }

def pool2 : Array CpInfo := pool [(1, .class_ 2), (0, u "java/lang/constant/Constable"), (0, .class_ 4), (0, u "java/lang/Object")] 6

/-- java/lang/constant/Constable -/
def k2 : Class := { plain "java/lang/constant/Constable" (some 0) with
  accessFlags := 1537
  interfaces := #[]
  cf := some (fileOf pool2 1 #[] #[] 1537 3 #[] #[])
  fields := #[]
  methods := #[]
  instanceTypes := #[]
  staticTypes := #[]
  resolved := Array.replicate 11 none
  statics := none }

def pool3 : Array CpInfo := pool [(1, .class_ 2), (0, u "java/lang/Comparable"), (0, .class_ 4), (0, u "java/lang/Object")] 7

/-- java/lang/Comparable -/
def k3 : Class := { plain "java/lang/Comparable" (some 0) with
  accessFlags := 1537
  interfaces := #[]
  cf := some (fileOf pool3 1 #[] #[] 1537 3 #[] #[])
  fields := #[]
  methods := #[]
  instanceTypes := #[]
  staticTypes := #[]
  resolved := Array.replicate 12 none
  statics := none }

def pool4 : Array CpInfo := pool [(1, .class_ 2), (0, u "java/io/Serializable"), (0, .class_ 4), (0, u "java/lang/Object")] 2

/-- java/io/Serializable -/
def k4 : Class := { plain "java/io/Serializable" (some 0) with
  accessFlags := 1537
  interfaces := #[]
  cf := some (fileOf pool4 1 #[] #[] 1537 3 #[] #[])
  fields := #[]
  methods := #[]
  instanceTypes := #[]
  staticTypes := #[]
  resolved := Array.replicate 7 none
  statics := none }

def pool5 : Array CpInfo := pool [(2, .class_ 4), (1, u "java/lang/Enum"), (0, u "name"), (0, u "Ljava/lang/String;"), (2, u "ordinal"), (0, u "I"), (1, .class_ 14), (1, u "java/lang/Object"), (4, u "hash"), (86, .class_ 108), (1, u "java/lang/Enum$EnumDesc"), (2, .class_ 112), (0, u "java/lang/constant/Constable"), (0, .class_ 114), (0, u "java/lang/Comparable"), (0, .class_ 116), (0, u "java/io/Serializable")] 87

/-- java/lang/Enum -/
def k5 : Class := { plain "java/lang/Enum" (some 0) with
  accessFlags := 1057
  interfaces := #[2, 3, 4]
  cf := some (fileOf pool5 2 #[.nestMembers #[106]] #[] 1057 12 #[111, 113, 115] #[{ accessFlags := 18, nameIndex := 5, descriptorIndex := 6, attributes := #[] }, { accessFlags := 18, nameIndex := 9, descriptorIndex := 10, attributes := #[] }, { accessFlags := 2, nameIndex := 19, descriptorIndex := 10, attributes := #[] }])
  fields := #[{ name := "name", type := (.object "java/lang/String"), accessFlags := 18, slot := 0, constantValue := 0 }, { name := "ordinal", type := .int, accessFlags := 18, slot := 1, constantValue := 0 }, { name := "hash", type := .int, accessFlags := 2, slot := 2, constantValue := 0 }]
  methods := #[]
  instanceTypes := #[(.object "java/lang/String"), .int, .int]
  staticTypes := #[]
  resolved := Array.replicate 204 none
  statics := none }

def pool6 : Array CpInfo := pool [(1, .class_ 2), (0, u "com/example/forel/forel/Operators$Type"), (0, .fieldref 1 4), (0, .nameAndType 5 6), (0, u "FX"), (0, u "Lcom/example/forel/forel/Operators$Type;"), (0, .fieldref 1 8), (0, .nameAndType 9 6), (0, u "FY"), (2, u "XFX"), (2, u "XFY"), (2, u "YFX"), (2, u "$VALUES"), (0, u "[Lcom/example/forel/forel/Operators$Type;"), (6, .class_ 31), (1, u "java/lang/Enum"), (23, u "isPrefix"), (0, u "()Z"), (6, .class_ 64), (0, u "com/example/forel/forel/Operators")] 2

def k6c0 : Code := { maxStack := 2, maxLocals := 1, code := prog_57_method_4_code, exceptionTable := #[], attributes := #[] }
def k6m0 : Method := { name := "isPrefix", desc := "()Z", sig := { parameters := [], returnType := some .boolean }, accessFlags := 0, code := some k6c0 }
/-- com/example/forel/forel/Operators$Type -/
def k6 : Class := { plain "com/example/forel/forel/Operators$Type" (some 5) with
  accessFlags := 16432
  interfaces := #[]
  cf := some (fileOf pool6 1 #[.nestHost 63] #[{ accessFlags := 0, nameIndex := 55, descriptorIndex := 56, attributes := #[] }] 16432 29 #[] #[{ accessFlags := 16409, nameIndex := 5, descriptorIndex := 6, attributes := #[] }, { accessFlags := 16409, nameIndex := 9, descriptorIndex := 6, attributes := #[] }, { accessFlags := 16409, nameIndex := 12, descriptorIndex := 6, attributes := #[] }, { accessFlags := 16409, nameIndex := 15, descriptorIndex := 6, attributes := #[] }, { accessFlags := 16409, nameIndex := 18, descriptorIndex := 6, attributes := #[] }, { accessFlags := 4122, nameIndex := 21, descriptorIndex := 22, attributes := #[] }])
  fields := #[{ name := "FX", type := (.object "com/example/forel/forel/Operators$Type"), accessFlags := 16409, slot := 0, constantValue := 0 }, { name := "FY", type := (.object "com/example/forel/forel/Operators$Type"), accessFlags := 16409, slot := 1, constantValue := 0 }, { name := "XFX", type := (.object "com/example/forel/forel/Operators$Type"), accessFlags := 16409, slot := 2, constantValue := 0 }, { name := "XFY", type := (.object "com/example/forel/forel/Operators$Type"), accessFlags := 16409, slot := 3, constantValue := 0 }, { name := "YFX", type := (.object "com/example/forel/forel/Operators$Type"), accessFlags := 16409, slot := 4, constantValue := 0 }, { name := "$VALUES", type := (.array (.object "com/example/forel/forel/Operators$Type")), accessFlags := 4122, slot := 5, constantValue := 0 }]
  methods := #[k6m0]
  instanceTypes := #[(.object "java/lang/String"), .int, .int]
  staticTypes := #[(.object "com/example/forel/forel/Operators$Type"), (.object "com/example/forel/forel/Operators$Type"), (.object "com/example/forel/forel/Operators$Type"), (.object "com/example/forel/forel/Operators$Type"), (.object "com/example/forel/forel/Operators$Type"), (.array (.object "com/example/forel/forel/Operators$Type"))]
  resolved := Array.replicate 67 none
  statics := some 0 }

def pool7 : Array CpInfo := pool [(1, u "java/lang/Cloneable"), (0, .class_ 1), (0, u "java/lang/Object"), (0, .class_ 3)] 3

/-- java/lang/Cloneable -/
def k7 : Class := { plain "java/lang/Cloneable" (some 0) with
  accessFlags := 1537
  interfaces := #[]
  cf := some (fileOf pool7 2 #[] #[] 1537 4 #[] #[])
  fields := #[]
  methods := #[]
  instanceTypes := #[]
  staticTypes := #[]
  resolved := Array.replicate 8 none
  statics := none }

/-- the primitive byte -/
def k8 : Class := { plain "byte" none with kind := .primitive 'B', accessFlags := 0x411 }
/-- [B -/
def k9 : Class := { plain "[B" (some 0) with kind := .array 8 .byte, interfaces := #[7, 4], accessFlags := 1041 }

/-- the primitive int -/
def k10 : Class := { plain "int" none with kind := .primitive 'I', accessFlags := 0x411 }
/-- [I -/
def k11 : Class := { plain "[I" (some 0) with kind := .array 10 .int, interfaces := #[7, 4], accessFlags := 1041 }

def heap : Heap := #[{ cls := 6, slots := #[.ref 1, .ref 2, .ref 3, .ref 4, .ref 5, .null], vm := .statics 6 },
  { cls := 6, slots := #[.null, .int 0, .int 0], vm := .none },
  { cls := 6, slots := #[.null, .int 1, .int 0], vm := .none },
  { cls := 6, slots := #[.null, .int 2, .int 0], vm := .none },
  { cls := 6, slots := #[.null, .int 3, .int 0], vm := .none },
  { cls := 6, slots := #[.null, .int 4, .int 0], vm := .none }]
def classes : Array Class := #[k0, k1, k2, k3, k4, k5, k6, k7, k8, k9, k10, k11]
def interned : List (Array UInt16 × Addr) := []
def slotsUsed : Nat := 21
def theMethod : MethodId := ⟨1, 3⟩
def args0 : Array Value := #[.int 5]
def aboutOver (below : List Frame) : State where
  vm := { classes := classes, interned := interned.toArray }
  heap := heap
  slotsUsed := slotsUsed
  threads := #[{ frames := .invoking theMethod args0 :: below }]
def below0 : List Frame := [.native { method := ⟨0, 0⟩, args := #[] }]
def about1 : State := aboutOver below0
def p0 : Program := .bare "" "" ""
def e0 : Env := launch0.env 0 0 0
theorem w_frames : about1.frames = Frame.invoking theMethod args0 :: below0 := rfl
set_option maxRecDepth 65536 in
theorem w_args : argsFit about1.vm theMethod args0 = true := by decide +kernel
set_option maxRecDepth 65536 in
theorem w_heap : heapFits about1 = true := by decide +kernel
set_option maxRecDepth 65536 in
theorem w_runnable : about1.curStatus? = some .runnable := by decide +kernel
set_option maxRecDepth 65536 in
theorem w_alone : about1.alone = true := by decide +kernel
set_option maxRecDepth 65536 in
theorem w_named : about1.methodNamed? x = some theMethod := by decide +kernel
set_option maxRecDepth 65536 in
theorem w_hears : about1.hears theMethod below0 = true := by decide +kernel
set_option maxRecDepth 65536 in
theorem w_ripe : about1.ripe theMethod args0 below0 = true := by decide +kernel
theorem w_running : about1.status = .running := rfl
set_option maxRecDepth 65536 in
theorem w_room : about1.hasRoom e0.platform room_1 = true :=
  launch0.hasRoom_least _ room_1 (by decide +kernel) (by decide +kernel) (by decide +kernel) (by decide +kernel) (by decide +kernel) (by decide +kernel)
theorem allAtoms_all (ts : List Jvm.Cond) (a : Array Jvm.Value) (st : Jvm.State) : (allAtoms ts).before a st = ts.all (fun c => c.before a st) := by
  induction ts with
  | nil => rfl
  | cons c t ih =>
    show (Jvm.Cond.and c (allAtoms t)).before a st = _
    rw [Jvm.Cond.before_and, ih, List.all_cons]
def words1 : List Jvm.Cond := Jvm.Cond.code x code maxLocals ret :: tables_1
/-- a 'code' word, met by the world's own term for the bytes: nothing is compared byte by byte -/
theorem code_word {y : MethodName} {bytes : ByteArray} {mx : Nat} {rt : Option FieldType} {a : Array Value} {s : State} {m : MethodId} {meth : Method} {c : Code} (h1 : s.methodNamed? y = some m) (h2 : s.vm.method? m = some meth) (h3 : meth.code = some c) (h4 : c.code = bytes)
    (h5 : (c.maxLocals == mx && c.exceptionTable.isEmpty && decide (c.maxStack ≤ mostOperands) && decide (meth.sig.returnType = rt) && !meth.locks && decide (parseMethodDescriptor y.desc = some meth.sig)) = true) : (Jvm.Cond.code y bytes mx rt).before a s = true := by
  simp only [Bool.and_eq_true, beq_iff_eq, Bool.not_eq_true', decide_eq_true_eq] at h5
  obtain ⟨⟨⟨⟨⟨g1, g2⟩, g3⟩, g4⟩, g5⟩, g6⟩ := h5
  simp [Cond.before, Cond.holds, Cond.value, h1, h2, h3, h4, g1, g2, g3, g4, g5, g6]
def isCode : Jvm.Cond → Bool
  | .code _ _ _ _ => true
  | _ => false
theorem all_split {L : List Jvm.Cond} {P : Jvm.Cond → Bool} (h1 : L.all (fun c => isCode c || P c) = true) (h2 : ∀ c ∈ L.filter isCode, P c = true) : L.all P = true := by
  refine List.all_eq_true.mpr fun c hc => ?_
  have h := List.all_eq_true.mp h1 c hc
  rcases Bool.eq_false_or_eq_true (isCode c) with hi | hi
  · exact h2 c (List.mem_filter.mpr ⟨hc, hi⟩)
  · simpa [hi] using h
set_option maxRecDepth 65536 in
theorem w_c0 : (Jvm.Cond.code x code maxLocals ret).before args0 about1 = true := code_word (m := ⟨1, 3⟩) (meth := k1m3) (c := k1c3) (by decide +kernel) rfl rfl rfl (by decide +kernel)
set_option maxRecDepth 65536 in
theorem w_c1 : (Jvm.Cond.code ({ cls := "com/example/forel/forel/TypeIsPrefixPinLaw", name := "pick", desc := "(I)Lcom/example/forel/forel/Operators$Type;" } : Jvm.MethodName) method_2_code (1 : Nat) (Option.some (Jvm.ClassFile.FieldType.object "com/example/forel/forel/Operators$Type"))).before args0 about1 = true := code_word (m := ⟨1, 1⟩) (meth := k1m1) (c := k1c1) (by decide +kernel) rfl rfl rfl (by decide +kernel)
set_option maxRecDepth 65536 in
theorem w_c2 : (Jvm.Cond.code ({ cls := "com/example/forel/forel/Operators$Type", name := "isPrefix", desc := "()Z" } : Jvm.MethodName) prog_57_method_4_code (1 : Nat) (Option.some Jvm.ClassFile.FieldType.boolean)).before args0 about1 = true := code_word (m := ⟨6, 0⟩) (meth := k6m0) (c := k6c0) (by decide +kernel) rfl rfl rfl (by decide +kernel)
set_option maxRecDepth 65536 in
theorem w_c3 : (Jvm.Cond.code ({ cls := "com/example/forel/forel/TypeIsPrefixPinLaw", name := "documentedPrefix", desc := "(I)Z" } : Jvm.MethodName) method_3_code (1 : Nat) (Option.some Jvm.ClassFile.FieldType.boolean)).before args0 about1 = true := code_word (m := ⟨1, 2⟩) (meth := k1m2) (c := k1c2) (by decide +kernel) rfl rfl rfl (by decide +kernel)
def codes1 : List Jvm.Cond := [Jvm.Cond.code x code maxLocals ret, Jvm.Cond.code ({ cls := "com/example/forel/forel/TypeIsPrefixPinLaw", name := "pick", desc := "(I)Lcom/example/forel/forel/Operators$Type;" } : Jvm.MethodName) method_2_code (1 : Nat) (Option.some (Jvm.ClassFile.FieldType.object "com/example/forel/forel/Operators$Type")), Jvm.Cond.code ({ cls := "com/example/forel/forel/Operators$Type", name := "isPrefix", desc := "()Z" } : Jvm.MethodName) prog_57_method_4_code (1 : Nat) (Option.some Jvm.ClassFile.FieldType.boolean), Jvm.Cond.code ({ cls := "com/example/forel/forel/TypeIsPrefixPinLaw", name := "documentedPrefix", desc := "(I)Z" } : Jvm.MethodName) method_3_code (1 : Nat) (Option.some Jvm.ClassFile.FieldType.boolean)]
set_option maxRecDepth 65536 in
theorem codes_eq : words1.filter isCode = codes1 := rfl
theorem w_codes : ∀ c ∈ words1.filter isCode, c.before args0 about1 = true := by
  rw [codes_eq]
  intro c hc
  simp only [codes1, List.mem_cons, List.not_mem_nil, or_false] at hc
  rcases hc with rfl | rfl | rfl | rfl
  · exact w_c0
  · exact w_c1
  · exact w_c2
  · exact w_c3
set_option maxRecDepth 65536 in
theorem w_t1 : (words1.take 24).all (fun c => isCode c || c.before args0 about1) = true := by decide +kernel
set_option maxRecDepth 65536 in
theorem w_t2 : (words1.drop 24).all (fun c => isCode c || c.before args0 about1) = true := by decide +kernel
theorem w_tables : (allAtoms (Jvm.Cond.code x code maxLocals ret :: tables_1)).before args0 about1 = true := by
  rw [allAtoms_all]
  show words1.all (fun c => c.before args0 about1) = true
  refine all_split ?_ w_codes
  rw [← List.take_append_drop 24 words1, List.all_append, w_t1, w_t2]
  rfl
set_option maxRecDepth 65536 in
theorem w_case : (Jvm.Cond.and given_1 narrow_1).before args0 about1 = true := by decide +kernel
theorem w_applies : (headSpec (Jvm.Cond.code x code maxLocals ret :: tables_1) room_1).applies x e0.platform about1 = true :=
  (Spec.applies_iff w_frames).mpr ⟨w_running, w_runnable, w_alone, w_named, w_hears, w_ripe, w_room, w_tables⟩
theorem atStart : AtStart classFile x code maxLocals ret World_1 tables_1 room_1 Calls_1 rest_1 Pre_1 launch0 p0 e0 about1 theMethod args0 below0 :=
  ⟨lists_1, trivial, launch0.admits_env _ _ _, launch0.least_env, fairChoices_fair.cas, fairChoices_fair.clock, w_frames, w_args, w_heap, w_applies, trivial, trivial, w_case⟩
end start1
theorem witness_1 : WitnessClaimed_1 := ⟨start1.p0, start1.e0, start1.about1, start1.theMethod, start1.args0, start1.below0, start1.atStart⟩
end Jvm.Pilot.@@N@@
