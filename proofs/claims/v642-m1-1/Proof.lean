import JvmDerived
import JvmDerived.Pilot.@@N@@Statement
import JvmDerived.Pilot.@@N@@Code
set_option linter.unusedVariables false
set_option linter.unusedSimpArgs false
namespace Jvm.Pilot.@@N@@
open Jvm Jvm.ClassFile Sem Op Lib Jvm.Free Jvm.Stand Jvm.LawKit Jvm.RoadKit Bundle Jvm.Pilot.@@N@@.Jvm.D

def Go (tb : Tables) (e : Env) (below : List Frame) (a : State) (P : Outcome → State → Prop) : Prop := ∃ s₂ o, Steps tb e below a s₂ ∧ s₂.status = .running ∧ Ended s₂ below o ∧ P o s₂
theorem Go.st {tb : Tables} {e : Env} {below : List Frame} {a b : State} {P : Outcome → State → Prop} (h : ∀ t, Steps tb e below b t → Steps tb e below a t) (k : Go tb e below b P) : Go tb e below a P := by
  obtain ⟨s, o, h1, h2⟩ := k
  exact ⟨s, o, h _ h1, h2⟩
theorem Go.tr {tb : Tables} {e : Env} {below : List Frame} {a b : State} {P : Outcome → State → Prop} (h : Steps tb e below a b) (k : Go tb e below b P) : Go tb e below a P := Go.st (fun _ q => h.trans q) k
theorem Go.fin {tb : Tables} {e : Env} {below : List Frame} {a s₂ : State} {o : Outcome} {P : Outcome → State → Prop} (hs : Steps tb e below a s₂) (hr : s₂.status = .running) (he : Ended s₂ below o) (hP : P o s₂) : Go tb e below a P := ⟨_, _, hs, hr, he, hP⟩
theorem exa_ns {Z : State} {h : Heap} {a : Addr} {C : String} (F : Exa Z h a C) : ∃ c : Cell, h[a]? = some c ∧ c.vm.isStatics = false := by
  obtain ⟨c, _, h1, -, -, h4, -⟩ := F
  exact ⟨c, h1, h4⟩
theorem fld_ns {Z : State} {h : Heap} {a : Addr} {C n d : String} {v : Value} (F : Fld Z h a C n d v) : ∃ c : Cell, h[a]? = some c ∧ c.vm.isStatics = false := by
  obtain ⟨c, _, _, _, _, h1, -, -, -, h4, -⟩ := F
  exact ⟨c, h1, h4⟩
theorem arv_ns {Z : State} {h : Heap} {a : Addr} {k : ClassId} {ty : FieldType} {n : Int32} {vs : List Value} {d : Value} (F : Arv Z h a k ty n vs d) : ∃ c : Cell, h[a]? = some c ∧ c.vm.isStatics = false := by
  obtain ⟨c, A, -⟩ := F
  exact ⟨c, A.1, A.plain⟩
theorem sta_keep {Z : State} {h h' : Heap} {C n d : String} {v : Value} {ws : List Addr} (F : Sta Z h C n d v) (K : Keep h h' ws) (q : ∀ x ∈ ws, ∃ c : Cell, h[x]? = some c ∧ c.vm.isStatics = false) : Sta Z h' C n d v := by
  obtain ⟨cf, i, k, f, st, cell, h1, h2, h3, h4, h5, h6, h7⟩ := F
  refine ⟨cf, i, k, f, st, cell, h1, h2, h3, h4, K.2.1 st cell h5 fun z => ?_, h6, h7⟩
  obtain ⟨c, q1, q2⟩ := q st z
  cases q1.symm.trans h5
  rw [q2] at h6
  cases h6
theorem own_selp {s : State} {args : Array Value} {y : MethodName} {n : Nat} (wi : (Cond.instantiable y.cls n).before args s = true) (hp : s.PrivateAt y) (hi : (Cond.instanceMethod y).before args s = true) (hy : y.cls ≠ "java/lang/invoke/MethodHandle" ∧ y.cls ≠ "java/lang/invoke/VarHandle") : (Cond.selects y.cls y y).before args s = true := by
  obtain ⟨c, k, h1, h2, -, h4, -⟩ := Cond.instantiable_spec wi
  simp only [Bool.or_eq_false_iff] at h4
  exact selects_self_of_private h1 h2 h4.1 hp hi hy
theorem own_ne32 {x k : Int32} {a : Int} (ha : k.toInt = a) (h : ¬ x = k) : a ≠ x.toInt := fun e => h (Int32.toInt_inj.mp (e.symm.trans ha.symm))
theorem own_nn (x : Int32) : 0 ≤ (x &&& (2147483647 : Int32)).toInt := (c_andS x 2147483647).2.2 (by decide)
theorem own_rem (x : Int32) (k : Int32) (d : Int) (hd : k.toInt = d) (h0 : 0 < d) : 0 ≤ ((x &&& (2147483647 : Int32)) % k).toInt ∧ ((x &&& (2147483647 : Int32)) % k).toInt < d := by
  have h := own_nn x
  rw [Int32.toInt_mod, hd]
  exact ⟨Int.tmod_nonneg _ h, Int.tmod_lt_of_pos _ h0⟩
theorem own_remb (x : Int32) (k : Int32) (d : Int) (hd : k.toInt = d) (h0 : 0 < d) : ¬ ((x &&& (2147483647 : Int32)) % k) < 0 ∧ ((x &&& (2147483647 : Int32)) % k) < k := by
  obtain ⟨h1, h2⟩ := own_rem x k d hd h0
  rw [Int32.lt_iff_toInt_lt, Int32.lt_iff_toInt_lt, hd]
  exact ⟨Int.not_lt.mpr h1, h2⟩
def own_at (xs : List Int32) (j : Int32) : Int32 := xs.getD j.toNatClampNeg 0
theorem own_atv (xs : List Int32) (j : Int32) : (xs.map Value.int).getD j.toNatClampNeg (.int 0) = .int (own_at xs j) := by
  unfold own_at
  generalize j.toNatClampNeg = n
  induction xs generalizing n with
  | nil => rfl
  | cons a r ih => cases n with
    | zero => rfl
    | succ n => simpa using ih n
theorem own_setl {l : List Value} {k n : Nat} {v : Value} (h : l.length = n) : (l.set k v).length = n := by rw [List.length_set]; exact h
theorem own_setg {l : List Value} {k : Nat} {v d : Value} (h : k < l.length) : (l.set k v).getD k d = v := by simp [List.getD, List.getElem?_set, h]
theorem own_setn {l : List Value} {k i : Nat} {v d : Value} (h : i ≠ k) : (l.set k v).getD i d = l.getD i d := by simp [List.getD, List.getElem?_set, Ne.symm h]
theorem own_lt_of {l : List Value} {n : Nat} {j z : Int32} (h : l.length = n) (q : ¬ j < 0 ∧ j < z) (hz : z.toNatClampNeg = n := by decide) : j.toNatClampNeg < l.length := by
  rw [h, ← hz]
  obtain ⟨q1, q2⟩ := q
  rw [Int32.lt_iff_toInt_lt] at q1 q2
  have : (0 : Int32).toInt = 0 := rfl
  simp only [Int32.toNatClampNeg]
  omega
theorem own_eqi {args : Array Value} {s : State} {t : Term} {k : Int32} (h : (Jvm.Cond.eq t (.int k)).value args s none s [] = some true) : t.eval args s none [] s = some (.int k) := by
  simp only [Cond.value, Term.eval] at h
  cases ht : t.eval args s none [] s with
  | none => simp [ht] at h
  | some x => cases x <;> simp_all
theorem d4_0 : decode jdk_29_method_66_code 0 = .ok (.lload_n 0, 1) := by decide +kernel
theorem d4_1 : decode jdk_29_method_66_code 1 = .ok (.lload_n 2, 1) := by decide +kernel
theorem d4_2 : decode jdk_29_method_66_code 2 = .ok (.lcmp, 1) := by decide +kernel
theorem d4_3 : decode jdk_29_method_66_code 3 = .ok (.ifCond .lt 7, 3) := by decide +kernel
theorem d4_10 : decode jdk_29_method_66_code 10 = .ok (.lload_n 2, 1) := by decide +kernel
theorem d4_11 : decode jdk_29_method_66_code 11 = .ok (.lreturn, 1) := by decide +kernel
theorem d4_6 : decode jdk_29_method_66_code 6 = .ok (.lload_n 0, 1) := by decide +kernel
theorem d4_7 : decode jdk_29_method_66_code 7 = .ok (.goto 4, 3) := by decide +kernel
theorem pn0 : plainFor (⟨"java/lang/Math", "max", "(JJ)J"⟩ : MethodName) = true := by decide +kernel
def f4 (q1 : Int64) (q2 : Int64) : Int64 := (if q1 < q2 then q2 else q1)
def Q4 (Z : State) (q1 : Int64) (q2 : Int64) (h0 : Heap) (n0 : Nat) (v : Option Value) (h : Heap) (L : List Loc) : Prop := v = some (.long (f4 q1 q2)) ∧ Fr n0 L ∧ h = h0
theorem ef4 (m : MethodId) (x0 : Int64) (x1 : Int64) : entryFrame m #[(.long x0), (.long x1)] 4 = mkF m 0 #[.val (.long x0), .second, .val (.long x1), .second] [] := by first | (simp [entryFrame, mkF, argsToLocals, Value.category]; done) | rfl
set_option maxRecDepth 65536 in
set_option maxHeartbeats 40000000 in
theorem rm4 (l : Launch) (Z : State) (a0 : Array Value) (hw : ∀ d ∈ tables_1, d.before a0 Z = true) (ws : List Jvm.Cond) (q1 : Int64) (q2 : Int64) (h0 : Heap) (n0 : Nat) (Z0 : n0 ≤ h0.size) :
    MetFree l (⟨"java/lang/Math", "max", "(JJ)J"⟩ : MethodName) (head1 (Jvm.Cond.code (⟨"java/lang/Math", "max", "(JJ)J"⟩ : MethodName) jdk_29_method_66_code 4 (some .long) :: ws) ({ frames := 0, cells := 0, slots := 0, locals := 0 } : Room)) (fun a U => a = #[(.long q1), (.long q2)] ∧ Z.Warmed39 U.vm ∧ U.heap = h0) (fun _ _ _ _ _ => True) (fun _ U o U' => ∃ v L, o = .returned v ∧ Q4 Z q1 q2 h0 n0 v U'.heap L ∧ FrameEnd U o U' L ({ frames := 0, cells := 0, slots := 0, locals := 0 } : Room).cells ({ frames := 0, cells := 0, slots := 0, locals := 0 } : Room).slots) := by
  refine MetFree.of_bodySF (Jvm.Free.JP.mathPlain rfl (by decide +kernel)) hisR ?_
  intro p e s m args below meth c s₁ Bd hml0 hP hK
  obtain ⟨rfl, hZ, hh⟩ := hP
  have hx := Bd.exec
  have hby := Bd.bytes
  have hml : c.maxLocals = 4 := hml0
  have hown : s.vm.findClass "java/lang/Math" = some m.cls := findClass_of_methodNamed Bd.named
  have hnm := (name_of_methodNamed Bd.named Bd.method).1
  have X0 : Stand p l e ({ frames := 0, cells := 0, slots := 0, locals := 0 } : Room) s m #[(.long q1), (.long q2)] below meth c s₁ [] 0 0 := Stand.of_body Bd
  have e0 : s₁.heap = h0 := by rw [← hh, Bd.state]; rfl
  have N0 := Fr.nil n0
  have K0 : Keep h0 h0 [] := Keep.refl h0 _
  refine Go.st (P := fun o U' => ∃ v L, o = .returned v ∧ Q4 Z q1 q2 h0 n0 v U'.heap L ∧ FrameEnd s o U' L ({ frames := 0, cells := 0, slots := 0, locals := 0 } : Room).cells ({ frames := 0, cells := 0, slots := 0, locals := 0 } : Room).slots) (fun t k => castTop (ef4 m q1 q2) k) ?_
  show Go _ _ _ (s₁.setTop (mkF m 0 #[.val (.long q1), .second, .val (.long q2), .second] [])) _
  refine Go.st (fun t k => XS.lloadN X0.here hx rfl (hb hby d4_0) rfl k) ?_
  refine Go.st (fun t k => XS.lloadN X0.here hx rfl (hb hby d4_1) rfl k) ?_
  refine Go.st (fun t k => XS.lcmp X0.here hx rfl (hb hby d4_2) rfl k) ?_
  show Go _ _ _ (s₁.setTop (mkF m 3 #[.val (.long q1), .second, .val (.long q2), .second] [(.int (lcmpW q1 q2))])) _
  by_cases hc1 : q1 < q2
  · refine Go.st (fun t k => XS.ifYes X0.here hx rfl (pc0 := 3) (pc' := 10) rfl (hb hby d4_3) rfl ((if0 _ _).trans (tlt ((lw_lt q1 q2).mpr hc1)).1) (by decide) (by decide) k) ?_
    show Go _ _ _ (s₁.setTop (mkF m 10 #[.val (.long q1), .second, .val (.long q2), .second] [])) _
    refine Go.st (fun t k => XS.lloadN X0.here hx rfl (hb hby d4_10) rfl k) ?_
    obtain ⟨fs, hr, hrun, hended, hW, hsame⟩ := X0.leave (v := some (.long q2)) (fun h => by rw [Bd.returns] at h; cases h)
    refine Go.fin (retOut X0 hx Bd.returns rfl (Or.inr (Or.inl ⟨rfl, rfl, _, rfl⟩)) (hb hby d4_11) hr) hrun hended ⟨_, _, rfl, ?_, ⟨_, rfl⟩, hW, hsame.mono (by decide) (by decide)⟩
    show Q4 Z q1 q2 h0 n0 _ s₁.heap _
    rw [e0]
    exact ⟨(by unfold f4; simp only [if_pos hc1]), N0, rfl⟩
  · refine Go.st (fun t k => XS.ifNo X0.here hx rfl (hb hby d4_3) rfl ((if0 _ _).trans (flt (fun z => hc1 ((lw_lt q1 q2).mp z))).1) k) ?_
    show Go _ _ _ (s₁.setTop (mkF m 6 #[.val (.long q1), .second, .val (.long q2), .second] [])) _
    refine Go.st (fun t k => XS.lloadN X0.here hx rfl (hb hby d4_6) rfl k) ?_
    refine Go.st (fun t k => XS.goto X0.here hx rfl (pc0 := 7) (pc' := 11) rfl (hb hby d4_7) (by decide) (by decide) k) ?_
    obtain ⟨fs, hr, hrun, hended, hW, hsame⟩ := X0.leave (v := some (.long q1)) (fun h => by rw [Bd.returns] at h; cases h)
    refine Go.fin (retOut X0 hx Bd.returns rfl (Or.inr (Or.inl ⟨rfl, rfl, _, rfl⟩)) (hb hby d4_11) hr) hrun hended ⟨_, _, rfl, ?_, ⟨_, rfl⟩, hW, hsame.mono (by decide) (by decide)⟩
    show Q4 Z q1 q2 h0 n0 _ s₁.heap _
    rw [e0]
    exact ⟨(by unfold f4; simp only [if_neg hc1]), N0, rfl⟩
theorem d5_0 : decode jdk_29_method_70_code 0 = .ok (.lload_n 0, 1) := by decide +kernel
theorem d5_1 : decode jdk_29_method_70_code 1 = .ok (.lload_n 2, 1) := by decide +kernel
theorem d5_2 : decode jdk_29_method_70_code 2 = .ok (.lcmp, 1) := by decide +kernel
theorem d5_3 : decode jdk_29_method_70_code 3 = .ok (.ifCond .gt 7, 3) := by decide +kernel
theorem d5_10 : decode jdk_29_method_70_code 10 = .ok (.lload_n 2, 1) := by decide +kernel
theorem d5_11 : decode jdk_29_method_70_code 11 = .ok (.lreturn, 1) := by decide +kernel
theorem d5_6 : decode jdk_29_method_70_code 6 = .ok (.lload_n 0, 1) := by decide +kernel
theorem d5_7 : decode jdk_29_method_70_code 7 = .ok (.goto 4, 3) := by decide +kernel
theorem pn1 : plainFor (⟨"java/lang/Math", "min", "(JJ)J"⟩ : MethodName) = true := by decide +kernel
def f5 (q1 : Int64) (q2 : Int64) : Int64 := (if q2 < q1 then q2 else q1)
def Q5 (Z : State) (q1 : Int64) (q2 : Int64) (h0 : Heap) (n0 : Nat) (v : Option Value) (h : Heap) (L : List Loc) : Prop := v = some (.long (f5 q1 q2)) ∧ Fr n0 L ∧ h = h0
theorem ef5 (m : MethodId) (x0 : Int64) (x1 : Int64) : entryFrame m #[(.long x0), (.long x1)] 4 = mkF m 0 #[.val (.long x0), .second, .val (.long x1), .second] [] := by first | (simp [entryFrame, mkF, argsToLocals, Value.category]; done) | rfl
set_option maxRecDepth 65536 in
set_option maxHeartbeats 40000000 in
theorem rm5 (l : Launch) (Z : State) (a0 : Array Value) (hw : ∀ d ∈ tables_1, d.before a0 Z = true) (ws : List Jvm.Cond) (q1 : Int64) (q2 : Int64) (h0 : Heap) (n0 : Nat) (Z0 : n0 ≤ h0.size) :
    MetFree l (⟨"java/lang/Math", "min", "(JJ)J"⟩ : MethodName) (head1 (Jvm.Cond.code (⟨"java/lang/Math", "min", "(JJ)J"⟩ : MethodName) jdk_29_method_70_code 4 (some .long) :: ws) ({ frames := 0, cells := 0, slots := 0, locals := 0 } : Room)) (fun a U => a = #[(.long q1), (.long q2)] ∧ Z.Warmed39 U.vm ∧ U.heap = h0) (fun _ _ _ _ _ => True) (fun _ U o U' => ∃ v L, o = .returned v ∧ Q5 Z q1 q2 h0 n0 v U'.heap L ∧ FrameEnd U o U' L ({ frames := 0, cells := 0, slots := 0, locals := 0 } : Room).cells ({ frames := 0, cells := 0, slots := 0, locals := 0 } : Room).slots) := by
  refine MetFree.of_bodySF (Jvm.Free.JP.mathPlain rfl (by decide +kernel)) hisR ?_
  intro p e s m args below meth c s₁ Bd hml0 hP hK
  obtain ⟨rfl, hZ, hh⟩ := hP
  have hx := Bd.exec
  have hby := Bd.bytes
  have hml : c.maxLocals = 4 := hml0
  have hown : s.vm.findClass "java/lang/Math" = some m.cls := findClass_of_methodNamed Bd.named
  have hnm := (name_of_methodNamed Bd.named Bd.method).1
  have X0 : Stand p l e ({ frames := 0, cells := 0, slots := 0, locals := 0 } : Room) s m #[(.long q1), (.long q2)] below meth c s₁ [] 0 0 := Stand.of_body Bd
  have e0 : s₁.heap = h0 := by rw [← hh, Bd.state]; rfl
  have N0 := Fr.nil n0
  have K0 : Keep h0 h0 [] := Keep.refl h0 _
  refine Go.st (P := fun o U' => ∃ v L, o = .returned v ∧ Q5 Z q1 q2 h0 n0 v U'.heap L ∧ FrameEnd s o U' L ({ frames := 0, cells := 0, slots := 0, locals := 0 } : Room).cells ({ frames := 0, cells := 0, slots := 0, locals := 0 } : Room).slots) (fun t k => castTop (ef5 m q1 q2) k) ?_
  show Go _ _ _ (s₁.setTop (mkF m 0 #[.val (.long q1), .second, .val (.long q2), .second] [])) _
  refine Go.st (fun t k => XS.lloadN X0.here hx rfl (hb hby d5_0) rfl k) ?_
  refine Go.st (fun t k => XS.lloadN X0.here hx rfl (hb hby d5_1) rfl k) ?_
  refine Go.st (fun t k => XS.lcmp X0.here hx rfl (hb hby d5_2) rfl k) ?_
  show Go _ _ _ (s₁.setTop (mkF m 3 #[.val (.long q1), .second, .val (.long q2), .second] [(.int (lcmpW q1 q2))])) _
  by_cases hc1 : q2 < q1
  · refine Go.st (fun t k => XS.ifYes X0.here hx rfl (pc0 := 3) (pc' := 10) rfl (hb hby d5_3) rfl ((if0 _ _).trans (tlt ((lw_gt q1 q2).mpr hc1)).2.2.1) (by decide) (by decide) k) ?_
    show Go _ _ _ (s₁.setTop (mkF m 10 #[.val (.long q1), .second, .val (.long q2), .second] [])) _
    refine Go.st (fun t k => XS.lloadN X0.here hx rfl (hb hby d5_10) rfl k) ?_
    obtain ⟨fs, hr, hrun, hended, hW, hsame⟩ := X0.leave (v := some (.long q2)) (fun h => by rw [Bd.returns] at h; cases h)
    refine Go.fin (retOut X0 hx Bd.returns rfl (Or.inr (Or.inl ⟨rfl, rfl, _, rfl⟩)) (hb hby d5_11) hr) hrun hended ⟨_, _, rfl, ?_, ⟨_, rfl⟩, hW, hsame.mono (by decide) (by decide)⟩
    show Q5 Z q1 q2 h0 n0 _ s₁.heap _
    rw [e0]
    exact ⟨(by unfold f5; simp only [if_pos hc1]), N0, rfl⟩
  · refine Go.st (fun t k => XS.ifNo X0.here hx rfl (hb hby d5_3) rfl ((if0 _ _).trans (flt (fun z => hc1 ((lw_gt q1 q2).mp z))).2.2.1) k) ?_
    show Go _ _ _ (s₁.setTop (mkF m 6 #[.val (.long q1), .second, .val (.long q2), .second] [])) _
    refine Go.st (fun t k => XS.lloadN X0.here hx rfl (hb hby d5_6) rfl k) ?_
    refine Go.st (fun t k => XS.goto X0.here hx rfl (pc0 := 7) (pc' := 11) rfl (hb hby d5_7) (by decide) (by decide) k) ?_
    obtain ⟨fs, hr, hrun, hended, hW, hsame⟩ := X0.leave (v := some (.long q1)) (fun h => by rw [Bd.returns] at h; cases h)
    refine Go.fin (retOut X0 hx Bd.returns rfl (Or.inr (Or.inl ⟨rfl, rfl, _, rfl⟩)) (hb hby d5_11) hr) hrun hended ⟨_, _, rfl, ?_, ⟨_, rfl⟩, hW, hsame.mono (by decide) (by decide)⟩
    show Q5 Z q1 q2 h0 n0 _ s₁.heap _
    rw [e0]
    exact ⟨(by unfold f5; simp only [if_neg hc1]), N0, rfl⟩
theorem d9_0 : decode jdk_30_method_1_code 0 = .ok (.aload_n 0, 1) := by decide +kernel
theorem d9_1 : decode jdk_30_method_1_code 1 = .ok (.invokespecial 1, 3) := by decide +kernel
theorem wd49 {Z : State} {a0 : Array Value} (hw : ∀ d ∈ tables_1, d.before a0 Z = true) : (Jvm.Cond.methodLink "java/lang/Record" (1 : Nat) ({ cls := "java/lang/Object", name := "<init>", desc := "()V" } : Jvm.MethodName)).before a0 Z = true := hw _ (List.mem_of_getElem? (i := 49) rfl)
theorem wd8 {Z : State} {a0 : Array Value} (hw : ∀ d ∈ tables_1, d.before a0 Z = true) : (Jvm.Cond.code ({ cls := "java/lang/Object", name := "<init>", desc := "()V" } : Jvm.MethodName) object_method_1_code (1 : Nat) (Option.none : Option Jvm.ClassFile.FieldType)).before a0 Z = true := hw _ (List.mem_of_getElem? (i := 8) rfl)
theorem wd7 {Z : State} {a0 : Array Value} (hw : ∀ d ∈ tables_1, d.before a0 Z = true) : (Jvm.Cond.instanceMethod ({ cls := "java/lang/Object", name := "<init>", desc := "()V" } : Jvm.MethodName)).before a0 Z = true := hw _ (List.mem_of_getElem? (i := 7) rfl)
theorem d9_4 : decode jdk_30_method_1_code 4 = .ok (.return_, 1) := by decide +kernel
theorem pn2 : plainName "java/lang/Record" = true := by first | (simp [plainName, overriddenIn]; done) | decide +kernel
def Q9 (Z : State) (a1 : Addr) (h0 : Heap) (n0 : Nat) (v : Option Value) (h : Heap) (L : List Loc) : Prop := v = none ∧ Fr n0 L ∧ h = h0
theorem ef9 (m : MethodId) (x0 : Addr) : entryFrame m #[(.ref x0)] 1 = mkF m 0 #[.val (.ref x0)] [] := by first | (simp [entryFrame, mkF, argsToLocals, Value.category]; done) | rfl
set_option maxRecDepth 65536 in
set_option maxHeartbeats 40000000 in
theorem rm9 (l : Launch) (Z : State) (a0 : Array Value) (hw : ∀ d ∈ tables_1, d.before a0 Z = true) (ws : List Jvm.Cond) (a1 : Addr) (h0 : Heap) (n0 : Nat) (Z0 : n0 ≤ h0.size) :
    MetFree l (⟨"java/lang/Record", "<init>", "()V"⟩ : MethodName) (head1 (Jvm.Cond.code (⟨"java/lang/Record", "<init>", "()V"⟩ : MethodName) jdk_30_method_1_code 1 none :: ws) ({ frames := 1, cells := 0, slots := 0, locals := 12 } : Room)) (fun a U => a = #[(.ref a1)] ∧ Z.Warmed39 U.vm ∧ U.heap = h0) (fun _ _ _ _ _ => True) (fun _ U o U' => ∃ v L, o = .returned v ∧ Q9 Z a1 h0 n0 v U'.heap L ∧ FrameEnd U o U' L ({ frames := 1, cells := 0, slots := 0, locals := 12 } : Room).cells ({ frames := 1, cells := 0, slots := 0, locals := 12 } : Room).slots) := by
  refine MetFree.of_bodySF (plainFor_of_name pn2) hisR ?_
  intro p e s m args below meth c s₁ Bd hml0 hP hK
  obtain ⟨rfl, hZ, hh⟩ := hP
  have hx := Bd.exec
  have hby := Bd.bytes
  have hml : c.maxLocals = 1 := hml0
  have hown : s.vm.findClass "java/lang/Record" = some m.cls := findClass_of_methodNamed Bd.named
  have hnm := (name_of_methodNamed Bd.named Bd.method).1
  have X0 : Stand p l e ({ frames := 1, cells := 0, slots := 0, locals := 12 } : Room) s m #[(.ref a1)] below meth c s₁ [] 0 0 := Stand.of_body Bd
  have e0 : s₁.heap = h0 := by rw [← hh, Bd.state]; rfl
  have N0 := Fr.nil n0
  have K0 : Keep h0 h0 [] := Keep.refl h0 _
  refine Go.st (P := fun o U' => ∃ v L, o = .returned v ∧ Q9 Z a1 h0 n0 v U'.heap L ∧ FrameEnd s o U' L ({ frames := 1, cells := 0, slots := 0, locals := 12 } : Room).cells ({ frames := 1, cells := 0, slots := 0, locals := 12 } : Room).slots) (fun t k => castTop (ef9 m a1) k) ?_
  show Go _ _ _ (s₁.setTop (mkF m 0 #[.val (.ref a1)] [])) _
  refine Go.st (fun t k => XS.aloadN X0.here hx rfl (hb hby d9_0) rfl rfl k) ?_
  obtain ⟨T1, X1, e1, st1⟩ := initO X0 hx hZ hown (wd49 hw) (wd7 hw) (wd8 hw) e0 (g := (mkF m 1 #[.val (.ref a1)] [(.ref a1)])) rfl (by rw [hml]; rfl) rfl (hb hby d9_1) (by decide) (W := 0) (by show 2 * 0 + _ ≤ _; exact Nat.le_of_eq rfl) (by decide)
  refine Go.st st1 ?_
  show Go _ _ _ (T1.setTop (mkF m 4 #[.val (.ref a1)] [])) _
  obtain ⟨fs, hr, hrun, hended, hW, hsame⟩ := X1.leave (v := none) (fun _ => rfl)
  refine Go.fin (X1.returnOut hx Bd.returns (hb hby d9_4) hr) hrun hended ⟨_, _, rfl, ?_, ⟨_, rfl⟩, hW, hsame.mono (by decide) (by decide)⟩
  show Q9 Z a1 h0 n0 _ T1.heap _
  rw [e1]
  exact ⟨rfl, N0, rfl⟩
theorem d8_0 : decode prog_38_method_1_code 0 = .ok (.aload_n 0, 1) := by decide +kernel
theorem d8_1 : decode prog_38_method_1_code 1 = .ok (.invokespecial 1, 3) := by decide +kernel
theorem wd44 {Z : State} {a0 : Array Value} (hw : ∀ d ∈ tables_1, d.before a0 Z = true) : (Jvm.Cond.methodLink "com/example/vantrell/vantrell/statistics/Gauge$Reading" (1 : Nat) ({ cls := "java/lang/Record", name := "<init>", desc := "()V" } : Jvm.MethodName)).before a0 Z = true := hw _ (List.mem_of_getElem? (i := 44) rfl)
theorem wd48 {Z : State} {a0 : Array Value} (hw : ∀ d ∈ tables_1, d.before a0 Z = true) : (Jvm.Cond.code ({ cls := "java/lang/Record", name := "<init>", desc := "()V" } : Jvm.MethodName) jdk_30_method_1_code (1 : Nat) (Option.none : Option Jvm.ClassFile.FieldType)).before a0 Z = true := hw _ (List.mem_of_getElem? (i := 48) rfl)
theorem wd47 {Z : State} {a0 : Array Value} (hw : ∀ d ∈ tables_1, d.before a0 Z = true) : (Jvm.Cond.initialized "java/lang/Record").before a0 Z = true := hw _ (List.mem_of_getElem? (i := 47) rfl)
theorem pd0 : parseMethodDescriptor "()V" = some ⟨[], none⟩ := by decide +kernel
theorem wd45 {Z : State} {a0 : Array Value} (hw : ∀ d ∈ tables_1, d.before a0 Z = true) : (Jvm.Cond.instanceMethod ({ cls := "java/lang/Record", name := "<init>", desc := "()V" } : Jvm.MethodName)).before a0 Z = true := hw _ (List.mem_of_getElem? (i := 45) rfl)
theorem d8_4 : decode prog_38_method_1_code 4 = .ok (.aload_n 0, 1) := by decide +kernel
theorem d8_5 : decode prog_38_method_1_code 5 = .ok (.lload_n 1, 1) := by decide +kernel
theorem d8_6 : decode prog_38_method_1_code 6 = .ok (.putfield 7, 3) := by decide +kernel
theorem wd50 {Z : State} {a0 : Array Value} (hw : ∀ d ∈ tables_1, d.before a0 Z = true) : (Jvm.Cond.fieldLink "com/example/vantrell/vantrell/statistics/Gauge$Reading" (7 : Nat) "com/example/vantrell/vantrell/statistics/Gauge$Reading" "high" "J").before a0 Z = true := hw _ (List.mem_of_getElem? (i := 50) rfl)
theorem wd51 {Z : State} {a0 : Array Value} (hw : ∀ d ∈ tables_1, d.before a0 Z = true) : (Jvm.Cond.laysFinal "com/example/vantrell/vantrell/statistics/Gauge$Reading" "com/example/vantrell/vantrell/statistics/Gauge$Reading" "high" "J").before a0 Z = true := hw _ (List.mem_of_getElem? (i := 51) rfl)
theorem wd39 {Z : State} {a0 : Array Value} (hw : ∀ d ∈ tables_1, d.before a0 Z = true) : (Jvm.Cond.instantiable "com/example/vantrell/vantrell/statistics/Gauge$Reading" (3 : Nat)).before a0 Z = true := hw _ (List.mem_of_getElem? (i := 39) rfl)
theorem d8_9 : decode prog_38_method_1_code 9 = .ok (.aload_n 0, 1) := by decide +kernel
theorem d8_10 : decode prog_38_method_1_code 10 = .ok (.lload_n 3, 1) := by decide +kernel
theorem d8_11 : decode prog_38_method_1_code 11 = .ok (.putfield 13, 3) := by decide +kernel
theorem wd52 {Z : State} {a0 : Array Value} (hw : ∀ d ∈ tables_1, d.before a0 Z = true) : (Jvm.Cond.fieldLink "com/example/vantrell/vantrell/statistics/Gauge$Reading" (13 : Nat) "com/example/vantrell/vantrell/statistics/Gauge$Reading" "low" "J").before a0 Z = true := hw _ (List.mem_of_getElem? (i := 52) rfl)
theorem wd53 {Z : State} {a0 : Array Value} (hw : ∀ d ∈ tables_1, d.before a0 Z = true) : (Jvm.Cond.laysFinal "com/example/vantrell/vantrell/statistics/Gauge$Reading" "com/example/vantrell/vantrell/statistics/Gauge$Reading" "low" "J").before a0 Z = true := hw _ (List.mem_of_getElem? (i := 53) rfl)
theorem d8_14 : decode prog_38_method_1_code 14 = .ok (.aload_n 0, 1) := by decide +kernel
theorem d8_15 : decode prog_38_method_1_code 15 = .ok (.lload 5, 2) := by decide +kernel
theorem d8_17 : decode prog_38_method_1_code 17 = .ok (.putfield 16, 3) := by decide +kernel
theorem wd54 {Z : State} {a0 : Array Value} (hw : ∀ d ∈ tables_1, d.before a0 Z = true) : (Jvm.Cond.fieldLink "com/example/vantrell/vantrell/statistics/Gauge$Reading" (16 : Nat) "com/example/vantrell/vantrell/statistics/Gauge$Reading" "current" "J").before a0 Z = true := hw _ (List.mem_of_getElem? (i := 54) rfl)
theorem wd55 {Z : State} {a0 : Array Value} (hw : ∀ d ∈ tables_1, d.before a0 Z = true) : (Jvm.Cond.laysFinal "com/example/vantrell/vantrell/statistics/Gauge$Reading" "com/example/vantrell/vantrell/statistics/Gauge$Reading" "current" "J").before a0 Z = true := hw _ (List.mem_of_getElem? (i := 55) rfl)
theorem d8_20 : decode prog_38_method_1_code 20 = .ok (.return_, 1) := by decide +kernel
theorem pn3 : plainName "com/example/vantrell/vantrell/statistics/Gauge$Reading" = true := by first | (simp [plainName, overriddenIn]; done) | decide +kernel
def Q8 (Z : State) (a1 : Addr) (q2 : Int64) (q3 : Int64) (q4 : Int64) (u_a1_high : Value) (u_a1_low : Value) (u_a1_current : Value) (h0 : Heap) (n0 : Nat) (v : Option Value) (h : Heap) (L : List Loc) : Prop := v = none ∧ Fr n0 L ∧ Keep h0 h [a1] ∧ Exa Z h a1 "com/example/vantrell/vantrell/statistics/Gauge$Reading" ∧ Fld Z h a1 "com/example/vantrell/vantrell/statistics/Gauge$Reading" "high" "J" (.long q2) ∧ Fld Z h a1 "com/example/vantrell/vantrell/statistics/Gauge$Reading" "low" "J" (.long q3) ∧ Fld Z h a1 "com/example/vantrell/vantrell/statistics/Gauge$Reading" "current" "J" (.long q4)
theorem ef8 (m : MethodId) (x0 : Addr) (x1 : Int64) (x2 : Int64) (x3 : Int64) : entryFrame m #[(.ref x0), (.long x1), (.long x2), (.long x3)] 7 = mkF m 0 #[.val (.ref x0), .val (.long x1), .second, .val (.long x2), .second, .val (.long x3), .second] [] := by first | (simp [entryFrame, mkF, argsToLocals, Value.category]; done) | rfl
set_option maxRecDepth 65536 in
set_option maxHeartbeats 40000000 in
theorem rm8 (l : Launch) (Z : State) (a0 : Array Value) (hw : ∀ d ∈ tables_1, d.before a0 Z = true) (ws : List Jvm.Cond) (a1 : Addr) (q2 : Int64) (q3 : Int64) (q4 : Int64) (u_a1_high : Value) (u_a1_low : Value) (u_a1_current : Value) (h0 : Heap) (n0 : Nat) (Z0 : n0 ≤ h0.size) (E_a1 : Exa Z h0 a1 "com/example/vantrell/vantrell/statistics/Gauge$Reading") (F_a1_high : Fld Z h0 a1 "com/example/vantrell/vantrell/statistics/Gauge$Reading" "high" "J" u_a1_high) (F_a1_low : Fld Z h0 a1 "com/example/vantrell/vantrell/statistics/Gauge$Reading" "low" "J" u_a1_low) (F_a1_current : Fld Z h0 a1 "com/example/vantrell/vantrell/statistics/Gauge$Reading" "current" "J" u_a1_current) (g_a1 : n0 ≤ a1) :
    MetFree l (⟨"com/example/vantrell/vantrell/statistics/Gauge$Reading", "<init>", "(JJJ)V"⟩ : MethodName) (head1 (Jvm.Cond.code (⟨"com/example/vantrell/vantrell/statistics/Gauge$Reading", "<init>", "(JJJ)V"⟩ : MethodName) prog_38_method_1_code 7 none :: ws) ({ frames := 2, cells := 0, slots := 0, locals := 24 } : Room)) (fun a U => a = #[(.ref a1), (.long q2), (.long q3), (.long q4)] ∧ Z.Warmed39 U.vm ∧ U.heap = h0) (fun _ _ _ _ _ => True) (fun _ U o U' => ∃ v L, o = .returned v ∧ Q8 Z a1 q2 q3 q4 u_a1_high u_a1_low u_a1_current h0 n0 v U'.heap L ∧ FrameEnd U o U' L ({ frames := 2, cells := 0, slots := 0, locals := 24 } : Room).cells ({ frames := 2, cells := 0, slots := 0, locals := 24 } : Room).slots) := by
  refine MetFree.of_bodySF (plainFor_of_name pn3) hisR ?_
  intro p e s m args below meth c s₁ Bd hml0 hP hK
  obtain ⟨rfl, hZ, hh⟩ := hP
  have hx := Bd.exec
  have hby := Bd.bytes
  have hml : c.maxLocals = 7 := hml0
  have hown : s.vm.findClass "com/example/vantrell/vantrell/statistics/Gauge$Reading" = some m.cls := findClass_of_methodNamed Bd.named
  have hnm := (name_of_methodNamed Bd.named Bd.method).1
  have X0 : Stand p l e ({ frames := 2, cells := 0, slots := 0, locals := 24 } : Room) s m #[(.ref a1), (.long q2), (.long q3), (.long q4)] below meth c s₁ [] 0 0 := Stand.of_body Bd
  have e0 : s₁.heap = h0 := by rw [← hh, Bd.state]; rfl
  have N0 := Fr.nil n0
  have K0 : Keep h0 h0 [a1] := Keep.refl h0 _
  refine Go.st (P := fun o U' => ∃ v L, o = .returned v ∧ Q8 Z a1 q2 q3 q4 u_a1_high u_a1_low u_a1_current h0 n0 v U'.heap L ∧ FrameEnd s o U' L ({ frames := 2, cells := 0, slots := 0, locals := 24 } : Room).cells ({ frames := 2, cells := 0, slots := 0, locals := 24 } : Room).slots) (fun t k => castTop (ef8 m a1 q2 q3 q4) k) ?_
  show Go _ _ _ (s₁.setTop (mkF m 0 #[.val (.ref a1), .val (.long q2), .second, .val (.long q3), .second, .val (.long q4), .second] [])) _
  refine Go.st (fun t k => XS.aloadN X0.here hx rfl (hb hby d8_0) rfl rfl k) ?_
  obtain ⟨_, _, ⟨T1, L1, k1, n1⟩, -, X1, ⟨Lc1, hQ1, l1, y1, z1⟩, st1⟩ := X0.specialBack hx (y := (⟨"java/lang/Record", "<init>", "()V"⟩ : MethodName)) rfl hown (mvT hZ (wd44 hw)) (mvT hZ (wd45 hw)) (mvT hZ (wd48 hw)) (by decide) (backOf (W := 0) (rm9 l Z a0 hw [] a1 h0 n0 Z0) hZ (wd48 hw) (wd47 hw) (by decide) (by decide)) (g := (mkF m 1 #[.val (.ref a1), .val (.long q2), .second, .val (.long q3), .second, .val (.long q4), .second] [(.ref a1)])) rfl (by rw [hml]; rfl) (Steps.refl _) (a := a1) (argsL := []) (rest := []) (lenOf pd0 rfl) rfl (by show 2 * 0 + _ ≤ _; exact Nat.le_of_eq rfl) (hb hby d8_1) (fun _ _ => ⟨rfl, e0, (by decide : 0 + 0 ≤ _), (by decide : 0 + 0 ≤ _)⟩)
  dsimp only [Pt.U, Pt.locs, Pt.cells, Pt.slots] at X1 l1 y1 z1 st1 hQ1
  subst l1 y1 z1
  refine Go.tr st1 ?_
  obtain ⟨rfl, N1q, e1⟩ := hQ1
  have N1 := Fr.app N0 N1q
  show Go _ _ _ (T1.setTop (mkF m 4 #[.val (.ref a1), .val (.long q2), .second, .val (.long q3), .second, .val (.long q4), .second] [])) _
  refine Go.st (fun t k => XS.aloadN X1.here hx rfl (hb hby d8_4) rfl rfl k) ?_
  refine Go.st (fun t k => XS.lloadN X1.here hx rfl (hb hby d8_5) rfl k) ?_
  obtain ⟨T2, h2, X2, e2, W2, st2⟩ := putF X1 hx hZ hown (host := "") (Or.inl (wd50 hw)) Via.refl e1 F_a1_high E_a1 (Or.inr ⟨(wd51 hw), rfl, hnm⟩) (wd39 hw) (ty := .long) (by decide) rfl rfl (g := (mkF m 6 #[.val (.ref a1), .val (.long q2), .second, .val (.long q3), .second, .val (.long q4), .second] [(.long q2), (.ref a1)])) rfl rfl (hb hby d8_6)
  refine Go.st st2 ?_
  have N2 := Fr.snoc X2 N1 g_a1
  replace E_a1 := E_a1.wr W2
  replace F_a1_high := F_a1_high.same W2
  replace F_a1_low := F_a1_low.other W2 (Or.inr (slot_ne (Or.inr (wd53 hw)) (Or.inr (wd51 hw)) (by decide) (t := .long) (t' := .long) (by decide) (by decide)))
  replace F_a1_current := F_a1_current.other W2 (Or.inr (slot_ne (Or.inr (wd55 hw)) (Or.inr (wd51 hw)) (by decide) (t := .long) (t' := .long) (by decide) (by decide)))
  replace Z0 := Nat.le_trans Z0 (Nat.le_of_eq W2.size.symm)
  replace K0 := K0.wr W2 (Or.inl (by simp))
  show Go _ _ _ (T2.setTop (mkF m 9 #[.val (.ref a1), .val (.long q2), .second, .val (.long q3), .second, .val (.long q4), .second] [])) _
  refine Go.st (fun t k => XS.aloadN X2.here hx rfl (hb hby d8_9) rfl rfl k) ?_
  refine Go.st (fun t k => XS.lloadN X2.here hx rfl (hb hby d8_10) rfl k) ?_
  obtain ⟨T3, h3, X3, e3, W3, st3⟩ := putF X2 hx hZ hown (host := "") (Or.inl (wd52 hw)) Via.refl e2 F_a1_low E_a1 (Or.inr ⟨(wd53 hw), rfl, hnm⟩) (wd39 hw) (ty := .long) (by decide) rfl rfl (g := (mkF m 11 #[.val (.ref a1), .val (.long q2), .second, .val (.long q3), .second, .val (.long q4), .second] [(.long q3), (.ref a1)])) rfl rfl (hb hby d8_11)
  refine Go.st st3 ?_
  have N3 := Fr.snoc X3 N2 g_a1
  replace E_a1 := E_a1.wr W3
  replace F_a1_high := F_a1_high.other W3 (Or.inr (slot_ne (Or.inr (wd51 hw)) (Or.inr (wd53 hw)) (by decide) (t := .long) (t' := .long) (by decide) (by decide)))
  replace F_a1_low := F_a1_low.same W3
  replace F_a1_current := F_a1_current.other W3 (Or.inr (slot_ne (Or.inr (wd55 hw)) (Or.inr (wd53 hw)) (by decide) (t := .long) (t' := .long) (by decide) (by decide)))
  replace Z0 := Nat.le_trans Z0 (Nat.le_of_eq W3.size.symm)
  replace K0 := K0.wr W3 (Or.inl (by simp))
  show Go _ _ _ (T3.setTop (mkF m 14 #[.val (.ref a1), .val (.long q2), .second, .val (.long q3), .second, .val (.long q4), .second] [])) _
  refine Go.st (fun t k => XS.aloadN X3.here hx rfl (hb hby d8_14) rfl rfl k) ?_
  refine Go.st (fun t k => XS.lload X3.here hx rfl (hb hby d8_15) rfl k) ?_
  obtain ⟨T4, h4, X4, e4, W4, st4⟩ := putF X3 hx hZ hown (host := "") (Or.inl (wd54 hw)) Via.refl e3 F_a1_current E_a1 (Or.inr ⟨(wd55 hw), rfl, hnm⟩) (wd39 hw) (ty := .long) (by decide) rfl rfl (g := (mkF m 17 #[.val (.ref a1), .val (.long q2), .second, .val (.long q3), .second, .val (.long q4), .second] [(.long q4), (.ref a1)])) rfl rfl (hb hby d8_17)
  refine Go.st st4 ?_
  have N4 := Fr.snoc X4 N3 g_a1
  replace E_a1 := E_a1.wr W4
  replace F_a1_high := F_a1_high.other W4 (Or.inr (slot_ne (Or.inr (wd51 hw)) (Or.inr (wd55 hw)) (by decide) (t := .long) (t' := .long) (by decide) (by decide)))
  replace F_a1_low := F_a1_low.other W4 (Or.inr (slot_ne (Or.inr (wd53 hw)) (Or.inr (wd55 hw)) (by decide) (t := .long) (t' := .long) (by decide) (by decide)))
  replace F_a1_current := F_a1_current.same W4
  replace Z0 := Nat.le_trans Z0 (Nat.le_of_eq W4.size.symm)
  replace K0 := K0.wr W4 (Or.inl (by simp))
  show Go _ _ _ (T4.setTop (mkF m 20 #[.val (.ref a1), .val (.long q2), .second, .val (.long q3), .second, .val (.long q4), .second] [])) _
  obtain ⟨fs, hr, hrun, hended, hW, hsame⟩ := X4.leave (v := none) (fun _ => rfl)
  refine Go.fin (X4.returnOut hx Bd.returns (hb hby d8_20) hr) hrun hended ⟨_, _, rfl, ?_, ⟨_, rfl⟩, hW, hsame.mono (by decide) (by decide)⟩
  show Q8 Z a1 q2 q3 q4 u_a1_high u_a1_low u_a1_current h0 n0 _ T4.heap _
  rw [e4]
  exact ⟨rfl, N4, K0, E_a1, F_a1_high, F_a1_low, F_a1_current⟩
theorem d10_0 : decode prog_38_method_5_code 0 = .ok (.aload_n 0, 1) := by decide +kernel
theorem d10_1 : decode prog_38_method_5_code 1 = .ok (.getfield 7, 3) := by decide +kernel
theorem d10_4 : decode prog_38_method_5_code 4 = .ok (.lreturn, 1) := by decide +kernel
def Q10 (Z : State) (a1 : Addr) (w_a1_high : Int64) (h0 : Heap) (n0 : Nat) (v : Option Value) (h : Heap) (L : List Loc) : Prop := v = some (.long w_a1_high) ∧ Fr n0 L ∧ h = h0
theorem ef10 (m : MethodId) (x0 : Addr) : entryFrame m #[(.ref x0)] 1 = mkF m 0 #[.val (.ref x0)] [] := by first | (simp [entryFrame, mkF, argsToLocals, Value.category]; done) | rfl
set_option maxRecDepth 65536 in
set_option maxHeartbeats 40000000 in
theorem rm10 (l : Launch) (Z : State) (a0 : Array Value) (hw : ∀ d ∈ tables_1, d.before a0 Z = true) (ws : List Jvm.Cond) (a1 : Addr) (w_a1_high : Int64) (h0 : Heap) (n0 : Nat) (Z0 : n0 ≤ h0.size) (F_a1_high : Fld Z h0 a1 "com/example/vantrell/vantrell/statistics/Gauge$Reading" "high" "J" (.long w_a1_high)) :
    MetFree l (⟨"com/example/vantrell/vantrell/statistics/Gauge$Reading", "high", "()J"⟩ : MethodName) (head1 (Jvm.Cond.code (⟨"com/example/vantrell/vantrell/statistics/Gauge$Reading", "high", "()J"⟩ : MethodName) prog_38_method_5_code 1 (some .long) :: ws) ({ frames := 0, cells := 0, slots := 0, locals := 0 } : Room)) (fun a U => a = #[(.ref a1)] ∧ Z.Warmed39 U.vm ∧ U.heap = h0) (fun _ _ _ _ _ => True) (fun _ U o U' => ∃ v L, o = .returned v ∧ Q10 Z a1 w_a1_high h0 n0 v U'.heap L ∧ FrameEnd U o U' L ({ frames := 0, cells := 0, slots := 0, locals := 0 } : Room).cells ({ frames := 0, cells := 0, slots := 0, locals := 0 } : Room).slots) := by
  refine MetFree.of_bodySF (plainFor_of_name pn3) hisR ?_
  intro p e s m args below meth c s₁ Bd hml0 hP hK
  obtain ⟨rfl, hZ, hh⟩ := hP
  have hx := Bd.exec
  have hby := Bd.bytes
  have hml : c.maxLocals = 1 := hml0
  have hown : s.vm.findClass "com/example/vantrell/vantrell/statistics/Gauge$Reading" = some m.cls := findClass_of_methodNamed Bd.named
  have hnm := (name_of_methodNamed Bd.named Bd.method).1
  have X0 : Stand p l e ({ frames := 0, cells := 0, slots := 0, locals := 0 } : Room) s m #[(.ref a1)] below meth c s₁ [] 0 0 := Stand.of_body Bd
  have e0 : s₁.heap = h0 := by rw [← hh, Bd.state]; rfl
  have N0 := Fr.nil n0
  have K0 : Keep h0 h0 [] := Keep.refl h0 _
  refine Go.st (P := fun o U' => ∃ v L, o = .returned v ∧ Q10 Z a1 w_a1_high h0 n0 v U'.heap L ∧ FrameEnd s o U' L ({ frames := 0, cells := 0, slots := 0, locals := 0 } : Room).cells ({ frames := 0, cells := 0, slots := 0, locals := 0 } : Room).slots) (fun t k => castTop (ef10 m a1) k) ?_
  show Go _ _ _ (s₁.setTop (mkF m 0 #[.val (.ref a1)] [])) _
  refine Go.st (fun t k => XS.aloadN X0.here hx rfl (hb hby d10_0) rfl rfl k) ?_
  obtain ⟨T1, X1, e1, st1⟩ := getF X0 hx hZ hown (host := "") (Or.inl (wd50 hw)) Via.refl e0 F_a1_high (g := (mkF m 1 #[.val (.ref a1)] [(.ref a1)])) rfl rfl (hb hby d10_1)
  refine Go.st st1 ?_
  show Go _ _ _ (T1.setTop (mkF m 4 #[.val (.ref a1)] [(.long w_a1_high)])) _
  obtain ⟨fs, hr, hrun, hended, hW, hsame⟩ := X1.leave (v := some (.long w_a1_high)) (fun h => by rw [Bd.returns] at h; cases h)
  refine Go.fin (retOut X1 hx Bd.returns rfl (Or.inr (Or.inl ⟨rfl, rfl, _, rfl⟩)) (hb hby d10_4) hr) hrun hended ⟨_, _, rfl, ?_, ⟨_, rfl⟩, hW, hsame.mono (by decide) (by decide)⟩
  show Q10 Z a1 w_a1_high h0 n0 _ T1.heap _
  rw [e1]
  exact ⟨rfl, N0, rfl⟩
theorem d11_0 : decode prog_38_method_6_code 0 = .ok (.aload_n 0, 1) := by decide +kernel
theorem d11_1 : decode prog_38_method_6_code 1 = .ok (.getfield 13, 3) := by decide +kernel
theorem d11_4 : decode prog_38_method_6_code 4 = .ok (.lreturn, 1) := by decide +kernel
def Q11 (Z : State) (a1 : Addr) (w_a1_low : Int64) (h0 : Heap) (n0 : Nat) (v : Option Value) (h : Heap) (L : List Loc) : Prop := v = some (.long w_a1_low) ∧ Fr n0 L ∧ h = h0
theorem ef11 (m : MethodId) (x0 : Addr) : entryFrame m #[(.ref x0)] 1 = mkF m 0 #[.val (.ref x0)] [] := by first | (simp [entryFrame, mkF, argsToLocals, Value.category]; done) | rfl
set_option maxRecDepth 65536 in
set_option maxHeartbeats 40000000 in
theorem rm11 (l : Launch) (Z : State) (a0 : Array Value) (hw : ∀ d ∈ tables_1, d.before a0 Z = true) (ws : List Jvm.Cond) (a1 : Addr) (w_a1_low : Int64) (h0 : Heap) (n0 : Nat) (Z0 : n0 ≤ h0.size) (F_a1_low : Fld Z h0 a1 "com/example/vantrell/vantrell/statistics/Gauge$Reading" "low" "J" (.long w_a1_low)) :
    MetFree l (⟨"com/example/vantrell/vantrell/statistics/Gauge$Reading", "low", "()J"⟩ : MethodName) (head1 (Jvm.Cond.code (⟨"com/example/vantrell/vantrell/statistics/Gauge$Reading", "low", "()J"⟩ : MethodName) prog_38_method_6_code 1 (some .long) :: ws) ({ frames := 0, cells := 0, slots := 0, locals := 0 } : Room)) (fun a U => a = #[(.ref a1)] ∧ Z.Warmed39 U.vm ∧ U.heap = h0) (fun _ _ _ _ _ => True) (fun _ U o U' => ∃ v L, o = .returned v ∧ Q11 Z a1 w_a1_low h0 n0 v U'.heap L ∧ FrameEnd U o U' L ({ frames := 0, cells := 0, slots := 0, locals := 0 } : Room).cells ({ frames := 0, cells := 0, slots := 0, locals := 0 } : Room).slots) := by
  refine MetFree.of_bodySF (plainFor_of_name pn3) hisR ?_
  intro p e s m args below meth c s₁ Bd hml0 hP hK
  obtain ⟨rfl, hZ, hh⟩ := hP
  have hx := Bd.exec
  have hby := Bd.bytes
  have hml : c.maxLocals = 1 := hml0
  have hown : s.vm.findClass "com/example/vantrell/vantrell/statistics/Gauge$Reading" = some m.cls := findClass_of_methodNamed Bd.named
  have hnm := (name_of_methodNamed Bd.named Bd.method).1
  have X0 : Stand p l e ({ frames := 0, cells := 0, slots := 0, locals := 0 } : Room) s m #[(.ref a1)] below meth c s₁ [] 0 0 := Stand.of_body Bd
  have e0 : s₁.heap = h0 := by rw [← hh, Bd.state]; rfl
  have N0 := Fr.nil n0
  have K0 : Keep h0 h0 [] := Keep.refl h0 _
  refine Go.st (P := fun o U' => ∃ v L, o = .returned v ∧ Q11 Z a1 w_a1_low h0 n0 v U'.heap L ∧ FrameEnd s o U' L ({ frames := 0, cells := 0, slots := 0, locals := 0 } : Room).cells ({ frames := 0, cells := 0, slots := 0, locals := 0 } : Room).slots) (fun t k => castTop (ef11 m a1) k) ?_
  show Go _ _ _ (s₁.setTop (mkF m 0 #[.val (.ref a1)] [])) _
  refine Go.st (fun t k => XS.aloadN X0.here hx rfl (hb hby d11_0) rfl rfl k) ?_
  obtain ⟨T1, X1, e1, st1⟩ := getF X0 hx hZ hown (host := "") (Or.inl (wd52 hw)) Via.refl e0 F_a1_low (g := (mkF m 1 #[.val (.ref a1)] [(.ref a1)])) rfl rfl (hb hby d11_1)
  refine Go.st st1 ?_
  show Go _ _ _ (T1.setTop (mkF m 4 #[.val (.ref a1)] [(.long w_a1_low)])) _
  obtain ⟨fs, hr, hrun, hended, hW, hsame⟩ := X1.leave (v := some (.long w_a1_low)) (fun h => by rw [Bd.returns] at h; cases h)
  refine Go.fin (retOut X1 hx Bd.returns rfl (Or.inr (Or.inl ⟨rfl, rfl, _, rfl⟩)) (hb hby d11_4) hr) hrun hended ⟨_, _, rfl, ?_, ⟨_, rfl⟩, hW, hsame.mono (by decide) (by decide)⟩
  show Q11 Z a1 w_a1_low h0 n0 _ T1.heap _
  rw [e1]
  exact ⟨rfl, N0, rfl⟩
theorem d12_0 : decode prog_38_method_7_code 0 = .ok (.aload_n 0, 1) := by decide +kernel
theorem d12_1 : decode prog_38_method_7_code 1 = .ok (.getfield 16, 3) := by decide +kernel
theorem d12_4 : decode prog_38_method_7_code 4 = .ok (.lreturn, 1) := by decide +kernel
def Q12 (Z : State) (a1 : Addr) (w_a1_current : Int64) (h0 : Heap) (n0 : Nat) (v : Option Value) (h : Heap) (L : List Loc) : Prop := v = some (.long w_a1_current) ∧ Fr n0 L ∧ h = h0
theorem ef12 (m : MethodId) (x0 : Addr) : entryFrame m #[(.ref x0)] 1 = mkF m 0 #[.val (.ref x0)] [] := by first | (simp [entryFrame, mkF, argsToLocals, Value.category]; done) | rfl
set_option maxRecDepth 65536 in
set_option maxHeartbeats 40000000 in
theorem rm12 (l : Launch) (Z : State) (a0 : Array Value) (hw : ∀ d ∈ tables_1, d.before a0 Z = true) (ws : List Jvm.Cond) (a1 : Addr) (w_a1_current : Int64) (h0 : Heap) (n0 : Nat) (Z0 : n0 ≤ h0.size) (F_a1_current : Fld Z h0 a1 "com/example/vantrell/vantrell/statistics/Gauge$Reading" "current" "J" (.long w_a1_current)) :
    MetFree l (⟨"com/example/vantrell/vantrell/statistics/Gauge$Reading", "current", "()J"⟩ : MethodName) (head1 (Jvm.Cond.code (⟨"com/example/vantrell/vantrell/statistics/Gauge$Reading", "current", "()J"⟩ : MethodName) prog_38_method_7_code 1 (some .long) :: ws) ({ frames := 0, cells := 0, slots := 0, locals := 0 } : Room)) (fun a U => a = #[(.ref a1)] ∧ Z.Warmed39 U.vm ∧ U.heap = h0) (fun _ _ _ _ _ => True) (fun _ U o U' => ∃ v L, o = .returned v ∧ Q12 Z a1 w_a1_current h0 n0 v U'.heap L ∧ FrameEnd U o U' L ({ frames := 0, cells := 0, slots := 0, locals := 0 } : Room).cells ({ frames := 0, cells := 0, slots := 0, locals := 0 } : Room).slots) := by
  refine MetFree.of_bodySF (plainFor_of_name pn3) hisR ?_
  intro p e s m args below meth c s₁ Bd hml0 hP hK
  obtain ⟨rfl, hZ, hh⟩ := hP
  have hx := Bd.exec
  have hby := Bd.bytes
  have hml : c.maxLocals = 1 := hml0
  have hown : s.vm.findClass "com/example/vantrell/vantrell/statistics/Gauge$Reading" = some m.cls := findClass_of_methodNamed Bd.named
  have hnm := (name_of_methodNamed Bd.named Bd.method).1
  have X0 : Stand p l e ({ frames := 0, cells := 0, slots := 0, locals := 0 } : Room) s m #[(.ref a1)] below meth c s₁ [] 0 0 := Stand.of_body Bd
  have e0 : s₁.heap = h0 := by rw [← hh, Bd.state]; rfl
  have N0 := Fr.nil n0
  have K0 : Keep h0 h0 [] := Keep.refl h0 _
  refine Go.st (P := fun o U' => ∃ v L, o = .returned v ∧ Q12 Z a1 w_a1_current h0 n0 v U'.heap L ∧ FrameEnd s o U' L ({ frames := 0, cells := 0, slots := 0, locals := 0 } : Room).cells ({ frames := 0, cells := 0, slots := 0, locals := 0 } : Room).slots) (fun t k => castTop (ef12 m a1) k) ?_
  show Go _ _ _ (s₁.setTop (mkF m 0 #[.val (.ref a1)] [])) _
  refine Go.st (fun t k => XS.aloadN X0.here hx rfl (hb hby d12_0) rfl rfl k) ?_
  obtain ⟨T1, X1, e1, st1⟩ := getF X0 hx hZ hown (host := "") (Or.inl (wd54 hw)) Via.refl e0 F_a1_current (g := (mkF m 1 #[.val (.ref a1)] [(.ref a1)])) rfl rfl (hb hby d12_1)
  refine Go.st st1 ?_
  show Go _ _ _ (T1.setTop (mkF m 4 #[.val (.ref a1)] [(.long w_a1_current)])) _
  obtain ⟨fs, hr, hrun, hended, hW, hsame⟩ := X1.leave (v := some (.long w_a1_current)) (fun h => by rw [Bd.returns] at h; cases h)
  refine Go.fin (retOut X1 hx Bd.returns rfl (Or.inr (Or.inl ⟨rfl, rfl, _, rfl⟩)) (hb hby d12_4) hr) hrun hended ⟨_, _, rfl, ?_, ⟨_, rfl⟩, hW, hsame.mono (by decide) (by decide)⟩
  show Q12 Z a1 w_a1_current h0 n0 _ T1.heap _
  rw [e1]
  exact ⟨rfl, N0, rfl⟩
theorem d13_0 : decode prog_37_method_2_code 0 = .ok (.aload_n 0, 1) := by decide +kernel
theorem d13_1 : decode prog_37_method_2_code 1 = .ok (.getfield 7, 3) := by decide +kernel
theorem wd14 {Z : State} {a0 : Array Value} (hw : ∀ d ∈ tables_1, d.before a0 Z = true) : (Jvm.Cond.fieldLink "com/example/vantrell/vantrell/statistics/Gauge" (7 : Nat) "com/example/vantrell/vantrell/statistics/Gauge" "current" "J").before a0 Z = true := hw _ (List.mem_of_getElem? (i := 14) rfl)
theorem d13_4 : decode prog_37_method_2_code 4 = .ok (.lreturn, 1) := by decide +kernel
theorem pn4 : plainName "com/example/vantrell/vantrell/statistics/Gauge" = true := by first | (simp [plainName, overriddenIn]; done) | decide +kernel
def Q13 (Z : State) (a1 : Addr) (w_a1_current : Int64) (h0 : Heap) (n0 : Nat) (v : Option Value) (h : Heap) (L : List Loc) : Prop := v = some (.long w_a1_current) ∧ Fr n0 L ∧ h = h0
theorem ef13 (m : MethodId) (x0 : Addr) : entryFrame m #[(.ref x0)] 1 = mkF m 0 #[.val (.ref x0)] [] := by first | (simp [entryFrame, mkF, argsToLocals, Value.category]; done) | rfl
set_option maxRecDepth 65536 in
set_option maxHeartbeats 40000000 in
theorem rm13 (l : Launch) (Z : State) (a0 : Array Value) (hw : ∀ d ∈ tables_1, d.before a0 Z = true) (ws : List Jvm.Cond) (a1 : Addr) (w_a1_current : Int64) (h0 : Heap) (n0 : Nat) (Z0 : n0 ≤ h0.size) (F_a1_current : Fld Z h0 a1 "com/example/vantrell/vantrell/statistics/Gauge" "current" "J" (.long w_a1_current)) :
    MetFree l (⟨"com/example/vantrell/vantrell/statistics/Gauge", "current", "()J"⟩ : MethodName) (head1 (Jvm.Cond.code (⟨"com/example/vantrell/vantrell/statistics/Gauge", "current", "()J"⟩ : MethodName) prog_37_method_2_code 1 (some .long) :: ws) ({ frames := 0, cells := 0, slots := 0, locals := 0 } : Room)) (fun a U => a = #[(.ref a1)] ∧ Z.Warmed39 U.vm ∧ U.heap = h0) (fun _ _ _ _ _ => True) (fun _ U o U' => ∃ v L, o = .returned v ∧ Q13 Z a1 w_a1_current h0 n0 v U'.heap L ∧ FrameEnd U o U' L ({ frames := 0, cells := 0, slots := 0, locals := 0 } : Room).cells ({ frames := 0, cells := 0, slots := 0, locals := 0 } : Room).slots) := by
  refine MetFree.of_bodySF (plainFor_of_name pn4) hisR ?_
  intro p e s m args below meth c s₁ Bd hml0 hP hK
  obtain ⟨rfl, hZ, hh⟩ := hP
  have hx := Bd.exec
  have hby := Bd.bytes
  have hml : c.maxLocals = 1 := hml0
  have hown : s.vm.findClass "com/example/vantrell/vantrell/statistics/Gauge" = some m.cls := findClass_of_methodNamed Bd.named
  have hnm := (name_of_methodNamed Bd.named Bd.method).1
  have X0 : Stand p l e ({ frames := 0, cells := 0, slots := 0, locals := 0 } : Room) s m #[(.ref a1)] below meth c s₁ [] 0 0 := Stand.of_body Bd
  have e0 : s₁.heap = h0 := by rw [← hh, Bd.state]; rfl
  have N0 := Fr.nil n0
  have K0 : Keep h0 h0 [] := Keep.refl h0 _
  refine Go.st (P := fun o U' => ∃ v L, o = .returned v ∧ Q13 Z a1 w_a1_current h0 n0 v U'.heap L ∧ FrameEnd s o U' L ({ frames := 0, cells := 0, slots := 0, locals := 0 } : Room).cells ({ frames := 0, cells := 0, slots := 0, locals := 0 } : Room).slots) (fun t k => castTop (ef13 m a1) k) ?_
  show Go _ _ _ (s₁.setTop (mkF m 0 #[.val (.ref a1)] [])) _
  refine Go.st (fun t k => XS.aloadN X0.here hx rfl (hb hby d13_0) rfl rfl k) ?_
  obtain ⟨T1, X1, e1, st1⟩ := getF X0 hx hZ hown (host := "") (Or.inl (wd14 hw)) Via.refl e0 F_a1_current (g := (mkF m 1 #[.val (.ref a1)] [(.ref a1)])) rfl rfl (hb hby d13_1)
  refine Go.st st1 ?_
  show Go _ _ _ (T1.setTop (mkF m 4 #[.val (.ref a1)] [(.long w_a1_current)])) _
  obtain ⟨fs, hr, hrun, hended, hW, hsame⟩ := X1.leave (v := some (.long w_a1_current)) (fun h => by rw [Bd.returns] at h; cases h)
  refine Go.fin (retOut X1 hx Bd.returns rfl (Or.inr (Or.inl ⟨rfl, rfl, _, rfl⟩)) (hb hby d13_4) hr) hrun hended ⟨_, _, rfl, ?_, ⟨_, rfl⟩, hW, hsame.mono (by decide) (by decide)⟩
  show Q13 Z a1 w_a1_current h0 n0 _ T1.heap _
  rw [e1]
  exact ⟨rfl, N0, rfl⟩
theorem d1_0 : decode prog_37_method_1_code 0 = .ok (.aload_n 0, 1) := by decide +kernel
theorem d1_1 : decode prog_37_method_1_code 1 = .ok (.invokespecial 1, 3) := by decide +kernel
theorem wd6 {Z : State} {a0 : Array Value} (hw : ∀ d ∈ tables_1, d.before a0 Z = true) : (Jvm.Cond.methodLink "com/example/vantrell/vantrell/statistics/Gauge" (1 : Nat) ({ cls := "java/lang/Object", name := "<init>", desc := "()V" } : Jvm.MethodName)).before a0 Z = true := hw _ (List.mem_of_getElem? (i := 6) rfl)
theorem d1_4 : decode prog_37_method_1_code 4 = .ok (.return_, 1) := by decide +kernel
def Q1 (Z : State) (a1 : Addr) (h0 : Heap) (n0 : Nat) (v : Option Value) (h : Heap) (L : List Loc) : Prop := v = none ∧ Fr n0 L ∧ h = h0
theorem ef1 (m : MethodId) (x0 : Addr) : entryFrame m #[(.ref x0)] 1 = mkF m 0 #[.val (.ref x0)] [] := by first | (simp [entryFrame, mkF, argsToLocals, Value.category]; done) | rfl
set_option maxRecDepth 65536 in
set_option maxHeartbeats 40000000 in
theorem rm1 (l : Launch) (Z : State) (a0 : Array Value) (hw : ∀ d ∈ tables_1, d.before a0 Z = true) (ws : List Jvm.Cond) (a1 : Addr) (h0 : Heap) (n0 : Nat) (Z0 : n0 ≤ h0.size) :
    MetFree l (⟨"com/example/vantrell/vantrell/statistics/Gauge", "<init>", "()V"⟩ : MethodName) (head1 (Jvm.Cond.code (⟨"com/example/vantrell/vantrell/statistics/Gauge", "<init>", "()V"⟩ : MethodName) prog_37_method_1_code 1 none :: ws) ({ frames := 1, cells := 0, slots := 0, locals := 12 } : Room)) (fun a U => a = #[(.ref a1)] ∧ Z.Warmed39 U.vm ∧ U.heap = h0) (fun _ _ _ _ _ => True) (fun _ U o U' => ∃ v L, o = .returned v ∧ Q1 Z a1 h0 n0 v U'.heap L ∧ FrameEnd U o U' L ({ frames := 1, cells := 0, slots := 0, locals := 12 } : Room).cells ({ frames := 1, cells := 0, slots := 0, locals := 12 } : Room).slots) := by
  refine MetFree.of_bodySF (plainFor_of_name pn4) hisR ?_
  intro p e s m args below meth c s₁ Bd hml0 hP hK
  obtain ⟨rfl, hZ, hh⟩ := hP
  have hx := Bd.exec
  have hby := Bd.bytes
  have hml : c.maxLocals = 1 := hml0
  have hown : s.vm.findClass "com/example/vantrell/vantrell/statistics/Gauge" = some m.cls := findClass_of_methodNamed Bd.named
  have hnm := (name_of_methodNamed Bd.named Bd.method).1
  have X0 : Stand p l e ({ frames := 1, cells := 0, slots := 0, locals := 12 } : Room) s m #[(.ref a1)] below meth c s₁ [] 0 0 := Stand.of_body Bd
  have e0 : s₁.heap = h0 := by rw [← hh, Bd.state]; rfl
  have N0 := Fr.nil n0
  have K0 : Keep h0 h0 [] := Keep.refl h0 _
  refine Go.st (P := fun o U' => ∃ v L, o = .returned v ∧ Q1 Z a1 h0 n0 v U'.heap L ∧ FrameEnd s o U' L ({ frames := 1, cells := 0, slots := 0, locals := 12 } : Room).cells ({ frames := 1, cells := 0, slots := 0, locals := 12 } : Room).slots) (fun t k => castTop (ef1 m a1) k) ?_
  show Go _ _ _ (s₁.setTop (mkF m 0 #[.val (.ref a1)] [])) _
  refine Go.st (fun t k => XS.aloadN X0.here hx rfl (hb hby d1_0) rfl rfl k) ?_
  obtain ⟨T1, X1, e1, st1⟩ := initO X0 hx hZ hown (wd6 hw) (wd7 hw) (wd8 hw) e0 (g := (mkF m 1 #[.val (.ref a1)] [(.ref a1)])) rfl (by rw [hml]; rfl) rfl (hb hby d1_1) (by decide) (W := 0) (by show 2 * 0 + _ ≤ _; exact Nat.le_of_eq rfl) (by decide)
  refine Go.st st1 ?_
  show Go _ _ _ (T1.setTop (mkF m 4 #[.val (.ref a1)] [])) _
  obtain ⟨fs, hr, hrun, hended, hW, hsame⟩ := X1.leave (v := none) (fun _ => rfl)
  refine Go.fin (X1.returnOut hx Bd.returns (hb hby d1_4) hr) hrun hended ⟨_, _, rfl, ?_, ⟨_, rfl⟩, hW, hsame.mono (by decide) (by decide)⟩
  show Q1 Z a1 h0 n0 _ T1.heap _
  rw [e1]
  exact ⟨rfl, N0, rfl⟩
theorem d3_0 : decode prog_37_method_4_code 0 = .ok (.aload_n 0, 1) := by decide +kernel
theorem d3_1 : decode prog_37_method_4_code 1 = .ok (.lload_n 1, 1) := by decide +kernel
theorem d3_2 : decode prog_37_method_4_code 2 = .ok (.putfield 7, 3) := by decide +kernel
theorem wd15 {Z : State} {a0 : Array Value} (hw : ∀ d ∈ tables_1, d.before a0 Z = true) : (Jvm.Cond.lays "com/example/vantrell/vantrell/statistics/Gauge" "com/example/vantrell/vantrell/statistics/Gauge" "current" "J").before a0 Z = true := hw _ (List.mem_of_getElem? (i := 15) rfl)
theorem wd1 {Z : State} {a0 : Array Value} (hw : ∀ d ∈ tables_1, d.before a0 Z = true) : (Jvm.Cond.instantiable "com/example/vantrell/vantrell/statistics/Gauge" (3 : Nat)).before a0 Z = true := hw _ (List.mem_of_getElem? (i := 1) rfl)
theorem d3_5 : decode prog_37_method_4_code 5 = .ok (.aload_n 0, 1) := by decide +kernel
theorem d3_6 : decode prog_37_method_4_code 6 = .ok (.aload_n 0, 1) := by decide +kernel
theorem d3_7 : decode prog_37_method_4_code 7 = .ok (.getfield 17, 3) := by decide +kernel
theorem wd16 {Z : State} {a0 : Array Value} (hw : ∀ d ∈ tables_1, d.before a0 Z = true) : (Jvm.Cond.fieldLink "com/example/vantrell/vantrell/statistics/Gauge" (17 : Nat) "com/example/vantrell/vantrell/statistics/Gauge" "high" "J").before a0 Z = true := hw _ (List.mem_of_getElem? (i := 16) rfl)
theorem wd17 {Z : State} {a0 : Array Value} (hw : ∀ d ∈ tables_1, d.before a0 Z = true) : (Jvm.Cond.lays "com/example/vantrell/vantrell/statistics/Gauge" "com/example/vantrell/vantrell/statistics/Gauge" "high" "J").before a0 Z = true := hw _ (List.mem_of_getElem? (i := 17) rfl)
theorem d3_10 : decode prog_37_method_4_code 10 = .ok (.lload_n 1, 1) := by decide +kernel
theorem d3_11 : decode prog_37_method_4_code 11 = .ok (.invokestatic 20, 3) := by decide +kernel
theorem wd18 {Z : State} {a0 : Array Value} (hw : ∀ d ∈ tables_1, d.before a0 Z = true) : (Jvm.Cond.methodLink "com/example/vantrell/vantrell/statistics/Gauge" (20 : Nat) ({ cls := "java/lang/Math", name := "max", desc := "(JJ)J" } : Jvm.MethodName)).before a0 Z = true := hw _ (List.mem_of_getElem? (i := 18) rfl)
theorem wd21 {Z : State} {a0 : Array Value} (hw : ∀ d ∈ tables_1, d.before a0 Z = true) : (Jvm.Cond.code ({ cls := "java/lang/Math", name := "max", desc := "(JJ)J" } : Jvm.MethodName) jdk_29_method_66_code (4 : Nat) (Option.some Jvm.ClassFile.FieldType.long)).before a0 Z = true := hw _ (List.mem_of_getElem? (i := 21) rfl)
theorem wd20 {Z : State} {a0 : Array Value} (hw : ∀ d ∈ tables_1, d.before a0 Z = true) : (Jvm.Cond.initialized "java/lang/Math").before a0 Z = true := hw _ (List.mem_of_getElem? (i := 20) rfl)
theorem pd1 : parseMethodDescriptor "(JJ)J" = some ⟨[.long, .long], some .long⟩ := by decide +kernel
theorem wd19 {Z : State} {a0 : Array Value} (hw : ∀ d ∈ tables_1, d.before a0 Z = true) : (Jvm.Cond.static ({ cls := "java/lang/Math", name := "max", desc := "(JJ)J" } : Jvm.MethodName)).before a0 Z = true := hw _ (List.mem_of_getElem? (i := 19) rfl)
theorem d3_14 : decode prog_37_method_4_code 14 = .ok (.putfield 17, 3) := by decide +kernel
theorem d3_17 : decode prog_37_method_4_code 17 = .ok (.aload_n 0, 1) := by decide +kernel
theorem d3_18 : decode prog_37_method_4_code 18 = .ok (.aload_n 0, 1) := by decide +kernel
theorem d3_19 : decode prog_37_method_4_code 19 = .ok (.getfield 26, 3) := by decide +kernel
theorem wd22 {Z : State} {a0 : Array Value} (hw : ∀ d ∈ tables_1, d.before a0 Z = true) : (Jvm.Cond.fieldLink "com/example/vantrell/vantrell/statistics/Gauge" (26 : Nat) "com/example/vantrell/vantrell/statistics/Gauge" "low" "J").before a0 Z = true := hw _ (List.mem_of_getElem? (i := 22) rfl)
theorem wd23 {Z : State} {a0 : Array Value} (hw : ∀ d ∈ tables_1, d.before a0 Z = true) : (Jvm.Cond.lays "com/example/vantrell/vantrell/statistics/Gauge" "com/example/vantrell/vantrell/statistics/Gauge" "low" "J").before a0 Z = true := hw _ (List.mem_of_getElem? (i := 23) rfl)
theorem d3_22 : decode prog_37_method_4_code 22 = .ok (.lload_n 1, 1) := by decide +kernel
theorem d3_23 : decode prog_37_method_4_code 23 = .ok (.invokestatic 29, 3) := by decide +kernel
theorem wd24 {Z : State} {a0 : Array Value} (hw : ∀ d ∈ tables_1, d.before a0 Z = true) : (Jvm.Cond.methodLink "com/example/vantrell/vantrell/statistics/Gauge" (29 : Nat) ({ cls := "java/lang/Math", name := "min", desc := "(JJ)J" } : Jvm.MethodName)).before a0 Z = true := hw _ (List.mem_of_getElem? (i := 24) rfl)
theorem wd26 {Z : State} {a0 : Array Value} (hw : ∀ d ∈ tables_1, d.before a0 Z = true) : (Jvm.Cond.code ({ cls := "java/lang/Math", name := "min", desc := "(JJ)J" } : Jvm.MethodName) jdk_29_method_70_code (4 : Nat) (Option.some Jvm.ClassFile.FieldType.long)).before a0 Z = true := hw _ (List.mem_of_getElem? (i := 26) rfl)
theorem wd25 {Z : State} {a0 : Array Value} (hw : ∀ d ∈ tables_1, d.before a0 Z = true) : (Jvm.Cond.static ({ cls := "java/lang/Math", name := "min", desc := "(JJ)J" } : Jvm.MethodName)).before a0 Z = true := hw _ (List.mem_of_getElem? (i := 25) rfl)
theorem d3_26 : decode prog_37_method_4_code 26 = .ok (.putfield 26, 3) := by decide +kernel
theorem d3_29 : decode prog_37_method_4_code 29 = .ok (.return_, 1) := by decide +kernel
def Q3 (Z : State) (a1 : Addr) (q2 : Int64) (u_a1_current : Value) (w_a1_high : Int64) (w_a1_low : Int64) (h0 : Heap) (n0 : Nat) (v : Option Value) (h : Heap) (L : List Loc) : Prop := v = none ∧ Fr n0 L ∧ Keep h0 h [a1] ∧ Exa Z h a1 "com/example/vantrell/vantrell/statistics/Gauge" ∧ Fld Z h a1 "com/example/vantrell/vantrell/statistics/Gauge" "current" "J" (.long q2) ∧ Fld Z h a1 "com/example/vantrell/vantrell/statistics/Gauge" "high" "J" (.long (f4 w_a1_high q2)) ∧ Fld Z h a1 "com/example/vantrell/vantrell/statistics/Gauge" "low" "J" (.long (f5 w_a1_low q2))
theorem ef3 (m : MethodId) (x0 : Addr) (x1 : Int64) : entryFrame m #[(.ref x0), (.long x1)] 3 = mkF m 0 #[.val (.ref x0), .val (.long x1), .second] [] := by first | (simp [entryFrame, mkF, argsToLocals, Value.category]; done) | rfl
set_option maxRecDepth 65536 in
set_option maxHeartbeats 40000000 in
theorem rm3 (l : Launch) (Z : State) (a0 : Array Value) (hw : ∀ d ∈ tables_1, d.before a0 Z = true) (ws : List Jvm.Cond) (a1 : Addr) (q2 : Int64) (u_a1_current : Value) (w_a1_high : Int64) (w_a1_low : Int64) (h0 : Heap) (n0 : Nat) (Z0 : n0 ≤ h0.size) (E_a1 : Exa Z h0 a1 "com/example/vantrell/vantrell/statistics/Gauge") (F_a1_current : Fld Z h0 a1 "com/example/vantrell/vantrell/statistics/Gauge" "current" "J" u_a1_current) (F_a1_high : Fld Z h0 a1 "com/example/vantrell/vantrell/statistics/Gauge" "high" "J" (.long w_a1_high)) (F_a1_low : Fld Z h0 a1 "com/example/vantrell/vantrell/statistics/Gauge" "low" "J" (.long w_a1_low)) (g_a1 : n0 ≤ a1) :
    MetFree l (⟨"com/example/vantrell/vantrell/statistics/Gauge", "set", "(J)V"⟩ : MethodName) (head1 (Jvm.Cond.code (⟨"com/example/vantrell/vantrell/statistics/Gauge", "set", "(J)V"⟩ : MethodName) prog_37_method_4_code 3 none :: ws) ({ frames := 1, cells := 0, slots := 0, locals := 16 } : Room)) (fun a U => a = #[(.ref a1), (.long q2)] ∧ Z.Warmed39 U.vm ∧ U.heap = h0) (fun _ _ _ _ _ => True) (fun _ U o U' => ∃ v L, o = .returned v ∧ Q3 Z a1 q2 u_a1_current w_a1_high w_a1_low h0 n0 v U'.heap L ∧ FrameEnd U o U' L ({ frames := 1, cells := 0, slots := 0, locals := 16 } : Room).cells ({ frames := 1, cells := 0, slots := 0, locals := 16 } : Room).slots) := by
  refine MetFree.of_bodySF (plainFor_of_name pn4) hisR ?_
  intro p e s m args below meth c s₁ Bd hml0 hP hK
  obtain ⟨rfl, hZ, hh⟩ := hP
  have hx := Bd.exec
  have hby := Bd.bytes
  have hml : c.maxLocals = 3 := hml0
  have hown : s.vm.findClass "com/example/vantrell/vantrell/statistics/Gauge" = some m.cls := findClass_of_methodNamed Bd.named
  have hnm := (name_of_methodNamed Bd.named Bd.method).1
  have X0 : Stand p l e ({ frames := 1, cells := 0, slots := 0, locals := 16 } : Room) s m #[(.ref a1), (.long q2)] below meth c s₁ [] 0 0 := Stand.of_body Bd
  have e0 : s₁.heap = h0 := by rw [← hh, Bd.state]; rfl
  have N0 := Fr.nil n0
  have K0 : Keep h0 h0 [a1] := Keep.refl h0 _
  refine Go.st (P := fun o U' => ∃ v L, o = .returned v ∧ Q3 Z a1 q2 u_a1_current w_a1_high w_a1_low h0 n0 v U'.heap L ∧ FrameEnd s o U' L ({ frames := 1, cells := 0, slots := 0, locals := 16 } : Room).cells ({ frames := 1, cells := 0, slots := 0, locals := 16 } : Room).slots) (fun t k => castTop (ef3 m a1 q2) k) ?_
  show Go _ _ _ (s₁.setTop (mkF m 0 #[.val (.ref a1), .val (.long q2), .second] [])) _
  refine Go.st (fun t k => XS.aloadN X0.here hx rfl (hb hby d3_0) rfl rfl k) ?_
  refine Go.st (fun t k => XS.lloadN X0.here hx rfl (hb hby d3_1) rfl k) ?_
  obtain ⟨T1, h1, X1, e1, W1, st1⟩ := putF X0 hx hZ hown (host := "") (Or.inl (wd14 hw)) Via.refl e0 F_a1_current E_a1 (Or.inl (wd15 hw)) (wd1 hw) (ty := .long) (by decide) rfl rfl (g := (mkF m 2 #[.val (.ref a1), .val (.long q2), .second] [(.long q2), (.ref a1)])) rfl rfl (hb hby d3_2)
  refine Go.st st1 ?_
  have N1 := Fr.snoc X1 N0 g_a1
  replace E_a1 := E_a1.wr W1
  replace F_a1_current := F_a1_current.same W1
  replace F_a1_high := F_a1_high.other W1 (Or.inr (slot_ne (Or.inl (wd17 hw)) (Or.inl (wd15 hw)) (by decide) (t := .long) (t' := .long) (by decide) (by decide)))
  replace F_a1_low := F_a1_low.other W1 (Or.inr (slot_ne (Or.inl (wd23 hw)) (Or.inl (wd15 hw)) (by decide) (t := .long) (t' := .long) (by decide) (by decide)))
  replace Z0 := Nat.le_trans Z0 (Nat.le_of_eq W1.size.symm)
  replace K0 := K0.wr W1 (Or.inl (by simp))
  show Go _ _ _ (T1.setTop (mkF m 5 #[.val (.ref a1), .val (.long q2), .second] [])) _
  refine Go.st (fun t k => XS.aloadN X1.here hx rfl (hb hby d3_5) rfl rfl k) ?_
  refine Go.st (fun t k => XS.aloadN X1.here hx rfl (hb hby d3_6) rfl rfl k) ?_
  obtain ⟨T2, X2, e2, st2⟩ := getF X1 hx hZ hown (host := "") (Or.inl (wd16 hw)) Via.refl e1 F_a1_high (g := (mkF m 7 #[.val (.ref a1), .val (.long q2), .second] [(.ref a1), (.ref a1)])) rfl rfl (hb hby d3_7)
  refine Go.st st2 ?_
  show Go _ _ _ (T2.setTop (mkF m 10 #[.val (.ref a1), .val (.long q2), .second] [(.long w_a1_high), (.ref a1)])) _
  refine Go.st (fun t k => XS.lloadN X2.here hx rfl (hb hby d3_10) rfl k) ?_
  obtain ⟨_, _, ⟨T3, L3, k3, n3⟩, -, X3, ⟨Lc3, hQ3, l3, y3, z3⟩, st3⟩ := Jvm.LawKit.callS X2 hx (y := (⟨"java/lang/Math", "max", "(JJ)J"⟩ : MethodName)) hown (mvT hZ (wd18 hw)) (mvT hZ (wd19 hw)) (mvT hZ (wd20 hw)) (mvT hZ (wd21 hw)) (by decide) (backOf (W := 1) (rm4 l Z a0 hw [] w_a1_high q2 h1 n0 Z0) hZ (wd21 hw) (wd20 hw) (by decide) (by decide)) (g := (mkF m 11 #[.val (.ref a1), .val (.long q2), .second] [(.long q2), (.long w_a1_high), (.ref a1)])) rfl (by rw [hml]; rfl) (argsL := [(.long w_a1_high), (.long q2)]) (rest := [(.ref a1)]) (lenOf pd1 rfl) rfl (by show 2 * 0 + _ ≤ _; exact Nat.le_of_eq rfl) (hb hby d3_11) (fun _ _ => ⟨rfl, e2, (by decide : 0 + 0 ≤ _), (by decide : 0 + 0 ≤ _)⟩)
  dsimp only [Pt.U, Pt.locs, Pt.cells, Pt.slots] at X3 l3 y3 z3 st3 hQ3
  subst l3 y3 z3
  refine Go.st st3 ?_
  obtain ⟨rfl, N3q, e3⟩ := hQ3
  have N3 := Fr.app N1 N3q
  show Go _ _ _ (T3.setTop (mkF m 14 #[.val (.ref a1), .val (.long q2), .second] [(.long (f4 w_a1_high q2)), (.ref a1)])) _
  obtain ⟨T4, h4, X4, e4, W4, st4⟩ := putF X3 hx hZ hown (host := "") (Or.inl (wd16 hw)) Via.refl e3 F_a1_high E_a1 (Or.inl (wd17 hw)) (wd1 hw) (ty := .long) (by decide) rfl rfl (g := (mkF m 14 #[.val (.ref a1), .val (.long q2), .second] [(.long (f4 w_a1_high q2)), (.ref a1)])) rfl rfl (hb hby d3_14)
  refine Go.st st4 ?_
  have N4 := Fr.snoc X4 N3 g_a1
  replace E_a1 := E_a1.wr W4
  replace F_a1_current := F_a1_current.other W4 (Or.inr (slot_ne (Or.inl (wd15 hw)) (Or.inl (wd17 hw)) (by decide) (t := .long) (t' := .long) (by decide) (by decide)))
  replace F_a1_high := F_a1_high.same W4
  replace F_a1_low := F_a1_low.other W4 (Or.inr (slot_ne (Or.inl (wd23 hw)) (Or.inl (wd17 hw)) (by decide) (t := .long) (t' := .long) (by decide) (by decide)))
  replace Z0 := Nat.le_trans Z0 (Nat.le_of_eq W4.size.symm)
  replace K0 := K0.wr W4 (Or.inl (by simp))
  show Go _ _ _ (T4.setTop (mkF m 17 #[.val (.ref a1), .val (.long q2), .second] [])) _
  refine Go.st (fun t k => XS.aloadN X4.here hx rfl (hb hby d3_17) rfl rfl k) ?_
  refine Go.st (fun t k => XS.aloadN X4.here hx rfl (hb hby d3_18) rfl rfl k) ?_
  obtain ⟨T5, X5, e5, st5⟩ := getF X4 hx hZ hown (host := "") (Or.inl (wd22 hw)) Via.refl e4 F_a1_low (g := (mkF m 19 #[.val (.ref a1), .val (.long q2), .second] [(.ref a1), (.ref a1)])) rfl rfl (hb hby d3_19)
  refine Go.st st5 ?_
  show Go _ _ _ (T5.setTop (mkF m 22 #[.val (.ref a1), .val (.long q2), .second] [(.long w_a1_low), (.ref a1)])) _
  refine Go.st (fun t k => XS.lloadN X5.here hx rfl (hb hby d3_22) rfl k) ?_
  obtain ⟨_, _, ⟨T6, L6, k6, n6⟩, -, X6, ⟨Lc6, hQ6, l6, y6, z6⟩, st6⟩ := Jvm.LawKit.callS X5 hx (y := (⟨"java/lang/Math", "min", "(JJ)J"⟩ : MethodName)) hown (mvT hZ (wd24 hw)) (mvT hZ (wd25 hw)) (mvT hZ (wd20 hw)) (mvT hZ (wd26 hw)) (by decide) (backOf (W := 1) (rm5 l Z a0 hw [] w_a1_low q2 h4 n0 Z0) hZ (wd26 hw) (wd20 hw) (by decide) (by decide)) (g := (mkF m 23 #[.val (.ref a1), .val (.long q2), .second] [(.long q2), (.long w_a1_low), (.ref a1)])) rfl (by rw [hml]; rfl) (argsL := [(.long w_a1_low), (.long q2)]) (rest := [(.ref a1)]) (lenOf pd1 rfl) rfl (by show 2 * 0 + _ ≤ _; exact Nat.le_of_eq rfl) (hb hby d3_23) (fun _ _ => ⟨rfl, e5, (by decide : 0 + 0 ≤ _), (by decide : 0 + 0 ≤ _)⟩)
  dsimp only [Pt.U, Pt.locs, Pt.cells, Pt.slots] at X6 l6 y6 z6 st6 hQ6
  subst l6 y6 z6
  refine Go.st st6 ?_
  obtain ⟨rfl, N6q, e6⟩ := hQ6
  have N6 := Fr.app N4 N6q
  show Go _ _ _ (T6.setTop (mkF m 26 #[.val (.ref a1), .val (.long q2), .second] [(.long (f5 w_a1_low q2)), (.ref a1)])) _
  obtain ⟨T7, h7, X7, e7, W7, st7⟩ := putF X6 hx hZ hown (host := "") (Or.inl (wd22 hw)) Via.refl e6 F_a1_low E_a1 (Or.inl (wd23 hw)) (wd1 hw) (ty := .long) (by decide) rfl rfl (g := (mkF m 26 #[.val (.ref a1), .val (.long q2), .second] [(.long (f5 w_a1_low q2)), (.ref a1)])) rfl rfl (hb hby d3_26)
  refine Go.st st7 ?_
  have N7 := Fr.snoc X7 N6 g_a1
  replace E_a1 := E_a1.wr W7
  replace F_a1_current := F_a1_current.other W7 (Or.inr (slot_ne (Or.inl (wd15 hw)) (Or.inl (wd23 hw)) (by decide) (t := .long) (t' := .long) (by decide) (by decide)))
  replace F_a1_high := F_a1_high.other W7 (Or.inr (slot_ne (Or.inl (wd17 hw)) (Or.inl (wd23 hw)) (by decide) (t := .long) (t' := .long) (by decide) (by decide)))
  replace F_a1_low := F_a1_low.same W7
  replace Z0 := Nat.le_trans Z0 (Nat.le_of_eq W7.size.symm)
  replace K0 := K0.wr W7 (Or.inl (by simp))
  show Go _ _ _ (T7.setTop (mkF m 29 #[.val (.ref a1), .val (.long q2), .second] [])) _
  obtain ⟨fs, hr, hrun, hended, hW, hsame⟩ := X7.leave (v := none) (fun _ => rfl)
  refine Go.fin (X7.returnOut hx Bd.returns (hb hby d3_29) hr) hrun hended ⟨_, _, rfl, ?_, ⟨_, rfl⟩, hW, hsame.mono (by decide) (by decide)⟩
  show Q3 Z a1 q2 u_a1_current w_a1_high w_a1_low h0 n0 _ T7.heap _
  rw [e7]
  exact ⟨rfl, N7, K0, E_a1, F_a1_current, F_a1_high, F_a1_low⟩
theorem d6_0 : decode prog_37_method_3_code 0 = .ok (.aload_n 0, 1) := by decide +kernel
theorem d6_1 : decode prog_37_method_3_code 1 = .ok (.aload_n 0, 1) := by decide +kernel
theorem d6_2 : decode prog_37_method_3_code 2 = .ok (.getfield 7, 3) := by decide +kernel
theorem d6_5 : decode prog_37_method_3_code 5 = .ok (.lload_n 1, 1) := by decide +kernel
theorem d6_6 : decode prog_37_method_3_code 6 = .ok (.ladd, 1) := by decide +kernel
theorem d6_7 : decode prog_37_method_3_code 7 = .ok (.invokevirtual 13, 3) := by decide +kernel
theorem wd32 {Z : State} {a0 : Array Value} (hw : ∀ d ∈ tables_1, d.before a0 Z = true) : (Jvm.Cond.methodLink "com/example/vantrell/vantrell/statistics/Gauge" (13 : Nat) ({ cls := "com/example/vantrell/vantrell/statistics/Gauge", name := "set", desc := "(J)V" } : Jvm.MethodName)).before a0 Z = true := hw _ (List.mem_of_getElem? (i := 32) rfl)
theorem wd13 {Z : State} {a0 : Array Value} (hw : ∀ d ∈ tables_1, d.before a0 Z = true) : (Jvm.Cond.code ({ cls := "com/example/vantrell/vantrell/statistics/Gauge", name := "set", desc := "(J)V" } : Jvm.MethodName) prog_37_method_4_code (3 : Nat) (Option.none : Option Jvm.ClassFile.FieldType)).before a0 Z = true := hw _ (List.mem_of_getElem? (i := 13) rfl)
theorem wd2 {Z : State} {a0 : Array Value} (hw : ∀ d ∈ tables_1, d.before a0 Z = true) : (Jvm.Cond.initialized "com/example/vantrell/vantrell/statistics/Gauge").before a0 Z = true := hw _ (List.mem_of_getElem? (i := 2) rfl)
theorem pd2 : parseMethodDescriptor "(J)V" = some ⟨[.long], none⟩ := by decide +kernel
theorem wd12 {Z : State} {a0 : Array Value} (hw : ∀ d ∈ tables_1, d.before a0 Z = true) : (Jvm.Cond.selects "com/example/vantrell/vantrell/statistics/Gauge" ({ cls := "com/example/vantrell/vantrell/statistics/Gauge", name := "set", desc := "(J)V" } : Jvm.MethodName) ({ cls := "com/example/vantrell/vantrell/statistics/Gauge", name := "set", desc := "(J)V" } : Jvm.MethodName)).before a0 Z = true := hw _ (List.mem_of_getElem? (i := 12) rfl)
theorem wd10 {Z : State} {a0 : Array Value} (hw : ∀ d ∈ tables_1, d.before a0 Z = true) : (Jvm.Cond.declares ({ cls := "com/example/vantrell/vantrell/statistics/Gauge", name := "set", desc := "(J)V" } : Jvm.MethodName)).before a0 Z = true := hw _ (List.mem_of_getElem? (i := 10) rfl)
theorem wd11 {Z : State} {a0 : Array Value} (hw : ∀ d ∈ tables_1, d.before a0 Z = true) : (Jvm.Cond.instanceMethod ({ cls := "com/example/vantrell/vantrell/statistics/Gauge", name := "set", desc := "(J)V" } : Jvm.MethodName)).before a0 Z = true := hw _ (List.mem_of_getElem? (i := 11) rfl)
theorem d6_10 : decode prog_37_method_3_code 10 = .ok (.return_, 1) := by decide +kernel
def Q6 (Z : State) (a1 : Addr) (q2 : Int64) (w_a1_current : Int64) (w_a1_high : Int64) (w_a1_low : Int64) (h0 : Heap) (n0 : Nat) (v : Option Value) (h : Heap) (L : List Loc) : Prop := v = none ∧ Fr n0 L ∧ Keep h0 h [a1] ∧ Exa Z h a1 "com/example/vantrell/vantrell/statistics/Gauge" ∧ Fld Z h a1 "com/example/vantrell/vantrell/statistics/Gauge" "current" "J" (.long (w_a1_current + q2)) ∧ Fld Z h a1 "com/example/vantrell/vantrell/statistics/Gauge" "high" "J" (.long (f4 w_a1_high (w_a1_current + q2))) ∧ Fld Z h a1 "com/example/vantrell/vantrell/statistics/Gauge" "low" "J" (.long (f5 w_a1_low (w_a1_current + q2)))
theorem ef6 (m : MethodId) (x0 : Addr) (x1 : Int64) : entryFrame m #[(.ref x0), (.long x1)] 3 = mkF m 0 #[.val (.ref x0), .val (.long x1), .second] [] := by first | (simp [entryFrame, mkF, argsToLocals, Value.category]; done) | rfl
set_option maxRecDepth 65536 in
set_option maxHeartbeats 40000000 in
theorem rm6 (l : Launch) (Z : State) (a0 : Array Value) (hw : ∀ d ∈ tables_1, d.before a0 Z = true) (ws : List Jvm.Cond) (a1 : Addr) (q2 : Int64) (w_a1_current : Int64) (w_a1_high : Int64) (w_a1_low : Int64) (h0 : Heap) (n0 : Nat) (Z0 : n0 ≤ h0.size) (F_a1_current : Fld Z h0 a1 "com/example/vantrell/vantrell/statistics/Gauge" "current" "J" (.long w_a1_current)) (E_a1 : Exa Z h0 a1 "com/example/vantrell/vantrell/statistics/Gauge") (F_a1_high : Fld Z h0 a1 "com/example/vantrell/vantrell/statistics/Gauge" "high" "J" (.long w_a1_high)) (F_a1_low : Fld Z h0 a1 "com/example/vantrell/vantrell/statistics/Gauge" "low" "J" (.long w_a1_low)) (g_a1 : n0 ≤ a1) :
    MetFree l (⟨"com/example/vantrell/vantrell/statistics/Gauge", "add", "(J)V"⟩ : MethodName) (head1 (Jvm.Cond.code (⟨"com/example/vantrell/vantrell/statistics/Gauge", "add", "(J)V"⟩ : MethodName) prog_37_method_3_code 3 none :: ws) ({ frames := 2, cells := 0, slots := 0, locals := 30 } : Room)) (fun a U => a = #[(.ref a1), (.long q2)] ∧ Z.Warmed39 U.vm ∧ U.heap = h0) (fun _ _ _ _ _ => True) (fun _ U o U' => ∃ v L, o = .returned v ∧ Q6 Z a1 q2 w_a1_current w_a1_high w_a1_low h0 n0 v U'.heap L ∧ FrameEnd U o U' L ({ frames := 2, cells := 0, slots := 0, locals := 30 } : Room).cells ({ frames := 2, cells := 0, slots := 0, locals := 30 } : Room).slots) := by
  refine MetFree.of_bodySF (plainFor_of_name pn4) hisR ?_
  intro p e s m args below meth c s₁ Bd hml0 hP hK
  obtain ⟨rfl, hZ, hh⟩ := hP
  have hx := Bd.exec
  have hby := Bd.bytes
  have hml : c.maxLocals = 3 := hml0
  have hown : s.vm.findClass "com/example/vantrell/vantrell/statistics/Gauge" = some m.cls := findClass_of_methodNamed Bd.named
  have hnm := (name_of_methodNamed Bd.named Bd.method).1
  have X0 : Stand p l e ({ frames := 2, cells := 0, slots := 0, locals := 30 } : Room) s m #[(.ref a1), (.long q2)] below meth c s₁ [] 0 0 := Stand.of_body Bd
  have e0 : s₁.heap = h0 := by rw [← hh, Bd.state]; rfl
  have N0 := Fr.nil n0
  have K0 : Keep h0 h0 [a1] := Keep.refl h0 _
  refine Go.st (P := fun o U' => ∃ v L, o = .returned v ∧ Q6 Z a1 q2 w_a1_current w_a1_high w_a1_low h0 n0 v U'.heap L ∧ FrameEnd s o U' L ({ frames := 2, cells := 0, slots := 0, locals := 30 } : Room).cells ({ frames := 2, cells := 0, slots := 0, locals := 30 } : Room).slots) (fun t k => castTop (ef6 m a1 q2) k) ?_
  show Go _ _ _ (s₁.setTop (mkF m 0 #[.val (.ref a1), .val (.long q2), .second] [])) _
  refine Go.st (fun t k => XS.aloadN X0.here hx rfl (hb hby d6_0) rfl rfl k) ?_
  refine Go.st (fun t k => XS.aloadN X0.here hx rfl (hb hby d6_1) rfl rfl k) ?_
  obtain ⟨T1, X1, e1, st1⟩ := getF X0 hx hZ hown (host := "") (Or.inl (wd14 hw)) Via.refl e0 F_a1_current (g := (mkF m 2 #[.val (.ref a1), .val (.long q2), .second] [(.ref a1), (.ref a1)])) rfl rfl (hb hby d6_2)
  refine Go.st st1 ?_
  show Go _ _ _ (T1.setTop (mkF m 5 #[.val (.ref a1), .val (.long q2), .second] [(.long w_a1_current), (.ref a1)])) _
  refine Go.st (fun t k => XS.lloadN X1.here hx rfl (hb hby d6_5) rfl k) ?_
  refine Go.st (fun t k => XS.ladd X1.here hx rfl (hb hby d6_6) rfl k) ?_
  show Go _ _ _ (T1.setTop (mkF m 7 #[.val (.ref a1), .val (.long q2), .second] [(.long (w_a1_current + q2)), (.ref a1)])) _
  obtain ⟨cq2, kq2, q2a, q2b, q2c⟩ := isOf hZ e1 E_a1
  obtain ⟨_, _, ⟨T2, L2, k2, n2⟩, -, X2, ⟨Lc2, hQ2, l2, y2, z2⟩, st2⟩ := X1.virtualBack hx (y := (⟨"com/example/vantrell/vantrell/statistics/Gauge", "set", "(J)V"⟩ : MethodName)) (z := (⟨"com/example/vantrell/vantrell/statistics/Gauge", "set", "(J)V"⟩ : MethodName)) hown (mvT hZ (wd32 hw)) (mvT hZ (wd10 hw)) (notFace_of_selects (args := #[]) (mvT hZ (wd12 hw))) (mvT hZ (wd12 hw)) (mvT hZ (wd11 hw)) (by decide) (backOf (W := 0) (rm3 l Z a0 hw [] a1 (w_a1_current + q2) ((.long w_a1_current) : Value) w_a1_high w_a1_low h0 n0 Z0 E_a1 F_a1_current F_a1_high F_a1_low g_a1) hZ (wd13 hw) (wd2 hw) (by decide) (by decide)) q2a q2c (g := (mkF m 7 #[.val (.ref a1), .val (.long q2), .second] [(.long (w_a1_current + q2)), (.ref a1)])) rfl (by rw [hml]; rfl) (Steps.refl _) (argsL := [(.long (w_a1_current + q2))]) (rest := []) (lenOf pd2 rfl) rfl (by show 2 * 0 + _ ≤ _; exact Nat.le_of_eq rfl) (hb hby d6_7) (fun _ _ => ⟨rfl, e1, (by decide : 0 + 0 ≤ _), (by decide : 0 + 0 ≤ _)⟩)
  dsimp only [Pt.U, Pt.locs, Pt.cells, Pt.slots] at X2 l2 y2 z2 st2 hQ2
  subst l2 y2 z2
  refine Go.tr st2 ?_
  have F_a1_current_pre := F_a1_current
  have E_a1_pre := E_a1
  have F_a1_high_pre := F_a1_high
  have F_a1_low_pre := F_a1_low
  obtain ⟨h2, e2⟩ : ∃ z, T2.heap = z := ⟨_, rfl⟩
  rw [e2] at hQ2
  obtain ⟨rfl, N2q, K2, Q2_0, Q2_1, Q2_2, Q2_3⟩ := hQ2
  replace E_a1 := E_a1.keep K2
  replace Z0 := Nat.le_trans Z0 K2.1
  replace K0 := K0.trans K2 (allS (Or.inl (by simp)) all0)
  have E_a1 := Q2_0
  have F_a1_current := Q2_1
  have F_a1_high := Q2_2
  have F_a1_low := Q2_3
  have N2 := Fr.app N0 N2q
  show Go _ _ _ (T2.setTop (mkF m 10 #[.val (.ref a1), .val (.long q2), .second] [])) _
  obtain ⟨fs, hr, hrun, hended, hW, hsame⟩ := X2.leave (v := none) (fun _ => rfl)
  refine Go.fin (X2.returnOut hx Bd.returns (hb hby d6_10) hr) hrun hended ⟨_, _, rfl, ?_, ⟨_, rfl⟩, hW, hsame.mono (by decide) (by decide)⟩
  show Q6 Z a1 q2 w_a1_current w_a1_high w_a1_low h0 n0 _ T2.heap _
  rw [e2]
  exact ⟨rfl, N2, K0, E_a1, F_a1_current, F_a1_high, F_a1_low⟩
theorem d7_0 : decode prog_37_method_5_code 0 = .ok (.new 32, 3) := by decide +kernel
theorem wd38 {Z : State} {a0 : Array Value} (hw : ∀ d ∈ tables_1, d.before a0 Z = true) : (Jvm.Cond.classLink "com/example/vantrell/vantrell/statistics/Gauge" (32 : Nat) "com/example/vantrell/vantrell/statistics/Gauge$Reading").before a0 Z = true := hw _ (List.mem_of_getElem? (i := 38) rfl)
theorem wd40 {Z : State} {a0 : Array Value} (hw : ∀ d ∈ tables_1, d.before a0 Z = true) : (Jvm.Cond.initialized "com/example/vantrell/vantrell/statistics/Gauge$Reading").before a0 Z = true := hw _ (List.mem_of_getElem? (i := 40) rfl)
theorem d7_3 : decode prog_37_method_5_code 3 = .ok (.dup, 1) := by decide +kernel
theorem d7_4 : decode prog_37_method_5_code 4 = .ok (.aload_n 0, 1) := by decide +kernel
theorem d7_5 : decode prog_37_method_5_code 5 = .ok (.getfield 17, 3) := by decide +kernel
theorem d7_8 : decode prog_37_method_5_code 8 = .ok (.aload_n 0, 1) := by decide +kernel
theorem d7_9 : decode prog_37_method_5_code 9 = .ok (.getfield 26, 3) := by decide +kernel
theorem d7_12 : decode prog_37_method_5_code 12 = .ok (.aload_n 0, 1) := by decide +kernel
theorem d7_13 : decode prog_37_method_5_code 13 = .ok (.getfield 7, 3) := by decide +kernel
theorem d7_16 : decode prog_37_method_5_code 16 = .ok (.invokespecial 34, 3) := by decide +kernel
theorem wd41 {Z : State} {a0 : Array Value} (hw : ∀ d ∈ tables_1, d.before a0 Z = true) : (Jvm.Cond.methodLink "com/example/vantrell/vantrell/statistics/Gauge" (34 : Nat) ({ cls := "com/example/vantrell/vantrell/statistics/Gauge$Reading", name := "<init>", desc := "(JJJ)V" } : Jvm.MethodName)).before a0 Z = true := hw _ (List.mem_of_getElem? (i := 41) rfl)
theorem wd43 {Z : State} {a0 : Array Value} (hw : ∀ d ∈ tables_1, d.before a0 Z = true) : (Jvm.Cond.code ({ cls := "com/example/vantrell/vantrell/statistics/Gauge$Reading", name := "<init>", desc := "(JJJ)V" } : Jvm.MethodName) prog_38_method_1_code (7 : Nat) (Option.none : Option Jvm.ClassFile.FieldType)).before a0 Z = true := hw _ (List.mem_of_getElem? (i := 43) rfl)
theorem pd3 : parseMethodDescriptor "(JJJ)V" = some ⟨[.long, .long, .long], none⟩ := by decide +kernel
theorem wd42 {Z : State} {a0 : Array Value} (hw : ∀ d ∈ tables_1, d.before a0 Z = true) : (Jvm.Cond.instanceMethod ({ cls := "com/example/vantrell/vantrell/statistics/Gauge$Reading", name := "<init>", desc := "(JJJ)V" } : Jvm.MethodName)).before a0 Z = true := hw _ (List.mem_of_getElem? (i := 42) rfl)
theorem d7_19 : decode prog_37_method_5_code 19 = .ok (.astore_n 1, 1) := by decide +kernel
theorem d7_20 : decode prog_37_method_5_code 20 = .ok (.aload_n 0, 1) := by decide +kernel
theorem d7_21 : decode prog_37_method_5_code 21 = .ok (.aload_n 0, 1) := by decide +kernel
theorem d7_22 : decode prog_37_method_5_code 22 = .ok (.getfield 7, 3) := by decide +kernel
theorem d7_25 : decode prog_37_method_5_code 25 = .ok (.putfield 17, 3) := by decide +kernel
theorem d7_28 : decode prog_37_method_5_code 28 = .ok (.aload_n 0, 1) := by decide +kernel
theorem d7_29 : decode prog_37_method_5_code 29 = .ok (.aload_n 0, 1) := by decide +kernel
theorem d7_30 : decode prog_37_method_5_code 30 = .ok (.getfield 7, 3) := by decide +kernel
theorem d7_33 : decode prog_37_method_5_code 33 = .ok (.putfield 26, 3) := by decide +kernel
theorem d7_36 : decode prog_37_method_5_code 36 = .ok (.aload_n 1, 1) := by decide +kernel
theorem d7_37 : decode prog_37_method_5_code 37 = .ok (.areturn, 1) := by decide +kernel
def Q7 (Z : State) (a1 : Addr) (w_a1_high : Int64) (w_a1_low : Int64) (w_a1_current : Int64) (h0 : Heap) (n0 : Nat) (v : Option Value) (h : Heap) (L : List Loc) : Prop := ∃ x7_0 : Addr, v = some (.ref x7_0) ∧ Fr n0 L ∧ Keep h0 h [a1] ∧ n0 ≤ x7_0 ∧ h0.size ≤ x7_0 ∧ Fld Z h a1 "com/example/vantrell/vantrell/statistics/Gauge" "high" "J" (.long w_a1_current) ∧ Fld Z h a1 "com/example/vantrell/vantrell/statistics/Gauge" "low" "J" (.long w_a1_current) ∧ Fld Z h a1 "com/example/vantrell/vantrell/statistics/Gauge" "current" "J" (.long w_a1_current) ∧ Exa Z h a1 "com/example/vantrell/vantrell/statistics/Gauge" ∧ Exa Z h x7_0 "com/example/vantrell/vantrell/statistics/Gauge$Reading" ∧ Fld Z h x7_0 "com/example/vantrell/vantrell/statistics/Gauge$Reading" "high" "J" (.long w_a1_high) ∧ Fld Z h x7_0 "com/example/vantrell/vantrell/statistics/Gauge$Reading" "low" "J" (.long w_a1_low) ∧ Fld Z h x7_0 "com/example/vantrell/vantrell/statistics/Gauge$Reading" "current" "J" (.long w_a1_current)
theorem ef7 (m : MethodId) (x0 : Addr) : entryFrame m #[(.ref x0)] 2 = mkF m 0 #[.val (.ref x0), .unset] [] := by first | (simp [entryFrame, mkF, argsToLocals, Value.category]; done) | rfl
set_option maxRecDepth 65536 in
set_option maxHeartbeats 40000000 in
theorem rm7 (l : Launch) (Z : State) (a0 : Array Value) (hw : ∀ d ∈ tables_1, d.before a0 Z = true) (ws : List Jvm.Cond) (a1 : Addr) (w_a1_high : Int64) (w_a1_low : Int64) (w_a1_current : Int64) (h0 : Heap) (n0 : Nat) (Z0 : n0 ≤ h0.size) (F_a1_high : Fld Z h0 a1 "com/example/vantrell/vantrell/statistics/Gauge" "high" "J" (.long w_a1_high)) (F_a1_low : Fld Z h0 a1 "com/example/vantrell/vantrell/statistics/Gauge" "low" "J" (.long w_a1_low)) (F_a1_current : Fld Z h0 a1 "com/example/vantrell/vantrell/statistics/Gauge" "current" "J" (.long w_a1_current)) (E_a1 : Exa Z h0 a1 "com/example/vantrell/vantrell/statistics/Gauge") (g_a1 : n0 ≤ a1) :
    MetFree l (⟨"com/example/vantrell/vantrell/statistics/Gauge", "read", "()Lcom/example/vantrell/vantrell/statistics/Gauge$Reading;"⟩ : MethodName) (head1 (Jvm.Cond.code (⟨"com/example/vantrell/vantrell/statistics/Gauge", "read", "()Lcom/example/vantrell/vantrell/statistics/Gauge$Reading;"⟩ : MethodName) prog_37_method_5_code 2 (some (.object "com/example/vantrell/vantrell/statistics/Gauge$Reading")) :: ws) ({ frames := 3, cells := 1, slots := 3, locals := 43 } : Room)) (fun a U => a = #[(.ref a1)] ∧ Z.Warmed39 U.vm ∧ U.heap = h0) (fun _ _ _ _ _ => True) (fun _ U o U' => ∃ v L, o = .returned v ∧ Q7 Z a1 w_a1_high w_a1_low w_a1_current h0 n0 v U'.heap L ∧ FrameEnd U o U' L ({ frames := 3, cells := 1, slots := 3, locals := 43 } : Room).cells ({ frames := 3, cells := 1, slots := 3, locals := 43 } : Room).slots) := by
  refine MetFree.of_bodySF (plainFor_of_name pn4) hisR ?_
  intro p e s m args below meth c s₁ Bd hml0 hP hK
  obtain ⟨rfl, hZ, hh⟩ := hP
  have hx := Bd.exec
  have hby := Bd.bytes
  have hml : c.maxLocals = 2 := hml0
  have hown : s.vm.findClass "com/example/vantrell/vantrell/statistics/Gauge" = some m.cls := findClass_of_methodNamed Bd.named
  have hnm := (name_of_methodNamed Bd.named Bd.method).1
  have X0 : Stand p l e ({ frames := 3, cells := 1, slots := 3, locals := 43 } : Room) s m #[(.ref a1)] below meth c s₁ [] 0 0 := Stand.of_body Bd
  have e0 : s₁.heap = h0 := by rw [← hh, Bd.state]; rfl
  have N0 := Fr.nil n0
  have K0 : Keep h0 h0 [a1] := Keep.refl h0 _
  refine Go.st (P := fun o U' => ∃ v L, o = .returned v ∧ Q7 Z a1 w_a1_high w_a1_low w_a1_current h0 n0 v U'.heap L ∧ FrameEnd s o U' L ({ frames := 3, cells := 1, slots := 3, locals := 43 } : Room).cells ({ frames := 3, cells := 1, slots := 3, locals := 43 } : Room).slots) (fun t k => castTop (ef7 m a1) k) ?_
  show Go _ _ _ (s₁.setTop (mkF m 0 #[.val (.ref a1), .unset] [])) _
  obtain ⟨T1, h1, X1, e1, E1, A1, D1, -, st1⟩ := newO X0 hx hZ hown (wd38 hw) (wd39 hw) (wd40 hw) e0 (g := (mkF m 0 #[.val (.ref a1), .unset] [])) rfl (hb hby d7_0) (by decide) (by decide)
  obtain ⟨b1, g1⟩ : ∃ z, z = h0.size := ⟨_, rfl⟩
  rw [← g1] at A1 D1 st1
  refine Go.st st1 ?_
  have ne_a1_b1 : a1 ≠ b1 := Nat.ne_of_lt (Nat.lt_of_lt_of_le F_a1_high.lt (Nat.le_of_eq g1.symm))
  have g_b1 : n0 ≤ b1 := Nat.le_trans Z0 (Nat.le_of_eq g1.symm)
  have sz_b1 : h0.size ≤ b1 := Nat.le_trans K0.1 (Nat.le_of_eq g1.symm)
  replace F_a1_high := F_a1_high.ext E1
  replace F_a1_low := F_a1_low.ext E1
  replace F_a1_current := F_a1_current.ext E1
  replace E_a1 := E_a1.ext E1
  replace K0 := K0.ext E1
  replace Z0 := Nat.le_trans Z0 E1.1
  have E_b1 := A1
  have F_b1_high : Fld Z h1 b1 "com/example/vantrell/vantrell/statistics/Gauge$Reading" "high" "J" (.long (0 : Int64)) := D1 (Or.inr (wd51 hw)) (ty := .long) (by decide)
  have F_b1_low : Fld Z h1 b1 "com/example/vantrell/vantrell/statistics/Gauge$Reading" "low" "J" (.long (0 : Int64)) := D1 (Or.inr (wd53 hw)) (ty := .long) (by decide)
  have F_b1_current : Fld Z h1 b1 "com/example/vantrell/vantrell/statistics/Gauge$Reading" "current" "J" (.long (0 : Int64)) := D1 (Or.inr (wd55 hw)) (ty := .long) (by decide)
  show Go _ _ _ (T1.setTop (mkF m 3 #[.val (.ref a1), .unset] [(.ref b1)])) _
  refine Go.st (fun t k => XS.dup X1.here hx rfl (hb hby d7_3) rfl rfl k) ?_
  refine Go.st (fun t k => XS.aloadN X1.here hx rfl (hb hby d7_4) rfl rfl k) ?_
  obtain ⟨T2, X2, e2, st2⟩ := getF X1 hx hZ hown (host := "") (Or.inl (wd16 hw)) Via.refl e1 F_a1_high (g := (mkF m 5 #[.val (.ref a1), .unset] [(.ref a1), (.ref b1), (.ref b1)])) rfl rfl (hb hby d7_5)
  refine Go.st st2 ?_
  show Go _ _ _ (T2.setTop (mkF m 8 #[.val (.ref a1), .unset] [(.long w_a1_high), (.ref b1), (.ref b1)])) _
  refine Go.st (fun t k => XS.aloadN X2.here hx rfl (hb hby d7_8) rfl rfl k) ?_
  obtain ⟨T3, X3, e3, st3⟩ := getF X2 hx hZ hown (host := "") (Or.inl (wd22 hw)) Via.refl e2 F_a1_low (g := (mkF m 9 #[.val (.ref a1), .unset] [(.ref a1), (.long w_a1_high), (.ref b1), (.ref b1)])) rfl rfl (hb hby d7_9)
  refine Go.st st3 ?_
  show Go _ _ _ (T3.setTop (mkF m 12 #[.val (.ref a1), .unset] [(.long w_a1_low), (.long w_a1_high), (.ref b1), (.ref b1)])) _
  refine Go.st (fun t k => XS.aloadN X3.here hx rfl (hb hby d7_12) rfl rfl k) ?_
  obtain ⟨T4, X4, e4, st4⟩ := getF X3 hx hZ hown (host := "") (Or.inl (wd14 hw)) Via.refl e3 F_a1_current (g := (mkF m 13 #[.val (.ref a1), .unset] [(.ref a1), (.long w_a1_low), (.long w_a1_high), (.ref b1), (.ref b1)])) rfl rfl (hb hby d7_13)
  refine Go.st st4 ?_
  show Go _ _ _ (T4.setTop (mkF m 16 #[.val (.ref a1), .unset] [(.long w_a1_current), (.long w_a1_low), (.long w_a1_high), (.ref b1), (.ref b1)])) _
  obtain ⟨_, _, ⟨T5, L5, k5, n5⟩, -, X5, ⟨Lc5, hQ5, l5, y5, z5⟩, st5⟩ := X4.specialBack hx (y := (⟨"com/example/vantrell/vantrell/statistics/Gauge$Reading", "<init>", "(JJJ)V"⟩ : MethodName)) rfl hown (mvT hZ (wd41 hw)) (mvT hZ (wd42 hw)) (mvT hZ (wd43 hw)) (by decide) (backOf (W := 1) (rm8 l Z a0 hw [] b1 w_a1_high w_a1_low w_a1_current ((.long (0 : Int64)) : Value) ((.long (0 : Int64)) : Value) ((.long (0 : Int64)) : Value) h1 n0 Z0 E_b1 F_b1_high F_b1_low F_b1_current g_b1) hZ (wd43 hw) (wd40 hw) (by decide) (by decide)) (g := (mkF m 16 #[.val (.ref a1), .unset] [(.long w_a1_current), (.long w_a1_low), (.long w_a1_high), (.ref b1), (.ref b1)])) rfl (by rw [hml]; rfl) (Steps.refl _) (a := b1) (argsL := [(.long w_a1_high), (.long w_a1_low), (.long w_a1_current)]) (rest := [(.ref b1)]) (lenOf pd3 rfl) rfl (by show 2 * 0 + _ ≤ _; exact Nat.le_of_eq rfl) (hb hby d7_16) (fun _ _ => ⟨rfl, e4, (by decide : 1 + 0 ≤ _), (by decide : 3 + 0 ≤ _)⟩)
  dsimp only [Pt.U, Pt.locs, Pt.cells, Pt.slots] at X5 l5 y5 z5 st5 hQ5
  subst l5 y5 z5
  refine Go.tr st5 ?_
  have E_b1_pre := E_b1
  have F_b1_high_pre := F_b1_high
  have F_b1_low_pre := F_b1_low
  have F_b1_current_pre := F_b1_current
  obtain ⟨h5, e5⟩ : ∃ z, T5.heap = z := ⟨_, rfl⟩
  rw [e5] at hQ5
  obtain ⟨rfl, N5q, K5, Q5_0, Q5_1, Q5_2, Q5_3⟩ := hQ5
  replace F_a1_high := F_a1_high.keep K5 (ninS ne_a1_b1 nin0)
  replace F_a1_low := F_a1_low.keep K5 (ninS ne_a1_b1 nin0)
  replace F_a1_current := F_a1_current.keep K5 (ninS ne_a1_b1 nin0)
  replace E_a1 := E_a1.keep K5
  replace E_b1 := E_b1.keep K5
  replace Z0 := Nat.le_trans Z0 K5.1
  replace K0 := K0.trans K5 (allS (Or.inr sz_b1) all0)
  have E_b1 := Q5_0
  have F_b1_high := Q5_1
  have F_b1_low := Q5_2
  have F_b1_current := Q5_3
  have N5 := Fr.app N0 N5q
  show Go _ _ _ (T5.setTop (mkF m 19 #[.val (.ref a1), .unset] [(.ref b1)])) _
  refine Go.st (fun t k => XS.astoreN X5.here hx rfl (hb hby d7_19) rfl rfl (l' := #[.val (.ref a1), .val (.ref b1)]) rfl k) ?_
  refine Go.st (fun t k => XS.aloadN X5.here hx rfl (hb hby d7_20) rfl rfl k) ?_
  refine Go.st (fun t k => XS.aloadN X5.here hx rfl (hb hby d7_21) rfl rfl k) ?_
  obtain ⟨T6, X6, e6, st6⟩ := getF X5 hx hZ hown (host := "") (Or.inl (wd14 hw)) Via.refl e5 F_a1_current (g := (mkF m 22 #[.val (.ref a1), .val (.ref b1)] [(.ref a1), (.ref a1)])) rfl rfl (hb hby d7_22)
  refine Go.st st6 ?_
  show Go _ _ _ (T6.setTop (mkF m 25 #[.val (.ref a1), .val (.ref b1)] [(.long w_a1_current), (.ref a1)])) _
  obtain ⟨T7, h7, X7, e7, W7, st7⟩ := putF X6 hx hZ hown (host := "") (Or.inl (wd16 hw)) Via.refl e6 F_a1_high E_a1 (Or.inl (wd17 hw)) (wd1 hw) (ty := .long) (by decide) rfl rfl (g := (mkF m 25 #[.val (.ref a1), .val (.ref b1)] [(.long w_a1_current), (.ref a1)])) rfl rfl (hb hby d7_25)
  refine Go.st st7 ?_
  have N7 := Fr.snoc X7 N5 g_a1
  replace F_a1_high := F_a1_high.same W7
  replace F_a1_low := F_a1_low.other W7 (Or.inr (slot_ne (Or.inl (wd23 hw)) (Or.inl (wd17 hw)) (by decide) (t := .long) (t' := .long) (by decide) (by decide)))
  replace F_a1_current := F_a1_current.other W7 (Or.inr (slot_ne (Or.inl (wd15 hw)) (Or.inl (wd17 hw)) (by decide) (t := .long) (t' := .long) (by decide) (by decide)))
  replace E_a1 := E_a1.wr W7
  replace E_b1 := E_b1.wr W7
  replace F_b1_high := F_b1_high.other W7 (Or.inl (Ne.symm ne_a1_b1))
  replace F_b1_low := F_b1_low.other W7 (Or.inl (Ne.symm ne_a1_b1))
  replace F_b1_current := F_b1_current.other W7 (Or.inl (Ne.symm ne_a1_b1))
  replace Z0 := Nat.le_trans Z0 (Nat.le_of_eq W7.size.symm)
  replace K0 := K0.wr W7 (Or.inl (by simp))
  show Go _ _ _ (T7.setTop (mkF m 28 #[.val (.ref a1), .val (.ref b1)] [])) _
  refine Go.st (fun t k => XS.aloadN X7.here hx rfl (hb hby d7_28) rfl rfl k) ?_
  refine Go.st (fun t k => XS.aloadN X7.here hx rfl (hb hby d7_29) rfl rfl k) ?_
  obtain ⟨T8, X8, e8, st8⟩ := getF X7 hx hZ hown (host := "") (Or.inl (wd14 hw)) Via.refl e7 F_a1_current (g := (mkF m 30 #[.val (.ref a1), .val (.ref b1)] [(.ref a1), (.ref a1)])) rfl rfl (hb hby d7_30)
  refine Go.st st8 ?_
  show Go _ _ _ (T8.setTop (mkF m 33 #[.val (.ref a1), .val (.ref b1)] [(.long w_a1_current), (.ref a1)])) _
  obtain ⟨T9, h9, X9, e9, W9, st9⟩ := putF X8 hx hZ hown (host := "") (Or.inl (wd22 hw)) Via.refl e8 F_a1_low E_a1 (Or.inl (wd23 hw)) (wd1 hw) (ty := .long) (by decide) rfl rfl (g := (mkF m 33 #[.val (.ref a1), .val (.ref b1)] [(.long w_a1_current), (.ref a1)])) rfl rfl (hb hby d7_33)
  refine Go.st st9 ?_
  have N9 := Fr.snoc X9 N7 g_a1
  replace F_a1_high := F_a1_high.other W9 (Or.inr (slot_ne (Or.inl (wd17 hw)) (Or.inl (wd23 hw)) (by decide) (t := .long) (t' := .long) (by decide) (by decide)))
  replace F_a1_low := F_a1_low.same W9
  replace F_a1_current := F_a1_current.other W9 (Or.inr (slot_ne (Or.inl (wd15 hw)) (Or.inl (wd23 hw)) (by decide) (t := .long) (t' := .long) (by decide) (by decide)))
  replace E_a1 := E_a1.wr W9
  replace E_b1 := E_b1.wr W9
  replace F_b1_high := F_b1_high.other W9 (Or.inl (Ne.symm ne_a1_b1))
  replace F_b1_low := F_b1_low.other W9 (Or.inl (Ne.symm ne_a1_b1))
  replace F_b1_current := F_b1_current.other W9 (Or.inl (Ne.symm ne_a1_b1))
  replace Z0 := Nat.le_trans Z0 (Nat.le_of_eq W9.size.symm)
  replace K0 := K0.wr W9 (Or.inl (by simp))
  show Go _ _ _ (T9.setTop (mkF m 36 #[.val (.ref a1), .val (.ref b1)] [])) _
  refine Go.st (fun t k => XS.aloadN X9.here hx rfl (hb hby d7_36) rfl rfl k) ?_
  obtain ⟨fs, hr, hrun, hended, hW, hsame⟩ := X9.leave (v := some (.ref b1)) (fun h => by rw [Bd.returns] at h; cases h)
  refine Go.fin (retOut X9 hx Bd.returns rfl (Or.inr (Or.inr (Or.inr (Or.inr ⟨rfl, rfl, rfl⟩)))) (hb hby d7_37) hr) hrun hended ⟨_, _, rfl, ?_, ⟨_, rfl⟩, hW, hsame.mono (by decide) (by decide)⟩
  show Q7 Z a1 w_a1_high w_a1_low w_a1_current h0 n0 _ T9.heap _
  rw [e9]
  exact ⟨b1, rfl, N9, K0, g_b1, sz_b1, F_a1_high, F_a1_low, F_a1_current, E_a1, E_b1, F_b1_high, F_b1_low, F_b1_current⟩
theorem own_hi (a b : Int64) : (f4 (f4 (0 : Int64) a) b) = (f4 (0 : Int64) (f4 a b)) := by
  simp only [f4]
  repeat' split
  all_goals simp only [Int64.lt_iff_toInt_lt] at *
  all_goals first | rfl | (exfalso; omega) | (apply Int64.toInt_inj.mp; omega)
theorem own_lo (a b : Int64) : (f5 (f5 (0 : Int64) a) b) = (f5 (0 : Int64) (f5 a b)) := by
  simp only [f5]
  repeat' split
  all_goals simp only [Int64.lt_iff_toInt_lt] at *
  all_goals first | rfl | (exfalso; omega) | (apply Int64.toInt_inj.mp; omega)
theorem wd0 {Z : State} {a0 : Array Value} (hw : ∀ d ∈ tables_1, d.before a0 Z = true) : (Jvm.Cond.classLink "com/example/vantrell/vantrell/statistics/GaugeReadPinLaw" (7 : Nat) "com/example/vantrell/vantrell/statistics/Gauge").before a0 Z = true := hw _ (List.mem_of_getElem? (i := 0) rfl)
theorem wd3 {Z : State} {a0 : Array Value} (hw : ∀ d ∈ tables_1, d.before a0 Z = true) : (Jvm.Cond.methodLink "com/example/vantrell/vantrell/statistics/GaugeReadPinLaw" (9 : Nat) ({ cls := "com/example/vantrell/vantrell/statistics/Gauge", name := "<init>", desc := "()V" } : Jvm.MethodName)).before a0 Z = true := hw _ (List.mem_of_getElem? (i := 3) rfl)
theorem wd5 {Z : State} {a0 : Array Value} (hw : ∀ d ∈ tables_1, d.before a0 Z = true) : (Jvm.Cond.code ({ cls := "com/example/vantrell/vantrell/statistics/Gauge", name := "<init>", desc := "()V" } : Jvm.MethodName) prog_37_method_1_code (1 : Nat) (Option.none : Option Jvm.ClassFile.FieldType)).before a0 Z = true := hw _ (List.mem_of_getElem? (i := 5) rfl)
theorem wd4 {Z : State} {a0 : Array Value} (hw : ∀ d ∈ tables_1, d.before a0 Z = true) : (Jvm.Cond.instanceMethod ({ cls := "com/example/vantrell/vantrell/statistics/Gauge", name := "<init>", desc := "()V" } : Jvm.MethodName)).before a0 Z = true := hw _ (List.mem_of_getElem? (i := 4) rfl)
theorem wd9 {Z : State} {a0 : Array Value} (hw : ∀ d ∈ tables_1, d.before a0 Z = true) : (Jvm.Cond.methodLink "com/example/vantrell/vantrell/statistics/GaugeReadPinLaw" (10 : Nat) ({ cls := "com/example/vantrell/vantrell/statistics/Gauge", name := "set", desc := "(J)V" } : Jvm.MethodName)).before a0 Z = true := hw _ (List.mem_of_getElem? (i := 9) rfl)
theorem wd27 {Z : State} {a0 : Array Value} (hw : ∀ d ∈ tables_1, d.before a0 Z = true) : (Jvm.Cond.methodLink "com/example/vantrell/vantrell/statistics/GaugeReadPinLaw" (14 : Nat) ({ cls := "com/example/vantrell/vantrell/statistics/Gauge", name := "add", desc := "(J)V" } : Jvm.MethodName)).before a0 Z = true := hw _ (List.mem_of_getElem? (i := 27) rfl)
theorem wd31 {Z : State} {a0 : Array Value} (hw : ∀ d ∈ tables_1, d.before a0 Z = true) : (Jvm.Cond.code ({ cls := "com/example/vantrell/vantrell/statistics/Gauge", name := "add", desc := "(J)V" } : Jvm.MethodName) prog_37_method_3_code (3 : Nat) (Option.none : Option Jvm.ClassFile.FieldType)).before a0 Z = true := hw _ (List.mem_of_getElem? (i := 31) rfl)
theorem wd30 {Z : State} {a0 : Array Value} (hw : ∀ d ∈ tables_1, d.before a0 Z = true) : (Jvm.Cond.selects "com/example/vantrell/vantrell/statistics/Gauge" ({ cls := "com/example/vantrell/vantrell/statistics/Gauge", name := "add", desc := "(J)V" } : Jvm.MethodName) ({ cls := "com/example/vantrell/vantrell/statistics/Gauge", name := "add", desc := "(J)V" } : Jvm.MethodName)).before a0 Z = true := hw _ (List.mem_of_getElem? (i := 30) rfl)
theorem wd28 {Z : State} {a0 : Array Value} (hw : ∀ d ∈ tables_1, d.before a0 Z = true) : (Jvm.Cond.declares ({ cls := "com/example/vantrell/vantrell/statistics/Gauge", name := "add", desc := "(J)V" } : Jvm.MethodName)).before a0 Z = true := hw _ (List.mem_of_getElem? (i := 28) rfl)
theorem wd29 {Z : State} {a0 : Array Value} (hw : ∀ d ∈ tables_1, d.before a0 Z = true) : (Jvm.Cond.instanceMethod ({ cls := "com/example/vantrell/vantrell/statistics/Gauge", name := "add", desc := "(J)V" } : Jvm.MethodName)).before a0 Z = true := hw _ (List.mem_of_getElem? (i := 29) rfl)
theorem wd33 {Z : State} {a0 : Array Value} (hw : ∀ d ∈ tables_1, d.before a0 Z = true) : (Jvm.Cond.methodLink "com/example/vantrell/vantrell/statistics/GaugeReadPinLaw" (17 : Nat) ({ cls := "com/example/vantrell/vantrell/statistics/Gauge", name := "read", desc := "()Lcom/example/vantrell/vantrell/statistics/Gauge$Reading;" } : Jvm.MethodName)).before a0 Z = true := hw _ (List.mem_of_getElem? (i := 33) rfl)
theorem wd37 {Z : State} {a0 : Array Value} (hw : ∀ d ∈ tables_1, d.before a0 Z = true) : (Jvm.Cond.code ({ cls := "com/example/vantrell/vantrell/statistics/Gauge", name := "read", desc := "()Lcom/example/vantrell/vantrell/statistics/Gauge$Reading;" } : Jvm.MethodName) prog_37_method_5_code (2 : Nat) (Option.some (Jvm.ClassFile.FieldType.object "com/example/vantrell/vantrell/statistics/Gauge$Reading"))).before a0 Z = true := hw _ (List.mem_of_getElem? (i := 37) rfl)
theorem pd4 : parseMethodDescriptor "()Lcom/example/vantrell/vantrell/statistics/Gauge$Reading;" = some ⟨[], some (.object "com/example/vantrell/vantrell/statistics/Gauge$Reading")⟩ := by decide +kernel
theorem wd36 {Z : State} {a0 : Array Value} (hw : ∀ d ∈ tables_1, d.before a0 Z = true) : (Jvm.Cond.selects "com/example/vantrell/vantrell/statistics/Gauge" ({ cls := "com/example/vantrell/vantrell/statistics/Gauge", name := "read", desc := "()Lcom/example/vantrell/vantrell/statistics/Gauge$Reading;" } : Jvm.MethodName) ({ cls := "com/example/vantrell/vantrell/statistics/Gauge", name := "read", desc := "()Lcom/example/vantrell/vantrell/statistics/Gauge$Reading;" } : Jvm.MethodName)).before a0 Z = true := hw _ (List.mem_of_getElem? (i := 36) rfl)
theorem wd34 {Z : State} {a0 : Array Value} (hw : ∀ d ∈ tables_1, d.before a0 Z = true) : (Jvm.Cond.declares ({ cls := "com/example/vantrell/vantrell/statistics/Gauge", name := "read", desc := "()Lcom/example/vantrell/vantrell/statistics/Gauge$Reading;" } : Jvm.MethodName)).before a0 Z = true := hw _ (List.mem_of_getElem? (i := 34) rfl)
theorem wd35 {Z : State} {a0 : Array Value} (hw : ∀ d ∈ tables_1, d.before a0 Z = true) : (Jvm.Cond.instanceMethod ({ cls := "com/example/vantrell/vantrell/statistics/Gauge", name := "read", desc := "()Lcom/example/vantrell/vantrell/statistics/Gauge$Reading;" } : Jvm.MethodName)).before a0 Z = true := hw _ (List.mem_of_getElem? (i := 35) rfl)
theorem wd56 {Z : State} {a0 : Array Value} (hw : ∀ d ∈ tables_1, d.before a0 Z = true) : (Jvm.Cond.methodLink "com/example/vantrell/vantrell/statistics/GaugeReadPinLaw" (21 : Nat) ({ cls := "java/lang/Math", name := "max", desc := "(JJ)J" } : Jvm.MethodName)).before a0 Z = true := hw _ (List.mem_of_getElem? (i := 56) rfl)
theorem wd57 {Z : State} {a0 : Array Value} (hw : ∀ d ∈ tables_1, d.before a0 Z = true) : (Jvm.Cond.methodLink "com/example/vantrell/vantrell/statistics/GaugeReadPinLaw" (27 : Nat) ({ cls := "java/lang/Math", name := "min", desc := "(JJ)J" } : Jvm.MethodName)).before a0 Z = true := hw _ (List.mem_of_getElem? (i := 57) rfl)
theorem wd58 {Z : State} {a0 : Array Value} (hw : ∀ d ∈ tables_1, d.before a0 Z = true) : (Jvm.Cond.methodLink "com/example/vantrell/vantrell/statistics/GaugeReadPinLaw" (30 : Nat) ({ cls := "com/example/vantrell/vantrell/statistics/Gauge$Reading", name := "high", desc := "()J" } : Jvm.MethodName)).before a0 Z = true := hw _ (List.mem_of_getElem? (i := 58) rfl)
theorem wd62 {Z : State} {a0 : Array Value} (hw : ∀ d ∈ tables_1, d.before a0 Z = true) : (Jvm.Cond.code ({ cls := "com/example/vantrell/vantrell/statistics/Gauge$Reading", name := "high", desc := "()J" } : Jvm.MethodName) prog_38_method_5_code (1 : Nat) (Option.some Jvm.ClassFile.FieldType.long)).before a0 Z = true := hw _ (List.mem_of_getElem? (i := 62) rfl)
theorem pd5 : parseMethodDescriptor "()J" = some ⟨[], some .long⟩ := by decide +kernel
theorem wd61 {Z : State} {a0 : Array Value} (hw : ∀ d ∈ tables_1, d.before a0 Z = true) : (Jvm.Cond.selects "com/example/vantrell/vantrell/statistics/Gauge$Reading" ({ cls := "com/example/vantrell/vantrell/statistics/Gauge$Reading", name := "high", desc := "()J" } : Jvm.MethodName) ({ cls := "com/example/vantrell/vantrell/statistics/Gauge$Reading", name := "high", desc := "()J" } : Jvm.MethodName)).before a0 Z = true := hw _ (List.mem_of_getElem? (i := 61) rfl)
theorem wd59 {Z : State} {a0 : Array Value} (hw : ∀ d ∈ tables_1, d.before a0 Z = true) : (Jvm.Cond.declares ({ cls := "com/example/vantrell/vantrell/statistics/Gauge$Reading", name := "high", desc := "()J" } : Jvm.MethodName)).before a0 Z = true := hw _ (List.mem_of_getElem? (i := 59) rfl)
theorem wd60 {Z : State} {a0 : Array Value} (hw : ∀ d ∈ tables_1, d.before a0 Z = true) : (Jvm.Cond.instanceMethod ({ cls := "com/example/vantrell/vantrell/statistics/Gauge$Reading", name := "high", desc := "()J" } : Jvm.MethodName)).before a0 Z = true := hw _ (List.mem_of_getElem? (i := 60) rfl)
theorem wd63 {Z : State} {a0 : Array Value} (hw : ∀ d ∈ tables_1, d.before a0 Z = true) : (Jvm.Cond.methodLink "com/example/vantrell/vantrell/statistics/GaugeReadPinLaw" (36 : Nat) ({ cls := "com/example/vantrell/vantrell/statistics/Gauge$Reading", name := "low", desc := "()J" } : Jvm.MethodName)).before a0 Z = true := hw _ (List.mem_of_getElem? (i := 63) rfl)
theorem wd67 {Z : State} {a0 : Array Value} (hw : ∀ d ∈ tables_1, d.before a0 Z = true) : (Jvm.Cond.code ({ cls := "com/example/vantrell/vantrell/statistics/Gauge$Reading", name := "low", desc := "()J" } : Jvm.MethodName) prog_38_method_6_code (1 : Nat) (Option.some Jvm.ClassFile.FieldType.long)).before a0 Z = true := hw _ (List.mem_of_getElem? (i := 67) rfl)
theorem wd66 {Z : State} {a0 : Array Value} (hw : ∀ d ∈ tables_1, d.before a0 Z = true) : (Jvm.Cond.selects "com/example/vantrell/vantrell/statistics/Gauge$Reading" ({ cls := "com/example/vantrell/vantrell/statistics/Gauge$Reading", name := "low", desc := "()J" } : Jvm.MethodName) ({ cls := "com/example/vantrell/vantrell/statistics/Gauge$Reading", name := "low", desc := "()J" } : Jvm.MethodName)).before a0 Z = true := hw _ (List.mem_of_getElem? (i := 66) rfl)
theorem wd64 {Z : State} {a0 : Array Value} (hw : ∀ d ∈ tables_1, d.before a0 Z = true) : (Jvm.Cond.declares ({ cls := "com/example/vantrell/vantrell/statistics/Gauge$Reading", name := "low", desc := "()J" } : Jvm.MethodName)).before a0 Z = true := hw _ (List.mem_of_getElem? (i := 64) rfl)
theorem wd65 {Z : State} {a0 : Array Value} (hw : ∀ d ∈ tables_1, d.before a0 Z = true) : (Jvm.Cond.instanceMethod ({ cls := "com/example/vantrell/vantrell/statistics/Gauge$Reading", name := "low", desc := "()J" } : Jvm.MethodName)).before a0 Z = true := hw _ (List.mem_of_getElem? (i := 65) rfl)
theorem wd68 {Z : State} {a0 : Array Value} (hw : ∀ d ∈ tables_1, d.before a0 Z = true) : (Jvm.Cond.methodLink "com/example/vantrell/vantrell/statistics/GaugeReadPinLaw" (39 : Nat) ({ cls := "com/example/vantrell/vantrell/statistics/Gauge$Reading", name := "current", desc := "()J" } : Jvm.MethodName)).before a0 Z = true := hw _ (List.mem_of_getElem? (i := 68) rfl)
theorem wd72 {Z : State} {a0 : Array Value} (hw : ∀ d ∈ tables_1, d.before a0 Z = true) : (Jvm.Cond.code ({ cls := "com/example/vantrell/vantrell/statistics/Gauge$Reading", name := "current", desc := "()J" } : Jvm.MethodName) prog_38_method_7_code (1 : Nat) (Option.some Jvm.ClassFile.FieldType.long)).before a0 Z = true := hw _ (List.mem_of_getElem? (i := 72) rfl)
theorem wd71 {Z : State} {a0 : Array Value} (hw : ∀ d ∈ tables_1, d.before a0 Z = true) : (Jvm.Cond.selects "com/example/vantrell/vantrell/statistics/Gauge$Reading" ({ cls := "com/example/vantrell/vantrell/statistics/Gauge$Reading", name := "current", desc := "()J" } : Jvm.MethodName) ({ cls := "com/example/vantrell/vantrell/statistics/Gauge$Reading", name := "current", desc := "()J" } : Jvm.MethodName)).before a0 Z = true := hw _ (List.mem_of_getElem? (i := 71) rfl)
theorem wd69 {Z : State} {a0 : Array Value} (hw : ∀ d ∈ tables_1, d.before a0 Z = true) : (Jvm.Cond.declares ({ cls := "com/example/vantrell/vantrell/statistics/Gauge$Reading", name := "current", desc := "()J" } : Jvm.MethodName)).before a0 Z = true := hw _ (List.mem_of_getElem? (i := 69) rfl)
theorem wd70 {Z : State} {a0 : Array Value} (hw : ∀ d ∈ tables_1, d.before a0 Z = true) : (Jvm.Cond.instanceMethod ({ cls := "com/example/vantrell/vantrell/statistics/Gauge$Reading", name := "current", desc := "()J" } : Jvm.MethodName)).before a0 Z = true := hw _ (List.mem_of_getElem? (i := 70) rfl)
theorem wd73 {Z : State} {a0 : Array Value} (hw : ∀ d ∈ tables_1, d.before a0 Z = true) : (Jvm.Cond.methodLink "com/example/vantrell/vantrell/statistics/GaugeReadPinLaw" (42 : Nat) ({ cls := "com/example/vantrell/vantrell/statistics/Gauge", name := "current", desc := "()J" } : Jvm.MethodName)).before a0 Z = true := hw _ (List.mem_of_getElem? (i := 73) rfl)
theorem wd77 {Z : State} {a0 : Array Value} (hw : ∀ d ∈ tables_1, d.before a0 Z = true) : (Jvm.Cond.code ({ cls := "com/example/vantrell/vantrell/statistics/Gauge", name := "current", desc := "()J" } : Jvm.MethodName) prog_37_method_2_code (1 : Nat) (Option.some Jvm.ClassFile.FieldType.long)).before a0 Z = true := hw _ (List.mem_of_getElem? (i := 77) rfl)
theorem wd76 {Z : State} {a0 : Array Value} (hw : ∀ d ∈ tables_1, d.before a0 Z = true) : (Jvm.Cond.selects "com/example/vantrell/vantrell/statistics/Gauge" ({ cls := "com/example/vantrell/vantrell/statistics/Gauge", name := "current", desc := "()J" } : Jvm.MethodName) ({ cls := "com/example/vantrell/vantrell/statistics/Gauge", name := "current", desc := "()J" } : Jvm.MethodName)).before a0 Z = true := hw _ (List.mem_of_getElem? (i := 76) rfl)
theorem wd74 {Z : State} {a0 : Array Value} (hw : ∀ d ∈ tables_1, d.before a0 Z = true) : (Jvm.Cond.declares ({ cls := "com/example/vantrell/vantrell/statistics/Gauge", name := "current", desc := "()J" } : Jvm.MethodName)).before a0 Z = true := hw _ (List.mem_of_getElem? (i := 74) rfl)
theorem wd75 {Z : State} {a0 : Array Value} (hw : ∀ d ∈ tables_1, d.before a0 Z = true) : (Jvm.Cond.instanceMethod ({ cls := "com/example/vantrell/vantrell/statistics/Gauge", name := "current", desc := "()J" } : Jvm.MethodName)).before a0 Z = true := hw _ (List.mem_of_getElem? (i := 75) rfl)
theorem pn5 : plainName "com/example/vantrell/vantrell/statistics/GaugeReadPinLaw" = true := by first | (simp [plainName, overriddenIn]; done) | decide +kernel
def Q0 (Z : State) (q1 : Int64) (q2 : Int64) (q3 : Int64) (p4 : Int32) (h0 : Heap) (n0 : Nat) (v : Option Value) (h : Heap) (L : List Loc) : Prop := v = some (.int (1 : Int32)) ∧ Fr n0 L
theorem ef0 (m : MethodId) (x0 : Int64) (x1 : Int64) (x2 : Int64) (x3 : Int32) : entryFrame m #[(.long x0), (.long x1), (.long x2), (.int x3)] maxLocals = mkF m 0 #[.val (.long x0), .second, .val (.long x1), .second, .val (.long x2), .second, .val (.int x3), .unset, .unset, .unset, .unset, .unset, .unset, .unset, .unset, .unset, .unset, .unset, .unset, .unset, .unset, .unset, .unset, .unset, .unset] [] := by first | (simp [entryFrame, mkF, argsToLocals, Value.category, maxLocals]; done) | rfl
set_option maxRecDepth 65536 in
set_option maxHeartbeats 40000000 in
theorem rm0 (l : Launch) (Z : State) (a0 : Array Value) (hw : ∀ d ∈ tables_1, d.before a0 Z = true) (ws : List Jvm.Cond) (q1 : Int64) (q2 : Int64) (q3 : Int64) (p4 : Int32) (h0 : Heap) (n0 : Nat) (Z0 : n0 ≤ h0.size) :
    MetFree l x (head1 (Jvm.Cond.code x code maxLocals ret :: ws) room_1) (fun a U => a = #[(.long q1), (.long q2), (.long q3), (.int p4)] ∧ Z.Warmed39 U.vm ∧ U.heap = h0) (fun _ _ _ _ _ => True) (fun _ U o U' => ∃ v L, o = .returned v ∧ Q0 Z q1 q2 q3 p4 h0 n0 v U'.heap L ∧ FrameEnd U o U' L 16 128) := by
  refine MetFree.of_bodySF (plainFor_of_name pn5) hisR ?_
  intro p e s m args below meth c s₁ Bd hml0 hP hK
  obtain ⟨rfl, hZ, hh⟩ := hP
  have hx := Bd.exec
  have hby := Bd.bytes
  have hml : c.maxLocals = 25 := hml0
  have hown : s.vm.findClass "com/example/vantrell/vantrell/statistics/GaugeReadPinLaw" = some m.cls := findClass_of_methodNamed Bd.named
  have hnm := (name_of_methodNamed Bd.named Bd.method).1
  have X0 : Stand p l e room_1 s m #[(.long q1), (.long q2), (.long q3), (.int p4)] below meth c s₁ [] 0 0 := Stand.of_body Bd
  have e0 : s₁.heap = h0 := by rw [← hh, Bd.state]; rfl
  have N0 := Fr.nil n0
  have K0 : Keep h0 h0 [] := Keep.refl h0 _
  refine Go.st (P := fun o U' => ∃ v L, o = .returned v ∧ Q0 Z q1 q2 q3 p4 h0 n0 v U'.heap L ∧ FrameEnd s o U' L 16 128) (fun t k => castTop (ef0 m q1 q2 q3 p4) k) ?_
  show Go _ _ _ (s₁.setTop (mkF m 0 #[.val (.long q1), .second, .val (.long q2), .second, .val (.long q3), .second, .val (.int p4), .unset, .unset, .unset, .unset, .unset, .unset, .unset, .unset, .unset, .unset, .unset, .unset, .unset, .unset, .unset, .unset, .unset, .unset] [])) _
  refine Go.st (fun t k => XS.iload X0.here hx rfl (hb hby at_0) rfl k) ?_
  refine Go.st (fun t k => XS.iconst X0.here hx rfl (hb hby at_2) k) ?_
  refine Go.st (fun t k => XS.iand X0.here hx rfl (hb hby at_3) rfl k) ?_
  show Go _ _ _ (s₁.setTop (mkF m 4 #[.val (.long q1), .second, .val (.long q2), .second, .val (.long q3), .second, .val (.int p4), .unset, .unset, .unset, .unset, .unset, .unset, .unset, .unset, .unset, .unset, .unset, .unset, .unset, .unset, .unset, .unset, .unset, .unset] [(.int (p4 &&& (1 : Int32)))])) _
  by_cases hc1 : (p4 &&& (1 : Int32)) = (0 : Int32)
  · refine Go.st (fun t k => XS.ifYes X0.here hx rfl (pc0 := 4) (pc' := 11) rfl (hb hby at_4) rfl ((if0 _ _).trans (teq hc1).1) (by decide) (by decide) k) ?_
    show Go _ _ _ (s₁.setTop (mkF m 11 #[.val (.long q1), .second, .val (.long q2), .second, .val (.long q3), .second, .val (.int p4), .unset, .unset, .unset, .unset, .unset, .unset, .unset, .unset, .unset, .unset, .unset, .unset, .unset, .unset, .unset, .unset, .unset, .unset] [])) _
    refine Go.st (fun t k => XS.iconst X0.here hx rfl (hb hby at_11) k) ?_
    refine Go.st (fun t k => XS.istore X0.here hx rfl (hb hby at_12) rfl (l' := #[.val (.long q1), .second, .val (.long q2), .second, .val (.long q3), .second, .val (.int p4), .val (.int 0), .unset, .unset, .unset, .unset, .unset, .unset, .unset, .unset, .unset, .unset, .unset, .unset, .unset, .unset, .unset, .unset, .unset]) rfl k) ?_
    obtain ⟨T2, h2, X2, e2, E2, A2, D2, -, st2⟩ := newO X0 hx hZ hown (wd0 hw) (wd1 hw) (wd2 hw) e0 (g := (mkF m 14 #[.val (.long q1), .second, .val (.long q2), .second, .val (.long q3), .second, .val (.int p4), .val (.int 0), .unset, .unset, .unset, .unset, .unset, .unset, .unset, .unset, .unset, .unset, .unset, .unset, .unset, .unset, .unset, .unset, .unset] [])) rfl (hb hby at_14) (by decide) (by decide)
    obtain ⟨b2, g2⟩ : ∃ z, z = h0.size := ⟨_, rfl⟩
    rw [← g2] at A2 D2 st2
    refine Go.st st2 ?_
    have g_b2 : n0 ≤ b2 := Nat.le_trans Z0 (Nat.le_of_eq g2.symm)
    have sz_b2 : h0.size ≤ b2 := Nat.le_trans K0.1 (Nat.le_of_eq g2.symm)
    replace K0 := K0.ext E2
    replace Z0 := Nat.le_trans Z0 E2.1
    have E_b2 := A2
    have F_b2_current : Fld Z h2 b2 "com/example/vantrell/vantrell/statistics/Gauge" "current" "J" (.long (0 : Int64)) := D2 (Or.inl (wd15 hw)) (ty := .long) (by decide)
    have F_b2_high : Fld Z h2 b2 "com/example/vantrell/vantrell/statistics/Gauge" "high" "J" (.long (0 : Int64)) := D2 (Or.inl (wd17 hw)) (ty := .long) (by decide)
    have F_b2_low : Fld Z h2 b2 "com/example/vantrell/vantrell/statistics/Gauge" "low" "J" (.long (0 : Int64)) := D2 (Or.inl (wd23 hw)) (ty := .long) (by decide)
    show Go _ _ _ (T2.setTop (mkF m 17 #[.val (.long q1), .second, .val (.long q2), .second, .val (.long q3), .second, .val (.int p4), .val (.int 0), .unset, .unset, .unset, .unset, .unset, .unset, .unset, .unset, .unset, .unset, .unset, .unset, .unset, .unset, .unset, .unset, .unset] [(.ref b2)])) _
    refine Go.st (fun t k => XS.dup X2.here hx rfl (hb hby at_17) rfl rfl k) ?_
    obtain ⟨_, _, ⟨T3, L3, k3, n3⟩, -, X3, ⟨Lc3, hQ3, l3, y3, z3⟩, st3⟩ := X2.specialBack hx (y := (⟨"com/example/vantrell/vantrell/statistics/Gauge", "<init>", "()V"⟩ : MethodName)) rfl hown (mvT hZ (wd3 hw)) (mvT hZ (wd4 hw)) (mvT hZ (wd5 hw)) (by decide) (backOf (W := 1) (rm1 l Z a0 hw [] b2 h2 n0 Z0) hZ (wd5 hw) (wd2 hw) (by decide) (by decide)) (g := (mkF m 18 #[.val (.long q1), .second, .val (.long q2), .second, .val (.long q3), .second, .val (.int p4), .val (.int 0), .unset, .unset, .unset, .unset, .unset, .unset, .unset, .unset, .unset, .unset, .unset, .unset, .unset, .unset, .unset, .unset, .unset] [(.ref b2), (.ref b2)])) rfl (by rw [hml]; rfl) (Steps.refl _) (a := b2) (argsL := []) (rest := [(.ref b2)]) (lenOf pd0 rfl) rfl (by show 2 * 0 + _ ≤ _; exact Nat.le_of_eq rfl) (hb hby at_18) (fun _ _ => ⟨rfl, e2, (by decide : 1 + 0 ≤ _), (by decide : 3 + 0 ≤ _)⟩)
    dsimp only [Pt.U, Pt.locs, Pt.cells, Pt.slots] at X3 l3 y3 z3 st3 hQ3
    subst l3 y3 z3
    refine Go.tr st3 ?_
    obtain ⟨rfl, N3q, e3⟩ := hQ3
    have N3 := Fr.app N0 N3q
    show Go _ _ _ (T3.setTop (mkF m 21 #[.val (.long q1), .second, .val (.long q2), .second, .val (.long q3), .second, .val (.int p4), .val (.int 0), .unset, .unset, .unset, .unset, .unset, .unset, .unset, .unset, .unset, .unset, .unset, .unset, .unset, .unset, .unset, .unset, .unset] [(.ref b2)])) _
    refine Go.st (fun t k => XS.astore X3.here hx rfl (hb hby at_21) rfl rfl (l' := #[.val (.long q1), .second, .val (.long q2), .second, .val (.long q3), .second, .val (.int p4), .val (.int 0), .val (.ref b2), .unset, .unset, .unset, .unset, .unset, .unset, .unset, .unset, .unset, .unset, .unset, .unset, .unset, .unset, .unset, .unset]) rfl k) ?_
    refine Go.st (fun t k => XS.aload X3.here hx rfl (hb hby at_23) rfl rfl k) ?_
    refine Go.st (fun t k => XS.lloadN X3.here hx rfl (hb hby at_25) rfl k) ?_
    obtain ⟨cq4, kq4, q4a, q4b, q4c⟩ := isOf hZ e3 E_b2
    obtain ⟨_, _, ⟨T4, L4, k4, n4⟩, -, X4, ⟨Lc4, hQ4, l4, y4, z4⟩, st4⟩ := X3.virtualBack hx (y := (⟨"com/example/vantrell/vantrell/statistics/Gauge", "set", "(J)V"⟩ : MethodName)) (z := (⟨"com/example/vantrell/vantrell/statistics/Gauge", "set", "(J)V"⟩ : MethodName)) hown (mvT hZ (wd9 hw)) (mvT hZ (wd10 hw)) (notFace_of_selects (args := #[]) (mvT hZ (wd12 hw))) (mvT hZ (wd12 hw)) (mvT hZ (wd11 hw)) (by decide) (backOf (W := 0) (rm3 l Z a0 hw [] b2 q1 ((.long (0 : Int64)) : Value) (0 : Int64) (0 : Int64) h2 n0 Z0 E_b2 F_b2_current F_b2_high F_b2_low g_b2) hZ (wd13 hw) (wd2 hw) (by decide) (by decide)) q4a q4c (g := (mkF m 26 #[.val (.long q1), .second, .val (.long q2), .second, .val (.long q3), .second, .val (.int p4), .val (.int 0), .val (.ref b2), .unset, .unset, .unset, .unset, .unset, .unset, .unset, .unset, .unset, .unset, .unset, .unset, .unset, .unset, .unset, .unset] [(.long q1), (.ref b2)])) rfl (by rw [hml]; rfl) (Steps.refl _) (argsL := [(.long q1)]) (rest := []) (lenOf pd2 rfl) rfl (by show 2 * 0 + _ ≤ _; exact Nat.le_of_eq rfl) (hb hby at_26) (fun _ _ => ⟨rfl, e3, (by decide : 1 + 0 ≤ _), (by decide : 3 + 0 ≤ _)⟩)
    dsimp only [Pt.U, Pt.locs, Pt.cells, Pt.slots] at X4 l4 y4 z4 st4 hQ4
    subst l4 y4 z4
    refine Go.tr st4 ?_
    have E_b2_pre := E_b2
    have F_b2_current_pre := F_b2_current
    have F_b2_high_pre := F_b2_high
    have F_b2_low_pre := F_b2_low
    obtain ⟨h4, e4⟩ : ∃ z, T4.heap = z := ⟨_, rfl⟩
    rw [e4] at hQ4
    obtain ⟨rfl, N4q, K4, Q4_0, Q4_1, Q4_2, Q4_3⟩ := hQ4
    replace E_b2 := E_b2.keep K4
    replace Z0 := Nat.le_trans Z0 K4.1
    replace K0 := K0.trans K4 (allS (Or.inr sz_b2) all0)
    have E_b2 := Q4_0
    have F_b2_current := Q4_1
    have F_b2_high := Q4_2
    have F_b2_low := Q4_3
    have N4 := Fr.app N3 N4q
    show Go _ _ _ (T4.setTop (mkF m 29 #[.val (.long q1), .second, .val (.long q2), .second, .val (.long q3), .second, .val (.int p4), .val (.int 0), .val (.ref b2), .unset, .unset, .unset, .unset, .unset, .unset, .unset, .unset, .unset, .unset, .unset, .unset, .unset, .unset, .unset, .unset] [])) _
    refine Go.st (fun t k => XS.aload X4.here hx rfl (hb hby at_29) rfl rfl k) ?_
    refine Go.st (fun t k => XS.lloadN X4.here hx rfl (hb hby at_31) rfl k) ?_
    obtain ⟨cq5, kq5, q5a, q5b, q5c⟩ := isOf hZ e4 E_b2
    obtain ⟨_, _, ⟨T5, L5, k5, n5⟩, -, X5, ⟨Lc5, hQ5, l5, y5, z5⟩, st5⟩ := X4.virtualBack hx (y := (⟨"com/example/vantrell/vantrell/statistics/Gauge", "add", "(J)V"⟩ : MethodName)) (z := (⟨"com/example/vantrell/vantrell/statistics/Gauge", "add", "(J)V"⟩ : MethodName)) hown (mvT hZ (wd27 hw)) (mvT hZ (wd28 hw)) (notFace_of_selects (args := #[]) (mvT hZ (wd30 hw))) (mvT hZ (wd30 hw)) (mvT hZ (wd29 hw)) (by decide) (backOf (W := 0) (rm6 l Z a0 hw [] b2 q2 q1 (f4 (0 : Int64) q1) (f5 (0 : Int64) q1) h4 n0 Z0 F_b2_current E_b2 F_b2_high F_b2_low g_b2) hZ (wd31 hw) (wd2 hw) (by decide) (by decide)) q5a q5c (g := (mkF m 32 #[.val (.long q1), .second, .val (.long q2), .second, .val (.long q3), .second, .val (.int p4), .val (.int 0), .val (.ref b2), .unset, .unset, .unset, .unset, .unset, .unset, .unset, .unset, .unset, .unset, .unset, .unset, .unset, .unset, .unset, .unset] [(.long q2), (.ref b2)])) rfl (by rw [hml]; rfl) (Steps.refl _) (argsL := [(.long q2)]) (rest := []) (lenOf pd2 rfl) rfl (by show 2 * 0 + _ ≤ _; exact Nat.le_of_eq rfl) (hb hby at_32) (fun _ _ => ⟨rfl, e4, (by decide : 1 + 0 ≤ _), (by decide : 3 + 0 ≤ _)⟩)
    dsimp only [Pt.U, Pt.locs, Pt.cells, Pt.slots] at X5 l5 y5 z5 st5 hQ5
    subst l5 y5 z5
    refine Go.tr st5 ?_
    have E_b2_pre := E_b2
    have F_b2_current_pre := F_b2_current
    have F_b2_high_pre := F_b2_high
    have F_b2_low_pre := F_b2_low
    obtain ⟨h5, e5⟩ : ∃ z, T5.heap = z := ⟨_, rfl⟩
    rw [e5] at hQ5
    obtain ⟨rfl, N5q, K5, Q5_0, Q5_1, Q5_2, Q5_3⟩ := hQ5
    replace E_b2 := E_b2.keep K5
    replace Z0 := Nat.le_trans Z0 K5.1
    replace K0 := K0.trans K5 (allS (Or.inr sz_b2) all0)
    have E_b2 := Q5_0
    have F_b2_current := Q5_1
    have F_b2_high := Q5_2
    have F_b2_low := Q5_3
    have N5 := Fr.app N4 N5q
    show Go _ _ _ (T5.setTop (mkF m 35 #[.val (.long q1), .second, .val (.long q2), .second, .val (.long q3), .second, .val (.int p4), .val (.int 0), .val (.ref b2), .unset, .unset, .unset, .unset, .unset, .unset, .unset, .unset, .unset, .unset, .unset, .unset, .unset, .unset, .unset, .unset] [])) _
    refine Go.st (fun t k => XS.aload X5.here hx rfl (hb hby at_35) rfl rfl k) ?_
    obtain ⟨cq6, kq6, q6a, q6b, q6c⟩ := isOf hZ e5 E_b2
    obtain ⟨_, _, ⟨T6, L6, k6, n6⟩, -, X6, ⟨Lc6, hQ6, l6, y6, z6⟩, st6⟩ := X5.virtualBack hx (y := (⟨"com/example/vantrell/vantrell/statistics/Gauge", "read", "()Lcom/example/vantrell/vantrell/statistics/Gauge$Reading;"⟩ : MethodName)) (z := (⟨"com/example/vantrell/vantrell/statistics/Gauge", "read", "()Lcom/example/vantrell/vantrell/statistics/Gauge$Reading;"⟩ : MethodName)) hown (mvT hZ (wd33 hw)) (mvT hZ (wd34 hw)) (notFace_of_selects (args := #[]) (mvT hZ (wd36 hw))) (mvT hZ (wd36 hw)) (mvT hZ (wd35 hw)) (by decide) (backOf (W := 0) (rm7 l Z a0 hw [] b2 (f4 (f4 (0 : Int64) q1) (q1 + q2)) (f5 (f5 (0 : Int64) q1) (q1 + q2)) (q1 + q2) h5 n0 Z0 F_b2_high F_b2_low F_b2_current E_b2 g_b2) hZ (wd37 hw) (wd2 hw) (by decide) (by decide)) q6a q6c (g := (mkF m 37 #[.val (.long q1), .second, .val (.long q2), .second, .val (.long q3), .second, .val (.int p4), .val (.int 0), .val (.ref b2), .unset, .unset, .unset, .unset, .unset, .unset, .unset, .unset, .unset, .unset, .unset, .unset, .unset, .unset, .unset, .unset] [(.ref b2)])) rfl (by rw [hml]; rfl) (Steps.refl _) (argsL := []) (rest := []) (lenOf pd4 rfl) rfl (by show 2 * 0 + _ ≤ _; exact Nat.le_of_eq rfl) (hb hby at_37) (fun _ _ => ⟨rfl, e5, (by decide : 1 + 1 ≤ _), (by decide : 3 + 3 ≤ _)⟩)
    dsimp only [Pt.U, Pt.locs, Pt.cells, Pt.slots] at X6 l6 y6 z6 st6 hQ6
    subst l6 y6 z6
    have E_b2_pre := E_b2
    have F_b2_current_pre := F_b2_current
    have F_b2_high_pre := F_b2_high
    have F_b2_low_pre := F_b2_low
    obtain ⟨h6, e6⟩ : ∃ z, T6.heap = z := ⟨_, rfl⟩
    rw [e6] at hQ6
    obtain ⟨x7_0_6, rfl, N6q, K6, ng_x7_0_6, sz0_x7_0_6, Q6_0, Q6_1, Q6_2, Q6_3, Q6_4, Q6_5, Q6_6, Q6_7⟩ := hQ6
    refine Go.tr st6 ?_
    have ne_b2_x7_0_6 : b2 ≠ x7_0_6 := Nat.ne_of_lt (Nat.lt_of_lt_of_le E_b2.lt sz0_x7_0_6)
    have g_x7_0_6 : n0 ≤ x7_0_6 := ng_x7_0_6
    have sz_x7_0_6 : h0.size ≤ x7_0_6 := Nat.le_trans K0.1 sz0_x7_0_6
    replace E_b2 := E_b2.keep K6
    replace Z0 := Nat.le_trans Z0 K6.1
    replace K0 := K0.trans K6 (allS (Or.inr sz_b2) all0)
    have F_b2_high := Q6_0
    have F_b2_low := Q6_1
    have F_b2_current := Q6_2
    have E_b2 := Q6_3
    have E_x7_0_6 := Q6_4
    have F_x7_0_6_high := Q6_5
    have F_x7_0_6_low := Q6_6
    have F_x7_0_6_current := Q6_7
    have N6 := Fr.app N5 N6q
    show Go _ _ _ (T6.setTop (mkF m 40 #[.val (.long q1), .second, .val (.long q2), .second, .val (.long q3), .second, .val (.int p4), .val (.int 0), .val (.ref b2), .unset, .unset, .unset, .unset, .unset, .unset, .unset, .unset, .unset, .unset, .unset, .unset, .unset, .unset, .unset, .unset] [(.ref x7_0_6)])) _
    refine Go.st (fun t k => XS.astore X6.here hx rfl (hb hby at_40) rfl rfl (l' := #[.val (.long q1), .second, .val (.long q2), .second, .val (.long q3), .second, .val (.int p4), .val (.int 0), .val (.ref b2), .val (.ref x7_0_6), .unset, .unset, .unset, .unset, .unset, .unset, .unset, .unset, .unset, .unset, .unset, .unset, .unset, .unset, .unset]) rfl k) ?_
    refine Go.st (fun t k => XS.iload X6.here hx rfl (hb hby at_42) rfl k) ?_
    refine Go.st (fun t k => XS.ifYes X6.here hx rfl (pc0 := 44) (pc' := 54) rfl (hb hby at_44) rfl ((if0 _ _).trans (teq (by decide : (0 : Int32) = (0 : Int32))).1) (by decide) (by decide) k) ?_
    show Go _ _ _ (T6.setTop (mkF m 54 #[.val (.long q1), .second, .val (.long q2), .second, .val (.long q3), .second, .val (.int p4), .val (.int 0), .val (.ref b2), .val (.ref x7_0_6), .unset, .unset, .unset, .unset, .unset, .unset, .unset, .unset, .unset, .unset, .unset, .unset, .unset, .unset, .unset] [])) _
    refine Go.st (fun t k => XS.aload X6.here hx rfl (hb hby at_54) rfl rfl k) ?_
    obtain ⟨cq7, kq7, q7a, q7b, q7c⟩ := isOf hZ e6 E_b2
    obtain ⟨_, _, ⟨T7, L7, k7, n7⟩, -, X7, ⟨Lc7, hQ7, l7, y7, z7⟩, st7⟩ := X6.virtualBack hx (y := (⟨"com/example/vantrell/vantrell/statistics/Gauge", "read", "()Lcom/example/vantrell/vantrell/statistics/Gauge$Reading;"⟩ : MethodName)) (z := (⟨"com/example/vantrell/vantrell/statistics/Gauge", "read", "()Lcom/example/vantrell/vantrell/statistics/Gauge$Reading;"⟩ : MethodName)) hown (mvT hZ (wd33 hw)) (mvT hZ (wd34 hw)) (notFace_of_selects (args := #[]) (mvT hZ (wd36 hw))) (mvT hZ (wd36 hw)) (mvT hZ (wd35 hw)) (by decide) (backOf (W := 0) (rm7 l Z a0 hw [] b2 (q1 + q2) (q1 + q2) (q1 + q2) h6 n0 Z0 F_b2_high F_b2_low F_b2_current E_b2 g_b2) hZ (wd37 hw) (wd2 hw) (by decide) (by decide)) q7a q7c (g := (mkF m 56 #[.val (.long q1), .second, .val (.long q2), .second, .val (.long q3), .second, .val (.int p4), .val (.int 0), .val (.ref b2), .val (.ref x7_0_6), .unset, .unset, .unset, .unset, .unset, .unset, .unset, .unset, .unset, .unset, .unset, .unset, .unset, .unset, .unset] [(.ref b2)])) rfl (by rw [hml]; rfl) (Steps.refl _) (argsL := []) (rest := []) (lenOf pd4 rfl) rfl (by show 2 * 0 + _ ≤ _; exact Nat.le_of_eq rfl) (hb hby at_56) (fun _ _ => ⟨rfl, e6, (by decide : 2 + 1 ≤ _), (by decide : 6 + 3 ≤ _)⟩)
    dsimp only [Pt.U, Pt.locs, Pt.cells, Pt.slots] at X7 l7 y7 z7 st7 hQ7
    subst l7 y7 z7
    have E_b2_pre := E_b2
    have F_b2_high_pre := F_b2_high
    have F_b2_low_pre := F_b2_low
    have F_b2_current_pre := F_b2_current
    obtain ⟨h7, e7⟩ : ∃ z, T7.heap = z := ⟨_, rfl⟩
    rw [e7] at hQ7
    obtain ⟨x7_0_7, rfl, N7q, K7, ng_x7_0_7, sz0_x7_0_7, Q7_0, Q7_1, Q7_2, Q7_3, Q7_4, Q7_5, Q7_6, Q7_7⟩ := hQ7
    refine Go.tr st7 ?_
    have ne_b2_x7_0_7 : b2 ≠ x7_0_7 := Nat.ne_of_lt (Nat.lt_of_lt_of_le E_b2.lt sz0_x7_0_7)
    have ne_x7_0_6_x7_0_7 : x7_0_6 ≠ x7_0_7 := Nat.ne_of_lt (Nat.lt_of_lt_of_le E_x7_0_6.lt sz0_x7_0_7)
    have g_x7_0_7 : n0 ≤ x7_0_7 := ng_x7_0_7
    have sz_x7_0_7 : h0.size ≤ x7_0_7 := Nat.le_trans K0.1 sz0_x7_0_7
    replace E_b2 := E_b2.keep K7
    replace E_x7_0_6 := E_x7_0_6.keep K7
    replace F_x7_0_6_high := F_x7_0_6_high.keep K7 (ninS (Ne.symm ne_b2_x7_0_6) nin0)
    replace F_x7_0_6_low := F_x7_0_6_low.keep K7 (ninS (Ne.symm ne_b2_x7_0_6) nin0)
    replace F_x7_0_6_current := F_x7_0_6_current.keep K7 (ninS (Ne.symm ne_b2_x7_0_6) nin0)
    replace Z0 := Nat.le_trans Z0 K7.1
    replace K0 := K0.trans K7 (allS (Or.inr sz_b2) all0)
    have F_b2_high := Q7_0
    have F_b2_low := Q7_1
    have F_b2_current := Q7_2
    have E_b2 := Q7_3
    have E_x7_0_7 := Q7_4
    have F_x7_0_7_high := Q7_5
    have F_x7_0_7_low := Q7_6
    have F_x7_0_7_current := Q7_7
    have N7 := Fr.app N6 N7q
    show Go _ _ _ (T7.setTop (mkF m 59 #[.val (.long q1), .second, .val (.long q2), .second, .val (.long q3), .second, .val (.int p4), .val (.int 0), .val (.ref b2), .val (.ref x7_0_6), .unset, .unset, .unset, .unset, .unset, .unset, .unset, .unset, .unset, .unset, .unset, .unset, .unset, .unset, .unset] [(.ref x7_0_7)])) _
    refine Go.st (fun t k => XS.astore X7.here hx rfl (hb hby at_59) rfl rfl (l' := #[.val (.long q1), .second, .val (.long q2), .second, .val (.long q3), .second, .val (.int p4), .val (.int 0), .val (.ref b2), .val (.ref x7_0_6), .val (.ref x7_0_7), .unset, .unset, .unset, .unset, .unset, .unset, .unset, .unset, .unset, .unset, .unset, .unset, .unset, .unset]) rfl k) ?_
    refine Go.st (fun t k => XS.lloadN X7.here hx rfl (hb hby at_61) rfl k) ?_
    refine Go.st (fun t k => XS.lloadN X7.here hx rfl (hb hby at_62) rfl k) ?_
    refine Go.st (fun t k => XS.ladd X7.here hx rfl (hb hby at_63) rfl k) ?_
    show Go _ _ _ (T7.setTop (mkF m 64 #[.val (.long q1), .second, .val (.long q2), .second, .val (.long q3), .second, .val (.int p4), .val (.int 0), .val (.ref b2), .val (.ref x7_0_6), .val (.ref x7_0_7), .unset, .unset, .unset, .unset, .unset, .unset, .unset, .unset, .unset, .unset, .unset, .unset, .unset, .unset] [(.long (q1 + q2))])) _
    refine Go.st (fun t k => XS.lstore X7.here hx rfl (hb hby at_64) rfl (l' := #[.val (.long q1), .second, .val (.long q2), .second, .val (.long q3), .second, .val (.int p4), .val (.int 0), .val (.ref b2), .val (.ref x7_0_6), .val (.ref x7_0_7), .val (.long (q1 + q2)), .second, .unset, .unset, .unset, .unset, .unset, .unset, .unset, .unset, .unset, .unset, .unset, .unset]) rfl k) ?_
    refine Go.st (fun t k => XS.lconst X7.here hx rfl (hb hby at_66) k) ?_
    refine Go.st (fun t k => XS.lloadN X7.here hx rfl (hb hby at_67) rfl k) ?_
    refine Go.st (fun t k => XS.lload X7.here hx rfl (hb hby at_68) rfl k) ?_
    obtain ⟨_, _, ⟨T8, L8, k8, n8⟩, -, X8, ⟨Lc8, hQ8, l8, y8, z8⟩, st8⟩ := Jvm.LawKit.callS X7 hx (y := (⟨"java/lang/Math", "max", "(JJ)J"⟩ : MethodName)) hown (mvT hZ (wd56 hw)) (mvT hZ (wd19 hw)) (mvT hZ (wd20 hw)) (mvT hZ (wd21 hw)) (by decide) (backOf (W := 2) (rm4 l Z a0 hw [] q1 (q1 + q2) h7 n0 Z0) hZ (wd21 hw) (wd20 hw) (by decide) (by decide)) (g := (mkF m 70 #[.val (.long q1), .second, .val (.long q2), .second, .val (.long q3), .second, .val (.int p4), .val (.int 0), .val (.ref b2), .val (.ref x7_0_6), .val (.ref x7_0_7), .val (.long (q1 + q2)), .second, .unset, .unset, .unset, .unset, .unset, .unset, .unset, .unset, .unset, .unset, .unset, .unset] [(.long (q1 + q2)), (.long q1), (.long 0)])) rfl (by rw [hml]; rfl) (argsL := [(.long q1), (.long (q1 + q2))]) (rest := [(.long (0 : Int64))]) (lenOf pd1 rfl) rfl (by show 2 * 0 + _ ≤ _; exact Nat.le_of_eq rfl) (hb hby at_70) (fun _ _ => ⟨rfl, e7, (by decide : 3 + 0 ≤ _), (by decide : 9 + 0 ≤ _)⟩)
    dsimp only [Pt.U, Pt.locs, Pt.cells, Pt.slots] at X8 l8 y8 z8 st8 hQ8
    subst l8 y8 z8
    refine Go.st st8 ?_
    obtain ⟨rfl, N8q, e8⟩ := hQ8
    have N8 := Fr.app N7 N8q
    show Go _ _ _ (T8.setTop (mkF m 73 #[.val (.long q1), .second, .val (.long q2), .second, .val (.long q3), .second, .val (.int p4), .val (.int 0), .val (.ref b2), .val (.ref x7_0_6), .val (.ref x7_0_7), .val (.long (q1 + q2)), .second, .unset, .unset, .unset, .unset, .unset, .unset, .unset, .unset, .unset, .unset, .unset, .unset] [(.long (f4 q1 (q1 + q2))), (.long 0)])) _
    obtain ⟨_, _, ⟨T9, L9, k9, n9⟩, -, X9, ⟨Lc9, hQ9, l9, y9, z9⟩, st9⟩ := Jvm.LawKit.callS X8 hx (y := (⟨"java/lang/Math", "max", "(JJ)J"⟩ : MethodName)) hown (mvT hZ (wd56 hw)) (mvT hZ (wd19 hw)) (mvT hZ (wd20 hw)) (mvT hZ (wd21 hw)) (by decide) (backOf (W := 0) (rm4 l Z a0 hw [] (0 : Int64) (f4 q1 (q1 + q2)) h7 n0 Z0) hZ (wd21 hw) (wd20 hw) (by decide) (by decide)) (g := (mkF m 73 #[.val (.long q1), .second, .val (.long q2), .second, .val (.long q3), .second, .val (.int p4), .val (.int 0), .val (.ref b2), .val (.ref x7_0_6), .val (.ref x7_0_7), .val (.long (q1 + q2)), .second, .unset, .unset, .unset, .unset, .unset, .unset, .unset, .unset, .unset, .unset, .unset, .unset] [(.long (f4 q1 (q1 + q2))), (.long 0)])) rfl (by rw [hml]; rfl) (argsL := [(.long (0 : Int64)), (.long (f4 q1 (q1 + q2)))]) (rest := []) (lenOf pd1 rfl) rfl (by show 2 * 0 + _ ≤ _; exact Nat.le_of_eq rfl) (hb hby at_73) (fun _ _ => ⟨rfl, e8, (by decide : 3 + 0 ≤ _), (by decide : 9 + 0 ≤ _)⟩)
    dsimp only [Pt.U, Pt.locs, Pt.cells, Pt.slots] at X9 l9 y9 z9 st9 hQ9
    subst l9 y9 z9
    refine Go.st st9 ?_
    obtain ⟨rfl, N9q, e9⟩ := hQ9
    have N9 := Fr.app N8 N9q
    show Go _ _ _ (T9.setTop (mkF m 76 #[.val (.long q1), .second, .val (.long q2), .second, .val (.long q3), .second, .val (.int p4), .val (.int 0), .val (.ref b2), .val (.ref x7_0_6), .val (.ref x7_0_7), .val (.long (q1 + q2)), .second, .unset, .unset, .unset, .unset, .unset, .unset, .unset, .unset, .unset, .unset, .unset, .unset] [(.long (f4 (0 : Int64) (f4 q1 (q1 + q2))))])) _
    refine Go.st (fun t k => XS.lstore X9.here hx rfl (hb hby at_76) rfl (l' := #[.val (.long q1), .second, .val (.long q2), .second, .val (.long q3), .second, .val (.int p4), .val (.int 0), .val (.ref b2), .val (.ref x7_0_6), .val (.ref x7_0_7), .val (.long (q1 + q2)), .second, .val (.long (f4 (0 : Int64) (f4 q1 (q1 + q2)))), .second, .unset, .unset, .unset, .unset, .unset, .unset, .unset, .unset, .unset, .unset]) rfl k) ?_
    refine Go.st (fun t k => XS.lconst X9.here hx rfl (hb hby at_78) k) ?_
    refine Go.st (fun t k => XS.lloadN X9.here hx rfl (hb hby at_79) rfl k) ?_
    refine Go.st (fun t k => XS.lload X9.here hx rfl (hb hby at_80) rfl k) ?_
    obtain ⟨_, _, ⟨T10, L10, k10, n10⟩, -, X10, ⟨Lc10, hQ10, l10, y10, z10⟩, st10⟩ := Jvm.LawKit.callS X9 hx (y := (⟨"java/lang/Math", "min", "(JJ)J"⟩ : MethodName)) hown (mvT hZ (wd57 hw)) (mvT hZ (wd25 hw)) (mvT hZ (wd20 hw)) (mvT hZ (wd26 hw)) (by decide) (backOf (W := 2) (rm5 l Z a0 hw [] q1 (q1 + q2) h7 n0 Z0) hZ (wd26 hw) (wd20 hw) (by decide) (by decide)) (g := (mkF m 82 #[.val (.long q1), .second, .val (.long q2), .second, .val (.long q3), .second, .val (.int p4), .val (.int 0), .val (.ref b2), .val (.ref x7_0_6), .val (.ref x7_0_7), .val (.long (q1 + q2)), .second, .val (.long (f4 (0 : Int64) (f4 q1 (q1 + q2)))), .second, .unset, .unset, .unset, .unset, .unset, .unset, .unset, .unset, .unset, .unset] [(.long (q1 + q2)), (.long q1), (.long 0)])) rfl (by rw [hml]; rfl) (argsL := [(.long q1), (.long (q1 + q2))]) (rest := [(.long (0 : Int64))]) (lenOf pd1 rfl) rfl (by show 2 * 0 + _ ≤ _; exact Nat.le_of_eq rfl) (hb hby at_82) (fun _ _ => ⟨rfl, e9, (by decide : 3 + 0 ≤ _), (by decide : 9 + 0 ≤ _)⟩)
    dsimp only [Pt.U, Pt.locs, Pt.cells, Pt.slots] at X10 l10 y10 z10 st10 hQ10
    subst l10 y10 z10
    refine Go.st st10 ?_
    obtain ⟨rfl, N10q, e10⟩ := hQ10
    have N10 := Fr.app N9 N10q
    show Go _ _ _ (T10.setTop (mkF m 85 #[.val (.long q1), .second, .val (.long q2), .second, .val (.long q3), .second, .val (.int p4), .val (.int 0), .val (.ref b2), .val (.ref x7_0_6), .val (.ref x7_0_7), .val (.long (q1 + q2)), .second, .val (.long (f4 (0 : Int64) (f4 q1 (q1 + q2)))), .second, .unset, .unset, .unset, .unset, .unset, .unset, .unset, .unset, .unset, .unset] [(.long (f5 q1 (q1 + q2))), (.long 0)])) _
    obtain ⟨_, _, ⟨T11, L11, k11, n11⟩, -, X11, ⟨Lc11, hQ11, l11, y11, z11⟩, st11⟩ := Jvm.LawKit.callS X10 hx (y := (⟨"java/lang/Math", "min", "(JJ)J"⟩ : MethodName)) hown (mvT hZ (wd57 hw)) (mvT hZ (wd25 hw)) (mvT hZ (wd20 hw)) (mvT hZ (wd26 hw)) (by decide) (backOf (W := 0) (rm5 l Z a0 hw [] (0 : Int64) (f5 q1 (q1 + q2)) h7 n0 Z0) hZ (wd26 hw) (wd20 hw) (by decide) (by decide)) (g := (mkF m 85 #[.val (.long q1), .second, .val (.long q2), .second, .val (.long q3), .second, .val (.int p4), .val (.int 0), .val (.ref b2), .val (.ref x7_0_6), .val (.ref x7_0_7), .val (.long (q1 + q2)), .second, .val (.long (f4 (0 : Int64) (f4 q1 (q1 + q2)))), .second, .unset, .unset, .unset, .unset, .unset, .unset, .unset, .unset, .unset, .unset] [(.long (f5 q1 (q1 + q2))), (.long 0)])) rfl (by rw [hml]; rfl) (argsL := [(.long (0 : Int64)), (.long (f5 q1 (q1 + q2)))]) (rest := []) (lenOf pd1 rfl) rfl (by show 2 * 0 + _ ≤ _; exact Nat.le_of_eq rfl) (hb hby at_85) (fun _ _ => ⟨rfl, e10, (by decide : 3 + 0 ≤ _), (by decide : 9 + 0 ≤ _)⟩)
    dsimp only [Pt.U, Pt.locs, Pt.cells, Pt.slots] at X11 l11 y11 z11 st11 hQ11
    subst l11 y11 z11
    refine Go.st st11 ?_
    obtain ⟨rfl, N11q, e11⟩ := hQ11
    have N11 := Fr.app N10 N11q
    show Go _ _ _ (T11.setTop (mkF m 88 #[.val (.long q1), .second, .val (.long q2), .second, .val (.long q3), .second, .val (.int p4), .val (.int 0), .val (.ref b2), .val (.ref x7_0_6), .val (.ref x7_0_7), .val (.long (q1 + q2)), .second, .val (.long (f4 (0 : Int64) (f4 q1 (q1 + q2)))), .second, .unset, .unset, .unset, .unset, .unset, .unset, .unset, .unset, .unset, .unset] [(.long (f5 (0 : Int64) (f5 q1 (q1 + q2))))])) _
    refine Go.st (fun t k => XS.lstore X11.here hx rfl (hb hby at_88) rfl (l' := #[.val (.long q1), .second, .val (.long q2), .second, .val (.long q3), .second, .val (.int p4), .val (.int 0), .val (.ref b2), .val (.ref x7_0_6), .val (.ref x7_0_7), .val (.long (q1 + q2)), .second, .val (.long (f4 (0 : Int64) (f4 q1 (q1 + q2)))), .second, .val (.long (f5 (0 : Int64) (f5 q1 (q1 + q2)))), .second, .unset, .unset, .unset, .unset, .unset, .unset, .unset, .unset]) rfl k) ?_
    refine Go.st (fun t k => XS.aload X11.here hx rfl (hb hby at_90) rfl rfl k) ?_
    obtain ⟨cq12, kq12, q12a, q12b, q12c⟩ := isOf hZ e11 E_x7_0_6
    obtain ⟨_, _, ⟨T12, L12, k12, n12⟩, -, X12, ⟨Lc12, hQ12, l12, y12, z12⟩, st12⟩ := X11.virtualBack hx (y := (⟨"com/example/vantrell/vantrell/statistics/Gauge$Reading", "high", "()J"⟩ : MethodName)) (z := (⟨"com/example/vantrell/vantrell/statistics/Gauge$Reading", "high", "()J"⟩ : MethodName)) hown (mvT hZ (wd58 hw)) (mvT hZ (wd59 hw)) (notFace_of_selects (args := #[]) (mvT hZ (wd61 hw))) (mvT hZ (wd61 hw)) (mvT hZ (wd60 hw)) (by decide) (backOf (W := 0) (rm10 l Z a0 hw [] x7_0_6 (f4 (f4 (0 : Int64) q1) (q1 + q2)) h7 n0 Z0 F_x7_0_6_high) hZ (wd62 hw) (wd40 hw) (by decide) (by decide)) q12a q12c (g := (mkF m 92 #[.val (.long q1), .second, .val (.long q2), .second, .val (.long q3), .second, .val (.int p4), .val (.int 0), .val (.ref b2), .val (.ref x7_0_6), .val (.ref x7_0_7), .val (.long (q1 + q2)), .second, .val (.long (f4 (0 : Int64) (f4 q1 (q1 + q2)))), .second, .val (.long (f5 (0 : Int64) (f5 q1 (q1 + q2)))), .second, .unset, .unset, .unset, .unset, .unset, .unset, .unset, .unset] [(.ref x7_0_6)])) rfl (by rw [hml]; rfl) (Steps.refl _) (argsL := []) (rest := []) (lenOf pd5 rfl) rfl (by show 2 * 0 + _ ≤ _; exact Nat.le_of_eq rfl) (hb hby at_92) (fun _ _ => ⟨rfl, e11, (by decide : 3 + 0 ≤ _), (by decide : 9 + 0 ≤ _)⟩)
    dsimp only [Pt.U, Pt.locs, Pt.cells, Pt.slots] at X12 l12 y12 z12 st12 hQ12
    subst l12 y12 z12
    refine Go.tr st12 ?_
    obtain ⟨rfl, N12q, e12⟩ := hQ12
    have N12 := Fr.app N11 N12q
    show Go _ _ _ (T12.setTop (mkF m 95 #[.val (.long q1), .second, .val (.long q2), .second, .val (.long q3), .second, .val (.int p4), .val (.int 0), .val (.ref b2), .val (.ref x7_0_6), .val (.ref x7_0_7), .val (.long (q1 + q2)), .second, .val (.long (f4 (0 : Int64) (f4 q1 (q1 + q2)))), .second, .val (.long (f5 (0 : Int64) (f5 q1 (q1 + q2)))), .second, .unset, .unset, .unset, .unset, .unset, .unset, .unset, .unset] [(.long (f4 (f4 (0 : Int64) q1) (q1 + q2)))])) _
    refine Go.st (fun t k => XS.lload X12.here hx rfl (hb hby at_95) rfl k) ?_
    refine Go.st (fun t k => XS.lcmp X12.here hx rfl (hb hby at_97) rfl k) ?_
    show Go _ _ _ (T12.setTop (mkF m 98 #[.val (.long q1), .second, .val (.long q2), .second, .val (.long q3), .second, .val (.int p4), .val (.int 0), .val (.ref b2), .val (.ref x7_0_6), .val (.ref x7_0_7), .val (.long (q1 + q2)), .second, .val (.long (f4 (0 : Int64) (f4 q1 (q1 + q2)))), .second, .val (.long (f5 (0 : Int64) (f5 q1 (q1 + q2)))), .second, .unset, .unset, .unset, .unset, .unset, .unset, .unset, .unset] [(.int (lcmpW (f4 (f4 (0 : Int64) q1) (q1 + q2)) (f4 (0 : Int64) (f4 q1 (q1 + q2)))))])) _
    refine Go.st (fun t k => XS.ifNo X12.here hx rfl (hb hby at_98) rfl ((if0 _ _).trans (teq ((lw_eq (f4 (f4 (0 : Int64) q1) (q1 + q2)) (f4 (0 : Int64) (f4 q1 (q1 + q2)))).mpr (own_hi q1 (q1 + q2)))).2) k) ?_
    show Go _ _ _ (T12.setTop (mkF m 101 #[.val (.long q1), .second, .val (.long q2), .second, .val (.long q3), .second, .val (.int p4), .val (.int 0), .val (.ref b2), .val (.ref x7_0_6), .val (.ref x7_0_7), .val (.long (q1 + q2)), .second, .val (.long (f4 (0 : Int64) (f4 q1 (q1 + q2)))), .second, .val (.long (f5 (0 : Int64) (f5 q1 (q1 + q2)))), .second, .unset, .unset, .unset, .unset, .unset, .unset, .unset, .unset] [])) _
    refine Go.st (fun t k => XS.aload X12.here hx rfl (hb hby at_101) rfl rfl k) ?_
    obtain ⟨cq13, kq13, q13a, q13b, q13c⟩ := isOf hZ e12 E_x7_0_6
    obtain ⟨_, _, ⟨T13, L13, k13, n13⟩, -, X13, ⟨Lc13, hQ13, l13, y13, z13⟩, st13⟩ := X12.virtualBack hx (y := (⟨"com/example/vantrell/vantrell/statistics/Gauge$Reading", "low", "()J"⟩ : MethodName)) (z := (⟨"com/example/vantrell/vantrell/statistics/Gauge$Reading", "low", "()J"⟩ : MethodName)) hown (mvT hZ (wd63 hw)) (mvT hZ (wd64 hw)) (notFace_of_selects (args := #[]) (mvT hZ (wd66 hw))) (mvT hZ (wd66 hw)) (mvT hZ (wd65 hw)) (by decide) (backOf (W := 0) (rm11 l Z a0 hw [] x7_0_6 (f5 (f5 (0 : Int64) q1) (q1 + q2)) h7 n0 Z0 F_x7_0_6_low) hZ (wd67 hw) (wd40 hw) (by decide) (by decide)) q13a q13c (g := (mkF m 103 #[.val (.long q1), .second, .val (.long q2), .second, .val (.long q3), .second, .val (.int p4), .val (.int 0), .val (.ref b2), .val (.ref x7_0_6), .val (.ref x7_0_7), .val (.long (q1 + q2)), .second, .val (.long (f4 (0 : Int64) (f4 q1 (q1 + q2)))), .second, .val (.long (f5 (0 : Int64) (f5 q1 (q1 + q2)))), .second, .unset, .unset, .unset, .unset, .unset, .unset, .unset, .unset] [(.ref x7_0_6)])) rfl (by rw [hml]; rfl) (Steps.refl _) (argsL := []) (rest := []) (lenOf pd5 rfl) rfl (by show 2 * 0 + _ ≤ _; exact Nat.le_of_eq rfl) (hb hby at_103) (fun _ _ => ⟨rfl, e12, (by decide : 3 + 0 ≤ _), (by decide : 9 + 0 ≤ _)⟩)
    dsimp only [Pt.U, Pt.locs, Pt.cells, Pt.slots] at X13 l13 y13 z13 st13 hQ13
    subst l13 y13 z13
    refine Go.tr st13 ?_
    obtain ⟨rfl, N13q, e13⟩ := hQ13
    have N13 := Fr.app N12 N13q
    show Go _ _ _ (T13.setTop (mkF m 106 #[.val (.long q1), .second, .val (.long q2), .second, .val (.long q3), .second, .val (.int p4), .val (.int 0), .val (.ref b2), .val (.ref x7_0_6), .val (.ref x7_0_7), .val (.long (q1 + q2)), .second, .val (.long (f4 (0 : Int64) (f4 q1 (q1 + q2)))), .second, .val (.long (f5 (0 : Int64) (f5 q1 (q1 + q2)))), .second, .unset, .unset, .unset, .unset, .unset, .unset, .unset, .unset] [(.long (f5 (f5 (0 : Int64) q1) (q1 + q2)))])) _
    refine Go.st (fun t k => XS.lload X13.here hx rfl (hb hby at_106) rfl k) ?_
    refine Go.st (fun t k => XS.lcmp X13.here hx rfl (hb hby at_108) rfl k) ?_
    show Go _ _ _ (T13.setTop (mkF m 109 #[.val (.long q1), .second, .val (.long q2), .second, .val (.long q3), .second, .val (.int p4), .val (.int 0), .val (.ref b2), .val (.ref x7_0_6), .val (.ref x7_0_7), .val (.long (q1 + q2)), .second, .val (.long (f4 (0 : Int64) (f4 q1 (q1 + q2)))), .second, .val (.long (f5 (0 : Int64) (f5 q1 (q1 + q2)))), .second, .unset, .unset, .unset, .unset, .unset, .unset, .unset, .unset] [(.int (lcmpW (f5 (f5 (0 : Int64) q1) (q1 + q2)) (f5 (0 : Int64) (f5 q1 (q1 + q2)))))])) _
    refine Go.st (fun t k => XS.ifNo X13.here hx rfl (hb hby at_109) rfl ((if0 _ _).trans (teq ((lw_eq (f5 (f5 (0 : Int64) q1) (q1 + q2)) (f5 (0 : Int64) (f5 q1 (q1 + q2)))).mpr (own_lo q1 (q1 + q2)))).2) k) ?_
    show Go _ _ _ (T13.setTop (mkF m 112 #[.val (.long q1), .second, .val (.long q2), .second, .val (.long q3), .second, .val (.int p4), .val (.int 0), .val (.ref b2), .val (.ref x7_0_6), .val (.ref x7_0_7), .val (.long (q1 + q2)), .second, .val (.long (f4 (0 : Int64) (f4 q1 (q1 + q2)))), .second, .val (.long (f5 (0 : Int64) (f5 q1 (q1 + q2)))), .second, .unset, .unset, .unset, .unset, .unset, .unset, .unset, .unset] [])) _
    refine Go.st (fun t k => XS.aload X13.here hx rfl (hb hby at_112) rfl rfl k) ?_
    obtain ⟨cq14, kq14, q14a, q14b, q14c⟩ := isOf hZ e13 E_x7_0_6
    obtain ⟨_, _, ⟨T14, L14, k14, n14⟩, -, X14, ⟨Lc14, hQ14, l14, y14, z14⟩, st14⟩ := X13.virtualBack hx (y := (⟨"com/example/vantrell/vantrell/statistics/Gauge$Reading", "current", "()J"⟩ : MethodName)) (z := (⟨"com/example/vantrell/vantrell/statistics/Gauge$Reading", "current", "()J"⟩ : MethodName)) hown (mvT hZ (wd68 hw)) (mvT hZ (wd69 hw)) (notFace_of_selects (args := #[]) (mvT hZ (wd71 hw))) (mvT hZ (wd71 hw)) (mvT hZ (wd70 hw)) (by decide) (backOf (W := 0) (rm12 l Z a0 hw [] x7_0_6 (q1 + q2) h7 n0 Z0 F_x7_0_6_current) hZ (wd72 hw) (wd40 hw) (by decide) (by decide)) q14a q14c (g := (mkF m 114 #[.val (.long q1), .second, .val (.long q2), .second, .val (.long q3), .second, .val (.int p4), .val (.int 0), .val (.ref b2), .val (.ref x7_0_6), .val (.ref x7_0_7), .val (.long (q1 + q2)), .second, .val (.long (f4 (0 : Int64) (f4 q1 (q1 + q2)))), .second, .val (.long (f5 (0 : Int64) (f5 q1 (q1 + q2)))), .second, .unset, .unset, .unset, .unset, .unset, .unset, .unset, .unset] [(.ref x7_0_6)])) rfl (by rw [hml]; rfl) (Steps.refl _) (argsL := []) (rest := []) (lenOf pd5 rfl) rfl (by show 2 * 0 + _ ≤ _; exact Nat.le_of_eq rfl) (hb hby at_114) (fun _ _ => ⟨rfl, e13, (by decide : 3 + 0 ≤ _), (by decide : 9 + 0 ≤ _)⟩)
    dsimp only [Pt.U, Pt.locs, Pt.cells, Pt.slots] at X14 l14 y14 z14 st14 hQ14
    subst l14 y14 z14
    refine Go.tr st14 ?_
    obtain ⟨rfl, N14q, e14⟩ := hQ14
    have N14 := Fr.app N13 N14q
    show Go _ _ _ (T14.setTop (mkF m 117 #[.val (.long q1), .second, .val (.long q2), .second, .val (.long q3), .second, .val (.int p4), .val (.int 0), .val (.ref b2), .val (.ref x7_0_6), .val (.ref x7_0_7), .val (.long (q1 + q2)), .second, .val (.long (f4 (0 : Int64) (f4 q1 (q1 + q2)))), .second, .val (.long (f5 (0 : Int64) (f5 q1 (q1 + q2)))), .second, .unset, .unset, .unset, .unset, .unset, .unset, .unset, .unset] [(.long (q1 + q2))])) _
    refine Go.st (fun t k => XS.lload X14.here hx rfl (hb hby at_117) rfl k) ?_
    refine Go.st (fun t k => XS.lcmp X14.here hx rfl (hb hby at_119) rfl k) ?_
    show Go _ _ _ (T14.setTop (mkF m 120 #[.val (.long q1), .second, .val (.long q2), .second, .val (.long q3), .second, .val (.int p4), .val (.int 0), .val (.ref b2), .val (.ref x7_0_6), .val (.ref x7_0_7), .val (.long (q1 + q2)), .second, .val (.long (f4 (0 : Int64) (f4 q1 (q1 + q2)))), .second, .val (.long (f5 (0 : Int64) (f5 q1 (q1 + q2)))), .second, .unset, .unset, .unset, .unset, .unset, .unset, .unset, .unset] [(.int (lcmpW (q1 + q2) (q1 + q2)))])) _
    refine Go.st (fun t k => XS.ifNo X14.here hx rfl (hb hby at_120) rfl ((if0 _ _).trans (teq ((lw_eq (q1 + q2) (q1 + q2)).mpr (rfl : (q1 + q2) = (q1 + q2)))).2) k) ?_
    show Go _ _ _ (T14.setTop (mkF m 123 #[.val (.long q1), .second, .val (.long q2), .second, .val (.long q3), .second, .val (.int p4), .val (.int 0), .val (.ref b2), .val (.ref x7_0_6), .val (.ref x7_0_7), .val (.long (q1 + q2)), .second, .val (.long (f4 (0 : Int64) (f4 q1 (q1 + q2)))), .second, .val (.long (f5 (0 : Int64) (f5 q1 (q1 + q2)))), .second, .unset, .unset, .unset, .unset, .unset, .unset, .unset, .unset] [])) _
    refine Go.st (fun t k => XS.iconst X14.here hx rfl (hb hby at_123) k) ?_
    refine Go.st (fun t k => XS.goto X14.here hx rfl (pc0 := 124) (pc' := 128) rfl (hb hby at_124) (by decide) (by decide) k) ?_
    refine Go.st (fun t k => XS.istore X14.here hx rfl (hb hby at_128) rfl (l' := #[.val (.long q1), .second, .val (.long q2), .second, .val (.long q3), .second, .val (.int p4), .val (.int 0), .val (.ref b2), .val (.ref x7_0_6), .val (.ref x7_0_7), .val (.long (q1 + q2)), .second, .val (.long (f4 (0 : Int64) (f4 q1 (q1 + q2)))), .second, .val (.long (f5 (0 : Int64) (f5 q1 (q1 + q2)))), .second, .val (.int 1), .unset, .unset, .unset, .unset, .unset, .unset, .unset]) rfl k) ?_
    refine Go.st (fun t k => XS.iload X14.here hx rfl (hb hby at_130) rfl k) ?_
    refine Go.st (fun t k => XS.ifYes X14.here hx rfl (pc0 := 132) (pc' := 140) rfl (hb hby at_132) rfl ((if0 _ _).trans (teq (by decide : (0 : Int32) = (0 : Int32))).1) (by decide) (by decide) k) ?_
    show Go _ _ _ (T14.setTop (mkF m 140 #[.val (.long q1), .second, .val (.long q2), .second, .val (.long q3), .second, .val (.int p4), .val (.int 0), .val (.ref b2), .val (.ref x7_0_6), .val (.ref x7_0_7), .val (.long (q1 + q2)), .second, .val (.long (f4 (0 : Int64) (f4 q1 (q1 + q2)))), .second, .val (.long (f5 (0 : Int64) (f5 q1 (q1 + q2)))), .second, .val (.int 1), .unset, .unset, .unset, .unset, .unset, .unset, .unset] [])) _
    refine Go.st (fun t k => XS.lload X14.here hx rfl (hb hby at_140) rfl k) ?_
    refine Go.st (fun t k => XS.lstore X14.here hx rfl (hb hby at_142) rfl (l' := #[.val (.long q1), .second, .val (.long q2), .second, .val (.long q3), .second, .val (.int p4), .val (.int 0), .val (.ref b2), .val (.ref x7_0_6), .val (.ref x7_0_7), .val (.long (q1 + q2)), .second, .val (.long (f4 (0 : Int64) (f4 q1 (q1 + q2)))), .second, .val (.long (f5 (0 : Int64) (f5 q1 (q1 + q2)))), .second, .val (.int 1), .val (.long (q1 + q2)), .second, .unset, .unset, .unset, .unset, .unset]) rfl k) ?_
    refine Go.st (fun t k => XS.iload X14.here hx rfl (hb hby at_144) rfl k) ?_
    refine Go.st (fun t k => XS.ifYes X14.here hx rfl (pc0 := 146) (pc' := 159) rfl (hb hby at_146) rfl ((if0 _ _).trans (teq (by decide : (0 : Int32) = (0 : Int32))).1) (by decide) (by decide) k) ?_
    show Go _ _ _ (T14.setTop (mkF m 159 #[.val (.long q1), .second, .val (.long q2), .second, .val (.long q3), .second, .val (.int p4), .val (.int 0), .val (.ref b2), .val (.ref x7_0_6), .val (.ref x7_0_7), .val (.long (q1 + q2)), .second, .val (.long (f4 (0 : Int64) (f4 q1 (q1 + q2)))), .second, .val (.long (f5 (0 : Int64) (f5 q1 (q1 + q2)))), .second, .val (.int 1), .val (.long (q1 + q2)), .second, .unset, .unset, .unset, .unset, .unset] [])) _
    refine Go.st (fun t k => XS.lload X14.here hx rfl (hb hby at_159) rfl k) ?_
    refine Go.st (fun t k => XS.lstore X14.here hx rfl (hb hby at_161) rfl (l' := #[.val (.long q1), .second, .val (.long q2), .second, .val (.long q3), .second, .val (.int p4), .val (.int 0), .val (.ref b2), .val (.ref x7_0_6), .val (.ref x7_0_7), .val (.long (q1 + q2)), .second, .val (.long (f4 (0 : Int64) (f4 q1 (q1 + q2)))), .second, .val (.long (f5 (0 : Int64) (f5 q1 (q1 + q2)))), .second, .val (.int 1), .val (.long (q1 + q2)), .second, .val (.long (q1 + q2)), .second, .unset, .unset, .unset]) rfl k) ?_
    refine Go.st (fun t k => XS.iload X14.here hx rfl (hb hby at_163) rfl k) ?_
    refine Go.st (fun t k => XS.ifYes X14.here hx rfl (pc0 := 165) (pc' := 178) rfl (hb hby at_165) rfl ((if0 _ _).trans (teq (by decide : (0 : Int32) = (0 : Int32))).1) (by decide) (by decide) k) ?_
    show Go _ _ _ (T14.setTop (mkF m 178 #[.val (.long q1), .second, .val (.long q2), .second, .val (.long q3), .second, .val (.int p4), .val (.int 0), .val (.ref b2), .val (.ref x7_0_6), .val (.ref x7_0_7), .val (.long (q1 + q2)), .second, .val (.long (f4 (0 : Int64) (f4 q1 (q1 + q2)))), .second, .val (.long (f5 (0 : Int64) (f5 q1 (q1 + q2)))), .second, .val (.int 1), .val (.long (q1 + q2)), .second, .val (.long (q1 + q2)), .second, .unset, .unset, .unset] [])) _
    refine Go.st (fun t k => XS.lload X14.here hx rfl (hb hby at_178) rfl k) ?_
    refine Go.st (fun t k => XS.lstore X14.here hx rfl (hb hby at_180) rfl (l' := #[.val (.long q1), .second, .val (.long q2), .second, .val (.long q3), .second, .val (.int p4), .val (.int 0), .val (.ref b2), .val (.ref x7_0_6), .val (.ref x7_0_7), .val (.long (q1 + q2)), .second, .val (.long (f4 (0 : Int64) (f4 q1 (q1 + q2)))), .second, .val (.long (f5 (0 : Int64) (f5 q1 (q1 + q2)))), .second, .val (.int 1), .val (.long (q1 + q2)), .second, .val (.long (q1 + q2)), .second, .val (.long (q1 + q2)), .second, .unset]) rfl k) ?_
    refine Go.st (fun t k => XS.aload X14.here hx rfl (hb hby at_182) rfl rfl k) ?_
    obtain ⟨cq15, kq15, q15a, q15b, q15c⟩ := isOf hZ e14 E_x7_0_7
    obtain ⟨_, _, ⟨T15, L15, k15, n15⟩, -, X15, ⟨Lc15, hQ15, l15, y15, z15⟩, st15⟩ := X14.virtualBack hx (y := (⟨"com/example/vantrell/vantrell/statistics/Gauge$Reading", "high", "()J"⟩ : MethodName)) (z := (⟨"com/example/vantrell/vantrell/statistics/Gauge$Reading", "high", "()J"⟩ : MethodName)) hown (mvT hZ (wd58 hw)) (mvT hZ (wd59 hw)) (notFace_of_selects (args := #[]) (mvT hZ (wd61 hw))) (mvT hZ (wd61 hw)) (mvT hZ (wd60 hw)) (by decide) (backOf (W := 0) (rm10 l Z a0 hw [] x7_0_7 (q1 + q2) h7 n0 Z0 F_x7_0_7_high) hZ (wd62 hw) (wd40 hw) (by decide) (by decide)) q15a q15c (g := (mkF m 184 #[.val (.long q1), .second, .val (.long q2), .second, .val (.long q3), .second, .val (.int p4), .val (.int 0), .val (.ref b2), .val (.ref x7_0_6), .val (.ref x7_0_7), .val (.long (q1 + q2)), .second, .val (.long (f4 (0 : Int64) (f4 q1 (q1 + q2)))), .second, .val (.long (f5 (0 : Int64) (f5 q1 (q1 + q2)))), .second, .val (.int 1), .val (.long (q1 + q2)), .second, .val (.long (q1 + q2)), .second, .val (.long (q1 + q2)), .second, .unset] [(.ref x7_0_7)])) rfl (by rw [hml]; rfl) (Steps.refl _) (argsL := []) (rest := []) (lenOf pd5 rfl) rfl (by show 2 * 0 + _ ≤ _; exact Nat.le_of_eq rfl) (hb hby at_184) (fun _ _ => ⟨rfl, e14, (by decide : 3 + 0 ≤ _), (by decide : 9 + 0 ≤ _)⟩)
    dsimp only [Pt.U, Pt.locs, Pt.cells, Pt.slots] at X15 l15 y15 z15 st15 hQ15
    subst l15 y15 z15
    refine Go.tr st15 ?_
    obtain ⟨rfl, N15q, e15⟩ := hQ15
    have N15 := Fr.app N14 N15q
    show Go _ _ _ (T15.setTop (mkF m 187 #[.val (.long q1), .second, .val (.long q2), .second, .val (.long q3), .second, .val (.int p4), .val (.int 0), .val (.ref b2), .val (.ref x7_0_6), .val (.ref x7_0_7), .val (.long (q1 + q2)), .second, .val (.long (f4 (0 : Int64) (f4 q1 (q1 + q2)))), .second, .val (.long (f5 (0 : Int64) (f5 q1 (q1 + q2)))), .second, .val (.int 1), .val (.long (q1 + q2)), .second, .val (.long (q1 + q2)), .second, .val (.long (q1 + q2)), .second, .unset] [(.long (q1 + q2))])) _
    refine Go.st (fun t k => XS.lload X15.here hx rfl (hb hby at_187) rfl k) ?_
    refine Go.st (fun t k => XS.lcmp X15.here hx rfl (hb hby at_189) rfl k) ?_
    show Go _ _ _ (T15.setTop (mkF m 190 #[.val (.long q1), .second, .val (.long q2), .second, .val (.long q3), .second, .val (.int p4), .val (.int 0), .val (.ref b2), .val (.ref x7_0_6), .val (.ref x7_0_7), .val (.long (q1 + q2)), .second, .val (.long (f4 (0 : Int64) (f4 q1 (q1 + q2)))), .second, .val (.long (f5 (0 : Int64) (f5 q1 (q1 + q2)))), .second, .val (.int 1), .val (.long (q1 + q2)), .second, .val (.long (q1 + q2)), .second, .val (.long (q1 + q2)), .second, .unset] [(.int (lcmpW (q1 + q2) (q1 + q2)))])) _
    refine Go.st (fun t k => XS.ifNo X15.here hx rfl (hb hby at_190) rfl ((if0 _ _).trans (teq ((lw_eq (q1 + q2) (q1 + q2)).mpr (rfl : (q1 + q2) = (q1 + q2)))).2) k) ?_
    show Go _ _ _ (T15.setTop (mkF m 193 #[.val (.long q1), .second, .val (.long q2), .second, .val (.long q3), .second, .val (.int p4), .val (.int 0), .val (.ref b2), .val (.ref x7_0_6), .val (.ref x7_0_7), .val (.long (q1 + q2)), .second, .val (.long (f4 (0 : Int64) (f4 q1 (q1 + q2)))), .second, .val (.long (f5 (0 : Int64) (f5 q1 (q1 + q2)))), .second, .val (.int 1), .val (.long (q1 + q2)), .second, .val (.long (q1 + q2)), .second, .val (.long (q1 + q2)), .second, .unset] [])) _
    refine Go.st (fun t k => XS.aload X15.here hx rfl (hb hby at_193) rfl rfl k) ?_
    obtain ⟨cq16, kq16, q16a, q16b, q16c⟩ := isOf hZ e15 E_x7_0_7
    obtain ⟨_, _, ⟨T16, L16, k16, n16⟩, -, X16, ⟨Lc16, hQ16, l16, y16, z16⟩, st16⟩ := X15.virtualBack hx (y := (⟨"com/example/vantrell/vantrell/statistics/Gauge$Reading", "low", "()J"⟩ : MethodName)) (z := (⟨"com/example/vantrell/vantrell/statistics/Gauge$Reading", "low", "()J"⟩ : MethodName)) hown (mvT hZ (wd63 hw)) (mvT hZ (wd64 hw)) (notFace_of_selects (args := #[]) (mvT hZ (wd66 hw))) (mvT hZ (wd66 hw)) (mvT hZ (wd65 hw)) (by decide) (backOf (W := 0) (rm11 l Z a0 hw [] x7_0_7 (q1 + q2) h7 n0 Z0 F_x7_0_7_low) hZ (wd67 hw) (wd40 hw) (by decide) (by decide)) q16a q16c (g := (mkF m 195 #[.val (.long q1), .second, .val (.long q2), .second, .val (.long q3), .second, .val (.int p4), .val (.int 0), .val (.ref b2), .val (.ref x7_0_6), .val (.ref x7_0_7), .val (.long (q1 + q2)), .second, .val (.long (f4 (0 : Int64) (f4 q1 (q1 + q2)))), .second, .val (.long (f5 (0 : Int64) (f5 q1 (q1 + q2)))), .second, .val (.int 1), .val (.long (q1 + q2)), .second, .val (.long (q1 + q2)), .second, .val (.long (q1 + q2)), .second, .unset] [(.ref x7_0_7)])) rfl (by rw [hml]; rfl) (Steps.refl _) (argsL := []) (rest := []) (lenOf pd5 rfl) rfl (by show 2 * 0 + _ ≤ _; exact Nat.le_of_eq rfl) (hb hby at_195) (fun _ _ => ⟨rfl, e15, (by decide : 3 + 0 ≤ _), (by decide : 9 + 0 ≤ _)⟩)
    dsimp only [Pt.U, Pt.locs, Pt.cells, Pt.slots] at X16 l16 y16 z16 st16 hQ16
    subst l16 y16 z16
    refine Go.tr st16 ?_
    obtain ⟨rfl, N16q, e16⟩ := hQ16
    have N16 := Fr.app N15 N16q
    show Go _ _ _ (T16.setTop (mkF m 198 #[.val (.long q1), .second, .val (.long q2), .second, .val (.long q3), .second, .val (.int p4), .val (.int 0), .val (.ref b2), .val (.ref x7_0_6), .val (.ref x7_0_7), .val (.long (q1 + q2)), .second, .val (.long (f4 (0 : Int64) (f4 q1 (q1 + q2)))), .second, .val (.long (f5 (0 : Int64) (f5 q1 (q1 + q2)))), .second, .val (.int 1), .val (.long (q1 + q2)), .second, .val (.long (q1 + q2)), .second, .val (.long (q1 + q2)), .second, .unset] [(.long (q1 + q2))])) _
    refine Go.st (fun t k => XS.lload X16.here hx rfl (hb hby at_198) rfl k) ?_
    refine Go.st (fun t k => XS.lcmp X16.here hx rfl (hb hby at_200) rfl k) ?_
    show Go _ _ _ (T16.setTop (mkF m 201 #[.val (.long q1), .second, .val (.long q2), .second, .val (.long q3), .second, .val (.int p4), .val (.int 0), .val (.ref b2), .val (.ref x7_0_6), .val (.ref x7_0_7), .val (.long (q1 + q2)), .second, .val (.long (f4 (0 : Int64) (f4 q1 (q1 + q2)))), .second, .val (.long (f5 (0 : Int64) (f5 q1 (q1 + q2)))), .second, .val (.int 1), .val (.long (q1 + q2)), .second, .val (.long (q1 + q2)), .second, .val (.long (q1 + q2)), .second, .unset] [(.int (lcmpW (q1 + q2) (q1 + q2)))])) _
    refine Go.st (fun t k => XS.ifNo X16.here hx rfl (hb hby at_201) rfl ((if0 _ _).trans (teq ((lw_eq (q1 + q2) (q1 + q2)).mpr (rfl : (q1 + q2) = (q1 + q2)))).2) k) ?_
    show Go _ _ _ (T16.setTop (mkF m 204 #[.val (.long q1), .second, .val (.long q2), .second, .val (.long q3), .second, .val (.int p4), .val (.int 0), .val (.ref b2), .val (.ref x7_0_6), .val (.ref x7_0_7), .val (.long (q1 + q2)), .second, .val (.long (f4 (0 : Int64) (f4 q1 (q1 + q2)))), .second, .val (.long (f5 (0 : Int64) (f5 q1 (q1 + q2)))), .second, .val (.int 1), .val (.long (q1 + q2)), .second, .val (.long (q1 + q2)), .second, .val (.long (q1 + q2)), .second, .unset] [])) _
    refine Go.st (fun t k => XS.aload X16.here hx rfl (hb hby at_204) rfl rfl k) ?_
    obtain ⟨cq17, kq17, q17a, q17b, q17c⟩ := isOf hZ e16 E_x7_0_7
    obtain ⟨_, _, ⟨T17, L17, k17, n17⟩, -, X17, ⟨Lc17, hQ17, l17, y17, z17⟩, st17⟩ := X16.virtualBack hx (y := (⟨"com/example/vantrell/vantrell/statistics/Gauge$Reading", "current", "()J"⟩ : MethodName)) (z := (⟨"com/example/vantrell/vantrell/statistics/Gauge$Reading", "current", "()J"⟩ : MethodName)) hown (mvT hZ (wd68 hw)) (mvT hZ (wd69 hw)) (notFace_of_selects (args := #[]) (mvT hZ (wd71 hw))) (mvT hZ (wd71 hw)) (mvT hZ (wd70 hw)) (by decide) (backOf (W := 0) (rm12 l Z a0 hw [] x7_0_7 (q1 + q2) h7 n0 Z0 F_x7_0_7_current) hZ (wd72 hw) (wd40 hw) (by decide) (by decide)) q17a q17c (g := (mkF m 206 #[.val (.long q1), .second, .val (.long q2), .second, .val (.long q3), .second, .val (.int p4), .val (.int 0), .val (.ref b2), .val (.ref x7_0_6), .val (.ref x7_0_7), .val (.long (q1 + q2)), .second, .val (.long (f4 (0 : Int64) (f4 q1 (q1 + q2)))), .second, .val (.long (f5 (0 : Int64) (f5 q1 (q1 + q2)))), .second, .val (.int 1), .val (.long (q1 + q2)), .second, .val (.long (q1 + q2)), .second, .val (.long (q1 + q2)), .second, .unset] [(.ref x7_0_7)])) rfl (by rw [hml]; rfl) (Steps.refl _) (argsL := []) (rest := []) (lenOf pd5 rfl) rfl (by show 2 * 0 + _ ≤ _; exact Nat.le_of_eq rfl) (hb hby at_206) (fun _ _ => ⟨rfl, e16, (by decide : 3 + 0 ≤ _), (by decide : 9 + 0 ≤ _)⟩)
    dsimp only [Pt.U, Pt.locs, Pt.cells, Pt.slots] at X17 l17 y17 z17 st17 hQ17
    subst l17 y17 z17
    refine Go.tr st17 ?_
    obtain ⟨rfl, N17q, e17⟩ := hQ17
    have N17 := Fr.app N16 N17q
    show Go _ _ _ (T17.setTop (mkF m 209 #[.val (.long q1), .second, .val (.long q2), .second, .val (.long q3), .second, .val (.int p4), .val (.int 0), .val (.ref b2), .val (.ref x7_0_6), .val (.ref x7_0_7), .val (.long (q1 + q2)), .second, .val (.long (f4 (0 : Int64) (f4 q1 (q1 + q2)))), .second, .val (.long (f5 (0 : Int64) (f5 q1 (q1 + q2)))), .second, .val (.int 1), .val (.long (q1 + q2)), .second, .val (.long (q1 + q2)), .second, .val (.long (q1 + q2)), .second, .unset] [(.long (q1 + q2))])) _
    refine Go.st (fun t k => XS.lload X17.here hx rfl (hb hby at_209) rfl k) ?_
    refine Go.st (fun t k => XS.lcmp X17.here hx rfl (hb hby at_211) rfl k) ?_
    show Go _ _ _ (T17.setTop (mkF m 212 #[.val (.long q1), .second, .val (.long q2), .second, .val (.long q3), .second, .val (.int p4), .val (.int 0), .val (.ref b2), .val (.ref x7_0_6), .val (.ref x7_0_7), .val (.long (q1 + q2)), .second, .val (.long (f4 (0 : Int64) (f4 q1 (q1 + q2)))), .second, .val (.long (f5 (0 : Int64) (f5 q1 (q1 + q2)))), .second, .val (.int 1), .val (.long (q1 + q2)), .second, .val (.long (q1 + q2)), .second, .val (.long (q1 + q2)), .second, .unset] [(.int (lcmpW (q1 + q2) (q1 + q2)))])) _
    refine Go.st (fun t k => XS.ifNo X17.here hx rfl (hb hby at_212) rfl ((if0 _ _).trans (teq ((lw_eq (q1 + q2) (q1 + q2)).mpr (rfl : (q1 + q2) = (q1 + q2)))).2) k) ?_
    show Go _ _ _ (T17.setTop (mkF m 215 #[.val (.long q1), .second, .val (.long q2), .second, .val (.long q3), .second, .val (.int p4), .val (.int 0), .val (.ref b2), .val (.ref x7_0_6), .val (.ref x7_0_7), .val (.long (q1 + q2)), .second, .val (.long (f4 (0 : Int64) (f4 q1 (q1 + q2)))), .second, .val (.long (f5 (0 : Int64) (f5 q1 (q1 + q2)))), .second, .val (.int 1), .val (.long (q1 + q2)), .second, .val (.long (q1 + q2)), .second, .val (.long (q1 + q2)), .second, .unset] [])) _
    refine Go.st (fun t k => XS.iconst X17.here hx rfl (hb hby at_215) k) ?_
    refine Go.st (fun t k => XS.goto X17.here hx rfl (pc0 := 216) (pc' := 220) rfl (hb hby at_216) (by decide) (by decide) k) ?_
    refine Go.st (fun t k => XS.istore X17.here hx rfl (hb hby at_220) rfl (l' := #[.val (.long q1), .second, .val (.long q2), .second, .val (.long q3), .second, .val (.int p4), .val (.int 0), .val (.ref b2), .val (.ref x7_0_6), .val (.ref x7_0_7), .val (.long (q1 + q2)), .second, .val (.long (f4 (0 : Int64) (f4 q1 (q1 + q2)))), .second, .val (.long (f5 (0 : Int64) (f5 q1 (q1 + q2)))), .second, .val (.int 1), .val (.long (q1 + q2)), .second, .val (.long (q1 + q2)), .second, .val (.long (q1 + q2)), .second, .val (.int 1)]) rfl k) ?_
    refine Go.st (fun t k => XS.iload X17.here hx rfl (hb hby at_222) rfl k) ?_
    refine Go.st (fun t k => XS.ifNo X17.here hx rfl (hb hby at_224) rfl ((if0 _ _).trans (feq (by decide : ¬ ((1 : Int32) = (0 : Int32)))).1) k) ?_
    show Go _ _ _ (T17.setTop (mkF m 227 #[.val (.long q1), .second, .val (.long q2), .second, .val (.long q3), .second, .val (.int p4), .val (.int 0), .val (.ref b2), .val (.ref x7_0_6), .val (.ref x7_0_7), .val (.long (q1 + q2)), .second, .val (.long (f4 (0 : Int64) (f4 q1 (q1 + q2)))), .second, .val (.long (f5 (0 : Int64) (f5 q1 (q1 + q2)))), .second, .val (.int 1), .val (.long (q1 + q2)), .second, .val (.long (q1 + q2)), .second, .val (.long (q1 + q2)), .second, .val (.int 1)] [])) _
    refine Go.st (fun t k => XS.iload X17.here hx rfl (hb hby at_227) rfl k) ?_
    refine Go.st (fun t k => XS.ifNo X17.here hx rfl (hb hby at_229) rfl ((if0 _ _).trans (feq (by decide : ¬ ((1 : Int32) = (0 : Int32)))).1) k) ?_
    show Go _ _ _ (T17.setTop (mkF m 232 #[.val (.long q1), .second, .val (.long q2), .second, .val (.long q3), .second, .val (.int p4), .val (.int 0), .val (.ref b2), .val (.ref x7_0_6), .val (.ref x7_0_7), .val (.long (q1 + q2)), .second, .val (.long (f4 (0 : Int64) (f4 q1 (q1 + q2)))), .second, .val (.long (f5 (0 : Int64) (f5 q1 (q1 + q2)))), .second, .val (.int 1), .val (.long (q1 + q2)), .second, .val (.long (q1 + q2)), .second, .val (.long (q1 + q2)), .second, .val (.int 1)] [])) _
    refine Go.st (fun t k => XS.aload X17.here hx rfl (hb hby at_232) rfl rfl k) ?_
    obtain ⟨cq18, kq18, q18a, q18b, q18c⟩ := isOf hZ e17 E_b2
    obtain ⟨_, _, ⟨T18, L18, k18, n18⟩, -, X18, ⟨Lc18, hQ18, l18, y18, z18⟩, st18⟩ := X17.virtualBack hx (y := (⟨"com/example/vantrell/vantrell/statistics/Gauge", "current", "()J"⟩ : MethodName)) (z := (⟨"com/example/vantrell/vantrell/statistics/Gauge", "current", "()J"⟩ : MethodName)) hown (mvT hZ (wd73 hw)) (mvT hZ (wd74 hw)) (notFace_of_selects (args := #[]) (mvT hZ (wd76 hw))) (mvT hZ (wd76 hw)) (mvT hZ (wd75 hw)) (by decide) (backOf (W := 0) (rm13 l Z a0 hw [] b2 (q1 + q2) h7 n0 Z0 F_b2_current) hZ (wd77 hw) (wd2 hw) (by decide) (by decide)) q18a q18c (g := (mkF m 234 #[.val (.long q1), .second, .val (.long q2), .second, .val (.long q3), .second, .val (.int p4), .val (.int 0), .val (.ref b2), .val (.ref x7_0_6), .val (.ref x7_0_7), .val (.long (q1 + q2)), .second, .val (.long (f4 (0 : Int64) (f4 q1 (q1 + q2)))), .second, .val (.long (f5 (0 : Int64) (f5 q1 (q1 + q2)))), .second, .val (.int 1), .val (.long (q1 + q2)), .second, .val (.long (q1 + q2)), .second, .val (.long (q1 + q2)), .second, .val (.int 1)] [(.ref b2)])) rfl (by rw [hml]; rfl) (Steps.refl _) (argsL := []) (rest := []) (lenOf pd5 rfl) rfl (by show 2 * 0 + _ ≤ _; exact Nat.le_of_eq rfl) (hb hby at_234) (fun _ _ => ⟨rfl, e17, (by decide : 3 + 0 ≤ _), (by decide : 9 + 0 ≤ _)⟩)
    dsimp only [Pt.U, Pt.locs, Pt.cells, Pt.slots] at X18 l18 y18 z18 st18 hQ18
    subst l18 y18 z18
    refine Go.tr st18 ?_
    obtain ⟨rfl, N18q, e18⟩ := hQ18
    have N18 := Fr.app N17 N18q
    show Go _ _ _ (T18.setTop (mkF m 237 #[.val (.long q1), .second, .val (.long q2), .second, .val (.long q3), .second, .val (.int p4), .val (.int 0), .val (.ref b2), .val (.ref x7_0_6), .val (.ref x7_0_7), .val (.long (q1 + q2)), .second, .val (.long (f4 (0 : Int64) (f4 q1 (q1 + q2)))), .second, .val (.long (f5 (0 : Int64) (f5 q1 (q1 + q2)))), .second, .val (.int 1), .val (.long (q1 + q2)), .second, .val (.long (q1 + q2)), .second, .val (.long (q1 + q2)), .second, .val (.int 1)] [(.long (q1 + q2))])) _
    refine Go.st (fun t k => XS.lload X18.here hx rfl (hb hby at_237) rfl k) ?_
    refine Go.st (fun t k => XS.lcmp X18.here hx rfl (hb hby at_239) rfl k) ?_
    show Go _ _ _ (T18.setTop (mkF m 240 #[.val (.long q1), .second, .val (.long q2), .second, .val (.long q3), .second, .val (.int p4), .val (.int 0), .val (.ref b2), .val (.ref x7_0_6), .val (.ref x7_0_7), .val (.long (q1 + q2)), .second, .val (.long (f4 (0 : Int64) (f4 q1 (q1 + q2)))), .second, .val (.long (f5 (0 : Int64) (f5 q1 (q1 + q2)))), .second, .val (.int 1), .val (.long (q1 + q2)), .second, .val (.long (q1 + q2)), .second, .val (.long (q1 + q2)), .second, .val (.int 1)] [(.int (lcmpW (q1 + q2) (q1 + q2)))])) _
    refine Go.st (fun t k => XS.ifNo X18.here hx rfl (hb hby at_240) rfl ((if0 _ _).trans (teq ((lw_eq (q1 + q2) (q1 + q2)).mpr (rfl : (q1 + q2) = (q1 + q2)))).2) k) ?_
    show Go _ _ _ (T18.setTop (mkF m 243 #[.val (.long q1), .second, .val (.long q2), .second, .val (.long q3), .second, .val (.int p4), .val (.int 0), .val (.ref b2), .val (.ref x7_0_6), .val (.ref x7_0_7), .val (.long (q1 + q2)), .second, .val (.long (f4 (0 : Int64) (f4 q1 (q1 + q2)))), .second, .val (.long (f5 (0 : Int64) (f5 q1 (q1 + q2)))), .second, .val (.int 1), .val (.long (q1 + q2)), .second, .val (.long (q1 + q2)), .second, .val (.long (q1 + q2)), .second, .val (.int 1)] [])) _
    refine Go.st (fun t k => XS.iconst X18.here hx rfl (hb hby at_243) k) ?_
    refine Go.st (fun t k => XS.goto X18.here hx rfl (pc0 := 244) (pc' := 248) rfl (hb hby at_244) (by decide) (by decide) k) ?_
    obtain ⟨fs, hr, hrun, hended, hW, hsame⟩ := X18.leave (v := some (.int (1 : Int32))) (fun h => by rw [Bd.returns] at h; cases h)
    refine Go.fin (retN X18 hx (t := .boolean) Bd.returns (by simp) (hb hby at_248) hr) hrun hended ⟨_, _, rfl, ?_, ⟨_, rfl⟩, hW, hsame.mono (by decide) (by decide)⟩
    show Q0 Z q1 q2 q3 p4 h0 n0 _ T18.heap _
    rw [e18]
    exact ⟨rfl, N18⟩
  · refine Go.st (fun t k => XS.ifNo X0.here hx rfl (hb hby at_4) rfl ((if0 _ _).trans (feq hc1).1) k) ?_
    show Go _ _ _ (s₁.setTop (mkF m 7 #[.val (.long q1), .second, .val (.long q2), .second, .val (.long q3), .second, .val (.int p4), .unset, .unset, .unset, .unset, .unset, .unset, .unset, .unset, .unset, .unset, .unset, .unset, .unset, .unset, .unset, .unset, .unset, .unset] [])) _
    refine Go.st (fun t k => XS.iconst X0.here hx rfl (hb hby at_7) k) ?_
    refine Go.st (fun t k => XS.goto X0.here hx rfl (pc0 := 8) (pc' := 12) rfl (hb hby at_8) (by decide) (by decide) k) ?_
    refine Go.st (fun t k => XS.istore X0.here hx rfl (hb hby at_12) rfl (l' := #[.val (.long q1), .second, .val (.long q2), .second, .val (.long q3), .second, .val (.int p4), .val (.int 1), .unset, .unset, .unset, .unset, .unset, .unset, .unset, .unset, .unset, .unset, .unset, .unset, .unset, .unset, .unset, .unset, .unset]) rfl k) ?_
    obtain ⟨T19, h19, X19, e19, E19, A19, D19, -, st19⟩ := newO X0 hx hZ hown (wd0 hw) (wd1 hw) (wd2 hw) e0 (g := (mkF m 14 #[.val (.long q1), .second, .val (.long q2), .second, .val (.long q3), .second, .val (.int p4), .val (.int 1), .unset, .unset, .unset, .unset, .unset, .unset, .unset, .unset, .unset, .unset, .unset, .unset, .unset, .unset, .unset, .unset, .unset] [])) rfl (hb hby at_14) (by decide) (by decide)
    obtain ⟨b19, g19⟩ : ∃ z, z = h0.size := ⟨_, rfl⟩
    rw [← g19] at A19 D19 st19
    refine Go.st st19 ?_
    have g_b19 : n0 ≤ b19 := Nat.le_trans Z0 (Nat.le_of_eq g19.symm)
    have sz_b19 : h0.size ≤ b19 := Nat.le_trans K0.1 (Nat.le_of_eq g19.symm)
    replace K0 := K0.ext E19
    replace Z0 := Nat.le_trans Z0 E19.1
    have E_b19 := A19
    have F_b19_current : Fld Z h19 b19 "com/example/vantrell/vantrell/statistics/Gauge" "current" "J" (.long (0 : Int64)) := D19 (Or.inl (wd15 hw)) (ty := .long) (by decide)
    have F_b19_high : Fld Z h19 b19 "com/example/vantrell/vantrell/statistics/Gauge" "high" "J" (.long (0 : Int64)) := D19 (Or.inl (wd17 hw)) (ty := .long) (by decide)
    have F_b19_low : Fld Z h19 b19 "com/example/vantrell/vantrell/statistics/Gauge" "low" "J" (.long (0 : Int64)) := D19 (Or.inl (wd23 hw)) (ty := .long) (by decide)
    show Go _ _ _ (T19.setTop (mkF m 17 #[.val (.long q1), .second, .val (.long q2), .second, .val (.long q3), .second, .val (.int p4), .val (.int 1), .unset, .unset, .unset, .unset, .unset, .unset, .unset, .unset, .unset, .unset, .unset, .unset, .unset, .unset, .unset, .unset, .unset] [(.ref b19)])) _
    refine Go.st (fun t k => XS.dup X19.here hx rfl (hb hby at_17) rfl rfl k) ?_
    obtain ⟨_, _, ⟨T20, L20, k20, n20⟩, -, X20, ⟨Lc20, hQ20, l20, y20, z20⟩, st20⟩ := X19.specialBack hx (y := (⟨"com/example/vantrell/vantrell/statistics/Gauge", "<init>", "()V"⟩ : MethodName)) rfl hown (mvT hZ (wd3 hw)) (mvT hZ (wd4 hw)) (mvT hZ (wd5 hw)) (by decide) (backOf (W := 1) (rm1 l Z a0 hw [] b19 h19 n0 Z0) hZ (wd5 hw) (wd2 hw) (by decide) (by decide)) (g := (mkF m 18 #[.val (.long q1), .second, .val (.long q2), .second, .val (.long q3), .second, .val (.int p4), .val (.int 1), .unset, .unset, .unset, .unset, .unset, .unset, .unset, .unset, .unset, .unset, .unset, .unset, .unset, .unset, .unset, .unset, .unset] [(.ref b19), (.ref b19)])) rfl (by rw [hml]; rfl) (Steps.refl _) (a := b19) (argsL := []) (rest := [(.ref b19)]) (lenOf pd0 rfl) rfl (by show 2 * 0 + _ ≤ _; exact Nat.le_of_eq rfl) (hb hby at_18) (fun _ _ => ⟨rfl, e19, (by decide : 1 + 0 ≤ _), (by decide : 3 + 0 ≤ _)⟩)
    dsimp only [Pt.U, Pt.locs, Pt.cells, Pt.slots] at X20 l20 y20 z20 st20 hQ20
    subst l20 y20 z20
    refine Go.tr st20 ?_
    obtain ⟨rfl, N20q, e20⟩ := hQ20
    have N20 := Fr.app N0 N20q
    show Go _ _ _ (T20.setTop (mkF m 21 #[.val (.long q1), .second, .val (.long q2), .second, .val (.long q3), .second, .val (.int p4), .val (.int 1), .unset, .unset, .unset, .unset, .unset, .unset, .unset, .unset, .unset, .unset, .unset, .unset, .unset, .unset, .unset, .unset, .unset] [(.ref b19)])) _
    refine Go.st (fun t k => XS.astore X20.here hx rfl (hb hby at_21) rfl rfl (l' := #[.val (.long q1), .second, .val (.long q2), .second, .val (.long q3), .second, .val (.int p4), .val (.int 1), .val (.ref b19), .unset, .unset, .unset, .unset, .unset, .unset, .unset, .unset, .unset, .unset, .unset, .unset, .unset, .unset, .unset, .unset]) rfl k) ?_
    refine Go.st (fun t k => XS.aload X20.here hx rfl (hb hby at_23) rfl rfl k) ?_
    refine Go.st (fun t k => XS.lloadN X20.here hx rfl (hb hby at_25) rfl k) ?_
    obtain ⟨cq21, kq21, q21a, q21b, q21c⟩ := isOf hZ e20 E_b19
    obtain ⟨_, _, ⟨T21, L21, k21, n21⟩, -, X21, ⟨Lc21, hQ21, l21, y21, z21⟩, st21⟩ := X20.virtualBack hx (y := (⟨"com/example/vantrell/vantrell/statistics/Gauge", "set", "(J)V"⟩ : MethodName)) (z := (⟨"com/example/vantrell/vantrell/statistics/Gauge", "set", "(J)V"⟩ : MethodName)) hown (mvT hZ (wd9 hw)) (mvT hZ (wd10 hw)) (notFace_of_selects (args := #[]) (mvT hZ (wd12 hw))) (mvT hZ (wd12 hw)) (mvT hZ (wd11 hw)) (by decide) (backOf (W := 0) (rm3 l Z a0 hw [] b19 q1 ((.long (0 : Int64)) : Value) (0 : Int64) (0 : Int64) h19 n0 Z0 E_b19 F_b19_current F_b19_high F_b19_low g_b19) hZ (wd13 hw) (wd2 hw) (by decide) (by decide)) q21a q21c (g := (mkF m 26 #[.val (.long q1), .second, .val (.long q2), .second, .val (.long q3), .second, .val (.int p4), .val (.int 1), .val (.ref b19), .unset, .unset, .unset, .unset, .unset, .unset, .unset, .unset, .unset, .unset, .unset, .unset, .unset, .unset, .unset, .unset] [(.long q1), (.ref b19)])) rfl (by rw [hml]; rfl) (Steps.refl _) (argsL := [(.long q1)]) (rest := []) (lenOf pd2 rfl) rfl (by show 2 * 0 + _ ≤ _; exact Nat.le_of_eq rfl) (hb hby at_26) (fun _ _ => ⟨rfl, e20, (by decide : 1 + 0 ≤ _), (by decide : 3 + 0 ≤ _)⟩)
    dsimp only [Pt.U, Pt.locs, Pt.cells, Pt.slots] at X21 l21 y21 z21 st21 hQ21
    subst l21 y21 z21
    refine Go.tr st21 ?_
    have E_b19_pre := E_b19
    have F_b19_current_pre := F_b19_current
    have F_b19_high_pre := F_b19_high
    have F_b19_low_pre := F_b19_low
    obtain ⟨h21, e21⟩ : ∃ z, T21.heap = z := ⟨_, rfl⟩
    rw [e21] at hQ21
    obtain ⟨rfl, N21q, K21, Q21_0, Q21_1, Q21_2, Q21_3⟩ := hQ21
    replace E_b19 := E_b19.keep K21
    replace Z0 := Nat.le_trans Z0 K21.1
    replace K0 := K0.trans K21 (allS (Or.inr sz_b19) all0)
    have E_b19 := Q21_0
    have F_b19_current := Q21_1
    have F_b19_high := Q21_2
    have F_b19_low := Q21_3
    have N21 := Fr.app N20 N21q
    show Go _ _ _ (T21.setTop (mkF m 29 #[.val (.long q1), .second, .val (.long q2), .second, .val (.long q3), .second, .val (.int p4), .val (.int 1), .val (.ref b19), .unset, .unset, .unset, .unset, .unset, .unset, .unset, .unset, .unset, .unset, .unset, .unset, .unset, .unset, .unset, .unset] [])) _
    refine Go.st (fun t k => XS.aload X21.here hx rfl (hb hby at_29) rfl rfl k) ?_
    refine Go.st (fun t k => XS.lloadN X21.here hx rfl (hb hby at_31) rfl k) ?_
    obtain ⟨cq22, kq22, q22a, q22b, q22c⟩ := isOf hZ e21 E_b19
    obtain ⟨_, _, ⟨T22, L22, k22, n22⟩, -, X22, ⟨Lc22, hQ22, l22, y22, z22⟩, st22⟩ := X21.virtualBack hx (y := (⟨"com/example/vantrell/vantrell/statistics/Gauge", "add", "(J)V"⟩ : MethodName)) (z := (⟨"com/example/vantrell/vantrell/statistics/Gauge", "add", "(J)V"⟩ : MethodName)) hown (mvT hZ (wd27 hw)) (mvT hZ (wd28 hw)) (notFace_of_selects (args := #[]) (mvT hZ (wd30 hw))) (mvT hZ (wd30 hw)) (mvT hZ (wd29 hw)) (by decide) (backOf (W := 0) (rm6 l Z a0 hw [] b19 q2 q1 (f4 (0 : Int64) q1) (f5 (0 : Int64) q1) h21 n0 Z0 F_b19_current E_b19 F_b19_high F_b19_low g_b19) hZ (wd31 hw) (wd2 hw) (by decide) (by decide)) q22a q22c (g := (mkF m 32 #[.val (.long q1), .second, .val (.long q2), .second, .val (.long q3), .second, .val (.int p4), .val (.int 1), .val (.ref b19), .unset, .unset, .unset, .unset, .unset, .unset, .unset, .unset, .unset, .unset, .unset, .unset, .unset, .unset, .unset, .unset] [(.long q2), (.ref b19)])) rfl (by rw [hml]; rfl) (Steps.refl _) (argsL := [(.long q2)]) (rest := []) (lenOf pd2 rfl) rfl (by show 2 * 0 + _ ≤ _; exact Nat.le_of_eq rfl) (hb hby at_32) (fun _ _ => ⟨rfl, e21, (by decide : 1 + 0 ≤ _), (by decide : 3 + 0 ≤ _)⟩)
    dsimp only [Pt.U, Pt.locs, Pt.cells, Pt.slots] at X22 l22 y22 z22 st22 hQ22
    subst l22 y22 z22
    refine Go.tr st22 ?_
    have E_b19_pre := E_b19
    have F_b19_current_pre := F_b19_current
    have F_b19_high_pre := F_b19_high
    have F_b19_low_pre := F_b19_low
    obtain ⟨h22, e22⟩ : ∃ z, T22.heap = z := ⟨_, rfl⟩
    rw [e22] at hQ22
    obtain ⟨rfl, N22q, K22, Q22_0, Q22_1, Q22_2, Q22_3⟩ := hQ22
    replace E_b19 := E_b19.keep K22
    replace Z0 := Nat.le_trans Z0 K22.1
    replace K0 := K0.trans K22 (allS (Or.inr sz_b19) all0)
    have E_b19 := Q22_0
    have F_b19_current := Q22_1
    have F_b19_high := Q22_2
    have F_b19_low := Q22_3
    have N22 := Fr.app N21 N22q
    show Go _ _ _ (T22.setTop (mkF m 35 #[.val (.long q1), .second, .val (.long q2), .second, .val (.long q3), .second, .val (.int p4), .val (.int 1), .val (.ref b19), .unset, .unset, .unset, .unset, .unset, .unset, .unset, .unset, .unset, .unset, .unset, .unset, .unset, .unset, .unset, .unset] [])) _
    refine Go.st (fun t k => XS.aload X22.here hx rfl (hb hby at_35) rfl rfl k) ?_
    obtain ⟨cq23, kq23, q23a, q23b, q23c⟩ := isOf hZ e22 E_b19
    obtain ⟨_, _, ⟨T23, L23, k23, n23⟩, -, X23, ⟨Lc23, hQ23, l23, y23, z23⟩, st23⟩ := X22.virtualBack hx (y := (⟨"com/example/vantrell/vantrell/statistics/Gauge", "read", "()Lcom/example/vantrell/vantrell/statistics/Gauge$Reading;"⟩ : MethodName)) (z := (⟨"com/example/vantrell/vantrell/statistics/Gauge", "read", "()Lcom/example/vantrell/vantrell/statistics/Gauge$Reading;"⟩ : MethodName)) hown (mvT hZ (wd33 hw)) (mvT hZ (wd34 hw)) (notFace_of_selects (args := #[]) (mvT hZ (wd36 hw))) (mvT hZ (wd36 hw)) (mvT hZ (wd35 hw)) (by decide) (backOf (W := 0) (rm7 l Z a0 hw [] b19 (f4 (f4 (0 : Int64) q1) (q1 + q2)) (f5 (f5 (0 : Int64) q1) (q1 + q2)) (q1 + q2) h22 n0 Z0 F_b19_high F_b19_low F_b19_current E_b19 g_b19) hZ (wd37 hw) (wd2 hw) (by decide) (by decide)) q23a q23c (g := (mkF m 37 #[.val (.long q1), .second, .val (.long q2), .second, .val (.long q3), .second, .val (.int p4), .val (.int 1), .val (.ref b19), .unset, .unset, .unset, .unset, .unset, .unset, .unset, .unset, .unset, .unset, .unset, .unset, .unset, .unset, .unset, .unset] [(.ref b19)])) rfl (by rw [hml]; rfl) (Steps.refl _) (argsL := []) (rest := []) (lenOf pd4 rfl) rfl (by show 2 * 0 + _ ≤ _; exact Nat.le_of_eq rfl) (hb hby at_37) (fun _ _ => ⟨rfl, e22, (by decide : 1 + 1 ≤ _), (by decide : 3 + 3 ≤ _)⟩)
    dsimp only [Pt.U, Pt.locs, Pt.cells, Pt.slots] at X23 l23 y23 z23 st23 hQ23
    subst l23 y23 z23
    have E_b19_pre := E_b19
    have F_b19_current_pre := F_b19_current
    have F_b19_high_pre := F_b19_high
    have F_b19_low_pre := F_b19_low
    obtain ⟨h23, e23⟩ : ∃ z, T23.heap = z := ⟨_, rfl⟩
    rw [e23] at hQ23
    obtain ⟨x7_0_23, rfl, N23q, K23, ng_x7_0_23, sz0_x7_0_23, Q23_0, Q23_1, Q23_2, Q23_3, Q23_4, Q23_5, Q23_6, Q23_7⟩ := hQ23
    refine Go.tr st23 ?_
    have ne_b19_x7_0_23 : b19 ≠ x7_0_23 := Nat.ne_of_lt (Nat.lt_of_lt_of_le E_b19.lt sz0_x7_0_23)
    have g_x7_0_23 : n0 ≤ x7_0_23 := ng_x7_0_23
    have sz_x7_0_23 : h0.size ≤ x7_0_23 := Nat.le_trans K0.1 sz0_x7_0_23
    replace E_b19 := E_b19.keep K23
    replace Z0 := Nat.le_trans Z0 K23.1
    replace K0 := K0.trans K23 (allS (Or.inr sz_b19) all0)
    have F_b19_high := Q23_0
    have F_b19_low := Q23_1
    have F_b19_current := Q23_2
    have E_b19 := Q23_3
    have E_x7_0_23 := Q23_4
    have F_x7_0_23_high := Q23_5
    have F_x7_0_23_low := Q23_6
    have F_x7_0_23_current := Q23_7
    have N23 := Fr.app N22 N23q
    show Go _ _ _ (T23.setTop (mkF m 40 #[.val (.long q1), .second, .val (.long q2), .second, .val (.long q3), .second, .val (.int p4), .val (.int 1), .val (.ref b19), .unset, .unset, .unset, .unset, .unset, .unset, .unset, .unset, .unset, .unset, .unset, .unset, .unset, .unset, .unset, .unset] [(.ref x7_0_23)])) _
    refine Go.st (fun t k => XS.astore X23.here hx rfl (hb hby at_40) rfl rfl (l' := #[.val (.long q1), .second, .val (.long q2), .second, .val (.long q3), .second, .val (.int p4), .val (.int 1), .val (.ref b19), .val (.ref x7_0_23), .unset, .unset, .unset, .unset, .unset, .unset, .unset, .unset, .unset, .unset, .unset, .unset, .unset, .unset, .unset]) rfl k) ?_
    refine Go.st (fun t k => XS.iload X23.here hx rfl (hb hby at_42) rfl k) ?_
    refine Go.st (fun t k => XS.ifNo X23.here hx rfl (hb hby at_44) rfl ((if0 _ _).trans (feq (by decide : ¬ ((1 : Int32) = (0 : Int32)))).1) k) ?_
    show Go _ _ _ (T23.setTop (mkF m 47 #[.val (.long q1), .second, .val (.long q2), .second, .val (.long q3), .second, .val (.int p4), .val (.int 1), .val (.ref b19), .val (.ref x7_0_23), .unset, .unset, .unset, .unset, .unset, .unset, .unset, .unset, .unset, .unset, .unset, .unset, .unset, .unset, .unset] [])) _
    refine Go.st (fun t k => XS.aload X23.here hx rfl (hb hby at_47) rfl rfl k) ?_
    refine Go.st (fun t k => XS.lload X23.here hx rfl (hb hby at_49) rfl k) ?_
    obtain ⟨cq24, kq24, q24a, q24b, q24c⟩ := isOf hZ e23 E_b19
    obtain ⟨_, _, ⟨T24, L24, k24, n24⟩, -, X24, ⟨Lc24, hQ24, l24, y24, z24⟩, st24⟩ := X23.virtualBack hx (y := (⟨"com/example/vantrell/vantrell/statistics/Gauge", "set", "(J)V"⟩ : MethodName)) (z := (⟨"com/example/vantrell/vantrell/statistics/Gauge", "set", "(J)V"⟩ : MethodName)) hown (mvT hZ (wd9 hw)) (mvT hZ (wd10 hw)) (notFace_of_selects (args := #[]) (mvT hZ (wd12 hw))) (mvT hZ (wd12 hw)) (mvT hZ (wd11 hw)) (by decide) (backOf (W := 0) (rm3 l Z a0 hw [] b19 q3 ((.long (q1 + q2)) : Value) (q1 + q2) (q1 + q2) h23 n0 Z0 E_b19 F_b19_current F_b19_high F_b19_low g_b19) hZ (wd13 hw) (wd2 hw) (by decide) (by decide)) q24a q24c (g := (mkF m 51 #[.val (.long q1), .second, .val (.long q2), .second, .val (.long q3), .second, .val (.int p4), .val (.int 1), .val (.ref b19), .val (.ref x7_0_23), .unset, .unset, .unset, .unset, .unset, .unset, .unset, .unset, .unset, .unset, .unset, .unset, .unset, .unset, .unset] [(.long q3), (.ref b19)])) rfl (by rw [hml]; rfl) (Steps.refl _) (argsL := [(.long q3)]) (rest := []) (lenOf pd2 rfl) rfl (by show 2 * 0 + _ ≤ _; exact Nat.le_of_eq rfl) (hb hby at_51) (fun _ _ => ⟨rfl, e23, (by decide : 2 + 0 ≤ _), (by decide : 6 + 0 ≤ _)⟩)
    dsimp only [Pt.U, Pt.locs, Pt.cells, Pt.slots] at X24 l24 y24 z24 st24 hQ24
    subst l24 y24 z24
    refine Go.tr st24 ?_
    have E_b19_pre := E_b19
    have F_b19_high_pre := F_b19_high
    have F_b19_low_pre := F_b19_low
    have F_b19_current_pre := F_b19_current
    obtain ⟨h24, e24⟩ : ∃ z, T24.heap = z := ⟨_, rfl⟩
    rw [e24] at hQ24
    obtain ⟨rfl, N24q, K24, Q24_0, Q24_1, Q24_2, Q24_3⟩ := hQ24
    replace E_b19 := E_b19.keep K24
    replace E_x7_0_23 := E_x7_0_23.keep K24
    replace F_x7_0_23_high := F_x7_0_23_high.keep K24 (ninS (Ne.symm ne_b19_x7_0_23) nin0)
    replace F_x7_0_23_low := F_x7_0_23_low.keep K24 (ninS (Ne.symm ne_b19_x7_0_23) nin0)
    replace F_x7_0_23_current := F_x7_0_23_current.keep K24 (ninS (Ne.symm ne_b19_x7_0_23) nin0)
    replace Z0 := Nat.le_trans Z0 K24.1
    replace K0 := K0.trans K24 (allS (Or.inr sz_b19) all0)
    have E_b19 := Q24_0
    have F_b19_current := Q24_1
    have F_b19_high := Q24_2
    have F_b19_low := Q24_3
    have N24 := Fr.app N23 N24q
    show Go _ _ _ (T24.setTop (mkF m 54 #[.val (.long q1), .second, .val (.long q2), .second, .val (.long q3), .second, .val (.int p4), .val (.int 1), .val (.ref b19), .val (.ref x7_0_23), .unset, .unset, .unset, .unset, .unset, .unset, .unset, .unset, .unset, .unset, .unset, .unset, .unset, .unset, .unset] [])) _
    refine Go.st (fun t k => XS.aload X24.here hx rfl (hb hby at_54) rfl rfl k) ?_
    obtain ⟨cq25, kq25, q25a, q25b, q25c⟩ := isOf hZ e24 E_b19
    obtain ⟨_, _, ⟨T25, L25, k25, n25⟩, -, X25, ⟨Lc25, hQ25, l25, y25, z25⟩, st25⟩ := X24.virtualBack hx (y := (⟨"com/example/vantrell/vantrell/statistics/Gauge", "read", "()Lcom/example/vantrell/vantrell/statistics/Gauge$Reading;"⟩ : MethodName)) (z := (⟨"com/example/vantrell/vantrell/statistics/Gauge", "read", "()Lcom/example/vantrell/vantrell/statistics/Gauge$Reading;"⟩ : MethodName)) hown (mvT hZ (wd33 hw)) (mvT hZ (wd34 hw)) (notFace_of_selects (args := #[]) (mvT hZ (wd36 hw))) (mvT hZ (wd36 hw)) (mvT hZ (wd35 hw)) (by decide) (backOf (W := 0) (rm7 l Z a0 hw [] b19 (f4 (q1 + q2) q3) (f5 (q1 + q2) q3) q3 h24 n0 Z0 F_b19_high F_b19_low F_b19_current E_b19 g_b19) hZ (wd37 hw) (wd2 hw) (by decide) (by decide)) q25a q25c (g := (mkF m 56 #[.val (.long q1), .second, .val (.long q2), .second, .val (.long q3), .second, .val (.int p4), .val (.int 1), .val (.ref b19), .val (.ref x7_0_23), .unset, .unset, .unset, .unset, .unset, .unset, .unset, .unset, .unset, .unset, .unset, .unset, .unset, .unset, .unset] [(.ref b19)])) rfl (by rw [hml]; rfl) (Steps.refl _) (argsL := []) (rest := []) (lenOf pd4 rfl) rfl (by show 2 * 0 + _ ≤ _; exact Nat.le_of_eq rfl) (hb hby at_56) (fun _ _ => ⟨rfl, e24, (by decide : 2 + 1 ≤ _), (by decide : 6 + 3 ≤ _)⟩)
    dsimp only [Pt.U, Pt.locs, Pt.cells, Pt.slots] at X25 l25 y25 z25 st25 hQ25
    subst l25 y25 z25
    have E_b19_pre := E_b19
    have F_b19_current_pre := F_b19_current
    have F_b19_high_pre := F_b19_high
    have F_b19_low_pre := F_b19_low
    obtain ⟨h25, e25⟩ : ∃ z, T25.heap = z := ⟨_, rfl⟩
    rw [e25] at hQ25
    obtain ⟨x7_0_25, rfl, N25q, K25, ng_x7_0_25, sz0_x7_0_25, Q25_0, Q25_1, Q25_2, Q25_3, Q25_4, Q25_5, Q25_6, Q25_7⟩ := hQ25
    refine Go.tr st25 ?_
    have ne_b19_x7_0_25 : b19 ≠ x7_0_25 := Nat.ne_of_lt (Nat.lt_of_lt_of_le E_b19.lt sz0_x7_0_25)
    have ne_x7_0_23_x7_0_25 : x7_0_23 ≠ x7_0_25 := Nat.ne_of_lt (Nat.lt_of_lt_of_le E_x7_0_23.lt sz0_x7_0_25)
    have g_x7_0_25 : n0 ≤ x7_0_25 := ng_x7_0_25
    have sz_x7_0_25 : h0.size ≤ x7_0_25 := Nat.le_trans K0.1 sz0_x7_0_25
    replace E_b19 := E_b19.keep K25
    replace E_x7_0_23 := E_x7_0_23.keep K25
    replace F_x7_0_23_high := F_x7_0_23_high.keep K25 (ninS (Ne.symm ne_b19_x7_0_23) nin0)
    replace F_x7_0_23_low := F_x7_0_23_low.keep K25 (ninS (Ne.symm ne_b19_x7_0_23) nin0)
    replace F_x7_0_23_current := F_x7_0_23_current.keep K25 (ninS (Ne.symm ne_b19_x7_0_23) nin0)
    replace Z0 := Nat.le_trans Z0 K25.1
    replace K0 := K0.trans K25 (allS (Or.inr sz_b19) all0)
    have F_b19_high := Q25_0
    have F_b19_low := Q25_1
    have F_b19_current := Q25_2
    have E_b19 := Q25_3
    have E_x7_0_25 := Q25_4
    have F_x7_0_25_high := Q25_5
    have F_x7_0_25_low := Q25_6
    have F_x7_0_25_current := Q25_7
    have N25 := Fr.app N24 N25q
    show Go _ _ _ (T25.setTop (mkF m 59 #[.val (.long q1), .second, .val (.long q2), .second, .val (.long q3), .second, .val (.int p4), .val (.int 1), .val (.ref b19), .val (.ref x7_0_23), .unset, .unset, .unset, .unset, .unset, .unset, .unset, .unset, .unset, .unset, .unset, .unset, .unset, .unset, .unset] [(.ref x7_0_25)])) _
    refine Go.st (fun t k => XS.astore X25.here hx rfl (hb hby at_59) rfl rfl (l' := #[.val (.long q1), .second, .val (.long q2), .second, .val (.long q3), .second, .val (.int p4), .val (.int 1), .val (.ref b19), .val (.ref x7_0_23), .val (.ref x7_0_25), .unset, .unset, .unset, .unset, .unset, .unset, .unset, .unset, .unset, .unset, .unset, .unset, .unset, .unset]) rfl k) ?_
    refine Go.st (fun t k => XS.lloadN X25.here hx rfl (hb hby at_61) rfl k) ?_
    refine Go.st (fun t k => XS.lloadN X25.here hx rfl (hb hby at_62) rfl k) ?_
    refine Go.st (fun t k => XS.ladd X25.here hx rfl (hb hby at_63) rfl k) ?_
    show Go _ _ _ (T25.setTop (mkF m 64 #[.val (.long q1), .second, .val (.long q2), .second, .val (.long q3), .second, .val (.int p4), .val (.int 1), .val (.ref b19), .val (.ref x7_0_23), .val (.ref x7_0_25), .unset, .unset, .unset, .unset, .unset, .unset, .unset, .unset, .unset, .unset, .unset, .unset, .unset, .unset] [(.long (q1 + q2))])) _
    refine Go.st (fun t k => XS.lstore X25.here hx rfl (hb hby at_64) rfl (l' := #[.val (.long q1), .second, .val (.long q2), .second, .val (.long q3), .second, .val (.int p4), .val (.int 1), .val (.ref b19), .val (.ref x7_0_23), .val (.ref x7_0_25), .val (.long (q1 + q2)), .second, .unset, .unset, .unset, .unset, .unset, .unset, .unset, .unset, .unset, .unset, .unset, .unset]) rfl k) ?_
    refine Go.st (fun t k => XS.lconst X25.here hx rfl (hb hby at_66) k) ?_
    refine Go.st (fun t k => XS.lloadN X25.here hx rfl (hb hby at_67) rfl k) ?_
    refine Go.st (fun t k => XS.lload X25.here hx rfl (hb hby at_68) rfl k) ?_
    obtain ⟨_, _, ⟨T26, L26, k26, n26⟩, -, X26, ⟨Lc26, hQ26, l26, y26, z26⟩, st26⟩ := Jvm.LawKit.callS X25 hx (y := (⟨"java/lang/Math", "max", "(JJ)J"⟩ : MethodName)) hown (mvT hZ (wd56 hw)) (mvT hZ (wd19 hw)) (mvT hZ (wd20 hw)) (mvT hZ (wd21 hw)) (by decide) (backOf (W := 2) (rm4 l Z a0 hw [] q1 (q1 + q2) h25 n0 Z0) hZ (wd21 hw) (wd20 hw) (by decide) (by decide)) (g := (mkF m 70 #[.val (.long q1), .second, .val (.long q2), .second, .val (.long q3), .second, .val (.int p4), .val (.int 1), .val (.ref b19), .val (.ref x7_0_23), .val (.ref x7_0_25), .val (.long (q1 + q2)), .second, .unset, .unset, .unset, .unset, .unset, .unset, .unset, .unset, .unset, .unset, .unset, .unset] [(.long (q1 + q2)), (.long q1), (.long 0)])) rfl (by rw [hml]; rfl) (argsL := [(.long q1), (.long (q1 + q2))]) (rest := [(.long (0 : Int64))]) (lenOf pd1 rfl) rfl (by show 2 * 0 + _ ≤ _; exact Nat.le_of_eq rfl) (hb hby at_70) (fun _ _ => ⟨rfl, e25, (by decide : 3 + 0 ≤ _), (by decide : 9 + 0 ≤ _)⟩)
    dsimp only [Pt.U, Pt.locs, Pt.cells, Pt.slots] at X26 l26 y26 z26 st26 hQ26
    subst l26 y26 z26
    refine Go.st st26 ?_
    obtain ⟨rfl, N26q, e26⟩ := hQ26
    have N26 := Fr.app N25 N26q
    show Go _ _ _ (T26.setTop (mkF m 73 #[.val (.long q1), .second, .val (.long q2), .second, .val (.long q3), .second, .val (.int p4), .val (.int 1), .val (.ref b19), .val (.ref x7_0_23), .val (.ref x7_0_25), .val (.long (q1 + q2)), .second, .unset, .unset, .unset, .unset, .unset, .unset, .unset, .unset, .unset, .unset, .unset, .unset] [(.long (f4 q1 (q1 + q2))), (.long 0)])) _
    obtain ⟨_, _, ⟨T27, L27, k27, n27⟩, -, X27, ⟨Lc27, hQ27, l27, y27, z27⟩, st27⟩ := Jvm.LawKit.callS X26 hx (y := (⟨"java/lang/Math", "max", "(JJ)J"⟩ : MethodName)) hown (mvT hZ (wd56 hw)) (mvT hZ (wd19 hw)) (mvT hZ (wd20 hw)) (mvT hZ (wd21 hw)) (by decide) (backOf (W := 0) (rm4 l Z a0 hw [] (0 : Int64) (f4 q1 (q1 + q2)) h25 n0 Z0) hZ (wd21 hw) (wd20 hw) (by decide) (by decide)) (g := (mkF m 73 #[.val (.long q1), .second, .val (.long q2), .second, .val (.long q3), .second, .val (.int p4), .val (.int 1), .val (.ref b19), .val (.ref x7_0_23), .val (.ref x7_0_25), .val (.long (q1 + q2)), .second, .unset, .unset, .unset, .unset, .unset, .unset, .unset, .unset, .unset, .unset, .unset, .unset] [(.long (f4 q1 (q1 + q2))), (.long 0)])) rfl (by rw [hml]; rfl) (argsL := [(.long (0 : Int64)), (.long (f4 q1 (q1 + q2)))]) (rest := []) (lenOf pd1 rfl) rfl (by show 2 * 0 + _ ≤ _; exact Nat.le_of_eq rfl) (hb hby at_73) (fun _ _ => ⟨rfl, e26, (by decide : 3 + 0 ≤ _), (by decide : 9 + 0 ≤ _)⟩)
    dsimp only [Pt.U, Pt.locs, Pt.cells, Pt.slots] at X27 l27 y27 z27 st27 hQ27
    subst l27 y27 z27
    refine Go.st st27 ?_
    obtain ⟨rfl, N27q, e27⟩ := hQ27
    have N27 := Fr.app N26 N27q
    show Go _ _ _ (T27.setTop (mkF m 76 #[.val (.long q1), .second, .val (.long q2), .second, .val (.long q3), .second, .val (.int p4), .val (.int 1), .val (.ref b19), .val (.ref x7_0_23), .val (.ref x7_0_25), .val (.long (q1 + q2)), .second, .unset, .unset, .unset, .unset, .unset, .unset, .unset, .unset, .unset, .unset, .unset, .unset] [(.long (f4 (0 : Int64) (f4 q1 (q1 + q2))))])) _
    refine Go.st (fun t k => XS.lstore X27.here hx rfl (hb hby at_76) rfl (l' := #[.val (.long q1), .second, .val (.long q2), .second, .val (.long q3), .second, .val (.int p4), .val (.int 1), .val (.ref b19), .val (.ref x7_0_23), .val (.ref x7_0_25), .val (.long (q1 + q2)), .second, .val (.long (f4 (0 : Int64) (f4 q1 (q1 + q2)))), .second, .unset, .unset, .unset, .unset, .unset, .unset, .unset, .unset, .unset, .unset]) rfl k) ?_
    refine Go.st (fun t k => XS.lconst X27.here hx rfl (hb hby at_78) k) ?_
    refine Go.st (fun t k => XS.lloadN X27.here hx rfl (hb hby at_79) rfl k) ?_
    refine Go.st (fun t k => XS.lload X27.here hx rfl (hb hby at_80) rfl k) ?_
    obtain ⟨_, _, ⟨T28, L28, k28, n28⟩, -, X28, ⟨Lc28, hQ28, l28, y28, z28⟩, st28⟩ := Jvm.LawKit.callS X27 hx (y := (⟨"java/lang/Math", "min", "(JJ)J"⟩ : MethodName)) hown (mvT hZ (wd57 hw)) (mvT hZ (wd25 hw)) (mvT hZ (wd20 hw)) (mvT hZ (wd26 hw)) (by decide) (backOf (W := 2) (rm5 l Z a0 hw [] q1 (q1 + q2) h25 n0 Z0) hZ (wd26 hw) (wd20 hw) (by decide) (by decide)) (g := (mkF m 82 #[.val (.long q1), .second, .val (.long q2), .second, .val (.long q3), .second, .val (.int p4), .val (.int 1), .val (.ref b19), .val (.ref x7_0_23), .val (.ref x7_0_25), .val (.long (q1 + q2)), .second, .val (.long (f4 (0 : Int64) (f4 q1 (q1 + q2)))), .second, .unset, .unset, .unset, .unset, .unset, .unset, .unset, .unset, .unset, .unset] [(.long (q1 + q2)), (.long q1), (.long 0)])) rfl (by rw [hml]; rfl) (argsL := [(.long q1), (.long (q1 + q2))]) (rest := [(.long (0 : Int64))]) (lenOf pd1 rfl) rfl (by show 2 * 0 + _ ≤ _; exact Nat.le_of_eq rfl) (hb hby at_82) (fun _ _ => ⟨rfl, e27, (by decide : 3 + 0 ≤ _), (by decide : 9 + 0 ≤ _)⟩)
    dsimp only [Pt.U, Pt.locs, Pt.cells, Pt.slots] at X28 l28 y28 z28 st28 hQ28
    subst l28 y28 z28
    refine Go.st st28 ?_
    obtain ⟨rfl, N28q, e28⟩ := hQ28
    have N28 := Fr.app N27 N28q
    show Go _ _ _ (T28.setTop (mkF m 85 #[.val (.long q1), .second, .val (.long q2), .second, .val (.long q3), .second, .val (.int p4), .val (.int 1), .val (.ref b19), .val (.ref x7_0_23), .val (.ref x7_0_25), .val (.long (q1 + q2)), .second, .val (.long (f4 (0 : Int64) (f4 q1 (q1 + q2)))), .second, .unset, .unset, .unset, .unset, .unset, .unset, .unset, .unset, .unset, .unset] [(.long (f5 q1 (q1 + q2))), (.long 0)])) _
    obtain ⟨_, _, ⟨T29, L29, k29, n29⟩, -, X29, ⟨Lc29, hQ29, l29, y29, z29⟩, st29⟩ := Jvm.LawKit.callS X28 hx (y := (⟨"java/lang/Math", "min", "(JJ)J"⟩ : MethodName)) hown (mvT hZ (wd57 hw)) (mvT hZ (wd25 hw)) (mvT hZ (wd20 hw)) (mvT hZ (wd26 hw)) (by decide) (backOf (W := 0) (rm5 l Z a0 hw [] (0 : Int64) (f5 q1 (q1 + q2)) h25 n0 Z0) hZ (wd26 hw) (wd20 hw) (by decide) (by decide)) (g := (mkF m 85 #[.val (.long q1), .second, .val (.long q2), .second, .val (.long q3), .second, .val (.int p4), .val (.int 1), .val (.ref b19), .val (.ref x7_0_23), .val (.ref x7_0_25), .val (.long (q1 + q2)), .second, .val (.long (f4 (0 : Int64) (f4 q1 (q1 + q2)))), .second, .unset, .unset, .unset, .unset, .unset, .unset, .unset, .unset, .unset, .unset] [(.long (f5 q1 (q1 + q2))), (.long 0)])) rfl (by rw [hml]; rfl) (argsL := [(.long (0 : Int64)), (.long (f5 q1 (q1 + q2)))]) (rest := []) (lenOf pd1 rfl) rfl (by show 2 * 0 + _ ≤ _; exact Nat.le_of_eq rfl) (hb hby at_85) (fun _ _ => ⟨rfl, e28, (by decide : 3 + 0 ≤ _), (by decide : 9 + 0 ≤ _)⟩)
    dsimp only [Pt.U, Pt.locs, Pt.cells, Pt.slots] at X29 l29 y29 z29 st29 hQ29
    subst l29 y29 z29
    refine Go.st st29 ?_
    obtain ⟨rfl, N29q, e29⟩ := hQ29
    have N29 := Fr.app N28 N29q
    show Go _ _ _ (T29.setTop (mkF m 88 #[.val (.long q1), .second, .val (.long q2), .second, .val (.long q3), .second, .val (.int p4), .val (.int 1), .val (.ref b19), .val (.ref x7_0_23), .val (.ref x7_0_25), .val (.long (q1 + q2)), .second, .val (.long (f4 (0 : Int64) (f4 q1 (q1 + q2)))), .second, .unset, .unset, .unset, .unset, .unset, .unset, .unset, .unset, .unset, .unset] [(.long (f5 (0 : Int64) (f5 q1 (q1 + q2))))])) _
    refine Go.st (fun t k => XS.lstore X29.here hx rfl (hb hby at_88) rfl (l' := #[.val (.long q1), .second, .val (.long q2), .second, .val (.long q3), .second, .val (.int p4), .val (.int 1), .val (.ref b19), .val (.ref x7_0_23), .val (.ref x7_0_25), .val (.long (q1 + q2)), .second, .val (.long (f4 (0 : Int64) (f4 q1 (q1 + q2)))), .second, .val (.long (f5 (0 : Int64) (f5 q1 (q1 + q2)))), .second, .unset, .unset, .unset, .unset, .unset, .unset, .unset, .unset]) rfl k) ?_
    refine Go.st (fun t k => XS.aload X29.here hx rfl (hb hby at_90) rfl rfl k) ?_
    obtain ⟨cq30, kq30, q30a, q30b, q30c⟩ := isOf hZ e29 E_x7_0_23
    obtain ⟨_, _, ⟨T30, L30, k30, n30⟩, -, X30, ⟨Lc30, hQ30, l30, y30, z30⟩, st30⟩ := X29.virtualBack hx (y := (⟨"com/example/vantrell/vantrell/statistics/Gauge$Reading", "high", "()J"⟩ : MethodName)) (z := (⟨"com/example/vantrell/vantrell/statistics/Gauge$Reading", "high", "()J"⟩ : MethodName)) hown (mvT hZ (wd58 hw)) (mvT hZ (wd59 hw)) (notFace_of_selects (args := #[]) (mvT hZ (wd61 hw))) (mvT hZ (wd61 hw)) (mvT hZ (wd60 hw)) (by decide) (backOf (W := 0) (rm10 l Z a0 hw [] x7_0_23 (f4 (f4 (0 : Int64) q1) (q1 + q2)) h25 n0 Z0 F_x7_0_23_high) hZ (wd62 hw) (wd40 hw) (by decide) (by decide)) q30a q30c (g := (mkF m 92 #[.val (.long q1), .second, .val (.long q2), .second, .val (.long q3), .second, .val (.int p4), .val (.int 1), .val (.ref b19), .val (.ref x7_0_23), .val (.ref x7_0_25), .val (.long (q1 + q2)), .second, .val (.long (f4 (0 : Int64) (f4 q1 (q1 + q2)))), .second, .val (.long (f5 (0 : Int64) (f5 q1 (q1 + q2)))), .second, .unset, .unset, .unset, .unset, .unset, .unset, .unset, .unset] [(.ref x7_0_23)])) rfl (by rw [hml]; rfl) (Steps.refl _) (argsL := []) (rest := []) (lenOf pd5 rfl) rfl (by show 2 * 0 + _ ≤ _; exact Nat.le_of_eq rfl) (hb hby at_92) (fun _ _ => ⟨rfl, e29, (by decide : 3 + 0 ≤ _), (by decide : 9 + 0 ≤ _)⟩)
    dsimp only [Pt.U, Pt.locs, Pt.cells, Pt.slots] at X30 l30 y30 z30 st30 hQ30
    subst l30 y30 z30
    refine Go.tr st30 ?_
    obtain ⟨rfl, N30q, e30⟩ := hQ30
    have N30 := Fr.app N29 N30q
    show Go _ _ _ (T30.setTop (mkF m 95 #[.val (.long q1), .second, .val (.long q2), .second, .val (.long q3), .second, .val (.int p4), .val (.int 1), .val (.ref b19), .val (.ref x7_0_23), .val (.ref x7_0_25), .val (.long (q1 + q2)), .second, .val (.long (f4 (0 : Int64) (f4 q1 (q1 + q2)))), .second, .val (.long (f5 (0 : Int64) (f5 q1 (q1 + q2)))), .second, .unset, .unset, .unset, .unset, .unset, .unset, .unset, .unset] [(.long (f4 (f4 (0 : Int64) q1) (q1 + q2)))])) _
    refine Go.st (fun t k => XS.lload X30.here hx rfl (hb hby at_95) rfl k) ?_
    refine Go.st (fun t k => XS.lcmp X30.here hx rfl (hb hby at_97) rfl k) ?_
    show Go _ _ _ (T30.setTop (mkF m 98 #[.val (.long q1), .second, .val (.long q2), .second, .val (.long q3), .second, .val (.int p4), .val (.int 1), .val (.ref b19), .val (.ref x7_0_23), .val (.ref x7_0_25), .val (.long (q1 + q2)), .second, .val (.long (f4 (0 : Int64) (f4 q1 (q1 + q2)))), .second, .val (.long (f5 (0 : Int64) (f5 q1 (q1 + q2)))), .second, .unset, .unset, .unset, .unset, .unset, .unset, .unset, .unset] [(.int (lcmpW (f4 (f4 (0 : Int64) q1) (q1 + q2)) (f4 (0 : Int64) (f4 q1 (q1 + q2)))))])) _
    refine Go.st (fun t k => XS.ifNo X30.here hx rfl (hb hby at_98) rfl ((if0 _ _).trans (teq ((lw_eq (f4 (f4 (0 : Int64) q1) (q1 + q2)) (f4 (0 : Int64) (f4 q1 (q1 + q2)))).mpr (own_hi q1 (q1 + q2)))).2) k) ?_
    show Go _ _ _ (T30.setTop (mkF m 101 #[.val (.long q1), .second, .val (.long q2), .second, .val (.long q3), .second, .val (.int p4), .val (.int 1), .val (.ref b19), .val (.ref x7_0_23), .val (.ref x7_0_25), .val (.long (q1 + q2)), .second, .val (.long (f4 (0 : Int64) (f4 q1 (q1 + q2)))), .second, .val (.long (f5 (0 : Int64) (f5 q1 (q1 + q2)))), .second, .unset, .unset, .unset, .unset, .unset, .unset, .unset, .unset] [])) _
    refine Go.st (fun t k => XS.aload X30.here hx rfl (hb hby at_101) rfl rfl k) ?_
    obtain ⟨cq31, kq31, q31a, q31b, q31c⟩ := isOf hZ e30 E_x7_0_23
    obtain ⟨_, _, ⟨T31, L31, k31, n31⟩, -, X31, ⟨Lc31, hQ31, l31, y31, z31⟩, st31⟩ := X30.virtualBack hx (y := (⟨"com/example/vantrell/vantrell/statistics/Gauge$Reading", "low", "()J"⟩ : MethodName)) (z := (⟨"com/example/vantrell/vantrell/statistics/Gauge$Reading", "low", "()J"⟩ : MethodName)) hown (mvT hZ (wd63 hw)) (mvT hZ (wd64 hw)) (notFace_of_selects (args := #[]) (mvT hZ (wd66 hw))) (mvT hZ (wd66 hw)) (mvT hZ (wd65 hw)) (by decide) (backOf (W := 0) (rm11 l Z a0 hw [] x7_0_23 (f5 (f5 (0 : Int64) q1) (q1 + q2)) h25 n0 Z0 F_x7_0_23_low) hZ (wd67 hw) (wd40 hw) (by decide) (by decide)) q31a q31c (g := (mkF m 103 #[.val (.long q1), .second, .val (.long q2), .second, .val (.long q3), .second, .val (.int p4), .val (.int 1), .val (.ref b19), .val (.ref x7_0_23), .val (.ref x7_0_25), .val (.long (q1 + q2)), .second, .val (.long (f4 (0 : Int64) (f4 q1 (q1 + q2)))), .second, .val (.long (f5 (0 : Int64) (f5 q1 (q1 + q2)))), .second, .unset, .unset, .unset, .unset, .unset, .unset, .unset, .unset] [(.ref x7_0_23)])) rfl (by rw [hml]; rfl) (Steps.refl _) (argsL := []) (rest := []) (lenOf pd5 rfl) rfl (by show 2 * 0 + _ ≤ _; exact Nat.le_of_eq rfl) (hb hby at_103) (fun _ _ => ⟨rfl, e30, (by decide : 3 + 0 ≤ _), (by decide : 9 + 0 ≤ _)⟩)
    dsimp only [Pt.U, Pt.locs, Pt.cells, Pt.slots] at X31 l31 y31 z31 st31 hQ31
    subst l31 y31 z31
    refine Go.tr st31 ?_
    obtain ⟨rfl, N31q, e31⟩ := hQ31
    have N31 := Fr.app N30 N31q
    show Go _ _ _ (T31.setTop (mkF m 106 #[.val (.long q1), .second, .val (.long q2), .second, .val (.long q3), .second, .val (.int p4), .val (.int 1), .val (.ref b19), .val (.ref x7_0_23), .val (.ref x7_0_25), .val (.long (q1 + q2)), .second, .val (.long (f4 (0 : Int64) (f4 q1 (q1 + q2)))), .second, .val (.long (f5 (0 : Int64) (f5 q1 (q1 + q2)))), .second, .unset, .unset, .unset, .unset, .unset, .unset, .unset, .unset] [(.long (f5 (f5 (0 : Int64) q1) (q1 + q2)))])) _
    refine Go.st (fun t k => XS.lload X31.here hx rfl (hb hby at_106) rfl k) ?_
    refine Go.st (fun t k => XS.lcmp X31.here hx rfl (hb hby at_108) rfl k) ?_
    show Go _ _ _ (T31.setTop (mkF m 109 #[.val (.long q1), .second, .val (.long q2), .second, .val (.long q3), .second, .val (.int p4), .val (.int 1), .val (.ref b19), .val (.ref x7_0_23), .val (.ref x7_0_25), .val (.long (q1 + q2)), .second, .val (.long (f4 (0 : Int64) (f4 q1 (q1 + q2)))), .second, .val (.long (f5 (0 : Int64) (f5 q1 (q1 + q2)))), .second, .unset, .unset, .unset, .unset, .unset, .unset, .unset, .unset] [(.int (lcmpW (f5 (f5 (0 : Int64) q1) (q1 + q2)) (f5 (0 : Int64) (f5 q1 (q1 + q2)))))])) _
    refine Go.st (fun t k => XS.ifNo X31.here hx rfl (hb hby at_109) rfl ((if0 _ _).trans (teq ((lw_eq (f5 (f5 (0 : Int64) q1) (q1 + q2)) (f5 (0 : Int64) (f5 q1 (q1 + q2)))).mpr (own_lo q1 (q1 + q2)))).2) k) ?_
    show Go _ _ _ (T31.setTop (mkF m 112 #[.val (.long q1), .second, .val (.long q2), .second, .val (.long q3), .second, .val (.int p4), .val (.int 1), .val (.ref b19), .val (.ref x7_0_23), .val (.ref x7_0_25), .val (.long (q1 + q2)), .second, .val (.long (f4 (0 : Int64) (f4 q1 (q1 + q2)))), .second, .val (.long (f5 (0 : Int64) (f5 q1 (q1 + q2)))), .second, .unset, .unset, .unset, .unset, .unset, .unset, .unset, .unset] [])) _
    refine Go.st (fun t k => XS.aload X31.here hx rfl (hb hby at_112) rfl rfl k) ?_
    obtain ⟨cq32, kq32, q32a, q32b, q32c⟩ := isOf hZ e31 E_x7_0_23
    obtain ⟨_, _, ⟨T32, L32, k32, n32⟩, -, X32, ⟨Lc32, hQ32, l32, y32, z32⟩, st32⟩ := X31.virtualBack hx (y := (⟨"com/example/vantrell/vantrell/statistics/Gauge$Reading", "current", "()J"⟩ : MethodName)) (z := (⟨"com/example/vantrell/vantrell/statistics/Gauge$Reading", "current", "()J"⟩ : MethodName)) hown (mvT hZ (wd68 hw)) (mvT hZ (wd69 hw)) (notFace_of_selects (args := #[]) (mvT hZ (wd71 hw))) (mvT hZ (wd71 hw)) (mvT hZ (wd70 hw)) (by decide) (backOf (W := 0) (rm12 l Z a0 hw [] x7_0_23 (q1 + q2) h25 n0 Z0 F_x7_0_23_current) hZ (wd72 hw) (wd40 hw) (by decide) (by decide)) q32a q32c (g := (mkF m 114 #[.val (.long q1), .second, .val (.long q2), .second, .val (.long q3), .second, .val (.int p4), .val (.int 1), .val (.ref b19), .val (.ref x7_0_23), .val (.ref x7_0_25), .val (.long (q1 + q2)), .second, .val (.long (f4 (0 : Int64) (f4 q1 (q1 + q2)))), .second, .val (.long (f5 (0 : Int64) (f5 q1 (q1 + q2)))), .second, .unset, .unset, .unset, .unset, .unset, .unset, .unset, .unset] [(.ref x7_0_23)])) rfl (by rw [hml]; rfl) (Steps.refl _) (argsL := []) (rest := []) (lenOf pd5 rfl) rfl (by show 2 * 0 + _ ≤ _; exact Nat.le_of_eq rfl) (hb hby at_114) (fun _ _ => ⟨rfl, e31, (by decide : 3 + 0 ≤ _), (by decide : 9 + 0 ≤ _)⟩)
    dsimp only [Pt.U, Pt.locs, Pt.cells, Pt.slots] at X32 l32 y32 z32 st32 hQ32
    subst l32 y32 z32
    refine Go.tr st32 ?_
    obtain ⟨rfl, N32q, e32⟩ := hQ32
    have N32 := Fr.app N31 N32q
    show Go _ _ _ (T32.setTop (mkF m 117 #[.val (.long q1), .second, .val (.long q2), .second, .val (.long q3), .second, .val (.int p4), .val (.int 1), .val (.ref b19), .val (.ref x7_0_23), .val (.ref x7_0_25), .val (.long (q1 + q2)), .second, .val (.long (f4 (0 : Int64) (f4 q1 (q1 + q2)))), .second, .val (.long (f5 (0 : Int64) (f5 q1 (q1 + q2)))), .second, .unset, .unset, .unset, .unset, .unset, .unset, .unset, .unset] [(.long (q1 + q2))])) _
    refine Go.st (fun t k => XS.lload X32.here hx rfl (hb hby at_117) rfl k) ?_
    refine Go.st (fun t k => XS.lcmp X32.here hx rfl (hb hby at_119) rfl k) ?_
    show Go _ _ _ (T32.setTop (mkF m 120 #[.val (.long q1), .second, .val (.long q2), .second, .val (.long q3), .second, .val (.int p4), .val (.int 1), .val (.ref b19), .val (.ref x7_0_23), .val (.ref x7_0_25), .val (.long (q1 + q2)), .second, .val (.long (f4 (0 : Int64) (f4 q1 (q1 + q2)))), .second, .val (.long (f5 (0 : Int64) (f5 q1 (q1 + q2)))), .second, .unset, .unset, .unset, .unset, .unset, .unset, .unset, .unset] [(.int (lcmpW (q1 + q2) (q1 + q2)))])) _
    refine Go.st (fun t k => XS.ifNo X32.here hx rfl (hb hby at_120) rfl ((if0 _ _).trans (teq ((lw_eq (q1 + q2) (q1 + q2)).mpr (rfl : (q1 + q2) = (q1 + q2)))).2) k) ?_
    show Go _ _ _ (T32.setTop (mkF m 123 #[.val (.long q1), .second, .val (.long q2), .second, .val (.long q3), .second, .val (.int p4), .val (.int 1), .val (.ref b19), .val (.ref x7_0_23), .val (.ref x7_0_25), .val (.long (q1 + q2)), .second, .val (.long (f4 (0 : Int64) (f4 q1 (q1 + q2)))), .second, .val (.long (f5 (0 : Int64) (f5 q1 (q1 + q2)))), .second, .unset, .unset, .unset, .unset, .unset, .unset, .unset, .unset] [])) _
    refine Go.st (fun t k => XS.iconst X32.here hx rfl (hb hby at_123) k) ?_
    refine Go.st (fun t k => XS.goto X32.here hx rfl (pc0 := 124) (pc' := 128) rfl (hb hby at_124) (by decide) (by decide) k) ?_
    refine Go.st (fun t k => XS.istore X32.here hx rfl (hb hby at_128) rfl (l' := #[.val (.long q1), .second, .val (.long q2), .second, .val (.long q3), .second, .val (.int p4), .val (.int 1), .val (.ref b19), .val (.ref x7_0_23), .val (.ref x7_0_25), .val (.long (q1 + q2)), .second, .val (.long (f4 (0 : Int64) (f4 q1 (q1 + q2)))), .second, .val (.long (f5 (0 : Int64) (f5 q1 (q1 + q2)))), .second, .val (.int 1), .unset, .unset, .unset, .unset, .unset, .unset, .unset]) rfl k) ?_
    refine Go.st (fun t k => XS.iload X32.here hx rfl (hb hby at_130) rfl k) ?_
    refine Go.st (fun t k => XS.ifNo X32.here hx rfl (hb hby at_132) rfl ((if0 _ _).trans (feq (by decide : ¬ ((1 : Int32) = (0 : Int32)))).1) k) ?_
    show Go _ _ _ (T32.setTop (mkF m 135 #[.val (.long q1), .second, .val (.long q2), .second, .val (.long q3), .second, .val (.int p4), .val (.int 1), .val (.ref b19), .val (.ref x7_0_23), .val (.ref x7_0_25), .val (.long (q1 + q2)), .second, .val (.long (f4 (0 : Int64) (f4 q1 (q1 + q2)))), .second, .val (.long (f5 (0 : Int64) (f5 q1 (q1 + q2)))), .second, .val (.int 1), .unset, .unset, .unset, .unset, .unset, .unset, .unset] [])) _
    refine Go.st (fun t k => XS.lload X32.here hx rfl (hb hby at_135) rfl k) ?_
    refine Go.st (fun t k => XS.goto X32.here hx rfl (pc0 := 137) (pc' := 142) rfl (hb hby at_137) (by decide) (by decide) k) ?_
    refine Go.st (fun t k => XS.lstore X32.here hx rfl (hb hby at_142) rfl (l' := #[.val (.long q1), .second, .val (.long q2), .second, .val (.long q3), .second, .val (.int p4), .val (.int 1), .val (.ref b19), .val (.ref x7_0_23), .val (.ref x7_0_25), .val (.long (q1 + q2)), .second, .val (.long (f4 (0 : Int64) (f4 q1 (q1 + q2)))), .second, .val (.long (f5 (0 : Int64) (f5 q1 (q1 + q2)))), .second, .val (.int 1), .val (.long q3), .second, .unset, .unset, .unset, .unset, .unset]) rfl k) ?_
    refine Go.st (fun t k => XS.iload X32.here hx rfl (hb hby at_144) rfl k) ?_
    refine Go.st (fun t k => XS.ifNo X32.here hx rfl (hb hby at_146) rfl ((if0 _ _).trans (feq (by decide : ¬ ((1 : Int32) = (0 : Int32)))).1) k) ?_
    show Go _ _ _ (T32.setTop (mkF m 149 #[.val (.long q1), .second, .val (.long q2), .second, .val (.long q3), .second, .val (.int p4), .val (.int 1), .val (.ref b19), .val (.ref x7_0_23), .val (.ref x7_0_25), .val (.long (q1 + q2)), .second, .val (.long (f4 (0 : Int64) (f4 q1 (q1 + q2)))), .second, .val (.long (f5 (0 : Int64) (f5 q1 (q1 + q2)))), .second, .val (.int 1), .val (.long q3), .second, .unset, .unset, .unset, .unset, .unset] [])) _
    refine Go.st (fun t k => XS.lload X32.here hx rfl (hb hby at_149) rfl k) ?_
    refine Go.st (fun t k => XS.lload X32.here hx rfl (hb hby at_151) rfl k) ?_
    obtain ⟨_, _, ⟨T33, L33, k33, n33⟩, -, X33, ⟨Lc33, hQ33, l33, y33, z33⟩, st33⟩ := Jvm.LawKit.callS X32 hx (y := (⟨"java/lang/Math", "max", "(JJ)J"⟩ : MethodName)) hown (mvT hZ (wd56 hw)) (mvT hZ (wd19 hw)) (mvT hZ (wd20 hw)) (mvT hZ (wd21 hw)) (by decide) (backOf (W := 0) (rm4 l Z a0 hw [] (q1 + q2) q3 h25 n0 Z0) hZ (wd21 hw) (wd20 hw) (by decide) (by decide)) (g := (mkF m 153 #[.val (.long q1), .second, .val (.long q2), .second, .val (.long q3), .second, .val (.int p4), .val (.int 1), .val (.ref b19), .val (.ref x7_0_23), .val (.ref x7_0_25), .val (.long (q1 + q2)), .second, .val (.long (f4 (0 : Int64) (f4 q1 (q1 + q2)))), .second, .val (.long (f5 (0 : Int64) (f5 q1 (q1 + q2)))), .second, .val (.int 1), .val (.long q3), .second, .unset, .unset, .unset, .unset, .unset] [(.long q3), (.long (q1 + q2))])) rfl (by rw [hml]; rfl) (argsL := [(.long (q1 + q2)), (.long q3)]) (rest := []) (lenOf pd1 rfl) rfl (by show 2 * 0 + _ ≤ _; exact Nat.le_of_eq rfl) (hb hby at_153) (fun _ _ => ⟨rfl, e32, (by decide : 3 + 0 ≤ _), (by decide : 9 + 0 ≤ _)⟩)
    dsimp only [Pt.U, Pt.locs, Pt.cells, Pt.slots] at X33 l33 y33 z33 st33 hQ33
    subst l33 y33 z33
    refine Go.st st33 ?_
    obtain ⟨rfl, N33q, e33⟩ := hQ33
    have N33 := Fr.app N32 N33q
    show Go _ _ _ (T33.setTop (mkF m 156 #[.val (.long q1), .second, .val (.long q2), .second, .val (.long q3), .second, .val (.int p4), .val (.int 1), .val (.ref b19), .val (.ref x7_0_23), .val (.ref x7_0_25), .val (.long (q1 + q2)), .second, .val (.long (f4 (0 : Int64) (f4 q1 (q1 + q2)))), .second, .val (.long (f5 (0 : Int64) (f5 q1 (q1 + q2)))), .second, .val (.int 1), .val (.long q3), .second, .unset, .unset, .unset, .unset, .unset] [(.long (f4 (q1 + q2) q3))])) _
    refine Go.st (fun t k => XS.goto X33.here hx rfl (pc0 := 156) (pc' := 161) rfl (hb hby at_156) (by decide) (by decide) k) ?_
    refine Go.st (fun t k => XS.lstore X33.here hx rfl (hb hby at_161) rfl (l' := #[.val (.long q1), .second, .val (.long q2), .second, .val (.long q3), .second, .val (.int p4), .val (.int 1), .val (.ref b19), .val (.ref x7_0_23), .val (.ref x7_0_25), .val (.long (q1 + q2)), .second, .val (.long (f4 (0 : Int64) (f4 q1 (q1 + q2)))), .second, .val (.long (f5 (0 : Int64) (f5 q1 (q1 + q2)))), .second, .val (.int 1), .val (.long q3), .second, .val (.long (f4 (q1 + q2) q3)), .second, .unset, .unset, .unset]) rfl k) ?_
    refine Go.st (fun t k => XS.iload X33.here hx rfl (hb hby at_163) rfl k) ?_
    refine Go.st (fun t k => XS.ifNo X33.here hx rfl (hb hby at_165) rfl ((if0 _ _).trans (feq (by decide : ¬ ((1 : Int32) = (0 : Int32)))).1) k) ?_
    show Go _ _ _ (T33.setTop (mkF m 168 #[.val (.long q1), .second, .val (.long q2), .second, .val (.long q3), .second, .val (.int p4), .val (.int 1), .val (.ref b19), .val (.ref x7_0_23), .val (.ref x7_0_25), .val (.long (q1 + q2)), .second, .val (.long (f4 (0 : Int64) (f4 q1 (q1 + q2)))), .second, .val (.long (f5 (0 : Int64) (f5 q1 (q1 + q2)))), .second, .val (.int 1), .val (.long q3), .second, .val (.long (f4 (q1 + q2) q3)), .second, .unset, .unset, .unset] [])) _
    refine Go.st (fun t k => XS.lload X33.here hx rfl (hb hby at_168) rfl k) ?_
    refine Go.st (fun t k => XS.lload X33.here hx rfl (hb hby at_170) rfl k) ?_
    obtain ⟨_, _, ⟨T34, L34, k34, n34⟩, -, X34, ⟨Lc34, hQ34, l34, y34, z34⟩, st34⟩ := Jvm.LawKit.callS X33 hx (y := (⟨"java/lang/Math", "min", "(JJ)J"⟩ : MethodName)) hown (mvT hZ (wd57 hw)) (mvT hZ (wd25 hw)) (mvT hZ (wd20 hw)) (mvT hZ (wd26 hw)) (by decide) (backOf (W := 0) (rm5 l Z a0 hw [] (q1 + q2) q3 h25 n0 Z0) hZ (wd26 hw) (wd20 hw) (by decide) (by decide)) (g := (mkF m 172 #[.val (.long q1), .second, .val (.long q2), .second, .val (.long q3), .second, .val (.int p4), .val (.int 1), .val (.ref b19), .val (.ref x7_0_23), .val (.ref x7_0_25), .val (.long (q1 + q2)), .second, .val (.long (f4 (0 : Int64) (f4 q1 (q1 + q2)))), .second, .val (.long (f5 (0 : Int64) (f5 q1 (q1 + q2)))), .second, .val (.int 1), .val (.long q3), .second, .val (.long (f4 (q1 + q2) q3)), .second, .unset, .unset, .unset] [(.long q3), (.long (q1 + q2))])) rfl (by rw [hml]; rfl) (argsL := [(.long (q1 + q2)), (.long q3)]) (rest := []) (lenOf pd1 rfl) rfl (by show 2 * 0 + _ ≤ _; exact Nat.le_of_eq rfl) (hb hby at_172) (fun _ _ => ⟨rfl, e33, (by decide : 3 + 0 ≤ _), (by decide : 9 + 0 ≤ _)⟩)
    dsimp only [Pt.U, Pt.locs, Pt.cells, Pt.slots] at X34 l34 y34 z34 st34 hQ34
    subst l34 y34 z34
    refine Go.st st34 ?_
    obtain ⟨rfl, N34q, e34⟩ := hQ34
    have N34 := Fr.app N33 N34q
    show Go _ _ _ (T34.setTop (mkF m 175 #[.val (.long q1), .second, .val (.long q2), .second, .val (.long q3), .second, .val (.int p4), .val (.int 1), .val (.ref b19), .val (.ref x7_0_23), .val (.ref x7_0_25), .val (.long (q1 + q2)), .second, .val (.long (f4 (0 : Int64) (f4 q1 (q1 + q2)))), .second, .val (.long (f5 (0 : Int64) (f5 q1 (q1 + q2)))), .second, .val (.int 1), .val (.long q3), .second, .val (.long (f4 (q1 + q2) q3)), .second, .unset, .unset, .unset] [(.long (f5 (q1 + q2) q3))])) _
    refine Go.st (fun t k => XS.goto X34.here hx rfl (pc0 := 175) (pc' := 180) rfl (hb hby at_175) (by decide) (by decide) k) ?_
    refine Go.st (fun t k => XS.lstore X34.here hx rfl (hb hby at_180) rfl (l' := #[.val (.long q1), .second, .val (.long q2), .second, .val (.long q3), .second, .val (.int p4), .val (.int 1), .val (.ref b19), .val (.ref x7_0_23), .val (.ref x7_0_25), .val (.long (q1 + q2)), .second, .val (.long (f4 (0 : Int64) (f4 q1 (q1 + q2)))), .second, .val (.long (f5 (0 : Int64) (f5 q1 (q1 + q2)))), .second, .val (.int 1), .val (.long q3), .second, .val (.long (f4 (q1 + q2) q3)), .second, .val (.long (f5 (q1 + q2) q3)), .second, .unset]) rfl k) ?_
    refine Go.st (fun t k => XS.aload X34.here hx rfl (hb hby at_182) rfl rfl k) ?_
    obtain ⟨cq35, kq35, q35a, q35b, q35c⟩ := isOf hZ e34 E_x7_0_25
    obtain ⟨_, _, ⟨T35, L35, k35, n35⟩, -, X35, ⟨Lc35, hQ35, l35, y35, z35⟩, st35⟩ := X34.virtualBack hx (y := (⟨"com/example/vantrell/vantrell/statistics/Gauge$Reading", "high", "()J"⟩ : MethodName)) (z := (⟨"com/example/vantrell/vantrell/statistics/Gauge$Reading", "high", "()J"⟩ : MethodName)) hown (mvT hZ (wd58 hw)) (mvT hZ (wd59 hw)) (notFace_of_selects (args := #[]) (mvT hZ (wd61 hw))) (mvT hZ (wd61 hw)) (mvT hZ (wd60 hw)) (by decide) (backOf (W := 0) (rm10 l Z a0 hw [] x7_0_25 (f4 (q1 + q2) q3) h25 n0 Z0 F_x7_0_25_high) hZ (wd62 hw) (wd40 hw) (by decide) (by decide)) q35a q35c (g := (mkF m 184 #[.val (.long q1), .second, .val (.long q2), .second, .val (.long q3), .second, .val (.int p4), .val (.int 1), .val (.ref b19), .val (.ref x7_0_23), .val (.ref x7_0_25), .val (.long (q1 + q2)), .second, .val (.long (f4 (0 : Int64) (f4 q1 (q1 + q2)))), .second, .val (.long (f5 (0 : Int64) (f5 q1 (q1 + q2)))), .second, .val (.int 1), .val (.long q3), .second, .val (.long (f4 (q1 + q2) q3)), .second, .val (.long (f5 (q1 + q2) q3)), .second, .unset] [(.ref x7_0_25)])) rfl (by rw [hml]; rfl) (Steps.refl _) (argsL := []) (rest := []) (lenOf pd5 rfl) rfl (by show 2 * 0 + _ ≤ _; exact Nat.le_of_eq rfl) (hb hby at_184) (fun _ _ => ⟨rfl, e34, (by decide : 3 + 0 ≤ _), (by decide : 9 + 0 ≤ _)⟩)
    dsimp only [Pt.U, Pt.locs, Pt.cells, Pt.slots] at X35 l35 y35 z35 st35 hQ35
    subst l35 y35 z35
    refine Go.tr st35 ?_
    obtain ⟨rfl, N35q, e35⟩ := hQ35
    have N35 := Fr.app N34 N35q
    show Go _ _ _ (T35.setTop (mkF m 187 #[.val (.long q1), .second, .val (.long q2), .second, .val (.long q3), .second, .val (.int p4), .val (.int 1), .val (.ref b19), .val (.ref x7_0_23), .val (.ref x7_0_25), .val (.long (q1 + q2)), .second, .val (.long (f4 (0 : Int64) (f4 q1 (q1 + q2)))), .second, .val (.long (f5 (0 : Int64) (f5 q1 (q1 + q2)))), .second, .val (.int 1), .val (.long q3), .second, .val (.long (f4 (q1 + q2) q3)), .second, .val (.long (f5 (q1 + q2) q3)), .second, .unset] [(.long (f4 (q1 + q2) q3))])) _
    refine Go.st (fun t k => XS.lload X35.here hx rfl (hb hby at_187) rfl k) ?_
    refine Go.st (fun t k => XS.lcmp X35.here hx rfl (hb hby at_189) rfl k) ?_
    show Go _ _ _ (T35.setTop (mkF m 190 #[.val (.long q1), .second, .val (.long q2), .second, .val (.long q3), .second, .val (.int p4), .val (.int 1), .val (.ref b19), .val (.ref x7_0_23), .val (.ref x7_0_25), .val (.long (q1 + q2)), .second, .val (.long (f4 (0 : Int64) (f4 q1 (q1 + q2)))), .second, .val (.long (f5 (0 : Int64) (f5 q1 (q1 + q2)))), .second, .val (.int 1), .val (.long q3), .second, .val (.long (f4 (q1 + q2) q3)), .second, .val (.long (f5 (q1 + q2) q3)), .second, .unset] [(.int (lcmpW (f4 (q1 + q2) q3) (f4 (q1 + q2) q3)))])) _
    refine Go.st (fun t k => XS.ifNo X35.here hx rfl (hb hby at_190) rfl ((if0 _ _).trans (teq ((lw_eq (f4 (q1 + q2) q3) (f4 (q1 + q2) q3)).mpr (rfl : (f4 (q1 + q2) q3) = (f4 (q1 + q2) q3)))).2) k) ?_
    show Go _ _ _ (T35.setTop (mkF m 193 #[.val (.long q1), .second, .val (.long q2), .second, .val (.long q3), .second, .val (.int p4), .val (.int 1), .val (.ref b19), .val (.ref x7_0_23), .val (.ref x7_0_25), .val (.long (q1 + q2)), .second, .val (.long (f4 (0 : Int64) (f4 q1 (q1 + q2)))), .second, .val (.long (f5 (0 : Int64) (f5 q1 (q1 + q2)))), .second, .val (.int 1), .val (.long q3), .second, .val (.long (f4 (q1 + q2) q3)), .second, .val (.long (f5 (q1 + q2) q3)), .second, .unset] [])) _
    refine Go.st (fun t k => XS.aload X35.here hx rfl (hb hby at_193) rfl rfl k) ?_
    obtain ⟨cq36, kq36, q36a, q36b, q36c⟩ := isOf hZ e35 E_x7_0_25
    obtain ⟨_, _, ⟨T36, L36, k36, n36⟩, -, X36, ⟨Lc36, hQ36, l36, y36, z36⟩, st36⟩ := X35.virtualBack hx (y := (⟨"com/example/vantrell/vantrell/statistics/Gauge$Reading", "low", "()J"⟩ : MethodName)) (z := (⟨"com/example/vantrell/vantrell/statistics/Gauge$Reading", "low", "()J"⟩ : MethodName)) hown (mvT hZ (wd63 hw)) (mvT hZ (wd64 hw)) (notFace_of_selects (args := #[]) (mvT hZ (wd66 hw))) (mvT hZ (wd66 hw)) (mvT hZ (wd65 hw)) (by decide) (backOf (W := 0) (rm11 l Z a0 hw [] x7_0_25 (f5 (q1 + q2) q3) h25 n0 Z0 F_x7_0_25_low) hZ (wd67 hw) (wd40 hw) (by decide) (by decide)) q36a q36c (g := (mkF m 195 #[.val (.long q1), .second, .val (.long q2), .second, .val (.long q3), .second, .val (.int p4), .val (.int 1), .val (.ref b19), .val (.ref x7_0_23), .val (.ref x7_0_25), .val (.long (q1 + q2)), .second, .val (.long (f4 (0 : Int64) (f4 q1 (q1 + q2)))), .second, .val (.long (f5 (0 : Int64) (f5 q1 (q1 + q2)))), .second, .val (.int 1), .val (.long q3), .second, .val (.long (f4 (q1 + q2) q3)), .second, .val (.long (f5 (q1 + q2) q3)), .second, .unset] [(.ref x7_0_25)])) rfl (by rw [hml]; rfl) (Steps.refl _) (argsL := []) (rest := []) (lenOf pd5 rfl) rfl (by show 2 * 0 + _ ≤ _; exact Nat.le_of_eq rfl) (hb hby at_195) (fun _ _ => ⟨rfl, e35, (by decide : 3 + 0 ≤ _), (by decide : 9 + 0 ≤ _)⟩)
    dsimp only [Pt.U, Pt.locs, Pt.cells, Pt.slots] at X36 l36 y36 z36 st36 hQ36
    subst l36 y36 z36
    refine Go.tr st36 ?_
    obtain ⟨rfl, N36q, e36⟩ := hQ36
    have N36 := Fr.app N35 N36q
    show Go _ _ _ (T36.setTop (mkF m 198 #[.val (.long q1), .second, .val (.long q2), .second, .val (.long q3), .second, .val (.int p4), .val (.int 1), .val (.ref b19), .val (.ref x7_0_23), .val (.ref x7_0_25), .val (.long (q1 + q2)), .second, .val (.long (f4 (0 : Int64) (f4 q1 (q1 + q2)))), .second, .val (.long (f5 (0 : Int64) (f5 q1 (q1 + q2)))), .second, .val (.int 1), .val (.long q3), .second, .val (.long (f4 (q1 + q2) q3)), .second, .val (.long (f5 (q1 + q2) q3)), .second, .unset] [(.long (f5 (q1 + q2) q3))])) _
    refine Go.st (fun t k => XS.lload X36.here hx rfl (hb hby at_198) rfl k) ?_
    refine Go.st (fun t k => XS.lcmp X36.here hx rfl (hb hby at_200) rfl k) ?_
    show Go _ _ _ (T36.setTop (mkF m 201 #[.val (.long q1), .second, .val (.long q2), .second, .val (.long q3), .second, .val (.int p4), .val (.int 1), .val (.ref b19), .val (.ref x7_0_23), .val (.ref x7_0_25), .val (.long (q1 + q2)), .second, .val (.long (f4 (0 : Int64) (f4 q1 (q1 + q2)))), .second, .val (.long (f5 (0 : Int64) (f5 q1 (q1 + q2)))), .second, .val (.int 1), .val (.long q3), .second, .val (.long (f4 (q1 + q2) q3)), .second, .val (.long (f5 (q1 + q2) q3)), .second, .unset] [(.int (lcmpW (f5 (q1 + q2) q3) (f5 (q1 + q2) q3)))])) _
    refine Go.st (fun t k => XS.ifNo X36.here hx rfl (hb hby at_201) rfl ((if0 _ _).trans (teq ((lw_eq (f5 (q1 + q2) q3) (f5 (q1 + q2) q3)).mpr (rfl : (f5 (q1 + q2) q3) = (f5 (q1 + q2) q3)))).2) k) ?_
    show Go _ _ _ (T36.setTop (mkF m 204 #[.val (.long q1), .second, .val (.long q2), .second, .val (.long q3), .second, .val (.int p4), .val (.int 1), .val (.ref b19), .val (.ref x7_0_23), .val (.ref x7_0_25), .val (.long (q1 + q2)), .second, .val (.long (f4 (0 : Int64) (f4 q1 (q1 + q2)))), .second, .val (.long (f5 (0 : Int64) (f5 q1 (q1 + q2)))), .second, .val (.int 1), .val (.long q3), .second, .val (.long (f4 (q1 + q2) q3)), .second, .val (.long (f5 (q1 + q2) q3)), .second, .unset] [])) _
    refine Go.st (fun t k => XS.aload X36.here hx rfl (hb hby at_204) rfl rfl k) ?_
    obtain ⟨cq37, kq37, q37a, q37b, q37c⟩ := isOf hZ e36 E_x7_0_25
    obtain ⟨_, _, ⟨T37, L37, k37, n37⟩, -, X37, ⟨Lc37, hQ37, l37, y37, z37⟩, st37⟩ := X36.virtualBack hx (y := (⟨"com/example/vantrell/vantrell/statistics/Gauge$Reading", "current", "()J"⟩ : MethodName)) (z := (⟨"com/example/vantrell/vantrell/statistics/Gauge$Reading", "current", "()J"⟩ : MethodName)) hown (mvT hZ (wd68 hw)) (mvT hZ (wd69 hw)) (notFace_of_selects (args := #[]) (mvT hZ (wd71 hw))) (mvT hZ (wd71 hw)) (mvT hZ (wd70 hw)) (by decide) (backOf (W := 0) (rm12 l Z a0 hw [] x7_0_25 q3 h25 n0 Z0 F_x7_0_25_current) hZ (wd72 hw) (wd40 hw) (by decide) (by decide)) q37a q37c (g := (mkF m 206 #[.val (.long q1), .second, .val (.long q2), .second, .val (.long q3), .second, .val (.int p4), .val (.int 1), .val (.ref b19), .val (.ref x7_0_23), .val (.ref x7_0_25), .val (.long (q1 + q2)), .second, .val (.long (f4 (0 : Int64) (f4 q1 (q1 + q2)))), .second, .val (.long (f5 (0 : Int64) (f5 q1 (q1 + q2)))), .second, .val (.int 1), .val (.long q3), .second, .val (.long (f4 (q1 + q2) q3)), .second, .val (.long (f5 (q1 + q2) q3)), .second, .unset] [(.ref x7_0_25)])) rfl (by rw [hml]; rfl) (Steps.refl _) (argsL := []) (rest := []) (lenOf pd5 rfl) rfl (by show 2 * 0 + _ ≤ _; exact Nat.le_of_eq rfl) (hb hby at_206) (fun _ _ => ⟨rfl, e36, (by decide : 3 + 0 ≤ _), (by decide : 9 + 0 ≤ _)⟩)
    dsimp only [Pt.U, Pt.locs, Pt.cells, Pt.slots] at X37 l37 y37 z37 st37 hQ37
    subst l37 y37 z37
    refine Go.tr st37 ?_
    obtain ⟨rfl, N37q, e37⟩ := hQ37
    have N37 := Fr.app N36 N37q
    show Go _ _ _ (T37.setTop (mkF m 209 #[.val (.long q1), .second, .val (.long q2), .second, .val (.long q3), .second, .val (.int p4), .val (.int 1), .val (.ref b19), .val (.ref x7_0_23), .val (.ref x7_0_25), .val (.long (q1 + q2)), .second, .val (.long (f4 (0 : Int64) (f4 q1 (q1 + q2)))), .second, .val (.long (f5 (0 : Int64) (f5 q1 (q1 + q2)))), .second, .val (.int 1), .val (.long q3), .second, .val (.long (f4 (q1 + q2) q3)), .second, .val (.long (f5 (q1 + q2) q3)), .second, .unset] [(.long q3)])) _
    refine Go.st (fun t k => XS.lload X37.here hx rfl (hb hby at_209) rfl k) ?_
    refine Go.st (fun t k => XS.lcmp X37.here hx rfl (hb hby at_211) rfl k) ?_
    show Go _ _ _ (T37.setTop (mkF m 212 #[.val (.long q1), .second, .val (.long q2), .second, .val (.long q3), .second, .val (.int p4), .val (.int 1), .val (.ref b19), .val (.ref x7_0_23), .val (.ref x7_0_25), .val (.long (q1 + q2)), .second, .val (.long (f4 (0 : Int64) (f4 q1 (q1 + q2)))), .second, .val (.long (f5 (0 : Int64) (f5 q1 (q1 + q2)))), .second, .val (.int 1), .val (.long q3), .second, .val (.long (f4 (q1 + q2) q3)), .second, .val (.long (f5 (q1 + q2) q3)), .second, .unset] [(.int (lcmpW q3 q3))])) _
    refine Go.st (fun t k => XS.ifNo X37.here hx rfl (hb hby at_212) rfl ((if0 _ _).trans (teq ((lw_eq q3 q3).mpr (rfl : q3 = q3))).2) k) ?_
    show Go _ _ _ (T37.setTop (mkF m 215 #[.val (.long q1), .second, .val (.long q2), .second, .val (.long q3), .second, .val (.int p4), .val (.int 1), .val (.ref b19), .val (.ref x7_0_23), .val (.ref x7_0_25), .val (.long (q1 + q2)), .second, .val (.long (f4 (0 : Int64) (f4 q1 (q1 + q2)))), .second, .val (.long (f5 (0 : Int64) (f5 q1 (q1 + q2)))), .second, .val (.int 1), .val (.long q3), .second, .val (.long (f4 (q1 + q2) q3)), .second, .val (.long (f5 (q1 + q2) q3)), .second, .unset] [])) _
    refine Go.st (fun t k => XS.iconst X37.here hx rfl (hb hby at_215) k) ?_
    refine Go.st (fun t k => XS.goto X37.here hx rfl (pc0 := 216) (pc' := 220) rfl (hb hby at_216) (by decide) (by decide) k) ?_
    refine Go.st (fun t k => XS.istore X37.here hx rfl (hb hby at_220) rfl (l' := #[.val (.long q1), .second, .val (.long q2), .second, .val (.long q3), .second, .val (.int p4), .val (.int 1), .val (.ref b19), .val (.ref x7_0_23), .val (.ref x7_0_25), .val (.long (q1 + q2)), .second, .val (.long (f4 (0 : Int64) (f4 q1 (q1 + q2)))), .second, .val (.long (f5 (0 : Int64) (f5 q1 (q1 + q2)))), .second, .val (.int 1), .val (.long q3), .second, .val (.long (f4 (q1 + q2) q3)), .second, .val (.long (f5 (q1 + q2) q3)), .second, .val (.int 1)]) rfl k) ?_
    refine Go.st (fun t k => XS.iload X37.here hx rfl (hb hby at_222) rfl k) ?_
    refine Go.st (fun t k => XS.ifNo X37.here hx rfl (hb hby at_224) rfl ((if0 _ _).trans (feq (by decide : ¬ ((1 : Int32) = (0 : Int32)))).1) k) ?_
    show Go _ _ _ (T37.setTop (mkF m 227 #[.val (.long q1), .second, .val (.long q2), .second, .val (.long q3), .second, .val (.int p4), .val (.int 1), .val (.ref b19), .val (.ref x7_0_23), .val (.ref x7_0_25), .val (.long (q1 + q2)), .second, .val (.long (f4 (0 : Int64) (f4 q1 (q1 + q2)))), .second, .val (.long (f5 (0 : Int64) (f5 q1 (q1 + q2)))), .second, .val (.int 1), .val (.long q3), .second, .val (.long (f4 (q1 + q2) q3)), .second, .val (.long (f5 (q1 + q2) q3)), .second, .val (.int 1)] [])) _
    refine Go.st (fun t k => XS.iload X37.here hx rfl (hb hby at_227) rfl k) ?_
    refine Go.st (fun t k => XS.ifNo X37.here hx rfl (hb hby at_229) rfl ((if0 _ _).trans (feq (by decide : ¬ ((1 : Int32) = (0 : Int32)))).1) k) ?_
    show Go _ _ _ (T37.setTop (mkF m 232 #[.val (.long q1), .second, .val (.long q2), .second, .val (.long q3), .second, .val (.int p4), .val (.int 1), .val (.ref b19), .val (.ref x7_0_23), .val (.ref x7_0_25), .val (.long (q1 + q2)), .second, .val (.long (f4 (0 : Int64) (f4 q1 (q1 + q2)))), .second, .val (.long (f5 (0 : Int64) (f5 q1 (q1 + q2)))), .second, .val (.int 1), .val (.long q3), .second, .val (.long (f4 (q1 + q2) q3)), .second, .val (.long (f5 (q1 + q2) q3)), .second, .val (.int 1)] [])) _
    refine Go.st (fun t k => XS.aload X37.here hx rfl (hb hby at_232) rfl rfl k) ?_
    obtain ⟨cq38, kq38, q38a, q38b, q38c⟩ := isOf hZ e37 E_b19
    obtain ⟨_, _, ⟨T38, L38, k38, n38⟩, -, X38, ⟨Lc38, hQ38, l38, y38, z38⟩, st38⟩ := X37.virtualBack hx (y := (⟨"com/example/vantrell/vantrell/statistics/Gauge", "current", "()J"⟩ : MethodName)) (z := (⟨"com/example/vantrell/vantrell/statistics/Gauge", "current", "()J"⟩ : MethodName)) hown (mvT hZ (wd73 hw)) (mvT hZ (wd74 hw)) (notFace_of_selects (args := #[]) (mvT hZ (wd76 hw))) (mvT hZ (wd76 hw)) (mvT hZ (wd75 hw)) (by decide) (backOf (W := 0) (rm13 l Z a0 hw [] b19 q3 h25 n0 Z0 F_b19_current) hZ (wd77 hw) (wd2 hw) (by decide) (by decide)) q38a q38c (g := (mkF m 234 #[.val (.long q1), .second, .val (.long q2), .second, .val (.long q3), .second, .val (.int p4), .val (.int 1), .val (.ref b19), .val (.ref x7_0_23), .val (.ref x7_0_25), .val (.long (q1 + q2)), .second, .val (.long (f4 (0 : Int64) (f4 q1 (q1 + q2)))), .second, .val (.long (f5 (0 : Int64) (f5 q1 (q1 + q2)))), .second, .val (.int 1), .val (.long q3), .second, .val (.long (f4 (q1 + q2) q3)), .second, .val (.long (f5 (q1 + q2) q3)), .second, .val (.int 1)] [(.ref b19)])) rfl (by rw [hml]; rfl) (Steps.refl _) (argsL := []) (rest := []) (lenOf pd5 rfl) rfl (by show 2 * 0 + _ ≤ _; exact Nat.le_of_eq rfl) (hb hby at_234) (fun _ _ => ⟨rfl, e37, (by decide : 3 + 0 ≤ _), (by decide : 9 + 0 ≤ _)⟩)
    dsimp only [Pt.U, Pt.locs, Pt.cells, Pt.slots] at X38 l38 y38 z38 st38 hQ38
    subst l38 y38 z38
    refine Go.tr st38 ?_
    obtain ⟨rfl, N38q, e38⟩ := hQ38
    have N38 := Fr.app N37 N38q
    show Go _ _ _ (T38.setTop (mkF m 237 #[.val (.long q1), .second, .val (.long q2), .second, .val (.long q3), .second, .val (.int p4), .val (.int 1), .val (.ref b19), .val (.ref x7_0_23), .val (.ref x7_0_25), .val (.long (q1 + q2)), .second, .val (.long (f4 (0 : Int64) (f4 q1 (q1 + q2)))), .second, .val (.long (f5 (0 : Int64) (f5 q1 (q1 + q2)))), .second, .val (.int 1), .val (.long q3), .second, .val (.long (f4 (q1 + q2) q3)), .second, .val (.long (f5 (q1 + q2) q3)), .second, .val (.int 1)] [(.long q3)])) _
    refine Go.st (fun t k => XS.lload X38.here hx rfl (hb hby at_237) rfl k) ?_
    refine Go.st (fun t k => XS.lcmp X38.here hx rfl (hb hby at_239) rfl k) ?_
    show Go _ _ _ (T38.setTop (mkF m 240 #[.val (.long q1), .second, .val (.long q2), .second, .val (.long q3), .second, .val (.int p4), .val (.int 1), .val (.ref b19), .val (.ref x7_0_23), .val (.ref x7_0_25), .val (.long (q1 + q2)), .second, .val (.long (f4 (0 : Int64) (f4 q1 (q1 + q2)))), .second, .val (.long (f5 (0 : Int64) (f5 q1 (q1 + q2)))), .second, .val (.int 1), .val (.long q3), .second, .val (.long (f4 (q1 + q2) q3)), .second, .val (.long (f5 (q1 + q2) q3)), .second, .val (.int 1)] [(.int (lcmpW q3 q3))])) _
    refine Go.st (fun t k => XS.ifNo X38.here hx rfl (hb hby at_240) rfl ((if0 _ _).trans (teq ((lw_eq q3 q3).mpr (rfl : q3 = q3))).2) k) ?_
    show Go _ _ _ (T38.setTop (mkF m 243 #[.val (.long q1), .second, .val (.long q2), .second, .val (.long q3), .second, .val (.int p4), .val (.int 1), .val (.ref b19), .val (.ref x7_0_23), .val (.ref x7_0_25), .val (.long (q1 + q2)), .second, .val (.long (f4 (0 : Int64) (f4 q1 (q1 + q2)))), .second, .val (.long (f5 (0 : Int64) (f5 q1 (q1 + q2)))), .second, .val (.int 1), .val (.long q3), .second, .val (.long (f4 (q1 + q2) q3)), .second, .val (.long (f5 (q1 + q2) q3)), .second, .val (.int 1)] [])) _
    refine Go.st (fun t k => XS.iconst X38.here hx rfl (hb hby at_243) k) ?_
    refine Go.st (fun t k => XS.goto X38.here hx rfl (pc0 := 244) (pc' := 248) rfl (hb hby at_244) (by decide) (by decide) k) ?_
    obtain ⟨fs, hr, hrun, hended, hW, hsame⟩ := X38.leave (v := some (.int (1 : Int32))) (fun h => by rw [Bd.returns] at h; cases h)
    refine Go.fin (retN X38 hx (t := .boolean) Bd.returns (by simp) (hb hby at_248) hr) hrun hended ⟨_, _, rfl, ?_, ⟨_, rfl⟩, hW, hsame.mono (by decide) (by decide)⟩
    show Q0 Z q1 q2 q3 p4 h0 n0 _ T38.heap _
    rw [e38]
    exact ⟨rfl, N38⟩
set_option maxRecDepth 65536 in
set_option maxHeartbeats 40000000 in
theorem comes_1 {Post : Tables → Env → Array Value → State → Outcome → State → Prop} (hpost : ∀ tb e args s v u, (limb_1_1.after args s (.returned v) u = true ∧ limb_1_2.after args s (.returned v) u = true ∧ True) → FrameEnd s (.returned v) u (Jvm.fieldLocs frame_1_writes args s ++ Jvm.arrayLocs frame_1_arrays args s ++ Jvm.staticLocs frame_1_statics s) 16 128 → Post tb e args s (.returned v) u) :
    ArmFor flags0 classFile x code maxLocals ret World_1 tables_1 room_1 Calls_1 rest_1 Pre_1 Post := by
  intro l hfl _ _ p e ha hc hk s m args below hf hA hF happ hP
  obtain ⟨hcalls, hrest, hpre⟩ := hP
  obtain ⟨-, -, -, hnamed, -, -, -, hat⟩ := (Spec.applies_iff hf).mp happ
  obtain ⟨hg, hn⟩ := and_e (Cond.before_iff.mp (show (Jvm.Cond.and given_1 narrow_1).before args s = true from hpre))
  obtain ⟨g1, g2⟩ := and_e hg
  obtain ⟨g3, g4⟩ := and_e g2
  obtain ⟨g5, g6⟩ := and_e g4
  obtain ⟨g7, g8⟩ := and_e g6
  obtain ⟨w0, w1, w2, w3, rfl⟩ : ∃ w0 w1 w2 w3 : Value, args = #[w0, w1, w2, w3] := by
    have hs : args.size = 4 := by simpa [Cond.value, given_1] using g1
    obtain ⟨L⟩ := args
    match L, hs with
    | [w0, w1, w2, w3], _ => exact ⟨w0, w1, w2, w3, rfl⟩
  have hw := fun d (hd : d ∈ tables_1) => atoms_spec (ws := Jvm.Cond.code x code maxLocals ret :: tables_1) hat d (List.mem_cons_of_mem _ hd)
  have hfit : Fit s := fun {y c} hc i hi => by
    obtain ⟨ha, rfl⟩ := Array.getElem?_eq_some_iff.mp hc
    have q := List.all_eq_true.mp ((Array.all_eq_true_iff_forall_mem.mp hF) _ (Array.getElem_mem ha)) i (List.mem_range.mpr hi)
    simpa [Array.getElem?_eq_getElem hi] using q
  obtain ⟨i0, ei0⟩ := isL_v g3
  obtain rfl : w0 = (.long i0) := Option.some.inj ei0
  obtain ⟨i1, ei1⟩ := isL_v g5
  obtain rfl : w1 = (.long i1) := Option.some.inj ei1
  obtain ⟨i2, ei2⟩ := isL_v g7
  obtain rfl : w2 = (.long i2) := Option.some.inj ei2
  obtain ⟨i3, ei3⟩ := is_v g8
  obtain rfl : w3 = (.int i3) := Option.some.inj ei3
  have hplain := trivial
  obtain ⟨n, o, h1, h2, h3, _, L, rfl, ⟨rfl, N⟩, hq⟩ := rm0 l s _ hw tables_1 i0 i1 i2 i3 s.heap s.heap.size (Nat.le_refl _)  p e ha hc hk s m _ below hf ((Spec.applies_iff_loose hf).mp happ).1 ⟨rfl, State.Warmed39.refl s, rfl⟩ trivial
  refine ⟨n, _, h1, h2, h3, hpost _ _ _ _ _ _ ⟨Cond.after_iff.mpr rfl, Cond.after_iff.mpr (eq_i res_at (Term.int_eval (1)) rfl), trivial⟩ ⟨hq.1, hq.2.1, (hq.2.2.sift fun y hy => Or.inr (N y hy)).mono (by decide) (by decide)⟩⟩
theorem main_1_1 : Claimed_1_1 := comes_1 fun _ _ _ _ _ _ h hF => ⟨h.1, hF⟩
theorem main_1_2 : Claimed_1_2 := comes_1 fun _ _ _ _ _ _ h hF => ⟨h.2.1, hF⟩
end Jvm.Pilot.@@N@@
namespace Jvm.Pilot.@@N@@
open Jvm Jvm.ClassFile Sem Op Lib Jvm.Free Jvm.Stand Jvm.Pilot.@@N@@.Jvm.D
/-! MADE BY PROGRAM (witnessworld.py) out of the Statement's table words and the real class files: 10 classes; the members and pool entries that the words name. The judged class is class 1, her method 1. -/
namespace start1
open Jvm.ClassFile
def u (s : String) : CpInfo := .utf8 (stringToUtf16 s)
/-- a pool by its gaps: so many unusable entries, then the entry; so many at the end -/
def gap : Nat → List CpInfo → List CpInfo
  | 0, r => r
  | n + 1, r => .unusable :: gap n r
def poolList (es : List (Nat × CpInfo)) (last : Nat) : List CpInfo := es.foldr (fun e r => gap e.1 (e.2 :: r)) (gap last [])
def pool (es : List (Nat × CpInfo)) (last : Nat) : Array CpInfo := ⟨poolList es last⟩
def fileOf (pool : Array CpInfo) (this : Nat) (attrs : Array Attribute := #[]) (ms : Array MethodInfo := #[]) (fl : Nat := 33) (sup : Nat := 0) (ifs : Array Nat := #[]) (fds : Array FieldInfo := #[]) : ClassFile where
  minorVersion := 0
  majorVersion := 65
  constantPool := pool
  accessFlags := fl
  thisClass := this
  superClass := sup
  interfaces := ifs
  fields := fds
  methods := ms
  attributes := attrs
def plain (name : String) (sup : Option ClassId) : Class where
  name := name
  kind := .ordinary
  loader := none
  accessFlags := 33
  super := sup
  interfaces := #[]
  cf := none
  fields := #[]
  methods := #[]
  instanceTypes := #[]
  staticTypes := #[]
  resolved := #[]
  callSites := []
  init := .initialized
  statics := none
  mirror := none

def pool0 : Array CpInfo := pool [(5, u "<init>"), (0, u "()V"), (1, .class_ 10), (1, u "java/lang/Object")] 113

def k0c0 : Code := { maxStack := 0, maxLocals := 1, code := object_method_1_code, exceptionTable := #[], attributes := #[] }
def k0m0 : Method := { name := "<init>", desc := "()V", sig := { parameters := [], returnType := none }, accessFlags := 1, code := some k0c0 }
/-- java/lang/Object -/
def k0 : Class := { plain "java/lang/Object" none with
  accessFlags := 33
  interfaces := #[]
  cf := some (fileOf pool0 8 #[] #[{ accessFlags := 1, nameIndex := 5, descriptorIndex := 6, attributes := #[] }] 33 0 #[] #[])
  fields := #[]
  methods := #[k0m0]
  instanceTypes := #[]
  staticTypes := #[]
  resolved := Array.replicate 124 none
  statics := none }

def pool1 : Array CpInfo := pool [(2, .class_ 4), (0, .nameAndType 5 6), (0, u "java/lang/Object"), (0, u "<init>"), (0, u "()V"), (0, .class_ 8), (0, u "com/example/vantrell/vantrell/statistics/Gauge"), (0, .methodref 7 3), (0, .methodref 7 11), (0, .nameAndType 12 13), (0, u "set"), (0, u "(J)V"), (0, .methodref 7 15), (0, .nameAndType 16 13), (0, u "add"), (0, .methodref 7 18), (0, .nameAndType 19 20), (0, u "read"), (0, u "()Lcom/example/vantrell/vantrell/statistics/Gauge$Reading;"), (0, .methodref 22 23), (0, .class_ 24), (0, .nameAndType 25 26), (0, u "java/lang/Math"), (0, u "max"), (0, u "(JJ)J"), (0, .methodref 22 28), (0, .nameAndType 29 26), (0, u "min"), (0, .methodref 31 32), (0, .class_ 33), (0, .nameAndType 34 35), (0, u "com/example/vantrell/vantrell/statistics/Gauge$Reading"), (0, u "high"), (0, u "()J"), (0, .methodref 31 37), (0, .nameAndType 38 35), (0, u "low"), (0, .methodref 31 40), (0, .nameAndType 41 35), (0, u "current"), (0, .methodref 7 40), (0, .class_ 44), (0, u "com/example/vantrell/vantrell/statistics/GaugeReadPinLaw"), (2, u "law"), (0, u "(JJJI)Z")] 5

def k1m0 : Method := { name := "<init>", desc := "()V", sig := { parameters := [], returnType := none }, accessFlags := 1, code := none }
def k1c1 : Code := { maxStack := 6, maxLocals := 25, code := code, exceptionTable := #[], attributes := #[] }
def k1m1 : Method := { name := "law", desc := "(JJJI)Z", sig := { parameters := [.long, .long, .long, .int], returnType := some .boolean }, accessFlags := 9, code := some k1c1 }
/-- com/example/vantrell/vantrell/statistics/GaugeReadPinLaw -/
def k1 : Class := { plain "com/example/vantrell/vantrell/statistics/GaugeReadPinLaw" (some 0) with
  accessFlags := 49
  interfaces := #[]
  cf := some (fileOf pool1 43 #[] #[{ accessFlags := 1, nameIndex := 5, descriptorIndex := 6, attributes := #[] }, { accessFlags := 9, nameIndex := 47, descriptorIndex := 48, attributes := #[] }] 49 2 #[] #[])
  fields := #[]
  methods := #[k1m0, k1m1]
  instanceTypes := #[]
  staticTypes := #[]
  resolved := Array.replicate 54 none
  statics := none }

def pool2 : Array CpInfo := pool [(1, .methodref 2 3), (0, .class_ 4), (0, .nameAndType 5 6), (0, u "java/lang/Object"), (0, u "<init>"), (0, u "()V"), (0, .fieldref 8 9), (0, .class_ 10), (0, .nameAndType 11 12), (0, u "com/example/vantrell/vantrell/statistics/Gauge"), (0, u "current"), (0, u "J"), (0, .methodref 8 14), (0, .nameAndType 15 16), (0, u "set"), (0, u "(J)V"), (0, .fieldref 8 18), (0, .nameAndType 19 12), (0, u "high"), (0, .methodref 21 22), (0, .class_ 23), (0, .nameAndType 24 25), (0, u "java/lang/Math"), (0, u "max"), (0, u "(JJ)J"), (0, .fieldref 8 27), (0, .nameAndType 28 12), (0, u "low"), (0, .methodref 21 30), (0, .nameAndType 31 25), (0, u "min"), (0, .class_ 33), (0, u "com/example/vantrell/vantrell/statistics/Gauge$Reading"), (0, .methodref 32 35), (0, .nameAndType 5 36), (0, u "(JJJ)V"), (2, u "()J"), (0, u "add"), (0, u "read"), (0, u "()Lcom/example/vantrell/vantrell/statistics/Gauge$Reading;")] 5

def k2c0 : Code := { maxStack := 1, maxLocals := 1, code := prog_37_method_1_code, exceptionTable := #[], attributes := #[] }
def k2m0 : Method := { name := "<init>", desc := "()V", sig := { parameters := [], returnType := none }, accessFlags := 1, code := some k2c0 }
def k2c1 : Code := { maxStack := 2, maxLocals := 1, code := prog_37_method_2_code, exceptionTable := #[], attributes := #[] }
def k2m1 : Method := { name := "current", desc := "()J", sig := { parameters := [], returnType := some .long }, accessFlags := 1, code := some k2c1 }
def k2c2 : Code := { maxStack := 5, maxLocals := 3, code := prog_37_method_3_code, exceptionTable := #[], attributes := #[] }
def k2m2 : Method := { name := "add", desc := "(J)V", sig := { parameters := [.long], returnType := none }, accessFlags := 1, code := some k2c2 }
def k2c3 : Code := { maxStack := 5, maxLocals := 3, code := prog_37_method_4_code, exceptionTable := #[], attributes := #[] }
def k2m3 : Method := { name := "set", desc := "(J)V", sig := { parameters := [.long], returnType := none }, accessFlags := 1, code := some k2c3 }
def k2c4 : Code := { maxStack := 8, maxLocals := 2, code := prog_37_method_5_code, exceptionTable := #[], attributes := #[] }
def k2m4 : Method := { name := "read", desc := "()Lcom/example/vantrell/vantrell/statistics/Gauge$Reading;", sig := { parameters := [], returnType := some (.object "com/example/vantrell/vantrell/statistics/Gauge$Reading") }, accessFlags := 1, code := some k2c4 }
/-- com/example/vantrell/vantrell/statistics/Gauge -/
def k2 : Class := { plain "com/example/vantrell/vantrell/statistics/Gauge" (some 0) with
  accessFlags := 49
  interfaces := #[]
  cf := some (fileOf pool2 8 #[.nestMembers #[32]] #[{ accessFlags := 1, nameIndex := 5, descriptorIndex := 6, attributes := #[] }, { accessFlags := 1, nameIndex := 11, descriptorIndex := 39, attributes := #[] }, { accessFlags := 1, nameIndex := 40, descriptorIndex := 16, attributes := #[] }, { accessFlags := 1, nameIndex := 15, descriptorIndex := 16, attributes := #[] }, { accessFlags := 1, nameIndex := 41, descriptorIndex := 42, attributes := #[] }] 49 2 #[] #[{ accessFlags := 2, nameIndex := 11, descriptorIndex := 12, attributes := #[] }, { accessFlags := 2, nameIndex := 19, descriptorIndex := 12, attributes := #[] }, { accessFlags := 2, nameIndex := 28, descriptorIndex := 12, attributes := #[] }])
  fields := #[{ name := "current", type := .long, accessFlags := 2, slot := 0, constantValue := 0 }, { name := "high", type := .long, accessFlags := 2, slot := 1, constantValue := 0 }, { name := "low", type := .long, accessFlags := 2, slot := 2, constantValue := 0 }]
  methods := #[k2m0, k2m1, k2m2, k2m3, k2m4]
  instanceTypes := #[.long, .long, .long]
  staticTypes := #[]
  resolved := Array.replicate 48 none
  statics := none }

def pool3 : Array CpInfo := pool [(1, .class_ 2), (0, u "java/lang/Math"), (1, .class_ 6), (1, u "java/lang/Object"), (0, u "<init>"), (0, u "()V"), (89, .class_ 100), (1, u "java/lang/Math$RandomNumberGeneratorHolder"), (20, u "(JJ)J"), (50, u "negativeZeroFloatBits"), (0, u "J"), (2, u "negativeZeroDoubleBits"), (21, u "max"), (2, u "min"), (43, u "$assertionsDisabled"), (0, u "Z"), (91, u "twoToTheDoubleScaleDown"), (0, u "D"), (4, u "twoToTheDoubleScaleUp"), (9, u "E"), (3, u "PI"), (2, u "TAU"), (2, u "DEGREES_TO_RADIANS"), (0, u "RADIANS_TO_DEGREES")] 94

def k3m0 : Method := { name := "<init>", desc := "()V", sig := { parameters := [], returnType := none }, accessFlags := 2, code := none }
def k3c1 : Code := { maxStack := 4, maxLocals := 4, code := jdk_29_method_66_code, exceptionTable := #[], attributes := #[] }
def k3m1 : Method := { name := "max", desc := "(JJ)J", sig := { parameters := [.long, .long], returnType := some .long }, accessFlags := 9, code := some k3c1 }
def k3c2 : Code := { maxStack := 4, maxLocals := 4, code := jdk_29_method_70_code, exceptionTable := #[], attributes := #[] }
def k3m2 : Method := { name := "min", desc := "(JJ)J", sig := { parameters := [.long, .long], returnType := some .long }, accessFlags := 9, code := some k3c2 }
/-- java/lang/Math -/
def k3 : Class := { plain "java/lang/Math" (some 0) with
  accessFlags := 49
  interfaces := #[]
  cf := some (fileOf pool3 1 #[.nestMembers #[98]] #[{ accessFlags := 2, nameIndex := 7, descriptorIndex := 8, attributes := #[] }, { accessFlags := 9, nameIndex := 198, descriptorIndex := 121, attributes := #[] }, { accessFlags := 9, nameIndex := 201, descriptorIndex := 121, attributes := #[] }] 49 4 #[] #[{ accessFlags := 25, nameIndex := 354, descriptorIndex := 339, attributes := #[] }, { accessFlags := 25, nameIndex := 358, descriptorIndex := 339, attributes := #[] }, { accessFlags := 25, nameIndex := 361, descriptorIndex := 339, attributes := #[] }, { accessFlags := 26, nameIndex := 364, descriptorIndex := 339, attributes := #[] }, { accessFlags := 26, nameIndex := 365, descriptorIndex := 339, attributes := #[] }, { accessFlags := 26, nameIndex := 172, descriptorIndex := 173, attributes := #[] }, { accessFlags := 26, nameIndex := 176, descriptorIndex := 173, attributes := #[] }, { accessFlags := 8, nameIndex := 344, descriptorIndex := 339, attributes := #[] }, { accessFlags := 8, nameIndex := 338, descriptorIndex := 339, attributes := #[] }, { accessFlags := 4120, nameIndex := 245, descriptorIndex := 246, attributes := #[] }])
  fields := #[{ name := "E", type := .double, accessFlags := 25, slot := 0, constantValue := 0 }, { name := "PI", type := .double, accessFlags := 25, slot := 1, constantValue := 0 }, { name := "TAU", type := .double, accessFlags := 25, slot := 2, constantValue := 0 }, { name := "DEGREES_TO_RADIANS", type := .double, accessFlags := 26, slot := 3, constantValue := 0 }, { name := "RADIANS_TO_DEGREES", type := .double, accessFlags := 26, slot := 4, constantValue := 0 }, { name := "negativeZeroFloatBits", type := .long, accessFlags := 26, slot := 5, constantValue := 0 }, { name := "negativeZeroDoubleBits", type := .long, accessFlags := 26, slot := 6, constantValue := 0 }, { name := "twoToTheDoubleScaleUp", type := .double, accessFlags := 8, slot := 7, constantValue := 0 }, { name := "twoToTheDoubleScaleDown", type := .double, accessFlags := 8, slot := 8, constantValue := 0 }, { name := "$assertionsDisabled", type := .boolean, accessFlags := 4120, slot := 9, constantValue := 0 }]
  methods := #[k3m0, k3m1, k3m2]
  instanceTypes := #[]
  staticTypes := #[.double, .double, .double, .double, .double, .long, .long, .double, .double, .boolean]
  resolved := Array.replicate 460 none
  statics := none }

def pool4 : Array CpInfo := pool [(1, .methodref 2 3), (0, .class_ 4), (0, .nameAndType 5 6), (0, u "java/lang/Object"), (0, u "<init>"), (0, u "()V"), (0, .class_ 8), (0, u "java/lang/Record")] 13

def k4c0 : Code := { maxStack := 1, maxLocals := 1, code := jdk_30_method_1_code, exceptionTable := #[], attributes := #[] }
def k4m0 : Method := { name := "<init>", desc := "()V", sig := { parameters := [], returnType := none }, accessFlags := 4, code := some k4c0 }
/-- java/lang/Record -/
def k4 : Class := { plain "java/lang/Record" (some 0) with
  accessFlags := 1057
  interfaces := #[]
  cf := some (fileOf pool4 7 #[] #[{ accessFlags := 4, nameIndex := 5, descriptorIndex := 6, attributes := #[] }] 1057 2 #[] #[])
  fields := #[]
  methods := #[k4m0]
  instanceTypes := #[]
  staticTypes := #[]
  resolved := Array.replicate 22 none
  statics := none }

def pool5 : Array CpInfo := pool [(1, .methodref 2 3), (0, .class_ 4), (0, .nameAndType 5 6), (0, u "java/lang/Record"), (0, u "<init>"), (0, u "()V"), (0, .fieldref 8 9), (0, .class_ 10), (0, .nameAndType 11 12), (0, u "com/example/vantrell/vantrell/statistics/Gauge$Reading"), (0, u "high"), (0, u "J"), (0, .fieldref 8 14), (0, .nameAndType 15 12), (0, u "low"), (0, .fieldref 8 17), (0, .nameAndType 18 12), (0, u "current"), (12, u "(JJJ)V"), (6, u "()J"), (3, .class_ 43), (0, u "com/example/vantrell/vantrell/statistics/Gauge")] 21

def k5c0 : Code := { maxStack := 3, maxLocals := 7, code := prog_38_method_1_code, exceptionTable := #[], attributes := #[] }
def k5m0 : Method := { name := "<init>", desc := "(JJJ)V", sig := { parameters := [.long, .long, .long], returnType := none }, accessFlags := 1, code := some k5c0 }
def k5c1 : Code := { maxStack := 2, maxLocals := 1, code := prog_38_method_5_code, exceptionTable := #[], attributes := #[] }
def k5m1 : Method := { name := "high", desc := "()J", sig := { parameters := [], returnType := some .long }, accessFlags := 1, code := some k5c1 }
def k5c2 : Code := { maxStack := 2, maxLocals := 1, code := prog_38_method_6_code, exceptionTable := #[], attributes := #[] }
def k5m2 : Method := { name := "low", desc := "()J", sig := { parameters := [], returnType := some .long }, accessFlags := 1, code := some k5c2 }
def k5c3 : Code := { maxStack := 2, maxLocals := 1, code := prog_38_method_7_code, exceptionTable := #[], attributes := #[] }
def k5m3 : Method := { name := "current", desc := "()J", sig := { parameters := [], returnType := some .long }, accessFlags := 1, code := some k5c3 }
/-- com/example/vantrell/vantrell/statistics/Gauge$Reading -/
def k5 : Class := { plain "com/example/vantrell/vantrell/statistics/Gauge$Reading" (some 4) with
  accessFlags := 49
  interfaces := #[]
  cf := some (fileOf pool5 8 #[.nestHost 42] #[{ accessFlags := 1, nameIndex := 5, descriptorIndex := 31, attributes := #[] }, { accessFlags := 1, nameIndex := 11, descriptorIndex := 38, attributes := #[] }, { accessFlags := 1, nameIndex := 15, descriptorIndex := 38, attributes := #[] }, { accessFlags := 1, nameIndex := 18, descriptorIndex := 38, attributes := #[] }] 49 2 #[] #[{ accessFlags := 18, nameIndex := 11, descriptorIndex := 12, attributes := #[] }, { accessFlags := 18, nameIndex := 15, descriptorIndex := 12, attributes := #[] }, { accessFlags := 18, nameIndex := 18, descriptorIndex := 12, attributes := #[] }])
  fields := #[{ name := "high", type := .long, accessFlags := 18, slot := 0, constantValue := 0 }, { name := "low", type := .long, accessFlags := 18, slot := 1, constantValue := 0 }, { name := "current", type := .long, accessFlags := 18, slot := 2, constantValue := 0 }]
  methods := #[k5m0, k5m1, k5m2, k5m3]
  instanceTypes := #[.long, .long, .long]
  staticTypes := #[]
  resolved := Array.replicate 65 none
  statics := none }

def pool6 : Array CpInfo := pool [(1, u "java/lang/Cloneable"), (0, .class_ 1), (0, u "java/lang/Object"), (0, .class_ 3)] 3

/-- java/lang/Cloneable -/
def k6 : Class := { plain "java/lang/Cloneable" (some 0) with
  accessFlags := 1537
  interfaces := #[]
  cf := some (fileOf pool6 2 #[] #[] 1537 4 #[] #[])
  fields := #[]
  methods := #[]
  instanceTypes := #[]
  staticTypes := #[]
  resolved := Array.replicate 8 none
  statics := none }

def pool7 : Array CpInfo := pool [(1, u "java/io/Serializable"), (0, .class_ 1), (0, u "java/lang/Object"), (0, .class_ 3)] 3

/-- java/io/Serializable -/
def k7 : Class := { plain "java/io/Serializable" (some 0) with
  accessFlags := 1537
  interfaces := #[]
  cf := some (fileOf pool7 2 #[] #[] 1537 4 #[] #[])
  fields := #[]
  methods := #[]
  instanceTypes := #[]
  staticTypes := #[]
  resolved := Array.replicate 8 none
  statics := none }

/-- the primitive byte -/
def k8 : Class := { plain "byte" none with kind := .primitive 'B', accessFlags := 0x411 }
/-- [B -/
def k9 : Class := { plain "[B" (some 0) with kind := .array 8 .byte, interfaces := #[6, 7], accessFlags := 1041 }

def heap : Heap := #[]
def classes : Array Class := #[k0, k1, k2, k3, k4, k5, k6, k7, k8, k9]
def interned : List (Array UInt16 × Addr) := []
def slotsUsed : Nat := 0
def theMethod : MethodId := ⟨1, 1⟩
def args0 : Array Value := #[.long 5, .long 6, .long 8, .int 7]
def aboutOver (below : List Frame) : State where
  vm := { classes := classes, interned := interned.toArray }
  heap := heap
  slotsUsed := slotsUsed
  threads := #[{ frames := .invoking theMethod args0 :: below }]
def below0 : List Frame := [.native { method := ⟨0, 0⟩, args := #[] }]
def about1 : State := aboutOver below0
def p0 : Program := .bare "" "" ""
def e0 : Env := launch0.env 0 0 0
theorem w_frames : about1.frames = Frame.invoking theMethod args0 :: below0 := rfl
set_option maxRecDepth 65536 in
theorem w_args : argsFit about1.vm theMethod args0 = true := by decide +kernel
set_option maxRecDepth 65536 in
theorem w_heap : heapFits about1 = true := by decide +kernel
set_option maxRecDepth 65536 in
theorem w_runnable : about1.curStatus? = some .runnable := by decide +kernel
set_option maxRecDepth 65536 in
theorem w_alone : about1.alone = true := by decide +kernel
set_option maxRecDepth 65536 in
theorem w_named : about1.methodNamed? x = some theMethod := by decide +kernel
set_option maxRecDepth 65536 in
theorem w_hears : about1.hears theMethod below0 = true := by decide +kernel
set_option maxRecDepth 65536 in
theorem w_ripe : about1.ripe theMethod args0 below0 = true := by decide +kernel
theorem w_running : about1.status = .running := rfl
set_option maxRecDepth 65536 in
theorem w_room : about1.hasRoom e0.platform room_1 = true :=
  launch0.hasRoom_least _ room_1 (by decide +kernel) (by decide +kernel) (by decide +kernel) (by decide +kernel) (by decide +kernel) (by decide +kernel)
theorem allAtoms_all (ts : List Jvm.Cond) (a : Array Jvm.Value) (st : Jvm.State) : (allAtoms ts).before a st = ts.all (fun c => c.before a st) := by
  induction ts with
  | nil => rfl
  | cons c t ih =>
    show (Jvm.Cond.and c (allAtoms t)).before a st = _
    rw [Jvm.Cond.before_and, ih, List.all_cons]
def words1 : List Jvm.Cond := Jvm.Cond.code x code maxLocals ret :: tables_1
/-- a 'code' word, met by the world's own term for the bytes: nothing is compared byte by byte -/
theorem code_word {y : MethodName} {bytes : ByteArray} {mx : Nat} {rt : Option FieldType} {a : Array Value} {s : State} {m : MethodId} {meth : Method} {c : Code} (h1 : s.methodNamed? y = some m) (h2 : s.vm.method? m = some meth) (h3 : meth.code = some c) (h4 : c.code = bytes)
    (h5 : (c.maxLocals == mx && c.exceptionTable.isEmpty && decide (c.maxStack ≤ mostOperands) && decide (meth.sig.returnType = rt) && !meth.locks && decide (parseMethodDescriptor y.desc = some meth.sig)) = true) : (Jvm.Cond.code y bytes mx rt).before a s = true := by
  simp only [Bool.and_eq_true, beq_iff_eq, Bool.not_eq_true', decide_eq_true_eq] at h5
  obtain ⟨⟨⟨⟨⟨g1, g2⟩, g3⟩, g4⟩, g5⟩, g6⟩ := h5
  simp [Cond.before, Cond.holds, Cond.value, h1, h2, h3, h4, g1, g2, g3, g4, g5, g6]
def isCode : Jvm.Cond → Bool
  | .code _ _ _ _ => true
  | _ => false
theorem all_split {L : List Jvm.Cond} {P : Jvm.Cond → Bool} (h1 : L.all (fun c => isCode c || P c) = true) (h2 : ∀ c ∈ L.filter isCode, P c = true) : L.all P = true := by
  refine List.all_eq_true.mpr fun c hc => ?_
  have h := List.all_eq_true.mp h1 c hc
  rcases Bool.eq_false_or_eq_true (isCode c) with hi | hi
  · exact h2 c (List.mem_filter.mpr ⟨hc, hi⟩)
  · simpa [hi] using h
set_option maxRecDepth 65536 in
theorem w_c0 : (Jvm.Cond.code x code maxLocals ret).before args0 about1 = true := code_word (m := ⟨1, 1⟩) (meth := k1m1) (c := k1c1) (by decide +kernel) rfl rfl rfl (by decide +kernel)
set_option maxRecDepth 65536 in
theorem w_c1 : (Jvm.Cond.code ({ cls := "com/example/vantrell/vantrell/statistics/Gauge", name := "<init>", desc := "()V" } : Jvm.MethodName) prog_37_method_1_code (1 : Nat) (Option.none : Option Jvm.ClassFile.FieldType)).before args0 about1 = true := code_word (m := ⟨2, 0⟩) (meth := k2m0) (c := k2c0) (by decide +kernel) rfl rfl rfl (by decide +kernel)
set_option maxRecDepth 65536 in
theorem w_c2 : (Jvm.Cond.code ({ cls := "java/lang/Object", name := "<init>", desc := "()V" } : Jvm.MethodName) object_method_1_code (1 : Nat) (Option.none : Option Jvm.ClassFile.FieldType)).before args0 about1 = true := code_word (m := ⟨0, 0⟩) (meth := k0m0) (c := k0c0) (by decide +kernel) rfl rfl rfl (by decide +kernel)
set_option maxRecDepth 65536 in
theorem w_c3 : (Jvm.Cond.code ({ cls := "com/example/vantrell/vantrell/statistics/Gauge", name := "set", desc := "(J)V" } : Jvm.MethodName) prog_37_method_4_code (3 : Nat) (Option.none : Option Jvm.ClassFile.FieldType)).before args0 about1 = true := code_word (m := ⟨2, 3⟩) (meth := k2m3) (c := k2c3) (by decide +kernel) rfl rfl rfl (by decide +kernel)
set_option maxRecDepth 65536 in
theorem w_c4 : (Jvm.Cond.code ({ cls := "java/lang/Math", name := "max", desc := "(JJ)J" } : Jvm.MethodName) jdk_29_method_66_code (4 : Nat) (Option.some Jvm.ClassFile.FieldType.long)).before args0 about1 = true := code_word (m := ⟨3, 1⟩) (meth := k3m1) (c := k3c1) (by decide +kernel) rfl rfl rfl (by decide +kernel)
set_option maxRecDepth 65536 in
theorem w_c5 : (Jvm.Cond.code ({ cls := "java/lang/Math", name := "min", desc := "(JJ)J" } : Jvm.MethodName) jdk_29_method_70_code (4 : Nat) (Option.some Jvm.ClassFile.FieldType.long)).before args0 about1 = true := code_word (m := ⟨3, 2⟩) (meth := k3m2) (c := k3c2) (by decide +kernel) rfl rfl rfl (by decide +kernel)
set_option maxRecDepth 65536 in
theorem w_c6 : (Jvm.Cond.code ({ cls := "com/example/vantrell/vantrell/statistics/Gauge", name := "add", desc := "(J)V" } : Jvm.MethodName) prog_37_method_3_code (3 : Nat) (Option.none : Option Jvm.ClassFile.FieldType)).before args0 about1 = true := code_word (m := ⟨2, 2⟩) (meth := k2m2) (c := k2c2) (by decide +kernel) rfl rfl rfl (by decide +kernel)
set_option maxRecDepth 65536 in
theorem w_c7 : (Jvm.Cond.code ({ cls := "com/example/vantrell/vantrell/statistics/Gauge", name := "read", desc := "()Lcom/example/vantrell/vantrell/statistics/Gauge$Reading;" } : Jvm.MethodName) prog_37_method_5_code (2 : Nat) (Option.some (Jvm.ClassFile.FieldType.object "com/example/vantrell/vantrell/statistics/Gauge$Reading"))).before args0 about1 = true := code_word (m := ⟨2, 4⟩) (meth := k2m4) (c := k2c4) (by decide +kernel) rfl rfl rfl (by decide +kernel)
set_option maxRecDepth 65536 in
theorem w_c8 : (Jvm.Cond.code ({ cls := "com/example/vantrell/vantrell/statistics/Gauge$Reading", name := "<init>", desc := "(JJJ)V" } : Jvm.MethodName) prog_38_method_1_code (7 : Nat) (Option.none : Option Jvm.ClassFile.FieldType)).before args0 about1 = true := code_word (m := ⟨5, 0⟩) (meth := k5m0) (c := k5c0) (by decide +kernel) rfl rfl rfl (by decide +kernel)
set_option maxRecDepth 65536 in
theorem w_c9 : (Jvm.Cond.code ({ cls := "java/lang/Record", name := "<init>", desc := "()V" } : Jvm.MethodName) jdk_30_method_1_code (1 : Nat) (Option.none : Option Jvm.ClassFile.FieldType)).before args0 about1 = true := code_word (m := ⟨4, 0⟩) (meth := k4m0) (c := k4c0) (by decide +kernel) rfl rfl rfl (by decide +kernel)
set_option maxRecDepth 65536 in
theorem w_c10 : (Jvm.Cond.code ({ cls := "com/example/vantrell/vantrell/statistics/Gauge$Reading", name := "high", desc := "()J" } : Jvm.MethodName) prog_38_method_5_code (1 : Nat) (Option.some Jvm.ClassFile.FieldType.long)).before args0 about1 = true := code_word (m := ⟨5, 1⟩) (meth := k5m1) (c := k5c1) (by decide +kernel) rfl rfl rfl (by decide +kernel)
set_option maxRecDepth 65536 in
theorem w_c11 : (Jvm.Cond.code ({ cls := "com/example/vantrell/vantrell/statistics/Gauge$Reading", name := "low", desc := "()J" } : Jvm.MethodName) prog_38_method_6_code (1 : Nat) (Option.some Jvm.ClassFile.FieldType.long)).before args0 about1 = true := code_word (m := ⟨5, 2⟩) (meth := k5m2) (c := k5c2) (by decide +kernel) rfl rfl rfl (by decide +kernel)
set_option maxRecDepth 65536 in
theorem w_c12 : (Jvm.Cond.code ({ cls := "com/example/vantrell/vantrell/statistics/Gauge$Reading", name := "current", desc := "()J" } : Jvm.MethodName) prog_38_method_7_code (1 : Nat) (Option.some Jvm.ClassFile.FieldType.long)).before args0 about1 = true := code_word (m := ⟨5, 3⟩) (meth := k5m3) (c := k5c3) (by decide +kernel) rfl rfl rfl (by decide +kernel)
set_option maxRecDepth 65536 in
theorem w_c13 : (Jvm.Cond.code ({ cls := "com/example/vantrell/vantrell/statistics/Gauge", name := "current", desc := "()J" } : Jvm.MethodName) prog_37_method_2_code (1 : Nat) (Option.some Jvm.ClassFile.FieldType.long)).before args0 about1 = true := code_word (m := ⟨2, 1⟩) (meth := k2m1) (c := k2c1) (by decide +kernel) rfl rfl rfl (by decide +kernel)
def codes1 : List Jvm.Cond := [Jvm.Cond.code x code maxLocals ret, Jvm.Cond.code ({ cls := "com/example/vantrell/vantrell/statistics/Gauge", name := "<init>", desc := "()V" } : Jvm.MethodName) prog_37_method_1_code (1 : Nat) (Option.none : Option Jvm.ClassFile.FieldType), Jvm.Cond.code ({ cls := "java/lang/Object", name := "<init>", desc := "()V" } : Jvm.MethodName) object_method_1_code (1 : Nat) (Option.none : Option Jvm.ClassFile.FieldType), Jvm.Cond.code ({ cls := "com/example/vantrell/vantrell/statistics/Gauge", name := "set", desc := "(J)V" } : Jvm.MethodName) prog_37_method_4_code (3 : Nat) (Option.none : Option Jvm.ClassFile.FieldType), Jvm.Cond.code ({ cls := "java/lang/Math", name := "max", desc := "(JJ)J" } : Jvm.MethodName) jdk_29_method_66_code (4 : Nat) (Option.some Jvm.ClassFile.FieldType.long), Jvm.Cond.code ({ cls := "java/lang/Math", name := "min", desc := "(JJ)J" } : Jvm.MethodName) jdk_29_method_70_code (4 : Nat) (Option.some Jvm.ClassFile.FieldType.long), Jvm.Cond.code ({ cls := "com/example/vantrell/vantrell/statistics/Gauge", name := "add", desc := "(J)V" } : Jvm.MethodName) prog_37_method_3_code (3 : Nat) (Option.none : Option Jvm.ClassFile.FieldType), Jvm.Cond.code ({ cls := "com/example/vantrell/vantrell/statistics/Gauge", name := "read", desc := "()Lcom/example/vantrell/vantrell/statistics/Gauge$Reading;" } : Jvm.MethodName) prog_37_method_5_code (2 : Nat) (Option.some (Jvm.ClassFile.FieldType.object "com/example/vantrell/vantrell/statistics/Gauge$Reading")), Jvm.Cond.code ({ cls := "com/example/vantrell/vantrell/statistics/Gauge$Reading", name := "<init>", desc := "(JJJ)V" } : Jvm.MethodName) prog_38_method_1_code (7 : Nat) (Option.none : Option Jvm.ClassFile.FieldType), Jvm.Cond.code ({ cls := "java/lang/Record", name := "<init>", desc := "()V" } : Jvm.MethodName) jdk_30_method_1_code (1 : Nat) (Option.none : Option Jvm.ClassFile.FieldType), Jvm.Cond.code ({ cls := "com/example/vantrell/vantrell/statistics/Gauge$Reading", name := "high", desc := "()J" } : Jvm.MethodName) prog_38_method_5_code (1 : Nat) (Option.some Jvm.ClassFile.FieldType.long), Jvm.Cond.code ({ cls := "com/example/vantrell/vantrell/statistics/Gauge$Reading", name := "low", desc := "()J" } : Jvm.MethodName) prog_38_method_6_code (1 : Nat) (Option.some Jvm.ClassFile.FieldType.long), Jvm.Cond.code ({ cls := "com/example/vantrell/vantrell/statistics/Gauge$Reading", name := "current", desc := "()J" } : Jvm.MethodName) prog_38_method_7_code (1 : Nat) (Option.some Jvm.ClassFile.FieldType.long), Jvm.Cond.code ({ cls := "com/example/vantrell/vantrell/statistics/Gauge", name := "current", desc := "()J" } : Jvm.MethodName) prog_37_method_2_code (1 : Nat) (Option.some Jvm.ClassFile.FieldType.long)]
set_option maxRecDepth 65536 in
theorem codes_eq : words1.filter isCode = codes1 := rfl
theorem w_codes : ∀ c ∈ words1.filter isCode, c.before args0 about1 = true := by
  rw [codes_eq]
  intro c hc
  simp only [codes1, List.mem_cons, List.not_mem_nil, or_false] at hc
  rcases hc with rfl | rfl | rfl | rfl | rfl | rfl | rfl | rfl | rfl | rfl | rfl | rfl | rfl | rfl
  · exact w_c0
  · exact w_c1
  · exact w_c2
  · exact w_c3
  · exact w_c4
  · exact w_c5
  · exact w_c6
  · exact w_c7
  · exact w_c8
  · exact w_c9
  · exact w_c10
  · exact w_c11
  · exact w_c12
  · exact w_c13
set_option maxRecDepth 65536 in
theorem w_t1 : (words1.take 24).all (fun c => isCode c || c.before args0 about1) = true := by decide +kernel
set_option maxRecDepth 65536 in
theorem w_t2 : ((words1.drop 24).take 24).all (fun c => isCode c || c.before args0 about1) = true := by decide +kernel
set_option maxRecDepth 65536 in
theorem w_t3 : (((words1.drop 24).drop 24).take 24).all (fun c => isCode c || c.before args0 about1) = true := by decide +kernel
set_option maxRecDepth 65536 in
theorem w_t4 : (((words1.drop 24).drop 24).drop 24).all (fun c => isCode c || c.before args0 about1) = true := by decide +kernel
theorem w_tables : (allAtoms (Jvm.Cond.code x code maxLocals ret :: tables_1)).before args0 about1 = true := by
  rw [allAtoms_all]
  show words1.all (fun c => c.before args0 about1) = true
  refine all_split ?_ w_codes
  rw [← List.take_append_drop 24 words1, List.all_append, w_t1, ← List.take_append_drop 24 (words1.drop 24), List.all_append, w_t2, ← List.take_append_drop 24 ((words1.drop 24).drop 24), List.all_append, w_t3, w_t4]
  rfl
set_option maxRecDepth 65536 in
theorem w_case : (Jvm.Cond.and given_1 narrow_1).before args0 about1 = true := by decide +kernel
theorem w_applies : (headSpec (Jvm.Cond.code x code maxLocals ret :: tables_1) room_1).applies x e0.platform about1 = true :=
  (Spec.applies_iff w_frames).mpr ⟨w_running, w_runnable, w_alone, w_named, w_hears, w_ripe, w_room, w_tables⟩
theorem atStart : AtStart classFile x code maxLocals ret World_1 tables_1 room_1 Calls_1 rest_1 Pre_1 launch0 p0 e0 about1 theMethod args0 below0 :=
  ⟨lists_1, trivial, launch0.admits_env _ _ _, launch0.least_env, fairChoices_fair.cas, fairChoices_fair.clock, w_frames, w_args, w_heap, w_applies, trivial, trivial, w_case⟩
end start1
theorem witness_1 : WitnessClaimed_1 := ⟨start1.p0, start1.e0, start1.about1, start1.theMethod, start1.args0, start1.below0, start1.atStart⟩
end Jvm.Pilot.@@N@@
