import JvmDerived
import JvmDerived.Pilot.@@N@@Statement
import JvmDerived.Pilot.@@N@@Code
set_option linter.unusedVariables false
set_option linter.unusedSimpArgs false
namespace Jvm.Pilot.@@N@@
open Jvm Jvm.ClassFile Sem Op Lib Jvm.Free Jvm.Stand Jvm.LawKit Jvm.RoadKit Bundle Jvm.Pilot.@@N@@.Jvm.D

def Go (tb : Tables) (e : Env) (below : List Frame) (a : State) (P : Outcome → State → Prop) : Prop := ∃ s₂ o, Steps tb e below a s₂ ∧ s₂.status = .running ∧ Ended s₂ below o ∧ P o s₂
theorem Go.st {tb : Tables} {e : Env} {below : List Frame} {a b : State} {P : Outcome → State → Prop} (h : ∀ t, Steps tb e below b t → Steps tb e below a t) (k : Go tb e below b P) : Go tb e below a P := by
  obtain ⟨s, o, h1, h2⟩ := k
  exact ⟨s, o, h _ h1, h2⟩
theorem Go.tr {tb : Tables} {e : Env} {below : List Frame} {a b : State} {P : Outcome → State → Prop} (h : Steps tb e below a b) (k : Go tb e below b P) : Go tb e below a P := Go.st (fun _ q => h.trans q) k
theorem Go.fin {tb : Tables} {e : Env} {below : List Frame} {a s₂ : State} {o : Outcome} {P : Outcome → State → Prop} (hs : Steps tb e below a s₂) (hr : s₂.status = .running) (he : Ended s₂ below o) (hP : P o s₂) : Go tb e below a P := ⟨_, _, hs, hr, he, hP⟩
theorem exa_ns {Z : State} {h : Heap} {a : Addr} {C : String} (F : Exa Z h a C) : ∃ c : Cell, h[a]? = some c ∧ c.vm.isStatics = false := by
  obtain ⟨c, _, h1, -, -, h4, -⟩ := F
  exact ⟨c, h1, h4⟩
theorem fld_ns {Z : State} {h : Heap} {a : Addr} {C n d : String} {v : Value} (F : Fld Z h a C n d v) : ∃ c : Cell, h[a]? = some c ∧ c.vm.isStatics = false := by
  obtain ⟨c, _, _, _, _, h1, -, -, -, h4, -⟩ := F
  exact ⟨c, h1, h4⟩
theorem arv_ns {Z : State} {h : Heap} {a : Addr} {k : ClassId} {ty : FieldType} {n : Int32} {vs : List Value} {d : Value} (F : Arv Z h a k ty n vs d) : ∃ c : Cell, h[a]? = some c ∧ c.vm.isStatics = false := by
  obtain ⟨c, A, -⟩ := F
  exact ⟨c, A.1, A.plain⟩
theorem sta_keep {Z : State} {h h' : Heap} {C n d : String} {v : Value} {ws : List Addr} (F : Sta Z h C n d v) (K : Keep h h' ws) (q : ∀ x ∈ ws, ∃ c : Cell, h[x]? = some c ∧ c.vm.isStatics = false) : Sta Z h' C n d v := by
  obtain ⟨cf, i, k, f, st, cell, h1, h2, h3, h4, h5, h6, h7⟩ := F
  refine ⟨cf, i, k, f, st, cell, h1, h2, h3, h4, K.2.1 st cell h5 fun z => ?_, h6, h7⟩
  obtain ⟨c, q1, q2⟩ := q st z
  cases q1.symm.trans h5
  rw [q2] at h6
  cases h6
theorem own_selp {s : State} {args : Array Value} {y : MethodName} {n : Nat} (wi : (Cond.instantiable y.cls n).before args s = true) (hp : s.PrivateAt y) (hi : (Cond.instanceMethod y).before args s = true) (hy : y.cls ≠ "java/lang/invoke/MethodHandle" ∧ y.cls ≠ "java/lang/invoke/VarHandle") : (Cond.selects y.cls y y).before args s = true := by
  obtain ⟨c, k, h1, h2, -, h4, -⟩ := Cond.instantiable_spec wi
  simp only [Bool.or_eq_false_iff] at h4
  exact selects_self_of_private h1 h2 h4.1 hp hi hy
theorem own_ne32 {x k : Int32} {a : Int} (ha : k.toInt = a) (h : ¬ x = k) : a ≠ x.toInt := fun e => h (Int32.toInt_inj.mp (e.symm.trans ha.symm))
theorem own_nn (x : Int32) : 0 ≤ (x &&& (2147483647 : Int32)).toInt := (c_andS x 2147483647).2.2 (by decide)
theorem own_rem (x : Int32) (k : Int32) (d : Int) (hd : k.toInt = d) (h0 : 0 < d) : 0 ≤ ((x &&& (2147483647 : Int32)) % k).toInt ∧ ((x &&& (2147483647 : Int32)) % k).toInt < d := by
  have h := own_nn x
  rw [Int32.toInt_mod, hd]
  exact ⟨Int.tmod_nonneg _ h, Int.tmod_lt_of_pos _ h0⟩
theorem own_remb (x : Int32) (k : Int32) (d : Int) (hd : k.toInt = d) (h0 : 0 < d) : ¬ ((x &&& (2147483647 : Int32)) % k) < 0 ∧ ((x &&& (2147483647 : Int32)) % k) < k := by
  obtain ⟨h1, h2⟩ := own_rem x k d hd h0
  rw [Int32.lt_iff_toInt_lt, Int32.lt_iff_toInt_lt, hd]
  exact ⟨Int.not_lt.mpr h1, h2⟩
def own_at (xs : List Int32) (j : Int32) : Int32 := xs.getD j.toNatClampNeg 0
theorem own_atv (xs : List Int32) (j : Int32) : (xs.map Value.int).getD j.toNatClampNeg (.int 0) = .int (own_at xs j) := by
  unfold own_at
  generalize j.toNatClampNeg = n
  induction xs generalizing n with
  | nil => rfl
  | cons a r ih => cases n with
    | zero => rfl
    | succ n => simpa using ih n
theorem own_setl {l : List Value} {k n : Nat} {v : Value} (h : l.length = n) : (l.set k v).length = n := by rw [List.length_set]; exact h
theorem own_setg {l : List Value} {k : Nat} {v d : Value} (h : k < l.length) : (l.set k v).getD k d = v := by simp [List.getD, List.getElem?_set, h]
theorem own_setn {l : List Value} {k i : Nat} {v d : Value} (h : i ≠ k) : (l.set k v).getD i d = l.getD i d := by simp [List.getD, List.getElem?_set, Ne.symm h]
theorem own_lt_of {l : List Value} {n : Nat} {j z : Int32} (h : l.length = n) (q : ¬ j < 0 ∧ j < z) (hz : z.toNatClampNeg = n := by decide) : j.toNatClampNeg < l.length := by
  rw [h, ← hz]
  obtain ⟨q1, q2⟩ := q
  rw [Int32.lt_iff_toInt_lt] at q1 q2
  have : (0 : Int32).toInt = 0 := rfl
  simp only [Int32.toNatClampNeg]
  omega
theorem own_eqi {args : Array Value} {s : State} {t : Term} {k : Int32} (h : (Jvm.Cond.eq t (.int k)).value args s none s [] = some true) : t.eval args s none [] s = some (.int k) := by
  simp only [Cond.value, Term.eval] at h
  cases ht : t.eval args s none [] s with
  | none => simp [ht] at h
  | some x => cases x <;> simp_all
theorem wd0 {Z : State} {a0 : Array Value} (hw : ∀ d ∈ tables_1, d.before a0 Z = true) : (Jvm.Cond.methodLink "com/example/vantrell/vantrell/statistics/BoundedRangeNotApplicablePinLaw" (7 : Nat) ({ cls := "com/example/vantrell/vantrell/statistics/Statistic$BoundedRange", name := "notApplicable", desc := "(J)Lcom/example/vantrell/vantrell/statistics/Statistic$BoundedRange;" } : Jvm.MethodName)).before a0 Z = true := hw _ (List.mem_of_getElem? (i := 0) rfl)
theorem wd30 {Z : State} {a0 : Array Value} (hw : ∀ d ∈ tables_1, d.before a0 Z = true) : (Jvm.Cond.methodLink "com/example/vantrell/vantrell/statistics/BoundedRangeNotApplicablePinLaw" (13 : Nat) ({ cls := "com/example/vantrell/vantrell/statistics/Statistic$BoundedRange", name := "startTime", desc := "()J" } : Jvm.MethodName)).before a0 Z = true := hw _ (List.mem_of_getElem? (i := 30) rfl)
theorem wd35 {Z : State} {a0 : Array Value} (hw : ∀ d ∈ tables_1, d.before a0 Z = true) : (Jvm.Cond.methodLink "com/example/vantrell/vantrell/statistics/BoundedRangeNotApplicablePinLaw" (17 : Nat) ({ cls := "com/example/vantrell/vantrell/statistics/Statistic$BoundedRange", name := "upperBound", desc := "()J" } : Jvm.MethodName)).before a0 Z = true := hw _ (List.mem_of_getElem? (i := 35) rfl)
theorem wd41 {Z : State} {a0 : Array Value} (hw : ∀ d ∈ tables_1, d.before a0 Z = true) : (Jvm.Cond.methodLink "com/example/vantrell/vantrell/statistics/BoundedRangeNotApplicablePinLaw" (22 : Nat) ({ cls := "com/example/vantrell/vantrell/statistics/Statistic$BoundedRange", name := "lowerBound", desc := "()J" } : Jvm.MethodName)).before a0 Z = true := hw _ (List.mem_of_getElem? (i := 41) rfl)
theorem wd46 {Z : State} {a0 : Array Value} (hw : ∀ d ∈ tables_1, d.before a0 Z = true) : (Jvm.Cond.methodLink "com/example/vantrell/vantrell/statistics/BoundedRangeNotApplicablePinLaw" (25 : Nat) ({ cls := "com/example/vantrell/vantrell/statistics/Statistic$BoundedRange", name := "highWaterMark", desc := "()J" } : Jvm.MethodName)).before a0 Z = true := hw _ (List.mem_of_getElem? (i := 46) rfl)
theorem wd51 {Z : State} {a0 : Array Value} (hw : ∀ d ∈ tables_1, d.before a0 Z = true) : (Jvm.Cond.methodLink "com/example/vantrell/vantrell/statistics/BoundedRangeNotApplicablePinLaw" (28 : Nat) ({ cls := "com/example/vantrell/vantrell/statistics/Statistic$BoundedRange", name := "lowWaterMark", desc := "()J" } : Jvm.MethodName)).before a0 Z = true := hw _ (List.mem_of_getElem? (i := 51) rfl)
theorem wd56 {Z : State} {a0 : Array Value} (hw : ∀ d ∈ tables_1, d.before a0 Z = true) : (Jvm.Cond.methodLink "com/example/vantrell/vantrell/statistics/BoundedRangeNotApplicablePinLaw" (31 : Nat) ({ cls := "com/example/vantrell/vantrell/statistics/Statistic$BoundedRange", name := "current", desc := "()J" } : Jvm.MethodName)).before a0 Z = true := hw _ (List.mem_of_getElem? (i := 56) rfl)
theorem wd61 {Z : State} {a0 : Array Value} (hw : ∀ d ∈ tables_1, d.before a0 Z = true) : (Jvm.Cond.methodLink "com/example/vantrell/vantrell/statistics/BoundedRangeNotApplicablePinLaw" (34 : Nat) ({ cls := "com/example/vantrell/vantrell/statistics/Statistic$BoundedRange", name := "kind", desc := "()Lcom/example/vantrell/vantrell/statistics/Statistic$Kind;" } : Jvm.MethodName)).before a0 Z = true := hw _ (List.mem_of_getElem? (i := 61) rfl)
theorem wd7 {Z : State} {a0 : Array Value} (hw : ∀ d ∈ tables_1, d.before a0 Z = true) : (Jvm.Cond.methodLink "com/example/vantrell/vantrell/statistics/Statistic$BoundedRange" (43 : Nat) ({ cls := "com/example/vantrell/vantrell/statistics/Statistic$BoundedRange", name := "<init>", desc := "(JJJJJJ)V" } : Jvm.MethodName)).before a0 Z = true := hw _ (List.mem_of_getElem? (i := 7) rfl)
theorem wd10 {Z : State} {a0 : Array Value} (hw : ∀ d ∈ tables_1, d.before a0 Z = true) : (Jvm.Cond.methodLink "com/example/vantrell/vantrell/statistics/Statistic$BoundedRange" (1 : Nat) ({ cls := "java/lang/Record", name := "<init>", desc := "()V" } : Jvm.MethodName)).before a0 Z = true := hw _ (List.mem_of_getElem? (i := 10) rfl)
theorem wd15 {Z : State} {a0 : Array Value} (hw : ∀ d ∈ tables_1, d.before a0 Z = true) : (Jvm.Cond.methodLink "java/lang/Record" (1 : Nat) ({ cls := "java/lang/Object", name := "<init>", desc := "()V" } : Jvm.MethodName)).before a0 Z = true := hw _ (List.mem_of_getElem? (i := 15) rfl)
theorem d3_0 : decode jdk_30_method_1_code 0 = .ok (.aload_n 0, 1) := by decide +kernel
theorem d3_1 : decode jdk_30_method_1_code 1 = .ok (.invokespecial 1, 3) := by decide +kernel
theorem wd17 {Z : State} {a0 : Array Value} (hw : ∀ d ∈ tables_1, d.before a0 Z = true) : (Jvm.Cond.code ({ cls := "java/lang/Object", name := "<init>", desc := "()V" } : Jvm.MethodName) object_method_1_code (1 : Nat) (Option.none : Option Jvm.ClassFile.FieldType)).before a0 Z = true := hw _ (List.mem_of_getElem? (i := 17) rfl)
theorem wd16 {Z : State} {a0 : Array Value} (hw : ∀ d ∈ tables_1, d.before a0 Z = true) : (Jvm.Cond.instanceMethod ({ cls := "java/lang/Object", name := "<init>", desc := "()V" } : Jvm.MethodName)).before a0 Z = true := hw _ (List.mem_of_getElem? (i := 16) rfl)
theorem d3_4 : decode jdk_30_method_1_code 4 = .ok (.return_, 1) := by decide +kernel
theorem pn0 : plainName "java/lang/Record" = true := by first | (simp [plainName, overriddenIn]; done) | decide +kernel
def Q3 (Z : State) (a1 : Addr) (h0 : Heap) (n0 : Nat) (v : Option Value) (h : Heap) (L : List Loc) : Prop := v = none ∧ Fr n0 L ∧ h = h0
theorem ef3 (m : MethodId) (x0 : Addr) : entryFrame m #[(.ref x0)] 1 = mkF m 0 #[.val (.ref x0)] [] := by first | (simp [entryFrame, mkF, argsToLocals, Value.category]; done) | rfl
set_option maxRecDepth 65536 in
set_option maxHeartbeats 16000000 in
theorem rm3 (l : Launch) (Z : State) (a0 : Array Value) (hw : ∀ d ∈ tables_1, d.before a0 Z = true) (ws : List Jvm.Cond) (a1 : Addr) (h0 : Heap) (n0 : Nat) (Z0 : n0 ≤ h0.size) :
    MetFree l (⟨"java/lang/Record", "<init>", "()V"⟩ : MethodName) (head1 (Jvm.Cond.code (⟨"java/lang/Record", "<init>", "()V"⟩ : MethodName) jdk_30_method_1_code 1 none :: ws) ({ frames := 1, cells := 0, slots := 0, locals := 12 } : Room)) (fun a U => a = #[(.ref a1)] ∧ Z.Warmed39 U.vm ∧ U.heap = h0) (fun _ _ _ _ _ => True) (fun _ U o U' => ∃ v L, o = .returned v ∧ Q3 Z a1 h0 n0 v U'.heap L ∧ FrameEnd U o U' L ({ frames := 1, cells := 0, slots := 0, locals := 12 } : Room).cells ({ frames := 1, cells := 0, slots := 0, locals := 12 } : Room).slots) := by
  refine MetFree.of_bodySF (plainFor_of_name pn0) hisR ?_
  intro p e s m args below meth c s₁ Bd hml0 hP hK
  obtain ⟨rfl, hZ, hh⟩ := hP
  have hx := Bd.exec
  have hby := Bd.bytes
  have hml : c.maxLocals = 1 := hml0
  have hown : s.vm.findClass "java/lang/Record" = some m.cls := findClass_of_methodNamed Bd.named
  have hnm := (name_of_methodNamed Bd.named Bd.method).1
  have X0 : Stand p l e ({ frames := 1, cells := 0, slots := 0, locals := 12 } : Room) s m #[(.ref a1)] below meth c s₁ [] 0 0 := Stand.of_body Bd
  have e0 : s₁.heap = h0 := by rw [← hh, Bd.state]; rfl
  have N0 := Fr.nil n0
  have K0 : Keep h0 h0 [] := Keep.refl h0 _
  refine Go.st (P := fun o U' => ∃ v L, o = .returned v ∧ Q3 Z a1 h0 n0 v U'.heap L ∧ FrameEnd s o U' L ({ frames := 1, cells := 0, slots := 0, locals := 12 } : Room).cells ({ frames := 1, cells := 0, slots := 0, locals := 12 } : Room).slots) (fun t k => castTop (ef3 m a1) k) ?_
  show Go _ _ _ (s₁.setTop (mkF m 0 #[.val (.ref a1)] [])) _
  refine Go.st (fun t k => XS.aloadN X0.here hx rfl (hb hby d3_0) rfl rfl k) ?_
  obtain ⟨T1, X1, e1, st1⟩ := initO X0 hx hZ hown (wd15 hw) (wd16 hw) (wd17 hw) e0 (g := (mkF m 1 #[.val (.ref a1)] [(.ref a1)])) rfl (by rw [hml]; rfl) rfl (hb hby d3_1) (by decide) (W := 0) (by show 2 * 0 + _ ≤ _; exact Nat.le_of_eq rfl) (by decide)
  refine Go.st st1 ?_
  show Go _ _ _ (T1.setTop (mkF m 4 #[.val (.ref a1)] [])) _
  obtain ⟨fs, hr, hrun, hended, hW, hsame⟩ := X1.leave (v := none) (fun _ => rfl)
  refine Go.fin (X1.returnOut hx Bd.returns (hb hby d3_4) hr) hrun hended ⟨_, _, rfl, ?_, ⟨_, rfl⟩, hW, hsame.mono (by decide) (by decide)⟩
  show Q3 Z a1 h0 n0 _ T1.heap _
  rw [e1]
  exact ⟨rfl, N0, rfl⟩
theorem d2_0 : decode prog_41_method_1_code 0 = .ok (.aload_n 0, 1) := by decide +kernel
theorem d2_1 : decode prog_41_method_1_code 1 = .ok (.invokespecial 1, 3) := by decide +kernel
theorem wd14 {Z : State} {a0 : Array Value} (hw : ∀ d ∈ tables_1, d.before a0 Z = true) : (Jvm.Cond.code ({ cls := "java/lang/Record", name := "<init>", desc := "()V" } : Jvm.MethodName) jdk_30_method_1_code (1 : Nat) (Option.none : Option Jvm.ClassFile.FieldType)).before a0 Z = true := hw _ (List.mem_of_getElem? (i := 14) rfl)
theorem wd13 {Z : State} {a0 : Array Value} (hw : ∀ d ∈ tables_1, d.before a0 Z = true) : (Jvm.Cond.initialized "java/lang/Record").before a0 Z = true := hw _ (List.mem_of_getElem? (i := 13) rfl)
theorem pd0 : parseMethodDescriptor "()V" = some ⟨[], none⟩ := by decide +kernel
theorem wd11 {Z : State} {a0 : Array Value} (hw : ∀ d ∈ tables_1, d.before a0 Z = true) : (Jvm.Cond.instanceMethod ({ cls := "java/lang/Record", name := "<init>", desc := "()V" } : Jvm.MethodName)).before a0 Z = true := hw _ (List.mem_of_getElem? (i := 11) rfl)
theorem d2_4 : decode prog_41_method_1_code 4 = .ok (.aload_n 0, 1) := by decide +kernel
theorem d2_5 : decode prog_41_method_1_code 5 = .ok (.lload_n 1, 1) := by decide +kernel
theorem d2_6 : decode prog_41_method_1_code 6 = .ok (.putfield 7, 3) := by decide +kernel
theorem wd18 {Z : State} {a0 : Array Value} (hw : ∀ d ∈ tables_1, d.before a0 Z = true) : (Jvm.Cond.fieldLink "com/example/vantrell/vantrell/statistics/Statistic$BoundedRange" (7 : Nat) "com/example/vantrell/vantrell/statistics/Statistic$BoundedRange" "startTime" "J").before a0 Z = true := hw _ (List.mem_of_getElem? (i := 18) rfl)
theorem wd19 {Z : State} {a0 : Array Value} (hw : ∀ d ∈ tables_1, d.before a0 Z = true) : (Jvm.Cond.laysFinal "com/example/vantrell/vantrell/statistics/Statistic$BoundedRange" "com/example/vantrell/vantrell/statistics/Statistic$BoundedRange" "startTime" "J").before a0 Z = true := hw _ (List.mem_of_getElem? (i := 19) rfl)
theorem wd5 {Z : State} {a0 : Array Value} (hw : ∀ d ∈ tables_1, d.before a0 Z = true) : (Jvm.Cond.instantiable "com/example/vantrell/vantrell/statistics/Statistic$BoundedRange" (6 : Nat)).before a0 Z = true := hw _ (List.mem_of_getElem? (i := 5) rfl)
theorem d2_9 : decode prog_41_method_1_code 9 = .ok (.aload_n 0, 1) := by decide +kernel
theorem d2_10 : decode prog_41_method_1_code 10 = .ok (.lload_n 3, 1) := by decide +kernel
theorem d2_11 : decode prog_41_method_1_code 11 = .ok (.putfield 13, 3) := by decide +kernel
theorem wd20 {Z : State} {a0 : Array Value} (hw : ∀ d ∈ tables_1, d.before a0 Z = true) : (Jvm.Cond.fieldLink "com/example/vantrell/vantrell/statistics/Statistic$BoundedRange" (13 : Nat) "com/example/vantrell/vantrell/statistics/Statistic$BoundedRange" "upperBound" "J").before a0 Z = true := hw _ (List.mem_of_getElem? (i := 20) rfl)
theorem wd21 {Z : State} {a0 : Array Value} (hw : ∀ d ∈ tables_1, d.before a0 Z = true) : (Jvm.Cond.laysFinal "com/example/vantrell/vantrell/statistics/Statistic$BoundedRange" "com/example/vantrell/vantrell/statistics/Statistic$BoundedRange" "upperBound" "J").before a0 Z = true := hw _ (List.mem_of_getElem? (i := 21) rfl)
theorem d2_14 : decode prog_41_method_1_code 14 = .ok (.aload_n 0, 1) := by decide +kernel
theorem d2_15 : decode prog_41_method_1_code 15 = .ok (.lload 5, 2) := by decide +kernel
theorem d2_17 : decode prog_41_method_1_code 17 = .ok (.putfield 16, 3) := by decide +kernel
theorem wd22 {Z : State} {a0 : Array Value} (hw : ∀ d ∈ tables_1, d.before a0 Z = true) : (Jvm.Cond.fieldLink "com/example/vantrell/vantrell/statistics/Statistic$BoundedRange" (16 : Nat) "com/example/vantrell/vantrell/statistics/Statistic$BoundedRange" "lowerBound" "J").before a0 Z = true := hw _ (List.mem_of_getElem? (i := 22) rfl)
theorem wd23 {Z : State} {a0 : Array Value} (hw : ∀ d ∈ tables_1, d.before a0 Z = true) : (Jvm.Cond.laysFinal "com/example/vantrell/vantrell/statistics/Statistic$BoundedRange" "com/example/vantrell/vantrell/statistics/Statistic$BoundedRange" "lowerBound" "J").before a0 Z = true := hw _ (List.mem_of_getElem? (i := 23) rfl)
theorem d2_20 : decode prog_41_method_1_code 20 = .ok (.aload_n 0, 1) := by decide +kernel
theorem d2_21 : decode prog_41_method_1_code 21 = .ok (.lload 7, 2) := by decide +kernel
theorem d2_23 : decode prog_41_method_1_code 23 = .ok (.putfield 19, 3) := by decide +kernel
theorem wd24 {Z : State} {a0 : Array Value} (hw : ∀ d ∈ tables_1, d.before a0 Z = true) : (Jvm.Cond.fieldLink "com/example/vantrell/vantrell/statistics/Statistic$BoundedRange" (19 : Nat) "com/example/vantrell/vantrell/statistics/Statistic$BoundedRange" "highWaterMark" "J").before a0 Z = true := hw _ (List.mem_of_getElem? (i := 24) rfl)
theorem wd25 {Z : State} {a0 : Array Value} (hw : ∀ d ∈ tables_1, d.before a0 Z = true) : (Jvm.Cond.laysFinal "com/example/vantrell/vantrell/statistics/Statistic$BoundedRange" "com/example/vantrell/vantrell/statistics/Statistic$BoundedRange" "highWaterMark" "J").before a0 Z = true := hw _ (List.mem_of_getElem? (i := 25) rfl)
theorem d2_26 : decode prog_41_method_1_code 26 = .ok (.aload_n 0, 1) := by decide +kernel
theorem d2_27 : decode prog_41_method_1_code 27 = .ok (.lload 9, 2) := by decide +kernel
theorem d2_29 : decode prog_41_method_1_code 29 = .ok (.putfield 22, 3) := by decide +kernel
theorem wd26 {Z : State} {a0 : Array Value} (hw : ∀ d ∈ tables_1, d.before a0 Z = true) : (Jvm.Cond.fieldLink "com/example/vantrell/vantrell/statistics/Statistic$BoundedRange" (22 : Nat) "com/example/vantrell/vantrell/statistics/Statistic$BoundedRange" "lowWaterMark" "J").before a0 Z = true := hw _ (List.mem_of_getElem? (i := 26) rfl)
theorem wd27 {Z : State} {a0 : Array Value} (hw : ∀ d ∈ tables_1, d.before a0 Z = true) : (Jvm.Cond.laysFinal "com/example/vantrell/vantrell/statistics/Statistic$BoundedRange" "com/example/vantrell/vantrell/statistics/Statistic$BoundedRange" "lowWaterMark" "J").before a0 Z = true := hw _ (List.mem_of_getElem? (i := 27) rfl)
theorem d2_32 : decode prog_41_method_1_code 32 = .ok (.aload_n 0, 1) := by decide +kernel
theorem d2_33 : decode prog_41_method_1_code 33 = .ok (.lload 11, 2) := by decide +kernel
theorem d2_35 : decode prog_41_method_1_code 35 = .ok (.putfield 25, 3) := by decide +kernel
theorem wd28 {Z : State} {a0 : Array Value} (hw : ∀ d ∈ tables_1, d.before a0 Z = true) : (Jvm.Cond.fieldLink "com/example/vantrell/vantrell/statistics/Statistic$BoundedRange" (25 : Nat) "com/example/vantrell/vantrell/statistics/Statistic$BoundedRange" "current" "J").before a0 Z = true := hw _ (List.mem_of_getElem? (i := 28) rfl)
theorem wd29 {Z : State} {a0 : Array Value} (hw : ∀ d ∈ tables_1, d.before a0 Z = true) : (Jvm.Cond.laysFinal "com/example/vantrell/vantrell/statistics/Statistic$BoundedRange" "com/example/vantrell/vantrell/statistics/Statistic$BoundedRange" "current" "J").before a0 Z = true := hw _ (List.mem_of_getElem? (i := 29) rfl)
theorem d2_38 : decode prog_41_method_1_code 38 = .ok (.return_, 1) := by decide +kernel
theorem pn1 : plainName "com/example/vantrell/vantrell/statistics/Statistic$BoundedRange" = true := by first | (simp [plainName, overriddenIn]; done) | decide +kernel
def Q2 (Z : State) (a1 : Addr) (q2 : Int64) (q3 : Int64) (q4 : Int64) (q5 : Int64) (q6 : Int64) (q7 : Int64) (u_a1_startTime : Value) (u_a1_upperBound : Value) (u_a1_lowerBound : Value) (u_a1_highWaterMark : Value) (u_a1_lowWaterMark : Value) (u_a1_current : Value) (h0 : Heap) (n0 : Nat) (v : Option Value) (h : Heap) (L : List Loc) : Prop := v = none ∧ Fr n0 L ∧ Keep h0 h [a1] ∧ Exa Z h a1 "com/example/vantrell/vantrell/statistics/Statistic$BoundedRange" ∧ Fld Z h a1 "com/example/vantrell/vantrell/statistics/Statistic$BoundedRange" "startTime" "J" (.long q2) ∧ Fld Z h a1 "com/example/vantrell/vantrell/statistics/Statistic$BoundedRange" "upperBound" "J" (.long q3) ∧ Fld Z h a1 "com/example/vantrell/vantrell/statistics/Statistic$BoundedRange" "lowerBound" "J" (.long q4) ∧ Fld Z h a1 "com/example/vantrell/vantrell/statistics/Statistic$BoundedRange" "highWaterMark" "J" (.long q5) ∧ Fld Z h a1 "com/example/vantrell/vantrell/statistics/Statistic$BoundedRange" "lowWaterMark" "J" (.long q6) ∧ Fld Z h a1 "com/example/vantrell/vantrell/statistics/Statistic$BoundedRange" "current" "J" (.long q7)
theorem ef2 (m : MethodId) (x0 : Addr) (x1 : Int64) (x2 : Int64) (x3 : Int64) (x4 : Int64) (x5 : Int64) (x6 : Int64) : entryFrame m #[(.ref x0), (.long x1), (.long x2), (.long x3), (.long x4), (.long x5), (.long x6)] 13 = mkF m 0 #[.val (.ref x0), .val (.long x1), .second, .val (.long x2), .second, .val (.long x3), .second, .val (.long x4), .second, .val (.long x5), .second, .val (.long x6), .second] [] := by first | (simp [entryFrame, mkF, argsToLocals, Value.category]; done) | rfl
set_option maxRecDepth 65536 in
set_option maxHeartbeats 16000000 in
theorem rm2 (l : Launch) (Z : State) (a0 : Array Value) (hw : ∀ d ∈ tables_1, d.before a0 Z = true) (ws : List Jvm.Cond) (a1 : Addr) (q2 : Int64) (q3 : Int64) (q4 : Int64) (q5 : Int64) (q6 : Int64) (q7 : Int64) (u_a1_startTime : Value) (u_a1_upperBound : Value) (u_a1_lowerBound : Value) (u_a1_highWaterMark : Value) (u_a1_lowWaterMark : Value) (u_a1_current : Value) (h0 : Heap) (n0 : Nat) (Z0 : n0 ≤ h0.size) (E_a1 : Exa Z h0 a1 "com/example/vantrell/vantrell/statistics/Statistic$BoundedRange") (F_a1_startTime : Fld Z h0 a1 "com/example/vantrell/vantrell/statistics/Statistic$BoundedRange" "startTime" "J" u_a1_startTime) (F_a1_upperBound : Fld Z h0 a1 "com/example/vantrell/vantrell/statistics/Statistic$BoundedRange" "upperBound" "J" u_a1_upperBound) (F_a1_lowerBound : Fld Z h0 a1 "com/example/vantrell/vantrell/statistics/Statistic$BoundedRange" "lowerBound" "J" u_a1_lowerBound) (F_a1_highWaterMark : Fld Z h0 a1 "com/example/vantrell/vantrell/statistics/Statistic$BoundedRange" "highWaterMark" "J" u_a1_highWaterMark) (F_a1_lowWaterMark : Fld Z h0 a1 "com/example/vantrell/vantrell/statistics/Statistic$BoundedRange" "lowWaterMark" "J" u_a1_lowWaterMark) (F_a1_current : Fld Z h0 a1 "com/example/vantrell/vantrell/statistics/Statistic$BoundedRange" "current" "J" u_a1_current) (g_a1 : n0 ≤ a1) :
    MetFree l (⟨"com/example/vantrell/vantrell/statistics/Statistic$BoundedRange", "<init>", "(JJJJJJ)V"⟩ : MethodName) (head1 (Jvm.Cond.code (⟨"com/example/vantrell/vantrell/statistics/Statistic$BoundedRange", "<init>", "(JJJJJJ)V"⟩ : MethodName) prog_41_method_1_code 13 none :: ws) ({ frames := 2, cells := 0, slots := 0, locals := 24 } : Room)) (fun a U => a = #[(.ref a1), (.long q2), (.long q3), (.long q4), (.long q5), (.long q6), (.long q7)] ∧ Z.Warmed39 U.vm ∧ U.heap = h0) (fun _ _ _ _ _ => True) (fun _ U o U' => ∃ v L, o = .returned v ∧ Q2 Z a1 q2 q3 q4 q5 q6 q7 u_a1_startTime u_a1_upperBound u_a1_lowerBound u_a1_highWaterMark u_a1_lowWaterMark u_a1_current h0 n0 v U'.heap L ∧ FrameEnd U o U' L ({ frames := 2, cells := 0, slots := 0, locals := 24 } : Room).cells ({ frames := 2, cells := 0, slots := 0, locals := 24 } : Room).slots) := by
  refine MetFree.of_bodySF (plainFor_of_name pn1) hisR ?_
  intro p e s m args below meth c s₁ Bd hml0 hP hK
  obtain ⟨rfl, hZ, hh⟩ := hP
  have hx := Bd.exec
  have hby := Bd.bytes
  have hml : c.maxLocals = 13 := hml0
  have hown : s.vm.findClass "com/example/vantrell/vantrell/statistics/Statistic$BoundedRange" = some m.cls := findClass_of_methodNamed Bd.named
  have hnm := (name_of_methodNamed Bd.named Bd.method).1
  have X0 : Stand p l e ({ frames := 2, cells := 0, slots := 0, locals := 24 } : Room) s m #[(.ref a1), (.long q2), (.long q3), (.long q4), (.long q5), (.long q6), (.long q7)] below meth c s₁ [] 0 0 := Stand.of_body Bd
  have e0 : s₁.heap = h0 := by rw [← hh, Bd.state]; rfl
  have N0 := Fr.nil n0
  have K0 : Keep h0 h0 [a1] := Keep.refl h0 _
  refine Go.st (P := fun o U' => ∃ v L, o = .returned v ∧ Q2 Z a1 q2 q3 q4 q5 q6 q7 u_a1_startTime u_a1_upperBound u_a1_lowerBound u_a1_highWaterMark u_a1_lowWaterMark u_a1_current h0 n0 v U'.heap L ∧ FrameEnd s o U' L ({ frames := 2, cells := 0, slots := 0, locals := 24 } : Room).cells ({ frames := 2, cells := 0, slots := 0, locals := 24 } : Room).slots) (fun t k => castTop (ef2 m a1 q2 q3 q4 q5 q6 q7) k) ?_
  show Go _ _ _ (s₁.setTop (mkF m 0 #[.val (.ref a1), .val (.long q2), .second, .val (.long q3), .second, .val (.long q4), .second, .val (.long q5), .second, .val (.long q6), .second, .val (.long q7), .second] [])) _
  refine Go.st (fun t k => XS.aloadN X0.here hx rfl (hb hby d2_0) rfl rfl k) ?_
  obtain ⟨_, _, ⟨T1, L1, k1, n1⟩, -, X1, ⟨Lc1, hQ1, l1, y1, z1⟩, st1⟩ := X0.specialBack hx (y := (⟨"java/lang/Record", "<init>", "()V"⟩ : MethodName)) rfl hown (mvT hZ (wd10 hw)) (mvT hZ (wd11 hw)) (mvT hZ (wd14 hw)) (by decide) (backOf (W := 0) (rm3 l Z a0 hw [] a1 h0 n0 Z0) hZ (wd14 hw) (wd13 hw) (by decide) (by decide)) (g := (mkF m 1 #[.val (.ref a1), .val (.long q2), .second, .val (.long q3), .second, .val (.long q4), .second, .val (.long q5), .second, .val (.long q6), .second, .val (.long q7), .second] [(.ref a1)])) rfl (by rw [hml]; rfl) (Steps.refl _) (a := a1) (argsL := []) (rest := []) (lenOf pd0 rfl) rfl (by show 2 * 0 + _ ≤ _; exact Nat.le_of_eq rfl) (hb hby d2_1) (fun _ _ => ⟨rfl, e0, (by decide : 0 + 0 ≤ _), (by decide : 0 + 0 ≤ _)⟩)
  dsimp only [Pt.U, Pt.locs, Pt.cells, Pt.slots] at X1 l1 y1 z1 st1 hQ1
  subst l1 y1 z1
  refine Go.tr st1 ?_
  obtain ⟨rfl, N1q, e1⟩ := hQ1
  have N1 := Fr.app N0 N1q
  show Go _ _ _ (T1.setTop (mkF m 4 #[.val (.ref a1), .val (.long q2), .second, .val (.long q3), .second, .val (.long q4), .second, .val (.long q5), .second, .val (.long q6), .second, .val (.long q7), .second] [])) _
  refine Go.st (fun t k => XS.aloadN X1.here hx rfl (hb hby d2_4) rfl rfl k) ?_
  refine Go.st (fun t k => XS.lloadN X1.here hx rfl (hb hby d2_5) rfl k) ?_
  obtain ⟨T2, h2, X2, e2, W2, st2⟩ := putF X1 hx hZ hown (host := "") (Or.inl (wd18 hw)) Via.refl e1 F_a1_startTime E_a1 (Or.inr ⟨(wd19 hw), rfl, hnm⟩) (wd5 hw) (ty := .long) (by decide) rfl rfl (g := (mkF m 6 #[.val (.ref a1), .val (.long q2), .second, .val (.long q3), .second, .val (.long q4), .second, .val (.long q5), .second, .val (.long q6), .second, .val (.long q7), .second] [(.long q2), (.ref a1)])) rfl rfl (hb hby d2_6)
  refine Go.st st2 ?_
  have N2 := Fr.snoc X2 N1 g_a1
  replace E_a1 := E_a1.wr W2
  replace F_a1_startTime := F_a1_startTime.same W2
  replace F_a1_upperBound := F_a1_upperBound.other W2 (Or.inr (slot_ne (Or.inr (wd21 hw)) (Or.inr (wd19 hw)) (by decide) (t := .long) (t' := .long) (by decide) (by decide)))
  replace F_a1_lowerBound := F_a1_lowerBound.other W2 (Or.inr (slot_ne (Or.inr (wd23 hw)) (Or.inr (wd19 hw)) (by decide) (t := .long) (t' := .long) (by decide) (by decide)))
  replace F_a1_highWaterMark := F_a1_highWaterMark.other W2 (Or.inr (slot_ne (Or.inr (wd25 hw)) (Or.inr (wd19 hw)) (by decide) (t := .long) (t' := .long) (by decide) (by decide)))
  replace F_a1_lowWaterMark := F_a1_lowWaterMark.other W2 (Or.inr (slot_ne (Or.inr (wd27 hw)) (Or.inr (wd19 hw)) (by decide) (t := .long) (t' := .long) (by decide) (by decide)))
  replace F_a1_current := F_a1_current.other W2 (Or.inr (slot_ne (Or.inr (wd29 hw)) (Or.inr (wd19 hw)) (by decide) (t := .long) (t' := .long) (by decide) (by decide)))
  replace Z0 := Nat.le_trans Z0 (Nat.le_of_eq W2.size.symm)
  replace K0 := K0.wr W2 (Or.inl (by simp))
  show Go _ _ _ (T2.setTop (mkF m 9 #[.val (.ref a1), .val (.long q2), .second, .val (.long q3), .second, .val (.long q4), .second, .val (.long q5), .second, .val (.long q6), .second, .val (.long q7), .second] [])) _
  refine Go.st (fun t k => XS.aloadN X2.here hx rfl (hb hby d2_9) rfl rfl k) ?_
  refine Go.st (fun t k => XS.lloadN X2.here hx rfl (hb hby d2_10) rfl k) ?_
  obtain ⟨T3, h3, X3, e3, W3, st3⟩ := putF X2 hx hZ hown (host := "") (Or.inl (wd20 hw)) Via.refl e2 F_a1_upperBound E_a1 (Or.inr ⟨(wd21 hw), rfl, hnm⟩) (wd5 hw) (ty := .long) (by decide) rfl rfl (g := (mkF m 11 #[.val (.ref a1), .val (.long q2), .second, .val (.long q3), .second, .val (.long q4), .second, .val (.long q5), .second, .val (.long q6), .second, .val (.long q7), .second] [(.long q3), (.ref a1)])) rfl rfl (hb hby d2_11)
  refine Go.st st3 ?_
  have N3 := Fr.snoc X3 N2 g_a1
  replace E_a1 := E_a1.wr W3
  replace F_a1_startTime := F_a1_startTime.other W3 (Or.inr (slot_ne (Or.inr (wd19 hw)) (Or.inr (wd21 hw)) (by decide) (t := .long) (t' := .long) (by decide) (by decide)))
  replace F_a1_upperBound := F_a1_upperBound.same W3
  replace F_a1_lowerBound := F_a1_lowerBound.other W3 (Or.inr (slot_ne (Or.inr (wd23 hw)) (Or.inr (wd21 hw)) (by decide) (t := .long) (t' := .long) (by decide) (by decide)))
  replace F_a1_highWaterMark := F_a1_highWaterMark.other W3 (Or.inr (slot_ne (Or.inr (wd25 hw)) (Or.inr (wd21 hw)) (by decide) (t := .long) (t' := .long) (by decide) (by decide)))
  replace F_a1_lowWaterMark := F_a1_lowWaterMark.other W3 (Or.inr (slot_ne (Or.inr (wd27 hw)) (Or.inr (wd21 hw)) (by decide) (t := .long) (t' := .long) (by decide) (by decide)))
  replace F_a1_current := F_a1_current.other W3 (Or.inr (slot_ne (Or.inr (wd29 hw)) (Or.inr (wd21 hw)) (by decide) (t := .long) (t' := .long) (by decide) (by decide)))
  replace Z0 := Nat.le_trans Z0 (Nat.le_of_eq W3.size.symm)
  replace K0 := K0.wr W3 (Or.inl (by simp))
  show Go _ _ _ (T3.setTop (mkF m 14 #[.val (.ref a1), .val (.long q2), .second, .val (.long q3), .second, .val (.long q4), .second, .val (.long q5), .second, .val (.long q6), .second, .val (.long q7), .second] [])) _
  refine Go.st (fun t k => XS.aloadN X3.here hx rfl (hb hby d2_14) rfl rfl k) ?_
  refine Go.st (fun t k => XS.lload X3.here hx rfl (hb hby d2_15) rfl k) ?_
  obtain ⟨T4, h4, X4, e4, W4, st4⟩ := putF X3 hx hZ hown (host := "") (Or.inl (wd22 hw)) Via.refl e3 F_a1_lowerBound E_a1 (Or.inr ⟨(wd23 hw), rfl, hnm⟩) (wd5 hw) (ty := .long) (by decide) rfl rfl (g := (mkF m 17 #[.val (.ref a1), .val (.long q2), .second, .val (.long q3), .second, .val (.long q4), .second, .val (.long q5), .second, .val (.long q6), .second, .val (.long q7), .second] [(.long q4), (.ref a1)])) rfl rfl (hb hby d2_17)
  refine Go.st st4 ?_
  have N4 := Fr.snoc X4 N3 g_a1
  replace E_a1 := E_a1.wr W4
  replace F_a1_startTime := F_a1_startTime.other W4 (Or.inr (slot_ne (Or.inr (wd19 hw)) (Or.inr (wd23 hw)) (by decide) (t := .long) (t' := .long) (by decide) (by decide)))
  replace F_a1_upperBound := F_a1_upperBound.other W4 (Or.inr (slot_ne (Or.inr (wd21 hw)) (Or.inr (wd23 hw)) (by decide) (t := .long) (t' := .long) (by decide) (by decide)))
  replace F_a1_lowerBound := F_a1_lowerBound.same W4
  replace F_a1_highWaterMark := F_a1_highWaterMark.other W4 (Or.inr (slot_ne (Or.inr (wd25 hw)) (Or.inr (wd23 hw)) (by decide) (t := .long) (t' := .long) (by decide) (by decide)))
  replace F_a1_lowWaterMark := F_a1_lowWaterMark.other W4 (Or.inr (slot_ne (Or.inr (wd27 hw)) (Or.inr (wd23 hw)) (by decide) (t := .long) (t' := .long) (by decide) (by decide)))
  replace F_a1_current := F_a1_current.other W4 (Or.inr (slot_ne (Or.inr (wd29 hw)) (Or.inr (wd23 hw)) (by decide) (t := .long) (t' := .long) (by decide) (by decide)))
  replace Z0 := Nat.le_trans Z0 (Nat.le_of_eq W4.size.symm)
  replace K0 := K0.wr W4 (Or.inl (by simp))
  show Go _ _ _ (T4.setTop (mkF m 20 #[.val (.ref a1), .val (.long q2), .second, .val (.long q3), .second, .val (.long q4), .second, .val (.long q5), .second, .val (.long q6), .second, .val (.long q7), .second] [])) _
  refine Go.st (fun t k => XS.aloadN X4.here hx rfl (hb hby d2_20) rfl rfl k) ?_
  refine Go.st (fun t k => XS.lload X4.here hx rfl (hb hby d2_21) rfl k) ?_
  obtain ⟨T5, h5, X5, e5, W5, st5⟩ := putF X4 hx hZ hown (host := "") (Or.inl (wd24 hw)) Via.refl e4 F_a1_highWaterMark E_a1 (Or.inr ⟨(wd25 hw), rfl, hnm⟩) (wd5 hw) (ty := .long) (by decide) rfl rfl (g := (mkF m 23 #[.val (.ref a1), .val (.long q2), .second, .val (.long q3), .second, .val (.long q4), .second, .val (.long q5), .second, .val (.long q6), .second, .val (.long q7), .second] [(.long q5), (.ref a1)])) rfl rfl (hb hby d2_23)
  refine Go.st st5 ?_
  have N5 := Fr.snoc X5 N4 g_a1
  replace E_a1 := E_a1.wr W5
  replace F_a1_startTime := F_a1_startTime.other W5 (Or.inr (slot_ne (Or.inr (wd19 hw)) (Or.inr (wd25 hw)) (by decide) (t := .long) (t' := .long) (by decide) (by decide)))
  replace F_a1_upperBound := F_a1_upperBound.other W5 (Or.inr (slot_ne (Or.inr (wd21 hw)) (Or.inr (wd25 hw)) (by decide) (t := .long) (t' := .long) (by decide) (by decide)))
  replace F_a1_lowerBound := F_a1_lowerBound.other W5 (Or.inr (slot_ne (Or.inr (wd23 hw)) (Or.inr (wd25 hw)) (by decide) (t := .long) (t' := .long) (by decide) (by decide)))
  replace F_a1_highWaterMark := F_a1_highWaterMark.same W5
  replace F_a1_lowWaterMark := F_a1_lowWaterMark.other W5 (Or.inr (slot_ne (Or.inr (wd27 hw)) (Or.inr (wd25 hw)) (by decide) (t := .long) (t' := .long) (by decide) (by decide)))
  replace F_a1_current := F_a1_current.other W5 (Or.inr (slot_ne (Or.inr (wd29 hw)) (Or.inr (wd25 hw)) (by decide) (t := .long) (t' := .long) (by decide) (by decide)))
  replace Z0 := Nat.le_trans Z0 (Nat.le_of_eq W5.size.symm)
  replace K0 := K0.wr W5 (Or.inl (by simp))
  show Go _ _ _ (T5.setTop (mkF m 26 #[.val (.ref a1), .val (.long q2), .second, .val (.long q3), .second, .val (.long q4), .second, .val (.long q5), .second, .val (.long q6), .second, .val (.long q7), .second] [])) _
  refine Go.st (fun t k => XS.aloadN X5.here hx rfl (hb hby d2_26) rfl rfl k) ?_
  refine Go.st (fun t k => XS.lload X5.here hx rfl (hb hby d2_27) rfl k) ?_
  obtain ⟨T6, h6, X6, e6, W6, st6⟩ := putF X5 hx hZ hown (host := "") (Or.inl (wd26 hw)) Via.refl e5 F_a1_lowWaterMark E_a1 (Or.inr ⟨(wd27 hw), rfl, hnm⟩) (wd5 hw) (ty := .long) (by decide) rfl rfl (g := (mkF m 29 #[.val (.ref a1), .val (.long q2), .second, .val (.long q3), .second, .val (.long q4), .second, .val (.long q5), .second, .val (.long q6), .second, .val (.long q7), .second] [(.long q6), (.ref a1)])) rfl rfl (hb hby d2_29)
  refine Go.st st6 ?_
  have N6 := Fr.snoc X6 N5 g_a1
  replace E_a1 := E_a1.wr W6
  replace F_a1_startTime := F_a1_startTime.other W6 (Or.inr (slot_ne (Or.inr (wd19 hw)) (Or.inr (wd27 hw)) (by decide) (t := .long) (t' := .long) (by decide) (by decide)))
  replace F_a1_upperBound := F_a1_upperBound.other W6 (Or.inr (slot_ne (Or.inr (wd21 hw)) (Or.inr (wd27 hw)) (by decide) (t := .long) (t' := .long) (by decide) (by decide)))
  replace F_a1_lowerBound := F_a1_lowerBound.other W6 (Or.inr (slot_ne (Or.inr (wd23 hw)) (Or.inr (wd27 hw)) (by decide) (t := .long) (t' := .long) (by decide) (by decide)))
  replace F_a1_highWaterMark := F_a1_highWaterMark.other W6 (Or.inr (slot_ne (Or.inr (wd25 hw)) (Or.inr (wd27 hw)) (by decide) (t := .long) (t' := .long) (by decide) (by decide)))
  replace F_a1_lowWaterMark := F_a1_lowWaterMark.same W6
  replace F_a1_current := F_a1_current.other W6 (Or.inr (slot_ne (Or.inr (wd29 hw)) (Or.inr (wd27 hw)) (by decide) (t := .long) (t' := .long) (by decide) (by decide)))
  replace Z0 := Nat.le_trans Z0 (Nat.le_of_eq W6.size.symm)
  replace K0 := K0.wr W6 (Or.inl (by simp))
  show Go _ _ _ (T6.setTop (mkF m 32 #[.val (.ref a1), .val (.long q2), .second, .val (.long q3), .second, .val (.long q4), .second, .val (.long q5), .second, .val (.long q6), .second, .val (.long q7), .second] [])) _
  refine Go.st (fun t k => XS.aloadN X6.here hx rfl (hb hby d2_32) rfl rfl k) ?_
  refine Go.st (fun t k => XS.lload X6.here hx rfl (hb hby d2_33) rfl k) ?_
  obtain ⟨T7, h7, X7, e7, W7, st7⟩ := putF X6 hx hZ hown (host := "") (Or.inl (wd28 hw)) Via.refl e6 F_a1_current E_a1 (Or.inr ⟨(wd29 hw), rfl, hnm⟩) (wd5 hw) (ty := .long) (by decide) rfl rfl (g := (mkF m 35 #[.val (.ref a1), .val (.long q2), .second, .val (.long q3), .second, .val (.long q4), .second, .val (.long q5), .second, .val (.long q6), .second, .val (.long q7), .second] [(.long q7), (.ref a1)])) rfl rfl (hb hby d2_35)
  refine Go.st st7 ?_
  have N7 := Fr.snoc X7 N6 g_a1
  replace E_a1 := E_a1.wr W7
  replace F_a1_startTime := F_a1_startTime.other W7 (Or.inr (slot_ne (Or.inr (wd19 hw)) (Or.inr (wd29 hw)) (by decide) (t := .long) (t' := .long) (by decide) (by decide)))
  replace F_a1_upperBound := F_a1_upperBound.other W7 (Or.inr (slot_ne (Or.inr (wd21 hw)) (Or.inr (wd29 hw)) (by decide) (t := .long) (t' := .long) (by decide) (by decide)))
  replace F_a1_lowerBound := F_a1_lowerBound.other W7 (Or.inr (slot_ne (Or.inr (wd23 hw)) (Or.inr (wd29 hw)) (by decide) (t := .long) (t' := .long) (by decide) (by decide)))
  replace F_a1_highWaterMark := F_a1_highWaterMark.other W7 (Or.inr (slot_ne (Or.inr (wd25 hw)) (Or.inr (wd29 hw)) (by decide) (t := .long) (t' := .long) (by decide) (by decide)))
  replace F_a1_lowWaterMark := F_a1_lowWaterMark.other W7 (Or.inr (slot_ne (Or.inr (wd27 hw)) (Or.inr (wd29 hw)) (by decide) (t := .long) (t' := .long) (by decide) (by decide)))
  replace F_a1_current := F_a1_current.same W7
  replace Z0 := Nat.le_trans Z0 (Nat.le_of_eq W7.size.symm)
  replace K0 := K0.wr W7 (Or.inl (by simp))
  show Go _ _ _ (T7.setTop (mkF m 38 #[.val (.ref a1), .val (.long q2), .second, .val (.long q3), .second, .val (.long q4), .second, .val (.long q5), .second, .val (.long q6), .second, .val (.long q7), .second] [])) _
  obtain ⟨fs, hr, hrun, hended, hW, hsame⟩ := X7.leave (v := none) (fun _ => rfl)
  refine Go.fin (X7.returnOut hx Bd.returns (hb hby d2_38) hr) hrun hended ⟨_, _, rfl, ?_, ⟨_, rfl⟩, hW, hsame.mono (by decide) (by decide)⟩
  show Q2 Z a1 q2 q3 q4 q5 q6 q7 u_a1_startTime u_a1_upperBound u_a1_lowerBound u_a1_highWaterMark u_a1_lowWaterMark u_a1_current h0 n0 _ T7.heap _
  rw [e7]
  exact ⟨rfl, N7, K0, E_a1, F_a1_startTime, F_a1_upperBound, F_a1_lowerBound, F_a1_highWaterMark, F_a1_lowWaterMark, F_a1_current⟩
theorem d1_0 : decode prog_41_method_3_code 0 = .ok (.new 8, 3) := by decide +kernel
theorem wd4 {Z : State} {a0 : Array Value} (hw : ∀ d ∈ tables_1, d.before a0 Z = true) : (Jvm.Cond.classLink "com/example/vantrell/vantrell/statistics/Statistic$BoundedRange" (8 : Nat) "com/example/vantrell/vantrell/statistics/Statistic$BoundedRange").before a0 Z = true := hw _ (List.mem_of_getElem? (i := 4) rfl)
theorem wd2 {Z : State} {a0 : Array Value} (hw : ∀ d ∈ tables_1, d.before a0 Z = true) : (Jvm.Cond.initialized "com/example/vantrell/vantrell/statistics/Statistic$BoundedRange").before a0 Z = true := hw _ (List.mem_of_getElem? (i := 2) rfl)
theorem d1_3 : decode prog_41_method_3_code 3 = .ok (.dup, 1) := by decide +kernel
theorem d1_4 : decode prog_41_method_3_code 4 = .ok (.lload_n 0, 1) := by decide +kernel
theorem d1_5 : decode prog_41_method_3_code 5 = .ok (.ldc2_w 30, 3) := by decide +kernel
theorem wd6 {Z : State} {a0 : Array Value} (hw : ∀ d ∈ tables_1, d.before a0 Z = true) : (Jvm.Cond.constantLong "com/example/vantrell/vantrell/statistics/Statistic$BoundedRange" (30 : Nat) (-1 : Int64)).before a0 Z = true := hw _ (List.mem_of_getElem? (i := 6) rfl)
theorem d1_8 : decode prog_41_method_3_code 8 = .ok (.ldc2_w 30, 3) := by decide +kernel
theorem d1_11 : decode prog_41_method_3_code 11 = .ok (.ldc2_w 30, 3) := by decide +kernel
theorem d1_14 : decode prog_41_method_3_code 14 = .ok (.ldc2_w 30, 3) := by decide +kernel
theorem d1_17 : decode prog_41_method_3_code 17 = .ok (.ldc2_w 30, 3) := by decide +kernel
theorem d1_20 : decode prog_41_method_3_code 20 = .ok (.invokespecial 43, 3) := by decide +kernel
theorem wd9 {Z : State} {a0 : Array Value} (hw : ∀ d ∈ tables_1, d.before a0 Z = true) : (Jvm.Cond.code ({ cls := "com/example/vantrell/vantrell/statistics/Statistic$BoundedRange", name := "<init>", desc := "(JJJJJJ)V" } : Jvm.MethodName) prog_41_method_1_code (13 : Nat) (Option.none : Option Jvm.ClassFile.FieldType)).before a0 Z = true := hw _ (List.mem_of_getElem? (i := 9) rfl)
theorem pd1 : parseMethodDescriptor "(JJJJJJ)V" = some ⟨[.long, .long, .long, .long, .long, .long], none⟩ := by decide +kernel
theorem wd8 {Z : State} {a0 : Array Value} (hw : ∀ d ∈ tables_1, d.before a0 Z = true) : (Jvm.Cond.instanceMethod ({ cls := "com/example/vantrell/vantrell/statistics/Statistic$BoundedRange", name := "<init>", desc := "(JJJJJJ)V" } : Jvm.MethodName)).before a0 Z = true := hw _ (List.mem_of_getElem? (i := 8) rfl)
theorem d1_23 : decode prog_41_method_3_code 23 = .ok (.areturn, 1) := by decide +kernel
def Q1 (Z : State) (q1 : Int64) (h0 : Heap) (n0 : Nat) (v : Option Value) (h : Heap) (L : List Loc) : Prop := ∃ x1_0 : Addr, v = some (.ref x1_0) ∧ Fr n0 L ∧ Keep h0 h [] ∧ n0 ≤ x1_0 ∧ h0.size ≤ x1_0 ∧ Exa Z h x1_0 "com/example/vantrell/vantrell/statistics/Statistic$BoundedRange" ∧ Fld Z h x1_0 "com/example/vantrell/vantrell/statistics/Statistic$BoundedRange" "startTime" "J" (.long q1) ∧ Fld Z h x1_0 "com/example/vantrell/vantrell/statistics/Statistic$BoundedRange" "upperBound" "J" (.long (-1 : Int64)) ∧ Fld Z h x1_0 "com/example/vantrell/vantrell/statistics/Statistic$BoundedRange" "lowerBound" "J" (.long (-1 : Int64)) ∧ Fld Z h x1_0 "com/example/vantrell/vantrell/statistics/Statistic$BoundedRange" "highWaterMark" "J" (.long (-1 : Int64)) ∧ Fld Z h x1_0 "com/example/vantrell/vantrell/statistics/Statistic$BoundedRange" "lowWaterMark" "J" (.long (-1 : Int64)) ∧ Fld Z h x1_0 "com/example/vantrell/vantrell/statistics/Statistic$BoundedRange" "current" "J" (.long (-1 : Int64))
theorem ef1 (m : MethodId) (x0 : Int64) : entryFrame m #[(.long x0)] 2 = mkF m 0 #[.val (.long x0), .second] [] := by first | (simp [entryFrame, mkF, argsToLocals, Value.category]; done) | rfl
set_option maxRecDepth 65536 in
set_option maxHeartbeats 16000000 in
theorem rm1 (l : Launch) (Z : State) (a0 : Array Value) (hw : ∀ d ∈ tables_1, d.before a0 Z = true) (ws : List Jvm.Cond) (q1 : Int64) (h0 : Heap) (n0 : Nat) (Z0 : n0 ≤ h0.size) :
    MetFree l (⟨"com/example/vantrell/vantrell/statistics/Statistic$BoundedRange", "notApplicable", "(J)Lcom/example/vantrell/vantrell/statistics/Statistic$BoundedRange;"⟩ : MethodName) (head1 (Jvm.Cond.code (⟨"com/example/vantrell/vantrell/statistics/Statistic$BoundedRange", "notApplicable", "(J)Lcom/example/vantrell/vantrell/statistics/Statistic$BoundedRange;"⟩ : MethodName) prog_41_method_3_code 2 (some (.object "com/example/vantrell/vantrell/statistics/Statistic$BoundedRange")) :: ws) ({ frames := 3, cells := 1, slots := 6, locals := 49 } : Room)) (fun a U => a = #[(.long q1)] ∧ Z.Warmed39 U.vm ∧ U.heap = h0) (fun _ _ _ _ _ => True) (fun _ U o U' => ∃ v L, o = .returned v ∧ Q1 Z q1 h0 n0 v U'.heap L ∧ FrameEnd U o U' L ({ frames := 3, cells := 1, slots := 6, locals := 49 } : Room).cells ({ frames := 3, cells := 1, slots := 6, locals := 49 } : Room).slots) := by
  refine MetFree.of_bodySF (plainFor_of_name pn1) hisR ?_
  intro p e s m args below meth c s₁ Bd hml0 hP hK
  obtain ⟨rfl, hZ, hh⟩ := hP
  have hx := Bd.exec
  have hby := Bd.bytes
  have hml : c.maxLocals = 2 := hml0
  have hown : s.vm.findClass "com/example/vantrell/vantrell/statistics/Statistic$BoundedRange" = some m.cls := findClass_of_methodNamed Bd.named
  have hnm := (name_of_methodNamed Bd.named Bd.method).1
  have X0 : Stand p l e ({ frames := 3, cells := 1, slots := 6, locals := 49 } : Room) s m #[(.long q1)] below meth c s₁ [] 0 0 := Stand.of_body Bd
  have e0 : s₁.heap = h0 := by rw [← hh, Bd.state]; rfl
  have N0 := Fr.nil n0
  have K0 : Keep h0 h0 [] := Keep.refl h0 _
  refine Go.st (P := fun o U' => ∃ v L, o = .returned v ∧ Q1 Z q1 h0 n0 v U'.heap L ∧ FrameEnd s o U' L ({ frames := 3, cells := 1, slots := 6, locals := 49 } : Room).cells ({ frames := 3, cells := 1, slots := 6, locals := 49 } : Room).slots) (fun t k => castTop (ef1 m q1) k) ?_
  show Go _ _ _ (s₁.setTop (mkF m 0 #[.val (.long q1), .second] [])) _
  obtain ⟨T1, h1, X1, e1, E1, A1, D1, -, st1⟩ := newO X0 hx hZ hown (wd4 hw) (wd5 hw) (wd2 hw) e0 (g := (mkF m 0 #[.val (.long q1), .second] [])) rfl (hb hby d1_0) (by decide) (by decide)
  obtain ⟨b1, g1⟩ : ∃ z, z = h0.size := ⟨_, rfl⟩
  rw [← g1] at A1 D1 st1
  refine Go.st st1 ?_
  have g_b1 : n0 ≤ b1 := Nat.le_trans Z0 (Nat.le_of_eq g1.symm)
  have sz_b1 : h0.size ≤ b1 := Nat.le_trans K0.1 (Nat.le_of_eq g1.symm)
  replace K0 := K0.ext E1
  replace Z0 := Nat.le_trans Z0 E1.1
  have E_b1 := A1
  have F_b1_startTime : Fld Z h1 b1 "com/example/vantrell/vantrell/statistics/Statistic$BoundedRange" "startTime" "J" (.long (0 : Int64)) := D1 (Or.inr (wd19 hw)) (ty := .long) (by decide)
  have F_b1_upperBound : Fld Z h1 b1 "com/example/vantrell/vantrell/statistics/Statistic$BoundedRange" "upperBound" "J" (.long (0 : Int64)) := D1 (Or.inr (wd21 hw)) (ty := .long) (by decide)
  have F_b1_lowerBound : Fld Z h1 b1 "com/example/vantrell/vantrell/statistics/Statistic$BoundedRange" "lowerBound" "J" (.long (0 : Int64)) := D1 (Or.inr (wd23 hw)) (ty := .long) (by decide)
  have F_b1_highWaterMark : Fld Z h1 b1 "com/example/vantrell/vantrell/statistics/Statistic$BoundedRange" "highWaterMark" "J" (.long (0 : Int64)) := D1 (Or.inr (wd25 hw)) (ty := .long) (by decide)
  have F_b1_lowWaterMark : Fld Z h1 b1 "com/example/vantrell/vantrell/statistics/Statistic$BoundedRange" "lowWaterMark" "J" (.long (0 : Int64)) := D1 (Or.inr (wd27 hw)) (ty := .long) (by decide)
  have F_b1_current : Fld Z h1 b1 "com/example/vantrell/vantrell/statistics/Statistic$BoundedRange" "current" "J" (.long (0 : Int64)) := D1 (Or.inr (wd29 hw)) (ty := .long) (by decide)
  show Go _ _ _ (T1.setTop (mkF m 3 #[.val (.long q1), .second] [(.ref b1)])) _
  refine Go.st (fun t k => XS.dup X1.here hx rfl (hb hby d1_3) rfl rfl k) ?_
  refine Go.st (fun t k => XS.lloadN X1.here hx rfl (hb hby d1_4) rfl k) ?_
  refine Go.st (fun t k => X1.ldc2Long hx hown (mvT hZ (wd6 hw)) (g := (mkF m 5 #[.val (.long q1), .second] [(.long q1), (.ref b1), (.ref b1)])) rfl (hb hby d1_5) _ k) ?_
  show Go _ _ _ (T1.setTop (mkF m 8 #[.val (.long q1), .second] [(.long (-1)), (.long q1), (.ref b1), (.ref b1)])) _
  refine Go.st (fun t k => X1.ldc2Long hx hown (mvT hZ (wd6 hw)) (g := (mkF m 8 #[.val (.long q1), .second] [(.long (-1)), (.long q1), (.ref b1), (.ref b1)])) rfl (hb hby d1_8) _ k) ?_
  show Go _ _ _ (T1.setTop (mkF m 11 #[.val (.long q1), .second] [(.long (-1)), (.long (-1)), (.long q1), (.ref b1), (.ref b1)])) _
  refine Go.st (fun t k => X1.ldc2Long hx hown (mvT hZ (wd6 hw)) (g := (mkF m 11 #[.val (.long q1), .second] [(.long (-1)), (.long (-1)), (.long q1), (.ref b1), (.ref b1)])) rfl (hb hby d1_11) _ k) ?_
  show Go _ _ _ (T1.setTop (mkF m 14 #[.val (.long q1), .second] [(.long (-1)), (.long (-1)), (.long (-1)), (.long q1), (.ref b1), (.ref b1)])) _
  refine Go.st (fun t k => X1.ldc2Long hx hown (mvT hZ (wd6 hw)) (g := (mkF m 14 #[.val (.long q1), .second] [(.long (-1)), (.long (-1)), (.long (-1)), (.long q1), (.ref b1), (.ref b1)])) rfl (hb hby d1_14) _ k) ?_
  show Go _ _ _ (T1.setTop (mkF m 17 #[.val (.long q1), .second] [(.long (-1)), (.long (-1)), (.long (-1)), (.long (-1)), (.long q1), (.ref b1), (.ref b1)])) _
  refine Go.st (fun t k => X1.ldc2Long hx hown (mvT hZ (wd6 hw)) (g := (mkF m 17 #[.val (.long q1), .second] [(.long (-1)), (.long (-1)), (.long (-1)), (.long (-1)), (.long q1), (.ref b1), (.ref b1)])) rfl (hb hby d1_17) _ k) ?_
  show Go _ _ _ (T1.setTop (mkF m 20 #[.val (.long q1), .second] [(.long (-1)), (.long (-1)), (.long (-1)), (.long (-1)), (.long (-1)), (.long q1), (.ref b1), (.ref b1)])) _
  obtain ⟨_, _, ⟨T2, L2, k2, n2⟩, -, X2, ⟨Lc2, hQ2, l2, y2, z2⟩, st2⟩ := X1.specialBack hx (y := (⟨"com/example/vantrell/vantrell/statistics/Statistic$BoundedRange", "<init>", "(JJJJJJ)V"⟩ : MethodName)) rfl hown (mvT hZ (wd7 hw)) (mvT hZ (wd8 hw)) (mvT hZ (wd9 hw)) (by decide) (backOf (W := 1) (rm2 l Z a0 hw [] b1 q1 (-1 : Int64) (-1 : Int64) (-1 : Int64) (-1 : Int64) (-1 : Int64) ((.long (0 : Int64)) : Value) ((.long (0 : Int64)) : Value) ((.long (0 : Int64)) : Value) ((.long (0 : Int64)) : Value) ((.long (0 : Int64)) : Value) ((.long (0 : Int64)) : Value) h1 n0 Z0 E_b1 F_b1_startTime F_b1_upperBound F_b1_lowerBound F_b1_highWaterMark F_b1_lowWaterMark F_b1_current g_b1) hZ (wd9 hw) (wd2 hw) (by decide) (by decide)) (g := (mkF m 20 #[.val (.long q1), .second] [(.long (-1)), (.long (-1)), (.long (-1)), (.long (-1)), (.long (-1)), (.long q1), (.ref b1), (.ref b1)])) rfl (by rw [hml]; rfl) (Steps.refl _) (a := b1) (argsL := [(.long q1), (.long (-1 : Int64)), (.long (-1 : Int64)), (.long (-1 : Int64)), (.long (-1 : Int64)), (.long (-1 : Int64))]) (rest := [(.ref b1)]) (lenOf pd1 rfl) rfl (by show 2 * 0 + _ ≤ _; exact Nat.le_of_eq rfl) (hb hby d1_20) (fun _ _ => ⟨rfl, e1, (by decide : 1 + 0 ≤ _), (by decide : 6 + 0 ≤ _)⟩)
  dsimp only [Pt.U, Pt.locs, Pt.cells, Pt.slots] at X2 l2 y2 z2 st2 hQ2
  subst l2 y2 z2
  refine Go.tr st2 ?_
  have E_b1_pre := E_b1
  have F_b1_startTime_pre := F_b1_startTime
  have F_b1_upperBound_pre := F_b1_upperBound
  have F_b1_lowerBound_pre := F_b1_lowerBound
  have F_b1_highWaterMark_pre := F_b1_highWaterMark
  have F_b1_lowWaterMark_pre := F_b1_lowWaterMark
  have F_b1_current_pre := F_b1_current
  obtain ⟨h2, e2⟩ : ∃ z, T2.heap = z := ⟨_, rfl⟩
  rw [e2] at hQ2
  obtain ⟨rfl, N2q, K2, Q2_0, Q2_1, Q2_2, Q2_3, Q2_4, Q2_5, Q2_6⟩ := hQ2
  replace E_b1 := E_b1.keep K2
  replace Z0 := Nat.le_trans Z0 K2.1
  replace K0 := K0.trans K2 (allS (Or.inr sz_b1) all0)
  have E_b1 := Q2_0
  have F_b1_startTime := Q2_1
  have F_b1_upperBound := Q2_2
  have F_b1_lowerBound := Q2_3
  have F_b1_highWaterMark := Q2_4
  have F_b1_lowWaterMark := Q2_5
  have F_b1_current := Q2_6
  have N2 := Fr.app N0 N2q
  show Go _ _ _ (T2.setTop (mkF m 23 #[.val (.long q1), .second] [(.ref b1)])) _
  obtain ⟨fs, hr, hrun, hended, hW, hsame⟩ := X2.leave (v := some (.ref b1)) (fun h => by rw [Bd.returns] at h; cases h)
  refine Go.fin (retOut X2 hx Bd.returns rfl (Or.inr (Or.inr (Or.inr (Or.inr ⟨rfl, rfl, rfl⟩)))) (hb hby d1_23) hr) hrun hended ⟨_, _, rfl, ?_, ⟨_, rfl⟩, hW, hsame.mono (by decide) (by decide)⟩
  show Q1 Z q1 h0 n0 _ T2.heap _
  rw [e2]
  exact ⟨b1, rfl, N2, K0, g_b1, sz_b1, E_b1, F_b1_startTime, F_b1_upperBound, F_b1_lowerBound, F_b1_highWaterMark, F_b1_lowWaterMark, F_b1_current⟩
theorem d5_0 : decode prog_41_method_9_code 0 = .ok (.aload_n 0, 1) := by decide +kernel
theorem d5_1 : decode prog_41_method_9_code 1 = .ok (.getfield 7, 3) := by decide +kernel
theorem d5_4 : decode prog_41_method_9_code 4 = .ok (.lreturn, 1) := by decide +kernel
def Q5 (Z : State) (a1 : Addr) (w_a1_startTime : Int64) (h0 : Heap) (n0 : Nat) (v : Option Value) (h : Heap) (L : List Loc) : Prop := v = some (.long w_a1_startTime) ∧ Fr n0 L ∧ h = h0
theorem ef5 (m : MethodId) (x0 : Addr) : entryFrame m #[(.ref x0)] 1 = mkF m 0 #[.val (.ref x0)] [] := by first | (simp [entryFrame, mkF, argsToLocals, Value.category]; done) | rfl
set_option maxRecDepth 65536 in
set_option maxHeartbeats 16000000 in
theorem rm5 (l : Launch) (Z : State) (a0 : Array Value) (hw : ∀ d ∈ tables_1, d.before a0 Z = true) (ws : List Jvm.Cond) (a1 : Addr) (w_a1_startTime : Int64) (h0 : Heap) (n0 : Nat) (Z0 : n0 ≤ h0.size) (F_a1_startTime : Fld Z h0 a1 "com/example/vantrell/vantrell/statistics/Statistic$BoundedRange" "startTime" "J" (.long w_a1_startTime)) :
    MetFree l (⟨"com/example/vantrell/vantrell/statistics/Statistic$BoundedRange", "startTime", "()J"⟩ : MethodName) (head1 (Jvm.Cond.code (⟨"com/example/vantrell/vantrell/statistics/Statistic$BoundedRange", "startTime", "()J"⟩ : MethodName) prog_41_method_9_code 1 (some .long) :: ws) ({ frames := 0, cells := 0, slots := 0, locals := 0 } : Room)) (fun a U => a = #[(.ref a1)] ∧ Z.Warmed39 U.vm ∧ U.heap = h0) (fun _ _ _ _ _ => True) (fun _ U o U' => ∃ v L, o = .returned v ∧ Q5 Z a1 w_a1_startTime h0 n0 v U'.heap L ∧ FrameEnd U o U' L ({ frames := 0, cells := 0, slots := 0, locals := 0 } : Room).cells ({ frames := 0, cells := 0, slots := 0, locals := 0 } : Room).slots) := by
  refine MetFree.of_bodySF (plainFor_of_name pn1) hisR ?_
  intro p e s m args below meth c s₁ Bd hml0 hP hK
  obtain ⟨rfl, hZ, hh⟩ := hP
  have hx := Bd.exec
  have hby := Bd.bytes
  have hml : c.maxLocals = 1 := hml0
  have hown : s.vm.findClass "com/example/vantrell/vantrell/statistics/Statistic$BoundedRange" = some m.cls := findClass_of_methodNamed Bd.named
  have hnm := (name_of_methodNamed Bd.named Bd.method).1
  have X0 : Stand p l e ({ frames := 0, cells := 0, slots := 0, locals := 0 } : Room) s m #[(.ref a1)] below meth c s₁ [] 0 0 := Stand.of_body Bd
  have e0 : s₁.heap = h0 := by rw [← hh, Bd.state]; rfl
  have N0 := Fr.nil n0
  have K0 : Keep h0 h0 [] := Keep.refl h0 _
  refine Go.st (P := fun o U' => ∃ v L, o = .returned v ∧ Q5 Z a1 w_a1_startTime h0 n0 v U'.heap L ∧ FrameEnd s o U' L ({ frames := 0, cells := 0, slots := 0, locals := 0 } : Room).cells ({ frames := 0, cells := 0, slots := 0, locals := 0 } : Room).slots) (fun t k => castTop (ef5 m a1) k) ?_
  show Go _ _ _ (s₁.setTop (mkF m 0 #[.val (.ref a1)] [])) _
  refine Go.st (fun t k => XS.aloadN X0.here hx rfl (hb hby d5_0) rfl rfl k) ?_
  obtain ⟨T1, X1, e1, st1⟩ := getF X0 hx hZ hown (host := "") (Or.inl (wd18 hw)) Via.refl e0 F_a1_startTime (g := (mkF m 1 #[.val (.ref a1)] [(.ref a1)])) rfl rfl (hb hby d5_1)
  refine Go.st st1 ?_
  show Go _ _ _ (T1.setTop (mkF m 4 #[.val (.ref a1)] [(.long w_a1_startTime)])) _
  obtain ⟨fs, hr, hrun, hended, hW, hsame⟩ := X1.leave (v := some (.long w_a1_startTime)) (fun h => by rw [Bd.returns] at h; cases h)
  refine Go.fin (retOut X1 hx Bd.returns rfl (Or.inr (Or.inl ⟨rfl, rfl, _, rfl⟩)) (hb hby d5_4) hr) hrun hended ⟨_, _, rfl, ?_, ⟨_, rfl⟩, hW, hsame.mono (by decide) (by decide)⟩
  show Q5 Z a1 w_a1_startTime h0 n0 _ T1.heap _
  rw [e1]
  exact ⟨rfl, N0, rfl⟩
theorem d6_0 : decode prog_41_method_10_code 0 = .ok (.aload_n 0, 1) := by decide +kernel
theorem d6_1 : decode prog_41_method_10_code 1 = .ok (.getfield 13, 3) := by decide +kernel
theorem d6_4 : decode prog_41_method_10_code 4 = .ok (.lreturn, 1) := by decide +kernel
def Q6 (Z : State) (a1 : Addr) (w_a1_upperBound : Int64) (h0 : Heap) (n0 : Nat) (v : Option Value) (h : Heap) (L : List Loc) : Prop := v = some (.long w_a1_upperBound) ∧ Fr n0 L ∧ h = h0
theorem ef6 (m : MethodId) (x0 : Addr) : entryFrame m #[(.ref x0)] 1 = mkF m 0 #[.val (.ref x0)] [] := by first | (simp [entryFrame, mkF, argsToLocals, Value.category]; done) | rfl
set_option maxRecDepth 65536 in
set_option maxHeartbeats 16000000 in
theorem rm6 (l : Launch) (Z : State) (a0 : Array Value) (hw : ∀ d ∈ tables_1, d.before a0 Z = true) (ws : List Jvm.Cond) (a1 : Addr) (w_a1_upperBound : Int64) (h0 : Heap) (n0 : Nat) (Z0 : n0 ≤ h0.size) (F_a1_upperBound : Fld Z h0 a1 "com/example/vantrell/vantrell/statistics/Statistic$BoundedRange" "upperBound" "J" (.long w_a1_upperBound)) :
    MetFree l (⟨"com/example/vantrell/vantrell/statistics/Statistic$BoundedRange", "upperBound", "()J"⟩ : MethodName) (head1 (Jvm.Cond.code (⟨"com/example/vantrell/vantrell/statistics/Statistic$BoundedRange", "upperBound", "()J"⟩ : MethodName) prog_41_method_10_code 1 (some .long) :: ws) ({ frames := 0, cells := 0, slots := 0, locals := 0 } : Room)) (fun a U => a = #[(.ref a1)] ∧ Z.Warmed39 U.vm ∧ U.heap = h0) (fun _ _ _ _ _ => True) (fun _ U o U' => ∃ v L, o = .returned v ∧ Q6 Z a1 w_a1_upperBound h0 n0 v U'.heap L ∧ FrameEnd U o U' L ({ frames := 0, cells := 0, slots := 0, locals := 0 } : Room).cells ({ frames := 0, cells := 0, slots := 0, locals := 0 } : Room).slots) := by
  refine MetFree.of_bodySF (plainFor_of_name pn1) hisR ?_
  intro p e s m args below meth c s₁ Bd hml0 hP hK
  obtain ⟨rfl, hZ, hh⟩ := hP
  have hx := Bd.exec
  have hby := Bd.bytes
  have hml : c.maxLocals = 1 := hml0
  have hown : s.vm.findClass "com/example/vantrell/vantrell/statistics/Statistic$BoundedRange" = some m.cls := findClass_of_methodNamed Bd.named
  have hnm := (name_of_methodNamed Bd.named Bd.method).1
  have X0 : Stand p l e ({ frames := 0, cells := 0, slots := 0, locals := 0 } : Room) s m #[(.ref a1)] below meth c s₁ [] 0 0 := Stand.of_body Bd
  have e0 : s₁.heap = h0 := by rw [← hh, Bd.state]; rfl
  have N0 := Fr.nil n0
  have K0 : Keep h0 h0 [] := Keep.refl h0 _
  refine Go.st (P := fun o U' => ∃ v L, o = .returned v ∧ Q6 Z a1 w_a1_upperBound h0 n0 v U'.heap L ∧ FrameEnd s o U' L ({ frames := 0, cells := 0, slots := 0, locals := 0 } : Room).cells ({ frames := 0, cells := 0, slots := 0, locals := 0 } : Room).slots) (fun t k => castTop (ef6 m a1) k) ?_
  show Go _ _ _ (s₁.setTop (mkF m 0 #[.val (.ref a1)] [])) _
  refine Go.st (fun t k => XS.aloadN X0.here hx rfl (hb hby d6_0) rfl rfl k) ?_
  obtain ⟨T1, X1, e1, st1⟩ := getF X0 hx hZ hown (host := "") (Or.inl (wd20 hw)) Via.refl e0 F_a1_upperBound (g := (mkF m 1 #[.val (.ref a1)] [(.ref a1)])) rfl rfl (hb hby d6_1)
  refine Go.st st1 ?_
  show Go _ _ _ (T1.setTop (mkF m 4 #[.val (.ref a1)] [(.long w_a1_upperBound)])) _
  obtain ⟨fs, hr, hrun, hended, hW, hsame⟩ := X1.leave (v := some (.long w_a1_upperBound)) (fun h => by rw [Bd.returns] at h; cases h)
  refine Go.fin (retOut X1 hx Bd.returns rfl (Or.inr (Or.inl ⟨rfl, rfl, _, rfl⟩)) (hb hby d6_4) hr) hrun hended ⟨_, _, rfl, ?_, ⟨_, rfl⟩, hW, hsame.mono (by decide) (by decide)⟩
  show Q6 Z a1 w_a1_upperBound h0 n0 _ T1.heap _
  rw [e1]
  exact ⟨rfl, N0, rfl⟩
theorem d7_0 : decode prog_41_method_11_code 0 = .ok (.aload_n 0, 1) := by decide +kernel
theorem d7_1 : decode prog_41_method_11_code 1 = .ok (.getfield 16, 3) := by decide +kernel
theorem d7_4 : decode prog_41_method_11_code 4 = .ok (.lreturn, 1) := by decide +kernel
def Q7 (Z : State) (a1 : Addr) (w_a1_lowerBound : Int64) (h0 : Heap) (n0 : Nat) (v : Option Value) (h : Heap) (L : List Loc) : Prop := v = some (.long w_a1_lowerBound) ∧ Fr n0 L ∧ h = h0
theorem ef7 (m : MethodId) (x0 : Addr) : entryFrame m #[(.ref x0)] 1 = mkF m 0 #[.val (.ref x0)] [] := by first | (simp [entryFrame, mkF, argsToLocals, Value.category]; done) | rfl
set_option maxRecDepth 65536 in
set_option maxHeartbeats 16000000 in
theorem rm7 (l : Launch) (Z : State) (a0 : Array Value) (hw : ∀ d ∈ tables_1, d.before a0 Z = true) (ws : List Jvm.Cond) (a1 : Addr) (w_a1_lowerBound : Int64) (h0 : Heap) (n0 : Nat) (Z0 : n0 ≤ h0.size) (F_a1_lowerBound : Fld Z h0 a1 "com/example/vantrell/vantrell/statistics/Statistic$BoundedRange" "lowerBound" "J" (.long w_a1_lowerBound)) :
    MetFree l (⟨"com/example/vantrell/vantrell/statistics/Statistic$BoundedRange", "lowerBound", "()J"⟩ : MethodName) (head1 (Jvm.Cond.code (⟨"com/example/vantrell/vantrell/statistics/Statistic$BoundedRange", "lowerBound", "()J"⟩ : MethodName) prog_41_method_11_code 1 (some .long) :: ws) ({ frames := 0, cells := 0, slots := 0, locals := 0 } : Room)) (fun a U => a = #[(.ref a1)] ∧ Z.Warmed39 U.vm ∧ U.heap = h0) (fun _ _ _ _ _ => True) (fun _ U o U' => ∃ v L, o = .returned v ∧ Q7 Z a1 w_a1_lowerBound h0 n0 v U'.heap L ∧ FrameEnd U o U' L ({ frames := 0, cells := 0, slots := 0, locals := 0 } : Room).cells ({ frames := 0, cells := 0, slots := 0, locals := 0 } : Room).slots) := by
  refine MetFree.of_bodySF (plainFor_of_name pn1) hisR ?_
  intro p e s m args below meth c s₁ Bd hml0 hP hK
  obtain ⟨rfl, hZ, hh⟩ := hP
  have hx := Bd.exec
  have hby := Bd.bytes
  have hml : c.maxLocals = 1 := hml0
  have hown : s.vm.findClass "com/example/vantrell/vantrell/statistics/Statistic$BoundedRange" = some m.cls := findClass_of_methodNamed Bd.named
  have hnm := (name_of_methodNamed Bd.named Bd.method).1
  have X0 : Stand p l e ({ frames := 0, cells := 0, slots := 0, locals := 0 } : Room) s m #[(.ref a1)] below meth c s₁ [] 0 0 := Stand.of_body Bd
  have e0 : s₁.heap = h0 := by rw [← hh, Bd.state]; rfl
  have N0 := Fr.nil n0
  have K0 : Keep h0 h0 [] := Keep.refl h0 _
  refine Go.st (P := fun o U' => ∃ v L, o = .returned v ∧ Q7 Z a1 w_a1_lowerBound h0 n0 v U'.heap L ∧ FrameEnd s o U' L ({ frames := 0, cells := 0, slots := 0, locals := 0 } : Room).cells ({ frames := 0, cells := 0, slots := 0, locals := 0 } : Room).slots) (fun t k => castTop (ef7 m a1) k) ?_
  show Go _ _ _ (s₁.setTop (mkF m 0 #[.val (.ref a1)] [])) _
  refine Go.st (fun t k => XS.aloadN X0.here hx rfl (hb hby d7_0) rfl rfl k) ?_
  obtain ⟨T1, X1, e1, st1⟩ := getF X0 hx hZ hown (host := "") (Or.inl (wd22 hw)) Via.refl e0 F_a1_lowerBound (g := (mkF m 1 #[.val (.ref a1)] [(.ref a1)])) rfl rfl (hb hby d7_1)
  refine Go.st st1 ?_
  show Go _ _ _ (T1.setTop (mkF m 4 #[.val (.ref a1)] [(.long w_a1_lowerBound)])) _
  obtain ⟨fs, hr, hrun, hended, hW, hsame⟩ := X1.leave (v := some (.long w_a1_lowerBound)) (fun h => by rw [Bd.returns] at h; cases h)
  refine Go.fin (retOut X1 hx Bd.returns rfl (Or.inr (Or.inl ⟨rfl, rfl, _, rfl⟩)) (hb hby d7_4) hr) hrun hended ⟨_, _, rfl, ?_, ⟨_, rfl⟩, hW, hsame.mono (by decide) (by decide)⟩
  show Q7 Z a1 w_a1_lowerBound h0 n0 _ T1.heap _
  rw [e1]
  exact ⟨rfl, N0, rfl⟩
theorem d8_0 : decode prog_41_method_12_code 0 = .ok (.aload_n 0, 1) := by decide +kernel
theorem d8_1 : decode prog_41_method_12_code 1 = .ok (.getfield 19, 3) := by decide +kernel
theorem d8_4 : decode prog_41_method_12_code 4 = .ok (.lreturn, 1) := by decide +kernel
def Q8 (Z : State) (a1 : Addr) (w_a1_highWaterMark : Int64) (h0 : Heap) (n0 : Nat) (v : Option Value) (h : Heap) (L : List Loc) : Prop := v = some (.long w_a1_highWaterMark) ∧ Fr n0 L ∧ h = h0
theorem ef8 (m : MethodId) (x0 : Addr) : entryFrame m #[(.ref x0)] 1 = mkF m 0 #[.val (.ref x0)] [] := by first | (simp [entryFrame, mkF, argsToLocals, Value.category]; done) | rfl
set_option maxRecDepth 65536 in
set_option maxHeartbeats 16000000 in
theorem rm8 (l : Launch) (Z : State) (a0 : Array Value) (hw : ∀ d ∈ tables_1, d.before a0 Z = true) (ws : List Jvm.Cond) (a1 : Addr) (w_a1_highWaterMark : Int64) (h0 : Heap) (n0 : Nat) (Z0 : n0 ≤ h0.size) (F_a1_highWaterMark : Fld Z h0 a1 "com/example/vantrell/vantrell/statistics/Statistic$BoundedRange" "highWaterMark" "J" (.long w_a1_highWaterMark)) :
    MetFree l (⟨"com/example/vantrell/vantrell/statistics/Statistic$BoundedRange", "highWaterMark", "()J"⟩ : MethodName) (head1 (Jvm.Cond.code (⟨"com/example/vantrell/vantrell/statistics/Statistic$BoundedRange", "highWaterMark", "()J"⟩ : MethodName) prog_41_method_12_code 1 (some .long) :: ws) ({ frames := 0, cells := 0, slots := 0, locals := 0 } : Room)) (fun a U => a = #[(.ref a1)] ∧ Z.Warmed39 U.vm ∧ U.heap = h0) (fun _ _ _ _ _ => True) (fun _ U o U' => ∃ v L, o = .returned v ∧ Q8 Z a1 w_a1_highWaterMark h0 n0 v U'.heap L ∧ FrameEnd U o U' L ({ frames := 0, cells := 0, slots := 0, locals := 0 } : Room).cells ({ frames := 0, cells := 0, slots := 0, locals := 0 } : Room).slots) := by
  refine MetFree.of_bodySF (plainFor_of_name pn1) hisR ?_
  intro p e s m args below meth c s₁ Bd hml0 hP hK
  obtain ⟨rfl, hZ, hh⟩ := hP
  have hx := Bd.exec
  have hby := Bd.bytes
  have hml : c.maxLocals = 1 := hml0
  have hown : s.vm.findClass "com/example/vantrell/vantrell/statistics/Statistic$BoundedRange" = some m.cls := findClass_of_methodNamed Bd.named
  have hnm := (name_of_methodNamed Bd.named Bd.method).1
  have X0 : Stand p l e ({ frames := 0, cells := 0, slots := 0, locals := 0 } : Room) s m #[(.ref a1)] below meth c s₁ [] 0 0 := Stand.of_body Bd
  have e0 : s₁.heap = h0 := by rw [← hh, Bd.state]; rfl
  have N0 := Fr.nil n0
  have K0 : Keep h0 h0 [] := Keep.refl h0 _
  refine Go.st (P := fun o U' => ∃ v L, o = .returned v ∧ Q8 Z a1 w_a1_highWaterMark h0 n0 v U'.heap L ∧ FrameEnd s o U' L ({ frames := 0, cells := 0, slots := 0, locals := 0 } : Room).cells ({ frames := 0, cells := 0, slots := 0, locals := 0 } : Room).slots) (fun t k => castTop (ef8 m a1) k) ?_
  show Go _ _ _ (s₁.setTop (mkF m 0 #[.val (.ref a1)] [])) _
  refine Go.st (fun t k => XS.aloadN X0.here hx rfl (hb hby d8_0) rfl rfl k) ?_
  obtain ⟨T1, X1, e1, st1⟩ := getF X0 hx hZ hown (host := "") (Or.inl (wd24 hw)) Via.refl e0 F_a1_highWaterMark (g := (mkF m 1 #[.val (.ref a1)] [(.ref a1)])) rfl rfl (hb hby d8_1)
  refine Go.st st1 ?_
  show Go _ _ _ (T1.setTop (mkF m 4 #[.val (.ref a1)] [(.long w_a1_highWaterMark)])) _
  obtain ⟨fs, hr, hrun, hended, hW, hsame⟩ := X1.leave (v := some (.long w_a1_highWaterMark)) (fun h => by rw [Bd.returns] at h; cases h)
  refine Go.fin (retOut X1 hx Bd.returns rfl (Or.inr (Or.inl ⟨rfl, rfl, _, rfl⟩)) (hb hby d8_4) hr) hrun hended ⟨_, _, rfl, ?_, ⟨_, rfl⟩, hW, hsame.mono (by decide) (by decide)⟩
  show Q8 Z a1 w_a1_highWaterMark h0 n0 _ T1.heap _
  rw [e1]
  exact ⟨rfl, N0, rfl⟩
theorem d9_0 : decode prog_41_method_13_code 0 = .ok (.aload_n 0, 1) := by decide +kernel
theorem d9_1 : decode prog_41_method_13_code 1 = .ok (.getfield 22, 3) := by decide +kernel
theorem d9_4 : decode prog_41_method_13_code 4 = .ok (.lreturn, 1) := by decide +kernel
def Q9 (Z : State) (a1 : Addr) (w_a1_lowWaterMark : Int64) (h0 : Heap) (n0 : Nat) (v : Option Value) (h : Heap) (L : List Loc) : Prop := v = some (.long w_a1_lowWaterMark) ∧ Fr n0 L ∧ h = h0
theorem ef9 (m : MethodId) (x0 : Addr) : entryFrame m #[(.ref x0)] 1 = mkF m 0 #[.val (.ref x0)] [] := by first | (simp [entryFrame, mkF, argsToLocals, Value.category]; done) | rfl
set_option maxRecDepth 65536 in
set_option maxHeartbeats 16000000 in
theorem rm9 (l : Launch) (Z : State) (a0 : Array Value) (hw : ∀ d ∈ tables_1, d.before a0 Z = true) (ws : List Jvm.Cond) (a1 : Addr) (w_a1_lowWaterMark : Int64) (h0 : Heap) (n0 : Nat) (Z0 : n0 ≤ h0.size) (F_a1_lowWaterMark : Fld Z h0 a1 "com/example/vantrell/vantrell/statistics/Statistic$BoundedRange" "lowWaterMark" "J" (.long w_a1_lowWaterMark)) :
    MetFree l (⟨"com/example/vantrell/vantrell/statistics/Statistic$BoundedRange", "lowWaterMark", "()J"⟩ : MethodName) (head1 (Jvm.Cond.code (⟨"com/example/vantrell/vantrell/statistics/Statistic$BoundedRange", "lowWaterMark", "()J"⟩ : MethodName) prog_41_method_13_code 1 (some .long) :: ws) ({ frames := 0, cells := 0, slots := 0, locals := 0 } : Room)) (fun a U => a = #[(.ref a1)] ∧ Z.Warmed39 U.vm ∧ U.heap = h0) (fun _ _ _ _ _ => True) (fun _ U o U' => ∃ v L, o = .returned v ∧ Q9 Z a1 w_a1_lowWaterMark h0 n0 v U'.heap L ∧ FrameEnd U o U' L ({ frames := 0, cells := 0, slots := 0, locals := 0 } : Room).cells ({ frames := 0, cells := 0, slots := 0, locals := 0 } : Room).slots) := by
  refine MetFree.of_bodySF (plainFor_of_name pn1) hisR ?_
  intro p e s m args below meth c s₁ Bd hml0 hP hK
  obtain ⟨rfl, hZ, hh⟩ := hP
  have hx := Bd.exec
  have hby := Bd.bytes
  have hml : c.maxLocals = 1 := hml0
  have hown : s.vm.findClass "com/example/vantrell/vantrell/statistics/Statistic$BoundedRange" = some m.cls := findClass_of_methodNamed Bd.named
  have hnm := (name_of_methodNamed Bd.named Bd.method).1
  have X0 : Stand p l e ({ frames := 0, cells := 0, slots := 0, locals := 0 } : Room) s m #[(.ref a1)] below meth c s₁ [] 0 0 := Stand.of_body Bd
  have e0 : s₁.heap = h0 := by rw [← hh, Bd.state]; rfl
  have N0 := Fr.nil n0
  have K0 : Keep h0 h0 [] := Keep.refl h0 _
  refine Go.st (P := fun o U' => ∃ v L, o = .returned v ∧ Q9 Z a1 w_a1_lowWaterMark h0 n0 v U'.heap L ∧ FrameEnd s o U' L ({ frames := 0, cells := 0, slots := 0, locals := 0 } : Room).cells ({ frames := 0, cells := 0, slots := 0, locals := 0 } : Room).slots) (fun t k => castTop (ef9 m a1) k) ?_
  show Go _ _ _ (s₁.setTop (mkF m 0 #[.val (.ref a1)] [])) _
  refine Go.st (fun t k => XS.aloadN X0.here hx rfl (hb hby d9_0) rfl rfl k) ?_
  obtain ⟨T1, X1, e1, st1⟩ := getF X0 hx hZ hown (host := "") (Or.inl (wd26 hw)) Via.refl e0 F_a1_lowWaterMark (g := (mkF m 1 #[.val (.ref a1)] [(.ref a1)])) rfl rfl (hb hby d9_1)
  refine Go.st st1 ?_
  show Go _ _ _ (T1.setTop (mkF m 4 #[.val (.ref a1)] [(.long w_a1_lowWaterMark)])) _
  obtain ⟨fs, hr, hrun, hended, hW, hsame⟩ := X1.leave (v := some (.long w_a1_lowWaterMark)) (fun h => by rw [Bd.returns] at h; cases h)
  refine Go.fin (retOut X1 hx Bd.returns rfl (Or.inr (Or.inl ⟨rfl, rfl, _, rfl⟩)) (hb hby d9_4) hr) hrun hended ⟨_, _, rfl, ?_, ⟨_, rfl⟩, hW, hsame.mono (by decide) (by decide)⟩
  show Q9 Z a1 w_a1_lowWaterMark h0 n0 _ T1.heap _
  rw [e1]
  exact ⟨rfl, N0, rfl⟩
theorem d10_0 : decode prog_41_method_14_code 0 = .ok (.aload_n 0, 1) := by decide +kernel
theorem d10_1 : decode prog_41_method_14_code 1 = .ok (.getfield 25, 3) := by decide +kernel
theorem d10_4 : decode prog_41_method_14_code 4 = .ok (.lreturn, 1) := by decide +kernel
def Q10 (Z : State) (a1 : Addr) (w_a1_current : Int64) (h0 : Heap) (n0 : Nat) (v : Option Value) (h : Heap) (L : List Loc) : Prop := v = some (.long w_a1_current) ∧ Fr n0 L ∧ h = h0
theorem ef10 (m : MethodId) (x0 : Addr) : entryFrame m #[(.ref x0)] 1 = mkF m 0 #[.val (.ref x0)] [] := by first | (simp [entryFrame, mkF, argsToLocals, Value.category]; done) | rfl
set_option maxRecDepth 65536 in
set_option maxHeartbeats 16000000 in
theorem rm10 (l : Launch) (Z : State) (a0 : Array Value) (hw : ∀ d ∈ tables_1, d.before a0 Z = true) (ws : List Jvm.Cond) (a1 : Addr) (w_a1_current : Int64) (h0 : Heap) (n0 : Nat) (Z0 : n0 ≤ h0.size) (F_a1_current : Fld Z h0 a1 "com/example/vantrell/vantrell/statistics/Statistic$BoundedRange" "current" "J" (.long w_a1_current)) :
    MetFree l (⟨"com/example/vantrell/vantrell/statistics/Statistic$BoundedRange", "current", "()J"⟩ : MethodName) (head1 (Jvm.Cond.code (⟨"com/example/vantrell/vantrell/statistics/Statistic$BoundedRange", "current", "()J"⟩ : MethodName) prog_41_method_14_code 1 (some .long) :: ws) ({ frames := 0, cells := 0, slots := 0, locals := 0 } : Room)) (fun a U => a = #[(.ref a1)] ∧ Z.Warmed39 U.vm ∧ U.heap = h0) (fun _ _ _ _ _ => True) (fun _ U o U' => ∃ v L, o = .returned v ∧ Q10 Z a1 w_a1_current h0 n0 v U'.heap L ∧ FrameEnd U o U' L ({ frames := 0, cells := 0, slots := 0, locals := 0 } : Room).cells ({ frames := 0, cells := 0, slots := 0, locals := 0 } : Room).slots) := by
  refine MetFree.of_bodySF (plainFor_of_name pn1) hisR ?_
  intro p e s m args below meth c s₁ Bd hml0 hP hK
  obtain ⟨rfl, hZ, hh⟩ := hP
  have hx := Bd.exec
  have hby := Bd.bytes
  have hml : c.maxLocals = 1 := hml0
  have hown : s.vm.findClass "com/example/vantrell/vantrell/statistics/Statistic$BoundedRange" = some m.cls := findClass_of_methodNamed Bd.named
  have hnm := (name_of_methodNamed Bd.named Bd.method).1
  have X0 : Stand p l e ({ frames := 0, cells := 0, slots := 0, locals := 0 } : Room) s m #[(.ref a1)] below meth c s₁ [] 0 0 := Stand.of_body Bd
  have e0 : s₁.heap = h0 := by rw [← hh, Bd.state]; rfl
  have N0 := Fr.nil n0
  have K0 : Keep h0 h0 [] := Keep.refl h0 _
  refine Go.st (P := fun o U' => ∃ v L, o = .returned v ∧ Q10 Z a1 w_a1_current h0 n0 v U'.heap L ∧ FrameEnd s o U' L ({ frames := 0, cells := 0, slots := 0, locals := 0 } : Room).cells ({ frames := 0, cells := 0, slots := 0, locals := 0 } : Room).slots) (fun t k => castTop (ef10 m a1) k) ?_
  show Go _ _ _ (s₁.setTop (mkF m 0 #[.val (.ref a1)] [])) _
  refine Go.st (fun t k => XS.aloadN X0.here hx rfl (hb hby d10_0) rfl rfl k) ?_
  obtain ⟨T1, X1, e1, st1⟩ := getF X0 hx hZ hown (host := "") (Or.inl (wd28 hw)) Via.refl e0 F_a1_current (g := (mkF m 1 #[.val (.ref a1)] [(.ref a1)])) rfl rfl (hb hby d10_1)
  refine Go.st st1 ?_
  show Go _ _ _ (T1.setTop (mkF m 4 #[.val (.ref a1)] [(.long w_a1_current)])) _
  obtain ⟨fs, hr, hrun, hended, hW, hsame⟩ := X1.leave (v := some (.long w_a1_current)) (fun h => by rw [Bd.returns] at h; cases h)
  refine Go.fin (retOut X1 hx Bd.returns rfl (Or.inr (Or.inl ⟨rfl, rfl, _, rfl⟩)) (hb hby d10_4) hr) hrun hended ⟨_, _, rfl, ?_, ⟨_, rfl⟩, hW, hsame.mono (by decide) (by decide)⟩
  show Q10 Z a1 w_a1_current h0 n0 _ T1.heap _
  rw [e1]
  exact ⟨rfl, N0, rfl⟩
theorem d11_0 : decode prog_41_method_4_code 0 = .ok (.getstatic 46, 3) := by decide +kernel
theorem wd66 {Z : State} {a0 : Array Value} (hw : ∀ d ∈ tables_1, d.before a0 Z = true) : (Jvm.Cond.fieldLink "com/example/vantrell/vantrell/statistics/Statistic$BoundedRange" (46 : Nat) "com/example/vantrell/vantrell/statistics/Statistic$Kind" "BOUNDED_RANGE" "Lcom/example/vantrell/vantrell/statistics/Statistic$Kind;").before a0 Z = true := hw _ (List.mem_of_getElem? (i := 66) rfl)
theorem d11_3 : decode prog_41_method_4_code 3 = .ok (.areturn, 1) := by decide +kernel
def Q11 (Z : State) (a1 : Addr) (w_BOUNDED_RANGE : Addr) (h0 : Heap) (n0 : Nat) (v : Option Value) (h : Heap) (L : List Loc) : Prop := v = some (.ref w_BOUNDED_RANGE) ∧ Fr n0 L ∧ h = h0
theorem ef11 (m : MethodId) (x0 : Addr) : entryFrame m #[(.ref x0)] 1 = mkF m 0 #[.val (.ref x0)] [] := by first | (simp [entryFrame, mkF, argsToLocals, Value.category]; done) | rfl
set_option maxRecDepth 65536 in
set_option maxHeartbeats 16000000 in
theorem rm11 (l : Launch) (Z : State) (a0 : Array Value) (hw : ∀ d ∈ tables_1, d.before a0 Z = true) (ws : List Jvm.Cond) (a1 : Addr) (w_BOUNDED_RANGE : Addr) (h0 : Heap) (n0 : Nat) (Z0 : n0 ≤ h0.size) (S_BOUNDED_RANGE : Sta Z h0 "com/example/vantrell/vantrell/statistics/Statistic$Kind" "BOUNDED_RANGE" "Lcom/example/vantrell/vantrell/statistics/Statistic$Kind;" (.ref w_BOUNDED_RANGE)) (E_w_BOUNDED_RANGE : Exa Z h0 w_BOUNDED_RANGE "com/example/vantrell/vantrell/statistics/Statistic$Kind") :
    MetFree l (⟨"com/example/vantrell/vantrell/statistics/Statistic$BoundedRange", "kind", "()Lcom/example/vantrell/vantrell/statistics/Statistic$Kind;"⟩ : MethodName) (head1 (Jvm.Cond.code (⟨"com/example/vantrell/vantrell/statistics/Statistic$BoundedRange", "kind", "()Lcom/example/vantrell/vantrell/statistics/Statistic$Kind;"⟩ : MethodName) prog_41_method_4_code 1 (some (.object "com/example/vantrell/vantrell/statistics/Statistic$Kind")) :: ws) ({ frames := 0, cells := 0, slots := 0, locals := 0 } : Room)) (fun a U => a = #[(.ref a1)] ∧ Z.Warmed39 U.vm ∧ U.heap = h0) (fun _ _ _ _ _ => True) (fun _ U o U' => ∃ v L, o = .returned v ∧ Q11 Z a1 w_BOUNDED_RANGE h0 n0 v U'.heap L ∧ FrameEnd U o U' L ({ frames := 0, cells := 0, slots := 0, locals := 0 } : Room).cells ({ frames := 0, cells := 0, slots := 0, locals := 0 } : Room).slots) := by
  refine MetFree.of_bodySF (plainFor_of_name pn1) hisR ?_
  intro p e s m args below meth c s₁ Bd hml0 hP hK
  obtain ⟨rfl, hZ, hh⟩ := hP
  have hx := Bd.exec
  have hby := Bd.bytes
  have hml : c.maxLocals = 1 := hml0
  have hown : s.vm.findClass "com/example/vantrell/vantrell/statistics/Statistic$BoundedRange" = some m.cls := findClass_of_methodNamed Bd.named
  have hnm := (name_of_methodNamed Bd.named Bd.method).1
  have X0 : Stand p l e ({ frames := 0, cells := 0, slots := 0, locals := 0 } : Room) s m #[(.ref a1)] below meth c s₁ [] 0 0 := Stand.of_body Bd
  have e0 : s₁.heap = h0 := by rw [← hh, Bd.state]; rfl
  have N0 := Fr.nil n0
  have K0 : Keep h0 h0 [] := Keep.refl h0 _
  refine Go.st (P := fun o U' => ∃ v L, o = .returned v ∧ Q11 Z a1 w_BOUNDED_RANGE h0 n0 v U'.heap L ∧ FrameEnd s o U' L ({ frames := 0, cells := 0, slots := 0, locals := 0 } : Room).cells ({ frames := 0, cells := 0, slots := 0, locals := 0 } : Room).slots) (fun t k => castTop (ef11 m a1) k) ?_
  show Go _ _ _ (s₁.setTop (mkF m 0 #[.val (.ref a1)] [])) _
  obtain ⟨T1, X1, e1, st1⟩ := getS2 X0 hx hZ hown (host := "") (Or.inl (wd66 hw)) Via.refl e0 S_BOUNDED_RANGE (g := (mkF m 0 #[.val (.ref a1)] [])) rfl (hb hby d11_0)
  refine Go.st st1 ?_
  show Go _ _ _ (T1.setTop (mkF m 3 #[.val (.ref a1)] [(.ref w_BOUNDED_RANGE)])) _
  obtain ⟨fs, hr, hrun, hended, hW, hsame⟩ := X1.leave (v := some (.ref w_BOUNDED_RANGE)) (fun h => by rw [Bd.returns] at h; cases h)
  refine Go.fin (retOut X1 hx Bd.returns rfl (Or.inr (Or.inr (Or.inr (Or.inr ⟨rfl, rfl, rfl⟩)))) (hb hby d11_3) hr) hrun hended ⟨_, _, rfl, ?_, ⟨_, rfl⟩, hW, hsame.mono (by decide) (by decide)⟩
  show Q11 Z a1 w_BOUNDED_RANGE h0 n0 _ T1.heap _
  rw [e1]
  exact ⟨rfl, N0, rfl⟩
theorem wd3 {Z : State} {a0 : Array Value} (hw : ∀ d ∈ tables_1, d.before a0 Z = true) : (Jvm.Cond.code ({ cls := "com/example/vantrell/vantrell/statistics/Statistic$BoundedRange", name := "notApplicable", desc := "(J)Lcom/example/vantrell/vantrell/statistics/Statistic$BoundedRange;" } : Jvm.MethodName) prog_41_method_3_code (2 : Nat) (Option.some (Jvm.ClassFile.FieldType.object "com/example/vantrell/vantrell/statistics/Statistic$BoundedRange"))).before a0 Z = true := hw _ (List.mem_of_getElem? (i := 3) rfl)
theorem pd2 : parseMethodDescriptor "(J)Lcom/example/vantrell/vantrell/statistics/Statistic$BoundedRange;" = some ⟨[.long], some (.object "com/example/vantrell/vantrell/statistics/Statistic$BoundedRange")⟩ := by decide +kernel
theorem wd1 {Z : State} {a0 : Array Value} (hw : ∀ d ∈ tables_1, d.before a0 Z = true) : (Jvm.Cond.static ({ cls := "com/example/vantrell/vantrell/statistics/Statistic$BoundedRange", name := "notApplicable", desc := "(J)Lcom/example/vantrell/vantrell/statistics/Statistic$BoundedRange;" } : Jvm.MethodName)).before a0 Z = true := hw _ (List.mem_of_getElem? (i := 1) rfl)
theorem wd34 {Z : State} {a0 : Array Value} (hw : ∀ d ∈ tables_1, d.before a0 Z = true) : (Jvm.Cond.code ({ cls := "com/example/vantrell/vantrell/statistics/Statistic$BoundedRange", name := "startTime", desc := "()J" } : Jvm.MethodName) prog_41_method_9_code (1 : Nat) (Option.some Jvm.ClassFile.FieldType.long)).before a0 Z = true := hw _ (List.mem_of_getElem? (i := 34) rfl)
theorem pd3 : parseMethodDescriptor "()J" = some ⟨[], some .long⟩ := by decide +kernel
theorem wd33 {Z : State} {a0 : Array Value} (hw : ∀ d ∈ tables_1, d.before a0 Z = true) : (Jvm.Cond.selects "com/example/vantrell/vantrell/statistics/Statistic$BoundedRange" ({ cls := "com/example/vantrell/vantrell/statistics/Statistic$BoundedRange", name := "startTime", desc := "()J" } : Jvm.MethodName) ({ cls := "com/example/vantrell/vantrell/statistics/Statistic$BoundedRange", name := "startTime", desc := "()J" } : Jvm.MethodName)).before a0 Z = true := hw _ (List.mem_of_getElem? (i := 33) rfl)
theorem wd31 {Z : State} {a0 : Array Value} (hw : ∀ d ∈ tables_1, d.before a0 Z = true) : (Jvm.Cond.declares ({ cls := "com/example/vantrell/vantrell/statistics/Statistic$BoundedRange", name := "startTime", desc := "()J" } : Jvm.MethodName)).before a0 Z = true := hw _ (List.mem_of_getElem? (i := 31) rfl)
theorem wd32 {Z : State} {a0 : Array Value} (hw : ∀ d ∈ tables_1, d.before a0 Z = true) : (Jvm.Cond.instanceMethod ({ cls := "com/example/vantrell/vantrell/statistics/Statistic$BoundedRange", name := "startTime", desc := "()J" } : Jvm.MethodName)).before a0 Z = true := hw _ (List.mem_of_getElem? (i := 32) rfl)
theorem wd39 {Z : State} {a0 : Array Value} (hw : ∀ d ∈ tables_1, d.before a0 Z = true) : (Jvm.Cond.code ({ cls := "com/example/vantrell/vantrell/statistics/Statistic$BoundedRange", name := "upperBound", desc := "()J" } : Jvm.MethodName) prog_41_method_10_code (1 : Nat) (Option.some Jvm.ClassFile.FieldType.long)).before a0 Z = true := hw _ (List.mem_of_getElem? (i := 39) rfl)
theorem wd38 {Z : State} {a0 : Array Value} (hw : ∀ d ∈ tables_1, d.before a0 Z = true) : (Jvm.Cond.selects "com/example/vantrell/vantrell/statistics/Statistic$BoundedRange" ({ cls := "com/example/vantrell/vantrell/statistics/Statistic$BoundedRange", name := "upperBound", desc := "()J" } : Jvm.MethodName) ({ cls := "com/example/vantrell/vantrell/statistics/Statistic$BoundedRange", name := "upperBound", desc := "()J" } : Jvm.MethodName)).before a0 Z = true := hw _ (List.mem_of_getElem? (i := 38) rfl)
theorem wd36 {Z : State} {a0 : Array Value} (hw : ∀ d ∈ tables_1, d.before a0 Z = true) : (Jvm.Cond.declares ({ cls := "com/example/vantrell/vantrell/statistics/Statistic$BoundedRange", name := "upperBound", desc := "()J" } : Jvm.MethodName)).before a0 Z = true := hw _ (List.mem_of_getElem? (i := 36) rfl)
theorem wd37 {Z : State} {a0 : Array Value} (hw : ∀ d ∈ tables_1, d.before a0 Z = true) : (Jvm.Cond.instanceMethod ({ cls := "com/example/vantrell/vantrell/statistics/Statistic$BoundedRange", name := "upperBound", desc := "()J" } : Jvm.MethodName)).before a0 Z = true := hw _ (List.mem_of_getElem? (i := 37) rfl)
theorem wd40 {Z : State} {a0 : Array Value} (hw : ∀ d ∈ tables_1, d.before a0 Z = true) : (Jvm.Cond.constantLong "com/example/vantrell/vantrell/statistics/BoundedRangeNotApplicablePinLaw" (20 : Nat) (-1 : Int64)).before a0 Z = true := hw _ (List.mem_of_getElem? (i := 40) rfl)
theorem wd45 {Z : State} {a0 : Array Value} (hw : ∀ d ∈ tables_1, d.before a0 Z = true) : (Jvm.Cond.code ({ cls := "com/example/vantrell/vantrell/statistics/Statistic$BoundedRange", name := "lowerBound", desc := "()J" } : Jvm.MethodName) prog_41_method_11_code (1 : Nat) (Option.some Jvm.ClassFile.FieldType.long)).before a0 Z = true := hw _ (List.mem_of_getElem? (i := 45) rfl)
theorem wd44 {Z : State} {a0 : Array Value} (hw : ∀ d ∈ tables_1, d.before a0 Z = true) : (Jvm.Cond.selects "com/example/vantrell/vantrell/statistics/Statistic$BoundedRange" ({ cls := "com/example/vantrell/vantrell/statistics/Statistic$BoundedRange", name := "lowerBound", desc := "()J" } : Jvm.MethodName) ({ cls := "com/example/vantrell/vantrell/statistics/Statistic$BoundedRange", name := "lowerBound", desc := "()J" } : Jvm.MethodName)).before a0 Z = true := hw _ (List.mem_of_getElem? (i := 44) rfl)
theorem wd42 {Z : State} {a0 : Array Value} (hw : ∀ d ∈ tables_1, d.before a0 Z = true) : (Jvm.Cond.declares ({ cls := "com/example/vantrell/vantrell/statistics/Statistic$BoundedRange", name := "lowerBound", desc := "()J" } : Jvm.MethodName)).before a0 Z = true := hw _ (List.mem_of_getElem? (i := 42) rfl)
theorem wd43 {Z : State} {a0 : Array Value} (hw : ∀ d ∈ tables_1, d.before a0 Z = true) : (Jvm.Cond.instanceMethod ({ cls := "com/example/vantrell/vantrell/statistics/Statistic$BoundedRange", name := "lowerBound", desc := "()J" } : Jvm.MethodName)).before a0 Z = true := hw _ (List.mem_of_getElem? (i := 43) rfl)
theorem wd50 {Z : State} {a0 : Array Value} (hw : ∀ d ∈ tables_1, d.before a0 Z = true) : (Jvm.Cond.code ({ cls := "com/example/vantrell/vantrell/statistics/Statistic$BoundedRange", name := "highWaterMark", desc := "()J" } : Jvm.MethodName) prog_41_method_12_code (1 : Nat) (Option.some Jvm.ClassFile.FieldType.long)).before a0 Z = true := hw _ (List.mem_of_getElem? (i := 50) rfl)
theorem wd49 {Z : State} {a0 : Array Value} (hw : ∀ d ∈ tables_1, d.before a0 Z = true) : (Jvm.Cond.selects "com/example/vantrell/vantrell/statistics/Statistic$BoundedRange" ({ cls := "com/example/vantrell/vantrell/statistics/Statistic$BoundedRange", name := "highWaterMark", desc := "()J" } : Jvm.MethodName) ({ cls := "com/example/vantrell/vantrell/statistics/Statistic$BoundedRange", name := "highWaterMark", desc := "()J" } : Jvm.MethodName)).before a0 Z = true := hw _ (List.mem_of_getElem? (i := 49) rfl)
theorem wd47 {Z : State} {a0 : Array Value} (hw : ∀ d ∈ tables_1, d.before a0 Z = true) : (Jvm.Cond.declares ({ cls := "com/example/vantrell/vantrell/statistics/Statistic$BoundedRange", name := "highWaterMark", desc := "()J" } : Jvm.MethodName)).before a0 Z = true := hw _ (List.mem_of_getElem? (i := 47) rfl)
theorem wd48 {Z : State} {a0 : Array Value} (hw : ∀ d ∈ tables_1, d.before a0 Z = true) : (Jvm.Cond.instanceMethod ({ cls := "com/example/vantrell/vantrell/statistics/Statistic$BoundedRange", name := "highWaterMark", desc := "()J" } : Jvm.MethodName)).before a0 Z = true := hw _ (List.mem_of_getElem? (i := 48) rfl)
theorem wd55 {Z : State} {a0 : Array Value} (hw : ∀ d ∈ tables_1, d.before a0 Z = true) : (Jvm.Cond.code ({ cls := "com/example/vantrell/vantrell/statistics/Statistic$BoundedRange", name := "lowWaterMark", desc := "()J" } : Jvm.MethodName) prog_41_method_13_code (1 : Nat) (Option.some Jvm.ClassFile.FieldType.long)).before a0 Z = true := hw _ (List.mem_of_getElem? (i := 55) rfl)
theorem wd54 {Z : State} {a0 : Array Value} (hw : ∀ d ∈ tables_1, d.before a0 Z = true) : (Jvm.Cond.selects "com/example/vantrell/vantrell/statistics/Statistic$BoundedRange" ({ cls := "com/example/vantrell/vantrell/statistics/Statistic$BoundedRange", name := "lowWaterMark", desc := "()J" } : Jvm.MethodName) ({ cls := "com/example/vantrell/vantrell/statistics/Statistic$BoundedRange", name := "lowWaterMark", desc := "()J" } : Jvm.MethodName)).before a0 Z = true := hw _ (List.mem_of_getElem? (i := 54) rfl)
theorem wd52 {Z : State} {a0 : Array Value} (hw : ∀ d ∈ tables_1, d.before a0 Z = true) : (Jvm.Cond.declares ({ cls := "com/example/vantrell/vantrell/statistics/Statistic$BoundedRange", name := "lowWaterMark", desc := "()J" } : Jvm.MethodName)).before a0 Z = true := hw _ (List.mem_of_getElem? (i := 52) rfl)
theorem wd53 {Z : State} {a0 : Array Value} (hw : ∀ d ∈ tables_1, d.before a0 Z = true) : (Jvm.Cond.instanceMethod ({ cls := "com/example/vantrell/vantrell/statistics/Statistic$BoundedRange", name := "lowWaterMark", desc := "()J" } : Jvm.MethodName)).before a0 Z = true := hw _ (List.mem_of_getElem? (i := 53) rfl)
theorem wd60 {Z : State} {a0 : Array Value} (hw : ∀ d ∈ tables_1, d.before a0 Z = true) : (Jvm.Cond.code ({ cls := "com/example/vantrell/vantrell/statistics/Statistic$BoundedRange", name := "current", desc := "()J" } : Jvm.MethodName) prog_41_method_14_code (1 : Nat) (Option.some Jvm.ClassFile.FieldType.long)).before a0 Z = true := hw _ (List.mem_of_getElem? (i := 60) rfl)
theorem wd59 {Z : State} {a0 : Array Value} (hw : ∀ d ∈ tables_1, d.before a0 Z = true) : (Jvm.Cond.selects "com/example/vantrell/vantrell/statistics/Statistic$BoundedRange" ({ cls := "com/example/vantrell/vantrell/statistics/Statistic$BoundedRange", name := "current", desc := "()J" } : Jvm.MethodName) ({ cls := "com/example/vantrell/vantrell/statistics/Statistic$BoundedRange", name := "current", desc := "()J" } : Jvm.MethodName)).before a0 Z = true := hw _ (List.mem_of_getElem? (i := 59) rfl)
theorem wd57 {Z : State} {a0 : Array Value} (hw : ∀ d ∈ tables_1, d.before a0 Z = true) : (Jvm.Cond.declares ({ cls := "com/example/vantrell/vantrell/statistics/Statistic$BoundedRange", name := "current", desc := "()J" } : Jvm.MethodName)).before a0 Z = true := hw _ (List.mem_of_getElem? (i := 57) rfl)
theorem wd58 {Z : State} {a0 : Array Value} (hw : ∀ d ∈ tables_1, d.before a0 Z = true) : (Jvm.Cond.instanceMethod ({ cls := "com/example/vantrell/vantrell/statistics/Statistic$BoundedRange", name := "current", desc := "()J" } : Jvm.MethodName)).before a0 Z = true := hw _ (List.mem_of_getElem? (i := 58) rfl)
theorem wd65 {Z : State} {a0 : Array Value} (hw : ∀ d ∈ tables_1, d.before a0 Z = true) : (Jvm.Cond.code ({ cls := "com/example/vantrell/vantrell/statistics/Statistic$BoundedRange", name := "kind", desc := "()Lcom/example/vantrell/vantrell/statistics/Statistic$Kind;" } : Jvm.MethodName) prog_41_method_4_code (1 : Nat) (Option.some (Jvm.ClassFile.FieldType.object "com/example/vantrell/vantrell/statistics/Statistic$Kind"))).before a0 Z = true := hw _ (List.mem_of_getElem? (i := 65) rfl)
theorem pd4 : parseMethodDescriptor "()Lcom/example/vantrell/vantrell/statistics/Statistic$Kind;" = some ⟨[], some (.object "com/example/vantrell/vantrell/statistics/Statistic$Kind")⟩ := by decide +kernel
theorem wd64 {Z : State} {a0 : Array Value} (hw : ∀ d ∈ tables_1, d.before a0 Z = true) : (Jvm.Cond.selects "com/example/vantrell/vantrell/statistics/Statistic$BoundedRange" ({ cls := "com/example/vantrell/vantrell/statistics/Statistic$BoundedRange", name := "kind", desc := "()Lcom/example/vantrell/vantrell/statistics/Statistic$Kind;" } : Jvm.MethodName) ({ cls := "com/example/vantrell/vantrell/statistics/Statistic$BoundedRange", name := "kind", desc := "()Lcom/example/vantrell/vantrell/statistics/Statistic$Kind;" } : Jvm.MethodName)).before a0 Z = true := hw _ (List.mem_of_getElem? (i := 64) rfl)
theorem wd62 {Z : State} {a0 : Array Value} (hw : ∀ d ∈ tables_1, d.before a0 Z = true) : (Jvm.Cond.declares ({ cls := "com/example/vantrell/vantrell/statistics/Statistic$BoundedRange", name := "kind", desc := "()Lcom/example/vantrell/vantrell/statistics/Statistic$Kind;" } : Jvm.MethodName)).before a0 Z = true := hw _ (List.mem_of_getElem? (i := 62) rfl)
theorem wd63 {Z : State} {a0 : Array Value} (hw : ∀ d ∈ tables_1, d.before a0 Z = true) : (Jvm.Cond.instanceMethod ({ cls := "com/example/vantrell/vantrell/statistics/Statistic$BoundedRange", name := "kind", desc := "()Lcom/example/vantrell/vantrell/statistics/Statistic$Kind;" } : Jvm.MethodName)).before a0 Z = true := hw _ (List.mem_of_getElem? (i := 63) rfl)
theorem wd69 {Z : State} {a0 : Array Value} (hw : ∀ d ∈ tables_1, d.before a0 Z = true) : (Jvm.Cond.fieldLink "com/example/vantrell/vantrell/statistics/BoundedRangeNotApplicablePinLaw" (38 : Nat) "com/example/vantrell/vantrell/statistics/Statistic$Kind" "BOUNDED_RANGE" "Lcom/example/vantrell/vantrell/statistics/Statistic$Kind;").before a0 Z = true := hw _ (List.mem_of_getElem? (i := 69) rfl)
theorem pn2 : plainName "com/example/vantrell/vantrell/statistics/BoundedRangeNotApplicablePinLaw" = true := by first | (simp [plainName, overriddenIn]; done) | decide +kernel
def Q0 (Z : State) (q1 : Int64) (w_BOUNDED_RANGE : Addr) (h0 : Heap) (n0 : Nat) (v : Option Value) (h : Heap) (L : List Loc) : Prop := v = some (.int (1 : Int32)) ∧ Fr n0 L
theorem ef0 (m : MethodId) (x0 : Int64) : entryFrame m #[(.long x0)] maxLocals = mkF m 0 #[.val (.long x0), .second, .unset] [] := by first | (simp [entryFrame, mkF, argsToLocals, Value.category, maxLocals]; done) | rfl
set_option maxRecDepth 65536 in
set_option maxHeartbeats 16000000 in
theorem rm0 (l : Launch) (Z : State) (a0 : Array Value) (hw : ∀ d ∈ tables_1, d.before a0 Z = true) (ws : List Jvm.Cond) (q1 : Int64) (w_BOUNDED_RANGE : Addr) (h0 : Heap) (n0 : Nat) (Z0 : n0 ≤ h0.size) (S_BOUNDED_RANGE : Sta Z h0 "com/example/vantrell/vantrell/statistics/Statistic$Kind" "BOUNDED_RANGE" "Lcom/example/vantrell/vantrell/statistics/Statistic$Kind;" (.ref w_BOUNDED_RANGE)) (E_w_BOUNDED_RANGE : Exa Z h0 w_BOUNDED_RANGE "com/example/vantrell/vantrell/statistics/Statistic$Kind") :
    MetFree l x (head1 (Jvm.Cond.code x code maxLocals ret :: ws) room_1) (fun a U => a = #[(.long q1)] ∧ Z.Warmed39 U.vm ∧ U.heap = h0) (fun _ _ _ _ _ => True) (fun _ U o U' => ∃ v L, o = .returned v ∧ Q0 Z q1 w_BOUNDED_RANGE h0 n0 v U'.heap L ∧ FrameEnd U o U' L 16 128) := by
  refine MetFree.of_bodySF (plainFor_of_name pn2) hisR ?_
  intro p e s m args below meth c s₁ Bd hml0 hP hK
  obtain ⟨rfl, hZ, hh⟩ := hP
  have hx := Bd.exec
  have hby := Bd.bytes
  have hml : c.maxLocals = 3 := hml0
  have hown : s.vm.findClass "com/example/vantrell/vantrell/statistics/BoundedRangeNotApplicablePinLaw" = some m.cls := findClass_of_methodNamed Bd.named
  have hnm := (name_of_methodNamed Bd.named Bd.method).1
  have X0 : Stand p l e room_1 s m #[(.long q1)] below meth c s₁ [] 0 0 := Stand.of_body Bd
  have e0 : s₁.heap = h0 := by rw [← hh, Bd.state]; rfl
  have N0 := Fr.nil n0
  have K0 : Keep h0 h0 [] := Keep.refl h0 _
  refine Go.st (P := fun o U' => ∃ v L, o = .returned v ∧ Q0 Z q1 w_BOUNDED_RANGE h0 n0 v U'.heap L ∧ FrameEnd s o U' L 16 128) (fun t k => castTop (ef0 m q1) k) ?_
  show Go _ _ _ (s₁.setTop (mkF m 0 #[.val (.long q1), .second, .unset] [])) _
  refine Go.st (fun t k => XS.lloadN X0.here hx rfl (hb hby at_0) rfl k) ?_
  obtain ⟨_, _, ⟨T1, L1, k1, n1⟩, -, X1, ⟨Lc1, hQ1, l1, y1, z1⟩, st1⟩ := Jvm.LawKit.callS X0 hx (y := (⟨"com/example/vantrell/vantrell/statistics/Statistic$BoundedRange", "notApplicable", "(J)Lcom/example/vantrell/vantrell/statistics/Statistic$BoundedRange;"⟩ : MethodName)) hown (mvT hZ (wd0 hw)) (mvT hZ (wd1 hw)) (mvT hZ (wd2 hw)) (mvT hZ (wd3 hw)) (by decide) (backOf (W := 0) (rm1 l Z a0 hw [] q1 h0 n0 Z0) hZ (wd3 hw) (wd2 hw) (by decide) (by decide)) (g := (mkF m 1 #[.val (.long q1), .second, .unset] [(.long q1)])) rfl (by rw [hml]; rfl) (argsL := [(.long q1)]) (rest := []) (lenOf pd2 rfl) rfl (by show 2 * 0 + _ ≤ _; exact Nat.le_of_eq rfl) (hb hby at_1) (fun _ _ => ⟨rfl, e0, (by decide : 0 + 1 ≤ _), (by decide : 0 + 6 ≤ _)⟩)
  dsimp only [Pt.U, Pt.locs, Pt.cells, Pt.slots] at X1 l1 y1 z1 st1 hQ1
  subst l1 y1 z1
  obtain ⟨h1, e1⟩ : ∃ z, T1.heap = z := ⟨_, rfl⟩
  rw [e1] at hQ1
  obtain ⟨x1_0_1, rfl, N1q, K1, ng_x1_0_1, sz0_x1_0_1, Q1_0, Q1_1, Q1_2, Q1_3, Q1_4, Q1_5, Q1_6⟩ := hQ1
  refine Go.st st1 ?_
  have ne_w_BOUNDED_RANGE_x1_0_1 : w_BOUNDED_RANGE ≠ x1_0_1 := Nat.ne_of_lt (Nat.lt_of_lt_of_le E_w_BOUNDED_RANGE.lt sz0_x1_0_1)
  have g_x1_0_1 : n0 ≤ x1_0_1 := ng_x1_0_1
  have sz_x1_0_1 : h0.size ≤ x1_0_1 := Nat.le_trans K0.1 sz0_x1_0_1
  replace S_BOUNDED_RANGE := sta_keep S_BOUNDED_RANGE K1 all0
  replace E_w_BOUNDED_RANGE := E_w_BOUNDED_RANGE.keep K1
  replace Z0 := Nat.le_trans Z0 K1.1
  replace K0 := K0.trans K1 all0
  have E_x1_0_1 := Q1_0
  have F_x1_0_1_startTime := Q1_1
  have F_x1_0_1_upperBound := Q1_2
  have F_x1_0_1_lowerBound := Q1_3
  have F_x1_0_1_highWaterMark := Q1_4
  have F_x1_0_1_lowWaterMark := Q1_5
  have F_x1_0_1_current := Q1_6
  have N1 := Fr.app N0 N1q
  show Go _ _ _ (T1.setTop (mkF m 4 #[.val (.long q1), .second, .unset] [(.ref x1_0_1)])) _
  refine Go.st (fun t k => XS.astoreN X1.here hx rfl (hb hby at_4) rfl rfl (l' := #[.val (.long q1), .second, .val (.ref x1_0_1)]) rfl k) ?_
  refine Go.st (fun t k => XS.aloadN X1.here hx rfl (hb hby at_5) rfl rfl k) ?_
  obtain ⟨cq2, kq2, q2a, q2b, q2c⟩ := isOf hZ e1 E_x1_0_1
  obtain ⟨_, _, ⟨T2, L2, k2, n2⟩, -, X2, ⟨Lc2, hQ2, l2, y2, z2⟩, st2⟩ := X1.virtualBack hx (y := (⟨"com/example/vantrell/vantrell/statistics/Statistic$BoundedRange", "startTime", "()J"⟩ : MethodName)) (z := (⟨"com/example/vantrell/vantrell/statistics/Statistic$BoundedRange", "startTime", "()J"⟩ : MethodName)) hown (mvT hZ (wd30 hw)) (mvT hZ (wd31 hw)) (notFace_of_selects (args := #[]) (mvT hZ (wd33 hw))) (mvT hZ (wd33 hw)) (mvT hZ (wd32 hw)) (by decide) (backOf (W := 0) (rm5 l Z a0 hw [] x1_0_1 q1 h1 n0 Z0 F_x1_0_1_startTime) hZ (wd34 hw) (wd2 hw) (by decide) (by decide)) q2a q2c (g := (mkF m 6 #[.val (.long q1), .second, .val (.ref x1_0_1)] [(.ref x1_0_1)])) rfl (by rw [hml]; rfl) (Steps.refl _) (argsL := []) (rest := []) (lenOf pd3 rfl) rfl (by show 2 * 0 + _ ≤ _; exact Nat.le_of_eq rfl) (hb hby at_6) (fun _ _ => ⟨rfl, e1, (by decide : 1 + 0 ≤ _), (by decide : 6 + 0 ≤ _)⟩)
  dsimp only [Pt.U, Pt.locs, Pt.cells, Pt.slots] at X2 l2 y2 z2 st2 hQ2
  subst l2 y2 z2
  refine Go.tr st2 ?_
  obtain ⟨rfl, N2q, e2⟩ := hQ2
  have N2 := Fr.app N1 N2q
  show Go _ _ _ (T2.setTop (mkF m 9 #[.val (.long q1), .second, .val (.ref x1_0_1)] [(.long q1)])) _
  refine Go.st (fun t k => XS.lloadN X2.here hx rfl (hb hby at_9) rfl k) ?_
  refine Go.st (fun t k => XS.lcmp X2.here hx rfl (hb hby at_10) rfl k) ?_
  show Go _ _ _ (T2.setTop (mkF m 11 #[.val (.long q1), .second, .val (.ref x1_0_1)] [(.int (lcmpW q1 q1))])) _
  refine Go.st (fun t k => XS.ifNo X2.here hx rfl (hb hby at_11) rfl ((if0 _ _).trans (teq ((lw_eq q1 q1).mpr (rfl : q1 = q1))).2) k) ?_
  show Go _ _ _ (T2.setTop (mkF m 14 #[.val (.long q1), .second, .val (.ref x1_0_1)] [])) _
  refine Go.st (fun t k => XS.aloadN X2.here hx rfl (hb hby at_14) rfl rfl k) ?_
  obtain ⟨cq3, kq3, q3a, q3b, q3c⟩ := isOf hZ e2 E_x1_0_1
  obtain ⟨_, _, ⟨T3, L3, k3, n3⟩, -, X3, ⟨Lc3, hQ3, l3, y3, z3⟩, st3⟩ := X2.virtualBack hx (y := (⟨"com/example/vantrell/vantrell/statistics/Statistic$BoundedRange", "upperBound", "()J"⟩ : MethodName)) (z := (⟨"com/example/vantrell/vantrell/statistics/Statistic$BoundedRange", "upperBound", "()J"⟩ : MethodName)) hown (mvT hZ (wd35 hw)) (mvT hZ (wd36 hw)) (notFace_of_selects (args := #[]) (mvT hZ (wd38 hw))) (mvT hZ (wd38 hw)) (mvT hZ (wd37 hw)) (by decide) (backOf (W := 0) (rm6 l Z a0 hw [] x1_0_1 (-1 : Int64) h1 n0 Z0 F_x1_0_1_upperBound) hZ (wd39 hw) (wd2 hw) (by decide) (by decide)) q3a q3c (g := (mkF m 15 #[.val (.long q1), .second, .val (.ref x1_0_1)] [(.ref x1_0_1)])) rfl (by rw [hml]; rfl) (Steps.refl _) (argsL := []) (rest := []) (lenOf pd3 rfl) rfl (by show 2 * 0 + _ ≤ _; exact Nat.le_of_eq rfl) (hb hby at_15) (fun _ _ => ⟨rfl, e2, (by decide : 1 + 0 ≤ _), (by decide : 6 + 0 ≤ _)⟩)
  dsimp only [Pt.U, Pt.locs, Pt.cells, Pt.slots] at X3 l3 y3 z3 st3 hQ3
  subst l3 y3 z3
  refine Go.tr st3 ?_
  obtain ⟨rfl, N3q, e3⟩ := hQ3
  have N3 := Fr.app N2 N3q
  show Go _ _ _ (T3.setTop (mkF m 18 #[.val (.long q1), .second, .val (.ref x1_0_1)] [(.long (-1))])) _
  refine Go.st (fun t k => X3.ldc2Long hx hown (mvT hZ (wd40 hw)) (g := (mkF m 18 #[.val (.long q1), .second, .val (.ref x1_0_1)] [(.long (-1))])) rfl (hb hby at_18) _ k) ?_
  show Go _ _ _ (T3.setTop (mkF m 21 #[.val (.long q1), .second, .val (.ref x1_0_1)] [(.long (-1)), (.long (-1))])) _
  refine Go.st (fun t k => XS.lcmp X3.here hx rfl (hb hby at_21) rfl k) ?_
  show Go _ _ _ (T3.setTop (mkF m 22 #[.val (.long q1), .second, .val (.ref x1_0_1)] [(.int (lcmpW (-1 : Int64) (-1 : Int64)))])) _
  refine Go.st (fun t k => XS.ifNo X3.here hx rfl (hb hby at_22) rfl ((if0 _ _).trans (teq ((lw_eq (-1 : Int64) (-1 : Int64)).mpr (by decide : (-1 : Int64) = (-1 : Int64)))).2) k) ?_
  show Go _ _ _ (T3.setTop (mkF m 25 #[.val (.long q1), .second, .val (.ref x1_0_1)] [])) _
  refine Go.st (fun t k => XS.aloadN X3.here hx rfl (hb hby at_25) rfl rfl k) ?_
  obtain ⟨cq4, kq4, q4a, q4b, q4c⟩ := isOf hZ e3 E_x1_0_1
  obtain ⟨_, _, ⟨T4, L4, k4, n4⟩, -, X4, ⟨Lc4, hQ4, l4, y4, z4⟩, st4⟩ := X3.virtualBack hx (y := (⟨"com/example/vantrell/vantrell/statistics/Statistic$BoundedRange", "lowerBound", "()J"⟩ : MethodName)) (z := (⟨"com/example/vantrell/vantrell/statistics/Statistic$BoundedRange", "lowerBound", "()J"⟩ : MethodName)) hown (mvT hZ (wd41 hw)) (mvT hZ (wd42 hw)) (notFace_of_selects (args := #[]) (mvT hZ (wd44 hw))) (mvT hZ (wd44 hw)) (mvT hZ (wd43 hw)) (by decide) (backOf (W := 0) (rm7 l Z a0 hw [] x1_0_1 (-1 : Int64) h1 n0 Z0 F_x1_0_1_lowerBound) hZ (wd45 hw) (wd2 hw) (by decide) (by decide)) q4a q4c (g := (mkF m 26 #[.val (.long q1), .second, .val (.ref x1_0_1)] [(.ref x1_0_1)])) rfl (by rw [hml]; rfl) (Steps.refl _) (argsL := []) (rest := []) (lenOf pd3 rfl) rfl (by show 2 * 0 + _ ≤ _; exact Nat.le_of_eq rfl) (hb hby at_26) (fun _ _ => ⟨rfl, e3, (by decide : 1 + 0 ≤ _), (by decide : 6 + 0 ≤ _)⟩)
  dsimp only [Pt.U, Pt.locs, Pt.cells, Pt.slots] at X4 l4 y4 z4 st4 hQ4
  subst l4 y4 z4
  refine Go.tr st4 ?_
  obtain ⟨rfl, N4q, e4⟩ := hQ4
  have N4 := Fr.app N3 N4q
  show Go _ _ _ (T4.setTop (mkF m 29 #[.val (.long q1), .second, .val (.ref x1_0_1)] [(.long (-1))])) _
  refine Go.st (fun t k => X4.ldc2Long hx hown (mvT hZ (wd40 hw)) (g := (mkF m 29 #[.val (.long q1), .second, .val (.ref x1_0_1)] [(.long (-1))])) rfl (hb hby at_29) _ k) ?_
  show Go _ _ _ (T4.setTop (mkF m 32 #[.val (.long q1), .second, .val (.ref x1_0_1)] [(.long (-1)), (.long (-1))])) _
  refine Go.st (fun t k => XS.lcmp X4.here hx rfl (hb hby at_32) rfl k) ?_
  show Go _ _ _ (T4.setTop (mkF m 33 #[.val (.long q1), .second, .val (.ref x1_0_1)] [(.int (lcmpW (-1 : Int64) (-1 : Int64)))])) _
  refine Go.st (fun t k => XS.ifNo X4.here hx rfl (hb hby at_33) rfl ((if0 _ _).trans (teq ((lw_eq (-1 : Int64) (-1 : Int64)).mpr (by decide : (-1 : Int64) = (-1 : Int64)))).2) k) ?_
  show Go _ _ _ (T4.setTop (mkF m 36 #[.val (.long q1), .second, .val (.ref x1_0_1)] [])) _
  refine Go.st (fun t k => XS.aloadN X4.here hx rfl (hb hby at_36) rfl rfl k) ?_
  obtain ⟨cq5, kq5, q5a, q5b, q5c⟩ := isOf hZ e4 E_x1_0_1
  obtain ⟨_, _, ⟨T5, L5, k5, n5⟩, -, X5, ⟨Lc5, hQ5, l5, y5, z5⟩, st5⟩ := X4.virtualBack hx (y := (⟨"com/example/vantrell/vantrell/statistics/Statistic$BoundedRange", "highWaterMark", "()J"⟩ : MethodName)) (z := (⟨"com/example/vantrell/vantrell/statistics/Statistic$BoundedRange", "highWaterMark", "()J"⟩ : MethodName)) hown (mvT hZ (wd46 hw)) (mvT hZ (wd47 hw)) (notFace_of_selects (args := #[]) (mvT hZ (wd49 hw))) (mvT hZ (wd49 hw)) (mvT hZ (wd48 hw)) (by decide) (backOf (W := 0) (rm8 l Z a0 hw [] x1_0_1 (-1 : Int64) h1 n0 Z0 F_x1_0_1_highWaterMark) hZ (wd50 hw) (wd2 hw) (by decide) (by decide)) q5a q5c (g := (mkF m 37 #[.val (.long q1), .second, .val (.ref x1_0_1)] [(.ref x1_0_1)])) rfl (by rw [hml]; rfl) (Steps.refl _) (argsL := []) (rest := []) (lenOf pd3 rfl) rfl (by show 2 * 0 + _ ≤ _; exact Nat.le_of_eq rfl) (hb hby at_37) (fun _ _ => ⟨rfl, e4, (by decide : 1 + 0 ≤ _), (by decide : 6 + 0 ≤ _)⟩)
  dsimp only [Pt.U, Pt.locs, Pt.cells, Pt.slots] at X5 l5 y5 z5 st5 hQ5
  subst l5 y5 z5
  refine Go.tr st5 ?_
  obtain ⟨rfl, N5q, e5⟩ := hQ5
  have N5 := Fr.app N4 N5q
  show Go _ _ _ (T5.setTop (mkF m 40 #[.val (.long q1), .second, .val (.ref x1_0_1)] [(.long (-1))])) _
  refine Go.st (fun t k => X5.ldc2Long hx hown (mvT hZ (wd40 hw)) (g := (mkF m 40 #[.val (.long q1), .second, .val (.ref x1_0_1)] [(.long (-1))])) rfl (hb hby at_40) _ k) ?_
  show Go _ _ _ (T5.setTop (mkF m 43 #[.val (.long q1), .second, .val (.ref x1_0_1)] [(.long (-1)), (.long (-1))])) _
  refine Go.st (fun t k => XS.lcmp X5.here hx rfl (hb hby at_43) rfl k) ?_
  show Go _ _ _ (T5.setTop (mkF m 44 #[.val (.long q1), .second, .val (.ref x1_0_1)] [(.int (lcmpW (-1 : Int64) (-1 : Int64)))])) _
  refine Go.st (fun t k => XS.ifNo X5.here hx rfl (hb hby at_44) rfl ((if0 _ _).trans (teq ((lw_eq (-1 : Int64) (-1 : Int64)).mpr (by decide : (-1 : Int64) = (-1 : Int64)))).2) k) ?_
  show Go _ _ _ (T5.setTop (mkF m 47 #[.val (.long q1), .second, .val (.ref x1_0_1)] [])) _
  refine Go.st (fun t k => XS.aloadN X5.here hx rfl (hb hby at_47) rfl rfl k) ?_
  obtain ⟨cq6, kq6, q6a, q6b, q6c⟩ := isOf hZ e5 E_x1_0_1
  obtain ⟨_, _, ⟨T6, L6, k6, n6⟩, -, X6, ⟨Lc6, hQ6, l6, y6, z6⟩, st6⟩ := X5.virtualBack hx (y := (⟨"com/example/vantrell/vantrell/statistics/Statistic$BoundedRange", "lowWaterMark", "()J"⟩ : MethodName)) (z := (⟨"com/example/vantrell/vantrell/statistics/Statistic$BoundedRange", "lowWaterMark", "()J"⟩ : MethodName)) hown (mvT hZ (wd51 hw)) (mvT hZ (wd52 hw)) (notFace_of_selects (args := #[]) (mvT hZ (wd54 hw))) (mvT hZ (wd54 hw)) (mvT hZ (wd53 hw)) (by decide) (backOf (W := 0) (rm9 l Z a0 hw [] x1_0_1 (-1 : Int64) h1 n0 Z0 F_x1_0_1_lowWaterMark) hZ (wd55 hw) (wd2 hw) (by decide) (by decide)) q6a q6c (g := (mkF m 48 #[.val (.long q1), .second, .val (.ref x1_0_1)] [(.ref x1_0_1)])) rfl (by rw [hml]; rfl) (Steps.refl _) (argsL := []) (rest := []) (lenOf pd3 rfl) rfl (by show 2 * 0 + _ ≤ _; exact Nat.le_of_eq rfl) (hb hby at_48) (fun _ _ => ⟨rfl, e5, (by decide : 1 + 0 ≤ _), (by decide : 6 + 0 ≤ _)⟩)
  dsimp only [Pt.U, Pt.locs, Pt.cells, Pt.slots] at X6 l6 y6 z6 st6 hQ6
  subst l6 y6 z6
  refine Go.tr st6 ?_
  obtain ⟨rfl, N6q, e6⟩ := hQ6
  have N6 := Fr.app N5 N6q
  show Go _ _ _ (T6.setTop (mkF m 51 #[.val (.long q1), .second, .val (.ref x1_0_1)] [(.long (-1))])) _
  refine Go.st (fun t k => X6.ldc2Long hx hown (mvT hZ (wd40 hw)) (g := (mkF m 51 #[.val (.long q1), .second, .val (.ref x1_0_1)] [(.long (-1))])) rfl (hb hby at_51) _ k) ?_
  show Go _ _ _ (T6.setTop (mkF m 54 #[.val (.long q1), .second, .val (.ref x1_0_1)] [(.long (-1)), (.long (-1))])) _
  refine Go.st (fun t k => XS.lcmp X6.here hx rfl (hb hby at_54) rfl k) ?_
  show Go _ _ _ (T6.setTop (mkF m 55 #[.val (.long q1), .second, .val (.ref x1_0_1)] [(.int (lcmpW (-1 : Int64) (-1 : Int64)))])) _
  refine Go.st (fun t k => XS.ifNo X6.here hx rfl (hb hby at_55) rfl ((if0 _ _).trans (teq ((lw_eq (-1 : Int64) (-1 : Int64)).mpr (by decide : (-1 : Int64) = (-1 : Int64)))).2) k) ?_
  show Go _ _ _ (T6.setTop (mkF m 58 #[.val (.long q1), .second, .val (.ref x1_0_1)] [])) _
  refine Go.st (fun t k => XS.aloadN X6.here hx rfl (hb hby at_58) rfl rfl k) ?_
  obtain ⟨cq7, kq7, q7a, q7b, q7c⟩ := isOf hZ e6 E_x1_0_1
  obtain ⟨_, _, ⟨T7, L7, k7, n7⟩, -, X7, ⟨Lc7, hQ7, l7, y7, z7⟩, st7⟩ := X6.virtualBack hx (y := (⟨"com/example/vantrell/vantrell/statistics/Statistic$BoundedRange", "current", "()J"⟩ : MethodName)) (z := (⟨"com/example/vantrell/vantrell/statistics/Statistic$BoundedRange", "current", "()J"⟩ : MethodName)) hown (mvT hZ (wd56 hw)) (mvT hZ (wd57 hw)) (notFace_of_selects (args := #[]) (mvT hZ (wd59 hw))) (mvT hZ (wd59 hw)) (mvT hZ (wd58 hw)) (by decide) (backOf (W := 0) (rm10 l Z a0 hw [] x1_0_1 (-1 : Int64) h1 n0 Z0 F_x1_0_1_current) hZ (wd60 hw) (wd2 hw) (by decide) (by decide)) q7a q7c (g := (mkF m 59 #[.val (.long q1), .second, .val (.ref x1_0_1)] [(.ref x1_0_1)])) rfl (by rw [hml]; rfl) (Steps.refl _) (argsL := []) (rest := []) (lenOf pd3 rfl) rfl (by show 2 * 0 + _ ≤ _; exact Nat.le_of_eq rfl) (hb hby at_59) (fun _ _ => ⟨rfl, e6, (by decide : 1 + 0 ≤ _), (by decide : 6 + 0 ≤ _)⟩)
  dsimp only [Pt.U, Pt.locs, Pt.cells, Pt.slots] at X7 l7 y7 z7 st7 hQ7
  subst l7 y7 z7
  refine Go.tr st7 ?_
  obtain ⟨rfl, N7q, e7⟩ := hQ7
  have N7 := Fr.app N6 N7q
  show Go _ _ _ (T7.setTop (mkF m 62 #[.val (.long q1), .second, .val (.ref x1_0_1)] [(.long (-1))])) _
  refine Go.st (fun t k => X7.ldc2Long hx hown (mvT hZ (wd40 hw)) (g := (mkF m 62 #[.val (.long q1), .second, .val (.ref x1_0_1)] [(.long (-1))])) rfl (hb hby at_62) _ k) ?_
  show Go _ _ _ (T7.setTop (mkF m 65 #[.val (.long q1), .second, .val (.ref x1_0_1)] [(.long (-1)), (.long (-1))])) _
  refine Go.st (fun t k => XS.lcmp X7.here hx rfl (hb hby at_65) rfl k) ?_
  show Go _ _ _ (T7.setTop (mkF m 66 #[.val (.long q1), .second, .val (.ref x1_0_1)] [(.int (lcmpW (-1 : Int64) (-1 : Int64)))])) _
  refine Go.st (fun t k => XS.ifNo X7.here hx rfl (hb hby at_66) rfl ((if0 _ _).trans (teq ((lw_eq (-1 : Int64) (-1 : Int64)).mpr (by decide : (-1 : Int64) = (-1 : Int64)))).2) k) ?_
  show Go _ _ _ (T7.setTop (mkF m 69 #[.val (.long q1), .second, .val (.ref x1_0_1)] [])) _
  refine Go.st (fun t k => XS.aloadN X7.here hx rfl (hb hby at_69) rfl rfl k) ?_
  obtain ⟨cq8, kq8, q8a, q8b, q8c⟩ := isOf hZ e7 E_x1_0_1
  obtain ⟨_, _, ⟨T8, L8, k8, n8⟩, -, X8, ⟨Lc8, hQ8, l8, y8, z8⟩, st8⟩ := X7.virtualBack hx (y := (⟨"com/example/vantrell/vantrell/statistics/Statistic$BoundedRange", "kind", "()Lcom/example/vantrell/vantrell/statistics/Statistic$Kind;"⟩ : MethodName)) (z := (⟨"com/example/vantrell/vantrell/statistics/Statistic$BoundedRange", "kind", "()Lcom/example/vantrell/vantrell/statistics/Statistic$Kind;"⟩ : MethodName)) hown (mvT hZ (wd61 hw)) (mvT hZ (wd62 hw)) (notFace_of_selects (args := #[]) (mvT hZ (wd64 hw))) (mvT hZ (wd64 hw)) (mvT hZ (wd63 hw)) (by decide) (backOf (W := 0) (rm11 l Z a0 hw [] x1_0_1 w_BOUNDED_RANGE h1 n0 Z0 S_BOUNDED_RANGE E_w_BOUNDED_RANGE) hZ (wd65 hw) (wd2 hw) (by decide) (by decide)) q8a q8c (g := (mkF m 70 #[.val (.long q1), .second, .val (.ref x1_0_1)] [(.ref x1_0_1)])) rfl (by rw [hml]; rfl) (Steps.refl _) (argsL := []) (rest := []) (lenOf pd4 rfl) rfl (by show 2 * 0 + _ ≤ _; exact Nat.le_of_eq rfl) (hb hby at_70) (fun _ _ => ⟨rfl, e7, (by decide : 1 + 0 ≤ _), (by decide : 6 + 0 ≤ _)⟩)
  dsimp only [Pt.U, Pt.locs, Pt.cells, Pt.slots] at X8 l8 y8 z8 st8 hQ8
  subst l8 y8 z8
  refine Go.tr st8 ?_
  obtain ⟨rfl, N8q, e8⟩ := hQ8
  have N8 := Fr.app N7 N8q
  show Go _ _ _ (T8.setTop (mkF m 73 #[.val (.long q1), .second, .val (.ref x1_0_1)] [(.ref w_BOUNDED_RANGE)])) _
  obtain ⟨T9, X9, e9, st9⟩ := getS2 X8 hx hZ hown (host := "") (Or.inl (wd69 hw)) Via.refl e8 S_BOUNDED_RANGE (g := (mkF m 73 #[.val (.long q1), .second, .val (.ref x1_0_1)] [(.ref w_BOUNDED_RANGE)])) rfl (hb hby at_73)
  refine Go.st st9 ?_
  show Go _ _ _ (T9.setTop (mkF m 76 #[.val (.long q1), .second, .val (.ref x1_0_1)] [(.ref w_BOUNDED_RANGE), (.ref w_BOUNDED_RANGE)])) _
  refine Go.st (fun t k => Jvm.RoadKit.acmp (g := (mkF m 76 #[.val (.long q1), .second, .val (.ref x1_0_1)] [(.ref w_BOUNDED_RANGE), (.ref w_BOUNDED_RANGE)])) X9 hx rfl rfl rfl (pc0 := 76) (pc' := 79) (same := true) rfl (hb hby at_76) rfl (decide_eq_true rfl) (by decide) (by decide) k) ?_
  show Go _ _ _ (T9.setTop (mkF m 79 #[.val (.long q1), .second, .val (.ref x1_0_1)] [])) _
  refine Go.st (fun t k => XS.iconst X9.here hx rfl (hb hby at_79) k) ?_
  refine Go.st (fun t k => XS.goto X9.here hx rfl (pc0 := 80) (pc' := 84) rfl (hb hby at_80) (by decide) (by decide) k) ?_
  obtain ⟨fs, hr, hrun, hended, hW, hsame⟩ := X9.leave (v := some (.int (1 : Int32))) (fun h => by rw [Bd.returns] at h; cases h)
  refine Go.fin (retN X9 hx (t := .boolean) Bd.returns (by simp) (hb hby at_84) hr) hrun hended ⟨_, _, rfl, ?_, ⟨_, rfl⟩, hW, hsame.mono (by decide) (by decide)⟩
  show Q0 Z q1 w_BOUNDED_RANGE h0 n0 _ T9.heap _
  rw [e9]
  exact ⟨rfl, N8⟩
theorem wd67 {Z : State} {a0 : Array Value} (hw : ∀ d ∈ tables_1, d.before a0 Z = true) : (Jvm.Cond.initialized "com/example/vantrell/vantrell/statistics/Statistic$Kind").before a0 Z = true := hw _ (List.mem_of_getElem? (i := 67) rfl)
theorem wd68 {Z : State} {a0 : Array Value} (hw : ∀ d ∈ tables_1, d.before a0 Z = true) : (Jvm.Cond.laysStatic "com/example/vantrell/vantrell/statistics/Statistic$Kind" "BOUNDED_RANGE" "Lcom/example/vantrell/vantrell/statistics/Statistic$Kind;").before a0 Z = true := hw _ (List.mem_of_getElem? (i := 68) rfl)
set_option maxRecDepth 65536 in
set_option maxHeartbeats 16000000 in
theorem comes_1 {Post : Tables → Env → Array Value → State → Outcome → State → Prop} (hpost : ∀ tb e args s v u, (limb_1_1.after args s (.returned v) u = true ∧ limb_1_2.after args s (.returned v) u = true ∧ True) → FrameEnd s (.returned v) u (Jvm.fieldLocs frame_1_writes args s ++ Jvm.arrayLocs frame_1_arrays args s ++ Jvm.staticLocs frame_1_statics s) 16 128 → Post tb e args s (.returned v) u) :
    ArmFor flags0 classFile x code maxLocals ret World_1 tables_1 room_1 Calls_1 rest_1 Pre_1 Post := by
  intro l hfl _ _ p e ha hc hk s m args below hf hA hF happ hP
  obtain ⟨hcalls, hrest, hpre⟩ := hP
  obtain ⟨-, -, -, hnamed, -, -, -, hat⟩ := (Spec.applies_iff hf).mp happ
  obtain ⟨hg, hn⟩ := and_e (Cond.before_iff.mp (show (Jvm.Cond.and given_1 narrow_1).before args s = true from hpre))
  obtain ⟨g1, g2⟩ := and_e hg
  obtain ⟨w0, rfl⟩ : ∃ w0 : Value, args = #[w0] := by
    have hs : args.size = 1 := by simpa [Cond.value, given_1] using g1
    obtain ⟨L⟩ := args
    match L, hs with
    | [w0], _ => exact ⟨w0, rfl⟩
  have hw := fun d (hd : d ∈ tables_1) => atoms_spec (ws := Jvm.Cond.code x code maxLocals ret :: tables_1) hat d (List.mem_cons_of_mem _ hd)
  have hfit : Fit s := fun {y c} hc i hi => by
    obtain ⟨ha, rfl⟩ := Array.getElem?_eq_some_iff.mp hc
    have q := List.all_eq_true.mp ((Array.all_eq_true_iff_forall_mem.mp hF) _ (Array.getElem_mem ha)) i (List.mem_range.mpr hi)
    simpa [Array.getElem?_eq_getElem hi] using q
  obtain ⟨i0, ei0⟩ := isL_v g2
  obtain rfl : w0 = (.long i0) := Option.some.inj ei0
  obtain ⟨v_BOUNDED_RANGE, ev_v_BOUNDED_RANGE⟩ := exa_v hn
  have E_v_BOUNDED_RANGE := Exa.start ev_v_BOUNDED_RANGE hn
  have S_v_BOUNDED_RANGE := Sta.start ev_v_BOUNDED_RANGE (Or.inr ⟨(wd67 hw), (wd68 hw)⟩)
  have hplain := trivial
  obtain ⟨n, o, h1, h2, h3, _, L, rfl, ⟨rfl, N⟩, hq⟩ := rm0 l s _ hw tables_1 i0 v_BOUNDED_RANGE s.heap s.heap.size (Nat.le_refl _) S_v_BOUNDED_RANGE E_v_BOUNDED_RANGE p e ha hc hk s m _ below hf ((Spec.applies_iff_loose hf).mp happ).1 ⟨rfl, State.Warmed39.refl s, rfl⟩ trivial
  refine ⟨n, _, h1, h2, h3, hpost _ _ _ _ _ _ ⟨Cond.after_iff.mpr rfl, Cond.after_iff.mpr (eq_i res_at (Term.int_eval (1)) rfl), trivial⟩ ⟨hq.1, hq.2.1, (hq.2.2.sift fun y hy => Or.inr (N y hy)).mono (by decide) (by decide)⟩⟩
theorem main_1_1 : Claimed_1_1 := comes_1 fun _ _ _ _ _ _ h hF => ⟨h.1, hF⟩
theorem main_1_2 : Claimed_1_2 := comes_1 fun _ _ _ _ _ _ h hF => ⟨h.2.1, hF⟩
end Jvm.Pilot.@@N@@
namespace Jvm.Pilot.@@N@@
open Jvm Jvm.ClassFile Sem Op Lib Jvm.Free Jvm.Stand Jvm.Pilot.@@N@@.Jvm.D
/-! MADE BY PROGRAM (witnessworld.py) out of the Statement's table words and the real class files: 15 classes; the members and pool entries that the words name. The judged class is class 1, her method 1. -/
namespace start1
open Jvm.ClassFile
def u (s : String) : CpInfo := .utf8 (stringToUtf16 s)
/-- a pool by its gaps: so many unusable entries, then the entry; so many at the end -/
def gap : Nat → List CpInfo → List CpInfo
  | 0, r => r
  | n + 1, r => .unusable :: gap n r
def poolList (es : List (Nat × CpInfo)) (last : Nat) : List CpInfo := es.foldr (fun e r => gap e.1 (e.2 :: r)) (gap last [])
def pool (es : List (Nat × CpInfo)) (last : Nat) : Array CpInfo := ⟨poolList es last⟩
def fileOf (pool : Array CpInfo) (this : Nat) (attrs : Array Attribute := #[]) (ms : Array MethodInfo := #[]) (fl : Nat := 33) (sup : Nat := 0) (ifs : Array Nat := #[]) (fds : Array FieldInfo := #[]) : ClassFile where
  minorVersion := 0
  majorVersion := 65
  constantPool := pool
  accessFlags := fl
  thisClass := this
  superClass := sup
  interfaces := ifs
  fields := fds
  methods := ms
  attributes := attrs
def plain (name : String) (sup : Option ClassId) : Class where
  name := name
  kind := .ordinary
  loader := none
  accessFlags := 33
  super := sup
  interfaces := #[]
  cf := none
  fields := #[]
  methods := #[]
  instanceTypes := #[]
  staticTypes := #[]
  resolved := #[]
  callSites := []
  init := .initialized
  statics := none
  mirror := none

def pool0 : Array CpInfo := pool [(5, u "<init>"), (0, u "()V"), (1, .class_ 10), (1, u "java/lang/Object")] 113

def k0c0 : Code := { maxStack := 0, maxLocals := 1, code := object_method_1_code, exceptionTable := #[], attributes := #[] }
def k0m0 : Method := { name := "<init>", desc := "()V", sig := { parameters := [], returnType := none }, accessFlags := 1, code := some k0c0 }
/-- java/lang/Object -/
def k0 : Class := { plain "java/lang/Object" none with
  accessFlags := 33
  interfaces := #[]
  cf := some (fileOf pool0 8 #[] #[{ accessFlags := 1, nameIndex := 5, descriptorIndex := 6, attributes := #[] }] 33 0 #[] #[])
  fields := #[]
  methods := #[k0m0]
  instanceTypes := #[]
  staticTypes := #[]
  resolved := Array.replicate 124 none
  statics := none }

def pool1 : Array CpInfo := pool [(2, .class_ 4), (1, u "java/lang/Object"), (0, u "<init>"), (0, u "()V"), (0, .methodref 8 9), (0, .class_ 10), (0, .nameAndType 11 12), (0, u "com/example/vantrell/vantrell/statistics/Statistic$BoundedRange"), (0, u "notApplicable"), (0, u "(J)Lcom/example/vantrell/vantrell/statistics/Statistic$BoundedRange;"), (0, .methodref 8 14), (0, .nameAndType 15 16), (0, u "startTime"), (0, u "()J"), (0, .methodref 8 18), (0, .nameAndType 19 16), (0, u "upperBound"), (0, .long 18446744073709551615), (1, .methodref 8 23), (0, .nameAndType 24 16), (0, u "lowerBound"), (0, .methodref 8 26), (0, .nameAndType 27 16), (0, u "highWaterMark"), (0, .methodref 8 29), (0, .nameAndType 30 16), (0, u "lowWaterMark"), (0, .methodref 8 32), (0, .nameAndType 33 16), (0, u "current"), (0, .methodref 8 35), (0, .nameAndType 36 37), (0, u "kind"), (0, u "()Lcom/example/vantrell/vantrell/statistics/Statistic$Kind;"), (0, .fieldref 39 40), (0, .class_ 41), (0, .nameAndType 42 43), (0, u "com/example/vantrell/vantrell/statistics/Statistic$Kind"), (0, u "BOUNDED_RANGE"), (0, u "Lcom/example/vantrell/vantrell/statistics/Statistic$Kind;"), (0, .class_ 45), (0, u "com/example/vantrell/vantrell/statistics/BoundedRangeNotApplicablePinLaw"), (2, u "law"), (0, u "(J)Z")] 8

def k1m0 : Method := { name := "<init>", desc := "()V", sig := { parameters := [], returnType := none }, accessFlags := 1, code := none }
def k1c1 : Code := { maxStack := 4, maxLocals := 3, code := code, exceptionTable := #[], attributes := #[] }
def k1m1 : Method := { name := "law", desc := "(J)Z", sig := { parameters := [.long], returnType := some .boolean }, accessFlags := 9, code := some k1c1 }
/-- com/example/vantrell/vantrell/statistics/BoundedRangeNotApplicablePinLaw -/
def k1 : Class := { plain "com/example/vantrell/vantrell/statistics/BoundedRangeNotApplicablePinLaw" (some 0) with
  accessFlags := 49
  interfaces := #[]
  cf := some (fileOf pool1 44 #[] #[{ accessFlags := 1, nameIndex := 5, descriptorIndex := 6, attributes := #[] }, { accessFlags := 9, nameIndex := 48, descriptorIndex := 49, attributes := #[] }] 49 2 #[] #[])
  fields := #[]
  methods := #[k1m0, k1m1]
  instanceTypes := #[]
  staticTypes := #[]
  resolved := Array.replicate 58 none
  statics := none }

def pool2 : Array CpInfo := pool [(1, .methodref 2 3), (0, .class_ 4), (0, .nameAndType 5 6), (0, u "java/lang/Object"), (0, u "<init>"), (0, u "()V"), (0, .class_ 8), (0, u "java/lang/Record")] 13

def k2c0 : Code := { maxStack := 1, maxLocals := 1, code := jdk_30_method_1_code, exceptionTable := #[], attributes := #[] }
def k2m0 : Method := { name := "<init>", desc := "()V", sig := { parameters := [], returnType := none }, accessFlags := 4, code := some k2c0 }
/-- java/lang/Record -/
def k2 : Class := { plain "java/lang/Record" (some 0) with
  accessFlags := 1057
  interfaces := #[]
  cf := some (fileOf pool2 7 #[] #[{ accessFlags := 4, nameIndex := 5, descriptorIndex := 6, attributes := #[] }] 1057 2 #[] #[])
  fields := #[]
  methods := #[k2m0]
  instanceTypes := #[]
  staticTypes := #[]
  resolved := Array.replicate 22 none
  statics := none }

def pool3 : Array CpInfo := pool [(1, .class_ 2), (0, u "com/example/vantrell/vantrell/statistics/Statistic"), (0, .class_ 4), (0, u "java/lang/Object"), (0, u "NOT_APPLICABLE"), (0, u "J"), (14, .class_ 22), (0, u "com/example/vantrell/vantrell/statistics/Statistic$BoundedRange"), (0, .class_ 24), (0, u "com/example/vantrell/vantrell/statistics/Statistic$Count"), (0, .class_ 26), (0, u "com/example/vantrell/vantrell/statistics/Statistic$Kind")] 5

/-- com/example/vantrell/vantrell/statistics/Statistic -/
def k3 : Class := { plain "com/example/vantrell/vantrell/statistics/Statistic" (some 0) with
  accessFlags := 1537
  interfaces := #[]
  cf := some (fileOf pool3 1 #[.nestMembers #[21, 23, 25]] #[] 1537 3 #[] #[{ accessFlags := 25, nameIndex := 5, descriptorIndex := 6, attributes := #[] }])
  fields := #[{ name := "NOT_APPLICABLE", type := .long, accessFlags := 25, slot := 0, constantValue := 0 }]
  methods := #[]
  instanceTypes := #[]
  staticTypes := #[.long]
  resolved := Array.replicate 32 none
  statics := none }

def pool4 : Array CpInfo := pool [(1, .methodref 2 3), (0, .class_ 4), (0, .nameAndType 5 6), (0, u "java/lang/Record"), (0, u "<init>"), (0, u "()V"), (0, .fieldref 8 9), (0, .class_ 10), (0, .nameAndType 11 12), (0, u "com/example/vantrell/vantrell/statistics/Statistic$BoundedRange"), (0, u "startTime"), (0, u "J"), (0, .fieldref 8 14), (0, .nameAndType 15 12), (0, u "upperBound"), (0, .fieldref 8 17), (0, .nameAndType 18 12), (0, u "lowerBound"), (0, .fieldref 8 20), (0, .nameAndType 21 12), (0, u "highWaterMark"), (0, .fieldref 8 23), (0, .nameAndType 24 12), (0, u "lowWaterMark"), (0, .fieldref 8 26), (0, .nameAndType 27 12), (0, u "current"), (0, .class_ 29), (0, u "com/example/vantrell/vantrell/statistics/Statistic"), (0, .long 18446744073709551615), (6, u "()J"), (5, .methodref 8 44), (0, .nameAndType 5 45), (0, u "(JJJJJJ)V"), (0, .fieldref 47 48), (0, .class_ 49), (0, .nameAndType 50 51), (0, u "com/example/vantrell/vantrell/statistics/Statistic$Kind"), (0, u "BOUNDED_RANGE"), (0, u "Lcom/example/vantrell/vantrell/statistics/Statistic$Kind;"), (28, u "notApplicable"), (0, u "(J)Lcom/example/vantrell/vantrell/statistics/Statistic$BoundedRange;"), (0, u "kind"), (0, u "()Lcom/example/vantrell/vantrell/statistics/Statistic$Kind;")] 38

def k4c0 : Code := { maxStack := 3, maxLocals := 13, code := prog_41_method_1_code, exceptionTable := #[], attributes := #[] }
def k4m0 : Method := { name := "<init>", desc := "(JJJJJJ)V", sig := { parameters := [.long, .long, .long, .long, .long, .long], returnType := none }, accessFlags := 1, code := some k4c0 }
def k4c1 : Code := { maxStack := 14, maxLocals := 2, code := prog_41_method_3_code, exceptionTable := #[], attributes := #[] }
def k4m1 : Method := { name := "notApplicable", desc := "(J)Lcom/example/vantrell/vantrell/statistics/Statistic$BoundedRange;", sig := { parameters := [.long], returnType := some (.object "com/example/vantrell/vantrell/statistics/Statistic$BoundedRange") }, accessFlags := 9, code := some k4c1 }
def k4c2 : Code := { maxStack := 1, maxLocals := 1, code := prog_41_method_4_code, exceptionTable := #[], attributes := #[] }
def k4m2 : Method := { name := "kind", desc := "()Lcom/example/vantrell/vantrell/statistics/Statistic$Kind;", sig := { parameters := [], returnType := some (.object "com/example/vantrell/vantrell/statistics/Statistic$Kind") }, accessFlags := 1, code := some k4c2 }
def k4c3 : Code := { maxStack := 2, maxLocals := 1, code := prog_41_method_9_code, exceptionTable := #[], attributes := #[] }
def k4m3 : Method := { name := "startTime", desc := "()J", sig := { parameters := [], returnType := some .long }, accessFlags := 1, code := some k4c3 }
def k4c4 : Code := { maxStack := 2, maxLocals := 1, code := prog_41_method_10_code, exceptionTable := #[], attributes := #[] }
def k4m4 : Method := { name := "upperBound", desc := "()J", sig := { parameters := [], returnType := some .long }, accessFlags := 1, code := some k4c4 }
def k4c5 : Code := { maxStack := 2, maxLocals := 1, code := prog_41_method_11_code, exceptionTable := #[], attributes := #[] }
def k4m5 : Method := { name := "lowerBound", desc := "()J", sig := { parameters := [], returnType := some .long }, accessFlags := 1, code := some k4c5 }
def k4c6 : Code := { maxStack := 2, maxLocals := 1, code := prog_41_method_12_code, exceptionTable := #[], attributes := #[] }
def k4m6 : Method := { name := "highWaterMark", desc := "()J", sig := { parameters := [], returnType := some .long }, accessFlags := 1, code := some k4c6 }
def k4c7 : Code := { maxStack := 2, maxLocals := 1, code := prog_41_method_13_code, exceptionTable := #[], attributes := #[] }
def k4m7 : Method := { name := "lowWaterMark", desc := "()J", sig := { parameters := [], returnType := some .long }, accessFlags := 1, code := some k4c7 }
def k4c8 : Code := { maxStack := 2, maxLocals := 1, code := prog_41_method_14_code, exceptionTable := #[], attributes := #[] }
def k4m8 : Method := { name := "current", desc := "()J", sig := { parameters := [], returnType := some .long }, accessFlags := 1, code := some k4c8 }
/-- com/example/vantrell/vantrell/statistics/Statistic$BoundedRange -/
def k4 : Class := { plain "com/example/vantrell/vantrell/statistics/Statistic$BoundedRange" (some 2) with
  accessFlags := 49
  interfaces := #[3]
  cf := some (fileOf pool4 8 #[.nestHost 28] #[{ accessFlags := 1, nameIndex := 5, descriptorIndex := 45, attributes := #[] }, { accessFlags := 9, nameIndex := 80, descriptorIndex := 81, attributes := #[] }, { accessFlags := 1, nameIndex := 82, descriptorIndex := 83, attributes := #[] }, { accessFlags := 1, nameIndex := 11, descriptorIndex := 37, attributes := #[] }, { accessFlags := 1, nameIndex := 15, descriptorIndex := 37, attributes := #[] }, { accessFlags := 1, nameIndex := 18, descriptorIndex := 37, attributes := #[] }, { accessFlags := 1, nameIndex := 21, descriptorIndex := 37, attributes := #[] }, { accessFlags := 1, nameIndex := 24, descriptorIndex := 37, attributes := #[] }, { accessFlags := 1, nameIndex := 27, descriptorIndex := 37, attributes := #[] }] 49 2 #[28] #[{ accessFlags := 18, nameIndex := 11, descriptorIndex := 12, attributes := #[] }, { accessFlags := 18, nameIndex := 15, descriptorIndex := 12, attributes := #[] }, { accessFlags := 18, nameIndex := 18, descriptorIndex := 12, attributes := #[] }, { accessFlags := 18, nameIndex := 21, descriptorIndex := 12, attributes := #[] }, { accessFlags := 18, nameIndex := 24, descriptorIndex := 12, attributes := #[] }, { accessFlags := 18, nameIndex := 27, descriptorIndex := 12, attributes := #[] }])
  fields := #[{ name := "startTime", type := .long, accessFlags := 18, slot := 0, constantValue := 0 }, { name := "upperBound", type := .long, accessFlags := 18, slot := 1, constantValue := 0 }, { name := "lowerBound", type := .long, accessFlags := 18, slot := 2, constantValue := 0 }, { name := "highWaterMark", type := .long, accessFlags := 18, slot := 3, constantValue := 0 }, { name := "lowWaterMark", type := .long, accessFlags := 18, slot := 4, constantValue := 0 }, { name := "current", type := .long, accessFlags := 18, slot := 5, constantValue := 0 }]
  methods := #[k4m0, k4m1, k4m2, k4m3, k4m4, k4m5, k4m6, k4m7, k4m8]
  instanceTypes := #[.long, .long, .long, .long, .long, .long]
  staticTypes := #[]
  resolved := Array.replicate 122 none
  statics := none }

def pool5 : Array CpInfo := pool [(1, .class_ 2), (0, u "java/lang/constant/Constable"), (0, .class_ 4), (0, u "java/lang/Object")] 6

/-- java/lang/constant/Constable -/
def k5 : Class := { plain "java/lang/constant/Constable" (some 0) with
  accessFlags := 1537
  interfaces := #[]
  cf := some (fileOf pool5 1 #[] #[] 1537 3 #[] #[])
  fields := #[]
  methods := #[]
  instanceTypes := #[]
  staticTypes := #[]
  resolved := Array.replicate 11 none
  statics := none }

def pool6 : Array CpInfo := pool [(1, .class_ 2), (0, u "java/lang/Comparable"), (0, .class_ 4), (0, u "java/lang/Object")] 7

/-- java/lang/Comparable -/
def k6 : Class := { plain "java/lang/Comparable" (some 0) with
  accessFlags := 1537
  interfaces := #[]
  cf := some (fileOf pool6 1 #[] #[] 1537 3 #[] #[])
  fields := #[]
  methods := #[]
  instanceTypes := #[]
  staticTypes := #[]
  resolved := Array.replicate 12 none
  statics := none }

def pool7 : Array CpInfo := pool [(1, .class_ 2), (0, u "java/io/Serializable"), (0, .class_ 4), (0, u "java/lang/Object")] 2

/-- java/io/Serializable -/
def k7 : Class := { plain "java/io/Serializable" (some 0) with
  accessFlags := 1537
  interfaces := #[]
  cf := some (fileOf pool7 1 #[] #[] 1537 3 #[] #[])
  fields := #[]
  methods := #[]
  instanceTypes := #[]
  staticTypes := #[]
  resolved := Array.replicate 7 none
  statics := none }

def pool8 : Array CpInfo := pool [(2, .class_ 4), (1, u "java/lang/Enum"), (0, u "name"), (0, u "Ljava/lang/String;"), (2, u "ordinal"), (0, u "I"), (1, .class_ 14), (1, u "java/lang/Object"), (4, u "hash"), (86, .class_ 108), (1, u "java/lang/Enum$EnumDesc"), (2, .class_ 112), (0, u "java/lang/constant/Constable"), (0, .class_ 114), (0, u "java/lang/Comparable"), (0, .class_ 116), (0, u "java/io/Serializable")] 87

/-- java/lang/Enum -/
def k8 : Class := { plain "java/lang/Enum" (some 0) with
  accessFlags := 1057
  interfaces := #[5, 6, 7]
  cf := some (fileOf pool8 2 #[.nestMembers #[106]] #[] 1057 12 #[111, 113, 115] #[{ accessFlags := 18, nameIndex := 5, descriptorIndex := 6, attributes := #[] }, { accessFlags := 18, nameIndex := 9, descriptorIndex := 10, attributes := #[] }, { accessFlags := 2, nameIndex := 19, descriptorIndex := 10, attributes := #[] }])
  fields := #[{ name := "name", type := (.object "java/lang/String"), accessFlags := 18, slot := 0, constantValue := 0 }, { name := "ordinal", type := .int, accessFlags := 18, slot := 1, constantValue := 0 }, { name := "hash", type := .int, accessFlags := 2, slot := 2, constantValue := 0 }]
  methods := #[]
  instanceTypes := #[(.object "java/lang/String"), .int, .int]
  staticTypes := #[]
  resolved := Array.replicate 204 none
  statics := none }

def pool9 : Array CpInfo := pool [(1, .class_ 2), (0, u "com/example/vantrell/vantrell/statistics/Statistic$Kind"), (2, u "COUNT"), (0, u "Lcom/example/vantrell/vantrell/statistics/Statistic$Kind;"), (2, u "BOUNDED_RANGE"), (2, u "$VALUES"), (0, u "[Lcom/example/vantrell/vantrell/statistics/Statistic$Kind;"), (6, .class_ 22), (1, u "java/lang/Enum"), (14, u "items"), (0, u "Ljava/util/List;"), (39, .class_ 79), (0, u "com/example/vantrell/vantrell/statistics/Statistic")] 2

/-- com/example/vantrell/vantrell/statistics/Statistic$Kind -/
def k9 : Class := { plain "com/example/vantrell/vantrell/statistics/Statistic$Kind" (some 8) with
  accessFlags := 16433
  interfaces := #[]
  cf := some (fileOf pool9 1 #[.nestHost 78] #[] 16433 20 #[] #[{ accessFlags := 16409, nameIndex := 5, descriptorIndex := 6, attributes := #[] }, { accessFlags := 16409, nameIndex := 9, descriptorIndex := 6, attributes := #[] }, { accessFlags := 18, nameIndex := 37, descriptorIndex := 38, attributes := #[] }, { accessFlags := 4122, nameIndex := 12, descriptorIndex := 13, attributes := #[] }])
  fields := #[{ name := "COUNT", type := (.object "com/example/vantrell/vantrell/statistics/Statistic$Kind"), accessFlags := 16409, slot := 0, constantValue := 0 }, { name := "BOUNDED_RANGE", type := (.object "com/example/vantrell/vantrell/statistics/Statistic$Kind"), accessFlags := 16409, slot := 1, constantValue := 0 }, { name := "items", type := (.object "java/util/List"), accessFlags := 18, slot := 3, constantValue := 0 }, { name := "$VALUES", type := (.array (.object "com/example/vantrell/vantrell/statistics/Statistic$Kind")), accessFlags := 4122, slot := 2, constantValue := 0 }]
  methods := #[]
  instanceTypes := #[(.object "java/lang/String"), .int, .int, (.object "java/util/List")]
  staticTypes := #[(.object "com/example/vantrell/vantrell/statistics/Statistic$Kind"), (.object "com/example/vantrell/vantrell/statistics/Statistic$Kind"), (.array (.object "com/example/vantrell/vantrell/statistics/Statistic$Kind"))]
  resolved := Array.replicate 82 none
  statics := some 0 }

def pool10 : Array CpInfo := pool [(1, u "java/lang/Cloneable"), (0, .class_ 1), (0, u "java/lang/Object"), (0, .class_ 3)] 3

/-- java/lang/Cloneable -/
def k10 : Class := { plain "java/lang/Cloneable" (some 0) with
  accessFlags := 1537
  interfaces := #[]
  cf := some (fileOf pool10 2 #[] #[] 1537 4 #[] #[])
  fields := #[]
  methods := #[]
  instanceTypes := #[]
  staticTypes := #[]
  resolved := Array.replicate 8 none
  statics := none }

/-- the primitive byte -/
def k11 : Class := { plain "byte" none with kind := .primitive 'B', accessFlags := 0x411 }
/-- [B -/
def k12 : Class := { plain "[B" (some 0) with kind := .array 11 .byte, interfaces := #[10, 7], accessFlags := 1041 }

/-- the primitive int -/
def k13 : Class := { plain "int" none with kind := .primitive 'I', accessFlags := 0x411 }
/-- [I -/
def k14 : Class := { plain "[I" (some 0) with kind := .array 13 .int, interfaces := #[10, 7], accessFlags := 1041 }

def heap : Heap := #[{ cls := 9, slots := #[.null, .ref 1, .null], vm := .statics 9 },
  { cls := 9, slots := #[.null, .int 0, .int 0, .null], vm := .none }]
def classes : Array Class := #[k0, k1, k2, k3, k4, k5, k6, k7, k8, k9, k10, k11, k12, k13, k14]
def interned : List (Array UInt16 × Addr) := []
def slotsUsed : Nat := 7
def theMethod : MethodId := ⟨1, 1⟩
def args0 : Array Value := #[.long 5]
def aboutOver (below : List Frame) : State where
  vm := { classes := classes, interned := interned.toArray }
  heap := heap
  slotsUsed := slotsUsed
  threads := #[{ frames := .invoking theMethod args0 :: below }]
def below0 : List Frame := [.native { method := ⟨0, 0⟩, args := #[] }]
def about1 : State := aboutOver below0
def p0 : Program := .bare "" "" ""
def e0 : Env := launch0.env 0 0 0
theorem w_frames : about1.frames = Frame.invoking theMethod args0 :: below0 := rfl
set_option maxRecDepth 65536 in
theorem w_args : argsFit about1.vm theMethod args0 = true := by decide +kernel
set_option maxRecDepth 65536 in
theorem w_heap : heapFits about1 = true := by decide +kernel
set_option maxRecDepth 65536 in
theorem w_runnable : about1.curStatus? = some .runnable := by decide +kernel
set_option maxRecDepth 65536 in
theorem w_alone : about1.alone = true := by decide +kernel
set_option maxRecDepth 65536 in
theorem w_named : about1.methodNamed? x = some theMethod := by decide +kernel
set_option maxRecDepth 65536 in
theorem w_hears : about1.hears theMethod below0 = true := by decide +kernel
set_option maxRecDepth 65536 in
theorem w_ripe : about1.ripe theMethod args0 below0 = true := by decide +kernel
theorem w_running : about1.status = .running := rfl
set_option maxRecDepth 65536 in
theorem w_room : about1.hasRoom e0.platform room_1 = true :=
  launch0.hasRoom_least _ room_1 (by decide +kernel) (by decide +kernel) (by decide +kernel) (by decide +kernel) (by decide +kernel) (by decide +kernel)
theorem allAtoms_all (ts : List Jvm.Cond) (a : Array Jvm.Value) (st : Jvm.State) : (allAtoms ts).before a st = ts.all (fun c => c.before a st) := by
  induction ts with
  | nil => rfl
  | cons c t ih =>
    show (Jvm.Cond.and c (allAtoms t)).before a st = _
    rw [Jvm.Cond.before_and, ih, List.all_cons]
def words1 : List Jvm.Cond := Jvm.Cond.code x code maxLocals ret :: tables_1
/-- a 'code' word, met by the world's own term for the bytes: nothing is compared byte by byte -/
theorem code_word {y : MethodName} {bytes : ByteArray} {mx : Nat} {rt : Option FieldType} {a : Array Value} {s : State} {m : MethodId} {meth : Method} {c : Code} (h1 : s.methodNamed? y = some m) (h2 : s.vm.method? m = some meth) (h3 : meth.code = some c) (h4 : c.code = bytes)
    (h5 : (c.maxLocals == mx && c.exceptionTable.isEmpty && decide (c.maxStack ≤ mostOperands) && decide (meth.sig.returnType = rt) && !meth.locks && decide (parseMethodDescriptor y.desc = some meth.sig)) = true) : (Jvm.Cond.code y bytes mx rt).before a s = true := by
  simp only [Bool.and_eq_true, beq_iff_eq, Bool.not_eq_true', decide_eq_true_eq] at h5
  obtain ⟨⟨⟨⟨⟨g1, g2⟩, g3⟩, g4⟩, g5⟩, g6⟩ := h5
  simp [Cond.before, Cond.holds, Cond.value, h1, h2, h3, h4, g1, g2, g3, g4, g5, g6]
def isCode : Jvm.Cond → Bool
  | .code _ _ _ _ => true
  | _ => false
theorem all_split {L : List Jvm.Cond} {P : Jvm.Cond → Bool} (h1 : L.all (fun c => isCode c || P c) = true) (h2 : ∀ c ∈ L.filter isCode, P c = true) : L.all P = true := by
  refine List.all_eq_true.mpr fun c hc => ?_
  have h := List.all_eq_true.mp h1 c hc
  rcases Bool.eq_false_or_eq_true (isCode c) with hi | hi
  · exact h2 c (List.mem_filter.mpr ⟨hc, hi⟩)
  · simpa [hi] using h
set_option maxRecDepth 65536 in
theorem w_c0 : (Jvm.Cond.code x code maxLocals ret).before args0 about1 = true := code_word (m := ⟨1, 1⟩) (meth := k1m1) (c := k1c1) (by decide +kernel) rfl rfl rfl (by decide +kernel)
set_option maxRecDepth 65536 in
theorem w_c1 : (Jvm.Cond.code ({ cls := "com/example/vantrell/vantrell/statistics/Statistic$BoundedRange", name := "notApplicable", desc := "(J)Lcom/example/vantrell/vantrell/statistics/Statistic$BoundedRange;" } : Jvm.MethodName) prog_41_method_3_code (2 : Nat) (Option.some (Jvm.ClassFile.FieldType.object "com/example/vantrell/vantrell/statistics/Statistic$BoundedRange"))).before args0 about1 = true := code_word (m := ⟨4, 1⟩) (meth := k4m1) (c := k4c1) (by decide +kernel) rfl rfl rfl (by decide +kernel)
set_option maxRecDepth 65536 in
theorem w_c2 : (Jvm.Cond.code ({ cls := "com/example/vantrell/vantrell/statistics/Statistic$BoundedRange", name := "<init>", desc := "(JJJJJJ)V" } : Jvm.MethodName) prog_41_method_1_code (13 : Nat) (Option.none : Option Jvm.ClassFile.FieldType)).before args0 about1 = true := code_word (m := ⟨4, 0⟩) (meth := k4m0) (c := k4c0) (by decide +kernel) rfl rfl rfl (by decide +kernel)
set_option maxRecDepth 65536 in
theorem w_c3 : (Jvm.Cond.code ({ cls := "java/lang/Record", name := "<init>", desc := "()V" } : Jvm.MethodName) jdk_30_method_1_code (1 : Nat) (Option.none : Option Jvm.ClassFile.FieldType)).before args0 about1 = true := code_word (m := ⟨2, 0⟩) (meth := k2m0) (c := k2c0) (by decide +kernel) rfl rfl rfl (by decide +kernel)
set_option maxRecDepth 65536 in
theorem w_c4 : (Jvm.Cond.code ({ cls := "java/lang/Object", name := "<init>", desc := "()V" } : Jvm.MethodName) object_method_1_code (1 : Nat) (Option.none : Option Jvm.ClassFile.FieldType)).before args0 about1 = true := code_word (m := ⟨0, 0⟩) (meth := k0m0) (c := k0c0) (by decide +kernel) rfl rfl rfl (by decide +kernel)
set_option maxRecDepth 65536 in
theorem w_c5 : (Jvm.Cond.code ({ cls := "com/example/vantrell/vantrell/statistics/Statistic$BoundedRange", name := "startTime", desc := "()J" } : Jvm.MethodName) prog_41_method_9_code (1 : Nat) (Option.some Jvm.ClassFile.FieldType.long)).before args0 about1 = true := code_word (m := ⟨4, 3⟩) (meth := k4m3) (c := k4c3) (by decide +kernel) rfl rfl rfl (by decide +kernel)
set_option maxRecDepth 65536 in
theorem w_c6 : (Jvm.Cond.code ({ cls := "com/example/vantrell/vantrell/statistics/Statistic$BoundedRange", name := "upperBound", desc := "()J" } : Jvm.MethodName) prog_41_method_10_code (1 : Nat) (Option.some Jvm.ClassFile.FieldType.long)).before args0 about1 = true := code_word (m := ⟨4, 4⟩) (meth := k4m4) (c := k4c4) (by decide +kernel) rfl rfl rfl (by decide +kernel)
set_option maxRecDepth 65536 in
theorem w_c7 : (Jvm.Cond.code ({ cls := "com/example/vantrell/vantrell/statistics/Statistic$BoundedRange", name := "lowerBound", desc := "()J" } : Jvm.MethodName) prog_41_method_11_code (1 : Nat) (Option.some Jvm.ClassFile.FieldType.long)).before args0 about1 = true := code_word (m := ⟨4, 5⟩) (meth := k4m5) (c := k4c5) (by decide +kernel) rfl rfl rfl (by decide +kernel)
set_option maxRecDepth 65536 in
theorem w_c8 : (Jvm.Cond.code ({ cls := "com/example/vantrell/vantrell/statistics/Statistic$BoundedRange", name := "highWaterMark", desc := "()J" } : Jvm.MethodName) prog_41_method_12_code (1 : Nat) (Option.some Jvm.ClassFile.FieldType.long)).before args0 about1 = true := code_word (m := ⟨4, 6⟩) (meth := k4m6) (c := k4c6) (by decide +kernel) rfl rfl rfl (by decide +kernel)
set_option maxRecDepth 65536 in
theorem w_c9 : (Jvm.Cond.code ({ cls := "com/example/vantrell/vantrell/statistics/Statistic$BoundedRange", name := "lowWaterMark", desc := "()J" } : Jvm.MethodName) prog_41_method_13_code (1 : Nat) (Option.some Jvm.ClassFile.FieldType.long)).before args0 about1 = true := code_word (m := ⟨4, 7⟩) (meth := k4m7) (c := k4c7) (by decide +kernel) rfl rfl rfl (by decide +kernel)
set_option maxRecDepth 65536 in
theorem w_c10 : (Jvm.Cond.code ({ cls := "com/example/vantrell/vantrell/statistics/Statistic$BoundedRange", name := "current", desc := "()J" } : Jvm.MethodName) prog_41_method_14_code (1 : Nat) (Option.some Jvm.ClassFile.FieldType.long)).before args0 about1 = true := code_word (m := ⟨4, 8⟩) (meth := k4m8) (c := k4c8) (by decide +kernel) rfl rfl rfl (by decide +kernel)
set_option maxRecDepth 65536 in
theorem w_c11 : (Jvm.Cond.code ({ cls := "com/example/vantrell/vantrell/statistics/Statistic$BoundedRange", name := "kind", desc := "()Lcom/example/vantrell/vantrell/statistics/Statistic$Kind;" } : Jvm.MethodName) prog_41_method_4_code (1 : Nat) (Option.some (Jvm.ClassFile.FieldType.object "com/example/vantrell/vantrell/statistics/Statistic$Kind"))).before args0 about1 = true := code_word (m := ⟨4, 2⟩) (meth := k4m2) (c := k4c2) (by decide +kernel) rfl rfl rfl (by decide +kernel)
def codes1 : List Jvm.Cond := [Jvm.Cond.code x code maxLocals ret, Jvm.Cond.code ({ cls := "com/example/vantrell/vantrell/statistics/Statistic$BoundedRange", name := "notApplicable", desc := "(J)Lcom/example/vantrell/vantrell/statistics/Statistic$BoundedRange;" } : Jvm.MethodName) prog_41_method_3_code (2 : Nat) (Option.some (Jvm.ClassFile.FieldType.object "com/example/vantrell/vantrell/statistics/Statistic$BoundedRange")), Jvm.Cond.code ({ cls := "com/example/vantrell/vantrell/statistics/Statistic$BoundedRange", name := "<init>", desc := "(JJJJJJ)V" } : Jvm.MethodName) prog_41_method_1_code (13 : Nat) (Option.none : Option Jvm.ClassFile.FieldType), Jvm.Cond.code ({ cls := "java/lang/Record", name := "<init>", desc := "()V" } : Jvm.MethodName) jdk_30_method_1_code (1 : Nat) (Option.none : Option Jvm.ClassFile.FieldType), Jvm.Cond.code ({ cls := "java/lang/Object", name := "<init>", desc := "()V" } : Jvm.MethodName) object_method_1_code (1 : Nat) (Option.none : Option Jvm.ClassFile.FieldType), Jvm.Cond.code ({ cls := "com/example/vantrell/vantrell/statistics/Statistic$BoundedRange", name := "startTime", desc := "()J" } : Jvm.MethodName) prog_41_method_9_code (1 : Nat) (Option.some Jvm.ClassFile.FieldType.long), Jvm.Cond.code ({ cls := "com/example/vantrell/vantrell/statistics/Statistic$BoundedRange", name := "upperBound", desc := "()J" } : Jvm.MethodName) prog_41_method_10_code (1 : Nat) (Option.some Jvm.ClassFile.FieldType.long), Jvm.Cond.code ({ cls := "com/example/vantrell/vantrell/statistics/Statistic$BoundedRange", name := "lowerBound", desc := "()J" } : Jvm.MethodName) prog_41_method_11_code (1 : Nat) (Option.some Jvm.ClassFile.FieldType.long), Jvm.Cond.code ({ cls := "com/example/vantrell/vantrell/statistics/Statistic$BoundedRange", name := "highWaterMark", desc := "()J" } : Jvm.MethodName) prog_41_method_12_code (1 : Nat) (Option.some Jvm.ClassFile.FieldType.long), Jvm.Cond.code ({ cls := "com/example/vantrell/vantrell/statistics/Statistic$BoundedRange", name := "lowWaterMark", desc := "()J" } : Jvm.MethodName) prog_41_method_13_code (1 : Nat) (Option.some Jvm.ClassFile.FieldType.long), Jvm.Cond.code ({ cls := "com/example/vantrell/vantrell/statistics/Statistic$BoundedRange", name := "current", desc := "()J" } : Jvm.MethodName) prog_41_method_14_code (1 : Nat) (Option.some Jvm.ClassFile.FieldType.long), Jvm.Cond.code ({ cls := "com/example/vantrell/vantrell/statistics/Statistic$BoundedRange", name := "kind", desc := "()Lcom/example/vantrell/vantrell/statistics/Statistic$Kind;" } : Jvm.MethodName) prog_41_method_4_code (1 : Nat) (Option.some (Jvm.ClassFile.FieldType.object "com/example/vantrell/vantrell/statistics/Statistic$Kind"))]
set_option maxRecDepth 65536 in
theorem codes_eq : words1.filter isCode = codes1 := rfl
theorem w_codes : ∀ c ∈ words1.filter isCode, c.before args0 about1 = true := by
  rw [codes_eq]
  intro c hc
  simp only [codes1, List.mem_cons, List.not_mem_nil, or_false] at hc
  rcases hc with rfl | rfl | rfl | rfl | rfl | rfl | rfl | rfl | rfl | rfl | rfl | rfl
  · exact w_c0
  · exact w_c1
  · exact w_c2
  · exact w_c3
  · exact w_c4
  · exact w_c5
  · exact w_c6
  · exact w_c7
  · exact w_c8
  · exact w_c9
  · exact w_c10
  · exact w_c11
set_option maxRecDepth 65536 in
theorem w_t1 : (words1.take 24).all (fun c => isCode c || c.before args0 about1) = true := by decide +kernel
set_option maxRecDepth 65536 in
theorem w_t2 : ((words1.drop 24).take 24).all (fun c => isCode c || c.before args0 about1) = true := by decide +kernel
set_option maxRecDepth 65536 in
theorem w_t3 : ((words1.drop 24).drop 24).all (fun c => isCode c || c.before args0 about1) = true := by decide +kernel
theorem w_tables : (allAtoms (Jvm.Cond.code x code maxLocals ret :: tables_1)).before args0 about1 = true := by
  rw [allAtoms_all]
  show words1.all (fun c => c.before args0 about1) = true
  refine all_split ?_ w_codes
  rw [← List.take_append_drop 24 words1, List.all_append, w_t1, ← List.take_append_drop 24 (words1.drop 24), List.all_append, w_t2, w_t3]
  rfl
set_option maxRecDepth 65536 in
theorem w_case : (Jvm.Cond.and given_1 narrow_1).before args0 about1 = true := by decide +kernel
theorem w_applies : (headSpec (Jvm.Cond.code x code maxLocals ret :: tables_1) room_1).applies x e0.platform about1 = true :=
  (Spec.applies_iff w_frames).mpr ⟨w_running, w_runnable, w_alone, w_named, w_hears, w_ripe, w_room, w_tables⟩
theorem atStart : AtStart classFile x code maxLocals ret World_1 tables_1 room_1 Calls_1 rest_1 Pre_1 launch0 p0 e0 about1 theMethod args0 below0 :=
  ⟨lists_1, trivial, launch0.admits_env _ _ _, launch0.least_env, fairChoices_fair.cas, fairChoices_fair.clock, w_frames, w_args, w_heap, w_applies, trivial, trivial, w_case⟩
end start1
theorem witness_1 : WitnessClaimed_1 := ⟨start1.p0, start1.e0, start1.about1, start1.theMethod, start1.args0, start1.below0, start1.atStart⟩
end Jvm.Pilot.@@N@@
