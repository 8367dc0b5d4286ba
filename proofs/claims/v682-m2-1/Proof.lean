import JvmDerived
import JvmDerived.Pilot.@@N@@Statement
import JvmDerived.Pilot.@@N@@Code
set_option linter.unusedVariables false
set_option linter.unusedSimpArgs false
namespace Jvm.Pilot.@@N@@
open Jvm Jvm.ClassFile Sem Op Lib Jvm.Free Jvm.Stand Jvm.LawKit Jvm.RoadKit Bundle Jvm.Pilot.@@N@@.Jvm.D

def Go (tb : Tables) (e : Env) (below : List Frame) (a : State) (P : Outcome → State → Prop) : Prop := ∃ s₂ o, Steps tb e below a s₂ ∧ s₂.status = .running ∧ Ended s₂ below o ∧ P o s₂
theorem Go.st {tb : Tables} {e : Env} {below : List Frame} {a b : State} {P : Outcome → State → Prop} (h : ∀ t, Steps tb e below b t → Steps tb e below a t) (k : Go tb e below b P) : Go tb e below a P := by
  obtain ⟨s, o, h1, h2⟩ := k
  exact ⟨s, o, h _ h1, h2⟩
theorem Go.tr {tb : Tables} {e : Env} {below : List Frame} {a b : State} {P : Outcome → State → Prop} (h : Steps tb e below a b) (k : Go tb e below b P) : Go tb e below a P := Go.st (fun _ q => h.trans q) k
theorem Go.fr {tb : Tables} {e : Env} {below : List Frame} {T : State} {g g' : JFrame} {P : Outcome → State → Prop} (q : g = g') (k : Go tb e below (T.setTop g') P) : Go tb e below (T.setTop g) P := q ▸ k
theorem Go.fin {tb : Tables} {e : Env} {below : List Frame} {a s₂ : State} {o : Outcome} {P : Outcome → State → Prop} (hs : Steps tb e below a s₂) (hr : s₂.status = .running) (he : Ended s₂ below o) (hP : P o s₂) : Go tb e below a P := ⟨_, _, hs, hr, he, hP⟩
theorem exa_ns {Z : State} {h : Heap} {a : Addr} {C : String} (F : Exa Z h a C) : ∃ c : Cell, h[a]? = some c ∧ c.vm.isStatics = false := by
  obtain ⟨c, _, h1, -, -, h4, -⟩ := F
  exact ⟨c, h1, h4⟩
theorem fld_ns {Z : State} {h : Heap} {a : Addr} {C n d : String} {v : Value} (F : Fld Z h a C n d v) : ∃ c : Cell, h[a]? = some c ∧ c.vm.isStatics = false := by
  obtain ⟨c, _, _, _, _, h1, -, -, -, h4, -⟩ := F
  exact ⟨c, h1, h4⟩
theorem arv_ns {Z : State} {h : Heap} {a : Addr} {k : ClassId} {ty : FieldType} {n : Int32} {vs : List Value} {d : Value} (F : Arv Z h a k ty n vs d) : ∃ c : Cell, h[a]? = some c ∧ c.vm.isStatics = false := by
  obtain ⟨c, A, -⟩ := F
  exact ⟨c, A.1, A.plain⟩
theorem sta_keep {Z : State} {h h' : Heap} {C n d : String} {v : Value} {ws : List Addr} (F : Sta Z h C n d v) (K : Keep h h' ws) (q : ∀ x ∈ ws, ∃ c : Cell, h[x]? = some c ∧ c.vm.isStatics = false) : Sta Z h' C n d v := by
  obtain ⟨cf, i, k, f, st, cell, h1, h2, h3, h4, h5, h6, h7⟩ := F
  refine ⟨cf, i, k, f, st, cell, h1, h2, h3, h4, K.2.1 st cell h5 fun z => ?_, h6, h7⟩
  obtain ⟨c, q1, q2⟩ := q st z
  cases q1.symm.trans h5
  rw [q2] at h6
  cases h6
theorem own_selp {s : State} {args : Array Value} {y : MethodName} {n : Nat} (wi : (Cond.instantiable y.cls n).before args s = true) (hp : s.PrivateAt y) (hi : (Cond.instanceMethod y).before args s = true) (hy : y.cls ≠ "java/lang/invoke/MethodHandle" ∧ y.cls ≠ "java/lang/invoke/VarHandle") : (Cond.selects y.cls y y).before args s = true := by
  obtain ⟨c, k, h1, h2, -, h4, -⟩ := Cond.instantiable_spec wi
  simp only [Bool.or_eq_false_iff] at h4
  exact selects_self_of_private h1 h2 h4.1 hp hi hy
theorem own_ne32 {x k : Int32} {a : Int} (ha : k.toInt = a) (h : ¬ x = k) : a ≠ x.toInt := fun e => h (Int32.toInt_inj.mp (e.symm.trans ha.symm))
theorem own_nn (x : Int32) : 0 ≤ (x &&& (2147483647 : Int32)).toInt := (c_andS x 2147483647).2.2 (by decide)
theorem own_rem (x : Int32) (k : Int32) (d : Int) (hd : k.toInt = d) (h0 : 0 < d) : 0 ≤ ((x &&& (2147483647 : Int32)) % k).toInt ∧ ((x &&& (2147483647 : Int32)) % k).toInt < d := by
  have h := own_nn x
  rw [Int32.toInt_mod, hd]
  exact ⟨Int.tmod_nonneg _ h, Int.tmod_lt_of_pos _ h0⟩
theorem own_remb (x : Int32) (k : Int32) (d : Int) (hd : k.toInt = d) (h0 : 0 < d) : ¬ ((x &&& (2147483647 : Int32)) % k) < 0 ∧ ((x &&& (2147483647 : Int32)) % k) < k := by
  obtain ⟨h1, h2⟩ := own_rem x k d hd h0
  rw [Int32.lt_iff_toInt_lt, Int32.lt_iff_toInt_lt, hd]
  exact ⟨Int.not_lt.mpr h1, h2⟩
def own_at (xs : List Int32) (j : Int32) : Int32 := xs.getD j.toNatClampNeg 0
theorem own_atv (xs : List Int32) (j : Int32) : (xs.map Value.int).getD j.toNatClampNeg (.int 0) = .int (own_at xs j) := by
  unfold own_at
  generalize j.toNatClampNeg = n
  induction xs generalizing n with
  | nil => rfl
  | cons a r ih => cases n with
    | zero => rfl
    | succ n => simpa using ih n
theorem own_setl {l : List Value} {k n : Nat} {v : Value} (h : l.length = n) : (l.set k v).length = n := by rw [List.length_set]; exact h
theorem own_setg {l : List Value} {k : Nat} {v d : Value} (h : k < l.length) : (l.set k v).getD k d = v := by simp [List.getD, List.getElem?_set, h]
theorem own_setn {l : List Value} {k i : Nat} {v d : Value} (h : i ≠ k) : (l.set k v).getD i d = l.getD i d := by simp [List.getD, List.getElem?_set, Ne.symm h]
theorem own_lt_of {l : List Value} {n : Nat} {j z : Int32} (h : l.length = n) (q : ¬ j < 0 ∧ j < z) (hz : z.toNatClampNeg = n := by decide) : j.toNatClampNeg < l.length := by
  rw [h, ← hz]
  obtain ⟨q1, q2⟩ := q
  rw [Int32.lt_iff_toInt_lt] at q1 q2
  have : (0 : Int32).toInt = 0 := rfl
  simp only [Int32.toNatClampNeg]
  omega
theorem own_eqi {args : Array Value} {s : State} {t : Term} {k : Int32} (h : (Jvm.Cond.eq t (.int k)).value args s none s [] = some true) : t.eval args s none [] s = some (.int k) := by
  simp only [Cond.value, Term.eval] at h
  cases ht : t.eval args s none [] s with
  | none => simp [ht] at h
  | some x => cases x <;> simp_all
theorem d3_0 : decode prog_21_method_1_code 0 = .ok (.getstatic 10, 3) := by decide +kernel
theorem wd14 {Z : State} {a0 : Array Value} (hw : ∀ d ∈ tables_1, d.before a0 Z = true) : (Jvm.Cond.fieldLink "com/example/gloom/gloom/io/FilterKind" (10 : Nat) "com/example/gloom/gloom/io/FilterKind" "$VALUES" "[Lcom/example/gloom/gloom/io/FilterKind;").before a0 Z = true := hw _ (List.mem_of_getElem? (i := 14) rfl)
theorem d3_3 : decode prog_21_method_1_code 3 = .ok (.invokevirtual 14, 3) := by decide +kernel
theorem wd16 {Z : State} {a0 : Array Value} (hw : ∀ d ∈ tables_1, d.before a0 Z = true) : (Jvm.Cond.methodLink "com/example/gloom/gloom/io/FilterKind" (14 : Nat) ({ cls := "[Lcom/example/gloom/gloom/io/FilterKind;", name := "clone", desc := "()Ljava/lang/Object;" } : Jvm.MethodName)).before a0 Z = true := hw _ (List.mem_of_getElem? (i := 16) rfl)
theorem wd17 {Z : State} {a0 : Array Value} (hw : ∀ d ∈ tables_1, d.before a0 Z = true) : (Jvm.Cond.sameMethod "[Lcom/example/gloom/gloom/io/FilterKind;" "java/lang/Object" "clone" "()Ljava/lang/Object;").before a0 Z = true := hw _ (List.mem_of_getElem? (i := 17) rfl)
theorem wd21 {Z : State} {a0 : Array Value} (hw : ∀ d ∈ tables_1, d.before a0 Z = true) : (Jvm.Cond.native ({ cls := "java/lang/Object", name := "clone", desc := "()Ljava/lang/Object;" } : Jvm.MethodName)).before a0 Z = true := hw _ (List.mem_of_getElem? (i := 21) rfl)
theorem wd19 {Z : State} {a0 : Array Value} (hw : ∀ d ∈ tables_1, d.before a0 Z = true) : (Jvm.Cond.instanceMethod ({ cls := "java/lang/Object", name := "clone", desc := "()Ljava/lang/Object;" } : Jvm.MethodName)).before a0 Z = true := hw _ (List.mem_of_getElem? (i := 19) rfl)
theorem wd20 {Z : State} {a0 : Array Value} (hw : ∀ d ∈ tables_1, d.before a0 Z = true) : (Jvm.Cond.selects "[Lcom/example/gloom/gloom/io/FilterKind;" ({ cls := "[Lcom/example/gloom/gloom/io/FilterKind;", name := "clone", desc := "()Ljava/lang/Object;" } : Jvm.MethodName) ({ cls := "java/lang/Object", name := "clone", desc := "()Ljava/lang/Object;" } : Jvm.MethodName)).before a0 Z = true := hw _ (List.mem_of_getElem? (i := 20) rfl)
theorem wd22 {Z : State} {a0 : Array Value} (hw : ∀ d ∈ tables_1, d.before a0 Z = true) : (Jvm.Cond.castable "[Lcom/example/gloom/gloom/io/FilterKind;" "java/lang/Cloneable").before a0 Z = true := hw _ (List.mem_of_getElem? (i := 22) rfl)
theorem d3_6 : decode prog_21_method_1_code 6 = .ok (.checkcast 15, 3) := by decide +kernel
theorem wd25 {Z : State} {a0 : Array Value} (hw : ∀ d ∈ tables_1, d.before a0 Z = true) : (Jvm.Cond.classLink "com/example/gloom/gloom/io/FilterKind" (15 : Nat) "[Lcom/example/gloom/gloom/io/FilterKind;").before a0 Z = true := hw _ (List.mem_of_getElem? (i := 25) rfl)
theorem d3_9 : decode prog_21_method_1_code 9 = .ok (.areturn, 1) := by decide +kernel
theorem pn0 : plainName "com/example/gloom/gloom/io/FilterKind" = true := by first | (simp [plainName, overriddenIn]; done) | decide +kernel
def Q3 (Z : State) (w__VALUES : Addr) (k_v : ClassId) (y0 : Addr) (y1 : Addr) (h0 : Heap) (n0 : Nat) (v : Option Value) (h : Heap) (L : List Loc) : Prop := ∃ x3_0 : Addr, v = some (.ref x3_0) ∧ Fr n0 L ∧ Keep h0 h [] ∧ n0 ≤ x3_0 ∧ h0.size ≤ x3_0 ∧ Arv Z h x3_0 k_v (.object "com/example/gloom/gloom/io/FilterKind") (2 : Int32) [(.ref y0), (.ref y1)] .null ∧ Exa Z h x3_0 "[Lcom/example/gloom/gloom/io/FilterKind;"
theorem ef3 (m : MethodId)  : entryFrame m #[] 0 = mkF m 0 #[] [] := by first | (simp [entryFrame, mkF, argsToLocals, Value.category]; done) | rfl
set_option maxRecDepth 65536 in
set_option maxHeartbeats 16000000 in
theorem rm3 (l : Launch) (Z : State) (a0 : Array Value) (hw : ∀ d ∈ tables_1, d.before a0 Z = true) (ws : List Jvm.Cond) (w__VALUES : Addr) (k_v : ClassId) (y0 : Addr) (y1 : Addr) (h0 : Heap) (n0 : Nat) (Z0 : n0 ≤ h0.size) (S__VALUES : Sta Z h0 "com/example/gloom/gloom/io/FilterKind" "$VALUES" "[Lcom/example/gloom/gloom/io/FilterKind;" (.ref w__VALUES)) (E_VALS : Exa Z h0 w__VALUES "[Lcom/example/gloom/gloom/io/FilterKind;") (V_VALS : Arv Z h0 w__VALUES k_v (.object "com/example/gloom/gloom/io/FilterKind") (2 : Int32) [(.ref y0), (.ref y1)] .null) :
    MetFree l (⟨"com/example/gloom/gloom/io/FilterKind", "values", "()[Lcom/example/gloom/gloom/io/FilterKind;"⟩ : MethodName) (head1 (Jvm.Cond.code (⟨"com/example/gloom/gloom/io/FilterKind", "values", "()[Lcom/example/gloom/gloom/io/FilterKind;"⟩ : MethodName) prog_21_method_1_code 0 (some (.array (.object "com/example/gloom/gloom/io/FilterKind"))) :: ws) ({ frames := 1, cells := 1, slots := 2, locals := 14 } : Room)) (fun a U => a = #[] ∧ Z.Warmed39 U.vm ∧ U.heap = h0) (fun _ _ _ _ _ => True) (fun _ U o U' => ∃ v L, o = .returned v ∧ Q3 Z w__VALUES k_v y0 y1 h0 n0 v U'.heap L ∧ FrameEnd U o U' L ({ frames := 1, cells := 1, slots := 2, locals := 14 } : Room).cells ({ frames := 1, cells := 1, slots := 2, locals := 14 } : Room).slots) := by
  refine MetFree.of_bodySF (plainFor_of_name pn0) hisR ?_
  intro p e s m args below meth c s₁ Bd hml0 hP hK
  obtain ⟨rfl, hZ, hh⟩ := hP
  have hx := Bd.exec
  have hby := Bd.bytes
  have hml : c.maxLocals = 0 := hml0
  have hown : s.vm.findClass "com/example/gloom/gloom/io/FilterKind" = some m.cls := findClass_of_methodNamed Bd.named
  have hnm := (name_of_methodNamed Bd.named Bd.method).1
  have X0 : Stand p l e ({ frames := 1, cells := 1, slots := 2, locals := 14 } : Room) s m #[] below meth c s₁ [] 0 0 := Stand.of_body Bd
  have e0 : s₁.heap = h0 := by rw [← hh, Bd.state]; rfl
  have N0 := Fr.nil n0
  have K0 : Keep h0 h0 [] := Keep.refl h0 _
  refine Go.st (P := fun o U' => ∃ v L, o = .returned v ∧ Q3 Z w__VALUES k_v y0 y1 h0 n0 v U'.heap L ∧ FrameEnd s o U' L ({ frames := 1, cells := 1, slots := 2, locals := 14 } : Room).cells ({ frames := 1, cells := 1, slots := 2, locals := 14 } : Room).slots) (fun t k => castTop (ef3 m ) k) ?_
  show Go _ _ _ (s₁.setTop (mkF m 0 #[] [])) _
  obtain ⟨T1, X1, e1, st1⟩ := getS2 X0 hx hZ hown (host := "") (Or.inl (wd14 hw)) Via.refl e0 S__VALUES (g := (mkF m 0 #[] [])) rfl (hb hby d3_0)
  refine Go.st st1 ?_
  show Go _ _ _ (T1.setTop (mkF m 3 #[] [(.ref w__VALUES)])) _
  obtain ⟨T2, h2, X2, e2, E2, A2, EA2, st2⟩ := cloneH X1 hx hZ hown (wd16 hw) (wd17 hw) (wd21 hw) (wd19 hw) (wd20 hw) (wd22 hw) e1 (Arv.arh V_VALS) E_VALS (g := (mkF m 3 #[] [(.ref w__VALUES)])) rfl (by rw [hml]; rfl) rfl (hb hby d3_3) (by decide) (W := 0) (cap := 2) (by show 2 * 0 + _ ≤ _; exact Nat.le_of_eq rfl) (by decide) (by decide) (by decide) (by decide)
  obtain ⟨b2, g2⟩ : ∃ z, z = h0.size := ⟨_, rfl⟩
  rw [← g2] at A2 EA2 st2
  refine Go.st st2 ?_
  have ne_w__VALUES_b2 : w__VALUES ≠ b2 := Nat.ne_of_lt (Nat.lt_of_lt_of_le E_VALS.lt (Nat.le_of_eq g2.symm))
  have g_b2 : n0 ≤ b2 := Nat.le_trans Z0 (Nat.le_of_eq g2.symm)
  have sz_b2 : h0.size ≤ b2 := Nat.le_trans K0.1 (Nat.le_of_eq g2.symm)
  replace S__VALUES := S__VALUES.ext E2
  replace E_VALS := E_VALS.ext E2
  replace V_VALS := V_VALS.ext E2
  replace K0 := K0.ext E2
  replace Z0 := Nat.le_trans Z0 E2.1
  have V_b2 : Arv Z h2 b2 k_v (.object "com/example/gloom/gloom/io/FilterKind") (2 : Int32) [(.ref y0), (.ref y1)] .null := A2
  have E_b2 := EA2
  show Go _ _ _ (T2.setTop (mkF m 6 #[] [(.ref b2)])) _
  obtain ⟨T3, X3, e3, st3⟩ := castY X2 hx hZ hown (wd25 hw) e2 (Ins.self E_b2) (g := (mkF m 6 #[] [(.ref b2)])) rfl rfl (hb hby d3_6)
  refine Go.st st3 ?_
  show Go _ _ _ (T3.setTop (mkF m 9 #[] [(.ref b2)])) _
  obtain ⟨fs, hr, hrun, hended, hW, hsame⟩ := X3.leave (v := some (.ref b2)) (fun h => by rw [Bd.returns] at h; cases h)
  refine Go.fin (retOut X3 hx Bd.returns rfl (Or.inr (Or.inr (Or.inr (Or.inr ⟨rfl, rfl, rfl⟩)))) (hb hby d3_9) hr) hrun hended ⟨_, _, rfl, ?_, ⟨_, rfl⟩, hW, hsame.mono (by decide) (by decide)⟩
  show Q3 Z w__VALUES k_v y0 y1 h0 n0 _ T3.heap _
  rw [e3]
  exact ⟨b2, rfl, N0, K0, g_b2, sz_b2, V_b2, E_b2⟩
theorem d2_0 : decode prog_21_method_8_code 0 = .ok (.invokestatic 56, 3) := by decide +kernel
theorem wd11 {Z : State} {a0 : Array Value} (hw : ∀ d ∈ tables_1, d.before a0 Z = true) : (Jvm.Cond.methodLink "com/example/gloom/gloom/io/FilterKind" (56 : Nat) ({ cls := "com/example/gloom/gloom/io/FilterKind", name := "values", desc := "()[Lcom/example/gloom/gloom/io/FilterKind;" } : Jvm.MethodName)).before a0 Z = true := hw _ (List.mem_of_getElem? (i := 11) rfl)
theorem wd13 {Z : State} {a0 : Array Value} (hw : ∀ d ∈ tables_1, d.before a0 Z = true) : (Jvm.Cond.code ({ cls := "com/example/gloom/gloom/io/FilterKind", name := "values", desc := "()[Lcom/example/gloom/gloom/io/FilterKind;" } : Jvm.MethodName) prog_21_method_1_code (0 : Nat) (Option.some (Jvm.ClassFile.FieldType.array (Jvm.ClassFile.FieldType.object "com/example/gloom/gloom/io/FilterKind")))).before a0 Z = true := hw _ (List.mem_of_getElem? (i := 13) rfl)
theorem wd6 {Z : State} {a0 : Array Value} (hw : ∀ d ∈ tables_1, d.before a0 Z = true) : (Jvm.Cond.initialized "com/example/gloom/gloom/io/FilterKind").before a0 Z = true := hw _ (List.mem_of_getElem? (i := 6) rfl)
theorem pd0 : parseMethodDescriptor "()[Lcom/example/gloom/gloom/io/FilterKind;" = some ⟨[], some (.array (.object "com/example/gloom/gloom/io/FilterKind"))⟩ := by decide +kernel
theorem wd12 {Z : State} {a0 : Array Value} (hw : ∀ d ∈ tables_1, d.before a0 Z = true) : (Jvm.Cond.static ({ cls := "com/example/gloom/gloom/io/FilterKind", name := "values", desc := "()[Lcom/example/gloom/gloom/io/FilterKind;" } : Jvm.MethodName)).before a0 Z = true := hw _ (List.mem_of_getElem? (i := 12) rfl)
theorem d2_3 : decode prog_21_method_8_code 3 = .ok (.astore_n 2, 1) := by decide +kernel
theorem d2_4 : decode prog_21_method_8_code 4 = .ok (.aload_n 2, 1) := by decide +kernel
theorem d2_5 : decode prog_21_method_8_code 5 = .ok (.arraylength, 1) := by decide +kernel
theorem d2_6 : decode prog_21_method_8_code 6 = .ok (.istore_n 3, 1) := by decide +kernel
theorem d2_7 : decode prog_21_method_8_code 7 = .ok (.iconst 0, 1) := by decide +kernel
theorem d2_8 : decode prog_21_method_8_code 8 = .ok (.istore 4, 2) := by decide +kernel
theorem d2_10 : decode prog_21_method_8_code 10 = .ok (.iload 4, 2) := by decide +kernel
theorem d2_12 : decode prog_21_method_8_code 12 = .ok (.iload_n 3, 1) := by decide +kernel
theorem d2_13 : decode prog_21_method_8_code 13 = .ok (.if_icmp .ge 29, 3) := by decide +kernel
theorem d2_16 : decode prog_21_method_8_code 16 = .ok (.aload_n 2, 1) := by decide +kernel
theorem d2_17 : decode prog_21_method_8_code 17 = .ok (.iload 4, 2) := by decide +kernel
theorem d2_19 : decode prog_21_method_8_code 19 = .ok (.aaload, 1) := by decide +kernel
theorem d2_20 : decode prog_21_method_8_code 20 = .ok (.astore 5, 2) := by decide +kernel
theorem d2_22 : decode prog_21_method_8_code 22 = .ok (.aload 5, 2) := by decide +kernel
theorem d2_24 : decode prog_21_method_8_code 24 = .ok (.getfield 29, 3) := by decide +kernel
theorem wd27 {Z : State} {a0 : Array Value} (hw : ∀ d ∈ tables_1, d.before a0 Z = true) : (Jvm.Cond.fieldLink "com/example/gloom/gloom/io/FilterKind" (29 : Nat) "com/example/gloom/gloom/io/FilterKind" "code" "I").before a0 Z = true := hw _ (List.mem_of_getElem? (i := 27) rfl)
theorem d2_27 : decode prog_21_method_8_code 27 = .ok (.i2l, 1) := by decide +kernel
theorem d2_28 : decode prog_21_method_8_code 28 = .ok (.lload_n 0, 1) := by decide +kernel
theorem d2_29 : decode prog_21_method_8_code 29 = .ok (.lcmp, 1) := by decide +kernel
theorem d2_30 : decode prog_21_method_8_code 30 = .ok (.ifCond .ne 6, 3) := by decide +kernel
theorem d2_33 : decode prog_21_method_8_code 33 = .ok (.aload 5, 2) := by decide +kernel
theorem d2_35 : decode prog_21_method_8_code 35 = .ok (.areturn, 1) := by decide +kernel
theorem d2_36 : decode prog_21_method_8_code 36 = .ok (.iinc 4 1, 3) := by decide +kernel
theorem d2_39 : decode prog_21_method_8_code 39 = .ok (.goto (-29), 3) := by decide +kernel
theorem d2_42 : decode prog_21_method_8_code 42 = .ok (.aconst_null, 1) := by decide +kernel
theorem d2_43 : decode prog_21_method_8_code 43 = .ok (.areturn, 1) := by decide +kernel
def f2 (q1 : Int64) (y0 : Addr) (y1 : Addr) : Value := (if (1 : Int64) = q1 then (.ref y0) else (if (2 : Int64) = q1 then (.ref y1) else .null))
theorem f2_ref (q1 : Int64) (y0 : Addr) (y1 : Addr) : (f2 q1 y0 y1).isRef = true := by
  unfold f2
  repeat' split
  all_goals first | rfl | assumption
def Q2 (Z : State) (q1 : Int64) (w__VALUES : Addr) (k_v : ClassId) (y0 : Addr) (y1 : Addr) (h0 : Heap) (n0 : Nat) (v : Option Value) (h : Heap) (L : List Loc) : Prop := v = some (f2 q1 y0 y1) ∧ Fr n0 L ∧ Keep h0 h []
theorem ef2 (m : MethodId) (x0 : Int64) : entryFrame m #[(.long x0)] 6 = mkF m 0 #[.val (.long x0), .second, .unset, .unset, .unset, .unset] [] := by first | (simp [entryFrame, mkF, argsToLocals, Value.category]; done) | rfl
set_option maxRecDepth 65536 in
set_option maxHeartbeats 16000000 in
theorem rm2 (l : Launch) (Z : State) (a0 : Array Value) (hw : ∀ d ∈ tables_1, d.before a0 Z = true) (ws : List Jvm.Cond) (q1 : Int64) (w__VALUES : Addr) (k_v : ClassId) (y0 : Addr) (y1 : Addr) (h0 : Heap) (n0 : Nat) (Z0 : n0 ≤ h0.size) (S__VALUES : Sta Z h0 "com/example/gloom/gloom/io/FilterKind" "$VALUES" "[Lcom/example/gloom/gloom/io/FilterKind;" (.ref w__VALUES)) (E_VALS : Exa Z h0 w__VALUES "[Lcom/example/gloom/gloom/io/FilterKind;") (V_VALS : Arv Z h0 w__VALUES k_v (.object "com/example/gloom/gloom/io/FilterKind") (2 : Int32) [(.ref y0), (.ref y1)] .null) (E_y0 : Exa Z h0 y0 "com/example/gloom/gloom/io/FilterKind") (F_y0_code : Fld Z h0 y0 "com/example/gloom/gloom/io/FilterKind" "code" "I" (.int (1 : Int32))) (E_y1 : Exa Z h0 y1 "com/example/gloom/gloom/io/FilterKind") (F_y1_code : Fld Z h0 y1 "com/example/gloom/gloom/io/FilterKind" "code" "I" (.int (2 : Int32))) :
    MetFree l (⟨"com/example/gloom/gloom/io/FilterKind", "fromCode", "(J)Lcom/example/gloom/gloom/io/FilterKind;"⟩ : MethodName) (head1 (Jvm.Cond.code (⟨"com/example/gloom/gloom/io/FilterKind", "fromCode", "(J)Lcom/example/gloom/gloom/io/FilterKind;"⟩ : MethodName) prog_21_method_8_code 6 (some (.object "com/example/gloom/gloom/io/FilterKind")) :: ws) ({ frames := 2, cells := 1, slots := 2, locals := 25 } : Room)) (fun a U => a = #[(.long q1)] ∧ Z.Warmed39 U.vm ∧ U.heap = h0) (fun _ _ _ _ _ => True) (fun _ U o U' => ∃ v L, o = .returned v ∧ Q2 Z q1 w__VALUES k_v y0 y1 h0 n0 v U'.heap L ∧ FrameEnd U o U' L ({ frames := 2, cells := 1, slots := 2, locals := 25 } : Room).cells ({ frames := 2, cells := 1, slots := 2, locals := 25 } : Room).slots) := by
  refine MetFree.of_bodySF (plainFor_of_name pn0) hisR ?_
  intro p e s m args below meth c s₁ Bd hml0 hP hK
  obtain ⟨rfl, hZ, hh⟩ := hP
  have hx := Bd.exec
  have hby := Bd.bytes
  have hml : c.maxLocals = 6 := hml0
  have hown : s.vm.findClass "com/example/gloom/gloom/io/FilterKind" = some m.cls := findClass_of_methodNamed Bd.named
  have hnm := (name_of_methodNamed Bd.named Bd.method).1
  have X0 : Stand p l e ({ frames := 2, cells := 1, slots := 2, locals := 25 } : Room) s m #[(.long q1)] below meth c s₁ [] 0 0 := Stand.of_body Bd
  have e0 : s₁.heap = h0 := by rw [← hh, Bd.state]; rfl
  have N0 := Fr.nil n0
  have K0 : Keep h0 h0 [] := Keep.refl h0 _
  refine Go.st (P := fun o U' => ∃ v L, o = .returned v ∧ Q2 Z q1 w__VALUES k_v y0 y1 h0 n0 v U'.heap L ∧ FrameEnd s o U' L ({ frames := 2, cells := 1, slots := 2, locals := 25 } : Room).cells ({ frames := 2, cells := 1, slots := 2, locals := 25 } : Room).slots) (fun t k => castTop (ef2 m q1) k) ?_
  show Go _ _ _ (s₁.setTop (mkF m 0 #[.val (.long q1), .second, .unset, .unset, .unset, .unset] [])) _
  obtain ⟨_, _, ⟨T1, L1, k1, n1⟩, -, X1, ⟨Lc1, hQ1, l1, y1, z1⟩, st1⟩ := Jvm.LawKit.callS X0 hx (y := (⟨"com/example/gloom/gloom/io/FilterKind", "values", "()[Lcom/example/gloom/gloom/io/FilterKind;"⟩ : MethodName)) hown (mvT hZ (wd11 hw)) (mvT hZ (wd12 hw)) (mvT hZ (wd6 hw)) (mvT hZ (wd13 hw)) (by decide) (backOf (W := 0) (rm3 l Z a0 hw [] w__VALUES k_v y0 y1 h0 n0 Z0 S__VALUES E_VALS V_VALS) hZ (wd13 hw) (wd6 hw) (by decide) (by decide)) (g := (mkF m 0 #[.val (.long q1), .second, .unset, .unset, .unset, .unset] [])) rfl (by rw [hml]; rfl) (argsL := []) (rest := []) (lenOf pd0 rfl) rfl (by show 2 * 0 + _ ≤ _; exact Nat.le_of_eq rfl) (hb hby d2_0) (fun _ _ => ⟨rfl, e0, (by decide : 0 + 1 ≤ _), (by decide : 0 + 2 ≤ _)⟩)
  dsimp only [Pt.U, Pt.locs, Pt.cells, Pt.slots] at X1 l1 y1 z1 st1 hQ1
  subst l1 y1 z1
  obtain ⟨h1, e1⟩ : ∃ z, T1.heap = z := ⟨_, rfl⟩
  rw [e1] at hQ1
  obtain ⟨x3_0_1, rfl, N1q, K1, ng_x3_0_1, sz0_x3_0_1, Q1_0, Q1_1⟩ := hQ1
  refine Go.st st1 ?_
  have ne_w__VALUES_x3_0_1 : w__VALUES ≠ x3_0_1 := Nat.ne_of_lt (Nat.lt_of_lt_of_le E_VALS.lt sz0_x3_0_1)
  have ne_y0_x3_0_1 : y0 ≠ x3_0_1 := Nat.ne_of_lt (Nat.lt_of_lt_of_le E_y0.lt sz0_x3_0_1)
  have ne_y1_x3_0_1 : y1 ≠ x3_0_1 := Nat.ne_of_lt (Nat.lt_of_lt_of_le E_y1.lt sz0_x3_0_1)
  have g_x3_0_1 : n0 ≤ x3_0_1 := ng_x3_0_1
  have sz_x3_0_1 : h0.size ≤ x3_0_1 := Nat.le_trans K0.1 sz0_x3_0_1
  replace S__VALUES := sta_keep S__VALUES K1 all0
  replace E_VALS := E_VALS.keep K1
  replace V_VALS := V_VALS.keep K1 nin0
  replace E_y0 := E_y0.keep K1
  replace F_y0_code := F_y0_code.keep K1 nin0
  replace E_y1 := E_y1.keep K1
  replace F_y1_code := F_y1_code.keep K1 nin0
  replace Z0 := Nat.le_trans Z0 K1.1
  replace K0 := K0.trans K1 all0
  have V_x3_0_1 := Q1_0
  have E_x3_0_1 := Q1_1
  have N1 := Fr.app N0 N1q
  show Go _ _ _ (T1.setTop (mkF m 3 #[.val (.long q1), .second, .unset, .unset, .unset, .unset] [(.ref x3_0_1)])) _
  refine Go.st (fun t k => XS.astoreN X1.here hx rfl (hb hby d2_3) rfl rfl (l' := #[.val (.long q1), .second, .val (.ref x3_0_1), .unset, .unset, .unset]) rfl k) ?_
  refine Go.st (fun t k => XS.aloadN X1.here hx rfl (hb hby d2_4) rfl rfl k) ?_
  obtain ⟨cl2, Ar2, -, Sz2, Ng2, -, -⟩ := id V_x3_0_1
  refine Go.st (fun t k => X1.arraylength hx (by rw [e1]; exact Ar2.1) (State.isArrayOf_alike hZ.alike Ar2.2.1) (g := (mkF m 5 #[.val (.long q1), .second, .val (.ref x3_0_1), .unset, .unset, .unset] [(.ref x3_0_1)])) rfl rfl (hb hby d2_5) _ k) ?_
  rw [len_of Sz2 Ng2]
  show Go _ _ _ (T1.setTop (mkF m 6 #[.val (.long q1), .second, .val (.ref x3_0_1), .unset, .unset, .unset] [(.int 2)])) _
  refine Go.st (fun t k => XS.istoreN X1.here hx rfl (hb hby d2_6) rfl (l' := #[.val (.long q1), .second, .val (.ref x3_0_1), .val (.int 2), .unset, .unset]) rfl k) ?_
  refine Go.st (fun t k => XS.iconst X1.here hx rfl (hb hby d2_7) k) ?_
  refine Go.st (fun t k => XS.istore X1.here hx rfl (hb hby d2_8) rfl (l' := #[.val (.long q1), .second, .val (.ref x3_0_1), .val (.int 2), .val (.int 0), .unset]) rfl k) ?_
  refine Go.st (fun t k => XS.iload X1.here hx rfl (hb hby d2_10) rfl k) ?_
  refine Go.st (fun t k => XS.iloadN X1.here hx rfl (hb hby d2_12) rfl k) ?_
  refine Go.st (fun t k => XS.icmpNo X1.here hx rfl (hb hby d2_13) rfl (tlt (by decide : (0 : Int32) < (2 : Int32))).2.1 k) ?_
  show Go _ _ _ (T1.setTop (mkF m 16 #[.val (.long q1), .second, .val (.ref x3_0_1), .val (.int 2), .val (.int 0), .unset] [])) _
  refine Go.st (fun t k => XS.aloadN X1.here hx rfl (hb hby d2_16) rfl rfl k) ?_
  refine Go.st (fun t k => XS.iload X1.here hx rfl (hb hby d2_17) rfl k) ?_
  obtain ⟨cl3, Ar3, -, Sz3, Ng3, Hs3, -⟩ := id V_x3_0_1
  have hin3 : ¬ ((0 : Int32) < 0 ∨ cl3.slots.size ≤ ((0 : Int32)).toNatClampNeg) := inb_of Sz3 ⟨by decide, by decide⟩
  refine Go.st (fun t k => X1.aaload hx (j := (0 : Int32)) (v := (.ref y0)) (by rw [e1]; exact Ar3.1) (State.isArrayOf_alike hZ.alike Ar3.2.1) rfl Ar3.2.2 hin3 (Has.at Hs3 hin3 rfl) (g := (mkF m 19 #[.val (.long q1), .second, .val (.ref x3_0_1), .val (.int 2), .val (.int 0), .unset] [(.int 0), (.ref x3_0_1)])) rfl rfl (hb hby d2_19) _ k) ?_
  show Go _ _ _ (T1.setTop (mkF m 20 #[.val (.long q1), .second, .val (.ref x3_0_1), .val (.int 2), .val (.int 0), .unset] [(.ref y0)])) _
  refine Go.st (fun t k => XS.astore X1.here hx rfl (hb hby d2_20) rfl rfl (l' := #[.val (.long q1), .second, .val (.ref x3_0_1), .val (.int 2), .val (.int 0), .val (.ref y0)]) rfl k) ?_
  refine Go.st (fun t k => XS.aload X1.here hx rfl (hb hby d2_22) rfl rfl k) ?_
  obtain ⟨T4, X4, e4, st4⟩ := getF X1 hx hZ hown (host := "") (Or.inl (wd27 hw)) Via.refl e1 F_y0_code (g := (mkF m 24 #[.val (.long q1), .second, .val (.ref x3_0_1), .val (.int 2), .val (.int 0), .val (.ref y0)] [(.ref y0)])) rfl rfl (hb hby d2_24)
  refine Go.st st4 ?_
  show Go _ _ _ (T4.setTop (mkF m 27 #[.val (.long q1), .second, .val (.ref x3_0_1), .val (.int 2), .val (.int 0), .val (.ref y0)] [(.int 1)])) _
  refine Go.st (fun t k => XS.i2l X4.here hx rfl (hb hby d2_27) rfl k) ?_
  show Go _ _ _ (T4.setTop (mkF m 28 #[.val (.long q1), .second, .val (.ref x3_0_1), .val (.int 2), .val (.int 0), .val (.ref y0)] [(.long 1)])) _
  refine Go.st (fun t k => XS.lloadN X4.here hx rfl (hb hby d2_28) rfl k) ?_
  refine Go.st (fun t k => XS.lcmp X4.here hx rfl (hb hby d2_29) rfl k) ?_
  show Go _ _ _ (T4.setTop (mkF m 30 #[.val (.long q1), .second, .val (.ref x3_0_1), .val (.int 2), .val (.int 0), .val (.ref y0)] [(.int (lcmpW (1 : Int64) q1))])) _
  by_cases hc5 : (1 : Int64) = q1
  · refine Go.st (fun t k => XS.ifNo X4.here hx rfl (hb hby d2_30) rfl ((if0 _ _).trans (teq ((lw_eq (1 : Int64) q1).mpr hc5)).2) k) ?_
    show Go _ _ _ (T4.setTop (mkF m 33 #[.val (.long q1), .second, .val (.ref x3_0_1), .val (.int 2), .val (.int 0), .val (.ref y0)] [])) _
    refine Go.st (fun t k => XS.aload X4.here hx rfl (hb hby d2_33) rfl rfl k) ?_
    obtain ⟨fs, hr, hrun, hended, hW, hsame⟩ := X4.leave (v := some (.ref y0)) (fun h => by rw [Bd.returns] at h; cases h)
    refine Go.fin (retOut X4 hx Bd.returns rfl (Or.inr (Or.inr (Or.inr (Or.inr ⟨rfl, rfl, rfl⟩)))) (hb hby d2_35) hr) hrun hended ⟨_, _, rfl, ?_, ⟨_, rfl⟩, hW, hsame.mono (by decide) (by decide)⟩
    show Q2 Z q1 w__VALUES k_v y0 y1 h0 n0 _ T4.heap _
    rw [e4]
    exact ⟨(by unfold f2; simp only [if_pos hc5]), N1, K0⟩
  · refine Go.st (fun t k => XS.ifYes X4.here hx rfl (pc0 := 30) (pc' := 36) rfl (hb hby d2_30) rfl ((if0 _ _).trans (feq (fun z => hc5 ((lw_eq (1 : Int64) q1).mp z))).2) (by decide) (by decide) k) ?_
    show Go _ _ _ (T4.setTop (mkF m 36 #[.val (.long q1), .second, .val (.ref x3_0_1), .val (.int 2), .val (.int 0), .val (.ref y0)] [])) _
    refine Go.st (fun t k => XS.iinc X4.here hx rfl (hb hby d2_36) rfl (l' := #[.val (.long q1), .second, .val (.ref x3_0_1), .val (.int (2 : Int32)), .val (.int ((0 : Int32) + (1 : Int32))), .val (.ref y0)]) rfl k) ?_
    show Go _ _ _ (T4.setTop (mkF m 39 #[.val (.long q1), .second, .val (.ref x3_0_1), .val (.int 2), .val (.int 1), .val (.ref y0)] [])) _
    refine Go.st (fun t k => XS.goto X4.here hx rfl (pc0 := 39) (pc' := 10) rfl (hb hby d2_39) (by decide) (by decide) k) ?_
    refine Go.st (fun t k => XS.iload X4.here hx rfl (hb hby d2_10) rfl k) ?_
    refine Go.st (fun t k => XS.iloadN X4.here hx rfl (hb hby d2_12) rfl k) ?_
    refine Go.st (fun t k => XS.icmpNo X4.here hx rfl (hb hby d2_13) rfl (tlt (by decide : (1 : Int32) < (2 : Int32))).2.1 k) ?_
    show Go _ _ _ (T4.setTop (mkF m 16 #[.val (.long q1), .second, .val (.ref x3_0_1), .val (.int 2), .val (.int 1), .val (.ref y0)] [])) _
    refine Go.st (fun t k => XS.aloadN X4.here hx rfl (hb hby d2_16) rfl rfl k) ?_
    refine Go.st (fun t k => XS.iload X4.here hx rfl (hb hby d2_17) rfl k) ?_
    obtain ⟨cl6, Ar6, -, Sz6, Ng6, Hs6, -⟩ := id V_x3_0_1
    have hin6 : ¬ ((1 : Int32) < 0 ∨ cl6.slots.size ≤ ((1 : Int32)).toNatClampNeg) := inb_of Sz6 ⟨by decide, by decide⟩
    refine Go.st (fun t k => X4.aaload hx (j := (1 : Int32)) (v := (.ref y1)) (by rw [e4]; exact Ar6.1) (State.isArrayOf_alike hZ.alike Ar6.2.1) rfl Ar6.2.2 hin6 (Has.at Hs6 hin6 rfl) (g := (mkF m 19 #[.val (.long q1), .second, .val (.ref x3_0_1), .val (.int 2), .val (.int 1), .val (.ref y0)] [(.int 1), (.ref x3_0_1)])) rfl rfl (hb hby d2_19) _ k) ?_
    show Go _ _ _ (T4.setTop (mkF m 20 #[.val (.long q1), .second, .val (.ref x3_0_1), .val (.int 2), .val (.int 1), .val (.ref y0)] [(.ref y1)])) _
    refine Go.st (fun t k => XS.astore X4.here hx rfl (hb hby d2_20) rfl rfl (l' := #[.val (.long q1), .second, .val (.ref x3_0_1), .val (.int 2), .val (.int 1), .val (.ref y1)]) rfl k) ?_
    refine Go.st (fun t k => XS.aload X4.here hx rfl (hb hby d2_22) rfl rfl k) ?_
    obtain ⟨T7, X7, e7, st7⟩ := getF X4 hx hZ hown (host := "") (Or.inl (wd27 hw)) Via.refl e4 F_y1_code (g := (mkF m 24 #[.val (.long q1), .second, .val (.ref x3_0_1), .val (.int 2), .val (.int 1), .val (.ref y1)] [(.ref y1)])) rfl rfl (hb hby d2_24)
    refine Go.st st7 ?_
    show Go _ _ _ (T7.setTop (mkF m 27 #[.val (.long q1), .second, .val (.ref x3_0_1), .val (.int 2), .val (.int 1), .val (.ref y1)] [(.int 2)])) _
    refine Go.st (fun t k => XS.i2l X7.here hx rfl (hb hby d2_27) rfl k) ?_
    show Go _ _ _ (T7.setTop (mkF m 28 #[.val (.long q1), .second, .val (.ref x3_0_1), .val (.int 2), .val (.int 1), .val (.ref y1)] [(.long 2)])) _
    refine Go.st (fun t k => XS.lloadN X7.here hx rfl (hb hby d2_28) rfl k) ?_
    refine Go.st (fun t k => XS.lcmp X7.here hx rfl (hb hby d2_29) rfl k) ?_
    show Go _ _ _ (T7.setTop (mkF m 30 #[.val (.long q1), .second, .val (.ref x3_0_1), .val (.int 2), .val (.int 1), .val (.ref y1)] [(.int (lcmpW (2 : Int64) q1))])) _
    by_cases hc8 : (2 : Int64) = q1
    · refine Go.st (fun t k => XS.ifNo X7.here hx rfl (hb hby d2_30) rfl ((if0 _ _).trans (teq ((lw_eq (2 : Int64) q1).mpr hc8)).2) k) ?_
      show Go _ _ _ (T7.setTop (mkF m 33 #[.val (.long q1), .second, .val (.ref x3_0_1), .val (.int 2), .val (.int 1), .val (.ref y1)] [])) _
      refine Go.st (fun t k => XS.aload X7.here hx rfl (hb hby d2_33) rfl rfl k) ?_
      obtain ⟨fs, hr, hrun, hended, hW, hsame⟩ := X7.leave (v := some (.ref y1)) (fun h => by rw [Bd.returns] at h; cases h)
      refine Go.fin (retOut X7 hx Bd.returns rfl (Or.inr (Or.inr (Or.inr (Or.inr ⟨rfl, rfl, rfl⟩)))) (hb hby d2_35) hr) hrun hended ⟨_, _, rfl, ?_, ⟨_, rfl⟩, hW, hsame.mono (by decide) (by decide)⟩
      show Q2 Z q1 w__VALUES k_v y0 y1 h0 n0 _ T7.heap _
      rw [e7]
      exact ⟨(by unfold f2; simp only [if_neg hc5, if_pos hc8]), N1, K0⟩
    · refine Go.st (fun t k => XS.ifYes X7.here hx rfl (pc0 := 30) (pc' := 36) rfl (hb hby d2_30) rfl ((if0 _ _).trans (feq (fun z => hc8 ((lw_eq (2 : Int64) q1).mp z))).2) (by decide) (by decide) k) ?_
      show Go _ _ _ (T7.setTop (mkF m 36 #[.val (.long q1), .second, .val (.ref x3_0_1), .val (.int 2), .val (.int 1), .val (.ref y1)] [])) _
      refine Go.st (fun t k => XS.iinc X7.here hx rfl (hb hby d2_36) rfl (l' := #[.val (.long q1), .second, .val (.ref x3_0_1), .val (.int (2 : Int32)), .val (.int ((1 : Int32) + (1 : Int32))), .val (.ref y1)]) rfl k) ?_
      show Go _ _ _ (T7.setTop (mkF m 39 #[.val (.long q1), .second, .val (.ref x3_0_1), .val (.int 2), .val (.int 2), .val (.ref y1)] [])) _
      refine Go.st (fun t k => XS.goto X7.here hx rfl (pc0 := 39) (pc' := 10) rfl (hb hby d2_39) (by decide) (by decide) k) ?_
      refine Go.st (fun t k => XS.iload X7.here hx rfl (hb hby d2_10) rfl k) ?_
      refine Go.st (fun t k => XS.iloadN X7.here hx rfl (hb hby d2_12) rfl k) ?_
      refine Go.st (fun t k => XS.icmpYes X7.here hx rfl (pc0 := 13) (pc' := 42) rfl (hb hby d2_13) rfl (flt (by decide : ¬ ((2 : Int32) < (2 : Int32)))).2.1 (by decide) (by decide) k) ?_
      show Go _ _ _ (T7.setTop (mkF m 42 #[.val (.long q1), .second, .val (.ref x3_0_1), .val (.int 2), .val (.int 2), .val (.ref y1)] [])) _
      refine Go.st (fun t k => XS.aconstNull X7.here hx rfl (hb hby d2_42) k) ?_
      obtain ⟨fs, hr, hrun, hended, hW, hsame⟩ := X7.leave (v := some .null) (fun h => by rw [Bd.returns] at h; cases h)
      refine Go.fin (retOut X7 hx Bd.returns rfl (Or.inr (Or.inr (Or.inr (Or.inr ⟨rfl, rfl, rfl⟩)))) (hb hby d2_43) hr) hrun hended ⟨_, _, rfl, ?_, ⟨_, rfl⟩, hW, hsame.mono (by decide) (by decide)⟩
      show Q2 Z q1 w__VALUES k_v y0 y1 h0 n0 _ T7.heap _
      rw [e7]
      exact ⟨(by unfold f2; simp only [if_neg hc5, if_neg hc8]), N1, K0⟩
theorem d4_0 : decode prog_21_method_4_code 0 = .ok (.aload_n 0, 1) := by decide +kernel
theorem d4_1 : decode prog_21_method_4_code 1 = .ok (.getfield 29, 3) := by decide +kernel
theorem d4_4 : decode prog_21_method_4_code 4 = .ok (.ireturn, 1) := by decide +kernel
def Q4 (Z : State) (a1 : Addr) (w_a1_code : Int32) (h0 : Heap) (n0 : Nat) (v : Option Value) (h : Heap) (L : List Loc) : Prop := v = some (.int w_a1_code) ∧ Fr n0 L ∧ h = h0
theorem ef4 (m : MethodId) (x0 : Addr) : entryFrame m #[(.ref x0)] 1 = mkF m 0 #[.val (.ref x0)] [] := by first | (simp [entryFrame, mkF, argsToLocals, Value.category]; done) | rfl
set_option maxRecDepth 65536 in
set_option maxHeartbeats 16000000 in
theorem rm4 (l : Launch) (Z : State) (a0 : Array Value) (hw : ∀ d ∈ tables_1, d.before a0 Z = true) (ws : List Jvm.Cond) (a1 : Addr) (w_a1_code : Int32) (h0 : Heap) (n0 : Nat) (Z0 : n0 ≤ h0.size) (F_a1_code : Fld Z h0 a1 "com/example/gloom/gloom/io/FilterKind" "code" "I" (.int w_a1_code)) :
    MetFree l (⟨"com/example/gloom/gloom/io/FilterKind", "getCode", "()I"⟩ : MethodName) (head1 (Jvm.Cond.code (⟨"com/example/gloom/gloom/io/FilterKind", "getCode", "()I"⟩ : MethodName) prog_21_method_4_code 1 (some .int) :: ws) ({ frames := 0, cells := 0, slots := 0, locals := 0 } : Room)) (fun a U => a = #[(.ref a1)] ∧ Z.Warmed39 U.vm ∧ U.heap = h0) (fun _ _ _ _ _ => True) (fun _ U o U' => ∃ v L, o = .returned v ∧ Q4 Z a1 w_a1_code h0 n0 v U'.heap L ∧ FrameEnd U o U' L ({ frames := 0, cells := 0, slots := 0, locals := 0 } : Room).cells ({ frames := 0, cells := 0, slots := 0, locals := 0 } : Room).slots) := by
  refine MetFree.of_bodySF (plainFor_of_name pn0) hisR ?_
  intro p e s m args below meth c s₁ Bd hml0 hP hK
  obtain ⟨rfl, hZ, hh⟩ := hP
  have hx := Bd.exec
  have hby := Bd.bytes
  have hml : c.maxLocals = 1 := hml0
  have hown : s.vm.findClass "com/example/gloom/gloom/io/FilterKind" = some m.cls := findClass_of_methodNamed Bd.named
  have hnm := (name_of_methodNamed Bd.named Bd.method).1
  have X0 : Stand p l e ({ frames := 0, cells := 0, slots := 0, locals := 0 } : Room) s m #[(.ref a1)] below meth c s₁ [] 0 0 := Stand.of_body Bd
  have e0 : s₁.heap = h0 := by rw [← hh, Bd.state]; rfl
  have N0 := Fr.nil n0
  have K0 : Keep h0 h0 [] := Keep.refl h0 _
  refine Go.st (P := fun o U' => ∃ v L, o = .returned v ∧ Q4 Z a1 w_a1_code h0 n0 v U'.heap L ∧ FrameEnd s o U' L ({ frames := 0, cells := 0, slots := 0, locals := 0 } : Room).cells ({ frames := 0, cells := 0, slots := 0, locals := 0 } : Room).slots) (fun t k => castTop (ef4 m a1) k) ?_
  show Go _ _ _ (s₁.setTop (mkF m 0 #[.val (.ref a1)] [])) _
  refine Go.st (fun t k => XS.aloadN X0.here hx rfl (hb hby d4_0) rfl rfl k) ?_
  obtain ⟨T1, X1, e1, st1⟩ := getF X0 hx hZ hown (host := "") (Or.inl (wd27 hw)) Via.refl e0 F_a1_code (g := (mkF m 1 #[.val (.ref a1)] [(.ref a1)])) rfl rfl (hb hby d4_1)
  refine Go.st st1 ?_
  show Go _ _ _ (T1.setTop (mkF m 4 #[.val (.ref a1)] [(.int w_a1_code)])) _
  obtain ⟨fs, hr, hrun, hended, hW, hsame⟩ := X1.leave (v := some (.int w_a1_code)) (fun h => by rw [Bd.returns] at h; cases h)
  refine Go.fin (retOut X1 hx Bd.returns rfl (Or.inl ⟨rfl, Or.inl rfl, _, rfl⟩) (hb hby d4_4) hr) hrun hended ⟨_, _, rfl, ?_, ⟨_, rfl⟩, hW, hsame.mono (by decide) (by decide)⟩
  show Q4 Z a1 w_a1_code h0 n0 _ T1.heap _
  rw [e1]
  exact ⟨rfl, N0, rfl⟩
theorem d1_0 : decode method_2_code 0 = .ok (.iload_n 2, 1) := by decide +kernel
theorem d1_1 : decode method_2_code 1 = .ok (.bipush 7, 2) := by decide +kernel
theorem d1_3 : decode method_2_code 3 = .ok (.iand, 1) := by decide +kernel
theorem d1_4 : decode method_2_code 4 = .ok (.istore_n 3, 1) := by decide +kernel
theorem d1_5 : decode method_2_code 5 = .ok (.iload_n 3, 1) := by decide +kernel
theorem d1_6 : decode method_2_code 6 = .ok (.ifCond .ne 5, 3) := by decide +kernel
theorem d1_9 : decode method_2_code 9 = .ok (.lload_n 0, 1) := by decide +kernel
theorem d1_10 : decode method_2_code 10 = .ok (.lreturn, 1) := by decide +kernel
theorem d1_11 : decode method_2_code 11 = .ok (.iload_n 3, 1) := by decide +kernel
theorem d1_12 : decode method_2_code 12 = .ok (.iconst 1, 1) := by decide +kernel
theorem d1_13 : decode method_2_code 13 = .ok (.if_icmp .ne 5, 3) := by decide +kernel
theorem d1_16 : decode method_2_code 16 = .ok (.lconst 1, 1) := by decide +kernel
theorem d1_17 : decode method_2_code 17 = .ok (.lreturn, 1) := by decide +kernel
theorem d1_18 : decode method_2_code 18 = .ok (.iload_n 3, 1) := by decide +kernel
theorem d1_19 : decode method_2_code 19 = .ok (.iconst 2, 1) := by decide +kernel
theorem d1_20 : decode method_2_code 20 = .ok (.if_icmp .ne 7, 3) := by decide +kernel
theorem d1_23 : decode method_2_code 23 = .ok (.ldc2_w 7, 3) := by decide +kernel
theorem wd4 {Z : State} {a0 : Array Value} (hw : ∀ d ∈ tables_1, d.before a0 Z = true) : (Jvm.Cond.constantLong "com/example/gloom/gloom/io/FilterKindFromCodePinLaw" (7 : Nat) (2 : Int64)).before a0 Z = true := hw _ (List.mem_of_getElem? (i := 4) rfl)
theorem d1_26 : decode method_2_code 26 = .ok (.lreturn, 1) := by decide +kernel
theorem d1_27 : decode method_2_code 27 = .ok (.iload_n 3, 1) := by decide +kernel
theorem d1_28 : decode method_2_code 28 = .ok (.iconst 3, 1) := by decide +kernel
theorem d1_29 : decode method_2_code 29 = .ok (.if_icmp .ne 5, 3) := by decide +kernel
theorem d1_32 : decode method_2_code 32 = .ok (.lconst 0, 1) := by decide +kernel
theorem d1_33 : decode method_2_code 33 = .ok (.lreturn, 1) := by decide +kernel
theorem d1_34 : decode method_2_code 34 = .ok (.iload_n 3, 1) := by decide +kernel
theorem d1_35 : decode method_2_code 35 = .ok (.iconst 4, 1) := by decide +kernel
theorem d1_36 : decode method_2_code 36 = .ok (.if_icmp .ne 7, 3) := by decide +kernel
theorem d1_39 : decode method_2_code 39 = .ok (.ldc2_w 9, 3) := by decide +kernel
theorem wd34 {Z : State} {a0 : Array Value} (hw : ∀ d ∈ tables_1, d.before a0 Z = true) : (Jvm.Cond.constantLong "com/example/gloom/gloom/io/FilterKindFromCodePinLaw" (9 : Nat) (3 : Int64)).before a0 Z = true := hw _ (List.mem_of_getElem? (i := 34) rfl)
theorem d1_42 : decode method_2_code 42 = .ok (.lreturn, 1) := by decide +kernel
theorem d1_43 : decode method_2_code 43 = .ok (.iload_n 3, 1) := by decide +kernel
theorem d1_44 : decode method_2_code 44 = .ok (.iconst 5, 1) := by decide +kernel
theorem d1_45 : decode method_2_code 45 = .ok (.if_icmp .ne 6, 3) := by decide +kernel
theorem d1_48 : decode method_2_code 48 = .ok (.lload_n 0, 1) := by decide +kernel
theorem d1_49 : decode method_2_code 49 = .ok (.lneg, 1) := by decide +kernel
theorem d1_50 : decode method_2_code 50 = .ok (.lreturn, 1) := by decide +kernel
theorem d1_51 : decode method_2_code 51 = .ok (.iload_n 3, 1) := by decide +kernel
theorem d1_52 : decode method_2_code 52 = .ok (.bipush 6, 2) := by decide +kernel
theorem d1_54 : decode method_2_code 54 = .ok (.if_icmp .ne 10, 3) := by decide +kernel
theorem d1_57 : decode method_2_code 57 = .ok (.lload_n 0, 1) := by decide +kernel
theorem d1_58 : decode method_2_code 58 = .ok (.bipush 32, 2) := by decide +kernel
theorem d1_60 : decode method_2_code 60 = .ok (.lshl, 1) := by decide +kernel
theorem d1_61 : decode method_2_code 61 = .ok (.lconst 1, 1) := by decide +kernel
theorem d1_62 : decode method_2_code 62 = .ok (.lor, 1) := by decide +kernel
theorem d1_63 : decode method_2_code 63 = .ok (.lreturn, 1) := by decide +kernel
theorem d1_64 : decode method_2_code 64 = .ok (.lload_n 0, 1) := by decide +kernel
theorem d1_65 : decode method_2_code 65 = .ok (.bipush 32, 2) := by decide +kernel
theorem d1_67 : decode method_2_code 67 = .ok (.lshl, 1) := by decide +kernel
theorem d1_68 : decode method_2_code 68 = .ok (.ldc2_w 7, 3) := by decide +kernel
theorem d1_71 : decode method_2_code 71 = .ok (.lor, 1) := by decide +kernel
theorem d1_72 : decode method_2_code 72 = .ok (.lreturn, 1) := by decide +kernel
theorem pn1 : plainName "com/example/gloom/gloom/io/FilterKindFromCodePinLaw" = true := by first | (simp [plainName, overriddenIn]; done) | decide +kernel
def f1 (q1 : Int64) (p2 : Int32) : Int64 := (if (p2 &&& (7 : Int32)) = (0 : Int32) then q1 else (if (p2 &&& (7 : Int32)) = (1 : Int32) then (1 : Int64) else (if (p2 &&& (7 : Int32)) = (2 : Int32) then (2 : Int64) else (if (p2 &&& (7 : Int32)) = (3 : Int32) then (0 : Int64) else (if (p2 &&& (7 : Int32)) = (4 : Int32) then (3 : Int64) else (if (p2 &&& (7 : Int32)) = (5 : Int32) then (-q1) else (if (p2 &&& (7 : Int32)) = (6 : Int32) then ((q1 <<< ((32 : Int32) &&& 0x3f).toInt64) ||| (1 : Int64)) else ((q1 <<< ((32 : Int32) &&& 0x3f).toInt64) ||| (2 : Int64)))))))))
def Q1 (Z : State) (q1 : Int64) (p2 : Int32) (h0 : Heap) (n0 : Nat) (v : Option Value) (h : Heap) (L : List Loc) : Prop := v = some (.long (f1 q1 p2)) ∧ Fr n0 L ∧ h = h0
theorem ef1 (m : MethodId) (x0 : Int64) (x1 : Int32) : entryFrame m #[(.long x0), (.int x1)] 4 = mkF m 0 #[.val (.long x0), .second, .val (.int x1), .unset] [] := by first | (simp [entryFrame, mkF, argsToLocals, Value.category]; done) | rfl
set_option maxRecDepth 65536 in
set_option maxHeartbeats 16000000 in
theorem rm1 (l : Launch) (Z : State) (a0 : Array Value) (hw : ∀ d ∈ tables_1, d.before a0 Z = true) (ws : List Jvm.Cond) (q1 : Int64) (p2 : Int32) (h0 : Heap) (n0 : Nat) (Z0 : n0 ≤ h0.size) :
    MetFree l (⟨"com/example/gloom/gloom/io/FilterKindFromCodePinLaw", "pick", "(JI)J"⟩ : MethodName) (head1 (Jvm.Cond.code (⟨"com/example/gloom/gloom/io/FilterKindFromCodePinLaw", "pick", "(JI)J"⟩ : MethodName) method_2_code 4 (some .long) :: ws) ({ frames := 0, cells := 0, slots := 0, locals := 0 } : Room)) (fun a U => a = #[(.long q1), (.int p2)] ∧ Z.Warmed39 U.vm ∧ U.heap = h0) (fun _ _ _ _ _ => True) (fun _ U o U' => ∃ v L, o = .returned v ∧ Q1 Z q1 p2 h0 n0 v U'.heap L ∧ FrameEnd U o U' L ({ frames := 0, cells := 0, slots := 0, locals := 0 } : Room).cells ({ frames := 0, cells := 0, slots := 0, locals := 0 } : Room).slots) := by
  refine MetFree.of_bodySF (plainFor_of_name pn1) hisR ?_
  intro p e s m args below meth c s₁ Bd hml0 hP hK
  obtain ⟨rfl, hZ, hh⟩ := hP
  have hx := Bd.exec
  have hby := Bd.bytes
  have hml : c.maxLocals = 4 := hml0
  have hown : s.vm.findClass "com/example/gloom/gloom/io/FilterKindFromCodePinLaw" = some m.cls := findClass_of_methodNamed Bd.named
  have hnm := (name_of_methodNamed Bd.named Bd.method).1
  have X0 : Stand p l e ({ frames := 0, cells := 0, slots := 0, locals := 0 } : Room) s m #[(.long q1), (.int p2)] below meth c s₁ [] 0 0 := Stand.of_body Bd
  have e0 : s₁.heap = h0 := by rw [← hh, Bd.state]; rfl
  have N0 := Fr.nil n0
  have K0 : Keep h0 h0 [] := Keep.refl h0 _
  refine Go.st (P := fun o U' => ∃ v L, o = .returned v ∧ Q1 Z q1 p2 h0 n0 v U'.heap L ∧ FrameEnd s o U' L ({ frames := 0, cells := 0, slots := 0, locals := 0 } : Room).cells ({ frames := 0, cells := 0, slots := 0, locals := 0 } : Room).slots) (fun t k => castTop (ef1 m q1 p2) k) ?_
  show Go _ _ _ (s₁.setTop (mkF m 0 #[.val (.long q1), .second, .val (.int p2), .unset] [])) _
  refine Go.st (fun t k => XS.iloadN X0.here hx rfl (hb hby d1_0) rfl k) ?_
  refine Go.st (fun t k => XS.bipush X0.here hx rfl (hb hby d1_1) k) ?_
  refine Go.st (fun t k => XS.iand X0.here hx rfl (hb hby d1_3) rfl k) ?_
  show Go _ _ _ (s₁.setTop (mkF m 4 #[.val (.long q1), .second, .val (.int p2), .unset] [(.int (p2 &&& (7 : Int32)))])) _
  refine Go.st (fun t k => XS.istoreN X0.here hx rfl (hb hby d1_4) rfl (l' := #[.val (.long q1), .second, .val (.int p2), .val (.int (p2 &&& (7 : Int32)))]) rfl k) ?_
  refine Go.st (fun t k => XS.iloadN X0.here hx rfl (hb hby d1_5) rfl k) ?_
  by_cases hc1 : (p2 &&& (7 : Int32)) = (0 : Int32)
  · refine Go.st (fun t k => XS.ifNo X0.here hx rfl (hb hby d1_6) rfl ((if0 _ _).trans (teq hc1).2) k) ?_
    show Go _ _ _ (s₁.setTop (mkF m 9 #[.val (.long q1), .second, .val (.int p2), .val (.int (p2 &&& (7 : Int32)))] [])) _
    refine Go.st (fun t k => XS.lloadN X0.here hx rfl (hb hby d1_9) rfl k) ?_
    obtain ⟨fs, hr, hrun, hended, hW, hsame⟩ := X0.leave (v := some (.long q1)) (fun h => by rw [Bd.returns] at h; cases h)
    refine Go.fin (retOut X0 hx Bd.returns rfl (Or.inr (Or.inl ⟨rfl, rfl, _, rfl⟩)) (hb hby d1_10) hr) hrun hended ⟨_, _, rfl, ?_, ⟨_, rfl⟩, hW, hsame.mono (by decide) (by decide)⟩
    show Q1 Z q1 p2 h0 n0 _ s₁.heap _
    rw [e0]
    exact ⟨(by unfold f1; simp only [if_pos hc1]), N0, rfl⟩
  · refine Go.st (fun t k => XS.ifYes X0.here hx rfl (pc0 := 6) (pc' := 11) rfl (hb hby d1_6) rfl ((if0 _ _).trans (feq hc1).2) (by decide) (by decide) k) ?_
    show Go _ _ _ (s₁.setTop (mkF m 11 #[.val (.long q1), .second, .val (.int p2), .val (.int (p2 &&& (7 : Int32)))] [])) _
    refine Go.st (fun t k => XS.iloadN X0.here hx rfl (hb hby d1_11) rfl k) ?_
    refine Go.st (fun t k => XS.iconst X0.here hx rfl (hb hby d1_12) k) ?_
    by_cases hc2 : (p2 &&& (7 : Int32)) = (1 : Int32)
    · refine Go.st (fun t k => XS.icmpNo X0.here hx rfl (hb hby d1_13) rfl (teq hc2).2 k) ?_
      show Go _ _ _ (s₁.setTop (mkF m 16 #[.val (.long q1), .second, .val (.int p2), .val (.int (p2 &&& (7 : Int32)))] [])) _
      refine Go.st (fun t k => XS.lconst X0.here hx rfl (hb hby d1_16) k) ?_
      obtain ⟨fs, hr, hrun, hended, hW, hsame⟩ := X0.leave (v := some (.long (1 : Int64))) (fun h => by rw [Bd.returns] at h; cases h)
      refine Go.fin (retOut X0 hx Bd.returns rfl (Or.inr (Or.inl ⟨rfl, rfl, _, rfl⟩)) (hb hby d1_17) hr) hrun hended ⟨_, _, rfl, ?_, ⟨_, rfl⟩, hW, hsame.mono (by decide) (by decide)⟩
      show Q1 Z q1 p2 h0 n0 _ s₁.heap _
      rw [e0]
      exact ⟨(by unfold f1; simp only [if_neg hc1, if_pos hc2]), N0, rfl⟩
    · refine Go.st (fun t k => XS.icmpYes X0.here hx rfl (pc0 := 13) (pc' := 18) rfl (hb hby d1_13) rfl (feq hc2).2 (by decide) (by decide) k) ?_
      show Go _ _ _ (s₁.setTop (mkF m 18 #[.val (.long q1), .second, .val (.int p2), .val (.int (p2 &&& (7 : Int32)))] [])) _
      refine Go.st (fun t k => XS.iloadN X0.here hx rfl (hb hby d1_18) rfl k) ?_
      refine Go.st (fun t k => XS.iconst X0.here hx rfl (hb hby d1_19) k) ?_
      by_cases hc3 : (p2 &&& (7 : Int32)) = (2 : Int32)
      · refine Go.st (fun t k => XS.icmpNo X0.here hx rfl (hb hby d1_20) rfl (teq hc3).2 k) ?_
        show Go _ _ _ (s₁.setTop (mkF m 23 #[.val (.long q1), .second, .val (.int p2), .val (.int (p2 &&& (7 : Int32)))] [])) _
        refine Go.st (fun t k => X0.ldc2Long hx hown (mvT hZ (wd4 hw)) (g := (mkF m 23 #[.val (.long q1), .second, .val (.int p2), .val (.int (p2 &&& (7 : Int32)))] [])) rfl (hb hby d1_23) _ k) ?_
        show Go _ _ _ (s₁.setTop (mkF m 26 #[.val (.long q1), .second, .val (.int p2), .val (.int (p2 &&& (7 : Int32)))] [(.long 2)])) _
        obtain ⟨fs, hr, hrun, hended, hW, hsame⟩ := X0.leave (v := some (.long (2 : Int64))) (fun h => by rw [Bd.returns] at h; cases h)
        refine Go.fin (retOut X0 hx Bd.returns rfl (Or.inr (Or.inl ⟨rfl, rfl, _, rfl⟩)) (hb hby d1_26) hr) hrun hended ⟨_, _, rfl, ?_, ⟨_, rfl⟩, hW, hsame.mono (by decide) (by decide)⟩
        show Q1 Z q1 p2 h0 n0 _ s₁.heap _
        rw [e0]
        exact ⟨(by unfold f1; simp only [if_neg hc1, if_neg hc2, if_pos hc3]), N0, rfl⟩
      · refine Go.st (fun t k => XS.icmpYes X0.here hx rfl (pc0 := 20) (pc' := 27) rfl (hb hby d1_20) rfl (feq hc3).2 (by decide) (by decide) k) ?_
        show Go _ _ _ (s₁.setTop (mkF m 27 #[.val (.long q1), .second, .val (.int p2), .val (.int (p2 &&& (7 : Int32)))] [])) _
        refine Go.st (fun t k => XS.iloadN X0.here hx rfl (hb hby d1_27) rfl k) ?_
        refine Go.st (fun t k => XS.iconst X0.here hx rfl (hb hby d1_28) k) ?_
        by_cases hc4 : (p2 &&& (7 : Int32)) = (3 : Int32)
        · refine Go.st (fun t k => XS.icmpNo X0.here hx rfl (hb hby d1_29) rfl (teq hc4).2 k) ?_
          show Go _ _ _ (s₁.setTop (mkF m 32 #[.val (.long q1), .second, .val (.int p2), .val (.int (p2 &&& (7 : Int32)))] [])) _
          refine Go.st (fun t k => XS.lconst X0.here hx rfl (hb hby d1_32) k) ?_
          obtain ⟨fs, hr, hrun, hended, hW, hsame⟩ := X0.leave (v := some (.long (0 : Int64))) (fun h => by rw [Bd.returns] at h; cases h)
          refine Go.fin (retOut X0 hx Bd.returns rfl (Or.inr (Or.inl ⟨rfl, rfl, _, rfl⟩)) (hb hby d1_33) hr) hrun hended ⟨_, _, rfl, ?_, ⟨_, rfl⟩, hW, hsame.mono (by decide) (by decide)⟩
          show Q1 Z q1 p2 h0 n0 _ s₁.heap _
          rw [e0]
          exact ⟨(by unfold f1; simp only [if_neg hc1, if_neg hc2, if_neg hc3, if_pos hc4]), N0, rfl⟩
        · refine Go.st (fun t k => XS.icmpYes X0.here hx rfl (pc0 := 29) (pc' := 34) rfl (hb hby d1_29) rfl (feq hc4).2 (by decide) (by decide) k) ?_
          show Go _ _ _ (s₁.setTop (mkF m 34 #[.val (.long q1), .second, .val (.int p2), .val (.int (p2 &&& (7 : Int32)))] [])) _
          refine Go.st (fun t k => XS.iloadN X0.here hx rfl (hb hby d1_34) rfl k) ?_
          refine Go.st (fun t k => XS.iconst X0.here hx rfl (hb hby d1_35) k) ?_
          by_cases hc5 : (p2 &&& (7 : Int32)) = (4 : Int32)
          · refine Go.st (fun t k => XS.icmpNo X0.here hx rfl (hb hby d1_36) rfl (teq hc5).2 k) ?_
            show Go _ _ _ (s₁.setTop (mkF m 39 #[.val (.long q1), .second, .val (.int p2), .val (.int (p2 &&& (7 : Int32)))] [])) _
            refine Go.st (fun t k => X0.ldc2Long hx hown (mvT hZ (wd34 hw)) (g := (mkF m 39 #[.val (.long q1), .second, .val (.int p2), .val (.int (p2 &&& (7 : Int32)))] [])) rfl (hb hby d1_39) _ k) ?_
            show Go _ _ _ (s₁.setTop (mkF m 42 #[.val (.long q1), .second, .val (.int p2), .val (.int (p2 &&& (7 : Int32)))] [(.long 3)])) _
            obtain ⟨fs, hr, hrun, hended, hW, hsame⟩ := X0.leave (v := some (.long (3 : Int64))) (fun h => by rw [Bd.returns] at h; cases h)
            refine Go.fin (retOut X0 hx Bd.returns rfl (Or.inr (Or.inl ⟨rfl, rfl, _, rfl⟩)) (hb hby d1_42) hr) hrun hended ⟨_, _, rfl, ?_, ⟨_, rfl⟩, hW, hsame.mono (by decide) (by decide)⟩
            show Q1 Z q1 p2 h0 n0 _ s₁.heap _
            rw [e0]
            exact ⟨(by unfold f1; simp only [if_neg hc1, if_neg hc2, if_neg hc3, if_neg hc4, if_pos hc5]), N0, rfl⟩
          · refine Go.st (fun t k => XS.icmpYes X0.here hx rfl (pc0 := 36) (pc' := 43) rfl (hb hby d1_36) rfl (feq hc5).2 (by decide) (by decide) k) ?_
            show Go _ _ _ (s₁.setTop (mkF m 43 #[.val (.long q1), .second, .val (.int p2), .val (.int (p2 &&& (7 : Int32)))] [])) _
            refine Go.st (fun t k => XS.iloadN X0.here hx rfl (hb hby d1_43) rfl k) ?_
            refine Go.st (fun t k => XS.iconst X0.here hx rfl (hb hby d1_44) k) ?_
            by_cases hc6 : (p2 &&& (7 : Int32)) = (5 : Int32)
            · refine Go.st (fun t k => XS.icmpNo X0.here hx rfl (hb hby d1_45) rfl (teq hc6).2 k) ?_
              show Go _ _ _ (s₁.setTop (mkF m 48 #[.val (.long q1), .second, .val (.int p2), .val (.int (p2 &&& (7 : Int32)))] [])) _
              refine Go.st (fun t k => XS.lloadN X0.here hx rfl (hb hby d1_48) rfl k) ?_
              refine Go.st (fun t k => XS.lneg X0.here hx rfl (hb hby d1_49) rfl k) ?_
              show Go _ _ _ (s₁.setTop (mkF m 50 #[.val (.long q1), .second, .val (.int p2), .val (.int (p2 &&& (7 : Int32)))] [(.long (-q1))])) _
              obtain ⟨fs, hr, hrun, hended, hW, hsame⟩ := X0.leave (v := some (.long (-q1))) (fun h => by rw [Bd.returns] at h; cases h)
              refine Go.fin (retOut X0 hx Bd.returns rfl (Or.inr (Or.inl ⟨rfl, rfl, _, rfl⟩)) (hb hby d1_50) hr) hrun hended ⟨_, _, rfl, ?_, ⟨_, rfl⟩, hW, hsame.mono (by decide) (by decide)⟩
              show Q1 Z q1 p2 h0 n0 _ s₁.heap _
              rw [e0]
              exact ⟨(by unfold f1; simp only [if_neg hc1, if_neg hc2, if_neg hc3, if_neg hc4, if_neg hc5, if_pos hc6]), N0, rfl⟩
            · refine Go.st (fun t k => XS.icmpYes X0.here hx rfl (pc0 := 45) (pc' := 51) rfl (hb hby d1_45) rfl (feq hc6).2 (by decide) (by decide) k) ?_
              show Go _ _ _ (s₁.setTop (mkF m 51 #[.val (.long q1), .second, .val (.int p2), .val (.int (p2 &&& (7 : Int32)))] [])) _
              refine Go.st (fun t k => XS.iloadN X0.here hx rfl (hb hby d1_51) rfl k) ?_
              refine Go.st (fun t k => XS.bipush X0.here hx rfl (hb hby d1_52) k) ?_
              by_cases hc7 : (p2 &&& (7 : Int32)) = (6 : Int32)
              · refine Go.st (fun t k => XS.icmpNo X0.here hx rfl (hb hby d1_54) rfl (teq hc7).2 k) ?_
                show Go _ _ _ (s₁.setTop (mkF m 57 #[.val (.long q1), .second, .val (.int p2), .val (.int (p2 &&& (7 : Int32)))] [])) _
                refine Go.st (fun t k => XS.lloadN X0.here hx rfl (hb hby d1_57) rfl k) ?_
                refine Go.st (fun t k => XS.bipush X0.here hx rfl (hb hby d1_58) k) ?_
                refine Go.st (fun t k => XS.lshl X0.here hx rfl (hb hby d1_60) rfl k) ?_
                show Go _ _ _ (s₁.setTop (mkF m 61 #[.val (.long q1), .second, .val (.int p2), .val (.int (p2 &&& (7 : Int32)))] [(.long (q1 <<< ((32 : Int32) &&& 0x3f).toInt64))])) _
                refine Go.st (fun t k => XS.lconst X0.here hx rfl (hb hby d1_61) k) ?_
                refine Go.st (fun t k => XS.lor X0.here hx rfl (hb hby d1_62) rfl k) ?_
                show Go _ _ _ (s₁.setTop (mkF m 63 #[.val (.long q1), .second, .val (.int p2), .val (.int (p2 &&& (7 : Int32)))] [(.long ((q1 <<< ((32 : Int32) &&& 0x3f).toInt64) ||| (1 : Int64)))])) _
                obtain ⟨fs, hr, hrun, hended, hW, hsame⟩ := X0.leave (v := some (.long ((q1 <<< ((32 : Int32) &&& 0x3f).toInt64) ||| (1 : Int64)))) (fun h => by rw [Bd.returns] at h; cases h)
                refine Go.fin (retOut X0 hx Bd.returns rfl (Or.inr (Or.inl ⟨rfl, rfl, _, rfl⟩)) (hb hby d1_63) hr) hrun hended ⟨_, _, rfl, ?_, ⟨_, rfl⟩, hW, hsame.mono (by decide) (by decide)⟩
                show Q1 Z q1 p2 h0 n0 _ s₁.heap _
                rw [e0]
                exact ⟨(by unfold f1; simp only [if_neg hc1, if_neg hc2, if_neg hc3, if_neg hc4, if_neg hc5, if_neg hc6, if_pos hc7]), N0, rfl⟩
              · refine Go.st (fun t k => XS.icmpYes X0.here hx rfl (pc0 := 54) (pc' := 64) rfl (hb hby d1_54) rfl (feq hc7).2 (by decide) (by decide) k) ?_
                show Go _ _ _ (s₁.setTop (mkF m 64 #[.val (.long q1), .second, .val (.int p2), .val (.int (p2 &&& (7 : Int32)))] [])) _
                refine Go.st (fun t k => XS.lloadN X0.here hx rfl (hb hby d1_64) rfl k) ?_
                refine Go.st (fun t k => XS.bipush X0.here hx rfl (hb hby d1_65) k) ?_
                refine Go.st (fun t k => XS.lshl X0.here hx rfl (hb hby d1_67) rfl k) ?_
                show Go _ _ _ (s₁.setTop (mkF m 68 #[.val (.long q1), .second, .val (.int p2), .val (.int (p2 &&& (7 : Int32)))] [(.long (q1 <<< ((32 : Int32) &&& 0x3f).toInt64))])) _
                refine Go.st (fun t k => X0.ldc2Long hx hown (mvT hZ (wd4 hw)) (g := (mkF m 68 #[.val (.long q1), .second, .val (.int p2), .val (.int (p2 &&& (7 : Int32)))] [(.long (q1 <<< ((32 : Int32) &&& 0x3f).toInt64))])) rfl (hb hby d1_68) _ k) ?_
                show Go _ _ _ (s₁.setTop (mkF m 71 #[.val (.long q1), .second, .val (.int p2), .val (.int (p2 &&& (7 : Int32)))] [(.long 2), (.long (q1 <<< ((32 : Int32) &&& 0x3f).toInt64))])) _
                refine Go.st (fun t k => XS.lor X0.here hx rfl (hb hby d1_71) rfl k) ?_
                show Go _ _ _ (s₁.setTop (mkF m 72 #[.val (.long q1), .second, .val (.int p2), .val (.int (p2 &&& (7 : Int32)))] [(.long ((q1 <<< ((32 : Int32) &&& 0x3f).toInt64) ||| (2 : Int64)))])) _
                obtain ⟨fs, hr, hrun, hended, hW, hsame⟩ := X0.leave (v := some (.long ((q1 <<< ((32 : Int32) &&& 0x3f).toInt64) ||| (2 : Int64)))) (fun h => by rw [Bd.returns] at h; cases h)
                refine Go.fin (retOut X0 hx Bd.returns rfl (Or.inr (Or.inl ⟨rfl, rfl, _, rfl⟩)) (hb hby d1_72) hr) hrun hended ⟨_, _, rfl, ?_, ⟨_, rfl⟩, hW, hsame.mono (by decide) (by decide)⟩
                show Q1 Z q1 p2 h0 n0 _ s₁.heap _
                rw [e0]
                exact ⟨(by unfold f1; simp only [if_neg hc1, if_neg hc2, if_neg hc3, if_neg hc4, if_neg hc5, if_neg hc6, if_neg hc7]), N0, rfl⟩
theorem wd0 {Z : State} {a0 : Array Value} (hw : ∀ d ∈ tables_1, d.before a0 Z = true) : (Jvm.Cond.methodLink "com/example/gloom/gloom/io/FilterKindFromCodePinLaw" (11 : Nat) ({ cls := "com/example/gloom/gloom/io/FilterKindFromCodePinLaw", name := "pick", desc := "(JI)J" } : Jvm.MethodName)).before a0 Z = true := hw _ (List.mem_of_getElem? (i := 0) rfl)
theorem wd3 {Z : State} {a0 : Array Value} (hw : ∀ d ∈ tables_1, d.before a0 Z = true) : (Jvm.Cond.code ({ cls := "com/example/gloom/gloom/io/FilterKindFromCodePinLaw", name := "pick", desc := "(JI)J" } : Jvm.MethodName) method_2_code (4 : Nat) (Option.some Jvm.ClassFile.FieldType.long)).before a0 Z = true := hw _ (List.mem_of_getElem? (i := 3) rfl)
theorem wd2 {Z : State} {a0 : Array Value} (hw : ∀ d ∈ tables_1, d.before a0 Z = true) : (Jvm.Cond.initialized "com/example/gloom/gloom/io/FilterKindFromCodePinLaw").before a0 Z = true := hw _ (List.mem_of_getElem? (i := 2) rfl)
theorem pd1 : parseMethodDescriptor "(JI)J" = some ⟨[.long, .int], some .long⟩ := by decide +kernel
theorem wd1 {Z : State} {a0 : Array Value} (hw : ∀ d ∈ tables_1, d.before a0 Z = true) : (Jvm.Cond.static ({ cls := "com/example/gloom/gloom/io/FilterKindFromCodePinLaw", name := "pick", desc := "(JI)J" } : Jvm.MethodName)).before a0 Z = true := hw _ (List.mem_of_getElem? (i := 1) rfl)
theorem wd35 {Z : State} {a0 : Array Value} (hw : ∀ d ∈ tables_1, d.before a0 Z = true) : (Jvm.Cond.fieldLink "com/example/gloom/gloom/io/FilterKindFromCodePinLaw" (17 : Nat) "com/example/gloom/gloom/io/FilterKind" "PLAIN" "Lcom/example/gloom/gloom/io/FilterKind;").before a0 Z = true := hw _ (List.mem_of_getElem? (i := 35) rfl)
theorem wd8 {Z : State} {a0 : Array Value} (hw : ∀ d ∈ tables_1, d.before a0 Z = true) : (Jvm.Cond.methodLink "com/example/gloom/gloom/io/FilterKindFromCodePinLaw" (26 : Nat) ({ cls := "com/example/gloom/gloom/io/FilterKind", name := "fromCode", desc := "(J)Lcom/example/gloom/gloom/io/FilterKind;" } : Jvm.MethodName)).before a0 Z = true := hw _ (List.mem_of_getElem? (i := 8) rfl)
theorem wd10 {Z : State} {a0 : Array Value} (hw : ∀ d ∈ tables_1, d.before a0 Z = true) : (Jvm.Cond.code ({ cls := "com/example/gloom/gloom/io/FilterKind", name := "fromCode", desc := "(J)Lcom/example/gloom/gloom/io/FilterKind;" } : Jvm.MethodName) prog_21_method_8_code (6 : Nat) (Option.some (Jvm.ClassFile.FieldType.object "com/example/gloom/gloom/io/FilterKind"))).before a0 Z = true := hw _ (List.mem_of_getElem? (i := 10) rfl)
theorem pd2 : parseMethodDescriptor "(J)Lcom/example/gloom/gloom/io/FilterKind;" = some ⟨[.long], some (.object "com/example/gloom/gloom/io/FilterKind")⟩ := by decide +kernel
theorem wd9 {Z : State} {a0 : Array Value} (hw : ∀ d ∈ tables_1, d.before a0 Z = true) : (Jvm.Cond.static ({ cls := "com/example/gloom/gloom/io/FilterKind", name := "fromCode", desc := "(J)Lcom/example/gloom/gloom/io/FilterKind;" } : Jvm.MethodName)).before a0 Z = true := hw _ (List.mem_of_getElem? (i := 9) rfl)
theorem wd29 {Z : State} {a0 : Array Value} (hw : ∀ d ∈ tables_1, d.before a0 Z = true) : (Jvm.Cond.methodLink "com/example/gloom/gloom/io/FilterKindFromCodePinLaw" (30 : Nat) ({ cls := "com/example/gloom/gloom/io/FilterKind", name := "getCode", desc := "()I" } : Jvm.MethodName)).before a0 Z = true := hw _ (List.mem_of_getElem? (i := 29) rfl)
theorem wd33 {Z : State} {a0 : Array Value} (hw : ∀ d ∈ tables_1, d.before a0 Z = true) : (Jvm.Cond.code ({ cls := "com/example/gloom/gloom/io/FilterKind", name := "getCode", desc := "()I" } : Jvm.MethodName) prog_21_method_4_code (1 : Nat) (Option.some Jvm.ClassFile.FieldType.int)).before a0 Z = true := hw _ (List.mem_of_getElem? (i := 33) rfl)
theorem pd3 : parseMethodDescriptor "()I" = some ⟨[], some .int⟩ := by decide +kernel
theorem wd32 {Z : State} {a0 : Array Value} (hw : ∀ d ∈ tables_1, d.before a0 Z = true) : (Jvm.Cond.selects "com/example/gloom/gloom/io/FilterKind" ({ cls := "com/example/gloom/gloom/io/FilterKind", name := "getCode", desc := "()I" } : Jvm.MethodName) ({ cls := "com/example/gloom/gloom/io/FilterKind", name := "getCode", desc := "()I" } : Jvm.MethodName)).before a0 Z = true := hw _ (List.mem_of_getElem? (i := 32) rfl)
theorem wd30 {Z : State} {a0 : Array Value} (hw : ∀ d ∈ tables_1, d.before a0 Z = true) : (Jvm.Cond.declares ({ cls := "com/example/gloom/gloom/io/FilterKind", name := "getCode", desc := "()I" } : Jvm.MethodName)).before a0 Z = true := hw _ (List.mem_of_getElem? (i := 30) rfl)
theorem wd31 {Z : State} {a0 : Array Value} (hw : ∀ d ∈ tables_1, d.before a0 Z = true) : (Jvm.Cond.instanceMethod ({ cls := "com/example/gloom/gloom/io/FilterKind", name := "getCode", desc := "()I" } : Jvm.MethodName)).before a0 Z = true := hw _ (List.mem_of_getElem? (i := 31) rfl)
theorem wd5 {Z : State} {a0 : Array Value} (hw : ∀ d ∈ tables_1, d.before a0 Z = true) : (Jvm.Cond.fieldLink "com/example/gloom/gloom/io/FilterKindFromCodePinLaw" (23 : Nat) "com/example/gloom/gloom/io/FilterKind" "COUNTING" "Lcom/example/gloom/gloom/io/FilterKind;").before a0 Z = true := hw _ (List.mem_of_getElem? (i := 5) rfl)
def Q0 (Z : State) (q1 : Int64) (p2 : Int32) (w__VALUES : Addr) (k_v : ClassId) (w_PLAIN : Addr) (w_COUNTING : Addr) (h0 : Heap) (n0 : Nat) (v : Option Value) (h : Heap) (L : List Loc) : Prop := v = some (.int (1 : Int32)) ∧ Fr n0 L
theorem ef0 (m : MethodId) (x0 : Int64) (x1 : Int32) : entryFrame m #[(.long x0), (.int x1)] maxLocals = mkF m 0 #[.val (.long x0), .second, .val (.int x1), .unset, .unset, .unset, .unset] [] := by first | (simp [entryFrame, mkF, argsToLocals, Value.category, maxLocals]; done) | rfl
set_option maxRecDepth 65536 in
set_option maxHeartbeats 16000000 in
theorem rm0 (l : Launch) (Z : State) (a0 : Array Value) (hw : ∀ d ∈ tables_1, d.before a0 Z = true) (ws : List Jvm.Cond) (q1 : Int64) (p2 : Int32) (w__VALUES : Addr) (k_v : ClassId) (w_PLAIN : Addr) (w_COUNTING : Addr) (h0 : Heap) (n0 : Nat) (Z0 : n0 ≤ h0.size) (S__VALUES : Sta Z h0 "com/example/gloom/gloom/io/FilterKind" "$VALUES" "[Lcom/example/gloom/gloom/io/FilterKind;" (.ref w__VALUES)) (E_VALS : Exa Z h0 w__VALUES "[Lcom/example/gloom/gloom/io/FilterKind;") (V_VALS : Arv Z h0 w__VALUES k_v (.object "com/example/gloom/gloom/io/FilterKind") (2 : Int32) [(.ref w_PLAIN), (.ref w_COUNTING)] .null) (E_w_PLAIN : Exa Z h0 w_PLAIN "com/example/gloom/gloom/io/FilterKind") (F_w_PLAIN_code : Fld Z h0 w_PLAIN "com/example/gloom/gloom/io/FilterKind" "code" "I" (.int (1 : Int32))) (E_w_COUNTING : Exa Z h0 w_COUNTING "com/example/gloom/gloom/io/FilterKind") (F_w_COUNTING_code : Fld Z h0 w_COUNTING "com/example/gloom/gloom/io/FilterKind" "code" "I" (.int (2 : Int32))) (S_PLAIN : Sta Z h0 "com/example/gloom/gloom/io/FilterKind" "PLAIN" "Lcom/example/gloom/gloom/io/FilterKind;" (.ref w_PLAIN)) (S_COUNTING : Sta Z h0 "com/example/gloom/gloom/io/FilterKind" "COUNTING" "Lcom/example/gloom/gloom/io/FilterKind;" (.ref w_COUNTING)) :
    MetFree l x (head1 (Jvm.Cond.code x code maxLocals ret :: ws) room_1) (fun a U => a = #[(.long q1), (.int p2)] ∧ Z.Warmed39 U.vm ∧ U.heap = h0) (fun _ _ _ _ _ => True) (fun _ U o U' => ∃ v L, o = .returned v ∧ Q0 Z q1 p2 w__VALUES k_v w_PLAIN w_COUNTING h0 n0 v U'.heap L ∧ FrameEnd U o U' L 16 128) := by
  refine MetFree.of_bodySF (plainFor_of_name pn1) hisR ?_
  intro p e s m args below meth c s₁ Bd hml0 hP hK
  obtain ⟨rfl, hZ, hh⟩ := hP
  have hx := Bd.exec
  have hby := Bd.bytes
  have hml : c.maxLocals = 7 := hml0
  have hown : s.vm.findClass "com/example/gloom/gloom/io/FilterKindFromCodePinLaw" = some m.cls := findClass_of_methodNamed Bd.named
  have hnm := (name_of_methodNamed Bd.named Bd.method).1
  have X0 : Stand p l e room_1 s m #[(.long q1), (.int p2)] below meth c s₁ [] 0 0 := Stand.of_body Bd
  have e0 : s₁.heap = h0 := by rw [← hh, Bd.state]; rfl
  have N0 := Fr.nil n0
  have K0 : Keep h0 h0 [] := Keep.refl h0 _
  refine Go.st (P := fun o U' => ∃ v L, o = .returned v ∧ Q0 Z q1 p2 w__VALUES k_v w_PLAIN w_COUNTING h0 n0 v U'.heap L ∧ FrameEnd s o U' L 16 128) (fun t k => castTop (ef0 m q1 p2) k) ?_
  show Go _ _ _ (s₁.setTop (mkF m 0 #[.val (.long q1), .second, .val (.int p2), .unset, .unset, .unset, .unset] [])) _
  refine Go.st (fun t k => XS.lloadN X0.here hx rfl (hb hby at_0) rfl k) ?_
  refine Go.st (fun t k => XS.iloadN X0.here hx rfl (hb hby at_1) rfl k) ?_
  obtain ⟨_, _, ⟨T1, L1, k1, n1⟩, -, X1, ⟨Lc1, hQ1, l1, y1, z1⟩, st1⟩ := Jvm.LawKit.callS X0 hx (y := (⟨"com/example/gloom/gloom/io/FilterKindFromCodePinLaw", "pick", "(JI)J"⟩ : MethodName)) hown (mvT hZ (wd0 hw)) (mvT hZ (wd1 hw)) (mvT hZ (wd2 hw)) (mvT hZ (wd3 hw)) (by decide) (backOf (W := 0) (rm1 l Z a0 hw [] q1 p2 h0 n0 Z0) hZ (wd3 hw) (wd2 hw) (by decide) (by decide)) (g := (mkF m 2 #[.val (.long q1), .second, .val (.int p2), .unset, .unset, .unset, .unset] [(.int p2), (.long q1)])) rfl (by rw [hml]; rfl) (argsL := [(.long q1), (.int p2)]) (rest := []) (lenOf pd1 rfl) rfl (by show 2 * 0 + _ ≤ _; exact Nat.le_of_eq rfl) (hb hby at_2) (fun _ _ => ⟨rfl, e0, (by decide : 0 + 0 ≤ _), (by decide : 0 + 0 ≤ _)⟩)
  dsimp only [Pt.U, Pt.locs, Pt.cells, Pt.slots] at X1 l1 y1 z1 st1 hQ1
  subst l1 y1 z1
  refine Go.st st1 ?_
  obtain ⟨rfl, N1q, e1⟩ := hQ1
  have N1 := Fr.app N0 N1q
  show Go _ _ _ (T1.setTop (mkF m 5 #[.val (.long q1), .second, .val (.int p2), .unset, .unset, .unset, .unset] [(.long (f1 q1 p2))])) _
  by_cases hc2 : (p2 &&& (7 : Int32)) = (0 : Int32)
  · rw [show (f1 q1 p2) = q1 from by unfold f1; simp only [if_pos hc2, if_true, if_false]]
    show Go _ _ _ (T1.setTop (mkF m 5 #[.val (.long q1), .second, .val (.int p2), .unset, .unset, .unset, .unset] [(.long q1)])) _
    refine Go.st (fun t k => XS.lstoreN X1.here hx rfl (hb hby at_5) rfl (l' := #[.val (.long q1), .second, .val (.int p2), .val (.long q1), .second, .unset, .unset]) rfl k) ?_
    refine Go.st (fun t k => XS.lloadN X1.here hx rfl (hb hby at_6) rfl k) ?_
    refine Go.st (fun t k => XS.lconst X1.here hx rfl (hb hby at_7) k) ?_
    refine Go.st (fun t k => XS.lcmp X1.here hx rfl (hb hby at_8) rfl k) ?_
    show Go _ _ _ (T1.setTop (mkF m 9 #[.val (.long q1), .second, .val (.int p2), .val (.long q1), .second, .unset, .unset] [(.int (lcmpW q1 (1 : Int64)))])) _
    by_cases hc3 : q1 = (1 : Int64)
    · refine Go.st (fun t k => XS.ifNo X1.here hx rfl (hb hby at_9) rfl ((if0 _ _).trans (teq ((lw_eq q1 (1 : Int64)).mpr hc3)).2) k) ?_
      show Go _ _ _ (T1.setTop (mkF m 12 #[.val (.long q1), .second, .val (.int p2), .val (.long q1), .second, .unset, .unset] [])) _
      obtain ⟨T4, X4, e4, st4⟩ := getS2 X1 hx hZ hown (host := "") (Or.inl (wd35 hw)) Via.refl e1 S_PLAIN (g := (mkF m 12 #[.val (.long q1), .second, .val (.int p2), .val (.long q1), .second, .unset, .unset] [])) rfl (hb hby at_12)
      refine Go.st st4 ?_
      show Go _ _ _ (T4.setTop (mkF m 15 #[.val (.long q1), .second, .val (.int p2), .val (.long q1), .second, .unset, .unset] [(.ref w_PLAIN)])) _
      refine Go.st (fun t k => XS.astore X4.here hx rfl (hb hby at_15) rfl rfl (l' := #[.val (.long q1), .second, .val (.int p2), .val (.long q1), .second, .val (.ref w_PLAIN), .unset]) rfl k) ?_
      refine Go.st (fun t k => XS.goto X4.here hx rfl (pc0 := 17) (pc' := 39) rfl (hb hby at_17) (by decide) (by decide) k) ?_
      refine Go.st (fun t k => XS.lloadN X4.here hx rfl (hb hby at_39) rfl k) ?_
      obtain ⟨_, _, ⟨T5, L5, k5, n5⟩, -, X5, ⟨Lc5, hQ5, l5, y5, z5⟩, st5⟩ := Jvm.LawKit.callS X4 hx (y := (⟨"com/example/gloom/gloom/io/FilterKind", "fromCode", "(J)Lcom/example/gloom/gloom/io/FilterKind;"⟩ : MethodName)) hown (mvT hZ (wd8 hw)) (mvT hZ (wd9 hw)) (mvT hZ (wd6 hw)) (mvT hZ (wd10 hw)) (by decide) (backOf (W := 0) (rm2 l Z a0 hw [] q1 w__VALUES k_v w_PLAIN w_COUNTING h0 n0 Z0 S__VALUES E_VALS V_VALS E_w_PLAIN F_w_PLAIN_code E_w_COUNTING F_w_COUNTING_code) hZ (wd10 hw) (wd6 hw) (by decide) (by decide)) (g := (mkF m 40 #[.val (.long q1), .second, .val (.int p2), .val (.long q1), .second, .val (.ref w_PLAIN), .unset] [(.long q1)])) rfl (by rw [hml]; rfl) (argsL := [(.long q1)]) (rest := []) (lenOf pd2 rfl) rfl (by show 2 * 0 + _ ≤ _; exact Nat.le_of_eq rfl) (hb hby at_40) (fun _ _ => ⟨rfl, e4, (by decide : 0 + 1 ≤ _), (by decide : 0 + 2 ≤ _)⟩)
      dsimp only [Pt.U, Pt.locs, Pt.cells, Pt.slots] at X5 l5 y5 z5 st5 hQ5
      subst l5 y5 z5
      refine Go.st st5 ?_
      obtain ⟨h5, e5⟩ : ∃ z, T5.heap = z := ⟨_, rfl⟩
      rw [e5] at hQ5
      obtain ⟨rfl, N5q, K5⟩ := hQ5
      replace S__VALUES := sta_keep S__VALUES K5 all0
      replace E_VALS := E_VALS.keep K5
      replace V_VALS := V_VALS.keep K5 nin0
      replace E_w_PLAIN := E_w_PLAIN.keep K5
      replace F_w_PLAIN_code := F_w_PLAIN_code.keep K5 nin0
      replace E_w_COUNTING := E_w_COUNTING.keep K5
      replace F_w_COUNTING_code := F_w_COUNTING_code.keep K5 nin0
      replace S_PLAIN := sta_keep S_PLAIN K5 all0
      replace S_COUNTING := sta_keep S_COUNTING K5 all0
      replace Z0 := Nat.le_trans Z0 K5.1
      replace K0 := K0.trans K5 all0
      have N5 := Fr.app N1 N5q
      show Go _ _ _ (T5.setTop (mkF m 43 #[.val (.long q1), .second, .val (.int p2), .val (.long q1), .second, .val (.ref w_PLAIN), .unset] [(f2 q1 w_PLAIN w_COUNTING)])) _
      rw [show (f2 q1 w_PLAIN w_COUNTING) = ((.ref w_PLAIN) : Value) from by unfold f2; simp only [if_pos (Eq.symm hc3), if_true, if_false]]
      show Go _ _ _ (T5.setTop (mkF m 43 #[.val (.long q1), .second, .val (.int p2), .val (.long q1), .second, .val (.ref w_PLAIN), .unset] [(.ref w_PLAIN)])) _
      refine Go.st (fun t k => XS.astore X5.here hx rfl (hb hby at_43) rfl rfl (l' := #[.val (.long q1), .second, .val (.int p2), .val (.long q1), .second, .val (.ref w_PLAIN), .val (.ref w_PLAIN)]) rfl k) ?_
      refine Go.st (fun t k => XS.aload X5.here hx rfl (hb hby at_45) rfl rfl k) ?_
      refine Go.st (fun t k => XS.aload X5.here hx rfl (hb hby at_47) rfl rfl k) ?_
      refine Go.st (fun t k => Jvm.RoadKit.acmp (g := (mkF m 49 #[.val (.long q1), .second, .val (.int p2), .val (.long q1), .second, .val (.ref w_PLAIN), .val (.ref w_PLAIN)] [(.ref w_PLAIN), (.ref w_PLAIN)])) X5 hx rfl rfl rfl (pc0 := 49) (pc' := 54) (same := true) rfl (hb hby at_49) rfl (decide_eq_true rfl) (by decide) (by decide) k) ?_
      show Go _ _ _ (T5.setTop (mkF m 54 #[.val (.long q1), .second, .val (.int p2), .val (.long q1), .second, .val (.ref w_PLAIN), .val (.ref w_PLAIN)] [])) _
      refine Go.st (fun t k => XS.aload X5.here hx rfl (hb hby at_54) rfl rfl k) ?_
      refine Go.st (fun t k => XS.ifnullNo X5.here hx rfl (hb hby at_56) rfl k) ?_
      show Go _ _ _ (T5.setTop (mkF m 59 #[.val (.long q1), .second, .val (.int p2), .val (.long q1), .second, .val (.ref w_PLAIN), .val (.ref w_PLAIN)] [])) _
      refine Go.st (fun t k => XS.aload X5.here hx rfl (hb hby at_59) rfl rfl k) ?_
      obtain ⟨cq6, kq6, q6a, q6b, q6c⟩ := isOf hZ e5 E_w_PLAIN
      obtain ⟨_, _, ⟨T6, L6, k6, n6⟩, -, X6, ⟨Lc6, hQ6, l6, y6, z6⟩, st6⟩ := X5.virtualBack hx (y := (⟨"com/example/gloom/gloom/io/FilterKind", "getCode", "()I"⟩ : MethodName)) (z := (⟨"com/example/gloom/gloom/io/FilterKind", "getCode", "()I"⟩ : MethodName)) hown (mvT hZ (wd29 hw)) (mvT hZ (wd30 hw)) (notFace_of_selects (args := #[]) (mvT hZ (wd32 hw))) (mvT hZ (wd32 hw)) (mvT hZ (wd31 hw)) (by decide) (backOf (W := 0) (rm4 l Z a0 hw [] w_PLAIN (1 : Int32) h5 n0 Z0 F_w_PLAIN_code) hZ (wd33 hw) (wd6 hw) (by decide) (by decide)) q6a q6c (g := (mkF m 61 #[.val (.long q1), .second, .val (.int p2), .val (.long q1), .second, .val (.ref w_PLAIN), .val (.ref w_PLAIN)] [(.ref w_PLAIN)])) rfl (by rw [hml]; rfl) (Steps.refl _) (argsL := []) (rest := []) (lenOf pd3 rfl) rfl (by show 2 * 0 + _ ≤ _; exact Nat.le_of_eq rfl) (hb hby at_61) (fun _ _ => ⟨rfl, e5, (by decide : 1 + 0 ≤ _), (by decide : 2 + 0 ≤ _)⟩)
      dsimp only [Pt.U, Pt.locs, Pt.cells, Pt.slots] at X6 l6 y6 z6 st6 hQ6
      subst l6 y6 z6
      refine Go.tr st6 ?_
      obtain ⟨rfl, N6q, e6⟩ := hQ6
      have N6 := Fr.app N5 N6q
      show Go _ _ _ (T6.setTop (mkF m 64 #[.val (.long q1), .second, .val (.int p2), .val (.long q1), .second, .val (.ref w_PLAIN), .val (.ref w_PLAIN)] [(.int 1)])) _
      refine Go.st (fun t k => XS.i2l X6.here hx rfl (hb hby at_64) rfl k) ?_
      show Go _ _ _ (T6.setTop (mkF m 65 #[.val (.long q1), .second, .val (.int p2), .val (.long q1), .second, .val (.ref w_PLAIN), .val (.ref w_PLAIN)] [(.long 1)])) _
      refine Go.st (fun t k => XS.lloadN X6.here hx rfl (hb hby at_65) rfl k) ?_
      refine Go.st (fun t k => XS.lcmp X6.here hx rfl (hb hby at_66) rfl k) ?_
      show Go _ _ _ (T6.setTop (mkF m 67 #[.val (.long q1), .second, .val (.int p2), .val (.long q1), .second, .val (.ref w_PLAIN), .val (.ref w_PLAIN)] [(.int (lcmpW (1 : Int64) q1))])) _
      refine Go.st (fun t k => XS.ifYes X6.here hx rfl (pc0 := 67) (pc' := 72) rfl (hb hby at_67) rfl ((if0 _ _).trans (teq ((lw_eq (1 : Int64) q1).mpr (Eq.symm hc3))).1) (by decide) (by decide) k) ?_
      show Go _ _ _ (T6.setTop (mkF m 72 #[.val (.long q1), .second, .val (.int p2), .val (.long q1), .second, .val (.ref w_PLAIN), .val (.ref w_PLAIN)] [])) _
      refine Go.st (fun t k => XS.iconst X6.here hx rfl (hb hby at_72) k) ?_
      obtain ⟨fs, hr, hrun, hended, hW, hsame⟩ := X6.leave (v := some (.int (1 : Int32))) (fun h => by rw [Bd.returns] at h; cases h)
      refine Go.fin (retN X6 hx (t := .boolean) Bd.returns (by simp) (hb hby at_73) hr) hrun hended ⟨_, _, rfl, ?_, ⟨_, rfl⟩, hW, hsame.mono (by decide) (by decide)⟩
      show Q0 Z q1 p2 w__VALUES k_v w_PLAIN w_COUNTING h0 n0 _ T6.heap _
      rw [e6]
      exact ⟨rfl, N6⟩
    · refine Go.st (fun t k => XS.ifYes X1.here hx rfl (pc0 := 9) (pc' := 20) rfl (hb hby at_9) rfl ((if0 _ _).trans (feq (fun z => hc3 ((lw_eq q1 (1 : Int64)).mp z))).2) (by decide) (by decide) k) ?_
      show Go _ _ _ (T1.setTop (mkF m 20 #[.val (.long q1), .second, .val (.int p2), .val (.long q1), .second, .unset, .unset] [])) _
      refine Go.st (fun t k => XS.lloadN X1.here hx rfl (hb hby at_20) rfl k) ?_
      refine Go.st (fun t k => X1.ldc2Long hx hown (mvT hZ (wd4 hw)) (g := (mkF m 21 #[.val (.long q1), .second, .val (.int p2), .val (.long q1), .second, .unset, .unset] [(.long q1)])) rfl (hb hby at_21) _ k) ?_
      show Go _ _ _ (T1.setTop (mkF m 24 #[.val (.long q1), .second, .val (.int p2), .val (.long q1), .second, .unset, .unset] [(.long 2), (.long q1)])) _
      refine Go.st (fun t k => XS.lcmp X1.here hx rfl (hb hby at_24) rfl k) ?_
      show Go _ _ _ (T1.setTop (mkF m 25 #[.val (.long q1), .second, .val (.int p2), .val (.long q1), .second, .unset, .unset] [(.int (lcmpW q1 (2 : Int64)))])) _
      by_cases hc7 : q1 = (2 : Int64)
      · refine Go.st (fun t k => XS.ifNo X1.here hx rfl (hb hby at_25) rfl ((if0 _ _).trans (teq ((lw_eq q1 (2 : Int64)).mpr hc7)).2) k) ?_
        show Go _ _ _ (T1.setTop (mkF m 28 #[.val (.long q1), .second, .val (.int p2), .val (.long q1), .second, .unset, .unset] [])) _
        obtain ⟨T8, X8, e8, st8⟩ := getS2 X1 hx hZ hown (host := "") (Or.inl (wd5 hw)) Via.refl e1 S_COUNTING (g := (mkF m 28 #[.val (.long q1), .second, .val (.int p2), .val (.long q1), .second, .unset, .unset] [])) rfl (hb hby at_28)
        refine Go.st st8 ?_
        show Go _ _ _ (T8.setTop (mkF m 31 #[.val (.long q1), .second, .val (.int p2), .val (.long q1), .second, .unset, .unset] [(.ref w_COUNTING)])) _
        refine Go.st (fun t k => XS.astore X8.here hx rfl (hb hby at_31) rfl rfl (l' := #[.val (.long q1), .second, .val (.int p2), .val (.long q1), .second, .val (.ref w_COUNTING), .unset]) rfl k) ?_
        refine Go.st (fun t k => XS.goto X8.here hx rfl (pc0 := 33) (pc' := 39) rfl (hb hby at_33) (by decide) (by decide) k) ?_
        refine Go.st (fun t k => XS.lloadN X8.here hx rfl (hb hby at_39) rfl k) ?_
        obtain ⟨_, _, ⟨T9, L9, k9, n9⟩, -, X9, ⟨Lc9, hQ9, l9, y9, z9⟩, st9⟩ := Jvm.LawKit.callS X8 hx (y := (⟨"com/example/gloom/gloom/io/FilterKind", "fromCode", "(J)Lcom/example/gloom/gloom/io/FilterKind;"⟩ : MethodName)) hown (mvT hZ (wd8 hw)) (mvT hZ (wd9 hw)) (mvT hZ (wd6 hw)) (mvT hZ (wd10 hw)) (by decide) (backOf (W := 0) (rm2 l Z a0 hw [] q1 w__VALUES k_v w_PLAIN w_COUNTING h0 n0 Z0 S__VALUES E_VALS V_VALS E_w_PLAIN F_w_PLAIN_code E_w_COUNTING F_w_COUNTING_code) hZ (wd10 hw) (wd6 hw) (by decide) (by decide)) (g := (mkF m 40 #[.val (.long q1), .second, .val (.int p2), .val (.long q1), .second, .val (.ref w_COUNTING), .unset] [(.long q1)])) rfl (by rw [hml]; rfl) (argsL := [(.long q1)]) (rest := []) (lenOf pd2 rfl) rfl (by show 2 * 0 + _ ≤ _; exact Nat.le_of_eq rfl) (hb hby at_40) (fun _ _ => ⟨rfl, e8, (by decide : 0 + 1 ≤ _), (by decide : 0 + 2 ≤ _)⟩)
        dsimp only [Pt.U, Pt.locs, Pt.cells, Pt.slots] at X9 l9 y9 z9 st9 hQ9
        subst l9 y9 z9
        refine Go.st st9 ?_
        obtain ⟨h9, e9⟩ : ∃ z, T9.heap = z := ⟨_, rfl⟩
        rw [e9] at hQ9
        obtain ⟨rfl, N9q, K9⟩ := hQ9
        replace S__VALUES := sta_keep S__VALUES K9 all0
        replace E_VALS := E_VALS.keep K9
        replace V_VALS := V_VALS.keep K9 nin0
        replace E_w_PLAIN := E_w_PLAIN.keep K9
        replace F_w_PLAIN_code := F_w_PLAIN_code.keep K9 nin0
        replace E_w_COUNTING := E_w_COUNTING.keep K9
        replace F_w_COUNTING_code := F_w_COUNTING_code.keep K9 nin0
        replace S_PLAIN := sta_keep S_PLAIN K9 all0
        replace S_COUNTING := sta_keep S_COUNTING K9 all0
        replace Z0 := Nat.le_trans Z0 K9.1
        replace K0 := K0.trans K9 all0
        have N9 := Fr.app N1 N9q
        show Go _ _ _ (T9.setTop (mkF m 43 #[.val (.long q1), .second, .val (.int p2), .val (.long q1), .second, .val (.ref w_COUNTING), .unset] [(f2 q1 w_PLAIN w_COUNTING)])) _
        rw [show (f2 q1 w_PLAIN w_COUNTING) = ((.ref w_COUNTING) : Value) from by unfold f2; simp only [if_neg (show ¬ ((1 : Int64) = q1) from fun z => hc3 z.symm), if_pos (Eq.symm hc7), if_true, if_false]]
        show Go _ _ _ (T9.setTop (mkF m 43 #[.val (.long q1), .second, .val (.int p2), .val (.long q1), .second, .val (.ref w_COUNTING), .unset] [(.ref w_COUNTING)])) _
        refine Go.st (fun t k => XS.astore X9.here hx rfl (hb hby at_43) rfl rfl (l' := #[.val (.long q1), .second, .val (.int p2), .val (.long q1), .second, .val (.ref w_COUNTING), .val (.ref w_COUNTING)]) rfl k) ?_
        refine Go.st (fun t k => XS.aload X9.here hx rfl (hb hby at_45) rfl rfl k) ?_
        refine Go.st (fun t k => XS.aload X9.here hx rfl (hb hby at_47) rfl rfl k) ?_
        refine Go.st (fun t k => Jvm.RoadKit.acmp (g := (mkF m 49 #[.val (.long q1), .second, .val (.int p2), .val (.long q1), .second, .val (.ref w_COUNTING), .val (.ref w_COUNTING)] [(.ref w_COUNTING), (.ref w_COUNTING)])) X9 hx rfl rfl rfl (pc0 := 49) (pc' := 54) (same := true) rfl (hb hby at_49) rfl (decide_eq_true rfl) (by decide) (by decide) k) ?_
        show Go _ _ _ (T9.setTop (mkF m 54 #[.val (.long q1), .second, .val (.int p2), .val (.long q1), .second, .val (.ref w_COUNTING), .val (.ref w_COUNTING)] [])) _
        refine Go.st (fun t k => XS.aload X9.here hx rfl (hb hby at_54) rfl rfl k) ?_
        refine Go.st (fun t k => XS.ifnullNo X9.here hx rfl (hb hby at_56) rfl k) ?_
        show Go _ _ _ (T9.setTop (mkF m 59 #[.val (.long q1), .second, .val (.int p2), .val (.long q1), .second, .val (.ref w_COUNTING), .val (.ref w_COUNTING)] [])) _
        refine Go.st (fun t k => XS.aload X9.here hx rfl (hb hby at_59) rfl rfl k) ?_
        obtain ⟨cq10, kq10, q10a, q10b, q10c⟩ := isOf hZ e9 E_w_COUNTING
        obtain ⟨_, _, ⟨T10, L10, k10, n10⟩, -, X10, ⟨Lc10, hQ10, l10, y10, z10⟩, st10⟩ := X9.virtualBack hx (y := (⟨"com/example/gloom/gloom/io/FilterKind", "getCode", "()I"⟩ : MethodName)) (z := (⟨"com/example/gloom/gloom/io/FilterKind", "getCode", "()I"⟩ : MethodName)) hown (mvT hZ (wd29 hw)) (mvT hZ (wd30 hw)) (notFace_of_selects (args := #[]) (mvT hZ (wd32 hw))) (mvT hZ (wd32 hw)) (mvT hZ (wd31 hw)) (by decide) (backOf (W := 0) (rm4 l Z a0 hw [] w_COUNTING (2 : Int32) h9 n0 Z0 F_w_COUNTING_code) hZ (wd33 hw) (wd6 hw) (by decide) (by decide)) q10a q10c (g := (mkF m 61 #[.val (.long q1), .second, .val (.int p2), .val (.long q1), .second, .val (.ref w_COUNTING), .val (.ref w_COUNTING)] [(.ref w_COUNTING)])) rfl (by rw [hml]; rfl) (Steps.refl _) (argsL := []) (rest := []) (lenOf pd3 rfl) rfl (by show 2 * 0 + _ ≤ _; exact Nat.le_of_eq rfl) (hb hby at_61) (fun _ _ => ⟨rfl, e9, (by decide : 1 + 0 ≤ _), (by decide : 2 + 0 ≤ _)⟩)
        dsimp only [Pt.U, Pt.locs, Pt.cells, Pt.slots] at X10 l10 y10 z10 st10 hQ10
        subst l10 y10 z10
        refine Go.tr st10 ?_
        obtain ⟨rfl, N10q, e10⟩ := hQ10
        have N10 := Fr.app N9 N10q
        show Go _ _ _ (T10.setTop (mkF m 64 #[.val (.long q1), .second, .val (.int p2), .val (.long q1), .second, .val (.ref w_COUNTING), .val (.ref w_COUNTING)] [(.int 2)])) _
        refine Go.st (fun t k => XS.i2l X10.here hx rfl (hb hby at_64) rfl k) ?_
        show Go _ _ _ (T10.setTop (mkF m 65 #[.val (.long q1), .second, .val (.int p2), .val (.long q1), .second, .val (.ref w_COUNTING), .val (.ref w_COUNTING)] [(.long 2)])) _
        refine Go.st (fun t k => XS.lloadN X10.here hx rfl (hb hby at_65) rfl k) ?_
        refine Go.st (fun t k => XS.lcmp X10.here hx rfl (hb hby at_66) rfl k) ?_
        show Go _ _ _ (T10.setTop (mkF m 67 #[.val (.long q1), .second, .val (.int p2), .val (.long q1), .second, .val (.ref w_COUNTING), .val (.ref w_COUNTING)] [(.int (lcmpW (2 : Int64) q1))])) _
        refine Go.st (fun t k => XS.ifYes X10.here hx rfl (pc0 := 67) (pc' := 72) rfl (hb hby at_67) rfl ((if0 _ _).trans (teq ((lw_eq (2 : Int64) q1).mpr (Eq.symm hc7))).1) (by decide) (by decide) k) ?_
        show Go _ _ _ (T10.setTop (mkF m 72 #[.val (.long q1), .second, .val (.int p2), .val (.long q1), .second, .val (.ref w_COUNTING), .val (.ref w_COUNTING)] [])) _
        refine Go.st (fun t k => XS.iconst X10.here hx rfl (hb hby at_72) k) ?_
        obtain ⟨fs, hr, hrun, hended, hW, hsame⟩ := X10.leave (v := some (.int (1 : Int32))) (fun h => by rw [Bd.returns] at h; cases h)
        refine Go.fin (retN X10 hx (t := .boolean) Bd.returns (by simp) (hb hby at_73) hr) hrun hended ⟨_, _, rfl, ?_, ⟨_, rfl⟩, hW, hsame.mono (by decide) (by decide)⟩
        show Q0 Z q1 p2 w__VALUES k_v w_PLAIN w_COUNTING h0 n0 _ T10.heap _
        rw [e10]
        exact ⟨rfl, N10⟩
      · refine Go.st (fun t k => XS.ifYes X1.here hx rfl (pc0 := 25) (pc' := 36) rfl (hb hby at_25) rfl ((if0 _ _).trans (feq (fun z => hc7 ((lw_eq q1 (2 : Int64)).mp z))).2) (by decide) (by decide) k) ?_
        show Go _ _ _ (T1.setTop (mkF m 36 #[.val (.long q1), .second, .val (.int p2), .val (.long q1), .second, .unset, .unset] [])) _
        refine Go.st (fun t k => XS.aconstNull X1.here hx rfl (hb hby at_36) k) ?_
        refine Go.st (fun t k => XS.astore X1.here hx rfl (hb hby at_37) rfl rfl (l' := #[.val (.long q1), .second, .val (.int p2), .val (.long q1), .second, .val .null, .unset]) rfl k) ?_
        refine Go.st (fun t k => XS.lloadN X1.here hx rfl (hb hby at_39) rfl k) ?_
        obtain ⟨_, _, ⟨T11, L11, k11, n11⟩, -, X11, ⟨Lc11, hQ11, l11, y11, z11⟩, st11⟩ := Jvm.LawKit.callS X1 hx (y := (⟨"com/example/gloom/gloom/io/FilterKind", "fromCode", "(J)Lcom/example/gloom/gloom/io/FilterKind;"⟩ : MethodName)) hown (mvT hZ (wd8 hw)) (mvT hZ (wd9 hw)) (mvT hZ (wd6 hw)) (mvT hZ (wd10 hw)) (by decide) (backOf (W := 0) (rm2 l Z a0 hw [] q1 w__VALUES k_v w_PLAIN w_COUNTING h0 n0 Z0 S__VALUES E_VALS V_VALS E_w_PLAIN F_w_PLAIN_code E_w_COUNTING F_w_COUNTING_code) hZ (wd10 hw) (wd6 hw) (by decide) (by decide)) (g := (mkF m 40 #[.val (.long q1), .second, .val (.int p2), .val (.long q1), .second, .val .null, .unset] [(.long q1)])) rfl (by rw [hml]; rfl) (argsL := [(.long q1)]) (rest := []) (lenOf pd2 rfl) rfl (by show 2 * 0 + _ ≤ _; exact Nat.le_of_eq rfl) (hb hby at_40) (fun _ _ => ⟨rfl, e1, (by decide : 0 + 1 ≤ _), (by decide : 0 + 2 ≤ _)⟩)
        dsimp only [Pt.U, Pt.locs, Pt.cells, Pt.slots] at X11 l11 y11 z11 st11 hQ11
        subst l11 y11 z11
        refine Go.st st11 ?_
        obtain ⟨h11, e11⟩ : ∃ z, T11.heap = z := ⟨_, rfl⟩
        rw [e11] at hQ11
        obtain ⟨rfl, N11q, K11⟩ := hQ11
        replace S__VALUES := sta_keep S__VALUES K11 all0
        replace E_VALS := E_VALS.keep K11
        replace V_VALS := V_VALS.keep K11 nin0
        replace E_w_PLAIN := E_w_PLAIN.keep K11
        replace F_w_PLAIN_code := F_w_PLAIN_code.keep K11 nin0
        replace E_w_COUNTING := E_w_COUNTING.keep K11
        replace F_w_COUNTING_code := F_w_COUNTING_code.keep K11 nin0
        replace S_PLAIN := sta_keep S_PLAIN K11 all0
        replace S_COUNTING := sta_keep S_COUNTING K11 all0
        replace Z0 := Nat.le_trans Z0 K11.1
        replace K0 := K0.trans K11 all0
        have N11 := Fr.app N1 N11q
        show Go _ _ _ (T11.setTop (mkF m 43 #[.val (.long q1), .second, .val (.int p2), .val (.long q1), .second, .val .null, .unset] [(f2 q1 w_PLAIN w_COUNTING)])) _
        rw [show (f2 q1 w_PLAIN w_COUNTING) = (.null : Value) from by unfold f2; simp only [if_neg (show ¬ ((1 : Int64) = q1) from fun z => hc3 z.symm), if_neg (show ¬ ((2 : Int64) = q1) from fun z => hc7 z.symm), if_true, if_false]]
        show Go _ _ _ (T11.setTop (mkF m 43 #[.val (.long q1), .second, .val (.int p2), .val (.long q1), .second, .val .null, .unset] [.null])) _
        refine Go.st (fun t k => XS.astore X11.here hx rfl (hb hby at_43) rfl rfl (l' := #[.val (.long q1), .second, .val (.int p2), .val (.long q1), .second, .val .null, .val .null]) rfl k) ?_
        refine Go.st (fun t k => XS.aload X11.here hx rfl (hb hby at_45) rfl rfl k) ?_
        refine Go.st (fun t k => XS.aload X11.here hx rfl (hb hby at_47) rfl rfl k) ?_
        refine Go.st (fun t k => Jvm.RoadKit.acmp (g := (mkF m 49 #[.val (.long q1), .second, .val (.int p2), .val (.long q1), .second, .val .null, .val .null] [.null, .null])) X11 hx rfl rfl rfl (pc0 := 49) (pc' := 54) (same := true) rfl (hb hby at_49) rfl (decide_eq_true rfl) (by decide) (by decide) k) ?_
        show Go _ _ _ (T11.setTop (mkF m 54 #[.val (.long q1), .second, .val (.int p2), .val (.long q1), .second, .val .null, .val .null] [])) _
        refine Go.st (fun t k => XS.aload X11.here hx rfl (hb hby at_54) rfl rfl k) ?_
        refine Go.st (fun t k => XS.ifnullYes X11.here hx rfl (pc0 := 56) (pc' := 72) rfl (hb hby at_56) rfl (by decide) (by decide) k) ?_
        show Go _ _ _ (T11.setTop (mkF m 72 #[.val (.long q1), .second, .val (.int p2), .val (.long q1), .second, .val .null, .val .null] [])) _
        refine Go.st (fun t k => XS.iconst X11.here hx rfl (hb hby at_72) k) ?_
        obtain ⟨fs, hr, hrun, hended, hW, hsame⟩ := X11.leave (v := some (.int (1 : Int32))) (fun h => by rw [Bd.returns] at h; cases h)
        refine Go.fin (retN X11 hx (t := .boolean) Bd.returns (by simp) (hb hby at_73) hr) hrun hended ⟨_, _, rfl, ?_, ⟨_, rfl⟩, hW, hsame.mono (by decide) (by decide)⟩
        show Q0 Z q1 p2 w__VALUES k_v w_PLAIN w_COUNTING h0 n0 _ T11.heap _
        rw [e11]
        exact ⟨rfl, N11⟩
  · by_cases hc12 : (p2 &&& (7 : Int32)) = (1 : Int32)
    · rw [show (f1 q1 p2) = (1 : Int64) from by unfold f1; simp only [if_neg hc2, if_pos hc12, if_true, if_false]]
      show Go _ _ _ (T1.setTop (mkF m 5 #[.val (.long q1), .second, .val (.int p2), .unset, .unset, .unset, .unset] [(.long 1)])) _
      refine Go.st (fun t k => XS.lstoreN X1.here hx rfl (hb hby at_5) rfl (l' := #[.val (.long q1), .second, .val (.int p2), .val (.long 1), .second, .unset, .unset]) rfl k) ?_
      refine Go.st (fun t k => XS.lloadN X1.here hx rfl (hb hby at_6) rfl k) ?_
      refine Go.st (fun t k => XS.lconst X1.here hx rfl (hb hby at_7) k) ?_
      refine Go.st (fun t k => XS.lcmp X1.here hx rfl (hb hby at_8) rfl k) ?_
      show Go _ _ _ (T1.setTop (mkF m 9 #[.val (.long q1), .second, .val (.int p2), .val (.long 1), .second, .unset, .unset] [(.int (lcmpW (1 : Int64) (1 : Int64)))])) _
      refine Go.st (fun t k => XS.ifNo X1.here hx rfl (hb hby at_9) rfl ((if0 _ _).trans (teq ((lw_eq (1 : Int64) (1 : Int64)).mpr (by decide : (1 : Int64) = (1 : Int64)))).2) k) ?_
      show Go _ _ _ (T1.setTop (mkF m 12 #[.val (.long q1), .second, .val (.int p2), .val (.long 1), .second, .unset, .unset] [])) _
      obtain ⟨T13, X13, e13, st13⟩ := getS2 X1 hx hZ hown (host := "") (Or.inl (wd35 hw)) Via.refl e1 S_PLAIN (g := (mkF m 12 #[.val (.long q1), .second, .val (.int p2), .val (.long 1), .second, .unset, .unset] [])) rfl (hb hby at_12)
      refine Go.st st13 ?_
      show Go _ _ _ (T13.setTop (mkF m 15 #[.val (.long q1), .second, .val (.int p2), .val (.long 1), .second, .unset, .unset] [(.ref w_PLAIN)])) _
      refine Go.st (fun t k => XS.astore X13.here hx rfl (hb hby at_15) rfl rfl (l' := #[.val (.long q1), .second, .val (.int p2), .val (.long 1), .second, .val (.ref w_PLAIN), .unset]) rfl k) ?_
      refine Go.st (fun t k => XS.goto X13.here hx rfl (pc0 := 17) (pc' := 39) rfl (hb hby at_17) (by decide) (by decide) k) ?_
      refine Go.st (fun t k => XS.lloadN X13.here hx rfl (hb hby at_39) rfl k) ?_
      obtain ⟨_, _, ⟨T14, L14, k14, n14⟩, -, X14, ⟨Lc14, hQ14, l14, y14, z14⟩, st14⟩ := Jvm.LawKit.callS X13 hx (y := (⟨"com/example/gloom/gloom/io/FilterKind", "fromCode", "(J)Lcom/example/gloom/gloom/io/FilterKind;"⟩ : MethodName)) hown (mvT hZ (wd8 hw)) (mvT hZ (wd9 hw)) (mvT hZ (wd6 hw)) (mvT hZ (wd10 hw)) (by decide) (backOf (W := 0) (rm2 l Z a0 hw [] (1 : Int64) w__VALUES k_v w_PLAIN w_COUNTING h0 n0 Z0 S__VALUES E_VALS V_VALS E_w_PLAIN F_w_PLAIN_code E_w_COUNTING F_w_COUNTING_code) hZ (wd10 hw) (wd6 hw) (by decide) (by decide)) (g := (mkF m 40 #[.val (.long q1), .second, .val (.int p2), .val (.long 1), .second, .val (.ref w_PLAIN), .unset] [(.long 1)])) rfl (by rw [hml]; rfl) (argsL := [(.long (1 : Int64))]) (rest := []) (lenOf pd2 rfl) rfl (by show 2 * 0 + _ ≤ _; exact Nat.le_of_eq rfl) (hb hby at_40) (fun _ _ => ⟨rfl, e13, (by decide : 0 + 1 ≤ _), (by decide : 0 + 2 ≤ _)⟩)
      dsimp only [Pt.U, Pt.locs, Pt.cells, Pt.slots] at X14 l14 y14 z14 st14 hQ14
      subst l14 y14 z14
      refine Go.st st14 ?_
      obtain ⟨h14, e14⟩ : ∃ z, T14.heap = z := ⟨_, rfl⟩
      rw [e14] at hQ14
      obtain ⟨rfl, N14q, K14⟩ := hQ14
      replace S__VALUES := sta_keep S__VALUES K14 all0
      replace E_VALS := E_VALS.keep K14
      replace V_VALS := V_VALS.keep K14 nin0
      replace E_w_PLAIN := E_w_PLAIN.keep K14
      replace F_w_PLAIN_code := F_w_PLAIN_code.keep K14 nin0
      replace E_w_COUNTING := E_w_COUNTING.keep K14
      replace F_w_COUNTING_code := F_w_COUNTING_code.keep K14 nin0
      replace S_PLAIN := sta_keep S_PLAIN K14 all0
      replace S_COUNTING := sta_keep S_COUNTING K14 all0
      replace Z0 := Nat.le_trans Z0 K14.1
      replace K0 := K0.trans K14 all0
      have N14 := Fr.app N1 N14q
      show Go _ _ _ (T14.setTop (mkF m 43 #[.val (.long q1), .second, .val (.int p2), .val (.long 1), .second, .val (.ref w_PLAIN), .unset] [(f2 (1 : Int64) w_PLAIN w_COUNTING)])) _
      rw [show (f2 (1 : Int64) w_PLAIN w_COUNTING) = ((.ref w_PLAIN) : Value) from by unfold f2; simp only [if_pos (by decide : (1 : Int64) = (1 : Int64)), if_true, if_false]]
      show Go _ _ _ (T14.setTop (mkF m 43 #[.val (.long q1), .second, .val (.int p2), .val (.long 1), .second, .val (.ref w_PLAIN), .unset] [(.ref w_PLAIN)])) _
      refine Go.st (fun t k => XS.astore X14.here hx rfl (hb hby at_43) rfl rfl (l' := #[.val (.long q1), .second, .val (.int p2), .val (.long 1), .second, .val (.ref w_PLAIN), .val (.ref w_PLAIN)]) rfl k) ?_
      refine Go.st (fun t k => XS.aload X14.here hx rfl (hb hby at_45) rfl rfl k) ?_
      refine Go.st (fun t k => XS.aload X14.here hx rfl (hb hby at_47) rfl rfl k) ?_
      refine Go.st (fun t k => Jvm.RoadKit.acmp (g := (mkF m 49 #[.val (.long q1), .second, .val (.int p2), .val (.long 1), .second, .val (.ref w_PLAIN), .val (.ref w_PLAIN)] [(.ref w_PLAIN), (.ref w_PLAIN)])) X14 hx rfl rfl rfl (pc0 := 49) (pc' := 54) (same := true) rfl (hb hby at_49) rfl (decide_eq_true rfl) (by decide) (by decide) k) ?_
      show Go _ _ _ (T14.setTop (mkF m 54 #[.val (.long q1), .second, .val (.int p2), .val (.long 1), .second, .val (.ref w_PLAIN), .val (.ref w_PLAIN)] [])) _
      refine Go.st (fun t k => XS.aload X14.here hx rfl (hb hby at_54) rfl rfl k) ?_
      refine Go.st (fun t k => XS.ifnullNo X14.here hx rfl (hb hby at_56) rfl k) ?_
      show Go _ _ _ (T14.setTop (mkF m 59 #[.val (.long q1), .second, .val (.int p2), .val (.long 1), .second, .val (.ref w_PLAIN), .val (.ref w_PLAIN)] [])) _
      refine Go.st (fun t k => XS.aload X14.here hx rfl (hb hby at_59) rfl rfl k) ?_
      obtain ⟨cq15, kq15, q15a, q15b, q15c⟩ := isOf hZ e14 E_w_PLAIN
      obtain ⟨_, _, ⟨T15, L15, k15, n15⟩, -, X15, ⟨Lc15, hQ15, l15, y15, z15⟩, st15⟩ := X14.virtualBack hx (y := (⟨"com/example/gloom/gloom/io/FilterKind", "getCode", "()I"⟩ : MethodName)) (z := (⟨"com/example/gloom/gloom/io/FilterKind", "getCode", "()I"⟩ : MethodName)) hown (mvT hZ (wd29 hw)) (mvT hZ (wd30 hw)) (notFace_of_selects (args := #[]) (mvT hZ (wd32 hw))) (mvT hZ (wd32 hw)) (mvT hZ (wd31 hw)) (by decide) (backOf (W := 0) (rm4 l Z a0 hw [] w_PLAIN (1 : Int32) h14 n0 Z0 F_w_PLAIN_code) hZ (wd33 hw) (wd6 hw) (by decide) (by decide)) q15a q15c (g := (mkF m 61 #[.val (.long q1), .second, .val (.int p2), .val (.long 1), .second, .val (.ref w_PLAIN), .val (.ref w_PLAIN)] [(.ref w_PLAIN)])) rfl (by rw [hml]; rfl) (Steps.refl _) (argsL := []) (rest := []) (lenOf pd3 rfl) rfl (by show 2 * 0 + _ ≤ _; exact Nat.le_of_eq rfl) (hb hby at_61) (fun _ _ => ⟨rfl, e14, (by decide : 1 + 0 ≤ _), (by decide : 2 + 0 ≤ _)⟩)
      dsimp only [Pt.U, Pt.locs, Pt.cells, Pt.slots] at X15 l15 y15 z15 st15 hQ15
      subst l15 y15 z15
      refine Go.tr st15 ?_
      obtain ⟨rfl, N15q, e15⟩ := hQ15
      have N15 := Fr.app N14 N15q
      show Go _ _ _ (T15.setTop (mkF m 64 #[.val (.long q1), .second, .val (.int p2), .val (.long 1), .second, .val (.ref w_PLAIN), .val (.ref w_PLAIN)] [(.int 1)])) _
      refine Go.st (fun t k => XS.i2l X15.here hx rfl (hb hby at_64) rfl k) ?_
      show Go _ _ _ (T15.setTop (mkF m 65 #[.val (.long q1), .second, .val (.int p2), .val (.long 1), .second, .val (.ref w_PLAIN), .val (.ref w_PLAIN)] [(.long 1)])) _
      refine Go.st (fun t k => XS.lloadN X15.here hx rfl (hb hby at_65) rfl k) ?_
      refine Go.st (fun t k => XS.lcmp X15.here hx rfl (hb hby at_66) rfl k) ?_
      show Go _ _ _ (T15.setTop (mkF m 67 #[.val (.long q1), .second, .val (.int p2), .val (.long 1), .second, .val (.ref w_PLAIN), .val (.ref w_PLAIN)] [(.int (lcmpW (1 : Int64) (1 : Int64)))])) _
      refine Go.st (fun t k => XS.ifYes X15.here hx rfl (pc0 := 67) (pc' := 72) rfl (hb hby at_67) rfl ((if0 _ _).trans (teq ((lw_eq (1 : Int64) (1 : Int64)).mpr (by decide : (1 : Int64) = (1 : Int64)))).1) (by decide) (by decide) k) ?_
      show Go _ _ _ (T15.setTop (mkF m 72 #[.val (.long q1), .second, .val (.int p2), .val (.long 1), .second, .val (.ref w_PLAIN), .val (.ref w_PLAIN)] [])) _
      refine Go.st (fun t k => XS.iconst X15.here hx rfl (hb hby at_72) k) ?_
      obtain ⟨fs, hr, hrun, hended, hW, hsame⟩ := X15.leave (v := some (.int (1 : Int32))) (fun h => by rw [Bd.returns] at h; cases h)
      refine Go.fin (retN X15 hx (t := .boolean) Bd.returns (by simp) (hb hby at_73) hr) hrun hended ⟨_, _, rfl, ?_, ⟨_, rfl⟩, hW, hsame.mono (by decide) (by decide)⟩
      show Q0 Z q1 p2 w__VALUES k_v w_PLAIN w_COUNTING h0 n0 _ T15.heap _
      rw [e15]
      exact ⟨rfl, N15⟩
    · by_cases hc16 : (p2 &&& (7 : Int32)) = (2 : Int32)
      · rw [show (f1 q1 p2) = (2 : Int64) from by unfold f1; simp only [if_neg hc2, if_neg hc12, if_pos hc16, if_true, if_false]]
        show Go _ _ _ (T1.setTop (mkF m 5 #[.val (.long q1), .second, .val (.int p2), .unset, .unset, .unset, .unset] [(.long 2)])) _
        refine Go.st (fun t k => XS.lstoreN X1.here hx rfl (hb hby at_5) rfl (l' := #[.val (.long q1), .second, .val (.int p2), .val (.long 2), .second, .unset, .unset]) rfl k) ?_
        refine Go.st (fun t k => XS.lloadN X1.here hx rfl (hb hby at_6) rfl k) ?_
        refine Go.st (fun t k => XS.lconst X1.here hx rfl (hb hby at_7) k) ?_
        refine Go.st (fun t k => XS.lcmp X1.here hx rfl (hb hby at_8) rfl k) ?_
        show Go _ _ _ (T1.setTop (mkF m 9 #[.val (.long q1), .second, .val (.int p2), .val (.long 2), .second, .unset, .unset] [(.int (lcmpW (2 : Int64) (1 : Int64)))])) _
        refine Go.st (fun t k => XS.ifYes X1.here hx rfl (pc0 := 9) (pc' := 20) rfl (hb hby at_9) rfl ((if0 _ _).trans (feq (fun z => (by decide : ¬ ((2 : Int64) = (1 : Int64))) ((lw_eq (2 : Int64) (1 : Int64)).mp z))).2) (by decide) (by decide) k) ?_
        show Go _ _ _ (T1.setTop (mkF m 20 #[.val (.long q1), .second, .val (.int p2), .val (.long 2), .second, .unset, .unset] [])) _
        refine Go.st (fun t k => XS.lloadN X1.here hx rfl (hb hby at_20) rfl k) ?_
        refine Go.st (fun t k => X1.ldc2Long hx hown (mvT hZ (wd4 hw)) (g := (mkF m 21 #[.val (.long q1), .second, .val (.int p2), .val (.long 2), .second, .unset, .unset] [(.long 2)])) rfl (hb hby at_21) _ k) ?_
        show Go _ _ _ (T1.setTop (mkF m 24 #[.val (.long q1), .second, .val (.int p2), .val (.long 2), .second, .unset, .unset] [(.long 2), (.long 2)])) _
        refine Go.st (fun t k => XS.lcmp X1.here hx rfl (hb hby at_24) rfl k) ?_
        show Go _ _ _ (T1.setTop (mkF m 25 #[.val (.long q1), .second, .val (.int p2), .val (.long 2), .second, .unset, .unset] [(.int (lcmpW (2 : Int64) (2 : Int64)))])) _
        refine Go.st (fun t k => XS.ifNo X1.here hx rfl (hb hby at_25) rfl ((if0 _ _).trans (teq ((lw_eq (2 : Int64) (2 : Int64)).mpr (by decide : (2 : Int64) = (2 : Int64)))).2) k) ?_
        show Go _ _ _ (T1.setTop (mkF m 28 #[.val (.long q1), .second, .val (.int p2), .val (.long 2), .second, .unset, .unset] [])) _
        obtain ⟨T17, X17, e17, st17⟩ := getS2 X1 hx hZ hown (host := "") (Or.inl (wd5 hw)) Via.refl e1 S_COUNTING (g := (mkF m 28 #[.val (.long q1), .second, .val (.int p2), .val (.long 2), .second, .unset, .unset] [])) rfl (hb hby at_28)
        refine Go.st st17 ?_
        show Go _ _ _ (T17.setTop (mkF m 31 #[.val (.long q1), .second, .val (.int p2), .val (.long 2), .second, .unset, .unset] [(.ref w_COUNTING)])) _
        refine Go.st (fun t k => XS.astore X17.here hx rfl (hb hby at_31) rfl rfl (l' := #[.val (.long q1), .second, .val (.int p2), .val (.long 2), .second, .val (.ref w_COUNTING), .unset]) rfl k) ?_
        refine Go.st (fun t k => XS.goto X17.here hx rfl (pc0 := 33) (pc' := 39) rfl (hb hby at_33) (by decide) (by decide) k) ?_
        refine Go.st (fun t k => XS.lloadN X17.here hx rfl (hb hby at_39) rfl k) ?_
        obtain ⟨_, _, ⟨T18, L18, k18, n18⟩, -, X18, ⟨Lc18, hQ18, l18, y18, z18⟩, st18⟩ := Jvm.LawKit.callS X17 hx (y := (⟨"com/example/gloom/gloom/io/FilterKind", "fromCode", "(J)Lcom/example/gloom/gloom/io/FilterKind;"⟩ : MethodName)) hown (mvT hZ (wd8 hw)) (mvT hZ (wd9 hw)) (mvT hZ (wd6 hw)) (mvT hZ (wd10 hw)) (by decide) (backOf (W := 0) (rm2 l Z a0 hw [] (2 : Int64) w__VALUES k_v w_PLAIN w_COUNTING h0 n0 Z0 S__VALUES E_VALS V_VALS E_w_PLAIN F_w_PLAIN_code E_w_COUNTING F_w_COUNTING_code) hZ (wd10 hw) (wd6 hw) (by decide) (by decide)) (g := (mkF m 40 #[.val (.long q1), .second, .val (.int p2), .val (.long 2), .second, .val (.ref w_COUNTING), .unset] [(.long 2)])) rfl (by rw [hml]; rfl) (argsL := [(.long (2 : Int64))]) (rest := []) (lenOf pd2 rfl) rfl (by show 2 * 0 + _ ≤ _; exact Nat.le_of_eq rfl) (hb hby at_40) (fun _ _ => ⟨rfl, e17, (by decide : 0 + 1 ≤ _), (by decide : 0 + 2 ≤ _)⟩)
        dsimp only [Pt.U, Pt.locs, Pt.cells, Pt.slots] at X18 l18 y18 z18 st18 hQ18
        subst l18 y18 z18
        refine Go.st st18 ?_
        obtain ⟨h18, e18⟩ : ∃ z, T18.heap = z := ⟨_, rfl⟩
        rw [e18] at hQ18
        obtain ⟨rfl, N18q, K18⟩ := hQ18
        replace S__VALUES := sta_keep S__VALUES K18 all0
        replace E_VALS := E_VALS.keep K18
        replace V_VALS := V_VALS.keep K18 nin0
        replace E_w_PLAIN := E_w_PLAIN.keep K18
        replace F_w_PLAIN_code := F_w_PLAIN_code.keep K18 nin0
        replace E_w_COUNTING := E_w_COUNTING.keep K18
        replace F_w_COUNTING_code := F_w_COUNTING_code.keep K18 nin0
        replace S_PLAIN := sta_keep S_PLAIN K18 all0
        replace S_COUNTING := sta_keep S_COUNTING K18 all0
        replace Z0 := Nat.le_trans Z0 K18.1
        replace K0 := K0.trans K18 all0
        have N18 := Fr.app N1 N18q
        show Go _ _ _ (T18.setTop (mkF m 43 #[.val (.long q1), .second, .val (.int p2), .val (.long 2), .second, .val (.ref w_COUNTING), .unset] [(f2 (2 : Int64) w_PLAIN w_COUNTING)])) _
        rw [show (f2 (2 : Int64) w_PLAIN w_COUNTING) = ((.ref w_COUNTING) : Value) from by unfold f2; simp only [if_neg (by decide : ¬ ((1 : Int64) = (2 : Int64))), if_pos (by decide : (2 : Int64) = (2 : Int64)), if_true, if_false]]
        show Go _ _ _ (T18.setTop (mkF m 43 #[.val (.long q1), .second, .val (.int p2), .val (.long 2), .second, .val (.ref w_COUNTING), .unset] [(.ref w_COUNTING)])) _
        refine Go.st (fun t k => XS.astore X18.here hx rfl (hb hby at_43) rfl rfl (l' := #[.val (.long q1), .second, .val (.int p2), .val (.long 2), .second, .val (.ref w_COUNTING), .val (.ref w_COUNTING)]) rfl k) ?_
        refine Go.st (fun t k => XS.aload X18.here hx rfl (hb hby at_45) rfl rfl k) ?_
        refine Go.st (fun t k => XS.aload X18.here hx rfl (hb hby at_47) rfl rfl k) ?_
        refine Go.st (fun t k => Jvm.RoadKit.acmp (g := (mkF m 49 #[.val (.long q1), .second, .val (.int p2), .val (.long 2), .second, .val (.ref w_COUNTING), .val (.ref w_COUNTING)] [(.ref w_COUNTING), (.ref w_COUNTING)])) X18 hx rfl rfl rfl (pc0 := 49) (pc' := 54) (same := true) rfl (hb hby at_49) rfl (decide_eq_true rfl) (by decide) (by decide) k) ?_
        show Go _ _ _ (T18.setTop (mkF m 54 #[.val (.long q1), .second, .val (.int p2), .val (.long 2), .second, .val (.ref w_COUNTING), .val (.ref w_COUNTING)] [])) _
        refine Go.st (fun t k => XS.aload X18.here hx rfl (hb hby at_54) rfl rfl k) ?_
        refine Go.st (fun t k => XS.ifnullNo X18.here hx rfl (hb hby at_56) rfl k) ?_
        show Go _ _ _ (T18.setTop (mkF m 59 #[.val (.long q1), .second, .val (.int p2), .val (.long 2), .second, .val (.ref w_COUNTING), .val (.ref w_COUNTING)] [])) _
        refine Go.st (fun t k => XS.aload X18.here hx rfl (hb hby at_59) rfl rfl k) ?_
        obtain ⟨cq19, kq19, q19a, q19b, q19c⟩ := isOf hZ e18 E_w_COUNTING
        obtain ⟨_, _, ⟨T19, L19, k19, n19⟩, -, X19, ⟨Lc19, hQ19, l19, y19, z19⟩, st19⟩ := X18.virtualBack hx (y := (⟨"com/example/gloom/gloom/io/FilterKind", "getCode", "()I"⟩ : MethodName)) (z := (⟨"com/example/gloom/gloom/io/FilterKind", "getCode", "()I"⟩ : MethodName)) hown (mvT hZ (wd29 hw)) (mvT hZ (wd30 hw)) (notFace_of_selects (args := #[]) (mvT hZ (wd32 hw))) (mvT hZ (wd32 hw)) (mvT hZ (wd31 hw)) (by decide) (backOf (W := 0) (rm4 l Z a0 hw [] w_COUNTING (2 : Int32) h18 n0 Z0 F_w_COUNTING_code) hZ (wd33 hw) (wd6 hw) (by decide) (by decide)) q19a q19c (g := (mkF m 61 #[.val (.long q1), .second, .val (.int p2), .val (.long 2), .second, .val (.ref w_COUNTING), .val (.ref w_COUNTING)] [(.ref w_COUNTING)])) rfl (by rw [hml]; rfl) (Steps.refl _) (argsL := []) (rest := []) (lenOf pd3 rfl) rfl (by show 2 * 0 + _ ≤ _; exact Nat.le_of_eq rfl) (hb hby at_61) (fun _ _ => ⟨rfl, e18, (by decide : 1 + 0 ≤ _), (by decide : 2 + 0 ≤ _)⟩)
        dsimp only [Pt.U, Pt.locs, Pt.cells, Pt.slots] at X19 l19 y19 z19 st19 hQ19
        subst l19 y19 z19
        refine Go.tr st19 ?_
        obtain ⟨rfl, N19q, e19⟩ := hQ19
        have N19 := Fr.app N18 N19q
        show Go _ _ _ (T19.setTop (mkF m 64 #[.val (.long q1), .second, .val (.int p2), .val (.long 2), .second, .val (.ref w_COUNTING), .val (.ref w_COUNTING)] [(.int 2)])) _
        refine Go.st (fun t k => XS.i2l X19.here hx rfl (hb hby at_64) rfl k) ?_
        show Go _ _ _ (T19.setTop (mkF m 65 #[.val (.long q1), .second, .val (.int p2), .val (.long 2), .second, .val (.ref w_COUNTING), .val (.ref w_COUNTING)] [(.long 2)])) _
        refine Go.st (fun t k => XS.lloadN X19.here hx rfl (hb hby at_65) rfl k) ?_
        refine Go.st (fun t k => XS.lcmp X19.here hx rfl (hb hby at_66) rfl k) ?_
        show Go _ _ _ (T19.setTop (mkF m 67 #[.val (.long q1), .second, .val (.int p2), .val (.long 2), .second, .val (.ref w_COUNTING), .val (.ref w_COUNTING)] [(.int (lcmpW (2 : Int64) (2 : Int64)))])) _
        refine Go.st (fun t k => XS.ifYes X19.here hx rfl (pc0 := 67) (pc' := 72) rfl (hb hby at_67) rfl ((if0 _ _).trans (teq ((lw_eq (2 : Int64) (2 : Int64)).mpr (by decide : (2 : Int64) = (2 : Int64)))).1) (by decide) (by decide) k) ?_
        show Go _ _ _ (T19.setTop (mkF m 72 #[.val (.long q1), .second, .val (.int p2), .val (.long 2), .second, .val (.ref w_COUNTING), .val (.ref w_COUNTING)] [])) _
        refine Go.st (fun t k => XS.iconst X19.here hx rfl (hb hby at_72) k) ?_
        obtain ⟨fs, hr, hrun, hended, hW, hsame⟩ := X19.leave (v := some (.int (1 : Int32))) (fun h => by rw [Bd.returns] at h; cases h)
        refine Go.fin (retN X19 hx (t := .boolean) Bd.returns (by simp) (hb hby at_73) hr) hrun hended ⟨_, _, rfl, ?_, ⟨_, rfl⟩, hW, hsame.mono (by decide) (by decide)⟩
        show Q0 Z q1 p2 w__VALUES k_v w_PLAIN w_COUNTING h0 n0 _ T19.heap _
        rw [e19]
        exact ⟨rfl, N19⟩
      · by_cases hc20 : (p2 &&& (7 : Int32)) = (3 : Int32)
        · rw [show (f1 q1 p2) = (0 : Int64) from by unfold f1; simp only [if_neg hc2, if_neg hc12, if_neg hc16, if_pos hc20, if_true, if_false]]
          show Go _ _ _ (T1.setTop (mkF m 5 #[.val (.long q1), .second, .val (.int p2), .unset, .unset, .unset, .unset] [(.long 0)])) _
          refine Go.st (fun t k => XS.lstoreN X1.here hx rfl (hb hby at_5) rfl (l' := #[.val (.long q1), .second, .val (.int p2), .val (.long 0), .second, .unset, .unset]) rfl k) ?_
          refine Go.st (fun t k => XS.lloadN X1.here hx rfl (hb hby at_6) rfl k) ?_
          refine Go.st (fun t k => XS.lconst X1.here hx rfl (hb hby at_7) k) ?_
          refine Go.st (fun t k => XS.lcmp X1.here hx rfl (hb hby at_8) rfl k) ?_
          show Go _ _ _ (T1.setTop (mkF m 9 #[.val (.long q1), .second, .val (.int p2), .val (.long 0), .second, .unset, .unset] [(.int (lcmpW (0 : Int64) (1 : Int64)))])) _
          refine Go.st (fun t k => XS.ifYes X1.here hx rfl (pc0 := 9) (pc' := 20) rfl (hb hby at_9) rfl ((if0 _ _).trans (feq (fun z => (by decide : ¬ ((0 : Int64) = (1 : Int64))) ((lw_eq (0 : Int64) (1 : Int64)).mp z))).2) (by decide) (by decide) k) ?_
          show Go _ _ _ (T1.setTop (mkF m 20 #[.val (.long q1), .second, .val (.int p2), .val (.long 0), .second, .unset, .unset] [])) _
          refine Go.st (fun t k => XS.lloadN X1.here hx rfl (hb hby at_20) rfl k) ?_
          refine Go.st (fun t k => X1.ldc2Long hx hown (mvT hZ (wd4 hw)) (g := (mkF m 21 #[.val (.long q1), .second, .val (.int p2), .val (.long 0), .second, .unset, .unset] [(.long 0)])) rfl (hb hby at_21) _ k) ?_
          show Go _ _ _ (T1.setTop (mkF m 24 #[.val (.long q1), .second, .val (.int p2), .val (.long 0), .second, .unset, .unset] [(.long 2), (.long 0)])) _
          refine Go.st (fun t k => XS.lcmp X1.here hx rfl (hb hby at_24) rfl k) ?_
          show Go _ _ _ (T1.setTop (mkF m 25 #[.val (.long q1), .second, .val (.int p2), .val (.long 0), .second, .unset, .unset] [(.int (lcmpW (0 : Int64) (2 : Int64)))])) _
          refine Go.st (fun t k => XS.ifYes X1.here hx rfl (pc0 := 25) (pc' := 36) rfl (hb hby at_25) rfl ((if0 _ _).trans (feq (fun z => (by decide : ¬ ((0 : Int64) = (2 : Int64))) ((lw_eq (0 : Int64) (2 : Int64)).mp z))).2) (by decide) (by decide) k) ?_
          show Go _ _ _ (T1.setTop (mkF m 36 #[.val (.long q1), .second, .val (.int p2), .val (.long 0), .second, .unset, .unset] [])) _
          refine Go.st (fun t k => XS.aconstNull X1.here hx rfl (hb hby at_36) k) ?_
          refine Go.st (fun t k => XS.astore X1.here hx rfl (hb hby at_37) rfl rfl (l' := #[.val (.long q1), .second, .val (.int p2), .val (.long 0), .second, .val .null, .unset]) rfl k) ?_
          refine Go.st (fun t k => XS.lloadN X1.here hx rfl (hb hby at_39) rfl k) ?_
          obtain ⟨_, _, ⟨T21, L21, k21, n21⟩, -, X21, ⟨Lc21, hQ21, l21, y21, z21⟩, st21⟩ := Jvm.LawKit.callS X1 hx (y := (⟨"com/example/gloom/gloom/io/FilterKind", "fromCode", "(J)Lcom/example/gloom/gloom/io/FilterKind;"⟩ : MethodName)) hown (mvT hZ (wd8 hw)) (mvT hZ (wd9 hw)) (mvT hZ (wd6 hw)) (mvT hZ (wd10 hw)) (by decide) (backOf (W := 0) (rm2 l Z a0 hw [] (0 : Int64) w__VALUES k_v w_PLAIN w_COUNTING h0 n0 Z0 S__VALUES E_VALS V_VALS E_w_PLAIN F_w_PLAIN_code E_w_COUNTING F_w_COUNTING_code) hZ (wd10 hw) (wd6 hw) (by decide) (by decide)) (g := (mkF m 40 #[.val (.long q1), .second, .val (.int p2), .val (.long 0), .second, .val .null, .unset] [(.long 0)])) rfl (by rw [hml]; rfl) (argsL := [(.long (0 : Int64))]) (rest := []) (lenOf pd2 rfl) rfl (by show 2 * 0 + _ ≤ _; exact Nat.le_of_eq rfl) (hb hby at_40) (fun _ _ => ⟨rfl, e1, (by decide : 0 + 1 ≤ _), (by decide : 0 + 2 ≤ _)⟩)
          dsimp only [Pt.U, Pt.locs, Pt.cells, Pt.slots] at X21 l21 y21 z21 st21 hQ21
          subst l21 y21 z21
          refine Go.st st21 ?_
          obtain ⟨h21, e21⟩ : ∃ z, T21.heap = z := ⟨_, rfl⟩
          rw [e21] at hQ21
          obtain ⟨rfl, N21q, K21⟩ := hQ21
          replace S__VALUES := sta_keep S__VALUES K21 all0
          replace E_VALS := E_VALS.keep K21
          replace V_VALS := V_VALS.keep K21 nin0
          replace E_w_PLAIN := E_w_PLAIN.keep K21
          replace F_w_PLAIN_code := F_w_PLAIN_code.keep K21 nin0
          replace E_w_COUNTING := E_w_COUNTING.keep K21
          replace F_w_COUNTING_code := F_w_COUNTING_code.keep K21 nin0
          replace S_PLAIN := sta_keep S_PLAIN K21 all0
          replace S_COUNTING := sta_keep S_COUNTING K21 all0
          replace Z0 := Nat.le_trans Z0 K21.1
          replace K0 := K0.trans K21 all0
          have N21 := Fr.app N1 N21q
          show Go _ _ _ (T21.setTop (mkF m 43 #[.val (.long q1), .second, .val (.int p2), .val (.long 0), .second, .val .null, .unset] [(f2 (0 : Int64) w_PLAIN w_COUNTING)])) _
          rw [show (f2 (0 : Int64) w_PLAIN w_COUNTING) = (.null : Value) from by unfold f2; simp only [if_neg (by decide : ¬ ((1 : Int64) = (0 : Int64))), if_neg (by decide : ¬ ((2 : Int64) = (0 : Int64))), if_true, if_false]]
          show Go _ _ _ (T21.setTop (mkF m 43 #[.val (.long q1), .second, .val (.int p2), .val (.long 0), .second, .val .null, .unset] [.null])) _
          refine Go.st (fun t k => XS.astore X21.here hx rfl (hb hby at_43) rfl rfl (l' := #[.val (.long q1), .second, .val (.int p2), .val (.long 0), .second, .val .null, .val .null]) rfl k) ?_
          refine Go.st (fun t k => XS.aload X21.here hx rfl (hb hby at_45) rfl rfl k) ?_
          refine Go.st (fun t k => XS.aload X21.here hx rfl (hb hby at_47) rfl rfl k) ?_
          refine Go.st (fun t k => Jvm.RoadKit.acmp (g := (mkF m 49 #[.val (.long q1), .second, .val (.int p2), .val (.long 0), .second, .val .null, .val .null] [.null, .null])) X21 hx rfl rfl rfl (pc0 := 49) (pc' := 54) (same := true) rfl (hb hby at_49) rfl (decide_eq_true rfl) (by decide) (by decide) k) ?_
          show Go _ _ _ (T21.setTop (mkF m 54 #[.val (.long q1), .second, .val (.int p2), .val (.long 0), .second, .val .null, .val .null] [])) _
          refine Go.st (fun t k => XS.aload X21.here hx rfl (hb hby at_54) rfl rfl k) ?_
          refine Go.st (fun t k => XS.ifnullYes X21.here hx rfl (pc0 := 56) (pc' := 72) rfl (hb hby at_56) rfl (by decide) (by decide) k) ?_
          show Go _ _ _ (T21.setTop (mkF m 72 #[.val (.long q1), .second, .val (.int p2), .val (.long 0), .second, .val .null, .val .null] [])) _
          refine Go.st (fun t k => XS.iconst X21.here hx rfl (hb hby at_72) k) ?_
          obtain ⟨fs, hr, hrun, hended, hW, hsame⟩ := X21.leave (v := some (.int (1 : Int32))) (fun h => by rw [Bd.returns] at h; cases h)
          refine Go.fin (retN X21 hx (t := .boolean) Bd.returns (by simp) (hb hby at_73) hr) hrun hended ⟨_, _, rfl, ?_, ⟨_, rfl⟩, hW, hsame.mono (by decide) (by decide)⟩
          show Q0 Z q1 p2 w__VALUES k_v w_PLAIN w_COUNTING h0 n0 _ T21.heap _
          rw [e21]
          exact ⟨rfl, N21⟩
        · by_cases hc22 : (p2 &&& (7 : Int32)) = (4 : Int32)
          · rw [show (f1 q1 p2) = (3 : Int64) from by unfold f1; simp only [if_neg hc2, if_neg hc12, if_neg hc16, if_neg hc20, if_pos hc22, if_true, if_false]]
            show Go _ _ _ (T1.setTop (mkF m 5 #[.val (.long q1), .second, .val (.int p2), .unset, .unset, .unset, .unset] [(.long 3)])) _
            refine Go.st (fun t k => XS.lstoreN X1.here hx rfl (hb hby at_5) rfl (l' := #[.val (.long q1), .second, .val (.int p2), .val (.long 3), .second, .unset, .unset]) rfl k) ?_
            refine Go.st (fun t k => XS.lloadN X1.here hx rfl (hb hby at_6) rfl k) ?_
            refine Go.st (fun t k => XS.lconst X1.here hx rfl (hb hby at_7) k) ?_
            refine Go.st (fun t k => XS.lcmp X1.here hx rfl (hb hby at_8) rfl k) ?_
            show Go _ _ _ (T1.setTop (mkF m 9 #[.val (.long q1), .second, .val (.int p2), .val (.long 3), .second, .unset, .unset] [(.int (lcmpW (3 : Int64) (1 : Int64)))])) _
            refine Go.st (fun t k => XS.ifYes X1.here hx rfl (pc0 := 9) (pc' := 20) rfl (hb hby at_9) rfl ((if0 _ _).trans (feq (fun z => (by decide : ¬ ((3 : Int64) = (1 : Int64))) ((lw_eq (3 : Int64) (1 : Int64)).mp z))).2) (by decide) (by decide) k) ?_
            show Go _ _ _ (T1.setTop (mkF m 20 #[.val (.long q1), .second, .val (.int p2), .val (.long 3), .second, .unset, .unset] [])) _
            refine Go.st (fun t k => XS.lloadN X1.here hx rfl (hb hby at_20) rfl k) ?_
            refine Go.st (fun t k => X1.ldc2Long hx hown (mvT hZ (wd4 hw)) (g := (mkF m 21 #[.val (.long q1), .second, .val (.int p2), .val (.long 3), .second, .unset, .unset] [(.long 3)])) rfl (hb hby at_21) _ k) ?_
            show Go _ _ _ (T1.setTop (mkF m 24 #[.val (.long q1), .second, .val (.int p2), .val (.long 3), .second, .unset, .unset] [(.long 2), (.long 3)])) _
            refine Go.st (fun t k => XS.lcmp X1.here hx rfl (hb hby at_24) rfl k) ?_
            show Go _ _ _ (T1.setTop (mkF m 25 #[.val (.long q1), .second, .val (.int p2), .val (.long 3), .second, .unset, .unset] [(.int (lcmpW (3 : Int64) (2 : Int64)))])) _
            refine Go.st (fun t k => XS.ifYes X1.here hx rfl (pc0 := 25) (pc' := 36) rfl (hb hby at_25) rfl ((if0 _ _).trans (feq (fun z => (by decide : ¬ ((3 : Int64) = (2 : Int64))) ((lw_eq (3 : Int64) (2 : Int64)).mp z))).2) (by decide) (by decide) k) ?_
            show Go _ _ _ (T1.setTop (mkF m 36 #[.val (.long q1), .second, .val (.int p2), .val (.long 3), .second, .unset, .unset] [])) _
            refine Go.st (fun t k => XS.aconstNull X1.here hx rfl (hb hby at_36) k) ?_
            refine Go.st (fun t k => XS.astore X1.here hx rfl (hb hby at_37) rfl rfl (l' := #[.val (.long q1), .second, .val (.int p2), .val (.long 3), .second, .val .null, .unset]) rfl k) ?_
            refine Go.st (fun t k => XS.lloadN X1.here hx rfl (hb hby at_39) rfl k) ?_
            obtain ⟨_, _, ⟨T23, L23, k23, n23⟩, -, X23, ⟨Lc23, hQ23, l23, y23, z23⟩, st23⟩ := Jvm.LawKit.callS X1 hx (y := (⟨"com/example/gloom/gloom/io/FilterKind", "fromCode", "(J)Lcom/example/gloom/gloom/io/FilterKind;"⟩ : MethodName)) hown (mvT hZ (wd8 hw)) (mvT hZ (wd9 hw)) (mvT hZ (wd6 hw)) (mvT hZ (wd10 hw)) (by decide) (backOf (W := 0) (rm2 l Z a0 hw [] (3 : Int64) w__VALUES k_v w_PLAIN w_COUNTING h0 n0 Z0 S__VALUES E_VALS V_VALS E_w_PLAIN F_w_PLAIN_code E_w_COUNTING F_w_COUNTING_code) hZ (wd10 hw) (wd6 hw) (by decide) (by decide)) (g := (mkF m 40 #[.val (.long q1), .second, .val (.int p2), .val (.long 3), .second, .val .null, .unset] [(.long 3)])) rfl (by rw [hml]; rfl) (argsL := [(.long (3 : Int64))]) (rest := []) (lenOf pd2 rfl) rfl (by show 2 * 0 + _ ≤ _; exact Nat.le_of_eq rfl) (hb hby at_40) (fun _ _ => ⟨rfl, e1, (by decide : 0 + 1 ≤ _), (by decide : 0 + 2 ≤ _)⟩)
            dsimp only [Pt.U, Pt.locs, Pt.cells, Pt.slots] at X23 l23 y23 z23 st23 hQ23
            subst l23 y23 z23
            refine Go.st st23 ?_
            obtain ⟨h23, e23⟩ : ∃ z, T23.heap = z := ⟨_, rfl⟩
            rw [e23] at hQ23
            obtain ⟨rfl, N23q, K23⟩ := hQ23
            replace S__VALUES := sta_keep S__VALUES K23 all0
            replace E_VALS := E_VALS.keep K23
            replace V_VALS := V_VALS.keep K23 nin0
            replace E_w_PLAIN := E_w_PLAIN.keep K23
            replace F_w_PLAIN_code := F_w_PLAIN_code.keep K23 nin0
            replace E_w_COUNTING := E_w_COUNTING.keep K23
            replace F_w_COUNTING_code := F_w_COUNTING_code.keep K23 nin0
            replace S_PLAIN := sta_keep S_PLAIN K23 all0
            replace S_COUNTING := sta_keep S_COUNTING K23 all0
            replace Z0 := Nat.le_trans Z0 K23.1
            replace K0 := K0.trans K23 all0
            have N23 := Fr.app N1 N23q
            show Go _ _ _ (T23.setTop (mkF m 43 #[.val (.long q1), .second, .val (.int p2), .val (.long 3), .second, .val .null, .unset] [(f2 (3 : Int64) w_PLAIN w_COUNTING)])) _
            rw [show (f2 (3 : Int64) w_PLAIN w_COUNTING) = (.null : Value) from by unfold f2; simp only [if_neg (by decide : ¬ ((1 : Int64) = (3 : Int64))), if_neg (by decide : ¬ ((2 : Int64) = (3 : Int64))), if_true, if_false]]
            show Go _ _ _ (T23.setTop (mkF m 43 #[.val (.long q1), .second, .val (.int p2), .val (.long 3), .second, .val .null, .unset] [.null])) _
            refine Go.st (fun t k => XS.astore X23.here hx rfl (hb hby at_43) rfl rfl (l' := #[.val (.long q1), .second, .val (.int p2), .val (.long 3), .second, .val .null, .val .null]) rfl k) ?_
            refine Go.st (fun t k => XS.aload X23.here hx rfl (hb hby at_45) rfl rfl k) ?_
            refine Go.st (fun t k => XS.aload X23.here hx rfl (hb hby at_47) rfl rfl k) ?_
            refine Go.st (fun t k => Jvm.RoadKit.acmp (g := (mkF m 49 #[.val (.long q1), .second, .val (.int p2), .val (.long 3), .second, .val .null, .val .null] [.null, .null])) X23 hx rfl rfl rfl (pc0 := 49) (pc' := 54) (same := true) rfl (hb hby at_49) rfl (decide_eq_true rfl) (by decide) (by decide) k) ?_
            show Go _ _ _ (T23.setTop (mkF m 54 #[.val (.long q1), .second, .val (.int p2), .val (.long 3), .second, .val .null, .val .null] [])) _
            refine Go.st (fun t k => XS.aload X23.here hx rfl (hb hby at_54) rfl rfl k) ?_
            refine Go.st (fun t k => XS.ifnullYes X23.here hx rfl (pc0 := 56) (pc' := 72) rfl (hb hby at_56) rfl (by decide) (by decide) k) ?_
            show Go _ _ _ (T23.setTop (mkF m 72 #[.val (.long q1), .second, .val (.int p2), .val (.long 3), .second, .val .null, .val .null] [])) _
            refine Go.st (fun t k => XS.iconst X23.here hx rfl (hb hby at_72) k) ?_
            obtain ⟨fs, hr, hrun, hended, hW, hsame⟩ := X23.leave (v := some (.int (1 : Int32))) (fun h => by rw [Bd.returns] at h; cases h)
            refine Go.fin (retN X23 hx (t := .boolean) Bd.returns (by simp) (hb hby at_73) hr) hrun hended ⟨_, _, rfl, ?_, ⟨_, rfl⟩, hW, hsame.mono (by decide) (by decide)⟩
            show Q0 Z q1 p2 w__VALUES k_v w_PLAIN w_COUNTING h0 n0 _ T23.heap _
            rw [e23]
            exact ⟨rfl, N23⟩
          · by_cases hc24 : (p2 &&& (7 : Int32)) = (5 : Int32)
            · rw [show (f1 q1 p2) = (-q1) from by unfold f1; simp only [if_neg hc2, if_neg hc12, if_neg hc16, if_neg hc20, if_neg hc22, if_pos hc24, if_true, if_false]]
              show Go _ _ _ (T1.setTop (mkF m 5 #[.val (.long q1), .second, .val (.int p2), .unset, .unset, .unset, .unset] [(.long (-q1))])) _
              refine Go.st (fun t k => XS.lstoreN X1.here hx rfl (hb hby at_5) rfl (l' := #[.val (.long q1), .second, .val (.int p2), .val (.long (-q1)), .second, .unset, .unset]) rfl k) ?_
              refine Go.st (fun t k => XS.lloadN X1.here hx rfl (hb hby at_6) rfl k) ?_
              refine Go.st (fun t k => XS.lconst X1.here hx rfl (hb hby at_7) k) ?_
              refine Go.st (fun t k => XS.lcmp X1.here hx rfl (hb hby at_8) rfl k) ?_
              show Go _ _ _ (T1.setTop (mkF m 9 #[.val (.long q1), .second, .val (.int p2), .val (.long (-q1)), .second, .unset, .unset] [(.int (lcmpW (-q1) (1 : Int64)))])) _
              by_cases hc25 : (-q1) = (1 : Int64)
              · refine Go.st (fun t k => XS.ifNo X1.here hx rfl (hb hby at_9) rfl ((if0 _ _).trans (teq ((lw_eq (-q1) (1 : Int64)).mpr hc25)).2) k) ?_
                show Go _ _ _ (T1.setTop (mkF m 12 #[.val (.long q1), .second, .val (.int p2), .val (.long (-q1)), .second, .unset, .unset] [])) _
                obtain ⟨T26, X26, e26, st26⟩ := getS2 X1 hx hZ hown (host := "") (Or.inl (wd35 hw)) Via.refl e1 S_PLAIN (g := (mkF m 12 #[.val (.long q1), .second, .val (.int p2), .val (.long (-q1)), .second, .unset, .unset] [])) rfl (hb hby at_12)
                refine Go.st st26 ?_
                show Go _ _ _ (T26.setTop (mkF m 15 #[.val (.long q1), .second, .val (.int p2), .val (.long (-q1)), .second, .unset, .unset] [(.ref w_PLAIN)])) _
                refine Go.st (fun t k => XS.astore X26.here hx rfl (hb hby at_15) rfl rfl (l' := #[.val (.long q1), .second, .val (.int p2), .val (.long (-q1)), .second, .val (.ref w_PLAIN), .unset]) rfl k) ?_
                refine Go.st (fun t k => XS.goto X26.here hx rfl (pc0 := 17) (pc' := 39) rfl (hb hby at_17) (by decide) (by decide) k) ?_
                refine Go.st (fun t k => XS.lloadN X26.here hx rfl (hb hby at_39) rfl k) ?_
                obtain ⟨_, _, ⟨T27, L27, k27, n27⟩, -, X27, ⟨Lc27, hQ27, l27, y27, z27⟩, st27⟩ := Jvm.LawKit.callS X26 hx (y := (⟨"com/example/gloom/gloom/io/FilterKind", "fromCode", "(J)Lcom/example/gloom/gloom/io/FilterKind;"⟩ : MethodName)) hown (mvT hZ (wd8 hw)) (mvT hZ (wd9 hw)) (mvT hZ (wd6 hw)) (mvT hZ (wd10 hw)) (by decide) (backOf (W := 0) (rm2 l Z a0 hw [] (-q1) w__VALUES k_v w_PLAIN w_COUNTING h0 n0 Z0 S__VALUES E_VALS V_VALS E_w_PLAIN F_w_PLAIN_code E_w_COUNTING F_w_COUNTING_code) hZ (wd10 hw) (wd6 hw) (by decide) (by decide)) (g := (mkF m 40 #[.val (.long q1), .second, .val (.int p2), .val (.long (-q1)), .second, .val (.ref w_PLAIN), .unset] [(.long (-q1))])) rfl (by rw [hml]; rfl) (argsL := [(.long (-q1))]) (rest := []) (lenOf pd2 rfl) rfl (by show 2 * 0 + _ ≤ _; exact Nat.le_of_eq rfl) (hb hby at_40) (fun _ _ => ⟨rfl, e26, (by decide : 0 + 1 ≤ _), (by decide : 0 + 2 ≤ _)⟩)
                dsimp only [Pt.U, Pt.locs, Pt.cells, Pt.slots] at X27 l27 y27 z27 st27 hQ27
                subst l27 y27 z27
                refine Go.st st27 ?_
                obtain ⟨h27, e27⟩ : ∃ z, T27.heap = z := ⟨_, rfl⟩
                rw [e27] at hQ27
                obtain ⟨rfl, N27q, K27⟩ := hQ27
                replace S__VALUES := sta_keep S__VALUES K27 all0
                replace E_VALS := E_VALS.keep K27
                replace V_VALS := V_VALS.keep K27 nin0
                replace E_w_PLAIN := E_w_PLAIN.keep K27
                replace F_w_PLAIN_code := F_w_PLAIN_code.keep K27 nin0
                replace E_w_COUNTING := E_w_COUNTING.keep K27
                replace F_w_COUNTING_code := F_w_COUNTING_code.keep K27 nin0
                replace S_PLAIN := sta_keep S_PLAIN K27 all0
                replace S_COUNTING := sta_keep S_COUNTING K27 all0
                replace Z0 := Nat.le_trans Z0 K27.1
                replace K0 := K0.trans K27 all0
                have N27 := Fr.app N1 N27q
                show Go _ _ _ (T27.setTop (mkF m 43 #[.val (.long q1), .second, .val (.int p2), .val (.long (-q1)), .second, .val (.ref w_PLAIN), .unset] [(f2 (-q1) w_PLAIN w_COUNTING)])) _
                rw [show (f2 (-q1) w_PLAIN w_COUNTING) = ((.ref w_PLAIN) : Value) from by unfold f2; simp only [if_pos (Eq.symm hc25), if_true, if_false]]
                show Go _ _ _ (T27.setTop (mkF m 43 #[.val (.long q1), .second, .val (.int p2), .val (.long (-q1)), .second, .val (.ref w_PLAIN), .unset] [(.ref w_PLAIN)])) _
                refine Go.st (fun t k => XS.astore X27.here hx rfl (hb hby at_43) rfl rfl (l' := #[.val (.long q1), .second, .val (.int p2), .val (.long (-q1)), .second, .val (.ref w_PLAIN), .val (.ref w_PLAIN)]) rfl k) ?_
                refine Go.st (fun t k => XS.aload X27.here hx rfl (hb hby at_45) rfl rfl k) ?_
                refine Go.st (fun t k => XS.aload X27.here hx rfl (hb hby at_47) rfl rfl k) ?_
                refine Go.st (fun t k => Jvm.RoadKit.acmp (g := (mkF m 49 #[.val (.long q1), .second, .val (.int p2), .val (.long (-q1)), .second, .val (.ref w_PLAIN), .val (.ref w_PLAIN)] [(.ref w_PLAIN), (.ref w_PLAIN)])) X27 hx rfl rfl rfl (pc0 := 49) (pc' := 54) (same := true) rfl (hb hby at_49) rfl (decide_eq_true rfl) (by decide) (by decide) k) ?_
                show Go _ _ _ (T27.setTop (mkF m 54 #[.val (.long q1), .second, .val (.int p2), .val (.long (-q1)), .second, .val (.ref w_PLAIN), .val (.ref w_PLAIN)] [])) _
                refine Go.st (fun t k => XS.aload X27.here hx rfl (hb hby at_54) rfl rfl k) ?_
                refine Go.st (fun t k => XS.ifnullNo X27.here hx rfl (hb hby at_56) rfl k) ?_
                show Go _ _ _ (T27.setTop (mkF m 59 #[.val (.long q1), .second, .val (.int p2), .val (.long (-q1)), .second, .val (.ref w_PLAIN), .val (.ref w_PLAIN)] [])) _
                refine Go.st (fun t k => XS.aload X27.here hx rfl (hb hby at_59) rfl rfl k) ?_
                obtain ⟨cq28, kq28, q28a, q28b, q28c⟩ := isOf hZ e27 E_w_PLAIN
                obtain ⟨_, _, ⟨T28, L28, k28, n28⟩, -, X28, ⟨Lc28, hQ28, l28, y28, z28⟩, st28⟩ := X27.virtualBack hx (y := (⟨"com/example/gloom/gloom/io/FilterKind", "getCode", "()I"⟩ : MethodName)) (z := (⟨"com/example/gloom/gloom/io/FilterKind", "getCode", "()I"⟩ : MethodName)) hown (mvT hZ (wd29 hw)) (mvT hZ (wd30 hw)) (notFace_of_selects (args := #[]) (mvT hZ (wd32 hw))) (mvT hZ (wd32 hw)) (mvT hZ (wd31 hw)) (by decide) (backOf (W := 0) (rm4 l Z a0 hw [] w_PLAIN (1 : Int32) h27 n0 Z0 F_w_PLAIN_code) hZ (wd33 hw) (wd6 hw) (by decide) (by decide)) q28a q28c (g := (mkF m 61 #[.val (.long q1), .second, .val (.int p2), .val (.long (-q1)), .second, .val (.ref w_PLAIN), .val (.ref w_PLAIN)] [(.ref w_PLAIN)])) rfl (by rw [hml]; rfl) (Steps.refl _) (argsL := []) (rest := []) (lenOf pd3 rfl) rfl (by show 2 * 0 + _ ≤ _; exact Nat.le_of_eq rfl) (hb hby at_61) (fun _ _ => ⟨rfl, e27, (by decide : 1 + 0 ≤ _), (by decide : 2 + 0 ≤ _)⟩)
                dsimp only [Pt.U, Pt.locs, Pt.cells, Pt.slots] at X28 l28 y28 z28 st28 hQ28
                subst l28 y28 z28
                refine Go.tr st28 ?_
                obtain ⟨rfl, N28q, e28⟩ := hQ28
                have N28 := Fr.app N27 N28q
                show Go _ _ _ (T28.setTop (mkF m 64 #[.val (.long q1), .second, .val (.int p2), .val (.long (-q1)), .second, .val (.ref w_PLAIN), .val (.ref w_PLAIN)] [(.int 1)])) _
                refine Go.st (fun t k => XS.i2l X28.here hx rfl (hb hby at_64) rfl k) ?_
                show Go _ _ _ (T28.setTop (mkF m 65 #[.val (.long q1), .second, .val (.int p2), .val (.long (-q1)), .second, .val (.ref w_PLAIN), .val (.ref w_PLAIN)] [(.long 1)])) _
                refine Go.st (fun t k => XS.lloadN X28.here hx rfl (hb hby at_65) rfl k) ?_
                refine Go.st (fun t k => XS.lcmp X28.here hx rfl (hb hby at_66) rfl k) ?_
                show Go _ _ _ (T28.setTop (mkF m 67 #[.val (.long q1), .second, .val (.int p2), .val (.long (-q1)), .second, .val (.ref w_PLAIN), .val (.ref w_PLAIN)] [(.int (lcmpW (1 : Int64) (-q1)))])) _
                refine Go.st (fun t k => XS.ifYes X28.here hx rfl (pc0 := 67) (pc' := 72) rfl (hb hby at_67) rfl ((if0 _ _).trans (teq ((lw_eq (1 : Int64) (-q1)).mpr (Eq.symm hc25))).1) (by decide) (by decide) k) ?_
                show Go _ _ _ (T28.setTop (mkF m 72 #[.val (.long q1), .second, .val (.int p2), .val (.long (-q1)), .second, .val (.ref w_PLAIN), .val (.ref w_PLAIN)] [])) _
                refine Go.st (fun t k => XS.iconst X28.here hx rfl (hb hby at_72) k) ?_
                obtain ⟨fs, hr, hrun, hended, hW, hsame⟩ := X28.leave (v := some (.int (1 : Int32))) (fun h => by rw [Bd.returns] at h; cases h)
                refine Go.fin (retN X28 hx (t := .boolean) Bd.returns (by simp) (hb hby at_73) hr) hrun hended ⟨_, _, rfl, ?_, ⟨_, rfl⟩, hW, hsame.mono (by decide) (by decide)⟩
                show Q0 Z q1 p2 w__VALUES k_v w_PLAIN w_COUNTING h0 n0 _ T28.heap _
                rw [e28]
                exact ⟨rfl, N28⟩
              · refine Go.st (fun t k => XS.ifYes X1.here hx rfl (pc0 := 9) (pc' := 20) rfl (hb hby at_9) rfl ((if0 _ _).trans (feq (fun z => hc25 ((lw_eq (-q1) (1 : Int64)).mp z))).2) (by decide) (by decide) k) ?_
                show Go _ _ _ (T1.setTop (mkF m 20 #[.val (.long q1), .second, .val (.int p2), .val (.long (-q1)), .second, .unset, .unset] [])) _
                refine Go.st (fun t k => XS.lloadN X1.here hx rfl (hb hby at_20) rfl k) ?_
                refine Go.st (fun t k => X1.ldc2Long hx hown (mvT hZ (wd4 hw)) (g := (mkF m 21 #[.val (.long q1), .second, .val (.int p2), .val (.long (-q1)), .second, .unset, .unset] [(.long (-q1))])) rfl (hb hby at_21) _ k) ?_
                show Go _ _ _ (T1.setTop (mkF m 24 #[.val (.long q1), .second, .val (.int p2), .val (.long (-q1)), .second, .unset, .unset] [(.long 2), (.long (-q1))])) _
                refine Go.st (fun t k => XS.lcmp X1.here hx rfl (hb hby at_24) rfl k) ?_
                show Go _ _ _ (T1.setTop (mkF m 25 #[.val (.long q1), .second, .val (.int p2), .val (.long (-q1)), .second, .unset, .unset] [(.int (lcmpW (-q1) (2 : Int64)))])) _
                by_cases hc29 : (-q1) = (2 : Int64)
                · refine Go.st (fun t k => XS.ifNo X1.here hx rfl (hb hby at_25) rfl ((if0 _ _).trans (teq ((lw_eq (-q1) (2 : Int64)).mpr hc29)).2) k) ?_
                  show Go _ _ _ (T1.setTop (mkF m 28 #[.val (.long q1), .second, .val (.int p2), .val (.long (-q1)), .second, .unset, .unset] [])) _
                  obtain ⟨T30, X30, e30, st30⟩ := getS2 X1 hx hZ hown (host := "") (Or.inl (wd5 hw)) Via.refl e1 S_COUNTING (g := (mkF m 28 #[.val (.long q1), .second, .val (.int p2), .val (.long (-q1)), .second, .unset, .unset] [])) rfl (hb hby at_28)
                  refine Go.st st30 ?_
                  show Go _ _ _ (T30.setTop (mkF m 31 #[.val (.long q1), .second, .val (.int p2), .val (.long (-q1)), .second, .unset, .unset] [(.ref w_COUNTING)])) _
                  refine Go.st (fun t k => XS.astore X30.here hx rfl (hb hby at_31) rfl rfl (l' := #[.val (.long q1), .second, .val (.int p2), .val (.long (-q1)), .second, .val (.ref w_COUNTING), .unset]) rfl k) ?_
                  refine Go.st (fun t k => XS.goto X30.here hx rfl (pc0 := 33) (pc' := 39) rfl (hb hby at_33) (by decide) (by decide) k) ?_
                  refine Go.st (fun t k => XS.lloadN X30.here hx rfl (hb hby at_39) rfl k) ?_
                  obtain ⟨_, _, ⟨T31, L31, k31, n31⟩, -, X31, ⟨Lc31, hQ31, l31, y31, z31⟩, st31⟩ := Jvm.LawKit.callS X30 hx (y := (⟨"com/example/gloom/gloom/io/FilterKind", "fromCode", "(J)Lcom/example/gloom/gloom/io/FilterKind;"⟩ : MethodName)) hown (mvT hZ (wd8 hw)) (mvT hZ (wd9 hw)) (mvT hZ (wd6 hw)) (mvT hZ (wd10 hw)) (by decide) (backOf (W := 0) (rm2 l Z a0 hw [] (-q1) w__VALUES k_v w_PLAIN w_COUNTING h0 n0 Z0 S__VALUES E_VALS V_VALS E_w_PLAIN F_w_PLAIN_code E_w_COUNTING F_w_COUNTING_code) hZ (wd10 hw) (wd6 hw) (by decide) (by decide)) (g := (mkF m 40 #[.val (.long q1), .second, .val (.int p2), .val (.long (-q1)), .second, .val (.ref w_COUNTING), .unset] [(.long (-q1))])) rfl (by rw [hml]; rfl) (argsL := [(.long (-q1))]) (rest := []) (lenOf pd2 rfl) rfl (by show 2 * 0 + _ ≤ _; exact Nat.le_of_eq rfl) (hb hby at_40) (fun _ _ => ⟨rfl, e30, (by decide : 0 + 1 ≤ _), (by decide : 0 + 2 ≤ _)⟩)
                  dsimp only [Pt.U, Pt.locs, Pt.cells, Pt.slots] at X31 l31 y31 z31 st31 hQ31
                  subst l31 y31 z31
                  refine Go.st st31 ?_
                  obtain ⟨h31, e31⟩ : ∃ z, T31.heap = z := ⟨_, rfl⟩
                  rw [e31] at hQ31
                  obtain ⟨rfl, N31q, K31⟩ := hQ31
                  replace S__VALUES := sta_keep S__VALUES K31 all0
                  replace E_VALS := E_VALS.keep K31
                  replace V_VALS := V_VALS.keep K31 nin0
                  replace E_w_PLAIN := E_w_PLAIN.keep K31
                  replace F_w_PLAIN_code := F_w_PLAIN_code.keep K31 nin0
                  replace E_w_COUNTING := E_w_COUNTING.keep K31
                  replace F_w_COUNTING_code := F_w_COUNTING_code.keep K31 nin0
                  replace S_PLAIN := sta_keep S_PLAIN K31 all0
                  replace S_COUNTING := sta_keep S_COUNTING K31 all0
                  replace Z0 := Nat.le_trans Z0 K31.1
                  replace K0 := K0.trans K31 all0
                  have N31 := Fr.app N1 N31q
                  show Go _ _ _ (T31.setTop (mkF m 43 #[.val (.long q1), .second, .val (.int p2), .val (.long (-q1)), .second, .val (.ref w_COUNTING), .unset] [(f2 (-q1) w_PLAIN w_COUNTING)])) _
                  rw [show (f2 (-q1) w_PLAIN w_COUNTING) = ((.ref w_COUNTING) : Value) from by unfold f2; simp only [if_neg (show ¬ ((1 : Int64) = (-q1)) from fun z => hc25 z.symm), if_pos (Eq.symm hc29), if_true, if_false]]
                  show Go _ _ _ (T31.setTop (mkF m 43 #[.val (.long q1), .second, .val (.int p2), .val (.long (-q1)), .second, .val (.ref w_COUNTING), .unset] [(.ref w_COUNTING)])) _
                  refine Go.st (fun t k => XS.astore X31.here hx rfl (hb hby at_43) rfl rfl (l' := #[.val (.long q1), .second, .val (.int p2), .val (.long (-q1)), .second, .val (.ref w_COUNTING), .val (.ref w_COUNTING)]) rfl k) ?_
                  refine Go.st (fun t k => XS.aload X31.here hx rfl (hb hby at_45) rfl rfl k) ?_
                  refine Go.st (fun t k => XS.aload X31.here hx rfl (hb hby at_47) rfl rfl k) ?_
                  refine Go.st (fun t k => Jvm.RoadKit.acmp (g := (mkF m 49 #[.val (.long q1), .second, .val (.int p2), .val (.long (-q1)), .second, .val (.ref w_COUNTING), .val (.ref w_COUNTING)] [(.ref w_COUNTING), (.ref w_COUNTING)])) X31 hx rfl rfl rfl (pc0 := 49) (pc' := 54) (same := true) rfl (hb hby at_49) rfl (decide_eq_true rfl) (by decide) (by decide) k) ?_
                  show Go _ _ _ (T31.setTop (mkF m 54 #[.val (.long q1), .second, .val (.int p2), .val (.long (-q1)), .second, .val (.ref w_COUNTING), .val (.ref w_COUNTING)] [])) _
                  refine Go.st (fun t k => XS.aload X31.here hx rfl (hb hby at_54) rfl rfl k) ?_
                  refine Go.st (fun t k => XS.ifnullNo X31.here hx rfl (hb hby at_56) rfl k) ?_
                  show Go _ _ _ (T31.setTop (mkF m 59 #[.val (.long q1), .second, .val (.int p2), .val (.long (-q1)), .second, .val (.ref w_COUNTING), .val (.ref w_COUNTING)] [])) _
                  refine Go.st (fun t k => XS.aload X31.here hx rfl (hb hby at_59) rfl rfl k) ?_
                  obtain ⟨cq32, kq32, q32a, q32b, q32c⟩ := isOf hZ e31 E_w_COUNTING
                  obtain ⟨_, _, ⟨T32, L32, k32, n32⟩, -, X32, ⟨Lc32, hQ32, l32, y32, z32⟩, st32⟩ := X31.virtualBack hx (y := (⟨"com/example/gloom/gloom/io/FilterKind", "getCode", "()I"⟩ : MethodName)) (z := (⟨"com/example/gloom/gloom/io/FilterKind", "getCode", "()I"⟩ : MethodName)) hown (mvT hZ (wd29 hw)) (mvT hZ (wd30 hw)) (notFace_of_selects (args := #[]) (mvT hZ (wd32 hw))) (mvT hZ (wd32 hw)) (mvT hZ (wd31 hw)) (by decide) (backOf (W := 0) (rm4 l Z a0 hw [] w_COUNTING (2 : Int32) h31 n0 Z0 F_w_COUNTING_code) hZ (wd33 hw) (wd6 hw) (by decide) (by decide)) q32a q32c (g := (mkF m 61 #[.val (.long q1), .second, .val (.int p2), .val (.long (-q1)), .second, .val (.ref w_COUNTING), .val (.ref w_COUNTING)] [(.ref w_COUNTING)])) rfl (by rw [hml]; rfl) (Steps.refl _) (argsL := []) (rest := []) (lenOf pd3 rfl) rfl (by show 2 * 0 + _ ≤ _; exact Nat.le_of_eq rfl) (hb hby at_61) (fun _ _ => ⟨rfl, e31, (by decide : 1 + 0 ≤ _), (by decide : 2 + 0 ≤ _)⟩)
                  dsimp only [Pt.U, Pt.locs, Pt.cells, Pt.slots] at X32 l32 y32 z32 st32 hQ32
                  subst l32 y32 z32
                  refine Go.tr st32 ?_
                  obtain ⟨rfl, N32q, e32⟩ := hQ32
                  have N32 := Fr.app N31 N32q
                  show Go _ _ _ (T32.setTop (mkF m 64 #[.val (.long q1), .second, .val (.int p2), .val (.long (-q1)), .second, .val (.ref w_COUNTING), .val (.ref w_COUNTING)] [(.int 2)])) _
                  refine Go.st (fun t k => XS.i2l X32.here hx rfl (hb hby at_64) rfl k) ?_
                  show Go _ _ _ (T32.setTop (mkF m 65 #[.val (.long q1), .second, .val (.int p2), .val (.long (-q1)), .second, .val (.ref w_COUNTING), .val (.ref w_COUNTING)] [(.long 2)])) _
                  refine Go.st (fun t k => XS.lloadN X32.here hx rfl (hb hby at_65) rfl k) ?_
                  refine Go.st (fun t k => XS.lcmp X32.here hx rfl (hb hby at_66) rfl k) ?_
                  show Go _ _ _ (T32.setTop (mkF m 67 #[.val (.long q1), .second, .val (.int p2), .val (.long (-q1)), .second, .val (.ref w_COUNTING), .val (.ref w_COUNTING)] [(.int (lcmpW (2 : Int64) (-q1)))])) _
                  refine Go.st (fun t k => XS.ifYes X32.here hx rfl (pc0 := 67) (pc' := 72) rfl (hb hby at_67) rfl ((if0 _ _).trans (teq ((lw_eq (2 : Int64) (-q1)).mpr (Eq.symm hc29))).1) (by decide) (by decide) k) ?_
                  show Go _ _ _ (T32.setTop (mkF m 72 #[.val (.long q1), .second, .val (.int p2), .val (.long (-q1)), .second, .val (.ref w_COUNTING), .val (.ref w_COUNTING)] [])) _
                  refine Go.st (fun t k => XS.iconst X32.here hx rfl (hb hby at_72) k) ?_
                  obtain ⟨fs, hr, hrun, hended, hW, hsame⟩ := X32.leave (v := some (.int (1 : Int32))) (fun h => by rw [Bd.returns] at h; cases h)
                  refine Go.fin (retN X32 hx (t := .boolean) Bd.returns (by simp) (hb hby at_73) hr) hrun hended ⟨_, _, rfl, ?_, ⟨_, rfl⟩, hW, hsame.mono (by decide) (by decide)⟩
                  show Q0 Z q1 p2 w__VALUES k_v w_PLAIN w_COUNTING h0 n0 _ T32.heap _
                  rw [e32]
                  exact ⟨rfl, N32⟩
                · refine Go.st (fun t k => XS.ifYes X1.here hx rfl (pc0 := 25) (pc' := 36) rfl (hb hby at_25) rfl ((if0 _ _).trans (feq (fun z => hc29 ((lw_eq (-q1) (2 : Int64)).mp z))).2) (by decide) (by decide) k) ?_
                  show Go _ _ _ (T1.setTop (mkF m 36 #[.val (.long q1), .second, .val (.int p2), .val (.long (-q1)), .second, .unset, .unset] [])) _
                  refine Go.st (fun t k => XS.aconstNull X1.here hx rfl (hb hby at_36) k) ?_
                  refine Go.st (fun t k => XS.astore X1.here hx rfl (hb hby at_37) rfl rfl (l' := #[.val (.long q1), .second, .val (.int p2), .val (.long (-q1)), .second, .val .null, .unset]) rfl k) ?_
                  refine Go.st (fun t k => XS.lloadN X1.here hx rfl (hb hby at_39) rfl k) ?_
                  obtain ⟨_, _, ⟨T33, L33, k33, n33⟩, -, X33, ⟨Lc33, hQ33, l33, y33, z33⟩, st33⟩ := Jvm.LawKit.callS X1 hx (y := (⟨"com/example/gloom/gloom/io/FilterKind", "fromCode", "(J)Lcom/example/gloom/gloom/io/FilterKind;"⟩ : MethodName)) hown (mvT hZ (wd8 hw)) (mvT hZ (wd9 hw)) (mvT hZ (wd6 hw)) (mvT hZ (wd10 hw)) (by decide) (backOf (W := 0) (rm2 l Z a0 hw [] (-q1) w__VALUES k_v w_PLAIN w_COUNTING h0 n0 Z0 S__VALUES E_VALS V_VALS E_w_PLAIN F_w_PLAIN_code E_w_COUNTING F_w_COUNTING_code) hZ (wd10 hw) (wd6 hw) (by decide) (by decide)) (g := (mkF m 40 #[.val (.long q1), .second, .val (.int p2), .val (.long (-q1)), .second, .val .null, .unset] [(.long (-q1))])) rfl (by rw [hml]; rfl) (argsL := [(.long (-q1))]) (rest := []) (lenOf pd2 rfl) rfl (by show 2 * 0 + _ ≤ _; exact Nat.le_of_eq rfl) (hb hby at_40) (fun _ _ => ⟨rfl, e1, (by decide : 0 + 1 ≤ _), (by decide : 0 + 2 ≤ _)⟩)
                  dsimp only [Pt.U, Pt.locs, Pt.cells, Pt.slots] at X33 l33 y33 z33 st33 hQ33
                  subst l33 y33 z33
                  refine Go.st st33 ?_
                  obtain ⟨h33, e33⟩ : ∃ z, T33.heap = z := ⟨_, rfl⟩
                  rw [e33] at hQ33
                  obtain ⟨rfl, N33q, K33⟩ := hQ33
                  replace S__VALUES := sta_keep S__VALUES K33 all0
                  replace E_VALS := E_VALS.keep K33
                  replace V_VALS := V_VALS.keep K33 nin0
                  replace E_w_PLAIN := E_w_PLAIN.keep K33
                  replace F_w_PLAIN_code := F_w_PLAIN_code.keep K33 nin0
                  replace E_w_COUNTING := E_w_COUNTING.keep K33
                  replace F_w_COUNTING_code := F_w_COUNTING_code.keep K33 nin0
                  replace S_PLAIN := sta_keep S_PLAIN K33 all0
                  replace S_COUNTING := sta_keep S_COUNTING K33 all0
                  replace Z0 := Nat.le_trans Z0 K33.1
                  replace K0 := K0.trans K33 all0
                  have N33 := Fr.app N1 N33q
                  show Go _ _ _ (T33.setTop (mkF m 43 #[.val (.long q1), .second, .val (.int p2), .val (.long (-q1)), .second, .val .null, .unset] [(f2 (-q1) w_PLAIN w_COUNTING)])) _
                  rw [show (f2 (-q1) w_PLAIN w_COUNTING) = (.null : Value) from by unfold f2; simp only [if_neg (show ¬ ((1 : Int64) = (-q1)) from fun z => hc25 z.symm), if_neg (show ¬ ((2 : Int64) = (-q1)) from fun z => hc29 z.symm), if_true, if_false]]
                  show Go _ _ _ (T33.setTop (mkF m 43 #[.val (.long q1), .second, .val (.int p2), .val (.long (-q1)), .second, .val .null, .unset] [.null])) _
                  refine Go.st (fun t k => XS.astore X33.here hx rfl (hb hby at_43) rfl rfl (l' := #[.val (.long q1), .second, .val (.int p2), .val (.long (-q1)), .second, .val .null, .val .null]) rfl k) ?_
                  refine Go.st (fun t k => XS.aload X33.here hx rfl (hb hby at_45) rfl rfl k) ?_
                  refine Go.st (fun t k => XS.aload X33.here hx rfl (hb hby at_47) rfl rfl k) ?_
                  refine Go.st (fun t k => Jvm.RoadKit.acmp (g := (mkF m 49 #[.val (.long q1), .second, .val (.int p2), .val (.long (-q1)), .second, .val .null, .val .null] [.null, .null])) X33 hx rfl rfl rfl (pc0 := 49) (pc' := 54) (same := true) rfl (hb hby at_49) rfl (decide_eq_true rfl) (by decide) (by decide) k) ?_
                  show Go _ _ _ (T33.setTop (mkF m 54 #[.val (.long q1), .second, .val (.int p2), .val (.long (-q1)), .second, .val .null, .val .null] [])) _
                  refine Go.st (fun t k => XS.aload X33.here hx rfl (hb hby at_54) rfl rfl k) ?_
                  refine Go.st (fun t k => XS.ifnullYes X33.here hx rfl (pc0 := 56) (pc' := 72) rfl (hb hby at_56) rfl (by decide) (by decide) k) ?_
                  show Go _ _ _ (T33.setTop (mkF m 72 #[.val (.long q1), .second, .val (.int p2), .val (.long (-q1)), .second, .val .null, .val .null] [])) _
                  refine Go.st (fun t k => XS.iconst X33.here hx rfl (hb hby at_72) k) ?_
                  obtain ⟨fs, hr, hrun, hended, hW, hsame⟩ := X33.leave (v := some (.int (1 : Int32))) (fun h => by rw [Bd.returns] at h; cases h)
                  refine Go.fin (retN X33 hx (t := .boolean) Bd.returns (by simp) (hb hby at_73) hr) hrun hended ⟨_, _, rfl, ?_, ⟨_, rfl⟩, hW, hsame.mono (by decide) (by decide)⟩
                  show Q0 Z q1 p2 w__VALUES k_v w_PLAIN w_COUNTING h0 n0 _ T33.heap _
                  rw [e33]
                  exact ⟨rfl, N33⟩
            · by_cases hc34 : (p2 &&& (7 : Int32)) = (6 : Int32)
              · rw [show (f1 q1 p2) = ((q1 <<< ((32 : Int32) &&& 0x3f).toInt64) ||| (1 : Int64)) from by unfold f1; simp only [if_neg hc2, if_neg hc12, if_neg hc16, if_neg hc20, if_neg hc22, if_neg hc24, if_pos hc34, if_true, if_false]]
                show Go _ _ _ (T1.setTop (mkF m 5 #[.val (.long q1), .second, .val (.int p2), .unset, .unset, .unset, .unset] [(.long ((q1 <<< ((32 : Int32) &&& 0x3f).toInt64) ||| (1 : Int64)))])) _
                refine Go.st (fun t k => XS.lstoreN X1.here hx rfl (hb hby at_5) rfl (l' := #[.val (.long q1), .second, .val (.int p2), .val (.long ((q1 <<< ((32 : Int32) &&& 0x3f).toInt64) ||| (1 : Int64))), .second, .unset, .unset]) rfl k) ?_
                refine Go.st (fun t k => XS.lloadN X1.here hx rfl (hb hby at_6) rfl k) ?_
                refine Go.st (fun t k => XS.lconst X1.here hx rfl (hb hby at_7) k) ?_
                refine Go.st (fun t k => XS.lcmp X1.here hx rfl (hb hby at_8) rfl k) ?_
                show Go _ _ _ (T1.setTop (mkF m 9 #[.val (.long q1), .second, .val (.int p2), .val (.long ((q1 <<< ((32 : Int32) &&& 0x3f).toInt64) ||| (1 : Int64))), .second, .unset, .unset] [(.int (lcmpW ((q1 <<< ((32 : Int32) &&& 0x3f).toInt64) ||| (1 : Int64)) (1 : Int64)))])) _
                by_cases hc35 : ((q1 <<< ((32 : Int32) &&& 0x3f).toInt64) ||| (1 : Int64)) = (1 : Int64)
                · refine Go.st (fun t k => XS.ifNo X1.here hx rfl (hb hby at_9) rfl ((if0 _ _).trans (teq ((lw_eq ((q1 <<< ((32 : Int32) &&& 0x3f).toInt64) ||| (1 : Int64)) (1 : Int64)).mpr hc35)).2) k) ?_
                  show Go _ _ _ (T1.setTop (mkF m 12 #[.val (.long q1), .second, .val (.int p2), .val (.long ((q1 <<< ((32 : Int32) &&& 0x3f).toInt64) ||| (1 : Int64))), .second, .unset, .unset] [])) _
                  obtain ⟨T36, X36, e36, st36⟩ := getS2 X1 hx hZ hown (host := "") (Or.inl (wd35 hw)) Via.refl e1 S_PLAIN (g := (mkF m 12 #[.val (.long q1), .second, .val (.int p2), .val (.long ((q1 <<< ((32 : Int32) &&& 0x3f).toInt64) ||| (1 : Int64))), .second, .unset, .unset] [])) rfl (hb hby at_12)
                  refine Go.st st36 ?_
                  show Go _ _ _ (T36.setTop (mkF m 15 #[.val (.long q1), .second, .val (.int p2), .val (.long ((q1 <<< ((32 : Int32) &&& 0x3f).toInt64) ||| (1 : Int64))), .second, .unset, .unset] [(.ref w_PLAIN)])) _
                  refine Go.st (fun t k => XS.astore X36.here hx rfl (hb hby at_15) rfl rfl (l' := #[.val (.long q1), .second, .val (.int p2), .val (.long ((q1 <<< ((32 : Int32) &&& 0x3f).toInt64) ||| (1 : Int64))), .second, .val (.ref w_PLAIN), .unset]) rfl k) ?_
                  refine Go.st (fun t k => XS.goto X36.here hx rfl (pc0 := 17) (pc' := 39) rfl (hb hby at_17) (by decide) (by decide) k) ?_
                  refine Go.st (fun t k => XS.lloadN X36.here hx rfl (hb hby at_39) rfl k) ?_
                  obtain ⟨_, _, ⟨T37, L37, k37, n37⟩, -, X37, ⟨Lc37, hQ37, l37, y37, z37⟩, st37⟩ := Jvm.LawKit.callS X36 hx (y := (⟨"com/example/gloom/gloom/io/FilterKind", "fromCode", "(J)Lcom/example/gloom/gloom/io/FilterKind;"⟩ : MethodName)) hown (mvT hZ (wd8 hw)) (mvT hZ (wd9 hw)) (mvT hZ (wd6 hw)) (mvT hZ (wd10 hw)) (by decide) (backOf (W := 0) (rm2 l Z a0 hw [] ((q1 <<< ((32 : Int32) &&& 0x3f).toInt64) ||| (1 : Int64)) w__VALUES k_v w_PLAIN w_COUNTING h0 n0 Z0 S__VALUES E_VALS V_VALS E_w_PLAIN F_w_PLAIN_code E_w_COUNTING F_w_COUNTING_code) hZ (wd10 hw) (wd6 hw) (by decide) (by decide)) (g := (mkF m 40 #[.val (.long q1), .second, .val (.int p2), .val (.long ((q1 <<< ((32 : Int32) &&& 0x3f).toInt64) ||| (1 : Int64))), .second, .val (.ref w_PLAIN), .unset] [(.long ((q1 <<< ((32 : Int32) &&& 0x3f).toInt64) ||| (1 : Int64)))])) rfl (by rw [hml]; rfl) (argsL := [(.long ((q1 <<< ((32 : Int32) &&& 0x3f).toInt64) ||| (1 : Int64)))]) (rest := []) (lenOf pd2 rfl) rfl (by show 2 * 0 + _ ≤ _; exact Nat.le_of_eq rfl) (hb hby at_40) (fun _ _ => ⟨rfl, e36, (by decide : 0 + 1 ≤ _), (by decide : 0 + 2 ≤ _)⟩)
                  dsimp only [Pt.U, Pt.locs, Pt.cells, Pt.slots] at X37 l37 y37 z37 st37 hQ37
                  subst l37 y37 z37
                  refine Go.st st37 ?_
                  obtain ⟨h37, e37⟩ : ∃ z, T37.heap = z := ⟨_, rfl⟩
                  rw [e37] at hQ37
                  obtain ⟨rfl, N37q, K37⟩ := hQ37
                  replace S__VALUES := sta_keep S__VALUES K37 all0
                  replace E_VALS := E_VALS.keep K37
                  replace V_VALS := V_VALS.keep K37 nin0
                  replace E_w_PLAIN := E_w_PLAIN.keep K37
                  replace F_w_PLAIN_code := F_w_PLAIN_code.keep K37 nin0
                  replace E_w_COUNTING := E_w_COUNTING.keep K37
                  replace F_w_COUNTING_code := F_w_COUNTING_code.keep K37 nin0
                  replace S_PLAIN := sta_keep S_PLAIN K37 all0
                  replace S_COUNTING := sta_keep S_COUNTING K37 all0
                  replace Z0 := Nat.le_trans Z0 K37.1
                  replace K0 := K0.trans K37 all0
                  have N37 := Fr.app N1 N37q
                  show Go _ _ _ (T37.setTop (mkF m 43 #[.val (.long q1), .second, .val (.int p2), .val (.long ((q1 <<< ((32 : Int32) &&& 0x3f).toInt64) ||| (1 : Int64))), .second, .val (.ref w_PLAIN), .unset] [(f2 ((q1 <<< ((32 : Int32) &&& 0x3f).toInt64) ||| (1 : Int64)) w_PLAIN w_COUNTING)])) _
                  rw [show (f2 ((q1 <<< ((32 : Int32) &&& 0x3f).toInt64) ||| (1 : Int64)) w_PLAIN w_COUNTING) = ((.ref w_PLAIN) : Value) from by unfold f2; simp only [if_pos (Eq.symm hc35), if_true, if_false]]
                  show Go _ _ _ (T37.setTop (mkF m 43 #[.val (.long q1), .second, .val (.int p2), .val (.long ((q1 <<< ((32 : Int32) &&& 0x3f).toInt64) ||| (1 : Int64))), .second, .val (.ref w_PLAIN), .unset] [(.ref w_PLAIN)])) _
                  refine Go.st (fun t k => XS.astore X37.here hx rfl (hb hby at_43) rfl rfl (l' := #[.val (.long q1), .second, .val (.int p2), .val (.long ((q1 <<< ((32 : Int32) &&& 0x3f).toInt64) ||| (1 : Int64))), .second, .val (.ref w_PLAIN), .val (.ref w_PLAIN)]) rfl k) ?_
                  refine Go.st (fun t k => XS.aload X37.here hx rfl (hb hby at_45) rfl rfl k) ?_
                  refine Go.st (fun t k => XS.aload X37.here hx rfl (hb hby at_47) rfl rfl k) ?_
                  refine Go.st (fun t k => Jvm.RoadKit.acmp (g := (mkF m 49 #[.val (.long q1), .second, .val (.int p2), .val (.long ((q1 <<< ((32 : Int32) &&& 0x3f).toInt64) ||| (1 : Int64))), .second, .val (.ref w_PLAIN), .val (.ref w_PLAIN)] [(.ref w_PLAIN), (.ref w_PLAIN)])) X37 hx rfl rfl rfl (pc0 := 49) (pc' := 54) (same := true) rfl (hb hby at_49) rfl (decide_eq_true rfl) (by decide) (by decide) k) ?_
                  show Go _ _ _ (T37.setTop (mkF m 54 #[.val (.long q1), .second, .val (.int p2), .val (.long ((q1 <<< ((32 : Int32) &&& 0x3f).toInt64) ||| (1 : Int64))), .second, .val (.ref w_PLAIN), .val (.ref w_PLAIN)] [])) _
                  refine Go.st (fun t k => XS.aload X37.here hx rfl (hb hby at_54) rfl rfl k) ?_
                  refine Go.st (fun t k => XS.ifnullNo X37.here hx rfl (hb hby at_56) rfl k) ?_
                  show Go _ _ _ (T37.setTop (mkF m 59 #[.val (.long q1), .second, .val (.int p2), .val (.long ((q1 <<< ((32 : Int32) &&& 0x3f).toInt64) ||| (1 : Int64))), .second, .val (.ref w_PLAIN), .val (.ref w_PLAIN)] [])) _
                  refine Go.st (fun t k => XS.aload X37.here hx rfl (hb hby at_59) rfl rfl k) ?_
                  obtain ⟨cq38, kq38, q38a, q38b, q38c⟩ := isOf hZ e37 E_w_PLAIN
                  obtain ⟨_, _, ⟨T38, L38, k38, n38⟩, -, X38, ⟨Lc38, hQ38, l38, y38, z38⟩, st38⟩ := X37.virtualBack hx (y := (⟨"com/example/gloom/gloom/io/FilterKind", "getCode", "()I"⟩ : MethodName)) (z := (⟨"com/example/gloom/gloom/io/FilterKind", "getCode", "()I"⟩ : MethodName)) hown (mvT hZ (wd29 hw)) (mvT hZ (wd30 hw)) (notFace_of_selects (args := #[]) (mvT hZ (wd32 hw))) (mvT hZ (wd32 hw)) (mvT hZ (wd31 hw)) (by decide) (backOf (W := 0) (rm4 l Z a0 hw [] w_PLAIN (1 : Int32) h37 n0 Z0 F_w_PLAIN_code) hZ (wd33 hw) (wd6 hw) (by decide) (by decide)) q38a q38c (g := (mkF m 61 #[.val (.long q1), .second, .val (.int p2), .val (.long ((q1 <<< ((32 : Int32) &&& 0x3f).toInt64) ||| (1 : Int64))), .second, .val (.ref w_PLAIN), .val (.ref w_PLAIN)] [(.ref w_PLAIN)])) rfl (by rw [hml]; rfl) (Steps.refl _) (argsL := []) (rest := []) (lenOf pd3 rfl) rfl (by show 2 * 0 + _ ≤ _; exact Nat.le_of_eq rfl) (hb hby at_61) (fun _ _ => ⟨rfl, e37, (by decide : 1 + 0 ≤ _), (by decide : 2 + 0 ≤ _)⟩)
                  dsimp only [Pt.U, Pt.locs, Pt.cells, Pt.slots] at X38 l38 y38 z38 st38 hQ38
                  subst l38 y38 z38
                  refine Go.tr st38 ?_
                  obtain ⟨rfl, N38q, e38⟩ := hQ38
                  have N38 := Fr.app N37 N38q
                  show Go _ _ _ (T38.setTop (mkF m 64 #[.val (.long q1), .second, .val (.int p2), .val (.long ((q1 <<< ((32 : Int32) &&& 0x3f).toInt64) ||| (1 : Int64))), .second, .val (.ref w_PLAIN), .val (.ref w_PLAIN)] [(.int 1)])) _
                  refine Go.st (fun t k => XS.i2l X38.here hx rfl (hb hby at_64) rfl k) ?_
                  show Go _ _ _ (T38.setTop (mkF m 65 #[.val (.long q1), .second, .val (.int p2), .val (.long ((q1 <<< ((32 : Int32) &&& 0x3f).toInt64) ||| (1 : Int64))), .second, .val (.ref w_PLAIN), .val (.ref w_PLAIN)] [(.long 1)])) _
                  refine Go.st (fun t k => XS.lloadN X38.here hx rfl (hb hby at_65) rfl k) ?_
                  refine Go.st (fun t k => XS.lcmp X38.here hx rfl (hb hby at_66) rfl k) ?_
                  show Go _ _ _ (T38.setTop (mkF m 67 #[.val (.long q1), .second, .val (.int p2), .val (.long ((q1 <<< ((32 : Int32) &&& 0x3f).toInt64) ||| (1 : Int64))), .second, .val (.ref w_PLAIN), .val (.ref w_PLAIN)] [(.int (lcmpW (1 : Int64) ((q1 <<< ((32 : Int32) &&& 0x3f).toInt64) ||| (1 : Int64))))])) _
                  refine Go.st (fun t k => XS.ifYes X38.here hx rfl (pc0 := 67) (pc' := 72) rfl (hb hby at_67) rfl ((if0 _ _).trans (teq ((lw_eq (1 : Int64) ((q1 <<< ((32 : Int32) &&& 0x3f).toInt64) ||| (1 : Int64))).mpr (Eq.symm hc35))).1) (by decide) (by decide) k) ?_
                  show Go _ _ _ (T38.setTop (mkF m 72 #[.val (.long q1), .second, .val (.int p2), .val (.long ((q1 <<< ((32 : Int32) &&& 0x3f).toInt64) ||| (1 : Int64))), .second, .val (.ref w_PLAIN), .val (.ref w_PLAIN)] [])) _
                  refine Go.st (fun t k => XS.iconst X38.here hx rfl (hb hby at_72) k) ?_
                  obtain ⟨fs, hr, hrun, hended, hW, hsame⟩ := X38.leave (v := some (.int (1 : Int32))) (fun h => by rw [Bd.returns] at h; cases h)
                  refine Go.fin (retN X38 hx (t := .boolean) Bd.returns (by simp) (hb hby at_73) hr) hrun hended ⟨_, _, rfl, ?_, ⟨_, rfl⟩, hW, hsame.mono (by decide) (by decide)⟩
                  show Q0 Z q1 p2 w__VALUES k_v w_PLAIN w_COUNTING h0 n0 _ T38.heap _
                  rw [e38]
                  exact ⟨rfl, N38⟩
                · refine Go.st (fun t k => XS.ifYes X1.here hx rfl (pc0 := 9) (pc' := 20) rfl (hb hby at_9) rfl ((if0 _ _).trans (feq (fun z => hc35 ((lw_eq ((q1 <<< ((32 : Int32) &&& 0x3f).toInt64) ||| (1 : Int64)) (1 : Int64)).mp z))).2) (by decide) (by decide) k) ?_
                  show Go _ _ _ (T1.setTop (mkF m 20 #[.val (.long q1), .second, .val (.int p2), .val (.long ((q1 <<< ((32 : Int32) &&& 0x3f).toInt64) ||| (1 : Int64))), .second, .unset, .unset] [])) _
                  refine Go.st (fun t k => XS.lloadN X1.here hx rfl (hb hby at_20) rfl k) ?_
                  refine Go.st (fun t k => X1.ldc2Long hx hown (mvT hZ (wd4 hw)) (g := (mkF m 21 #[.val (.long q1), .second, .val (.int p2), .val (.long ((q1 <<< ((32 : Int32) &&& 0x3f).toInt64) ||| (1 : Int64))), .second, .unset, .unset] [(.long ((q1 <<< ((32 : Int32) &&& 0x3f).toInt64) ||| (1 : Int64)))])) rfl (hb hby at_21) _ k) ?_
                  show Go _ _ _ (T1.setTop (mkF m 24 #[.val (.long q1), .second, .val (.int p2), .val (.long ((q1 <<< ((32 : Int32) &&& 0x3f).toInt64) ||| (1 : Int64))), .second, .unset, .unset] [(.long 2), (.long ((q1 <<< ((32 : Int32) &&& 0x3f).toInt64) ||| (1 : Int64)))])) _
                  refine Go.st (fun t k => XS.lcmp X1.here hx rfl (hb hby at_24) rfl k) ?_
                  show Go _ _ _ (T1.setTop (mkF m 25 #[.val (.long q1), .second, .val (.int p2), .val (.long ((q1 <<< ((32 : Int32) &&& 0x3f).toInt64) ||| (1 : Int64))), .second, .unset, .unset] [(.int (lcmpW ((q1 <<< ((32 : Int32) &&& 0x3f).toInt64) ||| (1 : Int64)) (2 : Int64)))])) _
                  by_cases hc39 : ((q1 <<< ((32 : Int32) &&& 0x3f).toInt64) ||| (1 : Int64)) = (2 : Int64)
                  · refine Go.st (fun t k => XS.ifNo X1.here hx rfl (hb hby at_25) rfl ((if0 _ _).trans (teq ((lw_eq ((q1 <<< ((32 : Int32) &&& 0x3f).toInt64) ||| (1 : Int64)) (2 : Int64)).mpr hc39)).2) k) ?_
                    show Go _ _ _ (T1.setTop (mkF m 28 #[.val (.long q1), .second, .val (.int p2), .val (.long ((q1 <<< ((32 : Int32) &&& 0x3f).toInt64) ||| (1 : Int64))), .second, .unset, .unset] [])) _
                    obtain ⟨T40, X40, e40, st40⟩ := getS2 X1 hx hZ hown (host := "") (Or.inl (wd5 hw)) Via.refl e1 S_COUNTING (g := (mkF m 28 #[.val (.long q1), .second, .val (.int p2), .val (.long ((q1 <<< ((32 : Int32) &&& 0x3f).toInt64) ||| (1 : Int64))), .second, .unset, .unset] [])) rfl (hb hby at_28)
                    refine Go.st st40 ?_
                    show Go _ _ _ (T40.setTop (mkF m 31 #[.val (.long q1), .second, .val (.int p2), .val (.long ((q1 <<< ((32 : Int32) &&& 0x3f).toInt64) ||| (1 : Int64))), .second, .unset, .unset] [(.ref w_COUNTING)])) _
                    refine Go.st (fun t k => XS.astore X40.here hx rfl (hb hby at_31) rfl rfl (l' := #[.val (.long q1), .second, .val (.int p2), .val (.long ((q1 <<< ((32 : Int32) &&& 0x3f).toInt64) ||| (1 : Int64))), .second, .val (.ref w_COUNTING), .unset]) rfl k) ?_
                    refine Go.st (fun t k => XS.goto X40.here hx rfl (pc0 := 33) (pc' := 39) rfl (hb hby at_33) (by decide) (by decide) k) ?_
                    refine Go.st (fun t k => XS.lloadN X40.here hx rfl (hb hby at_39) rfl k) ?_
                    obtain ⟨_, _, ⟨T41, L41, k41, n41⟩, -, X41, ⟨Lc41, hQ41, l41, y41, z41⟩, st41⟩ := Jvm.LawKit.callS X40 hx (y := (⟨"com/example/gloom/gloom/io/FilterKind", "fromCode", "(J)Lcom/example/gloom/gloom/io/FilterKind;"⟩ : MethodName)) hown (mvT hZ (wd8 hw)) (mvT hZ (wd9 hw)) (mvT hZ (wd6 hw)) (mvT hZ (wd10 hw)) (by decide) (backOf (W := 0) (rm2 l Z a0 hw [] ((q1 <<< ((32 : Int32) &&& 0x3f).toInt64) ||| (1 : Int64)) w__VALUES k_v w_PLAIN w_COUNTING h0 n0 Z0 S__VALUES E_VALS V_VALS E_w_PLAIN F_w_PLAIN_code E_w_COUNTING F_w_COUNTING_code) hZ (wd10 hw) (wd6 hw) (by decide) (by decide)) (g := (mkF m 40 #[.val (.long q1), .second, .val (.int p2), .val (.long ((q1 <<< ((32 : Int32) &&& 0x3f).toInt64) ||| (1 : Int64))), .second, .val (.ref w_COUNTING), .unset] [(.long ((q1 <<< ((32 : Int32) &&& 0x3f).toInt64) ||| (1 : Int64)))])) rfl (by rw [hml]; rfl) (argsL := [(.long ((q1 <<< ((32 : Int32) &&& 0x3f).toInt64) ||| (1 : Int64)))]) (rest := []) (lenOf pd2 rfl) rfl (by show 2 * 0 + _ ≤ _; exact Nat.le_of_eq rfl) (hb hby at_40) (fun _ _ => ⟨rfl, e40, (by decide : 0 + 1 ≤ _), (by decide : 0 + 2 ≤ _)⟩)
                    dsimp only [Pt.U, Pt.locs, Pt.cells, Pt.slots] at X41 l41 y41 z41 st41 hQ41
                    subst l41 y41 z41
                    refine Go.st st41 ?_
                    obtain ⟨h41, e41⟩ : ∃ z, T41.heap = z := ⟨_, rfl⟩
                    rw [e41] at hQ41
                    obtain ⟨rfl, N41q, K41⟩ := hQ41
                    replace S__VALUES := sta_keep S__VALUES K41 all0
                    replace E_VALS := E_VALS.keep K41
                    replace V_VALS := V_VALS.keep K41 nin0
                    replace E_w_PLAIN := E_w_PLAIN.keep K41
                    replace F_w_PLAIN_code := F_w_PLAIN_code.keep K41 nin0
                    replace E_w_COUNTING := E_w_COUNTING.keep K41
                    replace F_w_COUNTING_code := F_w_COUNTING_code.keep K41 nin0
                    replace S_PLAIN := sta_keep S_PLAIN K41 all0
                    replace S_COUNTING := sta_keep S_COUNTING K41 all0
                    replace Z0 := Nat.le_trans Z0 K41.1
                    replace K0 := K0.trans K41 all0
                    have N41 := Fr.app N1 N41q
                    show Go _ _ _ (T41.setTop (mkF m 43 #[.val (.long q1), .second, .val (.int p2), .val (.long ((q1 <<< ((32 : Int32) &&& 0x3f).toInt64) ||| (1 : Int64))), .second, .val (.ref w_COUNTING), .unset] [(f2 ((q1 <<< ((32 : Int32) &&& 0x3f).toInt64) ||| (1 : Int64)) w_PLAIN w_COUNTING)])) _
                    rw [show (f2 ((q1 <<< ((32 : Int32) &&& 0x3f).toInt64) ||| (1 : Int64)) w_PLAIN w_COUNTING) = ((.ref w_COUNTING) : Value) from by unfold f2; simp only [if_neg (show ¬ ((1 : Int64) = ((q1 <<< ((32 : Int32) &&& 0x3f).toInt64) ||| (1 : Int64))) from fun z => hc35 z.symm), if_pos (Eq.symm hc39), if_true, if_false]]
                    show Go _ _ _ (T41.setTop (mkF m 43 #[.val (.long q1), .second, .val (.int p2), .val (.long ((q1 <<< ((32 : Int32) &&& 0x3f).toInt64) ||| (1 : Int64))), .second, .val (.ref w_COUNTING), .unset] [(.ref w_COUNTING)])) _
                    refine Go.st (fun t k => XS.astore X41.here hx rfl (hb hby at_43) rfl rfl (l' := #[.val (.long q1), .second, .val (.int p2), .val (.long ((q1 <<< ((32 : Int32) &&& 0x3f).toInt64) ||| (1 : Int64))), .second, .val (.ref w_COUNTING), .val (.ref w_COUNTING)]) rfl k) ?_
                    refine Go.st (fun t k => XS.aload X41.here hx rfl (hb hby at_45) rfl rfl k) ?_
                    refine Go.st (fun t k => XS.aload X41.here hx rfl (hb hby at_47) rfl rfl k) ?_
                    refine Go.st (fun t k => Jvm.RoadKit.acmp (g := (mkF m 49 #[.val (.long q1), .second, .val (.int p2), .val (.long ((q1 <<< ((32 : Int32) &&& 0x3f).toInt64) ||| (1 : Int64))), .second, .val (.ref w_COUNTING), .val (.ref w_COUNTING)] [(.ref w_COUNTING), (.ref w_COUNTING)])) X41 hx rfl rfl rfl (pc0 := 49) (pc' := 54) (same := true) rfl (hb hby at_49) rfl (decide_eq_true rfl) (by decide) (by decide) k) ?_
                    show Go _ _ _ (T41.setTop (mkF m 54 #[.val (.long q1), .second, .val (.int p2), .val (.long ((q1 <<< ((32 : Int32) &&& 0x3f).toInt64) ||| (1 : Int64))), .second, .val (.ref w_COUNTING), .val (.ref w_COUNTING)] [])) _
                    refine Go.st (fun t k => XS.aload X41.here hx rfl (hb hby at_54) rfl rfl k) ?_
                    refine Go.st (fun t k => XS.ifnullNo X41.here hx rfl (hb hby at_56) rfl k) ?_
                    show Go _ _ _ (T41.setTop (mkF m 59 #[.val (.long q1), .second, .val (.int p2), .val (.long ((q1 <<< ((32 : Int32) &&& 0x3f).toInt64) ||| (1 : Int64))), .second, .val (.ref w_COUNTING), .val (.ref w_COUNTING)] [])) _
                    refine Go.st (fun t k => XS.aload X41.here hx rfl (hb hby at_59) rfl rfl k) ?_
                    obtain ⟨cq42, kq42, q42a, q42b, q42c⟩ := isOf hZ e41 E_w_COUNTING
                    obtain ⟨_, _, ⟨T42, L42, k42, n42⟩, -, X42, ⟨Lc42, hQ42, l42, y42, z42⟩, st42⟩ := X41.virtualBack hx (y := (⟨"com/example/gloom/gloom/io/FilterKind", "getCode", "()I"⟩ : MethodName)) (z := (⟨"com/example/gloom/gloom/io/FilterKind", "getCode", "()I"⟩ : MethodName)) hown (mvT hZ (wd29 hw)) (mvT hZ (wd30 hw)) (notFace_of_selects (args := #[]) (mvT hZ (wd32 hw))) (mvT hZ (wd32 hw)) (mvT hZ (wd31 hw)) (by decide) (backOf (W := 0) (rm4 l Z a0 hw [] w_COUNTING (2 : Int32) h41 n0 Z0 F_w_COUNTING_code) hZ (wd33 hw) (wd6 hw) (by decide) (by decide)) q42a q42c (g := (mkF m 61 #[.val (.long q1), .second, .val (.int p2), .val (.long ((q1 <<< ((32 : Int32) &&& 0x3f).toInt64) ||| (1 : Int64))), .second, .val (.ref w_COUNTING), .val (.ref w_COUNTING)] [(.ref w_COUNTING)])) rfl (by rw [hml]; rfl) (Steps.refl _) (argsL := []) (rest := []) (lenOf pd3 rfl) rfl (by show 2 * 0 + _ ≤ _; exact Nat.le_of_eq rfl) (hb hby at_61) (fun _ _ => ⟨rfl, e41, (by decide : 1 + 0 ≤ _), (by decide : 2 + 0 ≤ _)⟩)
                    dsimp only [Pt.U, Pt.locs, Pt.cells, Pt.slots] at X42 l42 y42 z42 st42 hQ42
                    subst l42 y42 z42
                    refine Go.tr st42 ?_
                    obtain ⟨rfl, N42q, e42⟩ := hQ42
                    have N42 := Fr.app N41 N42q
                    show Go _ _ _ (T42.setTop (mkF m 64 #[.val (.long q1), .second, .val (.int p2), .val (.long ((q1 <<< ((32 : Int32) &&& 0x3f).toInt64) ||| (1 : Int64))), .second, .val (.ref w_COUNTING), .val (.ref w_COUNTING)] [(.int 2)])) _
                    refine Go.st (fun t k => XS.i2l X42.here hx rfl (hb hby at_64) rfl k) ?_
                    show Go _ _ _ (T42.setTop (mkF m 65 #[.val (.long q1), .second, .val (.int p2), .val (.long ((q1 <<< ((32 : Int32) &&& 0x3f).toInt64) ||| (1 : Int64))), .second, .val (.ref w_COUNTING), .val (.ref w_COUNTING)] [(.long 2)])) _
                    refine Go.st (fun t k => XS.lloadN X42.here hx rfl (hb hby at_65) rfl k) ?_
                    refine Go.st (fun t k => XS.lcmp X42.here hx rfl (hb hby at_66) rfl k) ?_
                    show Go _ _ _ (T42.setTop (mkF m 67 #[.val (.long q1), .second, .val (.int p2), .val (.long ((q1 <<< ((32 : Int32) &&& 0x3f).toInt64) ||| (1 : Int64))), .second, .val (.ref w_COUNTING), .val (.ref w_COUNTING)] [(.int (lcmpW (2 : Int64) ((q1 <<< ((32 : Int32) &&& 0x3f).toInt64) ||| (1 : Int64))))])) _
                    refine Go.st (fun t k => XS.ifYes X42.here hx rfl (pc0 := 67) (pc' := 72) rfl (hb hby at_67) rfl ((if0 _ _).trans (teq ((lw_eq (2 : Int64) ((q1 <<< ((32 : Int32) &&& 0x3f).toInt64) ||| (1 : Int64))).mpr (Eq.symm hc39))).1) (by decide) (by decide) k) ?_
                    show Go _ _ _ (T42.setTop (mkF m 72 #[.val (.long q1), .second, .val (.int p2), .val (.long ((q1 <<< ((32 : Int32) &&& 0x3f).toInt64) ||| (1 : Int64))), .second, .val (.ref w_COUNTING), .val (.ref w_COUNTING)] [])) _
                    refine Go.st (fun t k => XS.iconst X42.here hx rfl (hb hby at_72) k) ?_
                    obtain ⟨fs, hr, hrun, hended, hW, hsame⟩ := X42.leave (v := some (.int (1 : Int32))) (fun h => by rw [Bd.returns] at h; cases h)
                    refine Go.fin (retN X42 hx (t := .boolean) Bd.returns (by simp) (hb hby at_73) hr) hrun hended ⟨_, _, rfl, ?_, ⟨_, rfl⟩, hW, hsame.mono (by decide) (by decide)⟩
                    show Q0 Z q1 p2 w__VALUES k_v w_PLAIN w_COUNTING h0 n0 _ T42.heap _
                    rw [e42]
                    exact ⟨rfl, N42⟩
                  · refine Go.st (fun t k => XS.ifYes X1.here hx rfl (pc0 := 25) (pc' := 36) rfl (hb hby at_25) rfl ((if0 _ _).trans (feq (fun z => hc39 ((lw_eq ((q1 <<< ((32 : Int32) &&& 0x3f).toInt64) ||| (1 : Int64)) (2 : Int64)).mp z))).2) (by decide) (by decide) k) ?_
                    show Go _ _ _ (T1.setTop (mkF m 36 #[.val (.long q1), .second, .val (.int p2), .val (.long ((q1 <<< ((32 : Int32) &&& 0x3f).toInt64) ||| (1 : Int64))), .second, .unset, .unset] [])) _
                    refine Go.st (fun t k => XS.aconstNull X1.here hx rfl (hb hby at_36) k) ?_
                    refine Go.st (fun t k => XS.astore X1.here hx rfl (hb hby at_37) rfl rfl (l' := #[.val (.long q1), .second, .val (.int p2), .val (.long ((q1 <<< ((32 : Int32) &&& 0x3f).toInt64) ||| (1 : Int64))), .second, .val .null, .unset]) rfl k) ?_
                    refine Go.st (fun t k => XS.lloadN X1.here hx rfl (hb hby at_39) rfl k) ?_
                    obtain ⟨_, _, ⟨T43, L43, k43, n43⟩, -, X43, ⟨Lc43, hQ43, l43, y43, z43⟩, st43⟩ := Jvm.LawKit.callS X1 hx (y := (⟨"com/example/gloom/gloom/io/FilterKind", "fromCode", "(J)Lcom/example/gloom/gloom/io/FilterKind;"⟩ : MethodName)) hown (mvT hZ (wd8 hw)) (mvT hZ (wd9 hw)) (mvT hZ (wd6 hw)) (mvT hZ (wd10 hw)) (by decide) (backOf (W := 0) (rm2 l Z a0 hw [] ((q1 <<< ((32 : Int32) &&& 0x3f).toInt64) ||| (1 : Int64)) w__VALUES k_v w_PLAIN w_COUNTING h0 n0 Z0 S__VALUES E_VALS V_VALS E_w_PLAIN F_w_PLAIN_code E_w_COUNTING F_w_COUNTING_code) hZ (wd10 hw) (wd6 hw) (by decide) (by decide)) (g := (mkF m 40 #[.val (.long q1), .second, .val (.int p2), .val (.long ((q1 <<< ((32 : Int32) &&& 0x3f).toInt64) ||| (1 : Int64))), .second, .val .null, .unset] [(.long ((q1 <<< ((32 : Int32) &&& 0x3f).toInt64) ||| (1 : Int64)))])) rfl (by rw [hml]; rfl) (argsL := [(.long ((q1 <<< ((32 : Int32) &&& 0x3f).toInt64) ||| (1 : Int64)))]) (rest := []) (lenOf pd2 rfl) rfl (by show 2 * 0 + _ ≤ _; exact Nat.le_of_eq rfl) (hb hby at_40) (fun _ _ => ⟨rfl, e1, (by decide : 0 + 1 ≤ _), (by decide : 0 + 2 ≤ _)⟩)
                    dsimp only [Pt.U, Pt.locs, Pt.cells, Pt.slots] at X43 l43 y43 z43 st43 hQ43
                    subst l43 y43 z43
                    refine Go.st st43 ?_
                    obtain ⟨h43, e43⟩ : ∃ z, T43.heap = z := ⟨_, rfl⟩
                    rw [e43] at hQ43
                    obtain ⟨rfl, N43q, K43⟩ := hQ43
                    replace S__VALUES := sta_keep S__VALUES K43 all0
                    replace E_VALS := E_VALS.keep K43
                    replace V_VALS := V_VALS.keep K43 nin0
                    replace E_w_PLAIN := E_w_PLAIN.keep K43
                    replace F_w_PLAIN_code := F_w_PLAIN_code.keep K43 nin0
                    replace E_w_COUNTING := E_w_COUNTING.keep K43
                    replace F_w_COUNTING_code := F_w_COUNTING_code.keep K43 nin0
                    replace S_PLAIN := sta_keep S_PLAIN K43 all0
                    replace S_COUNTING := sta_keep S_COUNTING K43 all0
                    replace Z0 := Nat.le_trans Z0 K43.1
                    replace K0 := K0.trans K43 all0
                    have N43 := Fr.app N1 N43q
                    show Go _ _ _ (T43.setTop (mkF m 43 #[.val (.long q1), .second, .val (.int p2), .val (.long ((q1 <<< ((32 : Int32) &&& 0x3f).toInt64) ||| (1 : Int64))), .second, .val .null, .unset] [(f2 ((q1 <<< ((32 : Int32) &&& 0x3f).toInt64) ||| (1 : Int64)) w_PLAIN w_COUNTING)])) _
                    rw [show (f2 ((q1 <<< ((32 : Int32) &&& 0x3f).toInt64) ||| (1 : Int64)) w_PLAIN w_COUNTING) = (.null : Value) from by unfold f2; simp only [if_neg (show ¬ ((1 : Int64) = ((q1 <<< ((32 : Int32) &&& 0x3f).toInt64) ||| (1 : Int64))) from fun z => hc35 z.symm), if_neg (show ¬ ((2 : Int64) = ((q1 <<< ((32 : Int32) &&& 0x3f).toInt64) ||| (1 : Int64))) from fun z => hc39 z.symm), if_true, if_false]]
                    show Go _ _ _ (T43.setTop (mkF m 43 #[.val (.long q1), .second, .val (.int p2), .val (.long ((q1 <<< ((32 : Int32) &&& 0x3f).toInt64) ||| (1 : Int64))), .second, .val .null, .unset] [.null])) _
                    refine Go.st (fun t k => XS.astore X43.here hx rfl (hb hby at_43) rfl rfl (l' := #[.val (.long q1), .second, .val (.int p2), .val (.long ((q1 <<< ((32 : Int32) &&& 0x3f).toInt64) ||| (1 : Int64))), .second, .val .null, .val .null]) rfl k) ?_
                    refine Go.st (fun t k => XS.aload X43.here hx rfl (hb hby at_45) rfl rfl k) ?_
                    refine Go.st (fun t k => XS.aload X43.here hx rfl (hb hby at_47) rfl rfl k) ?_
                    refine Go.st (fun t k => Jvm.RoadKit.acmp (g := (mkF m 49 #[.val (.long q1), .second, .val (.int p2), .val (.long ((q1 <<< ((32 : Int32) &&& 0x3f).toInt64) ||| (1 : Int64))), .second, .val .null, .val .null] [.null, .null])) X43 hx rfl rfl rfl (pc0 := 49) (pc' := 54) (same := true) rfl (hb hby at_49) rfl (decide_eq_true rfl) (by decide) (by decide) k) ?_
                    show Go _ _ _ (T43.setTop (mkF m 54 #[.val (.long q1), .second, .val (.int p2), .val (.long ((q1 <<< ((32 : Int32) &&& 0x3f).toInt64) ||| (1 : Int64))), .second, .val .null, .val .null] [])) _
                    refine Go.st (fun t k => XS.aload X43.here hx rfl (hb hby at_54) rfl rfl k) ?_
                    refine Go.st (fun t k => XS.ifnullYes X43.here hx rfl (pc0 := 56) (pc' := 72) rfl (hb hby at_56) rfl (by decide) (by decide) k) ?_
                    show Go _ _ _ (T43.setTop (mkF m 72 #[.val (.long q1), .second, .val (.int p2), .val (.long ((q1 <<< ((32 : Int32) &&& 0x3f).toInt64) ||| (1 : Int64))), .second, .val .null, .val .null] [])) _
                    refine Go.st (fun t k => XS.iconst X43.here hx rfl (hb hby at_72) k) ?_
                    obtain ⟨fs, hr, hrun, hended, hW, hsame⟩ := X43.leave (v := some (.int (1 : Int32))) (fun h => by rw [Bd.returns] at h; cases h)
                    refine Go.fin (retN X43 hx (t := .boolean) Bd.returns (by simp) (hb hby at_73) hr) hrun hended ⟨_, _, rfl, ?_, ⟨_, rfl⟩, hW, hsame.mono (by decide) (by decide)⟩
                    show Q0 Z q1 p2 w__VALUES k_v w_PLAIN w_COUNTING h0 n0 _ T43.heap _
                    rw [e43]
                    exact ⟨rfl, N43⟩
              · rw [show (f1 q1 p2) = ((q1 <<< ((32 : Int32) &&& 0x3f).toInt64) ||| (2 : Int64)) from by unfold f1; simp only [if_neg hc2, if_neg hc12, if_neg hc16, if_neg hc20, if_neg hc22, if_neg hc24, if_neg hc34, if_true, if_false]]
                show Go _ _ _ (T1.setTop (mkF m 5 #[.val (.long q1), .second, .val (.int p2), .unset, .unset, .unset, .unset] [(.long ((q1 <<< ((32 : Int32) &&& 0x3f).toInt64) ||| (2 : Int64)))])) _
                refine Go.st (fun t k => XS.lstoreN X1.here hx rfl (hb hby at_5) rfl (l' := #[.val (.long q1), .second, .val (.int p2), .val (.long ((q1 <<< ((32 : Int32) &&& 0x3f).toInt64) ||| (2 : Int64))), .second, .unset, .unset]) rfl k) ?_
                refine Go.st (fun t k => XS.lloadN X1.here hx rfl (hb hby at_6) rfl k) ?_
                refine Go.st (fun t k => XS.lconst X1.here hx rfl (hb hby at_7) k) ?_
                refine Go.st (fun t k => XS.lcmp X1.here hx rfl (hb hby at_8) rfl k) ?_
                show Go _ _ _ (T1.setTop (mkF m 9 #[.val (.long q1), .second, .val (.int p2), .val (.long ((q1 <<< ((32 : Int32) &&& 0x3f).toInt64) ||| (2 : Int64))), .second, .unset, .unset] [(.int (lcmpW ((q1 <<< ((32 : Int32) &&& 0x3f).toInt64) ||| (2 : Int64)) (1 : Int64)))])) _
                by_cases hc44 : ((q1 <<< ((32 : Int32) &&& 0x3f).toInt64) ||| (2 : Int64)) = (1 : Int64)
                · refine Go.st (fun t k => XS.ifNo X1.here hx rfl (hb hby at_9) rfl ((if0 _ _).trans (teq ((lw_eq ((q1 <<< ((32 : Int32) &&& 0x3f).toInt64) ||| (2 : Int64)) (1 : Int64)).mpr hc44)).2) k) ?_
                  show Go _ _ _ (T1.setTop (mkF m 12 #[.val (.long q1), .second, .val (.int p2), .val (.long ((q1 <<< ((32 : Int32) &&& 0x3f).toInt64) ||| (2 : Int64))), .second, .unset, .unset] [])) _
                  obtain ⟨T45, X45, e45, st45⟩ := getS2 X1 hx hZ hown (host := "") (Or.inl (wd35 hw)) Via.refl e1 S_PLAIN (g := (mkF m 12 #[.val (.long q1), .second, .val (.int p2), .val (.long ((q1 <<< ((32 : Int32) &&& 0x3f).toInt64) ||| (2 : Int64))), .second, .unset, .unset] [])) rfl (hb hby at_12)
                  refine Go.st st45 ?_
                  show Go _ _ _ (T45.setTop (mkF m 15 #[.val (.long q1), .second, .val (.int p2), .val (.long ((q1 <<< ((32 : Int32) &&& 0x3f).toInt64) ||| (2 : Int64))), .second, .unset, .unset] [(.ref w_PLAIN)])) _
                  refine Go.st (fun t k => XS.astore X45.here hx rfl (hb hby at_15) rfl rfl (l' := #[.val (.long q1), .second, .val (.int p2), .val (.long ((q1 <<< ((32 : Int32) &&& 0x3f).toInt64) ||| (2 : Int64))), .second, .val (.ref w_PLAIN), .unset]) rfl k) ?_
                  refine Go.st (fun t k => XS.goto X45.here hx rfl (pc0 := 17) (pc' := 39) rfl (hb hby at_17) (by decide) (by decide) k) ?_
                  refine Go.st (fun t k => XS.lloadN X45.here hx rfl (hb hby at_39) rfl k) ?_
                  obtain ⟨_, _, ⟨T46, L46, k46, n46⟩, -, X46, ⟨Lc46, hQ46, l46, y46, z46⟩, st46⟩ := Jvm.LawKit.callS X45 hx (y := (⟨"com/example/gloom/gloom/io/FilterKind", "fromCode", "(J)Lcom/example/gloom/gloom/io/FilterKind;"⟩ : MethodName)) hown (mvT hZ (wd8 hw)) (mvT hZ (wd9 hw)) (mvT hZ (wd6 hw)) (mvT hZ (wd10 hw)) (by decide) (backOf (W := 0) (rm2 l Z a0 hw [] ((q1 <<< ((32 : Int32) &&& 0x3f).toInt64) ||| (2 : Int64)) w__VALUES k_v w_PLAIN w_COUNTING h0 n0 Z0 S__VALUES E_VALS V_VALS E_w_PLAIN F_w_PLAIN_code E_w_COUNTING F_w_COUNTING_code) hZ (wd10 hw) (wd6 hw) (by decide) (by decide)) (g := (mkF m 40 #[.val (.long q1), .second, .val (.int p2), .val (.long ((q1 <<< ((32 : Int32) &&& 0x3f).toInt64) ||| (2 : Int64))), .second, .val (.ref w_PLAIN), .unset] [(.long ((q1 <<< ((32 : Int32) &&& 0x3f).toInt64) ||| (2 : Int64)))])) rfl (by rw [hml]; rfl) (argsL := [(.long ((q1 <<< ((32 : Int32) &&& 0x3f).toInt64) ||| (2 : Int64)))]) (rest := []) (lenOf pd2 rfl) rfl (by show 2 * 0 + _ ≤ _; exact Nat.le_of_eq rfl) (hb hby at_40) (fun _ _ => ⟨rfl, e45, (by decide : 0 + 1 ≤ _), (by decide : 0 + 2 ≤ _)⟩)
                  dsimp only [Pt.U, Pt.locs, Pt.cells, Pt.slots] at X46 l46 y46 z46 st46 hQ46
                  subst l46 y46 z46
                  refine Go.st st46 ?_
                  obtain ⟨h46, e46⟩ : ∃ z, T46.heap = z := ⟨_, rfl⟩
                  rw [e46] at hQ46
                  obtain ⟨rfl, N46q, K46⟩ := hQ46
                  replace S__VALUES := sta_keep S__VALUES K46 all0
                  replace E_VALS := E_VALS.keep K46
                  replace V_VALS := V_VALS.keep K46 nin0
                  replace E_w_PLAIN := E_w_PLAIN.keep K46
                  replace F_w_PLAIN_code := F_w_PLAIN_code.keep K46 nin0
                  replace E_w_COUNTING := E_w_COUNTING.keep K46
                  replace F_w_COUNTING_code := F_w_COUNTING_code.keep K46 nin0
                  replace S_PLAIN := sta_keep S_PLAIN K46 all0
                  replace S_COUNTING := sta_keep S_COUNTING K46 all0
                  replace Z0 := Nat.le_trans Z0 K46.1
                  replace K0 := K0.trans K46 all0
                  have N46 := Fr.app N1 N46q
                  show Go _ _ _ (T46.setTop (mkF m 43 #[.val (.long q1), .second, .val (.int p2), .val (.long ((q1 <<< ((32 : Int32) &&& 0x3f).toInt64) ||| (2 : Int64))), .second, .val (.ref w_PLAIN), .unset] [(f2 ((q1 <<< ((32 : Int32) &&& 0x3f).toInt64) ||| (2 : Int64)) w_PLAIN w_COUNTING)])) _
                  rw [show (f2 ((q1 <<< ((32 : Int32) &&& 0x3f).toInt64) ||| (2 : Int64)) w_PLAIN w_COUNTING) = ((.ref w_PLAIN) : Value) from by unfold f2; simp only [if_pos (Eq.symm hc44), if_true, if_false]]
                  show Go _ _ _ (T46.setTop (mkF m 43 #[.val (.long q1), .second, .val (.int p2), .val (.long ((q1 <<< ((32 : Int32) &&& 0x3f).toInt64) ||| (2 : Int64))), .second, .val (.ref w_PLAIN), .unset] [(.ref w_PLAIN)])) _
                  refine Go.st (fun t k => XS.astore X46.here hx rfl (hb hby at_43) rfl rfl (l' := #[.val (.long q1), .second, .val (.int p2), .val (.long ((q1 <<< ((32 : Int32) &&& 0x3f).toInt64) ||| (2 : Int64))), .second, .val (.ref w_PLAIN), .val (.ref w_PLAIN)]) rfl k) ?_
                  refine Go.st (fun t k => XS.aload X46.here hx rfl (hb hby at_45) rfl rfl k) ?_
                  refine Go.st (fun t k => XS.aload X46.here hx rfl (hb hby at_47) rfl rfl k) ?_
                  refine Go.st (fun t k => Jvm.RoadKit.acmp (g := (mkF m 49 #[.val (.long q1), .second, .val (.int p2), .val (.long ((q1 <<< ((32 : Int32) &&& 0x3f).toInt64) ||| (2 : Int64))), .second, .val (.ref w_PLAIN), .val (.ref w_PLAIN)] [(.ref w_PLAIN), (.ref w_PLAIN)])) X46 hx rfl rfl rfl (pc0 := 49) (pc' := 54) (same := true) rfl (hb hby at_49) rfl (decide_eq_true rfl) (by decide) (by decide) k) ?_
                  show Go _ _ _ (T46.setTop (mkF m 54 #[.val (.long q1), .second, .val (.int p2), .val (.long ((q1 <<< ((32 : Int32) &&& 0x3f).toInt64) ||| (2 : Int64))), .second, .val (.ref w_PLAIN), .val (.ref w_PLAIN)] [])) _
                  refine Go.st (fun t k => XS.aload X46.here hx rfl (hb hby at_54) rfl rfl k) ?_
                  refine Go.st (fun t k => XS.ifnullNo X46.here hx rfl (hb hby at_56) rfl k) ?_
                  show Go _ _ _ (T46.setTop (mkF m 59 #[.val (.long q1), .second, .val (.int p2), .val (.long ((q1 <<< ((32 : Int32) &&& 0x3f).toInt64) ||| (2 : Int64))), .second, .val (.ref w_PLAIN), .val (.ref w_PLAIN)] [])) _
                  refine Go.st (fun t k => XS.aload X46.here hx rfl (hb hby at_59) rfl rfl k) ?_
                  obtain ⟨cq47, kq47, q47a, q47b, q47c⟩ := isOf hZ e46 E_w_PLAIN
                  obtain ⟨_, _, ⟨T47, L47, k47, n47⟩, -, X47, ⟨Lc47, hQ47, l47, y47, z47⟩, st47⟩ := X46.virtualBack hx (y := (⟨"com/example/gloom/gloom/io/FilterKind", "getCode", "()I"⟩ : MethodName)) (z := (⟨"com/example/gloom/gloom/io/FilterKind", "getCode", "()I"⟩ : MethodName)) hown (mvT hZ (wd29 hw)) (mvT hZ (wd30 hw)) (notFace_of_selects (args := #[]) (mvT hZ (wd32 hw))) (mvT hZ (wd32 hw)) (mvT hZ (wd31 hw)) (by decide) (backOf (W := 0) (rm4 l Z a0 hw [] w_PLAIN (1 : Int32) h46 n0 Z0 F_w_PLAIN_code) hZ (wd33 hw) (wd6 hw) (by decide) (by decide)) q47a q47c (g := (mkF m 61 #[.val (.long q1), .second, .val (.int p2), .val (.long ((q1 <<< ((32 : Int32) &&& 0x3f).toInt64) ||| (2 : Int64))), .second, .val (.ref w_PLAIN), .val (.ref w_PLAIN)] [(.ref w_PLAIN)])) rfl (by rw [hml]; rfl) (Steps.refl _) (argsL := []) (rest := []) (lenOf pd3 rfl) rfl (by show 2 * 0 + _ ≤ _; exact Nat.le_of_eq rfl) (hb hby at_61) (fun _ _ => ⟨rfl, e46, (by decide : 1 + 0 ≤ _), (by decide : 2 + 0 ≤ _)⟩)
                  dsimp only [Pt.U, Pt.locs, Pt.cells, Pt.slots] at X47 l47 y47 z47 st47 hQ47
                  subst l47 y47 z47
                  refine Go.tr st47 ?_
                  obtain ⟨rfl, N47q, e47⟩ := hQ47
                  have N47 := Fr.app N46 N47q
                  show Go _ _ _ (T47.setTop (mkF m 64 #[.val (.long q1), .second, .val (.int p2), .val (.long ((q1 <<< ((32 : Int32) &&& 0x3f).toInt64) ||| (2 : Int64))), .second, .val (.ref w_PLAIN), .val (.ref w_PLAIN)] [(.int 1)])) _
                  refine Go.st (fun t k => XS.i2l X47.here hx rfl (hb hby at_64) rfl k) ?_
                  show Go _ _ _ (T47.setTop (mkF m 65 #[.val (.long q1), .second, .val (.int p2), .val (.long ((q1 <<< ((32 : Int32) &&& 0x3f).toInt64) ||| (2 : Int64))), .second, .val (.ref w_PLAIN), .val (.ref w_PLAIN)] [(.long 1)])) _
                  refine Go.st (fun t k => XS.lloadN X47.here hx rfl (hb hby at_65) rfl k) ?_
                  refine Go.st (fun t k => XS.lcmp X47.here hx rfl (hb hby at_66) rfl k) ?_
                  show Go _ _ _ (T47.setTop (mkF m 67 #[.val (.long q1), .second, .val (.int p2), .val (.long ((q1 <<< ((32 : Int32) &&& 0x3f).toInt64) ||| (2 : Int64))), .second, .val (.ref w_PLAIN), .val (.ref w_PLAIN)] [(.int (lcmpW (1 : Int64) ((q1 <<< ((32 : Int32) &&& 0x3f).toInt64) ||| (2 : Int64))))])) _
                  refine Go.st (fun t k => XS.ifYes X47.here hx rfl (pc0 := 67) (pc' := 72) rfl (hb hby at_67) rfl ((if0 _ _).trans (teq ((lw_eq (1 : Int64) ((q1 <<< ((32 : Int32) &&& 0x3f).toInt64) ||| (2 : Int64))).mpr (Eq.symm hc44))).1) (by decide) (by decide) k) ?_
                  show Go _ _ _ (T47.setTop (mkF m 72 #[.val (.long q1), .second, .val (.int p2), .val (.long ((q1 <<< ((32 : Int32) &&& 0x3f).toInt64) ||| (2 : Int64))), .second, .val (.ref w_PLAIN), .val (.ref w_PLAIN)] [])) _
                  refine Go.st (fun t k => XS.iconst X47.here hx rfl (hb hby at_72) k) ?_
                  obtain ⟨fs, hr, hrun, hended, hW, hsame⟩ := X47.leave (v := some (.int (1 : Int32))) (fun h => by rw [Bd.returns] at h; cases h)
                  refine Go.fin (retN X47 hx (t := .boolean) Bd.returns (by simp) (hb hby at_73) hr) hrun hended ⟨_, _, rfl, ?_, ⟨_, rfl⟩, hW, hsame.mono (by decide) (by decide)⟩
                  show Q0 Z q1 p2 w__VALUES k_v w_PLAIN w_COUNTING h0 n0 _ T47.heap _
                  rw [e47]
                  exact ⟨rfl, N47⟩
                · refine Go.st (fun t k => XS.ifYes X1.here hx rfl (pc0 := 9) (pc' := 20) rfl (hb hby at_9) rfl ((if0 _ _).trans (feq (fun z => hc44 ((lw_eq ((q1 <<< ((32 : Int32) &&& 0x3f).toInt64) ||| (2 : Int64)) (1 : Int64)).mp z))).2) (by decide) (by decide) k) ?_
                  show Go _ _ _ (T1.setTop (mkF m 20 #[.val (.long q1), .second, .val (.int p2), .val (.long ((q1 <<< ((32 : Int32) &&& 0x3f).toInt64) ||| (2 : Int64))), .second, .unset, .unset] [])) _
                  refine Go.st (fun t k => XS.lloadN X1.here hx rfl (hb hby at_20) rfl k) ?_
                  refine Go.st (fun t k => X1.ldc2Long hx hown (mvT hZ (wd4 hw)) (g := (mkF m 21 #[.val (.long q1), .second, .val (.int p2), .val (.long ((q1 <<< ((32 : Int32) &&& 0x3f).toInt64) ||| (2 : Int64))), .second, .unset, .unset] [(.long ((q1 <<< ((32 : Int32) &&& 0x3f).toInt64) ||| (2 : Int64)))])) rfl (hb hby at_21) _ k) ?_
                  show Go _ _ _ (T1.setTop (mkF m 24 #[.val (.long q1), .second, .val (.int p2), .val (.long ((q1 <<< ((32 : Int32) &&& 0x3f).toInt64) ||| (2 : Int64))), .second, .unset, .unset] [(.long 2), (.long ((q1 <<< ((32 : Int32) &&& 0x3f).toInt64) ||| (2 : Int64)))])) _
                  refine Go.st (fun t k => XS.lcmp X1.here hx rfl (hb hby at_24) rfl k) ?_
                  show Go _ _ _ (T1.setTop (mkF m 25 #[.val (.long q1), .second, .val (.int p2), .val (.long ((q1 <<< ((32 : Int32) &&& 0x3f).toInt64) ||| (2 : Int64))), .second, .unset, .unset] [(.int (lcmpW ((q1 <<< ((32 : Int32) &&& 0x3f).toInt64) ||| (2 : Int64)) (2 : Int64)))])) _
                  by_cases hc48 : ((q1 <<< ((32 : Int32) &&& 0x3f).toInt64) ||| (2 : Int64)) = (2 : Int64)
                  · refine Go.st (fun t k => XS.ifNo X1.here hx rfl (hb hby at_25) rfl ((if0 _ _).trans (teq ((lw_eq ((q1 <<< ((32 : Int32) &&& 0x3f).toInt64) ||| (2 : Int64)) (2 : Int64)).mpr hc48)).2) k) ?_
                    show Go _ _ _ (T1.setTop (mkF m 28 #[.val (.long q1), .second, .val (.int p2), .val (.long ((q1 <<< ((32 : Int32) &&& 0x3f).toInt64) ||| (2 : Int64))), .second, .unset, .unset] [])) _
                    obtain ⟨T49, X49, e49, st49⟩ := getS2 X1 hx hZ hown (host := "") (Or.inl (wd5 hw)) Via.refl e1 S_COUNTING (g := (mkF m 28 #[.val (.long q1), .second, .val (.int p2), .val (.long ((q1 <<< ((32 : Int32) &&& 0x3f).toInt64) ||| (2 : Int64))), .second, .unset, .unset] [])) rfl (hb hby at_28)
                    refine Go.st st49 ?_
                    show Go _ _ _ (T49.setTop (mkF m 31 #[.val (.long q1), .second, .val (.int p2), .val (.long ((q1 <<< ((32 : Int32) &&& 0x3f).toInt64) ||| (2 : Int64))), .second, .unset, .unset] [(.ref w_COUNTING)])) _
                    refine Go.st (fun t k => XS.astore X49.here hx rfl (hb hby at_31) rfl rfl (l' := #[.val (.long q1), .second, .val (.int p2), .val (.long ((q1 <<< ((32 : Int32) &&& 0x3f).toInt64) ||| (2 : Int64))), .second, .val (.ref w_COUNTING), .unset]) rfl k) ?_
                    refine Go.st (fun t k => XS.goto X49.here hx rfl (pc0 := 33) (pc' := 39) rfl (hb hby at_33) (by decide) (by decide) k) ?_
                    refine Go.st (fun t k => XS.lloadN X49.here hx rfl (hb hby at_39) rfl k) ?_
                    obtain ⟨_, _, ⟨T50, L50, k50, n50⟩, -, X50, ⟨Lc50, hQ50, l50, y50, z50⟩, st50⟩ := Jvm.LawKit.callS X49 hx (y := (⟨"com/example/gloom/gloom/io/FilterKind", "fromCode", "(J)Lcom/example/gloom/gloom/io/FilterKind;"⟩ : MethodName)) hown (mvT hZ (wd8 hw)) (mvT hZ (wd9 hw)) (mvT hZ (wd6 hw)) (mvT hZ (wd10 hw)) (by decide) (backOf (W := 0) (rm2 l Z a0 hw [] ((q1 <<< ((32 : Int32) &&& 0x3f).toInt64) ||| (2 : Int64)) w__VALUES k_v w_PLAIN w_COUNTING h0 n0 Z0 S__VALUES E_VALS V_VALS E_w_PLAIN F_w_PLAIN_code E_w_COUNTING F_w_COUNTING_code) hZ (wd10 hw) (wd6 hw) (by decide) (by decide)) (g := (mkF m 40 #[.val (.long q1), .second, .val (.int p2), .val (.long ((q1 <<< ((32 : Int32) &&& 0x3f).toInt64) ||| (2 : Int64))), .second, .val (.ref w_COUNTING), .unset] [(.long ((q1 <<< ((32 : Int32) &&& 0x3f).toInt64) ||| (2 : Int64)))])) rfl (by rw [hml]; rfl) (argsL := [(.long ((q1 <<< ((32 : Int32) &&& 0x3f).toInt64) ||| (2 : Int64)))]) (rest := []) (lenOf pd2 rfl) rfl (by show 2 * 0 + _ ≤ _; exact Nat.le_of_eq rfl) (hb hby at_40) (fun _ _ => ⟨rfl, e49, (by decide : 0 + 1 ≤ _), (by decide : 0 + 2 ≤ _)⟩)
                    dsimp only [Pt.U, Pt.locs, Pt.cells, Pt.slots] at X50 l50 y50 z50 st50 hQ50
                    subst l50 y50 z50
                    refine Go.st st50 ?_
                    obtain ⟨h50, e50⟩ : ∃ z, T50.heap = z := ⟨_, rfl⟩
                    rw [e50] at hQ50
                    obtain ⟨rfl, N50q, K50⟩ := hQ50
                    replace S__VALUES := sta_keep S__VALUES K50 all0
                    replace E_VALS := E_VALS.keep K50
                    replace V_VALS := V_VALS.keep K50 nin0
                    replace E_w_PLAIN := E_w_PLAIN.keep K50
                    replace F_w_PLAIN_code := F_w_PLAIN_code.keep K50 nin0
                    replace E_w_COUNTING := E_w_COUNTING.keep K50
                    replace F_w_COUNTING_code := F_w_COUNTING_code.keep K50 nin0
                    replace S_PLAIN := sta_keep S_PLAIN K50 all0
                    replace S_COUNTING := sta_keep S_COUNTING K50 all0
                    replace Z0 := Nat.le_trans Z0 K50.1
                    replace K0 := K0.trans K50 all0
                    have N50 := Fr.app N1 N50q
                    show Go _ _ _ (T50.setTop (mkF m 43 #[.val (.long q1), .second, .val (.int p2), .val (.long ((q1 <<< ((32 : Int32) &&& 0x3f).toInt64) ||| (2 : Int64))), .second, .val (.ref w_COUNTING), .unset] [(f2 ((q1 <<< ((32 : Int32) &&& 0x3f).toInt64) ||| (2 : Int64)) w_PLAIN w_COUNTING)])) _
                    rw [show (f2 ((q1 <<< ((32 : Int32) &&& 0x3f).toInt64) ||| (2 : Int64)) w_PLAIN w_COUNTING) = ((.ref w_COUNTING) : Value) from by unfold f2; simp only [if_neg (show ¬ ((1 : Int64) = ((q1 <<< ((32 : Int32) &&& 0x3f).toInt64) ||| (2 : Int64))) from fun z => hc44 z.symm), if_pos (Eq.symm hc48), if_true, if_false]]
                    show Go _ _ _ (T50.setTop (mkF m 43 #[.val (.long q1), .second, .val (.int p2), .val (.long ((q1 <<< ((32 : Int32) &&& 0x3f).toInt64) ||| (2 : Int64))), .second, .val (.ref w_COUNTING), .unset] [(.ref w_COUNTING)])) _
                    refine Go.st (fun t k => XS.astore X50.here hx rfl (hb hby at_43) rfl rfl (l' := #[.val (.long q1), .second, .val (.int p2), .val (.long ((q1 <<< ((32 : Int32) &&& 0x3f).toInt64) ||| (2 : Int64))), .second, .val (.ref w_COUNTING), .val (.ref w_COUNTING)]) rfl k) ?_
                    refine Go.st (fun t k => XS.aload X50.here hx rfl (hb hby at_45) rfl rfl k) ?_
                    refine Go.st (fun t k => XS.aload X50.here hx rfl (hb hby at_47) rfl rfl k) ?_
                    refine Go.st (fun t k => Jvm.RoadKit.acmp (g := (mkF m 49 #[.val (.long q1), .second, .val (.int p2), .val (.long ((q1 <<< ((32 : Int32) &&& 0x3f).toInt64) ||| (2 : Int64))), .second, .val (.ref w_COUNTING), .val (.ref w_COUNTING)] [(.ref w_COUNTING), (.ref w_COUNTING)])) X50 hx rfl rfl rfl (pc0 := 49) (pc' := 54) (same := true) rfl (hb hby at_49) rfl (decide_eq_true rfl) (by decide) (by decide) k) ?_
                    show Go _ _ _ (T50.setTop (mkF m 54 #[.val (.long q1), .second, .val (.int p2), .val (.long ((q1 <<< ((32 : Int32) &&& 0x3f).toInt64) ||| (2 : Int64))), .second, .val (.ref w_COUNTING), .val (.ref w_COUNTING)] [])) _
                    refine Go.st (fun t k => XS.aload X50.here hx rfl (hb hby at_54) rfl rfl k) ?_
                    refine Go.st (fun t k => XS.ifnullNo X50.here hx rfl (hb hby at_56) rfl k) ?_
                    show Go _ _ _ (T50.setTop (mkF m 59 #[.val (.long q1), .second, .val (.int p2), .val (.long ((q1 <<< ((32 : Int32) &&& 0x3f).toInt64) ||| (2 : Int64))), .second, .val (.ref w_COUNTING), .val (.ref w_COUNTING)] [])) _
                    refine Go.st (fun t k => XS.aload X50.here hx rfl (hb hby at_59) rfl rfl k) ?_
                    obtain ⟨cq51, kq51, q51a, q51b, q51c⟩ := isOf hZ e50 E_w_COUNTING
                    obtain ⟨_, _, ⟨T51, L51, k51, n51⟩, -, X51, ⟨Lc51, hQ51, l51, y51, z51⟩, st51⟩ := X50.virtualBack hx (y := (⟨"com/example/gloom/gloom/io/FilterKind", "getCode", "()I"⟩ : MethodName)) (z := (⟨"com/example/gloom/gloom/io/FilterKind", "getCode", "()I"⟩ : MethodName)) hown (mvT hZ (wd29 hw)) (mvT hZ (wd30 hw)) (notFace_of_selects (args := #[]) (mvT hZ (wd32 hw))) (mvT hZ (wd32 hw)) (mvT hZ (wd31 hw)) (by decide) (backOf (W := 0) (rm4 l Z a0 hw [] w_COUNTING (2 : Int32) h50 n0 Z0 F_w_COUNTING_code) hZ (wd33 hw) (wd6 hw) (by decide) (by decide)) q51a q51c (g := (mkF m 61 #[.val (.long q1), .second, .val (.int p2), .val (.long ((q1 <<< ((32 : Int32) &&& 0x3f).toInt64) ||| (2 : Int64))), .second, .val (.ref w_COUNTING), .val (.ref w_COUNTING)] [(.ref w_COUNTING)])) rfl (by rw [hml]; rfl) (Steps.refl _) (argsL := []) (rest := []) (lenOf pd3 rfl) rfl (by show 2 * 0 + _ ≤ _; exact Nat.le_of_eq rfl) (hb hby at_61) (fun _ _ => ⟨rfl, e50, (by decide : 1 + 0 ≤ _), (by decide : 2 + 0 ≤ _)⟩)
                    dsimp only [Pt.U, Pt.locs, Pt.cells, Pt.slots] at X51 l51 y51 z51 st51 hQ51
                    subst l51 y51 z51
                    refine Go.tr st51 ?_
                    obtain ⟨rfl, N51q, e51⟩ := hQ51
                    have N51 := Fr.app N50 N51q
                    show Go _ _ _ (T51.setTop (mkF m 64 #[.val (.long q1), .second, .val (.int p2), .val (.long ((q1 <<< ((32 : Int32) &&& 0x3f).toInt64) ||| (2 : Int64))), .second, .val (.ref w_COUNTING), .val (.ref w_COUNTING)] [(.int 2)])) _
                    refine Go.st (fun t k => XS.i2l X51.here hx rfl (hb hby at_64) rfl k) ?_
                    show Go _ _ _ (T51.setTop (mkF m 65 #[.val (.long q1), .second, .val (.int p2), .val (.long ((q1 <<< ((32 : Int32) &&& 0x3f).toInt64) ||| (2 : Int64))), .second, .val (.ref w_COUNTING), .val (.ref w_COUNTING)] [(.long 2)])) _
                    refine Go.st (fun t k => XS.lloadN X51.here hx rfl (hb hby at_65) rfl k) ?_
                    refine Go.st (fun t k => XS.lcmp X51.here hx rfl (hb hby at_66) rfl k) ?_
                    show Go _ _ _ (T51.setTop (mkF m 67 #[.val (.long q1), .second, .val (.int p2), .val (.long ((q1 <<< ((32 : Int32) &&& 0x3f).toInt64) ||| (2 : Int64))), .second, .val (.ref w_COUNTING), .val (.ref w_COUNTING)] [(.int (lcmpW (2 : Int64) ((q1 <<< ((32 : Int32) &&& 0x3f).toInt64) ||| (2 : Int64))))])) _
                    refine Go.st (fun t k => XS.ifYes X51.here hx rfl (pc0 := 67) (pc' := 72) rfl (hb hby at_67) rfl ((if0 _ _).trans (teq ((lw_eq (2 : Int64) ((q1 <<< ((32 : Int32) &&& 0x3f).toInt64) ||| (2 : Int64))).mpr (Eq.symm hc48))).1) (by decide) (by decide) k) ?_
                    show Go _ _ _ (T51.setTop (mkF m 72 #[.val (.long q1), .second, .val (.int p2), .val (.long ((q1 <<< ((32 : Int32) &&& 0x3f).toInt64) ||| (2 : Int64))), .second, .val (.ref w_COUNTING), .val (.ref w_COUNTING)] [])) _
                    refine Go.st (fun t k => XS.iconst X51.here hx rfl (hb hby at_72) k) ?_
                    obtain ⟨fs, hr, hrun, hended, hW, hsame⟩ := X51.leave (v := some (.int (1 : Int32))) (fun h => by rw [Bd.returns] at h; cases h)
                    refine Go.fin (retN X51 hx (t := .boolean) Bd.returns (by simp) (hb hby at_73) hr) hrun hended ⟨_, _, rfl, ?_, ⟨_, rfl⟩, hW, hsame.mono (by decide) (by decide)⟩
                    show Q0 Z q1 p2 w__VALUES k_v w_PLAIN w_COUNTING h0 n0 _ T51.heap _
                    rw [e51]
                    exact ⟨rfl, N51⟩
                  · refine Go.st (fun t k => XS.ifYes X1.here hx rfl (pc0 := 25) (pc' := 36) rfl (hb hby at_25) rfl ((if0 _ _).trans (feq (fun z => hc48 ((lw_eq ((q1 <<< ((32 : Int32) &&& 0x3f).toInt64) ||| (2 : Int64)) (2 : Int64)).mp z))).2) (by decide) (by decide) k) ?_
                    show Go _ _ _ (T1.setTop (mkF m 36 #[.val (.long q1), .second, .val (.int p2), .val (.long ((q1 <<< ((32 : Int32) &&& 0x3f).toInt64) ||| (2 : Int64))), .second, .unset, .unset] [])) _
                    refine Go.st (fun t k => XS.aconstNull X1.here hx rfl (hb hby at_36) k) ?_
                    refine Go.st (fun t k => XS.astore X1.here hx rfl (hb hby at_37) rfl rfl (l' := #[.val (.long q1), .second, .val (.int p2), .val (.long ((q1 <<< ((32 : Int32) &&& 0x3f).toInt64) ||| (2 : Int64))), .second, .val .null, .unset]) rfl k) ?_
                    refine Go.st (fun t k => XS.lloadN X1.here hx rfl (hb hby at_39) rfl k) ?_
                    obtain ⟨_, _, ⟨T52, L52, k52, n52⟩, -, X52, ⟨Lc52, hQ52, l52, y52, z52⟩, st52⟩ := Jvm.LawKit.callS X1 hx (y := (⟨"com/example/gloom/gloom/io/FilterKind", "fromCode", "(J)Lcom/example/gloom/gloom/io/FilterKind;"⟩ : MethodName)) hown (mvT hZ (wd8 hw)) (mvT hZ (wd9 hw)) (mvT hZ (wd6 hw)) (mvT hZ (wd10 hw)) (by decide) (backOf (W := 0) (rm2 l Z a0 hw [] ((q1 <<< ((32 : Int32) &&& 0x3f).toInt64) ||| (2 : Int64)) w__VALUES k_v w_PLAIN w_COUNTING h0 n0 Z0 S__VALUES E_VALS V_VALS E_w_PLAIN F_w_PLAIN_code E_w_COUNTING F_w_COUNTING_code) hZ (wd10 hw) (wd6 hw) (by decide) (by decide)) (g := (mkF m 40 #[.val (.long q1), .second, .val (.int p2), .val (.long ((q1 <<< ((32 : Int32) &&& 0x3f).toInt64) ||| (2 : Int64))), .second, .val .null, .unset] [(.long ((q1 <<< ((32 : Int32) &&& 0x3f).toInt64) ||| (2 : Int64)))])) rfl (by rw [hml]; rfl) (argsL := [(.long ((q1 <<< ((32 : Int32) &&& 0x3f).toInt64) ||| (2 : Int64)))]) (rest := []) (lenOf pd2 rfl) rfl (by show 2 * 0 + _ ≤ _; exact Nat.le_of_eq rfl) (hb hby at_40) (fun _ _ => ⟨rfl, e1, (by decide : 0 + 1 ≤ _), (by decide : 0 + 2 ≤ _)⟩)
                    dsimp only [Pt.U, Pt.locs, Pt.cells, Pt.slots] at X52 l52 y52 z52 st52 hQ52
                    subst l52 y52 z52
                    refine Go.st st52 ?_
                    obtain ⟨h52, e52⟩ : ∃ z, T52.heap = z := ⟨_, rfl⟩
                    rw [e52] at hQ52
                    obtain ⟨rfl, N52q, K52⟩ := hQ52
                    replace S__VALUES := sta_keep S__VALUES K52 all0
                    replace E_VALS := E_VALS.keep K52
                    replace V_VALS := V_VALS.keep K52 nin0
                    replace E_w_PLAIN := E_w_PLAIN.keep K52
                    replace F_w_PLAIN_code := F_w_PLAIN_code.keep K52 nin0
                    replace E_w_COUNTING := E_w_COUNTING.keep K52
                    replace F_w_COUNTING_code := F_w_COUNTING_code.keep K52 nin0
                    replace S_PLAIN := sta_keep S_PLAIN K52 all0
                    replace S_COUNTING := sta_keep S_COUNTING K52 all0
                    replace Z0 := Nat.le_trans Z0 K52.1
                    replace K0 := K0.trans K52 all0
                    have N52 := Fr.app N1 N52q
                    show Go _ _ _ (T52.setTop (mkF m 43 #[.val (.long q1), .second, .val (.int p2), .val (.long ((q1 <<< ((32 : Int32) &&& 0x3f).toInt64) ||| (2 : Int64))), .second, .val .null, .unset] [(f2 ((q1 <<< ((32 : Int32) &&& 0x3f).toInt64) ||| (2 : Int64)) w_PLAIN w_COUNTING)])) _
                    rw [show (f2 ((q1 <<< ((32 : Int32) &&& 0x3f).toInt64) ||| (2 : Int64)) w_PLAIN w_COUNTING) = (.null : Value) from by unfold f2; simp only [if_neg (show ¬ ((1 : Int64) = ((q1 <<< ((32 : Int32) &&& 0x3f).toInt64) ||| (2 : Int64))) from fun z => hc44 z.symm), if_neg (show ¬ ((2 : Int64) = ((q1 <<< ((32 : Int32) &&& 0x3f).toInt64) ||| (2 : Int64))) from fun z => hc48 z.symm), if_true, if_false]]
                    show Go _ _ _ (T52.setTop (mkF m 43 #[.val (.long q1), .second, .val (.int p2), .val (.long ((q1 <<< ((32 : Int32) &&& 0x3f).toInt64) ||| (2 : Int64))), .second, .val .null, .unset] [.null])) _
                    refine Go.st (fun t k => XS.astore X52.here hx rfl (hb hby at_43) rfl rfl (l' := #[.val (.long q1), .second, .val (.int p2), .val (.long ((q1 <<< ((32 : Int32) &&& 0x3f).toInt64) ||| (2 : Int64))), .second, .val .null, .val .null]) rfl k) ?_
                    refine Go.st (fun t k => XS.aload X52.here hx rfl (hb hby at_45) rfl rfl k) ?_
                    refine Go.st (fun t k => XS.aload X52.here hx rfl (hb hby at_47) rfl rfl k) ?_
                    refine Go.st (fun t k => Jvm.RoadKit.acmp (g := (mkF m 49 #[.val (.long q1), .second, .val (.int p2), .val (.long ((q1 <<< ((32 : Int32) &&& 0x3f).toInt64) ||| (2 : Int64))), .second, .val .null, .val .null] [.null, .null])) X52 hx rfl rfl rfl (pc0 := 49) (pc' := 54) (same := true) rfl (hb hby at_49) rfl (decide_eq_true rfl) (by decide) (by decide) k) ?_
                    show Go _ _ _ (T52.setTop (mkF m 54 #[.val (.long q1), .second, .val (.int p2), .val (.long ((q1 <<< ((32 : Int32) &&& 0x3f).toInt64) ||| (2 : Int64))), .second, .val .null, .val .null] [])) _
                    refine Go.st (fun t k => XS.aload X52.here hx rfl (hb hby at_54) rfl rfl k) ?_
                    refine Go.st (fun t k => XS.ifnullYes X52.here hx rfl (pc0 := 56) (pc' := 72) rfl (hb hby at_56) rfl (by decide) (by decide) k) ?_
                    show Go _ _ _ (T52.setTop (mkF m 72 #[.val (.long q1), .second, .val (.int p2), .val (.long ((q1 <<< ((32 : Int32) &&& 0x3f).toInt64) ||| (2 : Int64))), .second, .val .null, .val .null] [])) _
                    refine Go.st (fun t k => XS.iconst X52.here hx rfl (hb hby at_72) k) ?_
                    obtain ⟨fs, hr, hrun, hended, hW, hsame⟩ := X52.leave (v := some (.int (1 : Int32))) (fun h => by rw [Bd.returns] at h; cases h)
                    refine Go.fin (retN X52 hx (t := .boolean) Bd.returns (by simp) (hb hby at_73) hr) hrun hended ⟨_, _, rfl, ?_, ⟨_, rfl⟩, hW, hsame.mono (by decide) (by decide)⟩
                    show Q0 Z q1 p2 w__VALUES k_v w_PLAIN w_COUNTING h0 n0 _ T52.heap _
                    rw [e52]
                    exact ⟨rfl, N52⟩
theorem own_len {args : Array Value} {s : State} {t : Term} {a : Addr} {cl : Cell} {ty : FieldType} {k : Int32} (ev : t.eval args s none [] s = some (.ref a)) (A : Arr s s.heap a cl ty) (h : (Jvm.Cond.eq (.length t) (.int k)).value args s none s [] = some true) : cl.slots.size < 2 ^ 31 ∧ cl.slots.size.toInt32 = k := by
  have e := own_eqi h
  have ha := A.fin (Vm.Alike.refl _)
  by_cases hn : cl.slots.size < 2 ^ 31
  · rw [len_f ev ha hn] at e
    exact ⟨hn, Value.int.inj (Option.some.inj e)⟩
  · exact absurd e (by simp [Term.eval, ev, ha, show ¬ cl.slots.size < 2147483648 from hn])
theorem own_eqr {args : Array Value} {s : State} {t u : Term} {x : Addr} (hu : u.eval args s none [] s = some (.ref x)) (h : (Jvm.Cond.eq t u).value args s none s [] = some true) : t.eval args s none [] s = some (.ref x) := by
  obtain ⟨v, y, e1, e2, k1, k2⟩ := cmp_v (Or.inl h)
  cases hu.symm.trans e2
  cases v <;> simp [Cond.value, e1, hu] at h
  rw [e1, h]
theorem own_elr {args : Array Value} {s : State} {t u : Term} {a x : Addr} {cl : Cell} {ty : FieldType} {j : Int32} (ev : t.eval args s none [] s = some (.ref a)) (A : Arr s s.heap a cl ty) (hu : u.eval args s none [] s = some (.ref x)) (h : (Jvm.Cond.eq (.elem t (.int j)) u).value args s none s [] = some true) : cl.slots[j.toNatClampNeg]? = some (.ref x) :=
  (elem_in (own_eqr hu h) ev (Term.int_eval j) A.1).2
theorem own_eli {args : Array Value} {s : State} {t : Term} {a : Addr} {cl : Cell} {ty : FieldType} {j k : Int32} (ev : t.eval args s none [] s = some (.ref a)) (A : Arr s s.heap a cl ty) (h : (Jvm.Cond.eq (.elem t (.int j)) (.int k)).value args s none s [] = some true) : atv cl j = k :=
  atv_of (elem_in (own_eqi h) ev (Term.int_eval j) A.1).2
theorem own_tabArv {s : State} {a : Addr} {cl : Cell} {ty : FieldType} {z : Int32} (hfit : Fit s) (T : Tab s s.heap a cl ty z) (q : cl.slots.size < 2 ^ 31) (e : cl.slots.size.toInt32 = z) (xs : List Int32) (h : ∀ j : Int32, ¬ j < 0 → j < z → atv cl j = own_at xs j) : Arv s s.heap a cl.cls ty z (xs.map Value.int) (.int 0) := by
  have hk : ∀ k, k < cl.slots.size → (Nat.toInt32 k).toNatClampNeg = k ∧ cl.slots[k]? = some ((xs.map Value.int).getD k (.int 0)) := by
    intro k hk
    have e1 : (Nat.toInt32 k).toNatClampNeg = k := by simp only [Int32.toNatClampNeg, len_toInt (Nat.lt_trans hk q)]; rfl
    have hi := idx_in hk q
    have g := T.2.2.2 (Nat.toInt32 k) hi
    have hlt : Nat.toInt32 k < z := by
      rw [← e, Int32.lt_iff_toInt_lt, len_toInt (Nat.lt_trans hk q), len_toInt q]
      omega
    rw [h _ (fun y => hi (Or.inl y)) hlt, ← own_atv, e1] at g
    exact ⟨e1, g⟩
  refine ⟨cl, T.1, rfl, T.2.1, T.2.2.1, fun k q' => (hk k q').2, fun k q' => ?_⟩
  exact elem_fits (j := Nat.toInt32 k) hfit T.1 (idx_in q' q) (by rw [(hk k q').1]; exact (hk k q').2)
theorem own_all2 {args : Array Value} {s : State} {t : Term} {a : Addr} {cl : Cell} {ty : FieldType} {z hi v : Int32} (et : ∀ idx, t.eval args s none idx s = some (.ref a)) (T : Tab s s.heap a cl ty z) (h : (Jvm.Cond.all t (.or (.le (.int hi) (.index 0)) (.eq (.elem t (.index 0)) (.int v)))).value args s none s [] = some true) (j : Int32) (h0 : ¬ j < 0) (h1 : j < z) : ¬ j < hi ∨ atv cl j = v := by
  have ha := T.1.fin (Vm.Alike.refl _)
  have hin : ¬ (j < 0 ∨ cl.slots.size ≤ j.toNatClampNeg) := inb_of T.2.1 ⟨h0, h1⟩
  have c := Cond.all_elim (et []) ha h j.toNatClampNeg (Nat.lt_of_not_le fun x => hin (Or.inr x))
  have e1 : (Term.elem t (.index 0)).eval args s none [j.toNatClampNeg] s = some (.int (atv cl j)) := (elem_f (et _) (idx_at h0) ha h0).trans (T.2.2.2 j hin)
  have v1 : (Jvm.Cond.le (.int hi) (.index 0)).value args s none s [j.toNatClampNeg] = some (decide (hi ≤ j)) := Cond.le_ints (Term.int_eval hi) (idx_at h0)
  have v2 : (Jvm.Cond.eq (.elem t (.index 0)) (.int v)).value args s none s [j.toNatClampNeg] = some (decide (atv cl j = v)) := Cond.eq_ints e1 (Term.int_eval v)
  rcases or_e2 v1 v2 c with q | q
  · exact Or.inl (Int32.not_lt.mpr q)
  · exact Or.inr q
theorem own_all3 {args : Array Value} {s : State} {t : Term} {a : Addr} {cl : Cell} {ty : FieldType} {z lo hi v : Int32} (et : ∀ idx, t.eval args s none idx s = some (.ref a)) (T : Tab s s.heap a cl ty z) (h : (Jvm.Cond.all t (.or (.lt (.index 0) (.int lo)) (.or (.le (.int hi) (.index 0)) (.eq (.elem t (.index 0)) (.int v))))).value args s none s [] = some true) (j : Int32) (h0 : ¬ j < 0) (h1 : j < z) : j < lo ∨ ¬ j < hi ∨ atv cl j = v := by
  have ha := T.1.fin (Vm.Alike.refl _)
  have hin : ¬ (j < 0 ∨ cl.slots.size ≤ j.toNatClampNeg) := inb_of T.2.1 ⟨h0, h1⟩
  have c := Cond.all_elim (et []) ha h j.toNatClampNeg (Nat.lt_of_not_le fun x => hin (Or.inr x))
  have e1 : (Term.elem t (.index 0)).eval args s none [j.toNatClampNeg] s = some (.int (atv cl j)) := (elem_f (et _) (idx_at h0) ha h0).trans (T.2.2.2 j hin)
  have v1 : (Jvm.Cond.lt (.index 0) (.int lo)).value args s none s [j.toNatClampNeg] = some (decide (j < lo)) := Cond.lt_ints (idx_at h0) (Term.int_eval lo)
  have v2 : (Jvm.Cond.le (.int hi) (.index 0)).value args s none s [j.toNatClampNeg] = some (decide (hi ≤ j)) := Cond.le_ints (Term.int_eval hi) (idx_at h0)
  have v3 : (Jvm.Cond.eq (.elem t (.index 0)) (.int v)).value args s none s [j.toNatClampNeg] = some (decide (atv cl j = v)) := Cond.eq_ints e1 (Term.int_eval v)
  exact or3 c v1 v2 v3
theorem own_l48 {args : Array Value} {s : State} {t : Term} {cl : Cell} {j : Int32} {k : Int64} (h0 : ¬ j < 0) (e1 : (Term.elem t (.index 0)).eval args s none [j.toNatClampNeg] s = some (.int (atv cl j))) : (Jvm.Cond.eq (.op1 .i2l (.elem t (.index 0))) (.op2 .ladd (.op1 .i2l (.index 0)) (.long k))).value args s none s [j.toNatClampNeg] = some (decide ((atv cl j).toInt64 = j.toInt64 + k)) :=
  eq_L (i2l_at e1) ((op2_f (i2l_at (idx_at h0)) rfl).trans rfl)
theorem own_allA {args : Array Value} {s : State} {t : Term} {a : Addr} {cl : Cell} {ty : FieldType} {z hi : Int32} {k : Int64} (et : ∀ idx, t.eval args s none idx s = some (.ref a)) (T : Tab s s.heap a cl ty z) (h : (Jvm.Cond.all t (.or (.le (.int hi) (.index 0)) (.eq (.op1 .i2l (.elem t (.index 0))) (.op2 .ladd (.op1 .i2l (.index 0)) (.long k))))).value args s none s [] = some true) (j : Int32) (h0 : ¬ j < 0) (h1 : j < z) (h2 : j < hi) : (atv cl j).toInt64 = j.toInt64 + k := by
  have ha := T.1.fin (Vm.Alike.refl _)
  have hin : ¬ (j < 0 ∨ cl.slots.size ≤ j.toNatClampNeg) := inb_of T.2.1 ⟨h0, h1⟩
  have c := Cond.all_elim (et []) ha h j.toNatClampNeg (Nat.lt_of_not_le fun x => hin (Or.inr x))
  have e1 : (Term.elem t (.index 0)).eval args s none [j.toNatClampNeg] s = some (.int (atv cl j)) := (elem_f (et _) (idx_at h0) ha h0).trans (T.2.2.2 j hin)
  rcases or_e2 (Cond.le_ints (Term.int_eval hi) (idx_at h0)) (own_l48 h0 e1) c with q | q
  · exact absurd h2 (Int32.not_lt.mpr q)
  · exact q
theorem own_allB {args : Array Value} {s : State} {t : Term} {a : Addr} {cl : Cell} {ty : FieldType} {z lo : Int32} {k : Int64} (et : ∀ idx, t.eval args s none idx s = some (.ref a)) (T : Tab s s.heap a cl ty z) (h : (Jvm.Cond.all t (.or (.lt (.index 0) (.int lo)) (.eq (.op1 .i2l (.elem t (.index 0))) (.op2 .ladd (.op1 .i2l (.index 0)) (.long k))))).value args s none s [] = some true) (j : Int32) (h0 : ¬ j < 0) (h1 : j < z) (h2 : ¬ j < lo) : (atv cl j).toInt64 = j.toInt64 + k := by
  have ha := T.1.fin (Vm.Alike.refl _)
  have hin : ¬ (j < 0 ∨ cl.slots.size ≤ j.toNatClampNeg) := inb_of T.2.1 ⟨h0, h1⟩
  have c := Cond.all_elim (et []) ha h j.toNatClampNeg (Nat.lt_of_not_le fun x => hin (Or.inr x))
  have e1 : (Term.elem t (.index 0)).eval args s none [j.toNatClampNeg] s = some (.int (atv cl j)) := (elem_f (et _) (idx_at h0) ha h0).trans (T.2.2.2 j hin)
  rcases or_e2 (Cond.lt_ints (idx_at h0) (Term.int_eval lo)) (own_l48 h0 e1) c with q | q
  · exact absurd q h2
  · exact q

theorem wd7 {Z : State} {a0 : Array Value} (hw : ∀ d ∈ tables_1, d.before a0 Z = true) : (Jvm.Cond.laysStatic "com/example/gloom/gloom/io/FilterKind" "COUNTING" "Lcom/example/gloom/gloom/io/FilterKind;").before a0 Z = true := hw _ (List.mem_of_getElem? (i := 7) rfl)
theorem wd15 {Z : State} {a0 : Array Value} (hw : ∀ d ∈ tables_1, d.before a0 Z = true) : (Jvm.Cond.laysStatic "com/example/gloom/gloom/io/FilterKind" "$VALUES" "[Lcom/example/gloom/gloom/io/FilterKind;").before a0 Z = true := hw _ (List.mem_of_getElem? (i := 15) rfl)
theorem wd23 {Z : State} {a0 : Array Value} (hw : ∀ d ∈ tables_1, d.before a0 Z = true) : (Jvm.Cond.laysStatic "com/example/gloom/gloom/io/FilterKind" "PLAIN" "Lcom/example/gloom/gloom/io/FilterKind;").before a0 Z = true := hw _ (List.mem_of_getElem? (i := 23) rfl)
set_option maxRecDepth 65536 in
set_option maxHeartbeats 16000000 in
theorem comes_1 {Post : Tables → Env → Array Value → State → Outcome → State → Prop} (hpost : ∀ tb e args s v u, (limb_1_1.after args s (.returned v) u = true ∧ limb_1_2.after args s (.returned v) u = true ∧ True) → FrameEnd s (.returned v) u (Jvm.fieldLocs frame_1_writes args s ++ Jvm.arrayLocs frame_1_arrays args s ++ Jvm.staticLocs frame_1_statics s) 16 128 → Post tb e args s (.returned v) u) :
    ArmFor flags0 classFile x code maxLocals ret World_1 tables_1 room_1 Calls_1 rest_1 Pre_1 Post := by
  intro l hfl _ _ p e ha hc hk s m args below hf hA hF happ hP
  obtain ⟨hcalls, hrest, hpre⟩ := hP
  obtain ⟨-, -, -, hnamed, -, -, -, hat⟩ := (Spec.applies_iff hf).mp happ
  obtain ⟨hg, hn⟩ := and_e (Cond.before_iff.mp (show (Jvm.Cond.and given_1 narrow_1).before args s = true from hpre))
  obtain ⟨g1, g2⟩ := and_e hg
  obtain ⟨g3, g4⟩ := and_e g2
  obtain ⟨g5, g6⟩ := and_e hn
  obtain ⟨g7, g8⟩ := and_e g6
  obtain ⟨g9, g10⟩ := and_e g8
  obtain ⟨g11, g12⟩ := and_e g10
  obtain ⟨g13, g14⟩ := and_e g12
  obtain ⟨g15, g16⟩ := and_e g14
  obtain ⟨g17, g18⟩ := and_e g16
  obtain ⟨g19, g20⟩ := and_e g18
  obtain ⟨w0, w1, rfl⟩ : ∃ w0 w1 : Value, args = #[w0, w1] := by
    have hs : args.size = 2 := by simpa [Cond.value, given_1] using g1
    obtain ⟨L⟩ := args
    match L, hs with
    | [w0, w1], _ => exact ⟨w0, w1, rfl⟩
  have hw := fun d (hd : d ∈ tables_1) => atoms_spec (ws := Jvm.Cond.code x code maxLocals ret :: tables_1) hat d (List.mem_cons_of_mem _ hd)
  have hfit : Fit s := fun {y c} hc i hi => by
    obtain ⟨ha, rfl⟩ := Array.getElem?_eq_some_iff.mp hc
    have q := List.all_eq_true.mp ((Array.all_eq_true_iff_forall_mem.mp hF) _ (Array.getElem_mem ha)) i (List.mem_range.mpr hi)
    simpa [Array.getElem?_eq_getElem hi] using q
  obtain ⟨i0, ei0⟩ := isL_v g3
  obtain rfl : w0 = (.long i0) := Option.some.inj ei0
  obtain ⟨i1, ei1⟩ := is_v g4
  obtain rfl : w1 = (.int i1) := Option.some.inj ei1
  obtain ⟨v_COUNTING, ev_v_COUNTING⟩ := exa_v g5
  have E_v_COUNTING := Exa.start ev_v_COUNTING g5
  have S_v_COUNTING := Sta.start ev_v_COUNTING (Or.inr ⟨(wd6 hw), (wd7 hw)⟩)
  obtain ⟨v__VALUES, ev_v__VALUES⟩ := arr_v g7
  have S_v__VALUES := Sta.start ev_v__VALUES (Or.inr ⟨(wd6 hw), (wd15 hw)⟩)
  obtain ⟨cl_v__VALUES, Ar_v__VALUES⟩ := Arr.start ev_v__VALUES g7
  have E_v__VALUES := Exa.start ev_v__VALUES g9
  obtain ⟨q_v__VALUES, e_v__VALUES⟩ := own_len ev_v__VALUES Ar_v__VALUES g11
  obtain ⟨v_PLAIN, ev_v_PLAIN⟩ := exa_v g13
  have E_v_PLAIN := Exa.start ev_v_PLAIN g13
  have S_v_PLAIN := Sta.start ev_v_PLAIN (Or.inr ⟨(wd6 hw), (wd23 hw)⟩)
  have F_v_PLAIN_code := Fld.start ((fld_at ev_v_PLAIN).symm.trans (own_eqi g19))
  have F_v_COUNTING_code := Fld.start ((fld_at ev_v_COUNTING).symm.trans (own_eqi g20))
  have hel_v__VALUES_0 := own_elr ev_v__VALUES Ar_v__VALUES ev_v_PLAIN g15
  have hel_v__VALUES_1 := own_elr ev_v__VALUES Ar_v__VALUES ev_v_COUNTING g17
  have V_v__VALUES := Arv.start (dv := .null) (vs := [(.ref v_PLAIN), (.ref v_COUNTING)]) hfit Ar_v__VALUES q_v__VALUES e_v__VALUES (by decide) rfl ⟨hel_v__VALUES_0, hel_v__VALUES_1, trivial⟩
  have hplain := trivial
  obtain ⟨n, o, h1, h2, h3, _, L, rfl, ⟨rfl, N⟩, hq⟩ := rm0 l s _ hw tables_1 i0 i1 v__VALUES cl_v__VALUES.cls v_PLAIN v_COUNTING s.heap s.heap.size (Nat.le_refl _) S_v__VALUES E_v__VALUES V_v__VALUES E_v_PLAIN F_v_PLAIN_code E_v_COUNTING F_v_COUNTING_code S_v_PLAIN S_v_COUNTING p e ha hc hk s m _ below hf ((Spec.applies_iff_loose hf).mp happ).1 ⟨rfl, State.Warmed39.refl s, rfl⟩ trivial
  refine ⟨n, _, h1, h2, h3, hpost _ _ _ _ _ _ ⟨Cond.after_iff.mpr rfl, Cond.after_iff.mpr (eq_i res_at (Term.int_eval (1)) rfl), trivial⟩ ⟨hq.1, hq.2.1, (hq.2.2.sift fun y hy => Or.inr (N y hy)).mono (by decide) (by decide)⟩⟩
theorem main_1_1 : Claimed_1_1 := comes_1 fun _ _ _ _ _ _ h hF => ⟨h.1, hF⟩
theorem main_1_2 : Claimed_1_2 := comes_1 fun _ _ _ _ _ _ h hF => ⟨h.2.1, hF⟩
end Jvm.Pilot.@@N@@
namespace Jvm.Pilot.@@N@@
open Jvm Jvm.ClassFile Sem Op Lib Jvm.Free Jvm.Stand Jvm.Pilot.@@N@@.Jvm.D
/-! MADE BY PROGRAM (witnessworld.py) out of the Statement's table words and the real class files: 13 classes; the members and pool entries that the words name. The judged class is class 1, her method 2. -/
namespace start1
open Jvm.ClassFile
def u (s : String) : CpInfo := .utf8 (stringToUtf16 s)
/-- a pool by its gaps: so many unusable entries, then the entry; so many at the end -/
def gap : Nat → List CpInfo → List CpInfo
  | 0, r => r
  | n + 1, r => .unusable :: gap n r
def poolList (es : List (Nat × CpInfo)) (last : Nat) : List CpInfo := es.foldr (fun e r => gap e.1 (e.2 :: r)) (gap last [])
def pool (es : List (Nat × CpInfo)) (last : Nat) : Array CpInfo := ⟨poolList es last⟩
def fileOf (pool : Array CpInfo) (this : Nat) (attrs : Array Attribute := #[]) (ms : Array MethodInfo := #[]) (fl : Nat := 33) (sup : Nat := 0) (ifs : Array Nat := #[]) (fds : Array FieldInfo := #[]) : ClassFile where
  minorVersion := 0
  majorVersion := 65
  constantPool := pool
  accessFlags := fl
  thisClass := this
  superClass := sup
  interfaces := ifs
  fields := fds
  methods := ms
  attributes := attrs
def plain (name : String) (sup : Option ClassId) : Class where
  name := name
  kind := .ordinary
  loader := none
  accessFlags := 33
  super := sup
  interfaces := #[]
  cf := none
  fields := #[]
  methods := #[]
  instanceTypes := #[]
  staticTypes := #[]
  resolved := #[]
  callSites := []
  init := .initialized
  statics := none
  mirror := none

def pool0 : Array CpInfo := pool [(5, u "<init>"), (0, u "()V"), (1, .class_ 10), (1, u "java/lang/Object"), (85, u "clone"), (0, u "()Ljava/lang/Object;")] 26

def k0m0 : Method := { name := "<init>", desc := "()V", sig := { parameters := [], returnType := none }, accessFlags := 1, code := none }
def k0m1 : Method := { name := "clone", desc := "()Ljava/lang/Object;", sig := { parameters := [], returnType := some (.object "java/lang/Object") }, accessFlags := 260, code := none }
/-- java/lang/Object -/
def k0 : Class := { plain "java/lang/Object" none with
  accessFlags := 33
  interfaces := #[]
  cf := some (fileOf pool0 8 #[] #[{ accessFlags := 1, nameIndex := 5, descriptorIndex := 6, attributes := #[] }, { accessFlags := 260, nameIndex := 96, descriptorIndex := 97, attributes := #[] }] 33 0 #[] #[])
  fields := #[]
  methods := #[k0m0, k0m1]
  instanceTypes := #[]
  staticTypes := #[]
  resolved := Array.replicate 124 none
  statics := none }

def pool1 : Array CpInfo := pool [(2, .class_ 4), (1, u "java/lang/Object"), (0, u "<init>"), (0, u "()V"), (0, .long 2), (1, .long 3), (1, .methodref 12 13), (0, .class_ 14), (0, .nameAndType 15 16), (0, u "com/example/gloom/gloom/io/FilterKindFromCodePinLaw"), (0, u "pick"), (0, u "(JI)J"), (0, .fieldref 18 19), (0, .class_ 20), (0, .nameAndType 21 22), (0, u "com/example/gloom/gloom/io/FilterKind"), (0, u "PLAIN"), (0, u "Lcom/example/gloom/gloom/io/FilterKind;"), (0, .fieldref 18 24), (0, .nameAndType 25 22), (0, u "COUNTING"), (0, .methodref 18 27), (0, .nameAndType 28 29), (0, u "fromCode"), (0, u "(J)Lcom/example/gloom/gloom/io/FilterKind;"), (0, .methodref 18 31), (0, .nameAndType 32 33), (0, u "getCode"), (0, u "()I"), (3, u "law"), (0, u "(JI)Z")] 2

def k1m0 : Method := { name := "<init>", desc := "()V", sig := { parameters := [], returnType := none }, accessFlags := 1, code := none }
def k1c1 : Code := { maxStack := 4, maxLocals := 4, code := method_2_code, exceptionTable := #[], attributes := #[] }
def k1m1 : Method := { name := "pick", desc := "(JI)J", sig := { parameters := [.long, .int], returnType := some .long }, accessFlags := 10, code := some k1c1 }
def k1c2 : Code := { maxStack := 4, maxLocals := 7, code := code, exceptionTable := #[], attributes := #[] }
def k1m2 : Method := { name := "law", desc := "(JI)Z", sig := { parameters := [.long, .int], returnType := some .boolean }, accessFlags := 9, code := some k1c2 }
/-- com/example/gloom/gloom/io/FilterKindFromCodePinLaw -/
def k1 : Class := { plain "com/example/gloom/gloom/io/FilterKindFromCodePinLaw" (some 0) with
  accessFlags := 49
  interfaces := #[]
  cf := some (fileOf pool1 12 #[] #[{ accessFlags := 1, nameIndex := 5, descriptorIndex := 6, attributes := #[] }, { accessFlags := 10, nameIndex := 15, descriptorIndex := 16, attributes := #[] }, { accessFlags := 9, nameIndex := 37, descriptorIndex := 38, attributes := #[] }] 49 2 #[] #[])
  fields := #[]
  methods := #[k1m0, k1m1, k1m2]
  instanceTypes := #[]
  staticTypes := #[]
  resolved := Array.replicate 41 none
  statics := none }

def pool2 : Array CpInfo := pool [(1, .class_ 2), (0, u "java/lang/constant/Constable"), (0, .class_ 4), (0, u "java/lang/Object")] 6

/-- java/lang/constant/Constable -/
def k2 : Class := { plain "java/lang/constant/Constable" (some 0) with
  accessFlags := 1537
  interfaces := #[]
  cf := some (fileOf pool2 1 #[] #[] 1537 3 #[] #[])
  fields := #[]
  methods := #[]
  instanceTypes := #[]
  staticTypes := #[]
  resolved := Array.replicate 11 none
  statics := none }

def pool3 : Array CpInfo := pool [(1, .class_ 2), (0, u "java/lang/Comparable"), (0, .class_ 4), (0, u "java/lang/Object")] 7

/-- java/lang/Comparable -/
def k3 : Class := { plain "java/lang/Comparable" (some 0) with
  accessFlags := 1537
  interfaces := #[]
  cf := some (fileOf pool3 1 #[] #[] 1537 3 #[] #[])
  fields := #[]
  methods := #[]
  instanceTypes := #[]
  staticTypes := #[]
  resolved := Array.replicate 12 none
  statics := none }

def pool4 : Array CpInfo := pool [(1, .class_ 2), (0, u "java/io/Serializable"), (0, .class_ 4), (0, u "java/lang/Object")] 2

/-- java/io/Serializable -/
def k4 : Class := { plain "java/io/Serializable" (some 0) with
  accessFlags := 1537
  interfaces := #[]
  cf := some (fileOf pool4 1 #[] #[] 1537 3 #[] #[])
  fields := #[]
  methods := #[]
  instanceTypes := #[]
  staticTypes := #[]
  resolved := Array.replicate 7 none
  statics := none }

def pool5 : Array CpInfo := pool [(2, .class_ 4), (1, u "java/lang/Enum"), (0, u "name"), (0, u "Ljava/lang/String;"), (2, u "ordinal"), (0, u "I"), (1, .class_ 14), (1, u "java/lang/Object"), (4, u "hash"), (86, .class_ 108), (1, u "java/lang/Enum$EnumDesc"), (2, .class_ 112), (0, u "java/lang/constant/Constable"), (0, .class_ 114), (0, u "java/lang/Comparable"), (0, .class_ 116), (0, u "java/io/Serializable")] 87

/-- java/lang/Enum -/
def k5 : Class := { plain "java/lang/Enum" (some 0) with
  accessFlags := 1057
  interfaces := #[2, 3, 4]
  cf := some (fileOf pool5 2 #[.nestMembers #[106]] #[] 1057 12 #[111, 113, 115] #[{ accessFlags := 18, nameIndex := 5, descriptorIndex := 6, attributes := #[] }, { accessFlags := 18, nameIndex := 9, descriptorIndex := 10, attributes := #[] }, { accessFlags := 2, nameIndex := 19, descriptorIndex := 10, attributes := #[] }])
  fields := #[{ name := "name", type := (.object "java/lang/String"), accessFlags := 18, slot := 0, constantValue := 0 }, { name := "ordinal", type := .int, accessFlags := 18, slot := 1, constantValue := 0 }, { name := "hash", type := .int, accessFlags := 2, slot := 2, constantValue := 0 }]
  methods := #[]
  instanceTypes := #[(.object "java/lang/String"), .int, .int]
  staticTypes := #[]
  resolved := Array.replicate 204 none
  statics := none }

def pool6 : Array CpInfo := pool [(1, .class_ 2), (0, u "com/example/gloom/gloom/io/FilterKind"), (2, u "PLAIN"), (0, u "Lcom/example/gloom/gloom/io/FilterKind;"), (2, u "COUNTING"), (0, .fieldref 1 11), (0, .nameAndType 12 13), (0, u "$VALUES"), (0, u "[Lcom/example/gloom/gloom/io/FilterKind;"), (0, .methodref 15 16), (0, .class_ 13), (0, .nameAndType 17 18), (0, u "clone"), (0, u "()Ljava/lang/Object;"), (1, .class_ 22), (1, u "java/lang/Enum"), (6, .fieldref 1 30), (0, .nameAndType 31 32), (0, u "code"), (0, u "I"), (2, u "cellBits"), (2, u "removes"), (0, u "Z"), (16, .methodref 1 57), (0, .nameAndType 58 59), (0, u "values"), (0, u "()[Lcom/example/gloom/gloom/io/FilterKind;"), (14, u "getCode"), (0, u "()I"), (3, u "fromCode"), (0, u "(J)Lcom/example/gloom/gloom/io/FilterKind;")] 6

def k6c0 : Code := { maxStack := 1, maxLocals := 0, code := prog_21_method_1_code, exceptionTable := #[], attributes := #[] }
def k6m0 : Method := { name := "values", desc := "()[Lcom/example/gloom/gloom/io/FilterKind;", sig := { parameters := [], returnType := some (.array (.object "com/example/gloom/gloom/io/FilterKind")) }, accessFlags := 9, code := some k6c0 }
def k6c1 : Code := { maxStack := 1, maxLocals := 1, code := prog_21_method_4_code, exceptionTable := #[], attributes := #[] }
def k6m1 : Method := { name := "getCode", desc := "()I", sig := { parameters := [], returnType := some .int }, accessFlags := 1, code := some k6c1 }
def k6c2 : Code := { maxStack := 4, maxLocals := 6, code := prog_21_method_8_code, exceptionTable := #[], attributes := #[] }
def k6m2 : Method := { name := "fromCode", desc := "(J)Lcom/example/gloom/gloom/io/FilterKind;", sig := { parameters := [.long], returnType := some (.object "com/example/gloom/gloom/io/FilterKind") }, accessFlags := 8, code := some k6c2 }
/-- com/example/gloom/gloom/io/FilterKind -/
def k6 : Class := { plain "com/example/gloom/gloom/io/FilterKind" (some 5) with
  accessFlags := 16433
  interfaces := #[]
  cf := some (fileOf pool6 1 #[] #[{ accessFlags := 9, nameIndex := 58, descriptorIndex := 59, attributes := #[] }, { accessFlags := 1, nameIndex := 74, descriptorIndex := 75, attributes := #[] }, { accessFlags := 8, nameIndex := 79, descriptorIndex := 80, attributes := #[] }] 16433 20 #[] #[{ accessFlags := 16409, nameIndex := 5, descriptorIndex := 6, attributes := #[] }, { accessFlags := 16409, nameIndex := 9, descriptorIndex := 6, attributes := #[] }, { accessFlags := 18, nameIndex := 31, descriptorIndex := 32, attributes := #[] }, { accessFlags := 18, nameIndex := 35, descriptorIndex := 32, attributes := #[] }, { accessFlags := 18, nameIndex := 38, descriptorIndex := 39, attributes := #[] }, { accessFlags := 4122, nameIndex := 12, descriptorIndex := 13, attributes := #[] }])
  fields := #[{ name := "PLAIN", type := (.object "com/example/gloom/gloom/io/FilterKind"), accessFlags := 16409, slot := 0, constantValue := 0 }, { name := "COUNTING", type := (.object "com/example/gloom/gloom/io/FilterKind"), accessFlags := 16409, slot := 1, constantValue := 0 }, { name := "code", type := .int, accessFlags := 18, slot := 3, constantValue := 0 }, { name := "cellBits", type := .int, accessFlags := 18, slot := 4, constantValue := 0 }, { name := "removes", type := .boolean, accessFlags := 18, slot := 5, constantValue := 0 }, { name := "$VALUES", type := (.array (.object "com/example/gloom/gloom/io/FilterKind")), accessFlags := 4122, slot := 2, constantValue := 0 }]
  methods := #[k6m0, k6m1, k6m2]
  instanceTypes := #[(.object "java/lang/String"), .int, .int, .int, .int, .boolean]
  staticTypes := #[(.object "com/example/gloom/gloom/io/FilterKind"), (.object "com/example/gloom/gloom/io/FilterKind"), (.array (.object "com/example/gloom/gloom/io/FilterKind"))]
  resolved := Array.replicate 87 none
  statics := some 0 }

def pool7 : Array CpInfo := pool [(1, .class_ 2), (0, u "java/lang/Cloneable"), (0, .class_ 4), (0, u "java/lang/Object")] 2

/-- java/lang/Cloneable -/
def k7 : Class := { plain "java/lang/Cloneable" (some 0) with
  accessFlags := 1537
  interfaces := #[]
  cf := some (fileOf pool7 1 #[] #[] 1537 3 #[] #[])
  fields := #[]
  methods := #[]
  instanceTypes := #[]
  staticTypes := #[]
  resolved := Array.replicate 7 none
  statics := none }

/-- the primitive byte -/
def k8 : Class := { plain "byte" none with kind := .primitive 'B', accessFlags := 0x411 }
/-- [B -/
def k9 : Class := { plain "[B" (some 0) with kind := .array 8 .byte, interfaces := #[7, 4], accessFlags := 1041 }

/-- the primitive int -/
def k10 : Class := { plain "int" none with kind := .primitive 'I', accessFlags := 0x411 }
/-- [I -/
def k11 : Class := { plain "[I" (some 0) with kind := .array 10 .int, interfaces := #[7, 4], accessFlags := 1041 }

/-- [Lcom/example/gloom/gloom/io/FilterKind; -/
def k12 : Class := { plain "[Lcom/example/gloom/gloom/io/FilterKind;" (some 0) with kind := .array 6 (.object "com/example/gloom/gloom/io/FilterKind"), interfaces := #[7, 4], accessFlags := 1041 }

def heap : Heap := #[{ cls := 6, slots := #[.ref 2, .ref 3, .ref 1], vm := .statics 6 },
  { cls := 12, slots := #[.ref 2, .ref 3], vm := .none },
  { cls := 6, slots := #[.null, .int 0, .int 0, .int 1, .int 0, .int 0], vm := .none },
  { cls := 6, slots := #[.null, .int 1, .int 0, .int 2, .int 0, .int 0], vm := .none }]
def classes : Array Class := #[k0, k1, k2, k3, k4, k5, k6, k7, k8, k9, k10, k11, k12]
def interned : List (Array UInt16 × Addr) := []
def slotsUsed : Nat := 17
def theMethod : MethodId := ⟨1, 2⟩
def args0 : Array Value := #[.long 5, .int 6]
def aboutOver (below : List Frame) : State where
  vm := { classes := classes, interned := interned.toArray }
  heap := heap
  slotsUsed := slotsUsed
  threads := #[{ frames := .invoking theMethod args0 :: below }]
def below0 : List Frame := [.native { method := ⟨0, 0⟩, args := #[] }]
def about1 : State := aboutOver below0
def p0 : Program := .bare "" "" ""
def e0 : Env := launch0.env 0 0 0
theorem w_frames : about1.frames = Frame.invoking theMethod args0 :: below0 := rfl
set_option maxRecDepth 65536 in
theorem w_args : argsFit about1.vm theMethod args0 = true := by decide +kernel
set_option maxRecDepth 65536 in
theorem w_heap : heapFits about1 = true := by decide +kernel
set_option maxRecDepth 65536 in
theorem w_runnable : about1.curStatus? = some .runnable := by decide +kernel
set_option maxRecDepth 65536 in
theorem w_alone : about1.alone = true := by decide +kernel
set_option maxRecDepth 65536 in
theorem w_named : about1.methodNamed? x = some theMethod := by decide +kernel
set_option maxRecDepth 65536 in
theorem w_hears : about1.hears theMethod below0 = true := by decide +kernel
set_option maxRecDepth 65536 in
theorem w_ripe : about1.ripe theMethod args0 below0 = true := by decide +kernel
theorem w_running : about1.status = .running := rfl
set_option maxRecDepth 65536 in
theorem w_room : about1.hasRoom e0.platform room_1 = true :=
  launch0.hasRoom_least _ room_1 (by decide +kernel) (by decide +kernel) (by decide +kernel) (by decide +kernel) (by decide +kernel) (by decide +kernel)
theorem allAtoms_all (ts : List Jvm.Cond) (a : Array Jvm.Value) (st : Jvm.State) : (allAtoms ts).before a st = ts.all (fun c => c.before a st) := by
  induction ts with
  | nil => rfl
  | cons c t ih =>
    show (Jvm.Cond.and c (allAtoms t)).before a st = _
    rw [Jvm.Cond.before_and, ih, List.all_cons]
def words1 : List Jvm.Cond := Jvm.Cond.code x code maxLocals ret :: tables_1
/-- a 'code' word, met by the world's own term for the bytes: nothing is compared byte by byte -/
theorem code_word {y : MethodName} {bytes : ByteArray} {mx : Nat} {rt : Option FieldType} {a : Array Value} {s : State} {m : MethodId} {meth : Method} {c : Code} (h1 : s.methodNamed? y = some m) (h2 : s.vm.method? m = some meth) (h3 : meth.code = some c) (h4 : c.code = bytes)
    (h5 : (c.maxLocals == mx && c.exceptionTable.isEmpty && decide (c.maxStack ≤ mostOperands) && decide (meth.sig.returnType = rt) && !meth.locks && decide (parseMethodDescriptor y.desc = some meth.sig)) = true) : (Jvm.Cond.code y bytes mx rt).before a s = true := by
  simp only [Bool.and_eq_true, beq_iff_eq, Bool.not_eq_true', decide_eq_true_eq] at h5
  obtain ⟨⟨⟨⟨⟨g1, g2⟩, g3⟩, g4⟩, g5⟩, g6⟩ := h5
  simp [Cond.before, Cond.holds, Cond.value, h1, h2, h3, h4, g1, g2, g3, g4, g5, g6]
def isCode : Jvm.Cond → Bool
  | .code _ _ _ _ => true
  | _ => false
theorem all_split {L : List Jvm.Cond} {P : Jvm.Cond → Bool} (h1 : L.all (fun c => isCode c || P c) = true) (h2 : ∀ c ∈ L.filter isCode, P c = true) : L.all P = true := by
  refine List.all_eq_true.mpr fun c hc => ?_
  have h := List.all_eq_true.mp h1 c hc
  rcases Bool.eq_false_or_eq_true (isCode c) with hi | hi
  · exact h2 c (List.mem_filter.mpr ⟨hc, hi⟩)
  · simpa [hi] using h
set_option maxRecDepth 65536 in
theorem w_c0 : (Jvm.Cond.code x code maxLocals ret).before args0 about1 = true := code_word (m := ⟨1, 2⟩) (meth := k1m2) (c := k1c2) (by decide +kernel) rfl rfl rfl (by decide +kernel)
set_option maxRecDepth 65536 in
theorem w_c1 : (Jvm.Cond.code ({ cls := "com/example/gloom/gloom/io/FilterKindFromCodePinLaw", name := "pick", desc := "(JI)J" } : Jvm.MethodName) method_2_code (4 : Nat) (Option.some Jvm.ClassFile.FieldType.long)).before args0 about1 = true := code_word (m := ⟨1, 1⟩) (meth := k1m1) (c := k1c1) (by decide +kernel) rfl rfl rfl (by decide +kernel)
set_option maxRecDepth 65536 in
theorem w_c2 : (Jvm.Cond.code ({ cls := "com/example/gloom/gloom/io/FilterKind", name := "fromCode", desc := "(J)Lcom/example/gloom/gloom/io/FilterKind;" } : Jvm.MethodName) prog_21_method_8_code (6 : Nat) (Option.some (Jvm.ClassFile.FieldType.object "com/example/gloom/gloom/io/FilterKind"))).before args0 about1 = true := code_word (m := ⟨6, 2⟩) (meth := k6m2) (c := k6c2) (by decide +kernel) rfl rfl rfl (by decide +kernel)
set_option maxRecDepth 65536 in
theorem w_c3 : (Jvm.Cond.code ({ cls := "com/example/gloom/gloom/io/FilterKind", name := "values", desc := "()[Lcom/example/gloom/gloom/io/FilterKind;" } : Jvm.MethodName) prog_21_method_1_code (0 : Nat) (Option.some (Jvm.ClassFile.FieldType.array (Jvm.ClassFile.FieldType.object "com/example/gloom/gloom/io/FilterKind")))).before args0 about1 = true := code_word (m := ⟨6, 0⟩) (meth := k6m0) (c := k6c0) (by decide +kernel) rfl rfl rfl (by decide +kernel)
set_option maxRecDepth 65536 in
theorem w_c4 : (Jvm.Cond.code ({ cls := "com/example/gloom/gloom/io/FilterKind", name := "getCode", desc := "()I" } : Jvm.MethodName) prog_21_method_4_code (1 : Nat) (Option.some Jvm.ClassFile.FieldType.int)).before args0 about1 = true := code_word (m := ⟨6, 1⟩) (meth := k6m1) (c := k6c1) (by decide +kernel) rfl rfl rfl (by decide +kernel)
def codes1 : List Jvm.Cond := [Jvm.Cond.code x code maxLocals ret, Jvm.Cond.code ({ cls := "com/example/gloom/gloom/io/FilterKindFromCodePinLaw", name := "pick", desc := "(JI)J" } : Jvm.MethodName) method_2_code (4 : Nat) (Option.some Jvm.ClassFile.FieldType.long), Jvm.Cond.code ({ cls := "com/example/gloom/gloom/io/FilterKind", name := "fromCode", desc := "(J)Lcom/example/gloom/gloom/io/FilterKind;" } : Jvm.MethodName) prog_21_method_8_code (6 : Nat) (Option.some (Jvm.ClassFile.FieldType.object "com/example/gloom/gloom/io/FilterKind")), Jvm.Cond.code ({ cls := "com/example/gloom/gloom/io/FilterKind", name := "values", desc := "()[Lcom/example/gloom/gloom/io/FilterKind;" } : Jvm.MethodName) prog_21_method_1_code (0 : Nat) (Option.some (Jvm.ClassFile.FieldType.array (Jvm.ClassFile.FieldType.object "com/example/gloom/gloom/io/FilterKind"))), Jvm.Cond.code ({ cls := "com/example/gloom/gloom/io/FilterKind", name := "getCode", desc := "()I" } : Jvm.MethodName) prog_21_method_4_code (1 : Nat) (Option.some Jvm.ClassFile.FieldType.int)]
set_option maxRecDepth 65536 in
theorem codes_eq : words1.filter isCode = codes1 := rfl
theorem w_codes : ∀ c ∈ words1.filter isCode, c.before args0 about1 = true := by
  rw [codes_eq]
  intro c hc
  simp only [codes1, List.mem_cons, List.not_mem_nil, or_false] at hc
  rcases hc with rfl | rfl | rfl | rfl | rfl
  · exact w_c0
  · exact w_c1
  · exact w_c2
  · exact w_c3
  · exact w_c4
set_option maxRecDepth 65536 in
theorem w_t1 : (words1.take 24).all (fun c => isCode c || c.before args0 about1) = true := by decide +kernel
set_option maxRecDepth 65536 in
theorem w_t2 : (words1.drop 24).all (fun c => isCode c || c.before args0 about1) = true := by decide +kernel
theorem w_tables : (allAtoms (Jvm.Cond.code x code maxLocals ret :: tables_1)).before args0 about1 = true := by
  rw [allAtoms_all]
  show words1.all (fun c => c.before args0 about1) = true
  refine all_split ?_ w_codes
  rw [← List.take_append_drop 24 words1, List.all_append, w_t1, w_t2]
  rfl
set_option maxRecDepth 65536 in
theorem w_case : (Jvm.Cond.and given_1 narrow_1).before args0 about1 = true := by decide +kernel
theorem w_applies : (headSpec (Jvm.Cond.code x code maxLocals ret :: tables_1) room_1).applies x e0.platform about1 = true :=
  (Spec.applies_iff w_frames).mpr ⟨w_running, w_runnable, w_alone, w_named, w_hears, w_ripe, w_room, w_tables⟩
theorem atStart : AtStart classFile x code maxLocals ret World_1 tables_1 room_1 Calls_1 rest_1 Pre_1 launch0 p0 e0 about1 theMethod args0 below0 :=
  ⟨lists_1, trivial, launch0.admits_env _ _ _, launch0.least_env, fairChoices_fair.cas, fairChoices_fair.clock, w_frames, w_args, w_heap, w_applies, trivial, trivial, w_case⟩
end start1
theorem witness_1 : WitnessClaimed_1 := ⟨start1.p0, start1.e0, start1.about1, start1.theMethod, start1.args0, start1.below0, start1.atStart⟩
end Jvm.Pilot.@@N@@
