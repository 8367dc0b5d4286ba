import JvmDerived
import JvmDerived.Pilot.@@N@@Statement
import JvmDerived.Pilot.@@N@@Code
set_option linter.unusedVariables false
set_option linter.unusedSimpArgs false
namespace Jvm.Pilot.@@N@@
open Jvm Jvm.ClassFile Sem Op Lib Jvm.Free Jvm.Stand Jvm.LawKit Jvm.RoadKit Bundle Jvm.Pilot.@@N@@.Jvm.D

def Go (tb : Tables) (e : Env) (below : List Frame) (a : State) (P : Outcome → State → Prop) : Prop := ∃ s₂ o, Steps tb e below a s₂ ∧ s₂.status = .running ∧ Ended s₂ below o ∧ P o s₂
theorem Go.st {tb : Tables} {e : Env} {below : List Frame} {a b : State} {P : Outcome → State → Prop} (h : ∀ t, Steps tb e below b t → Steps tb e below a t) (k : Go tb e below b P) : Go tb e below a P := by
  obtain ⟨s, o, h1, h2⟩ := k
  exact ⟨s, o, h _ h1, h2⟩
theorem Go.tr {tb : Tables} {e : Env} {below : List Frame} {a b : State} {P : Outcome → State → Prop} (h : Steps tb e below a b) (k : Go tb e below b P) : Go tb e below a P := Go.st (fun _ q => h.trans q) k
theorem Go.fr {tb : Tables} {e : Env} {below : List Frame} {T : State} {g g' : JFrame} {P : Outcome → State → Prop} (q : g = g') (k : Go tb e below (T.setTop g') P) : Go tb e below (T.setTop g) P := q ▸ k
theorem Go.fin {tb : Tables} {e : Env} {below : List Frame} {a s₂ : State} {o : Outcome} {P : Outcome → State → Prop} (hs : Steps tb e below a s₂) (hr : s₂.status = .running) (he : Ended s₂ below o) (hP : P o s₂) : Go tb e below a P := ⟨_, _, hs, hr, he, hP⟩
theorem exa_ns {Z : State} {h : Heap} {a : Addr} {C : String} (F : Exa Z h a C) : ∃ c : Cell, h[a]? = some c ∧ c.vm.isStatics = false := by
  obtain ⟨c, _, h1, -, -, h4, -⟩ := F
  exact ⟨c, h1, h4⟩
theorem fld_ns {Z : State} {h : Heap} {a : Addr} {C n d : String} {v : Value} (F : Fld Z h a C n d v) : ∃ c : Cell, h[a]? = some c ∧ c.vm.isStatics = false := by
  obtain ⟨c, _, _, _, _, h1, -, -, -, h4, -⟩ := F
  exact ⟨c, h1, h4⟩
theorem arv_ns {Z : State} {h : Heap} {a : Addr} {k : ClassId} {ty : FieldType} {n : Int32} {vs : List Value} {d : Value} (F : Arv Z h a k ty n vs d) : ∃ c : Cell, h[a]? = some c ∧ c.vm.isStatics = false := by
  obtain ⟨c, A, -⟩ := F
  exact ⟨c, A.1, A.plain⟩
theorem sta_keep {Z : State} {h h' : Heap} {C n d : String} {v : Value} {ws : List Addr} (F : Sta Z h C n d v) (K : Keep h h' ws) (q : ∀ x ∈ ws, ∃ c : Cell, h[x]? = some c ∧ c.vm.isStatics = false) : Sta Z h' C n d v := by
  obtain ⟨cf, i, k, f, st, cell, h1, h2, h3, h4, h5, h6, h7⟩ := F
  refine ⟨cf, i, k, f, st, cell, h1, h2, h3, h4, K.2.1 st cell h5 fun z => ?_, h6, h7⟩
  obtain ⟨c, q1, q2⟩ := q st z
  cases q1.symm.trans h5
  rw [q2] at h6
  cases h6
theorem own_selp {s : State} {args : Array Value} {y : MethodName} {n : Nat} (wi : (Cond.instantiable y.cls n).before args s = true) (hp : s.PrivateAt y) (hi : (Cond.instanceMethod y).before args s = true) (hy : y.cls ≠ "java/lang/invoke/MethodHandle" ∧ y.cls ≠ "java/lang/invoke/VarHandle") : (Cond.selects y.cls y y).before args s = true := by
  obtain ⟨c, k, h1, h2, -, h4, -⟩ := Cond.instantiable_spec wi
  simp only [Bool.or_eq_false_iff] at h4
  exact selects_self_of_private h1 h2 h4.1 hp hi hy
theorem own_ne32 {x k : Int32} {a : Int} (ha : k.toInt = a) (h : ¬ x = k) : a ≠ x.toInt := fun e => h (Int32.toInt_inj.mp (e.symm.trans ha.symm))
theorem own_nn (x : Int32) : 0 ≤ (x &&& (2147483647 : Int32)).toInt := (c_andS x 2147483647).2.2 (by decide)
theorem own_rem (x : Int32) (k : Int32) (d : Int) (hd : k.toInt = d) (h0 : 0 < d) : 0 ≤ ((x &&& (2147483647 : Int32)) % k).toInt ∧ ((x &&& (2147483647 : Int32)) % k).toInt < d := by
  have h := own_nn x
  rw [Int32.toInt_mod, hd]
  exact ⟨Int.tmod_nonneg _ h, Int.tmod_lt_of_pos _ h0⟩
theorem own_remb (x : Int32) (k : Int32) (d : Int) (hd : k.toInt = d) (h0 : 0 < d) : ¬ ((x &&& (2147483647 : Int32)) % k) < 0 ∧ ((x &&& (2147483647 : Int32)) % k) < k := by
  obtain ⟨h1, h2⟩ := own_rem x k d hd h0
  rw [Int32.lt_iff_toInt_lt, Int32.lt_iff_toInt_lt, hd]
  exact ⟨Int.not_lt.mpr h1, h2⟩
def own_at (xs : List Int32) (j : Int32) : Int32 := xs.getD j.toNatClampNeg 0
theorem own_atv (xs : List Int32) (j : Int32) : (xs.map Value.int).getD j.toNatClampNeg (.int 0) = .int (own_at xs j) := by
  unfold own_at
  generalize j.toNatClampNeg = n
  induction xs generalizing n with
  | nil => rfl
  | cons a r ih => cases n with
    | zero => rfl
    | succ n => simpa using ih n
theorem own_setl {l : List Value} {k n : Nat} {v : Value} (h : l.length = n) : (l.set k v).length = n := by rw [List.length_set]; exact h
theorem own_setg {l : List Value} {k : Nat} {v d : Value} (h : k < l.length) : (l.set k v).getD k d = v := by simp [List.getD, List.getElem?_set, h]
theorem own_setn {l : List Value} {k i : Nat} {v d : Value} (h : i ≠ k) : (l.set k v).getD i d = l.getD i d := by simp [List.getD, List.getElem?_set, Ne.symm h]
theorem own_lt_of {l : List Value} {n : Nat} {j z : Int32} (h : l.length = n) (q : ¬ j < 0 ∧ j < z) (hz : z.toNatClampNeg = n := by decide) : j.toNatClampNeg < l.length := by
  rw [h, ← hz]
  obtain ⟨q1, q2⟩ := q
  rw [Int32.lt_iff_toInt_lt] at q1 q2
  have : (0 : Int32).toInt = 0 := rfl
  simp only [Int32.toNatClampNeg]
  omega
theorem own_eqi {args : Array Value} {s : State} {t : Term} {k : Int32} (h : (Jvm.Cond.eq t (.int k)).value args s none s [] = some true) : t.eval args s none [] s = some (.int k) := by
  simp only [Cond.value, Term.eval] at h
  cases ht : t.eval args s none [] s with
  | none => simp [ht] at h
  | some x => cases x <;> simp_all
theorem d2_0 : decode prog_17_method_1_code 0 = .ok (.getstatic 10, 3) := by decide +kernel
theorem wd11 {Z : State} {a0 : Array Value} (hw : ∀ d ∈ tables_1, d.before a0 Z = true) : (Jvm.Cond.fieldLink "com/example/gloom/gloom/hashing/Layout" (10 : Nat) "com/example/gloom/gloom/hashing/Layout" "$VALUES" "[Lcom/example/gloom/gloom/hashing/Layout;").before a0 Z = true := hw _ (List.mem_of_getElem? (i := 11) rfl)
theorem d2_3 : decode prog_17_method_1_code 3 = .ok (.invokevirtual 14, 3) := by decide +kernel
theorem wd13 {Z : State} {a0 : Array Value} (hw : ∀ d ∈ tables_1, d.before a0 Z = true) : (Jvm.Cond.methodLink "com/example/gloom/gloom/hashing/Layout" (14 : Nat) ({ cls := "[Lcom/example/gloom/gloom/hashing/Layout;", name := "clone", desc := "()Ljava/lang/Object;" } : Jvm.MethodName)).before a0 Z = true := hw _ (List.mem_of_getElem? (i := 13) rfl)
theorem wd14 {Z : State} {a0 : Array Value} (hw : ∀ d ∈ tables_1, d.before a0 Z = true) : (Jvm.Cond.sameMethod "[Lcom/example/gloom/gloom/hashing/Layout;" "java/lang/Object" "clone" "()Ljava/lang/Object;").before a0 Z = true := hw _ (List.mem_of_getElem? (i := 14) rfl)
theorem wd18 {Z : State} {a0 : Array Value} (hw : ∀ d ∈ tables_1, d.before a0 Z = true) : (Jvm.Cond.native ({ cls := "java/lang/Object", name := "clone", desc := "()Ljava/lang/Object;" } : Jvm.MethodName)).before a0 Z = true := hw _ (List.mem_of_getElem? (i := 18) rfl)
theorem wd16 {Z : State} {a0 : Array Value} (hw : ∀ d ∈ tables_1, d.before a0 Z = true) : (Jvm.Cond.instanceMethod ({ cls := "java/lang/Object", name := "clone", desc := "()Ljava/lang/Object;" } : Jvm.MethodName)).before a0 Z = true := hw _ (List.mem_of_getElem? (i := 16) rfl)
theorem wd17 {Z : State} {a0 : Array Value} (hw : ∀ d ∈ tables_1, d.before a0 Z = true) : (Jvm.Cond.selects "[Lcom/example/gloom/gloom/hashing/Layout;" ({ cls := "[Lcom/example/gloom/gloom/hashing/Layout;", name := "clone", desc := "()Ljava/lang/Object;" } : Jvm.MethodName) ({ cls := "java/lang/Object", name := "clone", desc := "()Ljava/lang/Object;" } : Jvm.MethodName)).before a0 Z = true := hw _ (List.mem_of_getElem? (i := 17) rfl)
theorem wd19 {Z : State} {a0 : Array Value} (hw : ∀ d ∈ tables_1, d.before a0 Z = true) : (Jvm.Cond.castable "[Lcom/example/gloom/gloom/hashing/Layout;" "java/lang/Cloneable").before a0 Z = true := hw _ (List.mem_of_getElem? (i := 19) rfl)
theorem d2_6 : decode prog_17_method_1_code 6 = .ok (.checkcast 15, 3) := by decide +kernel
theorem wd22 {Z : State} {a0 : Array Value} (hw : ∀ d ∈ tables_1, d.before a0 Z = true) : (Jvm.Cond.classLink "com/example/gloom/gloom/hashing/Layout" (15 : Nat) "[Lcom/example/gloom/gloom/hashing/Layout;").before a0 Z = true := hw _ (List.mem_of_getElem? (i := 22) rfl)
theorem d2_9 : decode prog_17_method_1_code 9 = .ok (.areturn, 1) := by decide +kernel
theorem pn0 : plainName "com/example/gloom/gloom/hashing/Layout" = true := by first | (simp [plainName, overriddenIn]; done) | decide +kernel
def Q2 (Z : State) (w__VALUES : Addr) (k_v : ClassId) (y0 : Addr) (y1 : Addr) (h0 : Heap) (n0 : Nat) (v : Option Value) (h : Heap) (L : List Loc) : Prop := ∃ x2_0 : Addr, v = some (.ref x2_0) ∧ Fr n0 L ∧ Keep h0 h [] ∧ n0 ≤ x2_0 ∧ h0.size ≤ x2_0 ∧ Arv Z h x2_0 k_v (.object "com/example/gloom/gloom/hashing/Layout") (2 : Int32) [(.ref y0), (.ref y1)] .null ∧ Exa Z h x2_0 "[Lcom/example/gloom/gloom/hashing/Layout;"
theorem ef2 (m : MethodId)  : entryFrame m #[] 0 = mkF m 0 #[] [] := by first | (simp [entryFrame, mkF, argsToLocals, Value.category]; done) | rfl
set_option maxRecDepth 65536 in
set_option maxHeartbeats 16000000 in
theorem rm2 (l : Launch) (Z : State) (a0 : Array Value) (hw : ∀ d ∈ tables_1, d.before a0 Z = true) (ws : List Jvm.Cond) (w__VALUES : Addr) (k_v : ClassId) (y0 : Addr) (y1 : Addr) (h0 : Heap) (n0 : Nat) (Z0 : n0 ≤ h0.size) (S__VALUES : Sta Z h0 "com/example/gloom/gloom/hashing/Layout" "$VALUES" "[Lcom/example/gloom/gloom/hashing/Layout;" (.ref w__VALUES)) (E_VALS : Exa Z h0 w__VALUES "[Lcom/example/gloom/gloom/hashing/Layout;") (V_VALS : Arv Z h0 w__VALUES k_v (.object "com/example/gloom/gloom/hashing/Layout") (2 : Int32) [(.ref y0), (.ref y1)] .null) :
    MetFree l (⟨"com/example/gloom/gloom/hashing/Layout", "values", "()[Lcom/example/gloom/gloom/hashing/Layout;"⟩ : MethodName) (head1 (Jvm.Cond.code (⟨"com/example/gloom/gloom/hashing/Layout", "values", "()[Lcom/example/gloom/gloom/hashing/Layout;"⟩ : MethodName) prog_17_method_1_code 0 (some (.array (.object "com/example/gloom/gloom/hashing/Layout"))) :: ws) ({ frames := 1, cells := 1, slots := 2, locals := 14 } : Room)) (fun a U => a = #[] ∧ Z.Warmed39 U.vm ∧ U.heap = h0) (fun _ _ _ _ _ => True) (fun _ U o U' => ∃ v L, o = .returned v ∧ Q2 Z w__VALUES k_v y0 y1 h0 n0 v U'.heap L ∧ FrameEnd U o U' L ({ frames := 1, cells := 1, slots := 2, locals := 14 } : Room).cells ({ frames := 1, cells := 1, slots := 2, locals := 14 } : Room).slots) := by
  refine MetFree.of_bodySF (plainFor_of_name pn0) hisR ?_
  intro p e s m args below meth c s₁ Bd hml0 hP hK
  obtain ⟨rfl, hZ, hh⟩ := hP
  have hx := Bd.exec
  have hby := Bd.bytes
  have hml : c.maxLocals = 0 := hml0
  have hown : s.vm.findClass "com/example/gloom/gloom/hashing/Layout" = some m.cls := findClass_of_methodNamed Bd.named
  have hnm := (name_of_methodNamed Bd.named Bd.method).1
  have X0 : Stand p l e ({ frames := 1, cells := 1, slots := 2, locals := 14 } : Room) s m #[] below meth c s₁ [] 0 0 := Stand.of_body Bd
  have e0 : s₁.heap = h0 := by rw [← hh, Bd.state]; rfl
  have N0 := Fr.nil n0
  have K0 : Keep h0 h0 [] := Keep.refl h0 _
  refine Go.st (P := fun o U' => ∃ v L, o = .returned v ∧ Q2 Z w__VALUES k_v y0 y1 h0 n0 v U'.heap L ∧ FrameEnd s o U' L ({ frames := 1, cells := 1, slots := 2, locals := 14 } : Room).cells ({ frames := 1, cells := 1, slots := 2, locals := 14 } : Room).slots) (fun t k => castTop (ef2 m ) k) ?_
  show Go _ _ _ (s₁.setTop (mkF m 0 #[] [])) _
  obtain ⟨T1, X1, e1, st1⟩ := getS2 X0 hx hZ hown (host := "") (Or.inl (wd11 hw)) Via.refl e0 S__VALUES (g := (mkF m 0 #[] [])) rfl (hb hby d2_0)
  refine Go.st st1 ?_
  show Go _ _ _ (T1.setTop (mkF m 3 #[] [(.ref w__VALUES)])) _
  obtain ⟨T2, h2, X2, e2, E2, A2, EA2, st2⟩ := cloneH X1 hx hZ hown (wd13 hw) (wd14 hw) (wd18 hw) (wd16 hw) (wd17 hw) (wd19 hw) e1 (Arv.arh V_VALS) E_VALS (g := (mkF m 3 #[] [(.ref w__VALUES)])) rfl (by rw [hml]; rfl) rfl (hb hby d2_3) (by decide) (W := 0) (cap := 2) (by show 2 * 0 + _ ≤ _; exact Nat.le_of_eq rfl) (by decide) (by decide) (by decide) (by decide)
  obtain ⟨b2, g2⟩ : ∃ z, z = h0.size := ⟨_, rfl⟩
  rw [← g2] at A2 EA2 st2
  refine Go.st st2 ?_
  have ne_w__VALUES_b2 : w__VALUES ≠ b2 := Nat.ne_of_lt (Nat.lt_of_lt_of_le E_VALS.lt (Nat.le_of_eq g2.symm))
  have g_b2 : n0 ≤ b2 := Nat.le_trans Z0 (Nat.le_of_eq g2.symm)
  have sz_b2 : h0.size ≤ b2 := Nat.le_trans K0.1 (Nat.le_of_eq g2.symm)
  replace S__VALUES := S__VALUES.ext E2
  replace E_VALS := E_VALS.ext E2
  replace V_VALS := V_VALS.ext E2
  replace K0 := K0.ext E2
  replace Z0 := Nat.le_trans Z0 E2.1
  have V_b2 : Arv Z h2 b2 k_v (.object "com/example/gloom/gloom/hashing/Layout") (2 : Int32) [(.ref y0), (.ref y1)] .null := A2
  have E_b2 := EA2
  show Go _ _ _ (T2.setTop (mkF m 6 #[] [(.ref b2)])) _
  obtain ⟨T3, X3, e3, st3⟩ := castY X2 hx hZ hown (wd22 hw) e2 (Ins.self E_b2) (g := (mkF m 6 #[] [(.ref b2)])) rfl rfl (hb hby d2_6)
  refine Go.st st3 ?_
  show Go _ _ _ (T3.setTop (mkF m 9 #[] [(.ref b2)])) _
  obtain ⟨fs, hr, hrun, hended, hW, hsame⟩ := X3.leave (v := some (.ref b2)) (fun h => by rw [Bd.returns] at h; cases h)
  refine Go.fin (retOut X3 hx Bd.returns rfl (Or.inr (Or.inr (Or.inr (Or.inr ⟨rfl, rfl, rfl⟩)))) (hb hby d2_9) hr) hrun hended ⟨_, _, rfl, ?_, ⟨_, rfl⟩, hW, hsame.mono (by decide) (by decide)⟩
  show Q2 Z w__VALUES k_v y0 y1 h0 n0 _ T3.heap _
  rw [e3]
  exact ⟨b2, rfl, N0, K0, g_b2, sz_b2, V_b2, E_b2⟩
theorem d1_0 : decode prog_17_method_4_code 0 = .ok (.invokestatic 37, 3) := by decide +kernel
theorem wd8 {Z : State} {a0 : Array Value} (hw : ∀ d ∈ tables_1, d.before a0 Z = true) : (Jvm.Cond.methodLink "com/example/gloom/gloom/hashing/Layout" (37 : Nat) ({ cls := "com/example/gloom/gloom/hashing/Layout", name := "values", desc := "()[Lcom/example/gloom/gloom/hashing/Layout;" } : Jvm.MethodName)).before a0 Z = true := hw _ (List.mem_of_getElem? (i := 8) rfl)
theorem wd10 {Z : State} {a0 : Array Value} (hw : ∀ d ∈ tables_1, d.before a0 Z = true) : (Jvm.Cond.code ({ cls := "com/example/gloom/gloom/hashing/Layout", name := "values", desc := "()[Lcom/example/gloom/gloom/hashing/Layout;" } : Jvm.MethodName) prog_17_method_1_code (0 : Nat) (Option.some (Jvm.ClassFile.FieldType.array (Jvm.ClassFile.FieldType.object "com/example/gloom/gloom/hashing/Layout")))).before a0 Z = true := hw _ (List.mem_of_getElem? (i := 10) rfl)
theorem wd3 {Z : State} {a0 : Array Value} (hw : ∀ d ∈ tables_1, d.before a0 Z = true) : (Jvm.Cond.initialized "com/example/gloom/gloom/hashing/Layout").before a0 Z = true := hw _ (List.mem_of_getElem? (i := 3) rfl)
theorem pd0 : parseMethodDescriptor "()[Lcom/example/gloom/gloom/hashing/Layout;" = some ⟨[], some (.array (.object "com/example/gloom/gloom/hashing/Layout"))⟩ := by decide +kernel
theorem wd9 {Z : State} {a0 : Array Value} (hw : ∀ d ∈ tables_1, d.before a0 Z = true) : (Jvm.Cond.static ({ cls := "com/example/gloom/gloom/hashing/Layout", name := "values", desc := "()[Lcom/example/gloom/gloom/hashing/Layout;" } : Jvm.MethodName)).before a0 Z = true := hw _ (List.mem_of_getElem? (i := 9) rfl)
theorem d1_3 : decode prog_17_method_4_code 3 = .ok (.astore_n 2, 1) := by decide +kernel
theorem d1_4 : decode prog_17_method_4_code 4 = .ok (.aload_n 2, 1) := by decide +kernel
theorem d1_5 : decode prog_17_method_4_code 5 = .ok (.arraylength, 1) := by decide +kernel
theorem d1_6 : decode prog_17_method_4_code 6 = .ok (.istore_n 3, 1) := by decide +kernel
theorem d1_7 : decode prog_17_method_4_code 7 = .ok (.iconst 0, 1) := by decide +kernel
theorem d1_8 : decode prog_17_method_4_code 8 = .ok (.istore 4, 2) := by decide +kernel
theorem d1_10 : decode prog_17_method_4_code 10 = .ok (.iload 4, 2) := by decide +kernel
theorem d1_12 : decode prog_17_method_4_code 12 = .ok (.iload_n 3, 1) := by decide +kernel
theorem d1_13 : decode prog_17_method_4_code 13 = .ok (.if_icmp .ge 29, 3) := by decide +kernel
theorem d1_16 : decode prog_17_method_4_code 16 = .ok (.aload_n 2, 1) := by decide +kernel
theorem d1_17 : decode prog_17_method_4_code 17 = .ok (.iload 4, 2) := by decide +kernel
theorem d1_19 : decode prog_17_method_4_code 19 = .ok (.aaload, 1) := by decide +kernel
theorem d1_20 : decode prog_17_method_4_code 20 = .ok (.astore 5, 2) := by decide +kernel
theorem d1_22 : decode prog_17_method_4_code 22 = .ok (.aload 5, 2) := by decide +kernel
theorem d1_24 : decode prog_17_method_4_code 24 = .ok (.getfield 29, 3) := by decide +kernel
theorem wd24 {Z : State} {a0 : Array Value} (hw : ∀ d ∈ tables_1, d.before a0 Z = true) : (Jvm.Cond.fieldLink "com/example/gloom/gloom/hashing/Layout" (29 : Nat) "com/example/gloom/gloom/hashing/Layout" "code" "I").before a0 Z = true := hw _ (List.mem_of_getElem? (i := 24) rfl)
theorem d1_27 : decode prog_17_method_4_code 27 = .ok (.i2l, 1) := by decide +kernel
theorem d1_28 : decode prog_17_method_4_code 28 = .ok (.lload_n 0, 1) := by decide +kernel
theorem d1_29 : decode prog_17_method_4_code 29 = .ok (.lcmp, 1) := by decide +kernel
theorem d1_30 : decode prog_17_method_4_code 30 = .ok (.ifCond .ne 6, 3) := by decide +kernel
theorem d1_33 : decode prog_17_method_4_code 33 = .ok (.aload 5, 2) := by decide +kernel
theorem d1_35 : decode prog_17_method_4_code 35 = .ok (.areturn, 1) := by decide +kernel
theorem d1_36 : decode prog_17_method_4_code 36 = .ok (.iinc 4 1, 3) := by decide +kernel
theorem d1_39 : decode prog_17_method_4_code 39 = .ok (.goto (-29), 3) := by decide +kernel
theorem d1_42 : decode prog_17_method_4_code 42 = .ok (.aconst_null, 1) := by decide +kernel
theorem d1_43 : decode prog_17_method_4_code 43 = .ok (.areturn, 1) := by decide +kernel
def f1 (q1 : Int64) (y0 : Addr) (y1 : Addr) : Value := (if (1 : Int64) = q1 then (.ref y0) else (if (3 : Int64) = q1 then (.ref y1) else .null))
theorem f1_ref (q1 : Int64) (y0 : Addr) (y1 : Addr) : (f1 q1 y0 y1).isRef = true := by
  unfold f1
  repeat' split
  all_goals first | rfl | assumption
def Q1 (Z : State) (q1 : Int64) (w__VALUES : Addr) (k_v : ClassId) (y0 : Addr) (y1 : Addr) (h0 : Heap) (n0 : Nat) (v : Option Value) (h : Heap) (L : List Loc) : Prop := v = some (f1 q1 y0 y1) ∧ Fr n0 L ∧ Keep h0 h []
theorem ef1 (m : MethodId) (x0 : Int64) : entryFrame m #[(.long x0)] 6 = mkF m 0 #[.val (.long x0), .second, .unset, .unset, .unset, .unset] [] := by first | (simp [entryFrame, mkF, argsToLocals, Value.category]; done) | rfl
set_option maxRecDepth 65536 in
set_option maxHeartbeats 16000000 in
theorem rm1 (l : Launch) (Z : State) (a0 : Array Value) (hw : ∀ d ∈ tables_1, d.before a0 Z = true) (ws : List Jvm.Cond) (q1 : Int64) (w__VALUES : Addr) (k_v : ClassId) (y0 : Addr) (y1 : Addr) (h0 : Heap) (n0 : Nat) (Z0 : n0 ≤ h0.size) (S__VALUES : Sta Z h0 "com/example/gloom/gloom/hashing/Layout" "$VALUES" "[Lcom/example/gloom/gloom/hashing/Layout;" (.ref w__VALUES)) (E_VALS : Exa Z h0 w__VALUES "[Lcom/example/gloom/gloom/hashing/Layout;") (V_VALS : Arv Z h0 w__VALUES k_v (.object "com/example/gloom/gloom/hashing/Layout") (2 : Int32) [(.ref y0), (.ref y1)] .null) (E_y0 : Exa Z h0 y0 "com/example/gloom/gloom/hashing/Layout") (F_y0_code : Fld Z h0 y0 "com/example/gloom/gloom/hashing/Layout" "code" "I" (.int (1 : Int32))) (E_y1 : Exa Z h0 y1 "com/example/gloom/gloom/hashing/Layout") (F_y1_code : Fld Z h0 y1 "com/example/gloom/gloom/hashing/Layout" "code" "I" (.int (3 : Int32))) :
    MetFree l (⟨"com/example/gloom/gloom/hashing/Layout", "fromCode", "(J)Lcom/example/gloom/gloom/hashing/Layout;"⟩ : MethodName) (head1 (Jvm.Cond.code (⟨"com/example/gloom/gloom/hashing/Layout", "fromCode", "(J)Lcom/example/gloom/gloom/hashing/Layout;"⟩ : MethodName) prog_17_method_4_code 6 (some (.object "com/example/gloom/gloom/hashing/Layout")) :: ws) ({ frames := 2, cells := 1, slots := 2, locals := 25 } : Room)) (fun a U => a = #[(.long q1)] ∧ Z.Warmed39 U.vm ∧ U.heap = h0) (fun _ _ _ _ _ => True) (fun _ U o U' => ∃ v L, o = .returned v ∧ Q1 Z q1 w__VALUES k_v y0 y1 h0 n0 v U'.heap L ∧ FrameEnd U o U' L ({ frames := 2, cells := 1, slots := 2, locals := 25 } : Room).cells ({ frames := 2, cells := 1, slots := 2, locals := 25 } : Room).slots) := by
  refine MetFree.of_bodySF (plainFor_of_name pn0) hisR ?_
  intro p e s m args below meth c s₁ Bd hml0 hP hK
  obtain ⟨rfl, hZ, hh⟩ := hP
  have hx := Bd.exec
  have hby := Bd.bytes
  have hml : c.maxLocals = 6 := hml0
  have hown : s.vm.findClass "com/example/gloom/gloom/hashing/Layout" = some m.cls := findClass_of_methodNamed Bd.named
  have hnm := (name_of_methodNamed Bd.named Bd.method).1
  have X0 : Stand p l e ({ frames := 2, cells := 1, slots := 2, locals := 25 } : Room) s m #[(.long q1)] below meth c s₁ [] 0 0 := Stand.of_body Bd
  have e0 : s₁.heap = h0 := by rw [← hh, Bd.state]; rfl
  have N0 := Fr.nil n0
  have K0 : Keep h0 h0 [] := Keep.refl h0 _
  refine Go.st (P := fun o U' => ∃ v L, o = .returned v ∧ Q1 Z q1 w__VALUES k_v y0 y1 h0 n0 v U'.heap L ∧ FrameEnd s o U' L ({ frames := 2, cells := 1, slots := 2, locals := 25 } : Room).cells ({ frames := 2, cells := 1, slots := 2, locals := 25 } : Room).slots) (fun t k => castTop (ef1 m q1) k) ?_
  show Go _ _ _ (s₁.setTop (mkF m 0 #[.val (.long q1), .second, .unset, .unset, .unset, .unset] [])) _
  obtain ⟨_, _, ⟨T1, L1, k1, n1⟩, -, X1, ⟨Lc1, hQ1, l1, y1, z1⟩, st1⟩ := Jvm.LawKit.callS X0 hx (y := (⟨"com/example/gloom/gloom/hashing/Layout", "values", "()[Lcom/example/gloom/gloom/hashing/Layout;"⟩ : MethodName)) hown (mvT hZ (wd8 hw)) (mvT hZ (wd9 hw)) (mvT hZ (wd3 hw)) (mvT hZ (wd10 hw)) (by decide) (backOf (W := 0) (rm2 l Z a0 hw [] w__VALUES k_v y0 y1 h0 n0 Z0 S__VALUES E_VALS V_VALS) hZ (wd10 hw) (wd3 hw) (by decide) (by decide)) (g := (mkF m 0 #[.val (.long q1), .second, .unset, .unset, .unset, .unset] [])) rfl (by rw [hml]; rfl) (argsL := []) (rest := []) (lenOf pd0 rfl) rfl (by show 2 * 0 + _ ≤ _; exact Nat.le_of_eq rfl) (hb hby d1_0) (fun _ _ => ⟨rfl, e0, (by decide : 0 + 1 ≤ _), (by decide : 0 + 2 ≤ _)⟩)
  dsimp only [Pt.U, Pt.locs, Pt.cells, Pt.slots] at X1 l1 y1 z1 st1 hQ1
  subst l1 y1 z1
  obtain ⟨h1, e1⟩ : ∃ z, T1.heap = z := ⟨_, rfl⟩
  rw [e1] at hQ1
  obtain ⟨x2_0_1, rfl, N1q, K1, ng_x2_0_1, sz0_x2_0_1, Q1_0, Q1_1⟩ := hQ1
  refine Go.st st1 ?_
  have ne_w__VALUES_x2_0_1 : w__VALUES ≠ x2_0_1 := Nat.ne_of_lt (Nat.lt_of_lt_of_le E_VALS.lt sz0_x2_0_1)
  have ne_y0_x2_0_1 : y0 ≠ x2_0_1 := Nat.ne_of_lt (Nat.lt_of_lt_of_le E_y0.lt sz0_x2_0_1)
  have ne_y1_x2_0_1 : y1 ≠ x2_0_1 := Nat.ne_of_lt (Nat.lt_of_lt_of_le E_y1.lt sz0_x2_0_1)
  have g_x2_0_1 : n0 ≤ x2_0_1 := ng_x2_0_1
  have sz_x2_0_1 : h0.size ≤ x2_0_1 := Nat.le_trans K0.1 sz0_x2_0_1
  replace S__VALUES := sta_keep S__VALUES K1 all0
  replace E_VALS := E_VALS.keep K1
  replace V_VALS := V_VALS.keep K1 nin0
  replace E_y0 := E_y0.keep K1
  replace F_y0_code := F_y0_code.keep K1 nin0
  replace E_y1 := E_y1.keep K1
  replace F_y1_code := F_y1_code.keep K1 nin0
  replace Z0 := Nat.le_trans Z0 K1.1
  replace K0 := K0.trans K1 all0
  have V_x2_0_1 := Q1_0
  have E_x2_0_1 := Q1_1
  have N1 := Fr.app N0 N1q
  show Go _ _ _ (T1.setTop (mkF m 3 #[.val (.long q1), .second, .unset, .unset, .unset, .unset] [(.ref x2_0_1)])) _
  refine Go.st (fun t k => XS.astoreN X1.here hx rfl (hb hby d1_3) rfl rfl (l' := #[.val (.long q1), .second, .val (.ref x2_0_1), .unset, .unset, .unset]) rfl k) ?_
  refine Go.st (fun t k => XS.aloadN X1.here hx rfl (hb hby d1_4) rfl rfl k) ?_
  obtain ⟨cl2, Ar2, -, Sz2, Ng2, -, -⟩ := id V_x2_0_1
  refine Go.st (fun t k => X1.arraylength hx (by rw [e1]; exact Ar2.1) (State.isArrayOf_alike hZ.alike Ar2.2.1) (g := (mkF m 5 #[.val (.long q1), .second, .val (.ref x2_0_1), .unset, .unset, .unset] [(.ref x2_0_1)])) rfl rfl (hb hby d1_5) _ k) ?_
  rw [len_of Sz2 Ng2]
  show Go _ _ _ (T1.setTop (mkF m 6 #[.val (.long q1), .second, .val (.ref x2_0_1), .unset, .unset, .unset] [(.int 2)])) _
  refine Go.st (fun t k => XS.istoreN X1.here hx rfl (hb hby d1_6) rfl (l' := #[.val (.long q1), .second, .val (.ref x2_0_1), .val (.int 2), .unset, .unset]) rfl k) ?_
  refine Go.st (fun t k => XS.iconst X1.here hx rfl (hb hby d1_7) k) ?_
  refine Go.st (fun t k => XS.istore X1.here hx rfl (hb hby d1_8) rfl (l' := #[.val (.long q1), .second, .val (.ref x2_0_1), .val (.int 2), .val (.int 0), .unset]) rfl k) ?_
  refine Go.st (fun t k => XS.iload X1.here hx rfl (hb hby d1_10) rfl k) ?_
  refine Go.st (fun t k => XS.iloadN X1.here hx rfl (hb hby d1_12) rfl k) ?_
  refine Go.st (fun t k => XS.icmpNo X1.here hx rfl (hb hby d1_13) rfl (tlt (by decide : (0 : Int32) < (2 : Int32))).2.1 k) ?_
  show Go _ _ _ (T1.setTop (mkF m 16 #[.val (.long q1), .second, .val (.ref x2_0_1), .val (.int 2), .val (.int 0), .unset] [])) _
  refine Go.st (fun t k => XS.aloadN X1.here hx rfl (hb hby d1_16) rfl rfl k) ?_
  refine Go.st (fun t k => XS.iload X1.here hx rfl (hb hby d1_17) rfl k) ?_
  obtain ⟨cl3, Ar3, -, Sz3, Ng3, Hs3, -⟩ := id V_x2_0_1
  have hin3 : ¬ ((0 : Int32) < 0 ∨ cl3.slots.size ≤ ((0 : Int32)).toNatClampNeg) := inb_of Sz3 ⟨by decide, by decide⟩
  refine Go.st (fun t k => X1.aaload hx (j := (0 : Int32)) (v := (.ref y0)) (by rw [e1]; exact Ar3.1) (State.isArrayOf_alike hZ.alike Ar3.2.1) rfl Ar3.2.2 hin3 (Has.at Hs3 hin3 rfl) (g := (mkF m 19 #[.val (.long q1), .second, .val (.ref x2_0_1), .val (.int 2), .val (.int 0), .unset] [(.int 0), (.ref x2_0_1)])) rfl rfl (hb hby d1_19) _ k) ?_
  show Go _ _ _ (T1.setTop (mkF m 20 #[.val (.long q1), .second, .val (.ref x2_0_1), .val (.int 2), .val (.int 0), .unset] [(.ref y0)])) _
  refine Go.st (fun t k => XS.astore X1.here hx rfl (hb hby d1_20) rfl rfl (l' := #[.val (.long q1), .second, .val (.ref x2_0_1), .val (.int 2), .val (.int 0), .val (.ref y0)]) rfl k) ?_
  refine Go.st (fun t k => XS.aload X1.here hx rfl (hb hby d1_22) rfl rfl k) ?_
  obtain ⟨T4, X4, e4, st4⟩ := getF X1 hx hZ hown (host := "") (Or.inl (wd24 hw)) Via.refl e1 F_y0_code (g := (mkF m 24 #[.val (.long q1), .second, .val (.ref x2_0_1), .val (.int 2), .val (.int 0), .val (.ref y0)] [(.ref y0)])) rfl rfl (hb hby d1_24)
  refine Go.st st4 ?_
  show Go _ _ _ (T4.setTop (mkF m 27 #[.val (.long q1), .second, .val (.ref x2_0_1), .val (.int 2), .val (.int 0), .val (.ref y0)] [(.int 1)])) _
  refine Go.st (fun t k => XS.i2l X4.here hx rfl (hb hby d1_27) rfl k) ?_
  rw [show ((1 : Int32).toInt64) = (1 : Int64) from by decide]
  show Go _ _ _ (T4.setTop (mkF m 28 #[.val (.long q1), .second, .val (.ref x2_0_1), .val (.int 2), .val (.int 0), .val (.ref y0)] [(.long 1)])) _
  refine Go.st (fun t k => XS.lloadN X4.here hx rfl (hb hby d1_28) rfl k) ?_
  refine Go.st (fun t k => XS.lcmp X4.here hx rfl (hb hby d1_29) rfl k) ?_
  show Go _ _ _ (T4.setTop (mkF m 30 #[.val (.long q1), .second, .val (.ref x2_0_1), .val (.int 2), .val (.int 0), .val (.ref y0)] [(.int (lcmpW (1 : Int64) q1))])) _
  by_cases hc5 : (1 : Int64) = q1
  · refine Go.st (fun t k => XS.ifNo X4.here hx rfl (hb hby d1_30) rfl ((if0 _ _).trans (teq ((lw_eq (1 : Int64) q1).mpr hc5)).2) k) ?_
    show Go _ _ _ (T4.setTop (mkF m 33 #[.val (.long q1), .second, .val (.ref x2_0_1), .val (.int 2), .val (.int 0), .val (.ref y0)] [])) _
    refine Go.st (fun t k => XS.aload X4.here hx rfl (hb hby d1_33) rfl rfl k) ?_
    obtain ⟨fs, hr, hrun, hended, hW, hsame⟩ := X4.leave (v := some (.ref y0)) (fun h => by rw [Bd.returns] at h; cases h)
    refine Go.fin (retOut X4 hx Bd.returns rfl (Or.inr (Or.inr (Or.inr (Or.inr ⟨rfl, rfl, rfl⟩)))) (hb hby d1_35) hr) hrun hended ⟨_, _, rfl, ?_, ⟨_, rfl⟩, hW, hsame.mono (by decide) (by decide)⟩
    show Q1 Z q1 w__VALUES k_v y0 y1 h0 n0 _ T4.heap _
    rw [e4]
    exact ⟨(by unfold f1; simp only [if_pos hc5]), N1, K0⟩
  · refine Go.st (fun t k => XS.ifYes X4.here hx rfl (pc0 := 30) (pc' := 36) rfl (hb hby d1_30) rfl ((if0 _ _).trans (feq (fun z => hc5 ((lw_eq (1 : Int64) q1).mp z))).2) (by decide) (by decide) k) ?_
    show Go _ _ _ (T4.setTop (mkF m 36 #[.val (.long q1), .second, .val (.ref x2_0_1), .val (.int 2), .val (.int 0), .val (.ref y0)] [])) _
    refine Go.st (fun t k => XS.iinc X4.here hx rfl (hb hby d1_36) rfl (l' := #[.val (.long q1), .second, .val (.ref x2_0_1), .val (.int (2 : Int32)), .val (.int ((0 : Int32) + (1 : Int32))), .val (.ref y0)]) rfl k) ?_
    rw [show ((0 : Int32) + (1 : Int32)) = (1 : Int32) from by decide]
    show Go _ _ _ (T4.setTop (mkF m 39 #[.val (.long q1), .second, .val (.ref x2_0_1), .val (.int 2), .val (.int 1), .val (.ref y0)] [])) _
    refine Go.st (fun t k => XS.goto X4.here hx rfl (pc0 := 39) (pc' := 10) rfl (hb hby d1_39) (by decide) (by decide) k) ?_
    refine Go.st (fun t k => XS.iload X4.here hx rfl (hb hby d1_10) rfl k) ?_
    refine Go.st (fun t k => XS.iloadN X4.here hx rfl (hb hby d1_12) rfl k) ?_
    refine Go.st (fun t k => XS.icmpNo X4.here hx rfl (hb hby d1_13) rfl (tlt (by decide : (1 : Int32) < (2 : Int32))).2.1 k) ?_
    show Go _ _ _ (T4.setTop (mkF m 16 #[.val (.long q1), .second, .val (.ref x2_0_1), .val (.int 2), .val (.int 1), .val (.ref y0)] [])) _
    refine Go.st (fun t k => XS.aloadN X4.here hx rfl (hb hby d1_16) rfl rfl k) ?_
    refine Go.st (fun t k => XS.iload X4.here hx rfl (hb hby d1_17) rfl k) ?_
    obtain ⟨cl6, Ar6, -, Sz6, Ng6, Hs6, -⟩ := id V_x2_0_1
    have hin6 : ¬ ((1 : Int32) < 0 ∨ cl6.slots.size ≤ ((1 : Int32)).toNatClampNeg) := inb_of Sz6 ⟨by decide, by decide⟩
    refine Go.st (fun t k => X4.aaload hx (j := (1 : Int32)) (v := (.ref y1)) (by rw [e4]; exact Ar6.1) (State.isArrayOf_alike hZ.alike Ar6.2.1) rfl Ar6.2.2 hin6 (Has.at Hs6 hin6 rfl) (g := (mkF m 19 #[.val (.long q1), .second, .val (.ref x2_0_1), .val (.int 2), .val (.int 1), .val (.ref y0)] [(.int 1), (.ref x2_0_1)])) rfl rfl (hb hby d1_19) _ k) ?_
    show Go _ _ _ (T4.setTop (mkF m 20 #[.val (.long q1), .second, .val (.ref x2_0_1), .val (.int 2), .val (.int 1), .val (.ref y0)] [(.ref y1)])) _
    refine Go.st (fun t k => XS.astore X4.here hx rfl (hb hby d1_20) rfl rfl (l' := #[.val (.long q1), .second, .val (.ref x2_0_1), .val (.int 2), .val (.int 1), .val (.ref y1)]) rfl k) ?_
    refine Go.st (fun t k => XS.aload X4.here hx rfl (hb hby d1_22) rfl rfl k) ?_
    obtain ⟨T7, X7, e7, st7⟩ := getF X4 hx hZ hown (host := "") (Or.inl (wd24 hw)) Via.refl e4 F_y1_code (g := (mkF m 24 #[.val (.long q1), .second, .val (.ref x2_0_1), .val (.int 2), .val (.int 1), .val (.ref y1)] [(.ref y1)])) rfl rfl (hb hby d1_24)
    refine Go.st st7 ?_
    show Go _ _ _ (T7.setTop (mkF m 27 #[.val (.long q1), .second, .val (.ref x2_0_1), .val (.int 2), .val (.int 1), .val (.ref y1)] [(.int 3)])) _
    refine Go.st (fun t k => XS.i2l X7.here hx rfl (hb hby d1_27) rfl k) ?_
    rw [show ((3 : Int32).toInt64) = (3 : Int64) from by decide]
    show Go _ _ _ (T7.setTop (mkF m 28 #[.val (.long q1), .second, .val (.ref x2_0_1), .val (.int 2), .val (.int 1), .val (.ref y1)] [(.long 3)])) _
    refine Go.st (fun t k => XS.lloadN X7.here hx rfl (hb hby d1_28) rfl k) ?_
    refine Go.st (fun t k => XS.lcmp X7.here hx rfl (hb hby d1_29) rfl k) ?_
    show Go _ _ _ (T7.setTop (mkF m 30 #[.val (.long q1), .second, .val (.ref x2_0_1), .val (.int 2), .val (.int 1), .val (.ref y1)] [(.int (lcmpW (3 : Int64) q1))])) _
    by_cases hc8 : (3 : Int64) = q1
    · refine Go.st (fun t k => XS.ifNo X7.here hx rfl (hb hby d1_30) rfl ((if0 _ _).trans (teq ((lw_eq (3 : Int64) q1).mpr hc8)).2) k) ?_
      show Go _ _ _ (T7.setTop (mkF m 33 #[.val (.long q1), .second, .val (.ref x2_0_1), .val (.int 2), .val (.int 1), .val (.ref y1)] [])) _
      refine Go.st (fun t k => XS.aload X7.here hx rfl (hb hby d1_33) rfl rfl k) ?_
      obtain ⟨fs, hr, hrun, hended, hW, hsame⟩ := X7.leave (v := some (.ref y1)) (fun h => by rw [Bd.returns] at h; cases h)
      refine Go.fin (retOut X7 hx Bd.returns rfl (Or.inr (Or.inr (Or.inr (Or.inr ⟨rfl, rfl, rfl⟩)))) (hb hby d1_35) hr) hrun hended ⟨_, _, rfl, ?_, ⟨_, rfl⟩, hW, hsame.mono (by decide) (by decide)⟩
      show Q1 Z q1 w__VALUES k_v y0 y1 h0 n0 _ T7.heap _
      rw [e7]
      exact ⟨(by unfold f1; simp only [if_neg hc5, if_pos hc8]), N1, K0⟩
    · refine Go.st (fun t k => XS.ifYes X7.here hx rfl (pc0 := 30) (pc' := 36) rfl (hb hby d1_30) rfl ((if0 _ _).trans (feq (fun z => hc8 ((lw_eq (3 : Int64) q1).mp z))).2) (by decide) (by decide) k) ?_
      show Go _ _ _ (T7.setTop (mkF m 36 #[.val (.long q1), .second, .val (.ref x2_0_1), .val (.int 2), .val (.int 1), .val (.ref y1)] [])) _
      refine Go.st (fun t k => XS.iinc X7.here hx rfl (hb hby d1_36) rfl (l' := #[.val (.long q1), .second, .val (.ref x2_0_1), .val (.int (2 : Int32)), .val (.int ((1 : Int32) + (1 : Int32))), .val (.ref y1)]) rfl k) ?_
      rw [show ((1 : Int32) + (1 : Int32)) = (2 : Int32) from by decide]
      show Go _ _ _ (T7.setTop (mkF m 39 #[.val (.long q1), .second, .val (.ref x2_0_1), .val (.int 2), .val (.int 2), .val (.ref y1)] [])) _
      refine Go.st (fun t k => XS.goto X7.here hx rfl (pc0 := 39) (pc' := 10) rfl (hb hby d1_39) (by decide) (by decide) k) ?_
      refine Go.st (fun t k => XS.iload X7.here hx rfl (hb hby d1_10) rfl k) ?_
      refine Go.st (fun t k => XS.iloadN X7.here hx rfl (hb hby d1_12) rfl k) ?_
      refine Go.st (fun t k => XS.icmpYes X7.here hx rfl (pc0 := 13) (pc' := 42) rfl (hb hby d1_13) rfl (flt (by decide : ¬ ((2 : Int32) < (2 : Int32)))).2.1 (by decide) (by decide) k) ?_
      show Go _ _ _ (T7.setTop (mkF m 42 #[.val (.long q1), .second, .val (.ref x2_0_1), .val (.int 2), .val (.int 2), .val (.ref y1)] [])) _
      refine Go.st (fun t k => XS.aconstNull X7.here hx rfl (hb hby d1_42) k) ?_
      obtain ⟨fs, hr, hrun, hended, hW, hsame⟩ := X7.leave (v := some .null) (fun h => by rw [Bd.returns] at h; cases h)
      refine Go.fin (retOut X7 hx Bd.returns rfl (Or.inr (Or.inr (Or.inr (Or.inr ⟨rfl, rfl, rfl⟩)))) (hb hby d1_43) hr) hrun hended ⟨_, _, rfl, ?_, ⟨_, rfl⟩, hW, hsame.mono (by decide) (by decide)⟩
      show Q1 Z q1 w__VALUES k_v y0 y1 h0 n0 _ T7.heap _
      rw [e7]
      exact ⟨(by unfold f1; simp only [if_neg hc5, if_neg hc8]), N1, K0⟩
theorem wd26 {Z : State} {a0 : Array Value} (hw : ∀ d ∈ tables_1, d.before a0 Z = true) : (Jvm.Cond.fieldLink "com/example/gloom/gloom/hashing/LayoutFromCodePinLaw" (11 : Nat) "com/example/gloom/gloom/hashing/Layout" "STANDARD" "Lcom/example/gloom/gloom/hashing/Layout;").before a0 Z = true := hw _ (List.mem_of_getElem? (i := 26) rfl)
theorem wd5 {Z : State} {a0 : Array Value} (hw : ∀ d ∈ tables_1, d.before a0 Z = true) : (Jvm.Cond.methodLink "com/example/gloom/gloom/hashing/LayoutFromCodePinLaw" (20 : Nat) ({ cls := "com/example/gloom/gloom/hashing/Layout", name := "fromCode", desc := "(J)Lcom/example/gloom/gloom/hashing/Layout;" } : Jvm.MethodName)).before a0 Z = true := hw _ (List.mem_of_getElem? (i := 5) rfl)
theorem wd7 {Z : State} {a0 : Array Value} (hw : ∀ d ∈ tables_1, d.before a0 Z = true) : (Jvm.Cond.code ({ cls := "com/example/gloom/gloom/hashing/Layout", name := "fromCode", desc := "(J)Lcom/example/gloom/gloom/hashing/Layout;" } : Jvm.MethodName) prog_17_method_4_code (6 : Nat) (Option.some (Jvm.ClassFile.FieldType.object "com/example/gloom/gloom/hashing/Layout"))).before a0 Z = true := hw _ (List.mem_of_getElem? (i := 7) rfl)
theorem pd1 : parseMethodDescriptor "(J)Lcom/example/gloom/gloom/hashing/Layout;" = some ⟨[.long], some (.object "com/example/gloom/gloom/hashing/Layout")⟩ := by decide +kernel
theorem wd6 {Z : State} {a0 : Array Value} (hw : ∀ d ∈ tables_1, d.before a0 Z = true) : (Jvm.Cond.static ({ cls := "com/example/gloom/gloom/hashing/Layout", name := "fromCode", desc := "(J)Lcom/example/gloom/gloom/hashing/Layout;" } : Jvm.MethodName)).before a0 Z = true := hw _ (List.mem_of_getElem? (i := 6) rfl)
theorem wd1 {Z : State} {a0 : Array Value} (hw : ∀ d ∈ tables_1, d.before a0 Z = true) : (Jvm.Cond.constantLong "com/example/gloom/gloom/hashing/LayoutFromCodePinLaw" (7 : Nat) (3 : Int64)).before a0 Z = true := hw _ (List.mem_of_getElem? (i := 1) rfl)
theorem wd2 {Z : State} {a0 : Array Value} (hw : ∀ d ∈ tables_1, d.before a0 Z = true) : (Jvm.Cond.fieldLink "com/example/gloom/gloom/hashing/LayoutFromCodePinLaw" (17 : Nat) "com/example/gloom/gloom/hashing/Layout" "BLOCKED" "Lcom/example/gloom/gloom/hashing/Layout;").before a0 Z = true := hw _ (List.mem_of_getElem? (i := 2) rfl)
theorem wd0 {Z : State} {a0 : Array Value} (hw : ∀ d ∈ tables_1, d.before a0 Z = true) : (Jvm.Cond.constantLong "com/example/gloom/gloom/hashing/LayoutFromCodePinLaw" (9 : Nat) (7 : Int64)).before a0 Z = true := hw _ (List.mem_of_getElem? (i := 0) rfl)
theorem pn1 : plainName "com/example/gloom/gloom/hashing/LayoutFromCodePinLaw" = true := by first | (simp [plainName, overriddenIn]; done) | decide +kernel
def Q0 (Z : State) (q1 : Int64) (p2 : Int32) (w__VALUES : Addr) (k_v : ClassId) (w_STANDARD : Addr) (w_BLOCKED : Addr) (h0 : Heap) (n0 : Nat) (v : Option Value) (h : Heap) (L : List Loc) : Prop := v = some (.int (1 : Int32)) ∧ Fr n0 L
theorem ef0 (m : MethodId) (x0 : Int64) (x1 : Int32) : entryFrame m #[(.long x0), (.int x1)] maxLocals = mkF m 0 #[.val (.long x0), .second, .val (.int x1), .unset, .unset, .unset, .unset] [] := by first | (simp [entryFrame, mkF, argsToLocals, Value.category, maxLocals]; done) | rfl
set_option maxRecDepth 65536 in
set_option maxHeartbeats 16000000 in
theorem rm0 (l : Launch) (Z : State) (a0 : Array Value) (hw : ∀ d ∈ tables_1, d.before a0 Z = true) (ws : List Jvm.Cond) (q1 : Int64) (p2 : Int32) (w__VALUES : Addr) (k_v : ClassId) (w_STANDARD : Addr) (w_BLOCKED : Addr) (h0 : Heap) (n0 : Nat) (Z0 : n0 ≤ h0.size) (S__VALUES : Sta Z h0 "com/example/gloom/gloom/hashing/Layout" "$VALUES" "[Lcom/example/gloom/gloom/hashing/Layout;" (.ref w__VALUES)) (E_VALS : Exa Z h0 w__VALUES "[Lcom/example/gloom/gloom/hashing/Layout;") (V_VALS : Arv Z h0 w__VALUES k_v (.object "com/example/gloom/gloom/hashing/Layout") (2 : Int32) [(.ref w_STANDARD), (.ref w_BLOCKED)] .null) (E_w_STANDARD : Exa Z h0 w_STANDARD "com/example/gloom/gloom/hashing/Layout") (F_w_STANDARD_code : Fld Z h0 w_STANDARD "com/example/gloom/gloom/hashing/Layout" "code" "I" (.int (1 : Int32))) (E_w_BLOCKED : Exa Z h0 w_BLOCKED "com/example/gloom/gloom/hashing/Layout") (F_w_BLOCKED_code : Fld Z h0 w_BLOCKED "com/example/gloom/gloom/hashing/Layout" "code" "I" (.int (3 : Int32))) (S_STANDARD : Sta Z h0 "com/example/gloom/gloom/hashing/Layout" "STANDARD" "Lcom/example/gloom/gloom/hashing/Layout;" (.ref w_STANDARD)) (S_BLOCKED : Sta Z h0 "com/example/gloom/gloom/hashing/Layout" "BLOCKED" "Lcom/example/gloom/gloom/hashing/Layout;" (.ref w_BLOCKED)) :
    MetFree l x (head1 (Jvm.Cond.code x code maxLocals ret :: ws) room_1) (fun a U => a = #[(.long q1), (.int p2)] ∧ Z.Warmed39 U.vm ∧ U.heap = h0) (fun _ _ _ _ _ => True) (fun _ U o U' => ∃ v L, o = .returned v ∧ Q0 Z q1 p2 w__VALUES k_v w_STANDARD w_BLOCKED h0 n0 v U'.heap L ∧ FrameEnd U o U' L 16 128) := by
  refine MetFree.of_bodySF (plainFor_of_name pn1) hisR ?_
  intro p e s m args below meth c s₁ Bd hml0 hP hK
  obtain ⟨rfl, hZ, hh⟩ := hP
  have hx := Bd.exec
  have hby := Bd.bytes
  have hml : c.maxLocals = 7 := hml0
  have hown : s.vm.findClass "com/example/gloom/gloom/hashing/LayoutFromCodePinLaw" = some m.cls := findClass_of_methodNamed Bd.named
  have hnm := (name_of_methodNamed Bd.named Bd.method).1
  have X0 : Stand p l e room_1 s m #[(.long q1), (.int p2)] below meth c s₁ [] 0 0 := Stand.of_body Bd
  have e0 : s₁.heap = h0 := by rw [← hh, Bd.state]; rfl
  have N0 := Fr.nil n0
  have K0 : Keep h0 h0 [] := Keep.refl h0 _
  refine Go.st (P := fun o U' => ∃ v L, o = .returned v ∧ Q0 Z q1 p2 w__VALUES k_v w_STANDARD w_BLOCKED h0 n0 v U'.heap L ∧ FrameEnd s o U' L 16 128) (fun t k => castTop (ef0 m q1 p2) k) ?_
  show Go _ _ _ (s₁.setTop (mkF m 0 #[.val (.long q1), .second, .val (.int p2), .unset, .unset, .unset, .unset] [])) _
  refine Go.st (fun t k => XS.iloadN X0.here hx rfl (hb hby at_0) rfl k) ?_
  refine Go.st (fun t k => XS.bipush X0.here hx rfl (hb hby at_1) k) ?_
  refine Go.st (fun t k => XS.iand X0.here hx rfl (hb hby at_3) rfl k) ?_
  show Go _ _ _ (s₁.setTop (mkF m 4 #[.val (.long q1), .second, .val (.int p2), .unset, .unset, .unset, .unset] [(.int (p2 &&& (7 : Int32)))])) _
  refine Go.st (fun t k => XS.istoreN X0.here hx rfl (hb hby at_4) rfl (l' := #[.val (.long q1), .second, .val (.int p2), .val (.int (p2 &&& (7 : Int32))), .unset, .unset, .unset]) rfl k) ?_
  refine Go.st (fun t k => XS.iloadN X0.here hx rfl (hb hby at_5) rfl k) ?_
  by_cases hc1 : (p2 &&& (7 : Int32)) = (0 : Int32)
  · refine Go.st (fun t k => XS.ifNo X0.here hx rfl (hb hby at_6) rfl ((if0 _ _).trans (teq hc1).2) k) ?_
    show Go _ _ _ (s₁.setTop (mkF m 9 #[.val (.long q1), .second, .val (.int p2), .val (.int (p2 &&& (7 : Int32))), .unset, .unset, .unset] [])) _
    refine Go.st (fun t k => XS.lconst X0.here hx rfl (hb hby at_9) k) ?_
    refine Go.st (fun t k => XS.lstore X0.here hx rfl (hb hby at_10) rfl (l' := #[.val (.long q1), .second, .val (.int p2), .val (.int (p2 &&& (7 : Int32))), .val (.long 1), .second, .unset]) rfl k) ?_
    refine Go.st (fun t k => XS.goto X0.here hx rfl (pc0 := 12) (pc' := 82) rfl (hb hby at_12) (by decide) (by decide) k) ?_
    refine Go.st (fun t k => XS.lload X0.here hx rfl (hb hby at_82) rfl k) ?_
    refine Go.st (fun t k => XS.lconst X0.here hx rfl (hb hby at_84) k) ?_
    refine Go.st (fun t k => XS.lcmp X0.here hx rfl (hb hby at_85) rfl k) ?_
    show Go _ _ _ (s₁.setTop (mkF m 86 #[.val (.long q1), .second, .val (.int p2), .val (.int (p2 &&& (7 : Int32))), .val (.long 1), .second, .unset] [(.int (lcmpW (1 : Int64) (1 : Int64)))])) _
    refine Go.st (fun t k => XS.ifNo X0.here hx rfl (hb hby at_86) rfl ((if0 _ _).trans (teq ((lw_eq (1 : Int64) (1 : Int64)).mpr (by decide : (1 : Int64) = (1 : Int64)))).2) k) ?_
    show Go _ _ _ (s₁.setTop (mkF m 89 #[.val (.long q1), .second, .val (.int p2), .val (.int (p2 &&& (7 : Int32))), .val (.long 1), .second, .unset] [])) _
    obtain ⟨T2, X2, e2, st2⟩ := getS2 X0 hx hZ hown (host := "") (Or.inl (wd26 hw)) Via.refl e0 S_STANDARD (g := (mkF m 89 #[.val (.long q1), .second, .val (.int p2), .val (.int (p2 &&& (7 : Int32))), .val (.long 1), .second, .unset] [])) rfl (hb hby at_89)
    refine Go.st st2 ?_
    show Go _ _ _ (T2.setTop (mkF m 92 #[.val (.long q1), .second, .val (.int p2), .val (.int (p2 &&& (7 : Int32))), .val (.long 1), .second, .unset] [(.ref w_STANDARD)])) _
    refine Go.st (fun t k => XS.astore X2.here hx rfl (hb hby at_92) rfl rfl (l' := #[.val (.long q1), .second, .val (.int p2), .val (.int (p2 &&& (7 : Int32))), .val (.long 1), .second, .val (.ref w_STANDARD)]) rfl k) ?_
    refine Go.st (fun t k => XS.goto X2.here hx rfl (pc0 := 94) (pc' := 117) rfl (hb hby at_94) (by decide) (by decide) k) ?_
    refine Go.st (fun t k => XS.lload X2.here hx rfl (hb hby at_117) rfl k) ?_
    obtain ⟨_, _, ⟨T3, L3, k3, n3⟩, -, X3, ⟨Lc3, hQ3, l3, y3, z3⟩, st3⟩ := Jvm.LawKit.callS X2 hx (y := (⟨"com/example/gloom/gloom/hashing/Layout", "fromCode", "(J)Lcom/example/gloom/gloom/hashing/Layout;"⟩ : MethodName)) hown (mvT hZ (wd5 hw)) (mvT hZ (wd6 hw)) (mvT hZ (wd3 hw)) (mvT hZ (wd7 hw)) (by decide) (backOf (W := 0) (rm1 l Z a0 hw [] (1 : Int64) w__VALUES k_v w_STANDARD w_BLOCKED h0 n0 Z0 S__VALUES E_VALS V_VALS E_w_STANDARD F_w_STANDARD_code E_w_BLOCKED F_w_BLOCKED_code) hZ (wd7 hw) (wd3 hw) (by decide) (by decide)) (g := (mkF m 119 #[.val (.long q1), .second, .val (.int p2), .val (.int (p2 &&& (7 : Int32))), .val (.long 1), .second, .val (.ref w_STANDARD)] [(.long 1)])) rfl (by rw [hml]; rfl) (argsL := [(.long (1 : Int64))]) (rest := []) (lenOf pd1 rfl) rfl (by show 2 * 0 + _ ≤ _; exact Nat.le_of_eq rfl) (hb hby at_119) (fun _ _ => ⟨rfl, e2, (by decide : 0 + 1 ≤ _), (by decide : 0 + 2 ≤ _)⟩)
    dsimp only [Pt.U, Pt.locs, Pt.cells, Pt.slots] at X3 l3 y3 z3 st3 hQ3
    subst l3 y3 z3
    refine Go.st st3 ?_
    obtain ⟨h3, e3⟩ : ∃ z, T3.heap = z := ⟨_, rfl⟩
    rw [e3] at hQ3
    obtain ⟨rfl, N3q, K3⟩ := hQ3
    replace S__VALUES := sta_keep S__VALUES K3 all0
    replace E_VALS := E_VALS.keep K3
    replace V_VALS := V_VALS.keep K3 nin0
    replace E_w_STANDARD := E_w_STANDARD.keep K3
    replace F_w_STANDARD_code := F_w_STANDARD_code.keep K3 nin0
    replace E_w_BLOCKED := E_w_BLOCKED.keep K3
    replace F_w_BLOCKED_code := F_w_BLOCKED_code.keep K3 nin0
    replace S_STANDARD := sta_keep S_STANDARD K3 all0
    replace S_BLOCKED := sta_keep S_BLOCKED K3 all0
    replace Z0 := Nat.le_trans Z0 K3.1
    replace K0 := K0.trans K3 all0
    have N3 := Fr.app N0 N3q
    show Go _ _ _ (T3.setTop (mkF m 122 #[.val (.long q1), .second, .val (.int p2), .val (.int (p2 &&& (7 : Int32))), .val (.long 1), .second, .val (.ref w_STANDARD)] [(f1 (1 : Int64) w_STANDARD w_BLOCKED)])) _
    rw [show (f1 (1 : Int64) w_STANDARD w_BLOCKED) = ((.ref w_STANDARD) : Value) from by unfold f1; simp only [if_pos (by decide : (1 : Int64) = (1 : Int64)), if_true, if_false]]
    show Go _ _ _ (T3.setTop (mkF m 122 #[.val (.long q1), .second, .val (.int p2), .val (.int (p2 &&& (7 : Int32))), .val (.long 1), .second, .val (.ref w_STANDARD)] [(.ref w_STANDARD)])) _
    refine Go.st (fun t k => XS.aload X3.here hx rfl (hb hby at_122) rfl rfl k) ?_
    refine Go.st (fun t k => Jvm.RoadKit.acmp (g := (mkF m 124 #[.val (.long q1), .second, .val (.int p2), .val (.int (p2 &&& (7 : Int32))), .val (.long 1), .second, .val (.ref w_STANDARD)] [(.ref w_STANDARD), (.ref w_STANDARD)])) X3 hx rfl rfl rfl (pc0 := 124) (pc' := 127) (same := true) rfl (hb hby at_124) rfl (decide_eq_true rfl) (by decide) (by decide) k) ?_
    show Go _ _ _ (T3.setTop (mkF m 127 #[.val (.long q1), .second, .val (.int p2), .val (.int (p2 &&& (7 : Int32))), .val (.long 1), .second, .val (.ref w_STANDARD)] [])) _
    refine Go.st (fun t k => XS.iconst X3.here hx rfl (hb hby at_127) k) ?_
    refine Go.st (fun t k => XS.goto X3.here hx rfl (pc0 := 128) (pc' := 132) rfl (hb hby at_128) (by decide) (by decide) k) ?_
    obtain ⟨fs, hr, hrun, hended, hW, hsame⟩ := X3.leave (v := some (.int (1 : Int32))) (fun h => by rw [Bd.returns] at h; cases h)
    refine Go.fin (retN X3 hx (t := .boolean) Bd.returns (by simp) (hb hby at_132) hr) hrun hended ⟨_, _, rfl, ?_, ⟨_, rfl⟩, hW, hsame.mono (by decide) (by decide)⟩
    show Q0 Z q1 p2 w__VALUES k_v w_STANDARD w_BLOCKED h0 n0 _ T3.heap _
    rw [e3]
    exact ⟨rfl, N3⟩
  · refine Go.st (fun t k => XS.ifYes X0.here hx rfl (pc0 := 6) (pc' := 15) rfl (hb hby at_6) rfl ((if0 _ _).trans (feq hc1).2) (by decide) (by decide) k) ?_
    show Go _ _ _ (s₁.setTop (mkF m 15 #[.val (.long q1), .second, .val (.int p2), .val (.int (p2 &&& (7 : Int32))), .unset, .unset, .unset] [])) _
    refine Go.st (fun t k => XS.iloadN X0.here hx rfl (hb hby at_15) rfl k) ?_
    refine Go.st (fun t k => XS.iconst X0.here hx rfl (hb hby at_16) k) ?_
    by_cases hc4 : (p2 &&& (7 : Int32)) = (1 : Int32)
    · refine Go.st (fun t k => XS.icmpNo X0.here hx rfl (hb hby at_17) rfl (teq hc4).2 k) ?_
      show Go _ _ _ (s₁.setTop (mkF m 20 #[.val (.long q1), .second, .val (.int p2), .val (.int (p2 &&& (7 : Int32))), .unset, .unset, .unset] [])) _
      refine Go.st (fun t k => X0.ldc2Long hx hown (mvT hZ (wd1 hw)) (g := (mkF m 20 #[.val (.long q1), .second, .val (.int p2), .val (.int (p2 &&& (7 : Int32))), .unset, .unset, .unset] [])) rfl (hb hby at_20) _ k) ?_
      show Go _ _ _ (s₁.setTop (mkF m 23 #[.val (.long q1), .second, .val (.int p2), .val (.int (p2 &&& (7 : Int32))), .unset, .unset, .unset] [(.long 3)])) _
      refine Go.st (fun t k => XS.lstore X0.here hx rfl (hb hby at_23) rfl (l' := #[.val (.long q1), .second, .val (.int p2), .val (.int (p2 &&& (7 : Int32))), .val (.long 3), .second, .unset]) rfl k) ?_
      refine Go.st (fun t k => XS.goto X0.here hx rfl (pc0 := 25) (pc' := 82) rfl (hb hby at_25) (by decide) (by decide) k) ?_
      refine Go.st (fun t k => XS.lload X0.here hx rfl (hb hby at_82) rfl k) ?_
      refine Go.st (fun t k => XS.lconst X0.here hx rfl (hb hby at_84) k) ?_
      refine Go.st (fun t k => XS.lcmp X0.here hx rfl (hb hby at_85) rfl k) ?_
      show Go _ _ _ (s₁.setTop (mkF m 86 #[.val (.long q1), .second, .val (.int p2), .val (.int (p2 &&& (7 : Int32))), .val (.long 3), .second, .unset] [(.int (lcmpW (3 : Int64) (1 : Int64)))])) _
      refine Go.st (fun t k => XS.ifYes X0.here hx rfl (pc0 := 86) (pc' := 97) rfl (hb hby at_86) rfl ((if0 _ _).trans (feq (fun z => (by decide : ¬ ((3 : Int64) = (1 : Int64))) ((lw_eq (3 : Int64) (1 : Int64)).mp z))).2) (by decide) (by decide) k) ?_
      show Go _ _ _ (s₁.setTop (mkF m 97 #[.val (.long q1), .second, .val (.int p2), .val (.int (p2 &&& (7 : Int32))), .val (.long 3), .second, .unset] [])) _
      refine Go.st (fun t k => XS.lload X0.here hx rfl (hb hby at_97) rfl k) ?_
      refine Go.st (fun t k => X0.ldc2Long hx hown (mvT hZ (wd1 hw)) (g := (mkF m 99 #[.val (.long q1), .second, .val (.int p2), .val (.int (p2 &&& (7 : Int32))), .val (.long 3), .second, .unset] [(.long 3)])) rfl (hb hby at_99) _ k) ?_
      show Go _ _ _ (s₁.setTop (mkF m 102 #[.val (.long q1), .second, .val (.int p2), .val (.int (p2 &&& (7 : Int32))), .val (.long 3), .second, .unset] [(.long 3), (.long 3)])) _
      refine Go.st (fun t k => XS.lcmp X0.here hx rfl (hb hby at_102) rfl k) ?_
      show Go _ _ _ (s₁.setTop (mkF m 103 #[.val (.long q1), .second, .val (.int p2), .val (.int (p2 &&& (7 : Int32))), .val (.long 3), .second, .unset] [(.int (lcmpW (3 : Int64) (3 : Int64)))])) _
      refine Go.st (fun t k => XS.ifNo X0.here hx rfl (hb hby at_103) rfl ((if0 _ _).trans (teq ((lw_eq (3 : Int64) (3 : Int64)).mpr (by decide : (3 : Int64) = (3 : Int64)))).2) k) ?_
      show Go _ _ _ (s₁.setTop (mkF m 106 #[.val (.long q1), .second, .val (.int p2), .val (.int (p2 &&& (7 : Int32))), .val (.long 3), .second, .unset] [])) _
      obtain ⟨T5, X5, e5, st5⟩ := getS2 X0 hx hZ hown (host := "") (Or.inl (wd2 hw)) Via.refl e0 S_BLOCKED (g := (mkF m 106 #[.val (.long q1), .second, .val (.int p2), .val (.int (p2 &&& (7 : Int32))), .val (.long 3), .second, .unset] [])) rfl (hb hby at_106)
      refine Go.st st5 ?_
      show Go _ _ _ (T5.setTop (mkF m 109 #[.val (.long q1), .second, .val (.int p2), .val (.int (p2 &&& (7 : Int32))), .val (.long 3), .second, .unset] [(.ref w_BLOCKED)])) _
      refine Go.st (fun t k => XS.astore X5.here hx rfl (hb hby at_109) rfl rfl (l' := #[.val (.long q1), .second, .val (.int p2), .val (.int (p2 &&& (7 : Int32))), .val (.long 3), .second, .val (.ref w_BLOCKED)]) rfl k) ?_
      refine Go.st (fun t k => XS.goto X5.here hx rfl (pc0 := 111) (pc' := 117) rfl (hb hby at_111) (by decide) (by decide) k) ?_
      refine Go.st (fun t k => XS.lload X5.here hx rfl (hb hby at_117) rfl k) ?_
      obtain ⟨_, _, ⟨T6, L6, k6, n6⟩, -, X6, ⟨Lc6, hQ6, l6, y6, z6⟩, st6⟩ := Jvm.LawKit.callS X5 hx (y := (⟨"com/example/gloom/gloom/hashing/Layout", "fromCode", "(J)Lcom/example/gloom/gloom/hashing/Layout;"⟩ : MethodName)) hown (mvT hZ (wd5 hw)) (mvT hZ (wd6 hw)) (mvT hZ (wd3 hw)) (mvT hZ (wd7 hw)) (by decide) (backOf (W := 0) (rm1 l Z a0 hw [] (3 : Int64) w__VALUES k_v w_STANDARD w_BLOCKED h0 n0 Z0 S__VALUES E_VALS V_VALS E_w_STANDARD F_w_STANDARD_code E_w_BLOCKED F_w_BLOCKED_code) hZ (wd7 hw) (wd3 hw) (by decide) (by decide)) (g := (mkF m 119 #[.val (.long q1), .second, .val (.int p2), .val (.int (p2 &&& (7 : Int32))), .val (.long 3), .second, .val (.ref w_BLOCKED)] [(.long 3)])) rfl (by rw [hml]; rfl) (argsL := [(.long (3 : Int64))]) (rest := []) (lenOf pd1 rfl) rfl (by show 2 * 0 + _ ≤ _; exact Nat.le_of_eq rfl) (hb hby at_119) (fun _ _ => ⟨rfl, e5, (by decide : 0 + 1 ≤ _), (by decide : 0 + 2 ≤ _)⟩)
      dsimp only [Pt.U, Pt.locs, Pt.cells, Pt.slots] at X6 l6 y6 z6 st6 hQ6
      subst l6 y6 z6
      refine Go.st st6 ?_
      obtain ⟨h6, e6⟩ : ∃ z, T6.heap = z := ⟨_, rfl⟩
      rw [e6] at hQ6
      obtain ⟨rfl, N6q, K6⟩ := hQ6
      replace S__VALUES := sta_keep S__VALUES K6 all0
      replace E_VALS := E_VALS.keep K6
      replace V_VALS := V_VALS.keep K6 nin0
      replace E_w_STANDARD := E_w_STANDARD.keep K6
      replace F_w_STANDARD_code := F_w_STANDARD_code.keep K6 nin0
      replace E_w_BLOCKED := E_w_BLOCKED.keep K6
      replace F_w_BLOCKED_code := F_w_BLOCKED_code.keep K6 nin0
      replace S_STANDARD := sta_keep S_STANDARD K6 all0
      replace S_BLOCKED := sta_keep S_BLOCKED K6 all0
      replace Z0 := Nat.le_trans Z0 K6.1
      replace K0 := K0.trans K6 all0
      have N6 := Fr.app N0 N6q
      show Go _ _ _ (T6.setTop (mkF m 122 #[.val (.long q1), .second, .val (.int p2), .val (.int (p2 &&& (7 : Int32))), .val (.long 3), .second, .val (.ref w_BLOCKED)] [(f1 (3 : Int64) w_STANDARD w_BLOCKED)])) _
      rw [show (f1 (3 : Int64) w_STANDARD w_BLOCKED) = ((.ref w_BLOCKED) : Value) from by unfold f1; simp only [if_neg (by decide : ¬ ((1 : Int64) = (3 : Int64))), if_pos (by decide : (3 : Int64) = (3 : Int64)), if_true, if_false]]
      show Go _ _ _ (T6.setTop (mkF m 122 #[.val (.long q1), .second, .val (.int p2), .val (.int (p2 &&& (7 : Int32))), .val (.long 3), .second, .val (.ref w_BLOCKED)] [(.ref w_BLOCKED)])) _
      refine Go.st (fun t k => XS.aload X6.here hx rfl (hb hby at_122) rfl rfl k) ?_
      refine Go.st (fun t k => Jvm.RoadKit.acmp (g := (mkF m 124 #[.val (.long q1), .second, .val (.int p2), .val (.int (p2 &&& (7 : Int32))), .val (.long 3), .second, .val (.ref w_BLOCKED)] [(.ref w_BLOCKED), (.ref w_BLOCKED)])) X6 hx rfl rfl rfl (pc0 := 124) (pc' := 127) (same := true) rfl (hb hby at_124) rfl (decide_eq_true rfl) (by decide) (by decide) k) ?_
      show Go _ _ _ (T6.setTop (mkF m 127 #[.val (.long q1), .second, .val (.int p2), .val (.int (p2 &&& (7 : Int32))), .val (.long 3), .second, .val (.ref w_BLOCKED)] [])) _
      refine Go.st (fun t k => XS.iconst X6.here hx rfl (hb hby at_127) k) ?_
      refine Go.st (fun t k => XS.goto X6.here hx rfl (pc0 := 128) (pc' := 132) rfl (hb hby at_128) (by decide) (by decide) k) ?_
      obtain ⟨fs, hr, hrun, hended, hW, hsame⟩ := X6.leave (v := some (.int (1 : Int32))) (fun h => by rw [Bd.returns] at h; cases h)
      refine Go.fin (retN X6 hx (t := .boolean) Bd.returns (by simp) (hb hby at_132) hr) hrun hended ⟨_, _, rfl, ?_, ⟨_, rfl⟩, hW, hsame.mono (by decide) (by decide)⟩
      show Q0 Z q1 p2 w__VALUES k_v w_STANDARD w_BLOCKED h0 n0 _ T6.heap _
      rw [e6]
      exact ⟨rfl, N6⟩
    · refine Go.st (fun t k => XS.icmpYes X0.here hx rfl (pc0 := 17) (pc' := 28) rfl (hb hby at_17) rfl (feq hc4).2 (by decide) (by decide) k) ?_
      show Go _ _ _ (s₁.setTop (mkF m 28 #[.val (.long q1), .second, .val (.int p2), .val (.int (p2 &&& (7 : Int32))), .unset, .unset, .unset] [])) _
      refine Go.st (fun t k => XS.iloadN X0.here hx rfl (hb hby at_28) rfl k) ?_
      refine Go.st (fun t k => XS.iconst X0.here hx rfl (hb hby at_29) k) ?_
      by_cases hc7 : (p2 &&& (7 : Int32)) = (2 : Int32)
      · refine Go.st (fun t k => XS.icmpNo X0.here hx rfl (hb hby at_30) rfl (teq hc7).2 k) ?_
        show Go _ _ _ (s₁.setTop (mkF m 33 #[.val (.long q1), .second, .val (.int p2), .val (.int (p2 &&& (7 : Int32))), .unset, .unset, .unset] [])) _
        refine Go.st (fun t k => XS.lloadN X0.here hx rfl (hb hby at_33) rfl k) ?_
        refine Go.st (fun t k => X0.ldc2Long hx hown (mvT hZ (wd0 hw)) (g := (mkF m 34 #[.val (.long q1), .second, .val (.int p2), .val (.int (p2 &&& (7 : Int32))), .unset, .unset, .unset] [(.long q1)])) rfl (hb hby at_34) _ k) ?_
        show Go _ _ _ (s₁.setTop (mkF m 37 #[.val (.long q1), .second, .val (.int p2), .val (.int (p2 &&& (7 : Int32))), .unset, .unset, .unset] [(.long 7), (.long q1)])) _
        refine Go.st (fun t k => XS.land X0.here hx rfl (hb hby at_37) rfl k) ?_
        show Go _ _ _ (s₁.setTop (mkF m 38 #[.val (.long q1), .second, .val (.int p2), .val (.int (p2 &&& (7 : Int32))), .unset, .unset, .unset] [(.long (q1 &&& (7 : Int64)))])) _
        refine Go.st (fun t k => XS.lstore X0.here hx rfl (hb hby at_38) rfl (l' := #[.val (.long q1), .second, .val (.int p2), .val (.int (p2 &&& (7 : Int32))), .val (.long (q1 &&& (7 : Int64))), .second, .unset]) rfl k) ?_
        refine Go.st (fun t k => XS.goto X0.here hx rfl (pc0 := 40) (pc' := 82) rfl (hb hby at_40) (by decide) (by decide) k) ?_
        refine Go.st (fun t k => XS.lload X0.here hx rfl (hb hby at_82) rfl k) ?_
        refine Go.st (fun t k => XS.lconst X0.here hx rfl (hb hby at_84) k) ?_
        refine Go.st (fun t k => XS.lcmp X0.here hx rfl (hb hby at_85) rfl k) ?_
        show Go _ _ _ (s₁.setTop (mkF m 86 #[.val (.long q1), .second, .val (.int p2), .val (.int (p2 &&& (7 : Int32))), .val (.long (q1 &&& (7 : Int64))), .second, .unset] [(.int (lcmpW (q1 &&& (7 : Int64)) (1 : Int64)))])) _
        by_cases hc8 : (q1 &&& (7 : Int64)) = (1 : Int64)
        · refine Go.st (fun t k => XS.ifNo X0.here hx rfl (hb hby at_86) rfl ((if0 _ _).trans (teq ((lw_eq (q1 &&& (7 : Int64)) (1 : Int64)).mpr hc8)).2) k) ?_
          show Go _ _ _ (s₁.setTop (mkF m 89 #[.val (.long q1), .second, .val (.int p2), .val (.int (p2 &&& (7 : Int32))), .val (.long (q1 &&& (7 : Int64))), .second, .unset] [])) _
          obtain ⟨T9, X9, e9, st9⟩ := getS2 X0 hx hZ hown (host := "") (Or.inl (wd26 hw)) Via.refl e0 S_STANDARD (g := (mkF m 89 #[.val (.long q1), .second, .val (.int p2), .val (.int (p2 &&& (7 : Int32))), .val (.long (q1 &&& (7 : Int64))), .second, .unset] [])) rfl (hb hby at_89)
          refine Go.st st9 ?_
          show Go _ _ _ (T9.setTop (mkF m 92 #[.val (.long q1), .second, .val (.int p2), .val (.int (p2 &&& (7 : Int32))), .val (.long (q1 &&& (7 : Int64))), .second, .unset] [(.ref w_STANDARD)])) _
          refine Go.st (fun t k => XS.astore X9.here hx rfl (hb hby at_92) rfl rfl (l' := #[.val (.long q1), .second, .val (.int p2), .val (.int (p2 &&& (7 : Int32))), .val (.long (q1 &&& (7 : Int64))), .second, .val (.ref w_STANDARD)]) rfl k) ?_
          refine Go.st (fun t k => XS.goto X9.here hx rfl (pc0 := 94) (pc' := 117) rfl (hb hby at_94) (by decide) (by decide) k) ?_
          refine Go.st (fun t k => XS.lload X9.here hx rfl (hb hby at_117) rfl k) ?_
          obtain ⟨_, _, ⟨T10, L10, k10, n10⟩, -, X10, ⟨Lc10, hQ10, l10, y10, z10⟩, st10⟩ := Jvm.LawKit.callS X9 hx (y := (⟨"com/example/gloom/gloom/hashing/Layout", "fromCode", "(J)Lcom/example/gloom/gloom/hashing/Layout;"⟩ : MethodName)) hown (mvT hZ (wd5 hw)) (mvT hZ (wd6 hw)) (mvT hZ (wd3 hw)) (mvT hZ (wd7 hw)) (by decide) (backOf (W := 0) (rm1 l Z a0 hw [] (q1 &&& (7 : Int64)) w__VALUES k_v w_STANDARD w_BLOCKED h0 n0 Z0 S__VALUES E_VALS V_VALS E_w_STANDARD F_w_STANDARD_code E_w_BLOCKED F_w_BLOCKED_code) hZ (wd7 hw) (wd3 hw) (by decide) (by decide)) (g := (mkF m 119 #[.val (.long q1), .second, .val (.int p2), .val (.int (p2 &&& (7 : Int32))), .val (.long (q1 &&& (7 : Int64))), .second, .val (.ref w_STANDARD)] [(.long (q1 &&& (7 : Int64)))])) rfl (by rw [hml]; rfl) (argsL := [(.long (q1 &&& (7 : Int64)))]) (rest := []) (lenOf pd1 rfl) rfl (by show 2 * 0 + _ ≤ _; exact Nat.le_of_eq rfl) (hb hby at_119) (fun _ _ => ⟨rfl, e9, (by decide : 0 + 1 ≤ _), (by decide : 0 + 2 ≤ _)⟩)
          dsimp only [Pt.U, Pt.locs, Pt.cells, Pt.slots] at X10 l10 y10 z10 st10 hQ10
          subst l10 y10 z10
          refine Go.st st10 ?_
          obtain ⟨h10, e10⟩ : ∃ z, T10.heap = z := ⟨_, rfl⟩
          rw [e10] at hQ10
          obtain ⟨rfl, N10q, K10⟩ := hQ10
          replace S__VALUES := sta_keep S__VALUES K10 all0
          replace E_VALS := E_VALS.keep K10
          replace V_VALS := V_VALS.keep K10 nin0
          replace E_w_STANDARD := E_w_STANDARD.keep K10
          replace F_w_STANDARD_code := F_w_STANDARD_code.keep K10 nin0
          replace E_w_BLOCKED := E_w_BLOCKED.keep K10
          replace F_w_BLOCKED_code := F_w_BLOCKED_code.keep K10 nin0
          replace S_STANDARD := sta_keep S_STANDARD K10 all0
          replace S_BLOCKED := sta_keep S_BLOCKED K10 all0
          replace Z0 := Nat.le_trans Z0 K10.1
          replace K0 := K0.trans K10 all0
          have N10 := Fr.app N0 N10q
          show Go _ _ _ (T10.setTop (mkF m 122 #[.val (.long q1), .second, .val (.int p2), .val (.int (p2 &&& (7 : Int32))), .val (.long (q1 &&& (7 : Int64))), .second, .val (.ref w_STANDARD)] [(f1 (q1 &&& (7 : Int64)) w_STANDARD w_BLOCKED)])) _
          rw [show (f1 (q1 &&& (7 : Int64)) w_STANDARD w_BLOCKED) = ((.ref w_STANDARD) : Value) from by unfold f1; simp only [if_pos (Eq.symm hc8), if_true, if_false]]
          show Go _ _ _ (T10.setTop (mkF m 122 #[.val (.long q1), .second, .val (.int p2), .val (.int (p2 &&& (7 : Int32))), .val (.long (q1 &&& (7 : Int64))), .second, .val (.ref w_STANDARD)] [(.ref w_STANDARD)])) _
          refine Go.st (fun t k => XS.aload X10.here hx rfl (hb hby at_122) rfl rfl k) ?_
          refine Go.st (fun t k => Jvm.RoadKit.acmp (g := (mkF m 124 #[.val (.long q1), .second, .val (.int p2), .val (.int (p2 &&& (7 : Int32))), .val (.long (q1 &&& (7 : Int64))), .second, .val (.ref w_STANDARD)] [(.ref w_STANDARD), (.ref w_STANDARD)])) X10 hx rfl rfl rfl (pc0 := 124) (pc' := 127) (same := true) rfl (hb hby at_124) rfl (decide_eq_true rfl) (by decide) (by decide) k) ?_
          show Go _ _ _ (T10.setTop (mkF m 127 #[.val (.long q1), .second, .val (.int p2), .val (.int (p2 &&& (7 : Int32))), .val (.long (q1 &&& (7 : Int64))), .second, .val (.ref w_STANDARD)] [])) _
          refine Go.st (fun t k => XS.iconst X10.here hx rfl (hb hby at_127) k) ?_
          refine Go.st (fun t k => XS.goto X10.here hx rfl (pc0 := 128) (pc' := 132) rfl (hb hby at_128) (by decide) (by decide) k) ?_
          obtain ⟨fs, hr, hrun, hended, hW, hsame⟩ := X10.leave (v := some (.int (1 : Int32))) (fun h => by rw [Bd.returns] at h; cases h)
          refine Go.fin (retN X10 hx (t := .boolean) Bd.returns (by simp) (hb hby at_132) hr) hrun hended ⟨_, _, rfl, ?_, ⟨_, rfl⟩, hW, hsame.mono (by decide) (by decide)⟩
          show Q0 Z q1 p2 w__VALUES k_v w_STANDARD w_BLOCKED h0 n0 _ T10.heap _
          rw [e10]
          exact ⟨rfl, N10⟩
        · refine Go.st (fun t k => XS.ifYes X0.here hx rfl (pc0 := 86) (pc' := 97) rfl (hb hby at_86) rfl ((if0 _ _).trans (feq (fun z => hc8 ((lw_eq (q1 &&& (7 : Int64)) (1 : Int64)).mp z))).2) (by decide) (by decide) k) ?_
          show Go _ _ _ (s₁.setTop (mkF m 97 #[.val (.long q1), .second, .val (.int p2), .val (.int (p2 &&& (7 : Int32))), .val (.long (q1 &&& (7 : Int64))), .second, .unset] [])) _
          refine Go.st (fun t k => XS.lload X0.here hx rfl (hb hby at_97) rfl k) ?_
          refine Go.st (fun t k => X0.ldc2Long hx hown (mvT hZ (wd1 hw)) (g := (mkF m 99 #[.val (.long q1), .second, .val (.int p2), .val (.int (p2 &&& (7 : Int32))), .val (.long (q1 &&& (7 : Int64))), .second, .unset] [(.long (q1 &&& (7 : Int64)))])) rfl (hb hby at_99) _ k) ?_
          show Go _ _ _ (s₁.setTop (mkF m 102 #[.val (.long q1), .second, .val (.int p2), .val (.int (p2 &&& (7 : Int32))), .val (.long (q1 &&& (7 : Int64))), .second, .unset] [(.long 3), (.long (q1 &&& (7 : Int64)))])) _
          refine Go.st (fun t k => XS.lcmp X0.here hx rfl (hb hby at_102) rfl k) ?_
          show Go _ _ _ (s₁.setTop (mkF m 103 #[.val (.long q1), .second, .val (.int p2), .val (.int (p2 &&& (7 : Int32))), .val (.long (q1 &&& (7 : Int64))), .second, .unset] [(.int (lcmpW (q1 &&& (7 : Int64)) (3 : Int64)))])) _
          by_cases hc11 : (q1 &&& (7 : Int64)) = (3 : Int64)
          · refine Go.st (fun t k => XS.ifNo X0.here hx rfl (hb hby at_103) rfl ((if0 _ _).trans (teq ((lw_eq (q1 &&& (7 : Int64)) (3 : Int64)).mpr hc11)).2) k) ?_
            show Go _ _ _ (s₁.setTop (mkF m 106 #[.val (.long q1), .second, .val (.int p2), .val (.int (p2 &&& (7 : Int32))), .val (.long (q1 &&& (7 : Int64))), .second, .unset] [])) _
            obtain ⟨T12, X12, e12, st12⟩ := getS2 X0 hx hZ hown (host := "") (Or.inl (wd2 hw)) Via.refl e0 S_BLOCKED (g := (mkF m 106 #[.val (.long q1), .second, .val (.int p2), .val (.int (p2 &&& (7 : Int32))), .val (.long (q1 &&& (7 : Int64))), .second, .unset] [])) rfl (hb hby at_106)
            refine Go.st st12 ?_
            show Go _ _ _ (T12.setTop (mkF m 109 #[.val (.long q1), .second, .val (.int p2), .val (.int (p2 &&& (7 : Int32))), .val (.long (q1 &&& (7 : Int64))), .second, .unset] [(.ref w_BLOCKED)])) _
            refine Go.st (fun t k => XS.astore X12.here hx rfl (hb hby at_109) rfl rfl (l' := #[.val (.long q1), .second, .val (.int p2), .val (.int (p2 &&& (7 : Int32))), .val (.long (q1 &&& (7 : Int64))), .second, .val (.ref w_BLOCKED)]) rfl k) ?_
            refine Go.st (fun t k => XS.goto X12.here hx rfl (pc0 := 111) (pc' := 117) rfl (hb hby at_111) (by decide) (by decide) k) ?_
            refine Go.st (fun t k => XS.lload X12.here hx rfl (hb hby at_117) rfl k) ?_
            obtain ⟨_, _, ⟨T13, L13, k13, n13⟩, -, X13, ⟨Lc13, hQ13, l13, y13, z13⟩, st13⟩ := Jvm.LawKit.callS X12 hx (y := (⟨"com/example/gloom/gloom/hashing/Layout", "fromCode", "(J)Lcom/example/gloom/gloom/hashing/Layout;"⟩ : MethodName)) hown (mvT hZ (wd5 hw)) (mvT hZ (wd6 hw)) (mvT hZ (wd3 hw)) (mvT hZ (wd7 hw)) (by decide) (backOf (W := 0) (rm1 l Z a0 hw [] (q1 &&& (7 : Int64)) w__VALUES k_v w_STANDARD w_BLOCKED h0 n0 Z0 S__VALUES E_VALS V_VALS E_w_STANDARD F_w_STANDARD_code E_w_BLOCKED F_w_BLOCKED_code) hZ (wd7 hw) (wd3 hw) (by decide) (by decide)) (g := (mkF m 119 #[.val (.long q1), .second, .val (.int p2), .val (.int (p2 &&& (7 : Int32))), .val (.long (q1 &&& (7 : Int64))), .second, .val (.ref w_BLOCKED)] [(.long (q1 &&& (7 : Int64)))])) rfl (by rw [hml]; rfl) (argsL := [(.long (q1 &&& (7 : Int64)))]) (rest := []) (lenOf pd1 rfl) rfl (by show 2 * 0 + _ ≤ _; exact Nat.le_of_eq rfl) (hb hby at_119) (fun _ _ => ⟨rfl, e12, (by decide : 0 + 1 ≤ _), (by decide : 0 + 2 ≤ _)⟩)
            dsimp only [Pt.U, Pt.locs, Pt.cells, Pt.slots] at X13 l13 y13 z13 st13 hQ13
            subst l13 y13 z13
            refine Go.st st13 ?_
            obtain ⟨h13, e13⟩ : ∃ z, T13.heap = z := ⟨_, rfl⟩
            rw [e13] at hQ13
            obtain ⟨rfl, N13q, K13⟩ := hQ13
            replace S__VALUES := sta_keep S__VALUES K13 all0
            replace E_VALS := E_VALS.keep K13
            replace V_VALS := V_VALS.keep K13 nin0
            replace E_w_STANDARD := E_w_STANDARD.keep K13
            replace F_w_STANDARD_code := F_w_STANDARD_code.keep K13 nin0
            replace E_w_BLOCKED := E_w_BLOCKED.keep K13
            replace F_w_BLOCKED_code := F_w_BLOCKED_code.keep K13 nin0
            replace S_STANDARD := sta_keep S_STANDARD K13 all0
            replace S_BLOCKED := sta_keep S_BLOCKED K13 all0
            replace Z0 := Nat.le_trans Z0 K13.1
            replace K0 := K0.trans K13 all0
            have N13 := Fr.app N0 N13q
            show Go _ _ _ (T13.setTop (mkF m 122 #[.val (.long q1), .second, .val (.int p2), .val (.int (p2 &&& (7 : Int32))), .val (.long (q1 &&& (7 : Int64))), .second, .val (.ref w_BLOCKED)] [(f1 (q1 &&& (7 : Int64)) w_STANDARD w_BLOCKED)])) _
            rw [show (f1 (q1 &&& (7 : Int64)) w_STANDARD w_BLOCKED) = ((.ref w_BLOCKED) : Value) from by unfold f1; simp only [if_neg (show ¬ ((1 : Int64) = (q1 &&& (7 : Int64))) from fun z => hc8 z.symm), if_pos (Eq.symm hc11), if_true, if_false]]
            show Go _ _ _ (T13.setTop (mkF m 122 #[.val (.long q1), .second, .val (.int p2), .val (.int (p2 &&& (7 : Int32))), .val (.long (q1 &&& (7 : Int64))), .second, .val (.ref w_BLOCKED)] [(.ref w_BLOCKED)])) _
            refine Go.st (fun t k => XS.aload X13.here hx rfl (hb hby at_122) rfl rfl k) ?_
            refine Go.st (fun t k => Jvm.RoadKit.acmp (g := (mkF m 124 #[.val (.long q1), .second, .val (.int p2), .val (.int (p2 &&& (7 : Int32))), .val (.long (q1 &&& (7 : Int64))), .second, .val (.ref w_BLOCKED)] [(.ref w_BLOCKED), (.ref w_BLOCKED)])) X13 hx rfl rfl rfl (pc0 := 124) (pc' := 127) (same := true) rfl (hb hby at_124) rfl (decide_eq_true rfl) (by decide) (by decide) k) ?_
            show Go _ _ _ (T13.setTop (mkF m 127 #[.val (.long q1), .second, .val (.int p2), .val (.int (p2 &&& (7 : Int32))), .val (.long (q1 &&& (7 : Int64))), .second, .val (.ref w_BLOCKED)] [])) _
            refine Go.st (fun t k => XS.iconst X13.here hx rfl (hb hby at_127) k) ?_
            refine Go.st (fun t k => XS.goto X13.here hx rfl (pc0 := 128) (pc' := 132) rfl (hb hby at_128) (by decide) (by decide) k) ?_
            obtain ⟨fs, hr, hrun, hended, hW, hsame⟩ := X13.leave (v := some (.int (1 : Int32))) (fun h => by rw [Bd.returns] at h; cases h)
            refine Go.fin (retN X13 hx (t := .boolean) Bd.returns (by simp) (hb hby at_132) hr) hrun hended ⟨_, _, rfl, ?_, ⟨_, rfl⟩, hW, hsame.mono (by decide) (by decide)⟩
            show Q0 Z q1 p2 w__VALUES k_v w_STANDARD w_BLOCKED h0 n0 _ T13.heap _
            rw [e13]
            exact ⟨rfl, N13⟩
          · refine Go.st (fun t k => XS.ifYes X0.here hx rfl (pc0 := 103) (pc' := 114) rfl (hb hby at_103) rfl ((if0 _ _).trans (feq (fun z => hc11 ((lw_eq (q1 &&& (7 : Int64)) (3 : Int64)).mp z))).2) (by decide) (by decide) k) ?_
            show Go _ _ _ (s₁.setTop (mkF m 114 #[.val (.long q1), .second, .val (.int p2), .val (.int (p2 &&& (7 : Int32))), .val (.long (q1 &&& (7 : Int64))), .second, .unset] [])) _
            refine Go.st (fun t k => XS.aconstNull X0.here hx rfl (hb hby at_114) k) ?_
            refine Go.st (fun t k => XS.astore X0.here hx rfl (hb hby at_115) rfl rfl (l' := #[.val (.long q1), .second, .val (.int p2), .val (.int (p2 &&& (7 : Int32))), .val (.long (q1 &&& (7 : Int64))), .second, .val .null]) rfl k) ?_
            refine Go.st (fun t k => XS.lload X0.here hx rfl (hb hby at_117) rfl k) ?_
            obtain ⟨_, _, ⟨T14, L14, k14, n14⟩, -, X14, ⟨Lc14, hQ14, l14, y14, z14⟩, st14⟩ := Jvm.LawKit.callS X0 hx (y := (⟨"com/example/gloom/gloom/hashing/Layout", "fromCode", "(J)Lcom/example/gloom/gloom/hashing/Layout;"⟩ : MethodName)) hown (mvT hZ (wd5 hw)) (mvT hZ (wd6 hw)) (mvT hZ (wd3 hw)) (mvT hZ (wd7 hw)) (by decide) (backOf (W := 0) (rm1 l Z a0 hw [] (q1 &&& (7 : Int64)) w__VALUES k_v w_STANDARD w_BLOCKED h0 n0 Z0 S__VALUES E_VALS V_VALS E_w_STANDARD F_w_STANDARD_code E_w_BLOCKED F_w_BLOCKED_code) hZ (wd7 hw) (wd3 hw) (by decide) (by decide)) (g := (mkF m 119 #[.val (.long q1), .second, .val (.int p2), .val (.int (p2 &&& (7 : Int32))), .val (.long (q1 &&& (7 : Int64))), .second, .val .null] [(.long (q1 &&& (7 : Int64)))])) rfl (by rw [hml]; rfl) (argsL := [(.long (q1 &&& (7 : Int64)))]) (rest := []) (lenOf pd1 rfl) rfl (by show 2 * 0 + _ ≤ _; exact Nat.le_of_eq rfl) (hb hby at_119) (fun _ _ => ⟨rfl, e0, (by decide : 0 + 1 ≤ _), (by decide : 0 + 2 ≤ _)⟩)
            dsimp only [Pt.U, Pt.locs, Pt.cells, Pt.slots] at X14 l14 y14 z14 st14 hQ14
            subst l14 y14 z14
            refine Go.st st14 ?_
            obtain ⟨h14, e14⟩ : ∃ z, T14.heap = z := ⟨_, rfl⟩
            rw [e14] at hQ14
            obtain ⟨rfl, N14q, K14⟩ := hQ14
            replace S__VALUES := sta_keep S__VALUES K14 all0
            replace E_VALS := E_VALS.keep K14
            replace V_VALS := V_VALS.keep K14 nin0
            replace E_w_STANDARD := E_w_STANDARD.keep K14
            replace F_w_STANDARD_code := F_w_STANDARD_code.keep K14 nin0
            replace E_w_BLOCKED := E_w_BLOCKED.keep K14
            replace F_w_BLOCKED_code := F_w_BLOCKED_code.keep K14 nin0
            replace S_STANDARD := sta_keep S_STANDARD K14 all0
            replace S_BLOCKED := sta_keep S_BLOCKED K14 all0
            replace Z0 := Nat.le_trans Z0 K14.1
            replace K0 := K0.trans K14 all0
            have N14 := Fr.app N0 N14q
            show Go _ _ _ (T14.setTop (mkF m 122 #[.val (.long q1), .second, .val (.int p2), .val (.int (p2 &&& (7 : Int32))), .val (.long (q1 &&& (7 : Int64))), .second, .val .null] [(f1 (q1 &&& (7 : Int64)) w_STANDARD w_BLOCKED)])) _
            rw [show (f1 (q1 &&& (7 : Int64)) w_STANDARD w_BLOCKED) = (.null : Value) from by unfold f1; simp only [if_neg (show ¬ ((1 : Int64) = (q1 &&& (7 : Int64))) from fun z => hc8 z.symm), if_neg (show ¬ ((3 : Int64) = (q1 &&& (7 : Int64))) from fun z => hc11 z.symm), if_true, if_false]]
            show Go _ _ _ (T14.setTop (mkF m 122 #[.val (.long q1), .second, .val (.int p2), .val (.int (p2 &&& (7 : Int32))), .val (.long (q1 &&& (7 : Int64))), .second, .val .null] [.null])) _
            refine Go.st (fun t k => XS.aload X14.here hx rfl (hb hby at_122) rfl rfl k) ?_
            refine Go.st (fun t k => Jvm.RoadKit.acmp (g := (mkF m 124 #[.val (.long q1), .second, .val (.int p2), .val (.int (p2 &&& (7 : Int32))), .val (.long (q1 &&& (7 : Int64))), .second, .val .null] [.null, .null])) X14 hx rfl rfl rfl (pc0 := 124) (pc' := 127) (same := true) rfl (hb hby at_124) rfl (decide_eq_true rfl) (by decide) (by decide) k) ?_
            show Go _ _ _ (T14.setTop (mkF m 127 #[.val (.long q1), .second, .val (.int p2), .val (.int (p2 &&& (7 : Int32))), .val (.long (q1 &&& (7 : Int64))), .second, .val .null] [])) _
            refine Go.st (fun t k => XS.iconst X14.here hx rfl (hb hby at_127) k) ?_
            refine Go.st (fun t k => XS.goto X14.here hx rfl (pc0 := 128) (pc' := 132) rfl (hb hby at_128) (by decide) (by decide) k) ?_
            obtain ⟨fs, hr, hrun, hended, hW, hsame⟩ := X14.leave (v := some (.int (1 : Int32))) (fun h => by rw [Bd.returns] at h; cases h)
            refine Go.fin (retN X14 hx (t := .boolean) Bd.returns (by simp) (hb hby at_132) hr) hrun hended ⟨_, _, rfl, ?_, ⟨_, rfl⟩, hW, hsame.mono (by decide) (by decide)⟩
            show Q0 Z q1 p2 w__VALUES k_v w_STANDARD w_BLOCKED h0 n0 _ T14.heap _
            rw [e14]
            exact ⟨rfl, N14⟩
      · refine Go.st (fun t k => XS.icmpYes X0.here hx rfl (pc0 := 30) (pc' := 43) rfl (hb hby at_30) rfl (feq hc7).2 (by decide) (by decide) k) ?_
        show Go _ _ _ (s₁.setTop (mkF m 43 #[.val (.long q1), .second, .val (.int p2), .val (.int (p2 &&& (7 : Int32))), .unset, .unset, .unset] [])) _
        refine Go.st (fun t k => XS.iloadN X0.here hx rfl (hb hby at_43) rfl k) ?_
        refine Go.st (fun t k => XS.iconst X0.here hx rfl (hb hby at_44) k) ?_
        by_cases hc15 : (p2 &&& (7 : Int32)) = (3 : Int32)
        · refine Go.st (fun t k => XS.icmpNo X0.here hx rfl (hb hby at_45) rfl (teq hc15).2 k) ?_
          show Go _ _ _ (s₁.setTop (mkF m 48 #[.val (.long q1), .second, .val (.int p2), .val (.int (p2 &&& (7 : Int32))), .unset, .unset, .unset] [])) _
          refine Go.st (fun t k => XS.lloadN X0.here hx rfl (hb hby at_48) rfl k) ?_
          refine Go.st (fun t k => XS.bipush X0.here hx rfl (hb hby at_49) k) ?_
          refine Go.st (fun t k => XS.lshl X0.here hx rfl (hb hby at_51) rfl k) ?_
          show Go _ _ _ (s₁.setTop (mkF m 52 #[.val (.long q1), .second, .val (.int p2), .val (.int (p2 &&& (7 : Int32))), .unset, .unset, .unset] [(.long (q1 <<< ((32 : Int32) &&& 0x3f).toInt64))])) _
          refine Go.st (fun t k => XS.lloadN X0.here hx rfl (hb hby at_52) rfl k) ?_
          refine Go.st (fun t k => X0.ldc2Long hx hown (mvT hZ (wd1 hw)) (g := (mkF m 53 #[.val (.long q1), .second, .val (.int p2), .val (.int (p2 &&& (7 : Int32))), .unset, .unset, .unset] [(.long q1), (.long (q1 <<< ((32 : Int32) &&& 0x3f).toInt64))])) rfl (hb hby at_53) _ k) ?_
          show Go _ _ _ (s₁.setTop (mkF m 56 #[.val (.long q1), .second, .val (.int p2), .val (.int (p2 &&& (7 : Int32))), .unset, .unset, .unset] [(.long 3), (.long q1), (.long (q1 <<< ((32 : Int32) &&& 0x3f).toInt64))])) _
          refine Go.st (fun t k => XS.land X0.here hx rfl (hb hby at_56) rfl k) ?_
          show Go _ _ _ (s₁.setTop (mkF m 57 #[.val (.long q1), .second, .val (.int p2), .val (.int (p2 &&& (7 : Int32))), .unset, .unset, .unset] [(.long (q1 &&& (3 : Int64))), (.long (q1 <<< ((32 : Int32) &&& 0x3f).toInt64))])) _
          refine Go.st (fun t k => XS.lor X0.here hx rfl (hb hby at_57) rfl k) ?_
          show Go _ _ _ (s₁.setTop (mkF m 58 #[.val (.long q1), .second, .val (.int p2), .val (.int (p2 &&& (7 : Int32))), .unset, .unset, .unset] [(.long ((q1 <<< ((32 : Int32) &&& 0x3f).toInt64) ||| (q1 &&& (3 : Int64))))])) _
          refine Go.st (fun t k => XS.lstore X0.here hx rfl (hb hby at_58) rfl (l' := #[.val (.long q1), .second, .val (.int p2), .val (.int (p2 &&& (7 : Int32))), .val (.long ((q1 <<< ((32 : Int32) &&& 0x3f).toInt64) ||| (q1 &&& (3 : Int64)))), .second, .unset]) rfl k) ?_
          refine Go.st (fun t k => XS.goto X0.here hx rfl (pc0 := 60) (pc' := 82) rfl (hb hby at_60) (by decide) (by decide) k) ?_
          refine Go.st (fun t k => XS.lload X0.here hx rfl (hb hby at_82) rfl k) ?_
          refine Go.st (fun t k => XS.lconst X0.here hx rfl (hb hby at_84) k) ?_
          refine Go.st (fun t k => XS.lcmp X0.here hx rfl (hb hby at_85) rfl k) ?_
          show Go _ _ _ (s₁.setTop (mkF m 86 #[.val (.long q1), .second, .val (.int p2), .val (.int (p2 &&& (7 : Int32))), .val (.long ((q1 <<< ((32 : Int32) &&& 0x3f).toInt64) ||| (q1 &&& (3 : Int64)))), .second, .unset] [(.int (lcmpW ((q1 <<< ((32 : Int32) &&& 0x3f).toInt64) ||| (q1 &&& (3 : Int64))) (1 : Int64)))])) _
          by_cases hc16 : ((q1 <<< ((32 : Int32) &&& 0x3f).toInt64) ||| (q1 &&& (3 : Int64))) = (1 : Int64)
          · refine Go.st (fun t k => XS.ifNo X0.here hx rfl (hb hby at_86) rfl ((if0 _ _).trans (teq ((lw_eq ((q1 <<< ((32 : Int32) &&& 0x3f).toInt64) ||| (q1 &&& (3 : Int64))) (1 : Int64)).mpr hc16)).2) k) ?_
            show Go _ _ _ (s₁.setTop (mkF m 89 #[.val (.long q1), .second, .val (.int p2), .val (.int (p2 &&& (7 : Int32))), .val (.long ((q1 <<< ((32 : Int32) &&& 0x3f).toInt64) ||| (q1 &&& (3 : Int64)))), .second, .unset] [])) _
            obtain ⟨T17, X17, e17, st17⟩ := getS2 X0 hx hZ hown (host := "") (Or.inl (wd26 hw)) Via.refl e0 S_STANDARD (g := (mkF m 89 #[.val (.long q1), .second, .val (.int p2), .val (.int (p2 &&& (7 : Int32))), .val (.long ((q1 <<< ((32 : Int32) &&& 0x3f).toInt64) ||| (q1 &&& (3 : Int64)))), .second, .unset] [])) rfl (hb hby at_89)
            refine Go.st st17 ?_
            show Go _ _ _ (T17.setTop (mkF m 92 #[.val (.long q1), .second, .val (.int p2), .val (.int (p2 &&& (7 : Int32))), .val (.long ((q1 <<< ((32 : Int32) &&& 0x3f).toInt64) ||| (q1 &&& (3 : Int64)))), .second, .unset] [(.ref w_STANDARD)])) _
            refine Go.st (fun t k => XS.astore X17.here hx rfl (hb hby at_92) rfl rfl (l' := #[.val (.long q1), .second, .val (.int p2), .val (.int (p2 &&& (7 : Int32))), .val (.long ((q1 <<< ((32 : Int32) &&& 0x3f).toInt64) ||| (q1 &&& (3 : Int64)))), .second, .val (.ref w_STANDARD)]) rfl k) ?_
            refine Go.st (fun t k => XS.goto X17.here hx rfl (pc0 := 94) (pc' := 117) rfl (hb hby at_94) (by decide) (by decide) k) ?_
            refine Go.st (fun t k => XS.lload X17.here hx rfl (hb hby at_117) rfl k) ?_
            obtain ⟨_, _, ⟨T18, L18, k18, n18⟩, -, X18, ⟨Lc18, hQ18, l18, y18, z18⟩, st18⟩ := Jvm.LawKit.callS X17 hx (y := (⟨"com/example/gloom/gloom/hashing/Layout", "fromCode", "(J)Lcom/example/gloom/gloom/hashing/Layout;"⟩ : MethodName)) hown (mvT hZ (wd5 hw)) (mvT hZ (wd6 hw)) (mvT hZ (wd3 hw)) (mvT hZ (wd7 hw)) (by decide) (backOf (W := 0) (rm1 l Z a0 hw [] ((q1 <<< ((32 : Int32) &&& 0x3f).toInt64) ||| (q1 &&& (3 : Int64))) w__VALUES k_v w_STANDARD w_BLOCKED h0 n0 Z0 S__VALUES E_VALS V_VALS E_w_STANDARD F_w_STANDARD_code E_w_BLOCKED F_w_BLOCKED_code) hZ (wd7 hw) (wd3 hw) (by decide) (by decide)) (g := (mkF m 119 #[.val (.long q1), .second, .val (.int p2), .val (.int (p2 &&& (7 : Int32))), .val (.long ((q1 <<< ((32 : Int32) &&& 0x3f).toInt64) ||| (q1 &&& (3 : Int64)))), .second, .val (.ref w_STANDARD)] [(.long ((q1 <<< ((32 : Int32) &&& 0x3f).toInt64) ||| (q1 &&& (3 : Int64))))])) rfl (by rw [hml]; rfl) (argsL := [(.long ((q1 <<< ((32 : Int32) &&& 0x3f).toInt64) ||| (q1 &&& (3 : Int64))))]) (rest := []) (lenOf pd1 rfl) rfl (by show 2 * 0 + _ ≤ _; exact Nat.le_of_eq rfl) (hb hby at_119) (fun _ _ => ⟨rfl, e17, (by decide : 0 + 1 ≤ _), (by decide : 0 + 2 ≤ _)⟩)
            dsimp only [Pt.U, Pt.locs, Pt.cells, Pt.slots] at X18 l18 y18 z18 st18 hQ18
            subst l18 y18 z18
            refine Go.st st18 ?_
            obtain ⟨h18, e18⟩ : ∃ z, T18.heap = z := ⟨_, rfl⟩
            rw [e18] at hQ18
            obtain ⟨rfl, N18q, K18⟩ := hQ18
            replace S__VALUES := sta_keep S__VALUES K18 all0
            replace E_VALS := E_VALS.keep K18
            replace V_VALS := V_VALS.keep K18 nin0
            replace E_w_STANDARD := E_w_STANDARD.keep K18
            replace F_w_STANDARD_code := F_w_STANDARD_code.keep K18 nin0
            replace E_w_BLOCKED := E_w_BLOCKED.keep K18
            replace F_w_BLOCKED_code := F_w_BLOCKED_code.keep K18 nin0
            replace S_STANDARD := sta_keep S_STANDARD K18 all0
            replace S_BLOCKED := sta_keep S_BLOCKED K18 all0
            replace Z0 := Nat.le_trans Z0 K18.1
            replace K0 := K0.trans K18 all0
            have N18 := Fr.app N0 N18q
            show Go _ _ _ (T18.setTop (mkF m 122 #[.val (.long q1), .second, .val (.int p2), .val (.int (p2 &&& (7 : Int32))), .val (.long ((q1 <<< ((32 : Int32) &&& 0x3f).toInt64) ||| (q1 &&& (3 : Int64)))), .second, .val (.ref w_STANDARD)] [(f1 ((q1 <<< ((32 : Int32) &&& 0x3f).toInt64) ||| (q1 &&& (3 : Int64))) w_STANDARD w_BLOCKED)])) _
            rw [show (f1 ((q1 <<< ((32 : Int32) &&& 0x3f).toInt64) ||| (q1 &&& (3 : Int64))) w_STANDARD w_BLOCKED) = ((.ref w_STANDARD) : Value) from by unfold f1; simp only [if_pos (Eq.symm hc16), if_true, if_false]]
            show Go _ _ _ (T18.setTop (mkF m 122 #[.val (.long q1), .second, .val (.int p2), .val (.int (p2 &&& (7 : Int32))), .val (.long ((q1 <<< ((32 : Int32) &&& 0x3f).toInt64) ||| (q1 &&& (3 : Int64)))), .second, .val (.ref w_STANDARD)] [(.ref w_STANDARD)])) _
            refine Go.st (fun t k => XS.aload X18.here hx rfl (hb hby at_122) rfl rfl k) ?_
            refine Go.st (fun t k => Jvm.RoadKit.acmp (g := (mkF m 124 #[.val (.long q1), .second, .val (.int p2), .val (.int (p2 &&& (7 : Int32))), .val (.long ((q1 <<< ((32 : Int32) &&& 0x3f).toInt64) ||| (q1 &&& (3 : Int64)))), .second, .val (.ref w_STANDARD)] [(.ref w_STANDARD), (.ref w_STANDARD)])) X18 hx rfl rfl rfl (pc0 := 124) (pc' := 127) (same := true) rfl (hb hby at_124) rfl (decide_eq_true rfl) (by decide) (by decide) k) ?_
            show Go _ _ _ (T18.setTop (mkF m 127 #[.val (.long q1), .second, .val (.int p2), .val (.int (p2 &&& (7 : Int32))), .val (.long ((q1 <<< ((32 : Int32) &&& 0x3f).toInt64) ||| (q1 &&& (3 : Int64)))), .second, .val (.ref w_STANDARD)] [])) _
            refine Go.st (fun t k => XS.iconst X18.here hx rfl (hb hby at_127) k) ?_
            refine Go.st (fun t k => XS.goto X18.here hx rfl (pc0 := 128) (pc' := 132) rfl (hb hby at_128) (by decide) (by decide) k) ?_
            obtain ⟨fs, hr, hrun, hended, hW, hsame⟩ := X18.leave (v := some (.int (1 : Int32))) (fun h => by rw [Bd.returns] at h; cases h)
            refine Go.fin (retN X18 hx (t := .boolean) Bd.returns (by simp) (hb hby at_132) hr) hrun hended ⟨_, _, rfl, ?_, ⟨_, rfl⟩, hW, hsame.mono (by decide) (by decide)⟩
            show Q0 Z q1 p2 w__VALUES k_v w_STANDARD w_BLOCKED h0 n0 _ T18.heap _
            rw [e18]
            exact ⟨rfl, N18⟩
          · refine Go.st (fun t k => XS.ifYes X0.here hx rfl (pc0 := 86) (pc' := 97) rfl (hb hby at_86) rfl ((if0 _ _).trans (feq (fun z => hc16 ((lw_eq ((q1 <<< ((32 : Int32) &&& 0x3f).toInt64) ||| (q1 &&& (3 : Int64))) (1 : Int64)).mp z))).2) (by decide) (by decide) k) ?_
            show Go _ _ _ (s₁.setTop (mkF m 97 #[.val (.long q1), .second, .val (.int p2), .val (.int (p2 &&& (7 : Int32))), .val (.long ((q1 <<< ((32 : Int32) &&& 0x3f).toInt64) ||| (q1 &&& (3 : Int64)))), .second, .unset] [])) _
            refine Go.st (fun t k => XS.lload X0.here hx rfl (hb hby at_97) rfl k) ?_
            refine Go.st (fun t k => X0.ldc2Long hx hown (mvT hZ (wd1 hw)) (g := (mkF m 99 #[.val (.long q1), .second, .val (.int p2), .val (.int (p2 &&& (7 : Int32))), .val (.long ((q1 <<< ((32 : Int32) &&& 0x3f).toInt64) ||| (q1 &&& (3 : Int64)))), .second, .unset] [(.long ((q1 <<< ((32 : Int32) &&& 0x3f).toInt64) ||| (q1 &&& (3 : Int64))))])) rfl (hb hby at_99) _ k) ?_
            show Go _ _ _ (s₁.setTop (mkF m 102 #[.val (.long q1), .second, .val (.int p2), .val (.int (p2 &&& (7 : Int32))), .val (.long ((q1 <<< ((32 : Int32) &&& 0x3f).toInt64) ||| (q1 &&& (3 : Int64)))), .second, .unset] [(.long 3), (.long ((q1 <<< ((32 : Int32) &&& 0x3f).toInt64) ||| (q1 &&& (3 : Int64))))])) _
            refine Go.st (fun t k => XS.lcmp X0.here hx rfl (hb hby at_102) rfl k) ?_
            show Go _ _ _ (s₁.setTop (mkF m 103 #[.val (.long q1), .second, .val (.int p2), .val (.int (p2 &&& (7 : Int32))), .val (.long ((q1 <<< ((32 : Int32) &&& 0x3f).toInt64) ||| (q1 &&& (3 : Int64)))), .second, .unset] [(.int (lcmpW ((q1 <<< ((32 : Int32) &&& 0x3f).toInt64) ||| (q1 &&& (3 : Int64))) (3 : Int64)))])) _
            by_cases hc19 : ((q1 <<< ((32 : Int32) &&& 0x3f).toInt64) ||| (q1 &&& (3 : Int64))) = (3 : Int64)
            · refine Go.st (fun t k => XS.ifNo X0.here hx rfl (hb hby at_103) rfl ((if0 _ _).trans (teq ((lw_eq ((q1 <<< ((32 : Int32) &&& 0x3f).toInt64) ||| (q1 &&& (3 : Int64))) (3 : Int64)).mpr hc19)).2) k) ?_
              show Go _ _ _ (s₁.setTop (mkF m 106 #[.val (.long q1), .second, .val (.int p2), .val (.int (p2 &&& (7 : Int32))), .val (.long ((q1 <<< ((32 : Int32) &&& 0x3f).toInt64) ||| (q1 &&& (3 : Int64)))), .second, .unset] [])) _
              obtain ⟨T20, X20, e20, st20⟩ := getS2 X0 hx hZ hown (host := "") (Or.inl (wd2 hw)) Via.refl e0 S_BLOCKED (g := (mkF m 106 #[.val (.long q1), .second, .val (.int p2), .val (.int (p2 &&& (7 : Int32))), .val (.long ((q1 <<< ((32 : Int32) &&& 0x3f).toInt64) ||| (q1 &&& (3 : Int64)))), .second, .unset] [])) rfl (hb hby at_106)
              refine Go.st st20 ?_
              show Go _ _ _ (T20.setTop (mkF m 109 #[.val (.long q1), .second, .val (.int p2), .val (.int (p2 &&& (7 : Int32))), .val (.long ((q1 <<< ((32 : Int32) &&& 0x3f).toInt64) ||| (q1 &&& (3 : Int64)))), .second, .unset] [(.ref w_BLOCKED)])) _
              refine Go.st (fun t k => XS.astore X20.here hx rfl (hb hby at_109) rfl rfl (l' := #[.val (.long q1), .second, .val (.int p2), .val (.int (p2 &&& (7 : Int32))), .val (.long ((q1 <<< ((32 : Int32) &&& 0x3f).toInt64) ||| (q1 &&& (3 : Int64)))), .second, .val (.ref w_BLOCKED)]) rfl k) ?_
              refine Go.st (fun t k => XS.goto X20.here hx rfl (pc0 := 111) (pc' := 117) rfl (hb hby at_111) (by decide) (by decide) k) ?_
              refine Go.st (fun t k => XS.lload X20.here hx rfl (hb hby at_117) rfl k) ?_
              obtain ⟨_, _, ⟨T21, L21, k21, n21⟩, -, X21, ⟨Lc21, hQ21, l21, y21, z21⟩, st21⟩ := Jvm.LawKit.callS X20 hx (y := (⟨"com/example/gloom/gloom/hashing/Layout", "fromCode", "(J)Lcom/example/gloom/gloom/hashing/Layout;"⟩ : MethodName)) hown (mvT hZ (wd5 hw)) (mvT hZ (wd6 hw)) (mvT hZ (wd3 hw)) (mvT hZ (wd7 hw)) (by decide) (backOf (W := 0) (rm1 l Z a0 hw [] ((q1 <<< ((32 : Int32) &&& 0x3f).toInt64) ||| (q1 &&& (3 : Int64))) w__VALUES k_v w_STANDARD w_BLOCKED h0 n0 Z0 S__VALUES E_VALS V_VALS E_w_STANDARD F_w_STANDARD_code E_w_BLOCKED F_w_BLOCKED_code) hZ (wd7 hw) (wd3 hw) (by decide) (by decide)) (g := (mkF m 119 #[.val (.long q1), .second, .val (.int p2), .val (.int (p2 &&& (7 : Int32))), .val (.long ((q1 <<< ((32 : Int32) &&& 0x3f).toInt64) ||| (q1 &&& (3 : Int64)))), .second, .val (.ref w_BLOCKED)] [(.long ((q1 <<< ((32 : Int32) &&& 0x3f).toInt64) ||| (q1 &&& (3 : Int64))))])) rfl (by rw [hml]; rfl) (argsL := [(.long ((q1 <<< ((32 : Int32) &&& 0x3f).toInt64) ||| (q1 &&& (3 : Int64))))]) (rest := []) (lenOf pd1 rfl) rfl (by show 2 * 0 + _ ≤ _; exact Nat.le_of_eq rfl) (hb hby at_119) (fun _ _ => ⟨rfl, e20, (by decide : 0 + 1 ≤ _), (by decide : 0 + 2 ≤ _)⟩)
              dsimp only [Pt.U, Pt.locs, Pt.cells, Pt.slots] at X21 l21 y21 z21 st21 hQ21
              subst l21 y21 z21
              refine Go.st st21 ?_
              obtain ⟨h21, e21⟩ : ∃ z, T21.heap = z := ⟨_, rfl⟩
              rw [e21] at hQ21
              obtain ⟨rfl, N21q, K21⟩ := hQ21
              replace S__VALUES := sta_keep S__VALUES K21 all0
              replace E_VALS := E_VALS.keep K21
              replace V_VALS := V_VALS.keep K21 nin0
              replace E_w_STANDARD := E_w_STANDARD.keep K21
              replace F_w_STANDARD_code := F_w_STANDARD_code.keep K21 nin0
              replace E_w_BLOCKED := E_w_BLOCKED.keep K21
              replace F_w_BLOCKED_code := F_w_BLOCKED_code.keep K21 nin0
              replace S_STANDARD := sta_keep S_STANDARD K21 all0
              replace S_BLOCKED := sta_keep S_BLOCKED K21 all0
              replace Z0 := Nat.le_trans Z0 K21.1
              replace K0 := K0.trans K21 all0
              have N21 := Fr.app N0 N21q
              show Go _ _ _ (T21.setTop (mkF m 122 #[.val (.long q1), .second, .val (.int p2), .val (.int (p2 &&& (7 : Int32))), .val (.long ((q1 <<< ((32 : Int32) &&& 0x3f).toInt64) ||| (q1 &&& (3 : Int64)))), .second, .val (.ref w_BLOCKED)] [(f1 ((q1 <<< ((32 : Int32) &&& 0x3f).toInt64) ||| (q1 &&& (3 : Int64))) w_STANDARD w_BLOCKED)])) _
              rw [show (f1 ((q1 <<< ((32 : Int32) &&& 0x3f).toInt64) ||| (q1 &&& (3 : Int64))) w_STANDARD w_BLOCKED) = ((.ref w_BLOCKED) : Value) from by unfold f1; simp only [if_neg (show ¬ ((1 : Int64) = ((q1 <<< ((32 : Int32) &&& 0x3f).toInt64) ||| (q1 &&& (3 : Int64)))) from fun z => hc16 z.symm), if_pos (Eq.symm hc19), if_true, if_false]]
              show Go _ _ _ (T21.setTop (mkF m 122 #[.val (.long q1), .second, .val (.int p2), .val (.int (p2 &&& (7 : Int32))), .val (.long ((q1 <<< ((32 : Int32) &&& 0x3f).toInt64) ||| (q1 &&& (3 : Int64)))), .second, .val (.ref w_BLOCKED)] [(.ref w_BLOCKED)])) _
              refine Go.st (fun t k => XS.aload X21.here hx rfl (hb hby at_122) rfl rfl k) ?_
              refine Go.st (fun t k => Jvm.RoadKit.acmp (g := (mkF m 124 #[.val (.long q1), .second, .val (.int p2), .val (.int (p2 &&& (7 : Int32))), .val (.long ((q1 <<< ((32 : Int32) &&& 0x3f).toInt64) ||| (q1 &&& (3 : Int64)))), .second, .val (.ref w_BLOCKED)] [(.ref w_BLOCKED), (.ref w_BLOCKED)])) X21 hx rfl rfl rfl (pc0 := 124) (pc' := 127) (same := true) rfl (hb hby at_124) rfl (decide_eq_true rfl) (by decide) (by decide) k) ?_
              show Go _ _ _ (T21.setTop (mkF m 127 #[.val (.long q1), .second, .val (.int p2), .val (.int (p2 &&& (7 : Int32))), .val (.long ((q1 <<< ((32 : Int32) &&& 0x3f).toInt64) ||| (q1 &&& (3 : Int64)))), .second, .val (.ref w_BLOCKED)] [])) _
              refine Go.st (fun t k => XS.iconst X21.here hx rfl (hb hby at_127) k) ?_
              refine Go.st (fun t k => XS.goto X21.here hx rfl (pc0 := 128) (pc' := 132) rfl (hb hby at_128) (by decide) (by decide) k) ?_
              obtain ⟨fs, hr, hrun, hended, hW, hsame⟩ := X21.leave (v := some (.int (1 : Int32))) (fun h => by rw [Bd.returns] at h; cases h)
              refine Go.fin (retN X21 hx (t := .boolean) Bd.returns (by simp) (hb hby at_132) hr) hrun hended ⟨_, _, rfl, ?_, ⟨_, rfl⟩, hW, hsame.mono (by decide) (by decide)⟩
              show Q0 Z q1 p2 w__VALUES k_v w_STANDARD w_BLOCKED h0 n0 _ T21.heap _
              rw [e21]
              exact ⟨rfl, N21⟩
            · refine Go.st (fun t k => XS.ifYes X0.here hx rfl (pc0 := 103) (pc' := 114) rfl (hb hby at_103) rfl ((if0 _ _).trans (feq (fun z => hc19 ((lw_eq ((q1 <<< ((32 : Int32) &&& 0x3f).toInt64) ||| (q1 &&& (3 : Int64))) (3 : Int64)).mp z))).2) (by decide) (by decide) k) ?_
              show Go _ _ _ (s₁.setTop (mkF m 114 #[.val (.long q1), .second, .val (.int p2), .val (.int (p2 &&& (7 : Int32))), .val (.long ((q1 <<< ((32 : Int32) &&& 0x3f).toInt64) ||| (q1 &&& (3 : Int64)))), .second, .unset] [])) _
              refine Go.st (fun t k => XS.aconstNull X0.here hx rfl (hb hby at_114) k) ?_
              refine Go.st (fun t k => XS.astore X0.here hx rfl (hb hby at_115) rfl rfl (l' := #[.val (.long q1), .second, .val (.int p2), .val (.int (p2 &&& (7 : Int32))), .val (.long ((q1 <<< ((32 : Int32) &&& 0x3f).toInt64) ||| (q1 &&& (3 : Int64)))), .second, .val .null]) rfl k) ?_
              refine Go.st (fun t k => XS.lload X0.here hx rfl (hb hby at_117) rfl k) ?_
              obtain ⟨_, _, ⟨T22, L22, k22, n22⟩, -, X22, ⟨Lc22, hQ22, l22, y22, z22⟩, st22⟩ := Jvm.LawKit.callS X0 hx (y := (⟨"com/example/gloom/gloom/hashing/Layout", "fromCode", "(J)Lcom/example/gloom/gloom/hashing/Layout;"⟩ : MethodName)) hown (mvT hZ (wd5 hw)) (mvT hZ (wd6 hw)) (mvT hZ (wd3 hw)) (mvT hZ (wd7 hw)) (by decide) (backOf (W := 0) (rm1 l Z a0 hw [] ((q1 <<< ((32 : Int32) &&& 0x3f).toInt64) ||| (q1 &&& (3 : Int64))) w__VALUES k_v w_STANDARD w_BLOCKED h0 n0 Z0 S__VALUES E_VALS V_VALS E_w_STANDARD F_w_STANDARD_code E_w_BLOCKED F_w_BLOCKED_code) hZ (wd7 hw) (wd3 hw) (by decide) (by decide)) (g := (mkF m 119 #[.val (.long q1), .second, .val (.int p2), .val (.int (p2 &&& (7 : Int32))), .val (.long ((q1 <<< ((32 : Int32) &&& 0x3f).toInt64) ||| (q1 &&& (3 : Int64)))), .second, .val .null] [(.long ((q1 <<< ((32 : Int32) &&& 0x3f).toInt64) ||| (q1 &&& (3 : Int64))))])) rfl (by rw [hml]; rfl) (argsL := [(.long ((q1 <<< ((32 : Int32) &&& 0x3f).toInt64) ||| (q1 &&& (3 : Int64))))]) (rest := []) (lenOf pd1 rfl) rfl (by show 2 * 0 + _ ≤ _; exact Nat.le_of_eq rfl) (hb hby at_119) (fun _ _ => ⟨rfl, e0, (by decide : 0 + 1 ≤ _), (by decide : 0 + 2 ≤ _)⟩)
              dsimp only [Pt.U, Pt.locs, Pt.cells, Pt.slots] at X22 l22 y22 z22 st22 hQ22
              subst l22 y22 z22
              refine Go.st st22 ?_
              obtain ⟨h22, e22⟩ : ∃ z, T22.heap = z := ⟨_, rfl⟩
              rw [e22] at hQ22
              obtain ⟨rfl, N22q, K22⟩ := hQ22
              replace S__VALUES := sta_keep S__VALUES K22 all0
              replace E_VALS := E_VALS.keep K22
              replace V_VALS := V_VALS.keep K22 nin0
              replace E_w_STANDARD := E_w_STANDARD.keep K22
              replace F_w_STANDARD_code := F_w_STANDARD_code.keep K22 nin0
              replace E_w_BLOCKED := E_w_BLOCKED.keep K22
              replace F_w_BLOCKED_code := F_w_BLOCKED_code.keep K22 nin0
              replace S_STANDARD := sta_keep S_STANDARD K22 all0
              replace S_BLOCKED := sta_keep S_BLOCKED K22 all0
              replace Z0 := Nat.le_trans Z0 K22.1
              replace K0 := K0.trans K22 all0
              have N22 := Fr.app N0 N22q
              show Go _ _ _ (T22.setTop (mkF m 122 #[.val (.long q1), .second, .val (.int p2), .val (.int (p2 &&& (7 : Int32))), .val (.long ((q1 <<< ((32 : Int32) &&& 0x3f).toInt64) ||| (q1 &&& (3 : Int64)))), .second, .val .null] [(f1 ((q1 <<< ((32 : Int32) &&& 0x3f).toInt64) ||| (q1 &&& (3 : Int64))) w_STANDARD w_BLOCKED)])) _
              rw [show (f1 ((q1 <<< ((32 : Int32) &&& 0x3f).toInt64) ||| (q1 &&& (3 : Int64))) w_STANDARD w_BLOCKED) = (.null : Value) from by unfold f1; simp only [if_neg (show ¬ ((1 : Int64) = ((q1 <<< ((32 : Int32) &&& 0x3f).toInt64) ||| (q1 &&& (3 : Int64)))) from fun z => hc16 z.symm), if_neg (show ¬ ((3 : Int64) = ((q1 <<< ((32 : Int32) &&& 0x3f).toInt64) ||| (q1 &&& (3 : Int64)))) from fun z => hc19 z.symm), if_true, if_false]]
              show Go _ _ _ (T22.setTop (mkF m 122 #[.val (.long q1), .second, .val (.int p2), .val (.int (p2 &&& (7 : Int32))), .val (.long ((q1 <<< ((32 : Int32) &&& 0x3f).toInt64) ||| (q1 &&& (3 : Int64)))), .second, .val .null] [.null])) _
              refine Go.st (fun t k => XS.aload X22.here hx rfl (hb hby at_122) rfl rfl k) ?_
              refine Go.st (fun t k => Jvm.RoadKit.acmp (g := (mkF m 124 #[.val (.long q1), .second, .val (.int p2), .val (.int (p2 &&& (7 : Int32))), .val (.long ((q1 <<< ((32 : Int32) &&& 0x3f).toInt64) ||| (q1 &&& (3 : Int64)))), .second, .val .null] [.null, .null])) X22 hx rfl rfl rfl (pc0 := 124) (pc' := 127) (same := true) rfl (hb hby at_124) rfl (decide_eq_true rfl) (by decide) (by decide) k) ?_
              show Go _ _ _ (T22.setTop (mkF m 127 #[.val (.long q1), .second, .val (.int p2), .val (.int (p2 &&& (7 : Int32))), .val (.long ((q1 <<< ((32 : Int32) &&& 0x3f).toInt64) ||| (q1 &&& (3 : Int64)))), .second, .val .null] [])) _
              refine Go.st (fun t k => XS.iconst X22.here hx rfl (hb hby at_127) k) ?_
              refine Go.st (fun t k => XS.goto X22.here hx rfl (pc0 := 128) (pc' := 132) rfl (hb hby at_128) (by decide) (by decide) k) ?_
              obtain ⟨fs, hr, hrun, hended, hW, hsame⟩ := X22.leave (v := some (.int (1 : Int32))) (fun h => by rw [Bd.returns] at h; cases h)
              refine Go.fin (retN X22 hx (t := .boolean) Bd.returns (by simp) (hb hby at_132) hr) hrun hended ⟨_, _, rfl, ?_, ⟨_, rfl⟩, hW, hsame.mono (by decide) (by decide)⟩
              show Q0 Z q1 p2 w__VALUES k_v w_STANDARD w_BLOCKED h0 n0 _ T22.heap _
              rw [e22]
              exact ⟨rfl, N22⟩
        · refine Go.st (fun t k => XS.icmpYes X0.here hx rfl (pc0 := 45) (pc' := 63) rfl (hb hby at_45) rfl (feq hc15).2 (by decide) (by decide) k) ?_
          show Go _ _ _ (s₁.setTop (mkF m 63 #[.val (.long q1), .second, .val (.int p2), .val (.int (p2 &&& (7 : Int32))), .unset, .unset, .unset] [])) _
          refine Go.st (fun t k => XS.iloadN X0.here hx rfl (hb hby at_63) rfl k) ?_
          refine Go.st (fun t k => XS.iconst X0.here hx rfl (hb hby at_64) k) ?_
          by_cases hc23 : (p2 &&& (7 : Int32)) = (4 : Int32)
          · refine Go.st (fun t k => XS.icmpNo X0.here hx rfl (hb hby at_65) rfl (teq hc23).2 k) ?_
            show Go _ _ _ (s₁.setTop (mkF m 68 #[.val (.long q1), .second, .val (.int p2), .val (.int (p2 &&& (7 : Int32))), .unset, .unset, .unset] [])) _
            refine Go.st (fun t k => XS.lloadN X0.here hx rfl (hb hby at_68) rfl k) ?_
            refine Go.st (fun t k => X0.ldc2Long hx hown (mvT hZ (wd1 hw)) (g := (mkF m 69 #[.val (.long q1), .second, .val (.int p2), .val (.int (p2 &&& (7 : Int32))), .unset, .unset, .unset] [(.long q1)])) rfl (hb hby at_69) _ k) ?_
            show Go _ _ _ (s₁.setTop (mkF m 72 #[.val (.long q1), .second, .val (.int p2), .val (.int (p2 &&& (7 : Int32))), .unset, .unset, .unset] [(.long 3), (.long q1)])) _
            refine Go.st (fun t k => XS.land X0.here hx rfl (hb hby at_72) rfl k) ?_
            show Go _ _ _ (s₁.setTop (mkF m 73 #[.val (.long q1), .second, .val (.int p2), .val (.int (p2 &&& (7 : Int32))), .unset, .unset, .unset] [(.long (q1 &&& (3 : Int64)))])) _
            refine Go.st (fun t k => XS.lneg X0.here hx rfl (hb hby at_73) rfl k) ?_
            show Go _ _ _ (s₁.setTop (mkF m 74 #[.val (.long q1), .second, .val (.int p2), .val (.int (p2 &&& (7 : Int32))), .unset, .unset, .unset] [(.long (-(q1 &&& (3 : Int64))))])) _
            refine Go.st (fun t k => XS.lstore X0.here hx rfl (hb hby at_74) rfl (l' := #[.val (.long q1), .second, .val (.int p2), .val (.int (p2 &&& (7 : Int32))), .val (.long (-(q1 &&& (3 : Int64)))), .second, .unset]) rfl k) ?_
            refine Go.st (fun t k => XS.goto X0.here hx rfl (pc0 := 76) (pc' := 82) rfl (hb hby at_76) (by decide) (by decide) k) ?_
            refine Go.st (fun t k => XS.lload X0.here hx rfl (hb hby at_82) rfl k) ?_
            refine Go.st (fun t k => XS.lconst X0.here hx rfl (hb hby at_84) k) ?_
            refine Go.st (fun t k => XS.lcmp X0.here hx rfl (hb hby at_85) rfl k) ?_
            show Go _ _ _ (s₁.setTop (mkF m 86 #[.val (.long q1), .second, .val (.int p2), .val (.int (p2 &&& (7 : Int32))), .val (.long (-(q1 &&& (3 : Int64)))), .second, .unset] [(.int (lcmpW (-(q1 &&& (3 : Int64))) (1 : Int64)))])) _
            by_cases hc24 : (-(q1 &&& (3 : Int64))) = (1 : Int64)
            · refine Go.st (fun t k => XS.ifNo X0.here hx rfl (hb hby at_86) rfl ((if0 _ _).trans (teq ((lw_eq (-(q1 &&& (3 : Int64))) (1 : Int64)).mpr hc24)).2) k) ?_
              show Go _ _ _ (s₁.setTop (mkF m 89 #[.val (.long q1), .second, .val (.int p2), .val (.int (p2 &&& (7 : Int32))), .val (.long (-(q1 &&& (3 : Int64)))), .second, .unset] [])) _
              obtain ⟨T25, X25, e25, st25⟩ := getS2 X0 hx hZ hown (host := "") (Or.inl (wd26 hw)) Via.refl e0 S_STANDARD (g := (mkF m 89 #[.val (.long q1), .second, .val (.int p2), .val (.int (p2 &&& (7 : Int32))), .val (.long (-(q1 &&& (3 : Int64)))), .second, .unset] [])) rfl (hb hby at_89)
              refine Go.st st25 ?_
              show Go _ _ _ (T25.setTop (mkF m 92 #[.val (.long q1), .second, .val (.int p2), .val (.int (p2 &&& (7 : Int32))), .val (.long (-(q1 &&& (3 : Int64)))), .second, .unset] [(.ref w_STANDARD)])) _
              refine Go.st (fun t k => XS.astore X25.here hx rfl (hb hby at_92) rfl rfl (l' := #[.val (.long q1), .second, .val (.int p2), .val (.int (p2 &&& (7 : Int32))), .val (.long (-(q1 &&& (3 : Int64)))), .second, .val (.ref w_STANDARD)]) rfl k) ?_
              refine Go.st (fun t k => XS.goto X25.here hx rfl (pc0 := 94) (pc' := 117) rfl (hb hby at_94) (by decide) (by decide) k) ?_
              refine Go.st (fun t k => XS.lload X25.here hx rfl (hb hby at_117) rfl k) ?_
              obtain ⟨_, _, ⟨T26, L26, k26, n26⟩, -, X26, ⟨Lc26, hQ26, l26, y26, z26⟩, st26⟩ := Jvm.LawKit.callS X25 hx (y := (⟨"com/example/gloom/gloom/hashing/Layout", "fromCode", "(J)Lcom/example/gloom/gloom/hashing/Layout;"⟩ : MethodName)) hown (mvT hZ (wd5 hw)) (mvT hZ (wd6 hw)) (mvT hZ (wd3 hw)) (mvT hZ (wd7 hw)) (by decide) (backOf (W := 0) (rm1 l Z a0 hw [] (-(q1 &&& (3 : Int64))) w__VALUES k_v w_STANDARD w_BLOCKED h0 n0 Z0 S__VALUES E_VALS V_VALS E_w_STANDARD F_w_STANDARD_code E_w_BLOCKED F_w_BLOCKED_code) hZ (wd7 hw) (wd3 hw) (by decide) (by decide)) (g := (mkF m 119 #[.val (.long q1), .second, .val (.int p2), .val (.int (p2 &&& (7 : Int32))), .val (.long (-(q1 &&& (3 : Int64)))), .second, .val (.ref w_STANDARD)] [(.long (-(q1 &&& (3 : Int64))))])) rfl (by rw [hml]; rfl) (argsL := [(.long (-(q1 &&& (3 : Int64))))]) (rest := []) (lenOf pd1 rfl) rfl (by show 2 * 0 + _ ≤ _; exact Nat.le_of_eq rfl) (hb hby at_119) (fun _ _ => ⟨rfl, e25, (by decide : 0 + 1 ≤ _), (by decide : 0 + 2 ≤ _)⟩)
              dsimp only [Pt.U, Pt.locs, Pt.cells, Pt.slots] at X26 l26 y26 z26 st26 hQ26
              subst l26 y26 z26
              refine Go.st st26 ?_
              obtain ⟨h26, e26⟩ : ∃ z, T26.heap = z := ⟨_, rfl⟩
              rw [e26] at hQ26
              obtain ⟨rfl, N26q, K26⟩ := hQ26
              replace S__VALUES := sta_keep S__VALUES K26 all0
              replace E_VALS := E_VALS.keep K26
              replace V_VALS := V_VALS.keep K26 nin0
              replace E_w_STANDARD := E_w_STANDARD.keep K26
              replace F_w_STANDARD_code := F_w_STANDARD_code.keep K26 nin0
              replace E_w_BLOCKED := E_w_BLOCKED.keep K26
              replace F_w_BLOCKED_code := F_w_BLOCKED_code.keep K26 nin0
              replace S_STANDARD := sta_keep S_STANDARD K26 all0
              replace S_BLOCKED := sta_keep S_BLOCKED K26 all0
              replace Z0 := Nat.le_trans Z0 K26.1
              replace K0 := K0.trans K26 all0
              have N26 := Fr.app N0 N26q
              show Go _ _ _ (T26.setTop (mkF m 122 #[.val (.long q1), .second, .val (.int p2), .val (.int (p2 &&& (7 : Int32))), .val (.long (-(q1 &&& (3 : Int64)))), .second, .val (.ref w_STANDARD)] [(f1 (-(q1 &&& (3 : Int64))) w_STANDARD w_BLOCKED)])) _
              rw [show (f1 (-(q1 &&& (3 : Int64))) w_STANDARD w_BLOCKED) = ((.ref w_STANDARD) : Value) from by unfold f1; simp only [if_pos (Eq.symm hc24), if_true, if_false]]
              show Go _ _ _ (T26.setTop (mkF m 122 #[.val (.long q1), .second, .val (.int p2), .val (.int (p2 &&& (7 : Int32))), .val (.long (-(q1 &&& (3 : Int64)))), .second, .val (.ref w_STANDARD)] [(.ref w_STANDARD)])) _
              refine Go.st (fun t k => XS.aload X26.here hx rfl (hb hby at_122) rfl rfl k) ?_
              refine Go.st (fun t k => Jvm.RoadKit.acmp (g := (mkF m 124 #[.val (.long q1), .second, .val (.int p2), .val (.int (p2 &&& (7 : Int32))), .val (.long (-(q1 &&& (3 : Int64)))), .second, .val (.ref w_STANDARD)] [(.ref w_STANDARD), (.ref w_STANDARD)])) X26 hx rfl rfl rfl (pc0 := 124) (pc' := 127) (same := true) rfl (hb hby at_124) rfl (decide_eq_true rfl) (by decide) (by decide) k) ?_
              show Go _ _ _ (T26.setTop (mkF m 127 #[.val (.long q1), .second, .val (.int p2), .val (.int (p2 &&& (7 : Int32))), .val (.long (-(q1 &&& (3 : Int64)))), .second, .val (.ref w_STANDARD)] [])) _
              refine Go.st (fun t k => XS.iconst X26.here hx rfl (hb hby at_127) k) ?_
              refine Go.st (fun t k => XS.goto X26.here hx rfl (pc0 := 128) (pc' := 132) rfl (hb hby at_128) (by decide) (by decide) k) ?_
              obtain ⟨fs, hr, hrun, hended, hW, hsame⟩ := X26.leave (v := some (.int (1 : Int32))) (fun h => by rw [Bd.returns] at h; cases h)
              refine Go.fin (retN X26 hx (t := .boolean) Bd.returns (by simp) (hb hby at_132) hr) hrun hended ⟨_, _, rfl, ?_, ⟨_, rfl⟩, hW, hsame.mono (by decide) (by decide)⟩
              show Q0 Z q1 p2 w__VALUES k_v w_STANDARD w_BLOCKED h0 n0 _ T26.heap _
              rw [e26]
              exact ⟨rfl, N26⟩
            · refine Go.st (fun t k => XS.ifYes X0.here hx rfl (pc0 := 86) (pc' := 97) rfl (hb hby at_86) rfl ((if0 _ _).trans (feq (fun z => hc24 ((lw_eq (-(q1 &&& (3 : Int64))) (1 : Int64)).mp z))).2) (by decide) (by decide) k) ?_
              show Go _ _ _ (s₁.setTop (mkF m 97 #[.val (.long q1), .second, .val (.int p2), .val (.int (p2 &&& (7 : Int32))), .val (.long (-(q1 &&& (3 : Int64)))), .second, .unset] [])) _
              refine Go.st (fun t k => XS.lload X0.here hx rfl (hb hby at_97) rfl k) ?_
              refine Go.st (fun t k => X0.ldc2Long hx hown (mvT hZ (wd1 hw)) (g := (mkF m 99 #[.val (.long q1), .second, .val (.int p2), .val (.int (p2 &&& (7 : Int32))), .val (.long (-(q1 &&& (3 : Int64)))), .second, .unset] [(.long (-(q1 &&& (3 : Int64))))])) rfl (hb hby at_99) _ k) ?_
              show Go _ _ _ (s₁.setTop (mkF m 102 #[.val (.long q1), .second, .val (.int p2), .val (.int (p2 &&& (7 : Int32))), .val (.long (-(q1 &&& (3 : Int64)))), .second, .unset] [(.long 3), (.long (-(q1 &&& (3 : Int64))))])) _
              refine Go.st (fun t k => XS.lcmp X0.here hx rfl (hb hby at_102) rfl k) ?_
              show Go _ _ _ (s₁.setTop (mkF m 103 #[.val (.long q1), .second, .val (.int p2), .val (.int (p2 &&& (7 : Int32))), .val (.long (-(q1 &&& (3 : Int64)))), .second, .unset] [(.int (lcmpW (-(q1 &&& (3 : Int64))) (3 : Int64)))])) _
              by_cases hc27 : (-(q1 &&& (3 : Int64))) = (3 : Int64)
              · refine Go.st (fun t k => XS.ifNo X0.here hx rfl (hb hby at_103) rfl ((if0 _ _).trans (teq ((lw_eq (-(q1 &&& (3 : Int64))) (3 : Int64)).mpr hc27)).2) k) ?_
                show Go _ _ _ (s₁.setTop (mkF m 106 #[.val (.long q1), .second, .val (.int p2), .val (.int (p2 &&& (7 : Int32))), .val (.long (-(q1 &&& (3 : Int64)))), .second, .unset] [])) _
                obtain ⟨T28, X28, e28, st28⟩ := getS2 X0 hx hZ hown (host := "") (Or.inl (wd2 hw)) Via.refl e0 S_BLOCKED (g := (mkF m 106 #[.val (.long q1), .second, .val (.int p2), .val (.int (p2 &&& (7 : Int32))), .val (.long (-(q1 &&& (3 : Int64)))), .second, .unset] [])) rfl (hb hby at_106)
                refine Go.st st28 ?_
                show Go _ _ _ (T28.setTop (mkF m 109 #[.val (.long q1), .second, .val (.int p2), .val (.int (p2 &&& (7 : Int32))), .val (.long (-(q1 &&& (3 : Int64)))), .second, .unset] [(.ref w_BLOCKED)])) _
                refine Go.st (fun t k => XS.astore X28.here hx rfl (hb hby at_109) rfl rfl (l' := #[.val (.long q1), .second, .val (.int p2), .val (.int (p2 &&& (7 : Int32))), .val (.long (-(q1 &&& (3 : Int64)))), .second, .val (.ref w_BLOCKED)]) rfl k) ?_
                refine Go.st (fun t k => XS.goto X28.here hx rfl (pc0 := 111) (pc' := 117) rfl (hb hby at_111) (by decide) (by decide) k) ?_
                refine Go.st (fun t k => XS.lload X28.here hx rfl (hb hby at_117) rfl k) ?_
                obtain ⟨_, _, ⟨T29, L29, k29, n29⟩, -, X29, ⟨Lc29, hQ29, l29, y29, z29⟩, st29⟩ := Jvm.LawKit.callS X28 hx (y := (⟨"com/example/gloom/gloom/hashing/Layout", "fromCode", "(J)Lcom/example/gloom/gloom/hashing/Layout;"⟩ : MethodName)) hown (mvT hZ (wd5 hw)) (mvT hZ (wd6 hw)) (mvT hZ (wd3 hw)) (mvT hZ (wd7 hw)) (by decide) (backOf (W := 0) (rm1 l Z a0 hw [] (-(q1 &&& (3 : Int64))) w__VALUES k_v w_STANDARD w_BLOCKED h0 n0 Z0 S__VALUES E_VALS V_VALS E_w_STANDARD F_w_STANDARD_code E_w_BLOCKED F_w_BLOCKED_code) hZ (wd7 hw) (wd3 hw) (by decide) (by decide)) (g := (mkF m 119 #[.val (.long q1), .second, .val (.int p2), .val (.int (p2 &&& (7 : Int32))), .val (.long (-(q1 &&& (3 : Int64)))), .second, .val (.ref w_BLOCKED)] [(.long (-(q1 &&& (3 : Int64))))])) rfl (by rw [hml]; rfl) (argsL := [(.long (-(q1 &&& (3 : Int64))))]) (rest := []) (lenOf pd1 rfl) rfl (by show 2 * 0 + _ ≤ _; exact Nat.le_of_eq rfl) (hb hby at_119) (fun _ _ => ⟨rfl, e28, (by decide : 0 + 1 ≤ _), (by decide : 0 + 2 ≤ _)⟩)
                dsimp only [Pt.U, Pt.locs, Pt.cells, Pt.slots] at X29 l29 y29 z29 st29 hQ29
                subst l29 y29 z29
                refine Go.st st29 ?_
                obtain ⟨h29, e29⟩ : ∃ z, T29.heap = z := ⟨_, rfl⟩
                rw [e29] at hQ29
                obtain ⟨rfl, N29q, K29⟩ := hQ29
                replace S__VALUES := sta_keep S__VALUES K29 all0
                replace E_VALS := E_VALS.keep K29
                replace V_VALS := V_VALS.keep K29 nin0
                replace E_w_STANDARD := E_w_STANDARD.keep K29
                replace F_w_STANDARD_code := F_w_STANDARD_code.keep K29 nin0
                replace E_w_BLOCKED := E_w_BLOCKED.keep K29
                replace F_w_BLOCKED_code := F_w_BLOCKED_code.keep K29 nin0
                replace S_STANDARD := sta_keep S_STANDARD K29 all0
                replace S_BLOCKED := sta_keep S_BLOCKED K29 all0
                replace Z0 := Nat.le_trans Z0 K29.1
                replace K0 := K0.trans K29 all0
                have N29 := Fr.app N0 N29q
                show Go _ _ _ (T29.setTop (mkF m 122 #[.val (.long q1), .second, .val (.int p2), .val (.int (p2 &&& (7 : Int32))), .val (.long (-(q1 &&& (3 : Int64)))), .second, .val (.ref w_BLOCKED)] [(f1 (-(q1 &&& (3 : Int64))) w_STANDARD w_BLOCKED)])) _
                rw [show (f1 (-(q1 &&& (3 : Int64))) w_STANDARD w_BLOCKED) = ((.ref w_BLOCKED) : Value) from by unfold f1; simp only [if_neg (show ¬ ((1 : Int64) = (-(q1 &&& (3 : Int64)))) from fun z => hc24 z.symm), if_pos (Eq.symm hc27), if_true, if_false]]
                show Go _ _ _ (T29.setTop (mkF m 122 #[.val (.long q1), .second, .val (.int p2), .val (.int (p2 &&& (7 : Int32))), .val (.long (-(q1 &&& (3 : Int64)))), .second, .val (.ref w_BLOCKED)] [(.ref w_BLOCKED)])) _
                refine Go.st (fun t k => XS.aload X29.here hx rfl (hb hby at_122) rfl rfl k) ?_
                refine Go.st (fun t k => Jvm.RoadKit.acmp (g := (mkF m 124 #[.val (.long q1), .second, .val (.int p2), .val (.int (p2 &&& (7 : Int32))), .val (.long (-(q1 &&& (3 : Int64)))), .second, .val (.ref w_BLOCKED)] [(.ref w_BLOCKED), (.ref w_BLOCKED)])) X29 hx rfl rfl rfl (pc0 := 124) (pc' := 127) (same := true) rfl (hb hby at_124) rfl (decide_eq_true rfl) (by decide) (by decide) k) ?_
                show Go _ _ _ (T29.setTop (mkF m 127 #[.val (.long q1), .second, .val (.int p2), .val (.int (p2 &&& (7 : Int32))), .val (.long (-(q1 &&& (3 : Int64)))), .second, .val (.ref w_BLOCKED)] [])) _
                refine Go.st (fun t k => XS.iconst X29.here hx rfl (hb hby at_127) k) ?_
                refine Go.st (fun t k => XS.goto X29.here hx rfl (pc0 := 128) (pc' := 132) rfl (hb hby at_128) (by decide) (by decide) k) ?_
                obtain ⟨fs, hr, hrun, hended, hW, hsame⟩ := X29.leave (v := some (.int (1 : Int32))) (fun h => by rw [Bd.returns] at h; cases h)
                refine Go.fin (retN X29 hx (t := .boolean) Bd.returns (by simp) (hb hby at_132) hr) hrun hended ⟨_, _, rfl, ?_, ⟨_, rfl⟩, hW, hsame.mono (by decide) (by decide)⟩
                show Q0 Z q1 p2 w__VALUES k_v w_STANDARD w_BLOCKED h0 n0 _ T29.heap _
                rw [e29]
                exact ⟨rfl, N29⟩
              · refine Go.st (fun t k => XS.ifYes X0.here hx rfl (pc0 := 103) (pc' := 114) rfl (hb hby at_103) rfl ((if0 _ _).trans (feq (fun z => hc27 ((lw_eq (-(q1 &&& (3 : Int64))) (3 : Int64)).mp z))).2) (by decide) (by decide) k) ?_
                show Go _ _ _ (s₁.setTop (mkF m 114 #[.val (.long q1), .second, .val (.int p2), .val (.int (p2 &&& (7 : Int32))), .val (.long (-(q1 &&& (3 : Int64)))), .second, .unset] [])) _
                refine Go.st (fun t k => XS.aconstNull X0.here hx rfl (hb hby at_114) k) ?_
                refine Go.st (fun t k => XS.astore X0.here hx rfl (hb hby at_115) rfl rfl (l' := #[.val (.long q1), .second, .val (.int p2), .val (.int (p2 &&& (7 : Int32))), .val (.long (-(q1 &&& (3 : Int64)))), .second, .val .null]) rfl k) ?_
                refine Go.st (fun t k => XS.lload X0.here hx rfl (hb hby at_117) rfl k) ?_
                obtain ⟨_, _, ⟨T30, L30, k30, n30⟩, -, X30, ⟨Lc30, hQ30, l30, y30, z30⟩, st30⟩ := Jvm.LawKit.callS X0 hx (y := (⟨"com/example/gloom/gloom/hashing/Layout", "fromCode", "(J)Lcom/example/gloom/gloom/hashing/Layout;"⟩ : MethodName)) hown (mvT hZ (wd5 hw)) (mvT hZ (wd6 hw)) (mvT hZ (wd3 hw)) (mvT hZ (wd7 hw)) (by decide) (backOf (W := 0) (rm1 l Z a0 hw [] (-(q1 &&& (3 : Int64))) w__VALUES k_v w_STANDARD w_BLOCKED h0 n0 Z0 S__VALUES E_VALS V_VALS E_w_STANDARD F_w_STANDARD_code E_w_BLOCKED F_w_BLOCKED_code) hZ (wd7 hw) (wd3 hw) (by decide) (by decide)) (g := (mkF m 119 #[.val (.long q1), .second, .val (.int p2), .val (.int (p2 &&& (7 : Int32))), .val (.long (-(q1 &&& (3 : Int64)))), .second, .val .null] [(.long (-(q1 &&& (3 : Int64))))])) rfl (by rw [hml]; rfl) (argsL := [(.long (-(q1 &&& (3 : Int64))))]) (rest := []) (lenOf pd1 rfl) rfl (by show 2 * 0 + _ ≤ _; exact Nat.le_of_eq rfl) (hb hby at_119) (fun _ _ => ⟨rfl, e0, (by decide : 0 + 1 ≤ _), (by decide : 0 + 2 ≤ _)⟩)
                dsimp only [Pt.U, Pt.locs, Pt.cells, Pt.slots] at X30 l30 y30 z30 st30 hQ30
                subst l30 y30 z30
                refine Go.st st30 ?_
                obtain ⟨h30, e30⟩ : ∃ z, T30.heap = z := ⟨_, rfl⟩
                rw [e30] at hQ30
                obtain ⟨rfl, N30q, K30⟩ := hQ30
                replace S__VALUES := sta_keep S__VALUES K30 all0
                replace E_VALS := E_VALS.keep K30
                replace V_VALS := V_VALS.keep K30 nin0
                replace E_w_STANDARD := E_w_STANDARD.keep K30
                replace F_w_STANDARD_code := F_w_STANDARD_code.keep K30 nin0
                replace E_w_BLOCKED := E_w_BLOCKED.keep K30
                replace F_w_BLOCKED_code := F_w_BLOCKED_code.keep K30 nin0
                replace S_STANDARD := sta_keep S_STANDARD K30 all0
                replace S_BLOCKED := sta_keep S_BLOCKED K30 all0
                replace Z0 := Nat.le_trans Z0 K30.1
                replace K0 := K0.trans K30 all0
                have N30 := Fr.app N0 N30q
                show Go _ _ _ (T30.setTop (mkF m 122 #[.val (.long q1), .second, .val (.int p2), .val (.int (p2 &&& (7 : Int32))), .val (.long (-(q1 &&& (3 : Int64)))), .second, .val .null] [(f1 (-(q1 &&& (3 : Int64))) w_STANDARD w_BLOCKED)])) _
                rw [show (f1 (-(q1 &&& (3 : Int64))) w_STANDARD w_BLOCKED) = (.null : Value) from by unfold f1; simp only [if_neg (show ¬ ((1 : Int64) = (-(q1 &&& (3 : Int64)))) from fun z => hc24 z.symm), if_neg (show ¬ ((3 : Int64) = (-(q1 &&& (3 : Int64)))) from fun z => hc27 z.symm), if_true, if_false]]
                show Go _ _ _ (T30.setTop (mkF m 122 #[.val (.long q1), .second, .val (.int p2), .val (.int (p2 &&& (7 : Int32))), .val (.long (-(q1 &&& (3 : Int64)))), .second, .val .null] [.null])) _
                refine Go.st (fun t k => XS.aload X30.here hx rfl (hb hby at_122) rfl rfl k) ?_
                refine Go.st (fun t k => Jvm.RoadKit.acmp (g := (mkF m 124 #[.val (.long q1), .second, .val (.int p2), .val (.int (p2 &&& (7 : Int32))), .val (.long (-(q1 &&& (3 : Int64)))), .second, .val .null] [.null, .null])) X30 hx rfl rfl rfl (pc0 := 124) (pc' := 127) (same := true) rfl (hb hby at_124) rfl (decide_eq_true rfl) (by decide) (by decide) k) ?_
                show Go _ _ _ (T30.setTop (mkF m 127 #[.val (.long q1), .second, .val (.int p2), .val (.int (p2 &&& (7 : Int32))), .val (.long (-(q1 &&& (3 : Int64)))), .second, .val .null] [])) _
                refine Go.st (fun t k => XS.iconst X30.here hx rfl (hb hby at_127) k) ?_
                refine Go.st (fun t k => XS.goto X30.here hx rfl (pc0 := 128) (pc' := 132) rfl (hb hby at_128) (by decide) (by decide) k) ?_
                obtain ⟨fs, hr, hrun, hended, hW, hsame⟩ := X30.leave (v := some (.int (1 : Int32))) (fun h => by rw [Bd.returns] at h; cases h)
                refine Go.fin (retN X30 hx (t := .boolean) Bd.returns (by simp) (hb hby at_132) hr) hrun hended ⟨_, _, rfl, ?_, ⟨_, rfl⟩, hW, hsame.mono (by decide) (by decide)⟩
                show Q0 Z q1 p2 w__VALUES k_v w_STANDARD w_BLOCKED h0 n0 _ T30.heap _
                rw [e30]
                exact ⟨rfl, N30⟩
          · refine Go.st (fun t k => XS.icmpYes X0.here hx rfl (pc0 := 65) (pc' := 79) rfl (hb hby at_65) rfl (feq hc23).2 (by decide) (by decide) k) ?_
            show Go _ _ _ (s₁.setTop (mkF m 79 #[.val (.long q1), .second, .val (.int p2), .val (.int (p2 &&& (7 : Int32))), .unset, .unset, .unset] [])) _
            refine Go.st (fun t k => XS.lloadN X0.here hx rfl (hb hby at_79) rfl k) ?_
            refine Go.st (fun t k => XS.lstore X0.here hx rfl (hb hby at_80) rfl (l' := #[.val (.long q1), .second, .val (.int p2), .val (.int (p2 &&& (7 : Int32))), .val (.long q1), .second, .unset]) rfl k) ?_
            refine Go.st (fun t k => XS.lload X0.here hx rfl (hb hby at_82) rfl k) ?_
            refine Go.st (fun t k => XS.lconst X0.here hx rfl (hb hby at_84) k) ?_
            refine Go.st (fun t k => XS.lcmp X0.here hx rfl (hb hby at_85) rfl k) ?_
            show Go _ _ _ (s₁.setTop (mkF m 86 #[.val (.long q1), .second, .val (.int p2), .val (.int (p2 &&& (7 : Int32))), .val (.long q1), .second, .unset] [(.int (lcmpW q1 (1 : Int64)))])) _
            by_cases hc31 : q1 = (1 : Int64)
            · refine Go.st (fun t k => XS.ifNo X0.here hx rfl (hb hby at_86) rfl ((if0 _ _).trans (teq ((lw_eq q1 (1 : Int64)).mpr hc31)).2) k) ?_
              show Go _ _ _ (s₁.setTop (mkF m 89 #[.val (.long q1), .second, .val (.int p2), .val (.int (p2 &&& (7 : Int32))), .val (.long q1), .second, .unset] [])) _
              obtain ⟨T32, X32, e32, st32⟩ := getS2 X0 hx hZ hown (host := "") (Or.inl (wd26 hw)) Via.refl e0 S_STANDARD (g := (mkF m 89 #[.val (.long q1), .second, .val (.int p2), .val (.int (p2 &&& (7 : Int32))), .val (.long q1), .second, .unset] [])) rfl (hb hby at_89)
              refine Go.st st32 ?_
              show Go _ _ _ (T32.setTop (mkF m 92 #[.val (.long q1), .second, .val (.int p2), .val (.int (p2 &&& (7 : Int32))), .val (.long q1), .second, .unset] [(.ref w_STANDARD)])) _
              refine Go.st (fun t k => XS.astore X32.here hx rfl (hb hby at_92) rfl rfl (l' := #[.val (.long q1), .second, .val (.int p2), .val (.int (p2 &&& (7 : Int32))), .val (.long q1), .second, .val (.ref w_STANDARD)]) rfl k) ?_
              refine Go.st (fun t k => XS.goto X32.here hx rfl (pc0 := 94) (pc' := 117) rfl (hb hby at_94) (by decide) (by decide) k) ?_
              refine Go.st (fun t k => XS.lload X32.here hx rfl (hb hby at_117) rfl k) ?_
              obtain ⟨_, _, ⟨T33, L33, k33, n33⟩, -, X33, ⟨Lc33, hQ33, l33, y33, z33⟩, st33⟩ := Jvm.LawKit.callS X32 hx (y := (⟨"com/example/gloom/gloom/hashing/Layout", "fromCode", "(J)Lcom/example/gloom/gloom/hashing/Layout;"⟩ : MethodName)) hown (mvT hZ (wd5 hw)) (mvT hZ (wd6 hw)) (mvT hZ (wd3 hw)) (mvT hZ (wd7 hw)) (by decide) (backOf (W := 0) (rm1 l Z a0 hw [] q1 w__VALUES k_v w_STANDARD w_BLOCKED h0 n0 Z0 S__VALUES E_VALS V_VALS E_w_STANDARD F_w_STANDARD_code E_w_BLOCKED F_w_BLOCKED_code) hZ (wd7 hw) (wd3 hw) (by decide) (by decide)) (g := (mkF m 119 #[.val (.long q1), .second, .val (.int p2), .val (.int (p2 &&& (7 : Int32))), .val (.long q1), .second, .val (.ref w_STANDARD)] [(.long q1)])) rfl (by rw [hml]; rfl) (argsL := [(.long q1)]) (rest := []) (lenOf pd1 rfl) rfl (by show 2 * 0 + _ ≤ _; exact Nat.le_of_eq rfl) (hb hby at_119) (fun _ _ => ⟨rfl, e32, (by decide : 0 + 1 ≤ _), (by decide : 0 + 2 ≤ _)⟩)
              dsimp only [Pt.U, Pt.locs, Pt.cells, Pt.slots] at X33 l33 y33 z33 st33 hQ33
              subst l33 y33 z33
              refine Go.st st33 ?_
              obtain ⟨h33, e33⟩ : ∃ z, T33.heap = z := ⟨_, rfl⟩
              rw [e33] at hQ33
              obtain ⟨rfl, N33q, K33⟩ := hQ33
              replace S__VALUES := sta_keep S__VALUES K33 all0
              replace E_VALS := E_VALS.keep K33
              replace V_VALS := V_VALS.keep K33 nin0
              replace E_w_STANDARD := E_w_STANDARD.keep K33
              replace F_w_STANDARD_code := F_w_STANDARD_code.keep K33 nin0
              replace E_w_BLOCKED := E_w_BLOCKED.keep K33
              replace F_w_BLOCKED_code := F_w_BLOCKED_code.keep K33 nin0
              replace S_STANDARD := sta_keep S_STANDARD K33 all0
              replace S_BLOCKED := sta_keep S_BLOCKED K33 all0
              replace Z0 := Nat.le_trans Z0 K33.1
              replace K0 := K0.trans K33 all0
              have N33 := Fr.app N0 N33q
              show Go _ _ _ (T33.setTop (mkF m 122 #[.val (.long q1), .second, .val (.int p2), .val (.int (p2 &&& (7 : Int32))), .val (.long q1), .second, .val (.ref w_STANDARD)] [(f1 q1 w_STANDARD w_BLOCKED)])) _
              rw [show (f1 q1 w_STANDARD w_BLOCKED) = ((.ref w_STANDARD) : Value) from by unfold f1; simp only [if_pos (Eq.symm hc31), if_true, if_false]]
              show Go _ _ _ (T33.setTop (mkF m 122 #[.val (.long q1), .second, .val (.int p2), .val (.int (p2 &&& (7 : Int32))), .val (.long q1), .second, .val (.ref w_STANDARD)] [(.ref w_STANDARD)])) _
              refine Go.st (fun t k => XS.aload X33.here hx rfl (hb hby at_122) rfl rfl k) ?_
              refine Go.st (fun t k => Jvm.RoadKit.acmp (g := (mkF m 124 #[.val (.long q1), .second, .val (.int p2), .val (.int (p2 &&& (7 : Int32))), .val (.long q1), .second, .val (.ref w_STANDARD)] [(.ref w_STANDARD), (.ref w_STANDARD)])) X33 hx rfl rfl rfl (pc0 := 124) (pc' := 127) (same := true) rfl (hb hby at_124) rfl (decide_eq_true rfl) (by decide) (by decide) k) ?_
              show Go _ _ _ (T33.setTop (mkF m 127 #[.val (.long q1), .second, .val (.int p2), .val (.int (p2 &&& (7 : Int32))), .val (.long q1), .second, .val (.ref w_STANDARD)] [])) _
              refine Go.st (fun t k => XS.iconst X33.here hx rfl (hb hby at_127) k) ?_
              refine Go.st (fun t k => XS.goto X33.here hx rfl (pc0 := 128) (pc' := 132) rfl (hb hby at_128) (by decide) (by decide) k) ?_
              obtain ⟨fs, hr, hrun, hended, hW, hsame⟩ := X33.leave (v := some (.int (1 : Int32))) (fun h => by rw [Bd.returns] at h; cases h)
              refine Go.fin (retN X33 hx (t := .boolean) Bd.returns (by simp) (hb hby at_132) hr) hrun hended ⟨_, _, rfl, ?_, ⟨_, rfl⟩, hW, hsame.mono (by decide) (by decide)⟩
              show Q0 Z q1 p2 w__VALUES k_v w_STANDARD w_BLOCKED h0 n0 _ T33.heap _
              rw [e33]
              exact ⟨rfl, N33⟩
            · refine Go.st (fun t k => XS.ifYes X0.here hx rfl (pc0 := 86) (pc' := 97) rfl (hb hby at_86) rfl ((if0 _ _).trans (feq (fun z => hc31 ((lw_eq q1 (1 : Int64)).mp z))).2) (by decide) (by decide) k) ?_
              show Go _ _ _ (s₁.setTop (mkF m 97 #[.val (.long q1), .second, .val (.int p2), .val (.int (p2 &&& (7 : Int32))), .val (.long q1), .second, .unset] [])) _
              refine Go.st (fun t k => XS.lload X0.here hx rfl (hb hby at_97) rfl k) ?_
              refine Go.st (fun t k => X0.ldc2Long hx hown (mvT hZ (wd1 hw)) (g := (mkF m 99 #[.val (.long q1), .second, .val (.int p2), .val (.int (p2 &&& (7 : Int32))), .val (.long q1), .second, .unset] [(.long q1)])) rfl (hb hby at_99) _ k) ?_
              show Go _ _ _ (s₁.setTop (mkF m 102 #[.val (.long q1), .second, .val (.int p2), .val (.int (p2 &&& (7 : Int32))), .val (.long q1), .second, .unset] [(.long 3), (.long q1)])) _
              refine Go.st (fun t k => XS.lcmp X0.here hx rfl (hb hby at_102) rfl k) ?_
              show Go _ _ _ (s₁.setTop (mkF m 103 #[.val (.long q1), .second, .val (.int p2), .val (.int (p2 &&& (7 : Int32))), .val (.long q1), .second, .unset] [(.int (lcmpW q1 (3 : Int64)))])) _
              by_cases hc34 : q1 = (3 : Int64)
              · refine Go.st (fun t k => XS.ifNo X0.here hx rfl (hb hby at_103) rfl ((if0 _ _).trans (teq ((lw_eq q1 (3 : Int64)).mpr hc34)).2) k) ?_
                show Go _ _ _ (s₁.setTop (mkF m 106 #[.val (.long q1), .second, .val (.int p2), .val (.int (p2 &&& (7 : Int32))), .val (.long q1), .second, .unset] [])) _
                obtain ⟨T35, X35, e35, st35⟩ := getS2 X0 hx hZ hown (host := "") (Or.inl (wd2 hw)) Via.refl e0 S_BLOCKED (g := (mkF m 106 #[.val (.long q1), .second, .val (.int p2), .val (.int (p2 &&& (7 : Int32))), .val (.long q1), .second, .unset] [])) rfl (hb hby at_106)
                refine Go.st st35 ?_
                show Go _ _ _ (T35.setTop (mkF m 109 #[.val (.long q1), .second, .val (.int p2), .val (.int (p2 &&& (7 : Int32))), .val (.long q1), .second, .unset] [(.ref w_BLOCKED)])) _
                refine Go.st (fun t k => XS.astore X35.here hx rfl (hb hby at_109) rfl rfl (l' := #[.val (.long q1), .second, .val (.int p2), .val (.int (p2 &&& (7 : Int32))), .val (.long q1), .second, .val (.ref w_BLOCKED)]) rfl k) ?_
                refine Go.st (fun t k => XS.goto X35.here hx rfl (pc0 := 111) (pc' := 117) rfl (hb hby at_111) (by decide) (by decide) k) ?_
                refine Go.st (fun t k => XS.lload X35.here hx rfl (hb hby at_117) rfl k) ?_
                obtain ⟨_, _, ⟨T36, L36, k36, n36⟩, -, X36, ⟨Lc36, hQ36, l36, y36, z36⟩, st36⟩ := Jvm.LawKit.callS X35 hx (y := (⟨"com/example/gloom/gloom/hashing/Layout", "fromCode", "(J)Lcom/example/gloom/gloom/hashing/Layout;"⟩ : MethodName)) hown (mvT hZ (wd5 hw)) (mvT hZ (wd6 hw)) (mvT hZ (wd3 hw)) (mvT hZ (wd7 hw)) (by decide) (backOf (W := 0) (rm1 l Z a0 hw [] q1 w__VALUES k_v w_STANDARD w_BLOCKED h0 n0 Z0 S__VALUES E_VALS V_VALS E_w_STANDARD F_w_STANDARD_code E_w_BLOCKED F_w_BLOCKED_code) hZ (wd7 hw) (wd3 hw) (by decide) (by decide)) (g := (mkF m 119 #[.val (.long q1), .second, .val (.int p2), .val (.int (p2 &&& (7 : Int32))), .val (.long q1), .second, .val (.ref w_BLOCKED)] [(.long q1)])) rfl (by rw [hml]; rfl) (argsL := [(.long q1)]) (rest := []) (lenOf pd1 rfl) rfl (by show 2 * 0 + _ ≤ _; exact Nat.le_of_eq rfl) (hb hby at_119) (fun _ _ => ⟨rfl, e35, (by decide : 0 + 1 ≤ _), (by decide : 0 + 2 ≤ _)⟩)
                dsimp only [Pt.U, Pt.locs, Pt.cells, Pt.slots] at X36 l36 y36 z36 st36 hQ36
                subst l36 y36 z36
                refine Go.st st36 ?_
                obtain ⟨h36, e36⟩ : ∃ z, T36.heap = z := ⟨_, rfl⟩
                rw [e36] at hQ36
                obtain ⟨rfl, N36q, K36⟩ := hQ36
                replace S__VALUES := sta_keep S__VALUES K36 all0
                replace E_VALS := E_VALS.keep K36
                replace V_VALS := V_VALS.keep K36 nin0
                replace E_w_STANDARD := E_w_STANDARD.keep K36
                replace F_w_STANDARD_code := F_w_STANDARD_code.keep K36 nin0
                replace E_w_BLOCKED := E_w_BLOCKED.keep K36
                replace F_w_BLOCKED_code := F_w_BLOCKED_code.keep K36 nin0
                replace S_STANDARD := sta_keep S_STANDARD K36 all0
                replace S_BLOCKED := sta_keep S_BLOCKED K36 all0
                replace Z0 := Nat.le_trans Z0 K36.1
                replace K0 := K0.trans K36 all0
                have N36 := Fr.app N0 N36q
                show Go _ _ _ (T36.setTop (mkF m 122 #[.val (.long q1), .second, .val (.int p2), .val (.int (p2 &&& (7 : Int32))), .val (.long q1), .second, .val (.ref w_BLOCKED)] [(f1 q1 w_STANDARD w_BLOCKED)])) _
                rw [show (f1 q1 w_STANDARD w_BLOCKED) = ((.ref w_BLOCKED) : Value) from by unfold f1; simp only [if_neg (show ¬ ((1 : Int64) = q1) from fun z => hc31 z.symm), if_pos (Eq.symm hc34), if_true, if_false]]
                show Go _ _ _ (T36.setTop (mkF m 122 #[.val (.long q1), .second, .val (.int p2), .val (.int (p2 &&& (7 : Int32))), .val (.long q1), .second, .val (.ref w_BLOCKED)] [(.ref w_BLOCKED)])) _
                refine Go.st (fun t k => XS.aload X36.here hx rfl (hb hby at_122) rfl rfl k) ?_
                refine Go.st (fun t k => Jvm.RoadKit.acmp (g := (mkF m 124 #[.val (.long q1), .second, .val (.int p2), .val (.int (p2 &&& (7 : Int32))), .val (.long q1), .second, .val (.ref w_BLOCKED)] [(.ref w_BLOCKED), (.ref w_BLOCKED)])) X36 hx rfl rfl rfl (pc0 := 124) (pc' := 127) (same := true) rfl (hb hby at_124) rfl (decide_eq_true rfl) (by decide) (by decide) k) ?_
                show Go _ _ _ (T36.setTop (mkF m 127 #[.val (.long q1), .second, .val (.int p2), .val (.int (p2 &&& (7 : Int32))), .val (.long q1), .second, .val (.ref w_BLOCKED)] [])) _
                refine Go.st (fun t k => XS.iconst X36.here hx rfl (hb hby at_127) k) ?_
                refine Go.st (fun t k => XS.goto X36.here hx rfl (pc0 := 128) (pc' := 132) rfl (hb hby at_128) (by decide) (by decide) k) ?_
                obtain ⟨fs, hr, hrun, hended, hW, hsame⟩ := X36.leave (v := some (.int (1 : Int32))) (fun h => by rw [Bd.returns] at h; cases h)
                refine Go.fin (retN X36 hx (t := .boolean) Bd.returns (by simp) (hb hby at_132) hr) hrun hended ⟨_, _, rfl, ?_, ⟨_, rfl⟩, hW, hsame.mono (by decide) (by decide)⟩
                show Q0 Z q1 p2 w__VALUES k_v w_STANDARD w_BLOCKED h0 n0 _ T36.heap _
                rw [e36]
                exact ⟨rfl, N36⟩
              · refine Go.st (fun t k => XS.ifYes X0.here hx rfl (pc0 := 103) (pc' := 114) rfl (hb hby at_103) rfl ((if0 _ _).trans (feq (fun z => hc34 ((lw_eq q1 (3 : Int64)).mp z))).2) (by decide) (by decide) k) ?_
                show Go _ _ _ (s₁.setTop (mkF m 114 #[.val (.long q1), .second, .val (.int p2), .val (.int (p2 &&& (7 : Int32))), .val (.long q1), .second, .unset] [])) _
                refine Go.st (fun t k => XS.aconstNull X0.here hx rfl (hb hby at_114) k) ?_
                refine Go.st (fun t k => XS.astore X0.here hx rfl (hb hby at_115) rfl rfl (l' := #[.val (.long q1), .second, .val (.int p2), .val (.int (p2 &&& (7 : Int32))), .val (.long q1), .second, .val .null]) rfl k) ?_
                refine Go.st (fun t k => XS.lload X0.here hx rfl (hb hby at_117) rfl k) ?_
                obtain ⟨_, _, ⟨T37, L37, k37, n37⟩, -, X37, ⟨Lc37, hQ37, l37, y37, z37⟩, st37⟩ := Jvm.LawKit.callS X0 hx (y := (⟨"com/example/gloom/gloom/hashing/Layout", "fromCode", "(J)Lcom/example/gloom/gloom/hashing/Layout;"⟩ : MethodName)) hown (mvT hZ (wd5 hw)) (mvT hZ (wd6 hw)) (mvT hZ (wd3 hw)) (mvT hZ (wd7 hw)) (by decide) (backOf (W := 0) (rm1 l Z a0 hw [] q1 w__VALUES k_v w_STANDARD w_BLOCKED h0 n0 Z0 S__VALUES E_VALS V_VALS E_w_STANDARD F_w_STANDARD_code E_w_BLOCKED F_w_BLOCKED_code) hZ (wd7 hw) (wd3 hw) (by decide) (by decide)) (g := (mkF m 119 #[.val (.long q1), .second, .val (.int p2), .val (.int (p2 &&& (7 : Int32))), .val (.long q1), .second, .val .null] [(.long q1)])) rfl (by rw [hml]; rfl) (argsL := [(.long q1)]) (rest := []) (lenOf pd1 rfl) rfl (by show 2 * 0 + _ ≤ _; exact Nat.le_of_eq rfl) (hb hby at_119) (fun _ _ => ⟨rfl, e0, (by decide : 0 + 1 ≤ _), (by decide : 0 + 2 ≤ _)⟩)
                dsimp only [Pt.U, Pt.locs, Pt.cells, Pt.slots] at X37 l37 y37 z37 st37 hQ37
                subst l37 y37 z37
                refine Go.st st37 ?_
                obtain ⟨h37, e37⟩ : ∃ z, T37.heap = z := ⟨_, rfl⟩
                rw [e37] at hQ37
                obtain ⟨rfl, N37q, K37⟩ := hQ37
                replace S__VALUES := sta_keep S__VALUES K37 all0
                replace E_VALS := E_VALS.keep K37
                replace V_VALS := V_VALS.keep K37 nin0
                replace E_w_STANDARD := E_w_STANDARD.keep K37
                replace F_w_STANDARD_code := F_w_STANDARD_code.keep K37 nin0
                replace E_w_BLOCKED := E_w_BLOCKED.keep K37
                replace F_w_BLOCKED_code := F_w_BLOCKED_code.keep K37 nin0
                replace S_STANDARD := sta_keep S_STANDARD K37 all0
                replace S_BLOCKED := sta_keep S_BLOCKED K37 all0
                replace Z0 := Nat.le_trans Z0 K37.1
                replace K0 := K0.trans K37 all0
                have N37 := Fr.app N0 N37q
                show Go _ _ _ (T37.setTop (mkF m 122 #[.val (.long q1), .second, .val (.int p2), .val (.int (p2 &&& (7 : Int32))), .val (.long q1), .second, .val .null] [(f1 q1 w_STANDARD w_BLOCKED)])) _
                rw [show (f1 q1 w_STANDARD w_BLOCKED) = (.null : Value) from by unfold f1; simp only [if_neg (show ¬ ((1 : Int64) = q1) from fun z => hc31 z.symm), if_neg (show ¬ ((3 : Int64) = q1) from fun z => hc34 z.symm), if_true, if_false]]
                show Go _ _ _ (T37.setTop (mkF m 122 #[.val (.long q1), .second, .val (.int p2), .val (.int (p2 &&& (7 : Int32))), .val (.long q1), .second, .val .null] [.null])) _
                refine Go.st (fun t k => XS.aload X37.here hx rfl (hb hby at_122) rfl rfl k) ?_
                refine Go.st (fun t k => Jvm.RoadKit.acmp (g := (mkF m 124 #[.val (.long q1), .second, .val (.int p2), .val (.int (p2 &&& (7 : Int32))), .val (.long q1), .second, .val .null] [.null, .null])) X37 hx rfl rfl rfl (pc0 := 124) (pc' := 127) (same := true) rfl (hb hby at_124) rfl (decide_eq_true rfl) (by decide) (by decide) k) ?_
                show Go _ _ _ (T37.setTop (mkF m 127 #[.val (.long q1), .second, .val (.int p2), .val (.int (p2 &&& (7 : Int32))), .val (.long q1), .second, .val .null] [])) _
                refine Go.st (fun t k => XS.iconst X37.here hx rfl (hb hby at_127) k) ?_
                refine Go.st (fun t k => XS.goto X37.here hx rfl (pc0 := 128) (pc' := 132) rfl (hb hby at_128) (by decide) (by decide) k) ?_
                obtain ⟨fs, hr, hrun, hended, hW, hsame⟩ := X37.leave (v := some (.int (1 : Int32))) (fun h => by rw [Bd.returns] at h; cases h)
                refine Go.fin (retN X37 hx (t := .boolean) Bd.returns (by simp) (hb hby at_132) hr) hrun hended ⟨_, _, rfl, ?_, ⟨_, rfl⟩, hW, hsame.mono (by decide) (by decide)⟩
                show Q0 Z q1 p2 w__VALUES k_v w_STANDARD w_BLOCKED h0 n0 _ T37.heap _
                rw [e37]
                exact ⟨rfl, N37⟩
theorem own_len {args : Array Value} {s : State} {t : Term} {a : Addr} {cl : Cell} {ty : FieldType} {k : Int32} (ev : t.eval args s none [] s = some (.ref a)) (A : Arr s s.heap a cl ty) (h : (Jvm.Cond.eq (.length t) (.int k)).value args s none s [] = some true) : cl.slots.size < 2 ^ 31 ∧ cl.slots.size.toInt32 = k := by
  have e := own_eqi h
  have ha := A.fin (Vm.Alike.refl _)
  by_cases hn : cl.slots.size < 2 ^ 31
  · rw [len_f ev ha hn] at e
    exact ⟨hn, Value.int.inj (Option.some.inj e)⟩
  · exact absurd e (by simp [Term.eval, ev, ha, show ¬ cl.slots.size < 2147483648 from hn])
theorem own_eqr {args : Array Value} {s : State} {t u : Term} {x : Addr} (hu : u.eval args s none [] s = some (.ref x)) (h : (Jvm.Cond.eq t u).value args s none s [] = some true) : t.eval args s none [] s = some (.ref x) := by
  obtain ⟨v, y, e1, e2, k1, k2⟩ := cmp_v (Or.inl h)
  cases hu.symm.trans e2
  cases v <;> simp [Cond.value, e1, hu] at h
  rw [e1, h]
theorem own_elr {args : Array Value} {s : State} {t u : Term} {a x : Addr} {cl : Cell} {ty : FieldType} {j : Int32} (ev : t.eval args s none [] s = some (.ref a)) (A : Arr s s.heap a cl ty) (hu : u.eval args s none [] s = some (.ref x)) (h : (Jvm.Cond.eq (.elem t (.int j)) u).value args s none s [] = some true) : cl.slots[j.toNatClampNeg]? = some (.ref x) :=
  (elem_in (own_eqr hu h) ev (Term.int_eval j) A.1).2
theorem own_eli {args : Array Value} {s : State} {t : Term} {a : Addr} {cl : Cell} {ty : FieldType} {j k : Int32} (ev : t.eval args s none [] s = some (.ref a)) (A : Arr s s.heap a cl ty) (h : (Jvm.Cond.eq (.elem t (.int j)) (.int k)).value args s none s [] = some true) : atv cl j = k :=
  atv_of (elem_in (own_eqi h) ev (Term.int_eval j) A.1).2
theorem own_tabArv {s : State} {a : Addr} {cl : Cell} {ty : FieldType} {z : Int32} (hfit : Fit s) (T : Tab s s.heap a cl ty z) (q : cl.slots.size < 2 ^ 31) (e : cl.slots.size.toInt32 = z) (xs : List Int32) (h : ∀ j : Int32, ¬ j < 0 → j < z → atv cl j = own_at xs j) : Arv s s.heap a cl.cls ty z (xs.map Value.int) (.int 0) := by
  have hk : ∀ k, k < cl.slots.size → (Nat.toInt32 k).toNatClampNeg = k ∧ cl.slots[k]? = some ((xs.map Value.int).getD k (.int 0)) := by
    intro k hk
    have e1 : (Nat.toInt32 k).toNatClampNeg = k := by simp only [Int32.toNatClampNeg, len_toInt (Nat.lt_trans hk q)]; rfl
    have hi := idx_in hk q
    have g := T.2.2.2 (Nat.toInt32 k) hi
    have hlt : Nat.toInt32 k < z := by
      rw [← e, Int32.lt_iff_toInt_lt, len_toInt (Nat.lt_trans hk q), len_toInt q]
      omega
    rw [h _ (fun y => hi (Or.inl y)) hlt, ← own_atv, e1] at g
    exact ⟨e1, g⟩
  refine ⟨cl, T.1, rfl, T.2.1, T.2.2.1, fun k q' => (hk k q').2, fun k q' => ?_⟩
  exact elem_fits (j := Nat.toInt32 k) hfit T.1 (idx_in q' q) (by rw [(hk k q').1]; exact (hk k q').2)
theorem own_all2 {args : Array Value} {s : State} {t : Term} {a : Addr} {cl : Cell} {ty : FieldType} {z hi v : Int32} (et : ∀ idx, t.eval args s none idx s = some (.ref a)) (T : Tab s s.heap a cl ty z) (h : (Jvm.Cond.all t (.or (.le (.int hi) (.index 0)) (.eq (.elem t (.index 0)) (.int v)))).value args s none s [] = some true) (j : Int32) (h0 : ¬ j < 0) (h1 : j < z) : ¬ j < hi ∨ atv cl j = v := by
  have ha := T.1.fin (Vm.Alike.refl _)
  have hin : ¬ (j < 0 ∨ cl.slots.size ≤ j.toNatClampNeg) := inb_of T.2.1 ⟨h0, h1⟩
  have c := Cond.all_elim (et []) ha h j.toNatClampNeg (Nat.lt_of_not_le fun x => hin (Or.inr x))
  have e1 : (Term.elem t (.index 0)).eval args s none [j.toNatClampNeg] s = some (.int (atv cl j)) := (elem_f (et _) (idx_at h0) ha h0).trans (T.2.2.2 j hin)
  have v1 : (Jvm.Cond.le (.int hi) (.index 0)).value args s none s [j.toNatClampNeg] = some (decide (hi ≤ j)) := Cond.le_ints (Term.int_eval hi) (idx_at h0)
  have v2 : (Jvm.Cond.eq (.elem t (.index 0)) (.int v)).value args s none s [j.toNatClampNeg] = some (decide (atv cl j = v)) := Cond.eq_ints e1 (Term.int_eval v)
  rcases or_e2 v1 v2 c with q | q
  · exact Or.inl (Int32.not_lt.mpr q)
  · exact Or.inr q
theorem own_all3 {args : Array Value} {s : State} {t : Term} {a : Addr} {cl : Cell} {ty : FieldType} {z lo hi v : Int32} (et : ∀ idx, t.eval args s none idx s = some (.ref a)) (T : Tab s s.heap a cl ty z) (h : (Jvm.Cond.all t (.or (.lt (.index 0) (.int lo)) (.or (.le (.int hi) (.index 0)) (.eq (.elem t (.index 0)) (.int v))))).value args s none s [] = some true) (j : Int32) (h0 : ¬ j < 0) (h1 : j < z) : j < lo ∨ ¬ j < hi ∨ atv cl j = v := by
  have ha := T.1.fin (Vm.Alike.refl _)
  have hin : ¬ (j < 0 ∨ cl.slots.size ≤ j.toNatClampNeg) := inb_of T.2.1 ⟨h0, h1⟩
  have c := Cond.all_elim (et []) ha h j.toNatClampNeg (Nat.lt_of_not_le fun x => hin (Or.inr x))
  have e1 : (Term.elem t (.index 0)).eval args s none [j.toNatClampNeg] s = some (.int (atv cl j)) := (elem_f (et _) (idx_at h0) ha h0).trans (T.2.2.2 j hin)
  have v1 : (Jvm.Cond.lt (.index 0) (.int lo)).value args s none s [j.toNatClampNeg] = some (decide (j < lo)) := Cond.lt_ints (idx_at h0) (Term.int_eval lo)
  have v2 : (Jvm.Cond.le (.int hi) (.index 0)).value args s none s [j.toNatClampNeg] = some (decide (hi ≤ j)) := Cond.le_ints (Term.int_eval hi) (idx_at h0)
  have v3 : (Jvm.Cond.eq (.elem t (.index 0)) (.int v)).value args s none s [j.toNatClampNeg] = some (decide (atv cl j = v)) := Cond.eq_ints e1 (Term.int_eval v)
  exact or3 c v1 v2 v3
theorem own_l48 {args : Array Value} {s : State} {t : Term} {cl : Cell} {j : Int32} {k : Int64} (h0 : ¬ j < 0) (e1 : (Term.elem t (.index 0)).eval args s none [j.toNatClampNeg] s = some (.int (atv cl j))) : (Jvm.Cond.eq (.op1 .i2l (.elem t (.index 0))) (.op2 .ladd (.op1 .i2l (.index 0)) (.long k))).value args s none s [j.toNatClampNeg] = some (decide ((atv cl j).toInt64 = j.toInt64 + k)) :=
  eq_L (i2l_at e1) ((op2_f (i2l_at (idx_at h0)) rfl).trans rfl)
theorem own_allA {args : Array Value} {s : State} {t : Term} {a : Addr} {cl : Cell} {ty : FieldType} {z hi : Int32} {k : Int64} (et : ∀ idx, t.eval args s none idx s = some (.ref a)) (T : Tab s s.heap a cl ty z) (h : (Jvm.Cond.all t (.or (.le (.int hi) (.index 0)) (.eq (.op1 .i2l (.elem t (.index 0))) (.op2 .ladd (.op1 .i2l (.index 0)) (.long k))))).value args s none s [] = some true) (j : Int32) (h0 : ¬ j < 0) (h1 : j < z) (h2 : j < hi) : (atv cl j).toInt64 = j.toInt64 + k := by
  have ha := T.1.fin (Vm.Alike.refl _)
  have hin : ¬ (j < 0 ∨ cl.slots.size ≤ j.toNatClampNeg) := inb_of T.2.1 ⟨h0, h1⟩
  have c := Cond.all_elim (et []) ha h j.toNatClampNeg (Nat.lt_of_not_le fun x => hin (Or.inr x))
  have e1 : (Term.elem t (.index 0)).eval args s none [j.toNatClampNeg] s = some (.int (atv cl j)) := (elem_f (et _) (idx_at h0) ha h0).trans (T.2.2.2 j hin)
  rcases or_e2 (Cond.le_ints (Term.int_eval hi) (idx_at h0)) (own_l48 h0 e1) c with q | q
  · exact absurd h2 (Int32.not_lt.mpr q)
  · exact q
theorem own_allB {args : Array Value} {s : State} {t : Term} {a : Addr} {cl : Cell} {ty : FieldType} {z lo : Int32} {k : Int64} (et : ∀ idx, t.eval args s none idx s = some (.ref a)) (T : Tab s s.heap a cl ty z) (h : (Jvm.Cond.all t (.or (.lt (.index 0) (.int lo)) (.eq (.op1 .i2l (.elem t (.index 0))) (.op2 .ladd (.op1 .i2l (.index 0)) (.long k))))).value args s none s [] = some true) (j : Int32) (h0 : ¬ j < 0) (h1 : j < z) (h2 : ¬ j < lo) : (atv cl j).toInt64 = j.toInt64 + k := by
  have ha := T.1.fin (Vm.Alike.refl _)
  have hin : ¬ (j < 0 ∨ cl.slots.size ≤ j.toNatClampNeg) := inb_of T.2.1 ⟨h0, h1⟩
  have c := Cond.all_elim (et []) ha h j.toNatClampNeg (Nat.lt_of_not_le fun x => hin (Or.inr x))
  have e1 : (Term.elem t (.index 0)).eval args s none [j.toNatClampNeg] s = some (.int (atv cl j)) := (elem_f (et _) (idx_at h0) ha h0).trans (T.2.2.2 j hin)
  rcases or_e2 (Cond.lt_ints (idx_at h0) (Term.int_eval lo)) (own_l48 h0 e1) c with q | q
  · exact absurd q h2
  · exact q

theorem wd4 {Z : State} {a0 : Array Value} (hw : ∀ d ∈ tables_1, d.before a0 Z = true) : (Jvm.Cond.laysStatic "com/example/gloom/gloom/hashing/Layout" "BLOCKED" "Lcom/example/gloom/gloom/hashing/Layout;").before a0 Z = true := hw _ (List.mem_of_getElem? (i := 4) rfl)
theorem wd12 {Z : State} {a0 : Array Value} (hw : ∀ d ∈ tables_1, d.before a0 Z = true) : (Jvm.Cond.laysStatic "com/example/gloom/gloom/hashing/Layout" "$VALUES" "[Lcom/example/gloom/gloom/hashing/Layout;").before a0 Z = true := hw _ (List.mem_of_getElem? (i := 12) rfl)
theorem wd20 {Z : State} {a0 : Array Value} (hw : ∀ d ∈ tables_1, d.before a0 Z = true) : (Jvm.Cond.laysStatic "com/example/gloom/gloom/hashing/Layout" "STANDARD" "Lcom/example/gloom/gloom/hashing/Layout;").before a0 Z = true := hw _ (List.mem_of_getElem? (i := 20) rfl)
set_option maxRecDepth 65536 in
set_option maxHeartbeats 16000000 in
theorem comes_1 {Post : Tables → Env → Array Value → State → Outcome → State → Prop} (hpost : ∀ tb e args s v u, (limb_1_1.after args s (.returned v) u = true ∧ limb_1_2.after args s (.returned v) u = true ∧ True) → FrameEnd s (.returned v) u (Jvm.fieldLocs frame_1_writes args s ++ Jvm.arrayLocs frame_1_arrays args s ++ Jvm.staticLocs frame_1_statics s) 16 128 → Post tb e args s (.returned v) u) :
    ArmFor flags0 classFile x code maxLocals ret World_1 tables_1 room_1 Calls_1 rest_1 Pre_1 Post := by
  intro l hfl _ _ p e ha hc hk s m args below hf hA hF happ hP
  obtain ⟨hcalls, hrest, hpre⟩ := hP
  obtain ⟨-, -, -, hnamed, -, -, -, hat⟩ := (Spec.applies_iff hf).mp happ
  obtain ⟨hg, hn⟩ := and_e (Cond.before_iff.mp (show (Jvm.Cond.and given_1 narrow_1).before args s = true from hpre))
  obtain ⟨g1, g2⟩ := and_e hg
  obtain ⟨g3, g4⟩ := and_e g2
  obtain ⟨g5, g6⟩ := and_e hn
  obtain ⟨g7, g8⟩ := and_e g6
  obtain ⟨g9, g10⟩ := and_e g8
  obtain ⟨g11, g12⟩ := and_e g10
  obtain ⟨g13, g14⟩ := and_e g12
  obtain ⟨g15, g16⟩ := and_e g14
  obtain ⟨g17, g18⟩ := and_e g16
  obtain ⟨g19, g20⟩ := and_e g18
  obtain ⟨w0, w1, rfl⟩ : ∃ w0 w1 : Value, args = #[w0, w1] := by
    have hs : args.size = 2 := by simpa [Cond.value, given_1] using g1
    obtain ⟨L⟩ := args
    match L, hs with
    | [w0, w1], _ => exact ⟨w0, w1, rfl⟩
  have hw := fun d (hd : d ∈ tables_1) => atoms_spec (ws := Jvm.Cond.code x code maxLocals ret :: tables_1) hat d (List.mem_cons_of_mem _ hd)
  have hfit : Fit s := fun {y c} hc i hi => by
    obtain ⟨ha, rfl⟩ := Array.getElem?_eq_some_iff.mp hc
    have q := List.all_eq_true.mp ((Array.all_eq_true_iff_forall_mem.mp hF) _ (Array.getElem_mem ha)) i (List.mem_range.mpr hi)
    simpa [Array.getElem?_eq_getElem hi] using q
  obtain ⟨i0, ei0⟩ := isL_v g3
  obtain rfl : w0 = (.long i0) := Option.some.inj ei0
  obtain ⟨i1, ei1⟩ := is_v g4
  obtain rfl : w1 = (.int i1) := Option.some.inj ei1
  obtain ⟨v_BLOCKED, ev_v_BLOCKED⟩ := exa_v g5
  have E_v_BLOCKED := Exa.start ev_v_BLOCKED g5
  have S_v_BLOCKED := Sta.start ev_v_BLOCKED (Or.inr ⟨(wd3 hw), (wd4 hw)⟩)
  obtain ⟨v__VALUES, ev_v__VALUES⟩ := arr_v g7
  have S_v__VALUES := Sta.start ev_v__VALUES (Or.inr ⟨(wd3 hw), (wd12 hw)⟩)
  obtain ⟨cl_v__VALUES, Ar_v__VALUES⟩ := Arr.start ev_v__VALUES g7
  have E_v__VALUES := Exa.start ev_v__VALUES g9
  obtain ⟨q_v__VALUES, e_v__VALUES⟩ := own_len ev_v__VALUES Ar_v__VALUES g11
  obtain ⟨v_STANDARD, ev_v_STANDARD⟩ := exa_v g13
  have E_v_STANDARD := Exa.start ev_v_STANDARD g13
  have S_v_STANDARD := Sta.start ev_v_STANDARD (Or.inr ⟨(wd3 hw), (wd20 hw)⟩)
  have F_v_STANDARD_code := Fld.start ((fld_at ev_v_STANDARD).symm.trans (own_eqi g19))
  have F_v_BLOCKED_code := Fld.start ((fld_at ev_v_BLOCKED).symm.trans (own_eqi g20))
  have hel_v__VALUES_0 := own_elr ev_v__VALUES Ar_v__VALUES ev_v_STANDARD g15
  have hel_v__VALUES_1 := own_elr ev_v__VALUES Ar_v__VALUES ev_v_BLOCKED g17
  have V_v__VALUES := Arv.start (dv := .null) (vs := [(.ref v_STANDARD), (.ref v_BLOCKED)]) hfit Ar_v__VALUES q_v__VALUES e_v__VALUES (by decide) rfl ⟨hel_v__VALUES_0, hel_v__VALUES_1, trivial⟩
  have hplain := trivial
  obtain ⟨n, o, h1, h2, h3, _, L, rfl, ⟨rfl, N⟩, hq⟩ := rm0 l s _ hw tables_1 i0 i1 v__VALUES cl_v__VALUES.cls v_STANDARD v_BLOCKED s.heap s.heap.size (Nat.le_refl _) S_v__VALUES E_v__VALUES V_v__VALUES E_v_STANDARD F_v_STANDARD_code E_v_BLOCKED F_v_BLOCKED_code S_v_STANDARD S_v_BLOCKED p e ha hc hk s m _ below hf ((Spec.applies_iff_loose hf).mp happ).1 ⟨rfl, State.Warmed39.refl s, rfl⟩ trivial
  refine ⟨n, _, h1, h2, h3, hpost _ _ _ _ _ _ ⟨Cond.after_iff.mpr rfl, Cond.after_iff.mpr (eq_i res_at (Term.int_eval (1)) rfl), trivial⟩ ⟨hq.1, hq.2.1, (hq.2.2.sift fun y hy => Or.inr (N y hy)).mono (by decide) (by decide)⟩⟩
theorem main_1_1 : Claimed_1_1 := comes_1 fun _ _ _ _ _ _ h hF => ⟨h.1, hF⟩
theorem main_1_2 : Claimed_1_2 := comes_1 fun _ _ _ _ _ _ h hF => ⟨h.2.1, hF⟩
end Jvm.Pilot.@@N@@
namespace Jvm.Pilot.@@N@@
open Jvm Jvm.ClassFile Sem Op Lib Jvm.Free Jvm.Stand Jvm.Pilot.@@N@@.Jvm.D
/-! MADE BY PROGRAM (witnessworld.py) out of the Statement's table words and the real class files: 13 classes; the members and pool entries that the words name. The judged class is class 1, her method 1. -/
namespace start1
open Jvm.ClassFile
def u (s : String) : CpInfo := .utf8 (stringToUtf16 s)
/-- a pool by its gaps: so many unusable entries, then the entry; so many at the end -/
def gap : Nat → List CpInfo → List CpInfo
  | 0, r => r
  | n + 1, r => .unusable :: gap n r
def poolList (es : List (Nat × CpInfo)) (last : Nat) : List CpInfo := es.foldr (fun e r => gap e.1 (e.2 :: r)) (gap last [])
def pool (es : List (Nat × CpInfo)) (last : Nat) : Array CpInfo := ⟨poolList es last⟩
def fileOf (pool : Array CpInfo) (this : Nat) (attrs : Array Attribute := #[]) (ms : Array MethodInfo := #[]) (fl : Nat := 33) (sup : Nat := 0) (ifs : Array Nat := #[]) (fds : Array FieldInfo := #[]) : ClassFile where
  minorVersion := 0
  majorVersion := 65
  constantPool := pool
  accessFlags := fl
  thisClass := this
  superClass := sup
  interfaces := ifs
  fields := fds
  methods := ms
  attributes := attrs
def plain (name : String) (sup : Option ClassId) : Class where
  name := name
  kind := .ordinary
  loader := none
  accessFlags := 33
  super := sup
  interfaces := #[]
  cf := none
  fields := #[]
  methods := #[]
  instanceTypes := #[]
  staticTypes := #[]
  resolved := #[]
  callSites := []
  init := .initialized
  statics := none
  mirror := none

def pool0 : Array CpInfo := pool [(5, u "<init>"), (0, u "()V"), (1, .class_ 10), (1, u "java/lang/Object"), (85, u "clone"), (0, u "()Ljava/lang/Object;")] 26

def k0m0 : Method := { name := "<init>", desc := "()V", sig := { parameters := [], returnType := none }, accessFlags := 1, code := none }
def k0m1 : Method := { name := "clone", desc := "()Ljava/lang/Object;", sig := { parameters := [], returnType := some (.object "java/lang/Object") }, accessFlags := 260, code := none }
/-- java/lang/Object -/
def k0 : Class := { plain "java/lang/Object" none with
  accessFlags := 33
  interfaces := #[]
  cf := some (fileOf pool0 8 #[] #[{ accessFlags := 1, nameIndex := 5, descriptorIndex := 6, attributes := #[] }, { accessFlags := 260, nameIndex := 96, descriptorIndex := 97, attributes := #[] }] 33 0 #[] #[])
  fields := #[]
  methods := #[k0m0, k0m1]
  instanceTypes := #[]
  staticTypes := #[]
  resolved := Array.replicate 124 none
  statics := none }

def pool1 : Array CpInfo := pool [(2, .class_ 4), (1, u "java/lang/Object"), (0, u "<init>"), (0, u "()V"), (0, .long 3), (1, .long 7), (1, .fieldref 12 13), (0, .class_ 14), (0, .nameAndType 15 16), (0, u "com/example/gloom/gloom/hashing/Layout"), (0, u "STANDARD"), (0, u "Lcom/example/gloom/gloom/hashing/Layout;"), (0, .fieldref 12 18), (0, .nameAndType 19 16), (0, u "BLOCKED"), (0, .methodref 12 21), (0, .nameAndType 22 23), (0, u "fromCode"), (0, u "(J)Lcom/example/gloom/gloom/hashing/Layout;"), (0, .class_ 25), (0, u "com/example/gloom/gloom/hashing/LayoutFromCodePinLaw"), (2, u "law"), (0, u "(JI)Z")] 3

def k1m0 : Method := { name := "<init>", desc := "()V", sig := { parameters := [], returnType := none }, accessFlags := 2, code := none }
def k1c1 : Code := { maxStack := 6, maxLocals := 7, code := code, exceptionTable := #[], attributes := #[] }
def k1m1 : Method := { name := "law", desc := "(JI)Z", sig := { parameters := [.long, .int], returnType := some .boolean }, accessFlags := 9, code := some k1c1 }
/-- com/example/gloom/gloom/hashing/LayoutFromCodePinLaw -/
def k1 : Class := { plain "com/example/gloom/gloom/hashing/LayoutFromCodePinLaw" (some 0) with
  accessFlags := 49
  interfaces := #[]
  cf := some (fileOf pool1 24 #[] #[{ accessFlags := 2, nameIndex := 5, descriptorIndex := 6, attributes := #[] }, { accessFlags := 9, nameIndex := 28, descriptorIndex := 29, attributes := #[] }] 49 2 #[] #[])
  fields := #[]
  methods := #[k1m0, k1m1]
  instanceTypes := #[]
  staticTypes := #[]
  resolved := Array.replicate 33 none
  statics := none }

def pool2 : Array CpInfo := pool [(1, .class_ 2), (0, u "java/lang/constant/Constable"), (0, .class_ 4), (0, u "java/lang/Object")] 6

/-- java/lang/constant/Constable -/
def k2 : Class := { plain "java/lang/constant/Constable" (some 0) with
  accessFlags := 1537
  interfaces := #[]
  cf := some (fileOf pool2 1 #[] #[] 1537 3 #[] #[])
  fields := #[]
  methods := #[]
  instanceTypes := #[]
  staticTypes := #[]
  resolved := Array.replicate 11 none
  statics := none }

def pool3 : Array CpInfo := pool [(1, .class_ 2), (0, u "java/lang/Comparable"), (0, .class_ 4), (0, u "java/lang/Object")] 7

/-- java/lang/Comparable -/
def k3 : Class := { plain "java/lang/Comparable" (some 0) with
  accessFlags := 1537
  interfaces := #[]
  cf := some (fileOf pool3 1 #[] #[] 1537 3 #[] #[])
  fields := #[]
  methods := #[]
  instanceTypes := #[]
  staticTypes := #[]
  resolved := Array.replicate 12 none
  statics := none }

def pool4 : Array CpInfo := pool [(1, .class_ 2), (0, u "java/io/Serializable"), (0, .class_ 4), (0, u "java/lang/Object")] 2

/-- java/io/Serializable -/
def k4 : Class := { plain "java/io/Serializable" (some 0) with
  accessFlags := 1537
  interfaces := #[]
  cf := some (fileOf pool4 1 #[] #[] 1537 3 #[] #[])
  fields := #[]
  methods := #[]
  instanceTypes := #[]
  staticTypes := #[]
  resolved := Array.replicate 7 none
  statics := none }

def pool5 : Array CpInfo := pool [(2, .class_ 4), (1, u "java/lang/Enum"), (0, u "name"), (0, u "Ljava/lang/String;"), (2, u "ordinal"), (0, u "I"), (1, .class_ 14), (1, u "java/lang/Object"), (4, u "hash"), (86, .class_ 108), (1, u "java/lang/Enum$EnumDesc"), (2, .class_ 112), (0, u "java/lang/constant/Constable"), (0, .class_ 114), (0, u "java/lang/Comparable"), (0, .class_ 116), (0, u "java/io/Serializable")] 87

/-- java/lang/Enum -/
def k5 : Class := { plain "java/lang/Enum" (some 0) with
  accessFlags := 1057
  interfaces := #[2, 3, 4]
  cf := some (fileOf pool5 2 #[.nestMembers #[106]] #[] 1057 12 #[111, 113, 115] #[{ accessFlags := 18, nameIndex := 5, descriptorIndex := 6, attributes := #[] }, { accessFlags := 18, nameIndex := 9, descriptorIndex := 10, attributes := #[] }, { accessFlags := 2, nameIndex := 19, descriptorIndex := 10, attributes := #[] }])
  fields := #[{ name := "name", type := (.object "java/lang/String"), accessFlags := 18, slot := 0, constantValue := 0 }, { name := "ordinal", type := .int, accessFlags := 18, slot := 1, constantValue := 0 }, { name := "hash", type := .int, accessFlags := 2, slot := 2, constantValue := 0 }]
  methods := #[]
  instanceTypes := #[(.object "java/lang/String"), .int, .int]
  staticTypes := #[]
  resolved := Array.replicate 204 none
  statics := none }

def pool6 : Array CpInfo := pool [(1, .class_ 2), (0, u "com/example/gloom/gloom/hashing/Layout"), (2, u "STANDARD"), (0, u "Lcom/example/gloom/gloom/hashing/Layout;"), (2, u "BLOCKED"), (0, .fieldref 1 11), (0, .nameAndType 12 13), (0, u "$VALUES"), (0, u "[Lcom/example/gloom/gloom/hashing/Layout;"), (0, .methodref 15 16), (0, .class_ 13), (0, .nameAndType 17 18), (0, u "clone"), (0, u "()Ljava/lang/Object;"), (1, .class_ 22), (1, u "java/lang/Enum"), (6, .fieldref 1 30), (0, .nameAndType 31 32), (0, u "code"), (0, u "I"), (2, u "label"), (0, u "Ljava/lang/String;"), (0, .methodref 1 38), (0, .nameAndType 39 40), (0, u "values"), (0, u "()[Lcom/example/gloom/gloom/hashing/Layout;"), (31, u "fromCode"), (0, u "(J)Lcom/example/gloom/gloom/hashing/Layout;")] 27

def k6c0 : Code := { maxStack := 1, maxLocals := 0, code := prog_17_method_1_code, exceptionTable := #[], attributes := #[] }
def k6m0 : Method := { name := "values", desc := "()[Lcom/example/gloom/gloom/hashing/Layout;", sig := { parameters := [], returnType := some (.array (.object "com/example/gloom/gloom/hashing/Layout")) }, accessFlags := 9, code := some k6c0 }
def k6c1 : Code := { maxStack := 4, maxLocals := 6, code := prog_17_method_4_code, exceptionTable := #[], attributes := #[] }
def k6m1 : Method := { name := "fromCode", desc := "(J)Lcom/example/gloom/gloom/hashing/Layout;", sig := { parameters := [.long], returnType := some (.object "com/example/gloom/gloom/hashing/Layout") }, accessFlags := 9, code := some k6c1 }
/-- com/example/gloom/gloom/hashing/Layout -/
def k6 : Class := { plain "com/example/gloom/gloom/hashing/Layout" (some 5) with
  accessFlags := 16433
  interfaces := #[]
  cf := some (fileOf pool6 1 #[] #[{ accessFlags := 9, nameIndex := 39, descriptorIndex := 40, attributes := #[] }, { accessFlags := 9, nameIndex := 72, descriptorIndex := 73, attributes := #[] }] 16433 20 #[] #[{ accessFlags := 16409, nameIndex := 5, descriptorIndex := 6, attributes := #[] }, { accessFlags := 16409, nameIndex := 9, descriptorIndex := 6, attributes := #[] }, { accessFlags := 18, nameIndex := 31, descriptorIndex := 32, attributes := #[] }, { accessFlags := 18, nameIndex := 35, descriptorIndex := 36, attributes := #[] }, { accessFlags := 4122, nameIndex := 12, descriptorIndex := 13, attributes := #[] }])
  fields := #[{ name := "STANDARD", type := (.object "com/example/gloom/gloom/hashing/Layout"), accessFlags := 16409, slot := 0, constantValue := 0 }, { name := "BLOCKED", type := (.object "com/example/gloom/gloom/hashing/Layout"), accessFlags := 16409, slot := 1, constantValue := 0 }, { name := "code", type := .int, accessFlags := 18, slot := 3, constantValue := 0 }, { name := "label", type := (.object "java/lang/String"), accessFlags := 18, slot := 4, constantValue := 0 }, { name := "$VALUES", type := (.array (.object "com/example/gloom/gloom/hashing/Layout")), accessFlags := 4122, slot := 2, constantValue := 0 }]
  methods := #[k6m0, k6m1]
  instanceTypes := #[(.object "java/lang/String"), .int, .int, .int, (.object "java/lang/String")]
  staticTypes := #[(.object "com/example/gloom/gloom/hashing/Layout"), (.object "com/example/gloom/gloom/hashing/Layout"), (.array (.object "com/example/gloom/gloom/hashing/Layout"))]
  resolved := Array.replicate 101 none
  statics := some 0 }

def pool7 : Array CpInfo := pool [(1, .class_ 2), (0, u "java/lang/Cloneable"), (0, .class_ 4), (0, u "java/lang/Object")] 2

/-- java/lang/Cloneable -/
def k7 : Class := { plain "java/lang/Cloneable" (some 0) with
  accessFlags := 1537
  interfaces := #[]
  cf := some (fileOf pool7 1 #[] #[] 1537 3 #[] #[])
  fields := #[]
  methods := #[]
  instanceTypes := #[]
  staticTypes := #[]
  resolved := Array.replicate 7 none
  statics := none }

/-- the primitive byte -/
def k8 : Class := { plain "byte" none with kind := .primitive 'B', accessFlags := 0x411 }
/-- [B -/
def k9 : Class := { plain "[B" (some 0) with kind := .array 8 .byte, interfaces := #[7, 4], accessFlags := 1041 }

/-- the primitive int -/
def k10 : Class := { plain "int" none with kind := .primitive 'I', accessFlags := 0x411 }
/-- [I -/
def k11 : Class := { plain "[I" (some 0) with kind := .array 10 .int, interfaces := #[7, 4], accessFlags := 1041 }

/-- [Lcom/example/gloom/gloom/hashing/Layout; -/
def k12 : Class := { plain "[Lcom/example/gloom/gloom/hashing/Layout;" (some 0) with kind := .array 6 (.object "com/example/gloom/gloom/hashing/Layout"), interfaces := #[7, 4], accessFlags := 1041 }

def heap : Heap := #[{ cls := 6, slots := #[.ref 2, .ref 3, .ref 1], vm := .statics 6 },
  { cls := 12, slots := #[.ref 2, .ref 3], vm := .none },
  { cls := 6, slots := #[.null, .int 0, .int 0, .int 1, .null], vm := .none },
  { cls := 6, slots := #[.null, .int 1, .int 0, .int 3, .null], vm := .none }]
def classes : Array Class := #[k0, k1, k2, k3, k4, k5, k6, k7, k8, k9, k10, k11, k12]
def interned : List (Array UInt16 × Addr) := []
def slotsUsed : Nat := 15
def theMethod : MethodId := ⟨1, 1⟩
def args0 : Array Value := #[.long 5, .int 6]
def aboutOver (below : List Frame) : State where
  vm := { classes := classes, interned := interned.toArray }
  heap := heap
  slotsUsed := slotsUsed
  threads := #[{ frames := .invoking theMethod args0 :: below }]
def below0 : List Frame := [.native { method := ⟨0, 0⟩, args := #[] }]
def about1 : State := aboutOver below0
def p0 : Program := .bare "" "" ""
def e0 : Env := launch0.env 0 0 0
theorem w_frames : about1.frames = Frame.invoking theMethod args0 :: below0 := rfl
set_option maxRecDepth 65536 in
theorem w_args : argsFit about1.vm theMethod args0 = true := by decide +kernel
set_option maxRecDepth 65536 in
theorem w_heap : heapFits about1 = true := by decide +kernel
set_option maxRecDepth 65536 in
theorem w_runnable : about1.curStatus? = some .runnable := by decide +kernel
set_option maxRecDepth 65536 in
theorem w_alone : about1.alone = true := by decide +kernel
set_option maxRecDepth 65536 in
theorem w_named : about1.methodNamed? x = some theMethod := by decide +kernel
set_option maxRecDepth 65536 in
theorem w_hears : about1.hears theMethod below0 = true := by decide +kernel
set_option maxRecDepth 65536 in
theorem w_ripe : about1.ripe theMethod args0 below0 = true := by decide +kernel
theorem w_running : about1.status = .running := rfl
set_option maxRecDepth 65536 in
theorem w_room : about1.hasRoom e0.platform room_1 = true :=
  launch0.hasRoom_least _ room_1 (by decide +kernel) (by decide +kernel) (by decide +kernel) (by decide +kernel) (by decide +kernel) (by decide +kernel)
theorem allAtoms_all (ts : List Jvm.Cond) (a : Array Jvm.Value) (st : Jvm.State) : (allAtoms ts).before a st = ts.all (fun c => c.before a st) := by
  induction ts with
  | nil => rfl
  | cons c t ih =>
    show (Jvm.Cond.and c (allAtoms t)).before a st = _
    rw [Jvm.Cond.before_and, ih, List.all_cons]
def words1 : List Jvm.Cond := Jvm.Cond.code x code maxLocals ret :: tables_1
/-- a 'code' word, met by the world's own term for the bytes: nothing is compared byte by byte -/
theorem code_word {y : MethodName} {bytes : ByteArray} {mx : Nat} {rt : Option FieldType} {a : Array Value} {s : State} {m : MethodId} {meth : Method} {c : Code} (h1 : s.methodNamed? y = some m) (h2 : s.vm.method? m = some meth) (h3 : meth.code = some c) (h4 : c.code = bytes)
    (h5 : (c.maxLocals == mx && c.exceptionTable.isEmpty && decide (c.maxStack ≤ mostOperands) && decide (meth.sig.returnType = rt) && !meth.locks && decide (parseMethodDescriptor y.desc = some meth.sig)) = true) : (Jvm.Cond.code y bytes mx rt).before a s = true := by
  simp only [Bool.and_eq_true, beq_iff_eq, Bool.not_eq_true', decide_eq_true_eq] at h5
  obtain ⟨⟨⟨⟨⟨g1, g2⟩, g3⟩, g4⟩, g5⟩, g6⟩ := h5
  simp [Cond.before, Cond.holds, Cond.value, h1, h2, h3, h4, g1, g2, g3, g4, g5, g6]
def isCode : Jvm.Cond → Bool
  | .code _ _ _ _ => true
  | _ => false
theorem all_split {L : List Jvm.Cond} {P : Jvm.Cond → Bool} (h1 : L.all (fun c => isCode c || P c) = true) (h2 : ∀ c ∈ L.filter isCode, P c = true) : L.all P = true := by
  refine List.all_eq_true.mpr fun c hc => ?_
  have h := List.all_eq_true.mp h1 c hc
  rcases Bool.eq_false_or_eq_true (isCode c) with hi | hi
  · exact h2 c (List.mem_filter.mpr ⟨hc, hi⟩)
  · simpa [hi] using h
set_option maxRecDepth 65536 in
theorem w_c0 : (Jvm.Cond.code x code maxLocals ret).before args0 about1 = true := code_word (m := ⟨1, 1⟩) (meth := k1m1) (c := k1c1) (by decide +kernel) rfl rfl rfl (by decide +kernel)
set_option maxRecDepth 65536 in
theorem w_c1 : (Jvm.Cond.code ({ cls := "com/example/gloom/gloom/hashing/Layout", name := "fromCode", desc := "(J)Lcom/example/gloom/gloom/hashing/Layout;" } : Jvm.MethodName) prog_17_method_4_code (6 : Nat) (Option.some (Jvm.ClassFile.FieldType.object "com/example/gloom/gloom/hashing/Layout"))).before args0 about1 = true := code_word (m := ⟨6, 1⟩) (meth := k6m1) (c := k6c1) (by decide +kernel) rfl rfl rfl (by decide +kernel)
set_option maxRecDepth 65536 in
theorem w_c2 : (Jvm.Cond.code ({ cls := "com/example/gloom/gloom/hashing/Layout", name := "values", desc := "()[Lcom/example/gloom/gloom/hashing/Layout;" } : Jvm.MethodName) prog_17_method_1_code (0 : Nat) (Option.some (Jvm.ClassFile.FieldType.array (Jvm.ClassFile.FieldType.object "com/example/gloom/gloom/hashing/Layout")))).before args0 about1 = true := code_word (m := ⟨6, 0⟩) (meth := k6m0) (c := k6c0) (by decide +kernel) rfl rfl rfl (by decide +kernel)
def codes1 : List Jvm.Cond := [Jvm.Cond.code x code maxLocals ret, Jvm.Cond.code ({ cls := "com/example/gloom/gloom/hashing/Layout", name := "fromCode", desc := "(J)Lcom/example/gloom/gloom/hashing/Layout;" } : Jvm.MethodName) prog_17_method_4_code (6 : Nat) (Option.some (Jvm.ClassFile.FieldType.object "com/example/gloom/gloom/hashing/Layout")), Jvm.Cond.code ({ cls := "com/example/gloom/gloom/hashing/Layout", name := "values", desc := "()[Lcom/example/gloom/gloom/hashing/Layout;" } : Jvm.MethodName) prog_17_method_1_code (0 : Nat) (Option.some (Jvm.ClassFile.FieldType.array (Jvm.ClassFile.FieldType.object "com/example/gloom/gloom/hashing/Layout")))]
set_option maxRecDepth 65536 in
theorem codes_eq : words1.filter isCode = codes1 := rfl
theorem w_codes : ∀ c ∈ words1.filter isCode, c.before args0 about1 = true := by
  rw [codes_eq]
  intro c hc
  simp only [codes1, List.mem_cons, List.not_mem_nil, or_false] at hc
  rcases hc with rfl | rfl | rfl
  · exact w_c0
  · exact w_c1
  · exact w_c2
set_option maxRecDepth 65536 in
theorem w_t1 : (words1.take 24).all (fun c => isCode c || c.before args0 about1) = true := by decide +kernel
set_option maxRecDepth 65536 in
theorem w_t2 : (words1.drop 24).all (fun c => isCode c || c.before args0 about1) = true := by decide +kernel
theorem w_tables : (allAtoms (Jvm.Cond.code x code maxLocals ret :: tables_1)).before args0 about1 = true := by
  rw [allAtoms_all]
  show words1.all (fun c => c.before args0 about1) = true
  refine all_split ?_ w_codes
  rw [← List.take_append_drop 24 words1, List.all_append, w_t1, w_t2]
  rfl
set_option maxRecDepth 65536 in
theorem w_case : (Jvm.Cond.and given_1 narrow_1).before args0 about1 = true := by decide +kernel
theorem w_applies : (headSpec (Jvm.Cond.code x code maxLocals ret :: tables_1) room_1).applies x e0.platform about1 = true :=
  (Spec.applies_iff w_frames).mpr ⟨w_running, w_runnable, w_alone, w_named, w_hears, w_ripe, w_room, w_tables⟩
theorem atStart : AtStart classFile x code maxLocals ret World_1 tables_1 room_1 Calls_1 rest_1 Pre_1 launch0 p0 e0 about1 theMethod args0 below0 :=
  ⟨lists_1, trivial, launch0.admits_env _ _ _, launch0.least_env, fairChoices_fair.cas, fairChoices_fair.clock, w_frames, w_args, w_heap, w_applies, trivial, trivial, w_case⟩
end start1
theorem witness_1 : WitnessClaimed_1 := ⟨start1.p0, start1.e0, start1.about1, start1.theMethod, start1.args0, start1.below0, start1.atStart⟩
end Jvm.Pilot.@@N@@
