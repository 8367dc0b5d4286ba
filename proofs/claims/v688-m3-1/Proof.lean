import JvmDerived
import JvmDerived.Pilot.@@N@@Statement
import JvmDerived.Pilot.@@N@@Code
set_option linter.unusedVariables false
set_option linter.unusedSimpArgs false
namespace Jvm.Pilot.@@N@@
open Jvm Jvm.ClassFile Sem Op Lib Jvm.Free Jvm.Stand Jvm.LawKit Jvm.RoadKit Bundle Jvm.Pilot.@@N@@.Jvm.D

def Go (tb : Tables) (e : Env) (below : List Frame) (a : State) (P : Outcome → State → Prop) : Prop := ∃ s₂ o, Steps tb e below a s₂ ∧ s₂.status = .running ∧ Ended s₂ below o ∧ P o s₂
theorem Go.st {tb : Tables} {e : Env} {below : List Frame} {a b : State} {P : Outcome → State → Prop} (h : ∀ t, Steps tb e below b t → Steps tb e below a t) (k : Go tb e below b P) : Go tb e below a P := by
  obtain ⟨s, o, h1, h2⟩ := k
  exact ⟨s, o, h _ h1, h2⟩
theorem Go.tr {tb : Tables} {e : Env} {below : List Frame} {a b : State} {P : Outcome → State → Prop} (h : Steps tb e below a b) (k : Go tb e below b P) : Go tb e below a P := Go.st (fun _ q => h.trans q) k
theorem Go.fr {tb : Tables} {e : Env} {below : List Frame} {T : State} {g g' : JFrame} {P : Outcome → State → Prop} (q : g = g') (k : Go tb e below (T.setTop g') P) : Go tb e below (T.setTop g) P := q ▸ k
theorem Go.fin {tb : Tables} {e : Env} {below : List Frame} {a s₂ : State} {o : Outcome} {P : Outcome → State → Prop} (hs : Steps tb e below a s₂) (hr : s₂.status = .running) (he : Ended s₂ below o) (hP : P o s₂) : Go tb e below a P := ⟨_, _, hs, hr, he, hP⟩
theorem exa_ns {Z : State} {h : Heap} {a : Addr} {C : String} (F : Exa Z h a C) : ∃ c : Cell, h[a]? = some c ∧ c.vm.isStatics = false := by
  obtain ⟨c, _, h1, -, -, h4, -⟩ := F
  exact ⟨c, h1, h4⟩
theorem fld_ns {Z : State} {h : Heap} {a : Addr} {C n d : String} {v : Value} (F : Fld Z h a C n d v) : ∃ c : Cell, h[a]? = some c ∧ c.vm.isStatics = false := by
  obtain ⟨c, _, _, _, _, h1, -, -, -, h4, -⟩ := F
  exact ⟨c, h1, h4⟩
theorem arv_ns {Z : State} {h : Heap} {a : Addr} {k : ClassId} {ty : FieldType} {n : Int32} {vs : List Value} {d : Value} (F : Arv Z h a k ty n vs d) : ∃ c : Cell, h[a]? = some c ∧ c.vm.isStatics = false := by
  obtain ⟨c, A, -⟩ := F
  exact ⟨c, A.1, A.plain⟩
theorem sta_keep {Z : State} {h h' : Heap} {C n d : String} {v : Value} {ws : List Addr} (F : Sta Z h C n d v) (K : Keep h h' ws) (q : ∀ x ∈ ws, ∃ c : Cell, h[x]? = some c ∧ c.vm.isStatics = false) : Sta Z h' C n d v := by
  obtain ⟨cf, i, k, f, st, cell, h1, h2, h3, h4, h5, h6, h7⟩ := F
  refine ⟨cf, i, k, f, st, cell, h1, h2, h3, h4, K.2.1 st cell h5 fun z => ?_, h6, h7⟩
  obtain ⟨c, q1, q2⟩ := q st z
  cases q1.symm.trans h5
  rw [q2] at h6
  cases h6
theorem own_selp {s : State} {args : Array Value} {y : MethodName} {n : Nat} (wi : (Cond.instantiable y.cls n).before args s = true) (hp : s.PrivateAt y) (hi : (Cond.instanceMethod y).before args s = true) (hy : y.cls ≠ "java/lang/invoke/MethodHandle" ∧ y.cls ≠ "java/lang/invoke/VarHandle") : (Cond.selects y.cls y y).before args s = true := by
  obtain ⟨c, k, h1, h2, -, h4, -⟩ := Cond.instantiable_spec wi
  simp only [Bool.or_eq_false_iff] at h4
  exact selects_self_of_private h1 h2 h4.1 hp hi hy
theorem own_ne32 {x k : Int32} {a : Int} (ha : k.toInt = a) (h : ¬ x = k) : a ≠ x.toInt := fun e => h (Int32.toInt_inj.mp (e.symm.trans ha.symm))
theorem own_nn (x : Int32) : 0 ≤ (x &&& (2147483647 : Int32)).toInt := (c_andS x 2147483647).2.2 (by decide)
theorem own_rem (x : Int32) (k : Int32) (d : Int) (hd : k.toInt = d) (h0 : 0 < d) : 0 ≤ ((x &&& (2147483647 : Int32)) % k).toInt ∧ ((x &&& (2147483647 : Int32)) % k).toInt < d := by
  have h := own_nn x
  rw [Int32.toInt_mod, hd]
  exact ⟨Int.tmod_nonneg _ h, Int.tmod_lt_of_pos _ h0⟩
theorem own_remb (x : Int32) (k : Int32) (d : Int) (hd : k.toInt = d) (h0 : 0 < d) : ¬ ((x &&& (2147483647 : Int32)) % k) < 0 ∧ ((x &&& (2147483647 : Int32)) % k) < k := by
  obtain ⟨h1, h2⟩ := own_rem x k d hd h0
  rw [Int32.lt_iff_toInt_lt, Int32.lt_iff_toInt_lt, hd]
  exact ⟨Int.not_lt.mpr h1, h2⟩
def own_at (xs : List Int32) (j : Int32) : Int32 := xs.getD j.toNatClampNeg 0
theorem own_atv (xs : List Int32) (j : Int32) : (xs.map Value.int).getD j.toNatClampNeg (.int 0) = .int (own_at xs j) := by
  unfold own_at
  generalize j.toNatClampNeg = n
  induction xs generalizing n with
  | nil => rfl
  | cons a r ih => cases n with
    | zero => rfl
    | succ n => simpa using ih n
theorem own_setl {l : List Value} {k n : Nat} {v : Value} (h : l.length = n) : (l.set k v).length = n := by rw [List.length_set]; exact h
theorem own_setg {l : List Value} {k : Nat} {v d : Value} (h : k < l.length) : (l.set k v).getD k d = v := by simp [List.getD, List.getElem?_set, h]
theorem own_setn {l : List Value} {k i : Nat} {v d : Value} (h : i ≠ k) : (l.set k v).getD i d = l.getD i d := by simp [List.getD, List.getElem?_set, Ne.symm h]
theorem own_lt_of {l : List Value} {n : Nat} {j z : Int32} (h : l.length = n) (q : ¬ j < 0 ∧ j < z) (hz : z.toNatClampNeg = n := by decide) : j.toNatClampNeg < l.length := by
  rw [h, ← hz]
  obtain ⟨q1, q2⟩ := q
  rw [Int32.lt_iff_toInt_lt] at q1 q2
  have : (0 : Int32).toInt = 0 := rfl
  simp only [Int32.toNatClampNeg]
  omega
theorem own_eqi {args : Array Value} {s : State} {t : Term} {k : Int32} (h : (Jvm.Cond.eq t (.int k)).value args s none s [] = some true) : t.eval args s none [] s = some (.int k) := by
  simp only [Cond.value, Term.eval] at h
  cases ht : t.eval args s none [] s with
  | none => simp [ht] at h
  | some x => cases x <;> simp_all
theorem d1_0 : decode method_2_code 0 = .ok (.iload_n 0, 1) := by decide +kernel
theorem d1_1 : decode method_2_code 1 = .ok (.newarray .int, 2) := by decide +kernel
theorem wd5 {Z : State} {a0 : Array Value} (hw : ∀ d ∈ tables_1, d.before a0 Z = true) : (Jvm.Cond.arrayClass Jvm.ClassFile.FieldType.int).before a0 Z = true := hw _ (List.mem_of_getElem? (i := 5) rfl)
theorem d1_3 : decode method_2_code 3 = .ok (.astore 4, 2) := by decide +kernel
theorem d1_5 : decode method_2_code 5 = .ok (.aload 4, 2) := by decide +kernel
theorem d1_7 : decode method_2_code 7 = .ok (.iconst 0, 1) := by decide +kernel
theorem d1_8 : decode method_2_code 8 = .ok (.iload_n 1, 1) := by decide +kernel
theorem d1_9 : decode method_2_code 9 = .ok (.iastore, 1) := by decide +kernel
theorem d1_10 : decode method_2_code 10 = .ok (.iload_n 0, 1) := by decide +kernel
theorem d1_11 : decode method_2_code 11 = .ok (.iconst 1, 1) := by decide +kernel
theorem d1_12 : decode method_2_code 12 = .ok (.if_icmp .le 8, 3) := by decide +kernel
theorem d1_20 : decode method_2_code 20 = .ok (.iload_n 0, 1) := by decide +kernel
theorem d1_21 : decode method_2_code 21 = .ok (.iconst 2, 1) := by decide +kernel
theorem d1_22 : decode method_2_code 22 = .ok (.if_icmp .le 8, 3) := by decide +kernel
theorem d1_30 : decode method_2_code 30 = .ok (.aload 4, 2) := by decide +kernel
theorem d1_32 : decode method_2_code 32 = .ok (.areturn, 1) := by decide +kernel
theorem pn0 : plainName "com/example/bitlattice/bitlattice/eval/RelationGetPinLaw" = true := by first | (simp [plainName, overriddenIn]; done) | decide +kernel
def Q1_1 (Z : State) (p2 : Int32) (p3 : Int32) (p4 : Int32) (h0 : Heap) (n0 : Nat) (v : Option Value) (h : Heap) (L : List Loc) : Prop := ∃ x1_1_0 : Addr, ∃ k_x1_1_0 : ClassId, v = some (.ref x1_1_0) ∧ Fr n0 L ∧ Keep h0 h [] ∧ n0 ≤ x1_1_0 ∧ h0.size ≤ x1_1_0 ∧ Arv Z h x1_1_0 k_x1_1_0 .int (1 : Int32) [(.int p2)] (.int (0 : Int32))
theorem ef1_1 (m : MethodId) (x1 : Int32) (x2 : Int32) (x3 : Int32) : entryFrame m #[(.int (1 : Int32)), (.int x1), (.int x2), (.int x3)] 5 = mkF m 0 #[.val (.int (1 : Int32)), .val (.int x1), .val (.int x2), .val (.int x3), .unset] [] := by first | (simp [entryFrame, mkF, argsToLocals, Value.category]; done) | rfl
set_option maxRecDepth 65536 in
set_option maxHeartbeats 16000000 in
theorem rm1_1 (l : Launch) (Z : State) (a0 : Array Value) (hw : ∀ d ∈ tables_1, d.before a0 Z = true) (ws : List Jvm.Cond) (p2 : Int32) (p3 : Int32) (p4 : Int32) (h0 : Heap) (n0 : Nat) (Z0 : n0 ≤ h0.size) :
    MetFree l (⟨"com/example/bitlattice/bitlattice/eval/RelationGetPinLaw", "rowOf", "(IIII)[I"⟩ : MethodName) (head1 (Jvm.Cond.code (⟨"com/example/bitlattice/bitlattice/eval/RelationGetPinLaw", "rowOf", "(IIII)[I"⟩ : MethodName) method_2_code 5 (some (.array .int)) :: ws) ({ frames := 0, cells := 1, slots := 1, locals := 0 } : Room)) (fun a U => a = #[(.int (1 : Int32)), (.int p2), (.int p3), (.int p4)] ∧ Z.Warmed39 U.vm ∧ U.heap = h0) (fun _ _ _ _ _ => True) (fun _ U o U' => ∃ v L, o = .returned v ∧ Q1_1 Z p2 p3 p4 h0 n0 v U'.heap L ∧ FrameEnd U o U' L ({ frames := 0, cells := 1, slots := 1, locals := 0 } : Room).cells ({ frames := 0, cells := 1, slots := 1, locals := 0 } : Room).slots) := by
  refine MetFree.of_bodySF (plainFor_of_name pn0) hisR ?_
  intro p e s m args below meth c s₁ Bd hml0 hP hK
  obtain ⟨rfl, hZ, hh⟩ := hP
  have hx := Bd.exec
  have hby := Bd.bytes
  have hml : c.maxLocals = 5 := hml0
  have hown : s.vm.findClass "com/example/bitlattice/bitlattice/eval/RelationGetPinLaw" = some m.cls := findClass_of_methodNamed Bd.named
  have hnm := (name_of_methodNamed Bd.named Bd.method).1
  have X0 : Stand p l e ({ frames := 0, cells := 1, slots := 1, locals := 0 } : Room) s m #[(.int (1 : Int32)), (.int p2), (.int p3), (.int p4)] below meth c s₁ [] 0 0 := Stand.of_body Bd
  have e0 : s₁.heap = h0 := by rw [← hh, Bd.state]; rfl
  have N0 := Fr.nil n0
  have K0 : Keep h0 h0 [] := Keep.refl h0 _
  refine Go.st (P := fun o U' => ∃ v L, o = .returned v ∧ Q1_1 Z p2 p3 p4 h0 n0 v U'.heap L ∧ FrameEnd s o U' L ({ frames := 0, cells := 1, slots := 1, locals := 0 } : Room).cells ({ frames := 0, cells := 1, slots := 1, locals := 0 } : Room).slots) (fun t k => castTop (ef1_1 m p2 p3 p4) k) ?_
  show Go _ _ _ (s₁.setTop (mkF m 0 #[.val (.int 1), .val (.int p2), .val (.int p3), .val (.int p4), .unset] [])) _
  refine Go.st (fun t k => XS.iloadN X0.here hx rfl (hb hby d1_0) rfl k) ?_
  obtain ⟨T1, h1, k1, X1, e1, E1, A1, st1⟩ := newP X0 hx hZ (aty := .int) (wd5 hw) e0 (g := (mkF m 1 #[.val (.int 1), .val (.int p2), .val (.int p3), .val (.int p4), .unset] [(.int 1)])) rfl (hb hby d1_1) rfl (by decide) (cap := 1) (by decide) (by decide) (by decide) (by decide)
  obtain ⟨b1, g1⟩ : ∃ z, z = h0.size := ⟨_, rfl⟩
  rw [← g1] at A1 st1
  refine Go.st st1 ?_
  have g_b1 : n0 ≤ b1 := Nat.le_trans Z0 (Nat.le_of_eq g1.symm)
  have sz_b1 : h0.size ≤ b1 := Nat.le_trans K0.1 (Nat.le_of_eq g1.symm)
  replace K0 := K0.ext E1
  replace Z0 := Nat.le_trans Z0 E1.1
  have V_b1 : Arv Z h1 b1 k1 .int (1 : Int32) [(.int (0 : Int32))] (.int (0 : Int32)) := (Arv.new A1 (by decide)).pad (pad_rep [] (.int (0 : Int32)) 1)
  show Go _ _ _ (T1.setTop (mkF m 3 #[.val (.int 1), .val (.int p2), .val (.int p3), .val (.int p4), .unset] [(.ref b1)])) _
  refine Go.st (fun t k => XS.astore X1.here hx rfl (hb hby d1_3) rfl rfl (l' := #[.val (.int 1), .val (.int p2), .val (.int p3), .val (.int p4), .val (.ref b1)]) rfl k) ?_
  refine Go.st (fun t k => XS.aload X1.here hx rfl (hb hby d1_5) rfl rfl k) ?_
  refine Go.st (fun t k => XS.iconst X1.here hx rfl (hb hby d1_7) k) ?_
  refine Go.st (fun t k => XS.iloadN X1.here hx rfl (hb hby d1_8) rfl k) ?_
  obtain ⟨cl2, Ar2, qq2, Sz2, Ng2, Hs2, Gs2⟩ := id V_b1
  have hin2 : ¬ ((0 : Int32) < 0 ∨ cl2.slots.size ≤ ((0 : Int32)).toNatClampNeg) := inb_of Sz2 ⟨by decide, by decide⟩
  obtain ⟨T3, h3, X3, e3, W3, st3⟩ := stI X1 hx hZ e1 Ar2 (j := (0 : Int32)) hin2 (g := (mkF m 9 #[.val (.int 1), .val (.int p2), .val (.int p3), .val (.int p4), .val (.ref b1)] [(.int p2), (.int 0), (.ref b1)])) rfl rfl (hb hby d1_9)
  refine Go.st st3 ?_
  have N3 := Fr.snoc X3 N0 g_b1
  replace Z0 := Nat.le_trans Z0 (Nat.le_of_eq W3.size.symm)
  replace K0 := K0.wr W3 (Or.inr sz_b1)
  replace V_b1 : Arv Z h3 b1 k1 .int (1 : Int32) [(.int p2)] (.int (0 : Int32)) := Arv.set Ar2 qq2 Sz2 Ng2 Hs2 Gs2 rfl W3 0 rfl (Nat.le_of_ble_eq_true rfl)
  show Go _ _ _ (T3.setTop (mkF m 10 #[.val (.int 1), .val (.int p2), .val (.int p3), .val (.int p4), .val (.ref b1)] [])) _
  refine Go.st (fun t k => XS.iloadN X3.here hx rfl (hb hby d1_10) rfl k) ?_
  refine Go.st (fun t k => XS.iconst X3.here hx rfl (hb hby d1_11) k) ?_
  refine Go.st (fun t k => XS.icmpYes X3.here hx rfl (pc0 := 12) (pc' := 20) rfl (hb hby d1_12) rfl (flt (by decide : ¬ ((1 : Int32) < (1 : Int32)))).2.2.2 (by decide) (by decide) k) ?_
  show Go _ _ _ (T3.setTop (mkF m 20 #[.val (.int 1), .val (.int p2), .val (.int p3), .val (.int p4), .val (.ref b1)] [])) _
  refine Go.st (fun t k => XS.iloadN X3.here hx rfl (hb hby d1_20) rfl k) ?_
  refine Go.st (fun t k => XS.iconst X3.here hx rfl (hb hby d1_21) k) ?_
  refine Go.st (fun t k => XS.icmpYes X3.here hx rfl (pc0 := 22) (pc' := 30) rfl (hb hby d1_22) rfl (flt (by decide : ¬ ((2 : Int32) < (1 : Int32)))).2.2.2 (by decide) (by decide) k) ?_
  show Go _ _ _ (T3.setTop (mkF m 30 #[.val (.int 1), .val (.int p2), .val (.int p3), .val (.int p4), .val (.ref b1)] [])) _
  refine Go.st (fun t k => XS.aload X3.here hx rfl (hb hby d1_30) rfl rfl k) ?_
  obtain ⟨fs, hr, hrun, hended, hW, hsame⟩ := X3.leave (v := some (.ref b1)) (fun h => by rw [Bd.returns] at h; cases h)
  refine Go.fin (retOut X3 hx Bd.returns rfl (Or.inr (Or.inr (Or.inr (Or.inr ⟨rfl, rfl, rfl⟩)))) (hb hby d1_32) hr) hrun hended ⟨_, _, rfl, ?_, ⟨_, rfl⟩, hW, hsame.mono (by decide) (by decide)⟩
  show Q1_1 Z p2 p3 p4 h0 n0 _ T3.heap _
  rw [e3]
  exact ⟨b1, k1, rfl, N3, K0, g_b1, sz_b1, V_b1⟩
theorem d2_0 : decode prog_33_method_1_code 0 = .ok (.aload_n 0, 1) := by decide +kernel
theorem d2_1 : decode prog_33_method_1_code 1 = .ok (.invokespecial 3, 3) := by decide +kernel
theorem wd12 {Z : State} {a0 : Array Value} (hw : ∀ d ∈ tables_1, d.before a0 Z = true) : (Jvm.Cond.methodLink "com/example/bitlattice/bitlattice/eval/Relation" (3 : Nat) ({ cls := "java/lang/Object", name := "<init>", desc := "()V" } : Jvm.MethodName)).before a0 Z = true := hw _ (List.mem_of_getElem? (i := 12) rfl)
theorem wd14 {Z : State} {a0 : Array Value} (hw : ∀ d ∈ tables_1, d.before a0 Z = true) : (Jvm.Cond.code ({ cls := "java/lang/Object", name := "<init>", desc := "()V" } : Jvm.MethodName) object_method_1_code (1 : Nat) (Option.none : Option Jvm.ClassFile.FieldType)).before a0 Z = true := hw _ (List.mem_of_getElem? (i := 14) rfl)
theorem wd13 {Z : State} {a0 : Array Value} (hw : ∀ d ∈ tables_1, d.before a0 Z = true) : (Jvm.Cond.instanceMethod ({ cls := "java/lang/Object", name := "<init>", desc := "()V" } : Jvm.MethodName)).before a0 Z = true := hw _ (List.mem_of_getElem? (i := 13) rfl)
theorem d2_4 : decode prog_33_method_1_code 4 = .ok (.aload_n 0, 1) := by decide +kernel
theorem d2_5 : decode prog_33_method_1_code 5 = .ok (.getstatic 9, 3) := by decide +kernel
theorem wd15 {Z : State} {a0 : Array Value} (hw : ∀ d ∈ tables_1, d.before a0 Z = true) : (Jvm.Cond.fieldLink "com/example/bitlattice/bitlattice/eval/Relation" (9 : Nat) "com/example/bitlattice/bitlattice/eval/Relation" "NO_INDEXES" "[Lcom/example/bitlattice/bitlattice/eval/Relation$Index;").before a0 Z = true := hw _ (List.mem_of_getElem? (i := 15) rfl)
theorem d2_8 : decode prog_33_method_1_code 8 = .ok (.putfield 15, 3) := by decide +kernel
theorem wd17 {Z : State} {a0 : Array Value} (hw : ∀ d ∈ tables_1, d.before a0 Z = true) : (Jvm.Cond.fieldLink "com/example/bitlattice/bitlattice/eval/Relation" (15 : Nat) "com/example/bitlattice/bitlattice/eval/Relation" "indexes" "[Lcom/example/bitlattice/bitlattice/eval/Relation$Index;").before a0 Z = true := hw _ (List.mem_of_getElem? (i := 17) rfl)
theorem wd18 {Z : State} {a0 : Array Value} (hw : ∀ d ∈ tables_1, d.before a0 Z = true) : (Jvm.Cond.lays "com/example/bitlattice/bitlattice/eval/Relation" "com/example/bitlattice/bitlattice/eval/Relation" "indexes" "[Lcom/example/bitlattice/bitlattice/eval/Relation$Index;").before a0 Z = true := hw _ (List.mem_of_getElem? (i := 18) rfl)
theorem wd7 {Z : State} {a0 : Array Value} (hw : ∀ d ∈ tables_1, d.before a0 Z = true) : (Jvm.Cond.instantiable "com/example/bitlattice/bitlattice/eval/Relation" (6 : Nat)).before a0 Z = true := hw _ (List.mem_of_getElem? (i := 7) rfl)
theorem wd36 {Z : State} {a0 : Array Value} (hw : ∀ d ∈ tables_1, d.before a0 Z = true) : (Jvm.Cond.lays "com/example/bitlattice/bitlattice/eval/Relation" "com/example/bitlattice/bitlattice/eval/Relation" "size" "I").before a0 Z = true := hw _ (List.mem_of_getElem? (i := 36) rfl)
theorem wd29 {Z : State} {a0 : Array Value} (hw : ∀ d ∈ tables_1, d.before a0 Z = true) : (Jvm.Cond.lays "com/example/bitlattice/bitlattice/eval/Relation" "com/example/bitlattice/bitlattice/eval/Relation" "members" "Lcom/example/bitlattice/bitlattice/eval/Relation$Index;").before a0 Z = true := hw _ (List.mem_of_getElem? (i := 29) rfl)
theorem wd55 {Z : State} {a0 : Array Value} (hw : ∀ d ∈ tables_1, d.before a0 Z = true) : (Jvm.Cond.lays "com/example/bitlattice/bitlattice/eval/Relation" "com/example/bitlattice/bitlattice/eval/Relation" "holdingAny" "I").before a0 Z = true := hw _ (List.mem_of_getElem? (i := 55) rfl)
theorem wd22 {Z : State} {a0 : Array Value} (hw : ∀ d ∈ tables_1, d.before a0 Z = true) : (Jvm.Cond.lays "com/example/bitlattice/bitlattice/eval/Relation" "com/example/bitlattice/bitlattice/eval/Relation" "values" "[I").before a0 Z = true := hw _ (List.mem_of_getElem? (i := 22) rfl)
theorem wd20 {Z : State} {a0 : Array Value} (hw : ∀ d ∈ tables_1, d.before a0 Z = true) : (Jvm.Cond.laysFinal "com/example/bitlattice/bitlattice/eval/Relation" "com/example/bitlattice/bitlattice/eval/Relation" "arity" "I").before a0 Z = true := hw _ (List.mem_of_getElem? (i := 20) rfl)
theorem d2_11 : decode prog_33_method_1_code 11 = .ok (.aload_n 0, 1) := by decide +kernel
theorem d2_12 : decode prog_33_method_1_code 12 = .ok (.iload_n 1, 1) := by decide +kernel
theorem d2_13 : decode prog_33_method_1_code 13 = .ok (.putfield 18, 3) := by decide +kernel
theorem wd19 {Z : State} {a0 : Array Value} (hw : ∀ d ∈ tables_1, d.before a0 Z = true) : (Jvm.Cond.fieldLink "com/example/bitlattice/bitlattice/eval/Relation" (18 : Nat) "com/example/bitlattice/bitlattice/eval/Relation" "arity" "I").before a0 Z = true := hw _ (List.mem_of_getElem? (i := 19) rfl)
theorem d2_16 : decode prog_33_method_1_code 16 = .ok (.aload_n 0, 1) := by decide +kernel
theorem d2_17 : decode prog_33_method_1_code 17 = .ok (.iload_n 1, 1) := by decide +kernel
theorem d2_18 : decode prog_33_method_1_code 18 = .ok (.iconst 4, 1) := by decide +kernel
theorem d2_19 : decode prog_33_method_1_code 19 = .ok (.imul, 1) := by decide +kernel
theorem d2_20 : decode prog_33_method_1_code 20 = .ok (.newarray .int, 2) := by decide +kernel
theorem d2_22 : decode prog_33_method_1_code 22 = .ok (.putfield 22, 3) := by decide +kernel
theorem wd21 {Z : State} {a0 : Array Value} (hw : ∀ d ∈ tables_1, d.before a0 Z = true) : (Jvm.Cond.fieldLink "com/example/bitlattice/bitlattice/eval/Relation" (22 : Nat) "com/example/bitlattice/bitlattice/eval/Relation" "values" "[I").before a0 Z = true := hw _ (List.mem_of_getElem? (i := 21) rfl)
theorem d2_25 : decode prog_33_method_1_code 25 = .ok (.return_, 1) := by decide +kernel
theorem pn1 : plainName "com/example/bitlattice/bitlattice/eval/Relation" = true := by first | (simp [plainName, overriddenIn]; done) | decide +kernel
def Q2_1 (Z : State) (a1 : Addr) (w_NI : Addr) (uI : Value) (uV : Value) (uA : Value) (h0 : Heap) (n0 : Nat) (v : Option Value) (h : Heap) (L : List Loc) : Prop := ∃ x2_1_0 : Addr, ∃ k_x2_1_0 : ClassId, v = none ∧ Fr n0 L ∧ Keep h0 h [a1] ∧ n0 ≤ x2_1_0 ∧ h0.size ≤ x2_1_0 ∧ Exa Z h a1 "com/example/bitlattice/bitlattice/eval/Relation" ∧ Fld Z h a1 "com/example/bitlattice/bitlattice/eval/Relation" "size" "I" (.int (0 : Int32)) ∧ Fld Z h a1 "com/example/bitlattice/bitlattice/eval/Relation" "members" "Lcom/example/bitlattice/bitlattice/eval/Relation$Index;" .null ∧ Fld Z h a1 "com/example/bitlattice/bitlattice/eval/Relation" "holdingAny" "I" (.int (0 : Int32)) ∧ Fld Z h a1 "com/example/bitlattice/bitlattice/eval/Relation" "indexes" "[Lcom/example/bitlattice/bitlattice/eval/Relation$Index;" (.ref w_NI) ∧ Fld Z h a1 "com/example/bitlattice/bitlattice/eval/Relation" "values" "[I" (.ref x2_1_0) ∧ Fld Z h a1 "com/example/bitlattice/bitlattice/eval/Relation" "arity" "I" (.int (1 : Int32)) ∧ Arv Z h x2_1_0 k_x2_1_0 .int (4 : Int32) [(.int (0 : Int32)), (.int (0 : Int32)), (.int (0 : Int32)), (.int (0 : Int32))] (.int (0 : Int32))
theorem ef2_1 (m : MethodId) (x0 : Addr) : entryFrame m #[(.ref x0), (.int (1 : Int32))] 2 = mkF m 0 #[.val (.ref x0), .val (.int (1 : Int32))] [] := by first | (simp [entryFrame, mkF, argsToLocals, Value.category]; done) | rfl
set_option maxRecDepth 65536 in
set_option maxHeartbeats 16000000 in
theorem rm2_1 (l : Launch) (Z : State) (a0 : Array Value) (hw : ∀ d ∈ tables_1, d.before a0 Z = true) (ws : List Jvm.Cond) (a1 : Addr) (w_NI : Addr) (uI : Value) (uV : Value) (uA : Value) (h0 : Heap) (n0 : Nat) (Z0 : n0 ≤ h0.size) (E_a1 : Exa Z h0 a1 "com/example/bitlattice/bitlattice/eval/Relation") (S_NI : Sta Z h0 "com/example/bitlattice/bitlattice/eval/Relation" "NO_INDEXES" "[Lcom/example/bitlattice/bitlattice/eval/Relation$Index;" (.ref w_NI)) (F_a1_size : Fld Z h0 a1 "com/example/bitlattice/bitlattice/eval/Relation" "size" "I" (.int (0 : Int32))) (F_a1_members : Fld Z h0 a1 "com/example/bitlattice/bitlattice/eval/Relation" "members" "Lcom/example/bitlattice/bitlattice/eval/Relation$Index;" .null) (F_a1_holdingAny : Fld Z h0 a1 "com/example/bitlattice/bitlattice/eval/Relation" "holdingAny" "I" (.int (0 : Int32))) (F_a1_indexes : Fld Z h0 a1 "com/example/bitlattice/bitlattice/eval/Relation" "indexes" "[Lcom/example/bitlattice/bitlattice/eval/Relation$Index;" uI) (F_a1_values : Fld Z h0 a1 "com/example/bitlattice/bitlattice/eval/Relation" "values" "[I" uV) (F_a1_arity : Fld Z h0 a1 "com/example/bitlattice/bitlattice/eval/Relation" "arity" "I" uA) (g_a1 : n0 ≤ a1) :
    MetFree l (⟨"com/example/bitlattice/bitlattice/eval/Relation", "<init>", "(I)V"⟩ : MethodName) (head1 (Jvm.Cond.code (⟨"com/example/bitlattice/bitlattice/eval/Relation", "<init>", "(I)V"⟩ : MethodName) prog_33_method_1_code 2 none :: ws) ({ frames := 1, cells := 1, slots := 4, locals := 12 } : Room)) (fun a U => a = #[(.ref a1), (.int (1 : Int32))] ∧ Z.Warmed39 U.vm ∧ U.heap = h0) (fun _ _ _ _ _ => True) (fun _ U o U' => ∃ v L, o = .returned v ∧ Q2_1 Z a1 w_NI uI uV uA h0 n0 v U'.heap L ∧ FrameEnd U o U' L ({ frames := 1, cells := 1, slots := 4, locals := 12 } : Room).cells ({ frames := 1, cells := 1, slots := 4, locals := 12 } : Room).slots) := by
  refine MetFree.of_bodySF (plainFor_of_name pn1) hisR ?_
  intro p e s m args below meth c s₁ Bd hml0 hP hK
  obtain ⟨rfl, hZ, hh⟩ := hP
  have hx := Bd.exec
  have hby := Bd.bytes
  have hml : c.maxLocals = 2 := hml0
  have hown : s.vm.findClass "com/example/bitlattice/bitlattice/eval/Relation" = some m.cls := findClass_of_methodNamed Bd.named
  have hnm := (name_of_methodNamed Bd.named Bd.method).1
  have X0 : Stand p l e ({ frames := 1, cells := 1, slots := 4, locals := 12 } : Room) s m #[(.ref a1), (.int (1 : Int32))] below meth c s₁ [] 0 0 := Stand.of_body Bd
  have e0 : s₁.heap = h0 := by rw [← hh, Bd.state]; rfl
  have N0 := Fr.nil n0
  have K0 : Keep h0 h0 [a1] := Keep.refl h0 _
  refine Go.st (P := fun o U' => ∃ v L, o = .returned v ∧ Q2_1 Z a1 w_NI uI uV uA h0 n0 v U'.heap L ∧ FrameEnd s o U' L ({ frames := 1, cells := 1, slots := 4, locals := 12 } : Room).cells ({ frames := 1, cells := 1, slots := 4, locals := 12 } : Room).slots) (fun t k => castTop (ef2_1 m a1) k) ?_
  show Go _ _ _ (s₁.setTop (mkF m 0 #[.val (.ref a1), .val (.int 1)] [])) _
  refine Go.st (fun t k => XS.aloadN X0.here hx rfl (hb hby d2_0) rfl rfl k) ?_
  obtain ⟨T1, X1, e1, st1⟩ := initO X0 hx hZ hown (wd12 hw) (wd13 hw) (wd14 hw) e0 (g := (mkF m 1 #[.val (.ref a1), .val (.int 1)] [(.ref a1)])) rfl (by rw [hml]; rfl) rfl (hb hby d2_1) (by decide) (W := 0) (by show 2 * 0 + _ ≤ _; exact Nat.le_of_eq rfl) (by decide)
  refine Go.st st1 ?_
  show Go _ _ _ (T1.setTop (mkF m 4 #[.val (.ref a1), .val (.int 1)] [])) _
  refine Go.st (fun t k => XS.aloadN X1.here hx rfl (hb hby d2_4) rfl rfl k) ?_
  obtain ⟨T2, X2, e2, st2⟩ := getS2 X1 hx hZ hown (host := "") (Or.inl (wd15 hw)) Via.refl e1 S_NI (g := (mkF m 5 #[.val (.ref a1), .val (.int 1)] [(.ref a1)])) rfl (hb hby d2_5)
  refine Go.st st2 ?_
  show Go _ _ _ (T2.setTop (mkF m 8 #[.val (.ref a1), .val (.int 1)] [(.ref w_NI), (.ref a1)])) _
  obtain ⟨T3, h3, X3, e3, W3, st3⟩ := putF X2 hx hZ hown (host := "") (Or.inl (wd17 hw)) Via.refl e2 F_a1_indexes E_a1 (Or.inl (wd18 hw)) (wd7 hw) (ty := (.array (.object "com/example/bitlattice/bitlattice/eval/Relation$Index"))) (by decide) rfl rfl (g := (mkF m 8 #[.val (.ref a1), .val (.int 1)] [(.ref w_NI), (.ref a1)])) rfl rfl (hb hby d2_8)
  refine Go.st st3 ?_
  have N3 := Fr.snoc X3 N0 g_a1
  replace E_a1 := E_a1.wr W3
  replace S_NI := S_NI.wr W3
  replace F_a1_size := F_a1_size.other W3 (Or.inr (slot_ne (Or.inl (wd36 hw)) (Or.inl (wd18 hw)) (by decide) (t := .int) (t' := (.array (.object "com/example/bitlattice/bitlattice/eval/Relation$Index"))) (by decide) (by decide)))
  replace F_a1_members := F_a1_members.other W3 (Or.inr (slot_ne (Or.inl (wd29 hw)) (Or.inl (wd18 hw)) (by decide) (t := (.object "com/example/bitlattice/bitlattice/eval/Relation$Index")) (t' := (.array (.object "com/example/bitlattice/bitlattice/eval/Relation$Index"))) (by decide) (by decide)))
  replace F_a1_holdingAny := F_a1_holdingAny.other W3 (Or.inr (slot_ne (Or.inl (wd55 hw)) (Or.inl (wd18 hw)) (by decide) (t := .int) (t' := (.array (.object "com/example/bitlattice/bitlattice/eval/Relation$Index"))) (by decide) (by decide)))
  replace F_a1_indexes := F_a1_indexes.same W3
  replace F_a1_values := F_a1_values.other W3 (Or.inr (slot_ne (Or.inl (wd22 hw)) (Or.inl (wd18 hw)) (by decide) (t := (.array .int)) (t' := (.array (.object "com/example/bitlattice/bitlattice/eval/Relation$Index"))) (by decide) (by decide)))
  replace F_a1_arity := F_a1_arity.other W3 (Or.inr (slot_ne (Or.inr (wd20 hw)) (Or.inl (wd18 hw)) (by decide) (t := .int) (t' := (.array (.object "com/example/bitlattice/bitlattice/eval/Relation$Index"))) (by decide) (by decide)))
  replace Z0 := Nat.le_trans Z0 (Nat.le_of_eq W3.size.symm)
  replace K0 := K0.wr W3 (Or.inl (by simp))
  show Go _ _ _ (T3.setTop (mkF m 11 #[.val (.ref a1), .val (.int 1)] [])) _
  refine Go.st (fun t k => XS.aloadN X3.here hx rfl (hb hby d2_11) rfl rfl k) ?_
  refine Go.st (fun t k => XS.iloadN X3.here hx rfl (hb hby d2_12) rfl k) ?_
  obtain ⟨T4, h4, X4, e4, W4, st4⟩ := putF X3 hx hZ hown (host := "") (Or.inl (wd19 hw)) Via.refl e3 F_a1_arity E_a1 (Or.inr ⟨(wd20 hw), rfl, hnm⟩) (wd7 hw) (ty := .int) (by decide) rfl rfl (g := (mkF m 13 #[.val (.ref a1), .val (.int 1)] [(.int 1), (.ref a1)])) rfl rfl (hb hby d2_13)
  refine Go.st st4 ?_
  have N4 := Fr.snoc X4 N3 g_a1
  replace E_a1 := E_a1.wr W4
  replace S_NI := S_NI.wr W4
  replace F_a1_size := F_a1_size.other W4 (Or.inr (slot_ne (Or.inl (wd36 hw)) (Or.inr (wd20 hw)) (by decide) (t := .int) (t' := .int) (by decide) (by decide)))
  replace F_a1_members := F_a1_members.other W4 (Or.inr (slot_ne (Or.inl (wd29 hw)) (Or.inr (wd20 hw)) (by decide) (t := (.object "com/example/bitlattice/bitlattice/eval/Relation$Index")) (t' := .int) (by decide) (by decide)))
  replace F_a1_holdingAny := F_a1_holdingAny.other W4 (Or.inr (slot_ne (Or.inl (wd55 hw)) (Or.inr (wd20 hw)) (by decide) (t := .int) (t' := .int) (by decide) (by decide)))
  replace F_a1_indexes := F_a1_indexes.other W4 (Or.inr (slot_ne (Or.inl (wd18 hw)) (Or.inr (wd20 hw)) (by decide) (t := (.array (.object "com/example/bitlattice/bitlattice/eval/Relation$Index"))) (t' := .int) (by decide) (by decide)))
  replace F_a1_values := F_a1_values.other W4 (Or.inr (slot_ne (Or.inl (wd22 hw)) (Or.inr (wd20 hw)) (by decide) (t := (.array .int)) (t' := .int) (by decide) (by decide)))
  replace F_a1_arity := F_a1_arity.same W4
  replace Z0 := Nat.le_trans Z0 (Nat.le_of_eq W4.size.symm)
  replace K0 := K0.wr W4 (Or.inl (by simp))
  show Go _ _ _ (T4.setTop (mkF m 16 #[.val (.ref a1), .val (.int 1)] [])) _
  refine Go.st (fun t k => XS.aloadN X4.here hx rfl (hb hby d2_16) rfl rfl k) ?_
  refine Go.st (fun t k => XS.iloadN X4.here hx rfl (hb hby d2_17) rfl k) ?_
  refine Go.st (fun t k => XS.iconst X4.here hx rfl (hb hby d2_18) k) ?_
  refine Go.st (fun t k => XS.imul X4.here hx rfl (hb hby d2_19) rfl k) ?_
  show Go _ _ _ (T4.setTop (mkF m 20 #[.val (.ref a1), .val (.int 1)] [(.int 4), (.ref a1)])) _
  obtain ⟨T5, h5, k5, X5, e5, E5, A5, st5⟩ := newP X4 hx hZ (aty := .int) (wd5 hw) e4 (g := (mkF m 20 #[.val (.ref a1), .val (.int 1)] [(.int 4), (.ref a1)])) rfl (hb hby d2_20) rfl (by decide) (cap := 4) (by decide) (by decide) (by decide) (by decide)
  obtain ⟨b5, g5⟩ : ∃ z, z = h4.size := ⟨_, rfl⟩
  rw [← g5] at A5 st5
  refine Go.st st5 ?_
  have ne_a1_b5 : a1 ≠ b5 := Nat.ne_of_lt (Nat.lt_of_lt_of_le E_a1.lt (Nat.le_of_eq g5.symm))
  have g_b5 : n0 ≤ b5 := Nat.le_trans Z0 (Nat.le_of_eq g5.symm)
  have sz_b5 : h0.size ≤ b5 := Nat.le_trans K0.1 (Nat.le_of_eq g5.symm)
  replace E_a1 := E_a1.ext E5
  replace S_NI := S_NI.ext E5
  replace F_a1_size := F_a1_size.ext E5
  replace F_a1_members := F_a1_members.ext E5
  replace F_a1_holdingAny := F_a1_holdingAny.ext E5
  replace F_a1_indexes := F_a1_indexes.ext E5
  replace F_a1_values := F_a1_values.ext E5
  replace F_a1_arity := F_a1_arity.ext E5
  replace K0 := K0.ext E5
  replace Z0 := Nat.le_trans Z0 E5.1
  have V_b5 : Arv Z h5 b5 k5 .int (4 : Int32) [(.int (0 : Int32)), (.int (0 : Int32)), (.int (0 : Int32)), (.int (0 : Int32))] (.int (0 : Int32)) := (Arv.new A5 (by decide)).pad (pad_rep [] (.int (0 : Int32)) 4)
  show Go _ _ _ (T5.setTop (mkF m 22 #[.val (.ref a1), .val (.int 1)] [(.ref b5), (.ref a1)])) _
  obtain ⟨T6, h6, X6, e6, W6, st6⟩ := putF X5 hx hZ hown (host := "") (Or.inl (wd21 hw)) Via.refl e5 F_a1_values E_a1 (Or.inl (wd22 hw)) (wd7 hw) (ty := (.array .int)) (by decide) rfl rfl (g := (mkF m 22 #[.val (.ref a1), .val (.int 1)] [(.ref b5), (.ref a1)])) rfl rfl (hb hby d2_22)
  refine Go.st st6 ?_
  have N6 := Fr.snoc X6 N4 g_a1
  replace E_a1 := E_a1.wr W6
  replace S_NI := S_NI.wr W6
  replace F_a1_size := F_a1_size.other W6 (Or.inr (slot_ne (Or.inl (wd36 hw)) (Or.inl (wd22 hw)) (by decide) (t := .int) (t' := (.array .int)) (by decide) (by decide)))
  replace F_a1_members := F_a1_members.other W6 (Or.inr (slot_ne (Or.inl (wd29 hw)) (Or.inl (wd22 hw)) (by decide) (t := (.object "com/example/bitlattice/bitlattice/eval/Relation$Index")) (t' := (.array .int)) (by decide) (by decide)))
  replace F_a1_holdingAny := F_a1_holdingAny.other W6 (Or.inr (slot_ne (Or.inl (wd55 hw)) (Or.inl (wd22 hw)) (by decide) (t := .int) (t' := (.array .int)) (by decide) (by decide)))
  replace F_a1_indexes := F_a1_indexes.other W6 (Or.inr (slot_ne (Or.inl (wd18 hw)) (Or.inl (wd22 hw)) (by decide) (t := (.array (.object "com/example/bitlattice/bitlattice/eval/Relation$Index"))) (t' := (.array .int)) (by decide) (by decide)))
  replace F_a1_values := F_a1_values.same W6
  replace F_a1_arity := F_a1_arity.other W6 (Or.inr (slot_ne (Or.inr (wd20 hw)) (Or.inl (wd22 hw)) (by decide) (t := .int) (t' := (.array .int)) (by decide) (by decide)))
  replace V_b5 := V_b5.other W6 (Ne.symm ne_a1_b5)
  replace Z0 := Nat.le_trans Z0 (Nat.le_of_eq W6.size.symm)
  replace K0 := K0.wr W6 (Or.inl (by simp))
  show Go _ _ _ (T6.setTop (mkF m 25 #[.val (.ref a1), .val (.int 1)] [])) _
  obtain ⟨fs, hr, hrun, hended, hW, hsame⟩ := X6.leave (v := none) (fun _ => rfl)
  refine Go.fin (X6.returnOut hx Bd.returns (hb hby d2_25) hr) hrun hended ⟨_, _, rfl, ?_, ⟨_, rfl⟩, hW, hsame.mono (by decide) (by decide)⟩
  show Q2_1 Z a1 w_NI uI uV uA h0 n0 _ T6.heap _
  rw [e6]
  exact ⟨b5, k5, rfl, N6, K0, g_b5, sz_b5, E_a1, F_a1_size, F_a1_members, F_a1_holdingAny, F_a1_indexes, F_a1_values, F_a1_arity, V_b5⟩
theorem d6_0 : decode prog_33_method_16_code 0 = .ok (.iconst 0, 1) := by decide +kernel
theorem d6_1 : decode prog_33_method_16_code 1 = .ok (.istore_n 3, 1) := by decide +kernel
theorem d6_2 : decode prog_33_method_16_code 2 = .ok (.iload_n 3, 1) := by decide +kernel
theorem d6_3 : decode prog_33_method_16_code 3 = .ok (.aload_n 0, 1) := by decide +kernel
theorem d6_4 : decode prog_33_method_16_code 4 = .ok (.getfield 18, 3) := by decide +kernel
theorem d6_7 : decode prog_33_method_16_code 7 = .ok (.if_icmp .ge 30, 3) := by decide +kernel
theorem d6_10 : decode prog_33_method_16_code 10 = .ok (.aload_n 0, 1) := by decide +kernel
theorem d6_11 : decode prog_33_method_16_code 11 = .ok (.getfield 22, 3) := by decide +kernel
theorem d6_14 : decode prog_33_method_16_code 14 = .ok (.iload_n 1, 1) := by decide +kernel
theorem d6_15 : decode prog_33_method_16_code 15 = .ok (.aload_n 0, 1) := by decide +kernel
theorem d6_16 : decode prog_33_method_16_code 16 = .ok (.getfield 18, 3) := by decide +kernel
theorem d6_19 : decode prog_33_method_16_code 19 = .ok (.imul, 1) := by decide +kernel
theorem d6_20 : decode prog_33_method_16_code 20 = .ok (.iload_n 3, 1) := by decide +kernel
theorem d6_21 : decode prog_33_method_16_code 21 = .ok (.iadd, 1) := by decide +kernel
theorem d6_22 : decode prog_33_method_16_code 22 = .ok (.iaload, 1) := by decide +kernel
theorem d6_23 : decode prog_33_method_16_code 23 = .ok (.aload_n 2, 1) := by decide +kernel
theorem d6_24 : decode prog_33_method_16_code 24 = .ok (.iload_n 3, 1) := by decide +kernel
theorem d6_25 : decode prog_33_method_16_code 25 = .ok (.iaload, 1) := by decide +kernel
theorem d6_26 : decode prog_33_method_16_code 26 = .ok (.if_icmp .eq 5, 3) := by decide +kernel
theorem d6_31 : decode prog_33_method_16_code 31 = .ok (.iinc 3 1, 3) := by decide +kernel
theorem d6_34 : decode prog_33_method_16_code 34 = .ok (.goto (-32), 3) := by decide +kernel
theorem d6_37 : decode prog_33_method_16_code 37 = .ok (.iconst 1, 1) := by decide +kernel
theorem d6_38 : decode prog_33_method_16_code 38 = .ok (.ireturn, 1) := by decide +kernel
theorem d6_29 : decode prog_33_method_16_code 29 = .ok (.iconst 0, 1) := by decide +kernel
theorem d6_30 : decode prog_33_method_16_code 30 = .ok (.ireturn, 1) := by decide +kernel
def f6_1 (v0 : Int32) (x0 : Int32) : Int32 := (if v0 = x0 then (1 : Int32) else (0 : Int32))
def Q6_1 (Z : State) (a1 : Addr) (a3 : Addr) (vals : Addr) (w_NI : Addr) (k_NI : ClassId) (hAny : Int32) (k_v : ClassId) (v0 : Int32) (v1 : Int32) (v2 : Int32) (v3 : Int32) (k_x : ClassId) (x0 : Int32) (h0 : Heap) (n0 : Nat) (v : Option Value) (h : Heap) (L : List Loc) : Prop := v = some (.int (f6_1 v0 x0)) ∧ Fr n0 L ∧ h = h0
theorem ef6_1 (m : MethodId) (x0 : Addr) (x2 : Addr) : entryFrame m #[(.ref x0), (.int (0 : Int32)), (.ref x2)] 4 = mkF m 0 #[.val (.ref x0), .val (.int (0 : Int32)), .val (.ref x2), .unset] [] := by first | (simp [entryFrame, mkF, argsToLocals, Value.category]; done) | rfl
set_option maxRecDepth 65536 in
set_option maxHeartbeats 16000000 in
theorem rm6_1 (l : Launch) (Z : State) (a0 : Array Value) (hw : ∀ d ∈ tables_1, d.before a0 Z = true) (ws : List Jvm.Cond) (a1 : Addr) (a3 : Addr) (vals : Addr) (w_NI : Addr) (k_NI : ClassId) (hAny : Int32) (k_v : ClassId) (v0 : Int32) (v1 : Int32) (v2 : Int32) (v3 : Int32) (k_x : ClassId) (x0 : Int32) (h0 : Heap) (n0 : Nat) (Z0 : n0 ≤ h0.size) (E_a1 : Exa Z h0 a1 "com/example/bitlattice/bitlattice/eval/Relation") (V_NI : Arv Z h0 w_NI k_NI (.object "com/example/bitlattice/bitlattice/eval/Relation$Index") (0 : Int32) [] .null) (F_a1_arity : Fld Z h0 a1 "com/example/bitlattice/bitlattice/eval/Relation" "arity" "I" (.int (1 : Int32))) (F_a1_values : Fld Z h0 a1 "com/example/bitlattice/bitlattice/eval/Relation" "values" "[I" (.ref vals)) (F_a1_size : Fld Z h0 a1 "com/example/bitlattice/bitlattice/eval/Relation" "size" "I" (.int (1 : Int32))) (F_a1_members : Fld Z h0 a1 "com/example/bitlattice/bitlattice/eval/Relation" "members" "Lcom/example/bitlattice/bitlattice/eval/Relation$Index;" .null) (F_a1_indexes : Fld Z h0 a1 "com/example/bitlattice/bitlattice/eval/Relation" "indexes" "[Lcom/example/bitlattice/bitlattice/eval/Relation$Index;" (.ref w_NI)) (F_a1_holdingAny : Fld Z h0 a1 "com/example/bitlattice/bitlattice/eval/Relation" "holdingAny" "I" (.int hAny)) (V_vals : Arv Z h0 vals k_v .int (4 : Int32) [(.int v0), (.int v1), (.int v2), (.int v3)] (.int (0 : Int32))) (V_row : Arv Z h0 a3 k_x .int (1 : Int32) [(.int x0)] (.int (0 : Int32))) (ne_vals_a1 : vals ≠ a1) (ne_a3_a1 : a3 ≠ a1) (ne_vals_a3 : vals ≠ a3) (ne_w_NI_a1 : w_NI ≠ a1) (ne_w_NI_vals : w_NI ≠ vals) (ne_w_NI_a3 : w_NI ≠ a3) :
    MetFree l (⟨"com/example/bitlattice/bitlattice/eval/Relation", "rowIs", "(I[I)Z"⟩ : MethodName) (head1 (Jvm.Cond.code (⟨"com/example/bitlattice/bitlattice/eval/Relation", "rowIs", "(I[I)Z"⟩ : MethodName) prog_33_method_16_code 4 (some .boolean) :: ws) ({ frames := 0, cells := 0, slots := 0, locals := 0 } : Room)) (fun a U => a = #[(.ref a1), (.int (0 : Int32)), (.ref a3)] ∧ Z.Warmed39 U.vm ∧ U.heap = h0) (fun _ _ _ _ _ => True) (fun _ U o U' => ∃ v L, o = .returned v ∧ Q6_1 Z a1 a3 vals w_NI k_NI hAny k_v v0 v1 v2 v3 k_x x0 h0 n0 v U'.heap L ∧ FrameEnd U o U' L ({ frames := 0, cells := 0, slots := 0, locals := 0 } : Room).cells ({ frames := 0, cells := 0, slots := 0, locals := 0 } : Room).slots) := by
  refine MetFree.of_bodySF (plainFor_of_name pn1) hisR ?_
  intro p e s m args below meth c s₁ Bd hml0 hP hK
  obtain ⟨rfl, hZ, hh⟩ := hP
  have hx := Bd.exec
  have hby := Bd.bytes
  have hml : c.maxLocals = 4 := hml0
  have hown : s.vm.findClass "com/example/bitlattice/bitlattice/eval/Relation" = some m.cls := findClass_of_methodNamed Bd.named
  have hnm := (name_of_methodNamed Bd.named Bd.method).1
  have X0 : Stand p l e ({ frames := 0, cells := 0, slots := 0, locals := 0 } : Room) s m #[(.ref a1), (.int (0 : Int32)), (.ref a3)] below meth c s₁ [] 0 0 := Stand.of_body Bd
  have e0 : s₁.heap = h0 := by rw [← hh, Bd.state]; rfl
  have N0 := Fr.nil n0
  have K0 : Keep h0 h0 [] := Keep.refl h0 _
  refine Go.st (P := fun o U' => ∃ v L, o = .returned v ∧ Q6_1 Z a1 a3 vals w_NI k_NI hAny k_v v0 v1 v2 v3 k_x x0 h0 n0 v U'.heap L ∧ FrameEnd s o U' L ({ frames := 0, cells := 0, slots := 0, locals := 0 } : Room).cells ({ frames := 0, cells := 0, slots := 0, locals := 0 } : Room).slots) (fun t k => castTop (ef6_1 m a1 a3) k) ?_
  show Go _ _ _ (s₁.setTop (mkF m 0 #[.val (.ref a1), .val (.int 0), .val (.ref a3), .unset] [])) _
  refine Go.st (fun t k => XS.iconst X0.here hx rfl (hb hby d6_0) k) ?_
  refine Go.st (fun t k => XS.istoreN X0.here hx rfl (hb hby d6_1) rfl (l' := #[.val (.ref a1), .val (.int 0), .val (.ref a3), .val (.int 0)]) rfl k) ?_
  refine Go.st (fun t k => XS.iloadN X0.here hx rfl (hb hby d6_2) rfl k) ?_
  refine Go.st (fun t k => XS.aloadN X0.here hx rfl (hb hby d6_3) rfl rfl k) ?_
  obtain ⟨T1, X1, e1, st1⟩ := getF X0 hx hZ hown (host := "") (Or.inl (wd19 hw)) Via.refl e0 F_a1_arity (g := (mkF m 4 #[.val (.ref a1), .val (.int 0), .val (.ref a3), .val (.int 0)] [(.ref a1), (.int 0)])) rfl rfl (hb hby d6_4)
  refine Go.st st1 ?_
  show Go _ _ _ (T1.setTop (mkF m 7 #[.val (.ref a1), .val (.int 0), .val (.ref a3), .val (.int 0)] [(.int 1), (.int 0)])) _
  refine Go.st (fun t k => XS.icmpNo X1.here hx rfl (hb hby d6_7) rfl (tlt (by decide : (0 : Int32) < (1 : Int32))).2.1 k) ?_
  show Go _ _ _ (T1.setTop (mkF m 10 #[.val (.ref a1), .val (.int 0), .val (.ref a3), .val (.int 0)] [])) _
  refine Go.st (fun t k => XS.aloadN X1.here hx rfl (hb hby d6_10) rfl rfl k) ?_
  obtain ⟨T2, X2, e2, st2⟩ := getF X1 hx hZ hown (host := "") (Or.inl (wd21 hw)) Via.refl e1 F_a1_values (g := (mkF m 11 #[.val (.ref a1), .val (.int 0), .val (.ref a3), .val (.int 0)] [(.ref a1)])) rfl rfl (hb hby d6_11)
  refine Go.st st2 ?_
  show Go _ _ _ (T2.setTop (mkF m 14 #[.val (.ref a1), .val (.int 0), .val (.ref a3), .val (.int 0)] [(.ref vals)])) _
  refine Go.st (fun t k => XS.iloadN X2.here hx rfl (hb hby d6_14) rfl k) ?_
  refine Go.st (fun t k => XS.aloadN X2.here hx rfl (hb hby d6_15) rfl rfl k) ?_
  obtain ⟨T3, X3, e3, st3⟩ := getF X2 hx hZ hown (host := "") (Or.inl (wd19 hw)) Via.refl e2 F_a1_arity (g := (mkF m 16 #[.val (.ref a1), .val (.int 0), .val (.ref a3), .val (.int 0)] [(.ref a1), (.int 0), (.ref vals)])) rfl rfl (hb hby d6_16)
  refine Go.st st3 ?_
  show Go _ _ _ (T3.setTop (mkF m 19 #[.val (.ref a1), .val (.int 0), .val (.ref a3), .val (.int 0)] [(.int 1), (.int 0), (.ref vals)])) _
  refine Go.st (fun t k => XS.imul X3.here hx rfl (hb hby d6_19) rfl k) ?_
  show Go _ _ _ (T3.setTop (mkF m 20 #[.val (.ref a1), .val (.int 0), .val (.ref a3), .val (.int 0)] [(.int 0), (.ref vals)])) _
  refine Go.st (fun t k => XS.iloadN X3.here hx rfl (hb hby d6_20) rfl k) ?_
  refine Go.st (fun t k => XS.iadd X3.here hx rfl (hb hby d6_21) rfl k) ?_
  show Go _ _ _ (T3.setTop (mkF m 22 #[.val (.ref a1), .val (.int 0), .val (.ref a3), .val (.int 0)] [(.int 0), (.ref vals)])) _
  obtain ⟨cl4, Ar4, -, Sz4, Ng4, Hs4, -⟩ := id V_vals
  have hin4 : ¬ ((0 : Int32) < 0 ∨ cl4.slots.size ≤ ((0 : Int32)).toNatClampNeg) := inb_of Sz4 ⟨by decide, by decide⟩
  refine Go.st (fun t k => X3.iaload hx (j := (0 : Int32)) (v := (.int v0)) (by rw [e3]; exact Ar4.1) (State.isArrayOf_alike hZ.alike Ar4.2.1) Ar4.2.2 hin4 (Has.at Hs4 hin4 rfl) (g := (mkF m 22 #[.val (.ref a1), .val (.int 0), .val (.ref a3), .val (.int 0)] [(.int 0), (.ref vals)])) rfl rfl (hb hby d6_22) _ k) ?_
  show Go _ _ _ (T3.setTop (mkF m 23 #[.val (.ref a1), .val (.int 0), .val (.ref a3), .val (.int 0)] [(.int v0)])) _
  refine Go.st (fun t k => XS.aloadN X3.here hx rfl (hb hby d6_23) rfl rfl k) ?_
  refine Go.st (fun t k => XS.iloadN X3.here hx rfl (hb hby d6_24) rfl k) ?_
  obtain ⟨cl5, Ar5, -, Sz5, Ng5, Hs5, -⟩ := id V_row
  have hin5 : ¬ ((0 : Int32) < 0 ∨ cl5.slots.size ≤ ((0 : Int32)).toNatClampNeg) := inb_of Sz5 ⟨by decide, by decide⟩
  refine Go.st (fun t k => X3.iaload hx (j := (0 : Int32)) (v := (.int x0)) (by rw [e3]; exact Ar5.1) (State.isArrayOf_alike hZ.alike Ar5.2.1) Ar5.2.2 hin5 (Has.at Hs5 hin5 rfl) (g := (mkF m 25 #[.val (.ref a1), .val (.int 0), .val (.ref a3), .val (.int 0)] [(.int 0), (.ref a3), (.int v0)])) rfl rfl (hb hby d6_25) _ k) ?_
  show Go _ _ _ (T3.setTop (mkF m 26 #[.val (.ref a1), .val (.int 0), .val (.ref a3), .val (.int 0)] [(.int x0), (.int v0)])) _
  by_cases hc6 : v0 = x0
  · refine Go.st (fun t k => XS.icmpYes X3.here hx rfl (pc0 := 26) (pc' := 31) rfl (hb hby d6_26) rfl (teq hc6).1 (by decide) (by decide) k) ?_
    show Go _ _ _ (T3.setTop (mkF m 31 #[.val (.ref a1), .val (.int 0), .val (.ref a3), .val (.int 0)] [])) _
    refine Go.st (fun t k => XS.iinc X3.here hx rfl (hb hby d6_31) rfl (l' := #[.val (.ref a1), .val (.int (0 : Int32)), .val (.ref a3), .val (.int ((0 : Int32) + (1 : Int32)))]) rfl k) ?_
    show Go _ _ _ (T3.setTop (mkF m 34 #[.val (.ref a1), .val (.int 0), .val (.ref a3), .val (.int 1)] [])) _
    refine Go.st (fun t k => XS.goto X3.here hx rfl (pc0 := 34) (pc' := 2) rfl (hb hby d6_34) (by decide) (by decide) k) ?_
    refine Go.st (fun t k => XS.iloadN X3.here hx rfl (hb hby d6_2) rfl k) ?_
    refine Go.st (fun t k => XS.aloadN X3.here hx rfl (hb hby d6_3) rfl rfl k) ?_
    obtain ⟨T7, X7, e7, st7⟩ := getF X3 hx hZ hown (host := "") (Or.inl (wd19 hw)) Via.refl e3 F_a1_arity (g := (mkF m 4 #[.val (.ref a1), .val (.int 0), .val (.ref a3), .val (.int 1)] [(.ref a1), (.int 1)])) rfl rfl (hb hby d6_4)
    refine Go.st st7 ?_
    show Go _ _ _ (T7.setTop (mkF m 7 #[.val (.ref a1), .val (.int 0), .val (.ref a3), .val (.int 1)] [(.int 1), (.int 1)])) _
    refine Go.st (fun t k => XS.icmpYes X7.here hx rfl (pc0 := 7) (pc' := 37) rfl (hb hby d6_7) rfl (flt (by decide : ¬ ((1 : Int32) < (1 : Int32)))).2.1 (by decide) (by decide) k) ?_
    show Go _ _ _ (T7.setTop (mkF m 37 #[.val (.ref a1), .val (.int 0), .val (.ref a3), .val (.int 1)] [])) _
    refine Go.st (fun t k => XS.iconst X7.here hx rfl (hb hby d6_37) k) ?_
    obtain ⟨fs, hr, hrun, hended, hW, hsame⟩ := X7.leave (v := some (.int (1 : Int32))) (fun h => by rw [Bd.returns] at h; cases h)
    refine Go.fin (retN X7 hx (t := .boolean) Bd.returns (by simp) (hb hby d6_38) hr) hrun hended ⟨_, _, rfl, ?_, ⟨_, rfl⟩, hW, hsame.mono (by decide) (by decide)⟩
    show Q6_1 Z a1 a3 vals w_NI k_NI hAny k_v v0 v1 v2 v3 k_x x0 h0 n0 _ T7.heap _
    rw [e7]
    exact ⟨(by unfold f6_1; simp only [if_pos hc6]), N0, rfl⟩
  · refine Go.st (fun t k => XS.icmpNo X3.here hx rfl (hb hby d6_26) rfl (feq hc6).1 k) ?_
    show Go _ _ _ (T3.setTop (mkF m 29 #[.val (.ref a1), .val (.int 0), .val (.ref a3), .val (.int 0)] [])) _
    refine Go.st (fun t k => XS.iconst X3.here hx rfl (hb hby d6_29) k) ?_
    obtain ⟨fs, hr, hrun, hended, hW, hsame⟩ := X3.leave (v := some (.int (0 : Int32))) (fun h => by rw [Bd.returns] at h; cases h)
    refine Go.fin (retN X3 hx (t := .boolean) Bd.returns (by simp) (hb hby d6_30) hr) hrun hended ⟨_, _, rfl, ?_, ⟨_, rfl⟩, hW, hsame.mono (by decide) (by decide)⟩
    show Q6_1 Z a1 a3 vals w_NI k_NI hAny k_v v0 v1 v2 v3 k_x x0 h0 n0 _ T3.heap _
    rw [e3]
    exact ⟨(by unfold f6_1; simp only [if_neg hc6]), N0, rfl⟩
theorem d5_0 : decode prog_33_method_15_code 0 = .ok (.aload_n 0, 1) := by decide +kernel
theorem d5_1 : decode prog_33_method_15_code 1 = .ok (.getfield 38, 3) := by decide +kernel
theorem wd28 {Z : State} {a0 : Array Value} (hw : ∀ d ∈ tables_1, d.before a0 Z = true) : (Jvm.Cond.fieldLink "com/example/bitlattice/bitlattice/eval/Relation" (38 : Nat) "com/example/bitlattice/bitlattice/eval/Relation" "members" "Lcom/example/bitlattice/bitlattice/eval/Relation$Index;").before a0 Z = true := hw _ (List.mem_of_getElem? (i := 28) rfl)
theorem d5_4 : decode prog_33_method_15_code 4 = .ok (.ifnull 20, 3) := by decide +kernel
theorem d5_24 : decode prog_33_method_15_code 24 = .ok (.iconst 0, 1) := by decide +kernel
theorem d5_25 : decode prog_33_method_15_code 25 = .ok (.istore_n 2, 1) := by decide +kernel
theorem d5_26 : decode prog_33_method_15_code 26 = .ok (.iload_n 2, 1) := by decide +kernel
theorem d5_27 : decode prog_33_method_15_code 27 = .ok (.aload_n 0, 1) := by decide +kernel
theorem d5_28 : decode prog_33_method_15_code 28 = .ok (.getfield 26, 3) := by decide +kernel
theorem wd35 {Z : State} {a0 : Array Value} (hw : ∀ d ∈ tables_1, d.before a0 Z = true) : (Jvm.Cond.fieldLink "com/example/bitlattice/bitlattice/eval/Relation" (26 : Nat) "com/example/bitlattice/bitlattice/eval/Relation" "size" "I").before a0 Z = true := hw _ (List.mem_of_getElem? (i := 35) rfl)
theorem d5_31 : decode prog_33_method_15_code 31 = .ok (.if_icmp .ge 20, 3) := by decide +kernel
theorem d5_51 : decode prog_33_method_15_code 51 = .ok (.iconst 0, 1) := by decide +kernel
theorem d5_52 : decode prog_33_method_15_code 52 = .ok (.ireturn, 1) := by decide +kernel
def Q5_1_0 (Z : State) (a1 : Addr) (a2 : Addr) (vals : Addr) (w_NI : Addr) (k_NI : ClassId) (hAny : Int32) (k_v : ClassId) (v0 : Int32) (v1 : Int32) (v2 : Int32) (v3 : Int32) (k_x : ClassId) (x0 : Int32) (h0 : Heap) (n0 : Nat) (v : Option Value) (h : Heap) (L : List Loc) : Prop := v = some (.int (0 : Int32)) ∧ Fr n0 L ∧ h = h0
theorem ef5_1_0 (m : MethodId) (x0 : Addr) (x1 : Addr) : entryFrame m #[(.ref x0), (.ref x1)] 3 = mkF m 0 #[.val (.ref x0), .val (.ref x1), .unset] [] := by first | (simp [entryFrame, mkF, argsToLocals, Value.category]; done) | rfl
set_option maxRecDepth 65536 in
set_option maxHeartbeats 16000000 in
theorem rm5_1_0 (l : Launch) (Z : State) (a0 : Array Value) (hw : ∀ d ∈ tables_1, d.before a0 Z = true) (ws : List Jvm.Cond) (a1 : Addr) (a2 : Addr) (vals : Addr) (w_NI : Addr) (k_NI : ClassId) (hAny : Int32) (k_v : ClassId) (v0 : Int32) (v1 : Int32) (v2 : Int32) (v3 : Int32) (k_x : ClassId) (x0 : Int32) (h0 : Heap) (n0 : Nat) (Z0 : n0 ≤ h0.size) (E_a1 : Exa Z h0 a1 "com/example/bitlattice/bitlattice/eval/Relation") (V_NI : Arv Z h0 w_NI k_NI (.object "com/example/bitlattice/bitlattice/eval/Relation$Index") (0 : Int32) [] .null) (F_a1_arity : Fld Z h0 a1 "com/example/bitlattice/bitlattice/eval/Relation" "arity" "I" (.int (1 : Int32))) (F_a1_values : Fld Z h0 a1 "com/example/bitlattice/bitlattice/eval/Relation" "values" "[I" (.ref vals)) (F_a1_size : Fld Z h0 a1 "com/example/bitlattice/bitlattice/eval/Relation" "size" "I" (.int (0 : Int32))) (F_a1_members : Fld Z h0 a1 "com/example/bitlattice/bitlattice/eval/Relation" "members" "Lcom/example/bitlattice/bitlattice/eval/Relation$Index;" .null) (F_a1_indexes : Fld Z h0 a1 "com/example/bitlattice/bitlattice/eval/Relation" "indexes" "[Lcom/example/bitlattice/bitlattice/eval/Relation$Index;" (.ref w_NI)) (F_a1_holdingAny : Fld Z h0 a1 "com/example/bitlattice/bitlattice/eval/Relation" "holdingAny" "I" (.int hAny)) (V_vals : Arv Z h0 vals k_v .int (4 : Int32) [(.int v0), (.int v1), (.int v2), (.int v3)] (.int (0 : Int32))) (V_row : Arv Z h0 a2 k_x .int (1 : Int32) [(.int x0)] (.int (0 : Int32))) (ne_vals_a1 : vals ≠ a1) (ne_a2_a1 : a2 ≠ a1) (ne_vals_a2 : vals ≠ a2) (ne_w_NI_a1 : w_NI ≠ a1) (ne_w_NI_vals : w_NI ≠ vals) (ne_w_NI_a2 : w_NI ≠ a2) :
    MetFree l (⟨"com/example/bitlattice/bitlattice/eval/Relation", "contains", "([I)Z"⟩ : MethodName) (head1 (Jvm.Cond.code (⟨"com/example/bitlattice/bitlattice/eval/Relation", "contains", "([I)Z"⟩ : MethodName) prog_33_method_15_code 3 (some .boolean) :: ws) ({ frames := 0, cells := 0, slots := 0, locals := 0 } : Room)) (fun a U => a = #[(.ref a1), (.ref a2)] ∧ Z.Warmed39 U.vm ∧ U.heap = h0) (fun _ _ _ _ _ => True) (fun _ U o U' => ∃ v L, o = .returned v ∧ Q5_1_0 Z a1 a2 vals w_NI k_NI hAny k_v v0 v1 v2 v3 k_x x0 h0 n0 v U'.heap L ∧ FrameEnd U o U' L ({ frames := 0, cells := 0, slots := 0, locals := 0 } : Room).cells ({ frames := 0, cells := 0, slots := 0, locals := 0 } : Room).slots) := by
  refine MetFree.of_bodySF (plainFor_of_name pn1) hisR ?_
  intro p e s m args below meth c s₁ Bd hml0 hP hK
  obtain ⟨rfl, hZ, hh⟩ := hP
  have hx := Bd.exec
  have hby := Bd.bytes
  have hml : c.maxLocals = 3 := hml0
  have hown : s.vm.findClass "com/example/bitlattice/bitlattice/eval/Relation" = some m.cls := findClass_of_methodNamed Bd.named
  have hnm := (name_of_methodNamed Bd.named Bd.method).1
  have X0 : Stand p l e ({ frames := 0, cells := 0, slots := 0, locals := 0 } : Room) s m #[(.ref a1), (.ref a2)] below meth c s₁ [] 0 0 := Stand.of_body Bd
  have e0 : s₁.heap = h0 := by rw [← hh, Bd.state]; rfl
  have N0 := Fr.nil n0
  have K0 : Keep h0 h0 [] := Keep.refl h0 _
  refine Go.st (P := fun o U' => ∃ v L, o = .returned v ∧ Q5_1_0 Z a1 a2 vals w_NI k_NI hAny k_v v0 v1 v2 v3 k_x x0 h0 n0 v U'.heap L ∧ FrameEnd s o U' L ({ frames := 0, cells := 0, slots := 0, locals := 0 } : Room).cells ({ frames := 0, cells := 0, slots := 0, locals := 0 } : Room).slots) (fun t k => castTop (ef5_1_0 m a1 a2) k) ?_
  show Go _ _ _ (s₁.setTop (mkF m 0 #[.val (.ref a1), .val (.ref a2), .unset] [])) _
  refine Go.st (fun t k => XS.aloadN X0.here hx rfl (hb hby d5_0) rfl rfl k) ?_
  obtain ⟨T1, X1, e1, st1⟩ := getF X0 hx hZ hown (host := "") (Or.inl (wd28 hw)) Via.refl e0 F_a1_members (g := (mkF m 1 #[.val (.ref a1), .val (.ref a2), .unset] [(.ref a1)])) rfl rfl (hb hby d5_1)
  refine Go.st st1 ?_
  show Go _ _ _ (T1.setTop (mkF m 4 #[.val (.ref a1), .val (.ref a2), .unset] [.null])) _
  refine Go.st (fun t k => XS.ifnullYes X1.here hx rfl (pc0 := 4) (pc' := 24) rfl (hb hby d5_4) rfl (by decide) (by decide) k) ?_
  show Go _ _ _ (T1.setTop (mkF m 24 #[.val (.ref a1), .val (.ref a2), .unset] [])) _
  refine Go.st (fun t k => XS.iconst X1.here hx rfl (hb hby d5_24) k) ?_
  refine Go.st (fun t k => XS.istoreN X1.here hx rfl (hb hby d5_25) rfl (l' := #[.val (.ref a1), .val (.ref a2), .val (.int 0)]) rfl k) ?_
  refine Go.st (fun t k => XS.iloadN X1.here hx rfl (hb hby d5_26) rfl k) ?_
  refine Go.st (fun t k => XS.aloadN X1.here hx rfl (hb hby d5_27) rfl rfl k) ?_
  obtain ⟨T2, X2, e2, st2⟩ := getF X1 hx hZ hown (host := "") (Or.inl (wd35 hw)) Via.refl e1 F_a1_size (g := (mkF m 28 #[.val (.ref a1), .val (.ref a2), .val (.int 0)] [(.ref a1), (.int 0)])) rfl rfl (hb hby d5_28)
  refine Go.st st2 ?_
  show Go _ _ _ (T2.setTop (mkF m 31 #[.val (.ref a1), .val (.ref a2), .val (.int 0)] [(.int 0), (.int 0)])) _
  refine Go.st (fun t k => XS.icmpYes X2.here hx rfl (pc0 := 31) (pc' := 51) rfl (hb hby d5_31) rfl (flt (by decide : ¬ ((0 : Int32) < (0 : Int32)))).2.1 (by decide) (by decide) k) ?_
  show Go _ _ _ (T2.setTop (mkF m 51 #[.val (.ref a1), .val (.ref a2), .val (.int 0)] [])) _
  refine Go.st (fun t k => XS.iconst X2.here hx rfl (hb hby d5_51) k) ?_
  obtain ⟨fs, hr, hrun, hended, hW, hsame⟩ := X2.leave (v := some (.int (0 : Int32))) (fun h => by rw [Bd.returns] at h; cases h)
  refine Go.fin (retN X2 hx (t := .boolean) Bd.returns (by simp) (hb hby d5_52) hr) hrun hended ⟨_, _, rfl, ?_, ⟨_, rfl⟩, hW, hsame.mono (by decide) (by decide)⟩
  show Q5_1_0 Z a1 a2 vals w_NI k_NI hAny k_v v0 v1 v2 v3 k_x x0 h0 n0 _ T2.heap _
  rw [e2]
  exact ⟨rfl, N0, rfl⟩
theorem d4_0 : decode prog_33_method_14_code 0 = .ok (.aload_n 0, 1) := by decide +kernel
theorem d4_1 : decode prog_33_method_14_code 1 = .ok (.getfield 38, 3) := by decide +kernel
theorem d4_4 : decode prog_33_method_14_code 4 = .ok (.ifnonnull 13, 3) := by decide +kernel
theorem d4_7 : decode prog_33_method_14_code 7 = .ok (.aload_n 0, 1) := by decide +kernel
theorem d4_8 : decode prog_33_method_14_code 8 = .ok (.aload_n 1, 1) := by decide +kernel
theorem d4_9 : decode prog_33_method_14_code 9 = .ok (.invokevirtual 66, 3) := by decide +kernel
theorem wd30 {Z : State} {a0 : Array Value} (hw : ∀ d ∈ tables_1, d.before a0 Z = true) : (Jvm.Cond.methodLink "com/example/bitlattice/bitlattice/eval/Relation" (66 : Nat) ({ cls := "com/example/bitlattice/bitlattice/eval/Relation", name := "contains", desc := "([I)Z" } : Jvm.MethodName)).before a0 Z = true := hw _ (List.mem_of_getElem? (i := 30) rfl)
theorem wd34 {Z : State} {a0 : Array Value} (hw : ∀ d ∈ tables_1, d.before a0 Z = true) : (Jvm.Cond.code ({ cls := "com/example/bitlattice/bitlattice/eval/Relation", name := "contains", desc := "([I)Z" } : Jvm.MethodName) prog_33_method_15_code (3 : Nat) (Option.some Jvm.ClassFile.FieldType.boolean)).before a0 Z = true := hw _ (List.mem_of_getElem? (i := 34) rfl)
theorem wd8 {Z : State} {a0 : Array Value} (hw : ∀ d ∈ tables_1, d.before a0 Z = true) : (Jvm.Cond.initialized "com/example/bitlattice/bitlattice/eval/Relation").before a0 Z = true := hw _ (List.mem_of_getElem? (i := 8) rfl)
theorem pd0 : parseMethodDescriptor "([I)Z" = some ⟨[(.array .int)], some .boolean⟩ := by decide +kernel
theorem wd33 {Z : State} {a0 : Array Value} (hw : ∀ d ∈ tables_1, d.before a0 Z = true) : (Jvm.Cond.selects "com/example/bitlattice/bitlattice/eval/Relation" ({ cls := "com/example/bitlattice/bitlattice/eval/Relation", name := "contains", desc := "([I)Z" } : Jvm.MethodName) ({ cls := "com/example/bitlattice/bitlattice/eval/Relation", name := "contains", desc := "([I)Z" } : Jvm.MethodName)).before a0 Z = true := hw _ (List.mem_of_getElem? (i := 33) rfl)
theorem wd31 {Z : State} {a0 : Array Value} (hw : ∀ d ∈ tables_1, d.before a0 Z = true) : (Jvm.Cond.declares ({ cls := "com/example/bitlattice/bitlattice/eval/Relation", name := "contains", desc := "([I)Z" } : Jvm.MethodName)).before a0 Z = true := hw _ (List.mem_of_getElem? (i := 31) rfl)
theorem wd32 {Z : State} {a0 : Array Value} (hw : ∀ d ∈ tables_1, d.before a0 Z = true) : (Jvm.Cond.instanceMethod ({ cls := "com/example/bitlattice/bitlattice/eval/Relation", name := "contains", desc := "([I)Z" } : Jvm.MethodName)).before a0 Z = true := hw _ (List.mem_of_getElem? (i := 32) rfl)
theorem d4_12 : decode prog_33_method_14_code 12 = .ok (.ifCond .eq 5, 3) := by decide +kernel
theorem d4_17 : decode prog_33_method_14_code 17 = .ok (.aload_n 0, 1) := by decide +kernel
theorem d4_18 : decode prog_33_method_14_code 18 = .ok (.getfield 26, 3) := by decide +kernel
theorem d4_21 : decode prog_33_method_14_code 21 = .ok (.iconst 1, 1) := by decide +kernel
theorem d4_22 : decode prog_33_method_14_code 22 = .ok (.iadd, 1) := by decide +kernel
theorem d4_23 : decode prog_33_method_14_code 23 = .ok (.aload_n 0, 1) := by decide +kernel
theorem d4_24 : decode prog_33_method_14_code 24 = .ok (.getfield 18, 3) := by decide +kernel
theorem d4_27 : decode prog_33_method_14_code 27 = .ok (.imul, 1) := by decide +kernel
theorem d4_28 : decode prog_33_method_14_code 28 = .ok (.aload_n 0, 1) := by decide +kernel
theorem d4_29 : decode prog_33_method_14_code 29 = .ok (.getfield 22, 3) := by decide +kernel
theorem d4_32 : decode prog_33_method_14_code 32 = .ok (.arraylength, 1) := by decide +kernel
theorem d4_33 : decode prog_33_method_14_code 33 = .ok (.if_icmp .le 30, 3) := by decide +kernel
theorem d4_63 : decode prog_33_method_14_code 63 = .ok (.aload_n 1, 1) := by decide +kernel
theorem d4_64 : decode prog_33_method_14_code 64 = .ok (.iconst 0, 1) := by decide +kernel
theorem d4_65 : decode prog_33_method_14_code 65 = .ok (.aload_n 0, 1) := by decide +kernel
theorem d4_66 : decode prog_33_method_14_code 66 = .ok (.getfield 22, 3) := by decide +kernel
theorem d4_69 : decode prog_33_method_14_code 69 = .ok (.aload_n 0, 1) := by decide +kernel
theorem d4_70 : decode prog_33_method_14_code 70 = .ok (.getfield 26, 3) := by decide +kernel
theorem d4_73 : decode prog_33_method_14_code 73 = .ok (.aload_n 0, 1) := by decide +kernel
theorem d4_74 : decode prog_33_method_14_code 74 = .ok (.getfield 18, 3) := by decide +kernel
theorem d4_77 : decode prog_33_method_14_code 77 = .ok (.imul, 1) := by decide +kernel
theorem d4_78 : decode prog_33_method_14_code 78 = .ok (.aload_n 0, 1) := by decide +kernel
theorem d4_79 : decode prog_33_method_14_code 79 = .ok (.getfield 18, 3) := by decide +kernel
theorem d4_82 : decode prog_33_method_14_code 82 = .ok (.invokestatic 76, 3) := by decide +kernel
theorem wd37 {Z : State} {a0 : Array Value} (hw : ∀ d ∈ tables_1, d.before a0 Z = true) : (Jvm.Cond.methodLink "com/example/bitlattice/bitlattice/eval/Relation" (76 : Nat) ({ cls := "java/lang/System", name := "arraycopy", desc := "(Ljava/lang/Object;ILjava/lang/Object;II)V" } : Jvm.MethodName)).before a0 Z = true := hw _ (List.mem_of_getElem? (i := 37) rfl)
theorem wd40 {Z : State} {a0 : Array Value} (hw : ∀ d ∈ tables_1, d.before a0 Z = true) : (Jvm.Cond.native ({ cls := "java/lang/System", name := "arraycopy", desc := "(Ljava/lang/Object;ILjava/lang/Object;II)V" } : Jvm.MethodName)).before a0 Z = true := hw _ (List.mem_of_getElem? (i := 40) rfl)
theorem wd38 {Z : State} {a0 : Array Value} (hw : ∀ d ∈ tables_1, d.before a0 Z = true) : (Jvm.Cond.static ({ cls := "java/lang/System", name := "arraycopy", desc := "(Ljava/lang/Object;ILjava/lang/Object;II)V" } : Jvm.MethodName)).before a0 Z = true := hw _ (List.mem_of_getElem? (i := 38) rfl)
theorem wd39 {Z : State} {a0 : Array Value} (hw : ∀ d ∈ tables_1, d.before a0 Z = true) : (Jvm.Cond.initialized "java/lang/System").before a0 Z = true := hw _ (List.mem_of_getElem? (i := 39) rfl)
theorem d4_85 : decode prog_33_method_14_code 85 = .ok (.aload_n 0, 1) := by decide +kernel
theorem d4_86 : decode prog_33_method_14_code 86 = .ok (.getfield 38, 3) := by decide +kernel
theorem d4_89 : decode prog_33_method_14_code 89 = .ok (.ifnull 19, 3) := by decide +kernel
theorem d4_108 : decode prog_33_method_14_code 108 = .ok (.aload_n 0, 1) := by decide +kernel
theorem d4_109 : decode prog_33_method_14_code 109 = .ok (.dup, 1) := by decide +kernel
theorem d4_110 : decode prog_33_method_14_code 110 = .ok (.getfield 26, 3) := by decide +kernel
theorem d4_113 : decode prog_33_method_14_code 113 = .ok (.dup_x1, 1) := by decide +kernel
theorem d4_114 : decode prog_33_method_14_code 114 = .ok (.iconst 1, 1) := by decide +kernel
theorem d4_115 : decode prog_33_method_14_code 115 = .ok (.iadd, 1) := by decide +kernel
theorem d4_116 : decode prog_33_method_14_code 116 = .ok (.putfield 26, 3) := by decide +kernel
theorem d4_119 : decode prog_33_method_14_code 119 = .ok (.istore_n 2, 1) := by decide +kernel
theorem d4_120 : decode prog_33_method_14_code 120 = .ok (.aload_n 1, 1) := by decide +kernel
theorem d4_121 : decode prog_33_method_14_code 121 = .ok (.astore_n 3, 1) := by decide +kernel
theorem d4_122 : decode prog_33_method_14_code 122 = .ok (.aload_n 3, 1) := by decide +kernel
theorem d4_123 : decode prog_33_method_14_code 123 = .ok (.arraylength, 1) := by decide +kernel
theorem d4_124 : decode prog_33_method_14_code 124 = .ok (.istore 4, 2) := by decide +kernel
theorem d4_126 : decode prog_33_method_14_code 126 = .ok (.iconst 0, 1) := by decide +kernel
theorem d4_127 : decode prog_33_method_14_code 127 = .ok (.istore 5, 2) := by decide +kernel
theorem d4_129 : decode prog_33_method_14_code 129 = .ok (.iload 5, 2) := by decide +kernel
theorem d4_131 : decode prog_33_method_14_code 131 = .ok (.iload 4, 2) := by decide +kernel
theorem d4_133 : decode prog_33_method_14_code 133 = .ok (.if_icmp .ge 35, 3) := by decide +kernel
theorem d4_136 : decode prog_33_method_14_code 136 = .ok (.aload_n 3, 1) := by decide +kernel
theorem d4_137 : decode prog_33_method_14_code 137 = .ok (.iload 5, 2) := by decide +kernel
theorem d4_139 : decode prog_33_method_14_code 139 = .ok (.iaload, 1) := by decide +kernel
theorem d4_140 : decode prog_33_method_14_code 140 = .ok (.istore 6, 2) := by decide +kernel
theorem d4_142 : decode prog_33_method_14_code 142 = .ok (.iload 6, 2) := by decide +kernel
theorem d4_144 : decode prog_33_method_14_code 144 = .ok (.ldc 86, 2) := by decide +kernel
theorem wd41 {Z : State} {a0 : Array Value} (hw : ∀ d ∈ tables_1, d.before a0 Z = true) : (Jvm.Cond.constant "com/example/bitlattice/bitlattice/eval/Relation" (86 : Nat) (2147483647 : Int32)).before a0 Z = true := hw _ (List.mem_of_getElem? (i := 41) rfl)
theorem d4_146 : decode prog_33_method_14_code 146 = .ok (.if_icmp .ne 16, 3) := by decide +kernel
theorem d4_149 : decode prog_33_method_14_code 149 = .ok (.aload_n 0, 1) := by decide +kernel
theorem d4_150 : decode prog_33_method_14_code 150 = .ok (.dup, 1) := by decide +kernel
theorem d4_151 : decode prog_33_method_14_code 151 = .ok (.getfield 55, 3) := by decide +kernel
theorem wd54 {Z : State} {a0 : Array Value} (hw : ∀ d ∈ tables_1, d.before a0 Z = true) : (Jvm.Cond.fieldLink "com/example/bitlattice/bitlattice/eval/Relation" (55 : Nat) "com/example/bitlattice/bitlattice/eval/Relation" "holdingAny" "I").before a0 Z = true := hw _ (List.mem_of_getElem? (i := 54) rfl)
theorem d4_154 : decode prog_33_method_14_code 154 = .ok (.iconst 1, 1) := by decide +kernel
theorem d4_155 : decode prog_33_method_14_code 155 = .ok (.iadd, 1) := by decide +kernel
theorem d4_156 : decode prog_33_method_14_code 156 = .ok (.putfield 55, 3) := by decide +kernel
theorem d4_159 : decode prog_33_method_14_code 159 = .ok (.goto 9, 3) := by decide +kernel
theorem d4_168 : decode prog_33_method_14_code 168 = .ok (.aload_n 0, 1) := by decide +kernel
theorem d4_169 : decode prog_33_method_14_code 169 = .ok (.getfield 38, 3) := by decide +kernel
theorem d4_172 : decode prog_33_method_14_code 172 = .ok (.ifnonnull 35, 3) := by decide +kernel
theorem d4_175 : decode prog_33_method_14_code 175 = .ok (.aload_n 0, 1) := by decide +kernel
theorem d4_176 : decode prog_33_method_14_code 176 = .ok (.getfield 26, 3) := by decide +kernel
theorem d4_179 : decode prog_33_method_14_code 179 = .ok (.bipush 8, 2) := by decide +kernel
theorem d4_181 : decode prog_33_method_14_code 181 = .ok (.if_icmp .le 26, 3) := by decide +kernel
theorem d4_207 : decode prog_33_method_14_code 207 = .ok (.aload_n 0, 1) := by decide +kernel
theorem d4_208 : decode prog_33_method_14_code 208 = .ok (.getfield 15, 3) := by decide +kernel
theorem d4_211 : decode prog_33_method_14_code 211 = .ok (.astore_n 3, 1) := by decide +kernel
theorem d4_212 : decode prog_33_method_14_code 212 = .ok (.aload_n 3, 1) := by decide +kernel
theorem d4_213 : decode prog_33_method_14_code 213 = .ok (.arraylength, 1) := by decide +kernel
theorem d4_214 : decode prog_33_method_14_code 214 = .ok (.istore 4, 2) := by decide +kernel
theorem d4_216 : decode prog_33_method_14_code 216 = .ok (.iconst 0, 1) := by decide +kernel
theorem d4_217 : decode prog_33_method_14_code 217 = .ok (.istore 5, 2) := by decide +kernel
theorem d4_219 : decode prog_33_method_14_code 219 = .ok (.iload 5, 2) := by decide +kernel
theorem d4_221 : decode prog_33_method_14_code 221 = .ok (.iload 4, 2) := by decide +kernel
theorem d4_223 : decode prog_33_method_14_code 223 = .ok (.if_icmp .ge 21, 3) := by decide +kernel
theorem d4_244 : decode prog_33_method_14_code 244 = .ok (.iconst 1, 1) := by decide +kernel
theorem d4_245 : decode prog_33_method_14_code 245 = .ok (.ireturn, 1) := by decide +kernel
theorem d4_162 : decode prog_33_method_14_code 162 = .ok (.iinc 5 1, 3) := by decide +kernel
theorem d4_165 : decode prog_33_method_14_code 165 = .ok (.goto (-36), 3) := by decide +kernel
def Q4_1_0 (Z : State) (a1 : Addr) (a2 : Addr) (vals : Addr) (w_NI : Addr) (k_NI : ClassId) (hAny : Int32) (k_v : ClassId) (v0 : Int32) (v1 : Int32) (v2 : Int32) (v3 : Int32) (k_x : ClassId) (x0 : Int32) (h0 : Heap) (n0 : Nat) (v : Option Value) (h : Heap) (L : List Loc) : Prop := ∃ z_4_1_0_holdingAny : Int32, v = some (.int (1 : Int32)) ∧ Fr n0 L ∧ Keep h0 h [vals, a1] ∧ Exa Z h a1 "com/example/bitlattice/bitlattice/eval/Relation" ∧ Fld Z h a1 "com/example/bitlattice/bitlattice/eval/Relation" "arity" "I" (.int (1 : Int32)) ∧ Fld Z h a1 "com/example/bitlattice/bitlattice/eval/Relation" "values" "[I" (.ref vals) ∧ Fld Z h a1 "com/example/bitlattice/bitlattice/eval/Relation" "size" "I" (.int (1 : Int32)) ∧ Fld Z h a1 "com/example/bitlattice/bitlattice/eval/Relation" "members" "Lcom/example/bitlattice/bitlattice/eval/Relation$Index;" .null ∧ Fld Z h a1 "com/example/bitlattice/bitlattice/eval/Relation" "indexes" "[Lcom/example/bitlattice/bitlattice/eval/Relation$Index;" (.ref w_NI) ∧ Fld Z h a1 "com/example/bitlattice/bitlattice/eval/Relation" "holdingAny" "I" (.int z_4_1_0_holdingAny) ∧ Arv Z h vals k_v .int (4 : Int32) [(.int x0), (.int v1), (.int v2), (.int v3)] (.int (0 : Int32))
theorem ef4_1_0 (m : MethodId) (x0 : Addr) (x1 : Addr) : entryFrame m #[(.ref x0), (.ref x1)] 7 = mkF m 0 #[.val (.ref x0), .val (.ref x1), .unset, .unset, .unset, .unset, .unset] [] := by first | (simp [entryFrame, mkF, argsToLocals, Value.category]; done) | rfl
set_option maxRecDepth 65536 in
set_option maxHeartbeats 16000000 in
theorem rm4_1_0 (l : Launch) (Z : State) (a0 : Array Value) (hw : ∀ d ∈ tables_1, d.before a0 Z = true) (ws : List Jvm.Cond) (a1 : Addr) (a2 : Addr) (vals : Addr) (w_NI : Addr) (k_NI : ClassId) (hAny : Int32) (k_v : ClassId) (v0 : Int32) (v1 : Int32) (v2 : Int32) (v3 : Int32) (k_x : ClassId) (x0 : Int32) (h0 : Heap) (n0 : Nat) (Z0 : n0 ≤ h0.size) (E_a1 : Exa Z h0 a1 "com/example/bitlattice/bitlattice/eval/Relation") (V_NI : Arv Z h0 w_NI k_NI (.object "com/example/bitlattice/bitlattice/eval/Relation$Index") (0 : Int32) [] .null) (F_a1_arity : Fld Z h0 a1 "com/example/bitlattice/bitlattice/eval/Relation" "arity" "I" (.int (1 : Int32))) (F_a1_values : Fld Z h0 a1 "com/example/bitlattice/bitlattice/eval/Relation" "values" "[I" (.ref vals)) (F_a1_size : Fld Z h0 a1 "com/example/bitlattice/bitlattice/eval/Relation" "size" "I" (.int (0 : Int32))) (F_a1_members : Fld Z h0 a1 "com/example/bitlattice/bitlattice/eval/Relation" "members" "Lcom/example/bitlattice/bitlattice/eval/Relation$Index;" .null) (F_a1_indexes : Fld Z h0 a1 "com/example/bitlattice/bitlattice/eval/Relation" "indexes" "[Lcom/example/bitlattice/bitlattice/eval/Relation$Index;" (.ref w_NI)) (F_a1_holdingAny : Fld Z h0 a1 "com/example/bitlattice/bitlattice/eval/Relation" "holdingAny" "I" (.int hAny)) (V_vals : Arv Z h0 vals k_v .int (4 : Int32) [(.int v0), (.int v1), (.int v2), (.int v3)] (.int (0 : Int32))) (V_row : Arv Z h0 a2 k_x .int (1 : Int32) [(.int x0)] (.int (0 : Int32))) (ne_vals_a1 : vals ≠ a1) (ne_a2_a1 : a2 ≠ a1) (ne_vals_a2 : vals ≠ a2) (ne_w_NI_a1 : w_NI ≠ a1) (ne_w_NI_vals : w_NI ≠ vals) (ne_w_NI_a2 : w_NI ≠ a2) (g_vals : n0 ≤ vals) (g_a1 : n0 ≤ a1) :
    MetFree l (⟨"com/example/bitlattice/bitlattice/eval/Relation", "add", "([I)Z"⟩ : MethodName) (head1 (Jvm.Cond.code (⟨"com/example/bitlattice/bitlattice/eval/Relation", "add", "([I)Z"⟩ : MethodName) prog_33_method_14_code 7 (some .boolean) :: ws) ({ frames := 1, cells := 0, slots := 0, locals := 18 } : Room)) (fun a U => a = #[(.ref a1), (.ref a2)] ∧ Z.Warmed39 U.vm ∧ U.heap = h0) (fun _ _ _ _ _ => True) (fun _ U o U' => ∃ v L, o = .returned v ∧ Q4_1_0 Z a1 a2 vals w_NI k_NI hAny k_v v0 v1 v2 v3 k_x x0 h0 n0 v U'.heap L ∧ FrameEnd U o U' L ({ frames := 1, cells := 0, slots := 0, locals := 18 } : Room).cells ({ frames := 1, cells := 0, slots := 0, locals := 18 } : Room).slots) := by
  refine MetFree.of_bodySF (plainFor_of_name pn1) hisR ?_
  intro p e s m args below meth c s₁ Bd hml0 hP hK
  obtain ⟨rfl, hZ, hh⟩ := hP
  have hx := Bd.exec
  have hby := Bd.bytes
  have hml : c.maxLocals = 7 := hml0
  have hown : s.vm.findClass "com/example/bitlattice/bitlattice/eval/Relation" = some m.cls := findClass_of_methodNamed Bd.named
  have hnm := (name_of_methodNamed Bd.named Bd.method).1
  have X0 : Stand p l e ({ frames := 1, cells := 0, slots := 0, locals := 18 } : Room) s m #[(.ref a1), (.ref a2)] below meth c s₁ [] 0 0 := Stand.of_body Bd
  have e0 : s₁.heap = h0 := by rw [← hh, Bd.state]; rfl
  have N0 := Fr.nil n0
  have K0 : Keep h0 h0 [vals, a1] := Keep.refl h0 _
  refine Go.st (P := fun o U' => ∃ v L, o = .returned v ∧ Q4_1_0 Z a1 a2 vals w_NI k_NI hAny k_v v0 v1 v2 v3 k_x x0 h0 n0 v U'.heap L ∧ FrameEnd s o U' L ({ frames := 1, cells := 0, slots := 0, locals := 18 } : Room).cells ({ frames := 1, cells := 0, slots := 0, locals := 18 } : Room).slots) (fun t k => castTop (ef4_1_0 m a1 a2) k) ?_
  show Go _ _ _ (s₁.setTop (mkF m 0 #[.val (.ref a1), .val (.ref a2), .unset, .unset, .unset, .unset, .unset] [])) _
  refine Go.st (fun t k => XS.aloadN X0.here hx rfl (hb hby d4_0) rfl rfl k) ?_
  obtain ⟨T1, X1, e1, st1⟩ := getF X0 hx hZ hown (host := "") (Or.inl (wd28 hw)) Via.refl e0 F_a1_members (g := (mkF m 1 #[.val (.ref a1), .val (.ref a2), .unset, .unset, .unset, .unset, .unset] [(.ref a1)])) rfl rfl (hb hby d4_1)
  refine Go.st st1 ?_
  show Go _ _ _ (T1.setTop (mkF m 4 #[.val (.ref a1), .val (.ref a2), .unset, .unset, .unset, .unset, .unset] [.null])) _
  refine Go.st (fun t k => XS.ifnonnullNo X1.here hx rfl (hb hby d4_4) rfl k) ?_
  show Go _ _ _ (T1.setTop (mkF m 7 #[.val (.ref a1), .val (.ref a2), .unset, .unset, .unset, .unset, .unset] [])) _
  refine Go.st (fun t k => XS.aloadN X1.here hx rfl (hb hby d4_7) rfl rfl k) ?_
  refine Go.st (fun t k => XS.aloadN X1.here hx rfl (hb hby d4_8) rfl rfl k) ?_
  obtain ⟨cq2, kq2, q2a, q2b, q2c⟩ := isOf hZ e1 E_a1
  obtain ⟨_, _, ⟨T2, L2, k2, n2⟩, -, X2, ⟨Lc2, hQ2, l2, y2, z2⟩, st2⟩ := X1.virtualBack hx (y := (⟨"com/example/bitlattice/bitlattice/eval/Relation", "contains", "([I)Z"⟩ : MethodName)) (z := (⟨"com/example/bitlattice/bitlattice/eval/Relation", "contains", "([I)Z"⟩ : MethodName)) hown (mvT hZ (wd30 hw)) (mvT hZ (wd31 hw)) (notFace_of_selects (args := #[]) (mvT hZ (wd33 hw))) (mvT hZ (wd33 hw)) (mvT hZ (wd32 hw)) (by decide) (backOf (W := 0) (rm5_1_0 l Z a0 hw [] a1 a2 vals w_NI k_NI hAny k_v v0 v1 v2 v3 k_x x0 h0 n0 Z0 E_a1 V_NI F_a1_arity F_a1_values F_a1_size F_a1_members F_a1_indexes F_a1_holdingAny V_vals V_row ne_vals_a1 ne_a2_a1 ne_vals_a2 ne_w_NI_a1 ne_w_NI_vals ne_w_NI_a2) hZ (wd34 hw) (wd8 hw) (by decide) (by decide)) q2a q2c (g := (mkF m 9 #[.val (.ref a1), .val (.ref a2), .unset, .unset, .unset, .unset, .unset] [(.ref a2), (.ref a1)])) rfl (by rw [hml]; rfl) (Steps.refl _) (argsL := [(.ref a2)]) (rest := []) (lenOf pd0 rfl) rfl (by show 2 * 0 + _ ≤ _; exact Nat.le_of_eq rfl) (hb hby d4_9) (fun _ _ => ⟨rfl, e1, (by decide : 0 + 0 ≤ _), (by decide : 0 + 0 ≤ _)⟩)
  dsimp only [Pt.U, Pt.locs, Pt.cells, Pt.slots] at X2 l2 y2 z2 st2 hQ2
  subst l2 y2 z2
  refine Go.tr st2 ?_
  obtain ⟨rfl, N2q, e2⟩ := hQ2
  have N2 := Fr.app N0 N2q
  show Go _ _ _ (T2.setTop (mkF m 12 #[.val (.ref a1), .val (.ref a2), .unset, .unset, .unset, .unset, .unset] [(.int 0)])) _
  refine Go.st (fun t k => XS.ifYes X2.here hx rfl (pc0 := 12) (pc' := 17) rfl (hb hby d4_12) rfl ((if0 _ _).trans (teq (by decide : (0 : Int32) = (0 : Int32))).1) (by decide) (by decide) k) ?_
  show Go _ _ _ (T2.setTop (mkF m 17 #[.val (.ref a1), .val (.ref a2), .unset, .unset, .unset, .unset, .unset] [])) _
  refine Go.st (fun t k => XS.aloadN X2.here hx rfl (hb hby d4_17) rfl rfl k) ?_
  obtain ⟨T3, X3, e3, st3⟩ := getF X2 hx hZ hown (host := "") (Or.inl (wd35 hw)) Via.refl e2 F_a1_size (g := (mkF m 18 #[.val (.ref a1), .val (.ref a2), .unset, .unset, .unset, .unset, .unset] [(.ref a1)])) rfl rfl (hb hby d4_18)
  refine Go.st st3 ?_
  show Go _ _ _ (T3.setTop (mkF m 21 #[.val (.ref a1), .val (.ref a2), .unset, .unset, .unset, .unset, .unset] [(.int 0)])) _
  refine Go.st (fun t k => XS.iconst X3.here hx rfl (hb hby d4_21) k) ?_
  refine Go.st (fun t k => XS.iadd X3.here hx rfl (hb hby d4_22) rfl k) ?_
  show Go _ _ _ (T3.setTop (mkF m 23 #[.val (.ref a1), .val (.ref a2), .unset, .unset, .unset, .unset, .unset] [(.int 1)])) _
  refine Go.st (fun t k => XS.aloadN X3.here hx rfl (hb hby d4_23) rfl rfl k) ?_
  obtain ⟨T4, X4, e4, st4⟩ := getF X3 hx hZ hown (host := "") (Or.inl (wd19 hw)) Via.refl e3 F_a1_arity (g := (mkF m 24 #[.val (.ref a1), .val (.ref a2), .unset, .unset, .unset, .unset, .unset] [(.ref a1), (.int 1)])) rfl rfl (hb hby d4_24)
  refine Go.st st4 ?_
  show Go _ _ _ (T4.setTop (mkF m 27 #[.val (.ref a1), .val (.ref a2), .unset, .unset, .unset, .unset, .unset] [(.int 1), (.int 1)])) _
  refine Go.st (fun t k => XS.imul X4.here hx rfl (hb hby d4_27) rfl k) ?_
  show Go _ _ _ (T4.setTop (mkF m 28 #[.val (.ref a1), .val (.ref a2), .unset, .unset, .unset, .unset, .unset] [(.int 1)])) _
  refine Go.st (fun t k => XS.aloadN X4.here hx rfl (hb hby d4_28) rfl rfl k) ?_
  obtain ⟨T5, X5, e5, st5⟩ := getF X4 hx hZ hown (host := "") (Or.inl (wd21 hw)) Via.refl e4 F_a1_values (g := (mkF m 29 #[.val (.ref a1), .val (.ref a2), .unset, .unset, .unset, .unset, .unset] [(.ref a1), (.int 1)])) rfl rfl (hb hby d4_29)
  refine Go.st st5 ?_
  show Go _ _ _ (T5.setTop (mkF m 32 #[.val (.ref a1), .val (.ref a2), .unset, .unset, .unset, .unset, .unset] [(.ref vals), (.int 1)])) _
  obtain ⟨cl6, Ar6, -, Sz6, Ng6, -, -⟩ := id V_vals
  refine Go.st (fun t k => X5.arraylength hx (by rw [e5]; exact Ar6.1) (State.isArrayOf_alike hZ.alike Ar6.2.1) (g := (mkF m 32 #[.val (.ref a1), .val (.ref a2), .unset, .unset, .unset, .unset, .unset] [(.ref vals), (.int 1)])) rfl rfl (hb hby d4_32) _ k) ?_
  rw [len_of Sz6 Ng6]
  show Go _ _ _ (T5.setTop (mkF m 33 #[.val (.ref a1), .val (.ref a2), .unset, .unset, .unset, .unset, .unset] [(.int 4), (.int 1)])) _
  refine Go.st (fun t k => XS.icmpYes X5.here hx rfl (pc0 := 33) (pc' := 63) rfl (hb hby d4_33) rfl (flt (by decide : ¬ ((4 : Int32) < (1 : Int32)))).2.2.2 (by decide) (by decide) k) ?_
  show Go _ _ _ (T5.setTop (mkF m 63 #[.val (.ref a1), .val (.ref a2), .unset, .unset, .unset, .unset, .unset] [])) _
  refine Go.st (fun t k => XS.aloadN X5.here hx rfl (hb hby d4_63) rfl rfl k) ?_
  refine Go.st (fun t k => XS.iconst X5.here hx rfl (hb hby d4_64) k) ?_
  refine Go.st (fun t k => XS.aloadN X5.here hx rfl (hb hby d4_65) rfl rfl k) ?_
  obtain ⟨T7, X7, e7, st7⟩ := getF X5 hx hZ hown (host := "") (Or.inl (wd21 hw)) Via.refl e5 F_a1_values (g := (mkF m 66 #[.val (.ref a1), .val (.ref a2), .unset, .unset, .unset, .unset, .unset] [(.ref a1), (.int 0), (.ref a2)])) rfl rfl (hb hby d4_66)
  refine Go.st st7 ?_
  show Go _ _ _ (T7.setTop (mkF m 69 #[.val (.ref a1), .val (.ref a2), .unset, .unset, .unset, .unset, .unset] [(.ref vals), (.int 0), (.ref a2)])) _
  refine Go.st (fun t k => XS.aloadN X7.here hx rfl (hb hby d4_69) rfl rfl k) ?_
  obtain ⟨T8, X8, e8, st8⟩ := getF X7 hx hZ hown (host := "") (Or.inl (wd35 hw)) Via.refl e7 F_a1_size (g := (mkF m 70 #[.val (.ref a1), .val (.ref a2), .unset, .unset, .unset, .unset, .unset] [(.ref a1), (.ref vals), (.int 0), (.ref a2)])) rfl rfl (hb hby d4_70)
  refine Go.st st8 ?_
  show Go _ _ _ (T8.setTop (mkF m 73 #[.val (.ref a1), .val (.ref a2), .unset, .unset, .unset, .unset, .unset] [(.int 0), (.ref vals), (.int 0), (.ref a2)])) _
  refine Go.st (fun t k => XS.aloadN X8.here hx rfl (hb hby d4_73) rfl rfl k) ?_
  obtain ⟨T9, X9, e9, st9⟩ := getF X8 hx hZ hown (host := "") (Or.inl (wd19 hw)) Via.refl e8 F_a1_arity (g := (mkF m 74 #[.val (.ref a1), .val (.ref a2), .unset, .unset, .unset, .unset, .unset] [(.ref a1), (.int 0), (.ref vals), (.int 0), (.ref a2)])) rfl rfl (hb hby d4_74)
  refine Go.st st9 ?_
  show Go _ _ _ (T9.setTop (mkF m 77 #[.val (.ref a1), .val (.ref a2), .unset, .unset, .unset, .unset, .unset] [(.int 1), (.int 0), (.ref vals), (.int 0), (.ref a2)])) _
  refine Go.st (fun t k => XS.imul X9.here hx rfl (hb hby d4_77) rfl k) ?_
  show Go _ _ _ (T9.setTop (mkF m 78 #[.val (.ref a1), .val (.ref a2), .unset, .unset, .unset, .unset, .unset] [(.int 0), (.ref vals), (.int 0), (.ref a2)])) _
  refine Go.st (fun t k => XS.aloadN X9.here hx rfl (hb hby d4_78) rfl rfl k) ?_
  obtain ⟨T10, X10, e10, st10⟩ := getF X9 hx hZ hown (host := "") (Or.inl (wd19 hw)) Via.refl e9 F_a1_arity (g := (mkF m 79 #[.val (.ref a1), .val (.ref a2), .unset, .unset, .unset, .unset, .unset] [(.ref a1), (.int 0), (.ref vals), (.int 0), (.ref a2)])) rfl rfl (hb hby d4_79)
  refine Go.st st10 ?_
  show Go _ _ _ (T10.setTop (mkF m 82 #[.val (.ref a1), .val (.ref a2), .unset, .unset, .unset, .unset, .unset] [(.int 1), (.int 0), (.ref vals), (.int 0), (.ref a2)])) _
  have V_vals_pre := V_vals
  obtain ⟨T11, h11, L11, X11, e11, N11, K11, B11, st11⟩ := cpA X10 hx hZ hown (wd37 hw) (wd40 hw) (wd38 hw) (wd39 hw) e10 V_row V_vals (us := [(.int x0)]) (Or.inl ⟨rfl, rfl⟩) (sp := (0 : Int32)) (dp := (0 : Int32)) (nn := (1 : Int32)) (by decide) (by decide) (by decide) (by decide) (by decide) rfl (Nat.le_of_ble_eq_true rfl) N2 g_vals (g := (mkF m 82 #[.val (.ref a1), .val (.ref a2), .unset, .unset, .unset, .unset, .unset] [(.int 1), (.int 0), (.ref vals), (.int 0), (.ref a2)])) rfl (by rw [hml]; rfl) rfl (hb hby d4_82) (by decide) (W := 0) (by show 2 * 0 + _ ≤ _; exact Nat.le_of_eq rfl) (by decide)
  refine Go.st st11 ?_
  replace E_a1 := E_a1.keep K11
  replace V_NI := V_NI.keep K11 (ninS ne_w_NI_vals nin0)
  replace F_a1_arity := F_a1_arity.keep K11 (ninS (Ne.symm ne_vals_a1) nin0)
  replace F_a1_values := F_a1_values.keep K11 (ninS (Ne.symm ne_vals_a1) nin0)
  replace F_a1_size := F_a1_size.keep K11 (ninS (Ne.symm ne_vals_a1) nin0)
  replace F_a1_members := F_a1_members.keep K11 (ninS (Ne.symm ne_vals_a1) nin0)
  replace F_a1_indexes := F_a1_indexes.keep K11 (ninS (Ne.symm ne_vals_a1) nin0)
  replace F_a1_holdingAny := F_a1_holdingAny.keep K11 (ninS (Ne.symm ne_vals_a1) nin0)
  replace V_row := V_row.keep K11 (ninS (Ne.symm ne_vals_a2) nin0)
  replace Z0 := Nat.le_trans Z0 K11.1
  replace K0 := K0.trans K11 (allS (Or.inl (by simp)) all0)
  have V_vals : Arv Z h11 vals k_v .int (4 : Int32) [(.int x0), (.int v1), (.int v2), (.int v3)] (.int (0 : Int32)) := B11
  show Go _ _ _ (T11.setTop (mkF m 85 #[.val (.ref a1), .val (.ref a2), .unset, .unset, .unset, .unset, .unset] [])) _
  refine Go.st (fun t k => XS.aloadN X11.here hx rfl (hb hby d4_85) rfl rfl k) ?_
  obtain ⟨T12, X12, e12, st12⟩ := getF X11 hx hZ hown (host := "") (Or.inl (wd28 hw)) Via.refl e11 F_a1_members (g := (mkF m 86 #[.val (.ref a1), .val (.ref a2), .unset, .unset, .unset, .unset, .unset] [(.ref a1)])) rfl rfl (hb hby d4_86)
  refine Go.st st12 ?_
  show Go _ _ _ (T12.setTop (mkF m 89 #[.val (.ref a1), .val (.ref a2), .unset, .unset, .unset, .unset, .unset] [.null])) _
  refine Go.st (fun t k => XS.ifnullYes X12.here hx rfl (pc0 := 89) (pc' := 108) rfl (hb hby d4_89) rfl (by decide) (by decide) k) ?_
  show Go _ _ _ (T12.setTop (mkF m 108 #[.val (.ref a1), .val (.ref a2), .unset, .unset, .unset, .unset, .unset] [])) _
  refine Go.st (fun t k => XS.aloadN X12.here hx rfl (hb hby d4_108) rfl rfl k) ?_
  refine Go.st (fun t k => XS.dup X12.here hx rfl (hb hby d4_109) rfl rfl k) ?_
  obtain ⟨T13, X13, e13, st13⟩ := getF X12 hx hZ hown (host := "") (Or.inl (wd35 hw)) Via.refl e12 F_a1_size (g := (mkF m 110 #[.val (.ref a1), .val (.ref a2), .unset, .unset, .unset, .unset, .unset] [(.ref a1), (.ref a1)])) rfl rfl (hb hby d4_110)
  refine Go.st st13 ?_
  show Go _ _ _ (T13.setTop (mkF m 113 #[.val (.ref a1), .val (.ref a2), .unset, .unset, .unset, .unset, .unset] [(.int 0), (.ref a1)])) _
  refine Go.st (fun t k => XS.dupX1 X13.here hx rfl (hb hby d4_113) rfl rfl rfl k) ?_
  show Go _ _ _ (T13.setTop (mkF m 114 #[.val (.ref a1), .val (.ref a2), .unset, .unset, .unset, .unset, .unset] [(.int 0), (.ref a1), (.int 0)])) _
  refine Go.st (fun t k => XS.iconst X13.here hx rfl (hb hby d4_114) k) ?_
  refine Go.st (fun t k => XS.iadd X13.here hx rfl (hb hby d4_115) rfl k) ?_
  show Go _ _ _ (T13.setTop (mkF m 116 #[.val (.ref a1), .val (.ref a2), .unset, .unset, .unset, .unset, .unset] [(.int 1), (.ref a1), (.int 0)])) _
  obtain ⟨T14, h14, X14, e14, W14, st14⟩ := putF X13 hx hZ hown (host := "") (Or.inl (wd35 hw)) Via.refl e13 F_a1_size E_a1 (Or.inl (wd36 hw)) (wd7 hw) (ty := .int) (by decide) rfl rfl (g := (mkF m 116 #[.val (.ref a1), .val (.ref a2), .unset, .unset, .unset, .unset, .unset] [(.int 1), (.ref a1), (.int 0)])) rfl rfl (hb hby d4_116)
  refine Go.st st14 ?_
  have N14 := Fr.snoc X14 N11 g_a1
  replace E_a1 := E_a1.wr W14
  replace V_NI := V_NI.other W14 ne_w_NI_a1
  replace F_a1_arity := F_a1_arity.other W14 (Or.inr (slot_ne (Or.inr (wd20 hw)) (Or.inl (wd36 hw)) (by decide) (t := .int) (t' := .int) (by decide) (by decide)))
  replace F_a1_values := F_a1_values.other W14 (Or.inr (slot_ne (Or.inl (wd22 hw)) (Or.inl (wd36 hw)) (by decide) (t := (.array .int)) (t' := .int) (by decide) (by decide)))
  replace F_a1_size := F_a1_size.same W14
  replace F_a1_members := F_a1_members.other W14 (Or.inr (slot_ne (Or.inl (wd29 hw)) (Or.inl (wd36 hw)) (by decide) (t := (.object "com/example/bitlattice/bitlattice/eval/Relation$Index")) (t' := .int) (by decide) (by decide)))
  replace F_a1_indexes := F_a1_indexes.other W14 (Or.inr (slot_ne (Or.inl (wd18 hw)) (Or.inl (wd36 hw)) (by decide) (t := (.array (.object "com/example/bitlattice/bitlattice/eval/Relation$Index"))) (t' := .int) (by decide) (by decide)))
  replace F_a1_holdingAny := F_a1_holdingAny.other W14 (Or.inr (slot_ne (Or.inl (wd55 hw)) (Or.inl (wd36 hw)) (by decide) (t := .int) (t' := .int) (by decide) (by decide)))
  replace V_row := V_row.other W14 ne_a2_a1
  replace V_vals := V_vals.other W14 ne_vals_a1
  replace Z0 := Nat.le_trans Z0 (Nat.le_of_eq W14.size.symm)
  replace K0 := K0.wr W14 (Or.inl (by simp))
  show Go _ _ _ (T14.setTop (mkF m 119 #[.val (.ref a1), .val (.ref a2), .unset, .unset, .unset, .unset, .unset] [(.int 0)])) _
  refine Go.st (fun t k => XS.istoreN X14.here hx rfl (hb hby d4_119) rfl (l' := #[.val (.ref a1), .val (.ref a2), .val (.int 0), .unset, .unset, .unset, .unset]) rfl k) ?_
  refine Go.st (fun t k => XS.aloadN X14.here hx rfl (hb hby d4_120) rfl rfl k) ?_
  refine Go.st (fun t k => XS.astoreN X14.here hx rfl (hb hby d4_121) rfl rfl (l' := #[.val (.ref a1), .val (.ref a2), .val (.int 0), .val (.ref a2), .unset, .unset, .unset]) rfl k) ?_
  refine Go.st (fun t k => XS.aloadN X14.here hx rfl (hb hby d4_122) rfl rfl k) ?_
  obtain ⟨cl15, Ar15, -, Sz15, Ng15, -, -⟩ := id V_row
  refine Go.st (fun t k => X14.arraylength hx (by rw [e14]; exact Ar15.1) (State.isArrayOf_alike hZ.alike Ar15.2.1) (g := (mkF m 123 #[.val (.ref a1), .val (.ref a2), .val (.int 0), .val (.ref a2), .unset, .unset, .unset] [(.ref a2)])) rfl rfl (hb hby d4_123) _ k) ?_
  rw [len_of Sz15 Ng15]
  show Go _ _ _ (T14.setTop (mkF m 124 #[.val (.ref a1), .val (.ref a2), .val (.int 0), .val (.ref a2), .unset, .unset, .unset] [(.int 1)])) _
  refine Go.st (fun t k => XS.istore X14.here hx rfl (hb hby d4_124) rfl (l' := #[.val (.ref a1), .val (.ref a2), .val (.int 0), .val (.ref a2), .val (.int 1), .unset, .unset]) rfl k) ?_
  refine Go.st (fun t k => XS.iconst X14.here hx rfl (hb hby d4_126) k) ?_
  refine Go.st (fun t k => XS.istore X14.here hx rfl (hb hby d4_127) rfl (l' := #[.val (.ref a1), .val (.ref a2), .val (.int 0), .val (.ref a2), .val (.int 1), .val (.int 0), .unset]) rfl k) ?_
  refine Go.st (fun t k => XS.iload X14.here hx rfl (hb hby d4_129) rfl k) ?_
  refine Go.st (fun t k => XS.iload X14.here hx rfl (hb hby d4_131) rfl k) ?_
  refine Go.st (fun t k => XS.icmpNo X14.here hx rfl (hb hby d4_133) rfl (tlt (by decide : (0 : Int32) < (1 : Int32))).2.1 k) ?_
  show Go _ _ _ (T14.setTop (mkF m 136 #[.val (.ref a1), .val (.ref a2), .val (.int 0), .val (.ref a2), .val (.int 1), .val (.int 0), .unset] [])) _
  refine Go.st (fun t k => XS.aloadN X14.here hx rfl (hb hby d4_136) rfl rfl k) ?_
  refine Go.st (fun t k => XS.iload X14.here hx rfl (hb hby d4_137) rfl k) ?_
  obtain ⟨cl16, Ar16, -, Sz16, Ng16, Hs16, -⟩ := id V_row
  have hin16 : ¬ ((0 : Int32) < 0 ∨ cl16.slots.size ≤ ((0 : Int32)).toNatClampNeg) := inb_of Sz16 ⟨by decide, by decide⟩
  refine Go.st (fun t k => X14.iaload hx (j := (0 : Int32)) (v := (.int x0)) (by rw [e14]; exact Ar16.1) (State.isArrayOf_alike hZ.alike Ar16.2.1) Ar16.2.2 hin16 (Has.at Hs16 hin16 rfl) (g := (mkF m 139 #[.val (.ref a1), .val (.ref a2), .val (.int 0), .val (.ref a2), .val (.int 1), .val (.int 0), .unset] [(.int 0), (.ref a2)])) rfl rfl (hb hby d4_139) _ k) ?_
  show Go _ _ _ (T14.setTop (mkF m 140 #[.val (.ref a1), .val (.ref a2), .val (.int 0), .val (.ref a2), .val (.int 1), .val (.int 0), .unset] [(.int x0)])) _
  refine Go.st (fun t k => XS.istore X14.here hx rfl (hb hby d4_140) rfl (l' := #[.val (.ref a1), .val (.ref a2), .val (.int 0), .val (.ref a2), .val (.int 1), .val (.int 0), .val (.int x0)]) rfl k) ?_
  refine Go.st (fun t k => XS.iload X14.here hx rfl (hb hby d4_142) rfl k) ?_
  refine Go.st (fun t k => X14.ldcInt hx hown (mvT hZ (wd41 hw)) (g := (mkF m 144 #[.val (.ref a1), .val (.ref a2), .val (.int 0), .val (.ref a2), .val (.int 1), .val (.int 0), .val (.int x0)] [(.int x0)])) rfl (hb hby d4_144) _ k) ?_
  show Go _ _ _ (T14.setTop (mkF m 146 #[.val (.ref a1), .val (.ref a2), .val (.int 0), .val (.ref a2), .val (.int 1), .val (.int 0), .val (.int x0)] [(.int 2147483647), (.int x0)])) _
  by_cases hc17 : x0 = (2147483647 : Int32)
  · refine Go.st (fun t k => XS.icmpNo X14.here hx rfl (hb hby d4_146) rfl (teq hc17).2 k) ?_
    show Go _ _ _ (T14.setTop (mkF m 149 #[.val (.ref a1), .val (.ref a2), .val (.int 0), .val (.ref a2), .val (.int 1), .val (.int 0), .val (.int x0)] [])) _
    refine Go.st (fun t k => XS.aloadN X14.here hx rfl (hb hby d4_149) rfl rfl k) ?_
    refine Go.st (fun t k => XS.dup X14.here hx rfl (hb hby d4_150) rfl rfl k) ?_
    obtain ⟨T18, X18, e18, st18⟩ := getF X14 hx hZ hown (host := "") (Or.inl (wd54 hw)) Via.refl e14 F_a1_holdingAny (g := (mkF m 151 #[.val (.ref a1), .val (.ref a2), .val (.int 0), .val (.ref a2), .val (.int 1), .val (.int 0), .val (.int x0)] [(.ref a1), (.ref a1)])) rfl rfl (hb hby d4_151)
    refine Go.st st18 ?_
    show Go _ _ _ (T18.setTop (mkF m 154 #[.val (.ref a1), .val (.ref a2), .val (.int 0), .val (.ref a2), .val (.int 1), .val (.int 0), .val (.int x0)] [(.int hAny), (.ref a1)])) _
    refine Go.st (fun t k => XS.iconst X18.here hx rfl (hb hby d4_154) k) ?_
    refine Go.st (fun t k => XS.iadd X18.here hx rfl (hb hby d4_155) rfl k) ?_
    show Go _ _ _ (T18.setTop (mkF m 156 #[.val (.ref a1), .val (.ref a2), .val (.int 0), .val (.ref a2), .val (.int 1), .val (.int 0), .val (.int x0)] [(.int (hAny + (1 : Int32))), (.ref a1)])) _
    obtain ⟨T19, h19, X19, e19, W19, st19⟩ := putF X18 hx hZ hown (host := "") (Or.inl (wd54 hw)) Via.refl e18 F_a1_holdingAny E_a1 (Or.inl (wd55 hw)) (wd7 hw) (ty := .int) (by decide) rfl rfl (g := (mkF m 156 #[.val (.ref a1), .val (.ref a2), .val (.int 0), .val (.ref a2), .val (.int 1), .val (.int 0), .val (.int x0)] [(.int (hAny + (1 : Int32))), (.ref a1)])) rfl rfl (hb hby d4_156)
    refine Go.st st19 ?_
    have N19 := Fr.snoc X19 N14 g_a1
    replace E_a1 := E_a1.wr W19
    replace V_NI := V_NI.other W19 ne_w_NI_a1
    replace F_a1_arity := F_a1_arity.other W19 (Or.inr (slot_ne (Or.inr (wd20 hw)) (Or.inl (wd55 hw)) (by decide) (t := .int) (t' := .int) (by decide) (by decide)))
    replace F_a1_values := F_a1_values.other W19 (Or.inr (slot_ne (Or.inl (wd22 hw)) (Or.inl (wd55 hw)) (by decide) (t := (.array .int)) (t' := .int) (by decide) (by decide)))
    replace F_a1_size := F_a1_size.other W19 (Or.inr (slot_ne (Or.inl (wd36 hw)) (Or.inl (wd55 hw)) (by decide) (t := .int) (t' := .int) (by decide) (by decide)))
    replace F_a1_members := F_a1_members.other W19 (Or.inr (slot_ne (Or.inl (wd29 hw)) (Or.inl (wd55 hw)) (by decide) (t := (.object "com/example/bitlattice/bitlattice/eval/Relation$Index")) (t' := .int) (by decide) (by decide)))
    replace F_a1_indexes := F_a1_indexes.other W19 (Or.inr (slot_ne (Or.inl (wd18 hw)) (Or.inl (wd55 hw)) (by decide) (t := (.array (.object "com/example/bitlattice/bitlattice/eval/Relation$Index"))) (t' := .int) (by decide) (by decide)))
    replace F_a1_holdingAny := F_a1_holdingAny.same W19
    replace V_row := V_row.other W19 ne_a2_a1
    replace V_vals := V_vals.other W19 ne_vals_a1
    replace Z0 := Nat.le_trans Z0 (Nat.le_of_eq W19.size.symm)
    replace K0 := K0.wr W19 (Or.inl (by simp))
    show Go _ _ _ (T19.setTop (mkF m 159 #[.val (.ref a1), .val (.ref a2), .val (.int 0), .val (.ref a2), .val (.int 1), .val (.int 0), .val (.int x0)] [])) _
    refine Go.st (fun t k => XS.goto X19.here hx rfl (pc0 := 159) (pc' := 168) rfl (hb hby d4_159) (by decide) (by decide) k) ?_
    refine Go.st (fun t k => XS.aloadN X19.here hx rfl (hb hby d4_168) rfl rfl k) ?_
    obtain ⟨T20, X20, e20, st20⟩ := getF X19 hx hZ hown (host := "") (Or.inl (wd28 hw)) Via.refl e19 F_a1_members (g := (mkF m 169 #[.val (.ref a1), .val (.ref a2), .val (.int 0), .val (.ref a2), .val (.int 1), .val (.int 0), .val (.int x0)] [(.ref a1)])) rfl rfl (hb hby d4_169)
    refine Go.st st20 ?_
    show Go _ _ _ (T20.setTop (mkF m 172 #[.val (.ref a1), .val (.ref a2), .val (.int 0), .val (.ref a2), .val (.int 1), .val (.int 0), .val (.int x0)] [.null])) _
    refine Go.st (fun t k => XS.ifnonnullNo X20.here hx rfl (hb hby d4_172) rfl k) ?_
    show Go _ _ _ (T20.setTop (mkF m 175 #[.val (.ref a1), .val (.ref a2), .val (.int 0), .val (.ref a2), .val (.int 1), .val (.int 0), .val (.int x0)] [])) _
    refine Go.st (fun t k => XS.aloadN X20.here hx rfl (hb hby d4_175) rfl rfl k) ?_
    obtain ⟨T21, X21, e21, st21⟩ := getF X20 hx hZ hown (host := "") (Or.inl (wd35 hw)) Via.refl e20 F_a1_size (g := (mkF m 176 #[.val (.ref a1), .val (.ref a2), .val (.int 0), .val (.ref a2), .val (.int 1), .val (.int 0), .val (.int x0)] [(.ref a1)])) rfl rfl (hb hby d4_176)
    refine Go.st st21 ?_
    show Go _ _ _ (T21.setTop (mkF m 179 #[.val (.ref a1), .val (.ref a2), .val (.int 0), .val (.ref a2), .val (.int 1), .val (.int 0), .val (.int x0)] [(.int 1)])) _
    refine Go.st (fun t k => XS.bipush X21.here hx rfl (hb hby d4_179) k) ?_
    refine Go.st (fun t k => XS.icmpYes X21.here hx rfl (pc0 := 181) (pc' := 207) rfl (hb hby d4_181) rfl (flt (by decide : ¬ ((8 : Int32) < (1 : Int32)))).2.2.2 (by decide) (by decide) k) ?_
    show Go _ _ _ (T21.setTop (mkF m 207 #[.val (.ref a1), .val (.ref a2), .val (.int 0), .val (.ref a2), .val (.int 1), .val (.int 0), .val (.int x0)] [])) _
    refine Go.st (fun t k => XS.aloadN X21.here hx rfl (hb hby d4_207) rfl rfl k) ?_
    obtain ⟨T22, X22, e22, st22⟩ := getF X21 hx hZ hown (host := "") (Or.inl (wd17 hw)) Via.refl e21 F_a1_indexes (g := (mkF m 208 #[.val (.ref a1), .val (.ref a2), .val (.int 0), .val (.ref a2), .val (.int 1), .val (.int 0), .val (.int x0)] [(.ref a1)])) rfl rfl (hb hby d4_208)
    refine Go.st st22 ?_
    show Go _ _ _ (T22.setTop (mkF m 211 #[.val (.ref a1), .val (.ref a2), .val (.int 0), .val (.ref a2), .val (.int 1), .val (.int 0), .val (.int x0)] [(.ref w_NI)])) _
    refine Go.st (fun t k => XS.astoreN X22.here hx rfl (hb hby d4_211) rfl rfl (l' := #[.val (.ref a1), .val (.ref a2), .val (.int 0), .val (.ref w_NI), .val (.int 1), .val (.int 0), .val (.int x0)]) rfl k) ?_
    refine Go.st (fun t k => XS.aloadN X22.here hx rfl (hb hby d4_212) rfl rfl k) ?_
    obtain ⟨cl23, Ar23, -, Sz23, Ng23, -, -⟩ := id V_NI
    refine Go.st (fun t k => X22.arraylength hx (by rw [e22]; exact Ar23.1) (State.isArrayOf_alike hZ.alike Ar23.2.1) (g := (mkF m 213 #[.val (.ref a1), .val (.ref a2), .val (.int 0), .val (.ref w_NI), .val (.int 1), .val (.int 0), .val (.int x0)] [(.ref w_NI)])) rfl rfl (hb hby d4_213) _ k) ?_
    rw [len_of Sz23 Ng23]
    show Go _ _ _ (T22.setTop (mkF m 214 #[.val (.ref a1), .val (.ref a2), .val (.int 0), .val (.ref w_NI), .val (.int 1), .val (.int 0), .val (.int x0)] [(.int 0)])) _
    refine Go.st (fun t k => XS.istore X22.here hx rfl (hb hby d4_214) rfl (l' := #[.val (.ref a1), .val (.ref a2), .val (.int 0), .val (.ref w_NI), .val (.int 0), .val (.int 0), .val (.int x0)]) rfl k) ?_
    refine Go.st (fun t k => XS.iconst X22.here hx rfl (hb hby d4_216) k) ?_
    refine Go.st (fun t k => XS.istore X22.here hx rfl (hb hby d4_217) rfl (l' := #[.val (.ref a1), .val (.ref a2), .val (.int 0), .val (.ref w_NI), .val (.int 0), .val (.int 0), .val (.int x0)]) rfl k) ?_
    refine Go.st (fun t k => XS.iload X22.here hx rfl (hb hby d4_219) rfl k) ?_
    refine Go.st (fun t k => XS.iload X22.here hx rfl (hb hby d4_221) rfl k) ?_
    refine Go.st (fun t k => XS.icmpYes X22.here hx rfl (pc0 := 223) (pc' := 244) rfl (hb hby d4_223) rfl (flt (by decide : ¬ ((0 : Int32) < (0 : Int32)))).2.1 (by decide) (by decide) k) ?_
    show Go _ _ _ (T22.setTop (mkF m 244 #[.val (.ref a1), .val (.ref a2), .val (.int 0), .val (.ref w_NI), .val (.int 0), .val (.int 0), .val (.int x0)] [])) _
    refine Go.st (fun t k => XS.iconst X22.here hx rfl (hb hby d4_244) k) ?_
    obtain ⟨fs, hr, hrun, hended, hW, hsame⟩ := X22.leave (v := some (.int (1 : Int32))) (fun h => by rw [Bd.returns] at h; cases h)
    refine Go.fin (retN X22 hx (t := .boolean) Bd.returns (by simp) (hb hby d4_245) hr) hrun hended ⟨_, _, rfl, ?_, ⟨_, rfl⟩, hW, hsame.mono (by decide) (by decide)⟩
    show Q4_1_0 Z a1 a2 vals w_NI k_NI hAny k_v v0 v1 v2 v3 k_x x0 h0 n0 _ T22.heap _
    rw [e22]
    exact ⟨(hAny + (1 : Int32)), rfl, N19, K0, E_a1, F_a1_arity, F_a1_values, F_a1_size, F_a1_members, F_a1_indexes, F_a1_holdingAny, V_vals⟩
  · refine Go.st (fun t k => XS.icmpYes X14.here hx rfl (pc0 := 146) (pc' := 162) rfl (hb hby d4_146) rfl (feq hc17).2 (by decide) (by decide) k) ?_
    show Go _ _ _ (T14.setTop (mkF m 162 #[.val (.ref a1), .val (.ref a2), .val (.int 0), .val (.ref a2), .val (.int 1), .val (.int 0), .val (.int x0)] [])) _
    refine Go.st (fun t k => XS.iinc X14.here hx rfl (hb hby d4_162) rfl (l' := #[.val (.ref a1), .val (.ref a2), .val (.int (0 : Int32)), .val (.ref a2), .val (.int (1 : Int32)), .val (.int ((0 : Int32) + (1 : Int32))), .val (.int x0)]) rfl k) ?_
    show Go _ _ _ (T14.setTop (mkF m 165 #[.val (.ref a1), .val (.ref a2), .val (.int 0), .val (.ref a2), .val (.int 1), .val (.int 1), .val (.int x0)] [])) _
    refine Go.st (fun t k => XS.goto X14.here hx rfl (pc0 := 165) (pc' := 129) rfl (hb hby d4_165) (by decide) (by decide) k) ?_
    refine Go.st (fun t k => XS.iload X14.here hx rfl (hb hby d4_129) rfl k) ?_
    refine Go.st (fun t k => XS.iload X14.here hx rfl (hb hby d4_131) rfl k) ?_
    refine Go.st (fun t k => XS.icmpYes X14.here hx rfl (pc0 := 133) (pc' := 168) rfl (hb hby d4_133) rfl (flt (by decide : ¬ ((1 : Int32) < (1 : Int32)))).2.1 (by decide) (by decide) k) ?_
    show Go _ _ _ (T14.setTop (mkF m 168 #[.val (.ref a1), .val (.ref a2), .val (.int 0), .val (.ref a2), .val (.int 1), .val (.int 1), .val (.int x0)] [])) _
    refine Go.st (fun t k => XS.aloadN X14.here hx rfl (hb hby d4_168) rfl rfl k) ?_
    obtain ⟨T24, X24, e24, st24⟩ := getF X14 hx hZ hown (host := "") (Or.inl (wd28 hw)) Via.refl e14 F_a1_members (g := (mkF m 169 #[.val (.ref a1), .val (.ref a2), .val (.int 0), .val (.ref a2), .val (.int 1), .val (.int 1), .val (.int x0)] [(.ref a1)])) rfl rfl (hb hby d4_169)
    refine Go.st st24 ?_
    show Go _ _ _ (T24.setTop (mkF m 172 #[.val (.ref a1), .val (.ref a2), .val (.int 0), .val (.ref a2), .val (.int 1), .val (.int 1), .val (.int x0)] [.null])) _
    refine Go.st (fun t k => XS.ifnonnullNo X24.here hx rfl (hb hby d4_172) rfl k) ?_
    show Go _ _ _ (T24.setTop (mkF m 175 #[.val (.ref a1), .val (.ref a2), .val (.int 0), .val (.ref a2), .val (.int 1), .val (.int 1), .val (.int x0)] [])) _
    refine Go.st (fun t k => XS.aloadN X24.here hx rfl (hb hby d4_175) rfl rfl k) ?_
    obtain ⟨T25, X25, e25, st25⟩ := getF X24 hx hZ hown (host := "") (Or.inl (wd35 hw)) Via.refl e24 F_a1_size (g := (mkF m 176 #[.val (.ref a1), .val (.ref a2), .val (.int 0), .val (.ref a2), .val (.int 1), .val (.int 1), .val (.int x0)] [(.ref a1)])) rfl rfl (hb hby d4_176)
    refine Go.st st25 ?_
    show Go _ _ _ (T25.setTop (mkF m 179 #[.val (.ref a1), .val (.ref a2), .val (.int 0), .val (.ref a2), .val (.int 1), .val (.int 1), .val (.int x0)] [(.int 1)])) _
    refine Go.st (fun t k => XS.bipush X25.here hx rfl (hb hby d4_179) k) ?_
    refine Go.st (fun t k => XS.icmpYes X25.here hx rfl (pc0 := 181) (pc' := 207) rfl (hb hby d4_181) rfl (flt (by decide : ¬ ((8 : Int32) < (1 : Int32)))).2.2.2 (by decide) (by decide) k) ?_
    show Go _ _ _ (T25.setTop (mkF m 207 #[.val (.ref a1), .val (.ref a2), .val (.int 0), .val (.ref a2), .val (.int 1), .val (.int 1), .val (.int x0)] [])) _
    refine Go.st (fun t k => XS.aloadN X25.here hx rfl (hb hby d4_207) rfl rfl k) ?_
    obtain ⟨T26, X26, e26, st26⟩ := getF X25 hx hZ hown (host := "") (Or.inl (wd17 hw)) Via.refl e25 F_a1_indexes (g := (mkF m 208 #[.val (.ref a1), .val (.ref a2), .val (.int 0), .val (.ref a2), .val (.int 1), .val (.int 1), .val (.int x0)] [(.ref a1)])) rfl rfl (hb hby d4_208)
    refine Go.st st26 ?_
    show Go _ _ _ (T26.setTop (mkF m 211 #[.val (.ref a1), .val (.ref a2), .val (.int 0), .val (.ref a2), .val (.int 1), .val (.int 1), .val (.int x0)] [(.ref w_NI)])) _
    refine Go.st (fun t k => XS.astoreN X26.here hx rfl (hb hby d4_211) rfl rfl (l' := #[.val (.ref a1), .val (.ref a2), .val (.int 0), .val (.ref w_NI), .val (.int 1), .val (.int 1), .val (.int x0)]) rfl k) ?_
    refine Go.st (fun t k => XS.aloadN X26.here hx rfl (hb hby d4_212) rfl rfl k) ?_
    obtain ⟨cl27, Ar27, -, Sz27, Ng27, -, -⟩ := id V_NI
    refine Go.st (fun t k => X26.arraylength hx (by rw [e26]; exact Ar27.1) (State.isArrayOf_alike hZ.alike Ar27.2.1) (g := (mkF m 213 #[.val (.ref a1), .val (.ref a2), .val (.int 0), .val (.ref w_NI), .val (.int 1), .val (.int 1), .val (.int x0)] [(.ref w_NI)])) rfl rfl (hb hby d4_213) _ k) ?_
    rw [len_of Sz27 Ng27]
    show Go _ _ _ (T26.setTop (mkF m 214 #[.val (.ref a1), .val (.ref a2), .val (.int 0), .val (.ref w_NI), .val (.int 1), .val (.int 1), .val (.int x0)] [(.int 0)])) _
    refine Go.st (fun t k => XS.istore X26.here hx rfl (hb hby d4_214) rfl (l' := #[.val (.ref a1), .val (.ref a2), .val (.int 0), .val (.ref w_NI), .val (.int 0), .val (.int 1), .val (.int x0)]) rfl k) ?_
    refine Go.st (fun t k => XS.iconst X26.here hx rfl (hb hby d4_216) k) ?_
    refine Go.st (fun t k => XS.istore X26.here hx rfl (hb hby d4_217) rfl (l' := #[.val (.ref a1), .val (.ref a2), .val (.int 0), .val (.ref w_NI), .val (.int 0), .val (.int 0), .val (.int x0)]) rfl k) ?_
    refine Go.st (fun t k => XS.iload X26.here hx rfl (hb hby d4_219) rfl k) ?_
    refine Go.st (fun t k => XS.iload X26.here hx rfl (hb hby d4_221) rfl k) ?_
    refine Go.st (fun t k => XS.icmpYes X26.here hx rfl (pc0 := 223) (pc' := 244) rfl (hb hby d4_223) rfl (flt (by decide : ¬ ((0 : Int32) < (0 : Int32)))).2.1 (by decide) (by decide) k) ?_
    show Go _ _ _ (T26.setTop (mkF m 244 #[.val (.ref a1), .val (.ref a2), .val (.int 0), .val (.ref w_NI), .val (.int 0), .val (.int 0), .val (.int x0)] [])) _
    refine Go.st (fun t k => XS.iconst X26.here hx rfl (hb hby d4_244) k) ?_
    obtain ⟨fs, hr, hrun, hended, hW, hsame⟩ := X26.leave (v := some (.int (1 : Int32))) (fun h => by rw [Bd.returns] at h; cases h)
    refine Go.fin (retN X26 hx (t := .boolean) Bd.returns (by simp) (hb hby d4_245) hr) hrun hended ⟨_, _, rfl, ?_, ⟨_, rfl⟩, hW, hsame.mono (by decide) (by decide)⟩
    show Q4_1_0 Z a1 a2 vals w_NI k_NI hAny k_v v0 v1 v2 v3 k_x x0 h0 n0 _ T26.heap _
    rw [e26]
    exact ⟨hAny, rfl, N14, K0, E_a1, F_a1_arity, F_a1_values, F_a1_size, F_a1_members, F_a1_indexes, F_a1_holdingAny, V_vals⟩
theorem d5_34 : decode prog_33_method_15_code 34 = .ok (.aload_n 0, 1) := by decide +kernel
theorem d5_35 : decode prog_33_method_15_code 35 = .ok (.iload_n 2, 1) := by decide +kernel
theorem d5_36 : decode prog_33_method_15_code 36 = .ok (.aload_n 1, 1) := by decide +kernel
theorem d5_37 : decode prog_33_method_15_code 37 = .ok (.invokevirtual 94, 3) := by decide +kernel
theorem wd42 {Z : State} {a0 : Array Value} (hw : ∀ d ∈ tables_1, d.before a0 Z = true) : (Jvm.Cond.methodLink "com/example/bitlattice/bitlattice/eval/Relation" (94 : Nat) ({ cls := "com/example/bitlattice/bitlattice/eval/Relation", name := "rowIs", desc := "(I[I)Z" } : Jvm.MethodName)).before a0 Z = true := hw _ (List.mem_of_getElem? (i := 42) rfl)
theorem wd45 {Z : State} {a0 : Array Value} (hw : ∀ d ∈ tables_1, d.before a0 Z = true) : (Jvm.Cond.code ({ cls := "com/example/bitlattice/bitlattice/eval/Relation", name := "rowIs", desc := "(I[I)Z" } : Jvm.MethodName) prog_33_method_16_code (4 : Nat) (Option.some Jvm.ClassFile.FieldType.boolean)).before a0 Z = true := hw _ (List.mem_of_getElem? (i := 45) rfl)
theorem pd1 : parseMethodDescriptor "(I[I)Z" = some ⟨[.int, (.array .int)], some .boolean⟩ := by decide +kernel
theorem wd43 {Z : State} {a0 : Array Value} (hw : ∀ d ∈ tables_1, d.before a0 Z = true) : (Jvm.Cond.instanceMethod ({ cls := "com/example/bitlattice/bitlattice/eval/Relation", name := "rowIs", desc := "(I[I)Z" } : Jvm.MethodName)).before a0 Z = true := hw _ (List.mem_of_getElem? (i := 43) rfl)
theorem wd44 {Z : State} {a0 : Array Value} (hw : ∀ d ∈ tables_1, d.before a0 Z = true) : (Jvm.Cond.privateMethod ({ cls := "com/example/bitlattice/bitlattice/eval/Relation", name := "rowIs", desc := "(I[I)Z" } : Jvm.MethodName)).before a0 Z = true := hw _ (List.mem_of_getElem? (i := 44) rfl)
theorem d5_40 : decode prog_33_method_15_code 40 = .ok (.ifCond .eq 5, 3) := by decide +kernel
theorem d5_45 : decode prog_33_method_15_code 45 = .ok (.iinc 2 1, 3) := by decide +kernel
theorem d5_48 : decode prog_33_method_15_code 48 = .ok (.goto (-22), 3) := by decide +kernel
theorem d5_43 : decode prog_33_method_15_code 43 = .ok (.iconst 1, 1) := by decide +kernel
theorem d5_44 : decode prog_33_method_15_code 44 = .ok (.ireturn, 1) := by decide +kernel
def f5_1_1 (v0 : Int32) (x0 : Int32) : Int32 := (if (f6_1 v0 x0) = (0 : Int32) then (0 : Int32) else (1 : Int32))
def Q5_1_1 (Z : State) (a1 : Addr) (a2 : Addr) (vals : Addr) (w_NI : Addr) (k_NI : ClassId) (hAny : Int32) (k_v : ClassId) (v0 : Int32) (v1 : Int32) (v2 : Int32) (v3 : Int32) (k_x : ClassId) (x0 : Int32) (h0 : Heap) (n0 : Nat) (v : Option Value) (h : Heap) (L : List Loc) : Prop := v = some (.int (f5_1_1 v0 x0)) ∧ Fr n0 L ∧ h = h0
theorem ef5_1_1 (m : MethodId) (x0 : Addr) (x1 : Addr) : entryFrame m #[(.ref x0), (.ref x1)] 3 = mkF m 0 #[.val (.ref x0), .val (.ref x1), .unset] [] := by first | (simp [entryFrame, mkF, argsToLocals, Value.category]; done) | rfl
set_option maxRecDepth 65536 in
set_option maxHeartbeats 16000000 in
theorem rm5_1_1 (l : Launch) (Z : State) (a0 : Array Value) (hw : ∀ d ∈ tables_1, d.before a0 Z = true) (ws : List Jvm.Cond) (a1 : Addr) (a2 : Addr) (vals : Addr) (w_NI : Addr) (k_NI : ClassId) (hAny : Int32) (k_v : ClassId) (v0 : Int32) (v1 : Int32) (v2 : Int32) (v3 : Int32) (k_x : ClassId) (x0 : Int32) (h0 : Heap) (n0 : Nat) (Z0 : n0 ≤ h0.size) (E_a1 : Exa Z h0 a1 "com/example/bitlattice/bitlattice/eval/Relation") (V_NI : Arv Z h0 w_NI k_NI (.object "com/example/bitlattice/bitlattice/eval/Relation$Index") (0 : Int32) [] .null) (F_a1_arity : Fld Z h0 a1 "com/example/bitlattice/bitlattice/eval/Relation" "arity" "I" (.int (1 : Int32))) (F_a1_values : Fld Z h0 a1 "com/example/bitlattice/bitlattice/eval/Relation" "values" "[I" (.ref vals)) (F_a1_size : Fld Z h0 a1 "com/example/bitlattice/bitlattice/eval/Relation" "size" "I" (.int (1 : Int32))) (F_a1_members : Fld Z h0 a1 "com/example/bitlattice/bitlattice/eval/Relation" "members" "Lcom/example/bitlattice/bitlattice/eval/Relation$Index;" .null) (F_a1_indexes : Fld Z h0 a1 "com/example/bitlattice/bitlattice/eval/Relation" "indexes" "[Lcom/example/bitlattice/bitlattice/eval/Relation$Index;" (.ref w_NI)) (F_a1_holdingAny : Fld Z h0 a1 "com/example/bitlattice/bitlattice/eval/Relation" "holdingAny" "I" (.int hAny)) (V_vals : Arv Z h0 vals k_v .int (4 : Int32) [(.int v0), (.int v1), (.int v2), (.int v3)] (.int (0 : Int32))) (V_row : Arv Z h0 a2 k_x .int (1 : Int32) [(.int x0)] (.int (0 : Int32))) (ne_vals_a1 : vals ≠ a1) (ne_a2_a1 : a2 ≠ a1) (ne_vals_a2 : vals ≠ a2) (ne_w_NI_a1 : w_NI ≠ a1) (ne_w_NI_vals : w_NI ≠ vals) (ne_w_NI_a2 : w_NI ≠ a2) :
    MetFree l (⟨"com/example/bitlattice/bitlattice/eval/Relation", "contains", "([I)Z"⟩ : MethodName) (head1 (Jvm.Cond.code (⟨"com/example/bitlattice/bitlattice/eval/Relation", "contains", "([I)Z"⟩ : MethodName) prog_33_method_15_code 3 (some .boolean) :: ws) ({ frames := 1, cells := 0, slots := 0, locals := 15 } : Room)) (fun a U => a = #[(.ref a1), (.ref a2)] ∧ Z.Warmed39 U.vm ∧ U.heap = h0) (fun _ _ _ _ _ => True) (fun _ U o U' => ∃ v L, o = .returned v ∧ Q5_1_1 Z a1 a2 vals w_NI k_NI hAny k_v v0 v1 v2 v3 k_x x0 h0 n0 v U'.heap L ∧ FrameEnd U o U' L ({ frames := 1, cells := 0, slots := 0, locals := 15 } : Room).cells ({ frames := 1, cells := 0, slots := 0, locals := 15 } : Room).slots) := by
  refine MetFree.of_bodySF (plainFor_of_name pn1) hisR ?_
  intro p e s m args below meth c s₁ Bd hml0 hP hK
  obtain ⟨rfl, hZ, hh⟩ := hP
  have hx := Bd.exec
  have hby := Bd.bytes
  have hml : c.maxLocals = 3 := hml0
  have hown : s.vm.findClass "com/example/bitlattice/bitlattice/eval/Relation" = some m.cls := findClass_of_methodNamed Bd.named
  have hnm := (name_of_methodNamed Bd.named Bd.method).1
  have X0 : Stand p l e ({ frames := 1, cells := 0, slots := 0, locals := 15 } : Room) s m #[(.ref a1), (.ref a2)] below meth c s₁ [] 0 0 := Stand.of_body Bd
  have e0 : s₁.heap = h0 := by rw [← hh, Bd.state]; rfl
  have N0 := Fr.nil n0
  have K0 : Keep h0 h0 [] := Keep.refl h0 _
  refine Go.st (P := fun o U' => ∃ v L, o = .returned v ∧ Q5_1_1 Z a1 a2 vals w_NI k_NI hAny k_v v0 v1 v2 v3 k_x x0 h0 n0 v U'.heap L ∧ FrameEnd s o U' L ({ frames := 1, cells := 0, slots := 0, locals := 15 } : Room).cells ({ frames := 1, cells := 0, slots := 0, locals := 15 } : Room).slots) (fun t k => castTop (ef5_1_1 m a1 a2) k) ?_
  show Go _ _ _ (s₁.setTop (mkF m 0 #[.val (.ref a1), .val (.ref a2), .unset] [])) _
  refine Go.st (fun t k => XS.aloadN X0.here hx rfl (hb hby d5_0) rfl rfl k) ?_
  obtain ⟨T1, X1, e1, st1⟩ := getF X0 hx hZ hown (host := "") (Or.inl (wd28 hw)) Via.refl e0 F_a1_members (g := (mkF m 1 #[.val (.ref a1), .val (.ref a2), .unset] [(.ref a1)])) rfl rfl (hb hby d5_1)
  refine Go.st st1 ?_
  show Go _ _ _ (T1.setTop (mkF m 4 #[.val (.ref a1), .val (.ref a2), .unset] [.null])) _
  refine Go.st (fun t k => XS.ifnullYes X1.here hx rfl (pc0 := 4) (pc' := 24) rfl (hb hby d5_4) rfl (by decide) (by decide) k) ?_
  show Go _ _ _ (T1.setTop (mkF m 24 #[.val (.ref a1), .val (.ref a2), .unset] [])) _
  refine Go.st (fun t k => XS.iconst X1.here hx rfl (hb hby d5_24) k) ?_
  refine Go.st (fun t k => XS.istoreN X1.here hx rfl (hb hby d5_25) rfl (l' := #[.val (.ref a1), .val (.ref a2), .val (.int 0)]) rfl k) ?_
  refine Go.st (fun t k => XS.iloadN X1.here hx rfl (hb hby d5_26) rfl k) ?_
  refine Go.st (fun t k => XS.aloadN X1.here hx rfl (hb hby d5_27) rfl rfl k) ?_
  obtain ⟨T2, X2, e2, st2⟩ := getF X1 hx hZ hown (host := "") (Or.inl (wd35 hw)) Via.refl e1 F_a1_size (g := (mkF m 28 #[.val (.ref a1), .val (.ref a2), .val (.int 0)] [(.ref a1), (.int 0)])) rfl rfl (hb hby d5_28)
  refine Go.st st2 ?_
  show Go _ _ _ (T2.setTop (mkF m 31 #[.val (.ref a1), .val (.ref a2), .val (.int 0)] [(.int 1), (.int 0)])) _
  refine Go.st (fun t k => XS.icmpNo X2.here hx rfl (hb hby d5_31) rfl (tlt (by decide : (0 : Int32) < (1 : Int32))).2.1 k) ?_
  show Go _ _ _ (T2.setTop (mkF m 34 #[.val (.ref a1), .val (.ref a2), .val (.int 0)] [])) _
  refine Go.st (fun t k => XS.aloadN X2.here hx rfl (hb hby d5_34) rfl rfl k) ?_
  refine Go.st (fun t k => XS.iloadN X2.here hx rfl (hb hby d5_35) rfl k) ?_
  refine Go.st (fun t k => XS.aloadN X2.here hx rfl (hb hby d5_36) rfl rfl k) ?_
  obtain ⟨cq3, qq3, qq3'⟩ := E_a1.cell
  obtain ⟨_, _, ⟨T3, L3, k3, n3⟩, -, X3, ⟨Lc3, hQ3, l3, y3, z3⟩, st3⟩ := X2.privateBack hx (y := (⟨"com/example/bitlattice/bitlattice/eval/Relation", "rowIs", "(I[I)Z"⟩ : MethodName)) hown (mvT hZ (wd42 hw)) (mvT hZ (wd43 hw)) (own_selp (mvT hZ (wd7 hw)) (Cond.privateMethod_at (mvP hZ (wd44 hw) (args := #[]))) (mvT hZ (wd43 hw)) (by decide)) (Cond.privateMethod_at (mvP hZ (wd44 hw) (args := #[]))) (mvT hZ (wd45 hw)) (by decide) (backOf (W := 0) (rm6_1 l Z a0 hw [] a1 a2 vals w_NI k_NI hAny k_v v0 v1 v2 v3 k_x x0 h0 n0 Z0 E_a1 V_NI F_a1_arity F_a1_values F_a1_size F_a1_members F_a1_indexes F_a1_holdingAny V_vals V_row ne_vals_a1 ne_a2_a1 ne_vals_a2 ne_w_NI_a1 ne_w_NI_vals ne_w_NI_a2) hZ (wd45 hw) (wd8 hw) (by decide) (by decide)) (g := (mkF m 37 #[.val (.ref a1), .val (.ref a2), .val (.int 0)] [(.ref a2), (.int 0), (.ref a1)])) rfl (by rw [hml]; rfl) (Steps.refl _) (a := a1) (by rw [e2]; exact qq3) qq3' (argsL := [(.int (0 : Int32)), (.ref a2)]) (rest := []) (lenOf pd1 rfl) rfl (by show 2 * 0 + _ ≤ _; exact Nat.le_of_eq rfl) (hb hby d5_37) (fun _ _ => ⟨rfl, e2, (by decide : 0 + 0 ≤ _), (by decide : 0 + 0 ≤ _)⟩)
  dsimp only [Pt.U, Pt.locs, Pt.cells, Pt.slots] at X3 l3 y3 z3 st3 hQ3
  subst l3 y3 z3
  refine Go.tr st3 ?_
  obtain ⟨rfl, N3q, e3⟩ := hQ3
  have N3 := Fr.app N0 N3q
  show Go _ _ _ (T3.setTop (mkF m 40 #[.val (.ref a1), .val (.ref a2), .val (.int 0)] [(.int (f6_1 v0 x0))])) _
  by_cases hc4 : (f6_1 v0 x0) = (0 : Int32)
  · refine Go.st (fun t k => XS.ifYes X3.here hx rfl (pc0 := 40) (pc' := 45) rfl (hb hby d5_40) rfl ((if0 _ _).trans (teq hc4).1) (by decide) (by decide) k) ?_
    show Go _ _ _ (T3.setTop (mkF m 45 #[.val (.ref a1), .val (.ref a2), .val (.int 0)] [])) _
    refine Go.st (fun t k => XS.iinc X3.here hx rfl (hb hby d5_45) rfl (l' := #[.val (.ref a1), .val (.ref a2), .val (.int ((0 : Int32) + (1 : Int32)))]) rfl k) ?_
    show Go _ _ _ (T3.setTop (mkF m 48 #[.val (.ref a1), .val (.ref a2), .val (.int 1)] [])) _
    refine Go.st (fun t k => XS.goto X3.here hx rfl (pc0 := 48) (pc' := 26) rfl (hb hby d5_48) (by decide) (by decide) k) ?_
    refine Go.st (fun t k => XS.iloadN X3.here hx rfl (hb hby d5_26) rfl k) ?_
    refine Go.st (fun t k => XS.aloadN X3.here hx rfl (hb hby d5_27) rfl rfl k) ?_
    obtain ⟨T5, X5, e5, st5⟩ := getF X3 hx hZ hown (host := "") (Or.inl (wd35 hw)) Via.refl e3 F_a1_size (g := (mkF m 28 #[.val (.ref a1), .val (.ref a2), .val (.int 1)] [(.ref a1), (.int 1)])) rfl rfl (hb hby d5_28)
    refine Go.st st5 ?_
    show Go _ _ _ (T5.setTop (mkF m 31 #[.val (.ref a1), .val (.ref a2), .val (.int 1)] [(.int 1), (.int 1)])) _
    refine Go.st (fun t k => XS.icmpYes X5.here hx rfl (pc0 := 31) (pc' := 51) rfl (hb hby d5_31) rfl (flt (by decide : ¬ ((1 : Int32) < (1 : Int32)))).2.1 (by decide) (by decide) k) ?_
    show Go _ _ _ (T5.setTop (mkF m 51 #[.val (.ref a1), .val (.ref a2), .val (.int 1)] [])) _
    refine Go.st (fun t k => XS.iconst X5.here hx rfl (hb hby d5_51) k) ?_
    obtain ⟨fs, hr, hrun, hended, hW, hsame⟩ := X5.leave (v := some (.int (0 : Int32))) (fun h => by rw [Bd.returns] at h; cases h)
    refine Go.fin (retN X5 hx (t := .boolean) Bd.returns (by simp) (hb hby d5_52) hr) hrun hended ⟨_, _, rfl, ?_, ⟨_, rfl⟩, hW, hsame.mono (by decide) (by decide)⟩
    show Q5_1_1 Z a1 a2 vals w_NI k_NI hAny k_v v0 v1 v2 v3 k_x x0 h0 n0 _ T5.heap _
    rw [e5]
    exact ⟨(by unfold f5_1_1; simp only [if_pos hc4]), N3, rfl⟩
  · refine Go.st (fun t k => XS.ifNo X3.here hx rfl (hb hby d5_40) rfl ((if0 _ _).trans (feq hc4).1) k) ?_
    show Go _ _ _ (T3.setTop (mkF m 43 #[.val (.ref a1), .val (.ref a2), .val (.int 0)] [])) _
    refine Go.st (fun t k => XS.iconst X3.here hx rfl (hb hby d5_43) k) ?_
    obtain ⟨fs, hr, hrun, hended, hW, hsame⟩ := X3.leave (v := some (.int (1 : Int32))) (fun h => by rw [Bd.returns] at h; cases h)
    refine Go.fin (retN X3 hx (t := .boolean) Bd.returns (by simp) (hb hby d5_44) hr) hrun hended ⟨_, _, rfl, ?_, ⟨_, rfl⟩, hW, hsame.mono (by decide) (by decide)⟩
    show Q5_1_1 Z a1 a2 vals w_NI k_NI hAny k_v v0 v1 v2 v3 k_x x0 h0 n0 _ T3.heap _
    rw [e3]
    exact ⟨(by unfold f5_1_1; simp only [if_neg hc4]), N3, rfl⟩
theorem d4_15 : decode prog_33_method_14_code 15 = .ok (.iconst 0, 1) := by decide +kernel
theorem d4_16 : decode prog_33_method_14_code 16 = .ok (.ireturn, 1) := by decide +kernel
def f4_1_1 (v0 : Int32) (x0 : Int32) : Int32 := (if (f5_1_1 v0 x0) = (0 : Int32) then (1 : Int32) else (0 : Int32))
def f4_1_1_a1_size (v0 : Int32) (x0 : Int32) : Int32 := (if (f5_1_1 v0 x0) = (0 : Int32) then (2 : Int32) else (1 : Int32))
def f4_1_1_vals_1 (v0 : Int32) (v1 : Int32) (x0 : Int32) : Int32 := (if (f5_1_1 v0 x0) = (0 : Int32) then x0 else v1)
def Q4_1_1 (Z : State) (a1 : Addr) (a2 : Addr) (vals : Addr) (w_NI : Addr) (k_NI : ClassId) (hAny : Int32) (k_v : ClassId) (v0 : Int32) (v1 : Int32) (v2 : Int32) (v3 : Int32) (k_x : ClassId) (x0 : Int32) (h0 : Heap) (n0 : Nat) (v : Option Value) (h : Heap) (L : List Loc) : Prop := ∃ z_4_1_1_holdingAny : Int32, v = some (.int (f4_1_1 v0 x0)) ∧ Fr n0 L ∧ Keep h0 h [vals, a1] ∧ Exa Z h a1 "com/example/bitlattice/bitlattice/eval/Relation" ∧ Fld Z h a1 "com/example/bitlattice/bitlattice/eval/Relation" "arity" "I" (.int (1 : Int32)) ∧ Fld Z h a1 "com/example/bitlattice/bitlattice/eval/Relation" "values" "[I" (.ref vals) ∧ Fld Z h a1 "com/example/bitlattice/bitlattice/eval/Relation" "size" "I" (.int (f4_1_1_a1_size v0 x0)) ∧ Fld Z h a1 "com/example/bitlattice/bitlattice/eval/Relation" "members" "Lcom/example/bitlattice/bitlattice/eval/Relation$Index;" .null ∧ Fld Z h a1 "com/example/bitlattice/bitlattice/eval/Relation" "indexes" "[Lcom/example/bitlattice/bitlattice/eval/Relation$Index;" (.ref w_NI) ∧ Fld Z h a1 "com/example/bitlattice/bitlattice/eval/Relation" "holdingAny" "I" (.int z_4_1_1_holdingAny) ∧ Arv Z h vals k_v .int (4 : Int32) [(.int v0), (.int (f4_1_1_vals_1 v0 v1 x0)), (.int v2), (.int v3)] (.int (0 : Int32))
theorem ef4_1_1 (m : MethodId) (x0 : Addr) (x1 : Addr) : entryFrame m #[(.ref x0), (.ref x1)] 7 = mkF m 0 #[.val (.ref x0), .val (.ref x1), .unset, .unset, .unset, .unset, .unset] [] := by first | (simp [entryFrame, mkF, argsToLocals, Value.category]; done) | rfl
set_option maxRecDepth 65536 in
set_option maxHeartbeats 16000000 in
theorem rm4_1_1 (l : Launch) (Z : State) (a0 : Array Value) (hw : ∀ d ∈ tables_1, d.before a0 Z = true) (ws : List Jvm.Cond) (a1 : Addr) (a2 : Addr) (vals : Addr) (w_NI : Addr) (k_NI : ClassId) (hAny : Int32) (k_v : ClassId) (v0 : Int32) (v1 : Int32) (v2 : Int32) (v3 : Int32) (k_x : ClassId) (x0 : Int32) (h0 : Heap) (n0 : Nat) (Z0 : n0 ≤ h0.size) (E_a1 : Exa Z h0 a1 "com/example/bitlattice/bitlattice/eval/Relation") (V_NI : Arv Z h0 w_NI k_NI (.object "com/example/bitlattice/bitlattice/eval/Relation$Index") (0 : Int32) [] .null) (F_a1_arity : Fld Z h0 a1 "com/example/bitlattice/bitlattice/eval/Relation" "arity" "I" (.int (1 : Int32))) (F_a1_values : Fld Z h0 a1 "com/example/bitlattice/bitlattice/eval/Relation" "values" "[I" (.ref vals)) (F_a1_size : Fld Z h0 a1 "com/example/bitlattice/bitlattice/eval/Relation" "size" "I" (.int (1 : Int32))) (F_a1_members : Fld Z h0 a1 "com/example/bitlattice/bitlattice/eval/Relation" "members" "Lcom/example/bitlattice/bitlattice/eval/Relation$Index;" .null) (F_a1_indexes : Fld Z h0 a1 "com/example/bitlattice/bitlattice/eval/Relation" "indexes" "[Lcom/example/bitlattice/bitlattice/eval/Relation$Index;" (.ref w_NI)) (F_a1_holdingAny : Fld Z h0 a1 "com/example/bitlattice/bitlattice/eval/Relation" "holdingAny" "I" (.int hAny)) (V_vals : Arv Z h0 vals k_v .int (4 : Int32) [(.int v0), (.int v1), (.int v2), (.int v3)] (.int (0 : Int32))) (V_row : Arv Z h0 a2 k_x .int (1 : Int32) [(.int x0)] (.int (0 : Int32))) (ne_vals_a1 : vals ≠ a1) (ne_a2_a1 : a2 ≠ a1) (ne_vals_a2 : vals ≠ a2) (ne_w_NI_a1 : w_NI ≠ a1) (ne_w_NI_vals : w_NI ≠ vals) (ne_w_NI_a2 : w_NI ≠ a2) (g_vals : n0 ≤ vals) (g_a1 : n0 ≤ a1) :
    MetFree l (⟨"com/example/bitlattice/bitlattice/eval/Relation", "add", "([I)Z"⟩ : MethodName) (head1 (Jvm.Cond.code (⟨"com/example/bitlattice/bitlattice/eval/Relation", "add", "([I)Z"⟩ : MethodName) prog_33_method_14_code 7 (some .boolean) :: ws) ({ frames := 2, cells := 0, slots := 0, locals := 29 } : Room)) (fun a U => a = #[(.ref a1), (.ref a2)] ∧ Z.Warmed39 U.vm ∧ U.heap = h0) (fun _ _ _ _ _ => True) (fun _ U o U' => ∃ v L, o = .returned v ∧ Q4_1_1 Z a1 a2 vals w_NI k_NI hAny k_v v0 v1 v2 v3 k_x x0 h0 n0 v U'.heap L ∧ FrameEnd U o U' L ({ frames := 2, cells := 0, slots := 0, locals := 29 } : Room).cells ({ frames := 2, cells := 0, slots := 0, locals := 29 } : Room).slots) := by
  refine MetFree.of_bodySF (plainFor_of_name pn1) hisR ?_
  intro p e s m args below meth c s₁ Bd hml0 hP hK
  obtain ⟨rfl, hZ, hh⟩ := hP
  have hx := Bd.exec
  have hby := Bd.bytes
  have hml : c.maxLocals = 7 := hml0
  have hown : s.vm.findClass "com/example/bitlattice/bitlattice/eval/Relation" = some m.cls := findClass_of_methodNamed Bd.named
  have hnm := (name_of_methodNamed Bd.named Bd.method).1
  have X0 : Stand p l e ({ frames := 2, cells := 0, slots := 0, locals := 29 } : Room) s m #[(.ref a1), (.ref a2)] below meth c s₁ [] 0 0 := Stand.of_body Bd
  have e0 : s₁.heap = h0 := by rw [← hh, Bd.state]; rfl
  have N0 := Fr.nil n0
  have K0 : Keep h0 h0 [vals, a1] := Keep.refl h0 _
  refine Go.st (P := fun o U' => ∃ v L, o = .returned v ∧ Q4_1_1 Z a1 a2 vals w_NI k_NI hAny k_v v0 v1 v2 v3 k_x x0 h0 n0 v U'.heap L ∧ FrameEnd s o U' L ({ frames := 2, cells := 0, slots := 0, locals := 29 } : Room).cells ({ frames := 2, cells := 0, slots := 0, locals := 29 } : Room).slots) (fun t k => castTop (ef4_1_1 m a1 a2) k) ?_
  show Go _ _ _ (s₁.setTop (mkF m 0 #[.val (.ref a1), .val (.ref a2), .unset, .unset, .unset, .unset, .unset] [])) _
  refine Go.st (fun t k => XS.aloadN X0.here hx rfl (hb hby d4_0) rfl rfl k) ?_
  obtain ⟨T1, X1, e1, st1⟩ := getF X0 hx hZ hown (host := "") (Or.inl (wd28 hw)) Via.refl e0 F_a1_members (g := (mkF m 1 #[.val (.ref a1), .val (.ref a2), .unset, .unset, .unset, .unset, .unset] [(.ref a1)])) rfl rfl (hb hby d4_1)
  refine Go.st st1 ?_
  show Go _ _ _ (T1.setTop (mkF m 4 #[.val (.ref a1), .val (.ref a2), .unset, .unset, .unset, .unset, .unset] [.null])) _
  refine Go.st (fun t k => XS.ifnonnullNo X1.here hx rfl (hb hby d4_4) rfl k) ?_
  show Go _ _ _ (T1.setTop (mkF m 7 #[.val (.ref a1), .val (.ref a2), .unset, .unset, .unset, .unset, .unset] [])) _
  refine Go.st (fun t k => XS.aloadN X1.here hx rfl (hb hby d4_7) rfl rfl k) ?_
  refine Go.st (fun t k => XS.aloadN X1.here hx rfl (hb hby d4_8) rfl rfl k) ?_
  obtain ⟨cq2, kq2, q2a, q2b, q2c⟩ := isOf hZ e1 E_a1
  obtain ⟨_, _, ⟨T2, L2, k2, n2⟩, -, X2, ⟨Lc2, hQ2, l2, y2, z2⟩, st2⟩ := X1.virtualBack hx (y := (⟨"com/example/bitlattice/bitlattice/eval/Relation", "contains", "([I)Z"⟩ : MethodName)) (z := (⟨"com/example/bitlattice/bitlattice/eval/Relation", "contains", "([I)Z"⟩ : MethodName)) hown (mvT hZ (wd30 hw)) (mvT hZ (wd31 hw)) (notFace_of_selects (args := #[]) (mvT hZ (wd33 hw))) (mvT hZ (wd33 hw)) (mvT hZ (wd32 hw)) (by decide) (backOf (W := 0) (rm5_1_1 l Z a0 hw [] a1 a2 vals w_NI k_NI hAny k_v v0 v1 v2 v3 k_x x0 h0 n0 Z0 E_a1 V_NI F_a1_arity F_a1_values F_a1_size F_a1_members F_a1_indexes F_a1_holdingAny V_vals V_row ne_vals_a1 ne_a2_a1 ne_vals_a2 ne_w_NI_a1 ne_w_NI_vals ne_w_NI_a2) hZ (wd34 hw) (wd8 hw) (by decide) (by decide)) q2a q2c (g := (mkF m 9 #[.val (.ref a1), .val (.ref a2), .unset, .unset, .unset, .unset, .unset] [(.ref a2), (.ref a1)])) rfl (by rw [hml]; rfl) (Steps.refl _) (argsL := [(.ref a2)]) (rest := []) (lenOf pd0 rfl) rfl (by show 2 * 0 + _ ≤ _; exact Nat.le_of_eq rfl) (hb hby d4_9) (fun _ _ => ⟨rfl, e1, (by decide : 0 + 0 ≤ _), (by decide : 0 + 0 ≤ _)⟩)
  dsimp only [Pt.U, Pt.locs, Pt.cells, Pt.slots] at X2 l2 y2 z2 st2 hQ2
  subst l2 y2 z2
  refine Go.tr st2 ?_
  obtain ⟨rfl, N2q, e2⟩ := hQ2
  have N2 := Fr.app N0 N2q
  show Go _ _ _ (T2.setTop (mkF m 12 #[.val (.ref a1), .val (.ref a2), .unset, .unset, .unset, .unset, .unset] [(.int (f5_1_1 v0 x0))])) _
  by_cases hc3 : (f5_1_1 v0 x0) = (0 : Int32)
  · refine Go.st (fun t k => XS.ifYes X2.here hx rfl (pc0 := 12) (pc' := 17) rfl (hb hby d4_12) rfl ((if0 _ _).trans (teq hc3).1) (by decide) (by decide) k) ?_
    show Go _ _ _ (T2.setTop (mkF m 17 #[.val (.ref a1), .val (.ref a2), .unset, .unset, .unset, .unset, .unset] [])) _
    refine Go.st (fun t k => XS.aloadN X2.here hx rfl (hb hby d4_17) rfl rfl k) ?_
    obtain ⟨T4, X4, e4, st4⟩ := getF X2 hx hZ hown (host := "") (Or.inl (wd35 hw)) Via.refl e2 F_a1_size (g := (mkF m 18 #[.val (.ref a1), .val (.ref a2), .unset, .unset, .unset, .unset, .unset] [(.ref a1)])) rfl rfl (hb hby d4_18)
    refine Go.st st4 ?_
    show Go _ _ _ (T4.setTop (mkF m 21 #[.val (.ref a1), .val (.ref a2), .unset, .unset, .unset, .unset, .unset] [(.int 1)])) _
    refine Go.st (fun t k => XS.iconst X4.here hx rfl (hb hby d4_21) k) ?_
    refine Go.st (fun t k => XS.iadd X4.here hx rfl (hb hby d4_22) rfl k) ?_
    show Go _ _ _ (T4.setTop (mkF m 23 #[.val (.ref a1), .val (.ref a2), .unset, .unset, .unset, .unset, .unset] [(.int 2)])) _
    refine Go.st (fun t k => XS.aloadN X4.here hx rfl (hb hby d4_23) rfl rfl k) ?_
    obtain ⟨T5, X5, e5, st5⟩ := getF X4 hx hZ hown (host := "") (Or.inl (wd19 hw)) Via.refl e4 F_a1_arity (g := (mkF m 24 #[.val (.ref a1), .val (.ref a2), .unset, .unset, .unset, .unset, .unset] [(.ref a1), (.int 2)])) rfl rfl (hb hby d4_24)
    refine Go.st st5 ?_
    show Go _ _ _ (T5.setTop (mkF m 27 #[.val (.ref a1), .val (.ref a2), .unset, .unset, .unset, .unset, .unset] [(.int 1), (.int 2)])) _
    refine Go.st (fun t k => XS.imul X5.here hx rfl (hb hby d4_27) rfl k) ?_
    show Go _ _ _ (T5.setTop (mkF m 28 #[.val (.ref a1), .val (.ref a2), .unset, .unset, .unset, .unset, .unset] [(.int 2)])) _
    refine Go.st (fun t k => XS.aloadN X5.here hx rfl (hb hby d4_28) rfl rfl k) ?_
    obtain ⟨T6, X6, e6, st6⟩ := getF X5 hx hZ hown (host := "") (Or.inl (wd21 hw)) Via.refl e5 F_a1_values (g := (mkF m 29 #[.val (.ref a1), .val (.ref a2), .unset, .unset, .unset, .unset, .unset] [(.ref a1), (.int 2)])) rfl rfl (hb hby d4_29)
    refine Go.st st6 ?_
    show Go _ _ _ (T6.setTop (mkF m 32 #[.val (.ref a1), .val (.ref a2), .unset, .unset, .unset, .unset, .unset] [(.ref vals), (.int 2)])) _
    obtain ⟨cl7, Ar7, -, Sz7, Ng7, -, -⟩ := id V_vals
    refine Go.st (fun t k => X6.arraylength hx (by rw [e6]; exact Ar7.1) (State.isArrayOf_alike hZ.alike Ar7.2.1) (g := (mkF m 32 #[.val (.ref a1), .val (.ref a2), .unset, .unset, .unset, .unset, .unset] [(.ref vals), (.int 2)])) rfl rfl (hb hby d4_32) _ k) ?_
    rw [len_of Sz7 Ng7]
    show Go _ _ _ (T6.setTop (mkF m 33 #[.val (.ref a1), .val (.ref a2), .unset, .unset, .unset, .unset, .unset] [(.int 4), (.int 2)])) _
    refine Go.st (fun t k => XS.icmpYes X6.here hx rfl (pc0 := 33) (pc' := 63) rfl (hb hby d4_33) rfl (flt (by decide : ¬ ((4 : Int32) < (2 : Int32)))).2.2.2 (by decide) (by decide) k) ?_
    show Go _ _ _ (T6.setTop (mkF m 63 #[.val (.ref a1), .val (.ref a2), .unset, .unset, .unset, .unset, .unset] [])) _
    refine Go.st (fun t k => XS.aloadN X6.here hx rfl (hb hby d4_63) rfl rfl k) ?_
    refine Go.st (fun t k => XS.iconst X6.here hx rfl (hb hby d4_64) k) ?_
    refine Go.st (fun t k => XS.aloadN X6.here hx rfl (hb hby d4_65) rfl rfl k) ?_
    obtain ⟨T8, X8, e8, st8⟩ := getF X6 hx hZ hown (host := "") (Or.inl (wd21 hw)) Via.refl e6 F_a1_values (g := (mkF m 66 #[.val (.ref a1), .val (.ref a2), .unset, .unset, .unset, .unset, .unset] [(.ref a1), (.int 0), (.ref a2)])) rfl rfl (hb hby d4_66)
    refine Go.st st8 ?_
    show Go _ _ _ (T8.setTop (mkF m 69 #[.val (.ref a1), .val (.ref a2), .unset, .unset, .unset, .unset, .unset] [(.ref vals), (.int 0), (.ref a2)])) _
    refine Go.st (fun t k => XS.aloadN X8.here hx rfl (hb hby d4_69) rfl rfl k) ?_
    obtain ⟨T9, X9, e9, st9⟩ := getF X8 hx hZ hown (host := "") (Or.inl (wd35 hw)) Via.refl e8 F_a1_size (g := (mkF m 70 #[.val (.ref a1), .val (.ref a2), .unset, .unset, .unset, .unset, .unset] [(.ref a1), (.ref vals), (.int 0), (.ref a2)])) rfl rfl (hb hby d4_70)
    refine Go.st st9 ?_
    show Go _ _ _ (T9.setTop (mkF m 73 #[.val (.ref a1), .val (.ref a2), .unset, .unset, .unset, .unset, .unset] [(.int 1), (.ref vals), (.int 0), (.ref a2)])) _
    refine Go.st (fun t k => XS.aloadN X9.here hx rfl (hb hby d4_73) rfl rfl k) ?_
    obtain ⟨T10, X10, e10, st10⟩ := getF X9 hx hZ hown (host := "") (Or.inl (wd19 hw)) Via.refl e9 F_a1_arity (g := (mkF m 74 #[.val (.ref a1), .val (.ref a2), .unset, .unset, .unset, .unset, .unset] [(.ref a1), (.int 1), (.ref vals), (.int 0), (.ref a2)])) rfl rfl (hb hby d4_74)
    refine Go.st st10 ?_
    show Go _ _ _ (T10.setTop (mkF m 77 #[.val (.ref a1), .val (.ref a2), .unset, .unset, .unset, .unset, .unset] [(.int 1), (.int 1), (.ref vals), (.int 0), (.ref a2)])) _
    refine Go.st (fun t k => XS.imul X10.here hx rfl (hb hby d4_77) rfl k) ?_
    show Go _ _ _ (T10.setTop (mkF m 78 #[.val (.ref a1), .val (.ref a2), .unset, .unset, .unset, .unset, .unset] [(.int 1), (.ref vals), (.int 0), (.ref a2)])) _
    refine Go.st (fun t k => XS.aloadN X10.here hx rfl (hb hby d4_78) rfl rfl k) ?_
    obtain ⟨T11, X11, e11, st11⟩ := getF X10 hx hZ hown (host := "") (Or.inl (wd19 hw)) Via.refl e10 F_a1_arity (g := (mkF m 79 #[.val (.ref a1), .val (.ref a2), .unset, .unset, .unset, .unset, .unset] [(.ref a1), (.int 1), (.ref vals), (.int 0), (.ref a2)])) rfl rfl (hb hby d4_79)
    refine Go.st st11 ?_
    show Go _ _ _ (T11.setTop (mkF m 82 #[.val (.ref a1), .val (.ref a2), .unset, .unset, .unset, .unset, .unset] [(.int 1), (.int 1), (.ref vals), (.int 0), (.ref a2)])) _
    have V_vals_pre := V_vals
    obtain ⟨T12, h12, L12, X12, e12, N12, K12, B12, st12⟩ := cpA X11 hx hZ hown (wd37 hw) (wd40 hw) (wd38 hw) (wd39 hw) e11 V_row V_vals (us := [(.int x0)]) (Or.inl ⟨rfl, rfl⟩) (sp := (0 : Int32)) (dp := (1 : Int32)) (nn := (1 : Int32)) (by decide) (by decide) (by decide) (by decide) (by decide) rfl (Nat.le_of_ble_eq_true rfl) N2 g_vals (g := (mkF m 82 #[.val (.ref a1), .val (.ref a2), .unset, .unset, .unset, .unset, .unset] [(.int 1), (.int 1), (.ref vals), (.int 0), (.ref a2)])) rfl (by rw [hml]; rfl) rfl (hb hby d4_82) (by decide) (W := 0) (by show 2 * 0 + _ ≤ _; exact Nat.le_of_eq rfl) (by decide)
    refine Go.st st12 ?_
    replace E_a1 := E_a1.keep K12
    replace V_NI := V_NI.keep K12 (ninS ne_w_NI_vals nin0)
    replace F_a1_arity := F_a1_arity.keep K12 (ninS (Ne.symm ne_vals_a1) nin0)
    replace F_a1_values := F_a1_values.keep K12 (ninS (Ne.symm ne_vals_a1) nin0)
    replace F_a1_size := F_a1_size.keep K12 (ninS (Ne.symm ne_vals_a1) nin0)
    replace F_a1_members := F_a1_members.keep K12 (ninS (Ne.symm ne_vals_a1) nin0)
    replace F_a1_indexes := F_a1_indexes.keep K12 (ninS (Ne.symm ne_vals_a1) nin0)
    replace F_a1_holdingAny := F_a1_holdingAny.keep K12 (ninS (Ne.symm ne_vals_a1) nin0)
    replace V_row := V_row.keep K12 (ninS (Ne.symm ne_vals_a2) nin0)
    replace Z0 := Nat.le_trans Z0 K12.1
    replace K0 := K0.trans K12 (allS (Or.inl (by simp)) all0)
    have V_vals : Arv Z h12 vals k_v .int (4 : Int32) [(.int v0), (.int x0), (.int v2), (.int v3)] (.int (0 : Int32)) := B12
    show Go _ _ _ (T12.setTop (mkF m 85 #[.val (.ref a1), .val (.ref a2), .unset, .unset, .unset, .unset, .unset] [])) _
    refine Go.st (fun t k => XS.aloadN X12.here hx rfl (hb hby d4_85) rfl rfl k) ?_
    obtain ⟨T13, X13, e13, st13⟩ := getF X12 hx hZ hown (host := "") (Or.inl (wd28 hw)) Via.refl e12 F_a1_members (g := (mkF m 86 #[.val (.ref a1), .val (.ref a2), .unset, .unset, .unset, .unset, .unset] [(.ref a1)])) rfl rfl (hb hby d4_86)
    refine Go.st st13 ?_
    show Go _ _ _ (T13.setTop (mkF m 89 #[.val (.ref a1), .val (.ref a2), .unset, .unset, .unset, .unset, .unset] [.null])) _
    refine Go.st (fun t k => XS.ifnullYes X13.here hx rfl (pc0 := 89) (pc' := 108) rfl (hb hby d4_89) rfl (by decide) (by decide) k) ?_
    show Go _ _ _ (T13.setTop (mkF m 108 #[.val (.ref a1), .val (.ref a2), .unset, .unset, .unset, .unset, .unset] [])) _
    refine Go.st (fun t k => XS.aloadN X13.here hx rfl (hb hby d4_108) rfl rfl k) ?_
    refine Go.st (fun t k => XS.dup X13.here hx rfl (hb hby d4_109) rfl rfl k) ?_
    obtain ⟨T14, X14, e14, st14⟩ := getF X13 hx hZ hown (host := "") (Or.inl (wd35 hw)) Via.refl e13 F_a1_size (g := (mkF m 110 #[.val (.ref a1), .val (.ref a2), .unset, .unset, .unset, .unset, .unset] [(.ref a1), (.ref a1)])) rfl rfl (hb hby d4_110)
    refine Go.st st14 ?_
    show Go _ _ _ (T14.setTop (mkF m 113 #[.val (.ref a1), .val (.ref a2), .unset, .unset, .unset, .unset, .unset] [(.int 1), (.ref a1)])) _
    refine Go.st (fun t k => XS.dupX1 X14.here hx rfl (hb hby d4_113) rfl rfl rfl k) ?_
    show Go _ _ _ (T14.setTop (mkF m 114 #[.val (.ref a1), .val (.ref a2), .unset, .unset, .unset, .unset, .unset] [(.int 1), (.ref a1), (.int 1)])) _
    refine Go.st (fun t k => XS.iconst X14.here hx rfl (hb hby d4_114) k) ?_
    refine Go.st (fun t k => XS.iadd X14.here hx rfl (hb hby d4_115) rfl k) ?_
    show Go _ _ _ (T14.setTop (mkF m 116 #[.val (.ref a1), .val (.ref a2), .unset, .unset, .unset, .unset, .unset] [(.int 2), (.ref a1), (.int 1)])) _
    obtain ⟨T15, h15, X15, e15, W15, st15⟩ := putF X14 hx hZ hown (host := "") (Or.inl (wd35 hw)) Via.refl e14 F_a1_size E_a1 (Or.inl (wd36 hw)) (wd7 hw) (ty := .int) (by decide) rfl rfl (g := (mkF m 116 #[.val (.ref a1), .val (.ref a2), .unset, .unset, .unset, .unset, .unset] [(.int 2), (.ref a1), (.int 1)])) rfl rfl (hb hby d4_116)
    refine Go.st st15 ?_
    have N15 := Fr.snoc X15 N12 g_a1
    replace E_a1 := E_a1.wr W15
    replace V_NI := V_NI.other W15 ne_w_NI_a1
    replace F_a1_arity := F_a1_arity.other W15 (Or.inr (slot_ne (Or.inr (wd20 hw)) (Or.inl (wd36 hw)) (by decide) (t := .int) (t' := .int) (by decide) (by decide)))
    replace F_a1_values := F_a1_values.other W15 (Or.inr (slot_ne (Or.inl (wd22 hw)) (Or.inl (wd36 hw)) (by decide) (t := (.array .int)) (t' := .int) (by decide) (by decide)))
    replace F_a1_size := F_a1_size.same W15
    replace F_a1_members := F_a1_members.other W15 (Or.inr (slot_ne (Or.inl (wd29 hw)) (Or.inl (wd36 hw)) (by decide) (t := (.object "com/example/bitlattice/bitlattice/eval/Relation$Index")) (t' := .int) (by decide) (by decide)))
    replace F_a1_indexes := F_a1_indexes.other W15 (Or.inr (slot_ne (Or.inl (wd18 hw)) (Or.inl (wd36 hw)) (by decide) (t := (.array (.object "com/example/bitlattice/bitlattice/eval/Relation$Index"))) (t' := .int) (by decide) (by decide)))
    replace F_a1_holdingAny := F_a1_holdingAny.other W15 (Or.inr (slot_ne (Or.inl (wd55 hw)) (Or.inl (wd36 hw)) (by decide) (t := .int) (t' := .int) (by decide) (by decide)))
    replace V_row := V_row.other W15 ne_a2_a1
    replace V_vals := V_vals.other W15 ne_vals_a1
    replace Z0 := Nat.le_trans Z0 (Nat.le_of_eq W15.size.symm)
    replace K0 := K0.wr W15 (Or.inl (by simp))
    show Go _ _ _ (T15.setTop (mkF m 119 #[.val (.ref a1), .val (.ref a2), .unset, .unset, .unset, .unset, .unset] [(.int 1)])) _
    refine Go.st (fun t k => XS.istoreN X15.here hx rfl (hb hby d4_119) rfl (l' := #[.val (.ref a1), .val (.ref a2), .val (.int 1), .unset, .unset, .unset, .unset]) rfl k) ?_
    refine Go.st (fun t k => XS.aloadN X15.here hx rfl (hb hby d4_120) rfl rfl k) ?_
    refine Go.st (fun t k => XS.astoreN X15.here hx rfl (hb hby d4_121) rfl rfl (l' := #[.val (.ref a1), .val (.ref a2), .val (.int 1), .val (.ref a2), .unset, .unset, .unset]) rfl k) ?_
    refine Go.st (fun t k => XS.aloadN X15.here hx rfl (hb hby d4_122) rfl rfl k) ?_
    obtain ⟨cl16, Ar16, -, Sz16, Ng16, -, -⟩ := id V_row
    refine Go.st (fun t k => X15.arraylength hx (by rw [e15]; exact Ar16.1) (State.isArrayOf_alike hZ.alike Ar16.2.1) (g := (mkF m 123 #[.val (.ref a1), .val (.ref a2), .val (.int 1), .val (.ref a2), .unset, .unset, .unset] [(.ref a2)])) rfl rfl (hb hby d4_123) _ k) ?_
    rw [len_of Sz16 Ng16]
    show Go _ _ _ (T15.setTop (mkF m 124 #[.val (.ref a1), .val (.ref a2), .val (.int 1), .val (.ref a2), .unset, .unset, .unset] [(.int 1)])) _
    refine Go.st (fun t k => XS.istore X15.here hx rfl (hb hby d4_124) rfl (l' := #[.val (.ref a1), .val (.ref a2), .val (.int 1), .val (.ref a2), .val (.int 1), .unset, .unset]) rfl k) ?_
    refine Go.st (fun t k => XS.iconst X15.here hx rfl (hb hby d4_126) k) ?_
    refine Go.st (fun t k => XS.istore X15.here hx rfl (hb hby d4_127) rfl (l' := #[.val (.ref a1), .val (.ref a2), .val (.int 1), .val (.ref a2), .val (.int 1), .val (.int 0), .unset]) rfl k) ?_
    refine Go.st (fun t k => XS.iload X15.here hx rfl (hb hby d4_129) rfl k) ?_
    refine Go.st (fun t k => XS.iload X15.here hx rfl (hb hby d4_131) rfl k) ?_
    refine Go.st (fun t k => XS.icmpNo X15.here hx rfl (hb hby d4_133) rfl (tlt (by decide : (0 : Int32) < (1 : Int32))).2.1 k) ?_
    show Go _ _ _ (T15.setTop (mkF m 136 #[.val (.ref a1), .val (.ref a2), .val (.int 1), .val (.ref a2), .val (.int 1), .val (.int 0), .unset] [])) _
    refine Go.st (fun t k => XS.aloadN X15.here hx rfl (hb hby d4_136) rfl rfl k) ?_
    refine Go.st (fun t k => XS.iload X15.here hx rfl (hb hby d4_137) rfl k) ?_
    obtain ⟨cl17, Ar17, -, Sz17, Ng17, Hs17, -⟩ := id V_row
    have hin17 : ¬ ((0 : Int32) < 0 ∨ cl17.slots.size ≤ ((0 : Int32)).toNatClampNeg) := inb_of Sz17 ⟨by decide, by decide⟩
    refine Go.st (fun t k => X15.iaload hx (j := (0 : Int32)) (v := (.int x0)) (by rw [e15]; exact Ar17.1) (State.isArrayOf_alike hZ.alike Ar17.2.1) Ar17.2.2 hin17 (Has.at Hs17 hin17 rfl) (g := (mkF m 139 #[.val (.ref a1), .val (.ref a2), .val (.int 1), .val (.ref a2), .val (.int 1), .val (.int 0), .unset] [(.int 0), (.ref a2)])) rfl rfl (hb hby d4_139) _ k) ?_
    show Go _ _ _ (T15.setTop (mkF m 140 #[.val (.ref a1), .val (.ref a2), .val (.int 1), .val (.ref a2), .val (.int 1), .val (.int 0), .unset] [(.int x0)])) _
    refine Go.st (fun t k => XS.istore X15.here hx rfl (hb hby d4_140) rfl (l' := #[.val (.ref a1), .val (.ref a2), .val (.int 1), .val (.ref a2), .val (.int 1), .val (.int 0), .val (.int x0)]) rfl k) ?_
    refine Go.st (fun t k => XS.iload X15.here hx rfl (hb hby d4_142) rfl k) ?_
    refine Go.st (fun t k => X15.ldcInt hx hown (mvT hZ (wd41 hw)) (g := (mkF m 144 #[.val (.ref a1), .val (.ref a2), .val (.int 1), .val (.ref a2), .val (.int 1), .val (.int 0), .val (.int x0)] [(.int x0)])) rfl (hb hby d4_144) _ k) ?_
    show Go _ _ _ (T15.setTop (mkF m 146 #[.val (.ref a1), .val (.ref a2), .val (.int 1), .val (.ref a2), .val (.int 1), .val (.int 0), .val (.int x0)] [(.int 2147483647), (.int x0)])) _
    by_cases hc18 : x0 = (2147483647 : Int32)
    · refine Go.st (fun t k => XS.icmpNo X15.here hx rfl (hb hby d4_146) rfl (teq hc18).2 k) ?_
      show Go _ _ _ (T15.setTop (mkF m 149 #[.val (.ref a1), .val (.ref a2), .val (.int 1), .val (.ref a2), .val (.int 1), .val (.int 0), .val (.int x0)] [])) _
      refine Go.st (fun t k => XS.aloadN X15.here hx rfl (hb hby d4_149) rfl rfl k) ?_
      refine Go.st (fun t k => XS.dup X15.here hx rfl (hb hby d4_150) rfl rfl k) ?_
      obtain ⟨T19, X19, e19, st19⟩ := getF X15 hx hZ hown (host := "") (Or.inl (wd54 hw)) Via.refl e15 F_a1_holdingAny (g := (mkF m 151 #[.val (.ref a1), .val (.ref a2), .val (.int 1), .val (.ref a2), .val (.int 1), .val (.int 0), .val (.int x0)] [(.ref a1), (.ref a1)])) rfl rfl (hb hby d4_151)
      refine Go.st st19 ?_
      show Go _ _ _ (T19.setTop (mkF m 154 #[.val (.ref a1), .val (.ref a2), .val (.int 1), .val (.ref a2), .val (.int 1), .val (.int 0), .val (.int x0)] [(.int hAny), (.ref a1)])) _
      refine Go.st (fun t k => XS.iconst X19.here hx rfl (hb hby d4_154) k) ?_
      refine Go.st (fun t k => XS.iadd X19.here hx rfl (hb hby d4_155) rfl k) ?_
      show Go _ _ _ (T19.setTop (mkF m 156 #[.val (.ref a1), .val (.ref a2), .val (.int 1), .val (.ref a2), .val (.int 1), .val (.int 0), .val (.int x0)] [(.int (hAny + (1 : Int32))), (.ref a1)])) _
      obtain ⟨T20, h20, X20, e20, W20, st20⟩ := putF X19 hx hZ hown (host := "") (Or.inl (wd54 hw)) Via.refl e19 F_a1_holdingAny E_a1 (Or.inl (wd55 hw)) (wd7 hw) (ty := .int) (by decide) rfl rfl (g := (mkF m 156 #[.val (.ref a1), .val (.ref a2), .val (.int 1), .val (.ref a2), .val (.int 1), .val (.int 0), .val (.int x0)] [(.int (hAny + (1 : Int32))), (.ref a1)])) rfl rfl (hb hby d4_156)
      refine Go.st st20 ?_
      have N20 := Fr.snoc X20 N15 g_a1
      replace E_a1 := E_a1.wr W20
      replace V_NI := V_NI.other W20 ne_w_NI_a1
      replace F_a1_arity := F_a1_arity.other W20 (Or.inr (slot_ne (Or.inr (wd20 hw)) (Or.inl (wd55 hw)) (by decide) (t := .int) (t' := .int) (by decide) (by decide)))
      replace F_a1_values := F_a1_values.other W20 (Or.inr (slot_ne (Or.inl (wd22 hw)) (Or.inl (wd55 hw)) (by decide) (t := (.array .int)) (t' := .int) (by decide) (by decide)))
      replace F_a1_size := F_a1_size.other W20 (Or.inr (slot_ne (Or.inl (wd36 hw)) (Or.inl (wd55 hw)) (by decide) (t := .int) (t' := .int) (by decide) (by decide)))
      replace F_a1_members := F_a1_members.other W20 (Or.inr (slot_ne (Or.inl (wd29 hw)) (Or.inl (wd55 hw)) (by decide) (t := (.object "com/example/bitlattice/bitlattice/eval/Relation$Index")) (t' := .int) (by decide) (by decide)))
      replace F_a1_indexes := F_a1_indexes.other W20 (Or.inr (slot_ne (Or.inl (wd18 hw)) (Or.inl (wd55 hw)) (by decide) (t := (.array (.object "com/example/bitlattice/bitlattice/eval/Relation$Index"))) (t' := .int) (by decide) (by decide)))
      replace F_a1_holdingAny := F_a1_holdingAny.same W20
      replace V_row := V_row.other W20 ne_a2_a1
      replace V_vals := V_vals.other W20 ne_vals_a1
      replace Z0 := Nat.le_trans Z0 (Nat.le_of_eq W20.size.symm)
      replace K0 := K0.wr W20 (Or.inl (by simp))
      show Go _ _ _ (T20.setTop (mkF m 159 #[.val (.ref a1), .val (.ref a2), .val (.int 1), .val (.ref a2), .val (.int 1), .val (.int 0), .val (.int x0)] [])) _
      refine Go.st (fun t k => XS.goto X20.here hx rfl (pc0 := 159) (pc' := 168) rfl (hb hby d4_159) (by decide) (by decide) k) ?_
      refine Go.st (fun t k => XS.aloadN X20.here hx rfl (hb hby d4_168) rfl rfl k) ?_
      obtain ⟨T21, X21, e21, st21⟩ := getF X20 hx hZ hown (host := "") (Or.inl (wd28 hw)) Via.refl e20 F_a1_members (g := (mkF m 169 #[.val (.ref a1), .val (.ref a2), .val (.int 1), .val (.ref a2), .val (.int 1), .val (.int 0), .val (.int x0)] [(.ref a1)])) rfl rfl (hb hby d4_169)
      refine Go.st st21 ?_
      show Go _ _ _ (T21.setTop (mkF m 172 #[.val (.ref a1), .val (.ref a2), .val (.int 1), .val (.ref a2), .val (.int 1), .val (.int 0), .val (.int x0)] [.null])) _
      refine Go.st (fun t k => XS.ifnonnullNo X21.here hx rfl (hb hby d4_172) rfl k) ?_
      show Go _ _ _ (T21.setTop (mkF m 175 #[.val (.ref a1), .val (.ref a2), .val (.int 1), .val (.ref a2), .val (.int 1), .val (.int 0), .val (.int x0)] [])) _
      refine Go.st (fun t k => XS.aloadN X21.here hx rfl (hb hby d4_175) rfl rfl k) ?_
      obtain ⟨T22, X22, e22, st22⟩ := getF X21 hx hZ hown (host := "") (Or.inl (wd35 hw)) Via.refl e21 F_a1_size (g := (mkF m 176 #[.val (.ref a1), .val (.ref a2), .val (.int 1), .val (.ref a2), .val (.int 1), .val (.int 0), .val (.int x0)] [(.ref a1)])) rfl rfl (hb hby d4_176)
      refine Go.st st22 ?_
      show Go _ _ _ (T22.setTop (mkF m 179 #[.val (.ref a1), .val (.ref a2), .val (.int 1), .val (.ref a2), .val (.int 1), .val (.int 0), .val (.int x0)] [(.int 2)])) _
      refine Go.st (fun t k => XS.bipush X22.here hx rfl (hb hby d4_179) k) ?_
      refine Go.st (fun t k => XS.icmpYes X22.here hx rfl (pc0 := 181) (pc' := 207) rfl (hb hby d4_181) rfl (flt (by decide : ¬ ((8 : Int32) < (2 : Int32)))).2.2.2 (by decide) (by decide) k) ?_
      show Go _ _ _ (T22.setTop (mkF m 207 #[.val (.ref a1), .val (.ref a2), .val (.int 1), .val (.ref a2), .val (.int 1), .val (.int 0), .val (.int x0)] [])) _
      refine Go.st (fun t k => XS.aloadN X22.here hx rfl (hb hby d4_207) rfl rfl k) ?_
      obtain ⟨T23, X23, e23, st23⟩ := getF X22 hx hZ hown (host := "") (Or.inl (wd17 hw)) Via.refl e22 F_a1_indexes (g := (mkF m 208 #[.val (.ref a1), .val (.ref a2), .val (.int 1), .val (.ref a2), .val (.int 1), .val (.int 0), .val (.int x0)] [(.ref a1)])) rfl rfl (hb hby d4_208)
      refine Go.st st23 ?_
      show Go _ _ _ (T23.setTop (mkF m 211 #[.val (.ref a1), .val (.ref a2), .val (.int 1), .val (.ref a2), .val (.int 1), .val (.int 0), .val (.int x0)] [(.ref w_NI)])) _
      refine Go.st (fun t k => XS.astoreN X23.here hx rfl (hb hby d4_211) rfl rfl (l' := #[.val (.ref a1), .val (.ref a2), .val (.int 1), .val (.ref w_NI), .val (.int 1), .val (.int 0), .val (.int x0)]) rfl k) ?_
      refine Go.st (fun t k => XS.aloadN X23.here hx rfl (hb hby d4_212) rfl rfl k) ?_
      obtain ⟨cl24, Ar24, -, Sz24, Ng24, -, -⟩ := id V_NI
      refine Go.st (fun t k => X23.arraylength hx (by rw [e23]; exact Ar24.1) (State.isArrayOf_alike hZ.alike Ar24.2.1) (g := (mkF m 213 #[.val (.ref a1), .val (.ref a2), .val (.int 1), .val (.ref w_NI), .val (.int 1), .val (.int 0), .val (.int x0)] [(.ref w_NI)])) rfl rfl (hb hby d4_213) _ k) ?_
      rw [len_of Sz24 Ng24]
      show Go _ _ _ (T23.setTop (mkF m 214 #[.val (.ref a1), .val (.ref a2), .val (.int 1), .val (.ref w_NI), .val (.int 1), .val (.int 0), .val (.int x0)] [(.int 0)])) _
      refine Go.st (fun t k => XS.istore X23.here hx rfl (hb hby d4_214) rfl (l' := #[.val (.ref a1), .val (.ref a2), .val (.int 1), .val (.ref w_NI), .val (.int 0), .val (.int 0), .val (.int x0)]) rfl k) ?_
      refine Go.st (fun t k => XS.iconst X23.here hx rfl (hb hby d4_216) k) ?_
      refine Go.st (fun t k => XS.istore X23.here hx rfl (hb hby d4_217) rfl (l' := #[.val (.ref a1), .val (.ref a2), .val (.int 1), .val (.ref w_NI), .val (.int 0), .val (.int 0), .val (.int x0)]) rfl k) ?_
      refine Go.st (fun t k => XS.iload X23.here hx rfl (hb hby d4_219) rfl k) ?_
      refine Go.st (fun t k => XS.iload X23.here hx rfl (hb hby d4_221) rfl k) ?_
      refine Go.st (fun t k => XS.icmpYes X23.here hx rfl (pc0 := 223) (pc' := 244) rfl (hb hby d4_223) rfl (flt (by decide : ¬ ((0 : Int32) < (0 : Int32)))).2.1 (by decide) (by decide) k) ?_
      show Go _ _ _ (T23.setTop (mkF m 244 #[.val (.ref a1), .val (.ref a2), .val (.int 1), .val (.ref w_NI), .val (.int 0), .val (.int 0), .val (.int x0)] [])) _
      refine Go.st (fun t k => XS.iconst X23.here hx rfl (hb hby d4_244) k) ?_
      obtain ⟨fs, hr, hrun, hended, hW, hsame⟩ := X23.leave (v := some (.int (1 : Int32))) (fun h => by rw [Bd.returns] at h; cases h)
      refine Go.fin (retN X23 hx (t := .boolean) Bd.returns (by simp) (hb hby d4_245) hr) hrun hended ⟨_, _, rfl, ?_, ⟨_, rfl⟩, hW, hsame.mono (by decide) (by decide)⟩
      show Q4_1_1 Z a1 a2 vals w_NI k_NI hAny k_v v0 v1 v2 v3 k_x x0 h0 n0 _ T23.heap _
      rw [e23]
      exact ⟨(hAny + (1 : Int32)), (by unfold f4_1_1; simp only [if_pos hc3, if_pos hc18]), N20, K0, E_a1, F_a1_arity, F_a1_values, (by unfold f4_1_1_a1_size; simp only [if_pos hc3, if_pos hc18]; exact F_a1_size), F_a1_members, F_a1_indexes, F_a1_holdingAny, (by unfold f4_1_1_vals_1; simp only [if_pos hc3, if_pos hc18]; exact V_vals)⟩
    · refine Go.st (fun t k => XS.icmpYes X15.here hx rfl (pc0 := 146) (pc' := 162) rfl (hb hby d4_146) rfl (feq hc18).2 (by decide) (by decide) k) ?_
      show Go _ _ _ (T15.setTop (mkF m 162 #[.val (.ref a1), .val (.ref a2), .val (.int 1), .val (.ref a2), .val (.int 1), .val (.int 0), .val (.int x0)] [])) _
      refine Go.st (fun t k => XS.iinc X15.here hx rfl (hb hby d4_162) rfl (l' := #[.val (.ref a1), .val (.ref a2), .val (.int (1 : Int32)), .val (.ref a2), .val (.int (1 : Int32)), .val (.int ((0 : Int32) + (1 : Int32))), .val (.int x0)]) rfl k) ?_
      show Go _ _ _ (T15.setTop (mkF m 165 #[.val (.ref a1), .val (.ref a2), .val (.int 1), .val (.ref a2), .val (.int 1), .val (.int 1), .val (.int x0)] [])) _
      refine Go.st (fun t k => XS.goto X15.here hx rfl (pc0 := 165) (pc' := 129) rfl (hb hby d4_165) (by decide) (by decide) k) ?_
      refine Go.st (fun t k => XS.iload X15.here hx rfl (hb hby d4_129) rfl k) ?_
      refine Go.st (fun t k => XS.iload X15.here hx rfl (hb hby d4_131) rfl k) ?_
      refine Go.st (fun t k => XS.icmpYes X15.here hx rfl (pc0 := 133) (pc' := 168) rfl (hb hby d4_133) rfl (flt (by decide : ¬ ((1 : Int32) < (1 : Int32)))).2.1 (by decide) (by decide) k) ?_
      show Go _ _ _ (T15.setTop (mkF m 168 #[.val (.ref a1), .val (.ref a2), .val (.int 1), .val (.ref a2), .val (.int 1), .val (.int 1), .val (.int x0)] [])) _
      refine Go.st (fun t k => XS.aloadN X15.here hx rfl (hb hby d4_168) rfl rfl k) ?_
      obtain ⟨T25, X25, e25, st25⟩ := getF X15 hx hZ hown (host := "") (Or.inl (wd28 hw)) Via.refl e15 F_a1_members (g := (mkF m 169 #[.val (.ref a1), .val (.ref a2), .val (.int 1), .val (.ref a2), .val (.int 1), .val (.int 1), .val (.int x0)] [(.ref a1)])) rfl rfl (hb hby d4_169)
      refine Go.st st25 ?_
      show Go _ _ _ (T25.setTop (mkF m 172 #[.val (.ref a1), .val (.ref a2), .val (.int 1), .val (.ref a2), .val (.int 1), .val (.int 1), .val (.int x0)] [.null])) _
      refine Go.st (fun t k => XS.ifnonnullNo X25.here hx rfl (hb hby d4_172) rfl k) ?_
      show Go _ _ _ (T25.setTop (mkF m 175 #[.val (.ref a1), .val (.ref a2), .val (.int 1), .val (.ref a2), .val (.int 1), .val (.int 1), .val (.int x0)] [])) _
      refine Go.st (fun t k => XS.aloadN X25.here hx rfl (hb hby d4_175) rfl rfl k) ?_
      obtain ⟨T26, X26, e26, st26⟩ := getF X25 hx hZ hown (host := "") (Or.inl (wd35 hw)) Via.refl e25 F_a1_size (g := (mkF m 176 #[.val (.ref a1), .val (.ref a2), .val (.int 1), .val (.ref a2), .val (.int 1), .val (.int 1), .val (.int x0)] [(.ref a1)])) rfl rfl (hb hby d4_176)
      refine Go.st st26 ?_
      show Go _ _ _ (T26.setTop (mkF m 179 #[.val (.ref a1), .val (.ref a2), .val (.int 1), .val (.ref a2), .val (.int 1), .val (.int 1), .val (.int x0)] [(.int 2)])) _
      refine Go.st (fun t k => XS.bipush X26.here hx rfl (hb hby d4_179) k) ?_
      refine Go.st (fun t k => XS.icmpYes X26.here hx rfl (pc0 := 181) (pc' := 207) rfl (hb hby d4_181) rfl (flt (by decide : ¬ ((8 : Int32) < (2 : Int32)))).2.2.2 (by decide) (by decide) k) ?_
      show Go _ _ _ (T26.setTop (mkF m 207 #[.val (.ref a1), .val (.ref a2), .val (.int 1), .val (.ref a2), .val (.int 1), .val (.int 1), .val (.int x0)] [])) _
      refine Go.st (fun t k => XS.aloadN X26.here hx rfl (hb hby d4_207) rfl rfl k) ?_
      obtain ⟨T27, X27, e27, st27⟩ := getF X26 hx hZ hown (host := "") (Or.inl (wd17 hw)) Via.refl e26 F_a1_indexes (g := (mkF m 208 #[.val (.ref a1), .val (.ref a2), .val (.int 1), .val (.ref a2), .val (.int 1), .val (.int 1), .val (.int x0)] [(.ref a1)])) rfl rfl (hb hby d4_208)
      refine Go.st st27 ?_
      show Go _ _ _ (T27.setTop (mkF m 211 #[.val (.ref a1), .val (.ref a2), .val (.int 1), .val (.ref a2), .val (.int 1), .val (.int 1), .val (.int x0)] [(.ref w_NI)])) _
      refine Go.st (fun t k => XS.astoreN X27.here hx rfl (hb hby d4_211) rfl rfl (l' := #[.val (.ref a1), .val (.ref a2), .val (.int 1), .val (.ref w_NI), .val (.int 1), .val (.int 1), .val (.int x0)]) rfl k) ?_
      refine Go.st (fun t k => XS.aloadN X27.here hx rfl (hb hby d4_212) rfl rfl k) ?_
      obtain ⟨cl28, Ar28, -, Sz28, Ng28, -, -⟩ := id V_NI
      refine Go.st (fun t k => X27.arraylength hx (by rw [e27]; exact Ar28.1) (State.isArrayOf_alike hZ.alike Ar28.2.1) (g := (mkF m 213 #[.val (.ref a1), .val (.ref a2), .val (.int 1), .val (.ref w_NI), .val (.int 1), .val (.int 1), .val (.int x0)] [(.ref w_NI)])) rfl rfl (hb hby d4_213) _ k) ?_
      rw [len_of Sz28 Ng28]
      show Go _ _ _ (T27.setTop (mkF m 214 #[.val (.ref a1), .val (.ref a2), .val (.int 1), .val (.ref w_NI), .val (.int 1), .val (.int 1), .val (.int x0)] [(.int 0)])) _
      refine Go.st (fun t k => XS.istore X27.here hx rfl (hb hby d4_214) rfl (l' := #[.val (.ref a1), .val (.ref a2), .val (.int 1), .val (.ref w_NI), .val (.int 0), .val (.int 1), .val (.int x0)]) rfl k) ?_
      refine Go.st (fun t k => XS.iconst X27.here hx rfl (hb hby d4_216) k) ?_
      refine Go.st (fun t k => XS.istore X27.here hx rfl (hb hby d4_217) rfl (l' := #[.val (.ref a1), .val (.ref a2), .val (.int 1), .val (.ref w_NI), .val (.int 0), .val (.int 0), .val (.int x0)]) rfl k) ?_
      refine Go.st (fun t k => XS.iload X27.here hx rfl (hb hby d4_219) rfl k) ?_
      refine Go.st (fun t k => XS.iload X27.here hx rfl (hb hby d4_221) rfl k) ?_
      refine Go.st (fun t k => XS.icmpYes X27.here hx rfl (pc0 := 223) (pc' := 244) rfl (hb hby d4_223) rfl (flt (by decide : ¬ ((0 : Int32) < (0 : Int32)))).2.1 (by decide) (by decide) k) ?_
      show Go _ _ _ (T27.setTop (mkF m 244 #[.val (.ref a1), .val (.ref a2), .val (.int 1), .val (.ref w_NI), .val (.int 0), .val (.int 0), .val (.int x0)] [])) _
      refine Go.st (fun t k => XS.iconst X27.here hx rfl (hb hby d4_244) k) ?_
      obtain ⟨fs, hr, hrun, hended, hW, hsame⟩ := X27.leave (v := some (.int (1 : Int32))) (fun h => by rw [Bd.returns] at h; cases h)
      refine Go.fin (retN X27 hx (t := .boolean) Bd.returns (by simp) (hb hby d4_245) hr) hrun hended ⟨_, _, rfl, ?_, ⟨_, rfl⟩, hW, hsame.mono (by decide) (by decide)⟩
      show Q4_1_1 Z a1 a2 vals w_NI k_NI hAny k_v v0 v1 v2 v3 k_x x0 h0 n0 _ T27.heap _
      rw [e27]
      exact ⟨hAny, (by unfold f4_1_1; simp only [if_pos hc3, if_neg hc18]), N15, K0, E_a1, F_a1_arity, F_a1_values, (by unfold f4_1_1_a1_size; simp only [if_pos hc3, if_neg hc18]; exact F_a1_size), F_a1_members, F_a1_indexes, F_a1_holdingAny, (by unfold f4_1_1_vals_1; simp only [if_pos hc3, if_neg hc18]; exact V_vals)⟩
  · refine Go.st (fun t k => XS.ifNo X2.here hx rfl (hb hby d4_12) rfl ((if0 _ _).trans (feq hc3).1) k) ?_
    show Go _ _ _ (T2.setTop (mkF m 15 #[.val (.ref a1), .val (.ref a2), .unset, .unset, .unset, .unset, .unset] [])) _
    refine Go.st (fun t k => XS.iconst X2.here hx rfl (hb hby d4_15) k) ?_
    obtain ⟨fs, hr, hrun, hended, hW, hsame⟩ := X2.leave (v := some (.int (0 : Int32))) (fun h => by rw [Bd.returns] at h; cases h)
    refine Go.fin (retN X2 hx (t := .boolean) Bd.returns (by simp) (hb hby d4_16) hr) hrun hended ⟨_, _, rfl, ?_, ⟨_, rfl⟩, hW, hsame.mono (by decide) (by decide)⟩
    show Q4_1_1 Z a1 a2 vals w_NI k_NI hAny k_v v0 v1 v2 v3 k_x x0 h0 n0 _ T2.heap _
    rw [e2]
    exact ⟨hAny, (by unfold f4_1_1; simp only [if_neg hc3]), N2, K0, E_a1, F_a1_arity, F_a1_values, (by unfold f4_1_1_a1_size; simp only [if_neg hc3]; exact F_a1_size), F_a1_members, F_a1_indexes, F_a1_holdingAny, (by unfold f4_1_1_vals_1; simp only [if_neg hc3]; exact V_vals)⟩
theorem d1_15 : decode method_2_code 15 = .ok (.aload 4, 2) := by decide +kernel
theorem d1_17 : decode method_2_code 17 = .ok (.iconst 1, 1) := by decide +kernel
theorem d1_18 : decode method_2_code 18 = .ok (.iload_n 2, 1) := by decide +kernel
theorem d1_19 : decode method_2_code 19 = .ok (.iastore, 1) := by decide +kernel
def Q1_2 (Z : State) (p2 : Int32) (p3 : Int32) (p4 : Int32) (h0 : Heap) (n0 : Nat) (v : Option Value) (h : Heap) (L : List Loc) : Prop := ∃ x1_2_0 : Addr, ∃ k_x1_2_0 : ClassId, v = some (.ref x1_2_0) ∧ Fr n0 L ∧ Keep h0 h [] ∧ n0 ≤ x1_2_0 ∧ h0.size ≤ x1_2_0 ∧ Arv Z h x1_2_0 k_x1_2_0 .int (2 : Int32) [(.int p2), (.int p3)] (.int (0 : Int32))
theorem ef1_2 (m : MethodId) (x1 : Int32) (x2 : Int32) (x3 : Int32) : entryFrame m #[(.int (2 : Int32)), (.int x1), (.int x2), (.int x3)] 5 = mkF m 0 #[.val (.int (2 : Int32)), .val (.int x1), .val (.int x2), .val (.int x3), .unset] [] := by first | (simp [entryFrame, mkF, argsToLocals, Value.category]; done) | rfl
set_option maxRecDepth 65536 in
set_option maxHeartbeats 16000000 in
theorem rm1_2 (l : Launch) (Z : State) (a0 : Array Value) (hw : ∀ d ∈ tables_1, d.before a0 Z = true) (ws : List Jvm.Cond) (p2 : Int32) (p3 : Int32) (p4 : Int32) (h0 : Heap) (n0 : Nat) (Z0 : n0 ≤ h0.size) :
    MetFree l (⟨"com/example/bitlattice/bitlattice/eval/RelationGetPinLaw", "rowOf", "(IIII)[I"⟩ : MethodName) (head1 (Jvm.Cond.code (⟨"com/example/bitlattice/bitlattice/eval/RelationGetPinLaw", "rowOf", "(IIII)[I"⟩ : MethodName) method_2_code 5 (some (.array .int)) :: ws) ({ frames := 0, cells := 1, slots := 2, locals := 0 } : Room)) (fun a U => a = #[(.int (2 : Int32)), (.int p2), (.int p3), (.int p4)] ∧ Z.Warmed39 U.vm ∧ U.heap = h0) (fun _ _ _ _ _ => True) (fun _ U o U' => ∃ v L, o = .returned v ∧ Q1_2 Z p2 p3 p4 h0 n0 v U'.heap L ∧ FrameEnd U o U' L ({ frames := 0, cells := 1, slots := 2, locals := 0 } : Room).cells ({ frames := 0, cells := 1, slots := 2, locals := 0 } : Room).slots) := by
  refine MetFree.of_bodySF (plainFor_of_name pn0) hisR ?_
  intro p e s m args below meth c s₁ Bd hml0 hP hK
  obtain ⟨rfl, hZ, hh⟩ := hP
  have hx := Bd.exec
  have hby := Bd.bytes
  have hml : c.maxLocals = 5 := hml0
  have hown : s.vm.findClass "com/example/bitlattice/bitlattice/eval/RelationGetPinLaw" = some m.cls := findClass_of_methodNamed Bd.named
  have hnm := (name_of_methodNamed Bd.named Bd.method).1
  have X0 : Stand p l e ({ frames := 0, cells := 1, slots := 2, locals := 0 } : Room) s m #[(.int (2 : Int32)), (.int p2), (.int p3), (.int p4)] below meth c s₁ [] 0 0 := Stand.of_body Bd
  have e0 : s₁.heap = h0 := by rw [← hh, Bd.state]; rfl
  have N0 := Fr.nil n0
  have K0 : Keep h0 h0 [] := Keep.refl h0 _
  refine Go.st (P := fun o U' => ∃ v L, o = .returned v ∧ Q1_2 Z p2 p3 p4 h0 n0 v U'.heap L ∧ FrameEnd s o U' L ({ frames := 0, cells := 1, slots := 2, locals := 0 } : Room).cells ({ frames := 0, cells := 1, slots := 2, locals := 0 } : Room).slots) (fun t k => castTop (ef1_2 m p2 p3 p4) k) ?_
  show Go _ _ _ (s₁.setTop (mkF m 0 #[.val (.int 2), .val (.int p2), .val (.int p3), .val (.int p4), .unset] [])) _
  refine Go.st (fun t k => XS.iloadN X0.here hx rfl (hb hby d1_0) rfl k) ?_
  obtain ⟨T1, h1, k1, X1, e1, E1, A1, st1⟩ := newP X0 hx hZ (aty := .int) (wd5 hw) e0 (g := (mkF m 1 #[.val (.int 2), .val (.int p2), .val (.int p3), .val (.int p4), .unset] [(.int 2)])) rfl (hb hby d1_1) rfl (by decide) (cap := 2) (by decide) (by decide) (by decide) (by decide)
  obtain ⟨b1, g1⟩ : ∃ z, z = h0.size := ⟨_, rfl⟩
  rw [← g1] at A1 st1
  refine Go.st st1 ?_
  have g_b1 : n0 ≤ b1 := Nat.le_trans Z0 (Nat.le_of_eq g1.symm)
  have sz_b1 : h0.size ≤ b1 := Nat.le_trans K0.1 (Nat.le_of_eq g1.symm)
  replace K0 := K0.ext E1
  replace Z0 := Nat.le_trans Z0 E1.1
  have V_b1 : Arv Z h1 b1 k1 .int (2 : Int32) [(.int (0 : Int32)), (.int (0 : Int32))] (.int (0 : Int32)) := (Arv.new A1 (by decide)).pad (pad_rep [] (.int (0 : Int32)) 2)
  show Go _ _ _ (T1.setTop (mkF m 3 #[.val (.int 2), .val (.int p2), .val (.int p3), .val (.int p4), .unset] [(.ref b1)])) _
  refine Go.st (fun t k => XS.astore X1.here hx rfl (hb hby d1_3) rfl rfl (l' := #[.val (.int 2), .val (.int p2), .val (.int p3), .val (.int p4), .val (.ref b1)]) rfl k) ?_
  refine Go.st (fun t k => XS.aload X1.here hx rfl (hb hby d1_5) rfl rfl k) ?_
  refine Go.st (fun t k => XS.iconst X1.here hx rfl (hb hby d1_7) k) ?_
  refine Go.st (fun t k => XS.iloadN X1.here hx rfl (hb hby d1_8) rfl k) ?_
  obtain ⟨cl2, Ar2, qq2, Sz2, Ng2, Hs2, Gs2⟩ := id V_b1
  have hin2 : ¬ ((0 : Int32) < 0 ∨ cl2.slots.size ≤ ((0 : Int32)).toNatClampNeg) := inb_of Sz2 ⟨by decide, by decide⟩
  obtain ⟨T3, h3, X3, e3, W3, st3⟩ := stI X1 hx hZ e1 Ar2 (j := (0 : Int32)) hin2 (g := (mkF m 9 #[.val (.int 2), .val (.int p2), .val (.int p3), .val (.int p4), .val (.ref b1)] [(.int p2), (.int 0), (.ref b1)])) rfl rfl (hb hby d1_9)
  refine Go.st st3 ?_
  have N3 := Fr.snoc X3 N0 g_b1
  replace Z0 := Nat.le_trans Z0 (Nat.le_of_eq W3.size.symm)
  replace K0 := K0.wr W3 (Or.inr sz_b1)
  replace V_b1 : Arv Z h3 b1 k1 .int (2 : Int32) [(.int p2), (.int (0 : Int32))] (.int (0 : Int32)) := Arv.set Ar2 qq2 Sz2 Ng2 Hs2 Gs2 rfl W3 0 rfl (Nat.le_of_ble_eq_true rfl)
  show Go _ _ _ (T3.setTop (mkF m 10 #[.val (.int 2), .val (.int p2), .val (.int p3), .val (.int p4), .val (.ref b1)] [])) _
  refine Go.st (fun t k => XS.iloadN X3.here hx rfl (hb hby d1_10) rfl k) ?_
  refine Go.st (fun t k => XS.iconst X3.here hx rfl (hb hby d1_11) k) ?_
  refine Go.st (fun t k => XS.icmpNo X3.here hx rfl (hb hby d1_12) rfl (tlt (by decide : (1 : Int32) < (2 : Int32))).2.2.2 k) ?_
  show Go _ _ _ (T3.setTop (mkF m 15 #[.val (.int 2), .val (.int p2), .val (.int p3), .val (.int p4), .val (.ref b1)] [])) _
  refine Go.st (fun t k => XS.aload X3.here hx rfl (hb hby d1_15) rfl rfl k) ?_
  refine Go.st (fun t k => XS.iconst X3.here hx rfl (hb hby d1_17) k) ?_
  refine Go.st (fun t k => XS.iloadN X3.here hx rfl (hb hby d1_18) rfl k) ?_
  obtain ⟨cl4, Ar4, qq4, Sz4, Ng4, Hs4, Gs4⟩ := id V_b1
  have hin4 : ¬ ((1 : Int32) < 0 ∨ cl4.slots.size ≤ ((1 : Int32)).toNatClampNeg) := inb_of Sz4 ⟨by decide, by decide⟩
  obtain ⟨T5, h5, X5, e5, W5, st5⟩ := stI X3 hx hZ e3 Ar4 (j := (1 : Int32)) hin4 (g := (mkF m 19 #[.val (.int 2), .val (.int p2), .val (.int p3), .val (.int p4), .val (.ref b1)] [(.int p3), (.int 1), (.ref b1)])) rfl rfl (hb hby d1_19)
  refine Go.st st5 ?_
  have N5 := Fr.snoc X5 N3 g_b1
  replace Z0 := Nat.le_trans Z0 (Nat.le_of_eq W5.size.symm)
  replace K0 := K0.wr W5 (Or.inr sz_b1)
  replace V_b1 : Arv Z h5 b1 k1 .int (2 : Int32) [(.int p2), (.int p3)] (.int (0 : Int32)) := Arv.set Ar4 qq4 Sz4 Ng4 Hs4 Gs4 rfl W5 1 rfl (Nat.le_of_ble_eq_true rfl)
  show Go _ _ _ (T5.setTop (mkF m 20 #[.val (.int 2), .val (.int p2), .val (.int p3), .val (.int p4), .val (.ref b1)] [])) _
  refine Go.st (fun t k => XS.iloadN X5.here hx rfl (hb hby d1_20) rfl k) ?_
  refine Go.st (fun t k => XS.iconst X5.here hx rfl (hb hby d1_21) k) ?_
  refine Go.st (fun t k => XS.icmpYes X5.here hx rfl (pc0 := 22) (pc' := 30) rfl (hb hby d1_22) rfl (flt (by decide : ¬ ((2 : Int32) < (2 : Int32)))).2.2.2 (by decide) (by decide) k) ?_
  show Go _ _ _ (T5.setTop (mkF m 30 #[.val (.int 2), .val (.int p2), .val (.int p3), .val (.int p4), .val (.ref b1)] [])) _
  refine Go.st (fun t k => XS.aload X5.here hx rfl (hb hby d1_30) rfl rfl k) ?_
  obtain ⟨fs, hr, hrun, hended, hW, hsame⟩ := X5.leave (v := some (.ref b1)) (fun h => by rw [Bd.returns] at h; cases h)
  refine Go.fin (retOut X5 hx Bd.returns rfl (Or.inr (Or.inr (Or.inr (Or.inr ⟨rfl, rfl, rfl⟩)))) (hb hby d1_32) hr) hrun hended ⟨_, _, rfl, ?_, ⟨_, rfl⟩, hW, hsame.mono (by decide) (by decide)⟩
  show Q1_2 Z p2 p3 p4 h0 n0 _ T5.heap _
  rw [e5]
  exact ⟨b1, k1, rfl, N5, K0, g_b1, sz_b1, V_b1⟩
def Q2_2 (Z : State) (a1 : Addr) (w_NI : Addr) (uI : Value) (uV : Value) (uA : Value) (h0 : Heap) (n0 : Nat) (v : Option Value) (h : Heap) (L : List Loc) : Prop := ∃ x2_2_0 : Addr, ∃ k_x2_2_0 : ClassId, v = none ∧ Fr n0 L ∧ Keep h0 h [a1] ∧ n0 ≤ x2_2_0 ∧ h0.size ≤ x2_2_0 ∧ Exa Z h a1 "com/example/bitlattice/bitlattice/eval/Relation" ∧ Fld Z h a1 "com/example/bitlattice/bitlattice/eval/Relation" "size" "I" (.int (0 : Int32)) ∧ Fld Z h a1 "com/example/bitlattice/bitlattice/eval/Relation" "members" "Lcom/example/bitlattice/bitlattice/eval/Relation$Index;" .null ∧ Fld Z h a1 "com/example/bitlattice/bitlattice/eval/Relation" "holdingAny" "I" (.int (0 : Int32)) ∧ Fld Z h a1 "com/example/bitlattice/bitlattice/eval/Relation" "indexes" "[Lcom/example/bitlattice/bitlattice/eval/Relation$Index;" (.ref w_NI) ∧ Fld Z h a1 "com/example/bitlattice/bitlattice/eval/Relation" "values" "[I" (.ref x2_2_0) ∧ Fld Z h a1 "com/example/bitlattice/bitlattice/eval/Relation" "arity" "I" (.int (2 : Int32)) ∧ Arv Z h x2_2_0 k_x2_2_0 .int (8 : Int32) [(.int (0 : Int32)), (.int (0 : Int32)), (.int (0 : Int32)), (.int (0 : Int32)), (.int (0 : Int32)), (.int (0 : Int32)), (.int (0 : Int32)), (.int (0 : Int32))] (.int (0 : Int32))
theorem ef2_2 (m : MethodId) (x0 : Addr) : entryFrame m #[(.ref x0), (.int (2 : Int32))] 2 = mkF m 0 #[.val (.ref x0), .val (.int (2 : Int32))] [] := by first | (simp [entryFrame, mkF, argsToLocals, Value.category]; done) | rfl
set_option maxRecDepth 65536 in
set_option maxHeartbeats 16000000 in
theorem rm2_2 (l : Launch) (Z : State) (a0 : Array Value) (hw : ∀ d ∈ tables_1, d.before a0 Z = true) (ws : List Jvm.Cond) (a1 : Addr) (w_NI : Addr) (uI : Value) (uV : Value) (uA : Value) (h0 : Heap) (n0 : Nat) (Z0 : n0 ≤ h0.size) (E_a1 : Exa Z h0 a1 "com/example/bitlattice/bitlattice/eval/Relation") (S_NI : Sta Z h0 "com/example/bitlattice/bitlattice/eval/Relation" "NO_INDEXES" "[Lcom/example/bitlattice/bitlattice/eval/Relation$Index;" (.ref w_NI)) (F_a1_size : Fld Z h0 a1 "com/example/bitlattice/bitlattice/eval/Relation" "size" "I" (.int (0 : Int32))) (F_a1_members : Fld Z h0 a1 "com/example/bitlattice/bitlattice/eval/Relation" "members" "Lcom/example/bitlattice/bitlattice/eval/Relation$Index;" .null) (F_a1_holdingAny : Fld Z h0 a1 "com/example/bitlattice/bitlattice/eval/Relation" "holdingAny" "I" (.int (0 : Int32))) (F_a1_indexes : Fld Z h0 a1 "com/example/bitlattice/bitlattice/eval/Relation" "indexes" "[Lcom/example/bitlattice/bitlattice/eval/Relation$Index;" uI) (F_a1_values : Fld Z h0 a1 "com/example/bitlattice/bitlattice/eval/Relation" "values" "[I" uV) (F_a1_arity : Fld Z h0 a1 "com/example/bitlattice/bitlattice/eval/Relation" "arity" "I" uA) (g_a1 : n0 ≤ a1) :
    MetFree l (⟨"com/example/bitlattice/bitlattice/eval/Relation", "<init>", "(I)V"⟩ : MethodName) (head1 (Jvm.Cond.code (⟨"com/example/bitlattice/bitlattice/eval/Relation", "<init>", "(I)V"⟩ : MethodName) prog_33_method_1_code 2 none :: ws) ({ frames := 1, cells := 1, slots := 8, locals := 12 } : Room)) (fun a U => a = #[(.ref a1), (.int (2 : Int32))] ∧ Z.Warmed39 U.vm ∧ U.heap = h0) (fun _ _ _ _ _ => True) (fun _ U o U' => ∃ v L, o = .returned v ∧ Q2_2 Z a1 w_NI uI uV uA h0 n0 v U'.heap L ∧ FrameEnd U o U' L ({ frames := 1, cells := 1, slots := 8, locals := 12 } : Room).cells ({ frames := 1, cells := 1, slots := 8, locals := 12 } : Room).slots) := by
  refine MetFree.of_bodySF (plainFor_of_name pn1) hisR ?_
  intro p e s m args below meth c s₁ Bd hml0 hP hK
  obtain ⟨rfl, hZ, hh⟩ := hP
  have hx := Bd.exec
  have hby := Bd.bytes
  have hml : c.maxLocals = 2 := hml0
  have hown : s.vm.findClass "com/example/bitlattice/bitlattice/eval/Relation" = some m.cls := findClass_of_methodNamed Bd.named
  have hnm := (name_of_methodNamed Bd.named Bd.method).1
  have X0 : Stand p l e ({ frames := 1, cells := 1, slots := 8, locals := 12 } : Room) s m #[(.ref a1), (.int (2 : Int32))] below meth c s₁ [] 0 0 := Stand.of_body Bd
  have e0 : s₁.heap = h0 := by rw [← hh, Bd.state]; rfl
  have N0 := Fr.nil n0
  have K0 : Keep h0 h0 [a1] := Keep.refl h0 _
  refine Go.st (P := fun o U' => ∃ v L, o = .returned v ∧ Q2_2 Z a1 w_NI uI uV uA h0 n0 v U'.heap L ∧ FrameEnd s o U' L ({ frames := 1, cells := 1, slots := 8, locals := 12 } : Room).cells ({ frames := 1, cells := 1, slots := 8, locals := 12 } : Room).slots) (fun t k => castTop (ef2_2 m a1) k) ?_
  show Go _ _ _ (s₁.setTop (mkF m 0 #[.val (.ref a1), .val (.int 2)] [])) _
  refine Go.st (fun t k => XS.aloadN X0.here hx rfl (hb hby d2_0) rfl rfl k) ?_
  obtain ⟨T1, X1, e1, st1⟩ := initO X0 hx hZ hown (wd12 hw) (wd13 hw) (wd14 hw) e0 (g := (mkF m 1 #[.val (.ref a1), .val (.int 2)] [(.ref a1)])) rfl (by rw [hml]; rfl) rfl (hb hby d2_1) (by decide) (W := 0) (by show 2 * 0 + _ ≤ _; exact Nat.le_of_eq rfl) (by decide)
  refine Go.st st1 ?_
  show Go _ _ _ (T1.setTop (mkF m 4 #[.val (.ref a1), .val (.int 2)] [])) _
  refine Go.st (fun t k => XS.aloadN X1.here hx rfl (hb hby d2_4) rfl rfl k) ?_
  obtain ⟨T2, X2, e2, st2⟩ := getS2 X1 hx hZ hown (host := "") (Or.inl (wd15 hw)) Via.refl e1 S_NI (g := (mkF m 5 #[.val (.ref a1), .val (.int 2)] [(.ref a1)])) rfl (hb hby d2_5)
  refine Go.st st2 ?_
  show Go _ _ _ (T2.setTop (mkF m 8 #[.val (.ref a1), .val (.int 2)] [(.ref w_NI), (.ref a1)])) _
  obtain ⟨T3, h3, X3, e3, W3, st3⟩ := putF X2 hx hZ hown (host := "") (Or.inl (wd17 hw)) Via.refl e2 F_a1_indexes E_a1 (Or.inl (wd18 hw)) (wd7 hw) (ty := (.array (.object "com/example/bitlattice/bitlattice/eval/Relation$Index"))) (by decide) rfl rfl (g := (mkF m 8 #[.val (.ref a1), .val (.int 2)] [(.ref w_NI), (.ref a1)])) rfl rfl (hb hby d2_8)
  refine Go.st st3 ?_
  have N3 := Fr.snoc X3 N0 g_a1
  replace E_a1 := E_a1.wr W3
  replace S_NI := S_NI.wr W3
  replace F_a1_size := F_a1_size.other W3 (Or.inr (slot_ne (Or.inl (wd36 hw)) (Or.inl (wd18 hw)) (by decide) (t := .int) (t' := (.array (.object "com/example/bitlattice/bitlattice/eval/Relation$Index"))) (by decide) (by decide)))
  replace F_a1_members := F_a1_members.other W3 (Or.inr (slot_ne (Or.inl (wd29 hw)) (Or.inl (wd18 hw)) (by decide) (t := (.object "com/example/bitlattice/bitlattice/eval/Relation$Index")) (t' := (.array (.object "com/example/bitlattice/bitlattice/eval/Relation$Index"))) (by decide) (by decide)))
  replace F_a1_holdingAny := F_a1_holdingAny.other W3 (Or.inr (slot_ne (Or.inl (wd55 hw)) (Or.inl (wd18 hw)) (by decide) (t := .int) (t' := (.array (.object "com/example/bitlattice/bitlattice/eval/Relation$Index"))) (by decide) (by decide)))
  replace F_a1_indexes := F_a1_indexes.same W3
  replace F_a1_values := F_a1_values.other W3 (Or.inr (slot_ne (Or.inl (wd22 hw)) (Or.inl (wd18 hw)) (by decide) (t := (.array .int)) (t' := (.array (.object "com/example/bitlattice/bitlattice/eval/Relation$Index"))) (by decide) (by decide)))
  replace F_a1_arity := F_a1_arity.other W3 (Or.inr (slot_ne (Or.inr (wd20 hw)) (Or.inl (wd18 hw)) (by decide) (t := .int) (t' := (.array (.object "com/example/bitlattice/bitlattice/eval/Relation$Index"))) (by decide) (by decide)))
  replace Z0 := Nat.le_trans Z0 (Nat.le_of_eq W3.size.symm)
  replace K0 := K0.wr W3 (Or.inl (by simp))
  show Go _ _ _ (T3.setTop (mkF m 11 #[.val (.ref a1), .val (.int 2)] [])) _
  refine Go.st (fun t k => XS.aloadN X3.here hx rfl (hb hby d2_11) rfl rfl k) ?_
  refine Go.st (fun t k => XS.iloadN X3.here hx rfl (hb hby d2_12) rfl k) ?_
  obtain ⟨T4, h4, X4, e4, W4, st4⟩ := putF X3 hx hZ hown (host := "") (Or.inl (wd19 hw)) Via.refl e3 F_a1_arity E_a1 (Or.inr ⟨(wd20 hw), rfl, hnm⟩) (wd7 hw) (ty := .int) (by decide) rfl rfl (g := (mkF m 13 #[.val (.ref a1), .val (.int 2)] [(.int 2), (.ref a1)])) rfl rfl (hb hby d2_13)
  refine Go.st st4 ?_
  have N4 := Fr.snoc X4 N3 g_a1
  replace E_a1 := E_a1.wr W4
  replace S_NI := S_NI.wr W4
  replace F_a1_size := F_a1_size.other W4 (Or.inr (slot_ne (Or.inl (wd36 hw)) (Or.inr (wd20 hw)) (by decide) (t := .int) (t' := .int) (by decide) (by decide)))
  replace F_a1_members := F_a1_members.other W4 (Or.inr (slot_ne (Or.inl (wd29 hw)) (Or.inr (wd20 hw)) (by decide) (t := (.object "com/example/bitlattice/bitlattice/eval/Relation$Index")) (t' := .int) (by decide) (by decide)))
  replace F_a1_holdingAny := F_a1_holdingAny.other W4 (Or.inr (slot_ne (Or.inl (wd55 hw)) (Or.inr (wd20 hw)) (by decide) (t := .int) (t' := .int) (by decide) (by decide)))
  replace F_a1_indexes := F_a1_indexes.other W4 (Or.inr (slot_ne (Or.inl (wd18 hw)) (Or.inr (wd20 hw)) (by decide) (t := (.array (.object "com/example/bitlattice/bitlattice/eval/Relation$Index"))) (t' := .int) (by decide) (by decide)))
  replace F_a1_values := F_a1_values.other W4 (Or.inr (slot_ne (Or.inl (wd22 hw)) (Or.inr (wd20 hw)) (by decide) (t := (.array .int)) (t' := .int) (by decide) (by decide)))
  replace F_a1_arity := F_a1_arity.same W4
  replace Z0 := Nat.le_trans Z0 (Nat.le_of_eq W4.size.symm)
  replace K0 := K0.wr W4 (Or.inl (by simp))
  show Go _ _ _ (T4.setTop (mkF m 16 #[.val (.ref a1), .val (.int 2)] [])) _
  refine Go.st (fun t k => XS.aloadN X4.here hx rfl (hb hby d2_16) rfl rfl k) ?_
  refine Go.st (fun t k => XS.iloadN X4.here hx rfl (hb hby d2_17) rfl k) ?_
  refine Go.st (fun t k => XS.iconst X4.here hx rfl (hb hby d2_18) k) ?_
  refine Go.st (fun t k => XS.imul X4.here hx rfl (hb hby d2_19) rfl k) ?_
  show Go _ _ _ (T4.setTop (mkF m 20 #[.val (.ref a1), .val (.int 2)] [(.int 8), (.ref a1)])) _
  obtain ⟨T5, h5, k5, X5, e5, E5, A5, st5⟩ := newP X4 hx hZ (aty := .int) (wd5 hw) e4 (g := (mkF m 20 #[.val (.ref a1), .val (.int 2)] [(.int 8), (.ref a1)])) rfl (hb hby d2_20) rfl (by decide) (cap := 8) (by decide) (by decide) (by decide) (by decide)
  obtain ⟨b5, g5⟩ : ∃ z, z = h4.size := ⟨_, rfl⟩
  rw [← g5] at A5 st5
  refine Go.st st5 ?_
  have ne_a1_b5 : a1 ≠ b5 := Nat.ne_of_lt (Nat.lt_of_lt_of_le E_a1.lt (Nat.le_of_eq g5.symm))
  have g_b5 : n0 ≤ b5 := Nat.le_trans Z0 (Nat.le_of_eq g5.symm)
  have sz_b5 : h0.size ≤ b5 := Nat.le_trans K0.1 (Nat.le_of_eq g5.symm)
  replace E_a1 := E_a1.ext E5
  replace S_NI := S_NI.ext E5
  replace F_a1_size := F_a1_size.ext E5
  replace F_a1_members := F_a1_members.ext E5
  replace F_a1_holdingAny := F_a1_holdingAny.ext E5
  replace F_a1_indexes := F_a1_indexes.ext E5
  replace F_a1_values := F_a1_values.ext E5
  replace F_a1_arity := F_a1_arity.ext E5
  replace K0 := K0.ext E5
  replace Z0 := Nat.le_trans Z0 E5.1
  have V_b5 : Arv Z h5 b5 k5 .int (8 : Int32) [(.int (0 : Int32)), (.int (0 : Int32)), (.int (0 : Int32)), (.int (0 : Int32)), (.int (0 : Int32)), (.int (0 : Int32)), (.int (0 : Int32)), (.int (0 : Int32))] (.int (0 : Int32)) := (Arv.new A5 (by decide)).pad (pad_rep [] (.int (0 : Int32)) 8)
  show Go _ _ _ (T5.setTop (mkF m 22 #[.val (.ref a1), .val (.int 2)] [(.ref b5), (.ref a1)])) _
  obtain ⟨T6, h6, X6, e6, W6, st6⟩ := putF X5 hx hZ hown (host := "") (Or.inl (wd21 hw)) Via.refl e5 F_a1_values E_a1 (Or.inl (wd22 hw)) (wd7 hw) (ty := (.array .int)) (by decide) rfl rfl (g := (mkF m 22 #[.val (.ref a1), .val (.int 2)] [(.ref b5), (.ref a1)])) rfl rfl (hb hby d2_22)
  refine Go.st st6 ?_
  have N6 := Fr.snoc X6 N4 g_a1
  replace E_a1 := E_a1.wr W6
  replace S_NI := S_NI.wr W6
  replace F_a1_size := F_a1_size.other W6 (Or.inr (slot_ne (Or.inl (wd36 hw)) (Or.inl (wd22 hw)) (by decide) (t := .int) (t' := (.array .int)) (by decide) (by decide)))
  replace F_a1_members := F_a1_members.other W6 (Or.inr (slot_ne (Or.inl (wd29 hw)) (Or.inl (wd22 hw)) (by decide) (t := (.object "com/example/bitlattice/bitlattice/eval/Relation$Index")) (t' := (.array .int)) (by decide) (by decide)))
  replace F_a1_holdingAny := F_a1_holdingAny.other W6 (Or.inr (slot_ne (Or.inl (wd55 hw)) (Or.inl (wd22 hw)) (by decide) (t := .int) (t' := (.array .int)) (by decide) (by decide)))
  replace F_a1_indexes := F_a1_indexes.other W6 (Or.inr (slot_ne (Or.inl (wd18 hw)) (Or.inl (wd22 hw)) (by decide) (t := (.array (.object "com/example/bitlattice/bitlattice/eval/Relation$Index"))) (t' := (.array .int)) (by decide) (by decide)))
  replace F_a1_values := F_a1_values.same W6
  replace F_a1_arity := F_a1_arity.other W6 (Or.inr (slot_ne (Or.inr (wd20 hw)) (Or.inl (wd22 hw)) (by decide) (t := .int) (t' := (.array .int)) (by decide) (by decide)))
  replace V_b5 := V_b5.other W6 (Ne.symm ne_a1_b5)
  replace Z0 := Nat.le_trans Z0 (Nat.le_of_eq W6.size.symm)
  replace K0 := K0.wr W6 (Or.inl (by simp))
  show Go _ _ _ (T6.setTop (mkF m 25 #[.val (.ref a1), .val (.int 2)] [])) _
  obtain ⟨fs, hr, hrun, hended, hW, hsame⟩ := X6.leave (v := none) (fun _ => rfl)
  refine Go.fin (X6.returnOut hx Bd.returns (hb hby d2_25) hr) hrun hended ⟨_, _, rfl, ?_, ⟨_, rfl⟩, hW, hsame.mono (by decide) (by decide)⟩
  show Q2_2 Z a1 w_NI uI uV uA h0 n0 _ T6.heap _
  rw [e6]
  exact ⟨b5, k5, rfl, N6, K0, g_b5, sz_b5, E_a1, F_a1_size, F_a1_members, F_a1_holdingAny, F_a1_indexes, F_a1_values, F_a1_arity, V_b5⟩
def f6_2 (v0 : Int32) (v1 : Int32) (x0 : Int32) (x1 : Int32) : Int32 := (if v0 = x0 then (if v1 = x1 then (1 : Int32) else (0 : Int32)) else (0 : Int32))
def Q6_2 (Z : State) (a1 : Addr) (a3 : Addr) (vals : Addr) (w_NI : Addr) (k_NI : ClassId) (hAny : Int32) (k_v : ClassId) (v0 : Int32) (v1 : Int32) (v2 : Int32) (v3 : Int32) (v4 : Int32) (v5 : Int32) (v6 : Int32) (v7 : Int32) (k_x : ClassId) (x0 : Int32) (x1 : Int32) (h0 : Heap) (n0 : Nat) (v : Option Value) (h : Heap) (L : List Loc) : Prop := v = some (.int (f6_2 v0 v1 x0 x1)) ∧ Fr n0 L ∧ h = h0
theorem ef6_2 (m : MethodId) (x0 : Addr) (x2 : Addr) : entryFrame m #[(.ref x0), (.int (0 : Int32)), (.ref x2)] 4 = mkF m 0 #[.val (.ref x0), .val (.int (0 : Int32)), .val (.ref x2), .unset] [] := by first | (simp [entryFrame, mkF, argsToLocals, Value.category]; done) | rfl
set_option maxRecDepth 65536 in
set_option maxHeartbeats 16000000 in
theorem rm6_2 (l : Launch) (Z : State) (a0 : Array Value) (hw : ∀ d ∈ tables_1, d.before a0 Z = true) (ws : List Jvm.Cond) (a1 : Addr) (a3 : Addr) (vals : Addr) (w_NI : Addr) (k_NI : ClassId) (hAny : Int32) (k_v : ClassId) (v0 : Int32) (v1 : Int32) (v2 : Int32) (v3 : Int32) (v4 : Int32) (v5 : Int32) (v6 : Int32) (v7 : Int32) (k_x : ClassId) (x0 : Int32) (x1 : Int32) (h0 : Heap) (n0 : Nat) (Z0 : n0 ≤ h0.size) (E_a1 : Exa Z h0 a1 "com/example/bitlattice/bitlattice/eval/Relation") (V_NI : Arv Z h0 w_NI k_NI (.object "com/example/bitlattice/bitlattice/eval/Relation$Index") (0 : Int32) [] .null) (F_a1_arity : Fld Z h0 a1 "com/example/bitlattice/bitlattice/eval/Relation" "arity" "I" (.int (2 : Int32))) (F_a1_values : Fld Z h0 a1 "com/example/bitlattice/bitlattice/eval/Relation" "values" "[I" (.ref vals)) (F_a1_size : Fld Z h0 a1 "com/example/bitlattice/bitlattice/eval/Relation" "size" "I" (.int (1 : Int32))) (F_a1_members : Fld Z h0 a1 "com/example/bitlattice/bitlattice/eval/Relation" "members" "Lcom/example/bitlattice/bitlattice/eval/Relation$Index;" .null) (F_a1_indexes : Fld Z h0 a1 "com/example/bitlattice/bitlattice/eval/Relation" "indexes" "[Lcom/example/bitlattice/bitlattice/eval/Relation$Index;" (.ref w_NI)) (F_a1_holdingAny : Fld Z h0 a1 "com/example/bitlattice/bitlattice/eval/Relation" "holdingAny" "I" (.int hAny)) (V_vals : Arv Z h0 vals k_v .int (8 : Int32) [(.int v0), (.int v1), (.int v2), (.int v3), (.int v4), (.int v5), (.int v6), (.int v7)] (.int (0 : Int32))) (V_row : Arv Z h0 a3 k_x .int (2 : Int32) [(.int x0), (.int x1)] (.int (0 : Int32))) (ne_vals_a1 : vals ≠ a1) (ne_a3_a1 : a3 ≠ a1) (ne_vals_a3 : vals ≠ a3) (ne_w_NI_a1 : w_NI ≠ a1) (ne_w_NI_vals : w_NI ≠ vals) (ne_w_NI_a3 : w_NI ≠ a3) :
    MetFree l (⟨"com/example/bitlattice/bitlattice/eval/Relation", "rowIs", "(I[I)Z"⟩ : MethodName) (head1 (Jvm.Cond.code (⟨"com/example/bitlattice/bitlattice/eval/Relation", "rowIs", "(I[I)Z"⟩ : MethodName) prog_33_method_16_code 4 (some .boolean) :: ws) ({ frames := 0, cells := 0, slots := 0, locals := 0 } : Room)) (fun a U => a = #[(.ref a1), (.int (0 : Int32)), (.ref a3)] ∧ Z.Warmed39 U.vm ∧ U.heap = h0) (fun _ _ _ _ _ => True) (fun _ U o U' => ∃ v L, o = .returned v ∧ Q6_2 Z a1 a3 vals w_NI k_NI hAny k_v v0 v1 v2 v3 v4 v5 v6 v7 k_x x0 x1 h0 n0 v U'.heap L ∧ FrameEnd U o U' L ({ frames := 0, cells := 0, slots := 0, locals := 0 } : Room).cells ({ frames := 0, cells := 0, slots := 0, locals := 0 } : Room).slots) := by
  refine MetFree.of_bodySF (plainFor_of_name pn1) hisR ?_
  intro p e s m args below meth c s₁ Bd hml0 hP hK
  obtain ⟨rfl, hZ, hh⟩ := hP
  have hx := Bd.exec
  have hby := Bd.bytes
  have hml : c.maxLocals = 4 := hml0
  have hown : s.vm.findClass "com/example/bitlattice/bitlattice/eval/Relation" = some m.cls := findClass_of_methodNamed Bd.named
  have hnm := (name_of_methodNamed Bd.named Bd.method).1
  have X0 : Stand p l e ({ frames := 0, cells := 0, slots := 0, locals := 0 } : Room) s m #[(.ref a1), (.int (0 : Int32)), (.ref a3)] below meth c s₁ [] 0 0 := Stand.of_body Bd
  have e0 : s₁.heap = h0 := by rw [← hh, Bd.state]; rfl
  have N0 := Fr.nil n0
  have K0 : Keep h0 h0 [] := Keep.refl h0 _
  refine Go.st (P := fun o U' => ∃ v L, o = .returned v ∧ Q6_2 Z a1 a3 vals w_NI k_NI hAny k_v v0 v1 v2 v3 v4 v5 v6 v7 k_x x0 x1 h0 n0 v U'.heap L ∧ FrameEnd s o U' L ({ frames := 0, cells := 0, slots := 0, locals := 0 } : Room).cells ({ frames := 0, cells := 0, slots := 0, locals := 0 } : Room).slots) (fun t k => castTop (ef6_2 m a1 a3) k) ?_
  show Go _ _ _ (s₁.setTop (mkF m 0 #[.val (.ref a1), .val (.int 0), .val (.ref a3), .unset] [])) _
  refine Go.st (fun t k => XS.iconst X0.here hx rfl (hb hby d6_0) k) ?_
  refine Go.st (fun t k => XS.istoreN X0.here hx rfl (hb hby d6_1) rfl (l' := #[.val (.ref a1), .val (.int 0), .val (.ref a3), .val (.int 0)]) rfl k) ?_
  refine Go.st (fun t k => XS.iloadN X0.here hx rfl (hb hby d6_2) rfl k) ?_
  refine Go.st (fun t k => XS.aloadN X0.here hx rfl (hb hby d6_3) rfl rfl k) ?_
  obtain ⟨T1, X1, e1, st1⟩ := getF X0 hx hZ hown (host := "") (Or.inl (wd19 hw)) Via.refl e0 F_a1_arity (g := (mkF m 4 #[.val (.ref a1), .val (.int 0), .val (.ref a3), .val (.int 0)] [(.ref a1), (.int 0)])) rfl rfl (hb hby d6_4)
  refine Go.st st1 ?_
  show Go _ _ _ (T1.setTop (mkF m 7 #[.val (.ref a1), .val (.int 0), .val (.ref a3), .val (.int 0)] [(.int 2), (.int 0)])) _
  refine Go.st (fun t k => XS.icmpNo X1.here hx rfl (hb hby d6_7) rfl (tlt (by decide : (0 : Int32) < (2 : Int32))).2.1 k) ?_
  show Go _ _ _ (T1.setTop (mkF m 10 #[.val (.ref a1), .val (.int 0), .val (.ref a3), .val (.int 0)] [])) _
  refine Go.st (fun t k => XS.aloadN X1.here hx rfl (hb hby d6_10) rfl rfl k) ?_
  obtain ⟨T2, X2, e2, st2⟩ := getF X1 hx hZ hown (host := "") (Or.inl (wd21 hw)) Via.refl e1 F_a1_values (g := (mkF m 11 #[.val (.ref a1), .val (.int 0), .val (.ref a3), .val (.int 0)] [(.ref a1)])) rfl rfl (hb hby d6_11)
  refine Go.st st2 ?_
  show Go _ _ _ (T2.setTop (mkF m 14 #[.val (.ref a1), .val (.int 0), .val (.ref a3), .val (.int 0)] [(.ref vals)])) _
  refine Go.st (fun t k => XS.iloadN X2.here hx rfl (hb hby d6_14) rfl k) ?_
  refine Go.st (fun t k => XS.aloadN X2.here hx rfl (hb hby d6_15) rfl rfl k) ?_
  obtain ⟨T3, X3, e3, st3⟩ := getF X2 hx hZ hown (host := "") (Or.inl (wd19 hw)) Via.refl e2 F_a1_arity (g := (mkF m 16 #[.val (.ref a1), .val (.int 0), .val (.ref a3), .val (.int 0)] [(.ref a1), (.int 0), (.ref vals)])) rfl rfl (hb hby d6_16)
  refine Go.st st3 ?_
  show Go _ _ _ (T3.setTop (mkF m 19 #[.val (.ref a1), .val (.int 0), .val (.ref a3), .val (.int 0)] [(.int 2), (.int 0), (.ref vals)])) _
  refine Go.st (fun t k => XS.imul X3.here hx rfl (hb hby d6_19) rfl k) ?_
  show Go _ _ _ (T3.setTop (mkF m 20 #[.val (.ref a1), .val (.int 0), .val (.ref a3), .val (.int 0)] [(.int 0), (.ref vals)])) _
  refine Go.st (fun t k => XS.iloadN X3.here hx rfl (hb hby d6_20) rfl k) ?_
  refine Go.st (fun t k => XS.iadd X3.here hx rfl (hb hby d6_21) rfl k) ?_
  show Go _ _ _ (T3.setTop (mkF m 22 #[.val (.ref a1), .val (.int 0), .val (.ref a3), .val (.int 0)] [(.int 0), (.ref vals)])) _
  obtain ⟨cl4, Ar4, -, Sz4, Ng4, Hs4, -⟩ := id V_vals
  have hin4 : ¬ ((0 : Int32) < 0 ∨ cl4.slots.size ≤ ((0 : Int32)).toNatClampNeg) := inb_of Sz4 ⟨by decide, by decide⟩
  refine Go.st (fun t k => X3.iaload hx (j := (0 : Int32)) (v := (.int v0)) (by rw [e3]; exact Ar4.1) (State.isArrayOf_alike hZ.alike Ar4.2.1) Ar4.2.2 hin4 (Has.at Hs4 hin4 rfl) (g := (mkF m 22 #[.val (.ref a1), .val (.int 0), .val (.ref a3), .val (.int 0)] [(.int 0), (.ref vals)])) rfl rfl (hb hby d6_22) _ k) ?_
  show Go _ _ _ (T3.setTop (mkF m 23 #[.val (.ref a1), .val (.int 0), .val (.ref a3), .val (.int 0)] [(.int v0)])) _
  refine Go.st (fun t k => XS.aloadN X3.here hx rfl (hb hby d6_23) rfl rfl k) ?_
  refine Go.st (fun t k => XS.iloadN X3.here hx rfl (hb hby d6_24) rfl k) ?_
  obtain ⟨cl5, Ar5, -, Sz5, Ng5, Hs5, -⟩ := id V_row
  have hin5 : ¬ ((0 : Int32) < 0 ∨ cl5.slots.size ≤ ((0 : Int32)).toNatClampNeg) := inb_of Sz5 ⟨by decide, by decide⟩
  refine Go.st (fun t k => X3.iaload hx (j := (0 : Int32)) (v := (.int x0)) (by rw [e3]; exact Ar5.1) (State.isArrayOf_alike hZ.alike Ar5.2.1) Ar5.2.2 hin5 (Has.at Hs5 hin5 rfl) (g := (mkF m 25 #[.val (.ref a1), .val (.int 0), .val (.ref a3), .val (.int 0)] [(.int 0), (.ref a3), (.int v0)])) rfl rfl (hb hby d6_25) _ k) ?_
  show Go _ _ _ (T3.setTop (mkF m 26 #[.val (.ref a1), .val (.int 0), .val (.ref a3), .val (.int 0)] [(.int x0), (.int v0)])) _
  by_cases hc6 : v0 = x0
  · refine Go.st (fun t k => XS.icmpYes X3.here hx rfl (pc0 := 26) (pc' := 31) rfl (hb hby d6_26) rfl (teq hc6).1 (by decide) (by decide) k) ?_
    show Go _ _ _ (T3.setTop (mkF m 31 #[.val (.ref a1), .val (.int 0), .val (.ref a3), .val (.int 0)] [])) _
    refine Go.st (fun t k => XS.iinc X3.here hx rfl (hb hby d6_31) rfl (l' := #[.val (.ref a1), .val (.int (0 : Int32)), .val (.ref a3), .val (.int ((0 : Int32) + (1 : Int32)))]) rfl k) ?_
    show Go _ _ _ (T3.setTop (mkF m 34 #[.val (.ref a1), .val (.int 0), .val (.ref a3), .val (.int 1)] [])) _
    refine Go.st (fun t k => XS.goto X3.here hx rfl (pc0 := 34) (pc' := 2) rfl (hb hby d6_34) (by decide) (by decide) k) ?_
    refine Go.st (fun t k => XS.iloadN X3.here hx rfl (hb hby d6_2) rfl k) ?_
    refine Go.st (fun t k => XS.aloadN X3.here hx rfl (hb hby d6_3) rfl rfl k) ?_
    obtain ⟨T7, X7, e7, st7⟩ := getF X3 hx hZ hown (host := "") (Or.inl (wd19 hw)) Via.refl e3 F_a1_arity (g := (mkF m 4 #[.val (.ref a1), .val (.int 0), .val (.ref a3), .val (.int 1)] [(.ref a1), (.int 1)])) rfl rfl (hb hby d6_4)
    refine Go.st st7 ?_
    show Go _ _ _ (T7.setTop (mkF m 7 #[.val (.ref a1), .val (.int 0), .val (.ref a3), .val (.int 1)] [(.int 2), (.int 1)])) _
    refine Go.st (fun t k => XS.icmpNo X7.here hx rfl (hb hby d6_7) rfl (tlt (by decide : (1 : Int32) < (2 : Int32))).2.1 k) ?_
    show Go _ _ _ (T7.setTop (mkF m 10 #[.val (.ref a1), .val (.int 0), .val (.ref a3), .val (.int 1)] [])) _
    refine Go.st (fun t k => XS.aloadN X7.here hx rfl (hb hby d6_10) rfl rfl k) ?_
    obtain ⟨T8, X8, e8, st8⟩ := getF X7 hx hZ hown (host := "") (Or.inl (wd21 hw)) Via.refl e7 F_a1_values (g := (mkF m 11 #[.val (.ref a1), .val (.int 0), .val (.ref a3), .val (.int 1)] [(.ref a1)])) rfl rfl (hb hby d6_11)
    refine Go.st st8 ?_
    show Go _ _ _ (T8.setTop (mkF m 14 #[.val (.ref a1), .val (.int 0), .val (.ref a3), .val (.int 1)] [(.ref vals)])) _
    refine Go.st (fun t k => XS.iloadN X8.here hx rfl (hb hby d6_14) rfl k) ?_
    refine Go.st (fun t k => XS.aloadN X8.here hx rfl (hb hby d6_15) rfl rfl k) ?_
    obtain ⟨T9, X9, e9, st9⟩ := getF X8 hx hZ hown (host := "") (Or.inl (wd19 hw)) Via.refl e8 F_a1_arity (g := (mkF m 16 #[.val (.ref a1), .val (.int 0), .val (.ref a3), .val (.int 1)] [(.ref a1), (.int 0), (.ref vals)])) rfl rfl (hb hby d6_16)
    refine Go.st st9 ?_
    show Go _ _ _ (T9.setTop (mkF m 19 #[.val (.ref a1), .val (.int 0), .val (.ref a3), .val (.int 1)] [(.int 2), (.int 0), (.ref vals)])) _
    refine Go.st (fun t k => XS.imul X9.here hx rfl (hb hby d6_19) rfl k) ?_
    show Go _ _ _ (T9.setTop (mkF m 20 #[.val (.ref a1), .val (.int 0), .val (.ref a3), .val (.int 1)] [(.int 0), (.ref vals)])) _
    refine Go.st (fun t k => XS.iloadN X9.here hx rfl (hb hby d6_20) rfl k) ?_
    refine Go.st (fun t k => XS.iadd X9.here hx rfl (hb hby d6_21) rfl k) ?_
    show Go _ _ _ (T9.setTop (mkF m 22 #[.val (.ref a1), .val (.int 0), .val (.ref a3), .val (.int 1)] [(.int 1), (.ref vals)])) _
    obtain ⟨cl10, Ar10, -, Sz10, Ng10, Hs10, -⟩ := id V_vals
    have hin10 : ¬ ((1 : Int32) < 0 ∨ cl10.slots.size ≤ ((1 : Int32)).toNatClampNeg) := inb_of Sz10 ⟨by decide, by decide⟩
    refine Go.st (fun t k => X9.iaload hx (j := (1 : Int32)) (v := (.int v1)) (by rw [e9]; exact Ar10.1) (State.isArrayOf_alike hZ.alike Ar10.2.1) Ar10.2.2 hin10 (Has.at Hs10 hin10 rfl) (g := (mkF m 22 #[.val (.ref a1), .val (.int 0), .val (.ref a3), .val (.int 1)] [(.int 1), (.ref vals)])) rfl rfl (hb hby d6_22) _ k) ?_
    show Go _ _ _ (T9.setTop (mkF m 23 #[.val (.ref a1), .val (.int 0), .val (.ref a3), .val (.int 1)] [(.int v1)])) _
    refine Go.st (fun t k => XS.aloadN X9.here hx rfl (hb hby d6_23) rfl rfl k) ?_
    refine Go.st (fun t k => XS.iloadN X9.here hx rfl (hb hby d6_24) rfl k) ?_
    obtain ⟨cl11, Ar11, -, Sz11, Ng11, Hs11, -⟩ := id V_row
    have hin11 : ¬ ((1 : Int32) < 0 ∨ cl11.slots.size ≤ ((1 : Int32)).toNatClampNeg) := inb_of Sz11 ⟨by decide, by decide⟩
    refine Go.st (fun t k => X9.iaload hx (j := (1 : Int32)) (v := (.int x1)) (by rw [e9]; exact Ar11.1) (State.isArrayOf_alike hZ.alike Ar11.2.1) Ar11.2.2 hin11 (Has.at Hs11 hin11 rfl) (g := (mkF m 25 #[.val (.ref a1), .val (.int 0), .val (.ref a3), .val (.int 1)] [(.int 1), (.ref a3), (.int v1)])) rfl rfl (hb hby d6_25) _ k) ?_
    show Go _ _ _ (T9.setTop (mkF m 26 #[.val (.ref a1), .val (.int 0), .val (.ref a3), .val (.int 1)] [(.int x1), (.int v1)])) _
    by_cases hc12 : v1 = x1
    · refine Go.st (fun t k => XS.icmpYes X9.here hx rfl (pc0 := 26) (pc' := 31) rfl (hb hby d6_26) rfl (teq hc12).1 (by decide) (by decide) k) ?_
      show Go _ _ _ (T9.setTop (mkF m 31 #[.val (.ref a1), .val (.int 0), .val (.ref a3), .val (.int 1)] [])) _
      refine Go.st (fun t k => XS.iinc X9.here hx rfl (hb hby d6_31) rfl (l' := #[.val (.ref a1), .val (.int (0 : Int32)), .val (.ref a3), .val (.int ((1 : Int32) + (1 : Int32)))]) rfl k) ?_
      show Go _ _ _ (T9.setTop (mkF m 34 #[.val (.ref a1), .val (.int 0), .val (.ref a3), .val (.int 2)] [])) _
      refine Go.st (fun t k => XS.goto X9.here hx rfl (pc0 := 34) (pc' := 2) rfl (hb hby d6_34) (by decide) (by decide) k) ?_
      refine Go.st (fun t k => XS.iloadN X9.here hx rfl (hb hby d6_2) rfl k) ?_
      refine Go.st (fun t k => XS.aloadN X9.here hx rfl (hb hby d6_3) rfl rfl k) ?_
      obtain ⟨T13, X13, e13, st13⟩ := getF X9 hx hZ hown (host := "") (Or.inl (wd19 hw)) Via.refl e9 F_a1_arity (g := (mkF m 4 #[.val (.ref a1), .val (.int 0), .val (.ref a3), .val (.int 2)] [(.ref a1), (.int 2)])) rfl rfl (hb hby d6_4)
      refine Go.st st13 ?_
      show Go _ _ _ (T13.setTop (mkF m 7 #[.val (.ref a1), .val (.int 0), .val (.ref a3), .val (.int 2)] [(.int 2), (.int 2)])) _
      refine Go.st (fun t k => XS.icmpYes X13.here hx rfl (pc0 := 7) (pc' := 37) rfl (hb hby d6_7) rfl (flt (by decide : ¬ ((2 : Int32) < (2 : Int32)))).2.1 (by decide) (by decide) k) ?_
      show Go _ _ _ (T13.setTop (mkF m 37 #[.val (.ref a1), .val (.int 0), .val (.ref a3), .val (.int 2)] [])) _
      refine Go.st (fun t k => XS.iconst X13.here hx rfl (hb hby d6_37) k) ?_
      obtain ⟨fs, hr, hrun, hended, hW, hsame⟩ := X13.leave (v := some (.int (1 : Int32))) (fun h => by rw [Bd.returns] at h; cases h)
      refine Go.fin (retN X13 hx (t := .boolean) Bd.returns (by simp) (hb hby d6_38) hr) hrun hended ⟨_, _, rfl, ?_, ⟨_, rfl⟩, hW, hsame.mono (by decide) (by decide)⟩
      show Q6_2 Z a1 a3 vals w_NI k_NI hAny k_v v0 v1 v2 v3 v4 v5 v6 v7 k_x x0 x1 h0 n0 _ T13.heap _
      rw [e13]
      exact ⟨(by unfold f6_2; simp only [if_pos hc6, if_pos hc12]), N0, rfl⟩
    · refine Go.st (fun t k => XS.icmpNo X9.here hx rfl (hb hby d6_26) rfl (feq hc12).1 k) ?_
      show Go _ _ _ (T9.setTop (mkF m 29 #[.val (.ref a1), .val (.int 0), .val (.ref a3), .val (.int 1)] [])) _
      refine Go.st (fun t k => XS.iconst X9.here hx rfl (hb hby d6_29) k) ?_
      obtain ⟨fs, hr, hrun, hended, hW, hsame⟩ := X9.leave (v := some (.int (0 : Int32))) (fun h => by rw [Bd.returns] at h; cases h)
      refine Go.fin (retN X9 hx (t := .boolean) Bd.returns (by simp) (hb hby d6_30) hr) hrun hended ⟨_, _, rfl, ?_, ⟨_, rfl⟩, hW, hsame.mono (by decide) (by decide)⟩
      show Q6_2 Z a1 a3 vals w_NI k_NI hAny k_v v0 v1 v2 v3 v4 v5 v6 v7 k_x x0 x1 h0 n0 _ T9.heap _
      rw [e9]
      exact ⟨(by unfold f6_2; simp only [if_pos hc6, if_neg hc12]), N0, rfl⟩
  · refine Go.st (fun t k => XS.icmpNo X3.here hx rfl (hb hby d6_26) rfl (feq hc6).1 k) ?_
    show Go _ _ _ (T3.setTop (mkF m 29 #[.val (.ref a1), .val (.int 0), .val (.ref a3), .val (.int 0)] [])) _
    refine Go.st (fun t k => XS.iconst X3.here hx rfl (hb hby d6_29) k) ?_
    obtain ⟨fs, hr, hrun, hended, hW, hsame⟩ := X3.leave (v := some (.int (0 : Int32))) (fun h => by rw [Bd.returns] at h; cases h)
    refine Go.fin (retN X3 hx (t := .boolean) Bd.returns (by simp) (hb hby d6_30) hr) hrun hended ⟨_, _, rfl, ?_, ⟨_, rfl⟩, hW, hsame.mono (by decide) (by decide)⟩
    show Q6_2 Z a1 a3 vals w_NI k_NI hAny k_v v0 v1 v2 v3 v4 v5 v6 v7 k_x x0 x1 h0 n0 _ T3.heap _
    rw [e3]
    exact ⟨(by unfold f6_2; simp only [if_neg hc6]), N0, rfl⟩
def Q5_2_0 (Z : State) (a1 : Addr) (a2 : Addr) (vals : Addr) (w_NI : Addr) (k_NI : ClassId) (hAny : Int32) (k_v : ClassId) (v0 : Int32) (v1 : Int32) (v2 : Int32) (v3 : Int32) (v4 : Int32) (v5 : Int32) (v6 : Int32) (v7 : Int32) (k_x : ClassId) (x0 : Int32) (x1 : Int32) (h0 : Heap) (n0 : Nat) (v : Option Value) (h : Heap) (L : List Loc) : Prop := v = some (.int (0 : Int32)) ∧ Fr n0 L ∧ h = h0
theorem ef5_2_0 (m : MethodId) (x0 : Addr) (x1 : Addr) : entryFrame m #[(.ref x0), (.ref x1)] 3 = mkF m 0 #[.val (.ref x0), .val (.ref x1), .unset] [] := by first | (simp [entryFrame, mkF, argsToLocals, Value.category]; done) | rfl
set_option maxRecDepth 65536 in
set_option maxHeartbeats 16000000 in
theorem rm5_2_0 (l : Launch) (Z : State) (a0 : Array Value) (hw : ∀ d ∈ tables_1, d.before a0 Z = true) (ws : List Jvm.Cond) (a1 : Addr) (a2 : Addr) (vals : Addr) (w_NI : Addr) (k_NI : ClassId) (hAny : Int32) (k_v : ClassId) (v0 : Int32) (v1 : Int32) (v2 : Int32) (v3 : Int32) (v4 : Int32) (v5 : Int32) (v6 : Int32) (v7 : Int32) (k_x : ClassId) (x0 : Int32) (x1 : Int32) (h0 : Heap) (n0 : Nat) (Z0 : n0 ≤ h0.size) (E_a1 : Exa Z h0 a1 "com/example/bitlattice/bitlattice/eval/Relation") (V_NI : Arv Z h0 w_NI k_NI (.object "com/example/bitlattice/bitlattice/eval/Relation$Index") (0 : Int32) [] .null) (F_a1_arity : Fld Z h0 a1 "com/example/bitlattice/bitlattice/eval/Relation" "arity" "I" (.int (2 : Int32))) (F_a1_values : Fld Z h0 a1 "com/example/bitlattice/bitlattice/eval/Relation" "values" "[I" (.ref vals)) (F_a1_size : Fld Z h0 a1 "com/example/bitlattice/bitlattice/eval/Relation" "size" "I" (.int (0 : Int32))) (F_a1_members : Fld Z h0 a1 "com/example/bitlattice/bitlattice/eval/Relation" "members" "Lcom/example/bitlattice/bitlattice/eval/Relation$Index;" .null) (F_a1_indexes : Fld Z h0 a1 "com/example/bitlattice/bitlattice/eval/Relation" "indexes" "[Lcom/example/bitlattice/bitlattice/eval/Relation$Index;" (.ref w_NI)) (F_a1_holdingAny : Fld Z h0 a1 "com/example/bitlattice/bitlattice/eval/Relation" "holdingAny" "I" (.int hAny)) (V_vals : Arv Z h0 vals k_v .int (8 : Int32) [(.int v0), (.int v1), (.int v2), (.int v3), (.int v4), (.int v5), (.int v6), (.int v7)] (.int (0 : Int32))) (V_row : Arv Z h0 a2 k_x .int (2 : Int32) [(.int x0), (.int x1)] (.int (0 : Int32))) (ne_vals_a1 : vals ≠ a1) (ne_a2_a1 : a2 ≠ a1) (ne_vals_a2 : vals ≠ a2) (ne_w_NI_a1 : w_NI ≠ a1) (ne_w_NI_vals : w_NI ≠ vals) (ne_w_NI_a2 : w_NI ≠ a2) :
    MetFree l (⟨"com/example/bitlattice/bitlattice/eval/Relation", "contains", "([I)Z"⟩ : MethodName) (head1 (Jvm.Cond.code (⟨"com/example/bitlattice/bitlattice/eval/Relation", "contains", "([I)Z"⟩ : MethodName) prog_33_method_15_code 3 (some .boolean) :: ws) ({ frames := 0, cells := 0, slots := 0, locals := 0 } : Room)) (fun a U => a = #[(.ref a1), (.ref a2)] ∧ Z.Warmed39 U.vm ∧ U.heap = h0) (fun _ _ _ _ _ => True) (fun _ U o U' => ∃ v L, o = .returned v ∧ Q5_2_0 Z a1 a2 vals w_NI k_NI hAny k_v v0 v1 v2 v3 v4 v5 v6 v7 k_x x0 x1 h0 n0 v U'.heap L ∧ FrameEnd U o U' L ({ frames := 0, cells := 0, slots := 0, locals := 0 } : Room).cells ({ frames := 0, cells := 0, slots := 0, locals := 0 } : Room).slots) := by
  refine MetFree.of_bodySF (plainFor_of_name pn1) hisR ?_
  intro p e s m args below meth c s₁ Bd hml0 hP hK
  obtain ⟨rfl, hZ, hh⟩ := hP
  have hx := Bd.exec
  have hby := Bd.bytes
  have hml : c.maxLocals = 3 := hml0
  have hown : s.vm.findClass "com/example/bitlattice/bitlattice/eval/Relation" = some m.cls := findClass_of_methodNamed Bd.named
  have hnm := (name_of_methodNamed Bd.named Bd.method).1
  have X0 : Stand p l e ({ frames := 0, cells := 0, slots := 0, locals := 0 } : Room) s m #[(.ref a1), (.ref a2)] below meth c s₁ [] 0 0 := Stand.of_body Bd
  have e0 : s₁.heap = h0 := by rw [← hh, Bd.state]; rfl
  have N0 := Fr.nil n0
  have K0 : Keep h0 h0 [] := Keep.refl h0 _
  refine Go.st (P := fun o U' => ∃ v L, o = .returned v ∧ Q5_2_0 Z a1 a2 vals w_NI k_NI hAny k_v v0 v1 v2 v3 v4 v5 v6 v7 k_x x0 x1 h0 n0 v U'.heap L ∧ FrameEnd s o U' L ({ frames := 0, cells := 0, slots := 0, locals := 0 } : Room).cells ({ frames := 0, cells := 0, slots := 0, locals := 0 } : Room).slots) (fun t k => castTop (ef5_2_0 m a1 a2) k) ?_
  show Go _ _ _ (s₁.setTop (mkF m 0 #[.val (.ref a1), .val (.ref a2), .unset] [])) _
  refine Go.st (fun t k => XS.aloadN X0.here hx rfl (hb hby d5_0) rfl rfl k) ?_
  obtain ⟨T1, X1, e1, st1⟩ := getF X0 hx hZ hown (host := "") (Or.inl (wd28 hw)) Via.refl e0 F_a1_members (g := (mkF m 1 #[.val (.ref a1), .val (.ref a2), .unset] [(.ref a1)])) rfl rfl (hb hby d5_1)
  refine Go.st st1 ?_
  show Go _ _ _ (T1.setTop (mkF m 4 #[.val (.ref a1), .val (.ref a2), .unset] [.null])) _
  refine Go.st (fun t k => XS.ifnullYes X1.here hx rfl (pc0 := 4) (pc' := 24) rfl (hb hby d5_4) rfl (by decide) (by decide) k) ?_
  show Go _ _ _ (T1.setTop (mkF m 24 #[.val (.ref a1), .val (.ref a2), .unset] [])) _
  refine Go.st (fun t k => XS.iconst X1.here hx rfl (hb hby d5_24) k) ?_
  refine Go.st (fun t k => XS.istoreN X1.here hx rfl (hb hby d5_25) rfl (l' := #[.val (.ref a1), .val (.ref a2), .val (.int 0)]) rfl k) ?_
  refine Go.st (fun t k => XS.iloadN X1.here hx rfl (hb hby d5_26) rfl k) ?_
  refine Go.st (fun t k => XS.aloadN X1.here hx rfl (hb hby d5_27) rfl rfl k) ?_
  obtain ⟨T2, X2, e2, st2⟩ := getF X1 hx hZ hown (host := "") (Or.inl (wd35 hw)) Via.refl e1 F_a1_size (g := (mkF m 28 #[.val (.ref a1), .val (.ref a2), .val (.int 0)] [(.ref a1), (.int 0)])) rfl rfl (hb hby d5_28)
  refine Go.st st2 ?_
  show Go _ _ _ (T2.setTop (mkF m 31 #[.val (.ref a1), .val (.ref a2), .val (.int 0)] [(.int 0), (.int 0)])) _
  refine Go.st (fun t k => XS.icmpYes X2.here hx rfl (pc0 := 31) (pc' := 51) rfl (hb hby d5_31) rfl (flt (by decide : ¬ ((0 : Int32) < (0 : Int32)))).2.1 (by decide) (by decide) k) ?_
  show Go _ _ _ (T2.setTop (mkF m 51 #[.val (.ref a1), .val (.ref a2), .val (.int 0)] [])) _
  refine Go.st (fun t k => XS.iconst X2.here hx rfl (hb hby d5_51) k) ?_
  obtain ⟨fs, hr, hrun, hended, hW, hsame⟩ := X2.leave (v := some (.int (0 : Int32))) (fun h => by rw [Bd.returns] at h; cases h)
  refine Go.fin (retN X2 hx (t := .boolean) Bd.returns (by simp) (hb hby d5_52) hr) hrun hended ⟨_, _, rfl, ?_, ⟨_, rfl⟩, hW, hsame.mono (by decide) (by decide)⟩
  show Q5_2_0 Z a1 a2 vals w_NI k_NI hAny k_v v0 v1 v2 v3 v4 v5 v6 v7 k_x x0 x1 h0 n0 _ T2.heap _
  rw [e2]
  exact ⟨rfl, N0, rfl⟩
def Q4_2_0 (Z : State) (a1 : Addr) (a2 : Addr) (vals : Addr) (w_NI : Addr) (k_NI : ClassId) (hAny : Int32) (k_v : ClassId) (v0 : Int32) (v1 : Int32) (v2 : Int32) (v3 : Int32) (v4 : Int32) (v5 : Int32) (v6 : Int32) (v7 : Int32) (k_x : ClassId) (x0 : Int32) (x1 : Int32) (h0 : Heap) (n0 : Nat) (v : Option Value) (h : Heap) (L : List Loc) : Prop := ∃ z_4_2_0_holdingAny : Int32, v = some (.int (1 : Int32)) ∧ Fr n0 L ∧ Keep h0 h [vals, a1] ∧ Exa Z h a1 "com/example/bitlattice/bitlattice/eval/Relation" ∧ Fld Z h a1 "com/example/bitlattice/bitlattice/eval/Relation" "arity" "I" (.int (2 : Int32)) ∧ Fld Z h a1 "com/example/bitlattice/bitlattice/eval/Relation" "values" "[I" (.ref vals) ∧ Fld Z h a1 "com/example/bitlattice/bitlattice/eval/Relation" "size" "I" (.int (1 : Int32)) ∧ Fld Z h a1 "com/example/bitlattice/bitlattice/eval/Relation" "members" "Lcom/example/bitlattice/bitlattice/eval/Relation$Index;" .null ∧ Fld Z h a1 "com/example/bitlattice/bitlattice/eval/Relation" "indexes" "[Lcom/example/bitlattice/bitlattice/eval/Relation$Index;" (.ref w_NI) ∧ Fld Z h a1 "com/example/bitlattice/bitlattice/eval/Relation" "holdingAny" "I" (.int z_4_2_0_holdingAny) ∧ Arv Z h vals k_v .int (8 : Int32) [(.int x0), (.int x1), (.int v2), (.int v3), (.int v4), (.int v5), (.int v6), (.int v7)] (.int (0 : Int32))
theorem ef4_2_0 (m : MethodId) (x0 : Addr) (x1 : Addr) : entryFrame m #[(.ref x0), (.ref x1)] 7 = mkF m 0 #[.val (.ref x0), .val (.ref x1), .unset, .unset, .unset, .unset, .unset] [] := by first | (simp [entryFrame, mkF, argsToLocals, Value.category]; done) | rfl
set_option maxRecDepth 65536 in
set_option maxHeartbeats 16000000 in
theorem rm4_2_0 (l : Launch) (Z : State) (a0 : Array Value) (hw : ∀ d ∈ tables_1, d.before a0 Z = true) (ws : List Jvm.Cond) (a1 : Addr) (a2 : Addr) (vals : Addr) (w_NI : Addr) (k_NI : ClassId) (hAny : Int32) (k_v : ClassId) (v0 : Int32) (v1 : Int32) (v2 : Int32) (v3 : Int32) (v4 : Int32) (v5 : Int32) (v6 : Int32) (v7 : Int32) (k_x : ClassId) (x0 : Int32) (x1 : Int32) (h0 : Heap) (n0 : Nat) (Z0 : n0 ≤ h0.size) (E_a1 : Exa Z h0 a1 "com/example/bitlattice/bitlattice/eval/Relation") (V_NI : Arv Z h0 w_NI k_NI (.object "com/example/bitlattice/bitlattice/eval/Relation$Index") (0 : Int32) [] .null) (F_a1_arity : Fld Z h0 a1 "com/example/bitlattice/bitlattice/eval/Relation" "arity" "I" (.int (2 : Int32))) (F_a1_values : Fld Z h0 a1 "com/example/bitlattice/bitlattice/eval/Relation" "values" "[I" (.ref vals)) (F_a1_size : Fld Z h0 a1 "com/example/bitlattice/bitlattice/eval/Relation" "size" "I" (.int (0 : Int32))) (F_a1_members : Fld Z h0 a1 "com/example/bitlattice/bitlattice/eval/Relation" "members" "Lcom/example/bitlattice/bitlattice/eval/Relation$Index;" .null) (F_a1_indexes : Fld Z h0 a1 "com/example/bitlattice/bitlattice/eval/Relation" "indexes" "[Lcom/example/bitlattice/bitlattice/eval/Relation$Index;" (.ref w_NI)) (F_a1_holdingAny : Fld Z h0 a1 "com/example/bitlattice/bitlattice/eval/Relation" "holdingAny" "I" (.int hAny)) (V_vals : Arv Z h0 vals k_v .int (8 : Int32) [(.int v0), (.int v1), (.int v2), (.int v3), (.int v4), (.int v5), (.int v6), (.int v7)] (.int (0 : Int32))) (V_row : Arv Z h0 a2 k_x .int (2 : Int32) [(.int x0), (.int x1)] (.int (0 : Int32))) (ne_vals_a1 : vals ≠ a1) (ne_a2_a1 : a2 ≠ a1) (ne_vals_a2 : vals ≠ a2) (ne_w_NI_a1 : w_NI ≠ a1) (ne_w_NI_vals : w_NI ≠ vals) (ne_w_NI_a2 : w_NI ≠ a2) (g_vals : n0 ≤ vals) (g_a1 : n0 ≤ a1) :
    MetFree l (⟨"com/example/bitlattice/bitlattice/eval/Relation", "add", "([I)Z"⟩ : MethodName) (head1 (Jvm.Cond.code (⟨"com/example/bitlattice/bitlattice/eval/Relation", "add", "([I)Z"⟩ : MethodName) prog_33_method_14_code 7 (some .boolean) :: ws) ({ frames := 1, cells := 0, slots := 0, locals := 18 } : Room)) (fun a U => a = #[(.ref a1), (.ref a2)] ∧ Z.Warmed39 U.vm ∧ U.heap = h0) (fun _ _ _ _ _ => True) (fun _ U o U' => ∃ v L, o = .returned v ∧ Q4_2_0 Z a1 a2 vals w_NI k_NI hAny k_v v0 v1 v2 v3 v4 v5 v6 v7 k_x x0 x1 h0 n0 v U'.heap L ∧ FrameEnd U o U' L ({ frames := 1, cells := 0, slots := 0, locals := 18 } : Room).cells ({ frames := 1, cells := 0, slots := 0, locals := 18 } : Room).slots) := by
  refine MetFree.of_bodySF (plainFor_of_name pn1) hisR ?_
  intro p e s m args below meth c s₁ Bd hml0 hP hK
  obtain ⟨rfl, hZ, hh⟩ := hP
  have hx := Bd.exec
  have hby := Bd.bytes
  have hml : c.maxLocals = 7 := hml0
  have hown : s.vm.findClass "com/example/bitlattice/bitlattice/eval/Relation" = some m.cls := findClass_of_methodNamed Bd.named
  have hnm := (name_of_methodNamed Bd.named Bd.method).1
  have X0 : Stand p l e ({ frames := 1, cells := 0, slots := 0, locals := 18 } : Room) s m #[(.ref a1), (.ref a2)] below meth c s₁ [] 0 0 := Stand.of_body Bd
  have e0 : s₁.heap = h0 := by rw [← hh, Bd.state]; rfl
  have N0 := Fr.nil n0
  have K0 : Keep h0 h0 [vals, a1] := Keep.refl h0 _
  refine Go.st (P := fun o U' => ∃ v L, o = .returned v ∧ Q4_2_0 Z a1 a2 vals w_NI k_NI hAny k_v v0 v1 v2 v3 v4 v5 v6 v7 k_x x0 x1 h0 n0 v U'.heap L ∧ FrameEnd s o U' L ({ frames := 1, cells := 0, slots := 0, locals := 18 } : Room).cells ({ frames := 1, cells := 0, slots := 0, locals := 18 } : Room).slots) (fun t k => castTop (ef4_2_0 m a1 a2) k) ?_
  show Go _ _ _ (s₁.setTop (mkF m 0 #[.val (.ref a1), .val (.ref a2), .unset, .unset, .unset, .unset, .unset] [])) _
  refine Go.st (fun t k => XS.aloadN X0.here hx rfl (hb hby d4_0) rfl rfl k) ?_
  obtain ⟨T1, X1, e1, st1⟩ := getF X0 hx hZ hown (host := "") (Or.inl (wd28 hw)) Via.refl e0 F_a1_members (g := (mkF m 1 #[.val (.ref a1), .val (.ref a2), .unset, .unset, .unset, .unset, .unset] [(.ref a1)])) rfl rfl (hb hby d4_1)
  refine Go.st st1 ?_
  show Go _ _ _ (T1.setTop (mkF m 4 #[.val (.ref a1), .val (.ref a2), .unset, .unset, .unset, .unset, .unset] [.null])) _
  refine Go.st (fun t k => XS.ifnonnullNo X1.here hx rfl (hb hby d4_4) rfl k) ?_
  show Go _ _ _ (T1.setTop (mkF m 7 #[.val (.ref a1), .val (.ref a2), .unset, .unset, .unset, .unset, .unset] [])) _
  refine Go.st (fun t k => XS.aloadN X1.here hx rfl (hb hby d4_7) rfl rfl k) ?_
  refine Go.st (fun t k => XS.aloadN X1.here hx rfl (hb hby d4_8) rfl rfl k) ?_
  obtain ⟨cq2, kq2, q2a, q2b, q2c⟩ := isOf hZ e1 E_a1
  obtain ⟨_, _, ⟨T2, L2, k2, n2⟩, -, X2, ⟨Lc2, hQ2, l2, y2, z2⟩, st2⟩ := X1.virtualBack hx (y := (⟨"com/example/bitlattice/bitlattice/eval/Relation", "contains", "([I)Z"⟩ : MethodName)) (z := (⟨"com/example/bitlattice/bitlattice/eval/Relation", "contains", "([I)Z"⟩ : MethodName)) hown (mvT hZ (wd30 hw)) (mvT hZ (wd31 hw)) (notFace_of_selects (args := #[]) (mvT hZ (wd33 hw))) (mvT hZ (wd33 hw)) (mvT hZ (wd32 hw)) (by decide) (backOf (W := 0) (rm5_2_0 l Z a0 hw [] a1 a2 vals w_NI k_NI hAny k_v v0 v1 v2 v3 v4 v5 v6 v7 k_x x0 x1 h0 n0 Z0 E_a1 V_NI F_a1_arity F_a1_values F_a1_size F_a1_members F_a1_indexes F_a1_holdingAny V_vals V_row ne_vals_a1 ne_a2_a1 ne_vals_a2 ne_w_NI_a1 ne_w_NI_vals ne_w_NI_a2) hZ (wd34 hw) (wd8 hw) (by decide) (by decide)) q2a q2c (g := (mkF m 9 #[.val (.ref a1), .val (.ref a2), .unset, .unset, .unset, .unset, .unset] [(.ref a2), (.ref a1)])) rfl (by rw [hml]; rfl) (Steps.refl _) (argsL := [(.ref a2)]) (rest := []) (lenOf pd0 rfl) rfl (by show 2 * 0 + _ ≤ _; exact Nat.le_of_eq rfl) (hb hby d4_9) (fun _ _ => ⟨rfl, e1, (by decide : 0 + 0 ≤ _), (by decide : 0 + 0 ≤ _)⟩)
  dsimp only [Pt.U, Pt.locs, Pt.cells, Pt.slots] at X2 l2 y2 z2 st2 hQ2
  subst l2 y2 z2
  refine Go.tr st2 ?_
  obtain ⟨rfl, N2q, e2⟩ := hQ2
  have N2 := Fr.app N0 N2q
  show Go _ _ _ (T2.setTop (mkF m 12 #[.val (.ref a1), .val (.ref a2), .unset, .unset, .unset, .unset, .unset] [(.int 0)])) _
  refine Go.st (fun t k => XS.ifYes X2.here hx rfl (pc0 := 12) (pc' := 17) rfl (hb hby d4_12) rfl ((if0 _ _).trans (teq (by decide : (0 : Int32) = (0 : Int32))).1) (by decide) (by decide) k) ?_
  show Go _ _ _ (T2.setTop (mkF m 17 #[.val (.ref a1), .val (.ref a2), .unset, .unset, .unset, .unset, .unset] [])) _
  refine Go.st (fun t k => XS.aloadN X2.here hx rfl (hb hby d4_17) rfl rfl k) ?_
  obtain ⟨T3, X3, e3, st3⟩ := getF X2 hx hZ hown (host := "") (Or.inl (wd35 hw)) Via.refl e2 F_a1_size (g := (mkF m 18 #[.val (.ref a1), .val (.ref a2), .unset, .unset, .unset, .unset, .unset] [(.ref a1)])) rfl rfl (hb hby d4_18)
  refine Go.st st3 ?_
  show Go _ _ _ (T3.setTop (mkF m 21 #[.val (.ref a1), .val (.ref a2), .unset, .unset, .unset, .unset, .unset] [(.int 0)])) _
  refine Go.st (fun t k => XS.iconst X3.here hx rfl (hb hby d4_21) k) ?_
  refine Go.st (fun t k => XS.iadd X3.here hx rfl (hb hby d4_22) rfl k) ?_
  show Go _ _ _ (T3.setTop (mkF m 23 #[.val (.ref a1), .val (.ref a2), .unset, .unset, .unset, .unset, .unset] [(.int 1)])) _
  refine Go.st (fun t k => XS.aloadN X3.here hx rfl (hb hby d4_23) rfl rfl k) ?_
  obtain ⟨T4, X4, e4, st4⟩ := getF X3 hx hZ hown (host := "") (Or.inl (wd19 hw)) Via.refl e3 F_a1_arity (g := (mkF m 24 #[.val (.ref a1), .val (.ref a2), .unset, .unset, .unset, .unset, .unset] [(.ref a1), (.int 1)])) rfl rfl (hb hby d4_24)
  refine Go.st st4 ?_
  show Go _ _ _ (T4.setTop (mkF m 27 #[.val (.ref a1), .val (.ref a2), .unset, .unset, .unset, .unset, .unset] [(.int 2), (.int 1)])) _
  refine Go.st (fun t k => XS.imul X4.here hx rfl (hb hby d4_27) rfl k) ?_
  show Go _ _ _ (T4.setTop (mkF m 28 #[.val (.ref a1), .val (.ref a2), .unset, .unset, .unset, .unset, .unset] [(.int 2)])) _
  refine Go.st (fun t k => XS.aloadN X4.here hx rfl (hb hby d4_28) rfl rfl k) ?_
  obtain ⟨T5, X5, e5, st5⟩ := getF X4 hx hZ hown (host := "") (Or.inl (wd21 hw)) Via.refl e4 F_a1_values (g := (mkF m 29 #[.val (.ref a1), .val (.ref a2), .unset, .unset, .unset, .unset, .unset] [(.ref a1), (.int 2)])) rfl rfl (hb hby d4_29)
  refine Go.st st5 ?_
  show Go _ _ _ (T5.setTop (mkF m 32 #[.val (.ref a1), .val (.ref a2), .unset, .unset, .unset, .unset, .unset] [(.ref vals), (.int 2)])) _
  obtain ⟨cl6, Ar6, -, Sz6, Ng6, -, -⟩ := id V_vals
  refine Go.st (fun t k => X5.arraylength hx (by rw [e5]; exact Ar6.1) (State.isArrayOf_alike hZ.alike Ar6.2.1) (g := (mkF m 32 #[.val (.ref a1), .val (.ref a2), .unset, .unset, .unset, .unset, .unset] [(.ref vals), (.int 2)])) rfl rfl (hb hby d4_32) _ k) ?_
  rw [len_of Sz6 Ng6]
  show Go _ _ _ (T5.setTop (mkF m 33 #[.val (.ref a1), .val (.ref a2), .unset, .unset, .unset, .unset, .unset] [(.int 8), (.int 2)])) _
  refine Go.st (fun t k => XS.icmpYes X5.here hx rfl (pc0 := 33) (pc' := 63) rfl (hb hby d4_33) rfl (flt (by decide : ¬ ((8 : Int32) < (2 : Int32)))).2.2.2 (by decide) (by decide) k) ?_
  show Go _ _ _ (T5.setTop (mkF m 63 #[.val (.ref a1), .val (.ref a2), .unset, .unset, .unset, .unset, .unset] [])) _
  refine Go.st (fun t k => XS.aloadN X5.here hx rfl (hb hby d4_63) rfl rfl k) ?_
  refine Go.st (fun t k => XS.iconst X5.here hx rfl (hb hby d4_64) k) ?_
  refine Go.st (fun t k => XS.aloadN X5.here hx rfl (hb hby d4_65) rfl rfl k) ?_
  obtain ⟨T7, X7, e7, st7⟩ := getF X5 hx hZ hown (host := "") (Or.inl (wd21 hw)) Via.refl e5 F_a1_values (g := (mkF m 66 #[.val (.ref a1), .val (.ref a2), .unset, .unset, .unset, .unset, .unset] [(.ref a1), (.int 0), (.ref a2)])) rfl rfl (hb hby d4_66)
  refine Go.st st7 ?_
  show Go _ _ _ (T7.setTop (mkF m 69 #[.val (.ref a1), .val (.ref a2), .unset, .unset, .unset, .unset, .unset] [(.ref vals), (.int 0), (.ref a2)])) _
  refine Go.st (fun t k => XS.aloadN X7.here hx rfl (hb hby d4_69) rfl rfl k) ?_
  obtain ⟨T8, X8, e8, st8⟩ := getF X7 hx hZ hown (host := "") (Or.inl (wd35 hw)) Via.refl e7 F_a1_size (g := (mkF m 70 #[.val (.ref a1), .val (.ref a2), .unset, .unset, .unset, .unset, .unset] [(.ref a1), (.ref vals), (.int 0), (.ref a2)])) rfl rfl (hb hby d4_70)
  refine Go.st st8 ?_
  show Go _ _ _ (T8.setTop (mkF m 73 #[.val (.ref a1), .val (.ref a2), .unset, .unset, .unset, .unset, .unset] [(.int 0), (.ref vals), (.int 0), (.ref a2)])) _
  refine Go.st (fun t k => XS.aloadN X8.here hx rfl (hb hby d4_73) rfl rfl k) ?_
  obtain ⟨T9, X9, e9, st9⟩ := getF X8 hx hZ hown (host := "") (Or.inl (wd19 hw)) Via.refl e8 F_a1_arity (g := (mkF m 74 #[.val (.ref a1), .val (.ref a2), .unset, .unset, .unset, .unset, .unset] [(.ref a1), (.int 0), (.ref vals), (.int 0), (.ref a2)])) rfl rfl (hb hby d4_74)
  refine Go.st st9 ?_
  show Go _ _ _ (T9.setTop (mkF m 77 #[.val (.ref a1), .val (.ref a2), .unset, .unset, .unset, .unset, .unset] [(.int 2), (.int 0), (.ref vals), (.int 0), (.ref a2)])) _
  refine Go.st (fun t k => XS.imul X9.here hx rfl (hb hby d4_77) rfl k) ?_
  show Go _ _ _ (T9.setTop (mkF m 78 #[.val (.ref a1), .val (.ref a2), .unset, .unset, .unset, .unset, .unset] [(.int 0), (.ref vals), (.int 0), (.ref a2)])) _
  refine Go.st (fun t k => XS.aloadN X9.here hx rfl (hb hby d4_78) rfl rfl k) ?_
  obtain ⟨T10, X10, e10, st10⟩ := getF X9 hx hZ hown (host := "") (Or.inl (wd19 hw)) Via.refl e9 F_a1_arity (g := (mkF m 79 #[.val (.ref a1), .val (.ref a2), .unset, .unset, .unset, .unset, .unset] [(.ref a1), (.int 0), (.ref vals), (.int 0), (.ref a2)])) rfl rfl (hb hby d4_79)
  refine Go.st st10 ?_
  show Go _ _ _ (T10.setTop (mkF m 82 #[.val (.ref a1), .val (.ref a2), .unset, .unset, .unset, .unset, .unset] [(.int 2), (.int 0), (.ref vals), (.int 0), (.ref a2)])) _
  have V_vals_pre := V_vals
  obtain ⟨T11, h11, L11, X11, e11, N11, K11, B11, st11⟩ := cpA X10 hx hZ hown (wd37 hw) (wd40 hw) (wd38 hw) (wd39 hw) e10 V_row V_vals (us := [(.int x0), (.int x1)]) (Or.inl ⟨rfl, rfl⟩) (sp := (0 : Int32)) (dp := (0 : Int32)) (nn := (2 : Int32)) (by decide) (by decide) (by decide) (by decide) (by decide) rfl (Nat.le_of_ble_eq_true rfl) N2 g_vals (g := (mkF m 82 #[.val (.ref a1), .val (.ref a2), .unset, .unset, .unset, .unset, .unset] [(.int 2), (.int 0), (.ref vals), (.int 0), (.ref a2)])) rfl (by rw [hml]; rfl) rfl (hb hby d4_82) (by decide) (W := 0) (by show 2 * 0 + _ ≤ _; exact Nat.le_of_eq rfl) (by decide)
  refine Go.st st11 ?_
  replace E_a1 := E_a1.keep K11
  replace V_NI := V_NI.keep K11 (ninS ne_w_NI_vals nin0)
  replace F_a1_arity := F_a1_arity.keep K11 (ninS (Ne.symm ne_vals_a1) nin0)
  replace F_a1_values := F_a1_values.keep K11 (ninS (Ne.symm ne_vals_a1) nin0)
  replace F_a1_size := F_a1_size.keep K11 (ninS (Ne.symm ne_vals_a1) nin0)
  replace F_a1_members := F_a1_members.keep K11 (ninS (Ne.symm ne_vals_a1) nin0)
  replace F_a1_indexes := F_a1_indexes.keep K11 (ninS (Ne.symm ne_vals_a1) nin0)
  replace F_a1_holdingAny := F_a1_holdingAny.keep K11 (ninS (Ne.symm ne_vals_a1) nin0)
  replace V_row := V_row.keep K11 (ninS (Ne.symm ne_vals_a2) nin0)
  replace Z0 := Nat.le_trans Z0 K11.1
  replace K0 := K0.trans K11 (allS (Or.inl (by simp)) all0)
  have V_vals : Arv Z h11 vals k_v .int (8 : Int32) [(.int x0), (.int x1), (.int v2), (.int v3), (.int v4), (.int v5), (.int v6), (.int v7)] (.int (0 : Int32)) := B11
  show Go _ _ _ (T11.setTop (mkF m 85 #[.val (.ref a1), .val (.ref a2), .unset, .unset, .unset, .unset, .unset] [])) _
  refine Go.st (fun t k => XS.aloadN X11.here hx rfl (hb hby d4_85) rfl rfl k) ?_
  obtain ⟨T12, X12, e12, st12⟩ := getF X11 hx hZ hown (host := "") (Or.inl (wd28 hw)) Via.refl e11 F_a1_members (g := (mkF m 86 #[.val (.ref a1), .val (.ref a2), .unset, .unset, .unset, .unset, .unset] [(.ref a1)])) rfl rfl (hb hby d4_86)
  refine Go.st st12 ?_
  show Go _ _ _ (T12.setTop (mkF m 89 #[.val (.ref a1), .val (.ref a2), .unset, .unset, .unset, .unset, .unset] [.null])) _
  refine Go.st (fun t k => XS.ifnullYes X12.here hx rfl (pc0 := 89) (pc' := 108) rfl (hb hby d4_89) rfl (by decide) (by decide) k) ?_
  show Go _ _ _ (T12.setTop (mkF m 108 #[.val (.ref a1), .val (.ref a2), .unset, .unset, .unset, .unset, .unset] [])) _
  refine Go.st (fun t k => XS.aloadN X12.here hx rfl (hb hby d4_108) rfl rfl k) ?_
  refine Go.st (fun t k => XS.dup X12.here hx rfl (hb hby d4_109) rfl rfl k) ?_
  obtain ⟨T13, X13, e13, st13⟩ := getF X12 hx hZ hown (host := "") (Or.inl (wd35 hw)) Via.refl e12 F_a1_size (g := (mkF m 110 #[.val (.ref a1), .val (.ref a2), .unset, .unset, .unset, .unset, .unset] [(.ref a1), (.ref a1)])) rfl rfl (hb hby d4_110)
  refine Go.st st13 ?_
  show Go _ _ _ (T13.setTop (mkF m 113 #[.val (.ref a1), .val (.ref a2), .unset, .unset, .unset, .unset, .unset] [(.int 0), (.ref a1)])) _
  refine Go.st (fun t k => XS.dupX1 X13.here hx rfl (hb hby d4_113) rfl rfl rfl k) ?_
  show Go _ _ _ (T13.setTop (mkF m 114 #[.val (.ref a1), .val (.ref a2), .unset, .unset, .unset, .unset, .unset] [(.int 0), (.ref a1), (.int 0)])) _
  refine Go.st (fun t k => XS.iconst X13.here hx rfl (hb hby d4_114) k) ?_
  refine Go.st (fun t k => XS.iadd X13.here hx rfl (hb hby d4_115) rfl k) ?_
  show Go _ _ _ (T13.setTop (mkF m 116 #[.val (.ref a1), .val (.ref a2), .unset, .unset, .unset, .unset, .unset] [(.int 1), (.ref a1), (.int 0)])) _
  obtain ⟨T14, h14, X14, e14, W14, st14⟩ := putF X13 hx hZ hown (host := "") (Or.inl (wd35 hw)) Via.refl e13 F_a1_size E_a1 (Or.inl (wd36 hw)) (wd7 hw) (ty := .int) (by decide) rfl rfl (g := (mkF m 116 #[.val (.ref a1), .val (.ref a2), .unset, .unset, .unset, .unset, .unset] [(.int 1), (.ref a1), (.int 0)])) rfl rfl (hb hby d4_116)
  refine Go.st st14 ?_
  have N14 := Fr.snoc X14 N11 g_a1
  replace E_a1 := E_a1.wr W14
  replace V_NI := V_NI.other W14 ne_w_NI_a1
  replace F_a1_arity := F_a1_arity.other W14 (Or.inr (slot_ne (Or.inr (wd20 hw)) (Or.inl (wd36 hw)) (by decide) (t := .int) (t' := .int) (by decide) (by decide)))
  replace F_a1_values := F_a1_values.other W14 (Or.inr (slot_ne (Or.inl (wd22 hw)) (Or.inl (wd36 hw)) (by decide) (t := (.array .int)) (t' := .int) (by decide) (by decide)))
  replace F_a1_size := F_a1_size.same W14
  replace F_a1_members := F_a1_members.other W14 (Or.inr (slot_ne (Or.inl (wd29 hw)) (Or.inl (wd36 hw)) (by decide) (t := (.object "com/example/bitlattice/bitlattice/eval/Relation$Index")) (t' := .int) (by decide) (by decide)))
  replace F_a1_indexes := F_a1_indexes.other W14 (Or.inr (slot_ne (Or.inl (wd18 hw)) (Or.inl (wd36 hw)) (by decide) (t := (.array (.object "com/example/bitlattice/bitlattice/eval/Relation$Index"))) (t' := .int) (by decide) (by decide)))
  replace F_a1_holdingAny := F_a1_holdingAny.other W14 (Or.inr (slot_ne (Or.inl (wd55 hw)) (Or.inl (wd36 hw)) (by decide) (t := .int) (t' := .int) (by decide) (by decide)))
  replace V_row := V_row.other W14 ne_a2_a1
  replace V_vals := V_vals.other W14 ne_vals_a1
  replace Z0 := Nat.le_trans Z0 (Nat.le_of_eq W14.size.symm)
  replace K0 := K0.wr W14 (Or.inl (by simp))
  show Go _ _ _ (T14.setTop (mkF m 119 #[.val (.ref a1), .val (.ref a2), .unset, .unset, .unset, .unset, .unset] [(.int 0)])) _
  refine Go.st (fun t k => XS.istoreN X14.here hx rfl (hb hby d4_119) rfl (l' := #[.val (.ref a1), .val (.ref a2), .val (.int 0), .unset, .unset, .unset, .unset]) rfl k) ?_
  refine Go.st (fun t k => XS.aloadN X14.here hx rfl (hb hby d4_120) rfl rfl k) ?_
  refine Go.st (fun t k => XS.astoreN X14.here hx rfl (hb hby d4_121) rfl rfl (l' := #[.val (.ref a1), .val (.ref a2), .val (.int 0), .val (.ref a2), .unset, .unset, .unset]) rfl k) ?_
  refine Go.st (fun t k => XS.aloadN X14.here hx rfl (hb hby d4_122) rfl rfl k) ?_
  obtain ⟨cl15, Ar15, -, Sz15, Ng15, -, -⟩ := id V_row
  refine Go.st (fun t k => X14.arraylength hx (by rw [e14]; exact Ar15.1) (State.isArrayOf_alike hZ.alike Ar15.2.1) (g := (mkF m 123 #[.val (.ref a1), .val (.ref a2), .val (.int 0), .val (.ref a2), .unset, .unset, .unset] [(.ref a2)])) rfl rfl (hb hby d4_123) _ k) ?_
  rw [len_of Sz15 Ng15]
  show Go _ _ _ (T14.setTop (mkF m 124 #[.val (.ref a1), .val (.ref a2), .val (.int 0), .val (.ref a2), .unset, .unset, .unset] [(.int 2)])) _
  refine Go.st (fun t k => XS.istore X14.here hx rfl (hb hby d4_124) rfl (l' := #[.val (.ref a1), .val (.ref a2), .val (.int 0), .val (.ref a2), .val (.int 2), .unset, .unset]) rfl k) ?_
  refine Go.st (fun t k => XS.iconst X14.here hx rfl (hb hby d4_126) k) ?_
  refine Go.st (fun t k => XS.istore X14.here hx rfl (hb hby d4_127) rfl (l' := #[.val (.ref a1), .val (.ref a2), .val (.int 0), .val (.ref a2), .val (.int 2), .val (.int 0), .unset]) rfl k) ?_
  refine Go.st (fun t k => XS.iload X14.here hx rfl (hb hby d4_129) rfl k) ?_
  refine Go.st (fun t k => XS.iload X14.here hx rfl (hb hby d4_131) rfl k) ?_
  refine Go.st (fun t k => XS.icmpNo X14.here hx rfl (hb hby d4_133) rfl (tlt (by decide : (0 : Int32) < (2 : Int32))).2.1 k) ?_
  show Go _ _ _ (T14.setTop (mkF m 136 #[.val (.ref a1), .val (.ref a2), .val (.int 0), .val (.ref a2), .val (.int 2), .val (.int 0), .unset] [])) _
  refine Go.st (fun t k => XS.aloadN X14.here hx rfl (hb hby d4_136) rfl rfl k) ?_
  refine Go.st (fun t k => XS.iload X14.here hx rfl (hb hby d4_137) rfl k) ?_
  obtain ⟨cl16, Ar16, -, Sz16, Ng16, Hs16, -⟩ := id V_row
  have hin16 : ¬ ((0 : Int32) < 0 ∨ cl16.slots.size ≤ ((0 : Int32)).toNatClampNeg) := inb_of Sz16 ⟨by decide, by decide⟩
  refine Go.st (fun t k => X14.iaload hx (j := (0 : Int32)) (v := (.int x0)) (by rw [e14]; exact Ar16.1) (State.isArrayOf_alike hZ.alike Ar16.2.1) Ar16.2.2 hin16 (Has.at Hs16 hin16 rfl) (g := (mkF m 139 #[.val (.ref a1), .val (.ref a2), .val (.int 0), .val (.ref a2), .val (.int 2), .val (.int 0), .unset] [(.int 0), (.ref a2)])) rfl rfl (hb hby d4_139) _ k) ?_
  show Go _ _ _ (T14.setTop (mkF m 140 #[.val (.ref a1), .val (.ref a2), .val (.int 0), .val (.ref a2), .val (.int 2), .val (.int 0), .unset] [(.int x0)])) _
  refine Go.st (fun t k => XS.istore X14.here hx rfl (hb hby d4_140) rfl (l' := #[.val (.ref a1), .val (.ref a2), .val (.int 0), .val (.ref a2), .val (.int 2), .val (.int 0), .val (.int x0)]) rfl k) ?_
  refine Go.st (fun t k => XS.iload X14.here hx rfl (hb hby d4_142) rfl k) ?_
  refine Go.st (fun t k => X14.ldcInt hx hown (mvT hZ (wd41 hw)) (g := (mkF m 144 #[.val (.ref a1), .val (.ref a2), .val (.int 0), .val (.ref a2), .val (.int 2), .val (.int 0), .val (.int x0)] [(.int x0)])) rfl (hb hby d4_144) _ k) ?_
  show Go _ _ _ (T14.setTop (mkF m 146 #[.val (.ref a1), .val (.ref a2), .val (.int 0), .val (.ref a2), .val (.int 2), .val (.int 0), .val (.int x0)] [(.int 2147483647), (.int x0)])) _
  by_cases hc17 : x0 = (2147483647 : Int32)
  · refine Go.st (fun t k => XS.icmpNo X14.here hx rfl (hb hby d4_146) rfl (teq hc17).2 k) ?_
    show Go _ _ _ (T14.setTop (mkF m 149 #[.val (.ref a1), .val (.ref a2), .val (.int 0), .val (.ref a2), .val (.int 2), .val (.int 0), .val (.int x0)] [])) _
    refine Go.st (fun t k => XS.aloadN X14.here hx rfl (hb hby d4_149) rfl rfl k) ?_
    refine Go.st (fun t k => XS.dup X14.here hx rfl (hb hby d4_150) rfl rfl k) ?_
    obtain ⟨T18, X18, e18, st18⟩ := getF X14 hx hZ hown (host := "") (Or.inl (wd54 hw)) Via.refl e14 F_a1_holdingAny (g := (mkF m 151 #[.val (.ref a1), .val (.ref a2), .val (.int 0), .val (.ref a2), .val (.int 2), .val (.int 0), .val (.int x0)] [(.ref a1), (.ref a1)])) rfl rfl (hb hby d4_151)
    refine Go.st st18 ?_
    show Go _ _ _ (T18.setTop (mkF m 154 #[.val (.ref a1), .val (.ref a2), .val (.int 0), .val (.ref a2), .val (.int 2), .val (.int 0), .val (.int x0)] [(.int hAny), (.ref a1)])) _
    refine Go.st (fun t k => XS.iconst X18.here hx rfl (hb hby d4_154) k) ?_
    refine Go.st (fun t k => XS.iadd X18.here hx rfl (hb hby d4_155) rfl k) ?_
    show Go _ _ _ (T18.setTop (mkF m 156 #[.val (.ref a1), .val (.ref a2), .val (.int 0), .val (.ref a2), .val (.int 2), .val (.int 0), .val (.int x0)] [(.int (hAny + (1 : Int32))), (.ref a1)])) _
    obtain ⟨T19, h19, X19, e19, W19, st19⟩ := putF X18 hx hZ hown (host := "") (Or.inl (wd54 hw)) Via.refl e18 F_a1_holdingAny E_a1 (Or.inl (wd55 hw)) (wd7 hw) (ty := .int) (by decide) rfl rfl (g := (mkF m 156 #[.val (.ref a1), .val (.ref a2), .val (.int 0), .val (.ref a2), .val (.int 2), .val (.int 0), .val (.int x0)] [(.int (hAny + (1 : Int32))), (.ref a1)])) rfl rfl (hb hby d4_156)
    refine Go.st st19 ?_
    have N19 := Fr.snoc X19 N14 g_a1
    replace E_a1 := E_a1.wr W19
    replace V_NI := V_NI.other W19 ne_w_NI_a1
    replace F_a1_arity := F_a1_arity.other W19 (Or.inr (slot_ne (Or.inr (wd20 hw)) (Or.inl (wd55 hw)) (by decide) (t := .int) (t' := .int) (by decide) (by decide)))
    replace F_a1_values := F_a1_values.other W19 (Or.inr (slot_ne (Or.inl (wd22 hw)) (Or.inl (wd55 hw)) (by decide) (t := (.array .int)) (t' := .int) (by decide) (by decide)))
    replace F_a1_size := F_a1_size.other W19 (Or.inr (slot_ne (Or.inl (wd36 hw)) (Or.inl (wd55 hw)) (by decide) (t := .int) (t' := .int) (by decide) (by decide)))
    replace F_a1_members := F_a1_members.other W19 (Or.inr (slot_ne (Or.inl (wd29 hw)) (Or.inl (wd55 hw)) (by decide) (t := (.object "com/example/bitlattice/bitlattice/eval/Relation$Index")) (t' := .int) (by decide) (by decide)))
    replace F_a1_indexes := F_a1_indexes.other W19 (Or.inr (slot_ne (Or.inl (wd18 hw)) (Or.inl (wd55 hw)) (by decide) (t := (.array (.object "com/example/bitlattice/bitlattice/eval/Relation$Index"))) (t' := .int) (by decide) (by decide)))
    replace F_a1_holdingAny := F_a1_holdingAny.same W19
    replace V_row := V_row.other W19 ne_a2_a1
    replace V_vals := V_vals.other W19 ne_vals_a1
    replace Z0 := Nat.le_trans Z0 (Nat.le_of_eq W19.size.symm)
    replace K0 := K0.wr W19 (Or.inl (by simp))
    show Go _ _ _ (T19.setTop (mkF m 159 #[.val (.ref a1), .val (.ref a2), .val (.int 0), .val (.ref a2), .val (.int 2), .val (.int 0), .val (.int x0)] [])) _
    refine Go.st (fun t k => XS.goto X19.here hx rfl (pc0 := 159) (pc' := 168) rfl (hb hby d4_159) (by decide) (by decide) k) ?_
    refine Go.st (fun t k => XS.aloadN X19.here hx rfl (hb hby d4_168) rfl rfl k) ?_
    obtain ⟨T20, X20, e20, st20⟩ := getF X19 hx hZ hown (host := "") (Or.inl (wd28 hw)) Via.refl e19 F_a1_members (g := (mkF m 169 #[.val (.ref a1), .val (.ref a2), .val (.int 0), .val (.ref a2), .val (.int 2), .val (.int 0), .val (.int x0)] [(.ref a1)])) rfl rfl (hb hby d4_169)
    refine Go.st st20 ?_
    show Go _ _ _ (T20.setTop (mkF m 172 #[.val (.ref a1), .val (.ref a2), .val (.int 0), .val (.ref a2), .val (.int 2), .val (.int 0), .val (.int x0)] [.null])) _
    refine Go.st (fun t k => XS.ifnonnullNo X20.here hx rfl (hb hby d4_172) rfl k) ?_
    show Go _ _ _ (T20.setTop (mkF m 175 #[.val (.ref a1), .val (.ref a2), .val (.int 0), .val (.ref a2), .val (.int 2), .val (.int 0), .val (.int x0)] [])) _
    refine Go.st (fun t k => XS.aloadN X20.here hx rfl (hb hby d4_175) rfl rfl k) ?_
    obtain ⟨T21, X21, e21, st21⟩ := getF X20 hx hZ hown (host := "") (Or.inl (wd35 hw)) Via.refl e20 F_a1_size (g := (mkF m 176 #[.val (.ref a1), .val (.ref a2), .val (.int 0), .val (.ref a2), .val (.int 2), .val (.int 0), .val (.int x0)] [(.ref a1)])) rfl rfl (hb hby d4_176)
    refine Go.st st21 ?_
    show Go _ _ _ (T21.setTop (mkF m 179 #[.val (.ref a1), .val (.ref a2), .val (.int 0), .val (.ref a2), .val (.int 2), .val (.int 0), .val (.int x0)] [(.int 1)])) _
    refine Go.st (fun t k => XS.bipush X21.here hx rfl (hb hby d4_179) k) ?_
    refine Go.st (fun t k => XS.icmpYes X21.here hx rfl (pc0 := 181) (pc' := 207) rfl (hb hby d4_181) rfl (flt (by decide : ¬ ((8 : Int32) < (1 : Int32)))).2.2.2 (by decide) (by decide) k) ?_
    show Go _ _ _ (T21.setTop (mkF m 207 #[.val (.ref a1), .val (.ref a2), .val (.int 0), .val (.ref a2), .val (.int 2), .val (.int 0), .val (.int x0)] [])) _
    refine Go.st (fun t k => XS.aloadN X21.here hx rfl (hb hby d4_207) rfl rfl k) ?_
    obtain ⟨T22, X22, e22, st22⟩ := getF X21 hx hZ hown (host := "") (Or.inl (wd17 hw)) Via.refl e21 F_a1_indexes (g := (mkF m 208 #[.val (.ref a1), .val (.ref a2), .val (.int 0), .val (.ref a2), .val (.int 2), .val (.int 0), .val (.int x0)] [(.ref a1)])) rfl rfl (hb hby d4_208)
    refine Go.st st22 ?_
    show Go _ _ _ (T22.setTop (mkF m 211 #[.val (.ref a1), .val (.ref a2), .val (.int 0), .val (.ref a2), .val (.int 2), .val (.int 0), .val (.int x0)] [(.ref w_NI)])) _
    refine Go.st (fun t k => XS.astoreN X22.here hx rfl (hb hby d4_211) rfl rfl (l' := #[.val (.ref a1), .val (.ref a2), .val (.int 0), .val (.ref w_NI), .val (.int 2), .val (.int 0), .val (.int x0)]) rfl k) ?_
    refine Go.st (fun t k => XS.aloadN X22.here hx rfl (hb hby d4_212) rfl rfl k) ?_
    obtain ⟨cl23, Ar23, -, Sz23, Ng23, -, -⟩ := id V_NI
    refine Go.st (fun t k => X22.arraylength hx (by rw [e22]; exact Ar23.1) (State.isArrayOf_alike hZ.alike Ar23.2.1) (g := (mkF m 213 #[.val (.ref a1), .val (.ref a2), .val (.int 0), .val (.ref w_NI), .val (.int 2), .val (.int 0), .val (.int x0)] [(.ref w_NI)])) rfl rfl (hb hby d4_213) _ k) ?_
    rw [len_of Sz23 Ng23]
    show Go _ _ _ (T22.setTop (mkF m 214 #[.val (.ref a1), .val (.ref a2), .val (.int 0), .val (.ref w_NI), .val (.int 2), .val (.int 0), .val (.int x0)] [(.int 0)])) _
    refine Go.st (fun t k => XS.istore X22.here hx rfl (hb hby d4_214) rfl (l' := #[.val (.ref a1), .val (.ref a2), .val (.int 0), .val (.ref w_NI), .val (.int 0), .val (.int 0), .val (.int x0)]) rfl k) ?_
    refine Go.st (fun t k => XS.iconst X22.here hx rfl (hb hby d4_216) k) ?_
    refine Go.st (fun t k => XS.istore X22.here hx rfl (hb hby d4_217) rfl (l' := #[.val (.ref a1), .val (.ref a2), .val (.int 0), .val (.ref w_NI), .val (.int 0), .val (.int 0), .val (.int x0)]) rfl k) ?_
    refine Go.st (fun t k => XS.iload X22.here hx rfl (hb hby d4_219) rfl k) ?_
    refine Go.st (fun t k => XS.iload X22.here hx rfl (hb hby d4_221) rfl k) ?_
    refine Go.st (fun t k => XS.icmpYes X22.here hx rfl (pc0 := 223) (pc' := 244) rfl (hb hby d4_223) rfl (flt (by decide : ¬ ((0 : Int32) < (0 : Int32)))).2.1 (by decide) (by decide) k) ?_
    show Go _ _ _ (T22.setTop (mkF m 244 #[.val (.ref a1), .val (.ref a2), .val (.int 0), .val (.ref w_NI), .val (.int 0), .val (.int 0), .val (.int x0)] [])) _
    refine Go.st (fun t k => XS.iconst X22.here hx rfl (hb hby d4_244) k) ?_
    obtain ⟨fs, hr, hrun, hended, hW, hsame⟩ := X22.leave (v := some (.int (1 : Int32))) (fun h => by rw [Bd.returns] at h; cases h)
    refine Go.fin (retN X22 hx (t := .boolean) Bd.returns (by simp) (hb hby d4_245) hr) hrun hended ⟨_, _, rfl, ?_, ⟨_, rfl⟩, hW, hsame.mono (by decide) (by decide)⟩
    show Q4_2_0 Z a1 a2 vals w_NI k_NI hAny k_v v0 v1 v2 v3 v4 v5 v6 v7 k_x x0 x1 h0 n0 _ T22.heap _
    rw [e22]
    exact ⟨(hAny + (1 : Int32)), rfl, N19, K0, E_a1, F_a1_arity, F_a1_values, F_a1_size, F_a1_members, F_a1_indexes, F_a1_holdingAny, V_vals⟩
  · refine Go.st (fun t k => XS.icmpYes X14.here hx rfl (pc0 := 146) (pc' := 162) rfl (hb hby d4_146) rfl (feq hc17).2 (by decide) (by decide) k) ?_
    show Go _ _ _ (T14.setTop (mkF m 162 #[.val (.ref a1), .val (.ref a2), .val (.int 0), .val (.ref a2), .val (.int 2), .val (.int 0), .val (.int x0)] [])) _
    refine Go.st (fun t k => XS.iinc X14.here hx rfl (hb hby d4_162) rfl (l' := #[.val (.ref a1), .val (.ref a2), .val (.int (0 : Int32)), .val (.ref a2), .val (.int (2 : Int32)), .val (.int ((0 : Int32) + (1 : Int32))), .val (.int x0)]) rfl k) ?_
    show Go _ _ _ (T14.setTop (mkF m 165 #[.val (.ref a1), .val (.ref a2), .val (.int 0), .val (.ref a2), .val (.int 2), .val (.int 1), .val (.int x0)] [])) _
    refine Go.st (fun t k => XS.goto X14.here hx rfl (pc0 := 165) (pc' := 129) rfl (hb hby d4_165) (by decide) (by decide) k) ?_
    refine Go.st (fun t k => XS.iload X14.here hx rfl (hb hby d4_129) rfl k) ?_
    refine Go.st (fun t k => XS.iload X14.here hx rfl (hb hby d4_131) rfl k) ?_
    refine Go.st (fun t k => XS.icmpNo X14.here hx rfl (hb hby d4_133) rfl (tlt (by decide : (1 : Int32) < (2 : Int32))).2.1 k) ?_
    show Go _ _ _ (T14.setTop (mkF m 136 #[.val (.ref a1), .val (.ref a2), .val (.int 0), .val (.ref a2), .val (.int 2), .val (.int 1), .val (.int x0)] [])) _
    refine Go.st (fun t k => XS.aloadN X14.here hx rfl (hb hby d4_136) rfl rfl k) ?_
    refine Go.st (fun t k => XS.iload X14.here hx rfl (hb hby d4_137) rfl k) ?_
    obtain ⟨cl24, Ar24, -, Sz24, Ng24, Hs24, -⟩ := id V_row
    have hin24 : ¬ ((1 : Int32) < 0 ∨ cl24.slots.size ≤ ((1 : Int32)).toNatClampNeg) := inb_of Sz24 ⟨by decide, by decide⟩
    refine Go.st (fun t k => X14.iaload hx (j := (1 : Int32)) (v := (.int x1)) (by rw [e14]; exact Ar24.1) (State.isArrayOf_alike hZ.alike Ar24.2.1) Ar24.2.2 hin24 (Has.at Hs24 hin24 rfl) (g := (mkF m 139 #[.val (.ref a1), .val (.ref a2), .val (.int 0), .val (.ref a2), .val (.int 2), .val (.int 1), .val (.int x0)] [(.int 1), (.ref a2)])) rfl rfl (hb hby d4_139) _ k) ?_
    show Go _ _ _ (T14.setTop (mkF m 140 #[.val (.ref a1), .val (.ref a2), .val (.int 0), .val (.ref a2), .val (.int 2), .val (.int 1), .val (.int x0)] [(.int x1)])) _
    refine Go.st (fun t k => XS.istore X14.here hx rfl (hb hby d4_140) rfl (l' := #[.val (.ref a1), .val (.ref a2), .val (.int 0), .val (.ref a2), .val (.int 2), .val (.int 1), .val (.int x1)]) rfl k) ?_
    refine Go.st (fun t k => XS.iload X14.here hx rfl (hb hby d4_142) rfl k) ?_
    refine Go.st (fun t k => X14.ldcInt hx hown (mvT hZ (wd41 hw)) (g := (mkF m 144 #[.val (.ref a1), .val (.ref a2), .val (.int 0), .val (.ref a2), .val (.int 2), .val (.int 1), .val (.int x1)] [(.int x1)])) rfl (hb hby d4_144) _ k) ?_
    show Go _ _ _ (T14.setTop (mkF m 146 #[.val (.ref a1), .val (.ref a2), .val (.int 0), .val (.ref a2), .val (.int 2), .val (.int 1), .val (.int x1)] [(.int 2147483647), (.int x1)])) _
    by_cases hc25 : x1 = (2147483647 : Int32)
    · refine Go.st (fun t k => XS.icmpNo X14.here hx rfl (hb hby d4_146) rfl (teq hc25).2 k) ?_
      show Go _ _ _ (T14.setTop (mkF m 149 #[.val (.ref a1), .val (.ref a2), .val (.int 0), .val (.ref a2), .val (.int 2), .val (.int 1), .val (.int x1)] [])) _
      refine Go.st (fun t k => XS.aloadN X14.here hx rfl (hb hby d4_149) rfl rfl k) ?_
      refine Go.st (fun t k => XS.dup X14.here hx rfl (hb hby d4_150) rfl rfl k) ?_
      obtain ⟨T26, X26, e26, st26⟩ := getF X14 hx hZ hown (host := "") (Or.inl (wd54 hw)) Via.refl e14 F_a1_holdingAny (g := (mkF m 151 #[.val (.ref a1), .val (.ref a2), .val (.int 0), .val (.ref a2), .val (.int 2), .val (.int 1), .val (.int x1)] [(.ref a1), (.ref a1)])) rfl rfl (hb hby d4_151)
      refine Go.st st26 ?_
      show Go _ _ _ (T26.setTop (mkF m 154 #[.val (.ref a1), .val (.ref a2), .val (.int 0), .val (.ref a2), .val (.int 2), .val (.int 1), .val (.int x1)] [(.int hAny), (.ref a1)])) _
      refine Go.st (fun t k => XS.iconst X26.here hx rfl (hb hby d4_154) k) ?_
      refine Go.st (fun t k => XS.iadd X26.here hx rfl (hb hby d4_155) rfl k) ?_
      show Go _ _ _ (T26.setTop (mkF m 156 #[.val (.ref a1), .val (.ref a2), .val (.int 0), .val (.ref a2), .val (.int 2), .val (.int 1), .val (.int x1)] [(.int (hAny + (1 : Int32))), (.ref a1)])) _
      obtain ⟨T27, h27, X27, e27, W27, st27⟩ := putF X26 hx hZ hown (host := "") (Or.inl (wd54 hw)) Via.refl e26 F_a1_holdingAny E_a1 (Or.inl (wd55 hw)) (wd7 hw) (ty := .int) (by decide) rfl rfl (g := (mkF m 156 #[.val (.ref a1), .val (.ref a2), .val (.int 0), .val (.ref a2), .val (.int 2), .val (.int 1), .val (.int x1)] [(.int (hAny + (1 : Int32))), (.ref a1)])) rfl rfl (hb hby d4_156)
      refine Go.st st27 ?_
      have N27 := Fr.snoc X27 N14 g_a1
      replace E_a1 := E_a1.wr W27
      replace V_NI := V_NI.other W27 ne_w_NI_a1
      replace F_a1_arity := F_a1_arity.other W27 (Or.inr (slot_ne (Or.inr (wd20 hw)) (Or.inl (wd55 hw)) (by decide) (t := .int) (t' := .int) (by decide) (by decide)))
      replace F_a1_values := F_a1_values.other W27 (Or.inr (slot_ne (Or.inl (wd22 hw)) (Or.inl (wd55 hw)) (by decide) (t := (.array .int)) (t' := .int) (by decide) (by decide)))
      replace F_a1_size := F_a1_size.other W27 (Or.inr (slot_ne (Or.inl (wd36 hw)) (Or.inl (wd55 hw)) (by decide) (t := .int) (t' := .int) (by decide) (by decide)))
      replace F_a1_members := F_a1_members.other W27 (Or.inr (slot_ne (Or.inl (wd29 hw)) (Or.inl (wd55 hw)) (by decide) (t := (.object "com/example/bitlattice/bitlattice/eval/Relation$Index")) (t' := .int) (by decide) (by decide)))
      replace F_a1_indexes := F_a1_indexes.other W27 (Or.inr (slot_ne (Or.inl (wd18 hw)) (Or.inl (wd55 hw)) (by decide) (t := (.array (.object "com/example/bitlattice/bitlattice/eval/Relation$Index"))) (t' := .int) (by decide) (by decide)))
      replace F_a1_holdingAny := F_a1_holdingAny.same W27
      replace V_row := V_row.other W27 ne_a2_a1
      replace V_vals := V_vals.other W27 ne_vals_a1
      replace Z0 := Nat.le_trans Z0 (Nat.le_of_eq W27.size.symm)
      replace K0 := K0.wr W27 (Or.inl (by simp))
      show Go _ _ _ (T27.setTop (mkF m 159 #[.val (.ref a1), .val (.ref a2), .val (.int 0), .val (.ref a2), .val (.int 2), .val (.int 1), .val (.int x1)] [])) _
      refine Go.st (fun t k => XS.goto X27.here hx rfl (pc0 := 159) (pc' := 168) rfl (hb hby d4_159) (by decide) (by decide) k) ?_
      refine Go.st (fun t k => XS.aloadN X27.here hx rfl (hb hby d4_168) rfl rfl k) ?_
      obtain ⟨T28, X28, e28, st28⟩ := getF X27 hx hZ hown (host := "") (Or.inl (wd28 hw)) Via.refl e27 F_a1_members (g := (mkF m 169 #[.val (.ref a1), .val (.ref a2), .val (.int 0), .val (.ref a2), .val (.int 2), .val (.int 1), .val (.int x1)] [(.ref a1)])) rfl rfl (hb hby d4_169)
      refine Go.st st28 ?_
      show Go _ _ _ (T28.setTop (mkF m 172 #[.val (.ref a1), .val (.ref a2), .val (.int 0), .val (.ref a2), .val (.int 2), .val (.int 1), .val (.int x1)] [.null])) _
      refine Go.st (fun t k => XS.ifnonnullNo X28.here hx rfl (hb hby d4_172) rfl k) ?_
      show Go _ _ _ (T28.setTop (mkF m 175 #[.val (.ref a1), .val (.ref a2), .val (.int 0), .val (.ref a2), .val (.int 2), .val (.int 1), .val (.int x1)] [])) _
      refine Go.st (fun t k => XS.aloadN X28.here hx rfl (hb hby d4_175) rfl rfl k) ?_
      obtain ⟨T29, X29, e29, st29⟩ := getF X28 hx hZ hown (host := "") (Or.inl (wd35 hw)) Via.refl e28 F_a1_size (g := (mkF m 176 #[.val (.ref a1), .val (.ref a2), .val (.int 0), .val (.ref a2), .val (.int 2), .val (.int 1), .val (.int x1)] [(.ref a1)])) rfl rfl (hb hby d4_176)
      refine Go.st st29 ?_
      show Go _ _ _ (T29.setTop (mkF m 179 #[.val (.ref a1), .val (.ref a2), .val (.int 0), .val (.ref a2), .val (.int 2), .val (.int 1), .val (.int x1)] [(.int 1)])) _
      refine Go.st (fun t k => XS.bipush X29.here hx rfl (hb hby d4_179) k) ?_
      refine Go.st (fun t k => XS.icmpYes X29.here hx rfl (pc0 := 181) (pc' := 207) rfl (hb hby d4_181) rfl (flt (by decide : ¬ ((8 : Int32) < (1 : Int32)))).2.2.2 (by decide) (by decide) k) ?_
      show Go _ _ _ (T29.setTop (mkF m 207 #[.val (.ref a1), .val (.ref a2), .val (.int 0), .val (.ref a2), .val (.int 2), .val (.int 1), .val (.int x1)] [])) _
      refine Go.st (fun t k => XS.aloadN X29.here hx rfl (hb hby d4_207) rfl rfl k) ?_
      obtain ⟨T30, X30, e30, st30⟩ := getF X29 hx hZ hown (host := "") (Or.inl (wd17 hw)) Via.refl e29 F_a1_indexes (g := (mkF m 208 #[.val (.ref a1), .val (.ref a2), .val (.int 0), .val (.ref a2), .val (.int 2), .val (.int 1), .val (.int x1)] [(.ref a1)])) rfl rfl (hb hby d4_208)
      refine Go.st st30 ?_
      show Go _ _ _ (T30.setTop (mkF m 211 #[.val (.ref a1), .val (.ref a2), .val (.int 0), .val (.ref a2), .val (.int 2), .val (.int 1), .val (.int x1)] [(.ref w_NI)])) _
      refine Go.st (fun t k => XS.astoreN X30.here hx rfl (hb hby d4_211) rfl rfl (l' := #[.val (.ref a1), .val (.ref a2), .val (.int 0), .val (.ref w_NI), .val (.int 2), .val (.int 1), .val (.int x1)]) rfl k) ?_
      refine Go.st (fun t k => XS.aloadN X30.here hx rfl (hb hby d4_212) rfl rfl k) ?_
      obtain ⟨cl31, Ar31, -, Sz31, Ng31, -, -⟩ := id V_NI
      refine Go.st (fun t k => X30.arraylength hx (by rw [e30]; exact Ar31.1) (State.isArrayOf_alike hZ.alike Ar31.2.1) (g := (mkF m 213 #[.val (.ref a1), .val (.ref a2), .val (.int 0), .val (.ref w_NI), .val (.int 2), .val (.int 1), .val (.int x1)] [(.ref w_NI)])) rfl rfl (hb hby d4_213) _ k) ?_
      rw [len_of Sz31 Ng31]
      show Go _ _ _ (T30.setTop (mkF m 214 #[.val (.ref a1), .val (.ref a2), .val (.int 0), .val (.ref w_NI), .val (.int 2), .val (.int 1), .val (.int x1)] [(.int 0)])) _
      refine Go.st (fun t k => XS.istore X30.here hx rfl (hb hby d4_214) rfl (l' := #[.val (.ref a1), .val (.ref a2), .val (.int 0), .val (.ref w_NI), .val (.int 0), .val (.int 1), .val (.int x1)]) rfl k) ?_
      refine Go.st (fun t k => XS.iconst X30.here hx rfl (hb hby d4_216) k) ?_
      refine Go.st (fun t k => XS.istore X30.here hx rfl (hb hby d4_217) rfl (l' := #[.val (.ref a1), .val (.ref a2), .val (.int 0), .val (.ref w_NI), .val (.int 0), .val (.int 0), .val (.int x1)]) rfl k) ?_
      refine Go.st (fun t k => XS.iload X30.here hx rfl (hb hby d4_219) rfl k) ?_
      refine Go.st (fun t k => XS.iload X30.here hx rfl (hb hby d4_221) rfl k) ?_
      refine Go.st (fun t k => XS.icmpYes X30.here hx rfl (pc0 := 223) (pc' := 244) rfl (hb hby d4_223) rfl (flt (by decide : ¬ ((0 : Int32) < (0 : Int32)))).2.1 (by decide) (by decide) k) ?_
      show Go _ _ _ (T30.setTop (mkF m 244 #[.val (.ref a1), .val (.ref a2), .val (.int 0), .val (.ref w_NI), .val (.int 0), .val (.int 0), .val (.int x1)] [])) _
      refine Go.st (fun t k => XS.iconst X30.here hx rfl (hb hby d4_244) k) ?_
      obtain ⟨fs, hr, hrun, hended, hW, hsame⟩ := X30.leave (v := some (.int (1 : Int32))) (fun h => by rw [Bd.returns] at h; cases h)
      refine Go.fin (retN X30 hx (t := .boolean) Bd.returns (by simp) (hb hby d4_245) hr) hrun hended ⟨_, _, rfl, ?_, ⟨_, rfl⟩, hW, hsame.mono (by decide) (by decide)⟩
      show Q4_2_0 Z a1 a2 vals w_NI k_NI hAny k_v v0 v1 v2 v3 v4 v5 v6 v7 k_x x0 x1 h0 n0 _ T30.heap _
      rw [e30]
      exact ⟨(hAny + (1 : Int32)), rfl, N27, K0, E_a1, F_a1_arity, F_a1_values, F_a1_size, F_a1_members, F_a1_indexes, F_a1_holdingAny, V_vals⟩
    · refine Go.st (fun t k => XS.icmpYes X14.here hx rfl (pc0 := 146) (pc' := 162) rfl (hb hby d4_146) rfl (feq hc25).2 (by decide) (by decide) k) ?_
      show Go _ _ _ (T14.setTop (mkF m 162 #[.val (.ref a1), .val (.ref a2), .val (.int 0), .val (.ref a2), .val (.int 2), .val (.int 1), .val (.int x1)] [])) _
      refine Go.st (fun t k => XS.iinc X14.here hx rfl (hb hby d4_162) rfl (l' := #[.val (.ref a1), .val (.ref a2), .val (.int (0 : Int32)), .val (.ref a2), .val (.int (2 : Int32)), .val (.int ((1 : Int32) + (1 : Int32))), .val (.int x1)]) rfl k) ?_
      show Go _ _ _ (T14.setTop (mkF m 165 #[.val (.ref a1), .val (.ref a2), .val (.int 0), .val (.ref a2), .val (.int 2), .val (.int 2), .val (.int x1)] [])) _
      refine Go.st (fun t k => XS.goto X14.here hx rfl (pc0 := 165) (pc' := 129) rfl (hb hby d4_165) (by decide) (by decide) k) ?_
      refine Go.st (fun t k => XS.iload X14.here hx rfl (hb hby d4_129) rfl k) ?_
      refine Go.st (fun t k => XS.iload X14.here hx rfl (hb hby d4_131) rfl k) ?_
      refine Go.st (fun t k => XS.icmpYes X14.here hx rfl (pc0 := 133) (pc' := 168) rfl (hb hby d4_133) rfl (flt (by decide : ¬ ((2 : Int32) < (2 : Int32)))).2.1 (by decide) (by decide) k) ?_
      show Go _ _ _ (T14.setTop (mkF m 168 #[.val (.ref a1), .val (.ref a2), .val (.int 0), .val (.ref a2), .val (.int 2), .val (.int 2), .val (.int x1)] [])) _
      refine Go.st (fun t k => XS.aloadN X14.here hx rfl (hb hby d4_168) rfl rfl k) ?_
      obtain ⟨T32, X32, e32, st32⟩ := getF X14 hx hZ hown (host := "") (Or.inl (wd28 hw)) Via.refl e14 F_a1_members (g := (mkF m 169 #[.val (.ref a1), .val (.ref a2), .val (.int 0), .val (.ref a2), .val (.int 2), .val (.int 2), .val (.int x1)] [(.ref a1)])) rfl rfl (hb hby d4_169)
      refine Go.st st32 ?_
      show Go _ _ _ (T32.setTop (mkF m 172 #[.val (.ref a1), .val (.ref a2), .val (.int 0), .val (.ref a2), .val (.int 2), .val (.int 2), .val (.int x1)] [.null])) _
      refine Go.st (fun t k => XS.ifnonnullNo X32.here hx rfl (hb hby d4_172) rfl k) ?_
      show Go _ _ _ (T32.setTop (mkF m 175 #[.val (.ref a1), .val (.ref a2), .val (.int 0), .val (.ref a2), .val (.int 2), .val (.int 2), .val (.int x1)] [])) _
      refine Go.st (fun t k => XS.aloadN X32.here hx rfl (hb hby d4_175) rfl rfl k) ?_
      obtain ⟨T33, X33, e33, st33⟩ := getF X32 hx hZ hown (host := "") (Or.inl (wd35 hw)) Via.refl e32 F_a1_size (g := (mkF m 176 #[.val (.ref a1), .val (.ref a2), .val (.int 0), .val (.ref a2), .val (.int 2), .val (.int 2), .val (.int x1)] [(.ref a1)])) rfl rfl (hb hby d4_176)
      refine Go.st st33 ?_
      show Go _ _ _ (T33.setTop (mkF m 179 #[.val (.ref a1), .val (.ref a2), .val (.int 0), .val (.ref a2), .val (.int 2), .val (.int 2), .val (.int x1)] [(.int 1)])) _
      refine Go.st (fun t k => XS.bipush X33.here hx rfl (hb hby d4_179) k) ?_
      refine Go.st (fun t k => XS.icmpYes X33.here hx rfl (pc0 := 181) (pc' := 207) rfl (hb hby d4_181) rfl (flt (by decide : ¬ ((8 : Int32) < (1 : Int32)))).2.2.2 (by decide) (by decide) k) ?_
      show Go _ _ _ (T33.setTop (mkF m 207 #[.val (.ref a1), .val (.ref a2), .val (.int 0), .val (.ref a2), .val (.int 2), .val (.int 2), .val (.int x1)] [])) _
      refine Go.st (fun t k => XS.aloadN X33.here hx rfl (hb hby d4_207) rfl rfl k) ?_
      obtain ⟨T34, X34, e34, st34⟩ := getF X33 hx hZ hown (host := "") (Or.inl (wd17 hw)) Via.refl e33 F_a1_indexes (g := (mkF m 208 #[.val (.ref a1), .val (.ref a2), .val (.int 0), .val (.ref a2), .val (.int 2), .val (.int 2), .val (.int x1)] [(.ref a1)])) rfl rfl (hb hby d4_208)
      refine Go.st st34 ?_
      show Go _ _ _ (T34.setTop (mkF m 211 #[.val (.ref a1), .val (.ref a2), .val (.int 0), .val (.ref a2), .val (.int 2), .val (.int 2), .val (.int x1)] [(.ref w_NI)])) _
      refine Go.st (fun t k => XS.astoreN X34.here hx rfl (hb hby d4_211) rfl rfl (l' := #[.val (.ref a1), .val (.ref a2), .val (.int 0), .val (.ref w_NI), .val (.int 2), .val (.int 2), .val (.int x1)]) rfl k) ?_
      refine Go.st (fun t k => XS.aloadN X34.here hx rfl (hb hby d4_212) rfl rfl k) ?_
      obtain ⟨cl35, Ar35, -, Sz35, Ng35, -, -⟩ := id V_NI
      refine Go.st (fun t k => X34.arraylength hx (by rw [e34]; exact Ar35.1) (State.isArrayOf_alike hZ.alike Ar35.2.1) (g := (mkF m 213 #[.val (.ref a1), .val (.ref a2), .val (.int 0), .val (.ref w_NI), .val (.int 2), .val (.int 2), .val (.int x1)] [(.ref w_NI)])) rfl rfl (hb hby d4_213) _ k) ?_
      rw [len_of Sz35 Ng35]
      show Go _ _ _ (T34.setTop (mkF m 214 #[.val (.ref a1), .val (.ref a2), .val (.int 0), .val (.ref w_NI), .val (.int 2), .val (.int 2), .val (.int x1)] [(.int 0)])) _
      refine Go.st (fun t k => XS.istore X34.here hx rfl (hb hby d4_214) rfl (l' := #[.val (.ref a1), .val (.ref a2), .val (.int 0), .val (.ref w_NI), .val (.int 0), .val (.int 2), .val (.int x1)]) rfl k) ?_
      refine Go.st (fun t k => XS.iconst X34.here hx rfl (hb hby d4_216) k) ?_
      refine Go.st (fun t k => XS.istore X34.here hx rfl (hb hby d4_217) rfl (l' := #[.val (.ref a1), .val (.ref a2), .val (.int 0), .val (.ref w_NI), .val (.int 0), .val (.int 0), .val (.int x1)]) rfl k) ?_
      refine Go.st (fun t k => XS.iload X34.here hx rfl (hb hby d4_219) rfl k) ?_
      refine Go.st (fun t k => XS.iload X34.here hx rfl (hb hby d4_221) rfl k) ?_
      refine Go.st (fun t k => XS.icmpYes X34.here hx rfl (pc0 := 223) (pc' := 244) rfl (hb hby d4_223) rfl (flt (by decide : ¬ ((0 : Int32) < (0 : Int32)))).2.1 (by decide) (by decide) k) ?_
      show Go _ _ _ (T34.setTop (mkF m 244 #[.val (.ref a1), .val (.ref a2), .val (.int 0), .val (.ref w_NI), .val (.int 0), .val (.int 0), .val (.int x1)] [])) _
      refine Go.st (fun t k => XS.iconst X34.here hx rfl (hb hby d4_244) k) ?_
      obtain ⟨fs, hr, hrun, hended, hW, hsame⟩ := X34.leave (v := some (.int (1 : Int32))) (fun h => by rw [Bd.returns] at h; cases h)
      refine Go.fin (retN X34 hx (t := .boolean) Bd.returns (by simp) (hb hby d4_245) hr) hrun hended ⟨_, _, rfl, ?_, ⟨_, rfl⟩, hW, hsame.mono (by decide) (by decide)⟩
      show Q4_2_0 Z a1 a2 vals w_NI k_NI hAny k_v v0 v1 v2 v3 v4 v5 v6 v7 k_x x0 x1 h0 n0 _ T34.heap _
      rw [e34]
      exact ⟨hAny, rfl, N14, K0, E_a1, F_a1_arity, F_a1_values, F_a1_size, F_a1_members, F_a1_indexes, F_a1_holdingAny, V_vals⟩
def f5_2_1 (v0 : Int32) (v1 : Int32) (x0 : Int32) (x1 : Int32) : Int32 := (if (f6_2 v0 v1 x0 x1) = (0 : Int32) then (0 : Int32) else (1 : Int32))
def Q5_2_1 (Z : State) (a1 : Addr) (a2 : Addr) (vals : Addr) (w_NI : Addr) (k_NI : ClassId) (hAny : Int32) (k_v : ClassId) (v0 : Int32) (v1 : Int32) (v2 : Int32) (v3 : Int32) (v4 : Int32) (v5 : Int32) (v6 : Int32) (v7 : Int32) (k_x : ClassId) (x0 : Int32) (x1 : Int32) (h0 : Heap) (n0 : Nat) (v : Option Value) (h : Heap) (L : List Loc) : Prop := v = some (.int (f5_2_1 v0 v1 x0 x1)) ∧ Fr n0 L ∧ h = h0
theorem ef5_2_1 (m : MethodId) (x0 : Addr) (x1 : Addr) : entryFrame m #[(.ref x0), (.ref x1)] 3 = mkF m 0 #[.val (.ref x0), .val (.ref x1), .unset] [] := by first | (simp [entryFrame, mkF, argsToLocals, Value.category]; done) | rfl
set_option maxRecDepth 65536 in
set_option maxHeartbeats 16000000 in
theorem rm5_2_1 (l : Launch) (Z : State) (a0 : Array Value) (hw : ∀ d ∈ tables_1, d.before a0 Z = true) (ws : List Jvm.Cond) (a1 : Addr) (a2 : Addr) (vals : Addr) (w_NI : Addr) (k_NI : ClassId) (hAny : Int32) (k_v : ClassId) (v0 : Int32) (v1 : Int32) (v2 : Int32) (v3 : Int32) (v4 : Int32) (v5 : Int32) (v6 : Int32) (v7 : Int32) (k_x : ClassId) (x0 : Int32) (x1 : Int32) (h0 : Heap) (n0 : Nat) (Z0 : n0 ≤ h0.size) (E_a1 : Exa Z h0 a1 "com/example/bitlattice/bitlattice/eval/Relation") (V_NI : Arv Z h0 w_NI k_NI (.object "com/example/bitlattice/bitlattice/eval/Relation$Index") (0 : Int32) [] .null) (F_a1_arity : Fld Z h0 a1 "com/example/bitlattice/bitlattice/eval/Relation" "arity" "I" (.int (2 : Int32))) (F_a1_values : Fld Z h0 a1 "com/example/bitlattice/bitlattice/eval/Relation" "values" "[I" (.ref vals)) (F_a1_size : Fld Z h0 a1 "com/example/bitlattice/bitlattice/eval/Relation" "size" "I" (.int (1 : Int32))) (F_a1_members : Fld Z h0 a1 "com/example/bitlattice/bitlattice/eval/Relation" "members" "Lcom/example/bitlattice/bitlattice/eval/Relation$Index;" .null) (F_a1_indexes : Fld Z h0 a1 "com/example/bitlattice/bitlattice/eval/Relation" "indexes" "[Lcom/example/bitlattice/bitlattice/eval/Relation$Index;" (.ref w_NI)) (F_a1_holdingAny : Fld Z h0 a1 "com/example/bitlattice/bitlattice/eval/Relation" "holdingAny" "I" (.int hAny)) (V_vals : Arv Z h0 vals k_v .int (8 : Int32) [(.int v0), (.int v1), (.int v2), (.int v3), (.int v4), (.int v5), (.int v6), (.int v7)] (.int (0 : Int32))) (V_row : Arv Z h0 a2 k_x .int (2 : Int32) [(.int x0), (.int x1)] (.int (0 : Int32))) (ne_vals_a1 : vals ≠ a1) (ne_a2_a1 : a2 ≠ a1) (ne_vals_a2 : vals ≠ a2) (ne_w_NI_a1 : w_NI ≠ a1) (ne_w_NI_vals : w_NI ≠ vals) (ne_w_NI_a2 : w_NI ≠ a2) :
    MetFree l (⟨"com/example/bitlattice/bitlattice/eval/Relation", "contains", "([I)Z"⟩ : MethodName) (head1 (Jvm.Cond.code (⟨"com/example/bitlattice/bitlattice/eval/Relation", "contains", "([I)Z"⟩ : MethodName) prog_33_method_15_code 3 (some .boolean) :: ws) ({ frames := 1, cells := 0, slots := 0, locals := 15 } : Room)) (fun a U => a = #[(.ref a1), (.ref a2)] ∧ Z.Warmed39 U.vm ∧ U.heap = h0) (fun _ _ _ _ _ => True) (fun _ U o U' => ∃ v L, o = .returned v ∧ Q5_2_1 Z a1 a2 vals w_NI k_NI hAny k_v v0 v1 v2 v3 v4 v5 v6 v7 k_x x0 x1 h0 n0 v U'.heap L ∧ FrameEnd U o U' L ({ frames := 1, cells := 0, slots := 0, locals := 15 } : Room).cells ({ frames := 1, cells := 0, slots := 0, locals := 15 } : Room).slots) := by
  refine MetFree.of_bodySF (plainFor_of_name pn1) hisR ?_
  intro p e s m args below meth c s₁ Bd hml0 hP hK
  obtain ⟨rfl, hZ, hh⟩ := hP
  have hx := Bd.exec
  have hby := Bd.bytes
  have hml : c.maxLocals = 3 := hml0
  have hown : s.vm.findClass "com/example/bitlattice/bitlattice/eval/Relation" = some m.cls := findClass_of_methodNamed Bd.named
  have hnm := (name_of_methodNamed Bd.named Bd.method).1
  have X0 : Stand p l e ({ frames := 1, cells := 0, slots := 0, locals := 15 } : Room) s m #[(.ref a1), (.ref a2)] below meth c s₁ [] 0 0 := Stand.of_body Bd
  have e0 : s₁.heap = h0 := by rw [← hh, Bd.state]; rfl
  have N0 := Fr.nil n0
  have K0 : Keep h0 h0 [] := Keep.refl h0 _
  refine Go.st (P := fun o U' => ∃ v L, o = .returned v ∧ Q5_2_1 Z a1 a2 vals w_NI k_NI hAny k_v v0 v1 v2 v3 v4 v5 v6 v7 k_x x0 x1 h0 n0 v U'.heap L ∧ FrameEnd s o U' L ({ frames := 1, cells := 0, slots := 0, locals := 15 } : Room).cells ({ frames := 1, cells := 0, slots := 0, locals := 15 } : Room).slots) (fun t k => castTop (ef5_2_1 m a1 a2) k) ?_
  show Go _ _ _ (s₁.setTop (mkF m 0 #[.val (.ref a1), .val (.ref a2), .unset] [])) _
  refine Go.st (fun t k => XS.aloadN X0.here hx rfl (hb hby d5_0) rfl rfl k) ?_
  obtain ⟨T1, X1, e1, st1⟩ := getF X0 hx hZ hown (host := "") (Or.inl (wd28 hw)) Via.refl e0 F_a1_members (g := (mkF m 1 #[.val (.ref a1), .val (.ref a2), .unset] [(.ref a1)])) rfl rfl (hb hby d5_1)
  refine Go.st st1 ?_
  show Go _ _ _ (T1.setTop (mkF m 4 #[.val (.ref a1), .val (.ref a2), .unset] [.null])) _
  refine Go.st (fun t k => XS.ifnullYes X1.here hx rfl (pc0 := 4) (pc' := 24) rfl (hb hby d5_4) rfl (by decide) (by decide) k) ?_
  show Go _ _ _ (T1.setTop (mkF m 24 #[.val (.ref a1), .val (.ref a2), .unset] [])) _
  refine Go.st (fun t k => XS.iconst X1.here hx rfl (hb hby d5_24) k) ?_
  refine Go.st (fun t k => XS.istoreN X1.here hx rfl (hb hby d5_25) rfl (l' := #[.val (.ref a1), .val (.ref a2), .val (.int 0)]) rfl k) ?_
  refine Go.st (fun t k => XS.iloadN X1.here hx rfl (hb hby d5_26) rfl k) ?_
  refine Go.st (fun t k => XS.aloadN X1.here hx rfl (hb hby d5_27) rfl rfl k) ?_
  obtain ⟨T2, X2, e2, st2⟩ := getF X1 hx hZ hown (host := "") (Or.inl (wd35 hw)) Via.refl e1 F_a1_size (g := (mkF m 28 #[.val (.ref a1), .val (.ref a2), .val (.int 0)] [(.ref a1), (.int 0)])) rfl rfl (hb hby d5_28)
  refine Go.st st2 ?_
  show Go _ _ _ (T2.setTop (mkF m 31 #[.val (.ref a1), .val (.ref a2), .val (.int 0)] [(.int 1), (.int 0)])) _
  refine Go.st (fun t k => XS.icmpNo X2.here hx rfl (hb hby d5_31) rfl (tlt (by decide : (0 : Int32) < (1 : Int32))).2.1 k) ?_
  show Go _ _ _ (T2.setTop (mkF m 34 #[.val (.ref a1), .val (.ref a2), .val (.int 0)] [])) _
  refine Go.st (fun t k => XS.aloadN X2.here hx rfl (hb hby d5_34) rfl rfl k) ?_
  refine Go.st (fun t k => XS.iloadN X2.here hx rfl (hb hby d5_35) rfl k) ?_
  refine Go.st (fun t k => XS.aloadN X2.here hx rfl (hb hby d5_36) rfl rfl k) ?_
  obtain ⟨cq3, qq3, qq3'⟩ := E_a1.cell
  obtain ⟨_, _, ⟨T3, L3, k3, n3⟩, -, X3, ⟨Lc3, hQ3, l3, y3, z3⟩, st3⟩ := X2.privateBack hx (y := (⟨"com/example/bitlattice/bitlattice/eval/Relation", "rowIs", "(I[I)Z"⟩ : MethodName)) hown (mvT hZ (wd42 hw)) (mvT hZ (wd43 hw)) (own_selp (mvT hZ (wd7 hw)) (Cond.privateMethod_at (mvP hZ (wd44 hw) (args := #[]))) (mvT hZ (wd43 hw)) (by decide)) (Cond.privateMethod_at (mvP hZ (wd44 hw) (args := #[]))) (mvT hZ (wd45 hw)) (by decide) (backOf (W := 0) (rm6_2 l Z a0 hw [] a1 a2 vals w_NI k_NI hAny k_v v0 v1 v2 v3 v4 v5 v6 v7 k_x x0 x1 h0 n0 Z0 E_a1 V_NI F_a1_arity F_a1_values F_a1_size F_a1_members F_a1_indexes F_a1_holdingAny V_vals V_row ne_vals_a1 ne_a2_a1 ne_vals_a2 ne_w_NI_a1 ne_w_NI_vals ne_w_NI_a2) hZ (wd45 hw) (wd8 hw) (by decide) (by decide)) (g := (mkF m 37 #[.val (.ref a1), .val (.ref a2), .val (.int 0)] [(.ref a2), (.int 0), (.ref a1)])) rfl (by rw [hml]; rfl) (Steps.refl _) (a := a1) (by rw [e2]; exact qq3) qq3' (argsL := [(.int (0 : Int32)), (.ref a2)]) (rest := []) (lenOf pd1 rfl) rfl (by show 2 * 0 + _ ≤ _; exact Nat.le_of_eq rfl) (hb hby d5_37) (fun _ _ => ⟨rfl, e2, (by decide : 0 + 0 ≤ _), (by decide : 0 + 0 ≤ _)⟩)
  dsimp only [Pt.U, Pt.locs, Pt.cells, Pt.slots] at X3 l3 y3 z3 st3 hQ3
  subst l3 y3 z3
  refine Go.tr st3 ?_
  obtain ⟨rfl, N3q, e3⟩ := hQ3
  have N3 := Fr.app N0 N3q
  show Go _ _ _ (T3.setTop (mkF m 40 #[.val (.ref a1), .val (.ref a2), .val (.int 0)] [(.int (f6_2 v0 v1 x0 x1))])) _
  by_cases hc4 : (f6_2 v0 v1 x0 x1) = (0 : Int32)
  · refine Go.st (fun t k => XS.ifYes X3.here hx rfl (pc0 := 40) (pc' := 45) rfl (hb hby d5_40) rfl ((if0 _ _).trans (teq hc4).1) (by decide) (by decide) k) ?_
    show Go _ _ _ (T3.setTop (mkF m 45 #[.val (.ref a1), .val (.ref a2), .val (.int 0)] [])) _
    refine Go.st (fun t k => XS.iinc X3.here hx rfl (hb hby d5_45) rfl (l' := #[.val (.ref a1), .val (.ref a2), .val (.int ((0 : Int32) + (1 : Int32)))]) rfl k) ?_
    show Go _ _ _ (T3.setTop (mkF m 48 #[.val (.ref a1), .val (.ref a2), .val (.int 1)] [])) _
    refine Go.st (fun t k => XS.goto X3.here hx rfl (pc0 := 48) (pc' := 26) rfl (hb hby d5_48) (by decide) (by decide) k) ?_
    refine Go.st (fun t k => XS.iloadN X3.here hx rfl (hb hby d5_26) rfl k) ?_
    refine Go.st (fun t k => XS.aloadN X3.here hx rfl (hb hby d5_27) rfl rfl k) ?_
    obtain ⟨T5, X5, e5, st5⟩ := getF X3 hx hZ hown (host := "") (Or.inl (wd35 hw)) Via.refl e3 F_a1_size (g := (mkF m 28 #[.val (.ref a1), .val (.ref a2), .val (.int 1)] [(.ref a1), (.int 1)])) rfl rfl (hb hby d5_28)
    refine Go.st st5 ?_
    show Go _ _ _ (T5.setTop (mkF m 31 #[.val (.ref a1), .val (.ref a2), .val (.int 1)] [(.int 1), (.int 1)])) _
    refine Go.st (fun t k => XS.icmpYes X5.here hx rfl (pc0 := 31) (pc' := 51) rfl (hb hby d5_31) rfl (flt (by decide : ¬ ((1 : Int32) < (1 : Int32)))).2.1 (by decide) (by decide) k) ?_
    show Go _ _ _ (T5.setTop (mkF m 51 #[.val (.ref a1), .val (.ref a2), .val (.int 1)] [])) _
    refine Go.st (fun t k => XS.iconst X5.here hx rfl (hb hby d5_51) k) ?_
    obtain ⟨fs, hr, hrun, hended, hW, hsame⟩ := X5.leave (v := some (.int (0 : Int32))) (fun h => by rw [Bd.returns] at h; cases h)
    refine Go.fin (retN X5 hx (t := .boolean) Bd.returns (by simp) (hb hby d5_52) hr) hrun hended ⟨_, _, rfl, ?_, ⟨_, rfl⟩, hW, hsame.mono (by decide) (by decide)⟩
    show Q5_2_1 Z a1 a2 vals w_NI k_NI hAny k_v v0 v1 v2 v3 v4 v5 v6 v7 k_x x0 x1 h0 n0 _ T5.heap _
    rw [e5]
    exact ⟨(by unfold f5_2_1; simp only [if_pos hc4]), N3, rfl⟩
  · refine Go.st (fun t k => XS.ifNo X3.here hx rfl (hb hby d5_40) rfl ((if0 _ _).trans (feq hc4).1) k) ?_
    show Go _ _ _ (T3.setTop (mkF m 43 #[.val (.ref a1), .val (.ref a2), .val (.int 0)] [])) _
    refine Go.st (fun t k => XS.iconst X3.here hx rfl (hb hby d5_43) k) ?_
    obtain ⟨fs, hr, hrun, hended, hW, hsame⟩ := X3.leave (v := some (.int (1 : Int32))) (fun h => by rw [Bd.returns] at h; cases h)
    refine Go.fin (retN X3 hx (t := .boolean) Bd.returns (by simp) (hb hby d5_44) hr) hrun hended ⟨_, _, rfl, ?_, ⟨_, rfl⟩, hW, hsame.mono (by decide) (by decide)⟩
    show Q5_2_1 Z a1 a2 vals w_NI k_NI hAny k_v v0 v1 v2 v3 v4 v5 v6 v7 k_x x0 x1 h0 n0 _ T3.heap _
    rw [e3]
    exact ⟨(by unfold f5_2_1; simp only [if_neg hc4]), N3, rfl⟩
def f4_2_1 (v0 : Int32) (v1 : Int32) (x0 : Int32) (x1 : Int32) : Int32 := (if (f5_2_1 v0 v1 x0 x1) = (0 : Int32) then (1 : Int32) else (0 : Int32))
def f4_2_1_a1_size (v0 : Int32) (v1 : Int32) (x0 : Int32) (x1 : Int32) : Int32 := (if (f5_2_1 v0 v1 x0 x1) = (0 : Int32) then (2 : Int32) else (1 : Int32))
def f4_2_1_vals_2 (v0 : Int32) (v1 : Int32) (v2 : Int32) (x0 : Int32) (x1 : Int32) : Int32 := (if (f5_2_1 v0 v1 x0 x1) = (0 : Int32) then x0 else v2)
def f4_2_1_vals_3 (v0 : Int32) (v1 : Int32) (v3 : Int32) (x0 : Int32) (x1 : Int32) : Int32 := (if (f5_2_1 v0 v1 x0 x1) = (0 : Int32) then x1 else v3)
def Q4_2_1 (Z : State) (a1 : Addr) (a2 : Addr) (vals : Addr) (w_NI : Addr) (k_NI : ClassId) (hAny : Int32) (k_v : ClassId) (v0 : Int32) (v1 : Int32) (v2 : Int32) (v3 : Int32) (v4 : Int32) (v5 : Int32) (v6 : Int32) (v7 : Int32) (k_x : ClassId) (x0 : Int32) (x1 : Int32) (h0 : Heap) (n0 : Nat) (v : Option Value) (h : Heap) (L : List Loc) : Prop := ∃ z_4_2_1_holdingAny : Int32, v = some (.int (f4_2_1 v0 v1 x0 x1)) ∧ Fr n0 L ∧ Keep h0 h [vals, a1] ∧ Exa Z h a1 "com/example/bitlattice/bitlattice/eval/Relation" ∧ Fld Z h a1 "com/example/bitlattice/bitlattice/eval/Relation" "arity" "I" (.int (2 : Int32)) ∧ Fld Z h a1 "com/example/bitlattice/bitlattice/eval/Relation" "values" "[I" (.ref vals) ∧ Fld Z h a1 "com/example/bitlattice/bitlattice/eval/Relation" "size" "I" (.int (f4_2_1_a1_size v0 v1 x0 x1)) ∧ Fld Z h a1 "com/example/bitlattice/bitlattice/eval/Relation" "members" "Lcom/example/bitlattice/bitlattice/eval/Relation$Index;" .null ∧ Fld Z h a1 "com/example/bitlattice/bitlattice/eval/Relation" "indexes" "[Lcom/example/bitlattice/bitlattice/eval/Relation$Index;" (.ref w_NI) ∧ Fld Z h a1 "com/example/bitlattice/bitlattice/eval/Relation" "holdingAny" "I" (.int z_4_2_1_holdingAny) ∧ Arv Z h vals k_v .int (8 : Int32) [(.int v0), (.int v1), (.int (f4_2_1_vals_2 v0 v1 v2 x0 x1)), (.int (f4_2_1_vals_3 v0 v1 v3 x0 x1)), (.int v4), (.int v5), (.int v6), (.int v7)] (.int (0 : Int32))
theorem ef4_2_1 (m : MethodId) (x0 : Addr) (x1 : Addr) : entryFrame m #[(.ref x0), (.ref x1)] 7 = mkF m 0 #[.val (.ref x0), .val (.ref x1), .unset, .unset, .unset, .unset, .unset] [] := by first | (simp [entryFrame, mkF, argsToLocals, Value.category]; done) | rfl
set_option maxRecDepth 65536 in
set_option maxHeartbeats 16000000 in
theorem rm4_2_1 (l : Launch) (Z : State) (a0 : Array Value) (hw : ∀ d ∈ tables_1, d.before a0 Z = true) (ws : List Jvm.Cond) (a1 : Addr) (a2 : Addr) (vals : Addr) (w_NI : Addr) (k_NI : ClassId) (hAny : Int32) (k_v : ClassId) (v0 : Int32) (v1 : Int32) (v2 : Int32) (v3 : Int32) (v4 : Int32) (v5 : Int32) (v6 : Int32) (v7 : Int32) (k_x : ClassId) (x0 : Int32) (x1 : Int32) (h0 : Heap) (n0 : Nat) (Z0 : n0 ≤ h0.size) (E_a1 : Exa Z h0 a1 "com/example/bitlattice/bitlattice/eval/Relation") (V_NI : Arv Z h0 w_NI k_NI (.object "com/example/bitlattice/bitlattice/eval/Relation$Index") (0 : Int32) [] .null) (F_a1_arity : Fld Z h0 a1 "com/example/bitlattice/bitlattice/eval/Relation" "arity" "I" (.int (2 : Int32))) (F_a1_values : Fld Z h0 a1 "com/example/bitlattice/bitlattice/eval/Relation" "values" "[I" (.ref vals)) (F_a1_size : Fld Z h0 a1 "com/example/bitlattice/bitlattice/eval/Relation" "size" "I" (.int (1 : Int32))) (F_a1_members : Fld Z h0 a1 "com/example/bitlattice/bitlattice/eval/Relation" "members" "Lcom/example/bitlattice/bitlattice/eval/Relation$Index;" .null) (F_a1_indexes : Fld Z h0 a1 "com/example/bitlattice/bitlattice/eval/Relation" "indexes" "[Lcom/example/bitlattice/bitlattice/eval/Relation$Index;" (.ref w_NI)) (F_a1_holdingAny : Fld Z h0 a1 "com/example/bitlattice/bitlattice/eval/Relation" "holdingAny" "I" (.int hAny)) (V_vals : Arv Z h0 vals k_v .int (8 : Int32) [(.int v0), (.int v1), (.int v2), (.int v3), (.int v4), (.int v5), (.int v6), (.int v7)] (.int (0 : Int32))) (V_row : Arv Z h0 a2 k_x .int (2 : Int32) [(.int x0), (.int x1)] (.int (0 : Int32))) (ne_vals_a1 : vals ≠ a1) (ne_a2_a1 : a2 ≠ a1) (ne_vals_a2 : vals ≠ a2) (ne_w_NI_a1 : w_NI ≠ a1) (ne_w_NI_vals : w_NI ≠ vals) (ne_w_NI_a2 : w_NI ≠ a2) (g_vals : n0 ≤ vals) (g_a1 : n0 ≤ a1) :
    MetFree l (⟨"com/example/bitlattice/bitlattice/eval/Relation", "add", "([I)Z"⟩ : MethodName) (head1 (Jvm.Cond.code (⟨"com/example/bitlattice/bitlattice/eval/Relation", "add", "([I)Z"⟩ : MethodName) prog_33_method_14_code 7 (some .boolean) :: ws) ({ frames := 2, cells := 0, slots := 0, locals := 29 } : Room)) (fun a U => a = #[(.ref a1), (.ref a2)] ∧ Z.Warmed39 U.vm ∧ U.heap = h0) (fun _ _ _ _ _ => True) (fun _ U o U' => ∃ v L, o = .returned v ∧ Q4_2_1 Z a1 a2 vals w_NI k_NI hAny k_v v0 v1 v2 v3 v4 v5 v6 v7 k_x x0 x1 h0 n0 v U'.heap L ∧ FrameEnd U o U' L ({ frames := 2, cells := 0, slots := 0, locals := 29 } : Room).cells ({ frames := 2, cells := 0, slots := 0, locals := 29 } : Room).slots) := by
  refine MetFree.of_bodySF (plainFor_of_name pn1) hisR ?_
  intro p e s m args below meth c s₁ Bd hml0 hP hK
  obtain ⟨rfl, hZ, hh⟩ := hP
  have hx := Bd.exec
  have hby := Bd.bytes
  have hml : c.maxLocals = 7 := hml0
  have hown : s.vm.findClass "com/example/bitlattice/bitlattice/eval/Relation" = some m.cls := findClass_of_methodNamed Bd.named
  have hnm := (name_of_methodNamed Bd.named Bd.method).1
  have X0 : Stand p l e ({ frames := 2, cells := 0, slots := 0, locals := 29 } : Room) s m #[(.ref a1), (.ref a2)] below meth c s₁ [] 0 0 := Stand.of_body Bd
  have e0 : s₁.heap = h0 := by rw [← hh, Bd.state]; rfl
  have N0 := Fr.nil n0
  have K0 : Keep h0 h0 [vals, a1] := Keep.refl h0 _
  refine Go.st (P := fun o U' => ∃ v L, o = .returned v ∧ Q4_2_1 Z a1 a2 vals w_NI k_NI hAny k_v v0 v1 v2 v3 v4 v5 v6 v7 k_x x0 x1 h0 n0 v U'.heap L ∧ FrameEnd s o U' L ({ frames := 2, cells := 0, slots := 0, locals := 29 } : Room).cells ({ frames := 2, cells := 0, slots := 0, locals := 29 } : Room).slots) (fun t k => castTop (ef4_2_1 m a1 a2) k) ?_
  show Go _ _ _ (s₁.setTop (mkF m 0 #[.val (.ref a1), .val (.ref a2), .unset, .unset, .unset, .unset, .unset] [])) _
  refine Go.st (fun t k => XS.aloadN X0.here hx rfl (hb hby d4_0) rfl rfl k) ?_
  obtain ⟨T1, X1, e1, st1⟩ := getF X0 hx hZ hown (host := "") (Or.inl (wd28 hw)) Via.refl e0 F_a1_members (g := (mkF m 1 #[.val (.ref a1), .val (.ref a2), .unset, .unset, .unset, .unset, .unset] [(.ref a1)])) rfl rfl (hb hby d4_1)
  refine Go.st st1 ?_
  show Go _ _ _ (T1.setTop (mkF m 4 #[.val (.ref a1), .val (.ref a2), .unset, .unset, .unset, .unset, .unset] [.null])) _
  refine Go.st (fun t k => XS.ifnonnullNo X1.here hx rfl (hb hby d4_4) rfl k) ?_
  show Go _ _ _ (T1.setTop (mkF m 7 #[.val (.ref a1), .val (.ref a2), .unset, .unset, .unset, .unset, .unset] [])) _
  refine Go.st (fun t k => XS.aloadN X1.here hx rfl (hb hby d4_7) rfl rfl k) ?_
  refine Go.st (fun t k => XS.aloadN X1.here hx rfl (hb hby d4_8) rfl rfl k) ?_
  obtain ⟨cq2, kq2, q2a, q2b, q2c⟩ := isOf hZ e1 E_a1
  obtain ⟨_, _, ⟨T2, L2, k2, n2⟩, -, X2, ⟨Lc2, hQ2, l2, y2, z2⟩, st2⟩ := X1.virtualBack hx (y := (⟨"com/example/bitlattice/bitlattice/eval/Relation", "contains", "([I)Z"⟩ : MethodName)) (z := (⟨"com/example/bitlattice/bitlattice/eval/Relation", "contains", "([I)Z"⟩ : MethodName)) hown (mvT hZ (wd30 hw)) (mvT hZ (wd31 hw)) (notFace_of_selects (args := #[]) (mvT hZ (wd33 hw))) (mvT hZ (wd33 hw)) (mvT hZ (wd32 hw)) (by decide) (backOf (W := 0) (rm5_2_1 l Z a0 hw [] a1 a2 vals w_NI k_NI hAny k_v v0 v1 v2 v3 v4 v5 v6 v7 k_x x0 x1 h0 n0 Z0 E_a1 V_NI F_a1_arity F_a1_values F_a1_size F_a1_members F_a1_indexes F_a1_holdingAny V_vals V_row ne_vals_a1 ne_a2_a1 ne_vals_a2 ne_w_NI_a1 ne_w_NI_vals ne_w_NI_a2) hZ (wd34 hw) (wd8 hw) (by decide) (by decide)) q2a q2c (g := (mkF m 9 #[.val (.ref a1), .val (.ref a2), .unset, .unset, .unset, .unset, .unset] [(.ref a2), (.ref a1)])) rfl (by rw [hml]; rfl) (Steps.refl _) (argsL := [(.ref a2)]) (rest := []) (lenOf pd0 rfl) rfl (by show 2 * 0 + _ ≤ _; exact Nat.le_of_eq rfl) (hb hby d4_9) (fun _ _ => ⟨rfl, e1, (by decide : 0 + 0 ≤ _), (by decide : 0 + 0 ≤ _)⟩)
  dsimp only [Pt.U, Pt.locs, Pt.cells, Pt.slots] at X2 l2 y2 z2 st2 hQ2
  subst l2 y2 z2
  refine Go.tr st2 ?_
  obtain ⟨rfl, N2q, e2⟩ := hQ2
  have N2 := Fr.app N0 N2q
  show Go _ _ _ (T2.setTop (mkF m 12 #[.val (.ref a1), .val (.ref a2), .unset, .unset, .unset, .unset, .unset] [(.int (f5_2_1 v0 v1 x0 x1))])) _
  by_cases hc3 : (f5_2_1 v0 v1 x0 x1) = (0 : Int32)
  · refine Go.st (fun t k => XS.ifYes X2.here hx rfl (pc0 := 12) (pc' := 17) rfl (hb hby d4_12) rfl ((if0 _ _).trans (teq hc3).1) (by decide) (by decide) k) ?_
    show Go _ _ _ (T2.setTop (mkF m 17 #[.val (.ref a1), .val (.ref a2), .unset, .unset, .unset, .unset, .unset] [])) _
    refine Go.st (fun t k => XS.aloadN X2.here hx rfl (hb hby d4_17) rfl rfl k) ?_
    obtain ⟨T4, X4, e4, st4⟩ := getF X2 hx hZ hown (host := "") (Or.inl (wd35 hw)) Via.refl e2 F_a1_size (g := (mkF m 18 #[.val (.ref a1), .val (.ref a2), .unset, .unset, .unset, .unset, .unset] [(.ref a1)])) rfl rfl (hb hby d4_18)
    refine Go.st st4 ?_
    show Go _ _ _ (T4.setTop (mkF m 21 #[.val (.ref a1), .val (.ref a2), .unset, .unset, .unset, .unset, .unset] [(.int 1)])) _
    refine Go.st (fun t k => XS.iconst X4.here hx rfl (hb hby d4_21) k) ?_
    refine Go.st (fun t k => XS.iadd X4.here hx rfl (hb hby d4_22) rfl k) ?_
    show Go _ _ _ (T4.setTop (mkF m 23 #[.val (.ref a1), .val (.ref a2), .unset, .unset, .unset, .unset, .unset] [(.int 2)])) _
    refine Go.st (fun t k => XS.aloadN X4.here hx rfl (hb hby d4_23) rfl rfl k) ?_
    obtain ⟨T5, X5, e5, st5⟩ := getF X4 hx hZ hown (host := "") (Or.inl (wd19 hw)) Via.refl e4 F_a1_arity (g := (mkF m 24 #[.val (.ref a1), .val (.ref a2), .unset, .unset, .unset, .unset, .unset] [(.ref a1), (.int 2)])) rfl rfl (hb hby d4_24)
    refine Go.st st5 ?_
    show Go _ _ _ (T5.setTop (mkF m 27 #[.val (.ref a1), .val (.ref a2), .unset, .unset, .unset, .unset, .unset] [(.int 2), (.int 2)])) _
    refine Go.st (fun t k => XS.imul X5.here hx rfl (hb hby d4_27) rfl k) ?_
    show Go _ _ _ (T5.setTop (mkF m 28 #[.val (.ref a1), .val (.ref a2), .unset, .unset, .unset, .unset, .unset] [(.int 4)])) _
    refine Go.st (fun t k => XS.aloadN X5.here hx rfl (hb hby d4_28) rfl rfl k) ?_
    obtain ⟨T6, X6, e6, st6⟩ := getF X5 hx hZ hown (host := "") (Or.inl (wd21 hw)) Via.refl e5 F_a1_values (g := (mkF m 29 #[.val (.ref a1), .val (.ref a2), .unset, .unset, .unset, .unset, .unset] [(.ref a1), (.int 4)])) rfl rfl (hb hby d4_29)
    refine Go.st st6 ?_
    show Go _ _ _ (T6.setTop (mkF m 32 #[.val (.ref a1), .val (.ref a2), .unset, .unset, .unset, .unset, .unset] [(.ref vals), (.int 4)])) _
    obtain ⟨cl7, Ar7, -, Sz7, Ng7, -, -⟩ := id V_vals
    refine Go.st (fun t k => X6.arraylength hx (by rw [e6]; exact Ar7.1) (State.isArrayOf_alike hZ.alike Ar7.2.1) (g := (mkF m 32 #[.val (.ref a1), .val (.ref a2), .unset, .unset, .unset, .unset, .unset] [(.ref vals), (.int 4)])) rfl rfl (hb hby d4_32) _ k) ?_
    rw [len_of Sz7 Ng7]
    show Go _ _ _ (T6.setTop (mkF m 33 #[.val (.ref a1), .val (.ref a2), .unset, .unset, .unset, .unset, .unset] [(.int 8), (.int 4)])) _
    refine Go.st (fun t k => XS.icmpYes X6.here hx rfl (pc0 := 33) (pc' := 63) rfl (hb hby d4_33) rfl (flt (by decide : ¬ ((8 : Int32) < (4 : Int32)))).2.2.2 (by decide) (by decide) k) ?_
    show Go _ _ _ (T6.setTop (mkF m 63 #[.val (.ref a1), .val (.ref a2), .unset, .unset, .unset, .unset, .unset] [])) _
    refine Go.st (fun t k => XS.aloadN X6.here hx rfl (hb hby d4_63) rfl rfl k) ?_
    refine Go.st (fun t k => XS.iconst X6.here hx rfl (hb hby d4_64) k) ?_
    refine Go.st (fun t k => XS.aloadN X6.here hx rfl (hb hby d4_65) rfl rfl k) ?_
    obtain ⟨T8, X8, e8, st8⟩ := getF X6 hx hZ hown (host := "") (Or.inl (wd21 hw)) Via.refl e6 F_a1_values (g := (mkF m 66 #[.val (.ref a1), .val (.ref a2), .unset, .unset, .unset, .unset, .unset] [(.ref a1), (.int 0), (.ref a2)])) rfl rfl (hb hby d4_66)
    refine Go.st st8 ?_
    show Go _ _ _ (T8.setTop (mkF m 69 #[.val (.ref a1), .val (.ref a2), .unset, .unset, .unset, .unset, .unset] [(.ref vals), (.int 0), (.ref a2)])) _
    refine Go.st (fun t k => XS.aloadN X8.here hx rfl (hb hby d4_69) rfl rfl k) ?_
    obtain ⟨T9, X9, e9, st9⟩ := getF X8 hx hZ hown (host := "") (Or.inl (wd35 hw)) Via.refl e8 F_a1_size (g := (mkF m 70 #[.val (.ref a1), .val (.ref a2), .unset, .unset, .unset, .unset, .unset] [(.ref a1), (.ref vals), (.int 0), (.ref a2)])) rfl rfl (hb hby d4_70)
    refine Go.st st9 ?_
    show Go _ _ _ (T9.setTop (mkF m 73 #[.val (.ref a1), .val (.ref a2), .unset, .unset, .unset, .unset, .unset] [(.int 1), (.ref vals), (.int 0), (.ref a2)])) _
    refine Go.st (fun t k => XS.aloadN X9.here hx rfl (hb hby d4_73) rfl rfl k) ?_
    obtain ⟨T10, X10, e10, st10⟩ := getF X9 hx hZ hown (host := "") (Or.inl (wd19 hw)) Via.refl e9 F_a1_arity (g := (mkF m 74 #[.val (.ref a1), .val (.ref a2), .unset, .unset, .unset, .unset, .unset] [(.ref a1), (.int 1), (.ref vals), (.int 0), (.ref a2)])) rfl rfl (hb hby d4_74)
    refine Go.st st10 ?_
    show Go _ _ _ (T10.setTop (mkF m 77 #[.val (.ref a1), .val (.ref a2), .unset, .unset, .unset, .unset, .unset] [(.int 2), (.int 1), (.ref vals), (.int 0), (.ref a2)])) _
    refine Go.st (fun t k => XS.imul X10.here hx rfl (hb hby d4_77) rfl k) ?_
    show Go _ _ _ (T10.setTop (mkF m 78 #[.val (.ref a1), .val (.ref a2), .unset, .unset, .unset, .unset, .unset] [(.int 2), (.ref vals), (.int 0), (.ref a2)])) _
    refine Go.st (fun t k => XS.aloadN X10.here hx rfl (hb hby d4_78) rfl rfl k) ?_
    obtain ⟨T11, X11, e11, st11⟩ := getF X10 hx hZ hown (host := "") (Or.inl (wd19 hw)) Via.refl e10 F_a1_arity (g := (mkF m 79 #[.val (.ref a1), .val (.ref a2), .unset, .unset, .unset, .unset, .unset] [(.ref a1), (.int 2), (.ref vals), (.int 0), (.ref a2)])) rfl rfl (hb hby d4_79)
    refine Go.st st11 ?_
    show Go _ _ _ (T11.setTop (mkF m 82 #[.val (.ref a1), .val (.ref a2), .unset, .unset, .unset, .unset, .unset] [(.int 2), (.int 2), (.ref vals), (.int 0), (.ref a2)])) _
    have V_vals_pre := V_vals
    obtain ⟨T12, h12, L12, X12, e12, N12, K12, B12, st12⟩ := cpA X11 hx hZ hown (wd37 hw) (wd40 hw) (wd38 hw) (wd39 hw) e11 V_row V_vals (us := [(.int x0), (.int x1)]) (Or.inl ⟨rfl, rfl⟩) (sp := (0 : Int32)) (dp := (2 : Int32)) (nn := (2 : Int32)) (by decide) (by decide) (by decide) (by decide) (by decide) rfl (Nat.le_of_ble_eq_true rfl) N2 g_vals (g := (mkF m 82 #[.val (.ref a1), .val (.ref a2), .unset, .unset, .unset, .unset, .unset] [(.int 2), (.int 2), (.ref vals), (.int 0), (.ref a2)])) rfl (by rw [hml]; rfl) rfl (hb hby d4_82) (by decide) (W := 0) (by show 2 * 0 + _ ≤ _; exact Nat.le_of_eq rfl) (by decide)
    refine Go.st st12 ?_
    replace E_a1 := E_a1.keep K12
    replace V_NI := V_NI.keep K12 (ninS ne_w_NI_vals nin0)
    replace F_a1_arity := F_a1_arity.keep K12 (ninS (Ne.symm ne_vals_a1) nin0)
    replace F_a1_values := F_a1_values.keep K12 (ninS (Ne.symm ne_vals_a1) nin0)
    replace F_a1_size := F_a1_size.keep K12 (ninS (Ne.symm ne_vals_a1) nin0)
    replace F_a1_members := F_a1_members.keep K12 (ninS (Ne.symm ne_vals_a1) nin0)
    replace F_a1_indexes := F_a1_indexes.keep K12 (ninS (Ne.symm ne_vals_a1) nin0)
    replace F_a1_holdingAny := F_a1_holdingAny.keep K12 (ninS (Ne.symm ne_vals_a1) nin0)
    replace V_row := V_row.keep K12 (ninS (Ne.symm ne_vals_a2) nin0)
    replace Z0 := Nat.le_trans Z0 K12.1
    replace K0 := K0.trans K12 (allS (Or.inl (by simp)) all0)
    have V_vals : Arv Z h12 vals k_v .int (8 : Int32) [(.int v0), (.int v1), (.int x0), (.int x1), (.int v4), (.int v5), (.int v6), (.int v7)] (.int (0 : Int32)) := B12
    show Go _ _ _ (T12.setTop (mkF m 85 #[.val (.ref a1), .val (.ref a2), .unset, .unset, .unset, .unset, .unset] [])) _
    refine Go.st (fun t k => XS.aloadN X12.here hx rfl (hb hby d4_85) rfl rfl k) ?_
    obtain ⟨T13, X13, e13, st13⟩ := getF X12 hx hZ hown (host := "") (Or.inl (wd28 hw)) Via.refl e12 F_a1_members (g := (mkF m 86 #[.val (.ref a1), .val (.ref a2), .unset, .unset, .unset, .unset, .unset] [(.ref a1)])) rfl rfl (hb hby d4_86)
    refine Go.st st13 ?_
    show Go _ _ _ (T13.setTop (mkF m 89 #[.val (.ref a1), .val (.ref a2), .unset, .unset, .unset, .unset, .unset] [.null])) _
    refine Go.st (fun t k => XS.ifnullYes X13.here hx rfl (pc0 := 89) (pc' := 108) rfl (hb hby d4_89) rfl (by decide) (by decide) k) ?_
    show Go _ _ _ (T13.setTop (mkF m 108 #[.val (.ref a1), .val (.ref a2), .unset, .unset, .unset, .unset, .unset] [])) _
    refine Go.st (fun t k => XS.aloadN X13.here hx rfl (hb hby d4_108) rfl rfl k) ?_
    refine Go.st (fun t k => XS.dup X13.here hx rfl (hb hby d4_109) rfl rfl k) ?_
    obtain ⟨T14, X14, e14, st14⟩ := getF X13 hx hZ hown (host := "") (Or.inl (wd35 hw)) Via.refl e13 F_a1_size (g := (mkF m 110 #[.val (.ref a1), .val (.ref a2), .unset, .unset, .unset, .unset, .unset] [(.ref a1), (.ref a1)])) rfl rfl (hb hby d4_110)
    refine Go.st st14 ?_
    show Go _ _ _ (T14.setTop (mkF m 113 #[.val (.ref a1), .val (.ref a2), .unset, .unset, .unset, .unset, .unset] [(.int 1), (.ref a1)])) _
    refine Go.st (fun t k => XS.dupX1 X14.here hx rfl (hb hby d4_113) rfl rfl rfl k) ?_
    show Go _ _ _ (T14.setTop (mkF m 114 #[.val (.ref a1), .val (.ref a2), .unset, .unset, .unset, .unset, .unset] [(.int 1), (.ref a1), (.int 1)])) _
    refine Go.st (fun t k => XS.iconst X14.here hx rfl (hb hby d4_114) k) ?_
    refine Go.st (fun t k => XS.iadd X14.here hx rfl (hb hby d4_115) rfl k) ?_
    show Go _ _ _ (T14.setTop (mkF m 116 #[.val (.ref a1), .val (.ref a2), .unset, .unset, .unset, .unset, .unset] [(.int 2), (.ref a1), (.int 1)])) _
    obtain ⟨T15, h15, X15, e15, W15, st15⟩ := putF X14 hx hZ hown (host := "") (Or.inl (wd35 hw)) Via.refl e14 F_a1_size E_a1 (Or.inl (wd36 hw)) (wd7 hw) (ty := .int) (by decide) rfl rfl (g := (mkF m 116 #[.val (.ref a1), .val (.ref a2), .unset, .unset, .unset, .unset, .unset] [(.int 2), (.ref a1), (.int 1)])) rfl rfl (hb hby d4_116)
    refine Go.st st15 ?_
    have N15 := Fr.snoc X15 N12 g_a1
    replace E_a1 := E_a1.wr W15
    replace V_NI := V_NI.other W15 ne_w_NI_a1
    replace F_a1_arity := F_a1_arity.other W15 (Or.inr (slot_ne (Or.inr (wd20 hw)) (Or.inl (wd36 hw)) (by decide) (t := .int) (t' := .int) (by decide) (by decide)))
    replace F_a1_values := F_a1_values.other W15 (Or.inr (slot_ne (Or.inl (wd22 hw)) (Or.inl (wd36 hw)) (by decide) (t := (.array .int)) (t' := .int) (by decide) (by decide)))
    replace F_a1_size := F_a1_size.same W15
    replace F_a1_members := F_a1_members.other W15 (Or.inr (slot_ne (Or.inl (wd29 hw)) (Or.inl (wd36 hw)) (by decide) (t := (.object "com/example/bitlattice/bitlattice/eval/Relation$Index")) (t' := .int) (by decide) (by decide)))
    replace F_a1_indexes := F_a1_indexes.other W15 (Or.inr (slot_ne (Or.inl (wd18 hw)) (Or.inl (wd36 hw)) (by decide) (t := (.array (.object "com/example/bitlattice/bitlattice/eval/Relation$Index"))) (t' := .int) (by decide) (by decide)))
    replace F_a1_holdingAny := F_a1_holdingAny.other W15 (Or.inr (slot_ne (Or.inl (wd55 hw)) (Or.inl (wd36 hw)) (by decide) (t := .int) (t' := .int) (by decide) (by decide)))
    replace V_row := V_row.other W15 ne_a2_a1
    replace V_vals := V_vals.other W15 ne_vals_a1
    replace Z0 := Nat.le_trans Z0 (Nat.le_of_eq W15.size.symm)
    replace K0 := K0.wr W15 (Or.inl (by simp))
    show Go _ _ _ (T15.setTop (mkF m 119 #[.val (.ref a1), .val (.ref a2), .unset, .unset, .unset, .unset, .unset] [(.int 1)])) _
    refine Go.st (fun t k => XS.istoreN X15.here hx rfl (hb hby d4_119) rfl (l' := #[.val (.ref a1), .val (.ref a2), .val (.int 1), .unset, .unset, .unset, .unset]) rfl k) ?_
    refine Go.st (fun t k => XS.aloadN X15.here hx rfl (hb hby d4_120) rfl rfl k) ?_
    refine Go.st (fun t k => XS.astoreN X15.here hx rfl (hb hby d4_121) rfl rfl (l' := #[.val (.ref a1), .val (.ref a2), .val (.int 1), .val (.ref a2), .unset, .unset, .unset]) rfl k) ?_
    refine Go.st (fun t k => XS.aloadN X15.here hx rfl (hb hby d4_122) rfl rfl k) ?_
    obtain ⟨cl16, Ar16, -, Sz16, Ng16, -, -⟩ := id V_row
    refine Go.st (fun t k => X15.arraylength hx (by rw [e15]; exact Ar16.1) (State.isArrayOf_alike hZ.alike Ar16.2.1) (g := (mkF m 123 #[.val (.ref a1), .val (.ref a2), .val (.int 1), .val (.ref a2), .unset, .unset, .unset] [(.ref a2)])) rfl rfl (hb hby d4_123) _ k) ?_
    rw [len_of Sz16 Ng16]
    show Go _ _ _ (T15.setTop (mkF m 124 #[.val (.ref a1), .val (.ref a2), .val (.int 1), .val (.ref a2), .unset, .unset, .unset] [(.int 2)])) _
    refine Go.st (fun t k => XS.istore X15.here hx rfl (hb hby d4_124) rfl (l' := #[.val (.ref a1), .val (.ref a2), .val (.int 1), .val (.ref a2), .val (.int 2), .unset, .unset]) rfl k) ?_
    refine Go.st (fun t k => XS.iconst X15.here hx rfl (hb hby d4_126) k) ?_
    refine Go.st (fun t k => XS.istore X15.here hx rfl (hb hby d4_127) rfl (l' := #[.val (.ref a1), .val (.ref a2), .val (.int 1), .val (.ref a2), .val (.int 2), .val (.int 0), .unset]) rfl k) ?_
    refine Go.st (fun t k => XS.iload X15.here hx rfl (hb hby d4_129) rfl k) ?_
    refine Go.st (fun t k => XS.iload X15.here hx rfl (hb hby d4_131) rfl k) ?_
    refine Go.st (fun t k => XS.icmpNo X15.here hx rfl (hb hby d4_133) rfl (tlt (by decide : (0 : Int32) < (2 : Int32))).2.1 k) ?_
    show Go _ _ _ (T15.setTop (mkF m 136 #[.val (.ref a1), .val (.ref a2), .val (.int 1), .val (.ref a2), .val (.int 2), .val (.int 0), .unset] [])) _
    refine Go.st (fun t k => XS.aloadN X15.here hx rfl (hb hby d4_136) rfl rfl k) ?_
    refine Go.st (fun t k => XS.iload X15.here hx rfl (hb hby d4_137) rfl k) ?_
    obtain ⟨cl17, Ar17, -, Sz17, Ng17, Hs17, -⟩ := id V_row
    have hin17 : ¬ ((0 : Int32) < 0 ∨ cl17.slots.size ≤ ((0 : Int32)).toNatClampNeg) := inb_of Sz17 ⟨by decide, by decide⟩
    refine Go.st (fun t k => X15.iaload hx (j := (0 : Int32)) (v := (.int x0)) (by rw [e15]; exact Ar17.1) (State.isArrayOf_alike hZ.alike Ar17.2.1) Ar17.2.2 hin17 (Has.at Hs17 hin17 rfl) (g := (mkF m 139 #[.val (.ref a1), .val (.ref a2), .val (.int 1), .val (.ref a2), .val (.int 2), .val (.int 0), .unset] [(.int 0), (.ref a2)])) rfl rfl (hb hby d4_139) _ k) ?_
    show Go _ _ _ (T15.setTop (mkF m 140 #[.val (.ref a1), .val (.ref a2), .val (.int 1), .val (.ref a2), .val (.int 2), .val (.int 0), .unset] [(.int x0)])) _
    refine Go.st (fun t k => XS.istore X15.here hx rfl (hb hby d4_140) rfl (l' := #[.val (.ref a1), .val (.ref a2), .val (.int 1), .val (.ref a2), .val (.int 2), .val (.int 0), .val (.int x0)]) rfl k) ?_
    refine Go.st (fun t k => XS.iload X15.here hx rfl (hb hby d4_142) rfl k) ?_
    refine Go.st (fun t k => X15.ldcInt hx hown (mvT hZ (wd41 hw)) (g := (mkF m 144 #[.val (.ref a1), .val (.ref a2), .val (.int 1), .val (.ref a2), .val (.int 2), .val (.int 0), .val (.int x0)] [(.int x0)])) rfl (hb hby d4_144) _ k) ?_
    show Go _ _ _ (T15.setTop (mkF m 146 #[.val (.ref a1), .val (.ref a2), .val (.int 1), .val (.ref a2), .val (.int 2), .val (.int 0), .val (.int x0)] [(.int 2147483647), (.int x0)])) _
    by_cases hc18 : x0 = (2147483647 : Int32)
    · refine Go.st (fun t k => XS.icmpNo X15.here hx rfl (hb hby d4_146) rfl (teq hc18).2 k) ?_
      show Go _ _ _ (T15.setTop (mkF m 149 #[.val (.ref a1), .val (.ref a2), .val (.int 1), .val (.ref a2), .val (.int 2), .val (.int 0), .val (.int x0)] [])) _
      refine Go.st (fun t k => XS.aloadN X15.here hx rfl (hb hby d4_149) rfl rfl k) ?_
      refine Go.st (fun t k => XS.dup X15.here hx rfl (hb hby d4_150) rfl rfl k) ?_
      obtain ⟨T19, X19, e19, st19⟩ := getF X15 hx hZ hown (host := "") (Or.inl (wd54 hw)) Via.refl e15 F_a1_holdingAny (g := (mkF m 151 #[.val (.ref a1), .val (.ref a2), .val (.int 1), .val (.ref a2), .val (.int 2), .val (.int 0), .val (.int x0)] [(.ref a1), (.ref a1)])) rfl rfl (hb hby d4_151)
      refine Go.st st19 ?_
      show Go _ _ _ (T19.setTop (mkF m 154 #[.val (.ref a1), .val (.ref a2), .val (.int 1), .val (.ref a2), .val (.int 2), .val (.int 0), .val (.int x0)] [(.int hAny), (.ref a1)])) _
      refine Go.st (fun t k => XS.iconst X19.here hx rfl (hb hby d4_154) k) ?_
      refine Go.st (fun t k => XS.iadd X19.here hx rfl (hb hby d4_155) rfl k) ?_
      show Go _ _ _ (T19.setTop (mkF m 156 #[.val (.ref a1), .val (.ref a2), .val (.int 1), .val (.ref a2), .val (.int 2), .val (.int 0), .val (.int x0)] [(.int (hAny + (1 : Int32))), (.ref a1)])) _
      obtain ⟨T20, h20, X20, e20, W20, st20⟩ := putF X19 hx hZ hown (host := "") (Or.inl (wd54 hw)) Via.refl e19 F_a1_holdingAny E_a1 (Or.inl (wd55 hw)) (wd7 hw) (ty := .int) (by decide) rfl rfl (g := (mkF m 156 #[.val (.ref a1), .val (.ref a2), .val (.int 1), .val (.ref a2), .val (.int 2), .val (.int 0), .val (.int x0)] [(.int (hAny + (1 : Int32))), (.ref a1)])) rfl rfl (hb hby d4_156)
      refine Go.st st20 ?_
      have N20 := Fr.snoc X20 N15 g_a1
      replace E_a1 := E_a1.wr W20
      replace V_NI := V_NI.other W20 ne_w_NI_a1
      replace F_a1_arity := F_a1_arity.other W20 (Or.inr (slot_ne (Or.inr (wd20 hw)) (Or.inl (wd55 hw)) (by decide) (t := .int) (t' := .int) (by decide) (by decide)))
      replace F_a1_values := F_a1_values.other W20 (Or.inr (slot_ne (Or.inl (wd22 hw)) (Or.inl (wd55 hw)) (by decide) (t := (.array .int)) (t' := .int) (by decide) (by decide)))
      replace F_a1_size := F_a1_size.other W20 (Or.inr (slot_ne (Or.inl (wd36 hw)) (Or.inl (wd55 hw)) (by decide) (t := .int) (t' := .int) (by decide) (by decide)))
      replace F_a1_members := F_a1_members.other W20 (Or.inr (slot_ne (Or.inl (wd29 hw)) (Or.inl (wd55 hw)) (by decide) (t := (.object "com/example/bitlattice/bitlattice/eval/Relation$Index")) (t' := .int) (by decide) (by decide)))
      replace F_a1_indexes := F_a1_indexes.other W20 (Or.inr (slot_ne (Or.inl (wd18 hw)) (Or.inl (wd55 hw)) (by decide) (t := (.array (.object "com/example/bitlattice/bitlattice/eval/Relation$Index"))) (t' := .int) (by decide) (by decide)))
      replace F_a1_holdingAny := F_a1_holdingAny.same W20
      replace V_row := V_row.other W20 ne_a2_a1
      replace V_vals := V_vals.other W20 ne_vals_a1
      replace Z0 := Nat.le_trans Z0 (Nat.le_of_eq W20.size.symm)
      replace K0 := K0.wr W20 (Or.inl (by simp))
      show Go _ _ _ (T20.setTop (mkF m 159 #[.val (.ref a1), .val (.ref a2), .val (.int 1), .val (.ref a2), .val (.int 2), .val (.int 0), .val (.int x0)] [])) _
      refine Go.st (fun t k => XS.goto X20.here hx rfl (pc0 := 159) (pc' := 168) rfl (hb hby d4_159) (by decide) (by decide) k) ?_
      refine Go.st (fun t k => XS.aloadN X20.here hx rfl (hb hby d4_168) rfl rfl k) ?_
      obtain ⟨T21, X21, e21, st21⟩ := getF X20 hx hZ hown (host := "") (Or.inl (wd28 hw)) Via.refl e20 F_a1_members (g := (mkF m 169 #[.val (.ref a1), .val (.ref a2), .val (.int 1), .val (.ref a2), .val (.int 2), .val (.int 0), .val (.int x0)] [(.ref a1)])) rfl rfl (hb hby d4_169)
      refine Go.st st21 ?_
      show Go _ _ _ (T21.setTop (mkF m 172 #[.val (.ref a1), .val (.ref a2), .val (.int 1), .val (.ref a2), .val (.int 2), .val (.int 0), .val (.int x0)] [.null])) _
      refine Go.st (fun t k => XS.ifnonnullNo X21.here hx rfl (hb hby d4_172) rfl k) ?_
      show Go _ _ _ (T21.setTop (mkF m 175 #[.val (.ref a1), .val (.ref a2), .val (.int 1), .val (.ref a2), .val (.int 2), .val (.int 0), .val (.int x0)] [])) _
      refine Go.st (fun t k => XS.aloadN X21.here hx rfl (hb hby d4_175) rfl rfl k) ?_
      obtain ⟨T22, X22, e22, st22⟩ := getF X21 hx hZ hown (host := "") (Or.inl (wd35 hw)) Via.refl e21 F_a1_size (g := (mkF m 176 #[.val (.ref a1), .val (.ref a2), .val (.int 1), .val (.ref a2), .val (.int 2), .val (.int 0), .val (.int x0)] [(.ref a1)])) rfl rfl (hb hby d4_176)
      refine Go.st st22 ?_
      show Go _ _ _ (T22.setTop (mkF m 179 #[.val (.ref a1), .val (.ref a2), .val (.int 1), .val (.ref a2), .val (.int 2), .val (.int 0), .val (.int x0)] [(.int 2)])) _
      refine Go.st (fun t k => XS.bipush X22.here hx rfl (hb hby d4_179) k) ?_
      refine Go.st (fun t k => XS.icmpYes X22.here hx rfl (pc0 := 181) (pc' := 207) rfl (hb hby d4_181) rfl (flt (by decide : ¬ ((8 : Int32) < (2 : Int32)))).2.2.2 (by decide) (by decide) k) ?_
      show Go _ _ _ (T22.setTop (mkF m 207 #[.val (.ref a1), .val (.ref a2), .val (.int 1), .val (.ref a2), .val (.int 2), .val (.int 0), .val (.int x0)] [])) _
      refine Go.st (fun t k => XS.aloadN X22.here hx rfl (hb hby d4_207) rfl rfl k) ?_
      obtain ⟨T23, X23, e23, st23⟩ := getF X22 hx hZ hown (host := "") (Or.inl (wd17 hw)) Via.refl e22 F_a1_indexes (g := (mkF m 208 #[.val (.ref a1), .val (.ref a2), .val (.int 1), .val (.ref a2), .val (.int 2), .val (.int 0), .val (.int x0)] [(.ref a1)])) rfl rfl (hb hby d4_208)
      refine Go.st st23 ?_
      show Go _ _ _ (T23.setTop (mkF m 211 #[.val (.ref a1), .val (.ref a2), .val (.int 1), .val (.ref a2), .val (.int 2), .val (.int 0), .val (.int x0)] [(.ref w_NI)])) _
      refine Go.st (fun t k => XS.astoreN X23.here hx rfl (hb hby d4_211) rfl rfl (l' := #[.val (.ref a1), .val (.ref a2), .val (.int 1), .val (.ref w_NI), .val (.int 2), .val (.int 0), .val (.int x0)]) rfl k) ?_
      refine Go.st (fun t k => XS.aloadN X23.here hx rfl (hb hby d4_212) rfl rfl k) ?_
      obtain ⟨cl24, Ar24, -, Sz24, Ng24, -, -⟩ := id V_NI
      refine Go.st (fun t k => X23.arraylength hx (by rw [e23]; exact Ar24.1) (State.isArrayOf_alike hZ.alike Ar24.2.1) (g := (mkF m 213 #[.val (.ref a1), .val (.ref a2), .val (.int 1), .val (.ref w_NI), .val (.int 2), .val (.int 0), .val (.int x0)] [(.ref w_NI)])) rfl rfl (hb hby d4_213) _ k) ?_
      rw [len_of Sz24 Ng24]
      show Go _ _ _ (T23.setTop (mkF m 214 #[.val (.ref a1), .val (.ref a2), .val (.int 1), .val (.ref w_NI), .val (.int 2), .val (.int 0), .val (.int x0)] [(.int 0)])) _
      refine Go.st (fun t k => XS.istore X23.here hx rfl (hb hby d4_214) rfl (l' := #[.val (.ref a1), .val (.ref a2), .val (.int 1), .val (.ref w_NI), .val (.int 0), .val (.int 0), .val (.int x0)]) rfl k) ?_
      refine Go.st (fun t k => XS.iconst X23.here hx rfl (hb hby d4_216) k) ?_
      refine Go.st (fun t k => XS.istore X23.here hx rfl (hb hby d4_217) rfl (l' := #[.val (.ref a1), .val (.ref a2), .val (.int 1), .val (.ref w_NI), .val (.int 0), .val (.int 0), .val (.int x0)]) rfl k) ?_
      refine Go.st (fun t k => XS.iload X23.here hx rfl (hb hby d4_219) rfl k) ?_
      refine Go.st (fun t k => XS.iload X23.here hx rfl (hb hby d4_221) rfl k) ?_
      refine Go.st (fun t k => XS.icmpYes X23.here hx rfl (pc0 := 223) (pc' := 244) rfl (hb hby d4_223) rfl (flt (by decide : ¬ ((0 : Int32) < (0 : Int32)))).2.1 (by decide) (by decide) k) ?_
      show Go _ _ _ (T23.setTop (mkF m 244 #[.val (.ref a1), .val (.ref a2), .val (.int 1), .val (.ref w_NI), .val (.int 0), .val (.int 0), .val (.int x0)] [])) _
      refine Go.st (fun t k => XS.iconst X23.here hx rfl (hb hby d4_244) k) ?_
      obtain ⟨fs, hr, hrun, hended, hW, hsame⟩ := X23.leave (v := some (.int (1 : Int32))) (fun h => by rw [Bd.returns] at h; cases h)
      refine Go.fin (retN X23 hx (t := .boolean) Bd.returns (by simp) (hb hby d4_245) hr) hrun hended ⟨_, _, rfl, ?_, ⟨_, rfl⟩, hW, hsame.mono (by decide) (by decide)⟩
      show Q4_2_1 Z a1 a2 vals w_NI k_NI hAny k_v v0 v1 v2 v3 v4 v5 v6 v7 k_x x0 x1 h0 n0 _ T23.heap _
      rw [e23]
      exact ⟨(hAny + (1 : Int32)), (by unfold f4_2_1; simp only [if_pos hc3, if_pos hc18]), N20, K0, E_a1, F_a1_arity, F_a1_values, (by unfold f4_2_1_a1_size; simp only [if_pos hc3, if_pos hc18]; exact F_a1_size), F_a1_members, F_a1_indexes, F_a1_holdingAny, (by unfold f4_2_1_vals_2 f4_2_1_vals_3; simp only [if_pos hc3, if_pos hc18]; exact V_vals)⟩
    · refine Go.st (fun t k => XS.icmpYes X15.here hx rfl (pc0 := 146) (pc' := 162) rfl (hb hby d4_146) rfl (feq hc18).2 (by decide) (by decide) k) ?_
      show Go _ _ _ (T15.setTop (mkF m 162 #[.val (.ref a1), .val (.ref a2), .val (.int 1), .val (.ref a2), .val (.int 2), .val (.int 0), .val (.int x0)] [])) _
      refine Go.st (fun t k => XS.iinc X15.here hx rfl (hb hby d4_162) rfl (l' := #[.val (.ref a1), .val (.ref a2), .val (.int (1 : Int32)), .val (.ref a2), .val (.int (2 : Int32)), .val (.int ((0 : Int32) + (1 : Int32))), .val (.int x0)]) rfl k) ?_
      show Go _ _ _ (T15.setTop (mkF m 165 #[.val (.ref a1), .val (.ref a2), .val (.int 1), .val (.ref a2), .val (.int 2), .val (.int 1), .val (.int x0)] [])) _
      refine Go.st (fun t k => XS.goto X15.here hx rfl (pc0 := 165) (pc' := 129) rfl (hb hby d4_165) (by decide) (by decide) k) ?_
      refine Go.st (fun t k => XS.iload X15.here hx rfl (hb hby d4_129) rfl k) ?_
      refine Go.st (fun t k => XS.iload X15.here hx rfl (hb hby d4_131) rfl k) ?_
      refine Go.st (fun t k => XS.icmpNo X15.here hx rfl (hb hby d4_133) rfl (tlt (by decide : (1 : Int32) < (2 : Int32))).2.1 k) ?_
      show Go _ _ _ (T15.setTop (mkF m 136 #[.val (.ref a1), .val (.ref a2), .val (.int 1), .val (.ref a2), .val (.int 2), .val (.int 1), .val (.int x0)] [])) _
      refine Go.st (fun t k => XS.aloadN X15.here hx rfl (hb hby d4_136) rfl rfl k) ?_
      refine Go.st (fun t k => XS.iload X15.here hx rfl (hb hby d4_137) rfl k) ?_
      obtain ⟨cl25, Ar25, -, Sz25, Ng25, Hs25, -⟩ := id V_row
      have hin25 : ¬ ((1 : Int32) < 0 ∨ cl25.slots.size ≤ ((1 : Int32)).toNatClampNeg) := inb_of Sz25 ⟨by decide, by decide⟩
      refine Go.st (fun t k => X15.iaload hx (j := (1 : Int32)) (v := (.int x1)) (by rw [e15]; exact Ar25.1) (State.isArrayOf_alike hZ.alike Ar25.2.1) Ar25.2.2 hin25 (Has.at Hs25 hin25 rfl) (g := (mkF m 139 #[.val (.ref a1), .val (.ref a2), .val (.int 1), .val (.ref a2), .val (.int 2), .val (.int 1), .val (.int x0)] [(.int 1), (.ref a2)])) rfl rfl (hb hby d4_139) _ k) ?_
      show Go _ _ _ (T15.setTop (mkF m 140 #[.val (.ref a1), .val (.ref a2), .val (.int 1), .val (.ref a2), .val (.int 2), .val (.int 1), .val (.int x0)] [(.int x1)])) _
      refine Go.st (fun t k => XS.istore X15.here hx rfl (hb hby d4_140) rfl (l' := #[.val (.ref a1), .val (.ref a2), .val (.int 1), .val (.ref a2), .val (.int 2), .val (.int 1), .val (.int x1)]) rfl k) ?_
      refine Go.st (fun t k => XS.iload X15.here hx rfl (hb hby d4_142) rfl k) ?_
      refine Go.st (fun t k => X15.ldcInt hx hown (mvT hZ (wd41 hw)) (g := (mkF m 144 #[.val (.ref a1), .val (.ref a2), .val (.int 1), .val (.ref a2), .val (.int 2), .val (.int 1), .val (.int x1)] [(.int x1)])) rfl (hb hby d4_144) _ k) ?_
      show Go _ _ _ (T15.setTop (mkF m 146 #[.val (.ref a1), .val (.ref a2), .val (.int 1), .val (.ref a2), .val (.int 2), .val (.int 1), .val (.int x1)] [(.int 2147483647), (.int x1)])) _
      by_cases hc26 : x1 = (2147483647 : Int32)
      · refine Go.st (fun t k => XS.icmpNo X15.here hx rfl (hb hby d4_146) rfl (teq hc26).2 k) ?_
        show Go _ _ _ (T15.setTop (mkF m 149 #[.val (.ref a1), .val (.ref a2), .val (.int 1), .val (.ref a2), .val (.int 2), .val (.int 1), .val (.int x1)] [])) _
        refine Go.st (fun t k => XS.aloadN X15.here hx rfl (hb hby d4_149) rfl rfl k) ?_
        refine Go.st (fun t k => XS.dup X15.here hx rfl (hb hby d4_150) rfl rfl k) ?_
        obtain ⟨T27, X27, e27, st27⟩ := getF X15 hx hZ hown (host := "") (Or.inl (wd54 hw)) Via.refl e15 F_a1_holdingAny (g := (mkF m 151 #[.val (.ref a1), .val (.ref a2), .val (.int 1), .val (.ref a2), .val (.int 2), .val (.int 1), .val (.int x1)] [(.ref a1), (.ref a1)])) rfl rfl (hb hby d4_151)
        refine Go.st st27 ?_
        show Go _ _ _ (T27.setTop (mkF m 154 #[.val (.ref a1), .val (.ref a2), .val (.int 1), .val (.ref a2), .val (.int 2), .val (.int 1), .val (.int x1)] [(.int hAny), (.ref a1)])) _
        refine Go.st (fun t k => XS.iconst X27.here hx rfl (hb hby d4_154) k) ?_
        refine Go.st (fun t k => XS.iadd X27.here hx rfl (hb hby d4_155) rfl k) ?_
        show Go _ _ _ (T27.setTop (mkF m 156 #[.val (.ref a1), .val (.ref a2), .val (.int 1), .val (.ref a2), .val (.int 2), .val (.int 1), .val (.int x1)] [(.int (hAny + (1 : Int32))), (.ref a1)])) _
        obtain ⟨T28, h28, X28, e28, W28, st28⟩ := putF X27 hx hZ hown (host := "") (Or.inl (wd54 hw)) Via.refl e27 F_a1_holdingAny E_a1 (Or.inl (wd55 hw)) (wd7 hw) (ty := .int) (by decide) rfl rfl (g := (mkF m 156 #[.val (.ref a1), .val (.ref a2), .val (.int 1), .val (.ref a2), .val (.int 2), .val (.int 1), .val (.int x1)] [(.int (hAny + (1 : Int32))), (.ref a1)])) rfl rfl (hb hby d4_156)
        refine Go.st st28 ?_
        have N28 := Fr.snoc X28 N15 g_a1
        replace E_a1 := E_a1.wr W28
        replace V_NI := V_NI.other W28 ne_w_NI_a1
        replace F_a1_arity := F_a1_arity.other W28 (Or.inr (slot_ne (Or.inr (wd20 hw)) (Or.inl (wd55 hw)) (by decide) (t := .int) (t' := .int) (by decide) (by decide)))
        replace F_a1_values := F_a1_values.other W28 (Or.inr (slot_ne (Or.inl (wd22 hw)) (Or.inl (wd55 hw)) (by decide) (t := (.array .int)) (t' := .int) (by decide) (by decide)))
        replace F_a1_size := F_a1_size.other W28 (Or.inr (slot_ne (Or.inl (wd36 hw)) (Or.inl (wd55 hw)) (by decide) (t := .int) (t' := .int) (by decide) (by decide)))
        replace F_a1_members := F_a1_members.other W28 (Or.inr (slot_ne (Or.inl (wd29 hw)) (Or.inl (wd55 hw)) (by decide) (t := (.object "com/example/bitlattice/bitlattice/eval/Relation$Index")) (t' := .int) (by decide) (by decide)))
        replace F_a1_indexes := F_a1_indexes.other W28 (Or.inr (slot_ne (Or.inl (wd18 hw)) (Or.inl (wd55 hw)) (by decide) (t := (.array (.object "com/example/bitlattice/bitlattice/eval/Relation$Index"))) (t' := .int) (by decide) (by decide)))
        replace F_a1_holdingAny := F_a1_holdingAny.same W28
        replace V_row := V_row.other W28 ne_a2_a1
        replace V_vals := V_vals.other W28 ne_vals_a1
        replace Z0 := Nat.le_trans Z0 (Nat.le_of_eq W28.size.symm)
        replace K0 := K0.wr W28 (Or.inl (by simp))
        show Go _ _ _ (T28.setTop (mkF m 159 #[.val (.ref a1), .val (.ref a2), .val (.int 1), .val (.ref a2), .val (.int 2), .val (.int 1), .val (.int x1)] [])) _
        refine Go.st (fun t k => XS.goto X28.here hx rfl (pc0 := 159) (pc' := 168) rfl (hb hby d4_159) (by decide) (by decide) k) ?_
        refine Go.st (fun t k => XS.aloadN X28.here hx rfl (hb hby d4_168) rfl rfl k) ?_
        obtain ⟨T29, X29, e29, st29⟩ := getF X28 hx hZ hown (host := "") (Or.inl (wd28 hw)) Via.refl e28 F_a1_members (g := (mkF m 169 #[.val (.ref a1), .val (.ref a2), .val (.int 1), .val (.ref a2), .val (.int 2), .val (.int 1), .val (.int x1)] [(.ref a1)])) rfl rfl (hb hby d4_169)
        refine Go.st st29 ?_
        show Go _ _ _ (T29.setTop (mkF m 172 #[.val (.ref a1), .val (.ref a2), .val (.int 1), .val (.ref a2), .val (.int 2), .val (.int 1), .val (.int x1)] [.null])) _
        refine Go.st (fun t k => XS.ifnonnullNo X29.here hx rfl (hb hby d4_172) rfl k) ?_
        show Go _ _ _ (T29.setTop (mkF m 175 #[.val (.ref a1), .val (.ref a2), .val (.int 1), .val (.ref a2), .val (.int 2), .val (.int 1), .val (.int x1)] [])) _
        refine Go.st (fun t k => XS.aloadN X29.here hx rfl (hb hby d4_175) rfl rfl k) ?_
        obtain ⟨T30, X30, e30, st30⟩ := getF X29 hx hZ hown (host := "") (Or.inl (wd35 hw)) Via.refl e29 F_a1_size (g := (mkF m 176 #[.val (.ref a1), .val (.ref a2), .val (.int 1), .val (.ref a2), .val (.int 2), .val (.int 1), .val (.int x1)] [(.ref a1)])) rfl rfl (hb hby d4_176)
        refine Go.st st30 ?_
        show Go _ _ _ (T30.setTop (mkF m 179 #[.val (.ref a1), .val (.ref a2), .val (.int 1), .val (.ref a2), .val (.int 2), .val (.int 1), .val (.int x1)] [(.int 2)])) _
        refine Go.st (fun t k => XS.bipush X30.here hx rfl (hb hby d4_179) k) ?_
        refine Go.st (fun t k => XS.icmpYes X30.here hx rfl (pc0 := 181) (pc' := 207) rfl (hb hby d4_181) rfl (flt (by decide : ¬ ((8 : Int32) < (2 : Int32)))).2.2.2 (by decide) (by decide) k) ?_
        show Go _ _ _ (T30.setTop (mkF m 207 #[.val (.ref a1), .val (.ref a2), .val (.int 1), .val (.ref a2), .val (.int 2), .val (.int 1), .val (.int x1)] [])) _
        refine Go.st (fun t k => XS.aloadN X30.here hx rfl (hb hby d4_207) rfl rfl k) ?_
        obtain ⟨T31, X31, e31, st31⟩ := getF X30 hx hZ hown (host := "") (Or.inl (wd17 hw)) Via.refl e30 F_a1_indexes (g := (mkF m 208 #[.val (.ref a1), .val (.ref a2), .val (.int 1), .val (.ref a2), .val (.int 2), .val (.int 1), .val (.int x1)] [(.ref a1)])) rfl rfl (hb hby d4_208)
        refine Go.st st31 ?_
        show Go _ _ _ (T31.setTop (mkF m 211 #[.val (.ref a1), .val (.ref a2), .val (.int 1), .val (.ref a2), .val (.int 2), .val (.int 1), .val (.int x1)] [(.ref w_NI)])) _
        refine Go.st (fun t k => XS.astoreN X31.here hx rfl (hb hby d4_211) rfl rfl (l' := #[.val (.ref a1), .val (.ref a2), .val (.int 1), .val (.ref w_NI), .val (.int 2), .val (.int 1), .val (.int x1)]) rfl k) ?_
        refine Go.st (fun t k => XS.aloadN X31.here hx rfl (hb hby d4_212) rfl rfl k) ?_
        obtain ⟨cl32, Ar32, -, Sz32, Ng32, -, -⟩ := id V_NI
        refine Go.st (fun t k => X31.arraylength hx (by rw [e31]; exact Ar32.1) (State.isArrayOf_alike hZ.alike Ar32.2.1) (g := (mkF m 213 #[.val (.ref a1), .val (.ref a2), .val (.int 1), .val (.ref w_NI), .val (.int 2), .val (.int 1), .val (.int x1)] [(.ref w_NI)])) rfl rfl (hb hby d4_213) _ k) ?_
        rw [len_of Sz32 Ng32]
        show Go _ _ _ (T31.setTop (mkF m 214 #[.val (.ref a1), .val (.ref a2), .val (.int 1), .val (.ref w_NI), .val (.int 2), .val (.int 1), .val (.int x1)] [(.int 0)])) _
        refine Go.st (fun t k => XS.istore X31.here hx rfl (hb hby d4_214) rfl (l' := #[.val (.ref a1), .val (.ref a2), .val (.int 1), .val (.ref w_NI), .val (.int 0), .val (.int 1), .val (.int x1)]) rfl k) ?_
        refine Go.st (fun t k => XS.iconst X31.here hx rfl (hb hby d4_216) k) ?_
        refine Go.st (fun t k => XS.istore X31.here hx rfl (hb hby d4_217) rfl (l' := #[.val (.ref a1), .val (.ref a2), .val (.int 1), .val (.ref w_NI), .val (.int 0), .val (.int 0), .val (.int x1)]) rfl k) ?_
        refine Go.st (fun t k => XS.iload X31.here hx rfl (hb hby d4_219) rfl k) ?_
        refine Go.st (fun t k => XS.iload X31.here hx rfl (hb hby d4_221) rfl k) ?_
        refine Go.st (fun t k => XS.icmpYes X31.here hx rfl (pc0 := 223) (pc' := 244) rfl (hb hby d4_223) rfl (flt (by decide : ¬ ((0 : Int32) < (0 : Int32)))).2.1 (by decide) (by decide) k) ?_
        show Go _ _ _ (T31.setTop (mkF m 244 #[.val (.ref a1), .val (.ref a2), .val (.int 1), .val (.ref w_NI), .val (.int 0), .val (.int 0), .val (.int x1)] [])) _
        refine Go.st (fun t k => XS.iconst X31.here hx rfl (hb hby d4_244) k) ?_
        obtain ⟨fs, hr, hrun, hended, hW, hsame⟩ := X31.leave (v := some (.int (1 : Int32))) (fun h => by rw [Bd.returns] at h; cases h)
        refine Go.fin (retN X31 hx (t := .boolean) Bd.returns (by simp) (hb hby d4_245) hr) hrun hended ⟨_, _, rfl, ?_, ⟨_, rfl⟩, hW, hsame.mono (by decide) (by decide)⟩
        show Q4_2_1 Z a1 a2 vals w_NI k_NI hAny k_v v0 v1 v2 v3 v4 v5 v6 v7 k_x x0 x1 h0 n0 _ T31.heap _
        rw [e31]
        exact ⟨(hAny + (1 : Int32)), (by unfold f4_2_1; simp only [if_pos hc3, if_neg hc18, if_pos hc26]), N28, K0, E_a1, F_a1_arity, F_a1_values, (by unfold f4_2_1_a1_size; simp only [if_pos hc3, if_neg hc18, if_pos hc26]; exact F_a1_size), F_a1_members, F_a1_indexes, F_a1_holdingAny, (by unfold f4_2_1_vals_2 f4_2_1_vals_3; simp only [if_pos hc3, if_neg hc18, if_pos hc26]; exact V_vals)⟩
      · refine Go.st (fun t k => XS.icmpYes X15.here hx rfl (pc0 := 146) (pc' := 162) rfl (hb hby d4_146) rfl (feq hc26).2 (by decide) (by decide) k) ?_
        show Go _ _ _ (T15.setTop (mkF m 162 #[.val (.ref a1), .val (.ref a2), .val (.int 1), .val (.ref a2), .val (.int 2), .val (.int 1), .val (.int x1)] [])) _
        refine Go.st (fun t k => XS.iinc X15.here hx rfl (hb hby d4_162) rfl (l' := #[.val (.ref a1), .val (.ref a2), .val (.int (1 : Int32)), .val (.ref a2), .val (.int (2 : Int32)), .val (.int ((1 : Int32) + (1 : Int32))), .val (.int x1)]) rfl k) ?_
        show Go _ _ _ (T15.setTop (mkF m 165 #[.val (.ref a1), .val (.ref a2), .val (.int 1), .val (.ref a2), .val (.int 2), .val (.int 2), .val (.int x1)] [])) _
        refine Go.st (fun t k => XS.goto X15.here hx rfl (pc0 := 165) (pc' := 129) rfl (hb hby d4_165) (by decide) (by decide) k) ?_
        refine Go.st (fun t k => XS.iload X15.here hx rfl (hb hby d4_129) rfl k) ?_
        refine Go.st (fun t k => XS.iload X15.here hx rfl (hb hby d4_131) rfl k) ?_
        refine Go.st (fun t k => XS.icmpYes X15.here hx rfl (pc0 := 133) (pc' := 168) rfl (hb hby d4_133) rfl (flt (by decide : ¬ ((2 : Int32) < (2 : Int32)))).2.1 (by decide) (by decide) k) ?_
        show Go _ _ _ (T15.setTop (mkF m 168 #[.val (.ref a1), .val (.ref a2), .val (.int 1), .val (.ref a2), .val (.int 2), .val (.int 2), .val (.int x1)] [])) _
        refine Go.st (fun t k => XS.aloadN X15.here hx rfl (hb hby d4_168) rfl rfl k) ?_
        obtain ⟨T33, X33, e33, st33⟩ := getF X15 hx hZ hown (host := "") (Or.inl (wd28 hw)) Via.refl e15 F_a1_members (g := (mkF m 169 #[.val (.ref a1), .val (.ref a2), .val (.int 1), .val (.ref a2), .val (.int 2), .val (.int 2), .val (.int x1)] [(.ref a1)])) rfl rfl (hb hby d4_169)
        refine Go.st st33 ?_
        show Go _ _ _ (T33.setTop (mkF m 172 #[.val (.ref a1), .val (.ref a2), .val (.int 1), .val (.ref a2), .val (.int 2), .val (.int 2), .val (.int x1)] [.null])) _
        refine Go.st (fun t k => XS.ifnonnullNo X33.here hx rfl (hb hby d4_172) rfl k) ?_
        show Go _ _ _ (T33.setTop (mkF m 175 #[.val (.ref a1), .val (.ref a2), .val (.int 1), .val (.ref a2), .val (.int 2), .val (.int 2), .val (.int x1)] [])) _
        refine Go.st (fun t k => XS.aloadN X33.here hx rfl (hb hby d4_175) rfl rfl k) ?_
        obtain ⟨T34, X34, e34, st34⟩ := getF X33 hx hZ hown (host := "") (Or.inl (wd35 hw)) Via.refl e33 F_a1_size (g := (mkF m 176 #[.val (.ref a1), .val (.ref a2), .val (.int 1), .val (.ref a2), .val (.int 2), .val (.int 2), .val (.int x1)] [(.ref a1)])) rfl rfl (hb hby d4_176)
        refine Go.st st34 ?_
        show Go _ _ _ (T34.setTop (mkF m 179 #[.val (.ref a1), .val (.ref a2), .val (.int 1), .val (.ref a2), .val (.int 2), .val (.int 2), .val (.int x1)] [(.int 2)])) _
        refine Go.st (fun t k => XS.bipush X34.here hx rfl (hb hby d4_179) k) ?_
        refine Go.st (fun t k => XS.icmpYes X34.here hx rfl (pc0 := 181) (pc' := 207) rfl (hb hby d4_181) rfl (flt (by decide : ¬ ((8 : Int32) < (2 : Int32)))).2.2.2 (by decide) (by decide) k) ?_
        show Go _ _ _ (T34.setTop (mkF m 207 #[.val (.ref a1), .val (.ref a2), .val (.int 1), .val (.ref a2), .val (.int 2), .val (.int 2), .val (.int x1)] [])) _
        refine Go.st (fun t k => XS.aloadN X34.here hx rfl (hb hby d4_207) rfl rfl k) ?_
        obtain ⟨T35, X35, e35, st35⟩ := getF X34 hx hZ hown (host := "") (Or.inl (wd17 hw)) Via.refl e34 F_a1_indexes (g := (mkF m 208 #[.val (.ref a1), .val (.ref a2), .val (.int 1), .val (.ref a2), .val (.int 2), .val (.int 2), .val (.int x1)] [(.ref a1)])) rfl rfl (hb hby d4_208)
        refine Go.st st35 ?_
        show Go _ _ _ (T35.setTop (mkF m 211 #[.val (.ref a1), .val (.ref a2), .val (.int 1), .val (.ref a2), .val (.int 2), .val (.int 2), .val (.int x1)] [(.ref w_NI)])) _
        refine Go.st (fun t k => XS.astoreN X35.here hx rfl (hb hby d4_211) rfl rfl (l' := #[.val (.ref a1), .val (.ref a2), .val (.int 1), .val (.ref w_NI), .val (.int 2), .val (.int 2), .val (.int x1)]) rfl k) ?_
        refine Go.st (fun t k => XS.aloadN X35.here hx rfl (hb hby d4_212) rfl rfl k) ?_
        obtain ⟨cl36, Ar36, -, Sz36, Ng36, -, -⟩ := id V_NI
        refine Go.st (fun t k => X35.arraylength hx (by rw [e35]; exact Ar36.1) (State.isArrayOf_alike hZ.alike Ar36.2.1) (g := (mkF m 213 #[.val (.ref a1), .val (.ref a2), .val (.int 1), .val (.ref w_NI), .val (.int 2), .val (.int 2), .val (.int x1)] [(.ref w_NI)])) rfl rfl (hb hby d4_213) _ k) ?_
        rw [len_of Sz36 Ng36]
        show Go _ _ _ (T35.setTop (mkF m 214 #[.val (.ref a1), .val (.ref a2), .val (.int 1), .val (.ref w_NI), .val (.int 2), .val (.int 2), .val (.int x1)] [(.int 0)])) _
        refine Go.st (fun t k => XS.istore X35.here hx rfl (hb hby d4_214) rfl (l' := #[.val (.ref a1), .val (.ref a2), .val (.int 1), .val (.ref w_NI), .val (.int 0), .val (.int 2), .val (.int x1)]) rfl k) ?_
        refine Go.st (fun t k => XS.iconst X35.here hx rfl (hb hby d4_216) k) ?_
        refine Go.st (fun t k => XS.istore X35.here hx rfl (hb hby d4_217) rfl (l' := #[.val (.ref a1), .val (.ref a2), .val (.int 1), .val (.ref w_NI), .val (.int 0), .val (.int 0), .val (.int x1)]) rfl k) ?_
        refine Go.st (fun t k => XS.iload X35.here hx rfl (hb hby d4_219) rfl k) ?_
        refine Go.st (fun t k => XS.iload X35.here hx rfl (hb hby d4_221) rfl k) ?_
        refine Go.st (fun t k => XS.icmpYes X35.here hx rfl (pc0 := 223) (pc' := 244) rfl (hb hby d4_223) rfl (flt (by decide : ¬ ((0 : Int32) < (0 : Int32)))).2.1 (by decide) (by decide) k) ?_
        show Go _ _ _ (T35.setTop (mkF m 244 #[.val (.ref a1), .val (.ref a2), .val (.int 1), .val (.ref w_NI), .val (.int 0), .val (.int 0), .val (.int x1)] [])) _
        refine Go.st (fun t k => XS.iconst X35.here hx rfl (hb hby d4_244) k) ?_
        obtain ⟨fs, hr, hrun, hended, hW, hsame⟩ := X35.leave (v := some (.int (1 : Int32))) (fun h => by rw [Bd.returns] at h; cases h)
        refine Go.fin (retN X35 hx (t := .boolean) Bd.returns (by simp) (hb hby d4_245) hr) hrun hended ⟨_, _, rfl, ?_, ⟨_, rfl⟩, hW, hsame.mono (by decide) (by decide)⟩
        show Q4_2_1 Z a1 a2 vals w_NI k_NI hAny k_v v0 v1 v2 v3 v4 v5 v6 v7 k_x x0 x1 h0 n0 _ T35.heap _
        rw [e35]
        exact ⟨hAny, (by unfold f4_2_1; simp only [if_pos hc3, if_neg hc18, if_neg hc26]), N15, K0, E_a1, F_a1_arity, F_a1_values, (by unfold f4_2_1_a1_size; simp only [if_pos hc3, if_neg hc18, if_neg hc26]; exact F_a1_size), F_a1_members, F_a1_indexes, F_a1_holdingAny, (by unfold f4_2_1_vals_2 f4_2_1_vals_3; simp only [if_pos hc3, if_neg hc18, if_neg hc26]; exact V_vals)⟩
  · refine Go.st (fun t k => XS.ifNo X2.here hx rfl (hb hby d4_12) rfl ((if0 _ _).trans (feq hc3).1) k) ?_
    show Go _ _ _ (T2.setTop (mkF m 15 #[.val (.ref a1), .val (.ref a2), .unset, .unset, .unset, .unset, .unset] [])) _
    refine Go.st (fun t k => XS.iconst X2.here hx rfl (hb hby d4_15) k) ?_
    obtain ⟨fs, hr, hrun, hended, hW, hsame⟩ := X2.leave (v := some (.int (0 : Int32))) (fun h => by rw [Bd.returns] at h; cases h)
    refine Go.fin (retN X2 hx (t := .boolean) Bd.returns (by simp) (hb hby d4_16) hr) hrun hended ⟨_, _, rfl, ?_, ⟨_, rfl⟩, hW, hsame.mono (by decide) (by decide)⟩
    show Q4_2_1 Z a1 a2 vals w_NI k_NI hAny k_v v0 v1 v2 v3 v4 v5 v6 v7 k_x x0 x1 h0 n0 _ T2.heap _
    rw [e2]
    exact ⟨hAny, (by unfold f4_2_1; simp only [if_neg hc3]), N2, K0, E_a1, F_a1_arity, F_a1_values, (by unfold f4_2_1_a1_size; simp only [if_neg hc3]; exact F_a1_size), F_a1_members, F_a1_indexes, F_a1_holdingAny, (by unfold f4_2_1_vals_2 f4_2_1_vals_3; simp only [if_neg hc3]; exact V_vals)⟩
theorem d1_25 : decode method_2_code 25 = .ok (.aload 4, 2) := by decide +kernel
theorem d1_27 : decode method_2_code 27 = .ok (.iconst 2, 1) := by decide +kernel
theorem d1_28 : decode method_2_code 28 = .ok (.iload_n 3, 1) := by decide +kernel
theorem d1_29 : decode method_2_code 29 = .ok (.iastore, 1) := by decide +kernel
def Q1_3 (Z : State) (p2 : Int32) (p3 : Int32) (p4 : Int32) (h0 : Heap) (n0 : Nat) (v : Option Value) (h : Heap) (L : List Loc) : Prop := ∃ x1_3_0 : Addr, ∃ k_x1_3_0 : ClassId, v = some (.ref x1_3_0) ∧ Fr n0 L ∧ Keep h0 h [] ∧ n0 ≤ x1_3_0 ∧ h0.size ≤ x1_3_0 ∧ Arv Z h x1_3_0 k_x1_3_0 .int (3 : Int32) [(.int p2), (.int p3), (.int p4)] (.int (0 : Int32))
theorem ef1_3 (m : MethodId) (x1 : Int32) (x2 : Int32) (x3 : Int32) : entryFrame m #[(.int (3 : Int32)), (.int x1), (.int x2), (.int x3)] 5 = mkF m 0 #[.val (.int (3 : Int32)), .val (.int x1), .val (.int x2), .val (.int x3), .unset] [] := by first | (simp [entryFrame, mkF, argsToLocals, Value.category]; done) | rfl
set_option maxRecDepth 65536 in
set_option maxHeartbeats 16000000 in
theorem rm1_3 (l : Launch) (Z : State) (a0 : Array Value) (hw : ∀ d ∈ tables_1, d.before a0 Z = true) (ws : List Jvm.Cond) (p2 : Int32) (p3 : Int32) (p4 : Int32) (h0 : Heap) (n0 : Nat) (Z0 : n0 ≤ h0.size) :
    MetFree l (⟨"com/example/bitlattice/bitlattice/eval/RelationGetPinLaw", "rowOf", "(IIII)[I"⟩ : MethodName) (head1 (Jvm.Cond.code (⟨"com/example/bitlattice/bitlattice/eval/RelationGetPinLaw", "rowOf", "(IIII)[I"⟩ : MethodName) method_2_code 5 (some (.array .int)) :: ws) ({ frames := 0, cells := 1, slots := 3, locals := 0 } : Room)) (fun a U => a = #[(.int (3 : Int32)), (.int p2), (.int p3), (.int p4)] ∧ Z.Warmed39 U.vm ∧ U.heap = h0) (fun _ _ _ _ _ => True) (fun _ U o U' => ∃ v L, o = .returned v ∧ Q1_3 Z p2 p3 p4 h0 n0 v U'.heap L ∧ FrameEnd U o U' L ({ frames := 0, cells := 1, slots := 3, locals := 0 } : Room).cells ({ frames := 0, cells := 1, slots := 3, locals := 0 } : Room).slots) := by
  refine MetFree.of_bodySF (plainFor_of_name pn0) hisR ?_
  intro p e s m args below meth c s₁ Bd hml0 hP hK
  obtain ⟨rfl, hZ, hh⟩ := hP
  have hx := Bd.exec
  have hby := Bd.bytes
  have hml : c.maxLocals = 5 := hml0
  have hown : s.vm.findClass "com/example/bitlattice/bitlattice/eval/RelationGetPinLaw" = some m.cls := findClass_of_methodNamed Bd.named
  have hnm := (name_of_methodNamed Bd.named Bd.method).1
  have X0 : Stand p l e ({ frames := 0, cells := 1, slots := 3, locals := 0 } : Room) s m #[(.int (3 : Int32)), (.int p2), (.int p3), (.int p4)] below meth c s₁ [] 0 0 := Stand.of_body Bd
  have e0 : s₁.heap = h0 := by rw [← hh, Bd.state]; rfl
  have N0 := Fr.nil n0
  have K0 : Keep h0 h0 [] := Keep.refl h0 _
  refine Go.st (P := fun o U' => ∃ v L, o = .returned v ∧ Q1_3 Z p2 p3 p4 h0 n0 v U'.heap L ∧ FrameEnd s o U' L ({ frames := 0, cells := 1, slots := 3, locals := 0 } : Room).cells ({ frames := 0, cells := 1, slots := 3, locals := 0 } : Room).slots) (fun t k => castTop (ef1_3 m p2 p3 p4) k) ?_
  show Go _ _ _ (s₁.setTop (mkF m 0 #[.val (.int 3), .val (.int p2), .val (.int p3), .val (.int p4), .unset] [])) _
  refine Go.st (fun t k => XS.iloadN X0.here hx rfl (hb hby d1_0) rfl k) ?_
  obtain ⟨T1, h1, k1, X1, e1, E1, A1, st1⟩ := newP X0 hx hZ (aty := .int) (wd5 hw) e0 (g := (mkF m 1 #[.val (.int 3), .val (.int p2), .val (.int p3), .val (.int p4), .unset] [(.int 3)])) rfl (hb hby d1_1) rfl (by decide) (cap := 3) (by decide) (by decide) (by decide) (by decide)
  obtain ⟨b1, g1⟩ : ∃ z, z = h0.size := ⟨_, rfl⟩
  rw [← g1] at A1 st1
  refine Go.st st1 ?_
  have g_b1 : n0 ≤ b1 := Nat.le_trans Z0 (Nat.le_of_eq g1.symm)
  have sz_b1 : h0.size ≤ b1 := Nat.le_trans K0.1 (Nat.le_of_eq g1.symm)
  replace K0 := K0.ext E1
  replace Z0 := Nat.le_trans Z0 E1.1
  have V_b1 : Arv Z h1 b1 k1 .int (3 : Int32) [(.int (0 : Int32)), (.int (0 : Int32)), (.int (0 : Int32))] (.int (0 : Int32)) := (Arv.new A1 (by decide)).pad (pad_rep [] (.int (0 : Int32)) 3)
  show Go _ _ _ (T1.setTop (mkF m 3 #[.val (.int 3), .val (.int p2), .val (.int p3), .val (.int p4), .unset] [(.ref b1)])) _
  refine Go.st (fun t k => XS.astore X1.here hx rfl (hb hby d1_3) rfl rfl (l' := #[.val (.int 3), .val (.int p2), .val (.int p3), .val (.int p4), .val (.ref b1)]) rfl k) ?_
  refine Go.st (fun t k => XS.aload X1.here hx rfl (hb hby d1_5) rfl rfl k) ?_
  refine Go.st (fun t k => XS.iconst X1.here hx rfl (hb hby d1_7) k) ?_
  refine Go.st (fun t k => XS.iloadN X1.here hx rfl (hb hby d1_8) rfl k) ?_
  obtain ⟨cl2, Ar2, qq2, Sz2, Ng2, Hs2, Gs2⟩ := id V_b1
  have hin2 : ¬ ((0 : Int32) < 0 ∨ cl2.slots.size ≤ ((0 : Int32)).toNatClampNeg) := inb_of Sz2 ⟨by decide, by decide⟩
  obtain ⟨T3, h3, X3, e3, W3, st3⟩ := stI X1 hx hZ e1 Ar2 (j := (0 : Int32)) hin2 (g := (mkF m 9 #[.val (.int 3), .val (.int p2), .val (.int p3), .val (.int p4), .val (.ref b1)] [(.int p2), (.int 0), (.ref b1)])) rfl rfl (hb hby d1_9)
  refine Go.st st3 ?_
  have N3 := Fr.snoc X3 N0 g_b1
  replace Z0 := Nat.le_trans Z0 (Nat.le_of_eq W3.size.symm)
  replace K0 := K0.wr W3 (Or.inr sz_b1)
  replace V_b1 : Arv Z h3 b1 k1 .int (3 : Int32) [(.int p2), (.int (0 : Int32)), (.int (0 : Int32))] (.int (0 : Int32)) := Arv.set Ar2 qq2 Sz2 Ng2 Hs2 Gs2 rfl W3 0 rfl (Nat.le_of_ble_eq_true rfl)
  show Go _ _ _ (T3.setTop (mkF m 10 #[.val (.int 3), .val (.int p2), .val (.int p3), .val (.int p4), .val (.ref b1)] [])) _
  refine Go.st (fun t k => XS.iloadN X3.here hx rfl (hb hby d1_10) rfl k) ?_
  refine Go.st (fun t k => XS.iconst X3.here hx rfl (hb hby d1_11) k) ?_
  refine Go.st (fun t k => XS.icmpNo X3.here hx rfl (hb hby d1_12) rfl (tlt (by decide : (1 : Int32) < (3 : Int32))).2.2.2 k) ?_
  show Go _ _ _ (T3.setTop (mkF m 15 #[.val (.int 3), .val (.int p2), .val (.int p3), .val (.int p4), .val (.ref b1)] [])) _
  refine Go.st (fun t k => XS.aload X3.here hx rfl (hb hby d1_15) rfl rfl k) ?_
  refine Go.st (fun t k => XS.iconst X3.here hx rfl (hb hby d1_17) k) ?_
  refine Go.st (fun t k => XS.iloadN X3.here hx rfl (hb hby d1_18) rfl k) ?_
  obtain ⟨cl4, Ar4, qq4, Sz4, Ng4, Hs4, Gs4⟩ := id V_b1
  have hin4 : ¬ ((1 : Int32) < 0 ∨ cl4.slots.size ≤ ((1 : Int32)).toNatClampNeg) := inb_of Sz4 ⟨by decide, by decide⟩
  obtain ⟨T5, h5, X5, e5, W5, st5⟩ := stI X3 hx hZ e3 Ar4 (j := (1 : Int32)) hin4 (g := (mkF m 19 #[.val (.int 3), .val (.int p2), .val (.int p3), .val (.int p4), .val (.ref b1)] [(.int p3), (.int 1), (.ref b1)])) rfl rfl (hb hby d1_19)
  refine Go.st st5 ?_
  have N5 := Fr.snoc X5 N3 g_b1
  replace Z0 := Nat.le_trans Z0 (Nat.le_of_eq W5.size.symm)
  replace K0 := K0.wr W5 (Or.inr sz_b1)
  replace V_b1 : Arv Z h5 b1 k1 .int (3 : Int32) [(.int p2), (.int p3), (.int (0 : Int32))] (.int (0 : Int32)) := Arv.set Ar4 qq4 Sz4 Ng4 Hs4 Gs4 rfl W5 1 rfl (Nat.le_of_ble_eq_true rfl)
  show Go _ _ _ (T5.setTop (mkF m 20 #[.val (.int 3), .val (.int p2), .val (.int p3), .val (.int p4), .val (.ref b1)] [])) _
  refine Go.st (fun t k => XS.iloadN X5.here hx rfl (hb hby d1_20) rfl k) ?_
  refine Go.st (fun t k => XS.iconst X5.here hx rfl (hb hby d1_21) k) ?_
  refine Go.st (fun t k => XS.icmpNo X5.here hx rfl (hb hby d1_22) rfl (tlt (by decide : (2 : Int32) < (3 : Int32))).2.2.2 k) ?_
  show Go _ _ _ (T5.setTop (mkF m 25 #[.val (.int 3), .val (.int p2), .val (.int p3), .val (.int p4), .val (.ref b1)] [])) _
  refine Go.st (fun t k => XS.aload X5.here hx rfl (hb hby d1_25) rfl rfl k) ?_
  refine Go.st (fun t k => XS.iconst X5.here hx rfl (hb hby d1_27) k) ?_
  refine Go.st (fun t k => XS.iloadN X5.here hx rfl (hb hby d1_28) rfl k) ?_
  obtain ⟨cl6, Ar6, qq6, Sz6, Ng6, Hs6, Gs6⟩ := id V_b1
  have hin6 : ¬ ((2 : Int32) < 0 ∨ cl6.slots.size ≤ ((2 : Int32)).toNatClampNeg) := inb_of Sz6 ⟨by decide, by decide⟩
  obtain ⟨T7, h7, X7, e7, W7, st7⟩ := stI X5 hx hZ e5 Ar6 (j := (2 : Int32)) hin6 (g := (mkF m 29 #[.val (.int 3), .val (.int p2), .val (.int p3), .val (.int p4), .val (.ref b1)] [(.int p4), (.int 2), (.ref b1)])) rfl rfl (hb hby d1_29)
  refine Go.st st7 ?_
  have N7 := Fr.snoc X7 N5 g_b1
  replace Z0 := Nat.le_trans Z0 (Nat.le_of_eq W7.size.symm)
  replace K0 := K0.wr W7 (Or.inr sz_b1)
  replace V_b1 : Arv Z h7 b1 k1 .int (3 : Int32) [(.int p2), (.int p3), (.int p4)] (.int (0 : Int32)) := Arv.set Ar6 qq6 Sz6 Ng6 Hs6 Gs6 rfl W7 2 rfl (Nat.le_of_ble_eq_true rfl)
  show Go _ _ _ (T7.setTop (mkF m 30 #[.val (.int 3), .val (.int p2), .val (.int p3), .val (.int p4), .val (.ref b1)] [])) _
  refine Go.st (fun t k => XS.aload X7.here hx rfl (hb hby d1_30) rfl rfl k) ?_
  obtain ⟨fs, hr, hrun, hended, hW, hsame⟩ := X7.leave (v := some (.ref b1)) (fun h => by rw [Bd.returns] at h; cases h)
  refine Go.fin (retOut X7 hx Bd.returns rfl (Or.inr (Or.inr (Or.inr (Or.inr ⟨rfl, rfl, rfl⟩)))) (hb hby d1_32) hr) hrun hended ⟨_, _, rfl, ?_, ⟨_, rfl⟩, hW, hsame.mono (by decide) (by decide)⟩
  show Q1_3 Z p2 p3 p4 h0 n0 _ T7.heap _
  rw [e7]
  exact ⟨b1, k1, rfl, N7, K0, g_b1, sz_b1, V_b1⟩
def Q2_3 (Z : State) (a1 : Addr) (w_NI : Addr) (uI : Value) (uV : Value) (uA : Value) (h0 : Heap) (n0 : Nat) (v : Option Value) (h : Heap) (L : List Loc) : Prop := ∃ x2_3_0 : Addr, ∃ k_x2_3_0 : ClassId, v = none ∧ Fr n0 L ∧ Keep h0 h [a1] ∧ n0 ≤ x2_3_0 ∧ h0.size ≤ x2_3_0 ∧ Exa Z h a1 "com/example/bitlattice/bitlattice/eval/Relation" ∧ Fld Z h a1 "com/example/bitlattice/bitlattice/eval/Relation" "size" "I" (.int (0 : Int32)) ∧ Fld Z h a1 "com/example/bitlattice/bitlattice/eval/Relation" "members" "Lcom/example/bitlattice/bitlattice/eval/Relation$Index;" .null ∧ Fld Z h a1 "com/example/bitlattice/bitlattice/eval/Relation" "holdingAny" "I" (.int (0 : Int32)) ∧ Fld Z h a1 "com/example/bitlattice/bitlattice/eval/Relation" "indexes" "[Lcom/example/bitlattice/bitlattice/eval/Relation$Index;" (.ref w_NI) ∧ Fld Z h a1 "com/example/bitlattice/bitlattice/eval/Relation" "values" "[I" (.ref x2_3_0) ∧ Fld Z h a1 "com/example/bitlattice/bitlattice/eval/Relation" "arity" "I" (.int (3 : Int32)) ∧ Arv Z h x2_3_0 k_x2_3_0 .int (12 : Int32) [(.int (0 : Int32)), (.int (0 : Int32)), (.int (0 : Int32)), (.int (0 : Int32)), (.int (0 : Int32)), (.int (0 : Int32)), (.int (0 : Int32)), (.int (0 : Int32)), (.int (0 : Int32)), (.int (0 : Int32)), (.int (0 : Int32)), (.int (0 : Int32))] (.int (0 : Int32))
theorem ef2_3 (m : MethodId) (x0 : Addr) : entryFrame m #[(.ref x0), (.int (3 : Int32))] 2 = mkF m 0 #[.val (.ref x0), .val (.int (3 : Int32))] [] := by first | (simp [entryFrame, mkF, argsToLocals, Value.category]; done) | rfl
set_option maxRecDepth 65536 in
set_option maxHeartbeats 16000000 in
theorem rm2_3 (l : Launch) (Z : State) (a0 : Array Value) (hw : ∀ d ∈ tables_1, d.before a0 Z = true) (ws : List Jvm.Cond) (a1 : Addr) (w_NI : Addr) (uI : Value) (uV : Value) (uA : Value) (h0 : Heap) (n0 : Nat) (Z0 : n0 ≤ h0.size) (E_a1 : Exa Z h0 a1 "com/example/bitlattice/bitlattice/eval/Relation") (S_NI : Sta Z h0 "com/example/bitlattice/bitlattice/eval/Relation" "NO_INDEXES" "[Lcom/example/bitlattice/bitlattice/eval/Relation$Index;" (.ref w_NI)) (F_a1_size : Fld Z h0 a1 "com/example/bitlattice/bitlattice/eval/Relation" "size" "I" (.int (0 : Int32))) (F_a1_members : Fld Z h0 a1 "com/example/bitlattice/bitlattice/eval/Relation" "members" "Lcom/example/bitlattice/bitlattice/eval/Relation$Index;" .null) (F_a1_holdingAny : Fld Z h0 a1 "com/example/bitlattice/bitlattice/eval/Relation" "holdingAny" "I" (.int (0 : Int32))) (F_a1_indexes : Fld Z h0 a1 "com/example/bitlattice/bitlattice/eval/Relation" "indexes" "[Lcom/example/bitlattice/bitlattice/eval/Relation$Index;" uI) (F_a1_values : Fld Z h0 a1 "com/example/bitlattice/bitlattice/eval/Relation" "values" "[I" uV) (F_a1_arity : Fld Z h0 a1 "com/example/bitlattice/bitlattice/eval/Relation" "arity" "I" uA) (g_a1 : n0 ≤ a1) :
    MetFree l (⟨"com/example/bitlattice/bitlattice/eval/Relation", "<init>", "(I)V"⟩ : MethodName) (head1 (Jvm.Cond.code (⟨"com/example/bitlattice/bitlattice/eval/Relation", "<init>", "(I)V"⟩ : MethodName) prog_33_method_1_code 2 none :: ws) ({ frames := 1, cells := 1, slots := 12, locals := 12 } : Room)) (fun a U => a = #[(.ref a1), (.int (3 : Int32))] ∧ Z.Warmed39 U.vm ∧ U.heap = h0) (fun _ _ _ _ _ => True) (fun _ U o U' => ∃ v L, o = .returned v ∧ Q2_3 Z a1 w_NI uI uV uA h0 n0 v U'.heap L ∧ FrameEnd U o U' L ({ frames := 1, cells := 1, slots := 12, locals := 12 } : Room).cells ({ frames := 1, cells := 1, slots := 12, locals := 12 } : Room).slots) := by
  refine MetFree.of_bodySF (plainFor_of_name pn1) hisR ?_
  intro p e s m args below meth c s₁ Bd hml0 hP hK
  obtain ⟨rfl, hZ, hh⟩ := hP
  have hx := Bd.exec
  have hby := Bd.bytes
  have hml : c.maxLocals = 2 := hml0
  have hown : s.vm.findClass "com/example/bitlattice/bitlattice/eval/Relation" = some m.cls := findClass_of_methodNamed Bd.named
  have hnm := (name_of_methodNamed Bd.named Bd.method).1
  have X0 : Stand p l e ({ frames := 1, cells := 1, slots := 12, locals := 12 } : Room) s m #[(.ref a1), (.int (3 : Int32))] below meth c s₁ [] 0 0 := Stand.of_body Bd
  have e0 : s₁.heap = h0 := by rw [← hh, Bd.state]; rfl
  have N0 := Fr.nil n0
  have K0 : Keep h0 h0 [a1] := Keep.refl h0 _
  refine Go.st (P := fun o U' => ∃ v L, o = .returned v ∧ Q2_3 Z a1 w_NI uI uV uA h0 n0 v U'.heap L ∧ FrameEnd s o U' L ({ frames := 1, cells := 1, slots := 12, locals := 12 } : Room).cells ({ frames := 1, cells := 1, slots := 12, locals := 12 } : Room).slots) (fun t k => castTop (ef2_3 m a1) k) ?_
  show Go _ _ _ (s₁.setTop (mkF m 0 #[.val (.ref a1), .val (.int 3)] [])) _
  refine Go.st (fun t k => XS.aloadN X0.here hx rfl (hb hby d2_0) rfl rfl k) ?_
  obtain ⟨T1, X1, e1, st1⟩ := initO X0 hx hZ hown (wd12 hw) (wd13 hw) (wd14 hw) e0 (g := (mkF m 1 #[.val (.ref a1), .val (.int 3)] [(.ref a1)])) rfl (by rw [hml]; rfl) rfl (hb hby d2_1) (by decide) (W := 0) (by show 2 * 0 + _ ≤ _; exact Nat.le_of_eq rfl) (by decide)
  refine Go.st st1 ?_
  show Go _ _ _ (T1.setTop (mkF m 4 #[.val (.ref a1), .val (.int 3)] [])) _
  refine Go.st (fun t k => XS.aloadN X1.here hx rfl (hb hby d2_4) rfl rfl k) ?_
  obtain ⟨T2, X2, e2, st2⟩ := getS2 X1 hx hZ hown (host := "") (Or.inl (wd15 hw)) Via.refl e1 S_NI (g := (mkF m 5 #[.val (.ref a1), .val (.int 3)] [(.ref a1)])) rfl (hb hby d2_5)
  refine Go.st st2 ?_
  show Go _ _ _ (T2.setTop (mkF m 8 #[.val (.ref a1), .val (.int 3)] [(.ref w_NI), (.ref a1)])) _
  obtain ⟨T3, h3, X3, e3, W3, st3⟩ := putF X2 hx hZ hown (host := "") (Or.inl (wd17 hw)) Via.refl e2 F_a1_indexes E_a1 (Or.inl (wd18 hw)) (wd7 hw) (ty := (.array (.object "com/example/bitlattice/bitlattice/eval/Relation$Index"))) (by decide) rfl rfl (g := (mkF m 8 #[.val (.ref a1), .val (.int 3)] [(.ref w_NI), (.ref a1)])) rfl rfl (hb hby d2_8)
  refine Go.st st3 ?_
  have N3 := Fr.snoc X3 N0 g_a1
  replace E_a1 := E_a1.wr W3
  replace S_NI := S_NI.wr W3
  replace F_a1_size := F_a1_size.other W3 (Or.inr (slot_ne (Or.inl (wd36 hw)) (Or.inl (wd18 hw)) (by decide) (t := .int) (t' := (.array (.object "com/example/bitlattice/bitlattice/eval/Relation$Index"))) (by decide) (by decide)))
  replace F_a1_members := F_a1_members.other W3 (Or.inr (slot_ne (Or.inl (wd29 hw)) (Or.inl (wd18 hw)) (by decide) (t := (.object "com/example/bitlattice/bitlattice/eval/Relation$Index")) (t' := (.array (.object "com/example/bitlattice/bitlattice/eval/Relation$Index"))) (by decide) (by decide)))
  replace F_a1_holdingAny := F_a1_holdingAny.other W3 (Or.inr (slot_ne (Or.inl (wd55 hw)) (Or.inl (wd18 hw)) (by decide) (t := .int) (t' := (.array (.object "com/example/bitlattice/bitlattice/eval/Relation$Index"))) (by decide) (by decide)))
  replace F_a1_indexes := F_a1_indexes.same W3
  replace F_a1_values := F_a1_values.other W3 (Or.inr (slot_ne (Or.inl (wd22 hw)) (Or.inl (wd18 hw)) (by decide) (t := (.array .int)) (t' := (.array (.object "com/example/bitlattice/bitlattice/eval/Relation$Index"))) (by decide) (by decide)))
  replace F_a1_arity := F_a1_arity.other W3 (Or.inr (slot_ne (Or.inr (wd20 hw)) (Or.inl (wd18 hw)) (by decide) (t := .int) (t' := (.array (.object "com/example/bitlattice/bitlattice/eval/Relation$Index"))) (by decide) (by decide)))
  replace Z0 := Nat.le_trans Z0 (Nat.le_of_eq W3.size.symm)
  replace K0 := K0.wr W3 (Or.inl (by simp))
  show Go _ _ _ (T3.setTop (mkF m 11 #[.val (.ref a1), .val (.int 3)] [])) _
  refine Go.st (fun t k => XS.aloadN X3.here hx rfl (hb hby d2_11) rfl rfl k) ?_
  refine Go.st (fun t k => XS.iloadN X3.here hx rfl (hb hby d2_12) rfl k) ?_
  obtain ⟨T4, h4, X4, e4, W4, st4⟩ := putF X3 hx hZ hown (host := "") (Or.inl (wd19 hw)) Via.refl e3 F_a1_arity E_a1 (Or.inr ⟨(wd20 hw), rfl, hnm⟩) (wd7 hw) (ty := .int) (by decide) rfl rfl (g := (mkF m 13 #[.val (.ref a1), .val (.int 3)] [(.int 3), (.ref a1)])) rfl rfl (hb hby d2_13)
  refine Go.st st4 ?_
  have N4 := Fr.snoc X4 N3 g_a1
  replace E_a1 := E_a1.wr W4
  replace S_NI := S_NI.wr W4
  replace F_a1_size := F_a1_size.other W4 (Or.inr (slot_ne (Or.inl (wd36 hw)) (Or.inr (wd20 hw)) (by decide) (t := .int) (t' := .int) (by decide) (by decide)))
  replace F_a1_members := F_a1_members.other W4 (Or.inr (slot_ne (Or.inl (wd29 hw)) (Or.inr (wd20 hw)) (by decide) (t := (.object "com/example/bitlattice/bitlattice/eval/Relation$Index")) (t' := .int) (by decide) (by decide)))
  replace F_a1_holdingAny := F_a1_holdingAny.other W4 (Or.inr (slot_ne (Or.inl (wd55 hw)) (Or.inr (wd20 hw)) (by decide) (t := .int) (t' := .int) (by decide) (by decide)))
  replace F_a1_indexes := F_a1_indexes.other W4 (Or.inr (slot_ne (Or.inl (wd18 hw)) (Or.inr (wd20 hw)) (by decide) (t := (.array (.object "com/example/bitlattice/bitlattice/eval/Relation$Index"))) (t' := .int) (by decide) (by decide)))
  replace F_a1_values := F_a1_values.other W4 (Or.inr (slot_ne (Or.inl (wd22 hw)) (Or.inr (wd20 hw)) (by decide) (t := (.array .int)) (t' := .int) (by decide) (by decide)))
  replace F_a1_arity := F_a1_arity.same W4
  replace Z0 := Nat.le_trans Z0 (Nat.le_of_eq W4.size.symm)
  replace K0 := K0.wr W4 (Or.inl (by simp))
  show Go _ _ _ (T4.setTop (mkF m 16 #[.val (.ref a1), .val (.int 3)] [])) _
  refine Go.st (fun t k => XS.aloadN X4.here hx rfl (hb hby d2_16) rfl rfl k) ?_
  refine Go.st (fun t k => XS.iloadN X4.here hx rfl (hb hby d2_17) rfl k) ?_
  refine Go.st (fun t k => XS.iconst X4.here hx rfl (hb hby d2_18) k) ?_
  refine Go.st (fun t k => XS.imul X4.here hx rfl (hb hby d2_19) rfl k) ?_
  show Go _ _ _ (T4.setTop (mkF m 20 #[.val (.ref a1), .val (.int 3)] [(.int 12), (.ref a1)])) _
  obtain ⟨T5, h5, k5, X5, e5, E5, A5, st5⟩ := newP X4 hx hZ (aty := .int) (wd5 hw) e4 (g := (mkF m 20 #[.val (.ref a1), .val (.int 3)] [(.int 12), (.ref a1)])) rfl (hb hby d2_20) rfl (by decide) (cap := 12) (by decide) (by decide) (by decide) (by decide)
  obtain ⟨b5, g5⟩ : ∃ z, z = h4.size := ⟨_, rfl⟩
  rw [← g5] at A5 st5
  refine Go.st st5 ?_
  have ne_a1_b5 : a1 ≠ b5 := Nat.ne_of_lt (Nat.lt_of_lt_of_le E_a1.lt (Nat.le_of_eq g5.symm))
  have g_b5 : n0 ≤ b5 := Nat.le_trans Z0 (Nat.le_of_eq g5.symm)
  have sz_b5 : h0.size ≤ b5 := Nat.le_trans K0.1 (Nat.le_of_eq g5.symm)
  replace E_a1 := E_a1.ext E5
  replace S_NI := S_NI.ext E5
  replace F_a1_size := F_a1_size.ext E5
  replace F_a1_members := F_a1_members.ext E5
  replace F_a1_holdingAny := F_a1_holdingAny.ext E5
  replace F_a1_indexes := F_a1_indexes.ext E5
  replace F_a1_values := F_a1_values.ext E5
  replace F_a1_arity := F_a1_arity.ext E5
  replace K0 := K0.ext E5
  replace Z0 := Nat.le_trans Z0 E5.1
  have V_b5 : Arv Z h5 b5 k5 .int (12 : Int32) [(.int (0 : Int32)), (.int (0 : Int32)), (.int (0 : Int32)), (.int (0 : Int32)), (.int (0 : Int32)), (.int (0 : Int32)), (.int (0 : Int32)), (.int (0 : Int32)), (.int (0 : Int32)), (.int (0 : Int32)), (.int (0 : Int32)), (.int (0 : Int32))] (.int (0 : Int32)) := (Arv.new A5 (by decide)).pad (pad_rep [] (.int (0 : Int32)) 12)
  show Go _ _ _ (T5.setTop (mkF m 22 #[.val (.ref a1), .val (.int 3)] [(.ref b5), (.ref a1)])) _
  obtain ⟨T6, h6, X6, e6, W6, st6⟩ := putF X5 hx hZ hown (host := "") (Or.inl (wd21 hw)) Via.refl e5 F_a1_values E_a1 (Or.inl (wd22 hw)) (wd7 hw) (ty := (.array .int)) (by decide) rfl rfl (g := (mkF m 22 #[.val (.ref a1), .val (.int 3)] [(.ref b5), (.ref a1)])) rfl rfl (hb hby d2_22)
  refine Go.st st6 ?_
  have N6 := Fr.snoc X6 N4 g_a1
  replace E_a1 := E_a1.wr W6
  replace S_NI := S_NI.wr W6
  replace F_a1_size := F_a1_size.other W6 (Or.inr (slot_ne (Or.inl (wd36 hw)) (Or.inl (wd22 hw)) (by decide) (t := .int) (t' := (.array .int)) (by decide) (by decide)))
  replace F_a1_members := F_a1_members.other W6 (Or.inr (slot_ne (Or.inl (wd29 hw)) (Or.inl (wd22 hw)) (by decide) (t := (.object "com/example/bitlattice/bitlattice/eval/Relation$Index")) (t' := (.array .int)) (by decide) (by decide)))
  replace F_a1_holdingAny := F_a1_holdingAny.other W6 (Or.inr (slot_ne (Or.inl (wd55 hw)) (Or.inl (wd22 hw)) (by decide) (t := .int) (t' := (.array .int)) (by decide) (by decide)))
  replace F_a1_indexes := F_a1_indexes.other W6 (Or.inr (slot_ne (Or.inl (wd18 hw)) (Or.inl (wd22 hw)) (by decide) (t := (.array (.object "com/example/bitlattice/bitlattice/eval/Relation$Index"))) (t' := (.array .int)) (by decide) (by decide)))
  replace F_a1_values := F_a1_values.same W6
  replace F_a1_arity := F_a1_arity.other W6 (Or.inr (slot_ne (Or.inr (wd20 hw)) (Or.inl (wd22 hw)) (by decide) (t := .int) (t' := (.array .int)) (by decide) (by decide)))
  replace V_b5 := V_b5.other W6 (Ne.symm ne_a1_b5)
  replace Z0 := Nat.le_trans Z0 (Nat.le_of_eq W6.size.symm)
  replace K0 := K0.wr W6 (Or.inl (by simp))
  show Go _ _ _ (T6.setTop (mkF m 25 #[.val (.ref a1), .val (.int 3)] [])) _
  obtain ⟨fs, hr, hrun, hended, hW, hsame⟩ := X6.leave (v := none) (fun _ => rfl)
  refine Go.fin (X6.returnOut hx Bd.returns (hb hby d2_25) hr) hrun hended ⟨_, _, rfl, ?_, ⟨_, rfl⟩, hW, hsame.mono (by decide) (by decide)⟩
  show Q2_3 Z a1 w_NI uI uV uA h0 n0 _ T6.heap _
  rw [e6]
  exact ⟨b5, k5, rfl, N6, K0, g_b5, sz_b5, E_a1, F_a1_size, F_a1_members, F_a1_holdingAny, F_a1_indexes, F_a1_values, F_a1_arity, V_b5⟩
def f6_3 (v0 : Int32) (v1 : Int32) (v2 : Int32) (x0 : Int32) (x1 : Int32) (x2 : Int32) : Int32 := (if v0 = x0 then (if v1 = x1 then (if v2 = x2 then (1 : Int32) else (0 : Int32)) else (0 : Int32)) else (0 : Int32))
def Q6_3 (Z : State) (a1 : Addr) (a3 : Addr) (vals : Addr) (w_NI : Addr) (k_NI : ClassId) (hAny : Int32) (k_v : ClassId) (v0 : Int32) (v1 : Int32) (v2 : Int32) (v3 : Int32) (v4 : Int32) (v5 : Int32) (v6 : Int32) (v7 : Int32) (v8 : Int32) (v9 : Int32) (v10 : Int32) (v11 : Int32) (k_x : ClassId) (x0 : Int32) (x1 : Int32) (x2 : Int32) (h0 : Heap) (n0 : Nat) (v : Option Value) (h : Heap) (L : List Loc) : Prop := v = some (.int (f6_3 v0 v1 v2 x0 x1 x2)) ∧ Fr n0 L ∧ h = h0
theorem ef6_3 (m : MethodId) (x0 : Addr) (x2 : Addr) : entryFrame m #[(.ref x0), (.int (0 : Int32)), (.ref x2)] 4 = mkF m 0 #[.val (.ref x0), .val (.int (0 : Int32)), .val (.ref x2), .unset] [] := by first | (simp [entryFrame, mkF, argsToLocals, Value.category]; done) | rfl
set_option maxRecDepth 65536 in
set_option maxHeartbeats 16000000 in
theorem rm6_3 (l : Launch) (Z : State) (a0 : Array Value) (hw : ∀ d ∈ tables_1, d.before a0 Z = true) (ws : List Jvm.Cond) (a1 : Addr) (a3 : Addr) (vals : Addr) (w_NI : Addr) (k_NI : ClassId) (hAny : Int32) (k_v : ClassId) (v0 : Int32) (v1 : Int32) (v2 : Int32) (v3 : Int32) (v4 : Int32) (v5 : Int32) (v6 : Int32) (v7 : Int32) (v8 : Int32) (v9 : Int32) (v10 : Int32) (v11 : Int32) (k_x : ClassId) (x0 : Int32) (x1 : Int32) (x2 : Int32) (h0 : Heap) (n0 : Nat) (Z0 : n0 ≤ h0.size) (E_a1 : Exa Z h0 a1 "com/example/bitlattice/bitlattice/eval/Relation") (V_NI : Arv Z h0 w_NI k_NI (.object "com/example/bitlattice/bitlattice/eval/Relation$Index") (0 : Int32) [] .null) (F_a1_arity : Fld Z h0 a1 "com/example/bitlattice/bitlattice/eval/Relation" "arity" "I" (.int (3 : Int32))) (F_a1_values : Fld Z h0 a1 "com/example/bitlattice/bitlattice/eval/Relation" "values" "[I" (.ref vals)) (F_a1_size : Fld Z h0 a1 "com/example/bitlattice/bitlattice/eval/Relation" "size" "I" (.int (1 : Int32))) (F_a1_members : Fld Z h0 a1 "com/example/bitlattice/bitlattice/eval/Relation" "members" "Lcom/example/bitlattice/bitlattice/eval/Relation$Index;" .null) (F_a1_indexes : Fld Z h0 a1 "com/example/bitlattice/bitlattice/eval/Relation" "indexes" "[Lcom/example/bitlattice/bitlattice/eval/Relation$Index;" (.ref w_NI)) (F_a1_holdingAny : Fld Z h0 a1 "com/example/bitlattice/bitlattice/eval/Relation" "holdingAny" "I" (.int hAny)) (V_vals : Arv Z h0 vals k_v .int (12 : Int32) [(.int v0), (.int v1), (.int v2), (.int v3), (.int v4), (.int v5), (.int v6), (.int v7), (.int v8), (.int v9), (.int v10), (.int v11)] (.int (0 : Int32))) (V_row : Arv Z h0 a3 k_x .int (3 : Int32) [(.int x0), (.int x1), (.int x2)] (.int (0 : Int32))) (ne_vals_a1 : vals ≠ a1) (ne_a3_a1 : a3 ≠ a1) (ne_vals_a3 : vals ≠ a3) (ne_w_NI_a1 : w_NI ≠ a1) (ne_w_NI_vals : w_NI ≠ vals) (ne_w_NI_a3 : w_NI ≠ a3) :
    MetFree l (⟨"com/example/bitlattice/bitlattice/eval/Relation", "rowIs", "(I[I)Z"⟩ : MethodName) (head1 (Jvm.Cond.code (⟨"com/example/bitlattice/bitlattice/eval/Relation", "rowIs", "(I[I)Z"⟩ : MethodName) prog_33_method_16_code 4 (some .boolean) :: ws) ({ frames := 0, cells := 0, slots := 0, locals := 0 } : Room)) (fun a U => a = #[(.ref a1), (.int (0 : Int32)), (.ref a3)] ∧ Z.Warmed39 U.vm ∧ U.heap = h0) (fun _ _ _ _ _ => True) (fun _ U o U' => ∃ v L, o = .returned v ∧ Q6_3 Z a1 a3 vals w_NI k_NI hAny k_v v0 v1 v2 v3 v4 v5 v6 v7 v8 v9 v10 v11 k_x x0 x1 x2 h0 n0 v U'.heap L ∧ FrameEnd U o U' L ({ frames := 0, cells := 0, slots := 0, locals := 0 } : Room).cells ({ frames := 0, cells := 0, slots := 0, locals := 0 } : Room).slots) := by
  refine MetFree.of_bodySF (plainFor_of_name pn1) hisR ?_
  intro p e s m args below meth c s₁ Bd hml0 hP hK
  obtain ⟨rfl, hZ, hh⟩ := hP
  have hx := Bd.exec
  have hby := Bd.bytes
  have hml : c.maxLocals = 4 := hml0
  have hown : s.vm.findClass "com/example/bitlattice/bitlattice/eval/Relation" = some m.cls := findClass_of_methodNamed Bd.named
  have hnm := (name_of_methodNamed Bd.named Bd.method).1
  have X0 : Stand p l e ({ frames := 0, cells := 0, slots := 0, locals := 0 } : Room) s m #[(.ref a1), (.int (0 : Int32)), (.ref a3)] below meth c s₁ [] 0 0 := Stand.of_body Bd
  have e0 : s₁.heap = h0 := by rw [← hh, Bd.state]; rfl
  have N0 := Fr.nil n0
  have K0 : Keep h0 h0 [] := Keep.refl h0 _
  refine Go.st (P := fun o U' => ∃ v L, o = .returned v ∧ Q6_3 Z a1 a3 vals w_NI k_NI hAny k_v v0 v1 v2 v3 v4 v5 v6 v7 v8 v9 v10 v11 k_x x0 x1 x2 h0 n0 v U'.heap L ∧ FrameEnd s o U' L ({ frames := 0, cells := 0, slots := 0, locals := 0 } : Room).cells ({ frames := 0, cells := 0, slots := 0, locals := 0 } : Room).slots) (fun t k => castTop (ef6_3 m a1 a3) k) ?_
  show Go _ _ _ (s₁.setTop (mkF m 0 #[.val (.ref a1), .val (.int 0), .val (.ref a3), .unset] [])) _
  refine Go.st (fun t k => XS.iconst X0.here hx rfl (hb hby d6_0) k) ?_
  refine Go.st (fun t k => XS.istoreN X0.here hx rfl (hb hby d6_1) rfl (l' := #[.val (.ref a1), .val (.int 0), .val (.ref a3), .val (.int 0)]) rfl k) ?_
  refine Go.st (fun t k => XS.iloadN X0.here hx rfl (hb hby d6_2) rfl k) ?_
  refine Go.st (fun t k => XS.aloadN X0.here hx rfl (hb hby d6_3) rfl rfl k) ?_
  obtain ⟨T1, X1, e1, st1⟩ := getF X0 hx hZ hown (host := "") (Or.inl (wd19 hw)) Via.refl e0 F_a1_arity (g := (mkF m 4 #[.val (.ref a1), .val (.int 0), .val (.ref a3), .val (.int 0)] [(.ref a1), (.int 0)])) rfl rfl (hb hby d6_4)
  refine Go.st st1 ?_
  show Go _ _ _ (T1.setTop (mkF m 7 #[.val (.ref a1), .val (.int 0), .val (.ref a3), .val (.int 0)] [(.int 3), (.int 0)])) _
  refine Go.st (fun t k => XS.icmpNo X1.here hx rfl (hb hby d6_7) rfl (tlt (by decide : (0 : Int32) < (3 : Int32))).2.1 k) ?_
  show Go _ _ _ (T1.setTop (mkF m 10 #[.val (.ref a1), .val (.int 0), .val (.ref a3), .val (.int 0)] [])) _
  refine Go.st (fun t k => XS.aloadN X1.here hx rfl (hb hby d6_10) rfl rfl k) ?_
  obtain ⟨T2, X2, e2, st2⟩ := getF X1 hx hZ hown (host := "") (Or.inl (wd21 hw)) Via.refl e1 F_a1_values (g := (mkF m 11 #[.val (.ref a1), .val (.int 0), .val (.ref a3), .val (.int 0)] [(.ref a1)])) rfl rfl (hb hby d6_11)
  refine Go.st st2 ?_
  show Go _ _ _ (T2.setTop (mkF m 14 #[.val (.ref a1), .val (.int 0), .val (.ref a3), .val (.int 0)] [(.ref vals)])) _
  refine Go.st (fun t k => XS.iloadN X2.here hx rfl (hb hby d6_14) rfl k) ?_
  refine Go.st (fun t k => XS.aloadN X2.here hx rfl (hb hby d6_15) rfl rfl k) ?_
  obtain ⟨T3, X3, e3, st3⟩ := getF X2 hx hZ hown (host := "") (Or.inl (wd19 hw)) Via.refl e2 F_a1_arity (g := (mkF m 16 #[.val (.ref a1), .val (.int 0), .val (.ref a3), .val (.int 0)] [(.ref a1), (.int 0), (.ref vals)])) rfl rfl (hb hby d6_16)
  refine Go.st st3 ?_
  show Go _ _ _ (T3.setTop (mkF m 19 #[.val (.ref a1), .val (.int 0), .val (.ref a3), .val (.int 0)] [(.int 3), (.int 0), (.ref vals)])) _
  refine Go.st (fun t k => XS.imul X3.here hx rfl (hb hby d6_19) rfl k) ?_
  show Go _ _ _ (T3.setTop (mkF m 20 #[.val (.ref a1), .val (.int 0), .val (.ref a3), .val (.int 0)] [(.int 0), (.ref vals)])) _
  refine Go.st (fun t k => XS.iloadN X3.here hx rfl (hb hby d6_20) rfl k) ?_
  refine Go.st (fun t k => XS.iadd X3.here hx rfl (hb hby d6_21) rfl k) ?_
  show Go _ _ _ (T3.setTop (mkF m 22 #[.val (.ref a1), .val (.int 0), .val (.ref a3), .val (.int 0)] [(.int 0), (.ref vals)])) _
  obtain ⟨cl4, Ar4, -, Sz4, Ng4, Hs4, -⟩ := id V_vals
  have hin4 : ¬ ((0 : Int32) < 0 ∨ cl4.slots.size ≤ ((0 : Int32)).toNatClampNeg) := inb_of Sz4 ⟨by decide, by decide⟩
  refine Go.st (fun t k => X3.iaload hx (j := (0 : Int32)) (v := (.int v0)) (by rw [e3]; exact Ar4.1) (State.isArrayOf_alike hZ.alike Ar4.2.1) Ar4.2.2 hin4 (Has.at Hs4 hin4 rfl) (g := (mkF m 22 #[.val (.ref a1), .val (.int 0), .val (.ref a3), .val (.int 0)] [(.int 0), (.ref vals)])) rfl rfl (hb hby d6_22) _ k) ?_
  show Go _ _ _ (T3.setTop (mkF m 23 #[.val (.ref a1), .val (.int 0), .val (.ref a3), .val (.int 0)] [(.int v0)])) _
  refine Go.st (fun t k => XS.aloadN X3.here hx rfl (hb hby d6_23) rfl rfl k) ?_
  refine Go.st (fun t k => XS.iloadN X3.here hx rfl (hb hby d6_24) rfl k) ?_
  obtain ⟨cl5, Ar5, -, Sz5, Ng5, Hs5, -⟩ := id V_row
  have hin5 : ¬ ((0 : Int32) < 0 ∨ cl5.slots.size ≤ ((0 : Int32)).toNatClampNeg) := inb_of Sz5 ⟨by decide, by decide⟩
  refine Go.st (fun t k => X3.iaload hx (j := (0 : Int32)) (v := (.int x0)) (by rw [e3]; exact Ar5.1) (State.isArrayOf_alike hZ.alike Ar5.2.1) Ar5.2.2 hin5 (Has.at Hs5 hin5 rfl) (g := (mkF m 25 #[.val (.ref a1), .val (.int 0), .val (.ref a3), .val (.int 0)] [(.int 0), (.ref a3), (.int v0)])) rfl rfl (hb hby d6_25) _ k) ?_
  show Go _ _ _ (T3.setTop (mkF m 26 #[.val (.ref a1), .val (.int 0), .val (.ref a3), .val (.int 0)] [(.int x0), (.int v0)])) _
  by_cases hc6 : v0 = x0
  · refine Go.st (fun t k => XS.icmpYes X3.here hx rfl (pc0 := 26) (pc' := 31) rfl (hb hby d6_26) rfl (teq hc6).1 (by decide) (by decide) k) ?_
    show Go _ _ _ (T3.setTop (mkF m 31 #[.val (.ref a1), .val (.int 0), .val (.ref a3), .val (.int 0)] [])) _
    refine Go.st (fun t k => XS.iinc X3.here hx rfl (hb hby d6_31) rfl (l' := #[.val (.ref a1), .val (.int (0 : Int32)), .val (.ref a3), .val (.int ((0 : Int32) + (1 : Int32)))]) rfl k) ?_
    show Go _ _ _ (T3.setTop (mkF m 34 #[.val (.ref a1), .val (.int 0), .val (.ref a3), .val (.int 1)] [])) _
    refine Go.st (fun t k => XS.goto X3.here hx rfl (pc0 := 34) (pc' := 2) rfl (hb hby d6_34) (by decide) (by decide) k) ?_
    refine Go.st (fun t k => XS.iloadN X3.here hx rfl (hb hby d6_2) rfl k) ?_
    refine Go.st (fun t k => XS.aloadN X3.here hx rfl (hb hby d6_3) rfl rfl k) ?_
    obtain ⟨T7, X7, e7, st7⟩ := getF X3 hx hZ hown (host := "") (Or.inl (wd19 hw)) Via.refl e3 F_a1_arity (g := (mkF m 4 #[.val (.ref a1), .val (.int 0), .val (.ref a3), .val (.int 1)] [(.ref a1), (.int 1)])) rfl rfl (hb hby d6_4)
    refine Go.st st7 ?_
    show Go _ _ _ (T7.setTop (mkF m 7 #[.val (.ref a1), .val (.int 0), .val (.ref a3), .val (.int 1)] [(.int 3), (.int 1)])) _
    refine Go.st (fun t k => XS.icmpNo X7.here hx rfl (hb hby d6_7) rfl (tlt (by decide : (1 : Int32) < (3 : Int32))).2.1 k) ?_
    show Go _ _ _ (T7.setTop (mkF m 10 #[.val (.ref a1), .val (.int 0), .val (.ref a3), .val (.int 1)] [])) _
    refine Go.st (fun t k => XS.aloadN X7.here hx rfl (hb hby d6_10) rfl rfl k) ?_
    obtain ⟨T8, X8, e8, st8⟩ := getF X7 hx hZ hown (host := "") (Or.inl (wd21 hw)) Via.refl e7 F_a1_values (g := (mkF m 11 #[.val (.ref a1), .val (.int 0), .val (.ref a3), .val (.int 1)] [(.ref a1)])) rfl rfl (hb hby d6_11)
    refine Go.st st8 ?_
    show Go _ _ _ (T8.setTop (mkF m 14 #[.val (.ref a1), .val (.int 0), .val (.ref a3), .val (.int 1)] [(.ref vals)])) _
    refine Go.st (fun t k => XS.iloadN X8.here hx rfl (hb hby d6_14) rfl k) ?_
    refine Go.st (fun t k => XS.aloadN X8.here hx rfl (hb hby d6_15) rfl rfl k) ?_
    obtain ⟨T9, X9, e9, st9⟩ := getF X8 hx hZ hown (host := "") (Or.inl (wd19 hw)) Via.refl e8 F_a1_arity (g := (mkF m 16 #[.val (.ref a1), .val (.int 0), .val (.ref a3), .val (.int 1)] [(.ref a1), (.int 0), (.ref vals)])) rfl rfl (hb hby d6_16)
    refine Go.st st9 ?_
    show Go _ _ _ (T9.setTop (mkF m 19 #[.val (.ref a1), .val (.int 0), .val (.ref a3), .val (.int 1)] [(.int 3), (.int 0), (.ref vals)])) _
    refine Go.st (fun t k => XS.imul X9.here hx rfl (hb hby d6_19) rfl k) ?_
    show Go _ _ _ (T9.setTop (mkF m 20 #[.val (.ref a1), .val (.int 0), .val (.ref a3), .val (.int 1)] [(.int 0), (.ref vals)])) _
    refine Go.st (fun t k => XS.iloadN X9.here hx rfl (hb hby d6_20) rfl k) ?_
    refine Go.st (fun t k => XS.iadd X9.here hx rfl (hb hby d6_21) rfl k) ?_
    show Go _ _ _ (T9.setTop (mkF m 22 #[.val (.ref a1), .val (.int 0), .val (.ref a3), .val (.int 1)] [(.int 1), (.ref vals)])) _
    obtain ⟨cl10, Ar10, -, Sz10, Ng10, Hs10, -⟩ := id V_vals
    have hin10 : ¬ ((1 : Int32) < 0 ∨ cl10.slots.size ≤ ((1 : Int32)).toNatClampNeg) := inb_of Sz10 ⟨by decide, by decide⟩
    refine Go.st (fun t k => X9.iaload hx (j := (1 : Int32)) (v := (.int v1)) (by rw [e9]; exact Ar10.1) (State.isArrayOf_alike hZ.alike Ar10.2.1) Ar10.2.2 hin10 (Has.at Hs10 hin10 rfl) (g := (mkF m 22 #[.val (.ref a1), .val (.int 0), .val (.ref a3), .val (.int 1)] [(.int 1), (.ref vals)])) rfl rfl (hb hby d6_22) _ k) ?_
    show Go _ _ _ (T9.setTop (mkF m 23 #[.val (.ref a1), .val (.int 0), .val (.ref a3), .val (.int 1)] [(.int v1)])) _
    refine Go.st (fun t k => XS.aloadN X9.here hx rfl (hb hby d6_23) rfl rfl k) ?_
    refine Go.st (fun t k => XS.iloadN X9.here hx rfl (hb hby d6_24) rfl k) ?_
    obtain ⟨cl11, Ar11, -, Sz11, Ng11, Hs11, -⟩ := id V_row
    have hin11 : ¬ ((1 : Int32) < 0 ∨ cl11.slots.size ≤ ((1 : Int32)).toNatClampNeg) := inb_of Sz11 ⟨by decide, by decide⟩
    refine Go.st (fun t k => X9.iaload hx (j := (1 : Int32)) (v := (.int x1)) (by rw [e9]; exact Ar11.1) (State.isArrayOf_alike hZ.alike Ar11.2.1) Ar11.2.2 hin11 (Has.at Hs11 hin11 rfl) (g := (mkF m 25 #[.val (.ref a1), .val (.int 0), .val (.ref a3), .val (.int 1)] [(.int 1), (.ref a3), (.int v1)])) rfl rfl (hb hby d6_25) _ k) ?_
    show Go _ _ _ (T9.setTop (mkF m 26 #[.val (.ref a1), .val (.int 0), .val (.ref a3), .val (.int 1)] [(.int x1), (.int v1)])) _
    by_cases hc12 : v1 = x1
    · refine Go.st (fun t k => XS.icmpYes X9.here hx rfl (pc0 := 26) (pc' := 31) rfl (hb hby d6_26) rfl (teq hc12).1 (by decide) (by decide) k) ?_
      show Go _ _ _ (T9.setTop (mkF m 31 #[.val (.ref a1), .val (.int 0), .val (.ref a3), .val (.int 1)] [])) _
      refine Go.st (fun t k => XS.iinc X9.here hx rfl (hb hby d6_31) rfl (l' := #[.val (.ref a1), .val (.int (0 : Int32)), .val (.ref a3), .val (.int ((1 : Int32) + (1 : Int32)))]) rfl k) ?_
      show Go _ _ _ (T9.setTop (mkF m 34 #[.val (.ref a1), .val (.int 0), .val (.ref a3), .val (.int 2)] [])) _
      refine Go.st (fun t k => XS.goto X9.here hx rfl (pc0 := 34) (pc' := 2) rfl (hb hby d6_34) (by decide) (by decide) k) ?_
      refine Go.st (fun t k => XS.iloadN X9.here hx rfl (hb hby d6_2) rfl k) ?_
      refine Go.st (fun t k => XS.aloadN X9.here hx rfl (hb hby d6_3) rfl rfl k) ?_
      obtain ⟨T13, X13, e13, st13⟩ := getF X9 hx hZ hown (host := "") (Or.inl (wd19 hw)) Via.refl e9 F_a1_arity (g := (mkF m 4 #[.val (.ref a1), .val (.int 0), .val (.ref a3), .val (.int 2)] [(.ref a1), (.int 2)])) rfl rfl (hb hby d6_4)
      refine Go.st st13 ?_
      show Go _ _ _ (T13.setTop (mkF m 7 #[.val (.ref a1), .val (.int 0), .val (.ref a3), .val (.int 2)] [(.int 3), (.int 2)])) _
      refine Go.st (fun t k => XS.icmpNo X13.here hx rfl (hb hby d6_7) rfl (tlt (by decide : (2 : Int32) < (3 : Int32))).2.1 k) ?_
      show Go _ _ _ (T13.setTop (mkF m 10 #[.val (.ref a1), .val (.int 0), .val (.ref a3), .val (.int 2)] [])) _
      refine Go.st (fun t k => XS.aloadN X13.here hx rfl (hb hby d6_10) rfl rfl k) ?_
      obtain ⟨T14, X14, e14, st14⟩ := getF X13 hx hZ hown (host := "") (Or.inl (wd21 hw)) Via.refl e13 F_a1_values (g := (mkF m 11 #[.val (.ref a1), .val (.int 0), .val (.ref a3), .val (.int 2)] [(.ref a1)])) rfl rfl (hb hby d6_11)
      refine Go.st st14 ?_
      show Go _ _ _ (T14.setTop (mkF m 14 #[.val (.ref a1), .val (.int 0), .val (.ref a3), .val (.int 2)] [(.ref vals)])) _
      refine Go.st (fun t k => XS.iloadN X14.here hx rfl (hb hby d6_14) rfl k) ?_
      refine Go.st (fun t k => XS.aloadN X14.here hx rfl (hb hby d6_15) rfl rfl k) ?_
      obtain ⟨T15, X15, e15, st15⟩ := getF X14 hx hZ hown (host := "") (Or.inl (wd19 hw)) Via.refl e14 F_a1_arity (g := (mkF m 16 #[.val (.ref a1), .val (.int 0), .val (.ref a3), .val (.int 2)] [(.ref a1), (.int 0), (.ref vals)])) rfl rfl (hb hby d6_16)
      refine Go.st st15 ?_
      show Go _ _ _ (T15.setTop (mkF m 19 #[.val (.ref a1), .val (.int 0), .val (.ref a3), .val (.int 2)] [(.int 3), (.int 0), (.ref vals)])) _
      refine Go.st (fun t k => XS.imul X15.here hx rfl (hb hby d6_19) rfl k) ?_
      show Go _ _ _ (T15.setTop (mkF m 20 #[.val (.ref a1), .val (.int 0), .val (.ref a3), .val (.int 2)] [(.int 0), (.ref vals)])) _
      refine Go.st (fun t k => XS.iloadN X15.here hx rfl (hb hby d6_20) rfl k) ?_
      refine Go.st (fun t k => XS.iadd X15.here hx rfl (hb hby d6_21) rfl k) ?_
      show Go _ _ _ (T15.setTop (mkF m 22 #[.val (.ref a1), .val (.int 0), .val (.ref a3), .val (.int 2)] [(.int 2), (.ref vals)])) _
      obtain ⟨cl16, Ar16, -, Sz16, Ng16, Hs16, -⟩ := id V_vals
      have hin16 : ¬ ((2 : Int32) < 0 ∨ cl16.slots.size ≤ ((2 : Int32)).toNatClampNeg) := inb_of Sz16 ⟨by decide, by decide⟩
      refine Go.st (fun t k => X15.iaload hx (j := (2 : Int32)) (v := (.int v2)) (by rw [e15]; exact Ar16.1) (State.isArrayOf_alike hZ.alike Ar16.2.1) Ar16.2.2 hin16 (Has.at Hs16 hin16 rfl) (g := (mkF m 22 #[.val (.ref a1), .val (.int 0), .val (.ref a3), .val (.int 2)] [(.int 2), (.ref vals)])) rfl rfl (hb hby d6_22) _ k) ?_
      show Go _ _ _ (T15.setTop (mkF m 23 #[.val (.ref a1), .val (.int 0), .val (.ref a3), .val (.int 2)] [(.int v2)])) _
      refine Go.st (fun t k => XS.aloadN X15.here hx rfl (hb hby d6_23) rfl rfl k) ?_
      refine Go.st (fun t k => XS.iloadN X15.here hx rfl (hb hby d6_24) rfl k) ?_
      obtain ⟨cl17, Ar17, -, Sz17, Ng17, Hs17, -⟩ := id V_row
      have hin17 : ¬ ((2 : Int32) < 0 ∨ cl17.slots.size ≤ ((2 : Int32)).toNatClampNeg) := inb_of Sz17 ⟨by decide, by decide⟩
      refine Go.st (fun t k => X15.iaload hx (j := (2 : Int32)) (v := (.int x2)) (by rw [e15]; exact Ar17.1) (State.isArrayOf_alike hZ.alike Ar17.2.1) Ar17.2.2 hin17 (Has.at Hs17 hin17 rfl) (g := (mkF m 25 #[.val (.ref a1), .val (.int 0), .val (.ref a3), .val (.int 2)] [(.int 2), (.ref a3), (.int v2)])) rfl rfl (hb hby d6_25) _ k) ?_
      show Go _ _ _ (T15.setTop (mkF m 26 #[.val (.ref a1), .val (.int 0), .val (.ref a3), .val (.int 2)] [(.int x2), (.int v2)])) _
      by_cases hc18 : v2 = x2
      · refine Go.st (fun t k => XS.icmpYes X15.here hx rfl (pc0 := 26) (pc' := 31) rfl (hb hby d6_26) rfl (teq hc18).1 (by decide) (by decide) k) ?_
        show Go _ _ _ (T15.setTop (mkF m 31 #[.val (.ref a1), .val (.int 0), .val (.ref a3), .val (.int 2)] [])) _
        refine Go.st (fun t k => XS.iinc X15.here hx rfl (hb hby d6_31) rfl (l' := #[.val (.ref a1), .val (.int (0 : Int32)), .val (.ref a3), .val (.int ((2 : Int32) + (1 : Int32)))]) rfl k) ?_
        show Go _ _ _ (T15.setTop (mkF m 34 #[.val (.ref a1), .val (.int 0), .val (.ref a3), .val (.int 3)] [])) _
        refine Go.st (fun t k => XS.goto X15.here hx rfl (pc0 := 34) (pc' := 2) rfl (hb hby d6_34) (by decide) (by decide) k) ?_
        refine Go.st (fun t k => XS.iloadN X15.here hx rfl (hb hby d6_2) rfl k) ?_
        refine Go.st (fun t k => XS.aloadN X15.here hx rfl (hb hby d6_3) rfl rfl k) ?_
        obtain ⟨T19, X19, e19, st19⟩ := getF X15 hx hZ hown (host := "") (Or.inl (wd19 hw)) Via.refl e15 F_a1_arity (g := (mkF m 4 #[.val (.ref a1), .val (.int 0), .val (.ref a3), .val (.int 3)] [(.ref a1), (.int 3)])) rfl rfl (hb hby d6_4)
        refine Go.st st19 ?_
        show Go _ _ _ (T19.setTop (mkF m 7 #[.val (.ref a1), .val (.int 0), .val (.ref a3), .val (.int 3)] [(.int 3), (.int 3)])) _
        refine Go.st (fun t k => XS.icmpYes X19.here hx rfl (pc0 := 7) (pc' := 37) rfl (hb hby d6_7) rfl (flt (by decide : ¬ ((3 : Int32) < (3 : Int32)))).2.1 (by decide) (by decide) k) ?_
        show Go _ _ _ (T19.setTop (mkF m 37 #[.val (.ref a1), .val (.int 0), .val (.ref a3), .val (.int 3)] [])) _
        refine Go.st (fun t k => XS.iconst X19.here hx rfl (hb hby d6_37) k) ?_
        obtain ⟨fs, hr, hrun, hended, hW, hsame⟩ := X19.leave (v := some (.int (1 : Int32))) (fun h => by rw [Bd.returns] at h; cases h)
        refine Go.fin (retN X19 hx (t := .boolean) Bd.returns (by simp) (hb hby d6_38) hr) hrun hended ⟨_, _, rfl, ?_, ⟨_, rfl⟩, hW, hsame.mono (by decide) (by decide)⟩
        show Q6_3 Z a1 a3 vals w_NI k_NI hAny k_v v0 v1 v2 v3 v4 v5 v6 v7 v8 v9 v10 v11 k_x x0 x1 x2 h0 n0 _ T19.heap _
        rw [e19]
        exact ⟨(by unfold f6_3; simp only [if_pos hc6, if_pos hc12, if_pos hc18]), N0, rfl⟩
      · refine Go.st (fun t k => XS.icmpNo X15.here hx rfl (hb hby d6_26) rfl (feq hc18).1 k) ?_
        show Go _ _ _ (T15.setTop (mkF m 29 #[.val (.ref a1), .val (.int 0), .val (.ref a3), .val (.int 2)] [])) _
        refine Go.st (fun t k => XS.iconst X15.here hx rfl (hb hby d6_29) k) ?_
        obtain ⟨fs, hr, hrun, hended, hW, hsame⟩ := X15.leave (v := some (.int (0 : Int32))) (fun h => by rw [Bd.returns] at h; cases h)
        refine Go.fin (retN X15 hx (t := .boolean) Bd.returns (by simp) (hb hby d6_30) hr) hrun hended ⟨_, _, rfl, ?_, ⟨_, rfl⟩, hW, hsame.mono (by decide) (by decide)⟩
        show Q6_3 Z a1 a3 vals w_NI k_NI hAny k_v v0 v1 v2 v3 v4 v5 v6 v7 v8 v9 v10 v11 k_x x0 x1 x2 h0 n0 _ T15.heap _
        rw [e15]
        exact ⟨(by unfold f6_3; simp only [if_pos hc6, if_pos hc12, if_neg hc18]), N0, rfl⟩
    · refine Go.st (fun t k => XS.icmpNo X9.here hx rfl (hb hby d6_26) rfl (feq hc12).1 k) ?_
      show Go _ _ _ (T9.setTop (mkF m 29 #[.val (.ref a1), .val (.int 0), .val (.ref a3), .val (.int 1)] [])) _
      refine Go.st (fun t k => XS.iconst X9.here hx rfl (hb hby d6_29) k) ?_
      obtain ⟨fs, hr, hrun, hended, hW, hsame⟩ := X9.leave (v := some (.int (0 : Int32))) (fun h => by rw [Bd.returns] at h; cases h)
      refine Go.fin (retN X9 hx (t := .boolean) Bd.returns (by simp) (hb hby d6_30) hr) hrun hended ⟨_, _, rfl, ?_, ⟨_, rfl⟩, hW, hsame.mono (by decide) (by decide)⟩
      show Q6_3 Z a1 a3 vals w_NI k_NI hAny k_v v0 v1 v2 v3 v4 v5 v6 v7 v8 v9 v10 v11 k_x x0 x1 x2 h0 n0 _ T9.heap _
      rw [e9]
      exact ⟨(by unfold f6_3; simp only [if_pos hc6, if_neg hc12]), N0, rfl⟩
  · refine Go.st (fun t k => XS.icmpNo X3.here hx rfl (hb hby d6_26) rfl (feq hc6).1 k) ?_
    show Go _ _ _ (T3.setTop (mkF m 29 #[.val (.ref a1), .val (.int 0), .val (.ref a3), .val (.int 0)] [])) _
    refine Go.st (fun t k => XS.iconst X3.here hx rfl (hb hby d6_29) k) ?_
    obtain ⟨fs, hr, hrun, hended, hW, hsame⟩ := X3.leave (v := some (.int (0 : Int32))) (fun h => by rw [Bd.returns] at h; cases h)
    refine Go.fin (retN X3 hx (t := .boolean) Bd.returns (by simp) (hb hby d6_30) hr) hrun hended ⟨_, _, rfl, ?_, ⟨_, rfl⟩, hW, hsame.mono (by decide) (by decide)⟩
    show Q6_3 Z a1 a3 vals w_NI k_NI hAny k_v v0 v1 v2 v3 v4 v5 v6 v7 v8 v9 v10 v11 k_x x0 x1 x2 h0 n0 _ T3.heap _
    rw [e3]
    exact ⟨(by unfold f6_3; simp only [if_neg hc6]), N0, rfl⟩
def Q5_3_0 (Z : State) (a1 : Addr) (a2 : Addr) (vals : Addr) (w_NI : Addr) (k_NI : ClassId) (hAny : Int32) (k_v : ClassId) (v0 : Int32) (v1 : Int32) (v2 : Int32) (v3 : Int32) (v4 : Int32) (v5 : Int32) (v6 : Int32) (v7 : Int32) (v8 : Int32) (v9 : Int32) (v10 : Int32) (v11 : Int32) (k_x : ClassId) (x0 : Int32) (x1 : Int32) (x2 : Int32) (h0 : Heap) (n0 : Nat) (v : Option Value) (h : Heap) (L : List Loc) : Prop := v = some (.int (0 : Int32)) ∧ Fr n0 L ∧ h = h0
theorem ef5_3_0 (m : MethodId) (x0 : Addr) (x1 : Addr) : entryFrame m #[(.ref x0), (.ref x1)] 3 = mkF m 0 #[.val (.ref x0), .val (.ref x1), .unset] [] := by first | (simp [entryFrame, mkF, argsToLocals, Value.category]; done) | rfl
set_option maxRecDepth 65536 in
set_option maxHeartbeats 16000000 in
theorem rm5_3_0 (l : Launch) (Z : State) (a0 : Array Value) (hw : ∀ d ∈ tables_1, d.before a0 Z = true) (ws : List Jvm.Cond) (a1 : Addr) (a2 : Addr) (vals : Addr) (w_NI : Addr) (k_NI : ClassId) (hAny : Int32) (k_v : ClassId) (v0 : Int32) (v1 : Int32) (v2 : Int32) (v3 : Int32) (v4 : Int32) (v5 : Int32) (v6 : Int32) (v7 : Int32) (v8 : Int32) (v9 : Int32) (v10 : Int32) (v11 : Int32) (k_x : ClassId) (x0 : Int32) (x1 : Int32) (x2 : Int32) (h0 : Heap) (n0 : Nat) (Z0 : n0 ≤ h0.size) (E_a1 : Exa Z h0 a1 "com/example/bitlattice/bitlattice/eval/Relation") (V_NI : Arv Z h0 w_NI k_NI (.object "com/example/bitlattice/bitlattice/eval/Relation$Index") (0 : Int32) [] .null) (F_a1_arity : Fld Z h0 a1 "com/example/bitlattice/bitlattice/eval/Relation" "arity" "I" (.int (3 : Int32))) (F_a1_values : Fld Z h0 a1 "com/example/bitlattice/bitlattice/eval/Relation" "values" "[I" (.ref vals)) (F_a1_size : Fld Z h0 a1 "com/example/bitlattice/bitlattice/eval/Relation" "size" "I" (.int (0 : Int32))) (F_a1_members : Fld Z h0 a1 "com/example/bitlattice/bitlattice/eval/Relation" "members" "Lcom/example/bitlattice/bitlattice/eval/Relation$Index;" .null) (F_a1_indexes : Fld Z h0 a1 "com/example/bitlattice/bitlattice/eval/Relation" "indexes" "[Lcom/example/bitlattice/bitlattice/eval/Relation$Index;" (.ref w_NI)) (F_a1_holdingAny : Fld Z h0 a1 "com/example/bitlattice/bitlattice/eval/Relation" "holdingAny" "I" (.int hAny)) (V_vals : Arv Z h0 vals k_v .int (12 : Int32) [(.int v0), (.int v1), (.int v2), (.int v3), (.int v4), (.int v5), (.int v6), (.int v7), (.int v8), (.int v9), (.int v10), (.int v11)] (.int (0 : Int32))) (V_row : Arv Z h0 a2 k_x .int (3 : Int32) [(.int x0), (.int x1), (.int x2)] (.int (0 : Int32))) (ne_vals_a1 : vals ≠ a1) (ne_a2_a1 : a2 ≠ a1) (ne_vals_a2 : vals ≠ a2) (ne_w_NI_a1 : w_NI ≠ a1) (ne_w_NI_vals : w_NI ≠ vals) (ne_w_NI_a2 : w_NI ≠ a2) :
    MetFree l (⟨"com/example/bitlattice/bitlattice/eval/Relation", "contains", "([I)Z"⟩ : MethodName) (head1 (Jvm.Cond.code (⟨"com/example/bitlattice/bitlattice/eval/Relation", "contains", "([I)Z"⟩ : MethodName) prog_33_method_15_code 3 (some .boolean) :: ws) ({ frames := 0, cells := 0, slots := 0, locals := 0 } : Room)) (fun a U => a = #[(.ref a1), (.ref a2)] ∧ Z.Warmed39 U.vm ∧ U.heap = h0) (fun _ _ _ _ _ => True) (fun _ U o U' => ∃ v L, o = .returned v ∧ Q5_3_0 Z a1 a2 vals w_NI k_NI hAny k_v v0 v1 v2 v3 v4 v5 v6 v7 v8 v9 v10 v11 k_x x0 x1 x2 h0 n0 v U'.heap L ∧ FrameEnd U o U' L ({ frames := 0, cells := 0, slots := 0, locals := 0 } : Room).cells ({ frames := 0, cells := 0, slots := 0, locals := 0 } : Room).slots) := by
  refine MetFree.of_bodySF (plainFor_of_name pn1) hisR ?_
  intro p e s m args below meth c s₁ Bd hml0 hP hK
  obtain ⟨rfl, hZ, hh⟩ := hP
  have hx := Bd.exec
  have hby := Bd.bytes
  have hml : c.maxLocals = 3 := hml0
  have hown : s.vm.findClass "com/example/bitlattice/bitlattice/eval/Relation" = some m.cls := findClass_of_methodNamed Bd.named
  have hnm := (name_of_methodNamed Bd.named Bd.method).1
  have X0 : Stand p l e ({ frames := 0, cells := 0, slots := 0, locals := 0 } : Room) s m #[(.ref a1), (.ref a2)] below meth c s₁ [] 0 0 := Stand.of_body Bd
  have e0 : s₁.heap = h0 := by rw [← hh, Bd.state]; rfl
  have N0 := Fr.nil n0
  have K0 : Keep h0 h0 [] := Keep.refl h0 _
  refine Go.st (P := fun o U' => ∃ v L, o = .returned v ∧ Q5_3_0 Z a1 a2 vals w_NI k_NI hAny k_v v0 v1 v2 v3 v4 v5 v6 v7 v8 v9 v10 v11 k_x x0 x1 x2 h0 n0 v U'.heap L ∧ FrameEnd s o U' L ({ frames := 0, cells := 0, slots := 0, locals := 0 } : Room).cells ({ frames := 0, cells := 0, slots := 0, locals := 0 } : Room).slots) (fun t k => castTop (ef5_3_0 m a1 a2) k) ?_
  show Go _ _ _ (s₁.setTop (mkF m 0 #[.val (.ref a1), .val (.ref a2), .unset] [])) _
  refine Go.st (fun t k => XS.aloadN X0.here hx rfl (hb hby d5_0) rfl rfl k) ?_
  obtain ⟨T1, X1, e1, st1⟩ := getF X0 hx hZ hown (host := "") (Or.inl (wd28 hw)) Via.refl e0 F_a1_members (g := (mkF m 1 #[.val (.ref a1), .val (.ref a2), .unset] [(.ref a1)])) rfl rfl (hb hby d5_1)
  refine Go.st st1 ?_
  show Go _ _ _ (T1.setTop (mkF m 4 #[.val (.ref a1), .val (.ref a2), .unset] [.null])) _
  refine Go.st (fun t k => XS.ifnullYes X1.here hx rfl (pc0 := 4) (pc' := 24) rfl (hb hby d5_4) rfl (by decide) (by decide) k) ?_
  show Go _ _ _ (T1.setTop (mkF m 24 #[.val (.ref a1), .val (.ref a2), .unset] [])) _
  refine Go.st (fun t k => XS.iconst X1.here hx rfl (hb hby d5_24) k) ?_
  refine Go.st (fun t k => XS.istoreN X1.here hx rfl (hb hby d5_25) rfl (l' := #[.val (.ref a1), .val (.ref a2), .val (.int 0)]) rfl k) ?_
  refine Go.st (fun t k => XS.iloadN X1.here hx rfl (hb hby d5_26) rfl k) ?_
  refine Go.st (fun t k => XS.aloadN X1.here hx rfl (hb hby d5_27) rfl rfl k) ?_
  obtain ⟨T2, X2, e2, st2⟩ := getF X1 hx hZ hown (host := "") (Or.inl (wd35 hw)) Via.refl e1 F_a1_size (g := (mkF m 28 #[.val (.ref a1), .val (.ref a2), .val (.int 0)] [(.ref a1), (.int 0)])) rfl rfl (hb hby d5_28)
  refine Go.st st2 ?_
  show Go _ _ _ (T2.setTop (mkF m 31 #[.val (.ref a1), .val (.ref a2), .val (.int 0)] [(.int 0), (.int 0)])) _
  refine Go.st (fun t k => XS.icmpYes X2.here hx rfl (pc0 := 31) (pc' := 51) rfl (hb hby d5_31) rfl (flt (by decide : ¬ ((0 : Int32) < (0 : Int32)))).2.1 (by decide) (by decide) k) ?_
  show Go _ _ _ (T2.setTop (mkF m 51 #[.val (.ref a1), .val (.ref a2), .val (.int 0)] [])) _
  refine Go.st (fun t k => XS.iconst X2.here hx rfl (hb hby d5_51) k) ?_
  obtain ⟨fs, hr, hrun, hended, hW, hsame⟩ := X2.leave (v := some (.int (0 : Int32))) (fun h => by rw [Bd.returns] at h; cases h)
  refine Go.fin (retN X2 hx (t := .boolean) Bd.returns (by simp) (hb hby d5_52) hr) hrun hended ⟨_, _, rfl, ?_, ⟨_, rfl⟩, hW, hsame.mono (by decide) (by decide)⟩
  show Q5_3_0 Z a1 a2 vals w_NI k_NI hAny k_v v0 v1 v2 v3 v4 v5 v6 v7 v8 v9 v10 v11 k_x x0 x1 x2 h0 n0 _ T2.heap _
  rw [e2]
  exact ⟨rfl, N0, rfl⟩
def Q4_3_0 (Z : State) (a1 : Addr) (a2 : Addr) (vals : Addr) (w_NI : Addr) (k_NI : ClassId) (hAny : Int32) (k_v : ClassId) (v0 : Int32) (v1 : Int32) (v2 : Int32) (v3 : Int32) (v4 : Int32) (v5 : Int32) (v6 : Int32) (v7 : Int32) (v8 : Int32) (v9 : Int32) (v10 : Int32) (v11 : Int32) (k_x : ClassId) (x0 : Int32) (x1 : Int32) (x2 : Int32) (h0 : Heap) (n0 : Nat) (v : Option Value) (h : Heap) (L : List Loc) : Prop := ∃ z_4_3_0_holdingAny : Int32, v = some (.int (1 : Int32)) ∧ Fr n0 L ∧ Keep h0 h [vals, a1] ∧ Exa Z h a1 "com/example/bitlattice/bitlattice/eval/Relation" ∧ Fld Z h a1 "com/example/bitlattice/bitlattice/eval/Relation" "arity" "I" (.int (3 : Int32)) ∧ Fld Z h a1 "com/example/bitlattice/bitlattice/eval/Relation" "values" "[I" (.ref vals) ∧ Fld Z h a1 "com/example/bitlattice/bitlattice/eval/Relation" "size" "I" (.int (1 : Int32)) ∧ Fld Z h a1 "com/example/bitlattice/bitlattice/eval/Relation" "members" "Lcom/example/bitlattice/bitlattice/eval/Relation$Index;" .null ∧ Fld Z h a1 "com/example/bitlattice/bitlattice/eval/Relation" "indexes" "[Lcom/example/bitlattice/bitlattice/eval/Relation$Index;" (.ref w_NI) ∧ Fld Z h a1 "com/example/bitlattice/bitlattice/eval/Relation" "holdingAny" "I" (.int z_4_3_0_holdingAny) ∧ Arv Z h vals k_v .int (12 : Int32) [(.int x0), (.int x1), (.int x2), (.int v3), (.int v4), (.int v5), (.int v6), (.int v7), (.int v8), (.int v9), (.int v10), (.int v11)] (.int (0 : Int32))
theorem ef4_3_0 (m : MethodId) (x0 : Addr) (x1 : Addr) : entryFrame m #[(.ref x0), (.ref x1)] 7 = mkF m 0 #[.val (.ref x0), .val (.ref x1), .unset, .unset, .unset, .unset, .unset] [] := by first | (simp [entryFrame, mkF, argsToLocals, Value.category]; done) | rfl
set_option maxRecDepth 65536 in
set_option maxHeartbeats 16000000 in
theorem rm4_3_0 (l : Launch) (Z : State) (a0 : Array Value) (hw : ∀ d ∈ tables_1, d.before a0 Z = true) (ws : List Jvm.Cond) (a1 : Addr) (a2 : Addr) (vals : Addr) (w_NI : Addr) (k_NI : ClassId) (hAny : Int32) (k_v : ClassId) (v0 : Int32) (v1 : Int32) (v2 : Int32) (v3 : Int32) (v4 : Int32) (v5 : Int32) (v6 : Int32) (v7 : Int32) (v8 : Int32) (v9 : Int32) (v10 : Int32) (v11 : Int32) (k_x : ClassId) (x0 : Int32) (x1 : Int32) (x2 : Int32) (h0 : Heap) (n0 : Nat) (Z0 : n0 ≤ h0.size) (E_a1 : Exa Z h0 a1 "com/example/bitlattice/bitlattice/eval/Relation") (V_NI : Arv Z h0 w_NI k_NI (.object "com/example/bitlattice/bitlattice/eval/Relation$Index") (0 : Int32) [] .null) (F_a1_arity : Fld Z h0 a1 "com/example/bitlattice/bitlattice/eval/Relation" "arity" "I" (.int (3 : Int32))) (F_a1_values : Fld Z h0 a1 "com/example/bitlattice/bitlattice/eval/Relation" "values" "[I" (.ref vals)) (F_a1_size : Fld Z h0 a1 "com/example/bitlattice/bitlattice/eval/Relation" "size" "I" (.int (0 : Int32))) (F_a1_members : Fld Z h0 a1 "com/example/bitlattice/bitlattice/eval/Relation" "members" "Lcom/example/bitlattice/bitlattice/eval/Relation$Index;" .null) (F_a1_indexes : Fld Z h0 a1 "com/example/bitlattice/bitlattice/eval/Relation" "indexes" "[Lcom/example/bitlattice/bitlattice/eval/Relation$Index;" (.ref w_NI)) (F_a1_holdingAny : Fld Z h0 a1 "com/example/bitlattice/bitlattice/eval/Relation" "holdingAny" "I" (.int hAny)) (V_vals : Arv Z h0 vals k_v .int (12 : Int32) [(.int v0), (.int v1), (.int v2), (.int v3), (.int v4), (.int v5), (.int v6), (.int v7), (.int v8), (.int v9), (.int v10), (.int v11)] (.int (0 : Int32))) (V_row : Arv Z h0 a2 k_x .int (3 : Int32) [(.int x0), (.int x1), (.int x2)] (.int (0 : Int32))) (ne_vals_a1 : vals ≠ a1) (ne_a2_a1 : a2 ≠ a1) (ne_vals_a2 : vals ≠ a2) (ne_w_NI_a1 : w_NI ≠ a1) (ne_w_NI_vals : w_NI ≠ vals) (ne_w_NI_a2 : w_NI ≠ a2) (g_vals : n0 ≤ vals) (g_a1 : n0 ≤ a1) :
    MetFree l (⟨"com/example/bitlattice/bitlattice/eval/Relation", "add", "([I)Z"⟩ : MethodName) (head1 (Jvm.Cond.code (⟨"com/example/bitlattice/bitlattice/eval/Relation", "add", "([I)Z"⟩ : MethodName) prog_33_method_14_code 7 (some .boolean) :: ws) ({ frames := 1, cells := 0, slots := 0, locals := 18 } : Room)) (fun a U => a = #[(.ref a1), (.ref a2)] ∧ Z.Warmed39 U.vm ∧ U.heap = h0) (fun _ _ _ _ _ => True) (fun _ U o U' => ∃ v L, o = .returned v ∧ Q4_3_0 Z a1 a2 vals w_NI k_NI hAny k_v v0 v1 v2 v3 v4 v5 v6 v7 v8 v9 v10 v11 k_x x0 x1 x2 h0 n0 v U'.heap L ∧ FrameEnd U o U' L ({ frames := 1, cells := 0, slots := 0, locals := 18 } : Room).cells ({ frames := 1, cells := 0, slots := 0, locals := 18 } : Room).slots) := by
  refine MetFree.of_bodySF (plainFor_of_name pn1) hisR ?_
  intro p e s m args below meth c s₁ Bd hml0 hP hK
  obtain ⟨rfl, hZ, hh⟩ := hP
  have hx := Bd.exec
  have hby := Bd.bytes
  have hml : c.maxLocals = 7 := hml0
  have hown : s.vm.findClass "com/example/bitlattice/bitlattice/eval/Relation" = some m.cls := findClass_of_methodNamed Bd.named
  have hnm := (name_of_methodNamed Bd.named Bd.method).1
  have X0 : Stand p l e ({ frames := 1, cells := 0, slots := 0, locals := 18 } : Room) s m #[(.ref a1), (.ref a2)] below meth c s₁ [] 0 0 := Stand.of_body Bd
  have e0 : s₁.heap = h0 := by rw [← hh, Bd.state]; rfl
  have N0 := Fr.nil n0
  have K0 : Keep h0 h0 [vals, a1] := Keep.refl h0 _
  refine Go.st (P := fun o U' => ∃ v L, o = .returned v ∧ Q4_3_0 Z a1 a2 vals w_NI k_NI hAny k_v v0 v1 v2 v3 v4 v5 v6 v7 v8 v9 v10 v11 k_x x0 x1 x2 h0 n0 v U'.heap L ∧ FrameEnd s o U' L ({ frames := 1, cells := 0, slots := 0, locals := 18 } : Room).cells ({ frames := 1, cells := 0, slots := 0, locals := 18 } : Room).slots) (fun t k => castTop (ef4_3_0 m a1 a2) k) ?_
  show Go _ _ _ (s₁.setTop (mkF m 0 #[.val (.ref a1), .val (.ref a2), .unset, .unset, .unset, .unset, .unset] [])) _
  refine Go.st (fun t k => XS.aloadN X0.here hx rfl (hb hby d4_0) rfl rfl k) ?_
  obtain ⟨T1, X1, e1, st1⟩ := getF X0 hx hZ hown (host := "") (Or.inl (wd28 hw)) Via.refl e0 F_a1_members (g := (mkF m 1 #[.val (.ref a1), .val (.ref a2), .unset, .unset, .unset, .unset, .unset] [(.ref a1)])) rfl rfl (hb hby d4_1)
  refine Go.st st1 ?_
  show Go _ _ _ (T1.setTop (mkF m 4 #[.val (.ref a1), .val (.ref a2), .unset, .unset, .unset, .unset, .unset] [.null])) _
  refine Go.st (fun t k => XS.ifnonnullNo X1.here hx rfl (hb hby d4_4) rfl k) ?_
  show Go _ _ _ (T1.setTop (mkF m 7 #[.val (.ref a1), .val (.ref a2), .unset, .unset, .unset, .unset, .unset] [])) _
  refine Go.st (fun t k => XS.aloadN X1.here hx rfl (hb hby d4_7) rfl rfl k) ?_
  refine Go.st (fun t k => XS.aloadN X1.here hx rfl (hb hby d4_8) rfl rfl k) ?_
  obtain ⟨cq2, kq2, q2a, q2b, q2c⟩ := isOf hZ e1 E_a1
  obtain ⟨_, _, ⟨T2, L2, k2, n2⟩, -, X2, ⟨Lc2, hQ2, l2, y2, z2⟩, st2⟩ := X1.virtualBack hx (y := (⟨"com/example/bitlattice/bitlattice/eval/Relation", "contains", "([I)Z"⟩ : MethodName)) (z := (⟨"com/example/bitlattice/bitlattice/eval/Relation", "contains", "([I)Z"⟩ : MethodName)) hown (mvT hZ (wd30 hw)) (mvT hZ (wd31 hw)) (notFace_of_selects (args := #[]) (mvT hZ (wd33 hw))) (mvT hZ (wd33 hw)) (mvT hZ (wd32 hw)) (by decide) (backOf (W := 0) (rm5_3_0 l Z a0 hw [] a1 a2 vals w_NI k_NI hAny k_v v0 v1 v2 v3 v4 v5 v6 v7 v8 v9 v10 v11 k_x x0 x1 x2 h0 n0 Z0 E_a1 V_NI F_a1_arity F_a1_values F_a1_size F_a1_members F_a1_indexes F_a1_holdingAny V_vals V_row ne_vals_a1 ne_a2_a1 ne_vals_a2 ne_w_NI_a1 ne_w_NI_vals ne_w_NI_a2) hZ (wd34 hw) (wd8 hw) (by decide) (by decide)) q2a q2c (g := (mkF m 9 #[.val (.ref a1), .val (.ref a2), .unset, .unset, .unset, .unset, .unset] [(.ref a2), (.ref a1)])) rfl (by rw [hml]; rfl) (Steps.refl _) (argsL := [(.ref a2)]) (rest := []) (lenOf pd0 rfl) rfl (by show 2 * 0 + _ ≤ _; exact Nat.le_of_eq rfl) (hb hby d4_9) (fun _ _ => ⟨rfl, e1, (by decide : 0 + 0 ≤ _), (by decide : 0 + 0 ≤ _)⟩)
  dsimp only [Pt.U, Pt.locs, Pt.cells, Pt.slots] at X2 l2 y2 z2 st2 hQ2
  subst l2 y2 z2
  refine Go.tr st2 ?_
  obtain ⟨rfl, N2q, e2⟩ := hQ2
  have N2 := Fr.app N0 N2q
  show Go _ _ _ (T2.setTop (mkF m 12 #[.val (.ref a1), .val (.ref a2), .unset, .unset, .unset, .unset, .unset] [(.int 0)])) _
  refine Go.st (fun t k => XS.ifYes X2.here hx rfl (pc0 := 12) (pc' := 17) rfl (hb hby d4_12) rfl ((if0 _ _).trans (teq (by decide : (0 : Int32) = (0 : Int32))).1) (by decide) (by decide) k) ?_
  show Go _ _ _ (T2.setTop (mkF m 17 #[.val (.ref a1), .val (.ref a2), .unset, .unset, .unset, .unset, .unset] [])) _
  refine Go.st (fun t k => XS.aloadN X2.here hx rfl (hb hby d4_17) rfl rfl k) ?_
  obtain ⟨T3, X3, e3, st3⟩ := getF X2 hx hZ hown (host := "") (Or.inl (wd35 hw)) Via.refl e2 F_a1_size (g := (mkF m 18 #[.val (.ref a1), .val (.ref a2), .unset, .unset, .unset, .unset, .unset] [(.ref a1)])) rfl rfl (hb hby d4_18)
  refine Go.st st3 ?_
  show Go _ _ _ (T3.setTop (mkF m 21 #[.val (.ref a1), .val (.ref a2), .unset, .unset, .unset, .unset, .unset] [(.int 0)])) _
  refine Go.st (fun t k => XS.iconst X3.here hx rfl (hb hby d4_21) k) ?_
  refine Go.st (fun t k => XS.iadd X3.here hx rfl (hb hby d4_22) rfl k) ?_
  show Go _ _ _ (T3.setTop (mkF m 23 #[.val (.ref a1), .val (.ref a2), .unset, .unset, .unset, .unset, .unset] [(.int 1)])) _
  refine Go.st (fun t k => XS.aloadN X3.here hx rfl (hb hby d4_23) rfl rfl k) ?_
  obtain ⟨T4, X4, e4, st4⟩ := getF X3 hx hZ hown (host := "") (Or.inl (wd19 hw)) Via.refl e3 F_a1_arity (g := (mkF m 24 #[.val (.ref a1), .val (.ref a2), .unset, .unset, .unset, .unset, .unset] [(.ref a1), (.int 1)])) rfl rfl (hb hby d4_24)
  refine Go.st st4 ?_
  show Go _ _ _ (T4.setTop (mkF m 27 #[.val (.ref a1), .val (.ref a2), .unset, .unset, .unset, .unset, .unset] [(.int 3), (.int 1)])) _
  refine Go.st (fun t k => XS.imul X4.here hx rfl (hb hby d4_27) rfl k) ?_
  show Go _ _ _ (T4.setTop (mkF m 28 #[.val (.ref a1), .val (.ref a2), .unset, .unset, .unset, .unset, .unset] [(.int 3)])) _
  refine Go.st (fun t k => XS.aloadN X4.here hx rfl (hb hby d4_28) rfl rfl k) ?_
  obtain ⟨T5, X5, e5, st5⟩ := getF X4 hx hZ hown (host := "") (Or.inl (wd21 hw)) Via.refl e4 F_a1_values (g := (mkF m 29 #[.val (.ref a1), .val (.ref a2), .unset, .unset, .unset, .unset, .unset] [(.ref a1), (.int 3)])) rfl rfl (hb hby d4_29)
  refine Go.st st5 ?_
  show Go _ _ _ (T5.setTop (mkF m 32 #[.val (.ref a1), .val (.ref a2), .unset, .unset, .unset, .unset, .unset] [(.ref vals), (.int 3)])) _
  obtain ⟨cl6, Ar6, -, Sz6, Ng6, -, -⟩ := id V_vals
  refine Go.st (fun t k => X5.arraylength hx (by rw [e5]; exact Ar6.1) (State.isArrayOf_alike hZ.alike Ar6.2.1) (g := (mkF m 32 #[.val (.ref a1), .val (.ref a2), .unset, .unset, .unset, .unset, .unset] [(.ref vals), (.int 3)])) rfl rfl (hb hby d4_32) _ k) ?_
  rw [len_of Sz6 Ng6]
  show Go _ _ _ (T5.setTop (mkF m 33 #[.val (.ref a1), .val (.ref a2), .unset, .unset, .unset, .unset, .unset] [(.int 12), (.int 3)])) _
  refine Go.st (fun t k => XS.icmpYes X5.here hx rfl (pc0 := 33) (pc' := 63) rfl (hb hby d4_33) rfl (flt (by decide : ¬ ((12 : Int32) < (3 : Int32)))).2.2.2 (by decide) (by decide) k) ?_
  show Go _ _ _ (T5.setTop (mkF m 63 #[.val (.ref a1), .val (.ref a2), .unset, .unset, .unset, .unset, .unset] [])) _
  refine Go.st (fun t k => XS.aloadN X5.here hx rfl (hb hby d4_63) rfl rfl k) ?_
  refine Go.st (fun t k => XS.iconst X5.here hx rfl (hb hby d4_64) k) ?_
  refine Go.st (fun t k => XS.aloadN X5.here hx rfl (hb hby d4_65) rfl rfl k) ?_
  obtain ⟨T7, X7, e7, st7⟩ := getF X5 hx hZ hown (host := "") (Or.inl (wd21 hw)) Via.refl e5 F_a1_values (g := (mkF m 66 #[.val (.ref a1), .val (.ref a2), .unset, .unset, .unset, .unset, .unset] [(.ref a1), (.int 0), (.ref a2)])) rfl rfl (hb hby d4_66)
  refine Go.st st7 ?_
  show Go _ _ _ (T7.setTop (mkF m 69 #[.val (.ref a1), .val (.ref a2), .unset, .unset, .unset, .unset, .unset] [(.ref vals), (.int 0), (.ref a2)])) _
  refine Go.st (fun t k => XS.aloadN X7.here hx rfl (hb hby d4_69) rfl rfl k) ?_
  obtain ⟨T8, X8, e8, st8⟩ := getF X7 hx hZ hown (host := "") (Or.inl (wd35 hw)) Via.refl e7 F_a1_size (g := (mkF m 70 #[.val (.ref a1), .val (.ref a2), .unset, .unset, .unset, .unset, .unset] [(.ref a1), (.ref vals), (.int 0), (.ref a2)])) rfl rfl (hb hby d4_70)
  refine Go.st st8 ?_
  show Go _ _ _ (T8.setTop (mkF m 73 #[.val (.ref a1), .val (.ref a2), .unset, .unset, .unset, .unset, .unset] [(.int 0), (.ref vals), (.int 0), (.ref a2)])) _
  refine Go.st (fun t k => XS.aloadN X8.here hx rfl (hb hby d4_73) rfl rfl k) ?_
  obtain ⟨T9, X9, e9, st9⟩ := getF X8 hx hZ hown (host := "") (Or.inl (wd19 hw)) Via.refl e8 F_a1_arity (g := (mkF m 74 #[.val (.ref a1), .val (.ref a2), .unset, .unset, .unset, .unset, .unset] [(.ref a1), (.int 0), (.ref vals), (.int 0), (.ref a2)])) rfl rfl (hb hby d4_74)
  refine Go.st st9 ?_
  show Go _ _ _ (T9.setTop (mkF m 77 #[.val (.ref a1), .val (.ref a2), .unset, .unset, .unset, .unset, .unset] [(.int 3), (.int 0), (.ref vals), (.int 0), (.ref a2)])) _
  refine Go.st (fun t k => XS.imul X9.here hx rfl (hb hby d4_77) rfl k) ?_
  show Go _ _ _ (T9.setTop (mkF m 78 #[.val (.ref a1), .val (.ref a2), .unset, .unset, .unset, .unset, .unset] [(.int 0), (.ref vals), (.int 0), (.ref a2)])) _
  refine Go.st (fun t k => XS.aloadN X9.here hx rfl (hb hby d4_78) rfl rfl k) ?_
  obtain ⟨T10, X10, e10, st10⟩ := getF X9 hx hZ hown (host := "") (Or.inl (wd19 hw)) Via.refl e9 F_a1_arity (g := (mkF m 79 #[.val (.ref a1), .val (.ref a2), .unset, .unset, .unset, .unset, .unset] [(.ref a1), (.int 0), (.ref vals), (.int 0), (.ref a2)])) rfl rfl (hb hby d4_79)
  refine Go.st st10 ?_
  show Go _ _ _ (T10.setTop (mkF m 82 #[.val (.ref a1), .val (.ref a2), .unset, .unset, .unset, .unset, .unset] [(.int 3), (.int 0), (.ref vals), (.int 0), (.ref a2)])) _
  have V_vals_pre := V_vals
  obtain ⟨T11, h11, L11, X11, e11, N11, K11, B11, st11⟩ := cpA X10 hx hZ hown (wd37 hw) (wd40 hw) (wd38 hw) (wd39 hw) e10 V_row V_vals (us := [(.int x0), (.int x1), (.int x2)]) (Or.inl ⟨rfl, rfl⟩) (sp := (0 : Int32)) (dp := (0 : Int32)) (nn := (3 : Int32)) (by decide) (by decide) (by decide) (by decide) (by decide) rfl (Nat.le_of_ble_eq_true rfl) N2 g_vals (g := (mkF m 82 #[.val (.ref a1), .val (.ref a2), .unset, .unset, .unset, .unset, .unset] [(.int 3), (.int 0), (.ref vals), (.int 0), (.ref a2)])) rfl (by rw [hml]; rfl) rfl (hb hby d4_82) (by decide) (W := 0) (by show 2 * 0 + _ ≤ _; exact Nat.le_of_eq rfl) (by decide)
  refine Go.st st11 ?_
  replace E_a1 := E_a1.keep K11
  replace V_NI := V_NI.keep K11 (ninS ne_w_NI_vals nin0)
  replace F_a1_arity := F_a1_arity.keep K11 (ninS (Ne.symm ne_vals_a1) nin0)
  replace F_a1_values := F_a1_values.keep K11 (ninS (Ne.symm ne_vals_a1) nin0)
  replace F_a1_size := F_a1_size.keep K11 (ninS (Ne.symm ne_vals_a1) nin0)
  replace F_a1_members := F_a1_members.keep K11 (ninS (Ne.symm ne_vals_a1) nin0)
  replace F_a1_indexes := F_a1_indexes.keep K11 (ninS (Ne.symm ne_vals_a1) nin0)
  replace F_a1_holdingAny := F_a1_holdingAny.keep K11 (ninS (Ne.symm ne_vals_a1) nin0)
  replace V_row := V_row.keep K11 (ninS (Ne.symm ne_vals_a2) nin0)
  replace Z0 := Nat.le_trans Z0 K11.1
  replace K0 := K0.trans K11 (allS (Or.inl (by simp)) all0)
  have V_vals : Arv Z h11 vals k_v .int (12 : Int32) [(.int x0), (.int x1), (.int x2), (.int v3), (.int v4), (.int v5), (.int v6), (.int v7), (.int v8), (.int v9), (.int v10), (.int v11)] (.int (0 : Int32)) := B11
  show Go _ _ _ (T11.setTop (mkF m 85 #[.val (.ref a1), .val (.ref a2), .unset, .unset, .unset, .unset, .unset] [])) _
  refine Go.st (fun t k => XS.aloadN X11.here hx rfl (hb hby d4_85) rfl rfl k) ?_
  obtain ⟨T12, X12, e12, st12⟩ := getF X11 hx hZ hown (host := "") (Or.inl (wd28 hw)) Via.refl e11 F_a1_members (g := (mkF m 86 #[.val (.ref a1), .val (.ref a2), .unset, .unset, .unset, .unset, .unset] [(.ref a1)])) rfl rfl (hb hby d4_86)
  refine Go.st st12 ?_
  show Go _ _ _ (T12.setTop (mkF m 89 #[.val (.ref a1), .val (.ref a2), .unset, .unset, .unset, .unset, .unset] [.null])) _
  refine Go.st (fun t k => XS.ifnullYes X12.here hx rfl (pc0 := 89) (pc' := 108) rfl (hb hby d4_89) rfl (by decide) (by decide) k) ?_
  show Go _ _ _ (T12.setTop (mkF m 108 #[.val (.ref a1), .val (.ref a2), .unset, .unset, .unset, .unset, .unset] [])) _
  refine Go.st (fun t k => XS.aloadN X12.here hx rfl (hb hby d4_108) rfl rfl k) ?_
  refine Go.st (fun t k => XS.dup X12.here hx rfl (hb hby d4_109) rfl rfl k) ?_
  obtain ⟨T13, X13, e13, st13⟩ := getF X12 hx hZ hown (host := "") (Or.inl (wd35 hw)) Via.refl e12 F_a1_size (g := (mkF m 110 #[.val (.ref a1), .val (.ref a2), .unset, .unset, .unset, .unset, .unset] [(.ref a1), (.ref a1)])) rfl rfl (hb hby d4_110)
  refine Go.st st13 ?_
  show Go _ _ _ (T13.setTop (mkF m 113 #[.val (.ref a1), .val (.ref a2), .unset, .unset, .unset, .unset, .unset] [(.int 0), (.ref a1)])) _
  refine Go.st (fun t k => XS.dupX1 X13.here hx rfl (hb hby d4_113) rfl rfl rfl k) ?_
  show Go _ _ _ (T13.setTop (mkF m 114 #[.val (.ref a1), .val (.ref a2), .unset, .unset, .unset, .unset, .unset] [(.int 0), (.ref a1), (.int 0)])) _
  refine Go.st (fun t k => XS.iconst X13.here hx rfl (hb hby d4_114) k) ?_
  refine Go.st (fun t k => XS.iadd X13.here hx rfl (hb hby d4_115) rfl k) ?_
  show Go _ _ _ (T13.setTop (mkF m 116 #[.val (.ref a1), .val (.ref a2), .unset, .unset, .unset, .unset, .unset] [(.int 1), (.ref a1), (.int 0)])) _
  obtain ⟨T14, h14, X14, e14, W14, st14⟩ := putF X13 hx hZ hown (host := "") (Or.inl (wd35 hw)) Via.refl e13 F_a1_size E_a1 (Or.inl (wd36 hw)) (wd7 hw) (ty := .int) (by decide) rfl rfl (g := (mkF m 116 #[.val (.ref a1), .val (.ref a2), .unset, .unset, .unset, .unset, .unset] [(.int 1), (.ref a1), (.int 0)])) rfl rfl (hb hby d4_116)
  refine Go.st st14 ?_
  have N14 := Fr.snoc X14 N11 g_a1
  replace E_a1 := E_a1.wr W14
  replace V_NI := V_NI.other W14 ne_w_NI_a1
  replace F_a1_arity := F_a1_arity.other W14 (Or.inr (slot_ne (Or.inr (wd20 hw)) (Or.inl (wd36 hw)) (by decide) (t := .int) (t' := .int) (by decide) (by decide)))
  replace F_a1_values := F_a1_values.other W14 (Or.inr (slot_ne (Or.inl (wd22 hw)) (Or.inl (wd36 hw)) (by decide) (t := (.array .int)) (t' := .int) (by decide) (by decide)))
  replace F_a1_size := F_a1_size.same W14
  replace F_a1_members := F_a1_members.other W14 (Or.inr (slot_ne (Or.inl (wd29 hw)) (Or.inl (wd36 hw)) (by decide) (t := (.object "com/example/bitlattice/bitlattice/eval/Relation$Index")) (t' := .int) (by decide) (by decide)))
  replace F_a1_indexes := F_a1_indexes.other W14 (Or.inr (slot_ne (Or.inl (wd18 hw)) (Or.inl (wd36 hw)) (by decide) (t := (.array (.object "com/example/bitlattice/bitlattice/eval/Relation$Index"))) (t' := .int) (by decide) (by decide)))
  replace F_a1_holdingAny := F_a1_holdingAny.other W14 (Or.inr (slot_ne (Or.inl (wd55 hw)) (Or.inl (wd36 hw)) (by decide) (t := .int) (t' := .int) (by decide) (by decide)))
  replace V_row := V_row.other W14 ne_a2_a1
  replace V_vals := V_vals.other W14 ne_vals_a1
  replace Z0 := Nat.le_trans Z0 (Nat.le_of_eq W14.size.symm)
  replace K0 := K0.wr W14 (Or.inl (by simp))
  show Go _ _ _ (T14.setTop (mkF m 119 #[.val (.ref a1), .val (.ref a2), .unset, .unset, .unset, .unset, .unset] [(.int 0)])) _
  refine Go.st (fun t k => XS.istoreN X14.here hx rfl (hb hby d4_119) rfl (l' := #[.val (.ref a1), .val (.ref a2), .val (.int 0), .unset, .unset, .unset, .unset]) rfl k) ?_
  refine Go.st (fun t k => XS.aloadN X14.here hx rfl (hb hby d4_120) rfl rfl k) ?_
  refine Go.st (fun t k => XS.astoreN X14.here hx rfl (hb hby d4_121) rfl rfl (l' := #[.val (.ref a1), .val (.ref a2), .val (.int 0), .val (.ref a2), .unset, .unset, .unset]) rfl k) ?_
  refine Go.st (fun t k => XS.aloadN X14.here hx rfl (hb hby d4_122) rfl rfl k) ?_
  obtain ⟨cl15, Ar15, -, Sz15, Ng15, -, -⟩ := id V_row
  refine Go.st (fun t k => X14.arraylength hx (by rw [e14]; exact Ar15.1) (State.isArrayOf_alike hZ.alike Ar15.2.1) (g := (mkF m 123 #[.val (.ref a1), .val (.ref a2), .val (.int 0), .val (.ref a2), .unset, .unset, .unset] [(.ref a2)])) rfl rfl (hb hby d4_123) _ k) ?_
  rw [len_of Sz15 Ng15]
  show Go _ _ _ (T14.setTop (mkF m 124 #[.val (.ref a1), .val (.ref a2), .val (.int 0), .val (.ref a2), .unset, .unset, .unset] [(.int 3)])) _
  refine Go.st (fun t k => XS.istore X14.here hx rfl (hb hby d4_124) rfl (l' := #[.val (.ref a1), .val (.ref a2), .val (.int 0), .val (.ref a2), .val (.int 3), .unset, .unset]) rfl k) ?_
  refine Go.st (fun t k => XS.iconst X14.here hx rfl (hb hby d4_126) k) ?_
  refine Go.st (fun t k => XS.istore X14.here hx rfl (hb hby d4_127) rfl (l' := #[.val (.ref a1), .val (.ref a2), .val (.int 0), .val (.ref a2), .val (.int 3), .val (.int 0), .unset]) rfl k) ?_
  refine Go.st (fun t k => XS.iload X14.here hx rfl (hb hby d4_129) rfl k) ?_
  refine Go.st (fun t k => XS.iload X14.here hx rfl (hb hby d4_131) rfl k) ?_
  refine Go.st (fun t k => XS.icmpNo X14.here hx rfl (hb hby d4_133) rfl (tlt (by decide : (0 : Int32) < (3 : Int32))).2.1 k) ?_
  show Go _ _ _ (T14.setTop (mkF m 136 #[.val (.ref a1), .val (.ref a2), .val (.int 0), .val (.ref a2), .val (.int 3), .val (.int 0), .unset] [])) _
  refine Go.st (fun t k => XS.aloadN X14.here hx rfl (hb hby d4_136) rfl rfl k) ?_
  refine Go.st (fun t k => XS.iload X14.here hx rfl (hb hby d4_137) rfl k) ?_
  obtain ⟨cl16, Ar16, -, Sz16, Ng16, Hs16, -⟩ := id V_row
  have hin16 : ¬ ((0 : Int32) < 0 ∨ cl16.slots.size ≤ ((0 : Int32)).toNatClampNeg) := inb_of Sz16 ⟨by decide, by decide⟩
  refine Go.st (fun t k => X14.iaload hx (j := (0 : Int32)) (v := (.int x0)) (by rw [e14]; exact Ar16.1) (State.isArrayOf_alike hZ.alike Ar16.2.1) Ar16.2.2 hin16 (Has.at Hs16 hin16 rfl) (g := (mkF m 139 #[.val (.ref a1), .val (.ref a2), .val (.int 0), .val (.ref a2), .val (.int 3), .val (.int 0), .unset] [(.int 0), (.ref a2)])) rfl rfl (hb hby d4_139) _ k) ?_
  show Go _ _ _ (T14.setTop (mkF m 140 #[.val (.ref a1), .val (.ref a2), .val (.int 0), .val (.ref a2), .val (.int 3), .val (.int 0), .unset] [(.int x0)])) _
  refine Go.st (fun t k => XS.istore X14.here hx rfl (hb hby d4_140) rfl (l' := #[.val (.ref a1), .val (.ref a2), .val (.int 0), .val (.ref a2), .val (.int 3), .val (.int 0), .val (.int x0)]) rfl k) ?_
  refine Go.st (fun t k => XS.iload X14.here hx rfl (hb hby d4_142) rfl k) ?_
  refine Go.st (fun t k => X14.ldcInt hx hown (mvT hZ (wd41 hw)) (g := (mkF m 144 #[.val (.ref a1), .val (.ref a2), .val (.int 0), .val (.ref a2), .val (.int 3), .val (.int 0), .val (.int x0)] [(.int x0)])) rfl (hb hby d4_144) _ k) ?_
  show Go _ _ _ (T14.setTop (mkF m 146 #[.val (.ref a1), .val (.ref a2), .val (.int 0), .val (.ref a2), .val (.int 3), .val (.int 0), .val (.int x0)] [(.int 2147483647), (.int x0)])) _
  by_cases hc17 : x0 = (2147483647 : Int32)
  · refine Go.st (fun t k => XS.icmpNo X14.here hx rfl (hb hby d4_146) rfl (teq hc17).2 k) ?_
    show Go _ _ _ (T14.setTop (mkF m 149 #[.val (.ref a1), .val (.ref a2), .val (.int 0), .val (.ref a2), .val (.int 3), .val (.int 0), .val (.int x0)] [])) _
    refine Go.st (fun t k => XS.aloadN X14.here hx rfl (hb hby d4_149) rfl rfl k) ?_
    refine Go.st (fun t k => XS.dup X14.here hx rfl (hb hby d4_150) rfl rfl k) ?_
    obtain ⟨T18, X18, e18, st18⟩ := getF X14 hx hZ hown (host := "") (Or.inl (wd54 hw)) Via.refl e14 F_a1_holdingAny (g := (mkF m 151 #[.val (.ref a1), .val (.ref a2), .val (.int 0), .val (.ref a2), .val (.int 3), .val (.int 0), .val (.int x0)] [(.ref a1), (.ref a1)])) rfl rfl (hb hby d4_151)
    refine Go.st st18 ?_
    show Go _ _ _ (T18.setTop (mkF m 154 #[.val (.ref a1), .val (.ref a2), .val (.int 0), .val (.ref a2), .val (.int 3), .val (.int 0), .val (.int x0)] [(.int hAny), (.ref a1)])) _
    refine Go.st (fun t k => XS.iconst X18.here hx rfl (hb hby d4_154) k) ?_
    refine Go.st (fun t k => XS.iadd X18.here hx rfl (hb hby d4_155) rfl k) ?_
    show Go _ _ _ (T18.setTop (mkF m 156 #[.val (.ref a1), .val (.ref a2), .val (.int 0), .val (.ref a2), .val (.int 3), .val (.int 0), .val (.int x0)] [(.int (hAny + (1 : Int32))), (.ref a1)])) _
    obtain ⟨T19, h19, X19, e19, W19, st19⟩ := putF X18 hx hZ hown (host := "") (Or.inl (wd54 hw)) Via.refl e18 F_a1_holdingAny E_a1 (Or.inl (wd55 hw)) (wd7 hw) (ty := .int) (by decide) rfl rfl (g := (mkF m 156 #[.val (.ref a1), .val (.ref a2), .val (.int 0), .val (.ref a2), .val (.int 3), .val (.int 0), .val (.int x0)] [(.int (hAny + (1 : Int32))), (.ref a1)])) rfl rfl (hb hby d4_156)
    refine Go.st st19 ?_
    have N19 := Fr.snoc X19 N14 g_a1
    replace E_a1 := E_a1.wr W19
    replace V_NI := V_NI.other W19 ne_w_NI_a1
    replace F_a1_arity := F_a1_arity.other W19 (Or.inr (slot_ne (Or.inr (wd20 hw)) (Or.inl (wd55 hw)) (by decide) (t := .int) (t' := .int) (by decide) (by decide)))
    replace F_a1_values := F_a1_values.other W19 (Or.inr (slot_ne (Or.inl (wd22 hw)) (Or.inl (wd55 hw)) (by decide) (t := (.array .int)) (t' := .int) (by decide) (by decide)))
    replace F_a1_size := F_a1_size.other W19 (Or.inr (slot_ne (Or.inl (wd36 hw)) (Or.inl (wd55 hw)) (by decide) (t := .int) (t' := .int) (by decide) (by decide)))
    replace F_a1_members := F_a1_members.other W19 (Or.inr (slot_ne (Or.inl (wd29 hw)) (Or.inl (wd55 hw)) (by decide) (t := (.object "com/example/bitlattice/bitlattice/eval/Relation$Index")) (t' := .int) (by decide) (by decide)))
    replace F_a1_indexes := F_a1_indexes.other W19 (Or.inr (slot_ne (Or.inl (wd18 hw)) (Or.inl (wd55 hw)) (by decide) (t := (.array (.object "com/example/bitlattice/bitlattice/eval/Relation$Index"))) (t' := .int) (by decide) (by decide)))
    replace F_a1_holdingAny := F_a1_holdingAny.same W19
    replace V_row := V_row.other W19 ne_a2_a1
    replace V_vals := V_vals.other W19 ne_vals_a1
    replace Z0 := Nat.le_trans Z0 (Nat.le_of_eq W19.size.symm)
    replace K0 := K0.wr W19 (Or.inl (by simp))
    show Go _ _ _ (T19.setTop (mkF m 159 #[.val (.ref a1), .val (.ref a2), .val (.int 0), .val (.ref a2), .val (.int 3), .val (.int 0), .val (.int x0)] [])) _
    refine Go.st (fun t k => XS.goto X19.here hx rfl (pc0 := 159) (pc' := 168) rfl (hb hby d4_159) (by decide) (by decide) k) ?_
    refine Go.st (fun t k => XS.aloadN X19.here hx rfl (hb hby d4_168) rfl rfl k) ?_
    obtain ⟨T20, X20, e20, st20⟩ := getF X19 hx hZ hown (host := "") (Or.inl (wd28 hw)) Via.refl e19 F_a1_members (g := (mkF m 169 #[.val (.ref a1), .val (.ref a2), .val (.int 0), .val (.ref a2), .val (.int 3), .val (.int 0), .val (.int x0)] [(.ref a1)])) rfl rfl (hb hby d4_169)
    refine Go.st st20 ?_
    show Go _ _ _ (T20.setTop (mkF m 172 #[.val (.ref a1), .val (.ref a2), .val (.int 0), .val (.ref a2), .val (.int 3), .val (.int 0), .val (.int x0)] [.null])) _
    refine Go.st (fun t k => XS.ifnonnullNo X20.here hx rfl (hb hby d4_172) rfl k) ?_
    show Go _ _ _ (T20.setTop (mkF m 175 #[.val (.ref a1), .val (.ref a2), .val (.int 0), .val (.ref a2), .val (.int 3), .val (.int 0), .val (.int x0)] [])) _
    refine Go.st (fun t k => XS.aloadN X20.here hx rfl (hb hby d4_175) rfl rfl k) ?_
    obtain ⟨T21, X21, e21, st21⟩ := getF X20 hx hZ hown (host := "") (Or.inl (wd35 hw)) Via.refl e20 F_a1_size (g := (mkF m 176 #[.val (.ref a1), .val (.ref a2), .val (.int 0), .val (.ref a2), .val (.int 3), .val (.int 0), .val (.int x0)] [(.ref a1)])) rfl rfl (hb hby d4_176)
    refine Go.st st21 ?_
    show Go _ _ _ (T21.setTop (mkF m 179 #[.val (.ref a1), .val (.ref a2), .val (.int 0), .val (.ref a2), .val (.int 3), .val (.int 0), .val (.int x0)] [(.int 1)])) _
    refine Go.st (fun t k => XS.bipush X21.here hx rfl (hb hby d4_179) k) ?_
    refine Go.st (fun t k => XS.icmpYes X21.here hx rfl (pc0 := 181) (pc' := 207) rfl (hb hby d4_181) rfl (flt (by decide : ¬ ((8 : Int32) < (1 : Int32)))).2.2.2 (by decide) (by decide) k) ?_
    show Go _ _ _ (T21.setTop (mkF m 207 #[.val (.ref a1), .val (.ref a2), .val (.int 0), .val (.ref a2), .val (.int 3), .val (.int 0), .val (.int x0)] [])) _
    refine Go.st (fun t k => XS.aloadN X21.here hx rfl (hb hby d4_207) rfl rfl k) ?_
    obtain ⟨T22, X22, e22, st22⟩ := getF X21 hx hZ hown (host := "") (Or.inl (wd17 hw)) Via.refl e21 F_a1_indexes (g := (mkF m 208 #[.val (.ref a1), .val (.ref a2), .val (.int 0), .val (.ref a2), .val (.int 3), .val (.int 0), .val (.int x0)] [(.ref a1)])) rfl rfl (hb hby d4_208)
    refine Go.st st22 ?_
    show Go _ _ _ (T22.setTop (mkF m 211 #[.val (.ref a1), .val (.ref a2), .val (.int 0), .val (.ref a2), .val (.int 3), .val (.int 0), .val (.int x0)] [(.ref w_NI)])) _
    refine Go.st (fun t k => XS.astoreN X22.here hx rfl (hb hby d4_211) rfl rfl (l' := #[.val (.ref a1), .val (.ref a2), .val (.int 0), .val (.ref w_NI), .val (.int 3), .val (.int 0), .val (.int x0)]) rfl k) ?_
    refine Go.st (fun t k => XS.aloadN X22.here hx rfl (hb hby d4_212) rfl rfl k) ?_
    obtain ⟨cl23, Ar23, -, Sz23, Ng23, -, -⟩ := id V_NI
    refine Go.st (fun t k => X22.arraylength hx (by rw [e22]; exact Ar23.1) (State.isArrayOf_alike hZ.alike Ar23.2.1) (g := (mkF m 213 #[.val (.ref a1), .val (.ref a2), .val (.int 0), .val (.ref w_NI), .val (.int 3), .val (.int 0), .val (.int x0)] [(.ref w_NI)])) rfl rfl (hb hby d4_213) _ k) ?_
    rw [len_of Sz23 Ng23]
    show Go _ _ _ (T22.setTop (mkF m 214 #[.val (.ref a1), .val (.ref a2), .val (.int 0), .val (.ref w_NI), .val (.int 3), .val (.int 0), .val (.int x0)] [(.int 0)])) _
    refine Go.st (fun t k => XS.istore X22.here hx rfl (hb hby d4_214) rfl (l' := #[.val (.ref a1), .val (.ref a2), .val (.int 0), .val (.ref w_NI), .val (.int 0), .val (.int 0), .val (.int x0)]) rfl k) ?_
    refine Go.st (fun t k => XS.iconst X22.here hx rfl (hb hby d4_216) k) ?_
    refine Go.st (fun t k => XS.istore X22.here hx rfl (hb hby d4_217) rfl (l' := #[.val (.ref a1), .val (.ref a2), .val (.int 0), .val (.ref w_NI), .val (.int 0), .val (.int 0), .val (.int x0)]) rfl k) ?_
    refine Go.st (fun t k => XS.iload X22.here hx rfl (hb hby d4_219) rfl k) ?_
    refine Go.st (fun t k => XS.iload X22.here hx rfl (hb hby d4_221) rfl k) ?_
    refine Go.st (fun t k => XS.icmpYes X22.here hx rfl (pc0 := 223) (pc' := 244) rfl (hb hby d4_223) rfl (flt (by decide : ¬ ((0 : Int32) < (0 : Int32)))).2.1 (by decide) (by decide) k) ?_
    show Go _ _ _ (T22.setTop (mkF m 244 #[.val (.ref a1), .val (.ref a2), .val (.int 0), .val (.ref w_NI), .val (.int 0), .val (.int 0), .val (.int x0)] [])) _
    refine Go.st (fun t k => XS.iconst X22.here hx rfl (hb hby d4_244) k) ?_
    obtain ⟨fs, hr, hrun, hended, hW, hsame⟩ := X22.leave (v := some (.int (1 : Int32))) (fun h => by rw [Bd.returns] at h; cases h)
    refine Go.fin (retN X22 hx (t := .boolean) Bd.returns (by simp) (hb hby d4_245) hr) hrun hended ⟨_, _, rfl, ?_, ⟨_, rfl⟩, hW, hsame.mono (by decide) (by decide)⟩
    show Q4_3_0 Z a1 a2 vals w_NI k_NI hAny k_v v0 v1 v2 v3 v4 v5 v6 v7 v8 v9 v10 v11 k_x x0 x1 x2 h0 n0 _ T22.heap _
    rw [e22]
    exact ⟨(hAny + (1 : Int32)), rfl, N19, K0, E_a1, F_a1_arity, F_a1_values, F_a1_size, F_a1_members, F_a1_indexes, F_a1_holdingAny, V_vals⟩
  · refine Go.st (fun t k => XS.icmpYes X14.here hx rfl (pc0 := 146) (pc' := 162) rfl (hb hby d4_146) rfl (feq hc17).2 (by decide) (by decide) k) ?_
    show Go _ _ _ (T14.setTop (mkF m 162 #[.val (.ref a1), .val (.ref a2), .val (.int 0), .val (.ref a2), .val (.int 3), .val (.int 0), .val (.int x0)] [])) _
    refine Go.st (fun t k => XS.iinc X14.here hx rfl (hb hby d4_162) rfl (l' := #[.val (.ref a1), .val (.ref a2), .val (.int (0 : Int32)), .val (.ref a2), .val (.int (3 : Int32)), .val (.int ((0 : Int32) + (1 : Int32))), .val (.int x0)]) rfl k) ?_
    show Go _ _ _ (T14.setTop (mkF m 165 #[.val (.ref a1), .val (.ref a2), .val (.int 0), .val (.ref a2), .val (.int 3), .val (.int 1), .val (.int x0)] [])) _
    refine Go.st (fun t k => XS.goto X14.here hx rfl (pc0 := 165) (pc' := 129) rfl (hb hby d4_165) (by decide) (by decide) k) ?_
    refine Go.st (fun t k => XS.iload X14.here hx rfl (hb hby d4_129) rfl k) ?_
    refine Go.st (fun t k => XS.iload X14.here hx rfl (hb hby d4_131) rfl k) ?_
    refine Go.st (fun t k => XS.icmpNo X14.here hx rfl (hb hby d4_133) rfl (tlt (by decide : (1 : Int32) < (3 : Int32))).2.1 k) ?_
    show Go _ _ _ (T14.setTop (mkF m 136 #[.val (.ref a1), .val (.ref a2), .val (.int 0), .val (.ref a2), .val (.int 3), .val (.int 1), .val (.int x0)] [])) _
    refine Go.st (fun t k => XS.aloadN X14.here hx rfl (hb hby d4_136) rfl rfl k) ?_
    refine Go.st (fun t k => XS.iload X14.here hx rfl (hb hby d4_137) rfl k) ?_
    obtain ⟨cl24, Ar24, -, Sz24, Ng24, Hs24, -⟩ := id V_row
    have hin24 : ¬ ((1 : Int32) < 0 ∨ cl24.slots.size ≤ ((1 : Int32)).toNatClampNeg) := inb_of Sz24 ⟨by decide, by decide⟩
    refine Go.st (fun t k => X14.iaload hx (j := (1 : Int32)) (v := (.int x1)) (by rw [e14]; exact Ar24.1) (State.isArrayOf_alike hZ.alike Ar24.2.1) Ar24.2.2 hin24 (Has.at Hs24 hin24 rfl) (g := (mkF m 139 #[.val (.ref a1), .val (.ref a2), .val (.int 0), .val (.ref a2), .val (.int 3), .val (.int 1), .val (.int x0)] [(.int 1), (.ref a2)])) rfl rfl (hb hby d4_139) _ k) ?_
    show Go _ _ _ (T14.setTop (mkF m 140 #[.val (.ref a1), .val (.ref a2), .val (.int 0), .val (.ref a2), .val (.int 3), .val (.int 1), .val (.int x0)] [(.int x1)])) _
    refine Go.st (fun t k => XS.istore X14.here hx rfl (hb hby d4_140) rfl (l' := #[.val (.ref a1), .val (.ref a2), .val (.int 0), .val (.ref a2), .val (.int 3), .val (.int 1), .val (.int x1)]) rfl k) ?_
    refine Go.st (fun t k => XS.iload X14.here hx rfl (hb hby d4_142) rfl k) ?_
    refine Go.st (fun t k => X14.ldcInt hx hown (mvT hZ (wd41 hw)) (g := (mkF m 144 #[.val (.ref a1), .val (.ref a2), .val (.int 0), .val (.ref a2), .val (.int 3), .val (.int 1), .val (.int x1)] [(.int x1)])) rfl (hb hby d4_144) _ k) ?_
    show Go _ _ _ (T14.setTop (mkF m 146 #[.val (.ref a1), .val (.ref a2), .val (.int 0), .val (.ref a2), .val (.int 3), .val (.int 1), .val (.int x1)] [(.int 2147483647), (.int x1)])) _
    by_cases hc25 : x1 = (2147483647 : Int32)
    · refine Go.st (fun t k => XS.icmpNo X14.here hx rfl (hb hby d4_146) rfl (teq hc25).2 k) ?_
      show Go _ _ _ (T14.setTop (mkF m 149 #[.val (.ref a1), .val (.ref a2), .val (.int 0), .val (.ref a2), .val (.int 3), .val (.int 1), .val (.int x1)] [])) _
      refine Go.st (fun t k => XS.aloadN X14.here hx rfl (hb hby d4_149) rfl rfl k) ?_
      refine Go.st (fun t k => XS.dup X14.here hx rfl (hb hby d4_150) rfl rfl k) ?_
      obtain ⟨T26, X26, e26, st26⟩ := getF X14 hx hZ hown (host := "") (Or.inl (wd54 hw)) Via.refl e14 F_a1_holdingAny (g := (mkF m 151 #[.val (.ref a1), .val (.ref a2), .val (.int 0), .val (.ref a2), .val (.int 3), .val (.int 1), .val (.int x1)] [(.ref a1), (.ref a1)])) rfl rfl (hb hby d4_151)
      refine Go.st st26 ?_
      show Go _ _ _ (T26.setTop (mkF m 154 #[.val (.ref a1), .val (.ref a2), .val (.int 0), .val (.ref a2), .val (.int 3), .val (.int 1), .val (.int x1)] [(.int hAny), (.ref a1)])) _
      refine Go.st (fun t k => XS.iconst X26.here hx rfl (hb hby d4_154) k) ?_
      refine Go.st (fun t k => XS.iadd X26.here hx rfl (hb hby d4_155) rfl k) ?_
      show Go _ _ _ (T26.setTop (mkF m 156 #[.val (.ref a1), .val (.ref a2), .val (.int 0), .val (.ref a2), .val (.int 3), .val (.int 1), .val (.int x1)] [(.int (hAny + (1 : Int32))), (.ref a1)])) _
      obtain ⟨T27, h27, X27, e27, W27, st27⟩ := putF X26 hx hZ hown (host := "") (Or.inl (wd54 hw)) Via.refl e26 F_a1_holdingAny E_a1 (Or.inl (wd55 hw)) (wd7 hw) (ty := .int) (by decide) rfl rfl (g := (mkF m 156 #[.val (.ref a1), .val (.ref a2), .val (.int 0), .val (.ref a2), .val (.int 3), .val (.int 1), .val (.int x1)] [(.int (hAny + (1 : Int32))), (.ref a1)])) rfl rfl (hb hby d4_156)
      refine Go.st st27 ?_
      have N27 := Fr.snoc X27 N14 g_a1
      replace E_a1 := E_a1.wr W27
      replace V_NI := V_NI.other W27 ne_w_NI_a1
      replace F_a1_arity := F_a1_arity.other W27 (Or.inr (slot_ne (Or.inr (wd20 hw)) (Or.inl (wd55 hw)) (by decide) (t := .int) (t' := .int) (by decide) (by decide)))
      replace F_a1_values := F_a1_values.other W27 (Or.inr (slot_ne (Or.inl (wd22 hw)) (Or.inl (wd55 hw)) (by decide) (t := (.array .int)) (t' := .int) (by decide) (by decide)))
      replace F_a1_size := F_a1_size.other W27 (Or.inr (slot_ne (Or.inl (wd36 hw)) (Or.inl (wd55 hw)) (by decide) (t := .int) (t' := .int) (by decide) (by decide)))
      replace F_a1_members := F_a1_members.other W27 (Or.inr (slot_ne (Or.inl (wd29 hw)) (Or.inl (wd55 hw)) (by decide) (t := (.object "com/example/bitlattice/bitlattice/eval/Relation$Index")) (t' := .int) (by decide) (by decide)))
      replace F_a1_indexes := F_a1_indexes.other W27 (Or.inr (slot_ne (Or.inl (wd18 hw)) (Or.inl (wd55 hw)) (by decide) (t := (.array (.object "com/example/bitlattice/bitlattice/eval/Relation$Index"))) (t' := .int) (by decide) (by decide)))
      replace F_a1_holdingAny := F_a1_holdingAny.same W27
      replace V_row := V_row.other W27 ne_a2_a1
      replace V_vals := V_vals.other W27 ne_vals_a1
      replace Z0 := Nat.le_trans Z0 (Nat.le_of_eq W27.size.symm)
      replace K0 := K0.wr W27 (Or.inl (by simp))
      show Go _ _ _ (T27.setTop (mkF m 159 #[.val (.ref a1), .val (.ref a2), .val (.int 0), .val (.ref a2), .val (.int 3), .val (.int 1), .val (.int x1)] [])) _
      refine Go.st (fun t k => XS.goto X27.here hx rfl (pc0 := 159) (pc' := 168) rfl (hb hby d4_159) (by decide) (by decide) k) ?_
      refine Go.st (fun t k => XS.aloadN X27.here hx rfl (hb hby d4_168) rfl rfl k) ?_
      obtain ⟨T28, X28, e28, st28⟩ := getF X27 hx hZ hown (host := "") (Or.inl (wd28 hw)) Via.refl e27 F_a1_members (g := (mkF m 169 #[.val (.ref a1), .val (.ref a2), .val (.int 0), .val (.ref a2), .val (.int 3), .val (.int 1), .val (.int x1)] [(.ref a1)])) rfl rfl (hb hby d4_169)
      refine Go.st st28 ?_
      show Go _ _ _ (T28.setTop (mkF m 172 #[.val (.ref a1), .val (.ref a2), .val (.int 0), .val (.ref a2), .val (.int 3), .val (.int 1), .val (.int x1)] [.null])) _
      refine Go.st (fun t k => XS.ifnonnullNo X28.here hx rfl (hb hby d4_172) rfl k) ?_
      show Go _ _ _ (T28.setTop (mkF m 175 #[.val (.ref a1), .val (.ref a2), .val (.int 0), .val (.ref a2), .val (.int 3), .val (.int 1), .val (.int x1)] [])) _
      refine Go.st (fun t k => XS.aloadN X28.here hx rfl (hb hby d4_175) rfl rfl k) ?_
      obtain ⟨T29, X29, e29, st29⟩ := getF X28 hx hZ hown (host := "") (Or.inl (wd35 hw)) Via.refl e28 F_a1_size (g := (mkF m 176 #[.val (.ref a1), .val (.ref a2), .val (.int 0), .val (.ref a2), .val (.int 3), .val (.int 1), .val (.int x1)] [(.ref a1)])) rfl rfl (hb hby d4_176)
      refine Go.st st29 ?_
      show Go _ _ _ (T29.setTop (mkF m 179 #[.val (.ref a1), .val (.ref a2), .val (.int 0), .val (.ref a2), .val (.int 3), .val (.int 1), .val (.int x1)] [(.int 1)])) _
      refine Go.st (fun t k => XS.bipush X29.here hx rfl (hb hby d4_179) k) ?_
      refine Go.st (fun t k => XS.icmpYes X29.here hx rfl (pc0 := 181) (pc' := 207) rfl (hb hby d4_181) rfl (flt (by decide : ¬ ((8 : Int32) < (1 : Int32)))).2.2.2 (by decide) (by decide) k) ?_
      show Go _ _ _ (T29.setTop (mkF m 207 #[.val (.ref a1), .val (.ref a2), .val (.int 0), .val (.ref a2), .val (.int 3), .val (.int 1), .val (.int x1)] [])) _
      refine Go.st (fun t k => XS.aloadN X29.here hx rfl (hb hby d4_207) rfl rfl k) ?_
      obtain ⟨T30, X30, e30, st30⟩ := getF X29 hx hZ hown (host := "") (Or.inl (wd17 hw)) Via.refl e29 F_a1_indexes (g := (mkF m 208 #[.val (.ref a1), .val (.ref a2), .val (.int 0), .val (.ref a2), .val (.int 3), .val (.int 1), .val (.int x1)] [(.ref a1)])) rfl rfl (hb hby d4_208)
      refine Go.st st30 ?_
      show Go _ _ _ (T30.setTop (mkF m 211 #[.val (.ref a1), .val (.ref a2), .val (.int 0), .val (.ref a2), .val (.int 3), .val (.int 1), .val (.int x1)] [(.ref w_NI)])) _
      refine Go.st (fun t k => XS.astoreN X30.here hx rfl (hb hby d4_211) rfl rfl (l' := #[.val (.ref a1), .val (.ref a2), .val (.int 0), .val (.ref w_NI), .val (.int 3), .val (.int 1), .val (.int x1)]) rfl k) ?_
      refine Go.st (fun t k => XS.aloadN X30.here hx rfl (hb hby d4_212) rfl rfl k) ?_
      obtain ⟨cl31, Ar31, -, Sz31, Ng31, -, -⟩ := id V_NI
      refine Go.st (fun t k => X30.arraylength hx (by rw [e30]; exact Ar31.1) (State.isArrayOf_alike hZ.alike Ar31.2.1) (g := (mkF m 213 #[.val (.ref a1), .val (.ref a2), .val (.int 0), .val (.ref w_NI), .val (.int 3), .val (.int 1), .val (.int x1)] [(.ref w_NI)])) rfl rfl (hb hby d4_213) _ k) ?_
      rw [len_of Sz31 Ng31]
      show Go _ _ _ (T30.setTop (mkF m 214 #[.val (.ref a1), .val (.ref a2), .val (.int 0), .val (.ref w_NI), .val (.int 3), .val (.int 1), .val (.int x1)] [(.int 0)])) _
      refine Go.st (fun t k => XS.istore X30.here hx rfl (hb hby d4_214) rfl (l' := #[.val (.ref a1), .val (.ref a2), .val (.int 0), .val (.ref w_NI), .val (.int 0), .val (.int 1), .val (.int x1)]) rfl k) ?_
      refine Go.st (fun t k => XS.iconst X30.here hx rfl (hb hby d4_216) k) ?_
      refine Go.st (fun t k => XS.istore X30.here hx rfl (hb hby d4_217) rfl (l' := #[.val (.ref a1), .val (.ref a2), .val (.int 0), .val (.ref w_NI), .val (.int 0), .val (.int 0), .val (.int x1)]) rfl k) ?_
      refine Go.st (fun t k => XS.iload X30.here hx rfl (hb hby d4_219) rfl k) ?_
      refine Go.st (fun t k => XS.iload X30.here hx rfl (hb hby d4_221) rfl k) ?_
      refine Go.st (fun t k => XS.icmpYes X30.here hx rfl (pc0 := 223) (pc' := 244) rfl (hb hby d4_223) rfl (flt (by decide : ¬ ((0 : Int32) < (0 : Int32)))).2.1 (by decide) (by decide) k) ?_
      show Go _ _ _ (T30.setTop (mkF m 244 #[.val (.ref a1), .val (.ref a2), .val (.int 0), .val (.ref w_NI), .val (.int 0), .val (.int 0), .val (.int x1)] [])) _
      refine Go.st (fun t k => XS.iconst X30.here hx rfl (hb hby d4_244) k) ?_
      obtain ⟨fs, hr, hrun, hended, hW, hsame⟩ := X30.leave (v := some (.int (1 : Int32))) (fun h => by rw [Bd.returns] at h; cases h)
      refine Go.fin (retN X30 hx (t := .boolean) Bd.returns (by simp) (hb hby d4_245) hr) hrun hended ⟨_, _, rfl, ?_, ⟨_, rfl⟩, hW, hsame.mono (by decide) (by decide)⟩
      show Q4_3_0 Z a1 a2 vals w_NI k_NI hAny k_v v0 v1 v2 v3 v4 v5 v6 v7 v8 v9 v10 v11 k_x x0 x1 x2 h0 n0 _ T30.heap _
      rw [e30]
      exact ⟨(hAny + (1 : Int32)), rfl, N27, K0, E_a1, F_a1_arity, F_a1_values, F_a1_size, F_a1_members, F_a1_indexes, F_a1_holdingAny, V_vals⟩
    · refine Go.st (fun t k => XS.icmpYes X14.here hx rfl (pc0 := 146) (pc' := 162) rfl (hb hby d4_146) rfl (feq hc25).2 (by decide) (by decide) k) ?_
      show Go _ _ _ (T14.setTop (mkF m 162 #[.val (.ref a1), .val (.ref a2), .val (.int 0), .val (.ref a2), .val (.int 3), .val (.int 1), .val (.int x1)] [])) _
      refine Go.st (fun t k => XS.iinc X14.here hx rfl (hb hby d4_162) rfl (l' := #[.val (.ref a1), .val (.ref a2), .val (.int (0 : Int32)), .val (.ref a2), .val (.int (3 : Int32)), .val (.int ((1 : Int32) + (1 : Int32))), .val (.int x1)]) rfl k) ?_
      show Go _ _ _ (T14.setTop (mkF m 165 #[.val (.ref a1), .val (.ref a2), .val (.int 0), .val (.ref a2), .val (.int 3), .val (.int 2), .val (.int x1)] [])) _
      refine Go.st (fun t k => XS.goto X14.here hx rfl (pc0 := 165) (pc' := 129) rfl (hb hby d4_165) (by decide) (by decide) k) ?_
      refine Go.st (fun t k => XS.iload X14.here hx rfl (hb hby d4_129) rfl k) ?_
      refine Go.st (fun t k => XS.iload X14.here hx rfl (hb hby d4_131) rfl k) ?_
      refine Go.st (fun t k => XS.icmpNo X14.here hx rfl (hb hby d4_133) rfl (tlt (by decide : (2 : Int32) < (3 : Int32))).2.1 k) ?_
      show Go _ _ _ (T14.setTop (mkF m 136 #[.val (.ref a1), .val (.ref a2), .val (.int 0), .val (.ref a2), .val (.int 3), .val (.int 2), .val (.int x1)] [])) _
      refine Go.st (fun t k => XS.aloadN X14.here hx rfl (hb hby d4_136) rfl rfl k) ?_
      refine Go.st (fun t k => XS.iload X14.here hx rfl (hb hby d4_137) rfl k) ?_
      obtain ⟨cl32, Ar32, -, Sz32, Ng32, Hs32, -⟩ := id V_row
      have hin32 : ¬ ((2 : Int32) < 0 ∨ cl32.slots.size ≤ ((2 : Int32)).toNatClampNeg) := inb_of Sz32 ⟨by decide, by decide⟩
      refine Go.st (fun t k => X14.iaload hx (j := (2 : Int32)) (v := (.int x2)) (by rw [e14]; exact Ar32.1) (State.isArrayOf_alike hZ.alike Ar32.2.1) Ar32.2.2 hin32 (Has.at Hs32 hin32 rfl) (g := (mkF m 139 #[.val (.ref a1), .val (.ref a2), .val (.int 0), .val (.ref a2), .val (.int 3), .val (.int 2), .val (.int x1)] [(.int 2), (.ref a2)])) rfl rfl (hb hby d4_139) _ k) ?_
      show Go _ _ _ (T14.setTop (mkF m 140 #[.val (.ref a1), .val (.ref a2), .val (.int 0), .val (.ref a2), .val (.int 3), .val (.int 2), .val (.int x1)] [(.int x2)])) _
      refine Go.st (fun t k => XS.istore X14.here hx rfl (hb hby d4_140) rfl (l' := #[.val (.ref a1), .val (.ref a2), .val (.int 0), .val (.ref a2), .val (.int 3), .val (.int 2), .val (.int x2)]) rfl k) ?_
      refine Go.st (fun t k => XS.iload X14.here hx rfl (hb hby d4_142) rfl k) ?_
      refine Go.st (fun t k => X14.ldcInt hx hown (mvT hZ (wd41 hw)) (g := (mkF m 144 #[.val (.ref a1), .val (.ref a2), .val (.int 0), .val (.ref a2), .val (.int 3), .val (.int 2), .val (.int x2)] [(.int x2)])) rfl (hb hby d4_144) _ k) ?_
      show Go _ _ _ (T14.setTop (mkF m 146 #[.val (.ref a1), .val (.ref a2), .val (.int 0), .val (.ref a2), .val (.int 3), .val (.int 2), .val (.int x2)] [(.int 2147483647), (.int x2)])) _
      by_cases hc33 : x2 = (2147483647 : Int32)
      · refine Go.st (fun t k => XS.icmpNo X14.here hx rfl (hb hby d4_146) rfl (teq hc33).2 k) ?_
        show Go _ _ _ (T14.setTop (mkF m 149 #[.val (.ref a1), .val (.ref a2), .val (.int 0), .val (.ref a2), .val (.int 3), .val (.int 2), .val (.int x2)] [])) _
        refine Go.st (fun t k => XS.aloadN X14.here hx rfl (hb hby d4_149) rfl rfl k) ?_
        refine Go.st (fun t k => XS.dup X14.here hx rfl (hb hby d4_150) rfl rfl k) ?_
        obtain ⟨T34, X34, e34, st34⟩ := getF X14 hx hZ hown (host := "") (Or.inl (wd54 hw)) Via.refl e14 F_a1_holdingAny (g := (mkF m 151 #[.val (.ref a1), .val (.ref a2), .val (.int 0), .val (.ref a2), .val (.int 3), .val (.int 2), .val (.int x2)] [(.ref a1), (.ref a1)])) rfl rfl (hb hby d4_151)
        refine Go.st st34 ?_
        show Go _ _ _ (T34.setTop (mkF m 154 #[.val (.ref a1), .val (.ref a2), .val (.int 0), .val (.ref a2), .val (.int 3), .val (.int 2), .val (.int x2)] [(.int hAny), (.ref a1)])) _
        refine Go.st (fun t k => XS.iconst X34.here hx rfl (hb hby d4_154) k) ?_
        refine Go.st (fun t k => XS.iadd X34.here hx rfl (hb hby d4_155) rfl k) ?_
        show Go _ _ _ (T34.setTop (mkF m 156 #[.val (.ref a1), .val (.ref a2), .val (.int 0), .val (.ref a2), .val (.int 3), .val (.int 2), .val (.int x2)] [(.int (hAny + (1 : Int32))), (.ref a1)])) _
        obtain ⟨T35, h35, X35, e35, W35, st35⟩ := putF X34 hx hZ hown (host := "") (Or.inl (wd54 hw)) Via.refl e34 F_a1_holdingAny E_a1 (Or.inl (wd55 hw)) (wd7 hw) (ty := .int) (by decide) rfl rfl (g := (mkF m 156 #[.val (.ref a1), .val (.ref a2), .val (.int 0), .val (.ref a2), .val (.int 3), .val (.int 2), .val (.int x2)] [(.int (hAny + (1 : Int32))), (.ref a1)])) rfl rfl (hb hby d4_156)
        refine Go.st st35 ?_
        have N35 := Fr.snoc X35 N14 g_a1
        replace E_a1 := E_a1.wr W35
        replace V_NI := V_NI.other W35 ne_w_NI_a1
        replace F_a1_arity := F_a1_arity.other W35 (Or.inr (slot_ne (Or.inr (wd20 hw)) (Or.inl (wd55 hw)) (by decide) (t := .int) (t' := .int) (by decide) (by decide)))
        replace F_a1_values := F_a1_values.other W35 (Or.inr (slot_ne (Or.inl (wd22 hw)) (Or.inl (wd55 hw)) (by decide) (t := (.array .int)) (t' := .int) (by decide) (by decide)))
        replace F_a1_size := F_a1_size.other W35 (Or.inr (slot_ne (Or.inl (wd36 hw)) (Or.inl (wd55 hw)) (by decide) (t := .int) (t' := .int) (by decide) (by decide)))
        replace F_a1_members := F_a1_members.other W35 (Or.inr (slot_ne (Or.inl (wd29 hw)) (Or.inl (wd55 hw)) (by decide) (t := (.object "com/example/bitlattice/bitlattice/eval/Relation$Index")) (t' := .int) (by decide) (by decide)))
        replace F_a1_indexes := F_a1_indexes.other W35 (Or.inr (slot_ne (Or.inl (wd18 hw)) (Or.inl (wd55 hw)) (by decide) (t := (.array (.object "com/example/bitlattice/bitlattice/eval/Relation$Index"))) (t' := .int) (by decide) (by decide)))
        replace F_a1_holdingAny := F_a1_holdingAny.same W35
        replace V_row := V_row.other W35 ne_a2_a1
        replace V_vals := V_vals.other W35 ne_vals_a1
        replace Z0 := Nat.le_trans Z0 (Nat.le_of_eq W35.size.symm)
        replace K0 := K0.wr W35 (Or.inl (by simp))
        show Go _ _ _ (T35.setTop (mkF m 159 #[.val (.ref a1), .val (.ref a2), .val (.int 0), .val (.ref a2), .val (.int 3), .val (.int 2), .val (.int x2)] [])) _
        refine Go.st (fun t k => XS.goto X35.here hx rfl (pc0 := 159) (pc' := 168) rfl (hb hby d4_159) (by decide) (by decide) k) ?_
        refine Go.st (fun t k => XS.aloadN X35.here hx rfl (hb hby d4_168) rfl rfl k) ?_
        obtain ⟨T36, X36, e36, st36⟩ := getF X35 hx hZ hown (host := "") (Or.inl (wd28 hw)) Via.refl e35 F_a1_members (g := (mkF m 169 #[.val (.ref a1), .val (.ref a2), .val (.int 0), .val (.ref a2), .val (.int 3), .val (.int 2), .val (.int x2)] [(.ref a1)])) rfl rfl (hb hby d4_169)
        refine Go.st st36 ?_
        show Go _ _ _ (T36.setTop (mkF m 172 #[.val (.ref a1), .val (.ref a2), .val (.int 0), .val (.ref a2), .val (.int 3), .val (.int 2), .val (.int x2)] [.null])) _
        refine Go.st (fun t k => XS.ifnonnullNo X36.here hx rfl (hb hby d4_172) rfl k) ?_
        show Go _ _ _ (T36.setTop (mkF m 175 #[.val (.ref a1), .val (.ref a2), .val (.int 0), .val (.ref a2), .val (.int 3), .val (.int 2), .val (.int x2)] [])) _
        refine Go.st (fun t k => XS.aloadN X36.here hx rfl (hb hby d4_175) rfl rfl k) ?_
        obtain ⟨T37, X37, e37, st37⟩ := getF X36 hx hZ hown (host := "") (Or.inl (wd35 hw)) Via.refl e36 F_a1_size (g := (mkF m 176 #[.val (.ref a1), .val (.ref a2), .val (.int 0), .val (.ref a2), .val (.int 3), .val (.int 2), .val (.int x2)] [(.ref a1)])) rfl rfl (hb hby d4_176)
        refine Go.st st37 ?_
        show Go _ _ _ (T37.setTop (mkF m 179 #[.val (.ref a1), .val (.ref a2), .val (.int 0), .val (.ref a2), .val (.int 3), .val (.int 2), .val (.int x2)] [(.int 1)])) _
        refine Go.st (fun t k => XS.bipush X37.here hx rfl (hb hby d4_179) k) ?_
        refine Go.st (fun t k => XS.icmpYes X37.here hx rfl (pc0 := 181) (pc' := 207) rfl (hb hby d4_181) rfl (flt (by decide : ¬ ((8 : Int32) < (1 : Int32)))).2.2.2 (by decide) (by decide) k) ?_
        show Go _ _ _ (T37.setTop (mkF m 207 #[.val (.ref a1), .val (.ref a2), .val (.int 0), .val (.ref a2), .val (.int 3), .val (.int 2), .val (.int x2)] [])) _
        refine Go.st (fun t k => XS.aloadN X37.here hx rfl (hb hby d4_207) rfl rfl k) ?_
        obtain ⟨T38, X38, e38, st38⟩ := getF X37 hx hZ hown (host := "") (Or.inl (wd17 hw)) Via.refl e37 F_a1_indexes (g := (mkF m 208 #[.val (.ref a1), .val (.ref a2), .val (.int 0), .val (.ref a2), .val (.int 3), .val (.int 2), .val (.int x2)] [(.ref a1)])) rfl rfl (hb hby d4_208)
        refine Go.st st38 ?_
        show Go _ _ _ (T38.setTop (mkF m 211 #[.val (.ref a1), .val (.ref a2), .val (.int 0), .val (.ref a2), .val (.int 3), .val (.int 2), .val (.int x2)] [(.ref w_NI)])) _
        refine Go.st (fun t k => XS.astoreN X38.here hx rfl (hb hby d4_211) rfl rfl (l' := #[.val (.ref a1), .val (.ref a2), .val (.int 0), .val (.ref w_NI), .val (.int 3), .val (.int 2), .val (.int x2)]) rfl k) ?_
        refine Go.st (fun t k => XS.aloadN X38.here hx rfl (hb hby d4_212) rfl rfl k) ?_
        obtain ⟨cl39, Ar39, -, Sz39, Ng39, -, -⟩ := id V_NI
        refine Go.st (fun t k => X38.arraylength hx (by rw [e38]; exact Ar39.1) (State.isArrayOf_alike hZ.alike Ar39.2.1) (g := (mkF m 213 #[.val (.ref a1), .val (.ref a2), .val (.int 0), .val (.ref w_NI), .val (.int 3), .val (.int 2), .val (.int x2)] [(.ref w_NI)])) rfl rfl (hb hby d4_213) _ k) ?_
        rw [len_of Sz39 Ng39]
        show Go _ _ _ (T38.setTop (mkF m 214 #[.val (.ref a1), .val (.ref a2), .val (.int 0), .val (.ref w_NI), .val (.int 3), .val (.int 2), .val (.int x2)] [(.int 0)])) _
        refine Go.st (fun t k => XS.istore X38.here hx rfl (hb hby d4_214) rfl (l' := #[.val (.ref a1), .val (.ref a2), .val (.int 0), .val (.ref w_NI), .val (.int 0), .val (.int 2), .val (.int x2)]) rfl k) ?_
        refine Go.st (fun t k => XS.iconst X38.here hx rfl (hb hby d4_216) k) ?_
        refine Go.st (fun t k => XS.istore X38.here hx rfl (hb hby d4_217) rfl (l' := #[.val (.ref a1), .val (.ref a2), .val (.int 0), .val (.ref w_NI), .val (.int 0), .val (.int 0), .val (.int x2)]) rfl k) ?_
        refine Go.st (fun t k => XS.iload X38.here hx rfl (hb hby d4_219) rfl k) ?_
        refine Go.st (fun t k => XS.iload X38.here hx rfl (hb hby d4_221) rfl k) ?_
        refine Go.st (fun t k => XS.icmpYes X38.here hx rfl (pc0 := 223) (pc' := 244) rfl (hb hby d4_223) rfl (flt (by decide : ¬ ((0 : Int32) < (0 : Int32)))).2.1 (by decide) (by decide) k) ?_
        show Go _ _ _ (T38.setTop (mkF m 244 #[.val (.ref a1), .val (.ref a2), .val (.int 0), .val (.ref w_NI), .val (.int 0), .val (.int 0), .val (.int x2)] [])) _
        refine Go.st (fun t k => XS.iconst X38.here hx rfl (hb hby d4_244) k) ?_
        obtain ⟨fs, hr, hrun, hended, hW, hsame⟩ := X38.leave (v := some (.int (1 : Int32))) (fun h => by rw [Bd.returns] at h; cases h)
        refine Go.fin (retN X38 hx (t := .boolean) Bd.returns (by simp) (hb hby d4_245) hr) hrun hended ⟨_, _, rfl, ?_, ⟨_, rfl⟩, hW, hsame.mono (by decide) (by decide)⟩
        show Q4_3_0 Z a1 a2 vals w_NI k_NI hAny k_v v0 v1 v2 v3 v4 v5 v6 v7 v8 v9 v10 v11 k_x x0 x1 x2 h0 n0 _ T38.heap _
        rw [e38]
        exact ⟨(hAny + (1 : Int32)), rfl, N35, K0, E_a1, F_a1_arity, F_a1_values, F_a1_size, F_a1_members, F_a1_indexes, F_a1_holdingAny, V_vals⟩
      · refine Go.st (fun t k => XS.icmpYes X14.here hx rfl (pc0 := 146) (pc' := 162) rfl (hb hby d4_146) rfl (feq hc33).2 (by decide) (by decide) k) ?_
        show Go _ _ _ (T14.setTop (mkF m 162 #[.val (.ref a1), .val (.ref a2), .val (.int 0), .val (.ref a2), .val (.int 3), .val (.int 2), .val (.int x2)] [])) _
        refine Go.st (fun t k => XS.iinc X14.here hx rfl (hb hby d4_162) rfl (l' := #[.val (.ref a1), .val (.ref a2), .val (.int (0 : Int32)), .val (.ref a2), .val (.int (3 : Int32)), .val (.int ((2 : Int32) + (1 : Int32))), .val (.int x2)]) rfl k) ?_
        show Go _ _ _ (T14.setTop (mkF m 165 #[.val (.ref a1), .val (.ref a2), .val (.int 0), .val (.ref a2), .val (.int 3), .val (.int 3), .val (.int x2)] [])) _
        refine Go.st (fun t k => XS.goto X14.here hx rfl (pc0 := 165) (pc' := 129) rfl (hb hby d4_165) (by decide) (by decide) k) ?_
        refine Go.st (fun t k => XS.iload X14.here hx rfl (hb hby d4_129) rfl k) ?_
        refine Go.st (fun t k => XS.iload X14.here hx rfl (hb hby d4_131) rfl k) ?_
        refine Go.st (fun t k => XS.icmpYes X14.here hx rfl (pc0 := 133) (pc' := 168) rfl (hb hby d4_133) rfl (flt (by decide : ¬ ((3 : Int32) < (3 : Int32)))).2.1 (by decide) (by decide) k) ?_
        show Go _ _ _ (T14.setTop (mkF m 168 #[.val (.ref a1), .val (.ref a2), .val (.int 0), .val (.ref a2), .val (.int 3), .val (.int 3), .val (.int x2)] [])) _
        refine Go.st (fun t k => XS.aloadN X14.here hx rfl (hb hby d4_168) rfl rfl k) ?_
        obtain ⟨T40, X40, e40, st40⟩ := getF X14 hx hZ hown (host := "") (Or.inl (wd28 hw)) Via.refl e14 F_a1_members (g := (mkF m 169 #[.val (.ref a1), .val (.ref a2), .val (.int 0), .val (.ref a2), .val (.int 3), .val (.int 3), .val (.int x2)] [(.ref a1)])) rfl rfl (hb hby d4_169)
        refine Go.st st40 ?_
        show Go _ _ _ (T40.setTop (mkF m 172 #[.val (.ref a1), .val (.ref a2), .val (.int 0), .val (.ref a2), .val (.int 3), .val (.int 3), .val (.int x2)] [.null])) _
        refine Go.st (fun t k => XS.ifnonnullNo X40.here hx rfl (hb hby d4_172) rfl k) ?_
        show Go _ _ _ (T40.setTop (mkF m 175 #[.val (.ref a1), .val (.ref a2), .val (.int 0), .val (.ref a2), .val (.int 3), .val (.int 3), .val (.int x2)] [])) _
        refine Go.st (fun t k => XS.aloadN X40.here hx rfl (hb hby d4_175) rfl rfl k) ?_
        obtain ⟨T41, X41, e41, st41⟩ := getF X40 hx hZ hown (host := "") (Or.inl (wd35 hw)) Via.refl e40 F_a1_size (g := (mkF m 176 #[.val (.ref a1), .val (.ref a2), .val (.int 0), .val (.ref a2), .val (.int 3), .val (.int 3), .val (.int x2)] [(.ref a1)])) rfl rfl (hb hby d4_176)
        refine Go.st st41 ?_
        show Go _ _ _ (T41.setTop (mkF m 179 #[.val (.ref a1), .val (.ref a2), .val (.int 0), .val (.ref a2), .val (.int 3), .val (.int 3), .val (.int x2)] [(.int 1)])) _
        refine Go.st (fun t k => XS.bipush X41.here hx rfl (hb hby d4_179) k) ?_
        refine Go.st (fun t k => XS.icmpYes X41.here hx rfl (pc0 := 181) (pc' := 207) rfl (hb hby d4_181) rfl (flt (by decide : ¬ ((8 : Int32) < (1 : Int32)))).2.2.2 (by decide) (by decide) k) ?_
        show Go _ _ _ (T41.setTop (mkF m 207 #[.val (.ref a1), .val (.ref a2), .val (.int 0), .val (.ref a2), .val (.int 3), .val (.int 3), .val (.int x2)] [])) _
        refine Go.st (fun t k => XS.aloadN X41.here hx rfl (hb hby d4_207) rfl rfl k) ?_
        obtain ⟨T42, X42, e42, st42⟩ := getF X41 hx hZ hown (host := "") (Or.inl (wd17 hw)) Via.refl e41 F_a1_indexes (g := (mkF m 208 #[.val (.ref a1), .val (.ref a2), .val (.int 0), .val (.ref a2), .val (.int 3), .val (.int 3), .val (.int x2)] [(.ref a1)])) rfl rfl (hb hby d4_208)
        refine Go.st st42 ?_
        show Go _ _ _ (T42.setTop (mkF m 211 #[.val (.ref a1), .val (.ref a2), .val (.int 0), .val (.ref a2), .val (.int 3), .val (.int 3), .val (.int x2)] [(.ref w_NI)])) _
        refine Go.st (fun t k => XS.astoreN X42.here hx rfl (hb hby d4_211) rfl rfl (l' := #[.val (.ref a1), .val (.ref a2), .val (.int 0), .val (.ref w_NI), .val (.int 3), .val (.int 3), .val (.int x2)]) rfl k) ?_
        refine Go.st (fun t k => XS.aloadN X42.here hx rfl (hb hby d4_212) rfl rfl k) ?_
        obtain ⟨cl43, Ar43, -, Sz43, Ng43, -, -⟩ := id V_NI
        refine Go.st (fun t k => X42.arraylength hx (by rw [e42]; exact Ar43.1) (State.isArrayOf_alike hZ.alike Ar43.2.1) (g := (mkF m 213 #[.val (.ref a1), .val (.ref a2), .val (.int 0), .val (.ref w_NI), .val (.int 3), .val (.int 3), .val (.int x2)] [(.ref w_NI)])) rfl rfl (hb hby d4_213) _ k) ?_
        rw [len_of Sz43 Ng43]
        show Go _ _ _ (T42.setTop (mkF m 214 #[.val (.ref a1), .val (.ref a2), .val (.int 0), .val (.ref w_NI), .val (.int 3), .val (.int 3), .val (.int x2)] [(.int 0)])) _
        refine Go.st (fun t k => XS.istore X42.here hx rfl (hb hby d4_214) rfl (l' := #[.val (.ref a1), .val (.ref a2), .val (.int 0), .val (.ref w_NI), .val (.int 0), .val (.int 3), .val (.int x2)]) rfl k) ?_
        refine Go.st (fun t k => XS.iconst X42.here hx rfl (hb hby d4_216) k) ?_
        refine Go.st (fun t k => XS.istore X42.here hx rfl (hb hby d4_217) rfl (l' := #[.val (.ref a1), .val (.ref a2), .val (.int 0), .val (.ref w_NI), .val (.int 0), .val (.int 0), .val (.int x2)]) rfl k) ?_
        refine Go.st (fun t k => XS.iload X42.here hx rfl (hb hby d4_219) rfl k) ?_
        refine Go.st (fun t k => XS.iload X42.here hx rfl (hb hby d4_221) rfl k) ?_
        refine Go.st (fun t k => XS.icmpYes X42.here hx rfl (pc0 := 223) (pc' := 244) rfl (hb hby d4_223) rfl (flt (by decide : ¬ ((0 : Int32) < (0 : Int32)))).2.1 (by decide) (by decide) k) ?_
        show Go _ _ _ (T42.setTop (mkF m 244 #[.val (.ref a1), .val (.ref a2), .val (.int 0), .val (.ref w_NI), .val (.int 0), .val (.int 0), .val (.int x2)] [])) _
        refine Go.st (fun t k => XS.iconst X42.here hx rfl (hb hby d4_244) k) ?_
        obtain ⟨fs, hr, hrun, hended, hW, hsame⟩ := X42.leave (v := some (.int (1 : Int32))) (fun h => by rw [Bd.returns] at h; cases h)
        refine Go.fin (retN X42 hx (t := .boolean) Bd.returns (by simp) (hb hby d4_245) hr) hrun hended ⟨_, _, rfl, ?_, ⟨_, rfl⟩, hW, hsame.mono (by decide) (by decide)⟩
        show Q4_3_0 Z a1 a2 vals w_NI k_NI hAny k_v v0 v1 v2 v3 v4 v5 v6 v7 v8 v9 v10 v11 k_x x0 x1 x2 h0 n0 _ T42.heap _
        rw [e42]
        exact ⟨hAny, rfl, N14, K0, E_a1, F_a1_arity, F_a1_values, F_a1_size, F_a1_members, F_a1_indexes, F_a1_holdingAny, V_vals⟩
def f5_3_1 (v0 : Int32) (v1 : Int32) (v2 : Int32) (x0 : Int32) (x1 : Int32) (x2 : Int32) : Int32 := (if (f6_3 v0 v1 v2 x0 x1 x2) = (0 : Int32) then (0 : Int32) else (1 : Int32))
def Q5_3_1 (Z : State) (a1 : Addr) (a2 : Addr) (vals : Addr) (w_NI : Addr) (k_NI : ClassId) (hAny : Int32) (k_v : ClassId) (v0 : Int32) (v1 : Int32) (v2 : Int32) (v3 : Int32) (v4 : Int32) (v5 : Int32) (v6 : Int32) (v7 : Int32) (v8 : Int32) (v9 : Int32) (v10 : Int32) (v11 : Int32) (k_x : ClassId) (x0 : Int32) (x1 : Int32) (x2 : Int32) (h0 : Heap) (n0 : Nat) (v : Option Value) (h : Heap) (L : List Loc) : Prop := v = some (.int (f5_3_1 v0 v1 v2 x0 x1 x2)) ∧ Fr n0 L ∧ h = h0
theorem ef5_3_1 (m : MethodId) (x0 : Addr) (x1 : Addr) : entryFrame m #[(.ref x0), (.ref x1)] 3 = mkF m 0 #[.val (.ref x0), .val (.ref x1), .unset] [] := by first | (simp [entryFrame, mkF, argsToLocals, Value.category]; done) | rfl
set_option maxRecDepth 65536 in
set_option maxHeartbeats 16000000 in
theorem rm5_3_1 (l : Launch) (Z : State) (a0 : Array Value) (hw : ∀ d ∈ tables_1, d.before a0 Z = true) (ws : List Jvm.Cond) (a1 : Addr) (a2 : Addr) (vals : Addr) (w_NI : Addr) (k_NI : ClassId) (hAny : Int32) (k_v : ClassId) (v0 : Int32) (v1 : Int32) (v2 : Int32) (v3 : Int32) (v4 : Int32) (v5 : Int32) (v6 : Int32) (v7 : Int32) (v8 : Int32) (v9 : Int32) (v10 : Int32) (v11 : Int32) (k_x : ClassId) (x0 : Int32) (x1 : Int32) (x2 : Int32) (h0 : Heap) (n0 : Nat) (Z0 : n0 ≤ h0.size) (E_a1 : Exa Z h0 a1 "com/example/bitlattice/bitlattice/eval/Relation") (V_NI : Arv Z h0 w_NI k_NI (.object "com/example/bitlattice/bitlattice/eval/Relation$Index") (0 : Int32) [] .null) (F_a1_arity : Fld Z h0 a1 "com/example/bitlattice/bitlattice/eval/Relation" "arity" "I" (.int (3 : Int32))) (F_a1_values : Fld Z h0 a1 "com/example/bitlattice/bitlattice/eval/Relation" "values" "[I" (.ref vals)) (F_a1_size : Fld Z h0 a1 "com/example/bitlattice/bitlattice/eval/Relation" "size" "I" (.int (1 : Int32))) (F_a1_members : Fld Z h0 a1 "com/example/bitlattice/bitlattice/eval/Relation" "members" "Lcom/example/bitlattice/bitlattice/eval/Relation$Index;" .null) (F_a1_indexes : Fld Z h0 a1 "com/example/bitlattice/bitlattice/eval/Relation" "indexes" "[Lcom/example/bitlattice/bitlattice/eval/Relation$Index;" (.ref w_NI)) (F_a1_holdingAny : Fld Z h0 a1 "com/example/bitlattice/bitlattice/eval/Relation" "holdingAny" "I" (.int hAny)) (V_vals : Arv Z h0 vals k_v .int (12 : Int32) [(.int v0), (.int v1), (.int v2), (.int v3), (.int v4), (.int v5), (.int v6), (.int v7), (.int v8), (.int v9), (.int v10), (.int v11)] (.int (0 : Int32))) (V_row : Arv Z h0 a2 k_x .int (3 : Int32) [(.int x0), (.int x1), (.int x2)] (.int (0 : Int32))) (ne_vals_a1 : vals ≠ a1) (ne_a2_a1 : a2 ≠ a1) (ne_vals_a2 : vals ≠ a2) (ne_w_NI_a1 : w_NI ≠ a1) (ne_w_NI_vals : w_NI ≠ vals) (ne_w_NI_a2 : w_NI ≠ a2) :
    MetFree l (⟨"com/example/bitlattice/bitlattice/eval/Relation", "contains", "([I)Z"⟩ : MethodName) (head1 (Jvm.Cond.code (⟨"com/example/bitlattice/bitlattice/eval/Relation", "contains", "([I)Z"⟩ : MethodName) prog_33_method_15_code 3 (some .boolean) :: ws) ({ frames := 1, cells := 0, slots := 0, locals := 15 } : Room)) (fun a U => a = #[(.ref a1), (.ref a2)] ∧ Z.Warmed39 U.vm ∧ U.heap = h0) (fun _ _ _ _ _ => True) (fun _ U o U' => ∃ v L, o = .returned v ∧ Q5_3_1 Z a1 a2 vals w_NI k_NI hAny k_v v0 v1 v2 v3 v4 v5 v6 v7 v8 v9 v10 v11 k_x x0 x1 x2 h0 n0 v U'.heap L ∧ FrameEnd U o U' L ({ frames := 1, cells := 0, slots := 0, locals := 15 } : Room).cells ({ frames := 1, cells := 0, slots := 0, locals := 15 } : Room).slots) := by
  refine MetFree.of_bodySF (plainFor_of_name pn1) hisR ?_
  intro p e s m args below meth c s₁ Bd hml0 hP hK
  obtain ⟨rfl, hZ, hh⟩ := hP
  have hx := Bd.exec
  have hby := Bd.bytes
  have hml : c.maxLocals = 3 := hml0
  have hown : s.vm.findClass "com/example/bitlattice/bitlattice/eval/Relation" = some m.cls := findClass_of_methodNamed Bd.named
  have hnm := (name_of_methodNamed Bd.named Bd.method).1
  have X0 : Stand p l e ({ frames := 1, cells := 0, slots := 0, locals := 15 } : Room) s m #[(.ref a1), (.ref a2)] below meth c s₁ [] 0 0 := Stand.of_body Bd
  have e0 : s₁.heap = h0 := by rw [← hh, Bd.state]; rfl
  have N0 := Fr.nil n0
  have K0 : Keep h0 h0 [] := Keep.refl h0 _
  refine Go.st (P := fun o U' => ∃ v L, o = .returned v ∧ Q5_3_1 Z a1 a2 vals w_NI k_NI hAny k_v v0 v1 v2 v3 v4 v5 v6 v7 v8 v9 v10 v11 k_x x0 x1 x2 h0 n0 v U'.heap L ∧ FrameEnd s o U' L ({ frames := 1, cells := 0, slots := 0, locals := 15 } : Room).cells ({ frames := 1, cells := 0, slots := 0, locals := 15 } : Room).slots) (fun t k => castTop (ef5_3_1 m a1 a2) k) ?_
  show Go _ _ _ (s₁.setTop (mkF m 0 #[.val (.ref a1), .val (.ref a2), .unset] [])) _
  refine Go.st (fun t k => XS.aloadN X0.here hx rfl (hb hby d5_0) rfl rfl k) ?_
  obtain ⟨T1, X1, e1, st1⟩ := getF X0 hx hZ hown (host := "") (Or.inl (wd28 hw)) Via.refl e0 F_a1_members (g := (mkF m 1 #[.val (.ref a1), .val (.ref a2), .unset] [(.ref a1)])) rfl rfl (hb hby d5_1)
  refine Go.st st1 ?_
  show Go _ _ _ (T1.setTop (mkF m 4 #[.val (.ref a1), .val (.ref a2), .unset] [.null])) _
  refine Go.st (fun t k => XS.ifnullYes X1.here hx rfl (pc0 := 4) (pc' := 24) rfl (hb hby d5_4) rfl (by decide) (by decide) k) ?_
  show Go _ _ _ (T1.setTop (mkF m 24 #[.val (.ref a1), .val (.ref a2), .unset] [])) _
  refine Go.st (fun t k => XS.iconst X1.here hx rfl (hb hby d5_24) k) ?_
  refine Go.st (fun t k => XS.istoreN X1.here hx rfl (hb hby d5_25) rfl (l' := #[.val (.ref a1), .val (.ref a2), .val (.int 0)]) rfl k) ?_
  refine Go.st (fun t k => XS.iloadN X1.here hx rfl (hb hby d5_26) rfl k) ?_
  refine Go.st (fun t k => XS.aloadN X1.here hx rfl (hb hby d5_27) rfl rfl k) ?_
  obtain ⟨T2, X2, e2, st2⟩ := getF X1 hx hZ hown (host := "") (Or.inl (wd35 hw)) Via.refl e1 F_a1_size (g := (mkF m 28 #[.val (.ref a1), .val (.ref a2), .val (.int 0)] [(.ref a1), (.int 0)])) rfl rfl (hb hby d5_28)
  refine Go.st st2 ?_
  show Go _ _ _ (T2.setTop (mkF m 31 #[.val (.ref a1), .val (.ref a2), .val (.int 0)] [(.int 1), (.int 0)])) _
  refine Go.st (fun t k => XS.icmpNo X2.here hx rfl (hb hby d5_31) rfl (tlt (by decide : (0 : Int32) < (1 : Int32))).2.1 k) ?_
  show Go _ _ _ (T2.setTop (mkF m 34 #[.val (.ref a1), .val (.ref a2), .val (.int 0)] [])) _
  refine Go.st (fun t k => XS.aloadN X2.here hx rfl (hb hby d5_34) rfl rfl k) ?_
  refine Go.st (fun t k => XS.iloadN X2.here hx rfl (hb hby d5_35) rfl k) ?_
  refine Go.st (fun t k => XS.aloadN X2.here hx rfl (hb hby d5_36) rfl rfl k) ?_
  obtain ⟨cq3, qq3, qq3'⟩ := E_a1.cell
  obtain ⟨_, _, ⟨T3, L3, k3, n3⟩, -, X3, ⟨Lc3, hQ3, l3, y3, z3⟩, st3⟩ := X2.privateBack hx (y := (⟨"com/example/bitlattice/bitlattice/eval/Relation", "rowIs", "(I[I)Z"⟩ : MethodName)) hown (mvT hZ (wd42 hw)) (mvT hZ (wd43 hw)) (own_selp (mvT hZ (wd7 hw)) (Cond.privateMethod_at (mvP hZ (wd44 hw) (args := #[]))) (mvT hZ (wd43 hw)) (by decide)) (Cond.privateMethod_at (mvP hZ (wd44 hw) (args := #[]))) (mvT hZ (wd45 hw)) (by decide) (backOf (W := 0) (rm6_3 l Z a0 hw [] a1 a2 vals w_NI k_NI hAny k_v v0 v1 v2 v3 v4 v5 v6 v7 v8 v9 v10 v11 k_x x0 x1 x2 h0 n0 Z0 E_a1 V_NI F_a1_arity F_a1_values F_a1_size F_a1_members F_a1_indexes F_a1_holdingAny V_vals V_row ne_vals_a1 ne_a2_a1 ne_vals_a2 ne_w_NI_a1 ne_w_NI_vals ne_w_NI_a2) hZ (wd45 hw) (wd8 hw) (by decide) (by decide)) (g := (mkF m 37 #[.val (.ref a1), .val (.ref a2), .val (.int 0)] [(.ref a2), (.int 0), (.ref a1)])) rfl (by rw [hml]; rfl) (Steps.refl _) (a := a1) (by rw [e2]; exact qq3) qq3' (argsL := [(.int (0 : Int32)), (.ref a2)]) (rest := []) (lenOf pd1 rfl) rfl (by show 2 * 0 + _ ≤ _; exact Nat.le_of_eq rfl) (hb hby d5_37) (fun _ _ => ⟨rfl, e2, (by decide : 0 + 0 ≤ _), (by decide : 0 + 0 ≤ _)⟩)
  dsimp only [Pt.U, Pt.locs, Pt.cells, Pt.slots] at X3 l3 y3 z3 st3 hQ3
  subst l3 y3 z3
  refine Go.tr st3 ?_
  obtain ⟨rfl, N3q, e3⟩ := hQ3
  have N3 := Fr.app N0 N3q
  show Go _ _ _ (T3.setTop (mkF m 40 #[.val (.ref a1), .val (.ref a2), .val (.int 0)] [(.int (f6_3 v0 v1 v2 x0 x1 x2))])) _
  by_cases hc4 : (f6_3 v0 v1 v2 x0 x1 x2) = (0 : Int32)
  · refine Go.st (fun t k => XS.ifYes X3.here hx rfl (pc0 := 40) (pc' := 45) rfl (hb hby d5_40) rfl ((if0 _ _).trans (teq hc4).1) (by decide) (by decide) k) ?_
    show Go _ _ _ (T3.setTop (mkF m 45 #[.val (.ref a1), .val (.ref a2), .val (.int 0)] [])) _
    refine Go.st (fun t k => XS.iinc X3.here hx rfl (hb hby d5_45) rfl (l' := #[.val (.ref a1), .val (.ref a2), .val (.int ((0 : Int32) + (1 : Int32)))]) rfl k) ?_
    show Go _ _ _ (T3.setTop (mkF m 48 #[.val (.ref a1), .val (.ref a2), .val (.int 1)] [])) _
    refine Go.st (fun t k => XS.goto X3.here hx rfl (pc0 := 48) (pc' := 26) rfl (hb hby d5_48) (by decide) (by decide) k) ?_
    refine Go.st (fun t k => XS.iloadN X3.here hx rfl (hb hby d5_26) rfl k) ?_
    refine Go.st (fun t k => XS.aloadN X3.here hx rfl (hb hby d5_27) rfl rfl k) ?_
    obtain ⟨T5, X5, e5, st5⟩ := getF X3 hx hZ hown (host := "") (Or.inl (wd35 hw)) Via.refl e3 F_a1_size (g := (mkF m 28 #[.val (.ref a1), .val (.ref a2), .val (.int 1)] [(.ref a1), (.int 1)])) rfl rfl (hb hby d5_28)
    refine Go.st st5 ?_
    show Go _ _ _ (T5.setTop (mkF m 31 #[.val (.ref a1), .val (.ref a2), .val (.int 1)] [(.int 1), (.int 1)])) _
    refine Go.st (fun t k => XS.icmpYes X5.here hx rfl (pc0 := 31) (pc' := 51) rfl (hb hby d5_31) rfl (flt (by decide : ¬ ((1 : Int32) < (1 : Int32)))).2.1 (by decide) (by decide) k) ?_
    show Go _ _ _ (T5.setTop (mkF m 51 #[.val (.ref a1), .val (.ref a2), .val (.int 1)] [])) _
    refine Go.st (fun t k => XS.iconst X5.here hx rfl (hb hby d5_51) k) ?_
    obtain ⟨fs, hr, hrun, hended, hW, hsame⟩ := X5.leave (v := some (.int (0 : Int32))) (fun h => by rw [Bd.returns] at h; cases h)
    refine Go.fin (retN X5 hx (t := .boolean) Bd.returns (by simp) (hb hby d5_52) hr) hrun hended ⟨_, _, rfl, ?_, ⟨_, rfl⟩, hW, hsame.mono (by decide) (by decide)⟩
    show Q5_3_1 Z a1 a2 vals w_NI k_NI hAny k_v v0 v1 v2 v3 v4 v5 v6 v7 v8 v9 v10 v11 k_x x0 x1 x2 h0 n0 _ T5.heap _
    rw [e5]
    exact ⟨(by unfold f5_3_1; simp only [if_pos hc4]), N3, rfl⟩
  · refine Go.st (fun t k => XS.ifNo X3.here hx rfl (hb hby d5_40) rfl ((if0 _ _).trans (feq hc4).1) k) ?_
    show Go _ _ _ (T3.setTop (mkF m 43 #[.val (.ref a1), .val (.ref a2), .val (.int 0)] [])) _
    refine Go.st (fun t k => XS.iconst X3.here hx rfl (hb hby d5_43) k) ?_
    obtain ⟨fs, hr, hrun, hended, hW, hsame⟩ := X3.leave (v := some (.int (1 : Int32))) (fun h => by rw [Bd.returns] at h; cases h)
    refine Go.fin (retN X3 hx (t := .boolean) Bd.returns (by simp) (hb hby d5_44) hr) hrun hended ⟨_, _, rfl, ?_, ⟨_, rfl⟩, hW, hsame.mono (by decide) (by decide)⟩
    show Q5_3_1 Z a1 a2 vals w_NI k_NI hAny k_v v0 v1 v2 v3 v4 v5 v6 v7 v8 v9 v10 v11 k_x x0 x1 x2 h0 n0 _ T3.heap _
    rw [e3]
    exact ⟨(by unfold f5_3_1; simp only [if_neg hc4]), N3, rfl⟩
def f4_3_1 (v0 : Int32) (v1 : Int32) (v2 : Int32) (x0 : Int32) (x1 : Int32) (x2 : Int32) : Int32 := (if (f5_3_1 v0 v1 v2 x0 x1 x2) = (0 : Int32) then (1 : Int32) else (0 : Int32))
def f4_3_1_a1_size (v0 : Int32) (v1 : Int32) (v2 : Int32) (x0 : Int32) (x1 : Int32) (x2 : Int32) : Int32 := (if (f5_3_1 v0 v1 v2 x0 x1 x2) = (0 : Int32) then (2 : Int32) else (1 : Int32))
def f4_3_1_vals_3 (v0 : Int32) (v1 : Int32) (v2 : Int32) (v3 : Int32) (x0 : Int32) (x1 : Int32) (x2 : Int32) : Int32 := (if (f5_3_1 v0 v1 v2 x0 x1 x2) = (0 : Int32) then x0 else v3)
def f4_3_1_vals_4 (v0 : Int32) (v1 : Int32) (v2 : Int32) (v4 : Int32) (x0 : Int32) (x1 : Int32) (x2 : Int32) : Int32 := (if (f5_3_1 v0 v1 v2 x0 x1 x2) = (0 : Int32) then x1 else v4)
def f4_3_1_vals_5 (v0 : Int32) (v1 : Int32) (v2 : Int32) (v5 : Int32) (x0 : Int32) (x1 : Int32) (x2 : Int32) : Int32 := (if (f5_3_1 v0 v1 v2 x0 x1 x2) = (0 : Int32) then x2 else v5)
def Q4_3_1 (Z : State) (a1 : Addr) (a2 : Addr) (vals : Addr) (w_NI : Addr) (k_NI : ClassId) (hAny : Int32) (k_v : ClassId) (v0 : Int32) (v1 : Int32) (v2 : Int32) (v3 : Int32) (v4 : Int32) (v5 : Int32) (v6 : Int32) (v7 : Int32) (v8 : Int32) (v9 : Int32) (v10 : Int32) (v11 : Int32) (k_x : ClassId) (x0 : Int32) (x1 : Int32) (x2 : Int32) (h0 : Heap) (n0 : Nat) (v : Option Value) (h : Heap) (L : List Loc) : Prop := ∃ z_4_3_1_holdingAny : Int32, v = some (.int (f4_3_1 v0 v1 v2 x0 x1 x2)) ∧ Fr n0 L ∧ Keep h0 h [vals, a1] ∧ Exa Z h a1 "com/example/bitlattice/bitlattice/eval/Relation" ∧ Fld Z h a1 "com/example/bitlattice/bitlattice/eval/Relation" "arity" "I" (.int (3 : Int32)) ∧ Fld Z h a1 "com/example/bitlattice/bitlattice/eval/Relation" "values" "[I" (.ref vals) ∧ Fld Z h a1 "com/example/bitlattice/bitlattice/eval/Relation" "size" "I" (.int (f4_3_1_a1_size v0 v1 v2 x0 x1 x2)) ∧ Fld Z h a1 "com/example/bitlattice/bitlattice/eval/Relation" "members" "Lcom/example/bitlattice/bitlattice/eval/Relation$Index;" .null ∧ Fld Z h a1 "com/example/bitlattice/bitlattice/eval/Relation" "indexes" "[Lcom/example/bitlattice/bitlattice/eval/Relation$Index;" (.ref w_NI) ∧ Fld Z h a1 "com/example/bitlattice/bitlattice/eval/Relation" "holdingAny" "I" (.int z_4_3_1_holdingAny) ∧ Arv Z h vals k_v .int (12 : Int32) [(.int v0), (.int v1), (.int v2), (.int (f4_3_1_vals_3 v0 v1 v2 v3 x0 x1 x2)), (.int (f4_3_1_vals_4 v0 v1 v2 v4 x0 x1 x2)), (.int (f4_3_1_vals_5 v0 v1 v2 v5 x0 x1 x2)), (.int v6), (.int v7), (.int v8), (.int v9), (.int v10), (.int v11)] (.int (0 : Int32))
theorem ef4_3_1 (m : MethodId) (x0 : Addr) (x1 : Addr) : entryFrame m #[(.ref x0), (.ref x1)] 7 = mkF m 0 #[.val (.ref x0), .val (.ref x1), .unset, .unset, .unset, .unset, .unset] [] := by first | (simp [entryFrame, mkF, argsToLocals, Value.category]; done) | rfl
set_option maxRecDepth 65536 in
set_option maxHeartbeats 16000000 in
theorem rm4_3_1 (l : Launch) (Z : State) (a0 : Array Value) (hw : ∀ d ∈ tables_1, d.before a0 Z = true) (ws : List Jvm.Cond) (a1 : Addr) (a2 : Addr) (vals : Addr) (w_NI : Addr) (k_NI : ClassId) (hAny : Int32) (k_v : ClassId) (v0 : Int32) (v1 : Int32) (v2 : Int32) (v3 : Int32) (v4 : Int32) (v5 : Int32) (v6 : Int32) (v7 : Int32) (v8 : Int32) (v9 : Int32) (v10 : Int32) (v11 : Int32) (k_x : ClassId) (x0 : Int32) (x1 : Int32) (x2 : Int32) (h0 : Heap) (n0 : Nat) (Z0 : n0 ≤ h0.size) (E_a1 : Exa Z h0 a1 "com/example/bitlattice/bitlattice/eval/Relation") (V_NI : Arv Z h0 w_NI k_NI (.object "com/example/bitlattice/bitlattice/eval/Relation$Index") (0 : Int32) [] .null) (F_a1_arity : Fld Z h0 a1 "com/example/bitlattice/bitlattice/eval/Relation" "arity" "I" (.int (3 : Int32))) (F_a1_values : Fld Z h0 a1 "com/example/bitlattice/bitlattice/eval/Relation" "values" "[I" (.ref vals)) (F_a1_size : Fld Z h0 a1 "com/example/bitlattice/bitlattice/eval/Relation" "size" "I" (.int (1 : Int32))) (F_a1_members : Fld Z h0 a1 "com/example/bitlattice/bitlattice/eval/Relation" "members" "Lcom/example/bitlattice/bitlattice/eval/Relation$Index;" .null) (F_a1_indexes : Fld Z h0 a1 "com/example/bitlattice/bitlattice/eval/Relation" "indexes" "[Lcom/example/bitlattice/bitlattice/eval/Relation$Index;" (.ref w_NI)) (F_a1_holdingAny : Fld Z h0 a1 "com/example/bitlattice/bitlattice/eval/Relation" "holdingAny" "I" (.int hAny)) (V_vals : Arv Z h0 vals k_v .int (12 : Int32) [(.int v0), (.int v1), (.int v2), (.int v3), (.int v4), (.int v5), (.int v6), (.int v7), (.int v8), (.int v9), (.int v10), (.int v11)] (.int (0 : Int32))) (V_row : Arv Z h0 a2 k_x .int (3 : Int32) [(.int x0), (.int x1), (.int x2)] (.int (0 : Int32))) (ne_vals_a1 : vals ≠ a1) (ne_a2_a1 : a2 ≠ a1) (ne_vals_a2 : vals ≠ a2) (ne_w_NI_a1 : w_NI ≠ a1) (ne_w_NI_vals : w_NI ≠ vals) (ne_w_NI_a2 : w_NI ≠ a2) (g_vals : n0 ≤ vals) (g_a1 : n0 ≤ a1) :
    MetFree l (⟨"com/example/bitlattice/bitlattice/eval/Relation", "add", "([I)Z"⟩ : MethodName) (head1 (Jvm.Cond.code (⟨"com/example/bitlattice/bitlattice/eval/Relation", "add", "([I)Z"⟩ : MethodName) prog_33_method_14_code 7 (some .boolean) :: ws) ({ frames := 2, cells := 0, slots := 0, locals := 29 } : Room)) (fun a U => a = #[(.ref a1), (.ref a2)] ∧ Z.Warmed39 U.vm ∧ U.heap = h0) (fun _ _ _ _ _ => True) (fun _ U o U' => ∃ v L, o = .returned v ∧ Q4_3_1 Z a1 a2 vals w_NI k_NI hAny k_v v0 v1 v2 v3 v4 v5 v6 v7 v8 v9 v10 v11 k_x x0 x1 x2 h0 n0 v U'.heap L ∧ FrameEnd U o U' L ({ frames := 2, cells := 0, slots := 0, locals := 29 } : Room).cells ({ frames := 2, cells := 0, slots := 0, locals := 29 } : Room).slots) := by
  refine MetFree.of_bodySF (plainFor_of_name pn1) hisR ?_
  intro p e s m args below meth c s₁ Bd hml0 hP hK
  obtain ⟨rfl, hZ, hh⟩ := hP
  have hx := Bd.exec
  have hby := Bd.bytes
  have hml : c.maxLocals = 7 := hml0
  have hown : s.vm.findClass "com/example/bitlattice/bitlattice/eval/Relation" = some m.cls := findClass_of_methodNamed Bd.named
  have hnm := (name_of_methodNamed Bd.named Bd.method).1
  have X0 : Stand p l e ({ frames := 2, cells := 0, slots := 0, locals := 29 } : Room) s m #[(.ref a1), (.ref a2)] below meth c s₁ [] 0 0 := Stand.of_body Bd
  have e0 : s₁.heap = h0 := by rw [← hh, Bd.state]; rfl
  have N0 := Fr.nil n0
  have K0 : Keep h0 h0 [vals, a1] := Keep.refl h0 _
  refine Go.st (P := fun o U' => ∃ v L, o = .returned v ∧ Q4_3_1 Z a1 a2 vals w_NI k_NI hAny k_v v0 v1 v2 v3 v4 v5 v6 v7 v8 v9 v10 v11 k_x x0 x1 x2 h0 n0 v U'.heap L ∧ FrameEnd s o U' L ({ frames := 2, cells := 0, slots := 0, locals := 29 } : Room).cells ({ frames := 2, cells := 0, slots := 0, locals := 29 } : Room).slots) (fun t k => castTop (ef4_3_1 m a1 a2) k) ?_
  show Go _ _ _ (s₁.setTop (mkF m 0 #[.val (.ref a1), .val (.ref a2), .unset, .unset, .unset, .unset, .unset] [])) _
  refine Go.st (fun t k => XS.aloadN X0.here hx rfl (hb hby d4_0) rfl rfl k) ?_
  obtain ⟨T1, X1, e1, st1⟩ := getF X0 hx hZ hown (host := "") (Or.inl (wd28 hw)) Via.refl e0 F_a1_members (g := (mkF m 1 #[.val (.ref a1), .val (.ref a2), .unset, .unset, .unset, .unset, .unset] [(.ref a1)])) rfl rfl (hb hby d4_1)
  refine Go.st st1 ?_
  show Go _ _ _ (T1.setTop (mkF m 4 #[.val (.ref a1), .val (.ref a2), .unset, .unset, .unset, .unset, .unset] [.null])) _
  refine Go.st (fun t k => XS.ifnonnullNo X1.here hx rfl (hb hby d4_4) rfl k) ?_
  show Go _ _ _ (T1.setTop (mkF m 7 #[.val (.ref a1), .val (.ref a2), .unset, .unset, .unset, .unset, .unset] [])) _
  refine Go.st (fun t k => XS.aloadN X1.here hx rfl (hb hby d4_7) rfl rfl k) ?_
  refine Go.st (fun t k => XS.aloadN X1.here hx rfl (hb hby d4_8) rfl rfl k) ?_
  obtain ⟨cq2, kq2, q2a, q2b, q2c⟩ := isOf hZ e1 E_a1
  obtain ⟨_, _, ⟨T2, L2, k2, n2⟩, -, X2, ⟨Lc2, hQ2, l2, y2, z2⟩, st2⟩ := X1.virtualBack hx (y := (⟨"com/example/bitlattice/bitlattice/eval/Relation", "contains", "([I)Z"⟩ : MethodName)) (z := (⟨"com/example/bitlattice/bitlattice/eval/Relation", "contains", "([I)Z"⟩ : MethodName)) hown (mvT hZ (wd30 hw)) (mvT hZ (wd31 hw)) (notFace_of_selects (args := #[]) (mvT hZ (wd33 hw))) (mvT hZ (wd33 hw)) (mvT hZ (wd32 hw)) (by decide) (backOf (W := 0) (rm5_3_1 l Z a0 hw [] a1 a2 vals w_NI k_NI hAny k_v v0 v1 v2 v3 v4 v5 v6 v7 v8 v9 v10 v11 k_x x0 x1 x2 h0 n0 Z0 E_a1 V_NI F_a1_arity F_a1_values F_a1_size F_a1_members F_a1_indexes F_a1_holdingAny V_vals V_row ne_vals_a1 ne_a2_a1 ne_vals_a2 ne_w_NI_a1 ne_w_NI_vals ne_w_NI_a2) hZ (wd34 hw) (wd8 hw) (by decide) (by decide)) q2a q2c (g := (mkF m 9 #[.val (.ref a1), .val (.ref a2), .unset, .unset, .unset, .unset, .unset] [(.ref a2), (.ref a1)])) rfl (by rw [hml]; rfl) (Steps.refl _) (argsL := [(.ref a2)]) (rest := []) (lenOf pd0 rfl) rfl (by show 2 * 0 + _ ≤ _; exact Nat.le_of_eq rfl) (hb hby d4_9) (fun _ _ => ⟨rfl, e1, (by decide : 0 + 0 ≤ _), (by decide : 0 + 0 ≤ _)⟩)
  dsimp only [Pt.U, Pt.locs, Pt.cells, Pt.slots] at X2 l2 y2 z2 st2 hQ2
  subst l2 y2 z2
  refine Go.tr st2 ?_
  obtain ⟨rfl, N2q, e2⟩ := hQ2
  have N2 := Fr.app N0 N2q
  show Go _ _ _ (T2.setTop (mkF m 12 #[.val (.ref a1), .val (.ref a2), .unset, .unset, .unset, .unset, .unset] [(.int (f5_3_1 v0 v1 v2 x0 x1 x2))])) _
  by_cases hc3 : (f5_3_1 v0 v1 v2 x0 x1 x2) = (0 : Int32)
  · refine Go.st (fun t k => XS.ifYes X2.here hx rfl (pc0 := 12) (pc' := 17) rfl (hb hby d4_12) rfl ((if0 _ _).trans (teq hc3).1) (by decide) (by decide) k) ?_
    show Go _ _ _ (T2.setTop (mkF m 17 #[.val (.ref a1), .val (.ref a2), .unset, .unset, .unset, .unset, .unset] [])) _
    refine Go.st (fun t k => XS.aloadN X2.here hx rfl (hb hby d4_17) rfl rfl k) ?_
    obtain ⟨T4, X4, e4, st4⟩ := getF X2 hx hZ hown (host := "") (Or.inl (wd35 hw)) Via.refl e2 F_a1_size (g := (mkF m 18 #[.val (.ref a1), .val (.ref a2), .unset, .unset, .unset, .unset, .unset] [(.ref a1)])) rfl rfl (hb hby d4_18)
    refine Go.st st4 ?_
    show Go _ _ _ (T4.setTop (mkF m 21 #[.val (.ref a1), .val (.ref a2), .unset, .unset, .unset, .unset, .unset] [(.int 1)])) _
    refine Go.st (fun t k => XS.iconst X4.here hx rfl (hb hby d4_21) k) ?_
    refine Go.st (fun t k => XS.iadd X4.here hx rfl (hb hby d4_22) rfl k) ?_
    show Go _ _ _ (T4.setTop (mkF m 23 #[.val (.ref a1), .val (.ref a2), .unset, .unset, .unset, .unset, .unset] [(.int 2)])) _
    refine Go.st (fun t k => XS.aloadN X4.here hx rfl (hb hby d4_23) rfl rfl k) ?_
    obtain ⟨T5, X5, e5, st5⟩ := getF X4 hx hZ hown (host := "") (Or.inl (wd19 hw)) Via.refl e4 F_a1_arity (g := (mkF m 24 #[.val (.ref a1), .val (.ref a2), .unset, .unset, .unset, .unset, .unset] [(.ref a1), (.int 2)])) rfl rfl (hb hby d4_24)
    refine Go.st st5 ?_
    show Go _ _ _ (T5.setTop (mkF m 27 #[.val (.ref a1), .val (.ref a2), .unset, .unset, .unset, .unset, .unset] [(.int 3), (.int 2)])) _
    refine Go.st (fun t k => XS.imul X5.here hx rfl (hb hby d4_27) rfl k) ?_
    show Go _ _ _ (T5.setTop (mkF m 28 #[.val (.ref a1), .val (.ref a2), .unset, .unset, .unset, .unset, .unset] [(.int 6)])) _
    refine Go.st (fun t k => XS.aloadN X5.here hx rfl (hb hby d4_28) rfl rfl k) ?_
    obtain ⟨T6, X6, e6, st6⟩ := getF X5 hx hZ hown (host := "") (Or.inl (wd21 hw)) Via.refl e5 F_a1_values (g := (mkF m 29 #[.val (.ref a1), .val (.ref a2), .unset, .unset, .unset, .unset, .unset] [(.ref a1), (.int 6)])) rfl rfl (hb hby d4_29)
    refine Go.st st6 ?_
    show Go _ _ _ (T6.setTop (mkF m 32 #[.val (.ref a1), .val (.ref a2), .unset, .unset, .unset, .unset, .unset] [(.ref vals), (.int 6)])) _
    obtain ⟨cl7, Ar7, -, Sz7, Ng7, -, -⟩ := id V_vals
    refine Go.st (fun t k => X6.arraylength hx (by rw [e6]; exact Ar7.1) (State.isArrayOf_alike hZ.alike Ar7.2.1) (g := (mkF m 32 #[.val (.ref a1), .val (.ref a2), .unset, .unset, .unset, .unset, .unset] [(.ref vals), (.int 6)])) rfl rfl (hb hby d4_32) _ k) ?_
    rw [len_of Sz7 Ng7]
    show Go _ _ _ (T6.setTop (mkF m 33 #[.val (.ref a1), .val (.ref a2), .unset, .unset, .unset, .unset, .unset] [(.int 12), (.int 6)])) _
    refine Go.st (fun t k => XS.icmpYes X6.here hx rfl (pc0 := 33) (pc' := 63) rfl (hb hby d4_33) rfl (flt (by decide : ¬ ((12 : Int32) < (6 : Int32)))).2.2.2 (by decide) (by decide) k) ?_
    show Go _ _ _ (T6.setTop (mkF m 63 #[.val (.ref a1), .val (.ref a2), .unset, .unset, .unset, .unset, .unset] [])) _
    refine Go.st (fun t k => XS.aloadN X6.here hx rfl (hb hby d4_63) rfl rfl k) ?_
    refine Go.st (fun t k => XS.iconst X6.here hx rfl (hb hby d4_64) k) ?_
    refine Go.st (fun t k => XS.aloadN X6.here hx rfl (hb hby d4_65) rfl rfl k) ?_
    obtain ⟨T8, X8, e8, st8⟩ := getF X6 hx hZ hown (host := "") (Or.inl (wd21 hw)) Via.refl e6 F_a1_values (g := (mkF m 66 #[.val (.ref a1), .val (.ref a2), .unset, .unset, .unset, .unset, .unset] [(.ref a1), (.int 0), (.ref a2)])) rfl rfl (hb hby d4_66)
    refine Go.st st8 ?_
    show Go _ _ _ (T8.setTop (mkF m 69 #[.val (.ref a1), .val (.ref a2), .unset, .unset, .unset, .unset, .unset] [(.ref vals), (.int 0), (.ref a2)])) _
    refine Go.st (fun t k => XS.aloadN X8.here hx rfl (hb hby d4_69) rfl rfl k) ?_
    obtain ⟨T9, X9, e9, st9⟩ := getF X8 hx hZ hown (host := "") (Or.inl (wd35 hw)) Via.refl e8 F_a1_size (g := (mkF m 70 #[.val (.ref a1), .val (.ref a2), .unset, .unset, .unset, .unset, .unset] [(.ref a1), (.ref vals), (.int 0), (.ref a2)])) rfl rfl (hb hby d4_70)
    refine Go.st st9 ?_
    show Go _ _ _ (T9.setTop (mkF m 73 #[.val (.ref a1), .val (.ref a2), .unset, .unset, .unset, .unset, .unset] [(.int 1), (.ref vals), (.int 0), (.ref a2)])) _
    refine Go.st (fun t k => XS.aloadN X9.here hx rfl (hb hby d4_73) rfl rfl k) ?_
    obtain ⟨T10, X10, e10, st10⟩ := getF X9 hx hZ hown (host := "") (Or.inl (wd19 hw)) Via.refl e9 F_a1_arity (g := (mkF m 74 #[.val (.ref a1), .val (.ref a2), .unset, .unset, .unset, .unset, .unset] [(.ref a1), (.int 1), (.ref vals), (.int 0), (.ref a2)])) rfl rfl (hb hby d4_74)
    refine Go.st st10 ?_
    show Go _ _ _ (T10.setTop (mkF m 77 #[.val (.ref a1), .val (.ref a2), .unset, .unset, .unset, .unset, .unset] [(.int 3), (.int 1), (.ref vals), (.int 0), (.ref a2)])) _
    refine Go.st (fun t k => XS.imul X10.here hx rfl (hb hby d4_77) rfl k) ?_
    show Go _ _ _ (T10.setTop (mkF m 78 #[.val (.ref a1), .val (.ref a2), .unset, .unset, .unset, .unset, .unset] [(.int 3), (.ref vals), (.int 0), (.ref a2)])) _
    refine Go.st (fun t k => XS.aloadN X10.here hx rfl (hb hby d4_78) rfl rfl k) ?_
    obtain ⟨T11, X11, e11, st11⟩ := getF X10 hx hZ hown (host := "") (Or.inl (wd19 hw)) Via.refl e10 F_a1_arity (g := (mkF m 79 #[.val (.ref a1), .val (.ref a2), .unset, .unset, .unset, .unset, .unset] [(.ref a1), (.int 3), (.ref vals), (.int 0), (.ref a2)])) rfl rfl (hb hby d4_79)
    refine Go.st st11 ?_
    show Go _ _ _ (T11.setTop (mkF m 82 #[.val (.ref a1), .val (.ref a2), .unset, .unset, .unset, .unset, .unset] [(.int 3), (.int 3), (.ref vals), (.int 0), (.ref a2)])) _
    have V_vals_pre := V_vals
    obtain ⟨T12, h12, L12, X12, e12, N12, K12, B12, st12⟩ := cpA X11 hx hZ hown (wd37 hw) (wd40 hw) (wd38 hw) (wd39 hw) e11 V_row V_vals (us := [(.int x0), (.int x1), (.int x2)]) (Or.inl ⟨rfl, rfl⟩) (sp := (0 : Int32)) (dp := (3 : Int32)) (nn := (3 : Int32)) (by decide) (by decide) (by decide) (by decide) (by decide) rfl (Nat.le_of_ble_eq_true rfl) N2 g_vals (g := (mkF m 82 #[.val (.ref a1), .val (.ref a2), .unset, .unset, .unset, .unset, .unset] [(.int 3), (.int 3), (.ref vals), (.int 0), (.ref a2)])) rfl (by rw [hml]; rfl) rfl (hb hby d4_82) (by decide) (W := 0) (by show 2 * 0 + _ ≤ _; exact Nat.le_of_eq rfl) (by decide)
    refine Go.st st12 ?_
    replace E_a1 := E_a1.keep K12
    replace V_NI := V_NI.keep K12 (ninS ne_w_NI_vals nin0)
    replace F_a1_arity := F_a1_arity.keep K12 (ninS (Ne.symm ne_vals_a1) nin0)
    replace F_a1_values := F_a1_values.keep K12 (ninS (Ne.symm ne_vals_a1) nin0)
    replace F_a1_size := F_a1_size.keep K12 (ninS (Ne.symm ne_vals_a1) nin0)
    replace F_a1_members := F_a1_members.keep K12 (ninS (Ne.symm ne_vals_a1) nin0)
    replace F_a1_indexes := F_a1_indexes.keep K12 (ninS (Ne.symm ne_vals_a1) nin0)
    replace F_a1_holdingAny := F_a1_holdingAny.keep K12 (ninS (Ne.symm ne_vals_a1) nin0)
    replace V_row := V_row.keep K12 (ninS (Ne.symm ne_vals_a2) nin0)
    replace Z0 := Nat.le_trans Z0 K12.1
    replace K0 := K0.trans K12 (allS (Or.inl (by simp)) all0)
    have V_vals : Arv Z h12 vals k_v .int (12 : Int32) [(.int v0), (.int v1), (.int v2), (.int x0), (.int x1), (.int x2), (.int v6), (.int v7), (.int v8), (.int v9), (.int v10), (.int v11)] (.int (0 : Int32)) := B12
    show Go _ _ _ (T12.setTop (mkF m 85 #[.val (.ref a1), .val (.ref a2), .unset, .unset, .unset, .unset, .unset] [])) _
    refine Go.st (fun t k => XS.aloadN X12.here hx rfl (hb hby d4_85) rfl rfl k) ?_
    obtain ⟨T13, X13, e13, st13⟩ := getF X12 hx hZ hown (host := "") (Or.inl (wd28 hw)) Via.refl e12 F_a1_members (g := (mkF m 86 #[.val (.ref a1), .val (.ref a2), .unset, .unset, .unset, .unset, .unset] [(.ref a1)])) rfl rfl (hb hby d4_86)
    refine Go.st st13 ?_
    show Go _ _ _ (T13.setTop (mkF m 89 #[.val (.ref a1), .val (.ref a2), .unset, .unset, .unset, .unset, .unset] [.null])) _
    refine Go.st (fun t k => XS.ifnullYes X13.here hx rfl (pc0 := 89) (pc' := 108) rfl (hb hby d4_89) rfl (by decide) (by decide) k) ?_
    show Go _ _ _ (T13.setTop (mkF m 108 #[.val (.ref a1), .val (.ref a2), .unset, .unset, .unset, .unset, .unset] [])) _
    refine Go.st (fun t k => XS.aloadN X13.here hx rfl (hb hby d4_108) rfl rfl k) ?_
    refine Go.st (fun t k => XS.dup X13.here hx rfl (hb hby d4_109) rfl rfl k) ?_
    obtain ⟨T14, X14, e14, st14⟩ := getF X13 hx hZ hown (host := "") (Or.inl (wd35 hw)) Via.refl e13 F_a1_size (g := (mkF m 110 #[.val (.ref a1), .val (.ref a2), .unset, .unset, .unset, .unset, .unset] [(.ref a1), (.ref a1)])) rfl rfl (hb hby d4_110)
    refine Go.st st14 ?_
    show Go _ _ _ (T14.setTop (mkF m 113 #[.val (.ref a1), .val (.ref a2), .unset, .unset, .unset, .unset, .unset] [(.int 1), (.ref a1)])) _
    refine Go.st (fun t k => XS.dupX1 X14.here hx rfl (hb hby d4_113) rfl rfl rfl k) ?_
    show Go _ _ _ (T14.setTop (mkF m 114 #[.val (.ref a1), .val (.ref a2), .unset, .unset, .unset, .unset, .unset] [(.int 1), (.ref a1), (.int 1)])) _
    refine Go.st (fun t k => XS.iconst X14.here hx rfl (hb hby d4_114) k) ?_
    refine Go.st (fun t k => XS.iadd X14.here hx rfl (hb hby d4_115) rfl k) ?_
    show Go _ _ _ (T14.setTop (mkF m 116 #[.val (.ref a1), .val (.ref a2), .unset, .unset, .unset, .unset, .unset] [(.int 2), (.ref a1), (.int 1)])) _
    obtain ⟨T15, h15, X15, e15, W15, st15⟩ := putF X14 hx hZ hown (host := "") (Or.inl (wd35 hw)) Via.refl e14 F_a1_size E_a1 (Or.inl (wd36 hw)) (wd7 hw) (ty := .int) (by decide) rfl rfl (g := (mkF m 116 #[.val (.ref a1), .val (.ref a2), .unset, .unset, .unset, .unset, .unset] [(.int 2), (.ref a1), (.int 1)])) rfl rfl (hb hby d4_116)
    refine Go.st st15 ?_
    have N15 := Fr.snoc X15 N12 g_a1
    replace E_a1 := E_a1.wr W15
    replace V_NI := V_NI.other W15 ne_w_NI_a1
    replace F_a1_arity := F_a1_arity.other W15 (Or.inr (slot_ne (Or.inr (wd20 hw)) (Or.inl (wd36 hw)) (by decide) (t := .int) (t' := .int) (by decide) (by decide)))
    replace F_a1_values := F_a1_values.other W15 (Or.inr (slot_ne (Or.inl (wd22 hw)) (Or.inl (wd36 hw)) (by decide) (t := (.array .int)) (t' := .int) (by decide) (by decide)))
    replace F_a1_size := F_a1_size.same W15
    replace F_a1_members := F_a1_members.other W15 (Or.inr (slot_ne (Or.inl (wd29 hw)) (Or.inl (wd36 hw)) (by decide) (t := (.object "com/example/bitlattice/bitlattice/eval/Relation$Index")) (t' := .int) (by decide) (by decide)))
    replace F_a1_indexes := F_a1_indexes.other W15 (Or.inr (slot_ne (Or.inl (wd18 hw)) (Or.inl (wd36 hw)) (by decide) (t := (.array (.object "com/example/bitlattice/bitlattice/eval/Relation$Index"))) (t' := .int) (by decide) (by decide)))
    replace F_a1_holdingAny := F_a1_holdingAny.other W15 (Or.inr (slot_ne (Or.inl (wd55 hw)) (Or.inl (wd36 hw)) (by decide) (t := .int) (t' := .int) (by decide) (by decide)))
    replace V_row := V_row.other W15 ne_a2_a1
    replace V_vals := V_vals.other W15 ne_vals_a1
    replace Z0 := Nat.le_trans Z0 (Nat.le_of_eq W15.size.symm)
    replace K0 := K0.wr W15 (Or.inl (by simp))
    show Go _ _ _ (T15.setTop (mkF m 119 #[.val (.ref a1), .val (.ref a2), .unset, .unset, .unset, .unset, .unset] [(.int 1)])) _
    refine Go.st (fun t k => XS.istoreN X15.here hx rfl (hb hby d4_119) rfl (l' := #[.val (.ref a1), .val (.ref a2), .val (.int 1), .unset, .unset, .unset, .unset]) rfl k) ?_
    refine Go.st (fun t k => XS.aloadN X15.here hx rfl (hb hby d4_120) rfl rfl k) ?_
    refine Go.st (fun t k => XS.astoreN X15.here hx rfl (hb hby d4_121) rfl rfl (l' := #[.val (.ref a1), .val (.ref a2), .val (.int 1), .val (.ref a2), .unset, .unset, .unset]) rfl k) ?_
    refine Go.st (fun t k => XS.aloadN X15.here hx rfl (hb hby d4_122) rfl rfl k) ?_
    obtain ⟨cl16, Ar16, -, Sz16, Ng16, -, -⟩ := id V_row
    refine Go.st (fun t k => X15.arraylength hx (by rw [e15]; exact Ar16.1) (State.isArrayOf_alike hZ.alike Ar16.2.1) (g := (mkF m 123 #[.val (.ref a1), .val (.ref a2), .val (.int 1), .val (.ref a2), .unset, .unset, .unset] [(.ref a2)])) rfl rfl (hb hby d4_123) _ k) ?_
    rw [len_of Sz16 Ng16]
    show Go _ _ _ (T15.setTop (mkF m 124 #[.val (.ref a1), .val (.ref a2), .val (.int 1), .val (.ref a2), .unset, .unset, .unset] [(.int 3)])) _
    refine Go.st (fun t k => XS.istore X15.here hx rfl (hb hby d4_124) rfl (l' := #[.val (.ref a1), .val (.ref a2), .val (.int 1), .val (.ref a2), .val (.int 3), .unset, .unset]) rfl k) ?_
    refine Go.st (fun t k => XS.iconst X15.here hx rfl (hb hby d4_126) k) ?_
    refine Go.st (fun t k => XS.istore X15.here hx rfl (hb hby d4_127) rfl (l' := #[.val (.ref a1), .val (.ref a2), .val (.int 1), .val (.ref a2), .val (.int 3), .val (.int 0), .unset]) rfl k) ?_
    refine Go.st (fun t k => XS.iload X15.here hx rfl (hb hby d4_129) rfl k) ?_
    refine Go.st (fun t k => XS.iload X15.here hx rfl (hb hby d4_131) rfl k) ?_
    refine Go.st (fun t k => XS.icmpNo X15.here hx rfl (hb hby d4_133) rfl (tlt (by decide : (0 : Int32) < (3 : Int32))).2.1 k) ?_
    show Go _ _ _ (T15.setTop (mkF m 136 #[.val (.ref a1), .val (.ref a2), .val (.int 1), .val (.ref a2), .val (.int 3), .val (.int 0), .unset] [])) _
    refine Go.st (fun t k => XS.aloadN X15.here hx rfl (hb hby d4_136) rfl rfl k) ?_
    refine Go.st (fun t k => XS.iload X15.here hx rfl (hb hby d4_137) rfl k) ?_
    obtain ⟨cl17, Ar17, -, Sz17, Ng17, Hs17, -⟩ := id V_row
    have hin17 : ¬ ((0 : Int32) < 0 ∨ cl17.slots.size ≤ ((0 : Int32)).toNatClampNeg) := inb_of Sz17 ⟨by decide, by decide⟩
    refine Go.st (fun t k => X15.iaload hx (j := (0 : Int32)) (v := (.int x0)) (by rw [e15]; exact Ar17.1) (State.isArrayOf_alike hZ.alike Ar17.2.1) Ar17.2.2 hin17 (Has.at Hs17 hin17 rfl) (g := (mkF m 139 #[.val (.ref a1), .val (.ref a2), .val (.int 1), .val (.ref a2), .val (.int 3), .val (.int 0), .unset] [(.int 0), (.ref a2)])) rfl rfl (hb hby d4_139) _ k) ?_
    show Go _ _ _ (T15.setTop (mkF m 140 #[.val (.ref a1), .val (.ref a2), .val (.int 1), .val (.ref a2), .val (.int 3), .val (.int 0), .unset] [(.int x0)])) _
    refine Go.st (fun t k => XS.istore X15.here hx rfl (hb hby d4_140) rfl (l' := #[.val (.ref a1), .val (.ref a2), .val (.int 1), .val (.ref a2), .val (.int 3), .val (.int 0), .val (.int x0)]) rfl k) ?_
    refine Go.st (fun t k => XS.iload X15.here hx rfl (hb hby d4_142) rfl k) ?_
    refine Go.st (fun t k => X15.ldcInt hx hown (mvT hZ (wd41 hw)) (g := (mkF m 144 #[.val (.ref a1), .val (.ref a2), .val (.int 1), .val (.ref a2), .val (.int 3), .val (.int 0), .val (.int x0)] [(.int x0)])) rfl (hb hby d4_144) _ k) ?_
    show Go _ _ _ (T15.setTop (mkF m 146 #[.val (.ref a1), .val (.ref a2), .val (.int 1), .val (.ref a2), .val (.int 3), .val (.int 0), .val (.int x0)] [(.int 2147483647), (.int x0)])) _
    by_cases hc18 : x0 = (2147483647 : Int32)
    · refine Go.st (fun t k => XS.icmpNo X15.here hx rfl (hb hby d4_146) rfl (teq hc18).2 k) ?_
      show Go _ _ _ (T15.setTop (mkF m 149 #[.val (.ref a1), .val (.ref a2), .val (.int 1), .val (.ref a2), .val (.int 3), .val (.int 0), .val (.int x0)] [])) _
      refine Go.st (fun t k => XS.aloadN X15.here hx rfl (hb hby d4_149) rfl rfl k) ?_
      refine Go.st (fun t k => XS.dup X15.here hx rfl (hb hby d4_150) rfl rfl k) ?_
      obtain ⟨T19, X19, e19, st19⟩ := getF X15 hx hZ hown (host := "") (Or.inl (wd54 hw)) Via.refl e15 F_a1_holdingAny (g := (mkF m 151 #[.val (.ref a1), .val (.ref a2), .val (.int 1), .val (.ref a2), .val (.int 3), .val (.int 0), .val (.int x0)] [(.ref a1), (.ref a1)])) rfl rfl (hb hby d4_151)
      refine Go.st st19 ?_
      show Go _ _ _ (T19.setTop (mkF m 154 #[.val (.ref a1), .val (.ref a2), .val (.int 1), .val (.ref a2), .val (.int 3), .val (.int 0), .val (.int x0)] [(.int hAny), (.ref a1)])) _
      refine Go.st (fun t k => XS.iconst X19.here hx rfl (hb hby d4_154) k) ?_
      refine Go.st (fun t k => XS.iadd X19.here hx rfl (hb hby d4_155) rfl k) ?_
      show Go _ _ _ (T19.setTop (mkF m 156 #[.val (.ref a1), .val (.ref a2), .val (.int 1), .val (.ref a2), .val (.int 3), .val (.int 0), .val (.int x0)] [(.int (hAny + (1 : Int32))), (.ref a1)])) _
      obtain ⟨T20, h20, X20, e20, W20, st20⟩ := putF X19 hx hZ hown (host := "") (Or.inl (wd54 hw)) Via.refl e19 F_a1_holdingAny E_a1 (Or.inl (wd55 hw)) (wd7 hw) (ty := .int) (by decide) rfl rfl (g := (mkF m 156 #[.val (.ref a1), .val (.ref a2), .val (.int 1), .val (.ref a2), .val (.int 3), .val (.int 0), .val (.int x0)] [(.int (hAny + (1 : Int32))), (.ref a1)])) rfl rfl (hb hby d4_156)
      refine Go.st st20 ?_
      have N20 := Fr.snoc X20 N15 g_a1
      replace E_a1 := E_a1.wr W20
      replace V_NI := V_NI.other W20 ne_w_NI_a1
      replace F_a1_arity := F_a1_arity.other W20 (Or.inr (slot_ne (Or.inr (wd20 hw)) (Or.inl (wd55 hw)) (by decide) (t := .int) (t' := .int) (by decide) (by decide)))
      replace F_a1_values := F_a1_values.other W20 (Or.inr (slot_ne (Or.inl (wd22 hw)) (Or.inl (wd55 hw)) (by decide) (t := (.array .int)) (t' := .int) (by decide) (by decide)))
      replace F_a1_size := F_a1_size.other W20 (Or.inr (slot_ne (Or.inl (wd36 hw)) (Or.inl (wd55 hw)) (by decide) (t := .int) (t' := .int) (by decide) (by decide)))
      replace F_a1_members := F_a1_members.other W20 (Or.inr (slot_ne (Or.inl (wd29 hw)) (Or.inl (wd55 hw)) (by decide) (t := (.object "com/example/bitlattice/bitlattice/eval/Relation$Index")) (t' := .int) (by decide) (by decide)))
      replace F_a1_indexes := F_a1_indexes.other W20 (Or.inr (slot_ne (Or.inl (wd18 hw)) (Or.inl (wd55 hw)) (by decide) (t := (.array (.object "com/example/bitlattice/bitlattice/eval/Relation$Index"))) (t' := .int) (by decide) (by decide)))
      replace F_a1_holdingAny := F_a1_holdingAny.same W20
      replace V_row := V_row.other W20 ne_a2_a1
      replace V_vals := V_vals.other W20 ne_vals_a1
      replace Z0 := Nat.le_trans Z0 (Nat.le_of_eq W20.size.symm)
      replace K0 := K0.wr W20 (Or.inl (by simp))
      show Go _ _ _ (T20.setTop (mkF m 159 #[.val (.ref a1), .val (.ref a2), .val (.int 1), .val (.ref a2), .val (.int 3), .val (.int 0), .val (.int x0)] [])) _
      refine Go.st (fun t k => XS.goto X20.here hx rfl (pc0 := 159) (pc' := 168) rfl (hb hby d4_159) (by decide) (by decide) k) ?_
      refine Go.st (fun t k => XS.aloadN X20.here hx rfl (hb hby d4_168) rfl rfl k) ?_
      obtain ⟨T21, X21, e21, st21⟩ := getF X20 hx hZ hown (host := "") (Or.inl (wd28 hw)) Via.refl e20 F_a1_members (g := (mkF m 169 #[.val (.ref a1), .val (.ref a2), .val (.int 1), .val (.ref a2), .val (.int 3), .val (.int 0), .val (.int x0)] [(.ref a1)])) rfl rfl (hb hby d4_169)
      refine Go.st st21 ?_
      show Go _ _ _ (T21.setTop (mkF m 172 #[.val (.ref a1), .val (.ref a2), .val (.int 1), .val (.ref a2), .val (.int 3), .val (.int 0), .val (.int x0)] [.null])) _
      refine Go.st (fun t k => XS.ifnonnullNo X21.here hx rfl (hb hby d4_172) rfl k) ?_
      show Go _ _ _ (T21.setTop (mkF m 175 #[.val (.ref a1), .val (.ref a2), .val (.int 1), .val (.ref a2), .val (.int 3), .val (.int 0), .val (.int x0)] [])) _
      refine Go.st (fun t k => XS.aloadN X21.here hx rfl (hb hby d4_175) rfl rfl k) ?_
      obtain ⟨T22, X22, e22, st22⟩ := getF X21 hx hZ hown (host := "") (Or.inl (wd35 hw)) Via.refl e21 F_a1_size (g := (mkF m 176 #[.val (.ref a1), .val (.ref a2), .val (.int 1), .val (.ref a2), .val (.int 3), .val (.int 0), .val (.int x0)] [(.ref a1)])) rfl rfl (hb hby d4_176)
      refine Go.st st22 ?_
      show Go _ _ _ (T22.setTop (mkF m 179 #[.val (.ref a1), .val (.ref a2), .val (.int 1), .val (.ref a2), .val (.int 3), .val (.int 0), .val (.int x0)] [(.int 2)])) _
      refine Go.st (fun t k => XS.bipush X22.here hx rfl (hb hby d4_179) k) ?_
      refine Go.st (fun t k => XS.icmpYes X22.here hx rfl (pc0 := 181) (pc' := 207) rfl (hb hby d4_181) rfl (flt (by decide : ¬ ((8 : Int32) < (2 : Int32)))).2.2.2 (by decide) (by decide) k) ?_
      show Go _ _ _ (T22.setTop (mkF m 207 #[.val (.ref a1), .val (.ref a2), .val (.int 1), .val (.ref a2), .val (.int 3), .val (.int 0), .val (.int x0)] [])) _
      refine Go.st (fun t k => XS.aloadN X22.here hx rfl (hb hby d4_207) rfl rfl k) ?_
      obtain ⟨T23, X23, e23, st23⟩ := getF X22 hx hZ hown (host := "") (Or.inl (wd17 hw)) Via.refl e22 F_a1_indexes (g := (mkF m 208 #[.val (.ref a1), .val (.ref a2), .val (.int 1), .val (.ref a2), .val (.int 3), .val (.int 0), .val (.int x0)] [(.ref a1)])) rfl rfl (hb hby d4_208)
      refine Go.st st23 ?_
      show Go _ _ _ (T23.setTop (mkF m 211 #[.val (.ref a1), .val (.ref a2), .val (.int 1), .val (.ref a2), .val (.int 3), .val (.int 0), .val (.int x0)] [(.ref w_NI)])) _
      refine Go.st (fun t k => XS.astoreN X23.here hx rfl (hb hby d4_211) rfl rfl (l' := #[.val (.ref a1), .val (.ref a2), .val (.int 1), .val (.ref w_NI), .val (.int 3), .val (.int 0), .val (.int x0)]) rfl k) ?_
      refine Go.st (fun t k => XS.aloadN X23.here hx rfl (hb hby d4_212) rfl rfl k) ?_
      obtain ⟨cl24, Ar24, -, Sz24, Ng24, -, -⟩ := id V_NI
      refine Go.st (fun t k => X23.arraylength hx (by rw [e23]; exact Ar24.1) (State.isArrayOf_alike hZ.alike Ar24.2.1) (g := (mkF m 213 #[.val (.ref a1), .val (.ref a2), .val (.int 1), .val (.ref w_NI), .val (.int 3), .val (.int 0), .val (.int x0)] [(.ref w_NI)])) rfl rfl (hb hby d4_213) _ k) ?_
      rw [len_of Sz24 Ng24]
      show Go _ _ _ (T23.setTop (mkF m 214 #[.val (.ref a1), .val (.ref a2), .val (.int 1), .val (.ref w_NI), .val (.int 3), .val (.int 0), .val (.int x0)] [(.int 0)])) _
      refine Go.st (fun t k => XS.istore X23.here hx rfl (hb hby d4_214) rfl (l' := #[.val (.ref a1), .val (.ref a2), .val (.int 1), .val (.ref w_NI), .val (.int 0), .val (.int 0), .val (.int x0)]) rfl k) ?_
      refine Go.st (fun t k => XS.iconst X23.here hx rfl (hb hby d4_216) k) ?_
      refine Go.st (fun t k => XS.istore X23.here hx rfl (hb hby d4_217) rfl (l' := #[.val (.ref a1), .val (.ref a2), .val (.int 1), .val (.ref w_NI), .val (.int 0), .val (.int 0), .val (.int x0)]) rfl k) ?_
      refine Go.st (fun t k => XS.iload X23.here hx rfl (hb hby d4_219) rfl k) ?_
      refine Go.st (fun t k => XS.iload X23.here hx rfl (hb hby d4_221) rfl k) ?_
      refine Go.st (fun t k => XS.icmpYes X23.here hx rfl (pc0 := 223) (pc' := 244) rfl (hb hby d4_223) rfl (flt (by decide : ¬ ((0 : Int32) < (0 : Int32)))).2.1 (by decide) (by decide) k) ?_
      show Go _ _ _ (T23.setTop (mkF m 244 #[.val (.ref a1), .val (.ref a2), .val (.int 1), .val (.ref w_NI), .val (.int 0), .val (.int 0), .val (.int x0)] [])) _
      refine Go.st (fun t k => XS.iconst X23.here hx rfl (hb hby d4_244) k) ?_
      obtain ⟨fs, hr, hrun, hended, hW, hsame⟩ := X23.leave (v := some (.int (1 : Int32))) (fun h => by rw [Bd.returns] at h; cases h)
      refine Go.fin (retN X23 hx (t := .boolean) Bd.returns (by simp) (hb hby d4_245) hr) hrun hended ⟨_, _, rfl, ?_, ⟨_, rfl⟩, hW, hsame.mono (by decide) (by decide)⟩
      show Q4_3_1 Z a1 a2 vals w_NI k_NI hAny k_v v0 v1 v2 v3 v4 v5 v6 v7 v8 v9 v10 v11 k_x x0 x1 x2 h0 n0 _ T23.heap _
      rw [e23]
      exact ⟨(hAny + (1 : Int32)), (by unfold f4_3_1; simp only [if_pos hc3, if_pos hc18]), N20, K0, E_a1, F_a1_arity, F_a1_values, (by unfold f4_3_1_a1_size; simp only [if_pos hc3, if_pos hc18]; exact F_a1_size), F_a1_members, F_a1_indexes, F_a1_holdingAny, (by unfold f4_3_1_vals_3 f4_3_1_vals_4 f4_3_1_vals_5; simp only [if_pos hc3, if_pos hc18]; exact V_vals)⟩
    · refine Go.st (fun t k => XS.icmpYes X15.here hx rfl (pc0 := 146) (pc' := 162) rfl (hb hby d4_146) rfl (feq hc18).2 (by decide) (by decide) k) ?_
      show Go _ _ _ (T15.setTop (mkF m 162 #[.val (.ref a1), .val (.ref a2), .val (.int 1), .val (.ref a2), .val (.int 3), .val (.int 0), .val (.int x0)] [])) _
      refine Go.st (fun t k => XS.iinc X15.here hx rfl (hb hby d4_162) rfl (l' := #[.val (.ref a1), .val (.ref a2), .val (.int (1 : Int32)), .val (.ref a2), .val (.int (3 : Int32)), .val (.int ((0 : Int32) + (1 : Int32))), .val (.int x0)]) rfl k) ?_
      show Go _ _ _ (T15.setTop (mkF m 165 #[.val (.ref a1), .val (.ref a2), .val (.int 1), .val (.ref a2), .val (.int 3), .val (.int 1), .val (.int x0)] [])) _
      refine Go.st (fun t k => XS.goto X15.here hx rfl (pc0 := 165) (pc' := 129) rfl (hb hby d4_165) (by decide) (by decide) k) ?_
      refine Go.st (fun t k => XS.iload X15.here hx rfl (hb hby d4_129) rfl k) ?_
      refine Go.st (fun t k => XS.iload X15.here hx rfl (hb hby d4_131) rfl k) ?_
      refine Go.st (fun t k => XS.icmpNo X15.here hx rfl (hb hby d4_133) rfl (tlt (by decide : (1 : Int32) < (3 : Int32))).2.1 k) ?_
      show Go _ _ _ (T15.setTop (mkF m 136 #[.val (.ref a1), .val (.ref a2), .val (.int 1), .val (.ref a2), .val (.int 3), .val (.int 1), .val (.int x0)] [])) _
      refine Go.st (fun t k => XS.aloadN X15.here hx rfl (hb hby d4_136) rfl rfl k) ?_
      refine Go.st (fun t k => XS.iload X15.here hx rfl (hb hby d4_137) rfl k) ?_
      obtain ⟨cl25, Ar25, -, Sz25, Ng25, Hs25, -⟩ := id V_row
      have hin25 : ¬ ((1 : Int32) < 0 ∨ cl25.slots.size ≤ ((1 : Int32)).toNatClampNeg) := inb_of Sz25 ⟨by decide, by decide⟩
      refine Go.st (fun t k => X15.iaload hx (j := (1 : Int32)) (v := (.int x1)) (by rw [e15]; exact Ar25.1) (State.isArrayOf_alike hZ.alike Ar25.2.1) Ar25.2.2 hin25 (Has.at Hs25 hin25 rfl) (g := (mkF m 139 #[.val (.ref a1), .val (.ref a2), .val (.int 1), .val (.ref a2), .val (.int 3), .val (.int 1), .val (.int x0)] [(.int 1), (.ref a2)])) rfl rfl (hb hby d4_139) _ k) ?_
      show Go _ _ _ (T15.setTop (mkF m 140 #[.val (.ref a1), .val (.ref a2), .val (.int 1), .val (.ref a2), .val (.int 3), .val (.int 1), .val (.int x0)] [(.int x1)])) _
      refine Go.st (fun t k => XS.istore X15.here hx rfl (hb hby d4_140) rfl (l' := #[.val (.ref a1), .val (.ref a2), .val (.int 1), .val (.ref a2), .val (.int 3), .val (.int 1), .val (.int x1)]) rfl k) ?_
      refine Go.st (fun t k => XS.iload X15.here hx rfl (hb hby d4_142) rfl k) ?_
      refine Go.st (fun t k => X15.ldcInt hx hown (mvT hZ (wd41 hw)) (g := (mkF m 144 #[.val (.ref a1), .val (.ref a2), .val (.int 1), .val (.ref a2), .val (.int 3), .val (.int 1), .val (.int x1)] [(.int x1)])) rfl (hb hby d4_144) _ k) ?_
      show Go _ _ _ (T15.setTop (mkF m 146 #[.val (.ref a1), .val (.ref a2), .val (.int 1), .val (.ref a2), .val (.int 3), .val (.int 1), .val (.int x1)] [(.int 2147483647), (.int x1)])) _
      by_cases hc26 : x1 = (2147483647 : Int32)
      · refine Go.st (fun t k => XS.icmpNo X15.here hx rfl (hb hby d4_146) rfl (teq hc26).2 k) ?_
        show Go _ _ _ (T15.setTop (mkF m 149 #[.val (.ref a1), .val (.ref a2), .val (.int 1), .val (.ref a2), .val (.int 3), .val (.int 1), .val (.int x1)] [])) _
        refine Go.st (fun t k => XS.aloadN X15.here hx rfl (hb hby d4_149) rfl rfl k) ?_
        refine Go.st (fun t k => XS.dup X15.here hx rfl (hb hby d4_150) rfl rfl k) ?_
        obtain ⟨T27, X27, e27, st27⟩ := getF X15 hx hZ hown (host := "") (Or.inl (wd54 hw)) Via.refl e15 F_a1_holdingAny (g := (mkF m 151 #[.val (.ref a1), .val (.ref a2), .val (.int 1), .val (.ref a2), .val (.int 3), .val (.int 1), .val (.int x1)] [(.ref a1), (.ref a1)])) rfl rfl (hb hby d4_151)
        refine Go.st st27 ?_
        show Go _ _ _ (T27.setTop (mkF m 154 #[.val (.ref a1), .val (.ref a2), .val (.int 1), .val (.ref a2), .val (.int 3), .val (.int 1), .val (.int x1)] [(.int hAny), (.ref a1)])) _
        refine Go.st (fun t k => XS.iconst X27.here hx rfl (hb hby d4_154) k) ?_
        refine Go.st (fun t k => XS.iadd X27.here hx rfl (hb hby d4_155) rfl k) ?_
        show Go _ _ _ (T27.setTop (mkF m 156 #[.val (.ref a1), .val (.ref a2), .val (.int 1), .val (.ref a2), .val (.int 3), .val (.int 1), .val (.int x1)] [(.int (hAny + (1 : Int32))), (.ref a1)])) _
        obtain ⟨T28, h28, X28, e28, W28, st28⟩ := putF X27 hx hZ hown (host := "") (Or.inl (wd54 hw)) Via.refl e27 F_a1_holdingAny E_a1 (Or.inl (wd55 hw)) (wd7 hw) (ty := .int) (by decide) rfl rfl (g := (mkF m 156 #[.val (.ref a1), .val (.ref a2), .val (.int 1), .val (.ref a2), .val (.int 3), .val (.int 1), .val (.int x1)] [(.int (hAny + (1 : Int32))), (.ref a1)])) rfl rfl (hb hby d4_156)
        refine Go.st st28 ?_
        have N28 := Fr.snoc X28 N15 g_a1
        replace E_a1 := E_a1.wr W28
        replace V_NI := V_NI.other W28 ne_w_NI_a1
        replace F_a1_arity := F_a1_arity.other W28 (Or.inr (slot_ne (Or.inr (wd20 hw)) (Or.inl (wd55 hw)) (by decide) (t := .int) (t' := .int) (by decide) (by decide)))
        replace F_a1_values := F_a1_values.other W28 (Or.inr (slot_ne (Or.inl (wd22 hw)) (Or.inl (wd55 hw)) (by decide) (t := (.array .int)) (t' := .int) (by decide) (by decide)))
        replace F_a1_size := F_a1_size.other W28 (Or.inr (slot_ne (Or.inl (wd36 hw)) (Or.inl (wd55 hw)) (by decide) (t := .int) (t' := .int) (by decide) (by decide)))
        replace F_a1_members := F_a1_members.other W28 (Or.inr (slot_ne (Or.inl (wd29 hw)) (Or.inl (wd55 hw)) (by decide) (t := (.object "com/example/bitlattice/bitlattice/eval/Relation$Index")) (t' := .int) (by decide) (by decide)))
        replace F_a1_indexes := F_a1_indexes.other W28 (Or.inr (slot_ne (Or.inl (wd18 hw)) (Or.inl (wd55 hw)) (by decide) (t := (.array (.object "com/example/bitlattice/bitlattice/eval/Relation$Index"))) (t' := .int) (by decide) (by decide)))
        replace F_a1_holdingAny := F_a1_holdingAny.same W28
        replace V_row := V_row.other W28 ne_a2_a1
        replace V_vals := V_vals.other W28 ne_vals_a1
        replace Z0 := Nat.le_trans Z0 (Nat.le_of_eq W28.size.symm)
        replace K0 := K0.wr W28 (Or.inl (by simp))
        show Go _ _ _ (T28.setTop (mkF m 159 #[.val (.ref a1), .val (.ref a2), .val (.int 1), .val (.ref a2), .val (.int 3), .val (.int 1), .val (.int x1)] [])) _
        refine Go.st (fun t k => XS.goto X28.here hx rfl (pc0 := 159) (pc' := 168) rfl (hb hby d4_159) (by decide) (by decide) k) ?_
        refine Go.st (fun t k => XS.aloadN X28.here hx rfl (hb hby d4_168) rfl rfl k) ?_
        obtain ⟨T29, X29, e29, st29⟩ := getF X28 hx hZ hown (host := "") (Or.inl (wd28 hw)) Via.refl e28 F_a1_members (g := (mkF m 169 #[.val (.ref a1), .val (.ref a2), .val (.int 1), .val (.ref a2), .val (.int 3), .val (.int 1), .val (.int x1)] [(.ref a1)])) rfl rfl (hb hby d4_169)
        refine Go.st st29 ?_
        show Go _ _ _ (T29.setTop (mkF m 172 #[.val (.ref a1), .val (.ref a2), .val (.int 1), .val (.ref a2), .val (.int 3), .val (.int 1), .val (.int x1)] [.null])) _
        refine Go.st (fun t k => XS.ifnonnullNo X29.here hx rfl (hb hby d4_172) rfl k) ?_
        show Go _ _ _ (T29.setTop (mkF m 175 #[.val (.ref a1), .val (.ref a2), .val (.int 1), .val (.ref a2), .val (.int 3), .val (.int 1), .val (.int x1)] [])) _
        refine Go.st (fun t k => XS.aloadN X29.here hx rfl (hb hby d4_175) rfl rfl k) ?_
        obtain ⟨T30, X30, e30, st30⟩ := getF X29 hx hZ hown (host := "") (Or.inl (wd35 hw)) Via.refl e29 F_a1_size (g := (mkF m 176 #[.val (.ref a1), .val (.ref a2), .val (.int 1), .val (.ref a2), .val (.int 3), .val (.int 1), .val (.int x1)] [(.ref a1)])) rfl rfl (hb hby d4_176)
        refine Go.st st30 ?_
        show Go _ _ _ (T30.setTop (mkF m 179 #[.val (.ref a1), .val (.ref a2), .val (.int 1), .val (.ref a2), .val (.int 3), .val (.int 1), .val (.int x1)] [(.int 2)])) _
        refine Go.st (fun t k => XS.bipush X30.here hx rfl (hb hby d4_179) k) ?_
        refine Go.st (fun t k => XS.icmpYes X30.here hx rfl (pc0 := 181) (pc' := 207) rfl (hb hby d4_181) rfl (flt (by decide : ¬ ((8 : Int32) < (2 : Int32)))).2.2.2 (by decide) (by decide) k) ?_
        show Go _ _ _ (T30.setTop (mkF m 207 #[.val (.ref a1), .val (.ref a2), .val (.int 1), .val (.ref a2), .val (.int 3), .val (.int 1), .val (.int x1)] [])) _
        refine Go.st (fun t k => XS.aloadN X30.here hx rfl (hb hby d4_207) rfl rfl k) ?_
        obtain ⟨T31, X31, e31, st31⟩ := getF X30 hx hZ hown (host := "") (Or.inl (wd17 hw)) Via.refl e30 F_a1_indexes (g := (mkF m 208 #[.val (.ref a1), .val (.ref a2), .val (.int 1), .val (.ref a2), .val (.int 3), .val (.int 1), .val (.int x1)] [(.ref a1)])) rfl rfl (hb hby d4_208)
        refine Go.st st31 ?_
        show Go _ _ _ (T31.setTop (mkF m 211 #[.val (.ref a1), .val (.ref a2), .val (.int 1), .val (.ref a2), .val (.int 3), .val (.int 1), .val (.int x1)] [(.ref w_NI)])) _
        refine Go.st (fun t k => XS.astoreN X31.here hx rfl (hb hby d4_211) rfl rfl (l' := #[.val (.ref a1), .val (.ref a2), .val (.int 1), .val (.ref w_NI), .val (.int 3), .val (.int 1), .val (.int x1)]) rfl k) ?_
        refine Go.st (fun t k => XS.aloadN X31.here hx rfl (hb hby d4_212) rfl rfl k) ?_
        obtain ⟨cl32, Ar32, -, Sz32, Ng32, -, -⟩ := id V_NI
        refine Go.st (fun t k => X31.arraylength hx (by rw [e31]; exact Ar32.1) (State.isArrayOf_alike hZ.alike Ar32.2.1) (g := (mkF m 213 #[.val (.ref a1), .val (.ref a2), .val (.int 1), .val (.ref w_NI), .val (.int 3), .val (.int 1), .val (.int x1)] [(.ref w_NI)])) rfl rfl (hb hby d4_213) _ k) ?_
        rw [len_of Sz32 Ng32]
        show Go _ _ _ (T31.setTop (mkF m 214 #[.val (.ref a1), .val (.ref a2), .val (.int 1), .val (.ref w_NI), .val (.int 3), .val (.int 1), .val (.int x1)] [(.int 0)])) _
        refine Go.st (fun t k => XS.istore X31.here hx rfl (hb hby d4_214) rfl (l' := #[.val (.ref a1), .val (.ref a2), .val (.int 1), .val (.ref w_NI), .val (.int 0), .val (.int 1), .val (.int x1)]) rfl k) ?_
        refine Go.st (fun t k => XS.iconst X31.here hx rfl (hb hby d4_216) k) ?_
        refine Go.st (fun t k => XS.istore X31.here hx rfl (hb hby d4_217) rfl (l' := #[.val (.ref a1), .val (.ref a2), .val (.int 1), .val (.ref w_NI), .val (.int 0), .val (.int 0), .val (.int x1)]) rfl k) ?_
        refine Go.st (fun t k => XS.iload X31.here hx rfl (hb hby d4_219) rfl k) ?_
        refine Go.st (fun t k => XS.iload X31.here hx rfl (hb hby d4_221) rfl k) ?_
        refine Go.st (fun t k => XS.icmpYes X31.here hx rfl (pc0 := 223) (pc' := 244) rfl (hb hby d4_223) rfl (flt (by decide : ¬ ((0 : Int32) < (0 : Int32)))).2.1 (by decide) (by decide) k) ?_
        show Go _ _ _ (T31.setTop (mkF m 244 #[.val (.ref a1), .val (.ref a2), .val (.int 1), .val (.ref w_NI), .val (.int 0), .val (.int 0), .val (.int x1)] [])) _
        refine Go.st (fun t k => XS.iconst X31.here hx rfl (hb hby d4_244) k) ?_
        obtain ⟨fs, hr, hrun, hended, hW, hsame⟩ := X31.leave (v := some (.int (1 : Int32))) (fun h => by rw [Bd.returns] at h; cases h)
        refine Go.fin (retN X31 hx (t := .boolean) Bd.returns (by simp) (hb hby d4_245) hr) hrun hended ⟨_, _, rfl, ?_, ⟨_, rfl⟩, hW, hsame.mono (by decide) (by decide)⟩
        show Q4_3_1 Z a1 a2 vals w_NI k_NI hAny k_v v0 v1 v2 v3 v4 v5 v6 v7 v8 v9 v10 v11 k_x x0 x1 x2 h0 n0 _ T31.heap _
        rw [e31]
        exact ⟨(hAny + (1 : Int32)), (by unfold f4_3_1; simp only [if_pos hc3, if_neg hc18, if_pos hc26]), N28, K0, E_a1, F_a1_arity, F_a1_values, (by unfold f4_3_1_a1_size; simp only [if_pos hc3, if_neg hc18, if_pos hc26]; exact F_a1_size), F_a1_members, F_a1_indexes, F_a1_holdingAny, (by unfold f4_3_1_vals_3 f4_3_1_vals_4 f4_3_1_vals_5; simp only [if_pos hc3, if_neg hc18, if_pos hc26]; exact V_vals)⟩
      · refine Go.st (fun t k => XS.icmpYes X15.here hx rfl (pc0 := 146) (pc' := 162) rfl (hb hby d4_146) rfl (feq hc26).2 (by decide) (by decide) k) ?_
        show Go _ _ _ (T15.setTop (mkF m 162 #[.val (.ref a1), .val (.ref a2), .val (.int 1), .val (.ref a2), .val (.int 3), .val (.int 1), .val (.int x1)] [])) _
        refine Go.st (fun t k => XS.iinc X15.here hx rfl (hb hby d4_162) rfl (l' := #[.val (.ref a1), .val (.ref a2), .val (.int (1 : Int32)), .val (.ref a2), .val (.int (3 : Int32)), .val (.int ((1 : Int32) + (1 : Int32))), .val (.int x1)]) rfl k) ?_
        show Go _ _ _ (T15.setTop (mkF m 165 #[.val (.ref a1), .val (.ref a2), .val (.int 1), .val (.ref a2), .val (.int 3), .val (.int 2), .val (.int x1)] [])) _
        refine Go.st (fun t k => XS.goto X15.here hx rfl (pc0 := 165) (pc' := 129) rfl (hb hby d4_165) (by decide) (by decide) k) ?_
        refine Go.st (fun t k => XS.iload X15.here hx rfl (hb hby d4_129) rfl k) ?_
        refine Go.st (fun t k => XS.iload X15.here hx rfl (hb hby d4_131) rfl k) ?_
        refine Go.st (fun t k => XS.icmpNo X15.here hx rfl (hb hby d4_133) rfl (tlt (by decide : (2 : Int32) < (3 : Int32))).2.1 k) ?_
        show Go _ _ _ (T15.setTop (mkF m 136 #[.val (.ref a1), .val (.ref a2), .val (.int 1), .val (.ref a2), .val (.int 3), .val (.int 2), .val (.int x1)] [])) _
        refine Go.st (fun t k => XS.aloadN X15.here hx rfl (hb hby d4_136) rfl rfl k) ?_
        refine Go.st (fun t k => XS.iload X15.here hx rfl (hb hby d4_137) rfl k) ?_
        obtain ⟨cl33, Ar33, -, Sz33, Ng33, Hs33, -⟩ := id V_row
        have hin33 : ¬ ((2 : Int32) < 0 ∨ cl33.slots.size ≤ ((2 : Int32)).toNatClampNeg) := inb_of Sz33 ⟨by decide, by decide⟩
        refine Go.st (fun t k => X15.iaload hx (j := (2 : Int32)) (v := (.int x2)) (by rw [e15]; exact Ar33.1) (State.isArrayOf_alike hZ.alike Ar33.2.1) Ar33.2.2 hin33 (Has.at Hs33 hin33 rfl) (g := (mkF m 139 #[.val (.ref a1), .val (.ref a2), .val (.int 1), .val (.ref a2), .val (.int 3), .val (.int 2), .val (.int x1)] [(.int 2), (.ref a2)])) rfl rfl (hb hby d4_139) _ k) ?_
        show Go _ _ _ (T15.setTop (mkF m 140 #[.val (.ref a1), .val (.ref a2), .val (.int 1), .val (.ref a2), .val (.int 3), .val (.int 2), .val (.int x1)] [(.int x2)])) _
        refine Go.st (fun t k => XS.istore X15.here hx rfl (hb hby d4_140) rfl (l' := #[.val (.ref a1), .val (.ref a2), .val (.int 1), .val (.ref a2), .val (.int 3), .val (.int 2), .val (.int x2)]) rfl k) ?_
        refine Go.st (fun t k => XS.iload X15.here hx rfl (hb hby d4_142) rfl k) ?_
        refine Go.st (fun t k => X15.ldcInt hx hown (mvT hZ (wd41 hw)) (g := (mkF m 144 #[.val (.ref a1), .val (.ref a2), .val (.int 1), .val (.ref a2), .val (.int 3), .val (.int 2), .val (.int x2)] [(.int x2)])) rfl (hb hby d4_144) _ k) ?_
        show Go _ _ _ (T15.setTop (mkF m 146 #[.val (.ref a1), .val (.ref a2), .val (.int 1), .val (.ref a2), .val (.int 3), .val (.int 2), .val (.int x2)] [(.int 2147483647), (.int x2)])) _
        by_cases hc34 : x2 = (2147483647 : Int32)
        · refine Go.st (fun t k => XS.icmpNo X15.here hx rfl (hb hby d4_146) rfl (teq hc34).2 k) ?_
          show Go _ _ _ (T15.setTop (mkF m 149 #[.val (.ref a1), .val (.ref a2), .val (.int 1), .val (.ref a2), .val (.int 3), .val (.int 2), .val (.int x2)] [])) _
          refine Go.st (fun t k => XS.aloadN X15.here hx rfl (hb hby d4_149) rfl rfl k) ?_
          refine Go.st (fun t k => XS.dup X15.here hx rfl (hb hby d4_150) rfl rfl k) ?_
          obtain ⟨T35, X35, e35, st35⟩ := getF X15 hx hZ hown (host := "") (Or.inl (wd54 hw)) Via.refl e15 F_a1_holdingAny (g := (mkF m 151 #[.val (.ref a1), .val (.ref a2), .val (.int 1), .val (.ref a2), .val (.int 3), .val (.int 2), .val (.int x2)] [(.ref a1), (.ref a1)])) rfl rfl (hb hby d4_151)
          refine Go.st st35 ?_
          show Go _ _ _ (T35.setTop (mkF m 154 #[.val (.ref a1), .val (.ref a2), .val (.int 1), .val (.ref a2), .val (.int 3), .val (.int 2), .val (.int x2)] [(.int hAny), (.ref a1)])) _
          refine Go.st (fun t k => XS.iconst X35.here hx rfl (hb hby d4_154) k) ?_
          refine Go.st (fun t k => XS.iadd X35.here hx rfl (hb hby d4_155) rfl k) ?_
          show Go _ _ _ (T35.setTop (mkF m 156 #[.val (.ref a1), .val (.ref a2), .val (.int 1), .val (.ref a2), .val (.int 3), .val (.int 2), .val (.int x2)] [(.int (hAny + (1 : Int32))), (.ref a1)])) _
          obtain ⟨T36, h36, X36, e36, W36, st36⟩ := putF X35 hx hZ hown (host := "") (Or.inl (wd54 hw)) Via.refl e35 F_a1_holdingAny E_a1 (Or.inl (wd55 hw)) (wd7 hw) (ty := .int) (by decide) rfl rfl (g := (mkF m 156 #[.val (.ref a1), .val (.ref a2), .val (.int 1), .val (.ref a2), .val (.int 3), .val (.int 2), .val (.int x2)] [(.int (hAny + (1 : Int32))), (.ref a1)])) rfl rfl (hb hby d4_156)
          refine Go.st st36 ?_
          have N36 := Fr.snoc X36 N15 g_a1
          replace E_a1 := E_a1.wr W36
          replace V_NI := V_NI.other W36 ne_w_NI_a1
          replace F_a1_arity := F_a1_arity.other W36 (Or.inr (slot_ne (Or.inr (wd20 hw)) (Or.inl (wd55 hw)) (by decide) (t := .int) (t' := .int) (by decide) (by decide)))
          replace F_a1_values := F_a1_values.other W36 (Or.inr (slot_ne (Or.inl (wd22 hw)) (Or.inl (wd55 hw)) (by decide) (t := (.array .int)) (t' := .int) (by decide) (by decide)))
          replace F_a1_size := F_a1_size.other W36 (Or.inr (slot_ne (Or.inl (wd36 hw)) (Or.inl (wd55 hw)) (by decide) (t := .int) (t' := .int) (by decide) (by decide)))
          replace F_a1_members := F_a1_members.other W36 (Or.inr (slot_ne (Or.inl (wd29 hw)) (Or.inl (wd55 hw)) (by decide) (t := (.object "com/example/bitlattice/bitlattice/eval/Relation$Index")) (t' := .int) (by decide) (by decide)))
          replace F_a1_indexes := F_a1_indexes.other W36 (Or.inr (slot_ne (Or.inl (wd18 hw)) (Or.inl (wd55 hw)) (by decide) (t := (.array (.object "com/example/bitlattice/bitlattice/eval/Relation$Index"))) (t' := .int) (by decide) (by decide)))
          replace F_a1_holdingAny := F_a1_holdingAny.same W36
          replace V_row := V_row.other W36 ne_a2_a1
          replace V_vals := V_vals.other W36 ne_vals_a1
          replace Z0 := Nat.le_trans Z0 (Nat.le_of_eq W36.size.symm)
          replace K0 := K0.wr W36 (Or.inl (by simp))
          show Go _ _ _ (T36.setTop (mkF m 159 #[.val (.ref a1), .val (.ref a2), .val (.int 1), .val (.ref a2), .val (.int 3), .val (.int 2), .val (.int x2)] [])) _
          refine Go.st (fun t k => XS.goto X36.here hx rfl (pc0 := 159) (pc' := 168) rfl (hb hby d4_159) (by decide) (by decide) k) ?_
          refine Go.st (fun t k => XS.aloadN X36.here hx rfl (hb hby d4_168) rfl rfl k) ?_
          obtain ⟨T37, X37, e37, st37⟩ := getF X36 hx hZ hown (host := "") (Or.inl (wd28 hw)) Via.refl e36 F_a1_members (g := (mkF m 169 #[.val (.ref a1), .val (.ref a2), .val (.int 1), .val (.ref a2), .val (.int 3), .val (.int 2), .val (.int x2)] [(.ref a1)])) rfl rfl (hb hby d4_169)
          refine Go.st st37 ?_
          show Go _ _ _ (T37.setTop (mkF m 172 #[.val (.ref a1), .val (.ref a2), .val (.int 1), .val (.ref a2), .val (.int 3), .val (.int 2), .val (.int x2)] [.null])) _
          refine Go.st (fun t k => XS.ifnonnullNo X37.here hx rfl (hb hby d4_172) rfl k) ?_
          show Go _ _ _ (T37.setTop (mkF m 175 #[.val (.ref a1), .val (.ref a2), .val (.int 1), .val (.ref a2), .val (.int 3), .val (.int 2), .val (.int x2)] [])) _
          refine Go.st (fun t k => XS.aloadN X37.here hx rfl (hb hby d4_175) rfl rfl k) ?_
          obtain ⟨T38, X38, e38, st38⟩ := getF X37 hx hZ hown (host := "") (Or.inl (wd35 hw)) Via.refl e37 F_a1_size (g := (mkF m 176 #[.val (.ref a1), .val (.ref a2), .val (.int 1), .val (.ref a2), .val (.int 3), .val (.int 2), .val (.int x2)] [(.ref a1)])) rfl rfl (hb hby d4_176)
          refine Go.st st38 ?_
          show Go _ _ _ (T38.setTop (mkF m 179 #[.val (.ref a1), .val (.ref a2), .val (.int 1), .val (.ref a2), .val (.int 3), .val (.int 2), .val (.int x2)] [(.int 2)])) _
          refine Go.st (fun t k => XS.bipush X38.here hx rfl (hb hby d4_179) k) ?_
          refine Go.st (fun t k => XS.icmpYes X38.here hx rfl (pc0 := 181) (pc' := 207) rfl (hb hby d4_181) rfl (flt (by decide : ¬ ((8 : Int32) < (2 : Int32)))).2.2.2 (by decide) (by decide) k) ?_
          show Go _ _ _ (T38.setTop (mkF m 207 #[.val (.ref a1), .val (.ref a2), .val (.int 1), .val (.ref a2), .val (.int 3), .val (.int 2), .val (.int x2)] [])) _
          refine Go.st (fun t k => XS.aloadN X38.here hx rfl (hb hby d4_207) rfl rfl k) ?_
          obtain ⟨T39, X39, e39, st39⟩ := getF X38 hx hZ hown (host := "") (Or.inl (wd17 hw)) Via.refl e38 F_a1_indexes (g := (mkF m 208 #[.val (.ref a1), .val (.ref a2), .val (.int 1), .val (.ref a2), .val (.int 3), .val (.int 2), .val (.int x2)] [(.ref a1)])) rfl rfl (hb hby d4_208)
          refine Go.st st39 ?_
          show Go _ _ _ (T39.setTop (mkF m 211 #[.val (.ref a1), .val (.ref a2), .val (.int 1), .val (.ref a2), .val (.int 3), .val (.int 2), .val (.int x2)] [(.ref w_NI)])) _
          refine Go.st (fun t k => XS.astoreN X39.here hx rfl (hb hby d4_211) rfl rfl (l' := #[.val (.ref a1), .val (.ref a2), .val (.int 1), .val (.ref w_NI), .val (.int 3), .val (.int 2), .val (.int x2)]) rfl k) ?_
          refine Go.st (fun t k => XS.aloadN X39.here hx rfl (hb hby d4_212) rfl rfl k) ?_
          obtain ⟨cl40, Ar40, -, Sz40, Ng40, -, -⟩ := id V_NI
          refine Go.st (fun t k => X39.arraylength hx (by rw [e39]; exact Ar40.1) (State.isArrayOf_alike hZ.alike Ar40.2.1) (g := (mkF m 213 #[.val (.ref a1), .val (.ref a2), .val (.int 1), .val (.ref w_NI), .val (.int 3), .val (.int 2), .val (.int x2)] [(.ref w_NI)])) rfl rfl (hb hby d4_213) _ k) ?_
          rw [len_of Sz40 Ng40]
          show Go _ _ _ (T39.setTop (mkF m 214 #[.val (.ref a1), .val (.ref a2), .val (.int 1), .val (.ref w_NI), .val (.int 3), .val (.int 2), .val (.int x2)] [(.int 0)])) _
          refine Go.st (fun t k => XS.istore X39.here hx rfl (hb hby d4_214) rfl (l' := #[.val (.ref a1), .val (.ref a2), .val (.int 1), .val (.ref w_NI), .val (.int 0), .val (.int 2), .val (.int x2)]) rfl k) ?_
          refine Go.st (fun t k => XS.iconst X39.here hx rfl (hb hby d4_216) k) ?_
          refine Go.st (fun t k => XS.istore X39.here hx rfl (hb hby d4_217) rfl (l' := #[.val (.ref a1), .val (.ref a2), .val (.int 1), .val (.ref w_NI), .val (.int 0), .val (.int 0), .val (.int x2)]) rfl k) ?_
          refine Go.st (fun t k => XS.iload X39.here hx rfl (hb hby d4_219) rfl k) ?_
          refine Go.st (fun t k => XS.iload X39.here hx rfl (hb hby d4_221) rfl k) ?_
          refine Go.st (fun t k => XS.icmpYes X39.here hx rfl (pc0 := 223) (pc' := 244) rfl (hb hby d4_223) rfl (flt (by decide : ¬ ((0 : Int32) < (0 : Int32)))).2.1 (by decide) (by decide) k) ?_
          show Go _ _ _ (T39.setTop (mkF m 244 #[.val (.ref a1), .val (.ref a2), .val (.int 1), .val (.ref w_NI), .val (.int 0), .val (.int 0), .val (.int x2)] [])) _
          refine Go.st (fun t k => XS.iconst X39.here hx rfl (hb hby d4_244) k) ?_
          obtain ⟨fs, hr, hrun, hended, hW, hsame⟩ := X39.leave (v := some (.int (1 : Int32))) (fun h => by rw [Bd.returns] at h; cases h)
          refine Go.fin (retN X39 hx (t := .boolean) Bd.returns (by simp) (hb hby d4_245) hr) hrun hended ⟨_, _, rfl, ?_, ⟨_, rfl⟩, hW, hsame.mono (by decide) (by decide)⟩
          show Q4_3_1 Z a1 a2 vals w_NI k_NI hAny k_v v0 v1 v2 v3 v4 v5 v6 v7 v8 v9 v10 v11 k_x x0 x1 x2 h0 n0 _ T39.heap _
          rw [e39]
          exact ⟨(hAny + (1 : Int32)), (by unfold f4_3_1; simp only [if_pos hc3, if_neg hc18, if_neg hc26, if_pos hc34]), N36, K0, E_a1, F_a1_arity, F_a1_values, (by unfold f4_3_1_a1_size; simp only [if_pos hc3, if_neg hc18, if_neg hc26, if_pos hc34]; exact F_a1_size), F_a1_members, F_a1_indexes, F_a1_holdingAny, (by unfold f4_3_1_vals_3 f4_3_1_vals_4 f4_3_1_vals_5; simp only [if_pos hc3, if_neg hc18, if_neg hc26, if_pos hc34]; exact V_vals)⟩
        · refine Go.st (fun t k => XS.icmpYes X15.here hx rfl (pc0 := 146) (pc' := 162) rfl (hb hby d4_146) rfl (feq hc34).2 (by decide) (by decide) k) ?_
          show Go _ _ _ (T15.setTop (mkF m 162 #[.val (.ref a1), .val (.ref a2), .val (.int 1), .val (.ref a2), .val (.int 3), .val (.int 2), .val (.int x2)] [])) _
          refine Go.st (fun t k => XS.iinc X15.here hx rfl (hb hby d4_162) rfl (l' := #[.val (.ref a1), .val (.ref a2), .val (.int (1 : Int32)), .val (.ref a2), .val (.int (3 : Int32)), .val (.int ((2 : Int32) + (1 : Int32))), .val (.int x2)]) rfl k) ?_
          show Go _ _ _ (T15.setTop (mkF m 165 #[.val (.ref a1), .val (.ref a2), .val (.int 1), .val (.ref a2), .val (.int 3), .val (.int 3), .val (.int x2)] [])) _
          refine Go.st (fun t k => XS.goto X15.here hx rfl (pc0 := 165) (pc' := 129) rfl (hb hby d4_165) (by decide) (by decide) k) ?_
          refine Go.st (fun t k => XS.iload X15.here hx rfl (hb hby d4_129) rfl k) ?_
          refine Go.st (fun t k => XS.iload X15.here hx rfl (hb hby d4_131) rfl k) ?_
          refine Go.st (fun t k => XS.icmpYes X15.here hx rfl (pc0 := 133) (pc' := 168) rfl (hb hby d4_133) rfl (flt (by decide : ¬ ((3 : Int32) < (3 : Int32)))).2.1 (by decide) (by decide) k) ?_
          show Go _ _ _ (T15.setTop (mkF m 168 #[.val (.ref a1), .val (.ref a2), .val (.int 1), .val (.ref a2), .val (.int 3), .val (.int 3), .val (.int x2)] [])) _
          refine Go.st (fun t k => XS.aloadN X15.here hx rfl (hb hby d4_168) rfl rfl k) ?_
          obtain ⟨T41, X41, e41, st41⟩ := getF X15 hx hZ hown (host := "") (Or.inl (wd28 hw)) Via.refl e15 F_a1_members (g := (mkF m 169 #[.val (.ref a1), .val (.ref a2), .val (.int 1), .val (.ref a2), .val (.int 3), .val (.int 3), .val (.int x2)] [(.ref a1)])) rfl rfl (hb hby d4_169)
          refine Go.st st41 ?_
          show Go _ _ _ (T41.setTop (mkF m 172 #[.val (.ref a1), .val (.ref a2), .val (.int 1), .val (.ref a2), .val (.int 3), .val (.int 3), .val (.int x2)] [.null])) _
          refine Go.st (fun t k => XS.ifnonnullNo X41.here hx rfl (hb hby d4_172) rfl k) ?_
          show Go _ _ _ (T41.setTop (mkF m 175 #[.val (.ref a1), .val (.ref a2), .val (.int 1), .val (.ref a2), .val (.int 3), .val (.int 3), .val (.int x2)] [])) _
          refine Go.st (fun t k => XS.aloadN X41.here hx rfl (hb hby d4_175) rfl rfl k) ?_
          obtain ⟨T42, X42, e42, st42⟩ := getF X41 hx hZ hown (host := "") (Or.inl (wd35 hw)) Via.refl e41 F_a1_size (g := (mkF m 176 #[.val (.ref a1), .val (.ref a2), .val (.int 1), .val (.ref a2), .val (.int 3), .val (.int 3), .val (.int x2)] [(.ref a1)])) rfl rfl (hb hby d4_176)
          refine Go.st st42 ?_
          show Go _ _ _ (T42.setTop (mkF m 179 #[.val (.ref a1), .val (.ref a2), .val (.int 1), .val (.ref a2), .val (.int 3), .val (.int 3), .val (.int x2)] [(.int 2)])) _
          refine Go.st (fun t k => XS.bipush X42.here hx rfl (hb hby d4_179) k) ?_
          refine Go.st (fun t k => XS.icmpYes X42.here hx rfl (pc0 := 181) (pc' := 207) rfl (hb hby d4_181) rfl (flt (by decide : ¬ ((8 : Int32) < (2 : Int32)))).2.2.2 (by decide) (by decide) k) ?_
          show Go _ _ _ (T42.setTop (mkF m 207 #[.val (.ref a1), .val (.ref a2), .val (.int 1), .val (.ref a2), .val (.int 3), .val (.int 3), .val (.int x2)] [])) _
          refine Go.st (fun t k => XS.aloadN X42.here hx rfl (hb hby d4_207) rfl rfl k) ?_
          obtain ⟨T43, X43, e43, st43⟩ := getF X42 hx hZ hown (host := "") (Or.inl (wd17 hw)) Via.refl e42 F_a1_indexes (g := (mkF m 208 #[.val (.ref a1), .val (.ref a2), .val (.int 1), .val (.ref a2), .val (.int 3), .val (.int 3), .val (.int x2)] [(.ref a1)])) rfl rfl (hb hby d4_208)
          refine Go.st st43 ?_
          show Go _ _ _ (T43.setTop (mkF m 211 #[.val (.ref a1), .val (.ref a2), .val (.int 1), .val (.ref a2), .val (.int 3), .val (.int 3), .val (.int x2)] [(.ref w_NI)])) _
          refine Go.st (fun t k => XS.astoreN X43.here hx rfl (hb hby d4_211) rfl rfl (l' := #[.val (.ref a1), .val (.ref a2), .val (.int 1), .val (.ref w_NI), .val (.int 3), .val (.int 3), .val (.int x2)]) rfl k) ?_
          refine Go.st (fun t k => XS.aloadN X43.here hx rfl (hb hby d4_212) rfl rfl k) ?_
          obtain ⟨cl44, Ar44, -, Sz44, Ng44, -, -⟩ := id V_NI
          refine Go.st (fun t k => X43.arraylength hx (by rw [e43]; exact Ar44.1) (State.isArrayOf_alike hZ.alike Ar44.2.1) (g := (mkF m 213 #[.val (.ref a1), .val (.ref a2), .val (.int 1), .val (.ref w_NI), .val (.int 3), .val (.int 3), .val (.int x2)] [(.ref w_NI)])) rfl rfl (hb hby d4_213) _ k) ?_
          rw [len_of Sz44 Ng44]
          show Go _ _ _ (T43.setTop (mkF m 214 #[.val (.ref a1), .val (.ref a2), .val (.int 1), .val (.ref w_NI), .val (.int 3), .val (.int 3), .val (.int x2)] [(.int 0)])) _
          refine Go.st (fun t k => XS.istore X43.here hx rfl (hb hby d4_214) rfl (l' := #[.val (.ref a1), .val (.ref a2), .val (.int 1), .val (.ref w_NI), .val (.int 0), .val (.int 3), .val (.int x2)]) rfl k) ?_
          refine Go.st (fun t k => XS.iconst X43.here hx rfl (hb hby d4_216) k) ?_
          refine Go.st (fun t k => XS.istore X43.here hx rfl (hb hby d4_217) rfl (l' := #[.val (.ref a1), .val (.ref a2), .val (.int 1), .val (.ref w_NI), .val (.int 0), .val (.int 0), .val (.int x2)]) rfl k) ?_
          refine Go.st (fun t k => XS.iload X43.here hx rfl (hb hby d4_219) rfl k) ?_
          refine Go.st (fun t k => XS.iload X43.here hx rfl (hb hby d4_221) rfl k) ?_
          refine Go.st (fun t k => XS.icmpYes X43.here hx rfl (pc0 := 223) (pc' := 244) rfl (hb hby d4_223) rfl (flt (by decide : ¬ ((0 : Int32) < (0 : Int32)))).2.1 (by decide) (by decide) k) ?_
          show Go _ _ _ (T43.setTop (mkF m 244 #[.val (.ref a1), .val (.ref a2), .val (.int 1), .val (.ref w_NI), .val (.int 0), .val (.int 0), .val (.int x2)] [])) _
          refine Go.st (fun t k => XS.iconst X43.here hx rfl (hb hby d4_244) k) ?_
          obtain ⟨fs, hr, hrun, hended, hW, hsame⟩ := X43.leave (v := some (.int (1 : Int32))) (fun h => by rw [Bd.returns] at h; cases h)
          refine Go.fin (retN X43 hx (t := .boolean) Bd.returns (by simp) (hb hby d4_245) hr) hrun hended ⟨_, _, rfl, ?_, ⟨_, rfl⟩, hW, hsame.mono (by decide) (by decide)⟩
          show Q4_3_1 Z a1 a2 vals w_NI k_NI hAny k_v v0 v1 v2 v3 v4 v5 v6 v7 v8 v9 v10 v11 k_x x0 x1 x2 h0 n0 _ T43.heap _
          rw [e43]
          exact ⟨hAny, (by unfold f4_3_1; simp only [if_pos hc3, if_neg hc18, if_neg hc26, if_neg hc34]), N15, K0, E_a1, F_a1_arity, F_a1_values, (by unfold f4_3_1_a1_size; simp only [if_pos hc3, if_neg hc18, if_neg hc26, if_neg hc34]; exact F_a1_size), F_a1_members, F_a1_indexes, F_a1_holdingAny, (by unfold f4_3_1_vals_3 f4_3_1_vals_4 f4_3_1_vals_5; simp only [if_pos hc3, if_neg hc18, if_neg hc26, if_neg hc34]; exact V_vals)⟩
  · refine Go.st (fun t k => XS.ifNo X2.here hx rfl (hb hby d4_12) rfl ((if0 _ _).trans (feq hc3).1) k) ?_
    show Go _ _ _ (T2.setTop (mkF m 15 #[.val (.ref a1), .val (.ref a2), .unset, .unset, .unset, .unset, .unset] [])) _
    refine Go.st (fun t k => XS.iconst X2.here hx rfl (hb hby d4_15) k) ?_
    obtain ⟨fs, hr, hrun, hended, hW, hsame⟩ := X2.leave (v := some (.int (0 : Int32))) (fun h => by rw [Bd.returns] at h; cases h)
    refine Go.fin (retN X2 hx (t := .boolean) Bd.returns (by simp) (hb hby d4_16) hr) hrun hended ⟨_, _, rfl, ?_, ⟨_, rfl⟩, hW, hsame.mono (by decide) (by decide)⟩
    show Q4_3_1 Z a1 a2 vals w_NI k_NI hAny k_v v0 v1 v2 v3 v4 v5 v6 v7 v8 v9 v10 v11 k_x x0 x1 x2 h0 n0 _ T2.heap _
    rw [e2]
    exact ⟨hAny, (by unfold f4_3_1; simp only [if_neg hc3]), N2, K0, E_a1, F_a1_arity, F_a1_values, (by unfold f4_3_1_a1_size; simp only [if_neg hc3]; exact F_a1_size), F_a1_members, F_a1_indexes, F_a1_holdingAny, (by unfold f4_3_1_vals_3 f4_3_1_vals_4 f4_3_1_vals_5; simp only [if_neg hc3]; exact V_vals)⟩
theorem d8_0 : decode prog_33_method_10_code 0 = .ok (.aload_n 0, 1) := by decide +kernel
theorem d8_1 : decode prog_33_method_10_code 1 = .ok (.getfield 22, 3) := by decide +kernel
theorem d8_4 : decode prog_33_method_10_code 4 = .ok (.iload_n 1, 1) := by decide +kernel
theorem d8_5 : decode prog_33_method_10_code 5 = .ok (.aload_n 0, 1) := by decide +kernel
theorem d8_6 : decode prog_33_method_10_code 6 = .ok (.getfield 18, 3) := by decide +kernel
theorem d8_9 : decode prog_33_method_10_code 9 = .ok (.imul, 1) := by decide +kernel
theorem d8_10 : decode prog_33_method_10_code 10 = .ok (.iload_n 2, 1) := by decide +kernel
theorem d8_11 : decode prog_33_method_10_code 11 = .ok (.iadd, 1) := by decide +kernel
theorem d8_12 : decode prog_33_method_10_code 12 = .ok (.iaload, 1) := by decide +kernel
theorem d8_13 : decode prog_33_method_10_code 13 = .ok (.ireturn, 1) := by decide +kernel
def Q8 (Z : State) (a1 : Addr) (p2 : Int32) (p3 : Int32) (w_ar : Int32) (w_vals : Addr) (k_v : ClassId) (vs : List Value) (nn : Int32) (gx : Int32) (h0 : Heap) (n0 : Nat) (v : Option Value) (h : Heap) (L : List Loc) : Prop := v = some (.int gx) ∧ Fr n0 L ∧ h = h0
theorem ef8 (m : MethodId) (x0 : Addr) (x1 : Int32) (x2 : Int32) : entryFrame m #[(.ref x0), (.int x1), (.int x2)] 3 = mkF m 0 #[.val (.ref x0), .val (.int x1), .val (.int x2)] [] := by first | (simp [entryFrame, mkF, argsToLocals, Value.category]; done) | rfl
set_option maxRecDepth 65536 in
set_option maxHeartbeats 16000000 in
theorem rm8 (l : Launch) (Z : State) (a0 : Array Value) (hw : ∀ d ∈ tables_1, d.before a0 Z = true) (ws : List Jvm.Cond) (a1 : Addr) (p2 : Int32) (p3 : Int32) (w_ar : Int32) (w_vals : Addr) (k_v : ClassId) (vs : List Value) (nn : Int32) (gx : Int32) (h0 : Heap) (n0 : Nat) (Z0 : n0 ≤ h0.size) (F_a1_values : Fld Z h0 a1 "com/example/bitlattice/bitlattice/eval/Relation" "values" "[I" (.ref w_vals)) (F_a1_arity : Fld Z h0 a1 "com/example/bitlattice/bitlattice/eval/Relation" "arity" "I" (.int w_ar)) (V_vals : Arv Z h0 w_vals k_v .int nn vs (.int (0 : Int32))) (hib : ¬ ((p2 * w_ar) + p3) < 0 ∧ ((p2 * w_ar) + p3) < nn) (hat : vs.getD ((p2 * w_ar) + p3).toNatClampNeg (.int (0 : Int32)) = .int gx) :
    MetFree l (⟨"com/example/bitlattice/bitlattice/eval/Relation", "get", "(II)I"⟩ : MethodName) (head1 (Jvm.Cond.code (⟨"com/example/bitlattice/bitlattice/eval/Relation", "get", "(II)I"⟩ : MethodName) prog_33_method_10_code 3 (some .int) :: ws) ({ frames := 0, cells := 0, slots := 0, locals := 0 } : Room)) (fun a U => a = #[(.ref a1), (.int p2), (.int p3)] ∧ Z.Warmed39 U.vm ∧ U.heap = h0) (fun _ _ _ _ _ => True) (fun _ U o U' => ∃ v L, o = .returned v ∧ Q8 Z a1 p2 p3 w_ar w_vals k_v vs nn gx h0 n0 v U'.heap L ∧ FrameEnd U o U' L ({ frames := 0, cells := 0, slots := 0, locals := 0 } : Room).cells ({ frames := 0, cells := 0, slots := 0, locals := 0 } : Room).slots) := by
  refine MetFree.of_bodySF (plainFor_of_name pn1) hisR ?_
  intro p e s m args below meth c s₁ Bd hml0 hP hK
  obtain ⟨rfl, hZ, hh⟩ := hP
  have hx := Bd.exec
  have hby := Bd.bytes
  have hml : c.maxLocals = 3 := hml0
  have hown : s.vm.findClass "com/example/bitlattice/bitlattice/eval/Relation" = some m.cls := findClass_of_methodNamed Bd.named
  have hnm := (name_of_methodNamed Bd.named Bd.method).1
  have X0 : Stand p l e ({ frames := 0, cells := 0, slots := 0, locals := 0 } : Room) s m #[(.ref a1), (.int p2), (.int p3)] below meth c s₁ [] 0 0 := Stand.of_body Bd
  have e0 : s₁.heap = h0 := by rw [← hh, Bd.state]; rfl
  have N0 := Fr.nil n0
  have K0 : Keep h0 h0 [] := Keep.refl h0 _
  refine Go.st (P := fun o U' => ∃ v L, o = .returned v ∧ Q8 Z a1 p2 p3 w_ar w_vals k_v vs nn gx h0 n0 v U'.heap L ∧ FrameEnd s o U' L ({ frames := 0, cells := 0, slots := 0, locals := 0 } : Room).cells ({ frames := 0, cells := 0, slots := 0, locals := 0 } : Room).slots) (fun t k => castTop (ef8 m a1 p2 p3) k) ?_
  show Go _ _ _ (s₁.setTop (mkF m 0 #[.val (.ref a1), .val (.int p2), .val (.int p3)] [])) _
  refine Go.st (fun t k => XS.aloadN X0.here hx rfl (hb hby d8_0) rfl rfl k) ?_
  obtain ⟨T1, X1, e1, st1⟩ := getF X0 hx hZ hown (host := "") (Or.inl (wd21 hw)) Via.refl e0 F_a1_values (g := (mkF m 1 #[.val (.ref a1), .val (.int p2), .val (.int p3)] [(.ref a1)])) rfl rfl (hb hby d8_1)
  refine Go.st st1 ?_
  show Go _ _ _ (T1.setTop (mkF m 4 #[.val (.ref a1), .val (.int p2), .val (.int p3)] [(.ref w_vals)])) _
  refine Go.st (fun t k => XS.iloadN X1.here hx rfl (hb hby d8_4) rfl k) ?_
  refine Go.st (fun t k => XS.aloadN X1.here hx rfl (hb hby d8_5) rfl rfl k) ?_
  obtain ⟨T2, X2, e2, st2⟩ := getF X1 hx hZ hown (host := "") (Or.inl (wd19 hw)) Via.refl e1 F_a1_arity (g := (mkF m 6 #[.val (.ref a1), .val (.int p2), .val (.int p3)] [(.ref a1), (.int p2), (.ref w_vals)])) rfl rfl (hb hby d8_6)
  refine Go.st st2 ?_
  show Go _ _ _ (T2.setTop (mkF m 9 #[.val (.ref a1), .val (.int p2), .val (.int p3)] [(.int w_ar), (.int p2), (.ref w_vals)])) _
  refine Go.st (fun t k => XS.imul X2.here hx rfl (hb hby d8_9) rfl k) ?_
  show Go _ _ _ (T2.setTop (mkF m 10 #[.val (.ref a1), .val (.int p2), .val (.int p3)] [(.int (p2 * w_ar)), (.ref w_vals)])) _
  refine Go.st (fun t k => XS.iloadN X2.here hx rfl (hb hby d8_10) rfl k) ?_
  refine Go.st (fun t k => XS.iadd X2.here hx rfl (hb hby d8_11) rfl k) ?_
  show Go _ _ _ (T2.setTop (mkF m 12 #[.val (.ref a1), .val (.int p2), .val (.int p3)] [(.int ((p2 * w_ar) + p3)), (.ref w_vals)])) _
  obtain ⟨cl3, Ar3, -, Sz3, Ng3, Hs3, -⟩ := id V_vals
  have hin3 : ¬ (((p2 * w_ar) + p3) < 0 ∨ cl3.slots.size ≤ (((p2 * w_ar) + p3)).toNatClampNeg) := inb_of Sz3 hib
  refine Go.st (fun t k => X2.iaload hx (j := ((p2 * w_ar) + p3)) (v := (.int gx)) (by rw [e2]; exact Ar3.1) (State.isArrayOf_alike hZ.alike Ar3.2.1) Ar3.2.2 hin3 (Has.at Hs3 hin3 hat) (g := (mkF m 12 #[.val (.ref a1), .val (.int p2), .val (.int p3)] [(.int ((p2 * w_ar) + p3)), (.ref w_vals)])) rfl rfl (hb hby d8_12) _ k) ?_
  show Go _ _ _ (T2.setTop (mkF m 13 #[.val (.ref a1), .val (.int p2), .val (.int p3)] [(.int gx)])) _
  obtain ⟨fs, hr, hrun, hended, hW, hsame⟩ := X2.leave (v := some (.int gx)) (fun h => by rw [Bd.returns] at h; cases h)
  refine Go.fin (retOut X2 hx Bd.returns rfl (Or.inl ⟨rfl, Or.inl rfl, _, rfl⟩) (hb hby d8_13) hr) hrun hended ⟨_, _, rfl, ?_, ⟨_, rfl⟩, hW, hsame.mono (by decide) (by decide)⟩
  show Q8 Z a1 p2 p3 w_ar w_vals k_v vs nn gx h0 n0 _ T2.heap _
  rw [e2]
  exact ⟨rfl, N0, rfl⟩
theorem d7_0 : decode method_3_code 0 = .ok (.iload_n 0, 1) := by decide +kernel
theorem d7_1 : decode method_3_code 1 = .ok (.ifCond .ne 5, 3) := by decide +kernel
theorem d7_4 : decode method_3_code 4 = .ok (.iload_n 1, 1) := by decide +kernel
theorem d7_5 : decode method_3_code 5 = .ok (.ireturn, 1) := by decide +kernel
theorem d7_6 : decode method_3_code 6 = .ok (.iload_n 0, 1) := by decide +kernel
theorem d7_7 : decode method_3_code 7 = .ok (.iconst 1, 1) := by decide +kernel
theorem d7_8 : decode method_3_code 8 = .ok (.if_icmp .ne 5, 3) := by decide +kernel
theorem d7_11 : decode method_3_code 11 = .ok (.iload_n 2, 1) := by decide +kernel
theorem d7_12 : decode method_3_code 12 = .ok (.ireturn, 1) := by decide +kernel
theorem d7_13 : decode method_3_code 13 = .ok (.iload_n 3, 1) := by decide +kernel
theorem d7_14 : decode method_3_code 14 = .ok (.ireturn, 1) := by decide +kernel
def f7 (p1 : Int32) (p2 : Int32) (p3 : Int32) (p4 : Int32) : Int32 := (if p1 = (0 : Int32) then p2 else (if p1 = (1 : Int32) then p3 else p4))
def Q7 (Z : State) (p1 : Int32) (p2 : Int32) (p3 : Int32) (p4 : Int32) (h0 : Heap) (n0 : Nat) (v : Option Value) (h : Heap) (L : List Loc) : Prop := v = some (.int (f7 p1 p2 p3 p4)) ∧ Fr n0 L ∧ h = h0
theorem ef7 (m : MethodId) (x0 : Int32) (x1 : Int32) (x2 : Int32) (x3 : Int32) : entryFrame m #[(.int x0), (.int x1), (.int x2), (.int x3)] 4 = mkF m 0 #[.val (.int x0), .val (.int x1), .val (.int x2), .val (.int x3)] [] := by first | (simp [entryFrame, mkF, argsToLocals, Value.category]; done) | rfl
set_option maxRecDepth 65536 in
set_option maxHeartbeats 16000000 in
theorem rm7 (l : Launch) (Z : State) (a0 : Array Value) (hw : ∀ d ∈ tables_1, d.before a0 Z = true) (ws : List Jvm.Cond) (p1 : Int32) (p2 : Int32) (p3 : Int32) (p4 : Int32) (h0 : Heap) (n0 : Nat) (Z0 : n0 ≤ h0.size) :
    MetFree l (⟨"com/example/bitlattice/bitlattice/eval/RelationGetPinLaw", "pick", "(IIII)I"⟩ : MethodName) (head1 (Jvm.Cond.code (⟨"com/example/bitlattice/bitlattice/eval/RelationGetPinLaw", "pick", "(IIII)I"⟩ : MethodName) method_3_code 4 (some .int) :: ws) ({ frames := 0, cells := 0, slots := 0, locals := 0 } : Room)) (fun a U => a = #[(.int p1), (.int p2), (.int p3), (.int p4)] ∧ Z.Warmed39 U.vm ∧ U.heap = h0) (fun _ _ _ _ _ => True) (fun _ U o U' => ∃ v L, o = .returned v ∧ Q7 Z p1 p2 p3 p4 h0 n0 v U'.heap L ∧ FrameEnd U o U' L ({ frames := 0, cells := 0, slots := 0, locals := 0 } : Room).cells ({ frames := 0, cells := 0, slots := 0, locals := 0 } : Room).slots) := by
  refine MetFree.of_bodySF (plainFor_of_name pn0) hisR ?_
  intro p e s m args below meth c s₁ Bd hml0 hP hK
  obtain ⟨rfl, hZ, hh⟩ := hP
  have hx := Bd.exec
  have hby := Bd.bytes
  have hml : c.maxLocals = 4 := hml0
  have hown : s.vm.findClass "com/example/bitlattice/bitlattice/eval/RelationGetPinLaw" = some m.cls := findClass_of_methodNamed Bd.named
  have hnm := (name_of_methodNamed Bd.named Bd.method).1
  have X0 : Stand p l e ({ frames := 0, cells := 0, slots := 0, locals := 0 } : Room) s m #[(.int p1), (.int p2), (.int p3), (.int p4)] below meth c s₁ [] 0 0 := Stand.of_body Bd
  have e0 : s₁.heap = h0 := by rw [← hh, Bd.state]; rfl
  have N0 := Fr.nil n0
  have K0 : Keep h0 h0 [] := Keep.refl h0 _
  refine Go.st (P := fun o U' => ∃ v L, o = .returned v ∧ Q7 Z p1 p2 p3 p4 h0 n0 v U'.heap L ∧ FrameEnd s o U' L ({ frames := 0, cells := 0, slots := 0, locals := 0 } : Room).cells ({ frames := 0, cells := 0, slots := 0, locals := 0 } : Room).slots) (fun t k => castTop (ef7 m p1 p2 p3 p4) k) ?_
  show Go _ _ _ (s₁.setTop (mkF m 0 #[.val (.int p1), .val (.int p2), .val (.int p3), .val (.int p4)] [])) _
  refine Go.st (fun t k => XS.iloadN X0.here hx rfl (hb hby d7_0) rfl k) ?_
  by_cases hc1 : p1 = (0 : Int32)
  · refine Go.st (fun t k => XS.ifNo X0.here hx rfl (hb hby d7_1) rfl ((if0 _ _).trans (teq hc1).2) k) ?_
    show Go _ _ _ (s₁.setTop (mkF m 4 #[.val (.int p1), .val (.int p2), .val (.int p3), .val (.int p4)] [])) _
    refine Go.st (fun t k => XS.iloadN X0.here hx rfl (hb hby d7_4) rfl k) ?_
    obtain ⟨fs, hr, hrun, hended, hW, hsame⟩ := X0.leave (v := some (.int p2)) (fun h => by rw [Bd.returns] at h; cases h)
    refine Go.fin (retOut X0 hx Bd.returns rfl (Or.inl ⟨rfl, Or.inl rfl, _, rfl⟩) (hb hby d7_5) hr) hrun hended ⟨_, _, rfl, ?_, ⟨_, rfl⟩, hW, hsame.mono (by decide) (by decide)⟩
    show Q7 Z p1 p2 p3 p4 h0 n0 _ s₁.heap _
    rw [e0]
    exact ⟨(by unfold f7; simp only [if_pos hc1]), N0, rfl⟩
  · refine Go.st (fun t k => XS.ifYes X0.here hx rfl (pc0 := 1) (pc' := 6) rfl (hb hby d7_1) rfl ((if0 _ _).trans (feq hc1).2) (by decide) (by decide) k) ?_
    show Go _ _ _ (s₁.setTop (mkF m 6 #[.val (.int p1), .val (.int p2), .val (.int p3), .val (.int p4)] [])) _
    refine Go.st (fun t k => XS.iloadN X0.here hx rfl (hb hby d7_6) rfl k) ?_
    refine Go.st (fun t k => XS.iconst X0.here hx rfl (hb hby d7_7) k) ?_
    by_cases hc2 : p1 = (1 : Int32)
    · refine Go.st (fun t k => XS.icmpNo X0.here hx rfl (hb hby d7_8) rfl (teq hc2).2 k) ?_
      show Go _ _ _ (s₁.setTop (mkF m 11 #[.val (.int p1), .val (.int p2), .val (.int p3), .val (.int p4)] [])) _
      refine Go.st (fun t k => XS.iloadN X0.here hx rfl (hb hby d7_11) rfl k) ?_
      obtain ⟨fs, hr, hrun, hended, hW, hsame⟩ := X0.leave (v := some (.int p3)) (fun h => by rw [Bd.returns] at h; cases h)
      refine Go.fin (retOut X0 hx Bd.returns rfl (Or.inl ⟨rfl, Or.inl rfl, _, rfl⟩) (hb hby d7_12) hr) hrun hended ⟨_, _, rfl, ?_, ⟨_, rfl⟩, hW, hsame.mono (by decide) (by decide)⟩
      show Q7 Z p1 p2 p3 p4 h0 n0 _ s₁.heap _
      rw [e0]
      exact ⟨(by unfold f7; simp only [if_neg hc1, if_pos hc2]), N0, rfl⟩
    · refine Go.st (fun t k => XS.icmpYes X0.here hx rfl (pc0 := 8) (pc' := 13) rfl (hb hby d7_8) rfl (feq hc2).2 (by decide) (by decide) k) ?_
      show Go _ _ _ (s₁.setTop (mkF m 13 #[.val (.int p1), .val (.int p2), .val (.int p3), .val (.int p4)] [])) _
      refine Go.st (fun t k => XS.iloadN X0.here hx rfl (hb hby d7_13) rfl k) ?_
      obtain ⟨fs, hr, hrun, hended, hW, hsame⟩ := X0.leave (v := some (.int p4)) (fun h => by rw [Bd.returns] at h; cases h)
      refine Go.fin (retOut X0 hx Bd.returns rfl (Or.inl ⟨rfl, Or.inl rfl, _, rfl⟩) (hb hby d7_14) hr) hrun hended ⟨_, _, rfl, ?_, ⟨_, rfl⟩, hW, hsame.mono (by decide) (by decide)⟩
      show Q7 Z p1 p2 p3 p4 h0 n0 _ s₁.heap _
      rw [e0]
      exact ⟨(by unfold f7; simp only [if_neg hc1, if_neg hc2]), N0, rfl⟩
theorem own_m3 (x : Int32) (h0 : ¬ ((x &&& (2147483647 : Int32)) % (3 : Int32)) = 0) (h1 : ¬ ((x &&& (2147483647 : Int32)) % (3 : Int32)) = 1) : ((x &&& (2147483647 : Int32)) % (3 : Int32)) = 2 := by
  have h := own_rem x 3 3 rfl (by decide)
  have e0 := own_ne32 (a := 0) rfl h0; have e1 := own_ne32 (a := 1) rfl h1
  exact Int32.toInt_inj.mp (show _ = (2 : Int) by omega)
theorem own_m2 (x : Int32) (h0 : ¬ ((x &&& (2147483647 : Int32)) % (2 : Int32)) = 0) : ((x &&& (2147483647 : Int32)) % (2 : Int32)) = 1 := by
  have h := own_rem x 2 2 rfl (by decide)
  have e0 := own_ne32 (a := 0) rfl h0
  exact Int32.toInt_inj.mp (show _ = (1 : Int) by omega)
theorem own_m1 (x : Int32) : ((x &&& (2147483647 : Int32)) % (1 : Int32)) = 0 := by
  have h := own_rem x 1 1 rfl (by decide)
  exact Int32.toInt_inj.mp (show _ = (0 : Int) by omega)
theorem own_b1 (x : Int32) (h0 : ¬ (x &&& (1 : Int32)) = 0) : (x &&& (1 : Int32)) = 1 := by
  rcases and_one x with h | h
  · exact absurd h h0
  · exact h
theorem wd0 {Z : State} {a0 : Array Value} (hw : ∀ d ∈ tables_1, d.before a0 Z = true) : (Jvm.Cond.constant "com/example/bitlattice/bitlattice/eval/RelationGetPinLaw" (7 : Nat) (2147483647 : Int32)).before a0 Z = true := hw _ (List.mem_of_getElem? (i := 0) rfl)
theorem wd1 {Z : State} {a0 : Array Value} (hw : ∀ d ∈ tables_1, d.before a0 Z = true) : (Jvm.Cond.methodLink "com/example/bitlattice/bitlattice/eval/RelationGetPinLaw" (8 : Nat) ({ cls := "com/example/bitlattice/bitlattice/eval/RelationGetPinLaw", name := "rowOf", desc := "(IIII)[I" } : Jvm.MethodName)).before a0 Z = true := hw _ (List.mem_of_getElem? (i := 1) rfl)
theorem wd4 {Z : State} {a0 : Array Value} (hw : ∀ d ∈ tables_1, d.before a0 Z = true) : (Jvm.Cond.code ({ cls := "com/example/bitlattice/bitlattice/eval/RelationGetPinLaw", name := "rowOf", desc := "(IIII)[I" } : Jvm.MethodName) method_2_code (5 : Nat) (Option.some (Jvm.ClassFile.FieldType.array Jvm.ClassFile.FieldType.int))).before a0 Z = true := hw _ (List.mem_of_getElem? (i := 4) rfl)
theorem wd3 {Z : State} {a0 : Array Value} (hw : ∀ d ∈ tables_1, d.before a0 Z = true) : (Jvm.Cond.initialized "com/example/bitlattice/bitlattice/eval/RelationGetPinLaw").before a0 Z = true := hw _ (List.mem_of_getElem? (i := 3) rfl)
theorem pd2 : parseMethodDescriptor "(IIII)[I" = some ⟨[.int, .int, .int, .int], some (.array .int)⟩ := by decide +kernel
theorem wd2 {Z : State} {a0 : Array Value} (hw : ∀ d ∈ tables_1, d.before a0 Z = true) : (Jvm.Cond.static ({ cls := "com/example/bitlattice/bitlattice/eval/RelationGetPinLaw", name := "rowOf", desc := "(IIII)[I" } : Jvm.MethodName)).before a0 Z = true := hw _ (List.mem_of_getElem? (i := 2) rfl)
theorem wd6 {Z : State} {a0 : Array Value} (hw : ∀ d ∈ tables_1, d.before a0 Z = true) : (Jvm.Cond.classLink "com/example/bitlattice/bitlattice/eval/RelationGetPinLaw" (14 : Nat) "com/example/bitlattice/bitlattice/eval/Relation").before a0 Z = true := hw _ (List.mem_of_getElem? (i := 6) rfl)
theorem wd9 {Z : State} {a0 : Array Value} (hw : ∀ d ∈ tables_1, d.before a0 Z = true) : (Jvm.Cond.methodLink "com/example/bitlattice/bitlattice/eval/RelationGetPinLaw" (16 : Nat) ({ cls := "com/example/bitlattice/bitlattice/eval/Relation", name := "<init>", desc := "(I)V" } : Jvm.MethodName)).before a0 Z = true := hw _ (List.mem_of_getElem? (i := 9) rfl)
theorem wd11 {Z : State} {a0 : Array Value} (hw : ∀ d ∈ tables_1, d.before a0 Z = true) : (Jvm.Cond.code ({ cls := "com/example/bitlattice/bitlattice/eval/Relation", name := "<init>", desc := "(I)V" } : Jvm.MethodName) prog_33_method_1_code (2 : Nat) (Option.none : Option Jvm.ClassFile.FieldType)).before a0 Z = true := hw _ (List.mem_of_getElem? (i := 11) rfl)
theorem pd3 : parseMethodDescriptor "(I)V" = some ⟨[.int], none⟩ := by decide +kernel
theorem wd10 {Z : State} {a0 : Array Value} (hw : ∀ d ∈ tables_1, d.before a0 Z = true) : (Jvm.Cond.instanceMethod ({ cls := "com/example/bitlattice/bitlattice/eval/Relation", name := "<init>", desc := "(I)V" } : Jvm.MethodName)).before a0 Z = true := hw _ (List.mem_of_getElem? (i := 10) rfl)
theorem wd23 {Z : State} {a0 : Array Value} (hw : ∀ d ∈ tables_1, d.before a0 Z = true) : (Jvm.Cond.methodLink "com/example/bitlattice/bitlattice/eval/RelationGetPinLaw" (19 : Nat) ({ cls := "com/example/bitlattice/bitlattice/eval/Relation", name := "add", desc := "([I)Z" } : Jvm.MethodName)).before a0 Z = true := hw _ (List.mem_of_getElem? (i := 23) rfl)
theorem wd27 {Z : State} {a0 : Array Value} (hw : ∀ d ∈ tables_1, d.before a0 Z = true) : (Jvm.Cond.code ({ cls := "com/example/bitlattice/bitlattice/eval/Relation", name := "add", desc := "([I)Z" } : Jvm.MethodName) prog_33_method_14_code (7 : Nat) (Option.some Jvm.ClassFile.FieldType.boolean)).before a0 Z = true := hw _ (List.mem_of_getElem? (i := 27) rfl)
theorem wd26 {Z : State} {a0 : Array Value} (hw : ∀ d ∈ tables_1, d.before a0 Z = true) : (Jvm.Cond.selects "com/example/bitlattice/bitlattice/eval/Relation" ({ cls := "com/example/bitlattice/bitlattice/eval/Relation", name := "add", desc := "([I)Z" } : Jvm.MethodName) ({ cls := "com/example/bitlattice/bitlattice/eval/Relation", name := "add", desc := "([I)Z" } : Jvm.MethodName)).before a0 Z = true := hw _ (List.mem_of_getElem? (i := 26) rfl)
theorem wd24 {Z : State} {a0 : Array Value} (hw : ∀ d ∈ tables_1, d.before a0 Z = true) : (Jvm.Cond.declares ({ cls := "com/example/bitlattice/bitlattice/eval/Relation", name := "add", desc := "([I)Z" } : Jvm.MethodName)).before a0 Z = true := hw _ (List.mem_of_getElem? (i := 24) rfl)
theorem wd25 {Z : State} {a0 : Array Value} (hw : ∀ d ∈ tables_1, d.before a0 Z = true) : (Jvm.Cond.instanceMethod ({ cls := "com/example/bitlattice/bitlattice/eval/Relation", name := "add", desc := "([I)Z" } : Jvm.MethodName)).before a0 Z = true := hw _ (List.mem_of_getElem? (i := 25) rfl)
theorem wd46 {Z : State} {a0 : Array Value} (hw : ∀ d ∈ tables_1, d.before a0 Z = true) : (Jvm.Cond.methodLink "com/example/bitlattice/bitlattice/eval/RelationGetPinLaw" (23 : Nat) ({ cls := "com/example/bitlattice/bitlattice/eval/RelationGetPinLaw", name := "pick", desc := "(IIII)I" } : Jvm.MethodName)).before a0 Z = true := hw _ (List.mem_of_getElem? (i := 46) rfl)
theorem wd48 {Z : State} {a0 : Array Value} (hw : ∀ d ∈ tables_1, d.before a0 Z = true) : (Jvm.Cond.code ({ cls := "com/example/bitlattice/bitlattice/eval/RelationGetPinLaw", name := "pick", desc := "(IIII)I" } : Jvm.MethodName) method_3_code (4 : Nat) (Option.some Jvm.ClassFile.FieldType.int)).before a0 Z = true := hw _ (List.mem_of_getElem? (i := 48) rfl)
theorem pd4 : parseMethodDescriptor "(IIII)I" = some ⟨[.int, .int, .int, .int], some .int⟩ := by decide +kernel
theorem wd47 {Z : State} {a0 : Array Value} (hw : ∀ d ∈ tables_1, d.before a0 Z = true) : (Jvm.Cond.static ({ cls := "com/example/bitlattice/bitlattice/eval/RelationGetPinLaw", name := "pick", desc := "(IIII)I" } : Jvm.MethodName)).before a0 Z = true := hw _ (List.mem_of_getElem? (i := 47) rfl)
theorem wd49 {Z : State} {a0 : Array Value} (hw : ∀ d ∈ tables_1, d.before a0 Z = true) : (Jvm.Cond.methodLink "com/example/bitlattice/bitlattice/eval/RelationGetPinLaw" (27 : Nat) ({ cls := "com/example/bitlattice/bitlattice/eval/Relation", name := "get", desc := "(II)I" } : Jvm.MethodName)).before a0 Z = true := hw _ (List.mem_of_getElem? (i := 49) rfl)
theorem wd53 {Z : State} {a0 : Array Value} (hw : ∀ d ∈ tables_1, d.before a0 Z = true) : (Jvm.Cond.code ({ cls := "com/example/bitlattice/bitlattice/eval/Relation", name := "get", desc := "(II)I" } : Jvm.MethodName) prog_33_method_10_code (3 : Nat) (Option.some Jvm.ClassFile.FieldType.int)).before a0 Z = true := hw _ (List.mem_of_getElem? (i := 53) rfl)
theorem pd5 : parseMethodDescriptor "(II)I" = some ⟨[.int, .int], some .int⟩ := by decide +kernel
theorem wd52 {Z : State} {a0 : Array Value} (hw : ∀ d ∈ tables_1, d.before a0 Z = true) : (Jvm.Cond.selects "com/example/bitlattice/bitlattice/eval/Relation" ({ cls := "com/example/bitlattice/bitlattice/eval/Relation", name := "get", desc := "(II)I" } : Jvm.MethodName) ({ cls := "com/example/bitlattice/bitlattice/eval/Relation", name := "get", desc := "(II)I" } : Jvm.MethodName)).before a0 Z = true := hw _ (List.mem_of_getElem? (i := 52) rfl)
theorem wd50 {Z : State} {a0 : Array Value} (hw : ∀ d ∈ tables_1, d.before a0 Z = true) : (Jvm.Cond.declares ({ cls := "com/example/bitlattice/bitlattice/eval/Relation", name := "get", desc := "(II)I" } : Jvm.MethodName)).before a0 Z = true := hw _ (List.mem_of_getElem? (i := 50) rfl)
theorem wd51 {Z : State} {a0 : Array Value} (hw : ∀ d ∈ tables_1, d.before a0 Z = true) : (Jvm.Cond.instanceMethod ({ cls := "com/example/bitlattice/bitlattice/eval/Relation", name := "get", desc := "(II)I" } : Jvm.MethodName)).before a0 Z = true := hw _ (List.mem_of_getElem? (i := 51) rfl)
def Q0 (Z : State) (p1 : Int32) (p2 : Int32) (p3 : Int32) (p4 : Int32) (p5 : Int32) (p6 : Int32) (w_NI : Addr) (k_NI : ClassId) (h0 : Heap) (n0 : Nat) (v : Option Value) (h : Heap) (L : List Loc) : Prop := v = some (.int (1 : Int32)) ∧ Fr n0 L
theorem ef0 (m : MethodId) (x0 : Int32) (x1 : Int32) (x2 : Int32) (x3 : Int32) (x4 : Int32) (x5 : Int32) : entryFrame m #[(.int x0), (.int x1), (.int x2), (.int x3), (.int x4), (.int x5)] maxLocals = mkF m 0 #[.val (.int x0), .val (.int x1), .val (.int x2), .val (.int x3), .val (.int x4), .val (.int x5), .unset, .unset, .unset, .unset, .unset, .unset, .unset, .unset, .unset] [] := by first | (simp [entryFrame, mkF, argsToLocals, Value.category, maxLocals]; done) | rfl
set_option maxRecDepth 65536 in
set_option maxHeartbeats 16000000 in
theorem rm0 (l : Launch) (Z : State) (a0 : Array Value) (hw : ∀ d ∈ tables_1, d.before a0 Z = true) (ws : List Jvm.Cond) (p1 : Int32) (p2 : Int32) (p3 : Int32) (p4 : Int32) (p5 : Int32) (p6 : Int32) (w_NI : Addr) (k_NI : ClassId) (h0 : Heap) (n0 : Nat) (Z0 : n0 ≤ h0.size) (V_NI : Arv Z h0 w_NI k_NI (.object "com/example/bitlattice/bitlattice/eval/Relation$Index") (0 : Int32) [] .null) (S_NI : Sta Z h0 "com/example/bitlattice/bitlattice/eval/Relation" "NO_INDEXES" "[Lcom/example/bitlattice/bitlattice/eval/Relation$Index;" (.ref w_NI)) :
    MetFree l x (head1 (Jvm.Cond.code x code maxLocals ret :: ws) room_1) (fun a U => a = #[(.int p1), (.int p2), (.int p3), (.int p4), (.int p5), (.int p6)] ∧ Z.Warmed39 U.vm ∧ U.heap = h0) (fun _ _ _ _ _ => True) (fun _ U o U' => ∃ v L, o = .returned v ∧ Q0 Z p1 p2 p3 p4 p5 p6 w_NI k_NI h0 n0 v U'.heap L ∧ FrameEnd U o U' L 16 128) := by
  refine MetFree.of_bodySF (plainFor_of_name pn0) hisR ?_
  intro p e s m args below meth c s₁ Bd hml0 hP hK
  obtain ⟨rfl, hZ, hh⟩ := hP
  have hx := Bd.exec
  have hby := Bd.bytes
  have hml : c.maxLocals = 15 := hml0
  have hown : s.vm.findClass "com/example/bitlattice/bitlattice/eval/RelationGetPinLaw" = some m.cls := findClass_of_methodNamed Bd.named
  have hnm := (name_of_methodNamed Bd.named Bd.method).1
  have X0 : Stand p l e room_1 s m #[(.int p1), (.int p2), (.int p3), (.int p4), (.int p5), (.int p6)] below meth c s₁ [] 0 0 := Stand.of_body Bd
  have e0 : s₁.heap = h0 := by rw [← hh, Bd.state]; rfl
  have N0 := Fr.nil n0
  have K0 : Keep h0 h0 [] := Keep.refl h0 _
  refine Go.st (P := fun o U' => ∃ v L, o = .returned v ∧ Q0 Z p1 p2 p3 p4 p5 p6 w_NI k_NI h0 n0 v U'.heap L ∧ FrameEnd s o U' L 16 128) (fun t k => castTop (ef0 m p1 p2 p3 p4 p5 p6) k) ?_
  show Go _ _ _ (s₁.setTop (mkF m 0 #[.val (.int p1), .val (.int p2), .val (.int p3), .val (.int p4), .val (.int p5), .val (.int p6), .unset, .unset, .unset, .unset, .unset, .unset, .unset, .unset, .unset] [])) _
  refine Go.st (fun t k => XS.iconst X0.here hx rfl (hb hby at_0) k) ?_
  refine Go.st (fun t k => XS.iloadN X0.here hx rfl (hb hby at_1) rfl k) ?_
  refine Go.st (fun t k => X0.ldcInt hx hown (mvT hZ (wd0 hw)) (g := (mkF m 2 #[.val (.int p1), .val (.int p2), .val (.int p3), .val (.int p4), .val (.int p5), .val (.int p6), .unset, .unset, .unset, .unset, .unset, .unset, .unset, .unset, .unset] [(.int p1), (.int 1)])) rfl (hb hby at_2) _ k) ?_
  show Go _ _ _ (s₁.setTop (mkF m 4 #[.val (.int p1), .val (.int p2), .val (.int p3), .val (.int p4), .val (.int p5), .val (.int p6), .unset, .unset, .unset, .unset, .unset, .unset, .unset, .unset, .unset] [(.int 2147483647), (.int p1), (.int 1)])) _
  refine Go.st (fun t k => XS.iand X0.here hx rfl (hb hby at_4) rfl k) ?_
  show Go _ _ _ (s₁.setTop (mkF m 5 #[.val (.int p1), .val (.int p2), .val (.int p3), .val (.int p4), .val (.int p5), .val (.int p6), .unset, .unset, .unset, .unset, .unset, .unset, .unset, .unset, .unset] [(.int (p1 &&& (2147483647 : Int32))), (.int 1)])) _
  refine Go.st (fun t k => XS.iconst X0.here hx rfl (hb hby at_5) k) ?_
  refine Go.st (fun t k => iremM X0 hx rfl (hb hby at_6) rfl (by decide) k) ?_
  show Go _ _ _ (s₁.setTop (mkF m 7 #[.val (.int p1), .val (.int p2), .val (.int p3), .val (.int p4), .val (.int p5), .val (.int p6), .unset, .unset, .unset, .unset, .unset, .unset, .unset, .unset, .unset] [(.int ((p1 &&& (2147483647 : Int32)) % (3 : Int32))), (.int 1)])) _
  refine Go.st (fun t k => XS.iadd X0.here hx rfl (hb hby at_7) rfl k) ?_
  show Go _ _ _ (s₁.setTop (mkF m 8 #[.val (.int p1), .val (.int p2), .val (.int p3), .val (.int p4), .val (.int p5), .val (.int p6), .unset, .unset, .unset, .unset, .unset, .unset, .unset, .unset, .unset] [(.int ((1 : Int32) + ((p1 &&& (2147483647 : Int32)) % (3 : Int32))))])) _
  refine Go.st (fun t k => XS.istore X0.here hx rfl (hb hby at_8) rfl (l' := #[.val (.int p1), .val (.int p2), .val (.int p3), .val (.int p4), .val (.int p5), .val (.int p6), .val (.int ((1 : Int32) + ((p1 &&& (2147483647 : Int32)) % (3 : Int32)))), .unset, .unset, .unset, .unset, .unset, .unset, .unset, .unset]) rfl k) ?_
  show Go _ _ _ (s₁.setTop (mkF m 10 #[.val (.int p1), .val (.int p2), .val (.int p3), .val (.int p4), .val (.int p5), .val (.int p6), .val (.int ((1 : Int32) + ((p1 &&& (2147483647 : Int32)) % (3 : Int32)))), .unset, .unset, .unset, .unset, .unset, .unset, .unset, .unset] [])) _
  by_cases hc1 : ((p1 &&& (2147483647 : Int32)) % (3 : Int32)) = (0 : Int32)
  · rw [show ((1 : Int32) + ((p1 &&& (2147483647 : Int32)) % (3 : Int32))) = (1 : Int32) from by rw [hc1]; decide]
    show Go _ _ _ (s₁.setTop (mkF m 10 #[.val (.int p1), .val (.int p2), .val (.int p3), .val (.int p4), .val (.int p5), .val (.int p6), .val (.int 1), .unset, .unset, .unset, .unset, .unset, .unset, .unset, .unset] [])) _
    refine Go.st (fun t k => XS.iload X0.here hx rfl (hb hby at_10) rfl k) ?_
    refine Go.st (fun t k => XS.iconst X0.here hx rfl (hb hby at_12) k) ?_
    refine Go.st (fun t k => XS.iand X0.here hx rfl (hb hby at_13) rfl k) ?_
    show Go _ _ _ (s₁.setTop (mkF m 14 #[.val (.int p1), .val (.int p2), .val (.int p3), .val (.int p4), .val (.int p5), .val (.int p6), .val (.int 1), .unset, .unset, .unset, .unset, .unset, .unset, .unset, .unset] [(.int (p6 &&& (1 : Int32)))])) _
    refine Go.st (fun t k => XS.istore X0.here hx rfl (hb hby at_14) rfl (l' := #[.val (.int p1), .val (.int p2), .val (.int p3), .val (.int p4), .val (.int p5), .val (.int p6), .val (.int 1), .val (.int (p6 &&& (1 : Int32))), .unset, .unset, .unset, .unset, .unset, .unset, .unset]) rfl k) ?_
    refine Go.st (fun t k => XS.iload X0.here hx rfl (hb hby at_16) rfl k) ?_
    refine Go.st (fun t k => XS.iconst X0.here hx rfl (hb hby at_18) k) ?_
    refine Go.st (fun t k => XS.iushr X0.here hx rfl (hb hby at_19) rfl k) ?_
    show Go _ _ _ (s₁.setTop (mkF m 20 #[.val (.int p1), .val (.int p2), .val (.int p3), .val (.int p4), .val (.int p5), .val (.int p6), .val (.int 1), .val (.int (p6 &&& (1 : Int32))), .unset, .unset, .unset, .unset, .unset, .unset, .unset] [(.int ((p6.toUInt32 >>> ((1 : Int32) &&& 31).toUInt32).toInt32))])) _
    refine Go.st (fun t k => X0.ldcInt hx hown (mvT hZ (wd0 hw)) (g := (mkF m 20 #[.val (.int p1), .val (.int p2), .val (.int p3), .val (.int p4), .val (.int p5), .val (.int p6), .val (.int 1), .val (.int (p6 &&& (1 : Int32))), .unset, .unset, .unset, .unset, .unset, .unset, .unset] [(.int ((p6.toUInt32 >>> ((1 : Int32) &&& 31).toUInt32).toInt32))])) rfl (hb hby at_20) _ k) ?_
    show Go _ _ _ (s₁.setTop (mkF m 22 #[.val (.int p1), .val (.int p2), .val (.int p3), .val (.int p4), .val (.int p5), .val (.int p6), .val (.int 1), .val (.int (p6 &&& (1 : Int32))), .unset, .unset, .unset, .unset, .unset, .unset, .unset] [(.int 2147483647), (.int ((p6.toUInt32 >>> ((1 : Int32) &&& 31).toUInt32).toInt32))])) _
    refine Go.st (fun t k => XS.iand X0.here hx rfl (hb hby at_22) rfl k) ?_
    show Go _ _ _ (s₁.setTop (mkF m 23 #[.val (.int p1), .val (.int p2), .val (.int p3), .val (.int p4), .val (.int p5), .val (.int p6), .val (.int 1), .val (.int (p6 &&& (1 : Int32))), .unset, .unset, .unset, .unset, .unset, .unset, .unset] [(.int (((p6.toUInt32 >>> ((1 : Int32) &&& 31).toUInt32).toInt32) &&& (2147483647 : Int32)))])) _
    refine Go.st (fun t k => XS.iload X0.here hx rfl (hb hby at_23) rfl k) ?_
    refine Go.st (fun t k => iremM X0 hx rfl (hb hby at_25) rfl (by decide) k) ?_
    show Go _ _ _ (s₁.setTop (mkF m 26 #[.val (.int p1), .val (.int p2), .val (.int p3), .val (.int p4), .val (.int p5), .val (.int p6), .val (.int 1), .val (.int (p6 &&& (1 : Int32))), .unset, .unset, .unset, .unset, .unset, .unset, .unset] [(.int ((((p6.toUInt32 >>> ((1 : Int32) &&& 31).toUInt32).toInt32) &&& (2147483647 : Int32)) % (1 : Int32)))])) _
    refine Go.st (fun t k => XS.istore X0.here hx rfl (hb hby at_26) rfl (l' := #[.val (.int p1), .val (.int p2), .val (.int p3), .val (.int p4), .val (.int p5), .val (.int p6), .val (.int 1), .val (.int (p6 &&& (1 : Int32))), .val (.int ((((p6.toUInt32 >>> ((1 : Int32) &&& 31).toUInt32).toInt32) &&& (2147483647 : Int32)) % (1 : Int32))), .unset, .unset, .unset, .unset, .unset, .unset]) rfl k) ?_
    refine Go.st (fun t k => XS.iload X0.here hx rfl (hb hby at_28) rfl k) ?_
    refine Go.st (fun t k => XS.iloadN X0.here hx rfl (hb hby at_30) rfl k) ?_
    refine Go.st (fun t k => XS.iloadN X0.here hx rfl (hb hby at_31) rfl k) ?_
    refine Go.st (fun t k => XS.iloadN X0.here hx rfl (hb hby at_32) rfl k) ?_
    obtain ⟨_, _, ⟨T2, L2, k2, n2⟩, -, X2, ⟨Lc2, hQ2, l2, y2, z2⟩, st2⟩ := Jvm.LawKit.callS X0 hx (y := (⟨"com/example/bitlattice/bitlattice/eval/RelationGetPinLaw", "rowOf", "(IIII)[I"⟩ : MethodName)) hown (mvT hZ (wd1 hw)) (mvT hZ (wd2 hw)) (mvT hZ (wd3 hw)) (mvT hZ (wd4 hw)) (by decide) (backOf (W := 0) (rm1_1 l Z a0 hw [] p2 p3 p4 h0 n0 Z0) hZ (wd4 hw) (wd3 hw) (by decide) (by decide)) (g := (mkF m 33 #[.val (.int p1), .val (.int p2), .val (.int p3), .val (.int p4), .val (.int p5), .val (.int p6), .val (.int 1), .val (.int (p6 &&& (1 : Int32))), .val (.int ((((p6.toUInt32 >>> ((1 : Int32) &&& 31).toUInt32).toInt32) &&& (2147483647 : Int32)) % (1 : Int32))), .unset, .unset, .unset, .unset, .unset, .unset] [(.int p4), (.int p3), (.int p2), (.int 1)])) rfl (by rw [hml]; rfl) (argsL := [(.int (1 : Int32)), (.int p2), (.int p3), (.int p4)]) (rest := []) (lenOf pd2 rfl) rfl (by show 2 * 0 + _ ≤ _; exact Nat.le_of_eq rfl) (hb hby at_33) (fun _ _ => ⟨rfl, e0, (by decide : 0 + 1 ≤ _), (by decide : 0 + 1 ≤ _)⟩)
    dsimp only [Pt.U, Pt.locs, Pt.cells, Pt.slots] at X2 l2 y2 z2 st2 hQ2
    subst l2 y2 z2
    obtain ⟨h2, e2⟩ : ∃ z, T2.heap = z := ⟨_, rfl⟩
    rw [e2] at hQ2
    obtain ⟨x1_1_0_2, k_x1_1_0_2, rfl, N2q, K2, ng_x1_1_0_2, sz0_x1_1_0_2, Q2_0⟩ := hQ2
    refine Go.st st2 ?_
    have ne_w_NI_x1_1_0_2 : w_NI ≠ x1_1_0_2 := Nat.ne_of_lt (Nat.lt_of_lt_of_le V_NI.lt sz0_x1_1_0_2)
    have g_x1_1_0_2 : n0 ≤ x1_1_0_2 := ng_x1_1_0_2
    have sz_x1_1_0_2 : h0.size ≤ x1_1_0_2 := Nat.le_trans K0.1 sz0_x1_1_0_2
    replace V_NI := V_NI.keep K2 nin0
    replace S_NI := sta_keep S_NI K2 all0
    replace Z0 := Nat.le_trans Z0 K2.1
    replace K0 := K0.trans K2 all0
    have V_x1_1_0_2 := Q2_0
    have N2 := Fr.app N0 N2q
    show Go _ _ _ (T2.setTop (mkF m 36 #[.val (.int p1), .val (.int p2), .val (.int p3), .val (.int p4), .val (.int p5), .val (.int p6), .val (.int 1), .val (.int (p6 &&& (1 : Int32))), .val (.int ((((p6.toUInt32 >>> ((1 : Int32) &&& 31).toUInt32).toInt32) &&& (2147483647 : Int32)) % (1 : Int32))), .unset, .unset, .unset, .unset, .unset, .unset] [(.ref x1_1_0_2)])) _
    refine Go.st (fun t k => XS.astore X2.here hx rfl (hb hby at_36) rfl rfl (l' := #[.val (.int p1), .val (.int p2), .val (.int p3), .val (.int p4), .val (.int p5), .val (.int p6), .val (.int 1), .val (.int (p6 &&& (1 : Int32))), .val (.int ((((p6.toUInt32 >>> ((1 : Int32) &&& 31).toUInt32).toInt32) &&& (2147483647 : Int32)) % (1 : Int32))), .val (.ref x1_1_0_2), .unset, .unset, .unset, .unset, .unset]) rfl k) ?_
    refine Go.st (fun t k => XS.iload X2.here hx rfl (hb hby at_38) rfl k) ?_
    refine Go.st (fun t k => XS.iload X2.here hx rfl (hb hby at_40) rfl k) ?_
    refine Go.st (fun t k => XS.iloadN X2.here hx rfl (hb hby at_42) rfl k) ?_
    refine Go.st (fun t k => XS.iloadN X2.here hx rfl (hb hby at_43) rfl k) ?_
    obtain ⟨_, _, ⟨T3, L3, k3, n3⟩, -, X3, ⟨Lc3, hQ3, l3, y3, z3⟩, st3⟩ := Jvm.LawKit.callS X2 hx (y := (⟨"com/example/bitlattice/bitlattice/eval/RelationGetPinLaw", "rowOf", "(IIII)[I"⟩ : MethodName)) hown (mvT hZ (wd1 hw)) (mvT hZ (wd2 hw)) (mvT hZ (wd3 hw)) (mvT hZ (wd4 hw)) (by decide) (backOf (W := 0) (rm1_1 l Z a0 hw [] p5 p4 p2 h2 n0 Z0) hZ (wd4 hw) (wd3 hw) (by decide) (by decide)) (g := (mkF m 44 #[.val (.int p1), .val (.int p2), .val (.int p3), .val (.int p4), .val (.int p5), .val (.int p6), .val (.int 1), .val (.int (p6 &&& (1 : Int32))), .val (.int ((((p6.toUInt32 >>> ((1 : Int32) &&& 31).toUInt32).toInt32) &&& (2147483647 : Int32)) % (1 : Int32))), .val (.ref x1_1_0_2), .unset, .unset, .unset, .unset, .unset] [(.int p2), (.int p4), (.int p5), (.int 1)])) rfl (by rw [hml]; rfl) (argsL := [(.int (1 : Int32)), (.int p5), (.int p4), (.int p2)]) (rest := []) (lenOf pd2 rfl) rfl (by show 2 * 0 + _ ≤ _; exact Nat.le_of_eq rfl) (hb hby at_44) (fun _ _ => ⟨rfl, e2, (by decide : 1 + 1 ≤ _), (by decide : 1 + 1 ≤ _)⟩)
    dsimp only [Pt.U, Pt.locs, Pt.cells, Pt.slots] at X3 l3 y3 z3 st3 hQ3
    subst l3 y3 z3
    obtain ⟨h3, e3⟩ : ∃ z, T3.heap = z := ⟨_, rfl⟩
    rw [e3] at hQ3
    obtain ⟨x1_1_0_3, k_x1_1_0_3, rfl, N3q, K3, ng_x1_1_0_3, sz0_x1_1_0_3, Q3_0⟩ := hQ3
    refine Go.st st3 ?_
    have ne_w_NI_x1_1_0_3 : w_NI ≠ x1_1_0_3 := Nat.ne_of_lt (Nat.lt_of_lt_of_le V_NI.lt sz0_x1_1_0_3)
    have ne_x1_1_0_2_x1_1_0_3 : x1_1_0_2 ≠ x1_1_0_3 := Nat.ne_of_lt (Nat.lt_of_lt_of_le V_x1_1_0_2.lt sz0_x1_1_0_3)
    have g_x1_1_0_3 : n0 ≤ x1_1_0_3 := ng_x1_1_0_3
    have sz_x1_1_0_3 : h0.size ≤ x1_1_0_3 := Nat.le_trans K0.1 sz0_x1_1_0_3
    replace V_NI := V_NI.keep K3 nin0
    replace S_NI := sta_keep S_NI K3 all0
    replace V_x1_1_0_2 := V_x1_1_0_2.keep K3 nin0
    replace Z0 := Nat.le_trans Z0 K3.1
    replace K0 := K0.trans K3 all0
    have V_x1_1_0_3 := Q3_0
    have N3 := Fr.app N2 N3q
    show Go _ _ _ (T3.setTop (mkF m 47 #[.val (.int p1), .val (.int p2), .val (.int p3), .val (.int p4), .val (.int p5), .val (.int p6), .val (.int 1), .val (.int (p6 &&& (1 : Int32))), .val (.int ((((p6.toUInt32 >>> ((1 : Int32) &&& 31).toUInt32).toInt32) &&& (2147483647 : Int32)) % (1 : Int32))), .val (.ref x1_1_0_2), .unset, .unset, .unset, .unset, .unset] [(.ref x1_1_0_3)])) _
    refine Go.st (fun t k => XS.astore X3.here hx rfl (hb hby at_47) rfl rfl (l' := #[.val (.int p1), .val (.int p2), .val (.int p3), .val (.int p4), .val (.int p5), .val (.int p6), .val (.int 1), .val (.int (p6 &&& (1 : Int32))), .val (.int ((((p6.toUInt32 >>> ((1 : Int32) &&& 31).toUInt32).toInt32) &&& (2147483647 : Int32)) % (1 : Int32))), .val (.ref x1_1_0_2), .val (.ref x1_1_0_3), .unset, .unset, .unset, .unset]) rfl k) ?_
    obtain ⟨T4, h4, X4, e4, E4, A4, D4, -, st4⟩ := newO X3 hx hZ hown (wd6 hw) (wd7 hw) (wd8 hw) e3 (g := (mkF m 49 #[.val (.int p1), .val (.int p2), .val (.int p3), .val (.int p4), .val (.int p5), .val (.int p6), .val (.int 1), .val (.int (p6 &&& (1 : Int32))), .val (.int ((((p6.toUInt32 >>> ((1 : Int32) &&& 31).toUInt32).toInt32) &&& (2147483647 : Int32)) % (1 : Int32))), .val (.ref x1_1_0_2), .val (.ref x1_1_0_3), .unset, .unset, .unset, .unset] [])) rfl (hb hby at_49) (by decide) (by decide)
    obtain ⟨b4, g4⟩ : ∃ z, z = h3.size := ⟨_, rfl⟩
    rw [← g4] at A4 D4 st4
    refine Go.st st4 ?_
    have ne_w_NI_b4 : w_NI ≠ b4 := Nat.ne_of_lt (Nat.lt_of_lt_of_le V_NI.lt (Nat.le_of_eq g4.symm))
    have ne_x1_1_0_2_b4 : x1_1_0_2 ≠ b4 := Nat.ne_of_lt (Nat.lt_of_lt_of_le V_x1_1_0_2.lt (Nat.le_of_eq g4.symm))
    have ne_x1_1_0_3_b4 : x1_1_0_3 ≠ b4 := Nat.ne_of_lt (Nat.lt_of_lt_of_le V_x1_1_0_3.lt (Nat.le_of_eq g4.symm))
    have g_b4 : n0 ≤ b4 := Nat.le_trans Z0 (Nat.le_of_eq g4.symm)
    have sz_b4 : h0.size ≤ b4 := Nat.le_trans K0.1 (Nat.le_of_eq g4.symm)
    replace V_NI := V_NI.ext E4
    replace S_NI := S_NI.ext E4
    replace V_x1_1_0_2 := V_x1_1_0_2.ext E4
    replace V_x1_1_0_3 := V_x1_1_0_3.ext E4
    replace K0 := K0.ext E4
    replace Z0 := Nat.le_trans Z0 E4.1
    have E_b4 := A4
    have F_b4_indexes : Fld Z h4 b4 "com/example/bitlattice/bitlattice/eval/Relation" "indexes" "[Lcom/example/bitlattice/bitlattice/eval/Relation$Index;" .null := D4 (Or.inl (wd18 hw)) (ty := (.array (.object "com/example/bitlattice/bitlattice/eval/Relation$Index"))) (by decide)
    have F_b4_arity : Fld Z h4 b4 "com/example/bitlattice/bitlattice/eval/Relation" "arity" "I" (.int (0 : Int32)) := D4 (Or.inr (wd20 hw)) (ty := .int) (by decide)
    have F_b4_values : Fld Z h4 b4 "com/example/bitlattice/bitlattice/eval/Relation" "values" "[I" .null := D4 (Or.inl (wd22 hw)) (ty := (.array .int)) (by decide)
    have F_b4_members : Fld Z h4 b4 "com/example/bitlattice/bitlattice/eval/Relation" "members" "Lcom/example/bitlattice/bitlattice/eval/Relation$Index;" .null := D4 (Or.inl (wd29 hw)) (ty := (.object "com/example/bitlattice/bitlattice/eval/Relation$Index")) (by decide)
    have F_b4_size : Fld Z h4 b4 "com/example/bitlattice/bitlattice/eval/Relation" "size" "I" (.int (0 : Int32)) := D4 (Or.inl (wd36 hw)) (ty := .int) (by decide)
    have F_b4_holdingAny : Fld Z h4 b4 "com/example/bitlattice/bitlattice/eval/Relation" "holdingAny" "I" (.int (0 : Int32)) := D4 (Or.inl (wd55 hw)) (ty := .int) (by decide)
    show Go _ _ _ (T4.setTop (mkF m 52 #[.val (.int p1), .val (.int p2), .val (.int p3), .val (.int p4), .val (.int p5), .val (.int p6), .val (.int 1), .val (.int (p6 &&& (1 : Int32))), .val (.int ((((p6.toUInt32 >>> ((1 : Int32) &&& 31).toUInt32).toInt32) &&& (2147483647 : Int32)) % (1 : Int32))), .val (.ref x1_1_0_2), .val (.ref x1_1_0_3), .unset, .unset, .unset, .unset] [(.ref b4)])) _
    refine Go.st (fun t k => XS.dup X4.here hx rfl (hb hby at_52) rfl rfl k) ?_
    refine Go.st (fun t k => XS.iload X4.here hx rfl (hb hby at_53) rfl k) ?_
    obtain ⟨_, _, ⟨T5, L5, k5, n5⟩, -, X5, ⟨Lc5, hQ5, l5, y5, z5⟩, st5⟩ := X4.specialBack hx (y := (⟨"com/example/bitlattice/bitlattice/eval/Relation", "<init>", "(I)V"⟩ : MethodName)) rfl hown (mvT hZ (wd9 hw)) (mvT hZ (wd10 hw)) (mvT hZ (wd11 hw)) (by decide) (backOf (W := 1) (rm2_1 l Z a0 hw [] b4 w_NI (.null : Value) (.null : Value) ((.int (0 : Int32)) : Value) h4 n0 Z0 E_b4 S_NI F_b4_size F_b4_members F_b4_holdingAny F_b4_indexes F_b4_values F_b4_arity g_b4) hZ (wd11 hw) (wd8 hw) (by decide) (by decide)) (g := (mkF m 55 #[.val (.int p1), .val (.int p2), .val (.int p3), .val (.int p4), .val (.int p5), .val (.int p6), .val (.int 1), .val (.int (p6 &&& (1 : Int32))), .val (.int ((((p6.toUInt32 >>> ((1 : Int32) &&& 31).toUInt32).toInt32) &&& (2147483647 : Int32)) % (1 : Int32))), .val (.ref x1_1_0_2), .val (.ref x1_1_0_3), .unset, .unset, .unset, .unset] [(.int 1), (.ref b4), (.ref b4)])) rfl (by rw [hml]; rfl) (Steps.refl _) (a := b4) (argsL := [(.int (1 : Int32))]) (rest := [(.ref b4)]) (lenOf pd3 rfl) rfl (by show 2 * 0 + _ ≤ _; exact Nat.le_of_eq rfl) (hb hby at_55) (fun _ _ => ⟨rfl, e4, (by decide : 3 + 1 ≤ _), (by decide : 8 + 4 ≤ _)⟩)
    dsimp only [Pt.U, Pt.locs, Pt.cells, Pt.slots] at X5 l5 y5 z5 st5 hQ5
    subst l5 y5 z5
    have E_b4_pre := E_b4
    have F_b4_indexes_pre := F_b4_indexes
    have F_b4_arity_pre := F_b4_arity
    have F_b4_values_pre := F_b4_values
    have F_b4_members_pre := F_b4_members
    have F_b4_size_pre := F_b4_size
    have F_b4_holdingAny_pre := F_b4_holdingAny
    obtain ⟨h5, e5⟩ : ∃ z, T5.heap = z := ⟨_, rfl⟩
    rw [e5] at hQ5
    obtain ⟨x2_1_0_5, k_x2_1_0_5, rfl, N5q, K5, ng_x2_1_0_5, sz0_x2_1_0_5, Q5_0, Q5_1, Q5_2, Q5_3, Q5_4, Q5_5, Q5_6, Q5_7⟩ := hQ5
    refine Go.tr st5 ?_
    have ne_w_NI_x2_1_0_5 : w_NI ≠ x2_1_0_5 := Nat.ne_of_lt (Nat.lt_of_lt_of_le V_NI.lt sz0_x2_1_0_5)
    have ne_x1_1_0_2_x2_1_0_5 : x1_1_0_2 ≠ x2_1_0_5 := Nat.ne_of_lt (Nat.lt_of_lt_of_le V_x1_1_0_2.lt sz0_x2_1_0_5)
    have ne_x1_1_0_3_x2_1_0_5 : x1_1_0_3 ≠ x2_1_0_5 := Nat.ne_of_lt (Nat.lt_of_lt_of_le V_x1_1_0_3.lt sz0_x2_1_0_5)
    have ne_b4_x2_1_0_5 : b4 ≠ x2_1_0_5 := Nat.ne_of_lt (Nat.lt_of_lt_of_le E_b4.lt sz0_x2_1_0_5)
    have g_x2_1_0_5 : n0 ≤ x2_1_0_5 := ng_x2_1_0_5
    have sz_x2_1_0_5 : h0.size ≤ x2_1_0_5 := Nat.le_trans K0.1 sz0_x2_1_0_5
    replace V_NI := V_NI.keep K5 (ninS ne_w_NI_b4 nin0)
    replace S_NI := sta_keep S_NI K5 (allS (exa_ns E_b4_pre) all0)
    replace V_x1_1_0_2 := V_x1_1_0_2.keep K5 (ninS ne_x1_1_0_2_b4 nin0)
    replace V_x1_1_0_3 := V_x1_1_0_3.keep K5 (ninS ne_x1_1_0_3_b4 nin0)
    replace E_b4 := E_b4.keep K5
    replace Z0 := Nat.le_trans Z0 K5.1
    replace K0 := K0.trans K5 (allS (Or.inr sz_b4) all0)
    have E_b4 := Q5_0
    have F_b4_size := Q5_1
    have F_b4_members := Q5_2
    have F_b4_holdingAny := Q5_3
    have F_b4_indexes := Q5_4
    have F_b4_values := Q5_5
    have F_b4_arity := Q5_6
    have V_x2_1_0_5 := Q5_7
    have N5 := Fr.app N3 N5q
    show Go _ _ _ (T5.setTop (mkF m 58 #[.val (.int p1), .val (.int p2), .val (.int p3), .val (.int p4), .val (.int p5), .val (.int p6), .val (.int 1), .val (.int (p6 &&& (1 : Int32))), .val (.int ((((p6.toUInt32 >>> ((1 : Int32) &&& 31).toUInt32).toInt32) &&& (2147483647 : Int32)) % (1 : Int32))), .val (.ref x1_1_0_2), .val (.ref x1_1_0_3), .unset, .unset, .unset, .unset] [(.ref b4)])) _
    refine Go.st (fun t k => XS.astore X5.here hx rfl (hb hby at_58) rfl rfl (l' := #[.val (.int p1), .val (.int p2), .val (.int p3), .val (.int p4), .val (.int p5), .val (.int p6), .val (.int 1), .val (.int (p6 &&& (1 : Int32))), .val (.int ((((p6.toUInt32 >>> ((1 : Int32) &&& 31).toUInt32).toInt32) &&& (2147483647 : Int32)) % (1 : Int32))), .val (.ref x1_1_0_2), .val (.ref x1_1_0_3), .val (.ref b4), .unset, .unset, .unset]) rfl k) ?_
    refine Go.st (fun t k => XS.aload X5.here hx rfl (hb hby at_60) rfl rfl k) ?_
    refine Go.st (fun t k => XS.aload X5.here hx rfl (hb hby at_62) rfl rfl k) ?_
    obtain ⟨cq6, kq6, q6a, q6b, q6c⟩ := isOf hZ e5 E_b4
    obtain ⟨_, _, ⟨T6, L6, k6, n6⟩, -, X6, ⟨Lc6, hQ6, l6, y6, z6⟩, st6⟩ := X5.virtualBack hx (y := (⟨"com/example/bitlattice/bitlattice/eval/Relation", "add", "([I)Z"⟩ : MethodName)) (z := (⟨"com/example/bitlattice/bitlattice/eval/Relation", "add", "([I)Z"⟩ : MethodName)) hown (mvT hZ (wd23 hw)) (mvT hZ (wd24 hw)) (notFace_of_selects (args := #[]) (mvT hZ (wd26 hw))) (mvT hZ (wd26 hw)) (mvT hZ (wd25 hw)) (by decide) (backOf (W := 0) (rm4_1_0 l Z a0 hw [] b4 x1_1_0_2 x2_1_0_5 w_NI k_NI (0 : Int32) k_x2_1_0_5 (0 : Int32) (0 : Int32) (0 : Int32) (0 : Int32) k_x1_1_0_2 p2 h5 n0 Z0 E_b4 V_NI F_b4_arity F_b4_values F_b4_size F_b4_members F_b4_indexes F_b4_holdingAny V_x2_1_0_5 V_x1_1_0_2 (Ne.symm ne_b4_x2_1_0_5) ne_x1_1_0_2_b4 (Ne.symm ne_x1_1_0_2_x2_1_0_5) ne_w_NI_b4 ne_w_NI_x2_1_0_5 ne_w_NI_x1_1_0_2 g_x2_1_0_5 g_b4) hZ (wd27 hw) (wd8 hw) (by decide) (by decide)) q6a q6c (g := (mkF m 64 #[.val (.int p1), .val (.int p2), .val (.int p3), .val (.int p4), .val (.int p5), .val (.int p6), .val (.int 1), .val (.int (p6 &&& (1 : Int32))), .val (.int ((((p6.toUInt32 >>> ((1 : Int32) &&& 31).toUInt32).toInt32) &&& (2147483647 : Int32)) % (1 : Int32))), .val (.ref x1_1_0_2), .val (.ref x1_1_0_3), .val (.ref b4), .unset, .unset, .unset] [(.ref x1_1_0_2), (.ref b4)])) rfl (by rw [hml]; rfl) (Steps.refl _) (argsL := [(.ref x1_1_0_2)]) (rest := []) (lenOf pd0 rfl) rfl (by show 2 * 0 + _ ≤ _; exact Nat.le_of_eq rfl) (hb hby at_64) (fun _ _ => ⟨rfl, e5, (by decide : 4 + 0 ≤ _), (by decide : 12 + 0 ≤ _)⟩)
    dsimp only [Pt.U, Pt.locs, Pt.cells, Pt.slots] at X6 l6 y6 z6 st6 hQ6
    subst l6 y6 z6
    have E_b4_pre := E_b4
    have F_b4_size_pre := F_b4_size
    have F_b4_members_pre := F_b4_members
    have F_b4_holdingAny_pre := F_b4_holdingAny
    have F_b4_indexes_pre := F_b4_indexes
    have F_b4_values_pre := F_b4_values
    have F_b4_arity_pre := F_b4_arity
    have V_x2_1_0_5_pre := V_x2_1_0_5
    obtain ⟨h6, e6⟩ : ∃ z, T6.heap = z := ⟨_, rfl⟩
    rw [e6] at hQ6
    obtain ⟨z_4_1_0_holdingAny_6, rfl, N6q, K6, Q6_0, Q6_1, Q6_2, Q6_3, Q6_4, Q6_5, Q6_6, Q6_7⟩ := hQ6
    refine Go.tr st6 ?_
    replace V_NI := V_NI.keep K6 (ninS ne_w_NI_x2_1_0_5 (ninS ne_w_NI_b4 nin0))
    replace S_NI := sta_keep S_NI K6 (allS (arv_ns V_x2_1_0_5_pre) (allS (exa_ns E_b4_pre) all0))
    replace V_x1_1_0_2 := V_x1_1_0_2.keep K6 (ninS ne_x1_1_0_2_x2_1_0_5 (ninS ne_x1_1_0_2_b4 nin0))
    replace V_x1_1_0_3 := V_x1_1_0_3.keep K6 (ninS ne_x1_1_0_3_x2_1_0_5 (ninS ne_x1_1_0_3_b4 nin0))
    replace E_b4 := E_b4.keep K6
    replace Z0 := Nat.le_trans Z0 K6.1
    replace K0 := K0.trans K6 (allS (Or.inr sz_x2_1_0_5) (allS (Or.inr sz_b4) all0))
    have E_b4 := Q6_0
    have F_b4_arity := Q6_1
    have F_b4_values := Q6_2
    have F_b4_size := Q6_3
    have F_b4_members := Q6_4
    have F_b4_indexes := Q6_5
    have F_b4_holdingAny := Q6_6
    have V_x2_1_0_5 := Q6_7
    have N6 := Fr.app N5 N6q
    show Go _ _ _ (T6.setTop (mkF m 67 #[.val (.int p1), .val (.int p2), .val (.int p3), .val (.int p4), .val (.int p5), .val (.int p6), .val (.int 1), .val (.int (p6 &&& (1 : Int32))), .val (.int ((((p6.toUInt32 >>> ((1 : Int32) &&& 31).toUInt32).toInt32) &&& (2147483647 : Int32)) % (1 : Int32))), .val (.ref x1_1_0_2), .val (.ref x1_1_0_3), .val (.ref b4), .unset, .unset, .unset] [(.int 1)])) _
    refine Go.st (fun t k => XS.pop X6.here hx rfl (hb hby at_67) rfl rfl k) ?_
    refine Go.st (fun t k => XS.aload X6.here hx rfl (hb hby at_68) rfl rfl k) ?_
    refine Go.st (fun t k => XS.aload X6.here hx rfl (hb hby at_70) rfl rfl k) ?_
    obtain ⟨cq7, kq7, q7a, q7b, q7c⟩ := isOf hZ e6 E_b4
    obtain ⟨_, _, ⟨T7, L7, k7, n7⟩, -, X7, ⟨Lc7, hQ7, l7, y7, z7⟩, st7⟩ := X6.virtualBack hx (y := (⟨"com/example/bitlattice/bitlattice/eval/Relation", "add", "([I)Z"⟩ : MethodName)) (z := (⟨"com/example/bitlattice/bitlattice/eval/Relation", "add", "([I)Z"⟩ : MethodName)) hown (mvT hZ (wd23 hw)) (mvT hZ (wd24 hw)) (notFace_of_selects (args := #[]) (mvT hZ (wd26 hw))) (mvT hZ (wd26 hw)) (mvT hZ (wd25 hw)) (by decide) (backOf (W := 0) (rm4_1_1 l Z a0 hw [] b4 x1_1_0_3 x2_1_0_5 w_NI k_NI z_4_1_0_holdingAny_6 k_x2_1_0_5 p2 (0 : Int32) (0 : Int32) (0 : Int32) k_x1_1_0_3 p5 h6 n0 Z0 E_b4 V_NI F_b4_arity F_b4_values F_b4_size F_b4_members F_b4_indexes F_b4_holdingAny V_x2_1_0_5 V_x1_1_0_3 (Ne.symm ne_b4_x2_1_0_5) ne_x1_1_0_3_b4 (Ne.symm ne_x1_1_0_3_x2_1_0_5) ne_w_NI_b4 ne_w_NI_x2_1_0_5 ne_w_NI_x1_1_0_3 g_x2_1_0_5 g_b4) hZ (wd27 hw) (wd8 hw) (by decide) (by decide)) q7a q7c (g := (mkF m 72 #[.val (.int p1), .val (.int p2), .val (.int p3), .val (.int p4), .val (.int p5), .val (.int p6), .val (.int 1), .val (.int (p6 &&& (1 : Int32))), .val (.int ((((p6.toUInt32 >>> ((1 : Int32) &&& 31).toUInt32).toInt32) &&& (2147483647 : Int32)) % (1 : Int32))), .val (.ref x1_1_0_2), .val (.ref x1_1_0_3), .val (.ref b4), .unset, .unset, .unset] [(.ref x1_1_0_3), (.ref b4)])) rfl (by rw [hml]; rfl) (Steps.refl _) (argsL := [(.ref x1_1_0_3)]) (rest := []) (lenOf pd0 rfl) rfl (by show 2 * 0 + _ ≤ _; exact Nat.le_of_eq rfl) (hb hby at_72) (fun _ _ => ⟨rfl, e6, (by decide : 4 + 0 ≤ _), (by decide : 12 + 0 ≤ _)⟩)
    dsimp only [Pt.U, Pt.locs, Pt.cells, Pt.slots] at X7 l7 y7 z7 st7 hQ7
    subst l7 y7 z7
    have E_b4_pre := E_b4
    have F_b4_arity_pre := F_b4_arity
    have F_b4_values_pre := F_b4_values
    have F_b4_size_pre := F_b4_size
    have F_b4_members_pre := F_b4_members
    have F_b4_indexes_pre := F_b4_indexes
    have F_b4_holdingAny_pre := F_b4_holdingAny
    have V_x2_1_0_5_pre := V_x2_1_0_5
    obtain ⟨h7, e7⟩ : ∃ z, T7.heap = z := ⟨_, rfl⟩
    rw [e7] at hQ7
    obtain ⟨z_4_1_1_holdingAny_7, rfl, N7q, K7, Q7_0, Q7_1, Q7_2, Q7_3, Q7_4, Q7_5, Q7_6, Q7_7⟩ := hQ7
    refine Go.tr st7 ?_
    replace V_NI := V_NI.keep K7 (ninS ne_w_NI_x2_1_0_5 (ninS ne_w_NI_b4 nin0))
    replace S_NI := sta_keep S_NI K7 (allS (arv_ns V_x2_1_0_5_pre) (allS (exa_ns E_b4_pre) all0))
    replace V_x1_1_0_2 := V_x1_1_0_2.keep K7 (ninS ne_x1_1_0_2_x2_1_0_5 (ninS ne_x1_1_0_2_b4 nin0))
    replace V_x1_1_0_3 := V_x1_1_0_3.keep K7 (ninS ne_x1_1_0_3_x2_1_0_5 (ninS ne_x1_1_0_3_b4 nin0))
    replace E_b4 := E_b4.keep K7
    replace Z0 := Nat.le_trans Z0 K7.1
    replace K0 := K0.trans K7 (allS (Or.inr sz_x2_1_0_5) (allS (Or.inr sz_b4) all0))
    have E_b4 := Q7_0
    have F_b4_arity := Q7_1
    have F_b4_values := Q7_2
    have F_b4_size := Q7_3
    have F_b4_members := Q7_4
    have F_b4_indexes := Q7_5
    have F_b4_holdingAny := Q7_6
    have V_x2_1_0_5 := Q7_7
    have N7 := Fr.app N6 N7q
    show Go _ _ _ (T7.setTop (mkF m 75 #[.val (.int p1), .val (.int p2), .val (.int p3), .val (.int p4), .val (.int p5), .val (.int p6), .val (.int 1), .val (.int (p6 &&& (1 : Int32))), .val (.int ((((p6.toUInt32 >>> ((1 : Int32) &&& 31).toUInt32).toInt32) &&& (2147483647 : Int32)) % (1 : Int32))), .val (.ref x1_1_0_2), .val (.ref x1_1_0_3), .val (.ref b4), .unset, .unset, .unset] [(.int (f4_1_1 p2 p5))])) _
    by_cases hc8 : (f5_1_1 p2 p5) = (0 : Int32)
    · rw [show (f4_1_1 p2 p5) = (1 : Int32) from by unfold f4_1_1; simp only [if_pos hc8, if_true, if_false]]
      rw [show (f4_1_1_a1_size p2 p5) = (2 : Int32) from by unfold f4_1_1_a1_size; simp only [if_pos hc8, if_true, if_false]] at F_b4_size
      replace V_x2_1_0_5 : Arv Z h7 x2_1_0_5 k_x2_1_0_5 .int (4 : Int32) [(.int p2), (.int p5), (.int (0 : Int32)), (.int (0 : Int32))] (.int (0 : Int32)) := (by have hq := V_x2_1_0_5; unfold f4_1_1_vals_1 at hq; simp only [if_pos hc8] at hq; exact hq)
      show Go _ _ _ (T7.setTop (mkF m 75 #[.val (.int p1), .val (.int p2), .val (.int p3), .val (.int p4), .val (.int p5), .val (.int p6), .val (.int 1), .val (.int (p6 &&& (1 : Int32))), .val (.int ((((p6.toUInt32 >>> ((1 : Int32) &&& 31).toUInt32).toInt32) &&& (2147483647 : Int32)) % (1 : Int32))), .val (.ref x1_1_0_2), .val (.ref x1_1_0_3), .val (.ref b4), .unset, .unset, .unset] [(.int 1)])) _
      refine Go.st (fun t k => XS.istore X7.here hx rfl (hb hby at_75) rfl (l' := #[.val (.int p1), .val (.int p2), .val (.int p3), .val (.int p4), .val (.int p5), .val (.int p6), .val (.int 1), .val (.int (p6 &&& (1 : Int32))), .val (.int ((((p6.toUInt32 >>> ((1 : Int32) &&& 31).toUInt32).toInt32) &&& (2147483647 : Int32)) % (1 : Int32))), .val (.ref x1_1_0_2), .val (.ref x1_1_0_3), .val (.ref b4), .val (.int 1), .unset, .unset]) rfl k) ?_
      show Go _ _ _ (T7.setTop (mkF m 77 #[.val (.int p1), .val (.int p2), .val (.int p3), .val (.int p4), .val (.int p5), .val (.int p6), .val (.int 1), .val (.int (p6 &&& (1 : Int32))), .val (.int ((((p6.toUInt32 >>> ((1 : Int32) &&& 31).toUInt32).toInt32) &&& (2147483647 : Int32)) % (1 : Int32))), .val (.ref x1_1_0_2), .val (.ref x1_1_0_3), .val (.ref b4), .val (.int 1), .unset, .unset] [])) _
      rw [own_m1 ((p6.toUInt32 >>> ((1 : Int32) &&& 31).toUInt32).toInt32)]
      show Go _ _ _ (T7.setTop (mkF m 77 #[.val (.int p1), .val (.int p2), .val (.int p3), .val (.int p4), .val (.int p5), .val (.int p6), .val (.int 1), .val (.int (p6 &&& (1 : Int32))), .val (.int 0), .val (.ref x1_1_0_2), .val (.ref x1_1_0_3), .val (.ref b4), .val (.int 1), .unset, .unset] [])) _
      refine Go.st (fun t k => XS.iload X7.here hx rfl (hb hby at_77) rfl k) ?_
      refine Go.st (fun t k => XS.ifNo X7.here hx rfl (hb hby at_79) rfl ((if0 _ _).trans (feq (by decide : ¬ ((1 : Int32) = (0 : Int32)))).1) k) ?_
      show Go _ _ _ (T7.setTop (mkF m 82 #[.val (.int p1), .val (.int p2), .val (.int p3), .val (.int p4), .val (.int p5), .val (.int p6), .val (.int 1), .val (.int (p6 &&& (1 : Int32))), .val (.int 0), .val (.ref x1_1_0_2), .val (.ref x1_1_0_3), .val (.ref b4), .val (.int 1), .unset, .unset] [])) _
      by_cases hc9 : (p6 &&& (1 : Int32)) = (0 : Int32)
      · rw [hc9]
        show Go _ _ _ (T7.setTop (mkF m 82 #[.val (.int p1), .val (.int p2), .val (.int p3), .val (.int p4), .val (.int p5), .val (.int p6), .val (.int 1), .val (.int 0), .val (.int 0), .val (.ref x1_1_0_2), .val (.ref x1_1_0_3), .val (.ref b4), .val (.int 1), .unset, .unset] [])) _
        refine Go.st (fun t k => XS.iload X7.here hx rfl (hb hby at_82) rfl k) ?_
        refine Go.st (fun t k => XS.goto X7.here hx rfl (pc0 := 84) (pc' := 88) rfl (hb hby at_84) (by decide) (by decide) k) ?_
        refine Go.st (fun t k => XS.istore X7.here hx rfl (hb hby at_88) rfl (l' := #[.val (.int p1), .val (.int p2), .val (.int p3), .val (.int p4), .val (.int p5), .val (.int p6), .val (.int 1), .val (.int 0), .val (.int 0), .val (.ref x1_1_0_2), .val (.ref x1_1_0_3), .val (.ref b4), .val (.int 1), .val (.int 0), .unset]) rfl k) ?_
        refine Go.st (fun t k => XS.iload X7.here hx rfl (hb hby at_90) rfl k) ?_
        refine Go.st (fun t k => XS.ifNo X7.here hx rfl (hb hby at_92) rfl ((if0 _ _).trans (teq (by decide : (0 : Int32) = (0 : Int32))).2) k) ?_
        show Go _ _ _ (T7.setTop (mkF m 95 #[.val (.int p1), .val (.int p2), .val (.int p3), .val (.int p4), .val (.int p5), .val (.int p6), .val (.int 1), .val (.int 0), .val (.int 0), .val (.ref x1_1_0_2), .val (.ref x1_1_0_3), .val (.ref b4), .val (.int 1), .val (.int 0), .unset] [])) _
        refine Go.st (fun t k => XS.iload X7.here hx rfl (hb hby at_95) rfl k) ?_
        refine Go.st (fun t k => XS.iloadN X7.here hx rfl (hb hby at_97) rfl k) ?_
        refine Go.st (fun t k => XS.iloadN X7.here hx rfl (hb hby at_98) rfl k) ?_
        refine Go.st (fun t k => XS.iloadN X7.here hx rfl (hb hby at_99) rfl k) ?_
        obtain ⟨_, _, ⟨T10, L10, k10, n10⟩, -, X10, ⟨Lc10, hQ10, l10, y10, z10⟩, st10⟩ := Jvm.LawKit.callS X7 hx (y := (⟨"com/example/bitlattice/bitlattice/eval/RelationGetPinLaw", "pick", "(IIII)I"⟩ : MethodName)) hown (mvT hZ (wd46 hw)) (mvT hZ (wd47 hw)) (mvT hZ (wd3 hw)) (mvT hZ (wd48 hw)) (by decide) (backOf (W := 0) (rm7 l Z a0 hw [] (0 : Int32) p2 p3 p4 h7 n0 Z0) hZ (wd48 hw) (wd3 hw) (by decide) (by decide)) (g := (mkF m 100 #[.val (.int p1), .val (.int p2), .val (.int p3), .val (.int p4), .val (.int p5), .val (.int p6), .val (.int 1), .val (.int 0), .val (.int 0), .val (.ref x1_1_0_2), .val (.ref x1_1_0_3), .val (.ref b4), .val (.int 1), .val (.int 0), .unset] [(.int p4), (.int p3), (.int p2), (.int 0)])) rfl (by rw [hml]; rfl) (argsL := [(.int (0 : Int32)), (.int p2), (.int p3), (.int p4)]) (rest := []) (lenOf pd4 rfl) rfl (by show 2 * 0 + _ ≤ _; exact Nat.le_of_eq rfl) (hb hby at_100) (fun _ _ => ⟨rfl, e7, (by decide : 4 + 0 ≤ _), (by decide : 12 + 0 ≤ _)⟩)
        dsimp only [Pt.U, Pt.locs, Pt.cells, Pt.slots] at X10 l10 y10 z10 st10 hQ10
        subst l10 y10 z10
        refine Go.st st10 ?_
        obtain ⟨rfl, N10q, e10⟩ := hQ10
        have N10 := Fr.app N7 N10q
        show Go _ _ _ (T10.setTop (mkF m 103 #[.val (.int p1), .val (.int p2), .val (.int p3), .val (.int p4), .val (.int p5), .val (.int p6), .val (.int 1), .val (.int 0), .val (.int 0), .val (.ref x1_1_0_2), .val (.ref x1_1_0_3), .val (.ref b4), .val (.int 1), .val (.int 0), .unset] [(.int (f7 (0 : Int32) p2 p3 p4))])) _
        rw [show (f7 (0 : Int32) p2 p3 p4) = p2 from by unfold f7; simp only [if_pos (by decide : (0 : Int32) = (0 : Int32)), if_true, if_false]]
        show Go _ _ _ (T10.setTop (mkF m 103 #[.val (.int p1), .val (.int p2), .val (.int p3), .val (.int p4), .val (.int p5), .val (.int p6), .val (.int 1), .val (.int 0), .val (.int 0), .val (.ref x1_1_0_2), .val (.ref x1_1_0_3), .val (.ref b4), .val (.int 1), .val (.int 0), .unset] [(.int p2)])) _
        refine Go.st (fun t k => XS.goto X10.here hx rfl (pc0 := 103) (pc' := 115) rfl (hb hby at_103) (by decide) (by decide) k) ?_
        refine Go.st (fun t k => XS.istore X10.here hx rfl (hb hby at_115) rfl (l' := #[.val (.int p1), .val (.int p2), .val (.int p3), .val (.int p4), .val (.int p5), .val (.int p6), .val (.int 1), .val (.int 0), .val (.int 0), .val (.ref x1_1_0_2), .val (.ref x1_1_0_3), .val (.ref b4), .val (.int 1), .val (.int 0), .val (.int p2)]) rfl k) ?_
        refine Go.st (fun t k => XS.aload X10.here hx rfl (hb hby at_117) rfl rfl k) ?_
        refine Go.st (fun t k => XS.iload X10.here hx rfl (hb hby at_119) rfl k) ?_
        refine Go.st (fun t k => XS.iload X10.here hx rfl (hb hby at_121) rfl k) ?_
        obtain ⟨cq11, kq11, q11a, q11b, q11c⟩ := isOf hZ e10 E_b4
        obtain ⟨_, _, ⟨T11, L11, k11, n11⟩, -, X11, ⟨Lc11, hQ11, l11, y11, z11⟩, st11⟩ := X10.virtualBack hx (y := (⟨"com/example/bitlattice/bitlattice/eval/Relation", "get", "(II)I"⟩ : MethodName)) (z := (⟨"com/example/bitlattice/bitlattice/eval/Relation", "get", "(II)I"⟩ : MethodName)) hown (mvT hZ (wd49 hw)) (mvT hZ (wd50 hw)) (notFace_of_selects (args := #[]) (mvT hZ (wd52 hw))) (mvT hZ (wd52 hw)) (mvT hZ (wd51 hw)) (by decide) (backOf (W := 0) (rm8 l Z a0 hw [] b4 (0 : Int32) (0 : Int32) (1 : Int32) x2_1_0_5 k_x2_1_0_5 [(.int p2), (.int p5), (.int (0 : Int32)), (.int (0 : Int32))] (4 : Int32) p2 h7 n0 Z0 F_b4_values F_b4_arity V_x2_1_0_5 (by decide) rfl) hZ (wd53 hw) (wd8 hw) (by decide) (by decide)) q11a q11c (g := (mkF m 123 #[.val (.int p1), .val (.int p2), .val (.int p3), .val (.int p4), .val (.int p5), .val (.int p6), .val (.int 1), .val (.int 0), .val (.int 0), .val (.ref x1_1_0_2), .val (.ref x1_1_0_3), .val (.ref b4), .val (.int 1), .val (.int 0), .val (.int p2)] [(.int 0), (.int 0), (.ref b4)])) rfl (by rw [hml]; rfl) (Steps.refl _) (argsL := [(.int (0 : Int32)), (.int (0 : Int32))]) (rest := []) (lenOf pd5 rfl) rfl (by show 2 * 0 + _ ≤ _; exact Nat.le_of_eq rfl) (hb hby at_123) (fun _ _ => ⟨rfl, e10, (by decide : 4 + 0 ≤ _), (by decide : 12 + 0 ≤ _)⟩)
        dsimp only [Pt.U, Pt.locs, Pt.cells, Pt.slots] at X11 l11 y11 z11 st11 hQ11
        subst l11 y11 z11
        refine Go.tr st11 ?_
        obtain ⟨rfl, N11q, e11⟩ := hQ11
        have N11 := Fr.app N10 N11q
        show Go _ _ _ (T11.setTop (mkF m 126 #[.val (.int p1), .val (.int p2), .val (.int p3), .val (.int p4), .val (.int p5), .val (.int p6), .val (.int 1), .val (.int 0), .val (.int 0), .val (.ref x1_1_0_2), .val (.ref x1_1_0_3), .val (.ref b4), .val (.int 1), .val (.int 0), .val (.int p2)] [(.int p2)])) _
        refine Go.st (fun t k => XS.iload X11.here hx rfl (hb hby at_126) rfl k) ?_
        refine Go.st (fun t k => XS.icmpNo X11.here hx rfl (hb hby at_128) rfl (teq (rfl : p2 = p2)).2 k) ?_
        show Go _ _ _ (T11.setTop (mkF m 131 #[.val (.int p1), .val (.int p2), .val (.int p3), .val (.int p4), .val (.int p5), .val (.int p6), .val (.int 1), .val (.int 0), .val (.int 0), .val (.ref x1_1_0_2), .val (.ref x1_1_0_3), .val (.ref b4), .val (.int 1), .val (.int 0), .val (.int p2)] [])) _
        refine Go.st (fun t k => XS.iconst X11.here hx rfl (hb hby at_131) k) ?_
        refine Go.st (fun t k => XS.goto X11.here hx rfl (pc0 := 132) (pc' := 136) rfl (hb hby at_132) (by decide) (by decide) k) ?_
        obtain ⟨fs, hr, hrun, hended, hW, hsame⟩ := X11.leave (v := some (.int (1 : Int32))) (fun h => by rw [Bd.returns] at h; cases h)
        refine Go.fin (retN X11 hx (t := .boolean) Bd.returns (by simp) (hb hby at_136) hr) hrun hended ⟨_, _, rfl, ?_, ⟨_, rfl⟩, hW, hsame.mono (by decide) (by decide)⟩
        show Q0 Z p1 p2 p3 p4 p5 p6 w_NI k_NI h0 n0 _ T11.heap _
        rw [e11]
        exact ⟨rfl, N11⟩
      · rw [own_b1 p6 hc9]
        show Go _ _ _ (T7.setTop (mkF m 82 #[.val (.int p1), .val (.int p2), .val (.int p3), .val (.int p4), .val (.int p5), .val (.int p6), .val (.int 1), .val (.int 1), .val (.int 0), .val (.ref x1_1_0_2), .val (.ref x1_1_0_3), .val (.ref b4), .val (.int 1), .unset, .unset] [])) _
        refine Go.st (fun t k => XS.iload X7.here hx rfl (hb hby at_82) rfl k) ?_
        refine Go.st (fun t k => XS.goto X7.here hx rfl (pc0 := 84) (pc' := 88) rfl (hb hby at_84) (by decide) (by decide) k) ?_
        refine Go.st (fun t k => XS.istore X7.here hx rfl (hb hby at_88) rfl (l' := #[.val (.int p1), .val (.int p2), .val (.int p3), .val (.int p4), .val (.int p5), .val (.int p6), .val (.int 1), .val (.int 1), .val (.int 0), .val (.ref x1_1_0_2), .val (.ref x1_1_0_3), .val (.ref b4), .val (.int 1), .val (.int 1), .unset]) rfl k) ?_
        refine Go.st (fun t k => XS.iload X7.here hx rfl (hb hby at_90) rfl k) ?_
        refine Go.st (fun t k => XS.ifYes X7.here hx rfl (pc0 := 92) (pc' := 106) rfl (hb hby at_92) rfl ((if0 _ _).trans (feq (by decide : ¬ ((1 : Int32) = (0 : Int32)))).2) (by decide) (by decide) k) ?_
        show Go _ _ _ (T7.setTop (mkF m 106 #[.val (.int p1), .val (.int p2), .val (.int p3), .val (.int p4), .val (.int p5), .val (.int p6), .val (.int 1), .val (.int 1), .val (.int 0), .val (.ref x1_1_0_2), .val (.ref x1_1_0_3), .val (.ref b4), .val (.int 1), .val (.int 1), .unset] [])) _
        refine Go.st (fun t k => XS.iload X7.here hx rfl (hb hby at_106) rfl k) ?_
        refine Go.st (fun t k => XS.iload X7.here hx rfl (hb hby at_108) rfl k) ?_
        refine Go.st (fun t k => XS.iloadN X7.here hx rfl (hb hby at_110) rfl k) ?_
        refine Go.st (fun t k => XS.iloadN X7.here hx rfl (hb hby at_111) rfl k) ?_
        obtain ⟨_, _, ⟨T12, L12, k12, n12⟩, -, X12, ⟨Lc12, hQ12, l12, y12, z12⟩, st12⟩ := Jvm.LawKit.callS X7 hx (y := (⟨"com/example/bitlattice/bitlattice/eval/RelationGetPinLaw", "pick", "(IIII)I"⟩ : MethodName)) hown (mvT hZ (wd46 hw)) (mvT hZ (wd47 hw)) (mvT hZ (wd3 hw)) (mvT hZ (wd48 hw)) (by decide) (backOf (W := 0) (rm7 l Z a0 hw [] (0 : Int32) p5 p4 p2 h7 n0 Z0) hZ (wd48 hw) (wd3 hw) (by decide) (by decide)) (g := (mkF m 112 #[.val (.int p1), .val (.int p2), .val (.int p3), .val (.int p4), .val (.int p5), .val (.int p6), .val (.int 1), .val (.int 1), .val (.int 0), .val (.ref x1_1_0_2), .val (.ref x1_1_0_3), .val (.ref b4), .val (.int 1), .val (.int 1), .unset] [(.int p2), (.int p4), (.int p5), (.int 0)])) rfl (by rw [hml]; rfl) (argsL := [(.int (0 : Int32)), (.int p5), (.int p4), (.int p2)]) (rest := []) (lenOf pd4 rfl) rfl (by show 2 * 0 + _ ≤ _; exact Nat.le_of_eq rfl) (hb hby at_112) (fun _ _ => ⟨rfl, e7, (by decide : 4 + 0 ≤ _), (by decide : 12 + 0 ≤ _)⟩)
        dsimp only [Pt.U, Pt.locs, Pt.cells, Pt.slots] at X12 l12 y12 z12 st12 hQ12
        subst l12 y12 z12
        refine Go.st st12 ?_
        obtain ⟨rfl, N12q, e12⟩ := hQ12
        have N12 := Fr.app N7 N12q
        show Go _ _ _ (T12.setTop (mkF m 115 #[.val (.int p1), .val (.int p2), .val (.int p3), .val (.int p4), .val (.int p5), .val (.int p6), .val (.int 1), .val (.int 1), .val (.int 0), .val (.ref x1_1_0_2), .val (.ref x1_1_0_3), .val (.ref b4), .val (.int 1), .val (.int 1), .unset] [(.int (f7 (0 : Int32) p5 p4 p2))])) _
        rw [show (f7 (0 : Int32) p5 p4 p2) = p5 from by unfold f7; simp only [if_pos (by decide : (0 : Int32) = (0 : Int32)), if_true, if_false]]
        show Go _ _ _ (T12.setTop (mkF m 115 #[.val (.int p1), .val (.int p2), .val (.int p3), .val (.int p4), .val (.int p5), .val (.int p6), .val (.int 1), .val (.int 1), .val (.int 0), .val (.ref x1_1_0_2), .val (.ref x1_1_0_3), .val (.ref b4), .val (.int 1), .val (.int 1), .unset] [(.int p5)])) _
        refine Go.st (fun t k => XS.istore X12.here hx rfl (hb hby at_115) rfl (l' := #[.val (.int p1), .val (.int p2), .val (.int p3), .val (.int p4), .val (.int p5), .val (.int p6), .val (.int 1), .val (.int 1), .val (.int 0), .val (.ref x1_1_0_2), .val (.ref x1_1_0_3), .val (.ref b4), .val (.int 1), .val (.int 1), .val (.int p5)]) rfl k) ?_
        refine Go.st (fun t k => XS.aload X12.here hx rfl (hb hby at_117) rfl rfl k) ?_
        refine Go.st (fun t k => XS.iload X12.here hx rfl (hb hby at_119) rfl k) ?_
        refine Go.st (fun t k => XS.iload X12.here hx rfl (hb hby at_121) rfl k) ?_
        obtain ⟨cq13, kq13, q13a, q13b, q13c⟩ := isOf hZ e12 E_b4
        obtain ⟨_, _, ⟨T13, L13, k13, n13⟩, -, X13, ⟨Lc13, hQ13, l13, y13, z13⟩, st13⟩ := X12.virtualBack hx (y := (⟨"com/example/bitlattice/bitlattice/eval/Relation", "get", "(II)I"⟩ : MethodName)) (z := (⟨"com/example/bitlattice/bitlattice/eval/Relation", "get", "(II)I"⟩ : MethodName)) hown (mvT hZ (wd49 hw)) (mvT hZ (wd50 hw)) (notFace_of_selects (args := #[]) (mvT hZ (wd52 hw))) (mvT hZ (wd52 hw)) (mvT hZ (wd51 hw)) (by decide) (backOf (W := 0) (rm8 l Z a0 hw [] b4 (1 : Int32) (0 : Int32) (1 : Int32) x2_1_0_5 k_x2_1_0_5 [(.int p2), (.int p5), (.int (0 : Int32)), (.int (0 : Int32))] (4 : Int32) p5 h7 n0 Z0 F_b4_values F_b4_arity V_x2_1_0_5 (by decide) rfl) hZ (wd53 hw) (wd8 hw) (by decide) (by decide)) q13a q13c (g := (mkF m 123 #[.val (.int p1), .val (.int p2), .val (.int p3), .val (.int p4), .val (.int p5), .val (.int p6), .val (.int 1), .val (.int 1), .val (.int 0), .val (.ref x1_1_0_2), .val (.ref x1_1_0_3), .val (.ref b4), .val (.int 1), .val (.int 1), .val (.int p5)] [(.int 0), (.int 1), (.ref b4)])) rfl (by rw [hml]; rfl) (Steps.refl _) (argsL := [(.int (1 : Int32)), (.int (0 : Int32))]) (rest := []) (lenOf pd5 rfl) rfl (by show 2 * 0 + _ ≤ _; exact Nat.le_of_eq rfl) (hb hby at_123) (fun _ _ => ⟨rfl, e12, (by decide : 4 + 0 ≤ _), (by decide : 12 + 0 ≤ _)⟩)
        dsimp only [Pt.U, Pt.locs, Pt.cells, Pt.slots] at X13 l13 y13 z13 st13 hQ13
        subst l13 y13 z13
        refine Go.tr st13 ?_
        obtain ⟨rfl, N13q, e13⟩ := hQ13
        have N13 := Fr.app N12 N13q
        show Go _ _ _ (T13.setTop (mkF m 126 #[.val (.int p1), .val (.int p2), .val (.int p3), .val (.int p4), .val (.int p5), .val (.int p6), .val (.int 1), .val (.int 1), .val (.int 0), .val (.ref x1_1_0_2), .val (.ref x1_1_0_3), .val (.ref b4), .val (.int 1), .val (.int 1), .val (.int p5)] [(.int p5)])) _
        refine Go.st (fun t k => XS.iload X13.here hx rfl (hb hby at_126) rfl k) ?_
        refine Go.st (fun t k => XS.icmpNo X13.here hx rfl (hb hby at_128) rfl (teq (rfl : p5 = p5)).2 k) ?_
        show Go _ _ _ (T13.setTop (mkF m 131 #[.val (.int p1), .val (.int p2), .val (.int p3), .val (.int p4), .val (.int p5), .val (.int p6), .val (.int 1), .val (.int 1), .val (.int 0), .val (.ref x1_1_0_2), .val (.ref x1_1_0_3), .val (.ref b4), .val (.int 1), .val (.int 1), .val (.int p5)] [])) _
        refine Go.st (fun t k => XS.iconst X13.here hx rfl (hb hby at_131) k) ?_
        refine Go.st (fun t k => XS.goto X13.here hx rfl (pc0 := 132) (pc' := 136) rfl (hb hby at_132) (by decide) (by decide) k) ?_
        obtain ⟨fs, hr, hrun, hended, hW, hsame⟩ := X13.leave (v := some (.int (1 : Int32))) (fun h => by rw [Bd.returns] at h; cases h)
        refine Go.fin (retN X13 hx (t := .boolean) Bd.returns (by simp) (hb hby at_136) hr) hrun hended ⟨_, _, rfl, ?_, ⟨_, rfl⟩, hW, hsame.mono (by decide) (by decide)⟩
        show Q0 Z p1 p2 p3 p4 p5 p6 w_NI k_NI h0 n0 _ T13.heap _
        rw [e13]
        exact ⟨rfl, N13⟩
    · rw [show (f4_1_1 p2 p5) = (0 : Int32) from by unfold f4_1_1; simp only [if_neg hc8, if_true, if_false]]
      rw [show (f4_1_1_a1_size p2 p5) = (1 : Int32) from by unfold f4_1_1_a1_size; simp only [if_neg hc8, if_true, if_false]] at F_b4_size
      replace V_x2_1_0_5 : Arv Z h7 x2_1_0_5 k_x2_1_0_5 .int (4 : Int32) [(.int p2), (.int (0 : Int32)), (.int (0 : Int32)), (.int (0 : Int32))] (.int (0 : Int32)) := (by have hq := V_x2_1_0_5; unfold f4_1_1_vals_1 at hq; simp only [if_neg hc8] at hq; exact hq)
      show Go _ _ _ (T7.setTop (mkF m 75 #[.val (.int p1), .val (.int p2), .val (.int p3), .val (.int p4), .val (.int p5), .val (.int p6), .val (.int 1), .val (.int (p6 &&& (1 : Int32))), .val (.int ((((p6.toUInt32 >>> ((1 : Int32) &&& 31).toUInt32).toInt32) &&& (2147483647 : Int32)) % (1 : Int32))), .val (.ref x1_1_0_2), .val (.ref x1_1_0_3), .val (.ref b4), .unset, .unset, .unset] [(.int 0)])) _
      refine Go.st (fun t k => XS.istore X7.here hx rfl (hb hby at_75) rfl (l' := #[.val (.int p1), .val (.int p2), .val (.int p3), .val (.int p4), .val (.int p5), .val (.int p6), .val (.int 1), .val (.int (p6 &&& (1 : Int32))), .val (.int ((((p6.toUInt32 >>> ((1 : Int32) &&& 31).toUInt32).toInt32) &&& (2147483647 : Int32)) % (1 : Int32))), .val (.ref x1_1_0_2), .val (.ref x1_1_0_3), .val (.ref b4), .val (.int 0), .unset, .unset]) rfl k) ?_
      show Go _ _ _ (T7.setTop (mkF m 77 #[.val (.int p1), .val (.int p2), .val (.int p3), .val (.int p4), .val (.int p5), .val (.int p6), .val (.int 1), .val (.int (p6 &&& (1 : Int32))), .val (.int ((((p6.toUInt32 >>> ((1 : Int32) &&& 31).toUInt32).toInt32) &&& (2147483647 : Int32)) % (1 : Int32))), .val (.ref x1_1_0_2), .val (.ref x1_1_0_3), .val (.ref b4), .val (.int 0), .unset, .unset] [])) _
      rw [own_m1 ((p6.toUInt32 >>> ((1 : Int32) &&& 31).toUInt32).toInt32)]
      show Go _ _ _ (T7.setTop (mkF m 77 #[.val (.int p1), .val (.int p2), .val (.int p3), .val (.int p4), .val (.int p5), .val (.int p6), .val (.int 1), .val (.int (p6 &&& (1 : Int32))), .val (.int 0), .val (.ref x1_1_0_2), .val (.ref x1_1_0_3), .val (.ref b4), .val (.int 0), .unset, .unset] [])) _
      refine Go.st (fun t k => XS.iload X7.here hx rfl (hb hby at_77) rfl k) ?_
      refine Go.st (fun t k => XS.ifYes X7.here hx rfl (pc0 := 79) (pc' := 87) rfl (hb hby at_79) rfl ((if0 _ _).trans (teq (by decide : (0 : Int32) = (0 : Int32))).1) (by decide) (by decide) k) ?_
      show Go _ _ _ (T7.setTop (mkF m 87 #[.val (.int p1), .val (.int p2), .val (.int p3), .val (.int p4), .val (.int p5), .val (.int p6), .val (.int 1), .val (.int (p6 &&& (1 : Int32))), .val (.int 0), .val (.ref x1_1_0_2), .val (.ref x1_1_0_3), .val (.ref b4), .val (.int 0), .unset, .unset] [])) _
      refine Go.st (fun t k => XS.iconst X7.here hx rfl (hb hby at_87) k) ?_
      refine Go.st (fun t k => XS.istore X7.here hx rfl (hb hby at_88) rfl (l' := #[.val (.int p1), .val (.int p2), .val (.int p3), .val (.int p4), .val (.int p5), .val (.int p6), .val (.int 1), .val (.int (p6 &&& (1 : Int32))), .val (.int 0), .val (.ref x1_1_0_2), .val (.ref x1_1_0_3), .val (.ref b4), .val (.int 0), .val (.int 0), .unset]) rfl k) ?_
      refine Go.st (fun t k => XS.iload X7.here hx rfl (hb hby at_90) rfl k) ?_
      refine Go.st (fun t k => XS.ifNo X7.here hx rfl (hb hby at_92) rfl ((if0 _ _).trans (teq (by decide : (0 : Int32) = (0 : Int32))).2) k) ?_
      show Go _ _ _ (T7.setTop (mkF m 95 #[.val (.int p1), .val (.int p2), .val (.int p3), .val (.int p4), .val (.int p5), .val (.int p6), .val (.int 1), .val (.int (p6 &&& (1 : Int32))), .val (.int 0), .val (.ref x1_1_0_2), .val (.ref x1_1_0_3), .val (.ref b4), .val (.int 0), .val (.int 0), .unset] [])) _
      refine Go.st (fun t k => XS.iload X7.here hx rfl (hb hby at_95) rfl k) ?_
      refine Go.st (fun t k => XS.iloadN X7.here hx rfl (hb hby at_97) rfl k) ?_
      refine Go.st (fun t k => XS.iloadN X7.here hx rfl (hb hby at_98) rfl k) ?_
      refine Go.st (fun t k => XS.iloadN X7.here hx rfl (hb hby at_99) rfl k) ?_
      obtain ⟨_, _, ⟨T14, L14, k14, n14⟩, -, X14, ⟨Lc14, hQ14, l14, y14, z14⟩, st14⟩ := Jvm.LawKit.callS X7 hx (y := (⟨"com/example/bitlattice/bitlattice/eval/RelationGetPinLaw", "pick", "(IIII)I"⟩ : MethodName)) hown (mvT hZ (wd46 hw)) (mvT hZ (wd47 hw)) (mvT hZ (wd3 hw)) (mvT hZ (wd48 hw)) (by decide) (backOf (W := 0) (rm7 l Z a0 hw [] (0 : Int32) p2 p3 p4 h7 n0 Z0) hZ (wd48 hw) (wd3 hw) (by decide) (by decide)) (g := (mkF m 100 #[.val (.int p1), .val (.int p2), .val (.int p3), .val (.int p4), .val (.int p5), .val (.int p6), .val (.int 1), .val (.int (p6 &&& (1 : Int32))), .val (.int 0), .val (.ref x1_1_0_2), .val (.ref x1_1_0_3), .val (.ref b4), .val (.int 0), .val (.int 0), .unset] [(.int p4), (.int p3), (.int p2), (.int 0)])) rfl (by rw [hml]; rfl) (argsL := [(.int (0 : Int32)), (.int p2), (.int p3), (.int p4)]) (rest := []) (lenOf pd4 rfl) rfl (by show 2 * 0 + _ ≤ _; exact Nat.le_of_eq rfl) (hb hby at_100) (fun _ _ => ⟨rfl, e7, (by decide : 4 + 0 ≤ _), (by decide : 12 + 0 ≤ _)⟩)
      dsimp only [Pt.U, Pt.locs, Pt.cells, Pt.slots] at X14 l14 y14 z14 st14 hQ14
      subst l14 y14 z14
      refine Go.st st14 ?_
      obtain ⟨rfl, N14q, e14⟩ := hQ14
      have N14 := Fr.app N7 N14q
      show Go _ _ _ (T14.setTop (mkF m 103 #[.val (.int p1), .val (.int p2), .val (.int p3), .val (.int p4), .val (.int p5), .val (.int p6), .val (.int 1), .val (.int (p6 &&& (1 : Int32))), .val (.int 0), .val (.ref x1_1_0_2), .val (.ref x1_1_0_3), .val (.ref b4), .val (.int 0), .val (.int 0), .unset] [(.int (f7 (0 : Int32) p2 p3 p4))])) _
      rw [show (f7 (0 : Int32) p2 p3 p4) = p2 from by unfold f7; simp only [if_pos (by decide : (0 : Int32) = (0 : Int32)), if_true, if_false]]
      show Go _ _ _ (T14.setTop (mkF m 103 #[.val (.int p1), .val (.int p2), .val (.int p3), .val (.int p4), .val (.int p5), .val (.int p6), .val (.int 1), .val (.int (p6 &&& (1 : Int32))), .val (.int 0), .val (.ref x1_1_0_2), .val (.ref x1_1_0_3), .val (.ref b4), .val (.int 0), .val (.int 0), .unset] [(.int p2)])) _
      refine Go.st (fun t k => XS.goto X14.here hx rfl (pc0 := 103) (pc' := 115) rfl (hb hby at_103) (by decide) (by decide) k) ?_
      refine Go.st (fun t k => XS.istore X14.here hx rfl (hb hby at_115) rfl (l' := #[.val (.int p1), .val (.int p2), .val (.int p3), .val (.int p4), .val (.int p5), .val (.int p6), .val (.int 1), .val (.int (p6 &&& (1 : Int32))), .val (.int 0), .val (.ref x1_1_0_2), .val (.ref x1_1_0_3), .val (.ref b4), .val (.int 0), .val (.int 0), .val (.int p2)]) rfl k) ?_
      refine Go.st (fun t k => XS.aload X14.here hx rfl (hb hby at_117) rfl rfl k) ?_
      refine Go.st (fun t k => XS.iload X14.here hx rfl (hb hby at_119) rfl k) ?_
      refine Go.st (fun t k => XS.iload X14.here hx rfl (hb hby at_121) rfl k) ?_
      obtain ⟨cq15, kq15, q15a, q15b, q15c⟩ := isOf hZ e14 E_b4
      obtain ⟨_, _, ⟨T15, L15, k15, n15⟩, -, X15, ⟨Lc15, hQ15, l15, y15, z15⟩, st15⟩ := X14.virtualBack hx (y := (⟨"com/example/bitlattice/bitlattice/eval/Relation", "get", "(II)I"⟩ : MethodName)) (z := (⟨"com/example/bitlattice/bitlattice/eval/Relation", "get", "(II)I"⟩ : MethodName)) hown (mvT hZ (wd49 hw)) (mvT hZ (wd50 hw)) (notFace_of_selects (args := #[]) (mvT hZ (wd52 hw))) (mvT hZ (wd52 hw)) (mvT hZ (wd51 hw)) (by decide) (backOf (W := 0) (rm8 l Z a0 hw [] b4 (0 : Int32) (0 : Int32) (1 : Int32) x2_1_0_5 k_x2_1_0_5 [(.int p2), (.int (0 : Int32)), (.int (0 : Int32)), (.int (0 : Int32))] (4 : Int32) p2 h7 n0 Z0 F_b4_values F_b4_arity V_x2_1_0_5 (by decide) rfl) hZ (wd53 hw) (wd8 hw) (by decide) (by decide)) q15a q15c (g := (mkF m 123 #[.val (.int p1), .val (.int p2), .val (.int p3), .val (.int p4), .val (.int p5), .val (.int p6), .val (.int 1), .val (.int (p6 &&& (1 : Int32))), .val (.int 0), .val (.ref x1_1_0_2), .val (.ref x1_1_0_3), .val (.ref b4), .val (.int 0), .val (.int 0), .val (.int p2)] [(.int 0), (.int 0), (.ref b4)])) rfl (by rw [hml]; rfl) (Steps.refl _) (argsL := [(.int (0 : Int32)), (.int (0 : Int32))]) (rest := []) (lenOf pd5 rfl) rfl (by show 2 * 0 + _ ≤ _; exact Nat.le_of_eq rfl) (hb hby at_123) (fun _ _ => ⟨rfl, e14, (by decide : 4 + 0 ≤ _), (by decide : 12 + 0 ≤ _)⟩)
      dsimp only [Pt.U, Pt.locs, Pt.cells, Pt.slots] at X15 l15 y15 z15 st15 hQ15
      subst l15 y15 z15
      refine Go.tr st15 ?_
      obtain ⟨rfl, N15q, e15⟩ := hQ15
      have N15 := Fr.app N14 N15q
      show Go _ _ _ (T15.setTop (mkF m 126 #[.val (.int p1), .val (.int p2), .val (.int p3), .val (.int p4), .val (.int p5), .val (.int p6), .val (.int 1), .val (.int (p6 &&& (1 : Int32))), .val (.int 0), .val (.ref x1_1_0_2), .val (.ref x1_1_0_3), .val (.ref b4), .val (.int 0), .val (.int 0), .val (.int p2)] [(.int p2)])) _
      refine Go.st (fun t k => XS.iload X15.here hx rfl (hb hby at_126) rfl k) ?_
      refine Go.st (fun t k => XS.icmpNo X15.here hx rfl (hb hby at_128) rfl (teq (rfl : p2 = p2)).2 k) ?_
      show Go _ _ _ (T15.setTop (mkF m 131 #[.val (.int p1), .val (.int p2), .val (.int p3), .val (.int p4), .val (.int p5), .val (.int p6), .val (.int 1), .val (.int (p6 &&& (1 : Int32))), .val (.int 0), .val (.ref x1_1_0_2), .val (.ref x1_1_0_3), .val (.ref b4), .val (.int 0), .val (.int 0), .val (.int p2)] [])) _
      refine Go.st (fun t k => XS.iconst X15.here hx rfl (hb hby at_131) k) ?_
      refine Go.st (fun t k => XS.goto X15.here hx rfl (pc0 := 132) (pc' := 136) rfl (hb hby at_132) (by decide) (by decide) k) ?_
      obtain ⟨fs, hr, hrun, hended, hW, hsame⟩ := X15.leave (v := some (.int (1 : Int32))) (fun h => by rw [Bd.returns] at h; cases h)
      refine Go.fin (retN X15 hx (t := .boolean) Bd.returns (by simp) (hb hby at_136) hr) hrun hended ⟨_, _, rfl, ?_, ⟨_, rfl⟩, hW, hsame.mono (by decide) (by decide)⟩
      show Q0 Z p1 p2 p3 p4 p5 p6 w_NI k_NI h0 n0 _ T15.heap _
      rw [e15]
      exact ⟨rfl, N15⟩
  · by_cases hc16 : ((p1 &&& (2147483647 : Int32)) % (3 : Int32)) = (1 : Int32)
    · rw [show ((1 : Int32) + ((p1 &&& (2147483647 : Int32)) % (3 : Int32))) = (2 : Int32) from by rw [hc16]; decide]
      show Go _ _ _ (s₁.setTop (mkF m 10 #[.val (.int p1), .val (.int p2), .val (.int p3), .val (.int p4), .val (.int p5), .val (.int p6), .val (.int 2), .unset, .unset, .unset, .unset, .unset, .unset, .unset, .unset] [])) _
      refine Go.st (fun t k => XS.iload X0.here hx rfl (hb hby at_10) rfl k) ?_
      refine Go.st (fun t k => XS.iconst X0.here hx rfl (hb hby at_12) k) ?_
      refine Go.st (fun t k => XS.iand X0.here hx rfl (hb hby at_13) rfl k) ?_
      show Go _ _ _ (s₁.setTop (mkF m 14 #[.val (.int p1), .val (.int p2), .val (.int p3), .val (.int p4), .val (.int p5), .val (.int p6), .val (.int 2), .unset, .unset, .unset, .unset, .unset, .unset, .unset, .unset] [(.int (p6 &&& (1 : Int32)))])) _
      refine Go.st (fun t k => XS.istore X0.here hx rfl (hb hby at_14) rfl (l' := #[.val (.int p1), .val (.int p2), .val (.int p3), .val (.int p4), .val (.int p5), .val (.int p6), .val (.int 2), .val (.int (p6 &&& (1 : Int32))), .unset, .unset, .unset, .unset, .unset, .unset, .unset]) rfl k) ?_
      refine Go.st (fun t k => XS.iload X0.here hx rfl (hb hby at_16) rfl k) ?_
      refine Go.st (fun t k => XS.iconst X0.here hx rfl (hb hby at_18) k) ?_
      refine Go.st (fun t k => XS.iushr X0.here hx rfl (hb hby at_19) rfl k) ?_
      show Go _ _ _ (s₁.setTop (mkF m 20 #[.val (.int p1), .val (.int p2), .val (.int p3), .val (.int p4), .val (.int p5), .val (.int p6), .val (.int 2), .val (.int (p6 &&& (1 : Int32))), .unset, .unset, .unset, .unset, .unset, .unset, .unset] [(.int ((p6.toUInt32 >>> ((1 : Int32) &&& 31).toUInt32).toInt32))])) _
      refine Go.st (fun t k => X0.ldcInt hx hown (mvT hZ (wd0 hw)) (g := (mkF m 20 #[.val (.int p1), .val (.int p2), .val (.int p3), .val (.int p4), .val (.int p5), .val (.int p6), .val (.int 2), .val (.int (p6 &&& (1 : Int32))), .unset, .unset, .unset, .unset, .unset, .unset, .unset] [(.int ((p6.toUInt32 >>> ((1 : Int32) &&& 31).toUInt32).toInt32))])) rfl (hb hby at_20) _ k) ?_
      show Go _ _ _ (s₁.setTop (mkF m 22 #[.val (.int p1), .val (.int p2), .val (.int p3), .val (.int p4), .val (.int p5), .val (.int p6), .val (.int 2), .val (.int (p6 &&& (1 : Int32))), .unset, .unset, .unset, .unset, .unset, .unset, .unset] [(.int 2147483647), (.int ((p6.toUInt32 >>> ((1 : Int32) &&& 31).toUInt32).toInt32))])) _
      refine Go.st (fun t k => XS.iand X0.here hx rfl (hb hby at_22) rfl k) ?_
      show Go _ _ _ (s₁.setTop (mkF m 23 #[.val (.int p1), .val (.int p2), .val (.int p3), .val (.int p4), .val (.int p5), .val (.int p6), .val (.int 2), .val (.int (p6 &&& (1 : Int32))), .unset, .unset, .unset, .unset, .unset, .unset, .unset] [(.int (((p6.toUInt32 >>> ((1 : Int32) &&& 31).toUInt32).toInt32) &&& (2147483647 : Int32)))])) _
      refine Go.st (fun t k => XS.iload X0.here hx rfl (hb hby at_23) rfl k) ?_
      refine Go.st (fun t k => iremM X0 hx rfl (hb hby at_25) rfl (by decide) k) ?_
      show Go _ _ _ (s₁.setTop (mkF m 26 #[.val (.int p1), .val (.int p2), .val (.int p3), .val (.int p4), .val (.int p5), .val (.int p6), .val (.int 2), .val (.int (p6 &&& (1 : Int32))), .unset, .unset, .unset, .unset, .unset, .unset, .unset] [(.int ((((p6.toUInt32 >>> ((1 : Int32) &&& 31).toUInt32).toInt32) &&& (2147483647 : Int32)) % (2 : Int32)))])) _
      refine Go.st (fun t k => XS.istore X0.here hx rfl (hb hby at_26) rfl (l' := #[.val (.int p1), .val (.int p2), .val (.int p3), .val (.int p4), .val (.int p5), .val (.int p6), .val (.int 2), .val (.int (p6 &&& (1 : Int32))), .val (.int ((((p6.toUInt32 >>> ((1 : Int32) &&& 31).toUInt32).toInt32) &&& (2147483647 : Int32)) % (2 : Int32))), .unset, .unset, .unset, .unset, .unset, .unset]) rfl k) ?_
      refine Go.st (fun t k => XS.iload X0.here hx rfl (hb hby at_28) rfl k) ?_
      refine Go.st (fun t k => XS.iloadN X0.here hx rfl (hb hby at_30) rfl k) ?_
      refine Go.st (fun t k => XS.iloadN X0.here hx rfl (hb hby at_31) rfl k) ?_
      refine Go.st (fun t k => XS.iloadN X0.here hx rfl (hb hby at_32) rfl k) ?_
      obtain ⟨_, _, ⟨T17, L17, k17, n17⟩, -, X17, ⟨Lc17, hQ17, l17, y17, z17⟩, st17⟩ := Jvm.LawKit.callS X0 hx (y := (⟨"com/example/bitlattice/bitlattice/eval/RelationGetPinLaw", "rowOf", "(IIII)[I"⟩ : MethodName)) hown (mvT hZ (wd1 hw)) (mvT hZ (wd2 hw)) (mvT hZ (wd3 hw)) (mvT hZ (wd4 hw)) (by decide) (backOf (W := 0) (rm1_2 l Z a0 hw [] p2 p3 p4 h0 n0 Z0) hZ (wd4 hw) (wd3 hw) (by decide) (by decide)) (g := (mkF m 33 #[.val (.int p1), .val (.int p2), .val (.int p3), .val (.int p4), .val (.int p5), .val (.int p6), .val (.int 2), .val (.int (p6 &&& (1 : Int32))), .val (.int ((((p6.toUInt32 >>> ((1 : Int32) &&& 31).toUInt32).toInt32) &&& (2147483647 : Int32)) % (2 : Int32))), .unset, .unset, .unset, .unset, .unset, .unset] [(.int p4), (.int p3), (.int p2), (.int 2)])) rfl (by rw [hml]; rfl) (argsL := [(.int (2 : Int32)), (.int p2), (.int p3), (.int p4)]) (rest := []) (lenOf pd2 rfl) rfl (by show 2 * 0 + _ ≤ _; exact Nat.le_of_eq rfl) (hb hby at_33) (fun _ _ => ⟨rfl, e0, (by decide : 0 + 1 ≤ _), (by decide : 0 + 2 ≤ _)⟩)
      dsimp only [Pt.U, Pt.locs, Pt.cells, Pt.slots] at X17 l17 y17 z17 st17 hQ17
      subst l17 y17 z17
      obtain ⟨h17, e17⟩ : ∃ z, T17.heap = z := ⟨_, rfl⟩
      rw [e17] at hQ17
      obtain ⟨x1_2_0_17, k_x1_2_0_17, rfl, N17q, K17, ng_x1_2_0_17, sz0_x1_2_0_17, Q17_0⟩ := hQ17
      refine Go.st st17 ?_
      have ne_w_NI_x1_2_0_17 : w_NI ≠ x1_2_0_17 := Nat.ne_of_lt (Nat.lt_of_lt_of_le V_NI.lt sz0_x1_2_0_17)
      have g_x1_2_0_17 : n0 ≤ x1_2_0_17 := ng_x1_2_0_17
      have sz_x1_2_0_17 : h0.size ≤ x1_2_0_17 := Nat.le_trans K0.1 sz0_x1_2_0_17
      replace V_NI := V_NI.keep K17 nin0
      replace S_NI := sta_keep S_NI K17 all0
      replace Z0 := Nat.le_trans Z0 K17.1
      replace K0 := K0.trans K17 all0
      have V_x1_2_0_17 := Q17_0
      have N17 := Fr.app N0 N17q
      show Go _ _ _ (T17.setTop (mkF m 36 #[.val (.int p1), .val (.int p2), .val (.int p3), .val (.int p4), .val (.int p5), .val (.int p6), .val (.int 2), .val (.int (p6 &&& (1 : Int32))), .val (.int ((((p6.toUInt32 >>> ((1 : Int32) &&& 31).toUInt32).toInt32) &&& (2147483647 : Int32)) % (2 : Int32))), .unset, .unset, .unset, .unset, .unset, .unset] [(.ref x1_2_0_17)])) _
      refine Go.st (fun t k => XS.astore X17.here hx rfl (hb hby at_36) rfl rfl (l' := #[.val (.int p1), .val (.int p2), .val (.int p3), .val (.int p4), .val (.int p5), .val (.int p6), .val (.int 2), .val (.int (p6 &&& (1 : Int32))), .val (.int ((((p6.toUInt32 >>> ((1 : Int32) &&& 31).toUInt32).toInt32) &&& (2147483647 : Int32)) % (2 : Int32))), .val (.ref x1_2_0_17), .unset, .unset, .unset, .unset, .unset]) rfl k) ?_
      refine Go.st (fun t k => XS.iload X17.here hx rfl (hb hby at_38) rfl k) ?_
      refine Go.st (fun t k => XS.iload X17.here hx rfl (hb hby at_40) rfl k) ?_
      refine Go.st (fun t k => XS.iloadN X17.here hx rfl (hb hby at_42) rfl k) ?_
      refine Go.st (fun t k => XS.iloadN X17.here hx rfl (hb hby at_43) rfl k) ?_
      obtain ⟨_, _, ⟨T18, L18, k18, n18⟩, -, X18, ⟨Lc18, hQ18, l18, y18, z18⟩, st18⟩ := Jvm.LawKit.callS X17 hx (y := (⟨"com/example/bitlattice/bitlattice/eval/RelationGetPinLaw", "rowOf", "(IIII)[I"⟩ : MethodName)) hown (mvT hZ (wd1 hw)) (mvT hZ (wd2 hw)) (mvT hZ (wd3 hw)) (mvT hZ (wd4 hw)) (by decide) (backOf (W := 0) (rm1_2 l Z a0 hw [] p5 p4 p2 h17 n0 Z0) hZ (wd4 hw) (wd3 hw) (by decide) (by decide)) (g := (mkF m 44 #[.val (.int p1), .val (.int p2), .val (.int p3), .val (.int p4), .val (.int p5), .val (.int p6), .val (.int 2), .val (.int (p6 &&& (1 : Int32))), .val (.int ((((p6.toUInt32 >>> ((1 : Int32) &&& 31).toUInt32).toInt32) &&& (2147483647 : Int32)) % (2 : Int32))), .val (.ref x1_2_0_17), .unset, .unset, .unset, .unset, .unset] [(.int p2), (.int p4), (.int p5), (.int 2)])) rfl (by rw [hml]; rfl) (argsL := [(.int (2 : Int32)), (.int p5), (.int p4), (.int p2)]) (rest := []) (lenOf pd2 rfl) rfl (by show 2 * 0 + _ ≤ _; exact Nat.le_of_eq rfl) (hb hby at_44) (fun _ _ => ⟨rfl, e17, (by decide : 1 + 1 ≤ _), (by decide : 2 + 2 ≤ _)⟩)
      dsimp only [Pt.U, Pt.locs, Pt.cells, Pt.slots] at X18 l18 y18 z18 st18 hQ18
      subst l18 y18 z18
      obtain ⟨h18, e18⟩ : ∃ z, T18.heap = z := ⟨_, rfl⟩
      rw [e18] at hQ18
      obtain ⟨x1_2_0_18, k_x1_2_0_18, rfl, N18q, K18, ng_x1_2_0_18, sz0_x1_2_0_18, Q18_0⟩ := hQ18
      refine Go.st st18 ?_
      have ne_w_NI_x1_2_0_18 : w_NI ≠ x1_2_0_18 := Nat.ne_of_lt (Nat.lt_of_lt_of_le V_NI.lt sz0_x1_2_0_18)
      have ne_x1_2_0_17_x1_2_0_18 : x1_2_0_17 ≠ x1_2_0_18 := Nat.ne_of_lt (Nat.lt_of_lt_of_le V_x1_2_0_17.lt sz0_x1_2_0_18)
      have g_x1_2_0_18 : n0 ≤ x1_2_0_18 := ng_x1_2_0_18
      have sz_x1_2_0_18 : h0.size ≤ x1_2_0_18 := Nat.le_trans K0.1 sz0_x1_2_0_18
      replace V_NI := V_NI.keep K18 nin0
      replace S_NI := sta_keep S_NI K18 all0
      replace V_x1_2_0_17 := V_x1_2_0_17.keep K18 nin0
      replace Z0 := Nat.le_trans Z0 K18.1
      replace K0 := K0.trans K18 all0
      have V_x1_2_0_18 := Q18_0
      have N18 := Fr.app N17 N18q
      show Go _ _ _ (T18.setTop (mkF m 47 #[.val (.int p1), .val (.int p2), .val (.int p3), .val (.int p4), .val (.int p5), .val (.int p6), .val (.int 2), .val (.int (p6 &&& (1 : Int32))), .val (.int ((((p6.toUInt32 >>> ((1 : Int32) &&& 31).toUInt32).toInt32) &&& (2147483647 : Int32)) % (2 : Int32))), .val (.ref x1_2_0_17), .unset, .unset, .unset, .unset, .unset] [(.ref x1_2_0_18)])) _
      refine Go.st (fun t k => XS.astore X18.here hx rfl (hb hby at_47) rfl rfl (l' := #[.val (.int p1), .val (.int p2), .val (.int p3), .val (.int p4), .val (.int p5), .val (.int p6), .val (.int 2), .val (.int (p6 &&& (1 : Int32))), .val (.int ((((p6.toUInt32 >>> ((1 : Int32) &&& 31).toUInt32).toInt32) &&& (2147483647 : Int32)) % (2 : Int32))), .val (.ref x1_2_0_17), .val (.ref x1_2_0_18), .unset, .unset, .unset, .unset]) rfl k) ?_
      obtain ⟨T19, h19, X19, e19, E19, A19, D19, -, st19⟩ := newO X18 hx hZ hown (wd6 hw) (wd7 hw) (wd8 hw) e18 (g := (mkF m 49 #[.val (.int p1), .val (.int p2), .val (.int p3), .val (.int p4), .val (.int p5), .val (.int p6), .val (.int 2), .val (.int (p6 &&& (1 : Int32))), .val (.int ((((p6.toUInt32 >>> ((1 : Int32) &&& 31).toUInt32).toInt32) &&& (2147483647 : Int32)) % (2 : Int32))), .val (.ref x1_2_0_17), .val (.ref x1_2_0_18), .unset, .unset, .unset, .unset] [])) rfl (hb hby at_49) (by decide) (by decide)
      obtain ⟨b19, g19⟩ : ∃ z, z = h18.size := ⟨_, rfl⟩
      rw [← g19] at A19 D19 st19
      refine Go.st st19 ?_
      have ne_w_NI_b19 : w_NI ≠ b19 := Nat.ne_of_lt (Nat.lt_of_lt_of_le V_NI.lt (Nat.le_of_eq g19.symm))
      have ne_x1_2_0_17_b19 : x1_2_0_17 ≠ b19 := Nat.ne_of_lt (Nat.lt_of_lt_of_le V_x1_2_0_17.lt (Nat.le_of_eq g19.symm))
      have ne_x1_2_0_18_b19 : x1_2_0_18 ≠ b19 := Nat.ne_of_lt (Nat.lt_of_lt_of_le V_x1_2_0_18.lt (Nat.le_of_eq g19.symm))
      have g_b19 : n0 ≤ b19 := Nat.le_trans Z0 (Nat.le_of_eq g19.symm)
      have sz_b19 : h0.size ≤ b19 := Nat.le_trans K0.1 (Nat.le_of_eq g19.symm)
      replace V_NI := V_NI.ext E19
      replace S_NI := S_NI.ext E19
      replace V_x1_2_0_17 := V_x1_2_0_17.ext E19
      replace V_x1_2_0_18 := V_x1_2_0_18.ext E19
      replace K0 := K0.ext E19
      replace Z0 := Nat.le_trans Z0 E19.1
      have E_b19 := A19
      have F_b19_indexes : Fld Z h19 b19 "com/example/bitlattice/bitlattice/eval/Relation" "indexes" "[Lcom/example/bitlattice/bitlattice/eval/Relation$Index;" .null := D19 (Or.inl (wd18 hw)) (ty := (.array (.object "com/example/bitlattice/bitlattice/eval/Relation$Index"))) (by decide)
      have F_b19_arity : Fld Z h19 b19 "com/example/bitlattice/bitlattice/eval/Relation" "arity" "I" (.int (0 : Int32)) := D19 (Or.inr (wd20 hw)) (ty := .int) (by decide)
      have F_b19_values : Fld Z h19 b19 "com/example/bitlattice/bitlattice/eval/Relation" "values" "[I" .null := D19 (Or.inl (wd22 hw)) (ty := (.array .int)) (by decide)
      have F_b19_members : Fld Z h19 b19 "com/example/bitlattice/bitlattice/eval/Relation" "members" "Lcom/example/bitlattice/bitlattice/eval/Relation$Index;" .null := D19 (Or.inl (wd29 hw)) (ty := (.object "com/example/bitlattice/bitlattice/eval/Relation$Index")) (by decide)
      have F_b19_size : Fld Z h19 b19 "com/example/bitlattice/bitlattice/eval/Relation" "size" "I" (.int (0 : Int32)) := D19 (Or.inl (wd36 hw)) (ty := .int) (by decide)
      have F_b19_holdingAny : Fld Z h19 b19 "com/example/bitlattice/bitlattice/eval/Relation" "holdingAny" "I" (.int (0 : Int32)) := D19 (Or.inl (wd55 hw)) (ty := .int) (by decide)
      show Go _ _ _ (T19.setTop (mkF m 52 #[.val (.int p1), .val (.int p2), .val (.int p3), .val (.int p4), .val (.int p5), .val (.int p6), .val (.int 2), .val (.int (p6 &&& (1 : Int32))), .val (.int ((((p6.toUInt32 >>> ((1 : Int32) &&& 31).toUInt32).toInt32) &&& (2147483647 : Int32)) % (2 : Int32))), .val (.ref x1_2_0_17), .val (.ref x1_2_0_18), .unset, .unset, .unset, .unset] [(.ref b19)])) _
      refine Go.st (fun t k => XS.dup X19.here hx rfl (hb hby at_52) rfl rfl k) ?_
      refine Go.st (fun t k => XS.iload X19.here hx rfl (hb hby at_53) rfl k) ?_
      obtain ⟨_, _, ⟨T20, L20, k20, n20⟩, -, X20, ⟨Lc20, hQ20, l20, y20, z20⟩, st20⟩ := X19.specialBack hx (y := (⟨"com/example/bitlattice/bitlattice/eval/Relation", "<init>", "(I)V"⟩ : MethodName)) rfl hown (mvT hZ (wd9 hw)) (mvT hZ (wd10 hw)) (mvT hZ (wd11 hw)) (by decide) (backOf (W := 1) (rm2_2 l Z a0 hw [] b19 w_NI (.null : Value) (.null : Value) ((.int (0 : Int32)) : Value) h19 n0 Z0 E_b19 S_NI F_b19_size F_b19_members F_b19_holdingAny F_b19_indexes F_b19_values F_b19_arity g_b19) hZ (wd11 hw) (wd8 hw) (by decide) (by decide)) (g := (mkF m 55 #[.val (.int p1), .val (.int p2), .val (.int p3), .val (.int p4), .val (.int p5), .val (.int p6), .val (.int 2), .val (.int (p6 &&& (1 : Int32))), .val (.int ((((p6.toUInt32 >>> ((1 : Int32) &&& 31).toUInt32).toInt32) &&& (2147483647 : Int32)) % (2 : Int32))), .val (.ref x1_2_0_17), .val (.ref x1_2_0_18), .unset, .unset, .unset, .unset] [(.int 2), (.ref b19), (.ref b19)])) rfl (by rw [hml]; rfl) (Steps.refl _) (a := b19) (argsL := [(.int (2 : Int32))]) (rest := [(.ref b19)]) (lenOf pd3 rfl) rfl (by show 2 * 0 + _ ≤ _; exact Nat.le_of_eq rfl) (hb hby at_55) (fun _ _ => ⟨rfl, e19, (by decide : 3 + 1 ≤ _), (by decide : 10 + 8 ≤ _)⟩)
      dsimp only [Pt.U, Pt.locs, Pt.cells, Pt.slots] at X20 l20 y20 z20 st20 hQ20
      subst l20 y20 z20
      have E_b19_pre := E_b19
      have F_b19_indexes_pre := F_b19_indexes
      have F_b19_arity_pre := F_b19_arity
      have F_b19_values_pre := F_b19_values
      have F_b19_members_pre := F_b19_members
      have F_b19_size_pre := F_b19_size
      have F_b19_holdingAny_pre := F_b19_holdingAny
      obtain ⟨h20, e20⟩ : ∃ z, T20.heap = z := ⟨_, rfl⟩
      rw [e20] at hQ20
      obtain ⟨x2_2_0_20, k_x2_2_0_20, rfl, N20q, K20, ng_x2_2_0_20, sz0_x2_2_0_20, Q20_0, Q20_1, Q20_2, Q20_3, Q20_4, Q20_5, Q20_6, Q20_7⟩ := hQ20
      refine Go.tr st20 ?_
      have ne_w_NI_x2_2_0_20 : w_NI ≠ x2_2_0_20 := Nat.ne_of_lt (Nat.lt_of_lt_of_le V_NI.lt sz0_x2_2_0_20)
      have ne_x1_2_0_17_x2_2_0_20 : x1_2_0_17 ≠ x2_2_0_20 := Nat.ne_of_lt (Nat.lt_of_lt_of_le V_x1_2_0_17.lt sz0_x2_2_0_20)
      have ne_x1_2_0_18_x2_2_0_20 : x1_2_0_18 ≠ x2_2_0_20 := Nat.ne_of_lt (Nat.lt_of_lt_of_le V_x1_2_0_18.lt sz0_x2_2_0_20)
      have ne_b19_x2_2_0_20 : b19 ≠ x2_2_0_20 := Nat.ne_of_lt (Nat.lt_of_lt_of_le E_b19.lt sz0_x2_2_0_20)
      have g_x2_2_0_20 : n0 ≤ x2_2_0_20 := ng_x2_2_0_20
      have sz_x2_2_0_20 : h0.size ≤ x2_2_0_20 := Nat.le_trans K0.1 sz0_x2_2_0_20
      replace V_NI := V_NI.keep K20 (ninS ne_w_NI_b19 nin0)
      replace S_NI := sta_keep S_NI K20 (allS (exa_ns E_b19_pre) all0)
      replace V_x1_2_0_17 := V_x1_2_0_17.keep K20 (ninS ne_x1_2_0_17_b19 nin0)
      replace V_x1_2_0_18 := V_x1_2_0_18.keep K20 (ninS ne_x1_2_0_18_b19 nin0)
      replace E_b19 := E_b19.keep K20
      replace Z0 := Nat.le_trans Z0 K20.1
      replace K0 := K0.trans K20 (allS (Or.inr sz_b19) all0)
      have E_b19 := Q20_0
      have F_b19_size := Q20_1
      have F_b19_members := Q20_2
      have F_b19_holdingAny := Q20_3
      have F_b19_indexes := Q20_4
      have F_b19_values := Q20_5
      have F_b19_arity := Q20_6
      have V_x2_2_0_20 := Q20_7
      have N20 := Fr.app N18 N20q
      show Go _ _ _ (T20.setTop (mkF m 58 #[.val (.int p1), .val (.int p2), .val (.int p3), .val (.int p4), .val (.int p5), .val (.int p6), .val (.int 2), .val (.int (p6 &&& (1 : Int32))), .val (.int ((((p6.toUInt32 >>> ((1 : Int32) &&& 31).toUInt32).toInt32) &&& (2147483647 : Int32)) % (2 : Int32))), .val (.ref x1_2_0_17), .val (.ref x1_2_0_18), .unset, .unset, .unset, .unset] [(.ref b19)])) _
      refine Go.st (fun t k => XS.astore X20.here hx rfl (hb hby at_58) rfl rfl (l' := #[.val (.int p1), .val (.int p2), .val (.int p3), .val (.int p4), .val (.int p5), .val (.int p6), .val (.int 2), .val (.int (p6 &&& (1 : Int32))), .val (.int ((((p6.toUInt32 >>> ((1 : Int32) &&& 31).toUInt32).toInt32) &&& (2147483647 : Int32)) % (2 : Int32))), .val (.ref x1_2_0_17), .val (.ref x1_2_0_18), .val (.ref b19), .unset, .unset, .unset]) rfl k) ?_
      refine Go.st (fun t k => XS.aload X20.here hx rfl (hb hby at_60) rfl rfl k) ?_
      refine Go.st (fun t k => XS.aload X20.here hx rfl (hb hby at_62) rfl rfl k) ?_
      obtain ⟨cq21, kq21, q21a, q21b, q21c⟩ := isOf hZ e20 E_b19
      obtain ⟨_, _, ⟨T21, L21, k21, n21⟩, -, X21, ⟨Lc21, hQ21, l21, y21, z21⟩, st21⟩ := X20.virtualBack hx (y := (⟨"com/example/bitlattice/bitlattice/eval/Relation", "add", "([I)Z"⟩ : MethodName)) (z := (⟨"com/example/bitlattice/bitlattice/eval/Relation", "add", "([I)Z"⟩ : MethodName)) hown (mvT hZ (wd23 hw)) (mvT hZ (wd24 hw)) (notFace_of_selects (args := #[]) (mvT hZ (wd26 hw))) (mvT hZ (wd26 hw)) (mvT hZ (wd25 hw)) (by decide) (backOf (W := 0) (rm4_2_0 l Z a0 hw [] b19 x1_2_0_17 x2_2_0_20 w_NI k_NI (0 : Int32) k_x2_2_0_20 (0 : Int32) (0 : Int32) (0 : Int32) (0 : Int32) (0 : Int32) (0 : Int32) (0 : Int32) (0 : Int32) k_x1_2_0_17 p2 p3 h20 n0 Z0 E_b19 V_NI F_b19_arity F_b19_values F_b19_size F_b19_members F_b19_indexes F_b19_holdingAny V_x2_2_0_20 V_x1_2_0_17 (Ne.symm ne_b19_x2_2_0_20) ne_x1_2_0_17_b19 (Ne.symm ne_x1_2_0_17_x2_2_0_20) ne_w_NI_b19 ne_w_NI_x2_2_0_20 ne_w_NI_x1_2_0_17 g_x2_2_0_20 g_b19) hZ (wd27 hw) (wd8 hw) (by decide) (by decide)) q21a q21c (g := (mkF m 64 #[.val (.int p1), .val (.int p2), .val (.int p3), .val (.int p4), .val (.int p5), .val (.int p6), .val (.int 2), .val (.int (p6 &&& (1 : Int32))), .val (.int ((((p6.toUInt32 >>> ((1 : Int32) &&& 31).toUInt32).toInt32) &&& (2147483647 : Int32)) % (2 : Int32))), .val (.ref x1_2_0_17), .val (.ref x1_2_0_18), .val (.ref b19), .unset, .unset, .unset] [(.ref x1_2_0_17), (.ref b19)])) rfl (by rw [hml]; rfl) (Steps.refl _) (argsL := [(.ref x1_2_0_17)]) (rest := []) (lenOf pd0 rfl) rfl (by show 2 * 0 + _ ≤ _; exact Nat.le_of_eq rfl) (hb hby at_64) (fun _ _ => ⟨rfl, e20, (by decide : 4 + 0 ≤ _), (by decide : 18 + 0 ≤ _)⟩)
      dsimp only [Pt.U, Pt.locs, Pt.cells, Pt.slots] at X21 l21 y21 z21 st21 hQ21
      subst l21 y21 z21
      have E_b19_pre := E_b19
      have F_b19_size_pre := F_b19_size
      have F_b19_members_pre := F_b19_members
      have F_b19_holdingAny_pre := F_b19_holdingAny
      have F_b19_indexes_pre := F_b19_indexes
      have F_b19_values_pre := F_b19_values
      have F_b19_arity_pre := F_b19_arity
      have V_x2_2_0_20_pre := V_x2_2_0_20
      obtain ⟨h21, e21⟩ : ∃ z, T21.heap = z := ⟨_, rfl⟩
      rw [e21] at hQ21
      obtain ⟨z_4_2_0_holdingAny_21, rfl, N21q, K21, Q21_0, Q21_1, Q21_2, Q21_3, Q21_4, Q21_5, Q21_6, Q21_7⟩ := hQ21
      refine Go.tr st21 ?_
      replace V_NI := V_NI.keep K21 (ninS ne_w_NI_x2_2_0_20 (ninS ne_w_NI_b19 nin0))
      replace S_NI := sta_keep S_NI K21 (allS (arv_ns V_x2_2_0_20_pre) (allS (exa_ns E_b19_pre) all0))
      replace V_x1_2_0_17 := V_x1_2_0_17.keep K21 (ninS ne_x1_2_0_17_x2_2_0_20 (ninS ne_x1_2_0_17_b19 nin0))
      replace V_x1_2_0_18 := V_x1_2_0_18.keep K21 (ninS ne_x1_2_0_18_x2_2_0_20 (ninS ne_x1_2_0_18_b19 nin0))
      replace E_b19 := E_b19.keep K21
      replace Z0 := Nat.le_trans Z0 K21.1
      replace K0 := K0.trans K21 (allS (Or.inr sz_x2_2_0_20) (allS (Or.inr sz_b19) all0))
      have E_b19 := Q21_0
      have F_b19_arity := Q21_1
      have F_b19_values := Q21_2
      have F_b19_size := Q21_3
      have F_b19_members := Q21_4
      have F_b19_indexes := Q21_5
      have F_b19_holdingAny := Q21_6
      have V_x2_2_0_20 := Q21_7
      have N21 := Fr.app N20 N21q
      show Go _ _ _ (T21.setTop (mkF m 67 #[.val (.int p1), .val (.int p2), .val (.int p3), .val (.int p4), .val (.int p5), .val (.int p6), .val (.int 2), .val (.int (p6 &&& (1 : Int32))), .val (.int ((((p6.toUInt32 >>> ((1 : Int32) &&& 31).toUInt32).toInt32) &&& (2147483647 : Int32)) % (2 : Int32))), .val (.ref x1_2_0_17), .val (.ref x1_2_0_18), .val (.ref b19), .unset, .unset, .unset] [(.int 1)])) _
      refine Go.st (fun t k => XS.pop X21.here hx rfl (hb hby at_67) rfl rfl k) ?_
      refine Go.st (fun t k => XS.aload X21.here hx rfl (hb hby at_68) rfl rfl k) ?_
      refine Go.st (fun t k => XS.aload X21.here hx rfl (hb hby at_70) rfl rfl k) ?_
      obtain ⟨cq22, kq22, q22a, q22b, q22c⟩ := isOf hZ e21 E_b19
      obtain ⟨_, _, ⟨T22, L22, k22, n22⟩, -, X22, ⟨Lc22, hQ22, l22, y22, z22⟩, st22⟩ := X21.virtualBack hx (y := (⟨"com/example/bitlattice/bitlattice/eval/Relation", "add", "([I)Z"⟩ : MethodName)) (z := (⟨"com/example/bitlattice/bitlattice/eval/Relation", "add", "([I)Z"⟩ : MethodName)) hown (mvT hZ (wd23 hw)) (mvT hZ (wd24 hw)) (notFace_of_selects (args := #[]) (mvT hZ (wd26 hw))) (mvT hZ (wd26 hw)) (mvT hZ (wd25 hw)) (by decide) (backOf (W := 0) (rm4_2_1 l Z a0 hw [] b19 x1_2_0_18 x2_2_0_20 w_NI k_NI z_4_2_0_holdingAny_21 k_x2_2_0_20 p2 p3 (0 : Int32) (0 : Int32) (0 : Int32) (0 : Int32) (0 : Int32) (0 : Int32) k_x1_2_0_18 p5 p4 h21 n0 Z0 E_b19 V_NI F_b19_arity F_b19_values F_b19_size F_b19_members F_b19_indexes F_b19_holdingAny V_x2_2_0_20 V_x1_2_0_18 (Ne.symm ne_b19_x2_2_0_20) ne_x1_2_0_18_b19 (Ne.symm ne_x1_2_0_18_x2_2_0_20) ne_w_NI_b19 ne_w_NI_x2_2_0_20 ne_w_NI_x1_2_0_18 g_x2_2_0_20 g_b19) hZ (wd27 hw) (wd8 hw) (by decide) (by decide)) q22a q22c (g := (mkF m 72 #[.val (.int p1), .val (.int p2), .val (.int p3), .val (.int p4), .val (.int p5), .val (.int p6), .val (.int 2), .val (.int (p6 &&& (1 : Int32))), .val (.int ((((p6.toUInt32 >>> ((1 : Int32) &&& 31).toUInt32).toInt32) &&& (2147483647 : Int32)) % (2 : Int32))), .val (.ref x1_2_0_17), .val (.ref x1_2_0_18), .val (.ref b19), .unset, .unset, .unset] [(.ref x1_2_0_18), (.ref b19)])) rfl (by rw [hml]; rfl) (Steps.refl _) (argsL := [(.ref x1_2_0_18)]) (rest := []) (lenOf pd0 rfl) rfl (by show 2 * 0 + _ ≤ _; exact Nat.le_of_eq rfl) (hb hby at_72) (fun _ _ => ⟨rfl, e21, (by decide : 4 + 0 ≤ _), (by decide : 18 + 0 ≤ _)⟩)
      dsimp only [Pt.U, Pt.locs, Pt.cells, Pt.slots] at X22 l22 y22 z22 st22 hQ22
      subst l22 y22 z22
      have E_b19_pre := E_b19
      have F_b19_arity_pre := F_b19_arity
      have F_b19_values_pre := F_b19_values
      have F_b19_size_pre := F_b19_size
      have F_b19_members_pre := F_b19_members
      have F_b19_indexes_pre := F_b19_indexes
      have F_b19_holdingAny_pre := F_b19_holdingAny
      have V_x2_2_0_20_pre := V_x2_2_0_20
      obtain ⟨h22, e22⟩ : ∃ z, T22.heap = z := ⟨_, rfl⟩
      rw [e22] at hQ22
      obtain ⟨z_4_2_1_holdingAny_22, rfl, N22q, K22, Q22_0, Q22_1, Q22_2, Q22_3, Q22_4, Q22_5, Q22_6, Q22_7⟩ := hQ22
      refine Go.tr st22 ?_
      replace V_NI := V_NI.keep K22 (ninS ne_w_NI_x2_2_0_20 (ninS ne_w_NI_b19 nin0))
      replace S_NI := sta_keep S_NI K22 (allS (arv_ns V_x2_2_0_20_pre) (allS (exa_ns E_b19_pre) all0))
      replace V_x1_2_0_17 := V_x1_2_0_17.keep K22 (ninS ne_x1_2_0_17_x2_2_0_20 (ninS ne_x1_2_0_17_b19 nin0))
      replace V_x1_2_0_18 := V_x1_2_0_18.keep K22 (ninS ne_x1_2_0_18_x2_2_0_20 (ninS ne_x1_2_0_18_b19 nin0))
      replace E_b19 := E_b19.keep K22
      replace Z0 := Nat.le_trans Z0 K22.1
      replace K0 := K0.trans K22 (allS (Or.inr sz_x2_2_0_20) (allS (Or.inr sz_b19) all0))
      have E_b19 := Q22_0
      have F_b19_arity := Q22_1
      have F_b19_values := Q22_2
      have F_b19_size := Q22_3
      have F_b19_members := Q22_4
      have F_b19_indexes := Q22_5
      have F_b19_holdingAny := Q22_6
      have V_x2_2_0_20 := Q22_7
      have N22 := Fr.app N21 N22q
      show Go _ _ _ (T22.setTop (mkF m 75 #[.val (.int p1), .val (.int p2), .val (.int p3), .val (.int p4), .val (.int p5), .val (.int p6), .val (.int 2), .val (.int (p6 &&& (1 : Int32))), .val (.int ((((p6.toUInt32 >>> ((1 : Int32) &&& 31).toUInt32).toInt32) &&& (2147483647 : Int32)) % (2 : Int32))), .val (.ref x1_2_0_17), .val (.ref x1_2_0_18), .val (.ref b19), .unset, .unset, .unset] [(.int (f4_2_1 p2 p3 p5 p4))])) _
      by_cases hc23 : (f5_2_1 p2 p3 p5 p4) = (0 : Int32)
      · rw [show (f4_2_1 p2 p3 p5 p4) = (1 : Int32) from by unfold f4_2_1; simp only [if_pos hc23, if_true, if_false]]
        rw [show (f4_2_1_a1_size p2 p3 p5 p4) = (2 : Int32) from by unfold f4_2_1_a1_size; simp only [if_pos hc23, if_true, if_false]] at F_b19_size
        replace V_x2_2_0_20 : Arv Z h22 x2_2_0_20 k_x2_2_0_20 .int (8 : Int32) [(.int p2), (.int p3), (.int p5), (.int p4), (.int (0 : Int32)), (.int (0 : Int32)), (.int (0 : Int32)), (.int (0 : Int32))] (.int (0 : Int32)) := (by have hq := V_x2_2_0_20; unfold f4_2_1_vals_2 f4_2_1_vals_3 at hq; simp only [if_pos hc23] at hq; exact hq)
        show Go _ _ _ (T22.setTop (mkF m 75 #[.val (.int p1), .val (.int p2), .val (.int p3), .val (.int p4), .val (.int p5), .val (.int p6), .val (.int 2), .val (.int (p6 &&& (1 : Int32))), .val (.int ((((p6.toUInt32 >>> ((1 : Int32) &&& 31).toUInt32).toInt32) &&& (2147483647 : Int32)) % (2 : Int32))), .val (.ref x1_2_0_17), .val (.ref x1_2_0_18), .val (.ref b19), .unset, .unset, .unset] [(.int 1)])) _
        refine Go.st (fun t k => XS.istore X22.here hx rfl (hb hby at_75) rfl (l' := #[.val (.int p1), .val (.int p2), .val (.int p3), .val (.int p4), .val (.int p5), .val (.int p6), .val (.int 2), .val (.int (p6 &&& (1 : Int32))), .val (.int ((((p6.toUInt32 >>> ((1 : Int32) &&& 31).toUInt32).toInt32) &&& (2147483647 : Int32)) % (2 : Int32))), .val (.ref x1_2_0_17), .val (.ref x1_2_0_18), .val (.ref b19), .val (.int 1), .unset, .unset]) rfl k) ?_
        show Go _ _ _ (T22.setTop (mkF m 77 #[.val (.int p1), .val (.int p2), .val (.int p3), .val (.int p4), .val (.int p5), .val (.int p6), .val (.int 2), .val (.int (p6 &&& (1 : Int32))), .val (.int ((((p6.toUInt32 >>> ((1 : Int32) &&& 31).toUInt32).toInt32) &&& (2147483647 : Int32)) % (2 : Int32))), .val (.ref x1_2_0_17), .val (.ref x1_2_0_18), .val (.ref b19), .val (.int 1), .unset, .unset] [])) _
        by_cases hc24 : ((((p6.toUInt32 >>> ((1 : Int32) &&& 31).toUInt32).toInt32) &&& (2147483647 : Int32)) % (2 : Int32)) = (0 : Int32)
        · rw [hc24]
          show Go _ _ _ (T22.setTop (mkF m 77 #[.val (.int p1), .val (.int p2), .val (.int p3), .val (.int p4), .val (.int p5), .val (.int p6), .val (.int 2), .val (.int (p6 &&& (1 : Int32))), .val (.int 0), .val (.ref x1_2_0_17), .val (.ref x1_2_0_18), .val (.ref b19), .val (.int 1), .unset, .unset] [])) _
          refine Go.st (fun t k => XS.iload X22.here hx rfl (hb hby at_77) rfl k) ?_
          refine Go.st (fun t k => XS.ifNo X22.here hx rfl (hb hby at_79) rfl ((if0 _ _).trans (feq (by decide : ¬ ((1 : Int32) = (0 : Int32)))).1) k) ?_
          show Go _ _ _ (T22.setTop (mkF m 82 #[.val (.int p1), .val (.int p2), .val (.int p3), .val (.int p4), .val (.int p5), .val (.int p6), .val (.int 2), .val (.int (p6 &&& (1 : Int32))), .val (.int 0), .val (.ref x1_2_0_17), .val (.ref x1_2_0_18), .val (.ref b19), .val (.int 1), .unset, .unset] [])) _
          by_cases hc25 : (p6 &&& (1 : Int32)) = (0 : Int32)
          · rw [hc25]
            show Go _ _ _ (T22.setTop (mkF m 82 #[.val (.int p1), .val (.int p2), .val (.int p3), .val (.int p4), .val (.int p5), .val (.int p6), .val (.int 2), .val (.int 0), .val (.int 0), .val (.ref x1_2_0_17), .val (.ref x1_2_0_18), .val (.ref b19), .val (.int 1), .unset, .unset] [])) _
            refine Go.st (fun t k => XS.iload X22.here hx rfl (hb hby at_82) rfl k) ?_
            refine Go.st (fun t k => XS.goto X22.here hx rfl (pc0 := 84) (pc' := 88) rfl (hb hby at_84) (by decide) (by decide) k) ?_
            refine Go.st (fun t k => XS.istore X22.here hx rfl (hb hby at_88) rfl (l' := #[.val (.int p1), .val (.int p2), .val (.int p3), .val (.int p4), .val (.int p5), .val (.int p6), .val (.int 2), .val (.int 0), .val (.int 0), .val (.ref x1_2_0_17), .val (.ref x1_2_0_18), .val (.ref b19), .val (.int 1), .val (.int 0), .unset]) rfl k) ?_
            refine Go.st (fun t k => XS.iload X22.here hx rfl (hb hby at_90) rfl k) ?_
            refine Go.st (fun t k => XS.ifNo X22.here hx rfl (hb hby at_92) rfl ((if0 _ _).trans (teq (by decide : (0 : Int32) = (0 : Int32))).2) k) ?_
            show Go _ _ _ (T22.setTop (mkF m 95 #[.val (.int p1), .val (.int p2), .val (.int p3), .val (.int p4), .val (.int p5), .val (.int p6), .val (.int 2), .val (.int 0), .val (.int 0), .val (.ref x1_2_0_17), .val (.ref x1_2_0_18), .val (.ref b19), .val (.int 1), .val (.int 0), .unset] [])) _
            refine Go.st (fun t k => XS.iload X22.here hx rfl (hb hby at_95) rfl k) ?_
            refine Go.st (fun t k => XS.iloadN X22.here hx rfl (hb hby at_97) rfl k) ?_
            refine Go.st (fun t k => XS.iloadN X22.here hx rfl (hb hby at_98) rfl k) ?_
            refine Go.st (fun t k => XS.iloadN X22.here hx rfl (hb hby at_99) rfl k) ?_
            obtain ⟨_, _, ⟨T26, L26, k26, n26⟩, -, X26, ⟨Lc26, hQ26, l26, y26, z26⟩, st26⟩ := Jvm.LawKit.callS X22 hx (y := (⟨"com/example/bitlattice/bitlattice/eval/RelationGetPinLaw", "pick", "(IIII)I"⟩ : MethodName)) hown (mvT hZ (wd46 hw)) (mvT hZ (wd47 hw)) (mvT hZ (wd3 hw)) (mvT hZ (wd48 hw)) (by decide) (backOf (W := 0) (rm7 l Z a0 hw [] (0 : Int32) p2 p3 p4 h22 n0 Z0) hZ (wd48 hw) (wd3 hw) (by decide) (by decide)) (g := (mkF m 100 #[.val (.int p1), .val (.int p2), .val (.int p3), .val (.int p4), .val (.int p5), .val (.int p6), .val (.int 2), .val (.int 0), .val (.int 0), .val (.ref x1_2_0_17), .val (.ref x1_2_0_18), .val (.ref b19), .val (.int 1), .val (.int 0), .unset] [(.int p4), (.int p3), (.int p2), (.int 0)])) rfl (by rw [hml]; rfl) (argsL := [(.int (0 : Int32)), (.int p2), (.int p3), (.int p4)]) (rest := []) (lenOf pd4 rfl) rfl (by show 2 * 0 + _ ≤ _; exact Nat.le_of_eq rfl) (hb hby at_100) (fun _ _ => ⟨rfl, e22, (by decide : 4 + 0 ≤ _), (by decide : 18 + 0 ≤ _)⟩)
            dsimp only [Pt.U, Pt.locs, Pt.cells, Pt.slots] at X26 l26 y26 z26 st26 hQ26
            subst l26 y26 z26
            refine Go.st st26 ?_
            obtain ⟨rfl, N26q, e26⟩ := hQ26
            have N26 := Fr.app N22 N26q
            show Go _ _ _ (T26.setTop (mkF m 103 #[.val (.int p1), .val (.int p2), .val (.int p3), .val (.int p4), .val (.int p5), .val (.int p6), .val (.int 2), .val (.int 0), .val (.int 0), .val (.ref x1_2_0_17), .val (.ref x1_2_0_18), .val (.ref b19), .val (.int 1), .val (.int 0), .unset] [(.int (f7 (0 : Int32) p2 p3 p4))])) _
            rw [show (f7 (0 : Int32) p2 p3 p4) = p2 from by unfold f7; simp only [if_pos (by decide : (0 : Int32) = (0 : Int32)), if_true, if_false]]
            show Go _ _ _ (T26.setTop (mkF m 103 #[.val (.int p1), .val (.int p2), .val (.int p3), .val (.int p4), .val (.int p5), .val (.int p6), .val (.int 2), .val (.int 0), .val (.int 0), .val (.ref x1_2_0_17), .val (.ref x1_2_0_18), .val (.ref b19), .val (.int 1), .val (.int 0), .unset] [(.int p2)])) _
            refine Go.st (fun t k => XS.goto X26.here hx rfl (pc0 := 103) (pc' := 115) rfl (hb hby at_103) (by decide) (by decide) k) ?_
            refine Go.st (fun t k => XS.istore X26.here hx rfl (hb hby at_115) rfl (l' := #[.val (.int p1), .val (.int p2), .val (.int p3), .val (.int p4), .val (.int p5), .val (.int p6), .val (.int 2), .val (.int 0), .val (.int 0), .val (.ref x1_2_0_17), .val (.ref x1_2_0_18), .val (.ref b19), .val (.int 1), .val (.int 0), .val (.int p2)]) rfl k) ?_
            refine Go.st (fun t k => XS.aload X26.here hx rfl (hb hby at_117) rfl rfl k) ?_
            refine Go.st (fun t k => XS.iload X26.here hx rfl (hb hby at_119) rfl k) ?_
            refine Go.st (fun t k => XS.iload X26.here hx rfl (hb hby at_121) rfl k) ?_
            obtain ⟨cq27, kq27, q27a, q27b, q27c⟩ := isOf hZ e26 E_b19
            obtain ⟨_, _, ⟨T27, L27, k27, n27⟩, -, X27, ⟨Lc27, hQ27, l27, y27, z27⟩, st27⟩ := X26.virtualBack hx (y := (⟨"com/example/bitlattice/bitlattice/eval/Relation", "get", "(II)I"⟩ : MethodName)) (z := (⟨"com/example/bitlattice/bitlattice/eval/Relation", "get", "(II)I"⟩ : MethodName)) hown (mvT hZ (wd49 hw)) (mvT hZ (wd50 hw)) (notFace_of_selects (args := #[]) (mvT hZ (wd52 hw))) (mvT hZ (wd52 hw)) (mvT hZ (wd51 hw)) (by decide) (backOf (W := 0) (rm8 l Z a0 hw [] b19 (0 : Int32) (0 : Int32) (2 : Int32) x2_2_0_20 k_x2_2_0_20 [(.int p2), (.int p3), (.int p5), (.int p4), (.int (0 : Int32)), (.int (0 : Int32)), (.int (0 : Int32)), (.int (0 : Int32))] (8 : Int32) p2 h22 n0 Z0 F_b19_values F_b19_arity V_x2_2_0_20 (by decide) rfl) hZ (wd53 hw) (wd8 hw) (by decide) (by decide)) q27a q27c (g := (mkF m 123 #[.val (.int p1), .val (.int p2), .val (.int p3), .val (.int p4), .val (.int p5), .val (.int p6), .val (.int 2), .val (.int 0), .val (.int 0), .val (.ref x1_2_0_17), .val (.ref x1_2_0_18), .val (.ref b19), .val (.int 1), .val (.int 0), .val (.int p2)] [(.int 0), (.int 0), (.ref b19)])) rfl (by rw [hml]; rfl) (Steps.refl _) (argsL := [(.int (0 : Int32)), (.int (0 : Int32))]) (rest := []) (lenOf pd5 rfl) rfl (by show 2 * 0 + _ ≤ _; exact Nat.le_of_eq rfl) (hb hby at_123) (fun _ _ => ⟨rfl, e26, (by decide : 4 + 0 ≤ _), (by decide : 18 + 0 ≤ _)⟩)
            dsimp only [Pt.U, Pt.locs, Pt.cells, Pt.slots] at X27 l27 y27 z27 st27 hQ27
            subst l27 y27 z27
            refine Go.tr st27 ?_
            obtain ⟨rfl, N27q, e27⟩ := hQ27
            have N27 := Fr.app N26 N27q
            show Go _ _ _ (T27.setTop (mkF m 126 #[.val (.int p1), .val (.int p2), .val (.int p3), .val (.int p4), .val (.int p5), .val (.int p6), .val (.int 2), .val (.int 0), .val (.int 0), .val (.ref x1_2_0_17), .val (.ref x1_2_0_18), .val (.ref b19), .val (.int 1), .val (.int 0), .val (.int p2)] [(.int p2)])) _
            refine Go.st (fun t k => XS.iload X27.here hx rfl (hb hby at_126) rfl k) ?_
            refine Go.st (fun t k => XS.icmpNo X27.here hx rfl (hb hby at_128) rfl (teq (rfl : p2 = p2)).2 k) ?_
            show Go _ _ _ (T27.setTop (mkF m 131 #[.val (.int p1), .val (.int p2), .val (.int p3), .val (.int p4), .val (.int p5), .val (.int p6), .val (.int 2), .val (.int 0), .val (.int 0), .val (.ref x1_2_0_17), .val (.ref x1_2_0_18), .val (.ref b19), .val (.int 1), .val (.int 0), .val (.int p2)] [])) _
            refine Go.st (fun t k => XS.iconst X27.here hx rfl (hb hby at_131) k) ?_
            refine Go.st (fun t k => XS.goto X27.here hx rfl (pc0 := 132) (pc' := 136) rfl (hb hby at_132) (by decide) (by decide) k) ?_
            obtain ⟨fs, hr, hrun, hended, hW, hsame⟩ := X27.leave (v := some (.int (1 : Int32))) (fun h => by rw [Bd.returns] at h; cases h)
            refine Go.fin (retN X27 hx (t := .boolean) Bd.returns (by simp) (hb hby at_136) hr) hrun hended ⟨_, _, rfl, ?_, ⟨_, rfl⟩, hW, hsame.mono (by decide) (by decide)⟩
            show Q0 Z p1 p2 p3 p4 p5 p6 w_NI k_NI h0 n0 _ T27.heap _
            rw [e27]
            exact ⟨rfl, N27⟩
          · rw [own_b1 p6 hc25]
            show Go _ _ _ (T22.setTop (mkF m 82 #[.val (.int p1), .val (.int p2), .val (.int p3), .val (.int p4), .val (.int p5), .val (.int p6), .val (.int 2), .val (.int 1), .val (.int 0), .val (.ref x1_2_0_17), .val (.ref x1_2_0_18), .val (.ref b19), .val (.int 1), .unset, .unset] [])) _
            refine Go.st (fun t k => XS.iload X22.here hx rfl (hb hby at_82) rfl k) ?_
            refine Go.st (fun t k => XS.goto X22.here hx rfl (pc0 := 84) (pc' := 88) rfl (hb hby at_84) (by decide) (by decide) k) ?_
            refine Go.st (fun t k => XS.istore X22.here hx rfl (hb hby at_88) rfl (l' := #[.val (.int p1), .val (.int p2), .val (.int p3), .val (.int p4), .val (.int p5), .val (.int p6), .val (.int 2), .val (.int 1), .val (.int 0), .val (.ref x1_2_0_17), .val (.ref x1_2_0_18), .val (.ref b19), .val (.int 1), .val (.int 1), .unset]) rfl k) ?_
            refine Go.st (fun t k => XS.iload X22.here hx rfl (hb hby at_90) rfl k) ?_
            refine Go.st (fun t k => XS.ifYes X22.here hx rfl (pc0 := 92) (pc' := 106) rfl (hb hby at_92) rfl ((if0 _ _).trans (feq (by decide : ¬ ((1 : Int32) = (0 : Int32)))).2) (by decide) (by decide) k) ?_
            show Go _ _ _ (T22.setTop (mkF m 106 #[.val (.int p1), .val (.int p2), .val (.int p3), .val (.int p4), .val (.int p5), .val (.int p6), .val (.int 2), .val (.int 1), .val (.int 0), .val (.ref x1_2_0_17), .val (.ref x1_2_0_18), .val (.ref b19), .val (.int 1), .val (.int 1), .unset] [])) _
            refine Go.st (fun t k => XS.iload X22.here hx rfl (hb hby at_106) rfl k) ?_
            refine Go.st (fun t k => XS.iload X22.here hx rfl (hb hby at_108) rfl k) ?_
            refine Go.st (fun t k => XS.iloadN X22.here hx rfl (hb hby at_110) rfl k) ?_
            refine Go.st (fun t k => XS.iloadN X22.here hx rfl (hb hby at_111) rfl k) ?_
            obtain ⟨_, _, ⟨T28, L28, k28, n28⟩, -, X28, ⟨Lc28, hQ28, l28, y28, z28⟩, st28⟩ := Jvm.LawKit.callS X22 hx (y := (⟨"com/example/bitlattice/bitlattice/eval/RelationGetPinLaw", "pick", "(IIII)I"⟩ : MethodName)) hown (mvT hZ (wd46 hw)) (mvT hZ (wd47 hw)) (mvT hZ (wd3 hw)) (mvT hZ (wd48 hw)) (by decide) (backOf (W := 0) (rm7 l Z a0 hw [] (0 : Int32) p5 p4 p2 h22 n0 Z0) hZ (wd48 hw) (wd3 hw) (by decide) (by decide)) (g := (mkF m 112 #[.val (.int p1), .val (.int p2), .val (.int p3), .val (.int p4), .val (.int p5), .val (.int p6), .val (.int 2), .val (.int 1), .val (.int 0), .val (.ref x1_2_0_17), .val (.ref x1_2_0_18), .val (.ref b19), .val (.int 1), .val (.int 1), .unset] [(.int p2), (.int p4), (.int p5), (.int 0)])) rfl (by rw [hml]; rfl) (argsL := [(.int (0 : Int32)), (.int p5), (.int p4), (.int p2)]) (rest := []) (lenOf pd4 rfl) rfl (by show 2 * 0 + _ ≤ _; exact Nat.le_of_eq rfl) (hb hby at_112) (fun _ _ => ⟨rfl, e22, (by decide : 4 + 0 ≤ _), (by decide : 18 + 0 ≤ _)⟩)
            dsimp only [Pt.U, Pt.locs, Pt.cells, Pt.slots] at X28 l28 y28 z28 st28 hQ28
            subst l28 y28 z28
            refine Go.st st28 ?_
            obtain ⟨rfl, N28q, e28⟩ := hQ28
            have N28 := Fr.app N22 N28q
            show Go _ _ _ (T28.setTop (mkF m 115 #[.val (.int p1), .val (.int p2), .val (.int p3), .val (.int p4), .val (.int p5), .val (.int p6), .val (.int 2), .val (.int 1), .val (.int 0), .val (.ref x1_2_0_17), .val (.ref x1_2_0_18), .val (.ref b19), .val (.int 1), .val (.int 1), .unset] [(.int (f7 (0 : Int32) p5 p4 p2))])) _
            rw [show (f7 (0 : Int32) p5 p4 p2) = p5 from by unfold f7; simp only [if_pos (by decide : (0 : Int32) = (0 : Int32)), if_true, if_false]]
            show Go _ _ _ (T28.setTop (mkF m 115 #[.val (.int p1), .val (.int p2), .val (.int p3), .val (.int p4), .val (.int p5), .val (.int p6), .val (.int 2), .val (.int 1), .val (.int 0), .val (.ref x1_2_0_17), .val (.ref x1_2_0_18), .val (.ref b19), .val (.int 1), .val (.int 1), .unset] [(.int p5)])) _
            refine Go.st (fun t k => XS.istore X28.here hx rfl (hb hby at_115) rfl (l' := #[.val (.int p1), .val (.int p2), .val (.int p3), .val (.int p4), .val (.int p5), .val (.int p6), .val (.int 2), .val (.int 1), .val (.int 0), .val (.ref x1_2_0_17), .val (.ref x1_2_0_18), .val (.ref b19), .val (.int 1), .val (.int 1), .val (.int p5)]) rfl k) ?_
            refine Go.st (fun t k => XS.aload X28.here hx rfl (hb hby at_117) rfl rfl k) ?_
            refine Go.st (fun t k => XS.iload X28.here hx rfl (hb hby at_119) rfl k) ?_
            refine Go.st (fun t k => XS.iload X28.here hx rfl (hb hby at_121) rfl k) ?_
            obtain ⟨cq29, kq29, q29a, q29b, q29c⟩ := isOf hZ e28 E_b19
            obtain ⟨_, _, ⟨T29, L29, k29, n29⟩, -, X29, ⟨Lc29, hQ29, l29, y29, z29⟩, st29⟩ := X28.virtualBack hx (y := (⟨"com/example/bitlattice/bitlattice/eval/Relation", "get", "(II)I"⟩ : MethodName)) (z := (⟨"com/example/bitlattice/bitlattice/eval/Relation", "get", "(II)I"⟩ : MethodName)) hown (mvT hZ (wd49 hw)) (mvT hZ (wd50 hw)) (notFace_of_selects (args := #[]) (mvT hZ (wd52 hw))) (mvT hZ (wd52 hw)) (mvT hZ (wd51 hw)) (by decide) (backOf (W := 0) (rm8 l Z a0 hw [] b19 (1 : Int32) (0 : Int32) (2 : Int32) x2_2_0_20 k_x2_2_0_20 [(.int p2), (.int p3), (.int p5), (.int p4), (.int (0 : Int32)), (.int (0 : Int32)), (.int (0 : Int32)), (.int (0 : Int32))] (8 : Int32) p5 h22 n0 Z0 F_b19_values F_b19_arity V_x2_2_0_20 (by decide) rfl) hZ (wd53 hw) (wd8 hw) (by decide) (by decide)) q29a q29c (g := (mkF m 123 #[.val (.int p1), .val (.int p2), .val (.int p3), .val (.int p4), .val (.int p5), .val (.int p6), .val (.int 2), .val (.int 1), .val (.int 0), .val (.ref x1_2_0_17), .val (.ref x1_2_0_18), .val (.ref b19), .val (.int 1), .val (.int 1), .val (.int p5)] [(.int 0), (.int 1), (.ref b19)])) rfl (by rw [hml]; rfl) (Steps.refl _) (argsL := [(.int (1 : Int32)), (.int (0 : Int32))]) (rest := []) (lenOf pd5 rfl) rfl (by show 2 * 0 + _ ≤ _; exact Nat.le_of_eq rfl) (hb hby at_123) (fun _ _ => ⟨rfl, e28, (by decide : 4 + 0 ≤ _), (by decide : 18 + 0 ≤ _)⟩)
            dsimp only [Pt.U, Pt.locs, Pt.cells, Pt.slots] at X29 l29 y29 z29 st29 hQ29
            subst l29 y29 z29
            refine Go.tr st29 ?_
            obtain ⟨rfl, N29q, e29⟩ := hQ29
            have N29 := Fr.app N28 N29q
            show Go _ _ _ (T29.setTop (mkF m 126 #[.val (.int p1), .val (.int p2), .val (.int p3), .val (.int p4), .val (.int p5), .val (.int p6), .val (.int 2), .val (.int 1), .val (.int 0), .val (.ref x1_2_0_17), .val (.ref x1_2_0_18), .val (.ref b19), .val (.int 1), .val (.int 1), .val (.int p5)] [(.int p5)])) _
            refine Go.st (fun t k => XS.iload X29.here hx rfl (hb hby at_126) rfl k) ?_
            refine Go.st (fun t k => XS.icmpNo X29.here hx rfl (hb hby at_128) rfl (teq (rfl : p5 = p5)).2 k) ?_
            show Go _ _ _ (T29.setTop (mkF m 131 #[.val (.int p1), .val (.int p2), .val (.int p3), .val (.int p4), .val (.int p5), .val (.int p6), .val (.int 2), .val (.int 1), .val (.int 0), .val (.ref x1_2_0_17), .val (.ref x1_2_0_18), .val (.ref b19), .val (.int 1), .val (.int 1), .val (.int p5)] [])) _
            refine Go.st (fun t k => XS.iconst X29.here hx rfl (hb hby at_131) k) ?_
            refine Go.st (fun t k => XS.goto X29.here hx rfl (pc0 := 132) (pc' := 136) rfl (hb hby at_132) (by decide) (by decide) k) ?_
            obtain ⟨fs, hr, hrun, hended, hW, hsame⟩ := X29.leave (v := some (.int (1 : Int32))) (fun h => by rw [Bd.returns] at h; cases h)
            refine Go.fin (retN X29 hx (t := .boolean) Bd.returns (by simp) (hb hby at_136) hr) hrun hended ⟨_, _, rfl, ?_, ⟨_, rfl⟩, hW, hsame.mono (by decide) (by decide)⟩
            show Q0 Z p1 p2 p3 p4 p5 p6 w_NI k_NI h0 n0 _ T29.heap _
            rw [e29]
            exact ⟨rfl, N29⟩
        · rw [own_m2 ((p6.toUInt32 >>> ((1 : Int32) &&& 31).toUInt32).toInt32) hc24]
          show Go _ _ _ (T22.setTop (mkF m 77 #[.val (.int p1), .val (.int p2), .val (.int p3), .val (.int p4), .val (.int p5), .val (.int p6), .val (.int 2), .val (.int (p6 &&& (1 : Int32))), .val (.int 1), .val (.ref x1_2_0_17), .val (.ref x1_2_0_18), .val (.ref b19), .val (.int 1), .unset, .unset] [])) _
          refine Go.st (fun t k => XS.iload X22.here hx rfl (hb hby at_77) rfl k) ?_
          refine Go.st (fun t k => XS.ifNo X22.here hx rfl (hb hby at_79) rfl ((if0 _ _).trans (feq (by decide : ¬ ((1 : Int32) = (0 : Int32)))).1) k) ?_
          show Go _ _ _ (T22.setTop (mkF m 82 #[.val (.int p1), .val (.int p2), .val (.int p3), .val (.int p4), .val (.int p5), .val (.int p6), .val (.int 2), .val (.int (p6 &&& (1 : Int32))), .val (.int 1), .val (.ref x1_2_0_17), .val (.ref x1_2_0_18), .val (.ref b19), .val (.int 1), .unset, .unset] [])) _
          by_cases hc30 : (p6 &&& (1 : Int32)) = (0 : Int32)
          · rw [hc30]
            show Go _ _ _ (T22.setTop (mkF m 82 #[.val (.int p1), .val (.int p2), .val (.int p3), .val (.int p4), .val (.int p5), .val (.int p6), .val (.int 2), .val (.int 0), .val (.int 1), .val (.ref x1_2_0_17), .val (.ref x1_2_0_18), .val (.ref b19), .val (.int 1), .unset, .unset] [])) _
            refine Go.st (fun t k => XS.iload X22.here hx rfl (hb hby at_82) rfl k) ?_
            refine Go.st (fun t k => XS.goto X22.here hx rfl (pc0 := 84) (pc' := 88) rfl (hb hby at_84) (by decide) (by decide) k) ?_
            refine Go.st (fun t k => XS.istore X22.here hx rfl (hb hby at_88) rfl (l' := #[.val (.int p1), .val (.int p2), .val (.int p3), .val (.int p4), .val (.int p5), .val (.int p6), .val (.int 2), .val (.int 0), .val (.int 1), .val (.ref x1_2_0_17), .val (.ref x1_2_0_18), .val (.ref b19), .val (.int 1), .val (.int 0), .unset]) rfl k) ?_
            refine Go.st (fun t k => XS.iload X22.here hx rfl (hb hby at_90) rfl k) ?_
            refine Go.st (fun t k => XS.ifNo X22.here hx rfl (hb hby at_92) rfl ((if0 _ _).trans (teq (by decide : (0 : Int32) = (0 : Int32))).2) k) ?_
            show Go _ _ _ (T22.setTop (mkF m 95 #[.val (.int p1), .val (.int p2), .val (.int p3), .val (.int p4), .val (.int p5), .val (.int p6), .val (.int 2), .val (.int 0), .val (.int 1), .val (.ref x1_2_0_17), .val (.ref x1_2_0_18), .val (.ref b19), .val (.int 1), .val (.int 0), .unset] [])) _
            refine Go.st (fun t k => XS.iload X22.here hx rfl (hb hby at_95) rfl k) ?_
            refine Go.st (fun t k => XS.iloadN X22.here hx rfl (hb hby at_97) rfl k) ?_
            refine Go.st (fun t k => XS.iloadN X22.here hx rfl (hb hby at_98) rfl k) ?_
            refine Go.st (fun t k => XS.iloadN X22.here hx rfl (hb hby at_99) rfl k) ?_
            obtain ⟨_, _, ⟨T31, L31, k31, n31⟩, -, X31, ⟨Lc31, hQ31, l31, y31, z31⟩, st31⟩ := Jvm.LawKit.callS X22 hx (y := (⟨"com/example/bitlattice/bitlattice/eval/RelationGetPinLaw", "pick", "(IIII)I"⟩ : MethodName)) hown (mvT hZ (wd46 hw)) (mvT hZ (wd47 hw)) (mvT hZ (wd3 hw)) (mvT hZ (wd48 hw)) (by decide) (backOf (W := 0) (rm7 l Z a0 hw [] (1 : Int32) p2 p3 p4 h22 n0 Z0) hZ (wd48 hw) (wd3 hw) (by decide) (by decide)) (g := (mkF m 100 #[.val (.int p1), .val (.int p2), .val (.int p3), .val (.int p4), .val (.int p5), .val (.int p6), .val (.int 2), .val (.int 0), .val (.int 1), .val (.ref x1_2_0_17), .val (.ref x1_2_0_18), .val (.ref b19), .val (.int 1), .val (.int 0), .unset] [(.int p4), (.int p3), (.int p2), (.int 1)])) rfl (by rw [hml]; rfl) (argsL := [(.int (1 : Int32)), (.int p2), (.int p3), (.int p4)]) (rest := []) (lenOf pd4 rfl) rfl (by show 2 * 0 + _ ≤ _; exact Nat.le_of_eq rfl) (hb hby at_100) (fun _ _ => ⟨rfl, e22, (by decide : 4 + 0 ≤ _), (by decide : 18 + 0 ≤ _)⟩)
            dsimp only [Pt.U, Pt.locs, Pt.cells, Pt.slots] at X31 l31 y31 z31 st31 hQ31
            subst l31 y31 z31
            refine Go.st st31 ?_
            obtain ⟨rfl, N31q, e31⟩ := hQ31
            have N31 := Fr.app N22 N31q
            show Go _ _ _ (T31.setTop (mkF m 103 #[.val (.int p1), .val (.int p2), .val (.int p3), .val (.int p4), .val (.int p5), .val (.int p6), .val (.int 2), .val (.int 0), .val (.int 1), .val (.ref x1_2_0_17), .val (.ref x1_2_0_18), .val (.ref b19), .val (.int 1), .val (.int 0), .unset] [(.int (f7 (1 : Int32) p2 p3 p4))])) _
            rw [show (f7 (1 : Int32) p2 p3 p4) = p3 from by unfold f7; simp only [if_neg (by decide : ¬ ((1 : Int32) = (0 : Int32))), if_pos (by decide : (1 : Int32) = (1 : Int32)), if_true, if_false]]
            show Go _ _ _ (T31.setTop (mkF m 103 #[.val (.int p1), .val (.int p2), .val (.int p3), .val (.int p4), .val (.int p5), .val (.int p6), .val (.int 2), .val (.int 0), .val (.int 1), .val (.ref x1_2_0_17), .val (.ref x1_2_0_18), .val (.ref b19), .val (.int 1), .val (.int 0), .unset] [(.int p3)])) _
            refine Go.st (fun t k => XS.goto X31.here hx rfl (pc0 := 103) (pc' := 115) rfl (hb hby at_103) (by decide) (by decide) k) ?_
            refine Go.st (fun t k => XS.istore X31.here hx rfl (hb hby at_115) rfl (l' := #[.val (.int p1), .val (.int p2), .val (.int p3), .val (.int p4), .val (.int p5), .val (.int p6), .val (.int 2), .val (.int 0), .val (.int 1), .val (.ref x1_2_0_17), .val (.ref x1_2_0_18), .val (.ref b19), .val (.int 1), .val (.int 0), .val (.int p3)]) rfl k) ?_
            refine Go.st (fun t k => XS.aload X31.here hx rfl (hb hby at_117) rfl rfl k) ?_
            refine Go.st (fun t k => XS.iload X31.here hx rfl (hb hby at_119) rfl k) ?_
            refine Go.st (fun t k => XS.iload X31.here hx rfl (hb hby at_121) rfl k) ?_
            obtain ⟨cq32, kq32, q32a, q32b, q32c⟩ := isOf hZ e31 E_b19
            obtain ⟨_, _, ⟨T32, L32, k32, n32⟩, -, X32, ⟨Lc32, hQ32, l32, y32, z32⟩, st32⟩ := X31.virtualBack hx (y := (⟨"com/example/bitlattice/bitlattice/eval/Relation", "get", "(II)I"⟩ : MethodName)) (z := (⟨"com/example/bitlattice/bitlattice/eval/Relation", "get", "(II)I"⟩ : MethodName)) hown (mvT hZ (wd49 hw)) (mvT hZ (wd50 hw)) (notFace_of_selects (args := #[]) (mvT hZ (wd52 hw))) (mvT hZ (wd52 hw)) (mvT hZ (wd51 hw)) (by decide) (backOf (W := 0) (rm8 l Z a0 hw [] b19 (0 : Int32) (1 : Int32) (2 : Int32) x2_2_0_20 k_x2_2_0_20 [(.int p2), (.int p3), (.int p5), (.int p4), (.int (0 : Int32)), (.int (0 : Int32)), (.int (0 : Int32)), (.int (0 : Int32))] (8 : Int32) p3 h22 n0 Z0 F_b19_values F_b19_arity V_x2_2_0_20 (by decide) rfl) hZ (wd53 hw) (wd8 hw) (by decide) (by decide)) q32a q32c (g := (mkF m 123 #[.val (.int p1), .val (.int p2), .val (.int p3), .val (.int p4), .val (.int p5), .val (.int p6), .val (.int 2), .val (.int 0), .val (.int 1), .val (.ref x1_2_0_17), .val (.ref x1_2_0_18), .val (.ref b19), .val (.int 1), .val (.int 0), .val (.int p3)] [(.int 1), (.int 0), (.ref b19)])) rfl (by rw [hml]; rfl) (Steps.refl _) (argsL := [(.int (0 : Int32)), (.int (1 : Int32))]) (rest := []) (lenOf pd5 rfl) rfl (by show 2 * 0 + _ ≤ _; exact Nat.le_of_eq rfl) (hb hby at_123) (fun _ _ => ⟨rfl, e31, (by decide : 4 + 0 ≤ _), (by decide : 18 + 0 ≤ _)⟩)
            dsimp only [Pt.U, Pt.locs, Pt.cells, Pt.slots] at X32 l32 y32 z32 st32 hQ32
            subst l32 y32 z32
            refine Go.tr st32 ?_
            obtain ⟨rfl, N32q, e32⟩ := hQ32
            have N32 := Fr.app N31 N32q
            show Go _ _ _ (T32.setTop (mkF m 126 #[.val (.int p1), .val (.int p2), .val (.int p3), .val (.int p4), .val (.int p5), .val (.int p6), .val (.int 2), .val (.int 0), .val (.int 1), .val (.ref x1_2_0_17), .val (.ref x1_2_0_18), .val (.ref b19), .val (.int 1), .val (.int 0), .val (.int p3)] [(.int p3)])) _
            refine Go.st (fun t k => XS.iload X32.here hx rfl (hb hby at_126) rfl k) ?_
            refine Go.st (fun t k => XS.icmpNo X32.here hx rfl (hb hby at_128) rfl (teq (rfl : p3 = p3)).2 k) ?_
            show Go _ _ _ (T32.setTop (mkF m 131 #[.val (.int p1), .val (.int p2), .val (.int p3), .val (.int p4), .val (.int p5), .val (.int p6), .val (.int 2), .val (.int 0), .val (.int 1), .val (.ref x1_2_0_17), .val (.ref x1_2_0_18), .val (.ref b19), .val (.int 1), .val (.int 0), .val (.int p3)] [])) _
            refine Go.st (fun t k => XS.iconst X32.here hx rfl (hb hby at_131) k) ?_
            refine Go.st (fun t k => XS.goto X32.here hx rfl (pc0 := 132) (pc' := 136) rfl (hb hby at_132) (by decide) (by decide) k) ?_
            obtain ⟨fs, hr, hrun, hended, hW, hsame⟩ := X32.leave (v := some (.int (1 : Int32))) (fun h => by rw [Bd.returns] at h; cases h)
            refine Go.fin (retN X32 hx (t := .boolean) Bd.returns (by simp) (hb hby at_136) hr) hrun hended ⟨_, _, rfl, ?_, ⟨_, rfl⟩, hW, hsame.mono (by decide) (by decide)⟩
            show Q0 Z p1 p2 p3 p4 p5 p6 w_NI k_NI h0 n0 _ T32.heap _
            rw [e32]
            exact ⟨rfl, N32⟩
          · rw [own_b1 p6 hc30]
            show Go _ _ _ (T22.setTop (mkF m 82 #[.val (.int p1), .val (.int p2), .val (.int p3), .val (.int p4), .val (.int p5), .val (.int p6), .val (.int 2), .val (.int 1), .val (.int 1), .val (.ref x1_2_0_17), .val (.ref x1_2_0_18), .val (.ref b19), .val (.int 1), .unset, .unset] [])) _
            refine Go.st (fun t k => XS.iload X22.here hx rfl (hb hby at_82) rfl k) ?_
            refine Go.st (fun t k => XS.goto X22.here hx rfl (pc0 := 84) (pc' := 88) rfl (hb hby at_84) (by decide) (by decide) k) ?_
            refine Go.st (fun t k => XS.istore X22.here hx rfl (hb hby at_88) rfl (l' := #[.val (.int p1), .val (.int p2), .val (.int p3), .val (.int p4), .val (.int p5), .val (.int p6), .val (.int 2), .val (.int 1), .val (.int 1), .val (.ref x1_2_0_17), .val (.ref x1_2_0_18), .val (.ref b19), .val (.int 1), .val (.int 1), .unset]) rfl k) ?_
            refine Go.st (fun t k => XS.iload X22.here hx rfl (hb hby at_90) rfl k) ?_
            refine Go.st (fun t k => XS.ifYes X22.here hx rfl (pc0 := 92) (pc' := 106) rfl (hb hby at_92) rfl ((if0 _ _).trans (feq (by decide : ¬ ((1 : Int32) = (0 : Int32)))).2) (by decide) (by decide) k) ?_
            show Go _ _ _ (T22.setTop (mkF m 106 #[.val (.int p1), .val (.int p2), .val (.int p3), .val (.int p4), .val (.int p5), .val (.int p6), .val (.int 2), .val (.int 1), .val (.int 1), .val (.ref x1_2_0_17), .val (.ref x1_2_0_18), .val (.ref b19), .val (.int 1), .val (.int 1), .unset] [])) _
            refine Go.st (fun t k => XS.iload X22.here hx rfl (hb hby at_106) rfl k) ?_
            refine Go.st (fun t k => XS.iload X22.here hx rfl (hb hby at_108) rfl k) ?_
            refine Go.st (fun t k => XS.iloadN X22.here hx rfl (hb hby at_110) rfl k) ?_
            refine Go.st (fun t k => XS.iloadN X22.here hx rfl (hb hby at_111) rfl k) ?_
            obtain ⟨_, _, ⟨T33, L33, k33, n33⟩, -, X33, ⟨Lc33, hQ33, l33, y33, z33⟩, st33⟩ := Jvm.LawKit.callS X22 hx (y := (⟨"com/example/bitlattice/bitlattice/eval/RelationGetPinLaw", "pick", "(IIII)I"⟩ : MethodName)) hown (mvT hZ (wd46 hw)) (mvT hZ (wd47 hw)) (mvT hZ (wd3 hw)) (mvT hZ (wd48 hw)) (by decide) (backOf (W := 0) (rm7 l Z a0 hw [] (1 : Int32) p5 p4 p2 h22 n0 Z0) hZ (wd48 hw) (wd3 hw) (by decide) (by decide)) (g := (mkF m 112 #[.val (.int p1), .val (.int p2), .val (.int p3), .val (.int p4), .val (.int p5), .val (.int p6), .val (.int 2), .val (.int 1), .val (.int 1), .val (.ref x1_2_0_17), .val (.ref x1_2_0_18), .val (.ref b19), .val (.int 1), .val (.int 1), .unset] [(.int p2), (.int p4), (.int p5), (.int 1)])) rfl (by rw [hml]; rfl) (argsL := [(.int (1 : Int32)), (.int p5), (.int p4), (.int p2)]) (rest := []) (lenOf pd4 rfl) rfl (by show 2 * 0 + _ ≤ _; exact Nat.le_of_eq rfl) (hb hby at_112) (fun _ _ => ⟨rfl, e22, (by decide : 4 + 0 ≤ _), (by decide : 18 + 0 ≤ _)⟩)
            dsimp only [Pt.U, Pt.locs, Pt.cells, Pt.slots] at X33 l33 y33 z33 st33 hQ33
            subst l33 y33 z33
            refine Go.st st33 ?_
            obtain ⟨rfl, N33q, e33⟩ := hQ33
            have N33 := Fr.app N22 N33q
            show Go _ _ _ (T33.setTop (mkF m 115 #[.val (.int p1), .val (.int p2), .val (.int p3), .val (.int p4), .val (.int p5), .val (.int p6), .val (.int 2), .val (.int 1), .val (.int 1), .val (.ref x1_2_0_17), .val (.ref x1_2_0_18), .val (.ref b19), .val (.int 1), .val (.int 1), .unset] [(.int (f7 (1 : Int32) p5 p4 p2))])) _
            rw [show (f7 (1 : Int32) p5 p4 p2) = p4 from by unfold f7; simp only [if_neg (by decide : ¬ ((1 : Int32) = (0 : Int32))), if_pos (by decide : (1 : Int32) = (1 : Int32)), if_true, if_false]]
            show Go _ _ _ (T33.setTop (mkF m 115 #[.val (.int p1), .val (.int p2), .val (.int p3), .val (.int p4), .val (.int p5), .val (.int p6), .val (.int 2), .val (.int 1), .val (.int 1), .val (.ref x1_2_0_17), .val (.ref x1_2_0_18), .val (.ref b19), .val (.int 1), .val (.int 1), .unset] [(.int p4)])) _
            refine Go.st (fun t k => XS.istore X33.here hx rfl (hb hby at_115) rfl (l' := #[.val (.int p1), .val (.int p2), .val (.int p3), .val (.int p4), .val (.int p5), .val (.int p6), .val (.int 2), .val (.int 1), .val (.int 1), .val (.ref x1_2_0_17), .val (.ref x1_2_0_18), .val (.ref b19), .val (.int 1), .val (.int 1), .val (.int p4)]) rfl k) ?_
            refine Go.st (fun t k => XS.aload X33.here hx rfl (hb hby at_117) rfl rfl k) ?_
            refine Go.st (fun t k => XS.iload X33.here hx rfl (hb hby at_119) rfl k) ?_
            refine Go.st (fun t k => XS.iload X33.here hx rfl (hb hby at_121) rfl k) ?_
            obtain ⟨cq34, kq34, q34a, q34b, q34c⟩ := isOf hZ e33 E_b19
            obtain ⟨_, _, ⟨T34, L34, k34, n34⟩, -, X34, ⟨Lc34, hQ34, l34, y34, z34⟩, st34⟩ := X33.virtualBack hx (y := (⟨"com/example/bitlattice/bitlattice/eval/Relation", "get", "(II)I"⟩ : MethodName)) (z := (⟨"com/example/bitlattice/bitlattice/eval/Relation", "get", "(II)I"⟩ : MethodName)) hown (mvT hZ (wd49 hw)) (mvT hZ (wd50 hw)) (notFace_of_selects (args := #[]) (mvT hZ (wd52 hw))) (mvT hZ (wd52 hw)) (mvT hZ (wd51 hw)) (by decide) (backOf (W := 0) (rm8 l Z a0 hw [] b19 (1 : Int32) (1 : Int32) (2 : Int32) x2_2_0_20 k_x2_2_0_20 [(.int p2), (.int p3), (.int p5), (.int p4), (.int (0 : Int32)), (.int (0 : Int32)), (.int (0 : Int32)), (.int (0 : Int32))] (8 : Int32) p4 h22 n0 Z0 F_b19_values F_b19_arity V_x2_2_0_20 (by decide) rfl) hZ (wd53 hw) (wd8 hw) (by decide) (by decide)) q34a q34c (g := (mkF m 123 #[.val (.int p1), .val (.int p2), .val (.int p3), .val (.int p4), .val (.int p5), .val (.int p6), .val (.int 2), .val (.int 1), .val (.int 1), .val (.ref x1_2_0_17), .val (.ref x1_2_0_18), .val (.ref b19), .val (.int 1), .val (.int 1), .val (.int p4)] [(.int 1), (.int 1), (.ref b19)])) rfl (by rw [hml]; rfl) (Steps.refl _) (argsL := [(.int (1 : Int32)), (.int (1 : Int32))]) (rest := []) (lenOf pd5 rfl) rfl (by show 2 * 0 + _ ≤ _; exact Nat.le_of_eq rfl) (hb hby at_123) (fun _ _ => ⟨rfl, e33, (by decide : 4 + 0 ≤ _), (by decide : 18 + 0 ≤ _)⟩)
            dsimp only [Pt.U, Pt.locs, Pt.cells, Pt.slots] at X34 l34 y34 z34 st34 hQ34
            subst l34 y34 z34
            refine Go.tr st34 ?_
            obtain ⟨rfl, N34q, e34⟩ := hQ34
            have N34 := Fr.app N33 N34q
            show Go _ _ _ (T34.setTop (mkF m 126 #[.val (.int p1), .val (.int p2), .val (.int p3), .val (.int p4), .val (.int p5), .val (.int p6), .val (.int 2), .val (.int 1), .val (.int 1), .val (.ref x1_2_0_17), .val (.ref x1_2_0_18), .val (.ref b19), .val (.int 1), .val (.int 1), .val (.int p4)] [(.int p4)])) _
            refine Go.st (fun t k => XS.iload X34.here hx rfl (hb hby at_126) rfl k) ?_
            refine Go.st (fun t k => XS.icmpNo X34.here hx rfl (hb hby at_128) rfl (teq (rfl : p4 = p4)).2 k) ?_
            show Go _ _ _ (T34.setTop (mkF m 131 #[.val (.int p1), .val (.int p2), .val (.int p3), .val (.int p4), .val (.int p5), .val (.int p6), .val (.int 2), .val (.int 1), .val (.int 1), .val (.ref x1_2_0_17), .val (.ref x1_2_0_18), .val (.ref b19), .val (.int 1), .val (.int 1), .val (.int p4)] [])) _
            refine Go.st (fun t k => XS.iconst X34.here hx rfl (hb hby at_131) k) ?_
            refine Go.st (fun t k => XS.goto X34.here hx rfl (pc0 := 132) (pc' := 136) rfl (hb hby at_132) (by decide) (by decide) k) ?_
            obtain ⟨fs, hr, hrun, hended, hW, hsame⟩ := X34.leave (v := some (.int (1 : Int32))) (fun h => by rw [Bd.returns] at h; cases h)
            refine Go.fin (retN X34 hx (t := .boolean) Bd.returns (by simp) (hb hby at_136) hr) hrun hended ⟨_, _, rfl, ?_, ⟨_, rfl⟩, hW, hsame.mono (by decide) (by decide)⟩
            show Q0 Z p1 p2 p3 p4 p5 p6 w_NI k_NI h0 n0 _ T34.heap _
            rw [e34]
            exact ⟨rfl, N34⟩
      · rw [show (f4_2_1 p2 p3 p5 p4) = (0 : Int32) from by unfold f4_2_1; simp only [if_neg hc23, if_true, if_false]]
        rw [show (f4_2_1_a1_size p2 p3 p5 p4) = (1 : Int32) from by unfold f4_2_1_a1_size; simp only [if_neg hc23, if_true, if_false]] at F_b19_size
        replace V_x2_2_0_20 : Arv Z h22 x2_2_0_20 k_x2_2_0_20 .int (8 : Int32) [(.int p2), (.int p3), (.int (0 : Int32)), (.int (0 : Int32)), (.int (0 : Int32)), (.int (0 : Int32)), (.int (0 : Int32)), (.int (0 : Int32))] (.int (0 : Int32)) := (by have hq := V_x2_2_0_20; unfold f4_2_1_vals_2 f4_2_1_vals_3 at hq; simp only [if_neg hc23] at hq; exact hq)
        show Go _ _ _ (T22.setTop (mkF m 75 #[.val (.int p1), .val (.int p2), .val (.int p3), .val (.int p4), .val (.int p5), .val (.int p6), .val (.int 2), .val (.int (p6 &&& (1 : Int32))), .val (.int ((((p6.toUInt32 >>> ((1 : Int32) &&& 31).toUInt32).toInt32) &&& (2147483647 : Int32)) % (2 : Int32))), .val (.ref x1_2_0_17), .val (.ref x1_2_0_18), .val (.ref b19), .unset, .unset, .unset] [(.int 0)])) _
        refine Go.st (fun t k => XS.istore X22.here hx rfl (hb hby at_75) rfl (l' := #[.val (.int p1), .val (.int p2), .val (.int p3), .val (.int p4), .val (.int p5), .val (.int p6), .val (.int 2), .val (.int (p6 &&& (1 : Int32))), .val (.int ((((p6.toUInt32 >>> ((1 : Int32) &&& 31).toUInt32).toInt32) &&& (2147483647 : Int32)) % (2 : Int32))), .val (.ref x1_2_0_17), .val (.ref x1_2_0_18), .val (.ref b19), .val (.int 0), .unset, .unset]) rfl k) ?_
        show Go _ _ _ (T22.setTop (mkF m 77 #[.val (.int p1), .val (.int p2), .val (.int p3), .val (.int p4), .val (.int p5), .val (.int p6), .val (.int 2), .val (.int (p6 &&& (1 : Int32))), .val (.int ((((p6.toUInt32 >>> ((1 : Int32) &&& 31).toUInt32).toInt32) &&& (2147483647 : Int32)) % (2 : Int32))), .val (.ref x1_2_0_17), .val (.ref x1_2_0_18), .val (.ref b19), .val (.int 0), .unset, .unset] [])) _
        by_cases hc35 : ((((p6.toUInt32 >>> ((1 : Int32) &&& 31).toUInt32).toInt32) &&& (2147483647 : Int32)) % (2 : Int32)) = (0 : Int32)
        · rw [hc35]
          show Go _ _ _ (T22.setTop (mkF m 77 #[.val (.int p1), .val (.int p2), .val (.int p3), .val (.int p4), .val (.int p5), .val (.int p6), .val (.int 2), .val (.int (p6 &&& (1 : Int32))), .val (.int 0), .val (.ref x1_2_0_17), .val (.ref x1_2_0_18), .val (.ref b19), .val (.int 0), .unset, .unset] [])) _
          refine Go.st (fun t k => XS.iload X22.here hx rfl (hb hby at_77) rfl k) ?_
          refine Go.st (fun t k => XS.ifYes X22.here hx rfl (pc0 := 79) (pc' := 87) rfl (hb hby at_79) rfl ((if0 _ _).trans (teq (by decide : (0 : Int32) = (0 : Int32))).1) (by decide) (by decide) k) ?_
          show Go _ _ _ (T22.setTop (mkF m 87 #[.val (.int p1), .val (.int p2), .val (.int p3), .val (.int p4), .val (.int p5), .val (.int p6), .val (.int 2), .val (.int (p6 &&& (1 : Int32))), .val (.int 0), .val (.ref x1_2_0_17), .val (.ref x1_2_0_18), .val (.ref b19), .val (.int 0), .unset, .unset] [])) _
          refine Go.st (fun t k => XS.iconst X22.here hx rfl (hb hby at_87) k) ?_
          refine Go.st (fun t k => XS.istore X22.here hx rfl (hb hby at_88) rfl (l' := #[.val (.int p1), .val (.int p2), .val (.int p3), .val (.int p4), .val (.int p5), .val (.int p6), .val (.int 2), .val (.int (p6 &&& (1 : Int32))), .val (.int 0), .val (.ref x1_2_0_17), .val (.ref x1_2_0_18), .val (.ref b19), .val (.int 0), .val (.int 0), .unset]) rfl k) ?_
          refine Go.st (fun t k => XS.iload X22.here hx rfl (hb hby at_90) rfl k) ?_
          refine Go.st (fun t k => XS.ifNo X22.here hx rfl (hb hby at_92) rfl ((if0 _ _).trans (teq (by decide : (0 : Int32) = (0 : Int32))).2) k) ?_
          show Go _ _ _ (T22.setTop (mkF m 95 #[.val (.int p1), .val (.int p2), .val (.int p3), .val (.int p4), .val (.int p5), .val (.int p6), .val (.int 2), .val (.int (p6 &&& (1 : Int32))), .val (.int 0), .val (.ref x1_2_0_17), .val (.ref x1_2_0_18), .val (.ref b19), .val (.int 0), .val (.int 0), .unset] [])) _
          refine Go.st (fun t k => XS.iload X22.here hx rfl (hb hby at_95) rfl k) ?_
          refine Go.st (fun t k => XS.iloadN X22.here hx rfl (hb hby at_97) rfl k) ?_
          refine Go.st (fun t k => XS.iloadN X22.here hx rfl (hb hby at_98) rfl k) ?_
          refine Go.st (fun t k => XS.iloadN X22.here hx rfl (hb hby at_99) rfl k) ?_
          obtain ⟨_, _, ⟨T36, L36, k36, n36⟩, -, X36, ⟨Lc36, hQ36, l36, y36, z36⟩, st36⟩ := Jvm.LawKit.callS X22 hx (y := (⟨"com/example/bitlattice/bitlattice/eval/RelationGetPinLaw", "pick", "(IIII)I"⟩ : MethodName)) hown (mvT hZ (wd46 hw)) (mvT hZ (wd47 hw)) (mvT hZ (wd3 hw)) (mvT hZ (wd48 hw)) (by decide) (backOf (W := 0) (rm7 l Z a0 hw [] (0 : Int32) p2 p3 p4 h22 n0 Z0) hZ (wd48 hw) (wd3 hw) (by decide) (by decide)) (g := (mkF m 100 #[.val (.int p1), .val (.int p2), .val (.int p3), .val (.int p4), .val (.int p5), .val (.int p6), .val (.int 2), .val (.int (p6 &&& (1 : Int32))), .val (.int 0), .val (.ref x1_2_0_17), .val (.ref x1_2_0_18), .val (.ref b19), .val (.int 0), .val (.int 0), .unset] [(.int p4), (.int p3), (.int p2), (.int 0)])) rfl (by rw [hml]; rfl) (argsL := [(.int (0 : Int32)), (.int p2), (.int p3), (.int p4)]) (rest := []) (lenOf pd4 rfl) rfl (by show 2 * 0 + _ ≤ _; exact Nat.le_of_eq rfl) (hb hby at_100) (fun _ _ => ⟨rfl, e22, (by decide : 4 + 0 ≤ _), (by decide : 18 + 0 ≤ _)⟩)
          dsimp only [Pt.U, Pt.locs, Pt.cells, Pt.slots] at X36 l36 y36 z36 st36 hQ36
          subst l36 y36 z36
          refine Go.st st36 ?_
          obtain ⟨rfl, N36q, e36⟩ := hQ36
          have N36 := Fr.app N22 N36q
          show Go _ _ _ (T36.setTop (mkF m 103 #[.val (.int p1), .val (.int p2), .val (.int p3), .val (.int p4), .val (.int p5), .val (.int p6), .val (.int 2), .val (.int (p6 &&& (1 : Int32))), .val (.int 0), .val (.ref x1_2_0_17), .val (.ref x1_2_0_18), .val (.ref b19), .val (.int 0), .val (.int 0), .unset] [(.int (f7 (0 : Int32) p2 p3 p4))])) _
          rw [show (f7 (0 : Int32) p2 p3 p4) = p2 from by unfold f7; simp only [if_pos (by decide : (0 : Int32) = (0 : Int32)), if_true, if_false]]
          show Go _ _ _ (T36.setTop (mkF m 103 #[.val (.int p1), .val (.int p2), .val (.int p3), .val (.int p4), .val (.int p5), .val (.int p6), .val (.int 2), .val (.int (p6 &&& (1 : Int32))), .val (.int 0), .val (.ref x1_2_0_17), .val (.ref x1_2_0_18), .val (.ref b19), .val (.int 0), .val (.int 0), .unset] [(.int p2)])) _
          refine Go.st (fun t k => XS.goto X36.here hx rfl (pc0 := 103) (pc' := 115) rfl (hb hby at_103) (by decide) (by decide) k) ?_
          refine Go.st (fun t k => XS.istore X36.here hx rfl (hb hby at_115) rfl (l' := #[.val (.int p1), .val (.int p2), .val (.int p3), .val (.int p4), .val (.int p5), .val (.int p6), .val (.int 2), .val (.int (p6 &&& (1 : Int32))), .val (.int 0), .val (.ref x1_2_0_17), .val (.ref x1_2_0_18), .val (.ref b19), .val (.int 0), .val (.int 0), .val (.int p2)]) rfl k) ?_
          refine Go.st (fun t k => XS.aload X36.here hx rfl (hb hby at_117) rfl rfl k) ?_
          refine Go.st (fun t k => XS.iload X36.here hx rfl (hb hby at_119) rfl k) ?_
          refine Go.st (fun t k => XS.iload X36.here hx rfl (hb hby at_121) rfl k) ?_
          obtain ⟨cq37, kq37, q37a, q37b, q37c⟩ := isOf hZ e36 E_b19
          obtain ⟨_, _, ⟨T37, L37, k37, n37⟩, -, X37, ⟨Lc37, hQ37, l37, y37, z37⟩, st37⟩ := X36.virtualBack hx (y := (⟨"com/example/bitlattice/bitlattice/eval/Relation", "get", "(II)I"⟩ : MethodName)) (z := (⟨"com/example/bitlattice/bitlattice/eval/Relation", "get", "(II)I"⟩ : MethodName)) hown (mvT hZ (wd49 hw)) (mvT hZ (wd50 hw)) (notFace_of_selects (args := #[]) (mvT hZ (wd52 hw))) (mvT hZ (wd52 hw)) (mvT hZ (wd51 hw)) (by decide) (backOf (W := 0) (rm8 l Z a0 hw [] b19 (0 : Int32) (0 : Int32) (2 : Int32) x2_2_0_20 k_x2_2_0_20 [(.int p2), (.int p3), (.int (0 : Int32)), (.int (0 : Int32)), (.int (0 : Int32)), (.int (0 : Int32)), (.int (0 : Int32)), (.int (0 : Int32))] (8 : Int32) p2 h22 n0 Z0 F_b19_values F_b19_arity V_x2_2_0_20 (by decide) rfl) hZ (wd53 hw) (wd8 hw) (by decide) (by decide)) q37a q37c (g := (mkF m 123 #[.val (.int p1), .val (.int p2), .val (.int p3), .val (.int p4), .val (.int p5), .val (.int p6), .val (.int 2), .val (.int (p6 &&& (1 : Int32))), .val (.int 0), .val (.ref x1_2_0_17), .val (.ref x1_2_0_18), .val (.ref b19), .val (.int 0), .val (.int 0), .val (.int p2)] [(.int 0), (.int 0), (.ref b19)])) rfl (by rw [hml]; rfl) (Steps.refl _) (argsL := [(.int (0 : Int32)), (.int (0 : Int32))]) (rest := []) (lenOf pd5 rfl) rfl (by show 2 * 0 + _ ≤ _; exact Nat.le_of_eq rfl) (hb hby at_123) (fun _ _ => ⟨rfl, e36, (by decide : 4 + 0 ≤ _), (by decide : 18 + 0 ≤ _)⟩)
          dsimp only [Pt.U, Pt.locs, Pt.cells, Pt.slots] at X37 l37 y37 z37 st37 hQ37
          subst l37 y37 z37
          refine Go.tr st37 ?_
          obtain ⟨rfl, N37q, e37⟩ := hQ37
          have N37 := Fr.app N36 N37q
          show Go _ _ _ (T37.setTop (mkF m 126 #[.val (.int p1), .val (.int p2), .val (.int p3), .val (.int p4), .val (.int p5), .val (.int p6), .val (.int 2), .val (.int (p6 &&& (1 : Int32))), .val (.int 0), .val (.ref x1_2_0_17), .val (.ref x1_2_0_18), .val (.ref b19), .val (.int 0), .val (.int 0), .val (.int p2)] [(.int p2)])) _
          refine Go.st (fun t k => XS.iload X37.here hx rfl (hb hby at_126) rfl k) ?_
          refine Go.st (fun t k => XS.icmpNo X37.here hx rfl (hb hby at_128) rfl (teq (rfl : p2 = p2)).2 k) ?_
          show Go _ _ _ (T37.setTop (mkF m 131 #[.val (.int p1), .val (.int p2), .val (.int p3), .val (.int p4), .val (.int p5), .val (.int p6), .val (.int 2), .val (.int (p6 &&& (1 : Int32))), .val (.int 0), .val (.ref x1_2_0_17), .val (.ref x1_2_0_18), .val (.ref b19), .val (.int 0), .val (.int 0), .val (.int p2)] [])) _
          refine Go.st (fun t k => XS.iconst X37.here hx rfl (hb hby at_131) k) ?_
          refine Go.st (fun t k => XS.goto X37.here hx rfl (pc0 := 132) (pc' := 136) rfl (hb hby at_132) (by decide) (by decide) k) ?_
          obtain ⟨fs, hr, hrun, hended, hW, hsame⟩ := X37.leave (v := some (.int (1 : Int32))) (fun h => by rw [Bd.returns] at h; cases h)
          refine Go.fin (retN X37 hx (t := .boolean) Bd.returns (by simp) (hb hby at_136) hr) hrun hended ⟨_, _, rfl, ?_, ⟨_, rfl⟩, hW, hsame.mono (by decide) (by decide)⟩
          show Q0 Z p1 p2 p3 p4 p5 p6 w_NI k_NI h0 n0 _ T37.heap _
          rw [e37]
          exact ⟨rfl, N37⟩
        · rw [own_m2 ((p6.toUInt32 >>> ((1 : Int32) &&& 31).toUInt32).toInt32) hc35]
          show Go _ _ _ (T22.setTop (mkF m 77 #[.val (.int p1), .val (.int p2), .val (.int p3), .val (.int p4), .val (.int p5), .val (.int p6), .val (.int 2), .val (.int (p6 &&& (1 : Int32))), .val (.int 1), .val (.ref x1_2_0_17), .val (.ref x1_2_0_18), .val (.ref b19), .val (.int 0), .unset, .unset] [])) _
          refine Go.st (fun t k => XS.iload X22.here hx rfl (hb hby at_77) rfl k) ?_
          refine Go.st (fun t k => XS.ifYes X22.here hx rfl (pc0 := 79) (pc' := 87) rfl (hb hby at_79) rfl ((if0 _ _).trans (teq (by decide : (0 : Int32) = (0 : Int32))).1) (by decide) (by decide) k) ?_
          show Go _ _ _ (T22.setTop (mkF m 87 #[.val (.int p1), .val (.int p2), .val (.int p3), .val (.int p4), .val (.int p5), .val (.int p6), .val (.int 2), .val (.int (p6 &&& (1 : Int32))), .val (.int 1), .val (.ref x1_2_0_17), .val (.ref x1_2_0_18), .val (.ref b19), .val (.int 0), .unset, .unset] [])) _
          refine Go.st (fun t k => XS.iconst X22.here hx rfl (hb hby at_87) k) ?_
          refine Go.st (fun t k => XS.istore X22.here hx rfl (hb hby at_88) rfl (l' := #[.val (.int p1), .val (.int p2), .val (.int p3), .val (.int p4), .val (.int p5), .val (.int p6), .val (.int 2), .val (.int (p6 &&& (1 : Int32))), .val (.int 1), .val (.ref x1_2_0_17), .val (.ref x1_2_0_18), .val (.ref b19), .val (.int 0), .val (.int 0), .unset]) rfl k) ?_
          refine Go.st (fun t k => XS.iload X22.here hx rfl (hb hby at_90) rfl k) ?_
          refine Go.st (fun t k => XS.ifNo X22.here hx rfl (hb hby at_92) rfl ((if0 _ _).trans (teq (by decide : (0 : Int32) = (0 : Int32))).2) k) ?_
          show Go _ _ _ (T22.setTop (mkF m 95 #[.val (.int p1), .val (.int p2), .val (.int p3), .val (.int p4), .val (.int p5), .val (.int p6), .val (.int 2), .val (.int (p6 &&& (1 : Int32))), .val (.int 1), .val (.ref x1_2_0_17), .val (.ref x1_2_0_18), .val (.ref b19), .val (.int 0), .val (.int 0), .unset] [])) _
          refine Go.st (fun t k => XS.iload X22.here hx rfl (hb hby at_95) rfl k) ?_
          refine Go.st (fun t k => XS.iloadN X22.here hx rfl (hb hby at_97) rfl k) ?_
          refine Go.st (fun t k => XS.iloadN X22.here hx rfl (hb hby at_98) rfl k) ?_
          refine Go.st (fun t k => XS.iloadN X22.here hx rfl (hb hby at_99) rfl k) ?_
          obtain ⟨_, _, ⟨T38, L38, k38, n38⟩, -, X38, ⟨Lc38, hQ38, l38, y38, z38⟩, st38⟩ := Jvm.LawKit.callS X22 hx (y := (⟨"com/example/bitlattice/bitlattice/eval/RelationGetPinLaw", "pick", "(IIII)I"⟩ : MethodName)) hown (mvT hZ (wd46 hw)) (mvT hZ (wd47 hw)) (mvT hZ (wd3 hw)) (mvT hZ (wd48 hw)) (by decide) (backOf (W := 0) (rm7 l Z a0 hw [] (1 : Int32) p2 p3 p4 h22 n0 Z0) hZ (wd48 hw) (wd3 hw) (by decide) (by decide)) (g := (mkF m 100 #[.val (.int p1), .val (.int p2), .val (.int p3), .val (.int p4), .val (.int p5), .val (.int p6), .val (.int 2), .val (.int (p6 &&& (1 : Int32))), .val (.int 1), .val (.ref x1_2_0_17), .val (.ref x1_2_0_18), .val (.ref b19), .val (.int 0), .val (.int 0), .unset] [(.int p4), (.int p3), (.int p2), (.int 1)])) rfl (by rw [hml]; rfl) (argsL := [(.int (1 : Int32)), (.int p2), (.int p3), (.int p4)]) (rest := []) (lenOf pd4 rfl) rfl (by show 2 * 0 + _ ≤ _; exact Nat.le_of_eq rfl) (hb hby at_100) (fun _ _ => ⟨rfl, e22, (by decide : 4 + 0 ≤ _), (by decide : 18 + 0 ≤ _)⟩)
          dsimp only [Pt.U, Pt.locs, Pt.cells, Pt.slots] at X38 l38 y38 z38 st38 hQ38
          subst l38 y38 z38
          refine Go.st st38 ?_
          obtain ⟨rfl, N38q, e38⟩ := hQ38
          have N38 := Fr.app N22 N38q
          show Go _ _ _ (T38.setTop (mkF m 103 #[.val (.int p1), .val (.int p2), .val (.int p3), .val (.int p4), .val (.int p5), .val (.int p6), .val (.int 2), .val (.int (p6 &&& (1 : Int32))), .val (.int 1), .val (.ref x1_2_0_17), .val (.ref x1_2_0_18), .val (.ref b19), .val (.int 0), .val (.int 0), .unset] [(.int (f7 (1 : Int32) p2 p3 p4))])) _
          rw [show (f7 (1 : Int32) p2 p3 p4) = p3 from by unfold f7; simp only [if_neg (by decide : ¬ ((1 : Int32) = (0 : Int32))), if_pos (by decide : (1 : Int32) = (1 : Int32)), if_true, if_false]]
          show Go _ _ _ (T38.setTop (mkF m 103 #[.val (.int p1), .val (.int p2), .val (.int p3), .val (.int p4), .val (.int p5), .val (.int p6), .val (.int 2), .val (.int (p6 &&& (1 : Int32))), .val (.int 1), .val (.ref x1_2_0_17), .val (.ref x1_2_0_18), .val (.ref b19), .val (.int 0), .val (.int 0), .unset] [(.int p3)])) _
          refine Go.st (fun t k => XS.goto X38.here hx rfl (pc0 := 103) (pc' := 115) rfl (hb hby at_103) (by decide) (by decide) k) ?_
          refine Go.st (fun t k => XS.istore X38.here hx rfl (hb hby at_115) rfl (l' := #[.val (.int p1), .val (.int p2), .val (.int p3), .val (.int p4), .val (.int p5), .val (.int p6), .val (.int 2), .val (.int (p6 &&& (1 : Int32))), .val (.int 1), .val (.ref x1_2_0_17), .val (.ref x1_2_0_18), .val (.ref b19), .val (.int 0), .val (.int 0), .val (.int p3)]) rfl k) ?_
          refine Go.st (fun t k => XS.aload X38.here hx rfl (hb hby at_117) rfl rfl k) ?_
          refine Go.st (fun t k => XS.iload X38.here hx rfl (hb hby at_119) rfl k) ?_
          refine Go.st (fun t k => XS.iload X38.here hx rfl (hb hby at_121) rfl k) ?_
          obtain ⟨cq39, kq39, q39a, q39b, q39c⟩ := isOf hZ e38 E_b19
          obtain ⟨_, _, ⟨T39, L39, k39, n39⟩, -, X39, ⟨Lc39, hQ39, l39, y39, z39⟩, st39⟩ := X38.virtualBack hx (y := (⟨"com/example/bitlattice/bitlattice/eval/Relation", "get", "(II)I"⟩ : MethodName)) (z := (⟨"com/example/bitlattice/bitlattice/eval/Relation", "get", "(II)I"⟩ : MethodName)) hown (mvT hZ (wd49 hw)) (mvT hZ (wd50 hw)) (notFace_of_selects (args := #[]) (mvT hZ (wd52 hw))) (mvT hZ (wd52 hw)) (mvT hZ (wd51 hw)) (by decide) (backOf (W := 0) (rm8 l Z a0 hw [] b19 (0 : Int32) (1 : Int32) (2 : Int32) x2_2_0_20 k_x2_2_0_20 [(.int p2), (.int p3), (.int (0 : Int32)), (.int (0 : Int32)), (.int (0 : Int32)), (.int (0 : Int32)), (.int (0 : Int32)), (.int (0 : Int32))] (8 : Int32) p3 h22 n0 Z0 F_b19_values F_b19_arity V_x2_2_0_20 (by decide) rfl) hZ (wd53 hw) (wd8 hw) (by decide) (by decide)) q39a q39c (g := (mkF m 123 #[.val (.int p1), .val (.int p2), .val (.int p3), .val (.int p4), .val (.int p5), .val (.int p6), .val (.int 2), .val (.int (p6 &&& (1 : Int32))), .val (.int 1), .val (.ref x1_2_0_17), .val (.ref x1_2_0_18), .val (.ref b19), .val (.int 0), .val (.int 0), .val (.int p3)] [(.int 1), (.int 0), (.ref b19)])) rfl (by rw [hml]; rfl) (Steps.refl _) (argsL := [(.int (0 : Int32)), (.int (1 : Int32))]) (rest := []) (lenOf pd5 rfl) rfl (by show 2 * 0 + _ ≤ _; exact Nat.le_of_eq rfl) (hb hby at_123) (fun _ _ => ⟨rfl, e38, (by decide : 4 + 0 ≤ _), (by decide : 18 + 0 ≤ _)⟩)
          dsimp only [Pt.U, Pt.locs, Pt.cells, Pt.slots] at X39 l39 y39 z39 st39 hQ39
          subst l39 y39 z39
          refine Go.tr st39 ?_
          obtain ⟨rfl, N39q, e39⟩ := hQ39
          have N39 := Fr.app N38 N39q
          show Go _ _ _ (T39.setTop (mkF m 126 #[.val (.int p1), .val (.int p2), .val (.int p3), .val (.int p4), .val (.int p5), .val (.int p6), .val (.int 2), .val (.int (p6 &&& (1 : Int32))), .val (.int 1), .val (.ref x1_2_0_17), .val (.ref x1_2_0_18), .val (.ref b19), .val (.int 0), .val (.int 0), .val (.int p3)] [(.int p3)])) _
          refine Go.st (fun t k => XS.iload X39.here hx rfl (hb hby at_126) rfl k) ?_
          refine Go.st (fun t k => XS.icmpNo X39.here hx rfl (hb hby at_128) rfl (teq (rfl : p3 = p3)).2 k) ?_
          show Go _ _ _ (T39.setTop (mkF m 131 #[.val (.int p1), .val (.int p2), .val (.int p3), .val (.int p4), .val (.int p5), .val (.int p6), .val (.int 2), .val (.int (p6 &&& (1 : Int32))), .val (.int 1), .val (.ref x1_2_0_17), .val (.ref x1_2_0_18), .val (.ref b19), .val (.int 0), .val (.int 0), .val (.int p3)] [])) _
          refine Go.st (fun t k => XS.iconst X39.here hx rfl (hb hby at_131) k) ?_
          refine Go.st (fun t k => XS.goto X39.here hx rfl (pc0 := 132) (pc' := 136) rfl (hb hby at_132) (by decide) (by decide) k) ?_
          obtain ⟨fs, hr, hrun, hended, hW, hsame⟩ := X39.leave (v := some (.int (1 : Int32))) (fun h => by rw [Bd.returns] at h; cases h)
          refine Go.fin (retN X39 hx (t := .boolean) Bd.returns (by simp) (hb hby at_136) hr) hrun hended ⟨_, _, rfl, ?_, ⟨_, rfl⟩, hW, hsame.mono (by decide) (by decide)⟩
          show Q0 Z p1 p2 p3 p4 p5 p6 w_NI k_NI h0 n0 _ T39.heap _
          rw [e39]
          exact ⟨rfl, N39⟩
    · rw [show ((1 : Int32) + ((p1 &&& (2147483647 : Int32)) % (3 : Int32))) = (3 : Int32) from by rw [own_m3 p1 hc1 hc16]; decide]
      show Go _ _ _ (s₁.setTop (mkF m 10 #[.val (.int p1), .val (.int p2), .val (.int p3), .val (.int p4), .val (.int p5), .val (.int p6), .val (.int 3), .unset, .unset, .unset, .unset, .unset, .unset, .unset, .unset] [])) _
      refine Go.st (fun t k => XS.iload X0.here hx rfl (hb hby at_10) rfl k) ?_
      refine Go.st (fun t k => XS.iconst X0.here hx rfl (hb hby at_12) k) ?_
      refine Go.st (fun t k => XS.iand X0.here hx rfl (hb hby at_13) rfl k) ?_
      show Go _ _ _ (s₁.setTop (mkF m 14 #[.val (.int p1), .val (.int p2), .val (.int p3), .val (.int p4), .val (.int p5), .val (.int p6), .val (.int 3), .unset, .unset, .unset, .unset, .unset, .unset, .unset, .unset] [(.int (p6 &&& (1 : Int32)))])) _
      refine Go.st (fun t k => XS.istore X0.here hx rfl (hb hby at_14) rfl (l' := #[.val (.int p1), .val (.int p2), .val (.int p3), .val (.int p4), .val (.int p5), .val (.int p6), .val (.int 3), .val (.int (p6 &&& (1 : Int32))), .unset, .unset, .unset, .unset, .unset, .unset, .unset]) rfl k) ?_
      refine Go.st (fun t k => XS.iload X0.here hx rfl (hb hby at_16) rfl k) ?_
      refine Go.st (fun t k => XS.iconst X0.here hx rfl (hb hby at_18) k) ?_
      refine Go.st (fun t k => XS.iushr X0.here hx rfl (hb hby at_19) rfl k) ?_
      show Go _ _ _ (s₁.setTop (mkF m 20 #[.val (.int p1), .val (.int p2), .val (.int p3), .val (.int p4), .val (.int p5), .val (.int p6), .val (.int 3), .val (.int (p6 &&& (1 : Int32))), .unset, .unset, .unset, .unset, .unset, .unset, .unset] [(.int ((p6.toUInt32 >>> ((1 : Int32) &&& 31).toUInt32).toInt32))])) _
      refine Go.st (fun t k => X0.ldcInt hx hown (mvT hZ (wd0 hw)) (g := (mkF m 20 #[.val (.int p1), .val (.int p2), .val (.int p3), .val (.int p4), .val (.int p5), .val (.int p6), .val (.int 3), .val (.int (p6 &&& (1 : Int32))), .unset, .unset, .unset, .unset, .unset, .unset, .unset] [(.int ((p6.toUInt32 >>> ((1 : Int32) &&& 31).toUInt32).toInt32))])) rfl (hb hby at_20) _ k) ?_
      show Go _ _ _ (s₁.setTop (mkF m 22 #[.val (.int p1), .val (.int p2), .val (.int p3), .val (.int p4), .val (.int p5), .val (.int p6), .val (.int 3), .val (.int (p6 &&& (1 : Int32))), .unset, .unset, .unset, .unset, .unset, .unset, .unset] [(.int 2147483647), (.int ((p6.toUInt32 >>> ((1 : Int32) &&& 31).toUInt32).toInt32))])) _
      refine Go.st (fun t k => XS.iand X0.here hx rfl (hb hby at_22) rfl k) ?_
      show Go _ _ _ (s₁.setTop (mkF m 23 #[.val (.int p1), .val (.int p2), .val (.int p3), .val (.int p4), .val (.int p5), .val (.int p6), .val (.int 3), .val (.int (p6 &&& (1 : Int32))), .unset, .unset, .unset, .unset, .unset, .unset, .unset] [(.int (((p6.toUInt32 >>> ((1 : Int32) &&& 31).toUInt32).toInt32) &&& (2147483647 : Int32)))])) _
      refine Go.st (fun t k => XS.iload X0.here hx rfl (hb hby at_23) rfl k) ?_
      refine Go.st (fun t k => iremM X0 hx rfl (hb hby at_25) rfl (by decide) k) ?_
      show Go _ _ _ (s₁.setTop (mkF m 26 #[.val (.int p1), .val (.int p2), .val (.int p3), .val (.int p4), .val (.int p5), .val (.int p6), .val (.int 3), .val (.int (p6 &&& (1 : Int32))), .unset, .unset, .unset, .unset, .unset, .unset, .unset] [(.int ((((p6.toUInt32 >>> ((1 : Int32) &&& 31).toUInt32).toInt32) &&& (2147483647 : Int32)) % (3 : Int32)))])) _
      refine Go.st (fun t k => XS.istore X0.here hx rfl (hb hby at_26) rfl (l' := #[.val (.int p1), .val (.int p2), .val (.int p3), .val (.int p4), .val (.int p5), .val (.int p6), .val (.int 3), .val (.int (p6 &&& (1 : Int32))), .val (.int ((((p6.toUInt32 >>> ((1 : Int32) &&& 31).toUInt32).toInt32) &&& (2147483647 : Int32)) % (3 : Int32))), .unset, .unset, .unset, .unset, .unset, .unset]) rfl k) ?_
      refine Go.st (fun t k => XS.iload X0.here hx rfl (hb hby at_28) rfl k) ?_
      refine Go.st (fun t k => XS.iloadN X0.here hx rfl (hb hby at_30) rfl k) ?_
      refine Go.st (fun t k => XS.iloadN X0.here hx rfl (hb hby at_31) rfl k) ?_
      refine Go.st (fun t k => XS.iloadN X0.here hx rfl (hb hby at_32) rfl k) ?_
      obtain ⟨_, _, ⟨T40, L40, k40, n40⟩, -, X40, ⟨Lc40, hQ40, l40, y40, z40⟩, st40⟩ := Jvm.LawKit.callS X0 hx (y := (⟨"com/example/bitlattice/bitlattice/eval/RelationGetPinLaw", "rowOf", "(IIII)[I"⟩ : MethodName)) hown (mvT hZ (wd1 hw)) (mvT hZ (wd2 hw)) (mvT hZ (wd3 hw)) (mvT hZ (wd4 hw)) (by decide) (backOf (W := 0) (rm1_3 l Z a0 hw [] p2 p3 p4 h0 n0 Z0) hZ (wd4 hw) (wd3 hw) (by decide) (by decide)) (g := (mkF m 33 #[.val (.int p1), .val (.int p2), .val (.int p3), .val (.int p4), .val (.int p5), .val (.int p6), .val (.int 3), .val (.int (p6 &&& (1 : Int32))), .val (.int ((((p6.toUInt32 >>> ((1 : Int32) &&& 31).toUInt32).toInt32) &&& (2147483647 : Int32)) % (3 : Int32))), .unset, .unset, .unset, .unset, .unset, .unset] [(.int p4), (.int p3), (.int p2), (.int 3)])) rfl (by rw [hml]; rfl) (argsL := [(.int (3 : Int32)), (.int p2), (.int p3), (.int p4)]) (rest := []) (lenOf pd2 rfl) rfl (by show 2 * 0 + _ ≤ _; exact Nat.le_of_eq rfl) (hb hby at_33) (fun _ _ => ⟨rfl, e0, (by decide : 0 + 1 ≤ _), (by decide : 0 + 3 ≤ _)⟩)
      dsimp only [Pt.U, Pt.locs, Pt.cells, Pt.slots] at X40 l40 y40 z40 st40 hQ40
      subst l40 y40 z40
      obtain ⟨h40, e40⟩ : ∃ z, T40.heap = z := ⟨_, rfl⟩
      rw [e40] at hQ40
      obtain ⟨x1_3_0_40, k_x1_3_0_40, rfl, N40q, K40, ng_x1_3_0_40, sz0_x1_3_0_40, Q40_0⟩ := hQ40
      refine Go.st st40 ?_
      have ne_w_NI_x1_3_0_40 : w_NI ≠ x1_3_0_40 := Nat.ne_of_lt (Nat.lt_of_lt_of_le V_NI.lt sz0_x1_3_0_40)
      have g_x1_3_0_40 : n0 ≤ x1_3_0_40 := ng_x1_3_0_40
      have sz_x1_3_0_40 : h0.size ≤ x1_3_0_40 := Nat.le_trans K0.1 sz0_x1_3_0_40
      replace V_NI := V_NI.keep K40 nin0
      replace S_NI := sta_keep S_NI K40 all0
      replace Z0 := Nat.le_trans Z0 K40.1
      replace K0 := K0.trans K40 all0
      have V_x1_3_0_40 := Q40_0
      have N40 := Fr.app N0 N40q
      show Go _ _ _ (T40.setTop (mkF m 36 #[.val (.int p1), .val (.int p2), .val (.int p3), .val (.int p4), .val (.int p5), .val (.int p6), .val (.int 3), .val (.int (p6 &&& (1 : Int32))), .val (.int ((((p6.toUInt32 >>> ((1 : Int32) &&& 31).toUInt32).toInt32) &&& (2147483647 : Int32)) % (3 : Int32))), .unset, .unset, .unset, .unset, .unset, .unset] [(.ref x1_3_0_40)])) _
      refine Go.st (fun t k => XS.astore X40.here hx rfl (hb hby at_36) rfl rfl (l' := #[.val (.int p1), .val (.int p2), .val (.int p3), .val (.int p4), .val (.int p5), .val (.int p6), .val (.int 3), .val (.int (p6 &&& (1 : Int32))), .val (.int ((((p6.toUInt32 >>> ((1 : Int32) &&& 31).toUInt32).toInt32) &&& (2147483647 : Int32)) % (3 : Int32))), .val (.ref x1_3_0_40), .unset, .unset, .unset, .unset, .unset]) rfl k) ?_
      refine Go.st (fun t k => XS.iload X40.here hx rfl (hb hby at_38) rfl k) ?_
      refine Go.st (fun t k => XS.iload X40.here hx rfl (hb hby at_40) rfl k) ?_
      refine Go.st (fun t k => XS.iloadN X40.here hx rfl (hb hby at_42) rfl k) ?_
      refine Go.st (fun t k => XS.iloadN X40.here hx rfl (hb hby at_43) rfl k) ?_
      obtain ⟨_, _, ⟨T41, L41, k41, n41⟩, -, X41, ⟨Lc41, hQ41, l41, y41, z41⟩, st41⟩ := Jvm.LawKit.callS X40 hx (y := (⟨"com/example/bitlattice/bitlattice/eval/RelationGetPinLaw", "rowOf", "(IIII)[I"⟩ : MethodName)) hown (mvT hZ (wd1 hw)) (mvT hZ (wd2 hw)) (mvT hZ (wd3 hw)) (mvT hZ (wd4 hw)) (by decide) (backOf (W := 0) (rm1_3 l Z a0 hw [] p5 p4 p2 h40 n0 Z0) hZ (wd4 hw) (wd3 hw) (by decide) (by decide)) (g := (mkF m 44 #[.val (.int p1), .val (.int p2), .val (.int p3), .val (.int p4), .val (.int p5), .val (.int p6), .val (.int 3), .val (.int (p6 &&& (1 : Int32))), .val (.int ((((p6.toUInt32 >>> ((1 : Int32) &&& 31).toUInt32).toInt32) &&& (2147483647 : Int32)) % (3 : Int32))), .val (.ref x1_3_0_40), .unset, .unset, .unset, .unset, .unset] [(.int p2), (.int p4), (.int p5), (.int 3)])) rfl (by rw [hml]; rfl) (argsL := [(.int (3 : Int32)), (.int p5), (.int p4), (.int p2)]) (rest := []) (lenOf pd2 rfl) rfl (by show 2 * 0 + _ ≤ _; exact Nat.le_of_eq rfl) (hb hby at_44) (fun _ _ => ⟨rfl, e40, (by decide : 1 + 1 ≤ _), (by decide : 3 + 3 ≤ _)⟩)
      dsimp only [Pt.U, Pt.locs, Pt.cells, Pt.slots] at X41 l41 y41 z41 st41 hQ41
      subst l41 y41 z41
      obtain ⟨h41, e41⟩ : ∃ z, T41.heap = z := ⟨_, rfl⟩
      rw [e41] at hQ41
      obtain ⟨x1_3_0_41, k_x1_3_0_41, rfl, N41q, K41, ng_x1_3_0_41, sz0_x1_3_0_41, Q41_0⟩ := hQ41
      refine Go.st st41 ?_
      have ne_w_NI_x1_3_0_41 : w_NI ≠ x1_3_0_41 := Nat.ne_of_lt (Nat.lt_of_lt_of_le V_NI.lt sz0_x1_3_0_41)
      have ne_x1_3_0_40_x1_3_0_41 : x1_3_0_40 ≠ x1_3_0_41 := Nat.ne_of_lt (Nat.lt_of_lt_of_le V_x1_3_0_40.lt sz0_x1_3_0_41)
      have g_x1_3_0_41 : n0 ≤ x1_3_0_41 := ng_x1_3_0_41
      have sz_x1_3_0_41 : h0.size ≤ x1_3_0_41 := Nat.le_trans K0.1 sz0_x1_3_0_41
      replace V_NI := V_NI.keep K41 nin0
      replace S_NI := sta_keep S_NI K41 all0
      replace V_x1_3_0_40 := V_x1_3_0_40.keep K41 nin0
      replace Z0 := Nat.le_trans Z0 K41.1
      replace K0 := K0.trans K41 all0
      have V_x1_3_0_41 := Q41_0
      have N41 := Fr.app N40 N41q
      show Go _ _ _ (T41.setTop (mkF m 47 #[.val (.int p1), .val (.int p2), .val (.int p3), .val (.int p4), .val (.int p5), .val (.int p6), .val (.int 3), .val (.int (p6 &&& (1 : Int32))), .val (.int ((((p6.toUInt32 >>> ((1 : Int32) &&& 31).toUInt32).toInt32) &&& (2147483647 : Int32)) % (3 : Int32))), .val (.ref x1_3_0_40), .unset, .unset, .unset, .unset, .unset] [(.ref x1_3_0_41)])) _
      refine Go.st (fun t k => XS.astore X41.here hx rfl (hb hby at_47) rfl rfl (l' := #[.val (.int p1), .val (.int p2), .val (.int p3), .val (.int p4), .val (.int p5), .val (.int p6), .val (.int 3), .val (.int (p6 &&& (1 : Int32))), .val (.int ((((p6.toUInt32 >>> ((1 : Int32) &&& 31).toUInt32).toInt32) &&& (2147483647 : Int32)) % (3 : Int32))), .val (.ref x1_3_0_40), .val (.ref x1_3_0_41), .unset, .unset, .unset, .unset]) rfl k) ?_
      obtain ⟨T42, h42, X42, e42, E42, A42, D42, -, st42⟩ := newO X41 hx hZ hown (wd6 hw) (wd7 hw) (wd8 hw) e41 (g := (mkF m 49 #[.val (.int p1), .val (.int p2), .val (.int p3), .val (.int p4), .val (.int p5), .val (.int p6), .val (.int 3), .val (.int (p6 &&& (1 : Int32))), .val (.int ((((p6.toUInt32 >>> ((1 : Int32) &&& 31).toUInt32).toInt32) &&& (2147483647 : Int32)) % (3 : Int32))), .val (.ref x1_3_0_40), .val (.ref x1_3_0_41), .unset, .unset, .unset, .unset] [])) rfl (hb hby at_49) (by decide) (by decide)
      obtain ⟨b42, g42⟩ : ∃ z, z = h41.size := ⟨_, rfl⟩
      rw [← g42] at A42 D42 st42
      refine Go.st st42 ?_
      have ne_w_NI_b42 : w_NI ≠ b42 := Nat.ne_of_lt (Nat.lt_of_lt_of_le V_NI.lt (Nat.le_of_eq g42.symm))
      have ne_x1_3_0_40_b42 : x1_3_0_40 ≠ b42 := Nat.ne_of_lt (Nat.lt_of_lt_of_le V_x1_3_0_40.lt (Nat.le_of_eq g42.symm))
      have ne_x1_3_0_41_b42 : x1_3_0_41 ≠ b42 := Nat.ne_of_lt (Nat.lt_of_lt_of_le V_x1_3_0_41.lt (Nat.le_of_eq g42.symm))
      have g_b42 : n0 ≤ b42 := Nat.le_trans Z0 (Nat.le_of_eq g42.symm)
      have sz_b42 : h0.size ≤ b42 := Nat.le_trans K0.1 (Nat.le_of_eq g42.symm)
      replace V_NI := V_NI.ext E42
      replace S_NI := S_NI.ext E42
      replace V_x1_3_0_40 := V_x1_3_0_40.ext E42
      replace V_x1_3_0_41 := V_x1_3_0_41.ext E42
      replace K0 := K0.ext E42
      replace Z0 := Nat.le_trans Z0 E42.1
      have E_b42 := A42
      have F_b42_indexes : Fld Z h42 b42 "com/example/bitlattice/bitlattice/eval/Relation" "indexes" "[Lcom/example/bitlattice/bitlattice/eval/Relation$Index;" .null := D42 (Or.inl (wd18 hw)) (ty := (.array (.object "com/example/bitlattice/bitlattice/eval/Relation$Index"))) (by decide)
      have F_b42_arity : Fld Z h42 b42 "com/example/bitlattice/bitlattice/eval/Relation" "arity" "I" (.int (0 : Int32)) := D42 (Or.inr (wd20 hw)) (ty := .int) (by decide)
      have F_b42_values : Fld Z h42 b42 "com/example/bitlattice/bitlattice/eval/Relation" "values" "[I" .null := D42 (Or.inl (wd22 hw)) (ty := (.array .int)) (by decide)
      have F_b42_members : Fld Z h42 b42 "com/example/bitlattice/bitlattice/eval/Relation" "members" "Lcom/example/bitlattice/bitlattice/eval/Relation$Index;" .null := D42 (Or.inl (wd29 hw)) (ty := (.object "com/example/bitlattice/bitlattice/eval/Relation$Index")) (by decide)
      have F_b42_size : Fld Z h42 b42 "com/example/bitlattice/bitlattice/eval/Relation" "size" "I" (.int (0 : Int32)) := D42 (Or.inl (wd36 hw)) (ty := .int) (by decide)
      have F_b42_holdingAny : Fld Z h42 b42 "com/example/bitlattice/bitlattice/eval/Relation" "holdingAny" "I" (.int (0 : Int32)) := D42 (Or.inl (wd55 hw)) (ty := .int) (by decide)
      show Go _ _ _ (T42.setTop (mkF m 52 #[.val (.int p1), .val (.int p2), .val (.int p3), .val (.int p4), .val (.int p5), .val (.int p6), .val (.int 3), .val (.int (p6 &&& (1 : Int32))), .val (.int ((((p6.toUInt32 >>> ((1 : Int32) &&& 31).toUInt32).toInt32) &&& (2147483647 : Int32)) % (3 : Int32))), .val (.ref x1_3_0_40), .val (.ref x1_3_0_41), .unset, .unset, .unset, .unset] [(.ref b42)])) _
      refine Go.st (fun t k => XS.dup X42.here hx rfl (hb hby at_52) rfl rfl k) ?_
      refine Go.st (fun t k => XS.iload X42.here hx rfl (hb hby at_53) rfl k) ?_
      obtain ⟨_, _, ⟨T43, L43, k43, n43⟩, -, X43, ⟨Lc43, hQ43, l43, y43, z43⟩, st43⟩ := X42.specialBack hx (y := (⟨"com/example/bitlattice/bitlattice/eval/Relation", "<init>", "(I)V"⟩ : MethodName)) rfl hown (mvT hZ (wd9 hw)) (mvT hZ (wd10 hw)) (mvT hZ (wd11 hw)) (by decide) (backOf (W := 1) (rm2_3 l Z a0 hw [] b42 w_NI (.null : Value) (.null : Value) ((.int (0 : Int32)) : Value) h42 n0 Z0 E_b42 S_NI F_b42_size F_b42_members F_b42_holdingAny F_b42_indexes F_b42_values F_b42_arity g_b42) hZ (wd11 hw) (wd8 hw) (by decide) (by decide)) (g := (mkF m 55 #[.val (.int p1), .val (.int p2), .val (.int p3), .val (.int p4), .val (.int p5), .val (.int p6), .val (.int 3), .val (.int (p6 &&& (1 : Int32))), .val (.int ((((p6.toUInt32 >>> ((1 : Int32) &&& 31).toUInt32).toInt32) &&& (2147483647 : Int32)) % (3 : Int32))), .val (.ref x1_3_0_40), .val (.ref x1_3_0_41), .unset, .unset, .unset, .unset] [(.int 3), (.ref b42), (.ref b42)])) rfl (by rw [hml]; rfl) (Steps.refl _) (a := b42) (argsL := [(.int (3 : Int32))]) (rest := [(.ref b42)]) (lenOf pd3 rfl) rfl (by show 2 * 0 + _ ≤ _; exact Nat.le_of_eq rfl) (hb hby at_55) (fun _ _ => ⟨rfl, e42, (by decide : 3 + 1 ≤ _), (by decide : 12 + 12 ≤ _)⟩)
      dsimp only [Pt.U, Pt.locs, Pt.cells, Pt.slots] at X43 l43 y43 z43 st43 hQ43
      subst l43 y43 z43
      have E_b42_pre := E_b42
      have F_b42_indexes_pre := F_b42_indexes
      have F_b42_arity_pre := F_b42_arity
      have F_b42_values_pre := F_b42_values
      have F_b42_members_pre := F_b42_members
      have F_b42_size_pre := F_b42_size
      have F_b42_holdingAny_pre := F_b42_holdingAny
      obtain ⟨h43, e43⟩ : ∃ z, T43.heap = z := ⟨_, rfl⟩
      rw [e43] at hQ43
      obtain ⟨x2_3_0_43, k_x2_3_0_43, rfl, N43q, K43, ng_x2_3_0_43, sz0_x2_3_0_43, Q43_0, Q43_1, Q43_2, Q43_3, Q43_4, Q43_5, Q43_6, Q43_7⟩ := hQ43
      refine Go.tr st43 ?_
      have ne_w_NI_x2_3_0_43 : w_NI ≠ x2_3_0_43 := Nat.ne_of_lt (Nat.lt_of_lt_of_le V_NI.lt sz0_x2_3_0_43)
      have ne_x1_3_0_40_x2_3_0_43 : x1_3_0_40 ≠ x2_3_0_43 := Nat.ne_of_lt (Nat.lt_of_lt_of_le V_x1_3_0_40.lt sz0_x2_3_0_43)
      have ne_x1_3_0_41_x2_3_0_43 : x1_3_0_41 ≠ x2_3_0_43 := Nat.ne_of_lt (Nat.lt_of_lt_of_le V_x1_3_0_41.lt sz0_x2_3_0_43)
      have ne_b42_x2_3_0_43 : b42 ≠ x2_3_0_43 := Nat.ne_of_lt (Nat.lt_of_lt_of_le E_b42.lt sz0_x2_3_0_43)
      have g_x2_3_0_43 : n0 ≤ x2_3_0_43 := ng_x2_3_0_43
      have sz_x2_3_0_43 : h0.size ≤ x2_3_0_43 := Nat.le_trans K0.1 sz0_x2_3_0_43
      replace V_NI := V_NI.keep K43 (ninS ne_w_NI_b42 nin0)
      replace S_NI := sta_keep S_NI K43 (allS (exa_ns E_b42_pre) all0)
      replace V_x1_3_0_40 := V_x1_3_0_40.keep K43 (ninS ne_x1_3_0_40_b42 nin0)
      replace V_x1_3_0_41 := V_x1_3_0_41.keep K43 (ninS ne_x1_3_0_41_b42 nin0)
      replace E_b42 := E_b42.keep K43
      replace Z0 := Nat.le_trans Z0 K43.1
      replace K0 := K0.trans K43 (allS (Or.inr sz_b42) all0)
      have E_b42 := Q43_0
      have F_b42_size := Q43_1
      have F_b42_members := Q43_2
      have F_b42_holdingAny := Q43_3
      have F_b42_indexes := Q43_4
      have F_b42_values := Q43_5
      have F_b42_arity := Q43_6
      have V_x2_3_0_43 := Q43_7
      have N43 := Fr.app N41 N43q
      show Go _ _ _ (T43.setTop (mkF m 58 #[.val (.int p1), .val (.int p2), .val (.int p3), .val (.int p4), .val (.int p5), .val (.int p6), .val (.int 3), .val (.int (p6 &&& (1 : Int32))), .val (.int ((((p6.toUInt32 >>> ((1 : Int32) &&& 31).toUInt32).toInt32) &&& (2147483647 : Int32)) % (3 : Int32))), .val (.ref x1_3_0_40), .val (.ref x1_3_0_41), .unset, .unset, .unset, .unset] [(.ref b42)])) _
      refine Go.st (fun t k => XS.astore X43.here hx rfl (hb hby at_58) rfl rfl (l' := #[.val (.int p1), .val (.int p2), .val (.int p3), .val (.int p4), .val (.int p5), .val (.int p6), .val (.int 3), .val (.int (p6 &&& (1 : Int32))), .val (.int ((((p6.toUInt32 >>> ((1 : Int32) &&& 31).toUInt32).toInt32) &&& (2147483647 : Int32)) % (3 : Int32))), .val (.ref x1_3_0_40), .val (.ref x1_3_0_41), .val (.ref b42), .unset, .unset, .unset]) rfl k) ?_
      refine Go.st (fun t k => XS.aload X43.here hx rfl (hb hby at_60) rfl rfl k) ?_
      refine Go.st (fun t k => XS.aload X43.here hx rfl (hb hby at_62) rfl rfl k) ?_
      obtain ⟨cq44, kq44, q44a, q44b, q44c⟩ := isOf hZ e43 E_b42
      obtain ⟨_, _, ⟨T44, L44, k44, n44⟩, -, X44, ⟨Lc44, hQ44, l44, y44, z44⟩, st44⟩ := X43.virtualBack hx (y := (⟨"com/example/bitlattice/bitlattice/eval/Relation", "add", "([I)Z"⟩ : MethodName)) (z := (⟨"com/example/bitlattice/bitlattice/eval/Relation", "add", "([I)Z"⟩ : MethodName)) hown (mvT hZ (wd23 hw)) (mvT hZ (wd24 hw)) (notFace_of_selects (args := #[]) (mvT hZ (wd26 hw))) (mvT hZ (wd26 hw)) (mvT hZ (wd25 hw)) (by decide) (backOf (W := 0) (rm4_3_0 l Z a0 hw [] b42 x1_3_0_40 x2_3_0_43 w_NI k_NI (0 : Int32) k_x2_3_0_43 (0 : Int32) (0 : Int32) (0 : Int32) (0 : Int32) (0 : Int32) (0 : Int32) (0 : Int32) (0 : Int32) (0 : Int32) (0 : Int32) (0 : Int32) (0 : Int32) k_x1_3_0_40 p2 p3 p4 h43 n0 Z0 E_b42 V_NI F_b42_arity F_b42_values F_b42_size F_b42_members F_b42_indexes F_b42_holdingAny V_x2_3_0_43 V_x1_3_0_40 (Ne.symm ne_b42_x2_3_0_43) ne_x1_3_0_40_b42 (Ne.symm ne_x1_3_0_40_x2_3_0_43) ne_w_NI_b42 ne_w_NI_x2_3_0_43 ne_w_NI_x1_3_0_40 g_x2_3_0_43 g_b42) hZ (wd27 hw) (wd8 hw) (by decide) (by decide)) q44a q44c (g := (mkF m 64 #[.val (.int p1), .val (.int p2), .val (.int p3), .val (.int p4), .val (.int p5), .val (.int p6), .val (.int 3), .val (.int (p6 &&& (1 : Int32))), .val (.int ((((p6.toUInt32 >>> ((1 : Int32) &&& 31).toUInt32).toInt32) &&& (2147483647 : Int32)) % (3 : Int32))), .val (.ref x1_3_0_40), .val (.ref x1_3_0_41), .val (.ref b42), .unset, .unset, .unset] [(.ref x1_3_0_40), (.ref b42)])) rfl (by rw [hml]; rfl) (Steps.refl _) (argsL := [(.ref x1_3_0_40)]) (rest := []) (lenOf pd0 rfl) rfl (by show 2 * 0 + _ ≤ _; exact Nat.le_of_eq rfl) (hb hby at_64) (fun _ _ => ⟨rfl, e43, (by decide : 4 + 0 ≤ _), (by decide : 24 + 0 ≤ _)⟩)
      dsimp only [Pt.U, Pt.locs, Pt.cells, Pt.slots] at X44 l44 y44 z44 st44 hQ44
      subst l44 y44 z44
      have E_b42_pre := E_b42
      have F_b42_size_pre := F_b42_size
      have F_b42_members_pre := F_b42_members
      have F_b42_holdingAny_pre := F_b42_holdingAny
      have F_b42_indexes_pre := F_b42_indexes
      have F_b42_values_pre := F_b42_values
      have F_b42_arity_pre := F_b42_arity
      have V_x2_3_0_43_pre := V_x2_3_0_43
      obtain ⟨h44, e44⟩ : ∃ z, T44.heap = z := ⟨_, rfl⟩
      rw [e44] at hQ44
      obtain ⟨z_4_3_0_holdingAny_44, rfl, N44q, K44, Q44_0, Q44_1, Q44_2, Q44_3, Q44_4, Q44_5, Q44_6, Q44_7⟩ := hQ44
      refine Go.tr st44 ?_
      replace V_NI := V_NI.keep K44 (ninS ne_w_NI_x2_3_0_43 (ninS ne_w_NI_b42 nin0))
      replace S_NI := sta_keep S_NI K44 (allS (arv_ns V_x2_3_0_43_pre) (allS (exa_ns E_b42_pre) all0))
      replace V_x1_3_0_40 := V_x1_3_0_40.keep K44 (ninS ne_x1_3_0_40_x2_3_0_43 (ninS ne_x1_3_0_40_b42 nin0))
      replace V_x1_3_0_41 := V_x1_3_0_41.keep K44 (ninS ne_x1_3_0_41_x2_3_0_43 (ninS ne_x1_3_0_41_b42 nin0))
      replace E_b42 := E_b42.keep K44
      replace Z0 := Nat.le_trans Z0 K44.1
      replace K0 := K0.trans K44 (allS (Or.inr sz_x2_3_0_43) (allS (Or.inr sz_b42) all0))
      have E_b42 := Q44_0
      have F_b42_arity := Q44_1
      have F_b42_values := Q44_2
      have F_b42_size := Q44_3
      have F_b42_members := Q44_4
      have F_b42_indexes := Q44_5
      have F_b42_holdingAny := Q44_6
      have V_x2_3_0_43 := Q44_7
      have N44 := Fr.app N43 N44q
      show Go _ _ _ (T44.setTop (mkF m 67 #[.val (.int p1), .val (.int p2), .val (.int p3), .val (.int p4), .val (.int p5), .val (.int p6), .val (.int 3), .val (.int (p6 &&& (1 : Int32))), .val (.int ((((p6.toUInt32 >>> ((1 : Int32) &&& 31).toUInt32).toInt32) &&& (2147483647 : Int32)) % (3 : Int32))), .val (.ref x1_3_0_40), .val (.ref x1_3_0_41), .val (.ref b42), .unset, .unset, .unset] [(.int 1)])) _
      refine Go.st (fun t k => XS.pop X44.here hx rfl (hb hby at_67) rfl rfl k) ?_
      refine Go.st (fun t k => XS.aload X44.here hx rfl (hb hby at_68) rfl rfl k) ?_
      refine Go.st (fun t k => XS.aload X44.here hx rfl (hb hby at_70) rfl rfl k) ?_
      obtain ⟨cq45, kq45, q45a, q45b, q45c⟩ := isOf hZ e44 E_b42
      obtain ⟨_, _, ⟨T45, L45, k45, n45⟩, -, X45, ⟨Lc45, hQ45, l45, y45, z45⟩, st45⟩ := X44.virtualBack hx (y := (⟨"com/example/bitlattice/bitlattice/eval/Relation", "add", "([I)Z"⟩ : MethodName)) (z := (⟨"com/example/bitlattice/bitlattice/eval/Relation", "add", "([I)Z"⟩ : MethodName)) hown (mvT hZ (wd23 hw)) (mvT hZ (wd24 hw)) (notFace_of_selects (args := #[]) (mvT hZ (wd26 hw))) (mvT hZ (wd26 hw)) (mvT hZ (wd25 hw)) (by decide) (backOf (W := 0) (rm4_3_1 l Z a0 hw [] b42 x1_3_0_41 x2_3_0_43 w_NI k_NI z_4_3_0_holdingAny_44 k_x2_3_0_43 p2 p3 p4 (0 : Int32) (0 : Int32) (0 : Int32) (0 : Int32) (0 : Int32) (0 : Int32) (0 : Int32) (0 : Int32) (0 : Int32) k_x1_3_0_41 p5 p4 p2 h44 n0 Z0 E_b42 V_NI F_b42_arity F_b42_values F_b42_size F_b42_members F_b42_indexes F_b42_holdingAny V_x2_3_0_43 V_x1_3_0_41 (Ne.symm ne_b42_x2_3_0_43) ne_x1_3_0_41_b42 (Ne.symm ne_x1_3_0_41_x2_3_0_43) ne_w_NI_b42 ne_w_NI_x2_3_0_43 ne_w_NI_x1_3_0_41 g_x2_3_0_43 g_b42) hZ (wd27 hw) (wd8 hw) (by decide) (by decide)) q45a q45c (g := (mkF m 72 #[.val (.int p1), .val (.int p2), .val (.int p3), .val (.int p4), .val (.int p5), .val (.int p6), .val (.int 3), .val (.int (p6 &&& (1 : Int32))), .val (.int ((((p6.toUInt32 >>> ((1 : Int32) &&& 31).toUInt32).toInt32) &&& (2147483647 : Int32)) % (3 : Int32))), .val (.ref x1_3_0_40), .val (.ref x1_3_0_41), .val (.ref b42), .unset, .unset, .unset] [(.ref x1_3_0_41), (.ref b42)])) rfl (by rw [hml]; rfl) (Steps.refl _) (argsL := [(.ref x1_3_0_41)]) (rest := []) (lenOf pd0 rfl) rfl (by show 2 * 0 + _ ≤ _; exact Nat.le_of_eq rfl) (hb hby at_72) (fun _ _ => ⟨rfl, e44, (by decide : 4 + 0 ≤ _), (by decide : 24 + 0 ≤ _)⟩)
      dsimp only [Pt.U, Pt.locs, Pt.cells, Pt.slots] at X45 l45 y45 z45 st45 hQ45
      subst l45 y45 z45
      have E_b42_pre := E_b42
      have F_b42_arity_pre := F_b42_arity
      have F_b42_values_pre := F_b42_values
      have F_b42_size_pre := F_b42_size
      have F_b42_members_pre := F_b42_members
      have F_b42_indexes_pre := F_b42_indexes
      have F_b42_holdingAny_pre := F_b42_holdingAny
      have V_x2_3_0_43_pre := V_x2_3_0_43
      obtain ⟨h45, e45⟩ : ∃ z, T45.heap = z := ⟨_, rfl⟩
      rw [e45] at hQ45
      obtain ⟨z_4_3_1_holdingAny_45, rfl, N45q, K45, Q45_0, Q45_1, Q45_2, Q45_3, Q45_4, Q45_5, Q45_6, Q45_7⟩ := hQ45
      refine Go.tr st45 ?_
      replace V_NI := V_NI.keep K45 (ninS ne_w_NI_x2_3_0_43 (ninS ne_w_NI_b42 nin0))
      replace S_NI := sta_keep S_NI K45 (allS (arv_ns V_x2_3_0_43_pre) (allS (exa_ns E_b42_pre) all0))
      replace V_x1_3_0_40 := V_x1_3_0_40.keep K45 (ninS ne_x1_3_0_40_x2_3_0_43 (ninS ne_x1_3_0_40_b42 nin0))
      replace V_x1_3_0_41 := V_x1_3_0_41.keep K45 (ninS ne_x1_3_0_41_x2_3_0_43 (ninS ne_x1_3_0_41_b42 nin0))
      replace E_b42 := E_b42.keep K45
      replace Z0 := Nat.le_trans Z0 K45.1
      replace K0 := K0.trans K45 (allS (Or.inr sz_x2_3_0_43) (allS (Or.inr sz_b42) all0))
      have E_b42 := Q45_0
      have F_b42_arity := Q45_1
      have F_b42_values := Q45_2
      have F_b42_size := Q45_3
      have F_b42_members := Q45_4
      have F_b42_indexes := Q45_5
      have F_b42_holdingAny := Q45_6
      have V_x2_3_0_43 := Q45_7
      have N45 := Fr.app N44 N45q
      show Go _ _ _ (T45.setTop (mkF m 75 #[.val (.int p1), .val (.int p2), .val (.int p3), .val (.int p4), .val (.int p5), .val (.int p6), .val (.int 3), .val (.int (p6 &&& (1 : Int32))), .val (.int ((((p6.toUInt32 >>> ((1 : Int32) &&& 31).toUInt32).toInt32) &&& (2147483647 : Int32)) % (3 : Int32))), .val (.ref x1_3_0_40), .val (.ref x1_3_0_41), .val (.ref b42), .unset, .unset, .unset] [(.int (f4_3_1 p2 p3 p4 p5 p4 p2))])) _
      by_cases hc46 : (f5_3_1 p2 p3 p4 p5 p4 p2) = (0 : Int32)
      · rw [show (f4_3_1 p2 p3 p4 p5 p4 p2) = (1 : Int32) from by unfold f4_3_1; simp only [if_pos hc46, if_true, if_false]]
        rw [show (f4_3_1_a1_size p2 p3 p4 p5 p4 p2) = (2 : Int32) from by unfold f4_3_1_a1_size; simp only [if_pos hc46, if_true, if_false]] at F_b42_size
        replace V_x2_3_0_43 : Arv Z h45 x2_3_0_43 k_x2_3_0_43 .int (12 : Int32) [(.int p2), (.int p3), (.int p4), (.int p5), (.int p4), (.int p2), (.int (0 : Int32)), (.int (0 : Int32)), (.int (0 : Int32)), (.int (0 : Int32)), (.int (0 : Int32)), (.int (0 : Int32))] (.int (0 : Int32)) := (by have hq := V_x2_3_0_43; unfold f4_3_1_vals_3 f4_3_1_vals_4 f4_3_1_vals_5 at hq; simp only [if_pos hc46] at hq; exact hq)
        show Go _ _ _ (T45.setTop (mkF m 75 #[.val (.int p1), .val (.int p2), .val (.int p3), .val (.int p4), .val (.int p5), .val (.int p6), .val (.int 3), .val (.int (p6 &&& (1 : Int32))), .val (.int ((((p6.toUInt32 >>> ((1 : Int32) &&& 31).toUInt32).toInt32) &&& (2147483647 : Int32)) % (3 : Int32))), .val (.ref x1_3_0_40), .val (.ref x1_3_0_41), .val (.ref b42), .unset, .unset, .unset] [(.int 1)])) _
        refine Go.st (fun t k => XS.istore X45.here hx rfl (hb hby at_75) rfl (l' := #[.val (.int p1), .val (.int p2), .val (.int p3), .val (.int p4), .val (.int p5), .val (.int p6), .val (.int 3), .val (.int (p6 &&& (1 : Int32))), .val (.int ((((p6.toUInt32 >>> ((1 : Int32) &&& 31).toUInt32).toInt32) &&& (2147483647 : Int32)) % (3 : Int32))), .val (.ref x1_3_0_40), .val (.ref x1_3_0_41), .val (.ref b42), .val (.int 1), .unset, .unset]) rfl k) ?_
        show Go _ _ _ (T45.setTop (mkF m 77 #[.val (.int p1), .val (.int p2), .val (.int p3), .val (.int p4), .val (.int p5), .val (.int p6), .val (.int 3), .val (.int (p6 &&& (1 : Int32))), .val (.int ((((p6.toUInt32 >>> ((1 : Int32) &&& 31).toUInt32).toInt32) &&& (2147483647 : Int32)) % (3 : Int32))), .val (.ref x1_3_0_40), .val (.ref x1_3_0_41), .val (.ref b42), .val (.int 1), .unset, .unset] [])) _
        by_cases hc47 : ((((p6.toUInt32 >>> ((1 : Int32) &&& 31).toUInt32).toInt32) &&& (2147483647 : Int32)) % (3 : Int32)) = (0 : Int32)
        · rw [hc47]
          show Go _ _ _ (T45.setTop (mkF m 77 #[.val (.int p1), .val (.int p2), .val (.int p3), .val (.int p4), .val (.int p5), .val (.int p6), .val (.int 3), .val (.int (p6 &&& (1 : Int32))), .val (.int 0), .val (.ref x1_3_0_40), .val (.ref x1_3_0_41), .val (.ref b42), .val (.int 1), .unset, .unset] [])) _
          refine Go.st (fun t k => XS.iload X45.here hx rfl (hb hby at_77) rfl k) ?_
          refine Go.st (fun t k => XS.ifNo X45.here hx rfl (hb hby at_79) rfl ((if0 _ _).trans (feq (by decide : ¬ ((1 : Int32) = (0 : Int32)))).1) k) ?_
          show Go _ _ _ (T45.setTop (mkF m 82 #[.val (.int p1), .val (.int p2), .val (.int p3), .val (.int p4), .val (.int p5), .val (.int p6), .val (.int 3), .val (.int (p6 &&& (1 : Int32))), .val (.int 0), .val (.ref x1_3_0_40), .val (.ref x1_3_0_41), .val (.ref b42), .val (.int 1), .unset, .unset] [])) _
          by_cases hc48 : (p6 &&& (1 : Int32)) = (0 : Int32)
          · rw [hc48]
            show Go _ _ _ (T45.setTop (mkF m 82 #[.val (.int p1), .val (.int p2), .val (.int p3), .val (.int p4), .val (.int p5), .val (.int p6), .val (.int 3), .val (.int 0), .val (.int 0), .val (.ref x1_3_0_40), .val (.ref x1_3_0_41), .val (.ref b42), .val (.int 1), .unset, .unset] [])) _
            refine Go.st (fun t k => XS.iload X45.here hx rfl (hb hby at_82) rfl k) ?_
            refine Go.st (fun t k => XS.goto X45.here hx rfl (pc0 := 84) (pc' := 88) rfl (hb hby at_84) (by decide) (by decide) k) ?_
            refine Go.st (fun t k => XS.istore X45.here hx rfl (hb hby at_88) rfl (l' := #[.val (.int p1), .val (.int p2), .val (.int p3), .val (.int p4), .val (.int p5), .val (.int p6), .val (.int 3), .val (.int 0), .val (.int 0), .val (.ref x1_3_0_40), .val (.ref x1_3_0_41), .val (.ref b42), .val (.int 1), .val (.int 0), .unset]) rfl k) ?_
            refine Go.st (fun t k => XS.iload X45.here hx rfl (hb hby at_90) rfl k) ?_
            refine Go.st (fun t k => XS.ifNo X45.here hx rfl (hb hby at_92) rfl ((if0 _ _).trans (teq (by decide : (0 : Int32) = (0 : Int32))).2) k) ?_
            show Go _ _ _ (T45.setTop (mkF m 95 #[.val (.int p1), .val (.int p2), .val (.int p3), .val (.int p4), .val (.int p5), .val (.int p6), .val (.int 3), .val (.int 0), .val (.int 0), .val (.ref x1_3_0_40), .val (.ref x1_3_0_41), .val (.ref b42), .val (.int 1), .val (.int 0), .unset] [])) _
            refine Go.st (fun t k => XS.iload X45.here hx rfl (hb hby at_95) rfl k) ?_
            refine Go.st (fun t k => XS.iloadN X45.here hx rfl (hb hby at_97) rfl k) ?_
            refine Go.st (fun t k => XS.iloadN X45.here hx rfl (hb hby at_98) rfl k) ?_
            refine Go.st (fun t k => XS.iloadN X45.here hx rfl (hb hby at_99) rfl k) ?_
            obtain ⟨_, _, ⟨T49, L49, k49, n49⟩, -, X49, ⟨Lc49, hQ49, l49, y49, z49⟩, st49⟩ := Jvm.LawKit.callS X45 hx (y := (⟨"com/example/bitlattice/bitlattice/eval/RelationGetPinLaw", "pick", "(IIII)I"⟩ : MethodName)) hown (mvT hZ (wd46 hw)) (mvT hZ (wd47 hw)) (mvT hZ (wd3 hw)) (mvT hZ (wd48 hw)) (by decide) (backOf (W := 0) (rm7 l Z a0 hw [] (0 : Int32) p2 p3 p4 h45 n0 Z0) hZ (wd48 hw) (wd3 hw) (by decide) (by decide)) (g := (mkF m 100 #[.val (.int p1), .val (.int p2), .val (.int p3), .val (.int p4), .val (.int p5), .val (.int p6), .val (.int 3), .val (.int 0), .val (.int 0), .val (.ref x1_3_0_40), .val (.ref x1_3_0_41), .val (.ref b42), .val (.int 1), .val (.int 0), .unset] [(.int p4), (.int p3), (.int p2), (.int 0)])) rfl (by rw [hml]; rfl) (argsL := [(.int (0 : Int32)), (.int p2), (.int p3), (.int p4)]) (rest := []) (lenOf pd4 rfl) rfl (by show 2 * 0 + _ ≤ _; exact Nat.le_of_eq rfl) (hb hby at_100) (fun _ _ => ⟨rfl, e45, (by decide : 4 + 0 ≤ _), (by decide : 24 + 0 ≤ _)⟩)
            dsimp only [Pt.U, Pt.locs, Pt.cells, Pt.slots] at X49 l49 y49 z49 st49 hQ49
            subst l49 y49 z49
            refine Go.st st49 ?_
            obtain ⟨rfl, N49q, e49⟩ := hQ49
            have N49 := Fr.app N45 N49q
            show Go _ _ _ (T49.setTop (mkF m 103 #[.val (.int p1), .val (.int p2), .val (.int p3), .val (.int p4), .val (.int p5), .val (.int p6), .val (.int 3), .val (.int 0), .val (.int 0), .val (.ref x1_3_0_40), .val (.ref x1_3_0_41), .val (.ref b42), .val (.int 1), .val (.int 0), .unset] [(.int (f7 (0 : Int32) p2 p3 p4))])) _
            rw [show (f7 (0 : Int32) p2 p3 p4) = p2 from by unfold f7; simp only [if_pos (by decide : (0 : Int32) = (0 : Int32)), if_true, if_false]]
            show Go _ _ _ (T49.setTop (mkF m 103 #[.val (.int p1), .val (.int p2), .val (.int p3), .val (.int p4), .val (.int p5), .val (.int p6), .val (.int 3), .val (.int 0), .val (.int 0), .val (.ref x1_3_0_40), .val (.ref x1_3_0_41), .val (.ref b42), .val (.int 1), .val (.int 0), .unset] [(.int p2)])) _
            refine Go.st (fun t k => XS.goto X49.here hx rfl (pc0 := 103) (pc' := 115) rfl (hb hby at_103) (by decide) (by decide) k) ?_
            refine Go.st (fun t k => XS.istore X49.here hx rfl (hb hby at_115) rfl (l' := #[.val (.int p1), .val (.int p2), .val (.int p3), .val (.int p4), .val (.int p5), .val (.int p6), .val (.int 3), .val (.int 0), .val (.int 0), .val (.ref x1_3_0_40), .val (.ref x1_3_0_41), .val (.ref b42), .val (.int 1), .val (.int 0), .val (.int p2)]) rfl k) ?_
            refine Go.st (fun t k => XS.aload X49.here hx rfl (hb hby at_117) rfl rfl k) ?_
            refine Go.st (fun t k => XS.iload X49.here hx rfl (hb hby at_119) rfl k) ?_
            refine Go.st (fun t k => XS.iload X49.here hx rfl (hb hby at_121) rfl k) ?_
            obtain ⟨cq50, kq50, q50a, q50b, q50c⟩ := isOf hZ e49 E_b42
            obtain ⟨_, _, ⟨T50, L50, k50, n50⟩, -, X50, ⟨Lc50, hQ50, l50, y50, z50⟩, st50⟩ := X49.virtualBack hx (y := (⟨"com/example/bitlattice/bitlattice/eval/Relation", "get", "(II)I"⟩ : MethodName)) (z := (⟨"com/example/bitlattice/bitlattice/eval/Relation", "get", "(II)I"⟩ : MethodName)) hown (mvT hZ (wd49 hw)) (mvT hZ (wd50 hw)) (notFace_of_selects (args := #[]) (mvT hZ (wd52 hw))) (mvT hZ (wd52 hw)) (mvT hZ (wd51 hw)) (by decide) (backOf (W := 0) (rm8 l Z a0 hw [] b42 (0 : Int32) (0 : Int32) (3 : Int32) x2_3_0_43 k_x2_3_0_43 [(.int p2), (.int p3), (.int p4), (.int p5), (.int p4), (.int p2), (.int (0 : Int32)), (.int (0 : Int32)), (.int (0 : Int32)), (.int (0 : Int32)), (.int (0 : Int32)), (.int (0 : Int32))] (12 : Int32) p2 h45 n0 Z0 F_b42_values F_b42_arity V_x2_3_0_43 (by decide) rfl) hZ (wd53 hw) (wd8 hw) (by decide) (by decide)) q50a q50c (g := (mkF m 123 #[.val (.int p1), .val (.int p2), .val (.int p3), .val (.int p4), .val (.int p5), .val (.int p6), .val (.int 3), .val (.int 0), .val (.int 0), .val (.ref x1_3_0_40), .val (.ref x1_3_0_41), .val (.ref b42), .val (.int 1), .val (.int 0), .val (.int p2)] [(.int 0), (.int 0), (.ref b42)])) rfl (by rw [hml]; rfl) (Steps.refl _) (argsL := [(.int (0 : Int32)), (.int (0 : Int32))]) (rest := []) (lenOf pd5 rfl) rfl (by show 2 * 0 + _ ≤ _; exact Nat.le_of_eq rfl) (hb hby at_123) (fun _ _ => ⟨rfl, e49, (by decide : 4 + 0 ≤ _), (by decide : 24 + 0 ≤ _)⟩)
            dsimp only [Pt.U, Pt.locs, Pt.cells, Pt.slots] at X50 l50 y50 z50 st50 hQ50
            subst l50 y50 z50
            refine Go.tr st50 ?_
            obtain ⟨rfl, N50q, e50⟩ := hQ50
            have N50 := Fr.app N49 N50q
            show Go _ _ _ (T50.setTop (mkF m 126 #[.val (.int p1), .val (.int p2), .val (.int p3), .val (.int p4), .val (.int p5), .val (.int p6), .val (.int 3), .val (.int 0), .val (.int 0), .val (.ref x1_3_0_40), .val (.ref x1_3_0_41), .val (.ref b42), .val (.int 1), .val (.int 0), .val (.int p2)] [(.int p2)])) _
            refine Go.st (fun t k => XS.iload X50.here hx rfl (hb hby at_126) rfl k) ?_
            refine Go.st (fun t k => XS.icmpNo X50.here hx rfl (hb hby at_128) rfl (teq (rfl : p2 = p2)).2 k) ?_
            show Go _ _ _ (T50.setTop (mkF m 131 #[.val (.int p1), .val (.int p2), .val (.int p3), .val (.int p4), .val (.int p5), .val (.int p6), .val (.int 3), .val (.int 0), .val (.int 0), .val (.ref x1_3_0_40), .val (.ref x1_3_0_41), .val (.ref b42), .val (.int 1), .val (.int 0), .val (.int p2)] [])) _
            refine Go.st (fun t k => XS.iconst X50.here hx rfl (hb hby at_131) k) ?_
            refine Go.st (fun t k => XS.goto X50.here hx rfl (pc0 := 132) (pc' := 136) rfl (hb hby at_132) (by decide) (by decide) k) ?_
            obtain ⟨fs, hr, hrun, hended, hW, hsame⟩ := X50.leave (v := some (.int (1 : Int32))) (fun h => by rw [Bd.returns] at h; cases h)
            refine Go.fin (retN X50 hx (t := .boolean) Bd.returns (by simp) (hb hby at_136) hr) hrun hended ⟨_, _, rfl, ?_, ⟨_, rfl⟩, hW, hsame.mono (by decide) (by decide)⟩
            show Q0 Z p1 p2 p3 p4 p5 p6 w_NI k_NI h0 n0 _ T50.heap _
            rw [e50]
            exact ⟨rfl, N50⟩
          · rw [own_b1 p6 hc48]
            show Go _ _ _ (T45.setTop (mkF m 82 #[.val (.int p1), .val (.int p2), .val (.int p3), .val (.int p4), .val (.int p5), .val (.int p6), .val (.int 3), .val (.int 1), .val (.int 0), .val (.ref x1_3_0_40), .val (.ref x1_3_0_41), .val (.ref b42), .val (.int 1), .unset, .unset] [])) _
            refine Go.st (fun t k => XS.iload X45.here hx rfl (hb hby at_82) rfl k) ?_
            refine Go.st (fun t k => XS.goto X45.here hx rfl (pc0 := 84) (pc' := 88) rfl (hb hby at_84) (by decide) (by decide) k) ?_
            refine Go.st (fun t k => XS.istore X45.here hx rfl (hb hby at_88) rfl (l' := #[.val (.int p1), .val (.int p2), .val (.int p3), .val (.int p4), .val (.int p5), .val (.int p6), .val (.int 3), .val (.int 1), .val (.int 0), .val (.ref x1_3_0_40), .val (.ref x1_3_0_41), .val (.ref b42), .val (.int 1), .val (.int 1), .unset]) rfl k) ?_
            refine Go.st (fun t k => XS.iload X45.here hx rfl (hb hby at_90) rfl k) ?_
            refine Go.st (fun t k => XS.ifYes X45.here hx rfl (pc0 := 92) (pc' := 106) rfl (hb hby at_92) rfl ((if0 _ _).trans (feq (by decide : ¬ ((1 : Int32) = (0 : Int32)))).2) (by decide) (by decide) k) ?_
            show Go _ _ _ (T45.setTop (mkF m 106 #[.val (.int p1), .val (.int p2), .val (.int p3), .val (.int p4), .val (.int p5), .val (.int p6), .val (.int 3), .val (.int 1), .val (.int 0), .val (.ref x1_3_0_40), .val (.ref x1_3_0_41), .val (.ref b42), .val (.int 1), .val (.int 1), .unset] [])) _
            refine Go.st (fun t k => XS.iload X45.here hx rfl (hb hby at_106) rfl k) ?_
            refine Go.st (fun t k => XS.iload X45.here hx rfl (hb hby at_108) rfl k) ?_
            refine Go.st (fun t k => XS.iloadN X45.here hx rfl (hb hby at_110) rfl k) ?_
            refine Go.st (fun t k => XS.iloadN X45.here hx rfl (hb hby at_111) rfl k) ?_
            obtain ⟨_, _, ⟨T51, L51, k51, n51⟩, -, X51, ⟨Lc51, hQ51, l51, y51, z51⟩, st51⟩ := Jvm.LawKit.callS X45 hx (y := (⟨"com/example/bitlattice/bitlattice/eval/RelationGetPinLaw", "pick", "(IIII)I"⟩ : MethodName)) hown (mvT hZ (wd46 hw)) (mvT hZ (wd47 hw)) (mvT hZ (wd3 hw)) (mvT hZ (wd48 hw)) (by decide) (backOf (W := 0) (rm7 l Z a0 hw [] (0 : Int32) p5 p4 p2 h45 n0 Z0) hZ (wd48 hw) (wd3 hw) (by decide) (by decide)) (g := (mkF m 112 #[.val (.int p1), .val (.int p2), .val (.int p3), .val (.int p4), .val (.int p5), .val (.int p6), .val (.int 3), .val (.int 1), .val (.int 0), .val (.ref x1_3_0_40), .val (.ref x1_3_0_41), .val (.ref b42), .val (.int 1), .val (.int 1), .unset] [(.int p2), (.int p4), (.int p5), (.int 0)])) rfl (by rw [hml]; rfl) (argsL := [(.int (0 : Int32)), (.int p5), (.int p4), (.int p2)]) (rest := []) (lenOf pd4 rfl) rfl (by show 2 * 0 + _ ≤ _; exact Nat.le_of_eq rfl) (hb hby at_112) (fun _ _ => ⟨rfl, e45, (by decide : 4 + 0 ≤ _), (by decide : 24 + 0 ≤ _)⟩)
            dsimp only [Pt.U, Pt.locs, Pt.cells, Pt.slots] at X51 l51 y51 z51 st51 hQ51
            subst l51 y51 z51
            refine Go.st st51 ?_
            obtain ⟨rfl, N51q, e51⟩ := hQ51
            have N51 := Fr.app N45 N51q
            show Go _ _ _ (T51.setTop (mkF m 115 #[.val (.int p1), .val (.int p2), .val (.int p3), .val (.int p4), .val (.int p5), .val (.int p6), .val (.int 3), .val (.int 1), .val (.int 0), .val (.ref x1_3_0_40), .val (.ref x1_3_0_41), .val (.ref b42), .val (.int 1), .val (.int 1), .unset] [(.int (f7 (0 : Int32) p5 p4 p2))])) _
            rw [show (f7 (0 : Int32) p5 p4 p2) = p5 from by unfold f7; simp only [if_pos (by decide : (0 : Int32) = (0 : Int32)), if_true, if_false]]
            show Go _ _ _ (T51.setTop (mkF m 115 #[.val (.int p1), .val (.int p2), .val (.int p3), .val (.int p4), .val (.int p5), .val (.int p6), .val (.int 3), .val (.int 1), .val (.int 0), .val (.ref x1_3_0_40), .val (.ref x1_3_0_41), .val (.ref b42), .val (.int 1), .val (.int 1), .unset] [(.int p5)])) _
            refine Go.st (fun t k => XS.istore X51.here hx rfl (hb hby at_115) rfl (l' := #[.val (.int p1), .val (.int p2), .val (.int p3), .val (.int p4), .val (.int p5), .val (.int p6), .val (.int 3), .val (.int 1), .val (.int 0), .val (.ref x1_3_0_40), .val (.ref x1_3_0_41), .val (.ref b42), .val (.int 1), .val (.int 1), .val (.int p5)]) rfl k) ?_
            refine Go.st (fun t k => XS.aload X51.here hx rfl (hb hby at_117) rfl rfl k) ?_
            refine Go.st (fun t k => XS.iload X51.here hx rfl (hb hby at_119) rfl k) ?_
            refine Go.st (fun t k => XS.iload X51.here hx rfl (hb hby at_121) rfl k) ?_
            obtain ⟨cq52, kq52, q52a, q52b, q52c⟩ := isOf hZ e51 E_b42
            obtain ⟨_, _, ⟨T52, L52, k52, n52⟩, -, X52, ⟨Lc52, hQ52, l52, y52, z52⟩, st52⟩ := X51.virtualBack hx (y := (⟨"com/example/bitlattice/bitlattice/eval/Relation", "get", "(II)I"⟩ : MethodName)) (z := (⟨"com/example/bitlattice/bitlattice/eval/Relation", "get", "(II)I"⟩ : MethodName)) hown (mvT hZ (wd49 hw)) (mvT hZ (wd50 hw)) (notFace_of_selects (args := #[]) (mvT hZ (wd52 hw))) (mvT hZ (wd52 hw)) (mvT hZ (wd51 hw)) (by decide) (backOf (W := 0) (rm8 l Z a0 hw [] b42 (1 : Int32) (0 : Int32) (3 : Int32) x2_3_0_43 k_x2_3_0_43 [(.int p2), (.int p3), (.int p4), (.int p5), (.int p4), (.int p2), (.int (0 : Int32)), (.int (0 : Int32)), (.int (0 : Int32)), (.int (0 : Int32)), (.int (0 : Int32)), (.int (0 : Int32))] (12 : Int32) p5 h45 n0 Z0 F_b42_values F_b42_arity V_x2_3_0_43 (by decide) rfl) hZ (wd53 hw) (wd8 hw) (by decide) (by decide)) q52a q52c (g := (mkF m 123 #[.val (.int p1), .val (.int p2), .val (.int p3), .val (.int p4), .val (.int p5), .val (.int p6), .val (.int 3), .val (.int 1), .val (.int 0), .val (.ref x1_3_0_40), .val (.ref x1_3_0_41), .val (.ref b42), .val (.int 1), .val (.int 1), .val (.int p5)] [(.int 0), (.int 1), (.ref b42)])) rfl (by rw [hml]; rfl) (Steps.refl _) (argsL := [(.int (1 : Int32)), (.int (0 : Int32))]) (rest := []) (lenOf pd5 rfl) rfl (by show 2 * 0 + _ ≤ _; exact Nat.le_of_eq rfl) (hb hby at_123) (fun _ _ => ⟨rfl, e51, (by decide : 4 + 0 ≤ _), (by decide : 24 + 0 ≤ _)⟩)
            dsimp only [Pt.U, Pt.locs, Pt.cells, Pt.slots] at X52 l52 y52 z52 st52 hQ52
            subst l52 y52 z52
            refine Go.tr st52 ?_
            obtain ⟨rfl, N52q, e52⟩ := hQ52
            have N52 := Fr.app N51 N52q
            show Go _ _ _ (T52.setTop (mkF m 126 #[.val (.int p1), .val (.int p2), .val (.int p3), .val (.int p4), .val (.int p5), .val (.int p6), .val (.int 3), .val (.int 1), .val (.int 0), .val (.ref x1_3_0_40), .val (.ref x1_3_0_41), .val (.ref b42), .val (.int 1), .val (.int 1), .val (.int p5)] [(.int p5)])) _
            refine Go.st (fun t k => XS.iload X52.here hx rfl (hb hby at_126) rfl k) ?_
            refine Go.st (fun t k => XS.icmpNo X52.here hx rfl (hb hby at_128) rfl (teq (rfl : p5 = p5)).2 k) ?_
            show Go _ _ _ (T52.setTop (mkF m 131 #[.val (.int p1), .val (.int p2), .val (.int p3), .val (.int p4), .val (.int p5), .val (.int p6), .val (.int 3), .val (.int 1), .val (.int 0), .val (.ref x1_3_0_40), .val (.ref x1_3_0_41), .val (.ref b42), .val (.int 1), .val (.int 1), .val (.int p5)] [])) _
            refine Go.st (fun t k => XS.iconst X52.here hx rfl (hb hby at_131) k) ?_
            refine Go.st (fun t k => XS.goto X52.here hx rfl (pc0 := 132) (pc' := 136) rfl (hb hby at_132) (by decide) (by decide) k) ?_
            obtain ⟨fs, hr, hrun, hended, hW, hsame⟩ := X52.leave (v := some (.int (1 : Int32))) (fun h => by rw [Bd.returns] at h; cases h)
            refine Go.fin (retN X52 hx (t := .boolean) Bd.returns (by simp) (hb hby at_136) hr) hrun hended ⟨_, _, rfl, ?_, ⟨_, rfl⟩, hW, hsame.mono (by decide) (by decide)⟩
            show Q0 Z p1 p2 p3 p4 p5 p6 w_NI k_NI h0 n0 _ T52.heap _
            rw [e52]
            exact ⟨rfl, N52⟩
        · by_cases hc53 : ((((p6.toUInt32 >>> ((1 : Int32) &&& 31).toUInt32).toInt32) &&& (2147483647 : Int32)) % (3 : Int32)) = (1 : Int32)
          · rw [hc53]
            show Go _ _ _ (T45.setTop (mkF m 77 #[.val (.int p1), .val (.int p2), .val (.int p3), .val (.int p4), .val (.int p5), .val (.int p6), .val (.int 3), .val (.int (p6 &&& (1 : Int32))), .val (.int 1), .val (.ref x1_3_0_40), .val (.ref x1_3_0_41), .val (.ref b42), .val (.int 1), .unset, .unset] [])) _
            refine Go.st (fun t k => XS.iload X45.here hx rfl (hb hby at_77) rfl k) ?_
            refine Go.st (fun t k => XS.ifNo X45.here hx rfl (hb hby at_79) rfl ((if0 _ _).trans (feq (by decide : ¬ ((1 : Int32) = (0 : Int32)))).1) k) ?_
            show Go _ _ _ (T45.setTop (mkF m 82 #[.val (.int p1), .val (.int p2), .val (.int p3), .val (.int p4), .val (.int p5), .val (.int p6), .val (.int 3), .val (.int (p6 &&& (1 : Int32))), .val (.int 1), .val (.ref x1_3_0_40), .val (.ref x1_3_0_41), .val (.ref b42), .val (.int 1), .unset, .unset] [])) _
            by_cases hc54 : (p6 &&& (1 : Int32)) = (0 : Int32)
            · rw [hc54]
              show Go _ _ _ (T45.setTop (mkF m 82 #[.val (.int p1), .val (.int p2), .val (.int p3), .val (.int p4), .val (.int p5), .val (.int p6), .val (.int 3), .val (.int 0), .val (.int 1), .val (.ref x1_3_0_40), .val (.ref x1_3_0_41), .val (.ref b42), .val (.int 1), .unset, .unset] [])) _
              refine Go.st (fun t k => XS.iload X45.here hx rfl (hb hby at_82) rfl k) ?_
              refine Go.st (fun t k => XS.goto X45.here hx rfl (pc0 := 84) (pc' := 88) rfl (hb hby at_84) (by decide) (by decide) k) ?_
              refine Go.st (fun t k => XS.istore X45.here hx rfl (hb hby at_88) rfl (l' := #[.val (.int p1), .val (.int p2), .val (.int p3), .val (.int p4), .val (.int p5), .val (.int p6), .val (.int 3), .val (.int 0), .val (.int 1), .val (.ref x1_3_0_40), .val (.ref x1_3_0_41), .val (.ref b42), .val (.int 1), .val (.int 0), .unset]) rfl k) ?_
              refine Go.st (fun t k => XS.iload X45.here hx rfl (hb hby at_90) rfl k) ?_
              refine Go.st (fun t k => XS.ifNo X45.here hx rfl (hb hby at_92) rfl ((if0 _ _).trans (teq (by decide : (0 : Int32) = (0 : Int32))).2) k) ?_
              show Go _ _ _ (T45.setTop (mkF m 95 #[.val (.int p1), .val (.int p2), .val (.int p3), .val (.int p4), .val (.int p5), .val (.int p6), .val (.int 3), .val (.int 0), .val (.int 1), .val (.ref x1_3_0_40), .val (.ref x1_3_0_41), .val (.ref b42), .val (.int 1), .val (.int 0), .unset] [])) _
              refine Go.st (fun t k => XS.iload X45.here hx rfl (hb hby at_95) rfl k) ?_
              refine Go.st (fun t k => XS.iloadN X45.here hx rfl (hb hby at_97) rfl k) ?_
              refine Go.st (fun t k => XS.iloadN X45.here hx rfl (hb hby at_98) rfl k) ?_
              refine Go.st (fun t k => XS.iloadN X45.here hx rfl (hb hby at_99) rfl k) ?_
              obtain ⟨_, _, ⟨T55, L55, k55, n55⟩, -, X55, ⟨Lc55, hQ55, l55, y55, z55⟩, st55⟩ := Jvm.LawKit.callS X45 hx (y := (⟨"com/example/bitlattice/bitlattice/eval/RelationGetPinLaw", "pick", "(IIII)I"⟩ : MethodName)) hown (mvT hZ (wd46 hw)) (mvT hZ (wd47 hw)) (mvT hZ (wd3 hw)) (mvT hZ (wd48 hw)) (by decide) (backOf (W := 0) (rm7 l Z a0 hw [] (1 : Int32) p2 p3 p4 h45 n0 Z0) hZ (wd48 hw) (wd3 hw) (by decide) (by decide)) (g := (mkF m 100 #[.val (.int p1), .val (.int p2), .val (.int p3), .val (.int p4), .val (.int p5), .val (.int p6), .val (.int 3), .val (.int 0), .val (.int 1), .val (.ref x1_3_0_40), .val (.ref x1_3_0_41), .val (.ref b42), .val (.int 1), .val (.int 0), .unset] [(.int p4), (.int p3), (.int p2), (.int 1)])) rfl (by rw [hml]; rfl) (argsL := [(.int (1 : Int32)), (.int p2), (.int p3), (.int p4)]) (rest := []) (lenOf pd4 rfl) rfl (by show 2 * 0 + _ ≤ _; exact Nat.le_of_eq rfl) (hb hby at_100) (fun _ _ => ⟨rfl, e45, (by decide : 4 + 0 ≤ _), (by decide : 24 + 0 ≤ _)⟩)
              dsimp only [Pt.U, Pt.locs, Pt.cells, Pt.slots] at X55 l55 y55 z55 st55 hQ55
              subst l55 y55 z55
              refine Go.st st55 ?_
              obtain ⟨rfl, N55q, e55⟩ := hQ55
              have N55 := Fr.app N45 N55q
              show Go _ _ _ (T55.setTop (mkF m 103 #[.val (.int p1), .val (.int p2), .val (.int p3), .val (.int p4), .val (.int p5), .val (.int p6), .val (.int 3), .val (.int 0), .val (.int 1), .val (.ref x1_3_0_40), .val (.ref x1_3_0_41), .val (.ref b42), .val (.int 1), .val (.int 0), .unset] [(.int (f7 (1 : Int32) p2 p3 p4))])) _
              rw [show (f7 (1 : Int32) p2 p3 p4) = p3 from by unfold f7; simp only [if_neg (by decide : ¬ ((1 : Int32) = (0 : Int32))), if_pos (by decide : (1 : Int32) = (1 : Int32)), if_true, if_false]]
              show Go _ _ _ (T55.setTop (mkF m 103 #[.val (.int p1), .val (.int p2), .val (.int p3), .val (.int p4), .val (.int p5), .val (.int p6), .val (.int 3), .val (.int 0), .val (.int 1), .val (.ref x1_3_0_40), .val (.ref x1_3_0_41), .val (.ref b42), .val (.int 1), .val (.int 0), .unset] [(.int p3)])) _
              refine Go.st (fun t k => XS.goto X55.here hx rfl (pc0 := 103) (pc' := 115) rfl (hb hby at_103) (by decide) (by decide) k) ?_
              refine Go.st (fun t k => XS.istore X55.here hx rfl (hb hby at_115) rfl (l' := #[.val (.int p1), .val (.int p2), .val (.int p3), .val (.int p4), .val (.int p5), .val (.int p6), .val (.int 3), .val (.int 0), .val (.int 1), .val (.ref x1_3_0_40), .val (.ref x1_3_0_41), .val (.ref b42), .val (.int 1), .val (.int 0), .val (.int p3)]) rfl k) ?_
              refine Go.st (fun t k => XS.aload X55.here hx rfl (hb hby at_117) rfl rfl k) ?_
              refine Go.st (fun t k => XS.iload X55.here hx rfl (hb hby at_119) rfl k) ?_
              refine Go.st (fun t k => XS.iload X55.here hx rfl (hb hby at_121) rfl k) ?_
              obtain ⟨cq56, kq56, q56a, q56b, q56c⟩ := isOf hZ e55 E_b42
              obtain ⟨_, _, ⟨T56, L56, k56, n56⟩, -, X56, ⟨Lc56, hQ56, l56, y56, z56⟩, st56⟩ := X55.virtualBack hx (y := (⟨"com/example/bitlattice/bitlattice/eval/Relation", "get", "(II)I"⟩ : MethodName)) (z := (⟨"com/example/bitlattice/bitlattice/eval/Relation", "get", "(II)I"⟩ : MethodName)) hown (mvT hZ (wd49 hw)) (mvT hZ (wd50 hw)) (notFace_of_selects (args := #[]) (mvT hZ (wd52 hw))) (mvT hZ (wd52 hw)) (mvT hZ (wd51 hw)) (by decide) (backOf (W := 0) (rm8 l Z a0 hw [] b42 (0 : Int32) (1 : Int32) (3 : Int32) x2_3_0_43 k_x2_3_0_43 [(.int p2), (.int p3), (.int p4), (.int p5), (.int p4), (.int p2), (.int (0 : Int32)), (.int (0 : Int32)), (.int (0 : Int32)), (.int (0 : Int32)), (.int (0 : Int32)), (.int (0 : Int32))] (12 : Int32) p3 h45 n0 Z0 F_b42_values F_b42_arity V_x2_3_0_43 (by decide) rfl) hZ (wd53 hw) (wd8 hw) (by decide) (by decide)) q56a q56c (g := (mkF m 123 #[.val (.int p1), .val (.int p2), .val (.int p3), .val (.int p4), .val (.int p5), .val (.int p6), .val (.int 3), .val (.int 0), .val (.int 1), .val (.ref x1_3_0_40), .val (.ref x1_3_0_41), .val (.ref b42), .val (.int 1), .val (.int 0), .val (.int p3)] [(.int 1), (.int 0), (.ref b42)])) rfl (by rw [hml]; rfl) (Steps.refl _) (argsL := [(.int (0 : Int32)), (.int (1 : Int32))]) (rest := []) (lenOf pd5 rfl) rfl (by show 2 * 0 + _ ≤ _; exact Nat.le_of_eq rfl) (hb hby at_123) (fun _ _ => ⟨rfl, e55, (by decide : 4 + 0 ≤ _), (by decide : 24 + 0 ≤ _)⟩)
              dsimp only [Pt.U, Pt.locs, Pt.cells, Pt.slots] at X56 l56 y56 z56 st56 hQ56
              subst l56 y56 z56
              refine Go.tr st56 ?_
              obtain ⟨rfl, N56q, e56⟩ := hQ56
              have N56 := Fr.app N55 N56q
              show Go _ _ _ (T56.setTop (mkF m 126 #[.val (.int p1), .val (.int p2), .val (.int p3), .val (.int p4), .val (.int p5), .val (.int p6), .val (.int 3), .val (.int 0), .val (.int 1), .val (.ref x1_3_0_40), .val (.ref x1_3_0_41), .val (.ref b42), .val (.int 1), .val (.int 0), .val (.int p3)] [(.int p3)])) _
              refine Go.st (fun t k => XS.iload X56.here hx rfl (hb hby at_126) rfl k) ?_
              refine Go.st (fun t k => XS.icmpNo X56.here hx rfl (hb hby at_128) rfl (teq (rfl : p3 = p3)).2 k) ?_
              show Go _ _ _ (T56.setTop (mkF m 131 #[.val (.int p1), .val (.int p2), .val (.int p3), .val (.int p4), .val (.int p5), .val (.int p6), .val (.int 3), .val (.int 0), .val (.int 1), .val (.ref x1_3_0_40), .val (.ref x1_3_0_41), .val (.ref b42), .val (.int 1), .val (.int 0), .val (.int p3)] [])) _
              refine Go.st (fun t k => XS.iconst X56.here hx rfl (hb hby at_131) k) ?_
              refine Go.st (fun t k => XS.goto X56.here hx rfl (pc0 := 132) (pc' := 136) rfl (hb hby at_132) (by decide) (by decide) k) ?_
              obtain ⟨fs, hr, hrun, hended, hW, hsame⟩ := X56.leave (v := some (.int (1 : Int32))) (fun h => by rw [Bd.returns] at h; cases h)
              refine Go.fin (retN X56 hx (t := .boolean) Bd.returns (by simp) (hb hby at_136) hr) hrun hended ⟨_, _, rfl, ?_, ⟨_, rfl⟩, hW, hsame.mono (by decide) (by decide)⟩
              show Q0 Z p1 p2 p3 p4 p5 p6 w_NI k_NI h0 n0 _ T56.heap _
              rw [e56]
              exact ⟨rfl, N56⟩
            · rw [own_b1 p6 hc54]
              show Go _ _ _ (T45.setTop (mkF m 82 #[.val (.int p1), .val (.int p2), .val (.int p3), .val (.int p4), .val (.int p5), .val (.int p6), .val (.int 3), .val (.int 1), .val (.int 1), .val (.ref x1_3_0_40), .val (.ref x1_3_0_41), .val (.ref b42), .val (.int 1), .unset, .unset] [])) _
              refine Go.st (fun t k => XS.iload X45.here hx rfl (hb hby at_82) rfl k) ?_
              refine Go.st (fun t k => XS.goto X45.here hx rfl (pc0 := 84) (pc' := 88) rfl (hb hby at_84) (by decide) (by decide) k) ?_
              refine Go.st (fun t k => XS.istore X45.here hx rfl (hb hby at_88) rfl (l' := #[.val (.int p1), .val (.int p2), .val (.int p3), .val (.int p4), .val (.int p5), .val (.int p6), .val (.int 3), .val (.int 1), .val (.int 1), .val (.ref x1_3_0_40), .val (.ref x1_3_0_41), .val (.ref b42), .val (.int 1), .val (.int 1), .unset]) rfl k) ?_
              refine Go.st (fun t k => XS.iload X45.here hx rfl (hb hby at_90) rfl k) ?_
              refine Go.st (fun t k => XS.ifYes X45.here hx rfl (pc0 := 92) (pc' := 106) rfl (hb hby at_92) rfl ((if0 _ _).trans (feq (by decide : ¬ ((1 : Int32) = (0 : Int32)))).2) (by decide) (by decide) k) ?_
              show Go _ _ _ (T45.setTop (mkF m 106 #[.val (.int p1), .val (.int p2), .val (.int p3), .val (.int p4), .val (.int p5), .val (.int p6), .val (.int 3), .val (.int 1), .val (.int 1), .val (.ref x1_3_0_40), .val (.ref x1_3_0_41), .val (.ref b42), .val (.int 1), .val (.int 1), .unset] [])) _
              refine Go.st (fun t k => XS.iload X45.here hx rfl (hb hby at_106) rfl k) ?_
              refine Go.st (fun t k => XS.iload X45.here hx rfl (hb hby at_108) rfl k) ?_
              refine Go.st (fun t k => XS.iloadN X45.here hx rfl (hb hby at_110) rfl k) ?_
              refine Go.st (fun t k => XS.iloadN X45.here hx rfl (hb hby at_111) rfl k) ?_
              obtain ⟨_, _, ⟨T57, L57, k57, n57⟩, -, X57, ⟨Lc57, hQ57, l57, y57, z57⟩, st57⟩ := Jvm.LawKit.callS X45 hx (y := (⟨"com/example/bitlattice/bitlattice/eval/RelationGetPinLaw", "pick", "(IIII)I"⟩ : MethodName)) hown (mvT hZ (wd46 hw)) (mvT hZ (wd47 hw)) (mvT hZ (wd3 hw)) (mvT hZ (wd48 hw)) (by decide) (backOf (W := 0) (rm7 l Z a0 hw [] (1 : Int32) p5 p4 p2 h45 n0 Z0) hZ (wd48 hw) (wd3 hw) (by decide) (by decide)) (g := (mkF m 112 #[.val (.int p1), .val (.int p2), .val (.int p3), .val (.int p4), .val (.int p5), .val (.int p6), .val (.int 3), .val (.int 1), .val (.int 1), .val (.ref x1_3_0_40), .val (.ref x1_3_0_41), .val (.ref b42), .val (.int 1), .val (.int 1), .unset] [(.int p2), (.int p4), (.int p5), (.int 1)])) rfl (by rw [hml]; rfl) (argsL := [(.int (1 : Int32)), (.int p5), (.int p4), (.int p2)]) (rest := []) (lenOf pd4 rfl) rfl (by show 2 * 0 + _ ≤ _; exact Nat.le_of_eq rfl) (hb hby at_112) (fun _ _ => ⟨rfl, e45, (by decide : 4 + 0 ≤ _), (by decide : 24 + 0 ≤ _)⟩)
              dsimp only [Pt.U, Pt.locs, Pt.cells, Pt.slots] at X57 l57 y57 z57 st57 hQ57
              subst l57 y57 z57
              refine Go.st st57 ?_
              obtain ⟨rfl, N57q, e57⟩ := hQ57
              have N57 := Fr.app N45 N57q
              show Go _ _ _ (T57.setTop (mkF m 115 #[.val (.int p1), .val (.int p2), .val (.int p3), .val (.int p4), .val (.int p5), .val (.int p6), .val (.int 3), .val (.int 1), .val (.int 1), .val (.ref x1_3_0_40), .val (.ref x1_3_0_41), .val (.ref b42), .val (.int 1), .val (.int 1), .unset] [(.int (f7 (1 : Int32) p5 p4 p2))])) _
              rw [show (f7 (1 : Int32) p5 p4 p2) = p4 from by unfold f7; simp only [if_neg (by decide : ¬ ((1 : Int32) = (0 : Int32))), if_pos (by decide : (1 : Int32) = (1 : Int32)), if_true, if_false]]
              show Go _ _ _ (T57.setTop (mkF m 115 #[.val (.int p1), .val (.int p2), .val (.int p3), .val (.int p4), .val (.int p5), .val (.int p6), .val (.int 3), .val (.int 1), .val (.int 1), .val (.ref x1_3_0_40), .val (.ref x1_3_0_41), .val (.ref b42), .val (.int 1), .val (.int 1), .unset] [(.int p4)])) _
              refine Go.st (fun t k => XS.istore X57.here hx rfl (hb hby at_115) rfl (l' := #[.val (.int p1), .val (.int p2), .val (.int p3), .val (.int p4), .val (.int p5), .val (.int p6), .val (.int 3), .val (.int 1), .val (.int 1), .val (.ref x1_3_0_40), .val (.ref x1_3_0_41), .val (.ref b42), .val (.int 1), .val (.int 1), .val (.int p4)]) rfl k) ?_
              refine Go.st (fun t k => XS.aload X57.here hx rfl (hb hby at_117) rfl rfl k) ?_
              refine Go.st (fun t k => XS.iload X57.here hx rfl (hb hby at_119) rfl k) ?_
              refine Go.st (fun t k => XS.iload X57.here hx rfl (hb hby at_121) rfl k) ?_
              obtain ⟨cq58, kq58, q58a, q58b, q58c⟩ := isOf hZ e57 E_b42
              obtain ⟨_, _, ⟨T58, L58, k58, n58⟩, -, X58, ⟨Lc58, hQ58, l58, y58, z58⟩, st58⟩ := X57.virtualBack hx (y := (⟨"com/example/bitlattice/bitlattice/eval/Relation", "get", "(II)I"⟩ : MethodName)) (z := (⟨"com/example/bitlattice/bitlattice/eval/Relation", "get", "(II)I"⟩ : MethodName)) hown (mvT hZ (wd49 hw)) (mvT hZ (wd50 hw)) (notFace_of_selects (args := #[]) (mvT hZ (wd52 hw))) (mvT hZ (wd52 hw)) (mvT hZ (wd51 hw)) (by decide) (backOf (W := 0) (rm8 l Z a0 hw [] b42 (1 : Int32) (1 : Int32) (3 : Int32) x2_3_0_43 k_x2_3_0_43 [(.int p2), (.int p3), (.int p4), (.int p5), (.int p4), (.int p2), (.int (0 : Int32)), (.int (0 : Int32)), (.int (0 : Int32)), (.int (0 : Int32)), (.int (0 : Int32)), (.int (0 : Int32))] (12 : Int32) p4 h45 n0 Z0 F_b42_values F_b42_arity V_x2_3_0_43 (by decide) rfl) hZ (wd53 hw) (wd8 hw) (by decide) (by decide)) q58a q58c (g := (mkF m 123 #[.val (.int p1), .val (.int p2), .val (.int p3), .val (.int p4), .val (.int p5), .val (.int p6), .val (.int 3), .val (.int 1), .val (.int 1), .val (.ref x1_3_0_40), .val (.ref x1_3_0_41), .val (.ref b42), .val (.int 1), .val (.int 1), .val (.int p4)] [(.int 1), (.int 1), (.ref b42)])) rfl (by rw [hml]; rfl) (Steps.refl _) (argsL := [(.int (1 : Int32)), (.int (1 : Int32))]) (rest := []) (lenOf pd5 rfl) rfl (by show 2 * 0 + _ ≤ _; exact Nat.le_of_eq rfl) (hb hby at_123) (fun _ _ => ⟨rfl, e57, (by decide : 4 + 0 ≤ _), (by decide : 24 + 0 ≤ _)⟩)
              dsimp only [Pt.U, Pt.locs, Pt.cells, Pt.slots] at X58 l58 y58 z58 st58 hQ58
              subst l58 y58 z58
              refine Go.tr st58 ?_
              obtain ⟨rfl, N58q, e58⟩ := hQ58
              have N58 := Fr.app N57 N58q
              show Go _ _ _ (T58.setTop (mkF m 126 #[.val (.int p1), .val (.int p2), .val (.int p3), .val (.int p4), .val (.int p5), .val (.int p6), .val (.int 3), .val (.int 1), .val (.int 1), .val (.ref x1_3_0_40), .val (.ref x1_3_0_41), .val (.ref b42), .val (.int 1), .val (.int 1), .val (.int p4)] [(.int p4)])) _
              refine Go.st (fun t k => XS.iload X58.here hx rfl (hb hby at_126) rfl k) ?_
              refine Go.st (fun t k => XS.icmpNo X58.here hx rfl (hb hby at_128) rfl (teq (rfl : p4 = p4)).2 k) ?_
              show Go _ _ _ (T58.setTop (mkF m 131 #[.val (.int p1), .val (.int p2), .val (.int p3), .val (.int p4), .val (.int p5), .val (.int p6), .val (.int 3), .val (.int 1), .val (.int 1), .val (.ref x1_3_0_40), .val (.ref x1_3_0_41), .val (.ref b42), .val (.int 1), .val (.int 1), .val (.int p4)] [])) _
              refine Go.st (fun t k => XS.iconst X58.here hx rfl (hb hby at_131) k) ?_
              refine Go.st (fun t k => XS.goto X58.here hx rfl (pc0 := 132) (pc' := 136) rfl (hb hby at_132) (by decide) (by decide) k) ?_
              obtain ⟨fs, hr, hrun, hended, hW, hsame⟩ := X58.leave (v := some (.int (1 : Int32))) (fun h => by rw [Bd.returns] at h; cases h)
              refine Go.fin (retN X58 hx (t := .boolean) Bd.returns (by simp) (hb hby at_136) hr) hrun hended ⟨_, _, rfl, ?_, ⟨_, rfl⟩, hW, hsame.mono (by decide) (by decide)⟩
              show Q0 Z p1 p2 p3 p4 p5 p6 w_NI k_NI h0 n0 _ T58.heap _
              rw [e58]
              exact ⟨rfl, N58⟩
          · rw [own_m3 ((p6.toUInt32 >>> ((1 : Int32) &&& 31).toUInt32).toInt32) hc47 hc53]
            show Go _ _ _ (T45.setTop (mkF m 77 #[.val (.int p1), .val (.int p2), .val (.int p3), .val (.int p4), .val (.int p5), .val (.int p6), .val (.int 3), .val (.int (p6 &&& (1 : Int32))), .val (.int 2), .val (.ref x1_3_0_40), .val (.ref x1_3_0_41), .val (.ref b42), .val (.int 1), .unset, .unset] [])) _
            refine Go.st (fun t k => XS.iload X45.here hx rfl (hb hby at_77) rfl k) ?_
            refine Go.st (fun t k => XS.ifNo X45.here hx rfl (hb hby at_79) rfl ((if0 _ _).trans (feq (by decide : ¬ ((1 : Int32) = (0 : Int32)))).1) k) ?_
            show Go _ _ _ (T45.setTop (mkF m 82 #[.val (.int p1), .val (.int p2), .val (.int p3), .val (.int p4), .val (.int p5), .val (.int p6), .val (.int 3), .val (.int (p6 &&& (1 : Int32))), .val (.int 2), .val (.ref x1_3_0_40), .val (.ref x1_3_0_41), .val (.ref b42), .val (.int 1), .unset, .unset] [])) _
            by_cases hc59 : (p6 &&& (1 : Int32)) = (0 : Int32)
            · rw [hc59]
              show Go _ _ _ (T45.setTop (mkF m 82 #[.val (.int p1), .val (.int p2), .val (.int p3), .val (.int p4), .val (.int p5), .val (.int p6), .val (.int 3), .val (.int 0), .val (.int 2), .val (.ref x1_3_0_40), .val (.ref x1_3_0_41), .val (.ref b42), .val (.int 1), .unset, .unset] [])) _
              refine Go.st (fun t k => XS.iload X45.here hx rfl (hb hby at_82) rfl k) ?_
              refine Go.st (fun t k => XS.goto X45.here hx rfl (pc0 := 84) (pc' := 88) rfl (hb hby at_84) (by decide) (by decide) k) ?_
              refine Go.st (fun t k => XS.istore X45.here hx rfl (hb hby at_88) rfl (l' := #[.val (.int p1), .val (.int p2), .val (.int p3), .val (.int p4), .val (.int p5), .val (.int p6), .val (.int 3), .val (.int 0), .val (.int 2), .val (.ref x1_3_0_40), .val (.ref x1_3_0_41), .val (.ref b42), .val (.int 1), .val (.int 0), .unset]) rfl k) ?_
              refine Go.st (fun t k => XS.iload X45.here hx rfl (hb hby at_90) rfl k) ?_
              refine Go.st (fun t k => XS.ifNo X45.here hx rfl (hb hby at_92) rfl ((if0 _ _).trans (teq (by decide : (0 : Int32) = (0 : Int32))).2) k) ?_
              show Go _ _ _ (T45.setTop (mkF m 95 #[.val (.int p1), .val (.int p2), .val (.int p3), .val (.int p4), .val (.int p5), .val (.int p6), .val (.int 3), .val (.int 0), .val (.int 2), .val (.ref x1_3_0_40), .val (.ref x1_3_0_41), .val (.ref b42), .val (.int 1), .val (.int 0), .unset] [])) _
              refine Go.st (fun t k => XS.iload X45.here hx rfl (hb hby at_95) rfl k) ?_
              refine Go.st (fun t k => XS.iloadN X45.here hx rfl (hb hby at_97) rfl k) ?_
              refine Go.st (fun t k => XS.iloadN X45.here hx rfl (hb hby at_98) rfl k) ?_
              refine Go.st (fun t k => XS.iloadN X45.here hx rfl (hb hby at_99) rfl k) ?_
              obtain ⟨_, _, ⟨T60, L60, k60, n60⟩, -, X60, ⟨Lc60, hQ60, l60, y60, z60⟩, st60⟩ := Jvm.LawKit.callS X45 hx (y := (⟨"com/example/bitlattice/bitlattice/eval/RelationGetPinLaw", "pick", "(IIII)I"⟩ : MethodName)) hown (mvT hZ (wd46 hw)) (mvT hZ (wd47 hw)) (mvT hZ (wd3 hw)) (mvT hZ (wd48 hw)) (by decide) (backOf (W := 0) (rm7 l Z a0 hw [] (2 : Int32) p2 p3 p4 h45 n0 Z0) hZ (wd48 hw) (wd3 hw) (by decide) (by decide)) (g := (mkF m 100 #[.val (.int p1), .val (.int p2), .val (.int p3), .val (.int p4), .val (.int p5), .val (.int p6), .val (.int 3), .val (.int 0), .val (.int 2), .val (.ref x1_3_0_40), .val (.ref x1_3_0_41), .val (.ref b42), .val (.int 1), .val (.int 0), .unset] [(.int p4), (.int p3), (.int p2), (.int 2)])) rfl (by rw [hml]; rfl) (argsL := [(.int (2 : Int32)), (.int p2), (.int p3), (.int p4)]) (rest := []) (lenOf pd4 rfl) rfl (by show 2 * 0 + _ ≤ _; exact Nat.le_of_eq rfl) (hb hby at_100) (fun _ _ => ⟨rfl, e45, (by decide : 4 + 0 ≤ _), (by decide : 24 + 0 ≤ _)⟩)
              dsimp only [Pt.U, Pt.locs, Pt.cells, Pt.slots] at X60 l60 y60 z60 st60 hQ60
              subst l60 y60 z60
              refine Go.st st60 ?_
              obtain ⟨rfl, N60q, e60⟩ := hQ60
              have N60 := Fr.app N45 N60q
              show Go _ _ _ (T60.setTop (mkF m 103 #[.val (.int p1), .val (.int p2), .val (.int p3), .val (.int p4), .val (.int p5), .val (.int p6), .val (.int 3), .val (.int 0), .val (.int 2), .val (.ref x1_3_0_40), .val (.ref x1_3_0_41), .val (.ref b42), .val (.int 1), .val (.int 0), .unset] [(.int (f7 (2 : Int32) p2 p3 p4))])) _
              rw [show (f7 (2 : Int32) p2 p3 p4) = p4 from by unfold f7; simp only [if_neg (by decide : ¬ ((2 : Int32) = (0 : Int32))), if_neg (by decide : ¬ ((2 : Int32) = (1 : Int32))), if_true, if_false]]
              show Go _ _ _ (T60.setTop (mkF m 103 #[.val (.int p1), .val (.int p2), .val (.int p3), .val (.int p4), .val (.int p5), .val (.int p6), .val (.int 3), .val (.int 0), .val (.int 2), .val (.ref x1_3_0_40), .val (.ref x1_3_0_41), .val (.ref b42), .val (.int 1), .val (.int 0), .unset] [(.int p4)])) _
              refine Go.st (fun t k => XS.goto X60.here hx rfl (pc0 := 103) (pc' := 115) rfl (hb hby at_103) (by decide) (by decide) k) ?_
              refine Go.st (fun t k => XS.istore X60.here hx rfl (hb hby at_115) rfl (l' := #[.val (.int p1), .val (.int p2), .val (.int p3), .val (.int p4), .val (.int p5), .val (.int p6), .val (.int 3), .val (.int 0), .val (.int 2), .val (.ref x1_3_0_40), .val (.ref x1_3_0_41), .val (.ref b42), .val (.int 1), .val (.int 0), .val (.int p4)]) rfl k) ?_
              refine Go.st (fun t k => XS.aload X60.here hx rfl (hb hby at_117) rfl rfl k) ?_
              refine Go.st (fun t k => XS.iload X60.here hx rfl (hb hby at_119) rfl k) ?_
              refine Go.st (fun t k => XS.iload X60.here hx rfl (hb hby at_121) rfl k) ?_
              obtain ⟨cq61, kq61, q61a, q61b, q61c⟩ := isOf hZ e60 E_b42
              obtain ⟨_, _, ⟨T61, L61, k61, n61⟩, -, X61, ⟨Lc61, hQ61, l61, y61, z61⟩, st61⟩ := X60.virtualBack hx (y := (⟨"com/example/bitlattice/bitlattice/eval/Relation", "get", "(II)I"⟩ : MethodName)) (z := (⟨"com/example/bitlattice/bitlattice/eval/Relation", "get", "(II)I"⟩ : MethodName)) hown (mvT hZ (wd49 hw)) (mvT hZ (wd50 hw)) (notFace_of_selects (args := #[]) (mvT hZ (wd52 hw))) (mvT hZ (wd52 hw)) (mvT hZ (wd51 hw)) (by decide) (backOf (W := 0) (rm8 l Z a0 hw [] b42 (0 : Int32) (2 : Int32) (3 : Int32) x2_3_0_43 k_x2_3_0_43 [(.int p2), (.int p3), (.int p4), (.int p5), (.int p4), (.int p2), (.int (0 : Int32)), (.int (0 : Int32)), (.int (0 : Int32)), (.int (0 : Int32)), (.int (0 : Int32)), (.int (0 : Int32))] (12 : Int32) p4 h45 n0 Z0 F_b42_values F_b42_arity V_x2_3_0_43 (by decide) rfl) hZ (wd53 hw) (wd8 hw) (by decide) (by decide)) q61a q61c (g := (mkF m 123 #[.val (.int p1), .val (.int p2), .val (.int p3), .val (.int p4), .val (.int p5), .val (.int p6), .val (.int 3), .val (.int 0), .val (.int 2), .val (.ref x1_3_0_40), .val (.ref x1_3_0_41), .val (.ref b42), .val (.int 1), .val (.int 0), .val (.int p4)] [(.int 2), (.int 0), (.ref b42)])) rfl (by rw [hml]; rfl) (Steps.refl _) (argsL := [(.int (0 : Int32)), (.int (2 : Int32))]) (rest := []) (lenOf pd5 rfl) rfl (by show 2 * 0 + _ ≤ _; exact Nat.le_of_eq rfl) (hb hby at_123) (fun _ _ => ⟨rfl, e60, (by decide : 4 + 0 ≤ _), (by decide : 24 + 0 ≤ _)⟩)
              dsimp only [Pt.U, Pt.locs, Pt.cells, Pt.slots] at X61 l61 y61 z61 st61 hQ61
              subst l61 y61 z61
              refine Go.tr st61 ?_
              obtain ⟨rfl, N61q, e61⟩ := hQ61
              have N61 := Fr.app N60 N61q
              show Go _ _ _ (T61.setTop (mkF m 126 #[.val (.int p1), .val (.int p2), .val (.int p3), .val (.int p4), .val (.int p5), .val (.int p6), .val (.int 3), .val (.int 0), .val (.int 2), .val (.ref x1_3_0_40), .val (.ref x1_3_0_41), .val (.ref b42), .val (.int 1), .val (.int 0), .val (.int p4)] [(.int p4)])) _
              refine Go.st (fun t k => XS.iload X61.here hx rfl (hb hby at_126) rfl k) ?_
              refine Go.st (fun t k => XS.icmpNo X61.here hx rfl (hb hby at_128) rfl (teq (rfl : p4 = p4)).2 k) ?_
              show Go _ _ _ (T61.setTop (mkF m 131 #[.val (.int p1), .val (.int p2), .val (.int p3), .val (.int p4), .val (.int p5), .val (.int p6), .val (.int 3), .val (.int 0), .val (.int 2), .val (.ref x1_3_0_40), .val (.ref x1_3_0_41), .val (.ref b42), .val (.int 1), .val (.int 0), .val (.int p4)] [])) _
              refine Go.st (fun t k => XS.iconst X61.here hx rfl (hb hby at_131) k) ?_
              refine Go.st (fun t k => XS.goto X61.here hx rfl (pc0 := 132) (pc' := 136) rfl (hb hby at_132) (by decide) (by decide) k) ?_
              obtain ⟨fs, hr, hrun, hended, hW, hsame⟩ := X61.leave (v := some (.int (1 : Int32))) (fun h => by rw [Bd.returns] at h; cases h)
              refine Go.fin (retN X61 hx (t := .boolean) Bd.returns (by simp) (hb hby at_136) hr) hrun hended ⟨_, _, rfl, ?_, ⟨_, rfl⟩, hW, hsame.mono (by decide) (by decide)⟩
              show Q0 Z p1 p2 p3 p4 p5 p6 w_NI k_NI h0 n0 _ T61.heap _
              rw [e61]
              exact ⟨rfl, N61⟩
            · rw [own_b1 p6 hc59]
              show Go _ _ _ (T45.setTop (mkF m 82 #[.val (.int p1), .val (.int p2), .val (.int p3), .val (.int p4), .val (.int p5), .val (.int p6), .val (.int 3), .val (.int 1), .val (.int 2), .val (.ref x1_3_0_40), .val (.ref x1_3_0_41), .val (.ref b42), .val (.int 1), .unset, .unset] [])) _
              refine Go.st (fun t k => XS.iload X45.here hx rfl (hb hby at_82) rfl k) ?_
              refine Go.st (fun t k => XS.goto X45.here hx rfl (pc0 := 84) (pc' := 88) rfl (hb hby at_84) (by decide) (by decide) k) ?_
              refine Go.st (fun t k => XS.istore X45.here hx rfl (hb hby at_88) rfl (l' := #[.val (.int p1), .val (.int p2), .val (.int p3), .val (.int p4), .val (.int p5), .val (.int p6), .val (.int 3), .val (.int 1), .val (.int 2), .val (.ref x1_3_0_40), .val (.ref x1_3_0_41), .val (.ref b42), .val (.int 1), .val (.int 1), .unset]) rfl k) ?_
              refine Go.st (fun t k => XS.iload X45.here hx rfl (hb hby at_90) rfl k) ?_
              refine Go.st (fun t k => XS.ifYes X45.here hx rfl (pc0 := 92) (pc' := 106) rfl (hb hby at_92) rfl ((if0 _ _).trans (feq (by decide : ¬ ((1 : Int32) = (0 : Int32)))).2) (by decide) (by decide) k) ?_
              show Go _ _ _ (T45.setTop (mkF m 106 #[.val (.int p1), .val (.int p2), .val (.int p3), .val (.int p4), .val (.int p5), .val (.int p6), .val (.int 3), .val (.int 1), .val (.int 2), .val (.ref x1_3_0_40), .val (.ref x1_3_0_41), .val (.ref b42), .val (.int 1), .val (.int 1), .unset] [])) _
              refine Go.st (fun t k => XS.iload X45.here hx rfl (hb hby at_106) rfl k) ?_
              refine Go.st (fun t k => XS.iload X45.here hx rfl (hb hby at_108) rfl k) ?_
              refine Go.st (fun t k => XS.iloadN X45.here hx rfl (hb hby at_110) rfl k) ?_
              refine Go.st (fun t k => XS.iloadN X45.here hx rfl (hb hby at_111) rfl k) ?_
              obtain ⟨_, _, ⟨T62, L62, k62, n62⟩, -, X62, ⟨Lc62, hQ62, l62, y62, z62⟩, st62⟩ := Jvm.LawKit.callS X45 hx (y := (⟨"com/example/bitlattice/bitlattice/eval/RelationGetPinLaw", "pick", "(IIII)I"⟩ : MethodName)) hown (mvT hZ (wd46 hw)) (mvT hZ (wd47 hw)) (mvT hZ (wd3 hw)) (mvT hZ (wd48 hw)) (by decide) (backOf (W := 0) (rm7 l Z a0 hw [] (2 : Int32) p5 p4 p2 h45 n0 Z0) hZ (wd48 hw) (wd3 hw) (by decide) (by decide)) (g := (mkF m 112 #[.val (.int p1), .val (.int p2), .val (.int p3), .val (.int p4), .val (.int p5), .val (.int p6), .val (.int 3), .val (.int 1), .val (.int 2), .val (.ref x1_3_0_40), .val (.ref x1_3_0_41), .val (.ref b42), .val (.int 1), .val (.int 1), .unset] [(.int p2), (.int p4), (.int p5), (.int 2)])) rfl (by rw [hml]; rfl) (argsL := [(.int (2 : Int32)), (.int p5), (.int p4), (.int p2)]) (rest := []) (lenOf pd4 rfl) rfl (by show 2 * 0 + _ ≤ _; exact Nat.le_of_eq rfl) (hb hby at_112) (fun _ _ => ⟨rfl, e45, (by decide : 4 + 0 ≤ _), (by decide : 24 + 0 ≤ _)⟩)
              dsimp only [Pt.U, Pt.locs, Pt.cells, Pt.slots] at X62 l62 y62 z62 st62 hQ62
              subst l62 y62 z62
              refine Go.st st62 ?_
              obtain ⟨rfl, N62q, e62⟩ := hQ62
              have N62 := Fr.app N45 N62q
              show Go _ _ _ (T62.setTop (mkF m 115 #[.val (.int p1), .val (.int p2), .val (.int p3), .val (.int p4), .val (.int p5), .val (.int p6), .val (.int 3), .val (.int 1), .val (.int 2), .val (.ref x1_3_0_40), .val (.ref x1_3_0_41), .val (.ref b42), .val (.int 1), .val (.int 1), .unset] [(.int (f7 (2 : Int32) p5 p4 p2))])) _
              rw [show (f7 (2 : Int32) p5 p4 p2) = p2 from by unfold f7; simp only [if_neg (by decide : ¬ ((2 : Int32) = (0 : Int32))), if_neg (by decide : ¬ ((2 : Int32) = (1 : Int32))), if_true, if_false]]
              show Go _ _ _ (T62.setTop (mkF m 115 #[.val (.int p1), .val (.int p2), .val (.int p3), .val (.int p4), .val (.int p5), .val (.int p6), .val (.int 3), .val (.int 1), .val (.int 2), .val (.ref x1_3_0_40), .val (.ref x1_3_0_41), .val (.ref b42), .val (.int 1), .val (.int 1), .unset] [(.int p2)])) _
              refine Go.st (fun t k => XS.istore X62.here hx rfl (hb hby at_115) rfl (l' := #[.val (.int p1), .val (.int p2), .val (.int p3), .val (.int p4), .val (.int p5), .val (.int p6), .val (.int 3), .val (.int 1), .val (.int 2), .val (.ref x1_3_0_40), .val (.ref x1_3_0_41), .val (.ref b42), .val (.int 1), .val (.int 1), .val (.int p2)]) rfl k) ?_
              refine Go.st (fun t k => XS.aload X62.here hx rfl (hb hby at_117) rfl rfl k) ?_
              refine Go.st (fun t k => XS.iload X62.here hx rfl (hb hby at_119) rfl k) ?_
              refine Go.st (fun t k => XS.iload X62.here hx rfl (hb hby at_121) rfl k) ?_
              obtain ⟨cq63, kq63, q63a, q63b, q63c⟩ := isOf hZ e62 E_b42
              obtain ⟨_, _, ⟨T63, L63, k63, n63⟩, -, X63, ⟨Lc63, hQ63, l63, y63, z63⟩, st63⟩ := X62.virtualBack hx (y := (⟨"com/example/bitlattice/bitlattice/eval/Relation", "get", "(II)I"⟩ : MethodName)) (z := (⟨"com/example/bitlattice/bitlattice/eval/Relation", "get", "(II)I"⟩ : MethodName)) hown (mvT hZ (wd49 hw)) (mvT hZ (wd50 hw)) (notFace_of_selects (args := #[]) (mvT hZ (wd52 hw))) (mvT hZ (wd52 hw)) (mvT hZ (wd51 hw)) (by decide) (backOf (W := 0) (rm8 l Z a0 hw [] b42 (1 : Int32) (2 : Int32) (3 : Int32) x2_3_0_43 k_x2_3_0_43 [(.int p2), (.int p3), (.int p4), (.int p5), (.int p4), (.int p2), (.int (0 : Int32)), (.int (0 : Int32)), (.int (0 : Int32)), (.int (0 : Int32)), (.int (0 : Int32)), (.int (0 : Int32))] (12 : Int32) p2 h45 n0 Z0 F_b42_values F_b42_arity V_x2_3_0_43 (by decide) rfl) hZ (wd53 hw) (wd8 hw) (by decide) (by decide)) q63a q63c (g := (mkF m 123 #[.val (.int p1), .val (.int p2), .val (.int p3), .val (.int p4), .val (.int p5), .val (.int p6), .val (.int 3), .val (.int 1), .val (.int 2), .val (.ref x1_3_0_40), .val (.ref x1_3_0_41), .val (.ref b42), .val (.int 1), .val (.int 1), .val (.int p2)] [(.int 2), (.int 1), (.ref b42)])) rfl (by rw [hml]; rfl) (Steps.refl _) (argsL := [(.int (1 : Int32)), (.int (2 : Int32))]) (rest := []) (lenOf pd5 rfl) rfl (by show 2 * 0 + _ ≤ _; exact Nat.le_of_eq rfl) (hb hby at_123) (fun _ _ => ⟨rfl, e62, (by decide : 4 + 0 ≤ _), (by decide : 24 + 0 ≤ _)⟩)
              dsimp only [Pt.U, Pt.locs, Pt.cells, Pt.slots] at X63 l63 y63 z63 st63 hQ63
              subst l63 y63 z63
              refine Go.tr st63 ?_
              obtain ⟨rfl, N63q, e63⟩ := hQ63
              have N63 := Fr.app N62 N63q
              show Go _ _ _ (T63.setTop (mkF m 126 #[.val (.int p1), .val (.int p2), .val (.int p3), .val (.int p4), .val (.int p5), .val (.int p6), .val (.int 3), .val (.int 1), .val (.int 2), .val (.ref x1_3_0_40), .val (.ref x1_3_0_41), .val (.ref b42), .val (.int 1), .val (.int 1), .val (.int p2)] [(.int p2)])) _
              refine Go.st (fun t k => XS.iload X63.here hx rfl (hb hby at_126) rfl k) ?_
              refine Go.st (fun t k => XS.icmpNo X63.here hx rfl (hb hby at_128) rfl (teq (rfl : p2 = p2)).2 k) ?_
              show Go _ _ _ (T63.setTop (mkF m 131 #[.val (.int p1), .val (.int p2), .val (.int p3), .val (.int p4), .val (.int p5), .val (.int p6), .val (.int 3), .val (.int 1), .val (.int 2), .val (.ref x1_3_0_40), .val (.ref x1_3_0_41), .val (.ref b42), .val (.int 1), .val (.int 1), .val (.int p2)] [])) _
              refine Go.st (fun t k => XS.iconst X63.here hx rfl (hb hby at_131) k) ?_
              refine Go.st (fun t k => XS.goto X63.here hx rfl (pc0 := 132) (pc' := 136) rfl (hb hby at_132) (by decide) (by decide) k) ?_
              obtain ⟨fs, hr, hrun, hended, hW, hsame⟩ := X63.leave (v := some (.int (1 : Int32))) (fun h => by rw [Bd.returns] at h; cases h)
              refine Go.fin (retN X63 hx (t := .boolean) Bd.returns (by simp) (hb hby at_136) hr) hrun hended ⟨_, _, rfl, ?_, ⟨_, rfl⟩, hW, hsame.mono (by decide) (by decide)⟩
              show Q0 Z p1 p2 p3 p4 p5 p6 w_NI k_NI h0 n0 _ T63.heap _
              rw [e63]
              exact ⟨rfl, N63⟩
      · rw [show (f4_3_1 p2 p3 p4 p5 p4 p2) = (0 : Int32) from by unfold f4_3_1; simp only [if_neg hc46, if_true, if_false]]
        rw [show (f4_3_1_a1_size p2 p3 p4 p5 p4 p2) = (1 : Int32) from by unfold f4_3_1_a1_size; simp only [if_neg hc46, if_true, if_false]] at F_b42_size
        replace V_x2_3_0_43 : Arv Z h45 x2_3_0_43 k_x2_3_0_43 .int (12 : Int32) [(.int p2), (.int p3), (.int p4), (.int (0 : Int32)), (.int (0 : Int32)), (.int (0 : Int32)), (.int (0 : Int32)), (.int (0 : Int32)), (.int (0 : Int32)), (.int (0 : Int32)), (.int (0 : Int32)), (.int (0 : Int32))] (.int (0 : Int32)) := (by have hq := V_x2_3_0_43; unfold f4_3_1_vals_3 f4_3_1_vals_4 f4_3_1_vals_5 at hq; simp only [if_neg hc46] at hq; exact hq)
        show Go _ _ _ (T45.setTop (mkF m 75 #[.val (.int p1), .val (.int p2), .val (.int p3), .val (.int p4), .val (.int p5), .val (.int p6), .val (.int 3), .val (.int (p6 &&& (1 : Int32))), .val (.int ((((p6.toUInt32 >>> ((1 : Int32) &&& 31).toUInt32).toInt32) &&& (2147483647 : Int32)) % (3 : Int32))), .val (.ref x1_3_0_40), .val (.ref x1_3_0_41), .val (.ref b42), .unset, .unset, .unset] [(.int 0)])) _
        refine Go.st (fun t k => XS.istore X45.here hx rfl (hb hby at_75) rfl (l' := #[.val (.int p1), .val (.int p2), .val (.int p3), .val (.int p4), .val (.int p5), .val (.int p6), .val (.int 3), .val (.int (p6 &&& (1 : Int32))), .val (.int ((((p6.toUInt32 >>> ((1 : Int32) &&& 31).toUInt32).toInt32) &&& (2147483647 : Int32)) % (3 : Int32))), .val (.ref x1_3_0_40), .val (.ref x1_3_0_41), .val (.ref b42), .val (.int 0), .unset, .unset]) rfl k) ?_
        show Go _ _ _ (T45.setTop (mkF m 77 #[.val (.int p1), .val (.int p2), .val (.int p3), .val (.int p4), .val (.int p5), .val (.int p6), .val (.int 3), .val (.int (p6 &&& (1 : Int32))), .val (.int ((((p6.toUInt32 >>> ((1 : Int32) &&& 31).toUInt32).toInt32) &&& (2147483647 : Int32)) % (3 : Int32))), .val (.ref x1_3_0_40), .val (.ref x1_3_0_41), .val (.ref b42), .val (.int 0), .unset, .unset] [])) _
        by_cases hc64 : ((((p6.toUInt32 >>> ((1 : Int32) &&& 31).toUInt32).toInt32) &&& (2147483647 : Int32)) % (3 : Int32)) = (0 : Int32)
        · rw [hc64]
          show Go _ _ _ (T45.setTop (mkF m 77 #[.val (.int p1), .val (.int p2), .val (.int p3), .val (.int p4), .val (.int p5), .val (.int p6), .val (.int 3), .val (.int (p6 &&& (1 : Int32))), .val (.int 0), .val (.ref x1_3_0_40), .val (.ref x1_3_0_41), .val (.ref b42), .val (.int 0), .unset, .unset] [])) _
          refine Go.st (fun t k => XS.iload X45.here hx rfl (hb hby at_77) rfl k) ?_
          refine Go.st (fun t k => XS.ifYes X45.here hx rfl (pc0 := 79) (pc' := 87) rfl (hb hby at_79) rfl ((if0 _ _).trans (teq (by decide : (0 : Int32) = (0 : Int32))).1) (by decide) (by decide) k) ?_
          show Go _ _ _ (T45.setTop (mkF m 87 #[.val (.int p1), .val (.int p2), .val (.int p3), .val (.int p4), .val (.int p5), .val (.int p6), .val (.int 3), .val (.int (p6 &&& (1 : Int32))), .val (.int 0), .val (.ref x1_3_0_40), .val (.ref x1_3_0_41), .val (.ref b42), .val (.int 0), .unset, .unset] [])) _
          refine Go.st (fun t k => XS.iconst X45.here hx rfl (hb hby at_87) k) ?_
          refine Go.st (fun t k => XS.istore X45.here hx rfl (hb hby at_88) rfl (l' := #[.val (.int p1), .val (.int p2), .val (.int p3), .val (.int p4), .val (.int p5), .val (.int p6), .val (.int 3), .val (.int (p6 &&& (1 : Int32))), .val (.int 0), .val (.ref x1_3_0_40), .val (.ref x1_3_0_41), .val (.ref b42), .val (.int 0), .val (.int 0), .unset]) rfl k) ?_
          refine Go.st (fun t k => XS.iload X45.here hx rfl (hb hby at_90) rfl k) ?_
          refine Go.st (fun t k => XS.ifNo X45.here hx rfl (hb hby at_92) rfl ((if0 _ _).trans (teq (by decide : (0 : Int32) = (0 : Int32))).2) k) ?_
          show Go _ _ _ (T45.setTop (mkF m 95 #[.val (.int p1), .val (.int p2), .val (.int p3), .val (.int p4), .val (.int p5), .val (.int p6), .val (.int 3), .val (.int (p6 &&& (1 : Int32))), .val (.int 0), .val (.ref x1_3_0_40), .val (.ref x1_3_0_41), .val (.ref b42), .val (.int 0), .val (.int 0), .unset] [])) _
          refine Go.st (fun t k => XS.iload X45.here hx rfl (hb hby at_95) rfl k) ?_
          refine Go.st (fun t k => XS.iloadN X45.here hx rfl (hb hby at_97) rfl k) ?_
          refine Go.st (fun t k => XS.iloadN X45.here hx rfl (hb hby at_98) rfl k) ?_
          refine Go.st (fun t k => XS.iloadN X45.here hx rfl (hb hby at_99) rfl k) ?_
          obtain ⟨_, _, ⟨T65, L65, k65, n65⟩, -, X65, ⟨Lc65, hQ65, l65, y65, z65⟩, st65⟩ := Jvm.LawKit.callS X45 hx (y := (⟨"com/example/bitlattice/bitlattice/eval/RelationGetPinLaw", "pick", "(IIII)I"⟩ : MethodName)) hown (mvT hZ (wd46 hw)) (mvT hZ (wd47 hw)) (mvT hZ (wd3 hw)) (mvT hZ (wd48 hw)) (by decide) (backOf (W := 0) (rm7 l Z a0 hw [] (0 : Int32) p2 p3 p4 h45 n0 Z0) hZ (wd48 hw) (wd3 hw) (by decide) (by decide)) (g := (mkF m 100 #[.val (.int p1), .val (.int p2), .val (.int p3), .val (.int p4), .val (.int p5), .val (.int p6), .val (.int 3), .val (.int (p6 &&& (1 : Int32))), .val (.int 0), .val (.ref x1_3_0_40), .val (.ref x1_3_0_41), .val (.ref b42), .val (.int 0), .val (.int 0), .unset] [(.int p4), (.int p3), (.int p2), (.int 0)])) rfl (by rw [hml]; rfl) (argsL := [(.int (0 : Int32)), (.int p2), (.int p3), (.int p4)]) (rest := []) (lenOf pd4 rfl) rfl (by show 2 * 0 + _ ≤ _; exact Nat.le_of_eq rfl) (hb hby at_100) (fun _ _ => ⟨rfl, e45, (by decide : 4 + 0 ≤ _), (by decide : 24 + 0 ≤ _)⟩)
          dsimp only [Pt.U, Pt.locs, Pt.cells, Pt.slots] at X65 l65 y65 z65 st65 hQ65
          subst l65 y65 z65
          refine Go.st st65 ?_
          obtain ⟨rfl, N65q, e65⟩ := hQ65
          have N65 := Fr.app N45 N65q
          show Go _ _ _ (T65.setTop (mkF m 103 #[.val (.int p1), .val (.int p2), .val (.int p3), .val (.int p4), .val (.int p5), .val (.int p6), .val (.int 3), .val (.int (p6 &&& (1 : Int32))), .val (.int 0), .val (.ref x1_3_0_40), .val (.ref x1_3_0_41), .val (.ref b42), .val (.int 0), .val (.int 0), .unset] [(.int (f7 (0 : Int32) p2 p3 p4))])) _
          rw [show (f7 (0 : Int32) p2 p3 p4) = p2 from by unfold f7; simp only [if_pos (by decide : (0 : Int32) = (0 : Int32)), if_true, if_false]]
          show Go _ _ _ (T65.setTop (mkF m 103 #[.val (.int p1), .val (.int p2), .val (.int p3), .val (.int p4), .val (.int p5), .val (.int p6), .val (.int 3), .val (.int (p6 &&& (1 : Int32))), .val (.int 0), .val (.ref x1_3_0_40), .val (.ref x1_3_0_41), .val (.ref b42), .val (.int 0), .val (.int 0), .unset] [(.int p2)])) _
          refine Go.st (fun t k => XS.goto X65.here hx rfl (pc0 := 103) (pc' := 115) rfl (hb hby at_103) (by decide) (by decide) k) ?_
          refine Go.st (fun t k => XS.istore X65.here hx rfl (hb hby at_115) rfl (l' := #[.val (.int p1), .val (.int p2), .val (.int p3), .val (.int p4), .val (.int p5), .val (.int p6), .val (.int 3), .val (.int (p6 &&& (1 : Int32))), .val (.int 0), .val (.ref x1_3_0_40), .val (.ref x1_3_0_41), .val (.ref b42), .val (.int 0), .val (.int 0), .val (.int p2)]) rfl k) ?_
          refine Go.st (fun t k => XS.aload X65.here hx rfl (hb hby at_117) rfl rfl k) ?_
          refine Go.st (fun t k => XS.iload X65.here hx rfl (hb hby at_119) rfl k) ?_
          refine Go.st (fun t k => XS.iload X65.here hx rfl (hb hby at_121) rfl k) ?_
          obtain ⟨cq66, kq66, q66a, q66b, q66c⟩ := isOf hZ e65 E_b42
          obtain ⟨_, _, ⟨T66, L66, k66, n66⟩, -, X66, ⟨Lc66, hQ66, l66, y66, z66⟩, st66⟩ := X65.virtualBack hx (y := (⟨"com/example/bitlattice/bitlattice/eval/Relation", "get", "(II)I"⟩ : MethodName)) (z := (⟨"com/example/bitlattice/bitlattice/eval/Relation", "get", "(II)I"⟩ : MethodName)) hown (mvT hZ (wd49 hw)) (mvT hZ (wd50 hw)) (notFace_of_selects (args := #[]) (mvT hZ (wd52 hw))) (mvT hZ (wd52 hw)) (mvT hZ (wd51 hw)) (by decide) (backOf (W := 0) (rm8 l Z a0 hw [] b42 (0 : Int32) (0 : Int32) (3 : Int32) x2_3_0_43 k_x2_3_0_43 [(.int p2), (.int p3), (.int p4), (.int (0 : Int32)), (.int (0 : Int32)), (.int (0 : Int32)), (.int (0 : Int32)), (.int (0 : Int32)), (.int (0 : Int32)), (.int (0 : Int32)), (.int (0 : Int32)), (.int (0 : Int32))] (12 : Int32) p2 h45 n0 Z0 F_b42_values F_b42_arity V_x2_3_0_43 (by decide) rfl) hZ (wd53 hw) (wd8 hw) (by decide) (by decide)) q66a q66c (g := (mkF m 123 #[.val (.int p1), .val (.int p2), .val (.int p3), .val (.int p4), .val (.int p5), .val (.int p6), .val (.int 3), .val (.int (p6 &&& (1 : Int32))), .val (.int 0), .val (.ref x1_3_0_40), .val (.ref x1_3_0_41), .val (.ref b42), .val (.int 0), .val (.int 0), .val (.int p2)] [(.int 0), (.int 0), (.ref b42)])) rfl (by rw [hml]; rfl) (Steps.refl _) (argsL := [(.int (0 : Int32)), (.int (0 : Int32))]) (rest := []) (lenOf pd5 rfl) rfl (by show 2 * 0 + _ ≤ _; exact Nat.le_of_eq rfl) (hb hby at_123) (fun _ _ => ⟨rfl, e65, (by decide : 4 + 0 ≤ _), (by decide : 24 + 0 ≤ _)⟩)
          dsimp only [Pt.U, Pt.locs, Pt.cells, Pt.slots] at X66 l66 y66 z66 st66 hQ66
          subst l66 y66 z66
          refine Go.tr st66 ?_
          obtain ⟨rfl, N66q, e66⟩ := hQ66
          have N66 := Fr.app N65 N66q
          show Go _ _ _ (T66.setTop (mkF m 126 #[.val (.int p1), .val (.int p2), .val (.int p3), .val (.int p4), .val (.int p5), .val (.int p6), .val (.int 3), .val (.int (p6 &&& (1 : Int32))), .val (.int 0), .val (.ref x1_3_0_40), .val (.ref x1_3_0_41), .val (.ref b42), .val (.int 0), .val (.int 0), .val (.int p2)] [(.int p2)])) _
          refine Go.st (fun t k => XS.iload X66.here hx rfl (hb hby at_126) rfl k) ?_
          refine Go.st (fun t k => XS.icmpNo X66.here hx rfl (hb hby at_128) rfl (teq (rfl : p2 = p2)).2 k) ?_
          show Go _ _ _ (T66.setTop (mkF m 131 #[.val (.int p1), .val (.int p2), .val (.int p3), .val (.int p4), .val (.int p5), .val (.int p6), .val (.int 3), .val (.int (p6 &&& (1 : Int32))), .val (.int 0), .val (.ref x1_3_0_40), .val (.ref x1_3_0_41), .val (.ref b42), .val (.int 0), .val (.int 0), .val (.int p2)] [])) _
          refine Go.st (fun t k => XS.iconst X66.here hx rfl (hb hby at_131) k) ?_
          refine Go.st (fun t k => XS.goto X66.here hx rfl (pc0 := 132) (pc' := 136) rfl (hb hby at_132) (by decide) (by decide) k) ?_
          obtain ⟨fs, hr, hrun, hended, hW, hsame⟩ := X66.leave (v := some (.int (1 : Int32))) (fun h => by rw [Bd.returns] at h; cases h)
          refine Go.fin (retN X66 hx (t := .boolean) Bd.returns (by simp) (hb hby at_136) hr) hrun hended ⟨_, _, rfl, ?_, ⟨_, rfl⟩, hW, hsame.mono (by decide) (by decide)⟩
          show Q0 Z p1 p2 p3 p4 p5 p6 w_NI k_NI h0 n0 _ T66.heap _
          rw [e66]
          exact ⟨rfl, N66⟩
        · by_cases hc67 : ((((p6.toUInt32 >>> ((1 : Int32) &&& 31).toUInt32).toInt32) &&& (2147483647 : Int32)) % (3 : Int32)) = (1 : Int32)
          · rw [hc67]
            show Go _ _ _ (T45.setTop (mkF m 77 #[.val (.int p1), .val (.int p2), .val (.int p3), .val (.int p4), .val (.int p5), .val (.int p6), .val (.int 3), .val (.int (p6 &&& (1 : Int32))), .val (.int 1), .val (.ref x1_3_0_40), .val (.ref x1_3_0_41), .val (.ref b42), .val (.int 0), .unset, .unset] [])) _
            refine Go.st (fun t k => XS.iload X45.here hx rfl (hb hby at_77) rfl k) ?_
            refine Go.st (fun t k => XS.ifYes X45.here hx rfl (pc0 := 79) (pc' := 87) rfl (hb hby at_79) rfl ((if0 _ _).trans (teq (by decide : (0 : Int32) = (0 : Int32))).1) (by decide) (by decide) k) ?_
            show Go _ _ _ (T45.setTop (mkF m 87 #[.val (.int p1), .val (.int p2), .val (.int p3), .val (.int p4), .val (.int p5), .val (.int p6), .val (.int 3), .val (.int (p6 &&& (1 : Int32))), .val (.int 1), .val (.ref x1_3_0_40), .val (.ref x1_3_0_41), .val (.ref b42), .val (.int 0), .unset, .unset] [])) _
            refine Go.st (fun t k => XS.iconst X45.here hx rfl (hb hby at_87) k) ?_
            refine Go.st (fun t k => XS.istore X45.here hx rfl (hb hby at_88) rfl (l' := #[.val (.int p1), .val (.int p2), .val (.int p3), .val (.int p4), .val (.int p5), .val (.int p6), .val (.int 3), .val (.int (p6 &&& (1 : Int32))), .val (.int 1), .val (.ref x1_3_0_40), .val (.ref x1_3_0_41), .val (.ref b42), .val (.int 0), .val (.int 0), .unset]) rfl k) ?_
            refine Go.st (fun t k => XS.iload X45.here hx rfl (hb hby at_90) rfl k) ?_
            refine Go.st (fun t k => XS.ifNo X45.here hx rfl (hb hby at_92) rfl ((if0 _ _).trans (teq (by decide : (0 : Int32) = (0 : Int32))).2) k) ?_
            show Go _ _ _ (T45.setTop (mkF m 95 #[.val (.int p1), .val (.int p2), .val (.int p3), .val (.int p4), .val (.int p5), .val (.int p6), .val (.int 3), .val (.int (p6 &&& (1 : Int32))), .val (.int 1), .val (.ref x1_3_0_40), .val (.ref x1_3_0_41), .val (.ref b42), .val (.int 0), .val (.int 0), .unset] [])) _
            refine Go.st (fun t k => XS.iload X45.here hx rfl (hb hby at_95) rfl k) ?_
            refine Go.st (fun t k => XS.iloadN X45.here hx rfl (hb hby at_97) rfl k) ?_
            refine Go.st (fun t k => XS.iloadN X45.here hx rfl (hb hby at_98) rfl k) ?_
            refine Go.st (fun t k => XS.iloadN X45.here hx rfl (hb hby at_99) rfl k) ?_
            obtain ⟨_, _, ⟨T68, L68, k68, n68⟩, -, X68, ⟨Lc68, hQ68, l68, y68, z68⟩, st68⟩ := Jvm.LawKit.callS X45 hx (y := (⟨"com/example/bitlattice/bitlattice/eval/RelationGetPinLaw", "pick", "(IIII)I"⟩ : MethodName)) hown (mvT hZ (wd46 hw)) (mvT hZ (wd47 hw)) (mvT hZ (wd3 hw)) (mvT hZ (wd48 hw)) (by decide) (backOf (W := 0) (rm7 l Z a0 hw [] (1 : Int32) p2 p3 p4 h45 n0 Z0) hZ (wd48 hw) (wd3 hw) (by decide) (by decide)) (g := (mkF m 100 #[.val (.int p1), .val (.int p2), .val (.int p3), .val (.int p4), .val (.int p5), .val (.int p6), .val (.int 3), .val (.int (p6 &&& (1 : Int32))), .val (.int 1), .val (.ref x1_3_0_40), .val (.ref x1_3_0_41), .val (.ref b42), .val (.int 0), .val (.int 0), .unset] [(.int p4), (.int p3), (.int p2), (.int 1)])) rfl (by rw [hml]; rfl) (argsL := [(.int (1 : Int32)), (.int p2), (.int p3), (.int p4)]) (rest := []) (lenOf pd4 rfl) rfl (by show 2 * 0 + _ ≤ _; exact Nat.le_of_eq rfl) (hb hby at_100) (fun _ _ => ⟨rfl, e45, (by decide : 4 + 0 ≤ _), (by decide : 24 + 0 ≤ _)⟩)
            dsimp only [Pt.U, Pt.locs, Pt.cells, Pt.slots] at X68 l68 y68 z68 st68 hQ68
            subst l68 y68 z68
            refine Go.st st68 ?_
            obtain ⟨rfl, N68q, e68⟩ := hQ68
            have N68 := Fr.app N45 N68q
            show Go _ _ _ (T68.setTop (mkF m 103 #[.val (.int p1), .val (.int p2), .val (.int p3), .val (.int p4), .val (.int p5), .val (.int p6), .val (.int 3), .val (.int (p6 &&& (1 : Int32))), .val (.int 1), .val (.ref x1_3_0_40), .val (.ref x1_3_0_41), .val (.ref b42), .val (.int 0), .val (.int 0), .unset] [(.int (f7 (1 : Int32) p2 p3 p4))])) _
            rw [show (f7 (1 : Int32) p2 p3 p4) = p3 from by unfold f7; simp only [if_neg (by decide : ¬ ((1 : Int32) = (0 : Int32))), if_pos (by decide : (1 : Int32) = (1 : Int32)), if_true, if_false]]
            show Go _ _ _ (T68.setTop (mkF m 103 #[.val (.int p1), .val (.int p2), .val (.int p3), .val (.int p4), .val (.int p5), .val (.int p6), .val (.int 3), .val (.int (p6 &&& (1 : Int32))), .val (.int 1), .val (.ref x1_3_0_40), .val (.ref x1_3_0_41), .val (.ref b42), .val (.int 0), .val (.int 0), .unset] [(.int p3)])) _
            refine Go.st (fun t k => XS.goto X68.here hx rfl (pc0 := 103) (pc' := 115) rfl (hb hby at_103) (by decide) (by decide) k) ?_
            refine Go.st (fun t k => XS.istore X68.here hx rfl (hb hby at_115) rfl (l' := #[.val (.int p1), .val (.int p2), .val (.int p3), .val (.int p4), .val (.int p5), .val (.int p6), .val (.int 3), .val (.int (p6 &&& (1 : Int32))), .val (.int 1), .val (.ref x1_3_0_40), .val (.ref x1_3_0_41), .val (.ref b42), .val (.int 0), .val (.int 0), .val (.int p3)]) rfl k) ?_
            refine Go.st (fun t k => XS.aload X68.here hx rfl (hb hby at_117) rfl rfl k) ?_
            refine Go.st (fun t k => XS.iload X68.here hx rfl (hb hby at_119) rfl k) ?_
            refine Go.st (fun t k => XS.iload X68.here hx rfl (hb hby at_121) rfl k) ?_
            obtain ⟨cq69, kq69, q69a, q69b, q69c⟩ := isOf hZ e68 E_b42
            obtain ⟨_, _, ⟨T69, L69, k69, n69⟩, -, X69, ⟨Lc69, hQ69, l69, y69, z69⟩, st69⟩ := X68.virtualBack hx (y := (⟨"com/example/bitlattice/bitlattice/eval/Relation", "get", "(II)I"⟩ : MethodName)) (z := (⟨"com/example/bitlattice/bitlattice/eval/Relation", "get", "(II)I"⟩ : MethodName)) hown (mvT hZ (wd49 hw)) (mvT hZ (wd50 hw)) (notFace_of_selects (args := #[]) (mvT hZ (wd52 hw))) (mvT hZ (wd52 hw)) (mvT hZ (wd51 hw)) (by decide) (backOf (W := 0) (rm8 l Z a0 hw [] b42 (0 : Int32) (1 : Int32) (3 : Int32) x2_3_0_43 k_x2_3_0_43 [(.int p2), (.int p3), (.int p4), (.int (0 : Int32)), (.int (0 : Int32)), (.int (0 : Int32)), (.int (0 : Int32)), (.int (0 : Int32)), (.int (0 : Int32)), (.int (0 : Int32)), (.int (0 : Int32)), (.int (0 : Int32))] (12 : Int32) p3 h45 n0 Z0 F_b42_values F_b42_arity V_x2_3_0_43 (by decide) rfl) hZ (wd53 hw) (wd8 hw) (by decide) (by decide)) q69a q69c (g := (mkF m 123 #[.val (.int p1), .val (.int p2), .val (.int p3), .val (.int p4), .val (.int p5), .val (.int p6), .val (.int 3), .val (.int (p6 &&& (1 : Int32))), .val (.int 1), .val (.ref x1_3_0_40), .val (.ref x1_3_0_41), .val (.ref b42), .val (.int 0), .val (.int 0), .val (.int p3)] [(.int 1), (.int 0), (.ref b42)])) rfl (by rw [hml]; rfl) (Steps.refl _) (argsL := [(.int (0 : Int32)), (.int (1 : Int32))]) (rest := []) (lenOf pd5 rfl) rfl (by show 2 * 0 + _ ≤ _; exact Nat.le_of_eq rfl) (hb hby at_123) (fun _ _ => ⟨rfl, e68, (by decide : 4 + 0 ≤ _), (by decide : 24 + 0 ≤ _)⟩)
            dsimp only [Pt.U, Pt.locs, Pt.cells, Pt.slots] at X69 l69 y69 z69 st69 hQ69
            subst l69 y69 z69
            refine Go.tr st69 ?_
            obtain ⟨rfl, N69q, e69⟩ := hQ69
            have N69 := Fr.app N68 N69q
            show Go _ _ _ (T69.setTop (mkF m 126 #[.val (.int p1), .val (.int p2), .val (.int p3), .val (.int p4), .val (.int p5), .val (.int p6), .val (.int 3), .val (.int (p6 &&& (1 : Int32))), .val (.int 1), .val (.ref x1_3_0_40), .val (.ref x1_3_0_41), .val (.ref b42), .val (.int 0), .val (.int 0), .val (.int p3)] [(.int p3)])) _
            refine Go.st (fun t k => XS.iload X69.here hx rfl (hb hby at_126) rfl k) ?_
            refine Go.st (fun t k => XS.icmpNo X69.here hx rfl (hb hby at_128) rfl (teq (rfl : p3 = p3)).2 k) ?_
            show Go _ _ _ (T69.setTop (mkF m 131 #[.val (.int p1), .val (.int p2), .val (.int p3), .val (.int p4), .val (.int p5), .val (.int p6), .val (.int 3), .val (.int (p6 &&& (1 : Int32))), .val (.int 1), .val (.ref x1_3_0_40), .val (.ref x1_3_0_41), .val (.ref b42), .val (.int 0), .val (.int 0), .val (.int p3)] [])) _
            refine Go.st (fun t k => XS.iconst X69.here hx rfl (hb hby at_131) k) ?_
            refine Go.st (fun t k => XS.goto X69.here hx rfl (pc0 := 132) (pc' := 136) rfl (hb hby at_132) (by decide) (by decide) k) ?_
            obtain ⟨fs, hr, hrun, hended, hW, hsame⟩ := X69.leave (v := some (.int (1 : Int32))) (fun h => by rw [Bd.returns] at h; cases h)
            refine Go.fin (retN X69 hx (t := .boolean) Bd.returns (by simp) (hb hby at_136) hr) hrun hended ⟨_, _, rfl, ?_, ⟨_, rfl⟩, hW, hsame.mono (by decide) (by decide)⟩
            show Q0 Z p1 p2 p3 p4 p5 p6 w_NI k_NI h0 n0 _ T69.heap _
            rw [e69]
            exact ⟨rfl, N69⟩
          · rw [own_m3 ((p6.toUInt32 >>> ((1 : Int32) &&& 31).toUInt32).toInt32) hc64 hc67]
            show Go _ _ _ (T45.setTop (mkF m 77 #[.val (.int p1), .val (.int p2), .val (.int p3), .val (.int p4), .val (.int p5), .val (.int p6), .val (.int 3), .val (.int (p6 &&& (1 : Int32))), .val (.int 2), .val (.ref x1_3_0_40), .val (.ref x1_3_0_41), .val (.ref b42), .val (.int 0), .unset, .unset] [])) _
            refine Go.st (fun t k => XS.iload X45.here hx rfl (hb hby at_77) rfl k) ?_
            refine Go.st (fun t k => XS.ifYes X45.here hx rfl (pc0 := 79) (pc' := 87) rfl (hb hby at_79) rfl ((if0 _ _).trans (teq (by decide : (0 : Int32) = (0 : Int32))).1) (by decide) (by decide) k) ?_
            show Go _ _ _ (T45.setTop (mkF m 87 #[.val (.int p1), .val (.int p2), .val (.int p3), .val (.int p4), .val (.int p5), .val (.int p6), .val (.int 3), .val (.int (p6 &&& (1 : Int32))), .val (.int 2), .val (.ref x1_3_0_40), .val (.ref x1_3_0_41), .val (.ref b42), .val (.int 0), .unset, .unset] [])) _
            refine Go.st (fun t k => XS.iconst X45.here hx rfl (hb hby at_87) k) ?_
            refine Go.st (fun t k => XS.istore X45.here hx rfl (hb hby at_88) rfl (l' := #[.val (.int p1), .val (.int p2), .val (.int p3), .val (.int p4), .val (.int p5), .val (.int p6), .val (.int 3), .val (.int (p6 &&& (1 : Int32))), .val (.int 2), .val (.ref x1_3_0_40), .val (.ref x1_3_0_41), .val (.ref b42), .val (.int 0), .val (.int 0), .unset]) rfl k) ?_
            refine Go.st (fun t k => XS.iload X45.here hx rfl (hb hby at_90) rfl k) ?_
            refine Go.st (fun t k => XS.ifNo X45.here hx rfl (hb hby at_92) rfl ((if0 _ _).trans (teq (by decide : (0 : Int32) = (0 : Int32))).2) k) ?_
            show Go _ _ _ (T45.setTop (mkF m 95 #[.val (.int p1), .val (.int p2), .val (.int p3), .val (.int p4), .val (.int p5), .val (.int p6), .val (.int 3), .val (.int (p6 &&& (1 : Int32))), .val (.int 2), .val (.ref x1_3_0_40), .val (.ref x1_3_0_41), .val (.ref b42), .val (.int 0), .val (.int 0), .unset] [])) _
            refine Go.st (fun t k => XS.iload X45.here hx rfl (hb hby at_95) rfl k) ?_
            refine Go.st (fun t k => XS.iloadN X45.here hx rfl (hb hby at_97) rfl k) ?_
            refine Go.st (fun t k => XS.iloadN X45.here hx rfl (hb hby at_98) rfl k) ?_
            refine Go.st (fun t k => XS.iloadN X45.here hx rfl (hb hby at_99) rfl k) ?_
            obtain ⟨_, _, ⟨T70, L70, k70, n70⟩, -, X70, ⟨Lc70, hQ70, l70, y70, z70⟩, st70⟩ := Jvm.LawKit.callS X45 hx (y := (⟨"com/example/bitlattice/bitlattice/eval/RelationGetPinLaw", "pick", "(IIII)I"⟩ : MethodName)) hown (mvT hZ (wd46 hw)) (mvT hZ (wd47 hw)) (mvT hZ (wd3 hw)) (mvT hZ (wd48 hw)) (by decide) (backOf (W := 0) (rm7 l Z a0 hw [] (2 : Int32) p2 p3 p4 h45 n0 Z0) hZ (wd48 hw) (wd3 hw) (by decide) (by decide)) (g := (mkF m 100 #[.val (.int p1), .val (.int p2), .val (.int p3), .val (.int p4), .val (.int p5), .val (.int p6), .val (.int 3), .val (.int (p6 &&& (1 : Int32))), .val (.int 2), .val (.ref x1_3_0_40), .val (.ref x1_3_0_41), .val (.ref b42), .val (.int 0), .val (.int 0), .unset] [(.int p4), (.int p3), (.int p2), (.int 2)])) rfl (by rw [hml]; rfl) (argsL := [(.int (2 : Int32)), (.int p2), (.int p3), (.int p4)]) (rest := []) (lenOf pd4 rfl) rfl (by show 2 * 0 + _ ≤ _; exact Nat.le_of_eq rfl) (hb hby at_100) (fun _ _ => ⟨rfl, e45, (by decide : 4 + 0 ≤ _), (by decide : 24 + 0 ≤ _)⟩)
            dsimp only [Pt.U, Pt.locs, Pt.cells, Pt.slots] at X70 l70 y70 z70 st70 hQ70
            subst l70 y70 z70
            refine Go.st st70 ?_
            obtain ⟨rfl, N70q, e70⟩ := hQ70
            have N70 := Fr.app N45 N70q
            show Go _ _ _ (T70.setTop (mkF m 103 #[.val (.int p1), .val (.int p2), .val (.int p3), .val (.int p4), .val (.int p5), .val (.int p6), .val (.int 3), .val (.int (p6 &&& (1 : Int32))), .val (.int 2), .val (.ref x1_3_0_40), .val (.ref x1_3_0_41), .val (.ref b42), .val (.int 0), .val (.int 0), .unset] [(.int (f7 (2 : Int32) p2 p3 p4))])) _
            rw [show (f7 (2 : Int32) p2 p3 p4) = p4 from by unfold f7; simp only [if_neg (by decide : ¬ ((2 : Int32) = (0 : Int32))), if_neg (by decide : ¬ ((2 : Int32) = (1 : Int32))), if_true, if_false]]
            show Go _ _ _ (T70.setTop (mkF m 103 #[.val (.int p1), .val (.int p2), .val (.int p3), .val (.int p4), .val (.int p5), .val (.int p6), .val (.int 3), .val (.int (p6 &&& (1 : Int32))), .val (.int 2), .val (.ref x1_3_0_40), .val (.ref x1_3_0_41), .val (.ref b42), .val (.int 0), .val (.int 0), .unset] [(.int p4)])) _
            refine Go.st (fun t k => XS.goto X70.here hx rfl (pc0 := 103) (pc' := 115) rfl (hb hby at_103) (by decide) (by decide) k) ?_
            refine Go.st (fun t k => XS.istore X70.here hx rfl (hb hby at_115) rfl (l' := #[.val (.int p1), .val (.int p2), .val (.int p3), .val (.int p4), .val (.int p5), .val (.int p6), .val (.int 3), .val (.int (p6 &&& (1 : Int32))), .val (.int 2), .val (.ref x1_3_0_40), .val (.ref x1_3_0_41), .val (.ref b42), .val (.int 0), .val (.int 0), .val (.int p4)]) rfl k) ?_
            refine Go.st (fun t k => XS.aload X70.here hx rfl (hb hby at_117) rfl rfl k) ?_
            refine Go.st (fun t k => XS.iload X70.here hx rfl (hb hby at_119) rfl k) ?_
            refine Go.st (fun t k => XS.iload X70.here hx rfl (hb hby at_121) rfl k) ?_
            obtain ⟨cq71, kq71, q71a, q71b, q71c⟩ := isOf hZ e70 E_b42
            obtain ⟨_, _, ⟨T71, L71, k71, n71⟩, -, X71, ⟨Lc71, hQ71, l71, y71, z71⟩, st71⟩ := X70.virtualBack hx (y := (⟨"com/example/bitlattice/bitlattice/eval/Relation", "get", "(II)I"⟩ : MethodName)) (z := (⟨"com/example/bitlattice/bitlattice/eval/Relation", "get", "(II)I"⟩ : MethodName)) hown (mvT hZ (wd49 hw)) (mvT hZ (wd50 hw)) (notFace_of_selects (args := #[]) (mvT hZ (wd52 hw))) (mvT hZ (wd52 hw)) (mvT hZ (wd51 hw)) (by decide) (backOf (W := 0) (rm8 l Z a0 hw [] b42 (0 : Int32) (2 : Int32) (3 : Int32) x2_3_0_43 k_x2_3_0_43 [(.int p2), (.int p3), (.int p4), (.int (0 : Int32)), (.int (0 : Int32)), (.int (0 : Int32)), (.int (0 : Int32)), (.int (0 : Int32)), (.int (0 : Int32)), (.int (0 : Int32)), (.int (0 : Int32)), (.int (0 : Int32))] (12 : Int32) p4 h45 n0 Z0 F_b42_values F_b42_arity V_x2_3_0_43 (by decide) rfl) hZ (wd53 hw) (wd8 hw) (by decide) (by decide)) q71a q71c (g := (mkF m 123 #[.val (.int p1), .val (.int p2), .val (.int p3), .val (.int p4), .val (.int p5), .val (.int p6), .val (.int 3), .val (.int (p6 &&& (1 : Int32))), .val (.int 2), .val (.ref x1_3_0_40), .val (.ref x1_3_0_41), .val (.ref b42), .val (.int 0), .val (.int 0), .val (.int p4)] [(.int 2), (.int 0), (.ref b42)])) rfl (by rw [hml]; rfl) (Steps.refl _) (argsL := [(.int (0 : Int32)), (.int (2 : Int32))]) (rest := []) (lenOf pd5 rfl) rfl (by show 2 * 0 + _ ≤ _; exact Nat.le_of_eq rfl) (hb hby at_123) (fun _ _ => ⟨rfl, e70, (by decide : 4 + 0 ≤ _), (by decide : 24 + 0 ≤ _)⟩)
            dsimp only [Pt.U, Pt.locs, Pt.cells, Pt.slots] at X71 l71 y71 z71 st71 hQ71
            subst l71 y71 z71
            refine Go.tr st71 ?_
            obtain ⟨rfl, N71q, e71⟩ := hQ71
            have N71 := Fr.app N70 N71q
            show Go _ _ _ (T71.setTop (mkF m 126 #[.val (.int p1), .val (.int p2), .val (.int p3), .val (.int p4), .val (.int p5), .val (.int p6), .val (.int 3), .val (.int (p6 &&& (1 : Int32))), .val (.int 2), .val (.ref x1_3_0_40), .val (.ref x1_3_0_41), .val (.ref b42), .val (.int 0), .val (.int 0), .val (.int p4)] [(.int p4)])) _
            refine Go.st (fun t k => XS.iload X71.here hx rfl (hb hby at_126) rfl k) ?_
            refine Go.st (fun t k => XS.icmpNo X71.here hx rfl (hb hby at_128) rfl (teq (rfl : p4 = p4)).2 k) ?_
            show Go _ _ _ (T71.setTop (mkF m 131 #[.val (.int p1), .val (.int p2), .val (.int p3), .val (.int p4), .val (.int p5), .val (.int p6), .val (.int 3), .val (.int (p6 &&& (1 : Int32))), .val (.int 2), .val (.ref x1_3_0_40), .val (.ref x1_3_0_41), .val (.ref b42), .val (.int 0), .val (.int 0), .val (.int p4)] [])) _
            refine Go.st (fun t k => XS.iconst X71.here hx rfl (hb hby at_131) k) ?_
            refine Go.st (fun t k => XS.goto X71.here hx rfl (pc0 := 132) (pc' := 136) rfl (hb hby at_132) (by decide) (by decide) k) ?_
            obtain ⟨fs, hr, hrun, hended, hW, hsame⟩ := X71.leave (v := some (.int (1 : Int32))) (fun h => by rw [Bd.returns] at h; cases h)
            refine Go.fin (retN X71 hx (t := .boolean) Bd.returns (by simp) (hb hby at_136) hr) hrun hended ⟨_, _, rfl, ?_, ⟨_, rfl⟩, hW, hsame.mono (by decide) (by decide)⟩
            show Q0 Z p1 p2 p3 p4 p5 p6 w_NI k_NI h0 n0 _ T71.heap _
            rw [e71]
            exact ⟨rfl, N71⟩
theorem own_len {args : Array Value} {s : State} {t : Term} {a : Addr} {cl : Cell} {ty : FieldType} {k : Int32} (ev : t.eval args s none [] s = some (.ref a)) (A : Arr s s.heap a cl ty) (h : (Jvm.Cond.eq (.length t) (.int k)).value args s none s [] = some true) : cl.slots.size < 2 ^ 31 ∧ cl.slots.size.toInt32 = k := by
  have e := own_eqi h
  have ha := A.fin (Vm.Alike.refl _)
  by_cases hn : cl.slots.size < 2 ^ 31
  · rw [len_f ev ha hn] at e
    exact ⟨hn, Value.int.inj (Option.some.inj e)⟩
  · exact absurd e (by simp [Term.eval, ev, ha, show ¬ cl.slots.size < 2147483648 from hn])
theorem own_eqr {args : Array Value} {s : State} {t u : Term} {x : Addr} (hu : u.eval args s none [] s = some (.ref x)) (h : (Jvm.Cond.eq t u).value args s none s [] = some true) : t.eval args s none [] s = some (.ref x) := by
  obtain ⟨v, y, e1, e2, k1, k2⟩ := cmp_v (Or.inl h)
  cases hu.symm.trans e2
  cases v <;> simp [Cond.value, e1, hu] at h
  rw [e1, h]
theorem own_elr {args : Array Value} {s : State} {t u : Term} {a x : Addr} {cl : Cell} {ty : FieldType} {j : Int32} (ev : t.eval args s none [] s = some (.ref a)) (A : Arr s s.heap a cl ty) (hu : u.eval args s none [] s = some (.ref x)) (h : (Jvm.Cond.eq (.elem t (.int j)) u).value args s none s [] = some true) : cl.slots[j.toNatClampNeg]? = some (.ref x) :=
  (elem_in (own_eqr hu h) ev (Term.int_eval j) A.1).2
theorem own_eli {args : Array Value} {s : State} {t : Term} {a : Addr} {cl : Cell} {ty : FieldType} {j k : Int32} (ev : t.eval args s none [] s = some (.ref a)) (A : Arr s s.heap a cl ty) (h : (Jvm.Cond.eq (.elem t (.int j)) (.int k)).value args s none s [] = some true) : atv cl j = k :=
  atv_of (elem_in (own_eqi h) ev (Term.int_eval j) A.1).2
theorem own_tabArv {s : State} {a : Addr} {cl : Cell} {ty : FieldType} {z : Int32} (hfit : Fit s) (T : Tab s s.heap a cl ty z) (q : cl.slots.size < 2 ^ 31) (e : cl.slots.size.toInt32 = z) (xs : List Int32) (h : ∀ j : Int32, ¬ j < 0 → j < z → atv cl j = own_at xs j) : Arv s s.heap a cl.cls ty z (xs.map Value.int) (.int 0) := by
  have hk : ∀ k, k < cl.slots.size → (Nat.toInt32 k).toNatClampNeg = k ∧ cl.slots[k]? = some ((xs.map Value.int).getD k (.int 0)) := by
    intro k hk
    have e1 : (Nat.toInt32 k).toNatClampNeg = k := by simp only [Int32.toNatClampNeg, len_toInt (Nat.lt_trans hk q)]; rfl
    have hi := idx_in hk q
    have g := T.2.2.2 (Nat.toInt32 k) hi
    have hlt : Nat.toInt32 k < z := by
      rw [← e, Int32.lt_iff_toInt_lt, len_toInt (Nat.lt_trans hk q), len_toInt q]
      omega
    rw [h _ (fun y => hi (Or.inl y)) hlt, ← own_atv, e1] at g
    exact ⟨e1, g⟩
  refine ⟨cl, T.1, rfl, T.2.1, T.2.2.1, fun k q' => (hk k q').2, fun k q' => ?_⟩
  exact elem_fits (j := Nat.toInt32 k) hfit T.1 (idx_in q' q) (by rw [(hk k q').1]; exact (hk k q').2)
theorem own_all2 {args : Array Value} {s : State} {t : Term} {a : Addr} {cl : Cell} {ty : FieldType} {z hi v : Int32} (et : ∀ idx, t.eval args s none idx s = some (.ref a)) (T : Tab s s.heap a cl ty z) (h : (Jvm.Cond.all t (.or (.le (.int hi) (.index 0)) (.eq (.elem t (.index 0)) (.int v)))).value args s none s [] = some true) (j : Int32) (h0 : ¬ j < 0) (h1 : j < z) : ¬ j < hi ∨ atv cl j = v := by
  have ha := T.1.fin (Vm.Alike.refl _)
  have hin : ¬ (j < 0 ∨ cl.slots.size ≤ j.toNatClampNeg) := inb_of T.2.1 ⟨h0, h1⟩
  have c := Cond.all_elim (et []) ha h j.toNatClampNeg (Nat.lt_of_not_le fun x => hin (Or.inr x))
  have e1 : (Term.elem t (.index 0)).eval args s none [j.toNatClampNeg] s = some (.int (atv cl j)) := (elem_f (et _) (idx_at h0) ha h0).trans (T.2.2.2 j hin)
  have v1 : (Jvm.Cond.le (.int hi) (.index 0)).value args s none s [j.toNatClampNeg] = some (decide (hi ≤ j)) := Cond.le_ints (Term.int_eval hi) (idx_at h0)
  have v2 : (Jvm.Cond.eq (.elem t (.index 0)) (.int v)).value args s none s [j.toNatClampNeg] = some (decide (atv cl j = v)) := Cond.eq_ints e1 (Term.int_eval v)
  rcases or_e2 v1 v2 c with q | q
  · exact Or.inl (Int32.not_lt.mpr q)
  · exact Or.inr q
theorem own_all3 {args : Array Value} {s : State} {t : Term} {a : Addr} {cl : Cell} {ty : FieldType} {z lo hi v : Int32} (et : ∀ idx, t.eval args s none idx s = some (.ref a)) (T : Tab s s.heap a cl ty z) (h : (Jvm.Cond.all t (.or (.lt (.index 0) (.int lo)) (.or (.le (.int hi) (.index 0)) (.eq (.elem t (.index 0)) (.int v))))).value args s none s [] = some true) (j : Int32) (h0 : ¬ j < 0) (h1 : j < z) : j < lo ∨ ¬ j < hi ∨ atv cl j = v := by
  have ha := T.1.fin (Vm.Alike.refl _)
  have hin : ¬ (j < 0 ∨ cl.slots.size ≤ j.toNatClampNeg) := inb_of T.2.1 ⟨h0, h1⟩
  have c := Cond.all_elim (et []) ha h j.toNatClampNeg (Nat.lt_of_not_le fun x => hin (Or.inr x))
  have e1 : (Term.elem t (.index 0)).eval args s none [j.toNatClampNeg] s = some (.int (atv cl j)) := (elem_f (et _) (idx_at h0) ha h0).trans (T.2.2.2 j hin)
  have v1 : (Jvm.Cond.lt (.index 0) (.int lo)).value args s none s [j.toNatClampNeg] = some (decide (j < lo)) := Cond.lt_ints (idx_at h0) (Term.int_eval lo)
  have v2 : (Jvm.Cond.le (.int hi) (.index 0)).value args s none s [j.toNatClampNeg] = some (decide (hi ≤ j)) := Cond.le_ints (Term.int_eval hi) (idx_at h0)
  have v3 : (Jvm.Cond.eq (.elem t (.index 0)) (.int v)).value args s none s [j.toNatClampNeg] = some (decide (atv cl j = v)) := Cond.eq_ints e1 (Term.int_eval v)
  exact or3 c v1 v2 v3
theorem own_l48 {args : Array Value} {s : State} {t : Term} {cl : Cell} {j : Int32} {k : Int64} (h0 : ¬ j < 0) (e1 : (Term.elem t (.index 0)).eval args s none [j.toNatClampNeg] s = some (.int (atv cl j))) : (Jvm.Cond.eq (.op1 .i2l (.elem t (.index 0))) (.op2 .ladd (.op1 .i2l (.index 0)) (.long k))).value args s none s [j.toNatClampNeg] = some (decide ((atv cl j).toInt64 = j.toInt64 + k)) :=
  eq_L (i2l_at e1) ((op2_f (i2l_at (idx_at h0)) rfl).trans rfl)
theorem own_allA {args : Array Value} {s : State} {t : Term} {a : Addr} {cl : Cell} {ty : FieldType} {z hi : Int32} {k : Int64} (et : ∀ idx, t.eval args s none idx s = some (.ref a)) (T : Tab s s.heap a cl ty z) (h : (Jvm.Cond.all t (.or (.le (.int hi) (.index 0)) (.eq (.op1 .i2l (.elem t (.index 0))) (.op2 .ladd (.op1 .i2l (.index 0)) (.long k))))).value args s none s [] = some true) (j : Int32) (h0 : ¬ j < 0) (h1 : j < z) (h2 : j < hi) : (atv cl j).toInt64 = j.toInt64 + k := by
  have ha := T.1.fin (Vm.Alike.refl _)
  have hin : ¬ (j < 0 ∨ cl.slots.size ≤ j.toNatClampNeg) := inb_of T.2.1 ⟨h0, h1⟩
  have c := Cond.all_elim (et []) ha h j.toNatClampNeg (Nat.lt_of_not_le fun x => hin (Or.inr x))
  have e1 : (Term.elem t (.index 0)).eval args s none [j.toNatClampNeg] s = some (.int (atv cl j)) := (elem_f (et _) (idx_at h0) ha h0).trans (T.2.2.2 j hin)
  rcases or_e2 (Cond.le_ints (Term.int_eval hi) (idx_at h0)) (own_l48 h0 e1) c with q | q
  · exact absurd h2 (Int32.not_lt.mpr q)
  · exact q
theorem own_allB {args : Array Value} {s : State} {t : Term} {a : Addr} {cl : Cell} {ty : FieldType} {z lo : Int32} {k : Int64} (et : ∀ idx, t.eval args s none idx s = some (.ref a)) (T : Tab s s.heap a cl ty z) (h : (Jvm.Cond.all t (.or (.lt (.index 0) (.int lo)) (.eq (.op1 .i2l (.elem t (.index 0))) (.op2 .ladd (.op1 .i2l (.index 0)) (.long k))))).value args s none s [] = some true) (j : Int32) (h0 : ¬ j < 0) (h1 : j < z) (h2 : ¬ j < lo) : (atv cl j).toInt64 = j.toInt64 + k := by
  have ha := T.1.fin (Vm.Alike.refl _)
  have hin : ¬ (j < 0 ∨ cl.slots.size ≤ j.toNatClampNeg) := inb_of T.2.1 ⟨h0, h1⟩
  have c := Cond.all_elim (et []) ha h j.toNatClampNeg (Nat.lt_of_not_le fun x => hin (Or.inr x))
  have e1 : (Term.elem t (.index 0)).eval args s none [j.toNatClampNeg] s = some (.int (atv cl j)) := (elem_f (et _) (idx_at h0) ha h0).trans (T.2.2.2 j hin)
  rcases or_e2 (Cond.lt_ints (idx_at h0) (Term.int_eval lo)) (own_l48 h0 e1) c with q | q
  · exact absurd q h2
  · exact q

theorem wd16 {Z : State} {a0 : Array Value} (hw : ∀ d ∈ tables_1, d.before a0 Z = true) : (Jvm.Cond.laysStatic "com/example/bitlattice/bitlattice/eval/Relation" "NO_INDEXES" "[Lcom/example/bitlattice/bitlattice/eval/Relation$Index;").before a0 Z = true := hw _ (List.mem_of_getElem? (i := 16) rfl)
set_option maxRecDepth 65536 in
set_option maxHeartbeats 16000000 in
theorem comes_1 {Post : Tables → Env → Array Value → State → Outcome → State → Prop} (hpost : ∀ tb e args s v u, (limb_1_1.after args s (.returned v) u = true ∧ limb_1_2.after args s (.returned v) u = true ∧ True) → FrameEnd s (.returned v) u (Jvm.fieldLocs frame_1_writes args s ++ Jvm.arrayLocs frame_1_arrays args s ++ Jvm.staticLocs frame_1_statics s) 16 128 → Post tb e args s (.returned v) u) :
    ArmFor flags0 classFile x code maxLocals ret World_1 tables_1 room_1 Calls_1 rest_1 Pre_1 Post := by
  intro l hfl _ _ p e ha hc hk s m args below hf hA hF happ hP
  obtain ⟨hcalls, hrest, hpre⟩ := hP
  obtain ⟨-, -, -, hnamed, -, -, -, hat⟩ := (Spec.applies_iff hf).mp happ
  obtain ⟨hg, hn⟩ := and_e (Cond.before_iff.mp (show (Jvm.Cond.and given_1 narrow_1).before args s = true from hpre))
  obtain ⟨g1, g2⟩ := and_e hg
  obtain ⟨g3, g4⟩ := and_e g2
  obtain ⟨g5, g6⟩ := and_e g4
  obtain ⟨g7, g8⟩ := and_e g6
  obtain ⟨g9, g10⟩ := and_e g8
  obtain ⟨g11, g12⟩ := and_e g10
  obtain ⟨g13, g14⟩ := and_e hn
  obtain ⟨w0, w1, w2, w3, w4, w5, rfl⟩ : ∃ w0 w1 w2 w3 w4 w5 : Value, args = #[w0, w1, w2, w3, w4, w5] := by
    have hs : args.size = 6 := by simpa [Cond.value, given_1] using g1
    obtain ⟨L⟩ := args
    match L, hs with
    | [w0, w1, w2, w3, w4, w5], _ => exact ⟨w0, w1, w2, w3, w4, w5, rfl⟩
  have hw := fun d (hd : d ∈ tables_1) => atoms_spec (ws := Jvm.Cond.code x code maxLocals ret :: tables_1) hat d (List.mem_cons_of_mem _ hd)
  have hfit : Fit s := fun {y c} hc i hi => by
    obtain ⟨ha, rfl⟩ := Array.getElem?_eq_some_iff.mp hc
    have q := List.all_eq_true.mp ((Array.all_eq_true_iff_forall_mem.mp hF) _ (Array.getElem_mem ha)) i (List.mem_range.mpr hi)
    simpa [Array.getElem?_eq_getElem hi] using q
  obtain ⟨i0, ei0⟩ := is_v g3
  obtain rfl : w0 = (.int i0) := Option.some.inj ei0
  obtain ⟨i1, ei1⟩ := is_v g5
  obtain rfl : w1 = (.int i1) := Option.some.inj ei1
  obtain ⟨i2, ei2⟩ := is_v g7
  obtain rfl : w2 = (.int i2) := Option.some.inj ei2
  obtain ⟨i3, ei3⟩ := is_v g9
  obtain rfl : w3 = (.int i3) := Option.some.inj ei3
  obtain ⟨i4, ei4⟩ := is_v g11
  obtain rfl : w4 = (.int i4) := Option.some.inj ei4
  obtain ⟨i5, ei5⟩ := is_v g12
  obtain rfl : w5 = (.int i5) := Option.some.inj ei5
  obtain ⟨v_NO_INDEXES, ev_v_NO_INDEXES⟩ := arr_v g13
  have S_v_NO_INDEXES := Sta.start ev_v_NO_INDEXES (Or.inr ⟨(wd8 hw), (wd16 hw)⟩)
  obtain ⟨cl_v_NO_INDEXES, Ar_v_NO_INDEXES⟩ := Arr.start ev_v_NO_INDEXES g13
  obtain ⟨q_v_NO_INDEXES, e_v_NO_INDEXES⟩ := own_len ev_v_NO_INDEXES Ar_v_NO_INDEXES g14
  have V_v_NO_INDEXES := Arv.start (dv := .null) (vs := []) hfit Ar_v_NO_INDEXES q_v_NO_INDEXES e_v_NO_INDEXES (by decide) rfl trivial
  have hplain := trivial
  obtain ⟨n, o, h1, h2, h3, _, L, rfl, ⟨rfl, N⟩, hq⟩ := rm0 l s _ hw tables_1 i0 i1 i2 i3 i4 i5 v_NO_INDEXES cl_v_NO_INDEXES.cls s.heap s.heap.size (Nat.le_refl _) V_v_NO_INDEXES S_v_NO_INDEXES p e ha hc hk s m _ below hf ((Spec.applies_iff_loose hf).mp happ).1 ⟨rfl, State.Warmed39.refl s, rfl⟩ trivial
  refine ⟨n, _, h1, h2, h3, hpost _ _ _ _ _ _ ⟨Cond.after_iff.mpr rfl, Cond.after_iff.mpr (eq_i res_at (Term.int_eval (1)) rfl), trivial⟩ ⟨hq.1, hq.2.1, (hq.2.2.sift fun y hy => Or.inr (N y hy)).mono (by decide) (by decide)⟩⟩
theorem main_1_1 : Claimed_1_1 := comes_1 fun _ _ _ _ _ _ h hF => ⟨h.1, hF⟩
theorem main_1_2 : Claimed_1_2 := comes_1 fun _ _ _ _ _ _ h hF => ⟨h.2.1, hF⟩
end Jvm.Pilot.@@N@@
namespace Jvm.Pilot.@@N@@
open Jvm Jvm.ClassFile Sem Op Lib Jvm.Free Jvm.Stand Jvm.Pilot.@@N@@.Jvm.D
/-! MADE BY PROGRAM (witnessworld.py) out of the Statement's table words and the real class files: 12 classes; the members and pool entries that the words name. The judged class is class 1, her method 3. -/
namespace start1
open Jvm.ClassFile
def u (s : String) : CpInfo := .utf8 (stringToUtf16 s)
/-- a pool by its gaps: so many unusable entries, then the entry; so many at the end -/
def gap : Nat → List CpInfo → List CpInfo
  | 0, r => r
  | n + 1, r => .unusable :: gap n r
def poolList (es : List (Nat × CpInfo)) (last : Nat) : List CpInfo := es.foldr (fun e r => gap e.1 (e.2 :: r)) (gap last [])
def pool (es : List (Nat × CpInfo)) (last : Nat) : Array CpInfo := ⟨poolList es last⟩
def fileOf (pool : Array CpInfo) (this : Nat) (attrs : Array Attribute := #[]) (ms : Array MethodInfo := #[]) (fl : Nat := 33) (sup : Nat := 0) (ifs : Array Nat := #[]) (fds : Array FieldInfo := #[]) : ClassFile where
  minorVersion := 0
  majorVersion := 65
  constantPool := pool
  accessFlags := fl
  thisClass := this
  superClass := sup
  interfaces := ifs
  fields := fds
  methods := ms
  attributes := attrs
def plain (name : String) (sup : Option ClassId) : Class where
  name := name
  kind := .ordinary
  loader := none
  accessFlags := 33
  super := sup
  interfaces := #[]
  cf := none
  fields := #[]
  methods := #[]
  instanceTypes := #[]
  staticTypes := #[]
  resolved := #[]
  callSites := []
  init := .initialized
  statics := none
  mirror := none

def pool0 : Array CpInfo := pool [(5, u "<init>"), (0, u "()V"), (1, .class_ 10), (1, u "java/lang/Object")] 113

def k0c0 : Code := { maxStack := 0, maxLocals := 1, code := object_method_1_code, exceptionTable := #[], attributes := #[] }
def k0m0 : Method := { name := "<init>", desc := "()V", sig := { parameters := [], returnType := none }, accessFlags := 1, code := some k0c0 }
/-- java/lang/Object -/
def k0 : Class := { plain "java/lang/Object" none with
  accessFlags := 33
  interfaces := #[]
  cf := some (fileOf pool0 8 #[] #[{ accessFlags := 1, nameIndex := 5, descriptorIndex := 6, attributes := #[] }] 33 0 #[] #[])
  fields := #[]
  methods := #[k0m0]
  instanceTypes := #[]
  staticTypes := #[]
  resolved := Array.replicate 124 none
  statics := none }

def pool1 : Array CpInfo := pool [(2, .class_ 4), (1, u "java/lang/Object"), (0, u "<init>"), (0, u "()V"), (0, .integer 2147483647), (0, .methodref 9 10), (0, .class_ 11), (0, .nameAndType 12 13), (0, u "com/example/bitlattice/bitlattice/eval/RelationGetPinLaw"), (0, u "rowOf"), (0, u "(IIII)[I"), (0, .class_ 15), (0, u "com/example/bitlattice/bitlattice/eval/Relation"), (0, .methodref 14 17), (0, .nameAndType 5 18), (0, u "(I)V"), (0, .methodref 14 20), (0, .nameAndType 21 22), (0, u "add"), (0, u "([I)Z"), (0, .methodref 9 24), (0, .nameAndType 25 26), (0, u "pick"), (0, u "(IIII)I"), (0, .methodref 14 28), (0, .nameAndType 29 30), (0, u "get"), (0, u "(II)I"), (5, u "law"), (0, u "(IIIIII)Z")] 2

def k1m0 : Method := { name := "<init>", desc := "()V", sig := { parameters := [], returnType := none }, accessFlags := 2, code := none }
def k1c1 : Code := { maxStack := 3, maxLocals := 5, code := method_2_code, exceptionTable := #[], attributes := #[] }
def k1m1 : Method := { name := "rowOf", desc := "(IIII)[I", sig := { parameters := [.int, .int, .int, .int], returnType := some (.array .int) }, accessFlags := 10, code := some k1c1 }
def k1c2 : Code := { maxStack := 2, maxLocals := 4, code := method_3_code, exceptionTable := #[], attributes := #[] }
def k1m2 : Method := { name := "pick", desc := "(IIII)I", sig := { parameters := [.int, .int, .int, .int], returnType := some .int }, accessFlags := 10, code := some k1c2 }
def k1c3 : Code := { maxStack := 4, maxLocals := 15, code := code, exceptionTable := #[], attributes := #[] }
def k1m3 : Method := { name := "law", desc := "(IIIIII)Z", sig := { parameters := [.int, .int, .int, .int, .int, .int], returnType := some .boolean }, accessFlags := 9, code := some k1c3 }
/-- com/example/bitlattice/bitlattice/eval/RelationGetPinLaw -/
def k1 : Class := { plain "com/example/bitlattice/bitlattice/eval/RelationGetPinLaw" (some 0) with
  accessFlags := 49
  interfaces := #[]
  cf := some (fileOf pool1 9 #[] #[{ accessFlags := 2, nameIndex := 5, descriptorIndex := 6, attributes := #[] }, { accessFlags := 10, nameIndex := 12, descriptorIndex := 13, attributes := #[] }, { accessFlags := 10, nameIndex := 25, descriptorIndex := 26, attributes := #[] }, { accessFlags := 9, nameIndex := 36, descriptorIndex := 37, attributes := #[] }] 49 2 #[] #[])
  fields := #[]
  methods := #[k1m0, k1m1, k1m2, k1m3]
  instanceTypes := #[]
  staticTypes := #[]
  resolved := Array.replicate 40 none
  statics := none }

def pool2 : Array CpInfo := pool [(3, .methodref 4 5), (0, .class_ 6), (0, .nameAndType 7 8), (0, u "java/lang/Object"), (0, u "<init>"), (0, u "()V"), (0, .fieldref 10 11), (0, .class_ 12), (0, .nameAndType 13 14), (0, u "com/example/bitlattice/bitlattice/eval/Relation"), (0, u "NO_INDEXES"), (0, u "[Lcom/example/bitlattice/bitlattice/eval/Relation$Index;"), (0, .fieldref 10 16), (0, .nameAndType 17 14), (0, u "indexes"), (0, .fieldref 10 19), (0, .nameAndType 20 21), (0, u "arity"), (0, u "I"), (0, .fieldref 10 23), (0, .nameAndType 24 25), (0, u "values"), (0, u "[I"), (0, .fieldref 10 27), (0, .nameAndType 28 21), (0, u "size"), (0, .class_ 30), (0, u "com/example/bitlattice/bitlattice/eval/Relation$Index"), (7, .fieldref 10 39), (0, .nameAndType 40 41), (0, u "members"), (0, u "Lcom/example/bitlattice/bitlattice/eval/Relation$Index;"), (13, .fieldref 10 56), (0, .nameAndType 57 21), (0, u "holdingAny"), (7, u "(I)V"), (0, .methodref 10 67), (0, .nameAndType 68 69), (0, u "contains"), (0, u "([I)Z"), (5, u "(II)I"), (0, .methodref 77 78), (0, .class_ 79), (0, .nameAndType 80 81), (0, u "java/lang/System"), (0, u "arraycopy"), (0, u "(Ljava/lang/Object;ILjava/lang/Object;II)V"), (4, .integer 2147483647), (7, .methodref 10 95), (0, .nameAndType 96 97), (0, u "rowIs"), (0, u "(I[I)Z"), (64, u "NONE"), (0, u "ANY"), (1, u "SMALL"), (10, u "get"), (1, u "add")] 9

def k2c0 : Code := { maxStack := 3, maxLocals := 2, code := prog_33_method_1_code, exceptionTable := #[], attributes := #[] }
def k2m0 : Method := { name := "<init>", desc := "(I)V", sig := { parameters := [.int], returnType := none }, accessFlags := 0, code := some k2c0 }
def k2c1 : Code := { maxStack := 3, maxLocals := 3, code := prog_33_method_10_code, exceptionTable := #[], attributes := #[] }
def k2m1 : Method := { name := "get", desc := "(II)I", sig := { parameters := [.int, .int], returnType := some .int }, accessFlags := 0, code := some k2c1 }
def k2c2 : Code := { maxStack := 6, maxLocals := 7, code := prog_33_method_14_code, exceptionTable := #[], attributes := #[] }
def k2m2 : Method := { name := "add", desc := "([I)Z", sig := { parameters := [(.array .int)], returnType := some .boolean }, accessFlags := 0, code := some k2c2 }
def k2c3 : Code := { maxStack := 3, maxLocals := 3, code := prog_33_method_15_code, exceptionTable := #[], attributes := #[] }
def k2m3 : Method := { name := "contains", desc := "([I)Z", sig := { parameters := [(.array .int)], returnType := some .boolean }, accessFlags := 0, code := some k2c3 }
def k2c4 : Code := { maxStack := 3, maxLocals := 4, code := prog_33_method_16_code, exceptionTable := #[], attributes := #[] }
def k2m4 : Method := { name := "rowIs", desc := "(I[I)Z", sig := { parameters := [.int, (.array .int)], returnType := some .boolean }, accessFlags := 2, code := some k2c4 }
/-- com/example/bitlattice/bitlattice/eval/Relation -/
def k2 : Class := { plain "com/example/bitlattice/bitlattice/eval/Relation" (some 0) with
  accessFlags := 32
  interfaces := #[]
  cf := some (fileOf pool2 10 #[.nestMembers #[29]] #[{ accessFlags := 0, nameIndex := 7, descriptorIndex := 65, attributes := #[] }, { accessFlags := 0, nameIndex := 176, descriptorIndex := 75, attributes := #[] }, { accessFlags := 0, nameIndex := 178, descriptorIndex := 69, attributes := #[] }, { accessFlags := 0, nameIndex := 68, descriptorIndex := 69, attributes := #[] }, { accessFlags := 2, nameIndex := 96, descriptorIndex := 97, attributes := #[] }] 32 4 #[] #[{ accessFlags := 24, nameIndex := 163, descriptorIndex := 21, attributes := #[] }, { accessFlags := 26, nameIndex := 165, descriptorIndex := 21, attributes := #[] }, { accessFlags := 26, nameIndex := 13, descriptorIndex := 14, attributes := #[] }, { accessFlags := 26, nameIndex := 162, descriptorIndex := 25, attributes := #[] }, { accessFlags := 18, nameIndex := 20, descriptorIndex := 21, attributes := #[] }, { accessFlags := 2, nameIndex := 24, descriptorIndex := 25, attributes := #[] }, { accessFlags := 2, nameIndex := 28, descriptorIndex := 21, attributes := #[] }, { accessFlags := 2, nameIndex := 57, descriptorIndex := 21, attributes := #[] }, { accessFlags := 2, nameIndex := 40, descriptorIndex := 41, attributes := #[] }, { accessFlags := 66, nameIndex := 17, descriptorIndex := 14, attributes := #[] }])
  fields := #[{ name := "ANY", type := .int, accessFlags := 24, slot := 0, constantValue := 0 }, { name := "SMALL", type := .int, accessFlags := 26, slot := 1, constantValue := 0 }, { name := "NO_INDEXES", type := (.array (.object "com/example/bitlattice/bitlattice/eval/Relation$Index")), accessFlags := 26, slot := 2, constantValue := 0 }, { name := "NONE", type := (.array .int), accessFlags := 26, slot := 3, constantValue := 0 }, { name := "arity", type := .int, accessFlags := 18, slot := 0, constantValue := 0 }, { name := "values", type := (.array .int), accessFlags := 2, slot := 1, constantValue := 0 }, { name := "size", type := .int, accessFlags := 2, slot := 2, constantValue := 0 }, { name := "holdingAny", type := .int, accessFlags := 2, slot := 3, constantValue := 0 }, { name := "members", type := (.object "com/example/bitlattice/bitlattice/eval/Relation$Index"), accessFlags := 2, slot := 4, constantValue := 0 }, { name := "indexes", type := (.array (.object "com/example/bitlattice/bitlattice/eval/Relation$Index")), accessFlags := 66, slot := 5, constantValue := 0 }]
  methods := #[k2m0, k2m1, k2m2, k2m3, k2m4]
  instanceTypes := #[.int, (.array .int), .int, .int, (.object "com/example/bitlattice/bitlattice/eval/Relation$Index"), (.array (.object "com/example/bitlattice/bitlattice/eval/Relation$Index"))]
  staticTypes := #[.int, .int, (.array (.object "com/example/bitlattice/bitlattice/eval/Relation$Index")), (.array .int)]
  resolved := Array.replicate 188 none
  statics := some 0 }

def pool3 : Array CpInfo := pool [(2, .class_ 4), (1, u "java/lang/Object"), (0, u "<init>"), (0, u "()V"), (1, .class_ 10), (1, u "java/lang/System"), (0, u "allowSecurityManager"), (0, u "I"), (16, u "cons"), (0, u "Ljava/io/Console;"), (77, .class_ 110), (1, u "java/lang/System$CallersHolder"), (43, u "initialErrStream"), (0, u "Ljava/io/PrintStream;"), (19, u "security"), (0, u "Ljava/lang/SecurityManager;"), (31, .class_ 209), (0, u "java/lang/System$1"), (7, u "props"), (0, u "Ljava/util/Properties;"), (2, u "lineSeparator"), (0, u "Ljava/lang/String;"), (96, .class_ 321), (1, u "java/lang/System$LoggerFinder"), (5, .class_ 328), (0, u "java/lang/System$Logger"), (67, u "err"), (2, u "out"), (91, u "notSupportedJnuEncoding"), (15, u "in"), (17, u "initialIn"), (0, u "Ljava/io/InputStream;"), (35, u "bootLayer"), (0, u "Ljava/lang/ModuleLayer;"), (99, .class_ 664), (0, u "java/lang/System$2"), (9, u "NEVER"), (2, u "MAYBE"), (49, u "arraycopy"), (0, u "(Ljava/lang/Object;ILjava/lang/Object;II)V"), (72, .class_ 802), (0, u "java/lang/System$Logger$Level")] 31

def k3m0 : Method := { name := "<init>", desc := "()V", sig := { parameters := [], returnType := none }, accessFlags := 2, code := none }
def k3m1 : Method := { name := "arraycopy", desc := "(Ljava/lang/Object;ILjava/lang/Object;II)V", sig := { parameters := [(.object "java/lang/Object"), .int, (.object "java/lang/Object"), .int, .int], returnType := none }, accessFlags := 265, code := none }
/-- java/lang/System -/
def k3 : Class := { plain "java/lang/System" (some 0) with
  accessFlags := 49
  interfaces := #[]
  cf := some (fileOf pool3 8 #[.nestMembers #[319, 327, 801, 108, 663, 208]] #[{ accessFlags := 2, nameIndex := 5, descriptorIndex := 6, attributes := #[] }, { accessFlags := 265, nameIndex := 727, descriptorIndex := 728, attributes := #[] }] 49 2 #[] #[{ accessFlags := 25, nameIndex := 507, descriptorIndex := 526, attributes := #[] }, { accessFlags := 25, nameIndex := 399, descriptorIndex := 155, attributes := #[] }, { accessFlags := 25, nameIndex := 396, descriptorIndex := 155, attributes := #[] }, { accessFlags := 10, nameIndex := 525, descriptorIndex := 526, attributes := #[] }, { accessFlags := 26, nameIndex := 674, descriptorIndex := 12, attributes := #[] }, { accessFlags := 26, nameIndex := 677, descriptorIndex := 12, attributes := #[] }, { accessFlags := 10, nameIndex := 11, descriptorIndex := 12, attributes := #[] }, { accessFlags := 74, nameIndex := 175, descriptorIndex := 176, attributes := #[] }, { accessFlags := 10, nameIndex := 491, descriptorIndex := 222, attributes := #[] }, { accessFlags := 74, nameIndex := 29, descriptorIndex := 30, attributes := #[] }, { accessFlags := 74, nameIndex := 154, descriptorIndex := 155, attributes := #[] }, { accessFlags := 10, nameIndex := 217, descriptorIndex := 218, attributes := #[] }, { accessFlags := 10, nameIndex := 221, descriptorIndex := 222, attributes := #[] }, { accessFlags := 8, nameIndex := 562, descriptorIndex := 563, attributes := #[] }])
  fields := #[{ name := "in", type := (.object "java/io/InputStream"), accessFlags := 25, slot := 0, constantValue := 0 }, { name := "out", type := (.object "java/io/PrintStream"), accessFlags := 25, slot := 1, constantValue := 0 }, { name := "err", type := (.object "java/io/PrintStream"), accessFlags := 25, slot := 2, constantValue := 0 }, { name := "initialIn", type := (.object "java/io/InputStream"), accessFlags := 10, slot := 3, constantValue := 0 }, { name := "NEVER", type := .int, accessFlags := 26, slot := 4, constantValue := 0 }, { name := "MAYBE", type := .int, accessFlags := 26, slot := 5, constantValue := 0 }, { name := "allowSecurityManager", type := .int, accessFlags := 10, slot := 6, constantValue := 0 }, { name := "security", type := (.object "java/lang/SecurityManager"), accessFlags := 74, slot := 7, constantValue := 0 }, { name := "notSupportedJnuEncoding", type := (.object "java/lang/String"), accessFlags := 10, slot := 8, constantValue := 0 }, { name := "cons", type := (.object "java/io/Console"), accessFlags := 74, slot := 9, constantValue := 0 }, { name := "initialErrStream", type := (.object "java/io/PrintStream"), accessFlags := 74, slot := 10, constantValue := 0 }, { name := "props", type := (.object "java/util/Properties"), accessFlags := 10, slot := 11, constantValue := 0 }, { name := "lineSeparator", type := (.object "java/lang/String"), accessFlags := 10, slot := 12, constantValue := 0 }, { name := "bootLayer", type := (.object "java/lang/ModuleLayer"), accessFlags := 8, slot := 13, constantValue := 0 }]
  methods := #[k3m0, k3m1]
  instanceTypes := #[]
  staticTypes := #[(.object "java/io/InputStream"), (.object "java/io/PrintStream"), (.object "java/io/PrintStream"), (.object "java/io/InputStream"), .int, .int, .int, (.object "java/lang/SecurityManager"), (.object "java/lang/String"), (.object "java/io/Console"), (.object "java/io/PrintStream"), (.object "java/util/Properties"), (.object "java/lang/String"), (.object "java/lang/ModuleLayer")]
  resolved := Array.replicate 834 none
  statics := none }

def pool4 : Array CpInfo := pool [(2, .class_ 4), (1, u "com/example/bitlattice/bitlattice/eval/Relation$Index"), (0, u "this$0"), (0, u "Lcom/example/bitlattice/bitlattice/eval/Relation;"), (1, .class_ 10), (1, u "java/lang/Object"), (4, u "positions"), (0, u "[I"), (14, u "slots"), (2, u "next"), (1, .class_ 38), (1, u "com/example/bitlattice/bitlattice/eval/Relation"), (1, u "I"), (47, u "keys"), (18, u "FIRST"), (2, u "LAST"), (1, u "COUNT"), (1, u "HASH"), (1, u "WIDTH")] 20

/-- com/example/bitlattice/bitlattice/eval/Relation$Index -/
def k4 : Class := { plain "com/example/bitlattice/bitlattice/eval/Relation$Index" (some 0) with
  accessFlags := 32
  interfaces := #[]
  cf := some (fileOf pool4 2 #[.nestHost 36] #[] 32 8 #[] #[{ accessFlags := 26, nameIndex := 107, descriptorIndex := 40, attributes := #[] }, { accessFlags := 26, nameIndex := 110, descriptorIndex := 40, attributes := #[] }, { accessFlags := 26, nameIndex := 112, descriptorIndex := 40, attributes := #[] }, { accessFlags := 26, nameIndex := 114, descriptorIndex := 40, attributes := #[] }, { accessFlags := 26, nameIndex := 116, descriptorIndex := 40, attributes := #[] }, { accessFlags := 18, nameIndex := 15, descriptorIndex := 16, attributes := #[] }, { accessFlags := 2, nameIndex := 31, descriptorIndex := 16, attributes := #[] }, { accessFlags := 2, nameIndex := 34, descriptorIndex := 16, attributes := #[] }, { accessFlags := 2, nameIndex := 88, descriptorIndex := 40, attributes := #[] }, { accessFlags := 4112, nameIndex := 5, descriptorIndex := 6, attributes := #[] }])
  fields := #[{ name := "FIRST", type := .int, accessFlags := 26, slot := 0, constantValue := 0 }, { name := "LAST", type := .int, accessFlags := 26, slot := 1, constantValue := 0 }, { name := "COUNT", type := .int, accessFlags := 26, slot := 2, constantValue := 0 }, { name := "HASH", type := .int, accessFlags := 26, slot := 3, constantValue := 0 }, { name := "WIDTH", type := .int, accessFlags := 26, slot := 4, constantValue := 0 }, { name := "positions", type := (.array .int), accessFlags := 18, slot := 0, constantValue := 0 }, { name := "slots", type := (.array .int), accessFlags := 2, slot := 1, constantValue := 0 }, { name := "next", type := (.array .int), accessFlags := 2, slot := 2, constantValue := 0 }, { name := "keys", type := .int, accessFlags := 2, slot := 3, constantValue := 0 }, { name := "this$0", type := (.object "com/example/bitlattice/bitlattice/eval/Relation"), accessFlags := 4112, slot := 4, constantValue := 0 }]
  methods := #[]
  instanceTypes := #[(.array .int), (.array .int), (.array .int), .int, (.object "com/example/bitlattice/bitlattice/eval/Relation")]
  staticTypes := #[.int, .int, .int, .int, .int]
  resolved := Array.replicate 137 none
  statics := none }

def pool5 : Array CpInfo := pool [(1, u "java/lang/Cloneable"), (0, .class_ 1), (0, u "java/lang/Object"), (0, .class_ 3)] 3

/-- java/lang/Cloneable -/
def k5 : Class := { plain "java/lang/Cloneable" (some 0) with
  accessFlags := 1537
  interfaces := #[]
  cf := some (fileOf pool5 2 #[] #[] 1537 4 #[] #[])
  fields := #[]
  methods := #[]
  instanceTypes := #[]
  staticTypes := #[]
  resolved := Array.replicate 8 none
  statics := none }

def pool6 : Array CpInfo := pool [(1, u "java/io/Serializable"), (0, .class_ 1), (0, u "java/lang/Object"), (0, .class_ 3)] 3

/-- java/io/Serializable -/
def k6 : Class := { plain "java/io/Serializable" (some 0) with
  accessFlags := 1537
  interfaces := #[]
  cf := some (fileOf pool6 2 #[] #[] 1537 4 #[] #[])
  fields := #[]
  methods := #[]
  instanceTypes := #[]
  staticTypes := #[]
  resolved := Array.replicate 8 none
  statics := none }

/-- the primitive byte -/
def k7 : Class := { plain "byte" none with kind := .primitive 'B', accessFlags := 0x411 }
/-- [B -/
def k8 : Class := { plain "[B" (some 0) with kind := .array 7 .byte, interfaces := #[5, 6], accessFlags := 1041 }

/-- the primitive int -/
def k9 : Class := { plain "int" none with kind := .primitive 'I', accessFlags := 0x411 }
/-- [I -/
def k10 : Class := { plain "[I" (some 0) with kind := .array 9 .int, interfaces := #[5, 6], accessFlags := 1041 }

/-- [Lcom/example/bitlattice/bitlattice/eval/Relation$Index; -/
def k11 : Class := { plain "[Lcom/example/bitlattice/bitlattice/eval/Relation$Index;" (some 0) with kind := .array 4 (.object "com/example/bitlattice/bitlattice/eval/Relation$Index"), interfaces := #[5, 6], accessFlags := 1041 }

def heap : Heap := #[{ cls := 2, slots := #[.int 0, .int 0, .ref 1, .null], vm := .statics 2 },
  { cls := 11, slots := #[], vm := .none }]
def classes : Array Class := #[k0, k1, k2, k3, k4, k5, k6, k7, k8, k9, k10, k11]
def interned : List (Array UInt16 × Addr) := []
def slotsUsed : Nat := 4
def theMethod : MethodId := ⟨1, 3⟩
def args0 : Array Value := #[.int 5, .int 6, .int 7, .int 8, .int 9, .int 10]
def aboutOver (below : List Frame) : State where
  vm := { classes := classes, interned := interned.toArray }
  heap := heap
  slotsUsed := slotsUsed
  threads := #[{ frames := .invoking theMethod args0 :: below }]
def below0 : List Frame := [.native { method := ⟨0, 0⟩, args := #[] }]
def about1 : State := aboutOver below0
def p0 : Program := .bare "" "" ""
def e0 : Env := launch0.env 0 0 0
theorem w_frames : about1.frames = Frame.invoking theMethod args0 :: below0 := rfl
set_option maxRecDepth 65536 in
theorem w_args : argsFit about1.vm theMethod args0 = true := by decide +kernel
set_option maxRecDepth 65536 in
theorem w_heap : heapFits about1 = true := by decide +kernel
set_option maxRecDepth 65536 in
theorem w_runnable : about1.curStatus? = some .runnable := by decide +kernel
set_option maxRecDepth 65536 in
theorem w_alone : about1.alone = true := by decide +kernel
set_option maxRecDepth 65536 in
theorem w_named : about1.methodNamed? x = some theMethod := by decide +kernel
set_option maxRecDepth 65536 in
theorem w_hears : about1.hears theMethod below0 = true := by decide +kernel
set_option maxRecDepth 65536 in
theorem w_ripe : about1.ripe theMethod args0 below0 = true := by decide +kernel
theorem w_running : about1.status = .running := rfl
set_option maxRecDepth 65536 in
theorem w_room : about1.hasRoom e0.platform room_1 = true :=
  launch0.hasRoom_least _ room_1 (by decide +kernel) (by decide +kernel) (by decide +kernel) (by decide +kernel) (by decide +kernel) (by decide +kernel)
theorem allAtoms_all (ts : List Jvm.Cond) (a : Array Jvm.Value) (st : Jvm.State) : (allAtoms ts).before a st = ts.all (fun c => c.before a st) := by
  induction ts with
  | nil => rfl
  | cons c t ih =>
    show (Jvm.Cond.and c (allAtoms t)).before a st = _
    rw [Jvm.Cond.before_and, ih, List.all_cons]
def words1 : List Jvm.Cond := Jvm.Cond.code x code maxLocals ret :: tables_1
/-- a 'code' word, met by the world's own term for the bytes: nothing is compared byte by byte -/
theorem code_word {y : MethodName} {bytes : ByteArray} {mx : Nat} {rt : Option FieldType} {a : Array Value} {s : State} {m : MethodId} {meth : Method} {c : Code} (h1 : s.methodNamed? y = some m) (h2 : s.vm.method? m = some meth) (h3 : meth.code = some c) (h4 : c.code = bytes)
    (h5 : (c.maxLocals == mx && c.exceptionTable.isEmpty && decide (c.maxStack ≤ mostOperands) && decide (meth.sig.returnType = rt) && !meth.locks && decide (parseMethodDescriptor y.desc = some meth.sig)) = true) : (Jvm.Cond.code y bytes mx rt).before a s = true := by
  simp only [Bool.and_eq_true, beq_iff_eq, Bool.not_eq_true', decide_eq_true_eq] at h5
  obtain ⟨⟨⟨⟨⟨g1, g2⟩, g3⟩, g4⟩, g5⟩, g6⟩ := h5
  simp [Cond.before, Cond.holds, Cond.value, h1, h2, h3, h4, g1, g2, g3, g4, g5, g6]
def isCode : Jvm.Cond → Bool
  | .code _ _ _ _ => true
  | _ => false
theorem all_split {L : List Jvm.Cond} {P : Jvm.Cond → Bool} (h1 : L.all (fun c => isCode c || P c) = true) (h2 : ∀ c ∈ L.filter isCode, P c = true) : L.all P = true := by
  refine List.all_eq_true.mpr fun c hc => ?_
  have h := List.all_eq_true.mp h1 c hc
  rcases Bool.eq_false_or_eq_true (isCode c) with hi | hi
  · exact h2 c (List.mem_filter.mpr ⟨hc, hi⟩)
  · simpa [hi] using h
set_option maxRecDepth 65536 in
theorem w_c0 : (Jvm.Cond.code x code maxLocals ret).before args0 about1 = true := code_word (m := ⟨1, 3⟩) (meth := k1m3) (c := k1c3) (by decide +kernel) rfl rfl rfl (by decide +kernel)
set_option maxRecDepth 65536 in
theorem w_c1 : (Jvm.Cond.code ({ cls := "com/example/bitlattice/bitlattice/eval/RelationGetPinLaw", name := "rowOf", desc := "(IIII)[I" } : Jvm.MethodName) method_2_code (5 : Nat) (Option.some (Jvm.ClassFile.FieldType.array Jvm.ClassFile.FieldType.int))).before args0 about1 = true := code_word (m := ⟨1, 1⟩) (meth := k1m1) (c := k1c1) (by decide +kernel) rfl rfl rfl (by decide +kernel)
set_option maxRecDepth 65536 in
theorem w_c2 : (Jvm.Cond.code ({ cls := "com/example/bitlattice/bitlattice/eval/Relation", name := "<init>", desc := "(I)V" } : Jvm.MethodName) prog_33_method_1_code (2 : Nat) (Option.none : Option Jvm.ClassFile.FieldType)).before args0 about1 = true := code_word (m := ⟨2, 0⟩) (meth := k2m0) (c := k2c0) (by decide +kernel) rfl rfl rfl (by decide +kernel)
set_option maxRecDepth 65536 in
theorem w_c3 : (Jvm.Cond.code ({ cls := "java/lang/Object", name := "<init>", desc := "()V" } : Jvm.MethodName) object_method_1_code (1 : Nat) (Option.none : Option Jvm.ClassFile.FieldType)).before args0 about1 = true := code_word (m := ⟨0, 0⟩) (meth := k0m0) (c := k0c0) (by decide +kernel) rfl rfl rfl (by decide +kernel)
set_option maxRecDepth 65536 in
theorem w_c4 : (Jvm.Cond.code ({ cls := "com/example/bitlattice/bitlattice/eval/Relation", name := "add", desc := "([I)Z" } : Jvm.MethodName) prog_33_method_14_code (7 : Nat) (Option.some Jvm.ClassFile.FieldType.boolean)).before args0 about1 = true := code_word (m := ⟨2, 2⟩) (meth := k2m2) (c := k2c2) (by decide +kernel) rfl rfl rfl (by decide +kernel)
set_option maxRecDepth 65536 in
theorem w_c5 : (Jvm.Cond.code ({ cls := "com/example/bitlattice/bitlattice/eval/Relation", name := "contains", desc := "([I)Z" } : Jvm.MethodName) prog_33_method_15_code (3 : Nat) (Option.some Jvm.ClassFile.FieldType.boolean)).before args0 about1 = true := code_word (m := ⟨2, 3⟩) (meth := k2m3) (c := k2c3) (by decide +kernel) rfl rfl rfl (by decide +kernel)
set_option maxRecDepth 65536 in
theorem w_c6 : (Jvm.Cond.code ({ cls := "com/example/bitlattice/bitlattice/eval/Relation", name := "rowIs", desc := "(I[I)Z" } : Jvm.MethodName) prog_33_method_16_code (4 : Nat) (Option.some Jvm.ClassFile.FieldType.boolean)).before args0 about1 = true := code_word (m := ⟨2, 4⟩) (meth := k2m4) (c := k2c4) (by decide +kernel) rfl rfl rfl (by decide +kernel)
set_option maxRecDepth 65536 in
theorem w_c7 : (Jvm.Cond.code ({ cls := "com/example/bitlattice/bitlattice/eval/RelationGetPinLaw", name := "pick", desc := "(IIII)I" } : Jvm.MethodName) method_3_code (4 : Nat) (Option.some Jvm.ClassFile.FieldType.int)).before args0 about1 = true := code_word (m := ⟨1, 2⟩) (meth := k1m2) (c := k1c2) (by decide +kernel) rfl rfl rfl (by decide +kernel)
set_option maxRecDepth 65536 in
theorem w_c8 : (Jvm.Cond.code ({ cls := "com/example/bitlattice/bitlattice/eval/Relation", name := "get", desc := "(II)I" } : Jvm.MethodName) prog_33_method_10_code (3 : Nat) (Option.some Jvm.ClassFile.FieldType.int)).before args0 about1 = true := code_word (m := ⟨2, 1⟩) (meth := k2m1) (c := k2c1) (by decide +kernel) rfl rfl rfl (by decide +kernel)
def codes1 : List Jvm.Cond := [Jvm.Cond.code x code maxLocals ret, Jvm.Cond.code ({ cls := "com/example/bitlattice/bitlattice/eval/RelationGetPinLaw", name := "rowOf", desc := "(IIII)[I" } : Jvm.MethodName) method_2_code (5 : Nat) (Option.some (Jvm.ClassFile.FieldType.array Jvm.ClassFile.FieldType.int)), Jvm.Cond.code ({ cls := "com/example/bitlattice/bitlattice/eval/Relation", name := "<init>", desc := "(I)V" } : Jvm.MethodName) prog_33_method_1_code (2 : Nat) (Option.none : Option Jvm.ClassFile.FieldType), Jvm.Cond.code ({ cls := "java/lang/Object", name := "<init>", desc := "()V" } : Jvm.MethodName) object_method_1_code (1 : Nat) (Option.none : Option Jvm.ClassFile.FieldType), Jvm.Cond.code ({ cls := "com/example/bitlattice/bitlattice/eval/Relation", name := "add", desc := "([I)Z" } : Jvm.MethodName) prog_33_method_14_code (7 : Nat) (Option.some Jvm.ClassFile.FieldType.boolean), Jvm.Cond.code ({ cls := "com/example/bitlattice/bitlattice/eval/Relation", name := "contains", desc := "([I)Z" } : Jvm.MethodName) prog_33_method_15_code (3 : Nat) (Option.some Jvm.ClassFile.FieldType.boolean), Jvm.Cond.code ({ cls := "com/example/bitlattice/bitlattice/eval/Relation", name := "rowIs", desc := "(I[I)Z" } : Jvm.MethodName) prog_33_method_16_code (4 : Nat) (Option.some Jvm.ClassFile.FieldType.boolean), Jvm.Cond.code ({ cls := "com/example/bitlattice/bitlattice/eval/RelationGetPinLaw", name := "pick", desc := "(IIII)I" } : Jvm.MethodName) method_3_code (4 : Nat) (Option.some Jvm.ClassFile.FieldType.int), Jvm.Cond.code ({ cls := "com/example/bitlattice/bitlattice/eval/Relation", name := "get", desc := "(II)I" } : Jvm.MethodName) prog_33_method_10_code (3 : Nat) (Option.some Jvm.ClassFile.FieldType.int)]
set_option maxRecDepth 65536 in
theorem codes_eq : words1.filter isCode = codes1 := rfl
theorem w_codes : ∀ c ∈ words1.filter isCode, c.before args0 about1 = true := by
  rw [codes_eq]
  intro c hc
  simp only [codes1, List.mem_cons, List.not_mem_nil, or_false] at hc
  rcases hc with rfl | rfl | rfl | rfl | rfl | rfl | rfl | rfl | rfl
  · exact w_c0
  · exact w_c1
  · exact w_c2
  · exact w_c3
  · exact w_c4
  · exact w_c5
  · exact w_c6
  · exact w_c7
  · exact w_c8
set_option maxRecDepth 65536 in
theorem w_t1 : (words1.take 24).all (fun c => isCode c || c.before args0 about1) = true := by decide +kernel
set_option maxRecDepth 65536 in
theorem w_t2 : ((words1.drop 24).take 24).all (fun c => isCode c || c.before args0 about1) = true := by decide +kernel
set_option maxRecDepth 65536 in
theorem w_t3 : ((words1.drop 24).drop 24).all (fun c => isCode c || c.before args0 about1) = true := by decide +kernel
theorem w_tables : (allAtoms (Jvm.Cond.code x code maxLocals ret :: tables_1)).before args0 about1 = true := by
  rw [allAtoms_all]
  show words1.all (fun c => c.before args0 about1) = true
  refine all_split ?_ w_codes
  rw [← List.take_append_drop 24 words1, List.all_append, w_t1, ← List.take_append_drop 24 (words1.drop 24), List.all_append, w_t2, w_t3]
  rfl
set_option maxRecDepth 65536 in
theorem w_case : (Jvm.Cond.and given_1 narrow_1).before args0 about1 = true := by decide +kernel
theorem w_applies : (headSpec (Jvm.Cond.code x code maxLocals ret :: tables_1) room_1).applies x e0.platform about1 = true :=
  (Spec.applies_iff w_frames).mpr ⟨w_running, w_runnable, w_alone, w_named, w_hears, w_ripe, w_room, w_tables⟩
theorem atStart : AtStart classFile x code maxLocals ret World_1 tables_1 room_1 Calls_1 rest_1 Pre_1 launch0 p0 e0 about1 theMethod args0 below0 :=
  ⟨lists_1, trivial, launch0.admits_env _ _ _, launch0.least_env, fairChoices_fair.cas, fairChoices_fair.clock, w_frames, w_args, w_heap, w_applies, trivial, trivial, w_case⟩
end start1
theorem witness_1 : WitnessClaimed_1 := ⟨start1.p0, start1.e0, start1.about1, start1.theMethod, start1.args0, start1.below0, start1.atStart⟩
end Jvm.Pilot.@@N@@
