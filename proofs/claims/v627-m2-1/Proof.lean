import JvmDerived
import JvmDerived.Pilot.@@N@@Statement
import JvmDerived.Pilot.@@N@@Code
set_option linter.unusedVariables false
set_option linter.unusedSimpArgs false
namespace Jvm.Pilot.@@N@@
open Jvm Jvm.ClassFile Sem Op Lib Jvm.Free Jvm.Stand Jvm.LawKit Jvm.RoadKit Bundle Jvm.Pilot.@@N@@.Jvm.D

def Go (tb : Tables) (e : Env) (below : List Frame) (a : State) (P : Outcome → State → Prop) : Prop := ∃ s₂ o, Steps tb e below a s₂ ∧ s₂.status = .running ∧ Ended s₂ below o ∧ P o s₂
theorem Go.st {tb : Tables} {e : Env} {below : List Frame} {a b : State} {P : Outcome → State → Prop} (h : ∀ t, Steps tb e below b t → Steps tb e below a t) (k : Go tb e below b P) : Go tb e below a P := by
  obtain ⟨s, o, h1, h2⟩ := k
  exact ⟨s, o, h _ h1, h2⟩
theorem Go.tr {tb : Tables} {e : Env} {below : List Frame} {a b : State} {P : Outcome → State → Prop} (h : Steps tb e below a b) (k : Go tb e below b P) : Go tb e below a P := Go.st (fun _ q => h.trans q) k
theorem Go.fr {tb : Tables} {e : Env} {below : List Frame} {T : State} {g g' : JFrame} {P : Outcome → State → Prop} (q : g = g') (k : Go tb e below (T.setTop g') P) : Go tb e below (T.setTop g) P := q ▸ k
theorem Go.fin {tb : Tables} {e : Env} {below : List Frame} {a s₂ : State} {o : Outcome} {P : Outcome → State → Prop} (hs : Steps tb e below a s₂) (hr : s₂.status = .running) (he : Ended s₂ below o) (hP : P o s₂) : Go tb e below a P := ⟨_, _, hs, hr, he, hP⟩
theorem exa_ns {Z : State} {h : Heap} {a : Addr} {C : String} (F : Exa Z h a C) : ∃ c : Cell, h[a]? = some c ∧ c.vm.isStatics = false := by
  obtain ⟨c, _, h1, -, -, h4, -⟩ := F
  exact ⟨c, h1, h4⟩
theorem fld_ns {Z : State} {h : Heap} {a : Addr} {C n d : String} {v : Value} (F : Fld Z h a C n d v) : ∃ c : Cell, h[a]? = some c ∧ c.vm.isStatics = false := by
  obtain ⟨c, _, _, _, _, h1, -, -, -, h4, -⟩ := F
  exact ⟨c, h1, h4⟩
theorem arv_ns {Z : State} {h : Heap} {a : Addr} {k : ClassId} {ty : FieldType} {n : Int32} {vs : List Value} {d : Value} (F : Arv Z h a k ty n vs d) : ∃ c : Cell, h[a]? = some c ∧ c.vm.isStatics = false := by
  obtain ⟨c, A, -⟩ := F
  exact ⟨c, A.1, A.plain⟩
theorem sta_keep {Z : State} {h h' : Heap} {C n d : String} {v : Value} {ws : List Addr} (F : Sta Z h C n d v) (K : Keep h h' ws) (q : ∀ x ∈ ws, ∃ c : Cell, h[x]? = some c ∧ c.vm.isStatics = false) : Sta Z h' C n d v := by
  obtain ⟨cf, i, k, f, st, cell, h1, h2, h3, h4, h5, h6, h7⟩ := F
  refine ⟨cf, i, k, f, st, cell, h1, h2, h3, h4, K.2.1 st cell h5 fun z => ?_, h6, h7⟩
  obtain ⟨c, q1, q2⟩ := q st z
  cases q1.symm.trans h5
  rw [q2] at h6
  cases h6
theorem own_selp {s : State} {args : Array Value} {y : MethodName} {n : Nat} (wi : (Cond.instantiable y.cls n).before args s = true) (hp : s.PrivateAt y) (hi : (Cond.instanceMethod y).before args s = true) (hy : y.cls ≠ "java/lang/invoke/MethodHandle" ∧ y.cls ≠ "java/lang/invoke/VarHandle") : (Cond.selects y.cls y y).before args s = true := by
  obtain ⟨c, k, h1, h2, -, h4, -⟩ := Cond.instantiable_spec wi
  simp only [Bool.or_eq_false_iff] at h4
  exact selects_self_of_private h1 h2 h4.1 hp hi hy
theorem own_ne32 {x k : Int32} {a : Int} (ha : k.toInt = a) (h : ¬ x = k) : a ≠ x.toInt := fun e => h (Int32.toInt_inj.mp (e.symm.trans ha.symm))
theorem own_nn (x : Int32) : 0 ≤ (x &&& (2147483647 : Int32)).toInt := (c_andS x 2147483647).2.2 (by decide)
theorem own_rem (x : Int32) (k : Int32) (d : Int) (hd : k.toInt = d) (h0 : 0 < d) : 0 ≤ ((x &&& (2147483647 : Int32)) % k).toInt ∧ ((x &&& (2147483647 : Int32)) % k).toInt < d := by
  have h := own_nn x
  rw [Int32.toInt_mod, hd]
  exact ⟨Int.tmod_nonneg _ h, Int.tmod_lt_of_pos _ h0⟩
theorem own_remb (x : Int32) (k : Int32) (d : Int) (hd : k.toInt = d) (h0 : 0 < d) : ¬ ((x &&& (2147483647 : Int32)) % k) < 0 ∧ ((x &&& (2147483647 : Int32)) % k) < k := by
  obtain ⟨h1, h2⟩ := own_rem x k d hd h0
  rw [Int32.lt_iff_toInt_lt, Int32.lt_iff_toInt_lt, hd]
  exact ⟨Int.not_lt.mpr h1, h2⟩
def own_at (xs : List Int32) (j : Int32) : Int32 := xs.getD j.toNatClampNeg 0
theorem own_atv (xs : List Int32) (j : Int32) : (xs.map Value.int).getD j.toNatClampNeg (.int 0) = .int (own_at xs j) := by
  unfold own_at
  generalize j.toNatClampNeg = n
  induction xs generalizing n with
  | nil => rfl
  | cons a r ih => cases n with
    | zero => rfl
    | succ n => simpa using ih n
theorem own_setl {l : List Value} {k n : Nat} {v : Value} (h : l.length = n) : (l.set k v).length = n := by rw [List.length_set]; exact h
theorem own_setg {l : List Value} {k : Nat} {v d : Value} (h : k < l.length) : (l.set k v).getD k d = v := by simp [List.getD, List.getElem?_set, h]
theorem own_setn {l : List Value} {k i : Nat} {v d : Value} (h : i ≠ k) : (l.set k v).getD i d = l.getD i d := by simp [List.getD, List.getElem?_set, Ne.symm h]
theorem own_lt_of {l : List Value} {n : Nat} {j z : Int32} (h : l.length = n) (q : ¬ j < 0 ∧ j < z) (hz : z.toNatClampNeg = n := by decide) : j.toNatClampNeg < l.length := by
  rw [h, ← hz]
  obtain ⟨q1, q2⟩ := q
  rw [Int32.lt_iff_toInt_lt] at q1 q2
  have : (0 : Int32).toInt = 0 := rfl
  simp only [Int32.toNatClampNeg]
  omega
theorem own_eqi {args : Array Value} {s : State} {t : Term} {k : Int32} (h : (Jvm.Cond.eq t (.int k)).value args s none s [] = some true) : t.eval args s none [] s = some (.int k) := by
  simp only [Cond.value, Term.eval] at h
  cases ht : t.eval args s none [] s with
  | none => simp [ht] at h
  | some x => cases x <;> simp_all
theorem own_y4 (y : Int32) (h : 0 ≤ y.toInt ∧ y.toInt ≤ 4) (h0 : ¬ y = 0) (h1 : ¬ y = 1) (h2 : ¬ y = 2) (h3 : ¬ y = 3) : y = 4 := by
  have e0 := own_ne32 (a := 0) rfl h0; have e1 := own_ne32 (a := 1) rfl h1; have e2 := own_ne32 (a := 2) rfl h2; have e3 := own_ne32 (a := 3) rfl h3
  apply Int32.toInt_inj.mp
  show y.toInt = 4
  omega
theorem own_rc (x : Int32) : 0 ≤ ((x &&& (2147483647 : Int32)) % (5 : Int32)).toInt ∧ ((x &&& (2147483647 : Int32)) % (5 : Int32)).toInt ≤ 4 := by
  have := own_rem x 5 5 rfl (by decide)
  omega
theorem own_c8 (y : Int32) (h : 0 ≤ y.toInt ∧ y.toInt ≤ 4) : (((y.toInt8.toInt32).toInt8.toInt32) &&& (255 : Int32)) = y := by
  have hc : y.toInt = 0 ∨ y.toInt = 1 ∨ y.toInt = 2 ∨ y.toInt = 3 ∨ y.toInt = 4 := by omega
  rcases hc with hc | hc | hc | hc | hc
  · obtain rfl : y = 0 := Int32.toInt_inj.mp hc
    decide
  · obtain rfl : y = 1 := Int32.toInt_inj.mp hc
    decide
  · obtain rfl : y = 2 := Int32.toInt_inj.mp hc
    decide
  · obtain rfl : y = 3 := Int32.toInt_inj.mp hc
    decide
  · obtain rfl : y = 4 := Int32.toInt_inj.mp hc
    decide
theorem own_add (y : Int32) (k : Int32) (n : Int) (hk : k.toInt = n) (hn : 0 ≤ n ∧ n ≤ 25) (h : 0 ≤ y.toInt ∧ y.toInt < 8) : (y + k).toInt = y.toInt + n := by
  rw [Int32.toInt_add, hk, Int.bmod_eq_of_le (by omega) (by omega)]
theorem own_ib (x : Int32) (k : Int32) (n : Int) (hk : k.toInt = n) (hn : 0 ≤ n ∧ n ≤ 25) : ¬ (((x &&& (2147483647 : Int32)) % (8 : Int32)) + k) < 0 ∧ (((x &&& (2147483647 : Int32)) % (8 : Int32)) + k) < (33 : Int32) := by
  have h := own_rem x 8 8 rfl (by decide)
  rw [Int32.lt_iff_toInt_lt, Int32.lt_iff_toInt_lt, own_add _ k n hk hn h, show (0 : Int32).toInt = 0 from rfl, show (33 : Int32).toInt = 33 from rfl]
  omega
theorem own_ib0 (x : Int32) : ¬ ((x &&& (2147483647 : Int32)) % (8 : Int32)) < 0 ∧ ((x &&& (2147483647 : Int32)) % (8 : Int32)) < (33 : Int32) := by
  have h := own_rem x 8 8 rfl (by decide)
  rw [Int32.lt_iff_toInt_lt, Int32.lt_iff_toInt_lt, show (0 : Int32).toInt = 0 from rfl, show (33 : Int32).toInt = 33 from rfl]
  omega
theorem own_24 (y : Int32) : (y + (25 : Int32)) - (1 : Int32) = y + (24 : Int32) := by
  rw [Int32.sub_eq_add_neg, Int32.add_assoc]
  rfl
theorem d1_0 : decode prog_48_method_23_code 0 = .ok (.aload_n 0, 1) := by decide +kernel
theorem d1_1 : decode prog_48_method_23_code 1 = .ok (.iload_n 1, 1) := by decide +kernel
theorem d1_2 : decode prog_48_method_23_code 2 = .ok (.bipush 25, 2) := by decide +kernel
theorem d1_4 : decode prog_48_method_23_code 4 = .ok (.iadd, 1) := by decide +kernel
theorem d1_5 : decode prog_48_method_23_code 5 = .ok (.iconst 1, 1) := by decide +kernel
theorem d1_6 : decode prog_48_method_23_code 6 = .ok (.isub, 1) := by decide +kernel
theorem d1_7 : decode prog_48_method_23_code 7 = .ok (.baload, 1) := by decide +kernel
theorem d1_8 : decode prog_48_method_23_code 8 = .ok (.sipush 255, 3) := by decide +kernel
theorem d1_11 : decode prog_48_method_23_code 11 = .ok (.iand, 1) := by decide +kernel
theorem d1_12 : decode prog_48_method_23_code 12 = .ok (.istore_n 2, 1) := by decide +kernel
theorem d1_13 : decode prog_48_method_23_code 13 = .ok (.iload_n 2, 1) := by decide +kernel
theorem d1_14 : decode prog_48_method_23_code 14 = .ok (.ifCond .ne 7, 3) := by decide +kernel
theorem d1_17 : decode prog_48_method_23_code 17 = .ok (.aconst_null, 1) := by decide +kernel
theorem d1_18 : decode prog_48_method_23_code 18 = .ok (.goto 10, 3) := by decide +kernel
theorem d1_28 : decode prog_48_method_23_code 28 = .ok (.areturn, 1) := by decide +kernel
theorem d1_21 : decode prog_48_method_23_code 21 = .ok (.getstatic 251, 3) := by decide +kernel
theorem wd10 {Z : State} {a0 : Array Value} (hw : ∀ d ∈ tables_1, d.before a0 Z = true) : (Jvm.Cond.fieldLink "com/example/piece/piece/store/SpanRecord" (251 : Nat) "com/example/piece/piece/store/SpanRecord" "KINDS" "[Lcom/example/piece/piece/span/Span$Kind;").before a0 Z = true := hw _ (List.mem_of_getElem? (i := 10) rfl)
theorem d1_24 : decode prog_48_method_23_code 24 = .ok (.iload_n 2, 1) := by decide +kernel
theorem d1_25 : decode prog_48_method_23_code 25 = .ok (.iconst 1, 1) := by decide +kernel
theorem d1_26 : decode prog_48_method_23_code 26 = .ok (.isub, 1) := by decide +kernel
theorem d1_27 : decode prog_48_method_23_code 27 = .ok (.aaload, 1) := by decide +kernel
theorem pn0 : plainName "com/example/piece/piece/store/SpanRecord" = true := by first | (simp [plainName, overriddenIn]; done) | decide +kernel
def f1 (y0 : Addr) (y1 : Addr) (y2 : Addr) (y3 : Addr) (y : Int32) : Value := (if y = (0 : Int32) then .null else (if y = (1 : Int32) then (.ref y0) else (if y = (2 : Int32) then (.ref y1) else (if y = (3 : Int32) then (.ref y2) else (.ref y3)))))
theorem f1_ref (y0 : Addr) (y1 : Addr) (y2 : Addr) (y3 : Addr) (y : Int32) : (f1 y0 y1 y2 y3 y).isRef = true := by
  unfold f1
  repeat' split
  all_goals first | rfl | assumption
def Q1 (Z : State) (a1 : Addr) (p2 : Int32) (w_KINDS : Addr) (k_K : ClassId) (y0 : Addr) (y1 : Addr) (y2 : Addr) (y3 : Addr) (k_a : ClassId) (vs : List Value) (x : Int32) (y : Int32) (h0 : Heap) (n0 : Nat) (v : Option Value) (h : Heap) (L : List Loc) : Prop := v = some (f1 y0 y1 y2 y3 y) ∧ Fr n0 L ∧ h = h0
theorem ef1 (m : MethodId) (x0 : Addr) (x1 : Int32) : entryFrame m #[(.ref x0), (.int x1)] 3 = mkF m 0 #[.val (.ref x0), .val (.int x1), .unset] [] := by first | (simp [entryFrame, mkF, argsToLocals, Value.category]; done) | rfl
set_option maxRecDepth 65536 in
set_option maxHeartbeats 16000000 in
theorem rm1 (l : Launch) (Z : State) (a0 : Array Value) (hw : ∀ d ∈ tables_1, d.before a0 Z = true) (ws : List Jvm.Cond) (a1 : Addr) (p2 : Int32) (w_KINDS : Addr) (k_K : ClassId) (y0 : Addr) (y1 : Addr) (y2 : Addr) (y3 : Addr) (k_a : ClassId) (vs : List Value) (x : Int32) (y : Int32) (h0 : Heap) (n0 : Nat) (Z0 : n0 ≤ h0.size) (S_KINDS : Sta Z h0 "com/example/piece/piece/store/SpanRecord" "KINDS" "[Lcom/example/piece/piece/span/Span$Kind;" (.ref w_KINDS)) (V_KINDS : Arv Z h0 w_KINDS k_K (.object "com/example/piece/piece/span/Span$Kind") (4 : Int32) [(.ref y0), (.ref y1), (.ref y2), (.ref y3)] .null) (V_a1 : Arv Z h0 a1 k_a .byte (33 : Int32) vs (.int (0 : Int32))) (hib : ¬ ((p2 + (25 : Int32)) - (1 : Int32)) < 0 ∧ ((p2 + (25 : Int32)) - (1 : Int32)) < (33 : Int32)) (hat : vs.getD ((p2 + (25 : Int32)) - (1 : Int32)).toNatClampNeg (.int (0 : Int32)) = .int x) (hxy : (x &&& (255 : Int32)) = y) (hy : 0 ≤ y.toInt ∧ y.toInt ≤ 4) :
    MetFree l (⟨"com/example/piece/piece/store/SpanRecord", "kind", "([BI)Lcom/example/piece/piece/span/Span$Kind;"⟩ : MethodName) (head1 (Jvm.Cond.code (⟨"com/example/piece/piece/store/SpanRecord", "kind", "([BI)Lcom/example/piece/piece/span/Span$Kind;"⟩ : MethodName) prog_48_method_23_code 3 (some (.object "com/example/piece/piece/span/Span$Kind")) :: ws) ({ frames := 0, cells := 0, slots := 0, locals := 0 } : Room)) (fun a U => a = #[(.ref a1), (.int p2)] ∧ Z.Warmed39 U.vm ∧ U.heap = h0) (fun _ _ _ _ _ => True) (fun _ U o U' => ∃ v L, o = .returned v ∧ Q1 Z a1 p2 w_KINDS k_K y0 y1 y2 y3 k_a vs x y h0 n0 v U'.heap L ∧ FrameEnd U o U' L ({ frames := 0, cells := 0, slots := 0, locals := 0 } : Room).cells ({ frames := 0, cells := 0, slots := 0, locals := 0 } : Room).slots) := by
  refine MetFree.of_bodySF (plainFor_of_name pn0) hisR ?_
  intro p e s m args below meth c s₁ Bd hml0 hP hK
  obtain ⟨rfl, hZ, hh⟩ := hP
  have hx := Bd.exec
  have hby := Bd.bytes
  have hml : c.maxLocals = 3 := hml0
  have hown : s.vm.findClass "com/example/piece/piece/store/SpanRecord" = some m.cls := findClass_of_methodNamed Bd.named
  have hnm := (name_of_methodNamed Bd.named Bd.method).1
  have X0 : Stand p l e ({ frames := 0, cells := 0, slots := 0, locals := 0 } : Room) s m #[(.ref a1), (.int p2)] below meth c s₁ [] 0 0 := Stand.of_body Bd
  have e0 : s₁.heap = h0 := by rw [← hh, Bd.state]; rfl
  have N0 := Fr.nil n0
  have K0 : Keep h0 h0 [] := Keep.refl h0 _
  refine Go.st (P := fun o U' => ∃ v L, o = .returned v ∧ Q1 Z a1 p2 w_KINDS k_K y0 y1 y2 y3 k_a vs x y h0 n0 v U'.heap L ∧ FrameEnd s o U' L ({ frames := 0, cells := 0, slots := 0, locals := 0 } : Room).cells ({ frames := 0, cells := 0, slots := 0, locals := 0 } : Room).slots) (fun t k => castTop (ef1 m a1 p2) k) ?_
  show Go _ _ _ (s₁.setTop (mkF m 0 #[.val (.ref a1), .val (.int p2), .unset] [])) _
  refine Go.st (fun t k => XS.aloadN X0.here hx rfl (hb hby d1_0) rfl rfl k) ?_
  refine Go.st (fun t k => XS.iloadN X0.here hx rfl (hb hby d1_1) rfl k) ?_
  refine Go.st (fun t k => XS.bipush X0.here hx rfl (hb hby d1_2) k) ?_
  refine Go.st (fun t k => XS.iadd X0.here hx rfl (hb hby d1_4) rfl k) ?_
  show Go _ _ _ (s₁.setTop (mkF m 5 #[.val (.ref a1), .val (.int p2), .unset] [(.int (p2 + (25 : Int32))), (.ref a1)])) _
  refine Go.st (fun t k => XS.iconst X0.here hx rfl (hb hby d1_5) k) ?_
  refine Go.st (fun t k => XS.isub X0.here hx rfl (hb hby d1_6) rfl k) ?_
  show Go _ _ _ (s₁.setTop (mkF m 7 #[.val (.ref a1), .val (.int p2), .unset] [(.int ((p2 + (25 : Int32)) - (1 : Int32))), (.ref a1)])) _
  obtain ⟨cl1, Ar1, -, Sz1, Ng1, Hs1, -⟩ := id V_a1
  have hin1 : ¬ (((p2 + (25 : Int32)) - (1 : Int32)) < 0 ∨ cl1.slots.size ≤ (((p2 + (25 : Int32)) - (1 : Int32))).toNatClampNeg) := inb_of Sz1 hib
  refine Go.st (fun t k => X0.baloadBytes hx (j := ((p2 + (25 : Int32)) - (1 : Int32))) (v := (.int x)) (by rw [e0]; exact Ar1.1) (State.isArrayOf_alike hZ.alike Ar1.2.1) Ar1.2.2 hin1 (Has.at Hs1 hin1 hat) (g := (mkF m 7 #[.val (.ref a1), .val (.int p2), .unset] [(.int ((p2 + (25 : Int32)) - (1 : Int32))), (.ref a1)])) rfl rfl (hb hby d1_7) _ k) ?_
  show Go _ _ _ (s₁.setTop (mkF m 8 #[.val (.ref a1), .val (.int p2), .unset] [(.int x)])) _
  refine Go.st (fun t k => XS.sipush X0.here hx rfl (hb hby d1_8) k) ?_
  refine Go.st (fun t k => XS.iand X0.here hx rfl (hb hby d1_11) rfl k) ?_
  show Go _ _ _ (s₁.setTop (mkF m 12 #[.val (.ref a1), .val (.int p2), .unset] [(.int (x &&& (255 : Int32)))])) _
  refine Go.st (fun t k => XS.istoreN X0.here hx rfl (hb hby d1_12) rfl (l' := #[.val (.ref a1), .val (.int p2), .val (.int (x &&& (255 : Int32)))]) rfl k) ?_
  show Go _ _ _ (s₁.setTop (mkF m 13 #[.val (.ref a1), .val (.int p2), .val (.int (x &&& (255 : Int32)))] [])) _
  rw [hxy]
  show Go _ _ _ (s₁.setTop (mkF m 13 #[.val (.ref a1), .val (.int p2), .val (.int y)] [])) _
  by_cases hc2 : y = (0 : Int32)
  · refine Go.fr (g' := (mkF m 13 #[.val (.ref a1), .val (.int p2), .val (.int 0)] [])) (by rw [hc2]) ?_
    show Go _ _ _ (s₁.setTop (mkF m 13 #[.val (.ref a1), .val (.int p2), .val (.int 0)] [])) _
    refine Go.st (fun t k => XS.iloadN X0.here hx rfl (hb hby d1_13) rfl k) ?_
    refine Go.st (fun t k => XS.ifNo X0.here hx rfl (hb hby d1_14) rfl ((if0 _ _).trans (teq (by decide : (0 : Int32) = (0 : Int32))).2) k) ?_
    show Go _ _ _ (s₁.setTop (mkF m 17 #[.val (.ref a1), .val (.int p2), .val (.int 0)] [])) _
    refine Go.st (fun t k => XS.aconstNull X0.here hx rfl (hb hby d1_17) k) ?_
    refine Go.st (fun t k => XS.goto X0.here hx rfl (pc0 := 18) (pc' := 28) rfl (hb hby d1_18) (by decide) (by decide) k) ?_
    obtain ⟨fs, hr, hrun, hended, hW, hsame⟩ := X0.leave (v := some .null) (fun h => by rw [Bd.returns] at h; cases h)
    refine Go.fin (retOut X0 hx Bd.returns rfl (Or.inr (Or.inr (Or.inr (Or.inr ⟨rfl, rfl, rfl⟩)))) (hb hby d1_28) hr) hrun hended ⟨_, _, rfl, ?_, ⟨_, rfl⟩, hW, hsame.mono (by decide) (by decide)⟩
    show Q1 Z a1 p2 w_KINDS k_K y0 y1 y2 y3 k_a vs x y h0 n0 _ s₁.heap _
    rw [e0]
    exact ⟨(by unfold f1; simp only [if_pos hc2]), N0, rfl⟩
  · by_cases hc3 : y = (1 : Int32)
    · refine Go.fr (g' := (mkF m 13 #[.val (.ref a1), .val (.int p2), .val (.int 1)] [])) (by rw [hc3]) ?_
      show Go _ _ _ (s₁.setTop (mkF m 13 #[.val (.ref a1), .val (.int p2), .val (.int 1)] [])) _
      refine Go.st (fun t k => XS.iloadN X0.here hx rfl (hb hby d1_13) rfl k) ?_
      refine Go.st (fun t k => XS.ifYes X0.here hx rfl (pc0 := 14) (pc' := 21) rfl (hb hby d1_14) rfl ((if0 _ _).trans (feq (by decide : ¬ ((1 : Int32) = (0 : Int32)))).2) (by decide) (by decide) k) ?_
      show Go _ _ _ (s₁.setTop (mkF m 21 #[.val (.ref a1), .val (.int p2), .val (.int 1)] [])) _
      obtain ⟨T4, X4, e4, st4⟩ := getS2 X0 hx hZ hown (host := "") (Or.inl (wd10 hw)) Via.refl e0 S_KINDS (g := (mkF m 21 #[.val (.ref a1), .val (.int p2), .val (.int 1)] [])) rfl (hb hby d1_21)
      refine Go.st st4 ?_
      show Go _ _ _ (T4.setTop (mkF m 24 #[.val (.ref a1), .val (.int p2), .val (.int 1)] [(.ref w_KINDS)])) _
      refine Go.st (fun t k => XS.iloadN X4.here hx rfl (hb hby d1_24) rfl k) ?_
      refine Go.st (fun t k => XS.iconst X4.here hx rfl (hb hby d1_25) k) ?_
      refine Go.st (fun t k => XS.isub X4.here hx rfl (hb hby d1_26) rfl k) ?_
      show Go _ _ _ (T4.setTop (mkF m 27 #[.val (.ref a1), .val (.int p2), .val (.int 1)] [(.int 0), (.ref w_KINDS)])) _
      obtain ⟨cl5, Ar5, -, Sz5, Ng5, Hs5, -⟩ := id V_KINDS
      have hin5 : ¬ ((0 : Int32) < 0 ∨ cl5.slots.size ≤ ((0 : Int32)).toNatClampNeg) := inb_of Sz5 ⟨by decide, by decide⟩
      refine Go.st (fun t k => X4.aaload hx (j := (0 : Int32)) (v := (.ref y0)) (by rw [e4]; exact Ar5.1) (State.isArrayOf_alike hZ.alike Ar5.2.1) rfl Ar5.2.2 hin5 (Has.at Hs5 hin5 rfl) (g := (mkF m 27 #[.val (.ref a1), .val (.int p2), .val (.int 1)] [(.int 0), (.ref w_KINDS)])) rfl rfl (hb hby d1_27) _ k) ?_
      show Go _ _ _ (T4.setTop (mkF m 28 #[.val (.ref a1), .val (.int p2), .val (.int 1)] [(.ref y0)])) _
      obtain ⟨fs, hr, hrun, hended, hW, hsame⟩ := X4.leave (v := some (.ref y0)) (fun h => by rw [Bd.returns] at h; cases h)
      refine Go.fin (retOut X4 hx Bd.returns rfl (Or.inr (Or.inr (Or.inr (Or.inr ⟨rfl, rfl, rfl⟩)))) (hb hby d1_28) hr) hrun hended ⟨_, _, rfl, ?_, ⟨_, rfl⟩, hW, hsame.mono (by decide) (by decide)⟩
      show Q1 Z a1 p2 w_KINDS k_K y0 y1 y2 y3 k_a vs x y h0 n0 _ T4.heap _
      rw [e4]
      exact ⟨(by unfold f1; simp only [if_neg hc2, if_pos hc3]), N0, rfl⟩
    · by_cases hc6 : y = (2 : Int32)
      · refine Go.fr (g' := (mkF m 13 #[.val (.ref a1), .val (.int p2), .val (.int 2)] [])) (by rw [hc6]) ?_
        show Go _ _ _ (s₁.setTop (mkF m 13 #[.val (.ref a1), .val (.int p2), .val (.int 2)] [])) _
        refine Go.st (fun t k => XS.iloadN X0.here hx rfl (hb hby d1_13) rfl k) ?_
        refine Go.st (fun t k => XS.ifYes X0.here hx rfl (pc0 := 14) (pc' := 21) rfl (hb hby d1_14) rfl ((if0 _ _).trans (feq (by decide : ¬ ((2 : Int32) = (0 : Int32)))).2) (by decide) (by decide) k) ?_
        show Go _ _ _ (s₁.setTop (mkF m 21 #[.val (.ref a1), .val (.int p2), .val (.int 2)] [])) _
        obtain ⟨T7, X7, e7, st7⟩ := getS2 X0 hx hZ hown (host := "") (Or.inl (wd10 hw)) Via.refl e0 S_KINDS (g := (mkF m 21 #[.val (.ref a1), .val (.int p2), .val (.int 2)] [])) rfl (hb hby d1_21)
        refine Go.st st7 ?_
        show Go _ _ _ (T7.setTop (mkF m 24 #[.val (.ref a1), .val (.int p2), .val (.int 2)] [(.ref w_KINDS)])) _
        refine Go.st (fun t k => XS.iloadN X7.here hx rfl (hb hby d1_24) rfl k) ?_
        refine Go.st (fun t k => XS.iconst X7.here hx rfl (hb hby d1_25) k) ?_
        refine Go.st (fun t k => XS.isub X7.here hx rfl (hb hby d1_26) rfl k) ?_
        show Go _ _ _ (T7.setTop (mkF m 27 #[.val (.ref a1), .val (.int p2), .val (.int 2)] [(.int 1), (.ref w_KINDS)])) _
        obtain ⟨cl8, Ar8, -, Sz8, Ng8, Hs8, -⟩ := id V_KINDS
        have hin8 : ¬ ((1 : Int32) < 0 ∨ cl8.slots.size ≤ ((1 : Int32)).toNatClampNeg) := inb_of Sz8 ⟨by decide, by decide⟩
        refine Go.st (fun t k => X7.aaload hx (j := (1 : Int32)) (v := (.ref y1)) (by rw [e7]; exact Ar8.1) (State.isArrayOf_alike hZ.alike Ar8.2.1) rfl Ar8.2.2 hin8 (Has.at Hs8 hin8 rfl) (g := (mkF m 27 #[.val (.ref a1), .val (.int p2), .val (.int 2)] [(.int 1), (.ref w_KINDS)])) rfl rfl (hb hby d1_27) _ k) ?_
        show Go _ _ _ (T7.setTop (mkF m 28 #[.val (.ref a1), .val (.int p2), .val (.int 2)] [(.ref y1)])) _
        obtain ⟨fs, hr, hrun, hended, hW, hsame⟩ := X7.leave (v := some (.ref y1)) (fun h => by rw [Bd.returns] at h; cases h)
        refine Go.fin (retOut X7 hx Bd.returns rfl (Or.inr (Or.inr (Or.inr (Or.inr ⟨rfl, rfl, rfl⟩)))) (hb hby d1_28) hr) hrun hended ⟨_, _, rfl, ?_, ⟨_, rfl⟩, hW, hsame.mono (by decide) (by decide)⟩
        show Q1 Z a1 p2 w_KINDS k_K y0 y1 y2 y3 k_a vs x y h0 n0 _ T7.heap _
        rw [e7]
        exact ⟨(by unfold f1; simp only [if_neg hc2, if_neg hc3, if_pos hc6]), N0, rfl⟩
      · by_cases hc9 : y = (3 : Int32)
        · refine Go.fr (g' := (mkF m 13 #[.val (.ref a1), .val (.int p2), .val (.int 3)] [])) (by rw [hc9]) ?_
          show Go _ _ _ (s₁.setTop (mkF m 13 #[.val (.ref a1), .val (.int p2), .val (.int 3)] [])) _
          refine Go.st (fun t k => XS.iloadN X0.here hx rfl (hb hby d1_13) rfl k) ?_
          refine Go.st (fun t k => XS.ifYes X0.here hx rfl (pc0 := 14) (pc' := 21) rfl (hb hby d1_14) rfl ((if0 _ _).trans (feq (by decide : ¬ ((3 : Int32) = (0 : Int32)))).2) (by decide) (by decide) k) ?_
          show Go _ _ _ (s₁.setTop (mkF m 21 #[.val (.ref a1), .val (.int p2), .val (.int 3)] [])) _
          obtain ⟨T10, X10, e10, st10⟩ := getS2 X0 hx hZ hown (host := "") (Or.inl (wd10 hw)) Via.refl e0 S_KINDS (g := (mkF m 21 #[.val (.ref a1), .val (.int p2), .val (.int 3)] [])) rfl (hb hby d1_21)
          refine Go.st st10 ?_
          show Go _ _ _ (T10.setTop (mkF m 24 #[.val (.ref a1), .val (.int p2), .val (.int 3)] [(.ref w_KINDS)])) _
          refine Go.st (fun t k => XS.iloadN X10.here hx rfl (hb hby d1_24) rfl k) ?_
          refine Go.st (fun t k => XS.iconst X10.here hx rfl (hb hby d1_25) k) ?_
          refine Go.st (fun t k => XS.isub X10.here hx rfl (hb hby d1_26) rfl k) ?_
          show Go _ _ _ (T10.setTop (mkF m 27 #[.val (.ref a1), .val (.int p2), .val (.int 3)] [(.int 2), (.ref w_KINDS)])) _
          obtain ⟨cl11, Ar11, -, Sz11, Ng11, Hs11, -⟩ := id V_KINDS
          have hin11 : ¬ ((2 : Int32) < 0 ∨ cl11.slots.size ≤ ((2 : Int32)).toNatClampNeg) := inb_of Sz11 ⟨by decide, by decide⟩
          refine Go.st (fun t k => X10.aaload hx (j := (2 : Int32)) (v := (.ref y2)) (by rw [e10]; exact Ar11.1) (State.isArrayOf_alike hZ.alike Ar11.2.1) rfl Ar11.2.2 hin11 (Has.at Hs11 hin11 rfl) (g := (mkF m 27 #[.val (.ref a1), .val (.int p2), .val (.int 3)] [(.int 2), (.ref w_KINDS)])) rfl rfl (hb hby d1_27) _ k) ?_
          show Go _ _ _ (T10.setTop (mkF m 28 #[.val (.ref a1), .val (.int p2), .val (.int 3)] [(.ref y2)])) _
          obtain ⟨fs, hr, hrun, hended, hW, hsame⟩ := X10.leave (v := some (.ref y2)) (fun h => by rw [Bd.returns] at h; cases h)
          refine Go.fin (retOut X10 hx Bd.returns rfl (Or.inr (Or.inr (Or.inr (Or.inr ⟨rfl, rfl, rfl⟩)))) (hb hby d1_28) hr) hrun hended ⟨_, _, rfl, ?_, ⟨_, rfl⟩, hW, hsame.mono (by decide) (by decide)⟩
          show Q1 Z a1 p2 w_KINDS k_K y0 y1 y2 y3 k_a vs x y h0 n0 _ T10.heap _
          rw [e10]
          exact ⟨(by unfold f1; simp only [if_neg hc2, if_neg hc3, if_neg hc6, if_pos hc9]), N0, rfl⟩
        · have h4 := own_y4 y hy hc2 hc3 hc6 hc9
          refine Go.fr (g' := (mkF m 13 #[.val (.ref a1), .val (.int p2), .val (.int 4)] [])) (by rw [h4]) ?_
          show Go _ _ _ (s₁.setTop (mkF m 13 #[.val (.ref a1), .val (.int p2), .val (.int 4)] [])) _
          refine Go.st (fun t k => XS.iloadN X0.here hx rfl (hb hby d1_13) rfl k) ?_
          refine Go.st (fun t k => XS.ifYes X0.here hx rfl (pc0 := 14) (pc' := 21) rfl (hb hby d1_14) rfl ((if0 _ _).trans (feq (by decide : ¬ ((4 : Int32) = (0 : Int32)))).2) (by decide) (by decide) k) ?_
          show Go _ _ _ (s₁.setTop (mkF m 21 #[.val (.ref a1), .val (.int p2), .val (.int 4)] [])) _
          obtain ⟨T12, X12, e12, st12⟩ := getS2 X0 hx hZ hown (host := "") (Or.inl (wd10 hw)) Via.refl e0 S_KINDS (g := (mkF m 21 #[.val (.ref a1), .val (.int p2), .val (.int 4)] [])) rfl (hb hby d1_21)
          refine Go.st st12 ?_
          show Go _ _ _ (T12.setTop (mkF m 24 #[.val (.ref a1), .val (.int p2), .val (.int 4)] [(.ref w_KINDS)])) _
          refine Go.st (fun t k => XS.iloadN X12.here hx rfl (hb hby d1_24) rfl k) ?_
          refine Go.st (fun t k => XS.iconst X12.here hx rfl (hb hby d1_25) k) ?_
          refine Go.st (fun t k => XS.isub X12.here hx rfl (hb hby d1_26) rfl k) ?_
          show Go _ _ _ (T12.setTop (mkF m 27 #[.val (.ref a1), .val (.int p2), .val (.int 4)] [(.int 3), (.ref w_KINDS)])) _
          obtain ⟨cl13, Ar13, -, Sz13, Ng13, Hs13, -⟩ := id V_KINDS
          have hin13 : ¬ ((3 : Int32) < 0 ∨ cl13.slots.size ≤ ((3 : Int32)).toNatClampNeg) := inb_of Sz13 ⟨by decide, by decide⟩
          refine Go.st (fun t k => X12.aaload hx (j := (3 : Int32)) (v := (.ref y3)) (by rw [e12]; exact Ar13.1) (State.isArrayOf_alike hZ.alike Ar13.2.1) rfl Ar13.2.2 hin13 (Has.at Hs13 hin13 rfl) (g := (mkF m 27 #[.val (.ref a1), .val (.int p2), .val (.int 4)] [(.int 3), (.ref w_KINDS)])) rfl rfl (hb hby d1_27) _ k) ?_
          show Go _ _ _ (T12.setTop (mkF m 28 #[.val (.ref a1), .val (.int p2), .val (.int 4)] [(.ref y3)])) _
          obtain ⟨fs, hr, hrun, hended, hW, hsame⟩ := X12.leave (v := some (.ref y3)) (fun h => by rw [Bd.returns] at h; cases h)
          refine Go.fin (retOut X12 hx Bd.returns rfl (Or.inr (Or.inr (Or.inr (Or.inr ⟨rfl, rfl, rfl⟩)))) (hb hby d1_28) hr) hrun hended ⟨_, _, rfl, ?_, ⟨_, rfl⟩, hW, hsame.mono (by decide) (by decide)⟩
          show Q1 Z a1 p2 w_KINDS k_K y0 y1 y2 y3 k_a vs x y h0 n0 _ T12.heap _
          rw [e12]
          exact ⟨(by unfold f1; simp only [if_neg hc2, if_neg hc3, if_neg hc6, if_neg hc9]), N0, rfl⟩
theorem d2_0 : decode method_3_code 0 = .ok (.iload_n 0, 1) := by decide +kernel
theorem d2_1 : decode method_3_code 1 = .ok (.ifCond .ne 5, 3) := by decide +kernel
theorem d2_4 : decode method_3_code 4 = .ok (.aconst_null, 1) := by decide +kernel
theorem d2_5 : decode method_3_code 5 = .ok (.areturn, 1) := by decide +kernel
theorem d2_6 : decode method_3_code 6 = .ok (.iload_n 0, 1) := by decide +kernel
theorem d2_7 : decode method_3_code 7 = .ok (.iconst 1, 1) := by decide +kernel
theorem d2_8 : decode method_3_code 8 = .ok (.if_icmp .ne 7, 3) := by decide +kernel
theorem d2_11 : decode method_3_code 11 = .ok (.getstatic 20, 3) := by decide +kernel
theorem wd20 {Z : State} {a0 : Array Value} (hw : ∀ d ∈ tables_1, d.before a0 Z = true) : (Jvm.Cond.fieldLink "com/example/piece/piece/store/SpanRecordKindPinLaw" (20 : Nat) "com/example/piece/piece/span/Span$Kind" "CLIENT" "Lcom/example/piece/piece/span/Span$Kind;").before a0 Z = true := hw _ (List.mem_of_getElem? (i := 20) rfl)
theorem d2_14 : decode method_3_code 14 = .ok (.areturn, 1) := by decide +kernel
theorem d2_15 : decode method_3_code 15 = .ok (.iload_n 0, 1) := by decide +kernel
theorem d2_16 : decode method_3_code 16 = .ok (.iconst 2, 1) := by decide +kernel
theorem d2_17 : decode method_3_code 17 = .ok (.if_icmp .ne 7, 3) := by decide +kernel
theorem d2_20 : decode method_3_code 20 = .ok (.getstatic 26, 3) := by decide +kernel
theorem wd18 {Z : State} {a0 : Array Value} (hw : ∀ d ∈ tables_1, d.before a0 Z = true) : (Jvm.Cond.fieldLink "com/example/piece/piece/store/SpanRecordKindPinLaw" (26 : Nat) "com/example/piece/piece/span/Span$Kind" "SERVER" "Lcom/example/piece/piece/span/Span$Kind;").before a0 Z = true := hw _ (List.mem_of_getElem? (i := 18) rfl)
theorem d2_23 : decode method_3_code 23 = .ok (.areturn, 1) := by decide +kernel
theorem d2_24 : decode method_3_code 24 = .ok (.iload_n 0, 1) := by decide +kernel
theorem d2_25 : decode method_3_code 25 = .ok (.iconst 3, 1) := by decide +kernel
theorem d2_26 : decode method_3_code 26 = .ok (.if_icmp .ne 7, 3) := by decide +kernel
theorem d2_29 : decode method_3_code 29 = .ok (.getstatic 29, 3) := by decide +kernel
theorem wd16 {Z : State} {a0 : Array Value} (hw : ∀ d ∈ tables_1, d.before a0 Z = true) : (Jvm.Cond.fieldLink "com/example/piece/piece/store/SpanRecordKindPinLaw" (29 : Nat) "com/example/piece/piece/span/Span$Kind" "PRODUCER" "Lcom/example/piece/piece/span/Span$Kind;").before a0 Z = true := hw _ (List.mem_of_getElem? (i := 16) rfl)
theorem d2_32 : decode method_3_code 32 = .ok (.areturn, 1) := by decide +kernel
theorem d2_33 : decode method_3_code 33 = .ok (.getstatic 32, 3) := by decide +kernel
theorem wd14 {Z : State} {a0 : Array Value} (hw : ∀ d ∈ tables_1, d.before a0 Z = true) : (Jvm.Cond.fieldLink "com/example/piece/piece/store/SpanRecordKindPinLaw" (32 : Nat) "com/example/piece/piece/span/Span$Kind" "CONSUMER" "Lcom/example/piece/piece/span/Span$Kind;").before a0 Z = true := hw _ (List.mem_of_getElem? (i := 14) rfl)
theorem d2_36 : decode method_3_code 36 = .ok (.areturn, 1) := by decide +kernel
theorem pn1 : plainName "com/example/piece/piece/store/SpanRecordKindPinLaw" = true := by first | (simp [plainName, overriddenIn]; done) | decide +kernel
def f2 (p1 : Int32) (w_CLIENT : Addr) (w_SERVER : Addr) (w_PRODUCER : Addr) (w_CONSUMER : Addr) : Value := (if p1 = (0 : Int32) then .null else (if p1 = (1 : Int32) then (.ref w_CLIENT) else (if p1 = (2 : Int32) then (.ref w_SERVER) else (if p1 = (3 : Int32) then (.ref w_PRODUCER) else (.ref w_CONSUMER)))))
theorem f2_ref (p1 : Int32) (w_CLIENT : Addr) (w_SERVER : Addr) (w_PRODUCER : Addr) (w_CONSUMER : Addr) : (f2 p1 w_CLIENT w_SERVER w_PRODUCER w_CONSUMER).isRef = true := by
  unfold f2
  repeat' split
  all_goals first | rfl | assumption
def Q2 (Z : State) (p1 : Int32) (w_CLIENT : Addr) (w_SERVER : Addr) (w_PRODUCER : Addr) (w_CONSUMER : Addr) (h0 : Heap) (n0 : Nat) (v : Option Value) (h : Heap) (L : List Loc) : Prop := v = some (f2 p1 w_CLIENT w_SERVER w_PRODUCER w_CONSUMER) ∧ Fr n0 L ∧ h = h0
theorem ef2 (m : MethodId) (x0 : Int32) : entryFrame m #[(.int x0)] 1 = mkF m 0 #[.val (.int x0)] [] := by first | (simp [entryFrame, mkF, argsToLocals, Value.category]; done) | rfl
set_option maxRecDepth 65536 in
set_option maxHeartbeats 16000000 in
theorem rm2 (l : Launch) (Z : State) (a0 : Array Value) (hw : ∀ d ∈ tables_1, d.before a0 Z = true) (ws : List Jvm.Cond) (p1 : Int32) (w_CLIENT : Addr) (w_SERVER : Addr) (w_PRODUCER : Addr) (w_CONSUMER : Addr) (h0 : Heap) (n0 : Nat) (Z0 : n0 ≤ h0.size) (S_CLIENT : Sta Z h0 "com/example/piece/piece/span/Span$Kind" "CLIENT" "Lcom/example/piece/piece/span/Span$Kind;" (.ref w_CLIENT)) (E_w_CLIENT : Exa Z h0 w_CLIENT "com/example/piece/piece/span/Span$Kind") (S_SERVER : Sta Z h0 "com/example/piece/piece/span/Span$Kind" "SERVER" "Lcom/example/piece/piece/span/Span$Kind;" (.ref w_SERVER)) (E_w_SERVER : Exa Z h0 w_SERVER "com/example/piece/piece/span/Span$Kind") (S_PRODUCER : Sta Z h0 "com/example/piece/piece/span/Span$Kind" "PRODUCER" "Lcom/example/piece/piece/span/Span$Kind;" (.ref w_PRODUCER)) (E_w_PRODUCER : Exa Z h0 w_PRODUCER "com/example/piece/piece/span/Span$Kind") (S_CONSUMER : Sta Z h0 "com/example/piece/piece/span/Span$Kind" "CONSUMER" "Lcom/example/piece/piece/span/Span$Kind;" (.ref w_CONSUMER)) (E_w_CONSUMER : Exa Z h0 w_CONSUMER "com/example/piece/piece/span/Span$Kind") :
    MetFree l (⟨"com/example/piece/piece/store/SpanRecordKindPinLaw", "expected", "(I)Lcom/example/piece/piece/span/Span$Kind;"⟩ : MethodName) (head1 (Jvm.Cond.code (⟨"com/example/piece/piece/store/SpanRecordKindPinLaw", "expected", "(I)Lcom/example/piece/piece/span/Span$Kind;"⟩ : MethodName) method_3_code 1 (some (.object "com/example/piece/piece/span/Span$Kind")) :: ws) ({ frames := 0, cells := 0, slots := 0, locals := 0 } : Room)) (fun a U => a = #[(.int p1)] ∧ Z.Warmed39 U.vm ∧ U.heap = h0) (fun _ _ _ _ _ => True) (fun _ U o U' => ∃ v L, o = .returned v ∧ Q2 Z p1 w_CLIENT w_SERVER w_PRODUCER w_CONSUMER h0 n0 v U'.heap L ∧ FrameEnd U o U' L ({ frames := 0, cells := 0, slots := 0, locals := 0 } : Room).cells ({ frames := 0, cells := 0, slots := 0, locals := 0 } : Room).slots) := by
  refine MetFree.of_bodySF (plainFor_of_name pn1) hisR ?_
  intro p e s m args below meth c s₁ Bd hml0 hP hK
  obtain ⟨rfl, hZ, hh⟩ := hP
  have hx := Bd.exec
  have hby := Bd.bytes
  have hml : c.maxLocals = 1 := hml0
  have hown : s.vm.findClass "com/example/piece/piece/store/SpanRecordKindPinLaw" = some m.cls := findClass_of_methodNamed Bd.named
  have hnm := (name_of_methodNamed Bd.named Bd.method).1
  have X0 : Stand p l e ({ frames := 0, cells := 0, slots := 0, locals := 0 } : Room) s m #[(.int p1)] below meth c s₁ [] 0 0 := Stand.of_body Bd
  have e0 : s₁.heap = h0 := by rw [← hh, Bd.state]; rfl
  have N0 := Fr.nil n0
  have K0 : Keep h0 h0 [] := Keep.refl h0 _
  refine Go.st (P := fun o U' => ∃ v L, o = .returned v ∧ Q2 Z p1 w_CLIENT w_SERVER w_PRODUCER w_CONSUMER h0 n0 v U'.heap L ∧ FrameEnd s o U' L ({ frames := 0, cells := 0, slots := 0, locals := 0 } : Room).cells ({ frames := 0, cells := 0, slots := 0, locals := 0 } : Room).slots) (fun t k => castTop (ef2 m p1) k) ?_
  show Go _ _ _ (s₁.setTop (mkF m 0 #[.val (.int p1)] [])) _
  refine Go.st (fun t k => XS.iloadN X0.here hx rfl (hb hby d2_0) rfl k) ?_
  by_cases hc1 : p1 = (0 : Int32)
  · refine Go.st (fun t k => XS.ifNo X0.here hx rfl (hb hby d2_1) rfl ((if0 _ _).trans (teq hc1).2) k) ?_
    show Go _ _ _ (s₁.setTop (mkF m 4 #[.val (.int p1)] [])) _
    refine Go.st (fun t k => XS.aconstNull X0.here hx rfl (hb hby d2_4) k) ?_
    obtain ⟨fs, hr, hrun, hended, hW, hsame⟩ := X0.leave (v := some .null) (fun h => by rw [Bd.returns] at h; cases h)
    refine Go.fin (retOut X0 hx Bd.returns rfl (Or.inr (Or.inr (Or.inr (Or.inr ⟨rfl, rfl, rfl⟩)))) (hb hby d2_5) hr) hrun hended ⟨_, _, rfl, ?_, ⟨_, rfl⟩, hW, hsame.mono (by decide) (by decide)⟩
    show Q2 Z p1 w_CLIENT w_SERVER w_PRODUCER w_CONSUMER h0 n0 _ s₁.heap _
    rw [e0]
    exact ⟨(by unfold f2; simp only [if_pos hc1]), N0, rfl⟩
  · refine Go.st (fun t k => XS.ifYes X0.here hx rfl (pc0 := 1) (pc' := 6) rfl (hb hby d2_1) rfl ((if0 _ _).trans (feq hc1).2) (by decide) (by decide) k) ?_
    show Go _ _ _ (s₁.setTop (mkF m 6 #[.val (.int p1)] [])) _
    refine Go.st (fun t k => XS.iloadN X0.here hx rfl (hb hby d2_6) rfl k) ?_
    refine Go.st (fun t k => XS.iconst X0.here hx rfl (hb hby d2_7) k) ?_
    by_cases hc2 : p1 = (1 : Int32)
    · refine Go.st (fun t k => XS.icmpNo X0.here hx rfl (hb hby d2_8) rfl (teq hc2).2 k) ?_
      show Go _ _ _ (s₁.setTop (mkF m 11 #[.val (.int p1)] [])) _
      obtain ⟨T3, X3, e3, st3⟩ := getS2 X0 hx hZ hown (host := "") (Or.inl (wd20 hw)) Via.refl e0 S_CLIENT (g := (mkF m 11 #[.val (.int p1)] [])) rfl (hb hby d2_11)
      refine Go.st st3 ?_
      show Go _ _ _ (T3.setTop (mkF m 14 #[.val (.int p1)] [(.ref w_CLIENT)])) _
      obtain ⟨fs, hr, hrun, hended, hW, hsame⟩ := X3.leave (v := some (.ref w_CLIENT)) (fun h => by rw [Bd.returns] at h; cases h)
      refine Go.fin (retOut X3 hx Bd.returns rfl (Or.inr (Or.inr (Or.inr (Or.inr ⟨rfl, rfl, rfl⟩)))) (hb hby d2_14) hr) hrun hended ⟨_, _, rfl, ?_, ⟨_, rfl⟩, hW, hsame.mono (by decide) (by decide)⟩
      show Q2 Z p1 w_CLIENT w_SERVER w_PRODUCER w_CONSUMER h0 n0 _ T3.heap _
      rw [e3]
      exact ⟨(by unfold f2; simp only [if_neg hc1, if_pos hc2]), N0, rfl⟩
    · refine Go.st (fun t k => XS.icmpYes X0.here hx rfl (pc0 := 8) (pc' := 15) rfl (hb hby d2_8) rfl (feq hc2).2 (by decide) (by decide) k) ?_
      show Go _ _ _ (s₁.setTop (mkF m 15 #[.val (.int p1)] [])) _
      refine Go.st (fun t k => XS.iloadN X0.here hx rfl (hb hby d2_15) rfl k) ?_
      refine Go.st (fun t k => XS.iconst X0.here hx rfl (hb hby d2_16) k) ?_
      by_cases hc4 : p1 = (2 : Int32)
      · refine Go.st (fun t k => XS.icmpNo X0.here hx rfl (hb hby d2_17) rfl (teq hc4).2 k) ?_
        show Go _ _ _ (s₁.setTop (mkF m 20 #[.val (.int p1)] [])) _
        obtain ⟨T5, X5, e5, st5⟩ := getS2 X0 hx hZ hown (host := "") (Or.inl (wd18 hw)) Via.refl e0 S_SERVER (g := (mkF m 20 #[.val (.int p1)] [])) rfl (hb hby d2_20)
        refine Go.st st5 ?_
        show Go _ _ _ (T5.setTop (mkF m 23 #[.val (.int p1)] [(.ref w_SERVER)])) _
        obtain ⟨fs, hr, hrun, hended, hW, hsame⟩ := X5.leave (v := some (.ref w_SERVER)) (fun h => by rw [Bd.returns] at h; cases h)
        refine Go.fin (retOut X5 hx Bd.returns rfl (Or.inr (Or.inr (Or.inr (Or.inr ⟨rfl, rfl, rfl⟩)))) (hb hby d2_23) hr) hrun hended ⟨_, _, rfl, ?_, ⟨_, rfl⟩, hW, hsame.mono (by decide) (by decide)⟩
        show Q2 Z p1 w_CLIENT w_SERVER w_PRODUCER w_CONSUMER h0 n0 _ T5.heap _
        rw [e5]
        exact ⟨(by unfold f2; simp only [if_neg hc1, if_neg hc2, if_pos hc4]), N0, rfl⟩
      · refine Go.st (fun t k => XS.icmpYes X0.here hx rfl (pc0 := 17) (pc' := 24) rfl (hb hby d2_17) rfl (feq hc4).2 (by decide) (by decide) k) ?_
        show Go _ _ _ (s₁.setTop (mkF m 24 #[.val (.int p1)] [])) _
        refine Go.st (fun t k => XS.iloadN X0.here hx rfl (hb hby d2_24) rfl k) ?_
        refine Go.st (fun t k => XS.iconst X0.here hx rfl (hb hby d2_25) k) ?_
        by_cases hc6 : p1 = (3 : Int32)
        · refine Go.st (fun t k => XS.icmpNo X0.here hx rfl (hb hby d2_26) rfl (teq hc6).2 k) ?_
          show Go _ _ _ (s₁.setTop (mkF m 29 #[.val (.int p1)] [])) _
          obtain ⟨T7, X7, e7, st7⟩ := getS2 X0 hx hZ hown (host := "") (Or.inl (wd16 hw)) Via.refl e0 S_PRODUCER (g := (mkF m 29 #[.val (.int p1)] [])) rfl (hb hby d2_29)
          refine Go.st st7 ?_
          show Go _ _ _ (T7.setTop (mkF m 32 #[.val (.int p1)] [(.ref w_PRODUCER)])) _
          obtain ⟨fs, hr, hrun, hended, hW, hsame⟩ := X7.leave (v := some (.ref w_PRODUCER)) (fun h => by rw [Bd.returns] at h; cases h)
          refine Go.fin (retOut X7 hx Bd.returns rfl (Or.inr (Or.inr (Or.inr (Or.inr ⟨rfl, rfl, rfl⟩)))) (hb hby d2_32) hr) hrun hended ⟨_, _, rfl, ?_, ⟨_, rfl⟩, hW, hsame.mono (by decide) (by decide)⟩
          show Q2 Z p1 w_CLIENT w_SERVER w_PRODUCER w_CONSUMER h0 n0 _ T7.heap _
          rw [e7]
          exact ⟨(by unfold f2; simp only [if_neg hc1, if_neg hc2, if_neg hc4, if_pos hc6]), N0, rfl⟩
        · refine Go.st (fun t k => XS.icmpYes X0.here hx rfl (pc0 := 26) (pc' := 33) rfl (hb hby d2_26) rfl (feq hc6).2 (by decide) (by decide) k) ?_
          show Go _ _ _ (s₁.setTop (mkF m 33 #[.val (.int p1)] [])) _
          obtain ⟨T8, X8, e8, st8⟩ := getS2 X0 hx hZ hown (host := "") (Or.inl (wd14 hw)) Via.refl e0 S_CONSUMER (g := (mkF m 33 #[.val (.int p1)] [])) rfl (hb hby d2_33)
          refine Go.st st8 ?_
          show Go _ _ _ (T8.setTop (mkF m 36 #[.val (.int p1)] [(.ref w_CONSUMER)])) _
          obtain ⟨fs, hr, hrun, hended, hW, hsame⟩ := X8.leave (v := some (.ref w_CONSUMER)) (fun h => by rw [Bd.returns] at h; cases h)
          refine Go.fin (retOut X8 hx Bd.returns rfl (Or.inr (Or.inr (Or.inr (Or.inr ⟨rfl, rfl, rfl⟩)))) (hb hby d2_36) hr) hrun hended ⟨_, _, rfl, ?_, ⟨_, rfl⟩, hW, hsame.mono (by decide) (by decide)⟩
          show Q2 Z p1 w_CLIENT w_SERVER w_PRODUCER w_CONSUMER h0 n0 _ T8.heap _
          rw [e8]
          exact ⟨(by unfold f2; simp only [if_neg hc1, if_neg hc2, if_neg hc4, if_neg hc6]), N0, rfl⟩
theorem wd0 {Z : State} {a0 : Array Value} (hw : ∀ d ∈ tables_1, d.before a0 Z = true) : (Jvm.Cond.constant "com/example/piece/piece/store/SpanRecordKindPinLaw" (7 : Nat) (2147483647 : Int32)).before a0 Z = true := hw _ (List.mem_of_getElem? (i := 0) rfl)
theorem wd1 {Z : State} {a0 : Array Value} (hw : ∀ d ∈ tables_1, d.before a0 Z = true) : (Jvm.Cond.arrayClass Jvm.ClassFile.FieldType.byte).before a0 Z = true := hw _ (List.mem_of_getElem? (i := 1) rfl)
theorem wd2 {Z : State} {a0 : Array Value} (hw : ∀ d ∈ tables_1, d.before a0 Z = true) : (Jvm.Cond.methodLink "com/example/piece/piece/store/SpanRecordKindPinLaw" (8 : Nat) ({ cls := "com/example/piece/piece/store/SpanRecord", name := "kind", desc := "([BI)Lcom/example/piece/piece/span/Span$Kind;" } : Jvm.MethodName)).before a0 Z = true := hw _ (List.mem_of_getElem? (i := 2) rfl)
theorem wd5 {Z : State} {a0 : Array Value} (hw : ∀ d ∈ tables_1, d.before a0 Z = true) : (Jvm.Cond.code ({ cls := "com/example/piece/piece/store/SpanRecord", name := "kind", desc := "([BI)Lcom/example/piece/piece/span/Span$Kind;" } : Jvm.MethodName) prog_48_method_23_code (3 : Nat) (Option.some (Jvm.ClassFile.FieldType.object "com/example/piece/piece/span/Span$Kind"))).before a0 Z = true := hw _ (List.mem_of_getElem? (i := 5) rfl)
theorem wd4 {Z : State} {a0 : Array Value} (hw : ∀ d ∈ tables_1, d.before a0 Z = true) : (Jvm.Cond.initialized "com/example/piece/piece/store/SpanRecord").before a0 Z = true := hw _ (List.mem_of_getElem? (i := 4) rfl)
theorem pd0 : parseMethodDescriptor "([BI)Lcom/example/piece/piece/span/Span$Kind;" = some ⟨[(.array .byte), .int], some (.object "com/example/piece/piece/span/Span$Kind")⟩ := by decide +kernel
theorem wd3 {Z : State} {a0 : Array Value} (hw : ∀ d ∈ tables_1, d.before a0 Z = true) : (Jvm.Cond.static ({ cls := "com/example/piece/piece/store/SpanRecord", name := "kind", desc := "([BI)Lcom/example/piece/piece/span/Span$Kind;" } : Jvm.MethodName)).before a0 Z = true := hw _ (List.mem_of_getElem? (i := 3) rfl)
theorem wd6 {Z : State} {a0 : Array Value} (hw : ∀ d ∈ tables_1, d.before a0 Z = true) : (Jvm.Cond.methodLink "com/example/piece/piece/store/SpanRecordKindPinLaw" (14 : Nat) ({ cls := "com/example/piece/piece/store/SpanRecordKindPinLaw", name := "expected", desc := "(I)Lcom/example/piece/piece/span/Span$Kind;" } : Jvm.MethodName)).before a0 Z = true := hw _ (List.mem_of_getElem? (i := 6) rfl)
theorem wd9 {Z : State} {a0 : Array Value} (hw : ∀ d ∈ tables_1, d.before a0 Z = true) : (Jvm.Cond.code ({ cls := "com/example/piece/piece/store/SpanRecordKindPinLaw", name := "expected", desc := "(I)Lcom/example/piece/piece/span/Span$Kind;" } : Jvm.MethodName) method_3_code (1 : Nat) (Option.some (Jvm.ClassFile.FieldType.object "com/example/piece/piece/span/Span$Kind"))).before a0 Z = true := hw _ (List.mem_of_getElem? (i := 9) rfl)
theorem wd8 {Z : State} {a0 : Array Value} (hw : ∀ d ∈ tables_1, d.before a0 Z = true) : (Jvm.Cond.initialized "com/example/piece/piece/store/SpanRecordKindPinLaw").before a0 Z = true := hw _ (List.mem_of_getElem? (i := 8) rfl)
theorem pd1 : parseMethodDescriptor "(I)Lcom/example/piece/piece/span/Span$Kind;" = some ⟨[.int], some (.object "com/example/piece/piece/span/Span$Kind")⟩ := by decide +kernel
theorem wd7 {Z : State} {a0 : Array Value} (hw : ∀ d ∈ tables_1, d.before a0 Z = true) : (Jvm.Cond.static ({ cls := "com/example/piece/piece/store/SpanRecordKindPinLaw", name := "expected", desc := "(I)Lcom/example/piece/piece/span/Span$Kind;" } : Jvm.MethodName)).before a0 Z = true := hw _ (List.mem_of_getElem? (i := 7) rfl)
def Q0 (Z : State) (p1 : Int32) (p2 : Int32) (p3 : Int32) (p4 : Int32) (p5 : Int32) (p6 : Int32) (w_KINDS : Addr) (k_K : ClassId) (w_CLIENT : Addr) (w_SERVER : Addr) (w_PRODUCER : Addr) (w_CONSUMER : Addr) (h0 : Heap) (n0 : Nat) (v : Option Value) (h : Heap) (L : List Loc) : Prop := v = some (.int (1 : Int32)) ∧ Fr n0 L
theorem ef0 (m : MethodId) (x0 : Int32) (x1 : Int32) (x2 : Int32) (x3 : Int32) (x4 : Int32) (x5 : Int32) : entryFrame m #[(.int x0), (.int x1), (.int x2), (.int x3), (.int x4), (.int x5)] maxLocals = mkF m 0 #[.val (.int x0), .val (.int x1), .val (.int x2), .val (.int x3), .val (.int x4), .val (.int x5), .unset, .unset, .unset, .unset] [] := by first | (simp [entryFrame, mkF, argsToLocals, Value.category, maxLocals]; done) | rfl
set_option maxRecDepth 65536 in
set_option maxHeartbeats 16000000 in
theorem rm0 (l : Launch) (Z : State) (a0 : Array Value) (hw : ∀ d ∈ tables_1, d.before a0 Z = true) (ws : List Jvm.Cond) (p1 : Int32) (p2 : Int32) (p3 : Int32) (p4 : Int32) (p5 : Int32) (p6 : Int32) (w_KINDS : Addr) (k_K : ClassId) (w_CLIENT : Addr) (w_SERVER : Addr) (w_PRODUCER : Addr) (w_CONSUMER : Addr) (h0 : Heap) (n0 : Nat) (Z0 : n0 ≤ h0.size) (S_KINDS : Sta Z h0 "com/example/piece/piece/store/SpanRecord" "KINDS" "[Lcom/example/piece/piece/span/Span$Kind;" (.ref w_KINDS)) (V_KINDS : Arv Z h0 w_KINDS k_K (.object "com/example/piece/piece/span/Span$Kind") (4 : Int32) [(.ref w_CLIENT), (.ref w_SERVER), (.ref w_PRODUCER), (.ref w_CONSUMER)] .null) (S_CLIENT : Sta Z h0 "com/example/piece/piece/span/Span$Kind" "CLIENT" "Lcom/example/piece/piece/span/Span$Kind;" (.ref w_CLIENT)) (S_SERVER : Sta Z h0 "com/example/piece/piece/span/Span$Kind" "SERVER" "Lcom/example/piece/piece/span/Span$Kind;" (.ref w_SERVER)) (S_PRODUCER : Sta Z h0 "com/example/piece/piece/span/Span$Kind" "PRODUCER" "Lcom/example/piece/piece/span/Span$Kind;" (.ref w_PRODUCER)) (S_CONSUMER : Sta Z h0 "com/example/piece/piece/span/Span$Kind" "CONSUMER" "Lcom/example/piece/piece/span/Span$Kind;" (.ref w_CONSUMER)) (E_w_CLIENT : Exa Z h0 w_CLIENT "com/example/piece/piece/span/Span$Kind") (E_w_SERVER : Exa Z h0 w_SERVER "com/example/piece/piece/span/Span$Kind") (E_w_PRODUCER : Exa Z h0 w_PRODUCER "com/example/piece/piece/span/Span$Kind") (E_w_CONSUMER : Exa Z h0 w_CONSUMER "com/example/piece/piece/span/Span$Kind") :
    MetFree l x (head1 (Jvm.Cond.code x code maxLocals ret :: ws) room_1) (fun a U => a = #[(.int p1), (.int p2), (.int p3), (.int p4), (.int p5), (.int p6)] ∧ Z.Warmed39 U.vm ∧ U.heap = h0) (fun _ _ _ _ _ => True) (fun _ U o U' => ∃ v L, o = .returned v ∧ Q0 Z p1 p2 p3 p4 p5 p6 w_KINDS k_K w_CLIENT w_SERVER w_PRODUCER w_CONSUMER h0 n0 v U'.heap L ∧ FrameEnd U o U' L 16 192) := by
  refine MetFree.of_bodySF (plainFor_of_name pn1) hisR ?_
  intro p e s m args below meth c s₁ Bd hml0 hP hK
  obtain ⟨rfl, hZ, hh⟩ := hP
  have hx := Bd.exec
  have hby := Bd.bytes
  have hml : c.maxLocals = 10 := hml0
  have hown : s.vm.findClass "com/example/piece/piece/store/SpanRecordKindPinLaw" = some m.cls := findClass_of_methodNamed Bd.named
  have hnm := (name_of_methodNamed Bd.named Bd.method).1
  have X0 : Stand p l e room_1 s m #[(.int p1), (.int p2), (.int p3), (.int p4), (.int p5), (.int p6)] below meth c s₁ [] 0 0 := Stand.of_body Bd
  have e0 : s₁.heap = h0 := by rw [← hh, Bd.state]; rfl
  have N0 := Fr.nil n0
  have K0 : Keep h0 h0 [] := Keep.refl h0 _
  refine Go.st (P := fun o U' => ∃ v L, o = .returned v ∧ Q0 Z p1 p2 p3 p4 p5 p6 w_KINDS k_K w_CLIENT w_SERVER w_PRODUCER w_CONSUMER h0 n0 v U'.heap L ∧ FrameEnd s o U' L 16 192) (fun t k => castTop (ef0 m p1 p2 p3 p4 p5 p6) k) ?_
  show Go _ _ _ (s₁.setTop (mkF m 0 #[.val (.int p1), .val (.int p2), .val (.int p3), .val (.int p4), .val (.int p5), .val (.int p6), .unset, .unset, .unset, .unset] [])) _
  refine Go.st (fun t k => XS.iloadN X0.here hx rfl (hb hby at_0) rfl k) ?_
  refine Go.st (fun t k => X0.ldcInt hx hown (mvT hZ (wd0 hw)) (g := (mkF m 1 #[.val (.int p1), .val (.int p2), .val (.int p3), .val (.int p4), .val (.int p5), .val (.int p6), .unset, .unset, .unset, .unset] [(.int p1)])) rfl (hb hby at_1) _ k) ?_
  show Go _ _ _ (s₁.setTop (mkF m 3 #[.val (.int p1), .val (.int p2), .val (.int p3), .val (.int p4), .val (.int p5), .val (.int p6), .unset, .unset, .unset, .unset] [(.int 2147483647), (.int p1)])) _
  refine Go.st (fun t k => XS.iand X0.here hx rfl (hb hby at_3) rfl k) ?_
  show Go _ _ _ (s₁.setTop (mkF m 4 #[.val (.int p1), .val (.int p2), .val (.int p3), .val (.int p4), .val (.int p5), .val (.int p6), .unset, .unset, .unset, .unset] [(.int (p1 &&& (2147483647 : Int32)))])) _
  refine Go.st (fun t k => XS.iconst X0.here hx rfl (hb hby at_4) k) ?_
  refine Go.st (fun t k => iremM X0 hx rfl (hb hby at_5) rfl (by decide) k) ?_
  show Go _ _ _ (s₁.setTop (mkF m 6 #[.val (.int p1), .val (.int p2), .val (.int p3), .val (.int p4), .val (.int p5), .val (.int p6), .unset, .unset, .unset, .unset] [(.int ((p1 &&& (2147483647 : Int32)) % (5 : Int32)))])) _
  refine Go.st (fun t k => XS.istore X0.here hx rfl (hb hby at_6) rfl (l' := #[.val (.int p1), .val (.int p2), .val (.int p3), .val (.int p4), .val (.int p5), .val (.int p6), .val (.int ((p1 &&& (2147483647 : Int32)) % (5 : Int32))), .unset, .unset, .unset]) rfl k) ?_
  refine Go.st (fun t k => XS.iloadN X0.here hx rfl (hb hby at_8) rfl k) ?_
  refine Go.st (fun t k => X0.ldcInt hx hown (mvT hZ (wd0 hw)) (g := (mkF m 9 #[.val (.int p1), .val (.int p2), .val (.int p3), .val (.int p4), .val (.int p5), .val (.int p6), .val (.int ((p1 &&& (2147483647 : Int32)) % (5 : Int32))), .unset, .unset, .unset] [(.int p2)])) rfl (hb hby at_9) _ k) ?_
  show Go _ _ _ (s₁.setTop (mkF m 11 #[.val (.int p1), .val (.int p2), .val (.int p3), .val (.int p4), .val (.int p5), .val (.int p6), .val (.int ((p1 &&& (2147483647 : Int32)) % (5 : Int32))), .unset, .unset, .unset] [(.int 2147483647), (.int p2)])) _
  refine Go.st (fun t k => XS.iand X0.here hx rfl (hb hby at_11) rfl k) ?_
  show Go _ _ _ (s₁.setTop (mkF m 12 #[.val (.int p1), .val (.int p2), .val (.int p3), .val (.int p4), .val (.int p5), .val (.int p6), .val (.int ((p1 &&& (2147483647 : Int32)) % (5 : Int32))), .unset, .unset, .unset] [(.int (p2 &&& (2147483647 : Int32)))])) _
  refine Go.st (fun t k => XS.bipush X0.here hx rfl (hb hby at_12) k) ?_
  refine Go.st (fun t k => iremM X0 hx rfl (hb hby at_14) rfl (by decide) k) ?_
  show Go _ _ _ (s₁.setTop (mkF m 15 #[.val (.int p1), .val (.int p2), .val (.int p3), .val (.int p4), .val (.int p5), .val (.int p6), .val (.int ((p1 &&& (2147483647 : Int32)) % (5 : Int32))), .unset, .unset, .unset] [(.int ((p2 &&& (2147483647 : Int32)) % (8 : Int32)))])) _
  refine Go.st (fun t k => XS.istore X0.here hx rfl (hb hby at_15) rfl (l' := #[.val (.int p1), .val (.int p2), .val (.int p3), .val (.int p4), .val (.int p5), .val (.int p6), .val (.int ((p1 &&& (2147483647 : Int32)) % (5 : Int32))), .val (.int ((p2 &&& (2147483647 : Int32)) % (8 : Int32))), .unset, .unset]) rfl k) ?_
  refine Go.st (fun t k => XS.bipush X0.here hx rfl (hb hby at_17) k) ?_
  obtain ⟨T1, h1, k1, X1, e1, E1, A1, st1⟩ := newP X0 hx hZ (aty := .byte) (wd1 hw) e0 (g := (mkF m 19 #[.val (.int p1), .val (.int p2), .val (.int p3), .val (.int p4), .val (.int p5), .val (.int p6), .val (.int ((p1 &&& (2147483647 : Int32)) % (5 : Int32))), .val (.int ((p2 &&& (2147483647 : Int32)) % (8 : Int32))), .unset, .unset] [(.int 33)])) rfl (hb hby at_19) rfl (by decide) (cap := 33) (by decide) (by decide) (by decide) (by decide)
  obtain ⟨b1, g1⟩ : ∃ z, z = h0.size := ⟨_, rfl⟩
  rw [← g1] at A1 st1
  refine Go.st st1 ?_
  have ne_w_KINDS_b1 : w_KINDS ≠ b1 := Nat.ne_of_lt (Nat.lt_of_lt_of_le V_KINDS.lt (Nat.le_of_eq g1.symm))
  have ne_w_CLIENT_b1 : w_CLIENT ≠ b1 := Nat.ne_of_lt (Nat.lt_of_lt_of_le E_w_CLIENT.lt (Nat.le_of_eq g1.symm))
  have ne_w_SERVER_b1 : w_SERVER ≠ b1 := Nat.ne_of_lt (Nat.lt_of_lt_of_le E_w_SERVER.lt (Nat.le_of_eq g1.symm))
  have ne_w_PRODUCER_b1 : w_PRODUCER ≠ b1 := Nat.ne_of_lt (Nat.lt_of_lt_of_le E_w_PRODUCER.lt (Nat.le_of_eq g1.symm))
  have ne_w_CONSUMER_b1 : w_CONSUMER ≠ b1 := Nat.ne_of_lt (Nat.lt_of_lt_of_le E_w_CONSUMER.lt (Nat.le_of_eq g1.symm))
  have g_b1 : n0 ≤ b1 := Nat.le_trans Z0 (Nat.le_of_eq g1.symm)
  have sz_b1 : h0.size ≤ b1 := Nat.le_trans K0.1 (Nat.le_of_eq g1.symm)
  replace S_KINDS := S_KINDS.ext E1
  replace V_KINDS := V_KINDS.ext E1
  replace S_CLIENT := S_CLIENT.ext E1
  replace S_SERVER := S_SERVER.ext E1
  replace S_PRODUCER := S_PRODUCER.ext E1
  replace S_CONSUMER := S_CONSUMER.ext E1
  replace E_w_CLIENT := E_w_CLIENT.ext E1
  replace E_w_SERVER := E_w_SERVER.ext E1
  replace E_w_PRODUCER := E_w_PRODUCER.ext E1
  replace E_w_CONSUMER := E_w_CONSUMER.ext E1
  replace K0 := K0.ext E1
  replace Z0 := Nat.le_trans Z0 E1.1
  have V_b1 : Arv Z h1 b1 k1 .byte (33 : Int32) [(.int (0 : Int32)), (.int (0 : Int32)), (.int (0 : Int32)), (.int (0 : Int32)), (.int (0 : Int32)), (.int (0 : Int32)), (.int (0 : Int32)), (.int (0 : Int32)), (.int (0 : Int32)), (.int (0 : Int32)), (.int (0 : Int32)), (.int (0 : Int32)), (.int (0 : Int32)), (.int (0 : Int32)), (.int (0 : Int32)), (.int (0 : Int32)), (.int (0 : Int32)), (.int (0 : Int32)), (.int (0 : Int32)), (.int (0 : Int32)), (.int (0 : Int32)), (.int (0 : Int32)), (.int (0 : Int32)), (.int (0 : Int32)), (.int (0 : Int32)), (.int (0 : Int32)), (.int (0 : Int32)), (.int (0 : Int32)), (.int (0 : Int32)), (.int (0 : Int32)), (.int (0 : Int32)), (.int (0 : Int32)), (.int (0 : Int32))] (.int (0 : Int32)) := (Arv.new A1 (by decide)).pad (pad_rep [] (.int (0 : Int32)) 33)
  show Go _ _ _ (T1.setTop (mkF m 21 #[.val (.int p1), .val (.int p2), .val (.int p3), .val (.int p4), .val (.int p5), .val (.int p6), .val (.int ((p1 &&& (2147483647 : Int32)) % (5 : Int32))), .val (.int ((p2 &&& (2147483647 : Int32)) % (8 : Int32))), .unset, .unset] [(.ref b1)])) _
  refine Go.st (fun t k => XS.astore X1.here hx rfl (hb hby at_21) rfl rfl (l' := #[.val (.int p1), .val (.int p2), .val (.int p3), .val (.int p4), .val (.int p5), .val (.int p6), .val (.int ((p1 &&& (2147483647 : Int32)) % (5 : Int32))), .val (.int ((p2 &&& (2147483647 : Int32)) % (8 : Int32))), .val (.ref b1), .unset]) rfl k) ?_
  refine Go.st (fun t k => XS.aload X1.here hx rfl (hb hby at_23) rfl rfl k) ?_
  refine Go.st (fun t k => XS.bipush X1.here hx rfl (hb hby at_25) k) ?_
  refine Go.st (fun t k => XS.iloadN X1.here hx rfl (hb hby at_27) rfl k) ?_
  refine Go.st (fun t k => XS.i2b X1.here hx rfl (hb hby at_28) rfl k) ?_
  show Go _ _ _ (T1.setTop (mkF m 29 #[.val (.int p1), .val (.int p2), .val (.int p3), .val (.int p4), .val (.int p5), .val (.int p6), .val (.int ((p1 &&& (2147483647 : Int32)) % (5 : Int32))), .val (.int ((p2 &&& (2147483647 : Int32)) % (8 : Int32))), .val (.ref b1), .unset] [(.int (p3.toInt8.toInt32)), (.int 24), (.ref b1)])) _
  obtain ⟨cl2, Ar2, qq2, Sz2, Ng2, Hs2, Gs2⟩ := id V_b1
  have hin2 : ¬ ((24 : Int32) < 0 ∨ cl2.slots.size ≤ ((24 : Int32)).toNatClampNeg) := inb_of Sz2 ⟨by decide, by decide⟩
  obtain ⟨T3, h3, X3, e3, W3, st3⟩ := stB X1 hx hZ e1 Ar2 (j := (24 : Int32)) hin2 (g := (mkF m 29 #[.val (.int p1), .val (.int p2), .val (.int p3), .val (.int p4), .val (.int p5), .val (.int p6), .val (.int ((p1 &&& (2147483647 : Int32)) % (5 : Int32))), .val (.int ((p2 &&& (2147483647 : Int32)) % (8 : Int32))), .val (.ref b1), .unset] [(.int (p3.toInt8.toInt32)), (.int 24), (.ref b1)])) rfl rfl (hb hby at_29)
  refine Go.st st3 ?_
  have N3 := Fr.snoc X3 N0 g_b1
  replace S_KINDS := S_KINDS.wr W3
  replace V_KINDS := V_KINDS.other W3 ne_w_KINDS_b1
  replace S_CLIENT := S_CLIENT.wr W3
  replace S_SERVER := S_SERVER.wr W3
  replace S_PRODUCER := S_PRODUCER.wr W3
  replace S_CONSUMER := S_CONSUMER.wr W3
  replace E_w_CLIENT := E_w_CLIENT.wr W3
  replace E_w_SERVER := E_w_SERVER.wr W3
  replace E_w_PRODUCER := E_w_PRODUCER.wr W3
  replace E_w_CONSUMER := E_w_CONSUMER.wr W3
  replace Z0 := Nat.le_trans Z0 (Nat.le_of_eq W3.size.symm)
  replace K0 := K0.wr W3 (Or.inr sz_b1)
  replace V_b1 : Arv Z h3 b1 k1 .byte (33 : Int32) [(.int (0 : Int32)), (.int (0 : Int32)), (.int (0 : Int32)), (.int (0 : Int32)), (.int (0 : Int32)), (.int (0 : Int32)), (.int (0 : Int32)), (.int (0 : Int32)), (.int (0 : Int32)), (.int (0 : Int32)), (.int (0 : Int32)), (.int (0 : Int32)), (.int (0 : Int32)), (.int (0 : Int32)), (.int (0 : Int32)), (.int (0 : Int32)), (.int (0 : Int32)), (.int (0 : Int32)), (.int (0 : Int32)), (.int (0 : Int32)), (.int (0 : Int32)), (.int (0 : Int32)), (.int (0 : Int32)), (.int (0 : Int32)), (.int ((p3.toInt8.toInt32).toInt8.toInt32)), (.int (0 : Int32)), (.int (0 : Int32)), (.int (0 : Int32)), (.int (0 : Int32)), (.int (0 : Int32)), (.int (0 : Int32)), (.int (0 : Int32)), (.int (0 : Int32))] (.int (0 : Int32)) := Arv.set Ar2 qq2 Sz2 Ng2 Hs2 Gs2 (fits_nar_byte _) W3 24 rfl (Nat.le_of_ble_eq_true rfl)
  show Go _ _ _ (T3.setTop (mkF m 30 #[.val (.int p1), .val (.int p2), .val (.int p3), .val (.int p4), .val (.int p5), .val (.int p6), .val (.int ((p1 &&& (2147483647 : Int32)) % (5 : Int32))), .val (.int ((p2 &&& (2147483647 : Int32)) % (8 : Int32))), .val (.ref b1), .unset] [])) _
  refine Go.st (fun t k => XS.aload X3.here hx rfl (hb hby at_30) rfl rfl k) ?_
  refine Go.st (fun t k => XS.iload X3.here hx rfl (hb hby at_32) rfl k) ?_
  refine Go.st (fun t k => XS.iload X3.here hx rfl (hb hby at_34) rfl k) ?_
  refine Go.st (fun t k => XS.i2b X3.here hx rfl (hb hby at_36) rfl k) ?_
  show Go _ _ _ (T3.setTop (mkF m 37 #[.val (.int p1), .val (.int p2), .val (.int p3), .val (.int p4), .val (.int p5), .val (.int p6), .val (.int ((p1 &&& (2147483647 : Int32)) % (5 : Int32))), .val (.int ((p2 &&& (2147483647 : Int32)) % (8 : Int32))), .val (.ref b1), .unset] [(.int (p6.toInt8.toInt32)), (.int ((p2 &&& (2147483647 : Int32)) % (8 : Int32))), (.ref b1)])) _
  obtain ⟨cl4, Ar4, qq4, Sz4, Ng4, Hs4, Gs4⟩ := id V_b1
  have hin4 : ¬ (((p2 &&& (2147483647 : Int32)) % (8 : Int32)) < 0 ∨ cl4.slots.size ≤ (((p2 &&& (2147483647 : Int32)) % (8 : Int32))).toNatClampNeg) := inb_of Sz4 (own_ib0 p2)
  obtain ⟨T5, h5, X5, e5, W5, st5⟩ := stB X3 hx hZ e3 Ar4 (j := ((p2 &&& (2147483647 : Int32)) % (8 : Int32))) hin4 (g := (mkF m 37 #[.val (.int p1), .val (.int p2), .val (.int p3), .val (.int p4), .val (.int p5), .val (.int p6), .val (.int ((p1 &&& (2147483647 : Int32)) % (5 : Int32))), .val (.int ((p2 &&& (2147483647 : Int32)) % (8 : Int32))), .val (.ref b1), .unset] [(.int (p6.toInt8.toInt32)), (.int ((p2 &&& (2147483647 : Int32)) % (8 : Int32))), (.ref b1)])) rfl rfl (hb hby at_37)
  refine Go.st st5 ?_
  have N5 := Fr.snoc X5 N3 g_b1
  replace S_KINDS := S_KINDS.wr W5
  replace V_KINDS := V_KINDS.other W5 ne_w_KINDS_b1
  replace S_CLIENT := S_CLIENT.wr W5
  replace S_SERVER := S_SERVER.wr W5
  replace S_PRODUCER := S_PRODUCER.wr W5
  replace S_CONSUMER := S_CONSUMER.wr W5
  replace E_w_CLIENT := E_w_CLIENT.wr W5
  replace E_w_SERVER := E_w_SERVER.wr W5
  replace E_w_PRODUCER := E_w_PRODUCER.wr W5
  replace E_w_CONSUMER := E_w_CONSUMER.wr W5
  replace Z0 := Nat.le_trans Z0 (Nat.le_of_eq W5.size.symm)
  replace K0 := K0.wr W5 (Or.inr sz_b1)
  obtain ⟨vs5, hl5, ha5, hb5, V5⟩ : ∃ l : List Value, l.length = 33 ∧ l.getD (((p2 &&& (2147483647 : Int32)) % (8 : Int32))).toNatClampNeg (.int (0 : Int32)) = (.int ((p6.toInt8.toInt32).toInt8.toInt32)) ∧ (∀ i, i ≠ (((p2 &&& (2147483647 : Int32)) % (8 : Int32))).toNatClampNeg → l.getD i (.int (0 : Int32)) = ([(.int (0 : Int32)), (.int (0 : Int32)), (.int (0 : Int32)), (.int (0 : Int32)), (.int (0 : Int32)), (.int (0 : Int32)), (.int (0 : Int32)), (.int (0 : Int32)), (.int (0 : Int32)), (.int (0 : Int32)), (.int (0 : Int32)), (.int (0 : Int32)), (.int (0 : Int32)), (.int (0 : Int32)), (.int (0 : Int32)), (.int (0 : Int32)), (.int (0 : Int32)), (.int (0 : Int32)), (.int (0 : Int32)), (.int (0 : Int32)), (.int (0 : Int32)), (.int (0 : Int32)), (.int (0 : Int32)), (.int (0 : Int32)), (.int ((p3.toInt8.toInt32).toInt8.toInt32)), (.int (0 : Int32)), (.int (0 : Int32)), (.int (0 : Int32)), (.int (0 : Int32)), (.int (0 : Int32)), (.int (0 : Int32)), (.int (0 : Int32)), (.int (0 : Int32))] : List Value).getD i (.int (0 : Int32))) ∧ Arv Z h5 b1 k1 .byte (33 : Int32) l (.int (0 : Int32)) := ⟨_, own_setl rfl, own_setg (own_lt_of (n := 33) (z := (33 : Int32)) rfl (own_ib0 p2)), fun i hi => own_setn hi, Arv.set Ar4 qq4 Sz4 Ng4 Hs4 Gs4 (fits_nar_byte _) W5 _ rfl (own_lt_of (n := 33) (z := (33 : Int32)) rfl (own_ib0 p2))⟩
  replace V_b1 := V5
  show Go _ _ _ (T5.setTop (mkF m 38 #[.val (.int p1), .val (.int p2), .val (.int p3), .val (.int p4), .val (.int p5), .val (.int p6), .val (.int ((p1 &&& (2147483647 : Int32)) % (5 : Int32))), .val (.int ((p2 &&& (2147483647 : Int32)) % (8 : Int32))), .val (.ref b1), .unset] [])) _
  refine Go.st (fun t k => XS.aload X5.here hx rfl (hb hby at_38) rfl rfl k) ?_
  refine Go.st (fun t k => XS.bipush X5.here hx rfl (hb hby at_40) k) ?_
  refine Go.st (fun t k => XS.iload X5.here hx rfl (hb hby at_42) rfl k) ?_
  refine Go.st (fun t k => XS.i2b X5.here hx rfl (hb hby at_44) rfl k) ?_
  show Go _ _ _ (T5.setTop (mkF m 45 #[.val (.int p1), .val (.int p2), .val (.int p3), .val (.int p4), .val (.int p5), .val (.int p6), .val (.int ((p1 &&& (2147483647 : Int32)) % (5 : Int32))), .val (.int ((p2 &&& (2147483647 : Int32)) % (8 : Int32))), .val (.ref b1), .unset] [(.int (p6.toInt8.toInt32)), (.int 32), (.ref b1)])) _
  obtain ⟨cl6, Ar6, qq6, Sz6, Ng6, Hs6, Gs6⟩ := id V_b1
  have hin6 : ¬ ((32 : Int32) < 0 ∨ cl6.slots.size ≤ ((32 : Int32)).toNatClampNeg) := inb_of Sz6 ⟨by decide, by decide⟩
  obtain ⟨T7, h7, X7, e7, W7, st7⟩ := stB X5 hx hZ e5 Ar6 (j := (32 : Int32)) hin6 (g := (mkF m 45 #[.val (.int p1), .val (.int p2), .val (.int p3), .val (.int p4), .val (.int p5), .val (.int p6), .val (.int ((p1 &&& (2147483647 : Int32)) % (5 : Int32))), .val (.int ((p2 &&& (2147483647 : Int32)) % (8 : Int32))), .val (.ref b1), .unset] [(.int (p6.toInt8.toInt32)), (.int 32), (.ref b1)])) rfl rfl (hb hby at_45)
  refine Go.st st7 ?_
  have N7 := Fr.snoc X7 N5 g_b1
  replace S_KINDS := S_KINDS.wr W7
  replace V_KINDS := V_KINDS.other W7 ne_w_KINDS_b1
  replace S_CLIENT := S_CLIENT.wr W7
  replace S_SERVER := S_SERVER.wr W7
  replace S_PRODUCER := S_PRODUCER.wr W7
  replace S_CONSUMER := S_CONSUMER.wr W7
  replace E_w_CLIENT := E_w_CLIENT.wr W7
  replace E_w_SERVER := E_w_SERVER.wr W7
  replace E_w_PRODUCER := E_w_PRODUCER.wr W7
  replace E_w_CONSUMER := E_w_CONSUMER.wr W7
  replace Z0 := Nat.le_trans Z0 (Nat.le_of_eq W7.size.symm)
  replace K0 := K0.wr W7 (Or.inr sz_b1)
  obtain ⟨vs7, hl7, ha7, hb7, V7⟩ : ∃ l : List Value, l.length = 33 ∧ l.getD ((32 : Int32)).toNatClampNeg (.int (0 : Int32)) = (.int ((p6.toInt8.toInt32).toInt8.toInt32)) ∧ (∀ i, i ≠ ((32 : Int32)).toNatClampNeg → l.getD i (.int (0 : Int32)) = (vs5 : List Value).getD i (.int (0 : Int32))) ∧ Arv Z h7 b1 k1 .byte (33 : Int32) l (.int (0 : Int32)) := ⟨_, own_setl hl5, own_setg (own_lt_of (n := 33) (z := (33 : Int32)) hl5 ⟨by decide, by decide⟩), fun i hi => own_setn hi, Arv.set Ar6 qq6 Sz6 Ng6 Hs6 Gs6 (fits_nar_byte _) W7 _ rfl (own_lt_of (n := 33) (z := (33 : Int32)) hl5 ⟨by decide, by decide⟩)⟩
  replace V_b1 := V7
  show Go _ _ _ (T7.setTop (mkF m 46 #[.val (.int p1), .val (.int p2), .val (.int p3), .val (.int p4), .val (.int p5), .val (.int p6), .val (.int ((p1 &&& (2147483647 : Int32)) % (5 : Int32))), .val (.int ((p2 &&& (2147483647 : Int32)) % (8 : Int32))), .val (.ref b1), .unset] [])) _
  refine Go.st (fun t k => XS.aload X7.here hx rfl (hb hby at_46) rfl rfl k) ?_
  refine Go.st (fun t k => XS.iload X7.here hx rfl (hb hby at_48) rfl k) ?_
  refine Go.st (fun t k => XS.bipush X7.here hx rfl (hb hby at_50) k) ?_
  refine Go.st (fun t k => XS.iadd X7.here hx rfl (hb hby at_52) rfl k) ?_
  show Go _ _ _ (T7.setTop (mkF m 53 #[.val (.int p1), .val (.int p2), .val (.int p3), .val (.int p4), .val (.int p5), .val (.int p6), .val (.int ((p1 &&& (2147483647 : Int32)) % (5 : Int32))), .val (.int ((p2 &&& (2147483647 : Int32)) % (8 : Int32))), .val (.ref b1), .unset] [(.int (((p2 &&& (2147483647 : Int32)) % (8 : Int32)) + (23 : Int32))), (.ref b1)])) _
  refine Go.st (fun t k => XS.iloadN X7.here hx rfl (hb hby at_53) rfl k) ?_
  refine Go.st (fun t k => XS.i2b X7.here hx rfl (hb hby at_54) rfl k) ?_
  show Go _ _ _ (T7.setTop (mkF m 55 #[.val (.int p1), .val (.int p2), .val (.int p3), .val (.int p4), .val (.int p5), .val (.int p6), .val (.int ((p1 &&& (2147483647 : Int32)) % (5 : Int32))), .val (.int ((p2 &&& (2147483647 : Int32)) % (8 : Int32))), .val (.ref b1), .unset] [(.int (p4.toInt8.toInt32)), (.int (((p2 &&& (2147483647 : Int32)) % (8 : Int32)) + (23 : Int32))), (.ref b1)])) _
  obtain ⟨cl8, Ar8, qq8, Sz8, Ng8, Hs8, Gs8⟩ := id V_b1
  have hin8 : ¬ ((((p2 &&& (2147483647 : Int32)) % (8 : Int32)) + (23 : Int32)) < 0 ∨ cl8.slots.size ≤ ((((p2 &&& (2147483647 : Int32)) % (8 : Int32)) + (23 : Int32))).toNatClampNeg) := inb_of Sz8 (own_ib p2 23 23 rfl (by decide))
  obtain ⟨T9, h9, X9, e9, W9, st9⟩ := stB X7 hx hZ e7 Ar8 (j := (((p2 &&& (2147483647 : Int32)) % (8 : Int32)) + (23 : Int32))) hin8 (g := (mkF m 55 #[.val (.int p1), .val (.int p2), .val (.int p3), .val (.int p4), .val (.int p5), .val (.int p6), .val (.int ((p1 &&& (2147483647 : Int32)) % (5 : Int32))), .val (.int ((p2 &&& (2147483647 : Int32)) % (8 : Int32))), .val (.ref b1), .unset] [(.int (p4.toInt8.toInt32)), (.int (((p2 &&& (2147483647 : Int32)) % (8 : Int32)) + (23 : Int32))), (.ref b1)])) rfl rfl (hb hby at_55)
  refine Go.st st9 ?_
  have N9 := Fr.snoc X9 N7 g_b1
  replace S_KINDS := S_KINDS.wr W9
  replace V_KINDS := V_KINDS.other W9 ne_w_KINDS_b1
  replace S_CLIENT := S_CLIENT.wr W9
  replace S_SERVER := S_SERVER.wr W9
  replace S_PRODUCER := S_PRODUCER.wr W9
  replace S_CONSUMER := S_CONSUMER.wr W9
  replace E_w_CLIENT := E_w_CLIENT.wr W9
  replace E_w_SERVER := E_w_SERVER.wr W9
  replace E_w_PRODUCER := E_w_PRODUCER.wr W9
  replace E_w_CONSUMER := E_w_CONSUMER.wr W9
  replace Z0 := Nat.le_trans Z0 (Nat.le_of_eq W9.size.symm)
  replace K0 := K0.wr W9 (Or.inr sz_b1)
  obtain ⟨vs9, hl9, ha9, hb9, V9⟩ : ∃ l : List Value, l.length = 33 ∧ l.getD ((((p2 &&& (2147483647 : Int32)) % (8 : Int32)) + (23 : Int32))).toNatClampNeg (.int (0 : Int32)) = (.int ((p4.toInt8.toInt32).toInt8.toInt32)) ∧ (∀ i, i ≠ ((((p2 &&& (2147483647 : Int32)) % (8 : Int32)) + (23 : Int32))).toNatClampNeg → l.getD i (.int (0 : Int32)) = (vs7 : List Value).getD i (.int (0 : Int32))) ∧ Arv Z h9 b1 k1 .byte (33 : Int32) l (.int (0 : Int32)) := ⟨_, own_setl hl7, own_setg (own_lt_of (n := 33) (z := (33 : Int32)) hl7 (own_ib p2 23 23 rfl (by decide))), fun i hi => own_setn hi, Arv.set Ar8 qq8 Sz8 Ng8 Hs8 Gs8 (fits_nar_byte _) W9 _ rfl (own_lt_of (n := 33) (z := (33 : Int32)) hl7 (own_ib p2 23 23 rfl (by decide)))⟩
  replace V_b1 := V9
  show Go _ _ _ (T9.setTop (mkF m 56 #[.val (.int p1), .val (.int p2), .val (.int p3), .val (.int p4), .val (.int p5), .val (.int p6), .val (.int ((p1 &&& (2147483647 : Int32)) % (5 : Int32))), .val (.int ((p2 &&& (2147483647 : Int32)) % (8 : Int32))), .val (.ref b1), .unset] [])) _
  refine Go.st (fun t k => XS.aload X9.here hx rfl (hb hby at_56) rfl rfl k) ?_
  refine Go.st (fun t k => XS.iload X9.here hx rfl (hb hby at_58) rfl k) ?_
  refine Go.st (fun t k => XS.bipush X9.here hx rfl (hb hby at_60) k) ?_
  refine Go.st (fun t k => XS.iadd X9.here hx rfl (hb hby at_62) rfl k) ?_
  show Go _ _ _ (T9.setTop (mkF m 63 #[.val (.int p1), .val (.int p2), .val (.int p3), .val (.int p4), .val (.int p5), .val (.int p6), .val (.int ((p1 &&& (2147483647 : Int32)) % (5 : Int32))), .val (.int ((p2 &&& (2147483647 : Int32)) % (8 : Int32))), .val (.ref b1), .unset] [(.int (((p2 &&& (2147483647 : Int32)) % (8 : Int32)) + (25 : Int32))), (.ref b1)])) _
  refine Go.st (fun t k => XS.iload X9.here hx rfl (hb hby at_63) rfl k) ?_
  refine Go.st (fun t k => XS.i2b X9.here hx rfl (hb hby at_65) rfl k) ?_
  show Go _ _ _ (T9.setTop (mkF m 66 #[.val (.int p1), .val (.int p2), .val (.int p3), .val (.int p4), .val (.int p5), .val (.int p6), .val (.int ((p1 &&& (2147483647 : Int32)) % (5 : Int32))), .val (.int ((p2 &&& (2147483647 : Int32)) % (8 : Int32))), .val (.ref b1), .unset] [(.int (p5.toInt8.toInt32)), (.int (((p2 &&& (2147483647 : Int32)) % (8 : Int32)) + (25 : Int32))), (.ref b1)])) _
  obtain ⟨cl10, Ar10, qq10, Sz10, Ng10, Hs10, Gs10⟩ := id V_b1
  have hin10 : ¬ ((((p2 &&& (2147483647 : Int32)) % (8 : Int32)) + (25 : Int32)) < 0 ∨ cl10.slots.size ≤ ((((p2 &&& (2147483647 : Int32)) % (8 : Int32)) + (25 : Int32))).toNatClampNeg) := inb_of Sz10 (own_ib p2 25 25 rfl (by decide))
  obtain ⟨T11, h11, X11, e11, W11, st11⟩ := stB X9 hx hZ e9 Ar10 (j := (((p2 &&& (2147483647 : Int32)) % (8 : Int32)) + (25 : Int32))) hin10 (g := (mkF m 66 #[.val (.int p1), .val (.int p2), .val (.int p3), .val (.int p4), .val (.int p5), .val (.int p6), .val (.int ((p1 &&& (2147483647 : Int32)) % (5 : Int32))), .val (.int ((p2 &&& (2147483647 : Int32)) % (8 : Int32))), .val (.ref b1), .unset] [(.int (p5.toInt8.toInt32)), (.int (((p2 &&& (2147483647 : Int32)) % (8 : Int32)) + (25 : Int32))), (.ref b1)])) rfl rfl (hb hby at_66)
  refine Go.st st11 ?_
  have N11 := Fr.snoc X11 N9 g_b1
  replace S_KINDS := S_KINDS.wr W11
  replace V_KINDS := V_KINDS.other W11 ne_w_KINDS_b1
  replace S_CLIENT := S_CLIENT.wr W11
  replace S_SERVER := S_SERVER.wr W11
  replace S_PRODUCER := S_PRODUCER.wr W11
  replace S_CONSUMER := S_CONSUMER.wr W11
  replace E_w_CLIENT := E_w_CLIENT.wr W11
  replace E_w_SERVER := E_w_SERVER.wr W11
  replace E_w_PRODUCER := E_w_PRODUCER.wr W11
  replace E_w_CONSUMER := E_w_CONSUMER.wr W11
  replace Z0 := Nat.le_trans Z0 (Nat.le_of_eq W11.size.symm)
  replace K0 := K0.wr W11 (Or.inr sz_b1)
  obtain ⟨vs11, hl11, ha11, hb11, V11⟩ : ∃ l : List Value, l.length = 33 ∧ l.getD ((((p2 &&& (2147483647 : Int32)) % (8 : Int32)) + (25 : Int32))).toNatClampNeg (.int (0 : Int32)) = (.int ((p5.toInt8.toInt32).toInt8.toInt32)) ∧ (∀ i, i ≠ ((((p2 &&& (2147483647 : Int32)) % (8 : Int32)) + (25 : Int32))).toNatClampNeg → l.getD i (.int (0 : Int32)) = (vs9 : List Value).getD i (.int (0 : Int32))) ∧ Arv Z h11 b1 k1 .byte (33 : Int32) l (.int (0 : Int32)) := ⟨_, own_setl hl9, own_setg (own_lt_of (n := 33) (z := (33 : Int32)) hl9 (own_ib p2 25 25 rfl (by decide))), fun i hi => own_setn hi, Arv.set Ar10 qq10 Sz10 Ng10 Hs10 Gs10 (fits_nar_byte _) W11 _ rfl (own_lt_of (n := 33) (z := (33 : Int32)) hl9 (own_ib p2 25 25 rfl (by decide)))⟩
  replace V_b1 := V11
  show Go _ _ _ (T11.setTop (mkF m 67 #[.val (.int p1), .val (.int p2), .val (.int p3), .val (.int p4), .val (.int p5), .val (.int p6), .val (.int ((p1 &&& (2147483647 : Int32)) % (5 : Int32))), .val (.int ((p2 &&& (2147483647 : Int32)) % (8 : Int32))), .val (.ref b1), .unset] [])) _
  refine Go.st (fun t k => XS.aload X11.here hx rfl (hb hby at_67) rfl rfl k) ?_
  refine Go.st (fun t k => XS.iload X11.here hx rfl (hb hby at_69) rfl k) ?_
  refine Go.st (fun t k => XS.bipush X11.here hx rfl (hb hby at_71) k) ?_
  refine Go.st (fun t k => XS.iadd X11.here hx rfl (hb hby at_73) rfl k) ?_
  show Go _ _ _ (T11.setTop (mkF m 74 #[.val (.int p1), .val (.int p2), .val (.int p3), .val (.int p4), .val (.int p5), .val (.int p6), .val (.int ((p1 &&& (2147483647 : Int32)) % (5 : Int32))), .val (.int ((p2 &&& (2147483647 : Int32)) % (8 : Int32))), .val (.ref b1), .unset] [(.int (((p2 &&& (2147483647 : Int32)) % (8 : Int32)) + (24 : Int32))), (.ref b1)])) _
  refine Go.st (fun t k => XS.iload X11.here hx rfl (hb hby at_74) rfl k) ?_
  refine Go.st (fun t k => XS.i2b X11.here hx rfl (hb hby at_76) rfl k) ?_
  show Go _ _ _ (T11.setTop (mkF m 77 #[.val (.int p1), .val (.int p2), .val (.int p3), .val (.int p4), .val (.int p5), .val (.int p6), .val (.int ((p1 &&& (2147483647 : Int32)) % (5 : Int32))), .val (.int ((p2 &&& (2147483647 : Int32)) % (8 : Int32))), .val (.ref b1), .unset] [(.int (((p1 &&& (2147483647 : Int32)) % (5 : Int32)).toInt8.toInt32)), (.int (((p2 &&& (2147483647 : Int32)) % (8 : Int32)) + (24 : Int32))), (.ref b1)])) _
  obtain ⟨cl12, Ar12, qq12, Sz12, Ng12, Hs12, Gs12⟩ := id V_b1
  have hin12 : ¬ ((((p2 &&& (2147483647 : Int32)) % (8 : Int32)) + (24 : Int32)) < 0 ∨ cl12.slots.size ≤ ((((p2 &&& (2147483647 : Int32)) % (8 : Int32)) + (24 : Int32))).toNatClampNeg) := inb_of Sz12 (own_ib p2 24 24 rfl (by decide))
  obtain ⟨T13, h13, X13, e13, W13, st13⟩ := stB X11 hx hZ e11 Ar12 (j := (((p2 &&& (2147483647 : Int32)) % (8 : Int32)) + (24 : Int32))) hin12 (g := (mkF m 77 #[.val (.int p1), .val (.int p2), .val (.int p3), .val (.int p4), .val (.int p5), .val (.int p6), .val (.int ((p1 &&& (2147483647 : Int32)) % (5 : Int32))), .val (.int ((p2 &&& (2147483647 : Int32)) % (8 : Int32))), .val (.ref b1), .unset] [(.int (((p1 &&& (2147483647 : Int32)) % (5 : Int32)).toInt8.toInt32)), (.int (((p2 &&& (2147483647 : Int32)) % (8 : Int32)) + (24 : Int32))), (.ref b1)])) rfl rfl (hb hby at_77)
  refine Go.st st13 ?_
  have N13 := Fr.snoc X13 N11 g_b1
  replace S_KINDS := S_KINDS.wr W13
  replace V_KINDS := V_KINDS.other W13 ne_w_KINDS_b1
  replace S_CLIENT := S_CLIENT.wr W13
  replace S_SERVER := S_SERVER.wr W13
  replace S_PRODUCER := S_PRODUCER.wr W13
  replace S_CONSUMER := S_CONSUMER.wr W13
  replace E_w_CLIENT := E_w_CLIENT.wr W13
  replace E_w_SERVER := E_w_SERVER.wr W13
  replace E_w_PRODUCER := E_w_PRODUCER.wr W13
  replace E_w_CONSUMER := E_w_CONSUMER.wr W13
  replace Z0 := Nat.le_trans Z0 (Nat.le_of_eq W13.size.symm)
  replace K0 := K0.wr W13 (Or.inr sz_b1)
  obtain ⟨vs13, hl13, ha13, hb13, V13⟩ : ∃ l : List Value, l.length = 33 ∧ l.getD ((((p2 &&& (2147483647 : Int32)) % (8 : Int32)) + (24 : Int32))).toNatClampNeg (.int (0 : Int32)) = (.int ((((p1 &&& (2147483647 : Int32)) % (5 : Int32)).toInt8.toInt32).toInt8.toInt32)) ∧ (∀ i, i ≠ ((((p2 &&& (2147483647 : Int32)) % (8 : Int32)) + (24 : Int32))).toNatClampNeg → l.getD i (.int (0 : Int32)) = (vs11 : List Value).getD i (.int (0 : Int32))) ∧ Arv Z h13 b1 k1 .byte (33 : Int32) l (.int (0 : Int32)) := ⟨_, own_setl hl11, own_setg (own_lt_of (n := 33) (z := (33 : Int32)) hl11 (own_ib p2 24 24 rfl (by decide))), fun i hi => own_setn hi, Arv.set Ar12 qq12 Sz12 Ng12 Hs12 Gs12 (fits_nar_byte _) W13 _ rfl (own_lt_of (n := 33) (z := (33 : Int32)) hl11 (own_ib p2 24 24 rfl (by decide)))⟩
  replace V_b1 := V13
  show Go _ _ _ (T13.setTop (mkF m 78 #[.val (.int p1), .val (.int p2), .val (.int p3), .val (.int p4), .val (.int p5), .val (.int p6), .val (.int ((p1 &&& (2147483647 : Int32)) % (5 : Int32))), .val (.int ((p2 &&& (2147483647 : Int32)) % (8 : Int32))), .val (.ref b1), .unset] [])) _
  refine Go.st (fun t k => XS.aload X13.here hx rfl (hb hby at_78) rfl rfl k) ?_
  refine Go.st (fun t k => XS.iload X13.here hx rfl (hb hby at_80) rfl k) ?_
  obtain ⟨_, _, ⟨T14, L14, k14, n14⟩, -, X14, ⟨Lc14, hQ14, l14, y14, z14⟩, st14⟩ := Jvm.LawKit.callS X13 hx (y := (⟨"com/example/piece/piece/store/SpanRecord", "kind", "([BI)Lcom/example/piece/piece/span/Span$Kind;"⟩ : MethodName)) hown (mvT hZ (wd2 hw)) (mvT hZ (wd3 hw)) (mvT hZ (wd4 hw)) (mvT hZ (wd5 hw)) (by decide) (backOf (W := 0) (rm1 l Z a0 hw [] b1 ((p2 &&& (2147483647 : Int32)) % (8 : Int32)) w_KINDS k_K w_CLIENT w_SERVER w_PRODUCER w_CONSUMER k1 vs13 ((((p1 &&& (2147483647 : Int32)) % (5 : Int32)).toInt8.toInt32).toInt8.toInt32) ((p1 &&& (2147483647 : Int32)) % (5 : Int32)) h13 n0 Z0 S_KINDS V_KINDS V_b1 (by rw [own_24]; exact own_ib p2 24 24 rfl (by decide)) (by rw [own_24]; exact ha13) (own_c8 _ (own_rc p1)) (own_rc p1)) hZ (wd5 hw) (wd4 hw) (by decide) (by decide)) (g := (mkF m 82 #[.val (.int p1), .val (.int p2), .val (.int p3), .val (.int p4), .val (.int p5), .val (.int p6), .val (.int ((p1 &&& (2147483647 : Int32)) % (5 : Int32))), .val (.int ((p2 &&& (2147483647 : Int32)) % (8 : Int32))), .val (.ref b1), .unset] [(.int ((p2 &&& (2147483647 : Int32)) % (8 : Int32))), (.ref b1)])) rfl (by rw [hml]; rfl) (argsL := [(.ref b1), (.int ((p2 &&& (2147483647 : Int32)) % (8 : Int32)))]) (rest := []) (lenOf pd0 rfl) rfl (by show 2 * 0 + _ ≤ _; exact Nat.le_of_eq rfl) (hb hby at_82) (fun _ _ => ⟨rfl, e13, (by decide : 1 + 0 ≤ _), (by decide : 33 + 0 ≤ _)⟩)
  dsimp only [Pt.U, Pt.locs, Pt.cells, Pt.slots] at X14 l14 y14 z14 st14 hQ14
  subst l14 y14 z14
  refine Go.st st14 ?_
  obtain ⟨rfl, N14q, e14⟩ := hQ14
  have N14 := Fr.app N13 N14q
  show Go _ _ _ (T14.setTop (mkF m 85 #[.val (.int p1), .val (.int p2), .val (.int p3), .val (.int p4), .val (.int p5), .val (.int p6), .val (.int ((p1 &&& (2147483647 : Int32)) % (5 : Int32))), .val (.int ((p2 &&& (2147483647 : Int32)) % (8 : Int32))), .val (.ref b1), .unset] [(f1 w_CLIENT w_SERVER w_PRODUCER w_CONSUMER ((p1 &&& (2147483647 : Int32)) % (5 : Int32)))])) _
  by_cases hc15 : ((p1 &&& (2147483647 : Int32)) % (5 : Int32)) = (0 : Int32)
  · rw [show (f1 w_CLIENT w_SERVER w_PRODUCER w_CONSUMER ((p1 &&& (2147483647 : Int32)) % (5 : Int32))) = (.null : Value) from by unfold f1; simp only [if_pos hc15, if_true, if_false]]
    show Go _ _ _ (T14.setTop (mkF m 85 #[.val (.int p1), .val (.int p2), .val (.int p3), .val (.int p4), .val (.int p5), .val (.int p6), .val (.int ((p1 &&& (2147483647 : Int32)) % (5 : Int32))), .val (.int ((p2 &&& (2147483647 : Int32)) % (8 : Int32))), .val (.ref b1), .unset] [.null])) _
    refine Go.st (fun t k => XS.astore X14.here hx rfl (hb hby at_85) rfl rfl (l' := #[.val (.int p1), .val (.int p2), .val (.int p3), .val (.int p4), .val (.int p5), .val (.int p6), .val (.int ((p1 &&& (2147483647 : Int32)) % (5 : Int32))), .val (.int ((p2 &&& (2147483647 : Int32)) % (8 : Int32))), .val (.ref b1), .val .null]) rfl k) ?_
    refine Go.st (fun t k => XS.aload X14.here hx rfl (hb hby at_87) rfl rfl k) ?_
    refine Go.st (fun t k => XS.iload X14.here hx rfl (hb hby at_89) rfl k) ?_
    obtain ⟨_, _, ⟨T16, L16, k16, n16⟩, -, X16, ⟨Lc16, hQ16, l16, y16, z16⟩, st16⟩ := Jvm.LawKit.callS X14 hx (y := (⟨"com/example/piece/piece/store/SpanRecordKindPinLaw", "expected", "(I)Lcom/example/piece/piece/span/Span$Kind;"⟩ : MethodName)) hown (mvT hZ (wd6 hw)) (mvT hZ (wd7 hw)) (mvT hZ (wd8 hw)) (mvT hZ (wd9 hw)) (by decide) (backOf (W := 1) (rm2 l Z a0 hw [] ((p1 &&& (2147483647 : Int32)) % (5 : Int32)) w_CLIENT w_SERVER w_PRODUCER w_CONSUMER h13 n0 Z0 S_CLIENT E_w_CLIENT S_SERVER E_w_SERVER S_PRODUCER E_w_PRODUCER S_CONSUMER E_w_CONSUMER) hZ (wd9 hw) (wd8 hw) (by decide) (by decide)) (g := (mkF m 91 #[.val (.int p1), .val (.int p2), .val (.int p3), .val (.int p4), .val (.int p5), .val (.int p6), .val (.int ((p1 &&& (2147483647 : Int32)) % (5 : Int32))), .val (.int ((p2 &&& (2147483647 : Int32)) % (8 : Int32))), .val (.ref b1), .val .null] [(.int ((p1 &&& (2147483647 : Int32)) % (5 : Int32))), .null])) rfl (by rw [hml]; rfl) (argsL := [(.int ((p1 &&& (2147483647 : Int32)) % (5 : Int32)))]) (rest := [.null]) (lenOf pd1 rfl) rfl (by show 2 * 0 + _ ≤ _; exact Nat.le_of_eq rfl) (hb hby at_91) (fun _ _ => ⟨rfl, e14, (by decide : 1 + 0 ≤ _), (by decide : 33 + 0 ≤ _)⟩)
    dsimp only [Pt.U, Pt.locs, Pt.cells, Pt.slots] at X16 l16 y16 z16 st16 hQ16
    subst l16 y16 z16
    refine Go.st st16 ?_
    obtain ⟨rfl, N16q, e16⟩ := hQ16
    have N16 := Fr.app N14 N16q
    show Go _ _ _ (T16.setTop (mkF m 94 #[.val (.int p1), .val (.int p2), .val (.int p3), .val (.int p4), .val (.int p5), .val (.int p6), .val (.int ((p1 &&& (2147483647 : Int32)) % (5 : Int32))), .val (.int ((p2 &&& (2147483647 : Int32)) % (8 : Int32))), .val (.ref b1), .val .null] [(f2 ((p1 &&& (2147483647 : Int32)) % (5 : Int32)) w_CLIENT w_SERVER w_PRODUCER w_CONSUMER), .null])) _
    rw [show (f2 ((p1 &&& (2147483647 : Int32)) % (5 : Int32)) w_CLIENT w_SERVER w_PRODUCER w_CONSUMER) = (.null : Value) from by unfold f2; simp only [if_pos hc15, if_true, if_false]]
    show Go _ _ _ (T16.setTop (mkF m 94 #[.val (.int p1), .val (.int p2), .val (.int p3), .val (.int p4), .val (.int p5), .val (.int p6), .val (.int ((p1 &&& (2147483647 : Int32)) % (5 : Int32))), .val (.int ((p2 &&& (2147483647 : Int32)) % (8 : Int32))), .val (.ref b1), .val .null] [.null, .null])) _
    refine Go.st (fun t k => Jvm.RoadKit.acmp (g := (mkF m 94 #[.val (.int p1), .val (.int p2), .val (.int p3), .val (.int p4), .val (.int p5), .val (.int p6), .val (.int ((p1 &&& (2147483647 : Int32)) % (5 : Int32))), .val (.int ((p2 &&& (2147483647 : Int32)) % (8 : Int32))), .val (.ref b1), .val .null] [.null, .null])) X16 hx rfl rfl rfl (pc0 := 94) (pc' := 97) (same := true) rfl (hb hby at_94) rfl (decide_eq_true rfl) (by decide) (by decide) k) ?_
    show Go _ _ _ (T16.setTop (mkF m 97 #[.val (.int p1), .val (.int p2), .val (.int p3), .val (.int p4), .val (.int p5), .val (.int p6), .val (.int ((p1 &&& (2147483647 : Int32)) % (5 : Int32))), .val (.int ((p2 &&& (2147483647 : Int32)) % (8 : Int32))), .val (.ref b1), .val .null] [])) _
    refine Go.st (fun t k => XS.iconst X16.here hx rfl (hb hby at_97) k) ?_
    refine Go.st (fun t k => XS.goto X16.here hx rfl (pc0 := 98) (pc' := 102) rfl (hb hby at_98) (by decide) (by decide) k) ?_
    obtain ⟨fs, hr, hrun, hended, hW, hsame⟩ := X16.leave (v := some (.int (1 : Int32))) (fun h => by rw [Bd.returns] at h; cases h)
    refine Go.fin (retN X16 hx (t := .boolean) Bd.returns (by simp) (hb hby at_102) hr) hrun hended ⟨_, _, rfl, ?_, ⟨_, rfl⟩, hW, hsame.mono (by decide) (by decide)⟩
    show Q0 Z p1 p2 p3 p4 p5 p6 w_KINDS k_K w_CLIENT w_SERVER w_PRODUCER w_CONSUMER h0 n0 _ T16.heap _
    rw [e16]
    exact ⟨rfl, N16⟩
  · by_cases hc17 : ((p1 &&& (2147483647 : Int32)) % (5 : Int32)) = (1 : Int32)
    · rw [show (f1 w_CLIENT w_SERVER w_PRODUCER w_CONSUMER ((p1 &&& (2147483647 : Int32)) % (5 : Int32))) = ((.ref w_CLIENT) : Value) from by unfold f1; simp only [if_neg hc15, if_pos hc17, if_true, if_false]]
      show Go _ _ _ (T14.setTop (mkF m 85 #[.val (.int p1), .val (.int p2), .val (.int p3), .val (.int p4), .val (.int p5), .val (.int p6), .val (.int ((p1 &&& (2147483647 : Int32)) % (5 : Int32))), .val (.int ((p2 &&& (2147483647 : Int32)) % (8 : Int32))), .val (.ref b1), .unset] [(.ref w_CLIENT)])) _
      refine Go.st (fun t k => XS.astore X14.here hx rfl (hb hby at_85) rfl rfl (l' := #[.val (.int p1), .val (.int p2), .val (.int p3), .val (.int p4), .val (.int p5), .val (.int p6), .val (.int ((p1 &&& (2147483647 : Int32)) % (5 : Int32))), .val (.int ((p2 &&& (2147483647 : Int32)) % (8 : Int32))), .val (.ref b1), .val (.ref w_CLIENT)]) rfl k) ?_
      refine Go.st (fun t k => XS.aload X14.here hx rfl (hb hby at_87) rfl rfl k) ?_
      refine Go.st (fun t k => XS.iload X14.here hx rfl (hb hby at_89) rfl k) ?_
      obtain ⟨_, _, ⟨T18, L18, k18, n18⟩, -, X18, ⟨Lc18, hQ18, l18, y18, z18⟩, st18⟩ := Jvm.LawKit.callS X14 hx (y := (⟨"com/example/piece/piece/store/SpanRecordKindPinLaw", "expected", "(I)Lcom/example/piece/piece/span/Span$Kind;"⟩ : MethodName)) hown (mvT hZ (wd6 hw)) (mvT hZ (wd7 hw)) (mvT hZ (wd8 hw)) (mvT hZ (wd9 hw)) (by decide) (backOf (W := 1) (rm2 l Z a0 hw [] ((p1 &&& (2147483647 : Int32)) % (5 : Int32)) w_CLIENT w_SERVER w_PRODUCER w_CONSUMER h13 n0 Z0 S_CLIENT E_w_CLIENT S_SERVER E_w_SERVER S_PRODUCER E_w_PRODUCER S_CONSUMER E_w_CONSUMER) hZ (wd9 hw) (wd8 hw) (by decide) (by decide)) (g := (mkF m 91 #[.val (.int p1), .val (.int p2), .val (.int p3), .val (.int p4), .val (.int p5), .val (.int p6), .val (.int ((p1 &&& (2147483647 : Int32)) % (5 : Int32))), .val (.int ((p2 &&& (2147483647 : Int32)) % (8 : Int32))), .val (.ref b1), .val (.ref w_CLIENT)] [(.int ((p1 &&& (2147483647 : Int32)) % (5 : Int32))), (.ref w_CLIENT)])) rfl (by rw [hml]; rfl) (argsL := [(.int ((p1 &&& (2147483647 : Int32)) % (5 : Int32)))]) (rest := [(.ref w_CLIENT)]) (lenOf pd1 rfl) rfl (by show 2 * 0 + _ ≤ _; exact Nat.le_of_eq rfl) (hb hby at_91) (fun _ _ => ⟨rfl, e14, (by decide : 1 + 0 ≤ _), (by decide : 33 + 0 ≤ _)⟩)
      dsimp only [Pt.U, Pt.locs, Pt.cells, Pt.slots] at X18 l18 y18 z18 st18 hQ18
      subst l18 y18 z18
      refine Go.st st18 ?_
      obtain ⟨rfl, N18q, e18⟩ := hQ18
      have N18 := Fr.app N14 N18q
      show Go _ _ _ (T18.setTop (mkF m 94 #[.val (.int p1), .val (.int p2), .val (.int p3), .val (.int p4), .val (.int p5), .val (.int p6), .val (.int ((p1 &&& (2147483647 : Int32)) % (5 : Int32))), .val (.int ((p2 &&& (2147483647 : Int32)) % (8 : Int32))), .val (.ref b1), .val (.ref w_CLIENT)] [(f2 ((p1 &&& (2147483647 : Int32)) % (5 : Int32)) w_CLIENT w_SERVER w_PRODUCER w_CONSUMER), (.ref w_CLIENT)])) _
      rw [show (f2 ((p1 &&& (2147483647 : Int32)) % (5 : Int32)) w_CLIENT w_SERVER w_PRODUCER w_CONSUMER) = ((.ref w_CLIENT) : Value) from by unfold f2; simp only [if_neg hc15, if_pos hc17, if_true, if_false]]
      show Go _ _ _ (T18.setTop (mkF m 94 #[.val (.int p1), .val (.int p2), .val (.int p3), .val (.int p4), .val (.int p5), .val (.int p6), .val (.int ((p1 &&& (2147483647 : Int32)) % (5 : Int32))), .val (.int ((p2 &&& (2147483647 : Int32)) % (8 : Int32))), .val (.ref b1), .val (.ref w_CLIENT)] [(.ref w_CLIENT), (.ref w_CLIENT)])) _
      refine Go.st (fun t k => Jvm.RoadKit.acmp (g := (mkF m 94 #[.val (.int p1), .val (.int p2), .val (.int p3), .val (.int p4), .val (.int p5), .val (.int p6), .val (.int ((p1 &&& (2147483647 : Int32)) % (5 : Int32))), .val (.int ((p2 &&& (2147483647 : Int32)) % (8 : Int32))), .val (.ref b1), .val (.ref w_CLIENT)] [(.ref w_CLIENT), (.ref w_CLIENT)])) X18 hx rfl rfl rfl (pc0 := 94) (pc' := 97) (same := true) rfl (hb hby at_94) rfl (decide_eq_true rfl) (by decide) (by decide) k) ?_
      show Go _ _ _ (T18.setTop (mkF m 97 #[.val (.int p1), .val (.int p2), .val (.int p3), .val (.int p4), .val (.int p5), .val (.int p6), .val (.int ((p1 &&& (2147483647 : Int32)) % (5 : Int32))), .val (.int ((p2 &&& (2147483647 : Int32)) % (8 : Int32))), .val (.ref b1), .val (.ref w_CLIENT)] [])) _
      refine Go.st (fun t k => XS.iconst X18.here hx rfl (hb hby at_97) k) ?_
      refine Go.st (fun t k => XS.goto X18.here hx rfl (pc0 := 98) (pc' := 102) rfl (hb hby at_98) (by decide) (by decide) k) ?_
      obtain ⟨fs, hr, hrun, hended, hW, hsame⟩ := X18.leave (v := some (.int (1 : Int32))) (fun h => by rw [Bd.returns] at h; cases h)
      refine Go.fin (retN X18 hx (t := .boolean) Bd.returns (by simp) (hb hby at_102) hr) hrun hended ⟨_, _, rfl, ?_, ⟨_, rfl⟩, hW, hsame.mono (by decide) (by decide)⟩
      show Q0 Z p1 p2 p3 p4 p5 p6 w_KINDS k_K w_CLIENT w_SERVER w_PRODUCER w_CONSUMER h0 n0 _ T18.heap _
      rw [e18]
      exact ⟨rfl, N18⟩
    · by_cases hc19 : ((p1 &&& (2147483647 : Int32)) % (5 : Int32)) = (2 : Int32)
      · rw [show (f1 w_CLIENT w_SERVER w_PRODUCER w_CONSUMER ((p1 &&& (2147483647 : Int32)) % (5 : Int32))) = ((.ref w_SERVER) : Value) from by unfold f1; simp only [if_neg hc15, if_neg hc17, if_pos hc19, if_true, if_false]]
        show Go _ _ _ (T14.setTop (mkF m 85 #[.val (.int p1), .val (.int p2), .val (.int p3), .val (.int p4), .val (.int p5), .val (.int p6), .val (.int ((p1 &&& (2147483647 : Int32)) % (5 : Int32))), .val (.int ((p2 &&& (2147483647 : Int32)) % (8 : Int32))), .val (.ref b1), .unset] [(.ref w_SERVER)])) _
        refine Go.st (fun t k => XS.astore X14.here hx rfl (hb hby at_85) rfl rfl (l' := #[.val (.int p1), .val (.int p2), .val (.int p3), .val (.int p4), .val (.int p5), .val (.int p6), .val (.int ((p1 &&& (2147483647 : Int32)) % (5 : Int32))), .val (.int ((p2 &&& (2147483647 : Int32)) % (8 : Int32))), .val (.ref b1), .val (.ref w_SERVER)]) rfl k) ?_
        refine Go.st (fun t k => XS.aload X14.here hx rfl (hb hby at_87) rfl rfl k) ?_
        refine Go.st (fun t k => XS.iload X14.here hx rfl (hb hby at_89) rfl k) ?_
        obtain ⟨_, _, ⟨T20, L20, k20, n20⟩, -, X20, ⟨Lc20, hQ20, l20, y20, z20⟩, st20⟩ := Jvm.LawKit.callS X14 hx (y := (⟨"com/example/piece/piece/store/SpanRecordKindPinLaw", "expected", "(I)Lcom/example/piece/piece/span/Span$Kind;"⟩ : MethodName)) hown (mvT hZ (wd6 hw)) (mvT hZ (wd7 hw)) (mvT hZ (wd8 hw)) (mvT hZ (wd9 hw)) (by decide) (backOf (W := 1) (rm2 l Z a0 hw [] ((p1 &&& (2147483647 : Int32)) % (5 : Int32)) w_CLIENT w_SERVER w_PRODUCER w_CONSUMER h13 n0 Z0 S_CLIENT E_w_CLIENT S_SERVER E_w_SERVER S_PRODUCER E_w_PRODUCER S_CONSUMER E_w_CONSUMER) hZ (wd9 hw) (wd8 hw) (by decide) (by decide)) (g := (mkF m 91 #[.val (.int p1), .val (.int p2), .val (.int p3), .val (.int p4), .val (.int p5), .val (.int p6), .val (.int ((p1 &&& (2147483647 : Int32)) % (5 : Int32))), .val (.int ((p2 &&& (2147483647 : Int32)) % (8 : Int32))), .val (.ref b1), .val (.ref w_SERVER)] [(.int ((p1 &&& (2147483647 : Int32)) % (5 : Int32))), (.ref w_SERVER)])) rfl (by rw [hml]; rfl) (argsL := [(.int ((p1 &&& (2147483647 : Int32)) % (5 : Int32)))]) (rest := [(.ref w_SERVER)]) (lenOf pd1 rfl) rfl (by show 2 * 0 + _ ≤ _; exact Nat.le_of_eq rfl) (hb hby at_91) (fun _ _ => ⟨rfl, e14, (by decide : 1 + 0 ≤ _), (by decide : 33 + 0 ≤ _)⟩)
        dsimp only [Pt.U, Pt.locs, Pt.cells, Pt.slots] at X20 l20 y20 z20 st20 hQ20
        subst l20 y20 z20
        refine Go.st st20 ?_
        obtain ⟨rfl, N20q, e20⟩ := hQ20
        have N20 := Fr.app N14 N20q
        show Go _ _ _ (T20.setTop (mkF m 94 #[.val (.int p1), .val (.int p2), .val (.int p3), .val (.int p4), .val (.int p5), .val (.int p6), .val (.int ((p1 &&& (2147483647 : Int32)) % (5 : Int32))), .val (.int ((p2 &&& (2147483647 : Int32)) % (8 : Int32))), .val (.ref b1), .val (.ref w_SERVER)] [(f2 ((p1 &&& (2147483647 : Int32)) % (5 : Int32)) w_CLIENT w_SERVER w_PRODUCER w_CONSUMER), (.ref w_SERVER)])) _
        rw [show (f2 ((p1 &&& (2147483647 : Int32)) % (5 : Int32)) w_CLIENT w_SERVER w_PRODUCER w_CONSUMER) = ((.ref w_SERVER) : Value) from by unfold f2; simp only [if_neg hc15, if_neg hc17, if_pos hc19, if_true, if_false]]
        show Go _ _ _ (T20.setTop (mkF m 94 #[.val (.int p1), .val (.int p2), .val (.int p3), .val (.int p4), .val (.int p5), .val (.int p6), .val (.int ((p1 &&& (2147483647 : Int32)) % (5 : Int32))), .val (.int ((p2 &&& (2147483647 : Int32)) % (8 : Int32))), .val (.ref b1), .val (.ref w_SERVER)] [(.ref w_SERVER), (.ref w_SERVER)])) _
        refine Go.st (fun t k => Jvm.RoadKit.acmp (g := (mkF m 94 #[.val (.int p1), .val (.int p2), .val (.int p3), .val (.int p4), .val (.int p5), .val (.int p6), .val (.int ((p1 &&& (2147483647 : Int32)) % (5 : Int32))), .val (.int ((p2 &&& (2147483647 : Int32)) % (8 : Int32))), .val (.ref b1), .val (.ref w_SERVER)] [(.ref w_SERVER), (.ref w_SERVER)])) X20 hx rfl rfl rfl (pc0 := 94) (pc' := 97) (same := true) rfl (hb hby at_94) rfl (decide_eq_true rfl) (by decide) (by decide) k) ?_
        show Go _ _ _ (T20.setTop (mkF m 97 #[.val (.int p1), .val (.int p2), .val (.int p3), .val (.int p4), .val (.int p5), .val (.int p6), .val (.int ((p1 &&& (2147483647 : Int32)) % (5 : Int32))), .val (.int ((p2 &&& (2147483647 : Int32)) % (8 : Int32))), .val (.ref b1), .val (.ref w_SERVER)] [])) _
        refine Go.st (fun t k => XS.iconst X20.here hx rfl (hb hby at_97) k) ?_
        refine Go.st (fun t k => XS.goto X20.here hx rfl (pc0 := 98) (pc' := 102) rfl (hb hby at_98) (by decide) (by decide) k) ?_
        obtain ⟨fs, hr, hrun, hended, hW, hsame⟩ := X20.leave (v := some (.int (1 : Int32))) (fun h => by rw [Bd.returns] at h; cases h)
        refine Go.fin (retN X20 hx (t := .boolean) Bd.returns (by simp) (hb hby at_102) hr) hrun hended ⟨_, _, rfl, ?_, ⟨_, rfl⟩, hW, hsame.mono (by decide) (by decide)⟩
        show Q0 Z p1 p2 p3 p4 p5 p6 w_KINDS k_K w_CLIENT w_SERVER w_PRODUCER w_CONSUMER h0 n0 _ T20.heap _
        rw [e20]
        exact ⟨rfl, N20⟩
      · by_cases hc21 : ((p1 &&& (2147483647 : Int32)) % (5 : Int32)) = (3 : Int32)
        · rw [show (f1 w_CLIENT w_SERVER w_PRODUCER w_CONSUMER ((p1 &&& (2147483647 : Int32)) % (5 : Int32))) = ((.ref w_PRODUCER) : Value) from by unfold f1; simp only [if_neg hc15, if_neg hc17, if_neg hc19, if_pos hc21, if_true, if_false]]
          show Go _ _ _ (T14.setTop (mkF m 85 #[.val (.int p1), .val (.int p2), .val (.int p3), .val (.int p4), .val (.int p5), .val (.int p6), .val (.int ((p1 &&& (2147483647 : Int32)) % (5 : Int32))), .val (.int ((p2 &&& (2147483647 : Int32)) % (8 : Int32))), .val (.ref b1), .unset] [(.ref w_PRODUCER)])) _
          refine Go.st (fun t k => XS.astore X14.here hx rfl (hb hby at_85) rfl rfl (l' := #[.val (.int p1), .val (.int p2), .val (.int p3), .val (.int p4), .val (.int p5), .val (.int p6), .val (.int ((p1 &&& (2147483647 : Int32)) % (5 : Int32))), .val (.int ((p2 &&& (2147483647 : Int32)) % (8 : Int32))), .val (.ref b1), .val (.ref w_PRODUCER)]) rfl k) ?_
          refine Go.st (fun t k => XS.aload X14.here hx rfl (hb hby at_87) rfl rfl k) ?_
          refine Go.st (fun t k => XS.iload X14.here hx rfl (hb hby at_89) rfl k) ?_
          obtain ⟨_, _, ⟨T22, L22, k22, n22⟩, -, X22, ⟨Lc22, hQ22, l22, y22, z22⟩, st22⟩ := Jvm.LawKit.callS X14 hx (y := (⟨"com/example/piece/piece/store/SpanRecordKindPinLaw", "expected", "(I)Lcom/example/piece/piece/span/Span$Kind;"⟩ : MethodName)) hown (mvT hZ (wd6 hw)) (mvT hZ (wd7 hw)) (mvT hZ (wd8 hw)) (mvT hZ (wd9 hw)) (by decide) (backOf (W := 1) (rm2 l Z a0 hw [] ((p1 &&& (2147483647 : Int32)) % (5 : Int32)) w_CLIENT w_SERVER w_PRODUCER w_CONSUMER h13 n0 Z0 S_CLIENT E_w_CLIENT S_SERVER E_w_SERVER S_PRODUCER E_w_PRODUCER S_CONSUMER E_w_CONSUMER) hZ (wd9 hw) (wd8 hw) (by decide) (by decide)) (g := (mkF m 91 #[.val (.int p1), .val (.int p2), .val (.int p3), .val (.int p4), .val (.int p5), .val (.int p6), .val (.int ((p1 &&& (2147483647 : Int32)) % (5 : Int32))), .val (.int ((p2 &&& (2147483647 : Int32)) % (8 : Int32))), .val (.ref b1), .val (.ref w_PRODUCER)] [(.int ((p1 &&& (2147483647 : Int32)) % (5 : Int32))), (.ref w_PRODUCER)])) rfl (by rw [hml]; rfl) (argsL := [(.int ((p1 &&& (2147483647 : Int32)) % (5 : Int32)))]) (rest := [(.ref w_PRODUCER)]) (lenOf pd1 rfl) rfl (by show 2 * 0 + _ ≤ _; exact Nat.le_of_eq rfl) (hb hby at_91) (fun _ _ => ⟨rfl, e14, (by decide : 1 + 0 ≤ _), (by decide : 33 + 0 ≤ _)⟩)
          dsimp only [Pt.U, Pt.locs, Pt.cells, Pt.slots] at X22 l22 y22 z22 st22 hQ22
          subst l22 y22 z22
          refine Go.st st22 ?_
          obtain ⟨rfl, N22q, e22⟩ := hQ22
          have N22 := Fr.app N14 N22q
          show Go _ _ _ (T22.setTop (mkF m 94 #[.val (.int p1), .val (.int p2), .val (.int p3), .val (.int p4), .val (.int p5), .val (.int p6), .val (.int ((p1 &&& (2147483647 : Int32)) % (5 : Int32))), .val (.int ((p2 &&& (2147483647 : Int32)) % (8 : Int32))), .val (.ref b1), .val (.ref w_PRODUCER)] [(f2 ((p1 &&& (2147483647 : Int32)) % (5 : Int32)) w_CLIENT w_SERVER w_PRODUCER w_CONSUMER), (.ref w_PRODUCER)])) _
          rw [show (f2 ((p1 &&& (2147483647 : Int32)) % (5 : Int32)) w_CLIENT w_SERVER w_PRODUCER w_CONSUMER) = ((.ref w_PRODUCER) : Value) from by unfold f2; simp only [if_neg hc15, if_neg hc17, if_neg hc19, if_pos hc21, if_true, if_false]]
          show Go _ _ _ (T22.setTop (mkF m 94 #[.val (.int p1), .val (.int p2), .val (.int p3), .val (.int p4), .val (.int p5), .val (.int p6), .val (.int ((p1 &&& (2147483647 : Int32)) % (5 : Int32))), .val (.int ((p2 &&& (2147483647 : Int32)) % (8 : Int32))), .val (.ref b1), .val (.ref w_PRODUCER)] [(.ref w_PRODUCER), (.ref w_PRODUCER)])) _
          refine Go.st (fun t k => Jvm.RoadKit.acmp (g := (mkF m 94 #[.val (.int p1), .val (.int p2), .val (.int p3), .val (.int p4), .val (.int p5), .val (.int p6), .val (.int ((p1 &&& (2147483647 : Int32)) % (5 : Int32))), .val (.int ((p2 &&& (2147483647 : Int32)) % (8 : Int32))), .val (.ref b1), .val (.ref w_PRODUCER)] [(.ref w_PRODUCER), (.ref w_PRODUCER)])) X22 hx rfl rfl rfl (pc0 := 94) (pc' := 97) (same := true) rfl (hb hby at_94) rfl (decide_eq_true rfl) (by decide) (by decide) k) ?_
          show Go _ _ _ (T22.setTop (mkF m 97 #[.val (.int p1), .val (.int p2), .val (.int p3), .val (.int p4), .val (.int p5), .val (.int p6), .val (.int ((p1 &&& (2147483647 : Int32)) % (5 : Int32))), .val (.int ((p2 &&& (2147483647 : Int32)) % (8 : Int32))), .val (.ref b1), .val (.ref w_PRODUCER)] [])) _
          refine Go.st (fun t k => XS.iconst X22.here hx rfl (hb hby at_97) k) ?_
          refine Go.st (fun t k => XS.goto X22.here hx rfl (pc0 := 98) (pc' := 102) rfl (hb hby at_98) (by decide) (by decide) k) ?_
          obtain ⟨fs, hr, hrun, hended, hW, hsame⟩ := X22.leave (v := some (.int (1 : Int32))) (fun h => by rw [Bd.returns] at h; cases h)
          refine Go.fin (retN X22 hx (t := .boolean) Bd.returns (by simp) (hb hby at_102) hr) hrun hended ⟨_, _, rfl, ?_, ⟨_, rfl⟩, hW, hsame.mono (by decide) (by decide)⟩
          show Q0 Z p1 p2 p3 p4 p5 p6 w_KINDS k_K w_CLIENT w_SERVER w_PRODUCER w_CONSUMER h0 n0 _ T22.heap _
          rw [e22]
          exact ⟨rfl, N22⟩
        · rw [show (f1 w_CLIENT w_SERVER w_PRODUCER w_CONSUMER ((p1 &&& (2147483647 : Int32)) % (5 : Int32))) = ((.ref w_CONSUMER) : Value) from by unfold f1; simp only [if_neg hc15, if_neg hc17, if_neg hc19, if_neg hc21, if_true, if_false]]
          show Go _ _ _ (T14.setTop (mkF m 85 #[.val (.int p1), .val (.int p2), .val (.int p3), .val (.int p4), .val (.int p5), .val (.int p6), .val (.int ((p1 &&& (2147483647 : Int32)) % (5 : Int32))), .val (.int ((p2 &&& (2147483647 : Int32)) % (8 : Int32))), .val (.ref b1), .unset] [(.ref w_CONSUMER)])) _
          refine Go.st (fun t k => XS.astore X14.here hx rfl (hb hby at_85) rfl rfl (l' := #[.val (.int p1), .val (.int p2), .val (.int p3), .val (.int p4), .val (.int p5), .val (.int p6), .val (.int ((p1 &&& (2147483647 : Int32)) % (5 : Int32))), .val (.int ((p2 &&& (2147483647 : Int32)) % (8 : Int32))), .val (.ref b1), .val (.ref w_CONSUMER)]) rfl k) ?_
          refine Go.st (fun t k => XS.aload X14.here hx rfl (hb hby at_87) rfl rfl k) ?_
          refine Go.st (fun t k => XS.iload X14.here hx rfl (hb hby at_89) rfl k) ?_
          obtain ⟨_, _, ⟨T23, L23, k23, n23⟩, -, X23, ⟨Lc23, hQ23, l23, y23, z23⟩, st23⟩ := Jvm.LawKit.callS X14 hx (y := (⟨"com/example/piece/piece/store/SpanRecordKindPinLaw", "expected", "(I)Lcom/example/piece/piece/span/Span$Kind;"⟩ : MethodName)) hown (mvT hZ (wd6 hw)) (mvT hZ (wd7 hw)) (mvT hZ (wd8 hw)) (mvT hZ (wd9 hw)) (by decide) (backOf (W := 1) (rm2 l Z a0 hw [] ((p1 &&& (2147483647 : Int32)) % (5 : Int32)) w_CLIENT w_SERVER w_PRODUCER w_CONSUMER h13 n0 Z0 S_CLIENT E_w_CLIENT S_SERVER E_w_SERVER S_PRODUCER E_w_PRODUCER S_CONSUMER E_w_CONSUMER) hZ (wd9 hw) (wd8 hw) (by decide) (by decide)) (g := (mkF m 91 #[.val (.int p1), .val (.int p2), .val (.int p3), .val (.int p4), .val (.int p5), .val (.int p6), .val (.int ((p1 &&& (2147483647 : Int32)) % (5 : Int32))), .val (.int ((p2 &&& (2147483647 : Int32)) % (8 : Int32))), .val (.ref b1), .val (.ref w_CONSUMER)] [(.int ((p1 &&& (2147483647 : Int32)) % (5 : Int32))), (.ref w_CONSUMER)])) rfl (by rw [hml]; rfl) (argsL := [(.int ((p1 &&& (2147483647 : Int32)) % (5 : Int32)))]) (rest := [(.ref w_CONSUMER)]) (lenOf pd1 rfl) rfl (by show 2 * 0 + _ ≤ _; exact Nat.le_of_eq rfl) (hb hby at_91) (fun _ _ => ⟨rfl, e14, (by decide : 1 + 0 ≤ _), (by decide : 33 + 0 ≤ _)⟩)
          dsimp only [Pt.U, Pt.locs, Pt.cells, Pt.slots] at X23 l23 y23 z23 st23 hQ23
          subst l23 y23 z23
          refine Go.st st23 ?_
          obtain ⟨rfl, N23q, e23⟩ := hQ23
          have N23 := Fr.app N14 N23q
          show Go _ _ _ (T23.setTop (mkF m 94 #[.val (.int p1), .val (.int p2), .val (.int p3), .val (.int p4), .val (.int p5), .val (.int p6), .val (.int ((p1 &&& (2147483647 : Int32)) % (5 : Int32))), .val (.int ((p2 &&& (2147483647 : Int32)) % (8 : Int32))), .val (.ref b1), .val (.ref w_CONSUMER)] [(f2 ((p1 &&& (2147483647 : Int32)) % (5 : Int32)) w_CLIENT w_SERVER w_PRODUCER w_CONSUMER), (.ref w_CONSUMER)])) _
          rw [show (f2 ((p1 &&& (2147483647 : Int32)) % (5 : Int32)) w_CLIENT w_SERVER w_PRODUCER w_CONSUMER) = ((.ref w_CONSUMER) : Value) from by unfold f2; simp only [if_neg hc15, if_neg hc17, if_neg hc19, if_neg hc21, if_true, if_false]]
          show Go _ _ _ (T23.setTop (mkF m 94 #[.val (.int p1), .val (.int p2), .val (.int p3), .val (.int p4), .val (.int p5), .val (.int p6), .val (.int ((p1 &&& (2147483647 : Int32)) % (5 : Int32))), .val (.int ((p2 &&& (2147483647 : Int32)) % (8 : Int32))), .val (.ref b1), .val (.ref w_CONSUMER)] [(.ref w_CONSUMER), (.ref w_CONSUMER)])) _
          refine Go.st (fun t k => Jvm.RoadKit.acmp (g := (mkF m 94 #[.val (.int p1), .val (.int p2), .val (.int p3), .val (.int p4), .val (.int p5), .val (.int p6), .val (.int ((p1 &&& (2147483647 : Int32)) % (5 : Int32))), .val (.int ((p2 &&& (2147483647 : Int32)) % (8 : Int32))), .val (.ref b1), .val (.ref w_CONSUMER)] [(.ref w_CONSUMER), (.ref w_CONSUMER)])) X23 hx rfl rfl rfl (pc0 := 94) (pc' := 97) (same := true) rfl (hb hby at_94) rfl (decide_eq_true rfl) (by decide) (by decide) k) ?_
          show Go _ _ _ (T23.setTop (mkF m 97 #[.val (.int p1), .val (.int p2), .val (.int p3), .val (.int p4), .val (.int p5), .val (.int p6), .val (.int ((p1 &&& (2147483647 : Int32)) % (5 : Int32))), .val (.int ((p2 &&& (2147483647 : Int32)) % (8 : Int32))), .val (.ref b1), .val (.ref w_CONSUMER)] [])) _
          refine Go.st (fun t k => XS.iconst X23.here hx rfl (hb hby at_97) k) ?_
          refine Go.st (fun t k => XS.goto X23.here hx rfl (pc0 := 98) (pc' := 102) rfl (hb hby at_98) (by decide) (by decide) k) ?_
          obtain ⟨fs, hr, hrun, hended, hW, hsame⟩ := X23.leave (v := some (.int (1 : Int32))) (fun h => by rw [Bd.returns] at h; cases h)
          refine Go.fin (retN X23 hx (t := .boolean) Bd.returns (by simp) (hb hby at_102) hr) hrun hended ⟨_, _, rfl, ?_, ⟨_, rfl⟩, hW, hsame.mono (by decide) (by decide)⟩
          show Q0 Z p1 p2 p3 p4 p5 p6 w_KINDS k_K w_CLIENT w_SERVER w_PRODUCER w_CONSUMER h0 n0 _ T23.heap _
          rw [e23]
          exact ⟨rfl, N23⟩
theorem own_len {args : Array Value} {s : State} {t : Term} {a : Addr} {cl : Cell} {ty : FieldType} {k : Int32} (ev : t.eval args s none [] s = some (.ref a)) (A : Arr s s.heap a cl ty) (h : (Jvm.Cond.eq (.length t) (.int k)).value args s none s [] = some true) : cl.slots.size < 2 ^ 31 ∧ cl.slots.size.toInt32 = k := by
  have e := own_eqi h
  have ha := A.fin (Vm.Alike.refl _)
  by_cases hn : cl.slots.size < 2 ^ 31
  · rw [len_f ev ha hn] at e
    exact ⟨hn, Value.int.inj (Option.some.inj e)⟩
  · exact absurd e (by simp [Term.eval, ev, ha, show ¬ cl.slots.size < 2147483648 from hn])
theorem own_eqr {args : Array Value} {s : State} {t u : Term} {x : Addr} (hu : u.eval args s none [] s = some (.ref x)) (h : (Jvm.Cond.eq t u).value args s none s [] = some true) : t.eval args s none [] s = some (.ref x) := by
  obtain ⟨v, y, e1, e2, k1, k2⟩ := cmp_v (Or.inl h)
  cases hu.symm.trans e2
  cases v <;> simp [Cond.value, e1, hu] at h
  rw [e1, h]
theorem own_elr {args : Array Value} {s : State} {t u : Term} {a x : Addr} {cl : Cell} {ty : FieldType} {j : Int32} (ev : t.eval args s none [] s = some (.ref a)) (A : Arr s s.heap a cl ty) (hu : u.eval args s none [] s = some (.ref x)) (h : (Jvm.Cond.eq (.elem t (.int j)) u).value args s none s [] = some true) : cl.slots[j.toNatClampNeg]? = some (.ref x) :=
  (elem_in (own_eqr hu h) ev (Term.int_eval j) A.1).2
theorem own_eli {args : Array Value} {s : State} {t : Term} {a : Addr} {cl : Cell} {ty : FieldType} {j k : Int32} (ev : t.eval args s none [] s = some (.ref a)) (A : Arr s s.heap a cl ty) (h : (Jvm.Cond.eq (.elem t (.int j)) (.int k)).value args s none s [] = some true) : atv cl j = k :=
  atv_of (elem_in (own_eqi h) ev (Term.int_eval j) A.1).2
theorem own_tabArv {s : State} {a : Addr} {cl : Cell} {ty : FieldType} {z : Int32} (hfit : Fit s) (T : Tab s s.heap a cl ty z) (q : cl.slots.size < 2 ^ 31) (e : cl.slots.size.toInt32 = z) (xs : List Int32) (h : ∀ j : Int32, ¬ j < 0 → j < z → atv cl j = own_at xs j) : Arv s s.heap a cl.cls ty z (xs.map Value.int) (.int 0) := by
  have hk : ∀ k, k < cl.slots.size → (Nat.toInt32 k).toNatClampNeg = k ∧ cl.slots[k]? = some ((xs.map Value.int).getD k (.int 0)) := by
    intro k hk
    have e1 : (Nat.toInt32 k).toNatClampNeg = k := by simp only [Int32.toNatClampNeg, len_toInt (Nat.lt_trans hk q)]; rfl
    have hi := idx_in hk q
    have g := T.2.2.2 (Nat.toInt32 k) hi
    have hlt : Nat.toInt32 k < z := by
      rw [← e, Int32.lt_iff_toInt_lt, len_toInt (Nat.lt_trans hk q), len_toInt q]
      omega
    rw [h _ (fun y => hi (Or.inl y)) hlt, ← own_atv, e1] at g
    exact ⟨e1, g⟩
  refine ⟨cl, T.1, rfl, T.2.1, T.2.2.1, fun k q' => (hk k q').2, fun k q' => ?_⟩
  exact elem_fits (j := Nat.toInt32 k) hfit T.1 (idx_in q' q) (by rw [(hk k q').1]; exact (hk k q').2)
theorem own_all2 {args : Array Value} {s : State} {t : Term} {a : Addr} {cl : Cell} {ty : FieldType} {z hi v : Int32} (et : ∀ idx, t.eval args s none idx s = some (.ref a)) (T : Tab s s.heap a cl ty z) (h : (Jvm.Cond.all t (.or (.le (.int hi) (.index 0)) (.eq (.elem t (.index 0)) (.int v)))).value args s none s [] = some true) (j : Int32) (h0 : ¬ j < 0) (h1 : j < z) : ¬ j < hi ∨ atv cl j = v := by
  have ha := T.1.fin (Vm.Alike.refl _)
  have hin : ¬ (j < 0 ∨ cl.slots.size ≤ j.toNatClampNeg) := inb_of T.2.1 ⟨h0, h1⟩
  have c := Cond.all_elim (et []) ha h j.toNatClampNeg (Nat.lt_of_not_le fun x => hin (Or.inr x))
  have e1 : (Term.elem t (.index 0)).eval args s none [j.toNatClampNeg] s = some (.int (atv cl j)) := (elem_f (et _) (idx_at h0) ha h0).trans (T.2.2.2 j hin)
  have v1 : (Jvm.Cond.le (.int hi) (.index 0)).value args s none s [j.toNatClampNeg] = some (decide (hi ≤ j)) := Cond.le_ints (Term.int_eval hi) (idx_at h0)
  have v2 : (Jvm.Cond.eq (.elem t (.index 0)) (.int v)).value args s none s [j.toNatClampNeg] = some (decide (atv cl j = v)) := Cond.eq_ints e1 (Term.int_eval v)
  rcases or_e2 v1 v2 c with q | q
  · exact Or.inl (Int32.not_lt.mpr q)
  · exact Or.inr q
theorem own_all3 {args : Array Value} {s : State} {t : Term} {a : Addr} {cl : Cell} {ty : FieldType} {z lo hi v : Int32} (et : ∀ idx, t.eval args s none idx s = some (.ref a)) (T : Tab s s.heap a cl ty z) (h : (Jvm.Cond.all t (.or (.lt (.index 0) (.int lo)) (.or (.le (.int hi) (.index 0)) (.eq (.elem t (.index 0)) (.int v))))).value args s none s [] = some true) (j : Int32) (h0 : ¬ j < 0) (h1 : j < z) : j < lo ∨ ¬ j < hi ∨ atv cl j = v := by
  have ha := T.1.fin (Vm.Alike.refl _)
  have hin : ¬ (j < 0 ∨ cl.slots.size ≤ j.toNatClampNeg) := inb_of T.2.1 ⟨h0, h1⟩
  have c := Cond.all_elim (et []) ha h j.toNatClampNeg (Nat.lt_of_not_le fun x => hin (Or.inr x))
  have e1 : (Term.elem t (.index 0)).eval args s none [j.toNatClampNeg] s = some (.int (atv cl j)) := (elem_f (et _) (idx_at h0) ha h0).trans (T.2.2.2 j hin)
  have v1 : (Jvm.Cond.lt (.index 0) (.int lo)).value args s none s [j.toNatClampNeg] = some (decide (j < lo)) := Cond.lt_ints (idx_at h0) (Term.int_eval lo)
  have v2 : (Jvm.Cond.le (.int hi) (.index 0)).value args s none s [j.toNatClampNeg] = some (decide (hi ≤ j)) := Cond.le_ints (Term.int_eval hi) (idx_at h0)
  have v3 : (Jvm.Cond.eq (.elem t (.index 0)) (.int v)).value args s none s [j.toNatClampNeg] = some (decide (atv cl j = v)) := Cond.eq_ints e1 (Term.int_eval v)
  exact or3 c v1 v2 v3
theorem own_l48 {args : Array Value} {s : State} {t : Term} {cl : Cell} {j : Int32} {k : Int64} (h0 : ¬ j < 0) (e1 : (Term.elem t (.index 0)).eval args s none [j.toNatClampNeg] s = some (.int (atv cl j))) : (Jvm.Cond.eq (.op1 .i2l (.elem t (.index 0))) (.op2 .ladd (.op1 .i2l (.index 0)) (.long k))).value args s none s [j.toNatClampNeg] = some (decide ((atv cl j).toInt64 = j.toInt64 + k)) :=
  eq_L (i2l_at e1) ((op2_f (i2l_at (idx_at h0)) rfl).trans rfl)
theorem own_allA {args : Array Value} {s : State} {t : Term} {a : Addr} {cl : Cell} {ty : FieldType} {z hi : Int32} {k : Int64} (et : ∀ idx, t.eval args s none idx s = some (.ref a)) (T : Tab s s.heap a cl ty z) (h : (Jvm.Cond.all t (.or (.le (.int hi) (.index 0)) (.eq (.op1 .i2l (.elem t (.index 0))) (.op2 .ladd (.op1 .i2l (.index 0)) (.long k))))).value args s none s [] = some true) (j : Int32) (h0 : ¬ j < 0) (h1 : j < z) (h2 : j < hi) : (atv cl j).toInt64 = j.toInt64 + k := by
  have ha := T.1.fin (Vm.Alike.refl _)
  have hin : ¬ (j < 0 ∨ cl.slots.size ≤ j.toNatClampNeg) := inb_of T.2.1 ⟨h0, h1⟩
  have c := Cond.all_elim (et []) ha h j.toNatClampNeg (Nat.lt_of_not_le fun x => hin (Or.inr x))
  have e1 : (Term.elem t (.index 0)).eval args s none [j.toNatClampNeg] s = some (.int (atv cl j)) := (elem_f (et _) (idx_at h0) ha h0).trans (T.2.2.2 j hin)
  rcases or_e2 (Cond.le_ints (Term.int_eval hi) (idx_at h0)) (own_l48 h0 e1) c with q | q
  · exact absurd h2 (Int32.not_lt.mpr q)
  · exact q
theorem own_allB {args : Array Value} {s : State} {t : Term} {a : Addr} {cl : Cell} {ty : FieldType} {z lo : Int32} {k : Int64} (et : ∀ idx, t.eval args s none idx s = some (.ref a)) (T : Tab s s.heap a cl ty z) (h : (Jvm.Cond.all t (.or (.lt (.index 0) (.int lo)) (.eq (.op1 .i2l (.elem t (.index 0))) (.op2 .ladd (.op1 .i2l (.index 0)) (.long k))))).value args s none s [] = some true) (j : Int32) (h0 : ¬ j < 0) (h1 : j < z) (h2 : ¬ j < lo) : (atv cl j).toInt64 = j.toInt64 + k := by
  have ha := T.1.fin (Vm.Alike.refl _)
  have hin : ¬ (j < 0 ∨ cl.slots.size ≤ j.toNatClampNeg) := inb_of T.2.1 ⟨h0, h1⟩
  have c := Cond.all_elim (et []) ha h j.toNatClampNeg (Nat.lt_of_not_le fun x => hin (Or.inr x))
  have e1 : (Term.elem t (.index 0)).eval args s none [j.toNatClampNeg] s = some (.int (atv cl j)) := (elem_f (et _) (idx_at h0) ha h0).trans (T.2.2.2 j hin)
  rcases or_e2 (Cond.lt_ints (idx_at h0) (Term.int_eval lo)) (own_l48 h0 e1) c with q | q
  · exact absurd q h2
  · exact q

theorem wd11 {Z : State} {a0 : Array Value} (hw : ∀ d ∈ tables_1, d.before a0 Z = true) : (Jvm.Cond.laysStatic "com/example/piece/piece/store/SpanRecord" "KINDS" "[Lcom/example/piece/piece/span/Span$Kind;").before a0 Z = true := hw _ (List.mem_of_getElem? (i := 11) rfl)
theorem wd12 {Z : State} {a0 : Array Value} (hw : ∀ d ∈ tables_1, d.before a0 Z = true) : (Jvm.Cond.initialized "com/example/piece/piece/span/Span$Kind").before a0 Z = true := hw _ (List.mem_of_getElem? (i := 12) rfl)
theorem wd13 {Z : State} {a0 : Array Value} (hw : ∀ d ∈ tables_1, d.before a0 Z = true) : (Jvm.Cond.laysStatic "com/example/piece/piece/span/Span$Kind" "CONSUMER" "Lcom/example/piece/piece/span/Span$Kind;").before a0 Z = true := hw _ (List.mem_of_getElem? (i := 13) rfl)
theorem wd15 {Z : State} {a0 : Array Value} (hw : ∀ d ∈ tables_1, d.before a0 Z = true) : (Jvm.Cond.laysStatic "com/example/piece/piece/span/Span$Kind" "PRODUCER" "Lcom/example/piece/piece/span/Span$Kind;").before a0 Z = true := hw _ (List.mem_of_getElem? (i := 15) rfl)
theorem wd17 {Z : State} {a0 : Array Value} (hw : ∀ d ∈ tables_1, d.before a0 Z = true) : (Jvm.Cond.laysStatic "com/example/piece/piece/span/Span$Kind" "SERVER" "Lcom/example/piece/piece/span/Span$Kind;").before a0 Z = true := hw _ (List.mem_of_getElem? (i := 17) rfl)
theorem wd19 {Z : State} {a0 : Array Value} (hw : ∀ d ∈ tables_1, d.before a0 Z = true) : (Jvm.Cond.laysStatic "com/example/piece/piece/span/Span$Kind" "CLIENT" "Lcom/example/piece/piece/span/Span$Kind;").before a0 Z = true := hw _ (List.mem_of_getElem? (i := 19) rfl)
set_option maxRecDepth 65536 in
set_option maxHeartbeats 16000000 in
theorem comes_1 {Post : Tables → Env → Array Value → State → Outcome → State → Prop} (hpost : ∀ tb e args s v u, (limb_1_1.after args s (.returned v) u = true ∧ limb_1_2.after args s (.returned v) u = true ∧ True) → FrameEnd s (.returned v) u (Jvm.fieldLocs frame_1_writes args s ++ Jvm.arrayLocs frame_1_arrays args s ++ Jvm.staticLocs frame_1_statics s) 16 192 → Post tb e args s (.returned v) u) :
    ArmFor flags0 classFile x code maxLocals ret World_1 tables_1 room_1 Calls_1 rest_1 Pre_1 Post := by
  intro l hfl _ _ p e ha hc hk s m args below hf hA hF happ hP
  obtain ⟨hcalls, hrest, hpre⟩ := hP
  obtain ⟨-, -, -, hnamed, -, -, -, hat⟩ := (Spec.applies_iff hf).mp happ
  obtain ⟨hg, hn⟩ := and_e (Cond.before_iff.mp (show (Jvm.Cond.and given_1 narrow_1).before args s = true from hpre))
  obtain ⟨g1, g2⟩ := and_e hg
  obtain ⟨g3, g4⟩ := and_e g2
  obtain ⟨g5, g6⟩ := and_e g4
  obtain ⟨g7, g8⟩ := and_e g6
  obtain ⟨g9, g10⟩ := and_e g8
  obtain ⟨g11, g12⟩ := and_e g10
  obtain ⟨g13, g14⟩ := and_e hn
  obtain ⟨g15, g16⟩ := and_e g14
  obtain ⟨g17, g18⟩ := and_e g16
  obtain ⟨g19, g20⟩ := and_e g18
  obtain ⟨g21, g22⟩ := and_e g20
  obtain ⟨g23, g24⟩ := and_e g22
  obtain ⟨g25, g26⟩ := and_e g24
  obtain ⟨g27, g28⟩ := and_e g26
  obtain ⟨g29, g30⟩ := and_e g28
  obtain ⟨w0, w1, w2, w3, w4, w5, rfl⟩ : ∃ w0 w1 w2 w3 w4 w5 : Value, args = #[w0, w1, w2, w3, w4, w5] := by
    have hs : args.size = 6 := by simpa [Cond.value, given_1] using g1
    obtain ⟨L⟩ := args
    match L, hs with
    | [w0, w1, w2, w3, w4, w5], _ => exact ⟨w0, w1, w2, w3, w4, w5, rfl⟩
  have hw := fun d (hd : d ∈ tables_1) => atoms_spec (ws := Jvm.Cond.code x code maxLocals ret :: tables_1) hat d (List.mem_cons_of_mem _ hd)
  have hfit : Fit s := fun {y c} hc i hi => by
    obtain ⟨ha, rfl⟩ := Array.getElem?_eq_some_iff.mp hc
    have q := List.all_eq_true.mp ((Array.all_eq_true_iff_forall_mem.mp hF) _ (Array.getElem_mem ha)) i (List.mem_range.mpr hi)
    simpa [Array.getElem?_eq_getElem hi] using q
  obtain ⟨i0, ei0⟩ := is_v g3
  obtain rfl : w0 = (.int i0) := Option.some.inj ei0
  obtain ⟨i1, ei1⟩ := is_v g5
  obtain rfl : w1 = (.int i1) := Option.some.inj ei1
  obtain ⟨i2, ei2⟩ := is_v g7
  obtain rfl : w2 = (.int i2) := Option.some.inj ei2
  obtain ⟨i3, ei3⟩ := is_v g9
  obtain rfl : w3 = (.int i3) := Option.some.inj ei3
  obtain ⟨i4, ei4⟩ := is_v g11
  obtain rfl : w4 = (.int i4) := Option.some.inj ei4
  obtain ⟨i5, ei5⟩ := is_v g12
  obtain rfl : w5 = (.int i5) := Option.some.inj ei5
  obtain ⟨v_KINDS, ev_v_KINDS⟩ := arr_v g13
  have S_v_KINDS := Sta.start ev_v_KINDS (Or.inr ⟨(wd4 hw), (wd11 hw)⟩)
  obtain ⟨cl_v_KINDS, Ar_v_KINDS⟩ := Arr.start ev_v_KINDS g13
  obtain ⟨q_v_KINDS, e_v_KINDS⟩ := own_len ev_v_KINDS Ar_v_KINDS g15
  obtain ⟨v_CONSUMER, ev_v_CONSUMER⟩ := exa_v g17
  have E_v_CONSUMER := Exa.start ev_v_CONSUMER g17
  have S_v_CONSUMER := Sta.start ev_v_CONSUMER (Or.inr ⟨(wd12 hw), (wd13 hw)⟩)
  obtain ⟨v_PRODUCER, ev_v_PRODUCER⟩ := exa_v g21
  have E_v_PRODUCER := Exa.start ev_v_PRODUCER g21
  have S_v_PRODUCER := Sta.start ev_v_PRODUCER (Or.inr ⟨(wd12 hw), (wd15 hw)⟩)
  obtain ⟨v_SERVER, ev_v_SERVER⟩ := exa_v g25
  have E_v_SERVER := Exa.start ev_v_SERVER g25
  have S_v_SERVER := Sta.start ev_v_SERVER (Or.inr ⟨(wd12 hw), (wd17 hw)⟩)
  obtain ⟨v_CLIENT, ev_v_CLIENT⟩ := exa_v g29
  have E_v_CLIENT := Exa.start ev_v_CLIENT g29
  have S_v_CLIENT := Sta.start ev_v_CLIENT (Or.inr ⟨(wd12 hw), (wd19 hw)⟩)
  have hel_v_KINDS_0 := own_elr ev_v_KINDS Ar_v_KINDS ev_v_CLIENT g30
  have hel_v_KINDS_1 := own_elr ev_v_KINDS Ar_v_KINDS ev_v_SERVER g27
  have hel_v_KINDS_2 := own_elr ev_v_KINDS Ar_v_KINDS ev_v_PRODUCER g23
  have hel_v_KINDS_3 := own_elr ev_v_KINDS Ar_v_KINDS ev_v_CONSUMER g19
  have V_v_KINDS := Arv.start (dv := .null) (vs := [(.ref v_CLIENT), (.ref v_SERVER), (.ref v_PRODUCER), (.ref v_CONSUMER)]) hfit Ar_v_KINDS q_v_KINDS e_v_KINDS (by decide) rfl ⟨hel_v_KINDS_0, hel_v_KINDS_1, hel_v_KINDS_2, hel_v_KINDS_3, trivial⟩
  have hplain := trivial
  obtain ⟨n, o, h1, h2, h3, _, L, rfl, ⟨rfl, N⟩, hq⟩ := rm0 l s _ hw tables_1 i0 i1 i2 i3 i4 i5 v_KINDS cl_v_KINDS.cls v_CLIENT v_SERVER v_PRODUCER v_CONSUMER s.heap s.heap.size (Nat.le_refl _) S_v_KINDS V_v_KINDS S_v_CLIENT S_v_SERVER S_v_PRODUCER S_v_CONSUMER E_v_CLIENT E_v_SERVER E_v_PRODUCER E_v_CONSUMER p e ha hc hk s m _ below hf ((Spec.applies_iff_loose hf).mp happ).1 ⟨rfl, State.Warmed39.refl s, rfl⟩ trivial
  refine ⟨n, _, h1, h2, h3, hpost _ _ _ _ _ _ ⟨Cond.after_iff.mpr rfl, Cond.after_iff.mpr (eq_i res_at (Term.int_eval (1)) rfl), trivial⟩ ⟨hq.1, hq.2.1, (hq.2.2.sift fun y hy => Or.inr (N y hy)).mono (by decide) (by decide)⟩⟩
theorem main_1_1 : Claimed_1_1 := comes_1 fun _ _ _ _ _ _ h hF => ⟨h.1, hF⟩
theorem main_1_2 : Claimed_1_2 := comes_1 fun _ _ _ _ _ _ h hF => ⟨h.2.1, hF⟩
end Jvm.Pilot.@@N@@
namespace Jvm.Pilot.@@N@@
open Jvm Jvm.ClassFile Sem Op Lib Jvm.Free Jvm.Stand Jvm.Pilot.@@N@@.Jvm.D
/-! MADE BY PROGRAM (witnessworld.py) out of the Statement's table words and the real class files: 14 classes; the members and pool entries that the words name. The judged class is class 1, her method 1. -/
namespace start1
open Jvm.ClassFile
def u (s : String) : CpInfo := .utf8 (stringToUtf16 s)
/-- a pool by its gaps: so many unusable entries, then the entry; so many at the end -/
def gap : Nat → List CpInfo → List CpInfo
  | 0, r => r
  | n + 1, r => .unusable :: gap n r
def poolList (es : List (Nat × CpInfo)) (last : Nat) : List CpInfo := es.foldr (fun e r => gap e.1 (e.2 :: r)) (gap last [])
def pool (es : List (Nat × CpInfo)) (last : Nat) : Array CpInfo := ⟨poolList es last⟩
def fileOf (pool : Array CpInfo) (this : Nat) (attrs : Array Attribute := #[]) (ms : Array MethodInfo := #[]) (fl : Nat := 33) (sup : Nat := 0) (ifs : Array Nat := #[]) (fds : Array FieldInfo := #[]) : ClassFile where
  minorVersion := 0
  majorVersion := 65
  constantPool := pool
  accessFlags := fl
  thisClass := this
  superClass := sup
  interfaces := ifs
  fields := fds
  methods := ms
  attributes := attrs
def plain (name : String) (sup : Option ClassId) : Class where
  name := name
  kind := .ordinary
  loader := none
  accessFlags := 33
  super := sup
  interfaces := #[]
  cf := none
  fields := #[]
  methods := #[]
  instanceTypes := #[]
  staticTypes := #[]
  resolved := #[]
  callSites := []
  init := .initialized
  statics := none
  mirror := none

def pool0 : Array CpInfo := pool [(5, u "<init>"), (0, u "()V"), (1, .class_ 10), (1, u "java/lang/Object")] 113

def k0m0 : Method := { name := "<init>", desc := "()V", sig := { parameters := [], returnType := none }, accessFlags := 1, code := none }
/-- java/lang/Object -/
def k0 : Class := { plain "java/lang/Object" none with
  accessFlags := 33
  interfaces := #[]
  cf := some (fileOf pool0 8 #[] #[{ accessFlags := 1, nameIndex := 5, descriptorIndex := 6, attributes := #[] }] 33 0 #[] #[])
  fields := #[]
  methods := #[k0m0]
  instanceTypes := #[]
  staticTypes := #[]
  resolved := Array.replicate 124 none
  statics := none }

def pool1 : Array CpInfo := pool [(2, .class_ 4), (1, u "java/lang/Object"), (0, u "<init>"), (0, u "()V"), (0, .integer 2147483647), (0, .methodref 9 10), (0, .class_ 11), (0, .nameAndType 12 13), (0, u "com/example/piece/piece/store/SpanRecord"), (0, u "kind"), (0, u "([BI)Lcom/example/piece/piece/span/Span$Kind;"), (0, .methodref 15 16), (0, .class_ 17), (0, .nameAndType 18 19), (0, u "com/example/piece/piece/store/SpanRecordKindPinLaw"), (0, u "expected"), (0, u "(I)Lcom/example/piece/piece/span/Span$Kind;"), (0, .fieldref 21 22), (0, .class_ 23), (0, .nameAndType 24 25), (0, u "com/example/piece/piece/span/Span$Kind"), (0, u "CLIENT"), (0, u "Lcom/example/piece/piece/span/Span$Kind;"), (0, .fieldref 21 27), (0, .nameAndType 28 25), (0, u "SERVER"), (0, .fieldref 21 30), (0, .nameAndType 31 25), (0, u "PRODUCER"), (0, .fieldref 21 33), (0, .nameAndType 34 25), (0, u "CONSUMER"), (2, u "law"), (0, u "(IIIIII)Z")] 9

def k1m0 : Method := { name := "<init>", desc := "()V", sig := { parameters := [], returnType := none }, accessFlags := 2, code := none }
def k1c1 : Code := { maxStack := 3, maxLocals := 10, code := code, exceptionTable := #[], attributes := #[] }
def k1m1 : Method := { name := "law", desc := "(IIIIII)Z", sig := { parameters := [.int, .int, .int, .int, .int, .int], returnType := some .boolean }, accessFlags := 9, code := some k1c1 }
def k1c2 : Code := { maxStack := 2, maxLocals := 1, code := method_3_code, exceptionTable := #[], attributes := #[] }
def k1m2 : Method := { name := "expected", desc := "(I)Lcom/example/piece/piece/span/Span$Kind;", sig := { parameters := [.int], returnType := some (.object "com/example/piece/piece/span/Span$Kind") }, accessFlags := 10, code := some k1c2 }
/-- com/example/piece/piece/store/SpanRecordKindPinLaw -/
def k1 : Class := { plain "com/example/piece/piece/store/SpanRecordKindPinLaw" (some 0) with
  accessFlags := 49
  interfaces := #[]
  cf := some (fileOf pool1 15 #[] #[{ accessFlags := 2, nameIndex := 5, descriptorIndex := 6, attributes := #[] }, { accessFlags := 9, nameIndex := 37, descriptorIndex := 38, attributes := #[] }, { accessFlags := 10, nameIndex := 18, descriptorIndex := 19, attributes := #[] }] 49 2 #[] #[])
  fields := #[]
  methods := #[k1m0, k1m1, k1m2]
  instanceTypes := #[]
  staticTypes := #[]
  resolved := Array.replicate 48 none
  statics := none }

def pool2 : Array CpInfo := pool [(1, .class_ 2), (0, u "com/example/piece/piece/store/SpanRecord"), (3, .class_ 8), (1, u "java/lang/Object"), (0, u "<init>"), (0, u "()V"), (240, .fieldref 1 252), (0, .nameAndType 253 254), (0, u "KINDS"), (0, u "[Lcom/example/piece/piece/span/Span$Kind;"), (4, u "kind"), (2, .class_ 264), (1, u "com/example/piece/piece/store/SpanRecord$Kept"), (164, u "ERROR_TAG"), (0, u "[B"), (12, u "TRACE_PREFIX_LENGTH"), (0, u "I"), (2, u "KEY_LENGTH"), (1, u "FORMAT"), (1, u "PARENT_ID"), (1, u "NAME"), (1, u "TIMESTAMP"), (1, u "DURATION"), (1, u "LOCAL_ENDPOINT"), (0, u "REMOTE_ENDPOINT"), (1, u "ANNOTATIONS"), (1, u "TAGS"), (1, u "DEBUG"), (1, u "DEBUG_TRUE"), (1, u "SHARED"), (1, u "SHARED_TRUE"), (1, u "SERVICE_NAME"), (0, u "IPV4"), (0, u "IPV6"), (0, u "PORT"), (0, u "VALUE_CAPACITY"), (0, u "LAYOUT_LENGTH"), (1, u "PARTS_SLOT"), (1, u "END_SLOT"), (0, u "LAST_PART_SLOT"), (0, u "FIRST_PART_SLOT"), (27, u "([BI)Lcom/example/piece/piece/span/Span$Kind;")] 39

def k2m0 : Method := { name := "<init>", desc := "()V", sig := { parameters := [], returnType := none }, accessFlags := 2, code := none }
def k2c1 : Code := { maxStack := 3, maxLocals := 3, code := prog_48_method_23_code, exceptionTable := #[], attributes := #[] }
def k2m1 : Method := { name := "kind", desc := "([BI)Lcom/example/piece/piece/span/Span$Kind;", sig := { parameters := [(.array .byte), .int], returnType := some (.object "com/example/piece/piece/span/Span$Kind") }, accessFlags := 8, code := some k2c1 }
/-- com/example/piece/piece/store/SpanRecord -/
def k2 : Class := { plain "com/example/piece/piece/store/SpanRecord" (some 0) with
  accessFlags := 48
  interfaces := #[]
  cf := some (fileOf pool2 1 #[.nestMembers #[262]] #[{ accessFlags := 2, nameIndex := 9, descriptorIndex := 10, attributes := #[] }, { accessFlags := 8, nameIndex := 259, descriptorIndex := 513, attributes := #[] }] 48 6 #[] #[{ accessFlags := 24, nameIndex := 443, descriptorIndex := 444, attributes := #[] }, { accessFlags := 26, nameIndex := 447, descriptorIndex := 444, attributes := #[] }, { accessFlags := 26, nameIndex := 449, descriptorIndex := 444, attributes := #[] }, { accessFlags := 26, nameIndex := 451, descriptorIndex := 444, attributes := #[] }, { accessFlags := 26, nameIndex := 453, descriptorIndex := 444, attributes := #[] }, { accessFlags := 26, nameIndex := 455, descriptorIndex := 444, attributes := #[] }, { accessFlags := 26, nameIndex := 457, descriptorIndex := 444, attributes := #[] }, { accessFlags := 26, nameIndex := 459, descriptorIndex := 444, attributes := #[] }, { accessFlags := 26, nameIndex := 460, descriptorIndex := 444, attributes := #[] }, { accessFlags := 26, nameIndex := 462, descriptorIndex := 444, attributes := #[] }, { accessFlags := 26, nameIndex := 464, descriptorIndex := 444, attributes := #[] }, { accessFlags := 26, nameIndex := 466, descriptorIndex := 444, attributes := #[] }, { accessFlags := 26, nameIndex := 468, descriptorIndex := 444, attributes := #[] }, { accessFlags := 26, nameIndex := 470, descriptorIndex := 444, attributes := #[] }, { accessFlags := 26, nameIndex := 472, descriptorIndex := 444, attributes := #[] }, { accessFlags := 26, nameIndex := 474, descriptorIndex := 444, attributes := #[] }, { accessFlags := 26, nameIndex := 475, descriptorIndex := 444, attributes := #[] }, { accessFlags := 26, nameIndex := 476, descriptorIndex := 444, attributes := #[] }, { accessFlags := 26, nameIndex := 477, descriptorIndex := 444, attributes := #[] }, { accessFlags := 26, nameIndex := 253, descriptorIndex := 254, attributes := #[] }, { accessFlags := 26, nameIndex := 429, descriptorIndex := 430, attributes := #[] }, { accessFlags := 26, nameIndex := 478, descriptorIndex := 444, attributes := #[] }, { accessFlags := 24, nameIndex := 479, descriptorIndex := 444, attributes := #[] }, { accessFlags := 26, nameIndex := 481, descriptorIndex := 444, attributes := #[] }, { accessFlags := 26, nameIndex := 483, descriptorIndex := 444, attributes := #[] }, { accessFlags := 26, nameIndex := 484, descriptorIndex := 444, attributes := #[] }, { accessFlags := 26, nameIndex := 485, descriptorIndex := 444, attributes := #[] }])
  fields := #[{ name := "TRACE_PREFIX_LENGTH", type := .int, accessFlags := 24, slot := 0, constantValue := 0 }, { name := "KEY_LENGTH", type := .int, accessFlags := 26, slot := 1, constantValue := 0 }, { name := "FORMAT", type := .int, accessFlags := 26, slot := 2, constantValue := 0 }, { name := "PARENT_ID", type := .int, accessFlags := 26, slot := 3, constantValue := 0 }, { name := "NAME", type := .int, accessFlags := 26, slot := 4, constantValue := 0 }, { name := "TIMESTAMP", type := .int, accessFlags := 26, slot := 5, constantValue := 0 }, { name := "DURATION", type := .int, accessFlags := 26, slot := 6, constantValue := 0 }, { name := "LOCAL_ENDPOINT", type := .int, accessFlags := 26, slot := 7, constantValue := 0 }, { name := "REMOTE_ENDPOINT", type := .int, accessFlags := 26, slot := 8, constantValue := 0 }, { name := "ANNOTATIONS", type := .int, accessFlags := 26, slot := 9, constantValue := 0 }, { name := "TAGS", type := .int, accessFlags := 26, slot := 10, constantValue := 0 }, { name := "DEBUG", type := .int, accessFlags := 26, slot := 11, constantValue := 0 }, { name := "DEBUG_TRUE", type := .int, accessFlags := 26, slot := 12, constantValue := 0 }, { name := "SHARED", type := .int, accessFlags := 26, slot := 13, constantValue := 0 }, { name := "SHARED_TRUE", type := .int, accessFlags := 26, slot := 14, constantValue := 0 }, { name := "SERVICE_NAME", type := .int, accessFlags := 26, slot := 15, constantValue := 0 }, { name := "IPV4", type := .int, accessFlags := 26, slot := 16, constantValue := 0 }, { name := "IPV6", type := .int, accessFlags := 26, slot := 17, constantValue := 0 }, { name := "PORT", type := .int, accessFlags := 26, slot := 18, constantValue := 0 }, { name := "KINDS", type := (.array (.object "com/example/piece/piece/span/Span$Kind")), accessFlags := 26, slot := 19, constantValue := 0 }, { name := "ERROR_TAG", type := (.array .byte), accessFlags := 26, slot := 20, constantValue := 0 }, { name := "VALUE_CAPACITY", type := .int, accessFlags := 26, slot := 21, constantValue := 0 }, { name := "LAYOUT_LENGTH", type := .int, accessFlags := 24, slot := 22, constantValue := 0 }, { name := "PARTS_SLOT", type := .int, accessFlags := 26, slot := 23, constantValue := 0 }, { name := "END_SLOT", type := .int, accessFlags := 26, slot := 24, constantValue := 0 }, { name := "LAST_PART_SLOT", type := .int, accessFlags := 26, slot := 25, constantValue := 0 }, { name := "FIRST_PART_SLOT", type := .int, accessFlags := 26, slot := 26, constantValue := 0 }]
  methods := #[k2m0, k2m1]
  instanceTypes := #[]
  staticTypes := #[.int, .int, .int, .int, .int, .int, .int, .int, .int, .int, .int, .int, .int, .int, .int, .int, .int, .int, .int, (.array (.object "com/example/piece/piece/span/Span$Kind")), (.array .byte), .int, .int, .int, .int, .int, .int]
  resolved := Array.replicate 553 none
  statics := some 0 }

def pool3 : Array CpInfo := pool [(1, .class_ 2), (0, u "java/lang/constant/Constable"), (0, .class_ 4), (0, u "java/lang/Object")] 6

/-- java/lang/constant/Constable -/
def k3 : Class := { plain "java/lang/constant/Constable" (some 0) with
  accessFlags := 1537
  interfaces := #[]
  cf := some (fileOf pool3 1 #[] #[] 1537 3 #[] #[])
  fields := #[]
  methods := #[]
  instanceTypes := #[]
  staticTypes := #[]
  resolved := Array.replicate 11 none
  statics := none }

def pool4 : Array CpInfo := pool [(1, .class_ 2), (0, u "java/lang/Comparable"), (0, .class_ 4), (0, u "java/lang/Object")] 7

/-- java/lang/Comparable -/
def k4 : Class := { plain "java/lang/Comparable" (some 0) with
  accessFlags := 1537
  interfaces := #[]
  cf := some (fileOf pool4 1 #[] #[] 1537 3 #[] #[])
  fields := #[]
  methods := #[]
  instanceTypes := #[]
  staticTypes := #[]
  resolved := Array.replicate 12 none
  statics := none }

def pool5 : Array CpInfo := pool [(1, .class_ 2), (0, u "java/io/Serializable"), (0, .class_ 4), (0, u "java/lang/Object")] 2

/-- java/io/Serializable -/
def k5 : Class := { plain "java/io/Serializable" (some 0) with
  accessFlags := 1537
  interfaces := #[]
  cf := some (fileOf pool5 1 #[] #[] 1537 3 #[] #[])
  fields := #[]
  methods := #[]
  instanceTypes := #[]
  staticTypes := #[]
  resolved := Array.replicate 7 none
  statics := none }

def pool6 : Array CpInfo := pool [(2, .class_ 4), (1, u "java/lang/Enum"), (0, u "name"), (0, u "Ljava/lang/String;"), (2, u "ordinal"), (0, u "I"), (1, .class_ 14), (1, u "java/lang/Object"), (4, u "hash"), (86, .class_ 108), (1, u "java/lang/Enum$EnumDesc"), (2, .class_ 112), (0, u "java/lang/constant/Constable"), (0, .class_ 114), (0, u "java/lang/Comparable"), (0, .class_ 116), (0, u "java/io/Serializable")] 87

/-- java/lang/Enum -/
def k6 : Class := { plain "java/lang/Enum" (some 0) with
  accessFlags := 1057
  interfaces := #[3, 4, 5]
  cf := some (fileOf pool6 2 #[.nestMembers #[106]] #[] 1057 12 #[111, 113, 115] #[{ accessFlags := 18, nameIndex := 5, descriptorIndex := 6, attributes := #[] }, { accessFlags := 18, nameIndex := 9, descriptorIndex := 10, attributes := #[] }, { accessFlags := 2, nameIndex := 19, descriptorIndex := 10, attributes := #[] }])
  fields := #[{ name := "name", type := (.object "java/lang/String"), accessFlags := 18, slot := 0, constantValue := 0 }, { name := "ordinal", type := .int, accessFlags := 18, slot := 1, constantValue := 0 }, { name := "hash", type := .int, accessFlags := 2, slot := 2, constantValue := 0 }]
  methods := #[]
  instanceTypes := #[(.object "java/lang/String"), .int, .int]
  staticTypes := #[]
  resolved := Array.replicate 204 none
  statics := none }

def pool7 : Array CpInfo := pool [(1, .class_ 2), (0, u "com/example/piece/piece/span/Span$Kind"), (2, u "CLIENT"), (0, u "Lcom/example/piece/piece/span/Span$Kind;"), (2, u "SERVER"), (2, u "PRODUCER"), (2, u "CONSUMER"), (2, u "$VALUES"), (0, u "[Lcom/example/piece/piece/span/Span$Kind;"), (6, .class_ 28), (1, u "java/lang/Enum"), (27, .class_ 57), (0, u "com/example/piece/piece/span/Span")] 2

/-- com/example/piece/piece/span/Span$Kind -/
def k7 : Class := { plain "com/example/piece/piece/span/Span$Kind" (some 6) with
  accessFlags := 16433
  interfaces := #[]
  cf := some (fileOf pool7 1 #[.nestHost 56] #[] 16433 26 #[] #[{ accessFlags := 16409, nameIndex := 5, descriptorIndex := 6, attributes := #[] }, { accessFlags := 16409, nameIndex := 9, descriptorIndex := 6, attributes := #[] }, { accessFlags := 16409, nameIndex := 12, descriptorIndex := 6, attributes := #[] }, { accessFlags := 16409, nameIndex := 15, descriptorIndex := 6, attributes := #[] }, { accessFlags := 4122, nameIndex := 18, descriptorIndex := 19, attributes := #[] }])
  fields := #[{ name := "CLIENT", type := (.object "com/example/piece/piece/span/Span$Kind"), accessFlags := 16409, slot := 0, constantValue := 0 }, { name := "SERVER", type := (.object "com/example/piece/piece/span/Span$Kind"), accessFlags := 16409, slot := 1, constantValue := 0 }, { name := "PRODUCER", type := (.object "com/example/piece/piece/span/Span$Kind"), accessFlags := 16409, slot := 2, constantValue := 0 }, { name := "CONSUMER", type := (.object "com/example/piece/piece/span/Span$Kind"), accessFlags := 16409, slot := 3, constantValue := 0 }, { name := "$VALUES", type := (.array (.object "com/example/piece/piece/span/Span$Kind")), accessFlags := 4122, slot := 4, constantValue := 0 }]
  methods := #[]
  instanceTypes := #[(.object "java/lang/String"), .int, .int]
  staticTypes := #[(.object "com/example/piece/piece/span/Span$Kind"), (.object "com/example/piece/piece/span/Span$Kind"), (.object "com/example/piece/piece/span/Span$Kind"), (.object "com/example/piece/piece/span/Span$Kind"), (.array (.object "com/example/piece/piece/span/Span$Kind"))]
  resolved := Array.replicate 60 none
  statics := some 1 }

def pool8 : Array CpInfo := pool [(1, u "java/lang/Cloneable"), (0, .class_ 1), (0, u "java/lang/Object"), (0, .class_ 3)] 3

/-- java/lang/Cloneable -/
def k8 : Class := { plain "java/lang/Cloneable" (some 0) with
  accessFlags := 1537
  interfaces := #[]
  cf := some (fileOf pool8 2 #[] #[] 1537 4 #[] #[])
  fields := #[]
  methods := #[]
  instanceTypes := #[]
  staticTypes := #[]
  resolved := Array.replicate 8 none
  statics := none }

/-- the primitive byte -/
def k9 : Class := { plain "byte" none with kind := .primitive 'B', accessFlags := 0x411 }
/-- [B -/
def k10 : Class := { plain "[B" (some 0) with kind := .array 9 .byte, interfaces := #[8, 5], accessFlags := 1041 }

/-- the primitive int -/
def k11 : Class := { plain "int" none with kind := .primitive 'I', accessFlags := 0x411 }
/-- [I -/
def k12 : Class := { plain "[I" (some 0) with kind := .array 11 .int, interfaces := #[8, 5], accessFlags := 1041 }

/-- [Lcom/example/piece/piece/span/Span$Kind; -/
def k13 : Class := { plain "[Lcom/example/piece/piece/span/Span$Kind;" (some 0) with kind := .array 7 (.object "com/example/piece/piece/span/Span$Kind"), interfaces := #[8, 5], accessFlags := 1041 }

def heap : Heap := #[{ cls := 2, slots := #[.int 0, .int 0, .int 0, .int 0, .int 0, .int 0, .int 0, .int 0, .int 0, .int 0, .int 0, .int 0, .int 0, .int 0, .int 0, .int 0, .int 0, .int 0, .int 0, .ref 2, .null, .int 0, .int 0, .int 0, .int 0, .int 0, .int 0], vm := .statics 2 },
  { cls := 7, slots := #[.ref 3, .ref 4, .ref 5, .ref 6, .null], vm := .statics 7 },
  { cls := 13, slots := #[.ref 3, .ref 4, .ref 5, .ref 6], vm := .none },
  { cls := 7, slots := #[.null, .int 0, .int 0], vm := .none },
  { cls := 7, slots := #[.null, .int 1, .int 0], vm := .none },
  { cls := 7, slots := #[.null, .int 2, .int 0], vm := .none },
  { cls := 7, slots := #[.null, .int 3, .int 0], vm := .none }]
def classes : Array Class := #[k0, k1, k2, k3, k4, k5, k6, k7, k8, k9, k10, k11, k12, k13]
def interned : List (Array UInt16 × Addr) := []
def slotsUsed : Nat := 48
def theMethod : MethodId := ⟨1, 1⟩
def args0 : Array Value := #[.int 5, .int 6, .int 7, .int 8, .int 9, .int 10]
def aboutOver (below : List Frame) : State where
  vm := { classes := classes, interned := interned.toArray }
  heap := heap
  slotsUsed := slotsUsed
  threads := #[{ frames := .invoking theMethod args0 :: below }]
def below0 : List Frame := [.native { method := ⟨0, 0⟩, args := #[] }]
def about1 : State := aboutOver below0
def p0 : Program := .bare "" "" ""
def e0 : Env := launch0.env 0 0 0
theorem w_frames : about1.frames = Frame.invoking theMethod args0 :: below0 := rfl
set_option maxRecDepth 65536 in
theorem w_args : argsFit about1.vm theMethod args0 = true := by decide +kernel
set_option maxRecDepth 65536 in
theorem w_heap : heapFits about1 = true := by decide +kernel
set_option maxRecDepth 65536 in
theorem w_runnable : about1.curStatus? = some .runnable := by decide +kernel
set_option maxRecDepth 65536 in
theorem w_alone : about1.alone = true := by decide +kernel
set_option maxRecDepth 65536 in
theorem w_named : about1.methodNamed? x = some theMethod := by decide +kernel
set_option maxRecDepth 65536 in
theorem w_hears : about1.hears theMethod below0 = true := by decide +kernel
set_option maxRecDepth 65536 in
theorem w_ripe : about1.ripe theMethod args0 below0 = true := by decide +kernel
theorem w_running : about1.status = .running := rfl
set_option maxRecDepth 65536 in
theorem w_room : about1.hasRoom e0.platform room_1 = true :=
  launch0.hasRoom_least _ room_1 (by decide +kernel) (by decide +kernel) (by decide +kernel) (by decide +kernel) (by decide +kernel) (by decide +kernel)
theorem allAtoms_all (ts : List Jvm.Cond) (a : Array Jvm.Value) (st : Jvm.State) : (allAtoms ts).before a st = ts.all (fun c => c.before a st) := by
  induction ts with
  | nil => rfl
  | cons c t ih =>
    show (Jvm.Cond.and c (allAtoms t)).before a st = _
    rw [Jvm.Cond.before_and, ih, List.all_cons]
def words1 : List Jvm.Cond := Jvm.Cond.code x code maxLocals ret :: tables_1
/-- a 'code' word, met by the world's own term for the bytes: nothing is compared byte by byte -/
theorem code_word {y : MethodName} {bytes : ByteArray} {mx : Nat} {rt : Option FieldType} {a : Array Value} {s : State} {m : MethodId} {meth : Method} {c : Code} (h1 : s.methodNamed? y = some m) (h2 : s.vm.method? m = some meth) (h3 : meth.code = some c) (h4 : c.code = bytes)
    (h5 : (c.maxLocals == mx && c.exceptionTable.isEmpty && decide (c.maxStack ≤ mostOperands) && decide (meth.sig.returnType = rt) && !meth.locks && decide (parseMethodDescriptor y.desc = some meth.sig)) = true) : (Jvm.Cond.code y bytes mx rt).before a s = true := by
  simp only [Bool.and_eq_true, beq_iff_eq, Bool.not_eq_true', decide_eq_true_eq] at h5
  obtain ⟨⟨⟨⟨⟨g1, g2⟩, g3⟩, g4⟩, g5⟩, g6⟩ := h5
  simp [Cond.before, Cond.holds, Cond.value, h1, h2, h3, h4, g1, g2, g3, g4, g5, g6]
def isCode : Jvm.Cond → Bool
  | .code _ _ _ _ => true
  | _ => false
theorem all_split {L : List Jvm.Cond} {P : Jvm.Cond → Bool} (h1 : L.all (fun c => isCode c || P c) = true) (h2 : ∀ c ∈ L.filter isCode, P c = true) : L.all P = true := by
  refine List.all_eq_true.mpr fun c hc => ?_
  have h := List.all_eq_true.mp h1 c hc
  rcases Bool.eq_false_or_eq_true (isCode c) with hi | hi
  · exact h2 c (List.mem_filter.mpr ⟨hc, hi⟩)
  · simpa [hi] using h
set_option maxRecDepth 65536 in
theorem w_c0 : (Jvm.Cond.code x code maxLocals ret).before args0 about1 = true := code_word (m := ⟨1, 1⟩) (meth := k1m1) (c := k1c1) (by decide +kernel) rfl rfl rfl (by decide +kernel)
set_option maxRecDepth 65536 in
theorem w_c1 : (Jvm.Cond.code ({ cls := "com/example/piece/piece/store/SpanRecord", name := "kind", desc := "([BI)Lcom/example/piece/piece/span/Span$Kind;" } : Jvm.MethodName) prog_48_method_23_code (3 : Nat) (Option.some (Jvm.ClassFile.FieldType.object "com/example/piece/piece/span/Span$Kind"))).before args0 about1 = true := code_word (m := ⟨2, 1⟩) (meth := k2m1) (c := k2c1) (by decide +kernel) rfl rfl rfl (by decide +kernel)
set_option maxRecDepth 65536 in
theorem w_c2 : (Jvm.Cond.code ({ cls := "com/example/piece/piece/store/SpanRecordKindPinLaw", name := "expected", desc := "(I)Lcom/example/piece/piece/span/Span$Kind;" } : Jvm.MethodName) method_3_code (1 : Nat) (Option.some (Jvm.ClassFile.FieldType.object "com/example/piece/piece/span/Span$Kind"))).before args0 about1 = true := code_word (m := ⟨1, 2⟩) (meth := k1m2) (c := k1c2) (by decide +kernel) rfl rfl rfl (by decide +kernel)
def codes1 : List Jvm.Cond := [Jvm.Cond.code x code maxLocals ret, Jvm.Cond.code ({ cls := "com/example/piece/piece/store/SpanRecord", name := "kind", desc := "([BI)Lcom/example/piece/piece/span/Span$Kind;" } : Jvm.MethodName) prog_48_method_23_code (3 : Nat) (Option.some (Jvm.ClassFile.FieldType.object "com/example/piece/piece/span/Span$Kind")), Jvm.Cond.code ({ cls := "com/example/piece/piece/store/SpanRecordKindPinLaw", name := "expected", desc := "(I)Lcom/example/piece/piece/span/Span$Kind;" } : Jvm.MethodName) method_3_code (1 : Nat) (Option.some (Jvm.ClassFile.FieldType.object "com/example/piece/piece/span/Span$Kind"))]
set_option maxRecDepth 65536 in
theorem codes_eq : words1.filter isCode = codes1 := rfl
theorem w_codes : ∀ c ∈ words1.filter isCode, c.before args0 about1 = true := by
  rw [codes_eq]
  intro c hc
  simp only [codes1, List.mem_cons, List.not_mem_nil, or_false] at hc
  rcases hc with rfl | rfl | rfl
  · exact w_c0
  · exact w_c1
  · exact w_c2
set_option maxRecDepth 65536 in
theorem w_t1 : words1.all (fun c => isCode c || c.before args0 about1) = true := by decide +kernel
theorem w_tables : (allAtoms (Jvm.Cond.code x code maxLocals ret :: tables_1)).before args0 about1 = true := by
  rw [allAtoms_all]
  show words1.all (fun c => c.before args0 about1) = true
  refine all_split ?_ w_codes
  rw [w_t1]
set_option maxRecDepth 65536 in
theorem w_case : (Jvm.Cond.and given_1 narrow_1).before args0 about1 = true := by decide +kernel
theorem w_applies : (headSpec (Jvm.Cond.code x code maxLocals ret :: tables_1) room_1).applies x e0.platform about1 = true :=
  (Spec.applies_iff w_frames).mpr ⟨w_running, w_runnable, w_alone, w_named, w_hears, w_ripe, w_room, w_tables⟩
theorem atStart : AtStart classFile x code maxLocals ret World_1 tables_1 room_1 Calls_1 rest_1 Pre_1 launch0 p0 e0 about1 theMethod args0 below0 :=
  ⟨lists_1, trivial, launch0.admits_env _ _ _, launch0.least_env, fairChoices_fair.cas, fairChoices_fair.clock, w_frames, w_args, w_heap, w_applies, trivial, trivial, w_case⟩
end start1
theorem witness_1 : WitnessClaimed_1 := ⟨start1.p0, start1.e0, start1.about1, start1.theMethod, start1.args0, start1.below0, start1.atStart⟩
end Jvm.Pilot.@@N@@
