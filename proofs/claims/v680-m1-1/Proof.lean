import JvmDerived
import JvmDerived.Pilot.@@N@@Statement
import JvmDerived.Pilot.@@N@@Code
set_option linter.unusedVariables false
set_option linter.unusedSimpArgs false
namespace Jvm.Pilot.@@N@@
open Jvm Jvm.ClassFile Sem Op Lib Jvm.Free Jvm.Stand Jvm.LawKit Jvm.RoadKit Bundle Jvm.Pilot.@@N@@.Jvm.D

def Go (tb : Tables) (e : Env) (below : List Frame) (a : State) (P : Outcome → State → Prop) : Prop := ∃ s₂ o, Steps tb e below a s₂ ∧ s₂.status = .running ∧ Ended s₂ below o ∧ P o s₂
theorem Go.st {tb : Tables} {e : Env} {below : List Frame} {a b : State} {P : Outcome → State → Prop} (h : ∀ t, Steps tb e below b t → Steps tb e below a t) (k : Go tb e below b P) : Go tb e below a P := by
  obtain ⟨s, o, h1, h2⟩ := k
  exact ⟨s, o, h _ h1, h2⟩
theorem Go.tr {tb : Tables} {e : Env} {below : List Frame} {a b : State} {P : Outcome → State → Prop} (h : Steps tb e below a b) (k : Go tb e below b P) : Go tb e below a P := Go.st (fun _ q => h.trans q) k
theorem Go.fin {tb : Tables} {e : Env} {below : List Frame} {a s₂ : State} {o : Outcome} {P : Outcome → State → Prop} (hs : Steps tb e below a s₂) (hr : s₂.status = .running) (he : Ended s₂ below o) (hP : P o s₂) : Go tb e below a P := ⟨_, _, hs, hr, he, hP⟩
theorem exa_ns {Z : State} {h : Heap} {a : Addr} {C : String} (F : Exa Z h a C) : ∃ c : Cell, h[a]? = some c ∧ c.vm.isStatics = false := by
  obtain ⟨c, _, h1, -, -, h4, -⟩ := F
  exact ⟨c, h1, h4⟩
theorem fld_ns {Z : State} {h : Heap} {a : Addr} {C n d : String} {v : Value} (F : Fld Z h a C n d v) : ∃ c : Cell, h[a]? = some c ∧ c.vm.isStatics = false := by
  obtain ⟨c, _, _, _, _, h1, -, -, -, h4, -⟩ := F
  exact ⟨c, h1, h4⟩
theorem arv_ns {Z : State} {h : Heap} {a : Addr} {k : ClassId} {ty : FieldType} {n : Int32} {vs : List Value} {d : Value} (F : Arv Z h a k ty n vs d) : ∃ c : Cell, h[a]? = some c ∧ c.vm.isStatics = false := by
  obtain ⟨c, A, -⟩ := F
  exact ⟨c, A.1, A.plain⟩
theorem sta_keep {Z : State} {h h' : Heap} {C n d : String} {v : Value} {ws : List Addr} (F : Sta Z h C n d v) (K : Keep h h' ws) (q : ∀ x ∈ ws, ∃ c : Cell, h[x]? = some c ∧ c.vm.isStatics = false) : Sta Z h' C n d v := by
  obtain ⟨cf, i, k, f, st, cell, h1, h2, h3, h4, h5, h6, h7⟩ := F
  refine ⟨cf, i, k, f, st, cell, h1, h2, h3, h4, K.2.1 st cell h5 fun z => ?_, h6, h7⟩
  obtain ⟨c, q1, q2⟩ := q st z
  cases q1.symm.trans h5
  rw [q2] at h6
  cases h6
theorem own_selp {s : State} {args : Array Value} {y : MethodName} {n : Nat} (wi : (Cond.instantiable y.cls n).before args s = true) (hp : s.PrivateAt y) (hi : (Cond.instanceMethod y).before args s = true) (hy : y.cls ≠ "java/lang/invoke/MethodHandle" ∧ y.cls ≠ "java/lang/invoke/VarHandle") : (Cond.selects y.cls y y).before args s = true := by
  obtain ⟨c, k, h1, h2, -, h4, -⟩ := Cond.instantiable_spec wi
  simp only [Bool.or_eq_false_iff] at h4
  exact selects_self_of_private h1 h2 h4.1 hp hi hy
theorem own_ne32 {x k : Int32} {a : Int} (ha : k.toInt = a) (h : ¬ x = k) : a ≠ x.toInt := fun e => h (Int32.toInt_inj.mp (e.symm.trans ha.symm))
theorem own_nn (x : Int32) : 0 ≤ (x &&& (2147483647 : Int32)).toInt := (c_andS x 2147483647).2.2 (by decide)
theorem own_rem (x : Int32) (k : Int32) (d : Int) (hd : k.toInt = d) (h0 : 0 < d) : 0 ≤ ((x &&& (2147483647 : Int32)) % k).toInt ∧ ((x &&& (2147483647 : Int32)) % k).toInt < d := by
  have h := own_nn x
  rw [Int32.toInt_mod, hd]
  exact ⟨Int.tmod_nonneg _ h, Int.tmod_lt_of_pos _ h0⟩
theorem own_remb (x : Int32) (k : Int32) (d : Int) (hd : k.toInt = d) (h0 : 0 < d) : ¬ ((x &&& (2147483647 : Int32)) % k) < 0 ∧ ((x &&& (2147483647 : Int32)) % k) < k := by
  obtain ⟨h1, h2⟩ := own_rem x k d hd h0
  rw [Int32.lt_iff_toInt_lt, Int32.lt_iff_toInt_lt, hd]
  exact ⟨Int.not_lt.mpr h1, h2⟩
def own_at (xs : List Int32) (j : Int32) : Int32 := xs.getD j.toNatClampNeg 0
theorem own_atv (xs : List Int32) (j : Int32) : (xs.map Value.int).getD j.toNatClampNeg (.int 0) = .int (own_at xs j) := by
  unfold own_at
  generalize j.toNatClampNeg = n
  induction xs generalizing n with
  | nil => rfl
  | cons a r ih => cases n with
    | zero => rfl
    | succ n => simpa using ih n
theorem own_setl {l : List Value} {k n : Nat} {v : Value} (h : l.length = n) : (l.set k v).length = n := by rw [List.length_set]; exact h
theorem own_setg {l : List Value} {k : Nat} {v d : Value} (h : k < l.length) : (l.set k v).getD k d = v := by simp [List.getD, List.getElem?_set, h]
theorem own_setn {l : List Value} {k i : Nat} {v d : Value} (h : i ≠ k) : (l.set k v).getD i d = l.getD i d := by simp [List.getD, List.getElem?_set, Ne.symm h]
theorem own_lt_of {l : List Value} {n : Nat} {j z : Int32} (h : l.length = n) (q : ¬ j < 0 ∧ j < z) (hz : z.toNatClampNeg = n := by decide) : j.toNatClampNeg < l.length := by
  rw [h, ← hz]
  obtain ⟨q1, q2⟩ := q
  rw [Int32.lt_iff_toInt_lt] at q1 q2
  have : (0 : Int32).toInt = 0 := rfl
  simp only [Int32.toNatClampNeg]
  omega
theorem own_eqi {args : Array Value} {s : State} {t : Term} {k : Int32} (h : (Jvm.Cond.eq t (.int k)).value args s none s [] = some true) : t.eval args s none [] s = some (.int k) := by
  simp only [Cond.value, Term.eval] at h
  cases ht : t.eval args s none [] s with
  | none => simp [ht] at h
  | some x => cases x <;> simp_all
theorem d4_0 : decode method_2_code 0 = .ok (.iload_n 0, 1) := by decide +kernel
theorem d4_1 : decode method_2_code 1 = .ok (.istore_n 1, 1) := by decide +kernel
theorem d4_2 : decode method_2_code 2 = .ok (.iload_n 1, 1) := by decide +kernel
theorem d4_3 : decode method_2_code 3 = .ok (.iconst 2, 1) := by decide +kernel
theorem d4_4 : decode method_2_code 4 = .ok (.iload_n 0, 1) := by decide +kernel
theorem d4_5 : decode method_2_code 5 = .ok (.iload_n 1, 1) := by decide +kernel
theorem d4_6 : decode method_2_code 6 = .ok (.imul, 1) := by decide +kernel
theorem d4_7 : decode method_2_code 7 = .ok (.isub, 1) := by decide +kernel
theorem d4_8 : decode method_2_code 8 = .ok (.imul, 1) := by decide +kernel
theorem d4_9 : decode method_2_code 9 = .ok (.istore_n 1, 1) := by decide +kernel
theorem d4_10 : decode method_2_code 10 = .ok (.iload_n 1, 1) := by decide +kernel
theorem d4_11 : decode method_2_code 11 = .ok (.iconst 2, 1) := by decide +kernel
theorem d4_12 : decode method_2_code 12 = .ok (.iload_n 0, 1) := by decide +kernel
theorem d4_13 : decode method_2_code 13 = .ok (.iload_n 1, 1) := by decide +kernel
theorem d4_14 : decode method_2_code 14 = .ok (.imul, 1) := by decide +kernel
theorem d4_15 : decode method_2_code 15 = .ok (.isub, 1) := by decide +kernel
theorem d4_16 : decode method_2_code 16 = .ok (.imul, 1) := by decide +kernel
theorem d4_17 : decode method_2_code 17 = .ok (.istore_n 1, 1) := by decide +kernel
def t4_0 (p1 : Int32) : Int32 := ((p1 * ((2 : Int32) - (p1 * p1))) * ((2 : Int32) - (p1 * (p1 * ((2 : Int32) - (p1 * p1))))))
theorem d4_18 : decode method_2_code 18 = .ok (.iload_n 1, 1) := by decide +kernel
theorem d4_19 : decode method_2_code 19 = .ok (.iconst 2, 1) := by decide +kernel
theorem d4_20 : decode method_2_code 20 = .ok (.iload_n 0, 1) := by decide +kernel
theorem d4_21 : decode method_2_code 21 = .ok (.iload_n 1, 1) := by decide +kernel
theorem d4_22 : decode method_2_code 22 = .ok (.imul, 1) := by decide +kernel
theorem d4_23 : decode method_2_code 23 = .ok (.isub, 1) := by decide +kernel
theorem d4_24 : decode method_2_code 24 = .ok (.imul, 1) := by decide +kernel
theorem d4_25 : decode method_2_code 25 = .ok (.istore_n 1, 1) := by decide +kernel
theorem d4_26 : decode method_2_code 26 = .ok (.iload_n 1, 1) := by decide +kernel
theorem d4_27 : decode method_2_code 27 = .ok (.iconst 2, 1) := by decide +kernel
theorem d4_28 : decode method_2_code 28 = .ok (.iload_n 0, 1) := by decide +kernel
theorem d4_29 : decode method_2_code 29 = .ok (.iload_n 1, 1) := by decide +kernel
theorem d4_30 : decode method_2_code 30 = .ok (.imul, 1) := by decide +kernel
theorem d4_31 : decode method_2_code 31 = .ok (.isub, 1) := by decide +kernel
theorem d4_32 : decode method_2_code 32 = .ok (.imul, 1) := by decide +kernel
theorem d4_33 : decode method_2_code 33 = .ok (.istore_n 1, 1) := by decide +kernel
def t4_1 (p1 : Int32) : Int32 := (((t4_0 p1) * ((2 : Int32) - (p1 * (t4_0 p1)))) * ((2 : Int32) - (p1 * ((t4_0 p1) * ((2 : Int32) - (p1 * (t4_0 p1)))))))
theorem d4_34 : decode method_2_code 34 = .ok (.iload_n 1, 1) := by decide +kernel
theorem d4_35 : decode method_2_code 35 = .ok (.ireturn, 1) := by decide +kernel
theorem pn0 : plainName "com/example/lectern/lectern/HashesSpreadPinLaw" = true := by first | (simp [plainName, overriddenIn]; done) | decide +kernel
def Q4 (Z : State) (p1 : Int32) (h0 : Heap) (n0 : Nat) (v : Option Value) (h : Heap) (L : List Loc) : Prop := v = some (.int (t4_1 p1)) ∧ Fr n0 L ∧ h = h0
theorem ef4 (m : MethodId) (x0 : Int32) : entryFrame m #[(.int x0)] 2 = mkF m 0 #[.val (.int x0), .unset] [] := by first | (simp [entryFrame, mkF, argsToLocals, Value.category]; done) | rfl
set_option maxRecDepth 65536 in
set_option maxHeartbeats 40000000 in
theorem rm4 (l : Launch) (Z : State) (a0 : Array Value) (hw : ∀ d ∈ tables_1, d.before a0 Z = true) (ws : List Jvm.Cond) (p1 : Int32) (h0 : Heap) (n0 : Nat) (Z0 : n0 ≤ h0.size) :
    MetFree l (⟨"com/example/lectern/lectern/HashesSpreadPinLaw", "inv", "(I)I"⟩ : MethodName) (head1 (Jvm.Cond.code (⟨"com/example/lectern/lectern/HashesSpreadPinLaw", "inv", "(I)I"⟩ : MethodName) method_2_code 2 (some .int) :: ws) ({ frames := 0, cells := 0, slots := 0, locals := 0 } : Room)) (fun a U => a = #[(.int p1)] ∧ Z.Warmed39 U.vm ∧ U.heap = h0) (fun _ _ _ _ _ => True) (fun _ U o U' => ∃ v L, o = .returned v ∧ Q4 Z p1 h0 n0 v U'.heap L ∧ FrameEnd U o U' L ({ frames := 0, cells := 0, slots := 0, locals := 0 } : Room).cells ({ frames := 0, cells := 0, slots := 0, locals := 0 } : Room).slots) := by
  refine MetFree.of_bodySF (plainFor_of_name pn0) hisR ?_
  intro p e s m args below meth c s₁ Bd hml0 hP hK
  obtain ⟨rfl, hZ, hh⟩ := hP
  have hx := Bd.exec
  have hby := Bd.bytes
  have hml : c.maxLocals = 2 := hml0
  have hown : s.vm.findClass "com/example/lectern/lectern/HashesSpreadPinLaw" = some m.cls := findClass_of_methodNamed Bd.named
  have hnm := (name_of_methodNamed Bd.named Bd.method).1
  have X0 : Stand p l e ({ frames := 0, cells := 0, slots := 0, locals := 0 } : Room) s m #[(.int p1)] below meth c s₁ [] 0 0 := Stand.of_body Bd
  have e0 : s₁.heap = h0 := by rw [← hh, Bd.state]; rfl
  have N0 := Fr.nil n0
  have K0 : Keep h0 h0 [] := Keep.refl h0 _
  refine Go.st (P := fun o U' => ∃ v L, o = .returned v ∧ Q4 Z p1 h0 n0 v U'.heap L ∧ FrameEnd s o U' L ({ frames := 0, cells := 0, slots := 0, locals := 0 } : Room).cells ({ frames := 0, cells := 0, slots := 0, locals := 0 } : Room).slots) (fun t k => castTop (ef4 m p1) k) ?_
  show Go _ _ _ (s₁.setTop (mkF m 0 #[.val (.int p1), .unset] [])) _
  refine Go.st (fun t k => XS.iloadN X0.here hx rfl (hb hby d4_0) rfl k) ?_
  refine Go.st (fun t k => XS.istoreN X0.here hx rfl (hb hby d4_1) rfl (l' := #[.val (.int p1), .val (.int p1)]) rfl k) ?_
  refine Go.st (fun t k => XS.iloadN X0.here hx rfl (hb hby d4_2) rfl k) ?_
  refine Go.st (fun t k => XS.iconst X0.here hx rfl (hb hby d4_3) k) ?_
  refine Go.st (fun t k => XS.iloadN X0.here hx rfl (hb hby d4_4) rfl k) ?_
  refine Go.st (fun t k => XS.iloadN X0.here hx rfl (hb hby d4_5) rfl k) ?_
  refine Go.st (fun t k => XS.imul X0.here hx rfl (hb hby d4_6) rfl k) ?_
  show Go _ _ _ (s₁.setTop (mkF m 7 #[.val (.int p1), .val (.int p1)] [(.int (p1 * p1)), (.int 2), (.int p1)])) _
  refine Go.st (fun t k => XS.isub X0.here hx rfl (hb hby d4_7) rfl k) ?_
  show Go _ _ _ (s₁.setTop (mkF m 8 #[.val (.int p1), .val (.int p1)] [(.int ((2 : Int32) - (p1 * p1))), (.int p1)])) _
  refine Go.st (fun t k => XS.imul X0.here hx rfl (hb hby d4_8) rfl k) ?_
  show Go _ _ _ (s₁.setTop (mkF m 9 #[.val (.int p1), .val (.int p1)] [(.int (p1 * ((2 : Int32) - (p1 * p1))))])) _
  refine Go.st (fun t k => XS.istoreN X0.here hx rfl (hb hby d4_9) rfl (l' := #[.val (.int p1), .val (.int (p1 * ((2 : Int32) - (p1 * p1))))]) rfl k) ?_
  refine Go.st (fun t k => XS.iloadN X0.here hx rfl (hb hby d4_10) rfl k) ?_
  refine Go.st (fun t k => XS.iconst X0.here hx rfl (hb hby d4_11) k) ?_
  refine Go.st (fun t k => XS.iloadN X0.here hx rfl (hb hby d4_12) rfl k) ?_
  refine Go.st (fun t k => XS.iloadN X0.here hx rfl (hb hby d4_13) rfl k) ?_
  refine Go.st (fun t k => XS.imul X0.here hx rfl (hb hby d4_14) rfl k) ?_
  show Go _ _ _ (s₁.setTop (mkF m 15 #[.val (.int p1), .val (.int (p1 * ((2 : Int32) - (p1 * p1))))] [(.int (p1 * (p1 * ((2 : Int32) - (p1 * p1))))), (.int 2), (.int (p1 * ((2 : Int32) - (p1 * p1))))])) _
  refine Go.st (fun t k => XS.isub X0.here hx rfl (hb hby d4_15) rfl k) ?_
  show Go _ _ _ (s₁.setTop (mkF m 16 #[.val (.int p1), .val (.int (p1 * ((2 : Int32) - (p1 * p1))))] [(.int ((2 : Int32) - (p1 * (p1 * ((2 : Int32) - (p1 * p1)))))), (.int (p1 * ((2 : Int32) - (p1 * p1))))])) _
  refine Go.st (fun t k => XS.imul X0.here hx rfl (hb hby d4_16) rfl k) ?_
  show Go _ _ _ (s₁.setTop (mkF m 17 #[.val (.int p1), .val (.int (p1 * ((2 : Int32) - (p1 * p1))))] [(.int ((p1 * ((2 : Int32) - (p1 * p1))) * ((2 : Int32) - (p1 * (p1 * ((2 : Int32) - (p1 * p1)))))))])) _
  refine Go.st (fun t k => XS.istoreN X0.here hx rfl (hb hby d4_17) rfl (l' := #[.val (.int p1), .val (.int (t4_0 p1))]) rfl k) ?_
  refine Go.st (fun t k => XS.iloadN X0.here hx rfl (hb hby d4_18) rfl k) ?_
  refine Go.st (fun t k => XS.iconst X0.here hx rfl (hb hby d4_19) k) ?_
  refine Go.st (fun t k => XS.iloadN X0.here hx rfl (hb hby d4_20) rfl k) ?_
  refine Go.st (fun t k => XS.iloadN X0.here hx rfl (hb hby d4_21) rfl k) ?_
  refine Go.st (fun t k => XS.imul X0.here hx rfl (hb hby d4_22) rfl k) ?_
  show Go _ _ _ (s₁.setTop (mkF m 23 #[.val (.int p1), .val (.int (t4_0 p1))] [(.int (p1 * (t4_0 p1))), (.int 2), (.int (t4_0 p1))])) _
  refine Go.st (fun t k => XS.isub X0.here hx rfl (hb hby d4_23) rfl k) ?_
  show Go _ _ _ (s₁.setTop (mkF m 24 #[.val (.int p1), .val (.int (t4_0 p1))] [(.int ((2 : Int32) - (p1 * (t4_0 p1)))), (.int (t4_0 p1))])) _
  refine Go.st (fun t k => XS.imul X0.here hx rfl (hb hby d4_24) rfl k) ?_
  show Go _ _ _ (s₁.setTop (mkF m 25 #[.val (.int p1), .val (.int (t4_0 p1))] [(.int ((t4_0 p1) * ((2 : Int32) - (p1 * (t4_0 p1)))))])) _
  refine Go.st (fun t k => XS.istoreN X0.here hx rfl (hb hby d4_25) rfl (l' := #[.val (.int p1), .val (.int ((t4_0 p1) * ((2 : Int32) - (p1 * (t4_0 p1)))))]) rfl k) ?_
  refine Go.st (fun t k => XS.iloadN X0.here hx rfl (hb hby d4_26) rfl k) ?_
  refine Go.st (fun t k => XS.iconst X0.here hx rfl (hb hby d4_27) k) ?_
  refine Go.st (fun t k => XS.iloadN X0.here hx rfl (hb hby d4_28) rfl k) ?_
  refine Go.st (fun t k => XS.iloadN X0.here hx rfl (hb hby d4_29) rfl k) ?_
  refine Go.st (fun t k => XS.imul X0.here hx rfl (hb hby d4_30) rfl k) ?_
  show Go _ _ _ (s₁.setTop (mkF m 31 #[.val (.int p1), .val (.int ((t4_0 p1) * ((2 : Int32) - (p1 * (t4_0 p1)))))] [(.int (p1 * ((t4_0 p1) * ((2 : Int32) - (p1 * (t4_0 p1)))))), (.int 2), (.int ((t4_0 p1) * ((2 : Int32) - (p1 * (t4_0 p1)))))])) _
  refine Go.st (fun t k => XS.isub X0.here hx rfl (hb hby d4_31) rfl k) ?_
  show Go _ _ _ (s₁.setTop (mkF m 32 #[.val (.int p1), .val (.int ((t4_0 p1) * ((2 : Int32) - (p1 * (t4_0 p1)))))] [(.int ((2 : Int32) - (p1 * ((t4_0 p1) * ((2 : Int32) - (p1 * (t4_0 p1))))))), (.int ((t4_0 p1) * ((2 : Int32) - (p1 * (t4_0 p1)))))])) _
  refine Go.st (fun t k => XS.imul X0.here hx rfl (hb hby d4_32) rfl k) ?_
  show Go _ _ _ (s₁.setTop (mkF m 33 #[.val (.int p1), .val (.int ((t4_0 p1) * ((2 : Int32) - (p1 * (t4_0 p1)))))] [(.int (((t4_0 p1) * ((2 : Int32) - (p1 * (t4_0 p1)))) * ((2 : Int32) - (p1 * ((t4_0 p1) * ((2 : Int32) - (p1 * (t4_0 p1))))))))])) _
  refine Go.st (fun t k => XS.istoreN X0.here hx rfl (hb hby d4_33) rfl (l' := #[.val (.int p1), .val (.int (t4_1 p1))]) rfl k) ?_
  refine Go.st (fun t k => XS.iloadN X0.here hx rfl (hb hby d4_34) rfl k) ?_
  obtain ⟨fs, hr, hrun, hended, hW, hsame⟩ := X0.leave (v := some (.int (t4_1 p1))) (fun h => by rw [Bd.returns] at h; cases h)
  refine Go.fin (retOut X0 hx Bd.returns rfl (Or.inl ⟨rfl, Or.inl rfl, _, rfl⟩) (hb hby d4_35) hr) hrun hended ⟨_, _, rfl, ?_, ⟨_, rfl⟩, hW, hsame.mono (by decide) (by decide)⟩
  show Q4 Z p1 h0 n0 _ s₁.heap _
  rw [e0]
  exact ⟨rfl, N0, rfl⟩
theorem d3_0 : decode method_3_code 0 = .ok (.iload_n 0, 1) := by decide +kernel
theorem d3_1 : decode method_3_code 1 = .ok (.iload_n 0, 1) := by decide +kernel
theorem d3_2 : decode method_3_code 2 = .ok (.bipush 16, 2) := by decide +kernel
theorem d3_4 : decode method_3_code 4 = .ok (.iushr, 1) := by decide +kernel
theorem d3_5 : decode method_3_code 5 = .ok (.ixor, 1) := by decide +kernel
theorem d3_6 : decode method_3_code 6 = .ok (.ireturn, 1) := by decide +kernel
def Q3 (Z : State) (p1 : Int32) (h0 : Heap) (n0 : Nat) (v : Option Value) (h : Heap) (L : List Loc) : Prop := v = some (.int (p1 ^^^ ((p1.toUInt32 >>> ((16 : Int32) &&& 31).toUInt32).toInt32))) ∧ Fr n0 L ∧ h = h0
theorem ef3 (m : MethodId) (x0 : Int32) : entryFrame m #[(.int x0)] 1 = mkF m 0 #[.val (.int x0)] [] := by first | (simp [entryFrame, mkF, argsToLocals, Value.category]; done) | rfl
set_option maxRecDepth 65536 in
set_option maxHeartbeats 40000000 in
theorem rm3 (l : Launch) (Z : State) (a0 : Array Value) (hw : ∀ d ∈ tables_1, d.before a0 Z = true) (ws : List Jvm.Cond) (p1 : Int32) (h0 : Heap) (n0 : Nat) (Z0 : n0 ≤ h0.size) :
    MetFree l (⟨"com/example/lectern/lectern/HashesSpreadPinLaw", "unXor16", "(I)I"⟩ : MethodName) (head1 (Jvm.Cond.code (⟨"com/example/lectern/lectern/HashesSpreadPinLaw", "unXor16", "(I)I"⟩ : MethodName) method_3_code 1 (some .int) :: ws) ({ frames := 0, cells := 0, slots := 0, locals := 0 } : Room)) (fun a U => a = #[(.int p1)] ∧ Z.Warmed39 U.vm ∧ U.heap = h0) (fun _ _ _ _ _ => True) (fun _ U o U' => ∃ v L, o = .returned v ∧ Q3 Z p1 h0 n0 v U'.heap L ∧ FrameEnd U o U' L ({ frames := 0, cells := 0, slots := 0, locals := 0 } : Room).cells ({ frames := 0, cells := 0, slots := 0, locals := 0 } : Room).slots) := by
  refine MetFree.of_bodySF (plainFor_of_name pn0) hisR ?_
  intro p e s m args below meth c s₁ Bd hml0 hP hK
  obtain ⟨rfl, hZ, hh⟩ := hP
  have hx := Bd.exec
  have hby := Bd.bytes
  have hml : c.maxLocals = 1 := hml0
  have hown : s.vm.findClass "com/example/lectern/lectern/HashesSpreadPinLaw" = some m.cls := findClass_of_methodNamed Bd.named
  have hnm := (name_of_methodNamed Bd.named Bd.method).1
  have X0 : Stand p l e ({ frames := 0, cells := 0, slots := 0, locals := 0 } : Room) s m #[(.int p1)] below meth c s₁ [] 0 0 := Stand.of_body Bd
  have e0 : s₁.heap = h0 := by rw [← hh, Bd.state]; rfl
  have N0 := Fr.nil n0
  have K0 : Keep h0 h0 [] := Keep.refl h0 _
  refine Go.st (P := fun o U' => ∃ v L, o = .returned v ∧ Q3 Z p1 h0 n0 v U'.heap L ∧ FrameEnd s o U' L ({ frames := 0, cells := 0, slots := 0, locals := 0 } : Room).cells ({ frames := 0, cells := 0, slots := 0, locals := 0 } : Room).slots) (fun t k => castTop (ef3 m p1) k) ?_
  show Go _ _ _ (s₁.setTop (mkF m 0 #[.val (.int p1)] [])) _
  refine Go.st (fun t k => XS.iloadN X0.here hx rfl (hb hby d3_0) rfl k) ?_
  refine Go.st (fun t k => XS.iloadN X0.here hx rfl (hb hby d3_1) rfl k) ?_
  refine Go.st (fun t k => XS.bipush X0.here hx rfl (hb hby d3_2) k) ?_
  refine Go.st (fun t k => XS.iushr X0.here hx rfl (hb hby d3_4) rfl k) ?_
  show Go _ _ _ (s₁.setTop (mkF m 5 #[.val (.int p1)] [(.int ((p1.toUInt32 >>> ((16 : Int32) &&& 31).toUInt32).toInt32)), (.int p1)])) _
  refine Go.st (fun t k => XS.ixor X0.here hx rfl (hb hby d3_5) rfl k) ?_
  show Go _ _ _ (s₁.setTop (mkF m 6 #[.val (.int p1)] [(.int (p1 ^^^ ((p1.toUInt32 >>> ((16 : Int32) &&& 31).toUInt32).toInt32)))])) _
  obtain ⟨fs, hr, hrun, hended, hW, hsame⟩ := X0.leave (v := some (.int (p1 ^^^ ((p1.toUInt32 >>> ((16 : Int32) &&& 31).toUInt32).toInt32)))) (fun h => by rw [Bd.returns] at h; cases h)
  refine Go.fin (retOut X0 hx Bd.returns rfl (Or.inl ⟨rfl, Or.inl rfl, _, rfl⟩) (hb hby d3_6) hr) hrun hended ⟨_, _, rfl, ?_, ⟨_, rfl⟩, hW, hsame.mono (by decide) (by decide)⟩
  show Q3 Z p1 h0 n0 _ s₁.heap _
  rw [e0]
  exact ⟨rfl, N0, rfl⟩
theorem d5_0 : decode method_4_code 0 = .ok (.iload_n 0, 1) := by decide +kernel
theorem d5_1 : decode method_4_code 1 = .ok (.iload_n 0, 1) := by decide +kernel
theorem d5_2 : decode method_4_code 2 = .ok (.bipush 13, 2) := by decide +kernel
theorem d5_4 : decode method_4_code 4 = .ok (.iushr, 1) := by decide +kernel
theorem d5_5 : decode method_4_code 5 = .ok (.ixor, 1) := by decide +kernel
theorem d5_6 : decode method_4_code 6 = .ok (.iload_n 0, 1) := by decide +kernel
theorem d5_7 : decode method_4_code 7 = .ok (.bipush 26, 2) := by decide +kernel
theorem d5_9 : decode method_4_code 9 = .ok (.iushr, 1) := by decide +kernel
theorem d5_10 : decode method_4_code 10 = .ok (.ixor, 1) := by decide +kernel
theorem d5_11 : decode method_4_code 11 = .ok (.ireturn, 1) := by decide +kernel
def Q5 (Z : State) (p1 : Int32) (h0 : Heap) (n0 : Nat) (v : Option Value) (h : Heap) (L : List Loc) : Prop := v = some (.int ((p1 ^^^ ((p1.toUInt32 >>> ((13 : Int32) &&& 31).toUInt32).toInt32)) ^^^ ((p1.toUInt32 >>> ((26 : Int32) &&& 31).toUInt32).toInt32))) ∧ Fr n0 L ∧ h = h0
theorem ef5 (m : MethodId) (x0 : Int32) : entryFrame m #[(.int x0)] 1 = mkF m 0 #[.val (.int x0)] [] := by first | (simp [entryFrame, mkF, argsToLocals, Value.category]; done) | rfl
set_option maxRecDepth 65536 in
set_option maxHeartbeats 40000000 in
theorem rm5 (l : Launch) (Z : State) (a0 : Array Value) (hw : ∀ d ∈ tables_1, d.before a0 Z = true) (ws : List Jvm.Cond) (p1 : Int32) (h0 : Heap) (n0 : Nat) (Z0 : n0 ≤ h0.size) :
    MetFree l (⟨"com/example/lectern/lectern/HashesSpreadPinLaw", "unXor13", "(I)I"⟩ : MethodName) (head1 (Jvm.Cond.code (⟨"com/example/lectern/lectern/HashesSpreadPinLaw", "unXor13", "(I)I"⟩ : MethodName) method_4_code 1 (some .int) :: ws) ({ frames := 0, cells := 0, slots := 0, locals := 0 } : Room)) (fun a U => a = #[(.int p1)] ∧ Z.Warmed39 U.vm ∧ U.heap = h0) (fun _ _ _ _ _ => True) (fun _ U o U' => ∃ v L, o = .returned v ∧ Q5 Z p1 h0 n0 v U'.heap L ∧ FrameEnd U o U' L ({ frames := 0, cells := 0, slots := 0, locals := 0 } : Room).cells ({ frames := 0, cells := 0, slots := 0, locals := 0 } : Room).slots) := by
  refine MetFree.of_bodySF (plainFor_of_name pn0) hisR ?_
  intro p e s m args below meth c s₁ Bd hml0 hP hK
  obtain ⟨rfl, hZ, hh⟩ := hP
  have hx := Bd.exec
  have hby := Bd.bytes
  have hml : c.maxLocals = 1 := hml0
  have hown : s.vm.findClass "com/example/lectern/lectern/HashesSpreadPinLaw" = some m.cls := findClass_of_methodNamed Bd.named
  have hnm := (name_of_methodNamed Bd.named Bd.method).1
  have X0 : Stand p l e ({ frames := 0, cells := 0, slots := 0, locals := 0 } : Room) s m #[(.int p1)] below meth c s₁ [] 0 0 := Stand.of_body Bd
  have e0 : s₁.heap = h0 := by rw [← hh, Bd.state]; rfl
  have N0 := Fr.nil n0
  have K0 : Keep h0 h0 [] := Keep.refl h0 _
  refine Go.st (P := fun o U' => ∃ v L, o = .returned v ∧ Q5 Z p1 h0 n0 v U'.heap L ∧ FrameEnd s o U' L ({ frames := 0, cells := 0, slots := 0, locals := 0 } : Room).cells ({ frames := 0, cells := 0, slots := 0, locals := 0 } : Room).slots) (fun t k => castTop (ef5 m p1) k) ?_
  show Go _ _ _ (s₁.setTop (mkF m 0 #[.val (.int p1)] [])) _
  refine Go.st (fun t k => XS.iloadN X0.here hx rfl (hb hby d5_0) rfl k) ?_
  refine Go.st (fun t k => XS.iloadN X0.here hx rfl (hb hby d5_1) rfl k) ?_
  refine Go.st (fun t k => XS.bipush X0.here hx rfl (hb hby d5_2) k) ?_
  refine Go.st (fun t k => XS.iushr X0.here hx rfl (hb hby d5_4) rfl k) ?_
  show Go _ _ _ (s₁.setTop (mkF m 5 #[.val (.int p1)] [(.int ((p1.toUInt32 >>> ((13 : Int32) &&& 31).toUInt32).toInt32)), (.int p1)])) _
  refine Go.st (fun t k => XS.ixor X0.here hx rfl (hb hby d5_5) rfl k) ?_
  show Go _ _ _ (s₁.setTop (mkF m 6 #[.val (.int p1)] [(.int (p1 ^^^ ((p1.toUInt32 >>> ((13 : Int32) &&& 31).toUInt32).toInt32)))])) _
  refine Go.st (fun t k => XS.iloadN X0.here hx rfl (hb hby d5_6) rfl k) ?_
  refine Go.st (fun t k => XS.bipush X0.here hx rfl (hb hby d5_7) k) ?_
  refine Go.st (fun t k => XS.iushr X0.here hx rfl (hb hby d5_9) rfl k) ?_
  show Go _ _ _ (s₁.setTop (mkF m 10 #[.val (.int p1)] [(.int ((p1.toUInt32 >>> ((26 : Int32) &&& 31).toUInt32).toInt32)), (.int (p1 ^^^ ((p1.toUInt32 >>> ((13 : Int32) &&& 31).toUInt32).toInt32)))])) _
  refine Go.st (fun t k => XS.ixor X0.here hx rfl (hb hby d5_10) rfl k) ?_
  show Go _ _ _ (s₁.setTop (mkF m 11 #[.val (.int p1)] [(.int ((p1 ^^^ ((p1.toUInt32 >>> ((13 : Int32) &&& 31).toUInt32).toInt32)) ^^^ ((p1.toUInt32 >>> ((26 : Int32) &&& 31).toUInt32).toInt32)))])) _
  obtain ⟨fs, hr, hrun, hended, hW, hsame⟩ := X0.leave (v := some (.int ((p1 ^^^ ((p1.toUInt32 >>> ((13 : Int32) &&& 31).toUInt32).toInt32)) ^^^ ((p1.toUInt32 >>> ((26 : Int32) &&& 31).toUInt32).toInt32)))) (fun h => by rw [Bd.returns] at h; cases h)
  refine Go.fin (retOut X0 hx Bd.returns rfl (Or.inl ⟨rfl, Or.inl rfl, _, rfl⟩) (hb hby d5_11) hr) hrun hended ⟨_, _, rfl, ?_, ⟨_, rfl⟩, hW, hsame.mono (by decide) (by decide)⟩
  show Q5 Z p1 h0 n0 _ s₁.heap _
  rw [e0]
  exact ⟨rfl, N0, rfl⟩
theorem d2_0 : decode method_5_code 0 = .ok (.iload_n 0, 1) := by decide +kernel
theorem d2_1 : decode method_5_code 1 = .ok (.invokestatic 7, 3) := by decide +kernel
theorem wd10 {Z : State} {a0 : Array Value} (hw : ∀ d ∈ tables_1, d.before a0 Z = true) : (Jvm.Cond.methodLink "com/example/lectern/lectern/HashesSpreadPinLaw" (7 : Nat) ({ cls := "com/example/lectern/lectern/HashesSpreadPinLaw", name := "unXor16", desc := "(I)I" } : Jvm.MethodName)).before a0 Z = true := hw _ (List.mem_of_getElem? (i := 10) rfl)
theorem wd12 {Z : State} {a0 : Array Value} (hw : ∀ d ∈ tables_1, d.before a0 Z = true) : (Jvm.Cond.code ({ cls := "com/example/lectern/lectern/HashesSpreadPinLaw", name := "unXor16", desc := "(I)I" } : Jvm.MethodName) method_3_code (1 : Nat) (Option.some Jvm.ClassFile.FieldType.int)).before a0 Z = true := hw _ (List.mem_of_getElem? (i := 12) rfl)
theorem wd8 {Z : State} {a0 : Array Value} (hw : ∀ d ∈ tables_1, d.before a0 Z = true) : (Jvm.Cond.initialized "com/example/lectern/lectern/HashesSpreadPinLaw").before a0 Z = true := hw _ (List.mem_of_getElem? (i := 8) rfl)
theorem pd0 : parseMethodDescriptor "(I)I" = some ⟨[.int], some .int⟩ := by decide +kernel
theorem wd11 {Z : State} {a0 : Array Value} (hw : ∀ d ∈ tables_1, d.before a0 Z = true) : (Jvm.Cond.static ({ cls := "com/example/lectern/lectern/HashesSpreadPinLaw", name := "unXor16", desc := "(I)I" } : Jvm.MethodName)).before a0 Z = true := hw _ (List.mem_of_getElem? (i := 11) rfl)
theorem d2_4 : decode method_5_code 4 = .ok (.istore_n 1, 1) := by decide +kernel
theorem d2_5 : decode method_5_code 5 = .ok (.iload_n 1, 1) := by decide +kernel
theorem d2_6 : decode method_5_code 6 = .ok (.ldc 13, 2) := by decide +kernel
theorem wd13 {Z : State} {a0 : Array Value} (hw : ∀ d ∈ tables_1, d.before a0 Z = true) : (Jvm.Cond.constant "com/example/lectern/lectern/HashesSpreadPinLaw" (13 : Nat) (-1028477387 : Int32)).before a0 Z = true := hw _ (List.mem_of_getElem? (i := 13) rfl)
theorem d2_8 : decode method_5_code 8 = .ok (.invokestatic 14, 3) := by decide +kernel
theorem wd14 {Z : State} {a0 : Array Value} (hw : ∀ d ∈ tables_1, d.before a0 Z = true) : (Jvm.Cond.methodLink "com/example/lectern/lectern/HashesSpreadPinLaw" (14 : Nat) ({ cls := "com/example/lectern/lectern/HashesSpreadPinLaw", name := "inv", desc := "(I)I" } : Jvm.MethodName)).before a0 Z = true := hw _ (List.mem_of_getElem? (i := 14) rfl)
theorem wd16 {Z : State} {a0 : Array Value} (hw : ∀ d ∈ tables_1, d.before a0 Z = true) : (Jvm.Cond.code ({ cls := "com/example/lectern/lectern/HashesSpreadPinLaw", name := "inv", desc := "(I)I" } : Jvm.MethodName) method_2_code (2 : Nat) (Option.some Jvm.ClassFile.FieldType.int)).before a0 Z = true := hw _ (List.mem_of_getElem? (i := 16) rfl)
theorem wd15 {Z : State} {a0 : Array Value} (hw : ∀ d ∈ tables_1, d.before a0 Z = true) : (Jvm.Cond.static ({ cls := "com/example/lectern/lectern/HashesSpreadPinLaw", name := "inv", desc := "(I)I" } : Jvm.MethodName)).before a0 Z = true := hw _ (List.mem_of_getElem? (i := 15) rfl)
theorem d2_11 : decode method_5_code 11 = .ok (.imul, 1) := by decide +kernel
theorem d2_12 : decode method_5_code 12 = .ok (.istore_n 1, 1) := by decide +kernel
def t2_2 (p1 : Int32) : Int32 := ((p1 ^^^ ((p1.toUInt32 >>> ((16 : Int32) &&& 31).toUInt32).toInt32)) * (t4_1 (-1028477387 : Int32)))
theorem d2_13 : decode method_5_code 13 = .ok (.iload_n 1, 1) := by decide +kernel
theorem d2_14 : decode method_5_code 14 = .ok (.invokestatic 17, 3) := by decide +kernel
theorem wd17 {Z : State} {a0 : Array Value} (hw : ∀ d ∈ tables_1, d.before a0 Z = true) : (Jvm.Cond.methodLink "com/example/lectern/lectern/HashesSpreadPinLaw" (17 : Nat) ({ cls := "com/example/lectern/lectern/HashesSpreadPinLaw", name := "unXor13", desc := "(I)I" } : Jvm.MethodName)).before a0 Z = true := hw _ (List.mem_of_getElem? (i := 17) rfl)
theorem wd19 {Z : State} {a0 : Array Value} (hw : ∀ d ∈ tables_1, d.before a0 Z = true) : (Jvm.Cond.code ({ cls := "com/example/lectern/lectern/HashesSpreadPinLaw", name := "unXor13", desc := "(I)I" } : Jvm.MethodName) method_4_code (1 : Nat) (Option.some Jvm.ClassFile.FieldType.int)).before a0 Z = true := hw _ (List.mem_of_getElem? (i := 19) rfl)
theorem wd18 {Z : State} {a0 : Array Value} (hw : ∀ d ∈ tables_1, d.before a0 Z = true) : (Jvm.Cond.static ({ cls := "com/example/lectern/lectern/HashesSpreadPinLaw", name := "unXor13", desc := "(I)I" } : Jvm.MethodName)).before a0 Z = true := hw _ (List.mem_of_getElem? (i := 18) rfl)
theorem d2_17 : decode method_5_code 17 = .ok (.istore_n 1, 1) := by decide +kernel
def t2_3 (p1 : Int32) : Int32 := (((t2_2 p1) ^^^ (((t2_2 p1).toUInt32 >>> ((13 : Int32) &&& 31).toUInt32).toInt32)) ^^^ (((t2_2 p1).toUInt32 >>> ((26 : Int32) &&& 31).toUInt32).toInt32))
theorem d2_18 : decode method_5_code 18 = .ok (.iload_n 1, 1) := by decide +kernel
theorem d2_19 : decode method_5_code 19 = .ok (.ldc 20, 2) := by decide +kernel
theorem wd20 {Z : State} {a0 : Array Value} (hw : ∀ d ∈ tables_1, d.before a0 Z = true) : (Jvm.Cond.constant "com/example/lectern/lectern/HashesSpreadPinLaw" (20 : Nat) (-2048144789 : Int32)).before a0 Z = true := hw _ (List.mem_of_getElem? (i := 20) rfl)
theorem d2_21 : decode method_5_code 21 = .ok (.invokestatic 14, 3) := by decide +kernel
theorem d2_24 : decode method_5_code 24 = .ok (.imul, 1) := by decide +kernel
theorem d2_25 : decode method_5_code 25 = .ok (.istore_n 1, 1) := by decide +kernel
theorem d2_26 : decode method_5_code 26 = .ok (.iload_n 1, 1) := by decide +kernel
theorem d2_27 : decode method_5_code 27 = .ok (.invokestatic 7, 3) := by decide +kernel
theorem d2_30 : decode method_5_code 30 = .ok (.istore_n 1, 1) := by decide +kernel
def t2_4 (p1 : Int32) : Int32 := (((t2_3 p1) * (t4_1 (-2048144789 : Int32))) ^^^ ((((t2_3 p1) * (t4_1 (-2048144789 : Int32))).toUInt32 >>> ((16 : Int32) &&& 31).toUInt32).toInt32))
theorem d2_31 : decode method_5_code 31 = .ok (.iload_n 1, 1) := by decide +kernel
theorem d2_32 : decode method_5_code 32 = .ok (.ireturn, 1) := by decide +kernel
def Q2 (Z : State) (p1 : Int32) (h0 : Heap) (n0 : Nat) (v : Option Value) (h : Heap) (L : List Loc) : Prop := v = some (.int (t2_4 p1)) ∧ Fr n0 L ∧ h = h0
theorem ef2 (m : MethodId) (x0 : Int32) : entryFrame m #[(.int x0)] 2 = mkF m 0 #[.val (.int x0), .unset] [] := by first | (simp [entryFrame, mkF, argsToLocals, Value.category]; done) | rfl
set_option maxRecDepth 65536 in
set_option maxHeartbeats 40000000 in
theorem rm2 (l : Launch) (Z : State) (a0 : Array Value) (hw : ∀ d ∈ tables_1, d.before a0 Z = true) (ws : List Jvm.Cond) (p1 : Int32) (h0 : Heap) (n0 : Nat) (Z0 : n0 ≤ h0.size) :
    MetFree l (⟨"com/example/lectern/lectern/HashesSpreadPinLaw", "unspread", "(I)I"⟩ : MethodName) (head1 (Jvm.Cond.code (⟨"com/example/lectern/lectern/HashesSpreadPinLaw", "unspread", "(I)I"⟩ : MethodName) method_5_code 2 (some .int) :: ws) ({ frames := 1, cells := 0, slots := 0, locals := 14 } : Room)) (fun a U => a = #[(.int p1)] ∧ Z.Warmed39 U.vm ∧ U.heap = h0) (fun _ _ _ _ _ => True) (fun _ U o U' => ∃ v L, o = .returned v ∧ Q2 Z p1 h0 n0 v U'.heap L ∧ FrameEnd U o U' L ({ frames := 1, cells := 0, slots := 0, locals := 14 } : Room).cells ({ frames := 1, cells := 0, slots := 0, locals := 14 } : Room).slots) := by
  refine MetFree.of_bodySF (plainFor_of_name pn0) hisR ?_
  intro p e s m args below meth c s₁ Bd hml0 hP hK
  obtain ⟨rfl, hZ, hh⟩ := hP
  have hx := Bd.exec
  have hby := Bd.bytes
  have hml : c.maxLocals = 2 := hml0
  have hown : s.vm.findClass "com/example/lectern/lectern/HashesSpreadPinLaw" = some m.cls := findClass_of_methodNamed Bd.named
  have hnm := (name_of_methodNamed Bd.named Bd.method).1
  have X0 : Stand p l e ({ frames := 1, cells := 0, slots := 0, locals := 14 } : Room) s m #[(.int p1)] below meth c s₁ [] 0 0 := Stand.of_body Bd
  have e0 : s₁.heap = h0 := by rw [← hh, Bd.state]; rfl
  have N0 := Fr.nil n0
  have K0 : Keep h0 h0 [] := Keep.refl h0 _
  refine Go.st (P := fun o U' => ∃ v L, o = .returned v ∧ Q2 Z p1 h0 n0 v U'.heap L ∧ FrameEnd s o U' L ({ frames := 1, cells := 0, slots := 0, locals := 14 } : Room).cells ({ frames := 1, cells := 0, slots := 0, locals := 14 } : Room).slots) (fun t k => castTop (ef2 m p1) k) ?_
  show Go _ _ _ (s₁.setTop (mkF m 0 #[.val (.int p1), .unset] [])) _
  refine Go.st (fun t k => XS.iloadN X0.here hx rfl (hb hby d2_0) rfl k) ?_
  obtain ⟨_, _, ⟨T1, L1, k1, n1⟩, -, X1, ⟨Lc1, hQ1, l1, y1, z1⟩, st1⟩ := Jvm.LawKit.callS X0 hx (y := (⟨"com/example/lectern/lectern/HashesSpreadPinLaw", "unXor16", "(I)I"⟩ : MethodName)) hown (mvT hZ (wd10 hw)) (mvT hZ (wd11 hw)) (mvT hZ (wd8 hw)) (mvT hZ (wd12 hw)) (by decide) (backOf (W := 0) (rm3 l Z a0 hw [] p1 h0 n0 Z0) hZ (wd12 hw) (wd8 hw) (by decide) (by decide)) (g := (mkF m 1 #[.val (.int p1), .unset] [(.int p1)])) rfl (by rw [hml]; rfl) (argsL := [(.int p1)]) (rest := []) (lenOf pd0 rfl) rfl (by show 2 * 0 + _ ≤ _; exact Nat.le_of_eq rfl) (hb hby d2_1) (fun _ _ => ⟨rfl, e0, (by decide : 0 + 0 ≤ _), (by decide : 0 + 0 ≤ _)⟩)
  dsimp only [Pt.U, Pt.locs, Pt.cells, Pt.slots] at X1 l1 y1 z1 st1 hQ1
  subst l1 y1 z1
  refine Go.st st1 ?_
  obtain ⟨rfl, N1q, e1⟩ := hQ1
  have N1 := Fr.app N0 N1q
  show Go _ _ _ (T1.setTop (mkF m 4 #[.val (.int p1), .unset] [(.int (p1 ^^^ ((p1.toUInt32 >>> ((16 : Int32) &&& 31).toUInt32).toInt32)))])) _
  refine Go.st (fun t k => XS.istoreN X1.here hx rfl (hb hby d2_4) rfl (l' := #[.val (.int p1), .val (.int (p1 ^^^ ((p1.toUInt32 >>> ((16 : Int32) &&& 31).toUInt32).toInt32)))]) rfl k) ?_
  refine Go.st (fun t k => XS.iloadN X1.here hx rfl (hb hby d2_5) rfl k) ?_
  refine Go.st (fun t k => X1.ldcInt hx hown (mvT hZ (wd13 hw)) (g := (mkF m 6 #[.val (.int p1), .val (.int (p1 ^^^ ((p1.toUInt32 >>> ((16 : Int32) &&& 31).toUInt32).toInt32)))] [(.int (p1 ^^^ ((p1.toUInt32 >>> ((16 : Int32) &&& 31).toUInt32).toInt32)))])) rfl (hb hby d2_6) _ k) ?_
  show Go _ _ _ (T1.setTop (mkF m 8 #[.val (.int p1), .val (.int (p1 ^^^ ((p1.toUInt32 >>> ((16 : Int32) &&& 31).toUInt32).toInt32)))] [(.int (-1028477387)), (.int (p1 ^^^ ((p1.toUInt32 >>> ((16 : Int32) &&& 31).toUInt32).toInt32)))])) _
  obtain ⟨_, _, ⟨T2, L2, k2, n2⟩, -, X2, ⟨Lc2, hQ2, l2, y2, z2⟩, st2⟩ := Jvm.LawKit.callS X1 hx (y := (⟨"com/example/lectern/lectern/HashesSpreadPinLaw", "inv", "(I)I"⟩ : MethodName)) hown (mvT hZ (wd14 hw)) (mvT hZ (wd15 hw)) (mvT hZ (wd8 hw)) (mvT hZ (wd16 hw)) (by decide) (backOf (W := 1) (rm4 l Z a0 hw [] (-1028477387 : Int32) h0 n0 Z0) hZ (wd16 hw) (wd8 hw) (by decide) (by decide)) (g := (mkF m 8 #[.val (.int p1), .val (.int (p1 ^^^ ((p1.toUInt32 >>> ((16 : Int32) &&& 31).toUInt32).toInt32)))] [(.int (-1028477387)), (.int (p1 ^^^ ((p1.toUInt32 >>> ((16 : Int32) &&& 31).toUInt32).toInt32)))])) rfl (by rw [hml]; rfl) (argsL := [(.int (-1028477387 : Int32))]) (rest := [(.int (p1 ^^^ ((p1.toUInt32 >>> ((16 : Int32) &&& 31).toUInt32).toInt32)))]) (lenOf pd0 rfl) rfl (by show 2 * 0 + _ ≤ _; exact Nat.le_of_eq rfl) (hb hby d2_8) (fun _ _ => ⟨rfl, e1, (by decide : 0 + 0 ≤ _), (by decide : 0 + 0 ≤ _)⟩)
  dsimp only [Pt.U, Pt.locs, Pt.cells, Pt.slots] at X2 l2 y2 z2 st2 hQ2
  subst l2 y2 z2
  refine Go.st st2 ?_
  obtain ⟨rfl, N2q, e2⟩ := hQ2
  have N2 := Fr.app N1 N2q
  show Go _ _ _ (T2.setTop (mkF m 11 #[.val (.int p1), .val (.int (p1 ^^^ ((p1.toUInt32 >>> ((16 : Int32) &&& 31).toUInt32).toInt32)))] [(.int (t4_1 (-1028477387 : Int32))), (.int (p1 ^^^ ((p1.toUInt32 >>> ((16 : Int32) &&& 31).toUInt32).toInt32)))])) _
  refine Go.st (fun t k => XS.imul X2.here hx rfl (hb hby d2_11) rfl k) ?_
  show Go _ _ _ (T2.setTop (mkF m 12 #[.val (.int p1), .val (.int (p1 ^^^ ((p1.toUInt32 >>> ((16 : Int32) &&& 31).toUInt32).toInt32)))] [(.int ((p1 ^^^ ((p1.toUInt32 >>> ((16 : Int32) &&& 31).toUInt32).toInt32)) * (t4_1 (-1028477387 : Int32))))])) _
  refine Go.st (fun t k => XS.istoreN X2.here hx rfl (hb hby d2_12) rfl (l' := #[.val (.int p1), .val (.int (t2_2 p1))]) rfl k) ?_
  refine Go.st (fun t k => XS.iloadN X2.here hx rfl (hb hby d2_13) rfl k) ?_
  obtain ⟨_, _, ⟨T3, L3, k3, n3⟩, -, X3, ⟨Lc3, hQ3, l3, y3, z3⟩, st3⟩ := Jvm.LawKit.callS X2 hx (y := (⟨"com/example/lectern/lectern/HashesSpreadPinLaw", "unXor13", "(I)I"⟩ : MethodName)) hown (mvT hZ (wd17 hw)) (mvT hZ (wd18 hw)) (mvT hZ (wd8 hw)) (mvT hZ (wd19 hw)) (by decide) (backOf (W := 0) (rm5 l Z a0 hw [] (t2_2 p1) h0 n0 Z0) hZ (wd19 hw) (wd8 hw) (by decide) (by decide)) (g := (mkF m 14 #[.val (.int p1), .val (.int (t2_2 p1))] [(.int (t2_2 p1))])) rfl (by rw [hml]; rfl) (argsL := [(.int (t2_2 p1))]) (rest := []) (lenOf pd0 rfl) rfl (by show 2 * 0 + _ ≤ _; exact Nat.le_of_eq rfl) (hb hby d2_14) (fun _ _ => ⟨rfl, e2, (by decide : 0 + 0 ≤ _), (by decide : 0 + 0 ≤ _)⟩)
  dsimp only [Pt.U, Pt.locs, Pt.cells, Pt.slots] at X3 l3 y3 z3 st3 hQ3
  subst l3 y3 z3
  refine Go.st st3 ?_
  obtain ⟨rfl, N3q, e3⟩ := hQ3
  have N3 := Fr.app N2 N3q
  show Go _ _ _ (T3.setTop (mkF m 17 #[.val (.int p1), .val (.int (t2_2 p1))] [(.int (((t2_2 p1) ^^^ (((t2_2 p1).toUInt32 >>> ((13 : Int32) &&& 31).toUInt32).toInt32)) ^^^ (((t2_2 p1).toUInt32 >>> ((26 : Int32) &&& 31).toUInt32).toInt32)))])) _
  refine Go.st (fun t k => XS.istoreN X3.here hx rfl (hb hby d2_17) rfl (l' := #[.val (.int p1), .val (.int (t2_3 p1))]) rfl k) ?_
  refine Go.st (fun t k => XS.iloadN X3.here hx rfl (hb hby d2_18) rfl k) ?_
  refine Go.st (fun t k => X3.ldcInt hx hown (mvT hZ (wd20 hw)) (g := (mkF m 19 #[.val (.int p1), .val (.int (t2_3 p1))] [(.int (t2_3 p1))])) rfl (hb hby d2_19) _ k) ?_
  show Go _ _ _ (T3.setTop (mkF m 21 #[.val (.int p1), .val (.int (t2_3 p1))] [(.int (-2048144789)), (.int (t2_3 p1))])) _
  obtain ⟨_, _, ⟨T4, L4, k4, n4⟩, -, X4, ⟨Lc4, hQ4, l4, y4, z4⟩, st4⟩ := Jvm.LawKit.callS X3 hx (y := (⟨"com/example/lectern/lectern/HashesSpreadPinLaw", "inv", "(I)I"⟩ : MethodName)) hown (mvT hZ (wd14 hw)) (mvT hZ (wd15 hw)) (mvT hZ (wd8 hw)) (mvT hZ (wd16 hw)) (by decide) (backOf (W := 1) (rm4 l Z a0 hw [] (-2048144789 : Int32) h0 n0 Z0) hZ (wd16 hw) (wd8 hw) (by decide) (by decide)) (g := (mkF m 21 #[.val (.int p1), .val (.int (t2_3 p1))] [(.int (-2048144789)), (.int (t2_3 p1))])) rfl (by rw [hml]; rfl) (argsL := [(.int (-2048144789 : Int32))]) (rest := [(.int (t2_3 p1))]) (lenOf pd0 rfl) rfl (by show 2 * 0 + _ ≤ _; exact Nat.le_of_eq rfl) (hb hby d2_21) (fun _ _ => ⟨rfl, e3, (by decide : 0 + 0 ≤ _), (by decide : 0 + 0 ≤ _)⟩)
  dsimp only [Pt.U, Pt.locs, Pt.cells, Pt.slots] at X4 l4 y4 z4 st4 hQ4
  subst l4 y4 z4
  refine Go.st st4 ?_
  obtain ⟨rfl, N4q, e4⟩ := hQ4
  have N4 := Fr.app N3 N4q
  show Go _ _ _ (T4.setTop (mkF m 24 #[.val (.int p1), .val (.int (t2_3 p1))] [(.int (t4_1 (-2048144789 : Int32))), (.int (t2_3 p1))])) _
  refine Go.st (fun t k => XS.imul X4.here hx rfl (hb hby d2_24) rfl k) ?_
  show Go _ _ _ (T4.setTop (mkF m 25 #[.val (.int p1), .val (.int (t2_3 p1))] [(.int ((t2_3 p1) * (t4_1 (-2048144789 : Int32))))])) _
  refine Go.st (fun t k => XS.istoreN X4.here hx rfl (hb hby d2_25) rfl (l' := #[.val (.int p1), .val (.int ((t2_3 p1) * (t4_1 (-2048144789 : Int32))))]) rfl k) ?_
  refine Go.st (fun t k => XS.iloadN X4.here hx rfl (hb hby d2_26) rfl k) ?_
  obtain ⟨_, _, ⟨T5, L5, k5, n5⟩, -, X5, ⟨Lc5, hQ5, l5, y5, z5⟩, st5⟩ := Jvm.LawKit.callS X4 hx (y := (⟨"com/example/lectern/lectern/HashesSpreadPinLaw", "unXor16", "(I)I"⟩ : MethodName)) hown (mvT hZ (wd10 hw)) (mvT hZ (wd11 hw)) (mvT hZ (wd8 hw)) (mvT hZ (wd12 hw)) (by decide) (backOf (W := 0) (rm3 l Z a0 hw [] ((t2_3 p1) * (t4_1 (-2048144789 : Int32))) h0 n0 Z0) hZ (wd12 hw) (wd8 hw) (by decide) (by decide)) (g := (mkF m 27 #[.val (.int p1), .val (.int ((t2_3 p1) * (t4_1 (-2048144789 : Int32))))] [(.int ((t2_3 p1) * (t4_1 (-2048144789 : Int32))))])) rfl (by rw [hml]; rfl) (argsL := [(.int ((t2_3 p1) * (t4_1 (-2048144789 : Int32))))]) (rest := []) (lenOf pd0 rfl) rfl (by show 2 * 0 + _ ≤ _; exact Nat.le_of_eq rfl) (hb hby d2_27) (fun _ _ => ⟨rfl, e4, (by decide : 0 + 0 ≤ _), (by decide : 0 + 0 ≤ _)⟩)
  dsimp only [Pt.U, Pt.locs, Pt.cells, Pt.slots] at X5 l5 y5 z5 st5 hQ5
  subst l5 y5 z5
  refine Go.st st5 ?_
  obtain ⟨rfl, N5q, e5⟩ := hQ5
  have N5 := Fr.app N4 N5q
  show Go _ _ _ (T5.setTop (mkF m 30 #[.val (.int p1), .val (.int ((t2_3 p1) * (t4_1 (-2048144789 : Int32))))] [(.int (((t2_3 p1) * (t4_1 (-2048144789 : Int32))) ^^^ ((((t2_3 p1) * (t4_1 (-2048144789 : Int32))).toUInt32 >>> ((16 : Int32) &&& 31).toUInt32).toInt32)))])) _
  refine Go.st (fun t k => XS.istoreN X5.here hx rfl (hb hby d2_30) rfl (l' := #[.val (.int p1), .val (.int (t2_4 p1))]) rfl k) ?_
  refine Go.st (fun t k => XS.iloadN X5.here hx rfl (hb hby d2_31) rfl k) ?_
  obtain ⟨fs, hr, hrun, hended, hW, hsame⟩ := X5.leave (v := some (.int (t2_4 p1))) (fun h => by rw [Bd.returns] at h; cases h)
  refine Go.fin (retOut X5 hx Bd.returns rfl (Or.inl ⟨rfl, Or.inl rfl, _, rfl⟩) (hb hby d2_32) hr) hrun hended ⟨_, _, rfl, ?_, ⟨_, rfl⟩, hW, hsame.mono (by decide) (by decide)⟩
  show Q2 Z p1 h0 n0 _ T5.heap _
  rw [e5]
  exact ⟨rfl, N5, rfl⟩
theorem d1_0 : decode prog_2_method_2_code 0 = .ok (.iload_n 0, 1) := by decide +kernel
theorem d1_1 : decode prog_2_method_2_code 1 = .ok (.istore_n 1, 1) := by decide +kernel
theorem d1_2 : decode prog_2_method_2_code 2 = .ok (.iload_n 1, 1) := by decide +kernel
theorem d1_3 : decode prog_2_method_2_code 3 = .ok (.iload_n 1, 1) := by decide +kernel
theorem d1_4 : decode prog_2_method_2_code 4 = .ok (.bipush 16, 2) := by decide +kernel
theorem d1_6 : decode prog_2_method_2_code 6 = .ok (.iushr, 1) := by decide +kernel
theorem d1_7 : decode prog_2_method_2_code 7 = .ok (.ixor, 1) := by decide +kernel
theorem d1_8 : decode prog_2_method_2_code 8 = .ok (.istore_n 1, 1) := by decide +kernel
theorem d1_9 : decode prog_2_method_2_code 9 = .ok (.iload_n 1, 1) := by decide +kernel
theorem d1_10 : decode prog_2_method_2_code 10 = .ok (.ldc 7, 2) := by decide +kernel
theorem wd4 {Z : State} {a0 : Array Value} (hw : ∀ d ∈ tables_1, d.before a0 Z = true) : (Jvm.Cond.constant "com/example/lectern/lectern/Hashes" (7 : Nat) (-2048144789 : Int32)).before a0 Z = true := hw _ (List.mem_of_getElem? (i := 4) rfl)
theorem d1_12 : decode prog_2_method_2_code 12 = .ok (.imul, 1) := by decide +kernel
theorem d1_13 : decode prog_2_method_2_code 13 = .ok (.istore_n 1, 1) := by decide +kernel
def t1_5 (p1 : Int32) : Int32 := ((p1 ^^^ ((p1.toUInt32 >>> ((16 : Int32) &&& 31).toUInt32).toInt32)) * (-2048144789 : Int32))
theorem d1_14 : decode prog_2_method_2_code 14 = .ok (.iload_n 1, 1) := by decide +kernel
theorem d1_15 : decode prog_2_method_2_code 15 = .ok (.iload_n 1, 1) := by decide +kernel
theorem d1_16 : decode prog_2_method_2_code 16 = .ok (.bipush 13, 2) := by decide +kernel
theorem d1_18 : decode prog_2_method_2_code 18 = .ok (.iushr, 1) := by decide +kernel
theorem d1_19 : decode prog_2_method_2_code 19 = .ok (.ixor, 1) := by decide +kernel
theorem d1_20 : decode prog_2_method_2_code 20 = .ok (.istore_n 1, 1) := by decide +kernel
def t1_6 (p1 : Int32) : Int32 := ((t1_5 p1) ^^^ (((t1_5 p1).toUInt32 >>> ((13 : Int32) &&& 31).toUInt32).toInt32))
theorem d1_21 : decode prog_2_method_2_code 21 = .ok (.iload_n 1, 1) := by decide +kernel
theorem d1_22 : decode prog_2_method_2_code 22 = .ok (.ldc 8, 2) := by decide +kernel
theorem wd5 {Z : State} {a0 : Array Value} (hw : ∀ d ∈ tables_1, d.before a0 Z = true) : (Jvm.Cond.constant "com/example/lectern/lectern/Hashes" (8 : Nat) (-1028477387 : Int32)).before a0 Z = true := hw _ (List.mem_of_getElem? (i := 5) rfl)
theorem d1_24 : decode prog_2_method_2_code 24 = .ok (.imul, 1) := by decide +kernel
theorem d1_25 : decode prog_2_method_2_code 25 = .ok (.istore_n 1, 1) := by decide +kernel
theorem d1_26 : decode prog_2_method_2_code 26 = .ok (.iload_n 1, 1) := by decide +kernel
theorem d1_27 : decode prog_2_method_2_code 27 = .ok (.iload_n 1, 1) := by decide +kernel
theorem d1_28 : decode prog_2_method_2_code 28 = .ok (.bipush 16, 2) := by decide +kernel
theorem d1_30 : decode prog_2_method_2_code 30 = .ok (.iushr, 1) := by decide +kernel
theorem d1_31 : decode prog_2_method_2_code 31 = .ok (.ixor, 1) := by decide +kernel
theorem d1_32 : decode prog_2_method_2_code 32 = .ok (.istore_n 1, 1) := by decide +kernel
def t1_7 (p1 : Int32) : Int32 := (((t1_6 p1) * (-1028477387 : Int32)) ^^^ ((((t1_6 p1) * (-1028477387 : Int32)).toUInt32 >>> ((16 : Int32) &&& 31).toUInt32).toInt32))
theorem d1_33 : decode prog_2_method_2_code 33 = .ok (.iload_n 1, 1) := by decide +kernel
theorem d1_34 : decode prog_2_method_2_code 34 = .ok (.ireturn, 1) := by decide +kernel
theorem pn1 : plainName "com/example/lectern/lectern/Hashes" = true := by first | (simp [plainName, overriddenIn]; done) | decide +kernel
def Q1 (Z : State) (p1 : Int32) (h0 : Heap) (n0 : Nat) (v : Option Value) (h : Heap) (L : List Loc) : Prop := v = some (.int (t1_7 p1)) ∧ Fr n0 L ∧ h = h0
theorem ef1 (m : MethodId) (x0 : Int32) : entryFrame m #[(.int x0)] 2 = mkF m 0 #[.val (.int x0), .unset] [] := by first | (simp [entryFrame, mkF, argsToLocals, Value.category]; done) | rfl
set_option maxRecDepth 65536 in
set_option maxHeartbeats 40000000 in
theorem rm1 (l : Launch) (Z : State) (a0 : Array Value) (hw : ∀ d ∈ tables_1, d.before a0 Z = true) (ws : List Jvm.Cond) (p1 : Int32) (h0 : Heap) (n0 : Nat) (Z0 : n0 ≤ h0.size) :
    MetFree l (⟨"com/example/lectern/lectern/Hashes", "spread", "(I)I"⟩ : MethodName) (head1 (Jvm.Cond.code (⟨"com/example/lectern/lectern/Hashes", "spread", "(I)I"⟩ : MethodName) prog_2_method_2_code 2 (some .int) :: ws) ({ frames := 0, cells := 0, slots := 0, locals := 0 } : Room)) (fun a U => a = #[(.int p1)] ∧ Z.Warmed39 U.vm ∧ U.heap = h0) (fun _ _ _ _ _ => True) (fun _ U o U' => ∃ v L, o = .returned v ∧ Q1 Z p1 h0 n0 v U'.heap L ∧ FrameEnd U o U' L ({ frames := 0, cells := 0, slots := 0, locals := 0 } : Room).cells ({ frames := 0, cells := 0, slots := 0, locals := 0 } : Room).slots) := by
  refine MetFree.of_bodySF (plainFor_of_name pn1) hisR ?_
  intro p e s m args below meth c s₁ Bd hml0 hP hK
  obtain ⟨rfl, hZ, hh⟩ := hP
  have hx := Bd.exec
  have hby := Bd.bytes
  have hml : c.maxLocals = 2 := hml0
  have hown : s.vm.findClass "com/example/lectern/lectern/Hashes" = some m.cls := findClass_of_methodNamed Bd.named
  have hnm := (name_of_methodNamed Bd.named Bd.method).1
  have X0 : Stand p l e ({ frames := 0, cells := 0, slots := 0, locals := 0 } : Room) s m #[(.int p1)] below meth c s₁ [] 0 0 := Stand.of_body Bd
  have e0 : s₁.heap = h0 := by rw [← hh, Bd.state]; rfl
  have N0 := Fr.nil n0
  have K0 : Keep h0 h0 [] := Keep.refl h0 _
  refine Go.st (P := fun o U' => ∃ v L, o = .returned v ∧ Q1 Z p1 h0 n0 v U'.heap L ∧ FrameEnd s o U' L ({ frames := 0, cells := 0, slots := 0, locals := 0 } : Room).cells ({ frames := 0, cells := 0, slots := 0, locals := 0 } : Room).slots) (fun t k => castTop (ef1 m p1) k) ?_
  show Go _ _ _ (s₁.setTop (mkF m 0 #[.val (.int p1), .unset] [])) _
  refine Go.st (fun t k => XS.iloadN X0.here hx rfl (hb hby d1_0) rfl k) ?_
  refine Go.st (fun t k => XS.istoreN X0.here hx rfl (hb hby d1_1) rfl (l' := #[.val (.int p1), .val (.int p1)]) rfl k) ?_
  refine Go.st (fun t k => XS.iloadN X0.here hx rfl (hb hby d1_2) rfl k) ?_
  refine Go.st (fun t k => XS.iloadN X0.here hx rfl (hb hby d1_3) rfl k) ?_
  refine Go.st (fun t k => XS.bipush X0.here hx rfl (hb hby d1_4) k) ?_
  refine Go.st (fun t k => XS.iushr X0.here hx rfl (hb hby d1_6) rfl k) ?_
  show Go _ _ _ (s₁.setTop (mkF m 7 #[.val (.int p1), .val (.int p1)] [(.int ((p1.toUInt32 >>> ((16 : Int32) &&& 31).toUInt32).toInt32)), (.int p1)])) _
  refine Go.st (fun t k => XS.ixor X0.here hx rfl (hb hby d1_7) rfl k) ?_
  show Go _ _ _ (s₁.setTop (mkF m 8 #[.val (.int p1), .val (.int p1)] [(.int (p1 ^^^ ((p1.toUInt32 >>> ((16 : Int32) &&& 31).toUInt32).toInt32)))])) _
  refine Go.st (fun t k => XS.istoreN X0.here hx rfl (hb hby d1_8) rfl (l' := #[.val (.int p1), .val (.int (p1 ^^^ ((p1.toUInt32 >>> ((16 : Int32) &&& 31).toUInt32).toInt32)))]) rfl k) ?_
  refine Go.st (fun t k => XS.iloadN X0.here hx rfl (hb hby d1_9) rfl k) ?_
  refine Go.st (fun t k => X0.ldcInt hx hown (mvT hZ (wd4 hw)) (g := (mkF m 10 #[.val (.int p1), .val (.int (p1 ^^^ ((p1.toUInt32 >>> ((16 : Int32) &&& 31).toUInt32).toInt32)))] [(.int (p1 ^^^ ((p1.toUInt32 >>> ((16 : Int32) &&& 31).toUInt32).toInt32)))])) rfl (hb hby d1_10) _ k) ?_
  show Go _ _ _ (s₁.setTop (mkF m 12 #[.val (.int p1), .val (.int (p1 ^^^ ((p1.toUInt32 >>> ((16 : Int32) &&& 31).toUInt32).toInt32)))] [(.int (-2048144789)), (.int (p1 ^^^ ((p1.toUInt32 >>> ((16 : Int32) &&& 31).toUInt32).toInt32)))])) _
  refine Go.st (fun t k => XS.imul X0.here hx rfl (hb hby d1_12) rfl k) ?_
  show Go _ _ _ (s₁.setTop (mkF m 13 #[.val (.int p1), .val (.int (p1 ^^^ ((p1.toUInt32 >>> ((16 : Int32) &&& 31).toUInt32).toInt32)))] [(.int ((p1 ^^^ ((p1.toUInt32 >>> ((16 : Int32) &&& 31).toUInt32).toInt32)) * (-2048144789 : Int32)))])) _
  refine Go.st (fun t k => XS.istoreN X0.here hx rfl (hb hby d1_13) rfl (l' := #[.val (.int p1), .val (.int (t1_5 p1))]) rfl k) ?_
  refine Go.st (fun t k => XS.iloadN X0.here hx rfl (hb hby d1_14) rfl k) ?_
  refine Go.st (fun t k => XS.iloadN X0.here hx rfl (hb hby d1_15) rfl k) ?_
  refine Go.st (fun t k => XS.bipush X0.here hx rfl (hb hby d1_16) k) ?_
  refine Go.st (fun t k => XS.iushr X0.here hx rfl (hb hby d1_18) rfl k) ?_
  show Go _ _ _ (s₁.setTop (mkF m 19 #[.val (.int p1), .val (.int (t1_5 p1))] [(.int (((t1_5 p1).toUInt32 >>> ((13 : Int32) &&& 31).toUInt32).toInt32)), (.int (t1_5 p1))])) _
  refine Go.st (fun t k => XS.ixor X0.here hx rfl (hb hby d1_19) rfl k) ?_
  show Go _ _ _ (s₁.setTop (mkF m 20 #[.val (.int p1), .val (.int (t1_5 p1))] [(.int ((t1_5 p1) ^^^ (((t1_5 p1).toUInt32 >>> ((13 : Int32) &&& 31).toUInt32).toInt32)))])) _
  refine Go.st (fun t k => XS.istoreN X0.here hx rfl (hb hby d1_20) rfl (l' := #[.val (.int p1), .val (.int (t1_6 p1))]) rfl k) ?_
  refine Go.st (fun t k => XS.iloadN X0.here hx rfl (hb hby d1_21) rfl k) ?_
  refine Go.st (fun t k => X0.ldcInt hx hown (mvT hZ (wd5 hw)) (g := (mkF m 22 #[.val (.int p1), .val (.int (t1_6 p1))] [(.int (t1_6 p1))])) rfl (hb hby d1_22) _ k) ?_
  show Go _ _ _ (s₁.setTop (mkF m 24 #[.val (.int p1), .val (.int (t1_6 p1))] [(.int (-1028477387)), (.int (t1_6 p1))])) _
  refine Go.st (fun t k => XS.imul X0.here hx rfl (hb hby d1_24) rfl k) ?_
  show Go _ _ _ (s₁.setTop (mkF m 25 #[.val (.int p1), .val (.int (t1_6 p1))] [(.int ((t1_6 p1) * (-1028477387 : Int32)))])) _
  refine Go.st (fun t k => XS.istoreN X0.here hx rfl (hb hby d1_25) rfl (l' := #[.val (.int p1), .val (.int ((t1_6 p1) * (-1028477387 : Int32)))]) rfl k) ?_
  refine Go.st (fun t k => XS.iloadN X0.here hx rfl (hb hby d1_26) rfl k) ?_
  refine Go.st (fun t k => XS.iloadN X0.here hx rfl (hb hby d1_27) rfl k) ?_
  refine Go.st (fun t k => XS.bipush X0.here hx rfl (hb hby d1_28) k) ?_
  refine Go.st (fun t k => XS.iushr X0.here hx rfl (hb hby d1_30) rfl k) ?_
  show Go _ _ _ (s₁.setTop (mkF m 31 #[.val (.int p1), .val (.int ((t1_6 p1) * (-1028477387 : Int32)))] [(.int ((((t1_6 p1) * (-1028477387 : Int32)).toUInt32 >>> ((16 : Int32) &&& 31).toUInt32).toInt32)), (.int ((t1_6 p1) * (-1028477387 : Int32)))])) _
  refine Go.st (fun t k => XS.ixor X0.here hx rfl (hb hby d1_31) rfl k) ?_
  show Go _ _ _ (s₁.setTop (mkF m 32 #[.val (.int p1), .val (.int ((t1_6 p1) * (-1028477387 : Int32)))] [(.int (((t1_6 p1) * (-1028477387 : Int32)) ^^^ ((((t1_6 p1) * (-1028477387 : Int32)).toUInt32 >>> ((16 : Int32) &&& 31).toUInt32).toInt32)))])) _
  refine Go.st (fun t k => XS.istoreN X0.here hx rfl (hb hby d1_32) rfl (l' := #[.val (.int p1), .val (.int (t1_7 p1))]) rfl k) ?_
  refine Go.st (fun t k => XS.iloadN X0.here hx rfl (hb hby d1_33) rfl k) ?_
  obtain ⟨fs, hr, hrun, hended, hW, hsame⟩ := X0.leave (v := some (.int (t1_7 p1))) (fun h => by rw [Bd.returns] at h; cases h)
  refine Go.fin (retOut X0 hx Bd.returns rfl (Or.inl ⟨rfl, Or.inl rfl, _, rfl⟩) (hb hby d1_34) hr) hrun hended ⟨_, _, rfl, ?_, ⟨_, rfl⟩, hW, hsame.mono (by decide) (by decide)⟩
  show Q1 Z p1 h0 n0 _ s₁.heap _
  rw [e0]
  exact ⟨rfl, N0, rfl⟩
theorem wd0 {Z : State} {a0 : Array Value} (hw : ∀ d ∈ tables_1, d.before a0 Z = true) : (Jvm.Cond.methodLink "com/example/lectern/lectern/HashesSpreadPinLaw" (21 : Nat) ({ cls := "com/example/lectern/lectern/Hashes", name := "spread", desc := "(I)I" } : Jvm.MethodName)).before a0 Z = true := hw _ (List.mem_of_getElem? (i := 0) rfl)
theorem wd3 {Z : State} {a0 : Array Value} (hw : ∀ d ∈ tables_1, d.before a0 Z = true) : (Jvm.Cond.code ({ cls := "com/example/lectern/lectern/Hashes", name := "spread", desc := "(I)I" } : Jvm.MethodName) prog_2_method_2_code (2 : Nat) (Option.some Jvm.ClassFile.FieldType.int)).before a0 Z = true := hw _ (List.mem_of_getElem? (i := 3) rfl)
theorem wd2 {Z : State} {a0 : Array Value} (hw : ∀ d ∈ tables_1, d.before a0 Z = true) : (Jvm.Cond.initialized "com/example/lectern/lectern/Hashes").before a0 Z = true := hw _ (List.mem_of_getElem? (i := 2) rfl)
theorem wd1 {Z : State} {a0 : Array Value} (hw : ∀ d ∈ tables_1, d.before a0 Z = true) : (Jvm.Cond.static ({ cls := "com/example/lectern/lectern/Hashes", name := "spread", desc := "(I)I" } : Jvm.MethodName)).before a0 Z = true := hw _ (List.mem_of_getElem? (i := 1) rfl)
theorem wd6 {Z : State} {a0 : Array Value} (hw : ∀ d ∈ tables_1, d.before a0 Z = true) : (Jvm.Cond.methodLink "com/example/lectern/lectern/HashesSpreadPinLaw" (26 : Nat) ({ cls := "com/example/lectern/lectern/HashesSpreadPinLaw", name := "unspread", desc := "(I)I" } : Jvm.MethodName)).before a0 Z = true := hw _ (List.mem_of_getElem? (i := 6) rfl)
theorem wd9 {Z : State} {a0 : Array Value} (hw : ∀ d ∈ tables_1, d.before a0 Z = true) : (Jvm.Cond.code ({ cls := "com/example/lectern/lectern/HashesSpreadPinLaw", name := "unspread", desc := "(I)I" } : Jvm.MethodName) method_5_code (2 : Nat) (Option.some Jvm.ClassFile.FieldType.int)).before a0 Z = true := hw _ (List.mem_of_getElem? (i := 9) rfl)
theorem wd7 {Z : State} {a0 : Array Value} (hw : ∀ d ∈ tables_1, d.before a0 Z = true) : (Jvm.Cond.static ({ cls := "com/example/lectern/lectern/HashesSpreadPinLaw", name := "unspread", desc := "(I)I" } : Jvm.MethodName)).before a0 Z = true := hw _ (List.mem_of_getElem? (i := 7) rfl)
def f0 (p1 : Int32) (p2 : Int32) : Int32 := (if (t2_4 (t1_7 p1)) = p1 then (if (t1_7 (t2_4 p2)) = p2 then (1 : Int32) else (0 : Int32)) else (0 : Int32))
def Q0 (Z : State) (p1 : Int32) (p2 : Int32) (h0 : Heap) (n0 : Nat) (v : Option Value) (h : Heap) (L : List Loc) : Prop := v = some (.int (f0 p1 p2)) ∧ Fr n0 L
theorem ef0 (m : MethodId) (x0 : Int32) (x1 : Int32) : entryFrame m #[(.int x0), (.int x1)] maxLocals = mkF m 0 #[.val (.int x0), .val (.int x1), .unset, .unset] [] := by first | (simp [entryFrame, mkF, argsToLocals, Value.category, maxLocals]; done) | rfl
set_option maxRecDepth 65536 in
set_option maxHeartbeats 40000000 in
theorem rm0 (l : Launch) (Z : State) (a0 : Array Value) (hw : ∀ d ∈ tables_1, d.before a0 Z = true) (ws : List Jvm.Cond) (p1 : Int32) (p2 : Int32) (h0 : Heap) (n0 : Nat) (Z0 : n0 ≤ h0.size) :
    MetFree l x (head1 (Jvm.Cond.code x code maxLocals ret :: ws) room_1) (fun a U => a = #[(.int p1), (.int p2)] ∧ Z.Warmed39 U.vm ∧ U.heap = h0) (fun _ _ _ _ _ => True) (fun _ U o U' => ∃ v L, o = .returned v ∧ Q0 Z p1 p2 h0 n0 v U'.heap L ∧ FrameEnd U o U' L 0 0) := by
  refine MetFree.of_bodySF (plainFor_of_name pn0) hisR ?_
  intro p e s m args below meth c s₁ Bd hml0 hP hK
  obtain ⟨rfl, hZ, hh⟩ := hP
  have hx := Bd.exec
  have hby := Bd.bytes
  have hml : c.maxLocals = 4 := hml0
  have hown : s.vm.findClass "com/example/lectern/lectern/HashesSpreadPinLaw" = some m.cls := findClass_of_methodNamed Bd.named
  have hnm := (name_of_methodNamed Bd.named Bd.method).1
  have X0 : Stand p l e room_1 s m #[(.int p1), (.int p2)] below meth c s₁ [] 0 0 := Stand.of_body Bd
  have e0 : s₁.heap = h0 := by rw [← hh, Bd.state]; rfl
  have N0 := Fr.nil n0
  have K0 : Keep h0 h0 [] := Keep.refl h0 _
  refine Go.st (P := fun o U' => ∃ v L, o = .returned v ∧ Q0 Z p1 p2 h0 n0 v U'.heap L ∧ FrameEnd s o U' L 0 0) (fun t k => castTop (ef0 m p1 p2) k) ?_
  show Go _ _ _ (s₁.setTop (mkF m 0 #[.val (.int p1), .val (.int p2), .unset, .unset] [])) _
  refine Go.st (fun t k => XS.iloadN X0.here hx rfl (hb hby at_0) rfl k) ?_
  obtain ⟨_, _, ⟨T1, L1, k1, n1⟩, -, X1, ⟨Lc1, hQ1, l1, y1, z1⟩, st1⟩ := Jvm.LawKit.callS X0 hx (y := (⟨"com/example/lectern/lectern/Hashes", "spread", "(I)I"⟩ : MethodName)) hown (mvT hZ (wd0 hw)) (mvT hZ (wd1 hw)) (mvT hZ (wd2 hw)) (mvT hZ (wd3 hw)) (by decide) (backOf (W := 0) (rm1 l Z a0 hw [] p1 h0 n0 Z0) hZ (wd3 hw) (wd2 hw) (by decide) (by decide)) (g := (mkF m 1 #[.val (.int p1), .val (.int p2), .unset, .unset] [(.int p1)])) rfl (by rw [hml]; rfl) (argsL := [(.int p1)]) (rest := []) (lenOf pd0 rfl) rfl (by show 2 * 0 + _ ≤ _; exact Nat.le_of_eq rfl) (hb hby at_1) (fun _ _ => ⟨rfl, e0, (by decide : 0 + 0 ≤ _), (by decide : 0 + 0 ≤ _)⟩)
  dsimp only [Pt.U, Pt.locs, Pt.cells, Pt.slots] at X1 l1 y1 z1 st1 hQ1
  subst l1 y1 z1
  refine Go.st st1 ?_
  obtain ⟨rfl, N1q, e1⟩ := hQ1
  have N1 := Fr.app N0 N1q
  show Go _ _ _ (T1.setTop (mkF m 4 #[.val (.int p1), .val (.int p2), .unset, .unset] [(.int (t1_7 p1))])) _
  obtain ⟨_, _, ⟨T2, L2, k2, n2⟩, -, X2, ⟨Lc2, hQ2, l2, y2, z2⟩, st2⟩ := Jvm.LawKit.callS X1 hx (y := (⟨"com/example/lectern/lectern/HashesSpreadPinLaw", "unspread", "(I)I"⟩ : MethodName)) hown (mvT hZ (wd6 hw)) (mvT hZ (wd7 hw)) (mvT hZ (wd8 hw)) (mvT hZ (wd9 hw)) (by decide) (backOf (W := 0) (rm2 l Z a0 hw [] (t1_7 p1) h0 n0 Z0) hZ (wd9 hw) (wd8 hw) (by decide) (by decide)) (g := (mkF m 4 #[.val (.int p1), .val (.int p2), .unset, .unset] [(.int (t1_7 p1))])) rfl (by rw [hml]; rfl) (argsL := [(.int (t1_7 p1))]) (rest := []) (lenOf pd0 rfl) rfl (by show 2 * 0 + _ ≤ _; exact Nat.le_of_eq rfl) (hb hby at_4) (fun _ _ => ⟨rfl, e1, (by decide : 0 + 0 ≤ _), (by decide : 0 + 0 ≤ _)⟩)
  dsimp only [Pt.U, Pt.locs, Pt.cells, Pt.slots] at X2 l2 y2 z2 st2 hQ2
  subst l2 y2 z2
  refine Go.st st2 ?_
  obtain ⟨rfl, N2q, e2⟩ := hQ2
  have N2 := Fr.app N1 N2q
  show Go _ _ _ (T2.setTop (mkF m 7 #[.val (.int p1), .val (.int p2), .unset, .unset] [(.int (t2_4 (t1_7 p1)))])) _
  refine Go.st (fun t k => XS.iloadN X2.here hx rfl (hb hby at_7) rfl k) ?_
  by_cases hc3 : (t2_4 (t1_7 p1)) = p1
  · refine Go.st (fun t k => XS.icmpNo X2.here hx rfl (hb hby at_8) rfl (teq hc3).2 k) ?_
    show Go _ _ _ (T2.setTop (mkF m 11 #[.val (.int p1), .val (.int p2), .unset, .unset] [])) _
    refine Go.st (fun t k => XS.iconst X2.here hx rfl (hb hby at_11) k) ?_
    refine Go.st (fun t k => XS.goto X2.here hx rfl (pc0 := 12) (pc' := 16) rfl (hb hby at_12) (by decide) (by decide) k) ?_
    refine Go.st (fun t k => XS.istoreN X2.here hx rfl (hb hby at_16) rfl (l' := #[.val (.int p1), .val (.int p2), .val (.int 1), .unset]) rfl k) ?_
    refine Go.st (fun t k => XS.iloadN X2.here hx rfl (hb hby at_17) rfl k) ?_
    obtain ⟨_, _, ⟨T4, L4, k4, n4⟩, -, X4, ⟨Lc4, hQ4, l4, y4, z4⟩, st4⟩ := Jvm.LawKit.callS X2 hx (y := (⟨"com/example/lectern/lectern/HashesSpreadPinLaw", "unspread", "(I)I"⟩ : MethodName)) hown (mvT hZ (wd6 hw)) (mvT hZ (wd7 hw)) (mvT hZ (wd8 hw)) (mvT hZ (wd9 hw)) (by decide) (backOf (W := 0) (rm2 l Z a0 hw [] p2 h0 n0 Z0) hZ (wd9 hw) (wd8 hw) (by decide) (by decide)) (g := (mkF m 18 #[.val (.int p1), .val (.int p2), .val (.int 1), .unset] [(.int p2)])) rfl (by rw [hml]; rfl) (argsL := [(.int p2)]) (rest := []) (lenOf pd0 rfl) rfl (by show 2 * 0 + _ ≤ _; exact Nat.le_of_eq rfl) (hb hby at_18) (fun _ _ => ⟨rfl, e2, (by decide : 0 + 0 ≤ _), (by decide : 0 + 0 ≤ _)⟩)
    dsimp only [Pt.U, Pt.locs, Pt.cells, Pt.slots] at X4 l4 y4 z4 st4 hQ4
    subst l4 y4 z4
    refine Go.st st4 ?_
    obtain ⟨rfl, N4q, e4⟩ := hQ4
    have N4 := Fr.app N2 N4q
    show Go _ _ _ (T4.setTop (mkF m 21 #[.val (.int p1), .val (.int p2), .val (.int 1), .unset] [(.int (t2_4 p2))])) _
    obtain ⟨_, _, ⟨T5, L5, k5, n5⟩, -, X5, ⟨Lc5, hQ5, l5, y5, z5⟩, st5⟩ := Jvm.LawKit.callS X4 hx (y := (⟨"com/example/lectern/lectern/Hashes", "spread", "(I)I"⟩ : MethodName)) hown (mvT hZ (wd0 hw)) (mvT hZ (wd1 hw)) (mvT hZ (wd2 hw)) (mvT hZ (wd3 hw)) (by decide) (backOf (W := 0) (rm1 l Z a0 hw [] (t2_4 p2) h0 n0 Z0) hZ (wd3 hw) (wd2 hw) (by decide) (by decide)) (g := (mkF m 21 #[.val (.int p1), .val (.int p2), .val (.int 1), .unset] [(.int (t2_4 p2))])) rfl (by rw [hml]; rfl) (argsL := [(.int (t2_4 p2))]) (rest := []) (lenOf pd0 rfl) rfl (by show 2 * 0 + _ ≤ _; exact Nat.le_of_eq rfl) (hb hby at_21) (fun _ _ => ⟨rfl, e4, (by decide : 0 + 0 ≤ _), (by decide : 0 + 0 ≤ _)⟩)
    dsimp only [Pt.U, Pt.locs, Pt.cells, Pt.slots] at X5 l5 y5 z5 st5 hQ5
    subst l5 y5 z5
    refine Go.st st5 ?_
    obtain ⟨rfl, N5q, e5⟩ := hQ5
    have N5 := Fr.app N4 N5q
    show Go _ _ _ (T5.setTop (mkF m 24 #[.val (.int p1), .val (.int p2), .val (.int 1), .unset] [(.int (t1_7 (t2_4 p2)))])) _
    refine Go.st (fun t k => XS.iloadN X5.here hx rfl (hb hby at_24) rfl k) ?_
    by_cases hc6 : (t1_7 (t2_4 p2)) = p2
    · refine Go.st (fun t k => XS.icmpNo X5.here hx rfl (hb hby at_25) rfl (teq hc6).2 k) ?_
      show Go _ _ _ (T5.setTop (mkF m 28 #[.val (.int p1), .val (.int p2), .val (.int 1), .unset] [])) _
      refine Go.st (fun t k => XS.iconst X5.here hx rfl (hb hby at_28) k) ?_
      refine Go.st (fun t k => XS.goto X5.here hx rfl (pc0 := 29) (pc' := 33) rfl (hb hby at_29) (by decide) (by decide) k) ?_
      refine Go.st (fun t k => XS.istoreN X5.here hx rfl (hb hby at_33) rfl (l' := #[.val (.int p1), .val (.int p2), .val (.int 1), .val (.int 1)]) rfl k) ?_
      refine Go.st (fun t k => XS.iloadN X5.here hx rfl (hb hby at_34) rfl k) ?_
      refine Go.st (fun t k => XS.ifNo X5.here hx rfl (hb hby at_35) rfl ((if0 _ _).trans (feq (by decide : ¬ ((1 : Int32) = (0 : Int32)))).1) k) ?_
      show Go _ _ _ (T5.setTop (mkF m 38 #[.val (.int p1), .val (.int p2), .val (.int 1), .val (.int 1)] [])) _
      refine Go.st (fun t k => XS.iloadN X5.here hx rfl (hb hby at_38) rfl k) ?_
      refine Go.st (fun t k => XS.ifNo X5.here hx rfl (hb hby at_39) rfl ((if0 _ _).trans (feq (by decide : ¬ ((1 : Int32) = (0 : Int32)))).1) k) ?_
      show Go _ _ _ (T5.setTop (mkF m 42 #[.val (.int p1), .val (.int p2), .val (.int 1), .val (.int 1)] [])) _
      refine Go.st (fun t k => XS.iconst X5.here hx rfl (hb hby at_42) k) ?_
      refine Go.st (fun t k => XS.goto X5.here hx rfl (pc0 := 43) (pc' := 47) rfl (hb hby at_43) (by decide) (by decide) k) ?_
      obtain ⟨fs, hr, hrun, hended, hW, hsame⟩ := X5.leave (v := some (.int (1 : Int32))) (fun h => by rw [Bd.returns] at h; cases h)
      refine Go.fin (retN X5 hx (t := .boolean) Bd.returns (by simp) (hb hby at_47) hr) hrun hended ⟨_, _, rfl, ?_, ⟨_, rfl⟩, hW, hsame.mono (by decide) (by decide)⟩
      show Q0 Z p1 p2 h0 n0 _ T5.heap _
      rw [e5]
      exact ⟨(by unfold f0; simp only [if_pos hc3, if_pos hc6]), N5⟩
    · refine Go.st (fun t k => XS.icmpYes X5.here hx rfl (pc0 := 25) (pc' := 32) rfl (hb hby at_25) rfl (feq hc6).2 (by decide) (by decide) k) ?_
      show Go _ _ _ (T5.setTop (mkF m 32 #[.val (.int p1), .val (.int p2), .val (.int 1), .unset] [])) _
      refine Go.st (fun t k => XS.iconst X5.here hx rfl (hb hby at_32) k) ?_
      refine Go.st (fun t k => XS.istoreN X5.here hx rfl (hb hby at_33) rfl (l' := #[.val (.int p1), .val (.int p2), .val (.int 1), .val (.int 0)]) rfl k) ?_
      refine Go.st (fun t k => XS.iloadN X5.here hx rfl (hb hby at_34) rfl k) ?_
      refine Go.st (fun t k => XS.ifNo X5.here hx rfl (hb hby at_35) rfl ((if0 _ _).trans (feq (by decide : ¬ ((1 : Int32) = (0 : Int32)))).1) k) ?_
      show Go _ _ _ (T5.setTop (mkF m 38 #[.val (.int p1), .val (.int p2), .val (.int 1), .val (.int 0)] [])) _
      refine Go.st (fun t k => XS.iloadN X5.here hx rfl (hb hby at_38) rfl k) ?_
      refine Go.st (fun t k => XS.ifYes X5.here hx rfl (pc0 := 39) (pc' := 46) rfl (hb hby at_39) rfl ((if0 _ _).trans (teq (by decide : (0 : Int32) = (0 : Int32))).1) (by decide) (by decide) k) ?_
      show Go _ _ _ (T5.setTop (mkF m 46 #[.val (.int p1), .val (.int p2), .val (.int 1), .val (.int 0)] [])) _
      refine Go.st (fun t k => XS.iconst X5.here hx rfl (hb hby at_46) k) ?_
      obtain ⟨fs, hr, hrun, hended, hW, hsame⟩ := X5.leave (v := some (.int (0 : Int32))) (fun h => by rw [Bd.returns] at h; cases h)
      refine Go.fin (retN X5 hx (t := .boolean) Bd.returns (by simp) (hb hby at_47) hr) hrun hended ⟨_, _, rfl, ?_, ⟨_, rfl⟩, hW, hsame.mono (by decide) (by decide)⟩
      show Q0 Z p1 p2 h0 n0 _ T5.heap _
      rw [e5]
      exact ⟨(by unfold f0; simp only [if_pos hc3, if_neg hc6]), N5⟩
  · refine Go.st (fun t k => XS.icmpYes X2.here hx rfl (pc0 := 8) (pc' := 15) rfl (hb hby at_8) rfl (feq hc3).2 (by decide) (by decide) k) ?_
    show Go _ _ _ (T2.setTop (mkF m 15 #[.val (.int p1), .val (.int p2), .unset, .unset] [])) _
    refine Go.st (fun t k => XS.iconst X2.here hx rfl (hb hby at_15) k) ?_
    refine Go.st (fun t k => XS.istoreN X2.here hx rfl (hb hby at_16) rfl (l' := #[.val (.int p1), .val (.int p2), .val (.int 0), .unset]) rfl k) ?_
    refine Go.st (fun t k => XS.iloadN X2.here hx rfl (hb hby at_17) rfl k) ?_
    obtain ⟨_, _, ⟨T7, L7, k7, n7⟩, -, X7, ⟨Lc7, hQ7, l7, y7, z7⟩, st7⟩ := Jvm.LawKit.callS X2 hx (y := (⟨"com/example/lectern/lectern/HashesSpreadPinLaw", "unspread", "(I)I"⟩ : MethodName)) hown (mvT hZ (wd6 hw)) (mvT hZ (wd7 hw)) (mvT hZ (wd8 hw)) (mvT hZ (wd9 hw)) (by decide) (backOf (W := 0) (rm2 l Z a0 hw [] p2 h0 n0 Z0) hZ (wd9 hw) (wd8 hw) (by decide) (by decide)) (g := (mkF m 18 #[.val (.int p1), .val (.int p2), .val (.int 0), .unset] [(.int p2)])) rfl (by rw [hml]; rfl) (argsL := [(.int p2)]) (rest := []) (lenOf pd0 rfl) rfl (by show 2 * 0 + _ ≤ _; exact Nat.le_of_eq rfl) (hb hby at_18) (fun _ _ => ⟨rfl, e2, (by decide : 0 + 0 ≤ _), (by decide : 0 + 0 ≤ _)⟩)
    dsimp only [Pt.U, Pt.locs, Pt.cells, Pt.slots] at X7 l7 y7 z7 st7 hQ7
    subst l7 y7 z7
    refine Go.st st7 ?_
    obtain ⟨rfl, N7q, e7⟩ := hQ7
    have N7 := Fr.app N2 N7q
    show Go _ _ _ (T7.setTop (mkF m 21 #[.val (.int p1), .val (.int p2), .val (.int 0), .unset] [(.int (t2_4 p2))])) _
    obtain ⟨_, _, ⟨T8, L8, k8, n8⟩, -, X8, ⟨Lc8, hQ8, l8, y8, z8⟩, st8⟩ := Jvm.LawKit.callS X7 hx (y := (⟨"com/example/lectern/lectern/Hashes", "spread", "(I)I"⟩ : MethodName)) hown (mvT hZ (wd0 hw)) (mvT hZ (wd1 hw)) (mvT hZ (wd2 hw)) (mvT hZ (wd3 hw)) (by decide) (backOf (W := 0) (rm1 l Z a0 hw [] (t2_4 p2) h0 n0 Z0) hZ (wd3 hw) (wd2 hw) (by decide) (by decide)) (g := (mkF m 21 #[.val (.int p1), .val (.int p2), .val (.int 0), .unset] [(.int (t2_4 p2))])) rfl (by rw [hml]; rfl) (argsL := [(.int (t2_4 p2))]) (rest := []) (lenOf pd0 rfl) rfl (by show 2 * 0 + _ ≤ _; exact Nat.le_of_eq rfl) (hb hby at_21) (fun _ _ => ⟨rfl, e7, (by decide : 0 + 0 ≤ _), (by decide : 0 + 0 ≤ _)⟩)
    dsimp only [Pt.U, Pt.locs, Pt.cells, Pt.slots] at X8 l8 y8 z8 st8 hQ8
    subst l8 y8 z8
    refine Go.st st8 ?_
    obtain ⟨rfl, N8q, e8⟩ := hQ8
    have N8 := Fr.app N7 N8q
    show Go _ _ _ (T8.setTop (mkF m 24 #[.val (.int p1), .val (.int p2), .val (.int 0), .unset] [(.int (t1_7 (t2_4 p2)))])) _
    refine Go.st (fun t k => XS.iloadN X8.here hx rfl (hb hby at_24) rfl k) ?_
    by_cases hc9 : (t1_7 (t2_4 p2)) = p2
    · refine Go.st (fun t k => XS.icmpNo X8.here hx rfl (hb hby at_25) rfl (teq hc9).2 k) ?_
      show Go _ _ _ (T8.setTop (mkF m 28 #[.val (.int p1), .val (.int p2), .val (.int 0), .unset] [])) _
      refine Go.st (fun t k => XS.iconst X8.here hx rfl (hb hby at_28) k) ?_
      refine Go.st (fun t k => XS.goto X8.here hx rfl (pc0 := 29) (pc' := 33) rfl (hb hby at_29) (by decide) (by decide) k) ?_
      refine Go.st (fun t k => XS.istoreN X8.here hx rfl (hb hby at_33) rfl (l' := #[.val (.int p1), .val (.int p2), .val (.int 0), .val (.int 1)]) rfl k) ?_
      refine Go.st (fun t k => XS.iloadN X8.here hx rfl (hb hby at_34) rfl k) ?_
      refine Go.st (fun t k => XS.ifYes X8.here hx rfl (pc0 := 35) (pc' := 46) rfl (hb hby at_35) rfl ((if0 _ _).trans (teq (by decide : (0 : Int32) = (0 : Int32))).1) (by decide) (by decide) k) ?_
      show Go _ _ _ (T8.setTop (mkF m 46 #[.val (.int p1), .val (.int p2), .val (.int 0), .val (.int 1)] [])) _
      refine Go.st (fun t k => XS.iconst X8.here hx rfl (hb hby at_46) k) ?_
      obtain ⟨fs, hr, hrun, hended, hW, hsame⟩ := X8.leave (v := some (.int (0 : Int32))) (fun h => by rw [Bd.returns] at h; cases h)
      refine Go.fin (retN X8 hx (t := .boolean) Bd.returns (by simp) (hb hby at_47) hr) hrun hended ⟨_, _, rfl, ?_, ⟨_, rfl⟩, hW, hsame.mono (by decide) (by decide)⟩
      show Q0 Z p1 p2 h0 n0 _ T8.heap _
      rw [e8]
      exact ⟨(by unfold f0; simp only [if_neg hc3, if_pos hc9]), N8⟩
    · refine Go.st (fun t k => XS.icmpYes X8.here hx rfl (pc0 := 25) (pc' := 32) rfl (hb hby at_25) rfl (feq hc9).2 (by decide) (by decide) k) ?_
      show Go _ _ _ (T8.setTop (mkF m 32 #[.val (.int p1), .val (.int p2), .val (.int 0), .unset] [])) _
      refine Go.st (fun t k => XS.iconst X8.here hx rfl (hb hby at_32) k) ?_
      refine Go.st (fun t k => XS.istoreN X8.here hx rfl (hb hby at_33) rfl (l' := #[.val (.int p1), .val (.int p2), .val (.int 0), .val (.int 0)]) rfl k) ?_
      refine Go.st (fun t k => XS.iloadN X8.here hx rfl (hb hby at_34) rfl k) ?_
      refine Go.st (fun t k => XS.ifYes X8.here hx rfl (pc0 := 35) (pc' := 46) rfl (hb hby at_35) rfl ((if0 _ _).trans (teq (by decide : (0 : Int32) = (0 : Int32))).1) (by decide) (by decide) k) ?_
      show Go _ _ _ (T8.setTop (mkF m 46 #[.val (.int p1), .val (.int p2), .val (.int 0), .val (.int 0)] [])) _
      refine Go.st (fun t k => XS.iconst X8.here hx rfl (hb hby at_46) k) ?_
      obtain ⟨fs, hr, hrun, hended, hW, hsame⟩ := X8.leave (v := some (.int (0 : Int32))) (fun h => by rw [Bd.returns] at h; cases h)
      refine Go.fin (retN X8 hx (t := .boolean) Bd.returns (by simp) (hb hby at_47) hr) hrun hended ⟨_, _, rfl, ?_, ⟨_, rfl⟩, hW, hsame.mono (by decide) (by decide)⟩
      show Q0 Z p1 p2 h0 n0 _ T8.heap _
      rw [e8]
      exact ⟨(by unfold f0; simp only [if_neg hc3, if_neg hc9]), N8⟩
theorem own_us16 (x : Int32) : ((x.toUInt32 >>> ((16 : Int32) &&& 31).toUInt32).toInt32).toBitVec = x.toBitVec >>> 16 := rfl
theorem own_us13 (x : Int32) : ((x.toUInt32 >>> ((13 : Int32) &&& 31).toUInt32).toInt32).toBitVec = x.toBitVec >>> 13 := rfl
theorem own_us26 (x : Int32) : ((x.toUInt32 >>> ((26 : Int32) &&& 31).toUInt32).toInt32).toBitVec = x.toBitVec >>> 26 := rfl
def own_x16 (x : Int32) : Int32 := x ^^^ ((x.toUInt32 >>> ((16 : Int32) &&& 31).toUInt32).toInt32)
def own_x13 (x : Int32) : Int32 := x ^^^ ((x.toUInt32 >>> ((13 : Int32) &&& 31).toUInt32).toInt32)
def own_y13 (x : Int32) : Int32 := (x ^^^ ((x.toUInt32 >>> ((13 : Int32) &&& 31).toUInt32).toInt32)) ^^^ ((x.toUInt32 >>> ((26 : Int32) &&& 31).toUInt32).toInt32)
theorem own_inv16 (x : Int32) : own_x16 (own_x16 x) = x := by
  apply Int32.toBitVec_inj.mp
  simp only [own_x16, Int32.toBitVec_xor, own_us16]
  apply BitVec.eq_of_getLsbD_eq
  intro i hi
  simp only [BitVec.getLsbD_xor, BitVec.getLsbD_ushiftRight]
  rw [BitVec.getLsbD_of_ge _ (16 + (16 + i)) (by omega)]
  cases x.toBitVec.getLsbD i <;> cases x.toBitVec.getLsbD (16 + i) <;> rfl
theorem own_a13 (x : Int32) : own_y13 (own_x13 x) = x := by
  apply Int32.toBitVec_inj.mp
  simp only [own_y13, own_x13, Int32.toBitVec_xor, own_us13, own_us26]
  apply BitVec.eq_of_getLsbD_eq
  intro i hi
  simp only [BitVec.getLsbD_xor, BitVec.getLsbD_ushiftRight]
  rw [BitVec.getLsbD_of_ge _ (13 + (26 + i)) (by omega), show 13 + (13 + i) = 26 + i by omega]
  cases x.toBitVec.getLsbD i <;> cases x.toBitVec.getLsbD (13 + i) <;> cases x.toBitVec.getLsbD (26 + i) <;> rfl
theorem own_b13 (x : Int32) : own_x13 (own_y13 x) = x := by
  apply Int32.toBitVec_inj.mp
  simp only [own_y13, own_x13, Int32.toBitVec_xor, own_us13, own_us26]
  apply BitVec.eq_of_getLsbD_eq
  intro i hi
  simp only [BitVec.getLsbD_xor, BitVec.getLsbD_ushiftRight]
  rw [BitVec.getLsbD_of_ge _ (26 + (13 + i)) (by omega), show 13 + (13 + i) = 26 + i by omega]
  cases x.toBitVec.getLsbD i <;> cases x.toBitVec.getLsbD (13 + i) <;> cases x.toBitVec.getLsbD (26 + i) <;> rfl
theorem own_m1 (x : Int32) : x * (-1028477387 : Int32) * t4_1 (-1028477387 : Int32) = x := by
  rw [Int32.mul_assoc, show (-1028477387 : Int32) * t4_1 (-1028477387 : Int32) = 1 by decide +kernel, Int32.mul_one]
theorem own_m1' (x : Int32) : x * t4_1 (-1028477387 : Int32) * (-1028477387 : Int32) = x := by
  rw [Int32.mul_assoc, show t4_1 (-1028477387 : Int32) * (-1028477387 : Int32) = 1 by decide +kernel, Int32.mul_one]
theorem own_m2 (x : Int32) : x * (-2048144789 : Int32) * t4_1 (-2048144789 : Int32) = x := by
  rw [Int32.mul_assoc, show (-2048144789 : Int32) * t4_1 (-2048144789 : Int32) = 1 by decide +kernel, Int32.mul_one]
theorem own_m2' (x : Int32) : x * t4_1 (-2048144789 : Int32) * (-2048144789 : Int32) = x := by
  rw [Int32.mul_assoc, show t4_1 (-2048144789 : Int32) * (-2048144789 : Int32) = 1 by decide +kernel, Int32.mul_one]
theorem own_un (y : Int32) : t2_4 y = own_x16 (own_y13 (own_x16 y * t4_1 (-1028477387 : Int32)) * t4_1 (-2048144789 : Int32)) := rfl
theorem own_sp (y : Int32) : t1_7 y = own_x16 (own_x13 (own_x16 y * (-2048144789 : Int32)) * (-1028477387 : Int32)) := rfl
theorem own_back (x : Int32) : t2_4 (t1_7 x) = x := by rw [own_un, own_sp, own_inv16, own_m1, own_a13, own_m2, own_inv16]
theorem own_forth (x : Int32) : t1_7 (t2_4 x) = x := by rw [own_un, own_sp, own_inv16, own_m2', own_b13, own_m1', own_inv16]
theorem own_plain (a b : Int32) : f0 a b = 1 := by unfold f0; rw [if_pos (own_back a), if_pos (own_forth b)]

set_option maxRecDepth 65536 in
set_option maxHeartbeats 40000000 in
theorem comes_1 {Post : Tables → Env → Array Value → State → Outcome → State → Prop} (hpost : ∀ tb e args s v u, (limb_1_1.after args s (.returned v) u = true ∧ limb_1_2.after args s (.returned v) u = true ∧ True) → FrameEnd s (.returned v) u (Jvm.fieldLocs frame_1_writes args s ++ Jvm.arrayLocs frame_1_arrays args s ++ Jvm.staticLocs frame_1_statics s) 0 0 → Post tb e args s (.returned v) u) :
    ArmFor flags0 classFile x code maxLocals ret World_1 tables_1 room_1 Calls_1 rest_1 Pre_1 Post := by
  intro l hfl _ _ p e ha hc hk s m args below hf hA hF happ hP
  obtain ⟨hcalls, hrest, hpre⟩ := hP
  obtain ⟨-, -, -, hnamed, -, -, -, hat⟩ := (Spec.applies_iff hf).mp happ
  obtain ⟨hg, hn⟩ := and_e (Cond.before_iff.mp (show (Jvm.Cond.and given_1 narrow_1).before args s = true from hpre))
  obtain ⟨g1, g2⟩ := and_e hg
  obtain ⟨g3, g4⟩ := and_e g2
  obtain ⟨w0, w1, rfl⟩ : ∃ w0 w1 : Value, args = #[w0, w1] := by
    have hs : args.size = 2 := by simpa [Cond.value, given_1] using g1
    obtain ⟨L⟩ := args
    match L, hs with
    | [w0, w1], _ => exact ⟨w0, w1, rfl⟩
  have hw := fun d (hd : d ∈ tables_1) => atoms_spec (ws := Jvm.Cond.code x code maxLocals ret :: tables_1) hat d (List.mem_cons_of_mem _ hd)
  have hfit : Fit s := fun {y c} hc i hi => by
    obtain ⟨ha, rfl⟩ := Array.getElem?_eq_some_iff.mp hc
    have q := List.all_eq_true.mp ((Array.all_eq_true_iff_forall_mem.mp hF) _ (Array.getElem_mem ha)) i (List.mem_range.mpr hi)
    simpa [Array.getElem?_eq_getElem hi] using q
  obtain ⟨i0, ei0⟩ := is_v g3
  obtain rfl : w0 = (.int i0) := Option.some.inj ei0
  obtain ⟨i1, ei1⟩ := is_v g4
  obtain rfl : w1 = (.int i1) := Option.some.inj ei1
  have hplain := own_plain i0 i1
  obtain ⟨n, o, h1, h2, h3, _, L, rfl, ⟨rfl, N⟩, hq⟩ := rm0 l s _ hw tables_1 i0 i1 s.heap s.heap.size (Nat.le_refl _)  p e ha hc hk s m _ below hf ((Spec.applies_iff_loose hf).mp happ).1 ⟨rfl, State.Warmed39.refl s, rfl⟩ trivial
  rw [hplain] at *
  refine ⟨n, _, h1, h2, h3, hpost _ _ _ _ _ _ ⟨Cond.after_iff.mpr rfl, Cond.after_iff.mpr (eq_i res_at (Term.int_eval (1)) rfl), trivial⟩ ⟨hq.1, hq.2.1, (hq.2.2.sift fun y hy => Or.inr (N y hy)).mono (by decide) (by decide)⟩⟩
theorem main_1_1 : Claimed_1_1 := comes_1 fun _ _ _ _ _ _ h hF => ⟨h.1, hF⟩
theorem main_1_2 : Claimed_1_2 := comes_1 fun _ _ _ _ _ _ h hF => ⟨h.2.1, hF⟩
end Jvm.Pilot.@@N@@
namespace Jvm.Pilot.@@N@@
open Jvm Jvm.ClassFile Sem Op Lib Jvm.Free Jvm.Stand Jvm.Pilot.@@N@@.Jvm.D
/-! MADE BY PROGRAM (witnessworld.py) out of the Statement's table words and the real class files: 7 classes; the members and pool entries that the words name. The judged class is class 1, her method 5. -/
namespace start1
open Jvm.ClassFile
def u (s : String) : CpInfo := .utf8 (stringToUtf16 s)
/-- a pool by its gaps: so many unusable entries, then the entry; so many at the end -/
def gap : Nat → List CpInfo → List CpInfo
  | 0, r => r
  | n + 1, r => .unusable :: gap n r
def poolList (es : List (Nat × CpInfo)) (last : Nat) : List CpInfo := es.foldr (fun e r => gap e.1 (e.2 :: r)) (gap last [])
def pool (es : List (Nat × CpInfo)) (last : Nat) : Array CpInfo := ⟨poolList es last⟩
def fileOf (pool : Array CpInfo) (this : Nat) (attrs : Array Attribute := #[]) (ms : Array MethodInfo := #[]) (fl : Nat := 33) (sup : Nat := 0) (ifs : Array Nat := #[]) (fds : Array FieldInfo := #[]) : ClassFile where
  minorVersion := 0
  majorVersion := 65
  constantPool := pool
  accessFlags := fl
  thisClass := this
  superClass := sup
  interfaces := ifs
  fields := fds
  methods := ms
  attributes := attrs
def plain (name : String) (sup : Option ClassId) : Class where
  name := name
  kind := .ordinary
  loader := none
  accessFlags := 33
  super := sup
  interfaces := #[]
  cf := none
  fields := #[]
  methods := #[]
  instanceTypes := #[]
  staticTypes := #[]
  resolved := #[]
  callSites := []
  init := .initialized
  statics := none
  mirror := none

def pool0 : Array CpInfo := pool [(5, u "<init>"), (0, u "()V"), (1, .class_ 10), (1, u "java/lang/Object")] 113

def k0m0 : Method := { name := "<init>", desc := "()V", sig := { parameters := [], returnType := none }, accessFlags := 1, code := none }
/-- java/lang/Object -/
def k0 : Class := { plain "java/lang/Object" none with
  accessFlags := 33
  interfaces := #[]
  cf := some (fileOf pool0 8 #[] #[{ accessFlags := 1, nameIndex := 5, descriptorIndex := 6, attributes := #[] }] 33 0 #[] #[])
  fields := #[]
  methods := #[k0m0]
  instanceTypes := #[]
  staticTypes := #[]
  resolved := Array.replicate 124 none
  statics := none }

def pool1 : Array CpInfo := pool [(2, .class_ 4), (1, u "java/lang/Object"), (0, u "<init>"), (0, u "()V"), (0, .methodref 8 9), (0, .class_ 10), (0, .nameAndType 11 12), (0, u "com/example/lectern/lectern/HashesSpreadPinLaw"), (0, u "unXor16"), (0, u "(I)I"), (0, .integer 3266489909), (0, .methodref 8 15), (0, .nameAndType 16 12), (0, u "inv"), (0, .methodref 8 18), (0, .nameAndType 19 12), (0, u "unXor13"), (0, .integer 2246822507), (0, .methodref 22 23), (0, .class_ 24), (0, .nameAndType 25 12), (0, u "com/example/lectern/lectern/Hashes"), (0, u "spread"), (0, .methodref 8 27), (0, .nameAndType 28 12), (0, u "unspread"), (2, u "law"), (0, u "(II)Z")] 3

def k1m0 : Method := { name := "<init>", desc := "()V", sig := { parameters := [], returnType := none }, accessFlags := 2, code := none }
def k1c1 : Code := { maxStack := 4, maxLocals := 2, code := method_2_code, exceptionTable := #[], attributes := #[] }
def k1m1 : Method := { name := "inv", desc := "(I)I", sig := { parameters := [.int], returnType := some .int }, accessFlags := 10, code := some k1c1 }
def k1c2 : Code := { maxStack := 3, maxLocals := 1, code := method_3_code, exceptionTable := #[], attributes := #[] }
def k1m2 : Method := { name := "unXor16", desc := "(I)I", sig := { parameters := [.int], returnType := some .int }, accessFlags := 10, code := some k1c2 }
def k1c3 : Code := { maxStack := 3, maxLocals := 1, code := method_4_code, exceptionTable := #[], attributes := #[] }
def k1m3 : Method := { name := "unXor13", desc := "(I)I", sig := { parameters := [.int], returnType := some .int }, accessFlags := 10, code := some k1c3 }
def k1c4 : Code := { maxStack := 2, maxLocals := 2, code := method_5_code, exceptionTable := #[], attributes := #[] }
def k1m4 : Method := { name := "unspread", desc := "(I)I", sig := { parameters := [.int], returnType := some .int }, accessFlags := 10, code := some k1c4 }
def k1c5 : Code := { maxStack := 2, maxLocals := 4, code := code, exceptionTable := #[], attributes := #[] }
def k1m5 : Method := { name := "law", desc := "(II)Z", sig := { parameters := [.int, .int], returnType := some .boolean }, accessFlags := 9, code := some k1c5 }
/-- com/example/lectern/lectern/HashesSpreadPinLaw -/
def k1 : Class := { plain "com/example/lectern/lectern/HashesSpreadPinLaw" (some 0) with
  accessFlags := 49
  interfaces := #[]
  cf := some (fileOf pool1 8 #[] #[{ accessFlags := 2, nameIndex := 5, descriptorIndex := 6, attributes := #[] }, { accessFlags := 10, nameIndex := 16, descriptorIndex := 12, attributes := #[] }, { accessFlags := 10, nameIndex := 11, descriptorIndex := 12, attributes := #[] }, { accessFlags := 10, nameIndex := 19, descriptorIndex := 12, attributes := #[] }, { accessFlags := 10, nameIndex := 28, descriptorIndex := 12, attributes := #[] }, { accessFlags := 9, nameIndex := 31, descriptorIndex := 32, attributes := #[] }] 49 2 #[] #[])
  fields := #[]
  methods := #[k1m0, k1m1, k1m2, k1m3, k1m4, k1m5]
  instanceTypes := #[]
  staticTypes := #[]
  resolved := Array.replicate 36 none
  statics := none }

def pool2 : Array CpInfo := pool [(2, .class_ 4), (1, u "java/lang/Object"), (0, u "<init>"), (0, u "()V"), (0, .integer 2246822507), (0, .integer 3266489909), (0, .class_ 10), (0, u "com/example/lectern/lectern/Hashes"), (2, u "spread"), (0, u "(I)I")] 2

def k2m0 : Method := { name := "<init>", desc := "()V", sig := { parameters := [], returnType := none }, accessFlags := 2, code := none }
def k2c1 : Code := { maxStack := 3, maxLocals := 2, code := prog_2_method_2_code, exceptionTable := #[], attributes := #[] }
def k2m1 : Method := { name := "spread", desc := "(I)I", sig := { parameters := [.int], returnType := some .int }, accessFlags := 9, code := some k2c1 }
/-- com/example/lectern/lectern/Hashes -/
def k2 : Class := { plain "com/example/lectern/lectern/Hashes" (some 0) with
  accessFlags := 49
  interfaces := #[]
  cf := some (fileOf pool2 9 #[] #[{ accessFlags := 2, nameIndex := 5, descriptorIndex := 6, attributes := #[] }, { accessFlags := 9, nameIndex := 13, descriptorIndex := 14, attributes := #[] }] 49 2 #[] #[])
  fields := #[]
  methods := #[k2m0, k2m1]
  instanceTypes := #[]
  staticTypes := #[]
  resolved := Array.replicate 17 none
  statics := none }

def pool3 : Array CpInfo := pool [(1, u "java/lang/Cloneable"), (0, .class_ 1), (0, u "java/lang/Object"), (0, .class_ 3)] 3

/-- java/lang/Cloneable -/
def k3 : Class := { plain "java/lang/Cloneable" (some 0) with
  accessFlags := 1537
  interfaces := #[]
  cf := some (fileOf pool3 2 #[] #[] 1537 4 #[] #[])
  fields := #[]
  methods := #[]
  instanceTypes := #[]
  staticTypes := #[]
  resolved := Array.replicate 8 none
  statics := none }

def pool4 : Array CpInfo := pool [(1, u "java/io/Serializable"), (0, .class_ 1), (0, u "java/lang/Object"), (0, .class_ 3)] 3

/-- java/io/Serializable -/
def k4 : Class := { plain "java/io/Serializable" (some 0) with
  accessFlags := 1537
  interfaces := #[]
  cf := some (fileOf pool4 2 #[] #[] 1537 4 #[] #[])
  fields := #[]
  methods := #[]
  instanceTypes := #[]
  staticTypes := #[]
  resolved := Array.replicate 8 none
  statics := none }

/-- the primitive byte -/
def k5 : Class := { plain "byte" none with kind := .primitive 'B', accessFlags := 0x411 }
/-- [B -/
def k6 : Class := { plain "[B" (some 0) with kind := .array 5 .byte, interfaces := #[3, 4], accessFlags := 1041 }

def heap : Heap := #[]
def classes : Array Class := #[k0, k1, k2, k3, k4, k5, k6]
def interned : List (Array UInt16 × Addr) := []
def slotsUsed : Nat := 0
def theMethod : MethodId := ⟨1, 5⟩
def args0 : Array Value := #[.int 5, .int 7]
def aboutOver (below : List Frame) : State where
  vm := { classes := classes, interned := interned.toArray }
  heap := heap
  slotsUsed := slotsUsed
  threads := #[{ frames := .invoking theMethod args0 :: below }]
def below0 : List Frame := [.native { method := ⟨0, 0⟩, args := #[] }]
def about1 : State := aboutOver below0
def p0 : Program := .bare "" "" ""
def e0 : Env := launch0.env 0 0 0
theorem w_frames : about1.frames = Frame.invoking theMethod args0 :: below0 := rfl
set_option maxRecDepth 65536 in
theorem w_args : argsFit about1.vm theMethod args0 = true := by decide +kernel
set_option maxRecDepth 65536 in
theorem w_heap : heapFits about1 = true := by decide +kernel
set_option maxRecDepth 65536 in
theorem w_runnable : about1.curStatus? = some .runnable := by decide +kernel
set_option maxRecDepth 65536 in
theorem w_alone : about1.alone = true := by decide +kernel
set_option maxRecDepth 65536 in
theorem w_named : about1.methodNamed? x = some theMethod := by decide +kernel
set_option maxRecDepth 65536 in
theorem w_hears : about1.hears theMethod below0 = true := by decide +kernel
set_option maxRecDepth 65536 in
theorem w_ripe : about1.ripe theMethod args0 below0 = true := by decide +kernel
theorem w_running : about1.status = .running := rfl
set_option maxRecDepth 65536 in
theorem w_room : about1.hasRoom e0.platform room_1 = true :=
  launch0.hasRoom_least _ room_1 (by decide +kernel) (by decide +kernel) (by decide +kernel) (by decide +kernel) (by decide +kernel) (by decide +kernel)
theorem allAtoms_all (ts : List Jvm.Cond) (a : Array Jvm.Value) (st : Jvm.State) : (allAtoms ts).before a st = ts.all (fun c => c.before a st) := by
  induction ts with
  | nil => rfl
  | cons c t ih =>
    show (Jvm.Cond.and c (allAtoms t)).before a st = _
    rw [Jvm.Cond.before_and, ih, List.all_cons]
def words1 : List Jvm.Cond := Jvm.Cond.code x code maxLocals ret :: tables_1
/-- a 'code' word, met by the world's own term for the bytes: nothing is compared byte by byte -/
theorem code_word {y : MethodName} {bytes : ByteArray} {mx : Nat} {rt : Option FieldType} {a : Array Value} {s : State} {m : MethodId} {meth : Method} {c : Code} (h1 : s.methodNamed? y = some m) (h2 : s.vm.method? m = some meth) (h3 : meth.code = some c) (h4 : c.code = bytes)
    (h5 : (c.maxLocals == mx && c.exceptionTable.isEmpty && decide (c.maxStack ≤ mostOperands) && decide (meth.sig.returnType = rt) && !meth.locks && decide (parseMethodDescriptor y.desc = some meth.sig)) = true) : (Jvm.Cond.code y bytes mx rt).before a s = true := by
  simp only [Bool.and_eq_true, beq_iff_eq, Bool.not_eq_true', decide_eq_true_eq] at h5
  obtain ⟨⟨⟨⟨⟨g1, g2⟩, g3⟩, g4⟩, g5⟩, g6⟩ := h5
  simp [Cond.before, Cond.holds, Cond.value, h1, h2, h3, h4, g1, g2, g3, g4, g5, g6]
def isCode : Jvm.Cond → Bool
  | .code _ _ _ _ => true
  | _ => false
theorem all_split {L : List Jvm.Cond} {P : Jvm.Cond → Bool} (h1 : L.all (fun c => isCode c || P c) = true) (h2 : ∀ c ∈ L.filter isCode, P c = true) : L.all P = true := by
  refine List.all_eq_true.mpr fun c hc => ?_
  have h := List.all_eq_true.mp h1 c hc
  rcases Bool.eq_false_or_eq_true (isCode c) with hi | hi
  · exact h2 c (List.mem_filter.mpr ⟨hc, hi⟩)
  · simpa [hi] using h
set_option maxRecDepth 65536 in
theorem w_c0 : (Jvm.Cond.code x code maxLocals ret).before args0 about1 = true := code_word (m := ⟨1, 5⟩) (meth := k1m5) (c := k1c5) (by decide +kernel) rfl rfl rfl (by decide +kernel)
set_option maxRecDepth 65536 in
theorem w_c1 : (Jvm.Cond.code ({ cls := "com/example/lectern/lectern/Hashes", name := "spread", desc := "(I)I" } : Jvm.MethodName) prog_2_method_2_code (2 : Nat) (Option.some Jvm.ClassFile.FieldType.int)).before args0 about1 = true := code_word (m := ⟨2, 1⟩) (meth := k2m1) (c := k2c1) (by decide +kernel) rfl rfl rfl (by decide +kernel)
set_option maxRecDepth 65536 in
theorem w_c2 : (Jvm.Cond.code ({ cls := "com/example/lectern/lectern/HashesSpreadPinLaw", name := "unspread", desc := "(I)I" } : Jvm.MethodName) method_5_code (2 : Nat) (Option.some Jvm.ClassFile.FieldType.int)).before args0 about1 = true := code_word (m := ⟨1, 4⟩) (meth := k1m4) (c := k1c4) (by decide +kernel) rfl rfl rfl (by decide +kernel)
set_option maxRecDepth 65536 in
theorem w_c3 : (Jvm.Cond.code ({ cls := "com/example/lectern/lectern/HashesSpreadPinLaw", name := "unXor16", desc := "(I)I" } : Jvm.MethodName) method_3_code (1 : Nat) (Option.some Jvm.ClassFile.FieldType.int)).before args0 about1 = true := code_word (m := ⟨1, 2⟩) (meth := k1m2) (c := k1c2) (by decide +kernel) rfl rfl rfl (by decide +kernel)
set_option maxRecDepth 65536 in
theorem w_c4 : (Jvm.Cond.code ({ cls := "com/example/lectern/lectern/HashesSpreadPinLaw", name := "inv", desc := "(I)I" } : Jvm.MethodName) method_2_code (2 : Nat) (Option.some Jvm.ClassFile.FieldType.int)).before args0 about1 = true := code_word (m := ⟨1, 1⟩) (meth := k1m1) (c := k1c1) (by decide +kernel) rfl rfl rfl (by decide +kernel)
set_option maxRecDepth 65536 in
theorem w_c5 : (Jvm.Cond.code ({ cls := "com/example/lectern/lectern/HashesSpreadPinLaw", name := "unXor13", desc := "(I)I" } : Jvm.MethodName) method_4_code (1 : Nat) (Option.some Jvm.ClassFile.FieldType.int)).before args0 about1 = true := code_word (m := ⟨1, 3⟩) (meth := k1m3) (c := k1c3) (by decide +kernel) rfl rfl rfl (by decide +kernel)
def codes1 : List Jvm.Cond := [Jvm.Cond.code x code maxLocals ret, Jvm.Cond.code ({ cls := "com/example/lectern/lectern/Hashes", name := "spread", desc := "(I)I" } : Jvm.MethodName) prog_2_method_2_code (2 : Nat) (Option.some Jvm.ClassFile.FieldType.int), Jvm.Cond.code ({ cls := "com/example/lectern/lectern/HashesSpreadPinLaw", name := "unspread", desc := "(I)I" } : Jvm.MethodName) method_5_code (2 : Nat) (Option.some Jvm.ClassFile.FieldType.int), Jvm.Cond.code ({ cls := "com/example/lectern/lectern/HashesSpreadPinLaw", name := "unXor16", desc := "(I)I" } : Jvm.MethodName) method_3_code (1 : Nat) (Option.some Jvm.ClassFile.FieldType.int), Jvm.Cond.code ({ cls := "com/example/lectern/lectern/HashesSpreadPinLaw", name := "inv", desc := "(I)I" } : Jvm.MethodName) method_2_code (2 : Nat) (Option.some Jvm.ClassFile.FieldType.int), Jvm.Cond.code ({ cls := "com/example/lectern/lectern/HashesSpreadPinLaw", name := "unXor13", desc := "(I)I" } : Jvm.MethodName) method_4_code (1 : Nat) (Option.some Jvm.ClassFile.FieldType.int)]
set_option maxRecDepth 65536 in
theorem codes_eq : words1.filter isCode = codes1 := rfl
theorem w_codes : ∀ c ∈ words1.filter isCode, c.before args0 about1 = true := by
  rw [codes_eq]
  intro c hc
  simp only [codes1, List.mem_cons, List.not_mem_nil, or_false] at hc
  rcases hc with rfl | rfl | rfl | rfl | rfl | rfl
  · exact w_c0
  · exact w_c1
  · exact w_c2
  · exact w_c3
  · exact w_c4
  · exact w_c5
set_option maxRecDepth 65536 in
theorem w_t1 : words1.all (fun c => isCode c || c.before args0 about1) = true := by decide +kernel
theorem w_tables : (allAtoms (Jvm.Cond.code x code maxLocals ret :: tables_1)).before args0 about1 = true := by
  rw [allAtoms_all]
  show words1.all (fun c => c.before args0 about1) = true
  refine all_split ?_ w_codes
  rw [w_t1]
set_option maxRecDepth 65536 in
theorem w_case : (Jvm.Cond.and given_1 narrow_1).before args0 about1 = true := by decide +kernel
theorem w_applies : (headSpec (Jvm.Cond.code x code maxLocals ret :: tables_1) room_1).applies x e0.platform about1 = true :=
  (Spec.applies_iff w_frames).mpr ⟨w_running, w_runnable, w_alone, w_named, w_hears, w_ripe, w_room, w_tables⟩
theorem atStart : AtStart classFile x code maxLocals ret World_1 tables_1 room_1 Calls_1 rest_1 Pre_1 launch0 p0 e0 about1 theMethod args0 below0 :=
  ⟨lists_1, trivial, launch0.admits_env _ _ _, launch0.least_env, fairChoices_fair.cas, fairChoices_fair.clock, w_frames, w_args, w_heap, w_applies, trivial, trivial, w_case⟩
end start1
theorem witness_1 : WitnessClaimed_1 := ⟨start1.p0, start1.e0, start1.about1, start1.theMethod, start1.args0, start1.below0, start1.atStart⟩
end Jvm.Pilot.@@N@@
