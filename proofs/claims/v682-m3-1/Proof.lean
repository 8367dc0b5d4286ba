import JvmDerived
import JvmDerived.Pilot.@@N@@Statement
import JvmDerived.Pilot.@@N@@Code
set_option linter.unusedVariables false
set_option linter.unusedSimpArgs false
namespace Jvm.Pilot.@@N@@
open Jvm Jvm.ClassFile Sem Op Lib Jvm.Free Jvm.Stand Jvm.LawKit Jvm.RoadKit Bundle Jvm.Pilot.@@N@@.Jvm.D

def Go (tb : Tables) (e : Env) (below : List Frame) (a : State) (P : Outcome → State → Prop) : Prop := ∃ s₂ o, Steps tb e below a s₂ ∧ s₂.status = .running ∧ Ended s₂ below o ∧ P o s₂
theorem Go.st {tb : Tables} {e : Env} {below : List Frame} {a b : State} {P : Outcome → State → Prop} (h : ∀ t, Steps tb e below b t → Steps tb e below a t) (k : Go tb e below b P) : Go tb e below a P := by
  obtain ⟨s, o, h1, h2⟩ := k
  exact ⟨s, o, h _ h1, h2⟩
theorem Go.tr {tb : Tables} {e : Env} {below : List Frame} {a b : State} {P : Outcome → State → Prop} (h : Steps tb e below a b) (k : Go tb e below b P) : Go tb e below a P := Go.st (fun _ q => h.trans q) k
theorem Go.fr {tb : Tables} {e : Env} {below : List Frame} {T : State} {g g' : JFrame} {P : Outcome → State → Prop} (q : g = g') (k : Go tb e below (T.setTop g') P) : Go tb e below (T.setTop g) P := q ▸ k
theorem Go.fin {tb : Tables} {e : Env} {below : List Frame} {a s₂ : State} {o : Outcome} {P : Outcome → State → Prop} (hs : Steps tb e below a s₂) (hr : s₂.status = .running) (he : Ended s₂ below o) (hP : P o s₂) : Go tb e below a P := ⟨_, _, hs, hr, he, hP⟩
theorem exa_ns {Z : State} {h : Heap} {a : Addr} {C : String} (F : Exa Z h a C) : ∃ c : Cell, h[a]? = some c ∧ c.vm.isStatics = false := by
  obtain ⟨c, _, h1, -, -, h4, -⟩ := F
  exact ⟨c, h1, h4⟩
theorem fld_ns {Z : State} {h : Heap} {a : Addr} {C n d : String} {v : Value} (F : Fld Z h a C n d v) : ∃ c : Cell, h[a]? = some c ∧ c.vm.isStatics = false := by
  obtain ⟨c, _, _, _, _, h1, -, -, -, h4, -⟩ := F
  exact ⟨c, h1, h4⟩
theorem arv_ns {Z : State} {h : Heap} {a : Addr} {k : ClassId} {ty : FieldType} {n : Int32} {vs : List Value} {d : Value} (F : Arv Z h a k ty n vs d) : ∃ c : Cell, h[a]? = some c ∧ c.vm.isStatics = false := by
  obtain ⟨c, A, -⟩ := F
  exact ⟨c, A.1, A.plain⟩
theorem sta_keep {Z : State} {h h' : Heap} {C n d : String} {v : Value} {ws : List Addr} (F : Sta Z h C n d v) (K : Keep h h' ws) (q : ∀ x ∈ ws, ∃ c : Cell, h[x]? = some c ∧ c.vm.isStatics = false) : Sta Z h' C n d v := by
  obtain ⟨cf, i, k, f, st, cell, h1, h2, h3, h4, h5, h6, h7⟩ := F
  refine ⟨cf, i, k, f, st, cell, h1, h2, h3, h4, K.2.1 st cell h5 fun z => ?_, h6, h7⟩
  obtain ⟨c, q1, q2⟩ := q st z
  cases q1.symm.trans h5
  rw [q2] at h6
  cases h6
theorem own_selp {s : State} {args : Array Value} {y : MethodName} {n : Nat} (wi : (Cond.instantiable y.cls n).before args s = true) (hp : s.PrivateAt y) (hi : (Cond.instanceMethod y).before args s = true) (hy : y.cls ≠ "java/lang/invoke/MethodHandle" ∧ y.cls ≠ "java/lang/invoke/VarHandle") : (Cond.selects y.cls y y).before args s = true := by
  obtain ⟨c, k, h1, h2, -, h4, -⟩ := Cond.instantiable_spec wi
  simp only [Bool.or_eq_false_iff] at h4
  exact selects_self_of_private h1 h2 h4.1 hp hi hy
theorem own_ne32 {x k : Int32} {a : Int} (ha : k.toInt = a) (h : ¬ x = k) : a ≠ x.toInt := fun e => h (Int32.toInt_inj.mp (e.symm.trans ha.symm))
theorem own_nn (x : Int32) : 0 ≤ (x &&& (2147483647 : Int32)).toInt := (c_andS x 2147483647).2.2 (by decide)
theorem own_rem (x : Int32) (k : Int32) (d : Int) (hd : k.toInt = d) (h0 : 0 < d) : 0 ≤ ((x &&& (2147483647 : Int32)) % k).toInt ∧ ((x &&& (2147483647 : Int32)) % k).toInt < d := by
  have h := own_nn x
  rw [Int32.toInt_mod, hd]
  exact ⟨Int.tmod_nonneg _ h, Int.tmod_lt_of_pos _ h0⟩
theorem own_remb (x : Int32) (k : Int32) (d : Int) (hd : k.toInt = d) (h0 : 0 < d) : ¬ ((x &&& (2147483647 : Int32)) % k) < 0 ∧ ((x &&& (2147483647 : Int32)) % k) < k := by
  obtain ⟨h1, h2⟩ := own_rem x k d hd h0
  rw [Int32.lt_iff_toInt_lt, Int32.lt_iff_toInt_lt, hd]
  exact ⟨Int.not_lt.mpr h1, h2⟩
def own_at (xs : List Int32) (j : Int32) : Int32 := xs.getD j.toNatClampNeg 0
theorem own_atv (xs : List Int32) (j : Int32) : (xs.map Value.int).getD j.toNatClampNeg (.int 0) = .int (own_at xs j) := by
  unfold own_at
  generalize j.toNatClampNeg = n
  induction xs generalizing n with
  | nil => rfl
  | cons a r ih => cases n with
    | zero => rfl
    | succ n => simpa using ih n
theorem own_setl {l : List Value} {k n : Nat} {v : Value} (h : l.length = n) : (l.set k v).length = n := by rw [List.length_set]; exact h
theorem own_setg {l : List Value} {k : Nat} {v d : Value} (h : k < l.length) : (l.set k v).getD k d = v := by simp [List.getD, List.getElem?_set, h]
theorem own_setn {l : List Value} {k i : Nat} {v d : Value} (h : i ≠ k) : (l.set k v).getD i d = l.getD i d := by simp [List.getD, List.getElem?_set, Ne.symm h]
theorem own_lt_of {l : List Value} {n : Nat} {j z : Int32} (h : l.length = n) (q : ¬ j < 0 ∧ j < z) (hz : z.toNatClampNeg = n := by decide) : j.toNatClampNeg < l.length := by
  rw [h, ← hz]
  obtain ⟨q1, q2⟩ := q
  rw [Int32.lt_iff_toInt_lt] at q1 q2
  have : (0 : Int32).toInt = 0 := rfl
  simp only [Int32.toNatClampNeg]
  omega
theorem own_eqi {args : Array Value} {s : State} {t : Term} {k : Int32} (h : (Jvm.Cond.eq t (.int k)).value args s none s [] = some true) : t.eval args s none [] s = some (.int k) := by
  simp only [Cond.value, Term.eval] at h
  cases ht : t.eval args s none [] s with
  | none => simp [ht] at h
  | some x => cases x <;> simp_all
theorem d2_0 : decode prog_13_method_8_code 0 = .ok (.lload_n 0, 1) := by decide +kernel
theorem d2_1 : decode prog_13_method_8_code 1 = .ok (.lload_n 0, 1) := by decide +kernel
theorem d2_2 : decode prog_13_method_8_code 2 = .ok (.bipush 30, 2) := by decide +kernel
theorem d2_4 : decode prog_13_method_8_code 4 = .ok (.lushr, 1) := by decide +kernel
theorem d2_5 : decode prog_13_method_8_code 5 = .ok (.lxor, 1) := by decide +kernel
theorem d2_6 : decode prog_13_method_8_code 6 = .ok (.ldc2_w 59, 3) := by decide +kernel
theorem wd10 {Z : State} {a0 : Array Value} (hw : ∀ d ∈ tables_1, d.before a0 Z = true) : (Jvm.Cond.constantLong "com/example/gloom/gloom/hashing/CellPositions" (59 : Nat) (-4658895280553007687 : Int64)).before a0 Z = true := hw _ (List.mem_of_getElem? (i := 10) rfl)
theorem d2_9 : decode prog_13_method_8_code 9 = .ok (.lmul, 1) := by decide +kernel
theorem d2_10 : decode prog_13_method_8_code 10 = .ok (.lstore_n 0, 1) := by decide +kernel
def t2_0 (q1 : Int64) : Int64 := ((q1 ^^^ ((q1.toUInt64 >>> ((30 : Int32) &&& 0x3f).toInt64.toUInt64).toInt64)) * (-4658895280553007687 : Int64))
theorem d2_11 : decode prog_13_method_8_code 11 = .ok (.lload_n 0, 1) := by decide +kernel
theorem d2_12 : decode prog_13_method_8_code 12 = .ok (.lload_n 0, 1) := by decide +kernel
theorem d2_13 : decode prog_13_method_8_code 13 = .ok (.bipush 27, 2) := by decide +kernel
theorem d2_15 : decode prog_13_method_8_code 15 = .ok (.lushr, 1) := by decide +kernel
theorem d2_16 : decode prog_13_method_8_code 16 = .ok (.lxor, 1) := by decide +kernel
theorem d2_17 : decode prog_13_method_8_code 17 = .ok (.ldc2_w 61, 3) := by decide +kernel
theorem wd11 {Z : State} {a0 : Array Value} (hw : ∀ d ∈ tables_1, d.before a0 Z = true) : (Jvm.Cond.constantLong "com/example/gloom/gloom/hashing/CellPositions" (61 : Nat) (-7723592293110705685 : Int64)).before a0 Z = true := hw _ (List.mem_of_getElem? (i := 11) rfl)
theorem d2_20 : decode prog_13_method_8_code 20 = .ok (.lmul, 1) := by decide +kernel
theorem d2_21 : decode prog_13_method_8_code 21 = .ok (.lreturn, 1) := by decide +kernel
theorem pn0 : plainName "com/example/gloom/gloom/hashing/CellPositions" = true := by first | (simp [plainName, overriddenIn]; done) | decide +kernel
def Q2 (Z : State) (q1 : Int64) (h0 : Heap) (n0 : Nat) (v : Option Value) (h : Heap) (L : List Loc) : Prop := v = some (.long (((t2_0 q1) ^^^ (((t2_0 q1).toUInt64 >>> ((27 : Int32) &&& 0x3f).toInt64.toUInt64).toInt64)) * (-7723592293110705685 : Int64))) ∧ Fr n0 L ∧ h = h0
theorem ef2 (m : MethodId) (x0 : Int64) : entryFrame m #[(.long x0)] 2 = mkF m 0 #[.val (.long x0), .second] [] := by first | (simp [entryFrame, mkF, argsToLocals, Value.category]; done) | rfl
set_option maxRecDepth 65536 in
set_option maxHeartbeats 16000000 in
theorem rm2 (l : Launch) (Z : State) (a0 : Array Value) (hw : ∀ d ∈ tables_1, d.before a0 Z = true) (ws : List Jvm.Cond) (q1 : Int64) (h0 : Heap) (n0 : Nat) (Z0 : n0 ≤ h0.size) :
    MetFree l (⟨"com/example/gloom/gloom/hashing/CellPositions", "splitMixAllButLast", "(J)J"⟩ : MethodName) (head1 (Jvm.Cond.code (⟨"com/example/gloom/gloom/hashing/CellPositions", "splitMixAllButLast", "(J)J"⟩ : MethodName) prog_13_method_8_code 2 (some .long) :: ws) ({ frames := 0, cells := 0, slots := 0, locals := 0 } : Room)) (fun a U => a = #[(.long q1)] ∧ Z.Warmed39 U.vm ∧ U.heap = h0) (fun _ _ _ _ _ => True) (fun _ U o U' => ∃ v L, o = .returned v ∧ Q2 Z q1 h0 n0 v U'.heap L ∧ FrameEnd U o U' L ({ frames := 0, cells := 0, slots := 0, locals := 0 } : Room).cells ({ frames := 0, cells := 0, slots := 0, locals := 0 } : Room).slots) := by
  refine MetFree.of_bodySF (plainFor_of_name pn0) hisR ?_
  intro p e s m args below meth c s₁ Bd hml0 hP hK
  obtain ⟨rfl, hZ, hh⟩ := hP
  have hx := Bd.exec
  have hby := Bd.bytes
  have hml : c.maxLocals = 2 := hml0
  have hown : s.vm.findClass "com/example/gloom/gloom/hashing/CellPositions" = some m.cls := findClass_of_methodNamed Bd.named
  have hnm := (name_of_methodNamed Bd.named Bd.method).1
  have X0 : Stand p l e ({ frames := 0, cells := 0, slots := 0, locals := 0 } : Room) s m #[(.long q1)] below meth c s₁ [] 0 0 := Stand.of_body Bd
  have e0 : s₁.heap = h0 := by rw [← hh, Bd.state]; rfl
  have N0 := Fr.nil n0
  have K0 : Keep h0 h0 [] := Keep.refl h0 _
  refine Go.st (P := fun o U' => ∃ v L, o = .returned v ∧ Q2 Z q1 h0 n0 v U'.heap L ∧ FrameEnd s o U' L ({ frames := 0, cells := 0, slots := 0, locals := 0 } : Room).cells ({ frames := 0, cells := 0, slots := 0, locals := 0 } : Room).slots) (fun t k => castTop (ef2 m q1) k) ?_
  show Go _ _ _ (s₁.setTop (mkF m 0 #[.val (.long q1), .second] [])) _
  refine Go.st (fun t k => XS.lloadN X0.here hx rfl (hb hby d2_0) rfl k) ?_
  refine Go.st (fun t k => XS.lloadN X0.here hx rfl (hb hby d2_1) rfl k) ?_
  refine Go.st (fun t k => XS.bipush X0.here hx rfl (hb hby d2_2) k) ?_
  refine Go.st (fun t k => XS.lushr X0.here hx rfl (hb hby d2_4) rfl k) ?_
  show Go _ _ _ (s₁.setTop (mkF m 5 #[.val (.long q1), .second] [(.long ((q1.toUInt64 >>> ((30 : Int32) &&& 0x3f).toInt64.toUInt64).toInt64)), (.long q1)])) _
  refine Go.st (fun t k => XS.lxor X0.here hx rfl (hb hby d2_5) rfl k) ?_
  show Go _ _ _ (s₁.setTop (mkF m 6 #[.val (.long q1), .second] [(.long (q1 ^^^ ((q1.toUInt64 >>> ((30 : Int32) &&& 0x3f).toInt64.toUInt64).toInt64)))])) _
  refine Go.st (fun t k => X0.ldc2Long hx hown (mvT hZ (wd10 hw)) (g := (mkF m 6 #[.val (.long q1), .second] [(.long (q1 ^^^ ((q1.toUInt64 >>> ((30 : Int32) &&& 0x3f).toInt64.toUInt64).toInt64)))])) rfl (hb hby d2_6) _ k) ?_
  show Go _ _ _ (s₁.setTop (mkF m 9 #[.val (.long q1), .second] [(.long (-4658895280553007687)), (.long (q1 ^^^ ((q1.toUInt64 >>> ((30 : Int32) &&& 0x3f).toInt64.toUInt64).toInt64)))])) _
  refine Go.st (fun t k => XS.lmul X0.here hx rfl (hb hby d2_9) rfl k) ?_
  show Go _ _ _ (s₁.setTop (mkF m 10 #[.val (.long q1), .second] [(.long ((q1 ^^^ ((q1.toUInt64 >>> ((30 : Int32) &&& 0x3f).toInt64.toUInt64).toInt64)) * (-4658895280553007687 : Int64)))])) _
  refine Go.st (fun t k => XS.lstoreN X0.here hx rfl (hb hby d2_10) rfl (l' := #[.val (.long (t2_0 q1)), .second]) rfl k) ?_
  refine Go.st (fun t k => XS.lloadN X0.here hx rfl (hb hby d2_11) rfl k) ?_
  refine Go.st (fun t k => XS.lloadN X0.here hx rfl (hb hby d2_12) rfl k) ?_
  refine Go.st (fun t k => XS.bipush X0.here hx rfl (hb hby d2_13) k) ?_
  refine Go.st (fun t k => XS.lushr X0.here hx rfl (hb hby d2_15) rfl k) ?_
  show Go _ _ _ (s₁.setTop (mkF m 16 #[.val (.long (t2_0 q1)), .second] [(.long (((t2_0 q1).toUInt64 >>> ((27 : Int32) &&& 0x3f).toInt64.toUInt64).toInt64)), (.long (t2_0 q1))])) _
  refine Go.st (fun t k => XS.lxor X0.here hx rfl (hb hby d2_16) rfl k) ?_
  show Go _ _ _ (s₁.setTop (mkF m 17 #[.val (.long (t2_0 q1)), .second] [(.long ((t2_0 q1) ^^^ (((t2_0 q1).toUInt64 >>> ((27 : Int32) &&& 0x3f).toInt64.toUInt64).toInt64)))])) _
  refine Go.st (fun t k => X0.ldc2Long hx hown (mvT hZ (wd11 hw)) (g := (mkF m 17 #[.val (.long (t2_0 q1)), .second] [(.long ((t2_0 q1) ^^^ (((t2_0 q1).toUInt64 >>> ((27 : Int32) &&& 0x3f).toInt64.toUInt64).toInt64)))])) rfl (hb hby d2_17) _ k) ?_
  show Go _ _ _ (s₁.setTop (mkF m 20 #[.val (.long (t2_0 q1)), .second] [(.long (-7723592293110705685)), (.long ((t2_0 q1) ^^^ (((t2_0 q1).toUInt64 >>> ((27 : Int32) &&& 0x3f).toInt64.toUInt64).toInt64)))])) _
  refine Go.st (fun t k => XS.lmul X0.here hx rfl (hb hby d2_20) rfl k) ?_
  show Go _ _ _ (s₁.setTop (mkF m 21 #[.val (.long (t2_0 q1)), .second] [(.long (((t2_0 q1) ^^^ (((t2_0 q1).toUInt64 >>> ((27 : Int32) &&& 0x3f).toInt64.toUInt64).toInt64)) * (-7723592293110705685 : Int64)))])) _
  obtain ⟨fs, hr, hrun, hended, hW, hsame⟩ := X0.leave (v := some (.long (((t2_0 q1) ^^^ (((t2_0 q1).toUInt64 >>> ((27 : Int32) &&& 0x3f).toInt64.toUInt64).toInt64)) * (-7723592293110705685 : Int64)))) (fun h => by rw [Bd.returns] at h; cases h)
  refine Go.fin (retOut X0 hx Bd.returns rfl (Or.inr (Or.inl ⟨rfl, rfl, _, rfl⟩)) (hb hby d2_21) hr) hrun hended ⟨_, _, rfl, ?_, ⟨_, rfl⟩, hW, hsame.mono (by decide) (by decide)⟩
  show Q2 Z q1 h0 n0 _ s₁.heap _
  rw [e0]
  exact ⟨rfl, N0, rfl⟩
theorem d3_0 : decode method_2_code 0 = .ok (.lload_n 0, 1) := by decide +kernel
theorem d3_1 : decode method_2_code 1 = .ok (.iload_n 2, 1) := by decide +kernel
theorem d3_2 : decode method_2_code 2 = .ok (.i2l, 1) := by decide +kernel
theorem d3_3 : decode method_2_code 3 = .ok (.lconst 1, 1) := by decide +kernel
theorem d3_4 : decode method_2_code 4 = .ok (.ladd, 1) := by decide +kernel
theorem d3_5 : decode method_2_code 5 = .ok (.ldc2_w 7, 3) := by decide +kernel
theorem wd16 {Z : State} {a0 : Array Value} (hw : ∀ d ∈ tables_1, d.before a0 Z = true) : (Jvm.Cond.constantLong "com/example/gloom/gloom/hashing/CellPositionsOffsetInBlockPinLaw" (7 : Nat) (-7046029254386353131 : Int64)).before a0 Z = true := hw _ (List.mem_of_getElem? (i := 16) rfl)
theorem d3_8 : decode method_2_code 8 = .ok (.lmul, 1) := by decide +kernel
theorem d3_9 : decode method_2_code 9 = .ok (.ladd, 1) := by decide +kernel
theorem d3_10 : decode method_2_code 10 = .ok (.lstore_n 3, 1) := by decide +kernel
theorem d3_11 : decode method_2_code 11 = .ok (.lload_n 3, 1) := by decide +kernel
theorem d3_12 : decode method_2_code 12 = .ok (.lload_n 3, 1) := by decide +kernel
theorem d3_13 : decode method_2_code 13 = .ok (.bipush 30, 2) := by decide +kernel
theorem d3_15 : decode method_2_code 15 = .ok (.lushr, 1) := by decide +kernel
theorem d3_16 : decode method_2_code 16 = .ok (.lxor, 1) := by decide +kernel
theorem d3_17 : decode method_2_code 17 = .ok (.ldc2_w 9, 3) := by decide +kernel
theorem wd17 {Z : State} {a0 : Array Value} (hw : ∀ d ∈ tables_1, d.before a0 Z = true) : (Jvm.Cond.constantLong "com/example/gloom/gloom/hashing/CellPositionsOffsetInBlockPinLaw" (9 : Nat) (-4658895280553007687 : Int64)).before a0 Z = true := hw _ (List.mem_of_getElem? (i := 17) rfl)
theorem d3_20 : decode method_2_code 20 = .ok (.lmul, 1) := by decide +kernel
theorem d3_21 : decode method_2_code 21 = .ok (.lstore_n 3, 1) := by decide +kernel
def t3_1 (q1 : Int64) (p2 : Int32) : Int64 := (((q1 + (((p2.toInt64) + (1 : Int64)) * (-7046029254386353131 : Int64))) ^^^ (((q1 + (((p2.toInt64) + (1 : Int64)) * (-7046029254386353131 : Int64))).toUInt64 >>> ((30 : Int32) &&& 0x3f).toInt64.toUInt64).toInt64)) * (-4658895280553007687 : Int64))
theorem d3_22 : decode method_2_code 22 = .ok (.lload_n 3, 1) := by decide +kernel
theorem d3_23 : decode method_2_code 23 = .ok (.lload_n 3, 1) := by decide +kernel
theorem d3_24 : decode method_2_code 24 = .ok (.bipush 27, 2) := by decide +kernel
theorem d3_26 : decode method_2_code 26 = .ok (.lushr, 1) := by decide +kernel
theorem d3_27 : decode method_2_code 27 = .ok (.lxor, 1) := by decide +kernel
theorem d3_28 : decode method_2_code 28 = .ok (.ldc2_w 11, 3) := by decide +kernel
theorem wd18 {Z : State} {a0 : Array Value} (hw : ∀ d ∈ tables_1, d.before a0 Z = true) : (Jvm.Cond.constantLong "com/example/gloom/gloom/hashing/CellPositionsOffsetInBlockPinLaw" (11 : Nat) (-7723592293110705685 : Int64)).before a0 Z = true := hw _ (List.mem_of_getElem? (i := 18) rfl)
theorem d3_31 : decode method_2_code 31 = .ok (.lmul, 1) := by decide +kernel
theorem d3_32 : decode method_2_code 32 = .ok (.lstore_n 3, 1) := by decide +kernel
def t3_2 (q1 : Int64) (p2 : Int32) : Int64 := (((t3_1 q1 p2) ^^^ (((t3_1 q1 p2).toUInt64 >>> ((27 : Int32) &&& 0x3f).toInt64.toUInt64).toInt64)) * (-7723592293110705685 : Int64))
theorem d3_33 : decode method_2_code 33 = .ok (.lload_n 3, 1) := by decide +kernel
theorem d3_34 : decode method_2_code 34 = .ok (.lload_n 3, 1) := by decide +kernel
theorem d3_35 : decode method_2_code 35 = .ok (.bipush 31, 2) := by decide +kernel
theorem d3_37 : decode method_2_code 37 = .ok (.lushr, 1) := by decide +kernel
theorem d3_38 : decode method_2_code 38 = .ok (.lxor, 1) := by decide +kernel
theorem d3_39 : decode method_2_code 39 = .ok (.lstore_n 3, 1) := by decide +kernel
def t3_3 (q1 : Int64) (p2 : Int32) : Int64 := ((t3_2 q1 p2) ^^^ (((t3_2 q1 p2).toUInt64 >>> ((31 : Int32) &&& 0x3f).toInt64.toUInt64).toInt64))
theorem d3_40 : decode method_2_code 40 = .ok (.lload_n 3, 1) := by decide +kernel
theorem d3_41 : decode method_2_code 41 = .ok (.bipush 55, 2) := by decide +kernel
theorem d3_43 : decode method_2_code 43 = .ok (.lushr, 1) := by decide +kernel
theorem d3_44 : decode method_2_code 44 = .ok (.l2i, 1) := by decide +kernel
theorem d3_45 : decode method_2_code 45 = .ok (.ireturn, 1) := by decide +kernel
theorem pn1 : plainName "com/example/gloom/gloom/hashing/CellPositionsOffsetInBlockPinLaw" = true := by first | (simp [plainName, overriddenIn]; done) | decide +kernel
def Q3 (Z : State) (q1 : Int64) (p2 : Int32) (h0 : Heap) (n0 : Nat) (v : Option Value) (h : Heap) (L : List Loc) : Prop := v = some (.int ((((t3_3 q1 p2).toUInt64 >>> ((55 : Int32) &&& 0x3f).toInt64.toUInt64).toInt64).toInt32)) ∧ Fr n0 L ∧ h = h0
theorem ef3 (m : MethodId) (x0 : Int64) (x1 : Int32) : entryFrame m #[(.long x0), (.int x1)] 5 = mkF m 0 #[.val (.long x0), .second, .val (.int x1), .unset, .unset] [] := by first | (simp [entryFrame, mkF, argsToLocals, Value.category]; done) | rfl
set_option maxRecDepth 65536 in
set_option maxHeartbeats 16000000 in
theorem rm3 (l : Launch) (Z : State) (a0 : Array Value) (hw : ∀ d ∈ tables_1, d.before a0 Z = true) (ws : List Jvm.Cond) (q1 : Int64) (p2 : Int32) (h0 : Heap) (n0 : Nat) (Z0 : n0 ≤ h0.size) :
    MetFree l (⟨"com/example/gloom/gloom/hashing/CellPositionsOffsetInBlockPinLaw", "reference", "(JI)I"⟩ : MethodName) (head1 (Jvm.Cond.code (⟨"com/example/gloom/gloom/hashing/CellPositionsOffsetInBlockPinLaw", "reference", "(JI)I"⟩ : MethodName) method_2_code 5 (some .int) :: ws) ({ frames := 0, cells := 0, slots := 0, locals := 0 } : Room)) (fun a U => a = #[(.long q1), (.int p2)] ∧ Z.Warmed39 U.vm ∧ U.heap = h0) (fun _ _ _ _ _ => True) (fun _ U o U' => ∃ v L, o = .returned v ∧ Q3 Z q1 p2 h0 n0 v U'.heap L ∧ FrameEnd U o U' L ({ frames := 0, cells := 0, slots := 0, locals := 0 } : Room).cells ({ frames := 0, cells := 0, slots := 0, locals := 0 } : Room).slots) := by
  refine MetFree.of_bodySF (plainFor_of_name pn1) hisR ?_
  intro p e s m args below meth c s₁ Bd hml0 hP hK
  obtain ⟨rfl, hZ, hh⟩ := hP
  have hx := Bd.exec
  have hby := Bd.bytes
  have hml : c.maxLocals = 5 := hml0
  have hown : s.vm.findClass "com/example/gloom/gloom/hashing/CellPositionsOffsetInBlockPinLaw" = some m.cls := findClass_of_methodNamed Bd.named
  have hnm := (name_of_methodNamed Bd.named Bd.method).1
  have X0 : Stand p l e ({ frames := 0, cells := 0, slots := 0, locals := 0 } : Room) s m #[(.long q1), (.int p2)] below meth c s₁ [] 0 0 := Stand.of_body Bd
  have e0 : s₁.heap = h0 := by rw [← hh, Bd.state]; rfl
  have N0 := Fr.nil n0
  have K0 : Keep h0 h0 [] := Keep.refl h0 _
  refine Go.st (P := fun o U' => ∃ v L, o = .returned v ∧ Q3 Z q1 p2 h0 n0 v U'.heap L ∧ FrameEnd s o U' L ({ frames := 0, cells := 0, slots := 0, locals := 0 } : Room).cells ({ frames := 0, cells := 0, slots := 0, locals := 0 } : Room).slots) (fun t k => castTop (ef3 m q1 p2) k) ?_
  show Go _ _ _ (s₁.setTop (mkF m 0 #[.val (.long q1), .second, .val (.int p2), .unset, .unset] [])) _
  refine Go.st (fun t k => XS.lloadN X0.here hx rfl (hb hby d3_0) rfl k) ?_
  refine Go.st (fun t k => XS.iloadN X0.here hx rfl (hb hby d3_1) rfl k) ?_
  refine Go.st (fun t k => XS.i2l X0.here hx rfl (hb hby d3_2) rfl k) ?_
  show Go _ _ _ (s₁.setTop (mkF m 3 #[.val (.long q1), .second, .val (.int p2), .unset, .unset] [(.long (p2.toInt64)), (.long q1)])) _
  refine Go.st (fun t k => XS.lconst X0.here hx rfl (hb hby d3_3) k) ?_
  refine Go.st (fun t k => XS.ladd X0.here hx rfl (hb hby d3_4) rfl k) ?_
  show Go _ _ _ (s₁.setTop (mkF m 5 #[.val (.long q1), .second, .val (.int p2), .unset, .unset] [(.long ((p2.toInt64) + (1 : Int64))), (.long q1)])) _
  refine Go.st (fun t k => X0.ldc2Long hx hown (mvT hZ (wd16 hw)) (g := (mkF m 5 #[.val (.long q1), .second, .val (.int p2), .unset, .unset] [(.long ((p2.toInt64) + (1 : Int64))), (.long q1)])) rfl (hb hby d3_5) _ k) ?_
  show Go _ _ _ (s₁.setTop (mkF m 8 #[.val (.long q1), .second, .val (.int p2), .unset, .unset] [(.long (-7046029254386353131)), (.long ((p2.toInt64) + (1 : Int64))), (.long q1)])) _
  refine Go.st (fun t k => XS.lmul X0.here hx rfl (hb hby d3_8) rfl k) ?_
  show Go _ _ _ (s₁.setTop (mkF m 9 #[.val (.long q1), .second, .val (.int p2), .unset, .unset] [(.long (((p2.toInt64) + (1 : Int64)) * (-7046029254386353131 : Int64))), (.long q1)])) _
  refine Go.st (fun t k => XS.ladd X0.here hx rfl (hb hby d3_9) rfl k) ?_
  show Go _ _ _ (s₁.setTop (mkF m 10 #[.val (.long q1), .second, .val (.int p2), .unset, .unset] [(.long (q1 + (((p2.toInt64) + (1 : Int64)) * (-7046029254386353131 : Int64))))])) _
  refine Go.st (fun t k => XS.lstoreN X0.here hx rfl (hb hby d3_10) rfl (l' := #[.val (.long q1), .second, .val (.int p2), .val (.long (q1 + (((p2.toInt64) + (1 : Int64)) * (-7046029254386353131 : Int64)))), .second]) rfl k) ?_
  refine Go.st (fun t k => XS.lloadN X0.here hx rfl (hb hby d3_11) rfl k) ?_
  refine Go.st (fun t k => XS.lloadN X0.here hx rfl (hb hby d3_12) rfl k) ?_
  refine Go.st (fun t k => XS.bipush X0.here hx rfl (hb hby d3_13) k) ?_
  refine Go.st (fun t k => XS.lushr X0.here hx rfl (hb hby d3_15) rfl k) ?_
  show Go _ _ _ (s₁.setTop (mkF m 16 #[.val (.long q1), .second, .val (.int p2), .val (.long (q1 + (((p2.toInt64) + (1 : Int64)) * (-7046029254386353131 : Int64)))), .second] [(.long (((q1 + (((p2.toInt64) + (1 : Int64)) * (-7046029254386353131 : Int64))).toUInt64 >>> ((30 : Int32) &&& 0x3f).toInt64.toUInt64).toInt64)), (.long (q1 + (((p2.toInt64) + (1 : Int64)) * (-7046029254386353131 : Int64))))])) _
  refine Go.st (fun t k => XS.lxor X0.here hx rfl (hb hby d3_16) rfl k) ?_
  show Go _ _ _ (s₁.setTop (mkF m 17 #[.val (.long q1), .second, .val (.int p2), .val (.long (q1 + (((p2.toInt64) + (1 : Int64)) * (-7046029254386353131 : Int64)))), .second] [(.long ((q1 + (((p2.toInt64) + (1 : Int64)) * (-7046029254386353131 : Int64))) ^^^ (((q1 + (((p2.toInt64) + (1 : Int64)) * (-7046029254386353131 : Int64))).toUInt64 >>> ((30 : Int32) &&& 0x3f).toInt64.toUInt64).toInt64)))])) _
  refine Go.st (fun t k => X0.ldc2Long hx hown (mvT hZ (wd17 hw)) (g := (mkF m 17 #[.val (.long q1), .second, .val (.int p2), .val (.long (q1 + (((p2.toInt64) + (1 : Int64)) * (-7046029254386353131 : Int64)))), .second] [(.long ((q1 + (((p2.toInt64) + (1 : Int64)) * (-7046029254386353131 : Int64))) ^^^ (((q1 + (((p2.toInt64) + (1 : Int64)) * (-7046029254386353131 : Int64))).toUInt64 >>> ((30 : Int32) &&& 0x3f).toInt64.toUInt64).toInt64)))])) rfl (hb hby d3_17) _ k) ?_
  show Go _ _ _ (s₁.setTop (mkF m 20 #[.val (.long q1), .second, .val (.int p2), .val (.long (q1 + (((p2.toInt64) + (1 : Int64)) * (-7046029254386353131 : Int64)))), .second] [(.long (-4658895280553007687)), (.long ((q1 + (((p2.toInt64) + (1 : Int64)) * (-7046029254386353131 : Int64))) ^^^ (((q1 + (((p2.toInt64) + (1 : Int64)) * (-7046029254386353131 : Int64))).toUInt64 >>> ((30 : Int32) &&& 0x3f).toInt64.toUInt64).toInt64)))])) _
  refine Go.st (fun t k => XS.lmul X0.here hx rfl (hb hby d3_20) rfl k) ?_
  show Go _ _ _ (s₁.setTop (mkF m 21 #[.val (.long q1), .second, .val (.int p2), .val (.long (q1 + (((p2.toInt64) + (1 : Int64)) * (-7046029254386353131 : Int64)))), .second] [(.long (((q1 + (((p2.toInt64) + (1 : Int64)) * (-7046029254386353131 : Int64))) ^^^ (((q1 + (((p2.toInt64) + (1 : Int64)) * (-7046029254386353131 : Int64))).toUInt64 >>> ((30 : Int32) &&& 0x3f).toInt64.toUInt64).toInt64)) * (-4658895280553007687 : Int64)))])) _
  refine Go.st (fun t k => XS.lstoreN X0.here hx rfl (hb hby d3_21) rfl (l' := #[.val (.long q1), .second, .val (.int p2), .val (.long (t3_1 q1 p2)), .second]) rfl k) ?_
  refine Go.st (fun t k => XS.lloadN X0.here hx rfl (hb hby d3_22) rfl k) ?_
  refine Go.st (fun t k => XS.lloadN X0.here hx rfl (hb hby d3_23) rfl k) ?_
  refine Go.st (fun t k => XS.bipush X0.here hx rfl (hb hby d3_24) k) ?_
  refine Go.st (fun t k => XS.lushr X0.here hx rfl (hb hby d3_26) rfl k) ?_
  show Go _ _ _ (s₁.setTop (mkF m 27 #[.val (.long q1), .second, .val (.int p2), .val (.long (t3_1 q1 p2)), .second] [(.long (((t3_1 q1 p2).toUInt64 >>> ((27 : Int32) &&& 0x3f).toInt64.toUInt64).toInt64)), (.long (t3_1 q1 p2))])) _
  refine Go.st (fun t k => XS.lxor X0.here hx rfl (hb hby d3_27) rfl k) ?_
  show Go _ _ _ (s₁.setTop (mkF m 28 #[.val (.long q1), .second, .val (.int p2), .val (.long (t3_1 q1 p2)), .second] [(.long ((t3_1 q1 p2) ^^^ (((t3_1 q1 p2).toUInt64 >>> ((27 : Int32) &&& 0x3f).toInt64.toUInt64).toInt64)))])) _
  refine Go.st (fun t k => X0.ldc2Long hx hown (mvT hZ (wd18 hw)) (g := (mkF m 28 #[.val (.long q1), .second, .val (.int p2), .val (.long (t3_1 q1 p2)), .second] [(.long ((t3_1 q1 p2) ^^^ (((t3_1 q1 p2).toUInt64 >>> ((27 : Int32) &&& 0x3f).toInt64.toUInt64).toInt64)))])) rfl (hb hby d3_28) _ k) ?_
  show Go _ _ _ (s₁.setTop (mkF m 31 #[.val (.long q1), .second, .val (.int p2), .val (.long (t3_1 q1 p2)), .second] [(.long (-7723592293110705685)), (.long ((t3_1 q1 p2) ^^^ (((t3_1 q1 p2).toUInt64 >>> ((27 : Int32) &&& 0x3f).toInt64.toUInt64).toInt64)))])) _
  refine Go.st (fun t k => XS.lmul X0.here hx rfl (hb hby d3_31) rfl k) ?_
  show Go _ _ _ (s₁.setTop (mkF m 32 #[.val (.long q1), .second, .val (.int p2), .val (.long (t3_1 q1 p2)), .second] [(.long (((t3_1 q1 p2) ^^^ (((t3_1 q1 p2).toUInt64 >>> ((27 : Int32) &&& 0x3f).toInt64.toUInt64).toInt64)) * (-7723592293110705685 : Int64)))])) _
  refine Go.st (fun t k => XS.lstoreN X0.here hx rfl (hb hby d3_32) rfl (l' := #[.val (.long q1), .second, .val (.int p2), .val (.long (t3_2 q1 p2)), .second]) rfl k) ?_
  refine Go.st (fun t k => XS.lloadN X0.here hx rfl (hb hby d3_33) rfl k) ?_
  refine Go.st (fun t k => XS.lloadN X0.here hx rfl (hb hby d3_34) rfl k) ?_
  refine Go.st (fun t k => XS.bipush X0.here hx rfl (hb hby d3_35) k) ?_
  refine Go.st (fun t k => XS.lushr X0.here hx rfl (hb hby d3_37) rfl k) ?_
  show Go _ _ _ (s₁.setTop (mkF m 38 #[.val (.long q1), .second, .val (.int p2), .val (.long (t3_2 q1 p2)), .second] [(.long (((t3_2 q1 p2).toUInt64 >>> ((31 : Int32) &&& 0x3f).toInt64.toUInt64).toInt64)), (.long (t3_2 q1 p2))])) _
  refine Go.st (fun t k => XS.lxor X0.here hx rfl (hb hby d3_38) rfl k) ?_
  show Go _ _ _ (s₁.setTop (mkF m 39 #[.val (.long q1), .second, .val (.int p2), .val (.long (t3_2 q1 p2)), .second] [(.long ((t3_2 q1 p2) ^^^ (((t3_2 q1 p2).toUInt64 >>> ((31 : Int32) &&& 0x3f).toInt64.toUInt64).toInt64)))])) _
  refine Go.st (fun t k => XS.lstoreN X0.here hx rfl (hb hby d3_39) rfl (l' := #[.val (.long q1), .second, .val (.int p2), .val (.long (t3_3 q1 p2)), .second]) rfl k) ?_
  refine Go.st (fun t k => XS.lloadN X0.here hx rfl (hb hby d3_40) rfl k) ?_
  refine Go.st (fun t k => XS.bipush X0.here hx rfl (hb hby d3_41) k) ?_
  refine Go.st (fun t k => XS.lushr X0.here hx rfl (hb hby d3_43) rfl k) ?_
  show Go _ _ _ (s₁.setTop (mkF m 44 #[.val (.long q1), .second, .val (.int p2), .val (.long (t3_3 q1 p2)), .second] [(.long (((t3_3 q1 p2).toUInt64 >>> ((55 : Int32) &&& 0x3f).toInt64.toUInt64).toInt64))])) _
  refine Go.st (fun t k => XS.l2i X0.here hx rfl (hb hby d3_44) rfl k) ?_
  show Go _ _ _ (s₁.setTop (mkF m 45 #[.val (.long q1), .second, .val (.int p2), .val (.long (t3_3 q1 p2)), .second] [(.int ((((t3_3 q1 p2).toUInt64 >>> ((55 : Int32) &&& 0x3f).toInt64.toUInt64).toInt64).toInt32))])) _
  obtain ⟨fs, hr, hrun, hended, hW, hsame⟩ := X0.leave (v := some (.int ((((t3_3 q1 p2).toUInt64 >>> ((55 : Int32) &&& 0x3f).toInt64.toUInt64).toInt64).toInt32))) (fun h => by rw [Bd.returns] at h; cases h)
  refine Go.fin (retOut X0 hx Bd.returns rfl (Or.inl ⟨rfl, Or.inl rfl, _, rfl⟩) (hb hby d3_45) hr) hrun hended ⟨_, _, rfl, ?_, ⟨_, rfl⟩, hW, hsame.mono (by decide) (by decide)⟩
  show Q3 Z q1 p2 h0 n0 _ s₁.heap _
  rw [e0]
  exact ⟨rfl, N0, rfl⟩
theorem d1_0 : decode prog_13_method_6_code 0 = .ok (.aload_n 0, 1) := by decide +kernel
theorem d1_1 : decode prog_13_method_6_code 1 = .ok (.iconst 1, 1) := by decide +kernel
theorem d1_2 : decode prog_13_method_6_code 2 = .ok (.laload, 1) := by decide +kernel
theorem d1_3 : decode prog_13_method_6_code 3 = .ok (.iload_n 1, 1) := by decide +kernel
theorem d1_4 : decode prog_13_method_6_code 4 = .ok (.iconst 1, 1) := by decide +kernel
theorem d1_5 : decode prog_13_method_6_code 5 = .ok (.iadd, 1) := by decide +kernel
theorem d1_6 : decode prog_13_method_6_code 6 = .ok (.i2l, 1) := by decide +kernel
theorem d1_7 : decode prog_13_method_6_code 7 = .ok (.ldc2_w 52, 3) := by decide +kernel
theorem wd6 {Z : State} {a0 : Array Value} (hw : ∀ d ∈ tables_1, d.before a0 Z = true) : (Jvm.Cond.constantLong "com/example/gloom/gloom/hashing/CellPositions" (52 : Nat) (-7046029254386353131 : Int64)).before a0 Z = true := hw _ (List.mem_of_getElem? (i := 6) rfl)
theorem d1_10 : decode prog_13_method_6_code 10 = .ok (.lmul, 1) := by decide +kernel
theorem d1_11 : decode prog_13_method_6_code 11 = .ok (.ladd, 1) := by decide +kernel
theorem d1_12 : decode prog_13_method_6_code 12 = .ok (.invokestatic 54, 3) := by decide +kernel
theorem wd7 {Z : State} {a0 : Array Value} (hw : ∀ d ∈ tables_1, d.before a0 Z = true) : (Jvm.Cond.methodLink "com/example/gloom/gloom/hashing/CellPositions" (54 : Nat) ({ cls := "com/example/gloom/gloom/hashing/CellPositions", name := "splitMixAllButLast", desc := "(J)J" } : Jvm.MethodName)).before a0 Z = true := hw _ (List.mem_of_getElem? (i := 7) rfl)
theorem wd9 {Z : State} {a0 : Array Value} (hw : ∀ d ∈ tables_1, d.before a0 Z = true) : (Jvm.Cond.code ({ cls := "com/example/gloom/gloom/hashing/CellPositions", name := "splitMixAllButLast", desc := "(J)J" } : Jvm.MethodName) prog_13_method_8_code (2 : Nat) (Option.some Jvm.ClassFile.FieldType.long)).before a0 Z = true := hw _ (List.mem_of_getElem? (i := 9) rfl)
theorem wd4 {Z : State} {a0 : Array Value} (hw : ∀ d ∈ tables_1, d.before a0 Z = true) : (Jvm.Cond.initialized "com/example/gloom/gloom/hashing/CellPositions").before a0 Z = true := hw _ (List.mem_of_getElem? (i := 4) rfl)
theorem pd0 : parseMethodDescriptor "(J)J" = some ⟨[.long], some .long⟩ := by decide +kernel
theorem wd8 {Z : State} {a0 : Array Value} (hw : ∀ d ∈ tables_1, d.before a0 Z = true) : (Jvm.Cond.static ({ cls := "com/example/gloom/gloom/hashing/CellPositions", name := "splitMixAllButLast", desc := "(J)J" } : Jvm.MethodName)).before a0 Z = true := hw _ (List.mem_of_getElem? (i := 8) rfl)
theorem d1_15 : decode prog_13_method_6_code 15 = .ok (.bipush 55, 2) := by decide +kernel
theorem d1_17 : decode prog_13_method_6_code 17 = .ok (.lushr, 1) := by decide +kernel
theorem d1_18 : decode prog_13_method_6_code 18 = .ok (.l2i, 1) := by decide +kernel
theorem d1_19 : decode prog_13_method_6_code 19 = .ok (.ireturn, 1) := by decide +kernel
def Q1 (Z : State) (a1 : Addr) (p2 : Int32) (k_a1 : ClassId) (x0 : Int64) (x1 : Int64) (h0 : Heap) (n0 : Nat) (v : Option Value) (h : Heap) (L : List Loc) : Prop := v = some (.int ((((((t2_0 (x1 + (((p2 + (1 : Int32)).toInt64) * (-7046029254386353131 : Int64)))) ^^^ (((t2_0 (x1 + (((p2 + (1 : Int32)).toInt64) * (-7046029254386353131 : Int64)))).toUInt64 >>> ((27 : Int32) &&& 0x3f).toInt64.toUInt64).toInt64)) * (-7723592293110705685 : Int64)).toUInt64 >>> ((55 : Int32) &&& 0x3f).toInt64.toUInt64).toInt64).toInt32)) ∧ Fr n0 L ∧ h = h0
theorem ef1 (m : MethodId) (x0 : Addr) (x1 : Int32) : entryFrame m #[(.ref x0), (.int x1)] 2 = mkF m 0 #[.val (.ref x0), .val (.int x1)] [] := by first | (simp [entryFrame, mkF, argsToLocals, Value.category]; done) | rfl
set_option maxRecDepth 65536 in
set_option maxHeartbeats 16000000 in
theorem rm1 (l : Launch) (Z : State) (a0 : Array Value) (hw : ∀ d ∈ tables_1, d.before a0 Z = true) (ws : List Jvm.Cond) (a1 : Addr) (p2 : Int32) (k_a1 : ClassId) (x0 : Int64) (x1 : Int64) (h0 : Heap) (n0 : Nat) (Z0 : n0 ≤ h0.size) (V_a1 : Arv Z h0 a1 k_a1 .long (2 : Int32) [(.long x0), (.long x1)] (.long (0 : Int64))) :
    MetFree l (⟨"com/example/gloom/gloom/hashing/CellPositions", "offsetInBlock", "([JI)I"⟩ : MethodName) (head1 (Jvm.Cond.code (⟨"com/example/gloom/gloom/hashing/CellPositions", "offsetInBlock", "([JI)I"⟩ : MethodName) prog_13_method_6_code 2 (some .int) :: ws) ({ frames := 1, cells := 0, slots := 0, locals := 13 } : Room)) (fun a U => a = #[(.ref a1), (.int p2)] ∧ Z.Warmed39 U.vm ∧ U.heap = h0) (fun _ _ _ _ _ => True) (fun _ U o U' => ∃ v L, o = .returned v ∧ Q1 Z a1 p2 k_a1 x0 x1 h0 n0 v U'.heap L ∧ FrameEnd U o U' L ({ frames := 1, cells := 0, slots := 0, locals := 13 } : Room).cells ({ frames := 1, cells := 0, slots := 0, locals := 13 } : Room).slots) := by
  refine MetFree.of_bodySF (plainFor_of_name pn0) hisR ?_
  intro p e s m args below meth c s₁ Bd hml0 hP hK
  obtain ⟨rfl, hZ, hh⟩ := hP
  have hx := Bd.exec
  have hby := Bd.bytes
  have hml : c.maxLocals = 2 := hml0
  have hown : s.vm.findClass "com/example/gloom/gloom/hashing/CellPositions" = some m.cls := findClass_of_methodNamed Bd.named
  have hnm := (name_of_methodNamed Bd.named Bd.method).1
  have X0 : Stand p l e ({ frames := 1, cells := 0, slots := 0, locals := 13 } : Room) s m #[(.ref a1), (.int p2)] below meth c s₁ [] 0 0 := Stand.of_body Bd
  have e0 : s₁.heap = h0 := by rw [← hh, Bd.state]; rfl
  have N0 := Fr.nil n0
  have K0 : Keep h0 h0 [] := Keep.refl h0 _
  refine Go.st (P := fun o U' => ∃ v L, o = .returned v ∧ Q1 Z a1 p2 k_a1 x0 x1 h0 n0 v U'.heap L ∧ FrameEnd s o U' L ({ frames := 1, cells := 0, slots := 0, locals := 13 } : Room).cells ({ frames := 1, cells := 0, slots := 0, locals := 13 } : Room).slots) (fun t k => castTop (ef1 m a1 p2) k) ?_
  show Go _ _ _ (s₁.setTop (mkF m 0 #[.val (.ref a1), .val (.int p2)] [])) _
  refine Go.st (fun t k => XS.aloadN X0.here hx rfl (hb hby d1_0) rfl rfl k) ?_
  refine Go.st (fun t k => XS.iconst X0.here hx rfl (hb hby d1_1) k) ?_
  obtain ⟨cl1, Ar1, -, Sz1, Ng1, Hs1, -⟩ := id V_a1
  have hin1 : ¬ ((1 : Int32) < 0 ∨ cl1.slots.size ≤ ((1 : Int32)).toNatClampNeg) := inb_of Sz1 ⟨by decide, by decide⟩
  refine Go.st (fun t k => X0.laload hx (j := (1 : Int32)) (v := (.long x1)) (by rw [e0]; exact Ar1.1) (State.isArrayOf_alike hZ.alike Ar1.2.1) Ar1.2.2 hin1 (Has.at Hs1 hin1 rfl) (g := (mkF m 2 #[.val (.ref a1), .val (.int p2)] [(.int 1), (.ref a1)])) rfl rfl (hb hby d1_2) _ k) ?_
  show Go _ _ _ (s₁.setTop (mkF m 3 #[.val (.ref a1), .val (.int p2)] [(.long x1)])) _
  refine Go.st (fun t k => XS.iloadN X0.here hx rfl (hb hby d1_3) rfl k) ?_
  refine Go.st (fun t k => XS.iconst X0.here hx rfl (hb hby d1_4) k) ?_
  refine Go.st (fun t k => XS.iadd X0.here hx rfl (hb hby d1_5) rfl k) ?_
  show Go _ _ _ (s₁.setTop (mkF m 6 #[.val (.ref a1), .val (.int p2)] [(.int (p2 + (1 : Int32))), (.long x1)])) _
  refine Go.st (fun t k => XS.i2l X0.here hx rfl (hb hby d1_6) rfl k) ?_
  show Go _ _ _ (s₁.setTop (mkF m 7 #[.val (.ref a1), .val (.int p2)] [(.long ((p2 + (1 : Int32)).toInt64)), (.long x1)])) _
  refine Go.st (fun t k => X0.ldc2Long hx hown (mvT hZ (wd6 hw)) (g := (mkF m 7 #[.val (.ref a1), .val (.int p2)] [(.long ((p2 + (1 : Int32)).toInt64)), (.long x1)])) rfl (hb hby d1_7) _ k) ?_
  show Go _ _ _ (s₁.setTop (mkF m 10 #[.val (.ref a1), .val (.int p2)] [(.long (-7046029254386353131)), (.long ((p2 + (1 : Int32)).toInt64)), (.long x1)])) _
  refine Go.st (fun t k => XS.lmul X0.here hx rfl (hb hby d1_10) rfl k) ?_
  show Go _ _ _ (s₁.setTop (mkF m 11 #[.val (.ref a1), .val (.int p2)] [(.long (((p2 + (1 : Int32)).toInt64) * (-7046029254386353131 : Int64))), (.long x1)])) _
  refine Go.st (fun t k => XS.ladd X0.here hx rfl (hb hby d1_11) rfl k) ?_
  show Go _ _ _ (s₁.setTop (mkF m 12 #[.val (.ref a1), .val (.int p2)] [(.long (x1 + (((p2 + (1 : Int32)).toInt64) * (-7046029254386353131 : Int64))))])) _
  obtain ⟨_, _, ⟨T2, L2, k2, n2⟩, -, X2, ⟨Lc2, hQ2, l2, y2, z2⟩, st2⟩ := Jvm.LawKit.callS X0 hx (y := (⟨"com/example/gloom/gloom/hashing/CellPositions", "splitMixAllButLast", "(J)J"⟩ : MethodName)) hown (mvT hZ (wd7 hw)) (mvT hZ (wd8 hw)) (mvT hZ (wd4 hw)) (mvT hZ (wd9 hw)) (by decide) (backOf (W := 0) (rm2 l Z a0 hw [] (x1 + (((p2 + (1 : Int32)).toInt64) * (-7046029254386353131 : Int64))) h0 n0 Z0) hZ (wd9 hw) (wd4 hw) (by decide) (by decide)) (g := (mkF m 12 #[.val (.ref a1), .val (.int p2)] [(.long (x1 + (((p2 + (1 : Int32)).toInt64) * (-7046029254386353131 : Int64))))])) rfl (by rw [hml]; rfl) (argsL := [(.long (x1 + (((p2 + (1 : Int32)).toInt64) * (-7046029254386353131 : Int64))))]) (rest := []) (lenOf pd0 rfl) rfl (by show 2 * 0 + _ ≤ _; exact Nat.le_of_eq rfl) (hb hby d1_12) (fun _ _ => ⟨rfl, e0, (by decide : 0 + 0 ≤ _), (by decide : 0 + 0 ≤ _)⟩)
  dsimp only [Pt.U, Pt.locs, Pt.cells, Pt.slots] at X2 l2 y2 z2 st2 hQ2
  subst l2 y2 z2
  refine Go.st st2 ?_
  obtain ⟨rfl, N2q, e2⟩ := hQ2
  have N2 := Fr.app N0 N2q
  show Go _ _ _ (T2.setTop (mkF m 15 #[.val (.ref a1), .val (.int p2)] [(.long (((t2_0 (x1 + (((p2 + (1 : Int32)).toInt64) * (-7046029254386353131 : Int64)))) ^^^ (((t2_0 (x1 + (((p2 + (1 : Int32)).toInt64) * (-7046029254386353131 : Int64)))).toUInt64 >>> ((27 : Int32) &&& 0x3f).toInt64.toUInt64).toInt64)) * (-7723592293110705685 : Int64)))])) _
  refine Go.st (fun t k => XS.bipush X2.here hx rfl (hb hby d1_15) k) ?_
  refine Go.st (fun t k => XS.lushr X2.here hx rfl (hb hby d1_17) rfl k) ?_
  show Go _ _ _ (T2.setTop (mkF m 18 #[.val (.ref a1), .val (.int p2)] [(.long (((((t2_0 (x1 + (((p2 + (1 : Int32)).toInt64) * (-7046029254386353131 : Int64)))) ^^^ (((t2_0 (x1 + (((p2 + (1 : Int32)).toInt64) * (-7046029254386353131 : Int64)))).toUInt64 >>> ((27 : Int32) &&& 0x3f).toInt64.toUInt64).toInt64)) * (-7723592293110705685 : Int64)).toUInt64 >>> ((55 : Int32) &&& 0x3f).toInt64.toUInt64).toInt64))])) _
  refine Go.st (fun t k => XS.l2i X2.here hx rfl (hb hby d1_18) rfl k) ?_
  show Go _ _ _ (T2.setTop (mkF m 19 #[.val (.ref a1), .val (.int p2)] [(.int ((((((t2_0 (x1 + (((p2 + (1 : Int32)).toInt64) * (-7046029254386353131 : Int64)))) ^^^ (((t2_0 (x1 + (((p2 + (1 : Int32)).toInt64) * (-7046029254386353131 : Int64)))).toUInt64 >>> ((27 : Int32) &&& 0x3f).toInt64.toUInt64).toInt64)) * (-7723592293110705685 : Int64)).toUInt64 >>> ((55 : Int32) &&& 0x3f).toInt64.toUInt64).toInt64).toInt32))])) _
  obtain ⟨fs, hr, hrun, hended, hW, hsame⟩ := X2.leave (v := some (.int ((((((t2_0 (x1 + (((p2 + (1 : Int32)).toInt64) * (-7046029254386353131 : Int64)))) ^^^ (((t2_0 (x1 + (((p2 + (1 : Int32)).toInt64) * (-7046029254386353131 : Int64)))).toUInt64 >>> ((27 : Int32) &&& 0x3f).toInt64.toUInt64).toInt64)) * (-7723592293110705685 : Int64)).toUInt64 >>> ((55 : Int32) &&& 0x3f).toInt64.toUInt64).toInt64).toInt32))) (fun h => by rw [Bd.returns] at h; cases h)
  refine Go.fin (retOut X2 hx Bd.returns rfl (Or.inl ⟨rfl, Or.inl rfl, _, rfl⟩) (hb hby d1_19) hr) hrun hended ⟨_, _, rfl, ?_, ⟨_, rfl⟩, hW, hsame.mono (by decide) (by decide)⟩
  show Q1 Z a1 p2 k_a1 x0 x1 h0 n0 _ T2.heap _
  rw [e2]
  exact ⟨rfl, N2, rfl⟩
theorem wd0 {Z : State} {a0 : Array Value} (hw : ∀ d ∈ tables_1, d.before a0 Z = true) : (Jvm.Cond.constant "com/example/gloom/gloom/hashing/CellPositionsOffsetInBlockPinLaw" (13 : Nat) (2147483647 : Int32)).before a0 Z = true := hw _ (List.mem_of_getElem? (i := 0) rfl)
theorem wd1 {Z : State} {a0 : Array Value} (hw : ∀ d ∈ tables_1, d.before a0 Z = true) : (Jvm.Cond.arrayClass Jvm.ClassFile.FieldType.long).before a0 Z = true := hw _ (List.mem_of_getElem? (i := 1) rfl)
theorem wd2 {Z : State} {a0 : Array Value} (hw : ∀ d ∈ tables_1, d.before a0 Z = true) : (Jvm.Cond.methodLink "com/example/gloom/gloom/hashing/CellPositionsOffsetInBlockPinLaw" (14 : Nat) ({ cls := "com/example/gloom/gloom/hashing/CellPositions", name := "offsetInBlock", desc := "([JI)I" } : Jvm.MethodName)).before a0 Z = true := hw _ (List.mem_of_getElem? (i := 2) rfl)
theorem wd5 {Z : State} {a0 : Array Value} (hw : ∀ d ∈ tables_1, d.before a0 Z = true) : (Jvm.Cond.code ({ cls := "com/example/gloom/gloom/hashing/CellPositions", name := "offsetInBlock", desc := "([JI)I" } : Jvm.MethodName) prog_13_method_6_code (2 : Nat) (Option.some Jvm.ClassFile.FieldType.int)).before a0 Z = true := hw _ (List.mem_of_getElem? (i := 5) rfl)
theorem pd1 : parseMethodDescriptor "([JI)I" = some ⟨[(.array .long), .int], some .int⟩ := by decide +kernel
theorem wd3 {Z : State} {a0 : Array Value} (hw : ∀ d ∈ tables_1, d.before a0 Z = true) : (Jvm.Cond.static ({ cls := "com/example/gloom/gloom/hashing/CellPositions", name := "offsetInBlock", desc := "([JI)I" } : Jvm.MethodName)).before a0 Z = true := hw _ (List.mem_of_getElem? (i := 3) rfl)
def t0_4 (q2 : Int64) (p3 : Int32) : Int32 := ((((((t2_0 (q2 + (((((p3 &&& (2147483647 : Int32)) % (2147483647 : Int32)) + (1 : Int32)).toInt64) * (-7046029254386353131 : Int64)))) ^^^ (((t2_0 (q2 + (((((p3 &&& (2147483647 : Int32)) % (2147483647 : Int32)) + (1 : Int32)).toInt64) * (-7046029254386353131 : Int64)))).toUInt64 >>> ((27 : Int32) &&& 0x3f).toInt64.toUInt64).toInt64)) * (-7723592293110705685 : Int64)).toUInt64 >>> ((55 : Int32) &&& 0x3f).toInt64.toUInt64).toInt64).toInt32)
theorem wd12 {Z : State} {a0 : Array Value} (hw : ∀ d ∈ tables_1, d.before a0 Z = true) : (Jvm.Cond.methodLink "com/example/gloom/gloom/hashing/CellPositionsOffsetInBlockPinLaw" (20 : Nat) ({ cls := "com/example/gloom/gloom/hashing/CellPositionsOffsetInBlockPinLaw", name := "reference", desc := "(JI)I" } : Jvm.MethodName)).before a0 Z = true := hw _ (List.mem_of_getElem? (i := 12) rfl)
theorem wd15 {Z : State} {a0 : Array Value} (hw : ∀ d ∈ tables_1, d.before a0 Z = true) : (Jvm.Cond.code ({ cls := "com/example/gloom/gloom/hashing/CellPositionsOffsetInBlockPinLaw", name := "reference", desc := "(JI)I" } : Jvm.MethodName) method_2_code (5 : Nat) (Option.some Jvm.ClassFile.FieldType.int)).before a0 Z = true := hw _ (List.mem_of_getElem? (i := 15) rfl)
theorem wd14 {Z : State} {a0 : Array Value} (hw : ∀ d ∈ tables_1, d.before a0 Z = true) : (Jvm.Cond.initialized "com/example/gloom/gloom/hashing/CellPositionsOffsetInBlockPinLaw").before a0 Z = true := hw _ (List.mem_of_getElem? (i := 14) rfl)
theorem pd2 : parseMethodDescriptor "(JI)I" = some ⟨[.long, .int], some .int⟩ := by decide +kernel
theorem wd13 {Z : State} {a0 : Array Value} (hw : ∀ d ∈ tables_1, d.before a0 Z = true) : (Jvm.Cond.static ({ cls := "com/example/gloom/gloom/hashing/CellPositionsOffsetInBlockPinLaw", name := "reference", desc := "(JI)I" } : Jvm.MethodName)).before a0 Z = true := hw _ (List.mem_of_getElem? (i := 13) rfl)
def t0_5 (q2 : Int64) (p3 : Int32) : Int32 := ((((t3_3 q2 ((p3 &&& (2147483647 : Int32)) % (2147483647 : Int32))).toUInt64 >>> ((55 : Int32) &&& 0x3f).toInt64.toUInt64).toInt64).toInt32)
def f0 (q2 : Int64) (p3 : Int32) : Int32 := (if (t0_4 q2 p3) = (t0_5 q2 p3) then (if (t0_4 q2 p3) < (0 : Int32) then (0 : Int32) else (if (t0_4 q2 p3) < (512 : Int32) then (1 : Int32) else (0 : Int32))) else (0 : Int32))
def Q0 (Z : State) (q1 : Int64) (q2 : Int64) (p3 : Int32) (q4 : Int64) (h0 : Heap) (n0 : Nat) (v : Option Value) (h : Heap) (L : List Loc) : Prop := v = some (.int (f0 q2 p3)) ∧ Fr n0 L
theorem ef0 (m : MethodId) (x0 : Int64) (x1 : Int64) (x2 : Int32) (x3 : Int64) : entryFrame m #[(.long x0), (.long x1), (.int x2), (.long x3)] maxLocals = mkF m 0 #[.val (.long x0), .second, .val (.long x1), .second, .val (.int x2), .val (.long x3), .second, .unset, .unset, .unset, .unset, .unset, .unset] [] := by first | (simp [entryFrame, mkF, argsToLocals, Value.category, maxLocals]; done) | rfl
set_option maxRecDepth 65536 in
set_option maxHeartbeats 16000000 in
theorem rm0 (l : Launch) (Z : State) (a0 : Array Value) (hw : ∀ d ∈ tables_1, d.before a0 Z = true) (ws : List Jvm.Cond) (q1 : Int64) (q2 : Int64) (p3 : Int32) (q4 : Int64) (h0 : Heap) (n0 : Nat) (Z0 : n0 ≤ h0.size) :
    MetFree l x (head1 (Jvm.Cond.code x code maxLocals ret :: ws) room_1) (fun a U => a = #[(.long q1), (.long q2), (.int p3), (.long q4)] ∧ Z.Warmed39 U.vm ∧ U.heap = h0) (fun _ _ _ _ _ => True) (fun _ U o U' => ∃ v L, o = .returned v ∧ Q0 Z q1 q2 p3 q4 h0 n0 v U'.heap L ∧ FrameEnd U o U' L 16 128) := by
  refine MetFree.of_bodySF (plainFor_of_name pn1) hisR ?_
  intro p e s m args below meth c s₁ Bd hml0 hP hK
  obtain ⟨rfl, hZ, hh⟩ := hP
  have hx := Bd.exec
  have hby := Bd.bytes
  have hml : c.maxLocals = 13 := hml0
  have hown : s.vm.findClass "com/example/gloom/gloom/hashing/CellPositionsOffsetInBlockPinLaw" = some m.cls := findClass_of_methodNamed Bd.named
  have hnm := (name_of_methodNamed Bd.named Bd.method).1
  have X0 : Stand p l e room_1 s m #[(.long q1), (.long q2), (.int p3), (.long q4)] below meth c s₁ [] 0 0 := Stand.of_body Bd
  have e0 : s₁.heap = h0 := by rw [← hh, Bd.state]; rfl
  have N0 := Fr.nil n0
  have K0 : Keep h0 h0 [] := Keep.refl h0 _
  refine Go.st (P := fun o U' => ∃ v L, o = .returned v ∧ Q0 Z q1 q2 p3 q4 h0 n0 v U'.heap L ∧ FrameEnd s o U' L 16 128) (fun t k => castTop (ef0 m q1 q2 p3 q4) k) ?_
  show Go _ _ _ (s₁.setTop (mkF m 0 #[.val (.long q1), .second, .val (.long q2), .second, .val (.int p3), .val (.long q4), .second, .unset, .unset, .unset, .unset, .unset, .unset] [])) _
  refine Go.st (fun t k => XS.iload X0.here hx rfl (hb hby at_0) rfl k) ?_
  refine Go.st (fun t k => X0.ldcInt hx hown (mvT hZ (wd0 hw)) (g := (mkF m 2 #[.val (.long q1), .second, .val (.long q2), .second, .val (.int p3), .val (.long q4), .second, .unset, .unset, .unset, .unset, .unset, .unset] [(.int p3)])) rfl (hb hby at_2) _ k) ?_
  show Go _ _ _ (s₁.setTop (mkF m 4 #[.val (.long q1), .second, .val (.long q2), .second, .val (.int p3), .val (.long q4), .second, .unset, .unset, .unset, .unset, .unset, .unset] [(.int 2147483647), (.int p3)])) _
  refine Go.st (fun t k => XS.iand X0.here hx rfl (hb hby at_4) rfl k) ?_
  show Go _ _ _ (s₁.setTop (mkF m 5 #[.val (.long q1), .second, .val (.long q2), .second, .val (.int p3), .val (.long q4), .second, .unset, .unset, .unset, .unset, .unset, .unset] [(.int (p3 &&& (2147483647 : Int32)))])) _
  refine Go.st (fun t k => X0.ldcInt hx hown (mvT hZ (wd0 hw)) (g := (mkF m 5 #[.val (.long q1), .second, .val (.long q2), .second, .val (.int p3), .val (.long q4), .second, .unset, .unset, .unset, .unset, .unset, .unset] [(.int (p3 &&& (2147483647 : Int32)))])) rfl (hb hby at_5) _ k) ?_
  show Go _ _ _ (s₁.setTop (mkF m 7 #[.val (.long q1), .second, .val (.long q2), .second, .val (.int p3), .val (.long q4), .second, .unset, .unset, .unset, .unset, .unset, .unset] [(.int 2147483647), (.int (p3 &&& (2147483647 : Int32)))])) _
  refine Go.st (fun t k => iremM X0 hx rfl (hb hby at_7) rfl (by decide) k) ?_
  show Go _ _ _ (s₁.setTop (mkF m 8 #[.val (.long q1), .second, .val (.long q2), .second, .val (.int p3), .val (.long q4), .second, .unset, .unset, .unset, .unset, .unset, .unset] [(.int ((p3 &&& (2147483647 : Int32)) % (2147483647 : Int32)))])) _
  refine Go.st (fun t k => XS.istore X0.here hx rfl (hb hby at_8) rfl (l' := #[.val (.long q1), .second, .val (.long q2), .second, .val (.int p3), .val (.long q4), .second, .val (.int ((p3 &&& (2147483647 : Int32)) % (2147483647 : Int32))), .unset, .unset, .unset, .unset, .unset]) rfl k) ?_
  refine Go.st (fun t k => XS.iconst X0.here hx rfl (hb hby at_10) k) ?_
  obtain ⟨T1, h1, k1, X1, e1, E1, A1, st1⟩ := newP X0 hx hZ (aty := .long) (wd1 hw) e0 (g := (mkF m 11 #[.val (.long q1), .second, .val (.long q2), .second, .val (.int p3), .val (.long q4), .second, .val (.int ((p3 &&& (2147483647 : Int32)) % (2147483647 : Int32))), .unset, .unset, .unset, .unset, .unset] [(.int 2)])) rfl (hb hby at_11) rfl (by decide) (cap := 2) (by decide) (by decide) (by decide) (by decide)
  obtain ⟨b1, g1⟩ : ∃ z, z = h0.size := ⟨_, rfl⟩
  rw [← g1] at A1 st1
  refine Go.st st1 ?_
  have g_b1 : n0 ≤ b1 := Nat.le_trans Z0 (Nat.le_of_eq g1.symm)
  have sz_b1 : h0.size ≤ b1 := Nat.le_trans K0.1 (Nat.le_of_eq g1.symm)
  replace K0 := K0.ext E1
  replace Z0 := Nat.le_trans Z0 E1.1
  have V_b1 : Arv Z h1 b1 k1 .long (2 : Int32) [(.long (0 : Int64)), (.long (0 : Int64))] (.long (0 : Int64)) := (Arv.new A1 (by decide)).pad (pad_rep [] (.long (0 : Int64)) 2)
  show Go _ _ _ (T1.setTop (mkF m 13 #[.val (.long q1), .second, .val (.long q2), .second, .val (.int p3), .val (.long q4), .second, .val (.int ((p3 &&& (2147483647 : Int32)) % (2147483647 : Int32))), .unset, .unset, .unset, .unset, .unset] [(.ref b1)])) _
  refine Go.st (fun t k => XS.dup X1.here hx rfl (hb hby at_13) rfl rfl k) ?_
  refine Go.st (fun t k => XS.iconst X1.here hx rfl (hb hby at_14) k) ?_
  refine Go.st (fun t k => XS.lloadN X1.here hx rfl (hb hby at_15) rfl k) ?_
  obtain ⟨cl2, Ar2, qq2, Sz2, Ng2, Hs2, Gs2⟩ := id V_b1
  have hin2 : ¬ ((0 : Int32) < 0 ∨ cl2.slots.size ≤ ((0 : Int32)).toNatClampNeg) := inb_of Sz2 ⟨by decide, by decide⟩
  obtain ⟨T3, h3, X3, e3, W3, st3⟩ := stJ X1 hx hZ e1 Ar2 (j := (0 : Int32)) hin2 (g := (mkF m 16 #[.val (.long q1), .second, .val (.long q2), .second, .val (.int p3), .val (.long q4), .second, .val (.int ((p3 &&& (2147483647 : Int32)) % (2147483647 : Int32))), .unset, .unset, .unset, .unset, .unset] [(.long q1), (.int 0), (.ref b1), (.ref b1)])) rfl rfl (hb hby at_16)
  refine Go.st st3 ?_
  have N3 := Fr.snoc X3 N0 g_b1
  replace Z0 := Nat.le_trans Z0 (Nat.le_of_eq W3.size.symm)
  replace K0 := K0.wr W3 (Or.inr sz_b1)
  replace V_b1 : Arv Z h3 b1 k1 .long (2 : Int32) [(.long q1), (.long (0 : Int64))] (.long (0 : Int64)) := Arv.set Ar2 qq2 Sz2 Ng2 Hs2 Gs2 rfl W3 0 rfl (Nat.le_of_ble_eq_true rfl)
  show Go _ _ _ (T3.setTop (mkF m 17 #[.val (.long q1), .second, .val (.long q2), .second, .val (.int p3), .val (.long q4), .second, .val (.int ((p3 &&& (2147483647 : Int32)) % (2147483647 : Int32))), .unset, .unset, .unset, .unset, .unset] [(.ref b1)])) _
  refine Go.st (fun t k => XS.dup X3.here hx rfl (hb hby at_17) rfl rfl k) ?_
  refine Go.st (fun t k => XS.iconst X3.here hx rfl (hb hby at_18) k) ?_
  refine Go.st (fun t k => XS.lloadN X3.here hx rfl (hb hby at_19) rfl k) ?_
  obtain ⟨cl4, Ar4, qq4, Sz4, Ng4, Hs4, Gs4⟩ := id V_b1
  have hin4 : ¬ ((1 : Int32) < 0 ∨ cl4.slots.size ≤ ((1 : Int32)).toNatClampNeg) := inb_of Sz4 ⟨by decide, by decide⟩
  obtain ⟨T5, h5, X5, e5, W5, st5⟩ := stJ X3 hx hZ e3 Ar4 (j := (1 : Int32)) hin4 (g := (mkF m 20 #[.val (.long q1), .second, .val (.long q2), .second, .val (.int p3), .val (.long q4), .second, .val (.int ((p3 &&& (2147483647 : Int32)) % (2147483647 : Int32))), .unset, .unset, .unset, .unset, .unset] [(.long q2), (.int 1), (.ref b1), (.ref b1)])) rfl rfl (hb hby at_20)
  refine Go.st st5 ?_
  have N5 := Fr.snoc X5 N3 g_b1
  replace Z0 := Nat.le_trans Z0 (Nat.le_of_eq W5.size.symm)
  replace K0 := K0.wr W5 (Or.inr sz_b1)
  replace V_b1 : Arv Z h5 b1 k1 .long (2 : Int32) [(.long q1), (.long q2)] (.long (0 : Int64)) := Arv.set Ar4 qq4 Sz4 Ng4 Hs4 Gs4 rfl W5 1 rfl (Nat.le_of_ble_eq_true rfl)
  show Go _ _ _ (T5.setTop (mkF m 21 #[.val (.long q1), .second, .val (.long q2), .second, .val (.int p3), .val (.long q4), .second, .val (.int ((p3 &&& (2147483647 : Int32)) % (2147483647 : Int32))), .unset, .unset, .unset, .unset, .unset] [(.ref b1)])) _
  refine Go.st (fun t k => XS.astore X5.here hx rfl (hb hby at_21) rfl rfl (l' := #[.val (.long q1), .second, .val (.long q2), .second, .val (.int p3), .val (.long q4), .second, .val (.int ((p3 &&& (2147483647 : Int32)) % (2147483647 : Int32))), .val (.ref b1), .unset, .unset, .unset, .unset]) rfl k) ?_
  refine Go.st (fun t k => XS.iconst X5.here hx rfl (hb hby at_23) k) ?_
  obtain ⟨T6, h6, k6, X6, e6, E6, A6, st6⟩ := newP X5 hx hZ (aty := .long) (wd1 hw) e5 (g := (mkF m 24 #[.val (.long q1), .second, .val (.long q2), .second, .val (.int p3), .val (.long q4), .second, .val (.int ((p3 &&& (2147483647 : Int32)) % (2147483647 : Int32))), .val (.ref b1), .unset, .unset, .unset, .unset] [(.int 2)])) rfl (hb hby at_24) rfl (by decide) (cap := 2) (by decide) (by decide) (by decide) (by decide)
  obtain ⟨b6, g6⟩ : ∃ z, z = h5.size := ⟨_, rfl⟩
  rw [← g6] at A6 st6
  refine Go.st st6 ?_
  have ne_b1_b6 : b1 ≠ b6 := Nat.ne_of_lt (Nat.lt_of_lt_of_le V_b1.lt (Nat.le_of_eq g6.symm))
  have g_b6 : n0 ≤ b6 := Nat.le_trans Z0 (Nat.le_of_eq g6.symm)
  have sz_b6 : h0.size ≤ b6 := Nat.le_trans K0.1 (Nat.le_of_eq g6.symm)
  replace V_b1 := V_b1.ext E6
  replace K0 := K0.ext E6
  replace Z0 := Nat.le_trans Z0 E6.1
  have V_b6 : Arv Z h6 b6 k6 .long (2 : Int32) [(.long (0 : Int64)), (.long (0 : Int64))] (.long (0 : Int64)) := (Arv.new A6 (by decide)).pad (pad_rep [] (.long (0 : Int64)) 2)
  show Go _ _ _ (T6.setTop (mkF m 26 #[.val (.long q1), .second, .val (.long q2), .second, .val (.int p3), .val (.long q4), .second, .val (.int ((p3 &&& (2147483647 : Int32)) % (2147483647 : Int32))), .val (.ref b1), .unset, .unset, .unset, .unset] [(.ref b6)])) _
  refine Go.st (fun t k => XS.dup X6.here hx rfl (hb hby at_26) rfl rfl k) ?_
  refine Go.st (fun t k => XS.iconst X6.here hx rfl (hb hby at_27) k) ?_
  refine Go.st (fun t k => XS.lload X6.here hx rfl (hb hby at_28) rfl k) ?_
  obtain ⟨cl7, Ar7, qq7, Sz7, Ng7, Hs7, Gs7⟩ := id V_b6
  have hin7 : ¬ ((0 : Int32) < 0 ∨ cl7.slots.size ≤ ((0 : Int32)).toNatClampNeg) := inb_of Sz7 ⟨by decide, by decide⟩
  obtain ⟨T8, h8, X8, e8, W8, st8⟩ := stJ X6 hx hZ e6 Ar7 (j := (0 : Int32)) hin7 (g := (mkF m 30 #[.val (.long q1), .second, .val (.long q2), .second, .val (.int p3), .val (.long q4), .second, .val (.int ((p3 &&& (2147483647 : Int32)) % (2147483647 : Int32))), .val (.ref b1), .unset, .unset, .unset, .unset] [(.long q4), (.int 0), (.ref b6), (.ref b6)])) rfl rfl (hb hby at_30)
  refine Go.st st8 ?_
  have N8 := Fr.snoc X8 N5 g_b6
  replace V_b1 := V_b1.other W8 ne_b1_b6
  replace Z0 := Nat.le_trans Z0 (Nat.le_of_eq W8.size.symm)
  replace K0 := K0.wr W8 (Or.inr sz_b6)
  replace V_b6 : Arv Z h8 b6 k6 .long (2 : Int32) [(.long q4), (.long (0 : Int64))] (.long (0 : Int64)) := Arv.set Ar7 qq7 Sz7 Ng7 Hs7 Gs7 rfl W8 0 rfl (Nat.le_of_ble_eq_true rfl)
  show Go _ _ _ (T8.setTop (mkF m 31 #[.val (.long q1), .second, .val (.long q2), .second, .val (.int p3), .val (.long q4), .second, .val (.int ((p3 &&& (2147483647 : Int32)) % (2147483647 : Int32))), .val (.ref b1), .unset, .unset, .unset, .unset] [(.ref b6)])) _
  refine Go.st (fun t k => XS.dup X8.here hx rfl (hb hby at_31) rfl rfl k) ?_
  refine Go.st (fun t k => XS.iconst X8.here hx rfl (hb hby at_32) k) ?_
  refine Go.st (fun t k => XS.lloadN X8.here hx rfl (hb hby at_33) rfl k) ?_
  obtain ⟨cl9, Ar9, qq9, Sz9, Ng9, Hs9, Gs9⟩ := id V_b6
  have hin9 : ¬ ((1 : Int32) < 0 ∨ cl9.slots.size ≤ ((1 : Int32)).toNatClampNeg) := inb_of Sz9 ⟨by decide, by decide⟩
  obtain ⟨T10, h10, X10, e10, W10, st10⟩ := stJ X8 hx hZ e8 Ar9 (j := (1 : Int32)) hin9 (g := (mkF m 34 #[.val (.long q1), .second, .val (.long q2), .second, .val (.int p3), .val (.long q4), .second, .val (.int ((p3 &&& (2147483647 : Int32)) % (2147483647 : Int32))), .val (.ref b1), .unset, .unset, .unset, .unset] [(.long q2), (.int 1), (.ref b6), (.ref b6)])) rfl rfl (hb hby at_34)
  refine Go.st st10 ?_
  have N10 := Fr.snoc X10 N8 g_b6
  replace V_b1 := V_b1.other W10 ne_b1_b6
  replace Z0 := Nat.le_trans Z0 (Nat.le_of_eq W10.size.symm)
  replace K0 := K0.wr W10 (Or.inr sz_b6)
  replace V_b6 : Arv Z h10 b6 k6 .long (2 : Int32) [(.long q4), (.long q2)] (.long (0 : Int64)) := Arv.set Ar9 qq9 Sz9 Ng9 Hs9 Gs9 rfl W10 1 rfl (Nat.le_of_ble_eq_true rfl)
  show Go _ _ _ (T10.setTop (mkF m 35 #[.val (.long q1), .second, .val (.long q2), .second, .val (.int p3), .val (.long q4), .second, .val (.int ((p3 &&& (2147483647 : Int32)) % (2147483647 : Int32))), .val (.ref b1), .unset, .unset, .unset, .unset] [(.ref b6)])) _
  refine Go.st (fun t k => XS.astore X10.here hx rfl (hb hby at_35) rfl rfl (l' := #[.val (.long q1), .second, .val (.long q2), .second, .val (.int p3), .val (.long q4), .second, .val (.int ((p3 &&& (2147483647 : Int32)) % (2147483647 : Int32))), .val (.ref b1), .val (.ref b6), .unset, .unset, .unset]) rfl k) ?_
  refine Go.st (fun t k => XS.aload X10.here hx rfl (hb hby at_37) rfl rfl k) ?_
  refine Go.st (fun t k => XS.iload X10.here hx rfl (hb hby at_39) rfl k) ?_
  obtain ⟨_, _, ⟨T11, L11, k11, n11⟩, -, X11, ⟨Lc11, hQ11, l11, y11, z11⟩, st11⟩ := Jvm.LawKit.callS X10 hx (y := (⟨"com/example/gloom/gloom/hashing/CellPositions", "offsetInBlock", "([JI)I"⟩ : MethodName)) hown (mvT hZ (wd2 hw)) (mvT hZ (wd3 hw)) (mvT hZ (wd4 hw)) (mvT hZ (wd5 hw)) (by decide) (backOf (W := 0) (rm1 l Z a0 hw [] b1 ((p3 &&& (2147483647 : Int32)) % (2147483647 : Int32)) k1 q1 q2 h10 n0 Z0 V_b1) hZ (wd5 hw) (wd4 hw) (by decide) (by decide)) (g := (mkF m 41 #[.val (.long q1), .second, .val (.long q2), .second, .val (.int p3), .val (.long q4), .second, .val (.int ((p3 &&& (2147483647 : Int32)) % (2147483647 : Int32))), .val (.ref b1), .val (.ref b6), .unset, .unset, .unset] [(.int ((p3 &&& (2147483647 : Int32)) % (2147483647 : Int32))), (.ref b1)])) rfl (by rw [hml]; rfl) (argsL := [(.ref b1), (.int ((p3 &&& (2147483647 : Int32)) % (2147483647 : Int32)))]) (rest := []) (lenOf pd1 rfl) rfl (by show 2 * 0 + _ ≤ _; exact Nat.le_of_eq rfl) (hb hby at_41) (fun _ _ => ⟨rfl, e10, (by decide : 2 + 0 ≤ _), (by decide : 4 + 0 ≤ _)⟩)
  dsimp only [Pt.U, Pt.locs, Pt.cells, Pt.slots] at X11 l11 y11 z11 st11 hQ11
  subst l11 y11 z11
  refine Go.st st11 ?_
  obtain ⟨rfl, N11q, e11⟩ := hQ11
  have N11 := Fr.app N10 N11q
  show Go _ _ _ (T11.setTop (mkF m 44 #[.val (.long q1), .second, .val (.long q2), .second, .val (.int p3), .val (.long q4), .second, .val (.int ((p3 &&& (2147483647 : Int32)) % (2147483647 : Int32))), .val (.ref b1), .val (.ref b6), .unset, .unset, .unset] [(.int ((((((t2_0 (q2 + (((((p3 &&& (2147483647 : Int32)) % (2147483647 : Int32)) + (1 : Int32)).toInt64) * (-7046029254386353131 : Int64)))) ^^^ (((t2_0 (q2 + (((((p3 &&& (2147483647 : Int32)) % (2147483647 : Int32)) + (1 : Int32)).toInt64) * (-7046029254386353131 : Int64)))).toUInt64 >>> ((27 : Int32) &&& 0x3f).toInt64.toUInt64).toInt64)) * (-7723592293110705685 : Int64)).toUInt64 >>> ((55 : Int32) &&& 0x3f).toInt64.toUInt64).toInt64).toInt32))])) _
  refine Go.st (fun t k => XS.istore X11.here hx rfl (hb hby at_44) rfl (l' := #[.val (.long q1), .second, .val (.long q2), .second, .val (.int p3), .val (.long q4), .second, .val (.int ((p3 &&& (2147483647 : Int32)) % (2147483647 : Int32))), .val (.ref b1), .val (.ref b6), .val (.int (t0_4 q2 p3)), .unset, .unset]) rfl k) ?_
  refine Go.st (fun t k => XS.aload X11.here hx rfl (hb hby at_46) rfl rfl k) ?_
  refine Go.st (fun t k => XS.iload X11.here hx rfl (hb hby at_48) rfl k) ?_
  obtain ⟨_, _, ⟨T12, L12, k12, n12⟩, -, X12, ⟨Lc12, hQ12, l12, y12, z12⟩, st12⟩ := Jvm.LawKit.callS X11 hx (y := (⟨"com/example/gloom/gloom/hashing/CellPositions", "offsetInBlock", "([JI)I"⟩ : MethodName)) hown (mvT hZ (wd2 hw)) (mvT hZ (wd3 hw)) (mvT hZ (wd4 hw)) (mvT hZ (wd5 hw)) (by decide) (backOf (W := 0) (rm1 l Z a0 hw [] b6 ((p3 &&& (2147483647 : Int32)) % (2147483647 : Int32)) k6 q4 q2 h10 n0 Z0 V_b6) hZ (wd5 hw) (wd4 hw) (by decide) (by decide)) (g := (mkF m 50 #[.val (.long q1), .second, .val (.long q2), .second, .val (.int p3), .val (.long q4), .second, .val (.int ((p3 &&& (2147483647 : Int32)) % (2147483647 : Int32))), .val (.ref b1), .val (.ref b6), .val (.int (t0_4 q2 p3)), .unset, .unset] [(.int ((p3 &&& (2147483647 : Int32)) % (2147483647 : Int32))), (.ref b6)])) rfl (by rw [hml]; rfl) (argsL := [(.ref b6), (.int ((p3 &&& (2147483647 : Int32)) % (2147483647 : Int32)))]) (rest := []) (lenOf pd1 rfl) rfl (by show 2 * 0 + _ ≤ _; exact Nat.le_of_eq rfl) (hb hby at_50) (fun _ _ => ⟨rfl, e11, (by decide : 2 + 0 ≤ _), (by decide : 4 + 0 ≤ _)⟩)
  dsimp only [Pt.U, Pt.locs, Pt.cells, Pt.slots] at X12 l12 y12 z12 st12 hQ12
  subst l12 y12 z12
  refine Go.st st12 ?_
  obtain ⟨rfl, N12q, e12⟩ := hQ12
  have N12 := Fr.app N11 N12q
  show Go _ _ _ (T12.setTop (mkF m 53 #[.val (.long q1), .second, .val (.long q2), .second, .val (.int p3), .val (.long q4), .second, .val (.int ((p3 &&& (2147483647 : Int32)) % (2147483647 : Int32))), .val (.ref b1), .val (.ref b6), .val (.int (t0_4 q2 p3)), .unset, .unset] [(.int ((((((t2_0 (q2 + (((((p3 &&& (2147483647 : Int32)) % (2147483647 : Int32)) + (1 : Int32)).toInt64) * (-7046029254386353131 : Int64)))) ^^^ (((t2_0 (q2 + (((((p3 &&& (2147483647 : Int32)) % (2147483647 : Int32)) + (1 : Int32)).toInt64) * (-7046029254386353131 : Int64)))).toUInt64 >>> ((27 : Int32) &&& 0x3f).toInt64.toUInt64).toInt64)) * (-7723592293110705685 : Int64)).toUInt64 >>> ((55 : Int32) &&& 0x3f).toInt64.toUInt64).toInt64).toInt32))])) _
  refine Go.st (fun t k => XS.istore X12.here hx rfl (hb hby at_53) rfl (l' := #[.val (.long q1), .second, .val (.long q2), .second, .val (.int p3), .val (.long q4), .second, .val (.int ((p3 &&& (2147483647 : Int32)) % (2147483647 : Int32))), .val (.ref b1), .val (.ref b6), .val (.int (t0_4 q2 p3)), .val (.int (t0_4 q2 p3)), .unset]) rfl k) ?_
  refine Go.st (fun t k => XS.lloadN X12.here hx rfl (hb hby at_55) rfl k) ?_
  refine Go.st (fun t k => XS.iload X12.here hx rfl (hb hby at_56) rfl k) ?_
  obtain ⟨_, _, ⟨T13, L13, k13, n13⟩, -, X13, ⟨Lc13, hQ13, l13, y13, z13⟩, st13⟩ := Jvm.LawKit.callS X12 hx (y := (⟨"com/example/gloom/gloom/hashing/CellPositionsOffsetInBlockPinLaw", "reference", "(JI)I"⟩ : MethodName)) hown (mvT hZ (wd12 hw)) (mvT hZ (wd13 hw)) (mvT hZ (wd14 hw)) (mvT hZ (wd15 hw)) (by decide) (backOf (W := 0) (rm3 l Z a0 hw [] q2 ((p3 &&& (2147483647 : Int32)) % (2147483647 : Int32)) h10 n0 Z0) hZ (wd15 hw) (wd14 hw) (by decide) (by decide)) (g := (mkF m 58 #[.val (.long q1), .second, .val (.long q2), .second, .val (.int p3), .val (.long q4), .second, .val (.int ((p3 &&& (2147483647 : Int32)) % (2147483647 : Int32))), .val (.ref b1), .val (.ref b6), .val (.int (t0_4 q2 p3)), .val (.int (t0_4 q2 p3)), .unset] [(.int ((p3 &&& (2147483647 : Int32)) % (2147483647 : Int32))), (.long q2)])) rfl (by rw [hml]; rfl) (argsL := [(.long q2), (.int ((p3 &&& (2147483647 : Int32)) % (2147483647 : Int32)))]) (rest := []) (lenOf pd2 rfl) rfl (by show 2 * 0 + _ ≤ _; exact Nat.le_of_eq rfl) (hb hby at_58) (fun _ _ => ⟨rfl, e12, (by decide : 2 + 0 ≤ _), (by decide : 4 + 0 ≤ _)⟩)
  dsimp only [Pt.U, Pt.locs, Pt.cells, Pt.slots] at X13 l13 y13 z13 st13 hQ13
  subst l13 y13 z13
  refine Go.st st13 ?_
  obtain ⟨rfl, N13q, e13⟩ := hQ13
  have N13 := Fr.app N12 N13q
  show Go _ _ _ (T13.setTop (mkF m 61 #[.val (.long q1), .second, .val (.long q2), .second, .val (.int p3), .val (.long q4), .second, .val (.int ((p3 &&& (2147483647 : Int32)) % (2147483647 : Int32))), .val (.ref b1), .val (.ref b6), .val (.int (t0_4 q2 p3)), .val (.int (t0_4 q2 p3)), .unset] [(.int ((((t3_3 q2 ((p3 &&& (2147483647 : Int32)) % (2147483647 : Int32))).toUInt64 >>> ((55 : Int32) &&& 0x3f).toInt64.toUInt64).toInt64).toInt32))])) _
  refine Go.st (fun t k => XS.istore X13.here hx rfl (hb hby at_61) rfl (l' := #[.val (.long q1), .second, .val (.long q2), .second, .val (.int p3), .val (.long q4), .second, .val (.int ((p3 &&& (2147483647 : Int32)) % (2147483647 : Int32))), .val (.ref b1), .val (.ref b6), .val (.int (t0_4 q2 p3)), .val (.int (t0_4 q2 p3)), .val (.int (t0_5 q2 p3))]) rfl k) ?_
  refine Go.st (fun t k => XS.iload X13.here hx rfl (hb hby at_63) rfl k) ?_
  refine Go.st (fun t k => XS.iload X13.here hx rfl (hb hby at_65) rfl k) ?_
  by_cases hc14 : (t0_4 q2 p3) = (t0_5 q2 p3)
  · refine Go.st (fun t k => XS.icmpNo X13.here hx rfl (hb hby at_67) rfl (teq hc14).2 k) ?_
    show Go _ _ _ (T13.setTop (mkF m 70 #[.val (.long q1), .second, .val (.long q2), .second, .val (.int p3), .val (.long q4), .second, .val (.int ((p3 &&& (2147483647 : Int32)) % (2147483647 : Int32))), .val (.ref b1), .val (.ref b6), .val (.int (t0_4 q2 p3)), .val (.int (t0_4 q2 p3)), .val (.int (t0_5 q2 p3))] [])) _
    refine Go.st (fun t k => XS.iload X13.here hx rfl (hb hby at_70) rfl k) ?_
    by_cases hc15 : (t0_4 q2 p3) < (0 : Int32)
    · refine Go.st (fun t k => XS.ifYes X13.here hx rfl (pc0 := 72) (pc' := 94) rfl (hb hby at_72) rfl ((if0 _ _).trans (tlt hc15).1) (by decide) (by decide) k) ?_
      show Go _ _ _ (T13.setTop (mkF m 94 #[.val (.long q1), .second, .val (.long q2), .second, .val (.int p3), .val (.long q4), .second, .val (.int ((p3 &&& (2147483647 : Int32)) % (2147483647 : Int32))), .val (.ref b1), .val (.ref b6), .val (.int (t0_4 q2 p3)), .val (.int (t0_4 q2 p3)), .val (.int (t0_5 q2 p3))] [])) _
      refine Go.st (fun t k => XS.iconst X13.here hx rfl (hb hby at_94) k) ?_
      obtain ⟨fs, hr, hrun, hended, hW, hsame⟩ := X13.leave (v := some (.int (0 : Int32))) (fun h => by rw [Bd.returns] at h; cases h)
      refine Go.fin (retN X13 hx (t := .boolean) Bd.returns (by simp) (hb hby at_95) hr) hrun hended ⟨_, _, rfl, ?_, ⟨_, rfl⟩, hW, hsame.mono (by decide) (by decide)⟩
      show Q0 Z q1 q2 p3 q4 h0 n0 _ T13.heap _
      rw [e13]
      exact ⟨(by unfold f0; simp only [if_pos hc14, if_pos hc15]), N13⟩
    · refine Go.st (fun t k => XS.ifNo X13.here hx rfl (hb hby at_72) rfl ((if0 _ _).trans (flt hc15).1) k) ?_
      show Go _ _ _ (T13.setTop (mkF m 75 #[.val (.long q1), .second, .val (.long q2), .second, .val (.int p3), .val (.long q4), .second, .val (.int ((p3 &&& (2147483647 : Int32)) % (2147483647 : Int32))), .val (.ref b1), .val (.ref b6), .val (.int (t0_4 q2 p3)), .val (.int (t0_4 q2 p3)), .val (.int (t0_5 q2 p3))] [])) _
      refine Go.st (fun t k => XS.iload X13.here hx rfl (hb hby at_75) rfl k) ?_
      refine Go.st (fun t k => XS.sipush X13.here hx rfl (hb hby at_77) k) ?_
      by_cases hc16 : (t0_4 q2 p3) < (512 : Int32)
      · refine Go.st (fun t k => XS.icmpNo X13.here hx rfl (hb hby at_80) rfl (tlt hc16).2.1 k) ?_
        show Go _ _ _ (T13.setTop (mkF m 83 #[.val (.long q1), .second, .val (.long q2), .second, .val (.int p3), .val (.long q4), .second, .val (.int ((p3 &&& (2147483647 : Int32)) % (2147483647 : Int32))), .val (.ref b1), .val (.ref b6), .val (.int (t0_4 q2 p3)), .val (.int (t0_4 q2 p3)), .val (.int (t0_5 q2 p3))] [])) _
        refine Go.st (fun t k => XS.iload X13.here hx rfl (hb hby at_83) rfl k) ?_
        refine Go.st (fun t k => XS.iload X13.here hx rfl (hb hby at_85) rfl k) ?_
        refine Go.st (fun t k => XS.icmpNo X13.here hx rfl (hb hby at_87) rfl (teq (rfl : (t0_4 q2 p3) = (t0_4 q2 p3))).2 k) ?_
        show Go _ _ _ (T13.setTop (mkF m 90 #[.val (.long q1), .second, .val (.long q2), .second, .val (.int p3), .val (.long q4), .second, .val (.int ((p3 &&& (2147483647 : Int32)) % (2147483647 : Int32))), .val (.ref b1), .val (.ref b6), .val (.int (t0_4 q2 p3)), .val (.int (t0_4 q2 p3)), .val (.int (t0_5 q2 p3))] [])) _
        refine Go.st (fun t k => XS.iconst X13.here hx rfl (hb hby at_90) k) ?_
        refine Go.st (fun t k => XS.goto X13.here hx rfl (pc0 := 91) (pc' := 95) rfl (hb hby at_91) (by decide) (by decide) k) ?_
        obtain ⟨fs, hr, hrun, hended, hW, hsame⟩ := X13.leave (v := some (.int (1 : Int32))) (fun h => by rw [Bd.returns] at h; cases h)
        refine Go.fin (retN X13 hx (t := .boolean) Bd.returns (by simp) (hb hby at_95) hr) hrun hended ⟨_, _, rfl, ?_, ⟨_, rfl⟩, hW, hsame.mono (by decide) (by decide)⟩
        show Q0 Z q1 q2 p3 q4 h0 n0 _ T13.heap _
        rw [e13]
        exact ⟨(by unfold f0; simp only [if_pos hc14, if_neg hc15, if_pos hc16]), N13⟩
      · refine Go.st (fun t k => XS.icmpYes X13.here hx rfl (pc0 := 80) (pc' := 94) rfl (hb hby at_80) rfl (flt hc16).2.1 (by decide) (by decide) k) ?_
        show Go _ _ _ (T13.setTop (mkF m 94 #[.val (.long q1), .second, .val (.long q2), .second, .val (.int p3), .val (.long q4), .second, .val (.int ((p3 &&& (2147483647 : Int32)) % (2147483647 : Int32))), .val (.ref b1), .val (.ref b6), .val (.int (t0_4 q2 p3)), .val (.int (t0_4 q2 p3)), .val (.int (t0_5 q2 p3))] [])) _
        refine Go.st (fun t k => XS.iconst X13.here hx rfl (hb hby at_94) k) ?_
        obtain ⟨fs, hr, hrun, hended, hW, hsame⟩ := X13.leave (v := some (.int (0 : Int32))) (fun h => by rw [Bd.returns] at h; cases h)
        refine Go.fin (retN X13 hx (t := .boolean) Bd.returns (by simp) (hb hby at_95) hr) hrun hended ⟨_, _, rfl, ?_, ⟨_, rfl⟩, hW, hsame.mono (by decide) (by decide)⟩
        show Q0 Z q1 q2 p3 q4 h0 n0 _ T13.heap _
        rw [e13]
        exact ⟨(by unfold f0; simp only [if_pos hc14, if_neg hc15, if_neg hc16]), N13⟩
  · refine Go.st (fun t k => XS.icmpYes X13.here hx rfl (pc0 := 67) (pc' := 94) rfl (hb hby at_67) rfl (feq hc14).2 (by decide) (by decide) k) ?_
    show Go _ _ _ (T13.setTop (mkF m 94 #[.val (.long q1), .second, .val (.long q2), .second, .val (.int p3), .val (.long q4), .second, .val (.int ((p3 &&& (2147483647 : Int32)) % (2147483647 : Int32))), .val (.ref b1), .val (.ref b6), .val (.int (t0_4 q2 p3)), .val (.int (t0_4 q2 p3)), .val (.int (t0_5 q2 p3))] [])) _
    refine Go.st (fun t k => XS.iconst X13.here hx rfl (hb hby at_94) k) ?_
    obtain ⟨fs, hr, hrun, hended, hW, hsame⟩ := X13.leave (v := some (.int (0 : Int32))) (fun h => by rw [Bd.returns] at h; cases h)
    refine Go.fin (retN X13 hx (t := .boolean) Bd.returns (by simp) (hb hby at_95) hr) hrun hended ⟨_, _, rfl, ?_, ⟨_, rfl⟩, hW, hsame.mono (by decide) (by decide)⟩
    show Q0 Z q1 q2 p3 q4 h0 n0 _ T13.heap _
    rw [e13]
    exact ⟨(by unfold f0; simp only [if_neg hc14]), N13⟩

theorem own_i64 (i : Int32) (h : i.toInt < 2147483647) : (i + (1 : Int32)).toInt64 = i.toInt64 + (1 : Int64) := by
  apply Int64.toInt_inj.mp
  have r := i.le_toInt
  rw [Int32.toInt_toInt64, Int64.toInt_add, Int32.toInt_add, Int32.toInt_toInt64, show (1 : Int32).toInt = 1 from rfl, show (1 : Int64).toInt = 1 from rfl]
  rw [Int.bmod_eq_of_le (by omega) (by omega), Int.bmod_eq_of_le (by omega) (by omega)]
theorem own_sh (v : Int64) : (((v ^^^ ((v.toUInt64 >>> ((31 : Int32) &&& 0x3f).toInt64.toUInt64).toInt64)).toUInt64 >>> ((55 : Int32) &&& 0x3f).toInt64.toUInt64).toInt64) = ((v.toUInt64 >>> ((55 : Int32) &&& 0x3f).toInt64.toUInt64).toInt64) := by
  apply Int64.toBitVec_inj.mp
  show (v.toBitVec ^^^ (v.toBitVec >>> 31)) >>> 55 = v.toBitVec >>> 55
  apply BitVec.eq_of_getLsbD_eq
  intro i hi
  simp only [BitVec.getLsbD_xor, BitVec.getLsbD_ushiftRight]
  rw [BitVec.getLsbD_of_ge _ (31 + (55 + i)) (by omega)]
  simp
theorem own_rng (v : Int64) : ¬ (((v.toUInt64 >>> ((55 : Int32) &&& 0x3f).toInt64.toUInt64).toInt64).toInt32) < (0 : Int32) ∧ (((v.toUInt64 >>> ((55 : Int32) &&& 0x3f).toInt64.toUInt64).toInt64).toInt32) < (512 : Int32) := by
  have e : ((((v.toUInt64 >>> ((55 : Int32) &&& 0x3f).toInt64.toUInt64).toInt64).toInt32)).toBitVec = (v.toBitVec >>> 55).signExtend 32 := rfl
  have e2 : (v.toBitVec >>> 55).signExtend 32 = (v.toBitVec >>> 55).setWidth 32 := BitVec.signExtend_eq_setWidth_of_le _ (by decide)
  have b : ((v.toBitVec >>> 55).setWidth 32).toNat < 512 := by
    rw [BitVec.toNat_setWidth, BitVec.toNat_ushiftRight, Nat.shiftRight_eq_div_pow]
    have := v.toBitVec.isLt
    omega
  generalize (((v.toUInt64 >>> ((55 : Int32) &&& 0x3f).toInt64.toUInt64).toInt64).toInt32) = z at *
  have t : z.toInt = (((v.toBitVec >>> 55).setWidth 32).toNat : Int) := by
    show z.toBitVec.toInt = _
    rw [e, e2, BitVec.toInt_eq_toNat_of_lt (by omega)]
  rw [Int32.lt_iff_toInt_lt, Int32.lt_iff_toInt_lt, t, show (0 : Int32).toInt = 0 from rfl, show (512 : Int32).toInt = 512 from rfl]
  omega
theorem own_eq (q : Int64) (p : Int32) : t0_4 q p = t0_5 q p := by
  obtain ⟨h1, h2⟩ := own_rem p 2147483647 2147483647 rfl (by decide)
  unfold t0_4 t0_5 t3_3
  rw [own_i64 _ h2]
  rw [own_sh]
  rfl
theorem own_plain (q1 q2 : Int64) (p3 : Int32) (q4 : Int64) : f0 q2 p3 = 1 := by
  unfold f0
  rw [if_pos (own_eq q2 p3)]
  have g : ¬ t0_4 q2 p3 < (0 : Int32) ∧ t0_4 q2 p3 < (512 : Int32) := by
    unfold t0_4
    exact own_rng _
  rw [if_neg g.1, if_pos g.2]

set_option maxRecDepth 65536 in
set_option maxHeartbeats 16000000 in
theorem comes_1 {Post : Tables → Env → Array Value → State → Outcome → State → Prop} (hpost : ∀ tb e args s v u, (limb_1_1.after args s (.returned v) u = true ∧ limb_1_2.after args s (.returned v) u = true ∧ True) → FrameEnd s (.returned v) u (Jvm.fieldLocs frame_1_writes args s ++ Jvm.arrayLocs frame_1_arrays args s ++ Jvm.staticLocs frame_1_statics s) 16 128 → Post tb e args s (.returned v) u) :
    ArmFor flags0 classFile x code maxLocals ret World_1 tables_1 room_1 Calls_1 rest_1 Pre_1 Post := by
  intro l hfl _ _ p e ha hc hk s m args below hf hA hF happ hP
  obtain ⟨hcalls, hrest, hpre⟩ := hP
  obtain ⟨-, -, -, hnamed, -, -, -, hat⟩ := (Spec.applies_iff hf).mp happ
  obtain ⟨hg, hn⟩ := and_e (Cond.before_iff.mp (show (Jvm.Cond.and given_1 narrow_1).before args s = true from hpre))
  obtain ⟨g1, g2⟩ := and_e hg
  obtain ⟨g3, g4⟩ := and_e g2
  obtain ⟨g5, g6⟩ := and_e g4
  obtain ⟨g7, g8⟩ := and_e g6
  obtain ⟨w0, w1, w2, w3, rfl⟩ : ∃ w0 w1 w2 w3 : Value, args = #[w0, w1, w2, w3] := by
    have hs : args.size = 4 := by simpa [Cond.value, given_1] using g1
    obtain ⟨L⟩ := args
    match L, hs with
    | [w0, w1, w2, w3], _ => exact ⟨w0, w1, w2, w3, rfl⟩
  have hw := fun d (hd : d ∈ tables_1) => atoms_spec (ws := Jvm.Cond.code x code maxLocals ret :: tables_1) hat d (List.mem_cons_of_mem _ hd)
  have hfit : Fit s := fun {y c} hc i hi => by
    obtain ⟨ha, rfl⟩ := Array.getElem?_eq_some_iff.mp hc
    have q := List.all_eq_true.mp ((Array.all_eq_true_iff_forall_mem.mp hF) _ (Array.getElem_mem ha)) i (List.mem_range.mpr hi)
    simpa [Array.getElem?_eq_getElem hi] using q
  obtain ⟨i0, ei0⟩ := isL_v g3
  obtain rfl : w0 = (.long i0) := Option.some.inj ei0
  obtain ⟨i1, ei1⟩ := isL_v g5
  obtain rfl : w1 = (.long i1) := Option.some.inj ei1
  obtain ⟨i2, ei2⟩ := is_v g7
  obtain rfl : w2 = (.int i2) := Option.some.inj ei2
  obtain ⟨i3, ei3⟩ := isL_v g8
  obtain rfl : w3 = (.long i3) := Option.some.inj ei3
  have hplain := own_plain i0 i1 i2 i3
  obtain ⟨n, o, h1, h2, h3, _, L, rfl, ⟨rfl, N⟩, hq⟩ := rm0 l s _ hw tables_1 i0 i1 i2 i3 s.heap s.heap.size (Nat.le_refl _)  p e ha hc hk s m _ below hf ((Spec.applies_iff_loose hf).mp happ).1 ⟨rfl, State.Warmed39.refl s, rfl⟩ trivial
  rw [hplain] at *
  refine ⟨n, _, h1, h2, h3, hpost _ _ _ _ _ _ ⟨Cond.after_iff.mpr rfl, Cond.after_iff.mpr (eq_i res_at (Term.int_eval (1)) rfl), trivial⟩ ⟨hq.1, hq.2.1, (hq.2.2.sift fun y hy => Or.inr (N y hy)).mono (by decide) (by decide)⟩⟩
theorem main_1_1 : Claimed_1_1 := comes_1 fun _ _ _ _ _ _ h hF => ⟨h.1, hF⟩
theorem main_1_2 : Claimed_1_2 := comes_1 fun _ _ _ _ _ _ h hF => ⟨h.2.1, hF⟩
end Jvm.Pilot.@@N@@
namespace Jvm.Pilot.@@N@@
open Jvm Jvm.ClassFile Sem Op Lib Jvm.Free Jvm.Stand Jvm.Pilot.@@N@@.Jvm.D
/-! MADE BY PROGRAM (witnessworld.py) out of the Statement's table words and the real class files: 11 classes; the members and pool entries that the words name. The judged class is class 1, her method 2. -/
namespace start1
open Jvm.ClassFile
def u (s : String) : CpInfo := .utf8 (stringToUtf16 s)
/-- a pool by its gaps: so many unusable entries, then the entry; so many at the end -/
def gap : Nat → List CpInfo → List CpInfo
  | 0, r => r
  | n + 1, r => .unusable :: gap n r
def poolList (es : List (Nat × CpInfo)) (last : Nat) : List CpInfo := es.foldr (fun e r => gap e.1 (e.2 :: r)) (gap last [])
def pool (es : List (Nat × CpInfo)) (last : Nat) : Array CpInfo := ⟨poolList es last⟩
def fileOf (pool : Array CpInfo) (this : Nat) (attrs : Array Attribute := #[]) (ms : Array MethodInfo := #[]) (fl : Nat := 33) (sup : Nat := 0) (ifs : Array Nat := #[]) (fds : Array FieldInfo := #[]) : ClassFile where
  minorVersion := 0
  majorVersion := 65
  constantPool := pool
  accessFlags := fl
  thisClass := this
  superClass := sup
  interfaces := ifs
  fields := fds
  methods := ms
  attributes := attrs
def plain (name : String) (sup : Option ClassId) : Class where
  name := name
  kind := .ordinary
  loader := none
  accessFlags := 33
  super := sup
  interfaces := #[]
  cf := none
  fields := #[]
  methods := #[]
  instanceTypes := #[]
  staticTypes := #[]
  resolved := #[]
  callSites := []
  init := .initialized
  statics := none
  mirror := none

def pool0 : Array CpInfo := pool [(5, u "<init>"), (0, u "()V"), (1, .class_ 10), (1, u "java/lang/Object")] 113

def k0m0 : Method := { name := "<init>", desc := "()V", sig := { parameters := [], returnType := none }, accessFlags := 1, code := none }
/-- java/lang/Object -/
def k0 : Class := { plain "java/lang/Object" none with
  accessFlags := 33
  interfaces := #[]
  cf := some (fileOf pool0 8 #[] #[{ accessFlags := 1, nameIndex := 5, descriptorIndex := 6, attributes := #[] }] 33 0 #[] #[])
  fields := #[]
  methods := #[k0m0]
  instanceTypes := #[]
  staticTypes := #[]
  resolved := Array.replicate 124 none
  statics := none }

def pool1 : Array CpInfo := pool [(2, .class_ 4), (1, u "java/lang/Object"), (0, u "<init>"), (0, u "()V"), (0, .long 11400714819323198485), (1, .long 13787848793156543929), (1, .long 10723151780598845931), (1, .integer 2147483647), (0, .methodref 15 16), (0, .class_ 17), (0, .nameAndType 18 19), (0, u "com/example/gloom/gloom/hashing/CellPositions"), (0, u "offsetInBlock"), (0, u "([JI)I"), (0, .methodref 21 22), (0, .class_ 23), (0, .nameAndType 24 25), (0, u "com/example/gloom/gloom/hashing/CellPositionsOffsetInBlockPinLaw"), (0, u "reference"), (0, u "(JI)I"), (2, u "law"), (0, u "(JJIJ)Z")] 5

def k1m0 : Method := { name := "<init>", desc := "()V", sig := { parameters := [], returnType := none }, accessFlags := 2, code := none }
def k1c1 : Code := { maxStack := 6, maxLocals := 5, code := method_2_code, exceptionTable := #[], attributes := #[] }
def k1m1 : Method := { name := "reference", desc := "(JI)I", sig := { parameters := [.long, .int], returnType := some .int }, accessFlags := 10, code := some k1c1 }
def k1c2 : Code := { maxStack := 5, maxLocals := 13, code := code, exceptionTable := #[], attributes := #[] }
def k1m2 : Method := { name := "law", desc := "(JJIJ)Z", sig := { parameters := [.long, .long, .int, .long], returnType := some .boolean }, accessFlags := 9, code := some k1c2 }
/-- com/example/gloom/gloom/hashing/CellPositionsOffsetInBlockPinLaw -/
def k1 : Class := { plain "com/example/gloom/gloom/hashing/CellPositionsOffsetInBlockPinLaw" (some 0) with
  accessFlags := 49
  interfaces := #[]
  cf := some (fileOf pool1 21 #[] #[{ accessFlags := 2, nameIndex := 5, descriptorIndex := 6, attributes := #[] }, { accessFlags := 10, nameIndex := 24, descriptorIndex := 25, attributes := #[] }, { accessFlags := 9, nameIndex := 28, descriptorIndex := 29, attributes := #[] }] 49 2 #[] #[])
  fields := #[]
  methods := #[k1m0, k1m1, k1m2]
  instanceTypes := #[]
  staticTypes := #[]
  resolved := Array.replicate 35 none
  statics := none }

def pool2 : Array CpInfo := pool [(2, .class_ 4), (1, u "java/lang/Object"), (0, u "<init>"), (0, u "()V"), (1, .class_ 10), (1, u "com/example/gloom/gloom/hashing/CellPositions"), (31, u "offsetInBlock"), (0, u "([JI)I"), (3, u "(J)J"), (4, .long 11400714819323198485), (1, .methodref 8 55), (0, .nameAndType 56 47), (0, u "splitMixAllButLast"), (2, .long 13787848793156543929), (1, .long 10723151780598845931), (6, u "BLOCK_CELLS"), (0, u "I"), (2, u "BLOCK_SHIFT"), (1, u "GOLDEN_GAMMA"), (0, u "J")] 9

def k2m0 : Method := { name := "<init>", desc := "()V", sig := { parameters := [], returnType := none }, accessFlags := 2, code := none }
def k2c1 : Code := { maxStack := 6, maxLocals := 2, code := prog_13_method_6_code, exceptionTable := #[], attributes := #[] }
def k2m1 : Method := { name := "offsetInBlock", desc := "([JI)I", sig := { parameters := [(.array .long), .int], returnType := some .int }, accessFlags := 9, code := some k2c1 }
def k2c2 : Code := { maxStack := 5, maxLocals := 2, code := prog_13_method_8_code, exceptionTable := #[], attributes := #[] }
def k2m2 : Method := { name := "splitMixAllButLast", desc := "(J)J", sig := { parameters := [.long], returnType := some .long }, accessFlags := 10, code := some k2c2 }
/-- com/example/gloom/gloom/hashing/CellPositions -/
def k2 : Class := { plain "com/example/gloom/gloom/hashing/CellPositions" (some 0) with
  accessFlags := 49
  interfaces := #[]
  cf := some (fileOf pool2 8 #[] #[{ accessFlags := 2, nameIndex := 5, descriptorIndex := 6, attributes := #[] }, { accessFlags := 9, nameIndex := 42, descriptorIndex := 43, attributes := #[] }, { accessFlags := 10, nameIndex := 56, descriptorIndex := 47, attributes := #[] }] 49 2 #[] #[{ accessFlags := 25, nameIndex := 68, descriptorIndex := 69, attributes := #[] }, { accessFlags := 26, nameIndex := 72, descriptorIndex := 69, attributes := #[] }, { accessFlags := 26, nameIndex := 74, descriptorIndex := 75, attributes := #[] }])
  fields := #[{ name := "BLOCK_CELLS", type := .int, accessFlags := 25, slot := 0, constantValue := 0 }, { name := "BLOCK_SHIFT", type := .int, accessFlags := 26, slot := 1, constantValue := 0 }, { name := "GOLDEN_GAMMA", type := .long, accessFlags := 26, slot := 2, constantValue := 0 }]
  methods := #[k2m0, k2m1, k2m2]
  instanceTypes := #[]
  staticTypes := #[.int, .int, .long]
  resolved := Array.replicate 85 none
  statics := none }

def pool3 : Array CpInfo := pool [(1, u "java/lang/Cloneable"), (0, .class_ 1), (0, u "java/lang/Object"), (0, .class_ 3)] 3

/-- java/lang/Cloneable -/
def k3 : Class := { plain "java/lang/Cloneable" (some 0) with
  accessFlags := 1537
  interfaces := #[]
  cf := some (fileOf pool3 2 #[] #[] 1537 4 #[] #[])
  fields := #[]
  methods := #[]
  instanceTypes := #[]
  staticTypes := #[]
  resolved := Array.replicate 8 none
  statics := none }

def pool4 : Array CpInfo := pool [(1, u "java/io/Serializable"), (0, .class_ 1), (0, u "java/lang/Object"), (0, .class_ 3)] 3

/-- java/io/Serializable -/
def k4 : Class := { plain "java/io/Serializable" (some 0) with
  accessFlags := 1537
  interfaces := #[]
  cf := some (fileOf pool4 2 #[] #[] 1537 4 #[] #[])
  fields := #[]
  methods := #[]
  instanceTypes := #[]
  staticTypes := #[]
  resolved := Array.replicate 8 none
  statics := none }

/-- the primitive byte -/
def k5 : Class := { plain "byte" none with kind := .primitive 'B', accessFlags := 0x411 }
/-- [B -/
def k6 : Class := { plain "[B" (some 0) with kind := .array 5 .byte, interfaces := #[3, 4], accessFlags := 1041 }

/-- the primitive int -/
def k7 : Class := { plain "int" none with kind := .primitive 'I', accessFlags := 0x411 }
/-- [I -/
def k8 : Class := { plain "[I" (some 0) with kind := .array 7 .int, interfaces := #[3, 4], accessFlags := 1041 }

/-- the primitive long -/
def k9 : Class := { plain "long" none with kind := .primitive 'J', accessFlags := 0x411 }
/-- [J -/
def k10 : Class := { plain "[J" (some 0) with kind := .array 9 .long, interfaces := #[3, 4], accessFlags := 1041 }

def heap : Heap := #[]
def classes : Array Class := #[k0, k1, k2, k3, k4, k5, k6, k7, k8, k9, k10]
def interned : List (Array UInt16 × Addr) := []
def slotsUsed : Nat := 0
def theMethod : MethodId := ⟨1, 2⟩
def args0 : Array Value := #[.long 5, .long 6, .int 7, .long 8]
def aboutOver (below : List Frame) : State where
  vm := { classes := classes, interned := interned.toArray }
  heap := heap
  slotsUsed := slotsUsed
  threads := #[{ frames := .invoking theMethod args0 :: below }]
def below0 : List Frame := [.native { method := ⟨0, 0⟩, args := #[] }]
def about1 : State := aboutOver below0
def p0 : Program := .bare "" "" ""
def e0 : Env := launch0.env 0 0 0
theorem w_frames : about1.frames = Frame.invoking theMethod args0 :: below0 := rfl
set_option maxRecDepth 65536 in
theorem w_args : argsFit about1.vm theMethod args0 = true := by decide +kernel
set_option maxRecDepth 65536 in
theorem w_heap : heapFits about1 = true := by decide +kernel
set_option maxRecDepth 65536 in
theorem w_runnable : about1.curStatus? = some .runnable := by decide +kernel
set_option maxRecDepth 65536 in
theorem w_alone : about1.alone = true := by decide +kernel
set_option maxRecDepth 65536 in
theorem w_named : about1.methodNamed? x = some theMethod := by decide +kernel
set_option maxRecDepth 65536 in
theorem w_hears : about1.hears theMethod below0 = true := by decide +kernel
set_option maxRecDepth 65536 in
theorem w_ripe : about1.ripe theMethod args0 below0 = true := by decide +kernel
theorem w_running : about1.status = .running := rfl
set_option maxRecDepth 65536 in
theorem w_room : about1.hasRoom e0.platform room_1 = true :=
  launch0.hasRoom_least _ room_1 (by decide +kernel) (by decide +kernel) (by decide +kernel) (by decide +kernel) (by decide +kernel) (by decide +kernel)
theorem allAtoms_all (ts : List Jvm.Cond) (a : Array Jvm.Value) (st : Jvm.State) : (allAtoms ts).before a st = ts.all (fun c => c.before a st) := by
  induction ts with
  | nil => rfl
  | cons c t ih =>
    show (Jvm.Cond.and c (allAtoms t)).before a st = _
    rw [Jvm.Cond.before_and, ih, List.all_cons]
def words1 : List Jvm.Cond := Jvm.Cond.code x code maxLocals ret :: tables_1
/-- a 'code' word, met by the world's own term for the bytes: nothing is compared byte by byte -/
theorem code_word {y : MethodName} {bytes : ByteArray} {mx : Nat} {rt : Option FieldType} {a : Array Value} {s : State} {m : MethodId} {meth : Method} {c : Code} (h1 : s.methodNamed? y = some m) (h2 : s.vm.method? m = some meth) (h3 : meth.code = some c) (h4 : c.code = bytes)
    (h5 : (c.maxLocals == mx && c.exceptionTable.isEmpty && decide (c.maxStack ≤ mostOperands) && decide (meth.sig.returnType = rt) && !meth.locks && decide (parseMethodDescriptor y.desc = some meth.sig)) = true) : (Jvm.Cond.code y bytes mx rt).before a s = true := by
  simp only [Bool.and_eq_true, beq_iff_eq, Bool.not_eq_true', decide_eq_true_eq] at h5
  obtain ⟨⟨⟨⟨⟨g1, g2⟩, g3⟩, g4⟩, g5⟩, g6⟩ := h5
  simp [Cond.before, Cond.holds, Cond.value, h1, h2, h3, h4, g1, g2, g3, g4, g5, g6]
def isCode : Jvm.Cond → Bool
  | .code _ _ _ _ => true
  | _ => false
theorem all_split {L : List Jvm.Cond} {P : Jvm.Cond → Bool} (h1 : L.all (fun c => isCode c || P c) = true) (h2 : ∀ c ∈ L.filter isCode, P c = true) : L.all P = true := by
  refine List.all_eq_true.mpr fun c hc => ?_
  have h := List.all_eq_true.mp h1 c hc
  rcases Bool.eq_false_or_eq_true (isCode c) with hi | hi
  · exact h2 c (List.mem_filter.mpr ⟨hc, hi⟩)
  · simpa [hi] using h
set_option maxRecDepth 65536 in
theorem w_c0 : (Jvm.Cond.code x code maxLocals ret).before args0 about1 = true := code_word (m := ⟨1, 2⟩) (meth := k1m2) (c := k1c2) (by decide +kernel) rfl rfl rfl (by decide +kernel)
set_option maxRecDepth 65536 in
theorem w_c1 : (Jvm.Cond.code ({ cls := "com/example/gloom/gloom/hashing/CellPositions", name := "offsetInBlock", desc := "([JI)I" } : Jvm.MethodName) prog_13_method_6_code (2 : Nat) (Option.some Jvm.ClassFile.FieldType.int)).before args0 about1 = true := code_word (m := ⟨2, 1⟩) (meth := k2m1) (c := k2c1) (by decide +kernel) rfl rfl rfl (by decide +kernel)
set_option maxRecDepth 65536 in
theorem w_c2 : (Jvm.Cond.code ({ cls := "com/example/gloom/gloom/hashing/CellPositions", name := "splitMixAllButLast", desc := "(J)J" } : Jvm.MethodName) prog_13_method_8_code (2 : Nat) (Option.some Jvm.ClassFile.FieldType.long)).before args0 about1 = true := code_word (m := ⟨2, 2⟩) (meth := k2m2) (c := k2c2) (by decide +kernel) rfl rfl rfl (by decide +kernel)
set_option maxRecDepth 65536 in
theorem w_c3 : (Jvm.Cond.code ({ cls := "com/example/gloom/gloom/hashing/CellPositionsOffsetInBlockPinLaw", name := "reference", desc := "(JI)I" } : Jvm.MethodName) method_2_code (5 : Nat) (Option.some Jvm.ClassFile.FieldType.int)).before args0 about1 = true := code_word (m := ⟨1, 1⟩) (meth := k1m1) (c := k1c1) (by decide +kernel) rfl rfl rfl (by decide +kernel)
def codes1 : List Jvm.Cond := [Jvm.Cond.code x code maxLocals ret, Jvm.Cond.code ({ cls := "com/example/gloom/gloom/hashing/CellPositions", name := "offsetInBlock", desc := "([JI)I" } : Jvm.MethodName) prog_13_method_6_code (2 : Nat) (Option.some Jvm.ClassFile.FieldType.int), Jvm.Cond.code ({ cls := "com/example/gloom/gloom/hashing/CellPositions", name := "splitMixAllButLast", desc := "(J)J" } : Jvm.MethodName) prog_13_method_8_code (2 : Nat) (Option.some Jvm.ClassFile.FieldType.long), Jvm.Cond.code ({ cls := "com/example/gloom/gloom/hashing/CellPositionsOffsetInBlockPinLaw", name := "reference", desc := "(JI)I" } : Jvm.MethodName) method_2_code (5 : Nat) (Option.some Jvm.ClassFile.FieldType.int)]
set_option maxRecDepth 65536 in
theorem codes_eq : words1.filter isCode = codes1 := rfl
theorem w_codes : ∀ c ∈ words1.filter isCode, c.before args0 about1 = true := by
  rw [codes_eq]
  intro c hc
  simp only [codes1, List.mem_cons, List.not_mem_nil, or_false] at hc
  rcases hc with rfl | rfl | rfl | rfl
  · exact w_c0
  · exact w_c1
  · exact w_c2
  · exact w_c3
set_option maxRecDepth 65536 in
theorem w_t1 : words1.all (fun c => isCode c || c.before args0 about1) = true := by decide +kernel
theorem w_tables : (allAtoms (Jvm.Cond.code x code maxLocals ret :: tables_1)).before args0 about1 = true := by
  rw [allAtoms_all]
  show words1.all (fun c => c.before args0 about1) = true
  refine all_split ?_ w_codes
  rw [w_t1]
set_option maxRecDepth 65536 in
theorem w_case : (Jvm.Cond.and given_1 narrow_1).before args0 about1 = true := by decide +kernel
theorem w_applies : (headSpec (Jvm.Cond.code x code maxLocals ret :: tables_1) room_1).applies x e0.platform about1 = true :=
  (Spec.applies_iff w_frames).mpr ⟨w_running, w_runnable, w_alone, w_named, w_hears, w_ripe, w_room, w_tables⟩
theorem atStart : AtStart classFile x code maxLocals ret World_1 tables_1 room_1 Calls_1 rest_1 Pre_1 launch0 p0 e0 about1 theMethod args0 below0 :=
  ⟨lists_1, trivial, launch0.admits_env _ _ _, launch0.least_env, fairChoices_fair.cas, fairChoices_fair.clock, w_frames, w_args, w_heap, w_applies, trivial, trivial, w_case⟩
end start1
theorem witness_1 : WitnessClaimed_1 := ⟨start1.p0, start1.e0, start1.about1, start1.theMethod, start1.args0, start1.below0, start1.atStart⟩
end Jvm.Pilot.@@N@@
