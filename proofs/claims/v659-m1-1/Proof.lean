import JvmDerived
import JvmDerived.Pilot.@@N@@Statement
import JvmDerived.Pilot.@@N@@Code
set_option linter.unusedVariables false
set_option linter.unusedSimpArgs false
namespace Jvm.Pilot.@@N@@
open Jvm Jvm.ClassFile Sem Op Lib Jvm.Free Jvm.Stand Jvm.LawKit Jvm.RoadKit Bundle Jvm.Pilot.@@N@@.Jvm.D

def Go (tb : Tables) (e : Env) (below : List Frame) (a : State) (P : Outcome → State → Prop) : Prop := ∃ s₂ o, Steps tb e below a s₂ ∧ s₂.status = .running ∧ Ended s₂ below o ∧ P o s₂
theorem Go.st {tb : Tables} {e : Env} {below : List Frame} {a b : State} {P : Outcome → State → Prop} (h : ∀ t, Steps tb e below b t → Steps tb e below a t) (k : Go tb e below b P) : Go tb e below a P := by
  obtain ⟨s, o, h1, h2⟩ := k
  exact ⟨s, o, h _ h1, h2⟩
theorem Go.tr {tb : Tables} {e : Env} {below : List Frame} {a b : State} {P : Outcome → State → Prop} (h : Steps tb e below a b) (k : Go tb e below b P) : Go tb e below a P := Go.st (fun _ q => h.trans q) k
theorem Go.fr {tb : Tables} {e : Env} {below : List Frame} {T : State} {g g' : JFrame} {P : Outcome → State → Prop} (q : g = g') (k : Go tb e below (T.setTop g') P) : Go tb e below (T.setTop g) P := q ▸ k
theorem Go.fin {tb : Tables} {e : Env} {below : List Frame} {a s₂ : State} {o : Outcome} {P : Outcome → State → Prop} (hs : Steps tb e below a s₂) (hr : s₂.status = .running) (he : Ended s₂ below o) (hP : P o s₂) : Go tb e below a P := ⟨_, _, hs, hr, he, hP⟩
theorem exa_ns {Z : State} {h : Heap} {a : Addr} {C : String} (F : Exa Z h a C) : ∃ c : Cell, h[a]? = some c ∧ c.vm.isStatics = false := by
  obtain ⟨c, _, h1, -, -, h4, -⟩ := F
  exact ⟨c, h1, h4⟩
theorem fld_ns {Z : State} {h : Heap} {a : Addr} {C n d : String} {v : Value} (F : Fld Z h a C n d v) : ∃ c : Cell, h[a]? = some c ∧ c.vm.isStatics = false := by
  obtain ⟨c, _, _, _, _, h1, -, -, -, h4, -⟩ := F
  exact ⟨c, h1, h4⟩
theorem arv_ns {Z : State} {h : Heap} {a : Addr} {k : ClassId} {ty : FieldType} {n : Int32} {vs : List Value} {d : Value} (F : Arv Z h a k ty n vs d) : ∃ c : Cell, h[a]? = some c ∧ c.vm.isStatics = false := by
  obtain ⟨c, A, -⟩ := F
  exact ⟨c, A.1, A.plain⟩
theorem sta_keep {Z : State} {h h' : Heap} {C n d : String} {v : Value} {ws : List Addr} (F : Sta Z h C n d v) (K : Keep h h' ws) (q : ∀ x ∈ ws, ∃ c : Cell, h[x]? = some c ∧ c.vm.isStatics = false) : Sta Z h' C n d v := by
  obtain ⟨cf, i, k, f, st, cell, h1, h2, h3, h4, h5, h6, h7⟩ := F
  refine ⟨cf, i, k, f, st, cell, h1, h2, h3, h4, K.2.1 st cell h5 fun z => ?_, h6, h7⟩
  obtain ⟨c, q1, q2⟩ := q st z
  cases q1.symm.trans h5
  rw [q2] at h6
  cases h6
theorem own_mvM {Z s : State} {a0 args : Array Value} {own host : String} {index : Nat} {y : MethodName} (hZ : Z.Warmed39 s.vm) (w : (Cond.methodLinkNest own index y host).before a0 Z = true) : (Cond.methodLinkNest own index y host).before args s = true := by
  have h1 := (Cond.methodLinkNest_wide hZ w :)
  exact h1
theorem own_selp {s : State} {args : Array Value} {y : MethodName} {n : Nat} (wi : (Cond.instantiable y.cls n).before args s = true) (hp : s.PrivateAt y) (hi : (Cond.instanceMethod y).before args s = true) (hy : y.cls ≠ "java/lang/invoke/MethodHandle" ∧ y.cls ≠ "java/lang/invoke/VarHandle") : (Cond.selects y.cls y y).before args s = true := by
  obtain ⟨c, k, h1, h2, -, h4, -⟩ := Cond.instantiable_spec wi
  simp only [Bool.or_eq_false_iff] at h4
  exact selects_self_of_private h1 h2 h4.1 hp hi hy
theorem own_ne32 {x k : Int32} {a : Int} (ha : k.toInt = a) (h : ¬ x = k) : a ≠ x.toInt := fun e => h (Int32.toInt_inj.mp (e.symm.trans ha.symm))
theorem own_nn (x : Int32) : 0 ≤ (x &&& (2147483647 : Int32)).toInt := (c_andS x 2147483647).2.2 (by decide)
theorem own_rem (x : Int32) (k : Int32) (d : Int) (hd : k.toInt = d) (h0 : 0 < d) : 0 ≤ ((x &&& (2147483647 : Int32)) % k).toInt ∧ ((x &&& (2147483647 : Int32)) % k).toInt < d := by
  have h := own_nn x
  rw [Int32.toInt_mod, hd]
  exact ⟨Int.tmod_nonneg _ h, Int.tmod_lt_of_pos _ h0⟩
theorem own_remb (x : Int32) (k : Int32) (d : Int) (hd : k.toInt = d) (h0 : 0 < d) : ¬ ((x &&& (2147483647 : Int32)) % k) < 0 ∧ ((x &&& (2147483647 : Int32)) % k) < k := by
  obtain ⟨h1, h2⟩ := own_rem x k d hd h0
  rw [Int32.lt_iff_toInt_lt, Int32.lt_iff_toInt_lt, hd]
  exact ⟨Int.not_lt.mpr h1, h2⟩
def own_at (xs : List Int32) (j : Int32) : Int32 := xs.getD j.toNatClampNeg 0
theorem own_atv (xs : List Int32) (j : Int32) : (xs.map Value.int).getD j.toNatClampNeg (.int 0) = .int (own_at xs j) := by
  unfold own_at
  generalize j.toNatClampNeg = n
  induction xs generalizing n with
  | nil => rfl
  | cons a r ih => cases n with
    | zero => rfl
    | succ n => simpa using ih n
theorem own_setl {l : List Value} {k n : Nat} {v : Value} (h : l.length = n) : (l.set k v).length = n := by rw [List.length_set]; exact h
theorem own_setg {l : List Value} {k : Nat} {v d : Value} (h : k < l.length) : (l.set k v).getD k d = v := by simp [List.getD, List.getElem?_set, h]
theorem own_setn {l : List Value} {k i : Nat} {v d : Value} (h : i ≠ k) : (l.set k v).getD i d = l.getD i d := by simp [List.getD, List.getElem?_set, Ne.symm h]
theorem own_lt_of {l : List Value} {n : Nat} {j z : Int32} (h : l.length = n) (q : ¬ j < 0 ∧ j < z) (hz : z.toNatClampNeg = n := by decide) : j.toNatClampNeg < l.length := by
  rw [h, ← hz]
  obtain ⟨q1, q2⟩ := q
  rw [Int32.lt_iff_toInt_lt] at q1 q2
  have : (0 : Int32).toInt = 0 := rfl
  simp only [Int32.toNatClampNeg]
  omega
theorem own_eqi {args : Array Value} {s : State} {t : Term} {k : Int32} (h : (Jvm.Cond.eq t (.int k)).value args s none s [] = some true) : t.eval args s none [] s = some (.int k) := by
  simp only [Cond.value, Term.eval] at h
  cases ht : t.eval args s none [] s with
  | none => simp [ht] at h
  | some x => cases x <;> simp_all
set_option maxRecDepth 65536
set_option maxHeartbeats 16000000
abbrev Pr (Z : State) (h0 : Heap) (A : Array Value) : Array Value → State → Prop := fun a U => a = A ∧ Z.Warmed39 U.vm ∧ U.heap = h0
abbrev Tr : Program → Env → List Frame → State → Array Value → Prop := fun _ _ _ _ _ => True
def HW (a0 : Array Value) (Z : State) : Prop := ∀ d ∈ tables_1, d.before a0 Z = true
theorem mw {Z : State} {a0 : Array Value} (hw : HW a0 Z) (i : Nat) {d : Jvm.Cond} (h : tables_1[i]? = some d) : d.before a0 Z = true := hw _ (List.mem_of_getElem? h)
theorem G {tb : Tables} {e : Env} {below : List Frame} {a b : State} {P : Outcome → State → Prop} (h : ∀ t, Steps tb e below b t → Steps tb e below a t) (k : Go tb e below b P) : Go tb e below a P := Go.st h k
abbrev us : Slot := .unset
abbrev vi (x : Int32) : Slot := .val (.int x)
abbrev vj (x : Int64) : Slot := .val (.long x)
abbrev vr (x : Addr) : Slot := .val (.ref x)
abbrev Rm (a b c d : Nat) : Room := { frames := a, cells := b, slots := c, locals := d }
abbrev RC : String := "com/example/tripletype/tripletype/Relation"
abbrev BC : String := "com/example/tripletype/tripletype/Relation$Builder"
abbrev cB1 : ByteArray := jdk_29_method_69_code
abbrev cB2 : ByteArray := prog_9_method_1_code
abbrev cB3 : ByteArray := object_method_1_code
abbrev cB4 : ByteArray := prog_9_method_2_code
abbrev cB5 : ByteArray := prog_9_method_3_code
abbrev cB6 : ByteArray := jdk_65_method_124_code
abbrev cB7 : ByteArray := jdk_65_method_4_code
abbrev cB8 : ByteArray := jdk_2529_method_12_code
abbrev cB9 : ByteArray := jdk_2529_method_13_code
abbrev cB10 : ByteArray := jdk_2529_method_15_code
abbrev cB11 : ByteArray := jdk_65_method_123_code
abbrev cB12 : ByteArray := prog_8_method_1_code
abbrev cB13 : ByteArray := prog_8_method_3_code
abbrev cB14 : ByteArray := prog_8_method_8_code
abbrev cB15 : ByteArray := jdk_65_method_58_code
abbrev cB16 : ByteArray := jdk_65_method_30_code
abbrev cB17 : ByteArray := jdk_65_method_59_code
abbrev cB18 : ByteArray := prog_8_method_4_code
abbrev cB19 : ByteArray := prog_8_method_5_code
abbrev cB20 : ByteArray := prog_8_method_6_code
def pk (f t : Int32) : Int64 := ((f.toInt64 <<< ((32 : Int32) &&& 0x3f).toInt64) ||| t.toInt64)
def gi (s : Int64) : Int32 := ((((s.toUInt64 >>> ((32 : Int32) &&& 0x3f).toInt64.toUInt64).toInt64).toInt32) + (1 : Int32))
def z9 : List Int32 := [0, 0, 0, 0, 0, 0, 0, 0, 0]
def lset (X : List Int32) (j v : Int32) : List Int32 := X.set j.toNatClampNeg v
def bump (j : Int32) (X : List Int32) : List Int32 := lset X j (own_at X j + (1 : Int32))
def pre (j k : Int32) (X : List Int32) : List Int32 := lset X j (own_at X j + own_at X k)
def pr8 (X : List Int32) : List Int32 := pre 8 7 (pre 7 6 (pre 6 5 (pre 5 4 (pre 4 3 (pre 3 2 (pre 2 1 (pre 1 0 X)))))))
theorem lset_len {X : List Int32} {j v : Int32} {n : Nat} (h : X.length = n) : (lset X j v).length = n := by
 unfold lset
 rw [List.length_set]
 exact h
theorem own_at8 (P : Int32 → Prop) (hP : ∀ j : Fin 8, P (Int32.ofInt (j.1 : Int))) (x : Int32) (h : 0 ≤ x.toInt ∧ x.toInt ≤ 7) : P x := by
 have := hP ⟨x.toInt.toNat, by omega⟩
 rw [Int.toNat_of_nonneg (by omega), Int32.ofInt_toInt] at this
 exact this
def cnt (a p : Int32) : Int32 := if a < p then 1 else 0
theorem own_X1 : ∀ a p : Fin 8, own_at (pr8 (bump (Int32.ofInt (a.1 : Int) + 1) z9)) (Int32.ofInt (p.1 : Int)) = cnt (Int32.ofInt (a.1 : Int)) (Int32.ofInt (p.1 : Int)) ∧ own_at (pr8 (bump (Int32.ofInt (a.1 : Int) + 1) z9)) (Int32.ofInt (p.1 : Int) + 1) = cnt (Int32.ofInt (a.1 : Int)) (Int32.ofInt (p.1 : Int) + 1) := by decide +kernel
theorem pk_nat (f t : Int32) (hf : 0 ≤ f.toInt ∧ f.toInt ≤ 7) (ht : 0 ≤ t.toInt) : (pk f t).toBitVec.toNat = f.toInt.toNat * 4294967296 + t.toInt.toNat := by
 have e : t.toInt64.toBitVec.toNat = t.toInt.toNat := by
  have h1 : t.toInt64.toInt = t.toInt := Int32.toInt_toInt64 t
  have h2 : t.toInt64.toBitVec.toInt = t.toInt64.toInt := rfl
  rw [h1] at h2
  have := BitVec.toInt_eq_toNat_cond t.toInt64.toBitVec
  have l1 := t.toInt64.toBitVec.isLt
  have l2 := Int32.toInt_lt t
  split at this <;> omega
 have g : (f.toInt64 <<< ((32 : Int32) &&& 0x3f).toInt64).toBitVec.toNat = f.toInt.toNat <<< 32 := own_at8 (fun f => (f.toInt64 <<< ((32 : Int32) &&& 0x3f).toInt64).toBitVec.toNat = f.toInt.toNat <<< 32) (by decide +kernel) f hf
 have l2 := Int32.toInt_lt t
 show ((f.toInt64 <<< ((32 : Int32) &&& 0x3f).toInt64).toBitVec ||| t.toInt64.toBitVec).toNat = _
 rw [BitVec.toNat_or, g, e, ← Nat.shiftLeft_add_eq_or_of_lt (by omega), Nat.shiftLeft_eq]
theorem pk_int (f t : Int32) (hf : 0 ≤ f.toInt ∧ f.toInt ≤ 7) (ht : 0 ≤ t.toInt) : (pk f t).toInt = f.toInt * 4294967296 + t.toInt := by
 have h := pk_nat f t hf ht
 have l2 := Int32.toInt_lt t
 show (pk f t).toBitVec.toInt = _
 rw [BitVec.toInt_eq_toNat_of_lt (by omega), h]
 omega
theorem gi_pk (f t : Int32) (hf : 0 ≤ f.toInt ∧ f.toInt ≤ 7) (ht : 0 ≤ t.toInt) : gi (pk f t) = f + 1 := by
 have h := pk_nat f t hf ht
 have l2 := Int32.toInt_lt t
 unfold gi
 congr 1
 apply Int32.toInt_inj.mp
 rw [Int64.toInt_toInt32]
 have e : (((pk f t).toUInt64 >>> ((32 : Int32) &&& 0x3f).toInt64.toUInt64).toInt64).toBitVec.toNat = f.toInt.toNat := by
  show ((pk f t).toBitVec >>> (32 % 64)).toNat = _
  rw [BitVec.toNat_ushiftRight, h, Nat.shiftRight_eq_div_pow]
  show (f.toInt.toNat * 4294967296 + t.toInt.toNat) / 4294967296 = _
  omega
 have e2 : (((pk f t).toUInt64 >>> ((32 : Int32) &&& 0x3f).toInt64.toUInt64).toInt64).toInt = f.toInt := by
  show (((pk f t).toUInt64 >>> ((32 : Int32) &&& 0x3f).toInt64.toUInt64).toInt64).toBitVec.toInt = _
  rw [BitVec.toInt_eq_toNat_of_lt (by omega), e]
  omega
 rw [e2, Int.bmod_eq_of_le (by omega) (by omega)]
theorem lo_pk (f t : Int32) (hf : 0 ≤ f.toInt ∧ f.toInt ≤ 7) (ht : 0 ≤ t.toInt) : (pk f t).toInt32 = t := by
 have h := pk_int f t hf ht
 have l2 := Int32.toInt_lt t
 apply Int32.toInt_inj.mp
 rw [Int64.toInt_toInt32, h, Int.bmod_def]
 split <;> omega


theorem own_mset {Z : State} {h : Heap} {a : Addr} {k : ClassId} {n : Int32} {X : List Int32} {j v : Int32} {d : Value} (V : Arv Z h a k .int n ((List.map Value.int X).set j.toNatClampNeg (.int v)) d) : Arv Z h a k .int n (List.map Value.int (lset X j v)) d := by
 unfold lset
 rw [List.map_set]
 exact V
theorem own_mlt {X : List Int32} {j : Int32} (h : X.length = 9) (q : ¬ j < 0 ∧ j < (9 : Int32)) : j.toNatClampNeg < (List.map Value.int X).length := by
 rw [List.length_map, h]
 obtain ⟨q1, q2⟩ := q
 rw [Int32.lt_iff_toInt_lt, show (0 : Int32).toInt = 0 from rfl] at q1
 rw [Int32.lt_iff_toInt_lt, show (9 : Int32).toInt = 9 from rfl] at q2
 simp only [Int32.toNatClampNeg]
 omega
theorem own_ltl (i m ln : Int32) (h : i.toInt < m.toInt) (hl : ¬ ln < m) : i < ln := by
 rw [Int32.lt_iff_toInt_lt] at hl ⊢
 omega
theorem d1_0 : decode cB1 0 = .ok (.iload_n 0, 1) := by decide +kernel
theorem d1_1 : decode cB1 1 = .ok (.iload_n 1, 1) := by decide +kernel
theorem d1_2 : decode cB1 2 = .ok (.if_icmp .gt 7, 3) := by decide +kernel
theorem d1_9 : decode cB1 9 = .ok (.iload_n 1, 1) := by decide +kernel
theorem d1_10 : decode cB1 10 = .ok (.ireturn, 1) := by decide +kernel
theorem d1_5 : decode cB1 5 = .ok (.iload_n 0, 1) := by decide +kernel
theorem d1_6 : decode cB1 6 = .ok (.goto 4, 3) := by decide +kernel
theorem pn0 : plainFor (⟨"java/lang/Math", "min", "(II)I"⟩ : MethodName) = true := by decide +kernel
def f1 (p1 : Int32) (p2 : Int32) : Int32 := (if p2 < p1 then p2 else p1)
def Q1 (Z : State) (p1 : Int32) (p2 : Int32) (h0 : Heap) (n0 : Nat) (v : Option Value) (h : Heap) (L : List Loc) : Prop := v = some (.int (f1 p1 p2)) ∧ Fr n0 L ∧ h = h0
theorem ef1 (m : MethodId) (x0 : Int32) (x1 : Int32) : entryFrame m #[(.int x0), (.int x1)] 2 = mkF m 0 #[.val (.int x0), .val (.int x1)] [] := by first | (simp [entryFrame, mkF, argsToLocals, Value.category]; done) | rfl
theorem rm1 (l : Launch) (Z : State) (a0 : Array Value) (hw : HW a0 Z) (ws : List Jvm.Cond) (p1 : Int32) (p2 : Int32) (h0 : Heap) (n0 : Nat) (Z0 : n0 ≤ h0.size) :
  MetFree l (⟨"java/lang/Math", "min", "(II)I"⟩ : MethodName) (head1 (Jvm.Cond.code (⟨"java/lang/Math", "min", "(II)I"⟩ : MethodName) cB1 2 (some .int) :: ws) (Rm 0 0 0 0)) (Pr Z h0 #[(.int p1), (.int p2)]) Tr (fun _ U o U' => ∃ v L, o = .returned v ∧ Q1 Z p1 p2 h0 n0 v U'.heap L ∧ FrameEnd U o U' L (Rm 0 0 0 0).cells (Rm 0 0 0 0).slots) := by
 refine MetFree.of_bodySF (Jvm.Free.JP.mathPlain rfl (by decide +kernel)) hisR ?_
 intro p e s m args below meth c s₁ Bd hml0 hP hK
 obtain ⟨rfl, hZ, hh⟩ := hP
 have hx := Bd.exec
 have hby := Bd.bytes
 have hml : c.maxLocals = 2 := hml0
 have hown : s.vm.findClass "java/lang/Math" = some m.cls := findClass_of_methodNamed Bd.named
 have hnm := (name_of_methodNamed Bd.named Bd.method).1
 have X0 : Stand p l e (Rm 0 0 0 0) s m #[(.int p1), (.int p2)] below meth c s₁ [] 0 0 := Stand.of_body Bd
 have e0 : s₁.heap = h0 := by rw [← hh, Bd.state]; rfl
 have N0 := Fr.nil n0
 have K0 : Keep h0 h0 [] := Keep.refl h0 _
 refine G (P := fun o U' => ∃ v L, o = .returned v ∧ Q1 Z p1 p2 h0 n0 v U'.heap L ∧ FrameEnd s o U' L (Rm 0 0 0 0).cells (Rm 0 0 0 0).slots) (fun t k => castTop (ef1 m p1 p2) k) ?_
 show Go _ _ _ (s₁.setTop (mkF m 0 #[vi p1, vi p2] [])) _
 refine G (fun t k => XS.iloadN X0.here hx rfl (hb hby d1_0) rfl (XS.iloadN X0.here hx rfl (hb hby d1_1) rfl k)) ?_
 by_cases hc1 : p2 < p1
 ·refine G (fun t k => XS.icmpYes X0.here hx rfl (pc0 := 2) (pc' := 9) rfl (hb hby d1_2) rfl (tlt hc1).2.2.1 (by decide) (by decide) (XS.iloadN X0.here hx rfl (hb hby d1_9) rfl k)) ?_
  obtain ⟨fs, hr, hrun, hended, hW, hsame⟩ := X0.leave (v := some (.int p2)) (fun h => by rw [Bd.returns] at h; cases h)
  refine Go.fin (retOut X0 hx Bd.returns rfl (Or.inl ⟨rfl, Or.inl rfl, _, rfl⟩) (hb hby d1_10) hr) hrun hended ⟨_, _, rfl, ?_, ⟨_, rfl⟩, hW, hsame.mono (by decide) (by decide)⟩
  show Q1 Z p1 p2 h0 n0 _ s₁.heap _
  rw [e0]
  exact ⟨(by unfold f1; simp only [if_pos hc1]), N0, rfl⟩
 ·refine G (fun t k => XS.icmpNo X0.here hx rfl (hb hby d1_2) rfl (flt hc1).2.2.1 (XS.iloadN X0.here hx rfl (hb hby d1_5) rfl (XS.goto X0.here hx rfl (pc0 := 6) (pc' := 10) rfl (hb hby d1_6) (by decide) (by decide) k))) ?_
  obtain ⟨fs, hr, hrun, hended, hW, hsame⟩ := X0.leave (v := some (.int p1)) (fun h => by rw [Bd.returns] at h; cases h)
  refine Go.fin (retOut X0 hx Bd.returns rfl (Or.inl ⟨rfl, Or.inl rfl, _, rfl⟩) (hb hby d1_10) hr) hrun hended ⟨_, _, rfl, ?_, ⟨_, rfl⟩, hW, hsame.mono (by decide) (by decide)⟩
  show Q1 Z p1 p2 h0 n0 _ s₁.heap _
  rw [e0]
  exact ⟨(by unfold f1; simp only [if_neg hc1]), N0, rfl⟩
theorem d2_0 : decode cB2 0 = .ok (.aload_n 0, 1) := by decide +kernel
theorem d2_1 : decode cB2 1 = .ok (.invokespecial 1, 3) := by decide +kernel
theorem wd11 {Z a0} (hw : HW a0 Z) : (Jvm.Cond.methodLink BC (1 : Nat) ⟨"java/lang/Object", "<init>", "()V"⟩).before a0 Z = true := mw hw 11 rfl
theorem wd13 {Z a0} (hw : HW a0 Z) : (Jvm.Cond.code ⟨"java/lang/Object", "<init>", "()V"⟩ cB3 (1 : Nat) (Option.none : Option Jvm.ClassFile.FieldType)).before a0 Z = true := mw hw 13 rfl
theorem wd12 {Z a0} (hw : HW a0 Z) : (Jvm.Cond.instanceMethod ⟨"java/lang/Object", "<init>", "()V"⟩).before a0 Z = true := mw hw 12 rfl
theorem d2_4 : decode cB2 4 = .ok (.aload_n 0, 1) := by decide +kernel
theorem d2_5 : decode cB2 5 = .ok (.bipush 16, 2) := by decide +kernel
theorem d2_7 : decode cB2 7 = .ok (.newarray .long, 2) := by decide +kernel
theorem wd14 {Z a0} (hw : HW a0 Z) : (Jvm.Cond.arrayClass Jvm.ClassFile.FieldType.long).before a0 Z = true := mw hw 14 rfl
theorem d2_9 : decode cB2 9 = .ok (.putfield 7, 3) := by decide +kernel
theorem wd15 {Z a0} (hw : HW a0 Z) : (Jvm.Cond.fieldLink BC (7 : Nat) BC "pairs" "[J").before a0 Z = true := mw hw 15 rfl
theorem wd16 {Z a0} (hw : HW a0 Z) : (Jvm.Cond.lays BC BC "pairs" "[J").before a0 Z = true := mw hw 16 rfl
theorem wd6 {Z a0} (hw : HW a0 Z) : (Jvm.Cond.instantiable BC (2 : Nat)).before a0 Z = true := mw hw 6 rfl
theorem wd23 {Z a0} (hw : HW a0 Z) : (Jvm.Cond.lays BC BC "size" "I").before a0 Z = true := mw hw 23 rfl
theorem d2_12 : decode cB2 12 = .ok (.return_, 1) := by decide +kernel
theorem pn1 : plainName BC = true := by first | (simp [plainName, overriddenIn]; done) | decide +kernel
def Q2 (Z : State) (a1 : Addr) (u_a1_pairs : Value) (h0 : Heap) (n0 : Nat) (v : Option Value) (h : Heap) (L : List Loc) : Prop := ∃ x2_0 : Addr, ∃ k_x2_0 : ClassId, v = none ∧ Fr n0 L ∧ Keep h0 h [a1] ∧ n0 ≤ x2_0 ∧ h0.size ≤ x2_0 ∧ Exa Z h a1 BC ∧ Fld Z h a1 BC "size" "I" (.int (0 : Int32)) ∧ Fld Z h a1 BC "pairs" "[J" (.ref x2_0) ∧ Arv Z h x2_0 k_x2_0 .long (16 : Int32) [(.long (0 : Int64)), (.long (0 : Int64)), (.long (0 : Int64)), (.long (0 : Int64)), (.long (0 : Int64)), (.long (0 : Int64)), (.long (0 : Int64)), (.long (0 : Int64)), (.long (0 : Int64)), (.long (0 : Int64)), (.long (0 : Int64)), (.long (0 : Int64)), (.long (0 : Int64)), (.long (0 : Int64)), (.long (0 : Int64)), (.long (0 : Int64))] (.long (0 : Int64))
theorem ef2 (m : MethodId) (x0 : Addr) : entryFrame m #[(.ref x0)] 1 = mkF m 0 #[.val (.ref x0)] [] := by first | (simp [entryFrame, mkF, argsToLocals, Value.category]; done) | rfl
theorem sn0 {Z a0} (hw : HW a0 Z) {b a : Addr} : b ≠ a ∨ RoadKit.slotOf Z BC "size" "I" ≠ RoadKit.slotOf Z BC "pairs" "[J" := Or.inr (slot_ne (Or.inl (wd23 hw)) (Or.inl (wd16 hw)) (by decide) (t := .int) (t' := (.array .long)) (by decide) (by decide))
theorem rm2 (l : Launch) (Z : State) (a0 : Array Value) (hw : HW a0 Z) (ws : List Jvm.Cond) (a1 : Addr) (u_a1_pairs : Value) (h0 : Heap) (n0 : Nat) (Z0 : n0 ≤ h0.size) (E_a1 : Exa Z h0 a1 BC) (F_a1_s : Fld Z h0 a1 BC "size" "I" (.int (0 : Int32))) (F_a1_p : Fld Z h0 a1 BC "pairs" "[J" u_a1_pairs) (g_a1 : n0 ≤ a1) :
  MetFree l (⟨BC, "<init>", "()V"⟩ : MethodName) (head1 (Jvm.Cond.code (⟨BC, "<init>", "()V"⟩ : MethodName) cB2 1 none :: ws) (Rm 1 1 16 12)) (Pr Z h0 #[(.ref a1)]) Tr (fun _ U o U' => ∃ v L, o = .returned v ∧ Q2 Z a1 u_a1_pairs h0 n0 v U'.heap L ∧ FrameEnd U o U' L (Rm 1 1 16 12).cells (Rm 1 1 16 12).slots) := by
 refine MetFree.of_bodySF (plainFor_of_name pn1) hisR ?_
 intro p e s m args below meth c s₁ Bd hml0 hP hK
 obtain ⟨rfl, hZ, hh⟩ := hP
 have hx := Bd.exec
 have hby := Bd.bytes
 have hml : c.maxLocals = 1 := hml0
 have hown : s.vm.findClass BC = some m.cls := findClass_of_methodNamed Bd.named
 have hnm := (name_of_methodNamed Bd.named Bd.method).1
 have X0 : Stand p l e (Rm 1 1 16 12) s m #[(.ref a1)] below meth c s₁ [] 0 0 := Stand.of_body Bd
 have e0 : s₁.heap = h0 := by rw [← hh, Bd.state]; rfl
 have N0 := Fr.nil n0
 have K0 : Keep h0 h0 [a1] := Keep.refl h0 _
 refine G (P := fun o U' => ∃ v L, o = .returned v ∧ Q2 Z a1 u_a1_pairs h0 n0 v U'.heap L ∧ FrameEnd s o U' L (Rm 1 1 16 12).cells (Rm 1 1 16 12).slots) (fun t k => castTop (ef2 m a1) k) ?_
 show Go _ _ _ (s₁.setTop (mkF m 0 #[vr a1] [])) _
 refine G (fun t k => XS.aloadN X0.here hx rfl (hb hby d2_0) rfl rfl k) ?_
 obtain ⟨T1, X1, e1, st1⟩ := initO X0 hx hZ hown (wd11 hw) (wd12 hw) (wd13 hw) e0 (g := (mkF m 1 #[vr a1] [(.ref a1)])) rfl (by rw [hml]; rfl) rfl (hb hby d2_1) (by decide) (W := 0) (by show 2 * 0 + _ ≤ _; exact Nat.le_of_eq rfl) (by decide)
 refine G st1 ?_
 refine G (fun t k => XS.aloadN X1.here hx rfl (hb hby d2_4) rfl rfl (XS.bipush X1.here hx rfl (hb hby d2_5) k)) ?_
 obtain ⟨T2, h2, k2, X2, e2, E2, A2, st2⟩ := newP X1 hx hZ (aty := .long) (wd14 hw) e1 (g := (mkF m 7 #[vr a1] [(.int 16), (.ref a1)])) rfl (hb hby d2_7) rfl (by decide) (cap := 16) (by decide) (by decide) (by decide) (by decide)
 obtain ⟨b2, g2⟩ : ∃ z, z = h0.size := ⟨_, rfl⟩
 rw [← g2] at A2 st2
 refine G st2 ?_
 have ne_a1_b2 : a1 ≠ b2 := Nat.ne_of_lt (Nat.lt_of_lt_of_le E_a1.lt (Nat.le_of_eq g2.symm))
 have g_b2 : n0 ≤ b2 := Nat.le_trans Z0 (Nat.le_of_eq g2.symm)
 have sz_b2 : h0.size ≤ b2 := Nat.le_trans K0.1 (Nat.le_of_eq g2.symm)
 replace E_a1 := E_a1.ext E2
 replace F_a1_s := F_a1_s.ext E2
 replace F_a1_p := F_a1_p.ext E2
 replace K0 := K0.ext E2
 replace Z0 := Nat.le_trans Z0 E2.1
 have V_b2 : Arv Z h2 b2 k2 .long (16 : Int32) [(.long (0 : Int64)), (.long (0 : Int64)), (.long (0 : Int64)), (.long (0 : Int64)), (.long (0 : Int64)), (.long (0 : Int64)), (.long (0 : Int64)), (.long (0 : Int64)), (.long (0 : Int64)), (.long (0 : Int64)), (.long (0 : Int64)), (.long (0 : Int64)), (.long (0 : Int64)), (.long (0 : Int64)), (.long (0 : Int64)), (.long (0 : Int64))] (.long (0 : Int64)) := (Arv.new A2 (by decide)).pad (pad_rep [] (.long (0 : Int64)) 16)
 obtain ⟨T3, h3, X3, e3, W3, st3⟩ := putF X2 hx hZ hown (host := "") (Or.inl (wd15 hw)) Via.refl e2 F_a1_p E_a1 (Or.inl (wd16 hw)) (wd6 hw) (ty := (.array .long)) (by decide) rfl rfl (g := (mkF m 9 #[vr a1] [(.ref b2), (.ref a1)])) rfl rfl (hb hby d2_9)
 refine G st3 ?_
 have N3 := Fr.snoc X3 N0 g_a1
 replace E_a1 := E_a1.wr W3
 replace F_a1_s := F_a1_s.other W3 (sn0 hw)
 replace F_a1_p := F_a1_p.same W3
 replace V_b2 := V_b2.other W3 (Ne.symm ne_a1_b2)
 replace Z0 := Nat.le_trans Z0 (Nat.le_of_eq W3.size.symm)
 replace K0 := K0.wr W3 (Or.inl (by simp))
 obtain ⟨fs, hr, hrun, hended, hW, hsame⟩ := X3.leave (v := none) (fun _ => rfl)
 refine Go.fin (X3.returnOut hx Bd.returns (hb hby d2_12) hr) hrun hended ⟨_, _, rfl, ?_, ⟨_, rfl⟩, hW, hsame.mono (by decide) (by decide)⟩
 show Q2 Z a1 u_a1_pairs h0 n0 _ T3.heap _
 rw [e3]
 exact ⟨b2, k2, rfl, N3, K0, g_b2, sz_b2, E_a1, F_a1_s, F_a1_p, V_b2⟩
theorem d4_0 : decode cB4 0 = .ok (.aload_n 0, 1) := by decide +kernel
theorem d4_1 : decode cB4 1 = .ok (.getfield 13, 3) := by decide +kernel
theorem wd22 {Z a0} (hw : HW a0 Z) : (Jvm.Cond.fieldLink BC (13 : Nat) BC "size" "I").before a0 Z = true := mw hw 22 rfl
theorem d4_4 : decode cB4 4 = .ok (.aload_n 0, 1) := by decide +kernel
theorem d4_5 : decode cB4 5 = .ok (.getfield 7, 3) := by decide +kernel
theorem d4_8 : decode cB4 8 = .ok (.arraylength, 1) := by decide +kernel
theorem d4_9 : decode cB4 9 = .ok (.if_icmp .ne 20, 3) := by decide +kernel
theorem d4_29 : decode cB4 29 = .ok (.aload_n 0, 1) := by decide +kernel
theorem d4_30 : decode cB4 30 = .ok (.getfield 7, 3) := by decide +kernel
theorem d4_33 : decode cB4 33 = .ok (.aload_n 0, 1) := by decide +kernel
theorem d4_34 : decode cB4 34 = .ok (.dup, 1) := by decide +kernel
theorem d4_35 : decode cB4 35 = .ok (.getfield 13, 3) := by decide +kernel
theorem d4_38 : decode cB4 38 = .ok (.dup_x1, 1) := by decide +kernel
theorem d4_39 : decode cB4 39 = .ok (.iconst 1, 1) := by decide +kernel
theorem d4_40 : decode cB4 40 = .ok (.iadd, 1) := by decide +kernel
theorem d4_41 : decode cB4 41 = .ok (.putfield 13, 3) := by decide +kernel
theorem d4_44 : decode cB4 44 = .ok (.iload_n 1, 1) := by decide +kernel
theorem d4_45 : decode cB4 45 = .ok (.i2l, 1) := by decide +kernel
theorem d4_46 : decode cB4 46 = .ok (.bipush 32, 2) := by decide +kernel
theorem d4_48 : decode cB4 48 = .ok (.lshl, 1) := by decide +kernel
theorem d4_49 : decode cB4 49 = .ok (.iload_n 2, 1) := by decide +kernel
theorem d4_50 : decode cB4 50 = .ok (.i2l, 1) := by decide +kernel
theorem d4_51 : decode cB4 51 = .ok (.lor, 1) := by decide +kernel
theorem d4_52 : decode cB4 52 = .ok (.lastore, 1) := by decide +kernel
theorem d4_53 : decode cB4 53 = .ok (.return_, 1) := by decide +kernel
def Q4_0 (Z : State) (a1 : Addr) (p2 : Int32) (p3 : Int32) (w_P : Addr) (k_P : ClassId) (h0 : Heap) (n0 : Nat) (v : Option Value) (h : Heap) (L : List Loc) : Prop := v = none ∧ Fr n0 L ∧ Keep h0 h [a1, w_P] ∧ Exa Z h a1 BC ∧ Fld Z h a1 BC "size" "I" (.int (1 : Int32)) ∧ Fld Z h a1 BC "pairs" "[J" (.ref w_P) ∧ Arv Z h w_P k_P .long (16 : Int32) [(.long (pk p2 p3)), (.long (0 : Int64)), (.long (0 : Int64)), (.long (0 : Int64)), (.long (0 : Int64)), (.long (0 : Int64)), (.long (0 : Int64)), (.long (0 : Int64)), (.long (0 : Int64)), (.long (0 : Int64)), (.long (0 : Int64)), (.long (0 : Int64)), (.long (0 : Int64)), (.long (0 : Int64)), (.long (0 : Int64)), (.long (0 : Int64))] (.long (0 : Int64))
theorem ef4_0 (m : MethodId) (x0 : Addr) (x1 : Int32) (x2 : Int32) : entryFrame m #[(.ref x0), (.int x1), (.int x2)] 3 = mkF m 0 #[.val (.ref x0), .val (.int x1), .val (.int x2)] [] := by first | (simp [entryFrame, mkF, argsToLocals, Value.category]; done) | rfl
theorem sn1 {Z a0} (hw : HW a0 Z) {b a : Addr} : b ≠ a ∨ RoadKit.slotOf Z BC "pairs" "[J" ≠ RoadKit.slotOf Z BC "size" "I" := Or.inr (slot_ne (Or.inl (wd16 hw)) (Or.inl (wd23 hw)) (by decide) (t := (.array .long)) (t' := .int) (by decide) (by decide))
theorem rm4_0 (l : Launch) (Z : State) (a0 : Array Value) (hw : HW a0 Z) (ws : List Jvm.Cond) (a1 : Addr) (p2 : Int32) (p3 : Int32) (w_P : Addr) (k_P : ClassId) (h0 : Heap) (n0 : Nat) (Z0 : n0 ≤ h0.size) (E_a1 : Exa Z h0 a1 BC) (F_a1_s : Fld Z h0 a1 BC "size" "I" (.int (0 : Int32))) (F_a1_p : Fld Z h0 a1 BC "pairs" "[J" (.ref w_P)) (V_P : Arv Z h0 w_P k_P .long (16 : Int32) [(.long (0 : Int64)), (.long (0 : Int64)), (.long (0 : Int64)), (.long (0 : Int64)), (.long (0 : Int64)), (.long (0 : Int64)), (.long (0 : Int64)), (.long (0 : Int64)), (.long (0 : Int64)), (.long (0 : Int64)), (.long (0 : Int64)), (.long (0 : Int64)), (.long (0 : Int64)), (.long (0 : Int64)), (.long (0 : Int64)), (.long (0 : Int64))] (.long (0 : Int64))) (ne_w_P_a1 : w_P ≠ a1) (g_a1 : n0 ≤ a1) (g_w_P : n0 ≤ w_P) :
  MetFree l (⟨BC, "add", "(II)V"⟩ : MethodName) (head1 (Jvm.Cond.code (⟨BC, "add", "(II)V"⟩ : MethodName) cB4 3 none :: ws) (Rm 0 0 0 0)) (Pr Z h0 #[(.ref a1), (.int p2), (.int p3)]) Tr (fun _ U o U' => ∃ v L, o = .returned v ∧ Q4_0 Z a1 p2 p3 w_P k_P h0 n0 v U'.heap L ∧ FrameEnd U o U' L (Rm 0 0 0 0).cells (Rm 0 0 0 0).slots) := by
 refine MetFree.of_bodySF (plainFor_of_name pn1) hisR ?_
 intro p e s m args below meth c s₁ Bd hml0 hP hK
 obtain ⟨rfl, hZ, hh⟩ := hP
 have hx := Bd.exec
 have hby := Bd.bytes
 have hml : c.maxLocals = 3 := hml0
 have hown : s.vm.findClass BC = some m.cls := findClass_of_methodNamed Bd.named
 have hnm := (name_of_methodNamed Bd.named Bd.method).1
 have X0 : Stand p l e (Rm 0 0 0 0) s m #[(.ref a1), (.int p2), (.int p3)] below meth c s₁ [] 0 0 := Stand.of_body Bd
 have e0 : s₁.heap = h0 := by rw [← hh, Bd.state]; rfl
 have N0 := Fr.nil n0
 have K0 : Keep h0 h0 [a1, w_P] := Keep.refl h0 _
 refine G (P := fun o U' => ∃ v L, o = .returned v ∧ Q4_0 Z a1 p2 p3 w_P k_P h0 n0 v U'.heap L ∧ FrameEnd s o U' L (Rm 0 0 0 0).cells (Rm 0 0 0 0).slots) (fun t k => castTop (ef4_0 m a1 p2 p3) k) ?_
 show Go _ _ _ (s₁.setTop (mkF m 0 #[vr a1, vi p2, vi p3] [])) _
 refine G (fun t k => XS.aloadN X0.here hx rfl (hb hby d4_0) rfl rfl k) ?_
 obtain ⟨T1, X1, e1, st1⟩ := getF X0 hx hZ hown (host := "") (Or.inl (wd22 hw)) Via.refl e0 F_a1_s (g := (mkF m 1 #[vr a1, vi p2, vi p3] [(.ref a1)])) rfl rfl (hb hby d4_1)
 refine G st1 ?_
 refine G (fun t k => XS.aloadN X1.here hx rfl (hb hby d4_4) rfl rfl k) ?_
 obtain ⟨T2, X2, e2, st2⟩ := getF X1 hx hZ hown (host := "") (Or.inl (wd15 hw)) Via.refl e1 F_a1_p (g := (mkF m 5 #[vr a1, vi p2, vi p3] [(.ref a1), (.int 0)])) rfl rfl (hb hby d4_5)
 refine G st2 ?_
 obtain ⟨cl3, Ar3, -, Sz3, Ng3, -, -⟩ := id V_P
 refine G (fun t k => X2.arraylength hx (by rw [e2]; exact Ar3.1) (State.isArrayOf_alike hZ.alike Ar3.2.1) (g := (mkF m 8 #[vr a1, vi p2, vi p3] [(.ref w_P), (.int 0)])) rfl rfl (hb hby d4_8) _ k) ?_
 rw [len_of Sz3 Ng3]
 clear Ng3 Sz3 Ar3 cl3
 refine G (fun t k => XS.icmpYes X2.here hx rfl (pc0 := 9) (pc' := 29) rfl (hb hby d4_9) rfl (feq (by decide : ¬ ((0 : Int32) = (16 : Int32)))).2 (by decide) (by decide) (XS.aloadN X2.here hx rfl (hb hby d4_29) rfl rfl k)) ?_
 show Go _ _ _ (T2.setTop (mkF m 30 #[vr a1, vi p2, vi p3] [(.ref a1)])) _
 obtain ⟨T4, X4, e4, st4⟩ := getF X2 hx hZ hown (host := "") (Or.inl (wd15 hw)) Via.refl e2 F_a1_p (g := (mkF m 30 #[vr a1, vi p2, vi p3] [(.ref a1)])) rfl rfl (hb hby d4_30)
 refine G st4 ?_
 refine G (fun t k => XS.aloadN X4.here hx rfl (hb hby d4_33) rfl rfl (XS.dup X4.here hx rfl (hb hby d4_34) rfl rfl k)) ?_
 obtain ⟨T5, X5, e5, st5⟩ := getF X4 hx hZ hown (host := "") (Or.inl (wd22 hw)) Via.refl e4 F_a1_s (g := (mkF m 35 #[vr a1, vi p2, vi p3] [(.ref a1), (.ref a1), (.ref w_P)])) rfl rfl (hb hby d4_35)
 refine G st5 ?_
 refine G (fun t k => XS.dupX1 X5.here hx rfl (hb hby d4_38) rfl rfl rfl (XS.iconst X5.here hx rfl (hb hby d4_39) (XS.iadd X5.here hx rfl (hb hby d4_40) rfl k))) ?_
 show Go _ _ _ (T5.setTop (mkF m 41 #[vr a1, vi p2, vi p3] [(.int 1), (.ref a1), (.int 0), (.ref w_P)])) _
 obtain ⟨T6, h6, X6, e6, W6, st6⟩ := putF X5 hx hZ hown (host := "") (Or.inl (wd22 hw)) Via.refl e5 F_a1_s E_a1 (Or.inl (wd23 hw)) (wd6 hw) (ty := .int) (by decide) rfl rfl (g := (mkF m 41 #[vr a1, vi p2, vi p3] [(.int 1), (.ref a1), (.int 0), (.ref w_P)])) rfl rfl (hb hby d4_41)
 refine G st6 ?_
 have N6 := Fr.snoc X6 N0 g_a1
 replace E_a1 := E_a1.wr W6
 replace F_a1_s := F_a1_s.same W6
 replace F_a1_p := F_a1_p.other W6 (sn1 hw)
 replace V_P := V_P.other W6 ne_w_P_a1
 replace Z0 := Nat.le_trans Z0 (Nat.le_of_eq W6.size.symm)
 replace K0 := K0.wr W6 (Or.inl (by simp))
 refine G (fun t k => XS.iloadN X6.here hx rfl (hb hby d4_44) rfl (XS.i2l X6.here hx rfl (hb hby d4_45) rfl (XS.bipush X6.here hx rfl (hb hby d4_46) (XS.lshl X6.here hx rfl (hb hby d4_48) rfl (XS.iloadN X6.here hx rfl (hb hby d4_49) rfl (XS.i2l X6.here hx rfl (hb hby d4_50) rfl k)))))) ?_
 show Go _ _ _ (T6.setTop (mkF m 51 #[vr a1, vi p2, vi p3] [(.long (p3.toInt64)), (.long ((p2.toInt64) <<< ((32 : Int32) &&& 0x3f).toInt64)), (.int 0), (.ref w_P)])) _
 refine G (fun t k => XS.lor X6.here hx rfl (hb hby d4_51) rfl k) ?_
 show Go _ _ _ (T6.setTop (mkF m 52 #[vr a1, vi p2, vi p3] [(.long (((p2.toInt64) <<< ((32 : Int32) &&& 0x3f).toInt64) ||| (p3.toInt64))), (.int 0), (.ref w_P)])) _
 show Go _ _ _ (T6.setTop (mkF m 52 #[vr a1, vi p2, vi p3] [(.long (pk p2 p3)), (.int 0), (.ref w_P)])) _
 obtain ⟨cl7, Ar7, qq7, Sz7, Ng7, Hs7, Gs7⟩ := id V_P
 have hin7 := inb_of (j := (0 : Int32)) (c := cl7) Sz7 ⟨by decide, by decide⟩
 obtain ⟨T8, h8, X8, e8, W8, st8⟩ := stJ X6 hx hZ e6 Ar7 (j := (0 : Int32)) hin7 (g := (mkF m 52 #[vr a1, vi p2, vi p3] [(.long (pk p2 p3)), (.int 0), (.ref w_P)])) rfl rfl (hb hby d4_52)
 refine G st8 ?_
 have N8 := Fr.snoc X8 N6 g_w_P
 replace E_a1 := E_a1.wr W8
 replace F_a1_s := F_a1_s.other W8 (Or.inl (Ne.symm ne_w_P_a1))
 replace F_a1_p := F_a1_p.other W8 (Or.inl (Ne.symm ne_w_P_a1))
 replace Z0 := Nat.le_trans Z0 (Nat.le_of_eq W8.size.symm)
 replace K0 := K0.wr W8 (Or.inl (by simp))
 replace V_P : Arv Z h8 w_P k_P .long (16 : Int32) [(.long (pk p2 p3)), (.long (0 : Int64)), (.long (0 : Int64)), (.long (0 : Int64)), (.long (0 : Int64)), (.long (0 : Int64)), (.long (0 : Int64)), (.long (0 : Int64)), (.long (0 : Int64)), (.long (0 : Int64)), (.long (0 : Int64)), (.long (0 : Int64)), (.long (0 : Int64)), (.long (0 : Int64)), (.long (0 : Int64)), (.long (0 : Int64))] (.long (0 : Int64)) := Arv.set Ar7 qq7 Sz7 Ng7 Hs7 Gs7 rfl W8 0 rfl (Nat.le_of_ble_eq_true rfl)
 clear hin7 Gs7 Hs7 Ng7 Sz7 qq7 Ar7 cl7
 obtain ⟨fs, hr, hrun, hended, hW, hsame⟩ := X8.leave (v := none) (fun _ => rfl)
 refine Go.fin (X8.returnOut hx Bd.returns (hb hby d4_53) hr) hrun hended ⟨_, _, rfl, ?_, ⟨_, rfl⟩, hW, hsame.mono (by decide) (by decide)⟩
 show Q4_0 Z a1 p2 p3 w_P k_P h0 n0 _ T8.heap _
 rw [e8]
 exact ⟨rfl, N8, K0, E_a1, F_a1_s, F_a1_p, V_P⟩
def Q4_1 (Z : State) (a1 : Addr) (p2 : Int32) (p3 : Int32) (w_P : Addr) (t0 : Int64) (k_P : ClassId) (h0 : Heap) (n0 : Nat) (v : Option Value) (h : Heap) (L : List Loc) : Prop := v = none ∧ Fr n0 L ∧ Keep h0 h [a1, w_P] ∧ Exa Z h a1 BC ∧ Fld Z h a1 BC "size" "I" (.int (2 : Int32)) ∧ Fld Z h a1 BC "pairs" "[J" (.ref w_P) ∧ Arv Z h w_P k_P .long (16 : Int32) [(.long t0), (.long (pk p2 p3)), (.long (0 : Int64)), (.long (0 : Int64)), (.long (0 : Int64)), (.long (0 : Int64)), (.long (0 : Int64)), (.long (0 : Int64)), (.long (0 : Int64)), (.long (0 : Int64)), (.long (0 : Int64)), (.long (0 : Int64)), (.long (0 : Int64)), (.long (0 : Int64)), (.long (0 : Int64)), (.long (0 : Int64))] (.long (0 : Int64))
theorem ef4_1 (m : MethodId) (x0 : Addr) (x1 : Int32) (x2 : Int32) : entryFrame m #[(.ref x0), (.int x1), (.int x2)] 3 = mkF m 0 #[.val (.ref x0), .val (.int x1), .val (.int x2)] [] := by first | (simp [entryFrame, mkF, argsToLocals, Value.category]; done) | rfl
theorem rm4_1 (l : Launch) (Z : State) (a0 : Array Value) (hw : HW a0 Z) (ws : List Jvm.Cond) (a1 : Addr) (p2 : Int32) (p3 : Int32) (w_P : Addr) (t0 : Int64) (k_P : ClassId) (h0 : Heap) (n0 : Nat) (Z0 : n0 ≤ h0.size) (E_a1 : Exa Z h0 a1 BC) (F_a1_s : Fld Z h0 a1 BC "size" "I" (.int (1 : Int32))) (F_a1_p : Fld Z h0 a1 BC "pairs" "[J" (.ref w_P)) (V_P : Arv Z h0 w_P k_P .long (16 : Int32) [(.long t0), (.long (0 : Int64)), (.long (0 : Int64)), (.long (0 : Int64)), (.long (0 : Int64)), (.long (0 : Int64)), (.long (0 : Int64)), (.long (0 : Int64)), (.long (0 : Int64)), (.long (0 : Int64)), (.long (0 : Int64)), (.long (0 : Int64)), (.long (0 : Int64)), (.long (0 : Int64)), (.long (0 : Int64)), (.long (0 : Int64))] (.long (0 : Int64))) (ne_w_P_a1 : w_P ≠ a1) (g_a1 : n0 ≤ a1) (g_w_P : n0 ≤ w_P) :
  MetFree l (⟨BC, "add", "(II)V"⟩ : MethodName) (head1 (Jvm.Cond.code (⟨BC, "add", "(II)V"⟩ : MethodName) cB4 3 none :: ws) (Rm 0 0 0 0)) (Pr Z h0 #[(.ref a1), (.int p2), (.int p3)]) Tr (fun _ U o U' => ∃ v L, o = .returned v ∧ Q4_1 Z a1 p2 p3 w_P t0 k_P h0 n0 v U'.heap L ∧ FrameEnd U o U' L (Rm 0 0 0 0).cells (Rm 0 0 0 0).slots) := by
 refine MetFree.of_bodySF (plainFor_of_name pn1) hisR ?_
 intro p e s m args below meth c s₁ Bd hml0 hP hK
 obtain ⟨rfl, hZ, hh⟩ := hP
 have hx := Bd.exec
 have hby := Bd.bytes
 have hml : c.maxLocals = 3 := hml0
 have hown : s.vm.findClass BC = some m.cls := findClass_of_methodNamed Bd.named
 have hnm := (name_of_methodNamed Bd.named Bd.method).1
 have X0 : Stand p l e (Rm 0 0 0 0) s m #[(.ref a1), (.int p2), (.int p3)] below meth c s₁ [] 0 0 := Stand.of_body Bd
 have e0 : s₁.heap = h0 := by rw [← hh, Bd.state]; rfl
 have N0 := Fr.nil n0
 have K0 : Keep h0 h0 [a1, w_P] := Keep.refl h0 _
 refine G (P := fun o U' => ∃ v L, o = .returned v ∧ Q4_1 Z a1 p2 p3 w_P t0 k_P h0 n0 v U'.heap L ∧ FrameEnd s o U' L (Rm 0 0 0 0).cells (Rm 0 0 0 0).slots) (fun t k => castTop (ef4_1 m a1 p2 p3) k) ?_
 show Go _ _ _ (s₁.setTop (mkF m 0 #[vr a1, vi p2, vi p3] [])) _
 refine G (fun t k => XS.aloadN X0.here hx rfl (hb hby d4_0) rfl rfl k) ?_
 obtain ⟨T1, X1, e1, st1⟩ := getF X0 hx hZ hown (host := "") (Or.inl (wd22 hw)) Via.refl e0 F_a1_s (g := (mkF m 1 #[vr a1, vi p2, vi p3] [(.ref a1)])) rfl rfl (hb hby d4_1)
 refine G st1 ?_
 refine G (fun t k => XS.aloadN X1.here hx rfl (hb hby d4_4) rfl rfl k) ?_
 obtain ⟨T2, X2, e2, st2⟩ := getF X1 hx hZ hown (host := "") (Or.inl (wd15 hw)) Via.refl e1 F_a1_p (g := (mkF m 5 #[vr a1, vi p2, vi p3] [(.ref a1), (.int 1)])) rfl rfl (hb hby d4_5)
 refine G st2 ?_
 obtain ⟨cl3, Ar3, -, Sz3, Ng3, -, -⟩ := id V_P
 refine G (fun t k => X2.arraylength hx (by rw [e2]; exact Ar3.1) (State.isArrayOf_alike hZ.alike Ar3.2.1) (g := (mkF m 8 #[vr a1, vi p2, vi p3] [(.ref w_P), (.int 1)])) rfl rfl (hb hby d4_8) _ k) ?_
 rw [len_of Sz3 Ng3]
 clear Ng3 Sz3 Ar3 cl3
 refine G (fun t k => XS.icmpYes X2.here hx rfl (pc0 := 9) (pc' := 29) rfl (hb hby d4_9) rfl (feq (by decide : ¬ ((1 : Int32) = (16 : Int32)))).2 (by decide) (by decide) (XS.aloadN X2.here hx rfl (hb hby d4_29) rfl rfl k)) ?_
 show Go _ _ _ (T2.setTop (mkF m 30 #[vr a1, vi p2, vi p3] [(.ref a1)])) _
 obtain ⟨T4, X4, e4, st4⟩ := getF X2 hx hZ hown (host := "") (Or.inl (wd15 hw)) Via.refl e2 F_a1_p (g := (mkF m 30 #[vr a1, vi p2, vi p3] [(.ref a1)])) rfl rfl (hb hby d4_30)
 refine G st4 ?_
 refine G (fun t k => XS.aloadN X4.here hx rfl (hb hby d4_33) rfl rfl (XS.dup X4.here hx rfl (hb hby d4_34) rfl rfl k)) ?_
 obtain ⟨T5, X5, e5, st5⟩ := getF X4 hx hZ hown (host := "") (Or.inl (wd22 hw)) Via.refl e4 F_a1_s (g := (mkF m 35 #[vr a1, vi p2, vi p3] [(.ref a1), (.ref a1), (.ref w_P)])) rfl rfl (hb hby d4_35)
 refine G st5 ?_
 refine G (fun t k => XS.dupX1 X5.here hx rfl (hb hby d4_38) rfl rfl rfl (XS.iconst X5.here hx rfl (hb hby d4_39) (XS.iadd X5.here hx rfl (hb hby d4_40) rfl k))) ?_
 show Go _ _ _ (T5.setTop (mkF m 41 #[vr a1, vi p2, vi p3] [(.int 2), (.ref a1), (.int 1), (.ref w_P)])) _
 obtain ⟨T6, h6, X6, e6, W6, st6⟩ := putF X5 hx hZ hown (host := "") (Or.inl (wd22 hw)) Via.refl e5 F_a1_s E_a1 (Or.inl (wd23 hw)) (wd6 hw) (ty := .int) (by decide) rfl rfl (g := (mkF m 41 #[vr a1, vi p2, vi p3] [(.int 2), (.ref a1), (.int 1), (.ref w_P)])) rfl rfl (hb hby d4_41)
 refine G st6 ?_
 have N6 := Fr.snoc X6 N0 g_a1
 replace E_a1 := E_a1.wr W6
 replace F_a1_s := F_a1_s.same W6
 replace F_a1_p := F_a1_p.other W6 (sn1 hw)
 replace V_P := V_P.other W6 ne_w_P_a1
 replace Z0 := Nat.le_trans Z0 (Nat.le_of_eq W6.size.symm)
 replace K0 := K0.wr W6 (Or.inl (by simp))
 refine G (fun t k => XS.iloadN X6.here hx rfl (hb hby d4_44) rfl (XS.i2l X6.here hx rfl (hb hby d4_45) rfl (XS.bipush X6.here hx rfl (hb hby d4_46) (XS.lshl X6.here hx rfl (hb hby d4_48) rfl (XS.iloadN X6.here hx rfl (hb hby d4_49) rfl (XS.i2l X6.here hx rfl (hb hby d4_50) rfl k)))))) ?_
 show Go _ _ _ (T6.setTop (mkF m 51 #[vr a1, vi p2, vi p3] [(.long (p3.toInt64)), (.long ((p2.toInt64) <<< ((32 : Int32) &&& 0x3f).toInt64)), (.int 1), (.ref w_P)])) _
 refine G (fun t k => XS.lor X6.here hx rfl (hb hby d4_51) rfl k) ?_
 show Go _ _ _ (T6.setTop (mkF m 52 #[vr a1, vi p2, vi p3] [(.long (((p2.toInt64) <<< ((32 : Int32) &&& 0x3f).toInt64) ||| (p3.toInt64))), (.int 1), (.ref w_P)])) _
 show Go _ _ _ (T6.setTop (mkF m 52 #[vr a1, vi p2, vi p3] [(.long (pk p2 p3)), (.int 1), (.ref w_P)])) _
 obtain ⟨cl7, Ar7, qq7, Sz7, Ng7, Hs7, Gs7⟩ := id V_P
 have hin7 := inb_of (j := (1 : Int32)) (c := cl7) Sz7 ⟨by decide, by decide⟩
 obtain ⟨T8, h8, X8, e8, W8, st8⟩ := stJ X6 hx hZ e6 Ar7 (j := (1 : Int32)) hin7 (g := (mkF m 52 #[vr a1, vi p2, vi p3] [(.long (pk p2 p3)), (.int 1), (.ref w_P)])) rfl rfl (hb hby d4_52)
 refine G st8 ?_
 have N8 := Fr.snoc X8 N6 g_w_P
 replace E_a1 := E_a1.wr W8
 replace F_a1_s := F_a1_s.other W8 (Or.inl (Ne.symm ne_w_P_a1))
 replace F_a1_p := F_a1_p.other W8 (Or.inl (Ne.symm ne_w_P_a1))
 replace Z0 := Nat.le_trans Z0 (Nat.le_of_eq W8.size.symm)
 replace K0 := K0.wr W8 (Or.inl (by simp))
 replace V_P : Arv Z h8 w_P k_P .long (16 : Int32) [(.long t0), (.long (pk p2 p3)), (.long (0 : Int64)), (.long (0 : Int64)), (.long (0 : Int64)), (.long (0 : Int64)), (.long (0 : Int64)), (.long (0 : Int64)), (.long (0 : Int64)), (.long (0 : Int64)), (.long (0 : Int64)), (.long (0 : Int64)), (.long (0 : Int64)), (.long (0 : Int64)), (.long (0 : Int64)), (.long (0 : Int64))] (.long (0 : Int64)) := Arv.set Ar7 qq7 Sz7 Ng7 Hs7 Gs7 rfl W8 1 rfl (Nat.le_of_ble_eq_true rfl)
 clear hin7 Gs7 Hs7 Ng7 Sz7 qq7 Ar7 cl7
 obtain ⟨fs, hr, hrun, hended, hW, hsame⟩ := X8.leave (v := none) (fun _ => rfl)
 refine Go.fin (X8.returnOut hx Bd.returns (hb hby d4_53) hr) hrun hended ⟨_, _, rfl, ?_, ⟨_, rfl⟩, hW, hsame.mono (by decide) (by decide)⟩
 show Q4_1 Z a1 p2 p3 w_P t0 k_P h0 n0 _ T8.heap _
 rw [e8]
 exact ⟨rfl, N8, K0, E_a1, F_a1_s, F_a1_p, V_P⟩
def Q4_2 (Z : State) (a1 : Addr) (p2 : Int32) (p3 : Int32) (w_P : Addr) (t0 : Int64) (t1 : Int64) (k_P : ClassId) (h0 : Heap) (n0 : Nat) (v : Option Value) (h : Heap) (L : List Loc) : Prop := v = none ∧ Fr n0 L ∧ Keep h0 h [a1, w_P] ∧ Exa Z h a1 BC ∧ Fld Z h a1 BC "size" "I" (.int (3 : Int32)) ∧ Fld Z h a1 BC "pairs" "[J" (.ref w_P) ∧ Arv Z h w_P k_P .long (16 : Int32) [(.long t0), (.long t1), (.long (pk p2 p3)), (.long (0 : Int64)), (.long (0 : Int64)), (.long (0 : Int64)), (.long (0 : Int64)), (.long (0 : Int64)), (.long (0 : Int64)), (.long (0 : Int64)), (.long (0 : Int64)), (.long (0 : Int64)), (.long (0 : Int64)), (.long (0 : Int64)), (.long (0 : Int64)), (.long (0 : Int64))] (.long (0 : Int64))
theorem ef4_2 (m : MethodId) (x0 : Addr) (x1 : Int32) (x2 : Int32) : entryFrame m #[(.ref x0), (.int x1), (.int x2)] 3 = mkF m 0 #[.val (.ref x0), .val (.int x1), .val (.int x2)] [] := by first | (simp [entryFrame, mkF, argsToLocals, Value.category]; done) | rfl
theorem rm4_2 (l : Launch) (Z : State) (a0 : Array Value) (hw : HW a0 Z) (ws : List Jvm.Cond) (a1 : Addr) (p2 : Int32) (p3 : Int32) (w_P : Addr) (t0 : Int64) (t1 : Int64) (k_P : ClassId) (h0 : Heap) (n0 : Nat) (Z0 : n0 ≤ h0.size) (E_a1 : Exa Z h0 a1 BC) (F_a1_s : Fld Z h0 a1 BC "size" "I" (.int (2 : Int32))) (F_a1_p : Fld Z h0 a1 BC "pairs" "[J" (.ref w_P)) (V_P : Arv Z h0 w_P k_P .long (16 : Int32) [(.long t0), (.long t1), (.long (0 : Int64)), (.long (0 : Int64)), (.long (0 : Int64)), (.long (0 : Int64)), (.long (0 : Int64)), (.long (0 : Int64)), (.long (0 : Int64)), (.long (0 : Int64)), (.long (0 : Int64)), (.long (0 : Int64)), (.long (0 : Int64)), (.long (0 : Int64)), (.long (0 : Int64)), (.long (0 : Int64))] (.long (0 : Int64))) (ne_w_P_a1 : w_P ≠ a1) (g_a1 : n0 ≤ a1) (g_w_P : n0 ≤ w_P) :
  MetFree l (⟨BC, "add", "(II)V"⟩ : MethodName) (head1 (Jvm.Cond.code (⟨BC, "add", "(II)V"⟩ : MethodName) cB4 3 none :: ws) (Rm 0 0 0 0)) (Pr Z h0 #[(.ref a1), (.int p2), (.int p3)]) Tr (fun _ U o U' => ∃ v L, o = .returned v ∧ Q4_2 Z a1 p2 p3 w_P t0 t1 k_P h0 n0 v U'.heap L ∧ FrameEnd U o U' L (Rm 0 0 0 0).cells (Rm 0 0 0 0).slots) := by
 refine MetFree.of_bodySF (plainFor_of_name pn1) hisR ?_
 intro p e s m args below meth c s₁ Bd hml0 hP hK
 obtain ⟨rfl, hZ, hh⟩ := hP
 have hx := Bd.exec
 have hby := Bd.bytes
 have hml : c.maxLocals = 3 := hml0
 have hown : s.vm.findClass BC = some m.cls := findClass_of_methodNamed Bd.named
 have hnm := (name_of_methodNamed Bd.named Bd.method).1
 have X0 : Stand p l e (Rm 0 0 0 0) s m #[(.ref a1), (.int p2), (.int p3)] below meth c s₁ [] 0 0 := Stand.of_body Bd
 have e0 : s₁.heap = h0 := by rw [← hh, Bd.state]; rfl
 have N0 := Fr.nil n0
 have K0 : Keep h0 h0 [a1, w_P] := Keep.refl h0 _
 refine G (P := fun o U' => ∃ v L, o = .returned v ∧ Q4_2 Z a1 p2 p3 w_P t0 t1 k_P h0 n0 v U'.heap L ∧ FrameEnd s o U' L (Rm 0 0 0 0).cells (Rm 0 0 0 0).slots) (fun t k => castTop (ef4_2 m a1 p2 p3) k) ?_
 show Go _ _ _ (s₁.setTop (mkF m 0 #[vr a1, vi p2, vi p3] [])) _
 refine G (fun t k => XS.aloadN X0.here hx rfl (hb hby d4_0) rfl rfl k) ?_
 obtain ⟨T1, X1, e1, st1⟩ := getF X0 hx hZ hown (host := "") (Or.inl (wd22 hw)) Via.refl e0 F_a1_s (g := (mkF m 1 #[vr a1, vi p2, vi p3] [(.ref a1)])) rfl rfl (hb hby d4_1)
 refine G st1 ?_
 refine G (fun t k => XS.aloadN X1.here hx rfl (hb hby d4_4) rfl rfl k) ?_
 obtain ⟨T2, X2, e2, st2⟩ := getF X1 hx hZ hown (host := "") (Or.inl (wd15 hw)) Via.refl e1 F_a1_p (g := (mkF m 5 #[vr a1, vi p2, vi p3] [(.ref a1), (.int 2)])) rfl rfl (hb hby d4_5)
 refine G st2 ?_
 obtain ⟨cl3, Ar3, -, Sz3, Ng3, -, -⟩ := id V_P
 refine G (fun t k => X2.arraylength hx (by rw [e2]; exact Ar3.1) (State.isArrayOf_alike hZ.alike Ar3.2.1) (g := (mkF m 8 #[vr a1, vi p2, vi p3] [(.ref w_P), (.int 2)])) rfl rfl (hb hby d4_8) _ k) ?_
 rw [len_of Sz3 Ng3]
 clear Ng3 Sz3 Ar3 cl3
 refine G (fun t k => XS.icmpYes X2.here hx rfl (pc0 := 9) (pc' := 29) rfl (hb hby d4_9) rfl (feq (by decide : ¬ ((2 : Int32) = (16 : Int32)))).2 (by decide) (by decide) (XS.aloadN X2.here hx rfl (hb hby d4_29) rfl rfl k)) ?_
 show Go _ _ _ (T2.setTop (mkF m 30 #[vr a1, vi p2, vi p3] [(.ref a1)])) _
 obtain ⟨T4, X4, e4, st4⟩ := getF X2 hx hZ hown (host := "") (Or.inl (wd15 hw)) Via.refl e2 F_a1_p (g := (mkF m 30 #[vr a1, vi p2, vi p3] [(.ref a1)])) rfl rfl (hb hby d4_30)
 refine G st4 ?_
 refine G (fun t k => XS.aloadN X4.here hx rfl (hb hby d4_33) rfl rfl (XS.dup X4.here hx rfl (hb hby d4_34) rfl rfl k)) ?_
 obtain ⟨T5, X5, e5, st5⟩ := getF X4 hx hZ hown (host := "") (Or.inl (wd22 hw)) Via.refl e4 F_a1_s (g := (mkF m 35 #[vr a1, vi p2, vi p3] [(.ref a1), (.ref a1), (.ref w_P)])) rfl rfl (hb hby d4_35)
 refine G st5 ?_
 refine G (fun t k => XS.dupX1 X5.here hx rfl (hb hby d4_38) rfl rfl rfl (XS.iconst X5.here hx rfl (hb hby d4_39) (XS.iadd X5.here hx rfl (hb hby d4_40) rfl k))) ?_
 show Go _ _ _ (T5.setTop (mkF m 41 #[vr a1, vi p2, vi p3] [(.int 3), (.ref a1), (.int 2), (.ref w_P)])) _
 obtain ⟨T6, h6, X6, e6, W6, st6⟩ := putF X5 hx hZ hown (host := "") (Or.inl (wd22 hw)) Via.refl e5 F_a1_s E_a1 (Or.inl (wd23 hw)) (wd6 hw) (ty := .int) (by decide) rfl rfl (g := (mkF m 41 #[vr a1, vi p2, vi p3] [(.int 3), (.ref a1), (.int 2), (.ref w_P)])) rfl rfl (hb hby d4_41)
 refine G st6 ?_
 have N6 := Fr.snoc X6 N0 g_a1
 replace E_a1 := E_a1.wr W6
 replace F_a1_s := F_a1_s.same W6
 replace F_a1_p := F_a1_p.other W6 (sn1 hw)
 replace V_P := V_P.other W6 ne_w_P_a1
 replace Z0 := Nat.le_trans Z0 (Nat.le_of_eq W6.size.symm)
 replace K0 := K0.wr W6 (Or.inl (by simp))
 refine G (fun t k => XS.iloadN X6.here hx rfl (hb hby d4_44) rfl (XS.i2l X6.here hx rfl (hb hby d4_45) rfl (XS.bipush X6.here hx rfl (hb hby d4_46) (XS.lshl X6.here hx rfl (hb hby d4_48) rfl (XS.iloadN X6.here hx rfl (hb hby d4_49) rfl (XS.i2l X6.here hx rfl (hb hby d4_50) rfl k)))))) ?_
 show Go _ _ _ (T6.setTop (mkF m 51 #[vr a1, vi p2, vi p3] [(.long (p3.toInt64)), (.long ((p2.toInt64) <<< ((32 : Int32) &&& 0x3f).toInt64)), (.int 2), (.ref w_P)])) _
 refine G (fun t k => XS.lor X6.here hx rfl (hb hby d4_51) rfl k) ?_
 show Go _ _ _ (T6.setTop (mkF m 52 #[vr a1, vi p2, vi p3] [(.long (((p2.toInt64) <<< ((32 : Int32) &&& 0x3f).toInt64) ||| (p3.toInt64))), (.int 2), (.ref w_P)])) _
 show Go _ _ _ (T6.setTop (mkF m 52 #[vr a1, vi p2, vi p3] [(.long (pk p2 p3)), (.int 2), (.ref w_P)])) _
 obtain ⟨cl7, Ar7, qq7, Sz7, Ng7, Hs7, Gs7⟩ := id V_P
 have hin7 := inb_of (j := (2 : Int32)) (c := cl7) Sz7 ⟨by decide, by decide⟩
 obtain ⟨T8, h8, X8, e8, W8, st8⟩ := stJ X6 hx hZ e6 Ar7 (j := (2 : Int32)) hin7 (g := (mkF m 52 #[vr a1, vi p2, vi p3] [(.long (pk p2 p3)), (.int 2), (.ref w_P)])) rfl rfl (hb hby d4_52)
 refine G st8 ?_
 have N8 := Fr.snoc X8 N6 g_w_P
 replace E_a1 := E_a1.wr W8
 replace F_a1_s := F_a1_s.other W8 (Or.inl (Ne.symm ne_w_P_a1))
 replace F_a1_p := F_a1_p.other W8 (Or.inl (Ne.symm ne_w_P_a1))
 replace Z0 := Nat.le_trans Z0 (Nat.le_of_eq W8.size.symm)
 replace K0 := K0.wr W8 (Or.inl (by simp))
 replace V_P : Arv Z h8 w_P k_P .long (16 : Int32) [(.long t0), (.long t1), (.long (pk p2 p3)), (.long (0 : Int64)), (.long (0 : Int64)), (.long (0 : Int64)), (.long (0 : Int64)), (.long (0 : Int64)), (.long (0 : Int64)), (.long (0 : Int64)), (.long (0 : Int64)), (.long (0 : Int64)), (.long (0 : Int64)), (.long (0 : Int64)), (.long (0 : Int64)), (.long (0 : Int64))] (.long (0 : Int64)) := Arv.set Ar7 qq7 Sz7 Ng7 Hs7 Gs7 rfl W8 2 rfl (Nat.le_of_ble_eq_true rfl)
 clear hin7 Gs7 Hs7 Ng7 Sz7 qq7 Ar7 cl7
 obtain ⟨fs, hr, hrun, hended, hW, hsame⟩ := X8.leave (v := none) (fun _ => rfl)
 refine Go.fin (X8.returnOut hx Bd.returns (hb hby d4_53) hr) hrun hended ⟨_, _, rfl, ?_, ⟨_, rfl⟩, hW, hsame.mono (by decide) (by decide)⟩
 show Q4_2 Z a1 p2 p3 w_P t0 t1 k_P h0 n0 _ T8.heap _
 rw [e8]
 exact ⟨rfl, N8, K0, E_a1, F_a1_s, F_a1_p, V_P⟩
theorem d6_0 : decode cB6 0 = .ok (.iload_n 1, 1) := by decide +kernel
theorem d6_1 : decode cB6 1 = .ok (.aload_n 0, 1) := by decide +kernel
theorem d6_2 : decode cB6 2 = .ok (.arraylength, 1) := by decide +kernel
theorem d6_3 : decode cB6 3 = .ok (.if_icmp .ne 11, 3) := by decide +kernel
theorem d6_14 : decode cB6 14 = .ok (.iload_n 1, 1) := by decide +kernel
theorem d6_15 : decode cB6 15 = .ok (.newarray .long, 2) := by decide +kernel
theorem d6_17 : decode cB6 17 = .ok (.astore_n 2, 1) := by decide +kernel
theorem d6_18 : decode cB6 18 = .ok (.aload_n 0, 1) := by decide +kernel
theorem d6_19 : decode cB6 19 = .ok (.iconst 0, 1) := by decide +kernel
theorem d6_20 : decode cB6 20 = .ok (.aload_n 2, 1) := by decide +kernel
theorem d6_21 : decode cB6 21 = .ok (.iconst 0, 1) := by decide +kernel
theorem d6_22 : decode cB6 22 = .ok (.aload_n 0, 1) := by decide +kernel
theorem d6_23 : decode cB6 23 = .ok (.arraylength, 1) := by decide +kernel
theorem d6_24 : decode cB6 24 = .ok (.iload_n 1, 1) := by decide +kernel
theorem d6_25 : decode cB6 25 = .ok (.invokestatic 304, 3) := by decide +kernel
theorem wd33 {Z a0} (hw : HW a0 Z) : (Jvm.Cond.methodLink "java/util/Arrays" (304 : Nat) ⟨"java/lang/Math", "min", "(II)I"⟩).before a0 Z = true := mw hw 33 rfl
theorem wd4 {Z a0} (hw : HW a0 Z) : (Jvm.Cond.code ⟨"java/lang/Math", "min", "(II)I"⟩ cB1 (2 : Nat) (Option.some Jvm.ClassFile.FieldType.int)).before a0 Z = true := mw hw 4 rfl
theorem wd3 {Z a0} (hw : HW a0 Z) : (Jvm.Cond.initialized "java/lang/Math").before a0 Z = true := mw hw 3 rfl
theorem pd0 : parseMethodDescriptor "(II)I" = some ⟨[.int, .int], some .int⟩ := by decide +kernel
theorem wd2 {Z a0} (hw : HW a0 Z) : (Jvm.Cond.static ⟨"java/lang/Math", "min", "(II)I"⟩).before a0 Z = true := mw hw 2 rfl
theorem d6_28 : decode cB6 28 = .ok (.invokestatic 150, 3) := by decide +kernel
theorem wd34 {Z a0} (hw : HW a0 Z) : (Jvm.Cond.methodLink "java/util/Arrays" (150 : Nat) ⟨"java/lang/System", "arraycopy", "(Ljava/lang/Object;ILjava/lang/Object;II)V"⟩).before a0 Z = true := mw hw 34 rfl
theorem wd37 {Z a0} (hw : HW a0 Z) : (Jvm.Cond.native ⟨"java/lang/System", "arraycopy", "(Ljava/lang/Object;ILjava/lang/Object;II)V"⟩).before a0 Z = true := mw hw 37 rfl
theorem wd35 {Z a0} (hw : HW a0 Z) : (Jvm.Cond.static ⟨"java/lang/System", "arraycopy", "(Ljava/lang/Object;ILjava/lang/Object;II)V"⟩).before a0 Z = true := mw hw 35 rfl
theorem wd36 {Z a0} (hw : HW a0 Z) : (Jvm.Cond.initialized "java/lang/System").before a0 Z = true := mw hw 36 rfl
theorem d6_31 : decode cB6 31 = .ok (.aload_n 2, 1) := by decide +kernel
theorem d6_32 : decode cB6 32 = .ok (.areturn, 1) := by decide +kernel
theorem pn2 : plainName "java/util/Arrays" = true := by first | (simp [plainName, overriddenIn]; done) | decide +kernel
def Q6 (Z : State) (a1 : Addr) (t0 : Int64) (t1 : Int64) (t2 : Int64) (k_P : ClassId) (h0 : Heap) (n0 : Nat) (v : Option Value) (h : Heap) (L : List Loc) : Prop := ∃ x6_0 : Addr, ∃ k_x6_0 : ClassId, v = some (.ref x6_0) ∧ Fr n0 L ∧ Keep h0 h [] ∧ n0 ≤ x6_0 ∧ h0.size ≤ x6_0 ∧ Arv Z h x6_0 k_x6_0 .long (3 : Int32) [(.long t0), (.long t1), (.long t2)] (.long (0 : Int64))
theorem ef6 (m : MethodId) (x0 : Addr) : entryFrame m #[(.ref x0), (.int (3 : Int32))] 3 = mkF m 0 #[.val (.ref x0), .val (.int (3 : Int32)), .unset] [] := by first | (simp [entryFrame, mkF, argsToLocals, Value.category]; done) | rfl
theorem rm6 (l : Launch) (Z : State) (a0 : Array Value) (hw : HW a0 Z) (ws : List Jvm.Cond) (a1 : Addr) (t0 : Int64) (t1 : Int64) (t2 : Int64) (k_P : ClassId) (h0 : Heap) (n0 : Nat) (Z0 : n0 ≤ h0.size) (V_P : Arv Z h0 a1 k_P .long (16 : Int32) [(.long t0), (.long t1), (.long t2), (.long (0 : Int64)), (.long (0 : Int64)), (.long (0 : Int64)), (.long (0 : Int64)), (.long (0 : Int64)), (.long (0 : Int64)), (.long (0 : Int64)), (.long (0 : Int64)), (.long (0 : Int64)), (.long (0 : Int64)), (.long (0 : Int64)), (.long (0 : Int64)), (.long (0 : Int64))] (.long (0 : Int64))) :
  MetFree l (⟨"java/util/Arrays", "copyOf", "([JI)[J"⟩ : MethodName) (head1 (Jvm.Cond.code (⟨"java/util/Arrays", "copyOf", "([JI)[J"⟩ : MethodName) cB6 3 (some (.array .long)) :: ws) (Rm 1 1 3 18)) (Pr Z h0 #[(.ref a1), (.int (3 : Int32))]) Tr (fun _ U o U' => ∃ v L, o = .returned v ∧ Q6 Z a1 t0 t1 t2 k_P h0 n0 v U'.heap L ∧ FrameEnd U o U' L (Rm 1 1 3 18).cells (Rm 1 1 3 18).slots) := by
 refine MetFree.of_bodySF (plainFor_of_name pn2) hisR ?_
 intro p e s m args below meth c s₁ Bd hml0 hP hK
 obtain ⟨rfl, hZ, hh⟩ := hP
 have hx := Bd.exec
 have hby := Bd.bytes
 have hml : c.maxLocals = 3 := hml0
 have hown : s.vm.findClass "java/util/Arrays" = some m.cls := findClass_of_methodNamed Bd.named
 have hnm := (name_of_methodNamed Bd.named Bd.method).1
 have X0 : Stand p l e (Rm 1 1 3 18) s m #[(.ref a1), (.int (3 : Int32))] below meth c s₁ [] 0 0 := Stand.of_body Bd
 have e0 : s₁.heap = h0 := by rw [← hh, Bd.state]; rfl
 have N0 := Fr.nil n0
 have K0 : Keep h0 h0 [] := Keep.refl h0 _
 refine G (P := fun o U' => ∃ v L, o = .returned v ∧ Q6 Z a1 t0 t1 t2 k_P h0 n0 v U'.heap L ∧ FrameEnd s o U' L (Rm 1 1 3 18).cells (Rm 1 1 3 18).slots) (fun t k => castTop (ef6 m a1) k) ?_
 show Go _ _ _ (s₁.setTop (mkF m 0 #[vr a1, vi 3, us] [])) _
 refine G (fun t k => XS.iloadN X0.here hx rfl (hb hby d6_0) rfl (XS.aloadN X0.here hx rfl (hb hby d6_1) rfl rfl k)) ?_
 obtain ⟨cl1, Ar1, -, Sz1, Ng1, -, -⟩ := id V_P
 refine G (fun t k => X0.arraylength hx (by rw [e0]; exact Ar1.1) (State.isArrayOf_alike hZ.alike Ar1.2.1) (g := (mkF m 2 #[vr a1, vi 3, us] [(.ref a1), (.int 3)])) rfl rfl (hb hby d6_2) _ k) ?_
 rw [len_of Sz1 Ng1]
 clear Ng1 Sz1 Ar1 cl1
 refine G (fun t k => XS.icmpYes X0.here hx rfl (pc0 := 3) (pc' := 14) rfl (hb hby d6_3) rfl (feq (by decide : ¬ ((3 : Int32) = (16 : Int32)))).2 (by decide) (by decide) (XS.iloadN X0.here hx rfl (hb hby d6_14) rfl k)) ?_
 obtain ⟨T2, h2, k2, X2, e2, E2, A2, st2⟩ := newP X0 hx hZ (aty := .long) (wd14 hw) e0 (g := (mkF m 15 #[vr a1, vi 3, us] [(.int 3)])) rfl (hb hby d6_15) rfl (by decide) (cap := 3) (by decide) (by decide) (by decide) (by decide)
 obtain ⟨b2, g2⟩ : ∃ z, z = h0.size := ⟨_, rfl⟩
 rw [← g2] at A2 st2
 refine G st2 ?_
 have ne_a1_b2 : a1 ≠ b2 := Nat.ne_of_lt (Nat.lt_of_lt_of_le V_P.lt (Nat.le_of_eq g2.symm))
 have g_b2 : n0 ≤ b2 := Nat.le_trans Z0 (Nat.le_of_eq g2.symm)
 have sz_b2 : h0.size ≤ b2 := Nat.le_trans K0.1 (Nat.le_of_eq g2.symm)
 replace V_P := V_P.ext E2
 replace K0 := K0.ext E2
 replace Z0 := Nat.le_trans Z0 E2.1
 have V_b2 : Arv Z h2 b2 k2 .long (3 : Int32) [(.long (0 : Int64)), (.long (0 : Int64)), (.long (0 : Int64))] (.long (0 : Int64)) := (Arv.new A2 (by decide)).pad (pad_rep [] (.long (0 : Int64)) 3)
 refine G (fun t k => XS.astoreN X2.here hx rfl (hb hby d6_17) rfl rfl (l' := #[vr a1, vi 3, vr b2]) rfl k) ?_
 show Go _ _ _ (T2.setTop (mkF m 18 #[vr a1, vi 3, vr b2] [])) _
 refine G (fun t k => XS.aloadN X2.here hx rfl (hb hby d6_18) rfl rfl (XS.iconst X2.here hx rfl (hb hby d6_19) (XS.aloadN X2.here hx rfl (hb hby d6_20) rfl rfl (XS.iconst X2.here hx rfl (hb hby d6_21) (XS.aloadN X2.here hx rfl (hb hby d6_22) rfl rfl k))))) ?_
 obtain ⟨cl3, Ar3, -, Sz3, Ng3, -, -⟩ := id V_P
 refine G (fun t k => X2.arraylength hx (by rw [e2]; exact Ar3.1) (State.isArrayOf_alike hZ.alike Ar3.2.1) (g := (mkF m 23 #[vr a1, vi 3, vr b2] [(.ref a1), (.int 0), (.ref b2), (.int 0), (.ref a1)])) rfl rfl (hb hby d6_23) _ k) ?_
 rw [len_of Sz3 Ng3]
 clear Ng3 Sz3 Ar3 cl3
 refine G (fun t k => XS.iloadN X2.here hx rfl (hb hby d6_24) rfl k) ?_
 show Go _ _ _ (T2.setTop (mkF m 25 #[vr a1, vi 3, vr b2] [(.int 3), (.int 16), (.int 0), (.ref b2), (.int 0), (.ref a1)])) _
 obtain ⟨_, _, ⟨T4, L4, k4, n4⟩, -, X4, ⟨Lc4, hQ4, l4, y4, z4⟩, st4⟩ := Jvm.LawKit.callS X2 hx (y := (⟨"java/lang/Math", "min", "(II)I"⟩ : MethodName)) hown (mvT hZ (wd33 hw)) (mvT hZ (wd2 hw)) (mvT hZ (wd3 hw)) (mvT hZ (wd4 hw)) (by decide) (backOf (W := 4) (rm1 l Z a0 hw [] (16 : Int32) (3 : Int32) h2 n0 Z0) hZ (wd4 hw) (wd3 hw) (by decide) (by decide)) (g := (mkF m 25 #[vr a1, vi 3, vr b2] [(.int 3), (.int 16), (.int 0), (.ref b2), (.int 0), (.ref a1)])) rfl (by rw [hml]; rfl) (argsL := [(.int (16 : Int32)), (.int (3 : Int32))]) (rest := [(.int (0 : Int32)), (.ref b2), (.int (0 : Int32)), (.ref a1)]) (lenOf pd0 rfl) rfl (by show 2 * 0 + _ ≤ _; exact Nat.le_of_eq rfl) (hb hby d6_25) (fun _ _ => ⟨rfl, e2, (by decide : 1 + 0 ≤ _), (by decide : 3 + 0 ≤ _)⟩)
 dsimp only [Pt.U, Pt.locs, Pt.cells, Pt.slots] at X4 l4 y4 z4 st4 hQ4
 subst l4 y4 z4
 refine G st4 ?_
 obtain ⟨rfl, N4q, e4⟩ := hQ4
 have N4 := Fr.app N0 N4q
 show Go _ _ _ (T4.setTop (mkF m 28 #[vr a1, vi 3, vr b2] [(.int (f1 (16 : Int32) (3 : Int32))), (.int 0), (.ref b2), (.int 0), (.ref a1)])) _
 rw [show (f1 (16 : Int32) (3 : Int32)) = (3 : Int32) from by unfold f1; simp only [if_pos (by decide : (3 : Int32) < (16 : Int32)), if_true, if_false]]
 show Go _ _ _ (T4.setTop (mkF m 28 #[vr a1, vi 3, vr b2] [(.int 3), (.int 0), (.ref b2), (.int 0), (.ref a1)])) _
 have V_b2_pre := V_b2
 obtain ⟨T5, h5, L5, X5, e5, N5, K5, B5, st5⟩ := cpA X4 hx hZ hown (wd34 hw) (wd37 hw) (wd35 hw) (wd36 hw) e4 V_P V_b2 (us := [(.long t0), (.long t1), (.long t2)]) (Or.inl ⟨rfl, rfl⟩) (sp := (0 : Int32)) (dp := (0 : Int32)) (nn := (3 : Int32)) (by decide) (by decide) (by decide) (by decide) (by decide) rfl (Nat.le_of_ble_eq_true rfl) N4 g_b2 (g := (mkF m 28 #[vr a1, vi 3, vr b2] [(.int 3), (.int 0), (.ref b2), (.int 0), (.ref a1)])) rfl (by rw [hml]; rfl) rfl (hb hby d6_28) (by decide) (W := 0) (by show 2 * 0 + _ ≤ _; exact Nat.le_of_eq rfl) (by decide)
 refine G st5 ?_
 replace V_P := V_P.keep K5 (ninS ne_a1_b2 nin0)
 replace Z0 := Nat.le_trans Z0 K5.1
 replace K0 := K0.trans K5 (allS (Or.inr sz_b2) all0)
 have V_b2 : Arv Z h5 b2 k2 .long (3 : Int32) [(.long t0), (.long t1), (.long t2)] (.long (0 : Int64)) := B5
 refine G (fun t k => XS.aloadN X5.here hx rfl (hb hby d6_31) rfl rfl k) ?_
 obtain ⟨fs, hr, hrun, hended, hW, hsame⟩ := X5.leave (v := some (.ref b2)) (fun h => by rw [Bd.returns] at h; cases h)
 refine Go.fin (retOut X5 hx Bd.returns rfl (Or.inr (Or.inr (Or.inr (Or.inr ⟨rfl, rfl, rfl⟩)))) (hb hby d6_32) hr) hrun hended ⟨_, _, rfl, ?_, ⟨_, rfl⟩, hW, hsame.mono (by decide) (by decide)⟩
 show Q6 Z a1 t0 t1 t2 k_P h0 n0 _ T5.heap _
 rw [e5]
 exact ⟨b2, k2, rfl, N5, K0, g_b2, sz_b2, V_b2⟩
theorem d10_0 : decode cB10 0 = .ok (.iload_n 1, 1) := by decide +kernel
theorem d10_1 : decode cB10 1 = .ok (.istore 4, 2) := by decide +kernel
theorem d10_3 : decode cB10 3 = .ok (.iinc 4 1, 3) := by decide +kernel
theorem d10_6 : decode cB10 6 = .ok (.iload 4, 2) := by decide +kernel
theorem d10_8 : decode cB10 8 = .ok (.iload_n 2, 1) := by decide +kernel
theorem d10_9 : decode cB10 9 = .ok (.if_icmp .ge 60, 3) := by decide +kernel
theorem d10_12 : decode cB10 12 = .ok (.aload_n 0, 1) := by decide +kernel
theorem d10_13 : decode cB10 13 = .ok (.iload 4, 2) := by decide +kernel
theorem d10_15 : decode cB10 15 = .ok (.dup, 1) := by decide +kernel
theorem d10_16 : decode cB10 16 = .ok (.istore_n 3, 1) := by decide +kernel
theorem d10_17 : decode cB10 17 = .ok (.laload, 1) := by decide +kernel
theorem d10_18 : decode cB10 18 = .ok (.lstore 5, 2) := by decide +kernel
theorem d10_20 : decode cB10 20 = .ok (.lload 5, 2) := by decide +kernel
theorem d10_22 : decode cB10 22 = .ok (.aload_n 0, 1) := by decide +kernel
theorem d10_23 : decode cB10 23 = .ok (.iload_n 3, 1) := by decide +kernel
theorem d10_24 : decode cB10 24 = .ok (.iconst 1, 1) := by decide +kernel
theorem d10_25 : decode cB10 25 = .ok (.isub, 1) := by decide +kernel
theorem d10_26 : decode cB10 26 = .ok (.laload, 1) := by decide +kernel
theorem d10_27 : decode cB10 27 = .ok (.lcmp, 1) := by decide +kernel
theorem d10_28 : decode cB10 28 = .ok (.ifCond .ge 38, 3) := by decide +kernel
theorem d10_31 : decode cB10 31 = .ok (.iinc 3 (-1), 3) := by decide +kernel
theorem d10_34 : decode cB10 34 = .ok (.iload_n 3, 1) := by decide +kernel
theorem d10_35 : decode cB10 35 = .ok (.iload_n 1, 1) := by decide +kernel
theorem d10_36 : decode cB10 36 = .ok (.if_icmp .lt 23, 3) := by decide +kernel
theorem d10_39 : decode cB10 39 = .ok (.lload 5, 2) := by decide +kernel
theorem d10_41 : decode cB10 41 = .ok (.aload_n 0, 1) := by decide +kernel
theorem d10_42 : decode cB10 42 = .ok (.iload_n 3, 1) := by decide +kernel
theorem d10_43 : decode cB10 43 = .ok (.laload, 1) := by decide +kernel
theorem d10_44 : decode cB10 44 = .ok (.lcmp, 1) := by decide +kernel
theorem d10_45 : decode cB10 45 = .ok (.ifCond .ge 14, 3) := by decide +kernel
theorem d10_48 : decode cB10 48 = .ok (.aload_n 0, 1) := by decide +kernel
theorem d10_49 : decode cB10 49 = .ok (.iload_n 3, 1) := by decide +kernel
theorem d10_50 : decode cB10 50 = .ok (.iconst 1, 1) := by decide +kernel
theorem d10_51 : decode cB10 51 = .ok (.iadd, 1) := by decide +kernel
theorem d10_52 : decode cB10 52 = .ok (.aload_n 0, 1) := by decide +kernel
theorem d10_53 : decode cB10 53 = .ok (.iload_n 3, 1) := by decide +kernel
theorem d10_54 : decode cB10 54 = .ok (.laload, 1) := by decide +kernel
theorem d10_55 : decode cB10 55 = .ok (.lastore, 1) := by decide +kernel
theorem d10_56 : decode cB10 56 = .ok (.goto (-25), 3) := by decide +kernel
theorem d10_59 : decode cB10 59 = .ok (.aload_n 0, 1) := by decide +kernel
theorem d10_60 : decode cB10 60 = .ok (.iload_n 3, 1) := by decide +kernel
theorem d10_61 : decode cB10 61 = .ok (.iconst 1, 1) := by decide +kernel
theorem d10_62 : decode cB10 62 = .ok (.iadd, 1) := by decide +kernel
theorem d10_63 : decode cB10 63 = .ok (.lload 5, 2) := by decide +kernel
theorem d10_65 : decode cB10 65 = .ok (.lastore, 1) := by decide +kernel
theorem d10_66 : decode cB10 66 = .ok (.goto (-63), 3) := by decide +kernel
theorem d10_69 : decode cB10 69 = .ok (.return_, 1) := by decide +kernel
theorem pn3 : plainName "java/util/DualPivotQuicksort" = true := by first | (simp [plainName, overriddenIn]; done) | decide +kernel
def f10_a1_0 (t0 : Int64) (t1 : Int64) (t2 : Int64) : Int64 := (if t1 < t0 then (if t2 < t0 then (if t2 < t1 then t2 else t1) else t1) else (if t2 < t1 then (if t2 < t0 then t2 else t0) else t0))
def f10_a1_1 (t0 : Int64) (t1 : Int64) (t2 : Int64) : Int64 := (if t1 < t0 then (if t2 < t0 then (if t2 < t1 then t1 else t2) else t0) else (if t2 < t1 then (if t2 < t0 then t0 else t2) else t1))
def f10_a1_2 (t0 : Int64) (t1 : Int64) (t2 : Int64) : Int64 := (if t1 < t0 then (if t2 < t0 then t0 else t2) else (if t2 < t1 then t1 else t2))
def Q10 (Z : State) (a1 : Addr) (t0 : Int64) (t1 : Int64) (t2 : Int64) (k_P : ClassId) (h0 : Heap) (n0 : Nat) (v : Option Value) (h : Heap) (L : List Loc) : Prop := v = none ∧ Fr n0 L ∧ Keep h0 h [a1] ∧ Arv Z h a1 k_P .long (3 : Int32) [(.long (f10_a1_0 t0 t1 t2)), (.long (f10_a1_1 t0 t1 t2)), (.long (f10_a1_2 t0 t1 t2))] (.long (0 : Int64))
theorem ef10 (m : MethodId) (x0 : Addr) : entryFrame m #[(.ref x0), (.int (0 : Int32)), (.int (3 : Int32))] 7 = mkF m 0 #[.val (.ref x0), .val (.int (0 : Int32)), .val (.int (3 : Int32)), .unset, .unset, .unset, .unset] [] := by first | (simp [entryFrame, mkF, argsToLocals, Value.category]; done) | rfl
theorem rm10 (l : Launch) (Z : State) (a0 : Array Value) (hw : HW a0 Z) (ws : List Jvm.Cond) (a1 : Addr) (t0 : Int64) (t1 : Int64) (t2 : Int64) (k_P : ClassId) (h0 : Heap) (n0 : Nat) (Z0 : n0 ≤ h0.size) (V_P : Arv Z h0 a1 k_P .long (3 : Int32) [(.long t0), (.long t1), (.long t2)] (.long (0 : Int64))) (g_a1 : n0 ≤ a1) :
  MetFree l (⟨"java/util/DualPivotQuicksort", "insertionSort", "([JII)V"⟩ : MethodName) (head1 (Jvm.Cond.code (⟨"java/util/DualPivotQuicksort", "insertionSort", "([JII)V"⟩ : MethodName) cB10 7 none :: ws) (Rm 0 0 0 0)) (Pr Z h0 #[(.ref a1), (.int (0 : Int32)), (.int (3 : Int32))]) Tr (fun _ U o U' => ∃ v L, o = .returned v ∧ Q10 Z a1 t0 t1 t2 k_P h0 n0 v U'.heap L ∧ FrameEnd U o U' L (Rm 0 0 0 0).cells (Rm 0 0 0 0).slots) := by
 refine MetFree.of_bodySF (plainFor_of_name pn3) hisR ?_
 intro p e s m args below meth c s₁ Bd hml0 hP hK
 obtain ⟨rfl, hZ, hh⟩ := hP
 have hx := Bd.exec
 have hby := Bd.bytes
 have hml : c.maxLocals = 7 := hml0
 have hown : s.vm.findClass "java/util/DualPivotQuicksort" = some m.cls := findClass_of_methodNamed Bd.named
 have hnm := (name_of_methodNamed Bd.named Bd.method).1
 have X0 : Stand p l e (Rm 0 0 0 0) s m #[(.ref a1), (.int (0 : Int32)), (.int (3 : Int32))] below meth c s₁ [] 0 0 := Stand.of_body Bd
 have e0 : s₁.heap = h0 := by rw [← hh, Bd.state]; rfl
 have N0 := Fr.nil n0
 have K0 : Keep h0 h0 [a1] := Keep.refl h0 _
 refine G (P := fun o U' => ∃ v L, o = .returned v ∧ Q10 Z a1 t0 t1 t2 k_P h0 n0 v U'.heap L ∧ FrameEnd s o U' L (Rm 0 0 0 0).cells (Rm 0 0 0 0).slots) (fun t k => castTop (ef10 m a1) k) ?_
 show Go _ _ _ (s₁.setTop (mkF m 0 #[vr a1, vi 0, vi 3, us, us, us, us] [])) _
 refine G (fun t k => XS.iloadN X0.here hx rfl (hb hby d10_0) rfl (XS.istore X0.here hx rfl (hb hby d10_1) rfl (l' := #[vr a1, vi 0, vi 3, us, vi 0, us, us]) rfl (XS.iinc X0.here hx rfl (hb hby d10_3) rfl (l' := #[vr a1, vi 0, vi 3, us, vi ((0 : Int32) + (1 : Int32)), us, us]) rfl (XS.iload X0.here hx rfl (hb hby d10_6) rfl (XS.iloadN X0.here hx rfl (hb hby d10_8) rfl (XS.icmpNo X0.here hx rfl (hb hby d10_9) rfl (tlt (by decide : (1 : Int32) < (3 : Int32))).2.1 k)))))) ?_
 refine G (fun t k => XS.aloadN X0.here hx rfl (hb hby d10_12) rfl rfl k) ?_
 show Go _ _ _ (s₁.setTop (mkF m 13 #[vr a1, vi 0, vi 3, us, vi 1, us, us] [(.ref a1)])) _
 refine G (fun t k => XS.iload X0.here hx rfl (hb hby d10_13) rfl (XS.dup X0.here hx rfl (hb hby d10_15) rfl rfl (XS.istoreN X0.here hx rfl (hb hby d10_16) rfl (l' := #[vr a1, vi 0, vi 3, vi 1, vi 1, us, us]) rfl k))) ?_
 obtain ⟨cl1, Ar1, -, Sz1, Ng1, Hs1, -⟩ := id V_P
 have hin1 := inb_of (j := (1 : Int32)) (c := cl1) Sz1 ⟨by decide, by decide⟩
 refine G (fun t k => X0.laload hx (j := (1 : Int32)) (v := (.long t1)) (by rw [e0]; exact Ar1.1) (State.isArrayOf_alike hZ.alike Ar1.2.1) Ar1.2.2 hin1 (Has.at Hs1 hin1 rfl) (g := (mkF m 17 #[vr a1, vi 0, vi 3, vi 1, vi 1, us, us] [(.int 1), (.ref a1)])) rfl rfl (hb hby d10_17) _ k) ?_
 clear hin1 Hs1 Ng1 Sz1 Ar1 cl1
 refine G (fun t k => XS.lstore X0.here hx rfl (hb hby d10_18) rfl (l' := #[vr a1, vi 0, vi 3, vi 1, vi 1, vj t1, .second]) rfl (XS.lload X0.here hx rfl (hb hby d10_20) rfl (XS.aloadN X0.here hx rfl (hb hby d10_22) rfl rfl k))) ?_
 show Go _ _ _ (s₁.setTop (mkF m 23 #[vr a1, vi 0, vi 3, vi 1, vi 1, vj t1, .second] [(.ref a1), (.long t1)])) _
 refine G (fun t k => XS.iloadN X0.here hx rfl (hb hby d10_23) rfl (XS.iconst X0.here hx rfl (hb hby d10_24) (XS.isub X0.here hx rfl (hb hby d10_25) rfl k))) ?_
 obtain ⟨cl2, Ar2, -, Sz2, Ng2, Hs2, -⟩ := id V_P
 have hin2 := inb_of (j := (0 : Int32)) (c := cl2) Sz2 ⟨by decide, by decide⟩
 refine G (fun t k => X0.laload hx (j := (0 : Int32)) (v := (.long t0)) (by rw [e0]; exact Ar2.1) (State.isArrayOf_alike hZ.alike Ar2.2.1) Ar2.2.2 hin2 (Has.at Hs2 hin2 rfl) (g := (mkF m 26 #[vr a1, vi 0, vi 3, vi 1, vi 1, vj t1, .second] [(.int 0), (.ref a1), (.long t1)])) rfl rfl (hb hby d10_26) _ k) ?_
 clear hin2 Hs2 Ng2 Sz2 Ar2 cl2
 refine G (fun t k => XS.lcmp X0.here hx rfl (hb hby d10_27) rfl k) ?_
 by_cases hc3 : t1 < t0
 ·refine G (fun t k => XS.ifNo X0.here hx rfl (hb hby d10_28) rfl ((if0 _ _).trans (tlt ((lw_lt t1 t0).mpr hc3)).2.1) (XS.iinc X0.here hx rfl (hb hby d10_31) rfl (l' := #[vr a1, vi 0, vi 3, vi ((1 : Int32) + (-1 : Int32)), vi 1, vj t1, .second]) rfl k)) ?_
  show Go _ _ _ (s₁.setTop (mkF m 34 #[vr a1, vi 0, vi 3, vi 0, vi 1, vj t1, .second] [])) _
  refine G (fun t k => XS.iloadN X0.here hx rfl (hb hby d10_34) rfl (XS.iloadN X0.here hx rfl (hb hby d10_35) rfl (XS.icmpNo X0.here hx rfl (hb hby d10_36) rfl (flt (by decide : ¬ ((0 : Int32) < (0 : Int32)))).1 (XS.lload X0.here hx rfl (hb hby d10_39) rfl (XS.aloadN X0.here hx rfl (hb hby d10_41) rfl rfl (XS.iloadN X0.here hx rfl (hb hby d10_42) rfl k)))))) ?_
  obtain ⟨cl4, Ar4, -, Sz4, Ng4, Hs4, -⟩ := id V_P
  have hin4 := inb_of (j := (0 : Int32)) (c := cl4) Sz4 ⟨by decide, by decide⟩
  refine G (fun t k => X0.laload hx (j := (0 : Int32)) (v := (.long t0)) (by rw [e0]; exact Ar4.1) (State.isArrayOf_alike hZ.alike Ar4.2.1) Ar4.2.2 hin4 (Has.at Hs4 hin4 rfl) (g := (mkF m 43 #[vr a1, vi 0, vi 3, vi 0, vi 1, vj t1, .second] [(.int 0), (.ref a1), (.long t1)])) rfl rfl (hb hby d10_43) _ k) ?_
  clear hin4 Hs4 Ng4 Sz4 Ar4 cl4
  show Go _ _ _ (s₁.setTop (mkF m 44 #[vr a1, vi 0, vi 3, vi 0, vi 1, vj t1, .second] [(.long t0), (.long t1)])) _
  refine G (fun t k => XS.lcmp X0.here hx rfl (hb hby d10_44) rfl (XS.ifNo X0.here hx rfl (hb hby d10_45) rfl ((if0 _ _).trans (tlt ((lw_lt t1 t0).mpr hc3)).2.1) (XS.aloadN X0.here hx rfl (hb hby d10_48) rfl rfl (XS.iloadN X0.here hx rfl (hb hby d10_49) rfl (XS.iconst X0.here hx rfl (hb hby d10_50) (XS.iadd X0.here hx rfl (hb hby d10_51) rfl k)))))) ?_
  refine G (fun t k => XS.aloadN X0.here hx rfl (hb hby d10_52) rfl rfl k) ?_
  show Go _ _ _ (s₁.setTop (mkF m 53 #[vr a1, vi 0, vi 3, vi 0, vi 1, vj t1, .second] [(.ref a1), (.int 1), (.ref a1)])) _
  refine G (fun t k => XS.iloadN X0.here hx rfl (hb hby d10_53) rfl k) ?_
  obtain ⟨cl5, Ar5, -, Sz5, Ng5, Hs5, -⟩ := id V_P
  have hin5 := inb_of (j := (0 : Int32)) (c := cl5) Sz5 ⟨by decide, by decide⟩
  refine G (fun t k => X0.laload hx (j := (0 : Int32)) (v := (.long t0)) (by rw [e0]; exact Ar5.1) (State.isArrayOf_alike hZ.alike Ar5.2.1) Ar5.2.2 hin5 (Has.at Hs5 hin5 rfl) (g := (mkF m 54 #[vr a1, vi 0, vi 3, vi 0, vi 1, vj t1, .second] [(.int 0), (.ref a1), (.int 1), (.ref a1)])) rfl rfl (hb hby d10_54) _ k) ?_
  clear hin5 Hs5 Ng5 Sz5 Ar5 cl5
  obtain ⟨cl6, Ar6, qq6, Sz6, Ng6, Hs6, Gs6⟩ := id V_P
  have hin6 := inb_of (j := (1 : Int32)) (c := cl6) Sz6 ⟨by decide, by decide⟩
  obtain ⟨T7, h7, X7, e7, W7, st7⟩ := stJ X0 hx hZ e0 Ar6 (j := (1 : Int32)) hin6 (g := (mkF m 55 #[vr a1, vi 0, vi 3, vi 0, vi 1, vj t1, .second] [(.long t0), (.int 1), (.ref a1)])) rfl rfl (hb hby d10_55)
  refine G st7 ?_
  have N7 := Fr.snoc X7 N0 g_a1
  replace Z0 := Nat.le_trans Z0 (Nat.le_of_eq W7.size.symm)
  replace K0 := K0.wr W7 (Or.inl (by simp))
  replace V_P : Arv Z h7 a1 k_P .long (3 : Int32) [(.long t0), (.long t0), (.long t2)] (.long (0 : Int64)) := Arv.set Ar6 qq6 Sz6 Ng6 Hs6 Gs6 rfl W7 1 rfl (Nat.le_of_ble_eq_true rfl)
  clear hin6 Gs6 Hs6 Ng6 Sz6 qq6 Ar6 cl6
  refine G (fun t k => XS.goto X7.here hx rfl (pc0 := 56) (pc' := 31) rfl (hb hby d10_56) (by decide) (by decide) (XS.iinc X7.here hx rfl (hb hby d10_31) rfl (l' := #[vr a1, vi 0, vi 3, vi ((0 : Int32) + (-1 : Int32)), vi 1, vj t1, .second]) rfl (XS.iloadN X7.here hx rfl (hb hby d10_34) rfl (XS.iloadN X7.here hx rfl (hb hby d10_35) rfl k)))) ?_
  show Go _ _ _ (T7.setTop (mkF m 36 #[vr a1, vi 0, vi 3, vi (-1), vi 1, vj t1, .second] [(.int 0), (.int (-1))])) _
  refine G (fun t k => XS.icmpYes X7.here hx rfl (pc0 := 36) (pc' := 59) rfl (hb hby d10_36) rfl (tlt (by decide : (-1 : Int32) < (0 : Int32))).1 (by decide) (by decide) (XS.aloadN X7.here hx rfl (hb hby d10_59) rfl rfl (XS.iloadN X7.here hx rfl (hb hby d10_60) rfl (XS.iconst X7.here hx rfl (hb hby d10_61) (XS.iadd X7.here hx rfl (hb hby d10_62) rfl (XS.lload X7.here hx rfl (hb hby d10_63) rfl k)))))) ?_
  obtain ⟨cl8, Ar8, qq8, Sz8, Ng8, Hs8, Gs8⟩ := id V_P
  have hin8 := inb_of (j := (0 : Int32)) (c := cl8) Sz8 ⟨by decide, by decide⟩
  obtain ⟨T9, h9, X9, e9, W9, st9⟩ := stJ X7 hx hZ e7 Ar8 (j := (0 : Int32)) hin8 (g := (mkF m 65 #[vr a1, vi 0, vi 3, vi (-1), vi 1, vj t1, .second] [(.long t1), (.int 0), (.ref a1)])) rfl rfl (hb hby d10_65)
  refine G st9 ?_
  have N9 := Fr.snoc X9 N7 g_a1
  replace Z0 := Nat.le_trans Z0 (Nat.le_of_eq W9.size.symm)
  replace K0 := K0.wr W9 (Or.inl (by simp))
  replace V_P : Arv Z h9 a1 k_P .long (3 : Int32) [(.long t1), (.long t0), (.long t2)] (.long (0 : Int64)) := Arv.set Ar8 qq8 Sz8 Ng8 Hs8 Gs8 rfl W9 0 rfl (Nat.le_of_ble_eq_true rfl)
  clear hin8 Gs8 Hs8 Ng8 Sz8 qq8 Ar8 cl8
  show Go _ _ _ (T9.setTop (mkF m 66 #[vr a1, vi 0, vi 3, vi (-1), vi 1, vj t1, .second] [])) _
  refine G (fun t k => XS.goto X9.here hx rfl (pc0 := 66) (pc' := 3) rfl (hb hby d10_66) (by decide) (by decide) (XS.iinc X9.here hx rfl (hb hby d10_3) rfl (l' := #[vr a1, vi 0, vi 3, vi (-1), vi ((1 : Int32) + (1 : Int32)), vj t1, .second]) rfl (XS.iload X9.here hx rfl (hb hby d10_6) rfl (XS.iloadN X9.here hx rfl (hb hby d10_8) rfl (XS.icmpNo X9.here hx rfl (hb hby d10_9) rfl (tlt (by decide : (2 : Int32) < (3 : Int32))).2.1 (XS.aloadN X9.here hx rfl (hb hby d10_12) rfl rfl k)))))) ?_
  refine G (fun t k => XS.iload X9.here hx rfl (hb hby d10_13) rfl k) ?_
  show Go _ _ _ (T9.setTop (mkF m 15 #[vr a1, vi 0, vi 3, vi (-1), vi 2, vj t1, .second] [(.int 2), (.ref a1)])) _
  refine G (fun t k => XS.dup X9.here hx rfl (hb hby d10_15) rfl rfl (XS.istoreN X9.here hx rfl (hb hby d10_16) rfl (l' := #[vr a1, vi 0, vi 3, vi 2, vi 2, vj t1, .second]) rfl k)) ?_
  obtain ⟨cl10, Ar10, -, Sz10, Ng10, Hs10, -⟩ := id V_P
  have hin10 := inb_of (j := (2 : Int32)) (c := cl10) Sz10 ⟨by decide, by decide⟩
  refine G (fun t k => X9.laload hx (j := (2 : Int32)) (v := (.long t2)) (by rw [e9]; exact Ar10.1) (State.isArrayOf_alike hZ.alike Ar10.2.1) Ar10.2.2 hin10 (Has.at Hs10 hin10 rfl) (g := (mkF m 17 #[vr a1, vi 0, vi 3, vi 2, vi 2, vj t1, .second] [(.int 2), (.ref a1)])) rfl rfl (hb hby d10_17) _ k) ?_
  clear hin10 Hs10 Ng10 Sz10 Ar10 cl10
  refine G (fun t k => XS.lstore X9.here hx rfl (hb hby d10_18) rfl (l' := #[vr a1, vi 0, vi 3, vi 2, vi 2, vj t2, .second]) rfl (XS.lload X9.here hx rfl (hb hby d10_20) rfl (XS.aloadN X9.here hx rfl (hb hby d10_22) rfl rfl (XS.iloadN X9.here hx rfl (hb hby d10_23) rfl k)))) ?_
  show Go _ _ _ (T9.setTop (mkF m 24 #[vr a1, vi 0, vi 3, vi 2, vi 2, vj t2, .second] [(.int 2), (.ref a1), (.long t2)])) _
  refine G (fun t k => XS.iconst X9.here hx rfl (hb hby d10_24) (XS.isub X9.here hx rfl (hb hby d10_25) rfl k)) ?_
  obtain ⟨cl11, Ar11, -, Sz11, Ng11, Hs11, -⟩ := id V_P
  have hin11 := inb_of (j := (1 : Int32)) (c := cl11) Sz11 ⟨by decide, by decide⟩
  refine G (fun t k => X9.laload hx (j := (1 : Int32)) (v := (.long t0)) (by rw [e9]; exact Ar11.1) (State.isArrayOf_alike hZ.alike Ar11.2.1) Ar11.2.2 hin11 (Has.at Hs11 hin11 rfl) (g := (mkF m 26 #[vr a1, vi 0, vi 3, vi 2, vi 2, vj t2, .second] [(.int 1), (.ref a1), (.long t2)])) rfl rfl (hb hby d10_26) _ k) ?_
  clear hin11 Hs11 Ng11 Sz11 Ar11 cl11
  refine G (fun t k => XS.lcmp X9.here hx rfl (hb hby d10_27) rfl k) ?_
  by_cases hc12 : t2 < t0
  ·refine G (fun t k => XS.ifNo X9.here hx rfl (hb hby d10_28) rfl ((if0 _ _).trans (tlt ((lw_lt t2 t0).mpr hc12)).2.1) (XS.iinc X9.here hx rfl (hb hby d10_31) rfl (l' := #[vr a1, vi 0, vi 3, vi ((2 : Int32) + (-1 : Int32)), vi 2, vj t2, .second]) rfl (XS.iloadN X9.here hx rfl (hb hby d10_34) rfl k))) ?_
   show Go _ _ _ (T9.setTop (mkF m 35 #[vr a1, vi 0, vi 3, vi 1, vi 2, vj t2, .second] [(.int 1)])) _
   refine G (fun t k => XS.iloadN X9.here hx rfl (hb hby d10_35) rfl (XS.icmpNo X9.here hx rfl (hb hby d10_36) rfl (flt (by decide : ¬ ((1 : Int32) < (0 : Int32)))).1 (XS.lload X9.here hx rfl (hb hby d10_39) rfl (XS.aloadN X9.here hx rfl (hb hby d10_41) rfl rfl (XS.iloadN X9.here hx rfl (hb hby d10_42) rfl k))))) ?_
   obtain ⟨cl13, Ar13, -, Sz13, Ng13, Hs13, -⟩ := id V_P
   have hin13 := inb_of (j := (1 : Int32)) (c := cl13) Sz13 ⟨by decide, by decide⟩
   refine G (fun t k => X9.laload hx (j := (1 : Int32)) (v := (.long t0)) (by rw [e9]; exact Ar13.1) (State.isArrayOf_alike hZ.alike Ar13.2.1) Ar13.2.2 hin13 (Has.at Hs13 hin13 rfl) (g := (mkF m 43 #[vr a1, vi 0, vi 3, vi 1, vi 2, vj t2, .second] [(.int 1), (.ref a1), (.long t2)])) rfl rfl (hb hby d10_43) _ k) ?_
   clear hin13 Hs13 Ng13 Sz13 Ar13 cl13
   refine G (fun t k => XS.lcmp X9.here hx rfl (hb hby d10_44) rfl k) ?_
   show Go _ _ _ (T9.setTop (mkF m 45 #[vr a1, vi 0, vi 3, vi 1, vi 2, vj t2, .second] [(.int (lcmpW t2 t0))])) _
   refine G (fun t k => XS.ifNo X9.here hx rfl (hb hby d10_45) rfl ((if0 _ _).trans (tlt ((lw_lt t2 t0).mpr hc12)).2.1) (XS.aloadN X9.here hx rfl (hb hby d10_48) rfl rfl (XS.iloadN X9.here hx rfl (hb hby d10_49) rfl (XS.iconst X9.here hx rfl (hb hby d10_50) (XS.iadd X9.here hx rfl (hb hby d10_51) rfl (XS.aloadN X9.here hx rfl (hb hby d10_52) rfl rfl k)))))) ?_
   refine G (fun t k => XS.iloadN X9.here hx rfl (hb hby d10_53) rfl k) ?_
   show Go _ _ _ (T9.setTop (mkF m 54 #[vr a1, vi 0, vi 3, vi 1, vi 2, vj t2, .second] [(.int 1), (.ref a1), (.int 2), (.ref a1)])) _
   obtain ⟨cl14, Ar14, -, Sz14, Ng14, Hs14, -⟩ := id V_P
   have hin14 := inb_of (j := (1 : Int32)) (c := cl14) Sz14 ⟨by decide, by decide⟩
   refine G (fun t k => X9.laload hx (j := (1 : Int32)) (v := (.long t0)) (by rw [e9]; exact Ar14.1) (State.isArrayOf_alike hZ.alike Ar14.2.1) Ar14.2.2 hin14 (Has.at Hs14 hin14 rfl) (g := (mkF m 54 #[vr a1, vi 0, vi 3, vi 1, vi 2, vj t2, .second] [(.int 1), (.ref a1), (.int 2), (.ref a1)])) rfl rfl (hb hby d10_54) _ k) ?_
   clear hin14 Hs14 Ng14 Sz14 Ar14 cl14
   obtain ⟨cl15, Ar15, qq15, Sz15, Ng15, Hs15, Gs15⟩ := id V_P
   have hin15 := inb_of (j := (2 : Int32)) (c := cl15) Sz15 ⟨by decide, by decide⟩
   obtain ⟨T16, h16, X16, e16, W16, st16⟩ := stJ X9 hx hZ e9 Ar15 (j := (2 : Int32)) hin15 (g := (mkF m 55 #[vr a1, vi 0, vi 3, vi 1, vi 2, vj t2, .second] [(.long t0), (.int 2), (.ref a1)])) rfl rfl (hb hby d10_55)
   refine G st16 ?_
   have N16 := Fr.snoc X16 N9 g_a1
   replace Z0 := Nat.le_trans Z0 (Nat.le_of_eq W16.size.symm)
   replace K0 := K0.wr W16 (Or.inl (by simp))
   replace V_P : Arv Z h16 a1 k_P .long (3 : Int32) [(.long t1), (.long t0), (.long t0)] (.long (0 : Int64)) := Arv.set Ar15 qq15 Sz15 Ng15 Hs15 Gs15 rfl W16 2 rfl (Nat.le_of_ble_eq_true rfl)
   clear hin15 Gs15 Hs15 Ng15 Sz15 qq15 Ar15 cl15
   refine G (fun t k => XS.goto X16.here hx rfl (pc0 := 56) (pc' := 31) rfl (hb hby d10_56) (by decide) (by decide) (XS.iinc X16.here hx rfl (hb hby d10_31) rfl (l' := #[vr a1, vi 0, vi 3, vi ((1 : Int32) + (-1 : Int32)), vi 2, vj t2, .second]) rfl (XS.iloadN X16.here hx rfl (hb hby d10_34) rfl (XS.iloadN X16.here hx rfl (hb hby d10_35) rfl (XS.icmpNo X16.here hx rfl (hb hby d10_36) rfl (flt (by decide : ¬ ((0 : Int32) < (0 : Int32)))).1 k))))) ?_
   show Go _ _ _ (T16.setTop (mkF m 39 #[vr a1, vi 0, vi 3, vi 0, vi 2, vj t2, .second] [])) _
   refine G (fun t k => XS.lload X16.here hx rfl (hb hby d10_39) rfl (XS.aloadN X16.here hx rfl (hb hby d10_41) rfl rfl (XS.iloadN X16.here hx rfl (hb hby d10_42) rfl k))) ?_
   obtain ⟨cl17, Ar17, -, Sz17, Ng17, Hs17, -⟩ := id V_P
   have hin17 := inb_of (j := (0 : Int32)) (c := cl17) Sz17 ⟨by decide, by decide⟩
   refine G (fun t k => X16.laload hx (j := (0 : Int32)) (v := (.long t1)) (by rw [e16]; exact Ar17.1) (State.isArrayOf_alike hZ.alike Ar17.2.1) Ar17.2.2 hin17 (Has.at Hs17 hin17 rfl) (g := (mkF m 43 #[vr a1, vi 0, vi 3, vi 0, vi 2, vj t2, .second] [(.int 0), (.ref a1), (.long t2)])) rfl rfl (hb hby d10_43) _ k) ?_
   clear hin17 Hs17 Ng17 Sz17 Ar17 cl17
   refine G (fun t k => XS.lcmp X16.here hx rfl (hb hby d10_44) rfl k) ?_
   by_cases hc18 : t2 < t1
   ·refine G (fun t k => XS.ifNo X16.here hx rfl (hb hby d10_45) rfl ((if0 _ _).trans (tlt ((lw_lt t2 t1).mpr hc18)).2.1) (XS.aloadN X16.here hx rfl (hb hby d10_48) rfl rfl k)) ?_
    show Go _ _ _ (T16.setTop (mkF m 49 #[vr a1, vi 0, vi 3, vi 0, vi 2, vj t2, .second] [(.ref a1)])) _
    refine G (fun t k => XS.iloadN X16.here hx rfl (hb hby d10_49) rfl (XS.iconst X16.here hx rfl (hb hby d10_50) (XS.iadd X16.here hx rfl (hb hby d10_51) rfl (XS.aloadN X16.here hx rfl (hb hby d10_52) rfl rfl (XS.iloadN X16.here hx rfl (hb hby d10_53) rfl k))))) ?_
    obtain ⟨cl19, Ar19, -, Sz19, Ng19, Hs19, -⟩ := id V_P
    have hin19 := inb_of (j := (0 : Int32)) (c := cl19) Sz19 ⟨by decide, by decide⟩
    refine G (fun t k => X16.laload hx (j := (0 : Int32)) (v := (.long t1)) (by rw [e16]; exact Ar19.1) (State.isArrayOf_alike hZ.alike Ar19.2.1) Ar19.2.2 hin19 (Has.at Hs19 hin19 rfl) (g := (mkF m 54 #[vr a1, vi 0, vi 3, vi 0, vi 2, vj t2, .second] [(.int 0), (.ref a1), (.int 1), (.ref a1)])) rfl rfl (hb hby d10_54) _ k) ?_
    clear hin19 Hs19 Ng19 Sz19 Ar19 cl19
    obtain ⟨cl20, Ar20, qq20, Sz20, Ng20, Hs20, Gs20⟩ := id V_P
    have hin20 := inb_of (j := (1 : Int32)) (c := cl20) Sz20 ⟨by decide, by decide⟩
    obtain ⟨T21, h21, X21, e21, W21, st21⟩ := stJ X16 hx hZ e16 Ar20 (j := (1 : Int32)) hin20 (g := (mkF m 55 #[vr a1, vi 0, vi 3, vi 0, vi 2, vj t2, .second] [(.long t1), (.int 1), (.ref a1)])) rfl rfl (hb hby d10_55)
    refine G st21 ?_
    have N21 := Fr.snoc X21 N16 g_a1
    obtain ⟨LL21, X21, N21⟩ : ∃ LL, Stand p l e (Rm 0 0 0 0) s m #[(.ref a1), (.int (0 : Int32)), (.int (3 : Int32))] below meth c T21 LL 0 0 ∧ Fr n0 LL := ⟨_, X21, N21⟩
    replace Z0 := Nat.le_trans Z0 (Nat.le_of_eq W21.size.symm)
    replace K0 := K0.wr W21 (Or.inl (by simp))
    replace V_P : Arv Z h21 a1 k_P .long (3 : Int32) [(.long t1), (.long t1), (.long t0)] (.long (0 : Int64)) := Arv.set Ar20 qq20 Sz20 Ng20 Hs20 Gs20 rfl W21 1 rfl (Nat.le_of_ble_eq_true rfl)
    clear hin20 Gs20 Hs20 Ng20 Sz20 qq20 Ar20 cl20
    show Go _ _ _ (T21.setTop (mkF m 56 #[vr a1, vi 0, vi 3, vi 0, vi 2, vj t2, .second] [])) _
    refine G (fun t k => XS.goto X21.here hx rfl (pc0 := 56) (pc' := 31) rfl (hb hby d10_56) (by decide) (by decide) (XS.iinc X21.here hx rfl (hb hby d10_31) rfl (l' := #[vr a1, vi 0, vi 3, vi ((0 : Int32) + (-1 : Int32)), vi 2, vj t2, .second]) rfl (XS.iloadN X21.here hx rfl (hb hby d10_34) rfl (XS.iloadN X21.here hx rfl (hb hby d10_35) rfl (XS.icmpYes X21.here hx rfl (pc0 := 36) (pc' := 59) rfl (hb hby d10_36) rfl (tlt (by decide : (-1 : Int32) < (0 : Int32))).1 (by decide) (by decide) (XS.aloadN X21.here hx rfl (hb hby d10_59) rfl rfl k)))))) ?_
    refine G (fun t k => XS.iloadN X21.here hx rfl (hb hby d10_60) rfl k) ?_
    show Go _ _ _ (T21.setTop (mkF m 61 #[vr a1, vi 0, vi 3, vi (-1), vi 2, vj t2, .second] [(.int (-1)), (.ref a1)])) _
    refine G (fun t k => XS.iconst X21.here hx rfl (hb hby d10_61) (XS.iadd X21.here hx rfl (hb hby d10_62) rfl (XS.lload X21.here hx rfl (hb hby d10_63) rfl k))) ?_
    obtain ⟨cl22, Ar22, qq22, Sz22, Ng22, Hs22, Gs22⟩ := id V_P
    have hin22 := inb_of (j := (0 : Int32)) (c := cl22) Sz22 ⟨by decide, by decide⟩
    obtain ⟨T23, h23, X23, e23, W23, st23⟩ := stJ X21 hx hZ e21 Ar22 (j := (0 : Int32)) hin22 (g := (mkF m 65 #[vr a1, vi 0, vi 3, vi (-1), vi 2, vj t2, .second] [(.long t2), (.int 0), (.ref a1)])) rfl rfl (hb hby d10_65)
    refine G st23 ?_
    have N23 := Fr.snoc X23 N21 g_a1
    replace Z0 := Nat.le_trans Z0 (Nat.le_of_eq W23.size.symm)
    replace K0 := K0.wr W23 (Or.inl (by simp))
    replace V_P : Arv Z h23 a1 k_P .long (3 : Int32) [(.long t2), (.long t1), (.long t0)] (.long (0 : Int64)) := Arv.set Ar22 qq22 Sz22 Ng22 Hs22 Gs22 rfl W23 0 rfl (Nat.le_of_ble_eq_true rfl)
    clear hin22 Gs22 Hs22 Ng22 Sz22 qq22 Ar22 cl22
    refine G (fun t k => XS.goto X23.here hx rfl (pc0 := 66) (pc' := 3) rfl (hb hby d10_66) (by decide) (by decide) (XS.iinc X23.here hx rfl (hb hby d10_3) rfl (l' := #[vr a1, vi 0, vi 3, vi (-1), vi ((2 : Int32) + (1 : Int32)), vj t2, .second]) rfl (XS.iload X23.here hx rfl (hb hby d10_6) rfl k))) ?_
    show Go _ _ _ (T23.setTop (mkF m 8 #[vr a1, vi 0, vi 3, vi (-1), vi 3, vj t2, .second] [(.int 3)])) _
    refine G (fun t k => XS.iloadN X23.here hx rfl (hb hby d10_8) rfl (XS.icmpYes X23.here hx rfl (pc0 := 9) (pc' := 69) rfl (hb hby d10_9) rfl (flt (by decide : ¬ ((3 : Int32) < (3 : Int32)))).2.1 (by decide) (by decide) k)) ?_
    obtain ⟨fs, hr, hrun, hended, hW, hsame⟩ := X23.leave (v := none) (fun _ => rfl)
    refine Go.fin (X23.returnOut hx Bd.returns (hb hby d10_69) hr) hrun hended ⟨_, _, rfl, ?_, ⟨_, rfl⟩, hW, hsame.mono (by decide) (by decide)⟩
    show Q10 Z a1 t0 t1 t2 k_P h0 n0 _ T23.heap _
    rw [e23]
    exact ⟨rfl, N23, K0, (by unfold f10_a1_0 f10_a1_1 f10_a1_2; simp only [if_pos hc3, if_pos hc12, if_pos hc18]; exact V_P)⟩
   ·refine G (fun t k => XS.ifYes X16.here hx rfl (pc0 := 45) (pc' := 59) rfl (hb hby d10_45) rfl ((if0 _ _).trans (flt (fun z => hc18 ((lw_lt t2 t1).mp z))).2.1) (by decide) (by decide) (XS.aloadN X16.here hx rfl (hb hby d10_59) rfl rfl k)) ?_
    show Go _ _ _ (T16.setTop (mkF m 60 #[vr a1, vi 0, vi 3, vi 0, vi 2, vj t2, .second] [(.ref a1)])) _
    refine G (fun t k => XS.iloadN X16.here hx rfl (hb hby d10_60) rfl (XS.iconst X16.here hx rfl (hb hby d10_61) (XS.iadd X16.here hx rfl (hb hby d10_62) rfl (XS.lload X16.here hx rfl (hb hby d10_63) rfl k)))) ?_
    obtain ⟨cl24, Ar24, qq24, Sz24, Ng24, Hs24, Gs24⟩ := id V_P
    have hin24 := inb_of (j := (1 : Int32)) (c := cl24) Sz24 ⟨by decide, by decide⟩
    obtain ⟨T25, h25, X25, e25, W25, st25⟩ := stJ X16 hx hZ e16 Ar24 (j := (1 : Int32)) hin24 (g := (mkF m 65 #[vr a1, vi 0, vi 3, vi 0, vi 2, vj t2, .second] [(.long t2), (.int 1), (.ref a1)])) rfl rfl (hb hby d10_65)
    refine G st25 ?_
    have N25 := Fr.snoc X25 N16 g_a1
    obtain ⟨LL25, X25, N25⟩ : ∃ LL, Stand p l e (Rm 0 0 0 0) s m #[(.ref a1), (.int (0 : Int32)), (.int (3 : Int32))] below meth c T25 LL 0 0 ∧ Fr n0 LL := ⟨_, X25, N25⟩
    replace Z0 := Nat.le_trans Z0 (Nat.le_of_eq W25.size.symm)
    replace K0 := K0.wr W25 (Or.inl (by simp))
    replace V_P : Arv Z h25 a1 k_P .long (3 : Int32) [(.long t1), (.long t2), (.long t0)] (.long (0 : Int64)) := Arv.set Ar24 qq24 Sz24 Ng24 Hs24 Gs24 rfl W25 1 rfl (Nat.le_of_ble_eq_true rfl)
    clear hin24 Gs24 Hs24 Ng24 Sz24 qq24 Ar24 cl24
    refine G (fun t k => XS.goto X25.here hx rfl (pc0 := 66) (pc' := 3) rfl (hb hby d10_66) (by decide) (by decide) (XS.iinc X25.here hx rfl (hb hby d10_3) rfl (l' := #[vr a1, vi 0, vi 3, vi 0, vi ((2 : Int32) + (1 : Int32)), vj t2, .second]) rfl k)) ?_
    show Go _ _ _ (T25.setTop (mkF m 6 #[vr a1, vi 0, vi 3, vi 0, vi 3, vj t2, .second] [])) _
    refine G (fun t k => XS.iload X25.here hx rfl (hb hby d10_6) rfl (XS.iloadN X25.here hx rfl (hb hby d10_8) rfl (XS.icmpYes X25.here hx rfl (pc0 := 9) (pc' := 69) rfl (hb hby d10_9) rfl (flt (by decide : ¬ ((3 : Int32) < (3 : Int32)))).2.1 (by decide) (by decide) k))) ?_
    obtain ⟨fs, hr, hrun, hended, hW, hsame⟩ := X25.leave (v := none) (fun _ => rfl)
    refine Go.fin (X25.returnOut hx Bd.returns (hb hby d10_69) hr) hrun hended ⟨_, _, rfl, ?_, ⟨_, rfl⟩, hW, hsame.mono (by decide) (by decide)⟩
    show Q10 Z a1 t0 t1 t2 k_P h0 n0 _ T25.heap _
    rw [e25]
    exact ⟨rfl, N25, K0, (by unfold f10_a1_0 f10_a1_1 f10_a1_2; simp only [if_pos hc3, if_pos hc12, if_neg hc18]; exact V_P)⟩
  ·refine G (fun t k => XS.ifYes X9.here hx rfl (pc0 := 28) (pc' := 66) rfl (hb hby d10_28) rfl ((if0 _ _).trans (flt (fun z => hc12 ((lw_lt t2 t0).mp z))).2.1) (by decide) (by decide) (XS.goto X9.here hx rfl (pc0 := 66) (pc' := 3) rfl (hb hby d10_66) (by decide) (by decide) (XS.iinc X9.here hx rfl (hb hby d10_3) rfl (l' := #[vr a1, vi 0, vi 3, vi 2, vi ((2 : Int32) + (1 : Int32)), vj t2, .second]) rfl k))) ?_
   show Go _ _ _ (T9.setTop (mkF m 6 #[vr a1, vi 0, vi 3, vi 2, vi 3, vj t2, .second] [])) _
   refine G (fun t k => XS.iload X9.here hx rfl (hb hby d10_6) rfl (XS.iloadN X9.here hx rfl (hb hby d10_8) rfl (XS.icmpYes X9.here hx rfl (pc0 := 9) (pc' := 69) rfl (hb hby d10_9) rfl (flt (by decide : ¬ ((3 : Int32) < (3 : Int32)))).2.1 (by decide) (by decide) k))) ?_
   obtain ⟨fs, hr, hrun, hended, hW, hsame⟩ := X9.leave (v := none) (fun _ => rfl)
   refine Go.fin (X9.returnOut hx Bd.returns (hb hby d10_69) hr) hrun hended ⟨_, _, rfl, ?_, ⟨_, rfl⟩, hW, hsame.mono (by decide) (by decide)⟩
   show Q10 Z a1 t0 t1 t2 k_P h0 n0 _ T9.heap _
   rw [e9]
   exact ⟨rfl, N9, K0, (by unfold f10_a1_0 f10_a1_1 f10_a1_2; simp only [if_pos hc3, if_neg hc12]; exact V_P)⟩
 ·refine G (fun t k => XS.ifYes X0.here hx rfl (pc0 := 28) (pc' := 66) rfl (hb hby d10_28) rfl ((if0 _ _).trans (flt (fun z => hc3 ((lw_lt t1 t0).mp z))).2.1) (by decide) (by decide) (XS.goto X0.here hx rfl (pc0 := 66) (pc' := 3) rfl (hb hby d10_66) (by decide) (by decide) k)) ?_
  show Go _ _ _ (s₁.setTop (mkF m 3 #[vr a1, vi 0, vi 3, vi 1, vi 1, vj t1, .second] [])) _
  refine G (fun t k => XS.iinc X0.here hx rfl (hb hby d10_3) rfl (l' := #[vr a1, vi 0, vi 3, vi 1, vi ((1 : Int32) + (1 : Int32)), vj t1, .second]) rfl (XS.iload X0.here hx rfl (hb hby d10_6) rfl (XS.iloadN X0.here hx rfl (hb hby d10_8) rfl (XS.icmpNo X0.here hx rfl (hb hby d10_9) rfl (tlt (by decide : (2 : Int32) < (3 : Int32))).2.1 (XS.aloadN X0.here hx rfl (hb hby d10_12) rfl rfl (XS.iload X0.here hx rfl (hb hby d10_13) rfl k)))))) ?_
  refine G (fun t k => XS.dup X0.here hx rfl (hb hby d10_15) rfl rfl k) ?_
  show Go _ _ _ (s₁.setTop (mkF m 16 #[vr a1, vi 0, vi 3, vi 1, vi 2, vj t1, .second] [(.int 2), (.int 2), (.ref a1)])) _
  refine G (fun t k => XS.istoreN X0.here hx rfl (hb hby d10_16) rfl (l' := #[vr a1, vi 0, vi 3, vi 2, vi 2, vj t1, .second]) rfl k) ?_
  obtain ⟨cl26, Ar26, -, Sz26, Ng26, Hs26, -⟩ := id V_P
  have hin26 := inb_of (j := (2 : Int32)) (c := cl26) Sz26 ⟨by decide, by decide⟩
  refine G (fun t k => X0.laload hx (j := (2 : Int32)) (v := (.long t2)) (by rw [e0]; exact Ar26.1) (State.isArrayOf_alike hZ.alike Ar26.2.1) Ar26.2.2 hin26 (Has.at Hs26 hin26 rfl) (g := (mkF m 17 #[vr a1, vi 0, vi 3, vi 2, vi 2, vj t1, .second] [(.int 2), (.ref a1)])) rfl rfl (hb hby d10_17) _ k) ?_
  clear hin26 Hs26 Ng26 Sz26 Ar26 cl26
  refine G (fun t k => XS.lstore X0.here hx rfl (hb hby d10_18) rfl (l' := #[vr a1, vi 0, vi 3, vi 2, vi 2, vj t2, .second]) rfl (XS.lload X0.here hx rfl (hb hby d10_20) rfl (XS.aloadN X0.here hx rfl (hb hby d10_22) rfl rfl (XS.iloadN X0.here hx rfl (hb hby d10_23) rfl (XS.iconst X0.here hx rfl (hb hby d10_24) k))))) ?_
  show Go _ _ _ (s₁.setTop (mkF m 25 #[vr a1, vi 0, vi 3, vi 2, vi 2, vj t2, .second] [(.int 1), (.int 2), (.ref a1), (.long t2)])) _
  refine G (fun t k => XS.isub X0.here hx rfl (hb hby d10_25) rfl k) ?_
  obtain ⟨cl27, Ar27, -, Sz27, Ng27, Hs27, -⟩ := id V_P
  have hin27 := inb_of (j := (1 : Int32)) (c := cl27) Sz27 ⟨by decide, by decide⟩
  refine G (fun t k => X0.laload hx (j := (1 : Int32)) (v := (.long t1)) (by rw [e0]; exact Ar27.1) (State.isArrayOf_alike hZ.alike Ar27.2.1) Ar27.2.2 hin27 (Has.at Hs27 hin27 rfl) (g := (mkF m 26 #[vr a1, vi 0, vi 3, vi 2, vi 2, vj t2, .second] [(.int 1), (.ref a1), (.long t2)])) rfl rfl (hb hby d10_26) _ k) ?_
  clear hin27 Hs27 Ng27 Sz27 Ar27 cl27
  refine G (fun t k => XS.lcmp X0.here hx rfl (hb hby d10_27) rfl k) ?_
  by_cases hc28 : t2 < t1
  ·refine G (fun t k => XS.ifNo X0.here hx rfl (hb hby d10_28) rfl ((if0 _ _).trans (tlt ((lw_lt t2 t1).mpr hc28)).2.1) (XS.iinc X0.here hx rfl (hb hby d10_31) rfl (l' := #[vr a1, vi 0, vi 3, vi ((2 : Int32) + (-1 : Int32)), vi 2, vj t2, .second]) rfl (XS.iloadN X0.here hx rfl (hb hby d10_34) rfl (XS.iloadN X0.here hx rfl (hb hby d10_35) rfl k)))) ?_
   show Go _ _ _ (s₁.setTop (mkF m 36 #[vr a1, vi 0, vi 3, vi 1, vi 2, vj t2, .second] [(.int 0), (.int 1)])) _
   refine G (fun t k => XS.icmpNo X0.here hx rfl (hb hby d10_36) rfl (flt (by decide : ¬ ((1 : Int32) < (0 : Int32)))).1 (XS.lload X0.here hx rfl (hb hby d10_39) rfl (XS.aloadN X0.here hx rfl (hb hby d10_41) rfl rfl (XS.iloadN X0.here hx rfl (hb hby d10_42) rfl k)))) ?_
   obtain ⟨cl29, Ar29, -, Sz29, Ng29, Hs29, -⟩ := id V_P
   have hin29 := inb_of (j := (1 : Int32)) (c := cl29) Sz29 ⟨by decide, by decide⟩
   refine G (fun t k => X0.laload hx (j := (1 : Int32)) (v := (.long t1)) (by rw [e0]; exact Ar29.1) (State.isArrayOf_alike hZ.alike Ar29.2.1) Ar29.2.2 hin29 (Has.at Hs29 hin29 rfl) (g := (mkF m 43 #[vr a1, vi 0, vi 3, vi 1, vi 2, vj t2, .second] [(.int 1), (.ref a1), (.long t2)])) rfl rfl (hb hby d10_43) _ k) ?_
   clear hin29 Hs29 Ng29 Sz29 Ar29 cl29
   refine G (fun t k => XS.lcmp X0.here hx rfl (hb hby d10_44) rfl (XS.ifNo X0.here hx rfl (hb hby d10_45) rfl ((if0 _ _).trans (tlt ((lw_lt t2 t1).mpr hc28)).2.1) k)) ?_
   show Go _ _ _ (s₁.setTop (mkF m 48 #[vr a1, vi 0, vi 3, vi 1, vi 2, vj t2, .second] [])) _
   refine G (fun t k => XS.aloadN X0.here hx rfl (hb hby d10_48) rfl rfl (XS.iloadN X0.here hx rfl (hb hby d10_49) rfl (XS.iconst X0.here hx rfl (hb hby d10_50) (XS.iadd X0.here hx rfl (hb hby d10_51) rfl (XS.aloadN X0.here hx rfl (hb hby d10_52) rfl rfl (XS.iloadN X0.here hx rfl (hb hby d10_53) rfl k)))))) ?_
   obtain ⟨cl30, Ar30, -, Sz30, Ng30, Hs30, -⟩ := id V_P
   have hin30 := inb_of (j := (1 : Int32)) (c := cl30) Sz30 ⟨by decide, by decide⟩
   refine G (fun t k => X0.laload hx (j := (1 : Int32)) (v := (.long t1)) (by rw [e0]; exact Ar30.1) (State.isArrayOf_alike hZ.alike Ar30.2.1) Ar30.2.2 hin30 (Has.at Hs30 hin30 rfl) (g := (mkF m 54 #[vr a1, vi 0, vi 3, vi 1, vi 2, vj t2, .second] [(.int 1), (.ref a1), (.int 2), (.ref a1)])) rfl rfl (hb hby d10_54) _ k) ?_
   clear hin30 Hs30 Ng30 Sz30 Ar30 cl30
   show Go _ _ _ (s₁.setTop (mkF m 55 #[vr a1, vi 0, vi 3, vi 1, vi 2, vj t2, .second] [(.long t1), (.int 2), (.ref a1)])) _
   obtain ⟨cl31, Ar31, qq31, Sz31, Ng31, Hs31, Gs31⟩ := id V_P
   have hin31 := inb_of (j := (2 : Int32)) (c := cl31) Sz31 ⟨by decide, by decide⟩
   obtain ⟨T32, h32, X32, e32, W32, st32⟩ := stJ X0 hx hZ e0 Ar31 (j := (2 : Int32)) hin31 (g := (mkF m 55 #[vr a1, vi 0, vi 3, vi 1, vi 2, vj t2, .second] [(.long t1), (.int 2), (.ref a1)])) rfl rfl (hb hby d10_55)
   refine G st32 ?_
   have N32 := Fr.snoc X32 N0 g_a1
   replace Z0 := Nat.le_trans Z0 (Nat.le_of_eq W32.size.symm)
   replace K0 := K0.wr W32 (Or.inl (by simp))
   replace V_P : Arv Z h32 a1 k_P .long (3 : Int32) [(.long t0), (.long t1), (.long t1)] (.long (0 : Int64)) := Arv.set Ar31 qq31 Sz31 Ng31 Hs31 Gs31 rfl W32 2 rfl (Nat.le_of_ble_eq_true rfl)
   clear hin31 Gs31 Hs31 Ng31 Sz31 qq31 Ar31 cl31
   refine G (fun t k => XS.goto X32.here hx rfl (pc0 := 56) (pc' := 31) rfl (hb hby d10_56) (by decide) (by decide) (XS.iinc X32.here hx rfl (hb hby d10_31) rfl (l' := #[vr a1, vi 0, vi 3, vi ((1 : Int32) + (-1 : Int32)), vi 2, vj t2, .second]) rfl (XS.iloadN X32.here hx rfl (hb hby d10_34) rfl (XS.iloadN X32.here hx rfl (hb hby d10_35) rfl (XS.icmpNo X32.here hx rfl (hb hby d10_36) rfl (flt (by decide : ¬ ((0 : Int32) < (0 : Int32)))).1 (XS.lload X32.here hx rfl (hb hby d10_39) rfl k)))))) ?_
   show Go _ _ _ (T32.setTop (mkF m 41 #[vr a1, vi 0, vi 3, vi 0, vi 2, vj t2, .second] [(.long t2)])) _
   refine G (fun t k => XS.aloadN X32.here hx rfl (hb hby d10_41) rfl rfl (XS.iloadN X32.here hx rfl (hb hby d10_42) rfl k)) ?_
   obtain ⟨cl33, Ar33, -, Sz33, Ng33, Hs33, -⟩ := id V_P
   have hin33 := inb_of (j := (0 : Int32)) (c := cl33) Sz33 ⟨by decide, by decide⟩
   refine G (fun t k => X32.laload hx (j := (0 : Int32)) (v := (.long t0)) (by rw [e32]; exact Ar33.1) (State.isArrayOf_alike hZ.alike Ar33.2.1) Ar33.2.2 hin33 (Has.at Hs33 hin33 rfl) (g := (mkF m 43 #[vr a1, vi 0, vi 3, vi 0, vi 2, vj t2, .second] [(.int 0), (.ref a1), (.long t2)])) rfl rfl (hb hby d10_43) _ k) ?_
   clear hin33 Hs33 Ng33 Sz33 Ar33 cl33
   refine G (fun t k => XS.lcmp X32.here hx rfl (hb hby d10_44) rfl k) ?_
   by_cases hc34 : t2 < t0
   ·refine G (fun t k => XS.ifNo X32.here hx rfl (hb hby d10_45) rfl ((if0 _ _).trans (tlt ((lw_lt t2 t0).mpr hc34)).2.1) (XS.aloadN X32.here hx rfl (hb hby d10_48) rfl rfl (XS.iloadN X32.here hx rfl (hb hby d10_49) rfl k))) ?_
    show Go _ _ _ (T32.setTop (mkF m 50 #[vr a1, vi 0, vi 3, vi 0, vi 2, vj t2, .second] [(.int 0), (.ref a1)])) _
    refine G (fun t k => XS.iconst X32.here hx rfl (hb hby d10_50) (XS.iadd X32.here hx rfl (hb hby d10_51) rfl (XS.aloadN X32.here hx rfl (hb hby d10_52) rfl rfl (XS.iloadN X32.here hx rfl (hb hby d10_53) rfl k)))) ?_
    obtain ⟨cl35, Ar35, -, Sz35, Ng35, Hs35, -⟩ := id V_P
    have hin35 := inb_of (j := (0 : Int32)) (c := cl35) Sz35 ⟨by decide, by decide⟩
    refine G (fun t k => X32.laload hx (j := (0 : Int32)) (v := (.long t0)) (by rw [e32]; exact Ar35.1) (State.isArrayOf_alike hZ.alike Ar35.2.1) Ar35.2.2 hin35 (Has.at Hs35 hin35 rfl) (g := (mkF m 54 #[vr a1, vi 0, vi 3, vi 0, vi 2, vj t2, .second] [(.int 0), (.ref a1), (.int 1), (.ref a1)])) rfl rfl (hb hby d10_54) _ k) ?_
    clear hin35 Hs35 Ng35 Sz35 Ar35 cl35
    obtain ⟨cl36, Ar36, qq36, Sz36, Ng36, Hs36, Gs36⟩ := id V_P
    have hin36 := inb_of (j := (1 : Int32)) (c := cl36) Sz36 ⟨by decide, by decide⟩
    obtain ⟨T37, h37, X37, e37, W37, st37⟩ := stJ X32 hx hZ e32 Ar36 (j := (1 : Int32)) hin36 (g := (mkF m 55 #[vr a1, vi 0, vi 3, vi 0, vi 2, vj t2, .second] [(.long t0), (.int 1), (.ref a1)])) rfl rfl (hb hby d10_55)
    refine G st37 ?_
    have N37 := Fr.snoc X37 N32 g_a1
    replace Z0 := Nat.le_trans Z0 (Nat.le_of_eq W37.size.symm)
    replace K0 := K0.wr W37 (Or.inl (by simp))
    replace V_P : Arv Z h37 a1 k_P .long (3 : Int32) [(.long t0), (.long t0), (.long t1)] (.long (0 : Int64)) := Arv.set Ar36 qq36 Sz36 Ng36 Hs36 Gs36 rfl W37 1 rfl (Nat.le_of_ble_eq_true rfl)
    clear hin36 Gs36 Hs36 Ng36 Sz36 qq36 Ar36 cl36
    refine G (fun t k => XS.goto X37.here hx rfl (pc0 := 56) (pc' := 31) rfl (hb hby d10_56) (by decide) (by decide) k) ?_
    show Go _ _ _ (T37.setTop (mkF m 31 #[vr a1, vi 0, vi 3, vi 0, vi 2, vj t2, .second] [])) _
    refine G (fun t k => XS.iinc X37.here hx rfl (hb hby d10_31) rfl (l' := #[vr a1, vi 0, vi 3, vi ((0 : Int32) + (-1 : Int32)), vi 2, vj t2, .second]) rfl (XS.iloadN X37.here hx rfl (hb hby d10_34) rfl (XS.iloadN X37.here hx rfl (hb hby d10_35) rfl (XS.icmpYes X37.here hx rfl (pc0 := 36) (pc' := 59) rfl (hb hby d10_36) rfl (tlt (by decide : (-1 : Int32) < (0 : Int32))).1 (by decide) (by decide) (XS.aloadN X37.here hx rfl (hb hby d10_59) rfl rfl (XS.iloadN X37.here hx rfl (hb hby d10_60) rfl k)))))) ?_
    refine G (fun t k => XS.iconst X37.here hx rfl (hb hby d10_61) k) ?_
    show Go _ _ _ (T37.setTop (mkF m 62 #[vr a1, vi 0, vi 3, vi (-1), vi 2, vj t2, .second] [(.int 1), (.int (-1)), (.ref a1)])) _
    refine G (fun t k => XS.iadd X37.here hx rfl (hb hby d10_62) rfl (XS.lload X37.here hx rfl (hb hby d10_63) rfl k)) ?_
    obtain ⟨cl38, Ar38, qq38, Sz38, Ng38, Hs38, Gs38⟩ := id V_P
    have hin38 := inb_of (j := (0 : Int32)) (c := cl38) Sz38 ⟨by decide, by decide⟩
    obtain ⟨T39, h39, X39, e39, W39, st39⟩ := stJ X37 hx hZ e37 Ar38 (j := (0 : Int32)) hin38 (g := (mkF m 65 #[vr a1, vi 0, vi 3, vi (-1), vi 2, vj t2, .second] [(.long t2), (.int 0), (.ref a1)])) rfl rfl (hb hby d10_65)
    refine G st39 ?_
    have N39 := Fr.snoc X39 N37 g_a1
    replace Z0 := Nat.le_trans Z0 (Nat.le_of_eq W39.size.symm)
    replace K0 := K0.wr W39 (Or.inl (by simp))
    replace V_P : Arv Z h39 a1 k_P .long (3 : Int32) [(.long t2), (.long t0), (.long t1)] (.long (0 : Int64)) := Arv.set Ar38 qq38 Sz38 Ng38 Hs38 Gs38 rfl W39 0 rfl (Nat.le_of_ble_eq_true rfl)
    clear hin38 Gs38 Hs38 Ng38 Sz38 qq38 Ar38 cl38
    refine G (fun t k => XS.goto X39.here hx rfl (pc0 := 66) (pc' := 3) rfl (hb hby d10_66) (by decide) (by decide) (XS.iinc X39.here hx rfl (hb hby d10_3) rfl (l' := #[vr a1, vi 0, vi 3, vi (-1), vi ((2 : Int32) + (1 : Int32)), vj t2, .second]) rfl (XS.iload X39.here hx rfl (hb hby d10_6) rfl (XS.iloadN X39.here hx rfl (hb hby d10_8) rfl k)))) ?_
    show Go _ _ _ (T39.setTop (mkF m 9 #[vr a1, vi 0, vi 3, vi (-1), vi 3, vj t2, .second] [(.int 3), (.int 3)])) _
    refine G (fun t k => XS.icmpYes X39.here hx rfl (pc0 := 9) (pc' := 69) rfl (hb hby d10_9) rfl (flt (by decide : ¬ ((3 : Int32) < (3 : Int32)))).2.1 (by decide) (by decide) k) ?_
    obtain ⟨fs, hr, hrun, hended, hW, hsame⟩ := X39.leave (v := none) (fun _ => rfl)
    refine Go.fin (X39.returnOut hx Bd.returns (hb hby d10_69) hr) hrun hended ⟨_, _, rfl, ?_, ⟨_, rfl⟩, hW, hsame.mono (by decide) (by decide)⟩
    show Q10 Z a1 t0 t1 t2 k_P h0 n0 _ T39.heap _
    rw [e39]
    exact ⟨rfl, N39, K0, (by unfold f10_a1_0 f10_a1_1 f10_a1_2; simp only [if_neg hc3, if_pos hc28, if_pos hc34]; exact V_P)⟩
   ·refine G (fun t k => XS.ifYes X32.here hx rfl (pc0 := 45) (pc' := 59) rfl (hb hby d10_45) rfl ((if0 _ _).trans (flt (fun z => hc34 ((lw_lt t2 t0).mp z))).2.1) (by decide) (by decide) (XS.aloadN X32.here hx rfl (hb hby d10_59) rfl rfl (XS.iloadN X32.here hx rfl (hb hby d10_60) rfl k))) ?_
    show Go _ _ _ (T32.setTop (mkF m 61 #[vr a1, vi 0, vi 3, vi 0, vi 2, vj t2, .second] [(.int 0), (.ref a1)])) _
    refine G (fun t k => XS.iconst X32.here hx rfl (hb hby d10_61) (XS.iadd X32.here hx rfl (hb hby d10_62) rfl (XS.lload X32.here hx rfl (hb hby d10_63) rfl k))) ?_
    obtain ⟨cl40, Ar40, qq40, Sz40, Ng40, Hs40, Gs40⟩ := id V_P
    have hin40 := inb_of (j := (1 : Int32)) (c := cl40) Sz40 ⟨by decide, by decide⟩
    obtain ⟨T41, h41, X41, e41, W41, st41⟩ := stJ X32 hx hZ e32 Ar40 (j := (1 : Int32)) hin40 (g := (mkF m 65 #[vr a1, vi 0, vi 3, vi 0, vi 2, vj t2, .second] [(.long t2), (.int 1), (.ref a1)])) rfl rfl (hb hby d10_65)
    refine G st41 ?_
    have N41 := Fr.snoc X41 N32 g_a1
    replace Z0 := Nat.le_trans Z0 (Nat.le_of_eq W41.size.symm)
    replace K0 := K0.wr W41 (Or.inl (by simp))
    replace V_P : Arv Z h41 a1 k_P .long (3 : Int32) [(.long t0), (.long t2), (.long t1)] (.long (0 : Int64)) := Arv.set Ar40 qq40 Sz40 Ng40 Hs40 Gs40 rfl W41 1 rfl (Nat.le_of_ble_eq_true rfl)
    clear hin40 Gs40 Hs40 Ng40 Sz40 qq40 Ar40 cl40
    refine G (fun t k => XS.goto X41.here hx rfl (pc0 := 66) (pc' := 3) rfl (hb hby d10_66) (by decide) (by decide) (XS.iinc X41.here hx rfl (hb hby d10_3) rfl (l' := #[vr a1, vi 0, vi 3, vi 0, vi ((2 : Int32) + (1 : Int32)), vj t2, .second]) rfl (XS.iload X41.here hx rfl (hb hby d10_6) rfl k))) ?_
    show Go _ _ _ (T41.setTop (mkF m 8 #[vr a1, vi 0, vi 3, vi 0, vi 3, vj t2, .second] [(.int 3)])) _
    refine G (fun t k => XS.iloadN X41.here hx rfl (hb hby d10_8) rfl (XS.icmpYes X41.here hx rfl (pc0 := 9) (pc' := 69) rfl (hb hby d10_9) rfl (flt (by decide : ¬ ((3 : Int32) < (3 : Int32)))).2.1 (by decide) (by decide) k)) ?_
    obtain ⟨fs, hr, hrun, hended, hW, hsame⟩ := X41.leave (v := none) (fun _ => rfl)
    refine Go.fin (X41.returnOut hx Bd.returns (hb hby d10_69) hr) hrun hended ⟨_, _, rfl, ?_, ⟨_, rfl⟩, hW, hsame.mono (by decide) (by decide)⟩
    show Q10 Z a1 t0 t1 t2 k_P h0 n0 _ T41.heap _
    rw [e41]
    exact ⟨rfl, N41, K0, (by unfold f10_a1_0 f10_a1_1 f10_a1_2; simp only [if_neg hc3, if_pos hc28, if_neg hc34]; exact V_P)⟩
  ·refine G (fun t k => XS.ifYes X0.here hx rfl (pc0 := 28) (pc' := 66) rfl (hb hby d10_28) rfl ((if0 _ _).trans (flt (fun z => hc28 ((lw_lt t2 t1).mp z))).2.1) (by decide) (by decide) (XS.goto X0.here hx rfl (pc0 := 66) (pc' := 3) rfl (hb hby d10_66) (by decide) (by decide) (XS.iinc X0.here hx rfl (hb hby d10_3) rfl (l' := #[vr a1, vi 0, vi 3, vi 2, vi ((2 : Int32) + (1 : Int32)), vj t2, .second]) rfl (XS.iload X0.here hx rfl (hb hby d10_6) rfl k)))) ?_
   show Go _ _ _ (s₁.setTop (mkF m 8 #[vr a1, vi 0, vi 3, vi 2, vi 3, vj t2, .second] [(.int 3)])) _
   refine G (fun t k => XS.iloadN X0.here hx rfl (hb hby d10_8) rfl (XS.icmpYes X0.here hx rfl (pc0 := 9) (pc' := 69) rfl (hb hby d10_9) rfl (flt (by decide : ¬ ((3 : Int32) < (3 : Int32)))).2.1 (by decide) (by decide) k)) ?_
   obtain ⟨fs, hr, hrun, hended, hW, hsame⟩ := X0.leave (v := none) (fun _ => rfl)
   refine Go.fin (X0.returnOut hx Bd.returns (hb hby d10_69) hr) hrun hended ⟨_, _, rfl, ?_, ⟨_, rfl⟩, hW, hsame.mono (by decide) (by decide)⟩
   show Q10 Z a1 t0 t1 t2 k_P h0 n0 _ s₁.heap _
   rw [e0]
   exact ⟨rfl, N0, K0, (by unfold f10_a1_0 f10_a1_1 f10_a1_2; simp only [if_neg hc3, if_neg hc28]; exact V_P)⟩
theorem d9_0 : decode cB9 0 = .ok (.iload 4, 2) := by decide +kernel
theorem d9_2 : decode cB9 2 = .ok (.iconst 1, 1) := by decide +kernel
theorem d9_3 : decode cB9 3 = .ok (.isub, 1) := by decide +kernel
theorem d9_4 : decode cB9 4 = .ok (.istore 5, 2) := by decide +kernel
theorem d9_6 : decode cB9 6 = .ok (.iload 4, 2) := by decide +kernel
theorem d9_8 : decode cB9 8 = .ok (.iload_n 3, 1) := by decide +kernel
theorem d9_9 : decode cB9 9 = .ok (.isub, 1) := by decide +kernel
theorem d9_10 : decode cB9 10 = .ok (.istore 6, 2) := by decide +kernel
theorem d9_12 : decode cB9 12 = .ok (.iload 6, 2) := by decide +kernel
theorem d9_14 : decode cB9 14 = .ok (.bipush 65, 2) := by decide +kernel
theorem d9_16 : decode cB9 16 = .ok (.iload_n 2, 1) := by decide +kernel
theorem d9_17 : decode cB9 17 = .ok (.iadd, 1) := by decide +kernel
theorem d9_18 : decode cB9 18 = .ok (.if_icmp .ge 28, 3) := by decide +kernel
theorem d9_21 : decode cB9 21 = .ok (.iload_n 2, 1) := by decide +kernel
theorem d9_22 : decode cB9 22 = .ok (.iconst 1, 1) := by decide +kernel
theorem d9_23 : decode cB9 23 = .ok (.iand, 1) := by decide +kernel
theorem d9_24 : decode cB9 24 = .ok (.ifCond .le 22, 3) := by decide +kernel
theorem d9_46 : decode cB9 46 = .ok (.iload 6, 2) := by decide +kernel
theorem d9_48 : decode cB9 48 = .ok (.bipush 44, 2) := by decide +kernel
theorem d9_50 : decode cB9 50 = .ok (.if_icmp .ge 11, 3) := by decide +kernel
theorem d9_53 : decode cB9 53 = .ok (.aload_n 1, 1) := by decide +kernel
theorem d9_54 : decode cB9 54 = .ok (.iload_n 3, 1) := by decide +kernel
theorem d9_55 : decode cB9 55 = .ok (.iload 4, 2) := by decide +kernel
theorem d9_57 : decode cB9 57 = .ok (.invokestatic 105, 3) := by decide +kernel
theorem wd48 {Z a0} (hw : HW a0 Z) : (Jvm.Cond.methodLink "java/util/DualPivotQuicksort" (105 : Nat) ⟨"java/util/DualPivotQuicksort", "insertionSort", "([JII)V"⟩).before a0 Z = true := mw hw 48 rfl
theorem wd50 {Z a0} (hw : HW a0 Z) : (Jvm.Cond.code ⟨"java/util/DualPivotQuicksort", "insertionSort", "([JII)V"⟩ cB10 (7 : Nat) (Option.none : Option Jvm.ClassFile.FieldType)).before a0 Z = true := mw hw 50 rfl
theorem wd43 {Z a0} (hw : HW a0 Z) : (Jvm.Cond.initialized "java/util/DualPivotQuicksort").before a0 Z = true := mw hw 43 rfl
theorem pd1 : parseMethodDescriptor "([JII)V" = some ⟨[(.array .long), .int, .int], none⟩ := by decide +kernel
theorem wd49 {Z a0} (hw : HW a0 Z) : (Jvm.Cond.static ⟨"java/util/DualPivotQuicksort", "insertionSort", "([JII)V"⟩).before a0 Z = true := mw hw 49 rfl
theorem d9_60 : decode cB9 60 = .ok (.return_, 1) := by decide +kernel
def Q9 (Z : State) (a2 : Addr) (t0 : Int64) (t1 : Int64) (t2 : Int64) (k_P : ClassId) (h0 : Heap) (n0 : Nat) (v : Option Value) (h : Heap) (L : List Loc) : Prop := v = none ∧ Fr n0 L ∧ Keep h0 h [a2] ∧ Arv Z h a2 k_P .long (3 : Int32) [(.long (f10_a1_0 t0 t1 t2)), (.long (f10_a1_1 t0 t1 t2)), (.long (f10_a1_2 t0 t1 t2))] (.long (0 : Int64))
theorem ef9 (m : MethodId) (x1 : Addr) : entryFrame m #[.null, (.ref x1), (.int (0 : Int32)), (.int (0 : Int32)), (.int (3 : Int32))] 25 = mkF m 0 #[.val .null, .val (.ref x1), .val (.int (0 : Int32)), .val (.int (0 : Int32)), .val (.int (3 : Int32)), .unset, .unset, .unset, .unset, .unset, .unset, .unset, .unset, .unset, .unset, .unset, .unset, .unset, .unset, .unset, .unset, .unset, .unset, .unset, .unset] [] := by first | (simp [entryFrame, mkF, argsToLocals, Value.category]; done) | rfl
theorem rm9 (l : Launch) (Z : State) (a0 : Array Value) (hw : HW a0 Z) (ws : List Jvm.Cond) (a2 : Addr) (t0 : Int64) (t1 : Int64) (t2 : Int64) (k_P : ClassId) (h0 : Heap) (n0 : Nat) (Z0 : n0 ≤ h0.size) (V_P : Arv Z h0 a2 k_P .long (3 : Int32) [(.long t0), (.long t1), (.long t2)] (.long (0 : Int64))) (g_a2 : n0 ≤ a2) :
  MetFree l (⟨"java/util/DualPivotQuicksort", "sort", "(Ljava/util/DualPivotQuicksort$Sorter;[JIII)V"⟩ : MethodName) (head1 (Jvm.Cond.code (⟨"java/util/DualPivotQuicksort", "sort", "(Ljava/util/DualPivotQuicksort$Sorter;[JIII)V"⟩ : MethodName) cB9 25 none :: ws) (Rm 1 0 0 18)) (Pr Z h0 #[.null, (.ref a2), (.int (0 : Int32)), (.int (0 : Int32)), (.int (3 : Int32))]) Tr (fun _ U o U' => ∃ v L, o = .returned v ∧ Q9 Z a2 t0 t1 t2 k_P h0 n0 v U'.heap L ∧ FrameEnd U o U' L (Rm 1 0 0 18).cells (Rm 1 0 0 18).slots) := by
 refine MetFree.of_bodySF (plainFor_of_name pn3) hisR ?_
 intro p e s m args below meth c s₁ Bd hml0 hP hK
 obtain ⟨rfl, hZ, hh⟩ := hP
 have hx := Bd.exec
 have hby := Bd.bytes
 have hml : c.maxLocals = 25 := hml0
 have hown : s.vm.findClass "java/util/DualPivotQuicksort" = some m.cls := findClass_of_methodNamed Bd.named
 have hnm := (name_of_methodNamed Bd.named Bd.method).1
 have X0 : Stand p l e (Rm 1 0 0 18) s m #[.null, (.ref a2), (.int (0 : Int32)), (.int (0 : Int32)), (.int (3 : Int32))] below meth c s₁ [] 0 0 := Stand.of_body Bd
 have e0 : s₁.heap = h0 := by rw [← hh, Bd.state]; rfl
 have N0 := Fr.nil n0
 have K0 : Keep h0 h0 [a2] := Keep.refl h0 _
 refine G (P := fun o U' => ∃ v L, o = .returned v ∧ Q9 Z a2 t0 t1 t2 k_P h0 n0 v U'.heap L ∧ FrameEnd s o U' L (Rm 1 0 0 18).cells (Rm 1 0 0 18).slots) (fun t k => castTop (ef9 m a2) k) ?_
 show Go _ _ _ (s₁.setTop (mkF m 0 #[.val .null, vr a2, vi 0, vi 0, vi 3, us, us, us, us, us, us, us, us, us, us, us, us, us, us, us, us, us, us, us, us] [])) _
 refine G (fun t k => XS.iload X0.here hx rfl (hb hby d9_0) rfl (XS.iconst X0.here hx rfl (hb hby d9_2) (XS.isub X0.here hx rfl (hb hby d9_3) rfl (XS.istore X0.here hx rfl (hb hby d9_4) rfl (l' := #[.val .null, vr a2, vi 0, vi 0, vi 3, vi 2, us, us, us, us, us, us, us, us, us, us, us, us, us, us, us, us, us, us, us]) rfl (XS.iload X0.here hx rfl (hb hby d9_6) rfl (XS.iloadN X0.here hx rfl (hb hby d9_8) rfl k)))))) ?_
 refine G (fun t k => XS.isub X0.here hx rfl (hb hby d9_9) rfl k) ?_
 show Go _ _ _ (s₁.setTop (mkF m 10 #[.val .null, vr a2, vi 0, vi 0, vi 3, vi 2, us, us, us, us, us, us, us, us, us, us, us, us, us, us, us, us, us, us, us] [(.int 3)])) _
 refine G (fun t k => XS.istore X0.here hx rfl (hb hby d9_10) rfl (l' := #[.val .null, vr a2, vi 0, vi 0, vi 3, vi 2, vi 3, us, us, us, us, us, us, us, us, us, us, us, us, us, us, us, us, us, us]) rfl (XS.iload X0.here hx rfl (hb hby d9_12) rfl (XS.bipush X0.here hx rfl (hb hby d9_14) (XS.iloadN X0.here hx rfl (hb hby d9_16) rfl (XS.iadd X0.here hx rfl (hb hby d9_17) rfl (XS.icmpNo X0.here hx rfl (hb hby d9_18) rfl (tlt (by decide : (3 : Int32) < (65 : Int32))).2.1 k)))))) ?_
 refine G (fun t k => XS.iloadN X0.here hx rfl (hb hby d9_21) rfl k) ?_
 show Go _ _ _ (s₁.setTop (mkF m 22 #[.val .null, vr a2, vi 0, vi 0, vi 3, vi 2, vi 3, us, us, us, us, us, us, us, us, us, us, us, us, us, us, us, us, us, us] [(.int 0)])) _
 refine G (fun t k => XS.iconst X0.here hx rfl (hb hby d9_22) (XS.iand X0.here hx rfl (hb hby d9_23) rfl (XS.ifYes X0.here hx rfl (pc0 := 24) (pc' := 46) rfl (hb hby d9_24) rfl ((if0 _ _).trans (flt (by decide : ¬ ((0 : Int32) < (0 : Int32)))).2.2.2) (by decide) (by decide) (XS.iload X0.here hx rfl (hb hby d9_46) rfl (XS.bipush X0.here hx rfl (hb hby d9_48) (XS.icmpNo X0.here hx rfl (hb hby d9_50) rfl (tlt (by decide : (3 : Int32) < (44 : Int32))).2.1 k)))))) ?_
 refine G (fun t k => XS.aloadN X0.here hx rfl (hb hby d9_53) rfl rfl k) ?_
 show Go _ _ _ (s₁.setTop (mkF m 54 #[.val .null, vr a2, vi 0, vi 0, vi 3, vi 2, vi 3, us, us, us, us, us, us, us, us, us, us, us, us, us, us, us, us, us, us] [(.ref a2)])) _
 refine G (fun t k => XS.iloadN X0.here hx rfl (hb hby d9_54) rfl (XS.iload X0.here hx rfl (hb hby d9_55) rfl k)) ?_
 obtain ⟨_, _, ⟨T1, L1, k1, n1⟩, -, X1, ⟨Lc1, hQ1, l1, y1, z1⟩, st1⟩ := Jvm.LawKit.callS X0 hx (y := (⟨"java/util/DualPivotQuicksort", "insertionSort", "([JII)V"⟩ : MethodName)) hown (mvT hZ (wd48 hw)) (mvT hZ (wd49 hw)) (mvT hZ (wd43 hw)) (mvT hZ (wd50 hw)) (by decide) (backOf (W := 0) (rm10 l Z a0 hw [] a2 t0 t1 t2 k_P h0 n0 Z0 V_P g_a2) hZ (wd50 hw) (wd43 hw) (by decide) (by decide)) (g := (mkF m 57 #[.val .null, vr a2, vi 0, vi 0, vi 3, vi 2, vi 3, us, us, us, us, us, us, us, us, us, us, us, us, us, us, us, us, us, us] [(.int 3), (.int 0), (.ref a2)])) rfl (by rw [hml]; rfl) (argsL := [(.ref a2), (.int (0 : Int32)), (.int (3 : Int32))]) (rest := []) (lenOf pd1 rfl) rfl (by show 2 * 0 + _ ≤ _; exact Nat.le_of_eq rfl) (hb hby d9_57) (fun _ _ => ⟨rfl, e0, (by decide : 0 + 0 ≤ _), (by decide : 0 + 0 ≤ _)⟩)
 dsimp only [Pt.U, Pt.locs, Pt.cells, Pt.slots] at X1 l1 y1 z1 st1 hQ1
 subst l1 y1 z1
 refine G st1 ?_
 have V_P_pre := V_P
 obtain ⟨h1, e1⟩ : ∃ z, T1.heap = z := ⟨_, rfl⟩
 rw [e1] at hQ1
 obtain ⟨rfl, N1q, K1, Q1_0⟩ := hQ1
 replace Z0 := Nat.le_trans Z0 K1.1
 replace K0 := K0.trans K1 (allS (Or.inl (by simp)) all0)
 clear V_P_pre
 have V_a2 := Q1_0
 have N1 := Fr.app N0 N1q
 obtain ⟨fs, hr, hrun, hended, hW, hsame⟩ := X1.leave (v := none) (fun _ => rfl)
 refine Go.fin (X1.returnOut hx Bd.returns (hb hby d9_60) hr) hrun hended ⟨_, _, rfl, ?_, ⟨_, rfl⟩, hW, hsame.mono (by decide) (by decide)⟩
 show Q9 Z a2 t0 t1 t2 k_P h0 n0 _ T1.heap _
 rw [e1]
 exact ⟨rfl, N1, K0, V_a2⟩
theorem d8_0 : decode cB8 0 = .ok (.iload_n 3, 1) := by decide +kernel
theorem d8_1 : decode cB8 1 = .ok (.iload_n 2, 1) := by decide +kernel
theorem d8_2 : decode cB8 2 = .ok (.isub, 1) := by decide +kernel
theorem d8_3 : decode cB8 3 = .ok (.istore 4, 2) := by decide +kernel
theorem d8_5 : decode cB8 5 = .ok (.iload_n 1, 1) := by decide +kernel
theorem d8_6 : decode cB8 6 = .ok (.iconst 1, 1) := by decide +kernel
theorem d8_7 : decode cB8 7 = .ok (.if_icmp .le 61, 3) := by decide +kernel
theorem d8_68 : decode cB8 68 = .ok (.aconst_null, 1) := by decide +kernel
theorem d8_69 : decode cB8 69 = .ok (.aload_n 0, 1) := by decide +kernel
theorem d8_70 : decode cB8 70 = .ok (.iconst 0, 1) := by decide +kernel
theorem d8_71 : decode cB8 71 = .ok (.iload_n 2, 1) := by decide +kernel
theorem d8_72 : decode cB8 72 = .ok (.iload_n 3, 1) := by decide +kernel
theorem d8_73 : decode cB8 73 = .ok (.invokestatic 99, 3) := by decide +kernel
theorem wd45 {Z a0} (hw : HW a0 Z) : (Jvm.Cond.methodLink "java/util/DualPivotQuicksort" (99 : Nat) ⟨"java/util/DualPivotQuicksort", "sort", "(Ljava/util/DualPivotQuicksort$Sorter;[JIII)V"⟩).before a0 Z = true := mw hw 45 rfl
theorem wd47 {Z a0} (hw : HW a0 Z) : (Jvm.Cond.code ⟨"java/util/DualPivotQuicksort", "sort", "(Ljava/util/DualPivotQuicksort$Sorter;[JIII)V"⟩ cB9 (25 : Nat) (Option.none : Option Jvm.ClassFile.FieldType)).before a0 Z = true := mw hw 47 rfl
theorem pd2 : parseMethodDescriptor "(Ljava/util/DualPivotQuicksort$Sorter;[JIII)V" = some ⟨[(.object "java/util/DualPivotQuicksort$Sorter"), (.array .long), .int, .int, .int], none⟩ := by decide +kernel
theorem wd46 {Z a0} (hw : HW a0 Z) : (Jvm.Cond.static ⟨"java/util/DualPivotQuicksort", "sort", "(Ljava/util/DualPivotQuicksort$Sorter;[JIII)V"⟩).before a0 Z = true := mw hw 46 rfl
theorem d8_76 : decode cB8 76 = .ok (.return_, 1) := by decide +kernel
def Q8 (Z : State) (a1 : Addr) (t0 : Int64) (t1 : Int64) (t2 : Int64) (k_P : ClassId) (h0 : Heap) (n0 : Nat) (v : Option Value) (h : Heap) (L : List Loc) : Prop := v = none ∧ Fr n0 L ∧ Keep h0 h [a1] ∧ Arv Z h a1 k_P .long (3 : Int32) [(.long (f10_a1_0 t0 t1 t2)), (.long (f10_a1_1 t0 t1 t2)), (.long (f10_a1_2 t0 t1 t2))] (.long (0 : Int64))
theorem ef8 (m : MethodId) (x0 : Addr) : entryFrame m #[(.ref x0), (.int (0 : Int32)), (.int (0 : Int32)), (.int (3 : Int32))] 7 = mkF m 0 #[.val (.ref x0), .val (.int (0 : Int32)), .val (.int (0 : Int32)), .val (.int (3 : Int32)), .unset, .unset, .unset] [] := by first | (simp [entryFrame, mkF, argsToLocals, Value.category]; done) | rfl
theorem rm8 (l : Launch) (Z : State) (a0 : Array Value) (hw : HW a0 Z) (ws : List Jvm.Cond) (a1 : Addr) (t0 : Int64) (t1 : Int64) (t2 : Int64) (k_P : ClassId) (h0 : Heap) (n0 : Nat) (Z0 : n0 ≤ h0.size) (V_P : Arv Z h0 a1 k_P .long (3 : Int32) [(.long t0), (.long t1), (.long t2)] (.long (0 : Int64))) (g_a1 : n0 ≤ a1) :
  MetFree l (⟨"java/util/DualPivotQuicksort", "sort", "([JIII)V"⟩ : MethodName) (head1 (Jvm.Cond.code (⟨"java/util/DualPivotQuicksort", "sort", "([JIII)V"⟩ : MethodName) cB8 7 none :: ws) (Rm 2 0 0 54)) (Pr Z h0 #[(.ref a1), (.int (0 : Int32)), (.int (0 : Int32)), (.int (3 : Int32))]) Tr (fun _ U o U' => ∃ v L, o = .returned v ∧ Q8 Z a1 t0 t1 t2 k_P h0 n0 v U'.heap L ∧ FrameEnd U o U' L (Rm 2 0 0 54).cells (Rm 2 0 0 54).slots) := by
 refine MetFree.of_bodySF (plainFor_of_name pn3) hisR ?_
 intro p e s m args below meth c s₁ Bd hml0 hP hK
 obtain ⟨rfl, hZ, hh⟩ := hP
 have hx := Bd.exec
 have hby := Bd.bytes
 have hml : c.maxLocals = 7 := hml0
 have hown : s.vm.findClass "java/util/DualPivotQuicksort" = some m.cls := findClass_of_methodNamed Bd.named
 have hnm := (name_of_methodNamed Bd.named Bd.method).1
 have X0 : Stand p l e (Rm 2 0 0 54) s m #[(.ref a1), (.int (0 : Int32)), (.int (0 : Int32)), (.int (3 : Int32))] below meth c s₁ [] 0 0 := Stand.of_body Bd
 have e0 : s₁.heap = h0 := by rw [← hh, Bd.state]; rfl
 have N0 := Fr.nil n0
 have K0 : Keep h0 h0 [a1] := Keep.refl h0 _
 refine G (P := fun o U' => ∃ v L, o = .returned v ∧ Q8 Z a1 t0 t1 t2 k_P h0 n0 v U'.heap L ∧ FrameEnd s o U' L (Rm 2 0 0 54).cells (Rm 2 0 0 54).slots) (fun t k => castTop (ef8 m a1) k) ?_
 show Go _ _ _ (s₁.setTop (mkF m 0 #[vr a1, vi 0, vi 0, vi 3, us, us, us] [])) _
 refine G (fun t k => XS.iloadN X0.here hx rfl (hb hby d8_0) rfl (XS.iloadN X0.here hx rfl (hb hby d8_1) rfl (XS.isub X0.here hx rfl (hb hby d8_2) rfl (XS.istore X0.here hx rfl (hb hby d8_3) rfl (l' := #[vr a1, vi 0, vi 0, vi 3, vi 3, us, us]) rfl (XS.iloadN X0.here hx rfl (hb hby d8_5) rfl (XS.iconst X0.here hx rfl (hb hby d8_6) k)))))) ?_
 refine G (fun t k => XS.icmpYes X0.here hx rfl (pc0 := 7) (pc' := 68) rfl (hb hby d8_7) rfl (flt (by decide : ¬ ((1 : Int32) < (0 : Int32)))).2.2.2 (by decide) (by decide) k) ?_
 show Go _ _ _ (s₁.setTop (mkF m 68 #[vr a1, vi 0, vi 0, vi 3, vi 3, us, us] [])) _
 refine G (fun t k => XS.aconstNull X0.here hx rfl (hb hby d8_68) (XS.aloadN X0.here hx rfl (hb hby d8_69) rfl rfl (XS.iconst X0.here hx rfl (hb hby d8_70) (XS.iloadN X0.here hx rfl (hb hby d8_71) rfl (XS.iloadN X0.here hx rfl (hb hby d8_72) rfl k))))) ?_
 obtain ⟨_, _, ⟨T1, L1, k1, n1⟩, -, X1, ⟨Lc1, hQ1, l1, y1, z1⟩, st1⟩ := Jvm.LawKit.callS X0 hx (y := (⟨"java/util/DualPivotQuicksort", "sort", "(Ljava/util/DualPivotQuicksort$Sorter;[JIII)V"⟩ : MethodName)) hown (mvT hZ (wd45 hw)) (mvT hZ (wd46 hw)) (mvT hZ (wd43 hw)) (mvT hZ (wd47 hw)) (by decide) (backOf (W := 0) (rm9 l Z a0 hw [] a1 t0 t1 t2 k_P h0 n0 Z0 V_P g_a1) hZ (wd47 hw) (wd43 hw) (by decide) (by decide)) (g := (mkF m 73 #[vr a1, vi 0, vi 0, vi 3, vi 3, us, us] [(.int 3), (.int 0), (.int 0), (.ref a1), .null])) rfl (by rw [hml]; rfl) (argsL := [.null, (.ref a1), (.int (0 : Int32)), (.int (0 : Int32)), (.int (3 : Int32))]) (rest := []) (lenOf pd2 rfl) rfl (by show 2 * 0 + _ ≤ _; exact Nat.le_of_eq rfl) (hb hby d8_73) (fun _ _ => ⟨rfl, e0, (by decide : 0 + 0 ≤ _), (by decide : 0 + 0 ≤ _)⟩)
 dsimp only [Pt.U, Pt.locs, Pt.cells, Pt.slots] at X1 l1 y1 z1 st1 hQ1
 subst l1 y1 z1
 refine G st1 ?_
 have V_P_pre := V_P
 obtain ⟨h1, e1⟩ : ∃ z, T1.heap = z := ⟨_, rfl⟩
 rw [e1] at hQ1
 obtain ⟨rfl, N1q, K1, Q1_0⟩ := hQ1
 replace Z0 := Nat.le_trans Z0 K1.1
 replace K0 := K0.trans K1 (allS (Or.inl (by simp)) all0)
 clear V_P_pre
 have V_a1 := Q1_0
 have N1 := Fr.app N0 N1q
 obtain ⟨fs, hr, hrun, hended, hW, hsame⟩ := X1.leave (v := none) (fun _ => rfl)
 refine Go.fin (X1.returnOut hx Bd.returns (hb hby d8_76) hr) hrun hended ⟨_, _, rfl, ?_, ⟨_, rfl⟩, hW, hsame.mono (by decide) (by decide)⟩
 show Q8 Z a1 t0 t1 t2 k_P h0 n0 _ T1.heap _
 rw [e1]
 exact ⟨rfl, N1, K0, V_a1⟩
theorem d7_0 : decode cB7 0 = .ok (.aload_n 0, 1) := by decide +kernel
theorem d7_1 : decode cB7 1 = .ok (.iconst 0, 1) := by decide +kernel
theorem d7_2 : decode cB7 2 = .ok (.iconst 0, 1) := by decide +kernel
theorem d7_3 : decode cB7 3 = .ok (.aload_n 0, 1) := by decide +kernel
theorem d7_4 : decode cB7 4 = .ok (.arraylength, 1) := by decide +kernel
theorem d7_5 : decode cB7 5 = .ok (.invokestatic 19, 3) := by decide +kernel
theorem wd41 {Z a0} (hw : HW a0 Z) : (Jvm.Cond.methodLink "java/util/Arrays" (19 : Nat) ⟨"java/util/DualPivotQuicksort", "sort", "([JIII)V"⟩).before a0 Z = true := mw hw 41 rfl
theorem wd44 {Z a0} (hw : HW a0 Z) : (Jvm.Cond.code ⟨"java/util/DualPivotQuicksort", "sort", "([JIII)V"⟩ cB8 (7 : Nat) (Option.none : Option Jvm.ClassFile.FieldType)).before a0 Z = true := mw hw 44 rfl
theorem pd3 : parseMethodDescriptor "([JIII)V" = some ⟨[(.array .long), .int, .int, .int], none⟩ := by decide +kernel
theorem wd42 {Z a0} (hw : HW a0 Z) : (Jvm.Cond.static ⟨"java/util/DualPivotQuicksort", "sort", "([JIII)V"⟩).before a0 Z = true := mw hw 42 rfl
theorem d7_8 : decode cB7 8 = .ok (.return_, 1) := by decide +kernel
def Q7 (Z : State) (a1 : Addr) (t0 : Int64) (t1 : Int64) (t2 : Int64) (k_P : ClassId) (h0 : Heap) (n0 : Nat) (v : Option Value) (h : Heap) (L : List Loc) : Prop := v = none ∧ Fr n0 L ∧ Keep h0 h [a1] ∧ Arv Z h a1 k_P .long (3 : Int32) [(.long (f10_a1_0 t0 t1 t2)), (.long (f10_a1_1 t0 t1 t2)), (.long (f10_a1_2 t0 t1 t2))] (.long (0 : Int64))
theorem ef7 (m : MethodId) (x0 : Addr) : entryFrame m #[(.ref x0)] 1 = mkF m 0 #[.val (.ref x0)] [] := by first | (simp [entryFrame, mkF, argsToLocals, Value.category]; done) | rfl
theorem rm7 (l : Launch) (Z : State) (a0 : Array Value) (hw : HW a0 Z) (ws : List Jvm.Cond) (a1 : Addr) (t0 : Int64) (t1 : Int64) (t2 : Int64) (k_P : ClassId) (h0 : Heap) (n0 : Nat) (Z0 : n0 ≤ h0.size) (V_P : Arv Z h0 a1 k_P .long (3 : Int32) [(.long t0), (.long t1), (.long t2)] (.long (0 : Int64))) (g_a1 : n0 ≤ a1) :
  MetFree l (⟨"java/util/Arrays", "sort", "([J)V"⟩ : MethodName) (head1 (Jvm.Cond.code (⟨"java/util/Arrays", "sort", "([J)V"⟩ : MethodName) cB7 1 none :: ws) (Rm 3 0 0 72)) (Pr Z h0 #[(.ref a1)]) Tr (fun _ U o U' => ∃ v L, o = .returned v ∧ Q7 Z a1 t0 t1 t2 k_P h0 n0 v U'.heap L ∧ FrameEnd U o U' L (Rm 3 0 0 72).cells (Rm 3 0 0 72).slots) := by
 refine MetFree.of_bodySF (plainFor_of_name pn2) hisR ?_
 intro p e s m args below meth c s₁ Bd hml0 hP hK
 obtain ⟨rfl, hZ, hh⟩ := hP
 have hx := Bd.exec
 have hby := Bd.bytes
 have hml : c.maxLocals = 1 := hml0
 have hown : s.vm.findClass "java/util/Arrays" = some m.cls := findClass_of_methodNamed Bd.named
 have hnm := (name_of_methodNamed Bd.named Bd.method).1
 have X0 : Stand p l e (Rm 3 0 0 72) s m #[(.ref a1)] below meth c s₁ [] 0 0 := Stand.of_body Bd
 have e0 : s₁.heap = h0 := by rw [← hh, Bd.state]; rfl
 have N0 := Fr.nil n0
 have K0 : Keep h0 h0 [a1] := Keep.refl h0 _
 refine G (P := fun o U' => ∃ v L, o = .returned v ∧ Q7 Z a1 t0 t1 t2 k_P h0 n0 v U'.heap L ∧ FrameEnd s o U' L (Rm 3 0 0 72).cells (Rm 3 0 0 72).slots) (fun t k => castTop (ef7 m a1) k) ?_
 show Go _ _ _ (s₁.setTop (mkF m 0 #[vr a1] [])) _
 refine G (fun t k => XS.aloadN X0.here hx rfl (hb hby d7_0) rfl rfl (XS.iconst X0.here hx rfl (hb hby d7_1) (XS.iconst X0.here hx rfl (hb hby d7_2) (XS.aloadN X0.here hx rfl (hb hby d7_3) rfl rfl k)))) ?_
 obtain ⟨cl1, Ar1, -, Sz1, Ng1, -, -⟩ := id V_P
 refine G (fun t k => X0.arraylength hx (by rw [e0]; exact Ar1.1) (State.isArrayOf_alike hZ.alike Ar1.2.1) (g := (mkF m 4 #[vr a1] [(.ref a1), (.int 0), (.int 0), (.ref a1)])) rfl rfl (hb hby d7_4) _ k) ?_
 rw [len_of Sz1 Ng1]
 clear Ng1 Sz1 Ar1 cl1
 obtain ⟨_, _, ⟨T2, L2, k2, n2⟩, -, X2, ⟨Lc2, hQ2, l2, y2, z2⟩, st2⟩ := Jvm.LawKit.callS X0 hx (y := (⟨"java/util/DualPivotQuicksort", "sort", "([JIII)V"⟩ : MethodName)) hown (mvT hZ (wd41 hw)) (mvT hZ (wd42 hw)) (mvT hZ (wd43 hw)) (mvT hZ (wd44 hw)) (by decide) (backOf (W := 0) (rm8 l Z a0 hw [] a1 t0 t1 t2 k_P h0 n0 Z0 V_P g_a1) hZ (wd44 hw) (wd43 hw) (by decide) (by decide)) (g := (mkF m 5 #[vr a1] [(.int 3), (.int 0), (.int 0), (.ref a1)])) rfl (by rw [hml]; rfl) (argsL := [(.ref a1), (.int (0 : Int32)), (.int (0 : Int32)), (.int (3 : Int32))]) (rest := []) (lenOf pd3 rfl) rfl (by show 2 * 0 + _ ≤ _; exact Nat.le_of_eq rfl) (hb hby d7_5) (fun _ _ => ⟨rfl, e0, (by decide : 0 + 0 ≤ _), (by decide : 0 + 0 ≤ _)⟩)
 dsimp only [Pt.U, Pt.locs, Pt.cells, Pt.slots] at X2 l2 y2 z2 st2 hQ2
 subst l2 y2 z2
 refine G st2 ?_
 have V_P_pre := V_P
 obtain ⟨h2, e2⟩ : ∃ z, T2.heap = z := ⟨_, rfl⟩
 rw [e2] at hQ2
 obtain ⟨rfl, N2q, K2, Q2_0⟩ := hQ2
 replace Z0 := Nat.le_trans Z0 K2.1
 replace K0 := K0.trans K2 (allS (Or.inl (by simp)) all0)
 clear V_P_pre
 have V_a1 := Q2_0
 have N2 := Fr.app N0 N2q
 obtain ⟨fs, hr, hrun, hended, hW, hsame⟩ := X2.leave (v := none) (fun _ => rfl)
 refine Go.fin (X2.returnOut hx Bd.returns (hb hby d7_8) hr) hrun hended ⟨_, _, rfl, ?_, ⟨_, rfl⟩, hW, hsame.mono (by decide) (by decide)⟩
 show Q7 Z a1 t0 t1 t2 k_P h0 n0 _ T2.heap _
 rw [e2]
 exact ⟨rfl, N2, K0, V_a1⟩
theorem d11_0 : decode cB11 0 = .ok (.iload_n 1, 1) := by decide +kernel
theorem d11_1 : decode cB11 1 = .ok (.aload_n 0, 1) := by decide +kernel
theorem d11_2 : decode cB11 2 = .ok (.arraylength, 1) := by decide +kernel
theorem d11_3 : decode cB11 3 = .ok (.if_icmp .ne 11, 3) := by decide +kernel
theorem d11_14 : decode cB11 14 = .ok (.iload_n 1, 1) := by decide +kernel
theorem d11_15 : decode cB11 15 = .ok (.newarray .int, 2) := by decide +kernel
theorem wd51 {Z a0} (hw : HW a0 Z) : (Jvm.Cond.arrayClass Jvm.ClassFile.FieldType.int).before a0 Z = true := mw hw 51 rfl
theorem d11_17 : decode cB11 17 = .ok (.astore_n 2, 1) := by decide +kernel
theorem d11_18 : decode cB11 18 = .ok (.aload_n 0, 1) := by decide +kernel
theorem d11_19 : decode cB11 19 = .ok (.iconst 0, 1) := by decide +kernel
theorem d11_20 : decode cB11 20 = .ok (.aload_n 2, 1) := by decide +kernel
theorem d11_21 : decode cB11 21 = .ok (.iconst 0, 1) := by decide +kernel
theorem d11_22 : decode cB11 22 = .ok (.aload_n 0, 1) := by decide +kernel
theorem d11_23 : decode cB11 23 = .ok (.arraylength, 1) := by decide +kernel
theorem d11_24 : decode cB11 24 = .ok (.iload_n 1, 1) := by decide +kernel
theorem d11_25 : decode cB11 25 = .ok (.invokestatic 304, 3) := by decide +kernel
theorem d11_28 : decode cB11 28 = .ok (.invokestatic 150, 3) := by decide +kernel
theorem d11_31 : decode cB11 31 = .ok (.aload_n 2, 1) := by decide +kernel
theorem d11_32 : decode cB11 32 = .ok (.areturn, 1) := by decide +kernel
def Q11_1 (Z : State) (a1 : Addr) (v0 : Int32) (v1 : Int32) (v2 : Int32) (k_v : ClassId) (h0 : Heap) (n0 : Nat) (v : Option Value) (h : Heap) (L : List Loc) : Prop := ∃ x11_1_0 : Addr, ∃ k_x11_1_0 : ClassId, v = some (.ref x11_1_0) ∧ Fr n0 L ∧ Keep h0 h [] ∧ n0 ≤ x11_1_0 ∧ h0.size ≤ x11_1_0 ∧ Arv Z h x11_1_0 k_x11_1_0 .int (1 : Int32) [(.int v0)] (.int (0 : Int32))
theorem ef11_1 (m : MethodId) (x0 : Addr) : entryFrame m #[(.ref x0), (.int (1 : Int32))] 3 = mkF m 0 #[.val (.ref x0), .val (.int (1 : Int32)), .unset] [] := by first | (simp [entryFrame, mkF, argsToLocals, Value.category]; done) | rfl
theorem rm11_1 (l : Launch) (Z : State) (a0 : Array Value) (hw : HW a0 Z) (ws : List Jvm.Cond) (a1 : Addr) (v0 : Int32) (v1 : Int32) (v2 : Int32) (k_v : ClassId) (h0 : Heap) (n0 : Nat) (Z0 : n0 ≤ h0.size) (V_a1 : Arv Z h0 a1 k_v .int (3 : Int32) [(.int v0), (.int v1), (.int v2)] (.int (0 : Int32))) :
  MetFree l (⟨"java/util/Arrays", "copyOf", "([II)[I"⟩ : MethodName) (head1 (Jvm.Cond.code (⟨"java/util/Arrays", "copyOf", "([II)[I"⟩ : MethodName) cB11 3 (some (.array .int)) :: ws) (Rm 1 1 1 18)) (Pr Z h0 #[(.ref a1), (.int (1 : Int32))]) Tr (fun _ U o U' => ∃ v L, o = .returned v ∧ Q11_1 Z a1 v0 v1 v2 k_v h0 n0 v U'.heap L ∧ FrameEnd U o U' L (Rm 1 1 1 18).cells (Rm 1 1 1 18).slots) := by
 refine MetFree.of_bodySF (plainFor_of_name pn2) hisR ?_
 intro p e s m args below meth c s₁ Bd hml0 hP hK
 obtain ⟨rfl, hZ, hh⟩ := hP
 have hx := Bd.exec
 have hby := Bd.bytes
 have hml : c.maxLocals = 3 := hml0
 have hown : s.vm.findClass "java/util/Arrays" = some m.cls := findClass_of_methodNamed Bd.named
 have hnm := (name_of_methodNamed Bd.named Bd.method).1
 have X0 : Stand p l e (Rm 1 1 1 18) s m #[(.ref a1), (.int (1 : Int32))] below meth c s₁ [] 0 0 := Stand.of_body Bd
 have e0 : s₁.heap = h0 := by rw [← hh, Bd.state]; rfl
 have N0 := Fr.nil n0
 have K0 : Keep h0 h0 [] := Keep.refl h0 _
 refine G (P := fun o U' => ∃ v L, o = .returned v ∧ Q11_1 Z a1 v0 v1 v2 k_v h0 n0 v U'.heap L ∧ FrameEnd s o U' L (Rm 1 1 1 18).cells (Rm 1 1 1 18).slots) (fun t k => castTop (ef11_1 m a1) k) ?_
 show Go _ _ _ (s₁.setTop (mkF m 0 #[vr a1, vi 1, us] [])) _
 refine G (fun t k => XS.iloadN X0.here hx rfl (hb hby d11_0) rfl (XS.aloadN X0.here hx rfl (hb hby d11_1) rfl rfl k)) ?_
 obtain ⟨cl1, Ar1, -, Sz1, Ng1, -, -⟩ := id V_a1
 refine G (fun t k => X0.arraylength hx (by rw [e0]; exact Ar1.1) (State.isArrayOf_alike hZ.alike Ar1.2.1) (g := (mkF m 2 #[vr a1, vi 1, us] [(.ref a1), (.int 1)])) rfl rfl (hb hby d11_2) _ k) ?_
 rw [len_of Sz1 Ng1]
 clear Ng1 Sz1 Ar1 cl1
 refine G (fun t k => XS.icmpYes X0.here hx rfl (pc0 := 3) (pc' := 14) rfl (hb hby d11_3) rfl (feq (by decide : ¬ ((1 : Int32) = (3 : Int32)))).2 (by decide) (by decide) (XS.iloadN X0.here hx rfl (hb hby d11_14) rfl k)) ?_
 obtain ⟨T2, h2, k2, X2, e2, E2, A2, st2⟩ := newP X0 hx hZ (aty := .int) (wd51 hw) e0 (g := (mkF m 15 #[vr a1, vi 1, us] [(.int 1)])) rfl (hb hby d11_15) rfl (by decide) (cap := 1) (by decide) (by decide) (by decide) (by decide)
 obtain ⟨b2, g2⟩ : ∃ z, z = h0.size := ⟨_, rfl⟩
 rw [← g2] at A2 st2
 refine G st2 ?_
 have ne_a1_b2 : a1 ≠ b2 := Nat.ne_of_lt (Nat.lt_of_lt_of_le V_a1.lt (Nat.le_of_eq g2.symm))
 have g_b2 : n0 ≤ b2 := Nat.le_trans Z0 (Nat.le_of_eq g2.symm)
 have sz_b2 : h0.size ≤ b2 := Nat.le_trans K0.1 (Nat.le_of_eq g2.symm)
 replace V_a1 := V_a1.ext E2
 replace K0 := K0.ext E2
 replace Z0 := Nat.le_trans Z0 E2.1
 have V_b2 : Arv Z h2 b2 k2 .int (1 : Int32) [(.int (0 : Int32))] (.int (0 : Int32)) := (Arv.new A2 (by decide)).pad (pad_rep [] (.int (0 : Int32)) 1)
 refine G (fun t k => XS.astoreN X2.here hx rfl (hb hby d11_17) rfl rfl (l' := #[vr a1, vi 1, vr b2]) rfl k) ?_
 show Go _ _ _ (T2.setTop (mkF m 18 #[vr a1, vi 1, vr b2] [])) _
 refine G (fun t k => XS.aloadN X2.here hx rfl (hb hby d11_18) rfl rfl (XS.iconst X2.here hx rfl (hb hby d11_19) (XS.aloadN X2.here hx rfl (hb hby d11_20) rfl rfl (XS.iconst X2.here hx rfl (hb hby d11_21) (XS.aloadN X2.here hx rfl (hb hby d11_22) rfl rfl k))))) ?_
 obtain ⟨cl3, Ar3, -, Sz3, Ng3, -, -⟩ := id V_a1
 refine G (fun t k => X2.arraylength hx (by rw [e2]; exact Ar3.1) (State.isArrayOf_alike hZ.alike Ar3.2.1) (g := (mkF m 23 #[vr a1, vi 1, vr b2] [(.ref a1), (.int 0), (.ref b2), (.int 0), (.ref a1)])) rfl rfl (hb hby d11_23) _ k) ?_
 rw [len_of Sz3 Ng3]
 clear Ng3 Sz3 Ar3 cl3
 refine G (fun t k => XS.iloadN X2.here hx rfl (hb hby d11_24) rfl k) ?_
 show Go _ _ _ (T2.setTop (mkF m 25 #[vr a1, vi 1, vr b2] [(.int 1), (.int 3), (.int 0), (.ref b2), (.int 0), (.ref a1)])) _
 obtain ⟨_, _, ⟨T4, L4, k4, n4⟩, -, X4, ⟨Lc4, hQ4, l4, y4, z4⟩, st4⟩ := Jvm.LawKit.callS X2 hx (y := (⟨"java/lang/Math", "min", "(II)I"⟩ : MethodName)) hown (mvT hZ (wd33 hw)) (mvT hZ (wd2 hw)) (mvT hZ (wd3 hw)) (mvT hZ (wd4 hw)) (by decide) (backOf (W := 4) (rm1 l Z a0 hw [] (3 : Int32) (1 : Int32) h2 n0 Z0) hZ (wd4 hw) (wd3 hw) (by decide) (by decide)) (g := (mkF m 25 #[vr a1, vi 1, vr b2] [(.int 1), (.int 3), (.int 0), (.ref b2), (.int 0), (.ref a1)])) rfl (by rw [hml]; rfl) (argsL := [(.int (3 : Int32)), (.int (1 : Int32))]) (rest := [(.int (0 : Int32)), (.ref b2), (.int (0 : Int32)), (.ref a1)]) (lenOf pd0 rfl) rfl (by show 2 * 0 + _ ≤ _; exact Nat.le_of_eq rfl) (hb hby d11_25) (fun _ _ => ⟨rfl, e2, (by decide : 1 + 0 ≤ _), (by decide : 1 + 0 ≤ _)⟩)
 dsimp only [Pt.U, Pt.locs, Pt.cells, Pt.slots] at X4 l4 y4 z4 st4 hQ4
 subst l4 y4 z4
 refine G st4 ?_
 obtain ⟨rfl, N4q, e4⟩ := hQ4
 have N4 := Fr.app N0 N4q
 show Go _ _ _ (T4.setTop (mkF m 28 #[vr a1, vi 1, vr b2] [(.int (f1 (3 : Int32) (1 : Int32))), (.int 0), (.ref b2), (.int 0), (.ref a1)])) _
 rw [show (f1 (3 : Int32) (1 : Int32)) = (1 : Int32) from by unfold f1; simp only [if_pos (by decide : (1 : Int32) < (3 : Int32)), if_true, if_false]]
 show Go _ _ _ (T4.setTop (mkF m 28 #[vr a1, vi 1, vr b2] [(.int 1), (.int 0), (.ref b2), (.int 0), (.ref a1)])) _
 have V_b2_pre := V_b2
 obtain ⟨T5, h5, L5, X5, e5, N5, K5, B5, st5⟩ := cpA X4 hx hZ hown (wd34 hw) (wd37 hw) (wd35 hw) (wd36 hw) e4 V_a1 V_b2 (us := [(.int v0)]) (Or.inl ⟨rfl, rfl⟩) (sp := (0 : Int32)) (dp := (0 : Int32)) (nn := (1 : Int32)) (by decide) (by decide) (by decide) (by decide) (by decide) rfl (Nat.le_of_ble_eq_true rfl) N4 g_b2 (g := (mkF m 28 #[vr a1, vi 1, vr b2] [(.int 1), (.int 0), (.ref b2), (.int 0), (.ref a1)])) rfl (by rw [hml]; rfl) rfl (hb hby d11_28) (by decide) (W := 0) (by show 2 * 0 + _ ≤ _; exact Nat.le_of_eq rfl) (by decide)
 refine G st5 ?_
 replace V_a1 := V_a1.keep K5 (ninS ne_a1_b2 nin0)
 replace Z0 := Nat.le_trans Z0 K5.1
 replace K0 := K0.trans K5 (allS (Or.inr sz_b2) all0)
 have V_b2 : Arv Z h5 b2 k2 .int (1 : Int32) [(.int v0)] (.int (0 : Int32)) := B5
 refine G (fun t k => XS.aloadN X5.here hx rfl (hb hby d11_31) rfl rfl k) ?_
 obtain ⟨fs, hr, hrun, hended, hW, hsame⟩ := X5.leave (v := some (.ref b2)) (fun h => by rw [Bd.returns] at h; cases h)
 refine Go.fin (retOut X5 hx Bd.returns rfl (Or.inr (Or.inr (Or.inr (Or.inr ⟨rfl, rfl, rfl⟩)))) (hb hby d11_32) hr) hrun hended ⟨_, _, rfl, ?_, ⟨_, rfl⟩, hW, hsame.mono (by decide) (by decide)⟩
 show Q11_1 Z a1 v0 v1 v2 k_v h0 n0 _ T5.heap _
 rw [e5]
 exact ⟨b2, k2, rfl, N5, K0, g_b2, sz_b2, V_b2⟩
def Q11_2 (Z : State) (a1 : Addr) (v0 : Int32) (v1 : Int32) (v2 : Int32) (k_v : ClassId) (h0 : Heap) (n0 : Nat) (v : Option Value) (h : Heap) (L : List Loc) : Prop := ∃ x11_2_0 : Addr, ∃ k_x11_2_0 : ClassId, v = some (.ref x11_2_0) ∧ Fr n0 L ∧ Keep h0 h [] ∧ n0 ≤ x11_2_0 ∧ h0.size ≤ x11_2_0 ∧ Arv Z h x11_2_0 k_x11_2_0 .int (2 : Int32) [(.int v0), (.int v1)] (.int (0 : Int32))
theorem ef11_2 (m : MethodId) (x0 : Addr) : entryFrame m #[(.ref x0), (.int (2 : Int32))] 3 = mkF m 0 #[.val (.ref x0), .val (.int (2 : Int32)), .unset] [] := by first | (simp [entryFrame, mkF, argsToLocals, Value.category]; done) | rfl
theorem rm11_2 (l : Launch) (Z : State) (a0 : Array Value) (hw : HW a0 Z) (ws : List Jvm.Cond) (a1 : Addr) (v0 : Int32) (v1 : Int32) (v2 : Int32) (k_v : ClassId) (h0 : Heap) (n0 : Nat) (Z0 : n0 ≤ h0.size) (V_a1 : Arv Z h0 a1 k_v .int (3 : Int32) [(.int v0), (.int v1), (.int v2)] (.int (0 : Int32))) :
  MetFree l (⟨"java/util/Arrays", "copyOf", "([II)[I"⟩ : MethodName) (head1 (Jvm.Cond.code (⟨"java/util/Arrays", "copyOf", "([II)[I"⟩ : MethodName) cB11 3 (some (.array .int)) :: ws) (Rm 1 1 2 18)) (Pr Z h0 #[(.ref a1), (.int (2 : Int32))]) Tr (fun _ U o U' => ∃ v L, o = .returned v ∧ Q11_2 Z a1 v0 v1 v2 k_v h0 n0 v U'.heap L ∧ FrameEnd U o U' L (Rm 1 1 2 18).cells (Rm 1 1 2 18).slots) := by
 refine MetFree.of_bodySF (plainFor_of_name pn2) hisR ?_
 intro p e s m args below meth c s₁ Bd hml0 hP hK
 obtain ⟨rfl, hZ, hh⟩ := hP
 have hx := Bd.exec
 have hby := Bd.bytes
 have hml : c.maxLocals = 3 := hml0
 have hown : s.vm.findClass "java/util/Arrays" = some m.cls := findClass_of_methodNamed Bd.named
 have hnm := (name_of_methodNamed Bd.named Bd.method).1
 have X0 : Stand p l e (Rm 1 1 2 18) s m #[(.ref a1), (.int (2 : Int32))] below meth c s₁ [] 0 0 := Stand.of_body Bd
 have e0 : s₁.heap = h0 := by rw [← hh, Bd.state]; rfl
 have N0 := Fr.nil n0
 have K0 : Keep h0 h0 [] := Keep.refl h0 _
 refine G (P := fun o U' => ∃ v L, o = .returned v ∧ Q11_2 Z a1 v0 v1 v2 k_v h0 n0 v U'.heap L ∧ FrameEnd s o U' L (Rm 1 1 2 18).cells (Rm 1 1 2 18).slots) (fun t k => castTop (ef11_2 m a1) k) ?_
 show Go _ _ _ (s₁.setTop (mkF m 0 #[vr a1, vi 2, us] [])) _
 refine G (fun t k => XS.iloadN X0.here hx rfl (hb hby d11_0) rfl (XS.aloadN X0.here hx rfl (hb hby d11_1) rfl rfl k)) ?_
 obtain ⟨cl1, Ar1, -, Sz1, Ng1, -, -⟩ := id V_a1
 refine G (fun t k => X0.arraylength hx (by rw [e0]; exact Ar1.1) (State.isArrayOf_alike hZ.alike Ar1.2.1) (g := (mkF m 2 #[vr a1, vi 2, us] [(.ref a1), (.int 2)])) rfl rfl (hb hby d11_2) _ k) ?_
 rw [len_of Sz1 Ng1]
 clear Ng1 Sz1 Ar1 cl1
 refine G (fun t k => XS.icmpYes X0.here hx rfl (pc0 := 3) (pc' := 14) rfl (hb hby d11_3) rfl (feq (by decide : ¬ ((2 : Int32) = (3 : Int32)))).2 (by decide) (by decide) (XS.iloadN X0.here hx rfl (hb hby d11_14) rfl k)) ?_
 obtain ⟨T2, h2, k2, X2, e2, E2, A2, st2⟩ := newP X0 hx hZ (aty := .int) (wd51 hw) e0 (g := (mkF m 15 #[vr a1, vi 2, us] [(.int 2)])) rfl (hb hby d11_15) rfl (by decide) (cap := 2) (by decide) (by decide) (by decide) (by decide)
 obtain ⟨b2, g2⟩ : ∃ z, z = h0.size := ⟨_, rfl⟩
 rw [← g2] at A2 st2
 refine G st2 ?_
 have ne_a1_b2 : a1 ≠ b2 := Nat.ne_of_lt (Nat.lt_of_lt_of_le V_a1.lt (Nat.le_of_eq g2.symm))
 have g_b2 : n0 ≤ b2 := Nat.le_trans Z0 (Nat.le_of_eq g2.symm)
 have sz_b2 : h0.size ≤ b2 := Nat.le_trans K0.1 (Nat.le_of_eq g2.symm)
 replace V_a1 := V_a1.ext E2
 replace K0 := K0.ext E2
 replace Z0 := Nat.le_trans Z0 E2.1
 have V_b2 : Arv Z h2 b2 k2 .int (2 : Int32) [(.int (0 : Int32)), (.int (0 : Int32))] (.int (0 : Int32)) := (Arv.new A2 (by decide)).pad (pad_rep [] (.int (0 : Int32)) 2)
 refine G (fun t k => XS.astoreN X2.here hx rfl (hb hby d11_17) rfl rfl (l' := #[vr a1, vi 2, vr b2]) rfl k) ?_
 show Go _ _ _ (T2.setTop (mkF m 18 #[vr a1, vi 2, vr b2] [])) _
 refine G (fun t k => XS.aloadN X2.here hx rfl (hb hby d11_18) rfl rfl (XS.iconst X2.here hx rfl (hb hby d11_19) (XS.aloadN X2.here hx rfl (hb hby d11_20) rfl rfl (XS.iconst X2.here hx rfl (hb hby d11_21) (XS.aloadN X2.here hx rfl (hb hby d11_22) rfl rfl k))))) ?_
 obtain ⟨cl3, Ar3, -, Sz3, Ng3, -, -⟩ := id V_a1
 refine G (fun t k => X2.arraylength hx (by rw [e2]; exact Ar3.1) (State.isArrayOf_alike hZ.alike Ar3.2.1) (g := (mkF m 23 #[vr a1, vi 2, vr b2] [(.ref a1), (.int 0), (.ref b2), (.int 0), (.ref a1)])) rfl rfl (hb hby d11_23) _ k) ?_
 rw [len_of Sz3 Ng3]
 clear Ng3 Sz3 Ar3 cl3
 refine G (fun t k => XS.iloadN X2.here hx rfl (hb hby d11_24) rfl k) ?_
 show Go _ _ _ (T2.setTop (mkF m 25 #[vr a1, vi 2, vr b2] [(.int 2), (.int 3), (.int 0), (.ref b2), (.int 0), (.ref a1)])) _
 obtain ⟨_, _, ⟨T4, L4, k4, n4⟩, -, X4, ⟨Lc4, hQ4, l4, y4, z4⟩, st4⟩ := Jvm.LawKit.callS X2 hx (y := (⟨"java/lang/Math", "min", "(II)I"⟩ : MethodName)) hown (mvT hZ (wd33 hw)) (mvT hZ (wd2 hw)) (mvT hZ (wd3 hw)) (mvT hZ (wd4 hw)) (by decide) (backOf (W := 4) (rm1 l Z a0 hw [] (3 : Int32) (2 : Int32) h2 n0 Z0) hZ (wd4 hw) (wd3 hw) (by decide) (by decide)) (g := (mkF m 25 #[vr a1, vi 2, vr b2] [(.int 2), (.int 3), (.int 0), (.ref b2), (.int 0), (.ref a1)])) rfl (by rw [hml]; rfl) (argsL := [(.int (3 : Int32)), (.int (2 : Int32))]) (rest := [(.int (0 : Int32)), (.ref b2), (.int (0 : Int32)), (.ref a1)]) (lenOf pd0 rfl) rfl (by show 2 * 0 + _ ≤ _; exact Nat.le_of_eq rfl) (hb hby d11_25) (fun _ _ => ⟨rfl, e2, (by decide : 1 + 0 ≤ _), (by decide : 2 + 0 ≤ _)⟩)
 dsimp only [Pt.U, Pt.locs, Pt.cells, Pt.slots] at X4 l4 y4 z4 st4 hQ4
 subst l4 y4 z4
 refine G st4 ?_
 obtain ⟨rfl, N4q, e4⟩ := hQ4
 have N4 := Fr.app N0 N4q
 show Go _ _ _ (T4.setTop (mkF m 28 #[vr a1, vi 2, vr b2] [(.int (f1 (3 : Int32) (2 : Int32))), (.int 0), (.ref b2), (.int 0), (.ref a1)])) _
 rw [show (f1 (3 : Int32) (2 : Int32)) = (2 : Int32) from by unfold f1; simp only [if_pos (by decide : (2 : Int32) < (3 : Int32)), if_true, if_false]]
 show Go _ _ _ (T4.setTop (mkF m 28 #[vr a1, vi 2, vr b2] [(.int 2), (.int 0), (.ref b2), (.int 0), (.ref a1)])) _
 have V_b2_pre := V_b2
 obtain ⟨T5, h5, L5, X5, e5, N5, K5, B5, st5⟩ := cpA X4 hx hZ hown (wd34 hw) (wd37 hw) (wd35 hw) (wd36 hw) e4 V_a1 V_b2 (us := [(.int v0), (.int v1)]) (Or.inl ⟨rfl, rfl⟩) (sp := (0 : Int32)) (dp := (0 : Int32)) (nn := (2 : Int32)) (by decide) (by decide) (by decide) (by decide) (by decide) rfl (Nat.le_of_ble_eq_true rfl) N4 g_b2 (g := (mkF m 28 #[vr a1, vi 2, vr b2] [(.int 2), (.int 0), (.ref b2), (.int 0), (.ref a1)])) rfl (by rw [hml]; rfl) rfl (hb hby d11_28) (by decide) (W := 0) (by show 2 * 0 + _ ≤ _; exact Nat.le_of_eq rfl) (by decide)
 refine G st5 ?_
 replace V_a1 := V_a1.keep K5 (ninS ne_a1_b2 nin0)
 replace Z0 := Nat.le_trans Z0 K5.1
 replace K0 := K0.trans K5 (allS (Or.inr sz_b2) all0)
 have V_b2 : Arv Z h5 b2 k2 .int (2 : Int32) [(.int v0), (.int v1)] (.int (0 : Int32)) := B5
 refine G (fun t k => XS.aloadN X5.here hx rfl (hb hby d11_31) rfl rfl k) ?_
 obtain ⟨fs, hr, hrun, hended, hW, hsame⟩ := X5.leave (v := some (.ref b2)) (fun h => by rw [Bd.returns] at h; cases h)
 refine Go.fin (retOut X5 hx Bd.returns rfl (Or.inr (Or.inr (Or.inr (Or.inr ⟨rfl, rfl, rfl⟩)))) (hb hby d11_32) hr) hrun hended ⟨_, _, rfl, ?_, ⟨_, rfl⟩, hW, hsame.mono (by decide) (by decide)⟩
 show Q11_2 Z a1 v0 v1 v2 k_v h0 n0 _ T5.heap _
 rw [e5]
 exact ⟨b2, k2, rfl, N5, K0, g_b2, sz_b2, V_b2⟩
theorem d11_6 : decode cB11 6 = .ok (.aload_n 0, 1) := by decide +kernel
theorem d11_7 : decode cB11 7 = .ok (.invokevirtual 316, 3) := by decide +kernel
theorem wd58 {Z a0} (hw : HW a0 Z) : (Jvm.Cond.methodLink "java/util/Arrays" (316 : Nat) ⟨"[I", "clone", "()Ljava/lang/Object;"⟩).before a0 Z = true := mw hw 58 rfl
theorem wd59 {Z a0} (hw : HW a0 Z) : (Jvm.Cond.sameMethod "[I" "java/lang/Object" "clone" "()Ljava/lang/Object;").before a0 Z = true := mw hw 59 rfl
theorem wd63 {Z a0} (hw : HW a0 Z) : (Jvm.Cond.native ⟨"java/lang/Object", "clone", "()Ljava/lang/Object;"⟩).before a0 Z = true := mw hw 63 rfl
theorem wd61 {Z a0} (hw : HW a0 Z) : (Jvm.Cond.instanceMethod ⟨"java/lang/Object", "clone", "()Ljava/lang/Object;"⟩).before a0 Z = true := mw hw 61 rfl
theorem wd62 {Z a0} (hw : HW a0 Z) : (Jvm.Cond.selects "[I" ⟨"[I", "clone", "()Ljava/lang/Object;"⟩ ⟨"java/lang/Object", "clone", "()Ljava/lang/Object;"⟩).before a0 Z = true := mw hw 62 rfl
theorem wd64 {Z a0} (hw : HW a0 Z) : (Jvm.Cond.castable "[I" "java/lang/Cloneable").before a0 Z = true := mw hw 64 rfl
theorem d11_10 : decode cB11 10 = .ok (.checkcast 317, 3) := by decide +kernel
theorem wd65 {Z a0} (hw : HW a0 Z) : (Jvm.Cond.classLink "java/util/Arrays" (317 : Nat) "[I").before a0 Z = true := mw hw 65 rfl
theorem d11_13 : decode cB11 13 = .ok (.areturn, 1) := by decide +kernel
def Q11_3 (Z : State) (a1 : Addr) (v0 : Int32) (v1 : Int32) (v2 : Int32) (k_v : ClassId) (h0 : Heap) (n0 : Nat) (v : Option Value) (h : Heap) (L : List Loc) : Prop := ∃ x11_3_0 : Addr, v = some (.ref x11_3_0) ∧ Fr n0 L ∧ Keep h0 h [] ∧ n0 ≤ x11_3_0 ∧ h0.size ≤ x11_3_0 ∧ Arv Z h x11_3_0 k_v .int (3 : Int32) [(.int v0), (.int v1), (.int v2)] (.int (0 : Int32)) ∧ Exa Z h x11_3_0 "[I"
theorem ef11_3 (m : MethodId) (x0 : Addr) : entryFrame m #[(.ref x0), (.int (3 : Int32))] 3 = mkF m 0 #[.val (.ref x0), .val (.int (3 : Int32)), .unset] [] := by first | (simp [entryFrame, mkF, argsToLocals, Value.category]; done) | rfl
theorem rm11_3 (l : Launch) (Z : State) (a0 : Array Value) (hw : HW a0 Z) (ws : List Jvm.Cond) (a1 : Addr) (v0 : Int32) (v1 : Int32) (v2 : Int32) (k_v : ClassId) (h0 : Heap) (n0 : Nat) (Z0 : n0 ≤ h0.size) (V_a1 : Arv Z h0 a1 k_v .int (3 : Int32) [(.int v0), (.int v1), (.int v2)] (.int (0 : Int32))) (E_a1 : Exa Z h0 a1 "[I") :
  MetFree l (⟨"java/util/Arrays", "copyOf", "([II)[I"⟩ : MethodName) (head1 (Jvm.Cond.code (⟨"java/util/Arrays", "copyOf", "([II)[I"⟩ : MethodName) cB11 3 (some (.array .int)) :: ws) (Rm 1 1 3 14)) (Pr Z h0 #[(.ref a1), (.int (3 : Int32))]) Tr (fun _ U o U' => ∃ v L, o = .returned v ∧ Q11_3 Z a1 v0 v1 v2 k_v h0 n0 v U'.heap L ∧ FrameEnd U o U' L (Rm 1 1 3 14).cells (Rm 1 1 3 14).slots) := by
 refine MetFree.of_bodySF (plainFor_of_name pn2) hisR ?_
 intro p e s m args below meth c s₁ Bd hml0 hP hK
 obtain ⟨rfl, hZ, hh⟩ := hP
 have hx := Bd.exec
 have hby := Bd.bytes
 have hml : c.maxLocals = 3 := hml0
 have hown : s.vm.findClass "java/util/Arrays" = some m.cls := findClass_of_methodNamed Bd.named
 have hnm := (name_of_methodNamed Bd.named Bd.method).1
 have X0 : Stand p l e (Rm 1 1 3 14) s m #[(.ref a1), (.int (3 : Int32))] below meth c s₁ [] 0 0 := Stand.of_body Bd
 have e0 : s₁.heap = h0 := by rw [← hh, Bd.state]; rfl
 have N0 := Fr.nil n0
 have K0 : Keep h0 h0 [] := Keep.refl h0 _
 refine G (P := fun o U' => ∃ v L, o = .returned v ∧ Q11_3 Z a1 v0 v1 v2 k_v h0 n0 v U'.heap L ∧ FrameEnd s o U' L (Rm 1 1 3 14).cells (Rm 1 1 3 14).slots) (fun t k => castTop (ef11_3 m a1) k) ?_
 show Go _ _ _ (s₁.setTop (mkF m 0 #[vr a1, vi 3, us] [])) _
 refine G (fun t k => XS.iloadN X0.here hx rfl (hb hby d11_0) rfl (XS.aloadN X0.here hx rfl (hb hby d11_1) rfl rfl k)) ?_
 obtain ⟨cl1, Ar1, -, Sz1, Ng1, -, -⟩ := id V_a1
 refine G (fun t k => X0.arraylength hx (by rw [e0]; exact Ar1.1) (State.isArrayOf_alike hZ.alike Ar1.2.1) (g := (mkF m 2 #[vr a1, vi 3, us] [(.ref a1), (.int 3)])) rfl rfl (hb hby d11_2) _ k) ?_
 rw [len_of Sz1 Ng1]
 clear Ng1 Sz1 Ar1 cl1
 refine G (fun t k => XS.icmpNo X0.here hx rfl (hb hby d11_3) rfl (teq (by decide : (3 : Int32) = (3 : Int32))).2 (XS.aloadN X0.here hx rfl (hb hby d11_6) rfl rfl k)) ?_
 obtain ⟨T2, h2, X2, e2, E2, A2, EA2, st2⟩ := cloneH X0 hx hZ hown (wd58 hw) (wd59 hw) (wd63 hw) (wd61 hw) (wd62 hw) (wd64 hw) e0 (Arv.arh V_a1) E_a1 (g := (mkF m 7 #[vr a1, vi 3, us] [(.ref a1)])) rfl (by rw [hml]; rfl) rfl (hb hby d11_7) (by decide) (W := 0) (cap := 3) (by show 2 * 0 + _ ≤ _; exact Nat.le_of_eq rfl) (by decide) (by decide) (by decide) (by decide)
 obtain ⟨b2, g2⟩ : ∃ z, z = h0.size := ⟨_, rfl⟩
 rw [← g2] at A2 EA2 st2
 refine G st2 ?_
 have ne_a1_b2 : a1 ≠ b2 := Nat.ne_of_lt (Nat.lt_of_lt_of_le V_a1.lt (Nat.le_of_eq g2.symm))
 have g_b2 : n0 ≤ b2 := Nat.le_trans Z0 (Nat.le_of_eq g2.symm)
 have sz_b2 : h0.size ≤ b2 := Nat.le_trans K0.1 (Nat.le_of_eq g2.symm)
 replace V_a1 := V_a1.ext E2
 replace E_a1 := E_a1.ext E2
 replace K0 := K0.ext E2
 replace Z0 := Nat.le_trans Z0 E2.1
 have V_b2 : Arv Z h2 b2 k_v .int (3 : Int32) [(.int v0), (.int v1), (.int v2)] (.int (0 : Int32)) := A2
 have E_b2 := EA2
 obtain ⟨T3, X3, e3, st3⟩ := castY X2 hx hZ hown (wd65 hw) e2 (Ins.self E_b2) (g := (mkF m 10 #[vr a1, vi 3, us] [(.ref b2)])) rfl rfl (hb hby d11_10)
 refine G st3 ?_
 show Go _ _ _ (T3.setTop (mkF m 13 #[vr a1, vi 3, us] [(.ref b2)])) _
 obtain ⟨fs, hr, hrun, hended, hW, hsame⟩ := X3.leave (v := some (.ref b2)) (fun h => by rw [Bd.returns] at h; cases h)
 refine Go.fin (retOut X3 hx Bd.returns rfl (Or.inr (Or.inr (Or.inr (Or.inr ⟨rfl, rfl, rfl⟩)))) (hb hby d11_13) hr) hrun hended ⟨_, _, rfl, ?_, ⟨_, rfl⟩, hW, hsame.mono (by decide) (by decide)⟩
 show Q11_3 Z a1 v0 v1 v2 k_v h0 n0 _ T3.heap _
 rw [e3]
 exact ⟨b2, rfl, N0, K0, g_b2, sz_b2, V_b2, E_b2⟩
theorem d12_0 : decode cB12 0 = .ok (.aload_n 0, 1) := by decide +kernel
theorem d12_1 : decode cB12 1 = .ok (.invokespecial 1, 3) := by decide +kernel
theorem wd70 {Z a0} (hw : HW a0 Z) : (Jvm.Cond.methodLink RC (1 : Nat) ⟨"java/lang/Object", "<init>", "()V"⟩).before a0 Z = true := mw hw 70 rfl
theorem d12_4 : decode cB12 4 = .ok (.aload_n 0, 1) := by decide +kernel
theorem d12_5 : decode cB12 5 = .ok (.aload_n 1, 1) := by decide +kernel
theorem d12_6 : decode cB12 6 = .ok (.putfield 7, 3) := by decide +kernel
theorem wd71 {Z a0} (hw : HW a0 Z) : (Jvm.Cond.fieldLink RC (7 : Nat) RC "start" "[I").before a0 Z = true := mw hw 71 rfl
theorem wd72 {Z a0} (hw : HW a0 Z) : (Jvm.Cond.laysFinal RC RC "start" "[I").before a0 Z = true := mw hw 72 rfl
theorem wd53 {Z a0} (hw : HW a0 Z) : (Jvm.Cond.instantiable RC (2 : Nat)).before a0 Z = true := mw hw 53 rfl
theorem d12_9 : decode cB12 9 = .ok (.aload_n 0, 1) := by decide +kernel
theorem d12_10 : decode cB12 10 = .ok (.aload_n 2, 1) := by decide +kernel
theorem d12_11 : decode cB12 11 = .ok (.putfield 13, 3) := by decide +kernel
theorem wd73 {Z a0} (hw : HW a0 Z) : (Jvm.Cond.fieldLink RC (13 : Nat) RC "targets" "[I").before a0 Z = true := mw hw 73 rfl
theorem wd74 {Z a0} (hw : HW a0 Z) : (Jvm.Cond.laysFinal RC RC "targets" "[I").before a0 Z = true := mw hw 74 rfl
theorem d12_14 : decode cB12 14 = .ok (.return_, 1) := by decide +kernel
theorem pn4 : plainName RC = true := by first | (simp [plainName, overriddenIn]; done) | decide +kernel
def Q12 (Z : State) (a1 : Addr) (a2 : Addr) (a3 : Addr) (u_a1_start : Value) (u_a1_targets : Value) (h0 : Heap) (n0 : Nat) (v : Option Value) (h : Heap) (L : List Loc) : Prop := v = none ∧ Fr n0 L ∧ Keep h0 h [a1] ∧ Exa Z h a1 RC ∧ Fld Z h a1 RC "start" "[I" (.ref a2) ∧ Fld Z h a1 RC "targets" "[I" (.ref a3)
theorem ef12 (m : MethodId) (x0 : Addr) (x1 : Addr) (x2 : Addr) : entryFrame m #[(.ref x0), (.ref x1), (.ref x2)] 3 = mkF m 0 #[.val (.ref x0), .val (.ref x1), .val (.ref x2)] [] := by first | (simp [entryFrame, mkF, argsToLocals, Value.category]; done) | rfl
theorem sn2 {Z a0} (hw : HW a0 Z) {b a : Addr} : b ≠ a ∨ RoadKit.slotOf Z RC "targets" "[I" ≠ RoadKit.slotOf Z RC "start" "[I" := Or.inr (slot_ne (Or.inr (wd74 hw)) (Or.inr (wd72 hw)) (by decide) (t := (.array .int)) (t' := (.array .int)) (by decide) (by decide))
theorem sn3 {Z a0} (hw : HW a0 Z) {b a : Addr} : b ≠ a ∨ RoadKit.slotOf Z RC "start" "[I" ≠ RoadKit.slotOf Z RC "targets" "[I" := Or.inr (slot_ne (Or.inr (wd72 hw)) (Or.inr (wd74 hw)) (by decide) (t := (.array .int)) (t' := (.array .int)) (by decide) (by decide))
theorem rm12 (l : Launch) (Z : State) (a0 : Array Value) (hw : HW a0 Z) (ws : List Jvm.Cond) (a1 : Addr) (a2 : Addr) (a3 : Addr) (u_a1_start : Value) (u_a1_targets : Value) (h0 : Heap) (n0 : Nat) (Z0 : n0 ≤ h0.size) (E_a1 : Exa Z h0 a1 RC) (F_a1_a : Fld Z h0 a1 RC "start" "[I" u_a1_start) (F_a1_t : Fld Z h0 a1 RC "targets" "[I" u_a1_targets) (g_a1 : n0 ≤ a1) :
  MetFree l (⟨RC, "<init>", "([I[I)V"⟩ : MethodName) (head1 (Jvm.Cond.code (⟨RC, "<init>", "([I[I)V"⟩ : MethodName) cB12 3 none :: ws) (Rm 1 0 0 12)) (Pr Z h0 #[(.ref a1), (.ref a2), (.ref a3)]) Tr (fun _ U o U' => ∃ v L, o = .returned v ∧ Q12 Z a1 a2 a3 u_a1_start u_a1_targets h0 n0 v U'.heap L ∧ FrameEnd U o U' L (Rm 1 0 0 12).cells (Rm 1 0 0 12).slots) := by
 refine MetFree.of_bodySF (plainFor_of_name pn4) hisR ?_
 intro p e s m args below meth c s₁ Bd hml0 hP hK
 obtain ⟨rfl, hZ, hh⟩ := hP
 have hx := Bd.exec
 have hby := Bd.bytes
 have hml : c.maxLocals = 3 := hml0
 have hown : s.vm.findClass RC = some m.cls := findClass_of_methodNamed Bd.named
 have hnm := (name_of_methodNamed Bd.named Bd.method).1
 have X0 : Stand p l e (Rm 1 0 0 12) s m #[(.ref a1), (.ref a2), (.ref a3)] below meth c s₁ [] 0 0 := Stand.of_body Bd
 have e0 : s₁.heap = h0 := by rw [← hh, Bd.state]; rfl
 have N0 := Fr.nil n0
 have K0 : Keep h0 h0 [a1] := Keep.refl h0 _
 refine G (P := fun o U' => ∃ v L, o = .returned v ∧ Q12 Z a1 a2 a3 u_a1_start u_a1_targets h0 n0 v U'.heap L ∧ FrameEnd s o U' L (Rm 1 0 0 12).cells (Rm 1 0 0 12).slots) (fun t k => castTop (ef12 m a1 a2 a3) k) ?_
 show Go _ _ _ (s₁.setTop (mkF m 0 #[vr a1, vr a2, vr a3] [])) _
 refine G (fun t k => XS.aloadN X0.here hx rfl (hb hby d12_0) rfl rfl k) ?_
 obtain ⟨T1, X1, e1, st1⟩ := initO X0 hx hZ hown (wd70 hw) (wd12 hw) (wd13 hw) e0 (g := (mkF m 1 #[vr a1, vr a2, vr a3] [(.ref a1)])) rfl (by rw [hml]; rfl) rfl (hb hby d12_1) (by decide) (W := 0) (by show 2 * 0 + _ ≤ _; exact Nat.le_of_eq rfl) (by decide)
 refine G st1 ?_
 refine G (fun t k => XS.aloadN X1.here hx rfl (hb hby d12_4) rfl rfl (XS.aloadN X1.here hx rfl (hb hby d12_5) rfl rfl k)) ?_
 obtain ⟨T2, h2, X2, e2, W2, st2⟩ := putF X1 hx hZ hown (host := "") (Or.inl (wd71 hw)) Via.refl e1 F_a1_a E_a1 (Or.inr ⟨(wd72 hw), rfl, hnm⟩) (wd53 hw) (ty := (.array .int)) (by decide) rfl rfl (g := (mkF m 6 #[vr a1, vr a2, vr a3] [(.ref a2), (.ref a1)])) rfl rfl (hb hby d12_6)
 refine G st2 ?_
 have N2 := Fr.snoc X2 N0 g_a1
 replace E_a1 := E_a1.wr W2
 replace F_a1_a := F_a1_a.same W2
 replace F_a1_t := F_a1_t.other W2 (sn2 hw)
 replace Z0 := Nat.le_trans Z0 (Nat.le_of_eq W2.size.symm)
 replace K0 := K0.wr W2 (Or.inl (by simp))
 refine G (fun t k => XS.aloadN X2.here hx rfl (hb hby d12_9) rfl rfl (XS.aloadN X2.here hx rfl (hb hby d12_10) rfl rfl k)) ?_
 show Go _ _ _ (T2.setTop (mkF m 11 #[vr a1, vr a2, vr a3] [(.ref a3), (.ref a1)])) _
 obtain ⟨T3, h3, X3, e3, W3, st3⟩ := putF X2 hx hZ hown (host := "") (Or.inl (wd73 hw)) Via.refl e2 F_a1_t E_a1 (Or.inr ⟨(wd74 hw), rfl, hnm⟩) (wd53 hw) (ty := (.array .int)) (by decide) rfl rfl (g := (mkF m 11 #[vr a1, vr a2, vr a3] [(.ref a3), (.ref a1)])) rfl rfl (hb hby d12_11)
 refine G st3 ?_
 have N3 := Fr.snoc X3 N2 g_a1
 replace E_a1 := E_a1.wr W3
 replace F_a1_a := F_a1_a.other W3 (sn3 hw)
 replace F_a1_t := F_a1_t.same W3
 replace Z0 := Nat.le_trans Z0 (Nat.le_of_eq W3.size.symm)
 replace K0 := K0.wr W3 (Or.inl (by simp))
 obtain ⟨fs, hr, hrun, hended, hW, hsame⟩ := X3.leave (v := none) (fun _ => rfl)
 refine Go.fin (X3.returnOut hx Bd.returns (hb hby d12_14) hr) hrun hended ⟨_, _, rfl, ?_, ⟨_, rfl⟩, hW, hsame.mono (by decide) (by decide)⟩
 show Q12 Z a1 a2 a3 u_a1_start u_a1_targets h0 n0 _ T3.heap _
 rw [e3]
 exact ⟨rfl, N3, K0, E_a1, F_a1_a, F_a1_t⟩
theorem d5_0 : decode cB5 0 = .ok (.aload_n 0, 1) := by decide +kernel
theorem d5_1 : decode cB5 1 = .ok (.getfield 7, 3) := by decide +kernel
theorem d5_4 : decode cB5 4 = .ok (.aload_n 0, 1) := by decide +kernel
theorem d5_5 : decode cB5 5 = .ok (.getfield 13, 3) := by decide +kernel
theorem d5_8 : decode cB5 8 = .ok (.invokestatic 17, 3) := by decide +kernel
theorem wd29 {Z a0} (hw : HW a0 Z) : (Jvm.Cond.methodLink BC (17 : Nat) ⟨"java/util/Arrays", "copyOf", "([JI)[J"⟩).before a0 Z = true := mw hw 29 rfl
theorem wd32 {Z a0} (hw : HW a0 Z) : (Jvm.Cond.code ⟨"java/util/Arrays", "copyOf", "([JI)[J"⟩ cB6 (3 : Nat) (Option.some (Jvm.ClassFile.FieldType.array Jvm.ClassFile.FieldType.long))).before a0 Z = true := mw hw 32 rfl
theorem wd31 {Z a0} (hw : HW a0 Z) : (Jvm.Cond.initialized "java/util/Arrays").before a0 Z = true := mw hw 31 rfl
theorem pd4 : parseMethodDescriptor "([JI)[J" = some ⟨[(.array .long), .int], some (.array .long)⟩ := by decide +kernel
theorem wd30 {Z a0} (hw : HW a0 Z) : (Jvm.Cond.static ⟨"java/util/Arrays", "copyOf", "([JI)[J"⟩).before a0 Z = true := mw hw 30 rfl
theorem d5_11 : decode cB5 11 = .ok (.astore_n 2, 1) := by decide +kernel
theorem d5_12 : decode cB5 12 = .ok (.aload_n 2, 1) := by decide +kernel
theorem d5_13 : decode cB5 13 = .ok (.invokestatic 23, 3) := by decide +kernel
theorem wd38 {Z a0} (hw : HW a0 Z) : (Jvm.Cond.methodLink BC (23 : Nat) ⟨"java/util/Arrays", "sort", "([J)V"⟩).before a0 Z = true := mw hw 38 rfl
theorem wd40 {Z a0} (hw : HW a0 Z) : (Jvm.Cond.code ⟨"java/util/Arrays", "sort", "([J)V"⟩ cB7 (1 : Nat) (Option.none : Option Jvm.ClassFile.FieldType)).before a0 Z = true := mw hw 40 rfl
theorem pd5 : parseMethodDescriptor "([J)V" = some ⟨[(.array .long)], none⟩ := by decide +kernel
theorem wd39 {Z a0} (hw : HW a0 Z) : (Jvm.Cond.static ⟨"java/util/Arrays", "sort", "([J)V"⟩).before a0 Z = true := mw hw 39 rfl
theorem d5_16 : decode cB5 16 = .ok (.iload_n 1, 1) := by decide +kernel
theorem d5_17 : decode cB5 17 = .ok (.iconst 1, 1) := by decide +kernel
theorem d5_18 : decode cB5 18 = .ok (.iadd, 1) := by decide +kernel
theorem d5_19 : decode cB5 19 = .ok (.newarray .int, 2) := by decide +kernel
theorem d5_21 : decode cB5 21 = .ok (.astore_n 3, 1) := by decide +kernel
theorem d5_22 : decode cB5 22 = .ok (.aload_n 2, 1) := by decide +kernel
theorem d5_23 : decode cB5 23 = .ok (.arraylength, 1) := by decide +kernel
theorem d5_24 : decode cB5 24 = .ok (.newarray .int, 2) := by decide +kernel
theorem d5_26 : decode cB5 26 = .ok (.astore 4, 2) := by decide +kernel
theorem d5_28 : decode cB5 28 = .ok (.iconst 0, 1) := by decide +kernel
theorem d5_29 : decode cB5 29 = .ok (.istore 5, 2) := by decide +kernel
theorem d5_31 : decode cB5 31 = .ok (.iconst 0, 1) := by decide +kernel
theorem d5_32 : decode cB5 32 = .ok (.istore 6, 2) := by decide +kernel
theorem d5_34 : decode cB5 34 = .ok (.iload 6, 2) := by decide +kernel
theorem d5_36 : decode cB5 36 = .ok (.aload_n 2, 1) := by decide +kernel
theorem d5_37 : decode cB5 37 = .ok (.arraylength, 1) := by decide +kernel
theorem d5_38 : decode cB5 38 = .ok (.if_icmp .ge 60, 3) := by decide +kernel
theorem d5_41 : decode cB5 41 = .ok (.iload 6, 2) := by decide +kernel
theorem d5_43 : decode cB5 43 = .ok (.ifCond .le 20, 3) := by decide +kernel
theorem d5_63 : decode cB5 63 = .ok (.aload_n 3, 1) := by decide +kernel
theorem d5_64 : decode cB5 64 = .ok (.aload_n 2, 1) := by decide +kernel
theorem d5_65 : decode cB5 65 = .ok (.iload 6, 2) := by decide +kernel
theorem d5_67 : decode cB5 67 = .ok (.laload, 1) := by decide +kernel
theorem d5_68 : decode cB5 68 = .ok (.bipush 32, 2) := by decide +kernel
theorem d5_70 : decode cB5 70 = .ok (.lushr, 1) := by decide +kernel
theorem d5_71 : decode cB5 71 = .ok (.l2i, 1) := by decide +kernel
theorem d5_72 : decode cB5 72 = .ok (.iconst 1, 1) := by decide +kernel
theorem d5_73 : decode cB5 73 = .ok (.iadd, 1) := by decide +kernel
theorem d5_74 : decode cB5 74 = .ok (.dup2, 1) := by decide +kernel
theorem d5_75 : decode cB5 75 = .ok (.iaload, 1) := by decide +kernel
theorem d5_76 : decode cB5 76 = .ok (.iconst 1, 1) := by decide +kernel
theorem d5_77 : decode cB5 77 = .ok (.iadd, 1) := by decide +kernel
theorem d5_78 : decode cB5 78 = .ok (.iastore, 1) := by decide +kernel
theorem d5_79 : decode cB5 79 = .ok (.aload 4, 2) := by decide +kernel
theorem d5_81 : decode cB5 81 = .ok (.iload 5, 2) := by decide +kernel
theorem d5_83 : decode cB5 83 = .ok (.iinc 5 1, 3) := by decide +kernel
theorem d5_86 : decode cB5 86 = .ok (.aload_n 2, 1) := by decide +kernel
theorem d5_87 : decode cB5 87 = .ok (.iload 6, 2) := by decide +kernel
theorem d5_89 : decode cB5 89 = .ok (.laload, 1) := by decide +kernel
theorem d5_90 : decode cB5 90 = .ok (.l2i, 1) := by decide +kernel
theorem d5_91 : decode cB5 91 = .ok (.iastore, 1) := by decide +kernel
theorem d5_92 : decode cB5 92 = .ok (.iinc 6 1, 3) := by decide +kernel
theorem d5_95 : decode cB5 95 = .ok (.goto (-61), 3) := by decide +kernel
theorem d5_46 : decode cB5 46 = .ok (.aload_n 2, 1) := by decide +kernel
theorem d5_47 : decode cB5 47 = .ok (.iload 6, 2) := by decide +kernel
theorem d5_49 : decode cB5 49 = .ok (.laload, 1) := by decide +kernel
theorem d5_50 : decode cB5 50 = .ok (.aload_n 2, 1) := by decide +kernel
theorem d5_51 : decode cB5 51 = .ok (.iload 6, 2) := by decide +kernel
theorem d5_53 : decode cB5 53 = .ok (.iconst 1, 1) := by decide +kernel
theorem d5_54 : decode cB5 54 = .ok (.isub, 1) := by decide +kernel
theorem d5_55 : decode cB5 55 = .ok (.laload, 1) := by decide +kernel
theorem d5_56 : decode cB5 56 = .ok (.lcmp, 1) := by decide +kernel
theorem d5_57 : decode cB5 57 = .ok (.ifCond .ne 6, 3) := by decide +kernel
theorem d5_60 : decode cB5 60 = .ok (.goto 32, 3) := by decide +kernel
theorem d5_98 : decode cB5 98 = .ok (.iconst 0, 1) := by decide +kernel
theorem d5_99 : decode cB5 99 = .ok (.istore 6, 2) := by decide +kernel
theorem d5_101 : decode cB5 101 = .ok (.iload 6, 2) := by decide +kernel
theorem d5_103 : decode cB5 103 = .ok (.iload_n 1, 1) := by decide +kernel
theorem d5_104 : decode cB5 104 = .ok (.if_icmp .ge 22, 3) := by decide +kernel
theorem d5_107 : decode cB5 107 = .ok (.aload_n 3, 1) := by decide +kernel
theorem d5_108 : decode cB5 108 = .ok (.iload 6, 2) := by decide +kernel
theorem d5_110 : decode cB5 110 = .ok (.iconst 1, 1) := by decide +kernel
theorem d5_111 : decode cB5 111 = .ok (.iadd, 1) := by decide +kernel
theorem d5_112 : decode cB5 112 = .ok (.dup2, 1) := by decide +kernel
theorem d5_113 : decode cB5 113 = .ok (.iaload, 1) := by decide +kernel
theorem d5_114 : decode cB5 114 = .ok (.aload_n 3, 1) := by decide +kernel
theorem d5_115 : decode cB5 115 = .ok (.iload 6, 2) := by decide +kernel
theorem d5_117 : decode cB5 117 = .ok (.iaload, 1) := by decide +kernel
theorem d5_118 : decode cB5 118 = .ok (.iadd, 1) := by decide +kernel
theorem d5_119 : decode cB5 119 = .ok (.iastore, 1) := by decide +kernel
theorem d5_120 : decode cB5 120 = .ok (.iinc 6 1, 3) := by decide +kernel
theorem d5_123 : decode cB5 123 = .ok (.goto (-22), 3) := by decide +kernel
theorem d5_126 : decode cB5 126 = .ok (.new 27, 3) := by decide +kernel
theorem wd52 {Z a0} (hw : HW a0 Z) : (Jvm.Cond.classLink BC (27 : Nat) RC).before a0 Z = true := mw hw 52 rfl
theorem wd54 {Z a0} (hw : HW a0 Z) : (Jvm.Cond.initialized RC).before a0 Z = true := mw hw 54 rfl
theorem d5_129 : decode cB5 129 = .ok (.dup, 1) := by decide +kernel
theorem d5_130 : decode cB5 130 = .ok (.aload_n 3, 1) := by decide +kernel
theorem d5_131 : decode cB5 131 = .ok (.aload 4, 2) := by decide +kernel
theorem d5_133 : decode cB5 133 = .ok (.iload 5, 2) := by decide +kernel
theorem d5_135 : decode cB5 135 = .ok (.invokestatic 29, 3) := by decide +kernel
theorem wd55 {Z a0} (hw : HW a0 Z) : (Jvm.Cond.methodLink BC (29 : Nat) ⟨"java/util/Arrays", "copyOf", "([II)[I"⟩).before a0 Z = true := mw hw 55 rfl
theorem wd57 {Z a0} (hw : HW a0 Z) : (Jvm.Cond.code ⟨"java/util/Arrays", "copyOf", "([II)[I"⟩ cB11 (3 : Nat) (Option.some (Jvm.ClassFile.FieldType.array Jvm.ClassFile.FieldType.int))).before a0 Z = true := mw hw 57 rfl
theorem pd6 : parseMethodDescriptor "([II)[I" = some ⟨[(.array .int), .int], some (.array .int)⟩ := by decide +kernel
theorem wd56 {Z a0} (hw : HW a0 Z) : (Jvm.Cond.static ⟨"java/util/Arrays", "copyOf", "([II)[I"⟩).before a0 Z = true := mw hw 56 rfl
theorem d5_138 : decode cB5 138 = .ok (.invokespecial 32, 3) := by decide +kernel
theorem wd67 {Z a0} (hw : HW a0 Z) : (Jvm.Cond.methodLinkNest BC (32 : Nat) ⟨RC, "<init>", "([I[I)V"⟩ RC).before a0 Z = true := mw hw 67 rfl
theorem wd69 {Z a0} (hw : HW a0 Z) : (Jvm.Cond.code ⟨RC, "<init>", "([I[I)V"⟩ cB12 (3 : Nat) (Option.none : Option Jvm.ClassFile.FieldType)).before a0 Z = true := mw hw 69 rfl
theorem pd7 : parseMethodDescriptor "([I[I)V" = some ⟨[(.array .int), (.array .int)], none⟩ := by decide +kernel
theorem wd68 {Z a0} (hw : HW a0 Z) : (Jvm.Cond.instanceMethod ⟨RC, "<init>", "([I[I)V"⟩).before a0 Z = true := mw hw 68 rfl
theorem d5_141 : decode cB5 141 = .ok (.areturn, 1) := by decide +kernel
def Q5_11 (Z : State) (a1 : Addr) (w_P : Addr) (t0 : Int64) (t1 : Int64) (t2 : Int64) (k_P : ClassId) (h0 : Heap) (n0 : Nat) (v : Option Value) (h : Heap) (L : List Loc) : Prop := ∃ x5_11_0 : Addr, ∃ x5_11_1 : Addr, ∃ x5_11_2 : Addr, ∃ k_x5_11_0 : ClassId, ∃ k_x5_11_1 : ClassId, v = some (.ref x5_11_2) ∧ Fr n0 L ∧ Keep h0 h [] ∧ n0 ≤ x5_11_0 ∧ h0.size ≤ x5_11_0 ∧ n0 ≤ x5_11_1 ∧ h0.size ≤ x5_11_1 ∧ n0 ≤ x5_11_2 ∧ h0.size ≤ x5_11_2 ∧ x5_11_0 ≠ x5_11_1 ∧ x5_11_0 ≠ x5_11_2 ∧ x5_11_1 ≠ x5_11_2 ∧ Arv Z h x5_11_0 k_x5_11_0 .int (9 : Int32) (List.map Value.int (pre (8 : Int32) (7 : Int32) (pre (7 : Int32) (6 : Int32) (pre (6 : Int32) (5 : Int32) (pre (5 : Int32) (4 : Int32) (pre (4 : Int32) (3 : Int32) (pre (3 : Int32) (2 : Int32) (pre (2 : Int32) (1 : Int32) (pre (1 : Int32) (0 : Int32) (bump (gi (f10_a1_0 t0 t1 t2)) z9)))))))))) (.int (0 : Int32)) ∧ Exa Z h x5_11_2 RC ∧ Arv Z h x5_11_1 k_x5_11_1 .int (1 : Int32) [(.int ((f10_a1_0 t0 t1 t2).toInt32))] (.int (0 : Int32)) ∧ Fld Z h x5_11_2 RC "start" "[I" (.ref x5_11_0) ∧ Fld Z h x5_11_2 RC "targets" "[I" (.ref x5_11_1)
theorem ef5_11 (m : MethodId) (x0 : Addr) : entryFrame m #[(.ref x0), (.int (8 : Int32))] 7 = mkF m 0 #[.val (.ref x0), .val (.int (8 : Int32)), .unset, .unset, .unset, .unset, .unset] [] := by first | (simp [entryFrame, mkF, argsToLocals, Value.category]; done) | rfl
theorem rm5_11 (l : Launch) (Z : State) (a0 : Array Value) (hw : HW a0 Z) (ws : List Jvm.Cond) (a1 : Addr) (w_P : Addr) (t0 : Int64) (t1 : Int64) (t2 : Int64) (k_P : ClassId) (h0 : Heap) (n0 : Nat) (Z0 : n0 ≤ h0.size) (E_a1 : Exa Z h0 a1 BC) (F_a1_s : Fld Z h0 a1 BC "size" "I" (.int (3 : Int32))) (F_a1_p : Fld Z h0 a1 BC "pairs" "[J" (.ref w_P)) (V_P : Arv Z h0 w_P k_P .long (16 : Int32) [(.long t0), (.long t1), (.long t2), (.long (0 : Int64)), (.long (0 : Int64)), (.long (0 : Int64)), (.long (0 : Int64)), (.long (0 : Int64)), (.long (0 : Int64)), (.long (0 : Int64)), (.long (0 : Int64)), (.long (0 : Int64)), (.long (0 : Int64)), (.long (0 : Int64)), (.long (0 : Int64)), (.long (0 : Int64))] (.long (0 : Int64))) (hb0 : ¬ (gi (f10_a1_0 t0 t1 t2)) < 0 ∧ (gi (f10_a1_0 t0 t1 t2)) < (9 : Int32)) (hb1 : ¬ (gi (f10_a1_1 t0 t1 t2)) < 0 ∧ (gi (f10_a1_1 t0 t1 t2)) < (9 : Int32)) (hb2 : ¬ (gi (f10_a1_2 t0 t1 t2)) < 0 ∧ (gi (f10_a1_2 t0 t1 t2)) < (9 : Int32)) (he1 : (f10_a1_1 t0 t1 t2) = (f10_a1_0 t0 t1 t2)) (he2 : (f10_a1_2 t0 t1 t2) = (f10_a1_1 t0 t1 t2)) :
  MetFree l (⟨BC, "build", "(I)Lcom/example/tripletype/tripletype/Relation;"⟩ : MethodName) (head1 (Jvm.Cond.code (⟨BC, "build", "(I)Lcom/example/tripletype/tripletype/Relation;"⟩ : MethodName) cB5 7 (some (.object RC)) :: ws) (Rm 4 5 18 84)) (Pr Z h0 #[(.ref a1), (.int (8 : Int32))]) Tr (fun _ U o U' => ∃ v L, o = .returned v ∧ Q5_11 Z a1 w_P t0 t1 t2 k_P h0 n0 v U'.heap L ∧ FrameEnd U o U' L (Rm 4 5 18 84).cells (Rm 4 5 18 84).slots) := by
 refine MetFree.of_bodySF (plainFor_of_name pn1) hisR ?_
 intro p e s m args below meth c s₁ Bd hml0 hP hK
 obtain ⟨rfl, hZ, hh⟩ := hP
 have hx := Bd.exec
 have hby := Bd.bytes
 have hml : c.maxLocals = 7 := hml0
 have hown : s.vm.findClass BC = some m.cls := findClass_of_methodNamed Bd.named
 have hnm := (name_of_methodNamed Bd.named Bd.method).1
 have X0 : Stand p l e (Rm 4 5 18 84) s m #[(.ref a1), (.int (8 : Int32))] below meth c s₁ [] 0 0 := Stand.of_body Bd
 have e0 : s₁.heap = h0 := by rw [← hh, Bd.state]; rfl
 have N0 := Fr.nil n0
 have K0 : Keep h0 h0 [] := Keep.refl h0 _
 refine G (P := fun o U' => ∃ v L, o = .returned v ∧ Q5_11 Z a1 w_P t0 t1 t2 k_P h0 n0 v U'.heap L ∧ FrameEnd s o U' L (Rm 4 5 18 84).cells (Rm 4 5 18 84).slots) (fun t k => castTop (ef5_11 m a1) k) ?_
 show Go _ _ _ (s₁.setTop (mkF m 0 #[vr a1, vi 8, us, us, us, us, us] [])) _
 refine G (fun t k => XS.aloadN X0.here hx rfl (hb hby d5_0) rfl rfl k) ?_
 obtain ⟨T1, X1, e1, st1⟩ := getF X0 hx hZ hown (host := "") (Or.inl (wd15 hw)) Via.refl e0 F_a1_p (g := (mkF m 1 #[vr a1, vi 8, us, us, us, us, us] [(.ref a1)])) rfl rfl (hb hby d5_1)
 refine G st1 ?_
 refine G (fun t k => XS.aloadN X1.here hx rfl (hb hby d5_4) rfl rfl k) ?_
 obtain ⟨T2, X2, e2, st2⟩ := getF X1 hx hZ hown (host := "") (Or.inl (wd22 hw)) Via.refl e1 F_a1_s (g := (mkF m 5 #[vr a1, vi 8, us, us, us, us, us] [(.ref a1), (.ref w_P)])) rfl rfl (hb hby d5_5)
 refine G st2 ?_
 obtain ⟨_, _, ⟨T3, L3, k3, n3⟩, -, X3, ⟨Lc3, hQ3, l3, y3, z3⟩, st3⟩ := Jvm.LawKit.callS X2 hx (y := (⟨"java/util/Arrays", "copyOf", "([JI)[J"⟩ : MethodName)) hown (mvT hZ (wd29 hw)) (mvT hZ (wd30 hw)) (mvT hZ (wd31 hw)) (mvT hZ (wd32 hw)) (by decide) (backOf (W := 0) (rm6 l Z a0 hw [] w_P t0 t1 t2 k_P h0 n0 Z0 V_P) hZ (wd32 hw) (wd31 hw) (by decide) (by decide)) (g := (mkF m 8 #[vr a1, vi 8, us, us, us, us, us] [(.int 3), (.ref w_P)])) rfl (by rw [hml]; rfl) (argsL := [(.ref w_P), (.int (3 : Int32))]) (rest := []) (lenOf pd4 rfl) rfl (by show 2 * 0 + _ ≤ _; exact Nat.le_of_eq rfl) (hb hby d5_8) (fun _ _ => ⟨rfl, e2, (by decide : 0 + 1 ≤ _), (by decide : 0 + 3 ≤ _)⟩)
 dsimp only [Pt.U, Pt.locs, Pt.cells, Pt.slots] at X3 l3 y3 z3 st3 hQ3
 subst l3 y3 z3
 obtain ⟨h3, e3⟩ : ∃ z, T3.heap = z := ⟨_, rfl⟩
 rw [e3] at hQ3
 obtain ⟨y3, k_y3, rfl, N3q, K3, ng_y3, sz0_y3, Q3_0⟩ := hQ3
 refine G st3 ?_
 have ne_a1_y3 : a1 ≠ y3 := Nat.ne_of_lt (Nat.lt_of_lt_of_le E_a1.lt sz0_y3)
 have ne_w_P_y3 : w_P ≠ y3 := Nat.ne_of_lt (Nat.lt_of_lt_of_le V_P.lt sz0_y3)
 have g_y3 : n0 ≤ y3 := ng_y3
 have sz_y3 : h0.size ≤ y3 := Nat.le_trans K0.1 sz0_y3
 replace E_a1 := E_a1.keep K3
 replace F_a1_s := F_a1_s.keep K3 nin0
 replace F_a1_p := F_a1_p.keep K3 nin0
 replace V_P := V_P.keep K3 nin0
 replace Z0 := Nat.le_trans Z0 K3.1
 replace K0 := K0.trans K3 all0
 have V_y3 := Q3_0
 have N3 := Fr.app N0 N3q
 show Go _ _ _ (T3.setTop (mkF m 11 #[vr a1, vi 8, us, us, us, us, us] [(.ref y3)])) _
 refine G (fun t k => XS.astoreN X3.here hx rfl (hb hby d5_11) rfl rfl (l' := #[vr a1, vi 8, vr y3, us, us, us, us]) rfl (XS.aloadN X3.here hx rfl (hb hby d5_12) rfl rfl k)) ?_
 obtain ⟨_, _, ⟨T4, L4, k4, n4⟩, -, X4, ⟨Lc4, hQ4, l4, y4, z4⟩, st4⟩ := Jvm.LawKit.callS X3 hx (y := (⟨"java/util/Arrays", "sort", "([J)V"⟩ : MethodName)) hown (mvT hZ (wd38 hw)) (mvT hZ (wd39 hw)) (mvT hZ (wd31 hw)) (mvT hZ (wd40 hw)) (by decide) (backOf (W := 0) (rm7 l Z a0 hw [] y3 t0 t1 t2 k_y3 h3 n0 Z0 V_y3 g_y3) hZ (wd40 hw) (wd31 hw) (by decide) (by decide)) (g := (mkF m 13 #[vr a1, vi 8, vr y3, us, us, us, us] [(.ref y3)])) rfl (by rw [hml]; rfl) (argsL := [(.ref y3)]) (rest := []) (lenOf pd5 rfl) rfl (by show 2 * 0 + _ ≤ _; exact Nat.le_of_eq rfl) (hb hby d5_13) (fun _ _ => ⟨rfl, e3, (by decide : 1 + 0 ≤ _), (by decide : 3 + 0 ≤ _)⟩)
 dsimp only [Pt.U, Pt.locs, Pt.cells, Pt.slots] at X4 l4 y4 z4 st4 hQ4
 subst l4 y4 z4
 refine G st4 ?_
 have V_y3_pre := V_y3
 obtain ⟨h4, e4⟩ : ∃ z, T4.heap = z := ⟨_, rfl⟩
 rw [e4] at hQ4
 obtain ⟨rfl, N4q, K4, Q4_0⟩ := hQ4
 replace Z0 := Nat.le_trans Z0 K4.1
 replace K0 := K0.trans K4 (allS (Or.inr sz_y3) all0)
 clear V_y3_pre
 have V_y3 := Q4_0
 have N4 := Fr.app N3 N4q
 refine G (fun t k => XS.iloadN X4.here hx rfl (hb hby d5_16) rfl (XS.iconst X4.here hx rfl (hb hby d5_17) (XS.iadd X4.here hx rfl (hb hby d5_18) rfl k))) ?_
 obtain ⟨T5, h5, k5, X5, e5, E5, A5, st5⟩ := newP X4 hx hZ (aty := .int) (wd51 hw) e4 (g := (mkF m 19 #[vr a1, vi 8, vr y3, us, us, us, us] [(.int 9)])) rfl (hb hby d5_19) rfl (by decide) (cap := 9) (by decide) (by decide) (by decide) (by decide)
 obtain ⟨b5, g5⟩ : ∃ z, z = h4.size := ⟨_, rfl⟩
 rw [← g5] at A5 st5
 refine G st5 ?_
 have ne_y3_b5 : y3 ≠ b5 := Nat.ne_of_lt (Nat.lt_of_lt_of_le V_y3.lt (Nat.le_of_eq g5.symm))
 have g_b5 : n0 ≤ b5 := Nat.le_trans Z0 (Nat.le_of_eq g5.symm)
 have sz_b5 : h0.size ≤ b5 := Nat.le_trans K0.1 (Nat.le_of_eq g5.symm)
 replace V_y3 := V_y3.ext E5
 replace K0 := K0.ext E5
 replace Z0 := Nat.le_trans Z0 E5.1
 have V_b5 : Arv Z h5 b5 k5 .int (9 : Int32) [(.int (0 : Int32)), (.int (0 : Int32)), (.int (0 : Int32)), (.int (0 : Int32)), (.int (0 : Int32)), (.int (0 : Int32)), (.int (0 : Int32)), (.int (0 : Int32)), (.int (0 : Int32))] (.int (0 : Int32)) := (Arv.new A5 (by decide)).pad (pad_rep [] (.int (0 : Int32)) 9)
 show Go _ _ _ (T5.setTop (mkF m 21 #[vr a1, vi 8, vr y3, us, us, us, us] [(.ref b5)])) _
 refine G (fun t k => XS.astoreN X5.here hx rfl (hb hby d5_21) rfl rfl (l' := #[vr a1, vi 8, vr y3, vr b5, us, us, us]) rfl (XS.aloadN X5.here hx rfl (hb hby d5_22) rfl rfl k)) ?_
 obtain ⟨cl6, Ar6, -, Sz6, Ng6, -, -⟩ := id V_y3
 refine G (fun t k => X5.arraylength hx (by rw [e5]; exact Ar6.1) (State.isArrayOf_alike hZ.alike Ar6.2.1) (g := (mkF m 23 #[vr a1, vi 8, vr y3, vr b5, us, us, us] [(.ref y3)])) rfl rfl (hb hby d5_23) _ k) ?_
 rw [len_of Sz6 Ng6]
 clear Ng6 Sz6 Ar6 cl6
 obtain ⟨T7, h7, k7, X7, e7, E7, A7, st7⟩ := newP X5 hx hZ (aty := .int) (wd51 hw) e5 (g := (mkF m 24 #[vr a1, vi 8, vr y3, vr b5, us, us, us] [(.int 3)])) rfl (hb hby d5_24) rfl (by decide) (cap := 3) (by decide) (by decide) (by decide) (by decide)
 obtain ⟨b7, g7⟩ : ∃ z, z = h5.size := ⟨_, rfl⟩
 rw [← g7] at A7 st7
 refine G st7 ?_
 have ne_y3_b7 : y3 ≠ b7 := Nat.ne_of_lt (Nat.lt_of_lt_of_le V_y3.lt (Nat.le_of_eq g7.symm))
 have ne_b5_b7 : b5 ≠ b7 := Nat.ne_of_lt (Nat.lt_of_lt_of_le V_b5.lt (Nat.le_of_eq g7.symm))
 have g_b7 : n0 ≤ b7 := Nat.le_trans Z0 (Nat.le_of_eq g7.symm)
 have sz_b7 : h0.size ≤ b7 := Nat.le_trans K0.1 (Nat.le_of_eq g7.symm)
 replace V_y3 := V_y3.ext E7
 replace V_b5 := V_b5.ext E7
 replace K0 := K0.ext E7
 replace Z0 := Nat.le_trans Z0 E7.1
 have V_b7 : Arv Z h7 b7 k7 .int (3 : Int32) [(.int (0 : Int32)), (.int (0 : Int32)), (.int (0 : Int32))] (.int (0 : Int32)) := (Arv.new A7 (by decide)).pad (pad_rep [] (.int (0 : Int32)) 3)
 refine G (fun t k => XS.astore X7.here hx rfl (hb hby d5_26) rfl rfl (l' := #[vr a1, vi 8, vr y3, vr b5, vr b7, us, us]) rfl k) ?_
 show Go _ _ _ (T7.setTop (mkF m 28 #[vr a1, vi 8, vr y3, vr b5, vr b7, us, us] [])) _
 replace V_b5 : Arv Z h7 b5 k5 .int (9 : Int32) (List.map Value.int z9) (.int (0 : Int32)) := V_b5
 have ln_0 : z9.length = 9 := rfl
 refine G (fun t k => XS.iconst X7.here hx rfl (hb hby d5_28) (XS.istore X7.here hx rfl (hb hby d5_29) rfl (l' := #[vr a1, vi 8, vr y3, vr b5, vr b7, vi 0, us]) rfl (XS.iconst X7.here hx rfl (hb hby d5_31) (XS.istore X7.here hx rfl (hb hby d5_32) rfl (l' := #[vr a1, vi 8, vr y3, vr b5, vr b7, vi 0, vi 0]) rfl (XS.iload X7.here hx rfl (hb hby d5_34) rfl (XS.aloadN X7.here hx rfl (hb hby d5_36) rfl rfl k)))))) ?_
 obtain ⟨cl8, Ar8, -, Sz8, Ng8, -, -⟩ := id V_y3
 refine G (fun t k => X7.arraylength hx (by rw [e7]; exact Ar8.1) (State.isArrayOf_alike hZ.alike Ar8.2.1) (g := (mkF m 37 #[vr a1, vi 8, vr y3, vr b5, vr b7, vi 0, vi 0] [(.ref y3), (.int 0)])) rfl rfl (hb hby d5_37) _ k) ?_
 rw [len_of Sz8 Ng8]
 clear Ng8 Sz8 Ar8 cl8
 show Go _ _ _ (T7.setTop (mkF m 38 #[vr a1, vi 8, vr y3, vr b5, vr b7, vi 0, vi 0] [(.int 3), (.int 0)])) _
 refine G (fun t k => XS.icmpNo X7.here hx rfl (hb hby d5_38) rfl (tlt (by decide : (0 : Int32) < (3 : Int32))).2.1 (XS.iload X7.here hx rfl (hb hby d5_41) rfl (XS.ifYes X7.here hx rfl (pc0 := 43) (pc' := 63) rfl (hb hby d5_43) rfl ((if0 _ _).trans (flt (by decide : ¬ ((0 : Int32) < (0 : Int32)))).2.2.2) (by decide) (by decide) (XS.aloadN X7.here hx rfl (hb hby d5_63) rfl rfl (XS.aloadN X7.here hx rfl (hb hby d5_64) rfl rfl (XS.iload X7.here hx rfl (hb hby d5_65) rfl k)))))) ?_
 obtain ⟨cl9, Ar9, -, Sz9, Ng9, Hs9, -⟩ := id V_y3
 have hin9 := inb_of (j := (0 : Int32)) (c := cl9) Sz9 ⟨by decide, by decide⟩
 refine G (fun t k => X7.laload hx (j := (0 : Int32)) (v := (.long (f10_a1_0 t0 t1 t2))) (by rw [e7]; exact Ar9.1) (State.isArrayOf_alike hZ.alike Ar9.2.1) Ar9.2.2 hin9 (Has.at Hs9 hin9 rfl) (g := (mkF m 67 #[vr a1, vi 8, vr y3, vr b5, vr b7, vi 0, vi 0] [(.int 0), (.ref y3), (.ref b5)])) rfl rfl (hb hby d5_67) _ k) ?_
 clear hin9 Hs9 Ng9 Sz9 Ar9 cl9
 show Go _ _ _ (T7.setTop (mkF m 68 #[vr a1, vi 8, vr y3, vr b5, vr b7, vi 0, vi 0] [(.long (f10_a1_0 t0 t1 t2)), (.ref b5)])) _
 refine G (fun t k => XS.bipush X7.here hx rfl (hb hby d5_68) (XS.lushr X7.here hx rfl (hb hby d5_70) rfl (XS.l2i X7.here hx rfl (hb hby d5_71) rfl (XS.iconst X7.here hx rfl (hb hby d5_72) (XS.iadd X7.here hx rfl (hb hby d5_73) rfl k))))) ?_
 show Go _ _ _ (T7.setTop (mkF m 74 #[vr a1, vi 8, vr y3, vr b5, vr b7, vi 0, vi 0] [(.int (((((f10_a1_0 t0 t1 t2).toUInt64 >>> ((32 : Int32) &&& 0x3f).toInt64.toUInt64).toInt64).toInt32) + (1 : Int32))), (.ref b5)])) _
 show Go _ _ _ (T7.setTop (mkF m 74 #[vr a1, vi 8, vr y3, vr b5, vr b7, vi 0, vi 0] [(.int (gi (f10_a1_0 t0 t1 t2))), (.ref b5)])) _
 refine G (fun t k => XT.dup2 X7.here hx rfl (hb hby d5_74) rfl rfl rfl k) ?_
 obtain ⟨cl10, Ar10, -, Sz10, Ng10, Hs10, -⟩ := id V_b5
 have hin10 := inb_of (j := (gi (f10_a1_0 t0 t1 t2))) (c := cl10) Sz10 hb0
 refine G (fun t k => X7.iaload hx (j := (gi (f10_a1_0 t0 t1 t2))) (v := (.int (own_at z9 (gi (f10_a1_0 t0 t1 t2))))) (by rw [e7]; exact Ar10.1) (State.isArrayOf_alike hZ.alike Ar10.2.1) Ar10.2.2 hin10 (Has.at Hs10 hin10 (own_atv z9 (gi (f10_a1_0 t0 t1 t2)))) (g := (mkF m 75 #[vr a1, vi 8, vr y3, vr b5, vr b7, vi 0, vi 0] [(.int (gi (f10_a1_0 t0 t1 t2))), (.ref b5), (.int (gi (f10_a1_0 t0 t1 t2))), (.ref b5)])) rfl rfl (hb hby d5_75) _ k) ?_
 clear hin10 Hs10 Ng10 Sz10 Ar10 cl10
 refine G (fun t k => XS.iconst X7.here hx rfl (hb hby d5_76) (XS.iadd X7.here hx rfl (hb hby d5_77) rfl k)) ?_
 obtain ⟨cl11, Ar11, qq11, Sz11, Ng11, Hs11, Gs11⟩ := id V_b5
 have hin11 := inb_of (j := (gi (f10_a1_0 t0 t1 t2))) (c := cl11) Sz11 hb0
 obtain ⟨T12, h12, X12, e12, W12, st12⟩ := stI X7 hx hZ e7 Ar11 (j := (gi (f10_a1_0 t0 t1 t2))) hin11 (g := (mkF m 78 #[vr a1, vi 8, vr y3, vr b5, vr b7, vi 0, vi 0] [(.int ((own_at z9 (gi (f10_a1_0 t0 t1 t2))) + (1 : Int32))), (.int (gi (f10_a1_0 t0 t1 t2))), (.ref b5)])) rfl rfl (hb hby d5_78)
 refine G st12 ?_
 have N12 := Fr.snoc X12 N4 g_b5
 replace V_y3 := V_y3.other W12 ne_y3_b5
 replace V_b7 := V_b7.other W12 (Ne.symm ne_b5_b7)
 replace Z0 := Nat.le_trans Z0 (Nat.le_of_eq W12.size.symm)
 replace K0 := K0.wr W12 (Or.inr sz_b5)
 replace V_b5 : Arv Z h12 b5 k5 .int (9 : Int32) (List.map Value.int (bump (gi (f10_a1_0 t0 t1 t2)) z9)) (.int (0 : Int32)) := own_mset (Arv.set Ar11 qq11 Sz11 Ng11 Hs11 Gs11 rfl W12 _ rfl (own_mlt ln_0 hb0))
 have ln_12 : ((bump (gi (f10_a1_0 t0 t1 t2)) z9)).length = 9 := lset_len ln_0
 clear hin11 Gs11 Hs11 Ng11 Sz11 qq11 Ar11 cl11
 show Go _ _ _ (T12.setTop (mkF m 79 #[vr a1, vi 8, vr y3, vr b5, vr b7, vi 0, vi 0] [])) _
 obtain ⟨Y13, eY13, lY13, V13q⟩ : ∃ Y, Y = (bump (gi (f10_a1_0 t0 t1 t2)) z9) ∧ Y.length = 9 ∧ Arv Z h12 b5 k5 .int (9 : Int32) (List.map Value.int Y) (.int (0 : Int32)) := ⟨_, rfl, ln_12, V_b5⟩
 replace V_b5 := V13q
 clear ln_12 V13q
 refine G (fun t k => XS.aload X12.here hx rfl (hb hby d5_79) rfl rfl (XS.iload X12.here hx rfl (hb hby d5_81) rfl (XS.iinc X12.here hx rfl (hb hby d5_83) rfl (l' := #[vr a1, vi 8, vr y3, vr b5, vr b7, vi ((0 : Int32) + (1 : Int32)), vi 0]) rfl (XS.aloadN X12.here hx rfl (hb hby d5_86) rfl rfl (XS.iload X12.here hx rfl (hb hby d5_87) rfl k))))) ?_
 obtain ⟨cl14, Ar14, -, Sz14, Ng14, Hs14, -⟩ := id V_y3
 have hin14 := inb_of (j := (0 : Int32)) (c := cl14) Sz14 ⟨by decide, by decide⟩
 refine G (fun t k => X12.laload hx (j := (0 : Int32)) (v := (.long (f10_a1_0 t0 t1 t2))) (by rw [e12]; exact Ar14.1) (State.isArrayOf_alike hZ.alike Ar14.2.1) Ar14.2.2 hin14 (Has.at Hs14 hin14 rfl) (g := (mkF m 89 #[vr a1, vi 8, vr y3, vr b5, vr b7, vi 1, vi 0] [(.int 0), (.ref y3), (.int 0), (.ref b7)])) rfl rfl (hb hby d5_89) _ k) ?_
 clear hin14 Hs14 Ng14 Sz14 Ar14 cl14
 refine G (fun t k => XS.l2i X12.here hx rfl (hb hby d5_90) rfl k) ?_
 show Go _ _ _ (T12.setTop (mkF m 91 #[vr a1, vi 8, vr y3, vr b5, vr b7, vi 1, vi 0] [(.int ((f10_a1_0 t0 t1 t2).toInt32)), (.int 0), (.ref b7)])) _
 obtain ⟨cl15, Ar15, qq15, Sz15, Ng15, Hs15, Gs15⟩ := id V_b7
 have hin15 := inb_of (j := (0 : Int32)) (c := cl15) Sz15 ⟨by decide, by decide⟩
 obtain ⟨T16, h16, X16, e16, W16, st16⟩ := stI X12 hx hZ e12 Ar15 (j := (0 : Int32)) hin15 (g := (mkF m 91 #[vr a1, vi 8, vr y3, vr b5, vr b7, vi 1, vi 0] [(.int ((f10_a1_0 t0 t1 t2).toInt32)), (.int 0), (.ref b7)])) rfl rfl (hb hby d5_91)
 refine G st16 ?_
 have N16 := Fr.snoc X16 N12 g_b7
 obtain ⟨LL16, X16, N16⟩ : ∃ LL, Stand p l e (Rm 4 5 18 84) s m #[(.ref a1), (.int (8 : Int32))] below meth c T16 LL 3 15 ∧ Fr n0 LL := ⟨_, X16, N16⟩
 replace V_y3 := V_y3.other W16 ne_y3_b7
 replace V_b5 := V_b5.other W16 ne_b5_b7
 replace Z0 := Nat.le_trans Z0 (Nat.le_of_eq W16.size.symm)
 replace K0 := K0.wr W16 (Or.inr sz_b7)
 replace V_b7 : Arv Z h16 b7 k7 .int (3 : Int32) [(.int ((f10_a1_0 t0 t1 t2).toInt32)), (.int (0 : Int32)), (.int (0 : Int32))] (.int (0 : Int32)) := Arv.set Ar15 qq15 Sz15 Ng15 Hs15 Gs15 rfl W16 0 rfl (Nat.le_of_ble_eq_true rfl)
 clear hin15 Gs15 Hs15 Ng15 Sz15 qq15 Ar15 cl15
 refine G (fun t k => XS.iinc X16.here hx rfl (hb hby d5_92) rfl (l' := #[vr a1, vi 8, vr y3, vr b5, vr b7, vi 1, vi ((0 : Int32) + (1 : Int32))]) rfl (XS.goto X16.here hx rfl (pc0 := 95) (pc' := 34) rfl (hb hby d5_95) (by decide) (by decide) (XS.iload X16.here hx rfl (hb hby d5_34) rfl (XS.aloadN X16.here hx rfl (hb hby d5_36) rfl rfl k)))) ?_
 obtain ⟨cl17, Ar17, -, Sz17, Ng17, -, -⟩ := id V_y3
 refine G (fun t k => X16.arraylength hx (by rw [e16]; exact Ar17.1) (State.isArrayOf_alike hZ.alike Ar17.2.1) (g := (mkF m 37 #[vr a1, vi 8, vr y3, vr b5, vr b7, vi 1, vi 1] [(.ref y3), (.int 1)])) rfl rfl (hb hby d5_37) _ k) ?_
 rw [len_of Sz17 Ng17]
 clear Ng17 Sz17 Ar17 cl17
 refine G (fun t k => XS.icmpNo X16.here hx rfl (hb hby d5_38) rfl (tlt (by decide : (1 : Int32) < (3 : Int32))).2.1 k) ?_
 show Go _ _ _ (T16.setTop (mkF m 41 #[vr a1, vi 8, vr y3, vr b5, vr b7, vi 1, vi 1] [])) _
 refine G (fun t k => XS.iload X16.here hx rfl (hb hby d5_41) rfl (XS.ifNo X16.here hx rfl (hb hby d5_43) rfl ((if0 _ _).trans (tlt (by decide : (0 : Int32) < (1 : Int32))).2.2.2) (XS.aloadN X16.here hx rfl (hb hby d5_46) rfl rfl (XS.iload X16.here hx rfl (hb hby d5_47) rfl k)))) ?_
 obtain ⟨cl18, Ar18, -, Sz18, Ng18, Hs18, -⟩ := id V_y3
 have hin18 := inb_of (j := (1 : Int32)) (c := cl18) Sz18 ⟨by decide, by decide⟩
 refine G (fun t k => X16.laload hx (j := (1 : Int32)) (v := (.long (f10_a1_1 t0 t1 t2))) (by rw [e16]; exact Ar18.1) (State.isArrayOf_alike hZ.alike Ar18.2.1) Ar18.2.2 hin18 (Has.at Hs18 hin18 rfl) (g := (mkF m 49 #[vr a1, vi 8, vr y3, vr b5, vr b7, vi 1, vi 1] [(.int 1), (.ref y3)])) rfl rfl (hb hby d5_49) _ k) ?_
 clear hin18 Hs18 Ng18 Sz18 Ar18 cl18
 refine G (fun t k => XS.aloadN X16.here hx rfl (hb hby d5_50) rfl rfl (XS.iload X16.here hx rfl (hb hby d5_51) rfl k)) ?_
 show Go _ _ _ (T16.setTop (mkF m 53 #[vr a1, vi 8, vr y3, vr b5, vr b7, vi 1, vi 1] [(.int 1), (.ref y3), (.long (f10_a1_1 t0 t1 t2))])) _
 refine G (fun t k => XS.iconst X16.here hx rfl (hb hby d5_53) (XS.isub X16.here hx rfl (hb hby d5_54) rfl k)) ?_
 obtain ⟨cl19, Ar19, -, Sz19, Ng19, Hs19, -⟩ := id V_y3
 have hin19 := inb_of (j := (0 : Int32)) (c := cl19) Sz19 ⟨by decide, by decide⟩
 refine G (fun t k => X16.laload hx (j := (0 : Int32)) (v := (.long (f10_a1_0 t0 t1 t2))) (by rw [e16]; exact Ar19.1) (State.isArrayOf_alike hZ.alike Ar19.2.1) Ar19.2.2 hin19 (Has.at Hs19 hin19 rfl) (g := (mkF m 55 #[vr a1, vi 8, vr y3, vr b5, vr b7, vi 1, vi 1] [(.int 0), (.ref y3), (.long (f10_a1_1 t0 t1 t2))])) rfl rfl (hb hby d5_55) _ k) ?_
 clear hin19 Hs19 Ng19 Sz19 Ar19 cl19
 refine G (fun t k => XS.lcmp X16.here hx rfl (hb hby d5_56) rfl (XS.ifNo X16.here hx rfl (hb hby d5_57) rfl ((if0 _ _).trans (teq ((lw_eq (f10_a1_1 t0 t1 t2) (f10_a1_0 t0 t1 t2)).mpr (show (f10_a1_1 t0 t1 t2) = (f10_a1_0 t0 t1 t2) from he1))).2) (XS.goto X16.here hx rfl (pc0 := 60) (pc' := 92) rfl (hb hby d5_60) (by decide) (by decide) (XS.iinc X16.here hx rfl (hb hby d5_92) rfl (l' := #[vr a1, vi 8, vr y3, vr b5, vr b7, vi 1, vi ((1 : Int32) + (1 : Int32))]) rfl k)))) ?_
 show Go _ _ _ (T16.setTop (mkF m 95 #[vr a1, vi 8, vr y3, vr b5, vr b7, vi 1, vi 2] [])) _
 refine G (fun t k => XS.goto X16.here hx rfl (pc0 := 95) (pc' := 34) rfl (hb hby d5_95) (by decide) (by decide) (XS.iload X16.here hx rfl (hb hby d5_34) rfl (XS.aloadN X16.here hx rfl (hb hby d5_36) rfl rfl k))) ?_
 obtain ⟨cl20, Ar20, -, Sz20, Ng20, -, -⟩ := id V_y3
 refine G (fun t k => X16.arraylength hx (by rw [e16]; exact Ar20.1) (State.isArrayOf_alike hZ.alike Ar20.2.1) (g := (mkF m 37 #[vr a1, vi 8, vr y3, vr b5, vr b7, vi 1, vi 2] [(.ref y3), (.int 2)])) rfl rfl (hb hby d5_37) _ k) ?_
 rw [len_of Sz20 Ng20]
 clear Ng20 Sz20 Ar20 cl20
 refine G (fun t k => XS.icmpNo X16.here hx rfl (hb hby d5_38) rfl (tlt (by decide : (2 : Int32) < (3 : Int32))).2.1 (XS.iload X16.here hx rfl (hb hby d5_41) rfl (XS.ifNo X16.here hx rfl (hb hby d5_43) rfl ((if0 _ _).trans (tlt (by decide : (0 : Int32) < (2 : Int32))).2.2.2) k))) ?_
 show Go _ _ _ (T16.setTop (mkF m 46 #[vr a1, vi 8, vr y3, vr b5, vr b7, vi 1, vi 2] [])) _
 refine G (fun t k => XS.aloadN X16.here hx rfl (hb hby d5_46) rfl rfl (XS.iload X16.here hx rfl (hb hby d5_47) rfl k)) ?_
 obtain ⟨cl21, Ar21, -, Sz21, Ng21, Hs21, -⟩ := id V_y3
 have hin21 := inb_of (j := (2 : Int32)) (c := cl21) Sz21 ⟨by decide, by decide⟩
 refine G (fun t k => X16.laload hx (j := (2 : Int32)) (v := (.long (f10_a1_2 t0 t1 t2))) (by rw [e16]; exact Ar21.1) (State.isArrayOf_alike hZ.alike Ar21.2.1) Ar21.2.2 hin21 (Has.at Hs21 hin21 rfl) (g := (mkF m 49 #[vr a1, vi 8, vr y3, vr b5, vr b7, vi 1, vi 2] [(.int 2), (.ref y3)])) rfl rfl (hb hby d5_49) _ k) ?_
 clear hin21 Hs21 Ng21 Sz21 Ar21 cl21
 refine G (fun t k => XS.aloadN X16.here hx rfl (hb hby d5_50) rfl rfl (XS.iload X16.here hx rfl (hb hby d5_51) rfl (XS.iconst X16.here hx rfl (hb hby d5_53) (XS.isub X16.here hx rfl (hb hby d5_54) rfl k)))) ?_
 show Go _ _ _ (T16.setTop (mkF m 55 #[vr a1, vi 8, vr y3, vr b5, vr b7, vi 1, vi 2] [(.int 1), (.ref y3), (.long (f10_a1_2 t0 t1 t2))])) _
 obtain ⟨cl22, Ar22, -, Sz22, Ng22, Hs22, -⟩ := id V_y3
 have hin22 := inb_of (j := (1 : Int32)) (c := cl22) Sz22 ⟨by decide, by decide⟩
 refine G (fun t k => X16.laload hx (j := (1 : Int32)) (v := (.long (f10_a1_1 t0 t1 t2))) (by rw [e16]; exact Ar22.1) (State.isArrayOf_alike hZ.alike Ar22.2.1) Ar22.2.2 hin22 (Has.at Hs22 hin22 rfl) (g := (mkF m 55 #[vr a1, vi 8, vr y3, vr b5, vr b7, vi 1, vi 2] [(.int 1), (.ref y3), (.long (f10_a1_2 t0 t1 t2))])) rfl rfl (hb hby d5_55) _ k) ?_
 clear hin22 Hs22 Ng22 Sz22 Ar22 cl22
 refine G (fun t k => XS.lcmp X16.here hx rfl (hb hby d5_56) rfl (XS.ifNo X16.here hx rfl (hb hby d5_57) rfl ((if0 _ _).trans (teq ((lw_eq (f10_a1_2 t0 t1 t2) (f10_a1_1 t0 t1 t2)).mpr (show (f10_a1_2 t0 t1 t2) = (f10_a1_1 t0 t1 t2) from he2))).2) (XS.goto X16.here hx rfl (pc0 := 60) (pc' := 92) rfl (hb hby d5_60) (by decide) (by decide) (XS.iinc X16.here hx rfl (hb hby d5_92) rfl (l' := #[vr a1, vi 8, vr y3, vr b5, vr b7, vi 1, vi ((2 : Int32) + (1 : Int32))]) rfl (XS.goto X16.here hx rfl (pc0 := 95) (pc' := 34) rfl (hb hby d5_95) (by decide) (by decide) (XS.iload X16.here hx rfl (hb hby d5_34) rfl k)))))) ?_
 show Go _ _ _ (T16.setTop (mkF m 36 #[vr a1, vi 8, vr y3, vr b5, vr b7, vi 1, vi 3] [(.int 3)])) _
 refine G (fun t k => XS.aloadN X16.here hx rfl (hb hby d5_36) rfl rfl k) ?_
 obtain ⟨cl23, Ar23, -, Sz23, Ng23, -, -⟩ := id V_y3
 refine G (fun t k => X16.arraylength hx (by rw [e16]; exact Ar23.1) (State.isArrayOf_alike hZ.alike Ar23.2.1) (g := (mkF m 37 #[vr a1, vi 8, vr y3, vr b5, vr b7, vi 1, vi 3] [(.ref y3), (.int 3)])) rfl rfl (hb hby d5_37) _ k) ?_
 rw [len_of Sz23 Ng23]
 clear Ng23 Sz23 Ar23 cl23
 refine G (fun t k => XS.icmpYes X16.here hx rfl (pc0 := 38) (pc' := 98) rfl (hb hby d5_38) rfl (flt (by decide : ¬ ((3 : Int32) < (3 : Int32)))).2.1 (by decide) (by decide) k) ?_
 show Go _ _ _ (T16.setTop (mkF m 98 #[vr a1, vi 8, vr y3, vr b5, vr b7, vi 1, vi 3] [])) _
 refine G (fun t k => XS.iconst X16.here hx rfl (hb hby d5_98) (XS.istore X16.here hx rfl (hb hby d5_99) rfl (l' := #[vr a1, vi 8, vr y3, vr b5, vr b7, vi 1, vi 0]) rfl (XS.iload X16.here hx rfl (hb hby d5_101) rfl (XS.iloadN X16.here hx rfl (hb hby d5_103) rfl (XS.icmpNo X16.here hx rfl (hb hby d5_104) rfl (tlt (by decide : (0 : Int32) < (8 : Int32))).2.1 (XS.aloadN X16.here hx rfl (hb hby d5_107) rfl rfl k)))))) ?_
 refine G (fun t k => XS.iload X16.here hx rfl (hb hby d5_108) rfl k) ?_
 show Go _ _ _ (T16.setTop (mkF m 110 #[vr a1, vi 8, vr y3, vr b5, vr b7, vi 1, vi 0] [(.int 0), (.ref b5)])) _
 refine G (fun t k => XS.iconst X16.here hx rfl (hb hby d5_110) (XS.iadd X16.here hx rfl (hb hby d5_111) rfl (XT.dup2 X16.here hx rfl (hb hby d5_112) rfl rfl rfl k))) ?_
 obtain ⟨cl24, Ar24, -, Sz24, Ng24, Hs24, -⟩ := id V_b5
 have hin24 := inb_of (j := (1 : Int32)) (c := cl24) Sz24 ⟨by decide, by decide⟩
 refine G (fun t k => X16.iaload hx (j := (1 : Int32)) (v := (.int (own_at Y13 (1 : Int32)))) (by rw [e16]; exact Ar24.1) (State.isArrayOf_alike hZ.alike Ar24.2.1) Ar24.2.2 hin24 (Has.at Hs24 hin24 (own_atv Y13 (1 : Int32))) (g := (mkF m 113 #[vr a1, vi 8, vr y3, vr b5, vr b7, vi 1, vi 0] [(.int 1), (.ref b5), (.int 1), (.ref b5)])) rfl rfl (hb hby d5_113) _ k) ?_
 clear hin24 Hs24 Ng24 Sz24 Ar24 cl24
 refine G (fun t k => XS.aloadN X16.here hx rfl (hb hby d5_114) rfl rfl (XS.iload X16.here hx rfl (hb hby d5_115) rfl k)) ?_
 obtain ⟨cl25, Ar25, -, Sz25, Ng25, Hs25, -⟩ := id V_b5
 have hin25 := inb_of (j := (0 : Int32)) (c := cl25) Sz25 ⟨by decide, by decide⟩
 refine G (fun t k => X16.iaload hx (j := (0 : Int32)) (v := (.int (own_at Y13 (0 : Int32)))) (by rw [e16]; exact Ar25.1) (State.isArrayOf_alike hZ.alike Ar25.2.1) Ar25.2.2 hin25 (Has.at Hs25 hin25 (own_atv Y13 (0 : Int32))) (g := (mkF m 117 #[vr a1, vi 8, vr y3, vr b5, vr b7, vi 1, vi 0] [(.int 0), (.ref b5), (.int (own_at Y13 (1 : Int32))), (.int 1), (.ref b5)])) rfl rfl (hb hby d5_117) _ k) ?_
 clear hin25 Hs25 Ng25 Sz25 Ar25 cl25
 show Go _ _ _ (T16.setTop (mkF m 118 #[vr a1, vi 8, vr y3, vr b5, vr b7, vi 1, vi 0] [(.int (own_at Y13 (0 : Int32))), (.int (own_at Y13 (1 : Int32))), (.int 1), (.ref b5)])) _
 refine G (fun t k => XS.iadd X16.here hx rfl (hb hby d5_118) rfl k) ?_
 obtain ⟨cl26, Ar26, qq26, Sz26, Ng26, Hs26, Gs26⟩ := id V_b5
 have hin26 := inb_of (j := (1 : Int32)) (c := cl26) Sz26 ⟨by decide, by decide⟩
 obtain ⟨T27, h27, X27, e27, W27, st27⟩ := stI X16 hx hZ e16 Ar26 (j := (1 : Int32)) hin26 (g := (mkF m 119 #[vr a1, vi 8, vr y3, vr b5, vr b7, vi 1, vi 0] [(.int ((own_at Y13 (1 : Int32)) + (own_at Y13 (0 : Int32)))), (.int 1), (.ref b5)])) rfl rfl (hb hby d5_119)
 refine G st27 ?_
 have N27 := Fr.snoc X27 N16 g_b5
 replace V_b7 := V_b7.other W27 (Ne.symm ne_b5_b7)
 replace Z0 := Nat.le_trans Z0 (Nat.le_of_eq W27.size.symm)
 replace K0 := K0.wr W27 (Or.inr sz_b5)
 replace V_b5 : Arv Z h27 b5 k5 .int (9 : Int32) (List.map Value.int (pre (1 : Int32) (0 : Int32) Y13)) (.int (0 : Int32)) := own_mset (Arv.set Ar26 qq26 Sz26 Ng26 Hs26 Gs26 rfl W27 _ rfl (own_mlt lY13 ⟨by decide, by decide⟩))
 have ln_27 : ((pre (1 : Int32) (0 : Int32) Y13)).length = 9 := lset_len lY13
 clear hin26 Gs26 Hs26 Ng26 Sz26 qq26 Ar26 cl26
 show Go _ _ _ (T27.setTop (mkF m 120 #[vr a1, vi 8, vr y3, vr b5, vr b7, vi 1, vi 0] [])) _
 obtain ⟨Y28, eY28, lY28, V28q⟩ : ∃ Y, Y = (pre (1 : Int32) (0 : Int32) Y13) ∧ Y.length = 9 ∧ Arv Z h27 b5 k5 .int (9 : Int32) (List.map Value.int Y) (.int (0 : Int32)) := ⟨_, rfl, ln_27, V_b5⟩
 replace V_b5 := V28q
 clear ln_27 V28q
 refine G (fun t k => XS.iinc X27.here hx rfl (hb hby d5_120) rfl (l' := #[vr a1, vi 8, vr y3, vr b5, vr b7, vi 1, vi ((0 : Int32) + (1 : Int32))]) rfl (XS.goto X27.here hx rfl (pc0 := 123) (pc' := 101) rfl (hb hby d5_123) (by decide) (by decide) (XS.iload X27.here hx rfl (hb hby d5_101) rfl (XS.iloadN X27.here hx rfl (hb hby d5_103) rfl (XS.icmpNo X27.here hx rfl (hb hby d5_104) rfl (tlt (by decide : (1 : Int32) < (8 : Int32))).2.1 (XS.aloadN X27.here hx rfl (hb hby d5_107) rfl rfl k)))))) ?_
 refine G (fun t k => XS.iload X27.here hx rfl (hb hby d5_108) rfl k) ?_
 show Go _ _ _ (T27.setTop (mkF m 110 #[vr a1, vi 8, vr y3, vr b5, vr b7, vi 1, vi 1] [(.int 1), (.ref b5)])) _
 refine G (fun t k => XS.iconst X27.here hx rfl (hb hby d5_110) (XS.iadd X27.here hx rfl (hb hby d5_111) rfl (XT.dup2 X27.here hx rfl (hb hby d5_112) rfl rfl rfl k))) ?_
 obtain ⟨cl29, Ar29, -, Sz29, Ng29, Hs29, -⟩ := id V_b5
 have hin29 := inb_of (j := (2 : Int32)) (c := cl29) Sz29 ⟨by decide, by decide⟩
 refine G (fun t k => X27.iaload hx (j := (2 : Int32)) (v := (.int (own_at Y28 (2 : Int32)))) (by rw [e27]; exact Ar29.1) (State.isArrayOf_alike hZ.alike Ar29.2.1) Ar29.2.2 hin29 (Has.at Hs29 hin29 (own_atv Y28 (2 : Int32))) (g := (mkF m 113 #[vr a1, vi 8, vr y3, vr b5, vr b7, vi 1, vi 1] [(.int 2), (.ref b5), (.int 2), (.ref b5)])) rfl rfl (hb hby d5_113) _ k) ?_
 clear hin29 Hs29 Ng29 Sz29 Ar29 cl29
 refine G (fun t k => XS.aloadN X27.here hx rfl (hb hby d5_114) rfl rfl (XS.iload X27.here hx rfl (hb hby d5_115) rfl k)) ?_
 obtain ⟨cl30, Ar30, -, Sz30, Ng30, Hs30, -⟩ := id V_b5
 have hin30 := inb_of (j := (1 : Int32)) (c := cl30) Sz30 ⟨by decide, by decide⟩
 refine G (fun t k => X27.iaload hx (j := (1 : Int32)) (v := (.int (own_at Y28 (1 : Int32)))) (by rw [e27]; exact Ar30.1) (State.isArrayOf_alike hZ.alike Ar30.2.1) Ar30.2.2 hin30 (Has.at Hs30 hin30 (own_atv Y28 (1 : Int32))) (g := (mkF m 117 #[vr a1, vi 8, vr y3, vr b5, vr b7, vi 1, vi 1] [(.int 1), (.ref b5), (.int (own_at Y28 (2 : Int32))), (.int 2), (.ref b5)])) rfl rfl (hb hby d5_117) _ k) ?_
 clear hin30 Hs30 Ng30 Sz30 Ar30 cl30
 show Go _ _ _ (T27.setTop (mkF m 118 #[vr a1, vi 8, vr y3, vr b5, vr b7, vi 1, vi 1] [(.int (own_at Y28 (1 : Int32))), (.int (own_at Y28 (2 : Int32))), (.int 2), (.ref b5)])) _
 refine G (fun t k => XS.iadd X27.here hx rfl (hb hby d5_118) rfl k) ?_
 obtain ⟨cl31, Ar31, qq31, Sz31, Ng31, Hs31, Gs31⟩ := id V_b5
 have hin31 := inb_of (j := (2 : Int32)) (c := cl31) Sz31 ⟨by decide, by decide⟩
 obtain ⟨T32, h32, X32, e32, W32, st32⟩ := stI X27 hx hZ e27 Ar31 (j := (2 : Int32)) hin31 (g := (mkF m 119 #[vr a1, vi 8, vr y3, vr b5, vr b7, vi 1, vi 1] [(.int ((own_at Y28 (2 : Int32)) + (own_at Y28 (1 : Int32)))), (.int 2), (.ref b5)])) rfl rfl (hb hby d5_119)
 refine G st32 ?_
 have N32 := Fr.snoc X32 N27 g_b5
 replace V_b7 := V_b7.other W32 (Ne.symm ne_b5_b7)
 replace Z0 := Nat.le_trans Z0 (Nat.le_of_eq W32.size.symm)
 replace K0 := K0.wr W32 (Or.inr sz_b5)
 replace V_b5 : Arv Z h32 b5 k5 .int (9 : Int32) (List.map Value.int (pre (2 : Int32) (1 : Int32) Y28)) (.int (0 : Int32)) := own_mset (Arv.set Ar31 qq31 Sz31 Ng31 Hs31 Gs31 rfl W32 _ rfl (own_mlt lY28 ⟨by decide, by decide⟩))
 have ln_32 : ((pre (2 : Int32) (1 : Int32) Y28)).length = 9 := lset_len lY28
 clear hin31 Gs31 Hs31 Ng31 Sz31 qq31 Ar31 cl31
 show Go _ _ _ (T32.setTop (mkF m 120 #[vr a1, vi 8, vr y3, vr b5, vr b7, vi 1, vi 1] [])) _
 obtain ⟨Y33, eY33, lY33, V33q⟩ : ∃ Y, Y = (pre (2 : Int32) (1 : Int32) Y28) ∧ Y.length = 9 ∧ Arv Z h32 b5 k5 .int (9 : Int32) (List.map Value.int Y) (.int (0 : Int32)) := ⟨_, rfl, ln_32, V_b5⟩
 replace V_b5 := V33q
 clear ln_32 V33q
 refine G (fun t k => XS.iinc X32.here hx rfl (hb hby d5_120) rfl (l' := #[vr a1, vi 8, vr y3, vr b5, vr b7, vi 1, vi ((1 : Int32) + (1 : Int32))]) rfl (XS.goto X32.here hx rfl (pc0 := 123) (pc' := 101) rfl (hb hby d5_123) (by decide) (by decide) (XS.iload X32.here hx rfl (hb hby d5_101) rfl (XS.iloadN X32.here hx rfl (hb hby d5_103) rfl (XS.icmpNo X32.here hx rfl (hb hby d5_104) rfl (tlt (by decide : (2 : Int32) < (8 : Int32))).2.1 (XS.aloadN X32.here hx rfl (hb hby d5_107) rfl rfl k)))))) ?_
 refine G (fun t k => XS.iload X32.here hx rfl (hb hby d5_108) rfl k) ?_
 show Go _ _ _ (T32.setTop (mkF m 110 #[vr a1, vi 8, vr y3, vr b5, vr b7, vi 1, vi 2] [(.int 2), (.ref b5)])) _
 refine G (fun t k => XS.iconst X32.here hx rfl (hb hby d5_110) (XS.iadd X32.here hx rfl (hb hby d5_111) rfl (XT.dup2 X32.here hx rfl (hb hby d5_112) rfl rfl rfl k))) ?_
 obtain ⟨cl34, Ar34, -, Sz34, Ng34, Hs34, -⟩ := id V_b5
 have hin34 := inb_of (j := (3 : Int32)) (c := cl34) Sz34 ⟨by decide, by decide⟩
 refine G (fun t k => X32.iaload hx (j := (3 : Int32)) (v := (.int (own_at Y33 (3 : Int32)))) (by rw [e32]; exact Ar34.1) (State.isArrayOf_alike hZ.alike Ar34.2.1) Ar34.2.2 hin34 (Has.at Hs34 hin34 (own_atv Y33 (3 : Int32))) (g := (mkF m 113 #[vr a1, vi 8, vr y3, vr b5, vr b7, vi 1, vi 2] [(.int 3), (.ref b5), (.int 3), (.ref b5)])) rfl rfl (hb hby d5_113) _ k) ?_
 clear hin34 Hs34 Ng34 Sz34 Ar34 cl34
 refine G (fun t k => XS.aloadN X32.here hx rfl (hb hby d5_114) rfl rfl (XS.iload X32.here hx rfl (hb hby d5_115) rfl k)) ?_
 obtain ⟨cl35, Ar35, -, Sz35, Ng35, Hs35, -⟩ := id V_b5
 have hin35 := inb_of (j := (2 : Int32)) (c := cl35) Sz35 ⟨by decide, by decide⟩
 refine G (fun t k => X32.iaload hx (j := (2 : Int32)) (v := (.int (own_at Y33 (2 : Int32)))) (by rw [e32]; exact Ar35.1) (State.isArrayOf_alike hZ.alike Ar35.2.1) Ar35.2.2 hin35 (Has.at Hs35 hin35 (own_atv Y33 (2 : Int32))) (g := (mkF m 117 #[vr a1, vi 8, vr y3, vr b5, vr b7, vi 1, vi 2] [(.int 2), (.ref b5), (.int (own_at Y33 (3 : Int32))), (.int 3), (.ref b5)])) rfl rfl (hb hby d5_117) _ k) ?_
 clear hin35 Hs35 Ng35 Sz35 Ar35 cl35
 show Go _ _ _ (T32.setTop (mkF m 118 #[vr a1, vi 8, vr y3, vr b5, vr b7, vi 1, vi 2] [(.int (own_at Y33 (2 : Int32))), (.int (own_at Y33 (3 : Int32))), (.int 3), (.ref b5)])) _
 refine G (fun t k => XS.iadd X32.here hx rfl (hb hby d5_118) rfl k) ?_
 obtain ⟨cl36, Ar36, qq36, Sz36, Ng36, Hs36, Gs36⟩ := id V_b5
 have hin36 := inb_of (j := (3 : Int32)) (c := cl36) Sz36 ⟨by decide, by decide⟩
 obtain ⟨T37, h37, X37, e37, W37, st37⟩ := stI X32 hx hZ e32 Ar36 (j := (3 : Int32)) hin36 (g := (mkF m 119 #[vr a1, vi 8, vr y3, vr b5, vr b7, vi 1, vi 2] [(.int ((own_at Y33 (3 : Int32)) + (own_at Y33 (2 : Int32)))), (.int 3), (.ref b5)])) rfl rfl (hb hby d5_119)
 refine G st37 ?_
 have N37 := Fr.snoc X37 N32 g_b5
 replace V_b7 := V_b7.other W37 (Ne.symm ne_b5_b7)
 replace Z0 := Nat.le_trans Z0 (Nat.le_of_eq W37.size.symm)
 replace K0 := K0.wr W37 (Or.inr sz_b5)
 replace V_b5 : Arv Z h37 b5 k5 .int (9 : Int32) (List.map Value.int (pre (3 : Int32) (2 : Int32) Y33)) (.int (0 : Int32)) := own_mset (Arv.set Ar36 qq36 Sz36 Ng36 Hs36 Gs36 rfl W37 _ rfl (own_mlt lY33 ⟨by decide, by decide⟩))
 have ln_37 : ((pre (3 : Int32) (2 : Int32) Y33)).length = 9 := lset_len lY33
 clear hin36 Gs36 Hs36 Ng36 Sz36 qq36 Ar36 cl36
 show Go _ _ _ (T37.setTop (mkF m 120 #[vr a1, vi 8, vr y3, vr b5, vr b7, vi 1, vi 2] [])) _
 obtain ⟨Y38, eY38, lY38, V38q⟩ : ∃ Y, Y = (pre (3 : Int32) (2 : Int32) Y33) ∧ Y.length = 9 ∧ Arv Z h37 b5 k5 .int (9 : Int32) (List.map Value.int Y) (.int (0 : Int32)) := ⟨_, rfl, ln_37, V_b5⟩
 replace V_b5 := V38q
 clear ln_37 V38q
 refine G (fun t k => XS.iinc X37.here hx rfl (hb hby d5_120) rfl (l' := #[vr a1, vi 8, vr y3, vr b5, vr b7, vi 1, vi ((2 : Int32) + (1 : Int32))]) rfl (XS.goto X37.here hx rfl (pc0 := 123) (pc' := 101) rfl (hb hby d5_123) (by decide) (by decide) (XS.iload X37.here hx rfl (hb hby d5_101) rfl (XS.iloadN X37.here hx rfl (hb hby d5_103) rfl (XS.icmpNo X37.here hx rfl (hb hby d5_104) rfl (tlt (by decide : (3 : Int32) < (8 : Int32))).2.1 (XS.aloadN X37.here hx rfl (hb hby d5_107) rfl rfl k)))))) ?_
 refine G (fun t k => XS.iload X37.here hx rfl (hb hby d5_108) rfl k) ?_
 show Go _ _ _ (T37.setTop (mkF m 110 #[vr a1, vi 8, vr y3, vr b5, vr b7, vi 1, vi 3] [(.int 3), (.ref b5)])) _
 refine G (fun t k => XS.iconst X37.here hx rfl (hb hby d5_110) (XS.iadd X37.here hx rfl (hb hby d5_111) rfl (XT.dup2 X37.here hx rfl (hb hby d5_112) rfl rfl rfl k))) ?_
 obtain ⟨cl39, Ar39, -, Sz39, Ng39, Hs39, -⟩ := id V_b5
 have hin39 := inb_of (j := (4 : Int32)) (c := cl39) Sz39 ⟨by decide, by decide⟩
 refine G (fun t k => X37.iaload hx (j := (4 : Int32)) (v := (.int (own_at Y38 (4 : Int32)))) (by rw [e37]; exact Ar39.1) (State.isArrayOf_alike hZ.alike Ar39.2.1) Ar39.2.2 hin39 (Has.at Hs39 hin39 (own_atv Y38 (4 : Int32))) (g := (mkF m 113 #[vr a1, vi 8, vr y3, vr b5, vr b7, vi 1, vi 3] [(.int 4), (.ref b5), (.int 4), (.ref b5)])) rfl rfl (hb hby d5_113) _ k) ?_
 clear hin39 Hs39 Ng39 Sz39 Ar39 cl39
 refine G (fun t k => XS.aloadN X37.here hx rfl (hb hby d5_114) rfl rfl (XS.iload X37.here hx rfl (hb hby d5_115) rfl k)) ?_
 obtain ⟨cl40, Ar40, -, Sz40, Ng40, Hs40, -⟩ := id V_b5
 have hin40 := inb_of (j := (3 : Int32)) (c := cl40) Sz40 ⟨by decide, by decide⟩
 refine G (fun t k => X37.iaload hx (j := (3 : Int32)) (v := (.int (own_at Y38 (3 : Int32)))) (by rw [e37]; exact Ar40.1) (State.isArrayOf_alike hZ.alike Ar40.2.1) Ar40.2.2 hin40 (Has.at Hs40 hin40 (own_atv Y38 (3 : Int32))) (g := (mkF m 117 #[vr a1, vi 8, vr y3, vr b5, vr b7, vi 1, vi 3] [(.int 3), (.ref b5), (.int (own_at Y38 (4 : Int32))), (.int 4), (.ref b5)])) rfl rfl (hb hby d5_117) _ k) ?_
 clear hin40 Hs40 Ng40 Sz40 Ar40 cl40
 show Go _ _ _ (T37.setTop (mkF m 118 #[vr a1, vi 8, vr y3, vr b5, vr b7, vi 1, vi 3] [(.int (own_at Y38 (3 : Int32))), (.int (own_at Y38 (4 : Int32))), (.int 4), (.ref b5)])) _
 refine G (fun t k => XS.iadd X37.here hx rfl (hb hby d5_118) rfl k) ?_
 obtain ⟨cl41, Ar41, qq41, Sz41, Ng41, Hs41, Gs41⟩ := id V_b5
 have hin41 := inb_of (j := (4 : Int32)) (c := cl41) Sz41 ⟨by decide, by decide⟩
 obtain ⟨T42, h42, X42, e42, W42, st42⟩ := stI X37 hx hZ e37 Ar41 (j := (4 : Int32)) hin41 (g := (mkF m 119 #[vr a1, vi 8, vr y3, vr b5, vr b7, vi 1, vi 3] [(.int ((own_at Y38 (4 : Int32)) + (own_at Y38 (3 : Int32)))), (.int 4), (.ref b5)])) rfl rfl (hb hby d5_119)
 refine G st42 ?_
 have N42 := Fr.snoc X42 N37 g_b5
 obtain ⟨LL42, X42, N42⟩ : ∃ LL, Stand p l e (Rm 4 5 18 84) s m #[(.ref a1), (.int (8 : Int32))] below meth c T42 LL 3 15 ∧ Fr n0 LL := ⟨_, X42, N42⟩
 replace V_b7 := V_b7.other W42 (Ne.symm ne_b5_b7)
 replace Z0 := Nat.le_trans Z0 (Nat.le_of_eq W42.size.symm)
 replace K0 := K0.wr W42 (Or.inr sz_b5)
 replace V_b5 : Arv Z h42 b5 k5 .int (9 : Int32) (List.map Value.int (pre (4 : Int32) (3 : Int32) Y38)) (.int (0 : Int32)) := own_mset (Arv.set Ar41 qq41 Sz41 Ng41 Hs41 Gs41 rfl W42 _ rfl (own_mlt lY38 ⟨by decide, by decide⟩))
 have ln_42 : ((pre (4 : Int32) (3 : Int32) Y38)).length = 9 := lset_len lY38
 clear hin41 Gs41 Hs41 Ng41 Sz41 qq41 Ar41 cl41
 show Go _ _ _ (T42.setTop (mkF m 120 #[vr a1, vi 8, vr y3, vr b5, vr b7, vi 1, vi 3] [])) _
 obtain ⟨Y43, eY43, lY43, V43q⟩ : ∃ Y, Y = (pre (4 : Int32) (3 : Int32) Y38) ∧ Y.length = 9 ∧ Arv Z h42 b5 k5 .int (9 : Int32) (List.map Value.int Y) (.int (0 : Int32)) := ⟨_, rfl, ln_42, V_b5⟩
 replace V_b5 := V43q
 clear ln_42 V43q
 refine G (fun t k => XS.iinc X42.here hx rfl (hb hby d5_120) rfl (l' := #[vr a1, vi 8, vr y3, vr b5, vr b7, vi 1, vi ((3 : Int32) + (1 : Int32))]) rfl (XS.goto X42.here hx rfl (pc0 := 123) (pc' := 101) rfl (hb hby d5_123) (by decide) (by decide) (XS.iload X42.here hx rfl (hb hby d5_101) rfl (XS.iloadN X42.here hx rfl (hb hby d5_103) rfl (XS.icmpNo X42.here hx rfl (hb hby d5_104) rfl (tlt (by decide : (4 : Int32) < (8 : Int32))).2.1 (XS.aloadN X42.here hx rfl (hb hby d5_107) rfl rfl k)))))) ?_
 refine G (fun t k => XS.iload X42.here hx rfl (hb hby d5_108) rfl k) ?_
 show Go _ _ _ (T42.setTop (mkF m 110 #[vr a1, vi 8, vr y3, vr b5, vr b7, vi 1, vi 4] [(.int 4), (.ref b5)])) _
 refine G (fun t k => XS.iconst X42.here hx rfl (hb hby d5_110) (XS.iadd X42.here hx rfl (hb hby d5_111) rfl (XT.dup2 X42.here hx rfl (hb hby d5_112) rfl rfl rfl k))) ?_
 obtain ⟨cl44, Ar44, -, Sz44, Ng44, Hs44, -⟩ := id V_b5
 have hin44 := inb_of (j := (5 : Int32)) (c := cl44) Sz44 ⟨by decide, by decide⟩
 refine G (fun t k => X42.iaload hx (j := (5 : Int32)) (v := (.int (own_at Y43 (5 : Int32)))) (by rw [e42]; exact Ar44.1) (State.isArrayOf_alike hZ.alike Ar44.2.1) Ar44.2.2 hin44 (Has.at Hs44 hin44 (own_atv Y43 (5 : Int32))) (g := (mkF m 113 #[vr a1, vi 8, vr y3, vr b5, vr b7, vi 1, vi 4] [(.int 5), (.ref b5), (.int 5), (.ref b5)])) rfl rfl (hb hby d5_113) _ k) ?_
 clear hin44 Hs44 Ng44 Sz44 Ar44 cl44
 refine G (fun t k => XS.aloadN X42.here hx rfl (hb hby d5_114) rfl rfl (XS.iload X42.here hx rfl (hb hby d5_115) rfl k)) ?_
 obtain ⟨cl45, Ar45, -, Sz45, Ng45, Hs45, -⟩ := id V_b5
 have hin45 := inb_of (j := (4 : Int32)) (c := cl45) Sz45 ⟨by decide, by decide⟩
 refine G (fun t k => X42.iaload hx (j := (4 : Int32)) (v := (.int (own_at Y43 (4 : Int32)))) (by rw [e42]; exact Ar45.1) (State.isArrayOf_alike hZ.alike Ar45.2.1) Ar45.2.2 hin45 (Has.at Hs45 hin45 (own_atv Y43 (4 : Int32))) (g := (mkF m 117 #[vr a1, vi 8, vr y3, vr b5, vr b7, vi 1, vi 4] [(.int 4), (.ref b5), (.int (own_at Y43 (5 : Int32))), (.int 5), (.ref b5)])) rfl rfl (hb hby d5_117) _ k) ?_
 clear hin45 Hs45 Ng45 Sz45 Ar45 cl45
 show Go _ _ _ (T42.setTop (mkF m 118 #[vr a1, vi 8, vr y3, vr b5, vr b7, vi 1, vi 4] [(.int (own_at Y43 (4 : Int32))), (.int (own_at Y43 (5 : Int32))), (.int 5), (.ref b5)])) _
 refine G (fun t k => XS.iadd X42.here hx rfl (hb hby d5_118) rfl k) ?_
 obtain ⟨cl46, Ar46, qq46, Sz46, Ng46, Hs46, Gs46⟩ := id V_b5
 have hin46 := inb_of (j := (5 : Int32)) (c := cl46) Sz46 ⟨by decide, by decide⟩
 obtain ⟨T47, h47, X47, e47, W47, st47⟩ := stI X42 hx hZ e42 Ar46 (j := (5 : Int32)) hin46 (g := (mkF m 119 #[vr a1, vi 8, vr y3, vr b5, vr b7, vi 1, vi 4] [(.int ((own_at Y43 (5 : Int32)) + (own_at Y43 (4 : Int32)))), (.int 5), (.ref b5)])) rfl rfl (hb hby d5_119)
 refine G st47 ?_
 have N47 := Fr.snoc X47 N42 g_b5
 replace V_b7 := V_b7.other W47 (Ne.symm ne_b5_b7)
 replace Z0 := Nat.le_trans Z0 (Nat.le_of_eq W47.size.symm)
 replace K0 := K0.wr W47 (Or.inr sz_b5)
 replace V_b5 : Arv Z h47 b5 k5 .int (9 : Int32) (List.map Value.int (pre (5 : Int32) (4 : Int32) Y43)) (.int (0 : Int32)) := own_mset (Arv.set Ar46 qq46 Sz46 Ng46 Hs46 Gs46 rfl W47 _ rfl (own_mlt lY43 ⟨by decide, by decide⟩))
 have ln_47 : ((pre (5 : Int32) (4 : Int32) Y43)).length = 9 := lset_len lY43
 clear hin46 Gs46 Hs46 Ng46 Sz46 qq46 Ar46 cl46
 show Go _ _ _ (T47.setTop (mkF m 120 #[vr a1, vi 8, vr y3, vr b5, vr b7, vi 1, vi 4] [])) _
 obtain ⟨Y48, eY48, lY48, V48q⟩ : ∃ Y, Y = (pre (5 : Int32) (4 : Int32) Y43) ∧ Y.length = 9 ∧ Arv Z h47 b5 k5 .int (9 : Int32) (List.map Value.int Y) (.int (0 : Int32)) := ⟨_, rfl, ln_47, V_b5⟩
 replace V_b5 := V48q
 clear ln_47 V48q
 refine G (fun t k => XS.iinc X47.here hx rfl (hb hby d5_120) rfl (l' := #[vr a1, vi 8, vr y3, vr b5, vr b7, vi 1, vi ((4 : Int32) + (1 : Int32))]) rfl (XS.goto X47.here hx rfl (pc0 := 123) (pc' := 101) rfl (hb hby d5_123) (by decide) (by decide) (XS.iload X47.here hx rfl (hb hby d5_101) rfl (XS.iloadN X47.here hx rfl (hb hby d5_103) rfl (XS.icmpNo X47.here hx rfl (hb hby d5_104) rfl (tlt (by decide : (5 : Int32) < (8 : Int32))).2.1 (XS.aloadN X47.here hx rfl (hb hby d5_107) rfl rfl k)))))) ?_
 refine G (fun t k => XS.iload X47.here hx rfl (hb hby d5_108) rfl k) ?_
 show Go _ _ _ (T47.setTop (mkF m 110 #[vr a1, vi 8, vr y3, vr b5, vr b7, vi 1, vi 5] [(.int 5), (.ref b5)])) _
 refine G (fun t k => XS.iconst X47.here hx rfl (hb hby d5_110) (XS.iadd X47.here hx rfl (hb hby d5_111) rfl (XT.dup2 X47.here hx rfl (hb hby d5_112) rfl rfl rfl k))) ?_
 obtain ⟨cl49, Ar49, -, Sz49, Ng49, Hs49, -⟩ := id V_b5
 have hin49 := inb_of (j := (6 : Int32)) (c := cl49) Sz49 ⟨by decide, by decide⟩
 refine G (fun t k => X47.iaload hx (j := (6 : Int32)) (v := (.int (own_at Y48 (6 : Int32)))) (by rw [e47]; exact Ar49.1) (State.isArrayOf_alike hZ.alike Ar49.2.1) Ar49.2.2 hin49 (Has.at Hs49 hin49 (own_atv Y48 (6 : Int32))) (g := (mkF m 113 #[vr a1, vi 8, vr y3, vr b5, vr b7, vi 1, vi 5] [(.int 6), (.ref b5), (.int 6), (.ref b5)])) rfl rfl (hb hby d5_113) _ k) ?_
 clear hin49 Hs49 Ng49 Sz49 Ar49 cl49
 refine G (fun t k => XS.aloadN X47.here hx rfl (hb hby d5_114) rfl rfl (XS.iload X47.here hx rfl (hb hby d5_115) rfl k)) ?_
 obtain ⟨cl50, Ar50, -, Sz50, Ng50, Hs50, -⟩ := id V_b5
 have hin50 := inb_of (j := (5 : Int32)) (c := cl50) Sz50 ⟨by decide, by decide⟩
 refine G (fun t k => X47.iaload hx (j := (5 : Int32)) (v := (.int (own_at Y48 (5 : Int32)))) (by rw [e47]; exact Ar50.1) (State.isArrayOf_alike hZ.alike Ar50.2.1) Ar50.2.2 hin50 (Has.at Hs50 hin50 (own_atv Y48 (5 : Int32))) (g := (mkF m 117 #[vr a1, vi 8, vr y3, vr b5, vr b7, vi 1, vi 5] [(.int 5), (.ref b5), (.int (own_at Y48 (6 : Int32))), (.int 6), (.ref b5)])) rfl rfl (hb hby d5_117) _ k) ?_
 clear hin50 Hs50 Ng50 Sz50 Ar50 cl50
 show Go _ _ _ (T47.setTop (mkF m 118 #[vr a1, vi 8, vr y3, vr b5, vr b7, vi 1, vi 5] [(.int (own_at Y48 (5 : Int32))), (.int (own_at Y48 (6 : Int32))), (.int 6), (.ref b5)])) _
 refine G (fun t k => XS.iadd X47.here hx rfl (hb hby d5_118) rfl k) ?_
 obtain ⟨cl51, Ar51, qq51, Sz51, Ng51, Hs51, Gs51⟩ := id V_b5
 have hin51 := inb_of (j := (6 : Int32)) (c := cl51) Sz51 ⟨by decide, by decide⟩
 obtain ⟨T52, h52, X52, e52, W52, st52⟩ := stI X47 hx hZ e47 Ar51 (j := (6 : Int32)) hin51 (g := (mkF m 119 #[vr a1, vi 8, vr y3, vr b5, vr b7, vi 1, vi 5] [(.int ((own_at Y48 (6 : Int32)) + (own_at Y48 (5 : Int32)))), (.int 6), (.ref b5)])) rfl rfl (hb hby d5_119)
 refine G st52 ?_
 have N52 := Fr.snoc X52 N47 g_b5
 replace V_b7 := V_b7.other W52 (Ne.symm ne_b5_b7)
 replace Z0 := Nat.le_trans Z0 (Nat.le_of_eq W52.size.symm)
 replace K0 := K0.wr W52 (Or.inr sz_b5)
 replace V_b5 : Arv Z h52 b5 k5 .int (9 : Int32) (List.map Value.int (pre (6 : Int32) (5 : Int32) Y48)) (.int (0 : Int32)) := own_mset (Arv.set Ar51 qq51 Sz51 Ng51 Hs51 Gs51 rfl W52 _ rfl (own_mlt lY48 ⟨by decide, by decide⟩))
 have ln_52 : ((pre (6 : Int32) (5 : Int32) Y48)).length = 9 := lset_len lY48
 clear hin51 Gs51 Hs51 Ng51 Sz51 qq51 Ar51 cl51
 show Go _ _ _ (T52.setTop (mkF m 120 #[vr a1, vi 8, vr y3, vr b5, vr b7, vi 1, vi 5] [])) _
 obtain ⟨Y53, eY53, lY53, V53q⟩ : ∃ Y, Y = (pre (6 : Int32) (5 : Int32) Y48) ∧ Y.length = 9 ∧ Arv Z h52 b5 k5 .int (9 : Int32) (List.map Value.int Y) (.int (0 : Int32)) := ⟨_, rfl, ln_52, V_b5⟩
 replace V_b5 := V53q
 clear ln_52 V53q
 refine G (fun t k => XS.iinc X52.here hx rfl (hb hby d5_120) rfl (l' := #[vr a1, vi 8, vr y3, vr b5, vr b7, vi 1, vi ((5 : Int32) + (1 : Int32))]) rfl (XS.goto X52.here hx rfl (pc0 := 123) (pc' := 101) rfl (hb hby d5_123) (by decide) (by decide) (XS.iload X52.here hx rfl (hb hby d5_101) rfl (XS.iloadN X52.here hx rfl (hb hby d5_103) rfl (XS.icmpNo X52.here hx rfl (hb hby d5_104) rfl (tlt (by decide : (6 : Int32) < (8 : Int32))).2.1 (XS.aloadN X52.here hx rfl (hb hby d5_107) rfl rfl k)))))) ?_
 refine G (fun t k => XS.iload X52.here hx rfl (hb hby d5_108) rfl k) ?_
 show Go _ _ _ (T52.setTop (mkF m 110 #[vr a1, vi 8, vr y3, vr b5, vr b7, vi 1, vi 6] [(.int 6), (.ref b5)])) _
 refine G (fun t k => XS.iconst X52.here hx rfl (hb hby d5_110) (XS.iadd X52.here hx rfl (hb hby d5_111) rfl (XT.dup2 X52.here hx rfl (hb hby d5_112) rfl rfl rfl k))) ?_
 obtain ⟨cl54, Ar54, -, Sz54, Ng54, Hs54, -⟩ := id V_b5
 have hin54 := inb_of (j := (7 : Int32)) (c := cl54) Sz54 ⟨by decide, by decide⟩
 refine G (fun t k => X52.iaload hx (j := (7 : Int32)) (v := (.int (own_at Y53 (7 : Int32)))) (by rw [e52]; exact Ar54.1) (State.isArrayOf_alike hZ.alike Ar54.2.1) Ar54.2.2 hin54 (Has.at Hs54 hin54 (own_atv Y53 (7 : Int32))) (g := (mkF m 113 #[vr a1, vi 8, vr y3, vr b5, vr b7, vi 1, vi 6] [(.int 7), (.ref b5), (.int 7), (.ref b5)])) rfl rfl (hb hby d5_113) _ k) ?_
 clear hin54 Hs54 Ng54 Sz54 Ar54 cl54
 refine G (fun t k => XS.aloadN X52.here hx rfl (hb hby d5_114) rfl rfl (XS.iload X52.here hx rfl (hb hby d5_115) rfl k)) ?_
 obtain ⟨cl55, Ar55, -, Sz55, Ng55, Hs55, -⟩ := id V_b5
 have hin55 := inb_of (j := (6 : Int32)) (c := cl55) Sz55 ⟨by decide, by decide⟩
 refine G (fun t k => X52.iaload hx (j := (6 : Int32)) (v := (.int (own_at Y53 (6 : Int32)))) (by rw [e52]; exact Ar55.1) (State.isArrayOf_alike hZ.alike Ar55.2.1) Ar55.2.2 hin55 (Has.at Hs55 hin55 (own_atv Y53 (6 : Int32))) (g := (mkF m 117 #[vr a1, vi 8, vr y3, vr b5, vr b7, vi 1, vi 6] [(.int 6), (.ref b5), (.int (own_at Y53 (7 : Int32))), (.int 7), (.ref b5)])) rfl rfl (hb hby d5_117) _ k) ?_
 clear hin55 Hs55 Ng55 Sz55 Ar55 cl55
 show Go _ _ _ (T52.setTop (mkF m 118 #[vr a1, vi 8, vr y3, vr b5, vr b7, vi 1, vi 6] [(.int (own_at Y53 (6 : Int32))), (.int (own_at Y53 (7 : Int32))), (.int 7), (.ref b5)])) _
 refine G (fun t k => XS.iadd X52.here hx rfl (hb hby d5_118) rfl k) ?_
 obtain ⟨cl56, Ar56, qq56, Sz56, Ng56, Hs56, Gs56⟩ := id V_b5
 have hin56 := inb_of (j := (7 : Int32)) (c := cl56) Sz56 ⟨by decide, by decide⟩
 obtain ⟨T57, h57, X57, e57, W57, st57⟩ := stI X52 hx hZ e52 Ar56 (j := (7 : Int32)) hin56 (g := (mkF m 119 #[vr a1, vi 8, vr y3, vr b5, vr b7, vi 1, vi 6] [(.int ((own_at Y53 (7 : Int32)) + (own_at Y53 (6 : Int32)))), (.int 7), (.ref b5)])) rfl rfl (hb hby d5_119)
 refine G st57 ?_
 have N57 := Fr.snoc X57 N52 g_b5
 replace V_b7 := V_b7.other W57 (Ne.symm ne_b5_b7)
 replace Z0 := Nat.le_trans Z0 (Nat.le_of_eq W57.size.symm)
 replace K0 := K0.wr W57 (Or.inr sz_b5)
 replace V_b5 : Arv Z h57 b5 k5 .int (9 : Int32) (List.map Value.int (pre (7 : Int32) (6 : Int32) Y53)) (.int (0 : Int32)) := own_mset (Arv.set Ar56 qq56 Sz56 Ng56 Hs56 Gs56 rfl W57 _ rfl (own_mlt lY53 ⟨by decide, by decide⟩))
 have ln_57 : ((pre (7 : Int32) (6 : Int32) Y53)).length = 9 := lset_len lY53
 clear hin56 Gs56 Hs56 Ng56 Sz56 qq56 Ar56 cl56
 show Go _ _ _ (T57.setTop (mkF m 120 #[vr a1, vi 8, vr y3, vr b5, vr b7, vi 1, vi 6] [])) _
 obtain ⟨Y58, eY58, lY58, V58q⟩ : ∃ Y, Y = (pre (7 : Int32) (6 : Int32) Y53) ∧ Y.length = 9 ∧ Arv Z h57 b5 k5 .int (9 : Int32) (List.map Value.int Y) (.int (0 : Int32)) := ⟨_, rfl, ln_57, V_b5⟩
 replace V_b5 := V58q
 clear ln_57 V58q
 refine G (fun t k => XS.iinc X57.here hx rfl (hb hby d5_120) rfl (l' := #[vr a1, vi 8, vr y3, vr b5, vr b7, vi 1, vi ((6 : Int32) + (1 : Int32))]) rfl (XS.goto X57.here hx rfl (pc0 := 123) (pc' := 101) rfl (hb hby d5_123) (by decide) (by decide) (XS.iload X57.here hx rfl (hb hby d5_101) rfl (XS.iloadN X57.here hx rfl (hb hby d5_103) rfl (XS.icmpNo X57.here hx rfl (hb hby d5_104) rfl (tlt (by decide : (7 : Int32) < (8 : Int32))).2.1 (XS.aloadN X57.here hx rfl (hb hby d5_107) rfl rfl k)))))) ?_
 refine G (fun t k => XS.iload X57.here hx rfl (hb hby d5_108) rfl k) ?_
 show Go _ _ _ (T57.setTop (mkF m 110 #[vr a1, vi 8, vr y3, vr b5, vr b7, vi 1, vi 7] [(.int 7), (.ref b5)])) _
 refine G (fun t k => XS.iconst X57.here hx rfl (hb hby d5_110) (XS.iadd X57.here hx rfl (hb hby d5_111) rfl (XT.dup2 X57.here hx rfl (hb hby d5_112) rfl rfl rfl k))) ?_
 obtain ⟨cl59, Ar59, -, Sz59, Ng59, Hs59, -⟩ := id V_b5
 have hin59 := inb_of (j := (8 : Int32)) (c := cl59) Sz59 ⟨by decide, by decide⟩
 refine G (fun t k => X57.iaload hx (j := (8 : Int32)) (v := (.int (own_at Y58 (8 : Int32)))) (by rw [e57]; exact Ar59.1) (State.isArrayOf_alike hZ.alike Ar59.2.1) Ar59.2.2 hin59 (Has.at Hs59 hin59 (own_atv Y58 (8 : Int32))) (g := (mkF m 113 #[vr a1, vi 8, vr y3, vr b5, vr b7, vi 1, vi 7] [(.int 8), (.ref b5), (.int 8), (.ref b5)])) rfl rfl (hb hby d5_113) _ k) ?_
 clear hin59 Hs59 Ng59 Sz59 Ar59 cl59
 refine G (fun t k => XS.aloadN X57.here hx rfl (hb hby d5_114) rfl rfl (XS.iload X57.here hx rfl (hb hby d5_115) rfl k)) ?_
 obtain ⟨cl60, Ar60, -, Sz60, Ng60, Hs60, -⟩ := id V_b5
 have hin60 := inb_of (j := (7 : Int32)) (c := cl60) Sz60 ⟨by decide, by decide⟩
 refine G (fun t k => X57.iaload hx (j := (7 : Int32)) (v := (.int (own_at Y58 (7 : Int32)))) (by rw [e57]; exact Ar60.1) (State.isArrayOf_alike hZ.alike Ar60.2.1) Ar60.2.2 hin60 (Has.at Hs60 hin60 (own_atv Y58 (7 : Int32))) (g := (mkF m 117 #[vr a1, vi 8, vr y3, vr b5, vr b7, vi 1, vi 7] [(.int 7), (.ref b5), (.int (own_at Y58 (8 : Int32))), (.int 8), (.ref b5)])) rfl rfl (hb hby d5_117) _ k) ?_
 clear hin60 Hs60 Ng60 Sz60 Ar60 cl60
 show Go _ _ _ (T57.setTop (mkF m 118 #[vr a1, vi 8, vr y3, vr b5, vr b7, vi 1, vi 7] [(.int (own_at Y58 (7 : Int32))), (.int (own_at Y58 (8 : Int32))), (.int 8), (.ref b5)])) _
 refine G (fun t k => XS.iadd X57.here hx rfl (hb hby d5_118) rfl k) ?_
 obtain ⟨cl61, Ar61, qq61, Sz61, Ng61, Hs61, Gs61⟩ := id V_b5
 have hin61 := inb_of (j := (8 : Int32)) (c := cl61) Sz61 ⟨by decide, by decide⟩
 obtain ⟨T62, h62, X62, e62, W62, st62⟩ := stI X57 hx hZ e57 Ar61 (j := (8 : Int32)) hin61 (g := (mkF m 119 #[vr a1, vi 8, vr y3, vr b5, vr b7, vi 1, vi 7] [(.int ((own_at Y58 (8 : Int32)) + (own_at Y58 (7 : Int32)))), (.int 8), (.ref b5)])) rfl rfl (hb hby d5_119)
 refine G st62 ?_
 have N62 := Fr.snoc X62 N57 g_b5
 obtain ⟨LL62, X62, N62⟩ : ∃ LL, Stand p l e (Rm 4 5 18 84) s m #[(.ref a1), (.int (8 : Int32))] below meth c T62 LL 3 15 ∧ Fr n0 LL := ⟨_, X62, N62⟩
 replace V_b7 := V_b7.other W62 (Ne.symm ne_b5_b7)
 replace Z0 := Nat.le_trans Z0 (Nat.le_of_eq W62.size.symm)
 replace K0 := K0.wr W62 (Or.inr sz_b5)
 replace V_b5 : Arv Z h62 b5 k5 .int (9 : Int32) (List.map Value.int (pre (8 : Int32) (7 : Int32) Y58)) (.int (0 : Int32)) := own_mset (Arv.set Ar61 qq61 Sz61 Ng61 Hs61 Gs61 rfl W62 _ rfl (own_mlt lY58 ⟨by decide, by decide⟩))
 have ln_62 : ((pre (8 : Int32) (7 : Int32) Y58)).length = 9 := lset_len lY58
 clear hin61 Gs61 Hs61 Ng61 Sz61 qq61 Ar61 cl61
 show Go _ _ _ (T62.setTop (mkF m 120 #[vr a1, vi 8, vr y3, vr b5, vr b7, vi 1, vi 7] [])) _
 obtain ⟨Y63, eY63, lY63, V63q⟩ : ∃ Y, Y = (pre (8 : Int32) (7 : Int32) Y58) ∧ Y.length = 9 ∧ Arv Z h62 b5 k5 .int (9 : Int32) (List.map Value.int Y) (.int (0 : Int32)) := ⟨_, rfl, ln_62, V_b5⟩
 replace V_b5 := V63q
 clear ln_62 V63q
 refine G (fun t k => XS.iinc X62.here hx rfl (hb hby d5_120) rfl (l' := #[vr a1, vi 8, vr y3, vr b5, vr b7, vi 1, vi ((7 : Int32) + (1 : Int32))]) rfl (XS.goto X62.here hx rfl (pc0 := 123) (pc' := 101) rfl (hb hby d5_123) (by decide) (by decide) (XS.iload X62.here hx rfl (hb hby d5_101) rfl (XS.iloadN X62.here hx rfl (hb hby d5_103) rfl (XS.icmpYes X62.here hx rfl (pc0 := 104) (pc' := 126) rfl (hb hby d5_104) rfl (flt (by decide : ¬ ((8 : Int32) < (8 : Int32)))).2.1 (by decide) (by decide) k))))) ?_
 show Go _ _ _ (T62.setTop (mkF m 126 #[vr a1, vi 8, vr y3, vr b5, vr b7, vi 1, vi 8] [])) _
 rw [eY63, eY58, eY53, eY48, eY43, eY38, eY33, eY28, eY13] at V_b5
 obtain ⟨T64, h64, X64, e64, E64, A64, D64, -, st64⟩ := newO X62 hx hZ hown (wd52 hw) (wd53 hw) (wd54 hw) e62 (g := (mkF m 126 #[vr a1, vi 8, vr y3, vr b5, vr b7, vi 1, vi 8] [])) rfl (hb hby d5_126) (by decide) (by decide)
 obtain ⟨b64, g64⟩ : ∃ z, z = h62.size := ⟨_, rfl⟩
 rw [← g64] at A64 D64 st64
 refine G st64 ?_
 have ne_b5_b64 : b5 ≠ b64 := Nat.ne_of_lt (Nat.lt_of_lt_of_le V_b5.lt (Nat.le_of_eq g64.symm))
 have ne_b7_b64 : b7 ≠ b64 := Nat.ne_of_lt (Nat.lt_of_lt_of_le V_b7.lt (Nat.le_of_eq g64.symm))
 have g_b64 : n0 ≤ b64 := Nat.le_trans Z0 (Nat.le_of_eq g64.symm)
 have sz_b64 : h0.size ≤ b64 := Nat.le_trans K0.1 (Nat.le_of_eq g64.symm)
 replace V_b5 := V_b5.ext E64
 replace V_b7 := V_b7.ext E64
 replace K0 := K0.ext E64
 replace Z0 := Nat.le_trans Z0 E64.1
 have E_b64 := A64
 have F_b64_a : Fld Z h64 b64 RC "start" "[I" .null := D64 (Or.inr (wd72 hw)) (ty := (.array .int)) (by decide)
 have F_b64_t : Fld Z h64 b64 RC "targets" "[I" .null := D64 (Or.inr (wd74 hw)) (ty := (.array .int)) (by decide)
 refine G (fun t k => XS.dup X64.here hx rfl (hb hby d5_129) rfl rfl (XS.aloadN X64.here hx rfl (hb hby d5_130) rfl rfl (XS.aload X64.here hx rfl (hb hby d5_131) rfl rfl (XS.iload X64.here hx rfl (hb hby d5_133) rfl k)))) ?_
 obtain ⟨_, _, ⟨T65, L65, k65, n65⟩, -, X65, ⟨Lc65, hQ65, l65, y65, z65⟩, st65⟩ := Jvm.LawKit.callS X64 hx (y := (⟨"java/util/Arrays", "copyOf", "([II)[I"⟩ : MethodName)) hown (mvT hZ (wd55 hw)) (mvT hZ (wd56 hw)) (mvT hZ (wd31 hw)) (mvT hZ (wd57 hw)) (by decide) (backOf (W := 3) (rm11_1 l Z a0 hw [] b7 ((f10_a1_0 t0 t1 t2).toInt32) (0 : Int32) (0 : Int32) k7 h64 n0 Z0 V_b7) hZ (wd57 hw) (wd31 hw) (by decide) (by decide)) (g := (mkF m 135 #[vr a1, vi 8, vr y3, vr b5, vr b7, vi 1, vi 8] [(.int 1), (.ref b7), (.ref b5), (.ref b64), (.ref b64)])) rfl (by rw [hml]; rfl) (argsL := [(.ref b7), (.int (1 : Int32))]) (rest := [(.ref b5), (.ref b64), (.ref b64)]) (lenOf pd6 rfl) rfl (by show 2 * 0 + _ ≤ _; exact Nat.le_of_eq rfl) (hb hby d5_135) (fun _ _ => ⟨rfl, e64, (by decide : 4 + 1 ≤ _), (by decide : 17 + 1 ≤ _)⟩)
 dsimp only [Pt.U, Pt.locs, Pt.cells, Pt.slots] at X65 l65 y65 z65 st65 hQ65
 subst l65 y65 z65
 obtain ⟨h65, e65⟩ : ∃ z, T65.heap = z := ⟨_, rfl⟩
 rw [e65] at hQ65
 obtain ⟨y65, k_y65, rfl, N65q, K65, ng_y65, sz0_y65, Q65_0⟩ := hQ65
 refine G st65 ?_
 have ne_b5_y65 : b5 ≠ y65 := Nat.ne_of_lt (Nat.lt_of_lt_of_le V_b5.lt sz0_y65)
 have ne_b7_y65 : b7 ≠ y65 := Nat.ne_of_lt (Nat.lt_of_lt_of_le V_b7.lt sz0_y65)
 have ne_b64_y65 : b64 ≠ y65 := Nat.ne_of_lt (Nat.lt_of_lt_of_le E_b64.lt sz0_y65)
 have g_y65 : n0 ≤ y65 := ng_y65
 have sz_y65 : h0.size ≤ y65 := Nat.le_trans K0.1 sz0_y65
 replace V_b5 := V_b5.keep K65 nin0
 replace V_b7 := V_b7.keep K65 nin0
 replace E_b64 := E_b64.keep K65
 replace F_b64_a := F_b64_a.keep K65 nin0
 replace F_b64_t := F_b64_t.keep K65 nin0
 replace Z0 := Nat.le_trans Z0 K65.1
 replace K0 := K0.trans K65 all0
 have V_y65 := Q65_0
 have N65 := Fr.app N62 N65q
 obtain ⟨_, _, ⟨T66, L66, k66, n66⟩, -, X66, ⟨Lc66, hQ66, l66, y66, z66⟩, st66⟩ := X65.specialBackNest hx (y := (⟨RC, "<init>", "([I[I)V"⟩ : MethodName)) rfl hown (own_mvM hZ (wd67 hw)) (mvT hZ (wd68 hw)) (mvT hZ (wd69 hw)) (by decide) (backOf (W := 1) (rm12 l Z a0 hw [] b64 b5 y65 (.null : Value) (.null : Value) h65 n0 Z0 E_b64 F_b64_a F_b64_t g_b64) hZ (wd69 hw) (wd54 hw) (by decide) (by decide)) (g := (mkF m 138 #[vr a1, vi 8, vr y3, vr b5, vr b7, vi 1, vi 8] [(.ref y65), (.ref b5), (.ref b64), (.ref b64)])) rfl (by rw [hml]; rfl) (Steps.refl _) (a := b64) (argsL := [(.ref b5), (.ref y65)]) (rest := [(.ref b64)]) (lenOf pd7 rfl) rfl (by show 2 * 0 + _ ≤ _; exact Nat.le_of_eq rfl) (hb hby d5_138) (fun _ _ => ⟨rfl, e65, (by decide : 5 + 0 ≤ _), (by decide : 18 + 0 ≤ _)⟩)
 dsimp only [Pt.U, Pt.locs, Pt.cells, Pt.slots] at X66 l66 y66 z66 st66 hQ66
 subst l66 y66 z66
 refine Go.tr st66 ?_
 have E_b64_pre := E_b64
 have F_b64_start_pre := F_b64_a
 have F_b64_targets_pre := F_b64_t
 obtain ⟨h66, e66⟩ : ∃ z, T66.heap = z := ⟨_, rfl⟩
 rw [e66] at hQ66
 obtain ⟨rfl, N66q, K66, Q66_0, Q66_1, Q66_2⟩ := hQ66
 replace V_b5 := V_b5.keep K66 (ninS ne_b5_b64 nin0)
 replace V_b7 := V_b7.keep K66 (ninS ne_b7_b64 nin0)
 replace E_b64 := E_b64.keep K66
 replace V_y65 := V_y65.keep K66 (ninS (Ne.symm ne_b64_y65) nin0)
 replace Z0 := Nat.le_trans Z0 K66.1
 replace K0 := K0.trans K66 (allS (Or.inr sz_b64) all0)
 clear E_b64_pre F_b64_start_pre F_b64_targets_pre
 have E_b64 := Q66_0
 have F_b64_a := Q66_1
 have F_b64_t := Q66_2
 have N66 := Fr.app N65 N66q
 show Go _ _ _ (T66.setTop (mkF m 141 #[vr a1, vi 8, vr y3, vr b5, vr b7, vi 1, vi 8] [(.ref b64)])) _
 obtain ⟨fs, hr, hrun, hended, hW, hsame⟩ := X66.leave (v := some (.ref b64)) (fun h => by rw [Bd.returns] at h; cases h)
 refine Go.fin (retOut X66 hx Bd.returns rfl (Or.inr (Or.inr (Or.inr (Or.inr ⟨rfl, rfl, rfl⟩)))) (hb hby d5_141) hr) hrun hended ⟨_, _, rfl, ?_, ⟨_, rfl⟩, hW, hsame.mono (by decide) (by decide)⟩
 show Q5_11 Z a1 w_P t0 t1 t2 k_P h0 n0 _ T66.heap _
 rw [e66]
 exact ⟨b5, y65, b64, k5, k_y65, rfl, N66, K0, g_b5, sz_b5, g_y65, sz_y65, g_b64, sz_b64, ne_b5_y65, ne_b5_b64, (Ne.symm ne_b64_y65), V_b5, E_b64, V_y65, F_b64_a, F_b64_t⟩
def Q5_10 (Z : State) (a1 : Addr) (w_P : Addr) (t0 : Int64) (t1 : Int64) (t2 : Int64) (k_P : ClassId) (h0 : Heap) (n0 : Nat) (v : Option Value) (h : Heap) (L : List Loc) : Prop := ∃ x5_10_0 : Addr, ∃ x5_10_1 : Addr, ∃ x5_10_2 : Addr, ∃ k_x5_10_0 : ClassId, ∃ k_x5_10_1 : ClassId, v = some (.ref x5_10_2) ∧ Fr n0 L ∧ Keep h0 h [] ∧ n0 ≤ x5_10_0 ∧ h0.size ≤ x5_10_0 ∧ n0 ≤ x5_10_1 ∧ h0.size ≤ x5_10_1 ∧ n0 ≤ x5_10_2 ∧ h0.size ≤ x5_10_2 ∧ x5_10_0 ≠ x5_10_1 ∧ x5_10_0 ≠ x5_10_2 ∧ x5_10_1 ≠ x5_10_2 ∧ Arv Z h x5_10_0 k_x5_10_0 .int (9 : Int32) (List.map Value.int (pre (8 : Int32) (7 : Int32) (pre (7 : Int32) (6 : Int32) (pre (6 : Int32) (5 : Int32) (pre (5 : Int32) (4 : Int32) (pre (4 : Int32) (3 : Int32) (pre (3 : Int32) (2 : Int32) (pre (2 : Int32) (1 : Int32) (pre (1 : Int32) (0 : Int32) (bump (gi (f10_a1_2 t0 t1 t2)) (bump (gi (f10_a1_0 t0 t1 t2)) z9))))))))))) (.int (0 : Int32)) ∧ Exa Z h x5_10_2 RC ∧ Arv Z h x5_10_1 k_x5_10_1 .int (2 : Int32) [(.int ((f10_a1_0 t0 t1 t2).toInt32)), (.int ((f10_a1_2 t0 t1 t2).toInt32))] (.int (0 : Int32)) ∧ Fld Z h x5_10_2 RC "start" "[I" (.ref x5_10_0) ∧ Fld Z h x5_10_2 RC "targets" "[I" (.ref x5_10_1)
theorem ef5_10 (m : MethodId) (x0 : Addr) : entryFrame m #[(.ref x0), (.int (8 : Int32))] 7 = mkF m 0 #[.val (.ref x0), .val (.int (8 : Int32)), .unset, .unset, .unset, .unset, .unset] [] := by first | (simp [entryFrame, mkF, argsToLocals, Value.category]; done) | rfl
theorem rm5_10 (l : Launch) (Z : State) (a0 : Array Value) (hw : HW a0 Z) (ws : List Jvm.Cond) (a1 : Addr) (w_P : Addr) (t0 : Int64) (t1 : Int64) (t2 : Int64) (k_P : ClassId) (h0 : Heap) (n0 : Nat) (Z0 : n0 ≤ h0.size) (E_a1 : Exa Z h0 a1 BC) (F_a1_s : Fld Z h0 a1 BC "size" "I" (.int (3 : Int32))) (F_a1_p : Fld Z h0 a1 BC "pairs" "[J" (.ref w_P)) (V_P : Arv Z h0 w_P k_P .long (16 : Int32) [(.long t0), (.long t1), (.long t2), (.long (0 : Int64)), (.long (0 : Int64)), (.long (0 : Int64)), (.long (0 : Int64)), (.long (0 : Int64)), (.long (0 : Int64)), (.long (0 : Int64)), (.long (0 : Int64)), (.long (0 : Int64)), (.long (0 : Int64)), (.long (0 : Int64)), (.long (0 : Int64)), (.long (0 : Int64))] (.long (0 : Int64))) (hb0 : ¬ (gi (f10_a1_0 t0 t1 t2)) < 0 ∧ (gi (f10_a1_0 t0 t1 t2)) < (9 : Int32)) (hb1 : ¬ (gi (f10_a1_1 t0 t1 t2)) < 0 ∧ (gi (f10_a1_1 t0 t1 t2)) < (9 : Int32)) (hb2 : ¬ (gi (f10_a1_2 t0 t1 t2)) < 0 ∧ (gi (f10_a1_2 t0 t1 t2)) < (9 : Int32)) (he1 : (f10_a1_1 t0 t1 t2) = (f10_a1_0 t0 t1 t2)) (he2 : ¬ (f10_a1_2 t0 t1 t2) = (f10_a1_1 t0 t1 t2)) :
  MetFree l (⟨BC, "build", "(I)Lcom/example/tripletype/tripletype/Relation;"⟩ : MethodName) (head1 (Jvm.Cond.code (⟨BC, "build", "(I)Lcom/example/tripletype/tripletype/Relation;"⟩ : MethodName) cB5 7 (some (.object RC)) :: ws) (Rm 4 5 19 84)) (Pr Z h0 #[(.ref a1), (.int (8 : Int32))]) Tr (fun _ U o U' => ∃ v L, o = .returned v ∧ Q5_10 Z a1 w_P t0 t1 t2 k_P h0 n0 v U'.heap L ∧ FrameEnd U o U' L (Rm 4 5 19 84).cells (Rm 4 5 19 84).slots) := by
 refine MetFree.of_bodySF (plainFor_of_name pn1) hisR ?_
 intro p e s m args below meth c s₁ Bd hml0 hP hK
 obtain ⟨rfl, hZ, hh⟩ := hP
 have hx := Bd.exec
 have hby := Bd.bytes
 have hml : c.maxLocals = 7 := hml0
 have hown : s.vm.findClass BC = some m.cls := findClass_of_methodNamed Bd.named
 have hnm := (name_of_methodNamed Bd.named Bd.method).1
 have X0 : Stand p l e (Rm 4 5 19 84) s m #[(.ref a1), (.int (8 : Int32))] below meth c s₁ [] 0 0 := Stand.of_body Bd
 have e0 : s₁.heap = h0 := by rw [← hh, Bd.state]; rfl
 have N0 := Fr.nil n0
 have K0 : Keep h0 h0 [] := Keep.refl h0 _
 refine G (P := fun o U' => ∃ v L, o = .returned v ∧ Q5_10 Z a1 w_P t0 t1 t2 k_P h0 n0 v U'.heap L ∧ FrameEnd s o U' L (Rm 4 5 19 84).cells (Rm 4 5 19 84).slots) (fun t k => castTop (ef5_10 m a1) k) ?_
 show Go _ _ _ (s₁.setTop (mkF m 0 #[vr a1, vi 8, us, us, us, us, us] [])) _
 refine G (fun t k => XS.aloadN X0.here hx rfl (hb hby d5_0) rfl rfl k) ?_
 obtain ⟨T1, X1, e1, st1⟩ := getF X0 hx hZ hown (host := "") (Or.inl (wd15 hw)) Via.refl e0 F_a1_p (g := (mkF m 1 #[vr a1, vi 8, us, us, us, us, us] [(.ref a1)])) rfl rfl (hb hby d5_1)
 refine G st1 ?_
 refine G (fun t k => XS.aloadN X1.here hx rfl (hb hby d5_4) rfl rfl k) ?_
 obtain ⟨T2, X2, e2, st2⟩ := getF X1 hx hZ hown (host := "") (Or.inl (wd22 hw)) Via.refl e1 F_a1_s (g := (mkF m 5 #[vr a1, vi 8, us, us, us, us, us] [(.ref a1), (.ref w_P)])) rfl rfl (hb hby d5_5)
 refine G st2 ?_
 obtain ⟨_, _, ⟨T3, L3, k3, n3⟩, -, X3, ⟨Lc3, hQ3, l3, y3, z3⟩, st3⟩ := Jvm.LawKit.callS X2 hx (y := (⟨"java/util/Arrays", "copyOf", "([JI)[J"⟩ : MethodName)) hown (mvT hZ (wd29 hw)) (mvT hZ (wd30 hw)) (mvT hZ (wd31 hw)) (mvT hZ (wd32 hw)) (by decide) (backOf (W := 0) (rm6 l Z a0 hw [] w_P t0 t1 t2 k_P h0 n0 Z0 V_P) hZ (wd32 hw) (wd31 hw) (by decide) (by decide)) (g := (mkF m 8 #[vr a1, vi 8, us, us, us, us, us] [(.int 3), (.ref w_P)])) rfl (by rw [hml]; rfl) (argsL := [(.ref w_P), (.int (3 : Int32))]) (rest := []) (lenOf pd4 rfl) rfl (by show 2 * 0 + _ ≤ _; exact Nat.le_of_eq rfl) (hb hby d5_8) (fun _ _ => ⟨rfl, e2, (by decide : 0 + 1 ≤ _), (by decide : 0 + 3 ≤ _)⟩)
 dsimp only [Pt.U, Pt.locs, Pt.cells, Pt.slots] at X3 l3 y3 z3 st3 hQ3
 subst l3 y3 z3
 obtain ⟨h3, e3⟩ : ∃ z, T3.heap = z := ⟨_, rfl⟩
 rw [e3] at hQ3
 obtain ⟨y3, k_y3, rfl, N3q, K3, ng_y3, sz0_y3, Q3_0⟩ := hQ3
 refine G st3 ?_
 have ne_a1_y3 : a1 ≠ y3 := Nat.ne_of_lt (Nat.lt_of_lt_of_le E_a1.lt sz0_y3)
 have ne_w_P_y3 : w_P ≠ y3 := Nat.ne_of_lt (Nat.lt_of_lt_of_le V_P.lt sz0_y3)
 have g_y3 : n0 ≤ y3 := ng_y3
 have sz_y3 : h0.size ≤ y3 := Nat.le_trans K0.1 sz0_y3
 replace E_a1 := E_a1.keep K3
 replace F_a1_s := F_a1_s.keep K3 nin0
 replace F_a1_p := F_a1_p.keep K3 nin0
 replace V_P := V_P.keep K3 nin0
 replace Z0 := Nat.le_trans Z0 K3.1
 replace K0 := K0.trans K3 all0
 have V_y3 := Q3_0
 have N3 := Fr.app N0 N3q
 show Go _ _ _ (T3.setTop (mkF m 11 #[vr a1, vi 8, us, us, us, us, us] [(.ref y3)])) _
 refine G (fun t k => XS.astoreN X3.here hx rfl (hb hby d5_11) rfl rfl (l' := #[vr a1, vi 8, vr y3, us, us, us, us]) rfl (XS.aloadN X3.here hx rfl (hb hby d5_12) rfl rfl k)) ?_
 obtain ⟨_, _, ⟨T4, L4, k4, n4⟩, -, X4, ⟨Lc4, hQ4, l4, y4, z4⟩, st4⟩ := Jvm.LawKit.callS X3 hx (y := (⟨"java/util/Arrays", "sort", "([J)V"⟩ : MethodName)) hown (mvT hZ (wd38 hw)) (mvT hZ (wd39 hw)) (mvT hZ (wd31 hw)) (mvT hZ (wd40 hw)) (by decide) (backOf (W := 0) (rm7 l Z a0 hw [] y3 t0 t1 t2 k_y3 h3 n0 Z0 V_y3 g_y3) hZ (wd40 hw) (wd31 hw) (by decide) (by decide)) (g := (mkF m 13 #[vr a1, vi 8, vr y3, us, us, us, us] [(.ref y3)])) rfl (by rw [hml]; rfl) (argsL := [(.ref y3)]) (rest := []) (lenOf pd5 rfl) rfl (by show 2 * 0 + _ ≤ _; exact Nat.le_of_eq rfl) (hb hby d5_13) (fun _ _ => ⟨rfl, e3, (by decide : 1 + 0 ≤ _), (by decide : 3 + 0 ≤ _)⟩)
 dsimp only [Pt.U, Pt.locs, Pt.cells, Pt.slots] at X4 l4 y4 z4 st4 hQ4
 subst l4 y4 z4
 refine G st4 ?_
 have V_y3_pre := V_y3
 obtain ⟨h4, e4⟩ : ∃ z, T4.heap = z := ⟨_, rfl⟩
 rw [e4] at hQ4
 obtain ⟨rfl, N4q, K4, Q4_0⟩ := hQ4
 replace Z0 := Nat.le_trans Z0 K4.1
 replace K0 := K0.trans K4 (allS (Or.inr sz_y3) all0)
 clear V_y3_pre
 have V_y3 := Q4_0
 have N4 := Fr.app N3 N4q
 refine G (fun t k => XS.iloadN X4.here hx rfl (hb hby d5_16) rfl (XS.iconst X4.here hx rfl (hb hby d5_17) (XS.iadd X4.here hx rfl (hb hby d5_18) rfl k))) ?_
 obtain ⟨T5, h5, k5, X5, e5, E5, A5, st5⟩ := newP X4 hx hZ (aty := .int) (wd51 hw) e4 (g := (mkF m 19 #[vr a1, vi 8, vr y3, us, us, us, us] [(.int 9)])) rfl (hb hby d5_19) rfl (by decide) (cap := 9) (by decide) (by decide) (by decide) (by decide)
 obtain ⟨b5, g5⟩ : ∃ z, z = h4.size := ⟨_, rfl⟩
 rw [← g5] at A5 st5
 refine G st5 ?_
 have ne_y3_b5 : y3 ≠ b5 := Nat.ne_of_lt (Nat.lt_of_lt_of_le V_y3.lt (Nat.le_of_eq g5.symm))
 have g_b5 : n0 ≤ b5 := Nat.le_trans Z0 (Nat.le_of_eq g5.symm)
 have sz_b5 : h0.size ≤ b5 := Nat.le_trans K0.1 (Nat.le_of_eq g5.symm)
 replace V_y3 := V_y3.ext E5
 replace K0 := K0.ext E5
 replace Z0 := Nat.le_trans Z0 E5.1
 have V_b5 : Arv Z h5 b5 k5 .int (9 : Int32) [(.int (0 : Int32)), (.int (0 : Int32)), (.int (0 : Int32)), (.int (0 : Int32)), (.int (0 : Int32)), (.int (0 : Int32)), (.int (0 : Int32)), (.int (0 : Int32)), (.int (0 : Int32))] (.int (0 : Int32)) := (Arv.new A5 (by decide)).pad (pad_rep [] (.int (0 : Int32)) 9)
 show Go _ _ _ (T5.setTop (mkF m 21 #[vr a1, vi 8, vr y3, us, us, us, us] [(.ref b5)])) _
 refine G (fun t k => XS.astoreN X5.here hx rfl (hb hby d5_21) rfl rfl (l' := #[vr a1, vi 8, vr y3, vr b5, us, us, us]) rfl (XS.aloadN X5.here hx rfl (hb hby d5_22) rfl rfl k)) ?_
 obtain ⟨cl6, Ar6, -, Sz6, Ng6, -, -⟩ := id V_y3
 refine G (fun t k => X5.arraylength hx (by rw [e5]; exact Ar6.1) (State.isArrayOf_alike hZ.alike Ar6.2.1) (g := (mkF m 23 #[vr a1, vi 8, vr y3, vr b5, us, us, us] [(.ref y3)])) rfl rfl (hb hby d5_23) _ k) ?_
 rw [len_of Sz6 Ng6]
 clear Ng6 Sz6 Ar6 cl6
 obtain ⟨T7, h7, k7, X7, e7, E7, A7, st7⟩ := newP X5 hx hZ (aty := .int) (wd51 hw) e5 (g := (mkF m 24 #[vr a1, vi 8, vr y3, vr b5, us, us, us] [(.int 3)])) rfl (hb hby d5_24) rfl (by decide) (cap := 3) (by decide) (by decide) (by decide) (by decide)
 obtain ⟨b7, g7⟩ : ∃ z, z = h5.size := ⟨_, rfl⟩
 rw [← g7] at A7 st7
 refine G st7 ?_
 have ne_y3_b7 : y3 ≠ b7 := Nat.ne_of_lt (Nat.lt_of_lt_of_le V_y3.lt (Nat.le_of_eq g7.symm))
 have ne_b5_b7 : b5 ≠ b7 := Nat.ne_of_lt (Nat.lt_of_lt_of_le V_b5.lt (Nat.le_of_eq g7.symm))
 have g_b7 : n0 ≤ b7 := Nat.le_trans Z0 (Nat.le_of_eq g7.symm)
 have sz_b7 : h0.size ≤ b7 := Nat.le_trans K0.1 (Nat.le_of_eq g7.symm)
 replace V_y3 := V_y3.ext E7
 replace V_b5 := V_b5.ext E7
 replace K0 := K0.ext E7
 replace Z0 := Nat.le_trans Z0 E7.1
 have V_b7 : Arv Z h7 b7 k7 .int (3 : Int32) [(.int (0 : Int32)), (.int (0 : Int32)), (.int (0 : Int32))] (.int (0 : Int32)) := (Arv.new A7 (by decide)).pad (pad_rep [] (.int (0 : Int32)) 3)
 refine G (fun t k => XS.astore X7.here hx rfl (hb hby d5_26) rfl rfl (l' := #[vr a1, vi 8, vr y3, vr b5, vr b7, us, us]) rfl k) ?_
 show Go _ _ _ (T7.setTop (mkF m 28 #[vr a1, vi 8, vr y3, vr b5, vr b7, us, us] [])) _
 replace V_b5 : Arv Z h7 b5 k5 .int (9 : Int32) (List.map Value.int z9) (.int (0 : Int32)) := V_b5
 have ln_0 : z9.length = 9 := rfl
 refine G (fun t k => XS.iconst X7.here hx rfl (hb hby d5_28) (XS.istore X7.here hx rfl (hb hby d5_29) rfl (l' := #[vr a1, vi 8, vr y3, vr b5, vr b7, vi 0, us]) rfl (XS.iconst X7.here hx rfl (hb hby d5_31) (XS.istore X7.here hx rfl (hb hby d5_32) rfl (l' := #[vr a1, vi 8, vr y3, vr b5, vr b7, vi 0, vi 0]) rfl (XS.iload X7.here hx rfl (hb hby d5_34) rfl (XS.aloadN X7.here hx rfl (hb hby d5_36) rfl rfl k)))))) ?_
 obtain ⟨cl8, Ar8, -, Sz8, Ng8, -, -⟩ := id V_y3
 refine G (fun t k => X7.arraylength hx (by rw [e7]; exact Ar8.1) (State.isArrayOf_alike hZ.alike Ar8.2.1) (g := (mkF m 37 #[vr a1, vi 8, vr y3, vr b5, vr b7, vi 0, vi 0] [(.ref y3), (.int 0)])) rfl rfl (hb hby d5_37) _ k) ?_
 rw [len_of Sz8 Ng8]
 clear Ng8 Sz8 Ar8 cl8
 show Go _ _ _ (T7.setTop (mkF m 38 #[vr a1, vi 8, vr y3, vr b5, vr b7, vi 0, vi 0] [(.int 3), (.int 0)])) _
 refine G (fun t k => XS.icmpNo X7.here hx rfl (hb hby d5_38) rfl (tlt (by decide : (0 : Int32) < (3 : Int32))).2.1 (XS.iload X7.here hx rfl (hb hby d5_41) rfl (XS.ifYes X7.here hx rfl (pc0 := 43) (pc' := 63) rfl (hb hby d5_43) rfl ((if0 _ _).trans (flt (by decide : ¬ ((0 : Int32) < (0 : Int32)))).2.2.2) (by decide) (by decide) (XS.aloadN X7.here hx rfl (hb hby d5_63) rfl rfl (XS.aloadN X7.here hx rfl (hb hby d5_64) rfl rfl (XS.iload X7.here hx rfl (hb hby d5_65) rfl k)))))) ?_
 obtain ⟨cl9, Ar9, -, Sz9, Ng9, Hs9, -⟩ := id V_y3
 have hin9 := inb_of (j := (0 : Int32)) (c := cl9) Sz9 ⟨by decide, by decide⟩
 refine G (fun t k => X7.laload hx (j := (0 : Int32)) (v := (.long (f10_a1_0 t0 t1 t2))) (by rw [e7]; exact Ar9.1) (State.isArrayOf_alike hZ.alike Ar9.2.1) Ar9.2.2 hin9 (Has.at Hs9 hin9 rfl) (g := (mkF m 67 #[vr a1, vi 8, vr y3, vr b5, vr b7, vi 0, vi 0] [(.int 0), (.ref y3), (.ref b5)])) rfl rfl (hb hby d5_67) _ k) ?_
 clear hin9 Hs9 Ng9 Sz9 Ar9 cl9
 show Go _ _ _ (T7.setTop (mkF m 68 #[vr a1, vi 8, vr y3, vr b5, vr b7, vi 0, vi 0] [(.long (f10_a1_0 t0 t1 t2)), (.ref b5)])) _
 refine G (fun t k => XS.bipush X7.here hx rfl (hb hby d5_68) (XS.lushr X7.here hx rfl (hb hby d5_70) rfl (XS.l2i X7.here hx rfl (hb hby d5_71) rfl (XS.iconst X7.here hx rfl (hb hby d5_72) (XS.iadd X7.here hx rfl (hb hby d5_73) rfl k))))) ?_
 show Go _ _ _ (T7.setTop (mkF m 74 #[vr a1, vi 8, vr y3, vr b5, vr b7, vi 0, vi 0] [(.int (((((f10_a1_0 t0 t1 t2).toUInt64 >>> ((32 : Int32) &&& 0x3f).toInt64.toUInt64).toInt64).toInt32) + (1 : Int32))), (.ref b5)])) _
 show Go _ _ _ (T7.setTop (mkF m 74 #[vr a1, vi 8, vr y3, vr b5, vr b7, vi 0, vi 0] [(.int (gi (f10_a1_0 t0 t1 t2))), (.ref b5)])) _
 refine G (fun t k => XT.dup2 X7.here hx rfl (hb hby d5_74) rfl rfl rfl k) ?_
 obtain ⟨cl10, Ar10, -, Sz10, Ng10, Hs10, -⟩ := id V_b5
 have hin10 := inb_of (j := (gi (f10_a1_0 t0 t1 t2))) (c := cl10) Sz10 hb0
 refine G (fun t k => X7.iaload hx (j := (gi (f10_a1_0 t0 t1 t2))) (v := (.int (own_at z9 (gi (f10_a1_0 t0 t1 t2))))) (by rw [e7]; exact Ar10.1) (State.isArrayOf_alike hZ.alike Ar10.2.1) Ar10.2.2 hin10 (Has.at Hs10 hin10 (own_atv z9 (gi (f10_a1_0 t0 t1 t2)))) (g := (mkF m 75 #[vr a1, vi 8, vr y3, vr b5, vr b7, vi 0, vi 0] [(.int (gi (f10_a1_0 t0 t1 t2))), (.ref b5), (.int (gi (f10_a1_0 t0 t1 t2))), (.ref b5)])) rfl rfl (hb hby d5_75) _ k) ?_
 clear hin10 Hs10 Ng10 Sz10 Ar10 cl10
 refine G (fun t k => XS.iconst X7.here hx rfl (hb hby d5_76) (XS.iadd X7.here hx rfl (hb hby d5_77) rfl k)) ?_
 obtain ⟨cl11, Ar11, qq11, Sz11, Ng11, Hs11, Gs11⟩ := id V_b5
 have hin11 := inb_of (j := (gi (f10_a1_0 t0 t1 t2))) (c := cl11) Sz11 hb0
 obtain ⟨T12, h12, X12, e12, W12, st12⟩ := stI X7 hx hZ e7 Ar11 (j := (gi (f10_a1_0 t0 t1 t2))) hin11 (g := (mkF m 78 #[vr a1, vi 8, vr y3, vr b5, vr b7, vi 0, vi 0] [(.int ((own_at z9 (gi (f10_a1_0 t0 t1 t2))) + (1 : Int32))), (.int (gi (f10_a1_0 t0 t1 t2))), (.ref b5)])) rfl rfl (hb hby d5_78)
 refine G st12 ?_
 have N12 := Fr.snoc X12 N4 g_b5
 replace V_y3 := V_y3.other W12 ne_y3_b5
 replace V_b7 := V_b7.other W12 (Ne.symm ne_b5_b7)
 replace Z0 := Nat.le_trans Z0 (Nat.le_of_eq W12.size.symm)
 replace K0 := K0.wr W12 (Or.inr sz_b5)
 replace V_b5 : Arv Z h12 b5 k5 .int (9 : Int32) (List.map Value.int (bump (gi (f10_a1_0 t0 t1 t2)) z9)) (.int (0 : Int32)) := own_mset (Arv.set Ar11 qq11 Sz11 Ng11 Hs11 Gs11 rfl W12 _ rfl (own_mlt ln_0 hb0))
 have ln_12 : ((bump (gi (f10_a1_0 t0 t1 t2)) z9)).length = 9 := lset_len ln_0
 clear hin11 Gs11 Hs11 Ng11 Sz11 qq11 Ar11 cl11
 show Go _ _ _ (T12.setTop (mkF m 79 #[vr a1, vi 8, vr y3, vr b5, vr b7, vi 0, vi 0] [])) _
 obtain ⟨Y13, eY13, lY13, V13q⟩ : ∃ Y, Y = (bump (gi (f10_a1_0 t0 t1 t2)) z9) ∧ Y.length = 9 ∧ Arv Z h12 b5 k5 .int (9 : Int32) (List.map Value.int Y) (.int (0 : Int32)) := ⟨_, rfl, ln_12, V_b5⟩
 replace V_b5 := V13q
 clear ln_12 V13q
 refine G (fun t k => XS.aload X12.here hx rfl (hb hby d5_79) rfl rfl (XS.iload X12.here hx rfl (hb hby d5_81) rfl (XS.iinc X12.here hx rfl (hb hby d5_83) rfl (l' := #[vr a1, vi 8, vr y3, vr b5, vr b7, vi ((0 : Int32) + (1 : Int32)), vi 0]) rfl (XS.aloadN X12.here hx rfl (hb hby d5_86) rfl rfl (XS.iload X12.here hx rfl (hb hby d5_87) rfl k))))) ?_
 obtain ⟨cl14, Ar14, -, Sz14, Ng14, Hs14, -⟩ := id V_y3
 have hin14 := inb_of (j := (0 : Int32)) (c := cl14) Sz14 ⟨by decide, by decide⟩
 refine G (fun t k => X12.laload hx (j := (0 : Int32)) (v := (.long (f10_a1_0 t0 t1 t2))) (by rw [e12]; exact Ar14.1) (State.isArrayOf_alike hZ.alike Ar14.2.1) Ar14.2.2 hin14 (Has.at Hs14 hin14 rfl) (g := (mkF m 89 #[vr a1, vi 8, vr y3, vr b5, vr b7, vi 1, vi 0] [(.int 0), (.ref y3), (.int 0), (.ref b7)])) rfl rfl (hb hby d5_89) _ k) ?_
 clear hin14 Hs14 Ng14 Sz14 Ar14 cl14
 refine G (fun t k => XS.l2i X12.here hx rfl (hb hby d5_90) rfl k) ?_
 show Go _ _ _ (T12.setTop (mkF m 91 #[vr a1, vi 8, vr y3, vr b5, vr b7, vi 1, vi 0] [(.int ((f10_a1_0 t0 t1 t2).toInt32)), (.int 0), (.ref b7)])) _
 obtain ⟨cl15, Ar15, qq15, Sz15, Ng15, Hs15, Gs15⟩ := id V_b7
 have hin15 := inb_of (j := (0 : Int32)) (c := cl15) Sz15 ⟨by decide, by decide⟩
 obtain ⟨T16, h16, X16, e16, W16, st16⟩ := stI X12 hx hZ e12 Ar15 (j := (0 : Int32)) hin15 (g := (mkF m 91 #[vr a1, vi 8, vr y3, vr b5, vr b7, vi 1, vi 0] [(.int ((f10_a1_0 t0 t1 t2).toInt32)), (.int 0), (.ref b7)])) rfl rfl (hb hby d5_91)
 refine G st16 ?_
 have N16 := Fr.snoc X16 N12 g_b7
 obtain ⟨LL16, X16, N16⟩ : ∃ LL, Stand p l e (Rm 4 5 19 84) s m #[(.ref a1), (.int (8 : Int32))] below meth c T16 LL 3 15 ∧ Fr n0 LL := ⟨_, X16, N16⟩
 replace V_y3 := V_y3.other W16 ne_y3_b7
 replace V_b5 := V_b5.other W16 ne_b5_b7
 replace Z0 := Nat.le_trans Z0 (Nat.le_of_eq W16.size.symm)
 replace K0 := K0.wr W16 (Or.inr sz_b7)
 replace V_b7 : Arv Z h16 b7 k7 .int (3 : Int32) [(.int ((f10_a1_0 t0 t1 t2).toInt32)), (.int (0 : Int32)), (.int (0 : Int32))] (.int (0 : Int32)) := Arv.set Ar15 qq15 Sz15 Ng15 Hs15 Gs15 rfl W16 0 rfl (Nat.le_of_ble_eq_true rfl)
 clear hin15 Gs15 Hs15 Ng15 Sz15 qq15 Ar15 cl15
 refine G (fun t k => XS.iinc X16.here hx rfl (hb hby d5_92) rfl (l' := #[vr a1, vi 8, vr y3, vr b5, vr b7, vi 1, vi ((0 : Int32) + (1 : Int32))]) rfl (XS.goto X16.here hx rfl (pc0 := 95) (pc' := 34) rfl (hb hby d5_95) (by decide) (by decide) (XS.iload X16.here hx rfl (hb hby d5_34) rfl (XS.aloadN X16.here hx rfl (hb hby d5_36) rfl rfl k)))) ?_
 obtain ⟨cl17, Ar17, -, Sz17, Ng17, -, -⟩ := id V_y3
 refine G (fun t k => X16.arraylength hx (by rw [e16]; exact Ar17.1) (State.isArrayOf_alike hZ.alike Ar17.2.1) (g := (mkF m 37 #[vr a1, vi 8, vr y3, vr b5, vr b7, vi 1, vi 1] [(.ref y3), (.int 1)])) rfl rfl (hb hby d5_37) _ k) ?_
 rw [len_of Sz17 Ng17]
 clear Ng17 Sz17 Ar17 cl17
 refine G (fun t k => XS.icmpNo X16.here hx rfl (hb hby d5_38) rfl (tlt (by decide : (1 : Int32) < (3 : Int32))).2.1 k) ?_
 show Go _ _ _ (T16.setTop (mkF m 41 #[vr a1, vi 8, vr y3, vr b5, vr b7, vi 1, vi 1] [])) _
 refine G (fun t k => XS.iload X16.here hx rfl (hb hby d5_41) rfl (XS.ifNo X16.here hx rfl (hb hby d5_43) rfl ((if0 _ _).trans (tlt (by decide : (0 : Int32) < (1 : Int32))).2.2.2) (XS.aloadN X16.here hx rfl (hb hby d5_46) rfl rfl (XS.iload X16.here hx rfl (hb hby d5_47) rfl k)))) ?_
 obtain ⟨cl18, Ar18, -, Sz18, Ng18, Hs18, -⟩ := id V_y3
 have hin18 := inb_of (j := (1 : Int32)) (c := cl18) Sz18 ⟨by decide, by decide⟩
 refine G (fun t k => X16.laload hx (j := (1 : Int32)) (v := (.long (f10_a1_1 t0 t1 t2))) (by rw [e16]; exact Ar18.1) (State.isArrayOf_alike hZ.alike Ar18.2.1) Ar18.2.2 hin18 (Has.at Hs18 hin18 rfl) (g := (mkF m 49 #[vr a1, vi 8, vr y3, vr b5, vr b7, vi 1, vi 1] [(.int 1), (.ref y3)])) rfl rfl (hb hby d5_49) _ k) ?_
 clear hin18 Hs18 Ng18 Sz18 Ar18 cl18
 refine G (fun t k => XS.aloadN X16.here hx rfl (hb hby d5_50) rfl rfl (XS.iload X16.here hx rfl (hb hby d5_51) rfl k)) ?_
 show Go _ _ _ (T16.setTop (mkF m 53 #[vr a1, vi 8, vr y3, vr b5, vr b7, vi 1, vi 1] [(.int 1), (.ref y3), (.long (f10_a1_1 t0 t1 t2))])) _
 refine G (fun t k => XS.iconst X16.here hx rfl (hb hby d5_53) (XS.isub X16.here hx rfl (hb hby d5_54) rfl k)) ?_
 obtain ⟨cl19, Ar19, -, Sz19, Ng19, Hs19, -⟩ := id V_y3
 have hin19 := inb_of (j := (0 : Int32)) (c := cl19) Sz19 ⟨by decide, by decide⟩
 refine G (fun t k => X16.laload hx (j := (0 : Int32)) (v := (.long (f10_a1_0 t0 t1 t2))) (by rw [e16]; exact Ar19.1) (State.isArrayOf_alike hZ.alike Ar19.2.1) Ar19.2.2 hin19 (Has.at Hs19 hin19 rfl) (g := (mkF m 55 #[vr a1, vi 8, vr y3, vr b5, vr b7, vi 1, vi 1] [(.int 0), (.ref y3), (.long (f10_a1_1 t0 t1 t2))])) rfl rfl (hb hby d5_55) _ k) ?_
 clear hin19 Hs19 Ng19 Sz19 Ar19 cl19
 refine G (fun t k => XS.lcmp X16.here hx rfl (hb hby d5_56) rfl (XS.ifNo X16.here hx rfl (hb hby d5_57) rfl ((if0 _ _).trans (teq ((lw_eq (f10_a1_1 t0 t1 t2) (f10_a1_0 t0 t1 t2)).mpr (show (f10_a1_1 t0 t1 t2) = (f10_a1_0 t0 t1 t2) from he1))).2) (XS.goto X16.here hx rfl (pc0 := 60) (pc' := 92) rfl (hb hby d5_60) (by decide) (by decide) (XS.iinc X16.here hx rfl (hb hby d5_92) rfl (l' := #[vr a1, vi 8, vr y3, vr b5, vr b7, vi 1, vi ((1 : Int32) + (1 : Int32))]) rfl k)))) ?_
 show Go _ _ _ (T16.setTop (mkF m 95 #[vr a1, vi 8, vr y3, vr b5, vr b7, vi 1, vi 2] [])) _
 refine G (fun t k => XS.goto X16.here hx rfl (pc0 := 95) (pc' := 34) rfl (hb hby d5_95) (by decide) (by decide) (XS.iload X16.here hx rfl (hb hby d5_34) rfl (XS.aloadN X16.here hx rfl (hb hby d5_36) rfl rfl k))) ?_
 obtain ⟨cl20, Ar20, -, Sz20, Ng20, -, -⟩ := id V_y3
 refine G (fun t k => X16.arraylength hx (by rw [e16]; exact Ar20.1) (State.isArrayOf_alike hZ.alike Ar20.2.1) (g := (mkF m 37 #[vr a1, vi 8, vr y3, vr b5, vr b7, vi 1, vi 2] [(.ref y3), (.int 2)])) rfl rfl (hb hby d5_37) _ k) ?_
 rw [len_of Sz20 Ng20]
 clear Ng20 Sz20 Ar20 cl20
 refine G (fun t k => XS.icmpNo X16.here hx rfl (hb hby d5_38) rfl (tlt (by decide : (2 : Int32) < (3 : Int32))).2.1 (XS.iload X16.here hx rfl (hb hby d5_41) rfl (XS.ifNo X16.here hx rfl (hb hby d5_43) rfl ((if0 _ _).trans (tlt (by decide : (0 : Int32) < (2 : Int32))).2.2.2) k))) ?_
 show Go _ _ _ (T16.setTop (mkF m 46 #[vr a1, vi 8, vr y3, vr b5, vr b7, vi 1, vi 2] [])) _
 refine G (fun t k => XS.aloadN X16.here hx rfl (hb hby d5_46) rfl rfl (XS.iload X16.here hx rfl (hb hby d5_47) rfl k)) ?_
 obtain ⟨cl21, Ar21, -, Sz21, Ng21, Hs21, -⟩ := id V_y3
 have hin21 := inb_of (j := (2 : Int32)) (c := cl21) Sz21 ⟨by decide, by decide⟩
 refine G (fun t k => X16.laload hx (j := (2 : Int32)) (v := (.long (f10_a1_2 t0 t1 t2))) (by rw [e16]; exact Ar21.1) (State.isArrayOf_alike hZ.alike Ar21.2.1) Ar21.2.2 hin21 (Has.at Hs21 hin21 rfl) (g := (mkF m 49 #[vr a1, vi 8, vr y3, vr b5, vr b7, vi 1, vi 2] [(.int 2), (.ref y3)])) rfl rfl (hb hby d5_49) _ k) ?_
 clear hin21 Hs21 Ng21 Sz21 Ar21 cl21
 refine G (fun t k => XS.aloadN X16.here hx rfl (hb hby d5_50) rfl rfl (XS.iload X16.here hx rfl (hb hby d5_51) rfl (XS.iconst X16.here hx rfl (hb hby d5_53) (XS.isub X16.here hx rfl (hb hby d5_54) rfl k)))) ?_
 show Go _ _ _ (T16.setTop (mkF m 55 #[vr a1, vi 8, vr y3, vr b5, vr b7, vi 1, vi 2] [(.int 1), (.ref y3), (.long (f10_a1_2 t0 t1 t2))])) _
 obtain ⟨cl22, Ar22, -, Sz22, Ng22, Hs22, -⟩ := id V_y3
 have hin22 := inb_of (j := (1 : Int32)) (c := cl22) Sz22 ⟨by decide, by decide⟩
 refine G (fun t k => X16.laload hx (j := (1 : Int32)) (v := (.long (f10_a1_1 t0 t1 t2))) (by rw [e16]; exact Ar22.1) (State.isArrayOf_alike hZ.alike Ar22.2.1) Ar22.2.2 hin22 (Has.at Hs22 hin22 rfl) (g := (mkF m 55 #[vr a1, vi 8, vr y3, vr b5, vr b7, vi 1, vi 2] [(.int 1), (.ref y3), (.long (f10_a1_2 t0 t1 t2))])) rfl rfl (hb hby d5_55) _ k) ?_
 clear hin22 Hs22 Ng22 Sz22 Ar22 cl22
 refine G (fun t k => XS.lcmp X16.here hx rfl (hb hby d5_56) rfl (XS.ifYes X16.here hx rfl (pc0 := 57) (pc' := 63) rfl (hb hby d5_57) rfl ((if0 _ _).trans (feq (fun z => (show ¬ ((f10_a1_2 t0 t1 t2) = (f10_a1_1 t0 t1 t2)) from he2) ((lw_eq (f10_a1_2 t0 t1 t2) (f10_a1_1 t0 t1 t2)).mp z))).2) (by decide) (by decide) (XS.aloadN X16.here hx rfl (hb hby d5_63) rfl rfl (XS.aloadN X16.here hx rfl (hb hby d5_64) rfl rfl (XS.iload X16.here hx rfl (hb hby d5_65) rfl k))))) ?_
 obtain ⟨cl23, Ar23, -, Sz23, Ng23, Hs23, -⟩ := id V_y3
 have hin23 := inb_of (j := (2 : Int32)) (c := cl23) Sz23 ⟨by decide, by decide⟩
 refine G (fun t k => X16.laload hx (j := (2 : Int32)) (v := (.long (f10_a1_2 t0 t1 t2))) (by rw [e16]; exact Ar23.1) (State.isArrayOf_alike hZ.alike Ar23.2.1) Ar23.2.2 hin23 (Has.at Hs23 hin23 rfl) (g := (mkF m 67 #[vr a1, vi 8, vr y3, vr b5, vr b7, vi 1, vi 2] [(.int 2), (.ref y3), (.ref b5)])) rfl rfl (hb hby d5_67) _ k) ?_
 clear hin23 Hs23 Ng23 Sz23 Ar23 cl23
 show Go _ _ _ (T16.setTop (mkF m 68 #[vr a1, vi 8, vr y3, vr b5, vr b7, vi 1, vi 2] [(.long (f10_a1_2 t0 t1 t2)), (.ref b5)])) _
 refine G (fun t k => XS.bipush X16.here hx rfl (hb hby d5_68) (XS.lushr X16.here hx rfl (hb hby d5_70) rfl (XS.l2i X16.here hx rfl (hb hby d5_71) rfl (XS.iconst X16.here hx rfl (hb hby d5_72) (XS.iadd X16.here hx rfl (hb hby d5_73) rfl k))))) ?_
 show Go _ _ _ (T16.setTop (mkF m 74 #[vr a1, vi 8, vr y3, vr b5, vr b7, vi 1, vi 2] [(.int (((((f10_a1_2 t0 t1 t2).toUInt64 >>> ((32 : Int32) &&& 0x3f).toInt64.toUInt64).toInt64).toInt32) + (1 : Int32))), (.ref b5)])) _
 show Go _ _ _ (T16.setTop (mkF m 74 #[vr a1, vi 8, vr y3, vr b5, vr b7, vi 1, vi 2] [(.int (gi (f10_a1_2 t0 t1 t2))), (.ref b5)])) _
 refine G (fun t k => XT.dup2 X16.here hx rfl (hb hby d5_74) rfl rfl rfl k) ?_
 obtain ⟨cl24, Ar24, -, Sz24, Ng24, Hs24, -⟩ := id V_b5
 have hin24 := inb_of (j := (gi (f10_a1_2 t0 t1 t2))) (c := cl24) Sz24 hb2
 refine G (fun t k => X16.iaload hx (j := (gi (f10_a1_2 t0 t1 t2))) (v := (.int (own_at Y13 (gi (f10_a1_2 t0 t1 t2))))) (by rw [e16]; exact Ar24.1) (State.isArrayOf_alike hZ.alike Ar24.2.1) Ar24.2.2 hin24 (Has.at Hs24 hin24 (own_atv Y13 (gi (f10_a1_2 t0 t1 t2)))) (g := (mkF m 75 #[vr a1, vi 8, vr y3, vr b5, vr b7, vi 1, vi 2] [(.int (gi (f10_a1_2 t0 t1 t2))), (.ref b5), (.int (gi (f10_a1_2 t0 t1 t2))), (.ref b5)])) rfl rfl (hb hby d5_75) _ k) ?_
 clear hin24 Hs24 Ng24 Sz24 Ar24 cl24
 refine G (fun t k => XS.iconst X16.here hx rfl (hb hby d5_76) (XS.iadd X16.here hx rfl (hb hby d5_77) rfl k)) ?_
 obtain ⟨cl25, Ar25, qq25, Sz25, Ng25, Hs25, Gs25⟩ := id V_b5
 have hin25 := inb_of (j := (gi (f10_a1_2 t0 t1 t2))) (c := cl25) Sz25 hb2
 obtain ⟨T26, h26, X26, e26, W26, st26⟩ := stI X16 hx hZ e16 Ar25 (j := (gi (f10_a1_2 t0 t1 t2))) hin25 (g := (mkF m 78 #[vr a1, vi 8, vr y3, vr b5, vr b7, vi 1, vi 2] [(.int ((own_at Y13 (gi (f10_a1_2 t0 t1 t2))) + (1 : Int32))), (.int (gi (f10_a1_2 t0 t1 t2))), (.ref b5)])) rfl rfl (hb hby d5_78)
 refine G st26 ?_
 have N26 := Fr.snoc X26 N16 g_b5
 replace V_y3 := V_y3.other W26 ne_y3_b5
 replace V_b7 := V_b7.other W26 (Ne.symm ne_b5_b7)
 replace Z0 := Nat.le_trans Z0 (Nat.le_of_eq W26.size.symm)
 replace K0 := K0.wr W26 (Or.inr sz_b5)
 replace V_b5 : Arv Z h26 b5 k5 .int (9 : Int32) (List.map Value.int (bump (gi (f10_a1_2 t0 t1 t2)) Y13)) (.int (0 : Int32)) := own_mset (Arv.set Ar25 qq25 Sz25 Ng25 Hs25 Gs25 rfl W26 _ rfl (own_mlt lY13 hb2))
 have ln_26 : ((bump (gi (f10_a1_2 t0 t1 t2)) Y13)).length = 9 := lset_len lY13
 clear hin25 Gs25 Hs25 Ng25 Sz25 qq25 Ar25 cl25
 show Go _ _ _ (T26.setTop (mkF m 79 #[vr a1, vi 8, vr y3, vr b5, vr b7, vi 1, vi 2] [])) _
 obtain ⟨Y27, eY27, lY27, V27q⟩ : ∃ Y, Y = (bump (gi (f10_a1_2 t0 t1 t2)) Y13) ∧ Y.length = 9 ∧ Arv Z h26 b5 k5 .int (9 : Int32) (List.map Value.int Y) (.int (0 : Int32)) := ⟨_, rfl, ln_26, V_b5⟩
 replace V_b5 := V27q
 clear ln_26 V27q
 refine G (fun t k => XS.aload X26.here hx rfl (hb hby d5_79) rfl rfl (XS.iload X26.here hx rfl (hb hby d5_81) rfl (XS.iinc X26.here hx rfl (hb hby d5_83) rfl (l' := #[vr a1, vi 8, vr y3, vr b5, vr b7, vi ((1 : Int32) + (1 : Int32)), vi 2]) rfl (XS.aloadN X26.here hx rfl (hb hby d5_86) rfl rfl (XS.iload X26.here hx rfl (hb hby d5_87) rfl k))))) ?_
 obtain ⟨cl28, Ar28, -, Sz28, Ng28, Hs28, -⟩ := id V_y3
 have hin28 := inb_of (j := (2 : Int32)) (c := cl28) Sz28 ⟨by decide, by decide⟩
 refine G (fun t k => X26.laload hx (j := (2 : Int32)) (v := (.long (f10_a1_2 t0 t1 t2))) (by rw [e26]; exact Ar28.1) (State.isArrayOf_alike hZ.alike Ar28.2.1) Ar28.2.2 hin28 (Has.at Hs28 hin28 rfl) (g := (mkF m 89 #[vr a1, vi 8, vr y3, vr b5, vr b7, vi 2, vi 2] [(.int 2), (.ref y3), (.int 1), (.ref b7)])) rfl rfl (hb hby d5_89) _ k) ?_
 clear hin28 Hs28 Ng28 Sz28 Ar28 cl28
 refine G (fun t k => XS.l2i X26.here hx rfl (hb hby d5_90) rfl k) ?_
 show Go _ _ _ (T26.setTop (mkF m 91 #[vr a1, vi 8, vr y3, vr b5, vr b7, vi 2, vi 2] [(.int ((f10_a1_2 t0 t1 t2).toInt32)), (.int 1), (.ref b7)])) _
 obtain ⟨cl29, Ar29, qq29, Sz29, Ng29, Hs29, Gs29⟩ := id V_b7
 have hin29 := inb_of (j := (1 : Int32)) (c := cl29) Sz29 ⟨by decide, by decide⟩
 obtain ⟨T30, h30, X30, e30, W30, st30⟩ := stI X26 hx hZ e26 Ar29 (j := (1 : Int32)) hin29 (g := (mkF m 91 #[vr a1, vi 8, vr y3, vr b5, vr b7, vi 2, vi 2] [(.int ((f10_a1_2 t0 t1 t2).toInt32)), (.int 1), (.ref b7)])) rfl rfl (hb hby d5_91)
 refine G st30 ?_
 have N30 := Fr.snoc X30 N26 g_b7
 replace V_y3 := V_y3.other W30 ne_y3_b7
 replace V_b5 := V_b5.other W30 ne_b5_b7
 replace Z0 := Nat.le_trans Z0 (Nat.le_of_eq W30.size.symm)
 replace K0 := K0.wr W30 (Or.inr sz_b7)
 replace V_b7 : Arv Z h30 b7 k7 .int (3 : Int32) [(.int ((f10_a1_0 t0 t1 t2).toInt32)), (.int ((f10_a1_2 t0 t1 t2).toInt32)), (.int (0 : Int32))] (.int (0 : Int32)) := Arv.set Ar29 qq29 Sz29 Ng29 Hs29 Gs29 rfl W30 1 rfl (Nat.le_of_ble_eq_true rfl)
 clear hin29 Gs29 Hs29 Ng29 Sz29 qq29 Ar29 cl29
 refine G (fun t k => XS.iinc X30.here hx rfl (hb hby d5_92) rfl (l' := #[vr a1, vi 8, vr y3, vr b5, vr b7, vi 2, vi ((2 : Int32) + (1 : Int32))]) rfl (XS.goto X30.here hx rfl (pc0 := 95) (pc' := 34) rfl (hb hby d5_95) (by decide) (by decide) (XS.iload X30.here hx rfl (hb hby d5_34) rfl (XS.aloadN X30.here hx rfl (hb hby d5_36) rfl rfl k)))) ?_
 obtain ⟨cl31, Ar31, -, Sz31, Ng31, -, -⟩ := id V_y3
 refine G (fun t k => X30.arraylength hx (by rw [e30]; exact Ar31.1) (State.isArrayOf_alike hZ.alike Ar31.2.1) (g := (mkF m 37 #[vr a1, vi 8, vr y3, vr b5, vr b7, vi 2, vi 3] [(.ref y3), (.int 3)])) rfl rfl (hb hby d5_37) _ k) ?_
 rw [len_of Sz31 Ng31]
 clear Ng31 Sz31 Ar31 cl31
 refine G (fun t k => XS.icmpYes X30.here hx rfl (pc0 := 38) (pc' := 98) rfl (hb hby d5_38) rfl (flt (by decide : ¬ ((3 : Int32) < (3 : Int32)))).2.1 (by decide) (by decide) k) ?_
 show Go _ _ _ (T30.setTop (mkF m 98 #[vr a1, vi 8, vr y3, vr b5, vr b7, vi 2, vi 3] [])) _
 refine G (fun t k => XS.iconst X30.here hx rfl (hb hby d5_98) (XS.istore X30.here hx rfl (hb hby d5_99) rfl (l' := #[vr a1, vi 8, vr y3, vr b5, vr b7, vi 2, vi 0]) rfl (XS.iload X30.here hx rfl (hb hby d5_101) rfl (XS.iloadN X30.here hx rfl (hb hby d5_103) rfl (XS.icmpNo X30.here hx rfl (hb hby d5_104) rfl (tlt (by decide : (0 : Int32) < (8 : Int32))).2.1 (XS.aloadN X30.here hx rfl (hb hby d5_107) rfl rfl k)))))) ?_
 refine G (fun t k => XS.iload X30.here hx rfl (hb hby d5_108) rfl k) ?_
 show Go _ _ _ (T30.setTop (mkF m 110 #[vr a1, vi 8, vr y3, vr b5, vr b7, vi 2, vi 0] [(.int 0), (.ref b5)])) _
 refine G (fun t k => XS.iconst X30.here hx rfl (hb hby d5_110) (XS.iadd X30.here hx rfl (hb hby d5_111) rfl (XT.dup2 X30.here hx rfl (hb hby d5_112) rfl rfl rfl k))) ?_
 obtain ⟨cl32, Ar32, -, Sz32, Ng32, Hs32, -⟩ := id V_b5
 have hin32 := inb_of (j := (1 : Int32)) (c := cl32) Sz32 ⟨by decide, by decide⟩
 refine G (fun t k => X30.iaload hx (j := (1 : Int32)) (v := (.int (own_at Y27 (1 : Int32)))) (by rw [e30]; exact Ar32.1) (State.isArrayOf_alike hZ.alike Ar32.2.1) Ar32.2.2 hin32 (Has.at Hs32 hin32 (own_atv Y27 (1 : Int32))) (g := (mkF m 113 #[vr a1, vi 8, vr y3, vr b5, vr b7, vi 2, vi 0] [(.int 1), (.ref b5), (.int 1), (.ref b5)])) rfl rfl (hb hby d5_113) _ k) ?_
 clear hin32 Hs32 Ng32 Sz32 Ar32 cl32
 refine G (fun t k => XS.aloadN X30.here hx rfl (hb hby d5_114) rfl rfl (XS.iload X30.here hx rfl (hb hby d5_115) rfl k)) ?_
 obtain ⟨cl33, Ar33, -, Sz33, Ng33, Hs33, -⟩ := id V_b5
 have hin33 := inb_of (j := (0 : Int32)) (c := cl33) Sz33 ⟨by decide, by decide⟩
 refine G (fun t k => X30.iaload hx (j := (0 : Int32)) (v := (.int (own_at Y27 (0 : Int32)))) (by rw [e30]; exact Ar33.1) (State.isArrayOf_alike hZ.alike Ar33.2.1) Ar33.2.2 hin33 (Has.at Hs33 hin33 (own_atv Y27 (0 : Int32))) (g := (mkF m 117 #[vr a1, vi 8, vr y3, vr b5, vr b7, vi 2, vi 0] [(.int 0), (.ref b5), (.int (own_at Y27 (1 : Int32))), (.int 1), (.ref b5)])) rfl rfl (hb hby d5_117) _ k) ?_
 clear hin33 Hs33 Ng33 Sz33 Ar33 cl33
 show Go _ _ _ (T30.setTop (mkF m 118 #[vr a1, vi 8, vr y3, vr b5, vr b7, vi 2, vi 0] [(.int (own_at Y27 (0 : Int32))), (.int (own_at Y27 (1 : Int32))), (.int 1), (.ref b5)])) _
 refine G (fun t k => XS.iadd X30.here hx rfl (hb hby d5_118) rfl k) ?_
 obtain ⟨cl34, Ar34, qq34, Sz34, Ng34, Hs34, Gs34⟩ := id V_b5
 have hin34 := inb_of (j := (1 : Int32)) (c := cl34) Sz34 ⟨by decide, by decide⟩
 obtain ⟨T35, h35, X35, e35, W35, st35⟩ := stI X30 hx hZ e30 Ar34 (j := (1 : Int32)) hin34 (g := (mkF m 119 #[vr a1, vi 8, vr y3, vr b5, vr b7, vi 2, vi 0] [(.int ((own_at Y27 (1 : Int32)) + (own_at Y27 (0 : Int32)))), (.int 1), (.ref b5)])) rfl rfl (hb hby d5_119)
 refine G st35 ?_
 have N35 := Fr.snoc X35 N30 g_b5
 replace V_b7 := V_b7.other W35 (Ne.symm ne_b5_b7)
 replace Z0 := Nat.le_trans Z0 (Nat.le_of_eq W35.size.symm)
 replace K0 := K0.wr W35 (Or.inr sz_b5)
 replace V_b5 : Arv Z h35 b5 k5 .int (9 : Int32) (List.map Value.int (pre (1 : Int32) (0 : Int32) Y27)) (.int (0 : Int32)) := own_mset (Arv.set Ar34 qq34 Sz34 Ng34 Hs34 Gs34 rfl W35 _ rfl (own_mlt lY27 ⟨by decide, by decide⟩))
 have ln_35 : ((pre (1 : Int32) (0 : Int32) Y27)).length = 9 := lset_len lY27
 clear hin34 Gs34 Hs34 Ng34 Sz34 qq34 Ar34 cl34
 show Go _ _ _ (T35.setTop (mkF m 120 #[vr a1, vi 8, vr y3, vr b5, vr b7, vi 2, vi 0] [])) _
 obtain ⟨Y36, eY36, lY36, V36q⟩ : ∃ Y, Y = (pre (1 : Int32) (0 : Int32) Y27) ∧ Y.length = 9 ∧ Arv Z h35 b5 k5 .int (9 : Int32) (List.map Value.int Y) (.int (0 : Int32)) := ⟨_, rfl, ln_35, V_b5⟩
 replace V_b5 := V36q
 clear ln_35 V36q
 refine G (fun t k => XS.iinc X35.here hx rfl (hb hby d5_120) rfl (l' := #[vr a1, vi 8, vr y3, vr b5, vr b7, vi 2, vi ((0 : Int32) + (1 : Int32))]) rfl (XS.goto X35.here hx rfl (pc0 := 123) (pc' := 101) rfl (hb hby d5_123) (by decide) (by decide) (XS.iload X35.here hx rfl (hb hby d5_101) rfl (XS.iloadN X35.here hx rfl (hb hby d5_103) rfl (XS.icmpNo X35.here hx rfl (hb hby d5_104) rfl (tlt (by decide : (1 : Int32) < (8 : Int32))).2.1 (XS.aloadN X35.here hx rfl (hb hby d5_107) rfl rfl k)))))) ?_
 refine G (fun t k => XS.iload X35.here hx rfl (hb hby d5_108) rfl k) ?_
 show Go _ _ _ (T35.setTop (mkF m 110 #[vr a1, vi 8, vr y3, vr b5, vr b7, vi 2, vi 1] [(.int 1), (.ref b5)])) _
 refine G (fun t k => XS.iconst X35.here hx rfl (hb hby d5_110) (XS.iadd X35.here hx rfl (hb hby d5_111) rfl (XT.dup2 X35.here hx rfl (hb hby d5_112) rfl rfl rfl k))) ?_
 obtain ⟨cl37, Ar37, -, Sz37, Ng37, Hs37, -⟩ := id V_b5
 have hin37 := inb_of (j := (2 : Int32)) (c := cl37) Sz37 ⟨by decide, by decide⟩
 refine G (fun t k => X35.iaload hx (j := (2 : Int32)) (v := (.int (own_at Y36 (2 : Int32)))) (by rw [e35]; exact Ar37.1) (State.isArrayOf_alike hZ.alike Ar37.2.1) Ar37.2.2 hin37 (Has.at Hs37 hin37 (own_atv Y36 (2 : Int32))) (g := (mkF m 113 #[vr a1, vi 8, vr y3, vr b5, vr b7, vi 2, vi 1] [(.int 2), (.ref b5), (.int 2), (.ref b5)])) rfl rfl (hb hby d5_113) _ k) ?_
 clear hin37 Hs37 Ng37 Sz37 Ar37 cl37
 refine G (fun t k => XS.aloadN X35.here hx rfl (hb hby d5_114) rfl rfl (XS.iload X35.here hx rfl (hb hby d5_115) rfl k)) ?_
 obtain ⟨cl38, Ar38, -, Sz38, Ng38, Hs38, -⟩ := id V_b5
 have hin38 := inb_of (j := (1 : Int32)) (c := cl38) Sz38 ⟨by decide, by decide⟩
 refine G (fun t k => X35.iaload hx (j := (1 : Int32)) (v := (.int (own_at Y36 (1 : Int32)))) (by rw [e35]; exact Ar38.1) (State.isArrayOf_alike hZ.alike Ar38.2.1) Ar38.2.2 hin38 (Has.at Hs38 hin38 (own_atv Y36 (1 : Int32))) (g := (mkF m 117 #[vr a1, vi 8, vr y3, vr b5, vr b7, vi 2, vi 1] [(.int 1), (.ref b5), (.int (own_at Y36 (2 : Int32))), (.int 2), (.ref b5)])) rfl rfl (hb hby d5_117) _ k) ?_
 clear hin38 Hs38 Ng38 Sz38 Ar38 cl38
 show Go _ _ _ (T35.setTop (mkF m 118 #[vr a1, vi 8, vr y3, vr b5, vr b7, vi 2, vi 1] [(.int (own_at Y36 (1 : Int32))), (.int (own_at Y36 (2 : Int32))), (.int 2), (.ref b5)])) _
 refine G (fun t k => XS.iadd X35.here hx rfl (hb hby d5_118) rfl k) ?_
 obtain ⟨cl39, Ar39, qq39, Sz39, Ng39, Hs39, Gs39⟩ := id V_b5
 have hin39 := inb_of (j := (2 : Int32)) (c := cl39) Sz39 ⟨by decide, by decide⟩
 obtain ⟨T40, h40, X40, e40, W40, st40⟩ := stI X35 hx hZ e35 Ar39 (j := (2 : Int32)) hin39 (g := (mkF m 119 #[vr a1, vi 8, vr y3, vr b5, vr b7, vi 2, vi 1] [(.int ((own_at Y36 (2 : Int32)) + (own_at Y36 (1 : Int32)))), (.int 2), (.ref b5)])) rfl rfl (hb hby d5_119)
 refine G st40 ?_
 have N40 := Fr.snoc X40 N35 g_b5
 obtain ⟨LL40, X40, N40⟩ : ∃ LL, Stand p l e (Rm 4 5 19 84) s m #[(.ref a1), (.int (8 : Int32))] below meth c T40 LL 3 15 ∧ Fr n0 LL := ⟨_, X40, N40⟩
 replace V_b7 := V_b7.other W40 (Ne.symm ne_b5_b7)
 replace Z0 := Nat.le_trans Z0 (Nat.le_of_eq W40.size.symm)
 replace K0 := K0.wr W40 (Or.inr sz_b5)
 replace V_b5 : Arv Z h40 b5 k5 .int (9 : Int32) (List.map Value.int (pre (2 : Int32) (1 : Int32) Y36)) (.int (0 : Int32)) := own_mset (Arv.set Ar39 qq39 Sz39 Ng39 Hs39 Gs39 rfl W40 _ rfl (own_mlt lY36 ⟨by decide, by decide⟩))
 have ln_40 : ((pre (2 : Int32) (1 : Int32) Y36)).length = 9 := lset_len lY36
 clear hin39 Gs39 Hs39 Ng39 Sz39 qq39 Ar39 cl39
 show Go _ _ _ (T40.setTop (mkF m 120 #[vr a1, vi 8, vr y3, vr b5, vr b7, vi 2, vi 1] [])) _
 obtain ⟨Y41, eY41, lY41, V41q⟩ : ∃ Y, Y = (pre (2 : Int32) (1 : Int32) Y36) ∧ Y.length = 9 ∧ Arv Z h40 b5 k5 .int (9 : Int32) (List.map Value.int Y) (.int (0 : Int32)) := ⟨_, rfl, ln_40, V_b5⟩
 replace V_b5 := V41q
 clear ln_40 V41q
 refine G (fun t k => XS.iinc X40.here hx rfl (hb hby d5_120) rfl (l' := #[vr a1, vi 8, vr y3, vr b5, vr b7, vi 2, vi ((1 : Int32) + (1 : Int32))]) rfl (XS.goto X40.here hx rfl (pc0 := 123) (pc' := 101) rfl (hb hby d5_123) (by decide) (by decide) (XS.iload X40.here hx rfl (hb hby d5_101) rfl (XS.iloadN X40.here hx rfl (hb hby d5_103) rfl (XS.icmpNo X40.here hx rfl (hb hby d5_104) rfl (tlt (by decide : (2 : Int32) < (8 : Int32))).2.1 (XS.aloadN X40.here hx rfl (hb hby d5_107) rfl rfl k)))))) ?_
 refine G (fun t k => XS.iload X40.here hx rfl (hb hby d5_108) rfl k) ?_
 show Go _ _ _ (T40.setTop (mkF m 110 #[vr a1, vi 8, vr y3, vr b5, vr b7, vi 2, vi 2] [(.int 2), (.ref b5)])) _
 refine G (fun t k => XS.iconst X40.here hx rfl (hb hby d5_110) (XS.iadd X40.here hx rfl (hb hby d5_111) rfl (XT.dup2 X40.here hx rfl (hb hby d5_112) rfl rfl rfl k))) ?_
 obtain ⟨cl42, Ar42, -, Sz42, Ng42, Hs42, -⟩ := id V_b5
 have hin42 := inb_of (j := (3 : Int32)) (c := cl42) Sz42 ⟨by decide, by decide⟩
 refine G (fun t k => X40.iaload hx (j := (3 : Int32)) (v := (.int (own_at Y41 (3 : Int32)))) (by rw [e40]; exact Ar42.1) (State.isArrayOf_alike hZ.alike Ar42.2.1) Ar42.2.2 hin42 (Has.at Hs42 hin42 (own_atv Y41 (3 : Int32))) (g := (mkF m 113 #[vr a1, vi 8, vr y3, vr b5, vr b7, vi 2, vi 2] [(.int 3), (.ref b5), (.int 3), (.ref b5)])) rfl rfl (hb hby d5_113) _ k) ?_
 clear hin42 Hs42 Ng42 Sz42 Ar42 cl42
 refine G (fun t k => XS.aloadN X40.here hx rfl (hb hby d5_114) rfl rfl (XS.iload X40.here hx rfl (hb hby d5_115) rfl k)) ?_
 obtain ⟨cl43, Ar43, -, Sz43, Ng43, Hs43, -⟩ := id V_b5
 have hin43 := inb_of (j := (2 : Int32)) (c := cl43) Sz43 ⟨by decide, by decide⟩
 refine G (fun t k => X40.iaload hx (j := (2 : Int32)) (v := (.int (own_at Y41 (2 : Int32)))) (by rw [e40]; exact Ar43.1) (State.isArrayOf_alike hZ.alike Ar43.2.1) Ar43.2.2 hin43 (Has.at Hs43 hin43 (own_atv Y41 (2 : Int32))) (g := (mkF m 117 #[vr a1, vi 8, vr y3, vr b5, vr b7, vi 2, vi 2] [(.int 2), (.ref b5), (.int (own_at Y41 (3 : Int32))), (.int 3), (.ref b5)])) rfl rfl (hb hby d5_117) _ k) ?_
 clear hin43 Hs43 Ng43 Sz43 Ar43 cl43
 show Go _ _ _ (T40.setTop (mkF m 118 #[vr a1, vi 8, vr y3, vr b5, vr b7, vi 2, vi 2] [(.int (own_at Y41 (2 : Int32))), (.int (own_at Y41 (3 : Int32))), (.int 3), (.ref b5)])) _
 refine G (fun t k => XS.iadd X40.here hx rfl (hb hby d5_118) rfl k) ?_
 obtain ⟨cl44, Ar44, qq44, Sz44, Ng44, Hs44, Gs44⟩ := id V_b5
 have hin44 := inb_of (j := (3 : Int32)) (c := cl44) Sz44 ⟨by decide, by decide⟩
 obtain ⟨T45, h45, X45, e45, W45, st45⟩ := stI X40 hx hZ e40 Ar44 (j := (3 : Int32)) hin44 (g := (mkF m 119 #[vr a1, vi 8, vr y3, vr b5, vr b7, vi 2, vi 2] [(.int ((own_at Y41 (3 : Int32)) + (own_at Y41 (2 : Int32)))), (.int 3), (.ref b5)])) rfl rfl (hb hby d5_119)
 refine G st45 ?_
 have N45 := Fr.snoc X45 N40 g_b5
 replace V_b7 := V_b7.other W45 (Ne.symm ne_b5_b7)
 replace Z0 := Nat.le_trans Z0 (Nat.le_of_eq W45.size.symm)
 replace K0 := K0.wr W45 (Or.inr sz_b5)
 replace V_b5 : Arv Z h45 b5 k5 .int (9 : Int32) (List.map Value.int (pre (3 : Int32) (2 : Int32) Y41)) (.int (0 : Int32)) := own_mset (Arv.set Ar44 qq44 Sz44 Ng44 Hs44 Gs44 rfl W45 _ rfl (own_mlt lY41 ⟨by decide, by decide⟩))
 have ln_45 : ((pre (3 : Int32) (2 : Int32) Y41)).length = 9 := lset_len lY41
 clear hin44 Gs44 Hs44 Ng44 Sz44 qq44 Ar44 cl44
 show Go _ _ _ (T45.setTop (mkF m 120 #[vr a1, vi 8, vr y3, vr b5, vr b7, vi 2, vi 2] [])) _
 obtain ⟨Y46, eY46, lY46, V46q⟩ : ∃ Y, Y = (pre (3 : Int32) (2 : Int32) Y41) ∧ Y.length = 9 ∧ Arv Z h45 b5 k5 .int (9 : Int32) (List.map Value.int Y) (.int (0 : Int32)) := ⟨_, rfl, ln_45, V_b5⟩
 replace V_b5 := V46q
 clear ln_45 V46q
 refine G (fun t k => XS.iinc X45.here hx rfl (hb hby d5_120) rfl (l' := #[vr a1, vi 8, vr y3, vr b5, vr b7, vi 2, vi ((2 : Int32) + (1 : Int32))]) rfl (XS.goto X45.here hx rfl (pc0 := 123) (pc' := 101) rfl (hb hby d5_123) (by decide) (by decide) (XS.iload X45.here hx rfl (hb hby d5_101) rfl (XS.iloadN X45.here hx rfl (hb hby d5_103) rfl (XS.icmpNo X45.here hx rfl (hb hby d5_104) rfl (tlt (by decide : (3 : Int32) < (8 : Int32))).2.1 (XS.aloadN X45.here hx rfl (hb hby d5_107) rfl rfl k)))))) ?_
 refine G (fun t k => XS.iload X45.here hx rfl (hb hby d5_108) rfl k) ?_
 show Go _ _ _ (T45.setTop (mkF m 110 #[vr a1, vi 8, vr y3, vr b5, vr b7, vi 2, vi 3] [(.int 3), (.ref b5)])) _
 refine G (fun t k => XS.iconst X45.here hx rfl (hb hby d5_110) (XS.iadd X45.here hx rfl (hb hby d5_111) rfl (XT.dup2 X45.here hx rfl (hb hby d5_112) rfl rfl rfl k))) ?_
 obtain ⟨cl47, Ar47, -, Sz47, Ng47, Hs47, -⟩ := id V_b5
 have hin47 := inb_of (j := (4 : Int32)) (c := cl47) Sz47 ⟨by decide, by decide⟩
 refine G (fun t k => X45.iaload hx (j := (4 : Int32)) (v := (.int (own_at Y46 (4 : Int32)))) (by rw [e45]; exact Ar47.1) (State.isArrayOf_alike hZ.alike Ar47.2.1) Ar47.2.2 hin47 (Has.at Hs47 hin47 (own_atv Y46 (4 : Int32))) (g := (mkF m 113 #[vr a1, vi 8, vr y3, vr b5, vr b7, vi 2, vi 3] [(.int 4), (.ref b5), (.int 4), (.ref b5)])) rfl rfl (hb hby d5_113) _ k) ?_
 clear hin47 Hs47 Ng47 Sz47 Ar47 cl47
 refine G (fun t k => XS.aloadN X45.here hx rfl (hb hby d5_114) rfl rfl (XS.iload X45.here hx rfl (hb hby d5_115) rfl k)) ?_
 obtain ⟨cl48, Ar48, -, Sz48, Ng48, Hs48, -⟩ := id V_b5
 have hin48 := inb_of (j := (3 : Int32)) (c := cl48) Sz48 ⟨by decide, by decide⟩
 refine G (fun t k => X45.iaload hx (j := (3 : Int32)) (v := (.int (own_at Y46 (3 : Int32)))) (by rw [e45]; exact Ar48.1) (State.isArrayOf_alike hZ.alike Ar48.2.1) Ar48.2.2 hin48 (Has.at Hs48 hin48 (own_atv Y46 (3 : Int32))) (g := (mkF m 117 #[vr a1, vi 8, vr y3, vr b5, vr b7, vi 2, vi 3] [(.int 3), (.ref b5), (.int (own_at Y46 (4 : Int32))), (.int 4), (.ref b5)])) rfl rfl (hb hby d5_117) _ k) ?_
 clear hin48 Hs48 Ng48 Sz48 Ar48 cl48
 show Go _ _ _ (T45.setTop (mkF m 118 #[vr a1, vi 8, vr y3, vr b5, vr b7, vi 2, vi 3] [(.int (own_at Y46 (3 : Int32))), (.int (own_at Y46 (4 : Int32))), (.int 4), (.ref b5)])) _
 refine G (fun t k => XS.iadd X45.here hx rfl (hb hby d5_118) rfl k) ?_
 obtain ⟨cl49, Ar49, qq49, Sz49, Ng49, Hs49, Gs49⟩ := id V_b5
 have hin49 := inb_of (j := (4 : Int32)) (c := cl49) Sz49 ⟨by decide, by decide⟩
 obtain ⟨T50, h50, X50, e50, W50, st50⟩ := stI X45 hx hZ e45 Ar49 (j := (4 : Int32)) hin49 (g := (mkF m 119 #[vr a1, vi 8, vr y3, vr b5, vr b7, vi 2, vi 3] [(.int ((own_at Y46 (4 : Int32)) + (own_at Y46 (3 : Int32)))), (.int 4), (.ref b5)])) rfl rfl (hb hby d5_119)
 refine G st50 ?_
 have N50 := Fr.snoc X50 N45 g_b5
 replace V_b7 := V_b7.other W50 (Ne.symm ne_b5_b7)
 replace Z0 := Nat.le_trans Z0 (Nat.le_of_eq W50.size.symm)
 replace K0 := K0.wr W50 (Or.inr sz_b5)
 replace V_b5 : Arv Z h50 b5 k5 .int (9 : Int32) (List.map Value.int (pre (4 : Int32) (3 : Int32) Y46)) (.int (0 : Int32)) := own_mset (Arv.set Ar49 qq49 Sz49 Ng49 Hs49 Gs49 rfl W50 _ rfl (own_mlt lY46 ⟨by decide, by decide⟩))
 have ln_50 : ((pre (4 : Int32) (3 : Int32) Y46)).length = 9 := lset_len lY46
 clear hin49 Gs49 Hs49 Ng49 Sz49 qq49 Ar49 cl49
 show Go _ _ _ (T50.setTop (mkF m 120 #[vr a1, vi 8, vr y3, vr b5, vr b7, vi 2, vi 3] [])) _
 obtain ⟨Y51, eY51, lY51, V51q⟩ : ∃ Y, Y = (pre (4 : Int32) (3 : Int32) Y46) ∧ Y.length = 9 ∧ Arv Z h50 b5 k5 .int (9 : Int32) (List.map Value.int Y) (.int (0 : Int32)) := ⟨_, rfl, ln_50, V_b5⟩
 replace V_b5 := V51q
 clear ln_50 V51q
 refine G (fun t k => XS.iinc X50.here hx rfl (hb hby d5_120) rfl (l' := #[vr a1, vi 8, vr y3, vr b5, vr b7, vi 2, vi ((3 : Int32) + (1 : Int32))]) rfl (XS.goto X50.here hx rfl (pc0 := 123) (pc' := 101) rfl (hb hby d5_123) (by decide) (by decide) (XS.iload X50.here hx rfl (hb hby d5_101) rfl (XS.iloadN X50.here hx rfl (hb hby d5_103) rfl (XS.icmpNo X50.here hx rfl (hb hby d5_104) rfl (tlt (by decide : (4 : Int32) < (8 : Int32))).2.1 (XS.aloadN X50.here hx rfl (hb hby d5_107) rfl rfl k)))))) ?_
 refine G (fun t k => XS.iload X50.here hx rfl (hb hby d5_108) rfl k) ?_
 show Go _ _ _ (T50.setTop (mkF m 110 #[vr a1, vi 8, vr y3, vr b5, vr b7, vi 2, vi 4] [(.int 4), (.ref b5)])) _
 refine G (fun t k => XS.iconst X50.here hx rfl (hb hby d5_110) (XS.iadd X50.here hx rfl (hb hby d5_111) rfl (XT.dup2 X50.here hx rfl (hb hby d5_112) rfl rfl rfl k))) ?_
 obtain ⟨cl52, Ar52, -, Sz52, Ng52, Hs52, -⟩ := id V_b5
 have hin52 := inb_of (j := (5 : Int32)) (c := cl52) Sz52 ⟨by decide, by decide⟩
 refine G (fun t k => X50.iaload hx (j := (5 : Int32)) (v := (.int (own_at Y51 (5 : Int32)))) (by rw [e50]; exact Ar52.1) (State.isArrayOf_alike hZ.alike Ar52.2.1) Ar52.2.2 hin52 (Has.at Hs52 hin52 (own_atv Y51 (5 : Int32))) (g := (mkF m 113 #[vr a1, vi 8, vr y3, vr b5, vr b7, vi 2, vi 4] [(.int 5), (.ref b5), (.int 5), (.ref b5)])) rfl rfl (hb hby d5_113) _ k) ?_
 clear hin52 Hs52 Ng52 Sz52 Ar52 cl52
 refine G (fun t k => XS.aloadN X50.here hx rfl (hb hby d5_114) rfl rfl (XS.iload X50.here hx rfl (hb hby d5_115) rfl k)) ?_
 obtain ⟨cl53, Ar53, -, Sz53, Ng53, Hs53, -⟩ := id V_b5
 have hin53 := inb_of (j := (4 : Int32)) (c := cl53) Sz53 ⟨by decide, by decide⟩
 refine G (fun t k => X50.iaload hx (j := (4 : Int32)) (v := (.int (own_at Y51 (4 : Int32)))) (by rw [e50]; exact Ar53.1) (State.isArrayOf_alike hZ.alike Ar53.2.1) Ar53.2.2 hin53 (Has.at Hs53 hin53 (own_atv Y51 (4 : Int32))) (g := (mkF m 117 #[vr a1, vi 8, vr y3, vr b5, vr b7, vi 2, vi 4] [(.int 4), (.ref b5), (.int (own_at Y51 (5 : Int32))), (.int 5), (.ref b5)])) rfl rfl (hb hby d5_117) _ k) ?_
 clear hin53 Hs53 Ng53 Sz53 Ar53 cl53
 show Go _ _ _ (T50.setTop (mkF m 118 #[vr a1, vi 8, vr y3, vr b5, vr b7, vi 2, vi 4] [(.int (own_at Y51 (4 : Int32))), (.int (own_at Y51 (5 : Int32))), (.int 5), (.ref b5)])) _
 refine G (fun t k => XS.iadd X50.here hx rfl (hb hby d5_118) rfl k) ?_
 obtain ⟨cl54, Ar54, qq54, Sz54, Ng54, Hs54, Gs54⟩ := id V_b5
 have hin54 := inb_of (j := (5 : Int32)) (c := cl54) Sz54 ⟨by decide, by decide⟩
 obtain ⟨T55, h55, X55, e55, W55, st55⟩ := stI X50 hx hZ e50 Ar54 (j := (5 : Int32)) hin54 (g := (mkF m 119 #[vr a1, vi 8, vr y3, vr b5, vr b7, vi 2, vi 4] [(.int ((own_at Y51 (5 : Int32)) + (own_at Y51 (4 : Int32)))), (.int 5), (.ref b5)])) rfl rfl (hb hby d5_119)
 refine G st55 ?_
 have N55 := Fr.snoc X55 N50 g_b5
 replace V_b7 := V_b7.other W55 (Ne.symm ne_b5_b7)
 replace Z0 := Nat.le_trans Z0 (Nat.le_of_eq W55.size.symm)
 replace K0 := K0.wr W55 (Or.inr sz_b5)
 replace V_b5 : Arv Z h55 b5 k5 .int (9 : Int32) (List.map Value.int (pre (5 : Int32) (4 : Int32) Y51)) (.int (0 : Int32)) := own_mset (Arv.set Ar54 qq54 Sz54 Ng54 Hs54 Gs54 rfl W55 _ rfl (own_mlt lY51 ⟨by decide, by decide⟩))
 have ln_55 : ((pre (5 : Int32) (4 : Int32) Y51)).length = 9 := lset_len lY51
 clear hin54 Gs54 Hs54 Ng54 Sz54 qq54 Ar54 cl54
 show Go _ _ _ (T55.setTop (mkF m 120 #[vr a1, vi 8, vr y3, vr b5, vr b7, vi 2, vi 4] [])) _
 obtain ⟨Y56, eY56, lY56, V56q⟩ : ∃ Y, Y = (pre (5 : Int32) (4 : Int32) Y51) ∧ Y.length = 9 ∧ Arv Z h55 b5 k5 .int (9 : Int32) (List.map Value.int Y) (.int (0 : Int32)) := ⟨_, rfl, ln_55, V_b5⟩
 replace V_b5 := V56q
 clear ln_55 V56q
 refine G (fun t k => XS.iinc X55.here hx rfl (hb hby d5_120) rfl (l' := #[vr a1, vi 8, vr y3, vr b5, vr b7, vi 2, vi ((4 : Int32) + (1 : Int32))]) rfl (XS.goto X55.here hx rfl (pc0 := 123) (pc' := 101) rfl (hb hby d5_123) (by decide) (by decide) (XS.iload X55.here hx rfl (hb hby d5_101) rfl (XS.iloadN X55.here hx rfl (hb hby d5_103) rfl (XS.icmpNo X55.here hx rfl (hb hby d5_104) rfl (tlt (by decide : (5 : Int32) < (8 : Int32))).2.1 (XS.aloadN X55.here hx rfl (hb hby d5_107) rfl rfl k)))))) ?_
 refine G (fun t k => XS.iload X55.here hx rfl (hb hby d5_108) rfl k) ?_
 show Go _ _ _ (T55.setTop (mkF m 110 #[vr a1, vi 8, vr y3, vr b5, vr b7, vi 2, vi 5] [(.int 5), (.ref b5)])) _
 refine G (fun t k => XS.iconst X55.here hx rfl (hb hby d5_110) (XS.iadd X55.here hx rfl (hb hby d5_111) rfl (XT.dup2 X55.here hx rfl (hb hby d5_112) rfl rfl rfl k))) ?_
 obtain ⟨cl57, Ar57, -, Sz57, Ng57, Hs57, -⟩ := id V_b5
 have hin57 := inb_of (j := (6 : Int32)) (c := cl57) Sz57 ⟨by decide, by decide⟩
 refine G (fun t k => X55.iaload hx (j := (6 : Int32)) (v := (.int (own_at Y56 (6 : Int32)))) (by rw [e55]; exact Ar57.1) (State.isArrayOf_alike hZ.alike Ar57.2.1) Ar57.2.2 hin57 (Has.at Hs57 hin57 (own_atv Y56 (6 : Int32))) (g := (mkF m 113 #[vr a1, vi 8, vr y3, vr b5, vr b7, vi 2, vi 5] [(.int 6), (.ref b5), (.int 6), (.ref b5)])) rfl rfl (hb hby d5_113) _ k) ?_
 clear hin57 Hs57 Ng57 Sz57 Ar57 cl57
 refine G (fun t k => XS.aloadN X55.here hx rfl (hb hby d5_114) rfl rfl (XS.iload X55.here hx rfl (hb hby d5_115) rfl k)) ?_
 obtain ⟨cl58, Ar58, -, Sz58, Ng58, Hs58, -⟩ := id V_b5
 have hin58 := inb_of (j := (5 : Int32)) (c := cl58) Sz58 ⟨by decide, by decide⟩
 refine G (fun t k => X55.iaload hx (j := (5 : Int32)) (v := (.int (own_at Y56 (5 : Int32)))) (by rw [e55]; exact Ar58.1) (State.isArrayOf_alike hZ.alike Ar58.2.1) Ar58.2.2 hin58 (Has.at Hs58 hin58 (own_atv Y56 (5 : Int32))) (g := (mkF m 117 #[vr a1, vi 8, vr y3, vr b5, vr b7, vi 2, vi 5] [(.int 5), (.ref b5), (.int (own_at Y56 (6 : Int32))), (.int 6), (.ref b5)])) rfl rfl (hb hby d5_117) _ k) ?_
 clear hin58 Hs58 Ng58 Sz58 Ar58 cl58
 show Go _ _ _ (T55.setTop (mkF m 118 #[vr a1, vi 8, vr y3, vr b5, vr b7, vi 2, vi 5] [(.int (own_at Y56 (5 : Int32))), (.int (own_at Y56 (6 : Int32))), (.int 6), (.ref b5)])) _
 refine G (fun t k => XS.iadd X55.here hx rfl (hb hby d5_118) rfl k) ?_
 obtain ⟨cl59, Ar59, qq59, Sz59, Ng59, Hs59, Gs59⟩ := id V_b5
 have hin59 := inb_of (j := (6 : Int32)) (c := cl59) Sz59 ⟨by decide, by decide⟩
 obtain ⟨T60, h60, X60, e60, W60, st60⟩ := stI X55 hx hZ e55 Ar59 (j := (6 : Int32)) hin59 (g := (mkF m 119 #[vr a1, vi 8, vr y3, vr b5, vr b7, vi 2, vi 5] [(.int ((own_at Y56 (6 : Int32)) + (own_at Y56 (5 : Int32)))), (.int 6), (.ref b5)])) rfl rfl (hb hby d5_119)
 refine G st60 ?_
 have N60 := Fr.snoc X60 N55 g_b5
 obtain ⟨LL60, X60, N60⟩ : ∃ LL, Stand p l e (Rm 4 5 19 84) s m #[(.ref a1), (.int (8 : Int32))] below meth c T60 LL 3 15 ∧ Fr n0 LL := ⟨_, X60, N60⟩
 replace V_b7 := V_b7.other W60 (Ne.symm ne_b5_b7)
 replace Z0 := Nat.le_trans Z0 (Nat.le_of_eq W60.size.symm)
 replace K0 := K0.wr W60 (Or.inr sz_b5)
 replace V_b5 : Arv Z h60 b5 k5 .int (9 : Int32) (List.map Value.int (pre (6 : Int32) (5 : Int32) Y56)) (.int (0 : Int32)) := own_mset (Arv.set Ar59 qq59 Sz59 Ng59 Hs59 Gs59 rfl W60 _ rfl (own_mlt lY56 ⟨by decide, by decide⟩))
 have ln_60 : ((pre (6 : Int32) (5 : Int32) Y56)).length = 9 := lset_len lY56
 clear hin59 Gs59 Hs59 Ng59 Sz59 qq59 Ar59 cl59
 show Go _ _ _ (T60.setTop (mkF m 120 #[vr a1, vi 8, vr y3, vr b5, vr b7, vi 2, vi 5] [])) _
 obtain ⟨Y61, eY61, lY61, V61q⟩ : ∃ Y, Y = (pre (6 : Int32) (5 : Int32) Y56) ∧ Y.length = 9 ∧ Arv Z h60 b5 k5 .int (9 : Int32) (List.map Value.int Y) (.int (0 : Int32)) := ⟨_, rfl, ln_60, V_b5⟩
 replace V_b5 := V61q
 clear ln_60 V61q
 refine G (fun t k => XS.iinc X60.here hx rfl (hb hby d5_120) rfl (l' := #[vr a1, vi 8, vr y3, vr b5, vr b7, vi 2, vi ((5 : Int32) + (1 : Int32))]) rfl (XS.goto X60.here hx rfl (pc0 := 123) (pc' := 101) rfl (hb hby d5_123) (by decide) (by decide) (XS.iload X60.here hx rfl (hb hby d5_101) rfl (XS.iloadN X60.here hx rfl (hb hby d5_103) rfl (XS.icmpNo X60.here hx rfl (hb hby d5_104) rfl (tlt (by decide : (6 : Int32) < (8 : Int32))).2.1 (XS.aloadN X60.here hx rfl (hb hby d5_107) rfl rfl k)))))) ?_
 refine G (fun t k => XS.iload X60.here hx rfl (hb hby d5_108) rfl k) ?_
 show Go _ _ _ (T60.setTop (mkF m 110 #[vr a1, vi 8, vr y3, vr b5, vr b7, vi 2, vi 6] [(.int 6), (.ref b5)])) _
 refine G (fun t k => XS.iconst X60.here hx rfl (hb hby d5_110) (XS.iadd X60.here hx rfl (hb hby d5_111) rfl (XT.dup2 X60.here hx rfl (hb hby d5_112) rfl rfl rfl k))) ?_
 obtain ⟨cl62, Ar62, -, Sz62, Ng62, Hs62, -⟩ := id V_b5
 have hin62 := inb_of (j := (7 : Int32)) (c := cl62) Sz62 ⟨by decide, by decide⟩
 refine G (fun t k => X60.iaload hx (j := (7 : Int32)) (v := (.int (own_at Y61 (7 : Int32)))) (by rw [e60]; exact Ar62.1) (State.isArrayOf_alike hZ.alike Ar62.2.1) Ar62.2.2 hin62 (Has.at Hs62 hin62 (own_atv Y61 (7 : Int32))) (g := (mkF m 113 #[vr a1, vi 8, vr y3, vr b5, vr b7, vi 2, vi 6] [(.int 7), (.ref b5), (.int 7), (.ref b5)])) rfl rfl (hb hby d5_113) _ k) ?_
 clear hin62 Hs62 Ng62 Sz62 Ar62 cl62
 refine G (fun t k => XS.aloadN X60.here hx rfl (hb hby d5_114) rfl rfl (XS.iload X60.here hx rfl (hb hby d5_115) rfl k)) ?_
 obtain ⟨cl63, Ar63, -, Sz63, Ng63, Hs63, -⟩ := id V_b5
 have hin63 := inb_of (j := (6 : Int32)) (c := cl63) Sz63 ⟨by decide, by decide⟩
 refine G (fun t k => X60.iaload hx (j := (6 : Int32)) (v := (.int (own_at Y61 (6 : Int32)))) (by rw [e60]; exact Ar63.1) (State.isArrayOf_alike hZ.alike Ar63.2.1) Ar63.2.2 hin63 (Has.at Hs63 hin63 (own_atv Y61 (6 : Int32))) (g := (mkF m 117 #[vr a1, vi 8, vr y3, vr b5, vr b7, vi 2, vi 6] [(.int 6), (.ref b5), (.int (own_at Y61 (7 : Int32))), (.int 7), (.ref b5)])) rfl rfl (hb hby d5_117) _ k) ?_
 clear hin63 Hs63 Ng63 Sz63 Ar63 cl63
 show Go _ _ _ (T60.setTop (mkF m 118 #[vr a1, vi 8, vr y3, vr b5, vr b7, vi 2, vi 6] [(.int (own_at Y61 (6 : Int32))), (.int (own_at Y61 (7 : Int32))), (.int 7), (.ref b5)])) _
 refine G (fun t k => XS.iadd X60.here hx rfl (hb hby d5_118) rfl k) ?_
 obtain ⟨cl64, Ar64, qq64, Sz64, Ng64, Hs64, Gs64⟩ := id V_b5
 have hin64 := inb_of (j := (7 : Int32)) (c := cl64) Sz64 ⟨by decide, by decide⟩
 obtain ⟨T65, h65, X65, e65, W65, st65⟩ := stI X60 hx hZ e60 Ar64 (j := (7 : Int32)) hin64 (g := (mkF m 119 #[vr a1, vi 8, vr y3, vr b5, vr b7, vi 2, vi 6] [(.int ((own_at Y61 (7 : Int32)) + (own_at Y61 (6 : Int32)))), (.int 7), (.ref b5)])) rfl rfl (hb hby d5_119)
 refine G st65 ?_
 have N65 := Fr.snoc X65 N60 g_b5
 replace V_b7 := V_b7.other W65 (Ne.symm ne_b5_b7)
 replace Z0 := Nat.le_trans Z0 (Nat.le_of_eq W65.size.symm)
 replace K0 := K0.wr W65 (Or.inr sz_b5)
 replace V_b5 : Arv Z h65 b5 k5 .int (9 : Int32) (List.map Value.int (pre (7 : Int32) (6 : Int32) Y61)) (.int (0 : Int32)) := own_mset (Arv.set Ar64 qq64 Sz64 Ng64 Hs64 Gs64 rfl W65 _ rfl (own_mlt lY61 ⟨by decide, by decide⟩))
 have ln_65 : ((pre (7 : Int32) (6 : Int32) Y61)).length = 9 := lset_len lY61
 clear hin64 Gs64 Hs64 Ng64 Sz64 qq64 Ar64 cl64
 show Go _ _ _ (T65.setTop (mkF m 120 #[vr a1, vi 8, vr y3, vr b5, vr b7, vi 2, vi 6] [])) _
 obtain ⟨Y66, eY66, lY66, V66q⟩ : ∃ Y, Y = (pre (7 : Int32) (6 : Int32) Y61) ∧ Y.length = 9 ∧ Arv Z h65 b5 k5 .int (9 : Int32) (List.map Value.int Y) (.int (0 : Int32)) := ⟨_, rfl, ln_65, V_b5⟩
 replace V_b5 := V66q
 clear ln_65 V66q
 refine G (fun t k => XS.iinc X65.here hx rfl (hb hby d5_120) rfl (l' := #[vr a1, vi 8, vr y3, vr b5, vr b7, vi 2, vi ((6 : Int32) + (1 : Int32))]) rfl (XS.goto X65.here hx rfl (pc0 := 123) (pc' := 101) rfl (hb hby d5_123) (by decide) (by decide) (XS.iload X65.here hx rfl (hb hby d5_101) rfl (XS.iloadN X65.here hx rfl (hb hby d5_103) rfl (XS.icmpNo X65.here hx rfl (hb hby d5_104) rfl (tlt (by decide : (7 : Int32) < (8 : Int32))).2.1 (XS.aloadN X65.here hx rfl (hb hby d5_107) rfl rfl k)))))) ?_
 refine G (fun t k => XS.iload X65.here hx rfl (hb hby d5_108) rfl k) ?_
 show Go _ _ _ (T65.setTop (mkF m 110 #[vr a1, vi 8, vr y3, vr b5, vr b7, vi 2, vi 7] [(.int 7), (.ref b5)])) _
 refine G (fun t k => XS.iconst X65.here hx rfl (hb hby d5_110) (XS.iadd X65.here hx rfl (hb hby d5_111) rfl (XT.dup2 X65.here hx rfl (hb hby d5_112) rfl rfl rfl k))) ?_
 obtain ⟨cl67, Ar67, -, Sz67, Ng67, Hs67, -⟩ := id V_b5
 have hin67 := inb_of (j := (8 : Int32)) (c := cl67) Sz67 ⟨by decide, by decide⟩
 refine G (fun t k => X65.iaload hx (j := (8 : Int32)) (v := (.int (own_at Y66 (8 : Int32)))) (by rw [e65]; exact Ar67.1) (State.isArrayOf_alike hZ.alike Ar67.2.1) Ar67.2.2 hin67 (Has.at Hs67 hin67 (own_atv Y66 (8 : Int32))) (g := (mkF m 113 #[vr a1, vi 8, vr y3, vr b5, vr b7, vi 2, vi 7] [(.int 8), (.ref b5), (.int 8), (.ref b5)])) rfl rfl (hb hby d5_113) _ k) ?_
 clear hin67 Hs67 Ng67 Sz67 Ar67 cl67
 refine G (fun t k => XS.aloadN X65.here hx rfl (hb hby d5_114) rfl rfl (XS.iload X65.here hx rfl (hb hby d5_115) rfl k)) ?_
 obtain ⟨cl68, Ar68, -, Sz68, Ng68, Hs68, -⟩ := id V_b5
 have hin68 := inb_of (j := (7 : Int32)) (c := cl68) Sz68 ⟨by decide, by decide⟩
 refine G (fun t k => X65.iaload hx (j := (7 : Int32)) (v := (.int (own_at Y66 (7 : Int32)))) (by rw [e65]; exact Ar68.1) (State.isArrayOf_alike hZ.alike Ar68.2.1) Ar68.2.2 hin68 (Has.at Hs68 hin68 (own_atv Y66 (7 : Int32))) (g := (mkF m 117 #[vr a1, vi 8, vr y3, vr b5, vr b7, vi 2, vi 7] [(.int 7), (.ref b5), (.int (own_at Y66 (8 : Int32))), (.int 8), (.ref b5)])) rfl rfl (hb hby d5_117) _ k) ?_
 clear hin68 Hs68 Ng68 Sz68 Ar68 cl68
 show Go _ _ _ (T65.setTop (mkF m 118 #[vr a1, vi 8, vr y3, vr b5, vr b7, vi 2, vi 7] [(.int (own_at Y66 (7 : Int32))), (.int (own_at Y66 (8 : Int32))), (.int 8), (.ref b5)])) _
 refine G (fun t k => XS.iadd X65.here hx rfl (hb hby d5_118) rfl k) ?_
 obtain ⟨cl69, Ar69, qq69, Sz69, Ng69, Hs69, Gs69⟩ := id V_b5
 have hin69 := inb_of (j := (8 : Int32)) (c := cl69) Sz69 ⟨by decide, by decide⟩
 obtain ⟨T70, h70, X70, e70, W70, st70⟩ := stI X65 hx hZ e65 Ar69 (j := (8 : Int32)) hin69 (g := (mkF m 119 #[vr a1, vi 8, vr y3, vr b5, vr b7, vi 2, vi 7] [(.int ((own_at Y66 (8 : Int32)) + (own_at Y66 (7 : Int32)))), (.int 8), (.ref b5)])) rfl rfl (hb hby d5_119)
 refine G st70 ?_
 have N70 := Fr.snoc X70 N65 g_b5
 replace V_b7 := V_b7.other W70 (Ne.symm ne_b5_b7)
 replace Z0 := Nat.le_trans Z0 (Nat.le_of_eq W70.size.symm)
 replace K0 := K0.wr W70 (Or.inr sz_b5)
 replace V_b5 : Arv Z h70 b5 k5 .int (9 : Int32) (List.map Value.int (pre (8 : Int32) (7 : Int32) Y66)) (.int (0 : Int32)) := own_mset (Arv.set Ar69 qq69 Sz69 Ng69 Hs69 Gs69 rfl W70 _ rfl (own_mlt lY66 ⟨by decide, by decide⟩))
 have ln_70 : ((pre (8 : Int32) (7 : Int32) Y66)).length = 9 := lset_len lY66
 clear hin69 Gs69 Hs69 Ng69 Sz69 qq69 Ar69 cl69
 show Go _ _ _ (T70.setTop (mkF m 120 #[vr a1, vi 8, vr y3, vr b5, vr b7, vi 2, vi 7] [])) _
 obtain ⟨Y71, eY71, lY71, V71q⟩ : ∃ Y, Y = (pre (8 : Int32) (7 : Int32) Y66) ∧ Y.length = 9 ∧ Arv Z h70 b5 k5 .int (9 : Int32) (List.map Value.int Y) (.int (0 : Int32)) := ⟨_, rfl, ln_70, V_b5⟩
 replace V_b5 := V71q
 clear ln_70 V71q
 refine G (fun t k => XS.iinc X70.here hx rfl (hb hby d5_120) rfl (l' := #[vr a1, vi 8, vr y3, vr b5, vr b7, vi 2, vi ((7 : Int32) + (1 : Int32))]) rfl (XS.goto X70.here hx rfl (pc0 := 123) (pc' := 101) rfl (hb hby d5_123) (by decide) (by decide) (XS.iload X70.here hx rfl (hb hby d5_101) rfl (XS.iloadN X70.here hx rfl (hb hby d5_103) rfl (XS.icmpYes X70.here hx rfl (pc0 := 104) (pc' := 126) rfl (hb hby d5_104) rfl (flt (by decide : ¬ ((8 : Int32) < (8 : Int32)))).2.1 (by decide) (by decide) k))))) ?_
 show Go _ _ _ (T70.setTop (mkF m 126 #[vr a1, vi 8, vr y3, vr b5, vr b7, vi 2, vi 8] [])) _
 rw [eY71, eY66, eY61, eY56, eY51, eY46, eY41, eY36, eY27, eY13] at V_b5
 obtain ⟨T72, h72, X72, e72, E72, A72, D72, -, st72⟩ := newO X70 hx hZ hown (wd52 hw) (wd53 hw) (wd54 hw) e70 (g := (mkF m 126 #[vr a1, vi 8, vr y3, vr b5, vr b7, vi 2, vi 8] [])) rfl (hb hby d5_126) (by decide) (by decide)
 obtain ⟨b72, g72⟩ : ∃ z, z = h70.size := ⟨_, rfl⟩
 rw [← g72] at A72 D72 st72
 refine G st72 ?_
 have ne_b5_b72 : b5 ≠ b72 := Nat.ne_of_lt (Nat.lt_of_lt_of_le V_b5.lt (Nat.le_of_eq g72.symm))
 have ne_b7_b72 : b7 ≠ b72 := Nat.ne_of_lt (Nat.lt_of_lt_of_le V_b7.lt (Nat.le_of_eq g72.symm))
 have g_b72 : n0 ≤ b72 := Nat.le_trans Z0 (Nat.le_of_eq g72.symm)
 have sz_b72 : h0.size ≤ b72 := Nat.le_trans K0.1 (Nat.le_of_eq g72.symm)
 replace V_b5 := V_b5.ext E72
 replace V_b7 := V_b7.ext E72
 replace K0 := K0.ext E72
 replace Z0 := Nat.le_trans Z0 E72.1
 have E_b72 := A72
 have F_b72_a : Fld Z h72 b72 RC "start" "[I" .null := D72 (Or.inr (wd72 hw)) (ty := (.array .int)) (by decide)
 have F_b72_t : Fld Z h72 b72 RC "targets" "[I" .null := D72 (Or.inr (wd74 hw)) (ty := (.array .int)) (by decide)
 refine G (fun t k => XS.dup X72.here hx rfl (hb hby d5_129) rfl rfl (XS.aloadN X72.here hx rfl (hb hby d5_130) rfl rfl (XS.aload X72.here hx rfl (hb hby d5_131) rfl rfl (XS.iload X72.here hx rfl (hb hby d5_133) rfl k)))) ?_
 obtain ⟨_, _, ⟨T73, L73, k73, n73⟩, -, X73, ⟨Lc73, hQ73, l73, y73, z73⟩, st73⟩ := Jvm.LawKit.callS X72 hx (y := (⟨"java/util/Arrays", "copyOf", "([II)[I"⟩ : MethodName)) hown (mvT hZ (wd55 hw)) (mvT hZ (wd56 hw)) (mvT hZ (wd31 hw)) (mvT hZ (wd57 hw)) (by decide) (backOf (W := 3) (rm11_2 l Z a0 hw [] b7 ((f10_a1_0 t0 t1 t2).toInt32) ((f10_a1_2 t0 t1 t2).toInt32) (0 : Int32) k7 h72 n0 Z0 V_b7) hZ (wd57 hw) (wd31 hw) (by decide) (by decide)) (g := (mkF m 135 #[vr a1, vi 8, vr y3, vr b5, vr b7, vi 2, vi 8] [(.int 2), (.ref b7), (.ref b5), (.ref b72), (.ref b72)])) rfl (by rw [hml]; rfl) (argsL := [(.ref b7), (.int (2 : Int32))]) (rest := [(.ref b5), (.ref b72), (.ref b72)]) (lenOf pd6 rfl) rfl (by show 2 * 0 + _ ≤ _; exact Nat.le_of_eq rfl) (hb hby d5_135) (fun _ _ => ⟨rfl, e72, (by decide : 4 + 1 ≤ _), (by decide : 17 + 2 ≤ _)⟩)
 dsimp only [Pt.U, Pt.locs, Pt.cells, Pt.slots] at X73 l73 y73 z73 st73 hQ73
 subst l73 y73 z73
 obtain ⟨h73, e73⟩ : ∃ z, T73.heap = z := ⟨_, rfl⟩
 rw [e73] at hQ73
 obtain ⟨y73, k_y73, rfl, N73q, K73, ng_y73, sz0_y73, Q73_0⟩ := hQ73
 refine G st73 ?_
 have ne_b5_y73 : b5 ≠ y73 := Nat.ne_of_lt (Nat.lt_of_lt_of_le V_b5.lt sz0_y73)
 have ne_b7_y73 : b7 ≠ y73 := Nat.ne_of_lt (Nat.lt_of_lt_of_le V_b7.lt sz0_y73)
 have ne_b72_y73 : b72 ≠ y73 := Nat.ne_of_lt (Nat.lt_of_lt_of_le E_b72.lt sz0_y73)
 have g_y73 : n0 ≤ y73 := ng_y73
 have sz_y73 : h0.size ≤ y73 := Nat.le_trans K0.1 sz0_y73
 replace V_b5 := V_b5.keep K73 nin0
 replace V_b7 := V_b7.keep K73 nin0
 replace E_b72 := E_b72.keep K73
 replace F_b72_a := F_b72_a.keep K73 nin0
 replace F_b72_t := F_b72_t.keep K73 nin0
 replace Z0 := Nat.le_trans Z0 K73.1
 replace K0 := K0.trans K73 all0
 have V_y73 := Q73_0
 have N73 := Fr.app N70 N73q
 obtain ⟨_, _, ⟨T74, L74, k74, n74⟩, -, X74, ⟨Lc74, hQ74, l74, y74, z74⟩, st74⟩ := X73.specialBackNest hx (y := (⟨RC, "<init>", "([I[I)V"⟩ : MethodName)) rfl hown (own_mvM hZ (wd67 hw)) (mvT hZ (wd68 hw)) (mvT hZ (wd69 hw)) (by decide) (backOf (W := 1) (rm12 l Z a0 hw [] b72 b5 y73 (.null : Value) (.null : Value) h73 n0 Z0 E_b72 F_b72_a F_b72_t g_b72) hZ (wd69 hw) (wd54 hw) (by decide) (by decide)) (g := (mkF m 138 #[vr a1, vi 8, vr y3, vr b5, vr b7, vi 2, vi 8] [(.ref y73), (.ref b5), (.ref b72), (.ref b72)])) rfl (by rw [hml]; rfl) (Steps.refl _) (a := b72) (argsL := [(.ref b5), (.ref y73)]) (rest := [(.ref b72)]) (lenOf pd7 rfl) rfl (by show 2 * 0 + _ ≤ _; exact Nat.le_of_eq rfl) (hb hby d5_138) (fun _ _ => ⟨rfl, e73, (by decide : 5 + 0 ≤ _), (by decide : 19 + 0 ≤ _)⟩)
 dsimp only [Pt.U, Pt.locs, Pt.cells, Pt.slots] at X74 l74 y74 z74 st74 hQ74
 subst l74 y74 z74
 refine Go.tr st74 ?_
 have E_b72_pre := E_b72
 have F_b72_start_pre := F_b72_a
 have F_b72_targets_pre := F_b72_t
 obtain ⟨h74, e74⟩ : ∃ z, T74.heap = z := ⟨_, rfl⟩
 rw [e74] at hQ74
 obtain ⟨rfl, N74q, K74, Q74_0, Q74_1, Q74_2⟩ := hQ74
 replace V_b5 := V_b5.keep K74 (ninS ne_b5_b72 nin0)
 replace V_b7 := V_b7.keep K74 (ninS ne_b7_b72 nin0)
 replace E_b72 := E_b72.keep K74
 replace V_y73 := V_y73.keep K74 (ninS (Ne.symm ne_b72_y73) nin0)
 replace Z0 := Nat.le_trans Z0 K74.1
 replace K0 := K0.trans K74 (allS (Or.inr sz_b72) all0)
 clear E_b72_pre F_b72_start_pre F_b72_targets_pre
 have E_b72 := Q74_0
 have F_b72_a := Q74_1
 have F_b72_t := Q74_2
 have N74 := Fr.app N73 N74q
 obtain ⟨LL74, X74, N74⟩ : ∃ LL, Stand p l e (Rm 4 5 19 84) s m #[(.ref a1), (.int (8 : Int32))] below meth c T74 LL 5 19 ∧ Fr n0 LL := ⟨_, X74, N74⟩
 show Go _ _ _ (T74.setTop (mkF m 141 #[vr a1, vi 8, vr y3, vr b5, vr b7, vi 2, vi 8] [(.ref b72)])) _
 obtain ⟨fs, hr, hrun, hended, hW, hsame⟩ := X74.leave (v := some (.ref b72)) (fun h => by rw [Bd.returns] at h; cases h)
 refine Go.fin (retOut X74 hx Bd.returns rfl (Or.inr (Or.inr (Or.inr (Or.inr ⟨rfl, rfl, rfl⟩)))) (hb hby d5_141) hr) hrun hended ⟨_, _, rfl, ?_, ⟨_, rfl⟩, hW, hsame.mono (by decide) (by decide)⟩
 show Q5_10 Z a1 w_P t0 t1 t2 k_P h0 n0 _ T74.heap _
 rw [e74]
 exact ⟨b5, y73, b72, k5, k_y73, rfl, N74, K0, g_b5, sz_b5, g_y73, sz_y73, g_b72, sz_b72, ne_b5_y73, ne_b5_b72, (Ne.symm ne_b72_y73), V_b5, E_b72, V_y73, F_b72_a, F_b72_t⟩
def Q5_01 (Z : State) (a1 : Addr) (w_P : Addr) (t0 : Int64) (t1 : Int64) (t2 : Int64) (k_P : ClassId) (h0 : Heap) (n0 : Nat) (v : Option Value) (h : Heap) (L : List Loc) : Prop := ∃ x5_01_0 : Addr, ∃ x5_01_1 : Addr, ∃ x5_01_2 : Addr, ∃ k_x5_01_0 : ClassId, ∃ k_x5_01_1 : ClassId, v = some (.ref x5_01_2) ∧ Fr n0 L ∧ Keep h0 h [] ∧ n0 ≤ x5_01_0 ∧ h0.size ≤ x5_01_0 ∧ n0 ≤ x5_01_1 ∧ h0.size ≤ x5_01_1 ∧ n0 ≤ x5_01_2 ∧ h0.size ≤ x5_01_2 ∧ x5_01_0 ≠ x5_01_1 ∧ x5_01_0 ≠ x5_01_2 ∧ x5_01_1 ≠ x5_01_2 ∧ Arv Z h x5_01_0 k_x5_01_0 .int (9 : Int32) (List.map Value.int (pre (8 : Int32) (7 : Int32) (pre (7 : Int32) (6 : Int32) (pre (6 : Int32) (5 : Int32) (pre (5 : Int32) (4 : Int32) (pre (4 : Int32) (3 : Int32) (pre (3 : Int32) (2 : Int32) (pre (2 : Int32) (1 : Int32) (pre (1 : Int32) (0 : Int32) (bump (gi (f10_a1_1 t0 t1 t2)) (bump (gi (f10_a1_0 t0 t1 t2)) z9))))))))))) (.int (0 : Int32)) ∧ Exa Z h x5_01_2 RC ∧ Arv Z h x5_01_1 k_x5_01_1 .int (2 : Int32) [(.int ((f10_a1_0 t0 t1 t2).toInt32)), (.int ((f10_a1_1 t0 t1 t2).toInt32))] (.int (0 : Int32)) ∧ Fld Z h x5_01_2 RC "start" "[I" (.ref x5_01_0) ∧ Fld Z h x5_01_2 RC "targets" "[I" (.ref x5_01_1)
theorem ef5_01 (m : MethodId) (x0 : Addr) : entryFrame m #[(.ref x0), (.int (8 : Int32))] 7 = mkF m 0 #[.val (.ref x0), .val (.int (8 : Int32)), .unset, .unset, .unset, .unset, .unset] [] := by first | (simp [entryFrame, mkF, argsToLocals, Value.category]; done) | rfl
theorem rm5_01 (l : Launch) (Z : State) (a0 : Array Value) (hw : HW a0 Z) (ws : List Jvm.Cond) (a1 : Addr) (w_P : Addr) (t0 : Int64) (t1 : Int64) (t2 : Int64) (k_P : ClassId) (h0 : Heap) (n0 : Nat) (Z0 : n0 ≤ h0.size) (E_a1 : Exa Z h0 a1 BC) (F_a1_s : Fld Z h0 a1 BC "size" "I" (.int (3 : Int32))) (F_a1_p : Fld Z h0 a1 BC "pairs" "[J" (.ref w_P)) (V_P : Arv Z h0 w_P k_P .long (16 : Int32) [(.long t0), (.long t1), (.long t2), (.long (0 : Int64)), (.long (0 : Int64)), (.long (0 : Int64)), (.long (0 : Int64)), (.long (0 : Int64)), (.long (0 : Int64)), (.long (0 : Int64)), (.long (0 : Int64)), (.long (0 : Int64)), (.long (0 : Int64)), (.long (0 : Int64)), (.long (0 : Int64)), (.long (0 : Int64))] (.long (0 : Int64))) (hb0 : ¬ (gi (f10_a1_0 t0 t1 t2)) < 0 ∧ (gi (f10_a1_0 t0 t1 t2)) < (9 : Int32)) (hb1 : ¬ (gi (f10_a1_1 t0 t1 t2)) < 0 ∧ (gi (f10_a1_1 t0 t1 t2)) < (9 : Int32)) (hb2 : ¬ (gi (f10_a1_2 t0 t1 t2)) < 0 ∧ (gi (f10_a1_2 t0 t1 t2)) < (9 : Int32)) (he1 : ¬ (f10_a1_1 t0 t1 t2) = (f10_a1_0 t0 t1 t2)) (he2 : (f10_a1_2 t0 t1 t2) = (f10_a1_1 t0 t1 t2)) :
  MetFree l (⟨BC, "build", "(I)Lcom/example/tripletype/tripletype/Relation;"⟩ : MethodName) (head1 (Jvm.Cond.code (⟨BC, "build", "(I)Lcom/example/tripletype/tripletype/Relation;"⟩ : MethodName) cB5 7 (some (.object RC)) :: ws) (Rm 4 5 19 84)) (Pr Z h0 #[(.ref a1), (.int (8 : Int32))]) Tr (fun _ U o U' => ∃ v L, o = .returned v ∧ Q5_01 Z a1 w_P t0 t1 t2 k_P h0 n0 v U'.heap L ∧ FrameEnd U o U' L (Rm 4 5 19 84).cells (Rm 4 5 19 84).slots) := by
 refine MetFree.of_bodySF (plainFor_of_name pn1) hisR ?_
 intro p e s m args below meth c s₁ Bd hml0 hP hK
 obtain ⟨rfl, hZ, hh⟩ := hP
 have hx := Bd.exec
 have hby := Bd.bytes
 have hml : c.maxLocals = 7 := hml0
 have hown : s.vm.findClass BC = some m.cls := findClass_of_methodNamed Bd.named
 have hnm := (name_of_methodNamed Bd.named Bd.method).1
 have X0 : Stand p l e (Rm 4 5 19 84) s m #[(.ref a1), (.int (8 : Int32))] below meth c s₁ [] 0 0 := Stand.of_body Bd
 have e0 : s₁.heap = h0 := by rw [← hh, Bd.state]; rfl
 have N0 := Fr.nil n0
 have K0 : Keep h0 h0 [] := Keep.refl h0 _
 refine G (P := fun o U' => ∃ v L, o = .returned v ∧ Q5_01 Z a1 w_P t0 t1 t2 k_P h0 n0 v U'.heap L ∧ FrameEnd s o U' L (Rm 4 5 19 84).cells (Rm 4 5 19 84).slots) (fun t k => castTop (ef5_01 m a1) k) ?_
 show Go _ _ _ (s₁.setTop (mkF m 0 #[vr a1, vi 8, us, us, us, us, us] [])) _
 refine G (fun t k => XS.aloadN X0.here hx rfl (hb hby d5_0) rfl rfl k) ?_
 obtain ⟨T1, X1, e1, st1⟩ := getF X0 hx hZ hown (host := "") (Or.inl (wd15 hw)) Via.refl e0 F_a1_p (g := (mkF m 1 #[vr a1, vi 8, us, us, us, us, us] [(.ref a1)])) rfl rfl (hb hby d5_1)
 refine G st1 ?_
 refine G (fun t k => XS.aloadN X1.here hx rfl (hb hby d5_4) rfl rfl k) ?_
 obtain ⟨T2, X2, e2, st2⟩ := getF X1 hx hZ hown (host := "") (Or.inl (wd22 hw)) Via.refl e1 F_a1_s (g := (mkF m 5 #[vr a1, vi 8, us, us, us, us, us] [(.ref a1), (.ref w_P)])) rfl rfl (hb hby d5_5)
 refine G st2 ?_
 obtain ⟨_, _, ⟨T3, L3, k3, n3⟩, -, X3, ⟨Lc3, hQ3, l3, y3, z3⟩, st3⟩ := Jvm.LawKit.callS X2 hx (y := (⟨"java/util/Arrays", "copyOf", "([JI)[J"⟩ : MethodName)) hown (mvT hZ (wd29 hw)) (mvT hZ (wd30 hw)) (mvT hZ (wd31 hw)) (mvT hZ (wd32 hw)) (by decide) (backOf (W := 0) (rm6 l Z a0 hw [] w_P t0 t1 t2 k_P h0 n0 Z0 V_P) hZ (wd32 hw) (wd31 hw) (by decide) (by decide)) (g := (mkF m 8 #[vr a1, vi 8, us, us, us, us, us] [(.int 3), (.ref w_P)])) rfl (by rw [hml]; rfl) (argsL := [(.ref w_P), (.int (3 : Int32))]) (rest := []) (lenOf pd4 rfl) rfl (by show 2 * 0 + _ ≤ _; exact Nat.le_of_eq rfl) (hb hby d5_8) (fun _ _ => ⟨rfl, e2, (by decide : 0 + 1 ≤ _), (by decide : 0 + 3 ≤ _)⟩)
 dsimp only [Pt.U, Pt.locs, Pt.cells, Pt.slots] at X3 l3 y3 z3 st3 hQ3
 subst l3 y3 z3
 obtain ⟨h3, e3⟩ : ∃ z, T3.heap = z := ⟨_, rfl⟩
 rw [e3] at hQ3
 obtain ⟨y3, k_y3, rfl, N3q, K3, ng_y3, sz0_y3, Q3_0⟩ := hQ3
 refine G st3 ?_
 have ne_a1_y3 : a1 ≠ y3 := Nat.ne_of_lt (Nat.lt_of_lt_of_le E_a1.lt sz0_y3)
 have ne_w_P_y3 : w_P ≠ y3 := Nat.ne_of_lt (Nat.lt_of_lt_of_le V_P.lt sz0_y3)
 have g_y3 : n0 ≤ y3 := ng_y3
 have sz_y3 : h0.size ≤ y3 := Nat.le_trans K0.1 sz0_y3
 replace E_a1 := E_a1.keep K3
 replace F_a1_s := F_a1_s.keep K3 nin0
 replace F_a1_p := F_a1_p.keep K3 nin0
 replace V_P := V_P.keep K3 nin0
 replace Z0 := Nat.le_trans Z0 K3.1
 replace K0 := K0.trans K3 all0
 have V_y3 := Q3_0
 have N3 := Fr.app N0 N3q
 show Go _ _ _ (T3.setTop (mkF m 11 #[vr a1, vi 8, us, us, us, us, us] [(.ref y3)])) _
 refine G (fun t k => XS.astoreN X3.here hx rfl (hb hby d5_11) rfl rfl (l' := #[vr a1, vi 8, vr y3, us, us, us, us]) rfl (XS.aloadN X3.here hx rfl (hb hby d5_12) rfl rfl k)) ?_
 obtain ⟨_, _, ⟨T4, L4, k4, n4⟩, -, X4, ⟨Lc4, hQ4, l4, y4, z4⟩, st4⟩ := Jvm.LawKit.callS X3 hx (y := (⟨"java/util/Arrays", "sort", "([J)V"⟩ : MethodName)) hown (mvT hZ (wd38 hw)) (mvT hZ (wd39 hw)) (mvT hZ (wd31 hw)) (mvT hZ (wd40 hw)) (by decide) (backOf (W := 0) (rm7 l Z a0 hw [] y3 t0 t1 t2 k_y3 h3 n0 Z0 V_y3 g_y3) hZ (wd40 hw) (wd31 hw) (by decide) (by decide)) (g := (mkF m 13 #[vr a1, vi 8, vr y3, us, us, us, us] [(.ref y3)])) rfl (by rw [hml]; rfl) (argsL := [(.ref y3)]) (rest := []) (lenOf pd5 rfl) rfl (by show 2 * 0 + _ ≤ _; exact Nat.le_of_eq rfl) (hb hby d5_13) (fun _ _ => ⟨rfl, e3, (by decide : 1 + 0 ≤ _), (by decide : 3 + 0 ≤ _)⟩)
 dsimp only [Pt.U, Pt.locs, Pt.cells, Pt.slots] at X4 l4 y4 z4 st4 hQ4
 subst l4 y4 z4
 refine G st4 ?_
 have V_y3_pre := V_y3
 obtain ⟨h4, e4⟩ : ∃ z, T4.heap = z := ⟨_, rfl⟩
 rw [e4] at hQ4
 obtain ⟨rfl, N4q, K4, Q4_0⟩ := hQ4
 replace Z0 := Nat.le_trans Z0 K4.1
 replace K0 := K0.trans K4 (allS (Or.inr sz_y3) all0)
 clear V_y3_pre
 have V_y3 := Q4_0
 have N4 := Fr.app N3 N4q
 refine G (fun t k => XS.iloadN X4.here hx rfl (hb hby d5_16) rfl (XS.iconst X4.here hx rfl (hb hby d5_17) (XS.iadd X4.here hx rfl (hb hby d5_18) rfl k))) ?_
 obtain ⟨T5, h5, k5, X5, e5, E5, A5, st5⟩ := newP X4 hx hZ (aty := .int) (wd51 hw) e4 (g := (mkF m 19 #[vr a1, vi 8, vr y3, us, us, us, us] [(.int 9)])) rfl (hb hby d5_19) rfl (by decide) (cap := 9) (by decide) (by decide) (by decide) (by decide)
 obtain ⟨b5, g5⟩ : ∃ z, z = h4.size := ⟨_, rfl⟩
 rw [← g5] at A5 st5
 refine G st5 ?_
 have ne_y3_b5 : y3 ≠ b5 := Nat.ne_of_lt (Nat.lt_of_lt_of_le V_y3.lt (Nat.le_of_eq g5.symm))
 have g_b5 : n0 ≤ b5 := Nat.le_trans Z0 (Nat.le_of_eq g5.symm)
 have sz_b5 : h0.size ≤ b5 := Nat.le_trans K0.1 (Nat.le_of_eq g5.symm)
 replace V_y3 := V_y3.ext E5
 replace K0 := K0.ext E5
 replace Z0 := Nat.le_trans Z0 E5.1
 have V_b5 : Arv Z h5 b5 k5 .int (9 : Int32) [(.int (0 : Int32)), (.int (0 : Int32)), (.int (0 : Int32)), (.int (0 : Int32)), (.int (0 : Int32)), (.int (0 : Int32)), (.int (0 : Int32)), (.int (0 : Int32)), (.int (0 : Int32))] (.int (0 : Int32)) := (Arv.new A5 (by decide)).pad (pad_rep [] (.int (0 : Int32)) 9)
 show Go _ _ _ (T5.setTop (mkF m 21 #[vr a1, vi 8, vr y3, us, us, us, us] [(.ref b5)])) _
 refine G (fun t k => XS.astoreN X5.here hx rfl (hb hby d5_21) rfl rfl (l' := #[vr a1, vi 8, vr y3, vr b5, us, us, us]) rfl (XS.aloadN X5.here hx rfl (hb hby d5_22) rfl rfl k)) ?_
 obtain ⟨cl6, Ar6, -, Sz6, Ng6, -, -⟩ := id V_y3
 refine G (fun t k => X5.arraylength hx (by rw [e5]; exact Ar6.1) (State.isArrayOf_alike hZ.alike Ar6.2.1) (g := (mkF m 23 #[vr a1, vi 8, vr y3, vr b5, us, us, us] [(.ref y3)])) rfl rfl (hb hby d5_23) _ k) ?_
 rw [len_of Sz6 Ng6]
 clear Ng6 Sz6 Ar6 cl6
 obtain ⟨T7, h7, k7, X7, e7, E7, A7, st7⟩ := newP X5 hx hZ (aty := .int) (wd51 hw) e5 (g := (mkF m 24 #[vr a1, vi 8, vr y3, vr b5, us, us, us] [(.int 3)])) rfl (hb hby d5_24) rfl (by decide) (cap := 3) (by decide) (by decide) (by decide) (by decide)
 obtain ⟨b7, g7⟩ : ∃ z, z = h5.size := ⟨_, rfl⟩
 rw [← g7] at A7 st7
 refine G st7 ?_
 have ne_y3_b7 : y3 ≠ b7 := Nat.ne_of_lt (Nat.lt_of_lt_of_le V_y3.lt (Nat.le_of_eq g7.symm))
 have ne_b5_b7 : b5 ≠ b7 := Nat.ne_of_lt (Nat.lt_of_lt_of_le V_b5.lt (Nat.le_of_eq g7.symm))
 have g_b7 : n0 ≤ b7 := Nat.le_trans Z0 (Nat.le_of_eq g7.symm)
 have sz_b7 : h0.size ≤ b7 := Nat.le_trans K0.1 (Nat.le_of_eq g7.symm)
 replace V_y3 := V_y3.ext E7
 replace V_b5 := V_b5.ext E7
 replace K0 := K0.ext E7
 replace Z0 := Nat.le_trans Z0 E7.1
 have V_b7 : Arv Z h7 b7 k7 .int (3 : Int32) [(.int (0 : Int32)), (.int (0 : Int32)), (.int (0 : Int32))] (.int (0 : Int32)) := (Arv.new A7 (by decide)).pad (pad_rep [] (.int (0 : Int32)) 3)
 refine G (fun t k => XS.astore X7.here hx rfl (hb hby d5_26) rfl rfl (l' := #[vr a1, vi 8, vr y3, vr b5, vr b7, us, us]) rfl k) ?_
 show Go _ _ _ (T7.setTop (mkF m 28 #[vr a1, vi 8, vr y3, vr b5, vr b7, us, us] [])) _
 replace V_b5 : Arv Z h7 b5 k5 .int (9 : Int32) (List.map Value.int z9) (.int (0 : Int32)) := V_b5
 have ln_0 : z9.length = 9 := rfl
 refine G (fun t k => XS.iconst X7.here hx rfl (hb hby d5_28) (XS.istore X7.here hx rfl (hb hby d5_29) rfl (l' := #[vr a1, vi 8, vr y3, vr b5, vr b7, vi 0, us]) rfl (XS.iconst X7.here hx rfl (hb hby d5_31) (XS.istore X7.here hx rfl (hb hby d5_32) rfl (l' := #[vr a1, vi 8, vr y3, vr b5, vr b7, vi 0, vi 0]) rfl (XS.iload X7.here hx rfl (hb hby d5_34) rfl (XS.aloadN X7.here hx rfl (hb hby d5_36) rfl rfl k)))))) ?_
 obtain ⟨cl8, Ar8, -, Sz8, Ng8, -, -⟩ := id V_y3
 refine G (fun t k => X7.arraylength hx (by rw [e7]; exact Ar8.1) (State.isArrayOf_alike hZ.alike Ar8.2.1) (g := (mkF m 37 #[vr a1, vi 8, vr y3, vr b5, vr b7, vi 0, vi 0] [(.ref y3), (.int 0)])) rfl rfl (hb hby d5_37) _ k) ?_
 rw [len_of Sz8 Ng8]
 clear Ng8 Sz8 Ar8 cl8
 show Go _ _ _ (T7.setTop (mkF m 38 #[vr a1, vi 8, vr y3, vr b5, vr b7, vi 0, vi 0] [(.int 3), (.int 0)])) _
 refine G (fun t k => XS.icmpNo X7.here hx rfl (hb hby d5_38) rfl (tlt (by decide : (0 : Int32) < (3 : Int32))).2.1 (XS.iload X7.here hx rfl (hb hby d5_41) rfl (XS.ifYes X7.here hx rfl (pc0 := 43) (pc' := 63) rfl (hb hby d5_43) rfl ((if0 _ _).trans (flt (by decide : ¬ ((0 : Int32) < (0 : Int32)))).2.2.2) (by decide) (by decide) (XS.aloadN X7.here hx rfl (hb hby d5_63) rfl rfl (XS.aloadN X7.here hx rfl (hb hby d5_64) rfl rfl (XS.iload X7.here hx rfl (hb hby d5_65) rfl k)))))) ?_
 obtain ⟨cl9, Ar9, -, Sz9, Ng9, Hs9, -⟩ := id V_y3
 have hin9 := inb_of (j := (0 : Int32)) (c := cl9) Sz9 ⟨by decide, by decide⟩
 refine G (fun t k => X7.laload hx (j := (0 : Int32)) (v := (.long (f10_a1_0 t0 t1 t2))) (by rw [e7]; exact Ar9.1) (State.isArrayOf_alike hZ.alike Ar9.2.1) Ar9.2.2 hin9 (Has.at Hs9 hin9 rfl) (g := (mkF m 67 #[vr a1, vi 8, vr y3, vr b5, vr b7, vi 0, vi 0] [(.int 0), (.ref y3), (.ref b5)])) rfl rfl (hb hby d5_67) _ k) ?_
 clear hin9 Hs9 Ng9 Sz9 Ar9 cl9
 show Go _ _ _ (T7.setTop (mkF m 68 #[vr a1, vi 8, vr y3, vr b5, vr b7, vi 0, vi 0] [(.long (f10_a1_0 t0 t1 t2)), (.ref b5)])) _
 refine G (fun t k => XS.bipush X7.here hx rfl (hb hby d5_68) (XS.lushr X7.here hx rfl (hb hby d5_70) rfl (XS.l2i X7.here hx rfl (hb hby d5_71) rfl (XS.iconst X7.here hx rfl (hb hby d5_72) (XS.iadd X7.here hx rfl (hb hby d5_73) rfl k))))) ?_
 show Go _ _ _ (T7.setTop (mkF m 74 #[vr a1, vi 8, vr y3, vr b5, vr b7, vi 0, vi 0] [(.int (((((f10_a1_0 t0 t1 t2).toUInt64 >>> ((32 : Int32) &&& 0x3f).toInt64.toUInt64).toInt64).toInt32) + (1 : Int32))), (.ref b5)])) _
 show Go _ _ _ (T7.setTop (mkF m 74 #[vr a1, vi 8, vr y3, vr b5, vr b7, vi 0, vi 0] [(.int (gi (f10_a1_0 t0 t1 t2))), (.ref b5)])) _
 refine G (fun t k => XT.dup2 X7.here hx rfl (hb hby d5_74) rfl rfl rfl k) ?_
 obtain ⟨cl10, Ar10, -, Sz10, Ng10, Hs10, -⟩ := id V_b5
 have hin10 := inb_of (j := (gi (f10_a1_0 t0 t1 t2))) (c := cl10) Sz10 hb0
 refine G (fun t k => X7.iaload hx (j := (gi (f10_a1_0 t0 t1 t2))) (v := (.int (own_at z9 (gi (f10_a1_0 t0 t1 t2))))) (by rw [e7]; exact Ar10.1) (State.isArrayOf_alike hZ.alike Ar10.2.1) Ar10.2.2 hin10 (Has.at Hs10 hin10 (own_atv z9 (gi (f10_a1_0 t0 t1 t2)))) (g := (mkF m 75 #[vr a1, vi 8, vr y3, vr b5, vr b7, vi 0, vi 0] [(.int (gi (f10_a1_0 t0 t1 t2))), (.ref b5), (.int (gi (f10_a1_0 t0 t1 t2))), (.ref b5)])) rfl rfl (hb hby d5_75) _ k) ?_
 clear hin10 Hs10 Ng10 Sz10 Ar10 cl10
 refine G (fun t k => XS.iconst X7.here hx rfl (hb hby d5_76) (XS.iadd X7.here hx rfl (hb hby d5_77) rfl k)) ?_
 obtain ⟨cl11, Ar11, qq11, Sz11, Ng11, Hs11, Gs11⟩ := id V_b5
 have hin11 := inb_of (j := (gi (f10_a1_0 t0 t1 t2))) (c := cl11) Sz11 hb0
 obtain ⟨T12, h12, X12, e12, W12, st12⟩ := stI X7 hx hZ e7 Ar11 (j := (gi (f10_a1_0 t0 t1 t2))) hin11 (g := (mkF m 78 #[vr a1, vi 8, vr y3, vr b5, vr b7, vi 0, vi 0] [(.int ((own_at z9 (gi (f10_a1_0 t0 t1 t2))) + (1 : Int32))), (.int (gi (f10_a1_0 t0 t1 t2))), (.ref b5)])) rfl rfl (hb hby d5_78)
 refine G st12 ?_
 have N12 := Fr.snoc X12 N4 g_b5
 replace V_y3 := V_y3.other W12 ne_y3_b5
 replace V_b7 := V_b7.other W12 (Ne.symm ne_b5_b7)
 replace Z0 := Nat.le_trans Z0 (Nat.le_of_eq W12.size.symm)
 replace K0 := K0.wr W12 (Or.inr sz_b5)
 replace V_b5 : Arv Z h12 b5 k5 .int (9 : Int32) (List.map Value.int (bump (gi (f10_a1_0 t0 t1 t2)) z9)) (.int (0 : Int32)) := own_mset (Arv.set Ar11 qq11 Sz11 Ng11 Hs11 Gs11 rfl W12 _ rfl (own_mlt ln_0 hb0))
 have ln_12 : ((bump (gi (f10_a1_0 t0 t1 t2)) z9)).length = 9 := lset_len ln_0
 clear hin11 Gs11 Hs11 Ng11 Sz11 qq11 Ar11 cl11
 show Go _ _ _ (T12.setTop (mkF m 79 #[vr a1, vi 8, vr y3, vr b5, vr b7, vi 0, vi 0] [])) _
 obtain ⟨Y13, eY13, lY13, V13q⟩ : ∃ Y, Y = (bump (gi (f10_a1_0 t0 t1 t2)) z9) ∧ Y.length = 9 ∧ Arv Z h12 b5 k5 .int (9 : Int32) (List.map Value.int Y) (.int (0 : Int32)) := ⟨_, rfl, ln_12, V_b5⟩
 replace V_b5 := V13q
 clear ln_12 V13q
 refine G (fun t k => XS.aload X12.here hx rfl (hb hby d5_79) rfl rfl (XS.iload X12.here hx rfl (hb hby d5_81) rfl (XS.iinc X12.here hx rfl (hb hby d5_83) rfl (l' := #[vr a1, vi 8, vr y3, vr b5, vr b7, vi ((0 : Int32) + (1 : Int32)), vi 0]) rfl (XS.aloadN X12.here hx rfl (hb hby d5_86) rfl rfl (XS.iload X12.here hx rfl (hb hby d5_87) rfl k))))) ?_
 obtain ⟨cl14, Ar14, -, Sz14, Ng14, Hs14, -⟩ := id V_y3
 have hin14 := inb_of (j := (0 : Int32)) (c := cl14) Sz14 ⟨by decide, by decide⟩
 refine G (fun t k => X12.laload hx (j := (0 : Int32)) (v := (.long (f10_a1_0 t0 t1 t2))) (by rw [e12]; exact Ar14.1) (State.isArrayOf_alike hZ.alike Ar14.2.1) Ar14.2.2 hin14 (Has.at Hs14 hin14 rfl) (g := (mkF m 89 #[vr a1, vi 8, vr y3, vr b5, vr b7, vi 1, vi 0] [(.int 0), (.ref y3), (.int 0), (.ref b7)])) rfl rfl (hb hby d5_89) _ k) ?_
 clear hin14 Hs14 Ng14 Sz14 Ar14 cl14
 refine G (fun t k => XS.l2i X12.here hx rfl (hb hby d5_90) rfl k) ?_
 show Go _ _ _ (T12.setTop (mkF m 91 #[vr a1, vi 8, vr y3, vr b5, vr b7, vi 1, vi 0] [(.int ((f10_a1_0 t0 t1 t2).toInt32)), (.int 0), (.ref b7)])) _
 obtain ⟨cl15, Ar15, qq15, Sz15, Ng15, Hs15, Gs15⟩ := id V_b7
 have hin15 := inb_of (j := (0 : Int32)) (c := cl15) Sz15 ⟨by decide, by decide⟩
 obtain ⟨T16, h16, X16, e16, W16, st16⟩ := stI X12 hx hZ e12 Ar15 (j := (0 : Int32)) hin15 (g := (mkF m 91 #[vr a1, vi 8, vr y3, vr b5, vr b7, vi 1, vi 0] [(.int ((f10_a1_0 t0 t1 t2).toInt32)), (.int 0), (.ref b7)])) rfl rfl (hb hby d5_91)
 refine G st16 ?_
 have N16 := Fr.snoc X16 N12 g_b7
 obtain ⟨LL16, X16, N16⟩ : ∃ LL, Stand p l e (Rm 4 5 19 84) s m #[(.ref a1), (.int (8 : Int32))] below meth c T16 LL 3 15 ∧ Fr n0 LL := ⟨_, X16, N16⟩
 replace V_y3 := V_y3.other W16 ne_y3_b7
 replace V_b5 := V_b5.other W16 ne_b5_b7
 replace Z0 := Nat.le_trans Z0 (Nat.le_of_eq W16.size.symm)
 replace K0 := K0.wr W16 (Or.inr sz_b7)
 replace V_b7 : Arv Z h16 b7 k7 .int (3 : Int32) [(.int ((f10_a1_0 t0 t1 t2).toInt32)), (.int (0 : Int32)), (.int (0 : Int32))] (.int (0 : Int32)) := Arv.set Ar15 qq15 Sz15 Ng15 Hs15 Gs15 rfl W16 0 rfl (Nat.le_of_ble_eq_true rfl)
 clear hin15 Gs15 Hs15 Ng15 Sz15 qq15 Ar15 cl15
 refine G (fun t k => XS.iinc X16.here hx rfl (hb hby d5_92) rfl (l' := #[vr a1, vi 8, vr y3, vr b5, vr b7, vi 1, vi ((0 : Int32) + (1 : Int32))]) rfl (XS.goto X16.here hx rfl (pc0 := 95) (pc' := 34) rfl (hb hby d5_95) (by decide) (by decide) (XS.iload X16.here hx rfl (hb hby d5_34) rfl (XS.aloadN X16.here hx rfl (hb hby d5_36) rfl rfl k)))) ?_
 obtain ⟨cl17, Ar17, -, Sz17, Ng17, -, -⟩ := id V_y3
 refine G (fun t k => X16.arraylength hx (by rw [e16]; exact Ar17.1) (State.isArrayOf_alike hZ.alike Ar17.2.1) (g := (mkF m 37 #[vr a1, vi 8, vr y3, vr b5, vr b7, vi 1, vi 1] [(.ref y3), (.int 1)])) rfl rfl (hb hby d5_37) _ k) ?_
 rw [len_of Sz17 Ng17]
 clear Ng17 Sz17 Ar17 cl17
 refine G (fun t k => XS.icmpNo X16.here hx rfl (hb hby d5_38) rfl (tlt (by decide : (1 : Int32) < (3 : Int32))).2.1 k) ?_
 show Go _ _ _ (T16.setTop (mkF m 41 #[vr a1, vi 8, vr y3, vr b5, vr b7, vi 1, vi 1] [])) _
 refine G (fun t k => XS.iload X16.here hx rfl (hb hby d5_41) rfl (XS.ifNo X16.here hx rfl (hb hby d5_43) rfl ((if0 _ _).trans (tlt (by decide : (0 : Int32) < (1 : Int32))).2.2.2) (XS.aloadN X16.here hx rfl (hb hby d5_46) rfl rfl (XS.iload X16.here hx rfl (hb hby d5_47) rfl k)))) ?_
 obtain ⟨cl18, Ar18, -, Sz18, Ng18, Hs18, -⟩ := id V_y3
 have hin18 := inb_of (j := (1 : Int32)) (c := cl18) Sz18 ⟨by decide, by decide⟩
 refine G (fun t k => X16.laload hx (j := (1 : Int32)) (v := (.long (f10_a1_1 t0 t1 t2))) (by rw [e16]; exact Ar18.1) (State.isArrayOf_alike hZ.alike Ar18.2.1) Ar18.2.2 hin18 (Has.at Hs18 hin18 rfl) (g := (mkF m 49 #[vr a1, vi 8, vr y3, vr b5, vr b7, vi 1, vi 1] [(.int 1), (.ref y3)])) rfl rfl (hb hby d5_49) _ k) ?_
 clear hin18 Hs18 Ng18 Sz18 Ar18 cl18
 refine G (fun t k => XS.aloadN X16.here hx rfl (hb hby d5_50) rfl rfl (XS.iload X16.here hx rfl (hb hby d5_51) rfl k)) ?_
 show Go _ _ _ (T16.setTop (mkF m 53 #[vr a1, vi 8, vr y3, vr b5, vr b7, vi 1, vi 1] [(.int 1), (.ref y3), (.long (f10_a1_1 t0 t1 t2))])) _
 refine G (fun t k => XS.iconst X16.here hx rfl (hb hby d5_53) (XS.isub X16.here hx rfl (hb hby d5_54) rfl k)) ?_
 obtain ⟨cl19, Ar19, -, Sz19, Ng19, Hs19, -⟩ := id V_y3
 have hin19 := inb_of (j := (0 : Int32)) (c := cl19) Sz19 ⟨by decide, by decide⟩
 refine G (fun t k => X16.laload hx (j := (0 : Int32)) (v := (.long (f10_a1_0 t0 t1 t2))) (by rw [e16]; exact Ar19.1) (State.isArrayOf_alike hZ.alike Ar19.2.1) Ar19.2.2 hin19 (Has.at Hs19 hin19 rfl) (g := (mkF m 55 #[vr a1, vi 8, vr y3, vr b5, vr b7, vi 1, vi 1] [(.int 0), (.ref y3), (.long (f10_a1_1 t0 t1 t2))])) rfl rfl (hb hby d5_55) _ k) ?_
 clear hin19 Hs19 Ng19 Sz19 Ar19 cl19
 refine G (fun t k => XS.lcmp X16.here hx rfl (hb hby d5_56) rfl (XS.ifYes X16.here hx rfl (pc0 := 57) (pc' := 63) rfl (hb hby d5_57) rfl ((if0 _ _).trans (feq (fun z => (show ¬ ((f10_a1_1 t0 t1 t2) = (f10_a1_0 t0 t1 t2)) from he1) ((lw_eq (f10_a1_1 t0 t1 t2) (f10_a1_0 t0 t1 t2)).mp z))).2) (by decide) (by decide) (XS.aloadN X16.here hx rfl (hb hby d5_63) rfl rfl (XS.aloadN X16.here hx rfl (hb hby d5_64) rfl rfl k)))) ?_
 show Go _ _ _ (T16.setTop (mkF m 65 #[vr a1, vi 8, vr y3, vr b5, vr b7, vi 1, vi 1] [(.ref y3), (.ref b5)])) _
 refine G (fun t k => XS.iload X16.here hx rfl (hb hby d5_65) rfl k) ?_
 obtain ⟨cl20, Ar20, -, Sz20, Ng20, Hs20, -⟩ := id V_y3
 have hin20 := inb_of (j := (1 : Int32)) (c := cl20) Sz20 ⟨by decide, by decide⟩
 refine G (fun t k => X16.laload hx (j := (1 : Int32)) (v := (.long (f10_a1_1 t0 t1 t2))) (by rw [e16]; exact Ar20.1) (State.isArrayOf_alike hZ.alike Ar20.2.1) Ar20.2.2 hin20 (Has.at Hs20 hin20 rfl) (g := (mkF m 67 #[vr a1, vi 8, vr y3, vr b5, vr b7, vi 1, vi 1] [(.int 1), (.ref y3), (.ref b5)])) rfl rfl (hb hby d5_67) _ k) ?_
 clear hin20 Hs20 Ng20 Sz20 Ar20 cl20
 refine G (fun t k => XS.bipush X16.here hx rfl (hb hby d5_68) (XS.lushr X16.here hx rfl (hb hby d5_70) rfl (XS.l2i X16.here hx rfl (hb hby d5_71) rfl (XS.iconst X16.here hx rfl (hb hby d5_72) (XS.iadd X16.here hx rfl (hb hby d5_73) rfl k))))) ?_
 show Go _ _ _ (T16.setTop (mkF m 74 #[vr a1, vi 8, vr y3, vr b5, vr b7, vi 1, vi 1] [(.int (((((f10_a1_1 t0 t1 t2).toUInt64 >>> ((32 : Int32) &&& 0x3f).toInt64.toUInt64).toInt64).toInt32) + (1 : Int32))), (.ref b5)])) _
 show Go _ _ _ (T16.setTop (mkF m 74 #[vr a1, vi 8, vr y3, vr b5, vr b7, vi 1, vi 1] [(.int (gi (f10_a1_1 t0 t1 t2))), (.ref b5)])) _
 refine G (fun t k => XT.dup2 X16.here hx rfl (hb hby d5_74) rfl rfl rfl k) ?_
 obtain ⟨cl21, Ar21, -, Sz21, Ng21, Hs21, -⟩ := id V_b5
 have hin21 := inb_of (j := (gi (f10_a1_1 t0 t1 t2))) (c := cl21) Sz21 hb1
 refine G (fun t k => X16.iaload hx (j := (gi (f10_a1_1 t0 t1 t2))) (v := (.int (own_at Y13 (gi (f10_a1_1 t0 t1 t2))))) (by rw [e16]; exact Ar21.1) (State.isArrayOf_alike hZ.alike Ar21.2.1) Ar21.2.2 hin21 (Has.at Hs21 hin21 (own_atv Y13 (gi (f10_a1_1 t0 t1 t2)))) (g := (mkF m 75 #[vr a1, vi 8, vr y3, vr b5, vr b7, vi 1, vi 1] [(.int (gi (f10_a1_1 t0 t1 t2))), (.ref b5), (.int (gi (f10_a1_1 t0 t1 t2))), (.ref b5)])) rfl rfl (hb hby d5_75) _ k) ?_
 clear hin21 Hs21 Ng21 Sz21 Ar21 cl21
 refine G (fun t k => XS.iconst X16.here hx rfl (hb hby d5_76) (XS.iadd X16.here hx rfl (hb hby d5_77) rfl k)) ?_
 obtain ⟨cl22, Ar22, qq22, Sz22, Ng22, Hs22, Gs22⟩ := id V_b5
 have hin22 := inb_of (j := (gi (f10_a1_1 t0 t1 t2))) (c := cl22) Sz22 hb1
 obtain ⟨T23, h23, X23, e23, W23, st23⟩ := stI X16 hx hZ e16 Ar22 (j := (gi (f10_a1_1 t0 t1 t2))) hin22 (g := (mkF m 78 #[vr a1, vi 8, vr y3, vr b5, vr b7, vi 1, vi 1] [(.int ((own_at Y13 (gi (f10_a1_1 t0 t1 t2))) + (1 : Int32))), (.int (gi (f10_a1_1 t0 t1 t2))), (.ref b5)])) rfl rfl (hb hby d5_78)
 refine G st23 ?_
 have N23 := Fr.snoc X23 N16 g_b5
 replace V_y3 := V_y3.other W23 ne_y3_b5
 replace V_b7 := V_b7.other W23 (Ne.symm ne_b5_b7)
 replace Z0 := Nat.le_trans Z0 (Nat.le_of_eq W23.size.symm)
 replace K0 := K0.wr W23 (Or.inr sz_b5)
 replace V_b5 : Arv Z h23 b5 k5 .int (9 : Int32) (List.map Value.int (bump (gi (f10_a1_1 t0 t1 t2)) Y13)) (.int (0 : Int32)) := own_mset (Arv.set Ar22 qq22 Sz22 Ng22 Hs22 Gs22 rfl W23 _ rfl (own_mlt lY13 hb1))
 have ln_23 : ((bump (gi (f10_a1_1 t0 t1 t2)) Y13)).length = 9 := lset_len lY13
 clear hin22 Gs22 Hs22 Ng22 Sz22 qq22 Ar22 cl22
 show Go _ _ _ (T23.setTop (mkF m 79 #[vr a1, vi 8, vr y3, vr b5, vr b7, vi 1, vi 1] [])) _
 obtain ⟨Y24, eY24, lY24, V24q⟩ : ∃ Y, Y = (bump (gi (f10_a1_1 t0 t1 t2)) Y13) ∧ Y.length = 9 ∧ Arv Z h23 b5 k5 .int (9 : Int32) (List.map Value.int Y) (.int (0 : Int32)) := ⟨_, rfl, ln_23, V_b5⟩
 replace V_b5 := V24q
 clear ln_23 V24q
 refine G (fun t k => XS.aload X23.here hx rfl (hb hby d5_79) rfl rfl (XS.iload X23.here hx rfl (hb hby d5_81) rfl (XS.iinc X23.here hx rfl (hb hby d5_83) rfl (l' := #[vr a1, vi 8, vr y3, vr b5, vr b7, vi ((1 : Int32) + (1 : Int32)), vi 1]) rfl (XS.aloadN X23.here hx rfl (hb hby d5_86) rfl rfl (XS.iload X23.here hx rfl (hb hby d5_87) rfl k))))) ?_
 obtain ⟨cl25, Ar25, -, Sz25, Ng25, Hs25, -⟩ := id V_y3
 have hin25 := inb_of (j := (1 : Int32)) (c := cl25) Sz25 ⟨by decide, by decide⟩
 refine G (fun t k => X23.laload hx (j := (1 : Int32)) (v := (.long (f10_a1_1 t0 t1 t2))) (by rw [e23]; exact Ar25.1) (State.isArrayOf_alike hZ.alike Ar25.2.1) Ar25.2.2 hin25 (Has.at Hs25 hin25 rfl) (g := (mkF m 89 #[vr a1, vi 8, vr y3, vr b5, vr b7, vi 2, vi 1] [(.int 1), (.ref y3), (.int 1), (.ref b7)])) rfl rfl (hb hby d5_89) _ k) ?_
 clear hin25 Hs25 Ng25 Sz25 Ar25 cl25
 refine G (fun t k => XS.l2i X23.here hx rfl (hb hby d5_90) rfl k) ?_
 show Go _ _ _ (T23.setTop (mkF m 91 #[vr a1, vi 8, vr y3, vr b5, vr b7, vi 2, vi 1] [(.int ((f10_a1_1 t0 t1 t2).toInt32)), (.int 1), (.ref b7)])) _
 obtain ⟨cl26, Ar26, qq26, Sz26, Ng26, Hs26, Gs26⟩ := id V_b7
 have hin26 := inb_of (j := (1 : Int32)) (c := cl26) Sz26 ⟨by decide, by decide⟩
 obtain ⟨T27, h27, X27, e27, W27, st27⟩ := stI X23 hx hZ e23 Ar26 (j := (1 : Int32)) hin26 (g := (mkF m 91 #[vr a1, vi 8, vr y3, vr b5, vr b7, vi 2, vi 1] [(.int ((f10_a1_1 t0 t1 t2).toInt32)), (.int 1), (.ref b7)])) rfl rfl (hb hby d5_91)
 refine G st27 ?_
 have N27 := Fr.snoc X27 N23 g_b7
 replace V_y3 := V_y3.other W27 ne_y3_b7
 replace V_b5 := V_b5.other W27 ne_b5_b7
 replace Z0 := Nat.le_trans Z0 (Nat.le_of_eq W27.size.symm)
 replace K0 := K0.wr W27 (Or.inr sz_b7)
 replace V_b7 : Arv Z h27 b7 k7 .int (3 : Int32) [(.int ((f10_a1_0 t0 t1 t2).toInt32)), (.int ((f10_a1_1 t0 t1 t2).toInt32)), (.int (0 : Int32))] (.int (0 : Int32)) := Arv.set Ar26 qq26 Sz26 Ng26 Hs26 Gs26 rfl W27 1 rfl (Nat.le_of_ble_eq_true rfl)
 clear hin26 Gs26 Hs26 Ng26 Sz26 qq26 Ar26 cl26
 refine G (fun t k => XS.iinc X27.here hx rfl (hb hby d5_92) rfl (l' := #[vr a1, vi 8, vr y3, vr b5, vr b7, vi 2, vi ((1 : Int32) + (1 : Int32))]) rfl (XS.goto X27.here hx rfl (pc0 := 95) (pc' := 34) rfl (hb hby d5_95) (by decide) (by decide) (XS.iload X27.here hx rfl (hb hby d5_34) rfl (XS.aloadN X27.here hx rfl (hb hby d5_36) rfl rfl k)))) ?_
 obtain ⟨cl28, Ar28, -, Sz28, Ng28, -, -⟩ := id V_y3
 refine G (fun t k => X27.arraylength hx (by rw [e27]; exact Ar28.1) (State.isArrayOf_alike hZ.alike Ar28.2.1) (g := (mkF m 37 #[vr a1, vi 8, vr y3, vr b5, vr b7, vi 2, vi 2] [(.ref y3), (.int 2)])) rfl rfl (hb hby d5_37) _ k) ?_
 rw [len_of Sz28 Ng28]
 clear Ng28 Sz28 Ar28 cl28
 refine G (fun t k => XS.icmpNo X27.here hx rfl (hb hby d5_38) rfl (tlt (by decide : (2 : Int32) < (3 : Int32))).2.1 k) ?_
 show Go _ _ _ (T27.setTop (mkF m 41 #[vr a1, vi 8, vr y3, vr b5, vr b7, vi 2, vi 2] [])) _
 refine G (fun t k => XS.iload X27.here hx rfl (hb hby d5_41) rfl (XS.ifNo X27.here hx rfl (hb hby d5_43) rfl ((if0 _ _).trans (tlt (by decide : (0 : Int32) < (2 : Int32))).2.2.2) (XS.aloadN X27.here hx rfl (hb hby d5_46) rfl rfl (XS.iload X27.here hx rfl (hb hby d5_47) rfl k)))) ?_
 obtain ⟨cl29, Ar29, -, Sz29, Ng29, Hs29, -⟩ := id V_y3
 have hin29 := inb_of (j := (2 : Int32)) (c := cl29) Sz29 ⟨by decide, by decide⟩
 refine G (fun t k => X27.laload hx (j := (2 : Int32)) (v := (.long (f10_a1_2 t0 t1 t2))) (by rw [e27]; exact Ar29.1) (State.isArrayOf_alike hZ.alike Ar29.2.1) Ar29.2.2 hin29 (Has.at Hs29 hin29 rfl) (g := (mkF m 49 #[vr a1, vi 8, vr y3, vr b5, vr b7, vi 2, vi 2] [(.int 2), (.ref y3)])) rfl rfl (hb hby d5_49) _ k) ?_
 clear hin29 Hs29 Ng29 Sz29 Ar29 cl29
 refine G (fun t k => XS.aloadN X27.here hx rfl (hb hby d5_50) rfl rfl (XS.iload X27.here hx rfl (hb hby d5_51) rfl k)) ?_
 show Go _ _ _ (T27.setTop (mkF m 53 #[vr a1, vi 8, vr y3, vr b5, vr b7, vi 2, vi 2] [(.int 2), (.ref y3), (.long (f10_a1_2 t0 t1 t2))])) _
 refine G (fun t k => XS.iconst X27.here hx rfl (hb hby d5_53) (XS.isub X27.here hx rfl (hb hby d5_54) rfl k)) ?_
 obtain ⟨cl30, Ar30, -, Sz30, Ng30, Hs30, -⟩ := id V_y3
 have hin30 := inb_of (j := (1 : Int32)) (c := cl30) Sz30 ⟨by decide, by decide⟩
 refine G (fun t k => X27.laload hx (j := (1 : Int32)) (v := (.long (f10_a1_1 t0 t1 t2))) (by rw [e27]; exact Ar30.1) (State.isArrayOf_alike hZ.alike Ar30.2.1) Ar30.2.2 hin30 (Has.at Hs30 hin30 rfl) (g := (mkF m 55 #[vr a1, vi 8, vr y3, vr b5, vr b7, vi 2, vi 2] [(.int 1), (.ref y3), (.long (f10_a1_2 t0 t1 t2))])) rfl rfl (hb hby d5_55) _ k) ?_
 clear hin30 Hs30 Ng30 Sz30 Ar30 cl30
 refine G (fun t k => XS.lcmp X27.here hx rfl (hb hby d5_56) rfl (XS.ifNo X27.here hx rfl (hb hby d5_57) rfl ((if0 _ _).trans (teq ((lw_eq (f10_a1_2 t0 t1 t2) (f10_a1_1 t0 t1 t2)).mpr (show (f10_a1_2 t0 t1 t2) = (f10_a1_1 t0 t1 t2) from he2))).2) (XS.goto X27.here hx rfl (pc0 := 60) (pc' := 92) rfl (hb hby d5_60) (by decide) (by decide) (XS.iinc X27.here hx rfl (hb hby d5_92) rfl (l' := #[vr a1, vi 8, vr y3, vr b5, vr b7, vi 2, vi ((2 : Int32) + (1 : Int32))]) rfl k)))) ?_
 show Go _ _ _ (T27.setTop (mkF m 95 #[vr a1, vi 8, vr y3, vr b5, vr b7, vi 2, vi 3] [])) _
 refine G (fun t k => XS.goto X27.here hx rfl (pc0 := 95) (pc' := 34) rfl (hb hby d5_95) (by decide) (by decide) (XS.iload X27.here hx rfl (hb hby d5_34) rfl (XS.aloadN X27.here hx rfl (hb hby d5_36) rfl rfl k))) ?_
 obtain ⟨cl31, Ar31, -, Sz31, Ng31, -, -⟩ := id V_y3
 refine G (fun t k => X27.arraylength hx (by rw [e27]; exact Ar31.1) (State.isArrayOf_alike hZ.alike Ar31.2.1) (g := (mkF m 37 #[vr a1, vi 8, vr y3, vr b5, vr b7, vi 2, vi 3] [(.ref y3), (.int 3)])) rfl rfl (hb hby d5_37) _ k) ?_
 rw [len_of Sz31 Ng31]
 clear Ng31 Sz31 Ar31 cl31
 refine G (fun t k => XS.icmpYes X27.here hx rfl (pc0 := 38) (pc' := 98) rfl (hb hby d5_38) rfl (flt (by decide : ¬ ((3 : Int32) < (3 : Int32)))).2.1 (by decide) (by decide) k) ?_
 show Go _ _ _ (T27.setTop (mkF m 98 #[vr a1, vi 8, vr y3, vr b5, vr b7, vi 2, vi 3] [])) _
 refine G (fun t k => XS.iconst X27.here hx rfl (hb hby d5_98) (XS.istore X27.here hx rfl (hb hby d5_99) rfl (l' := #[vr a1, vi 8, vr y3, vr b5, vr b7, vi 2, vi 0]) rfl (XS.iload X27.here hx rfl (hb hby d5_101) rfl (XS.iloadN X27.here hx rfl (hb hby d5_103) rfl (XS.icmpNo X27.here hx rfl (hb hby d5_104) rfl (tlt (by decide : (0 : Int32) < (8 : Int32))).2.1 (XS.aloadN X27.here hx rfl (hb hby d5_107) rfl rfl k)))))) ?_
 refine G (fun t k => XS.iload X27.here hx rfl (hb hby d5_108) rfl k) ?_
 show Go _ _ _ (T27.setTop (mkF m 110 #[vr a1, vi 8, vr y3, vr b5, vr b7, vi 2, vi 0] [(.int 0), (.ref b5)])) _
 refine G (fun t k => XS.iconst X27.here hx rfl (hb hby d5_110) (XS.iadd X27.here hx rfl (hb hby d5_111) rfl (XT.dup2 X27.here hx rfl (hb hby d5_112) rfl rfl rfl k))) ?_
 obtain ⟨cl32, Ar32, -, Sz32, Ng32, Hs32, -⟩ := id V_b5
 have hin32 := inb_of (j := (1 : Int32)) (c := cl32) Sz32 ⟨by decide, by decide⟩
 refine G (fun t k => X27.iaload hx (j := (1 : Int32)) (v := (.int (own_at Y24 (1 : Int32)))) (by rw [e27]; exact Ar32.1) (State.isArrayOf_alike hZ.alike Ar32.2.1) Ar32.2.2 hin32 (Has.at Hs32 hin32 (own_atv Y24 (1 : Int32))) (g := (mkF m 113 #[vr a1, vi 8, vr y3, vr b5, vr b7, vi 2, vi 0] [(.int 1), (.ref b5), (.int 1), (.ref b5)])) rfl rfl (hb hby d5_113) _ k) ?_
 clear hin32 Hs32 Ng32 Sz32 Ar32 cl32
 refine G (fun t k => XS.aloadN X27.here hx rfl (hb hby d5_114) rfl rfl (XS.iload X27.here hx rfl (hb hby d5_115) rfl k)) ?_
 obtain ⟨cl33, Ar33, -, Sz33, Ng33, Hs33, -⟩ := id V_b5
 have hin33 := inb_of (j := (0 : Int32)) (c := cl33) Sz33 ⟨by decide, by decide⟩
 refine G (fun t k => X27.iaload hx (j := (0 : Int32)) (v := (.int (own_at Y24 (0 : Int32)))) (by rw [e27]; exact Ar33.1) (State.isArrayOf_alike hZ.alike Ar33.2.1) Ar33.2.2 hin33 (Has.at Hs33 hin33 (own_atv Y24 (0 : Int32))) (g := (mkF m 117 #[vr a1, vi 8, vr y3, vr b5, vr b7, vi 2, vi 0] [(.int 0), (.ref b5), (.int (own_at Y24 (1 : Int32))), (.int 1), (.ref b5)])) rfl rfl (hb hby d5_117) _ k) ?_
 clear hin33 Hs33 Ng33 Sz33 Ar33 cl33
 show Go _ _ _ (T27.setTop (mkF m 118 #[vr a1, vi 8, vr y3, vr b5, vr b7, vi 2, vi 0] [(.int (own_at Y24 (0 : Int32))), (.int (own_at Y24 (1 : Int32))), (.int 1), (.ref b5)])) _
 refine G (fun t k => XS.iadd X27.here hx rfl (hb hby d5_118) rfl k) ?_
 obtain ⟨cl34, Ar34, qq34, Sz34, Ng34, Hs34, Gs34⟩ := id V_b5
 have hin34 := inb_of (j := (1 : Int32)) (c := cl34) Sz34 ⟨by decide, by decide⟩
 obtain ⟨T35, h35, X35, e35, W35, st35⟩ := stI X27 hx hZ e27 Ar34 (j := (1 : Int32)) hin34 (g := (mkF m 119 #[vr a1, vi 8, vr y3, vr b5, vr b7, vi 2, vi 0] [(.int ((own_at Y24 (1 : Int32)) + (own_at Y24 (0 : Int32)))), (.int 1), (.ref b5)])) rfl rfl (hb hby d5_119)
 refine G st35 ?_
 have N35 := Fr.snoc X35 N27 g_b5
 replace V_b7 := V_b7.other W35 (Ne.symm ne_b5_b7)
 replace Z0 := Nat.le_trans Z0 (Nat.le_of_eq W35.size.symm)
 replace K0 := K0.wr W35 (Or.inr sz_b5)
 replace V_b5 : Arv Z h35 b5 k5 .int (9 : Int32) (List.map Value.int (pre (1 : Int32) (0 : Int32) Y24)) (.int (0 : Int32)) := own_mset (Arv.set Ar34 qq34 Sz34 Ng34 Hs34 Gs34 rfl W35 _ rfl (own_mlt lY24 ⟨by decide, by decide⟩))
 have ln_35 : ((pre (1 : Int32) (0 : Int32) Y24)).length = 9 := lset_len lY24
 clear hin34 Gs34 Hs34 Ng34 Sz34 qq34 Ar34 cl34
 show Go _ _ _ (T35.setTop (mkF m 120 #[vr a1, vi 8, vr y3, vr b5, vr b7, vi 2, vi 0] [])) _
 obtain ⟨Y36, eY36, lY36, V36q⟩ : ∃ Y, Y = (pre (1 : Int32) (0 : Int32) Y24) ∧ Y.length = 9 ∧ Arv Z h35 b5 k5 .int (9 : Int32) (List.map Value.int Y) (.int (0 : Int32)) := ⟨_, rfl, ln_35, V_b5⟩
 replace V_b5 := V36q
 clear ln_35 V36q
 refine G (fun t k => XS.iinc X35.here hx rfl (hb hby d5_120) rfl (l' := #[vr a1, vi 8, vr y3, vr b5, vr b7, vi 2, vi ((0 : Int32) + (1 : Int32))]) rfl (XS.goto X35.here hx rfl (pc0 := 123) (pc' := 101) rfl (hb hby d5_123) (by decide) (by decide) (XS.iload X35.here hx rfl (hb hby d5_101) rfl (XS.iloadN X35.here hx rfl (hb hby d5_103) rfl (XS.icmpNo X35.here hx rfl (hb hby d5_104) rfl (tlt (by decide : (1 : Int32) < (8 : Int32))).2.1 (XS.aloadN X35.here hx rfl (hb hby d5_107) rfl rfl k)))))) ?_
 refine G (fun t k => XS.iload X35.here hx rfl (hb hby d5_108) rfl k) ?_
 show Go _ _ _ (T35.setTop (mkF m 110 #[vr a1, vi 8, vr y3, vr b5, vr b7, vi 2, vi 1] [(.int 1), (.ref b5)])) _
 refine G (fun t k => XS.iconst X35.here hx rfl (hb hby d5_110) (XS.iadd X35.here hx rfl (hb hby d5_111) rfl (XT.dup2 X35.here hx rfl (hb hby d5_112) rfl rfl rfl k))) ?_
 obtain ⟨cl37, Ar37, -, Sz37, Ng37, Hs37, -⟩ := id V_b5
 have hin37 := inb_of (j := (2 : Int32)) (c := cl37) Sz37 ⟨by decide, by decide⟩
 refine G (fun t k => X35.iaload hx (j := (2 : Int32)) (v := (.int (own_at Y36 (2 : Int32)))) (by rw [e35]; exact Ar37.1) (State.isArrayOf_alike hZ.alike Ar37.2.1) Ar37.2.2 hin37 (Has.at Hs37 hin37 (own_atv Y36 (2 : Int32))) (g := (mkF m 113 #[vr a1, vi 8, vr y3, vr b5, vr b7, vi 2, vi 1] [(.int 2), (.ref b5), (.int 2), (.ref b5)])) rfl rfl (hb hby d5_113) _ k) ?_
 clear hin37 Hs37 Ng37 Sz37 Ar37 cl37
 refine G (fun t k => XS.aloadN X35.here hx rfl (hb hby d5_114) rfl rfl (XS.iload X35.here hx rfl (hb hby d5_115) rfl k)) ?_
 obtain ⟨cl38, Ar38, -, Sz38, Ng38, Hs38, -⟩ := id V_b5
 have hin38 := inb_of (j := (1 : Int32)) (c := cl38) Sz38 ⟨by decide, by decide⟩
 refine G (fun t k => X35.iaload hx (j := (1 : Int32)) (v := (.int (own_at Y36 (1 : Int32)))) (by rw [e35]; exact Ar38.1) (State.isArrayOf_alike hZ.alike Ar38.2.1) Ar38.2.2 hin38 (Has.at Hs38 hin38 (own_atv Y36 (1 : Int32))) (g := (mkF m 117 #[vr a1, vi 8, vr y3, vr b5, vr b7, vi 2, vi 1] [(.int 1), (.ref b5), (.int (own_at Y36 (2 : Int32))), (.int 2), (.ref b5)])) rfl rfl (hb hby d5_117) _ k) ?_
 clear hin38 Hs38 Ng38 Sz38 Ar38 cl38
 show Go _ _ _ (T35.setTop (mkF m 118 #[vr a1, vi 8, vr y3, vr b5, vr b7, vi 2, vi 1] [(.int (own_at Y36 (1 : Int32))), (.int (own_at Y36 (2 : Int32))), (.int 2), (.ref b5)])) _
 refine G (fun t k => XS.iadd X35.here hx rfl (hb hby d5_118) rfl k) ?_
 obtain ⟨cl39, Ar39, qq39, Sz39, Ng39, Hs39, Gs39⟩ := id V_b5
 have hin39 := inb_of (j := (2 : Int32)) (c := cl39) Sz39 ⟨by decide, by decide⟩
 obtain ⟨T40, h40, X40, e40, W40, st40⟩ := stI X35 hx hZ e35 Ar39 (j := (2 : Int32)) hin39 (g := (mkF m 119 #[vr a1, vi 8, vr y3, vr b5, vr b7, vi 2, vi 1] [(.int ((own_at Y36 (2 : Int32)) + (own_at Y36 (1 : Int32)))), (.int 2), (.ref b5)])) rfl rfl (hb hby d5_119)
 refine G st40 ?_
 have N40 := Fr.snoc X40 N35 g_b5
 obtain ⟨LL40, X40, N40⟩ : ∃ LL, Stand p l e (Rm 4 5 19 84) s m #[(.ref a1), (.int (8 : Int32))] below meth c T40 LL 3 15 ∧ Fr n0 LL := ⟨_, X40, N40⟩
 replace V_b7 := V_b7.other W40 (Ne.symm ne_b5_b7)
 replace Z0 := Nat.le_trans Z0 (Nat.le_of_eq W40.size.symm)
 replace K0 := K0.wr W40 (Or.inr sz_b5)
 replace V_b5 : Arv Z h40 b5 k5 .int (9 : Int32) (List.map Value.int (pre (2 : Int32) (1 : Int32) Y36)) (.int (0 : Int32)) := own_mset (Arv.set Ar39 qq39 Sz39 Ng39 Hs39 Gs39 rfl W40 _ rfl (own_mlt lY36 ⟨by decide, by decide⟩))
 have ln_40 : ((pre (2 : Int32) (1 : Int32) Y36)).length = 9 := lset_len lY36
 clear hin39 Gs39 Hs39 Ng39 Sz39 qq39 Ar39 cl39
 show Go _ _ _ (T40.setTop (mkF m 120 #[vr a1, vi 8, vr y3, vr b5, vr b7, vi 2, vi 1] [])) _
 obtain ⟨Y41, eY41, lY41, V41q⟩ : ∃ Y, Y = (pre (2 : Int32) (1 : Int32) Y36) ∧ Y.length = 9 ∧ Arv Z h40 b5 k5 .int (9 : Int32) (List.map Value.int Y) (.int (0 : Int32)) := ⟨_, rfl, ln_40, V_b5⟩
 replace V_b5 := V41q
 clear ln_40 V41q
 refine G (fun t k => XS.iinc X40.here hx rfl (hb hby d5_120) rfl (l' := #[vr a1, vi 8, vr y3, vr b5, vr b7, vi 2, vi ((1 : Int32) + (1 : Int32))]) rfl (XS.goto X40.here hx rfl (pc0 := 123) (pc' := 101) rfl (hb hby d5_123) (by decide) (by decide) (XS.iload X40.here hx rfl (hb hby d5_101) rfl (XS.iloadN X40.here hx rfl (hb hby d5_103) rfl (XS.icmpNo X40.here hx rfl (hb hby d5_104) rfl (tlt (by decide : (2 : Int32) < (8 : Int32))).2.1 (XS.aloadN X40.here hx rfl (hb hby d5_107) rfl rfl k)))))) ?_
 refine G (fun t k => XS.iload X40.here hx rfl (hb hby d5_108) rfl k) ?_
 show Go _ _ _ (T40.setTop (mkF m 110 #[vr a1, vi 8, vr y3, vr b5, vr b7, vi 2, vi 2] [(.int 2), (.ref b5)])) _
 refine G (fun t k => XS.iconst X40.here hx rfl (hb hby d5_110) (XS.iadd X40.here hx rfl (hb hby d5_111) rfl (XT.dup2 X40.here hx rfl (hb hby d5_112) rfl rfl rfl k))) ?_
 obtain ⟨cl42, Ar42, -, Sz42, Ng42, Hs42, -⟩ := id V_b5
 have hin42 := inb_of (j := (3 : Int32)) (c := cl42) Sz42 ⟨by decide, by decide⟩
 refine G (fun t k => X40.iaload hx (j := (3 : Int32)) (v := (.int (own_at Y41 (3 : Int32)))) (by rw [e40]; exact Ar42.1) (State.isArrayOf_alike hZ.alike Ar42.2.1) Ar42.2.2 hin42 (Has.at Hs42 hin42 (own_atv Y41 (3 : Int32))) (g := (mkF m 113 #[vr a1, vi 8, vr y3, vr b5, vr b7, vi 2, vi 2] [(.int 3), (.ref b5), (.int 3), (.ref b5)])) rfl rfl (hb hby d5_113) _ k) ?_
 clear hin42 Hs42 Ng42 Sz42 Ar42 cl42
 refine G (fun t k => XS.aloadN X40.here hx rfl (hb hby d5_114) rfl rfl (XS.iload X40.here hx rfl (hb hby d5_115) rfl k)) ?_
 obtain ⟨cl43, Ar43, -, Sz43, Ng43, Hs43, -⟩ := id V_b5
 have hin43 := inb_of (j := (2 : Int32)) (c := cl43) Sz43 ⟨by decide, by decide⟩
 refine G (fun t k => X40.iaload hx (j := (2 : Int32)) (v := (.int (own_at Y41 (2 : Int32)))) (by rw [e40]; exact Ar43.1) (State.isArrayOf_alike hZ.alike Ar43.2.1) Ar43.2.2 hin43 (Has.at Hs43 hin43 (own_atv Y41 (2 : Int32))) (g := (mkF m 117 #[vr a1, vi 8, vr y3, vr b5, vr b7, vi 2, vi 2] [(.int 2), (.ref b5), (.int (own_at Y41 (3 : Int32))), (.int 3), (.ref b5)])) rfl rfl (hb hby d5_117) _ k) ?_
 clear hin43 Hs43 Ng43 Sz43 Ar43 cl43
 show Go _ _ _ (T40.setTop (mkF m 118 #[vr a1, vi 8, vr y3, vr b5, vr b7, vi 2, vi 2] [(.int (own_at Y41 (2 : Int32))), (.int (own_at Y41 (3 : Int32))), (.int 3), (.ref b5)])) _
 refine G (fun t k => XS.iadd X40.here hx rfl (hb hby d5_118) rfl k) ?_
 obtain ⟨cl44, Ar44, qq44, Sz44, Ng44, Hs44, Gs44⟩ := id V_b5
 have hin44 := inb_of (j := (3 : Int32)) (c := cl44) Sz44 ⟨by decide, by decide⟩
 obtain ⟨T45, h45, X45, e45, W45, st45⟩ := stI X40 hx hZ e40 Ar44 (j := (3 : Int32)) hin44 (g := (mkF m 119 #[vr a1, vi 8, vr y3, vr b5, vr b7, vi 2, vi 2] [(.int ((own_at Y41 (3 : Int32)) + (own_at Y41 (2 : Int32)))), (.int 3), (.ref b5)])) rfl rfl (hb hby d5_119)
 refine G st45 ?_
 have N45 := Fr.snoc X45 N40 g_b5
 replace V_b7 := V_b7.other W45 (Ne.symm ne_b5_b7)
 replace Z0 := Nat.le_trans Z0 (Nat.le_of_eq W45.size.symm)
 replace K0 := K0.wr W45 (Or.inr sz_b5)
 replace V_b5 : Arv Z h45 b5 k5 .int (9 : Int32) (List.map Value.int (pre (3 : Int32) (2 : Int32) Y41)) (.int (0 : Int32)) := own_mset (Arv.set Ar44 qq44 Sz44 Ng44 Hs44 Gs44 rfl W45 _ rfl (own_mlt lY41 ⟨by decide, by decide⟩))
 have ln_45 : ((pre (3 : Int32) (2 : Int32) Y41)).length = 9 := lset_len lY41
 clear hin44 Gs44 Hs44 Ng44 Sz44 qq44 Ar44 cl44
 show Go _ _ _ (T45.setTop (mkF m 120 #[vr a1, vi 8, vr y3, vr b5, vr b7, vi 2, vi 2] [])) _
 obtain ⟨Y46, eY46, lY46, V46q⟩ : ∃ Y, Y = (pre (3 : Int32) (2 : Int32) Y41) ∧ Y.length = 9 ∧ Arv Z h45 b5 k5 .int (9 : Int32) (List.map Value.int Y) (.int (0 : Int32)) := ⟨_, rfl, ln_45, V_b5⟩
 replace V_b5 := V46q
 clear ln_45 V46q
 refine G (fun t k => XS.iinc X45.here hx rfl (hb hby d5_120) rfl (l' := #[vr a1, vi 8, vr y3, vr b5, vr b7, vi 2, vi ((2 : Int32) + (1 : Int32))]) rfl (XS.goto X45.here hx rfl (pc0 := 123) (pc' := 101) rfl (hb hby d5_123) (by decide) (by decide) (XS.iload X45.here hx rfl (hb hby d5_101) rfl (XS.iloadN X45.here hx rfl (hb hby d5_103) rfl (XS.icmpNo X45.here hx rfl (hb hby d5_104) rfl (tlt (by decide : (3 : Int32) < (8 : Int32))).2.1 (XS.aloadN X45.here hx rfl (hb hby d5_107) rfl rfl k)))))) ?_
 refine G (fun t k => XS.iload X45.here hx rfl (hb hby d5_108) rfl k) ?_
 show Go _ _ _ (T45.setTop (mkF m 110 #[vr a1, vi 8, vr y3, vr b5, vr b7, vi 2, vi 3] [(.int 3), (.ref b5)])) _
 refine G (fun t k => XS.iconst X45.here hx rfl (hb hby d5_110) (XS.iadd X45.here hx rfl (hb hby d5_111) rfl (XT.dup2 X45.here hx rfl (hb hby d5_112) rfl rfl rfl k))) ?_
 obtain ⟨cl47, Ar47, -, Sz47, Ng47, Hs47, -⟩ := id V_b5
 have hin47 := inb_of (j := (4 : Int32)) (c := cl47) Sz47 ⟨by decide, by decide⟩
 refine G (fun t k => X45.iaload hx (j := (4 : Int32)) (v := (.int (own_at Y46 (4 : Int32)))) (by rw [e45]; exact Ar47.1) (State.isArrayOf_alike hZ.alike Ar47.2.1) Ar47.2.2 hin47 (Has.at Hs47 hin47 (own_atv Y46 (4 : Int32))) (g := (mkF m 113 #[vr a1, vi 8, vr y3, vr b5, vr b7, vi 2, vi 3] [(.int 4), (.ref b5), (.int 4), (.ref b5)])) rfl rfl (hb hby d5_113) _ k) ?_
 clear hin47 Hs47 Ng47 Sz47 Ar47 cl47
 refine G (fun t k => XS.aloadN X45.here hx rfl (hb hby d5_114) rfl rfl (XS.iload X45.here hx rfl (hb hby d5_115) rfl k)) ?_
 obtain ⟨cl48, Ar48, -, Sz48, Ng48, Hs48, -⟩ := id V_b5
 have hin48 := inb_of (j := (3 : Int32)) (c := cl48) Sz48 ⟨by decide, by decide⟩
 refine G (fun t k => X45.iaload hx (j := (3 : Int32)) (v := (.int (own_at Y46 (3 : Int32)))) (by rw [e45]; exact Ar48.1) (State.isArrayOf_alike hZ.alike Ar48.2.1) Ar48.2.2 hin48 (Has.at Hs48 hin48 (own_atv Y46 (3 : Int32))) (g := (mkF m 117 #[vr a1, vi 8, vr y3, vr b5, vr b7, vi 2, vi 3] [(.int 3), (.ref b5), (.int (own_at Y46 (4 : Int32))), (.int 4), (.ref b5)])) rfl rfl (hb hby d5_117) _ k) ?_
 clear hin48 Hs48 Ng48 Sz48 Ar48 cl48
 show Go _ _ _ (T45.setTop (mkF m 118 #[vr a1, vi 8, vr y3, vr b5, vr b7, vi 2, vi 3] [(.int (own_at Y46 (3 : Int32))), (.int (own_at Y46 (4 : Int32))), (.int 4), (.ref b5)])) _
 refine G (fun t k => XS.iadd X45.here hx rfl (hb hby d5_118) rfl k) ?_
 obtain ⟨cl49, Ar49, qq49, Sz49, Ng49, Hs49, Gs49⟩ := id V_b5
 have hin49 := inb_of (j := (4 : Int32)) (c := cl49) Sz49 ⟨by decide, by decide⟩
 obtain ⟨T50, h50, X50, e50, W50, st50⟩ := stI X45 hx hZ e45 Ar49 (j := (4 : Int32)) hin49 (g := (mkF m 119 #[vr a1, vi 8, vr y3, vr b5, vr b7, vi 2, vi 3] [(.int ((own_at Y46 (4 : Int32)) + (own_at Y46 (3 : Int32)))), (.int 4), (.ref b5)])) rfl rfl (hb hby d5_119)
 refine G st50 ?_
 have N50 := Fr.snoc X50 N45 g_b5
 replace V_b7 := V_b7.other W50 (Ne.symm ne_b5_b7)
 replace Z0 := Nat.le_trans Z0 (Nat.le_of_eq W50.size.symm)
 replace K0 := K0.wr W50 (Or.inr sz_b5)
 replace V_b5 : Arv Z h50 b5 k5 .int (9 : Int32) (List.map Value.int (pre (4 : Int32) (3 : Int32) Y46)) (.int (0 : Int32)) := own_mset (Arv.set Ar49 qq49 Sz49 Ng49 Hs49 Gs49 rfl W50 _ rfl (own_mlt lY46 ⟨by decide, by decide⟩))
 have ln_50 : ((pre (4 : Int32) (3 : Int32) Y46)).length = 9 := lset_len lY46
 clear hin49 Gs49 Hs49 Ng49 Sz49 qq49 Ar49 cl49
 show Go _ _ _ (T50.setTop (mkF m 120 #[vr a1, vi 8, vr y3, vr b5, vr b7, vi 2, vi 3] [])) _
 obtain ⟨Y51, eY51, lY51, V51q⟩ : ∃ Y, Y = (pre (4 : Int32) (3 : Int32) Y46) ∧ Y.length = 9 ∧ Arv Z h50 b5 k5 .int (9 : Int32) (List.map Value.int Y) (.int (0 : Int32)) := ⟨_, rfl, ln_50, V_b5⟩
 replace V_b5 := V51q
 clear ln_50 V51q
 refine G (fun t k => XS.iinc X50.here hx rfl (hb hby d5_120) rfl (l' := #[vr a1, vi 8, vr y3, vr b5, vr b7, vi 2, vi ((3 : Int32) + (1 : Int32))]) rfl (XS.goto X50.here hx rfl (pc0 := 123) (pc' := 101) rfl (hb hby d5_123) (by decide) (by decide) (XS.iload X50.here hx rfl (hb hby d5_101) rfl (XS.iloadN X50.here hx rfl (hb hby d5_103) rfl (XS.icmpNo X50.here hx rfl (hb hby d5_104) rfl (tlt (by decide : (4 : Int32) < (8 : Int32))).2.1 (XS.aloadN X50.here hx rfl (hb hby d5_107) rfl rfl k)))))) ?_
 refine G (fun t k => XS.iload X50.here hx rfl (hb hby d5_108) rfl k) ?_
 show Go _ _ _ (T50.setTop (mkF m 110 #[vr a1, vi 8, vr y3, vr b5, vr b7, vi 2, vi 4] [(.int 4), (.ref b5)])) _
 refine G (fun t k => XS.iconst X50.here hx rfl (hb hby d5_110) (XS.iadd X50.here hx rfl (hb hby d5_111) rfl (XT.dup2 X50.here hx rfl (hb hby d5_112) rfl rfl rfl k))) ?_
 obtain ⟨cl52, Ar52, -, Sz52, Ng52, Hs52, -⟩ := id V_b5
 have hin52 := inb_of (j := (5 : Int32)) (c := cl52) Sz52 ⟨by decide, by decide⟩
 refine G (fun t k => X50.iaload hx (j := (5 : Int32)) (v := (.int (own_at Y51 (5 : Int32)))) (by rw [e50]; exact Ar52.1) (State.isArrayOf_alike hZ.alike Ar52.2.1) Ar52.2.2 hin52 (Has.at Hs52 hin52 (own_atv Y51 (5 : Int32))) (g := (mkF m 113 #[vr a1, vi 8, vr y3, vr b5, vr b7, vi 2, vi 4] [(.int 5), (.ref b5), (.int 5), (.ref b5)])) rfl rfl (hb hby d5_113) _ k) ?_
 clear hin52 Hs52 Ng52 Sz52 Ar52 cl52
 refine G (fun t k => XS.aloadN X50.here hx rfl (hb hby d5_114) rfl rfl (XS.iload X50.here hx rfl (hb hby d5_115) rfl k)) ?_
 obtain ⟨cl53, Ar53, -, Sz53, Ng53, Hs53, -⟩ := id V_b5
 have hin53 := inb_of (j := (4 : Int32)) (c := cl53) Sz53 ⟨by decide, by decide⟩
 refine G (fun t k => X50.iaload hx (j := (4 : Int32)) (v := (.int (own_at Y51 (4 : Int32)))) (by rw [e50]; exact Ar53.1) (State.isArrayOf_alike hZ.alike Ar53.2.1) Ar53.2.2 hin53 (Has.at Hs53 hin53 (own_atv Y51 (4 : Int32))) (g := (mkF m 117 #[vr a1, vi 8, vr y3, vr b5, vr b7, vi 2, vi 4] [(.int 4), (.ref b5), (.int (own_at Y51 (5 : Int32))), (.int 5), (.ref b5)])) rfl rfl (hb hby d5_117) _ k) ?_
 clear hin53 Hs53 Ng53 Sz53 Ar53 cl53
 show Go _ _ _ (T50.setTop (mkF m 118 #[vr a1, vi 8, vr y3, vr b5, vr b7, vi 2, vi 4] [(.int (own_at Y51 (4 : Int32))), (.int (own_at Y51 (5 : Int32))), (.int 5), (.ref b5)])) _
 refine G (fun t k => XS.iadd X50.here hx rfl (hb hby d5_118) rfl k) ?_
 obtain ⟨cl54, Ar54, qq54, Sz54, Ng54, Hs54, Gs54⟩ := id V_b5
 have hin54 := inb_of (j := (5 : Int32)) (c := cl54) Sz54 ⟨by decide, by decide⟩
 obtain ⟨T55, h55, X55, e55, W55, st55⟩ := stI X50 hx hZ e50 Ar54 (j := (5 : Int32)) hin54 (g := (mkF m 119 #[vr a1, vi 8, vr y3, vr b5, vr b7, vi 2, vi 4] [(.int ((own_at Y51 (5 : Int32)) + (own_at Y51 (4 : Int32)))), (.int 5), (.ref b5)])) rfl rfl (hb hby d5_119)
 refine G st55 ?_
 have N55 := Fr.snoc X55 N50 g_b5
 replace V_b7 := V_b7.other W55 (Ne.symm ne_b5_b7)
 replace Z0 := Nat.le_trans Z0 (Nat.le_of_eq W55.size.symm)
 replace K0 := K0.wr W55 (Or.inr sz_b5)
 replace V_b5 : Arv Z h55 b5 k5 .int (9 : Int32) (List.map Value.int (pre (5 : Int32) (4 : Int32) Y51)) (.int (0 : Int32)) := own_mset (Arv.set Ar54 qq54 Sz54 Ng54 Hs54 Gs54 rfl W55 _ rfl (own_mlt lY51 ⟨by decide, by decide⟩))
 have ln_55 : ((pre (5 : Int32) (4 : Int32) Y51)).length = 9 := lset_len lY51
 clear hin54 Gs54 Hs54 Ng54 Sz54 qq54 Ar54 cl54
 show Go _ _ _ (T55.setTop (mkF m 120 #[vr a1, vi 8, vr y3, vr b5, vr b7, vi 2, vi 4] [])) _
 obtain ⟨Y56, eY56, lY56, V56q⟩ : ∃ Y, Y = (pre (5 : Int32) (4 : Int32) Y51) ∧ Y.length = 9 ∧ Arv Z h55 b5 k5 .int (9 : Int32) (List.map Value.int Y) (.int (0 : Int32)) := ⟨_, rfl, ln_55, V_b5⟩
 replace V_b5 := V56q
 clear ln_55 V56q
 refine G (fun t k => XS.iinc X55.here hx rfl (hb hby d5_120) rfl (l' := #[vr a1, vi 8, vr y3, vr b5, vr b7, vi 2, vi ((4 : Int32) + (1 : Int32))]) rfl (XS.goto X55.here hx rfl (pc0 := 123) (pc' := 101) rfl (hb hby d5_123) (by decide) (by decide) (XS.iload X55.here hx rfl (hb hby d5_101) rfl (XS.iloadN X55.here hx rfl (hb hby d5_103) rfl (XS.icmpNo X55.here hx rfl (hb hby d5_104) rfl (tlt (by decide : (5 : Int32) < (8 : Int32))).2.1 (XS.aloadN X55.here hx rfl (hb hby d5_107) rfl rfl k)))))) ?_
 refine G (fun t k => XS.iload X55.here hx rfl (hb hby d5_108) rfl k) ?_
 show Go _ _ _ (T55.setTop (mkF m 110 #[vr a1, vi 8, vr y3, vr b5, vr b7, vi 2, vi 5] [(.int 5), (.ref b5)])) _
 refine G (fun t k => XS.iconst X55.here hx rfl (hb hby d5_110) (XS.iadd X55.here hx rfl (hb hby d5_111) rfl (XT.dup2 X55.here hx rfl (hb hby d5_112) rfl rfl rfl k))) ?_
 obtain ⟨cl57, Ar57, -, Sz57, Ng57, Hs57, -⟩ := id V_b5
 have hin57 := inb_of (j := (6 : Int32)) (c := cl57) Sz57 ⟨by decide, by decide⟩
 refine G (fun t k => X55.iaload hx (j := (6 : Int32)) (v := (.int (own_at Y56 (6 : Int32)))) (by rw [e55]; exact Ar57.1) (State.isArrayOf_alike hZ.alike Ar57.2.1) Ar57.2.2 hin57 (Has.at Hs57 hin57 (own_atv Y56 (6 : Int32))) (g := (mkF m 113 #[vr a1, vi 8, vr y3, vr b5, vr b7, vi 2, vi 5] [(.int 6), (.ref b5), (.int 6), (.ref b5)])) rfl rfl (hb hby d5_113) _ k) ?_
 clear hin57 Hs57 Ng57 Sz57 Ar57 cl57
 refine G (fun t k => XS.aloadN X55.here hx rfl (hb hby d5_114) rfl rfl (XS.iload X55.here hx rfl (hb hby d5_115) rfl k)) ?_
 obtain ⟨cl58, Ar58, -, Sz58, Ng58, Hs58, -⟩ := id V_b5
 have hin58 := inb_of (j := (5 : Int32)) (c := cl58) Sz58 ⟨by decide, by decide⟩
 refine G (fun t k => X55.iaload hx (j := (5 : Int32)) (v := (.int (own_at Y56 (5 : Int32)))) (by rw [e55]; exact Ar58.1) (State.isArrayOf_alike hZ.alike Ar58.2.1) Ar58.2.2 hin58 (Has.at Hs58 hin58 (own_atv Y56 (5 : Int32))) (g := (mkF m 117 #[vr a1, vi 8, vr y3, vr b5, vr b7, vi 2, vi 5] [(.int 5), (.ref b5), (.int (own_at Y56 (6 : Int32))), (.int 6), (.ref b5)])) rfl rfl (hb hby d5_117) _ k) ?_
 clear hin58 Hs58 Ng58 Sz58 Ar58 cl58
 show Go _ _ _ (T55.setTop (mkF m 118 #[vr a1, vi 8, vr y3, vr b5, vr b7, vi 2, vi 5] [(.int (own_at Y56 (5 : Int32))), (.int (own_at Y56 (6 : Int32))), (.int 6), (.ref b5)])) _
 refine G (fun t k => XS.iadd X55.here hx rfl (hb hby d5_118) rfl k) ?_
 obtain ⟨cl59, Ar59, qq59, Sz59, Ng59, Hs59, Gs59⟩ := id V_b5
 have hin59 := inb_of (j := (6 : Int32)) (c := cl59) Sz59 ⟨by decide, by decide⟩
 obtain ⟨T60, h60, X60, e60, W60, st60⟩ := stI X55 hx hZ e55 Ar59 (j := (6 : Int32)) hin59 (g := (mkF m 119 #[vr a1, vi 8, vr y3, vr b5, vr b7, vi 2, vi 5] [(.int ((own_at Y56 (6 : Int32)) + (own_at Y56 (5 : Int32)))), (.int 6), (.ref b5)])) rfl rfl (hb hby d5_119)
 refine G st60 ?_
 have N60 := Fr.snoc X60 N55 g_b5
 obtain ⟨LL60, X60, N60⟩ : ∃ LL, Stand p l e (Rm 4 5 19 84) s m #[(.ref a1), (.int (8 : Int32))] below meth c T60 LL 3 15 ∧ Fr n0 LL := ⟨_, X60, N60⟩
 replace V_b7 := V_b7.other W60 (Ne.symm ne_b5_b7)
 replace Z0 := Nat.le_trans Z0 (Nat.le_of_eq W60.size.symm)
 replace K0 := K0.wr W60 (Or.inr sz_b5)
 replace V_b5 : Arv Z h60 b5 k5 .int (9 : Int32) (List.map Value.int (pre (6 : Int32) (5 : Int32) Y56)) (.int (0 : Int32)) := own_mset (Arv.set Ar59 qq59 Sz59 Ng59 Hs59 Gs59 rfl W60 _ rfl (own_mlt lY56 ⟨by decide, by decide⟩))
 have ln_60 : ((pre (6 : Int32) (5 : Int32) Y56)).length = 9 := lset_len lY56
 clear hin59 Gs59 Hs59 Ng59 Sz59 qq59 Ar59 cl59
 show Go _ _ _ (T60.setTop (mkF m 120 #[vr a1, vi 8, vr y3, vr b5, vr b7, vi 2, vi 5] [])) _
 obtain ⟨Y61, eY61, lY61, V61q⟩ : ∃ Y, Y = (pre (6 : Int32) (5 : Int32) Y56) ∧ Y.length = 9 ∧ Arv Z h60 b5 k5 .int (9 : Int32) (List.map Value.int Y) (.int (0 : Int32)) := ⟨_, rfl, ln_60, V_b5⟩
 replace V_b5 := V61q
 clear ln_60 V61q
 refine G (fun t k => XS.iinc X60.here hx rfl (hb hby d5_120) rfl (l' := #[vr a1, vi 8, vr y3, vr b5, vr b7, vi 2, vi ((5 : Int32) + (1 : Int32))]) rfl (XS.goto X60.here hx rfl (pc0 := 123) (pc' := 101) rfl (hb hby d5_123) (by decide) (by decide) (XS.iload X60.here hx rfl (hb hby d5_101) rfl (XS.iloadN X60.here hx rfl (hb hby d5_103) rfl (XS.icmpNo X60.here hx rfl (hb hby d5_104) rfl (tlt (by decide : (6 : Int32) < (8 : Int32))).2.1 (XS.aloadN X60.here hx rfl (hb hby d5_107) rfl rfl k)))))) ?_
 refine G (fun t k => XS.iload X60.here hx rfl (hb hby d5_108) rfl k) ?_
 show Go _ _ _ (T60.setTop (mkF m 110 #[vr a1, vi 8, vr y3, vr b5, vr b7, vi 2, vi 6] [(.int 6), (.ref b5)])) _
 refine G (fun t k => XS.iconst X60.here hx rfl (hb hby d5_110) (XS.iadd X60.here hx rfl (hb hby d5_111) rfl (XT.dup2 X60.here hx rfl (hb hby d5_112) rfl rfl rfl k))) ?_
 obtain ⟨cl62, Ar62, -, Sz62, Ng62, Hs62, -⟩ := id V_b5
 have hin62 := inb_of (j := (7 : Int32)) (c := cl62) Sz62 ⟨by decide, by decide⟩
 refine G (fun t k => X60.iaload hx (j := (7 : Int32)) (v := (.int (own_at Y61 (7 : Int32)))) (by rw [e60]; exact Ar62.1) (State.isArrayOf_alike hZ.alike Ar62.2.1) Ar62.2.2 hin62 (Has.at Hs62 hin62 (own_atv Y61 (7 : Int32))) (g := (mkF m 113 #[vr a1, vi 8, vr y3, vr b5, vr b7, vi 2, vi 6] [(.int 7), (.ref b5), (.int 7), (.ref b5)])) rfl rfl (hb hby d5_113) _ k) ?_
 clear hin62 Hs62 Ng62 Sz62 Ar62 cl62
 refine G (fun t k => XS.aloadN X60.here hx rfl (hb hby d5_114) rfl rfl (XS.iload X60.here hx rfl (hb hby d5_115) rfl k)) ?_
 obtain ⟨cl63, Ar63, -, Sz63, Ng63, Hs63, -⟩ := id V_b5
 have hin63 := inb_of (j := (6 : Int32)) (c := cl63) Sz63 ⟨by decide, by decide⟩
 refine G (fun t k => X60.iaload hx (j := (6 : Int32)) (v := (.int (own_at Y61 (6 : Int32)))) (by rw [e60]; exact Ar63.1) (State.isArrayOf_alike hZ.alike Ar63.2.1) Ar63.2.2 hin63 (Has.at Hs63 hin63 (own_atv Y61 (6 : Int32))) (g := (mkF m 117 #[vr a1, vi 8, vr y3, vr b5, vr b7, vi 2, vi 6] [(.int 6), (.ref b5), (.int (own_at Y61 (7 : Int32))), (.int 7), (.ref b5)])) rfl rfl (hb hby d5_117) _ k) ?_
 clear hin63 Hs63 Ng63 Sz63 Ar63 cl63
 show Go _ _ _ (T60.setTop (mkF m 118 #[vr a1, vi 8, vr y3, vr b5, vr b7, vi 2, vi 6] [(.int (own_at Y61 (6 : Int32))), (.int (own_at Y61 (7 : Int32))), (.int 7), (.ref b5)])) _
 refine G (fun t k => XS.iadd X60.here hx rfl (hb hby d5_118) rfl k) ?_
 obtain ⟨cl64, Ar64, qq64, Sz64, Ng64, Hs64, Gs64⟩ := id V_b5
 have hin64 := inb_of (j := (7 : Int32)) (c := cl64) Sz64 ⟨by decide, by decide⟩
 obtain ⟨T65, h65, X65, e65, W65, st65⟩ := stI X60 hx hZ e60 Ar64 (j := (7 : Int32)) hin64 (g := (mkF m 119 #[vr a1, vi 8, vr y3, vr b5, vr b7, vi 2, vi 6] [(.int ((own_at Y61 (7 : Int32)) + (own_at Y61 (6 : Int32)))), (.int 7), (.ref b5)])) rfl rfl (hb hby d5_119)
 refine G st65 ?_
 have N65 := Fr.snoc X65 N60 g_b5
 replace V_b7 := V_b7.other W65 (Ne.symm ne_b5_b7)
 replace Z0 := Nat.le_trans Z0 (Nat.le_of_eq W65.size.symm)
 replace K0 := K0.wr W65 (Or.inr sz_b5)
 replace V_b5 : Arv Z h65 b5 k5 .int (9 : Int32) (List.map Value.int (pre (7 : Int32) (6 : Int32) Y61)) (.int (0 : Int32)) := own_mset (Arv.set Ar64 qq64 Sz64 Ng64 Hs64 Gs64 rfl W65 _ rfl (own_mlt lY61 ⟨by decide, by decide⟩))
 have ln_65 : ((pre (7 : Int32) (6 : Int32) Y61)).length = 9 := lset_len lY61
 clear hin64 Gs64 Hs64 Ng64 Sz64 qq64 Ar64 cl64
 show Go _ _ _ (T65.setTop (mkF m 120 #[vr a1, vi 8, vr y3, vr b5, vr b7, vi 2, vi 6] [])) _
 obtain ⟨Y66, eY66, lY66, V66q⟩ : ∃ Y, Y = (pre (7 : Int32) (6 : Int32) Y61) ∧ Y.length = 9 ∧ Arv Z h65 b5 k5 .int (9 : Int32) (List.map Value.int Y) (.int (0 : Int32)) := ⟨_, rfl, ln_65, V_b5⟩
 replace V_b5 := V66q
 clear ln_65 V66q
 refine G (fun t k => XS.iinc X65.here hx rfl (hb hby d5_120) rfl (l' := #[vr a1, vi 8, vr y3, vr b5, vr b7, vi 2, vi ((6 : Int32) + (1 : Int32))]) rfl (XS.goto X65.here hx rfl (pc0 := 123) (pc' := 101) rfl (hb hby d5_123) (by decide) (by decide) (XS.iload X65.here hx rfl (hb hby d5_101) rfl (XS.iloadN X65.here hx rfl (hb hby d5_103) rfl (XS.icmpNo X65.here hx rfl (hb hby d5_104) rfl (tlt (by decide : (7 : Int32) < (8 : Int32))).2.1 (XS.aloadN X65.here hx rfl (hb hby d5_107) rfl rfl k)))))) ?_
 refine G (fun t k => XS.iload X65.here hx rfl (hb hby d5_108) rfl k) ?_
 show Go _ _ _ (T65.setTop (mkF m 110 #[vr a1, vi 8, vr y3, vr b5, vr b7, vi 2, vi 7] [(.int 7), (.ref b5)])) _
 refine G (fun t k => XS.iconst X65.here hx rfl (hb hby d5_110) (XS.iadd X65.here hx rfl (hb hby d5_111) rfl (XT.dup2 X65.here hx rfl (hb hby d5_112) rfl rfl rfl k))) ?_
 obtain ⟨cl67, Ar67, -, Sz67, Ng67, Hs67, -⟩ := id V_b5
 have hin67 := inb_of (j := (8 : Int32)) (c := cl67) Sz67 ⟨by decide, by decide⟩
 refine G (fun t k => X65.iaload hx (j := (8 : Int32)) (v := (.int (own_at Y66 (8 : Int32)))) (by rw [e65]; exact Ar67.1) (State.isArrayOf_alike hZ.alike Ar67.2.1) Ar67.2.2 hin67 (Has.at Hs67 hin67 (own_atv Y66 (8 : Int32))) (g := (mkF m 113 #[vr a1, vi 8, vr y3, vr b5, vr b7, vi 2, vi 7] [(.int 8), (.ref b5), (.int 8), (.ref b5)])) rfl rfl (hb hby d5_113) _ k) ?_
 clear hin67 Hs67 Ng67 Sz67 Ar67 cl67
 refine G (fun t k => XS.aloadN X65.here hx rfl (hb hby d5_114) rfl rfl (XS.iload X65.here hx rfl (hb hby d5_115) rfl k)) ?_
 obtain ⟨cl68, Ar68, -, Sz68, Ng68, Hs68, -⟩ := id V_b5
 have hin68 := inb_of (j := (7 : Int32)) (c := cl68) Sz68 ⟨by decide, by decide⟩
 refine G (fun t k => X65.iaload hx (j := (7 : Int32)) (v := (.int (own_at Y66 (7 : Int32)))) (by rw [e65]; exact Ar68.1) (State.isArrayOf_alike hZ.alike Ar68.2.1) Ar68.2.2 hin68 (Has.at Hs68 hin68 (own_atv Y66 (7 : Int32))) (g := (mkF m 117 #[vr a1, vi 8, vr y3, vr b5, vr b7, vi 2, vi 7] [(.int 7), (.ref b5), (.int (own_at Y66 (8 : Int32))), (.int 8), (.ref b5)])) rfl rfl (hb hby d5_117) _ k) ?_
 clear hin68 Hs68 Ng68 Sz68 Ar68 cl68
 show Go _ _ _ (T65.setTop (mkF m 118 #[vr a1, vi 8, vr y3, vr b5, vr b7, vi 2, vi 7] [(.int (own_at Y66 (7 : Int32))), (.int (own_at Y66 (8 : Int32))), (.int 8), (.ref b5)])) _
 refine G (fun t k => XS.iadd X65.here hx rfl (hb hby d5_118) rfl k) ?_
 obtain ⟨cl69, Ar69, qq69, Sz69, Ng69, Hs69, Gs69⟩ := id V_b5
 have hin69 := inb_of (j := (8 : Int32)) (c := cl69) Sz69 ⟨by decide, by decide⟩
 obtain ⟨T70, h70, X70, e70, W70, st70⟩ := stI X65 hx hZ e65 Ar69 (j := (8 : Int32)) hin69 (g := (mkF m 119 #[vr a1, vi 8, vr y3, vr b5, vr b7, vi 2, vi 7] [(.int ((own_at Y66 (8 : Int32)) + (own_at Y66 (7 : Int32)))), (.int 8), (.ref b5)])) rfl rfl (hb hby d5_119)
 refine G st70 ?_
 have N70 := Fr.snoc X70 N65 g_b5
 replace V_b7 := V_b7.other W70 (Ne.symm ne_b5_b7)
 replace Z0 := Nat.le_trans Z0 (Nat.le_of_eq W70.size.symm)
 replace K0 := K0.wr W70 (Or.inr sz_b5)
 replace V_b5 : Arv Z h70 b5 k5 .int (9 : Int32) (List.map Value.int (pre (8 : Int32) (7 : Int32) Y66)) (.int (0 : Int32)) := own_mset (Arv.set Ar69 qq69 Sz69 Ng69 Hs69 Gs69 rfl W70 _ rfl (own_mlt lY66 ⟨by decide, by decide⟩))
 have ln_70 : ((pre (8 : Int32) (7 : Int32) Y66)).length = 9 := lset_len lY66
 clear hin69 Gs69 Hs69 Ng69 Sz69 qq69 Ar69 cl69
 show Go _ _ _ (T70.setTop (mkF m 120 #[vr a1, vi 8, vr y3, vr b5, vr b7, vi 2, vi 7] [])) _
 obtain ⟨Y71, eY71, lY71, V71q⟩ : ∃ Y, Y = (pre (8 : Int32) (7 : Int32) Y66) ∧ Y.length = 9 ∧ Arv Z h70 b5 k5 .int (9 : Int32) (List.map Value.int Y) (.int (0 : Int32)) := ⟨_, rfl, ln_70, V_b5⟩
 replace V_b5 := V71q
 clear ln_70 V71q
 refine G (fun t k => XS.iinc X70.here hx rfl (hb hby d5_120) rfl (l' := #[vr a1, vi 8, vr y3, vr b5, vr b7, vi 2, vi ((7 : Int32) + (1 : Int32))]) rfl (XS.goto X70.here hx rfl (pc0 := 123) (pc' := 101) rfl (hb hby d5_123) (by decide) (by decide) (XS.iload X70.here hx rfl (hb hby d5_101) rfl (XS.iloadN X70.here hx rfl (hb hby d5_103) rfl (XS.icmpYes X70.here hx rfl (pc0 := 104) (pc' := 126) rfl (hb hby d5_104) rfl (flt (by decide : ¬ ((8 : Int32) < (8 : Int32)))).2.1 (by decide) (by decide) k))))) ?_
 show Go _ _ _ (T70.setTop (mkF m 126 #[vr a1, vi 8, vr y3, vr b5, vr b7, vi 2, vi 8] [])) _
 rw [eY71, eY66, eY61, eY56, eY51, eY46, eY41, eY36, eY24, eY13] at V_b5
 obtain ⟨T72, h72, X72, e72, E72, A72, D72, -, st72⟩ := newO X70 hx hZ hown (wd52 hw) (wd53 hw) (wd54 hw) e70 (g := (mkF m 126 #[vr a1, vi 8, vr y3, vr b5, vr b7, vi 2, vi 8] [])) rfl (hb hby d5_126) (by decide) (by decide)
 obtain ⟨b72, g72⟩ : ∃ z, z = h70.size := ⟨_, rfl⟩
 rw [← g72] at A72 D72 st72
 refine G st72 ?_
 have ne_b5_b72 : b5 ≠ b72 := Nat.ne_of_lt (Nat.lt_of_lt_of_le V_b5.lt (Nat.le_of_eq g72.symm))
 have ne_b7_b72 : b7 ≠ b72 := Nat.ne_of_lt (Nat.lt_of_lt_of_le V_b7.lt (Nat.le_of_eq g72.symm))
 have g_b72 : n0 ≤ b72 := Nat.le_trans Z0 (Nat.le_of_eq g72.symm)
 have sz_b72 : h0.size ≤ b72 := Nat.le_trans K0.1 (Nat.le_of_eq g72.symm)
 replace V_b5 := V_b5.ext E72
 replace V_b7 := V_b7.ext E72
 replace K0 := K0.ext E72
 replace Z0 := Nat.le_trans Z0 E72.1
 have E_b72 := A72
 have F_b72_a : Fld Z h72 b72 RC "start" "[I" .null := D72 (Or.inr (wd72 hw)) (ty := (.array .int)) (by decide)
 have F_b72_t : Fld Z h72 b72 RC "targets" "[I" .null := D72 (Or.inr (wd74 hw)) (ty := (.array .int)) (by decide)
 refine G (fun t k => XS.dup X72.here hx rfl (hb hby d5_129) rfl rfl (XS.aloadN X72.here hx rfl (hb hby d5_130) rfl rfl (XS.aload X72.here hx rfl (hb hby d5_131) rfl rfl (XS.iload X72.here hx rfl (hb hby d5_133) rfl k)))) ?_
 obtain ⟨_, _, ⟨T73, L73, k73, n73⟩, -, X73, ⟨Lc73, hQ73, l73, y73, z73⟩, st73⟩ := Jvm.LawKit.callS X72 hx (y := (⟨"java/util/Arrays", "copyOf", "([II)[I"⟩ : MethodName)) hown (mvT hZ (wd55 hw)) (mvT hZ (wd56 hw)) (mvT hZ (wd31 hw)) (mvT hZ (wd57 hw)) (by decide) (backOf (W := 3) (rm11_2 l Z a0 hw [] b7 ((f10_a1_0 t0 t1 t2).toInt32) ((f10_a1_1 t0 t1 t2).toInt32) (0 : Int32) k7 h72 n0 Z0 V_b7) hZ (wd57 hw) (wd31 hw) (by decide) (by decide)) (g := (mkF m 135 #[vr a1, vi 8, vr y3, vr b5, vr b7, vi 2, vi 8] [(.int 2), (.ref b7), (.ref b5), (.ref b72), (.ref b72)])) rfl (by rw [hml]; rfl) (argsL := [(.ref b7), (.int (2 : Int32))]) (rest := [(.ref b5), (.ref b72), (.ref b72)]) (lenOf pd6 rfl) rfl (by show 2 * 0 + _ ≤ _; exact Nat.le_of_eq rfl) (hb hby d5_135) (fun _ _ => ⟨rfl, e72, (by decide : 4 + 1 ≤ _), (by decide : 17 + 2 ≤ _)⟩)
 dsimp only [Pt.U, Pt.locs, Pt.cells, Pt.slots] at X73 l73 y73 z73 st73 hQ73
 subst l73 y73 z73
 obtain ⟨h73, e73⟩ : ∃ z, T73.heap = z := ⟨_, rfl⟩
 rw [e73] at hQ73
 obtain ⟨y73, k_y73, rfl, N73q, K73, ng_y73, sz0_y73, Q73_0⟩ := hQ73
 refine G st73 ?_
 have ne_b5_y73 : b5 ≠ y73 := Nat.ne_of_lt (Nat.lt_of_lt_of_le V_b5.lt sz0_y73)
 have ne_b7_y73 : b7 ≠ y73 := Nat.ne_of_lt (Nat.lt_of_lt_of_le V_b7.lt sz0_y73)
 have ne_b72_y73 : b72 ≠ y73 := Nat.ne_of_lt (Nat.lt_of_lt_of_le E_b72.lt sz0_y73)
 have g_y73 : n0 ≤ y73 := ng_y73
 have sz_y73 : h0.size ≤ y73 := Nat.le_trans K0.1 sz0_y73
 replace V_b5 := V_b5.keep K73 nin0
 replace V_b7 := V_b7.keep K73 nin0
 replace E_b72 := E_b72.keep K73
 replace F_b72_a := F_b72_a.keep K73 nin0
 replace F_b72_t := F_b72_t.keep K73 nin0
 replace Z0 := Nat.le_trans Z0 K73.1
 replace K0 := K0.trans K73 all0
 have V_y73 := Q73_0
 have N73 := Fr.app N70 N73q
 obtain ⟨_, _, ⟨T74, L74, k74, n74⟩, -, X74, ⟨Lc74, hQ74, l74, y74, z74⟩, st74⟩ := X73.specialBackNest hx (y := (⟨RC, "<init>", "([I[I)V"⟩ : MethodName)) rfl hown (own_mvM hZ (wd67 hw)) (mvT hZ (wd68 hw)) (mvT hZ (wd69 hw)) (by decide) (backOf (W := 1) (rm12 l Z a0 hw [] b72 b5 y73 (.null : Value) (.null : Value) h73 n0 Z0 E_b72 F_b72_a F_b72_t g_b72) hZ (wd69 hw) (wd54 hw) (by decide) (by decide)) (g := (mkF m 138 #[vr a1, vi 8, vr y3, vr b5, vr b7, vi 2, vi 8] [(.ref y73), (.ref b5), (.ref b72), (.ref b72)])) rfl (by rw [hml]; rfl) (Steps.refl _) (a := b72) (argsL := [(.ref b5), (.ref y73)]) (rest := [(.ref b72)]) (lenOf pd7 rfl) rfl (by show 2 * 0 + _ ≤ _; exact Nat.le_of_eq rfl) (hb hby d5_138) (fun _ _ => ⟨rfl, e73, (by decide : 5 + 0 ≤ _), (by decide : 19 + 0 ≤ _)⟩)
 dsimp only [Pt.U, Pt.locs, Pt.cells, Pt.slots] at X74 l74 y74 z74 st74 hQ74
 subst l74 y74 z74
 refine Go.tr st74 ?_
 have E_b72_pre := E_b72
 have F_b72_start_pre := F_b72_a
 have F_b72_targets_pre := F_b72_t
 obtain ⟨h74, e74⟩ : ∃ z, T74.heap = z := ⟨_, rfl⟩
 rw [e74] at hQ74
 obtain ⟨rfl, N74q, K74, Q74_0, Q74_1, Q74_2⟩ := hQ74
 replace V_b5 := V_b5.keep K74 (ninS ne_b5_b72 nin0)
 replace V_b7 := V_b7.keep K74 (ninS ne_b7_b72 nin0)
 replace E_b72 := E_b72.keep K74
 replace V_y73 := V_y73.keep K74 (ninS (Ne.symm ne_b72_y73) nin0)
 replace Z0 := Nat.le_trans Z0 K74.1
 replace K0 := K0.trans K74 (allS (Or.inr sz_b72) all0)
 clear E_b72_pre F_b72_start_pre F_b72_targets_pre
 have E_b72 := Q74_0
 have F_b72_a := Q74_1
 have F_b72_t := Q74_2
 have N74 := Fr.app N73 N74q
 obtain ⟨LL74, X74, N74⟩ : ∃ LL, Stand p l e (Rm 4 5 19 84) s m #[(.ref a1), (.int (8 : Int32))] below meth c T74 LL 5 19 ∧ Fr n0 LL := ⟨_, X74, N74⟩
 show Go _ _ _ (T74.setTop (mkF m 141 #[vr a1, vi 8, vr y3, vr b5, vr b7, vi 2, vi 8] [(.ref b72)])) _
 obtain ⟨fs, hr, hrun, hended, hW, hsame⟩ := X74.leave (v := some (.ref b72)) (fun h => by rw [Bd.returns] at h; cases h)
 refine Go.fin (retOut X74 hx Bd.returns rfl (Or.inr (Or.inr (Or.inr (Or.inr ⟨rfl, rfl, rfl⟩)))) (hb hby d5_141) hr) hrun hended ⟨_, _, rfl, ?_, ⟨_, rfl⟩, hW, hsame.mono (by decide) (by decide)⟩
 show Q5_01 Z a1 w_P t0 t1 t2 k_P h0 n0 _ T74.heap _
 rw [e74]
 exact ⟨b5, y73, b72, k5, k_y73, rfl, N74, K0, g_b5, sz_b5, g_y73, sz_y73, g_b72, sz_b72, ne_b5_y73, ne_b5_b72, (Ne.symm ne_b72_y73), V_b5, E_b72, V_y73, F_b72_a, F_b72_t⟩
def Q5_00 (Z : State) (a1 : Addr) (w_P : Addr) (t0 : Int64) (t1 : Int64) (t2 : Int64) (k_P : ClassId) (h0 : Heap) (n0 : Nat) (v : Option Value) (h : Heap) (L : List Loc) : Prop := ∃ x5_00_0 : Addr, ∃ x5_00_1 : Addr, ∃ x5_00_2 : Addr, ∃ k_x5_00_0 : ClassId, ∃ k_x5_00_1 : ClassId, v = some (.ref x5_00_2) ∧ Fr n0 L ∧ Keep h0 h [] ∧ n0 ≤ x5_00_0 ∧ h0.size ≤ x5_00_0 ∧ n0 ≤ x5_00_1 ∧ h0.size ≤ x5_00_1 ∧ n0 ≤ x5_00_2 ∧ h0.size ≤ x5_00_2 ∧ x5_00_0 ≠ x5_00_1 ∧ x5_00_0 ≠ x5_00_2 ∧ x5_00_1 ≠ x5_00_2 ∧ Arv Z h x5_00_0 k_x5_00_0 .int (9 : Int32) (List.map Value.int (pre (8 : Int32) (7 : Int32) (pre (7 : Int32) (6 : Int32) (pre (6 : Int32) (5 : Int32) (pre (5 : Int32) (4 : Int32) (pre (4 : Int32) (3 : Int32) (pre (3 : Int32) (2 : Int32) (pre (2 : Int32) (1 : Int32) (pre (1 : Int32) (0 : Int32) (bump (gi (f10_a1_2 t0 t1 t2)) (bump (gi (f10_a1_1 t0 t1 t2)) (bump (gi (f10_a1_0 t0 t1 t2)) z9)))))))))))) (.int (0 : Int32)) ∧ Exa Z h x5_00_2 RC ∧ Arv Z h x5_00_1 k_x5_00_1 .int (3 : Int32) [(.int ((f10_a1_0 t0 t1 t2).toInt32)), (.int ((f10_a1_1 t0 t1 t2).toInt32)), (.int ((f10_a1_2 t0 t1 t2).toInt32))] (.int (0 : Int32)) ∧ Exa Z h x5_00_1 "[I" ∧ Fld Z h x5_00_2 RC "start" "[I" (.ref x5_00_0) ∧ Fld Z h x5_00_2 RC "targets" "[I" (.ref x5_00_1)
theorem ef5_00 (m : MethodId) (x0 : Addr) : entryFrame m #[(.ref x0), (.int (8 : Int32))] 7 = mkF m 0 #[.val (.ref x0), .val (.int (8 : Int32)), .unset, .unset, .unset, .unset, .unset] [] := by first | (simp [entryFrame, mkF, argsToLocals, Value.category]; done) | rfl
theorem rm5_00 (l : Launch) (Z : State) (a0 : Array Value) (hw : HW a0 Z) (ws : List Jvm.Cond) (a1 : Addr) (w_P : Addr) (t0 : Int64) (t1 : Int64) (t2 : Int64) (k_P : ClassId) (h0 : Heap) (n0 : Nat) (Z0 : n0 ≤ h0.size) (E_a1 : Exa Z h0 a1 BC) (F_a1_s : Fld Z h0 a1 BC "size" "I" (.int (3 : Int32))) (F_a1_p : Fld Z h0 a1 BC "pairs" "[J" (.ref w_P)) (V_P : Arv Z h0 w_P k_P .long (16 : Int32) [(.long t0), (.long t1), (.long t2), (.long (0 : Int64)), (.long (0 : Int64)), (.long (0 : Int64)), (.long (0 : Int64)), (.long (0 : Int64)), (.long (0 : Int64)), (.long (0 : Int64)), (.long (0 : Int64)), (.long (0 : Int64)), (.long (0 : Int64)), (.long (0 : Int64)), (.long (0 : Int64)), (.long (0 : Int64))] (.long (0 : Int64))) (hb0 : ¬ (gi (f10_a1_0 t0 t1 t2)) < 0 ∧ (gi (f10_a1_0 t0 t1 t2)) < (9 : Int32)) (hb1 : ¬ (gi (f10_a1_1 t0 t1 t2)) < 0 ∧ (gi (f10_a1_1 t0 t1 t2)) < (9 : Int32)) (hb2 : ¬ (gi (f10_a1_2 t0 t1 t2)) < 0 ∧ (gi (f10_a1_2 t0 t1 t2)) < (9 : Int32)) (he1 : ¬ (f10_a1_1 t0 t1 t2) = (f10_a1_0 t0 t1 t2)) (he2 : ¬ (f10_a1_2 t0 t1 t2) = (f10_a1_1 t0 t1 t2)) :
  MetFree l (⟨BC, "build", "(I)Lcom/example/tripletype/tripletype/Relation;"⟩ : MethodName) (head1 (Jvm.Cond.code (⟨BC, "build", "(I)Lcom/example/tripletype/tripletype/Relation;"⟩ : MethodName) cB5 7 (some (.object RC)) :: ws) (Rm 4 5 20 84)) (Pr Z h0 #[(.ref a1), (.int (8 : Int32))]) Tr (fun _ U o U' => ∃ v L, o = .returned v ∧ Q5_00 Z a1 w_P t0 t1 t2 k_P h0 n0 v U'.heap L ∧ FrameEnd U o U' L (Rm 4 5 20 84).cells (Rm 4 5 20 84).slots) := by
 refine MetFree.of_bodySF (plainFor_of_name pn1) hisR ?_
 intro p e s m args below meth c s₁ Bd hml0 hP hK
 obtain ⟨rfl, hZ, hh⟩ := hP
 have hx := Bd.exec
 have hby := Bd.bytes
 have hml : c.maxLocals = 7 := hml0
 have hown : s.vm.findClass BC = some m.cls := findClass_of_methodNamed Bd.named
 have hnm := (name_of_methodNamed Bd.named Bd.method).1
 have X0 : Stand p l e (Rm 4 5 20 84) s m #[(.ref a1), (.int (8 : Int32))] below meth c s₁ [] 0 0 := Stand.of_body Bd
 have e0 : s₁.heap = h0 := by rw [← hh, Bd.state]; rfl
 have N0 := Fr.nil n0
 have K0 : Keep h0 h0 [] := Keep.refl h0 _
 refine G (P := fun o U' => ∃ v L, o = .returned v ∧ Q5_00 Z a1 w_P t0 t1 t2 k_P h0 n0 v U'.heap L ∧ FrameEnd s o U' L (Rm 4 5 20 84).cells (Rm 4 5 20 84).slots) (fun t k => castTop (ef5_00 m a1) k) ?_
 show Go _ _ _ (s₁.setTop (mkF m 0 #[vr a1, vi 8, us, us, us, us, us] [])) _
 refine G (fun t k => XS.aloadN X0.here hx rfl (hb hby d5_0) rfl rfl k) ?_
 obtain ⟨T1, X1, e1, st1⟩ := getF X0 hx hZ hown (host := "") (Or.inl (wd15 hw)) Via.refl e0 F_a1_p (g := (mkF m 1 #[vr a1, vi 8, us, us, us, us, us] [(.ref a1)])) rfl rfl (hb hby d5_1)
 refine G st1 ?_
 refine G (fun t k => XS.aloadN X1.here hx rfl (hb hby d5_4) rfl rfl k) ?_
 obtain ⟨T2, X2, e2, st2⟩ := getF X1 hx hZ hown (host := "") (Or.inl (wd22 hw)) Via.refl e1 F_a1_s (g := (mkF m 5 #[vr a1, vi 8, us, us, us, us, us] [(.ref a1), (.ref w_P)])) rfl rfl (hb hby d5_5)
 refine G st2 ?_
 obtain ⟨_, _, ⟨T3, L3, k3, n3⟩, -, X3, ⟨Lc3, hQ3, l3, y3, z3⟩, st3⟩ := Jvm.LawKit.callS X2 hx (y := (⟨"java/util/Arrays", "copyOf", "([JI)[J"⟩ : MethodName)) hown (mvT hZ (wd29 hw)) (mvT hZ (wd30 hw)) (mvT hZ (wd31 hw)) (mvT hZ (wd32 hw)) (by decide) (backOf (W := 0) (rm6 l Z a0 hw [] w_P t0 t1 t2 k_P h0 n0 Z0 V_P) hZ (wd32 hw) (wd31 hw) (by decide) (by decide)) (g := (mkF m 8 #[vr a1, vi 8, us, us, us, us, us] [(.int 3), (.ref w_P)])) rfl (by rw [hml]; rfl) (argsL := [(.ref w_P), (.int (3 : Int32))]) (rest := []) (lenOf pd4 rfl) rfl (by show 2 * 0 + _ ≤ _; exact Nat.le_of_eq rfl) (hb hby d5_8) (fun _ _ => ⟨rfl, e2, (by decide : 0 + 1 ≤ _), (by decide : 0 + 3 ≤ _)⟩)
 dsimp only [Pt.U, Pt.locs, Pt.cells, Pt.slots] at X3 l3 y3 z3 st3 hQ3
 subst l3 y3 z3
 obtain ⟨h3, e3⟩ : ∃ z, T3.heap = z := ⟨_, rfl⟩
 rw [e3] at hQ3
 obtain ⟨y3, k_y3, rfl, N3q, K3, ng_y3, sz0_y3, Q3_0⟩ := hQ3
 refine G st3 ?_
 have ne_a1_y3 : a1 ≠ y3 := Nat.ne_of_lt (Nat.lt_of_lt_of_le E_a1.lt sz0_y3)
 have ne_w_P_y3 : w_P ≠ y3 := Nat.ne_of_lt (Nat.lt_of_lt_of_le V_P.lt sz0_y3)
 have g_y3 : n0 ≤ y3 := ng_y3
 have sz_y3 : h0.size ≤ y3 := Nat.le_trans K0.1 sz0_y3
 replace E_a1 := E_a1.keep K3
 replace F_a1_s := F_a1_s.keep K3 nin0
 replace F_a1_p := F_a1_p.keep K3 nin0
 replace V_P := V_P.keep K3 nin0
 replace Z0 := Nat.le_trans Z0 K3.1
 replace K0 := K0.trans K3 all0
 have V_y3 := Q3_0
 have N3 := Fr.app N0 N3q
 show Go _ _ _ (T3.setTop (mkF m 11 #[vr a1, vi 8, us, us, us, us, us] [(.ref y3)])) _
 refine G (fun t k => XS.astoreN X3.here hx rfl (hb hby d5_11) rfl rfl (l' := #[vr a1, vi 8, vr y3, us, us, us, us]) rfl (XS.aloadN X3.here hx rfl (hb hby d5_12) rfl rfl k)) ?_
 obtain ⟨_, _, ⟨T4, L4, k4, n4⟩, -, X4, ⟨Lc4, hQ4, l4, y4, z4⟩, st4⟩ := Jvm.LawKit.callS X3 hx (y := (⟨"java/util/Arrays", "sort", "([J)V"⟩ : MethodName)) hown (mvT hZ (wd38 hw)) (mvT hZ (wd39 hw)) (mvT hZ (wd31 hw)) (mvT hZ (wd40 hw)) (by decide) (backOf (W := 0) (rm7 l Z a0 hw [] y3 t0 t1 t2 k_y3 h3 n0 Z0 V_y3 g_y3) hZ (wd40 hw) (wd31 hw) (by decide) (by decide)) (g := (mkF m 13 #[vr a1, vi 8, vr y3, us, us, us, us] [(.ref y3)])) rfl (by rw [hml]; rfl) (argsL := [(.ref y3)]) (rest := []) (lenOf pd5 rfl) rfl (by show 2 * 0 + _ ≤ _; exact Nat.le_of_eq rfl) (hb hby d5_13) (fun _ _ => ⟨rfl, e3, (by decide : 1 + 0 ≤ _), (by decide : 3 + 0 ≤ _)⟩)
 dsimp only [Pt.U, Pt.locs, Pt.cells, Pt.slots] at X4 l4 y4 z4 st4 hQ4
 subst l4 y4 z4
 refine G st4 ?_
 have V_y3_pre := V_y3
 obtain ⟨h4, e4⟩ : ∃ z, T4.heap = z := ⟨_, rfl⟩
 rw [e4] at hQ4
 obtain ⟨rfl, N4q, K4, Q4_0⟩ := hQ4
 replace Z0 := Nat.le_trans Z0 K4.1
 replace K0 := K0.trans K4 (allS (Or.inr sz_y3) all0)
 clear V_y3_pre
 have V_y3 := Q4_0
 have N4 := Fr.app N3 N4q
 refine G (fun t k => XS.iloadN X4.here hx rfl (hb hby d5_16) rfl (XS.iconst X4.here hx rfl (hb hby d5_17) (XS.iadd X4.here hx rfl (hb hby d5_18) rfl k))) ?_
 obtain ⟨T5, h5, k5, X5, e5, E5, A5, EA5, st5⟩ := newPE X4 hx hZ (aty := .int) (wd51 hw) e4 (g := (mkF m 19 #[vr a1, vi 8, vr y3, us, us, us, us] [(.int 9)])) rfl (hb hby d5_19) rfl (by decide) (cap := 9) (by decide) (by decide) (by decide) (by decide) (ad := "[I") (by first | rfl | decide)
 obtain ⟨b5, g5⟩ : ∃ z, z = h4.size := ⟨_, rfl⟩
 rw [← g5] at A5 EA5 st5
 refine G st5 ?_
 have ne_y3_b5 : y3 ≠ b5 := Nat.ne_of_lt (Nat.lt_of_lt_of_le V_y3.lt (Nat.le_of_eq g5.symm))
 have g_b5 : n0 ≤ b5 := Nat.le_trans Z0 (Nat.le_of_eq g5.symm)
 have sz_b5 : h0.size ≤ b5 := Nat.le_trans K0.1 (Nat.le_of_eq g5.symm)
 replace V_y3 := V_y3.ext E5
 replace K0 := K0.ext E5
 replace Z0 := Nat.le_trans Z0 E5.1
 have E_b5 := EA5
 have V_b5 : Arv Z h5 b5 k5 .int (9 : Int32) [(.int (0 : Int32)), (.int (0 : Int32)), (.int (0 : Int32)), (.int (0 : Int32)), (.int (0 : Int32)), (.int (0 : Int32)), (.int (0 : Int32)), (.int (0 : Int32)), (.int (0 : Int32))] (.int (0 : Int32)) := (Arv.new A5 (by decide)).pad (pad_rep [] (.int (0 : Int32)) 9)
 show Go _ _ _ (T5.setTop (mkF m 21 #[vr a1, vi 8, vr y3, us, us, us, us] [(.ref b5)])) _
 refine G (fun t k => XS.astoreN X5.here hx rfl (hb hby d5_21) rfl rfl (l' := #[vr a1, vi 8, vr y3, vr b5, us, us, us]) rfl (XS.aloadN X5.here hx rfl (hb hby d5_22) rfl rfl k)) ?_
 obtain ⟨cl6, Ar6, -, Sz6, Ng6, -, -⟩ := id V_y3
 refine G (fun t k => X5.arraylength hx (by rw [e5]; exact Ar6.1) (State.isArrayOf_alike hZ.alike Ar6.2.1) (g := (mkF m 23 #[vr a1, vi 8, vr y3, vr b5, us, us, us] [(.ref y3)])) rfl rfl (hb hby d5_23) _ k) ?_
 rw [len_of Sz6 Ng6]
 clear Ng6 Sz6 Ar6 cl6
 obtain ⟨T7, h7, k7, X7, e7, E7, A7, EA7, st7⟩ := newPE X5 hx hZ (aty := .int) (wd51 hw) e5 (g := (mkF m 24 #[vr a1, vi 8, vr y3, vr b5, us, us, us] [(.int 3)])) rfl (hb hby d5_24) rfl (by decide) (cap := 3) (by decide) (by decide) (by decide) (by decide) (ad := "[I") (by first | rfl | decide)
 obtain ⟨b7, g7⟩ : ∃ z, z = h5.size := ⟨_, rfl⟩
 rw [← g7] at A7 EA7 st7
 refine G st7 ?_
 have ne_y3_b7 : y3 ≠ b7 := Nat.ne_of_lt (Nat.lt_of_lt_of_le V_y3.lt (Nat.le_of_eq g7.symm))
 have ne_b5_b7 : b5 ≠ b7 := Nat.ne_of_lt (Nat.lt_of_lt_of_le E_b5.lt (Nat.le_of_eq g7.symm))
 have g_b7 : n0 ≤ b7 := Nat.le_trans Z0 (Nat.le_of_eq g7.symm)
 have sz_b7 : h0.size ≤ b7 := Nat.le_trans K0.1 (Nat.le_of_eq g7.symm)
 replace V_y3 := V_y3.ext E7
 replace E_b5 := E_b5.ext E7
 replace V_b5 := V_b5.ext E7
 replace K0 := K0.ext E7
 replace Z0 := Nat.le_trans Z0 E7.1
 have E_b7 := EA7
 have V_b7 : Arv Z h7 b7 k7 .int (3 : Int32) [(.int (0 : Int32)), (.int (0 : Int32)), (.int (0 : Int32))] (.int (0 : Int32)) := (Arv.new A7 (by decide)).pad (pad_rep [] (.int (0 : Int32)) 3)
 refine G (fun t k => XS.astore X7.here hx rfl (hb hby d5_26) rfl rfl (l' := #[vr a1, vi 8, vr y3, vr b5, vr b7, us, us]) rfl k) ?_
 show Go _ _ _ (T7.setTop (mkF m 28 #[vr a1, vi 8, vr y3, vr b5, vr b7, us, us] [])) _
 replace V_b5 : Arv Z h7 b5 k5 .int (9 : Int32) (List.map Value.int z9) (.int (0 : Int32)) := V_b5
 have ln_0 : z9.length = 9 := rfl
 refine G (fun t k => XS.iconst X7.here hx rfl (hb hby d5_28) (XS.istore X7.here hx rfl (hb hby d5_29) rfl (l' := #[vr a1, vi 8, vr y3, vr b5, vr b7, vi 0, us]) rfl (XS.iconst X7.here hx rfl (hb hby d5_31) (XS.istore X7.here hx rfl (hb hby d5_32) rfl (l' := #[vr a1, vi 8, vr y3, vr b5, vr b7, vi 0, vi 0]) rfl (XS.iload X7.here hx rfl (hb hby d5_34) rfl (XS.aloadN X7.here hx rfl (hb hby d5_36) rfl rfl k)))))) ?_
 obtain ⟨cl8, Ar8, -, Sz8, Ng8, -, -⟩ := id V_y3
 refine G (fun t k => X7.arraylength hx (by rw [e7]; exact Ar8.1) (State.isArrayOf_alike hZ.alike Ar8.2.1) (g := (mkF m 37 #[vr a1, vi 8, vr y3, vr b5, vr b7, vi 0, vi 0] [(.ref y3), (.int 0)])) rfl rfl (hb hby d5_37) _ k) ?_
 rw [len_of Sz8 Ng8]
 clear Ng8 Sz8 Ar8 cl8
 show Go _ _ _ (T7.setTop (mkF m 38 #[vr a1, vi 8, vr y3, vr b5, vr b7, vi 0, vi 0] [(.int 3), (.int 0)])) _
 refine G (fun t k => XS.icmpNo X7.here hx rfl (hb hby d5_38) rfl (tlt (by decide : (0 : Int32) < (3 : Int32))).2.1 (XS.iload X7.here hx rfl (hb hby d5_41) rfl (XS.ifYes X7.here hx rfl (pc0 := 43) (pc' := 63) rfl (hb hby d5_43) rfl ((if0 _ _).trans (flt (by decide : ¬ ((0 : Int32) < (0 : Int32)))).2.2.2) (by decide) (by decide) (XS.aloadN X7.here hx rfl (hb hby d5_63) rfl rfl (XS.aloadN X7.here hx rfl (hb hby d5_64) rfl rfl (XS.iload X7.here hx rfl (hb hby d5_65) rfl k)))))) ?_
 obtain ⟨cl9, Ar9, -, Sz9, Ng9, Hs9, -⟩ := id V_y3
 have hin9 := inb_of (j := (0 : Int32)) (c := cl9) Sz9 ⟨by decide, by decide⟩
 refine G (fun t k => X7.laload hx (j := (0 : Int32)) (v := (.long (f10_a1_0 t0 t1 t2))) (by rw [e7]; exact Ar9.1) (State.isArrayOf_alike hZ.alike Ar9.2.1) Ar9.2.2 hin9 (Has.at Hs9 hin9 rfl) (g := (mkF m 67 #[vr a1, vi 8, vr y3, vr b5, vr b7, vi 0, vi 0] [(.int 0), (.ref y3), (.ref b5)])) rfl rfl (hb hby d5_67) _ k) ?_
 clear hin9 Hs9 Ng9 Sz9 Ar9 cl9
 show Go _ _ _ (T7.setTop (mkF m 68 #[vr a1, vi 8, vr y3, vr b5, vr b7, vi 0, vi 0] [(.long (f10_a1_0 t0 t1 t2)), (.ref b5)])) _
 refine G (fun t k => XS.bipush X7.here hx rfl (hb hby d5_68) (XS.lushr X7.here hx rfl (hb hby d5_70) rfl (XS.l2i X7.here hx rfl (hb hby d5_71) rfl (XS.iconst X7.here hx rfl (hb hby d5_72) (XS.iadd X7.here hx rfl (hb hby d5_73) rfl k))))) ?_
 show Go _ _ _ (T7.setTop (mkF m 74 #[vr a1, vi 8, vr y3, vr b5, vr b7, vi 0, vi 0] [(.int (((((f10_a1_0 t0 t1 t2).toUInt64 >>> ((32 : Int32) &&& 0x3f).toInt64.toUInt64).toInt64).toInt32) + (1 : Int32))), (.ref b5)])) _
 show Go _ _ _ (T7.setTop (mkF m 74 #[vr a1, vi 8, vr y3, vr b5, vr b7, vi 0, vi 0] [(.int (gi (f10_a1_0 t0 t1 t2))), (.ref b5)])) _
 refine G (fun t k => XT.dup2 X7.here hx rfl (hb hby d5_74) rfl rfl rfl k) ?_
 obtain ⟨cl10, Ar10, -, Sz10, Ng10, Hs10, -⟩ := id V_b5
 have hin10 := inb_of (j := (gi (f10_a1_0 t0 t1 t2))) (c := cl10) Sz10 hb0
 refine G (fun t k => X7.iaload hx (j := (gi (f10_a1_0 t0 t1 t2))) (v := (.int (own_at z9 (gi (f10_a1_0 t0 t1 t2))))) (by rw [e7]; exact Ar10.1) (State.isArrayOf_alike hZ.alike Ar10.2.1) Ar10.2.2 hin10 (Has.at Hs10 hin10 (own_atv z9 (gi (f10_a1_0 t0 t1 t2)))) (g := (mkF m 75 #[vr a1, vi 8, vr y3, vr b5, vr b7, vi 0, vi 0] [(.int (gi (f10_a1_0 t0 t1 t2))), (.ref b5), (.int (gi (f10_a1_0 t0 t1 t2))), (.ref b5)])) rfl rfl (hb hby d5_75) _ k) ?_
 clear hin10 Hs10 Ng10 Sz10 Ar10 cl10
 refine G (fun t k => XS.iconst X7.here hx rfl (hb hby d5_76) (XS.iadd X7.here hx rfl (hb hby d5_77) rfl k)) ?_
 obtain ⟨cl11, Ar11, qq11, Sz11, Ng11, Hs11, Gs11⟩ := id V_b5
 have hin11 := inb_of (j := (gi (f10_a1_0 t0 t1 t2))) (c := cl11) Sz11 hb0
 obtain ⟨T12, h12, X12, e12, W12, st12⟩ := stI X7 hx hZ e7 Ar11 (j := (gi (f10_a1_0 t0 t1 t2))) hin11 (g := (mkF m 78 #[vr a1, vi 8, vr y3, vr b5, vr b7, vi 0, vi 0] [(.int ((own_at z9 (gi (f10_a1_0 t0 t1 t2))) + (1 : Int32))), (.int (gi (f10_a1_0 t0 t1 t2))), (.ref b5)])) rfl rfl (hb hby d5_78)
 refine G st12 ?_
 have N12 := Fr.snoc X12 N4 g_b5
 replace V_y3 := V_y3.other W12 ne_y3_b5
 replace E_b7 := E_b7.wr W12
 replace V_b7 := V_b7.other W12 (Ne.symm ne_b5_b7)
 replace Z0 := Nat.le_trans Z0 (Nat.le_of_eq W12.size.symm)
 replace K0 := K0.wr W12 (Or.inr sz_b5)
 replace V_b5 : Arv Z h12 b5 k5 .int (9 : Int32) (List.map Value.int (bump (gi (f10_a1_0 t0 t1 t2)) z9)) (.int (0 : Int32)) := own_mset (Arv.set Ar11 qq11 Sz11 Ng11 Hs11 Gs11 rfl W12 _ rfl (own_mlt ln_0 hb0))
 have ln_12 : ((bump (gi (f10_a1_0 t0 t1 t2)) z9)).length = 9 := lset_len ln_0
 clear hin11 Gs11 Hs11 Ng11 Sz11 qq11 Ar11 cl11
 show Go _ _ _ (T12.setTop (mkF m 79 #[vr a1, vi 8, vr y3, vr b5, vr b7, vi 0, vi 0] [])) _
 obtain ⟨Y13, eY13, lY13, V13q⟩ : ∃ Y, Y = (bump (gi (f10_a1_0 t0 t1 t2)) z9) ∧ Y.length = 9 ∧ Arv Z h12 b5 k5 .int (9 : Int32) (List.map Value.int Y) (.int (0 : Int32)) := ⟨_, rfl, ln_12, V_b5⟩
 replace V_b5 := V13q
 clear ln_12 V13q
 refine G (fun t k => XS.aload X12.here hx rfl (hb hby d5_79) rfl rfl (XS.iload X12.here hx rfl (hb hby d5_81) rfl (XS.iinc X12.here hx rfl (hb hby d5_83) rfl (l' := #[vr a1, vi 8, vr y3, vr b5, vr b7, vi ((0 : Int32) + (1 : Int32)), vi 0]) rfl (XS.aloadN X12.here hx rfl (hb hby d5_86) rfl rfl (XS.iload X12.here hx rfl (hb hby d5_87) rfl k))))) ?_
 obtain ⟨cl14, Ar14, -, Sz14, Ng14, Hs14, -⟩ := id V_y3
 have hin14 := inb_of (j := (0 : Int32)) (c := cl14) Sz14 ⟨by decide, by decide⟩
 refine G (fun t k => X12.laload hx (j := (0 : Int32)) (v := (.long (f10_a1_0 t0 t1 t2))) (by rw [e12]; exact Ar14.1) (State.isArrayOf_alike hZ.alike Ar14.2.1) Ar14.2.2 hin14 (Has.at Hs14 hin14 rfl) (g := (mkF m 89 #[vr a1, vi 8, vr y3, vr b5, vr b7, vi 1, vi 0] [(.int 0), (.ref y3), (.int 0), (.ref b7)])) rfl rfl (hb hby d5_89) _ k) ?_
 clear hin14 Hs14 Ng14 Sz14 Ar14 cl14
 refine G (fun t k => XS.l2i X12.here hx rfl (hb hby d5_90) rfl k) ?_
 show Go _ _ _ (T12.setTop (mkF m 91 #[vr a1, vi 8, vr y3, vr b5, vr b7, vi 1, vi 0] [(.int ((f10_a1_0 t0 t1 t2).toInt32)), (.int 0), (.ref b7)])) _
 obtain ⟨cl15, Ar15, qq15, Sz15, Ng15, Hs15, Gs15⟩ := id V_b7
 have hin15 := inb_of (j := (0 : Int32)) (c := cl15) Sz15 ⟨by decide, by decide⟩
 obtain ⟨T16, h16, X16, e16, W16, st16⟩ := stI X12 hx hZ e12 Ar15 (j := (0 : Int32)) hin15 (g := (mkF m 91 #[vr a1, vi 8, vr y3, vr b5, vr b7, vi 1, vi 0] [(.int ((f10_a1_0 t0 t1 t2).toInt32)), (.int 0), (.ref b7)])) rfl rfl (hb hby d5_91)
 refine G st16 ?_
 have N16 := Fr.snoc X16 N12 g_b7
 obtain ⟨LL16, X16, N16⟩ : ∃ LL, Stand p l e (Rm 4 5 20 84) s m #[(.ref a1), (.int (8 : Int32))] below meth c T16 LL 3 15 ∧ Fr n0 LL := ⟨_, X16, N16⟩
 replace V_y3 := V_y3.other W16 ne_y3_b7
 replace V_b5 := V_b5.other W16 ne_b5_b7
 replace E_b7 := E_b7.wr W16
 replace Z0 := Nat.le_trans Z0 (Nat.le_of_eq W16.size.symm)
 replace K0 := K0.wr W16 (Or.inr sz_b7)
 replace V_b7 : Arv Z h16 b7 k7 .int (3 : Int32) [(.int ((f10_a1_0 t0 t1 t2).toInt32)), (.int (0 : Int32)), (.int (0 : Int32))] (.int (0 : Int32)) := Arv.set Ar15 qq15 Sz15 Ng15 Hs15 Gs15 rfl W16 0 rfl (Nat.le_of_ble_eq_true rfl)
 clear hin15 Gs15 Hs15 Ng15 Sz15 qq15 Ar15 cl15
 refine G (fun t k => XS.iinc X16.here hx rfl (hb hby d5_92) rfl (l' := #[vr a1, vi 8, vr y3, vr b5, vr b7, vi 1, vi ((0 : Int32) + (1 : Int32))]) rfl (XS.goto X16.here hx rfl (pc0 := 95) (pc' := 34) rfl (hb hby d5_95) (by decide) (by decide) (XS.iload X16.here hx rfl (hb hby d5_34) rfl (XS.aloadN X16.here hx rfl (hb hby d5_36) rfl rfl k)))) ?_
 obtain ⟨cl17, Ar17, -, Sz17, Ng17, -, -⟩ := id V_y3
 refine G (fun t k => X16.arraylength hx (by rw [e16]; exact Ar17.1) (State.isArrayOf_alike hZ.alike Ar17.2.1) (g := (mkF m 37 #[vr a1, vi 8, vr y3, vr b5, vr b7, vi 1, vi 1] [(.ref y3), (.int 1)])) rfl rfl (hb hby d5_37) _ k) ?_
 rw [len_of Sz17 Ng17]
 clear Ng17 Sz17 Ar17 cl17
 refine G (fun t k => XS.icmpNo X16.here hx rfl (hb hby d5_38) rfl (tlt (by decide : (1 : Int32) < (3 : Int32))).2.1 k) ?_
 show Go _ _ _ (T16.setTop (mkF m 41 #[vr a1, vi 8, vr y3, vr b5, vr b7, vi 1, vi 1] [])) _
 refine G (fun t k => XS.iload X16.here hx rfl (hb hby d5_41) rfl (XS.ifNo X16.here hx rfl (hb hby d5_43) rfl ((if0 _ _).trans (tlt (by decide : (0 : Int32) < (1 : Int32))).2.2.2) (XS.aloadN X16.here hx rfl (hb hby d5_46) rfl rfl (XS.iload X16.here hx rfl (hb hby d5_47) rfl k)))) ?_
 obtain ⟨cl18, Ar18, -, Sz18, Ng18, Hs18, -⟩ := id V_y3
 have hin18 := inb_of (j := (1 : Int32)) (c := cl18) Sz18 ⟨by decide, by decide⟩
 refine G (fun t k => X16.laload hx (j := (1 : Int32)) (v := (.long (f10_a1_1 t0 t1 t2))) (by rw [e16]; exact Ar18.1) (State.isArrayOf_alike hZ.alike Ar18.2.1) Ar18.2.2 hin18 (Has.at Hs18 hin18 rfl) (g := (mkF m 49 #[vr a1, vi 8, vr y3, vr b5, vr b7, vi 1, vi 1] [(.int 1), (.ref y3)])) rfl rfl (hb hby d5_49) _ k) ?_
 clear hin18 Hs18 Ng18 Sz18 Ar18 cl18
 refine G (fun t k => XS.aloadN X16.here hx rfl (hb hby d5_50) rfl rfl (XS.iload X16.here hx rfl (hb hby d5_51) rfl k)) ?_
 show Go _ _ _ (T16.setTop (mkF m 53 #[vr a1, vi 8, vr y3, vr b5, vr b7, vi 1, vi 1] [(.int 1), (.ref y3), (.long (f10_a1_1 t0 t1 t2))])) _
 refine G (fun t k => XS.iconst X16.here hx rfl (hb hby d5_53) (XS.isub X16.here hx rfl (hb hby d5_54) rfl k)) ?_
 obtain ⟨cl19, Ar19, -, Sz19, Ng19, Hs19, -⟩ := id V_y3
 have hin19 := inb_of (j := (0 : Int32)) (c := cl19) Sz19 ⟨by decide, by decide⟩
 refine G (fun t k => X16.laload hx (j := (0 : Int32)) (v := (.long (f10_a1_0 t0 t1 t2))) (by rw [e16]; exact Ar19.1) (State.isArrayOf_alike hZ.alike Ar19.2.1) Ar19.2.2 hin19 (Has.at Hs19 hin19 rfl) (g := (mkF m 55 #[vr a1, vi 8, vr y3, vr b5, vr b7, vi 1, vi 1] [(.int 0), (.ref y3), (.long (f10_a1_1 t0 t1 t2))])) rfl rfl (hb hby d5_55) _ k) ?_
 clear hin19 Hs19 Ng19 Sz19 Ar19 cl19
 refine G (fun t k => XS.lcmp X16.here hx rfl (hb hby d5_56) rfl (XS.ifYes X16.here hx rfl (pc0 := 57) (pc' := 63) rfl (hb hby d5_57) rfl ((if0 _ _).trans (feq (fun z => (show ¬ ((f10_a1_1 t0 t1 t2) = (f10_a1_0 t0 t1 t2)) from he1) ((lw_eq (f10_a1_1 t0 t1 t2) (f10_a1_0 t0 t1 t2)).mp z))).2) (by decide) (by decide) (XS.aloadN X16.here hx rfl (hb hby d5_63) rfl rfl (XS.aloadN X16.here hx rfl (hb hby d5_64) rfl rfl k)))) ?_
 show Go _ _ _ (T16.setTop (mkF m 65 #[vr a1, vi 8, vr y3, vr b5, vr b7, vi 1, vi 1] [(.ref y3), (.ref b5)])) _
 refine G (fun t k => XS.iload X16.here hx rfl (hb hby d5_65) rfl k) ?_
 obtain ⟨cl20, Ar20, -, Sz20, Ng20, Hs20, -⟩ := id V_y3
 have hin20 := inb_of (j := (1 : Int32)) (c := cl20) Sz20 ⟨by decide, by decide⟩
 refine G (fun t k => X16.laload hx (j := (1 : Int32)) (v := (.long (f10_a1_1 t0 t1 t2))) (by rw [e16]; exact Ar20.1) (State.isArrayOf_alike hZ.alike Ar20.2.1) Ar20.2.2 hin20 (Has.at Hs20 hin20 rfl) (g := (mkF m 67 #[vr a1, vi 8, vr y3, vr b5, vr b7, vi 1, vi 1] [(.int 1), (.ref y3), (.ref b5)])) rfl rfl (hb hby d5_67) _ k) ?_
 clear hin20 Hs20 Ng20 Sz20 Ar20 cl20
 refine G (fun t k => XS.bipush X16.here hx rfl (hb hby d5_68) (XS.lushr X16.here hx rfl (hb hby d5_70) rfl (XS.l2i X16.here hx rfl (hb hby d5_71) rfl (XS.iconst X16.here hx rfl (hb hby d5_72) (XS.iadd X16.here hx rfl (hb hby d5_73) rfl k))))) ?_
 show Go _ _ _ (T16.setTop (mkF m 74 #[vr a1, vi 8, vr y3, vr b5, vr b7, vi 1, vi 1] [(.int (((((f10_a1_1 t0 t1 t2).toUInt64 >>> ((32 : Int32) &&& 0x3f).toInt64.toUInt64).toInt64).toInt32) + (1 : Int32))), (.ref b5)])) _
 show Go _ _ _ (T16.setTop (mkF m 74 #[vr a1, vi 8, vr y3, vr b5, vr b7, vi 1, vi 1] [(.int (gi (f10_a1_1 t0 t1 t2))), (.ref b5)])) _
 refine G (fun t k => XT.dup2 X16.here hx rfl (hb hby d5_74) rfl rfl rfl k) ?_
 obtain ⟨cl21, Ar21, -, Sz21, Ng21, Hs21, -⟩ := id V_b5
 have hin21 := inb_of (j := (gi (f10_a1_1 t0 t1 t2))) (c := cl21) Sz21 hb1
 refine G (fun t k => X16.iaload hx (j := (gi (f10_a1_1 t0 t1 t2))) (v := (.int (own_at Y13 (gi (f10_a1_1 t0 t1 t2))))) (by rw [e16]; exact Ar21.1) (State.isArrayOf_alike hZ.alike Ar21.2.1) Ar21.2.2 hin21 (Has.at Hs21 hin21 (own_atv Y13 (gi (f10_a1_1 t0 t1 t2)))) (g := (mkF m 75 #[vr a1, vi 8, vr y3, vr b5, vr b7, vi 1, vi 1] [(.int (gi (f10_a1_1 t0 t1 t2))), (.ref b5), (.int (gi (f10_a1_1 t0 t1 t2))), (.ref b5)])) rfl rfl (hb hby d5_75) _ k) ?_
 clear hin21 Hs21 Ng21 Sz21 Ar21 cl21
 refine G (fun t k => XS.iconst X16.here hx rfl (hb hby d5_76) (XS.iadd X16.here hx rfl (hb hby d5_77) rfl k)) ?_
 obtain ⟨cl22, Ar22, qq22, Sz22, Ng22, Hs22, Gs22⟩ := id V_b5
 have hin22 := inb_of (j := (gi (f10_a1_1 t0 t1 t2))) (c := cl22) Sz22 hb1
 obtain ⟨T23, h23, X23, e23, W23, st23⟩ := stI X16 hx hZ e16 Ar22 (j := (gi (f10_a1_1 t0 t1 t2))) hin22 (g := (mkF m 78 #[vr a1, vi 8, vr y3, vr b5, vr b7, vi 1, vi 1] [(.int ((own_at Y13 (gi (f10_a1_1 t0 t1 t2))) + (1 : Int32))), (.int (gi (f10_a1_1 t0 t1 t2))), (.ref b5)])) rfl rfl (hb hby d5_78)
 refine G st23 ?_
 have N23 := Fr.snoc X23 N16 g_b5
 replace V_y3 := V_y3.other W23 ne_y3_b5
 replace E_b7 := E_b7.wr W23
 replace V_b7 := V_b7.other W23 (Ne.symm ne_b5_b7)
 replace Z0 := Nat.le_trans Z0 (Nat.le_of_eq W23.size.symm)
 replace K0 := K0.wr W23 (Or.inr sz_b5)
 replace V_b5 : Arv Z h23 b5 k5 .int (9 : Int32) (List.map Value.int (bump (gi (f10_a1_1 t0 t1 t2)) Y13)) (.int (0 : Int32)) := own_mset (Arv.set Ar22 qq22 Sz22 Ng22 Hs22 Gs22 rfl W23 _ rfl (own_mlt lY13 hb1))
 have ln_23 : ((bump (gi (f10_a1_1 t0 t1 t2)) Y13)).length = 9 := lset_len lY13
 clear hin22 Gs22 Hs22 Ng22 Sz22 qq22 Ar22 cl22
 show Go _ _ _ (T23.setTop (mkF m 79 #[vr a1, vi 8, vr y3, vr b5, vr b7, vi 1, vi 1] [])) _
 obtain ⟨Y24, eY24, lY24, V24q⟩ : ∃ Y, Y = (bump (gi (f10_a1_1 t0 t1 t2)) Y13) ∧ Y.length = 9 ∧ Arv Z h23 b5 k5 .int (9 : Int32) (List.map Value.int Y) (.int (0 : Int32)) := ⟨_, rfl, ln_23, V_b5⟩
 replace V_b5 := V24q
 clear ln_23 V24q
 refine G (fun t k => XS.aload X23.here hx rfl (hb hby d5_79) rfl rfl (XS.iload X23.here hx rfl (hb hby d5_81) rfl (XS.iinc X23.here hx rfl (hb hby d5_83) rfl (l' := #[vr a1, vi 8, vr y3, vr b5, vr b7, vi ((1 : Int32) + (1 : Int32)), vi 1]) rfl (XS.aloadN X23.here hx rfl (hb hby d5_86) rfl rfl (XS.iload X23.here hx rfl (hb hby d5_87) rfl k))))) ?_
 obtain ⟨cl25, Ar25, -, Sz25, Ng25, Hs25, -⟩ := id V_y3
 have hin25 := inb_of (j := (1 : Int32)) (c := cl25) Sz25 ⟨by decide, by decide⟩
 refine G (fun t k => X23.laload hx (j := (1 : Int32)) (v := (.long (f10_a1_1 t0 t1 t2))) (by rw [e23]; exact Ar25.1) (State.isArrayOf_alike hZ.alike Ar25.2.1) Ar25.2.2 hin25 (Has.at Hs25 hin25 rfl) (g := (mkF m 89 #[vr a1, vi 8, vr y3, vr b5, vr b7, vi 2, vi 1] [(.int 1), (.ref y3), (.int 1), (.ref b7)])) rfl rfl (hb hby d5_89) _ k) ?_
 clear hin25 Hs25 Ng25 Sz25 Ar25 cl25
 refine G (fun t k => XS.l2i X23.here hx rfl (hb hby d5_90) rfl k) ?_
 show Go _ _ _ (T23.setTop (mkF m 91 #[vr a1, vi 8, vr y3, vr b5, vr b7, vi 2, vi 1] [(.int ((f10_a1_1 t0 t1 t2).toInt32)), (.int 1), (.ref b7)])) _
 obtain ⟨cl26, Ar26, qq26, Sz26, Ng26, Hs26, Gs26⟩ := id V_b7
 have hin26 := inb_of (j := (1 : Int32)) (c := cl26) Sz26 ⟨by decide, by decide⟩
 obtain ⟨T27, h27, X27, e27, W27, st27⟩ := stI X23 hx hZ e23 Ar26 (j := (1 : Int32)) hin26 (g := (mkF m 91 #[vr a1, vi 8, vr y3, vr b5, vr b7, vi 2, vi 1] [(.int ((f10_a1_1 t0 t1 t2).toInt32)), (.int 1), (.ref b7)])) rfl rfl (hb hby d5_91)
 refine G st27 ?_
 have N27 := Fr.snoc X27 N23 g_b7
 replace V_y3 := V_y3.other W27 ne_y3_b7
 replace V_b5 := V_b5.other W27 ne_b5_b7
 replace E_b7 := E_b7.wr W27
 replace Z0 := Nat.le_trans Z0 (Nat.le_of_eq W27.size.symm)
 replace K0 := K0.wr W27 (Or.inr sz_b7)
 replace V_b7 : Arv Z h27 b7 k7 .int (3 : Int32) [(.int ((f10_a1_0 t0 t1 t2).toInt32)), (.int ((f10_a1_1 t0 t1 t2).toInt32)), (.int (0 : Int32))] (.int (0 : Int32)) := Arv.set Ar26 qq26 Sz26 Ng26 Hs26 Gs26 rfl W27 1 rfl (Nat.le_of_ble_eq_true rfl)
 clear hin26 Gs26 Hs26 Ng26 Sz26 qq26 Ar26 cl26
 refine G (fun t k => XS.iinc X27.here hx rfl (hb hby d5_92) rfl (l' := #[vr a1, vi 8, vr y3, vr b5, vr b7, vi 2, vi ((1 : Int32) + (1 : Int32))]) rfl (XS.goto X27.here hx rfl (pc0 := 95) (pc' := 34) rfl (hb hby d5_95) (by decide) (by decide) (XS.iload X27.here hx rfl (hb hby d5_34) rfl (XS.aloadN X27.here hx rfl (hb hby d5_36) rfl rfl k)))) ?_
 obtain ⟨cl28, Ar28, -, Sz28, Ng28, -, -⟩ := id V_y3
 refine G (fun t k => X27.arraylength hx (by rw [e27]; exact Ar28.1) (State.isArrayOf_alike hZ.alike Ar28.2.1) (g := (mkF m 37 #[vr a1, vi 8, vr y3, vr b5, vr b7, vi 2, vi 2] [(.ref y3), (.int 2)])) rfl rfl (hb hby d5_37) _ k) ?_
 rw [len_of Sz28 Ng28]
 clear Ng28 Sz28 Ar28 cl28
 refine G (fun t k => XS.icmpNo X27.here hx rfl (hb hby d5_38) rfl (tlt (by decide : (2 : Int32) < (3 : Int32))).2.1 k) ?_
 show Go _ _ _ (T27.setTop (mkF m 41 #[vr a1, vi 8, vr y3, vr b5, vr b7, vi 2, vi 2] [])) _
 refine G (fun t k => XS.iload X27.here hx rfl (hb hby d5_41) rfl (XS.ifNo X27.here hx rfl (hb hby d5_43) rfl ((if0 _ _).trans (tlt (by decide : (0 : Int32) < (2 : Int32))).2.2.2) (XS.aloadN X27.here hx rfl (hb hby d5_46) rfl rfl (XS.iload X27.here hx rfl (hb hby d5_47) rfl k)))) ?_
 obtain ⟨cl29, Ar29, -, Sz29, Ng29, Hs29, -⟩ := id V_y3
 have hin29 := inb_of (j := (2 : Int32)) (c := cl29) Sz29 ⟨by decide, by decide⟩
 refine G (fun t k => X27.laload hx (j := (2 : Int32)) (v := (.long (f10_a1_2 t0 t1 t2))) (by rw [e27]; exact Ar29.1) (State.isArrayOf_alike hZ.alike Ar29.2.1) Ar29.2.2 hin29 (Has.at Hs29 hin29 rfl) (g := (mkF m 49 #[vr a1, vi 8, vr y3, vr b5, vr b7, vi 2, vi 2] [(.int 2), (.ref y3)])) rfl rfl (hb hby d5_49) _ k) ?_
 clear hin29 Hs29 Ng29 Sz29 Ar29 cl29
 refine G (fun t k => XS.aloadN X27.here hx rfl (hb hby d5_50) rfl rfl (XS.iload X27.here hx rfl (hb hby d5_51) rfl k)) ?_
 show Go _ _ _ (T27.setTop (mkF m 53 #[vr a1, vi 8, vr y3, vr b5, vr b7, vi 2, vi 2] [(.int 2), (.ref y3), (.long (f10_a1_2 t0 t1 t2))])) _
 refine G (fun t k => XS.iconst X27.here hx rfl (hb hby d5_53) (XS.isub X27.here hx rfl (hb hby d5_54) rfl k)) ?_
 obtain ⟨cl30, Ar30, -, Sz30, Ng30, Hs30, -⟩ := id V_y3
 have hin30 := inb_of (j := (1 : Int32)) (c := cl30) Sz30 ⟨by decide, by decide⟩
 refine G (fun t k => X27.laload hx (j := (1 : Int32)) (v := (.long (f10_a1_1 t0 t1 t2))) (by rw [e27]; exact Ar30.1) (State.isArrayOf_alike hZ.alike Ar30.2.1) Ar30.2.2 hin30 (Has.at Hs30 hin30 rfl) (g := (mkF m 55 #[vr a1, vi 8, vr y3, vr b5, vr b7, vi 2, vi 2] [(.int 1), (.ref y3), (.long (f10_a1_2 t0 t1 t2))])) rfl rfl (hb hby d5_55) _ k) ?_
 clear hin30 Hs30 Ng30 Sz30 Ar30 cl30
 refine G (fun t k => XS.lcmp X27.here hx rfl (hb hby d5_56) rfl (XS.ifYes X27.here hx rfl (pc0 := 57) (pc' := 63) rfl (hb hby d5_57) rfl ((if0 _ _).trans (feq (fun z => (show ¬ ((f10_a1_2 t0 t1 t2) = (f10_a1_1 t0 t1 t2)) from he2) ((lw_eq (f10_a1_2 t0 t1 t2) (f10_a1_1 t0 t1 t2)).mp z))).2) (by decide) (by decide) (XS.aloadN X27.here hx rfl (hb hby d5_63) rfl rfl (XS.aloadN X27.here hx rfl (hb hby d5_64) rfl rfl k)))) ?_
 show Go _ _ _ (T27.setTop (mkF m 65 #[vr a1, vi 8, vr y3, vr b5, vr b7, vi 2, vi 2] [(.ref y3), (.ref b5)])) _
 refine G (fun t k => XS.iload X27.here hx rfl (hb hby d5_65) rfl k) ?_
 obtain ⟨cl31, Ar31, -, Sz31, Ng31, Hs31, -⟩ := id V_y3
 have hin31 := inb_of (j := (2 : Int32)) (c := cl31) Sz31 ⟨by decide, by decide⟩
 refine G (fun t k => X27.laload hx (j := (2 : Int32)) (v := (.long (f10_a1_2 t0 t1 t2))) (by rw [e27]; exact Ar31.1) (State.isArrayOf_alike hZ.alike Ar31.2.1) Ar31.2.2 hin31 (Has.at Hs31 hin31 rfl) (g := (mkF m 67 #[vr a1, vi 8, vr y3, vr b5, vr b7, vi 2, vi 2] [(.int 2), (.ref y3), (.ref b5)])) rfl rfl (hb hby d5_67) _ k) ?_
 clear hin31 Hs31 Ng31 Sz31 Ar31 cl31
 refine G (fun t k => XS.bipush X27.here hx rfl (hb hby d5_68) (XS.lushr X27.here hx rfl (hb hby d5_70) rfl (XS.l2i X27.here hx rfl (hb hby d5_71) rfl (XS.iconst X27.here hx rfl (hb hby d5_72) (XS.iadd X27.here hx rfl (hb hby d5_73) rfl k))))) ?_
 show Go _ _ _ (T27.setTop (mkF m 74 #[vr a1, vi 8, vr y3, vr b5, vr b7, vi 2, vi 2] [(.int (((((f10_a1_2 t0 t1 t2).toUInt64 >>> ((32 : Int32) &&& 0x3f).toInt64.toUInt64).toInt64).toInt32) + (1 : Int32))), (.ref b5)])) _
 show Go _ _ _ (T27.setTop (mkF m 74 #[vr a1, vi 8, vr y3, vr b5, vr b7, vi 2, vi 2] [(.int (gi (f10_a1_2 t0 t1 t2))), (.ref b5)])) _
 refine G (fun t k => XT.dup2 X27.here hx rfl (hb hby d5_74) rfl rfl rfl k) ?_
 obtain ⟨cl32, Ar32, -, Sz32, Ng32, Hs32, -⟩ := id V_b5
 have hin32 := inb_of (j := (gi (f10_a1_2 t0 t1 t2))) (c := cl32) Sz32 hb2
 refine G (fun t k => X27.iaload hx (j := (gi (f10_a1_2 t0 t1 t2))) (v := (.int (own_at Y24 (gi (f10_a1_2 t0 t1 t2))))) (by rw [e27]; exact Ar32.1) (State.isArrayOf_alike hZ.alike Ar32.2.1) Ar32.2.2 hin32 (Has.at Hs32 hin32 (own_atv Y24 (gi (f10_a1_2 t0 t1 t2)))) (g := (mkF m 75 #[vr a1, vi 8, vr y3, vr b5, vr b7, vi 2, vi 2] [(.int (gi (f10_a1_2 t0 t1 t2))), (.ref b5), (.int (gi (f10_a1_2 t0 t1 t2))), (.ref b5)])) rfl rfl (hb hby d5_75) _ k) ?_
 clear hin32 Hs32 Ng32 Sz32 Ar32 cl32
 refine G (fun t k => XS.iconst X27.here hx rfl (hb hby d5_76) (XS.iadd X27.here hx rfl (hb hby d5_77) rfl k)) ?_
 obtain ⟨cl33, Ar33, qq33, Sz33, Ng33, Hs33, Gs33⟩ := id V_b5
 have hin33 := inb_of (j := (gi (f10_a1_2 t0 t1 t2))) (c := cl33) Sz33 hb2
 obtain ⟨T34, h34, X34, e34, W34, st34⟩ := stI X27 hx hZ e27 Ar33 (j := (gi (f10_a1_2 t0 t1 t2))) hin33 (g := (mkF m 78 #[vr a1, vi 8, vr y3, vr b5, vr b7, vi 2, vi 2] [(.int ((own_at Y24 (gi (f10_a1_2 t0 t1 t2))) + (1 : Int32))), (.int (gi (f10_a1_2 t0 t1 t2))), (.ref b5)])) rfl rfl (hb hby d5_78)
 refine G st34 ?_
 have N34 := Fr.snoc X34 N27 g_b5
 replace V_y3 := V_y3.other W34 ne_y3_b5
 replace E_b7 := E_b7.wr W34
 replace V_b7 := V_b7.other W34 (Ne.symm ne_b5_b7)
 replace Z0 := Nat.le_trans Z0 (Nat.le_of_eq W34.size.symm)
 replace K0 := K0.wr W34 (Or.inr sz_b5)
 replace V_b5 : Arv Z h34 b5 k5 .int (9 : Int32) (List.map Value.int (bump (gi (f10_a1_2 t0 t1 t2)) Y24)) (.int (0 : Int32)) := own_mset (Arv.set Ar33 qq33 Sz33 Ng33 Hs33 Gs33 rfl W34 _ rfl (own_mlt lY24 hb2))
 have ln_34 : ((bump (gi (f10_a1_2 t0 t1 t2)) Y24)).length = 9 := lset_len lY24
 clear hin33 Gs33 Hs33 Ng33 Sz33 qq33 Ar33 cl33
 show Go _ _ _ (T34.setTop (mkF m 79 #[vr a1, vi 8, vr y3, vr b5, vr b7, vi 2, vi 2] [])) _
 obtain ⟨Y35, eY35, lY35, V35q⟩ : ∃ Y, Y = (bump (gi (f10_a1_2 t0 t1 t2)) Y24) ∧ Y.length = 9 ∧ Arv Z h34 b5 k5 .int (9 : Int32) (List.map Value.int Y) (.int (0 : Int32)) := ⟨_, rfl, ln_34, V_b5⟩
 replace V_b5 := V35q
 clear ln_34 V35q
 refine G (fun t k => XS.aload X34.here hx rfl (hb hby d5_79) rfl rfl (XS.iload X34.here hx rfl (hb hby d5_81) rfl (XS.iinc X34.here hx rfl (hb hby d5_83) rfl (l' := #[vr a1, vi 8, vr y3, vr b5, vr b7, vi ((2 : Int32) + (1 : Int32)), vi 2]) rfl (XS.aloadN X34.here hx rfl (hb hby d5_86) rfl rfl (XS.iload X34.here hx rfl (hb hby d5_87) rfl k))))) ?_
 obtain ⟨cl36, Ar36, -, Sz36, Ng36, Hs36, -⟩ := id V_y3
 have hin36 := inb_of (j := (2 : Int32)) (c := cl36) Sz36 ⟨by decide, by decide⟩
 refine G (fun t k => X34.laload hx (j := (2 : Int32)) (v := (.long (f10_a1_2 t0 t1 t2))) (by rw [e34]; exact Ar36.1) (State.isArrayOf_alike hZ.alike Ar36.2.1) Ar36.2.2 hin36 (Has.at Hs36 hin36 rfl) (g := (mkF m 89 #[vr a1, vi 8, vr y3, vr b5, vr b7, vi 3, vi 2] [(.int 2), (.ref y3), (.int 2), (.ref b7)])) rfl rfl (hb hby d5_89) _ k) ?_
 clear hin36 Hs36 Ng36 Sz36 Ar36 cl36
 refine G (fun t k => XS.l2i X34.here hx rfl (hb hby d5_90) rfl k) ?_
 show Go _ _ _ (T34.setTop (mkF m 91 #[vr a1, vi 8, vr y3, vr b5, vr b7, vi 3, vi 2] [(.int ((f10_a1_2 t0 t1 t2).toInt32)), (.int 2), (.ref b7)])) _
 obtain ⟨cl37, Ar37, qq37, Sz37, Ng37, Hs37, Gs37⟩ := id V_b7
 have hin37 := inb_of (j := (2 : Int32)) (c := cl37) Sz37 ⟨by decide, by decide⟩
 obtain ⟨T38, h38, X38, e38, W38, st38⟩ := stI X34 hx hZ e34 Ar37 (j := (2 : Int32)) hin37 (g := (mkF m 91 #[vr a1, vi 8, vr y3, vr b5, vr b7, vi 3, vi 2] [(.int ((f10_a1_2 t0 t1 t2).toInt32)), (.int 2), (.ref b7)])) rfl rfl (hb hby d5_91)
 refine G st38 ?_
 have N38 := Fr.snoc X38 N34 g_b7
 obtain ⟨LL38, X38, N38⟩ : ∃ LL, Stand p l e (Rm 4 5 20 84) s m #[(.ref a1), (.int (8 : Int32))] below meth c T38 LL 3 15 ∧ Fr n0 LL := ⟨_, X38, N38⟩
 replace V_y3 := V_y3.other W38 ne_y3_b7
 replace V_b5 := V_b5.other W38 ne_b5_b7
 replace E_b7 := E_b7.wr W38
 replace Z0 := Nat.le_trans Z0 (Nat.le_of_eq W38.size.symm)
 replace K0 := K0.wr W38 (Or.inr sz_b7)
 replace V_b7 : Arv Z h38 b7 k7 .int (3 : Int32) [(.int ((f10_a1_0 t0 t1 t2).toInt32)), (.int ((f10_a1_1 t0 t1 t2).toInt32)), (.int ((f10_a1_2 t0 t1 t2).toInt32))] (.int (0 : Int32)) := Arv.set Ar37 qq37 Sz37 Ng37 Hs37 Gs37 rfl W38 2 rfl (Nat.le_of_ble_eq_true rfl)
 clear hin37 Gs37 Hs37 Ng37 Sz37 qq37 Ar37 cl37
 refine G (fun t k => XS.iinc X38.here hx rfl (hb hby d5_92) rfl (l' := #[vr a1, vi 8, vr y3, vr b5, vr b7, vi 3, vi ((2 : Int32) + (1 : Int32))]) rfl (XS.goto X38.here hx rfl (pc0 := 95) (pc' := 34) rfl (hb hby d5_95) (by decide) (by decide) (XS.iload X38.here hx rfl (hb hby d5_34) rfl (XS.aloadN X38.here hx rfl (hb hby d5_36) rfl rfl k)))) ?_
 obtain ⟨cl39, Ar39, -, Sz39, Ng39, -, -⟩ := id V_y3
 refine G (fun t k => X38.arraylength hx (by rw [e38]; exact Ar39.1) (State.isArrayOf_alike hZ.alike Ar39.2.1) (g := (mkF m 37 #[vr a1, vi 8, vr y3, vr b5, vr b7, vi 3, vi 3] [(.ref y3), (.int 3)])) rfl rfl (hb hby d5_37) _ k) ?_
 rw [len_of Sz39 Ng39]
 clear Ng39 Sz39 Ar39 cl39
 refine G (fun t k => XS.icmpYes X38.here hx rfl (pc0 := 38) (pc' := 98) rfl (hb hby d5_38) rfl (flt (by decide : ¬ ((3 : Int32) < (3 : Int32)))).2.1 (by decide) (by decide) k) ?_
 show Go _ _ _ (T38.setTop (mkF m 98 #[vr a1, vi 8, vr y3, vr b5, vr b7, vi 3, vi 3] [])) _
 refine G (fun t k => XS.iconst X38.here hx rfl (hb hby d5_98) (XS.istore X38.here hx rfl (hb hby d5_99) rfl (l' := #[vr a1, vi 8, vr y3, vr b5, vr b7, vi 3, vi 0]) rfl (XS.iload X38.here hx rfl (hb hby d5_101) rfl (XS.iloadN X38.here hx rfl (hb hby d5_103) rfl (XS.icmpNo X38.here hx rfl (hb hby d5_104) rfl (tlt (by decide : (0 : Int32) < (8 : Int32))).2.1 (XS.aloadN X38.here hx rfl (hb hby d5_107) rfl rfl k)))))) ?_
 refine G (fun t k => XS.iload X38.here hx rfl (hb hby d5_108) rfl k) ?_
 show Go _ _ _ (T38.setTop (mkF m 110 #[vr a1, vi 8, vr y3, vr b5, vr b7, vi 3, vi 0] [(.int 0), (.ref b5)])) _
 refine G (fun t k => XS.iconst X38.here hx rfl (hb hby d5_110) (XS.iadd X38.here hx rfl (hb hby d5_111) rfl (XT.dup2 X38.here hx rfl (hb hby d5_112) rfl rfl rfl k))) ?_
 obtain ⟨cl40, Ar40, -, Sz40, Ng40, Hs40, -⟩ := id V_b5
 have hin40 := inb_of (j := (1 : Int32)) (c := cl40) Sz40 ⟨by decide, by decide⟩
 refine G (fun t k => X38.iaload hx (j := (1 : Int32)) (v := (.int (own_at Y35 (1 : Int32)))) (by rw [e38]; exact Ar40.1) (State.isArrayOf_alike hZ.alike Ar40.2.1) Ar40.2.2 hin40 (Has.at Hs40 hin40 (own_atv Y35 (1 : Int32))) (g := (mkF m 113 #[vr a1, vi 8, vr y3, vr b5, vr b7, vi 3, vi 0] [(.int 1), (.ref b5), (.int 1), (.ref b5)])) rfl rfl (hb hby d5_113) _ k) ?_
 clear hin40 Hs40 Ng40 Sz40 Ar40 cl40
 refine G (fun t k => XS.aloadN X38.here hx rfl (hb hby d5_114) rfl rfl (XS.iload X38.here hx rfl (hb hby d5_115) rfl k)) ?_
 obtain ⟨cl41, Ar41, -, Sz41, Ng41, Hs41, -⟩ := id V_b5
 have hin41 := inb_of (j := (0 : Int32)) (c := cl41) Sz41 ⟨by decide, by decide⟩
 refine G (fun t k => X38.iaload hx (j := (0 : Int32)) (v := (.int (own_at Y35 (0 : Int32)))) (by rw [e38]; exact Ar41.1) (State.isArrayOf_alike hZ.alike Ar41.2.1) Ar41.2.2 hin41 (Has.at Hs41 hin41 (own_atv Y35 (0 : Int32))) (g := (mkF m 117 #[vr a1, vi 8, vr y3, vr b5, vr b7, vi 3, vi 0] [(.int 0), (.ref b5), (.int (own_at Y35 (1 : Int32))), (.int 1), (.ref b5)])) rfl rfl (hb hby d5_117) _ k) ?_
 clear hin41 Hs41 Ng41 Sz41 Ar41 cl41
 show Go _ _ _ (T38.setTop (mkF m 118 #[vr a1, vi 8, vr y3, vr b5, vr b7, vi 3, vi 0] [(.int (own_at Y35 (0 : Int32))), (.int (own_at Y35 (1 : Int32))), (.int 1), (.ref b5)])) _
 refine G (fun t k => XS.iadd X38.here hx rfl (hb hby d5_118) rfl k) ?_
 obtain ⟨cl42, Ar42, qq42, Sz42, Ng42, Hs42, Gs42⟩ := id V_b5
 have hin42 := inb_of (j := (1 : Int32)) (c := cl42) Sz42 ⟨by decide, by decide⟩
 obtain ⟨T43, h43, X43, e43, W43, st43⟩ := stI X38 hx hZ e38 Ar42 (j := (1 : Int32)) hin42 (g := (mkF m 119 #[vr a1, vi 8, vr y3, vr b5, vr b7, vi 3, vi 0] [(.int ((own_at Y35 (1 : Int32)) + (own_at Y35 (0 : Int32)))), (.int 1), (.ref b5)])) rfl rfl (hb hby d5_119)
 refine G st43 ?_
 have N43 := Fr.snoc X43 N38 g_b5
 replace E_b7 := E_b7.wr W43
 replace V_b7 := V_b7.other W43 (Ne.symm ne_b5_b7)
 replace Z0 := Nat.le_trans Z0 (Nat.le_of_eq W43.size.symm)
 replace K0 := K0.wr W43 (Or.inr sz_b5)
 replace V_b5 : Arv Z h43 b5 k5 .int (9 : Int32) (List.map Value.int (pre (1 : Int32) (0 : Int32) Y35)) (.int (0 : Int32)) := own_mset (Arv.set Ar42 qq42 Sz42 Ng42 Hs42 Gs42 rfl W43 _ rfl (own_mlt lY35 ⟨by decide, by decide⟩))
 have ln_43 : ((pre (1 : Int32) (0 : Int32) Y35)).length = 9 := lset_len lY35
 clear hin42 Gs42 Hs42 Ng42 Sz42 qq42 Ar42 cl42
 show Go _ _ _ (T43.setTop (mkF m 120 #[vr a1, vi 8, vr y3, vr b5, vr b7, vi 3, vi 0] [])) _
 obtain ⟨Y44, eY44, lY44, V44q⟩ : ∃ Y, Y = (pre (1 : Int32) (0 : Int32) Y35) ∧ Y.length = 9 ∧ Arv Z h43 b5 k5 .int (9 : Int32) (List.map Value.int Y) (.int (0 : Int32)) := ⟨_, rfl, ln_43, V_b5⟩
 replace V_b5 := V44q
 clear ln_43 V44q
 refine G (fun t k => XS.iinc X43.here hx rfl (hb hby d5_120) rfl (l' := #[vr a1, vi 8, vr y3, vr b5, vr b7, vi 3, vi ((0 : Int32) + (1 : Int32))]) rfl (XS.goto X43.here hx rfl (pc0 := 123) (pc' := 101) rfl (hb hby d5_123) (by decide) (by decide) (XS.iload X43.here hx rfl (hb hby d5_101) rfl (XS.iloadN X43.here hx rfl (hb hby d5_103) rfl (XS.icmpNo X43.here hx rfl (hb hby d5_104) rfl (tlt (by decide : (1 : Int32) < (8 : Int32))).2.1 (XS.aloadN X43.here hx rfl (hb hby d5_107) rfl rfl k)))))) ?_
 refine G (fun t k => XS.iload X43.here hx rfl (hb hby d5_108) rfl k) ?_
 show Go _ _ _ (T43.setTop (mkF m 110 #[vr a1, vi 8, vr y3, vr b5, vr b7, vi 3, vi 1] [(.int 1), (.ref b5)])) _
 refine G (fun t k => XS.iconst X43.here hx rfl (hb hby d5_110) (XS.iadd X43.here hx rfl (hb hby d5_111) rfl (XT.dup2 X43.here hx rfl (hb hby d5_112) rfl rfl rfl k))) ?_
 obtain ⟨cl45, Ar45, -, Sz45, Ng45, Hs45, -⟩ := id V_b5
 have hin45 := inb_of (j := (2 : Int32)) (c := cl45) Sz45 ⟨by decide, by decide⟩
 refine G (fun t k => X43.iaload hx (j := (2 : Int32)) (v := (.int (own_at Y44 (2 : Int32)))) (by rw [e43]; exact Ar45.1) (State.isArrayOf_alike hZ.alike Ar45.2.1) Ar45.2.2 hin45 (Has.at Hs45 hin45 (own_atv Y44 (2 : Int32))) (g := (mkF m 113 #[vr a1, vi 8, vr y3, vr b5, vr b7, vi 3, vi 1] [(.int 2), (.ref b5), (.int 2), (.ref b5)])) rfl rfl (hb hby d5_113) _ k) ?_
 clear hin45 Hs45 Ng45 Sz45 Ar45 cl45
 refine G (fun t k => XS.aloadN X43.here hx rfl (hb hby d5_114) rfl rfl (XS.iload X43.here hx rfl (hb hby d5_115) rfl k)) ?_
 obtain ⟨cl46, Ar46, -, Sz46, Ng46, Hs46, -⟩ := id V_b5
 have hin46 := inb_of (j := (1 : Int32)) (c := cl46) Sz46 ⟨by decide, by decide⟩
 refine G (fun t k => X43.iaload hx (j := (1 : Int32)) (v := (.int (own_at Y44 (1 : Int32)))) (by rw [e43]; exact Ar46.1) (State.isArrayOf_alike hZ.alike Ar46.2.1) Ar46.2.2 hin46 (Has.at Hs46 hin46 (own_atv Y44 (1 : Int32))) (g := (mkF m 117 #[vr a1, vi 8, vr y3, vr b5, vr b7, vi 3, vi 1] [(.int 1), (.ref b5), (.int (own_at Y44 (2 : Int32))), (.int 2), (.ref b5)])) rfl rfl (hb hby d5_117) _ k) ?_
 clear hin46 Hs46 Ng46 Sz46 Ar46 cl46
 show Go _ _ _ (T43.setTop (mkF m 118 #[vr a1, vi 8, vr y3, vr b5, vr b7, vi 3, vi 1] [(.int (own_at Y44 (1 : Int32))), (.int (own_at Y44 (2 : Int32))), (.int 2), (.ref b5)])) _
 refine G (fun t k => XS.iadd X43.here hx rfl (hb hby d5_118) rfl k) ?_
 obtain ⟨cl47, Ar47, qq47, Sz47, Ng47, Hs47, Gs47⟩ := id V_b5
 have hin47 := inb_of (j := (2 : Int32)) (c := cl47) Sz47 ⟨by decide, by decide⟩
 obtain ⟨T48, h48, X48, e48, W48, st48⟩ := stI X43 hx hZ e43 Ar47 (j := (2 : Int32)) hin47 (g := (mkF m 119 #[vr a1, vi 8, vr y3, vr b5, vr b7, vi 3, vi 1] [(.int ((own_at Y44 (2 : Int32)) + (own_at Y44 (1 : Int32)))), (.int 2), (.ref b5)])) rfl rfl (hb hby d5_119)
 refine G st48 ?_
 have N48 := Fr.snoc X48 N43 g_b5
 replace E_b7 := E_b7.wr W48
 replace V_b7 := V_b7.other W48 (Ne.symm ne_b5_b7)
 replace Z0 := Nat.le_trans Z0 (Nat.le_of_eq W48.size.symm)
 replace K0 := K0.wr W48 (Or.inr sz_b5)
 replace V_b5 : Arv Z h48 b5 k5 .int (9 : Int32) (List.map Value.int (pre (2 : Int32) (1 : Int32) Y44)) (.int (0 : Int32)) := own_mset (Arv.set Ar47 qq47 Sz47 Ng47 Hs47 Gs47 rfl W48 _ rfl (own_mlt lY44 ⟨by decide, by decide⟩))
 have ln_48 : ((pre (2 : Int32) (1 : Int32) Y44)).length = 9 := lset_len lY44
 clear hin47 Gs47 Hs47 Ng47 Sz47 qq47 Ar47 cl47
 show Go _ _ _ (T48.setTop (mkF m 120 #[vr a1, vi 8, vr y3, vr b5, vr b7, vi 3, vi 1] [])) _
 obtain ⟨Y49, eY49, lY49, V49q⟩ : ∃ Y, Y = (pre (2 : Int32) (1 : Int32) Y44) ∧ Y.length = 9 ∧ Arv Z h48 b5 k5 .int (9 : Int32) (List.map Value.int Y) (.int (0 : Int32)) := ⟨_, rfl, ln_48, V_b5⟩
 replace V_b5 := V49q
 clear ln_48 V49q
 refine G (fun t k => XS.iinc X48.here hx rfl (hb hby d5_120) rfl (l' := #[vr a1, vi 8, vr y3, vr b5, vr b7, vi 3, vi ((1 : Int32) + (1 : Int32))]) rfl (XS.goto X48.here hx rfl (pc0 := 123) (pc' := 101) rfl (hb hby d5_123) (by decide) (by decide) (XS.iload X48.here hx rfl (hb hby d5_101) rfl (XS.iloadN X48.here hx rfl (hb hby d5_103) rfl (XS.icmpNo X48.here hx rfl (hb hby d5_104) rfl (tlt (by decide : (2 : Int32) < (8 : Int32))).2.1 (XS.aloadN X48.here hx rfl (hb hby d5_107) rfl rfl k)))))) ?_
 refine G (fun t k => XS.iload X48.here hx rfl (hb hby d5_108) rfl k) ?_
 show Go _ _ _ (T48.setTop (mkF m 110 #[vr a1, vi 8, vr y3, vr b5, vr b7, vi 3, vi 2] [(.int 2), (.ref b5)])) _
 refine G (fun t k => XS.iconst X48.here hx rfl (hb hby d5_110) (XS.iadd X48.here hx rfl (hb hby d5_111) rfl (XT.dup2 X48.here hx rfl (hb hby d5_112) rfl rfl rfl k))) ?_
 obtain ⟨cl50, Ar50, -, Sz50, Ng50, Hs50, -⟩ := id V_b5
 have hin50 := inb_of (j := (3 : Int32)) (c := cl50) Sz50 ⟨by decide, by decide⟩
 refine G (fun t k => X48.iaload hx (j := (3 : Int32)) (v := (.int (own_at Y49 (3 : Int32)))) (by rw [e48]; exact Ar50.1) (State.isArrayOf_alike hZ.alike Ar50.2.1) Ar50.2.2 hin50 (Has.at Hs50 hin50 (own_atv Y49 (3 : Int32))) (g := (mkF m 113 #[vr a1, vi 8, vr y3, vr b5, vr b7, vi 3, vi 2] [(.int 3), (.ref b5), (.int 3), (.ref b5)])) rfl rfl (hb hby d5_113) _ k) ?_
 clear hin50 Hs50 Ng50 Sz50 Ar50 cl50
 refine G (fun t k => XS.aloadN X48.here hx rfl (hb hby d5_114) rfl rfl (XS.iload X48.here hx rfl (hb hby d5_115) rfl k)) ?_
 obtain ⟨cl51, Ar51, -, Sz51, Ng51, Hs51, -⟩ := id V_b5
 have hin51 := inb_of (j := (2 : Int32)) (c := cl51) Sz51 ⟨by decide, by decide⟩
 refine G (fun t k => X48.iaload hx (j := (2 : Int32)) (v := (.int (own_at Y49 (2 : Int32)))) (by rw [e48]; exact Ar51.1) (State.isArrayOf_alike hZ.alike Ar51.2.1) Ar51.2.2 hin51 (Has.at Hs51 hin51 (own_atv Y49 (2 : Int32))) (g := (mkF m 117 #[vr a1, vi 8, vr y3, vr b5, vr b7, vi 3, vi 2] [(.int 2), (.ref b5), (.int (own_at Y49 (3 : Int32))), (.int 3), (.ref b5)])) rfl rfl (hb hby d5_117) _ k) ?_
 clear hin51 Hs51 Ng51 Sz51 Ar51 cl51
 show Go _ _ _ (T48.setTop (mkF m 118 #[vr a1, vi 8, vr y3, vr b5, vr b7, vi 3, vi 2] [(.int (own_at Y49 (2 : Int32))), (.int (own_at Y49 (3 : Int32))), (.int 3), (.ref b5)])) _
 refine G (fun t k => XS.iadd X48.here hx rfl (hb hby d5_118) rfl k) ?_
 obtain ⟨cl52, Ar52, qq52, Sz52, Ng52, Hs52, Gs52⟩ := id V_b5
 have hin52 := inb_of (j := (3 : Int32)) (c := cl52) Sz52 ⟨by decide, by decide⟩
 obtain ⟨T53, h53, X53, e53, W53, st53⟩ := stI X48 hx hZ e48 Ar52 (j := (3 : Int32)) hin52 (g := (mkF m 119 #[vr a1, vi 8, vr y3, vr b5, vr b7, vi 3, vi 2] [(.int ((own_at Y49 (3 : Int32)) + (own_at Y49 (2 : Int32)))), (.int 3), (.ref b5)])) rfl rfl (hb hby d5_119)
 refine G st53 ?_
 have N53 := Fr.snoc X53 N48 g_b5
 replace E_b7 := E_b7.wr W53
 replace V_b7 := V_b7.other W53 (Ne.symm ne_b5_b7)
 replace Z0 := Nat.le_trans Z0 (Nat.le_of_eq W53.size.symm)
 replace K0 := K0.wr W53 (Or.inr sz_b5)
 replace V_b5 : Arv Z h53 b5 k5 .int (9 : Int32) (List.map Value.int (pre (3 : Int32) (2 : Int32) Y49)) (.int (0 : Int32)) := own_mset (Arv.set Ar52 qq52 Sz52 Ng52 Hs52 Gs52 rfl W53 _ rfl (own_mlt lY49 ⟨by decide, by decide⟩))
 have ln_53 : ((pre (3 : Int32) (2 : Int32) Y49)).length = 9 := lset_len lY49
 clear hin52 Gs52 Hs52 Ng52 Sz52 qq52 Ar52 cl52
 show Go _ _ _ (T53.setTop (mkF m 120 #[vr a1, vi 8, vr y3, vr b5, vr b7, vi 3, vi 2] [])) _
 obtain ⟨Y54, eY54, lY54, V54q⟩ : ∃ Y, Y = (pre (3 : Int32) (2 : Int32) Y49) ∧ Y.length = 9 ∧ Arv Z h53 b5 k5 .int (9 : Int32) (List.map Value.int Y) (.int (0 : Int32)) := ⟨_, rfl, ln_53, V_b5⟩
 replace V_b5 := V54q
 clear ln_53 V54q
 refine G (fun t k => XS.iinc X53.here hx rfl (hb hby d5_120) rfl (l' := #[vr a1, vi 8, vr y3, vr b5, vr b7, vi 3, vi ((2 : Int32) + (1 : Int32))]) rfl (XS.goto X53.here hx rfl (pc0 := 123) (pc' := 101) rfl (hb hby d5_123) (by decide) (by decide) (XS.iload X53.here hx rfl (hb hby d5_101) rfl (XS.iloadN X53.here hx rfl (hb hby d5_103) rfl (XS.icmpNo X53.here hx rfl (hb hby d5_104) rfl (tlt (by decide : (3 : Int32) < (8 : Int32))).2.1 (XS.aloadN X53.here hx rfl (hb hby d5_107) rfl rfl k)))))) ?_
 refine G (fun t k => XS.iload X53.here hx rfl (hb hby d5_108) rfl k) ?_
 show Go _ _ _ (T53.setTop (mkF m 110 #[vr a1, vi 8, vr y3, vr b5, vr b7, vi 3, vi 3] [(.int 3), (.ref b5)])) _
 refine G (fun t k => XS.iconst X53.here hx rfl (hb hby d5_110) (XS.iadd X53.here hx rfl (hb hby d5_111) rfl (XT.dup2 X53.here hx rfl (hb hby d5_112) rfl rfl rfl k))) ?_
 obtain ⟨cl55, Ar55, -, Sz55, Ng55, Hs55, -⟩ := id V_b5
 have hin55 := inb_of (j := (4 : Int32)) (c := cl55) Sz55 ⟨by decide, by decide⟩
 refine G (fun t k => X53.iaload hx (j := (4 : Int32)) (v := (.int (own_at Y54 (4 : Int32)))) (by rw [e53]; exact Ar55.1) (State.isArrayOf_alike hZ.alike Ar55.2.1) Ar55.2.2 hin55 (Has.at Hs55 hin55 (own_atv Y54 (4 : Int32))) (g := (mkF m 113 #[vr a1, vi 8, vr y3, vr b5, vr b7, vi 3, vi 3] [(.int 4), (.ref b5), (.int 4), (.ref b5)])) rfl rfl (hb hby d5_113) _ k) ?_
 clear hin55 Hs55 Ng55 Sz55 Ar55 cl55
 refine G (fun t k => XS.aloadN X53.here hx rfl (hb hby d5_114) rfl rfl (XS.iload X53.here hx rfl (hb hby d5_115) rfl k)) ?_
 obtain ⟨cl56, Ar56, -, Sz56, Ng56, Hs56, -⟩ := id V_b5
 have hin56 := inb_of (j := (3 : Int32)) (c := cl56) Sz56 ⟨by decide, by decide⟩
 refine G (fun t k => X53.iaload hx (j := (3 : Int32)) (v := (.int (own_at Y54 (3 : Int32)))) (by rw [e53]; exact Ar56.1) (State.isArrayOf_alike hZ.alike Ar56.2.1) Ar56.2.2 hin56 (Has.at Hs56 hin56 (own_atv Y54 (3 : Int32))) (g := (mkF m 117 #[vr a1, vi 8, vr y3, vr b5, vr b7, vi 3, vi 3] [(.int 3), (.ref b5), (.int (own_at Y54 (4 : Int32))), (.int 4), (.ref b5)])) rfl rfl (hb hby d5_117) _ k) ?_
 clear hin56 Hs56 Ng56 Sz56 Ar56 cl56
 show Go _ _ _ (T53.setTop (mkF m 118 #[vr a1, vi 8, vr y3, vr b5, vr b7, vi 3, vi 3] [(.int (own_at Y54 (3 : Int32))), (.int (own_at Y54 (4 : Int32))), (.int 4), (.ref b5)])) _
 refine G (fun t k => XS.iadd X53.here hx rfl (hb hby d5_118) rfl k) ?_
 obtain ⟨cl57, Ar57, qq57, Sz57, Ng57, Hs57, Gs57⟩ := id V_b5
 have hin57 := inb_of (j := (4 : Int32)) (c := cl57) Sz57 ⟨by decide, by decide⟩
 obtain ⟨T58, h58, X58, e58, W58, st58⟩ := stI X53 hx hZ e53 Ar57 (j := (4 : Int32)) hin57 (g := (mkF m 119 #[vr a1, vi 8, vr y3, vr b5, vr b7, vi 3, vi 3] [(.int ((own_at Y54 (4 : Int32)) + (own_at Y54 (3 : Int32)))), (.int 4), (.ref b5)])) rfl rfl (hb hby d5_119)
 refine G st58 ?_
 have N58 := Fr.snoc X58 N53 g_b5
 obtain ⟨LL58, X58, N58⟩ : ∃ LL, Stand p l e (Rm 4 5 20 84) s m #[(.ref a1), (.int (8 : Int32))] below meth c T58 LL 3 15 ∧ Fr n0 LL := ⟨_, X58, N58⟩
 replace E_b7 := E_b7.wr W58
 replace V_b7 := V_b7.other W58 (Ne.symm ne_b5_b7)
 replace Z0 := Nat.le_trans Z0 (Nat.le_of_eq W58.size.symm)
 replace K0 := K0.wr W58 (Or.inr sz_b5)
 replace V_b5 : Arv Z h58 b5 k5 .int (9 : Int32) (List.map Value.int (pre (4 : Int32) (3 : Int32) Y54)) (.int (0 : Int32)) := own_mset (Arv.set Ar57 qq57 Sz57 Ng57 Hs57 Gs57 rfl W58 _ rfl (own_mlt lY54 ⟨by decide, by decide⟩))
 have ln_58 : ((pre (4 : Int32) (3 : Int32) Y54)).length = 9 := lset_len lY54
 clear hin57 Gs57 Hs57 Ng57 Sz57 qq57 Ar57 cl57
 show Go _ _ _ (T58.setTop (mkF m 120 #[vr a1, vi 8, vr y3, vr b5, vr b7, vi 3, vi 3] [])) _
 obtain ⟨Y59, eY59, lY59, V59q⟩ : ∃ Y, Y = (pre (4 : Int32) (3 : Int32) Y54) ∧ Y.length = 9 ∧ Arv Z h58 b5 k5 .int (9 : Int32) (List.map Value.int Y) (.int (0 : Int32)) := ⟨_, rfl, ln_58, V_b5⟩
 replace V_b5 := V59q
 clear ln_58 V59q
 refine G (fun t k => XS.iinc X58.here hx rfl (hb hby d5_120) rfl (l' := #[vr a1, vi 8, vr y3, vr b5, vr b7, vi 3, vi ((3 : Int32) + (1 : Int32))]) rfl (XS.goto X58.here hx rfl (pc0 := 123) (pc' := 101) rfl (hb hby d5_123) (by decide) (by decide) (XS.iload X58.here hx rfl (hb hby d5_101) rfl (XS.iloadN X58.here hx rfl (hb hby d5_103) rfl (XS.icmpNo X58.here hx rfl (hb hby d5_104) rfl (tlt (by decide : (4 : Int32) < (8 : Int32))).2.1 (XS.aloadN X58.here hx rfl (hb hby d5_107) rfl rfl k)))))) ?_
 refine G (fun t k => XS.iload X58.here hx rfl (hb hby d5_108) rfl k) ?_
 show Go _ _ _ (T58.setTop (mkF m 110 #[vr a1, vi 8, vr y3, vr b5, vr b7, vi 3, vi 4] [(.int 4), (.ref b5)])) _
 refine G (fun t k => XS.iconst X58.here hx rfl (hb hby d5_110) (XS.iadd X58.here hx rfl (hb hby d5_111) rfl (XT.dup2 X58.here hx rfl (hb hby d5_112) rfl rfl rfl k))) ?_
 obtain ⟨cl60, Ar60, -, Sz60, Ng60, Hs60, -⟩ := id V_b5
 have hin60 := inb_of (j := (5 : Int32)) (c := cl60) Sz60 ⟨by decide, by decide⟩
 refine G (fun t k => X58.iaload hx (j := (5 : Int32)) (v := (.int (own_at Y59 (5 : Int32)))) (by rw [e58]; exact Ar60.1) (State.isArrayOf_alike hZ.alike Ar60.2.1) Ar60.2.2 hin60 (Has.at Hs60 hin60 (own_atv Y59 (5 : Int32))) (g := (mkF m 113 #[vr a1, vi 8, vr y3, vr b5, vr b7, vi 3, vi 4] [(.int 5), (.ref b5), (.int 5), (.ref b5)])) rfl rfl (hb hby d5_113) _ k) ?_
 clear hin60 Hs60 Ng60 Sz60 Ar60 cl60
 refine G (fun t k => XS.aloadN X58.here hx rfl (hb hby d5_114) rfl rfl (XS.iload X58.here hx rfl (hb hby d5_115) rfl k)) ?_
 obtain ⟨cl61, Ar61, -, Sz61, Ng61, Hs61, -⟩ := id V_b5
 have hin61 := inb_of (j := (4 : Int32)) (c := cl61) Sz61 ⟨by decide, by decide⟩
 refine G (fun t k => X58.iaload hx (j := (4 : Int32)) (v := (.int (own_at Y59 (4 : Int32)))) (by rw [e58]; exact Ar61.1) (State.isArrayOf_alike hZ.alike Ar61.2.1) Ar61.2.2 hin61 (Has.at Hs61 hin61 (own_atv Y59 (4 : Int32))) (g := (mkF m 117 #[vr a1, vi 8, vr y3, vr b5, vr b7, vi 3, vi 4] [(.int 4), (.ref b5), (.int (own_at Y59 (5 : Int32))), (.int 5), (.ref b5)])) rfl rfl (hb hby d5_117) _ k) ?_
 clear hin61 Hs61 Ng61 Sz61 Ar61 cl61
 show Go _ _ _ (T58.setTop (mkF m 118 #[vr a1, vi 8, vr y3, vr b5, vr b7, vi 3, vi 4] [(.int (own_at Y59 (4 : Int32))), (.int (own_at Y59 (5 : Int32))), (.int 5), (.ref b5)])) _
 refine G (fun t k => XS.iadd X58.here hx rfl (hb hby d5_118) rfl k) ?_
 obtain ⟨cl62, Ar62, qq62, Sz62, Ng62, Hs62, Gs62⟩ := id V_b5
 have hin62 := inb_of (j := (5 : Int32)) (c := cl62) Sz62 ⟨by decide, by decide⟩
 obtain ⟨T63, h63, X63, e63, W63, st63⟩ := stI X58 hx hZ e58 Ar62 (j := (5 : Int32)) hin62 (g := (mkF m 119 #[vr a1, vi 8, vr y3, vr b5, vr b7, vi 3, vi 4] [(.int ((own_at Y59 (5 : Int32)) + (own_at Y59 (4 : Int32)))), (.int 5), (.ref b5)])) rfl rfl (hb hby d5_119)
 refine G st63 ?_
 have N63 := Fr.snoc X63 N58 g_b5
 replace E_b7 := E_b7.wr W63
 replace V_b7 := V_b7.other W63 (Ne.symm ne_b5_b7)
 replace Z0 := Nat.le_trans Z0 (Nat.le_of_eq W63.size.symm)
 replace K0 := K0.wr W63 (Or.inr sz_b5)
 replace V_b5 : Arv Z h63 b5 k5 .int (9 : Int32) (List.map Value.int (pre (5 : Int32) (4 : Int32) Y59)) (.int (0 : Int32)) := own_mset (Arv.set Ar62 qq62 Sz62 Ng62 Hs62 Gs62 rfl W63 _ rfl (own_mlt lY59 ⟨by decide, by decide⟩))
 have ln_63 : ((pre (5 : Int32) (4 : Int32) Y59)).length = 9 := lset_len lY59
 clear hin62 Gs62 Hs62 Ng62 Sz62 qq62 Ar62 cl62
 show Go _ _ _ (T63.setTop (mkF m 120 #[vr a1, vi 8, vr y3, vr b5, vr b7, vi 3, vi 4] [])) _
 obtain ⟨Y64, eY64, lY64, V64q⟩ : ∃ Y, Y = (pre (5 : Int32) (4 : Int32) Y59) ∧ Y.length = 9 ∧ Arv Z h63 b5 k5 .int (9 : Int32) (List.map Value.int Y) (.int (0 : Int32)) := ⟨_, rfl, ln_63, V_b5⟩
 replace V_b5 := V64q
 clear ln_63 V64q
 refine G (fun t k => XS.iinc X63.here hx rfl (hb hby d5_120) rfl (l' := #[vr a1, vi 8, vr y3, vr b5, vr b7, vi 3, vi ((4 : Int32) + (1 : Int32))]) rfl (XS.goto X63.here hx rfl (pc0 := 123) (pc' := 101) rfl (hb hby d5_123) (by decide) (by decide) (XS.iload X63.here hx rfl (hb hby d5_101) rfl (XS.iloadN X63.here hx rfl (hb hby d5_103) rfl (XS.icmpNo X63.here hx rfl (hb hby d5_104) rfl (tlt (by decide : (5 : Int32) < (8 : Int32))).2.1 (XS.aloadN X63.here hx rfl (hb hby d5_107) rfl rfl k)))))) ?_
 refine G (fun t k => XS.iload X63.here hx rfl (hb hby d5_108) rfl k) ?_
 show Go _ _ _ (T63.setTop (mkF m 110 #[vr a1, vi 8, vr y3, vr b5, vr b7, vi 3, vi 5] [(.int 5), (.ref b5)])) _
 refine G (fun t k => XS.iconst X63.here hx rfl (hb hby d5_110) (XS.iadd X63.here hx rfl (hb hby d5_111) rfl (XT.dup2 X63.here hx rfl (hb hby d5_112) rfl rfl rfl k))) ?_
 obtain ⟨cl65, Ar65, -, Sz65, Ng65, Hs65, -⟩ := id V_b5
 have hin65 := inb_of (j := (6 : Int32)) (c := cl65) Sz65 ⟨by decide, by decide⟩
 refine G (fun t k => X63.iaload hx (j := (6 : Int32)) (v := (.int (own_at Y64 (6 : Int32)))) (by rw [e63]; exact Ar65.1) (State.isArrayOf_alike hZ.alike Ar65.2.1) Ar65.2.2 hin65 (Has.at Hs65 hin65 (own_atv Y64 (6 : Int32))) (g := (mkF m 113 #[vr a1, vi 8, vr y3, vr b5, vr b7, vi 3, vi 5] [(.int 6), (.ref b5), (.int 6), (.ref b5)])) rfl rfl (hb hby d5_113) _ k) ?_
 clear hin65 Hs65 Ng65 Sz65 Ar65 cl65
 refine G (fun t k => XS.aloadN X63.here hx rfl (hb hby d5_114) rfl rfl (XS.iload X63.here hx rfl (hb hby d5_115) rfl k)) ?_
 obtain ⟨cl66, Ar66, -, Sz66, Ng66, Hs66, -⟩ := id V_b5
 have hin66 := inb_of (j := (5 : Int32)) (c := cl66) Sz66 ⟨by decide, by decide⟩
 refine G (fun t k => X63.iaload hx (j := (5 : Int32)) (v := (.int (own_at Y64 (5 : Int32)))) (by rw [e63]; exact Ar66.1) (State.isArrayOf_alike hZ.alike Ar66.2.1) Ar66.2.2 hin66 (Has.at Hs66 hin66 (own_atv Y64 (5 : Int32))) (g := (mkF m 117 #[vr a1, vi 8, vr y3, vr b5, vr b7, vi 3, vi 5] [(.int 5), (.ref b5), (.int (own_at Y64 (6 : Int32))), (.int 6), (.ref b5)])) rfl rfl (hb hby d5_117) _ k) ?_
 clear hin66 Hs66 Ng66 Sz66 Ar66 cl66
 show Go _ _ _ (T63.setTop (mkF m 118 #[vr a1, vi 8, vr y3, vr b5, vr b7, vi 3, vi 5] [(.int (own_at Y64 (5 : Int32))), (.int (own_at Y64 (6 : Int32))), (.int 6), (.ref b5)])) _
 refine G (fun t k => XS.iadd X63.here hx rfl (hb hby d5_118) rfl k) ?_
 obtain ⟨cl67, Ar67, qq67, Sz67, Ng67, Hs67, Gs67⟩ := id V_b5
 have hin67 := inb_of (j := (6 : Int32)) (c := cl67) Sz67 ⟨by decide, by decide⟩
 obtain ⟨T68, h68, X68, e68, W68, st68⟩ := stI X63 hx hZ e63 Ar67 (j := (6 : Int32)) hin67 (g := (mkF m 119 #[vr a1, vi 8, vr y3, vr b5, vr b7, vi 3, vi 5] [(.int ((own_at Y64 (6 : Int32)) + (own_at Y64 (5 : Int32)))), (.int 6), (.ref b5)])) rfl rfl (hb hby d5_119)
 refine G st68 ?_
 have N68 := Fr.snoc X68 N63 g_b5
 replace E_b7 := E_b7.wr W68
 replace V_b7 := V_b7.other W68 (Ne.symm ne_b5_b7)
 replace Z0 := Nat.le_trans Z0 (Nat.le_of_eq W68.size.symm)
 replace K0 := K0.wr W68 (Or.inr sz_b5)
 replace V_b5 : Arv Z h68 b5 k5 .int (9 : Int32) (List.map Value.int (pre (6 : Int32) (5 : Int32) Y64)) (.int (0 : Int32)) := own_mset (Arv.set Ar67 qq67 Sz67 Ng67 Hs67 Gs67 rfl W68 _ rfl (own_mlt lY64 ⟨by decide, by decide⟩))
 have ln_68 : ((pre (6 : Int32) (5 : Int32) Y64)).length = 9 := lset_len lY64
 clear hin67 Gs67 Hs67 Ng67 Sz67 qq67 Ar67 cl67
 show Go _ _ _ (T68.setTop (mkF m 120 #[vr a1, vi 8, vr y3, vr b5, vr b7, vi 3, vi 5] [])) _
 obtain ⟨Y69, eY69, lY69, V69q⟩ : ∃ Y, Y = (pre (6 : Int32) (5 : Int32) Y64) ∧ Y.length = 9 ∧ Arv Z h68 b5 k5 .int (9 : Int32) (List.map Value.int Y) (.int (0 : Int32)) := ⟨_, rfl, ln_68, V_b5⟩
 replace V_b5 := V69q
 clear ln_68 V69q
 refine G (fun t k => XS.iinc X68.here hx rfl (hb hby d5_120) rfl (l' := #[vr a1, vi 8, vr y3, vr b5, vr b7, vi 3, vi ((5 : Int32) + (1 : Int32))]) rfl (XS.goto X68.here hx rfl (pc0 := 123) (pc' := 101) rfl (hb hby d5_123) (by decide) (by decide) (XS.iload X68.here hx rfl (hb hby d5_101) rfl (XS.iloadN X68.here hx rfl (hb hby d5_103) rfl (XS.icmpNo X68.here hx rfl (hb hby d5_104) rfl (tlt (by decide : (6 : Int32) < (8 : Int32))).2.1 (XS.aloadN X68.here hx rfl (hb hby d5_107) rfl rfl k)))))) ?_
 refine G (fun t k => XS.iload X68.here hx rfl (hb hby d5_108) rfl k) ?_
 show Go _ _ _ (T68.setTop (mkF m 110 #[vr a1, vi 8, vr y3, vr b5, vr b7, vi 3, vi 6] [(.int 6), (.ref b5)])) _
 refine G (fun t k => XS.iconst X68.here hx rfl (hb hby d5_110) (XS.iadd X68.here hx rfl (hb hby d5_111) rfl (XT.dup2 X68.here hx rfl (hb hby d5_112) rfl rfl rfl k))) ?_
 obtain ⟨cl70, Ar70, -, Sz70, Ng70, Hs70, -⟩ := id V_b5
 have hin70 := inb_of (j := (7 : Int32)) (c := cl70) Sz70 ⟨by decide, by decide⟩
 refine G (fun t k => X68.iaload hx (j := (7 : Int32)) (v := (.int (own_at Y69 (7 : Int32)))) (by rw [e68]; exact Ar70.1) (State.isArrayOf_alike hZ.alike Ar70.2.1) Ar70.2.2 hin70 (Has.at Hs70 hin70 (own_atv Y69 (7 : Int32))) (g := (mkF m 113 #[vr a1, vi 8, vr y3, vr b5, vr b7, vi 3, vi 6] [(.int 7), (.ref b5), (.int 7), (.ref b5)])) rfl rfl (hb hby d5_113) _ k) ?_
 clear hin70 Hs70 Ng70 Sz70 Ar70 cl70
 refine G (fun t k => XS.aloadN X68.here hx rfl (hb hby d5_114) rfl rfl (XS.iload X68.here hx rfl (hb hby d5_115) rfl k)) ?_
 obtain ⟨cl71, Ar71, -, Sz71, Ng71, Hs71, -⟩ := id V_b5
 have hin71 := inb_of (j := (6 : Int32)) (c := cl71) Sz71 ⟨by decide, by decide⟩
 refine G (fun t k => X68.iaload hx (j := (6 : Int32)) (v := (.int (own_at Y69 (6 : Int32)))) (by rw [e68]; exact Ar71.1) (State.isArrayOf_alike hZ.alike Ar71.2.1) Ar71.2.2 hin71 (Has.at Hs71 hin71 (own_atv Y69 (6 : Int32))) (g := (mkF m 117 #[vr a1, vi 8, vr y3, vr b5, vr b7, vi 3, vi 6] [(.int 6), (.ref b5), (.int (own_at Y69 (7 : Int32))), (.int 7), (.ref b5)])) rfl rfl (hb hby d5_117) _ k) ?_
 clear hin71 Hs71 Ng71 Sz71 Ar71 cl71
 show Go _ _ _ (T68.setTop (mkF m 118 #[vr a1, vi 8, vr y3, vr b5, vr b7, vi 3, vi 6] [(.int (own_at Y69 (6 : Int32))), (.int (own_at Y69 (7 : Int32))), (.int 7), (.ref b5)])) _
 refine G (fun t k => XS.iadd X68.here hx rfl (hb hby d5_118) rfl k) ?_
 obtain ⟨cl72, Ar72, qq72, Sz72, Ng72, Hs72, Gs72⟩ := id V_b5
 have hin72 := inb_of (j := (7 : Int32)) (c := cl72) Sz72 ⟨by decide, by decide⟩
 obtain ⟨T73, h73, X73, e73, W73, st73⟩ := stI X68 hx hZ e68 Ar72 (j := (7 : Int32)) hin72 (g := (mkF m 119 #[vr a1, vi 8, vr y3, vr b5, vr b7, vi 3, vi 6] [(.int ((own_at Y69 (7 : Int32)) + (own_at Y69 (6 : Int32)))), (.int 7), (.ref b5)])) rfl rfl (hb hby d5_119)
 refine G st73 ?_
 have N73 := Fr.snoc X73 N68 g_b5
 replace E_b7 := E_b7.wr W73
 replace V_b7 := V_b7.other W73 (Ne.symm ne_b5_b7)
 replace Z0 := Nat.le_trans Z0 (Nat.le_of_eq W73.size.symm)
 replace K0 := K0.wr W73 (Or.inr sz_b5)
 replace V_b5 : Arv Z h73 b5 k5 .int (9 : Int32) (List.map Value.int (pre (7 : Int32) (6 : Int32) Y69)) (.int (0 : Int32)) := own_mset (Arv.set Ar72 qq72 Sz72 Ng72 Hs72 Gs72 rfl W73 _ rfl (own_mlt lY69 ⟨by decide, by decide⟩))
 have ln_73 : ((pre (7 : Int32) (6 : Int32) Y69)).length = 9 := lset_len lY69
 clear hin72 Gs72 Hs72 Ng72 Sz72 qq72 Ar72 cl72
 show Go _ _ _ (T73.setTop (mkF m 120 #[vr a1, vi 8, vr y3, vr b5, vr b7, vi 3, vi 6] [])) _
 obtain ⟨Y74, eY74, lY74, V74q⟩ : ∃ Y, Y = (pre (7 : Int32) (6 : Int32) Y69) ∧ Y.length = 9 ∧ Arv Z h73 b5 k5 .int (9 : Int32) (List.map Value.int Y) (.int (0 : Int32)) := ⟨_, rfl, ln_73, V_b5⟩
 replace V_b5 := V74q
 clear ln_73 V74q
 refine G (fun t k => XS.iinc X73.here hx rfl (hb hby d5_120) rfl (l' := #[vr a1, vi 8, vr y3, vr b5, vr b7, vi 3, vi ((6 : Int32) + (1 : Int32))]) rfl (XS.goto X73.here hx rfl (pc0 := 123) (pc' := 101) rfl (hb hby d5_123) (by decide) (by decide) (XS.iload X73.here hx rfl (hb hby d5_101) rfl (XS.iloadN X73.here hx rfl (hb hby d5_103) rfl (XS.icmpNo X73.here hx rfl (hb hby d5_104) rfl (tlt (by decide : (7 : Int32) < (8 : Int32))).2.1 (XS.aloadN X73.here hx rfl (hb hby d5_107) rfl rfl k)))))) ?_
 refine G (fun t k => XS.iload X73.here hx rfl (hb hby d5_108) rfl k) ?_
 show Go _ _ _ (T73.setTop (mkF m 110 #[vr a1, vi 8, vr y3, vr b5, vr b7, vi 3, vi 7] [(.int 7), (.ref b5)])) _
 refine G (fun t k => XS.iconst X73.here hx rfl (hb hby d5_110) (XS.iadd X73.here hx rfl (hb hby d5_111) rfl (XT.dup2 X73.here hx rfl (hb hby d5_112) rfl rfl rfl k))) ?_
 obtain ⟨cl75, Ar75, -, Sz75, Ng75, Hs75, -⟩ := id V_b5
 have hin75 := inb_of (j := (8 : Int32)) (c := cl75) Sz75 ⟨by decide, by decide⟩
 refine G (fun t k => X73.iaload hx (j := (8 : Int32)) (v := (.int (own_at Y74 (8 : Int32)))) (by rw [e73]; exact Ar75.1) (State.isArrayOf_alike hZ.alike Ar75.2.1) Ar75.2.2 hin75 (Has.at Hs75 hin75 (own_atv Y74 (8 : Int32))) (g := (mkF m 113 #[vr a1, vi 8, vr y3, vr b5, vr b7, vi 3, vi 7] [(.int 8), (.ref b5), (.int 8), (.ref b5)])) rfl rfl (hb hby d5_113) _ k) ?_
 clear hin75 Hs75 Ng75 Sz75 Ar75 cl75
 refine G (fun t k => XS.aloadN X73.here hx rfl (hb hby d5_114) rfl rfl (XS.iload X73.here hx rfl (hb hby d5_115) rfl k)) ?_
 obtain ⟨cl76, Ar76, -, Sz76, Ng76, Hs76, -⟩ := id V_b5
 have hin76 := inb_of (j := (7 : Int32)) (c := cl76) Sz76 ⟨by decide, by decide⟩
 refine G (fun t k => X73.iaload hx (j := (7 : Int32)) (v := (.int (own_at Y74 (7 : Int32)))) (by rw [e73]; exact Ar76.1) (State.isArrayOf_alike hZ.alike Ar76.2.1) Ar76.2.2 hin76 (Has.at Hs76 hin76 (own_atv Y74 (7 : Int32))) (g := (mkF m 117 #[vr a1, vi 8, vr y3, vr b5, vr b7, vi 3, vi 7] [(.int 7), (.ref b5), (.int (own_at Y74 (8 : Int32))), (.int 8), (.ref b5)])) rfl rfl (hb hby d5_117) _ k) ?_
 clear hin76 Hs76 Ng76 Sz76 Ar76 cl76
 show Go _ _ _ (T73.setTop (mkF m 118 #[vr a1, vi 8, vr y3, vr b5, vr b7, vi 3, vi 7] [(.int (own_at Y74 (7 : Int32))), (.int (own_at Y74 (8 : Int32))), (.int 8), (.ref b5)])) _
 refine G (fun t k => XS.iadd X73.here hx rfl (hb hby d5_118) rfl k) ?_
 obtain ⟨cl77, Ar77, qq77, Sz77, Ng77, Hs77, Gs77⟩ := id V_b5
 have hin77 := inb_of (j := (8 : Int32)) (c := cl77) Sz77 ⟨by decide, by decide⟩
 obtain ⟨T78, h78, X78, e78, W78, st78⟩ := stI X73 hx hZ e73 Ar77 (j := (8 : Int32)) hin77 (g := (mkF m 119 #[vr a1, vi 8, vr y3, vr b5, vr b7, vi 3, vi 7] [(.int ((own_at Y74 (8 : Int32)) + (own_at Y74 (7 : Int32)))), (.int 8), (.ref b5)])) rfl rfl (hb hby d5_119)
 refine G st78 ?_
 have N78 := Fr.snoc X78 N73 g_b5
 obtain ⟨LL78, X78, N78⟩ : ∃ LL, Stand p l e (Rm 4 5 20 84) s m #[(.ref a1), (.int (8 : Int32))] below meth c T78 LL 3 15 ∧ Fr n0 LL := ⟨_, X78, N78⟩
 replace E_b7 := E_b7.wr W78
 replace V_b7 := V_b7.other W78 (Ne.symm ne_b5_b7)
 replace Z0 := Nat.le_trans Z0 (Nat.le_of_eq W78.size.symm)
 replace K0 := K0.wr W78 (Or.inr sz_b5)
 replace V_b5 : Arv Z h78 b5 k5 .int (9 : Int32) (List.map Value.int (pre (8 : Int32) (7 : Int32) Y74)) (.int (0 : Int32)) := own_mset (Arv.set Ar77 qq77 Sz77 Ng77 Hs77 Gs77 rfl W78 _ rfl (own_mlt lY74 ⟨by decide, by decide⟩))
 have ln_78 : ((pre (8 : Int32) (7 : Int32) Y74)).length = 9 := lset_len lY74
 clear hin77 Gs77 Hs77 Ng77 Sz77 qq77 Ar77 cl77
 show Go _ _ _ (T78.setTop (mkF m 120 #[vr a1, vi 8, vr y3, vr b5, vr b7, vi 3, vi 7] [])) _
 obtain ⟨Y79, eY79, lY79, V79q⟩ : ∃ Y, Y = (pre (8 : Int32) (7 : Int32) Y74) ∧ Y.length = 9 ∧ Arv Z h78 b5 k5 .int (9 : Int32) (List.map Value.int Y) (.int (0 : Int32)) := ⟨_, rfl, ln_78, V_b5⟩
 replace V_b5 := V79q
 clear ln_78 V79q
 refine G (fun t k => XS.iinc X78.here hx rfl (hb hby d5_120) rfl (l' := #[vr a1, vi 8, vr y3, vr b5, vr b7, vi 3, vi ((7 : Int32) + (1 : Int32))]) rfl (XS.goto X78.here hx rfl (pc0 := 123) (pc' := 101) rfl (hb hby d5_123) (by decide) (by decide) (XS.iload X78.here hx rfl (hb hby d5_101) rfl (XS.iloadN X78.here hx rfl (hb hby d5_103) rfl (XS.icmpYes X78.here hx rfl (pc0 := 104) (pc' := 126) rfl (hb hby d5_104) rfl (flt (by decide : ¬ ((8 : Int32) < (8 : Int32)))).2.1 (by decide) (by decide) k))))) ?_
 show Go _ _ _ (T78.setTop (mkF m 126 #[vr a1, vi 8, vr y3, vr b5, vr b7, vi 3, vi 8] [])) _
 rw [eY79, eY74, eY69, eY64, eY59, eY54, eY49, eY44, eY35, eY24, eY13] at V_b5
 obtain ⟨T80, h80, X80, e80, E80, A80, D80, -, st80⟩ := newO X78 hx hZ hown (wd52 hw) (wd53 hw) (wd54 hw) e78 (g := (mkF m 126 #[vr a1, vi 8, vr y3, vr b5, vr b7, vi 3, vi 8] [])) rfl (hb hby d5_126) (by decide) (by decide)
 obtain ⟨b80, g80⟩ : ∃ z, z = h78.size := ⟨_, rfl⟩
 rw [← g80] at A80 D80 st80
 refine G st80 ?_
 have ne_b5_b80 : b5 ≠ b80 := Nat.ne_of_lt (Nat.lt_of_lt_of_le V_b5.lt (Nat.le_of_eq g80.symm))
 have ne_b7_b80 : b7 ≠ b80 := Nat.ne_of_lt (Nat.lt_of_lt_of_le E_b7.lt (Nat.le_of_eq g80.symm))
 have g_b80 : n0 ≤ b80 := Nat.le_trans Z0 (Nat.le_of_eq g80.symm)
 have sz_b80 : h0.size ≤ b80 := Nat.le_trans K0.1 (Nat.le_of_eq g80.symm)
 replace V_b5 := V_b5.ext E80
 replace E_b7 := E_b7.ext E80
 replace V_b7 := V_b7.ext E80
 replace K0 := K0.ext E80
 replace Z0 := Nat.le_trans Z0 E80.1
 have E_b80 := A80
 have F_b80_a : Fld Z h80 b80 RC "start" "[I" .null := D80 (Or.inr (wd72 hw)) (ty := (.array .int)) (by decide)
 have F_b80_t : Fld Z h80 b80 RC "targets" "[I" .null := D80 (Or.inr (wd74 hw)) (ty := (.array .int)) (by decide)
 refine G (fun t k => XS.dup X80.here hx rfl (hb hby d5_129) rfl rfl (XS.aloadN X80.here hx rfl (hb hby d5_130) rfl rfl (XS.aload X80.here hx rfl (hb hby d5_131) rfl rfl (XS.iload X80.here hx rfl (hb hby d5_133) rfl k)))) ?_
 obtain ⟨_, _, ⟨T81, L81, k81, n81⟩, -, X81, ⟨Lc81, hQ81, l81, y81, z81⟩, st81⟩ := Jvm.LawKit.callS X80 hx (y := (⟨"java/util/Arrays", "copyOf", "([II)[I"⟩ : MethodName)) hown (mvT hZ (wd55 hw)) (mvT hZ (wd56 hw)) (mvT hZ (wd31 hw)) (mvT hZ (wd57 hw)) (by decide) (backOf (W := 3) (rm11_3 l Z a0 hw [] b7 ((f10_a1_0 t0 t1 t2).toInt32) ((f10_a1_1 t0 t1 t2).toInt32) ((f10_a1_2 t0 t1 t2).toInt32) k7 h80 n0 Z0 V_b7 E_b7) hZ (wd57 hw) (wd31 hw) (by decide) (by decide)) (g := (mkF m 135 #[vr a1, vi 8, vr y3, vr b5, vr b7, vi 3, vi 8] [(.int 3), (.ref b7), (.ref b5), (.ref b80), (.ref b80)])) rfl (by rw [hml]; rfl) (argsL := [(.ref b7), (.int (3 : Int32))]) (rest := [(.ref b5), (.ref b80), (.ref b80)]) (lenOf pd6 rfl) rfl (by show 2 * 0 + _ ≤ _; exact Nat.le_of_eq rfl) (hb hby d5_135) (fun _ _ => ⟨rfl, e80, (by decide : 4 + 1 ≤ _), (by decide : 17 + 3 ≤ _)⟩)
 dsimp only [Pt.U, Pt.locs, Pt.cells, Pt.slots] at X81 l81 y81 z81 st81 hQ81
 subst l81 y81 z81
 obtain ⟨h81, e81⟩ : ∃ z, T81.heap = z := ⟨_, rfl⟩
 rw [e81] at hQ81
 obtain ⟨y81, rfl, N81q, K81, ng_y81, sz0_y81, Q81_0, Q81_1⟩ := hQ81
 refine G st81 ?_
 have ne_b5_y81 : b5 ≠ y81 := Nat.ne_of_lt (Nat.lt_of_lt_of_le V_b5.lt sz0_y81)
 have ne_b7_y81 : b7 ≠ y81 := Nat.ne_of_lt (Nat.lt_of_lt_of_le E_b7.lt sz0_y81)
 have ne_b80_y81 : b80 ≠ y81 := Nat.ne_of_lt (Nat.lt_of_lt_of_le E_b80.lt sz0_y81)
 have g_y81 : n0 ≤ y81 := ng_y81
 have sz_y81 : h0.size ≤ y81 := Nat.le_trans K0.1 sz0_y81
 replace V_b5 := V_b5.keep K81 nin0
 replace E_b7 := E_b7.keep K81
 replace V_b7 := V_b7.keep K81 nin0
 replace E_b80 := E_b80.keep K81
 replace F_b80_a := F_b80_a.keep K81 nin0
 replace F_b80_t := F_b80_t.keep K81 nin0
 replace Z0 := Nat.le_trans Z0 K81.1
 replace K0 := K0.trans K81 all0
 have V_y81 := Q81_0
 have E_y81 := Q81_1
 have N81 := Fr.app N78 N81q
 obtain ⟨_, _, ⟨T82, L82, k82, n82⟩, -, X82, ⟨Lc82, hQ82, l82, y82, z82⟩, st82⟩ := X81.specialBackNest hx (y := (⟨RC, "<init>", "([I[I)V"⟩ : MethodName)) rfl hown (own_mvM hZ (wd67 hw)) (mvT hZ (wd68 hw)) (mvT hZ (wd69 hw)) (by decide) (backOf (W := 1) (rm12 l Z a0 hw [] b80 b5 y81 (.null : Value) (.null : Value) h81 n0 Z0 E_b80 F_b80_a F_b80_t g_b80) hZ (wd69 hw) (wd54 hw) (by decide) (by decide)) (g := (mkF m 138 #[vr a1, vi 8, vr y3, vr b5, vr b7, vi 3, vi 8] [(.ref y81), (.ref b5), (.ref b80), (.ref b80)])) rfl (by rw [hml]; rfl) (Steps.refl _) (a := b80) (argsL := [(.ref b5), (.ref y81)]) (rest := [(.ref b80)]) (lenOf pd7 rfl) rfl (by show 2 * 0 + _ ≤ _; exact Nat.le_of_eq rfl) (hb hby d5_138) (fun _ _ => ⟨rfl, e81, (by decide : 5 + 0 ≤ _), (by decide : 20 + 0 ≤ _)⟩)
 dsimp only [Pt.U, Pt.locs, Pt.cells, Pt.slots] at X82 l82 y82 z82 st82 hQ82
 subst l82 y82 z82
 refine Go.tr st82 ?_
 have E_b80_pre := E_b80
 have F_b80_start_pre := F_b80_a
 have F_b80_targets_pre := F_b80_t
 obtain ⟨h82, e82⟩ : ∃ z, T82.heap = z := ⟨_, rfl⟩
 rw [e82] at hQ82
 obtain ⟨rfl, N82q, K82, Q82_0, Q82_1, Q82_2⟩ := hQ82
 replace V_b5 := V_b5.keep K82 (ninS ne_b5_b80 nin0)
 replace E_b7 := E_b7.keep K82
 replace V_b7 := V_b7.keep K82 (ninS ne_b7_b80 nin0)
 replace E_b80 := E_b80.keep K82
 replace V_y81 := V_y81.keep K82 (ninS (Ne.symm ne_b80_y81) nin0)
 replace E_y81 := E_y81.keep K82
 replace Z0 := Nat.le_trans Z0 K82.1
 replace K0 := K0.trans K82 (allS (Or.inr sz_b80) all0)
 clear E_b80_pre F_b80_start_pre F_b80_targets_pre
 have E_b80 := Q82_0
 have F_b80_a := Q82_1
 have F_b80_t := Q82_2
 have N82 := Fr.app N81 N82q
 show Go _ _ _ (T82.setTop (mkF m 141 #[vr a1, vi 8, vr y3, vr b5, vr b7, vi 3, vi 8] [(.ref b80)])) _
 obtain ⟨fs, hr, hrun, hended, hW, hsame⟩ := X82.leave (v := some (.ref b80)) (fun h => by rw [Bd.returns] at h; cases h)
 refine Go.fin (retOut X82 hx Bd.returns rfl (Or.inr (Or.inr (Or.inr (Or.inr ⟨rfl, rfl, rfl⟩)))) (hb hby d5_141) hr) hrun hended ⟨_, _, rfl, ?_, ⟨_, rfl⟩, hW, hsame.mono (by decide) (by decide)⟩
 show Q5_00 Z a1 w_P t0 t1 t2 k_P h0 n0 _ T82.heap _
 rw [e82]
 exact ⟨b5, y81, b80, k5, k7, rfl, N82, K0, g_b5, sz_b5, g_y81, sz_y81, g_b80, sz_b80, ne_b5_y81, ne_b5_b80, (Ne.symm ne_b80_y81), V_b5, E_b80, V_y81, E_y81, F_b80_a, F_b80_t⟩
theorem d13_0 : decode cB13 0 = .ok (.aload_n 0, 1) := by decide +kernel
theorem d13_1 : decode cB13 1 = .ok (.getfield 13, 3) := by decide +kernel
theorem d13_4 : decode cB13 4 = .ok (.arraylength, 1) := by decide +kernel
theorem d13_5 : decode cB13 5 = .ok (.ireturn, 1) := by decide +kernel
def Q13 (Z : State) (a1 : Addr) (w_t : Addr) (k_t : ClassId) (ts : List Int32) (w_n : Int32) (h0 : Heap) (n0 : Nat) (v : Option Value) (h : Heap) (L : List Loc) : Prop := v = some (.int w_n) ∧ Fr n0 L ∧ h = h0
theorem ef13 (m : MethodId) (x0 : Addr) : entryFrame m #[(.ref x0)] 1 = mkF m 0 #[.val (.ref x0)] [] := by first | (simp [entryFrame, mkF, argsToLocals, Value.category]; done) | rfl
theorem rm13 (l : Launch) (Z : State) (a0 : Array Value) (hw : HW a0 Z) (ws : List Jvm.Cond) (a1 : Addr) (w_t : Addr) (k_t : ClassId) (ts : List Int32) (w_n : Int32) (h0 : Heap) (n0 : Nat) (Z0 : n0 ≤ h0.size) (F_a1_t : Fld Z h0 a1 RC "targets" "[I" (.ref w_t)) (V_t : Arv Z h0 w_t k_t .int w_n (List.map Value.int ts) (.int (0 : Int32))) :
  MetFree l (⟨RC, "pairCount", "()I"⟩ : MethodName) (head1 (Jvm.Cond.code (⟨RC, "pairCount", "()I"⟩ : MethodName) cB13 1 (some .int) :: ws) (Rm 0 0 0 0)) (Pr Z h0 #[(.ref a1)]) Tr (fun _ U o U' => ∃ v L, o = .returned v ∧ Q13 Z a1 w_t k_t ts w_n h0 n0 v U'.heap L ∧ FrameEnd U o U' L (Rm 0 0 0 0).cells (Rm 0 0 0 0).slots) := by
 refine MetFree.of_bodySF (plainFor_of_name pn4) hisR ?_
 intro p e s m args below meth c s₁ Bd hml0 hP hK
 obtain ⟨rfl, hZ, hh⟩ := hP
 have hx := Bd.exec
 have hby := Bd.bytes
 have hml : c.maxLocals = 1 := hml0
 have hown : s.vm.findClass RC = some m.cls := findClass_of_methodNamed Bd.named
 have hnm := (name_of_methodNamed Bd.named Bd.method).1
 have X0 : Stand p l e (Rm 0 0 0 0) s m #[(.ref a1)] below meth c s₁ [] 0 0 := Stand.of_body Bd
 have e0 : s₁.heap = h0 := by rw [← hh, Bd.state]; rfl
 have N0 := Fr.nil n0
 have K0 : Keep h0 h0 [] := Keep.refl h0 _
 refine G (P := fun o U' => ∃ v L, o = .returned v ∧ Q13 Z a1 w_t k_t ts w_n h0 n0 v U'.heap L ∧ FrameEnd s o U' L (Rm 0 0 0 0).cells (Rm 0 0 0 0).slots) (fun t k => castTop (ef13 m a1) k) ?_
 show Go _ _ _ (s₁.setTop (mkF m 0 #[vr a1] [])) _
 refine G (fun t k => XS.aloadN X0.here hx rfl (hb hby d13_0) rfl rfl k) ?_
 obtain ⟨T1, X1, e1, st1⟩ := getF X0 hx hZ hown (host := "") (Or.inl (wd73 hw)) Via.refl e0 F_a1_t (g := (mkF m 1 #[vr a1] [(.ref a1)])) rfl rfl (hb hby d13_1)
 refine G st1 ?_
 obtain ⟨cl2, Ar2, -, Sz2, Ng2, -, -⟩ := id V_t
 refine G (fun t k => X1.arraylength hx (by rw [e1]; exact Ar2.1) (State.isArrayOf_alike hZ.alike Ar2.2.1) (g := (mkF m 4 #[vr a1] [(.ref w_t)])) rfl rfl (hb hby d13_4) _ k) ?_
 rw [len_of Sz2 Ng2]
 clear Ng2 Sz2 Ar2 cl2
 obtain ⟨fs, hr, hrun, hended, hW, hsame⟩ := X1.leave (v := some (.int w_n)) (fun h => by rw [Bd.returns] at h; cases h)
 refine Go.fin (retOut X1 hx Bd.returns rfl (Or.inl ⟨rfl, Or.inl rfl, _, rfl⟩) (hb hby d13_5) hr) hrun hended ⟨_, _, rfl, ?_, ⟨_, rfl⟩, hW, hsame.mono (by decide) (by decide)⟩
 show Q13 Z a1 w_t k_t ts w_n h0 n0 _ T1.heap _
 rw [e1]
 exact ⟨rfl, N0, rfl⟩
theorem d18_0 : decode cB18 0 = .ok (.aload_n 0, 1) := by decide +kernel
theorem d18_1 : decode cB18 1 = .ok (.getfield 7, 3) := by decide +kernel
theorem d18_4 : decode cB18 4 = .ok (.iload_n 1, 1) := by decide +kernel
theorem d18_5 : decode cB18 5 = .ok (.iaload, 1) := by decide +kernel
theorem d18_6 : decode cB18 6 = .ok (.ireturn, 1) := by decide +kernel
def Q18 (Z : State) (a1 : Addr) (p2 : Int32) (w_s : Addr) (k_s : ClassId) (X : List Int32) (gx : Int32) (h0 : Heap) (n0 : Nat) (v : Option Value) (h : Heap) (L : List Loc) : Prop := v = some (.int gx) ∧ Fr n0 L ∧ h = h0
theorem ef18 (m : MethodId) (x0 : Addr) (x1 : Int32) : entryFrame m #[(.ref x0), (.int x1)] 2 = mkF m 0 #[.val (.ref x0), .val (.int x1)] [] := by first | (simp [entryFrame, mkF, argsToLocals, Value.category]; done) | rfl
theorem rm18 (l : Launch) (Z : State) (a0 : Array Value) (hw : HW a0 Z) (ws : List Jvm.Cond) (a1 : Addr) (p2 : Int32) (w_s : Addr) (k_s : ClassId) (X : List Int32) (gx : Int32) (h0 : Heap) (n0 : Nat) (Z0 : n0 ≤ h0.size) (F_a1_a : Fld Z h0 a1 RC "start" "[I" (.ref w_s)) (V_s : Arv Z h0 w_s k_s .int (9 : Int32) (List.map Value.int X) (.int (0 : Int32))) (hib : ¬ p2 < 0 ∧ p2 < (9 : Int32)) (hat : own_at X p2 = gx) :
  MetFree l (⟨RC, "start", "(I)I"⟩ : MethodName) (head1 (Jvm.Cond.code (⟨RC, "start", "(I)I"⟩ : MethodName) cB18 2 (some .int) :: ws) (Rm 0 0 0 0)) (Pr Z h0 #[(.ref a1), (.int p2)]) Tr (fun _ U o U' => ∃ v L, o = .returned v ∧ Q18 Z a1 p2 w_s k_s X gx h0 n0 v U'.heap L ∧ FrameEnd U o U' L (Rm 0 0 0 0).cells (Rm 0 0 0 0).slots) := by
 refine MetFree.of_bodySF (plainFor_of_name pn4) hisR ?_
 intro p e s m args below meth c s₁ Bd hml0 hP hK
 obtain ⟨rfl, hZ, hh⟩ := hP
 have hx := Bd.exec
 have hby := Bd.bytes
 have hml : c.maxLocals = 2 := hml0
 have hown : s.vm.findClass RC = some m.cls := findClass_of_methodNamed Bd.named
 have hnm := (name_of_methodNamed Bd.named Bd.method).1
 have X0 : Stand p l e (Rm 0 0 0 0) s m #[(.ref a1), (.int p2)] below meth c s₁ [] 0 0 := Stand.of_body Bd
 have e0 : s₁.heap = h0 := by rw [← hh, Bd.state]; rfl
 have N0 := Fr.nil n0
 have K0 : Keep h0 h0 [] := Keep.refl h0 _
 refine G (P := fun o U' => ∃ v L, o = .returned v ∧ Q18 Z a1 p2 w_s k_s X gx h0 n0 v U'.heap L ∧ FrameEnd s o U' L (Rm 0 0 0 0).cells (Rm 0 0 0 0).slots) (fun t k => castTop (ef18 m a1 p2) k) ?_
 show Go _ _ _ (s₁.setTop (mkF m 0 #[vr a1, vi p2] [])) _
 refine G (fun t k => XS.aloadN X0.here hx rfl (hb hby d18_0) rfl rfl k) ?_
 obtain ⟨T1, X1, e1, st1⟩ := getF X0 hx hZ hown (host := "") (Or.inl (wd71 hw)) Via.refl e0 F_a1_a (g := (mkF m 1 #[vr a1, vi p2] [(.ref a1)])) rfl rfl (hb hby d18_1)
 refine G st1 ?_
 refine G (fun t k => XS.iloadN X1.here hx rfl (hb hby d18_4) rfl k) ?_
 obtain ⟨cl2, Ar2, -, Sz2, Ng2, Hs2, -⟩ := id V_s
 have hin2 := inb_of (j := p2) (c := cl2) Sz2 hib
 refine G (fun t k => X1.iaload hx (j := p2) (v := (.int gx)) (by rw [e1]; exact Ar2.1) (State.isArrayOf_alike hZ.alike Ar2.2.1) Ar2.2.2 hin2 (Has.at Hs2 hin2 ((own_atv X p2).trans (congrArg Value.int hat))) (g := (mkF m 5 #[vr a1, vi p2] [(.int p2), (.ref w_s)])) rfl rfl (hb hby d18_5) _ k) ?_
 clear hin2 Hs2 Ng2 Sz2 Ar2 cl2
 obtain ⟨fs, hr, hrun, hended, hW, hsame⟩ := X1.leave (v := some (.int gx)) (fun h => by rw [Bd.returns] at h; cases h)
 refine Go.fin (retOut X1 hx Bd.returns rfl (Or.inl ⟨rfl, Or.inl rfl, _, rfl⟩) (hb hby d18_6) hr) hrun hended ⟨_, _, rfl, ?_, ⟨_, rfl⟩, hW, hsame.mono (by decide) (by decide)⟩
 show Q18 Z a1 p2 w_s k_s X gx h0 n0 _ T1.heap _
 rw [e1]
 exact ⟨rfl, N0, rfl⟩
theorem d19_0 : decode cB19 0 = .ok (.aload_n 0, 1) := by decide +kernel
theorem d19_1 : decode cB19 1 = .ok (.getfield 7, 3) := by decide +kernel
theorem d19_4 : decode cB19 4 = .ok (.iload_n 1, 1) := by decide +kernel
theorem d19_5 : decode cB19 5 = .ok (.iconst 1, 1) := by decide +kernel
theorem d19_6 : decode cB19 6 = .ok (.iadd, 1) := by decide +kernel
theorem d19_7 : decode cB19 7 = .ok (.iaload, 1) := by decide +kernel
theorem d19_8 : decode cB19 8 = .ok (.ireturn, 1) := by decide +kernel
def Q19 (Z : State) (a1 : Addr) (p2 : Int32) (w_s : Addr) (k_s : ClassId) (X : List Int32) (gx : Int32) (h0 : Heap) (n0 : Nat) (v : Option Value) (h : Heap) (L : List Loc) : Prop := v = some (.int gx) ∧ Fr n0 L ∧ h = h0
theorem ef19 (m : MethodId) (x0 : Addr) (x1 : Int32) : entryFrame m #[(.ref x0), (.int x1)] 2 = mkF m 0 #[.val (.ref x0), .val (.int x1)] [] := by first | (simp [entryFrame, mkF, argsToLocals, Value.category]; done) | rfl
theorem rm19 (l : Launch) (Z : State) (a0 : Array Value) (hw : HW a0 Z) (ws : List Jvm.Cond) (a1 : Addr) (p2 : Int32) (w_s : Addr) (k_s : ClassId) (X : List Int32) (gx : Int32) (h0 : Heap) (n0 : Nat) (Z0 : n0 ≤ h0.size) (F_a1_a : Fld Z h0 a1 RC "start" "[I" (.ref w_s)) (V_s : Arv Z h0 w_s k_s .int (9 : Int32) (List.map Value.int X) (.int (0 : Int32))) (hib : ¬ (p2 + (1 : Int32)) < 0 ∧ (p2 + (1 : Int32)) < (9 : Int32)) (hat : own_at X (p2 + (1 : Int32)) = gx) :
  MetFree l (⟨RC, "end", "(I)I"⟩ : MethodName) (head1 (Jvm.Cond.code (⟨RC, "end", "(I)I"⟩ : MethodName) cB19 2 (some .int) :: ws) (Rm 0 0 0 0)) (Pr Z h0 #[(.ref a1), (.int p2)]) Tr (fun _ U o U' => ∃ v L, o = .returned v ∧ Q19 Z a1 p2 w_s k_s X gx h0 n0 v U'.heap L ∧ FrameEnd U o U' L (Rm 0 0 0 0).cells (Rm 0 0 0 0).slots) := by
 refine MetFree.of_bodySF (plainFor_of_name pn4) hisR ?_
 intro p e s m args below meth c s₁ Bd hml0 hP hK
 obtain ⟨rfl, hZ, hh⟩ := hP
 have hx := Bd.exec
 have hby := Bd.bytes
 have hml : c.maxLocals = 2 := hml0
 have hown : s.vm.findClass RC = some m.cls := findClass_of_methodNamed Bd.named
 have hnm := (name_of_methodNamed Bd.named Bd.method).1
 have X0 : Stand p l e (Rm 0 0 0 0) s m #[(.ref a1), (.int p2)] below meth c s₁ [] 0 0 := Stand.of_body Bd
 have e0 : s₁.heap = h0 := by rw [← hh, Bd.state]; rfl
 have N0 := Fr.nil n0
 have K0 : Keep h0 h0 [] := Keep.refl h0 _
 refine G (P := fun o U' => ∃ v L, o = .returned v ∧ Q19 Z a1 p2 w_s k_s X gx h0 n0 v U'.heap L ∧ FrameEnd s o U' L (Rm 0 0 0 0).cells (Rm 0 0 0 0).slots) (fun t k => castTop (ef19 m a1 p2) k) ?_
 show Go _ _ _ (s₁.setTop (mkF m 0 #[vr a1, vi p2] [])) _
 refine G (fun t k => XS.aloadN X0.here hx rfl (hb hby d19_0) rfl rfl k) ?_
 obtain ⟨T1, X1, e1, st1⟩ := getF X0 hx hZ hown (host := "") (Or.inl (wd71 hw)) Via.refl e0 F_a1_a (g := (mkF m 1 #[vr a1, vi p2] [(.ref a1)])) rfl rfl (hb hby d19_1)
 refine G st1 ?_
 refine G (fun t k => XS.iloadN X1.here hx rfl (hb hby d19_4) rfl (XS.iconst X1.here hx rfl (hb hby d19_5) (XS.iadd X1.here hx rfl (hb hby d19_6) rfl k))) ?_
 obtain ⟨cl2, Ar2, -, Sz2, Ng2, Hs2, -⟩ := id V_s
 have hin2 := inb_of (j := (p2 + (1 : Int32))) (c := cl2) Sz2 hib
 refine G (fun t k => X1.iaload hx (j := (p2 + (1 : Int32))) (v := (.int gx)) (by rw [e1]; exact Ar2.1) (State.isArrayOf_alike hZ.alike Ar2.2.1) Ar2.2.2 hin2 (Has.at Hs2 hin2 ((own_atv X (p2 + (1 : Int32))).trans (congrArg Value.int hat))) (g := (mkF m 7 #[vr a1, vi p2] [(.int (p2 + (1 : Int32))), (.ref w_s)])) rfl rfl (hb hby d19_7) _ k) ?_
 clear hin2 Hs2 Ng2 Sz2 Ar2 cl2
 obtain ⟨fs, hr, hrun, hended, hW, hsame⟩ := X1.leave (v := some (.int gx)) (fun h => by rw [Bd.returns] at h; cases h)
 refine Go.fin (retOut X1 hx Bd.returns rfl (Or.inl ⟨rfl, Or.inl rfl, _, rfl⟩) (hb hby d19_8) hr) hrun hended ⟨_, _, rfl, ?_, ⟨_, rfl⟩, hW, hsame.mono (by decide) (by decide)⟩
 show Q19 Z a1 p2 w_s k_s X gx h0 n0 _ T1.heap _
 rw [e1]
 exact ⟨rfl, N0, rfl⟩
theorem d20_0 : decode cB20 0 = .ok (.aload_n 0, 1) := by decide +kernel
theorem d20_1 : decode cB20 1 = .ok (.getfield 13, 3) := by decide +kernel
theorem d20_4 : decode cB20 4 = .ok (.iload_n 1, 1) := by decide +kernel
theorem d20_5 : decode cB20 5 = .ok (.iaload, 1) := by decide +kernel
theorem d20_6 : decode cB20 6 = .ok (.ireturn, 1) := by decide +kernel
def Q20 (Z : State) (a1 : Addr) (p2 : Int32) (w_t : Addr) (k_t : ClassId) (ts : List Int32) (w_n : Int32) (h0 : Heap) (n0 : Nat) (v : Option Value) (h : Heap) (L : List Loc) : Prop := v = some (.int (own_at ts p2)) ∧ Fr n0 L ∧ h = h0
theorem ef20 (m : MethodId) (x0 : Addr) (x1 : Int32) : entryFrame m #[(.ref x0), (.int x1)] 2 = mkF m 0 #[.val (.ref x0), .val (.int x1)] [] := by first | (simp [entryFrame, mkF, argsToLocals, Value.category]; done) | rfl
theorem rm20 (l : Launch) (Z : State) (a0 : Array Value) (hw : HW a0 Z) (ws : List Jvm.Cond) (a1 : Addr) (p2 : Int32) (w_t : Addr) (k_t : ClassId) (ts : List Int32) (w_n : Int32) (h0 : Heap) (n0 : Nat) (Z0 : n0 ≤ h0.size) (F_a1_t : Fld Z h0 a1 RC "targets" "[I" (.ref w_t)) (V_t : Arv Z h0 w_t k_t .int w_n (List.map Value.int ts) (.int (0 : Int32))) (hib : ¬ p2 < 0 ∧ p2 < w_n) :
  MetFree l (⟨RC, "target", "(I)I"⟩ : MethodName) (head1 (Jvm.Cond.code (⟨RC, "target", "(I)I"⟩ : MethodName) cB20 2 (some .int) :: ws) (Rm 0 0 0 0)) (Pr Z h0 #[(.ref a1), (.int p2)]) Tr (fun _ U o U' => ∃ v L, o = .returned v ∧ Q20 Z a1 p2 w_t k_t ts w_n h0 n0 v U'.heap L ∧ FrameEnd U o U' L (Rm 0 0 0 0).cells (Rm 0 0 0 0).slots) := by
 refine MetFree.of_bodySF (plainFor_of_name pn4) hisR ?_
 intro p e s m args below meth c s₁ Bd hml0 hP hK
 obtain ⟨rfl, hZ, hh⟩ := hP
 have hx := Bd.exec
 have hby := Bd.bytes
 have hml : c.maxLocals = 2 := hml0
 have hown : s.vm.findClass RC = some m.cls := findClass_of_methodNamed Bd.named
 have hnm := (name_of_methodNamed Bd.named Bd.method).1
 have X0 : Stand p l e (Rm 0 0 0 0) s m #[(.ref a1), (.int p2)] below meth c s₁ [] 0 0 := Stand.of_body Bd
 have e0 : s₁.heap = h0 := by rw [← hh, Bd.state]; rfl
 have N0 := Fr.nil n0
 have K0 : Keep h0 h0 [] := Keep.refl h0 _
 refine G (P := fun o U' => ∃ v L, o = .returned v ∧ Q20 Z a1 p2 w_t k_t ts w_n h0 n0 v U'.heap L ∧ FrameEnd s o U' L (Rm 0 0 0 0).cells (Rm 0 0 0 0).slots) (fun t k => castTop (ef20 m a1 p2) k) ?_
 show Go _ _ _ (s₁.setTop (mkF m 0 #[vr a1, vi p2] [])) _
 refine G (fun t k => XS.aloadN X0.here hx rfl (hb hby d20_0) rfl rfl k) ?_
 obtain ⟨T1, X1, e1, st1⟩ := getF X0 hx hZ hown (host := "") (Or.inl (wd73 hw)) Via.refl e0 F_a1_t (g := (mkF m 1 #[vr a1, vi p2] [(.ref a1)])) rfl rfl (hb hby d20_1)
 refine G st1 ?_
 refine G (fun t k => XS.iloadN X1.here hx rfl (hb hby d20_4) rfl k) ?_
 obtain ⟨cl2, Ar2, -, Sz2, Ng2, Hs2, -⟩ := id V_t
 have hin2 := inb_of (j := p2) (c := cl2) Sz2 hib
 refine G (fun t k => X1.iaload hx (j := p2) (v := (.int (own_at ts p2))) (by rw [e1]; exact Ar2.1) (State.isArrayOf_alike hZ.alike Ar2.2.1) Ar2.2.2 hin2 (Has.at Hs2 hin2 (own_atv ts p2)) (g := (mkF m 5 #[vr a1, vi p2] [(.int p2), (.ref w_t)])) rfl rfl (hb hby d20_5) _ k) ?_
 clear hin2 Hs2 Ng2 Sz2 Ar2 cl2
 obtain ⟨fs, hr, hrun, hended, hW, hsame⟩ := X1.leave (v := some (.int (own_at ts p2))) (fun h => by rw [Bd.returns] at h; cases h)
 refine Go.fin (retOut X1 hx Bd.returns rfl (Or.inl ⟨rfl, Or.inl rfl, _, rfl⟩) (hb hby d20_6) hr) hrun hended ⟨_, _, rfl, ?_, ⟨_, rfl⟩, hW, hsame.mono (by decide) (by decide)⟩
 show Q20 Z a1 p2 w_t k_t ts w_n h0 n0 _ T1.heap _
 rw [e1]
 exact ⟨rfl, N0, rfl⟩
theorem d16_0 : decode cB16 0 = .ok (.iload_n 1, 1) := by decide +kernel
theorem d16_1 : decode cB16 1 = .ok (.iload_n 2, 1) := by decide +kernel
theorem d16_2 : decode cB16 2 = .ok (.if_icmp .le 44, 3) := by decide +kernel
theorem d16_46 : decode cB16 46 = .ok (.iload_n 1, 1) := by decide +kernel
theorem d16_47 : decode cB16 47 = .ok (.ifCond .ge 12, 3) := by decide +kernel
theorem d16_59 : decode cB16 59 = .ok (.iload_n 2, 1) := by decide +kernel
theorem d16_60 : decode cB16 60 = .ok (.iload_n 0, 1) := by decide +kernel
theorem d16_61 : decode cB16 61 = .ok (.if_icmp .le 12, 3) := by decide +kernel
theorem d16_73 : decode cB16 73 = .ok (.return_, 1) := by decide +kernel
def Q16 (Z : State) (p1 : Int32) (p2 : Int32) (p3 : Int32) (h0 : Heap) (n0 : Nat) (v : Option Value) (h : Heap) (L : List Loc) : Prop := v = none ∧ Fr n0 L ∧ h = h0
theorem ef16 (m : MethodId) (x0 : Int32) (x1 : Int32) (x2 : Int32) : entryFrame m #[(.int x0), (.int x1), (.int x2)] 3 = mkF m 0 #[.val (.int x0), .val (.int x1), .val (.int x2)] [] := by first | (simp [entryFrame, mkF, argsToLocals, Value.category]; done) | rfl
theorem rm16 (l : Launch) (Z : State) (a0 : Array Value) (hw : HW a0 Z) (ws : List Jvm.Cond) (p1 : Int32) (p2 : Int32) (p3 : Int32) (h0 : Heap) (n0 : Nat) (Z0 : n0 ≤ h0.size) (hq1 : ¬ p3 < p2) (hq2 : ¬ p2 < (0 : Int32)) (hq3 : ¬ p1 < p3) :
  MetFree l (⟨"java/util/Arrays", "rangeCheck", "(III)V"⟩ : MethodName) (head1 (Jvm.Cond.code (⟨"java/util/Arrays", "rangeCheck", "(III)V"⟩ : MethodName) cB16 3 none :: ws) (Rm 0 0 0 0)) (Pr Z h0 #[(.int p1), (.int p2), (.int p3)]) Tr (fun _ U o U' => ∃ v L, o = .returned v ∧ Q16 Z p1 p2 p3 h0 n0 v U'.heap L ∧ FrameEnd U o U' L (Rm 0 0 0 0).cells (Rm 0 0 0 0).slots) := by
 refine MetFree.of_bodySF (plainFor_of_name pn2) hisR ?_
 intro p e s m args below meth c s₁ Bd hml0 hP hK
 obtain ⟨rfl, hZ, hh⟩ := hP
 have hx := Bd.exec
 have hby := Bd.bytes
 have hml : c.maxLocals = 3 := hml0
 have hown : s.vm.findClass "java/util/Arrays" = some m.cls := findClass_of_methodNamed Bd.named
 have hnm := (name_of_methodNamed Bd.named Bd.method).1
 have X0 : Stand p l e (Rm 0 0 0 0) s m #[(.int p1), (.int p2), (.int p3)] below meth c s₁ [] 0 0 := Stand.of_body Bd
 have e0 : s₁.heap = h0 := by rw [← hh, Bd.state]; rfl
 have N0 := Fr.nil n0
 have K0 : Keep h0 h0 [] := Keep.refl h0 _
 refine G (P := fun o U' => ∃ v L, o = .returned v ∧ Q16 Z p1 p2 p3 h0 n0 v U'.heap L ∧ FrameEnd s o U' L (Rm 0 0 0 0).cells (Rm 0 0 0 0).slots) (fun t k => castTop (ef16 m p1 p2 p3) k) ?_
 show Go _ _ _ (s₁.setTop (mkF m 0 #[vi p1, vi p2, vi p3] [])) _
 refine G (fun t k => XS.iloadN X0.here hx rfl (hb hby d16_0) rfl (XS.iloadN X0.here hx rfl (hb hby d16_1) rfl (XS.icmpYes X0.here hx rfl (pc0 := 2) (pc' := 46) rfl (hb hby d16_2) rfl (flt (show ¬ (p3 < p2) from hq1)).2.2.2 (by decide) (by decide) (XS.iloadN X0.here hx rfl (hb hby d16_46) rfl (XS.ifYes X0.here hx rfl (pc0 := 47) (pc' := 59) rfl (hb hby d16_47) rfl ((if0 _ _).trans (flt (show ¬ (p2 < (0 : Int32)) from hq2)).2.1) (by decide) (by decide) (XS.iloadN X0.here hx rfl (hb hby d16_59) rfl k)))))) ?_
 refine G (fun t k => XS.iloadN X0.here hx rfl (hb hby d16_60) rfl k) ?_
 show Go _ _ _ (s₁.setTop (mkF m 61 #[vi p1, vi p2, vi p3] [(.int p1), (.int p3)])) _
 refine G (fun t k => XS.icmpYes X0.here hx rfl (pc0 := 61) (pc' := 73) rfl (hb hby d16_61) rfl (flt (show ¬ (p1 < p3) from hq3)).2.2.2 (by decide) (by decide) k) ?_
 obtain ⟨fs, hr, hrun, hended, hW, hsame⟩ := X0.leave (v := none) (fun _ => rfl)
 refine Go.fin (X0.returnOut hx Bd.returns (hb hby d16_73) hr) hrun hended ⟨_, _, rfl, ?_, ⟨_, rfl⟩, hW, hsame.mono (by decide) (by decide)⟩
 show Q16 Z p1 p2 p3 h0 n0 _ s₁.heap _
 rw [e0]
 exact ⟨rfl, N0, rfl⟩
theorem d17_0 : decode cB17 0 = .ok (.iload_n 1, 1) := by decide +kernel
theorem d17_1 : decode cB17 1 = .ok (.istore 4, 2) := by decide +kernel
theorem d17_3 : decode cB17 3 = .ok (.iload_n 2, 1) := by decide +kernel
theorem d17_4 : decode cB17 4 = .ok (.iconst 1, 1) := by decide +kernel
theorem d17_5 : decode cB17 5 = .ok (.isub, 1) := by decide +kernel
theorem d17_6 : decode cB17 6 = .ok (.istore 5, 2) := by decide +kernel
theorem d17_8 : decode cB17 8 = .ok (.iload 4, 2) := by decide +kernel
theorem d17_10 : decode cB17 10 = .ok (.iload 5, 2) := by decide +kernel
theorem d17_12 : decode cB17 12 = .ok (.if_icmp .gt 54, 3) := by decide +kernel
theorem d17_15 : decode cB17 15 = .ok (.iload 4, 2) := by decide +kernel
theorem d17_17 : decode cB17 17 = .ok (.iload 5, 2) := by decide +kernel
theorem d17_19 : decode cB17 19 = .ok (.iadd, 1) := by decide +kernel
theorem d17_20 : decode cB17 20 = .ok (.iconst 1, 1) := by decide +kernel
theorem d17_21 : decode cB17 21 = .ok (.iushr, 1) := by decide +kernel
theorem d17_22 : decode cB17 22 = .ok (.istore 6, 2) := by decide +kernel
theorem d17_24 : decode cB17 24 = .ok (.aload_n 0, 1) := by decide +kernel
theorem d17_25 : decode cB17 25 = .ok (.iload 6, 2) := by decide +kernel
theorem d17_27 : decode cB17 27 = .ok (.iaload, 1) := by decide +kernel
theorem d17_28 : decode cB17 28 = .ok (.istore 7, 2) := by decide +kernel
theorem d17_30 : decode cB17 30 = .ok (.iload 7, 2) := by decide +kernel
theorem d17_32 : decode cB17 32 = .ok (.iload_n 3, 1) := by decide +kernel
theorem d17_33 : decode cB17 33 = .ok (.if_icmp .ge 12, 3) := by decide +kernel
theorem d17_36 : decode cB17 36 = .ok (.iload 6, 2) := by decide +kernel
theorem d17_38 : decode cB17 38 = .ok (.iconst 1, 1) := by decide +kernel
theorem d17_39 : decode cB17 39 = .ok (.iadd, 1) := by decide +kernel
theorem d17_40 : decode cB17 40 = .ok (.istore 4, 2) := by decide +kernel
theorem d17_42 : decode cB17 42 = .ok (.goto 21, 3) := by decide +kernel
theorem d17_63 : decode cB17 63 = .ok (.goto (-55), 3) := by decide +kernel
theorem d17_66 : decode cB17 66 = .ok (.iload 4, 2) := by decide +kernel
theorem d17_68 : decode cB17 68 = .ok (.iconst 1, 1) := by decide +kernel
theorem d17_69 : decode cB17 69 = .ok (.iadd, 1) := by decide +kernel
theorem d17_70 : decode cB17 70 = .ok (.ineg, 1) := by decide +kernel
theorem d17_71 : decode cB17 71 = .ok (.ireturn, 1) := by decide +kernel
theorem d17_45 : decode cB17 45 = .ok (.iload 7, 2) := by decide +kernel
theorem d17_47 : decode cB17 47 = .ok (.iload_n 3, 1) := by decide +kernel
theorem d17_48 : decode cB17 48 = .ok (.if_icmp .le 12, 3) := by decide +kernel
theorem d17_51 : decode cB17 51 = .ok (.iload 6, 2) := by decide +kernel
theorem d17_53 : decode cB17 53 = .ok (.iconst 1, 1) := by decide +kernel
theorem d17_54 : decode cB17 54 = .ok (.isub, 1) := by decide +kernel
theorem d17_55 : decode cB17 55 = .ok (.istore 5, 2) := by decide +kernel
theorem d17_57 : decode cB17 57 = .ok (.goto 6, 3) := by decide +kernel
theorem d17_60 : decode cB17 60 = .ok (.iload 6, 2) := by decide +kernel
theorem d17_62 : decode cB17 62 = .ok (.ireturn, 1) := by decide +kernel
def f17_01 (p4 : Int32) (ts : List Int32) : Int32 := (if (own_at ts (0 : Int32)) < p4 then (-2 : Int32) else (if p4 < (own_at ts (0 : Int32)) then (-1 : Int32) else (0 : Int32)))
def Q17_01 (Z : State) (a1 : Addr) (p4 : Int32) (k_t : ClassId) (ts : List Int32) (w_n : Int32) (h0 : Heap) (n0 : Nat) (v : Option Value) (h : Heap) (L : List Loc) : Prop := v = some (.int (f17_01 p4 ts)) ∧ Fr n0 L ∧ h = h0
theorem ef17_01 (m : MethodId) (x0 : Addr) (x3 : Int32) : entryFrame m #[(.ref x0), (.int (0 : Int32)), (.int (1 : Int32)), (.int x3)] 8 = mkF m 0 #[.val (.ref x0), .val (.int (0 : Int32)), .val (.int (1 : Int32)), .val (.int x3), .unset, .unset, .unset, .unset] [] := by first | (simp [entryFrame, mkF, argsToLocals, Value.category]; done) | rfl
theorem rm17_01 (l : Launch) (Z : State) (a0 : Array Value) (hw : HW a0 Z) (ws : List Jvm.Cond) (a1 : Addr) (p4 : Int32) (k_t : ClassId) (ts : List Int32) (w_n : Int32) (h0 : Heap) (n0 : Nat) (Z0 : n0 ≤ h0.size) (V_t : Arv Z h0 a1 k_t .int w_n (List.map Value.int ts) (.int (0 : Int32))) (hnn : ¬ w_n < (1 : Int32)) :
  MetFree l (⟨"java/util/Arrays", "binarySearch0", "([IIII)I"⟩ : MethodName) (head1 (Jvm.Cond.code (⟨"java/util/Arrays", "binarySearch0", "([IIII)I"⟩ : MethodName) cB17 8 (some .int) :: ws) (Rm 0 0 0 0)) (Pr Z h0 #[(.ref a1), (.int (0 : Int32)), (.int (1 : Int32)), (.int p4)]) Tr (fun _ U o U' => ∃ v L, o = .returned v ∧ Q17_01 Z a1 p4 k_t ts w_n h0 n0 v U'.heap L ∧ FrameEnd U o U' L (Rm 0 0 0 0).cells (Rm 0 0 0 0).slots) := by
 refine MetFree.of_bodySF (plainFor_of_name pn2) hisR ?_
 intro p e s m args below meth c s₁ Bd hml0 hP hK
 obtain ⟨rfl, hZ, hh⟩ := hP
 have hx := Bd.exec
 have hby := Bd.bytes
 have hml : c.maxLocals = 8 := hml0
 have hown : s.vm.findClass "java/util/Arrays" = some m.cls := findClass_of_methodNamed Bd.named
 have hnm := (name_of_methodNamed Bd.named Bd.method).1
 have X0 : Stand p l e (Rm 0 0 0 0) s m #[(.ref a1), (.int (0 : Int32)), (.int (1 : Int32)), (.int p4)] below meth c s₁ [] 0 0 := Stand.of_body Bd
 have e0 : s₁.heap = h0 := by rw [← hh, Bd.state]; rfl
 have N0 := Fr.nil n0
 have K0 : Keep h0 h0 [] := Keep.refl h0 _
 refine G (P := fun o U' => ∃ v L, o = .returned v ∧ Q17_01 Z a1 p4 k_t ts w_n h0 n0 v U'.heap L ∧ FrameEnd s o U' L (Rm 0 0 0 0).cells (Rm 0 0 0 0).slots) (fun t k => castTop (ef17_01 m a1 p4) k) ?_
 show Go _ _ _ (s₁.setTop (mkF m 0 #[vr a1, vi 0, vi 1, vi p4, us, us, us, us] [])) _
 refine G (fun t k => XS.iloadN X0.here hx rfl (hb hby d17_0) rfl (XS.istore X0.here hx rfl (hb hby d17_1) rfl (l' := #[vr a1, vi 0, vi 1, vi p4, vi 0, us, us, us]) rfl (XS.iloadN X0.here hx rfl (hb hby d17_3) rfl (XS.iconst X0.here hx rfl (hb hby d17_4) (XS.isub X0.here hx rfl (hb hby d17_5) rfl (XS.istore X0.here hx rfl (hb hby d17_6) rfl (l' := #[vr a1, vi 0, vi 1, vi p4, vi 0, vi 0, us, us]) rfl k)))))) ?_
 refine G (fun t k => XS.iload X0.here hx rfl (hb hby d17_8) rfl k) ?_
 show Go _ _ _ (s₁.setTop (mkF m 10 #[vr a1, vi 0, vi 1, vi p4, vi 0, vi 0, us, us] [(.int 0)])) _
 refine G (fun t k => XS.iload X0.here hx rfl (hb hby d17_10) rfl (XS.icmpNo X0.here hx rfl (hb hby d17_12) rfl (flt (by decide : ¬ ((0 : Int32) < (0 : Int32)))).2.2.1 (XS.iload X0.here hx rfl (hb hby d17_15) rfl (XS.iload X0.here hx rfl (hb hby d17_17) rfl (XS.iadd X0.here hx rfl (hb hby d17_19) rfl (XS.iconst X0.here hx rfl (hb hby d17_20) k)))))) ?_
 refine G (fun t k => XS.iushr X0.here hx rfl (hb hby d17_21) rfl k) ?_
 show Go _ _ _ (s₁.setTop (mkF m 22 #[vr a1, vi 0, vi 1, vi p4, vi 0, vi 0, us, us] [(.int (((0 : Int32).toUInt32 >>> ((1 : Int32) &&& 31).toUInt32).toInt32))])) _
 refine Go.fr (g' := (mkF m 22 #[vr a1, vi 0, vi 1, vi p4, vi 0, vi 0, us, us] [(.int 0)])) (by rw [show (((0 : Int32).toUInt32 >>> ((1 : Int32) &&& 31).toUInt32).toInt32) = (0 : Int32) from by decide]) ?_
 show Go _ _ _ (s₁.setTop (mkF m 22 #[vr a1, vi 0, vi 1, vi p4, vi 0, vi 0, us, us] [(.int 0)])) _
 refine G (fun t k => XS.istore X0.here hx rfl (hb hby d17_22) rfl (l' := #[vr a1, vi 0, vi 1, vi p4, vi 0, vi 0, vi 0, us]) rfl (XS.aloadN X0.here hx rfl (hb hby d17_24) rfl rfl (XS.iload X0.here hx rfl (hb hby d17_25) rfl k))) ?_
 obtain ⟨cl1, Ar1, -, Sz1, Ng1, Hs1, -⟩ := id V_t
 have hin1 := inb_of (j := (0 : Int32)) (c := cl1) Sz1 ⟨by decide, own_ltl (0 : Int32) (1 : Int32) _ (by decide) hnn⟩
 refine G (fun t k => X0.iaload hx (j := (0 : Int32)) (v := (.int (own_at ts (0 : Int32)))) (by rw [e0]; exact Ar1.1) (State.isArrayOf_alike hZ.alike Ar1.2.1) Ar1.2.2 hin1 (Has.at Hs1 hin1 (own_atv ts (0 : Int32))) (g := (mkF m 27 #[vr a1, vi 0, vi 1, vi p4, vi 0, vi 0, vi 0, us] [(.int 0), (.ref a1)])) rfl rfl (hb hby d17_27) _ k) ?_
 clear hin1 Hs1 Ng1 Sz1 Ar1 cl1
 refine G (fun t k => XS.istore X0.here hx rfl (hb hby d17_28) rfl (l' := #[vr a1, vi 0, vi 1, vi p4, vi 0, vi 0, vi 0, vi (own_at ts (0 : Int32))]) rfl (XS.iload X0.here hx rfl (hb hby d17_30) rfl (XS.iloadN X0.here hx rfl (hb hby d17_32) rfl k))) ?_
 show Go _ _ _ (s₁.setTop (mkF m 33 #[vr a1, vi 0, vi 1, vi p4, vi 0, vi 0, vi 0, vi (own_at ts (0 : Int32))] [(.int p4), (.int (own_at ts (0 : Int32)))])) _
 by_cases hc2 : (own_at ts (0 : Int32)) < p4
 ·refine G (fun t k => XS.icmpNo X0.here hx rfl (hb hby d17_33) rfl (tlt hc2).2.1 (XS.iload X0.here hx rfl (hb hby d17_36) rfl (XS.iconst X0.here hx rfl (hb hby d17_38) (XS.iadd X0.here hx rfl (hb hby d17_39) rfl (XS.istore X0.here hx rfl (hb hby d17_40) rfl (l' := #[vr a1, vi 0, vi 1, vi p4, vi 1, vi 0, vi 0, vi (own_at ts (0 : Int32))]) rfl (XS.goto X0.here hx rfl (pc0 := 42) (pc' := 63) rfl (hb hby d17_42) (by decide) (by decide) k)))))) ?_
  refine G (fun t k => XS.goto X0.here hx rfl (pc0 := 63) (pc' := 8) rfl (hb hby d17_63) (by decide) (by decide) k) ?_
  show Go _ _ _ (s₁.setTop (mkF m 8 #[vr a1, vi 0, vi 1, vi p4, vi 1, vi 0, vi 0, vi (own_at ts (0 : Int32))] [])) _
  refine G (fun t k => XS.iload X0.here hx rfl (hb hby d17_8) rfl (XS.iload X0.here hx rfl (hb hby d17_10) rfl (XS.icmpYes X0.here hx rfl (pc0 := 12) (pc' := 66) rfl (hb hby d17_12) rfl (tlt (by decide : (0 : Int32) < (1 : Int32))).2.2.1 (by decide) (by decide) (XS.iload X0.here hx rfl (hb hby d17_66) rfl (XS.iconst X0.here hx rfl (hb hby d17_68) (XS.iadd X0.here hx rfl (hb hby d17_69) rfl k)))))) ?_
  refine G (fun t k => XS.ineg X0.here hx rfl (hb hby d17_70) rfl k) ?_
  show Go _ _ _ (s₁.setTop (mkF m 71 #[vr a1, vi 0, vi 1, vi p4, vi 1, vi 0, vi 0, vi (own_at ts (0 : Int32))] [(.int (-2))])) _
  obtain ⟨fs, hr, hrun, hended, hW, hsame⟩ := X0.leave (v := some (.int (-2 : Int32))) (fun h => by rw [Bd.returns] at h; cases h)
  refine Go.fin (retOut X0 hx Bd.returns rfl (Or.inl ⟨rfl, Or.inl rfl, _, rfl⟩) (hb hby d17_71) hr) hrun hended ⟨_, _, rfl, ?_, ⟨_, rfl⟩, hW, hsame.mono (by decide) (by decide)⟩
  show Q17_01 Z a1 p4 k_t ts w_n h0 n0 _ s₁.heap _
  rw [e0]
  exact ⟨(by unfold f17_01; simp only [if_pos hc2]), N0, rfl⟩
 ·refine G (fun t k => XS.icmpYes X0.here hx rfl (pc0 := 33) (pc' := 45) rfl (hb hby d17_33) rfl (flt hc2).2.1 (by decide) (by decide) (XS.iload X0.here hx rfl (hb hby d17_45) rfl (XS.iloadN X0.here hx rfl (hb hby d17_47) rfl k))) ?_
  by_cases hc3 : p4 < (own_at ts (0 : Int32))
  ·refine G (fun t k => XS.icmpNo X0.here hx rfl (hb hby d17_48) rfl (tlt hc3).2.2.2 (XS.iload X0.here hx rfl (hb hby d17_51) rfl (XS.iconst X0.here hx rfl (hb hby d17_53) (XS.isub X0.here hx rfl (hb hby d17_54) rfl k)))) ?_
   show Go _ _ _ (s₁.setTop (mkF m 55 #[vr a1, vi 0, vi 1, vi p4, vi 0, vi 0, vi 0, vi (own_at ts (0 : Int32))] [(.int (-1))])) _
   refine G (fun t k => XS.istore X0.here hx rfl (hb hby d17_55) rfl (l' := #[vr a1, vi 0, vi 1, vi p4, vi 0, vi (-1), vi 0, vi (own_at ts (0 : Int32))]) rfl (XS.goto X0.here hx rfl (pc0 := 57) (pc' := 63) rfl (hb hby d17_57) (by decide) (by decide) (XS.goto X0.here hx rfl (pc0 := 63) (pc' := 8) rfl (hb hby d17_63) (by decide) (by decide) (XS.iload X0.here hx rfl (hb hby d17_8) rfl (XS.iload X0.here hx rfl (hb hby d17_10) rfl (XS.icmpYes X0.here hx rfl (pc0 := 12) (pc' := 66) rfl (hb hby d17_12) rfl (tlt (by decide : (-1 : Int32) < (0 : Int32))).2.2.1 (by decide) (by decide) k)))))) ?_
   refine G (fun t k => XS.iload X0.here hx rfl (hb hby d17_66) rfl k) ?_
   show Go _ _ _ (s₁.setTop (mkF m 68 #[vr a1, vi 0, vi 1, vi p4, vi 0, vi (-1), vi 0, vi (own_at ts (0 : Int32))] [(.int 0)])) _
   refine G (fun t k => XS.iconst X0.here hx rfl (hb hby d17_68) (XS.iadd X0.here hx rfl (hb hby d17_69) rfl (XS.ineg X0.here hx rfl (hb hby d17_70) rfl k))) ?_
   obtain ⟨fs, hr, hrun, hended, hW, hsame⟩ := X0.leave (v := some (.int (-1 : Int32))) (fun h => by rw [Bd.returns] at h; cases h)
   refine Go.fin (retOut X0 hx Bd.returns rfl (Or.inl ⟨rfl, Or.inl rfl, _, rfl⟩) (hb hby d17_71) hr) hrun hended ⟨_, _, rfl, ?_, ⟨_, rfl⟩, hW, hsame.mono (by decide) (by decide)⟩
   show Q17_01 Z a1 p4 k_t ts w_n h0 n0 _ s₁.heap _
   rw [e0]
   exact ⟨(by unfold f17_01; simp only [if_neg hc2, if_pos hc3]), N0, rfl⟩
  ·refine G (fun t k => XS.icmpYes X0.here hx rfl (pc0 := 48) (pc' := 60) rfl (hb hby d17_48) rfl (flt hc3).2.2.2 (by decide) (by decide) (XS.iload X0.here hx rfl (hb hby d17_60) rfl k)) ?_
   obtain ⟨fs, hr, hrun, hended, hW, hsame⟩ := X0.leave (v := some (.int (0 : Int32))) (fun h => by rw [Bd.returns] at h; cases h)
   refine Go.fin (retOut X0 hx Bd.returns rfl (Or.inl ⟨rfl, Or.inl rfl, _, rfl⟩) (hb hby d17_62) hr) hrun hended ⟨_, _, rfl, ?_, ⟨_, rfl⟩, hW, hsame.mono (by decide) (by decide)⟩
   show Q17_01 Z a1 p4 k_t ts w_n h0 n0 _ s₁.heap _
   rw [e0]
   exact ⟨(by unfold f17_01; simp only [if_neg hc2, if_neg hc3]), N0, rfl⟩
theorem d15_0 : decode cB15 0 = .ok (.aload_n 0, 1) := by decide +kernel
theorem d15_1 : decode cB15 1 = .ok (.arraylength, 1) := by decide +kernel
theorem d15_2 : decode cB15 2 = .ok (.iload_n 1, 1) := by decide +kernel
theorem d15_3 : decode cB15 3 = .ok (.iload_n 2, 1) := by decide +kernel
theorem d15_4 : decode cB15 4 = .ok (.invokestatic 13, 3) := by decide +kernel
theorem wd88 {Z a0} (hw : HW a0 Z) : (Jvm.Cond.methodLink "java/util/Arrays" (13 : Nat) ⟨"java/util/Arrays", "rangeCheck", "(III)V"⟩).before a0 Z = true := mw hw 88 rfl
theorem wd90 {Z a0} (hw : HW a0 Z) : (Jvm.Cond.code ⟨"java/util/Arrays", "rangeCheck", "(III)V"⟩ cB16 (3 : Nat) (Option.none : Option Jvm.ClassFile.FieldType)).before a0 Z = true := mw hw 90 rfl
theorem pd8 : parseMethodDescriptor "(III)V" = some ⟨[.int, .int, .int], none⟩ := by decide +kernel
theorem wd89 {Z a0} (hw : HW a0 Z) : (Jvm.Cond.static ⟨"java/util/Arrays", "rangeCheck", "(III)V"⟩).before a0 Z = true := mw hw 89 rfl
theorem d15_7 : decode cB15 7 = .ok (.aload_n 0, 1) := by decide +kernel
theorem d15_8 : decode cB15 8 = .ok (.iload_n 1, 1) := by decide +kernel
theorem d15_9 : decode cB15 9 = .ok (.iload_n 2, 1) := by decide +kernel
theorem d15_10 : decode cB15 10 = .ok (.iload_n 3, 1) := by decide +kernel
theorem d15_11 : decode cB15 11 = .ok (.invokestatic 209, 3) := by decide +kernel
theorem wd91 {Z a0} (hw : HW a0 Z) : (Jvm.Cond.methodLink "java/util/Arrays" (209 : Nat) ⟨"java/util/Arrays", "binarySearch0", "([IIII)I"⟩).before a0 Z = true := mw hw 91 rfl
theorem wd93 {Z a0} (hw : HW a0 Z) : (Jvm.Cond.code ⟨"java/util/Arrays", "binarySearch0", "([IIII)I"⟩ cB17 (8 : Nat) (Option.some Jvm.ClassFile.FieldType.int)).before a0 Z = true := mw hw 93 rfl
theorem pd9 : parseMethodDescriptor "([IIII)I" = some ⟨[(.array .int), .int, .int, .int], some .int⟩ := by decide +kernel
theorem wd92 {Z a0} (hw : HW a0 Z) : (Jvm.Cond.static ⟨"java/util/Arrays", "binarySearch0", "([IIII)I"⟩).before a0 Z = true := mw hw 92 rfl
theorem d15_14 : decode cB15 14 = .ok (.ireturn, 1) := by decide +kernel
def Q15_01 (Z : State) (a1 : Addr) (p4 : Int32) (k_t : ClassId) (ts : List Int32) (w_n : Int32) (h0 : Heap) (n0 : Nat) (v : Option Value) (h : Heap) (L : List Loc) : Prop := v = some (.int (f17_01 p4 ts)) ∧ Fr n0 L ∧ h = h0
theorem ef15_01 (m : MethodId) (x0 : Addr) (x3 : Int32) : entryFrame m #[(.ref x0), (.int (0 : Int32)), (.int (1 : Int32)), (.int x3)] 4 = mkF m 0 #[.val (.ref x0), .val (.int (0 : Int32)), .val (.int (1 : Int32)), .val (.int x3)] [] := by first | (simp [entryFrame, mkF, argsToLocals, Value.category]; done) | rfl
theorem rm15_01 (l : Launch) (Z : State) (a0 : Array Value) (hw : HW a0 Z) (ws : List Jvm.Cond) (a1 : Addr) (p4 : Int32) (k_t : ClassId) (ts : List Int32) (w_n : Int32) (h0 : Heap) (n0 : Nat) (Z0 : n0 ≤ h0.size) (V_t : Arv Z h0 a1 k_t .int w_n (List.map Value.int ts) (.int (0 : Int32))) (hnn : ¬ w_n < (1 : Int32)) :
  MetFree l (⟨"java/util/Arrays", "binarySearch", "([IIII)I"⟩ : MethodName) (head1 (Jvm.Cond.code (⟨"java/util/Arrays", "binarySearch", "([IIII)I"⟩ : MethodName) cB15 4 (some .int) :: ws) (Rm 1 0 0 19)) (Pr Z h0 #[(.ref a1), (.int (0 : Int32)), (.int (1 : Int32)), (.int p4)]) Tr (fun _ U o U' => ∃ v L, o = .returned v ∧ Q15_01 Z a1 p4 k_t ts w_n h0 n0 v U'.heap L ∧ FrameEnd U o U' L (Rm 1 0 0 19).cells (Rm 1 0 0 19).slots) := by
 refine MetFree.of_bodySF (plainFor_of_name pn2) hisR ?_
 intro p e s m args below meth c s₁ Bd hml0 hP hK
 obtain ⟨rfl, hZ, hh⟩ := hP
 have hx := Bd.exec
 have hby := Bd.bytes
 have hml : c.maxLocals = 4 := hml0
 have hown : s.vm.findClass "java/util/Arrays" = some m.cls := findClass_of_methodNamed Bd.named
 have hnm := (name_of_methodNamed Bd.named Bd.method).1
 have X0 : Stand p l e (Rm 1 0 0 19) s m #[(.ref a1), (.int (0 : Int32)), (.int (1 : Int32)), (.int p4)] below meth c s₁ [] 0 0 := Stand.of_body Bd
 have e0 : s₁.heap = h0 := by rw [← hh, Bd.state]; rfl
 have N0 := Fr.nil n0
 have K0 : Keep h0 h0 [] := Keep.refl h0 _
 refine G (P := fun o U' => ∃ v L, o = .returned v ∧ Q15_01 Z a1 p4 k_t ts w_n h0 n0 v U'.heap L ∧ FrameEnd s o U' L (Rm 1 0 0 19).cells (Rm 1 0 0 19).slots) (fun t k => castTop (ef15_01 m a1 p4) k) ?_
 show Go _ _ _ (s₁.setTop (mkF m 0 #[vr a1, vi 0, vi 1, vi p4] [])) _
 refine G (fun t k => XS.aloadN X0.here hx rfl (hb hby d15_0) rfl rfl k) ?_
 obtain ⟨cl1, Ar1, -, Sz1, Ng1, -, -⟩ := id V_t
 refine G (fun t k => X0.arraylength hx (by rw [e0]; exact Ar1.1) (State.isArrayOf_alike hZ.alike Ar1.2.1) (g := (mkF m 1 #[vr a1, vi 0, vi 1, vi p4] [(.ref a1)])) rfl rfl (hb hby d15_1) _ k) ?_
 rw [len_of Sz1 Ng1]
 clear Ng1 Sz1 Ar1 cl1
 refine G (fun t k => XS.iloadN X0.here hx rfl (hb hby d15_2) rfl (XS.iloadN X0.here hx rfl (hb hby d15_3) rfl k)) ?_
 obtain ⟨_, _, ⟨T2, L2, k2, n2⟩, -, X2, ⟨Lc2, hQ2, l2, y2, z2⟩, st2⟩ := Jvm.LawKit.callS X0 hx (y := (⟨"java/util/Arrays", "rangeCheck", "(III)V"⟩ : MethodName)) hown (mvT hZ (wd88 hw)) (mvT hZ (wd89 hw)) (mvT hZ (wd31 hw)) (mvT hZ (wd90 hw)) (by decide) (backOf (W := 0) (rm16 l Z a0 hw [] w_n (0 : Int32) (1 : Int32) h0 n0 Z0 (by decide) (by decide) hnn) hZ (wd90 hw) (wd31 hw) (by decide) (by decide)) (g := (mkF m 4 #[vr a1, vi 0, vi 1, vi p4] [(.int 1), (.int 0), (.int w_n)])) rfl (by rw [hml]; rfl) (argsL := [(.int w_n), (.int (0 : Int32)), (.int (1 : Int32))]) (rest := []) (lenOf pd8 rfl) rfl (by show 2 * 0 + _ ≤ _; exact Nat.le_of_eq rfl) (hb hby d15_4) (fun _ _ => ⟨rfl, e0, (by decide : 0 + 0 ≤ _), (by decide : 0 + 0 ≤ _)⟩)
 dsimp only [Pt.U, Pt.locs, Pt.cells, Pt.slots] at X2 l2 y2 z2 st2 hQ2
 subst l2 y2 z2
 refine G st2 ?_
 obtain ⟨rfl, N2q, e2⟩ := hQ2
 have N2 := Fr.app N0 N2q
 refine G (fun t k => XS.aloadN X2.here hx rfl (hb hby d15_7) rfl rfl (XS.iloadN X2.here hx rfl (hb hby d15_8) rfl k)) ?_
 show Go _ _ _ (T2.setTop (mkF m 9 #[vr a1, vi 0, vi 1, vi p4] [(.int 0), (.ref a1)])) _
 refine G (fun t k => XS.iloadN X2.here hx rfl (hb hby d15_9) rfl (XS.iloadN X2.here hx rfl (hb hby d15_10) rfl k)) ?_
 obtain ⟨_, _, ⟨T3, L3, k3, n3⟩, -, X3, ⟨Lc3, hQ3, l3, y3, z3⟩, st3⟩ := Jvm.LawKit.callS X2 hx (y := (⟨"java/util/Arrays", "binarySearch0", "([IIII)I"⟩ : MethodName)) hown (mvT hZ (wd91 hw)) (mvT hZ (wd92 hw)) (mvT hZ (wd31 hw)) (mvT hZ (wd93 hw)) (by decide) (backOf (W := 0) (rm17_01 l Z a0 hw [] a1 p4 k_t ts w_n h0 n0 Z0 V_t hnn) hZ (wd93 hw) (wd31 hw) (by decide) (by decide)) (g := (mkF m 11 #[vr a1, vi 0, vi 1, vi p4] [(.int p4), (.int 1), (.int 0), (.ref a1)])) rfl (by rw [hml]; rfl) (argsL := [(.ref a1), (.int (0 : Int32)), (.int (1 : Int32)), (.int p4)]) (rest := []) (lenOf pd9 rfl) rfl (by show 2 * 0 + _ ≤ _; exact Nat.le_of_eq rfl) (hb hby d15_11) (fun _ _ => ⟨rfl, e2, (by decide : 0 + 0 ≤ _), (by decide : 0 + 0 ≤ _)⟩)
 dsimp only [Pt.U, Pt.locs, Pt.cells, Pt.slots] at X3 l3 y3 z3 st3 hQ3
 subst l3 y3 z3
 refine G st3 ?_
 obtain ⟨rfl, N3q, e3⟩ := hQ3
 have N3 := Fr.app N2 N3q
 obtain ⟨fs, hr, hrun, hended, hW, hsame⟩ := X3.leave (v := some (.int (f17_01 p4 ts))) (fun h => by rw [Bd.returns] at h; cases h)
 refine Go.fin (retOut X3 hx Bd.returns rfl (Or.inl ⟨rfl, Or.inl rfl, _, rfl⟩) (hb hby d15_14) hr) hrun hended ⟨_, _, rfl, ?_, ⟨_, rfl⟩, hW, hsame.mono (by decide) (by decide)⟩
 show Q15_01 Z a1 p4 k_t ts w_n h0 n0 _ T3.heap _
 rw [e3]
 exact ⟨rfl, N3, rfl⟩
theorem d14_0 : decode cB14 0 = .ok (.aload_n 0, 1) := by decide +kernel
theorem d14_1 : decode cB14 1 = .ok (.getfield 13, 3) := by decide +kernel
theorem d14_4 : decode cB14 4 = .ok (.aload_n 0, 1) := by decide +kernel
theorem d14_5 : decode cB14 5 = .ok (.getfield 7, 3) := by decide +kernel
theorem d14_8 : decode cB14 8 = .ok (.iload_n 1, 1) := by decide +kernel
theorem d14_9 : decode cB14 9 = .ok (.iaload, 1) := by decide +kernel
theorem d14_10 : decode cB14 10 = .ok (.aload_n 0, 1) := by decide +kernel
theorem d14_11 : decode cB14 11 = .ok (.getfield 7, 3) := by decide +kernel
theorem d14_14 : decode cB14 14 = .ok (.iload_n 1, 1) := by decide +kernel
theorem d14_15 : decode cB14 15 = .ok (.iconst 1, 1) := by decide +kernel
theorem d14_16 : decode cB14 16 = .ok (.iadd, 1) := by decide +kernel
theorem d14_17 : decode cB14 17 = .ok (.iaload, 1) := by decide +kernel
theorem d14_18 : decode cB14 18 = .ok (.iload_n 2, 1) := by decide +kernel
theorem d14_19 : decode cB14 19 = .ok (.invokestatic 16, 3) := by decide +kernel
theorem wd85 {Z a0} (hw : HW a0 Z) : (Jvm.Cond.methodLink RC (16 : Nat) ⟨"java/util/Arrays", "binarySearch", "([IIII)I"⟩).before a0 Z = true := mw hw 85 rfl
theorem wd87 {Z a0} (hw : HW a0 Z) : (Jvm.Cond.code ⟨"java/util/Arrays", "binarySearch", "([IIII)I"⟩ cB15 (4 : Nat) (Option.some Jvm.ClassFile.FieldType.int)).before a0 Z = true := mw hw 87 rfl
theorem wd86 {Z a0} (hw : HW a0 Z) : (Jvm.Cond.static ⟨"java/util/Arrays", "binarySearch", "([IIII)I"⟩).before a0 Z = true := mw hw 86 rfl
theorem d14_22 : decode cB14 22 = .ok (.ifCond .lt 7, 3) := by decide +kernel
theorem d14_29 : decode cB14 29 = .ok (.iconst 0, 1) := by decide +kernel
theorem d14_30 : decode cB14 30 = .ok (.ireturn, 1) := by decide +kernel
theorem d14_25 : decode cB14 25 = .ok (.iconst 1, 1) := by decide +kernel
theorem d14_26 : decode cB14 26 = .ok (.goto 4, 3) := by decide +kernel
def f14_01 (p3 : Int32) (ts : List Int32) : Int32 := (if (f17_01 p3 ts) < (0 : Int32) then (0 : Int32) else (1 : Int32))
def Q14_01 (Z : State) (a1 : Addr) (p2 : Int32) (p3 : Int32) (w_s : Addr) (k_s : ClassId) (X : List Int32) (w_t : Addr) (k_t : ClassId) (ts : List Int32) (w_n : Int32) (h0 : Heap) (n0 : Nat) (v : Option Value) (h : Heap) (L : List Loc) : Prop := v = some (.int (f14_01 p3 ts)) ∧ Fr n0 L ∧ h = h0
theorem ef14_01 (m : MethodId) (x0 : Addr) (x1 : Int32) (x2 : Int32) : entryFrame m #[(.ref x0), (.int x1), (.int x2)] 3 = mkF m 0 #[.val (.ref x0), .val (.int x1), .val (.int x2)] [] := by first | (simp [entryFrame, mkF, argsToLocals, Value.category]; done) | rfl
theorem rm14_01 (l : Launch) (Z : State) (a0 : Array Value) (hw : HW a0 Z) (ws : List Jvm.Cond) (a1 : Addr) (p2 : Int32) (p3 : Int32) (w_s : Addr) (k_s : ClassId) (X : List Int32) (w_t : Addr) (k_t : ClassId) (ts : List Int32) (w_n : Int32) (h0 : Heap) (n0 : Nat) (Z0 : n0 ≤ h0.size) (F_a1_a : Fld Z h0 a1 RC "start" "[I" (.ref w_s)) (V_s : Arv Z h0 w_s k_s .int (9 : Int32) (List.map Value.int X) (.int (0 : Int32))) (F_a1_t : Fld Z h0 a1 RC "targets" "[I" (.ref w_t)) (V_t : Arv Z h0 w_t k_t .int w_n (List.map Value.int ts) (.int (0 : Int32))) (hib : ¬ p2 < 0 ∧ p2 < (9 : Int32)) (hib1 : ¬ (p2 + (1 : Int32)) < 0 ∧ (p2 + (1 : Int32)) < (9 : Int32)) (hlo : own_at X p2 = (0 : Int32)) (hhi : own_at X (p2 + (1 : Int32)) = (1 : Int32)) (hnn : ¬ w_n < (1 : Int32)) :
  MetFree l (⟨RC, "contains", "(II)Z"⟩ : MethodName) (head1 (Jvm.Cond.code (⟨RC, "contains", "(II)Z"⟩ : MethodName) cB14 3 (some .boolean) :: ws) (Rm 2 0 0 34)) (Pr Z h0 #[(.ref a1), (.int p2), (.int p3)]) Tr (fun _ U o U' => ∃ v L, o = .returned v ∧ Q14_01 Z a1 p2 p3 w_s k_s X w_t k_t ts w_n h0 n0 v U'.heap L ∧ FrameEnd U o U' L (Rm 2 0 0 34).cells (Rm 2 0 0 34).slots) := by
 refine MetFree.of_bodySF (plainFor_of_name pn4) hisR ?_
 intro p e s m args below meth c s₁ Bd hml0 hP hK
 obtain ⟨rfl, hZ, hh⟩ := hP
 have hx := Bd.exec
 have hby := Bd.bytes
 have hml : c.maxLocals = 3 := hml0
 have hown : s.vm.findClass RC = some m.cls := findClass_of_methodNamed Bd.named
 have hnm := (name_of_methodNamed Bd.named Bd.method).1
 have X0 : Stand p l e (Rm 2 0 0 34) s m #[(.ref a1), (.int p2), (.int p3)] below meth c s₁ [] 0 0 := Stand.of_body Bd
 have e0 : s₁.heap = h0 := by rw [← hh, Bd.state]; rfl
 have N0 := Fr.nil n0
 have K0 : Keep h0 h0 [] := Keep.refl h0 _
 refine G (P := fun o U' => ∃ v L, o = .returned v ∧ Q14_01 Z a1 p2 p3 w_s k_s X w_t k_t ts w_n h0 n0 v U'.heap L ∧ FrameEnd s o U' L (Rm 2 0 0 34).cells (Rm 2 0 0 34).slots) (fun t k => castTop (ef14_01 m a1 p2 p3) k) ?_
 show Go _ _ _ (s₁.setTop (mkF m 0 #[vr a1, vi p2, vi p3] [])) _
 refine G (fun t k => XS.aloadN X0.here hx rfl (hb hby d14_0) rfl rfl k) ?_
 obtain ⟨T1, X1, e1, st1⟩ := getF X0 hx hZ hown (host := "") (Or.inl (wd73 hw)) Via.refl e0 F_a1_t (g := (mkF m 1 #[vr a1, vi p2, vi p3] [(.ref a1)])) rfl rfl (hb hby d14_1)
 refine G st1 ?_
 refine G (fun t k => XS.aloadN X1.here hx rfl (hb hby d14_4) rfl rfl k) ?_
 obtain ⟨T2, X2, e2, st2⟩ := getF X1 hx hZ hown (host := "") (Or.inl (wd71 hw)) Via.refl e1 F_a1_a (g := (mkF m 5 #[vr a1, vi p2, vi p3] [(.ref a1), (.ref w_t)])) rfl rfl (hb hby d14_5)
 refine G st2 ?_
 refine G (fun t k => XS.iloadN X2.here hx rfl (hb hby d14_8) rfl k) ?_
 obtain ⟨cl3, Ar3, -, Sz3, Ng3, Hs3, -⟩ := id V_s
 have hin3 := inb_of (j := p2) (c := cl3) Sz3 hib
 refine G (fun t k => X2.iaload hx (j := p2) (v := (.int (0 : Int32))) (by rw [e2]; exact Ar3.1) (State.isArrayOf_alike hZ.alike Ar3.2.1) Ar3.2.2 hin3 (Has.at Hs3 hin3 ((own_atv X p2).trans (congrArg Value.int hlo))) (g := (mkF m 9 #[vr a1, vi p2, vi p3] [(.int p2), (.ref w_s), (.ref w_t)])) rfl rfl (hb hby d14_9) _ k) ?_
 clear hin3 Hs3 Ng3 Sz3 Ar3 cl3
 refine G (fun t k => XS.aloadN X2.here hx rfl (hb hby d14_10) rfl rfl k) ?_
 show Go _ _ _ (T2.setTop (mkF m 11 #[vr a1, vi p2, vi p3] [(.ref a1), (.int 0), (.ref w_t)])) _
 obtain ⟨T4, X4, e4, st4⟩ := getF X2 hx hZ hown (host := "") (Or.inl (wd71 hw)) Via.refl e2 F_a1_a (g := (mkF m 11 #[vr a1, vi p2, vi p3] [(.ref a1), (.int 0), (.ref w_t)])) rfl rfl (hb hby d14_11)
 refine G st4 ?_
 refine G (fun t k => XS.iloadN X4.here hx rfl (hb hby d14_14) rfl (XS.iconst X4.here hx rfl (hb hby d14_15) (XS.iadd X4.here hx rfl (hb hby d14_16) rfl k))) ?_
 obtain ⟨cl5, Ar5, -, Sz5, Ng5, Hs5, -⟩ := id V_s
 have hin5 := inb_of (j := (p2 + (1 : Int32))) (c := cl5) Sz5 hib1
 refine G (fun t k => X4.iaload hx (j := (p2 + (1 : Int32))) (v := (.int (1 : Int32))) (by rw [e4]; exact Ar5.1) (State.isArrayOf_alike hZ.alike Ar5.2.1) Ar5.2.2 hin5 (Has.at Hs5 hin5 ((own_atv X (p2 + (1 : Int32))).trans (congrArg Value.int hhi))) (g := (mkF m 17 #[vr a1, vi p2, vi p3] [(.int (p2 + (1 : Int32))), (.ref w_s), (.int 0), (.ref w_t)])) rfl rfl (hb hby d14_17) _ k) ?_
 clear hin5 Hs5 Ng5 Sz5 Ar5 cl5
 refine G (fun t k => XS.iloadN X4.here hx rfl (hb hby d14_18) rfl k) ?_
 obtain ⟨_, _, ⟨T6, L6, k6, n6⟩, -, X6, ⟨Lc6, hQ6, l6, y6, z6⟩, st6⟩ := Jvm.LawKit.callS X4 hx (y := (⟨"java/util/Arrays", "binarySearch", "([IIII)I"⟩ : MethodName)) hown (mvT hZ (wd85 hw)) (mvT hZ (wd86 hw)) (mvT hZ (wd31 hw)) (mvT hZ (wd87 hw)) (by decide) (backOf (W := 0) (rm15_01 l Z a0 hw [] w_t p3 k_t ts w_n h0 n0 Z0 V_t hnn) hZ (wd87 hw) (wd31 hw) (by decide) (by decide)) (g := (mkF m 19 #[vr a1, vi p2, vi p3] [(.int p3), (.int 1), (.int 0), (.ref w_t)])) rfl (by rw [hml]; rfl) (argsL := [(.ref w_t), (.int (0 : Int32)), (.int (1 : Int32)), (.int p3)]) (rest := []) (lenOf pd9 rfl) rfl (by show 2 * 0 + _ ≤ _; exact Nat.le_of_eq rfl) (hb hby d14_19) (fun _ _ => ⟨rfl, e4, (by decide : 0 + 0 ≤ _), (by decide : 0 + 0 ≤ _)⟩)
 dsimp only [Pt.U, Pt.locs, Pt.cells, Pt.slots] at X6 l6 y6 z6 st6 hQ6
 subst l6 y6 z6
 refine G st6 ?_
 obtain ⟨rfl, N6q, e6⟩ := hQ6
 have N6 := Fr.app N0 N6q
 show Go _ _ _ (T6.setTop (mkF m 22 #[vr a1, vi p2, vi p3] [(.int (f17_01 p3 ts))])) _
 by_cases hc7 : (f17_01 p3 ts) < (0 : Int32)
 ·refine G (fun t k => XS.ifYes X6.here hx rfl (pc0 := 22) (pc' := 29) rfl (hb hby d14_22) rfl ((if0 _ _).trans (tlt hc7).1) (by decide) (by decide) (XS.iconst X6.here hx rfl (hb hby d14_29) k)) ?_
  obtain ⟨fs, hr, hrun, hended, hW, hsame⟩ := X6.leave (v := some (.int (0 : Int32))) (fun h => by rw [Bd.returns] at h; cases h)
  refine Go.fin (retN X6 hx (t := .boolean) Bd.returns (by simp) (hb hby d14_30) hr) hrun hended ⟨_, _, rfl, ?_, ⟨_, rfl⟩, hW, hsame.mono (by decide) (by decide)⟩
  show Q14_01 Z a1 p2 p3 w_s k_s X w_t k_t ts w_n h0 n0 _ T6.heap _
  rw [e6]
  exact ⟨(by unfold f14_01; simp only [if_pos hc7]), N6, rfl⟩
 ·refine G (fun t k => XS.ifNo X6.here hx rfl (hb hby d14_22) rfl ((if0 _ _).trans (flt hc7).1) (XS.iconst X6.here hx rfl (hb hby d14_25) (XS.goto X6.here hx rfl (pc0 := 26) (pc' := 30) rfl (hb hby d14_26) (by decide) (by decide) k))) ?_
  obtain ⟨fs, hr, hrun, hended, hW, hsame⟩ := X6.leave (v := some (.int (1 : Int32))) (fun h => by rw [Bd.returns] at h; cases h)
  refine Go.fin (retN X6 hx (t := .boolean) Bd.returns (by simp) (hb hby d14_30) hr) hrun hended ⟨_, _, rfl, ?_, ⟨_, rfl⟩, hW, hsame.mono (by decide) (by decide)⟩
  show Q14_01 Z a1 p2 p3 w_s k_s X w_t k_t ts w_n h0 n0 _ T6.heap _
  rw [e6]
  exact ⟨(by unfold f14_01; simp only [if_neg hc7]), N6, rfl⟩
def f17_02 (p4 : Int32) (ts : List Int32) : Int32 := (if (own_at ts (0 : Int32)) < p4 then (if (own_at ts (1 : Int32)) < p4 then (-3 : Int32) else (if p4 < (own_at ts (1 : Int32)) then (-2 : Int32) else (1 : Int32))) else (if p4 < (own_at ts (0 : Int32)) then (-1 : Int32) else (0 : Int32)))
def Q17_02 (Z : State) (a1 : Addr) (p4 : Int32) (k_t : ClassId) (ts : List Int32) (w_n : Int32) (h0 : Heap) (n0 : Nat) (v : Option Value) (h : Heap) (L : List Loc) : Prop := v = some (.int (f17_02 p4 ts)) ∧ Fr n0 L ∧ h = h0
theorem ef17_02 (m : MethodId) (x0 : Addr) (x3 : Int32) : entryFrame m #[(.ref x0), (.int (0 : Int32)), (.int (2 : Int32)), (.int x3)] 8 = mkF m 0 #[.val (.ref x0), .val (.int (0 : Int32)), .val (.int (2 : Int32)), .val (.int x3), .unset, .unset, .unset, .unset] [] := by first | (simp [entryFrame, mkF, argsToLocals, Value.category]; done) | rfl
theorem rm17_02 (l : Launch) (Z : State) (a0 : Array Value) (hw : HW a0 Z) (ws : List Jvm.Cond) (a1 : Addr) (p4 : Int32) (k_t : ClassId) (ts : List Int32) (w_n : Int32) (h0 : Heap) (n0 : Nat) (Z0 : n0 ≤ h0.size) (V_t : Arv Z h0 a1 k_t .int w_n (List.map Value.int ts) (.int (0 : Int32))) (hnn : ¬ w_n < (2 : Int32)) :
  MetFree l (⟨"java/util/Arrays", "binarySearch0", "([IIII)I"⟩ : MethodName) (head1 (Jvm.Cond.code (⟨"java/util/Arrays", "binarySearch0", "([IIII)I"⟩ : MethodName) cB17 8 (some .int) :: ws) (Rm 0 0 0 0)) (Pr Z h0 #[(.ref a1), (.int (0 : Int32)), (.int (2 : Int32)), (.int p4)]) Tr (fun _ U o U' => ∃ v L, o = .returned v ∧ Q17_02 Z a1 p4 k_t ts w_n h0 n0 v U'.heap L ∧ FrameEnd U o U' L (Rm 0 0 0 0).cells (Rm 0 0 0 0).slots) := by
 refine MetFree.of_bodySF (plainFor_of_name pn2) hisR ?_
 intro p e s m args below meth c s₁ Bd hml0 hP hK
 obtain ⟨rfl, hZ, hh⟩ := hP
 have hx := Bd.exec
 have hby := Bd.bytes
 have hml : c.maxLocals = 8 := hml0
 have hown : s.vm.findClass "java/util/Arrays" = some m.cls := findClass_of_methodNamed Bd.named
 have hnm := (name_of_methodNamed Bd.named Bd.method).1
 have X0 : Stand p l e (Rm 0 0 0 0) s m #[(.ref a1), (.int (0 : Int32)), (.int (2 : Int32)), (.int p4)] below meth c s₁ [] 0 0 := Stand.of_body Bd
 have e0 : s₁.heap = h0 := by rw [← hh, Bd.state]; rfl
 have N0 := Fr.nil n0
 have K0 : Keep h0 h0 [] := Keep.refl h0 _
 refine G (P := fun o U' => ∃ v L, o = .returned v ∧ Q17_02 Z a1 p4 k_t ts w_n h0 n0 v U'.heap L ∧ FrameEnd s o U' L (Rm 0 0 0 0).cells (Rm 0 0 0 0).slots) (fun t k => castTop (ef17_02 m a1 p4) k) ?_
 show Go _ _ _ (s₁.setTop (mkF m 0 #[vr a1, vi 0, vi 2, vi p4, us, us, us, us] [])) _
 refine G (fun t k => XS.iloadN X0.here hx rfl (hb hby d17_0) rfl (XS.istore X0.here hx rfl (hb hby d17_1) rfl (l' := #[vr a1, vi 0, vi 2, vi p4, vi 0, us, us, us]) rfl (XS.iloadN X0.here hx rfl (hb hby d17_3) rfl (XS.iconst X0.here hx rfl (hb hby d17_4) (XS.isub X0.here hx rfl (hb hby d17_5) rfl (XS.istore X0.here hx rfl (hb hby d17_6) rfl (l' := #[vr a1, vi 0, vi 2, vi p4, vi 0, vi 1, us, us]) rfl k)))))) ?_
 refine G (fun t k => XS.iload X0.here hx rfl (hb hby d17_8) rfl k) ?_
 show Go _ _ _ (s₁.setTop (mkF m 10 #[vr a1, vi 0, vi 2, vi p4, vi 0, vi 1, us, us] [(.int 0)])) _
 refine G (fun t k => XS.iload X0.here hx rfl (hb hby d17_10) rfl (XS.icmpNo X0.here hx rfl (hb hby d17_12) rfl (flt (by decide : ¬ ((1 : Int32) < (0 : Int32)))).2.2.1 (XS.iload X0.here hx rfl (hb hby d17_15) rfl (XS.iload X0.here hx rfl (hb hby d17_17) rfl (XS.iadd X0.here hx rfl (hb hby d17_19) rfl (XS.iconst X0.here hx rfl (hb hby d17_20) k)))))) ?_
 refine G (fun t k => XS.iushr X0.here hx rfl (hb hby d17_21) rfl k) ?_
 show Go _ _ _ (s₁.setTop (mkF m 22 #[vr a1, vi 0, vi 2, vi p4, vi 0, vi 1, us, us] [(.int (((1 : Int32).toUInt32 >>> ((1 : Int32) &&& 31).toUInt32).toInt32))])) _
 refine Go.fr (g' := (mkF m 22 #[vr a1, vi 0, vi 2, vi p4, vi 0, vi 1, us, us] [(.int 0)])) (by rw [show (((1 : Int32).toUInt32 >>> ((1 : Int32) &&& 31).toUInt32).toInt32) = (0 : Int32) from by decide]) ?_
 show Go _ _ _ (s₁.setTop (mkF m 22 #[vr a1, vi 0, vi 2, vi p4, vi 0, vi 1, us, us] [(.int 0)])) _
 refine G (fun t k => XS.istore X0.here hx rfl (hb hby d17_22) rfl (l' := #[vr a1, vi 0, vi 2, vi p4, vi 0, vi 1, vi 0, us]) rfl (XS.aloadN X0.here hx rfl (hb hby d17_24) rfl rfl (XS.iload X0.here hx rfl (hb hby d17_25) rfl k))) ?_
 obtain ⟨cl1, Ar1, -, Sz1, Ng1, Hs1, -⟩ := id V_t
 have hin1 := inb_of (j := (0 : Int32)) (c := cl1) Sz1 ⟨by decide, own_ltl (0 : Int32) (2 : Int32) _ (by decide) hnn⟩
 refine G (fun t k => X0.iaload hx (j := (0 : Int32)) (v := (.int (own_at ts (0 : Int32)))) (by rw [e0]; exact Ar1.1) (State.isArrayOf_alike hZ.alike Ar1.2.1) Ar1.2.2 hin1 (Has.at Hs1 hin1 (own_atv ts (0 : Int32))) (g := (mkF m 27 #[vr a1, vi 0, vi 2, vi p4, vi 0, vi 1, vi 0, us] [(.int 0), (.ref a1)])) rfl rfl (hb hby d17_27) _ k) ?_
 clear hin1 Hs1 Ng1 Sz1 Ar1 cl1
 refine G (fun t k => XS.istore X0.here hx rfl (hb hby d17_28) rfl (l' := #[vr a1, vi 0, vi 2, vi p4, vi 0, vi 1, vi 0, vi (own_at ts (0 : Int32))]) rfl (XS.iload X0.here hx rfl (hb hby d17_30) rfl (XS.iloadN X0.here hx rfl (hb hby d17_32) rfl k))) ?_
 show Go _ _ _ (s₁.setTop (mkF m 33 #[vr a1, vi 0, vi 2, vi p4, vi 0, vi 1, vi 0, vi (own_at ts (0 : Int32))] [(.int p4), (.int (own_at ts (0 : Int32)))])) _
 by_cases hc2 : (own_at ts (0 : Int32)) < p4
 ·refine G (fun t k => XS.icmpNo X0.here hx rfl (hb hby d17_33) rfl (tlt hc2).2.1 (XS.iload X0.here hx rfl (hb hby d17_36) rfl (XS.iconst X0.here hx rfl (hb hby d17_38) (XS.iadd X0.here hx rfl (hb hby d17_39) rfl (XS.istore X0.here hx rfl (hb hby d17_40) rfl (l' := #[vr a1, vi 0, vi 2, vi p4, vi 1, vi 1, vi 0, vi (own_at ts (0 : Int32))]) rfl (XS.goto X0.here hx rfl (pc0 := 42) (pc' := 63) rfl (hb hby d17_42) (by decide) (by decide) k)))))) ?_
  refine G (fun t k => XS.goto X0.here hx rfl (pc0 := 63) (pc' := 8) rfl (hb hby d17_63) (by decide) (by decide) k) ?_
  show Go _ _ _ (s₁.setTop (mkF m 8 #[vr a1, vi 0, vi 2, vi p4, vi 1, vi 1, vi 0, vi (own_at ts (0 : Int32))] [])) _
  refine G (fun t k => XS.iload X0.here hx rfl (hb hby d17_8) rfl (XS.iload X0.here hx rfl (hb hby d17_10) rfl (XS.icmpNo X0.here hx rfl (hb hby d17_12) rfl (flt (by decide : ¬ ((1 : Int32) < (1 : Int32)))).2.2.1 (XS.iload X0.here hx rfl (hb hby d17_15) rfl (XS.iload X0.here hx rfl (hb hby d17_17) rfl (XS.iadd X0.here hx rfl (hb hby d17_19) rfl k)))))) ?_
  refine G (fun t k => XS.iconst X0.here hx rfl (hb hby d17_20) k) ?_
  show Go _ _ _ (s₁.setTop (mkF m 21 #[vr a1, vi 0, vi 2, vi p4, vi 1, vi 1, vi 0, vi (own_at ts (0 : Int32))] [(.int 1), (.int 2)])) _
  refine G (fun t k => XS.iushr X0.here hx rfl (hb hby d17_21) rfl k) ?_
  show Go _ _ _ (s₁.setTop (mkF m 22 #[vr a1, vi 0, vi 2, vi p4, vi 1, vi 1, vi 0, vi (own_at ts (0 : Int32))] [(.int (((2 : Int32).toUInt32 >>> ((1 : Int32) &&& 31).toUInt32).toInt32))])) _
  refine Go.fr (g' := (mkF m 22 #[vr a1, vi 0, vi 2, vi p4, vi 1, vi 1, vi 0, vi (own_at ts (0 : Int32))] [(.int 1)])) (by rw [show (((2 : Int32).toUInt32 >>> ((1 : Int32) &&& 31).toUInt32).toInt32) = (1 : Int32) from by decide]) ?_
  show Go _ _ _ (s₁.setTop (mkF m 22 #[vr a1, vi 0, vi 2, vi p4, vi 1, vi 1, vi 0, vi (own_at ts (0 : Int32))] [(.int 1)])) _
  refine G (fun t k => XS.istore X0.here hx rfl (hb hby d17_22) rfl (l' := #[vr a1, vi 0, vi 2, vi p4, vi 1, vi 1, vi 1, vi (own_at ts (0 : Int32))]) rfl (XS.aloadN X0.here hx rfl (hb hby d17_24) rfl rfl (XS.iload X0.here hx rfl (hb hby d17_25) rfl k))) ?_
  obtain ⟨cl3, Ar3, -, Sz3, Ng3, Hs3, -⟩ := id V_t
  have hin3 := inb_of (j := (1 : Int32)) (c := cl3) Sz3 ⟨by decide, own_ltl (1 : Int32) (2 : Int32) _ (by decide) hnn⟩
  refine G (fun t k => X0.iaload hx (j := (1 : Int32)) (v := (.int (own_at ts (1 : Int32)))) (by rw [e0]; exact Ar3.1) (State.isArrayOf_alike hZ.alike Ar3.2.1) Ar3.2.2 hin3 (Has.at Hs3 hin3 (own_atv ts (1 : Int32))) (g := (mkF m 27 #[vr a1, vi 0, vi 2, vi p4, vi 1, vi 1, vi 1, vi (own_at ts (0 : Int32))] [(.int 1), (.ref a1)])) rfl rfl (hb hby d17_27) _ k) ?_
  clear hin3 Hs3 Ng3 Sz3 Ar3 cl3
  refine G (fun t k => XS.istore X0.here hx rfl (hb hby d17_28) rfl (l' := #[vr a1, vi 0, vi 2, vi p4, vi 1, vi 1, vi 1, vi (own_at ts (1 : Int32))]) rfl (XS.iload X0.here hx rfl (hb hby d17_30) rfl (XS.iloadN X0.here hx rfl (hb hby d17_32) rfl k))) ?_
  show Go _ _ _ (s₁.setTop (mkF m 33 #[vr a1, vi 0, vi 2, vi p4, vi 1, vi 1, vi 1, vi (own_at ts (1 : Int32))] [(.int p4), (.int (own_at ts (1 : Int32)))])) _
  by_cases hc4 : (own_at ts (1 : Int32)) < p4
  ·refine G (fun t k => XS.icmpNo X0.here hx rfl (hb hby d17_33) rfl (tlt hc4).2.1 (XS.iload X0.here hx rfl (hb hby d17_36) rfl (XS.iconst X0.here hx rfl (hb hby d17_38) (XS.iadd X0.here hx rfl (hb hby d17_39) rfl (XS.istore X0.here hx rfl (hb hby d17_40) rfl (l' := #[vr a1, vi 0, vi 2, vi p4, vi 2, vi 1, vi 1, vi (own_at ts (1 : Int32))]) rfl (XS.goto X0.here hx rfl (pc0 := 42) (pc' := 63) rfl (hb hby d17_42) (by decide) (by decide) k)))))) ?_
   refine G (fun t k => XS.goto X0.here hx rfl (pc0 := 63) (pc' := 8) rfl (hb hby d17_63) (by decide) (by decide) k) ?_
   show Go _ _ _ (s₁.setTop (mkF m 8 #[vr a1, vi 0, vi 2, vi p4, vi 2, vi 1, vi 1, vi (own_at ts (1 : Int32))] [])) _
   refine G (fun t k => XS.iload X0.here hx rfl (hb hby d17_8) rfl (XS.iload X0.here hx rfl (hb hby d17_10) rfl (XS.icmpYes X0.here hx rfl (pc0 := 12) (pc' := 66) rfl (hb hby d17_12) rfl (tlt (by decide : (1 : Int32) < (2 : Int32))).2.2.1 (by decide) (by decide) (XS.iload X0.here hx rfl (hb hby d17_66) rfl (XS.iconst X0.here hx rfl (hb hby d17_68) (XS.iadd X0.here hx rfl (hb hby d17_69) rfl k)))))) ?_
   refine G (fun t k => XS.ineg X0.here hx rfl (hb hby d17_70) rfl k) ?_
   show Go _ _ _ (s₁.setTop (mkF m 71 #[vr a1, vi 0, vi 2, vi p4, vi 2, vi 1, vi 1, vi (own_at ts (1 : Int32))] [(.int (-3))])) _
   obtain ⟨fs, hr, hrun, hended, hW, hsame⟩ := X0.leave (v := some (.int (-3 : Int32))) (fun h => by rw [Bd.returns] at h; cases h)
   refine Go.fin (retOut X0 hx Bd.returns rfl (Or.inl ⟨rfl, Or.inl rfl, _, rfl⟩) (hb hby d17_71) hr) hrun hended ⟨_, _, rfl, ?_, ⟨_, rfl⟩, hW, hsame.mono (by decide) (by decide)⟩
   show Q17_02 Z a1 p4 k_t ts w_n h0 n0 _ s₁.heap _
   rw [e0]
   exact ⟨(by unfold f17_02; simp only [if_pos hc2, if_pos hc4]), N0, rfl⟩
  ·refine G (fun t k => XS.icmpYes X0.here hx rfl (pc0 := 33) (pc' := 45) rfl (hb hby d17_33) rfl (flt hc4).2.1 (by decide) (by decide) (XS.iload X0.here hx rfl (hb hby d17_45) rfl (XS.iloadN X0.here hx rfl (hb hby d17_47) rfl k))) ?_
   by_cases hc5 : p4 < (own_at ts (1 : Int32))
   ·refine G (fun t k => XS.icmpNo X0.here hx rfl (hb hby d17_48) rfl (tlt hc5).2.2.2 (XS.iload X0.here hx rfl (hb hby d17_51) rfl (XS.iconst X0.here hx rfl (hb hby d17_53) (XS.isub X0.here hx rfl (hb hby d17_54) rfl k)))) ?_
    show Go _ _ _ (s₁.setTop (mkF m 55 #[vr a1, vi 0, vi 2, vi p4, vi 1, vi 1, vi 1, vi (own_at ts (1 : Int32))] [(.int 0)])) _
    refine G (fun t k => XS.istore X0.here hx rfl (hb hby d17_55) rfl (l' := #[vr a1, vi 0, vi 2, vi p4, vi 1, vi 0, vi 1, vi (own_at ts (1 : Int32))]) rfl (XS.goto X0.here hx rfl (pc0 := 57) (pc' := 63) rfl (hb hby d17_57) (by decide) (by decide) (XS.goto X0.here hx rfl (pc0 := 63) (pc' := 8) rfl (hb hby d17_63) (by decide) (by decide) (XS.iload X0.here hx rfl (hb hby d17_8) rfl (XS.iload X0.here hx rfl (hb hby d17_10) rfl (XS.icmpYes X0.here hx rfl (pc0 := 12) (pc' := 66) rfl (hb hby d17_12) rfl (tlt (by decide : (0 : Int32) < (1 : Int32))).2.2.1 (by decide) (by decide) k)))))) ?_
    refine G (fun t k => XS.iload X0.here hx rfl (hb hby d17_66) rfl k) ?_
    show Go _ _ _ (s₁.setTop (mkF m 68 #[vr a1, vi 0, vi 2, vi p4, vi 1, vi 0, vi 1, vi (own_at ts (1 : Int32))] [(.int 1)])) _
    refine G (fun t k => XS.iconst X0.here hx rfl (hb hby d17_68) (XS.iadd X0.here hx rfl (hb hby d17_69) rfl (XS.ineg X0.here hx rfl (hb hby d17_70) rfl k))) ?_
    obtain ⟨fs, hr, hrun, hended, hW, hsame⟩ := X0.leave (v := some (.int (-2 : Int32))) (fun h => by rw [Bd.returns] at h; cases h)
    refine Go.fin (retOut X0 hx Bd.returns rfl (Or.inl ⟨rfl, Or.inl rfl, _, rfl⟩) (hb hby d17_71) hr) hrun hended ⟨_, _, rfl, ?_, ⟨_, rfl⟩, hW, hsame.mono (by decide) (by decide)⟩
    show Q17_02 Z a1 p4 k_t ts w_n h0 n0 _ s₁.heap _
    rw [e0]
    exact ⟨(by unfold f17_02; simp only [if_pos hc2, if_neg hc4, if_pos hc5]), N0, rfl⟩
   ·refine G (fun t k => XS.icmpYes X0.here hx rfl (pc0 := 48) (pc' := 60) rfl (hb hby d17_48) rfl (flt hc5).2.2.2 (by decide) (by decide) (XS.iload X0.here hx rfl (hb hby d17_60) rfl k)) ?_
    obtain ⟨fs, hr, hrun, hended, hW, hsame⟩ := X0.leave (v := some (.int (1 : Int32))) (fun h => by rw [Bd.returns] at h; cases h)
    refine Go.fin (retOut X0 hx Bd.returns rfl (Or.inl ⟨rfl, Or.inl rfl, _, rfl⟩) (hb hby d17_62) hr) hrun hended ⟨_, _, rfl, ?_, ⟨_, rfl⟩, hW, hsame.mono (by decide) (by decide)⟩
    show Q17_02 Z a1 p4 k_t ts w_n h0 n0 _ s₁.heap _
    rw [e0]
    exact ⟨(by unfold f17_02; simp only [if_pos hc2, if_neg hc4, if_neg hc5]), N0, rfl⟩
 ·refine G (fun t k => XS.icmpYes X0.here hx rfl (pc0 := 33) (pc' := 45) rfl (hb hby d17_33) rfl (flt hc2).2.1 (by decide) (by decide) (XS.iload X0.here hx rfl (hb hby d17_45) rfl (XS.iloadN X0.here hx rfl (hb hby d17_47) rfl k))) ?_
  by_cases hc6 : p4 < (own_at ts (0 : Int32))
  ·refine G (fun t k => XS.icmpNo X0.here hx rfl (hb hby d17_48) rfl (tlt hc6).2.2.2 (XS.iload X0.here hx rfl (hb hby d17_51) rfl (XS.iconst X0.here hx rfl (hb hby d17_53) (XS.isub X0.here hx rfl (hb hby d17_54) rfl k)))) ?_
   show Go _ _ _ (s₁.setTop (mkF m 55 #[vr a1, vi 0, vi 2, vi p4, vi 0, vi 1, vi 0, vi (own_at ts (0 : Int32))] [(.int (-1))])) _
   refine G (fun t k => XS.istore X0.here hx rfl (hb hby d17_55) rfl (l' := #[vr a1, vi 0, vi 2, vi p4, vi 0, vi (-1), vi 0, vi (own_at ts (0 : Int32))]) rfl (XS.goto X0.here hx rfl (pc0 := 57) (pc' := 63) rfl (hb hby d17_57) (by decide) (by decide) (XS.goto X0.here hx rfl (pc0 := 63) (pc' := 8) rfl (hb hby d17_63) (by decide) (by decide) (XS.iload X0.here hx rfl (hb hby d17_8) rfl (XS.iload X0.here hx rfl (hb hby d17_10) rfl (XS.icmpYes X0.here hx rfl (pc0 := 12) (pc' := 66) rfl (hb hby d17_12) rfl (tlt (by decide : (-1 : Int32) < (0 : Int32))).2.2.1 (by decide) (by decide) k)))))) ?_
   refine G (fun t k => XS.iload X0.here hx rfl (hb hby d17_66) rfl k) ?_
   show Go _ _ _ (s₁.setTop (mkF m 68 #[vr a1, vi 0, vi 2, vi p4, vi 0, vi (-1), vi 0, vi (own_at ts (0 : Int32))] [(.int 0)])) _
   refine G (fun t k => XS.iconst X0.here hx rfl (hb hby d17_68) (XS.iadd X0.here hx rfl (hb hby d17_69) rfl (XS.ineg X0.here hx rfl (hb hby d17_70) rfl k))) ?_
   obtain ⟨fs, hr, hrun, hended, hW, hsame⟩ := X0.leave (v := some (.int (-1 : Int32))) (fun h => by rw [Bd.returns] at h; cases h)
   refine Go.fin (retOut X0 hx Bd.returns rfl (Or.inl ⟨rfl, Or.inl rfl, _, rfl⟩) (hb hby d17_71) hr) hrun hended ⟨_, _, rfl, ?_, ⟨_, rfl⟩, hW, hsame.mono (by decide) (by decide)⟩
   show Q17_02 Z a1 p4 k_t ts w_n h0 n0 _ s₁.heap _
   rw [e0]
   exact ⟨(by unfold f17_02; simp only [if_neg hc2, if_pos hc6]), N0, rfl⟩
  ·refine G (fun t k => XS.icmpYes X0.here hx rfl (pc0 := 48) (pc' := 60) rfl (hb hby d17_48) rfl (flt hc6).2.2.2 (by decide) (by decide) (XS.iload X0.here hx rfl (hb hby d17_60) rfl k)) ?_
   obtain ⟨fs, hr, hrun, hended, hW, hsame⟩ := X0.leave (v := some (.int (0 : Int32))) (fun h => by rw [Bd.returns] at h; cases h)
   refine Go.fin (retOut X0 hx Bd.returns rfl (Or.inl ⟨rfl, Or.inl rfl, _, rfl⟩) (hb hby d17_62) hr) hrun hended ⟨_, _, rfl, ?_, ⟨_, rfl⟩, hW, hsame.mono (by decide) (by decide)⟩
   show Q17_02 Z a1 p4 k_t ts w_n h0 n0 _ s₁.heap _
   rw [e0]
   exact ⟨(by unfold f17_02; simp only [if_neg hc2, if_neg hc6]), N0, rfl⟩
def Q15_02 (Z : State) (a1 : Addr) (p4 : Int32) (k_t : ClassId) (ts : List Int32) (w_n : Int32) (h0 : Heap) (n0 : Nat) (v : Option Value) (h : Heap) (L : List Loc) : Prop := v = some (.int (f17_02 p4 ts)) ∧ Fr n0 L ∧ h = h0
theorem ef15_02 (m : MethodId) (x0 : Addr) (x3 : Int32) : entryFrame m #[(.ref x0), (.int (0 : Int32)), (.int (2 : Int32)), (.int x3)] 4 = mkF m 0 #[.val (.ref x0), .val (.int (0 : Int32)), .val (.int (2 : Int32)), .val (.int x3)] [] := by first | (simp [entryFrame, mkF, argsToLocals, Value.category]; done) | rfl
theorem rm15_02 (l : Launch) (Z : State) (a0 : Array Value) (hw : HW a0 Z) (ws : List Jvm.Cond) (a1 : Addr) (p4 : Int32) (k_t : ClassId) (ts : List Int32) (w_n : Int32) (h0 : Heap) (n0 : Nat) (Z0 : n0 ≤ h0.size) (V_t : Arv Z h0 a1 k_t .int w_n (List.map Value.int ts) (.int (0 : Int32))) (hnn : ¬ w_n < (2 : Int32)) :
  MetFree l (⟨"java/util/Arrays", "binarySearch", "([IIII)I"⟩ : MethodName) (head1 (Jvm.Cond.code (⟨"java/util/Arrays", "binarySearch", "([IIII)I"⟩ : MethodName) cB15 4 (some .int) :: ws) (Rm 1 0 0 19)) (Pr Z h0 #[(.ref a1), (.int (0 : Int32)), (.int (2 : Int32)), (.int p4)]) Tr (fun _ U o U' => ∃ v L, o = .returned v ∧ Q15_02 Z a1 p4 k_t ts w_n h0 n0 v U'.heap L ∧ FrameEnd U o U' L (Rm 1 0 0 19).cells (Rm 1 0 0 19).slots) := by
 refine MetFree.of_bodySF (plainFor_of_name pn2) hisR ?_
 intro p e s m args below meth c s₁ Bd hml0 hP hK
 obtain ⟨rfl, hZ, hh⟩ := hP
 have hx := Bd.exec
 have hby := Bd.bytes
 have hml : c.maxLocals = 4 := hml0
 have hown : s.vm.findClass "java/util/Arrays" = some m.cls := findClass_of_methodNamed Bd.named
 have hnm := (name_of_methodNamed Bd.named Bd.method).1
 have X0 : Stand p l e (Rm 1 0 0 19) s m #[(.ref a1), (.int (0 : Int32)), (.int (2 : Int32)), (.int p4)] below meth c s₁ [] 0 0 := Stand.of_body Bd
 have e0 : s₁.heap = h0 := by rw [← hh, Bd.state]; rfl
 have N0 := Fr.nil n0
 have K0 : Keep h0 h0 [] := Keep.refl h0 _
 refine G (P := fun o U' => ∃ v L, o = .returned v ∧ Q15_02 Z a1 p4 k_t ts w_n h0 n0 v U'.heap L ∧ FrameEnd s o U' L (Rm 1 0 0 19).cells (Rm 1 0 0 19).slots) (fun t k => castTop (ef15_02 m a1 p4) k) ?_
 show Go _ _ _ (s₁.setTop (mkF m 0 #[vr a1, vi 0, vi 2, vi p4] [])) _
 refine G (fun t k => XS.aloadN X0.here hx rfl (hb hby d15_0) rfl rfl k) ?_
 obtain ⟨cl1, Ar1, -, Sz1, Ng1, -, -⟩ := id V_t
 refine G (fun t k => X0.arraylength hx (by rw [e0]; exact Ar1.1) (State.isArrayOf_alike hZ.alike Ar1.2.1) (g := (mkF m 1 #[vr a1, vi 0, vi 2, vi p4] [(.ref a1)])) rfl rfl (hb hby d15_1) _ k) ?_
 rw [len_of Sz1 Ng1]
 clear Ng1 Sz1 Ar1 cl1
 refine G (fun t k => XS.iloadN X0.here hx rfl (hb hby d15_2) rfl (XS.iloadN X0.here hx rfl (hb hby d15_3) rfl k)) ?_
 obtain ⟨_, _, ⟨T2, L2, k2, n2⟩, -, X2, ⟨Lc2, hQ2, l2, y2, z2⟩, st2⟩ := Jvm.LawKit.callS X0 hx (y := (⟨"java/util/Arrays", "rangeCheck", "(III)V"⟩ : MethodName)) hown (mvT hZ (wd88 hw)) (mvT hZ (wd89 hw)) (mvT hZ (wd31 hw)) (mvT hZ (wd90 hw)) (by decide) (backOf (W := 0) (rm16 l Z a0 hw [] w_n (0 : Int32) (2 : Int32) h0 n0 Z0 (by decide) (by decide) hnn) hZ (wd90 hw) (wd31 hw) (by decide) (by decide)) (g := (mkF m 4 #[vr a1, vi 0, vi 2, vi p4] [(.int 2), (.int 0), (.int w_n)])) rfl (by rw [hml]; rfl) (argsL := [(.int w_n), (.int (0 : Int32)), (.int (2 : Int32))]) (rest := []) (lenOf pd8 rfl) rfl (by show 2 * 0 + _ ≤ _; exact Nat.le_of_eq rfl) (hb hby d15_4) (fun _ _ => ⟨rfl, e0, (by decide : 0 + 0 ≤ _), (by decide : 0 + 0 ≤ _)⟩)
 dsimp only [Pt.U, Pt.locs, Pt.cells, Pt.slots] at X2 l2 y2 z2 st2 hQ2
 subst l2 y2 z2
 refine G st2 ?_
 obtain ⟨rfl, N2q, e2⟩ := hQ2
 have N2 := Fr.app N0 N2q
 refine G (fun t k => XS.aloadN X2.here hx rfl (hb hby d15_7) rfl rfl (XS.iloadN X2.here hx rfl (hb hby d15_8) rfl k)) ?_
 show Go _ _ _ (T2.setTop (mkF m 9 #[vr a1, vi 0, vi 2, vi p4] [(.int 0), (.ref a1)])) _
 refine G (fun t k => XS.iloadN X2.here hx rfl (hb hby d15_9) rfl (XS.iloadN X2.here hx rfl (hb hby d15_10) rfl k)) ?_
 obtain ⟨_, _, ⟨T3, L3, k3, n3⟩, -, X3, ⟨Lc3, hQ3, l3, y3, z3⟩, st3⟩ := Jvm.LawKit.callS X2 hx (y := (⟨"java/util/Arrays", "binarySearch0", "([IIII)I"⟩ : MethodName)) hown (mvT hZ (wd91 hw)) (mvT hZ (wd92 hw)) (mvT hZ (wd31 hw)) (mvT hZ (wd93 hw)) (by decide) (backOf (W := 0) (rm17_02 l Z a0 hw [] a1 p4 k_t ts w_n h0 n0 Z0 V_t hnn) hZ (wd93 hw) (wd31 hw) (by decide) (by decide)) (g := (mkF m 11 #[vr a1, vi 0, vi 2, vi p4] [(.int p4), (.int 2), (.int 0), (.ref a1)])) rfl (by rw [hml]; rfl) (argsL := [(.ref a1), (.int (0 : Int32)), (.int (2 : Int32)), (.int p4)]) (rest := []) (lenOf pd9 rfl) rfl (by show 2 * 0 + _ ≤ _; exact Nat.le_of_eq rfl) (hb hby d15_11) (fun _ _ => ⟨rfl, e2, (by decide : 0 + 0 ≤ _), (by decide : 0 + 0 ≤ _)⟩)
 dsimp only [Pt.U, Pt.locs, Pt.cells, Pt.slots] at X3 l3 y3 z3 st3 hQ3
 subst l3 y3 z3
 refine G st3 ?_
 obtain ⟨rfl, N3q, e3⟩ := hQ3
 have N3 := Fr.app N2 N3q
 obtain ⟨fs, hr, hrun, hended, hW, hsame⟩ := X3.leave (v := some (.int (f17_02 p4 ts))) (fun h => by rw [Bd.returns] at h; cases h)
 refine Go.fin (retOut X3 hx Bd.returns rfl (Or.inl ⟨rfl, Or.inl rfl, _, rfl⟩) (hb hby d15_14) hr) hrun hended ⟨_, _, rfl, ?_, ⟨_, rfl⟩, hW, hsame.mono (by decide) (by decide)⟩
 show Q15_02 Z a1 p4 k_t ts w_n h0 n0 _ T3.heap _
 rw [e3]
 exact ⟨rfl, N3, rfl⟩
def f14_02 (p3 : Int32) (ts : List Int32) : Int32 := (if (f17_02 p3 ts) < (0 : Int32) then (0 : Int32) else (1 : Int32))
def Q14_02 (Z : State) (a1 : Addr) (p2 : Int32) (p3 : Int32) (w_s : Addr) (k_s : ClassId) (X : List Int32) (w_t : Addr) (k_t : ClassId) (ts : List Int32) (w_n : Int32) (h0 : Heap) (n0 : Nat) (v : Option Value) (h : Heap) (L : List Loc) : Prop := v = some (.int (f14_02 p3 ts)) ∧ Fr n0 L ∧ h = h0
theorem ef14_02 (m : MethodId) (x0 : Addr) (x1 : Int32) (x2 : Int32) : entryFrame m #[(.ref x0), (.int x1), (.int x2)] 3 = mkF m 0 #[.val (.ref x0), .val (.int x1), .val (.int x2)] [] := by first | (simp [entryFrame, mkF, argsToLocals, Value.category]; done) | rfl
theorem rm14_02 (l : Launch) (Z : State) (a0 : Array Value) (hw : HW a0 Z) (ws : List Jvm.Cond) (a1 : Addr) (p2 : Int32) (p3 : Int32) (w_s : Addr) (k_s : ClassId) (X : List Int32) (w_t : Addr) (k_t : ClassId) (ts : List Int32) (w_n : Int32) (h0 : Heap) (n0 : Nat) (Z0 : n0 ≤ h0.size) (F_a1_a : Fld Z h0 a1 RC "start" "[I" (.ref w_s)) (V_s : Arv Z h0 w_s k_s .int (9 : Int32) (List.map Value.int X) (.int (0 : Int32))) (F_a1_t : Fld Z h0 a1 RC "targets" "[I" (.ref w_t)) (V_t : Arv Z h0 w_t k_t .int w_n (List.map Value.int ts) (.int (0 : Int32))) (hib : ¬ p2 < 0 ∧ p2 < (9 : Int32)) (hib1 : ¬ (p2 + (1 : Int32)) < 0 ∧ (p2 + (1 : Int32)) < (9 : Int32)) (hlo : own_at X p2 = (0 : Int32)) (hhi : own_at X (p2 + (1 : Int32)) = (2 : Int32)) (hnn : ¬ w_n < (2 : Int32)) :
  MetFree l (⟨RC, "contains", "(II)Z"⟩ : MethodName) (head1 (Jvm.Cond.code (⟨RC, "contains", "(II)Z"⟩ : MethodName) cB14 3 (some .boolean) :: ws) (Rm 2 0 0 34)) (Pr Z h0 #[(.ref a1), (.int p2), (.int p3)]) Tr (fun _ U o U' => ∃ v L, o = .returned v ∧ Q14_02 Z a1 p2 p3 w_s k_s X w_t k_t ts w_n h0 n0 v U'.heap L ∧ FrameEnd U o U' L (Rm 2 0 0 34).cells (Rm 2 0 0 34).slots) := by
 refine MetFree.of_bodySF (plainFor_of_name pn4) hisR ?_
 intro p e s m args below meth c s₁ Bd hml0 hP hK
 obtain ⟨rfl, hZ, hh⟩ := hP
 have hx := Bd.exec
 have hby := Bd.bytes
 have hml : c.maxLocals = 3 := hml0
 have hown : s.vm.findClass RC = some m.cls := findClass_of_methodNamed Bd.named
 have hnm := (name_of_methodNamed Bd.named Bd.method).1
 have X0 : Stand p l e (Rm 2 0 0 34) s m #[(.ref a1), (.int p2), (.int p3)] below meth c s₁ [] 0 0 := Stand.of_body Bd
 have e0 : s₁.heap = h0 := by rw [← hh, Bd.state]; rfl
 have N0 := Fr.nil n0
 have K0 : Keep h0 h0 [] := Keep.refl h0 _
 refine G (P := fun o U' => ∃ v L, o = .returned v ∧ Q14_02 Z a1 p2 p3 w_s k_s X w_t k_t ts w_n h0 n0 v U'.heap L ∧ FrameEnd s o U' L (Rm 2 0 0 34).cells (Rm 2 0 0 34).slots) (fun t k => castTop (ef14_02 m a1 p2 p3) k) ?_
 show Go _ _ _ (s₁.setTop (mkF m 0 #[vr a1, vi p2, vi p3] [])) _
 refine G (fun t k => XS.aloadN X0.here hx rfl (hb hby d14_0) rfl rfl k) ?_
 obtain ⟨T1, X1, e1, st1⟩ := getF X0 hx hZ hown (host := "") (Or.inl (wd73 hw)) Via.refl e0 F_a1_t (g := (mkF m 1 #[vr a1, vi p2, vi p3] [(.ref a1)])) rfl rfl (hb hby d14_1)
 refine G st1 ?_
 refine G (fun t k => XS.aloadN X1.here hx rfl (hb hby d14_4) rfl rfl k) ?_
 obtain ⟨T2, X2, e2, st2⟩ := getF X1 hx hZ hown (host := "") (Or.inl (wd71 hw)) Via.refl e1 F_a1_a (g := (mkF m 5 #[vr a1, vi p2, vi p3] [(.ref a1), (.ref w_t)])) rfl rfl (hb hby d14_5)
 refine G st2 ?_
 refine G (fun t k => XS.iloadN X2.here hx rfl (hb hby d14_8) rfl k) ?_
 obtain ⟨cl3, Ar3, -, Sz3, Ng3, Hs3, -⟩ := id V_s
 have hin3 := inb_of (j := p2) (c := cl3) Sz3 hib
 refine G (fun t k => X2.iaload hx (j := p2) (v := (.int (0 : Int32))) (by rw [e2]; exact Ar3.1) (State.isArrayOf_alike hZ.alike Ar3.2.1) Ar3.2.2 hin3 (Has.at Hs3 hin3 ((own_atv X p2).trans (congrArg Value.int hlo))) (g := (mkF m 9 #[vr a1, vi p2, vi p3] [(.int p2), (.ref w_s), (.ref w_t)])) rfl rfl (hb hby d14_9) _ k) ?_
 clear hin3 Hs3 Ng3 Sz3 Ar3 cl3
 refine G (fun t k => XS.aloadN X2.here hx rfl (hb hby d14_10) rfl rfl k) ?_
 show Go _ _ _ (T2.setTop (mkF m 11 #[vr a1, vi p2, vi p3] [(.ref a1), (.int 0), (.ref w_t)])) _
 obtain ⟨T4, X4, e4, st4⟩ := getF X2 hx hZ hown (host := "") (Or.inl (wd71 hw)) Via.refl e2 F_a1_a (g := (mkF m 11 #[vr a1, vi p2, vi p3] [(.ref a1), (.int 0), (.ref w_t)])) rfl rfl (hb hby d14_11)
 refine G st4 ?_
 refine G (fun t k => XS.iloadN X4.here hx rfl (hb hby d14_14) rfl (XS.iconst X4.here hx rfl (hb hby d14_15) (XS.iadd X4.here hx rfl (hb hby d14_16) rfl k))) ?_
 obtain ⟨cl5, Ar5, -, Sz5, Ng5, Hs5, -⟩ := id V_s
 have hin5 := inb_of (j := (p2 + (1 : Int32))) (c := cl5) Sz5 hib1
 refine G (fun t k => X4.iaload hx (j := (p2 + (1 : Int32))) (v := (.int (2 : Int32))) (by rw [e4]; exact Ar5.1) (State.isArrayOf_alike hZ.alike Ar5.2.1) Ar5.2.2 hin5 (Has.at Hs5 hin5 ((own_atv X (p2 + (1 : Int32))).trans (congrArg Value.int hhi))) (g := (mkF m 17 #[vr a1, vi p2, vi p3] [(.int (p2 + (1 : Int32))), (.ref w_s), (.int 0), (.ref w_t)])) rfl rfl (hb hby d14_17) _ k) ?_
 clear hin5 Hs5 Ng5 Sz5 Ar5 cl5
 refine G (fun t k => XS.iloadN X4.here hx rfl (hb hby d14_18) rfl k) ?_
 obtain ⟨_, _, ⟨T6, L6, k6, n6⟩, -, X6, ⟨Lc6, hQ6, l6, y6, z6⟩, st6⟩ := Jvm.LawKit.callS X4 hx (y := (⟨"java/util/Arrays", "binarySearch", "([IIII)I"⟩ : MethodName)) hown (mvT hZ (wd85 hw)) (mvT hZ (wd86 hw)) (mvT hZ (wd31 hw)) (mvT hZ (wd87 hw)) (by decide) (backOf (W := 0) (rm15_02 l Z a0 hw [] w_t p3 k_t ts w_n h0 n0 Z0 V_t hnn) hZ (wd87 hw) (wd31 hw) (by decide) (by decide)) (g := (mkF m 19 #[vr a1, vi p2, vi p3] [(.int p3), (.int 2), (.int 0), (.ref w_t)])) rfl (by rw [hml]; rfl) (argsL := [(.ref w_t), (.int (0 : Int32)), (.int (2 : Int32)), (.int p3)]) (rest := []) (lenOf pd9 rfl) rfl (by show 2 * 0 + _ ≤ _; exact Nat.le_of_eq rfl) (hb hby d14_19) (fun _ _ => ⟨rfl, e4, (by decide : 0 + 0 ≤ _), (by decide : 0 + 0 ≤ _)⟩)
 dsimp only [Pt.U, Pt.locs, Pt.cells, Pt.slots] at X6 l6 y6 z6 st6 hQ6
 subst l6 y6 z6
 refine G st6 ?_
 obtain ⟨rfl, N6q, e6⟩ := hQ6
 have N6 := Fr.app N0 N6q
 show Go _ _ _ (T6.setTop (mkF m 22 #[vr a1, vi p2, vi p3] [(.int (f17_02 p3 ts))])) _
 by_cases hc7 : (f17_02 p3 ts) < (0 : Int32)
 ·refine G (fun t k => XS.ifYes X6.here hx rfl (pc0 := 22) (pc' := 29) rfl (hb hby d14_22) rfl ((if0 _ _).trans (tlt hc7).1) (by decide) (by decide) (XS.iconst X6.here hx rfl (hb hby d14_29) k)) ?_
  obtain ⟨fs, hr, hrun, hended, hW, hsame⟩ := X6.leave (v := some (.int (0 : Int32))) (fun h => by rw [Bd.returns] at h; cases h)
  refine Go.fin (retN X6 hx (t := .boolean) Bd.returns (by simp) (hb hby d14_30) hr) hrun hended ⟨_, _, rfl, ?_, ⟨_, rfl⟩, hW, hsame.mono (by decide) (by decide)⟩
  show Q14_02 Z a1 p2 p3 w_s k_s X w_t k_t ts w_n h0 n0 _ T6.heap _
  rw [e6]
  exact ⟨(by unfold f14_02; simp only [if_pos hc7]), N6, rfl⟩
 ·refine G (fun t k => XS.ifNo X6.here hx rfl (hb hby d14_22) rfl ((if0 _ _).trans (flt hc7).1) (XS.iconst X6.here hx rfl (hb hby d14_25) (XS.goto X6.here hx rfl (pc0 := 26) (pc' := 30) rfl (hb hby d14_26) (by decide) (by decide) k))) ?_
  obtain ⟨fs, hr, hrun, hended, hW, hsame⟩ := X6.leave (v := some (.int (1 : Int32))) (fun h => by rw [Bd.returns] at h; cases h)
  refine Go.fin (retN X6 hx (t := .boolean) Bd.returns (by simp) (hb hby d14_30) hr) hrun hended ⟨_, _, rfl, ?_, ⟨_, rfl⟩, hW, hsame.mono (by decide) (by decide)⟩
  show Q14_02 Z a1 p2 p3 w_s k_s X w_t k_t ts w_n h0 n0 _ T6.heap _
  rw [e6]
  exact ⟨(by unfold f14_02; simp only [if_neg hc7]), N6, rfl⟩
def f17_03 (p4 : Int32) (ts : List Int32) : Int32 := (if (own_at ts (1 : Int32)) < p4 then (if (own_at ts (2 : Int32)) < p4 then (-4 : Int32) else (if p4 < (own_at ts (2 : Int32)) then (-3 : Int32) else (2 : Int32))) else (if p4 < (own_at ts (1 : Int32)) then (if (own_at ts (0 : Int32)) < p4 then (-2 : Int32) else (if p4 < (own_at ts (0 : Int32)) then (-1 : Int32) else (0 : Int32))) else (1 : Int32)))
def Q17_03 (Z : State) (a1 : Addr) (p4 : Int32) (k_t : ClassId) (ts : List Int32) (w_n : Int32) (h0 : Heap) (n0 : Nat) (v : Option Value) (h : Heap) (L : List Loc) : Prop := v = some (.int (f17_03 p4 ts)) ∧ Fr n0 L ∧ h = h0
theorem ef17_03 (m : MethodId) (x0 : Addr) (x3 : Int32) : entryFrame m #[(.ref x0), (.int (0 : Int32)), (.int (3 : Int32)), (.int x3)] 8 = mkF m 0 #[.val (.ref x0), .val (.int (0 : Int32)), .val (.int (3 : Int32)), .val (.int x3), .unset, .unset, .unset, .unset] [] := by first | (simp [entryFrame, mkF, argsToLocals, Value.category]; done) | rfl
theorem rm17_03 (l : Launch) (Z : State) (a0 : Array Value) (hw : HW a0 Z) (ws : List Jvm.Cond) (a1 : Addr) (p4 : Int32) (k_t : ClassId) (ts : List Int32) (w_n : Int32) (h0 : Heap) (n0 : Nat) (Z0 : n0 ≤ h0.size) (V_t : Arv Z h0 a1 k_t .int w_n (List.map Value.int ts) (.int (0 : Int32))) (hnn : ¬ w_n < (3 : Int32)) :
  MetFree l (⟨"java/util/Arrays", "binarySearch0", "([IIII)I"⟩ : MethodName) (head1 (Jvm.Cond.code (⟨"java/util/Arrays", "binarySearch0", "([IIII)I"⟩ : MethodName) cB17 8 (some .int) :: ws) (Rm 0 0 0 0)) (Pr Z h0 #[(.ref a1), (.int (0 : Int32)), (.int (3 : Int32)), (.int p4)]) Tr (fun _ U o U' => ∃ v L, o = .returned v ∧ Q17_03 Z a1 p4 k_t ts w_n h0 n0 v U'.heap L ∧ FrameEnd U o U' L (Rm 0 0 0 0).cells (Rm 0 0 0 0).slots) := by
 refine MetFree.of_bodySF (plainFor_of_name pn2) hisR ?_
 intro p e s m args below meth c s₁ Bd hml0 hP hK
 obtain ⟨rfl, hZ, hh⟩ := hP
 have hx := Bd.exec
 have hby := Bd.bytes
 have hml : c.maxLocals = 8 := hml0
 have hown : s.vm.findClass "java/util/Arrays" = some m.cls := findClass_of_methodNamed Bd.named
 have hnm := (name_of_methodNamed Bd.named Bd.method).1
 have X0 : Stand p l e (Rm 0 0 0 0) s m #[(.ref a1), (.int (0 : Int32)), (.int (3 : Int32)), (.int p4)] below meth c s₁ [] 0 0 := Stand.of_body Bd
 have e0 : s₁.heap = h0 := by rw [← hh, Bd.state]; rfl
 have N0 := Fr.nil n0
 have K0 : Keep h0 h0 [] := Keep.refl h0 _
 refine G (P := fun o U' => ∃ v L, o = .returned v ∧ Q17_03 Z a1 p4 k_t ts w_n h0 n0 v U'.heap L ∧ FrameEnd s o U' L (Rm 0 0 0 0).cells (Rm 0 0 0 0).slots) (fun t k => castTop (ef17_03 m a1 p4) k) ?_
 show Go _ _ _ (s₁.setTop (mkF m 0 #[vr a1, vi 0, vi 3, vi p4, us, us, us, us] [])) _
 refine G (fun t k => XS.iloadN X0.here hx rfl (hb hby d17_0) rfl (XS.istore X0.here hx rfl (hb hby d17_1) rfl (l' := #[vr a1, vi 0, vi 3, vi p4, vi 0, us, us, us]) rfl (XS.iloadN X0.here hx rfl (hb hby d17_3) rfl (XS.iconst X0.here hx rfl (hb hby d17_4) (XS.isub X0.here hx rfl (hb hby d17_5) rfl (XS.istore X0.here hx rfl (hb hby d17_6) rfl (l' := #[vr a1, vi 0, vi 3, vi p4, vi 0, vi 2, us, us]) rfl k)))))) ?_
 refine G (fun t k => XS.iload X0.here hx rfl (hb hby d17_8) rfl k) ?_
 show Go _ _ _ (s₁.setTop (mkF m 10 #[vr a1, vi 0, vi 3, vi p4, vi 0, vi 2, us, us] [(.int 0)])) _
 refine G (fun t k => XS.iload X0.here hx rfl (hb hby d17_10) rfl (XS.icmpNo X0.here hx rfl (hb hby d17_12) rfl (flt (by decide : ¬ ((2 : Int32) < (0 : Int32)))).2.2.1 (XS.iload X0.here hx rfl (hb hby d17_15) rfl (XS.iload X0.here hx rfl (hb hby d17_17) rfl (XS.iadd X0.here hx rfl (hb hby d17_19) rfl (XS.iconst X0.here hx rfl (hb hby d17_20) k)))))) ?_
 refine G (fun t k => XS.iushr X0.here hx rfl (hb hby d17_21) rfl k) ?_
 show Go _ _ _ (s₁.setTop (mkF m 22 #[vr a1, vi 0, vi 3, vi p4, vi 0, vi 2, us, us] [(.int (((2 : Int32).toUInt32 >>> ((1 : Int32) &&& 31).toUInt32).toInt32))])) _
 refine Go.fr (g' := (mkF m 22 #[vr a1, vi 0, vi 3, vi p4, vi 0, vi 2, us, us] [(.int 1)])) (by rw [show (((2 : Int32).toUInt32 >>> ((1 : Int32) &&& 31).toUInt32).toInt32) = (1 : Int32) from by decide]) ?_
 show Go _ _ _ (s₁.setTop (mkF m 22 #[vr a1, vi 0, vi 3, vi p4, vi 0, vi 2, us, us] [(.int 1)])) _
 refine G (fun t k => XS.istore X0.here hx rfl (hb hby d17_22) rfl (l' := #[vr a1, vi 0, vi 3, vi p4, vi 0, vi 2, vi 1, us]) rfl (XS.aloadN X0.here hx rfl (hb hby d17_24) rfl rfl (XS.iload X0.here hx rfl (hb hby d17_25) rfl k))) ?_
 obtain ⟨cl1, Ar1, -, Sz1, Ng1, Hs1, -⟩ := id V_t
 have hin1 := inb_of (j := (1 : Int32)) (c := cl1) Sz1 ⟨by decide, own_ltl (1 : Int32) (3 : Int32) _ (by decide) hnn⟩
 refine G (fun t k => X0.iaload hx (j := (1 : Int32)) (v := (.int (own_at ts (1 : Int32)))) (by rw [e0]; exact Ar1.1) (State.isArrayOf_alike hZ.alike Ar1.2.1) Ar1.2.2 hin1 (Has.at Hs1 hin1 (own_atv ts (1 : Int32))) (g := (mkF m 27 #[vr a1, vi 0, vi 3, vi p4, vi 0, vi 2, vi 1, us] [(.int 1), (.ref a1)])) rfl rfl (hb hby d17_27) _ k) ?_
 clear hin1 Hs1 Ng1 Sz1 Ar1 cl1
 refine G (fun t k => XS.istore X0.here hx rfl (hb hby d17_28) rfl (l' := #[vr a1, vi 0, vi 3, vi p4, vi 0, vi 2, vi 1, vi (own_at ts (1 : Int32))]) rfl (XS.iload X0.here hx rfl (hb hby d17_30) rfl (XS.iloadN X0.here hx rfl (hb hby d17_32) rfl k))) ?_
 show Go _ _ _ (s₁.setTop (mkF m 33 #[vr a1, vi 0, vi 3, vi p4, vi 0, vi 2, vi 1, vi (own_at ts (1 : Int32))] [(.int p4), (.int (own_at ts (1 : Int32)))])) _
 by_cases hc2 : (own_at ts (1 : Int32)) < p4
 ·refine G (fun t k => XS.icmpNo X0.here hx rfl (hb hby d17_33) rfl (tlt hc2).2.1 (XS.iload X0.here hx rfl (hb hby d17_36) rfl (XS.iconst X0.here hx rfl (hb hby d17_38) (XS.iadd X0.here hx rfl (hb hby d17_39) rfl (XS.istore X0.here hx rfl (hb hby d17_40) rfl (l' := #[vr a1, vi 0, vi 3, vi p4, vi 2, vi 2, vi 1, vi (own_at ts (1 : Int32))]) rfl (XS.goto X0.here hx rfl (pc0 := 42) (pc' := 63) rfl (hb hby d17_42) (by decide) (by decide) k)))))) ?_
  refine G (fun t k => XS.goto X0.here hx rfl (pc0 := 63) (pc' := 8) rfl (hb hby d17_63) (by decide) (by decide) k) ?_
  show Go _ _ _ (s₁.setTop (mkF m 8 #[vr a1, vi 0, vi 3, vi p4, vi 2, vi 2, vi 1, vi (own_at ts (1 : Int32))] [])) _
  refine G (fun t k => XS.iload X0.here hx rfl (hb hby d17_8) rfl (XS.iload X0.here hx rfl (hb hby d17_10) rfl (XS.icmpNo X0.here hx rfl (hb hby d17_12) rfl (flt (by decide : ¬ ((2 : Int32) < (2 : Int32)))).2.2.1 (XS.iload X0.here hx rfl (hb hby d17_15) rfl (XS.iload X0.here hx rfl (hb hby d17_17) rfl (XS.iadd X0.here hx rfl (hb hby d17_19) rfl k)))))) ?_
  refine G (fun t k => XS.iconst X0.here hx rfl (hb hby d17_20) k) ?_
  show Go _ _ _ (s₁.setTop (mkF m 21 #[vr a1, vi 0, vi 3, vi p4, vi 2, vi 2, vi 1, vi (own_at ts (1 : Int32))] [(.int 1), (.int 4)])) _
  refine G (fun t k => XS.iushr X0.here hx rfl (hb hby d17_21) rfl k) ?_
  show Go _ _ _ (s₁.setTop (mkF m 22 #[vr a1, vi 0, vi 3, vi p4, vi 2, vi 2, vi 1, vi (own_at ts (1 : Int32))] [(.int (((4 : Int32).toUInt32 >>> ((1 : Int32) &&& 31).toUInt32).toInt32))])) _
  refine Go.fr (g' := (mkF m 22 #[vr a1, vi 0, vi 3, vi p4, vi 2, vi 2, vi 1, vi (own_at ts (1 : Int32))] [(.int 2)])) (by rw [show (((4 : Int32).toUInt32 >>> ((1 : Int32) &&& 31).toUInt32).toInt32) = (2 : Int32) from by decide]) ?_
  show Go _ _ _ (s₁.setTop (mkF m 22 #[vr a1, vi 0, vi 3, vi p4, vi 2, vi 2, vi 1, vi (own_at ts (1 : Int32))] [(.int 2)])) _
  refine G (fun t k => XS.istore X0.here hx rfl (hb hby d17_22) rfl (l' := #[vr a1, vi 0, vi 3, vi p4, vi 2, vi 2, vi 2, vi (own_at ts (1 : Int32))]) rfl (XS.aloadN X0.here hx rfl (hb hby d17_24) rfl rfl (XS.iload X0.here hx rfl (hb hby d17_25) rfl k))) ?_
  obtain ⟨cl3, Ar3, -, Sz3, Ng3, Hs3, -⟩ := id V_t
  have hin3 := inb_of (j := (2 : Int32)) (c := cl3) Sz3 ⟨by decide, own_ltl (2 : Int32) (3 : Int32) _ (by decide) hnn⟩
  refine G (fun t k => X0.iaload hx (j := (2 : Int32)) (v := (.int (own_at ts (2 : Int32)))) (by rw [e0]; exact Ar3.1) (State.isArrayOf_alike hZ.alike Ar3.2.1) Ar3.2.2 hin3 (Has.at Hs3 hin3 (own_atv ts (2 : Int32))) (g := (mkF m 27 #[vr a1, vi 0, vi 3, vi p4, vi 2, vi 2, vi 2, vi (own_at ts (1 : Int32))] [(.int 2), (.ref a1)])) rfl rfl (hb hby d17_27) _ k) ?_
  clear hin3 Hs3 Ng3 Sz3 Ar3 cl3
  refine G (fun t k => XS.istore X0.here hx rfl (hb hby d17_28) rfl (l' := #[vr a1, vi 0, vi 3, vi p4, vi 2, vi 2, vi 2, vi (own_at ts (2 : Int32))]) rfl (XS.iload X0.here hx rfl (hb hby d17_30) rfl (XS.iloadN X0.here hx rfl (hb hby d17_32) rfl k))) ?_
  show Go _ _ _ (s₁.setTop (mkF m 33 #[vr a1, vi 0, vi 3, vi p4, vi 2, vi 2, vi 2, vi (own_at ts (2 : Int32))] [(.int p4), (.int (own_at ts (2 : Int32)))])) _
  by_cases hc4 : (own_at ts (2 : Int32)) < p4
  ·refine G (fun t k => XS.icmpNo X0.here hx rfl (hb hby d17_33) rfl (tlt hc4).2.1 (XS.iload X0.here hx rfl (hb hby d17_36) rfl (XS.iconst X0.here hx rfl (hb hby d17_38) (XS.iadd X0.here hx rfl (hb hby d17_39) rfl (XS.istore X0.here hx rfl (hb hby d17_40) rfl (l' := #[vr a1, vi 0, vi 3, vi p4, vi 3, vi 2, vi 2, vi (own_at ts (2 : Int32))]) rfl (XS.goto X0.here hx rfl (pc0 := 42) (pc' := 63) rfl (hb hby d17_42) (by decide) (by decide) k)))))) ?_
   refine G (fun t k => XS.goto X0.here hx rfl (pc0 := 63) (pc' := 8) rfl (hb hby d17_63) (by decide) (by decide) k) ?_
   show Go _ _ _ (s₁.setTop (mkF m 8 #[vr a1, vi 0, vi 3, vi p4, vi 3, vi 2, vi 2, vi (own_at ts (2 : Int32))] [])) _
   refine G (fun t k => XS.iload X0.here hx rfl (hb hby d17_8) rfl (XS.iload X0.here hx rfl (hb hby d17_10) rfl (XS.icmpYes X0.here hx rfl (pc0 := 12) (pc' := 66) rfl (hb hby d17_12) rfl (tlt (by decide : (2 : Int32) < (3 : Int32))).2.2.1 (by decide) (by decide) (XS.iload X0.here hx rfl (hb hby d17_66) rfl (XS.iconst X0.here hx rfl (hb hby d17_68) (XS.iadd X0.here hx rfl (hb hby d17_69) rfl k)))))) ?_
   refine G (fun t k => XS.ineg X0.here hx rfl (hb hby d17_70) rfl k) ?_
   show Go _ _ _ (s₁.setTop (mkF m 71 #[vr a1, vi 0, vi 3, vi p4, vi 3, vi 2, vi 2, vi (own_at ts (2 : Int32))] [(.int (-4))])) _
   obtain ⟨fs, hr, hrun, hended, hW, hsame⟩ := X0.leave (v := some (.int (-4 : Int32))) (fun h => by rw [Bd.returns] at h; cases h)
   refine Go.fin (retOut X0 hx Bd.returns rfl (Or.inl ⟨rfl, Or.inl rfl, _, rfl⟩) (hb hby d17_71) hr) hrun hended ⟨_, _, rfl, ?_, ⟨_, rfl⟩, hW, hsame.mono (by decide) (by decide)⟩
   show Q17_03 Z a1 p4 k_t ts w_n h0 n0 _ s₁.heap _
   rw [e0]
   exact ⟨(by unfold f17_03; simp only [if_pos hc2, if_pos hc4]), N0, rfl⟩
  ·refine G (fun t k => XS.icmpYes X0.here hx rfl (pc0 := 33) (pc' := 45) rfl (hb hby d17_33) rfl (flt hc4).2.1 (by decide) (by decide) (XS.iload X0.here hx rfl (hb hby d17_45) rfl (XS.iloadN X0.here hx rfl (hb hby d17_47) rfl k))) ?_
   by_cases hc5 : p4 < (own_at ts (2 : Int32))
   ·refine G (fun t k => XS.icmpNo X0.here hx rfl (hb hby d17_48) rfl (tlt hc5).2.2.2 (XS.iload X0.here hx rfl (hb hby d17_51) rfl (XS.iconst X0.here hx rfl (hb hby d17_53) (XS.isub X0.here hx rfl (hb hby d17_54) rfl k)))) ?_
    show Go _ _ _ (s₁.setTop (mkF m 55 #[vr a1, vi 0, vi 3, vi p4, vi 2, vi 2, vi 2, vi (own_at ts (2 : Int32))] [(.int 1)])) _
    refine G (fun t k => XS.istore X0.here hx rfl (hb hby d17_55) rfl (l' := #[vr a1, vi 0, vi 3, vi p4, vi 2, vi 1, vi 2, vi (own_at ts (2 : Int32))]) rfl (XS.goto X0.here hx rfl (pc0 := 57) (pc' := 63) rfl (hb hby d17_57) (by decide) (by decide) (XS.goto X0.here hx rfl (pc0 := 63) (pc' := 8) rfl (hb hby d17_63) (by decide) (by decide) (XS.iload X0.here hx rfl (hb hby d17_8) rfl (XS.iload X0.here hx rfl (hb hby d17_10) rfl (XS.icmpYes X0.here hx rfl (pc0 := 12) (pc' := 66) rfl (hb hby d17_12) rfl (tlt (by decide : (1 : Int32) < (2 : Int32))).2.2.1 (by decide) (by decide) k)))))) ?_
    refine G (fun t k => XS.iload X0.here hx rfl (hb hby d17_66) rfl k) ?_
    show Go _ _ _ (s₁.setTop (mkF m 68 #[vr a1, vi 0, vi 3, vi p4, vi 2, vi 1, vi 2, vi (own_at ts (2 : Int32))] [(.int 2)])) _
    refine G (fun t k => XS.iconst X0.here hx rfl (hb hby d17_68) (XS.iadd X0.here hx rfl (hb hby d17_69) rfl (XS.ineg X0.here hx rfl (hb hby d17_70) rfl k))) ?_
    obtain ⟨fs, hr, hrun, hended, hW, hsame⟩ := X0.leave (v := some (.int (-3 : Int32))) (fun h => by rw [Bd.returns] at h; cases h)
    refine Go.fin (retOut X0 hx Bd.returns rfl (Or.inl ⟨rfl, Or.inl rfl, _, rfl⟩) (hb hby d17_71) hr) hrun hended ⟨_, _, rfl, ?_, ⟨_, rfl⟩, hW, hsame.mono (by decide) (by decide)⟩
    show Q17_03 Z a1 p4 k_t ts w_n h0 n0 _ s₁.heap _
    rw [e0]
    exact ⟨(by unfold f17_03; simp only [if_pos hc2, if_neg hc4, if_pos hc5]), N0, rfl⟩
   ·refine G (fun t k => XS.icmpYes X0.here hx rfl (pc0 := 48) (pc' := 60) rfl (hb hby d17_48) rfl (flt hc5).2.2.2 (by decide) (by decide) (XS.iload X0.here hx rfl (hb hby d17_60) rfl k)) ?_
    obtain ⟨fs, hr, hrun, hended, hW, hsame⟩ := X0.leave (v := some (.int (2 : Int32))) (fun h => by rw [Bd.returns] at h; cases h)
    refine Go.fin (retOut X0 hx Bd.returns rfl (Or.inl ⟨rfl, Or.inl rfl, _, rfl⟩) (hb hby d17_62) hr) hrun hended ⟨_, _, rfl, ?_, ⟨_, rfl⟩, hW, hsame.mono (by decide) (by decide)⟩
    show Q17_03 Z a1 p4 k_t ts w_n h0 n0 _ s₁.heap _
    rw [e0]
    exact ⟨(by unfold f17_03; simp only [if_pos hc2, if_neg hc4, if_neg hc5]), N0, rfl⟩
 ·refine G (fun t k => XS.icmpYes X0.here hx rfl (pc0 := 33) (pc' := 45) rfl (hb hby d17_33) rfl (flt hc2).2.1 (by decide) (by decide) (XS.iload X0.here hx rfl (hb hby d17_45) rfl (XS.iloadN X0.here hx rfl (hb hby d17_47) rfl k))) ?_
  by_cases hc6 : p4 < (own_at ts (1 : Int32))
  ·refine G (fun t k => XS.icmpNo X0.here hx rfl (hb hby d17_48) rfl (tlt hc6).2.2.2 (XS.iload X0.here hx rfl (hb hby d17_51) rfl (XS.iconst X0.here hx rfl (hb hby d17_53) (XS.isub X0.here hx rfl (hb hby d17_54) rfl k)))) ?_
   show Go _ _ _ (s₁.setTop (mkF m 55 #[vr a1, vi 0, vi 3, vi p4, vi 0, vi 2, vi 1, vi (own_at ts (1 : Int32))] [(.int 0)])) _
   refine G (fun t k => XS.istore X0.here hx rfl (hb hby d17_55) rfl (l' := #[vr a1, vi 0, vi 3, vi p4, vi 0, vi 0, vi 1, vi (own_at ts (1 : Int32))]) rfl (XS.goto X0.here hx rfl (pc0 := 57) (pc' := 63) rfl (hb hby d17_57) (by decide) (by decide) (XS.goto X0.here hx rfl (pc0 := 63) (pc' := 8) rfl (hb hby d17_63) (by decide) (by decide) (XS.iload X0.here hx rfl (hb hby d17_8) rfl (XS.iload X0.here hx rfl (hb hby d17_10) rfl (XS.icmpNo X0.here hx rfl (hb hby d17_12) rfl (flt (by decide : ¬ ((0 : Int32) < (0 : Int32)))).2.2.1 k)))))) ?_
   refine G (fun t k => XS.iload X0.here hx rfl (hb hby d17_15) rfl k) ?_
   show Go _ _ _ (s₁.setTop (mkF m 17 #[vr a1, vi 0, vi 3, vi p4, vi 0, vi 0, vi 1, vi (own_at ts (1 : Int32))] [(.int 0)])) _
   refine G (fun t k => XS.iload X0.here hx rfl (hb hby d17_17) rfl (XS.iadd X0.here hx rfl (hb hby d17_19) rfl (XS.iconst X0.here hx rfl (hb hby d17_20) (XS.iushr X0.here hx rfl (hb hby d17_21) rfl k)))) ?_
   show Go _ _ _ (s₁.setTop (mkF m 22 #[vr a1, vi 0, vi 3, vi p4, vi 0, vi 0, vi 1, vi (own_at ts (1 : Int32))] [(.int (((0 : Int32).toUInt32 >>> ((1 : Int32) &&& 31).toUInt32).toInt32))])) _
   refine Go.fr (g' := (mkF m 22 #[vr a1, vi 0, vi 3, vi p4, vi 0, vi 0, vi 1, vi (own_at ts (1 : Int32))] [(.int 0)])) (by rw [show (((0 : Int32).toUInt32 >>> ((1 : Int32) &&& 31).toUInt32).toInt32) = (0 : Int32) from by decide]) ?_
   show Go _ _ _ (s₁.setTop (mkF m 22 #[vr a1, vi 0, vi 3, vi p4, vi 0, vi 0, vi 1, vi (own_at ts (1 : Int32))] [(.int 0)])) _
   refine G (fun t k => XS.istore X0.here hx rfl (hb hby d17_22) rfl (l' := #[vr a1, vi 0, vi 3, vi p4, vi 0, vi 0, vi 0, vi (own_at ts (1 : Int32))]) rfl (XS.aloadN X0.here hx rfl (hb hby d17_24) rfl rfl (XS.iload X0.here hx rfl (hb hby d17_25) rfl k))) ?_
   obtain ⟨cl7, Ar7, -, Sz7, Ng7, Hs7, -⟩ := id V_t
   have hin7 := inb_of (j := (0 : Int32)) (c := cl7) Sz7 ⟨by decide, own_ltl (0 : Int32) (3 : Int32) _ (by decide) hnn⟩
   refine G (fun t k => X0.iaload hx (j := (0 : Int32)) (v := (.int (own_at ts (0 : Int32)))) (by rw [e0]; exact Ar7.1) (State.isArrayOf_alike hZ.alike Ar7.2.1) Ar7.2.2 hin7 (Has.at Hs7 hin7 (own_atv ts (0 : Int32))) (g := (mkF m 27 #[vr a1, vi 0, vi 3, vi p4, vi 0, vi 0, vi 0, vi (own_at ts (1 : Int32))] [(.int 0), (.ref a1)])) rfl rfl (hb hby d17_27) _ k) ?_
   clear hin7 Hs7 Ng7 Sz7 Ar7 cl7
   refine G (fun t k => XS.istore X0.here hx rfl (hb hby d17_28) rfl (l' := #[vr a1, vi 0, vi 3, vi p4, vi 0, vi 0, vi 0, vi (own_at ts (0 : Int32))]) rfl (XS.iload X0.here hx rfl (hb hby d17_30) rfl (XS.iloadN X0.here hx rfl (hb hby d17_32) rfl k))) ?_
   show Go _ _ _ (s₁.setTop (mkF m 33 #[vr a1, vi 0, vi 3, vi p4, vi 0, vi 0, vi 0, vi (own_at ts (0 : Int32))] [(.int p4), (.int (own_at ts (0 : Int32)))])) _
   by_cases hc8 : (own_at ts (0 : Int32)) < p4
   ·refine G (fun t k => XS.icmpNo X0.here hx rfl (hb hby d17_33) rfl (tlt hc8).2.1 (XS.iload X0.here hx rfl (hb hby d17_36) rfl (XS.iconst X0.here hx rfl (hb hby d17_38) (XS.iadd X0.here hx rfl (hb hby d17_39) rfl (XS.istore X0.here hx rfl (hb hby d17_40) rfl (l' := #[vr a1, vi 0, vi 3, vi p4, vi 1, vi 0, vi 0, vi (own_at ts (0 : Int32))]) rfl (XS.goto X0.here hx rfl (pc0 := 42) (pc' := 63) rfl (hb hby d17_42) (by decide) (by decide) k)))))) ?_
    refine G (fun t k => XS.goto X0.here hx rfl (pc0 := 63) (pc' := 8) rfl (hb hby d17_63) (by decide) (by decide) k) ?_
    show Go _ _ _ (s₁.setTop (mkF m 8 #[vr a1, vi 0, vi 3, vi p4, vi 1, vi 0, vi 0, vi (own_at ts (0 : Int32))] [])) _
    refine G (fun t k => XS.iload X0.here hx rfl (hb hby d17_8) rfl (XS.iload X0.here hx rfl (hb hby d17_10) rfl (XS.icmpYes X0.here hx rfl (pc0 := 12) (pc' := 66) rfl (hb hby d17_12) rfl (tlt (by decide : (0 : Int32) < (1 : Int32))).2.2.1 (by decide) (by decide) (XS.iload X0.here hx rfl (hb hby d17_66) rfl (XS.iconst X0.here hx rfl (hb hby d17_68) (XS.iadd X0.here hx rfl (hb hby d17_69) rfl k)))))) ?_
    refine G (fun t k => XS.ineg X0.here hx rfl (hb hby d17_70) rfl k) ?_
    show Go _ _ _ (s₁.setTop (mkF m 71 #[vr a1, vi 0, vi 3, vi p4, vi 1, vi 0, vi 0, vi (own_at ts (0 : Int32))] [(.int (-2))])) _
    obtain ⟨fs, hr, hrun, hended, hW, hsame⟩ := X0.leave (v := some (.int (-2 : Int32))) (fun h => by rw [Bd.returns] at h; cases h)
    refine Go.fin (retOut X0 hx Bd.returns rfl (Or.inl ⟨rfl, Or.inl rfl, _, rfl⟩) (hb hby d17_71) hr) hrun hended ⟨_, _, rfl, ?_, ⟨_, rfl⟩, hW, hsame.mono (by decide) (by decide)⟩
    show Q17_03 Z a1 p4 k_t ts w_n h0 n0 _ s₁.heap _
    rw [e0]
    exact ⟨(by unfold f17_03; simp only [if_neg hc2, if_pos hc6, if_pos hc8]), N0, rfl⟩
   ·refine G (fun t k => XS.icmpYes X0.here hx rfl (pc0 := 33) (pc' := 45) rfl (hb hby d17_33) rfl (flt hc8).2.1 (by decide) (by decide) (XS.iload X0.here hx rfl (hb hby d17_45) rfl (XS.iloadN X0.here hx rfl (hb hby d17_47) rfl k))) ?_
    by_cases hc9 : p4 < (own_at ts (0 : Int32))
    ·refine G (fun t k => XS.icmpNo X0.here hx rfl (hb hby d17_48) rfl (tlt hc9).2.2.2 (XS.iload X0.here hx rfl (hb hby d17_51) rfl (XS.iconst X0.here hx rfl (hb hby d17_53) (XS.isub X0.here hx rfl (hb hby d17_54) rfl k)))) ?_
     show Go _ _ _ (s₁.setTop (mkF m 55 #[vr a1, vi 0, vi 3, vi p4, vi 0, vi 0, vi 0, vi (own_at ts (0 : Int32))] [(.int (-1))])) _
     refine G (fun t k => XS.istore X0.here hx rfl (hb hby d17_55) rfl (l' := #[vr a1, vi 0, vi 3, vi p4, vi 0, vi (-1), vi 0, vi (own_at ts (0 : Int32))]) rfl (XS.goto X0.here hx rfl (pc0 := 57) (pc' := 63) rfl (hb hby d17_57) (by decide) (by decide) (XS.goto X0.here hx rfl (pc0 := 63) (pc' := 8) rfl (hb hby d17_63) (by decide) (by decide) (XS.iload X0.here hx rfl (hb hby d17_8) rfl (XS.iload X0.here hx rfl (hb hby d17_10) rfl (XS.icmpYes X0.here hx rfl (pc0 := 12) (pc' := 66) rfl (hb hby d17_12) rfl (tlt (by decide : (-1 : Int32) < (0 : Int32))).2.2.1 (by decide) (by decide) k)))))) ?_
     refine G (fun t k => XS.iload X0.here hx rfl (hb hby d17_66) rfl k) ?_
     show Go _ _ _ (s₁.setTop (mkF m 68 #[vr a1, vi 0, vi 3, vi p4, vi 0, vi (-1), vi 0, vi (own_at ts (0 : Int32))] [(.int 0)])) _
     refine G (fun t k => XS.iconst X0.here hx rfl (hb hby d17_68) (XS.iadd X0.here hx rfl (hb hby d17_69) rfl (XS.ineg X0.here hx rfl (hb hby d17_70) rfl k))) ?_
     obtain ⟨fs, hr, hrun, hended, hW, hsame⟩ := X0.leave (v := some (.int (-1 : Int32))) (fun h => by rw [Bd.returns] at h; cases h)
     refine Go.fin (retOut X0 hx Bd.returns rfl (Or.inl ⟨rfl, Or.inl rfl, _, rfl⟩) (hb hby d17_71) hr) hrun hended ⟨_, _, rfl, ?_, ⟨_, rfl⟩, hW, hsame.mono (by decide) (by decide)⟩
     show Q17_03 Z a1 p4 k_t ts w_n h0 n0 _ s₁.heap _
     rw [e0]
     exact ⟨(by unfold f17_03; simp only [if_neg hc2, if_pos hc6, if_neg hc8, if_pos hc9]), N0, rfl⟩
    ·refine G (fun t k => XS.icmpYes X0.here hx rfl (pc0 := 48) (pc' := 60) rfl (hb hby d17_48) rfl (flt hc9).2.2.2 (by decide) (by decide) (XS.iload X0.here hx rfl (hb hby d17_60) rfl k)) ?_
     obtain ⟨fs, hr, hrun, hended, hW, hsame⟩ := X0.leave (v := some (.int (0 : Int32))) (fun h => by rw [Bd.returns] at h; cases h)
     refine Go.fin (retOut X0 hx Bd.returns rfl (Or.inl ⟨rfl, Or.inl rfl, _, rfl⟩) (hb hby d17_62) hr) hrun hended ⟨_, _, rfl, ?_, ⟨_, rfl⟩, hW, hsame.mono (by decide) (by decide)⟩
     show Q17_03 Z a1 p4 k_t ts w_n h0 n0 _ s₁.heap _
     rw [e0]
     exact ⟨(by unfold f17_03; simp only [if_neg hc2, if_pos hc6, if_neg hc8, if_neg hc9]), N0, rfl⟩
  ·refine G (fun t k => XS.icmpYes X0.here hx rfl (pc0 := 48) (pc' := 60) rfl (hb hby d17_48) rfl (flt hc6).2.2.2 (by decide) (by decide) (XS.iload X0.here hx rfl (hb hby d17_60) rfl k)) ?_
   obtain ⟨fs, hr, hrun, hended, hW, hsame⟩ := X0.leave (v := some (.int (1 : Int32))) (fun h => by rw [Bd.returns] at h; cases h)
   refine Go.fin (retOut X0 hx Bd.returns rfl (Or.inl ⟨rfl, Or.inl rfl, _, rfl⟩) (hb hby d17_62) hr) hrun hended ⟨_, _, rfl, ?_, ⟨_, rfl⟩, hW, hsame.mono (by decide) (by decide)⟩
   show Q17_03 Z a1 p4 k_t ts w_n h0 n0 _ s₁.heap _
   rw [e0]
   exact ⟨(by unfold f17_03; simp only [if_neg hc2, if_neg hc6]), N0, rfl⟩
def Q15_03 (Z : State) (a1 : Addr) (p4 : Int32) (k_t : ClassId) (ts : List Int32) (w_n : Int32) (h0 : Heap) (n0 : Nat) (v : Option Value) (h : Heap) (L : List Loc) : Prop := v = some (.int (f17_03 p4 ts)) ∧ Fr n0 L ∧ h = h0
theorem ef15_03 (m : MethodId) (x0 : Addr) (x3 : Int32) : entryFrame m #[(.ref x0), (.int (0 : Int32)), (.int (3 : Int32)), (.int x3)] 4 = mkF m 0 #[.val (.ref x0), .val (.int (0 : Int32)), .val (.int (3 : Int32)), .val (.int x3)] [] := by first | (simp [entryFrame, mkF, argsToLocals, Value.category]; done) | rfl
theorem rm15_03 (l : Launch) (Z : State) (a0 : Array Value) (hw : HW a0 Z) (ws : List Jvm.Cond) (a1 : Addr) (p4 : Int32) (k_t : ClassId) (ts : List Int32) (w_n : Int32) (h0 : Heap) (n0 : Nat) (Z0 : n0 ≤ h0.size) (V_t : Arv Z h0 a1 k_t .int w_n (List.map Value.int ts) (.int (0 : Int32))) (hnn : ¬ w_n < (3 : Int32)) :
  MetFree l (⟨"java/util/Arrays", "binarySearch", "([IIII)I"⟩ : MethodName) (head1 (Jvm.Cond.code (⟨"java/util/Arrays", "binarySearch", "([IIII)I"⟩ : MethodName) cB15 4 (some .int) :: ws) (Rm 1 0 0 19)) (Pr Z h0 #[(.ref a1), (.int (0 : Int32)), (.int (3 : Int32)), (.int p4)]) Tr (fun _ U o U' => ∃ v L, o = .returned v ∧ Q15_03 Z a1 p4 k_t ts w_n h0 n0 v U'.heap L ∧ FrameEnd U o U' L (Rm 1 0 0 19).cells (Rm 1 0 0 19).slots) := by
 refine MetFree.of_bodySF (plainFor_of_name pn2) hisR ?_
 intro p e s m args below meth c s₁ Bd hml0 hP hK
 obtain ⟨rfl, hZ, hh⟩ := hP
 have hx := Bd.exec
 have hby := Bd.bytes
 have hml : c.maxLocals = 4 := hml0
 have hown : s.vm.findClass "java/util/Arrays" = some m.cls := findClass_of_methodNamed Bd.named
 have hnm := (name_of_methodNamed Bd.named Bd.method).1
 have X0 : Stand p l e (Rm 1 0 0 19) s m #[(.ref a1), (.int (0 : Int32)), (.int (3 : Int32)), (.int p4)] below meth c s₁ [] 0 0 := Stand.of_body Bd
 have e0 : s₁.heap = h0 := by rw [← hh, Bd.state]; rfl
 have N0 := Fr.nil n0
 have K0 : Keep h0 h0 [] := Keep.refl h0 _
 refine G (P := fun o U' => ∃ v L, o = .returned v ∧ Q15_03 Z a1 p4 k_t ts w_n h0 n0 v U'.heap L ∧ FrameEnd s o U' L (Rm 1 0 0 19).cells (Rm 1 0 0 19).slots) (fun t k => castTop (ef15_03 m a1 p4) k) ?_
 show Go _ _ _ (s₁.setTop (mkF m 0 #[vr a1, vi 0, vi 3, vi p4] [])) _
 refine G (fun t k => XS.aloadN X0.here hx rfl (hb hby d15_0) rfl rfl k) ?_
 obtain ⟨cl1, Ar1, -, Sz1, Ng1, -, -⟩ := id V_t
 refine G (fun t k => X0.arraylength hx (by rw [e0]; exact Ar1.1) (State.isArrayOf_alike hZ.alike Ar1.2.1) (g := (mkF m 1 #[vr a1, vi 0, vi 3, vi p4] [(.ref a1)])) rfl rfl (hb hby d15_1) _ k) ?_
 rw [len_of Sz1 Ng1]
 clear Ng1 Sz1 Ar1 cl1
 refine G (fun t k => XS.iloadN X0.here hx rfl (hb hby d15_2) rfl (XS.iloadN X0.here hx rfl (hb hby d15_3) rfl k)) ?_
 obtain ⟨_, _, ⟨T2, L2, k2, n2⟩, -, X2, ⟨Lc2, hQ2, l2, y2, z2⟩, st2⟩ := Jvm.LawKit.callS X0 hx (y := (⟨"java/util/Arrays", "rangeCheck", "(III)V"⟩ : MethodName)) hown (mvT hZ (wd88 hw)) (mvT hZ (wd89 hw)) (mvT hZ (wd31 hw)) (mvT hZ (wd90 hw)) (by decide) (backOf (W := 0) (rm16 l Z a0 hw [] w_n (0 : Int32) (3 : Int32) h0 n0 Z0 (by decide) (by decide) hnn) hZ (wd90 hw) (wd31 hw) (by decide) (by decide)) (g := (mkF m 4 #[vr a1, vi 0, vi 3, vi p4] [(.int 3), (.int 0), (.int w_n)])) rfl (by rw [hml]; rfl) (argsL := [(.int w_n), (.int (0 : Int32)), (.int (3 : Int32))]) (rest := []) (lenOf pd8 rfl) rfl (by show 2 * 0 + _ ≤ _; exact Nat.le_of_eq rfl) (hb hby d15_4) (fun _ _ => ⟨rfl, e0, (by decide : 0 + 0 ≤ _), (by decide : 0 + 0 ≤ _)⟩)
 dsimp only [Pt.U, Pt.locs, Pt.cells, Pt.slots] at X2 l2 y2 z2 st2 hQ2
 subst l2 y2 z2
 refine G st2 ?_
 obtain ⟨rfl, N2q, e2⟩ := hQ2
 have N2 := Fr.app N0 N2q
 refine G (fun t k => XS.aloadN X2.here hx rfl (hb hby d15_7) rfl rfl (XS.iloadN X2.here hx rfl (hb hby d15_8) rfl k)) ?_
 show Go _ _ _ (T2.setTop (mkF m 9 #[vr a1, vi 0, vi 3, vi p4] [(.int 0), (.ref a1)])) _
 refine G (fun t k => XS.iloadN X2.here hx rfl (hb hby d15_9) rfl (XS.iloadN X2.here hx rfl (hb hby d15_10) rfl k)) ?_
 obtain ⟨_, _, ⟨T3, L3, k3, n3⟩, -, X3, ⟨Lc3, hQ3, l3, y3, z3⟩, st3⟩ := Jvm.LawKit.callS X2 hx (y := (⟨"java/util/Arrays", "binarySearch0", "([IIII)I"⟩ : MethodName)) hown (mvT hZ (wd91 hw)) (mvT hZ (wd92 hw)) (mvT hZ (wd31 hw)) (mvT hZ (wd93 hw)) (by decide) (backOf (W := 0) (rm17_03 l Z a0 hw [] a1 p4 k_t ts w_n h0 n0 Z0 V_t hnn) hZ (wd93 hw) (wd31 hw) (by decide) (by decide)) (g := (mkF m 11 #[vr a1, vi 0, vi 3, vi p4] [(.int p4), (.int 3), (.int 0), (.ref a1)])) rfl (by rw [hml]; rfl) (argsL := [(.ref a1), (.int (0 : Int32)), (.int (3 : Int32)), (.int p4)]) (rest := []) (lenOf pd9 rfl) rfl (by show 2 * 0 + _ ≤ _; exact Nat.le_of_eq rfl) (hb hby d15_11) (fun _ _ => ⟨rfl, e2, (by decide : 0 + 0 ≤ _), (by decide : 0 + 0 ≤ _)⟩)
 dsimp only [Pt.U, Pt.locs, Pt.cells, Pt.slots] at X3 l3 y3 z3 st3 hQ3
 subst l3 y3 z3
 refine G st3 ?_
 obtain ⟨rfl, N3q, e3⟩ := hQ3
 have N3 := Fr.app N2 N3q
 obtain ⟨fs, hr, hrun, hended, hW, hsame⟩ := X3.leave (v := some (.int (f17_03 p4 ts))) (fun h => by rw [Bd.returns] at h; cases h)
 refine Go.fin (retOut X3 hx Bd.returns rfl (Or.inl ⟨rfl, Or.inl rfl, _, rfl⟩) (hb hby d15_14) hr) hrun hended ⟨_, _, rfl, ?_, ⟨_, rfl⟩, hW, hsame.mono (by decide) (by decide)⟩
 show Q15_03 Z a1 p4 k_t ts w_n h0 n0 _ T3.heap _
 rw [e3]
 exact ⟨rfl, N3, rfl⟩
def f14_03 (p3 : Int32) (ts : List Int32) : Int32 := (if (f17_03 p3 ts) < (0 : Int32) then (0 : Int32) else (1 : Int32))
def Q14_03 (Z : State) (a1 : Addr) (p2 : Int32) (p3 : Int32) (w_s : Addr) (k_s : ClassId) (X : List Int32) (w_t : Addr) (k_t : ClassId) (ts : List Int32) (w_n : Int32) (h0 : Heap) (n0 : Nat) (v : Option Value) (h : Heap) (L : List Loc) : Prop := v = some (.int (f14_03 p3 ts)) ∧ Fr n0 L ∧ h = h0
theorem ef14_03 (m : MethodId) (x0 : Addr) (x1 : Int32) (x2 : Int32) : entryFrame m #[(.ref x0), (.int x1), (.int x2)] 3 = mkF m 0 #[.val (.ref x0), .val (.int x1), .val (.int x2)] [] := by first | (simp [entryFrame, mkF, argsToLocals, Value.category]; done) | rfl
theorem rm14_03 (l : Launch) (Z : State) (a0 : Array Value) (hw : HW a0 Z) (ws : List Jvm.Cond) (a1 : Addr) (p2 : Int32) (p3 : Int32) (w_s : Addr) (k_s : ClassId) (X : List Int32) (w_t : Addr) (k_t : ClassId) (ts : List Int32) (w_n : Int32) (h0 : Heap) (n0 : Nat) (Z0 : n0 ≤ h0.size) (F_a1_a : Fld Z h0 a1 RC "start" "[I" (.ref w_s)) (V_s : Arv Z h0 w_s k_s .int (9 : Int32) (List.map Value.int X) (.int (0 : Int32))) (F_a1_t : Fld Z h0 a1 RC "targets" "[I" (.ref w_t)) (V_t : Arv Z h0 w_t k_t .int w_n (List.map Value.int ts) (.int (0 : Int32))) (hib : ¬ p2 < 0 ∧ p2 < (9 : Int32)) (hib1 : ¬ (p2 + (1 : Int32)) < 0 ∧ (p2 + (1 : Int32)) < (9 : Int32)) (hlo : own_at X p2 = (0 : Int32)) (hhi : own_at X (p2 + (1 : Int32)) = (3 : Int32)) (hnn : ¬ w_n < (3 : Int32)) :
  MetFree l (⟨RC, "contains", "(II)Z"⟩ : MethodName) (head1 (Jvm.Cond.code (⟨RC, "contains", "(II)Z"⟩ : MethodName) cB14 3 (some .boolean) :: ws) (Rm 2 0 0 34)) (Pr Z h0 #[(.ref a1), (.int p2), (.int p3)]) Tr (fun _ U o U' => ∃ v L, o = .returned v ∧ Q14_03 Z a1 p2 p3 w_s k_s X w_t k_t ts w_n h0 n0 v U'.heap L ∧ FrameEnd U o U' L (Rm 2 0 0 34).cells (Rm 2 0 0 34).slots) := by
 refine MetFree.of_bodySF (plainFor_of_name pn4) hisR ?_
 intro p e s m args below meth c s₁ Bd hml0 hP hK
 obtain ⟨rfl, hZ, hh⟩ := hP
 have hx := Bd.exec
 have hby := Bd.bytes
 have hml : c.maxLocals = 3 := hml0
 have hown : s.vm.findClass RC = some m.cls := findClass_of_methodNamed Bd.named
 have hnm := (name_of_methodNamed Bd.named Bd.method).1
 have X0 : Stand p l e (Rm 2 0 0 34) s m #[(.ref a1), (.int p2), (.int p3)] below meth c s₁ [] 0 0 := Stand.of_body Bd
 have e0 : s₁.heap = h0 := by rw [← hh, Bd.state]; rfl
 have N0 := Fr.nil n0
 have K0 : Keep h0 h0 [] := Keep.refl h0 _
 refine G (P := fun o U' => ∃ v L, o = .returned v ∧ Q14_03 Z a1 p2 p3 w_s k_s X w_t k_t ts w_n h0 n0 v U'.heap L ∧ FrameEnd s o U' L (Rm 2 0 0 34).cells (Rm 2 0 0 34).slots) (fun t k => castTop (ef14_03 m a1 p2 p3) k) ?_
 show Go _ _ _ (s₁.setTop (mkF m 0 #[vr a1, vi p2, vi p3] [])) _
 refine G (fun t k => XS.aloadN X0.here hx rfl (hb hby d14_0) rfl rfl k) ?_
 obtain ⟨T1, X1, e1, st1⟩ := getF X0 hx hZ hown (host := "") (Or.inl (wd73 hw)) Via.refl e0 F_a1_t (g := (mkF m 1 #[vr a1, vi p2, vi p3] [(.ref a1)])) rfl rfl (hb hby d14_1)
 refine G st1 ?_
 refine G (fun t k => XS.aloadN X1.here hx rfl (hb hby d14_4) rfl rfl k) ?_
 obtain ⟨T2, X2, e2, st2⟩ := getF X1 hx hZ hown (host := "") (Or.inl (wd71 hw)) Via.refl e1 F_a1_a (g := (mkF m 5 #[vr a1, vi p2, vi p3] [(.ref a1), (.ref w_t)])) rfl rfl (hb hby d14_5)
 refine G st2 ?_
 refine G (fun t k => XS.iloadN X2.here hx rfl (hb hby d14_8) rfl k) ?_
 obtain ⟨cl3, Ar3, -, Sz3, Ng3, Hs3, -⟩ := id V_s
 have hin3 := inb_of (j := p2) (c := cl3) Sz3 hib
 refine G (fun t k => X2.iaload hx (j := p2) (v := (.int (0 : Int32))) (by rw [e2]; exact Ar3.1) (State.isArrayOf_alike hZ.alike Ar3.2.1) Ar3.2.2 hin3 (Has.at Hs3 hin3 ((own_atv X p2).trans (congrArg Value.int hlo))) (g := (mkF m 9 #[vr a1, vi p2, vi p3] [(.int p2), (.ref w_s), (.ref w_t)])) rfl rfl (hb hby d14_9) _ k) ?_
 clear hin3 Hs3 Ng3 Sz3 Ar3 cl3
 refine G (fun t k => XS.aloadN X2.here hx rfl (hb hby d14_10) rfl rfl k) ?_
 show Go _ _ _ (T2.setTop (mkF m 11 #[vr a1, vi p2, vi p3] [(.ref a1), (.int 0), (.ref w_t)])) _
 obtain ⟨T4, X4, e4, st4⟩ := getF X2 hx hZ hown (host := "") (Or.inl (wd71 hw)) Via.refl e2 F_a1_a (g := (mkF m 11 #[vr a1, vi p2, vi p3] [(.ref a1), (.int 0), (.ref w_t)])) rfl rfl (hb hby d14_11)
 refine G st4 ?_
 refine G (fun t k => XS.iloadN X4.here hx rfl (hb hby d14_14) rfl (XS.iconst X4.here hx rfl (hb hby d14_15) (XS.iadd X4.here hx rfl (hb hby d14_16) rfl k))) ?_
 obtain ⟨cl5, Ar5, -, Sz5, Ng5, Hs5, -⟩ := id V_s
 have hin5 := inb_of (j := (p2 + (1 : Int32))) (c := cl5) Sz5 hib1
 refine G (fun t k => X4.iaload hx (j := (p2 + (1 : Int32))) (v := (.int (3 : Int32))) (by rw [e4]; exact Ar5.1) (State.isArrayOf_alike hZ.alike Ar5.2.1) Ar5.2.2 hin5 (Has.at Hs5 hin5 ((own_atv X (p2 + (1 : Int32))).trans (congrArg Value.int hhi))) (g := (mkF m 17 #[vr a1, vi p2, vi p3] [(.int (p2 + (1 : Int32))), (.ref w_s), (.int 0), (.ref w_t)])) rfl rfl (hb hby d14_17) _ k) ?_
 clear hin5 Hs5 Ng5 Sz5 Ar5 cl5
 refine G (fun t k => XS.iloadN X4.here hx rfl (hb hby d14_18) rfl k) ?_
 obtain ⟨_, _, ⟨T6, L6, k6, n6⟩, -, X6, ⟨Lc6, hQ6, l6, y6, z6⟩, st6⟩ := Jvm.LawKit.callS X4 hx (y := (⟨"java/util/Arrays", "binarySearch", "([IIII)I"⟩ : MethodName)) hown (mvT hZ (wd85 hw)) (mvT hZ (wd86 hw)) (mvT hZ (wd31 hw)) (mvT hZ (wd87 hw)) (by decide) (backOf (W := 0) (rm15_03 l Z a0 hw [] w_t p3 k_t ts w_n h0 n0 Z0 V_t hnn) hZ (wd87 hw) (wd31 hw) (by decide) (by decide)) (g := (mkF m 19 #[vr a1, vi p2, vi p3] [(.int p3), (.int 3), (.int 0), (.ref w_t)])) rfl (by rw [hml]; rfl) (argsL := [(.ref w_t), (.int (0 : Int32)), (.int (3 : Int32)), (.int p3)]) (rest := []) (lenOf pd9 rfl) rfl (by show 2 * 0 + _ ≤ _; exact Nat.le_of_eq rfl) (hb hby d14_19) (fun _ _ => ⟨rfl, e4, (by decide : 0 + 0 ≤ _), (by decide : 0 + 0 ≤ _)⟩)
 dsimp only [Pt.U, Pt.locs, Pt.cells, Pt.slots] at X6 l6 y6 z6 st6 hQ6
 subst l6 y6 z6
 refine G st6 ?_
 obtain ⟨rfl, N6q, e6⟩ := hQ6
 have N6 := Fr.app N0 N6q
 show Go _ _ _ (T6.setTop (mkF m 22 #[vr a1, vi p2, vi p3] [(.int (f17_03 p3 ts))])) _
 by_cases hc7 : (f17_03 p3 ts) < (0 : Int32)
 ·refine G (fun t k => XS.ifYes X6.here hx rfl (pc0 := 22) (pc' := 29) rfl (hb hby d14_22) rfl ((if0 _ _).trans (tlt hc7).1) (by decide) (by decide) (XS.iconst X6.here hx rfl (hb hby d14_29) k)) ?_
  obtain ⟨fs, hr, hrun, hended, hW, hsame⟩ := X6.leave (v := some (.int (0 : Int32))) (fun h => by rw [Bd.returns] at h; cases h)
  refine Go.fin (retN X6 hx (t := .boolean) Bd.returns (by simp) (hb hby d14_30) hr) hrun hended ⟨_, _, rfl, ?_, ⟨_, rfl⟩, hW, hsame.mono (by decide) (by decide)⟩
  show Q14_03 Z a1 p2 p3 w_s k_s X w_t k_t ts w_n h0 n0 _ T6.heap _
  rw [e6]
  exact ⟨(by unfold f14_03; simp only [if_pos hc7]), N6, rfl⟩
 ·refine G (fun t k => XS.ifNo X6.here hx rfl (hb hby d14_22) rfl ((if0 _ _).trans (flt hc7).1) (XS.iconst X6.here hx rfl (hb hby d14_25) (XS.goto X6.here hx rfl (pc0 := 26) (pc' := 30) rfl (hb hby d14_26) (by decide) (by decide) k))) ?_
  obtain ⟨fs, hr, hrun, hended, hW, hsame⟩ := X6.leave (v := some (.int (1 : Int32))) (fun h => by rw [Bd.returns] at h; cases h)
  refine Go.fin (retN X6 hx (t := .boolean) Bd.returns (by simp) (hb hby d14_30) hr) hrun hended ⟨_, _, rfl, ?_, ⟨_, rfl⟩, hW, hsame.mono (by decide) (by decide)⟩
  show Q14_03 Z a1 p2 p3 w_s k_s X w_t k_t ts w_n h0 n0 _ T6.heap _
  rw [e6]
  exact ⟨(by unfold f14_03; simp only [if_neg hc7]), N6, rfl⟩
def f17_12 (p4 : Int32) (ts : List Int32) : Int32 := (if (own_at ts (1 : Int32)) < p4 then (-3 : Int32) else (if p4 < (own_at ts (1 : Int32)) then (-2 : Int32) else (1 : Int32)))
def Q17_12 (Z : State) (a1 : Addr) (p4 : Int32) (k_t : ClassId) (ts : List Int32) (w_n : Int32) (h0 : Heap) (n0 : Nat) (v : Option Value) (h : Heap) (L : List Loc) : Prop := v = some (.int (f17_12 p4 ts)) ∧ Fr n0 L ∧ h = h0
theorem ef17_12 (m : MethodId) (x0 : Addr) (x3 : Int32) : entryFrame m #[(.ref x0), (.int (1 : Int32)), (.int (2 : Int32)), (.int x3)] 8 = mkF m 0 #[.val (.ref x0), .val (.int (1 : Int32)), .val (.int (2 : Int32)), .val (.int x3), .unset, .unset, .unset, .unset] [] := by first | (simp [entryFrame, mkF, argsToLocals, Value.category]; done) | rfl
theorem rm17_12 (l : Launch) (Z : State) (a0 : Array Value) (hw : HW a0 Z) (ws : List Jvm.Cond) (a1 : Addr) (p4 : Int32) (k_t : ClassId) (ts : List Int32) (w_n : Int32) (h0 : Heap) (n0 : Nat) (Z0 : n0 ≤ h0.size) (V_t : Arv Z h0 a1 k_t .int w_n (List.map Value.int ts) (.int (0 : Int32))) (hnn : ¬ w_n < (2 : Int32)) :
  MetFree l (⟨"java/util/Arrays", "binarySearch0", "([IIII)I"⟩ : MethodName) (head1 (Jvm.Cond.code (⟨"java/util/Arrays", "binarySearch0", "([IIII)I"⟩ : MethodName) cB17 8 (some .int) :: ws) (Rm 0 0 0 0)) (Pr Z h0 #[(.ref a1), (.int (1 : Int32)), (.int (2 : Int32)), (.int p4)]) Tr (fun _ U o U' => ∃ v L, o = .returned v ∧ Q17_12 Z a1 p4 k_t ts w_n h0 n0 v U'.heap L ∧ FrameEnd U o U' L (Rm 0 0 0 0).cells (Rm 0 0 0 0).slots) := by
 refine MetFree.of_bodySF (plainFor_of_name pn2) hisR ?_
 intro p e s m args below meth c s₁ Bd hml0 hP hK
 obtain ⟨rfl, hZ, hh⟩ := hP
 have hx := Bd.exec
 have hby := Bd.bytes
 have hml : c.maxLocals = 8 := hml0
 have hown : s.vm.findClass "java/util/Arrays" = some m.cls := findClass_of_methodNamed Bd.named
 have hnm := (name_of_methodNamed Bd.named Bd.method).1
 have X0 : Stand p l e (Rm 0 0 0 0) s m #[(.ref a1), (.int (1 : Int32)), (.int (2 : Int32)), (.int p4)] below meth c s₁ [] 0 0 := Stand.of_body Bd
 have e0 : s₁.heap = h0 := by rw [← hh, Bd.state]; rfl
 have N0 := Fr.nil n0
 have K0 : Keep h0 h0 [] := Keep.refl h0 _
 refine G (P := fun o U' => ∃ v L, o = .returned v ∧ Q17_12 Z a1 p4 k_t ts w_n h0 n0 v U'.heap L ∧ FrameEnd s o U' L (Rm 0 0 0 0).cells (Rm 0 0 0 0).slots) (fun t k => castTop (ef17_12 m a1 p4) k) ?_
 show Go _ _ _ (s₁.setTop (mkF m 0 #[vr a1, vi 1, vi 2, vi p4, us, us, us, us] [])) _
 refine G (fun t k => XS.iloadN X0.here hx rfl (hb hby d17_0) rfl (XS.istore X0.here hx rfl (hb hby d17_1) rfl (l' := #[vr a1, vi 1, vi 2, vi p4, vi 1, us, us, us]) rfl (XS.iloadN X0.here hx rfl (hb hby d17_3) rfl (XS.iconst X0.here hx rfl (hb hby d17_4) (XS.isub X0.here hx rfl (hb hby d17_5) rfl (XS.istore X0.here hx rfl (hb hby d17_6) rfl (l' := #[vr a1, vi 1, vi 2, vi p4, vi 1, vi 1, us, us]) rfl k)))))) ?_
 refine G (fun t k => XS.iload X0.here hx rfl (hb hby d17_8) rfl k) ?_
 show Go _ _ _ (s₁.setTop (mkF m 10 #[vr a1, vi 1, vi 2, vi p4, vi 1, vi 1, us, us] [(.int 1)])) _
 refine G (fun t k => XS.iload X0.here hx rfl (hb hby d17_10) rfl (XS.icmpNo X0.here hx rfl (hb hby d17_12) rfl (flt (by decide : ¬ ((1 : Int32) < (1 : Int32)))).2.2.1 (XS.iload X0.here hx rfl (hb hby d17_15) rfl (XS.iload X0.here hx rfl (hb hby d17_17) rfl (XS.iadd X0.here hx rfl (hb hby d17_19) rfl (XS.iconst X0.here hx rfl (hb hby d17_20) k)))))) ?_
 refine G (fun t k => XS.iushr X0.here hx rfl (hb hby d17_21) rfl k) ?_
 show Go _ _ _ (s₁.setTop (mkF m 22 #[vr a1, vi 1, vi 2, vi p4, vi 1, vi 1, us, us] [(.int (((2 : Int32).toUInt32 >>> ((1 : Int32) &&& 31).toUInt32).toInt32))])) _
 refine Go.fr (g' := (mkF m 22 #[vr a1, vi 1, vi 2, vi p4, vi 1, vi 1, us, us] [(.int 1)])) (by rw [show (((2 : Int32).toUInt32 >>> ((1 : Int32) &&& 31).toUInt32).toInt32) = (1 : Int32) from by decide]) ?_
 show Go _ _ _ (s₁.setTop (mkF m 22 #[vr a1, vi 1, vi 2, vi p4, vi 1, vi 1, us, us] [(.int 1)])) _
 refine G (fun t k => XS.istore X0.here hx rfl (hb hby d17_22) rfl (l' := #[vr a1, vi 1, vi 2, vi p4, vi 1, vi 1, vi 1, us]) rfl (XS.aloadN X0.here hx rfl (hb hby d17_24) rfl rfl (XS.iload X0.here hx rfl (hb hby d17_25) rfl k))) ?_
 obtain ⟨cl1, Ar1, -, Sz1, Ng1, Hs1, -⟩ := id V_t
 have hin1 := inb_of (j := (1 : Int32)) (c := cl1) Sz1 ⟨by decide, own_ltl (1 : Int32) (2 : Int32) _ (by decide) hnn⟩
 refine G (fun t k => X0.iaload hx (j := (1 : Int32)) (v := (.int (own_at ts (1 : Int32)))) (by rw [e0]; exact Ar1.1) (State.isArrayOf_alike hZ.alike Ar1.2.1) Ar1.2.2 hin1 (Has.at Hs1 hin1 (own_atv ts (1 : Int32))) (g := (mkF m 27 #[vr a1, vi 1, vi 2, vi p4, vi 1, vi 1, vi 1, us] [(.int 1), (.ref a1)])) rfl rfl (hb hby d17_27) _ k) ?_
 clear hin1 Hs1 Ng1 Sz1 Ar1 cl1
 refine G (fun t k => XS.istore X0.here hx rfl (hb hby d17_28) rfl (l' := #[vr a1, vi 1, vi 2, vi p4, vi 1, vi 1, vi 1, vi (own_at ts (1 : Int32))]) rfl (XS.iload X0.here hx rfl (hb hby d17_30) rfl (XS.iloadN X0.here hx rfl (hb hby d17_32) rfl k))) ?_
 show Go _ _ _ (s₁.setTop (mkF m 33 #[vr a1, vi 1, vi 2, vi p4, vi 1, vi 1, vi 1, vi (own_at ts (1 : Int32))] [(.int p4), (.int (own_at ts (1 : Int32)))])) _
 by_cases hc2 : (own_at ts (1 : Int32)) < p4
 ·refine G (fun t k => XS.icmpNo X0.here hx rfl (hb hby d17_33) rfl (tlt hc2).2.1 (XS.iload X0.here hx rfl (hb hby d17_36) rfl (XS.iconst X0.here hx rfl (hb hby d17_38) (XS.iadd X0.here hx rfl (hb hby d17_39) rfl (XS.istore X0.here hx rfl (hb hby d17_40) rfl (l' := #[vr a1, vi 1, vi 2, vi p4, vi 2, vi 1, vi 1, vi (own_at ts (1 : Int32))]) rfl (XS.goto X0.here hx rfl (pc0 := 42) (pc' := 63) rfl (hb hby d17_42) (by decide) (by decide) k)))))) ?_
  refine G (fun t k => XS.goto X0.here hx rfl (pc0 := 63) (pc' := 8) rfl (hb hby d17_63) (by decide) (by decide) k) ?_
  show Go _ _ _ (s₁.setTop (mkF m 8 #[vr a1, vi 1, vi 2, vi p4, vi 2, vi 1, vi 1, vi (own_at ts (1 : Int32))] [])) _
  refine G (fun t k => XS.iload X0.here hx rfl (hb hby d17_8) rfl (XS.iload X0.here hx rfl (hb hby d17_10) rfl (XS.icmpYes X0.here hx rfl (pc0 := 12) (pc' := 66) rfl (hb hby d17_12) rfl (tlt (by decide : (1 : Int32) < (2 : Int32))).2.2.1 (by decide) (by decide) (XS.iload X0.here hx rfl (hb hby d17_66) rfl (XS.iconst X0.here hx rfl (hb hby d17_68) (XS.iadd X0.here hx rfl (hb hby d17_69) rfl k)))))) ?_
  refine G (fun t k => XS.ineg X0.here hx rfl (hb hby d17_70) rfl k) ?_
  show Go _ _ _ (s₁.setTop (mkF m 71 #[vr a1, vi 1, vi 2, vi p4, vi 2, vi 1, vi 1, vi (own_at ts (1 : Int32))] [(.int (-3))])) _
  obtain ⟨fs, hr, hrun, hended, hW, hsame⟩ := X0.leave (v := some (.int (-3 : Int32))) (fun h => by rw [Bd.returns] at h; cases h)
  refine Go.fin (retOut X0 hx Bd.returns rfl (Or.inl ⟨rfl, Or.inl rfl, _, rfl⟩) (hb hby d17_71) hr) hrun hended ⟨_, _, rfl, ?_, ⟨_, rfl⟩, hW, hsame.mono (by decide) (by decide)⟩
  show Q17_12 Z a1 p4 k_t ts w_n h0 n0 _ s₁.heap _
  rw [e0]
  exact ⟨(by unfold f17_12; simp only [if_pos hc2]), N0, rfl⟩
 ·refine G (fun t k => XS.icmpYes X0.here hx rfl (pc0 := 33) (pc' := 45) rfl (hb hby d17_33) rfl (flt hc2).2.1 (by decide) (by decide) (XS.iload X0.here hx rfl (hb hby d17_45) rfl (XS.iloadN X0.here hx rfl (hb hby d17_47) rfl k))) ?_
  by_cases hc3 : p4 < (own_at ts (1 : Int32))
  ·refine G (fun t k => XS.icmpNo X0.here hx rfl (hb hby d17_48) rfl (tlt hc3).2.2.2 (XS.iload X0.here hx rfl (hb hby d17_51) rfl (XS.iconst X0.here hx rfl (hb hby d17_53) (XS.isub X0.here hx rfl (hb hby d17_54) rfl k)))) ?_
   show Go _ _ _ (s₁.setTop (mkF m 55 #[vr a1, vi 1, vi 2, vi p4, vi 1, vi 1, vi 1, vi (own_at ts (1 : Int32))] [(.int 0)])) _
   refine G (fun t k => XS.istore X0.here hx rfl (hb hby d17_55) rfl (l' := #[vr a1, vi 1, vi 2, vi p4, vi 1, vi 0, vi 1, vi (own_at ts (1 : Int32))]) rfl (XS.goto X0.here hx rfl (pc0 := 57) (pc' := 63) rfl (hb hby d17_57) (by decide) (by decide) (XS.goto X0.here hx rfl (pc0 := 63) (pc' := 8) rfl (hb hby d17_63) (by decide) (by decide) (XS.iload X0.here hx rfl (hb hby d17_8) rfl (XS.iload X0.here hx rfl (hb hby d17_10) rfl (XS.icmpYes X0.here hx rfl (pc0 := 12) (pc' := 66) rfl (hb hby d17_12) rfl (tlt (by decide : (0 : Int32) < (1 : Int32))).2.2.1 (by decide) (by decide) k)))))) ?_
   refine G (fun t k => XS.iload X0.here hx rfl (hb hby d17_66) rfl k) ?_
   show Go _ _ _ (s₁.setTop (mkF m 68 #[vr a1, vi 1, vi 2, vi p4, vi 1, vi 0, vi 1, vi (own_at ts (1 : Int32))] [(.int 1)])) _
   refine G (fun t k => XS.iconst X0.here hx rfl (hb hby d17_68) (XS.iadd X0.here hx rfl (hb hby d17_69) rfl (XS.ineg X0.here hx rfl (hb hby d17_70) rfl k))) ?_
   obtain ⟨fs, hr, hrun, hended, hW, hsame⟩ := X0.leave (v := some (.int (-2 : Int32))) (fun h => by rw [Bd.returns] at h; cases h)
   refine Go.fin (retOut X0 hx Bd.returns rfl (Or.inl ⟨rfl, Or.inl rfl, _, rfl⟩) (hb hby d17_71) hr) hrun hended ⟨_, _, rfl, ?_, ⟨_, rfl⟩, hW, hsame.mono (by decide) (by decide)⟩
   show Q17_12 Z a1 p4 k_t ts w_n h0 n0 _ s₁.heap _
   rw [e0]
   exact ⟨(by unfold f17_12; simp only [if_neg hc2, if_pos hc3]), N0, rfl⟩
  ·refine G (fun t k => XS.icmpYes X0.here hx rfl (pc0 := 48) (pc' := 60) rfl (hb hby d17_48) rfl (flt hc3).2.2.2 (by decide) (by decide) (XS.iload X0.here hx rfl (hb hby d17_60) rfl k)) ?_
   obtain ⟨fs, hr, hrun, hended, hW, hsame⟩ := X0.leave (v := some (.int (1 : Int32))) (fun h => by rw [Bd.returns] at h; cases h)
   refine Go.fin (retOut X0 hx Bd.returns rfl (Or.inl ⟨rfl, Or.inl rfl, _, rfl⟩) (hb hby d17_62) hr) hrun hended ⟨_, _, rfl, ?_, ⟨_, rfl⟩, hW, hsame.mono (by decide) (by decide)⟩
   show Q17_12 Z a1 p4 k_t ts w_n h0 n0 _ s₁.heap _
   rw [e0]
   exact ⟨(by unfold f17_12; simp only [if_neg hc2, if_neg hc3]), N0, rfl⟩
def Q15_12 (Z : State) (a1 : Addr) (p4 : Int32) (k_t : ClassId) (ts : List Int32) (w_n : Int32) (h0 : Heap) (n0 : Nat) (v : Option Value) (h : Heap) (L : List Loc) : Prop := v = some (.int (f17_12 p4 ts)) ∧ Fr n0 L ∧ h = h0
theorem ef15_12 (m : MethodId) (x0 : Addr) (x3 : Int32) : entryFrame m #[(.ref x0), (.int (1 : Int32)), (.int (2 : Int32)), (.int x3)] 4 = mkF m 0 #[.val (.ref x0), .val (.int (1 : Int32)), .val (.int (2 : Int32)), .val (.int x3)] [] := by first | (simp [entryFrame, mkF, argsToLocals, Value.category]; done) | rfl
theorem rm15_12 (l : Launch) (Z : State) (a0 : Array Value) (hw : HW a0 Z) (ws : List Jvm.Cond) (a1 : Addr) (p4 : Int32) (k_t : ClassId) (ts : List Int32) (w_n : Int32) (h0 : Heap) (n0 : Nat) (Z0 : n0 ≤ h0.size) (V_t : Arv Z h0 a1 k_t .int w_n (List.map Value.int ts) (.int (0 : Int32))) (hnn : ¬ w_n < (2 : Int32)) :
  MetFree l (⟨"java/util/Arrays", "binarySearch", "([IIII)I"⟩ : MethodName) (head1 (Jvm.Cond.code (⟨"java/util/Arrays", "binarySearch", "([IIII)I"⟩ : MethodName) cB15 4 (some .int) :: ws) (Rm 1 0 0 19)) (Pr Z h0 #[(.ref a1), (.int (1 : Int32)), (.int (2 : Int32)), (.int p4)]) Tr (fun _ U o U' => ∃ v L, o = .returned v ∧ Q15_12 Z a1 p4 k_t ts w_n h0 n0 v U'.heap L ∧ FrameEnd U o U' L (Rm 1 0 0 19).cells (Rm 1 0 0 19).slots) := by
 refine MetFree.of_bodySF (plainFor_of_name pn2) hisR ?_
 intro p e s m args below meth c s₁ Bd hml0 hP hK
 obtain ⟨rfl, hZ, hh⟩ := hP
 have hx := Bd.exec
 have hby := Bd.bytes
 have hml : c.maxLocals = 4 := hml0
 have hown : s.vm.findClass "java/util/Arrays" = some m.cls := findClass_of_methodNamed Bd.named
 have hnm := (name_of_methodNamed Bd.named Bd.method).1
 have X0 : Stand p l e (Rm 1 0 0 19) s m #[(.ref a1), (.int (1 : Int32)), (.int (2 : Int32)), (.int p4)] below meth c s₁ [] 0 0 := Stand.of_body Bd
 have e0 : s₁.heap = h0 := by rw [← hh, Bd.state]; rfl
 have N0 := Fr.nil n0
 have K0 : Keep h0 h0 [] := Keep.refl h0 _
 refine G (P := fun o U' => ∃ v L, o = .returned v ∧ Q15_12 Z a1 p4 k_t ts w_n h0 n0 v U'.heap L ∧ FrameEnd s o U' L (Rm 1 0 0 19).cells (Rm 1 0 0 19).slots) (fun t k => castTop (ef15_12 m a1 p4) k) ?_
 show Go _ _ _ (s₁.setTop (mkF m 0 #[vr a1, vi 1, vi 2, vi p4] [])) _
 refine G (fun t k => XS.aloadN X0.here hx rfl (hb hby d15_0) rfl rfl k) ?_
 obtain ⟨cl1, Ar1, -, Sz1, Ng1, -, -⟩ := id V_t
 refine G (fun t k => X0.arraylength hx (by rw [e0]; exact Ar1.1) (State.isArrayOf_alike hZ.alike Ar1.2.1) (g := (mkF m 1 #[vr a1, vi 1, vi 2, vi p4] [(.ref a1)])) rfl rfl (hb hby d15_1) _ k) ?_
 rw [len_of Sz1 Ng1]
 clear Ng1 Sz1 Ar1 cl1
 refine G (fun t k => XS.iloadN X0.here hx rfl (hb hby d15_2) rfl (XS.iloadN X0.here hx rfl (hb hby d15_3) rfl k)) ?_
 obtain ⟨_, _, ⟨T2, L2, k2, n2⟩, -, X2, ⟨Lc2, hQ2, l2, y2, z2⟩, st2⟩ := Jvm.LawKit.callS X0 hx (y := (⟨"java/util/Arrays", "rangeCheck", "(III)V"⟩ : MethodName)) hown (mvT hZ (wd88 hw)) (mvT hZ (wd89 hw)) (mvT hZ (wd31 hw)) (mvT hZ (wd90 hw)) (by decide) (backOf (W := 0) (rm16 l Z a0 hw [] w_n (1 : Int32) (2 : Int32) h0 n0 Z0 (by decide) (by decide) hnn) hZ (wd90 hw) (wd31 hw) (by decide) (by decide)) (g := (mkF m 4 #[vr a1, vi 1, vi 2, vi p4] [(.int 2), (.int 1), (.int w_n)])) rfl (by rw [hml]; rfl) (argsL := [(.int w_n), (.int (1 : Int32)), (.int (2 : Int32))]) (rest := []) (lenOf pd8 rfl) rfl (by show 2 * 0 + _ ≤ _; exact Nat.le_of_eq rfl) (hb hby d15_4) (fun _ _ => ⟨rfl, e0, (by decide : 0 + 0 ≤ _), (by decide : 0 + 0 ≤ _)⟩)
 dsimp only [Pt.U, Pt.locs, Pt.cells, Pt.slots] at X2 l2 y2 z2 st2 hQ2
 subst l2 y2 z2
 refine G st2 ?_
 obtain ⟨rfl, N2q, e2⟩ := hQ2
 have N2 := Fr.app N0 N2q
 refine G (fun t k => XS.aloadN X2.here hx rfl (hb hby d15_7) rfl rfl (XS.iloadN X2.here hx rfl (hb hby d15_8) rfl k)) ?_
 show Go _ _ _ (T2.setTop (mkF m 9 #[vr a1, vi 1, vi 2, vi p4] [(.int 1), (.ref a1)])) _
 refine G (fun t k => XS.iloadN X2.here hx rfl (hb hby d15_9) rfl (XS.iloadN X2.here hx rfl (hb hby d15_10) rfl k)) ?_
 obtain ⟨_, _, ⟨T3, L3, k3, n3⟩, -, X3, ⟨Lc3, hQ3, l3, y3, z3⟩, st3⟩ := Jvm.LawKit.callS X2 hx (y := (⟨"java/util/Arrays", "binarySearch0", "([IIII)I"⟩ : MethodName)) hown (mvT hZ (wd91 hw)) (mvT hZ (wd92 hw)) (mvT hZ (wd31 hw)) (mvT hZ (wd93 hw)) (by decide) (backOf (W := 0) (rm17_12 l Z a0 hw [] a1 p4 k_t ts w_n h0 n0 Z0 V_t hnn) hZ (wd93 hw) (wd31 hw) (by decide) (by decide)) (g := (mkF m 11 #[vr a1, vi 1, vi 2, vi p4] [(.int p4), (.int 2), (.int 1), (.ref a1)])) rfl (by rw [hml]; rfl) (argsL := [(.ref a1), (.int (1 : Int32)), (.int (2 : Int32)), (.int p4)]) (rest := []) (lenOf pd9 rfl) rfl (by show 2 * 0 + _ ≤ _; exact Nat.le_of_eq rfl) (hb hby d15_11) (fun _ _ => ⟨rfl, e2, (by decide : 0 + 0 ≤ _), (by decide : 0 + 0 ≤ _)⟩)
 dsimp only [Pt.U, Pt.locs, Pt.cells, Pt.slots] at X3 l3 y3 z3 st3 hQ3
 subst l3 y3 z3
 refine G st3 ?_
 obtain ⟨rfl, N3q, e3⟩ := hQ3
 have N3 := Fr.app N2 N3q
 obtain ⟨fs, hr, hrun, hended, hW, hsame⟩ := X3.leave (v := some (.int (f17_12 p4 ts))) (fun h => by rw [Bd.returns] at h; cases h)
 refine Go.fin (retOut X3 hx Bd.returns rfl (Or.inl ⟨rfl, Or.inl rfl, _, rfl⟩) (hb hby d15_14) hr) hrun hended ⟨_, _, rfl, ?_, ⟨_, rfl⟩, hW, hsame.mono (by decide) (by decide)⟩
 show Q15_12 Z a1 p4 k_t ts w_n h0 n0 _ T3.heap _
 rw [e3]
 exact ⟨rfl, N3, rfl⟩
def f14_12 (p3 : Int32) (ts : List Int32) : Int32 := (if (f17_12 p3 ts) < (0 : Int32) then (0 : Int32) else (1 : Int32))
def Q14_12 (Z : State) (a1 : Addr) (p2 : Int32) (p3 : Int32) (w_s : Addr) (k_s : ClassId) (X : List Int32) (w_t : Addr) (k_t : ClassId) (ts : List Int32) (w_n : Int32) (h0 : Heap) (n0 : Nat) (v : Option Value) (h : Heap) (L : List Loc) : Prop := v = some (.int (f14_12 p3 ts)) ∧ Fr n0 L ∧ h = h0
theorem ef14_12 (m : MethodId) (x0 : Addr) (x1 : Int32) (x2 : Int32) : entryFrame m #[(.ref x0), (.int x1), (.int x2)] 3 = mkF m 0 #[.val (.ref x0), .val (.int x1), .val (.int x2)] [] := by first | (simp [entryFrame, mkF, argsToLocals, Value.category]; done) | rfl
theorem rm14_12 (l : Launch) (Z : State) (a0 : Array Value) (hw : HW a0 Z) (ws : List Jvm.Cond) (a1 : Addr) (p2 : Int32) (p3 : Int32) (w_s : Addr) (k_s : ClassId) (X : List Int32) (w_t : Addr) (k_t : ClassId) (ts : List Int32) (w_n : Int32) (h0 : Heap) (n0 : Nat) (Z0 : n0 ≤ h0.size) (F_a1_a : Fld Z h0 a1 RC "start" "[I" (.ref w_s)) (V_s : Arv Z h0 w_s k_s .int (9 : Int32) (List.map Value.int X) (.int (0 : Int32))) (F_a1_t : Fld Z h0 a1 RC "targets" "[I" (.ref w_t)) (V_t : Arv Z h0 w_t k_t .int w_n (List.map Value.int ts) (.int (0 : Int32))) (hib : ¬ p2 < 0 ∧ p2 < (9 : Int32)) (hib1 : ¬ (p2 + (1 : Int32)) < 0 ∧ (p2 + (1 : Int32)) < (9 : Int32)) (hlo : own_at X p2 = (1 : Int32)) (hhi : own_at X (p2 + (1 : Int32)) = (2 : Int32)) (hnn : ¬ w_n < (2 : Int32)) :
  MetFree l (⟨RC, "contains", "(II)Z"⟩ : MethodName) (head1 (Jvm.Cond.code (⟨RC, "contains", "(II)Z"⟩ : MethodName) cB14 3 (some .boolean) :: ws) (Rm 2 0 0 34)) (Pr Z h0 #[(.ref a1), (.int p2), (.int p3)]) Tr (fun _ U o U' => ∃ v L, o = .returned v ∧ Q14_12 Z a1 p2 p3 w_s k_s X w_t k_t ts w_n h0 n0 v U'.heap L ∧ FrameEnd U o U' L (Rm 2 0 0 34).cells (Rm 2 0 0 34).slots) := by
 refine MetFree.of_bodySF (plainFor_of_name pn4) hisR ?_
 intro p e s m args below meth c s₁ Bd hml0 hP hK
 obtain ⟨rfl, hZ, hh⟩ := hP
 have hx := Bd.exec
 have hby := Bd.bytes
 have hml : c.maxLocals = 3 := hml0
 have hown : s.vm.findClass RC = some m.cls := findClass_of_methodNamed Bd.named
 have hnm := (name_of_methodNamed Bd.named Bd.method).1
 have X0 : Stand p l e (Rm 2 0 0 34) s m #[(.ref a1), (.int p2), (.int p3)] below meth c s₁ [] 0 0 := Stand.of_body Bd
 have e0 : s₁.heap = h0 := by rw [← hh, Bd.state]; rfl
 have N0 := Fr.nil n0
 have K0 : Keep h0 h0 [] := Keep.refl h0 _
 refine G (P := fun o U' => ∃ v L, o = .returned v ∧ Q14_12 Z a1 p2 p3 w_s k_s X w_t k_t ts w_n h0 n0 v U'.heap L ∧ FrameEnd s o U' L (Rm 2 0 0 34).cells (Rm 2 0 0 34).slots) (fun t k => castTop (ef14_12 m a1 p2 p3) k) ?_
 show Go _ _ _ (s₁.setTop (mkF m 0 #[vr a1, vi p2, vi p3] [])) _
 refine G (fun t k => XS.aloadN X0.here hx rfl (hb hby d14_0) rfl rfl k) ?_
 obtain ⟨T1, X1, e1, st1⟩ := getF X0 hx hZ hown (host := "") (Or.inl (wd73 hw)) Via.refl e0 F_a1_t (g := (mkF m 1 #[vr a1, vi p2, vi p3] [(.ref a1)])) rfl rfl (hb hby d14_1)
 refine G st1 ?_
 refine G (fun t k => XS.aloadN X1.here hx rfl (hb hby d14_4) rfl rfl k) ?_
 obtain ⟨T2, X2, e2, st2⟩ := getF X1 hx hZ hown (host := "") (Or.inl (wd71 hw)) Via.refl e1 F_a1_a (g := (mkF m 5 #[vr a1, vi p2, vi p3] [(.ref a1), (.ref w_t)])) rfl rfl (hb hby d14_5)
 refine G st2 ?_
 refine G (fun t k => XS.iloadN X2.here hx rfl (hb hby d14_8) rfl k) ?_
 obtain ⟨cl3, Ar3, -, Sz3, Ng3, Hs3, -⟩ := id V_s
 have hin3 := inb_of (j := p2) (c := cl3) Sz3 hib
 refine G (fun t k => X2.iaload hx (j := p2) (v := (.int (1 : Int32))) (by rw [e2]; exact Ar3.1) (State.isArrayOf_alike hZ.alike Ar3.2.1) Ar3.2.2 hin3 (Has.at Hs3 hin3 ((own_atv X p2).trans (congrArg Value.int hlo))) (g := (mkF m 9 #[vr a1, vi p2, vi p3] [(.int p2), (.ref w_s), (.ref w_t)])) rfl rfl (hb hby d14_9) _ k) ?_
 clear hin3 Hs3 Ng3 Sz3 Ar3 cl3
 refine G (fun t k => XS.aloadN X2.here hx rfl (hb hby d14_10) rfl rfl k) ?_
 show Go _ _ _ (T2.setTop (mkF m 11 #[vr a1, vi p2, vi p3] [(.ref a1), (.int 1), (.ref w_t)])) _
 obtain ⟨T4, X4, e4, st4⟩ := getF X2 hx hZ hown (host := "") (Or.inl (wd71 hw)) Via.refl e2 F_a1_a (g := (mkF m 11 #[vr a1, vi p2, vi p3] [(.ref a1), (.int 1), (.ref w_t)])) rfl rfl (hb hby d14_11)
 refine G st4 ?_
 refine G (fun t k => XS.iloadN X4.here hx rfl (hb hby d14_14) rfl (XS.iconst X4.here hx rfl (hb hby d14_15) (XS.iadd X4.here hx rfl (hb hby d14_16) rfl k))) ?_
 obtain ⟨cl5, Ar5, -, Sz5, Ng5, Hs5, -⟩ := id V_s
 have hin5 := inb_of (j := (p2 + (1 : Int32))) (c := cl5) Sz5 hib1
 refine G (fun t k => X4.iaload hx (j := (p2 + (1 : Int32))) (v := (.int (2 : Int32))) (by rw [e4]; exact Ar5.1) (State.isArrayOf_alike hZ.alike Ar5.2.1) Ar5.2.2 hin5 (Has.at Hs5 hin5 ((own_atv X (p2 + (1 : Int32))).trans (congrArg Value.int hhi))) (g := (mkF m 17 #[vr a1, vi p2, vi p3] [(.int (p2 + (1 : Int32))), (.ref w_s), (.int 1), (.ref w_t)])) rfl rfl (hb hby d14_17) _ k) ?_
 clear hin5 Hs5 Ng5 Sz5 Ar5 cl5
 refine G (fun t k => XS.iloadN X4.here hx rfl (hb hby d14_18) rfl k) ?_
 obtain ⟨_, _, ⟨T6, L6, k6, n6⟩, -, X6, ⟨Lc6, hQ6, l6, y6, z6⟩, st6⟩ := Jvm.LawKit.callS X4 hx (y := (⟨"java/util/Arrays", "binarySearch", "([IIII)I"⟩ : MethodName)) hown (mvT hZ (wd85 hw)) (mvT hZ (wd86 hw)) (mvT hZ (wd31 hw)) (mvT hZ (wd87 hw)) (by decide) (backOf (W := 0) (rm15_12 l Z a0 hw [] w_t p3 k_t ts w_n h0 n0 Z0 V_t hnn) hZ (wd87 hw) (wd31 hw) (by decide) (by decide)) (g := (mkF m 19 #[vr a1, vi p2, vi p3] [(.int p3), (.int 2), (.int 1), (.ref w_t)])) rfl (by rw [hml]; rfl) (argsL := [(.ref w_t), (.int (1 : Int32)), (.int (2 : Int32)), (.int p3)]) (rest := []) (lenOf pd9 rfl) rfl (by show 2 * 0 + _ ≤ _; exact Nat.le_of_eq rfl) (hb hby d14_19) (fun _ _ => ⟨rfl, e4, (by decide : 0 + 0 ≤ _), (by decide : 0 + 0 ≤ _)⟩)
 dsimp only [Pt.U, Pt.locs, Pt.cells, Pt.slots] at X6 l6 y6 z6 st6 hQ6
 subst l6 y6 z6
 refine G st6 ?_
 obtain ⟨rfl, N6q, e6⟩ := hQ6
 have N6 := Fr.app N0 N6q
 show Go _ _ _ (T6.setTop (mkF m 22 #[vr a1, vi p2, vi p3] [(.int (f17_12 p3 ts))])) _
 by_cases hc7 : (f17_12 p3 ts) < (0 : Int32)
 ·refine G (fun t k => XS.ifYes X6.here hx rfl (pc0 := 22) (pc' := 29) rfl (hb hby d14_22) rfl ((if0 _ _).trans (tlt hc7).1) (by decide) (by decide) (XS.iconst X6.here hx rfl (hb hby d14_29) k)) ?_
  obtain ⟨fs, hr, hrun, hended, hW, hsame⟩ := X6.leave (v := some (.int (0 : Int32))) (fun h => by rw [Bd.returns] at h; cases h)
  refine Go.fin (retN X6 hx (t := .boolean) Bd.returns (by simp) (hb hby d14_30) hr) hrun hended ⟨_, _, rfl, ?_, ⟨_, rfl⟩, hW, hsame.mono (by decide) (by decide)⟩
  show Q14_12 Z a1 p2 p3 w_s k_s X w_t k_t ts w_n h0 n0 _ T6.heap _
  rw [e6]
  exact ⟨(by unfold f14_12; simp only [if_pos hc7]), N6, rfl⟩
 ·refine G (fun t k => XS.ifNo X6.here hx rfl (hb hby d14_22) rfl ((if0 _ _).trans (flt hc7).1) (XS.iconst X6.here hx rfl (hb hby d14_25) (XS.goto X6.here hx rfl (pc0 := 26) (pc' := 30) rfl (hb hby d14_26) (by decide) (by decide) k))) ?_
  obtain ⟨fs, hr, hrun, hended, hW, hsame⟩ := X6.leave (v := some (.int (1 : Int32))) (fun h => by rw [Bd.returns] at h; cases h)
  refine Go.fin (retN X6 hx (t := .boolean) Bd.returns (by simp) (hb hby d14_30) hr) hrun hended ⟨_, _, rfl, ?_, ⟨_, rfl⟩, hW, hsame.mono (by decide) (by decide)⟩
  show Q14_12 Z a1 p2 p3 w_s k_s X w_t k_t ts w_n h0 n0 _ T6.heap _
  rw [e6]
  exact ⟨(by unfold f14_12; simp only [if_neg hc7]), N6, rfl⟩
def f17_13 (p4 : Int32) (ts : List Int32) : Int32 := (if (own_at ts (1 : Int32)) < p4 then (if (own_at ts (2 : Int32)) < p4 then (-4 : Int32) else (if p4 < (own_at ts (2 : Int32)) then (-3 : Int32) else (2 : Int32))) else (if p4 < (own_at ts (1 : Int32)) then (-2 : Int32) else (1 : Int32)))
def Q17_13 (Z : State) (a1 : Addr) (p4 : Int32) (k_t : ClassId) (ts : List Int32) (w_n : Int32) (h0 : Heap) (n0 : Nat) (v : Option Value) (h : Heap) (L : List Loc) : Prop := v = some (.int (f17_13 p4 ts)) ∧ Fr n0 L ∧ h = h0
theorem ef17_13 (m : MethodId) (x0 : Addr) (x3 : Int32) : entryFrame m #[(.ref x0), (.int (1 : Int32)), (.int (3 : Int32)), (.int x3)] 8 = mkF m 0 #[.val (.ref x0), .val (.int (1 : Int32)), .val (.int (3 : Int32)), .val (.int x3), .unset, .unset, .unset, .unset] [] := by first | (simp [entryFrame, mkF, argsToLocals, Value.category]; done) | rfl
theorem rm17_13 (l : Launch) (Z : State) (a0 : Array Value) (hw : HW a0 Z) (ws : List Jvm.Cond) (a1 : Addr) (p4 : Int32) (k_t : ClassId) (ts : List Int32) (w_n : Int32) (h0 : Heap) (n0 : Nat) (Z0 : n0 ≤ h0.size) (V_t : Arv Z h0 a1 k_t .int w_n (List.map Value.int ts) (.int (0 : Int32))) (hnn : ¬ w_n < (3 : Int32)) :
  MetFree l (⟨"java/util/Arrays", "binarySearch0", "([IIII)I"⟩ : MethodName) (head1 (Jvm.Cond.code (⟨"java/util/Arrays", "binarySearch0", "([IIII)I"⟩ : MethodName) cB17 8 (some .int) :: ws) (Rm 0 0 0 0)) (Pr Z h0 #[(.ref a1), (.int (1 : Int32)), (.int (3 : Int32)), (.int p4)]) Tr (fun _ U o U' => ∃ v L, o = .returned v ∧ Q17_13 Z a1 p4 k_t ts w_n h0 n0 v U'.heap L ∧ FrameEnd U o U' L (Rm 0 0 0 0).cells (Rm 0 0 0 0).slots) := by
 refine MetFree.of_bodySF (plainFor_of_name pn2) hisR ?_
 intro p e s m args below meth c s₁ Bd hml0 hP hK
 obtain ⟨rfl, hZ, hh⟩ := hP
 have hx := Bd.exec
 have hby := Bd.bytes
 have hml : c.maxLocals = 8 := hml0
 have hown : s.vm.findClass "java/util/Arrays" = some m.cls := findClass_of_methodNamed Bd.named
 have hnm := (name_of_methodNamed Bd.named Bd.method).1
 have X0 : Stand p l e (Rm 0 0 0 0) s m #[(.ref a1), (.int (1 : Int32)), (.int (3 : Int32)), (.int p4)] below meth c s₁ [] 0 0 := Stand.of_body Bd
 have e0 : s₁.heap = h0 := by rw [← hh, Bd.state]; rfl
 have N0 := Fr.nil n0
 have K0 : Keep h0 h0 [] := Keep.refl h0 _
 refine G (P := fun o U' => ∃ v L, o = .returned v ∧ Q17_13 Z a1 p4 k_t ts w_n h0 n0 v U'.heap L ∧ FrameEnd s o U' L (Rm 0 0 0 0).cells (Rm 0 0 0 0).slots) (fun t k => castTop (ef17_13 m a1 p4) k) ?_
 show Go _ _ _ (s₁.setTop (mkF m 0 #[vr a1, vi 1, vi 3, vi p4, us, us, us, us] [])) _
 refine G (fun t k => XS.iloadN X0.here hx rfl (hb hby d17_0) rfl (XS.istore X0.here hx rfl (hb hby d17_1) rfl (l' := #[vr a1, vi 1, vi 3, vi p4, vi 1, us, us, us]) rfl (XS.iloadN X0.here hx rfl (hb hby d17_3) rfl (XS.iconst X0.here hx rfl (hb hby d17_4) (XS.isub X0.here hx rfl (hb hby d17_5) rfl (XS.istore X0.here hx rfl (hb hby d17_6) rfl (l' := #[vr a1, vi 1, vi 3, vi p4, vi 1, vi 2, us, us]) rfl k)))))) ?_
 refine G (fun t k => XS.iload X0.here hx rfl (hb hby d17_8) rfl k) ?_
 show Go _ _ _ (s₁.setTop (mkF m 10 #[vr a1, vi 1, vi 3, vi p4, vi 1, vi 2, us, us] [(.int 1)])) _
 refine G (fun t k => XS.iload X0.here hx rfl (hb hby d17_10) rfl (XS.icmpNo X0.here hx rfl (hb hby d17_12) rfl (flt (by decide : ¬ ((2 : Int32) < (1 : Int32)))).2.2.1 (XS.iload X0.here hx rfl (hb hby d17_15) rfl (XS.iload X0.here hx rfl (hb hby d17_17) rfl (XS.iadd X0.here hx rfl (hb hby d17_19) rfl (XS.iconst X0.here hx rfl (hb hby d17_20) k)))))) ?_
 refine G (fun t k => XS.iushr X0.here hx rfl (hb hby d17_21) rfl k) ?_
 show Go _ _ _ (s₁.setTop (mkF m 22 #[vr a1, vi 1, vi 3, vi p4, vi 1, vi 2, us, us] [(.int (((3 : Int32).toUInt32 >>> ((1 : Int32) &&& 31).toUInt32).toInt32))])) _
 refine Go.fr (g' := (mkF m 22 #[vr a1, vi 1, vi 3, vi p4, vi 1, vi 2, us, us] [(.int 1)])) (by rw [show (((3 : Int32).toUInt32 >>> ((1 : Int32) &&& 31).toUInt32).toInt32) = (1 : Int32) from by decide]) ?_
 show Go _ _ _ (s₁.setTop (mkF m 22 #[vr a1, vi 1, vi 3, vi p4, vi 1, vi 2, us, us] [(.int 1)])) _
 refine G (fun t k => XS.istore X0.here hx rfl (hb hby d17_22) rfl (l' := #[vr a1, vi 1, vi 3, vi p4, vi 1, vi 2, vi 1, us]) rfl (XS.aloadN X0.here hx rfl (hb hby d17_24) rfl rfl (XS.iload X0.here hx rfl (hb hby d17_25) rfl k))) ?_
 obtain ⟨cl1, Ar1, -, Sz1, Ng1, Hs1, -⟩ := id V_t
 have hin1 := inb_of (j := (1 : Int32)) (c := cl1) Sz1 ⟨by decide, own_ltl (1 : Int32) (3 : Int32) _ (by decide) hnn⟩
 refine G (fun t k => X0.iaload hx (j := (1 : Int32)) (v := (.int (own_at ts (1 : Int32)))) (by rw [e0]; exact Ar1.1) (State.isArrayOf_alike hZ.alike Ar1.2.1) Ar1.2.2 hin1 (Has.at Hs1 hin1 (own_atv ts (1 : Int32))) (g := (mkF m 27 #[vr a1, vi 1, vi 3, vi p4, vi 1, vi 2, vi 1, us] [(.int 1), (.ref a1)])) rfl rfl (hb hby d17_27) _ k) ?_
 clear hin1 Hs1 Ng1 Sz1 Ar1 cl1
 refine G (fun t k => XS.istore X0.here hx rfl (hb hby d17_28) rfl (l' := #[vr a1, vi 1, vi 3, vi p4, vi 1, vi 2, vi 1, vi (own_at ts (1 : Int32))]) rfl (XS.iload X0.here hx rfl (hb hby d17_30) rfl (XS.iloadN X0.here hx rfl (hb hby d17_32) rfl k))) ?_
 show Go _ _ _ (s₁.setTop (mkF m 33 #[vr a1, vi 1, vi 3, vi p4, vi 1, vi 2, vi 1, vi (own_at ts (1 : Int32))] [(.int p4), (.int (own_at ts (1 : Int32)))])) _
 by_cases hc2 : (own_at ts (1 : Int32)) < p4
 ·refine G (fun t k => XS.icmpNo X0.here hx rfl (hb hby d17_33) rfl (tlt hc2).2.1 (XS.iload X0.here hx rfl (hb hby d17_36) rfl (XS.iconst X0.here hx rfl (hb hby d17_38) (XS.iadd X0.here hx rfl (hb hby d17_39) rfl (XS.istore X0.here hx rfl (hb hby d17_40) rfl (l' := #[vr a1, vi 1, vi 3, vi p4, vi 2, vi 2, vi 1, vi (own_at ts (1 : Int32))]) rfl (XS.goto X0.here hx rfl (pc0 := 42) (pc' := 63) rfl (hb hby d17_42) (by decide) (by decide) k)))))) ?_
  refine G (fun t k => XS.goto X0.here hx rfl (pc0 := 63) (pc' := 8) rfl (hb hby d17_63) (by decide) (by decide) k) ?_
  show Go _ _ _ (s₁.setTop (mkF m 8 #[vr a1, vi 1, vi 3, vi p4, vi 2, vi 2, vi 1, vi (own_at ts (1 : Int32))] [])) _
  refine G (fun t k => XS.iload X0.here hx rfl (hb hby d17_8) rfl (XS.iload X0.here hx rfl (hb hby d17_10) rfl (XS.icmpNo X0.here hx rfl (hb hby d17_12) rfl (flt (by decide : ¬ ((2 : Int32) < (2 : Int32)))).2.2.1 (XS.iload X0.here hx rfl (hb hby d17_15) rfl (XS.iload X0.here hx rfl (hb hby d17_17) rfl (XS.iadd X0.here hx rfl (hb hby d17_19) rfl k)))))) ?_
  refine G (fun t k => XS.iconst X0.here hx rfl (hb hby d17_20) k) ?_
  show Go _ _ _ (s₁.setTop (mkF m 21 #[vr a1, vi 1, vi 3, vi p4, vi 2, vi 2, vi 1, vi (own_at ts (1 : Int32))] [(.int 1), (.int 4)])) _
  refine G (fun t k => XS.iushr X0.here hx rfl (hb hby d17_21) rfl k) ?_
  show Go _ _ _ (s₁.setTop (mkF m 22 #[vr a1, vi 1, vi 3, vi p4, vi 2, vi 2, vi 1, vi (own_at ts (1 : Int32))] [(.int (((4 : Int32).toUInt32 >>> ((1 : Int32) &&& 31).toUInt32).toInt32))])) _
  refine Go.fr (g' := (mkF m 22 #[vr a1, vi 1, vi 3, vi p4, vi 2, vi 2, vi 1, vi (own_at ts (1 : Int32))] [(.int 2)])) (by rw [show (((4 : Int32).toUInt32 >>> ((1 : Int32) &&& 31).toUInt32).toInt32) = (2 : Int32) from by decide]) ?_
  show Go _ _ _ (s₁.setTop (mkF m 22 #[vr a1, vi 1, vi 3, vi p4, vi 2, vi 2, vi 1, vi (own_at ts (1 : Int32))] [(.int 2)])) _
  refine G (fun t k => XS.istore X0.here hx rfl (hb hby d17_22) rfl (l' := #[vr a1, vi 1, vi 3, vi p4, vi 2, vi 2, vi 2, vi (own_at ts (1 : Int32))]) rfl (XS.aloadN X0.here hx rfl (hb hby d17_24) rfl rfl (XS.iload X0.here hx rfl (hb hby d17_25) rfl k))) ?_
  obtain ⟨cl3, Ar3, -, Sz3, Ng3, Hs3, -⟩ := id V_t
  have hin3 := inb_of (j := (2 : Int32)) (c := cl3) Sz3 ⟨by decide, own_ltl (2 : Int32) (3 : Int32) _ (by decide) hnn⟩
  refine G (fun t k => X0.iaload hx (j := (2 : Int32)) (v := (.int (own_at ts (2 : Int32)))) (by rw [e0]; exact Ar3.1) (State.isArrayOf_alike hZ.alike Ar3.2.1) Ar3.2.2 hin3 (Has.at Hs3 hin3 (own_atv ts (2 : Int32))) (g := (mkF m 27 #[vr a1, vi 1, vi 3, vi p4, vi 2, vi 2, vi 2, vi (own_at ts (1 : Int32))] [(.int 2), (.ref a1)])) rfl rfl (hb hby d17_27) _ k) ?_
  clear hin3 Hs3 Ng3 Sz3 Ar3 cl3
  refine G (fun t k => XS.istore X0.here hx rfl (hb hby d17_28) rfl (l' := #[vr a1, vi 1, vi 3, vi p4, vi 2, vi 2, vi 2, vi (own_at ts (2 : Int32))]) rfl (XS.iload X0.here hx rfl (hb hby d17_30) rfl (XS.iloadN X0.here hx rfl (hb hby d17_32) rfl k))) ?_
  show Go _ _ _ (s₁.setTop (mkF m 33 #[vr a1, vi 1, vi 3, vi p4, vi 2, vi 2, vi 2, vi (own_at ts (2 : Int32))] [(.int p4), (.int (own_at ts (2 : Int32)))])) _
  by_cases hc4 : (own_at ts (2 : Int32)) < p4
  ·refine G (fun t k => XS.icmpNo X0.here hx rfl (hb hby d17_33) rfl (tlt hc4).2.1 (XS.iload X0.here hx rfl (hb hby d17_36) rfl (XS.iconst X0.here hx rfl (hb hby d17_38) (XS.iadd X0.here hx rfl (hb hby d17_39) rfl (XS.istore X0.here hx rfl (hb hby d17_40) rfl (l' := #[vr a1, vi 1, vi 3, vi p4, vi 3, vi 2, vi 2, vi (own_at ts (2 : Int32))]) rfl (XS.goto X0.here hx rfl (pc0 := 42) (pc' := 63) rfl (hb hby d17_42) (by decide) (by decide) k)))))) ?_
   refine G (fun t k => XS.goto X0.here hx rfl (pc0 := 63) (pc' := 8) rfl (hb hby d17_63) (by decide) (by decide) k) ?_
   show Go _ _ _ (s₁.setTop (mkF m 8 #[vr a1, vi 1, vi 3, vi p4, vi 3, vi 2, vi 2, vi (own_at ts (2 : Int32))] [])) _
   refine G (fun t k => XS.iload X0.here hx rfl (hb hby d17_8) rfl (XS.iload X0.here hx rfl (hb hby d17_10) rfl (XS.icmpYes X0.here hx rfl (pc0 := 12) (pc' := 66) rfl (hb hby d17_12) rfl (tlt (by decide : (2 : Int32) < (3 : Int32))).2.2.1 (by decide) (by decide) (XS.iload X0.here hx rfl (hb hby d17_66) rfl (XS.iconst X0.here hx rfl (hb hby d17_68) (XS.iadd X0.here hx rfl (hb hby d17_69) rfl k)))))) ?_
   refine G (fun t k => XS.ineg X0.here hx rfl (hb hby d17_70) rfl k) ?_
   show Go _ _ _ (s₁.setTop (mkF m 71 #[vr a1, vi 1, vi 3, vi p4, vi 3, vi 2, vi 2, vi (own_at ts (2 : Int32))] [(.int (-4))])) _
   obtain ⟨fs, hr, hrun, hended, hW, hsame⟩ := X0.leave (v := some (.int (-4 : Int32))) (fun h => by rw [Bd.returns] at h; cases h)
   refine Go.fin (retOut X0 hx Bd.returns rfl (Or.inl ⟨rfl, Or.inl rfl, _, rfl⟩) (hb hby d17_71) hr) hrun hended ⟨_, _, rfl, ?_, ⟨_, rfl⟩, hW, hsame.mono (by decide) (by decide)⟩
   show Q17_13 Z a1 p4 k_t ts w_n h0 n0 _ s₁.heap _
   rw [e0]
   exact ⟨(by unfold f17_13; simp only [if_pos hc2, if_pos hc4]), N0, rfl⟩
  ·refine G (fun t k => XS.icmpYes X0.here hx rfl (pc0 := 33) (pc' := 45) rfl (hb hby d17_33) rfl (flt hc4).2.1 (by decide) (by decide) (XS.iload X0.here hx rfl (hb hby d17_45) rfl (XS.iloadN X0.here hx rfl (hb hby d17_47) rfl k))) ?_
   by_cases hc5 : p4 < (own_at ts (2 : Int32))
   ·refine G (fun t k => XS.icmpNo X0.here hx rfl (hb hby d17_48) rfl (tlt hc5).2.2.2 (XS.iload X0.here hx rfl (hb hby d17_51) rfl (XS.iconst X0.here hx rfl (hb hby d17_53) (XS.isub X0.here hx rfl (hb hby d17_54) rfl k)))) ?_
    show Go _ _ _ (s₁.setTop (mkF m 55 #[vr a1, vi 1, vi 3, vi p4, vi 2, vi 2, vi 2, vi (own_at ts (2 : Int32))] [(.int 1)])) _
    refine G (fun t k => XS.istore X0.here hx rfl (hb hby d17_55) rfl (l' := #[vr a1, vi 1, vi 3, vi p4, vi 2, vi 1, vi 2, vi (own_at ts (2 : Int32))]) rfl (XS.goto X0.here hx rfl (pc0 := 57) (pc' := 63) rfl (hb hby d17_57) (by decide) (by decide) (XS.goto X0.here hx rfl (pc0 := 63) (pc' := 8) rfl (hb hby d17_63) (by decide) (by decide) (XS.iload X0.here hx rfl (hb hby d17_8) rfl (XS.iload X0.here hx rfl (hb hby d17_10) rfl (XS.icmpYes X0.here hx rfl (pc0 := 12) (pc' := 66) rfl (hb hby d17_12) rfl (tlt (by decide : (1 : Int32) < (2 : Int32))).2.2.1 (by decide) (by decide) k)))))) ?_
    refine G (fun t k => XS.iload X0.here hx rfl (hb hby d17_66) rfl k) ?_
    show Go _ _ _ (s₁.setTop (mkF m 68 #[vr a1, vi 1, vi 3, vi p4, vi 2, vi 1, vi 2, vi (own_at ts (2 : Int32))] [(.int 2)])) _
    refine G (fun t k => XS.iconst X0.here hx rfl (hb hby d17_68) (XS.iadd X0.here hx rfl (hb hby d17_69) rfl (XS.ineg X0.here hx rfl (hb hby d17_70) rfl k))) ?_
    obtain ⟨fs, hr, hrun, hended, hW, hsame⟩ := X0.leave (v := some (.int (-3 : Int32))) (fun h => by rw [Bd.returns] at h; cases h)
    refine Go.fin (retOut X0 hx Bd.returns rfl (Or.inl ⟨rfl, Or.inl rfl, _, rfl⟩) (hb hby d17_71) hr) hrun hended ⟨_, _, rfl, ?_, ⟨_, rfl⟩, hW, hsame.mono (by decide) (by decide)⟩
    show Q17_13 Z a1 p4 k_t ts w_n h0 n0 _ s₁.heap _
    rw [e0]
    exact ⟨(by unfold f17_13; simp only [if_pos hc2, if_neg hc4, if_pos hc5]), N0, rfl⟩
   ·refine G (fun t k => XS.icmpYes X0.here hx rfl (pc0 := 48) (pc' := 60) rfl (hb hby d17_48) rfl (flt hc5).2.2.2 (by decide) (by decide) (XS.iload X0.here hx rfl (hb hby d17_60) rfl k)) ?_
    obtain ⟨fs, hr, hrun, hended, hW, hsame⟩ := X0.leave (v := some (.int (2 : Int32))) (fun h => by rw [Bd.returns] at h; cases h)
    refine Go.fin (retOut X0 hx Bd.returns rfl (Or.inl ⟨rfl, Or.inl rfl, _, rfl⟩) (hb hby d17_62) hr) hrun hended ⟨_, _, rfl, ?_, ⟨_, rfl⟩, hW, hsame.mono (by decide) (by decide)⟩
    show Q17_13 Z a1 p4 k_t ts w_n h0 n0 _ s₁.heap _
    rw [e0]
    exact ⟨(by unfold f17_13; simp only [if_pos hc2, if_neg hc4, if_neg hc5]), N0, rfl⟩
 ·refine G (fun t k => XS.icmpYes X0.here hx rfl (pc0 := 33) (pc' := 45) rfl (hb hby d17_33) rfl (flt hc2).2.1 (by decide) (by decide) (XS.iload X0.here hx rfl (hb hby d17_45) rfl (XS.iloadN X0.here hx rfl (hb hby d17_47) rfl k))) ?_
  by_cases hc6 : p4 < (own_at ts (1 : Int32))
  ·refine G (fun t k => XS.icmpNo X0.here hx rfl (hb hby d17_48) rfl (tlt hc6).2.2.2 (XS.iload X0.here hx rfl (hb hby d17_51) rfl (XS.iconst X0.here hx rfl (hb hby d17_53) (XS.isub X0.here hx rfl (hb hby d17_54) rfl k)))) ?_
   show Go _ _ _ (s₁.setTop (mkF m 55 #[vr a1, vi 1, vi 3, vi p4, vi 1, vi 2, vi 1, vi (own_at ts (1 : Int32))] [(.int 0)])) _
   refine G (fun t k => XS.istore X0.here hx rfl (hb hby d17_55) rfl (l' := #[vr a1, vi 1, vi 3, vi p4, vi 1, vi 0, vi 1, vi (own_at ts (1 : Int32))]) rfl (XS.goto X0.here hx rfl (pc0 := 57) (pc' := 63) rfl (hb hby d17_57) (by decide) (by decide) (XS.goto X0.here hx rfl (pc0 := 63) (pc' := 8) rfl (hb hby d17_63) (by decide) (by decide) (XS.iload X0.here hx rfl (hb hby d17_8) rfl (XS.iload X0.here hx rfl (hb hby d17_10) rfl (XS.icmpYes X0.here hx rfl (pc0 := 12) (pc' := 66) rfl (hb hby d17_12) rfl (tlt (by decide : (0 : Int32) < (1 : Int32))).2.2.1 (by decide) (by decide) k)))))) ?_
   refine G (fun t k => XS.iload X0.here hx rfl (hb hby d17_66) rfl k) ?_
   show Go _ _ _ (s₁.setTop (mkF m 68 #[vr a1, vi 1, vi 3, vi p4, vi 1, vi 0, vi 1, vi (own_at ts (1 : Int32))] [(.int 1)])) _
   refine G (fun t k => XS.iconst X0.here hx rfl (hb hby d17_68) (XS.iadd X0.here hx rfl (hb hby d17_69) rfl (XS.ineg X0.here hx rfl (hb hby d17_70) rfl k))) ?_
   obtain ⟨fs, hr, hrun, hended, hW, hsame⟩ := X0.leave (v := some (.int (-2 : Int32))) (fun h => by rw [Bd.returns] at h; cases h)
   refine Go.fin (retOut X0 hx Bd.returns rfl (Or.inl ⟨rfl, Or.inl rfl, _, rfl⟩) (hb hby d17_71) hr) hrun hended ⟨_, _, rfl, ?_, ⟨_, rfl⟩, hW, hsame.mono (by decide) (by decide)⟩
   show Q17_13 Z a1 p4 k_t ts w_n h0 n0 _ s₁.heap _
   rw [e0]
   exact ⟨(by unfold f17_13; simp only [if_neg hc2, if_pos hc6]), N0, rfl⟩
  ·refine G (fun t k => XS.icmpYes X0.here hx rfl (pc0 := 48) (pc' := 60) rfl (hb hby d17_48) rfl (flt hc6).2.2.2 (by decide) (by decide) (XS.iload X0.here hx rfl (hb hby d17_60) rfl k)) ?_
   obtain ⟨fs, hr, hrun, hended, hW, hsame⟩ := X0.leave (v := some (.int (1 : Int32))) (fun h => by rw [Bd.returns] at h; cases h)
   refine Go.fin (retOut X0 hx Bd.returns rfl (Or.inl ⟨rfl, Or.inl rfl, _, rfl⟩) (hb hby d17_62) hr) hrun hended ⟨_, _, rfl, ?_, ⟨_, rfl⟩, hW, hsame.mono (by decide) (by decide)⟩
   show Q17_13 Z a1 p4 k_t ts w_n h0 n0 _ s₁.heap _
   rw [e0]
   exact ⟨(by unfold f17_13; simp only [if_neg hc2, if_neg hc6]), N0, rfl⟩
def Q15_13 (Z : State) (a1 : Addr) (p4 : Int32) (k_t : ClassId) (ts : List Int32) (w_n : Int32) (h0 : Heap) (n0 : Nat) (v : Option Value) (h : Heap) (L : List Loc) : Prop := v = some (.int (f17_13 p4 ts)) ∧ Fr n0 L ∧ h = h0
theorem ef15_13 (m : MethodId) (x0 : Addr) (x3 : Int32) : entryFrame m #[(.ref x0), (.int (1 : Int32)), (.int (3 : Int32)), (.int x3)] 4 = mkF m 0 #[.val (.ref x0), .val (.int (1 : Int32)), .val (.int (3 : Int32)), .val (.int x3)] [] := by first | (simp [entryFrame, mkF, argsToLocals, Value.category]; done) | rfl
theorem rm15_13 (l : Launch) (Z : State) (a0 : Array Value) (hw : HW a0 Z) (ws : List Jvm.Cond) (a1 : Addr) (p4 : Int32) (k_t : ClassId) (ts : List Int32) (w_n : Int32) (h0 : Heap) (n0 : Nat) (Z0 : n0 ≤ h0.size) (V_t : Arv Z h0 a1 k_t .int w_n (List.map Value.int ts) (.int (0 : Int32))) (hnn : ¬ w_n < (3 : Int32)) :
  MetFree l (⟨"java/util/Arrays", "binarySearch", "([IIII)I"⟩ : MethodName) (head1 (Jvm.Cond.code (⟨"java/util/Arrays", "binarySearch", "([IIII)I"⟩ : MethodName) cB15 4 (some .int) :: ws) (Rm 1 0 0 19)) (Pr Z h0 #[(.ref a1), (.int (1 : Int32)), (.int (3 : Int32)), (.int p4)]) Tr (fun _ U o U' => ∃ v L, o = .returned v ∧ Q15_13 Z a1 p4 k_t ts w_n h0 n0 v U'.heap L ∧ FrameEnd U o U' L (Rm 1 0 0 19).cells (Rm 1 0 0 19).slots) := by
 refine MetFree.of_bodySF (plainFor_of_name pn2) hisR ?_
 intro p e s m args below meth c s₁ Bd hml0 hP hK
 obtain ⟨rfl, hZ, hh⟩ := hP
 have hx := Bd.exec
 have hby := Bd.bytes
 have hml : c.maxLocals = 4 := hml0
 have hown : s.vm.findClass "java/util/Arrays" = some m.cls := findClass_of_methodNamed Bd.named
 have hnm := (name_of_methodNamed Bd.named Bd.method).1
 have X0 : Stand p l e (Rm 1 0 0 19) s m #[(.ref a1), (.int (1 : Int32)), (.int (3 : Int32)), (.int p4)] below meth c s₁ [] 0 0 := Stand.of_body Bd
 have e0 : s₁.heap = h0 := by rw [← hh, Bd.state]; rfl
 have N0 := Fr.nil n0
 have K0 : Keep h0 h0 [] := Keep.refl h0 _
 refine G (P := fun o U' => ∃ v L, o = .returned v ∧ Q15_13 Z a1 p4 k_t ts w_n h0 n0 v U'.heap L ∧ FrameEnd s o U' L (Rm 1 0 0 19).cells (Rm 1 0 0 19).slots) (fun t k => castTop (ef15_13 m a1 p4) k) ?_
 show Go _ _ _ (s₁.setTop (mkF m 0 #[vr a1, vi 1, vi 3, vi p4] [])) _
 refine G (fun t k => XS.aloadN X0.here hx rfl (hb hby d15_0) rfl rfl k) ?_
 obtain ⟨cl1, Ar1, -, Sz1, Ng1, -, -⟩ := id V_t
 refine G (fun t k => X0.arraylength hx (by rw [e0]; exact Ar1.1) (State.isArrayOf_alike hZ.alike Ar1.2.1) (g := (mkF m 1 #[vr a1, vi 1, vi 3, vi p4] [(.ref a1)])) rfl rfl (hb hby d15_1) _ k) ?_
 rw [len_of Sz1 Ng1]
 clear Ng1 Sz1 Ar1 cl1
 refine G (fun t k => XS.iloadN X0.here hx rfl (hb hby d15_2) rfl (XS.iloadN X0.here hx rfl (hb hby d15_3) rfl k)) ?_
 obtain ⟨_, _, ⟨T2, L2, k2, n2⟩, -, X2, ⟨Lc2, hQ2, l2, y2, z2⟩, st2⟩ := Jvm.LawKit.callS X0 hx (y := (⟨"java/util/Arrays", "rangeCheck", "(III)V"⟩ : MethodName)) hown (mvT hZ (wd88 hw)) (mvT hZ (wd89 hw)) (mvT hZ (wd31 hw)) (mvT hZ (wd90 hw)) (by decide) (backOf (W := 0) (rm16 l Z a0 hw [] w_n (1 : Int32) (3 : Int32) h0 n0 Z0 (by decide) (by decide) hnn) hZ (wd90 hw) (wd31 hw) (by decide) (by decide)) (g := (mkF m 4 #[vr a1, vi 1, vi 3, vi p4] [(.int 3), (.int 1), (.int w_n)])) rfl (by rw [hml]; rfl) (argsL := [(.int w_n), (.int (1 : Int32)), (.int (3 : Int32))]) (rest := []) (lenOf pd8 rfl) rfl (by show 2 * 0 + _ ≤ _; exact Nat.le_of_eq rfl) (hb hby d15_4) (fun _ _ => ⟨rfl, e0, (by decide : 0 + 0 ≤ _), (by decide : 0 + 0 ≤ _)⟩)
 dsimp only [Pt.U, Pt.locs, Pt.cells, Pt.slots] at X2 l2 y2 z2 st2 hQ2
 subst l2 y2 z2
 refine G st2 ?_
 obtain ⟨rfl, N2q, e2⟩ := hQ2
 have N2 := Fr.app N0 N2q
 refine G (fun t k => XS.aloadN X2.here hx rfl (hb hby d15_7) rfl rfl (XS.iloadN X2.here hx rfl (hb hby d15_8) rfl k)) ?_
 show Go _ _ _ (T2.setTop (mkF m 9 #[vr a1, vi 1, vi 3, vi p4] [(.int 1), (.ref a1)])) _
 refine G (fun t k => XS.iloadN X2.here hx rfl (hb hby d15_9) rfl (XS.iloadN X2.here hx rfl (hb hby d15_10) rfl k)) ?_
 obtain ⟨_, _, ⟨T3, L3, k3, n3⟩, -, X3, ⟨Lc3, hQ3, l3, y3, z3⟩, st3⟩ := Jvm.LawKit.callS X2 hx (y := (⟨"java/util/Arrays", "binarySearch0", "([IIII)I"⟩ : MethodName)) hown (mvT hZ (wd91 hw)) (mvT hZ (wd92 hw)) (mvT hZ (wd31 hw)) (mvT hZ (wd93 hw)) (by decide) (backOf (W := 0) (rm17_13 l Z a0 hw [] a1 p4 k_t ts w_n h0 n0 Z0 V_t hnn) hZ (wd93 hw) (wd31 hw) (by decide) (by decide)) (g := (mkF m 11 #[vr a1, vi 1, vi 3, vi p4] [(.int p4), (.int 3), (.int 1), (.ref a1)])) rfl (by rw [hml]; rfl) (argsL := [(.ref a1), (.int (1 : Int32)), (.int (3 : Int32)), (.int p4)]) (rest := []) (lenOf pd9 rfl) rfl (by show 2 * 0 + _ ≤ _; exact Nat.le_of_eq rfl) (hb hby d15_11) (fun _ _ => ⟨rfl, e2, (by decide : 0 + 0 ≤ _), (by decide : 0 + 0 ≤ _)⟩)
 dsimp only [Pt.U, Pt.locs, Pt.cells, Pt.slots] at X3 l3 y3 z3 st3 hQ3
 subst l3 y3 z3
 refine G st3 ?_
 obtain ⟨rfl, N3q, e3⟩ := hQ3
 have N3 := Fr.app N2 N3q
 obtain ⟨fs, hr, hrun, hended, hW, hsame⟩ := X3.leave (v := some (.int (f17_13 p4 ts))) (fun h => by rw [Bd.returns] at h; cases h)
 refine Go.fin (retOut X3 hx Bd.returns rfl (Or.inl ⟨rfl, Or.inl rfl, _, rfl⟩) (hb hby d15_14) hr) hrun hended ⟨_, _, rfl, ?_, ⟨_, rfl⟩, hW, hsame.mono (by decide) (by decide)⟩
 show Q15_13 Z a1 p4 k_t ts w_n h0 n0 _ T3.heap _
 rw [e3]
 exact ⟨rfl, N3, rfl⟩
def f14_13 (p3 : Int32) (ts : List Int32) : Int32 := (if (f17_13 p3 ts) < (0 : Int32) then (0 : Int32) else (1 : Int32))
def Q14_13 (Z : State) (a1 : Addr) (p2 : Int32) (p3 : Int32) (w_s : Addr) (k_s : ClassId) (X : List Int32) (w_t : Addr) (k_t : ClassId) (ts : List Int32) (w_n : Int32) (h0 : Heap) (n0 : Nat) (v : Option Value) (h : Heap) (L : List Loc) : Prop := v = some (.int (f14_13 p3 ts)) ∧ Fr n0 L ∧ h = h0
theorem ef14_13 (m : MethodId) (x0 : Addr) (x1 : Int32) (x2 : Int32) : entryFrame m #[(.ref x0), (.int x1), (.int x2)] 3 = mkF m 0 #[.val (.ref x0), .val (.int x1), .val (.int x2)] [] := by first | (simp [entryFrame, mkF, argsToLocals, Value.category]; done) | rfl
theorem rm14_13 (l : Launch) (Z : State) (a0 : Array Value) (hw : HW a0 Z) (ws : List Jvm.Cond) (a1 : Addr) (p2 : Int32) (p3 : Int32) (w_s : Addr) (k_s : ClassId) (X : List Int32) (w_t : Addr) (k_t : ClassId) (ts : List Int32) (w_n : Int32) (h0 : Heap) (n0 : Nat) (Z0 : n0 ≤ h0.size) (F_a1_a : Fld Z h0 a1 RC "start" "[I" (.ref w_s)) (V_s : Arv Z h0 w_s k_s .int (9 : Int32) (List.map Value.int X) (.int (0 : Int32))) (F_a1_t : Fld Z h0 a1 RC "targets" "[I" (.ref w_t)) (V_t : Arv Z h0 w_t k_t .int w_n (List.map Value.int ts) (.int (0 : Int32))) (hib : ¬ p2 < 0 ∧ p2 < (9 : Int32)) (hib1 : ¬ (p2 + (1 : Int32)) < 0 ∧ (p2 + (1 : Int32)) < (9 : Int32)) (hlo : own_at X p2 = (1 : Int32)) (hhi : own_at X (p2 + (1 : Int32)) = (3 : Int32)) (hnn : ¬ w_n < (3 : Int32)) :
  MetFree l (⟨RC, "contains", "(II)Z"⟩ : MethodName) (head1 (Jvm.Cond.code (⟨RC, "contains", "(II)Z"⟩ : MethodName) cB14 3 (some .boolean) :: ws) (Rm 2 0 0 34)) (Pr Z h0 #[(.ref a1), (.int p2), (.int p3)]) Tr (fun _ U o U' => ∃ v L, o = .returned v ∧ Q14_13 Z a1 p2 p3 w_s k_s X w_t k_t ts w_n h0 n0 v U'.heap L ∧ FrameEnd U o U' L (Rm 2 0 0 34).cells (Rm 2 0 0 34).slots) := by
 refine MetFree.of_bodySF (plainFor_of_name pn4) hisR ?_
 intro p e s m args below meth c s₁ Bd hml0 hP hK
 obtain ⟨rfl, hZ, hh⟩ := hP
 have hx := Bd.exec
 have hby := Bd.bytes
 have hml : c.maxLocals = 3 := hml0
 have hown : s.vm.findClass RC = some m.cls := findClass_of_methodNamed Bd.named
 have hnm := (name_of_methodNamed Bd.named Bd.method).1
 have X0 : Stand p l e (Rm 2 0 0 34) s m #[(.ref a1), (.int p2), (.int p3)] below meth c s₁ [] 0 0 := Stand.of_body Bd
 have e0 : s₁.heap = h0 := by rw [← hh, Bd.state]; rfl
 have N0 := Fr.nil n0
 have K0 : Keep h0 h0 [] := Keep.refl h0 _
 refine G (P := fun o U' => ∃ v L, o = .returned v ∧ Q14_13 Z a1 p2 p3 w_s k_s X w_t k_t ts w_n h0 n0 v U'.heap L ∧ FrameEnd s o U' L (Rm 2 0 0 34).cells (Rm 2 0 0 34).slots) (fun t k => castTop (ef14_13 m a1 p2 p3) k) ?_
 show Go _ _ _ (s₁.setTop (mkF m 0 #[vr a1, vi p2, vi p3] [])) _
 refine G (fun t k => XS.aloadN X0.here hx rfl (hb hby d14_0) rfl rfl k) ?_
 obtain ⟨T1, X1, e1, st1⟩ := getF X0 hx hZ hown (host := "") (Or.inl (wd73 hw)) Via.refl e0 F_a1_t (g := (mkF m 1 #[vr a1, vi p2, vi p3] [(.ref a1)])) rfl rfl (hb hby d14_1)
 refine G st1 ?_
 refine G (fun t k => XS.aloadN X1.here hx rfl (hb hby d14_4) rfl rfl k) ?_
 obtain ⟨T2, X2, e2, st2⟩ := getF X1 hx hZ hown (host := "") (Or.inl (wd71 hw)) Via.refl e1 F_a1_a (g := (mkF m 5 #[vr a1, vi p2, vi p3] [(.ref a1), (.ref w_t)])) rfl rfl (hb hby d14_5)
 refine G st2 ?_
 refine G (fun t k => XS.iloadN X2.here hx rfl (hb hby d14_8) rfl k) ?_
 obtain ⟨cl3, Ar3, -, Sz3, Ng3, Hs3, -⟩ := id V_s
 have hin3 := inb_of (j := p2) (c := cl3) Sz3 hib
 refine G (fun t k => X2.iaload hx (j := p2) (v := (.int (1 : Int32))) (by rw [e2]; exact Ar3.1) (State.isArrayOf_alike hZ.alike Ar3.2.1) Ar3.2.2 hin3 (Has.at Hs3 hin3 ((own_atv X p2).trans (congrArg Value.int hlo))) (g := (mkF m 9 #[vr a1, vi p2, vi p3] [(.int p2), (.ref w_s), (.ref w_t)])) rfl rfl (hb hby d14_9) _ k) ?_
 clear hin3 Hs3 Ng3 Sz3 Ar3 cl3
 refine G (fun t k => XS.aloadN X2.here hx rfl (hb hby d14_10) rfl rfl k) ?_
 show Go _ _ _ (T2.setTop (mkF m 11 #[vr a1, vi p2, vi p3] [(.ref a1), (.int 1), (.ref w_t)])) _
 obtain ⟨T4, X4, e4, st4⟩ := getF X2 hx hZ hown (host := "") (Or.inl (wd71 hw)) Via.refl e2 F_a1_a (g := (mkF m 11 #[vr a1, vi p2, vi p3] [(.ref a1), (.int 1), (.ref w_t)])) rfl rfl (hb hby d14_11)
 refine G st4 ?_
 refine G (fun t k => XS.iloadN X4.here hx rfl (hb hby d14_14) rfl (XS.iconst X4.here hx rfl (hb hby d14_15) (XS.iadd X4.here hx rfl (hb hby d14_16) rfl k))) ?_
 obtain ⟨cl5, Ar5, -, Sz5, Ng5, Hs5, -⟩ := id V_s
 have hin5 := inb_of (j := (p2 + (1 : Int32))) (c := cl5) Sz5 hib1
 refine G (fun t k => X4.iaload hx (j := (p2 + (1 : Int32))) (v := (.int (3 : Int32))) (by rw [e4]; exact Ar5.1) (State.isArrayOf_alike hZ.alike Ar5.2.1) Ar5.2.2 hin5 (Has.at Hs5 hin5 ((own_atv X (p2 + (1 : Int32))).trans (congrArg Value.int hhi))) (g := (mkF m 17 #[vr a1, vi p2, vi p3] [(.int (p2 + (1 : Int32))), (.ref w_s), (.int 1), (.ref w_t)])) rfl rfl (hb hby d14_17) _ k) ?_
 clear hin5 Hs5 Ng5 Sz5 Ar5 cl5
 refine G (fun t k => XS.iloadN X4.here hx rfl (hb hby d14_18) rfl k) ?_
 obtain ⟨_, _, ⟨T6, L6, k6, n6⟩, -, X6, ⟨Lc6, hQ6, l6, y6, z6⟩, st6⟩ := Jvm.LawKit.callS X4 hx (y := (⟨"java/util/Arrays", "binarySearch", "([IIII)I"⟩ : MethodName)) hown (mvT hZ (wd85 hw)) (mvT hZ (wd86 hw)) (mvT hZ (wd31 hw)) (mvT hZ (wd87 hw)) (by decide) (backOf (W := 0) (rm15_13 l Z a0 hw [] w_t p3 k_t ts w_n h0 n0 Z0 V_t hnn) hZ (wd87 hw) (wd31 hw) (by decide) (by decide)) (g := (mkF m 19 #[vr a1, vi p2, vi p3] [(.int p3), (.int 3), (.int 1), (.ref w_t)])) rfl (by rw [hml]; rfl) (argsL := [(.ref w_t), (.int (1 : Int32)), (.int (3 : Int32)), (.int p3)]) (rest := []) (lenOf pd9 rfl) rfl (by show 2 * 0 + _ ≤ _; exact Nat.le_of_eq rfl) (hb hby d14_19) (fun _ _ => ⟨rfl, e4, (by decide : 0 + 0 ≤ _), (by decide : 0 + 0 ≤ _)⟩)
 dsimp only [Pt.U, Pt.locs, Pt.cells, Pt.slots] at X6 l6 y6 z6 st6 hQ6
 subst l6 y6 z6
 refine G st6 ?_
 obtain ⟨rfl, N6q, e6⟩ := hQ6
 have N6 := Fr.app N0 N6q
 show Go _ _ _ (T6.setTop (mkF m 22 #[vr a1, vi p2, vi p3] [(.int (f17_13 p3 ts))])) _
 by_cases hc7 : (f17_13 p3 ts) < (0 : Int32)
 ·refine G (fun t k => XS.ifYes X6.here hx rfl (pc0 := 22) (pc' := 29) rfl (hb hby d14_22) rfl ((if0 _ _).trans (tlt hc7).1) (by decide) (by decide) (XS.iconst X6.here hx rfl (hb hby d14_29) k)) ?_
  obtain ⟨fs, hr, hrun, hended, hW, hsame⟩ := X6.leave (v := some (.int (0 : Int32))) (fun h => by rw [Bd.returns] at h; cases h)
  refine Go.fin (retN X6 hx (t := .boolean) Bd.returns (by simp) (hb hby d14_30) hr) hrun hended ⟨_, _, rfl, ?_, ⟨_, rfl⟩, hW, hsame.mono (by decide) (by decide)⟩
  show Q14_13 Z a1 p2 p3 w_s k_s X w_t k_t ts w_n h0 n0 _ T6.heap _
  rw [e6]
  exact ⟨(by unfold f14_13; simp only [if_pos hc7]), N6, rfl⟩
 ·refine G (fun t k => XS.ifNo X6.here hx rfl (hb hby d14_22) rfl ((if0 _ _).trans (flt hc7).1) (XS.iconst X6.here hx rfl (hb hby d14_25) (XS.goto X6.here hx rfl (pc0 := 26) (pc' := 30) rfl (hb hby d14_26) (by decide) (by decide) k))) ?_
  obtain ⟨fs, hr, hrun, hended, hW, hsame⟩ := X6.leave (v := some (.int (1 : Int32))) (fun h => by rw [Bd.returns] at h; cases h)
  refine Go.fin (retN X6 hx (t := .boolean) Bd.returns (by simp) (hb hby d14_30) hr) hrun hended ⟨_, _, rfl, ?_, ⟨_, rfl⟩, hW, hsame.mono (by decide) (by decide)⟩
  show Q14_13 Z a1 p2 p3 w_s k_s X w_t k_t ts w_n h0 n0 _ T6.heap _
  rw [e6]
  exact ⟨(by unfold f14_13; simp only [if_neg hc7]), N6, rfl⟩
def f17_23 (p4 : Int32) (ts : List Int32) : Int32 := (if (own_at ts (2 : Int32)) < p4 then (-4 : Int32) else (if p4 < (own_at ts (2 : Int32)) then (-3 : Int32) else (2 : Int32)))
def Q17_23 (Z : State) (a1 : Addr) (p4 : Int32) (k_t : ClassId) (ts : List Int32) (w_n : Int32) (h0 : Heap) (n0 : Nat) (v : Option Value) (h : Heap) (L : List Loc) : Prop := v = some (.int (f17_23 p4 ts)) ∧ Fr n0 L ∧ h = h0
theorem ef17_23 (m : MethodId) (x0 : Addr) (x3 : Int32) : entryFrame m #[(.ref x0), (.int (2 : Int32)), (.int (3 : Int32)), (.int x3)] 8 = mkF m 0 #[.val (.ref x0), .val (.int (2 : Int32)), .val (.int (3 : Int32)), .val (.int x3), .unset, .unset, .unset, .unset] [] := by first | (simp [entryFrame, mkF, argsToLocals, Value.category]; done) | rfl
theorem rm17_23 (l : Launch) (Z : State) (a0 : Array Value) (hw : HW a0 Z) (ws : List Jvm.Cond) (a1 : Addr) (p4 : Int32) (k_t : ClassId) (ts : List Int32) (w_n : Int32) (h0 : Heap) (n0 : Nat) (Z0 : n0 ≤ h0.size) (V_t : Arv Z h0 a1 k_t .int w_n (List.map Value.int ts) (.int (0 : Int32))) (hnn : ¬ w_n < (3 : Int32)) :
  MetFree l (⟨"java/util/Arrays", "binarySearch0", "([IIII)I"⟩ : MethodName) (head1 (Jvm.Cond.code (⟨"java/util/Arrays", "binarySearch0", "([IIII)I"⟩ : MethodName) cB17 8 (some .int) :: ws) (Rm 0 0 0 0)) (Pr Z h0 #[(.ref a1), (.int (2 : Int32)), (.int (3 : Int32)), (.int p4)]) Tr (fun _ U o U' => ∃ v L, o = .returned v ∧ Q17_23 Z a1 p4 k_t ts w_n h0 n0 v U'.heap L ∧ FrameEnd U o U' L (Rm 0 0 0 0).cells (Rm 0 0 0 0).slots) := by
 refine MetFree.of_bodySF (plainFor_of_name pn2) hisR ?_
 intro p e s m args below meth c s₁ Bd hml0 hP hK
 obtain ⟨rfl, hZ, hh⟩ := hP
 have hx := Bd.exec
 have hby := Bd.bytes
 have hml : c.maxLocals = 8 := hml0
 have hown : s.vm.findClass "java/util/Arrays" = some m.cls := findClass_of_methodNamed Bd.named
 have hnm := (name_of_methodNamed Bd.named Bd.method).1
 have X0 : Stand p l e (Rm 0 0 0 0) s m #[(.ref a1), (.int (2 : Int32)), (.int (3 : Int32)), (.int p4)] below meth c s₁ [] 0 0 := Stand.of_body Bd
 have e0 : s₁.heap = h0 := by rw [← hh, Bd.state]; rfl
 have N0 := Fr.nil n0
 have K0 : Keep h0 h0 [] := Keep.refl h0 _
 refine G (P := fun o U' => ∃ v L, o = .returned v ∧ Q17_23 Z a1 p4 k_t ts w_n h0 n0 v U'.heap L ∧ FrameEnd s o U' L (Rm 0 0 0 0).cells (Rm 0 0 0 0).slots) (fun t k => castTop (ef17_23 m a1 p4) k) ?_
 show Go _ _ _ (s₁.setTop (mkF m 0 #[vr a1, vi 2, vi 3, vi p4, us, us, us, us] [])) _
 refine G (fun t k => XS.iloadN X0.here hx rfl (hb hby d17_0) rfl (XS.istore X0.here hx rfl (hb hby d17_1) rfl (l' := #[vr a1, vi 2, vi 3, vi p4, vi 2, us, us, us]) rfl (XS.iloadN X0.here hx rfl (hb hby d17_3) rfl (XS.iconst X0.here hx rfl (hb hby d17_4) (XS.isub X0.here hx rfl (hb hby d17_5) rfl (XS.istore X0.here hx rfl (hb hby d17_6) rfl (l' := #[vr a1, vi 2, vi 3, vi p4, vi 2, vi 2, us, us]) rfl k)))))) ?_
 refine G (fun t k => XS.iload X0.here hx rfl (hb hby d17_8) rfl k) ?_
 show Go _ _ _ (s₁.setTop (mkF m 10 #[vr a1, vi 2, vi 3, vi p4, vi 2, vi 2, us, us] [(.int 2)])) _
 refine G (fun t k => XS.iload X0.here hx rfl (hb hby d17_10) rfl (XS.icmpNo X0.here hx rfl (hb hby d17_12) rfl (flt (by decide : ¬ ((2 : Int32) < (2 : Int32)))).2.2.1 (XS.iload X0.here hx rfl (hb hby d17_15) rfl (XS.iload X0.here hx rfl (hb hby d17_17) rfl (XS.iadd X0.here hx rfl (hb hby d17_19) rfl (XS.iconst X0.here hx rfl (hb hby d17_20) k)))))) ?_
 refine G (fun t k => XS.iushr X0.here hx rfl (hb hby d17_21) rfl k) ?_
 show Go _ _ _ (s₁.setTop (mkF m 22 #[vr a1, vi 2, vi 3, vi p4, vi 2, vi 2, us, us] [(.int (((4 : Int32).toUInt32 >>> ((1 : Int32) &&& 31).toUInt32).toInt32))])) _
 refine Go.fr (g' := (mkF m 22 #[vr a1, vi 2, vi 3, vi p4, vi 2, vi 2, us, us] [(.int 2)])) (by rw [show (((4 : Int32).toUInt32 >>> ((1 : Int32) &&& 31).toUInt32).toInt32) = (2 : Int32) from by decide]) ?_
 show Go _ _ _ (s₁.setTop (mkF m 22 #[vr a1, vi 2, vi 3, vi p4, vi 2, vi 2, us, us] [(.int 2)])) _
 refine G (fun t k => XS.istore X0.here hx rfl (hb hby d17_22) rfl (l' := #[vr a1, vi 2, vi 3, vi p4, vi 2, vi 2, vi 2, us]) rfl (XS.aloadN X0.here hx rfl (hb hby d17_24) rfl rfl (XS.iload X0.here hx rfl (hb hby d17_25) rfl k))) ?_
 obtain ⟨cl1, Ar1, -, Sz1, Ng1, Hs1, -⟩ := id V_t
 have hin1 := inb_of (j := (2 : Int32)) (c := cl1) Sz1 ⟨by decide, own_ltl (2 : Int32) (3 : Int32) _ (by decide) hnn⟩
 refine G (fun t k => X0.iaload hx (j := (2 : Int32)) (v := (.int (own_at ts (2 : Int32)))) (by rw [e0]; exact Ar1.1) (State.isArrayOf_alike hZ.alike Ar1.2.1) Ar1.2.2 hin1 (Has.at Hs1 hin1 (own_atv ts (2 : Int32))) (g := (mkF m 27 #[vr a1, vi 2, vi 3, vi p4, vi 2, vi 2, vi 2, us] [(.int 2), (.ref a1)])) rfl rfl (hb hby d17_27) _ k) ?_
 clear hin1 Hs1 Ng1 Sz1 Ar1 cl1
 refine G (fun t k => XS.istore X0.here hx rfl (hb hby d17_28) rfl (l' := #[vr a1, vi 2, vi 3, vi p4, vi 2, vi 2, vi 2, vi (own_at ts (2 : Int32))]) rfl (XS.iload X0.here hx rfl (hb hby d17_30) rfl (XS.iloadN X0.here hx rfl (hb hby d17_32) rfl k))) ?_
 show Go _ _ _ (s₁.setTop (mkF m 33 #[vr a1, vi 2, vi 3, vi p4, vi 2, vi 2, vi 2, vi (own_at ts (2 : Int32))] [(.int p4), (.int (own_at ts (2 : Int32)))])) _
 by_cases hc2 : (own_at ts (2 : Int32)) < p4
 ·refine G (fun t k => XS.icmpNo X0.here hx rfl (hb hby d17_33) rfl (tlt hc2).2.1 (XS.iload X0.here hx rfl (hb hby d17_36) rfl (XS.iconst X0.here hx rfl (hb hby d17_38) (XS.iadd X0.here hx rfl (hb hby d17_39) rfl (XS.istore X0.here hx rfl (hb hby d17_40) rfl (l' := #[vr a1, vi 2, vi 3, vi p4, vi 3, vi 2, vi 2, vi (own_at ts (2 : Int32))]) rfl (XS.goto X0.here hx rfl (pc0 := 42) (pc' := 63) rfl (hb hby d17_42) (by decide) (by decide) k)))))) ?_
  refine G (fun t k => XS.goto X0.here hx rfl (pc0 := 63) (pc' := 8) rfl (hb hby d17_63) (by decide) (by decide) k) ?_
  show Go _ _ _ (s₁.setTop (mkF m 8 #[vr a1, vi 2, vi 3, vi p4, vi 3, vi 2, vi 2, vi (own_at ts (2 : Int32))] [])) _
  refine G (fun t k => XS.iload X0.here hx rfl (hb hby d17_8) rfl (XS.iload X0.here hx rfl (hb hby d17_10) rfl (XS.icmpYes X0.here hx rfl (pc0 := 12) (pc' := 66) rfl (hb hby d17_12) rfl (tlt (by decide : (2 : Int32) < (3 : Int32))).2.2.1 (by decide) (by decide) (XS.iload X0.here hx rfl (hb hby d17_66) rfl (XS.iconst X0.here hx rfl (hb hby d17_68) (XS.iadd X0.here hx rfl (hb hby d17_69) rfl k)))))) ?_
  refine G (fun t k => XS.ineg X0.here hx rfl (hb hby d17_70) rfl k) ?_
  show Go _ _ _ (s₁.setTop (mkF m 71 #[vr a1, vi 2, vi 3, vi p4, vi 3, vi 2, vi 2, vi (own_at ts (2 : Int32))] [(.int (-4))])) _
  obtain ⟨fs, hr, hrun, hended, hW, hsame⟩ := X0.leave (v := some (.int (-4 : Int32))) (fun h => by rw [Bd.returns] at h; cases h)
  refine Go.fin (retOut X0 hx Bd.returns rfl (Or.inl ⟨rfl, Or.inl rfl, _, rfl⟩) (hb hby d17_71) hr) hrun hended ⟨_, _, rfl, ?_, ⟨_, rfl⟩, hW, hsame.mono (by decide) (by decide)⟩
  show Q17_23 Z a1 p4 k_t ts w_n h0 n0 _ s₁.heap _
  rw [e0]
  exact ⟨(by unfold f17_23; simp only [if_pos hc2]), N0, rfl⟩
 ·refine G (fun t k => XS.icmpYes X0.here hx rfl (pc0 := 33) (pc' := 45) rfl (hb hby d17_33) rfl (flt hc2).2.1 (by decide) (by decide) (XS.iload X0.here hx rfl (hb hby d17_45) rfl (XS.iloadN X0.here hx rfl (hb hby d17_47) rfl k))) ?_
  by_cases hc3 : p4 < (own_at ts (2 : Int32))
  ·refine G (fun t k => XS.icmpNo X0.here hx rfl (hb hby d17_48) rfl (tlt hc3).2.2.2 (XS.iload X0.here hx rfl (hb hby d17_51) rfl (XS.iconst X0.here hx rfl (hb hby d17_53) (XS.isub X0.here hx rfl (hb hby d17_54) rfl k)))) ?_
   show Go _ _ _ (s₁.setTop (mkF m 55 #[vr a1, vi 2, vi 3, vi p4, vi 2, vi 2, vi 2, vi (own_at ts (2 : Int32))] [(.int 1)])) _
   refine G (fun t k => XS.istore X0.here hx rfl (hb hby d17_55) rfl (l' := #[vr a1, vi 2, vi 3, vi p4, vi 2, vi 1, vi 2, vi (own_at ts (2 : Int32))]) rfl (XS.goto X0.here hx rfl (pc0 := 57) (pc' := 63) rfl (hb hby d17_57) (by decide) (by decide) (XS.goto X0.here hx rfl (pc0 := 63) (pc' := 8) rfl (hb hby d17_63) (by decide) (by decide) (XS.iload X0.here hx rfl (hb hby d17_8) rfl (XS.iload X0.here hx rfl (hb hby d17_10) rfl (XS.icmpYes X0.here hx rfl (pc0 := 12) (pc' := 66) rfl (hb hby d17_12) rfl (tlt (by decide : (1 : Int32) < (2 : Int32))).2.2.1 (by decide) (by decide) k)))))) ?_
   refine G (fun t k => XS.iload X0.here hx rfl (hb hby d17_66) rfl k) ?_
   show Go _ _ _ (s₁.setTop (mkF m 68 #[vr a1, vi 2, vi 3, vi p4, vi 2, vi 1, vi 2, vi (own_at ts (2 : Int32))] [(.int 2)])) _
   refine G (fun t k => XS.iconst X0.here hx rfl (hb hby d17_68) (XS.iadd X0.here hx rfl (hb hby d17_69) rfl (XS.ineg X0.here hx rfl (hb hby d17_70) rfl k))) ?_
   obtain ⟨fs, hr, hrun, hended, hW, hsame⟩ := X0.leave (v := some (.int (-3 : Int32))) (fun h => by rw [Bd.returns] at h; cases h)
   refine Go.fin (retOut X0 hx Bd.returns rfl (Or.inl ⟨rfl, Or.inl rfl, _, rfl⟩) (hb hby d17_71) hr) hrun hended ⟨_, _, rfl, ?_, ⟨_, rfl⟩, hW, hsame.mono (by decide) (by decide)⟩
   show Q17_23 Z a1 p4 k_t ts w_n h0 n0 _ s₁.heap _
   rw [e0]
   exact ⟨(by unfold f17_23; simp only [if_neg hc2, if_pos hc3]), N0, rfl⟩
  ·refine G (fun t k => XS.icmpYes X0.here hx rfl (pc0 := 48) (pc' := 60) rfl (hb hby d17_48) rfl (flt hc3).2.2.2 (by decide) (by decide) (XS.iload X0.here hx rfl (hb hby d17_60) rfl k)) ?_
   obtain ⟨fs, hr, hrun, hended, hW, hsame⟩ := X0.leave (v := some (.int (2 : Int32))) (fun h => by rw [Bd.returns] at h; cases h)
   refine Go.fin (retOut X0 hx Bd.returns rfl (Or.inl ⟨rfl, Or.inl rfl, _, rfl⟩) (hb hby d17_62) hr) hrun hended ⟨_, _, rfl, ?_, ⟨_, rfl⟩, hW, hsame.mono (by decide) (by decide)⟩
   show Q17_23 Z a1 p4 k_t ts w_n h0 n0 _ s₁.heap _
   rw [e0]
   exact ⟨(by unfold f17_23; simp only [if_neg hc2, if_neg hc3]), N0, rfl⟩
def Q15_23 (Z : State) (a1 : Addr) (p4 : Int32) (k_t : ClassId) (ts : List Int32) (w_n : Int32) (h0 : Heap) (n0 : Nat) (v : Option Value) (h : Heap) (L : List Loc) : Prop := v = some (.int (f17_23 p4 ts)) ∧ Fr n0 L ∧ h = h0
theorem ef15_23 (m : MethodId) (x0 : Addr) (x3 : Int32) : entryFrame m #[(.ref x0), (.int (2 : Int32)), (.int (3 : Int32)), (.int x3)] 4 = mkF m 0 #[.val (.ref x0), .val (.int (2 : Int32)), .val (.int (3 : Int32)), .val (.int x3)] [] := by first | (simp [entryFrame, mkF, argsToLocals, Value.category]; done) | rfl
theorem rm15_23 (l : Launch) (Z : State) (a0 : Array Value) (hw : HW a0 Z) (ws : List Jvm.Cond) (a1 : Addr) (p4 : Int32) (k_t : ClassId) (ts : List Int32) (w_n : Int32) (h0 : Heap) (n0 : Nat) (Z0 : n0 ≤ h0.size) (V_t : Arv Z h0 a1 k_t .int w_n (List.map Value.int ts) (.int (0 : Int32))) (hnn : ¬ w_n < (3 : Int32)) :
  MetFree l (⟨"java/util/Arrays", "binarySearch", "([IIII)I"⟩ : MethodName) (head1 (Jvm.Cond.code (⟨"java/util/Arrays", "binarySearch", "([IIII)I"⟩ : MethodName) cB15 4 (some .int) :: ws) (Rm 1 0 0 19)) (Pr Z h0 #[(.ref a1), (.int (2 : Int32)), (.int (3 : Int32)), (.int p4)]) Tr (fun _ U o U' => ∃ v L, o = .returned v ∧ Q15_23 Z a1 p4 k_t ts w_n h0 n0 v U'.heap L ∧ FrameEnd U o U' L (Rm 1 0 0 19).cells (Rm 1 0 0 19).slots) := by
 refine MetFree.of_bodySF (plainFor_of_name pn2) hisR ?_
 intro p e s m args below meth c s₁ Bd hml0 hP hK
 obtain ⟨rfl, hZ, hh⟩ := hP
 have hx := Bd.exec
 have hby := Bd.bytes
 have hml : c.maxLocals = 4 := hml0
 have hown : s.vm.findClass "java/util/Arrays" = some m.cls := findClass_of_methodNamed Bd.named
 have hnm := (name_of_methodNamed Bd.named Bd.method).1
 have X0 : Stand p l e (Rm 1 0 0 19) s m #[(.ref a1), (.int (2 : Int32)), (.int (3 : Int32)), (.int p4)] below meth c s₁ [] 0 0 := Stand.of_body Bd
 have e0 : s₁.heap = h0 := by rw [← hh, Bd.state]; rfl
 have N0 := Fr.nil n0
 have K0 : Keep h0 h0 [] := Keep.refl h0 _
 refine G (P := fun o U' => ∃ v L, o = .returned v ∧ Q15_23 Z a1 p4 k_t ts w_n h0 n0 v U'.heap L ∧ FrameEnd s o U' L (Rm 1 0 0 19).cells (Rm 1 0 0 19).slots) (fun t k => castTop (ef15_23 m a1 p4) k) ?_
 show Go _ _ _ (s₁.setTop (mkF m 0 #[vr a1, vi 2, vi 3, vi p4] [])) _
 refine G (fun t k => XS.aloadN X0.here hx rfl (hb hby d15_0) rfl rfl k) ?_
 obtain ⟨cl1, Ar1, -, Sz1, Ng1, -, -⟩ := id V_t
 refine G (fun t k => X0.arraylength hx (by rw [e0]; exact Ar1.1) (State.isArrayOf_alike hZ.alike Ar1.2.1) (g := (mkF m 1 #[vr a1, vi 2, vi 3, vi p4] [(.ref a1)])) rfl rfl (hb hby d15_1) _ k) ?_
 rw [len_of Sz1 Ng1]
 clear Ng1 Sz1 Ar1 cl1
 refine G (fun t k => XS.iloadN X0.here hx rfl (hb hby d15_2) rfl (XS.iloadN X0.here hx rfl (hb hby d15_3) rfl k)) ?_
 obtain ⟨_, _, ⟨T2, L2, k2, n2⟩, -, X2, ⟨Lc2, hQ2, l2, y2, z2⟩, st2⟩ := Jvm.LawKit.callS X0 hx (y := (⟨"java/util/Arrays", "rangeCheck", "(III)V"⟩ : MethodName)) hown (mvT hZ (wd88 hw)) (mvT hZ (wd89 hw)) (mvT hZ (wd31 hw)) (mvT hZ (wd90 hw)) (by decide) (backOf (W := 0) (rm16 l Z a0 hw [] w_n (2 : Int32) (3 : Int32) h0 n0 Z0 (by decide) (by decide) hnn) hZ (wd90 hw) (wd31 hw) (by decide) (by decide)) (g := (mkF m 4 #[vr a1, vi 2, vi 3, vi p4] [(.int 3), (.int 2), (.int w_n)])) rfl (by rw [hml]; rfl) (argsL := [(.int w_n), (.int (2 : Int32)), (.int (3 : Int32))]) (rest := []) (lenOf pd8 rfl) rfl (by show 2 * 0 + _ ≤ _; exact Nat.le_of_eq rfl) (hb hby d15_4) (fun _ _ => ⟨rfl, e0, (by decide : 0 + 0 ≤ _), (by decide : 0 + 0 ≤ _)⟩)
 dsimp only [Pt.U, Pt.locs, Pt.cells, Pt.slots] at X2 l2 y2 z2 st2 hQ2
 subst l2 y2 z2
 refine G st2 ?_
 obtain ⟨rfl, N2q, e2⟩ := hQ2
 have N2 := Fr.app N0 N2q
 refine G (fun t k => XS.aloadN X2.here hx rfl (hb hby d15_7) rfl rfl (XS.iloadN X2.here hx rfl (hb hby d15_8) rfl k)) ?_
 show Go _ _ _ (T2.setTop (mkF m 9 #[vr a1, vi 2, vi 3, vi p4] [(.int 2), (.ref a1)])) _
 refine G (fun t k => XS.iloadN X2.here hx rfl (hb hby d15_9) rfl (XS.iloadN X2.here hx rfl (hb hby d15_10) rfl k)) ?_
 obtain ⟨_, _, ⟨T3, L3, k3, n3⟩, -, X3, ⟨Lc3, hQ3, l3, y3, z3⟩, st3⟩ := Jvm.LawKit.callS X2 hx (y := (⟨"java/util/Arrays", "binarySearch0", "([IIII)I"⟩ : MethodName)) hown (mvT hZ (wd91 hw)) (mvT hZ (wd92 hw)) (mvT hZ (wd31 hw)) (mvT hZ (wd93 hw)) (by decide) (backOf (W := 0) (rm17_23 l Z a0 hw [] a1 p4 k_t ts w_n h0 n0 Z0 V_t hnn) hZ (wd93 hw) (wd31 hw) (by decide) (by decide)) (g := (mkF m 11 #[vr a1, vi 2, vi 3, vi p4] [(.int p4), (.int 3), (.int 2), (.ref a1)])) rfl (by rw [hml]; rfl) (argsL := [(.ref a1), (.int (2 : Int32)), (.int (3 : Int32)), (.int p4)]) (rest := []) (lenOf pd9 rfl) rfl (by show 2 * 0 + _ ≤ _; exact Nat.le_of_eq rfl) (hb hby d15_11) (fun _ _ => ⟨rfl, e2, (by decide : 0 + 0 ≤ _), (by decide : 0 + 0 ≤ _)⟩)
 dsimp only [Pt.U, Pt.locs, Pt.cells, Pt.slots] at X3 l3 y3 z3 st3 hQ3
 subst l3 y3 z3
 refine G st3 ?_
 obtain ⟨rfl, N3q, e3⟩ := hQ3
 have N3 := Fr.app N2 N3q
 obtain ⟨fs, hr, hrun, hended, hW, hsame⟩ := X3.leave (v := some (.int (f17_23 p4 ts))) (fun h => by rw [Bd.returns] at h; cases h)
 refine Go.fin (retOut X3 hx Bd.returns rfl (Or.inl ⟨rfl, Or.inl rfl, _, rfl⟩) (hb hby d15_14) hr) hrun hended ⟨_, _, rfl, ?_, ⟨_, rfl⟩, hW, hsame.mono (by decide) (by decide)⟩
 show Q15_23 Z a1 p4 k_t ts w_n h0 n0 _ T3.heap _
 rw [e3]
 exact ⟨rfl, N3, rfl⟩
def f14_23 (p3 : Int32) (ts : List Int32) : Int32 := (if (f17_23 p3 ts) < (0 : Int32) then (0 : Int32) else (1 : Int32))
def Q14_23 (Z : State) (a1 : Addr) (p2 : Int32) (p3 : Int32) (w_s : Addr) (k_s : ClassId) (X : List Int32) (w_t : Addr) (k_t : ClassId) (ts : List Int32) (w_n : Int32) (h0 : Heap) (n0 : Nat) (v : Option Value) (h : Heap) (L : List Loc) : Prop := v = some (.int (f14_23 p3 ts)) ∧ Fr n0 L ∧ h = h0
theorem ef14_23 (m : MethodId) (x0 : Addr) (x1 : Int32) (x2 : Int32) : entryFrame m #[(.ref x0), (.int x1), (.int x2)] 3 = mkF m 0 #[.val (.ref x0), .val (.int x1), .val (.int x2)] [] := by first | (simp [entryFrame, mkF, argsToLocals, Value.category]; done) | rfl
theorem rm14_23 (l : Launch) (Z : State) (a0 : Array Value) (hw : HW a0 Z) (ws : List Jvm.Cond) (a1 : Addr) (p2 : Int32) (p3 : Int32) (w_s : Addr) (k_s : ClassId) (X : List Int32) (w_t : Addr) (k_t : ClassId) (ts : List Int32) (w_n : Int32) (h0 : Heap) (n0 : Nat) (Z0 : n0 ≤ h0.size) (F_a1_a : Fld Z h0 a1 RC "start" "[I" (.ref w_s)) (V_s : Arv Z h0 w_s k_s .int (9 : Int32) (List.map Value.int X) (.int (0 : Int32))) (F_a1_t : Fld Z h0 a1 RC "targets" "[I" (.ref w_t)) (V_t : Arv Z h0 w_t k_t .int w_n (List.map Value.int ts) (.int (0 : Int32))) (hib : ¬ p2 < 0 ∧ p2 < (9 : Int32)) (hib1 : ¬ (p2 + (1 : Int32)) < 0 ∧ (p2 + (1 : Int32)) < (9 : Int32)) (hlo : own_at X p2 = (2 : Int32)) (hhi : own_at X (p2 + (1 : Int32)) = (3 : Int32)) (hnn : ¬ w_n < (3 : Int32)) :
  MetFree l (⟨RC, "contains", "(II)Z"⟩ : MethodName) (head1 (Jvm.Cond.code (⟨RC, "contains", "(II)Z"⟩ : MethodName) cB14 3 (some .boolean) :: ws) (Rm 2 0 0 34)) (Pr Z h0 #[(.ref a1), (.int p2), (.int p3)]) Tr (fun _ U o U' => ∃ v L, o = .returned v ∧ Q14_23 Z a1 p2 p3 w_s k_s X w_t k_t ts w_n h0 n0 v U'.heap L ∧ FrameEnd U o U' L (Rm 2 0 0 34).cells (Rm 2 0 0 34).slots) := by
 refine MetFree.of_bodySF (plainFor_of_name pn4) hisR ?_
 intro p e s m args below meth c s₁ Bd hml0 hP hK
 obtain ⟨rfl, hZ, hh⟩ := hP
 have hx := Bd.exec
 have hby := Bd.bytes
 have hml : c.maxLocals = 3 := hml0
 have hown : s.vm.findClass RC = some m.cls := findClass_of_methodNamed Bd.named
 have hnm := (name_of_methodNamed Bd.named Bd.method).1
 have X0 : Stand p l e (Rm 2 0 0 34) s m #[(.ref a1), (.int p2), (.int p3)] below meth c s₁ [] 0 0 := Stand.of_body Bd
 have e0 : s₁.heap = h0 := by rw [← hh, Bd.state]; rfl
 have N0 := Fr.nil n0
 have K0 : Keep h0 h0 [] := Keep.refl h0 _
 refine G (P := fun o U' => ∃ v L, o = .returned v ∧ Q14_23 Z a1 p2 p3 w_s k_s X w_t k_t ts w_n h0 n0 v U'.heap L ∧ FrameEnd s o U' L (Rm 2 0 0 34).cells (Rm 2 0 0 34).slots) (fun t k => castTop (ef14_23 m a1 p2 p3) k) ?_
 show Go _ _ _ (s₁.setTop (mkF m 0 #[vr a1, vi p2, vi p3] [])) _
 refine G (fun t k => XS.aloadN X0.here hx rfl (hb hby d14_0) rfl rfl k) ?_
 obtain ⟨T1, X1, e1, st1⟩ := getF X0 hx hZ hown (host := "") (Or.inl (wd73 hw)) Via.refl e0 F_a1_t (g := (mkF m 1 #[vr a1, vi p2, vi p3] [(.ref a1)])) rfl rfl (hb hby d14_1)
 refine G st1 ?_
 refine G (fun t k => XS.aloadN X1.here hx rfl (hb hby d14_4) rfl rfl k) ?_
 obtain ⟨T2, X2, e2, st2⟩ := getF X1 hx hZ hown (host := "") (Or.inl (wd71 hw)) Via.refl e1 F_a1_a (g := (mkF m 5 #[vr a1, vi p2, vi p3] [(.ref a1), (.ref w_t)])) rfl rfl (hb hby d14_5)
 refine G st2 ?_
 refine G (fun t k => XS.iloadN X2.here hx rfl (hb hby d14_8) rfl k) ?_
 obtain ⟨cl3, Ar3, -, Sz3, Ng3, Hs3, -⟩ := id V_s
 have hin3 := inb_of (j := p2) (c := cl3) Sz3 hib
 refine G (fun t k => X2.iaload hx (j := p2) (v := (.int (2 : Int32))) (by rw [e2]; exact Ar3.1) (State.isArrayOf_alike hZ.alike Ar3.2.1) Ar3.2.2 hin3 (Has.at Hs3 hin3 ((own_atv X p2).trans (congrArg Value.int hlo))) (g := (mkF m 9 #[vr a1, vi p2, vi p3] [(.int p2), (.ref w_s), (.ref w_t)])) rfl rfl (hb hby d14_9) _ k) ?_
 clear hin3 Hs3 Ng3 Sz3 Ar3 cl3
 refine G (fun t k => XS.aloadN X2.here hx rfl (hb hby d14_10) rfl rfl k) ?_
 show Go _ _ _ (T2.setTop (mkF m 11 #[vr a1, vi p2, vi p3] [(.ref a1), (.int 2), (.ref w_t)])) _
 obtain ⟨T4, X4, e4, st4⟩ := getF X2 hx hZ hown (host := "") (Or.inl (wd71 hw)) Via.refl e2 F_a1_a (g := (mkF m 11 #[vr a1, vi p2, vi p3] [(.ref a1), (.int 2), (.ref w_t)])) rfl rfl (hb hby d14_11)
 refine G st4 ?_
 refine G (fun t k => XS.iloadN X4.here hx rfl (hb hby d14_14) rfl (XS.iconst X4.here hx rfl (hb hby d14_15) (XS.iadd X4.here hx rfl (hb hby d14_16) rfl k))) ?_
 obtain ⟨cl5, Ar5, -, Sz5, Ng5, Hs5, -⟩ := id V_s
 have hin5 := inb_of (j := (p2 + (1 : Int32))) (c := cl5) Sz5 hib1
 refine G (fun t k => X4.iaload hx (j := (p2 + (1 : Int32))) (v := (.int (3 : Int32))) (by rw [e4]; exact Ar5.1) (State.isArrayOf_alike hZ.alike Ar5.2.1) Ar5.2.2 hin5 (Has.at Hs5 hin5 ((own_atv X (p2 + (1 : Int32))).trans (congrArg Value.int hhi))) (g := (mkF m 17 #[vr a1, vi p2, vi p3] [(.int (p2 + (1 : Int32))), (.ref w_s), (.int 2), (.ref w_t)])) rfl rfl (hb hby d14_17) _ k) ?_
 clear hin5 Hs5 Ng5 Sz5 Ar5 cl5
 refine G (fun t k => XS.iloadN X4.here hx rfl (hb hby d14_18) rfl k) ?_
 obtain ⟨_, _, ⟨T6, L6, k6, n6⟩, -, X6, ⟨Lc6, hQ6, l6, y6, z6⟩, st6⟩ := Jvm.LawKit.callS X4 hx (y := (⟨"java/util/Arrays", "binarySearch", "([IIII)I"⟩ : MethodName)) hown (mvT hZ (wd85 hw)) (mvT hZ (wd86 hw)) (mvT hZ (wd31 hw)) (mvT hZ (wd87 hw)) (by decide) (backOf (W := 0) (rm15_23 l Z a0 hw [] w_t p3 k_t ts w_n h0 n0 Z0 V_t hnn) hZ (wd87 hw) (wd31 hw) (by decide) (by decide)) (g := (mkF m 19 #[vr a1, vi p2, vi p3] [(.int p3), (.int 3), (.int 2), (.ref w_t)])) rfl (by rw [hml]; rfl) (argsL := [(.ref w_t), (.int (2 : Int32)), (.int (3 : Int32)), (.int p3)]) (rest := []) (lenOf pd9 rfl) rfl (by show 2 * 0 + _ ≤ _; exact Nat.le_of_eq rfl) (hb hby d14_19) (fun _ _ => ⟨rfl, e4, (by decide : 0 + 0 ≤ _), (by decide : 0 + 0 ≤ _)⟩)
 dsimp only [Pt.U, Pt.locs, Pt.cells, Pt.slots] at X6 l6 y6 z6 st6 hQ6
 subst l6 y6 z6
 refine G st6 ?_
 obtain ⟨rfl, N6q, e6⟩ := hQ6
 have N6 := Fr.app N0 N6q
 show Go _ _ _ (T6.setTop (mkF m 22 #[vr a1, vi p2, vi p3] [(.int (f17_23 p3 ts))])) _
 by_cases hc7 : (f17_23 p3 ts) < (0 : Int32)
 ·refine G (fun t k => XS.ifYes X6.here hx rfl (pc0 := 22) (pc' := 29) rfl (hb hby d14_22) rfl ((if0 _ _).trans (tlt hc7).1) (by decide) (by decide) (XS.iconst X6.here hx rfl (hb hby d14_29) k)) ?_
  obtain ⟨fs, hr, hrun, hended, hW, hsame⟩ := X6.leave (v := some (.int (0 : Int32))) (fun h => by rw [Bd.returns] at h; cases h)
  refine Go.fin (retN X6 hx (t := .boolean) Bd.returns (by simp) (hb hby d14_30) hr) hrun hended ⟨_, _, rfl, ?_, ⟨_, rfl⟩, hW, hsame.mono (by decide) (by decide)⟩
  show Q14_23 Z a1 p2 p3 w_s k_s X w_t k_t ts w_n h0 n0 _ T6.heap _
  rw [e6]
  exact ⟨(by unfold f14_23; simp only [if_pos hc7]), N6, rfl⟩
 ·refine G (fun t k => XS.ifNo X6.here hx rfl (hb hby d14_22) rfl ((if0 _ _).trans (flt hc7).1) (XS.iconst X6.here hx rfl (hb hby d14_25) (XS.goto X6.here hx rfl (pc0 := 26) (pc' := 30) rfl (hb hby d14_26) (by decide) (by decide) k))) ?_
  obtain ⟨fs, hr, hrun, hended, hW, hsame⟩ := X6.leave (v := some (.int (1 : Int32))) (fun h => by rw [Bd.returns] at h; cases h)
  refine Go.fin (retN X6 hx (t := .boolean) Bd.returns (by simp) (hb hby d14_30) hr) hrun hended ⟨_, _, rfl, ?_, ⟨_, rfl⟩, hW, hsame.mono (by decide) (by decide)⟩
  show Q14_23 Z a1 p2 p3 w_s k_s X w_t k_t ts w_n h0 n0 _ T6.heap _
  rw [e6]
  exact ⟨(by unfold f14_23; simp only [if_neg hc7]), N6, rfl⟩
theorem own_ge0 {g : Int32} (h : 0 ≤ g.toInt ∧ g.toInt ≤ 3) : ¬ g < (0 : Int32) := by
 rw [Int32.lt_iff_toInt_lt, show (0 : Int32).toInt = 0 from rfl]
 omega
theorem own_gel {g : Int32} (h : 0 ≤ g.toInt ∧ g.toInt ≤ 3) : (g - (1 : Int32)) < g := by
 rw [Int32.lt_iff_toInt_lt, Int32.toInt_sub, show (1 : Int32).toInt = 1 from rfl, Int.bmod_eq_of_le (by omega) (by omega)]
 omega
theorem own_gen {g : Int32} (h : 0 ≤ g.toInt ∧ g.toInt ≤ 3) : (-(g + (1 : Int32))) < (0 : Int32) := by
 have e : (g + (1 : Int32)).toInt = g.toInt + 1 := by rw [Int32.toInt_add, show (1 : Int32).toInt = 1 from rfl, Int.bmod_eq_of_le (by omega) (by omega)]
 rw [Int32.lt_iff_toInt_lt, Int32.toInt_neg, e, show (0 : Int32).toInt = 0 from rfl, Int.bmod_eq_of_le (by omega) (by omega)]
 omega
def Q17_e (Z : State) (a1 : Addr) (p2 : Int32) (p4 : Int32) (k_t : ClassId) (ts : List Int32) (w_n : Int32) (h0 : Heap) (n0 : Nat) (v : Option Value) (h : Heap) (L : List Loc) : Prop := v = some (.int (-(p2 + (1 : Int32)))) ∧ Fr n0 L ∧ h = h0
theorem ef17_e (m : MethodId) (x0 : Addr) (x1 : Int32) (x2 : Int32) (x3 : Int32) : entryFrame m #[(.ref x0), (.int x2), (.int x2), (.int x3)] 8 = mkF m 0 #[.val (.ref x0), .val (.int x2), .val (.int x2), .val (.int x3), .unset, .unset, .unset, .unset] [] := by first | (simp [entryFrame, mkF, argsToLocals, Value.category]; done) | rfl
theorem rm17_e (l : Launch) (Z : State) (a0 : Array Value) (hw : HW a0 Z) (ws : List Jvm.Cond) (a1 : Addr) (p2 : Int32) (p4 : Int32) (k_t : ClassId) (ts : List Int32) (w_n : Int32) (h0 : Heap) (n0 : Nat) (Z0 : n0 ≤ h0.size) (V_t : Arv Z h0 a1 k_t .int w_n (List.map Value.int ts) (.int (0 : Int32))) (hge : 0 ≤ p2.toInt ∧ p2.toInt ≤ 3) (hnn : ¬ w_n < p2) :
  MetFree l (⟨"java/util/Arrays", "binarySearch0", "([IIII)I"⟩ : MethodName) (head1 (Jvm.Cond.code (⟨"java/util/Arrays", "binarySearch0", "([IIII)I"⟩ : MethodName) cB17 8 (some .int) :: ws) (Rm 0 0 0 0)) (Pr Z h0 #[(.ref a1), (.int p2), (.int p2), (.int p4)]) Tr (fun _ U o U' => ∃ v L, o = .returned v ∧ Q17_e Z a1 p2 p4 k_t ts w_n h0 n0 v U'.heap L ∧ FrameEnd U o U' L (Rm 0 0 0 0).cells (Rm 0 0 0 0).slots) := by
 refine MetFree.of_bodySF (plainFor_of_name pn2) hisR ?_
 intro p e s m args below meth c s₁ Bd hml0 hP hK
 obtain ⟨rfl, hZ, hh⟩ := hP
 have hx := Bd.exec
 have hby := Bd.bytes
 have hml : c.maxLocals = 8 := hml0
 have hown : s.vm.findClass "java/util/Arrays" = some m.cls := findClass_of_methodNamed Bd.named
 have hnm := (name_of_methodNamed Bd.named Bd.method).1
 have X0 : Stand p l e (Rm 0 0 0 0) s m #[(.ref a1), (.int p2), (.int p2), (.int p4)] below meth c s₁ [] 0 0 := Stand.of_body Bd
 have e0 : s₁.heap = h0 := by rw [← hh, Bd.state]; rfl
 have N0 := Fr.nil n0
 have K0 : Keep h0 h0 [] := Keep.refl h0 _
 refine G (P := fun o U' => ∃ v L, o = .returned v ∧ Q17_e Z a1 p2 p4 k_t ts w_n h0 n0 v U'.heap L ∧ FrameEnd s o U' L (Rm 0 0 0 0).cells (Rm 0 0 0 0).slots) (fun t k => castTop (ef17_e m a1 p2 p2 p4) k) ?_
 show Go _ _ _ (s₁.setTop (mkF m 0 #[vr a1, vi p2, vi p2, vi p4, us, us, us, us] [])) _
 refine G (fun t k => XS.iloadN X0.here hx rfl (hb hby d17_0) rfl (XS.istore X0.here hx rfl (hb hby d17_1) rfl (l' := #[vr a1, vi p2, vi p2, vi p4, vi p2, us, us, us]) rfl (XS.iloadN X0.here hx rfl (hb hby d17_3) rfl (XS.iconst X0.here hx rfl (hb hby d17_4) (XS.isub X0.here hx rfl (hb hby d17_5) rfl (XS.istore X0.here hx rfl (hb hby d17_6) rfl (l' := #[vr a1, vi p2, vi p2, vi p4, vi p2, vi (p2 - (1 : Int32)), us, us]) rfl k)))))) ?_
 refine G (fun t k => XS.iload X0.here hx rfl (hb hby d17_8) rfl k) ?_
 show Go _ _ _ (s₁.setTop (mkF m 10 #[vr a1, vi p2, vi p2, vi p4, vi p2, vi (p2 - (1 : Int32)), us, us] [(.int p2)])) _
 refine G (fun t k => XS.iload X0.here hx rfl (hb hby d17_10) rfl (XS.icmpYes X0.here hx rfl (pc0 := 12) (pc' := 66) rfl (hb hby d17_12) rfl (tlt (show (p2 - (1 : Int32)) < p2 from own_gel hge)).2.2.1 (by decide) (by decide) (XS.iload X0.here hx rfl (hb hby d17_66) rfl (XS.iconst X0.here hx rfl (hb hby d17_68) (XS.iadd X0.here hx rfl (hb hby d17_69) rfl (XS.ineg X0.here hx rfl (hb hby d17_70) rfl k)))))) ?_
 obtain ⟨fs, hr, hrun, hended, hW, hsame⟩ := X0.leave (v := some (.int (-(p2 + (1 : Int32))))) (fun h => by rw [Bd.returns] at h; cases h)
 refine Go.fin (retOut X0 hx Bd.returns rfl (Or.inl ⟨rfl, Or.inl rfl, _, rfl⟩) (hb hby d17_71) hr) hrun hended ⟨_, _, rfl, ?_, ⟨_, rfl⟩, hW, hsame.mono (by decide) (by decide)⟩
 show Q17_e Z a1 p2 p4 k_t ts w_n h0 n0 _ s₁.heap _
 rw [e0]
 exact ⟨rfl, N0, rfl⟩
def Q15_e (Z : State) (a1 : Addr) (p2 : Int32) (p4 : Int32) (k_t : ClassId) (ts : List Int32) (w_n : Int32) (h0 : Heap) (n0 : Nat) (v : Option Value) (h : Heap) (L : List Loc) : Prop := v = some (.int (-(p2 + (1 : Int32)))) ∧ Fr n0 L ∧ h = h0
theorem ef15_e (m : MethodId) (x0 : Addr) (x1 : Int32) (x2 : Int32) (x3 : Int32) : entryFrame m #[(.ref x0), (.int x2), (.int x2), (.int x3)] 4 = mkF m 0 #[.val (.ref x0), .val (.int x2), .val (.int x2), .val (.int x3)] [] := by first | (simp [entryFrame, mkF, argsToLocals, Value.category]; done) | rfl
theorem rm15_e (l : Launch) (Z : State) (a0 : Array Value) (hw : HW a0 Z) (ws : List Jvm.Cond) (a1 : Addr) (p2 : Int32) (p4 : Int32) (k_t : ClassId) (ts : List Int32) (w_n : Int32) (h0 : Heap) (n0 : Nat) (Z0 : n0 ≤ h0.size) (V_t : Arv Z h0 a1 k_t .int w_n (List.map Value.int ts) (.int (0 : Int32))) (hge : 0 ≤ p2.toInt ∧ p2.toInt ≤ 3) (hnn : ¬ w_n < p2) :
  MetFree l (⟨"java/util/Arrays", "binarySearch", "([IIII)I"⟩ : MethodName) (head1 (Jvm.Cond.code (⟨"java/util/Arrays", "binarySearch", "([IIII)I"⟩ : MethodName) cB15 4 (some .int) :: ws) (Rm 1 0 0 19)) (Pr Z h0 #[(.ref a1), (.int p2), (.int p2), (.int p4)]) Tr (fun _ U o U' => ∃ v L, o = .returned v ∧ Q15_e Z a1 p2 p4 k_t ts w_n h0 n0 v U'.heap L ∧ FrameEnd U o U' L (Rm 1 0 0 19).cells (Rm 1 0 0 19).slots) := by
 refine MetFree.of_bodySF (plainFor_of_name pn2) hisR ?_
 intro p e s m args below meth c s₁ Bd hml0 hP hK
 obtain ⟨rfl, hZ, hh⟩ := hP
 have hx := Bd.exec
 have hby := Bd.bytes
 have hml : c.maxLocals = 4 := hml0
 have hown : s.vm.findClass "java/util/Arrays" = some m.cls := findClass_of_methodNamed Bd.named
 have hnm := (name_of_methodNamed Bd.named Bd.method).1
 have X0 : Stand p l e (Rm 1 0 0 19) s m #[(.ref a1), (.int p2), (.int p2), (.int p4)] below meth c s₁ [] 0 0 := Stand.of_body Bd
 have e0 : s₁.heap = h0 := by rw [← hh, Bd.state]; rfl
 have N0 := Fr.nil n0
 have K0 : Keep h0 h0 [] := Keep.refl h0 _
 refine G (P := fun o U' => ∃ v L, o = .returned v ∧ Q15_e Z a1 p2 p4 k_t ts w_n h0 n0 v U'.heap L ∧ FrameEnd s o U' L (Rm 1 0 0 19).cells (Rm 1 0 0 19).slots) (fun t k => castTop (ef15_e m a1 p2 p2 p4) k) ?_
 show Go _ _ _ (s₁.setTop (mkF m 0 #[vr a1, vi p2, vi p2, vi p4] [])) _
 refine G (fun t k => XS.aloadN X0.here hx rfl (hb hby d15_0) rfl rfl k) ?_
 obtain ⟨cl1, Ar1, -, Sz1, Ng1, -, -⟩ := id V_t
 refine G (fun t k => X0.arraylength hx (by rw [e0]; exact Ar1.1) (State.isArrayOf_alike hZ.alike Ar1.2.1) (g := (mkF m 1 #[vr a1, vi p2, vi p2, vi p4] [(.ref a1)])) rfl rfl (hb hby d15_1) _ k) ?_
 rw [len_of Sz1 Ng1]
 clear Ng1 Sz1 Ar1 cl1
 refine G (fun t k => XS.iloadN X0.here hx rfl (hb hby d15_2) rfl (XS.iloadN X0.here hx rfl (hb hby d15_3) rfl k)) ?_
 obtain ⟨_, _, ⟨T2, L2, k2, n2⟩, -, X2, ⟨Lc2, hQ2, l2, y2, z2⟩, st2⟩ := Jvm.LawKit.callS X0 hx (y := (⟨"java/util/Arrays", "rangeCheck", "(III)V"⟩ : MethodName)) hown (mvT hZ (wd88 hw)) (mvT hZ (wd89 hw)) (mvT hZ (wd31 hw)) (mvT hZ (wd90 hw)) (by decide) (backOf (W := 0) (rm16 l Z a0 hw [] w_n p2 p2 h0 n0 Z0 (fun z => by rw [Int32.lt_iff_toInt_lt] at z; omega) (own_ge0 hge) hnn) hZ (wd90 hw) (wd31 hw) (by decide) (by decide)) (g := (mkF m 4 #[vr a1, vi p2, vi p2, vi p4] [(.int p2), (.int p2), (.int w_n)])) rfl (by rw [hml]; rfl) (argsL := [(.int w_n), (.int p2), (.int p2)]) (rest := []) (lenOf pd8 rfl) rfl (by show 2 * 0 + _ ≤ _; exact Nat.le_of_eq rfl) (hb hby d15_4) (fun _ _ => ⟨rfl, e0, (by decide : 0 + 0 ≤ _), (by decide : 0 + 0 ≤ _)⟩)
 dsimp only [Pt.U, Pt.locs, Pt.cells, Pt.slots] at X2 l2 y2 z2 st2 hQ2
 subst l2 y2 z2
 refine G st2 ?_
 obtain ⟨rfl, N2q, e2⟩ := hQ2
 have N2 := Fr.app N0 N2q
 refine G (fun t k => XS.aloadN X2.here hx rfl (hb hby d15_7) rfl rfl (XS.iloadN X2.here hx rfl (hb hby d15_8) rfl k)) ?_
 show Go _ _ _ (T2.setTop (mkF m 9 #[vr a1, vi p2, vi p2, vi p4] [(.int p2), (.ref a1)])) _
 refine G (fun t k => XS.iloadN X2.here hx rfl (hb hby d15_9) rfl (XS.iloadN X2.here hx rfl (hb hby d15_10) rfl k)) ?_
 obtain ⟨_, _, ⟨T3, L3, k3, n3⟩, -, X3, ⟨Lc3, hQ3, l3, y3, z3⟩, st3⟩ := Jvm.LawKit.callS X2 hx (y := (⟨"java/util/Arrays", "binarySearch0", "([IIII)I"⟩ : MethodName)) hown (mvT hZ (wd91 hw)) (mvT hZ (wd92 hw)) (mvT hZ (wd31 hw)) (mvT hZ (wd93 hw)) (by decide) (backOf (W := 0) (rm17_e l Z a0 hw [] a1 p2 p4 k_t ts w_n h0 n0 Z0 V_t hge hnn) hZ (wd93 hw) (wd31 hw) (by decide) (by decide)) (g := (mkF m 11 #[vr a1, vi p2, vi p2, vi p4] [(.int p4), (.int p2), (.int p2), (.ref a1)])) rfl (by rw [hml]; rfl) (argsL := [(.ref a1), (.int p2), (.int p2), (.int p4)]) (rest := []) (lenOf pd9 rfl) rfl (by show 2 * 0 + _ ≤ _; exact Nat.le_of_eq rfl) (hb hby d15_11) (fun _ _ => ⟨rfl, e2, (by decide : 0 + 0 ≤ _), (by decide : 0 + 0 ≤ _)⟩)
 dsimp only [Pt.U, Pt.locs, Pt.cells, Pt.slots] at X3 l3 y3 z3 st3 hQ3
 subst l3 y3 z3
 refine G st3 ?_
 obtain ⟨rfl, N3q, e3⟩ := hQ3
 have N3 := Fr.app N2 N3q
 obtain ⟨fs, hr, hrun, hended, hW, hsame⟩ := X3.leave (v := some (.int (-(p2 + (1 : Int32))))) (fun h => by rw [Bd.returns] at h; cases h)
 refine Go.fin (retOut X3 hx Bd.returns rfl (Or.inl ⟨rfl, Or.inl rfl, _, rfl⟩) (hb hby d15_14) hr) hrun hended ⟨_, _, rfl, ?_, ⟨_, rfl⟩, hW, hsame.mono (by decide) (by decide)⟩
 show Q15_e Z a1 p2 p4 k_t ts w_n h0 n0 _ T3.heap _
 rw [e3]
 exact ⟨rfl, N3, rfl⟩
def Q14_e (Z : State) (a1 : Addr) (p2 : Int32) (p3 : Int32) (w_s : Addr) (k_s : ClassId) (X : List Int32) (w_t : Addr) (k_t : ClassId) (ts : List Int32) (w_n : Int32) (ge : Int32) (h0 : Heap) (n0 : Nat) (v : Option Value) (h : Heap) (L : List Loc) : Prop := v = some (.int (0 : Int32)) ∧ Fr n0 L ∧ h = h0
theorem ef14_e (m : MethodId) (x0 : Addr) (x1 : Int32) (x2 : Int32) : entryFrame m #[(.ref x0), (.int x1), (.int x2)] 3 = mkF m 0 #[.val (.ref x0), .val (.int x1), .val (.int x2)] [] := by first | (simp [entryFrame, mkF, argsToLocals, Value.category]; done) | rfl
theorem rm14_e (l : Launch) (Z : State) (a0 : Array Value) (hw : HW a0 Z) (ws : List Jvm.Cond) (a1 : Addr) (p2 : Int32) (p3 : Int32) (w_s : Addr) (k_s : ClassId) (X : List Int32) (w_t : Addr) (k_t : ClassId) (ts : List Int32) (w_n : Int32) (ge : Int32) (h0 : Heap) (n0 : Nat) (Z0 : n0 ≤ h0.size) (F_a1_a : Fld Z h0 a1 RC "start" "[I" (.ref w_s)) (V_s : Arv Z h0 w_s k_s .int (9 : Int32) (List.map Value.int X) (.int (0 : Int32))) (F_a1_t : Fld Z h0 a1 RC "targets" "[I" (.ref w_t)) (V_t : Arv Z h0 w_t k_t .int w_n (List.map Value.int ts) (.int (0 : Int32))) (hib : ¬ p2 < 0 ∧ p2 < (9 : Int32)) (hib1 : ¬ (p2 + (1 : Int32)) < 0 ∧ (p2 + (1 : Int32)) < (9 : Int32)) (hlo : own_at X p2 = ge) (hhi : own_at X (p2 + (1 : Int32)) = ge) (hge : 0 ≤ ge.toInt ∧ ge.toInt ≤ 3) (hnn : ¬ w_n < ge) :
  MetFree l (⟨RC, "contains", "(II)Z"⟩ : MethodName) (head1 (Jvm.Cond.code (⟨RC, "contains", "(II)Z"⟩ : MethodName) cB14 3 (some .boolean) :: ws) (Rm 2 0 0 34)) (Pr Z h0 #[(.ref a1), (.int p2), (.int p3)]) Tr (fun _ U o U' => ∃ v L, o = .returned v ∧ Q14_e Z a1 p2 p3 w_s k_s X w_t k_t ts w_n ge h0 n0 v U'.heap L ∧ FrameEnd U o U' L (Rm 2 0 0 34).cells (Rm 2 0 0 34).slots) := by
 refine MetFree.of_bodySF (plainFor_of_name pn4) hisR ?_
 intro p e s m args below meth c s₁ Bd hml0 hP hK
 obtain ⟨rfl, hZ, hh⟩ := hP
 have hx := Bd.exec
 have hby := Bd.bytes
 have hml : c.maxLocals = 3 := hml0
 have hown : s.vm.findClass RC = some m.cls := findClass_of_methodNamed Bd.named
 have hnm := (name_of_methodNamed Bd.named Bd.method).1
 have X0 : Stand p l e (Rm 2 0 0 34) s m #[(.ref a1), (.int p2), (.int p3)] below meth c s₁ [] 0 0 := Stand.of_body Bd
 have e0 : s₁.heap = h0 := by rw [← hh, Bd.state]; rfl
 have N0 := Fr.nil n0
 have K0 : Keep h0 h0 [] := Keep.refl h0 _
 refine G (P := fun o U' => ∃ v L, o = .returned v ∧ Q14_e Z a1 p2 p3 w_s k_s X w_t k_t ts w_n ge h0 n0 v U'.heap L ∧ FrameEnd s o U' L (Rm 2 0 0 34).cells (Rm 2 0 0 34).slots) (fun t k => castTop (ef14_e m a1 p2 p3) k) ?_
 show Go _ _ _ (s₁.setTop (mkF m 0 #[vr a1, vi p2, vi p3] [])) _
 refine G (fun t k => XS.aloadN X0.here hx rfl (hb hby d14_0) rfl rfl k) ?_
 obtain ⟨T1, X1, e1, st1⟩ := getF X0 hx hZ hown (host := "") (Or.inl (wd73 hw)) Via.refl e0 F_a1_t (g := (mkF m 1 #[vr a1, vi p2, vi p3] [(.ref a1)])) rfl rfl (hb hby d14_1)
 refine G st1 ?_
 refine G (fun t k => XS.aloadN X1.here hx rfl (hb hby d14_4) rfl rfl k) ?_
 obtain ⟨T2, X2, e2, st2⟩ := getF X1 hx hZ hown (host := "") (Or.inl (wd71 hw)) Via.refl e1 F_a1_a (g := (mkF m 5 #[vr a1, vi p2, vi p3] [(.ref a1), (.ref w_t)])) rfl rfl (hb hby d14_5)
 refine G st2 ?_
 refine G (fun t k => XS.iloadN X2.here hx rfl (hb hby d14_8) rfl k) ?_
 obtain ⟨cl3, Ar3, -, Sz3, Ng3, Hs3, -⟩ := id V_s
 have hin3 := inb_of (j := p2) (c := cl3) Sz3 hib
 refine G (fun t k => X2.iaload hx (j := p2) (v := (.int ge)) (by rw [e2]; exact Ar3.1) (State.isArrayOf_alike hZ.alike Ar3.2.1) Ar3.2.2 hin3 (Has.at Hs3 hin3 ((own_atv X p2).trans (congrArg Value.int hlo))) (g := (mkF m 9 #[vr a1, vi p2, vi p3] [(.int p2), (.ref w_s), (.ref w_t)])) rfl rfl (hb hby d14_9) _ k) ?_
 clear hin3 Hs3 Ng3 Sz3 Ar3 cl3
 refine G (fun t k => XS.aloadN X2.here hx rfl (hb hby d14_10) rfl rfl k) ?_
 show Go _ _ _ (T2.setTop (mkF m 11 #[vr a1, vi p2, vi p3] [(.ref a1), (.int ge), (.ref w_t)])) _
 obtain ⟨T4, X4, e4, st4⟩ := getF X2 hx hZ hown (host := "") (Or.inl (wd71 hw)) Via.refl e2 F_a1_a (g := (mkF m 11 #[vr a1, vi p2, vi p3] [(.ref a1), (.int ge), (.ref w_t)])) rfl rfl (hb hby d14_11)
 refine G st4 ?_
 refine G (fun t k => XS.iloadN X4.here hx rfl (hb hby d14_14) rfl (XS.iconst X4.here hx rfl (hb hby d14_15) (XS.iadd X4.here hx rfl (hb hby d14_16) rfl k))) ?_
 obtain ⟨cl5, Ar5, -, Sz5, Ng5, Hs5, -⟩ := id V_s
 have hin5 := inb_of (j := (p2 + (1 : Int32))) (c := cl5) Sz5 hib1
 refine G (fun t k => X4.iaload hx (j := (p2 + (1 : Int32))) (v := (.int ge)) (by rw [e4]; exact Ar5.1) (State.isArrayOf_alike hZ.alike Ar5.2.1) Ar5.2.2 hin5 (Has.at Hs5 hin5 ((own_atv X (p2 + (1 : Int32))).trans (congrArg Value.int hhi))) (g := (mkF m 17 #[vr a1, vi p2, vi p3] [(.int (p2 + (1 : Int32))), (.ref w_s), (.int ge), (.ref w_t)])) rfl rfl (hb hby d14_17) _ k) ?_
 clear hin5 Hs5 Ng5 Sz5 Ar5 cl5
 refine G (fun t k => XS.iloadN X4.here hx rfl (hb hby d14_18) rfl k) ?_
 obtain ⟨_, _, ⟨T6, L6, k6, n6⟩, -, X6, ⟨Lc6, hQ6, l6, y6, z6⟩, st6⟩ := Jvm.LawKit.callS X4 hx (y := (⟨"java/util/Arrays", "binarySearch", "([IIII)I"⟩ : MethodName)) hown (mvT hZ (wd85 hw)) (mvT hZ (wd86 hw)) (mvT hZ (wd31 hw)) (mvT hZ (wd87 hw)) (by decide) (backOf (W := 0) (rm15_e l Z a0 hw [] w_t ge p3 k_t ts w_n h0 n0 Z0 V_t hge hnn) hZ (wd87 hw) (wd31 hw) (by decide) (by decide)) (g := (mkF m 19 #[vr a1, vi p2, vi p3] [(.int p3), (.int ge), (.int ge), (.ref w_t)])) rfl (by rw [hml]; rfl) (argsL := [(.ref w_t), (.int ge), (.int ge), (.int p3)]) (rest := []) (lenOf pd9 rfl) rfl (by show 2 * 0 + _ ≤ _; exact Nat.le_of_eq rfl) (hb hby d14_19) (fun _ _ => ⟨rfl, e4, (by decide : 0 + 0 ≤ _), (by decide : 0 + 0 ≤ _)⟩)
 dsimp only [Pt.U, Pt.locs, Pt.cells, Pt.slots] at X6 l6 y6 z6 st6 hQ6
 subst l6 y6 z6
 refine G st6 ?_
 obtain ⟨rfl, N6q, e6⟩ := hQ6
 have N6 := Fr.app N0 N6q
 show Go _ _ _ (T6.setTop (mkF m 22 #[vr a1, vi p2, vi p3] [(.int (-(ge + (1 : Int32))))])) _
 refine G (fun t k => XS.ifYes X6.here hx rfl (pc0 := 22) (pc' := 29) rfl (hb hby d14_22) rfl ((if0 _ _).trans (tlt (show (-(ge + (1 : Int32))) < (0 : Int32) from own_gen hge)).1) (by decide) (by decide) (XS.iconst X6.here hx rfl (hb hby d14_29) k)) ?_
 obtain ⟨fs, hr, hrun, hended, hW, hsame⟩ := X6.leave (v := some (.int (0 : Int32))) (fun h => by rw [Bd.returns] at h; cases h)
 refine Go.fin (retN X6 hx (t := .boolean) Bd.returns (by simp) (hb hby d14_30) hr) hrun hended ⟨_, _, rfl, ?_, ⟨_, rfl⟩, hW, hsame.mono (by decide) (by decide)⟩
 show Q14_e Z a1 p2 p3 w_s k_s X w_t k_t ts w_n ge h0 n0 _ T6.heap _
 rw [e6]
 exact ⟨rfl, N6, rfl⟩
theorem own_X2 : ∀ a b p : Fin 8, own_at (pr8 (bump (Int32.ofInt (b.1 : Int) + 1) (bump (Int32.ofInt (a.1 : Int) + 1) z9))) (Int32.ofInt (p.1 : Int)) = cnt (Int32.ofInt (a.1 : Int)) (Int32.ofInt (p.1 : Int)) + cnt (Int32.ofInt (b.1 : Int)) (Int32.ofInt (p.1 : Int)) ∧ own_at (pr8 (bump (Int32.ofInt (b.1 : Int) + 1) (bump (Int32.ofInt (a.1 : Int) + 1) z9))) (Int32.ofInt (p.1 : Int) + 1) = cnt (Int32.ofInt (a.1 : Int)) (Int32.ofInt (p.1 : Int) + 1) + cnt (Int32.ofInt (b.1 : Int)) (Int32.ofInt (p.1 : Int) + 1) := by decide +kernel
theorem own_X3 : ∀ a b c p : Fin 8, own_at (pr8 (bump (Int32.ofInt (c.1 : Int) + 1) (bump (Int32.ofInt (b.1 : Int) + 1) (bump (Int32.ofInt (a.1 : Int) + 1) z9)))) (Int32.ofInt (p.1 : Int)) = cnt (Int32.ofInt (a.1 : Int)) (Int32.ofInt (p.1 : Int)) + cnt (Int32.ofInt (b.1 : Int)) (Int32.ofInt (p.1 : Int)) + cnt (Int32.ofInt (c.1 : Int)) (Int32.ofInt (p.1 : Int)) ∧ own_at (pr8 (bump (Int32.ofInt (c.1 : Int) + 1) (bump (Int32.ofInt (b.1 : Int) + 1) (bump (Int32.ofInt (a.1 : Int) + 1) z9)))) (Int32.ofInt (p.1 : Int) + 1) = cnt (Int32.ofInt (a.1 : Int)) (Int32.ofInt (p.1 : Int) + 1) + cnt (Int32.ofInt (b.1 : Int)) (Int32.ofInt (p.1 : Int) + 1) + cnt (Int32.ofInt (c.1 : Int)) (Int32.ofInt (p.1 : Int) + 1) := by decide +kernel
def Perm6 (f0 t0 f1 t1 f2 t2 A U B V C W : Int) : Prop :=
 (A = f0 ∧ U = t0 ∧ B = f1 ∧ V = t1 ∧ C = f2 ∧ W = t2) ∨ (A = f0 ∧ U = t0 ∧ B = f2 ∧ V = t2 ∧ C = f1 ∧ W = t1) ∨ (A = f1 ∧ U = t1 ∧ B = f0 ∧ V = t0 ∧ C = f2 ∧ W = t2) ∨
 (A = f1 ∧ U = t1 ∧ B = f2 ∧ V = t2 ∧ C = f0 ∧ W = t0) ∨ (A = f2 ∧ U = t2 ∧ B = f0 ∧ V = t0 ∧ C = f1 ∧ W = t1) ∨ (A = f2 ∧ U = t2 ∧ B = f1 ∧ V = t1 ∧ C = f0 ∧ W = t0)
def Lex (A U B V : Int) : Prop := A < B ∨ (A = B ∧ U ≤ V)
def Srt (f0 t0 f1 t1 f2 t2 : Int32) (s0 s1 s2 : Int64) : Prop := ∃ A U B V C W : Int32, s0 = pk A U ∧ s1 = pk B V ∧ s2 = pk C W ∧
 Perm6 f0.toInt t0.toInt f1.toInt t1.toInt f2.toInt t2.toInt A.toInt U.toInt B.toInt V.toInt C.toInt W.toInt ∧ Lex A.toInt U.toInt B.toInt V.toInt ∧ Lex B.toInt V.toInt C.toInt W.toInt
theorem own_sorted {f0 t0 f1 t1 f2 t2 : Int32} (r0 : 0 ≤ f0.toInt ∧ f0.toInt ≤ 7) (q0 : 0 ≤ t0.toInt) (r1 : 0 ≤ f1.toInt ∧ f1.toInt ≤ 7) (q1 : 0 ≤ t1.toInt) (r2 : 0 ≤ f2.toInt ∧ f2.toInt ≤ 7) (q2 : 0 ≤ t2.toInt) :
  Srt f0 t0 f1 t1 f2 t2 (f10_a1_0 (pk f0 t0) (pk f1 t1) (pk f2 t2)) (f10_a1_1 (pk f0 t0) (pk f1 t1) (pk f2 t2)) (f10_a1_2 (pk f0 t0) (pk f1 t1) (pk f2 t2)) := by
 have e0 := pk_int f0 t0 r0 q0
 have e1 := pk_int f1 t1 r1 q1
 have e2 := pk_int f2 t2 r2 q2
 have l0 := Int32.toInt_lt t0
 have l1 := Int32.toInt_lt t1
 have l2 := Int32.toInt_lt t2
 unfold Srt f10_a1_0 f10_a1_1 f10_a1_2 Perm6 Lex
 by_cases h1 : pk f1 t1 < pk f0 t0 <;> by_cases h2 : pk f2 t2 < pk f0 t0 <;> by_cases h3 : pk f2 t2 < pk f1 t1 <;>
  simp only [h1, h2, h3, if_true, if_false] <;> rw [Int64.lt_iff_toInt_lt, e0, e1] at h1 <;> rw [Int64.lt_iff_toInt_lt, e0, e2] at h2 <;> rw [Int64.lt_iff_toInt_lt, e1, e2] at h3
 ·exact ⟨f2, t2, f1, t1, f0, t0, rfl, rfl, rfl, by simp, by omega, by omega⟩
 ·exact ⟨f1, t1, f2, t2, f0, t0, rfl, rfl, rfl, by simp, by omega, by omega⟩
 ·exfalso; omega
 ·exact ⟨f1, t1, f0, t0, f2, t2, rfl, rfl, rfl, by simp, by omega, by omega⟩
 ·exact ⟨f2, t2, f0, t0, f1, t1, rfl, rfl, rfl, by simp, by omega, by omega⟩
 ·exfalso; omega
 ·exact ⟨f0, t0, f2, t2, f1, t1, rfl, rfl, rfl, by simp, by omega, by omega⟩
 ·exact ⟨f0, t0, f1, t1, f2, t2, rfl, rfl, rfl, by simp, by omega, by omega⟩
def Rg (A U : Int32) : Prop := (0 ≤ A.toInt ∧ A.toInt ≤ 7) ∧ 0 ≤ U.toInt
theorem own_rgs {f0 t0 f1 t1 f2 t2 A U B V C W : Int32} (r0 : 0 ≤ f0.toInt ∧ f0.toInt ≤ 7) (q0 : 0 ≤ t0.toInt) (r1 : 0 ≤ f1.toInt ∧ f1.toInt ≤ 7) (q1 : 0 ≤ t1.toInt) (r2 : 0 ≤ f2.toInt ∧ f2.toInt ≤ 7) (q2 : 0 ≤ t2.toInt)
  (h : Perm6 f0.toInt t0.toInt f1.toInt t1.toInt f2.toInt t2.toInt A.toInt U.toInt B.toInt V.toInt C.toInt W.toInt) : Rg A U ∧ Rg B V ∧ Rg C W := by
 unfold Perm6 at h
 unfold Rg
 omega
theorem own_gi9 {A U : Int32} (h : Rg A U) : ¬ gi (pk A U) < 0 ∧ gi (pk A U) < (9 : Int32) := by
 rw [gi_pk A U h.1 h.2]
 exact own_at8 (fun A => ¬ (A + 1) < 0 ∧ (A + 1) < (9 : Int32)) (by decide +kernel) A h.1
theorem own_gb {f0 t0 f1 t1 f2 t2 : Int32} (r0 : 0 ≤ f0.toInt ∧ f0.toInt ≤ 7) (q0 : 0 ≤ t0.toInt) (r1 : 0 ≤ f1.toInt ∧ f1.toInt ≤ 7) (q1 : 0 ≤ t1.toInt) (r2 : 0 ≤ f2.toInt ∧ f2.toInt ≤ 7) (q2 : 0 ≤ t2.toInt) {s0 s1 s2 : Int64} (h : Srt f0 t0 f1 t1 f2 t2 s0 s1 s2) :
  (¬ gi s0 < 0 ∧ gi s0 < (9 : Int32)) ∧ (¬ gi s1 < 0 ∧ gi s1 < (9 : Int32)) ∧ (¬ gi s2 < 0 ∧ gi s2 < (9 : Int32)) := by
 obtain ⟨A, U, B, V, C, W, rfl, rfl, rfl, hp, -, -⟩ := h
 obtain ⟨g0, g1, g2⟩ := own_rgs r0 q0 r1 q1 r2 q2 hp
 exact ⟨own_gi9 g0, own_gi9 g1, own_gi9 g2⟩
def PL (s0 s1 s2 : Int64) (n : Int32) (X ts : List Int32) : Prop :=
 (s1 = s0 ∧ s2 = s1 ∧ n = 1 ∧ X = pr8 (bump (gi s0) z9) ∧ ts = [s0.toInt32]) ∨ (s1 = s0 ∧ ¬ s2 = s1 ∧ n = 2 ∧ X = pr8 (bump (gi s2) (bump (gi s0) z9)) ∧ ts = [s0.toInt32, s2.toInt32]) ∨
 (¬ s1 = s0 ∧ s2 = s1 ∧ n = 2 ∧ X = pr8 (bump (gi s1) (bump (gi s0) z9)) ∧ ts = [s0.toInt32, s1.toInt32]) ∨ (¬ s1 = s0 ∧ ¬ s2 = s1 ∧ n = 3 ∧ X = pr8 (bump (gi s2) (bump (gi s1) (bump (gi s0) z9))) ∧ ts = [s0.toInt32, s1.toInt32, s2.toInt32])
theorem own_pkeq {A U B V : Int32} (h1 : Rg A U) (h2 : Rg B V) : pk A U = pk B V ↔ A.toInt = B.toInt ∧ U.toInt = V.toInt := by
 rw [← Int64.toInt_inj, pk_int A U h1.1 h1.2, pk_int B V h2.1 h2.2]
 have := Int32.toInt_lt U
 have := Int32.toInt_lt V
 unfold Rg at h1 h2
 omega
-- the law's own numbers
theorem own_e {x a b u v : Int32} (h : x = if ((a = b) ∧ (u = v)) then (1 : Int32) else (0 : Int32)) : (x = 1 ∧ a.toInt = b.toInt ∧ u.toInt = v.toInt) ∨ (x = 0 ∧ ¬ (a.toInt = b.toInt ∧ u.toInt = v.toInt)) := by
 rw [Int32.toInt_inj, Int32.toInt_inj]
 split at h
 ·exact Or.inl ⟨h, ‹_›⟩
 ·exact Or.inr ⟨h, ‹_›⟩
def E01 (x : Int) (P : Prop) : Prop := (x = 1 ∧ P) ∨ (x = 0 ∧ ¬ P)
theorem own_e01 {x : Int32} {P Q : Prop} [Decidable P] (h : x = if P then (1 : Int32) else (0 : Int32)) (q : P ↔ Q) : E01 x.toInt Q := by
 split at h <;> subst h
 ·exact Or.inl ⟨rfl, q.mp ‹_›⟩
 ·exact Or.inr ⟨rfl, fun z => ‹¬ P› (q.mpr z)⟩
theorem own_z {x : Int32} : x = (0 : Int32) ↔ x.toInt = 0 := by rw [← Int32.toInt_inj]; rfl
def b2 (b : Bool) : Int := if b then 1 else 0
theorem E01.b {x : Int} {P Q : Prop} [Decidable Q] (h : E01 x P) (q : P ↔ Q) : x = b2 (decide Q) := by
 rcases h with ⟨rfl, h⟩ | ⟨rfl, h⟩
 ·simp [b2, q.mp h]
 ·have : ¬ Q := fun z => h (q.mpr z)
  simp [b2, this]
theorem E01.c {x : Int} {P Q R : Prop} [Decidable Q] [Decidable R] (h : E01 x P) (q : P ↔ Q ∧ ¬ R) : x = b2 (decide Q && !decide R) := by
 rw [h.b q]
 simp [Bool.decide_and]
theorem E01.d {x : Int} {P Q R S : Prop} [Decidable Q] [Decidable R] [Decidable S] (h : E01 x P) (q : P ↔ Q ∧ ¬ R ∧ ¬ S) : x = b2 (decide Q && !decide R && !decide S) := by
 rw [h.b q]
 simp [Bool.decide_and, Bool.and_assoc]
theorem bC : ∀ e01 e02 e12 p0 p1 p2 : Bool, (e01 = true → p0 = p1) → (e02 = true → p0 = p2) → (e12 = true → p1 = p2) → (e01 = true → e02 = true → e12 = true) → (e01 = true → e12 = true → e02 = true) → (e02 = true → e12 = true → e01 = true) →
  ((e02 = true → e01 = true ∧ e12 = true) → b2 p0 + b2 (p1 && !e01) + b2 (p2 && !e02 && !e12) = b2 p0 + b2 (p1 && !e01) + b2 (p2 && !e12)) ∧
  ((e01 = true → e02 = true ∧ e12 = true) → b2 p0 + b2 (p1 && !e01) + b2 (p2 && !e02 && !e12) = b2 p0 + b2 (p2 && !e02) + b2 (p1 && !e12)) ∧
  ((e12 = true → e01 = true ∧ e02 = true) → b2 p0 + b2 (p1 && !e01) + b2 (p2 && !e02 && !e12) = b2 p1 + b2 (p0 && !e01) + b2 (p2 && !e02)) ∧
  ((e01 = true → e12 = true ∧ e02 = true) → b2 p0 + b2 (p1 && !e01) + b2 (p2 && !e02 && !e12) = b2 p1 + b2 (p2 && !e12) + b2 (p0 && !e02)) ∧
  ((e12 = true → e02 = true ∧ e01 = true) → b2 p0 + b2 (p1 && !e01) + b2 (p2 && !e02 && !e12) = b2 p2 + b2 (p0 && !e02) + b2 (p1 && !e01)) ∧
  ((e02 = true → e12 = true ∧ e01 = true) → b2 p0 + b2 (p1 && !e01) + b2 (p2 && !e02 && !e12) = b2 p2 + b2 (p1 && !e12) + b2 (p0 && !e01)) := by
 intro e01 e02 e12 p0 p1 p2
 cases e01 <;> cases e02 <;> cases e12 <;> cases p0 <;> cases p1 <;> cases p2 <;> simp [b2]
theorem own_dd {P Q : Prop} [Decidable P] [Decidable Q] (h : P ↔ Q) : decide P = decide Q := by simp [h]
theorem own_d2 {P Q R : Prop} [Decidable P] [Decidable Q] [Decidable R] (h : P → Q ∧ R) : decide P = true → decide Q = true ∧ decide R = true := by simp only [decide_eq_true_eq]; exact h
theorem own_d1 {P Q R : Prop} [Decidable P] [Decidable Q] [Decidable R] (h : P → (Q ↔ R)) : decide P = true → decide Q = decide R := fun z => own_dd (h (of_decide_eq_true z))
theorem own_d3 {P Q R : Prop} [Decidable P] [Decidable Q] [Decidable R] (h : P → Q → R) : decide P = true → decide Q = true → decide R = true := by simp only [decide_eq_true_eq]; exact h
theorem iC (f0 t0 f1 t1 f2 t2 A U B V C W x18 x19 x20 ca cb cc za zb zc pf : Int) (hp : Perm6 f0 t0 f1 t1 f2 t2 A U B V C W) (l1 : U ≤ V) (l2 : V ≤ W) (k1 : t0 = t1 → f0 = f1) (k2 : t0 = t2 → f0 = f2) (k3 : t1 = t2 → f1 = f2)
  (h18 : E01 x18 (t0 = t1)) (h19 : E01 x19 (t0 = t2)) (h20 : E01 x20 (t1 = t2)) (ha : E01 ca (f0 = pf)) (hb : E01 cb (f1 = pf ∧ x18 = 0)) (hc : E01 cc (f2 = pf ∧ x19 = 0 ∧ x20 = 0))
  (ga : E01 za (A = pf)) (gb : E01 zb (B = pf ∧ ¬ U = V)) (gc : E01 zc (C = pf ∧ ¬ V = W)) : ca + cb + cc = za + zb + zc := by
 have y18 : x18 = 0 ↔ ¬ t0 = t1 := by unfold E01 at h18; omega
 have y19 : x19 = 0 ↔ ¬ t0 = t2 := by unfold E01 at h19; omega
 have y20 : x20 = 0 ↔ ¬ t1 = t2 := by unfold E01 at h20; omega
 have c1 := ha.b (Q := f0 = pf) Iff.rfl
 have c2 := hb.c (Q := f1 = pf) (R := t0 = t1) (by rw [y18])
 have c3 := hc.d (Q := f2 = pf) (R := t0 = t2) (S := t1 = t2) (by rw [y19, y20])
 have hq := bC (decide (t0 = t1)) (decide (t0 = t2)) (decide (t1 = t2)) (decide (f0 = pf)) (decide (f1 = pf)) (decide (f2 = pf)) (own_d1 (by omega)) (own_d1 (by omega)) (own_d1 (by omega)) (own_d3 (by omega)) (own_d3 (by omega)) (own_d3 (by omega))
 rw [c1, c2, c3]
 clear c1 c2 c3 h18 h19 h20 ha hb hc y18 y19 y20
 rcases hp with ⟨rfl, rfl, rfl, rfl, rfl, rfl⟩ | ⟨rfl, rfl, rfl, rfl, rfl, rfl⟩ | ⟨rfl, rfl, rfl, rfl, rfl, rfl⟩ | ⟨rfl, rfl, rfl, rfl, rfl, rfl⟩ | ⟨rfl, rfl, rfl, rfl, rfl, rfl⟩ | ⟨rfl, rfl, rfl, rfl, rfl, rfl⟩
 ·rw [ga.b Iff.rfl, gb.c Iff.rfl, gc.c Iff.rfl]
  exact hq.1 (own_d2 (by omega))
 ·rw [ga.b Iff.rfl, gb.c Iff.rfl, gc.c (Q := C = pf) (R := W = V) (by omega)]
  exact hq.2.1 (own_d2 (by omega))
 ·rw [ga.b Iff.rfl, gb.c (Q := B = pf) (R := V = U) (by omega), gc.c Iff.rfl]
  exact hq.2.2.1 (own_d2 (by omega))
 ·rw [ga.b Iff.rfl, gb.c Iff.rfl, gc.c (Q := C = pf) (R := W = V) (by omega)]
  exact hq.2.2.2.1 (own_d2 (by omega))
 ·rw [ga.b Iff.rfl, gb.c (Q := B = pf) (R := V = U) (by omega), gc.c Iff.rfl]
  exact hq.2.2.2.2.1 (own_d2 (by omega))
 ·rw [ga.b Iff.rfl, gb.c (Q := B = pf) (R := V = U) (by omega), gc.c (Q := C = pf) (R := W = V) (by omega)]
  exact hq.2.2.2.2.2 (own_d2 (by omega))
theorem iD (f0 t0 f1 t1 f2 t2 A U B V C W x18 x19 x20 da db : Int) (hp : Perm6 f0 t0 f1 t1 f2 t2 A U B V C W) (l1 : U ≤ V) (l2 : V ≤ W)
  (h18 : E01 x18 (t0 = t1)) (h19 : E01 x19 (t0 = t2)) (h20 : E01 x20 (t1 = t2)) (ha : E01 da (x18 = 0)) (hb : E01 db (x19 = 0 ∧ x20 = 0)) (ya yb : Int) (ga : E01 ya (¬ U = V)) (gb : E01 yb (¬ V = W)) : 1 + da + db = 1 + ya + yb := by
 rcases h18 with ⟨rfl, h18⟩ | ⟨rfl, h18⟩ <;> rcases h19 with ⟨rfl, h19⟩ | ⟨rfl, h19⟩ <;> rcases h20 with ⟨rfl, h20⟩ | ⟨rfl, h20⟩ <;> unfold E01 at ha hb ga gb <;>
  rcases hp with ⟨rfl, rfl, rfl, rfl, rfl, rfl⟩ | ⟨rfl, rfl, rfl, rfl, rfl, rfl⟩ | ⟨rfl, rfl, rfl, rfl, rfl, rfl⟩ | ⟨rfl, rfl, rfl, rfl, rfl, rfl⟩ | ⟨rfl, rfl, rfl, rfl, rfl, rfl⟩ | ⟨rfl, rfl, rfl, rfl, rfl, rfl⟩ <;> omega
theorem iI (f0 t0 f1 t1 f2 t2 A U B V C W x pf pt : Int) (hp : Perm6 f0 t0 f1 t1 f2 t2 A U B V C W) (h : E01 x ((pf = f0 ∧ pt = t0) ∨ ((pf = f1 ∧ pt = t1) ∨ (pf = f2 ∧ pt = t2)))) : E01 x ((pf = A ∧ pt = U) ∨ (pf = B ∧ pt = V) ∨ (pf = C ∧ pt = W)) := by
 unfold E01 at *
 rcases hp with ⟨rfl, rfl, rfl, rfl, rfl, rfl⟩ | ⟨rfl, rfl, rfl, rfl, rfl, rfl⟩ | ⟨rfl, rfl, rfl, rfl, rfl, rfl⟩ | ⟨rfl, rfl, rfl, rfl, rfl, rfl⟩ | ⟨rfl, rfl, rfl, rfl, rfl, rfl⟩ | ⟨rfl, rfl, rfl, rfl, rfl, rfl⟩ <;> omega
def Mn (m' m t f pf : Int) : Prop := (f = pf ∧ ((t < m ∧ m' = t) ∨ (m ≤ t ∧ m' = m))) ∨ (¬ f = pf ∧ m' = m)
theorem iM (f0 t0 f1 t1 f2 t2 A U B V C W m1 m2 m3 pf : Int) (hp : Perm6 f0 t0 f1 t1 f2 t2 A U B V C W) (l1 : Lex A U B V) (l2 : Lex B V C W) (k0 : t0 ≤ 2147483647) (k1 : t1 ≤ 2147483647) (k2 : t2 ≤ 2147483647)
  (h1 : Mn m1 2147483647 t0 f0 pf) (h2 : Mn m2 m1 t1 f1 pf) (h3 : Mn m3 m2 t2 f2 pf) : (A = pf → m3 = U) ∧ (¬ A = pf → B = pf → m3 = V) ∧ (¬ A = pf → ¬ B = pf → C = pf → m3 = W) := by
 unfold Lex at l1 l2
 unfold Mn at *
 rcases hp with ⟨rfl, rfl, rfl, rfl, rfl, rfl⟩ | ⟨rfl, rfl, rfl, rfl, rfl, rfl⟩ | ⟨rfl, rfl, rfl, rfl, rfl, rfl⟩ | ⟨rfl, rfl, rfl, rfl, rfl, rfl⟩ | ⟨rfl, rfl, rfl, rfl, rfl, rfl⟩ | ⟨rfl, rfl, rfl, rfl, rfl, rfl⟩ <;> omega

theorem own_is0 {x : Int32} (h : x.toInt = 0) : x = 0 := Int32.toInt_inj.mp h
theorem own_is1 {x : Int32} (h : x.toInt = 1) : x = 1 := Int32.toInt_inj.mp h
theorem con_e {x : Int32} (hx : E01 x.toInt False) : (0 : Int32) = x := by
 rcases hx with ⟨_, h⟩ | ⟨h, _⟩
 ·exact h.elim
 ·exact (own_is0 h).symm
theorem con_01 {ts : List Int32} {p a x : Int32} (ha : own_at ts (0 : Int32) = a) (hx : E01 x.toInt (p.toInt = a.toInt)) : f14_01 p ts = x := by
 have key : (f17_01 p ts < 0 ∧ ¬ (p.toInt = a.toInt)) ∨ (¬ f17_01 p ts < 0 ∧ (p.toInt = a.toInt)) := by
  unfold f17_01
  simp only [ha, Int32.lt_iff_toInt_lt]
  repeat' split
  all_goals first | exact Or.inl ⟨by decide, by omega⟩ | exact Or.inr ⟨by decide, by omega⟩
 unfold f14_01
 rcases key with ⟨k1, k2⟩ | ⟨k1, k2⟩
 ·rw [if_pos k1]
  rcases hx with ⟨_, h⟩ | ⟨h, _⟩
  ·exact absurd h k2
  ·exact (own_is0 h).symm
 ·rw [if_neg k1]
  rcases hx with ⟨h, _⟩ | ⟨_, h⟩
  ·exact (own_is1 h).symm
  ·exact absurd k2 h
theorem con_02 {ts : List Int32} {p a b x : Int32} (ha : own_at ts (0 : Int32) = a) (hb : own_at ts (1 : Int32) = b) (la : a.toInt < b.toInt) (hx : E01 x.toInt (p.toInt = a.toInt ∨ p.toInt = b.toInt)) : f14_02 p ts = x := by
 have key : (f17_02 p ts < 0 ∧ ¬ (p.toInt = a.toInt ∨ p.toInt = b.toInt)) ∨ (¬ f17_02 p ts < 0 ∧ (p.toInt = a.toInt ∨ p.toInt = b.toInt)) := by
  unfold f17_02
  simp only [ha, hb, Int32.lt_iff_toInt_lt]
  repeat' split
  all_goals first | exact Or.inl ⟨by decide, by omega⟩ | exact Or.inr ⟨by decide, by omega⟩
 unfold f14_02
 rcases key with ⟨k1, k2⟩ | ⟨k1, k2⟩
 ·rw [if_pos k1]
  rcases hx with ⟨_, h⟩ | ⟨h, _⟩
  ·exact absurd h k2
  ·exact (own_is0 h).symm
 ·rw [if_neg k1]
  rcases hx with ⟨h, _⟩ | ⟨_, h⟩
  ·exact (own_is1 h).symm
  ·exact absurd k2 h
theorem con_03 {ts : List Int32} {p a b c x : Int32} (ha : own_at ts (0 : Int32) = a) (hb : own_at ts (1 : Int32) = b) (hc : own_at ts (2 : Int32) = c) (la : a.toInt < b.toInt) (lb : b.toInt < c.toInt) (hx : E01 x.toInt (p.toInt = a.toInt ∨ p.toInt = b.toInt ∨ p.toInt = c.toInt)) : f14_03 p ts = x := by
 have key : (f17_03 p ts < 0 ∧ ¬ (p.toInt = a.toInt ∨ p.toInt = b.toInt ∨ p.toInt = c.toInt)) ∨ (¬ f17_03 p ts < 0 ∧ (p.toInt = a.toInt ∨ p.toInt = b.toInt ∨ p.toInt = c.toInt)) := by
  unfold f17_03
  simp only [ha, hb, hc, Int32.lt_iff_toInt_lt]
  repeat' split
  all_goals first | exact Or.inl ⟨by decide, by omega⟩ | exact Or.inr ⟨by decide, by omega⟩
 unfold f14_03
 rcases key with ⟨k1, k2⟩ | ⟨k1, k2⟩
 ·rw [if_pos k1]
  rcases hx with ⟨_, h⟩ | ⟨h, _⟩
  ·exact absurd h k2
  ·exact (own_is0 h).symm
 ·rw [if_neg k1]
  rcases hx with ⟨h, _⟩ | ⟨_, h⟩
  ·exact (own_is1 h).symm
  ·exact absurd k2 h
theorem con_12 {ts : List Int32} {p b x : Int32} (hb : own_at ts (1 : Int32) = b) (hx : E01 x.toInt (p.toInt = b.toInt)) : f14_12 p ts = x := by
 have key : (f17_12 p ts < 0 ∧ ¬ (p.toInt = b.toInt)) ∨ (¬ f17_12 p ts < 0 ∧ (p.toInt = b.toInt)) := by
  unfold f17_12
  simp only [hb, Int32.lt_iff_toInt_lt]
  repeat' split
  all_goals first | exact Or.inl ⟨by decide, by omega⟩ | exact Or.inr ⟨by decide, by omega⟩
 unfold f14_12
 rcases key with ⟨k1, k2⟩ | ⟨k1, k2⟩
 ·rw [if_pos k1]
  rcases hx with ⟨_, h⟩ | ⟨h, _⟩
  ·exact absurd h k2
  ·exact (own_is0 h).symm
 ·rw [if_neg k1]
  rcases hx with ⟨h, _⟩ | ⟨_, h⟩
  ·exact (own_is1 h).symm
  ·exact absurd k2 h
theorem con_13 {ts : List Int32} {p b c x : Int32} (hb : own_at ts (1 : Int32) = b) (hc : own_at ts (2 : Int32) = c) (lb : b.toInt < c.toInt) (hx : E01 x.toInt (p.toInt = b.toInt ∨ p.toInt = c.toInt)) : f14_13 p ts = x := by
 have key : (f17_13 p ts < 0 ∧ ¬ (p.toInt = b.toInt ∨ p.toInt = c.toInt)) ∨ (¬ f17_13 p ts < 0 ∧ (p.toInt = b.toInt ∨ p.toInt = c.toInt)) := by
  unfold f17_13
  simp only [hb, hc, Int32.lt_iff_toInt_lt]
  repeat' split
  all_goals first | exact Or.inl ⟨by decide, by omega⟩ | exact Or.inr ⟨by decide, by omega⟩
 unfold f14_13
 rcases key with ⟨k1, k2⟩ | ⟨k1, k2⟩
 ·rw [if_pos k1]
  rcases hx with ⟨_, h⟩ | ⟨h, _⟩
  ·exact absurd h k2
  ·exact (own_is0 h).symm
 ·rw [if_neg k1]
  rcases hx with ⟨h, _⟩ | ⟨_, h⟩
  ·exact (own_is1 h).symm
  ·exact absurd k2 h
theorem con_23 {ts : List Int32} {p c x : Int32} (hc : own_at ts (2 : Int32) = c) (hx : E01 x.toInt (p.toInt = c.toInt)) : f14_23 p ts = x := by
 have key : (f17_23 p ts < 0 ∧ ¬ (p.toInt = c.toInt)) ∨ (¬ f17_23 p ts < 0 ∧ (p.toInt = c.toInt)) := by
  unfold f17_23
  simp only [hc, Int32.lt_iff_toInt_lt]
  repeat' split
  all_goals first | exact Or.inl ⟨by decide, by omega⟩ | exact Or.inr ⟨by decide, by omega⟩
 unfold f14_23
 rcases key with ⟨k1, k2⟩ | ⟨k1, k2⟩
 ·rw [if_pos k1]
  rcases hx with ⟨_, h⟩ | ⟨h, _⟩
  ·exact absurd h k2
  ·exact (own_is0 h).symm
 ·rw [if_neg k1]
  rcases hx with ⟨h, _⟩ | ⟨_, h⟩
  ·exact (own_is1 h).symm
  ·exact absurd k2 h
theorem cnt_l {A p : Int32} (h : A.toInt < p.toInt) : cnt A p = 1 := if_pos (Int32.lt_iff_toInt_lt.mpr h)
theorem cnt_g {A p : Int32} (h : ¬ A.toInt < p.toInt) : cnt A p = 0 := if_neg (fun z => h (Int32.lt_iff_toInt_lt.mp z))
theorem own_p1 {p : Int32} (h : 0 ≤ p.toInt ∧ p.toInt ≤ 7) : (p + 1).toInt = p.toInt + 1 := own_at8 (fun p => (p + 1).toInt = p.toInt + 1) (by decide +kernel) p h
theorem own_x1 {A p : Int32} (ha : 0 ≤ A.toInt ∧ A.toInt ≤ 7) (hp : 0 ≤ p.toInt ∧ p.toInt ≤ 7) : own_at (pr8 (bump (A + 1) z9)) p = cnt A p ∧ own_at (pr8 (bump (A + 1) z9)) (p + 1) = cnt A (p + 1) :=
 own_at8 (fun A => own_at (pr8 (bump (A + 1) z9)) p = cnt A p ∧ own_at (pr8 (bump (A + 1) z9)) (p + 1) = cnt A (p + 1)) (fun a => own_at8 (fun p => own_at (pr8 (bump (Int32.ofInt (a.1 : Int) + 1) z9)) p = cnt (Int32.ofInt (a.1 : Int)) p ∧ own_at (pr8 (bump (Int32.ofInt (a.1 : Int) + 1) z9)) (p + 1) = cnt (Int32.ofInt (a.1 : Int)) (p + 1)) (fun q => own_X1 a q) p hp) A ha
theorem own_x2 {A B p : Int32} (ha : 0 ≤ A.toInt ∧ A.toInt ≤ 7) (hb : 0 ≤ B.toInt ∧ B.toInt ≤ 7) (hp : 0 ≤ p.toInt ∧ p.toInt ≤ 7) : own_at (pr8 (bump (B + 1) (bump (A + 1) z9))) p = cnt A p + cnt B p ∧ own_at (pr8 (bump (B + 1) (bump (A + 1) z9))) (p + 1) = cnt A (p + 1) + cnt B (p + 1) :=
 own_at8 (fun A => own_at (pr8 (bump (B + 1) (bump (A + 1) z9))) p = cnt A p + cnt B p ∧ own_at (pr8 (bump (B + 1) (bump (A + 1) z9))) (p + 1) = cnt A (p + 1) + cnt B (p + 1)) (fun a => own_at8 (fun B => own_at (pr8 (bump (B + 1) (bump (Int32.ofInt (a.1 : Int) + 1) z9))) p = cnt (Int32.ofInt (a.1 : Int)) p + cnt B p ∧ own_at (pr8 (bump (B + 1) (bump (Int32.ofInt (a.1 : Int) + 1) z9))) (p + 1) = cnt (Int32.ofInt (a.1 : Int)) (p + 1) + cnt B (p + 1)) (fun b => own_at8 (fun p => own_at (pr8 (bump (Int32.ofInt (b.1 : Int) + 1) (bump (Int32.ofInt (a.1 : Int) + 1) z9))) p = cnt (Int32.ofInt (a.1 : Int)) p + cnt (Int32.ofInt (b.1 : Int)) p ∧ own_at (pr8 (bump (Int32.ofInt (b.1 : Int) + 1) (bump (Int32.ofInt (a.1 : Int) + 1) z9))) (p + 1) = cnt (Int32.ofInt (a.1 : Int)) (p + 1) + cnt (Int32.ofInt (b.1 : Int)) (p + 1)) (fun q => own_X2 a b q) p hp) B hb) A ha
theorem own_x3 {A B C p : Int32} (ha : 0 ≤ A.toInt ∧ A.toInt ≤ 7) (hb : 0 ≤ B.toInt ∧ B.toInt ≤ 7) (hc : 0 ≤ C.toInt ∧ C.toInt ≤ 7) (hp : 0 ≤ p.toInt ∧ p.toInt ≤ 7) : own_at (pr8 (bump (C + 1) (bump (B + 1) (bump (A + 1) z9)))) p = cnt A p + cnt B p + cnt C p ∧ own_at (pr8 (bump (C + 1) (bump (B + 1) (bump (A + 1) z9)))) (p + 1) = cnt A (p + 1) + cnt B (p + 1) + cnt C (p + 1) :=
 own_at8 (fun A => own_at (pr8 (bump (C + 1) (bump (B + 1) (bump (A + 1) z9)))) p = cnt A p + cnt B p + cnt C p ∧ own_at (pr8 (bump (C + 1) (bump (B + 1) (bump (A + 1) z9)))) (p + 1) = cnt A (p + 1) + cnt B (p + 1) + cnt C (p + 1)) (fun a => own_at8 (fun B => own_at (pr8 (bump (C + 1) (bump (B + 1) (bump (Int32.ofInt (a.1 : Int) + 1) z9)))) p = cnt (Int32.ofInt (a.1 : Int)) p + cnt B p + cnt C p ∧ own_at (pr8 (bump (C + 1) (bump (B + 1) (bump (Int32.ofInt (a.1 : Int) + 1) z9)))) (p + 1) = cnt (Int32.ofInt (a.1 : Int)) (p + 1) + cnt B (p + 1) + cnt C (p + 1)) (fun b => own_at8 (fun C => own_at (pr8 (bump (C + 1) (bump (Int32.ofInt (b.1 : Int) + 1) (bump (Int32.ofInt (a.1 : Int) + 1) z9)))) p = cnt (Int32.ofInt (a.1 : Int)) p + cnt (Int32.ofInt (b.1 : Int)) p + cnt C p ∧ own_at (pr8 (bump (C + 1) (bump (Int32.ofInt (b.1 : Int) + 1) (bump (Int32.ofInt (a.1 : Int) + 1) z9)))) (p + 1) = cnt (Int32.ofInt (a.1 : Int)) (p + 1) + cnt (Int32.ofInt (b.1 : Int)) (p + 1) + cnt C (p + 1)) (fun c => own_at8 (fun p => own_at (pr8 (bump (Int32.ofInt (c.1 : Int) + 1) (bump (Int32.ofInt (b.1 : Int) + 1) (bump (Int32.ofInt (a.1 : Int) + 1) z9)))) p = cnt (Int32.ofInt (a.1 : Int)) p + cnt (Int32.ofInt (b.1 : Int)) p + cnt (Int32.ofInt (c.1 : Int)) p ∧ own_at (pr8 (bump (Int32.ofInt (c.1 : Int) + 1) (bump (Int32.ofInt (b.1 : Int) + 1) (bump (Int32.ofInt (a.1 : Int) + 1) z9)))) (p + 1) = cnt (Int32.ofInt (a.1 : Int)) (p + 1) + cnt (Int32.ofInt (b.1 : Int)) (p + 1) + cnt (Int32.ofInt (c.1 : Int)) (p + 1)) (fun q => own_X3 a b c q) p hp) C hc) B hb) A ha
theorem own_c3 {ca cb cc k : Int32} (ha : ca = 1 ∨ ca = 0) (hb : cb = 1 ∨ cb = 0) (hc : cc = 1 ∨ cc = 0) (hk : ca.toInt + cb.toInt + cc.toInt = k.toInt) : k = ca + cb + cc := by
 apply Int32.toInt_inj.mp
 rw [← hk]
 rcases ha with rfl | rfl <;> rcases hb with rfl | rfl <;> rcases hc with rfl | rfl <;> rfl
theorem own_d3' {da db k : Int32} (ha : da = 1 ∨ da = 0) (hb : db = 1 ∨ db = 0) (hk : 1 + da.toInt + db.toInt = k.toInt) : k = 1 + da + db := by
 apply Int32.toInt_inj.mp
 rw [← hk]
 rcases ha with rfl | rfl <;> rcases hb with rfl | rfl <;> rfl
theorem own_o1 {x : Int32} {P : Prop} [Decidable P] (h : x = if P then (1 : Int32) else (0 : Int32)) : x = 1 ∨ x = 0 := by
 split at h
 ·exact Or.inl h
 ·exact Or.inr h
theorem own_mn {m' m t f pf : Int32} (h : m' = if (f = pf) then (f1 m t) else m) : Mn m'.toInt m.toInt t.toInt f.toInt pf.toInt := by
 unfold Mn
 rw [Int32.toInt_inj]
 split at h
 ·refine Or.inl ⟨‹_›, ?_⟩
  subst h
  unfold f1
  split <;> rw [Int32.lt_iff_toInt_lt] at * <;> omega
 ·exact Or.inr ⟨‹_›, by rw [h]⟩
def KK (A U : Int) : Int := A * 4294967296 + U
theorem kk_le {A U B V : Int} (l : Lex A U B V) (h1 : 0 ≤ U ∧ U < 2147483648) (h2 : 0 ≤ V ∧ V < 2147483648) : KK A U ≤ KK B V := by
 unfold Lex KK at *
 omega
theorem kk_eq {A U B V : Int} (h1 : 0 ≤ U ∧ U < 2147483648) (h2 : 0 ≤ V ∧ V < 2147483648) : KK A U = KK B V ↔ A = B ∧ U = V := by
 unfold KK
 omega
theorem kk_p {fa ta fb tb fc tc A U B V C W : Int} (h : Perm6 fa ta fb tb fc tc A U B V C W) : Perm6 fa (KK fa ta) fb (KK fb tb) fc (KK fc tc) A (KK A U) B (KK B V) C (KK C W) := by
 rcases h with ⟨rfl, rfl, rfl, rfl, rfl, rfl⟩ | ⟨rfl, rfl, rfl, rfl, rfl, rfl⟩ | ⟨rfl, rfl, rfl, rfl, rfl, rfl⟩ | ⟨rfl, rfl, rfl, rfl, rfl, rfl⟩ | ⟨rfl, rfl, rfl, rfl, rfl, rfl⟩ | ⟨rfl, rfl, rfl, rfl, rfl, rfl⟩
 ·exact Or.inl ⟨rfl, rfl, rfl, rfl, rfl, rfl⟩
 ·exact Or.inr (Or.inl ⟨rfl, rfl, rfl, rfl, rfl, rfl⟩)
 ·exact Or.inr (Or.inr (Or.inl ⟨rfl, rfl, rfl, rfl, rfl, rfl⟩))
 ·exact Or.inr (Or.inr (Or.inr (Or.inl ⟨rfl, rfl, rfl, rfl, rfl, rfl⟩)))
 ·exact Or.inr (Or.inr (Or.inr (Or.inr (Or.inl ⟨rfl, rfl, rfl, rfl, rfl, rfl⟩))))
 ·exact Or.inr (Or.inr (Or.inr (Or.inr (Or.inr ⟨rfl, rfl, rfl, rfl, rfl, rfl⟩))))
theorem lex_le {A U B V : Int} (l : Lex A U B V) : A ≤ B := by
 unfold Lex at l
 omega
theorem lex_lt {A U B V p : Int} (l : Lex A U B V) (e1 : A = p) (e2 : B = p) (n : ¬ (B = A ∧ V = U)) : U < V := by
 unfold Lex at l
 omega
def MM (A U B V C W m pf : Int) : Prop := (A = pf → m = U) ∧ (¬ A = pf → B = pf → m = V) ∧ (¬ A = pf → ¬ B = pf → C = pf → m = W)
theorem E01.iff {x : Int} {P Q : Prop} (h : E01 x P) (q : P ↔ Q) : E01 x Q := by
 rcases h with ⟨a, b⟩ | ⟨a, b⟩
 ·exact Or.inl ⟨a, q.mp b⟩
 ·exact Or.inr ⟨a, fun z => b (q.mpr z)⟩
theorem cn_l {A p : Int32} (h : A.toInt < p.toInt) : cnt A p = 1 := cnt_l h
theorem cn_e {A p : Int32} (h : A.toInt = p.toInt) : cnt A p = 0 := cnt_g (by omega)
theorem cn_g {A p : Int32} (h : p.toInt < A.toInt) : cnt A p = 0 := cnt_g (by omega)
theorem dn_l {A p : Int32} (r : 0 ≤ p.toInt ∧ p.toInt ≤ 7) (h : A.toInt < p.toInt) : cnt A (p + 1) = 1 := cnt_l (by rw [own_p1 r]; omega)
theorem dn_e {A p : Int32} (r : 0 ≤ p.toInt ∧ p.toInt ≤ 7) (h : A.toInt = p.toInt) : cnt A (p + 1) = 1 := cnt_l (by rw [own_p1 r]; omega)
theorem dn_g {A p : Int32} (r : 0 ≤ p.toInt ∧ p.toInt ≤ 7) (h : p.toInt < A.toInt) : cnt A (p + 1) = 0 := cnt_g (by rw [own_p1 r]; omega)

theorem own_all1 {fa ta fb tb fc tc pf pt x18 x19 x20 da db xin ca cb cc m1 m2 m3 jn : Int32} {jX jT : List Int32} {s0 s1 s2 : Int64} (r0 : 0 ≤ fa.toInt ∧ fa.toInt ≤ 7) (q0 : 0 ≤ ta.toInt) (r1 : 0 ≤ fb.toInt ∧ fb.toInt ≤ 7) (q1 : 0 ≤ tb.toInt) (r2 : 0 ≤ fc.toInt ∧ fc.toInt ≤ 7) (q2 : 0 ≤ tc.toInt) (rp : 0 ≤ pf.toInt ∧ pf.toInt ≤ 7) (h_x18 : x18 = if ((fa = fb) ∧ (ta = tb)) then (1 : Int32) else (0 : Int32)) (h_x19 : x19 = if ((fa = fc) ∧ (ta = tc)) then (1 : Int32) else (0 : Int32)) (h_x20 : x20 = if ((fb = fc) ∧ (tb = tc)) then (1 : Int32) else (0 : Int32)) (h_da : da = if (x18 = (0 : Int32)) then (1 : Int32) else (0 : Int32)) (h_db : db = if ((x19 = (0 : Int32)) ∧ (x20 = (0 : Int32))) then (1 : Int32) else (0 : Int32)) (h_xin : xin = if (((pf = fa) ∧ (pt = ta)) ∨ (((pf = fb) ∧ (pt = tb)) ∨ ((pf = fc) ∧ (pt = tc)))) then (1 : Int32) else (0 : Int32)) (h_ca : ca = if (fa = pf) then (1 : Int32) else (0 : Int32)) (h_cb : cb = if ((fb = pf) ∧ (x18 = (0 : Int32))) then (1 : Int32) else (0 : Int32)) (h_cc : cc = if ((fc = pf) ∧ ((x19 = (0 : Int32)) ∧ (x20 = (0 : Int32)))) then (1 : Int32) else (0 : Int32)) (h_m1 : m1 = if (fa = pf) then (f1 (2147483647 : Int32) ta) else (2147483647 : Int32)) (h_m2 : m2 = if (fb = pf) then (f1 m1 tb) else m1) (h_m3 : m3 = if (fc = pf) then (f1 m2 tc) else m2) (hs : Srt fa ta fb tb fc tc s0 s1 s2) (hPL : PL s0 s1 s2 jn jX jT) : jn = (((1 : Int32) + da) + db) := by
 obtain ⟨A, U, B, V, C, W, rfl, rfl, rfl, hp, l1, l2⟩ := hs
 obtain ⟨gA, gB, gC⟩ := own_rgs r0 q0 r1 q1 r2 q2 hp
 have lu : 0 ≤ U.toInt ∧ U.toInt < 2147483648 := ⟨gA.2, Int32.toInt_lt U⟩
 have lv : 0 ≤ V.toInt ∧ V.toInt < 2147483648 := ⟨gB.2, Int32.toInt_lt V⟩
 have lw : 0 ≤ W.toInt ∧ W.toInt < 2147483648 := ⟨gC.2, Int32.toInt_lt W⟩
 have hp' := kk_p hp
 have m1' := kk_le l1 lu lv
 have m2' := kk_le l2 lv lw
 have k1 := kk_eq (A := fa.toInt) (B := fb.toInt) ⟨q0, Int32.toInt_lt ta⟩ ⟨q1, Int32.toInt_lt tb⟩
 have k2 := kk_eq (A := fa.toInt) (B := fc.toInt) ⟨q0, Int32.toInt_lt ta⟩ ⟨q2, Int32.toInt_lt tc⟩
 have k3 := kk_eq (A := fb.toInt) (B := fc.toInt) ⟨q1, Int32.toInt_lt tb⟩ ⟨q2, Int32.toInt_lt tc⟩
 have kAB := kk_eq (A := A.toInt) (B := B.toInt) lu lv
 have kBC := kk_eq (A := B.toInt) (B := C.toInt) lv lw
 have e18 : E01 x18.toInt (KK fa.toInt ta.toInt = KK fb.toInt tb.toInt) := own_e01 h_x18 (by rw [k1, Int32.toInt_inj, Int32.toInt_inj])
 have e19 : E01 x19.toInt (KK fa.toInt ta.toInt = KK fc.toInt tc.toInt) := own_e01 h_x19 (by rw [k2, Int32.toInt_inj, Int32.toInt_inj])
 have e20 : E01 x20.toInt (KK fb.toInt tb.toInt = KK fc.toInt tc.toInt) := own_e01 h_x20 (by rw [k3, Int32.toInt_inj, Int32.toInt_inj])
 have hD := iD _ _ _ _ _ _ _ _ _ _ _ _ _ _ _ _ _ hp' m1' m2' e18 e19 e20 (own_e01 h_da own_z) (own_e01 h_db (by rw [own_z, own_z]))
 rcases hPL with ⟨z1, z2, rfl, -, -⟩ | ⟨z1, z2, rfl, -, -⟩ | ⟨z1, z2, rfl, -, -⟩ | ⟨z1, z2, rfl, -, -⟩ <;> rw [own_pkeq gB gA] at z1 <;> rw [own_pkeq gC gB] at z2
 ·exact own_d3' (own_o1 h_da) (own_o1 h_db) (hD 0 0 (Or.inr ⟨rfl, fun z => z (kAB.mpr ⟨z1.1.symm, z1.2.symm⟩)⟩) (Or.inr ⟨rfl, fun z => z (kBC.mpr ⟨z2.1.symm, z2.2.symm⟩)⟩))
 ·exact own_d3' (own_o1 h_da) (own_o1 h_db) (hD 0 1 (Or.inr ⟨rfl, fun z => z (kAB.mpr ⟨z1.1.symm, z1.2.symm⟩)⟩) (Or.inl ⟨rfl, fun z => z2 ⟨(kBC.mp z).1.symm, (kBC.mp z).2.symm⟩⟩))
 ·exact own_d3' (own_o1 h_da) (own_o1 h_db) (hD 1 0 (Or.inl ⟨rfl, fun z => z1 ⟨(kAB.mp z).1.symm, (kAB.mp z).2.symm⟩⟩) (Or.inr ⟨rfl, fun z => z (kBC.mpr ⟨z2.1.symm, z2.2.symm⟩)⟩))
 ·exact own_d3' (own_o1 h_da) (own_o1 h_db) (hD 1 1 (Or.inl ⟨rfl, fun z => z1 ⟨(kAB.mp z).1.symm, (kAB.mp z).2.symm⟩⟩) (Or.inl ⟨rfl, fun z => z2 ⟨(kBC.mp z).1.symm, (kBC.mp z).2.symm⟩⟩))
set_option maxHeartbeats 4000000 in
theorem own_all2 {fa ta fb tb fc tc pf pt x18 x19 x20 da db xin ca cb cc m1 m2 m3 jn : Int32} {jX jT : List Int32} {s0 s1 s2 : Int64} (r0 : 0 ≤ fa.toInt ∧ fa.toInt ≤ 7) (q0 : 0 ≤ ta.toInt) (r1 : 0 ≤ fb.toInt ∧ fb.toInt ≤ 7) (q1 : 0 ≤ tb.toInt) (r2 : 0 ≤ fc.toInt ∧ fc.toInt ≤ 7) (q2 : 0 ≤ tc.toInt) (rp : 0 ≤ pf.toInt ∧ pf.toInt ≤ 7) (h_x18 : x18 = if ((fa = fb) ∧ (ta = tb)) then (1 : Int32) else (0 : Int32)) (h_x19 : x19 = if ((fa = fc) ∧ (ta = tc)) then (1 : Int32) else (0 : Int32)) (h_x20 : x20 = if ((fb = fc) ∧ (tb = tc)) then (1 : Int32) else (0 : Int32)) (h_da : da = if (x18 = (0 : Int32)) then (1 : Int32) else (0 : Int32)) (h_db : db = if ((x19 = (0 : Int32)) ∧ (x20 = (0 : Int32))) then (1 : Int32) else (0 : Int32)) (h_xin : xin = if (((pf = fa) ∧ (pt = ta)) ∨ (((pf = fb) ∧ (pt = tb)) ∨ ((pf = fc) ∧ (pt = tc)))) then (1 : Int32) else (0 : Int32)) (h_ca : ca = if (fa = pf) then (1 : Int32) else (0 : Int32)) (h_cb : cb = if ((fb = pf) ∧ (x18 = (0 : Int32))) then (1 : Int32) else (0 : Int32)) (h_cc : cc = if ((fc = pf) ∧ ((x19 = (0 : Int32)) ∧ (x20 = (0 : Int32)))) then (1 : Int32) else (0 : Int32)) (h_m1 : m1 = if (fa = pf) then (f1 (2147483647 : Int32) ta) else (2147483647 : Int32)) (h_m2 : m2 = if (fb = pf) then (f1 m1 tb) else m1) (h_m3 : m3 = if (fc = pf) then (f1 m2 tc) else m2) (hs : Srt fa ta fb tb fc tc s0 s1 s2) (hPL : PL s0 s1 s2 jn jX jT) : (∃ ge : Int32, (0 ≤ ge.toInt ∧ ge.toInt ≤ 3) ∧ own_at jX pf = ge ∧ own_at jX (pf + (1 : Int32)) = ge ∧ ¬ jn < ge ∧ (0 : Int32) = xin ∧ (0 : Int32) = ((ca + cb) + cc) ∧ True) ∨ (own_at jX pf = (0 : Int32) ∧ own_at jX (pf + (1 : Int32)) = (1 : Int32) ∧ ¬ jn < (1 : Int32) ∧ (f14_01 pt jT) = xin ∧ (1 : Int32) = ((ca + cb) + cc) ∧ own_at jT (0 : Int32) = m3) ∨ (own_at jX pf = (0 : Int32) ∧ own_at jX (pf + (1 : Int32)) = (2 : Int32) ∧ ¬ jn < (2 : Int32) ∧ (f14_02 pt jT) = xin ∧ (2 : Int32) = ((ca + cb) + cc) ∧ own_at jT (0 : Int32) = m3) ∨ (own_at jX pf = (0 : Int32) ∧ own_at jX (pf + (1 : Int32)) = (3 : Int32) ∧ ¬ jn < (3 : Int32) ∧ (f14_03 pt jT) = xin ∧ (3 : Int32) = ((ca + cb) + cc) ∧ own_at jT (0 : Int32) = m3) ∨ (own_at jX pf = (1 : Int32) ∧ own_at jX (pf + (1 : Int32)) = (2 : Int32) ∧ ¬ jn < (2 : Int32) ∧ (f14_12 pt jT) = xin ∧ (1 : Int32) = ((ca + cb) + cc) ∧ own_at jT (1 : Int32) = m3) ∨ (own_at jX pf = (1 : Int32) ∧ own_at jX (pf + (1 : Int32)) = (3 : Int32) ∧ ¬ jn < (3 : Int32) ∧ (f14_13 pt jT) = xin ∧ (2 : Int32) = ((ca + cb) + cc) ∧ own_at jT (1 : Int32) = m3) ∨ (own_at jX pf = (2 : Int32) ∧ own_at jX (pf + (1 : Int32)) = (3 : Int32) ∧ ¬ jn < (3 : Int32) ∧ (f14_23 pt jT) = xin ∧ (1 : Int32) = ((ca + cb) + cc) ∧ own_at jT (2 : Int32) = m3) := by
 obtain ⟨A, U, B, V, C, W, rfl, rfl, rfl, hp, l1, l2⟩ := hs
 obtain ⟨gA, gB, gC⟩ := own_rgs r0 q0 r1 q1 r2 q2 hp
 have lu : 0 ≤ U.toInt ∧ U.toInt < 2147483648 := ⟨gA.2, Int32.toInt_lt U⟩
 have lv : 0 ≤ V.toInt ∧ V.toInt < 2147483648 := ⟨gB.2, Int32.toInt_lt V⟩
 have lw : 0 ≤ W.toInt ∧ W.toInt < 2147483648 := ⟨gC.2, Int32.toInt_lt W⟩
 have hp' := kk_p hp
 have m1' := kk_le l1 lu lv
 have m2' := kk_le l2 lv lw
 have k1 := kk_eq (A := fa.toInt) (B := fb.toInt) ⟨q0, Int32.toInt_lt ta⟩ ⟨q1, Int32.toInt_lt tb⟩
 have k2 := kk_eq (A := fa.toInt) (B := fc.toInt) ⟨q0, Int32.toInt_lt ta⟩ ⟨q2, Int32.toInt_lt tc⟩
 have k3 := kk_eq (A := fb.toInt) (B := fc.toInt) ⟨q1, Int32.toInt_lt tb⟩ ⟨q2, Int32.toInt_lt tc⟩
 have kAB := kk_eq (A := A.toInt) (B := B.toInt) lu lv
 have kBC := kk_eq (A := B.toInt) (B := C.toInt) lv lw
 have e18 : E01 x18.toInt (KK fa.toInt ta.toInt = KK fb.toInt tb.toInt) := own_e01 h_x18 (by rw [k1, Int32.toInt_inj, Int32.toInt_inj])
 have e19 : E01 x19.toInt (KK fa.toInt ta.toInt = KK fc.toInt tc.toInt) := own_e01 h_x19 (by rw [k2, Int32.toInt_inj, Int32.toInt_inj])
 have e20 : E01 x20.toInt (KK fb.toInt tb.toInt = KK fc.toInt tc.toInt) := own_e01 h_x20 (by rw [k3, Int32.toInt_inj, Int32.toInt_inj])
 have hC := fun za zb zc => iC _ _ _ _ _ _ _ _ _ _ _ _ _ _ _ ca.toInt cb.toInt cc.toInt za zb zc pf.toInt hp' m1' m2' (fun z => (k1.mp z).1) (fun z => (k2.mp z).1) (fun z => (k3.mp z).1) e18 e19 e20 (own_e01 h_ca (by rw [Int32.toInt_inj])) (own_e01 h_cb (by rw [Int32.toInt_inj, own_z])) (own_e01 h_cc (by rw [Int32.toInt_inj, own_z, own_z]))
 have hI := iI _ _ _ _ _ _ _ _ _ _ _ _ xin.toInt pf.toInt pt.toInt hp (own_e01 h_xin (by simp only [Int32.toInt_inj]))
 have hM : MM A.toInt U.toInt B.toInt V.toInt C.toInt W.toInt m3.toInt pf.toInt := iM _ _ _ _ _ _ _ _ _ _ _ _ m1.toInt m2.toInt m3.toInt pf.toInt hp l1 l2 (Int.le_of_lt_add_one (Int32.toInt_lt ta)) (Int.le_of_lt_add_one (Int32.toInt_lt tb)) (Int.le_of_lt_add_one (Int32.toInt_lt tc)) (own_mn (m := 2147483647) h_m1) (own_mn h_m2) (own_mn h_m3)
 have oa := own_o1 h_ca
 have ob := own_o1 h_cb
 have oc := own_o1 h_cc
 have lvA := gi_pk A U gA.1 gA.2
 have lvB := gi_pk B V gB.1 gB.2
 have lvC := gi_pk C W gC.1 gC.2
 have loA := lo_pk A U gA.1 gA.2
 have loB := lo_pk B V gB.1 gB.2
 have loC := lo_pk C W gC.1 gC.2
 have hAB := lex_le l1
 have hBC := lex_le l2
 clear h_x18 h_x19 h_x20 h_da h_db h_xin h_ca h_cb h_cc h_m1 h_m2 h_m3 hp hp' e18 e19 e20 k1 k2 k3 m1' m2' r0 r1 r2 q0 q1 q2 lu lv lw
 clear x18 x19 x20 da db m1 m2 fa ta fb tb fc tc
 unfold PL at hPL
 rcases hPL with ⟨z1, z2, e1, e2, e3⟩ | ⟨z1, z2, e1, e2, e3⟩ | ⟨z1, z2, e1, e2, e3⟩ | ⟨z1, z2, e1, e2, e3⟩ <;> subst e1 e3 <;> rw [e2] <;> rw [own_pkeq gB gA] at z1 <;> rw [own_pkeq gC gB] at z2
 ·clear l1 l2
  rw [lvA]
  have hX := own_x1 gA.1 rp
  rw [loA]
  rcases Int.lt_trichotomy A.toInt pf.toInt with y_A | y_A | y_A
  ·have hc := hC 0 0 0 (Or.inr ⟨rfl, (Int.ne_of_lt y_A)⟩) (Or.inr ⟨rfl, fun z => z.2 (kAB.mpr ⟨z1.1.symm, z1.2.symm⟩)⟩) (Or.inr ⟨rfl, fun z => z.2 (kBC.mpr ⟨z2.1.symm, z2.2.symm⟩)⟩)
   have hq := hI.iff (Q := False) ⟨fun z => by clear hc kAB kBC; omega, False.elim⟩
   exact Or.inl (⟨(1 : Int32), by decide, by rw [hX.1, cn_l y_A], by rw [hX.2, dn_l rp y_A], by decide, con_e hq, own_c3 oa ob oc hc, trivial⟩)
  ·have hc := hC 1 0 0 (Or.inl ⟨rfl, y_A⟩) (Or.inr ⟨rfl, fun z => z.2 (kAB.mpr ⟨z1.1.symm, z1.2.symm⟩)⟩) (Or.inr ⟨rfl, fun z => z.2 (kBC.mpr ⟨z2.1.symm, z2.2.symm⟩)⟩)
   have hq := hI.iff (Q := pt.toInt = U.toInt) (by clear hc kAB kBC; omega)
   exact Or.inr (Or.inl (⟨by rw [hX.1, cn_e y_A], by rw [hX.2, dn_e rp y_A], by decide, con_01 (ha := rfl)  hq, own_c3 oa ob oc hc, (Int32.toInt_inj.mp (hM.1 y_A)).symm⟩))
  ·have hc := hC 0 0 0 (Or.inr ⟨rfl, (Int.ne_of_gt y_A)⟩) (Or.inr ⟨rfl, fun z => z.2 (kAB.mpr ⟨z1.1.symm, z1.2.symm⟩)⟩) (Or.inr ⟨rfl, fun z => z.2 (kBC.mpr ⟨z2.1.symm, z2.2.symm⟩)⟩)
   have hq := hI.iff (Q := False) ⟨fun z => by clear hc kAB kBC; omega, False.elim⟩
   exact Or.inl (⟨(0 : Int32), by decide, by rw [hX.1, cn_g y_A], by rw [hX.2, dn_g rp y_A], by decide, con_e hq, own_c3 oa ob oc hc, trivial⟩)
 ·clear l1
  have z2o := z2
  rw [z1.1, z1.2] at l2 z2
  rw [lvA, lvC]
  have hX := own_x2 gA.1 gC.1 rp
  rw [loA, loC]
  rcases Int.lt_trichotomy A.toInt pf.toInt with y_A | y_A | y_A
  ·rcases Int.lt_trichotomy C.toInt pf.toInt with y_C | y_C | y_C
   ·have hc := hC 0 0 0 (Or.inr ⟨rfl, (Int.ne_of_lt y_A)⟩) (Or.inr ⟨rfl, fun z => z.2 (kAB.mpr ⟨z1.1.symm, z1.2.symm⟩)⟩) (Or.inr ⟨rfl, fun z => (Int.ne_of_lt y_C) z.1⟩)
    have hq := hI.iff (Q := False) ⟨fun z => by clear hc kAB kBC; omega, False.elim⟩
    exact Or.inl (⟨(2 : Int32), by decide, by rw [hX.1, cn_l y_A, cn_l y_C]; rfl, by rw [hX.2, dn_l rp y_A, dn_l rp y_C]; rfl, by decide, con_e hq, own_c3 oa ob oc hc, trivial⟩)
   ·have hc := hC 0 0 1 (Or.inr ⟨rfl, (Int.ne_of_lt y_A)⟩) (Or.inr ⟨rfl, fun z => z.2 (kAB.mpr ⟨z1.1.symm, z1.2.symm⟩)⟩) (Or.inl ⟨rfl, y_C, fun z => z2o ⟨(kBC.mp z).1.symm, (kBC.mp z).2.symm⟩⟩)
    have hq := hI.iff (Q := pt.toInt = W.toInt) (by clear hc kAB kBC; omega)
    exact Or.inr (Or.inr (Or.inr (Or.inr (Or.inl (⟨by rw [hX.1, cn_l y_A, cn_e y_C]; rfl, by rw [hX.2, dn_l rp y_A, dn_e rp y_C]; rfl, by decide, con_12 (hb := rfl)  hq, own_c3 oa ob oc hc, (Int32.toInt_inj.mp (hM.2.2 (Int.ne_of_lt y_A) (fun z => (Int.ne_of_lt y_A) (z1.1.symm.trans z)) y_C)).symm⟩)))))
   ·have hc := hC 0 0 0 (Or.inr ⟨rfl, (Int.ne_of_lt y_A)⟩) (Or.inr ⟨rfl, fun z => z.2 (kAB.mpr ⟨z1.1.symm, z1.2.symm⟩)⟩) (Or.inr ⟨rfl, fun z => (Int.ne_of_gt y_C) z.1⟩)
    have hq := hI.iff (Q := False) ⟨fun z => by clear hc kAB kBC; omega, False.elim⟩
    exact Or.inl (⟨(1 : Int32), by decide, by rw [hX.1, cn_l y_A, cn_g y_C]; rfl, by rw [hX.2, dn_l rp y_A, dn_g rp y_C]; rfl, by decide, con_e hq, own_c3 oa ob oc hc, trivial⟩)
  ·rcases Int.lt_trichotomy C.toInt pf.toInt with y_C | y_C | y_C
   ·exfalso
    clear kAB kBC
    omega
   ·have hc := hC 1 0 1 (Or.inl ⟨rfl, y_A⟩) (Or.inr ⟨rfl, fun z => z.2 (kAB.mpr ⟨z1.1.symm, z1.2.symm⟩)⟩) (Or.inl ⟨rfl, y_C, fun z => z2o ⟨(kBC.mp z).1.symm, (kBC.mp z).2.symm⟩⟩)
    have hq := hI.iff (Q := pt.toInt = U.toInt ∨ pt.toInt = W.toInt) (by clear hc kAB kBC; omega)
    exact Or.inr (Or.inr (Or.inl (⟨by rw [hX.1, cn_e y_A, cn_e y_C]; rfl, by rw [hX.2, dn_e rp y_A, dn_e rp y_C]; rfl, by decide, con_02 (ha := rfl) (hb := rfl) (la := (lex_lt l2 y_A y_C z2)) hq, own_c3 oa ob oc hc, (Int32.toInt_inj.mp (hM.1 y_A)).symm⟩)))
   ·have hc := hC 1 0 0 (Or.inl ⟨rfl, y_A⟩) (Or.inr ⟨rfl, fun z => z.2 (kAB.mpr ⟨z1.1.symm, z1.2.symm⟩)⟩) (Or.inr ⟨rfl, fun z => (Int.ne_of_gt y_C) z.1⟩)
    have hq := hI.iff (Q := pt.toInt = U.toInt) (by clear hc kAB kBC; omega)
    exact Or.inr (Or.inl (⟨by rw [hX.1, cn_e y_A, cn_g y_C]; rfl, by rw [hX.2, dn_e rp y_A, dn_g rp y_C]; rfl, by decide, con_01 (ha := rfl)  hq, own_c3 oa ob oc hc, (Int32.toInt_inj.mp (hM.1 y_A)).symm⟩))
  ·rcases Int.lt_trichotomy C.toInt pf.toInt with y_C | y_C | y_C
   ·exfalso
    clear kAB kBC
    omega
   ·exfalso
    clear kAB kBC
    omega
   ·have hc := hC 0 0 0 (Or.inr ⟨rfl, (Int.ne_of_gt y_A)⟩) (Or.inr ⟨rfl, fun z => z.2 (kAB.mpr ⟨z1.1.symm, z1.2.symm⟩)⟩) (Or.inr ⟨rfl, fun z => (Int.ne_of_gt y_C) z.1⟩)
    have hq := hI.iff (Q := False) ⟨fun z => by clear hc kAB kBC; omega, False.elim⟩
    exact Or.inl (⟨(0 : Int32), by decide, by rw [hX.1, cn_g y_A, cn_g y_C]; rfl, by rw [hX.2, dn_g rp y_A, dn_g rp y_C]; rfl, by decide, con_e hq, own_c3 oa ob oc hc, trivial⟩)
 ·clear l2
  rw [lvA, lvB]
  have hX := own_x2 gA.1 gB.1 rp
  rw [loA, loB]
  rcases Int.lt_trichotomy A.toInt pf.toInt with y_A | y_A | y_A
  ·rcases Int.lt_trichotomy B.toInt pf.toInt with y_B | y_B | y_B
   ·have hc := hC 0 0 0 (Or.inr ⟨rfl, (Int.ne_of_lt y_A)⟩) (Or.inr ⟨rfl, fun z => (Int.ne_of_lt y_B) z.1⟩) (Or.inr ⟨rfl, fun z => z.2 (kBC.mpr ⟨z2.1.symm, z2.2.symm⟩)⟩)
    have hq := hI.iff (Q := False) ⟨fun z => by clear hc kAB kBC; omega, False.elim⟩
    exact Or.inl (⟨(2 : Int32), by decide, by rw [hX.1, cn_l y_A, cn_l y_B]; rfl, by rw [hX.2, dn_l rp y_A, dn_l rp y_B]; rfl, by decide, con_e hq, own_c3 oa ob oc hc, trivial⟩)
   ·have hc := hC 0 1 0 (Or.inr ⟨rfl, (Int.ne_of_lt y_A)⟩) (Or.inl ⟨rfl, y_B, fun z => z1 ⟨(kAB.mp z).1.symm, (kAB.mp z).2.symm⟩⟩) (Or.inr ⟨rfl, fun z => z.2 (kBC.mpr ⟨z2.1.symm, z2.2.symm⟩)⟩)
    have hq := hI.iff (Q := pt.toInt = V.toInt) (by clear hc kAB kBC; omega)
    exact Or.inr (Or.inr (Or.inr (Or.inr (Or.inl (⟨by rw [hX.1, cn_l y_A, cn_e y_B]; rfl, by rw [hX.2, dn_l rp y_A, dn_e rp y_B]; rfl, by decide, con_12 (hb := rfl)  hq, own_c3 oa ob oc hc, (Int32.toInt_inj.mp (hM.2.1 (Int.ne_of_lt y_A) y_B)).symm⟩)))))
   ·have hc := hC 0 0 0 (Or.inr ⟨rfl, (Int.ne_of_lt y_A)⟩) (Or.inr ⟨rfl, fun z => (Int.ne_of_gt y_B) z.1⟩) (Or.inr ⟨rfl, fun z => z.2 (kBC.mpr ⟨z2.1.symm, z2.2.symm⟩)⟩)
    have hq := hI.iff (Q := False) ⟨fun z => by clear hc kAB kBC; omega, False.elim⟩
    exact Or.inl (⟨(1 : Int32), by decide, by rw [hX.1, cn_l y_A, cn_g y_B]; rfl, by rw [hX.2, dn_l rp y_A, dn_g rp y_B]; rfl, by decide, con_e hq, own_c3 oa ob oc hc, trivial⟩)
  ·rcases Int.lt_trichotomy B.toInt pf.toInt with y_B | y_B | y_B
   ·exfalso
    clear kAB kBC
    omega
   ·have hc := hC 1 1 0 (Or.inl ⟨rfl, y_A⟩) (Or.inl ⟨rfl, y_B, fun z => z1 ⟨(kAB.mp z).1.symm, (kAB.mp z).2.symm⟩⟩) (Or.inr ⟨rfl, fun z => z.2 (kBC.mpr ⟨z2.1.symm, z2.2.symm⟩)⟩)
    have hq := hI.iff (Q := pt.toInt = U.toInt ∨ pt.toInt = V.toInt) (by clear hc kAB kBC; omega)
    exact Or.inr (Or.inr (Or.inl (⟨by rw [hX.1, cn_e y_A, cn_e y_B]; rfl, by rw [hX.2, dn_e rp y_A, dn_e rp y_B]; rfl, by decide, con_02 (ha := rfl) (hb := rfl) (la := (lex_lt l1 y_A y_B z1)) hq, own_c3 oa ob oc hc, (Int32.toInt_inj.mp (hM.1 y_A)).symm⟩)))
   ·have hc := hC 1 0 0 (Or.inl ⟨rfl, y_A⟩) (Or.inr ⟨rfl, fun z => (Int.ne_of_gt y_B) z.1⟩) (Or.inr ⟨rfl, fun z => z.2 (kBC.mpr ⟨z2.1.symm, z2.2.symm⟩)⟩)
    have hq := hI.iff (Q := pt.toInt = U.toInt) (by clear hc kAB kBC; omega)
    exact Or.inr (Or.inl (⟨by rw [hX.1, cn_e y_A, cn_g y_B]; rfl, by rw [hX.2, dn_e rp y_A, dn_g rp y_B]; rfl, by decide, con_01 (ha := rfl)  hq, own_c3 oa ob oc hc, (Int32.toInt_inj.mp (hM.1 y_A)).symm⟩))
  ·rcases Int.lt_trichotomy B.toInt pf.toInt with y_B | y_B | y_B
   ·exfalso
    clear kAB kBC
    omega
   ·exfalso
    clear kAB kBC
    omega
   ·have hc := hC 0 0 0 (Or.inr ⟨rfl, (Int.ne_of_gt y_A)⟩) (Or.inr ⟨rfl, fun z => (Int.ne_of_gt y_B) z.1⟩) (Or.inr ⟨rfl, fun z => z.2 (kBC.mpr ⟨z2.1.symm, z2.2.symm⟩)⟩)
    have hq := hI.iff (Q := False) ⟨fun z => by clear hc kAB kBC; omega, False.elim⟩
    exact Or.inl (⟨(0 : Int32), by decide, by rw [hX.1, cn_g y_A, cn_g y_B]; rfl, by rw [hX.2, dn_g rp y_A, dn_g rp y_B]; rfl, by decide, con_e hq, own_c3 oa ob oc hc, trivial⟩)
 ·rw [lvA, lvB, lvC]
  have hX := own_x3 gA.1 gB.1 gC.1 rp
  rw [loA, loB, loC]
  rcases Int.lt_trichotomy A.toInt pf.toInt with y_A | y_A | y_A
  ·rcases Int.lt_trichotomy B.toInt pf.toInt with y_B | y_B | y_B
   ·rcases Int.lt_trichotomy C.toInt pf.toInt with y_C | y_C | y_C
    ·have hc := hC 0 0 0 (Or.inr ⟨rfl, (Int.ne_of_lt y_A)⟩) (Or.inr ⟨rfl, fun z => (Int.ne_of_lt y_B) z.1⟩) (Or.inr ⟨rfl, fun z => (Int.ne_of_lt y_C) z.1⟩)
     have hq := hI.iff (Q := False) ⟨fun z => by clear hc kAB kBC; omega, False.elim⟩
     exact Or.inl (⟨(3 : Int32), by decide, by rw [hX.1, cn_l y_A, cn_l y_B, cn_l y_C]; rfl, by rw [hX.2, dn_l rp y_A, dn_l rp y_B, dn_l rp y_C]; rfl, by decide, con_e hq, own_c3 oa ob oc hc, trivial⟩)
    ·have hc := hC 0 0 1 (Or.inr ⟨rfl, (Int.ne_of_lt y_A)⟩) (Or.inr ⟨rfl, fun z => (Int.ne_of_lt y_B) z.1⟩) (Or.inl ⟨rfl, y_C, fun z => z2 ⟨(kBC.mp z).1.symm, (kBC.mp z).2.symm⟩⟩)
     have hq := hI.iff (Q := pt.toInt = W.toInt) (by clear hc kAB kBC; omega)
     exact Or.inr (Or.inr (Or.inr (Or.inr (Or.inr (Or.inr (⟨by rw [hX.1, cn_l y_A, cn_l y_B, cn_e y_C]; rfl, by rw [hX.2, dn_l rp y_A, dn_l rp y_B, dn_e rp y_C]; rfl, by decide, con_23 (hc := rfl)  hq, own_c3 oa ob oc hc, (Int32.toInt_inj.mp (hM.2.2 (Int.ne_of_lt y_A) (Int.ne_of_lt y_B) y_C)).symm⟩))))))
    ·have hc := hC 0 0 0 (Or.inr ⟨rfl, (Int.ne_of_lt y_A)⟩) (Or.inr ⟨rfl, fun z => (Int.ne_of_lt y_B) z.1⟩) (Or.inr ⟨rfl, fun z => (Int.ne_of_gt y_C) z.1⟩)
     have hq := hI.iff (Q := False) ⟨fun z => by clear hc kAB kBC; omega, False.elim⟩
     exact Or.inl (⟨(2 : Int32), by decide, by rw [hX.1, cn_l y_A, cn_l y_B, cn_g y_C]; rfl, by rw [hX.2, dn_l rp y_A, dn_l rp y_B, dn_g rp y_C]; rfl, by decide, con_e hq, own_c3 oa ob oc hc, trivial⟩)
   ·rcases Int.lt_trichotomy C.toInt pf.toInt with y_C | y_C | y_C
    ·exfalso
     clear kAB kBC
     omega
    ·have hc := hC 0 1 1 (Or.inr ⟨rfl, (Int.ne_of_lt y_A)⟩) (Or.inl ⟨rfl, y_B, fun z => z1 ⟨(kAB.mp z).1.symm, (kAB.mp z).2.symm⟩⟩) (Or.inl ⟨rfl, y_C, fun z => z2 ⟨(kBC.mp z).1.symm, (kBC.mp z).2.symm⟩⟩)
     have hq := hI.iff (Q := pt.toInt = V.toInt ∨ pt.toInt = W.toInt) (by clear hc kAB kBC; omega)
     exact Or.inr (Or.inr (Or.inr (Or.inr (Or.inr (Or.inl (⟨by rw [hX.1, cn_l y_A, cn_e y_B, cn_e y_C]; rfl, by rw [hX.2, dn_l rp y_A, dn_e rp y_B, dn_e rp y_C]; rfl, by decide, con_13 (hb := rfl) (hc := rfl) (lb := (lex_lt l2 y_B y_C z2)) hq, own_c3 oa ob oc hc, (Int32.toInt_inj.mp (hM.2.1 (Int.ne_of_lt y_A) y_B)).symm⟩))))))
    ·have hc := hC 0 1 0 (Or.inr ⟨rfl, (Int.ne_of_lt y_A)⟩) (Or.inl ⟨rfl, y_B, fun z => z1 ⟨(kAB.mp z).1.symm, (kAB.mp z).2.symm⟩⟩) (Or.inr ⟨rfl, fun z => (Int.ne_of_gt y_C) z.1⟩)
     have hq := hI.iff (Q := pt.toInt = V.toInt) (by clear hc kAB kBC; omega)
     exact Or.inr (Or.inr (Or.inr (Or.inr (Or.inl (⟨by rw [hX.1, cn_l y_A, cn_e y_B, cn_g y_C]; rfl, by rw [hX.2, dn_l rp y_A, dn_e rp y_B, dn_g rp y_C]; rfl, by decide, con_12 (hb := rfl)  hq, own_c3 oa ob oc hc, (Int32.toInt_inj.mp (hM.2.1 (Int.ne_of_lt y_A) y_B)).symm⟩)))))
   ·rcases Int.lt_trichotomy C.toInt pf.toInt with y_C | y_C | y_C
    ·exfalso
     clear kAB kBC
     omega
    ·exfalso
     clear kAB kBC
     omega
    ·have hc := hC 0 0 0 (Or.inr ⟨rfl, (Int.ne_of_lt y_A)⟩) (Or.inr ⟨rfl, fun z => (Int.ne_of_gt y_B) z.1⟩) (Or.inr ⟨rfl, fun z => (Int.ne_of_gt y_C) z.1⟩)
     have hq := hI.iff (Q := False) ⟨fun z => by clear hc kAB kBC; omega, False.elim⟩
     exact Or.inl (⟨(1 : Int32), by decide, by rw [hX.1, cn_l y_A, cn_g y_B, cn_g y_C]; rfl, by rw [hX.2, dn_l rp y_A, dn_g rp y_B, dn_g rp y_C]; rfl, by decide, con_e hq, own_c3 oa ob oc hc, trivial⟩)
  ·rcases Int.lt_trichotomy B.toInt pf.toInt with y_B | y_B | y_B
   ·exfalso
    clear kAB kBC
    omega
   ·rcases Int.lt_trichotomy C.toInt pf.toInt with y_C | y_C | y_C
    ·exfalso
     clear kAB kBC
     omega
    ·have hc := hC 1 1 1 (Or.inl ⟨rfl, y_A⟩) (Or.inl ⟨rfl, y_B, fun z => z1 ⟨(kAB.mp z).1.symm, (kAB.mp z).2.symm⟩⟩) (Or.inl ⟨rfl, y_C, fun z => z2 ⟨(kBC.mp z).1.symm, (kBC.mp z).2.symm⟩⟩)
     have hq := hI.iff (Q := pt.toInt = U.toInt ∨ pt.toInt = V.toInt ∨ pt.toInt = W.toInt) (by clear hc kAB kBC; omega)
     exact Or.inr (Or.inr (Or.inr (Or.inl (⟨by rw [hX.1, cn_e y_A, cn_e y_B, cn_e y_C]; rfl, by rw [hX.2, dn_e rp y_A, dn_e rp y_B, dn_e rp y_C]; rfl, by decide, con_03 (ha := rfl) (hb := rfl) (hc := rfl) (la := (lex_lt l1 y_A y_B z1)) (lb := (lex_lt l2 y_B y_C z2)) hq, own_c3 oa ob oc hc, (Int32.toInt_inj.mp (hM.1 y_A)).symm⟩))))
    ·have hc := hC 1 1 0 (Or.inl ⟨rfl, y_A⟩) (Or.inl ⟨rfl, y_B, fun z => z1 ⟨(kAB.mp z).1.symm, (kAB.mp z).2.symm⟩⟩) (Or.inr ⟨rfl, fun z => (Int.ne_of_gt y_C) z.1⟩)
     have hq := hI.iff (Q := pt.toInt = U.toInt ∨ pt.toInt = V.toInt) (by clear hc kAB kBC; omega)
     exact Or.inr (Or.inr (Or.inl (⟨by rw [hX.1, cn_e y_A, cn_e y_B, cn_g y_C]; rfl, by rw [hX.2, dn_e rp y_A, dn_e rp y_B, dn_g rp y_C]; rfl, by decide, con_02 (ha := rfl) (hb := rfl) (la := (lex_lt l1 y_A y_B z1)) hq, own_c3 oa ob oc hc, (Int32.toInt_inj.mp (hM.1 y_A)).symm⟩)))
   ·rcases Int.lt_trichotomy C.toInt pf.toInt with y_C | y_C | y_C
    ·exfalso
     clear kAB kBC
     omega
    ·exfalso
     clear kAB kBC
     omega
    ·have hc := hC 1 0 0 (Or.inl ⟨rfl, y_A⟩) (Or.inr ⟨rfl, fun z => (Int.ne_of_gt y_B) z.1⟩) (Or.inr ⟨rfl, fun z => (Int.ne_of_gt y_C) z.1⟩)
     have hq := hI.iff (Q := pt.toInt = U.toInt) (by clear hc kAB kBC; omega)
     exact Or.inr (Or.inl (⟨by rw [hX.1, cn_e y_A, cn_g y_B, cn_g y_C]; rfl, by rw [hX.2, dn_e rp y_A, dn_g rp y_B, dn_g rp y_C]; rfl, by decide, con_01 (ha := rfl)  hq, own_c3 oa ob oc hc, (Int32.toInt_inj.mp (hM.1 y_A)).symm⟩))
  ·rcases Int.lt_trichotomy B.toInt pf.toInt with y_B | y_B | y_B
   ·exfalso
    clear kAB kBC
    omega
   ·exfalso
    clear kAB kBC
    omega
   ·rcases Int.lt_trichotomy C.toInt pf.toInt with y_C | y_C | y_C
    ·exfalso
     clear kAB kBC
     omega
    ·exfalso
     clear kAB kBC
     omega
    ·have hc := hC 0 0 0 (Or.inr ⟨rfl, (Int.ne_of_gt y_A)⟩) (Or.inr ⟨rfl, fun z => (Int.ne_of_gt y_B) z.1⟩) (Or.inr ⟨rfl, fun z => (Int.ne_of_gt y_C) z.1⟩)
     have hq := hI.iff (Q := False) ⟨fun z => by clear hc kAB kBC; omega, False.elim⟩
     exact Or.inl (⟨(0 : Int32), by decide, by rw [hX.1, cn_g y_A, cn_g y_B, cn_g y_C]; rfl, by rw [hX.2, dn_g rp y_A, dn_g rp y_B, dn_g rp y_C]; rfl, by decide, con_e hq, own_c3 oa ob oc hc, trivial⟩)
theorem own_pf0 {p : Int32} (h : 0 ≤ p.toInt ∧ p.toInt ≤ 7) : ¬ p < 0 ∧ p < (9 : Int32) := own_at8 (fun p => ¬ p < 0 ∧ p < (9 : Int32)) (by decide +kernel) p h
theorem own_pf1 {p : Int32} (h : 0 ≤ p.toInt ∧ p.toInt ≤ 7) : ¬ (p + (1 : Int32)) < 0 ∧ (p + (1 : Int32)) < (9 : Int32) := own_at8 (fun p => ¬ (p + (1 : Int32)) < 0 ∧ (p + (1 : Int32)) < (9 : Int32)) (by decide +kernel) p h
theorem own_7 (x : Int32) : 0 ≤ (x &&& (7 : Int32)).toInt ∧ (x &&& (7 : Int32)).toInt ≤ 7 := by
 have e : (x &&& (7 : Int32)).toBitVec = x.toBitVec &&& 7#32 := rfl
 have b : (x.toBitVec &&& 7#32).toNat ≤ 7 := by
  rw [BitVec.toNat_and]
  exact Nat.and_le_right
 have t : (x &&& (7 : Int32)).toInt = ((x.toBitVec &&& 7#32).toNat : Int) := by
  show (x &&& (7 : Int32)).toBitVec.toInt = _
  rw [e, BitVec.toInt_eq_toNat_of_lt (by omega)]
 omega
theorem own_stm {p : Program} {l : Launch} {e : Env} {R : Room} {s : State} {m : MethodId} {args : Array Value} {below : List Frame} {meth : Method} {c : Code} {T : State} {locs : List Loc} {a b a' b' : Nat} (X : Stand p l e R s m args below meth c T locs a b) (h1 : a ≤ a') (h2 : b ≤ b') : Stand p l e R s m args below meth c T locs a' b' :=
 ⟨X.admits, X.cas, X.clock, X.frames, X.room, X.hears, X.method, X.code, X.here, X.tail, X.warmed, X.limits, X.bytes, X.same.mono h1 h2⟩
theorem wd0 {Z a0} (hw : HW a0 Z) : (Jvm.Cond.constant "com/example/tripletype/tripletype/BuilderAddPinLaw" (7 : Nat) (2147483647 : Int32)).before a0 Z = true := mw hw 0 rfl
theorem wd5 {Z a0} (hw : HW a0 Z) : (Jvm.Cond.classLink "com/example/tripletype/tripletype/BuilderAddPinLaw" (16 : Nat) BC).before a0 Z = true := mw hw 5 rfl
theorem wd7 {Z a0} (hw : HW a0 Z) : (Jvm.Cond.initialized BC).before a0 Z = true := mw hw 7 rfl
theorem wd8 {Z a0} (hw : HW a0 Z) : (Jvm.Cond.methodLink "com/example/tripletype/tripletype/BuilderAddPinLaw" (18 : Nat) ⟨BC, "<init>", "()V"⟩).before a0 Z = true := mw hw 8 rfl
theorem wd10 {Z a0} (hw : HW a0 Z) : (Jvm.Cond.code ⟨BC, "<init>", "()V"⟩ cB2 (1 : Nat) (Option.none : Option Jvm.ClassFile.FieldType)).before a0 Z = true := mw hw 10 rfl
theorem pd10 : parseMethodDescriptor "()V" = some ⟨[], none⟩ := by decide +kernel
theorem wd9 {Z a0} (hw : HW a0 Z) : (Jvm.Cond.instanceMethod ⟨BC, "<init>", "()V"⟩).before a0 Z = true := mw hw 9 rfl
theorem wd17 {Z a0} (hw : HW a0 Z) : (Jvm.Cond.methodLink "com/example/tripletype/tripletype/BuilderAddPinLaw" (19 : Nat) ⟨BC, "add", "(II)V"⟩).before a0 Z = true := mw hw 17 rfl
theorem wd21 {Z a0} (hw : HW a0 Z) : (Jvm.Cond.code ⟨BC, "add", "(II)V"⟩ cB4 (3 : Nat) (Option.none : Option Jvm.ClassFile.FieldType)).before a0 Z = true := mw hw 21 rfl
theorem pd11 : parseMethodDescriptor "(II)V" = some ⟨[.int, .int], none⟩ := by decide +kernel
theorem wd20 {Z a0} (hw : HW a0 Z) : (Jvm.Cond.selects BC ⟨BC, "add", "(II)V"⟩ ⟨BC, "add", "(II)V"⟩).before a0 Z = true := mw hw 20 rfl
theorem wd18 {Z a0} (hw : HW a0 Z) : (Jvm.Cond.declares ⟨BC, "add", "(II)V"⟩).before a0 Z = true := mw hw 18 rfl
theorem wd19 {Z a0} (hw : HW a0 Z) : (Jvm.Cond.instanceMethod ⟨BC, "add", "(II)V"⟩).before a0 Z = true := mw hw 19 rfl
theorem wd75 {Z a0} (hw : HW a0 Z) : (Jvm.Cond.methodLink "com/example/tripletype/tripletype/BuilderAddPinLaw" (27 : Nat) ⟨RC, "pairCount", "()I"⟩).before a0 Z = true := mw hw 75 rfl
theorem wd79 {Z a0} (hw : HW a0 Z) : (Jvm.Cond.code ⟨RC, "pairCount", "()I"⟩ cB13 (1 : Nat) (Option.some Jvm.ClassFile.FieldType.int)).before a0 Z = true := mw hw 79 rfl
theorem pd12 : parseMethodDescriptor "()I" = some ⟨[], some .int⟩ := by decide +kernel
theorem wd78 {Z a0} (hw : HW a0 Z) : (Jvm.Cond.selects RC ⟨RC, "pairCount", "()I"⟩ ⟨RC, "pairCount", "()I"⟩).before a0 Z = true := mw hw 78 rfl
theorem wd76 {Z a0} (hw : HW a0 Z) : (Jvm.Cond.declares ⟨RC, "pairCount", "()I"⟩).before a0 Z = true := mw hw 76 rfl
theorem wd77 {Z a0} (hw : HW a0 Z) : (Jvm.Cond.instanceMethod ⟨RC, "pairCount", "()I"⟩).before a0 Z = true := mw hw 77 rfl
theorem wd80 {Z a0} (hw : HW a0 Z) : (Jvm.Cond.methodLink "com/example/tripletype/tripletype/BuilderAddPinLaw" (33 : Nat) ⟨RC, "contains", "(II)Z"⟩).before a0 Z = true := mw hw 80 rfl
theorem wd84 {Z a0} (hw : HW a0 Z) : (Jvm.Cond.code ⟨RC, "contains", "(II)Z"⟩ cB14 (3 : Nat) (Option.some Jvm.ClassFile.FieldType.boolean)).before a0 Z = true := mw hw 84 rfl
theorem pd13 : parseMethodDescriptor "(II)Z" = some ⟨[.int, .int], some .boolean⟩ := by decide +kernel
theorem wd83 {Z a0} (hw : HW a0 Z) : (Jvm.Cond.selects RC ⟨RC, "contains", "(II)Z"⟩ ⟨RC, "contains", "(II)Z"⟩).before a0 Z = true := mw hw 83 rfl
theorem wd81 {Z a0} (hw : HW a0 Z) : (Jvm.Cond.declares ⟨RC, "contains", "(II)Z"⟩).before a0 Z = true := mw hw 81 rfl
theorem wd82 {Z a0} (hw : HW a0 Z) : (Jvm.Cond.instanceMethod ⟨RC, "contains", "(II)Z"⟩).before a0 Z = true := mw hw 82 rfl
theorem wd94 {Z a0} (hw : HW a0 Z) : (Jvm.Cond.methodLink "com/example/tripletype/tripletype/BuilderAddPinLaw" (37 : Nat) ⟨RC, "start", "(I)I"⟩).before a0 Z = true := mw hw 94 rfl
theorem wd98 {Z a0} (hw : HW a0 Z) : (Jvm.Cond.code ⟨RC, "start", "(I)I"⟩ cB18 (2 : Nat) (Option.some Jvm.ClassFile.FieldType.int)).before a0 Z = true := mw hw 98 rfl
theorem pd14 : parseMethodDescriptor "(I)I" = some ⟨[.int], some .int⟩ := by decide +kernel
theorem wd97 {Z a0} (hw : HW a0 Z) : (Jvm.Cond.selects RC ⟨RC, "start", "(I)I"⟩ ⟨RC, "start", "(I)I"⟩).before a0 Z = true := mw hw 97 rfl
theorem wd95 {Z a0} (hw : HW a0 Z) : (Jvm.Cond.declares ⟨RC, "start", "(I)I"⟩).before a0 Z = true := mw hw 95 rfl
theorem wd96 {Z a0} (hw : HW a0 Z) : (Jvm.Cond.instanceMethod ⟨RC, "start", "(I)I"⟩).before a0 Z = true := mw hw 96 rfl
theorem wd99 {Z a0} (hw : HW a0 Z) : (Jvm.Cond.methodLink "com/example/tripletype/tripletype/BuilderAddPinLaw" (41 : Nat) ⟨RC, "end", "(I)I"⟩).before a0 Z = true := mw hw 99 rfl
theorem wd103 {Z a0} (hw : HW a0 Z) : (Jvm.Cond.code ⟨RC, "end", "(I)I"⟩ cB19 (2 : Nat) (Option.some Jvm.ClassFile.FieldType.int)).before a0 Z = true := mw hw 103 rfl
theorem wd102 {Z a0} (hw : HW a0 Z) : (Jvm.Cond.selects RC ⟨RC, "end", "(I)I"⟩ ⟨RC, "end", "(I)I"⟩).before a0 Z = true := mw hw 102 rfl
theorem wd100 {Z a0} (hw : HW a0 Z) : (Jvm.Cond.declares ⟨RC, "end", "(I)I"⟩).before a0 Z = true := mw hw 100 rfl
theorem wd101 {Z a0} (hw : HW a0 Z) : (Jvm.Cond.instanceMethod ⟨RC, "end", "(I)I"⟩).before a0 Z = true := mw hw 101 rfl
theorem wd104 {Z a0} (hw : HW a0 Z) : (Jvm.Cond.methodLink "com/example/tripletype/tripletype/BuilderAddPinLaw" (44 : Nat) ⟨RC, "target", "(I)I"⟩).before a0 Z = true := mw hw 104 rfl
theorem wd108 {Z a0} (hw : HW a0 Z) : (Jvm.Cond.code ⟨RC, "target", "(I)I"⟩ cB20 (2 : Nat) (Option.some Jvm.ClassFile.FieldType.int)).before a0 Z = true := mw hw 108 rfl
theorem wd107 {Z a0} (hw : HW a0 Z) : (Jvm.Cond.selects RC ⟨RC, "target", "(I)I"⟩ ⟨RC, "target", "(I)I"⟩).before a0 Z = true := mw hw 107 rfl
theorem wd105 {Z a0} (hw : HW a0 Z) : (Jvm.Cond.declares ⟨RC, "target", "(I)I"⟩).before a0 Z = true := mw hw 105 rfl
theorem wd106 {Z a0} (hw : HW a0 Z) : (Jvm.Cond.instanceMethod ⟨RC, "target", "(I)I"⟩).before a0 Z = true := mw hw 106 rfl
theorem wd24 {Z a0} (hw : HW a0 Z) : (Jvm.Cond.methodLink "com/example/tripletype/tripletype/BuilderAddPinLaw" (23 : Nat) ⟨BC, "build", "(I)Lcom/example/tripletype/tripletype/Relation;"⟩).before a0 Z = true := mw hw 24 rfl
theorem wd28 {Z a0} (hw : HW a0 Z) : (Jvm.Cond.code ⟨BC, "build", "(I)Lcom/example/tripletype/tripletype/Relation;"⟩ cB5 (7 : Nat) (Option.some (Jvm.ClassFile.FieldType.object RC))).before a0 Z = true := mw hw 28 rfl
theorem pd15 : parseMethodDescriptor "(I)Lcom/example/tripletype/tripletype/Relation;" = some ⟨[.int], some (.object RC)⟩ := by decide +kernel
theorem wd27 {Z a0} (hw : HW a0 Z) : (Jvm.Cond.selects BC ⟨BC, "build", "(I)Lcom/example/tripletype/tripletype/Relation;"⟩ ⟨BC, "build", "(I)Lcom/example/tripletype/tripletype/Relation;"⟩).before a0 Z = true := mw hw 27 rfl
theorem wd25 {Z a0} (hw : HW a0 Z) : (Jvm.Cond.declares ⟨BC, "build", "(I)Lcom/example/tripletype/tripletype/Relation;"⟩).before a0 Z = true := mw hw 25 rfl
theorem wd26 {Z a0} (hw : HW a0 Z) : (Jvm.Cond.instanceMethod ⟨BC, "build", "(I)Lcom/example/tripletype/tripletype/Relation;"⟩).before a0 Z = true := mw hw 26 rfl
theorem wd1 {Z a0} (hw : HW a0 Z) : (Jvm.Cond.methodLink "com/example/tripletype/tripletype/BuilderAddPinLaw" (10 : Nat) ⟨"java/lang/Math", "min", "(II)I"⟩).before a0 Z = true := mw hw 1 rfl
theorem pn5 : plainName "com/example/tripletype/tripletype/BuilderAddPinLaw" = true := by first | (simp [plainName, overriddenIn]; done) | decide +kernel
def Q0 (Z : State) (q1 : Int64) (q2 : Int64) (q3 : Int64) (p4 : Int32) (p5 : Int32) (h0 : Heap) (n0 : Nat) (v : Option Value) (h : Heap) (L : List Loc) : Prop := v = some (.int (1 : Int32)) ∧ Fr n0 L
theorem ef0 (m : MethodId) (x0 : Int64) (x1 : Int64) (x2 : Int64) (x3 : Int32) (x4 : Int32) : entryFrame m #[(.long x0), (.long x1), (.long x2), (.int x3), (.int x4)] maxLocals = mkF m 0 #[.val (.long x0), .second, .val (.long x1), .second, .val (.long x2), .second, .val (.int x3), .val (.int x4), .unset, .unset, .unset, .unset, .unset, .unset, .unset, .unset, .unset, .unset, .unset, .unset, .unset, .unset, .unset, .unset, .unset, .unset, .unset, .unset, .unset] [] := by first | (simp [entryFrame, mkF, argsToLocals, Value.category, maxLocals]; done) | rfl
theorem TJ0_31 (l : Launch) (Z : State) (a0 : Array Value) (hw : HW a0 Z) (ws : List Jvm.Cond) (q1 : Int64) (q2 : Int64) (q3 : Int64) (p4 : Int32) (p5 : Int32) (h0 : Heap) (n0 : Nat) {p : Program} {e : Env} {s : State} {m : MethodId} {below : List Frame} {meth : Method} {c : Code} {s₁ : State} (Bd : BodyLoose p l x (head1 (Jvm.Cond.code x code maxLocals ret :: ws) room_1) code maxLocals ret e s m #[(.long q1), (.long q2), (.long q3), (.int p4), (.int p5)] below meth c s₁) (hml0 : c.maxLocals = maxLocals) (hZ : Z.Warmed39 s.vm) {TJ : State} {locsJ : List Loc} {hJ : Heap} {b23 : Addr} {jr : Addr} {js : Addr} {jt : Addr} {jks : ClassId} {jkt : ClassId} {fa : Int32} {ta : Int32} {u1 : Int32} {u3 : Int32} {g1 : Int32} {g2 : Int32} {kf : Int32} {pt : Int32} {pf : Int32} {x18 : Int32} {x19 : Int32} {x20 : Int32} {da : Int32} {db : Int32} {xin : Int32} {ca : Int32} {cb : Int32} {cc : Int32} {m3 : Int32} {ge : Int32} {jX : List Int32} {jT : List Int32} {jn : Int32} (XJ : Stand p l e room_1 s m #[(.long q1), (.long q2), (.long q3), (.int p4), (.int p5)] below meth c TJ locsJ 12 60) (eJ : TJ.heap = hJ) (NJ : Fr n0 locsJ) (K0 : Keep h0 hJ []) (Z0 : n0 ≤ hJ.size) (E_jr : Exa Z hJ jr RC) (F_js : Fld Z hJ jr RC "start" "[I" (.ref js)) (F_jt : Fld Z hJ jr RC "targets" "[I" (.ref jt)) (V_js : Arv Z hJ js jks .int (9 : Int32) (List.map Value.int jX) (.int (0 : Int32))) (V_jt : Arv Z hJ jt jkt .int jn (List.map Value.int jT) (.int (0 : Int32))) (rpf : 0 ≤ pf.toInt ∧ pf.toInt ≤ 7) (hlo : own_at jX pf = ge) (hhi : own_at jX (pf + (1 : Int32)) = ge) (hnn : ¬ jn < ge) (hge : 0 ≤ ge.toInt ∧ ge.toInt ≤ 3) (hcon : (0 : Int32) = xin) (hcd : (0 : Int32) = ((ca + cb) + cc)) :
  Go p.tables e below (TJ.setTop (mkF m 507 #[vj q1, .second, vj q2, .second, vj q3, .second, vi p4, vi p5, vi fa, vi ta, vi g1, vi u1, vi g2, vi u3, vi (p5 &&& (3 : Int32)), vi kf, vi pt, vi pf, vi x18, vi x19, vi x20, vi (((1 : Int32) + da) + db), vi xin, vi ((ca + cb) + cc), vi m3, vr b23, vr jr, us, us] [])) (fun o U' => ∃ v L, o = .returned v ∧ Q0 Z q1 q2 q3 p4 p5 h0 n0 v U'.heap L ∧ FrameEnd s o U' L 24 192) := by
 have hx := Bd.exec
 have hby := Bd.bytes
 have hml : c.maxLocals = 29 := hml0
 have hown : s.vm.findClass "com/example/tripletype/tripletype/BuilderAddPinLaw" = some m.cls := findClass_of_methodNamed Bd.named
 have hnm := (name_of_methodNamed Bd.named Bd.method).1
 refine G (fun t k => XS.aload XJ.here hx rfl (hb hby at_507) rfl rfl (XS.iload XJ.here hx rfl (hb hby at_509) rfl (XS.iload XJ.here hx rfl (hb hby at_511) rfl k))) ?_
 obtain ⟨cq32, kq32, q32a, q32b, q32c⟩ := isOf hZ eJ E_jr
 obtain ⟨_, _, ⟨T32, L32, k32, n32⟩, -, X32, ⟨Lc32, hQ32, l32, y32, z32⟩, st32⟩ := XJ.virtualBack hx (y := (⟨RC, "contains", "(II)Z"⟩ : MethodName)) (z := (⟨RC, "contains", "(II)Z"⟩ : MethodName)) hown (mvT hZ (wd80 hw)) (mvT hZ (wd81 hw)) (notFace_of_selects (args := #[]) (mvT hZ (wd83 hw))) (mvT hZ (wd83 hw)) (mvT hZ (wd82 hw)) (by decide) (backOf (W := 0) (rm14_e l Z a0 hw [] jr pf pt js jks jX jt jkt jT jn ge hJ n0 Z0 F_js V_js F_jt V_jt (own_pf0 rpf) (own_pf1 rpf) hlo hhi hge hnn) hZ (wd84 hw) (wd54 hw) (by decide) (by decide)) q32a q32c (g := (mkF m 513 #[vj q1, .second, vj q2, .second, vj q3, .second, vi p4, vi p5, vi fa, vi ta, vi g1, vi u1, vi g2, vi u3, vi (p5 &&& (3 : Int32)), vi kf, vi pt, vi pf, vi x18, vi x19, vi x20, vi (((1 : Int32) + da) + db), vi xin, vi ((ca + cb) + cc), vi m3, vr b23, vr jr, us, us] [(.int pt), (.int pf), (.ref jr)])) rfl (by rw [hml]; rfl) (Steps.refl _) (argsL := [(.int pf), (.int pt)]) (rest := []) (lenOf pd13 rfl) rfl (by show 2 * 0 + _ ≤ _; exact Nat.le_of_eq rfl) (hb hby at_513) (fun _ _ => ⟨rfl, eJ, (by decide : 12 + 0 ≤ _), (by decide : 60 + 0 ≤ _)⟩)
 dsimp only [Pt.U, Pt.locs, Pt.cells, Pt.slots] at X32 l32 y32 z32 st32 hQ32
 subst l32 y32 z32
 refine Go.tr st32 ?_
 obtain ⟨rfl, N32q, e32⟩ := hQ32
 have N32 := Fr.app NJ N32q
 refine G (fun t k => XS.iload X32.here hx rfl (hb hby at_516) rfl k) ?_
 have hf33 : (0 : Int32) = xin := hcon
 refine G (fun t k => XS.icmpYes X32.here hx rfl (pc0 := 518) (pc' := 523) rfl (hb hby at_518) rfl (teq hf33).1 (by decide) (by decide) (XS.aload X32.here hx rfl (hb hby at_523) rfl rfl k)) ?_
 show Go _ _ _ (T32.setTop (mkF m 525 #[vj q1, .second, vj q2, .second, vj q3, .second, vi p4, vi p5, vi fa, vi ta, vi g1, vi u1, vi g2, vi u3, vi (p5 &&& (3 : Int32)), vi kf, vi pt, vi pf, vi x18, vi x19, vi x20, vi (((1 : Int32) + da) + db), vi xin, vi ((ca + cb) + cc), vi m3, vr b23, vr jr, us, us] [(.ref jr)])) _
 refine G (fun t k => XS.iload X32.here hx rfl (hb hby at_525) rfl k) ?_
 obtain ⟨cq34, kq34, q34a, q34b, q34c⟩ := isOf hZ e32 E_jr
 obtain ⟨_, _, ⟨T34, L34, k34, n34⟩, -, X34, ⟨Lc34, hQ34, l34, y34, z34⟩, st34⟩ := X32.virtualBack hx (y := (⟨RC, "start", "(I)I"⟩ : MethodName)) (z := (⟨RC, "start", "(I)I"⟩ : MethodName)) hown (mvT hZ (wd94 hw)) (mvT hZ (wd95 hw)) (notFace_of_selects (args := #[]) (mvT hZ (wd97 hw))) (mvT hZ (wd97 hw)) (mvT hZ (wd96 hw)) (by decide) (backOf (W := 0) (rm18 l Z a0 hw [] jr pf js jks jX ge hJ n0 Z0 F_js V_js (own_pf0 rpf) hlo) hZ (wd98 hw) (wd54 hw) (by decide) (by decide)) q34a q34c (g := (mkF m 527 #[vj q1, .second, vj q2, .second, vj q3, .second, vi p4, vi p5, vi fa, vi ta, vi g1, vi u1, vi g2, vi u3, vi (p5 &&& (3 : Int32)), vi kf, vi pt, vi pf, vi x18, vi x19, vi x20, vi (((1 : Int32) + da) + db), vi xin, vi ((ca + cb) + cc), vi m3, vr b23, vr jr, us, us] [(.int pf), (.ref jr)])) rfl (by rw [hml]; rfl) (Steps.refl _) (argsL := [(.int pf)]) (rest := []) (lenOf pd14 rfl) rfl (by show 2 * 0 + _ ≤ _; exact Nat.le_of_eq rfl) (hb hby at_527) (fun _ _ => ⟨rfl, e32, (by decide : 12 + 0 ≤ _), (by decide : 60 + 0 ≤ _)⟩)
 dsimp only [Pt.U, Pt.locs, Pt.cells, Pt.slots] at X34 l34 y34 z34 st34 hQ34
 subst l34 y34 z34
 refine Go.tr st34 ?_
 obtain ⟨rfl, N34q, e34⟩ := hQ34
 have N34 := Fr.app N32 N34q
 refine G (fun t k => XS.istore X34.here hx rfl (hb hby at_530) rfl (l' := #[vj q1, .second, vj q2, .second, vj q3, .second, vi p4, vi p5, vi fa, vi ta, vi g1, vi u1, vi g2, vi u3, vi (p5 &&& (3 : Int32)), vi kf, vi pt, vi pf, vi x18, vi x19, vi x20, vi (((1 : Int32) + da) + db), vi xin, vi ((ca + cb) + cc), vi m3, vr b23, vr jr, vi ge, us]) rfl (XS.aload X34.here hx rfl (hb hby at_532) rfl rfl (XS.iload X34.here hx rfl (hb hby at_534) rfl k))) ?_
 obtain ⟨cq35, kq35, q35a, q35b, q35c⟩ := isOf hZ e34 E_jr
 obtain ⟨_, _, ⟨T35, L35, k35, n35⟩, -, X35, ⟨Lc35, hQ35, l35, y35, z35⟩, st35⟩ := X34.virtualBack hx (y := (⟨RC, "end", "(I)I"⟩ : MethodName)) (z := (⟨RC, "end", "(I)I"⟩ : MethodName)) hown (mvT hZ (wd99 hw)) (mvT hZ (wd100 hw)) (notFace_of_selects (args := #[]) (mvT hZ (wd102 hw))) (mvT hZ (wd102 hw)) (mvT hZ (wd101 hw)) (by decide) (backOf (W := 0) (rm19 l Z a0 hw [] jr pf js jks jX ge hJ n0 Z0 F_js V_js (own_pf1 rpf) hhi) hZ (wd103 hw) (wd54 hw) (by decide) (by decide)) q35a q35c (g := (mkF m 536 #[vj q1, .second, vj q2, .second, vj q3, .second, vi p4, vi p5, vi fa, vi ta, vi g1, vi u1, vi g2, vi u3, vi (p5 &&& (3 : Int32)), vi kf, vi pt, vi pf, vi x18, vi x19, vi x20, vi (((1 : Int32) + da) + db), vi xin, vi ((ca + cb) + cc), vi m3, vr b23, vr jr, vi ge, us] [(.int pf), (.ref jr)])) rfl (by rw [hml]; rfl) (Steps.refl _) (argsL := [(.int pf)]) (rest := []) (lenOf pd14 rfl) rfl (by show 2 * 0 + _ ≤ _; exact Nat.le_of_eq rfl) (hb hby at_536) (fun _ _ => ⟨rfl, e34, (by decide : 12 + 0 ≤ _), (by decide : 60 + 0 ≤ _)⟩)
 dsimp only [Pt.U, Pt.locs, Pt.cells, Pt.slots] at X35 l35 y35 z35 st35 hQ35
 subst l35 y35 z35
 refine Go.tr st35 ?_
 obtain ⟨rfl, N35q, e35⟩ := hQ35
 have N35 := Fr.app N34 N35q
 refine G (fun t k => XS.istore X35.here hx rfl (hb hby at_539) rfl (l' := #[vj q1, .second, vj q2, .second, vj q3, .second, vi p4, vi p5, vi fa, vi ta, vi g1, vi u1, vi g2, vi u3, vi (p5 &&& (3 : Int32)), vi kf, vi pt, vi pf, vi x18, vi x19, vi x20, vi (((1 : Int32) + da) + db), vi xin, vi ((ca + cb) + cc), vi m3, vr b23, vr jr, vi ge, vi ge]) rfl k) ?_
 show Go _ _ _ (T35.setTop (mkF m 541 #[vj q1, .second, vj q2, .second, vj q3, .second, vi p4, vi p5, vi fa, vi ta, vi g1, vi u1, vi g2, vi u3, vi (p5 &&& (3 : Int32)), vi kf, vi pt, vi pf, vi x18, vi x19, vi x20, vi (((1 : Int32) + da) + db), vi xin, vi ((ca + cb) + cc), vi m3, vr b23, vr jr, vi ge, vi ge] [])) _
 refine G (fun t k => XS.iload X35.here hx rfl (hb hby at_541) rfl (XS.iload X35.here hx rfl (hb hby at_543) rfl (XS.isub X35.here hx rfl (hb hby at_545) rfl (XS.iload X35.here hx rfl (hb hby at_546) rfl k)))) ?_
 have hf36 : (ge - ge) = ((ca + cb) + cc) := (Int32.sub_self _).trans hcd
 refine G (fun t k => XS.icmpYes X35.here hx rfl (pc0 := 548) (pc' := 553) rfl (hb hby at_548) rfl (teq hf36).1 (by decide) (by decide) (XS.iload X35.here hx rfl (hb hby at_553) rfl k)) ?_
 have hf37 : ¬ ((0 : Int32) < ((ca + cb) + cc)) := (by rw [← hcd]; decide)
 refine G (fun t k => XS.ifYes X35.here hx rfl (pc0 := 555) (pc' := 572) rfl (hb hby at_555) rfl ((if0 _ _).trans (flt hf37).2.2.2) (by decide) (by decide) k) ?_
 show Go _ _ _ (T35.setTop (mkF m 572 #[vj q1, .second, vj q2, .second, vj q3, .second, vi p4, vi p5, vi fa, vi ta, vi g1, vi u1, vi g2, vi u3, vi (p5 &&& (3 : Int32)), vi kf, vi pt, vi pf, vi x18, vi x19, vi x20, vi (((1 : Int32) + da) + db), vi xin, vi ((ca + cb) + cc), vi m3, vr b23, vr jr, vi ge, vi ge] [])) _
 refine G (fun t k => XS.iconst X35.here hx rfl (hb hby at_572) k) ?_
 obtain ⟨fs, hr, hrun, hended, hW, hsame⟩ := X35.leave (v := some (.int (1 : Int32))) (fun h => by rw [Bd.returns] at h; cases h)
 refine Go.fin (retN X35 hx (t := .boolean) Bd.returns (by simp) (hb hby at_573) hr) hrun hended ⟨_, _, rfl, ?_, ⟨_, rfl⟩, hW, hsame.mono (by decide) (by decide)⟩
 show Q0 Z q1 q2 q3 p4 p5 h0 n0 _ T35.heap _
 rw [e35]
 exact ⟨rfl, N35⟩
theorem TJ0_38 (l : Launch) (Z : State) (a0 : Array Value) (hw : HW a0 Z) (ws : List Jvm.Cond) (q1 : Int64) (q2 : Int64) (q3 : Int64) (p4 : Int32) (p5 : Int32) (h0 : Heap) (n0 : Nat) {p : Program} {e : Env} {s : State} {m : MethodId} {below : List Frame} {meth : Method} {c : Code} {s₁ : State} (Bd : BodyLoose p l x (head1 (Jvm.Cond.code x code maxLocals ret :: ws) room_1) code maxLocals ret e s m #[(.long q1), (.long q2), (.long q3), (.int p4), (.int p5)] below meth c s₁) (hml0 : c.maxLocals = maxLocals) (hZ : Z.Warmed39 s.vm) {TJ : State} {locsJ : List Loc} {hJ : Heap} {b23 : Addr} {jr : Addr} {js : Addr} {jt : Addr} {jks : ClassId} {jkt : ClassId} {fa : Int32} {ta : Int32} {u1 : Int32} {u3 : Int32} {g1 : Int32} {g2 : Int32} {kf : Int32} {pt : Int32} {pf : Int32} {x18 : Int32} {x19 : Int32} {x20 : Int32} {da : Int32} {db : Int32} {xin : Int32} {ca : Int32} {cb : Int32} {cc : Int32} {m3 : Int32} {jX : List Int32} {jT : List Int32} {jn : Int32} (XJ : Stand p l e room_1 s m #[(.long q1), (.long q2), (.long q3), (.int p4), (.int p5)] below meth c TJ locsJ 12 60) (eJ : TJ.heap = hJ) (NJ : Fr n0 locsJ) (K0 : Keep h0 hJ []) (Z0 : n0 ≤ hJ.size) (E_jr : Exa Z hJ jr RC) (F_js : Fld Z hJ jr RC "start" "[I" (.ref js)) (F_jt : Fld Z hJ jr RC "targets" "[I" (.ref jt)) (V_js : Arv Z hJ js jks .int (9 : Int32) (List.map Value.int jX) (.int (0 : Int32))) (V_jt : Arv Z hJ jt jkt .int jn (List.map Value.int jT) (.int (0 : Int32))) (rpf : 0 ≤ pf.toInt ∧ pf.toInt ≤ 7) (hlo : own_at jX pf = (0 : Int32)) (hhi : own_at jX (pf + (1 : Int32)) = (1 : Int32)) (hnn : ¬ jn < (1 : Int32)) (hcon : (f14_01 pt jT) = xin) (hcd : (1 : Int32) = ((ca + cb) + cc)) (hmn : own_at jT (0 : Int32) = m3) :
  Go p.tables e below (TJ.setTop (mkF m 507 #[vj q1, .second, vj q2, .second, vj q3, .second, vi p4, vi p5, vi fa, vi ta, vi g1, vi u1, vi g2, vi u3, vi (p5 &&& (3 : Int32)), vi kf, vi pt, vi pf, vi x18, vi x19, vi x20, vi (((1 : Int32) + da) + db), vi xin, vi ((ca + cb) + cc), vi m3, vr b23, vr jr, us, us] [])) (fun o U' => ∃ v L, o = .returned v ∧ Q0 Z q1 q2 q3 p4 p5 h0 n0 v U'.heap L ∧ FrameEnd s o U' L 24 192) := by
 have hx := Bd.exec
 have hby := Bd.bytes
 have hml : c.maxLocals = 29 := hml0
 have hown : s.vm.findClass "com/example/tripletype/tripletype/BuilderAddPinLaw" = some m.cls := findClass_of_methodNamed Bd.named
 have hnm := (name_of_methodNamed Bd.named Bd.method).1
 refine G (fun t k => XS.aload XJ.here hx rfl (hb hby at_507) rfl rfl (XS.iload XJ.here hx rfl (hb hby at_509) rfl (XS.iload XJ.here hx rfl (hb hby at_511) rfl k))) ?_
 obtain ⟨cq39, kq39, q39a, q39b, q39c⟩ := isOf hZ eJ E_jr
 obtain ⟨_, _, ⟨T39, L39, k39, n39⟩, -, X39, ⟨Lc39, hQ39, l39, y39, z39⟩, st39⟩ := XJ.virtualBack hx (y := (⟨RC, "contains", "(II)Z"⟩ : MethodName)) (z := (⟨RC, "contains", "(II)Z"⟩ : MethodName)) hown (mvT hZ (wd80 hw)) (mvT hZ (wd81 hw)) (notFace_of_selects (args := #[]) (mvT hZ (wd83 hw))) (mvT hZ (wd83 hw)) (mvT hZ (wd82 hw)) (by decide) (backOf (W := 0) (rm14_01 l Z a0 hw [] jr pf pt js jks jX jt jkt jT jn hJ n0 Z0 F_js V_js F_jt V_jt (own_pf0 rpf) (own_pf1 rpf) hlo hhi hnn) hZ (wd84 hw) (wd54 hw) (by decide) (by decide)) q39a q39c (g := (mkF m 513 #[vj q1, .second, vj q2, .second, vj q3, .second, vi p4, vi p5, vi fa, vi ta, vi g1, vi u1, vi g2, vi u3, vi (p5 &&& (3 : Int32)), vi kf, vi pt, vi pf, vi x18, vi x19, vi x20, vi (((1 : Int32) + da) + db), vi xin, vi ((ca + cb) + cc), vi m3, vr b23, vr jr, us, us] [(.int pt), (.int pf), (.ref jr)])) rfl (by rw [hml]; rfl) (Steps.refl _) (argsL := [(.int pf), (.int pt)]) (rest := []) (lenOf pd13 rfl) rfl (by show 2 * 0 + _ ≤ _; exact Nat.le_of_eq rfl) (hb hby at_513) (fun _ _ => ⟨rfl, eJ, (by decide : 12 + 0 ≤ _), (by decide : 60 + 0 ≤ _)⟩)
 dsimp only [Pt.U, Pt.locs, Pt.cells, Pt.slots] at X39 l39 y39 z39 st39 hQ39
 subst l39 y39 z39
 refine Go.tr st39 ?_
 obtain ⟨rfl, N39q, e39⟩ := hQ39
 have N39 := Fr.app NJ N39q
 refine G (fun t k => XS.iload X39.here hx rfl (hb hby at_516) rfl k) ?_
 have hf40 : (f14_01 pt jT) = xin := hcon
 refine G (fun t k => XS.icmpYes X39.here hx rfl (pc0 := 518) (pc' := 523) rfl (hb hby at_518) rfl (teq hf40).1 (by decide) (by decide) (XS.aload X39.here hx rfl (hb hby at_523) rfl rfl k)) ?_
 show Go _ _ _ (T39.setTop (mkF m 525 #[vj q1, .second, vj q2, .second, vj q3, .second, vi p4, vi p5, vi fa, vi ta, vi g1, vi u1, vi g2, vi u3, vi (p5 &&& (3 : Int32)), vi kf, vi pt, vi pf, vi x18, vi x19, vi x20, vi (((1 : Int32) + da) + db), vi xin, vi ((ca + cb) + cc), vi m3, vr b23, vr jr, us, us] [(.ref jr)])) _
 refine G (fun t k => XS.iload X39.here hx rfl (hb hby at_525) rfl k) ?_
 obtain ⟨cq41, kq41, q41a, q41b, q41c⟩ := isOf hZ e39 E_jr
 obtain ⟨_, _, ⟨T41, L41, k41, n41⟩, -, X41, ⟨Lc41, hQ41, l41, y41, z41⟩, st41⟩ := X39.virtualBack hx (y := (⟨RC, "start", "(I)I"⟩ : MethodName)) (z := (⟨RC, "start", "(I)I"⟩ : MethodName)) hown (mvT hZ (wd94 hw)) (mvT hZ (wd95 hw)) (notFace_of_selects (args := #[]) (mvT hZ (wd97 hw))) (mvT hZ (wd97 hw)) (mvT hZ (wd96 hw)) (by decide) (backOf (W := 0) (rm18 l Z a0 hw [] jr pf js jks jX (0 : Int32) hJ n0 Z0 F_js V_js (own_pf0 rpf) hlo) hZ (wd98 hw) (wd54 hw) (by decide) (by decide)) q41a q41c (g := (mkF m 527 #[vj q1, .second, vj q2, .second, vj q3, .second, vi p4, vi p5, vi fa, vi ta, vi g1, vi u1, vi g2, vi u3, vi (p5 &&& (3 : Int32)), vi kf, vi pt, vi pf, vi x18, vi x19, vi x20, vi (((1 : Int32) + da) + db), vi xin, vi ((ca + cb) + cc), vi m3, vr b23, vr jr, us, us] [(.int pf), (.ref jr)])) rfl (by rw [hml]; rfl) (Steps.refl _) (argsL := [(.int pf)]) (rest := []) (lenOf pd14 rfl) rfl (by show 2 * 0 + _ ≤ _; exact Nat.le_of_eq rfl) (hb hby at_527) (fun _ _ => ⟨rfl, e39, (by decide : 12 + 0 ≤ _), (by decide : 60 + 0 ≤ _)⟩)
 dsimp only [Pt.U, Pt.locs, Pt.cells, Pt.slots] at X41 l41 y41 z41 st41 hQ41
 subst l41 y41 z41
 refine Go.tr st41 ?_
 obtain ⟨rfl, N41q, e41⟩ := hQ41
 have N41 := Fr.app N39 N41q
 refine G (fun t k => XS.istore X41.here hx rfl (hb hby at_530) rfl (l' := #[vj q1, .second, vj q2, .second, vj q3, .second, vi p4, vi p5, vi fa, vi ta, vi g1, vi u1, vi g2, vi u3, vi (p5 &&& (3 : Int32)), vi kf, vi pt, vi pf, vi x18, vi x19, vi x20, vi (((1 : Int32) + da) + db), vi xin, vi ((ca + cb) + cc), vi m3, vr b23, vr jr, vi 0, us]) rfl (XS.aload X41.here hx rfl (hb hby at_532) rfl rfl (XS.iload X41.here hx rfl (hb hby at_534) rfl k))) ?_
 obtain ⟨cq42, kq42, q42a, q42b, q42c⟩ := isOf hZ e41 E_jr
 obtain ⟨_, _, ⟨T42, L42, k42, n42⟩, -, X42, ⟨Lc42, hQ42, l42, y42, z42⟩, st42⟩ := X41.virtualBack hx (y := (⟨RC, "end", "(I)I"⟩ : MethodName)) (z := (⟨RC, "end", "(I)I"⟩ : MethodName)) hown (mvT hZ (wd99 hw)) (mvT hZ (wd100 hw)) (notFace_of_selects (args := #[]) (mvT hZ (wd102 hw))) (mvT hZ (wd102 hw)) (mvT hZ (wd101 hw)) (by decide) (backOf (W := 0) (rm19 l Z a0 hw [] jr pf js jks jX (1 : Int32) hJ n0 Z0 F_js V_js (own_pf1 rpf) hhi) hZ (wd103 hw) (wd54 hw) (by decide) (by decide)) q42a q42c (g := (mkF m 536 #[vj q1, .second, vj q2, .second, vj q3, .second, vi p4, vi p5, vi fa, vi ta, vi g1, vi u1, vi g2, vi u3, vi (p5 &&& (3 : Int32)), vi kf, vi pt, vi pf, vi x18, vi x19, vi x20, vi (((1 : Int32) + da) + db), vi xin, vi ((ca + cb) + cc), vi m3, vr b23, vr jr, vi 0, us] [(.int pf), (.ref jr)])) rfl (by rw [hml]; rfl) (Steps.refl _) (argsL := [(.int pf)]) (rest := []) (lenOf pd14 rfl) rfl (by show 2 * 0 + _ ≤ _; exact Nat.le_of_eq rfl) (hb hby at_536) (fun _ _ => ⟨rfl, e41, (by decide : 12 + 0 ≤ _), (by decide : 60 + 0 ≤ _)⟩)
 dsimp only [Pt.U, Pt.locs, Pt.cells, Pt.slots] at X42 l42 y42 z42 st42 hQ42
 subst l42 y42 z42
 refine Go.tr st42 ?_
 obtain ⟨rfl, N42q, e42⟩ := hQ42
 have N42 := Fr.app N41 N42q
 refine G (fun t k => XS.istore X42.here hx rfl (hb hby at_539) rfl (l' := #[vj q1, .second, vj q2, .second, vj q3, .second, vi p4, vi p5, vi fa, vi ta, vi g1, vi u1, vi g2, vi u3, vi (p5 &&& (3 : Int32)), vi kf, vi pt, vi pf, vi x18, vi x19, vi x20, vi (((1 : Int32) + da) + db), vi xin, vi ((ca + cb) + cc), vi m3, vr b23, vr jr, vi 0, vi 1]) rfl k) ?_
 show Go _ _ _ (T42.setTop (mkF m 541 #[vj q1, .second, vj q2, .second, vj q3, .second, vi p4, vi p5, vi fa, vi ta, vi g1, vi u1, vi g2, vi u3, vi (p5 &&& (3 : Int32)), vi kf, vi pt, vi pf, vi x18, vi x19, vi x20, vi (((1 : Int32) + da) + db), vi xin, vi ((ca + cb) + cc), vi m3, vr b23, vr jr, vi 0, vi 1] [])) _
 refine G (fun t k => XS.iload X42.here hx rfl (hb hby at_541) rfl (XS.iload X42.here hx rfl (hb hby at_543) rfl (XS.isub X42.here hx rfl (hb hby at_545) rfl (XS.iload X42.here hx rfl (hb hby at_546) rfl k)))) ?_
 have hf43 : (1 : Int32) = ((ca + cb) + cc) := hcd
 refine G (fun t k => XS.icmpYes X42.here hx rfl (pc0 := 548) (pc' := 553) rfl (hb hby at_548) rfl (teq hf43).1 (by decide) (by decide) (XS.iload X42.here hx rfl (hb hby at_553) rfl k)) ?_
 have hf44 : (0 : Int32) < ((ca + cb) + cc) := (by rw [← hcd]; decide)
 refine G (fun t k => XS.ifNo X42.here hx rfl (hb hby at_555) rfl ((if0 _ _).trans (tlt hf44).2.2.2) k) ?_
 show Go _ _ _ (T42.setTop (mkF m 558 #[vj q1, .second, vj q2, .second, vj q3, .second, vi p4, vi p5, vi fa, vi ta, vi g1, vi u1, vi g2, vi u3, vi (p5 &&& (3 : Int32)), vi kf, vi pt, vi pf, vi x18, vi x19, vi x20, vi (((1 : Int32) + da) + db), vi xin, vi ((ca + cb) + cc), vi m3, vr b23, vr jr, vi 0, vi 1] [])) _
 refine G (fun t k => XS.aload X42.here hx rfl (hb hby at_558) rfl rfl (XS.iload X42.here hx rfl (hb hby at_560) rfl k)) ?_
 obtain ⟨cq45, kq45, q45a, q45b, q45c⟩ := isOf hZ e42 E_jr
 obtain ⟨_, _, ⟨T45, L45, k45, n45⟩, -, X45, ⟨Lc45, hQ45, l45, y45, z45⟩, st45⟩ := X42.virtualBack hx (y := (⟨RC, "target", "(I)I"⟩ : MethodName)) (z := (⟨RC, "target", "(I)I"⟩ : MethodName)) hown (mvT hZ (wd104 hw)) (mvT hZ (wd105 hw)) (notFace_of_selects (args := #[]) (mvT hZ (wd107 hw))) (mvT hZ (wd107 hw)) (mvT hZ (wd106 hw)) (by decide) (backOf (W := 0) (rm20 l Z a0 hw [] jr (0 : Int32) jt jkt jT jn hJ n0 Z0 F_jt V_jt ⟨by decide, own_ltl (0 : Int32) (1 : Int32) _ (by decide) hnn⟩) hZ (wd108 hw) (wd54 hw) (by decide) (by decide)) q45a q45c (g := (mkF m 562 #[vj q1, .second, vj q2, .second, vj q3, .second, vi p4, vi p5, vi fa, vi ta, vi g1, vi u1, vi g2, vi u3, vi (p5 &&& (3 : Int32)), vi kf, vi pt, vi pf, vi x18, vi x19, vi x20, vi (((1 : Int32) + da) + db), vi xin, vi ((ca + cb) + cc), vi m3, vr b23, vr jr, vi 0, vi 1] [(.int 0), (.ref jr)])) rfl (by rw [hml]; rfl) (Steps.refl _) (argsL := [(.int (0 : Int32))]) (rest := []) (lenOf pd14 rfl) rfl (by show 2 * 0 + _ ≤ _; exact Nat.le_of_eq rfl) (hb hby at_562) (fun _ _ => ⟨rfl, e42, (by decide : 12 + 0 ≤ _), (by decide : 60 + 0 ≤ _)⟩)
 dsimp only [Pt.U, Pt.locs, Pt.cells, Pt.slots] at X45 l45 y45 z45 st45 hQ45
 subst l45 y45 z45
 refine Go.tr st45 ?_
 obtain ⟨rfl, N45q, e45⟩ := hQ45
 have N45 := Fr.app N42 N45q
 obtain ⟨LL45, X45, N45⟩ : ∃ LL, Stand p l e room_1 s m #[(.long q1), (.long q2), (.long q3), (.int p4), (.int p5)] below meth c T45 LL 12 60 ∧ Fr n0 LL := ⟨_, X45, N45⟩
 refine G (fun t k => XS.iload X45.here hx rfl (hb hby at_565) rfl k) ?_
 have hf46 : (own_at jT (0 : Int32)) = m3 := hmn
 refine G (fun t k => XS.icmpYes X45.here hx rfl (pc0 := 567) (pc' := 572) rfl (hb hby at_567) rfl (teq hf46).1 (by decide) (by decide) (XS.iconst X45.here hx rfl (hb hby at_572) k)) ?_
 obtain ⟨fs, hr, hrun, hended, hW, hsame⟩ := X45.leave (v := some (.int (1 : Int32))) (fun h => by rw [Bd.returns] at h; cases h)
 refine Go.fin (retN X45 hx (t := .boolean) Bd.returns (by simp) (hb hby at_573) hr) hrun hended ⟨_, _, rfl, ?_, ⟨_, rfl⟩, hW, hsame.mono (by decide) (by decide)⟩
 show Q0 Z q1 q2 q3 p4 p5 h0 n0 _ T45.heap _
 rw [e45]
 exact ⟨rfl, N45⟩
theorem TJ0_47 (l : Launch) (Z : State) (a0 : Array Value) (hw : HW a0 Z) (ws : List Jvm.Cond) (q1 : Int64) (q2 : Int64) (q3 : Int64) (p4 : Int32) (p5 : Int32) (h0 : Heap) (n0 : Nat) {p : Program} {e : Env} {s : State} {m : MethodId} {below : List Frame} {meth : Method} {c : Code} {s₁ : State} (Bd : BodyLoose p l x (head1 (Jvm.Cond.code x code maxLocals ret :: ws) room_1) code maxLocals ret e s m #[(.long q1), (.long q2), (.long q3), (.int p4), (.int p5)] below meth c s₁) (hml0 : c.maxLocals = maxLocals) (hZ : Z.Warmed39 s.vm) {TJ : State} {locsJ : List Loc} {hJ : Heap} {b23 : Addr} {jr : Addr} {js : Addr} {jt : Addr} {jks : ClassId} {jkt : ClassId} {fa : Int32} {ta : Int32} {u1 : Int32} {u3 : Int32} {g1 : Int32} {g2 : Int32} {kf : Int32} {pt : Int32} {pf : Int32} {x18 : Int32} {x19 : Int32} {x20 : Int32} {da : Int32} {db : Int32} {xin : Int32} {ca : Int32} {cb : Int32} {cc : Int32} {m3 : Int32} {jX : List Int32} {jT : List Int32} {jn : Int32} (XJ : Stand p l e room_1 s m #[(.long q1), (.long q2), (.long q3), (.int p4), (.int p5)] below meth c TJ locsJ 12 60) (eJ : TJ.heap = hJ) (NJ : Fr n0 locsJ) (K0 : Keep h0 hJ []) (Z0 : n0 ≤ hJ.size) (E_jr : Exa Z hJ jr RC) (F_js : Fld Z hJ jr RC "start" "[I" (.ref js)) (F_jt : Fld Z hJ jr RC "targets" "[I" (.ref jt)) (V_js : Arv Z hJ js jks .int (9 : Int32) (List.map Value.int jX) (.int (0 : Int32))) (V_jt : Arv Z hJ jt jkt .int jn (List.map Value.int jT) (.int (0 : Int32))) (rpf : 0 ≤ pf.toInt ∧ pf.toInt ≤ 7) (hlo : own_at jX pf = (0 : Int32)) (hhi : own_at jX (pf + (1 : Int32)) = (2 : Int32)) (hnn : ¬ jn < (2 : Int32)) (hcon : (f14_02 pt jT) = xin) (hcd : (2 : Int32) = ((ca + cb) + cc)) (hmn : own_at jT (0 : Int32) = m3) :
  Go p.tables e below (TJ.setTop (mkF m 507 #[vj q1, .second, vj q2, .second, vj q3, .second, vi p4, vi p5, vi fa, vi ta, vi g1, vi u1, vi g2, vi u3, vi (p5 &&& (3 : Int32)), vi kf, vi pt, vi pf, vi x18, vi x19, vi x20, vi (((1 : Int32) + da) + db), vi xin, vi ((ca + cb) + cc), vi m3, vr b23, vr jr, us, us] [])) (fun o U' => ∃ v L, o = .returned v ∧ Q0 Z q1 q2 q3 p4 p5 h0 n0 v U'.heap L ∧ FrameEnd s o U' L 24 192) := by
 have hx := Bd.exec
 have hby := Bd.bytes
 have hml : c.maxLocals = 29 := hml0
 have hown : s.vm.findClass "com/example/tripletype/tripletype/BuilderAddPinLaw" = some m.cls := findClass_of_methodNamed Bd.named
 have hnm := (name_of_methodNamed Bd.named Bd.method).1
 refine G (fun t k => XS.aload XJ.here hx rfl (hb hby at_507) rfl rfl (XS.iload XJ.here hx rfl (hb hby at_509) rfl (XS.iload XJ.here hx rfl (hb hby at_511) rfl k))) ?_
 obtain ⟨cq48, kq48, q48a, q48b, q48c⟩ := isOf hZ eJ E_jr
 obtain ⟨_, _, ⟨T48, L48, k48, n48⟩, -, X48, ⟨Lc48, hQ48, l48, y48, z48⟩, st48⟩ := XJ.virtualBack hx (y := (⟨RC, "contains", "(II)Z"⟩ : MethodName)) (z := (⟨RC, "contains", "(II)Z"⟩ : MethodName)) hown (mvT hZ (wd80 hw)) (mvT hZ (wd81 hw)) (notFace_of_selects (args := #[]) (mvT hZ (wd83 hw))) (mvT hZ (wd83 hw)) (mvT hZ (wd82 hw)) (by decide) (backOf (W := 0) (rm14_02 l Z a0 hw [] jr pf pt js jks jX jt jkt jT jn hJ n0 Z0 F_js V_js F_jt V_jt (own_pf0 rpf) (own_pf1 rpf) hlo hhi hnn) hZ (wd84 hw) (wd54 hw) (by decide) (by decide)) q48a q48c (g := (mkF m 513 #[vj q1, .second, vj q2, .second, vj q3, .second, vi p4, vi p5, vi fa, vi ta, vi g1, vi u1, vi g2, vi u3, vi (p5 &&& (3 : Int32)), vi kf, vi pt, vi pf, vi x18, vi x19, vi x20, vi (((1 : Int32) + da) + db), vi xin, vi ((ca + cb) + cc), vi m3, vr b23, vr jr, us, us] [(.int pt), (.int pf), (.ref jr)])) rfl (by rw [hml]; rfl) (Steps.refl _) (argsL := [(.int pf), (.int pt)]) (rest := []) (lenOf pd13 rfl) rfl (by show 2 * 0 + _ ≤ _; exact Nat.le_of_eq rfl) (hb hby at_513) (fun _ _ => ⟨rfl, eJ, (by decide : 12 + 0 ≤ _), (by decide : 60 + 0 ≤ _)⟩)
 dsimp only [Pt.U, Pt.locs, Pt.cells, Pt.slots] at X48 l48 y48 z48 st48 hQ48
 subst l48 y48 z48
 refine Go.tr st48 ?_
 obtain ⟨rfl, N48q, e48⟩ := hQ48
 have N48 := Fr.app NJ N48q
 refine G (fun t k => XS.iload X48.here hx rfl (hb hby at_516) rfl k) ?_
 have hf49 : (f14_02 pt jT) = xin := hcon
 refine G (fun t k => XS.icmpYes X48.here hx rfl (pc0 := 518) (pc' := 523) rfl (hb hby at_518) rfl (teq hf49).1 (by decide) (by decide) (XS.aload X48.here hx rfl (hb hby at_523) rfl rfl k)) ?_
 show Go _ _ _ (T48.setTop (mkF m 525 #[vj q1, .second, vj q2, .second, vj q3, .second, vi p4, vi p5, vi fa, vi ta, vi g1, vi u1, vi g2, vi u3, vi (p5 &&& (3 : Int32)), vi kf, vi pt, vi pf, vi x18, vi x19, vi x20, vi (((1 : Int32) + da) + db), vi xin, vi ((ca + cb) + cc), vi m3, vr b23, vr jr, us, us] [(.ref jr)])) _
 refine G (fun t k => XS.iload X48.here hx rfl (hb hby at_525) rfl k) ?_
 obtain ⟨cq50, kq50, q50a, q50b, q50c⟩ := isOf hZ e48 E_jr
 obtain ⟨_, _, ⟨T50, L50, k50, n50⟩, -, X50, ⟨Lc50, hQ50, l50, y50, z50⟩, st50⟩ := X48.virtualBack hx (y := (⟨RC, "start", "(I)I"⟩ : MethodName)) (z := (⟨RC, "start", "(I)I"⟩ : MethodName)) hown (mvT hZ (wd94 hw)) (mvT hZ (wd95 hw)) (notFace_of_selects (args := #[]) (mvT hZ (wd97 hw))) (mvT hZ (wd97 hw)) (mvT hZ (wd96 hw)) (by decide) (backOf (W := 0) (rm18 l Z a0 hw [] jr pf js jks jX (0 : Int32) hJ n0 Z0 F_js V_js (own_pf0 rpf) hlo) hZ (wd98 hw) (wd54 hw) (by decide) (by decide)) q50a q50c (g := (mkF m 527 #[vj q1, .second, vj q2, .second, vj q3, .second, vi p4, vi p5, vi fa, vi ta, vi g1, vi u1, vi g2, vi u3, vi (p5 &&& (3 : Int32)), vi kf, vi pt, vi pf, vi x18, vi x19, vi x20, vi (((1 : Int32) + da) + db), vi xin, vi ((ca + cb) + cc), vi m3, vr b23, vr jr, us, us] [(.int pf), (.ref jr)])) rfl (by rw [hml]; rfl) (Steps.refl _) (argsL := [(.int pf)]) (rest := []) (lenOf pd14 rfl) rfl (by show 2 * 0 + _ ≤ _; exact Nat.le_of_eq rfl) (hb hby at_527) (fun _ _ => ⟨rfl, e48, (by decide : 12 + 0 ≤ _), (by decide : 60 + 0 ≤ _)⟩)
 dsimp only [Pt.U, Pt.locs, Pt.cells, Pt.slots] at X50 l50 y50 z50 st50 hQ50
 subst l50 y50 z50
 refine Go.tr st50 ?_
 obtain ⟨rfl, N50q, e50⟩ := hQ50
 have N50 := Fr.app N48 N50q
 refine G (fun t k => XS.istore X50.here hx rfl (hb hby at_530) rfl (l' := #[vj q1, .second, vj q2, .second, vj q3, .second, vi p4, vi p5, vi fa, vi ta, vi g1, vi u1, vi g2, vi u3, vi (p5 &&& (3 : Int32)), vi kf, vi pt, vi pf, vi x18, vi x19, vi x20, vi (((1 : Int32) + da) + db), vi xin, vi ((ca + cb) + cc), vi m3, vr b23, vr jr, vi 0, us]) rfl (XS.aload X50.here hx rfl (hb hby at_532) rfl rfl (XS.iload X50.here hx rfl (hb hby at_534) rfl k))) ?_
 obtain ⟨cq51, kq51, q51a, q51b, q51c⟩ := isOf hZ e50 E_jr
 obtain ⟨_, _, ⟨T51, L51, k51, n51⟩, -, X51, ⟨Lc51, hQ51, l51, y51, z51⟩, st51⟩ := X50.virtualBack hx (y := (⟨RC, "end", "(I)I"⟩ : MethodName)) (z := (⟨RC, "end", "(I)I"⟩ : MethodName)) hown (mvT hZ (wd99 hw)) (mvT hZ (wd100 hw)) (notFace_of_selects (args := #[]) (mvT hZ (wd102 hw))) (mvT hZ (wd102 hw)) (mvT hZ (wd101 hw)) (by decide) (backOf (W := 0) (rm19 l Z a0 hw [] jr pf js jks jX (2 : Int32) hJ n0 Z0 F_js V_js (own_pf1 rpf) hhi) hZ (wd103 hw) (wd54 hw) (by decide) (by decide)) q51a q51c (g := (mkF m 536 #[vj q1, .second, vj q2, .second, vj q3, .second, vi p4, vi p5, vi fa, vi ta, vi g1, vi u1, vi g2, vi u3, vi (p5 &&& (3 : Int32)), vi kf, vi pt, vi pf, vi x18, vi x19, vi x20, vi (((1 : Int32) + da) + db), vi xin, vi ((ca + cb) + cc), vi m3, vr b23, vr jr, vi 0, us] [(.int pf), (.ref jr)])) rfl (by rw [hml]; rfl) (Steps.refl _) (argsL := [(.int pf)]) (rest := []) (lenOf pd14 rfl) rfl (by show 2 * 0 + _ ≤ _; exact Nat.le_of_eq rfl) (hb hby at_536) (fun _ _ => ⟨rfl, e50, (by decide : 12 + 0 ≤ _), (by decide : 60 + 0 ≤ _)⟩)
 dsimp only [Pt.U, Pt.locs, Pt.cells, Pt.slots] at X51 l51 y51 z51 st51 hQ51
 subst l51 y51 z51
 refine Go.tr st51 ?_
 obtain ⟨rfl, N51q, e51⟩ := hQ51
 have N51 := Fr.app N50 N51q
 refine G (fun t k => XS.istore X51.here hx rfl (hb hby at_539) rfl (l' := #[vj q1, .second, vj q2, .second, vj q3, .second, vi p4, vi p5, vi fa, vi ta, vi g1, vi u1, vi g2, vi u3, vi (p5 &&& (3 : Int32)), vi kf, vi pt, vi pf, vi x18, vi x19, vi x20, vi (((1 : Int32) + da) + db), vi xin, vi ((ca + cb) + cc), vi m3, vr b23, vr jr, vi 0, vi 2]) rfl k) ?_
 show Go _ _ _ (T51.setTop (mkF m 541 #[vj q1, .second, vj q2, .second, vj q3, .second, vi p4, vi p5, vi fa, vi ta, vi g1, vi u1, vi g2, vi u3, vi (p5 &&& (3 : Int32)), vi kf, vi pt, vi pf, vi x18, vi x19, vi x20, vi (((1 : Int32) + da) + db), vi xin, vi ((ca + cb) + cc), vi m3, vr b23, vr jr, vi 0, vi 2] [])) _
 refine G (fun t k => XS.iload X51.here hx rfl (hb hby at_541) rfl (XS.iload X51.here hx rfl (hb hby at_543) rfl (XS.isub X51.here hx rfl (hb hby at_545) rfl (XS.iload X51.here hx rfl (hb hby at_546) rfl k)))) ?_
 have hf52 : (2 : Int32) = ((ca + cb) + cc) := hcd
 refine G (fun t k => XS.icmpYes X51.here hx rfl (pc0 := 548) (pc' := 553) rfl (hb hby at_548) rfl (teq hf52).1 (by decide) (by decide) (XS.iload X51.here hx rfl (hb hby at_553) rfl k)) ?_
 have hf53 : (0 : Int32) < ((ca + cb) + cc) := (by rw [← hcd]; decide)
 refine G (fun t k => XS.ifNo X51.here hx rfl (hb hby at_555) rfl ((if0 _ _).trans (tlt hf53).2.2.2) k) ?_
 show Go _ _ _ (T51.setTop (mkF m 558 #[vj q1, .second, vj q2, .second, vj q3, .second, vi p4, vi p5, vi fa, vi ta, vi g1, vi u1, vi g2, vi u3, vi (p5 &&& (3 : Int32)), vi kf, vi pt, vi pf, vi x18, vi x19, vi x20, vi (((1 : Int32) + da) + db), vi xin, vi ((ca + cb) + cc), vi m3, vr b23, vr jr, vi 0, vi 2] [])) _
 refine G (fun t k => XS.aload X51.here hx rfl (hb hby at_558) rfl rfl (XS.iload X51.here hx rfl (hb hby at_560) rfl k)) ?_
 obtain ⟨cq54, kq54, q54a, q54b, q54c⟩ := isOf hZ e51 E_jr
 obtain ⟨_, _, ⟨T54, L54, k54, n54⟩, -, X54, ⟨Lc54, hQ54, l54, y54, z54⟩, st54⟩ := X51.virtualBack hx (y := (⟨RC, "target", "(I)I"⟩ : MethodName)) (z := (⟨RC, "target", "(I)I"⟩ : MethodName)) hown (mvT hZ (wd104 hw)) (mvT hZ (wd105 hw)) (notFace_of_selects (args := #[]) (mvT hZ (wd107 hw))) (mvT hZ (wd107 hw)) (mvT hZ (wd106 hw)) (by decide) (backOf (W := 0) (rm20 l Z a0 hw [] jr (0 : Int32) jt jkt jT jn hJ n0 Z0 F_jt V_jt ⟨by decide, own_ltl (0 : Int32) (2 : Int32) _ (by decide) hnn⟩) hZ (wd108 hw) (wd54 hw) (by decide) (by decide)) q54a q54c (g := (mkF m 562 #[vj q1, .second, vj q2, .second, vj q3, .second, vi p4, vi p5, vi fa, vi ta, vi g1, vi u1, vi g2, vi u3, vi (p5 &&& (3 : Int32)), vi kf, vi pt, vi pf, vi x18, vi x19, vi x20, vi (((1 : Int32) + da) + db), vi xin, vi ((ca + cb) + cc), vi m3, vr b23, vr jr, vi 0, vi 2] [(.int 0), (.ref jr)])) rfl (by rw [hml]; rfl) (Steps.refl _) (argsL := [(.int (0 : Int32))]) (rest := []) (lenOf pd14 rfl) rfl (by show 2 * 0 + _ ≤ _; exact Nat.le_of_eq rfl) (hb hby at_562) (fun _ _ => ⟨rfl, e51, (by decide : 12 + 0 ≤ _), (by decide : 60 + 0 ≤ _)⟩)
 dsimp only [Pt.U, Pt.locs, Pt.cells, Pt.slots] at X54 l54 y54 z54 st54 hQ54
 subst l54 y54 z54
 refine Go.tr st54 ?_
 obtain ⟨rfl, N54q, e54⟩ := hQ54
 have N54 := Fr.app N51 N54q
 obtain ⟨LL54, X54, N54⟩ : ∃ LL, Stand p l e room_1 s m #[(.long q1), (.long q2), (.long q3), (.int p4), (.int p5)] below meth c T54 LL 12 60 ∧ Fr n0 LL := ⟨_, X54, N54⟩
 refine G (fun t k => XS.iload X54.here hx rfl (hb hby at_565) rfl k) ?_
 have hf55 : (own_at jT (0 : Int32)) = m3 := hmn
 refine G (fun t k => XS.icmpYes X54.here hx rfl (pc0 := 567) (pc' := 572) rfl (hb hby at_567) rfl (teq hf55).1 (by decide) (by decide) (XS.iconst X54.here hx rfl (hb hby at_572) k)) ?_
 obtain ⟨fs, hr, hrun, hended, hW, hsame⟩ := X54.leave (v := some (.int (1 : Int32))) (fun h => by rw [Bd.returns] at h; cases h)
 refine Go.fin (retN X54 hx (t := .boolean) Bd.returns (by simp) (hb hby at_573) hr) hrun hended ⟨_, _, rfl, ?_, ⟨_, rfl⟩, hW, hsame.mono (by decide) (by decide)⟩
 show Q0 Z q1 q2 q3 p4 p5 h0 n0 _ T54.heap _
 rw [e54]
 exact ⟨rfl, N54⟩
theorem TJ0_56 (l : Launch) (Z : State) (a0 : Array Value) (hw : HW a0 Z) (ws : List Jvm.Cond) (q1 : Int64) (q2 : Int64) (q3 : Int64) (p4 : Int32) (p5 : Int32) (h0 : Heap) (n0 : Nat) {p : Program} {e : Env} {s : State} {m : MethodId} {below : List Frame} {meth : Method} {c : Code} {s₁ : State} (Bd : BodyLoose p l x (head1 (Jvm.Cond.code x code maxLocals ret :: ws) room_1) code maxLocals ret e s m #[(.long q1), (.long q2), (.long q3), (.int p4), (.int p5)] below meth c s₁) (hml0 : c.maxLocals = maxLocals) (hZ : Z.Warmed39 s.vm) {TJ : State} {locsJ : List Loc} {hJ : Heap} {b23 : Addr} {jr : Addr} {js : Addr} {jt : Addr} {jks : ClassId} {jkt : ClassId} {fa : Int32} {ta : Int32} {u1 : Int32} {u3 : Int32} {g1 : Int32} {g2 : Int32} {kf : Int32} {pt : Int32} {pf : Int32} {x18 : Int32} {x19 : Int32} {x20 : Int32} {da : Int32} {db : Int32} {xin : Int32} {ca : Int32} {cb : Int32} {cc : Int32} {m3 : Int32} {jX : List Int32} {jT : List Int32} {jn : Int32} (XJ : Stand p l e room_1 s m #[(.long q1), (.long q2), (.long q3), (.int p4), (.int p5)] below meth c TJ locsJ 12 60) (eJ : TJ.heap = hJ) (NJ : Fr n0 locsJ) (K0 : Keep h0 hJ []) (Z0 : n0 ≤ hJ.size) (E_jr : Exa Z hJ jr RC) (F_js : Fld Z hJ jr RC "start" "[I" (.ref js)) (F_jt : Fld Z hJ jr RC "targets" "[I" (.ref jt)) (V_js : Arv Z hJ js jks .int (9 : Int32) (List.map Value.int jX) (.int (0 : Int32))) (V_jt : Arv Z hJ jt jkt .int jn (List.map Value.int jT) (.int (0 : Int32))) (rpf : 0 ≤ pf.toInt ∧ pf.toInt ≤ 7) (hlo : own_at jX pf = (0 : Int32)) (hhi : own_at jX (pf + (1 : Int32)) = (3 : Int32)) (hnn : ¬ jn < (3 : Int32)) (hcon : (f14_03 pt jT) = xin) (hcd : (3 : Int32) = ((ca + cb) + cc)) (hmn : own_at jT (0 : Int32) = m3) :
  Go p.tables e below (TJ.setTop (mkF m 507 #[vj q1, .second, vj q2, .second, vj q3, .second, vi p4, vi p5, vi fa, vi ta, vi g1, vi u1, vi g2, vi u3, vi (p5 &&& (3 : Int32)), vi kf, vi pt, vi pf, vi x18, vi x19, vi x20, vi (((1 : Int32) + da) + db), vi xin, vi ((ca + cb) + cc), vi m3, vr b23, vr jr, us, us] [])) (fun o U' => ∃ v L, o = .returned v ∧ Q0 Z q1 q2 q3 p4 p5 h0 n0 v U'.heap L ∧ FrameEnd s o U' L 24 192) := by
 have hx := Bd.exec
 have hby := Bd.bytes
 have hml : c.maxLocals = 29 := hml0
 have hown : s.vm.findClass "com/example/tripletype/tripletype/BuilderAddPinLaw" = some m.cls := findClass_of_methodNamed Bd.named
 have hnm := (name_of_methodNamed Bd.named Bd.method).1
 refine G (fun t k => XS.aload XJ.here hx rfl (hb hby at_507) rfl rfl (XS.iload XJ.here hx rfl (hb hby at_509) rfl (XS.iload XJ.here hx rfl (hb hby at_511) rfl k))) ?_
 obtain ⟨cq57, kq57, q57a, q57b, q57c⟩ := isOf hZ eJ E_jr
 obtain ⟨_, _, ⟨T57, L57, k57, n57⟩, -, X57, ⟨Lc57, hQ57, l57, y57, z57⟩, st57⟩ := XJ.virtualBack hx (y := (⟨RC, "contains", "(II)Z"⟩ : MethodName)) (z := (⟨RC, "contains", "(II)Z"⟩ : MethodName)) hown (mvT hZ (wd80 hw)) (mvT hZ (wd81 hw)) (notFace_of_selects (args := #[]) (mvT hZ (wd83 hw))) (mvT hZ (wd83 hw)) (mvT hZ (wd82 hw)) (by decide) (backOf (W := 0) (rm14_03 l Z a0 hw [] jr pf pt js jks jX jt jkt jT jn hJ n0 Z0 F_js V_js F_jt V_jt (own_pf0 rpf) (own_pf1 rpf) hlo hhi hnn) hZ (wd84 hw) (wd54 hw) (by decide) (by decide)) q57a q57c (g := (mkF m 513 #[vj q1, .second, vj q2, .second, vj q3, .second, vi p4, vi p5, vi fa, vi ta, vi g1, vi u1, vi g2, vi u3, vi (p5 &&& (3 : Int32)), vi kf, vi pt, vi pf, vi x18, vi x19, vi x20, vi (((1 : Int32) + da) + db), vi xin, vi ((ca + cb) + cc), vi m3, vr b23, vr jr, us, us] [(.int pt), (.int pf), (.ref jr)])) rfl (by rw [hml]; rfl) (Steps.refl _) (argsL := [(.int pf), (.int pt)]) (rest := []) (lenOf pd13 rfl) rfl (by show 2 * 0 + _ ≤ _; exact Nat.le_of_eq rfl) (hb hby at_513) (fun _ _ => ⟨rfl, eJ, (by decide : 12 + 0 ≤ _), (by decide : 60 + 0 ≤ _)⟩)
 dsimp only [Pt.U, Pt.locs, Pt.cells, Pt.slots] at X57 l57 y57 z57 st57 hQ57
 subst l57 y57 z57
 refine Go.tr st57 ?_
 obtain ⟨rfl, N57q, e57⟩ := hQ57
 have N57 := Fr.app NJ N57q
 refine G (fun t k => XS.iload X57.here hx rfl (hb hby at_516) rfl k) ?_
 have hf58 : (f14_03 pt jT) = xin := hcon
 refine G (fun t k => XS.icmpYes X57.here hx rfl (pc0 := 518) (pc' := 523) rfl (hb hby at_518) rfl (teq hf58).1 (by decide) (by decide) (XS.aload X57.here hx rfl (hb hby at_523) rfl rfl k)) ?_
 show Go _ _ _ (T57.setTop (mkF m 525 #[vj q1, .second, vj q2, .second, vj q3, .second, vi p4, vi p5, vi fa, vi ta, vi g1, vi u1, vi g2, vi u3, vi (p5 &&& (3 : Int32)), vi kf, vi pt, vi pf, vi x18, vi x19, vi x20, vi (((1 : Int32) + da) + db), vi xin, vi ((ca + cb) + cc), vi m3, vr b23, vr jr, us, us] [(.ref jr)])) _
 refine G (fun t k => XS.iload X57.here hx rfl (hb hby at_525) rfl k) ?_
 obtain ⟨cq59, kq59, q59a, q59b, q59c⟩ := isOf hZ e57 E_jr
 obtain ⟨_, _, ⟨T59, L59, k59, n59⟩, -, X59, ⟨Lc59, hQ59, l59, y59, z59⟩, st59⟩ := X57.virtualBack hx (y := (⟨RC, "start", "(I)I"⟩ : MethodName)) (z := (⟨RC, "start", "(I)I"⟩ : MethodName)) hown (mvT hZ (wd94 hw)) (mvT hZ (wd95 hw)) (notFace_of_selects (args := #[]) (mvT hZ (wd97 hw))) (mvT hZ (wd97 hw)) (mvT hZ (wd96 hw)) (by decide) (backOf (W := 0) (rm18 l Z a0 hw [] jr pf js jks jX (0 : Int32) hJ n0 Z0 F_js V_js (own_pf0 rpf) hlo) hZ (wd98 hw) (wd54 hw) (by decide) (by decide)) q59a q59c (g := (mkF m 527 #[vj q1, .second, vj q2, .second, vj q3, .second, vi p4, vi p5, vi fa, vi ta, vi g1, vi u1, vi g2, vi u3, vi (p5 &&& (3 : Int32)), vi kf, vi pt, vi pf, vi x18, vi x19, vi x20, vi (((1 : Int32) + da) + db), vi xin, vi ((ca + cb) + cc), vi m3, vr b23, vr jr, us, us] [(.int pf), (.ref jr)])) rfl (by rw [hml]; rfl) (Steps.refl _) (argsL := [(.int pf)]) (rest := []) (lenOf pd14 rfl) rfl (by show 2 * 0 + _ ≤ _; exact Nat.le_of_eq rfl) (hb hby at_527) (fun _ _ => ⟨rfl, e57, (by decide : 12 + 0 ≤ _), (by decide : 60 + 0 ≤ _)⟩)
 dsimp only [Pt.U, Pt.locs, Pt.cells, Pt.slots] at X59 l59 y59 z59 st59 hQ59
 subst l59 y59 z59
 refine Go.tr st59 ?_
 obtain ⟨rfl, N59q, e59⟩ := hQ59
 have N59 := Fr.app N57 N59q
 refine G (fun t k => XS.istore X59.here hx rfl (hb hby at_530) rfl (l' := #[vj q1, .second, vj q2, .second, vj q3, .second, vi p4, vi p5, vi fa, vi ta, vi g1, vi u1, vi g2, vi u3, vi (p5 &&& (3 : Int32)), vi kf, vi pt, vi pf, vi x18, vi x19, vi x20, vi (((1 : Int32) + da) + db), vi xin, vi ((ca + cb) + cc), vi m3, vr b23, vr jr, vi 0, us]) rfl (XS.aload X59.here hx rfl (hb hby at_532) rfl rfl (XS.iload X59.here hx rfl (hb hby at_534) rfl k))) ?_
 obtain ⟨cq60, kq60, q60a, q60b, q60c⟩ := isOf hZ e59 E_jr
 obtain ⟨_, _, ⟨T60, L60, k60, n60⟩, -, X60, ⟨Lc60, hQ60, l60, y60, z60⟩, st60⟩ := X59.virtualBack hx (y := (⟨RC, "end", "(I)I"⟩ : MethodName)) (z := (⟨RC, "end", "(I)I"⟩ : MethodName)) hown (mvT hZ (wd99 hw)) (mvT hZ (wd100 hw)) (notFace_of_selects (args := #[]) (mvT hZ (wd102 hw))) (mvT hZ (wd102 hw)) (mvT hZ (wd101 hw)) (by decide) (backOf (W := 0) (rm19 l Z a0 hw [] jr pf js jks jX (3 : Int32) hJ n0 Z0 F_js V_js (own_pf1 rpf) hhi) hZ (wd103 hw) (wd54 hw) (by decide) (by decide)) q60a q60c (g := (mkF m 536 #[vj q1, .second, vj q2, .second, vj q3, .second, vi p4, vi p5, vi fa, vi ta, vi g1, vi u1, vi g2, vi u3, vi (p5 &&& (3 : Int32)), vi kf, vi pt, vi pf, vi x18, vi x19, vi x20, vi (((1 : Int32) + da) + db), vi xin, vi ((ca + cb) + cc), vi m3, vr b23, vr jr, vi 0, us] [(.int pf), (.ref jr)])) rfl (by rw [hml]; rfl) (Steps.refl _) (argsL := [(.int pf)]) (rest := []) (lenOf pd14 rfl) rfl (by show 2 * 0 + _ ≤ _; exact Nat.le_of_eq rfl) (hb hby at_536) (fun _ _ => ⟨rfl, e59, (by decide : 12 + 0 ≤ _), (by decide : 60 + 0 ≤ _)⟩)
 dsimp only [Pt.U, Pt.locs, Pt.cells, Pt.slots] at X60 l60 y60 z60 st60 hQ60
 subst l60 y60 z60
 refine Go.tr st60 ?_
 obtain ⟨rfl, N60q, e60⟩ := hQ60
 have N60 := Fr.app N59 N60q
 refine G (fun t k => XS.istore X60.here hx rfl (hb hby at_539) rfl (l' := #[vj q1, .second, vj q2, .second, vj q3, .second, vi p4, vi p5, vi fa, vi ta, vi g1, vi u1, vi g2, vi u3, vi (p5 &&& (3 : Int32)), vi kf, vi pt, vi pf, vi x18, vi x19, vi x20, vi (((1 : Int32) + da) + db), vi xin, vi ((ca + cb) + cc), vi m3, vr b23, vr jr, vi 0, vi 3]) rfl k) ?_
 show Go _ _ _ (T60.setTop (mkF m 541 #[vj q1, .second, vj q2, .second, vj q3, .second, vi p4, vi p5, vi fa, vi ta, vi g1, vi u1, vi g2, vi u3, vi (p5 &&& (3 : Int32)), vi kf, vi pt, vi pf, vi x18, vi x19, vi x20, vi (((1 : Int32) + da) + db), vi xin, vi ((ca + cb) + cc), vi m3, vr b23, vr jr, vi 0, vi 3] [])) _
 refine G (fun t k => XS.iload X60.here hx rfl (hb hby at_541) rfl (XS.iload X60.here hx rfl (hb hby at_543) rfl (XS.isub X60.here hx rfl (hb hby at_545) rfl (XS.iload X60.here hx rfl (hb hby at_546) rfl k)))) ?_
 have hf61 : (3 : Int32) = ((ca + cb) + cc) := hcd
 refine G (fun t k => XS.icmpYes X60.here hx rfl (pc0 := 548) (pc' := 553) rfl (hb hby at_548) rfl (teq hf61).1 (by decide) (by decide) (XS.iload X60.here hx rfl (hb hby at_553) rfl k)) ?_
 have hf62 : (0 : Int32) < ((ca + cb) + cc) := (by rw [← hcd]; decide)
 refine G (fun t k => XS.ifNo X60.here hx rfl (hb hby at_555) rfl ((if0 _ _).trans (tlt hf62).2.2.2) k) ?_
 show Go _ _ _ (T60.setTop (mkF m 558 #[vj q1, .second, vj q2, .second, vj q3, .second, vi p4, vi p5, vi fa, vi ta, vi g1, vi u1, vi g2, vi u3, vi (p5 &&& (3 : Int32)), vi kf, vi pt, vi pf, vi x18, vi x19, vi x20, vi (((1 : Int32) + da) + db), vi xin, vi ((ca + cb) + cc), vi m3, vr b23, vr jr, vi 0, vi 3] [])) _
 refine G (fun t k => XS.aload X60.here hx rfl (hb hby at_558) rfl rfl (XS.iload X60.here hx rfl (hb hby at_560) rfl k)) ?_
 obtain ⟨cq63, kq63, q63a, q63b, q63c⟩ := isOf hZ e60 E_jr
 obtain ⟨_, _, ⟨T63, L63, k63, n63⟩, -, X63, ⟨Lc63, hQ63, l63, y63, z63⟩, st63⟩ := X60.virtualBack hx (y := (⟨RC, "target", "(I)I"⟩ : MethodName)) (z := (⟨RC, "target", "(I)I"⟩ : MethodName)) hown (mvT hZ (wd104 hw)) (mvT hZ (wd105 hw)) (notFace_of_selects (args := #[]) (mvT hZ (wd107 hw))) (mvT hZ (wd107 hw)) (mvT hZ (wd106 hw)) (by decide) (backOf (W := 0) (rm20 l Z a0 hw [] jr (0 : Int32) jt jkt jT jn hJ n0 Z0 F_jt V_jt ⟨by decide, own_ltl (0 : Int32) (3 : Int32) _ (by decide) hnn⟩) hZ (wd108 hw) (wd54 hw) (by decide) (by decide)) q63a q63c (g := (mkF m 562 #[vj q1, .second, vj q2, .second, vj q3, .second, vi p4, vi p5, vi fa, vi ta, vi g1, vi u1, vi g2, vi u3, vi (p5 &&& (3 : Int32)), vi kf, vi pt, vi pf, vi x18, vi x19, vi x20, vi (((1 : Int32) + da) + db), vi xin, vi ((ca + cb) + cc), vi m3, vr b23, vr jr, vi 0, vi 3] [(.int 0), (.ref jr)])) rfl (by rw [hml]; rfl) (Steps.refl _) (argsL := [(.int (0 : Int32))]) (rest := []) (lenOf pd14 rfl) rfl (by show 2 * 0 + _ ≤ _; exact Nat.le_of_eq rfl) (hb hby at_562) (fun _ _ => ⟨rfl, e60, (by decide : 12 + 0 ≤ _), (by decide : 60 + 0 ≤ _)⟩)
 dsimp only [Pt.U, Pt.locs, Pt.cells, Pt.slots] at X63 l63 y63 z63 st63 hQ63
 subst l63 y63 z63
 refine Go.tr st63 ?_
 obtain ⟨rfl, N63q, e63⟩ := hQ63
 have N63 := Fr.app N60 N63q
 obtain ⟨LL63, X63, N63⟩ : ∃ LL, Stand p l e room_1 s m #[(.long q1), (.long q2), (.long q3), (.int p4), (.int p5)] below meth c T63 LL 12 60 ∧ Fr n0 LL := ⟨_, X63, N63⟩
 refine G (fun t k => XS.iload X63.here hx rfl (hb hby at_565) rfl k) ?_
 have hf64 : (own_at jT (0 : Int32)) = m3 := hmn
 refine G (fun t k => XS.icmpYes X63.here hx rfl (pc0 := 567) (pc' := 572) rfl (hb hby at_567) rfl (teq hf64).1 (by decide) (by decide) (XS.iconst X63.here hx rfl (hb hby at_572) k)) ?_
 obtain ⟨fs, hr, hrun, hended, hW, hsame⟩ := X63.leave (v := some (.int (1 : Int32))) (fun h => by rw [Bd.returns] at h; cases h)
 refine Go.fin (retN X63 hx (t := .boolean) Bd.returns (by simp) (hb hby at_573) hr) hrun hended ⟨_, _, rfl, ?_, ⟨_, rfl⟩, hW, hsame.mono (by decide) (by decide)⟩
 show Q0 Z q1 q2 q3 p4 p5 h0 n0 _ T63.heap _
 rw [e63]
 exact ⟨rfl, N63⟩
theorem TJ0_65 (l : Launch) (Z : State) (a0 : Array Value) (hw : HW a0 Z) (ws : List Jvm.Cond) (q1 : Int64) (q2 : Int64) (q3 : Int64) (p4 : Int32) (p5 : Int32) (h0 : Heap) (n0 : Nat) {p : Program} {e : Env} {s : State} {m : MethodId} {below : List Frame} {meth : Method} {c : Code} {s₁ : State} (Bd : BodyLoose p l x (head1 (Jvm.Cond.code x code maxLocals ret :: ws) room_1) code maxLocals ret e s m #[(.long q1), (.long q2), (.long q3), (.int p4), (.int p5)] below meth c s₁) (hml0 : c.maxLocals = maxLocals) (hZ : Z.Warmed39 s.vm) {TJ : State} {locsJ : List Loc} {hJ : Heap} {b23 : Addr} {jr : Addr} {js : Addr} {jt : Addr} {jks : ClassId} {jkt : ClassId} {fa : Int32} {ta : Int32} {u1 : Int32} {u3 : Int32} {g1 : Int32} {g2 : Int32} {kf : Int32} {pt : Int32} {pf : Int32} {x18 : Int32} {x19 : Int32} {x20 : Int32} {da : Int32} {db : Int32} {xin : Int32} {ca : Int32} {cb : Int32} {cc : Int32} {m3 : Int32} {jX : List Int32} {jT : List Int32} {jn : Int32} (XJ : Stand p l e room_1 s m #[(.long q1), (.long q2), (.long q3), (.int p4), (.int p5)] below meth c TJ locsJ 12 60) (eJ : TJ.heap = hJ) (NJ : Fr n0 locsJ) (K0 : Keep h0 hJ []) (Z0 : n0 ≤ hJ.size) (E_jr : Exa Z hJ jr RC) (F_js : Fld Z hJ jr RC "start" "[I" (.ref js)) (F_jt : Fld Z hJ jr RC "targets" "[I" (.ref jt)) (V_js : Arv Z hJ js jks .int (9 : Int32) (List.map Value.int jX) (.int (0 : Int32))) (V_jt : Arv Z hJ jt jkt .int jn (List.map Value.int jT) (.int (0 : Int32))) (rpf : 0 ≤ pf.toInt ∧ pf.toInt ≤ 7) (hlo : own_at jX pf = (1 : Int32)) (hhi : own_at jX (pf + (1 : Int32)) = (2 : Int32)) (hnn : ¬ jn < (2 : Int32)) (hcon : (f14_12 pt jT) = xin) (hcd : (1 : Int32) = ((ca + cb) + cc)) (hmn : own_at jT (1 : Int32) = m3) :
  Go p.tables e below (TJ.setTop (mkF m 507 #[vj q1, .second, vj q2, .second, vj q3, .second, vi p4, vi p5, vi fa, vi ta, vi g1, vi u1, vi g2, vi u3, vi (p5 &&& (3 : Int32)), vi kf, vi pt, vi pf, vi x18, vi x19, vi x20, vi (((1 : Int32) + da) + db), vi xin, vi ((ca + cb) + cc), vi m3, vr b23, vr jr, us, us] [])) (fun o U' => ∃ v L, o = .returned v ∧ Q0 Z q1 q2 q3 p4 p5 h0 n0 v U'.heap L ∧ FrameEnd s o U' L 24 192) := by
 have hx := Bd.exec
 have hby := Bd.bytes
 have hml : c.maxLocals = 29 := hml0
 have hown : s.vm.findClass "com/example/tripletype/tripletype/BuilderAddPinLaw" = some m.cls := findClass_of_methodNamed Bd.named
 have hnm := (name_of_methodNamed Bd.named Bd.method).1
 refine G (fun t k => XS.aload XJ.here hx rfl (hb hby at_507) rfl rfl (XS.iload XJ.here hx rfl (hb hby at_509) rfl (XS.iload XJ.here hx rfl (hb hby at_511) rfl k))) ?_
 obtain ⟨cq66, kq66, q66a, q66b, q66c⟩ := isOf hZ eJ E_jr
 obtain ⟨_, _, ⟨T66, L66, k66, n66⟩, -, X66, ⟨Lc66, hQ66, l66, y66, z66⟩, st66⟩ := XJ.virtualBack hx (y := (⟨RC, "contains", "(II)Z"⟩ : MethodName)) (z := (⟨RC, "contains", "(II)Z"⟩ : MethodName)) hown (mvT hZ (wd80 hw)) (mvT hZ (wd81 hw)) (notFace_of_selects (args := #[]) (mvT hZ (wd83 hw))) (mvT hZ (wd83 hw)) (mvT hZ (wd82 hw)) (by decide) (backOf (W := 0) (rm14_12 l Z a0 hw [] jr pf pt js jks jX jt jkt jT jn hJ n0 Z0 F_js V_js F_jt V_jt (own_pf0 rpf) (own_pf1 rpf) hlo hhi hnn) hZ (wd84 hw) (wd54 hw) (by decide) (by decide)) q66a q66c (g := (mkF m 513 #[vj q1, .second, vj q2, .second, vj q3, .second, vi p4, vi p5, vi fa, vi ta, vi g1, vi u1, vi g2, vi u3, vi (p5 &&& (3 : Int32)), vi kf, vi pt, vi pf, vi x18, vi x19, vi x20, vi (((1 : Int32) + da) + db), vi xin, vi ((ca + cb) + cc), vi m3, vr b23, vr jr, us, us] [(.int pt), (.int pf), (.ref jr)])) rfl (by rw [hml]; rfl) (Steps.refl _) (argsL := [(.int pf), (.int pt)]) (rest := []) (lenOf pd13 rfl) rfl (by show 2 * 0 + _ ≤ _; exact Nat.le_of_eq rfl) (hb hby at_513) (fun _ _ => ⟨rfl, eJ, (by decide : 12 + 0 ≤ _), (by decide : 60 + 0 ≤ _)⟩)
 dsimp only [Pt.U, Pt.locs, Pt.cells, Pt.slots] at X66 l66 y66 z66 st66 hQ66
 subst l66 y66 z66
 refine Go.tr st66 ?_
 obtain ⟨rfl, N66q, e66⟩ := hQ66
 have N66 := Fr.app NJ N66q
 refine G (fun t k => XS.iload X66.here hx rfl (hb hby at_516) rfl k) ?_
 have hf67 : (f14_12 pt jT) = xin := hcon
 refine G (fun t k => XS.icmpYes X66.here hx rfl (pc0 := 518) (pc' := 523) rfl (hb hby at_518) rfl (teq hf67).1 (by decide) (by decide) (XS.aload X66.here hx rfl (hb hby at_523) rfl rfl k)) ?_
 show Go _ _ _ (T66.setTop (mkF m 525 #[vj q1, .second, vj q2, .second, vj q3, .second, vi p4, vi p5, vi fa, vi ta, vi g1, vi u1, vi g2, vi u3, vi (p5 &&& (3 : Int32)), vi kf, vi pt, vi pf, vi x18, vi x19, vi x20, vi (((1 : Int32) + da) + db), vi xin, vi ((ca + cb) + cc), vi m3, vr b23, vr jr, us, us] [(.ref jr)])) _
 refine G (fun t k => XS.iload X66.here hx rfl (hb hby at_525) rfl k) ?_
 obtain ⟨cq68, kq68, q68a, q68b, q68c⟩ := isOf hZ e66 E_jr
 obtain ⟨_, _, ⟨T68, L68, k68, n68⟩, -, X68, ⟨Lc68, hQ68, l68, y68, z68⟩, st68⟩ := X66.virtualBack hx (y := (⟨RC, "start", "(I)I"⟩ : MethodName)) (z := (⟨RC, "start", "(I)I"⟩ : MethodName)) hown (mvT hZ (wd94 hw)) (mvT hZ (wd95 hw)) (notFace_of_selects (args := #[]) (mvT hZ (wd97 hw))) (mvT hZ (wd97 hw)) (mvT hZ (wd96 hw)) (by decide) (backOf (W := 0) (rm18 l Z a0 hw [] jr pf js jks jX (1 : Int32) hJ n0 Z0 F_js V_js (own_pf0 rpf) hlo) hZ (wd98 hw) (wd54 hw) (by decide) (by decide)) q68a q68c (g := (mkF m 527 #[vj q1, .second, vj q2, .second, vj q3, .second, vi p4, vi p5, vi fa, vi ta, vi g1, vi u1, vi g2, vi u3, vi (p5 &&& (3 : Int32)), vi kf, vi pt, vi pf, vi x18, vi x19, vi x20, vi (((1 : Int32) + da) + db), vi xin, vi ((ca + cb) + cc), vi m3, vr b23, vr jr, us, us] [(.int pf), (.ref jr)])) rfl (by rw [hml]; rfl) (Steps.refl _) (argsL := [(.int pf)]) (rest := []) (lenOf pd14 rfl) rfl (by show 2 * 0 + _ ≤ _; exact Nat.le_of_eq rfl) (hb hby at_527) (fun _ _ => ⟨rfl, e66, (by decide : 12 + 0 ≤ _), (by decide : 60 + 0 ≤ _)⟩)
 dsimp only [Pt.U, Pt.locs, Pt.cells, Pt.slots] at X68 l68 y68 z68 st68 hQ68
 subst l68 y68 z68
 refine Go.tr st68 ?_
 obtain ⟨rfl, N68q, e68⟩ := hQ68
 have N68 := Fr.app N66 N68q
 refine G (fun t k => XS.istore X68.here hx rfl (hb hby at_530) rfl (l' := #[vj q1, .second, vj q2, .second, vj q3, .second, vi p4, vi p5, vi fa, vi ta, vi g1, vi u1, vi g2, vi u3, vi (p5 &&& (3 : Int32)), vi kf, vi pt, vi pf, vi x18, vi x19, vi x20, vi (((1 : Int32) + da) + db), vi xin, vi ((ca + cb) + cc), vi m3, vr b23, vr jr, vi 1, us]) rfl (XS.aload X68.here hx rfl (hb hby at_532) rfl rfl (XS.iload X68.here hx rfl (hb hby at_534) rfl k))) ?_
 obtain ⟨cq69, kq69, q69a, q69b, q69c⟩ := isOf hZ e68 E_jr
 obtain ⟨_, _, ⟨T69, L69, k69, n69⟩, -, X69, ⟨Lc69, hQ69, l69, y69, z69⟩, st69⟩ := X68.virtualBack hx (y := (⟨RC, "end", "(I)I"⟩ : MethodName)) (z := (⟨RC, "end", "(I)I"⟩ : MethodName)) hown (mvT hZ (wd99 hw)) (mvT hZ (wd100 hw)) (notFace_of_selects (args := #[]) (mvT hZ (wd102 hw))) (mvT hZ (wd102 hw)) (mvT hZ (wd101 hw)) (by decide) (backOf (W := 0) (rm19 l Z a0 hw [] jr pf js jks jX (2 : Int32) hJ n0 Z0 F_js V_js (own_pf1 rpf) hhi) hZ (wd103 hw) (wd54 hw) (by decide) (by decide)) q69a q69c (g := (mkF m 536 #[vj q1, .second, vj q2, .second, vj q3, .second, vi p4, vi p5, vi fa, vi ta, vi g1, vi u1, vi g2, vi u3, vi (p5 &&& (3 : Int32)), vi kf, vi pt, vi pf, vi x18, vi x19, vi x20, vi (((1 : Int32) + da) + db), vi xin, vi ((ca + cb) + cc), vi m3, vr b23, vr jr, vi 1, us] [(.int pf), (.ref jr)])) rfl (by rw [hml]; rfl) (Steps.refl _) (argsL := [(.int pf)]) (rest := []) (lenOf pd14 rfl) rfl (by show 2 * 0 + _ ≤ _; exact Nat.le_of_eq rfl) (hb hby at_536) (fun _ _ => ⟨rfl, e68, (by decide : 12 + 0 ≤ _), (by decide : 60 + 0 ≤ _)⟩)
 dsimp only [Pt.U, Pt.locs, Pt.cells, Pt.slots] at X69 l69 y69 z69 st69 hQ69
 subst l69 y69 z69
 refine Go.tr st69 ?_
 obtain ⟨rfl, N69q, e69⟩ := hQ69
 have N69 := Fr.app N68 N69q
 refine G (fun t k => XS.istore X69.here hx rfl (hb hby at_539) rfl (l' := #[vj q1, .second, vj q2, .second, vj q3, .second, vi p4, vi p5, vi fa, vi ta, vi g1, vi u1, vi g2, vi u3, vi (p5 &&& (3 : Int32)), vi kf, vi pt, vi pf, vi x18, vi x19, vi x20, vi (((1 : Int32) + da) + db), vi xin, vi ((ca + cb) + cc), vi m3, vr b23, vr jr, vi 1, vi 2]) rfl k) ?_
 show Go _ _ _ (T69.setTop (mkF m 541 #[vj q1, .second, vj q2, .second, vj q3, .second, vi p4, vi p5, vi fa, vi ta, vi g1, vi u1, vi g2, vi u3, vi (p5 &&& (3 : Int32)), vi kf, vi pt, vi pf, vi x18, vi x19, vi x20, vi (((1 : Int32) + da) + db), vi xin, vi ((ca + cb) + cc), vi m3, vr b23, vr jr, vi 1, vi 2] [])) _
 refine G (fun t k => XS.iload X69.here hx rfl (hb hby at_541) rfl (XS.iload X69.here hx rfl (hb hby at_543) rfl (XS.isub X69.here hx rfl (hb hby at_545) rfl (XS.iload X69.here hx rfl (hb hby at_546) rfl k)))) ?_
 have hf70 : (1 : Int32) = ((ca + cb) + cc) := hcd
 refine G (fun t k => XS.icmpYes X69.here hx rfl (pc0 := 548) (pc' := 553) rfl (hb hby at_548) rfl (teq hf70).1 (by decide) (by decide) (XS.iload X69.here hx rfl (hb hby at_553) rfl k)) ?_
 have hf71 : (0 : Int32) < ((ca + cb) + cc) := (by rw [← hcd]; decide)
 refine G (fun t k => XS.ifNo X69.here hx rfl (hb hby at_555) rfl ((if0 _ _).trans (tlt hf71).2.2.2) k) ?_
 show Go _ _ _ (T69.setTop (mkF m 558 #[vj q1, .second, vj q2, .second, vj q3, .second, vi p4, vi p5, vi fa, vi ta, vi g1, vi u1, vi g2, vi u3, vi (p5 &&& (3 : Int32)), vi kf, vi pt, vi pf, vi x18, vi x19, vi x20, vi (((1 : Int32) + da) + db), vi xin, vi ((ca + cb) + cc), vi m3, vr b23, vr jr, vi 1, vi 2] [])) _
 refine G (fun t k => XS.aload X69.here hx rfl (hb hby at_558) rfl rfl (XS.iload X69.here hx rfl (hb hby at_560) rfl k)) ?_
 obtain ⟨cq72, kq72, q72a, q72b, q72c⟩ := isOf hZ e69 E_jr
 obtain ⟨_, _, ⟨T72, L72, k72, n72⟩, -, X72, ⟨Lc72, hQ72, l72, y72, z72⟩, st72⟩ := X69.virtualBack hx (y := (⟨RC, "target", "(I)I"⟩ : MethodName)) (z := (⟨RC, "target", "(I)I"⟩ : MethodName)) hown (mvT hZ (wd104 hw)) (mvT hZ (wd105 hw)) (notFace_of_selects (args := #[]) (mvT hZ (wd107 hw))) (mvT hZ (wd107 hw)) (mvT hZ (wd106 hw)) (by decide) (backOf (W := 0) (rm20 l Z a0 hw [] jr (1 : Int32) jt jkt jT jn hJ n0 Z0 F_jt V_jt ⟨by decide, own_ltl (1 : Int32) (2 : Int32) _ (by decide) hnn⟩) hZ (wd108 hw) (wd54 hw) (by decide) (by decide)) q72a q72c (g := (mkF m 562 #[vj q1, .second, vj q2, .second, vj q3, .second, vi p4, vi p5, vi fa, vi ta, vi g1, vi u1, vi g2, vi u3, vi (p5 &&& (3 : Int32)), vi kf, vi pt, vi pf, vi x18, vi x19, vi x20, vi (((1 : Int32) + da) + db), vi xin, vi ((ca + cb) + cc), vi m3, vr b23, vr jr, vi 1, vi 2] [(.int 1), (.ref jr)])) rfl (by rw [hml]; rfl) (Steps.refl _) (argsL := [(.int (1 : Int32))]) (rest := []) (lenOf pd14 rfl) rfl (by show 2 * 0 + _ ≤ _; exact Nat.le_of_eq rfl) (hb hby at_562) (fun _ _ => ⟨rfl, e69, (by decide : 12 + 0 ≤ _), (by decide : 60 + 0 ≤ _)⟩)
 dsimp only [Pt.U, Pt.locs, Pt.cells, Pt.slots] at X72 l72 y72 z72 st72 hQ72
 subst l72 y72 z72
 refine Go.tr st72 ?_
 obtain ⟨rfl, N72q, e72⟩ := hQ72
 have N72 := Fr.app N69 N72q
 obtain ⟨LL72, X72, N72⟩ : ∃ LL, Stand p l e room_1 s m #[(.long q1), (.long q2), (.long q3), (.int p4), (.int p5)] below meth c T72 LL 12 60 ∧ Fr n0 LL := ⟨_, X72, N72⟩
 refine G (fun t k => XS.iload X72.here hx rfl (hb hby at_565) rfl k) ?_
 have hf73 : (own_at jT (1 : Int32)) = m3 := hmn
 refine G (fun t k => XS.icmpYes X72.here hx rfl (pc0 := 567) (pc' := 572) rfl (hb hby at_567) rfl (teq hf73).1 (by decide) (by decide) (XS.iconst X72.here hx rfl (hb hby at_572) k)) ?_
 obtain ⟨fs, hr, hrun, hended, hW, hsame⟩ := X72.leave (v := some (.int (1 : Int32))) (fun h => by rw [Bd.returns] at h; cases h)
 refine Go.fin (retN X72 hx (t := .boolean) Bd.returns (by simp) (hb hby at_573) hr) hrun hended ⟨_, _, rfl, ?_, ⟨_, rfl⟩, hW, hsame.mono (by decide) (by decide)⟩
 show Q0 Z q1 q2 q3 p4 p5 h0 n0 _ T72.heap _
 rw [e72]
 exact ⟨rfl, N72⟩
theorem TJ0_74 (l : Launch) (Z : State) (a0 : Array Value) (hw : HW a0 Z) (ws : List Jvm.Cond) (q1 : Int64) (q2 : Int64) (q3 : Int64) (p4 : Int32) (p5 : Int32) (h0 : Heap) (n0 : Nat) {p : Program} {e : Env} {s : State} {m : MethodId} {below : List Frame} {meth : Method} {c : Code} {s₁ : State} (Bd : BodyLoose p l x (head1 (Jvm.Cond.code x code maxLocals ret :: ws) room_1) code maxLocals ret e s m #[(.long q1), (.long q2), (.long q3), (.int p4), (.int p5)] below meth c s₁) (hml0 : c.maxLocals = maxLocals) (hZ : Z.Warmed39 s.vm) {TJ : State} {locsJ : List Loc} {hJ : Heap} {b23 : Addr} {jr : Addr} {js : Addr} {jt : Addr} {jks : ClassId} {jkt : ClassId} {fa : Int32} {ta : Int32} {u1 : Int32} {u3 : Int32} {g1 : Int32} {g2 : Int32} {kf : Int32} {pt : Int32} {pf : Int32} {x18 : Int32} {x19 : Int32} {x20 : Int32} {da : Int32} {db : Int32} {xin : Int32} {ca : Int32} {cb : Int32} {cc : Int32} {m3 : Int32} {jX : List Int32} {jT : List Int32} {jn : Int32} (XJ : Stand p l e room_1 s m #[(.long q1), (.long q2), (.long q3), (.int p4), (.int p5)] below meth c TJ locsJ 12 60) (eJ : TJ.heap = hJ) (NJ : Fr n0 locsJ) (K0 : Keep h0 hJ []) (Z0 : n0 ≤ hJ.size) (E_jr : Exa Z hJ jr RC) (F_js : Fld Z hJ jr RC "start" "[I" (.ref js)) (F_jt : Fld Z hJ jr RC "targets" "[I" (.ref jt)) (V_js : Arv Z hJ js jks .int (9 : Int32) (List.map Value.int jX) (.int (0 : Int32))) (V_jt : Arv Z hJ jt jkt .int jn (List.map Value.int jT) (.int (0 : Int32))) (rpf : 0 ≤ pf.toInt ∧ pf.toInt ≤ 7) (hlo : own_at jX pf = (1 : Int32)) (hhi : own_at jX (pf + (1 : Int32)) = (3 : Int32)) (hnn : ¬ jn < (3 : Int32)) (hcon : (f14_13 pt jT) = xin) (hcd : (2 : Int32) = ((ca + cb) + cc)) (hmn : own_at jT (1 : Int32) = m3) :
  Go p.tables e below (TJ.setTop (mkF m 507 #[vj q1, .second, vj q2, .second, vj q3, .second, vi p4, vi p5, vi fa, vi ta, vi g1, vi u1, vi g2, vi u3, vi (p5 &&& (3 : Int32)), vi kf, vi pt, vi pf, vi x18, vi x19, vi x20, vi (((1 : Int32) + da) + db), vi xin, vi ((ca + cb) + cc), vi m3, vr b23, vr jr, us, us] [])) (fun o U' => ∃ v L, o = .returned v ∧ Q0 Z q1 q2 q3 p4 p5 h0 n0 v U'.heap L ∧ FrameEnd s o U' L 24 192) := by
 have hx := Bd.exec
 have hby := Bd.bytes
 have hml : c.maxLocals = 29 := hml0
 have hown : s.vm.findClass "com/example/tripletype/tripletype/BuilderAddPinLaw" = some m.cls := findClass_of_methodNamed Bd.named
 have hnm := (name_of_methodNamed Bd.named Bd.method).1
 refine G (fun t k => XS.aload XJ.here hx rfl (hb hby at_507) rfl rfl (XS.iload XJ.here hx rfl (hb hby at_509) rfl (XS.iload XJ.here hx rfl (hb hby at_511) rfl k))) ?_
 obtain ⟨cq75, kq75, q75a, q75b, q75c⟩ := isOf hZ eJ E_jr
 obtain ⟨_, _, ⟨T75, L75, k75, n75⟩, -, X75, ⟨Lc75, hQ75, l75, y75, z75⟩, st75⟩ := XJ.virtualBack hx (y := (⟨RC, "contains", "(II)Z"⟩ : MethodName)) (z := (⟨RC, "contains", "(II)Z"⟩ : MethodName)) hown (mvT hZ (wd80 hw)) (mvT hZ (wd81 hw)) (notFace_of_selects (args := #[]) (mvT hZ (wd83 hw))) (mvT hZ (wd83 hw)) (mvT hZ (wd82 hw)) (by decide) (backOf (W := 0) (rm14_13 l Z a0 hw [] jr pf pt js jks jX jt jkt jT jn hJ n0 Z0 F_js V_js F_jt V_jt (own_pf0 rpf) (own_pf1 rpf) hlo hhi hnn) hZ (wd84 hw) (wd54 hw) (by decide) (by decide)) q75a q75c (g := (mkF m 513 #[vj q1, .second, vj q2, .second, vj q3, .second, vi p4, vi p5, vi fa, vi ta, vi g1, vi u1, vi g2, vi u3, vi (p5 &&& (3 : Int32)), vi kf, vi pt, vi pf, vi x18, vi x19, vi x20, vi (((1 : Int32) + da) + db), vi xin, vi ((ca + cb) + cc), vi m3, vr b23, vr jr, us, us] [(.int pt), (.int pf), (.ref jr)])) rfl (by rw [hml]; rfl) (Steps.refl _) (argsL := [(.int pf), (.int pt)]) (rest := []) (lenOf pd13 rfl) rfl (by show 2 * 0 + _ ≤ _; exact Nat.le_of_eq rfl) (hb hby at_513) (fun _ _ => ⟨rfl, eJ, (by decide : 12 + 0 ≤ _), (by decide : 60 + 0 ≤ _)⟩)
 dsimp only [Pt.U, Pt.locs, Pt.cells, Pt.slots] at X75 l75 y75 z75 st75 hQ75
 subst l75 y75 z75
 refine Go.tr st75 ?_
 obtain ⟨rfl, N75q, e75⟩ := hQ75
 have N75 := Fr.app NJ N75q
 refine G (fun t k => XS.iload X75.here hx rfl (hb hby at_516) rfl k) ?_
 have hf76 : (f14_13 pt jT) = xin := hcon
 refine G (fun t k => XS.icmpYes X75.here hx rfl (pc0 := 518) (pc' := 523) rfl (hb hby at_518) rfl (teq hf76).1 (by decide) (by decide) (XS.aload X75.here hx rfl (hb hby at_523) rfl rfl k)) ?_
 show Go _ _ _ (T75.setTop (mkF m 525 #[vj q1, .second, vj q2, .second, vj q3, .second, vi p4, vi p5, vi fa, vi ta, vi g1, vi u1, vi g2, vi u3, vi (p5 &&& (3 : Int32)), vi kf, vi pt, vi pf, vi x18, vi x19, vi x20, vi (((1 : Int32) + da) + db), vi xin, vi ((ca + cb) + cc), vi m3, vr b23, vr jr, us, us] [(.ref jr)])) _
 refine G (fun t k => XS.iload X75.here hx rfl (hb hby at_525) rfl k) ?_
 obtain ⟨cq77, kq77, q77a, q77b, q77c⟩ := isOf hZ e75 E_jr
 obtain ⟨_, _, ⟨T77, L77, k77, n77⟩, -, X77, ⟨Lc77, hQ77, l77, y77, z77⟩, st77⟩ := X75.virtualBack hx (y := (⟨RC, "start", "(I)I"⟩ : MethodName)) (z := (⟨RC, "start", "(I)I"⟩ : MethodName)) hown (mvT hZ (wd94 hw)) (mvT hZ (wd95 hw)) (notFace_of_selects (args := #[]) (mvT hZ (wd97 hw))) (mvT hZ (wd97 hw)) (mvT hZ (wd96 hw)) (by decide) (backOf (W := 0) (rm18 l Z a0 hw [] jr pf js jks jX (1 : Int32) hJ n0 Z0 F_js V_js (own_pf0 rpf) hlo) hZ (wd98 hw) (wd54 hw) (by decide) (by decide)) q77a q77c (g := (mkF m 527 #[vj q1, .second, vj q2, .second, vj q3, .second, vi p4, vi p5, vi fa, vi ta, vi g1, vi u1, vi g2, vi u3, vi (p5 &&& (3 : Int32)), vi kf, vi pt, vi pf, vi x18, vi x19, vi x20, vi (((1 : Int32) + da) + db), vi xin, vi ((ca + cb) + cc), vi m3, vr b23, vr jr, us, us] [(.int pf), (.ref jr)])) rfl (by rw [hml]; rfl) (Steps.refl _) (argsL := [(.int pf)]) (rest := []) (lenOf pd14 rfl) rfl (by show 2 * 0 + _ ≤ _; exact Nat.le_of_eq rfl) (hb hby at_527) (fun _ _ => ⟨rfl, e75, (by decide : 12 + 0 ≤ _), (by decide : 60 + 0 ≤ _)⟩)
 dsimp only [Pt.U, Pt.locs, Pt.cells, Pt.slots] at X77 l77 y77 z77 st77 hQ77
 subst l77 y77 z77
 refine Go.tr st77 ?_
 obtain ⟨rfl, N77q, e77⟩ := hQ77
 have N77 := Fr.app N75 N77q
 refine G (fun t k => XS.istore X77.here hx rfl (hb hby at_530) rfl (l' := #[vj q1, .second, vj q2, .second, vj q3, .second, vi p4, vi p5, vi fa, vi ta, vi g1, vi u1, vi g2, vi u3, vi (p5 &&& (3 : Int32)), vi kf, vi pt, vi pf, vi x18, vi x19, vi x20, vi (((1 : Int32) + da) + db), vi xin, vi ((ca + cb) + cc), vi m3, vr b23, vr jr, vi 1, us]) rfl (XS.aload X77.here hx rfl (hb hby at_532) rfl rfl (XS.iload X77.here hx rfl (hb hby at_534) rfl k))) ?_
 obtain ⟨cq78, kq78, q78a, q78b, q78c⟩ := isOf hZ e77 E_jr
 obtain ⟨_, _, ⟨T78, L78, k78, n78⟩, -, X78, ⟨Lc78, hQ78, l78, y78, z78⟩, st78⟩ := X77.virtualBack hx (y := (⟨RC, "end", "(I)I"⟩ : MethodName)) (z := (⟨RC, "end", "(I)I"⟩ : MethodName)) hown (mvT hZ (wd99 hw)) (mvT hZ (wd100 hw)) (notFace_of_selects (args := #[]) (mvT hZ (wd102 hw))) (mvT hZ (wd102 hw)) (mvT hZ (wd101 hw)) (by decide) (backOf (W := 0) (rm19 l Z a0 hw [] jr pf js jks jX (3 : Int32) hJ n0 Z0 F_js V_js (own_pf1 rpf) hhi) hZ (wd103 hw) (wd54 hw) (by decide) (by decide)) q78a q78c (g := (mkF m 536 #[vj q1, .second, vj q2, .second, vj q3, .second, vi p4, vi p5, vi fa, vi ta, vi g1, vi u1, vi g2, vi u3, vi (p5 &&& (3 : Int32)), vi kf, vi pt, vi pf, vi x18, vi x19, vi x20, vi (((1 : Int32) + da) + db), vi xin, vi ((ca + cb) + cc), vi m3, vr b23, vr jr, vi 1, us] [(.int pf), (.ref jr)])) rfl (by rw [hml]; rfl) (Steps.refl _) (argsL := [(.int pf)]) (rest := []) (lenOf pd14 rfl) rfl (by show 2 * 0 + _ ≤ _; exact Nat.le_of_eq rfl) (hb hby at_536) (fun _ _ => ⟨rfl, e77, (by decide : 12 + 0 ≤ _), (by decide : 60 + 0 ≤ _)⟩)
 dsimp only [Pt.U, Pt.locs, Pt.cells, Pt.slots] at X78 l78 y78 z78 st78 hQ78
 subst l78 y78 z78
 refine Go.tr st78 ?_
 obtain ⟨rfl, N78q, e78⟩ := hQ78
 have N78 := Fr.app N77 N78q
 refine G (fun t k => XS.istore X78.here hx rfl (hb hby at_539) rfl (l' := #[vj q1, .second, vj q2, .second, vj q3, .second, vi p4, vi p5, vi fa, vi ta, vi g1, vi u1, vi g2, vi u3, vi (p5 &&& (3 : Int32)), vi kf, vi pt, vi pf, vi x18, vi x19, vi x20, vi (((1 : Int32) + da) + db), vi xin, vi ((ca + cb) + cc), vi m3, vr b23, vr jr, vi 1, vi 3]) rfl k) ?_
 show Go _ _ _ (T78.setTop (mkF m 541 #[vj q1, .second, vj q2, .second, vj q3, .second, vi p4, vi p5, vi fa, vi ta, vi g1, vi u1, vi g2, vi u3, vi (p5 &&& (3 : Int32)), vi kf, vi pt, vi pf, vi x18, vi x19, vi x20, vi (((1 : Int32) + da) + db), vi xin, vi ((ca + cb) + cc), vi m3, vr b23, vr jr, vi 1, vi 3] [])) _
 refine G (fun t k => XS.iload X78.here hx rfl (hb hby at_541) rfl (XS.iload X78.here hx rfl (hb hby at_543) rfl (XS.isub X78.here hx rfl (hb hby at_545) rfl (XS.iload X78.here hx rfl (hb hby at_546) rfl k)))) ?_
 have hf79 : (2 : Int32) = ((ca + cb) + cc) := hcd
 refine G (fun t k => XS.icmpYes X78.here hx rfl (pc0 := 548) (pc' := 553) rfl (hb hby at_548) rfl (teq hf79).1 (by decide) (by decide) (XS.iload X78.here hx rfl (hb hby at_553) rfl k)) ?_
 have hf80 : (0 : Int32) < ((ca + cb) + cc) := (by rw [← hcd]; decide)
 refine G (fun t k => XS.ifNo X78.here hx rfl (hb hby at_555) rfl ((if0 _ _).trans (tlt hf80).2.2.2) k) ?_
 show Go _ _ _ (T78.setTop (mkF m 558 #[vj q1, .second, vj q2, .second, vj q3, .second, vi p4, vi p5, vi fa, vi ta, vi g1, vi u1, vi g2, vi u3, vi (p5 &&& (3 : Int32)), vi kf, vi pt, vi pf, vi x18, vi x19, vi x20, vi (((1 : Int32) + da) + db), vi xin, vi ((ca + cb) + cc), vi m3, vr b23, vr jr, vi 1, vi 3] [])) _
 refine G (fun t k => XS.aload X78.here hx rfl (hb hby at_558) rfl rfl (XS.iload X78.here hx rfl (hb hby at_560) rfl k)) ?_
 obtain ⟨cq81, kq81, q81a, q81b, q81c⟩ := isOf hZ e78 E_jr
 obtain ⟨_, _, ⟨T81, L81, k81, n81⟩, -, X81, ⟨Lc81, hQ81, l81, y81, z81⟩, st81⟩ := X78.virtualBack hx (y := (⟨RC, "target", "(I)I"⟩ : MethodName)) (z := (⟨RC, "target", "(I)I"⟩ : MethodName)) hown (mvT hZ (wd104 hw)) (mvT hZ (wd105 hw)) (notFace_of_selects (args := #[]) (mvT hZ (wd107 hw))) (mvT hZ (wd107 hw)) (mvT hZ (wd106 hw)) (by decide) (backOf (W := 0) (rm20 l Z a0 hw [] jr (1 : Int32) jt jkt jT jn hJ n0 Z0 F_jt V_jt ⟨by decide, own_ltl (1 : Int32) (3 : Int32) _ (by decide) hnn⟩) hZ (wd108 hw) (wd54 hw) (by decide) (by decide)) q81a q81c (g := (mkF m 562 #[vj q1, .second, vj q2, .second, vj q3, .second, vi p4, vi p5, vi fa, vi ta, vi g1, vi u1, vi g2, vi u3, vi (p5 &&& (3 : Int32)), vi kf, vi pt, vi pf, vi x18, vi x19, vi x20, vi (((1 : Int32) + da) + db), vi xin, vi ((ca + cb) + cc), vi m3, vr b23, vr jr, vi 1, vi 3] [(.int 1), (.ref jr)])) rfl (by rw [hml]; rfl) (Steps.refl _) (argsL := [(.int (1 : Int32))]) (rest := []) (lenOf pd14 rfl) rfl (by show 2 * 0 + _ ≤ _; exact Nat.le_of_eq rfl) (hb hby at_562) (fun _ _ => ⟨rfl, e78, (by decide : 12 + 0 ≤ _), (by decide : 60 + 0 ≤ _)⟩)
 dsimp only [Pt.U, Pt.locs, Pt.cells, Pt.slots] at X81 l81 y81 z81 st81 hQ81
 subst l81 y81 z81
 refine Go.tr st81 ?_
 obtain ⟨rfl, N81q, e81⟩ := hQ81
 have N81 := Fr.app N78 N81q
 obtain ⟨LL81, X81, N81⟩ : ∃ LL, Stand p l e room_1 s m #[(.long q1), (.long q2), (.long q3), (.int p4), (.int p5)] below meth c T81 LL 12 60 ∧ Fr n0 LL := ⟨_, X81, N81⟩
 refine G (fun t k => XS.iload X81.here hx rfl (hb hby at_565) rfl k) ?_
 have hf82 : (own_at jT (1 : Int32)) = m3 := hmn
 refine G (fun t k => XS.icmpYes X81.here hx rfl (pc0 := 567) (pc' := 572) rfl (hb hby at_567) rfl (teq hf82).1 (by decide) (by decide) (XS.iconst X81.here hx rfl (hb hby at_572) k)) ?_
 obtain ⟨fs, hr, hrun, hended, hW, hsame⟩ := X81.leave (v := some (.int (1 : Int32))) (fun h => by rw [Bd.returns] at h; cases h)
 refine Go.fin (retN X81 hx (t := .boolean) Bd.returns (by simp) (hb hby at_573) hr) hrun hended ⟨_, _, rfl, ?_, ⟨_, rfl⟩, hW, hsame.mono (by decide) (by decide)⟩
 show Q0 Z q1 q2 q3 p4 p5 h0 n0 _ T81.heap _
 rw [e81]
 exact ⟨rfl, N81⟩
theorem TJ0_83 (l : Launch) (Z : State) (a0 : Array Value) (hw : HW a0 Z) (ws : List Jvm.Cond) (q1 : Int64) (q2 : Int64) (q3 : Int64) (p4 : Int32) (p5 : Int32) (h0 : Heap) (n0 : Nat) {p : Program} {e : Env} {s : State} {m : MethodId} {below : List Frame} {meth : Method} {c : Code} {s₁ : State} (Bd : BodyLoose p l x (head1 (Jvm.Cond.code x code maxLocals ret :: ws) room_1) code maxLocals ret e s m #[(.long q1), (.long q2), (.long q3), (.int p4), (.int p5)] below meth c s₁) (hml0 : c.maxLocals = maxLocals) (hZ : Z.Warmed39 s.vm) {TJ : State} {locsJ : List Loc} {hJ : Heap} {b23 : Addr} {jr : Addr} {js : Addr} {jt : Addr} {jks : ClassId} {jkt : ClassId} {fa : Int32} {ta : Int32} {u1 : Int32} {u3 : Int32} {g1 : Int32} {g2 : Int32} {kf : Int32} {pt : Int32} {pf : Int32} {x18 : Int32} {x19 : Int32} {x20 : Int32} {da : Int32} {db : Int32} {xin : Int32} {ca : Int32} {cb : Int32} {cc : Int32} {m3 : Int32} {jX : List Int32} {jT : List Int32} {jn : Int32} (XJ : Stand p l e room_1 s m #[(.long q1), (.long q2), (.long q3), (.int p4), (.int p5)] below meth c TJ locsJ 12 60) (eJ : TJ.heap = hJ) (NJ : Fr n0 locsJ) (K0 : Keep h0 hJ []) (Z0 : n0 ≤ hJ.size) (E_jr : Exa Z hJ jr RC) (F_js : Fld Z hJ jr RC "start" "[I" (.ref js)) (F_jt : Fld Z hJ jr RC "targets" "[I" (.ref jt)) (V_js : Arv Z hJ js jks .int (9 : Int32) (List.map Value.int jX) (.int (0 : Int32))) (V_jt : Arv Z hJ jt jkt .int jn (List.map Value.int jT) (.int (0 : Int32))) (rpf : 0 ≤ pf.toInt ∧ pf.toInt ≤ 7) (hlo : own_at jX pf = (2 : Int32)) (hhi : own_at jX (pf + (1 : Int32)) = (3 : Int32)) (hnn : ¬ jn < (3 : Int32)) (hcon : (f14_23 pt jT) = xin) (hcd : (1 : Int32) = ((ca + cb) + cc)) (hmn : own_at jT (2 : Int32) = m3) :
  Go p.tables e below (TJ.setTop (mkF m 507 #[vj q1, .second, vj q2, .second, vj q3, .second, vi p4, vi p5, vi fa, vi ta, vi g1, vi u1, vi g2, vi u3, vi (p5 &&& (3 : Int32)), vi kf, vi pt, vi pf, vi x18, vi x19, vi x20, vi (((1 : Int32) + da) + db), vi xin, vi ((ca + cb) + cc), vi m3, vr b23, vr jr, us, us] [])) (fun o U' => ∃ v L, o = .returned v ∧ Q0 Z q1 q2 q3 p4 p5 h0 n0 v U'.heap L ∧ FrameEnd s o U' L 24 192) := by
 have hx := Bd.exec
 have hby := Bd.bytes
 have hml : c.maxLocals = 29 := hml0
 have hown : s.vm.findClass "com/example/tripletype/tripletype/BuilderAddPinLaw" = some m.cls := findClass_of_methodNamed Bd.named
 have hnm := (name_of_methodNamed Bd.named Bd.method).1
 refine G (fun t k => XS.aload XJ.here hx rfl (hb hby at_507) rfl rfl (XS.iload XJ.here hx rfl (hb hby at_509) rfl (XS.iload XJ.here hx rfl (hb hby at_511) rfl k))) ?_
 obtain ⟨cq84, kq84, q84a, q84b, q84c⟩ := isOf hZ eJ E_jr
 obtain ⟨_, _, ⟨T84, L84, k84, n84⟩, -, X84, ⟨Lc84, hQ84, l84, y84, z84⟩, st84⟩ := XJ.virtualBack hx (y := (⟨RC, "contains", "(II)Z"⟩ : MethodName)) (z := (⟨RC, "contains", "(II)Z"⟩ : MethodName)) hown (mvT hZ (wd80 hw)) (mvT hZ (wd81 hw)) (notFace_of_selects (args := #[]) (mvT hZ (wd83 hw))) (mvT hZ (wd83 hw)) (mvT hZ (wd82 hw)) (by decide) (backOf (W := 0) (rm14_23 l Z a0 hw [] jr pf pt js jks jX jt jkt jT jn hJ n0 Z0 F_js V_js F_jt V_jt (own_pf0 rpf) (own_pf1 rpf) hlo hhi hnn) hZ (wd84 hw) (wd54 hw) (by decide) (by decide)) q84a q84c (g := (mkF m 513 #[vj q1, .second, vj q2, .second, vj q3, .second, vi p4, vi p5, vi fa, vi ta, vi g1, vi u1, vi g2, vi u3, vi (p5 &&& (3 : Int32)), vi kf, vi pt, vi pf, vi x18, vi x19, vi x20, vi (((1 : Int32) + da) + db), vi xin, vi ((ca + cb) + cc), vi m3, vr b23, vr jr, us, us] [(.int pt), (.int pf), (.ref jr)])) rfl (by rw [hml]; rfl) (Steps.refl _) (argsL := [(.int pf), (.int pt)]) (rest := []) (lenOf pd13 rfl) rfl (by show 2 * 0 + _ ≤ _; exact Nat.le_of_eq rfl) (hb hby at_513) (fun _ _ => ⟨rfl, eJ, (by decide : 12 + 0 ≤ _), (by decide : 60 + 0 ≤ _)⟩)
 dsimp only [Pt.U, Pt.locs, Pt.cells, Pt.slots] at X84 l84 y84 z84 st84 hQ84
 subst l84 y84 z84
 refine Go.tr st84 ?_
 obtain ⟨rfl, N84q, e84⟩ := hQ84
 have N84 := Fr.app NJ N84q
 refine G (fun t k => XS.iload X84.here hx rfl (hb hby at_516) rfl k) ?_
 have hf85 : (f14_23 pt jT) = xin := hcon
 refine G (fun t k => XS.icmpYes X84.here hx rfl (pc0 := 518) (pc' := 523) rfl (hb hby at_518) rfl (teq hf85).1 (by decide) (by decide) (XS.aload X84.here hx rfl (hb hby at_523) rfl rfl k)) ?_
 show Go _ _ _ (T84.setTop (mkF m 525 #[vj q1, .second, vj q2, .second, vj q3, .second, vi p4, vi p5, vi fa, vi ta, vi g1, vi u1, vi g2, vi u3, vi (p5 &&& (3 : Int32)), vi kf, vi pt, vi pf, vi x18, vi x19, vi x20, vi (((1 : Int32) + da) + db), vi xin, vi ((ca + cb) + cc), vi m3, vr b23, vr jr, us, us] [(.ref jr)])) _
 refine G (fun t k => XS.iload X84.here hx rfl (hb hby at_525) rfl k) ?_
 obtain ⟨cq86, kq86, q86a, q86b, q86c⟩ := isOf hZ e84 E_jr
 obtain ⟨_, _, ⟨T86, L86, k86, n86⟩, -, X86, ⟨Lc86, hQ86, l86, y86, z86⟩, st86⟩ := X84.virtualBack hx (y := (⟨RC, "start", "(I)I"⟩ : MethodName)) (z := (⟨RC, "start", "(I)I"⟩ : MethodName)) hown (mvT hZ (wd94 hw)) (mvT hZ (wd95 hw)) (notFace_of_selects (args := #[]) (mvT hZ (wd97 hw))) (mvT hZ (wd97 hw)) (mvT hZ (wd96 hw)) (by decide) (backOf (W := 0) (rm18 l Z a0 hw [] jr pf js jks jX (2 : Int32) hJ n0 Z0 F_js V_js (own_pf0 rpf) hlo) hZ (wd98 hw) (wd54 hw) (by decide) (by decide)) q86a q86c (g := (mkF m 527 #[vj q1, .second, vj q2, .second, vj q3, .second, vi p4, vi p5, vi fa, vi ta, vi g1, vi u1, vi g2, vi u3, vi (p5 &&& (3 : Int32)), vi kf, vi pt, vi pf, vi x18, vi x19, vi x20, vi (((1 : Int32) + da) + db), vi xin, vi ((ca + cb) + cc), vi m3, vr b23, vr jr, us, us] [(.int pf), (.ref jr)])) rfl (by rw [hml]; rfl) (Steps.refl _) (argsL := [(.int pf)]) (rest := []) (lenOf pd14 rfl) rfl (by show 2 * 0 + _ ≤ _; exact Nat.le_of_eq rfl) (hb hby at_527) (fun _ _ => ⟨rfl, e84, (by decide : 12 + 0 ≤ _), (by decide : 60 + 0 ≤ _)⟩)
 dsimp only [Pt.U, Pt.locs, Pt.cells, Pt.slots] at X86 l86 y86 z86 st86 hQ86
 subst l86 y86 z86
 refine Go.tr st86 ?_
 obtain ⟨rfl, N86q, e86⟩ := hQ86
 have N86 := Fr.app N84 N86q
 refine G (fun t k => XS.istore X86.here hx rfl (hb hby at_530) rfl (l' := #[vj q1, .second, vj q2, .second, vj q3, .second, vi p4, vi p5, vi fa, vi ta, vi g1, vi u1, vi g2, vi u3, vi (p5 &&& (3 : Int32)), vi kf, vi pt, vi pf, vi x18, vi x19, vi x20, vi (((1 : Int32) + da) + db), vi xin, vi ((ca + cb) + cc), vi m3, vr b23, vr jr, vi 2, us]) rfl (XS.aload X86.here hx rfl (hb hby at_532) rfl rfl (XS.iload X86.here hx rfl (hb hby at_534) rfl k))) ?_
 obtain ⟨cq87, kq87, q87a, q87b, q87c⟩ := isOf hZ e86 E_jr
 obtain ⟨_, _, ⟨T87, L87, k87, n87⟩, -, X87, ⟨Lc87, hQ87, l87, y87, z87⟩, st87⟩ := X86.virtualBack hx (y := (⟨RC, "end", "(I)I"⟩ : MethodName)) (z := (⟨RC, "end", "(I)I"⟩ : MethodName)) hown (mvT hZ (wd99 hw)) (mvT hZ (wd100 hw)) (notFace_of_selects (args := #[]) (mvT hZ (wd102 hw))) (mvT hZ (wd102 hw)) (mvT hZ (wd101 hw)) (by decide) (backOf (W := 0) (rm19 l Z a0 hw [] jr pf js jks jX (3 : Int32) hJ n0 Z0 F_js V_js (own_pf1 rpf) hhi) hZ (wd103 hw) (wd54 hw) (by decide) (by decide)) q87a q87c (g := (mkF m 536 #[vj q1, .second, vj q2, .second, vj q3, .second, vi p4, vi p5, vi fa, vi ta, vi g1, vi u1, vi g2, vi u3, vi (p5 &&& (3 : Int32)), vi kf, vi pt, vi pf, vi x18, vi x19, vi x20, vi (((1 : Int32) + da) + db), vi xin, vi ((ca + cb) + cc), vi m3, vr b23, vr jr, vi 2, us] [(.int pf), (.ref jr)])) rfl (by rw [hml]; rfl) (Steps.refl _) (argsL := [(.int pf)]) (rest := []) (lenOf pd14 rfl) rfl (by show 2 * 0 + _ ≤ _; exact Nat.le_of_eq rfl) (hb hby at_536) (fun _ _ => ⟨rfl, e86, (by decide : 12 + 0 ≤ _), (by decide : 60 + 0 ≤ _)⟩)
 dsimp only [Pt.U, Pt.locs, Pt.cells, Pt.slots] at X87 l87 y87 z87 st87 hQ87
 subst l87 y87 z87
 refine Go.tr st87 ?_
 obtain ⟨rfl, N87q, e87⟩ := hQ87
 have N87 := Fr.app N86 N87q
 refine G (fun t k => XS.istore X87.here hx rfl (hb hby at_539) rfl (l' := #[vj q1, .second, vj q2, .second, vj q3, .second, vi p4, vi p5, vi fa, vi ta, vi g1, vi u1, vi g2, vi u3, vi (p5 &&& (3 : Int32)), vi kf, vi pt, vi pf, vi x18, vi x19, vi x20, vi (((1 : Int32) + da) + db), vi xin, vi ((ca + cb) + cc), vi m3, vr b23, vr jr, vi 2, vi 3]) rfl k) ?_
 show Go _ _ _ (T87.setTop (mkF m 541 #[vj q1, .second, vj q2, .second, vj q3, .second, vi p4, vi p5, vi fa, vi ta, vi g1, vi u1, vi g2, vi u3, vi (p5 &&& (3 : Int32)), vi kf, vi pt, vi pf, vi x18, vi x19, vi x20, vi (((1 : Int32) + da) + db), vi xin, vi ((ca + cb) + cc), vi m3, vr b23, vr jr, vi 2, vi 3] [])) _
 refine G (fun t k => XS.iload X87.here hx rfl (hb hby at_541) rfl (XS.iload X87.here hx rfl (hb hby at_543) rfl (XS.isub X87.here hx rfl (hb hby at_545) rfl (XS.iload X87.here hx rfl (hb hby at_546) rfl k)))) ?_
 have hf88 : (1 : Int32) = ((ca + cb) + cc) := hcd
 refine G (fun t k => XS.icmpYes X87.here hx rfl (pc0 := 548) (pc' := 553) rfl (hb hby at_548) rfl (teq hf88).1 (by decide) (by decide) (XS.iload X87.here hx rfl (hb hby at_553) rfl k)) ?_
 have hf89 : (0 : Int32) < ((ca + cb) + cc) := (by rw [← hcd]; decide)
 refine G (fun t k => XS.ifNo X87.here hx rfl (hb hby at_555) rfl ((if0 _ _).trans (tlt hf89).2.2.2) k) ?_
 show Go _ _ _ (T87.setTop (mkF m 558 #[vj q1, .second, vj q2, .second, vj q3, .second, vi p4, vi p5, vi fa, vi ta, vi g1, vi u1, vi g2, vi u3, vi (p5 &&& (3 : Int32)), vi kf, vi pt, vi pf, vi x18, vi x19, vi x20, vi (((1 : Int32) + da) + db), vi xin, vi ((ca + cb) + cc), vi m3, vr b23, vr jr, vi 2, vi 3] [])) _
 refine G (fun t k => XS.aload X87.here hx rfl (hb hby at_558) rfl rfl (XS.iload X87.here hx rfl (hb hby at_560) rfl k)) ?_
 obtain ⟨cq90, kq90, q90a, q90b, q90c⟩ := isOf hZ e87 E_jr
 obtain ⟨_, _, ⟨T90, L90, k90, n90⟩, -, X90, ⟨Lc90, hQ90, l90, y90, z90⟩, st90⟩ := X87.virtualBack hx (y := (⟨RC, "target", "(I)I"⟩ : MethodName)) (z := (⟨RC, "target", "(I)I"⟩ : MethodName)) hown (mvT hZ (wd104 hw)) (mvT hZ (wd105 hw)) (notFace_of_selects (args := #[]) (mvT hZ (wd107 hw))) (mvT hZ (wd107 hw)) (mvT hZ (wd106 hw)) (by decide) (backOf (W := 0) (rm20 l Z a0 hw [] jr (2 : Int32) jt jkt jT jn hJ n0 Z0 F_jt V_jt ⟨by decide, own_ltl (2 : Int32) (3 : Int32) _ (by decide) hnn⟩) hZ (wd108 hw) (wd54 hw) (by decide) (by decide)) q90a q90c (g := (mkF m 562 #[vj q1, .second, vj q2, .second, vj q3, .second, vi p4, vi p5, vi fa, vi ta, vi g1, vi u1, vi g2, vi u3, vi (p5 &&& (3 : Int32)), vi kf, vi pt, vi pf, vi x18, vi x19, vi x20, vi (((1 : Int32) + da) + db), vi xin, vi ((ca + cb) + cc), vi m3, vr b23, vr jr, vi 2, vi 3] [(.int 2), (.ref jr)])) rfl (by rw [hml]; rfl) (Steps.refl _) (argsL := [(.int (2 : Int32))]) (rest := []) (lenOf pd14 rfl) rfl (by show 2 * 0 + _ ≤ _; exact Nat.le_of_eq rfl) (hb hby at_562) (fun _ _ => ⟨rfl, e87, (by decide : 12 + 0 ≤ _), (by decide : 60 + 0 ≤ _)⟩)
 dsimp only [Pt.U, Pt.locs, Pt.cells, Pt.slots] at X90 l90 y90 z90 st90 hQ90
 subst l90 y90 z90
 refine Go.tr st90 ?_
 obtain ⟨rfl, N90q, e90⟩ := hQ90
 have N90 := Fr.app N87 N90q
 obtain ⟨LL90, X90, N90⟩ : ∃ LL, Stand p l e room_1 s m #[(.long q1), (.long q2), (.long q3), (.int p4), (.int p5)] below meth c T90 LL 12 60 ∧ Fr n0 LL := ⟨_, X90, N90⟩
 refine G (fun t k => XS.iload X90.here hx rfl (hb hby at_565) rfl k) ?_
 have hf91 : (own_at jT (2 : Int32)) = m3 := hmn
 refine G (fun t k => XS.icmpYes X90.here hx rfl (pc0 := 567) (pc' := 572) rfl (hb hby at_567) rfl (teq hf91).1 (by decide) (by decide) (XS.iconst X90.here hx rfl (hb hby at_572) k)) ?_
 obtain ⟨fs, hr, hrun, hended, hW, hsame⟩ := X90.leave (v := some (.int (1 : Int32))) (fun h => by rw [Bd.returns] at h; cases h)
 refine Go.fin (retN X90 hx (t := .boolean) Bd.returns (by simp) (hb hby at_573) hr) hrun hended ⟨_, _, rfl, ?_, ⟨_, rfl⟩, hW, hsame.mono (by decide) (by decide)⟩
 show Q0 Z q1 q2 q3 p4 p5 h0 n0 _ T90.heap _
 rw [e90]
 exact ⟨rfl, N90⟩
theorem TJ0_22 (l : Launch) (Z : State) (a0 : Array Value) (hw : HW a0 Z) (ws : List Jvm.Cond) (q1 : Int64) (q2 : Int64) (q3 : Int64) (p4 : Int32) (p5 : Int32) (h0 : Heap) (n0 : Nat) {p : Program} {e : Env} {s : State} {m : MethodId} {below : List Frame} {meth : Method} {c : Code} {s₁ : State} (Bd : BodyLoose p l x (head1 (Jvm.Cond.code x code maxLocals ret :: ws) room_1) code maxLocals ret e s m #[(.long q1), (.long q2), (.long q3), (.int p4), (.int p5)] below meth c s₁) (hml0 : c.maxLocals = maxLocals) (hZ : Z.Warmed39 s.vm) {TJ : State} {locsJ : List Loc} {hJ : Heap} {fa : Int32} {ta : Int32} {u1 : Int32} {u3 : Int32} {g1 : Int32} {g2 : Int32} {kf : Int32} {pt : Int32} {pf : Int32} {x18 : Int32} {x19 : Int32} {x20 : Int32} {da : Int32} {db : Int32} {xin : Int32} {ca : Int32} {cb : Int32} {cc : Int32} {m1 : Int32} {m2 : Int32} {m3 : Int32} (XJ : Stand p l e room_1 s m #[(.long q1), (.long q2), (.long q3), (.int p4), (.int p5)] below meth c TJ locsJ 0 0) (eJ : TJ.heap = hJ) (NJ : Fr n0 locsJ) (K0 : Keep h0 hJ []) (Z0 : n0 ≤ hJ.size) (r_fa : 0 ≤ fa.toInt ∧ fa.toInt ≤ 7) (r_ta : 0 ≤ ta.toInt) (r_g1 : 0 ≤ g1.toInt ∧ g1.toInt ≤ 7) (r_u1 : 0 ≤ u1.toInt) (r_g2 : 0 ≤ g2.toInt ∧ g2.toInt ≤ 7) (r_u3 : 0 ≤ u3.toInt) (r_pf : 0 ≤ pf.toInt ∧ pf.toInt ≤ 7) (h_x18 : x18 = if ((fa = g1) ∧ (ta = u1)) then (1 : Int32) else (0 : Int32)) (h_x19 : x19 = if ((fa = g2) ∧ (ta = u3)) then (1 : Int32) else (0 : Int32)) (h_x20 : x20 = if ((g1 = g2) ∧ (u1 = u3)) then (1 : Int32) else (0 : Int32)) (h_da : da = if (x18 = (0 : Int32)) then (1 : Int32) else (0 : Int32)) (h_db : db = if ((x19 = (0 : Int32)) ∧ (x20 = (0 : Int32))) then (1 : Int32) else (0 : Int32)) (h_xin : xin = if (((pf = fa) ∧ (pt = ta)) ∨ (((pf = g1) ∧ (pt = u1)) ∨ ((pf = g2) ∧ (pt = u3)))) then (1 : Int32) else (0 : Int32)) (h_ca : ca = if (fa = pf) then (1 : Int32) else (0 : Int32)) (h_cb : cb = if ((g1 = pf) ∧ (x18 = (0 : Int32))) then (1 : Int32) else (0 : Int32)) (h_cc : cc = if ((g2 = pf) ∧ ((x19 = (0 : Int32)) ∧ (x20 = (0 : Int32)))) then (1 : Int32) else (0 : Int32)) (h_m1 : m1 = if (fa = pf) then (f1 (2147483647 : Int32) ta) else (2147483647 : Int32)) (h_m2 : m2 = if (g1 = pf) then (f1 m1 u1) else m1) (h_m3 : m3 = if (g2 = pf) then (f1 m2 u3) else m2) :
  Go p.tables e below (TJ.setTop (mkF m 450 #[vj q1, .second, vj q2, .second, vj q3, .second, vi p4, vi p5, vi fa, vi ta, vi g1, vi u1, vi g2, vi u3, vi (p5 &&& (3 : Int32)), vi kf, vi pt, vi pf, vi x18, vi x19, vi x20, vi (((1 : Int32) + da) + db), vi xin, vi ((ca + cb) + cc), vi m3, us, us, us, us] [])) (fun o U' => ∃ v L, o = .returned v ∧ Q0 Z q1 q2 q3 p4 p5 h0 n0 v U'.heap L ∧ FrameEnd s o U' L 24 192) := by
 have hx := Bd.exec
 have hby := Bd.bytes
 have hml : c.maxLocals = 29 := hml0
 have hown : s.vm.findClass "com/example/tripletype/tripletype/BuilderAddPinLaw" = some m.cls := findClass_of_methodNamed Bd.named
 have hnm := (name_of_methodNamed Bd.named Bd.method).1
 obtain ⟨T23, h23, X23, e23, E23, A23, D23, -, st23⟩ := newO XJ hx hZ hown (wd5 hw) (wd6 hw) (wd7 hw) eJ (g := (mkF m 450 #[vj q1, .second, vj q2, .second, vj q3, .second, vi p4, vi p5, vi fa, vi ta, vi g1, vi u1, vi g2, vi u3, vi (p5 &&& (3 : Int32)), vi kf, vi pt, vi pf, vi x18, vi x19, vi x20, vi (((1 : Int32) + da) + db), vi xin, vi ((ca + cb) + cc), vi m3, us, us, us, us] [])) rfl (hb hby at_450) (by decide) (by decide)
 obtain ⟨b23, g23⟩ : ∃ z, z = hJ.size := ⟨_, rfl⟩
 rw [← g23] at A23 D23 st23
 refine G st23 ?_
 have g_b23 : n0 ≤ b23 := Nat.le_trans Z0 (Nat.le_of_eq g23.symm)
 have sz_b23 : h0.size ≤ b23 := Nat.le_trans K0.1 (Nat.le_of_eq g23.symm)
 replace K0 := K0.ext E23
 replace Z0 := Nat.le_trans Z0 E23.1
 have E_b23 := A23
 have F_b23_p : Fld Z h23 b23 BC "pairs" "[J" .null := D23 (Or.inl (wd16 hw)) (ty := (.array .long)) (by decide)
 have F_b23_s : Fld Z h23 b23 BC "size" "I" (.int (0 : Int32)) := D23 (Or.inl (wd23 hw)) (ty := .int) (by decide)
 refine G (fun t k => XS.dup X23.here hx rfl (hb hby at_453) rfl rfl k) ?_
 obtain ⟨_, _, ⟨T24, L24, k24, n24⟩, -, X24, ⟨Lc24, hQ24, l24, y24, z24⟩, st24⟩ := X23.specialBack hx (y := (⟨BC, "<init>", "()V"⟩ : MethodName)) rfl hown (mvT hZ (wd8 hw)) (mvT hZ (wd9 hw)) (mvT hZ (wd10 hw)) (by decide) (backOf (W := 1) (rm2 l Z a0 hw [] b23 (.null : Value) h23 n0 Z0 E_b23 F_b23_s F_b23_p g_b23) hZ (wd10 hw) (wd7 hw) (by decide) (by decide)) (g := (mkF m 454 #[vj q1, .second, vj q2, .second, vj q3, .second, vi p4, vi p5, vi fa, vi ta, vi g1, vi u1, vi g2, vi u3, vi (p5 &&& (3 : Int32)), vi kf, vi pt, vi pf, vi x18, vi x19, vi x20, vi (((1 : Int32) + da) + db), vi xin, vi ((ca + cb) + cc), vi m3, us, us, us, us] [(.ref b23), (.ref b23)])) rfl (by rw [hml]; rfl) (Steps.refl _) (a := b23) (argsL := []) (rest := [(.ref b23)]) (lenOf pd10 rfl) rfl (by show 2 * 0 + _ ≤ _; exact Nat.le_of_eq rfl) (hb hby at_454) (fun _ _ => ⟨rfl, e23, (by decide : 1 + 1 ≤ _), (by decide : 2 + 16 ≤ _)⟩)
 dsimp only [Pt.U, Pt.locs, Pt.cells, Pt.slots] at X24 l24 y24 z24 st24 hQ24
 subst l24 y24 z24
 have E_b23_pre := E_b23
 have F_b23_pairs_pre := F_b23_p
 have F_b23_size_pre := F_b23_s
 obtain ⟨h24, e24⟩ : ∃ z, T24.heap = z := ⟨_, rfl⟩
 rw [e24] at hQ24
 obtain ⟨y24, k_y24, rfl, N24q, K24, ng_y24, sz0_y24, Q24_0, Q24_1, Q24_2, Q24_3⟩ := hQ24
 refine Go.tr st24 ?_
 have ne_b23_y24 : b23 ≠ y24 := Nat.ne_of_lt (Nat.lt_of_lt_of_le E_b23.lt sz0_y24)
 have g_y24 : n0 ≤ y24 := ng_y24
 have sz_y24 : h0.size ≤ y24 := Nat.le_trans K0.1 sz0_y24
 replace E_b23 := E_b23.keep K24
 replace Z0 := Nat.le_trans Z0 K24.1
 replace K0 := K0.trans K24 (allS (Or.inr sz_b23) all0)
 clear E_b23_pre F_b23_pairs_pre F_b23_size_pre
 have E_b23 := Q24_0
 have F_b23_s := Q24_1
 have F_b23_p := Q24_2
 have V_y24 := Q24_3
 have N24 := Fr.app NJ N24q
 refine G (fun t k => XS.astore X24.here hx rfl (hb hby at_457) rfl rfl (l' := #[vj q1, .second, vj q2, .second, vj q3, .second, vi p4, vi p5, vi fa, vi ta, vi g1, vi u1, vi g2, vi u3, vi (p5 &&& (3 : Int32)), vi kf, vi pt, vi pf, vi x18, vi x19, vi x20, vi (((1 : Int32) + da) + db), vi xin, vi ((ca + cb) + cc), vi m3, vr b23, us, us, us]) rfl (XS.aload X24.here hx rfl (hb hby at_459) rfl rfl (XS.iload X24.here hx rfl (hb hby at_461) rfl (XS.iload X24.here hx rfl (hb hby at_463) rfl k)))) ?_
 show Go _ _ _ (T24.setTop (mkF m 465 #[vj q1, .second, vj q2, .second, vj q3, .second, vi p4, vi p5, vi fa, vi ta, vi g1, vi u1, vi g2, vi u3, vi (p5 &&& (3 : Int32)), vi kf, vi pt, vi pf, vi x18, vi x19, vi x20, vi (((1 : Int32) + da) + db), vi xin, vi ((ca + cb) + cc), vi m3, vr b23, us, us, us] [(.int ta), (.int fa), (.ref b23)])) _
 obtain ⟨cq25, kq25, q25a, q25b, q25c⟩ := isOf hZ e24 E_b23
 obtain ⟨_, _, ⟨T25, L25, k25, n25⟩, -, X25, ⟨Lc25, hQ25, l25, y25, z25⟩, st25⟩ := X24.virtualBack hx (y := (⟨BC, "add", "(II)V"⟩ : MethodName)) (z := (⟨BC, "add", "(II)V"⟩ : MethodName)) hown (mvT hZ (wd17 hw)) (mvT hZ (wd18 hw)) (notFace_of_selects (args := #[]) (mvT hZ (wd20 hw))) (mvT hZ (wd20 hw)) (mvT hZ (wd19 hw)) (by decide) (backOf (W := 0) (rm4_0 l Z a0 hw [] b23 fa ta y24 k_y24 h24 n0 Z0 E_b23 F_b23_s F_b23_p V_y24 (Ne.symm ne_b23_y24) g_b23 g_y24) hZ (wd21 hw) (wd7 hw) (by decide) (by decide)) q25a q25c (g := (mkF m 465 #[vj q1, .second, vj q2, .second, vj q3, .second, vi p4, vi p5, vi fa, vi ta, vi g1, vi u1, vi g2, vi u3, vi (p5 &&& (3 : Int32)), vi kf, vi pt, vi pf, vi x18, vi x19, vi x20, vi (((1 : Int32) + da) + db), vi xin, vi ((ca + cb) + cc), vi m3, vr b23, us, us, us] [(.int ta), (.int fa), (.ref b23)])) rfl (by rw [hml]; rfl) (Steps.refl _) (argsL := [(.int fa), (.int ta)]) (rest := []) (lenOf pd11 rfl) rfl (by show 2 * 0 + _ ≤ _; exact Nat.le_of_eq rfl) (hb hby at_465) (fun _ _ => ⟨rfl, e24, (by decide : 2 + 0 ≤ _), (by decide : 18 + 0 ≤ _)⟩)
 dsimp only [Pt.U, Pt.locs, Pt.cells, Pt.slots] at X25 l25 y25 z25 st25 hQ25
 subst l25 y25 z25
 refine Go.tr st25 ?_
 have E_b23_pre := E_b23
 have F_b23_size_pre := F_b23_s
 have F_b23_pairs_pre := F_b23_p
 have V_y24_pre := V_y24
 obtain ⟨h25, e25⟩ : ∃ z, T25.heap = z := ⟨_, rfl⟩
 rw [e25] at hQ25
 obtain ⟨rfl, N25q, K25, Q25_0, Q25_1, Q25_2, Q25_3⟩ := hQ25
 replace E_b23 := E_b23.keep K25
 replace Z0 := Nat.le_trans Z0 K25.1
 replace K0 := K0.trans K25 (allS (Or.inr sz_b23) (allS (Or.inr sz_y24) all0))
 clear E_b23_pre F_b23_size_pre F_b23_pairs_pre V_y24_pre
 have E_b23 := Q25_0
 have F_b23_s := Q25_1
 have F_b23_p := Q25_2
 have V_y24 := Q25_3
 have N25 := Fr.app N24 N25q
 refine G (fun t k => XS.aload X25.here hx rfl (hb hby at_468) rfl rfl (XS.iload X25.here hx rfl (hb hby at_470) rfl (XS.iload X25.here hx rfl (hb hby at_472) rfl k))) ?_
 obtain ⟨cq26, kq26, q26a, q26b, q26c⟩ := isOf hZ e25 E_b23
 obtain ⟨_, _, ⟨T26, L26, k26, n26⟩, -, X26, ⟨Lc26, hQ26, l26, y26, z26⟩, st26⟩ := X25.virtualBack hx (y := (⟨BC, "add", "(II)V"⟩ : MethodName)) (z := (⟨BC, "add", "(II)V"⟩ : MethodName)) hown (mvT hZ (wd17 hw)) (mvT hZ (wd18 hw)) (notFace_of_selects (args := #[]) (mvT hZ (wd20 hw))) (mvT hZ (wd20 hw)) (mvT hZ (wd19 hw)) (by decide) (backOf (W := 0) (rm4_1 l Z a0 hw [] b23 g1 u1 y24 (pk fa ta) k_y24 h25 n0 Z0 E_b23 F_b23_s F_b23_p V_y24 (Ne.symm ne_b23_y24) g_b23 g_y24) hZ (wd21 hw) (wd7 hw) (by decide) (by decide)) q26a q26c (g := (mkF m 474 #[vj q1, .second, vj q2, .second, vj q3, .second, vi p4, vi p5, vi fa, vi ta, vi g1, vi u1, vi g2, vi u3, vi (p5 &&& (3 : Int32)), vi kf, vi pt, vi pf, vi x18, vi x19, vi x20, vi (((1 : Int32) + da) + db), vi xin, vi ((ca + cb) + cc), vi m3, vr b23, us, us, us] [(.int u1), (.int g1), (.ref b23)])) rfl (by rw [hml]; rfl) (Steps.refl _) (argsL := [(.int g1), (.int u1)]) (rest := []) (lenOf pd11 rfl) rfl (by show 2 * 0 + _ ≤ _; exact Nat.le_of_eq rfl) (hb hby at_474) (fun _ _ => ⟨rfl, e25, (by decide : 2 + 0 ≤ _), (by decide : 18 + 0 ≤ _)⟩)
 dsimp only [Pt.U, Pt.locs, Pt.cells, Pt.slots] at X26 l26 y26 z26 st26 hQ26
 subst l26 y26 z26
 refine Go.tr st26 ?_
 have E_b23_pre := E_b23
 have F_b23_size_pre := F_b23_s
 have F_b23_pairs_pre := F_b23_p
 have V_y24_pre := V_y24
 obtain ⟨h26, e26⟩ : ∃ z, T26.heap = z := ⟨_, rfl⟩
 rw [e26] at hQ26
 obtain ⟨rfl, N26q, K26, Q26_0, Q26_1, Q26_2, Q26_3⟩ := hQ26
 replace E_b23 := E_b23.keep K26
 replace Z0 := Nat.le_trans Z0 K26.1
 replace K0 := K0.trans K26 (allS (Or.inr sz_b23) (allS (Or.inr sz_y24) all0))
 clear E_b23_pre F_b23_size_pre F_b23_pairs_pre V_y24_pre
 have E_b23 := Q26_0
 have F_b23_s := Q26_1
 have F_b23_p := Q26_2
 have V_y24 := Q26_3
 have N26 := Fr.app N25 N26q
 refine G (fun t k => XS.aload X26.here hx rfl (hb hby at_477) rfl rfl (XS.iload X26.here hx rfl (hb hby at_479) rfl k)) ?_
 show Go _ _ _ (T26.setTop (mkF m 481 #[vj q1, .second, vj q2, .second, vj q3, .second, vi p4, vi p5, vi fa, vi ta, vi g1, vi u1, vi g2, vi u3, vi (p5 &&& (3 : Int32)), vi kf, vi pt, vi pf, vi x18, vi x19, vi x20, vi (((1 : Int32) + da) + db), vi xin, vi ((ca + cb) + cc), vi m3, vr b23, us, us, us] [(.int g2), (.ref b23)])) _
 refine G (fun t k => XS.iload X26.here hx rfl (hb hby at_481) rfl k) ?_
 obtain ⟨cq27, kq27, q27a, q27b, q27c⟩ := isOf hZ e26 E_b23
 obtain ⟨_, _, ⟨T27, L27, k27, n27⟩, -, X27, ⟨Lc27, hQ27, l27, y27, z27⟩, st27⟩ := X26.virtualBack hx (y := (⟨BC, "add", "(II)V"⟩ : MethodName)) (z := (⟨BC, "add", "(II)V"⟩ : MethodName)) hown (mvT hZ (wd17 hw)) (mvT hZ (wd18 hw)) (notFace_of_selects (args := #[]) (mvT hZ (wd20 hw))) (mvT hZ (wd20 hw)) (mvT hZ (wd19 hw)) (by decide) (backOf (W := 0) (rm4_2 l Z a0 hw [] b23 g2 u3 y24 (pk fa ta) (pk g1 u1) k_y24 h26 n0 Z0 E_b23 F_b23_s F_b23_p V_y24 (Ne.symm ne_b23_y24) g_b23 g_y24) hZ (wd21 hw) (wd7 hw) (by decide) (by decide)) q27a q27c (g := (mkF m 483 #[vj q1, .second, vj q2, .second, vj q3, .second, vi p4, vi p5, vi fa, vi ta, vi g1, vi u1, vi g2, vi u3, vi (p5 &&& (3 : Int32)), vi kf, vi pt, vi pf, vi x18, vi x19, vi x20, vi (((1 : Int32) + da) + db), vi xin, vi ((ca + cb) + cc), vi m3, vr b23, us, us, us] [(.int u3), (.int g2), (.ref b23)])) rfl (by rw [hml]; rfl) (Steps.refl _) (argsL := [(.int g2), (.int u3)]) (rest := []) (lenOf pd11 rfl) rfl (by show 2 * 0 + _ ≤ _; exact Nat.le_of_eq rfl) (hb hby at_483) (fun _ _ => ⟨rfl, e26, (by decide : 2 + 0 ≤ _), (by decide : 18 + 0 ≤ _)⟩)
 dsimp only [Pt.U, Pt.locs, Pt.cells, Pt.slots] at X27 l27 y27 z27 st27 hQ27
 subst l27 y27 z27
 refine Go.tr st27 ?_
 have E_b23_pre := E_b23
 have F_b23_size_pre := F_b23_s
 have F_b23_pairs_pre := F_b23_p
 have V_y24_pre := V_y24
 obtain ⟨h27, e27⟩ : ∃ z, T27.heap = z := ⟨_, rfl⟩
 rw [e27] at hQ27
 obtain ⟨rfl, N27q, K27, Q27_0, Q27_1, Q27_2, Q27_3⟩ := hQ27
 replace E_b23 := E_b23.keep K27
 replace Z0 := Nat.le_trans Z0 K27.1
 replace K0 := K0.trans K27 (allS (Or.inr sz_b23) (allS (Or.inr sz_y24) all0))
 clear E_b23_pre F_b23_size_pre F_b23_pairs_pre V_y24_pre
 have E_b23 := Q27_0
 have F_b23_s := Q27_1
 have F_b23_p := Q27_2
 have V_y24 := Q27_3
 have N27 := Fr.app N26 N27q
 obtain ⟨LL27, X27, N27⟩ : ∃ LL, Stand p l e room_1 s m #[(.long q1), (.long q2), (.long q3), (.int p4), (.int p5)] below meth c T27 LL 2 18 ∧ Fr n0 LL := ⟨_, X27, N27⟩
 refine G (fun t k => XS.aload X27.here hx rfl (hb hby at_486) rfl rfl (XS.bipush X27.here hx rfl (hb hby at_488) k)) ?_
 show Go _ _ _ (T27.setTop (mkF m 490 #[vj q1, .second, vj q2, .second, vj q3, .second, vi p4, vi p5, vi fa, vi ta, vi g1, vi u1, vi g2, vi u3, vi (p5 &&& (3 : Int32)), vi kf, vi pt, vi pf, vi x18, vi x19, vi x20, vi (((1 : Int32) + da) + db), vi xin, vi ((ca + cb) + cc), vi m3, vr b23, us, us, us] [(.int 8), (.ref b23)])) _
 have hsrt := own_sorted r_fa r_ta r_g1 r_u1 r_g2 r_u3
 obtain ⟨hb0, hb1, hb2⟩ := own_gb r_fa r_ta r_g1 r_u1 r_g2 r_u3 hsrt
 have J28 : ∀ (TJ : State) (locsJ : List Loc) (hJ : Heap) (jr js jt : Addr) (jks jkt : ClassId) (jX jT : List Int32) (jn : Int32), Stand p l e room_1 s m #[(.long q1), (.long q2), (.long q3), (.int p4), (.int p5)] below meth c TJ locsJ 12 60 → TJ.heap = hJ → Fr n0 locsJ → Keep h0 hJ [] → n0 ≤ hJ.size → PL (f10_a1_0 (pk fa ta) (pk g1 u1) (pk g2 u3)) (f10_a1_1 (pk fa ta) (pk g1 u1) (pk g2 u3)) (f10_a1_2 (pk fa ta) (pk g1 u1) (pk g2 u3)) jn jX jT → Exa Z hJ jr RC → Fld Z hJ jr RC "start" "[I" (.ref js) → Fld Z hJ jr RC "targets" "[I" (.ref jt) → Arv Z hJ js jks .int (9 : Int32) (List.map Value.int jX) (.int (0 : Int32)) → Arv Z hJ jt jkt .int jn (List.map Value.int jT) (.int (0 : Int32)) → Go p.tables e below (TJ.setTop (mkF m 493 #[vj q1, .second, vj q2, .second, vj q3, .second, vi p4, vi p5, vi fa, vi ta, vi g1, vi u1, vi g2, vi u3, vi (p5 &&& (3 : Int32)), vi kf, vi pt, vi pf, vi x18, vi x19, vi x20, vi (((1 : Int32) + da) + db), vi xin, vi ((ca + cb) + cc), vi m3, vr b23, us, us, us] [(.ref jr)])) (fun o U' => ∃ v L, o = .returned v ∧ Q0 Z q1 q2 q3 p4 p5 h0 n0 v U'.heap L ∧ FrameEnd s o U' L 24 192) := by
  intro TJ locsJ hJ jr js jt jks jkt jX jT jn XJ eJ NJ K0 Z0 hPL E_jr F_js F_jt V_js V_jt
  refine G (fun t k => XS.astore XJ.here hx rfl (hb hby at_493) rfl rfl (l' := #[vj q1, .second, vj q2, .second, vj q3, .second, vi p4, vi p5, vi fa, vi ta, vi g1, vi u1, vi g2, vi u3, vi (p5 &&& (3 : Int32)), vi kf, vi pt, vi pf, vi x18, vi x19, vi x20, vi (((1 : Int32) + da) + db), vi xin, vi ((ca + cb) + cc), vi m3, vr b23, vr jr, us, us]) rfl (XS.aload XJ.here hx rfl (hb hby at_495) rfl rfl k)) ?_
  obtain ⟨cq29, kq29, q29a, q29b, q29c⟩ := isOf hZ eJ E_jr
  obtain ⟨_, _, ⟨T29, L29, k29, n29⟩, -, X29, ⟨Lc29, hQ29, l29, y29, z29⟩, st29⟩ := XJ.virtualBack hx (y := (⟨RC, "pairCount", "()I"⟩ : MethodName)) (z := (⟨RC, "pairCount", "()I"⟩ : MethodName)) hown (mvT hZ (wd75 hw)) (mvT hZ (wd76 hw)) (notFace_of_selects (args := #[]) (mvT hZ (wd78 hw))) (mvT hZ (wd78 hw)) (mvT hZ (wd77 hw)) (by decide) (backOf (W := 0) (rm13 l Z a0 hw [] jr jt jkt jT jn hJ n0 Z0 F_jt V_jt) hZ (wd79 hw) (wd54 hw) (by decide) (by decide)) q29a q29c (g := (mkF m 497 #[vj q1, .second, vj q2, .second, vj q3, .second, vi p4, vi p5, vi fa, vi ta, vi g1, vi u1, vi g2, vi u3, vi (p5 &&& (3 : Int32)), vi kf, vi pt, vi pf, vi x18, vi x19, vi x20, vi (((1 : Int32) + da) + db), vi xin, vi ((ca + cb) + cc), vi m3, vr b23, vr jr, us, us] [(.ref jr)])) rfl (by rw [hml]; rfl) (Steps.refl _) (argsL := []) (rest := []) (lenOf pd12 rfl) rfl (by show 2 * 0 + _ ≤ _; exact Nat.le_of_eq rfl) (hb hby at_497) (fun _ _ => ⟨rfl, eJ, (by decide : 12 + 0 ≤ _), (by decide : 60 + 0 ≤ _)⟩)
  dsimp only [Pt.U, Pt.locs, Pt.cells, Pt.slots] at X29 l29 y29 z29 st29 hQ29
  subst l29 y29 z29
  refine Go.tr st29 ?_
  obtain ⟨rfl, N29q, e29⟩ := hQ29
  have N29 := Fr.app NJ N29q
  refine G (fun t k => XS.iload X29.here hx rfl (hb hby at_500) rfl k) ?_
  have hf30 : jn = (((1 : Int32) + da) + db) := own_all1 r_fa r_ta r_g1 r_u1 r_g2 r_u3 r_pf h_x18 h_x19 h_x20 h_da h_db h_xin h_ca h_cb h_cc h_m1 h_m2 h_m3 hsrt hPL
  refine G (fun t k => XS.icmpYes X29.here hx rfl (pc0 := 502) (pc' := 507) rfl (hb hby at_502) rfl (teq hf30).1 (by decide) (by decide) k) ?_
  show Go _ _ _ (T29.setTop (mkF m 507 #[vj q1, .second, vj q2, .second, vj q3, .second, vi p4, vi p5, vi fa, vi ta, vi g1, vi u1, vi g2, vi u3, vi (p5 &&& (3 : Int32)), vi kf, vi pt, vi pf, vi x18, vi x19, vi x20, vi (((1 : Int32) + da) + db), vi xin, vi ((ca + cb) + cc), vi m3, vr b23, vr jr, us, us] [])) _
  have rpf := r_pf
  rcases own_all2 r_fa r_ta r_g1 r_u1 r_g2 r_u3 r_pf h_x18 h_x19 h_x20 h_da h_db h_xin h_ca h_cb h_cc h_m1 h_m2 h_m3 hsrt hPL with ⟨ge, hge, hlo, hhi, hnn, hcon, hcd, hmn⟩ | ⟨hlo, hhi, hnn, hcon, hcd, hmn⟩ | ⟨hlo, hhi, hnn, hcon, hcd, hmn⟩ | ⟨hlo, hhi, hnn, hcon, hcd, hmn⟩ | ⟨hlo, hhi, hnn, hcon, hcd, hmn⟩ | ⟨hlo, hhi, hnn, hcon, hcd, hmn⟩ | ⟨hlo, hhi, hnn, hcon, hcd, hmn⟩
  ·exact TJ0_31 l Z a0 hw ws q1 q2 q3 p4 p5 h0 n0 Bd hml0 hZ X29 e29 N29 K0 Z0 E_jr F_js F_jt V_js V_jt rpf hlo hhi hnn hge hcon hcd
  ·exact TJ0_38 l Z a0 hw ws q1 q2 q3 p4 p5 h0 n0 Bd hml0 hZ X29 e29 N29 K0 Z0 E_jr F_js F_jt V_js V_jt rpf hlo hhi hnn hcon hcd hmn
  ·exact TJ0_47 l Z a0 hw ws q1 q2 q3 p4 p5 h0 n0 Bd hml0 hZ X29 e29 N29 K0 Z0 E_jr F_js F_jt V_js V_jt rpf hlo hhi hnn hcon hcd hmn
  ·exact TJ0_56 l Z a0 hw ws q1 q2 q3 p4 p5 h0 n0 Bd hml0 hZ X29 e29 N29 K0 Z0 E_jr F_js F_jt V_js V_jt rpf hlo hhi hnn hcon hcd hmn
  ·exact TJ0_65 l Z a0 hw ws q1 q2 q3 p4 p5 h0 n0 Bd hml0 hZ X29 e29 N29 K0 Z0 E_jr F_js F_jt V_js V_jt rpf hlo hhi hnn hcon hcd hmn
  ·exact TJ0_74 l Z a0 hw ws q1 q2 q3 p4 p5 h0 n0 Bd hml0 hZ X29 e29 N29 K0 Z0 E_jr F_js F_jt V_js V_jt rpf hlo hhi hnn hcon hcd hmn
  ·exact TJ0_83 l Z a0 hw ws q1 q2 q3 p4 p5 h0 n0 Bd hml0 hZ X29 e29 N29 K0 Z0 E_jr F_js F_jt V_js V_jt rpf hlo hhi hnn hcon hcd hmn
 show Go _ _ _ (T27.setTop (mkF m 490 #[vj q1, .second, vj q2, .second, vj q3, .second, vi p4, vi p5, vi fa, vi ta, vi g1, vi u1, vi g2, vi u3, vi (p5 &&& (3 : Int32)), vi kf, vi pt, vi pf, vi x18, vi x19, vi x20, vi (((1 : Int32) + da) + db), vi xin, vi ((ca + cb) + cc), vi m3, vr b23, us, us, us] [(.int 8), (.ref b23)])) _
 by_cases hc92 : (f10_a1_1 (pk fa ta) (pk g1 u1) (pk g2 u3)) = (f10_a1_0 (pk fa ta) (pk g1 u1) (pk g2 u3))
 ·by_cases hc93 : (f10_a1_2 (pk fa ta) (pk g1 u1) (pk g2 u3)) = (f10_a1_1 (pk fa ta) (pk g1 u1) (pk g2 u3))
  ·show Go _ _ _ (T27.setTop (mkF m 490 #[vj q1, .second, vj q2, .second, vj q3, .second, vi p4, vi p5, vi fa, vi ta, vi g1, vi u1, vi g2, vi u3, vi (p5 &&& (3 : Int32)), vi kf, vi pt, vi pf, vi x18, vi x19, vi x20, vi (((1 : Int32) + da) + db), vi xin, vi ((ca + cb) + cc), vi m3, vr b23, us, us, us] [(.int 8), (.ref b23)])) _
   obtain ⟨cq94, kq94, q94a, q94b, q94c⟩ := isOf hZ e27 E_b23
   obtain ⟨_, _, ⟨T94, L94, k94, n94⟩, -, X94, ⟨Lc94, hQ94, l94, y94, z94⟩, st94⟩ := X27.virtualBack hx (y := (⟨BC, "build", "(I)Lcom/example/tripletype/tripletype/Relation;"⟩ : MethodName)) (z := (⟨BC, "build", "(I)Lcom/example/tripletype/tripletype/Relation;"⟩ : MethodName)) hown (mvT hZ (wd24 hw)) (mvT hZ (wd25 hw)) (notFace_of_selects (args := #[]) (mvT hZ (wd27 hw))) (mvT hZ (wd27 hw)) (mvT hZ (wd26 hw)) (by decide) (backOf (W := 0) (rm5_11 l Z a0 hw [] b23 y24 (pk fa ta) (pk g1 u1) (pk g2 u3) k_y24 h27 n0 Z0 E_b23 F_b23_s F_b23_p V_y24 hb0 hb1 hb2 hc92 hc93) hZ (wd28 hw) (wd7 hw) (by decide) (by decide)) q94a q94c (g := (mkF m 490 #[vj q1, .second, vj q2, .second, vj q3, .second, vi p4, vi p5, vi fa, vi ta, vi g1, vi u1, vi g2, vi u3, vi (p5 &&& (3 : Int32)), vi kf, vi pt, vi pf, vi x18, vi x19, vi x20, vi (((1 : Int32) + da) + db), vi xin, vi ((ca + cb) + cc), vi m3, vr b23, us, us, us] [(.int 8), (.ref b23)])) rfl (by rw [hml]; rfl) (Steps.refl _) (argsL := [(.int (8 : Int32))]) (rest := []) (lenOf pd15 rfl) rfl (by show 2 * 0 + _ ≤ _; exact Nat.le_of_eq rfl) (hb hby at_490) (fun _ _ => ⟨rfl, e27, (by decide : 2 + 5 ≤ _), (by decide : 18 + 18 ≤ _)⟩)
   dsimp only [Pt.U, Pt.locs, Pt.cells, Pt.slots] at X94 l94 y94 z94 st94 hQ94
   subst l94 y94 z94
   obtain ⟨h94, e94⟩ : ∃ z, T94.heap = z := ⟨_, rfl⟩
   rw [e94] at hQ94
   obtain ⟨y94, y94a, y94b, k_y94, k_y94a, rfl, N94q, K94, ng_y94, sz0_y94, ng_y94a, sz0_y94a, ng_y94b, sz0_y94b, nef_y94_y94a, nef_y94_y94b, nef_y94a_y94b, Q94_0, Q94_1, Q94_2, Q94_3, Q94_4⟩ := hQ94
   refine Go.tr st94 ?_
   have ne_b23_y94 : b23 ≠ y94 := Nat.ne_of_lt (Nat.lt_of_lt_of_le E_b23.lt sz0_y94)
   have ne_y24_y94 : y24 ≠ y94 := Nat.ne_of_lt (Nat.lt_of_lt_of_le V_y24.lt sz0_y94)
   have g_y94 : n0 ≤ y94 := ng_y94
   have sz_y94 : h0.size ≤ y94 := Nat.le_trans K0.1 sz0_y94
   have ne_b23_y94a : b23 ≠ y94a := Nat.ne_of_lt (Nat.lt_of_lt_of_le E_b23.lt sz0_y94a)
   have ne_y24_y94a : y24 ≠ y94a := Nat.ne_of_lt (Nat.lt_of_lt_of_le V_y24.lt sz0_y94a)
   have g_y94a : n0 ≤ y94a := ng_y94a
   have sz_y94a : h0.size ≤ y94a := Nat.le_trans K0.1 sz0_y94a
   have ne_b23_y94b : b23 ≠ y94b := Nat.ne_of_lt (Nat.lt_of_lt_of_le E_b23.lt sz0_y94b)
   have ne_y24_y94b : y24 ≠ y94b := Nat.ne_of_lt (Nat.lt_of_lt_of_le V_y24.lt sz0_y94b)
   have g_y94b : n0 ≤ y94b := ng_y94b
   have sz_y94b : h0.size ≤ y94b := Nat.le_trans K0.1 sz0_y94b
   replace E_b23 := E_b23.keep K94
   replace F_b23_s := F_b23_s.keep K94 nin0
   replace F_b23_p := F_b23_p.keep K94 nin0
   replace V_y24 := V_y24.keep K94 nin0
   replace Z0 := Nat.le_trans Z0 K94.1
   replace K0 := K0.trans K94 all0
   have V_y94 := Q94_0
   have E_y94b := Q94_1
   have V_y94a := Q94_2
   have F_y94b_a := Q94_3
   have F_y94b_t := Q94_4
   have N94 := Fr.app N27 N94q
   show Go _ _ _ (T94.setTop (mkF m 493 #[vj q1, .second, vj q2, .second, vj q3, .second, vi p4, vi p5, vi fa, vi ta, vi g1, vi u1, vi g2, vi u3, vi (p5 &&& (3 : Int32)), vi kf, vi pt, vi pf, vi x18, vi x19, vi x20, vi (((1 : Int32) + da) + db), vi xin, vi ((ca + cb) + cc), vi m3, vr b23, us, us, us] [(.ref y94b)])) _
   exact J28 _ _ _ y94b y94 y94a k_y94 k_y94a (pre (8 : Int32) (7 : Int32) (pre (7 : Int32) (6 : Int32) (pre (6 : Int32) (5 : Int32) (pre (5 : Int32) (4 : Int32) (pre (4 : Int32) (3 : Int32) (pre (3 : Int32) (2 : Int32) (pre (2 : Int32) (1 : Int32) (pre (1 : Int32) (0 : Int32) (bump (gi (f10_a1_0 (pk fa ta) (pk g1 u1) (pk g2 u3))) z9))))))))) [((f10_a1_0 (pk fa ta) (pk g1 u1) (pk g2 u3)).toInt32)] (1 : Int32) (own_stm X94 (by decide) (by decide)) e94 N94 K0 Z0 (Or.inl ⟨hc92, hc93, rfl, rfl, rfl⟩) E_y94b F_y94b_a F_y94b_t V_y94 V_y94a
  ·show Go _ _ _ (T27.setTop (mkF m 490 #[vj q1, .second, vj q2, .second, vj q3, .second, vi p4, vi p5, vi fa, vi ta, vi g1, vi u1, vi g2, vi u3, vi (p5 &&& (3 : Int32)), vi kf, vi pt, vi pf, vi x18, vi x19, vi x20, vi (((1 : Int32) + da) + db), vi xin, vi ((ca + cb) + cc), vi m3, vr b23, us, us, us] [(.int 8), (.ref b23)])) _
   obtain ⟨cq95, kq95, q95a, q95b, q95c⟩ := isOf hZ e27 E_b23
   obtain ⟨_, _, ⟨T95, L95, k95, n95⟩, -, X95, ⟨Lc95, hQ95, l95, y95, z95⟩, st95⟩ := X27.virtualBack hx (y := (⟨BC, "build", "(I)Lcom/example/tripletype/tripletype/Relation;"⟩ : MethodName)) (z := (⟨BC, "build", "(I)Lcom/example/tripletype/tripletype/Relation;"⟩ : MethodName)) hown (mvT hZ (wd24 hw)) (mvT hZ (wd25 hw)) (notFace_of_selects (args := #[]) (mvT hZ (wd27 hw))) (mvT hZ (wd27 hw)) (mvT hZ (wd26 hw)) (by decide) (backOf (W := 0) (rm5_10 l Z a0 hw [] b23 y24 (pk fa ta) (pk g1 u1) (pk g2 u3) k_y24 h27 n0 Z0 E_b23 F_b23_s F_b23_p V_y24 hb0 hb1 hb2 hc92 hc93) hZ (wd28 hw) (wd7 hw) (by decide) (by decide)) q95a q95c (g := (mkF m 490 #[vj q1, .second, vj q2, .second, vj q3, .second, vi p4, vi p5, vi fa, vi ta, vi g1, vi u1, vi g2, vi u3, vi (p5 &&& (3 : Int32)), vi kf, vi pt, vi pf, vi x18, vi x19, vi x20, vi (((1 : Int32) + da) + db), vi xin, vi ((ca + cb) + cc), vi m3, vr b23, us, us, us] [(.int 8), (.ref b23)])) rfl (by rw [hml]; rfl) (Steps.refl _) (argsL := [(.int (8 : Int32))]) (rest := []) (lenOf pd15 rfl) rfl (by show 2 * 0 + _ ≤ _; exact Nat.le_of_eq rfl) (hb hby at_490) (fun _ _ => ⟨rfl, e27, (by decide : 2 + 5 ≤ _), (by decide : 18 + 19 ≤ _)⟩)
   dsimp only [Pt.U, Pt.locs, Pt.cells, Pt.slots] at X95 l95 y95 z95 st95 hQ95
   subst l95 y95 z95
   obtain ⟨h95, e95⟩ : ∃ z, T95.heap = z := ⟨_, rfl⟩
   rw [e95] at hQ95
   obtain ⟨y95, y95a, y95b, k_y95, k_y95a, rfl, N95q, K95, ng_y95, sz0_y95, ng_y95a, sz0_y95a, ng_y95b, sz0_y95b, nef_y95_y95a, nef_y95_y95b, nef_y95a_y95b, Q95_0, Q95_1, Q95_2, Q95_3, Q95_4⟩ := hQ95
   refine Go.tr st95 ?_
   have ne_b23_y95 : b23 ≠ y95 := Nat.ne_of_lt (Nat.lt_of_lt_of_le E_b23.lt sz0_y95)
   have ne_y24_y95 : y24 ≠ y95 := Nat.ne_of_lt (Nat.lt_of_lt_of_le V_y24.lt sz0_y95)
   have g_y95 : n0 ≤ y95 := ng_y95
   have sz_y95 : h0.size ≤ y95 := Nat.le_trans K0.1 sz0_y95
   have ne_b23_y95a : b23 ≠ y95a := Nat.ne_of_lt (Nat.lt_of_lt_of_le E_b23.lt sz0_y95a)
   have ne_y24_y95a : y24 ≠ y95a := Nat.ne_of_lt (Nat.lt_of_lt_of_le V_y24.lt sz0_y95a)
   have g_y95a : n0 ≤ y95a := ng_y95a
   have sz_y95a : h0.size ≤ y95a := Nat.le_trans K0.1 sz0_y95a
   have ne_b23_y95b : b23 ≠ y95b := Nat.ne_of_lt (Nat.lt_of_lt_of_le E_b23.lt sz0_y95b)
   have ne_y24_y95b : y24 ≠ y95b := Nat.ne_of_lt (Nat.lt_of_lt_of_le V_y24.lt sz0_y95b)
   have g_y95b : n0 ≤ y95b := ng_y95b
   have sz_y95b : h0.size ≤ y95b := Nat.le_trans K0.1 sz0_y95b
   replace E_b23 := E_b23.keep K95
   replace F_b23_s := F_b23_s.keep K95 nin0
   replace F_b23_p := F_b23_p.keep K95 nin0
   replace V_y24 := V_y24.keep K95 nin0
   replace Z0 := Nat.le_trans Z0 K95.1
   replace K0 := K0.trans K95 all0
   have V_y95 := Q95_0
   have E_y95b := Q95_1
   have V_y95a := Q95_2
   have F_y95b_a := Q95_3
   have F_y95b_t := Q95_4
   have N95 := Fr.app N27 N95q
   show Go _ _ _ (T95.setTop (mkF m 493 #[vj q1, .second, vj q2, .second, vj q3, .second, vi p4, vi p5, vi fa, vi ta, vi g1, vi u1, vi g2, vi u3, vi (p5 &&& (3 : Int32)), vi kf, vi pt, vi pf, vi x18, vi x19, vi x20, vi (((1 : Int32) + da) + db), vi xin, vi ((ca + cb) + cc), vi m3, vr b23, us, us, us] [(.ref y95b)])) _
   exact J28 _ _ _ y95b y95 y95a k_y95 k_y95a (pre (8 : Int32) (7 : Int32) (pre (7 : Int32) (6 : Int32) (pre (6 : Int32) (5 : Int32) (pre (5 : Int32) (4 : Int32) (pre (4 : Int32) (3 : Int32) (pre (3 : Int32) (2 : Int32) (pre (2 : Int32) (1 : Int32) (pre (1 : Int32) (0 : Int32) (bump (gi (f10_a1_2 (pk fa ta) (pk g1 u1) (pk g2 u3))) (bump (gi (f10_a1_0 (pk fa ta) (pk g1 u1) (pk g2 u3))) z9)))))))))) [((f10_a1_0 (pk fa ta) (pk g1 u1) (pk g2 u3)).toInt32), ((f10_a1_2 (pk fa ta) (pk g1 u1) (pk g2 u3)).toInt32)] (2 : Int32) (own_stm X95 (by decide) (by decide)) e95 N95 K0 Z0 (Or.inr (Or.inl ⟨hc92, hc93, rfl, rfl, rfl⟩)) E_y95b F_y95b_a F_y95b_t V_y95 V_y95a
 ·by_cases hc96 : (f10_a1_2 (pk fa ta) (pk g1 u1) (pk g2 u3)) = (f10_a1_1 (pk fa ta) (pk g1 u1) (pk g2 u3))
  ·show Go _ _ _ (T27.setTop (mkF m 490 #[vj q1, .second, vj q2, .second, vj q3, .second, vi p4, vi p5, vi fa, vi ta, vi g1, vi u1, vi g2, vi u3, vi (p5 &&& (3 : Int32)), vi kf, vi pt, vi pf, vi x18, vi x19, vi x20, vi (((1 : Int32) + da) + db), vi xin, vi ((ca + cb) + cc), vi m3, vr b23, us, us, us] [(.int 8), (.ref b23)])) _
   obtain ⟨cq97, kq97, q97a, q97b, q97c⟩ := isOf hZ e27 E_b23
   obtain ⟨_, _, ⟨T97, L97, k97, n97⟩, -, X97, ⟨Lc97, hQ97, l97, y97, z97⟩, st97⟩ := X27.virtualBack hx (y := (⟨BC, "build", "(I)Lcom/example/tripletype/tripletype/Relation;"⟩ : MethodName)) (z := (⟨BC, "build", "(I)Lcom/example/tripletype/tripletype/Relation;"⟩ : MethodName)) hown (mvT hZ (wd24 hw)) (mvT hZ (wd25 hw)) (notFace_of_selects (args := #[]) (mvT hZ (wd27 hw))) (mvT hZ (wd27 hw)) (mvT hZ (wd26 hw)) (by decide) (backOf (W := 0) (rm5_01 l Z a0 hw [] b23 y24 (pk fa ta) (pk g1 u1) (pk g2 u3) k_y24 h27 n0 Z0 E_b23 F_b23_s F_b23_p V_y24 hb0 hb1 hb2 hc92 hc96) hZ (wd28 hw) (wd7 hw) (by decide) (by decide)) q97a q97c (g := (mkF m 490 #[vj q1, .second, vj q2, .second, vj q3, .second, vi p4, vi p5, vi fa, vi ta, vi g1, vi u1, vi g2, vi u3, vi (p5 &&& (3 : Int32)), vi kf, vi pt, vi pf, vi x18, vi x19, vi x20, vi (((1 : Int32) + da) + db), vi xin, vi ((ca + cb) + cc), vi m3, vr b23, us, us, us] [(.int 8), (.ref b23)])) rfl (by rw [hml]; rfl) (Steps.refl _) (argsL := [(.int (8 : Int32))]) (rest := []) (lenOf pd15 rfl) rfl (by show 2 * 0 + _ ≤ _; exact Nat.le_of_eq rfl) (hb hby at_490) (fun _ _ => ⟨rfl, e27, (by decide : 2 + 5 ≤ _), (by decide : 18 + 19 ≤ _)⟩)
   dsimp only [Pt.U, Pt.locs, Pt.cells, Pt.slots] at X97 l97 y97 z97 st97 hQ97
   subst l97 y97 z97
   obtain ⟨h97, e97⟩ : ∃ z, T97.heap = z := ⟨_, rfl⟩
   rw [e97] at hQ97
   obtain ⟨y97, y97a, y97b, k_y97, k_y97a, rfl, N97q, K97, ng_y97, sz0_y97, ng_y97a, sz0_y97a, ng_y97b, sz0_y97b, nef_y97_y97a, nef_y97_y97b, nef_y97a_y97b, Q97_0, Q97_1, Q97_2, Q97_3, Q97_4⟩ := hQ97
   refine Go.tr st97 ?_
   have ne_b23_y97 : b23 ≠ y97 := Nat.ne_of_lt (Nat.lt_of_lt_of_le E_b23.lt sz0_y97)
   have ne_y24_y97 : y24 ≠ y97 := Nat.ne_of_lt (Nat.lt_of_lt_of_le V_y24.lt sz0_y97)
   have g_y97 : n0 ≤ y97 := ng_y97
   have sz_y97 : h0.size ≤ y97 := Nat.le_trans K0.1 sz0_y97
   have ne_b23_y97a : b23 ≠ y97a := Nat.ne_of_lt (Nat.lt_of_lt_of_le E_b23.lt sz0_y97a)
   have ne_y24_y97a : y24 ≠ y97a := Nat.ne_of_lt (Nat.lt_of_lt_of_le V_y24.lt sz0_y97a)
   have g_y97a : n0 ≤ y97a := ng_y97a
   have sz_y97a : h0.size ≤ y97a := Nat.le_trans K0.1 sz0_y97a
   have ne_b23_y97b : b23 ≠ y97b := Nat.ne_of_lt (Nat.lt_of_lt_of_le E_b23.lt sz0_y97b)
   have ne_y24_y97b : y24 ≠ y97b := Nat.ne_of_lt (Nat.lt_of_lt_of_le V_y24.lt sz0_y97b)
   have g_y97b : n0 ≤ y97b := ng_y97b
   have sz_y97b : h0.size ≤ y97b := Nat.le_trans K0.1 sz0_y97b
   replace E_b23 := E_b23.keep K97
   replace F_b23_s := F_b23_s.keep K97 nin0
   replace F_b23_p := F_b23_p.keep K97 nin0
   replace V_y24 := V_y24.keep K97 nin0
   replace Z0 := Nat.le_trans Z0 K97.1
   replace K0 := K0.trans K97 all0
   have V_y97 := Q97_0
   have E_y97b := Q97_1
   have V_y97a := Q97_2
   have F_y97b_a := Q97_3
   have F_y97b_t := Q97_4
   have N97 := Fr.app N27 N97q
   show Go _ _ _ (T97.setTop (mkF m 493 #[vj q1, .second, vj q2, .second, vj q3, .second, vi p4, vi p5, vi fa, vi ta, vi g1, vi u1, vi g2, vi u3, vi (p5 &&& (3 : Int32)), vi kf, vi pt, vi pf, vi x18, vi x19, vi x20, vi (((1 : Int32) + da) + db), vi xin, vi ((ca + cb) + cc), vi m3, vr b23, us, us, us] [(.ref y97b)])) _
   exact J28 _ _ _ y97b y97 y97a k_y97 k_y97a (pre (8 : Int32) (7 : Int32) (pre (7 : Int32) (6 : Int32) (pre (6 : Int32) (5 : Int32) (pre (5 : Int32) (4 : Int32) (pre (4 : Int32) (3 : Int32) (pre (3 : Int32) (2 : Int32) (pre (2 : Int32) (1 : Int32) (pre (1 : Int32) (0 : Int32) (bump (gi (f10_a1_1 (pk fa ta) (pk g1 u1) (pk g2 u3))) (bump (gi (f10_a1_0 (pk fa ta) (pk g1 u1) (pk g2 u3))) z9)))))))))) [((f10_a1_0 (pk fa ta) (pk g1 u1) (pk g2 u3)).toInt32), ((f10_a1_1 (pk fa ta) (pk g1 u1) (pk g2 u3)).toInt32)] (2 : Int32) (own_stm X97 (by decide) (by decide)) e97 N97 K0 Z0 (Or.inr (Or.inr (Or.inl ⟨hc92, hc96, rfl, rfl, rfl⟩))) E_y97b F_y97b_a F_y97b_t V_y97 V_y97a
  ·show Go _ _ _ (T27.setTop (mkF m 490 #[vj q1, .second, vj q2, .second, vj q3, .second, vi p4, vi p5, vi fa, vi ta, vi g1, vi u1, vi g2, vi u3, vi (p5 &&& (3 : Int32)), vi kf, vi pt, vi pf, vi x18, vi x19, vi x20, vi (((1 : Int32) + da) + db), vi xin, vi ((ca + cb) + cc), vi m3, vr b23, us, us, us] [(.int 8), (.ref b23)])) _
   obtain ⟨cq98, kq98, q98a, q98b, q98c⟩ := isOf hZ e27 E_b23
   obtain ⟨_, _, ⟨T98, L98, k98, n98⟩, -, X98, ⟨Lc98, hQ98, l98, y98, z98⟩, st98⟩ := X27.virtualBack hx (y := (⟨BC, "build", "(I)Lcom/example/tripletype/tripletype/Relation;"⟩ : MethodName)) (z := (⟨BC, "build", "(I)Lcom/example/tripletype/tripletype/Relation;"⟩ : MethodName)) hown (mvT hZ (wd24 hw)) (mvT hZ (wd25 hw)) (notFace_of_selects (args := #[]) (mvT hZ (wd27 hw))) (mvT hZ (wd27 hw)) (mvT hZ (wd26 hw)) (by decide) (backOf (W := 0) (rm5_00 l Z a0 hw [] b23 y24 (pk fa ta) (pk g1 u1) (pk g2 u3) k_y24 h27 n0 Z0 E_b23 F_b23_s F_b23_p V_y24 hb0 hb1 hb2 hc92 hc96) hZ (wd28 hw) (wd7 hw) (by decide) (by decide)) q98a q98c (g := (mkF m 490 #[vj q1, .second, vj q2, .second, vj q3, .second, vi p4, vi p5, vi fa, vi ta, vi g1, vi u1, vi g2, vi u3, vi (p5 &&& (3 : Int32)), vi kf, vi pt, vi pf, vi x18, vi x19, vi x20, vi (((1 : Int32) + da) + db), vi xin, vi ((ca + cb) + cc), vi m3, vr b23, us, us, us] [(.int 8), (.ref b23)])) rfl (by rw [hml]; rfl) (Steps.refl _) (argsL := [(.int (8 : Int32))]) (rest := []) (lenOf pd15 rfl) rfl (by show 2 * 0 + _ ≤ _; exact Nat.le_of_eq rfl) (hb hby at_490) (fun _ _ => ⟨rfl, e27, (by decide : 2 + 5 ≤ _), (by decide : 18 + 20 ≤ _)⟩)
   dsimp only [Pt.U, Pt.locs, Pt.cells, Pt.slots] at X98 l98 y98 z98 st98 hQ98
   subst l98 y98 z98
   obtain ⟨h98, e98⟩ : ∃ z, T98.heap = z := ⟨_, rfl⟩
   rw [e98] at hQ98
   obtain ⟨y98, y98a, y98b, k_y98, k_y98a, rfl, N98q, K98, ng_y98, sz0_y98, ng_y98a, sz0_y98a, ng_y98b, sz0_y98b, nef_y98_y98a, nef_y98_y98b, nef_y98a_y98b, Q98_0, Q98_1, Q98_2, Q98_3, Q98_4, Q98_5⟩ := hQ98
   refine Go.tr st98 ?_
   have ne_b23_y98 : b23 ≠ y98 := Nat.ne_of_lt (Nat.lt_of_lt_of_le E_b23.lt sz0_y98)
   have ne_y24_y98 : y24 ≠ y98 := Nat.ne_of_lt (Nat.lt_of_lt_of_le V_y24.lt sz0_y98)
   have g_y98 : n0 ≤ y98 := ng_y98
   have sz_y98 : h0.size ≤ y98 := Nat.le_trans K0.1 sz0_y98
   have ne_b23_y98a : b23 ≠ y98a := Nat.ne_of_lt (Nat.lt_of_lt_of_le E_b23.lt sz0_y98a)
   have ne_y24_y98a : y24 ≠ y98a := Nat.ne_of_lt (Nat.lt_of_lt_of_le V_y24.lt sz0_y98a)
   have g_y98a : n0 ≤ y98a := ng_y98a
   have sz_y98a : h0.size ≤ y98a := Nat.le_trans K0.1 sz0_y98a
   have ne_b23_y98b : b23 ≠ y98b := Nat.ne_of_lt (Nat.lt_of_lt_of_le E_b23.lt sz0_y98b)
   have ne_y24_y98b : y24 ≠ y98b := Nat.ne_of_lt (Nat.lt_of_lt_of_le V_y24.lt sz0_y98b)
   have g_y98b : n0 ≤ y98b := ng_y98b
   have sz_y98b : h0.size ≤ y98b := Nat.le_trans K0.1 sz0_y98b
   replace E_b23 := E_b23.keep K98
   replace F_b23_s := F_b23_s.keep K98 nin0
   replace F_b23_p := F_b23_p.keep K98 nin0
   replace V_y24 := V_y24.keep K98 nin0
   replace Z0 := Nat.le_trans Z0 K98.1
   replace K0 := K0.trans K98 all0
   have V_y98 := Q98_0
   have E_y98b := Q98_1
   have V_y98a := Q98_2
   have E_y98a := Q98_3
   have F_y98b_a := Q98_4
   have F_y98b_t := Q98_5
   have N98 := Fr.app N27 N98q
   show Go _ _ _ (T98.setTop (mkF m 493 #[vj q1, .second, vj q2, .second, vj q3, .second, vi p4, vi p5, vi fa, vi ta, vi g1, vi u1, vi g2, vi u3, vi (p5 &&& (3 : Int32)), vi kf, vi pt, vi pf, vi x18, vi x19, vi x20, vi (((1 : Int32) + da) + db), vi xin, vi ((ca + cb) + cc), vi m3, vr b23, us, us, us] [(.ref y98b)])) _
   exact J28 _ _ _ y98b y98 y98a k_y98 k_y98a (pre (8 : Int32) (7 : Int32) (pre (7 : Int32) (6 : Int32) (pre (6 : Int32) (5 : Int32) (pre (5 : Int32) (4 : Int32) (pre (4 : Int32) (3 : Int32) (pre (3 : Int32) (2 : Int32) (pre (2 : Int32) (1 : Int32) (pre (1 : Int32) (0 : Int32) (bump (gi (f10_a1_2 (pk fa ta) (pk g1 u1) (pk g2 u3))) (bump (gi (f10_a1_1 (pk fa ta) (pk g1 u1) (pk g2 u3))) (bump (gi (f10_a1_0 (pk fa ta) (pk g1 u1) (pk g2 u3))) z9))))))))))) [((f10_a1_0 (pk fa ta) (pk g1 u1) (pk g2 u3)).toInt32), ((f10_a1_1 (pk fa ta) (pk g1 u1) (pk g2 u3)).toInt32), ((f10_a1_2 (pk fa ta) (pk g1 u1) (pk g2 u3)).toInt32)] (3 : Int32) (own_stm X98 (by decide) (by decide)) e98 N98 K0 Z0 (Or.inr (Or.inr (Or.inr ⟨hc92, hc96, rfl, rfl, rfl⟩))) E_y98b F_y98b_a F_y98b_t V_y98 V_y98a
theorem rm0 (l : Launch) (Z : State) (a0 : Array Value) (hw : HW a0 Z) (ws : List Jvm.Cond) (q1 : Int64) (q2 : Int64) (q3 : Int64) (p4 : Int32) (p5 : Int32) (h0 : Heap) (n0 : Nat) (Z0 : n0 ≤ h0.size) :
  MetFree l x (head1 (Jvm.Cond.code x code maxLocals ret :: ws) room_1) (Pr Z h0 #[(.long q1), (.long q2), (.long q3), (.int p4), (.int p5)]) Tr (fun _ U o U' => ∃ v L, o = .returned v ∧ Q0 Z q1 q2 q3 p4 p5 h0 n0 v U'.heap L ∧ FrameEnd U o U' L 24 192) := by
 refine MetFree.of_bodySF (plainFor_of_name pn5) hisR ?_
 intro p e s m args below meth c s₁ Bd hml0 hP hK
 obtain ⟨rfl, hZ, hh⟩ := hP
 have hx := Bd.exec
 have hby := Bd.bytes
 have hml : c.maxLocals = 29 := hml0
 have hown : s.vm.findClass "com/example/tripletype/tripletype/BuilderAddPinLaw" = some m.cls := findClass_of_methodNamed Bd.named
 have hnm := (name_of_methodNamed Bd.named Bd.method).1
 have X0 : Stand p l e room_1 s m #[(.long q1), (.long q2), (.long q3), (.int p4), (.int p5)] below meth c s₁ [] 0 0 := Stand.of_body Bd
 have e0 : s₁.heap = h0 := by rw [← hh, Bd.state]; rfl
 have N0 := Fr.nil n0
 have K0 : Keep h0 h0 [] := Keep.refl h0 _
 refine G (P := fun o U' => ∃ v L, o = .returned v ∧ Q0 Z q1 q2 q3 p4 p5 h0 n0 v U'.heap L ∧ FrameEnd s o U' L 24 192) (fun t k => castTop (ef0 m q1 q2 q3 p4 p5) k) ?_
 show Go _ _ _ (s₁.setTop (mkF m 0 #[vj q1, .second, vj q2, .second, vj q3, .second, vi p4, vi p5, us, us, us, us, us, us, us, us, us, us, us, us, us, us, us, us, us, us, us, us, us] [])) _
 refine G (fun t k => XS.lloadN X0.here hx rfl (hb hby at_0) rfl (XS.bipush X0.here hx rfl (hb hby at_1) (XS.lushr X0.here hx rfl (hb hby at_3) rfl (XS.l2i X0.here hx rfl (hb hby at_4) rfl (XS.bipush X0.here hx rfl (hb hby at_5) (XS.iand X0.here hx rfl (hb hby at_7) rfl k)))))) ?_
 refine G (fun t k => XS.istore X0.here hx rfl (hb hby at_8) rfl (l' := #[vj q1, .second, vj q2, .second, vj q3, .second, vi p4, vi p5, vi ((((q1.toUInt64 >>> ((32 : Int32) &&& 0x3f).toInt64.toUInt64).toInt64).toInt32) &&& (7 : Int32)), us, us, us, us, us, us, us, us, us, us, us, us, us, us, us, us, us, us, us, us]) rfl k) ?_
 show Go _ _ _ (s₁.setTop (mkF m 10 #[vj q1, .second, vj q2, .second, vj q3, .second, vi p4, vi p5, vi ((((q1.toUInt64 >>> ((32 : Int32) &&& 0x3f).toInt64.toUInt64).toInt64).toInt32) &&& (7 : Int32)), us, us, us, us, us, us, us, us, us, us, us, us, us, us, us, us, us, us, us, us] [])) _
 refine G (fun t k => XS.lloadN X0.here hx rfl (hb hby at_10) rfl (XS.l2i X0.here hx rfl (hb hby at_11) rfl (X0.ldcInt hx hown (mvT hZ (wd0 hw)) (g := (mkF m 12 #[vj q1, .second, vj q2, .second, vj q3, .second, vi p4, vi p5, vi ((((q1.toUInt64 >>> ((32 : Int32) &&& 0x3f).toInt64.toUInt64).toInt64).toInt32) &&& (7 : Int32)), us, us, us, us, us, us, us, us, us, us, us, us, us, us, us, us, us, us, us, us] [(.int (q1.toInt32))])) rfl (hb hby at_12) _ (XS.iand X0.here hx rfl (hb hby at_14) rfl (XS.istore X0.here hx rfl (hb hby at_15) rfl (l' := #[vj q1, .second, vj q2, .second, vj q3, .second, vi p4, vi p5, vi ((((q1.toUInt64 >>> ((32 : Int32) &&& 0x3f).toInt64.toUInt64).toInt64).toInt32) &&& (7 : Int32)), vi ((q1.toInt32) &&& (2147483647 : Int32)), us, us, us, us, us, us, us, us, us, us, us, us, us, us, us, us, us, us, us]) rfl (XS.lloadN X0.here hx rfl (hb hby at_17) rfl k)))))) ?_
 refine G (fun t k => XS.bipush X0.here hx rfl (hb hby at_18) k) ?_
 show Go _ _ _ (s₁.setTop (mkF m 20 #[vj q1, .second, vj q2, .second, vj q3, .second, vi p4, vi p5, vi ((((q1.toUInt64 >>> ((32 : Int32) &&& 0x3f).toInt64.toUInt64).toInt64).toInt32) &&& (7 : Int32)), vi ((q1.toInt32) &&& (2147483647 : Int32)), us, us, us, us, us, us, us, us, us, us, us, us, us, us, us, us, us, us, us] [(.int 32), (.long q2)])) _
 refine G (fun t k => XS.lushr X0.here hx rfl (hb hby at_20) rfl (XS.l2i X0.here hx rfl (hb hby at_21) rfl (XS.bipush X0.here hx rfl (hb hby at_22) (XS.iand X0.here hx rfl (hb hby at_24) rfl (XS.istore X0.here hx rfl (hb hby at_25) rfl (l' := #[vj q1, .second, vj q2, .second, vj q3, .second, vi p4, vi p5, vi ((((q1.toUInt64 >>> ((32 : Int32) &&& 0x3f).toInt64.toUInt64).toInt64).toInt32) &&& (7 : Int32)), vi ((q1.toInt32) &&& (2147483647 : Int32)), vi ((((q2.toUInt64 >>> ((32 : Int32) &&& 0x3f).toInt64.toUInt64).toInt64).toInt32) &&& (7 : Int32)), us, us, us, us, us, us, us, us, us, us, us, us, us, us, us, us, us, us]) rfl (XS.lloadN X0.here hx rfl (hb hby at_27) rfl k)))))) ?_
 refine G (fun t k => XS.l2i X0.here hx rfl (hb hby at_28) rfl k) ?_
 show Go _ _ _ (s₁.setTop (mkF m 29 #[vj q1, .second, vj q2, .second, vj q3, .second, vi p4, vi p5, vi ((((q1.toUInt64 >>> ((32 : Int32) &&& 0x3f).toInt64.toUInt64).toInt64).toInt32) &&& (7 : Int32)), vi ((q1.toInt32) &&& (2147483647 : Int32)), vi ((((q2.toUInt64 >>> ((32 : Int32) &&& 0x3f).toInt64.toUInt64).toInt64).toInt32) &&& (7 : Int32)), us, us, us, us, us, us, us, us, us, us, us, us, us, us, us, us, us, us] [(.int (q2.toInt32))])) _
 refine G (fun t k => X0.ldcInt hx hown (mvT hZ (wd0 hw)) (g := (mkF m 29 #[vj q1, .second, vj q2, .second, vj q3, .second, vi p4, vi p5, vi ((((q1.toUInt64 >>> ((32 : Int32) &&& 0x3f).toInt64.toUInt64).toInt64).toInt32) &&& (7 : Int32)), vi ((q1.toInt32) &&& (2147483647 : Int32)), vi ((((q2.toUInt64 >>> ((32 : Int32) &&& 0x3f).toInt64.toUInt64).toInt64).toInt32) &&& (7 : Int32)), us, us, us, us, us, us, us, us, us, us, us, us, us, us, us, us, us, us] [(.int (q2.toInt32))])) rfl (hb hby at_29) _ (XS.iand X0.here hx rfl (hb hby at_31) rfl (XS.istore X0.here hx rfl (hb hby at_32) rfl (l' := #[vj q1, .second, vj q2, .second, vj q3, .second, vi p4, vi p5, vi ((((q1.toUInt64 >>> ((32 : Int32) &&& 0x3f).toInt64.toUInt64).toInt64).toInt32) &&& (7 : Int32)), vi ((q1.toInt32) &&& (2147483647 : Int32)), vi ((((q2.toUInt64 >>> ((32 : Int32) &&& 0x3f).toInt64.toUInt64).toInt64).toInt32) &&& (7 : Int32)), vi ((q2.toInt32) &&& (2147483647 : Int32)), us, us, us, us, us, us, us, us, us, us, us, us, us, us, us, us, us]) rfl (XS.lload X0.here hx rfl (hb hby at_34) rfl (XS.bipush X0.here hx rfl (hb hby at_36) (XS.lushr X0.here hx rfl (hb hby at_38) rfl k)))))) ?_
 refine G (fun t k => XS.l2i X0.here hx rfl (hb hby at_39) rfl k) ?_
 show Go _ _ _ (s₁.setTop (mkF m 40 #[vj q1, .second, vj q2, .second, vj q3, .second, vi p4, vi p5, vi ((((q1.toUInt64 >>> ((32 : Int32) &&& 0x3f).toInt64.toUInt64).toInt64).toInt32) &&& (7 : Int32)), vi ((q1.toInt32) &&& (2147483647 : Int32)), vi ((((q2.toUInt64 >>> ((32 : Int32) &&& 0x3f).toInt64.toUInt64).toInt64).toInt32) &&& (7 : Int32)), vi ((q2.toInt32) &&& (2147483647 : Int32)), us, us, us, us, us, us, us, us, us, us, us, us, us, us, us, us, us] [(.int (((q3.toUInt64 >>> ((32 : Int32) &&& 0x3f).toInt64.toUInt64).toInt64).toInt32))])) _
 refine G (fun t k => XS.bipush X0.here hx rfl (hb hby at_40) (XS.iand X0.here hx rfl (hb hby at_42) rfl (XS.istore X0.here hx rfl (hb hby at_43) rfl (l' := #[vj q1, .second, vj q2, .second, vj q3, .second, vi p4, vi p5, vi ((((q1.toUInt64 >>> ((32 : Int32) &&& 0x3f).toInt64.toUInt64).toInt64).toInt32) &&& (7 : Int32)), vi ((q1.toInt32) &&& (2147483647 : Int32)), vi ((((q2.toUInt64 >>> ((32 : Int32) &&& 0x3f).toInt64.toUInt64).toInt64).toInt32) &&& (7 : Int32)), vi ((q2.toInt32) &&& (2147483647 : Int32)), vi ((((q3.toUInt64 >>> ((32 : Int32) &&& 0x3f).toInt64.toUInt64).toInt64).toInt32) &&& (7 : Int32)), us, us, us, us, us, us, us, us, us, us, us, us, us, us, us, us]) rfl (XS.lload X0.here hx rfl (hb hby at_45) rfl (XS.l2i X0.here hx rfl (hb hby at_47) rfl (X0.ldcInt hx hown (mvT hZ (wd0 hw)) (g := (mkF m 48 #[vj q1, .second, vj q2, .second, vj q3, .second, vi p4, vi p5, vi ((((q1.toUInt64 >>> ((32 : Int32) &&& 0x3f).toInt64.toUInt64).toInt64).toInt32) &&& (7 : Int32)), vi ((q1.toInt32) &&& (2147483647 : Int32)), vi ((((q2.toUInt64 >>> ((32 : Int32) &&& 0x3f).toInt64.toUInt64).toInt64).toInt32) &&& (7 : Int32)), vi ((q2.toInt32) &&& (2147483647 : Int32)), vi ((((q3.toUInt64 >>> ((32 : Int32) &&& 0x3f).toInt64.toUInt64).toInt64).toInt32) &&& (7 : Int32)), us, us, us, us, us, us, us, us, us, us, us, us, us, us, us, us] [(.int (q3.toInt32))])) rfl (hb hby at_48) _ k)))))) ?_
 refine G (fun t k => XS.iand X0.here hx rfl (hb hby at_50) rfl k) ?_
 show Go _ _ _ (s₁.setTop (mkF m 51 #[vj q1, .second, vj q2, .second, vj q3, .second, vi p4, vi p5, vi ((((q1.toUInt64 >>> ((32 : Int32) &&& 0x3f).toInt64.toUInt64).toInt64).toInt32) &&& (7 : Int32)), vi ((q1.toInt32) &&& (2147483647 : Int32)), vi ((((q2.toUInt64 >>> ((32 : Int32) &&& 0x3f).toInt64.toUInt64).toInt64).toInt32) &&& (7 : Int32)), vi ((q2.toInt32) &&& (2147483647 : Int32)), vi ((((q3.toUInt64 >>> ((32 : Int32) &&& 0x3f).toInt64.toUInt64).toInt64).toInt32) &&& (7 : Int32)), us, us, us, us, us, us, us, us, us, us, us, us, us, us, us, us] [(.int ((q3.toInt32) &&& (2147483647 : Int32)))])) _
 refine G (fun t k => XS.istore X0.here hx rfl (hb hby at_51) rfl (l' := #[vj q1, .second, vj q2, .second, vj q3, .second, vi p4, vi p5, vi ((((q1.toUInt64 >>> ((32 : Int32) &&& 0x3f).toInt64.toUInt64).toInt64).toInt32) &&& (7 : Int32)), vi ((q1.toInt32) &&& (2147483647 : Int32)), vi ((((q2.toUInt64 >>> ((32 : Int32) &&& 0x3f).toInt64.toUInt64).toInt64).toInt32) &&& (7 : Int32)), vi ((q2.toInt32) &&& (2147483647 : Int32)), vi ((((q3.toUInt64 >>> ((32 : Int32) &&& 0x3f).toInt64.toUInt64).toInt64).toInt32) &&& (7 : Int32)), vi ((q3.toInt32) &&& (2147483647 : Int32)), us, us, us, us, us, us, us, us, us, us, us, us, us, us, us]) rfl k) ?_
 show Go _ _ _ (s₁.setTop (mkF m 53 #[vj q1, .second, vj q2, .second, vj q3, .second, vi p4, vi p5, vi ((((q1.toUInt64 >>> ((32 : Int32) &&& 0x3f).toInt64.toUInt64).toInt64).toInt32) &&& (7 : Int32)), vi ((q1.toInt32) &&& (2147483647 : Int32)), vi ((((q2.toUInt64 >>> ((32 : Int32) &&& 0x3f).toInt64.toUInt64).toInt64).toInt32) &&& (7 : Int32)), vi ((q2.toInt32) &&& (2147483647 : Int32)), vi ((((q3.toUInt64 >>> ((32 : Int32) &&& 0x3f).toInt64.toUInt64).toInt64).toInt32) &&& (7 : Int32)), vi ((q3.toInt32) &&& (2147483647 : Int32)), us, us, us, us, us, us, us, us, us, us, us, us, us, us, us] [])) _
 have J1 : ∀ (TJ : State) (locsJ : List Loc) (fa : Int32) (ta : Int32) (fb : Int32) (tb : Int32) (fc : Int32) (tc : Int32), Stand p l e room_1 s m #[(.long q1), (.long q2), (.long q3), (.int p4), (.int p5)] below meth c TJ locsJ 0 0 → TJ.heap = h0 → Fr n0 locsJ → (0 ≤ fa.toInt ∧ fa.toInt ≤ 7) → (0 ≤ ta.toInt) → (0 ≤ fb.toInt ∧ fb.toInt ≤ 7) → (0 ≤ tb.toInt) → (0 ≤ fc.toInt ∧ fc.toInt ≤ 7) → (0 ≤ tc.toInt) → Go p.tables e below (TJ.setTop (mkF m 53 #[vj q1, .second, vj q2, .second, vj q3, .second, vi p4, vi p5, vi fa, vi ta, vi fb, vi tb, vi fc, vi tc, us, us, us, us, us, us, us, us, us, us, us, us, us, us, us] [])) (fun o U' => ∃ v L, o = .returned v ∧ Q0 Z q1 q2 q3 p4 p5 h0 n0 v U'.heap L ∧ FrameEnd s o U' L 24 192) := by
  intro TJ locsJ fa ta fb tb fc tc XJ eJ NJ r_fa r_ta r_fb r_tb r_fc r_tc
  have J2 : ∀ (TJ : State) (locsJ : List Loc) (u1 : Int32), Stand p l e room_1 s m #[(.long q1), (.long q2), (.long q3), (.int p4), (.int p5)] below meth c TJ locsJ 0 0 → TJ.heap = h0 → Fr n0 locsJ → (0 ≤ u1.toInt) → Go p.tables e below (TJ.setTop (mkF m 64 #[vj q1, .second, vj q2, .second, vj q3, .second, vi p4, vi p5, vi fa, vi ta, vi fb, vi u1, vi fc, vi tc, us, us, us, us, us, us, us, us, us, us, us, us, us, us, us] [])) (fun o U' => ∃ v L, o = .returned v ∧ Q0 Z q1 q2 q3 p4 p5 h0 n0 v U'.heap L ∧ FrameEnd s o U' L 24 192) := by
   intro TJ locsJ u1 XJ eJ NJ r_u1
   have J3 : ∀ (TJ : State) (locsJ : List Loc) (u2 : Int32), Stand p l e room_1 s m #[(.long q1), (.long q2), (.long q3), (.int p4), (.int p5)] below meth c TJ locsJ 0 0 → TJ.heap = h0 → Fr n0 locsJ → (0 ≤ u2.toInt) → Go p.tables e below (TJ.setTop (mkF m 75 #[vj q1, .second, vj q2, .second, vj q3, .second, vi p4, vi p5, vi fa, vi ta, vi fb, vi u1, vi fc, vi u2, us, us, us, us, us, us, us, us, us, us, us, us, us, us, us] [])) (fun o U' => ∃ v L, o = .returned v ∧ Q0 Z q1 q2 q3 p4 p5 h0 n0 v U'.heap L ∧ FrameEnd s o U' L 24 192) := by
    intro TJ locsJ u2 XJ eJ NJ r_u2
    have J4 : ∀ (TJ : State) (locsJ : List Loc) (u3 : Int32), Stand p l e room_1 s m #[(.long q1), (.long q2), (.long q3), (.int p4), (.int p5)] below meth c TJ locsJ 0 0 → TJ.heap = h0 → Fr n0 locsJ → (0 ≤ u3.toInt) → Go p.tables e below (TJ.setTop (mkF m 86 #[vj q1, .second, vj q2, .second, vj q3, .second, vi p4, vi p5, vi fa, vi ta, vi fb, vi u1, vi fc, vi u3, us, us, us, us, us, us, us, us, us, us, us, us, us, us, us] [])) (fun o U' => ∃ v L, o = .returned v ∧ Q0 Z q1 q2 q3 p4 p5 h0 n0 v U'.heap L ∧ FrameEnd s o U' L 24 192) := by
     intro TJ locsJ u3 XJ eJ NJ r_u3
     have J5 : ∀ (TJ : State) (locsJ : List Loc) (g1 : Int32), Stand p l e room_1 s m #[(.long q1), (.long q2), (.long q3), (.int p4), (.int p5)] below meth c TJ locsJ 0 0 → TJ.heap = h0 → Fr n0 locsJ → (0 ≤ g1.toInt ∧ g1.toInt ≤ 7) → Go p.tables e below (TJ.setTop (mkF m 98 #[vj q1, .second, vj q2, .second, vj q3, .second, vi p4, vi p5, vi fa, vi ta, vi g1, vi u1, vi fc, vi u3, us, us, us, us, us, us, us, us, us, us, us, us, us, us, us] [])) (fun o U' => ∃ v L, o = .returned v ∧ Q0 Z q1 q2 q3 p4 p5 h0 n0 v U'.heap L ∧ FrameEnd s o U' L 24 192) := by
      intro TJ locsJ g1 XJ eJ NJ r_g1
      have J6 : ∀ (TJ : State) (locsJ : List Loc) (g2 : Int32), Stand p l e room_1 s m #[(.long q1), (.long q2), (.long q3), (.int p4), (.int p5)] below meth c TJ locsJ 0 0 → TJ.heap = h0 → Fr n0 locsJ → (0 ≤ g2.toInt ∧ g2.toInt ≤ 7) → Go p.tables e below (TJ.setTop (mkF m 110 #[vj q1, .second, vj q2, .second, vj q3, .second, vi p4, vi p5, vi fa, vi ta, vi g1, vi u1, vi g2, vi u3, us, us, us, us, us, us, us, us, us, us, us, us, us, us, us] [])) (fun o U' => ∃ v L, o = .returned v ∧ Q0 Z q1 q2 q3 p4 p5 h0 n0 v U'.heap L ∧ FrameEnd s o U' L 24 192) := by
       intro TJ locsJ g2 XJ eJ NJ r_g2
       refine G (fun t k => XS.iload XJ.here hx rfl (hb hby at_110) rfl (XS.iconst XJ.here hx rfl (hb hby at_112) (XS.iand XJ.here hx rfl (hb hby at_113) rfl (XS.istore XJ.here hx rfl (hb hby at_114) rfl (l' := #[vj q1, .second, vj q2, .second, vj q3, .second, vi p4, vi p5, vi fa, vi ta, vi g1, vi u1, vi g2, vi u3, vi (p5 &&& (3 : Int32)), us, us, us, us, us, us, us, us, us, us, us, us, us, us]) rfl k)))) ?_
       show Go _ _ _ (TJ.setTop (mkF m 116 #[vj q1, .second, vj q2, .second, vj q3, .second, vi p4, vi p5, vi fa, vi ta, vi g1, vi u1, vi g2, vi u3, vi (p5 &&& (3 : Int32)), us, us, us, us, us, us, us, us, us, us, us, us, us, us] [])) _
       have J7 : ∀ (TJ : State) (locsJ : List Loc) (kf : Int32), Stand p l e room_1 s m #[(.long q1), (.long q2), (.long q3), (.int p4), (.int p5)] below meth c TJ locsJ 0 0 → TJ.heap = h0 → Fr n0 locsJ → (0 ≤ kf.toInt ∧ kf.toInt ≤ 7) → Go p.tables e below (TJ.setTop (mkF m 139 #[vj q1, .second, vj q2, .second, vj q3, .second, vi p4, vi p5, vi fa, vi ta, vi g1, vi u1, vi g2, vi u3, vi (p5 &&& (3 : Int32)), us, us, us, us, us, us, us, us, us, us, us, us, us, us] [(.int kf)])) (fun o U' => ∃ v L, o = .returned v ∧ Q0 Z q1 q2 q3 p4 p5 h0 n0 v U'.heap L ∧ FrameEnd s o U' L 24 192) := by
        intro TJ locsJ kf XJ eJ NJ r_kf
        refine G (fun t k => XS.istore XJ.here hx rfl (hb hby at_139) rfl (l' := #[vj q1, .second, vj q2, .second, vj q3, .second, vi p4, vi p5, vi fa, vi ta, vi g1, vi u1, vi g2, vi u3, vi (p5 &&& (3 : Int32)), vi kf, us, us, us, us, us, us, us, us, us, us, us, us, us]) rfl k) ?_
        show Go _ _ _ (TJ.setTop (mkF m 141 #[vj q1, .second, vj q2, .second, vj q3, .second, vi p4, vi p5, vi fa, vi ta, vi g1, vi u1, vi g2, vi u3, vi (p5 &&& (3 : Int32)), vi kf, us, us, us, us, us, us, us, us, us, us, us, us, us] [])) _
        have J8 : ∀ (TJ : State) (locsJ : List Loc) (pt : Int32), Stand p l e room_1 s m #[(.long q1), (.long q2), (.long q3), (.int p4), (.int p5)] below meth c TJ locsJ 0 0 → TJ.heap = h0 → Fr n0 locsJ → Go p.tables e below (TJ.setTop (mkF m 178 #[vj q1, .second, vj q2, .second, vj q3, .second, vi p4, vi p5, vi fa, vi ta, vi g1, vi u1, vi g2, vi u3, vi (p5 &&& (3 : Int32)), vi kf, us, us, us, us, us, us, us, us, us, us, us, us, us] [(.int pt)])) (fun o U' => ∃ v L, o = .returned v ∧ Q0 Z q1 q2 q3 p4 p5 h0 n0 v U'.heap L ∧ FrameEnd s o U' L 24 192) := by
         intro TJ locsJ pt XJ eJ NJ
         refine G (fun t k => XS.istore XJ.here hx rfl (hb hby at_178) rfl (l' := #[vj q1, .second, vj q2, .second, vj q3, .second, vi p4, vi p5, vi fa, vi ta, vi g1, vi u1, vi g2, vi u3, vi (p5 &&& (3 : Int32)), vi kf, vi pt, us, us, us, us, us, us, us, us, us, us, us, us]) rfl k) ?_
         show Go _ _ _ (TJ.setTop (mkF m 180 #[vj q1, .second, vj q2, .second, vj q3, .second, vi p4, vi p5, vi fa, vi ta, vi g1, vi u1, vi g2, vi u3, vi (p5 &&& (3 : Int32)), vi kf, vi pt, us, us, us, us, us, us, us, us, us, us, us, us] [])) _
         have J9 : ∀ (TJ : State) (locsJ : List Loc) (pf : Int32), Stand p l e room_1 s m #[(.long q1), (.long q2), (.long q3), (.int p4), (.int p5)] below meth c TJ locsJ 0 0 → TJ.heap = h0 → Fr n0 locsJ → (0 ≤ pf.toInt ∧ pf.toInt ≤ 7) → Go p.tables e below (TJ.setTop (mkF m 199 #[vj q1, .second, vj q2, .second, vj q3, .second, vi p4, vi p5, vi fa, vi ta, vi g1, vi u1, vi g2, vi u3, vi (p5 &&& (3 : Int32)), vi kf, vi pt, us, us, us, us, us, us, us, us, us, us, us, us] [(.int pf)])) (fun o U' => ∃ v L, o = .returned v ∧ Q0 Z q1 q2 q3 p4 p5 h0 n0 v U'.heap L ∧ FrameEnd s o U' L 24 192) := by
          intro TJ locsJ pf XJ eJ NJ r_pf
          refine G (fun t k => XS.istore XJ.here hx rfl (hb hby at_199) rfl (l' := #[vj q1, .second, vj q2, .second, vj q3, .second, vi p4, vi p5, vi fa, vi ta, vi g1, vi u1, vi g2, vi u3, vi (p5 &&& (3 : Int32)), vi kf, vi pt, vi pf, us, us, us, us, us, us, us, us, us, us, us]) rfl k) ?_
          show Go _ _ _ (TJ.setTop (mkF m 201 #[vj q1, .second, vj q2, .second, vj q3, .second, vi p4, vi p5, vi fa, vi ta, vi g1, vi u1, vi g2, vi u3, vi (p5 &&& (3 : Int32)), vi kf, vi pt, vi pf, us, us, us, us, us, us, us, us, us, us, us] [])) _
          have J10 : ∀ (TJ : State) (locsJ : List Loc) (x18 : Int32), Stand p l e room_1 s m #[(.long q1), (.long q2), (.long q3), (.int p4), (.int p5)] below meth c TJ locsJ 0 0 → TJ.heap = h0 → Fr n0 locsJ → (x18 = if ((fa = g1) ∧ (ta = u1)) then (1 : Int32) else (0 : Int32)) → Go p.tables e below (TJ.setTop (mkF m 220 #[vj q1, .second, vj q2, .second, vj q3, .second, vi p4, vi p5, vi fa, vi ta, vi g1, vi u1, vi g2, vi u3, vi (p5 &&& (3 : Int32)), vi kf, vi pt, vi pf, us, us, us, us, us, us, us, us, us, us, us] [(.int x18)])) (fun o U' => ∃ v L, o = .returned v ∧ Q0 Z q1 q2 q3 p4 p5 h0 n0 v U'.heap L ∧ FrameEnd s o U' L 24 192) := by
           intro TJ locsJ x18 XJ eJ NJ h_x18
           refine G (fun t k => XS.istore XJ.here hx rfl (hb hby at_220) rfl (l' := #[vj q1, .second, vj q2, .second, vj q3, .second, vi p4, vi p5, vi fa, vi ta, vi g1, vi u1, vi g2, vi u3, vi (p5 &&& (3 : Int32)), vi kf, vi pt, vi pf, vi x18, us, us, us, us, us, us, us, us, us, us]) rfl k) ?_
           show Go _ _ _ (TJ.setTop (mkF m 222 #[vj q1, .second, vj q2, .second, vj q3, .second, vi p4, vi p5, vi fa, vi ta, vi g1, vi u1, vi g2, vi u3, vi (p5 &&& (3 : Int32)), vi kf, vi pt, vi pf, vi x18, us, us, us, us, us, us, us, us, us, us] [])) _
           have J11 : ∀ (TJ : State) (locsJ : List Loc) (x19 : Int32), Stand p l e room_1 s m #[(.long q1), (.long q2), (.long q3), (.int p4), (.int p5)] below meth c TJ locsJ 0 0 → TJ.heap = h0 → Fr n0 locsJ → (x19 = if ((fa = g2) ∧ (ta = u3)) then (1 : Int32) else (0 : Int32)) → Go p.tables e below (TJ.setTop (mkF m 241 #[vj q1, .second, vj q2, .second, vj q3, .second, vi p4, vi p5, vi fa, vi ta, vi g1, vi u1, vi g2, vi u3, vi (p5 &&& (3 : Int32)), vi kf, vi pt, vi pf, vi x18, us, us, us, us, us, us, us, us, us, us] [(.int x19)])) (fun o U' => ∃ v L, o = .returned v ∧ Q0 Z q1 q2 q3 p4 p5 h0 n0 v U'.heap L ∧ FrameEnd s o U' L 24 192) := by
            intro TJ locsJ x19 XJ eJ NJ h_x19
            refine G (fun t k => XS.istore XJ.here hx rfl (hb hby at_241) rfl (l' := #[vj q1, .second, vj q2, .second, vj q3, .second, vi p4, vi p5, vi fa, vi ta, vi g1, vi u1, vi g2, vi u3, vi (p5 &&& (3 : Int32)), vi kf, vi pt, vi pf, vi x18, vi x19, us, us, us, us, us, us, us, us, us]) rfl k) ?_
            show Go _ _ _ (TJ.setTop (mkF m 243 #[vj q1, .second, vj q2, .second, vj q3, .second, vi p4, vi p5, vi fa, vi ta, vi g1, vi u1, vi g2, vi u3, vi (p5 &&& (3 : Int32)), vi kf, vi pt, vi pf, vi x18, vi x19, us, us, us, us, us, us, us, us, us] [])) _
            have J12 : ∀ (TJ : State) (locsJ : List Loc) (x20 : Int32), Stand p l e room_1 s m #[(.long q1), (.long q2), (.long q3), (.int p4), (.int p5)] below meth c TJ locsJ 0 0 → TJ.heap = h0 → Fr n0 locsJ → (x20 = if ((g1 = g2) ∧ (u1 = u3)) then (1 : Int32) else (0 : Int32)) → Go p.tables e below (TJ.setTop (mkF m 262 #[vj q1, .second, vj q2, .second, vj q3, .second, vi p4, vi p5, vi fa, vi ta, vi g1, vi u1, vi g2, vi u3, vi (p5 &&& (3 : Int32)), vi kf, vi pt, vi pf, vi x18, vi x19, us, us, us, us, us, us, us, us, us] [(.int x20)])) (fun o U' => ∃ v L, o = .returned v ∧ Q0 Z q1 q2 q3 p4 p5 h0 n0 v U'.heap L ∧ FrameEnd s o U' L 24 192) := by
             intro TJ locsJ x20 XJ eJ NJ h_x20
             refine G (fun t k => XS.istore XJ.here hx rfl (hb hby at_262) rfl (l' := #[vj q1, .second, vj q2, .second, vj q3, .second, vi p4, vi p5, vi fa, vi ta, vi g1, vi u1, vi g2, vi u3, vi (p5 &&& (3 : Int32)), vi kf, vi pt, vi pf, vi x18, vi x19, vi x20, us, us, us, us, us, us, us, us]) rfl (XS.iconst XJ.here hx rfl (hb hby at_264) k)) ?_
             show Go _ _ _ (TJ.setTop (mkF m 265 #[vj q1, .second, vj q2, .second, vj q3, .second, vi p4, vi p5, vi fa, vi ta, vi g1, vi u1, vi g2, vi u3, vi (p5 &&& (3 : Int32)), vi kf, vi pt, vi pf, vi x18, vi x19, vi x20, us, us, us, us, us, us, us, us] [(.int 1)])) _
             have J13 : ∀ (TJ : State) (locsJ : List Loc) (da : Int32), Stand p l e room_1 s m #[(.long q1), (.long q2), (.long q3), (.int p4), (.int p5)] below meth c TJ locsJ 0 0 → TJ.heap = h0 → Fr n0 locsJ → (da = if (x18 = (0 : Int32)) then (1 : Int32) else (0 : Int32)) → Go p.tables e below (TJ.setTop (mkF m 275 #[vj q1, .second, vj q2, .second, vj q3, .second, vi p4, vi p5, vi fa, vi ta, vi g1, vi u1, vi g2, vi u3, vi (p5 &&& (3 : Int32)), vi kf, vi pt, vi pf, vi x18, vi x19, vi x20, us, us, us, us, us, us, us, us] [(.int da), (.int 1)])) (fun o U' => ∃ v L, o = .returned v ∧ Q0 Z q1 q2 q3 p4 p5 h0 n0 v U'.heap L ∧ FrameEnd s o U' L 24 192) := by
              intro TJ locsJ da XJ eJ NJ h_da
              refine G (fun t k => XS.iadd XJ.here hx rfl (hb hby at_275) rfl k) ?_
              show Go _ _ _ (TJ.setTop (mkF m 276 #[vj q1, .second, vj q2, .second, vj q3, .second, vi p4, vi p5, vi fa, vi ta, vi g1, vi u1, vi g2, vi u3, vi (p5 &&& (3 : Int32)), vi kf, vi pt, vi pf, vi x18, vi x19, vi x20, us, us, us, us, us, us, us, us] [(.int ((1 : Int32) + da))])) _
              have J14 : ∀ (TJ : State) (locsJ : List Loc) (db : Int32), Stand p l e room_1 s m #[(.long q1), (.long q2), (.long q3), (.int p4), (.int p5)] below meth c TJ locsJ 0 0 → TJ.heap = h0 → Fr n0 locsJ → (db = if ((x19 = (0 : Int32)) ∧ (x20 = (0 : Int32))) then (1 : Int32) else (0 : Int32)) → Go p.tables e below (TJ.setTop (mkF m 291 #[vj q1, .second, vj q2, .second, vj q3, .second, vi p4, vi p5, vi fa, vi ta, vi g1, vi u1, vi g2, vi u3, vi (p5 &&& (3 : Int32)), vi kf, vi pt, vi pf, vi x18, vi x19, vi x20, us, us, us, us, us, us, us, us] [(.int db), (.int ((1 : Int32) + da))])) (fun o U' => ∃ v L, o = .returned v ∧ Q0 Z q1 q2 q3 p4 p5 h0 n0 v U'.heap L ∧ FrameEnd s o U' L 24 192) := by
               intro TJ locsJ db XJ eJ NJ h_db
               refine G (fun t k => XS.iadd XJ.here hx rfl (hb hby at_291) rfl (XS.istore XJ.here hx rfl (hb hby at_292) rfl (l' := #[vj q1, .second, vj q2, .second, vj q3, .second, vi p4, vi p5, vi fa, vi ta, vi g1, vi u1, vi g2, vi u3, vi (p5 &&& (3 : Int32)), vi kf, vi pt, vi pf, vi x18, vi x19, vi x20, vi (((1 : Int32) + da) + db), us, us, us, us, us, us, us]) rfl k)) ?_
               show Go _ _ _ (TJ.setTop (mkF m 294 #[vj q1, .second, vj q2, .second, vj q3, .second, vi p4, vi p5, vi fa, vi ta, vi g1, vi u1, vi g2, vi u3, vi (p5 &&& (3 : Int32)), vi kf, vi pt, vi pf, vi x18, vi x19, vi x20, vi (((1 : Int32) + da) + db), us, us, us, us, us, us, us] [])) _
               have J15 : ∀ (TJ : State) (locsJ : List Loc) (xin : Int32), Stand p l e room_1 s m #[(.long q1), (.long q2), (.long q3), (.int p4), (.int p5)] below meth c TJ locsJ 0 0 → TJ.heap = h0 → Fr n0 locsJ → (xin = if (((pf = fa) ∧ (pt = ta)) ∨ (((pf = g1) ∧ (pt = u1)) ∨ ((pf = g2) ∧ (pt = u3)))) then (1 : Int32) else (0 : Int32)) → Go p.tables e below (TJ.setTop (mkF m 341 #[vj q1, .second, vj q2, .second, vj q3, .second, vi p4, vi p5, vi fa, vi ta, vi g1, vi u1, vi g2, vi u3, vi (p5 &&& (3 : Int32)), vi kf, vi pt, vi pf, vi x18, vi x19, vi x20, vi (((1 : Int32) + da) + db), us, us, us, us, us, us, us] [(.int xin)])) (fun o U' => ∃ v L, o = .returned v ∧ Q0 Z q1 q2 q3 p4 p5 h0 n0 v U'.heap L ∧ FrameEnd s o U' L 24 192) := by
                intro TJ locsJ xin XJ eJ NJ h_xin
                refine G (fun t k => XS.istore XJ.here hx rfl (hb hby at_341) rfl (l' := #[vj q1, .second, vj q2, .second, vj q3, .second, vi p4, vi p5, vi fa, vi ta, vi g1, vi u1, vi g2, vi u3, vi (p5 &&& (3 : Int32)), vi kf, vi pt, vi pf, vi x18, vi x19, vi x20, vi (((1 : Int32) + da) + db), vi xin, us, us, us, us, us, us]) rfl k) ?_
                show Go _ _ _ (TJ.setTop (mkF m 343 #[vj q1, .second, vj q2, .second, vj q3, .second, vi p4, vi p5, vi fa, vi ta, vi g1, vi u1, vi g2, vi u3, vi (p5 &&& (3 : Int32)), vi kf, vi pt, vi pf, vi x18, vi x19, vi x20, vi (((1 : Int32) + da) + db), vi xin, us, us, us, us, us, us] [])) _
                have J16 : ∀ (TJ : State) (locsJ : List Loc) (ca : Int32), Stand p l e room_1 s m #[(.long q1), (.long q2), (.long q3), (.int p4), (.int p5)] below meth c TJ locsJ 0 0 → TJ.heap = h0 → Fr n0 locsJ → (ca = if (fa = pf) then (1 : Int32) else (0 : Int32)) → Go p.tables e below (TJ.setTop (mkF m 355 #[vj q1, .second, vj q2, .second, vj q3, .second, vi p4, vi p5, vi fa, vi ta, vi g1, vi u1, vi g2, vi u3, vi (p5 &&& (3 : Int32)), vi kf, vi pt, vi pf, vi x18, vi x19, vi x20, vi (((1 : Int32) + da) + db), vi xin, us, us, us, us, us, us] [(.int ca)])) (fun o U' => ∃ v L, o = .returned v ∧ Q0 Z q1 q2 q3 p4 p5 h0 n0 v U'.heap L ∧ FrameEnd s o U' L 24 192) := by
                 intro TJ locsJ ca XJ eJ NJ h_ca
                 have J17 : ∀ (TJ : State) (locsJ : List Loc) (cb : Int32), Stand p l e room_1 s m #[(.long q1), (.long q2), (.long q3), (.int p4), (.int p5)] below meth c TJ locsJ 0 0 → TJ.heap = h0 → Fr n0 locsJ → (cb = if ((g1 = pf) ∧ (x18 = (0 : Int32))) then (1 : Int32) else (0 : Int32)) → Go p.tables e below (TJ.setTop (mkF m 372 #[vj q1, .second, vj q2, .second, vj q3, .second, vi p4, vi p5, vi fa, vi ta, vi g1, vi u1, vi g2, vi u3, vi (p5 &&& (3 : Int32)), vi kf, vi pt, vi pf, vi x18, vi x19, vi x20, vi (((1 : Int32) + da) + db), vi xin, us, us, us, us, us, us] [(.int cb), (.int ca)])) (fun o U' => ∃ v L, o = .returned v ∧ Q0 Z q1 q2 q3 p4 p5 h0 n0 v U'.heap L ∧ FrameEnd s o U' L 24 192) := by
                  intro TJ locsJ cb XJ eJ NJ h_cb
                  refine G (fun t k => XS.iadd XJ.here hx rfl (hb hby at_372) rfl k) ?_
                  show Go _ _ _ (TJ.setTop (mkF m 373 #[vj q1, .second, vj q2, .second, vj q3, .second, vi p4, vi p5, vi fa, vi ta, vi g1, vi u1, vi g2, vi u3, vi (p5 &&& (3 : Int32)), vi kf, vi pt, vi pf, vi x18, vi x19, vi x20, vi (((1 : Int32) + da) + db), vi xin, us, us, us, us, us, us] [(.int (ca + cb))])) _
                  have J18 : ∀ (TJ : State) (locsJ : List Loc) (cc : Int32), Stand p l e room_1 s m #[(.long q1), (.long q2), (.long q3), (.int p4), (.int p5)] below meth c TJ locsJ 0 0 → TJ.heap = h0 → Fr n0 locsJ → (cc = if ((g2 = pf) ∧ ((x19 = (0 : Int32)) ∧ (x20 = (0 : Int32)))) then (1 : Int32) else (0 : Int32)) → Go p.tables e below (TJ.setTop (mkF m 395 #[vj q1, .second, vj q2, .second, vj q3, .second, vi p4, vi p5, vi fa, vi ta, vi g1, vi u1, vi g2, vi u3, vi (p5 &&& (3 : Int32)), vi kf, vi pt, vi pf, vi x18, vi x19, vi x20, vi (((1 : Int32) + da) + db), vi xin, us, us, us, us, us, us] [(.int cc), (.int (ca + cb))])) (fun o U' => ∃ v L, o = .returned v ∧ Q0 Z q1 q2 q3 p4 p5 h0 n0 v U'.heap L ∧ FrameEnd s o U' L 24 192) := by
                   intro TJ locsJ cc XJ eJ NJ h_cc
                   refine G (fun t k => XS.iadd XJ.here hx rfl (hb hby at_395) rfl (XS.istore XJ.here hx rfl (hb hby at_396) rfl (l' := #[vj q1, .second, vj q2, .second, vj q3, .second, vi p4, vi p5, vi fa, vi ta, vi g1, vi u1, vi g2, vi u3, vi (p5 &&& (3 : Int32)), vi kf, vi pt, vi pf, vi x18, vi x19, vi x20, vi (((1 : Int32) + da) + db), vi xin, vi ((ca + cb) + cc), us, us, us, us, us]) rfl (XJ.ldcInt hx hown (mvT hZ (wd0 hw)) (g := (mkF m 398 #[vj q1, .second, vj q2, .second, vj q3, .second, vi p4, vi p5, vi fa, vi ta, vi g1, vi u1, vi g2, vi u3, vi (p5 &&& (3 : Int32)), vi kf, vi pt, vi pf, vi x18, vi x19, vi x20, vi (((1 : Int32) + da) + db), vi xin, vi ((ca + cb) + cc), us, us, us, us, us] [])) rfl (hb hby at_398) _ (XS.istore XJ.here hx rfl (hb hby at_400) rfl (l' := #[vj q1, .second, vj q2, .second, vj q3, .second, vi p4, vi p5, vi fa, vi ta, vi g1, vi u1, vi g2, vi u3, vi (p5 &&& (3 : Int32)), vi kf, vi pt, vi pf, vi x18, vi x19, vi x20, vi (((1 : Int32) + da) + db), vi xin, vi ((ca + cb) + cc), vi 2147483647, us, us, us, us]) rfl k)))) ?_
                   show Go _ _ _ (TJ.setTop (mkF m 402 #[vj q1, .second, vj q2, .second, vj q3, .second, vi p4, vi p5, vi fa, vi ta, vi g1, vi u1, vi g2, vi u3, vi (p5 &&& (3 : Int32)), vi kf, vi pt, vi pf, vi x18, vi x19, vi x20, vi (((1 : Int32) + da) + db), vi xin, vi ((ca + cb) + cc), vi 2147483647, us, us, us, us] [])) _
                   have J19 : ∀ (TJ : State) (locsJ : List Loc) (m1 : Int32), Stand p l e room_1 s m #[(.long q1), (.long q2), (.long q3), (.int p4), (.int p5)] below meth c TJ locsJ 0 0 → TJ.heap = h0 → Fr n0 locsJ → (m1 = if (fa = pf) then (f1 (2147483647 : Int32) ta) else (2147483647 : Int32)) → Go p.tables e below (TJ.setTop (mkF m 418 #[vj q1, .second, vj q2, .second, vj q3, .second, vi p4, vi p5, vi fa, vi ta, vi g1, vi u1, vi g2, vi u3, vi (p5 &&& (3 : Int32)), vi kf, vi pt, vi pf, vi x18, vi x19, vi x20, vi (((1 : Int32) + da) + db), vi xin, vi ((ca + cb) + cc), vi m1, us, us, us, us] [])) (fun o U' => ∃ v L, o = .returned v ∧ Q0 Z q1 q2 q3 p4 p5 h0 n0 v U'.heap L ∧ FrameEnd s o U' L 24 192) := by
                    intro TJ locsJ m1 XJ eJ NJ h_m1
                    have J20 : ∀ (TJ : State) (locsJ : List Loc) (m2 : Int32), Stand p l e room_1 s m #[(.long q1), (.long q2), (.long q3), (.int p4), (.int p5)] below meth c TJ locsJ 0 0 → TJ.heap = h0 → Fr n0 locsJ → (m2 = if (g1 = pf) then (f1 m1 u1) else m1) → Go p.tables e below (TJ.setTop (mkF m 434 #[vj q1, .second, vj q2, .second, vj q3, .second, vi p4, vi p5, vi fa, vi ta, vi g1, vi u1, vi g2, vi u3, vi (p5 &&& (3 : Int32)), vi kf, vi pt, vi pf, vi x18, vi x19, vi x20, vi (((1 : Int32) + da) + db), vi xin, vi ((ca + cb) + cc), vi m2, us, us, us, us] [])) (fun o U' => ∃ v L, o = .returned v ∧ Q0 Z q1 q2 q3 p4 p5 h0 n0 v U'.heap L ∧ FrameEnd s o U' L 24 192) := by
                     intro TJ locsJ m2 XJ eJ NJ h_m2
                     have J21 : ∀ (TJ : State) (locsJ : List Loc) (m3 : Int32), Stand p l e room_1 s m #[(.long q1), (.long q2), (.long q3), (.int p4), (.int p5)] below meth c TJ locsJ 0 0 → TJ.heap = h0 → Fr n0 locsJ → (m3 = if (g2 = pf) then (f1 m2 u3) else m2) → Go p.tables e below (TJ.setTop (mkF m 450 #[vj q1, .second, vj q2, .second, vj q3, .second, vi p4, vi p5, vi fa, vi ta, vi g1, vi u1, vi g2, vi u3, vi (p5 &&& (3 : Int32)), vi kf, vi pt, vi pf, vi x18, vi x19, vi x20, vi (((1 : Int32) + da) + db), vi xin, vi ((ca + cb) + cc), vi m3, us, us, us, us] [])) (fun o U' => ∃ v L, o = .returned v ∧ Q0 Z q1 q2 q3 p4 p5 h0 n0 v U'.heap L ∧ FrameEnd s o U' L 24 192) := by
                      intro TJ locsJ m3 XJ eJ NJ h_m3
                      exact TJ0_22 l Z a0 hw ws q1 q2 q3 p4 p5 h0 n0 Bd hml0 hZ XJ eJ NJ K0 Z0 r_fa r_ta r_g1 r_u1 r_g2 r_u3 r_pf h_x18 h_x19 h_x20 h_da h_db h_xin h_ca h_cb h_cc h_m1 h_m2 h_m3
                     refine G (fun t k => XS.iload XJ.here hx rfl (hb hby at_434) rfl (XS.iload XJ.here hx rfl (hb hby at_436) rfl k)) ?_
                     by_cases hc99 : g2 = pf
                     ·refine G (fun t k => XS.icmpNo XJ.here hx rfl (hb hby at_438) rfl (teq hc99).2 (XS.iload XJ.here hx rfl (hb hby at_441) rfl (XS.iload XJ.here hx rfl (hb hby at_443) rfl k))) ?_
                      obtain ⟨_, _, ⟨T100, L100, k100, n100⟩, -, X100, ⟨Lc100, hQ100, l100, y100, z100⟩, st100⟩ := Jvm.LawKit.callS XJ hx (y := (⟨"java/lang/Math", "min", "(II)I"⟩ : MethodName)) hown (mvT hZ (wd1 hw)) (mvT hZ (wd2 hw)) (mvT hZ (wd3 hw)) (mvT hZ (wd4 hw)) (by decide) (backOf (W := 0) (rm1 l Z a0 hw [] m2 u3 h0 n0 Z0) hZ (wd4 hw) (wd3 hw) (by decide) (by decide)) (g := (mkF m 445 #[vj q1, .second, vj q2, .second, vj q3, .second, vi p4, vi p5, vi fa, vi ta, vi g1, vi u1, vi g2, vi u3, vi (p5 &&& (3 : Int32)), vi kf, vi pt, vi pf, vi x18, vi x19, vi x20, vi (((1 : Int32) + da) + db), vi xin, vi ((ca + cb) + cc), vi m2, us, us, us, us] [(.int u3), (.int m2)])) rfl (by rw [hml]; rfl) (argsL := [(.int m2), (.int u3)]) (rest := []) (lenOf pd0 rfl) rfl (by show 2 * 0 + _ ≤ _; exact Nat.le_of_eq rfl) (hb hby at_445) (fun _ _ => ⟨rfl, eJ, (by decide : 0 + 0 ≤ _), (by decide : 0 + 0 ≤ _)⟩)
                      dsimp only [Pt.U, Pt.locs, Pt.cells, Pt.slots] at X100 l100 y100 z100 st100 hQ100
                      subst l100 y100 z100
                      refine G st100 ?_
                      obtain ⟨rfl, N100q, e100⟩ := hQ100
                      have N100 := Fr.app NJ N100q
                      refine G (fun t k => XS.istore X100.here hx rfl (hb hby at_448) rfl (l' := #[vj q1, .second, vj q2, .second, vj q3, .second, vi p4, vi p5, vi fa, vi ta, vi g1, vi u1, vi g2, vi u3, vi (p5 &&& (3 : Int32)), vi kf, vi pt, vi pf, vi x18, vi x19, vi x20, vi (((1 : Int32) + da) + db), vi xin, vi ((ca + cb) + cc), vi (f1 m2 u3), us, us, us, us]) rfl k) ?_
                      show Go _ _ _ (T100.setTop (mkF m 450 #[vj q1, .second, vj q2, .second, vj q3, .second, vi p4, vi p5, vi fa, vi ta, vi g1, vi u1, vi g2, vi u3, vi (p5 &&& (3 : Int32)), vi kf, vi pt, vi pf, vi x18, vi x19, vi x20, vi (((1 : Int32) + da) + db), vi xin, vi ((ca + cb) + cc), vi (f1 m2 u3), us, us, us, us] [])) _
                      exact J21 _ _ (f1 m2 u3) X100 e100 N100 (if_pos hc99).symm
                     ·refine G (fun t k => XS.icmpYes XJ.here hx rfl (pc0 := 438) (pc' := 450) rfl (hb hby at_438) rfl (feq hc99).2 (by decide) (by decide) k) ?_
                      show Go _ _ _ (TJ.setTop (mkF m 450 #[vj q1, .second, vj q2, .second, vj q3, .second, vi p4, vi p5, vi fa, vi ta, vi g1, vi u1, vi g2, vi u3, vi (p5 &&& (3 : Int32)), vi kf, vi pt, vi pf, vi x18, vi x19, vi x20, vi (((1 : Int32) + da) + db), vi xin, vi ((ca + cb) + cc), vi m2, us, us, us, us] [])) _
                      exact J21 _ _ m2 XJ eJ NJ (if_neg hc99).symm
                    refine G (fun t k => XS.iload XJ.here hx rfl (hb hby at_418) rfl (XS.iload XJ.here hx rfl (hb hby at_420) rfl k)) ?_
                    by_cases hc101 : g1 = pf
                    ·refine G (fun t k => XS.icmpNo XJ.here hx rfl (hb hby at_422) rfl (teq hc101).2 (XS.iload XJ.here hx rfl (hb hby at_425) rfl (XS.iload XJ.here hx rfl (hb hby at_427) rfl k))) ?_
                     obtain ⟨_, _, ⟨T102, L102, k102, n102⟩, -, X102, ⟨Lc102, hQ102, l102, y102, z102⟩, st102⟩ := Jvm.LawKit.callS XJ hx (y := (⟨"java/lang/Math", "min", "(II)I"⟩ : MethodName)) hown (mvT hZ (wd1 hw)) (mvT hZ (wd2 hw)) (mvT hZ (wd3 hw)) (mvT hZ (wd4 hw)) (by decide) (backOf (W := 0) (rm1 l Z a0 hw [] m1 u1 h0 n0 Z0) hZ (wd4 hw) (wd3 hw) (by decide) (by decide)) (g := (mkF m 429 #[vj q1, .second, vj q2, .second, vj q3, .second, vi p4, vi p5, vi fa, vi ta, vi g1, vi u1, vi g2, vi u3, vi (p5 &&& (3 : Int32)), vi kf, vi pt, vi pf, vi x18, vi x19, vi x20, vi (((1 : Int32) + da) + db), vi xin, vi ((ca + cb) + cc), vi m1, us, us, us, us] [(.int u1), (.int m1)])) rfl (by rw [hml]; rfl) (argsL := [(.int m1), (.int u1)]) (rest := []) (lenOf pd0 rfl) rfl (by show 2 * 0 + _ ≤ _; exact Nat.le_of_eq rfl) (hb hby at_429) (fun _ _ => ⟨rfl, eJ, (by decide : 0 + 0 ≤ _), (by decide : 0 + 0 ≤ _)⟩)
                     dsimp only [Pt.U, Pt.locs, Pt.cells, Pt.slots] at X102 l102 y102 z102 st102 hQ102
                     subst l102 y102 z102
                     refine G st102 ?_
                     obtain ⟨rfl, N102q, e102⟩ := hQ102
                     have N102 := Fr.app NJ N102q
                     refine G (fun t k => XS.istore X102.here hx rfl (hb hby at_432) rfl (l' := #[vj q1, .second, vj q2, .second, vj q3, .second, vi p4, vi p5, vi fa, vi ta, vi g1, vi u1, vi g2, vi u3, vi (p5 &&& (3 : Int32)), vi kf, vi pt, vi pf, vi x18, vi x19, vi x20, vi (((1 : Int32) + da) + db), vi xin, vi ((ca + cb) + cc), vi (f1 m1 u1), us, us, us, us]) rfl k) ?_
                     show Go _ _ _ (T102.setTop (mkF m 434 #[vj q1, .second, vj q2, .second, vj q3, .second, vi p4, vi p5, vi fa, vi ta, vi g1, vi u1, vi g2, vi u3, vi (p5 &&& (3 : Int32)), vi kf, vi pt, vi pf, vi x18, vi x19, vi x20, vi (((1 : Int32) + da) + db), vi xin, vi ((ca + cb) + cc), vi (f1 m1 u1), us, us, us, us] [])) _
                     exact J20 _ _ (f1 m1 u1) X102 e102 N102 (if_pos hc101).symm
                    ·refine G (fun t k => XS.icmpYes XJ.here hx rfl (pc0 := 422) (pc' := 434) rfl (hb hby at_422) rfl (feq hc101).2 (by decide) (by decide) k) ?_
                     show Go _ _ _ (TJ.setTop (mkF m 434 #[vj q1, .second, vj q2, .second, vj q3, .second, vi p4, vi p5, vi fa, vi ta, vi g1, vi u1, vi g2, vi u3, vi (p5 &&& (3 : Int32)), vi kf, vi pt, vi pf, vi x18, vi x19, vi x20, vi (((1 : Int32) + da) + db), vi xin, vi ((ca + cb) + cc), vi m1, us, us, us, us] [])) _
                     exact J20 _ _ m1 XJ eJ NJ (if_neg hc101).symm
                   refine G (fun t k => XS.iload XJ.here hx rfl (hb hby at_402) rfl (XS.iload XJ.here hx rfl (hb hby at_404) rfl k)) ?_
                   by_cases hc103 : fa = pf
                   ·refine G (fun t k => XS.icmpNo XJ.here hx rfl (hb hby at_406) rfl (teq hc103).2 (XS.iload XJ.here hx rfl (hb hby at_409) rfl (XS.iload XJ.here hx rfl (hb hby at_411) rfl k))) ?_
                    obtain ⟨_, _, ⟨T104, L104, k104, n104⟩, -, X104, ⟨Lc104, hQ104, l104, y104, z104⟩, st104⟩ := Jvm.LawKit.callS XJ hx (y := (⟨"java/lang/Math", "min", "(II)I"⟩ : MethodName)) hown (mvT hZ (wd1 hw)) (mvT hZ (wd2 hw)) (mvT hZ (wd3 hw)) (mvT hZ (wd4 hw)) (by decide) (backOf (W := 0) (rm1 l Z a0 hw [] (2147483647 : Int32) ta h0 n0 Z0) hZ (wd4 hw) (wd3 hw) (by decide) (by decide)) (g := (mkF m 413 #[vj q1, .second, vj q2, .second, vj q3, .second, vi p4, vi p5, vi fa, vi ta, vi g1, vi u1, vi g2, vi u3, vi (p5 &&& (3 : Int32)), vi kf, vi pt, vi pf, vi x18, vi x19, vi x20, vi (((1 : Int32) + da) + db), vi xin, vi ((ca + cb) + cc), vi 2147483647, us, us, us, us] [(.int ta), (.int 2147483647)])) rfl (by rw [hml]; rfl) (argsL := [(.int (2147483647 : Int32)), (.int ta)]) (rest := []) (lenOf pd0 rfl) rfl (by show 2 * 0 + _ ≤ _; exact Nat.le_of_eq rfl) (hb hby at_413) (fun _ _ => ⟨rfl, eJ, (by decide : 0 + 0 ≤ _), (by decide : 0 + 0 ≤ _)⟩)
                    dsimp only [Pt.U, Pt.locs, Pt.cells, Pt.slots] at X104 l104 y104 z104 st104 hQ104
                    subst l104 y104 z104
                    refine G st104 ?_
                    obtain ⟨rfl, N104q, e104⟩ := hQ104
                    have N104 := Fr.app NJ N104q
                    refine G (fun t k => XS.istore X104.here hx rfl (hb hby at_416) rfl (l' := #[vj q1, .second, vj q2, .second, vj q3, .second, vi p4, vi p5, vi fa, vi ta, vi g1, vi u1, vi g2, vi u3, vi (p5 &&& (3 : Int32)), vi kf, vi pt, vi pf, vi x18, vi x19, vi x20, vi (((1 : Int32) + da) + db), vi xin, vi ((ca + cb) + cc), vi (f1 (2147483647 : Int32) ta), us, us, us, us]) rfl k) ?_
                    show Go _ _ _ (T104.setTop (mkF m 418 #[vj q1, .second, vj q2, .second, vj q3, .second, vi p4, vi p5, vi fa, vi ta, vi g1, vi u1, vi g2, vi u3, vi (p5 &&& (3 : Int32)), vi kf, vi pt, vi pf, vi x18, vi x19, vi x20, vi (((1 : Int32) + da) + db), vi xin, vi ((ca + cb) + cc), vi (f1 (2147483647 : Int32) ta), us, us, us, us] [])) _
                    exact J19 _ _ (f1 (2147483647 : Int32) ta) X104 e104 N104 (if_pos hc103).symm
                   ·refine G (fun t k => XS.icmpYes XJ.here hx rfl (pc0 := 406) (pc' := 418) rfl (hb hby at_406) rfl (feq hc103).2 (by decide) (by decide) k) ?_
                    show Go _ _ _ (TJ.setTop (mkF m 418 #[vj q1, .second, vj q2, .second, vj q3, .second, vi p4, vi p5, vi fa, vi ta, vi g1, vi u1, vi g2, vi u3, vi (p5 &&& (3 : Int32)), vi kf, vi pt, vi pf, vi x18, vi x19, vi x20, vi (((1 : Int32) + da) + db), vi xin, vi ((ca + cb) + cc), vi 2147483647, us, us, us, us] [])) _
                    exact J19 _ _ (2147483647 : Int32) XJ eJ NJ (if_neg hc103).symm
                  refine G (fun t k => XS.iload XJ.here hx rfl (hb hby at_373) rfl (XS.iload XJ.here hx rfl (hb hby at_375) rfl k)) ?_
                  by_cases hc105 : g2 = pf
                  ·refine G (fun t k => XS.icmpNo XJ.here hx rfl (hb hby at_377) rfl (teq hc105).2 (XS.iload XJ.here hx rfl (hb hby at_380) rfl k)) ?_
                   by_cases hc106 : x19 = (0 : Int32)
                   ·refine G (fun t k => XS.ifNo XJ.here hx rfl (hb hby at_382) rfl ((if0 _ _).trans (teq hc106).2) (XS.iload XJ.here hx rfl (hb hby at_385) rfl k)) ?_
                    by_cases hc107 : x20 = (0 : Int32)
                    ·refine G (fun t k => XS.ifNo XJ.here hx rfl (hb hby at_387) rfl ((if0 _ _).trans (teq hc107).2) k) ?_
                     show Go _ _ _ (TJ.setTop (mkF m 390 #[vj q1, .second, vj q2, .second, vj q3, .second, vi p4, vi p5, vi fa, vi ta, vi g1, vi u1, vi g2, vi u3, vi (p5 &&& (3 : Int32)), vi kf, vi pt, vi pf, vi x18, vi x19, vi x20, vi (((1 : Int32) + da) + db), vi xin, us, us, us, us, us, us] [(.int (ca + cb))])) _
                     refine G (fun t k => XS.iconst XJ.here hx rfl (hb hby at_390) (XS.goto XJ.here hx rfl (pc0 := 391) (pc' := 395) rfl (hb hby at_391) (by decide) (by decide) k)) ?_
                     show Go _ _ _ (TJ.setTop (mkF m 395 #[vj q1, .second, vj q2, .second, vj q3, .second, vi p4, vi p5, vi fa, vi ta, vi g1, vi u1, vi g2, vi u3, vi (p5 &&& (3 : Int32)), vi kf, vi pt, vi pf, vi x18, vi x19, vi x20, vi (((1 : Int32) + da) + db), vi xin, us, us, us, us, us, us] [(.int 1), (.int (ca + cb))])) _
                     exact J18 _ _ (1 : Int32) XJ eJ NJ (if_pos ⟨hc105, ⟨hc106, hc107⟩⟩).symm
                    ·refine G (fun t k => XS.ifYes XJ.here hx rfl (pc0 := 387) (pc' := 394) rfl (hb hby at_387) rfl ((if0 _ _).trans (feq hc107).2) (by decide) (by decide) k) ?_
                     show Go _ _ _ (TJ.setTop (mkF m 394 #[vj q1, .second, vj q2, .second, vj q3, .second, vi p4, vi p5, vi fa, vi ta, vi g1, vi u1, vi g2, vi u3, vi (p5 &&& (3 : Int32)), vi kf, vi pt, vi pf, vi x18, vi x19, vi x20, vi (((1 : Int32) + da) + db), vi xin, us, us, us, us, us, us] [(.int (ca + cb))])) _
                     refine G (fun t k => XS.iconst XJ.here hx rfl (hb hby at_394) k) ?_
                     show Go _ _ _ (TJ.setTop (mkF m 395 #[vj q1, .second, vj q2, .second, vj q3, .second, vi p4, vi p5, vi fa, vi ta, vi g1, vi u1, vi g2, vi u3, vi (p5 &&& (3 : Int32)), vi kf, vi pt, vi pf, vi x18, vi x19, vi x20, vi (((1 : Int32) + da) + db), vi xin, us, us, us, us, us, us] [(.int 0), (.int (ca + cb))])) _
                     exact J18 _ _ (0 : Int32) XJ eJ NJ (if_neg (fun y => (fun y => hc107 y.2) y.2)).symm
                   ·refine G (fun t k => XS.ifYes XJ.here hx rfl (pc0 := 382) (pc' := 394) rfl (hb hby at_382) rfl ((if0 _ _).trans (feq hc106).2) (by decide) (by decide) (XS.iconst XJ.here hx rfl (hb hby at_394) k)) ?_
                    show Go _ _ _ (TJ.setTop (mkF m 395 #[vj q1, .second, vj q2, .second, vj q3, .second, vi p4, vi p5, vi fa, vi ta, vi g1, vi u1, vi g2, vi u3, vi (p5 &&& (3 : Int32)), vi kf, vi pt, vi pf, vi x18, vi x19, vi x20, vi (((1 : Int32) + da) + db), vi xin, us, us, us, us, us, us] [(.int 0), (.int (ca + cb))])) _
                    exact J18 _ _ (0 : Int32) XJ eJ NJ (if_neg (fun y => (fun y => hc106 y.1) y.2)).symm
                  ·refine G (fun t k => XS.icmpYes XJ.here hx rfl (pc0 := 377) (pc' := 394) rfl (hb hby at_377) rfl (feq hc105).2 (by decide) (by decide) (XS.iconst XJ.here hx rfl (hb hby at_394) k)) ?_
                   show Go _ _ _ (TJ.setTop (mkF m 395 #[vj q1, .second, vj q2, .second, vj q3, .second, vi p4, vi p5, vi fa, vi ta, vi g1, vi u1, vi g2, vi u3, vi (p5 &&& (3 : Int32)), vi kf, vi pt, vi pf, vi x18, vi x19, vi x20, vi (((1 : Int32) + da) + db), vi xin, us, us, us, us, us, us] [(.int 0), (.int (ca + cb))])) _
                   exact J18 _ _ (0 : Int32) XJ eJ NJ (if_neg (fun y => hc105 y.1)).symm
                 refine G (fun t k => XS.iload XJ.here hx rfl (hb hby at_355) rfl (XS.iload XJ.here hx rfl (hb hby at_357) rfl k)) ?_
                 by_cases hc108 : g1 = pf
                 ·refine G (fun t k => XS.icmpNo XJ.here hx rfl (hb hby at_359) rfl (teq hc108).2 (XS.iload XJ.here hx rfl (hb hby at_362) rfl k)) ?_
                  by_cases hc109 : x18 = (0 : Int32)
                  ·refine G (fun t k => XS.ifNo XJ.here hx rfl (hb hby at_364) rfl ((if0 _ _).trans (teq hc109).2) (XS.iconst XJ.here hx rfl (hb hby at_367) (XS.goto XJ.here hx rfl (pc0 := 368) (pc' := 372) rfl (hb hby at_368) (by decide) (by decide) k))) ?_
                   show Go _ _ _ (TJ.setTop (mkF m 372 #[vj q1, .second, vj q2, .second, vj q3, .second, vi p4, vi p5, vi fa, vi ta, vi g1, vi u1, vi g2, vi u3, vi (p5 &&& (3 : Int32)), vi kf, vi pt, vi pf, vi x18, vi x19, vi x20, vi (((1 : Int32) + da) + db), vi xin, us, us, us, us, us, us] [(.int 1), (.int ca)])) _
                   exact J17 _ _ (1 : Int32) XJ eJ NJ (if_pos ⟨hc108, hc109⟩).symm
                  ·refine G (fun t k => XS.ifYes XJ.here hx rfl (pc0 := 364) (pc' := 371) rfl (hb hby at_364) rfl ((if0 _ _).trans (feq hc109).2) (by decide) (by decide) (XS.iconst XJ.here hx rfl (hb hby at_371) k)) ?_
                   show Go _ _ _ (TJ.setTop (mkF m 372 #[vj q1, .second, vj q2, .second, vj q3, .second, vi p4, vi p5, vi fa, vi ta, vi g1, vi u1, vi g2, vi u3, vi (p5 &&& (3 : Int32)), vi kf, vi pt, vi pf, vi x18, vi x19, vi x20, vi (((1 : Int32) + da) + db), vi xin, us, us, us, us, us, us] [(.int 0), (.int ca)])) _
                   exact J17 _ _ (0 : Int32) XJ eJ NJ (if_neg (fun y => hc109 y.2)).symm
                 ·refine G (fun t k => XS.icmpYes XJ.here hx rfl (pc0 := 359) (pc' := 371) rfl (hb hby at_359) rfl (feq hc108).2 (by decide) (by decide) (XS.iconst XJ.here hx rfl (hb hby at_371) k)) ?_
                  show Go _ _ _ (TJ.setTop (mkF m 372 #[vj q1, .second, vj q2, .second, vj q3, .second, vi p4, vi p5, vi fa, vi ta, vi g1, vi u1, vi g2, vi u3, vi (p5 &&& (3 : Int32)), vi kf, vi pt, vi pf, vi x18, vi x19, vi x20, vi (((1 : Int32) + da) + db), vi xin, us, us, us, us, us, us] [(.int 0), (.int ca)])) _
                  exact J17 _ _ (0 : Int32) XJ eJ NJ (if_neg (fun y => hc108 y.1)).symm
                refine G (fun t k => XS.iload XJ.here hx rfl (hb hby at_343) rfl (XS.iload XJ.here hx rfl (hb hby at_345) rfl k)) ?_
                by_cases hc110 : fa = pf
                ·refine G (fun t k => XS.icmpNo XJ.here hx rfl (hb hby at_347) rfl (teq hc110).2 (XS.iconst XJ.here hx rfl (hb hby at_350) (XS.goto XJ.here hx rfl (pc0 := 351) (pc' := 355) rfl (hb hby at_351) (by decide) (by decide) k))) ?_
                 show Go _ _ _ (TJ.setTop (mkF m 355 #[vj q1, .second, vj q2, .second, vj q3, .second, vi p4, vi p5, vi fa, vi ta, vi g1, vi u1, vi g2, vi u3, vi (p5 &&& (3 : Int32)), vi kf, vi pt, vi pf, vi x18, vi x19, vi x20, vi (((1 : Int32) + da) + db), vi xin, us, us, us, us, us, us] [(.int 1)])) _
                 exact J16 _ _ (1 : Int32) XJ eJ NJ (if_pos hc110).symm
                ·refine G (fun t k => XS.icmpYes XJ.here hx rfl (pc0 := 347) (pc' := 354) rfl (hb hby at_347) rfl (feq hc110).2 (by decide) (by decide) (XS.iconst XJ.here hx rfl (hb hby at_354) k)) ?_
                 show Go _ _ _ (TJ.setTop (mkF m 355 #[vj q1, .second, vj q2, .second, vj q3, .second, vi p4, vi p5, vi fa, vi ta, vi g1, vi u1, vi g2, vi u3, vi (p5 &&& (3 : Int32)), vi kf, vi pt, vi pf, vi x18, vi x19, vi x20, vi (((1 : Int32) + da) + db), vi xin, us, us, us, us, us, us] [(.int 0)])) _
                 exact J16 _ _ (0 : Int32) XJ eJ NJ (if_neg hc110).symm
               refine G (fun t k => XS.iload XJ.here hx rfl (hb hby at_294) rfl (XS.iload XJ.here hx rfl (hb hby at_296) rfl k)) ?_
               by_cases hc111 : pf = fa
               ·refine G (fun t k => XS.icmpNo XJ.here hx rfl (hb hby at_298) rfl (teq hc111).2 (XS.iload XJ.here hx rfl (hb hby at_301) rfl (XS.iload XJ.here hx rfl (hb hby at_303) rfl k))) ?_
                by_cases hc112 : pt = ta
                ·refine G (fun t k => XS.icmpYes XJ.here hx rfl (pc0 := 305) (pc' := 336) rfl (hb hby at_305) rfl (teq hc112).1 (by decide) (by decide) (XS.iconst XJ.here hx rfl (hb hby at_336) k)) ?_
                 show Go _ _ _ (TJ.setTop (mkF m 337 #[vj q1, .second, vj q2, .second, vj q3, .second, vi p4, vi p5, vi fa, vi ta, vi g1, vi u1, vi g2, vi u3, vi (p5 &&& (3 : Int32)), vi kf, vi pt, vi pf, vi x18, vi x19, vi x20, vi (((1 : Int32) + da) + db), us, us, us, us, us, us, us] [(.int 1)])) _
                 refine G (fun t k => XS.goto XJ.here hx rfl (pc0 := 337) (pc' := 341) rfl (hb hby at_337) (by decide) (by decide) k) ?_
                 show Go _ _ _ (TJ.setTop (mkF m 341 #[vj q1, .second, vj q2, .second, vj q3, .second, vi p4, vi p5, vi fa, vi ta, vi g1, vi u1, vi g2, vi u3, vi (p5 &&& (3 : Int32)), vi kf, vi pt, vi pf, vi x18, vi x19, vi x20, vi (((1 : Int32) + da) + db), us, us, us, us, us, us, us] [(.int 1)])) _
                 exact J15 _ _ (1 : Int32) XJ eJ NJ (if_pos (Or.inl ⟨hc111, hc112⟩)).symm
                ·refine G (fun t k => XS.icmpNo XJ.here hx rfl (hb hby at_305) rfl (feq hc112).1 (XS.iload XJ.here hx rfl (hb hby at_308) rfl k)) ?_
                 show Go _ _ _ (TJ.setTop (mkF m 310 #[vj q1, .second, vj q2, .second, vj q3, .second, vi p4, vi p5, vi fa, vi ta, vi g1, vi u1, vi g2, vi u3, vi (p5 &&& (3 : Int32)), vi kf, vi pt, vi pf, vi x18, vi x19, vi x20, vi (((1 : Int32) + da) + db), us, us, us, us, us, us, us] [(.int pf)])) _
                 refine G (fun t k => XS.iload XJ.here hx rfl (hb hby at_310) rfl k) ?_
                 by_cases hc113 : pf = g1
                 ·refine G (fun t k => XS.icmpNo XJ.here hx rfl (hb hby at_312) rfl (teq hc113).2 (XS.iload XJ.here hx rfl (hb hby at_315) rfl (XS.iload XJ.here hx rfl (hb hby at_317) rfl k))) ?_
                  by_cases hc114 : pt = u1
                  ·refine G (fun t k => XS.icmpYes XJ.here hx rfl (pc0 := 319) (pc' := 336) rfl (hb hby at_319) rfl (teq hc114).1 (by decide) (by decide) (XS.iconst XJ.here hx rfl (hb hby at_336) (XS.goto XJ.here hx rfl (pc0 := 337) (pc' := 341) rfl (hb hby at_337) (by decide) (by decide) k))) ?_
                   show Go _ _ _ (TJ.setTop (mkF m 341 #[vj q1, .second, vj q2, .second, vj q3, .second, vi p4, vi p5, vi fa, vi ta, vi g1, vi u1, vi g2, vi u3, vi (p5 &&& (3 : Int32)), vi kf, vi pt, vi pf, vi x18, vi x19, vi x20, vi (((1 : Int32) + da) + db), us, us, us, us, us, us, us] [(.int 1)])) _
                   exact J15 _ _ (1 : Int32) XJ eJ NJ (if_pos (Or.inr (Or.inl ⟨hc113, hc114⟩))).symm
                  ·refine G (fun t k => XS.icmpNo XJ.here hx rfl (hb hby at_319) rfl (feq hc114).1 (XS.iload XJ.here hx rfl (hb hby at_322) rfl (XS.iload XJ.here hx rfl (hb hby at_324) rfl k))) ?_
                   show Go _ _ _ (TJ.setTop (mkF m 326 #[vj q1, .second, vj q2, .second, vj q3, .second, vi p4, vi p5, vi fa, vi ta, vi g1, vi u1, vi g2, vi u3, vi (p5 &&& (3 : Int32)), vi kf, vi pt, vi pf, vi x18, vi x19, vi x20, vi (((1 : Int32) + da) + db), us, us, us, us, us, us, us] [(.int g2), (.int pf)])) _
                   by_cases hc115 : pf = g2
                   ·refine G (fun t k => XS.icmpNo XJ.here hx rfl (hb hby at_326) rfl (teq hc115).2 (XS.iload XJ.here hx rfl (hb hby at_329) rfl (XS.iload XJ.here hx rfl (hb hby at_331) rfl k))) ?_
                    by_cases hc116 : pt = u3
                    ·refine G (fun t k => XS.icmpNo XJ.here hx rfl (hb hby at_333) rfl (teq hc116).2 (XS.iconst XJ.here hx rfl (hb hby at_336) (XS.goto XJ.here hx rfl (pc0 := 337) (pc' := 341) rfl (hb hby at_337) (by decide) (by decide) k))) ?_
                     show Go _ _ _ (TJ.setTop (mkF m 341 #[vj q1, .second, vj q2, .second, vj q3, .second, vi p4, vi p5, vi fa, vi ta, vi g1, vi u1, vi g2, vi u3, vi (p5 &&& (3 : Int32)), vi kf, vi pt, vi pf, vi x18, vi x19, vi x20, vi (((1 : Int32) + da) + db), us, us, us, us, us, us, us] [(.int 1)])) _
                     exact J15 _ _ (1 : Int32) XJ eJ NJ (if_pos (Or.inr (Or.inr ⟨hc115, hc116⟩))).symm
                    ·refine G (fun t k => XS.icmpYes XJ.here hx rfl (pc0 := 333) (pc' := 340) rfl (hb hby at_333) rfl (feq hc116).2 (by decide) (by decide) (XS.iconst XJ.here hx rfl (hb hby at_340) k)) ?_
                     show Go _ _ _ (TJ.setTop (mkF m 341 #[vj q1, .second, vj q2, .second, vj q3, .second, vi p4, vi p5, vi fa, vi ta, vi g1, vi u1, vi g2, vi u3, vi (p5 &&& (3 : Int32)), vi kf, vi pt, vi pf, vi x18, vi x19, vi x20, vi (((1 : Int32) + da) + db), us, us, us, us, us, us, us] [(.int 0)])) _
                     exact J15 _ _ (0 : Int32) XJ eJ NJ (if_neg (fun y => y.elim (fun y => hc112 y.2) (fun y => y.elim (fun y => hc114 y.2) (fun y => hc116 y.2)))).symm
                   ·refine G (fun t k => XS.icmpYes XJ.here hx rfl (pc0 := 326) (pc' := 340) rfl (hb hby at_326) rfl (feq hc115).2 (by decide) (by decide) (XS.iconst XJ.here hx rfl (hb hby at_340) k)) ?_
                    show Go _ _ _ (TJ.setTop (mkF m 341 #[vj q1, .second, vj q2, .second, vj q3, .second, vi p4, vi p5, vi fa, vi ta, vi g1, vi u1, vi g2, vi u3, vi (p5 &&& (3 : Int32)), vi kf, vi pt, vi pf, vi x18, vi x19, vi x20, vi (((1 : Int32) + da) + db), us, us, us, us, us, us, us] [(.int 0)])) _
                    exact J15 _ _ (0 : Int32) XJ eJ NJ (if_neg (fun y => y.elim (fun y => hc112 y.2) (fun y => y.elim (fun y => hc114 y.2) (fun y => hc115 y.1)))).symm
                 ·refine G (fun t k => XS.icmpYes XJ.here hx rfl (pc0 := 312) (pc' := 322) rfl (hb hby at_312) rfl (feq hc113).2 (by decide) (by decide) (XS.iload XJ.here hx rfl (hb hby at_322) rfl (XS.iload XJ.here hx rfl (hb hby at_324) rfl k))) ?_
                  by_cases hc117 : pf = g2
                  ·refine G (fun t k => XS.icmpNo XJ.here hx rfl (hb hby at_326) rfl (teq hc117).2 (XS.iload XJ.here hx rfl (hb hby at_329) rfl (XS.iload XJ.here hx rfl (hb hby at_331) rfl k))) ?_
                   show Go _ _ _ (TJ.setTop (mkF m 333 #[vj q1, .second, vj q2, .second, vj q3, .second, vi p4, vi p5, vi fa, vi ta, vi g1, vi u1, vi g2, vi u3, vi (p5 &&& (3 : Int32)), vi kf, vi pt, vi pf, vi x18, vi x19, vi x20, vi (((1 : Int32) + da) + db), us, us, us, us, us, us, us] [(.int u3), (.int pt)])) _
                   by_cases hc118 : pt = u3
                   ·refine G (fun t k => XS.icmpNo XJ.here hx rfl (hb hby at_333) rfl (teq hc118).2 (XS.iconst XJ.here hx rfl (hb hby at_336) (XS.goto XJ.here hx rfl (pc0 := 337) (pc' := 341) rfl (hb hby at_337) (by decide) (by decide) k))) ?_
                    show Go _ _ _ (TJ.setTop (mkF m 341 #[vj q1, .second, vj q2, .second, vj q3, .second, vi p4, vi p5, vi fa, vi ta, vi g1, vi u1, vi g2, vi u3, vi (p5 &&& (3 : Int32)), vi kf, vi pt, vi pf, vi x18, vi x19, vi x20, vi (((1 : Int32) + da) + db), us, us, us, us, us, us, us] [(.int 1)])) _
                    exact J15 _ _ (1 : Int32) XJ eJ NJ (if_pos (Or.inr (Or.inr ⟨hc117, hc118⟩))).symm
                   ·refine G (fun t k => XS.icmpYes XJ.here hx rfl (pc0 := 333) (pc' := 340) rfl (hb hby at_333) rfl (feq hc118).2 (by decide) (by decide) (XS.iconst XJ.here hx rfl (hb hby at_340) k)) ?_
                    show Go _ _ _ (TJ.setTop (mkF m 341 #[vj q1, .second, vj q2, .second, vj q3, .second, vi p4, vi p5, vi fa, vi ta, vi g1, vi u1, vi g2, vi u3, vi (p5 &&& (3 : Int32)), vi kf, vi pt, vi pf, vi x18, vi x19, vi x20, vi (((1 : Int32) + da) + db), us, us, us, us, us, us, us] [(.int 0)])) _
                    exact J15 _ _ (0 : Int32) XJ eJ NJ (if_neg (fun y => y.elim (fun y => hc112 y.2) (fun y => y.elim (fun y => hc113 y.1) (fun y => hc118 y.2)))).symm
                  ·refine G (fun t k => XS.icmpYes XJ.here hx rfl (pc0 := 326) (pc' := 340) rfl (hb hby at_326) rfl (feq hc117).2 (by decide) (by decide) (XS.iconst XJ.here hx rfl (hb hby at_340) k)) ?_
                   show Go _ _ _ (TJ.setTop (mkF m 341 #[vj q1, .second, vj q2, .second, vj q3, .second, vi p4, vi p5, vi fa, vi ta, vi g1, vi u1, vi g2, vi u3, vi (p5 &&& (3 : Int32)), vi kf, vi pt, vi pf, vi x18, vi x19, vi x20, vi (((1 : Int32) + da) + db), us, us, us, us, us, us, us] [(.int 0)])) _
                   exact J15 _ _ (0 : Int32) XJ eJ NJ (if_neg (fun y => y.elim (fun y => hc112 y.2) (fun y => y.elim (fun y => hc113 y.1) (fun y => hc117 y.1)))).symm
               ·refine G (fun t k => XS.icmpYes XJ.here hx rfl (pc0 := 298) (pc' := 308) rfl (hb hby at_298) rfl (feq hc111).2 (by decide) (by decide) (XS.iload XJ.here hx rfl (hb hby at_308) rfl (XS.iload XJ.here hx rfl (hb hby at_310) rfl k))) ?_
                by_cases hc119 : pf = g1
                ·refine G (fun t k => XS.icmpNo XJ.here hx rfl (hb hby at_312) rfl (teq hc119).2 (XS.iload XJ.here hx rfl (hb hby at_315) rfl k)) ?_
                 show Go _ _ _ (TJ.setTop (mkF m 317 #[vj q1, .second, vj q2, .second, vj q3, .second, vi p4, vi p5, vi fa, vi ta, vi g1, vi u1, vi g2, vi u3, vi (p5 &&& (3 : Int32)), vi kf, vi pt, vi pf, vi x18, vi x19, vi x20, vi (((1 : Int32) + da) + db), us, us, us, us, us, us, us] [(.int pt)])) _
                 refine G (fun t k => XS.iload XJ.here hx rfl (hb hby at_317) rfl k) ?_
                 by_cases hc120 : pt = u1
                 ·refine G (fun t k => XS.icmpYes XJ.here hx rfl (pc0 := 319) (pc' := 336) rfl (hb hby at_319) rfl (teq hc120).1 (by decide) (by decide) (XS.iconst XJ.here hx rfl (hb hby at_336) (XS.goto XJ.here hx rfl (pc0 := 337) (pc' := 341) rfl (hb hby at_337) (by decide) (by decide) k))) ?_
                  show Go _ _ _ (TJ.setTop (mkF m 341 #[vj q1, .second, vj q2, .second, vj q3, .second, vi p4, vi p5, vi fa, vi ta, vi g1, vi u1, vi g2, vi u3, vi (p5 &&& (3 : Int32)), vi kf, vi pt, vi pf, vi x18, vi x19, vi x20, vi (((1 : Int32) + da) + db), us, us, us, us, us, us, us] [(.int 1)])) _
                  exact J15 _ _ (1 : Int32) XJ eJ NJ (if_pos (Or.inr (Or.inl ⟨hc119, hc120⟩))).symm
                 ·refine G (fun t k => XS.icmpNo XJ.here hx rfl (hb hby at_319) rfl (feq hc120).1 (XS.iload XJ.here hx rfl (hb hby at_322) rfl (XS.iload XJ.here hx rfl (hb hby at_324) rfl k))) ?_
                  by_cases hc121 : pf = g2
                  ·refine G (fun t k => XS.icmpNo XJ.here hx rfl (hb hby at_326) rfl (teq hc121).2 (XS.iload XJ.here hx rfl (hb hby at_329) rfl (XS.iload XJ.here hx rfl (hb hby at_331) rfl k))) ?_
                   show Go _ _ _ (TJ.setTop (mkF m 333 #[vj q1, .second, vj q2, .second, vj q3, .second, vi p4, vi p5, vi fa, vi ta, vi g1, vi u1, vi g2, vi u3, vi (p5 &&& (3 : Int32)), vi kf, vi pt, vi pf, vi x18, vi x19, vi x20, vi (((1 : Int32) + da) + db), us, us, us, us, us, us, us] [(.int u3), (.int pt)])) _
                   by_cases hc122 : pt = u3
                   ·refine G (fun t k => XS.icmpNo XJ.here hx rfl (hb hby at_333) rfl (teq hc122).2 (XS.iconst XJ.here hx rfl (hb hby at_336) (XS.goto XJ.here hx rfl (pc0 := 337) (pc' := 341) rfl (hb hby at_337) (by decide) (by decide) k))) ?_
                    show Go _ _ _ (TJ.setTop (mkF m 341 #[vj q1, .second, vj q2, .second, vj q3, .second, vi p4, vi p5, vi fa, vi ta, vi g1, vi u1, vi g2, vi u3, vi (p5 &&& (3 : Int32)), vi kf, vi pt, vi pf, vi x18, vi x19, vi x20, vi (((1 : Int32) + da) + db), us, us, us, us, us, us, us] [(.int 1)])) _
                    exact J15 _ _ (1 : Int32) XJ eJ NJ (if_pos (Or.inr (Or.inr ⟨hc121, hc122⟩))).symm
                   ·refine G (fun t k => XS.icmpYes XJ.here hx rfl (pc0 := 333) (pc' := 340) rfl (hb hby at_333) rfl (feq hc122).2 (by decide) (by decide) (XS.iconst XJ.here hx rfl (hb hby at_340) k)) ?_
                    show Go _ _ _ (TJ.setTop (mkF m 341 #[vj q1, .second, vj q2, .second, vj q3, .second, vi p4, vi p5, vi fa, vi ta, vi g1, vi u1, vi g2, vi u3, vi (p5 &&& (3 : Int32)), vi kf, vi pt, vi pf, vi x18, vi x19, vi x20, vi (((1 : Int32) + da) + db), us, us, us, us, us, us, us] [(.int 0)])) _
                    exact J15 _ _ (0 : Int32) XJ eJ NJ (if_neg (fun y => y.elim (fun y => hc111 y.1) (fun y => y.elim (fun y => hc120 y.2) (fun y => hc122 y.2)))).symm
                  ·refine G (fun t k => XS.icmpYes XJ.here hx rfl (pc0 := 326) (pc' := 340) rfl (hb hby at_326) rfl (feq hc121).2 (by decide) (by decide) (XS.iconst XJ.here hx rfl (hb hby at_340) k)) ?_
                   show Go _ _ _ (TJ.setTop (mkF m 341 #[vj q1, .second, vj q2, .second, vj q3, .second, vi p4, vi p5, vi fa, vi ta, vi g1, vi u1, vi g2, vi u3, vi (p5 &&& (3 : Int32)), vi kf, vi pt, vi pf, vi x18, vi x19, vi x20, vi (((1 : Int32) + da) + db), us, us, us, us, us, us, us] [(.int 0)])) _
                   exact J15 _ _ (0 : Int32) XJ eJ NJ (if_neg (fun y => y.elim (fun y => hc111 y.1) (fun y => y.elim (fun y => hc120 y.2) (fun y => hc121 y.1)))).symm
                ·refine G (fun t k => XS.icmpYes XJ.here hx rfl (pc0 := 312) (pc' := 322) rfl (hb hby at_312) rfl (feq hc119).2 (by decide) (by decide) (XS.iload XJ.here hx rfl (hb hby at_322) rfl k)) ?_
                 show Go _ _ _ (TJ.setTop (mkF m 324 #[vj q1, .second, vj q2, .second, vj q3, .second, vi p4, vi p5, vi fa, vi ta, vi g1, vi u1, vi g2, vi u3, vi (p5 &&& (3 : Int32)), vi kf, vi pt, vi pf, vi x18, vi x19, vi x20, vi (((1 : Int32) + da) + db), us, us, us, us, us, us, us] [(.int pf)])) _
                 refine G (fun t k => XS.iload XJ.here hx rfl (hb hby at_324) rfl k) ?_
                 by_cases hc123 : pf = g2
                 ·refine G (fun t k => XS.icmpNo XJ.here hx rfl (hb hby at_326) rfl (teq hc123).2 (XS.iload XJ.here hx rfl (hb hby at_329) rfl (XS.iload XJ.here hx rfl (hb hby at_331) rfl k))) ?_
                  by_cases hc124 : pt = u3
                  ·refine G (fun t k => XS.icmpNo XJ.here hx rfl (hb hby at_333) rfl (teq hc124).2 (XS.iconst XJ.here hx rfl (hb hby at_336) (XS.goto XJ.here hx rfl (pc0 := 337) (pc' := 341) rfl (hb hby at_337) (by decide) (by decide) k))) ?_
                   show Go _ _ _ (TJ.setTop (mkF m 341 #[vj q1, .second, vj q2, .second, vj q3, .second, vi p4, vi p5, vi fa, vi ta, vi g1, vi u1, vi g2, vi u3, vi (p5 &&& (3 : Int32)), vi kf, vi pt, vi pf, vi x18, vi x19, vi x20, vi (((1 : Int32) + da) + db), us, us, us, us, us, us, us] [(.int 1)])) _
                   exact J15 _ _ (1 : Int32) XJ eJ NJ (if_pos (Or.inr (Or.inr ⟨hc123, hc124⟩))).symm
                  ·refine G (fun t k => XS.icmpYes XJ.here hx rfl (pc0 := 333) (pc' := 340) rfl (hb hby at_333) rfl (feq hc124).2 (by decide) (by decide) (XS.iconst XJ.here hx rfl (hb hby at_340) k)) ?_
                   show Go _ _ _ (TJ.setTop (mkF m 341 #[vj q1, .second, vj q2, .second, vj q3, .second, vi p4, vi p5, vi fa, vi ta, vi g1, vi u1, vi g2, vi u3, vi (p5 &&& (3 : Int32)), vi kf, vi pt, vi pf, vi x18, vi x19, vi x20, vi (((1 : Int32) + da) + db), us, us, us, us, us, us, us] [(.int 0)])) _
                   exact J15 _ _ (0 : Int32) XJ eJ NJ (if_neg (fun y => y.elim (fun y => hc111 y.1) (fun y => y.elim (fun y => hc119 y.1) (fun y => hc124 y.2)))).symm
                 ·refine G (fun t k => XS.icmpYes XJ.here hx rfl (pc0 := 326) (pc' := 340) rfl (hb hby at_326) rfl (feq hc123).2 (by decide) (by decide) (XS.iconst XJ.here hx rfl (hb hby at_340) k)) ?_
                  show Go _ _ _ (TJ.setTop (mkF m 341 #[vj q1, .second, vj q2, .second, vj q3, .second, vi p4, vi p5, vi fa, vi ta, vi g1, vi u1, vi g2, vi u3, vi (p5 &&& (3 : Int32)), vi kf, vi pt, vi pf, vi x18, vi x19, vi x20, vi (((1 : Int32) + da) + db), us, us, us, us, us, us, us] [(.int 0)])) _
                  exact J15 _ _ (0 : Int32) XJ eJ NJ (if_neg (fun y => y.elim (fun y => hc111 y.1) (fun y => y.elim (fun y => hc119 y.1) (fun y => hc123 y.1)))).symm
              refine G (fun t k => XS.iload XJ.here hx rfl (hb hby at_276) rfl k) ?_
              by_cases hc125 : x19 = (0 : Int32)
              ·refine G (fun t k => XS.ifNo XJ.here hx rfl (hb hby at_278) rfl ((if0 _ _).trans (teq hc125).2) (XS.iload XJ.here hx rfl (hb hby at_281) rfl k)) ?_
               by_cases hc126 : x20 = (0 : Int32)
               ·refine G (fun t k => XS.ifYes XJ.here hx rfl (pc0 := 283) (pc' := 290) rfl (hb hby at_283) rfl ((if0 _ _).trans (teq hc126).1) (by decide) (by decide) (XS.iconst XJ.here hx rfl (hb hby at_290) k)) ?_
                show Go _ _ _ (TJ.setTop (mkF m 291 #[vj q1, .second, vj q2, .second, vj q3, .second, vi p4, vi p5, vi fa, vi ta, vi g1, vi u1, vi g2, vi u3, vi (p5 &&& (3 : Int32)), vi kf, vi pt, vi pf, vi x18, vi x19, vi x20, us, us, us, us, us, us, us, us] [(.int 1), (.int ((1 : Int32) + da))])) _
                exact J14 _ _ (1 : Int32) XJ eJ NJ (if_pos ⟨hc125, hc126⟩).symm
               ·refine G (fun t k => XS.ifNo XJ.here hx rfl (hb hby at_283) rfl ((if0 _ _).trans (feq hc126).1) (XS.iconst XJ.here hx rfl (hb hby at_286) (XS.goto XJ.here hx rfl (pc0 := 287) (pc' := 291) rfl (hb hby at_287) (by decide) (by decide) k))) ?_
                show Go _ _ _ (TJ.setTop (mkF m 291 #[vj q1, .second, vj q2, .second, vj q3, .second, vi p4, vi p5, vi fa, vi ta, vi g1, vi u1, vi g2, vi u3, vi (p5 &&& (3 : Int32)), vi kf, vi pt, vi pf, vi x18, vi x19, vi x20, us, us, us, us, us, us, us, us] [(.int 0), (.int ((1 : Int32) + da))])) _
                exact J14 _ _ (0 : Int32) XJ eJ NJ (if_neg (fun y => hc126 y.2)).symm
              ·refine G (fun t k => XS.ifYes XJ.here hx rfl (pc0 := 278) (pc' := 286) rfl (hb hby at_278) rfl ((if0 _ _).trans (feq hc125).2) (by decide) (by decide) (XS.iconst XJ.here hx rfl (hb hby at_286) (XS.goto XJ.here hx rfl (pc0 := 287) (pc' := 291) rfl (hb hby at_287) (by decide) (by decide) k))) ?_
               show Go _ _ _ (TJ.setTop (mkF m 291 #[vj q1, .second, vj q2, .second, vj q3, .second, vi p4, vi p5, vi fa, vi ta, vi g1, vi u1, vi g2, vi u3, vi (p5 &&& (3 : Int32)), vi kf, vi pt, vi pf, vi x18, vi x19, vi x20, us, us, us, us, us, us, us, us] [(.int 0), (.int ((1 : Int32) + da))])) _
               exact J14 _ _ (0 : Int32) XJ eJ NJ (if_neg (fun y => hc125 y.1)).symm
             refine G (fun t k => XS.iload XJ.here hx rfl (hb hby at_265) rfl k) ?_
             by_cases hc127 : x18 = (0 : Int32)
             ·refine G (fun t k => XS.ifYes XJ.here hx rfl (pc0 := 267) (pc' := 274) rfl (hb hby at_267) rfl ((if0 _ _).trans (teq hc127).1) (by decide) (by decide) (XS.iconst XJ.here hx rfl (hb hby at_274) k)) ?_
              show Go _ _ _ (TJ.setTop (mkF m 275 #[vj q1, .second, vj q2, .second, vj q3, .second, vi p4, vi p5, vi fa, vi ta, vi g1, vi u1, vi g2, vi u3, vi (p5 &&& (3 : Int32)), vi kf, vi pt, vi pf, vi x18, vi x19, vi x20, us, us, us, us, us, us, us, us] [(.int 1), (.int 1)])) _
              exact J13 _ _ (1 : Int32) XJ eJ NJ (if_pos hc127).symm
             ·refine G (fun t k => XS.ifNo XJ.here hx rfl (hb hby at_267) rfl ((if0 _ _).trans (feq hc127).1) (XS.iconst XJ.here hx rfl (hb hby at_270) (XS.goto XJ.here hx rfl (pc0 := 271) (pc' := 275) rfl (hb hby at_271) (by decide) (by decide) k))) ?_
              show Go _ _ _ (TJ.setTop (mkF m 275 #[vj q1, .second, vj q2, .second, vj q3, .second, vi p4, vi p5, vi fa, vi ta, vi g1, vi u1, vi g2, vi u3, vi (p5 &&& (3 : Int32)), vi kf, vi pt, vi pf, vi x18, vi x19, vi x20, us, us, us, us, us, us, us, us] [(.int 0), (.int 1)])) _
              exact J13 _ _ (0 : Int32) XJ eJ NJ (if_neg hc127).symm
            refine G (fun t k => XS.iload XJ.here hx rfl (hb hby at_243) rfl (XS.iload XJ.here hx rfl (hb hby at_245) rfl k)) ?_
            by_cases hc128 : g1 = g2
            ·refine G (fun t k => XS.icmpNo XJ.here hx rfl (hb hby at_247) rfl (teq hc128).2 (XS.iload XJ.here hx rfl (hb hby at_250) rfl (XS.iload XJ.here hx rfl (hb hby at_252) rfl k))) ?_
             by_cases hc129 : u1 = u3
             ·refine G (fun t k => XS.icmpNo XJ.here hx rfl (hb hby at_254) rfl (teq hc129).2 (XS.iconst XJ.here hx rfl (hb hby at_257) k)) ?_
              show Go _ _ _ (TJ.setTop (mkF m 258 #[vj q1, .second, vj q2, .second, vj q3, .second, vi p4, vi p5, vi fa, vi ta, vi g1, vi u1, vi g2, vi u3, vi (p5 &&& (3 : Int32)), vi kf, vi pt, vi pf, vi x18, vi x19, us, us, us, us, us, us, us, us, us] [(.int 1)])) _
              refine G (fun t k => XS.goto XJ.here hx rfl (pc0 := 258) (pc' := 262) rfl (hb hby at_258) (by decide) (by decide) k) ?_
              show Go _ _ _ (TJ.setTop (mkF m 262 #[vj q1, .second, vj q2, .second, vj q3, .second, vi p4, vi p5, vi fa, vi ta, vi g1, vi u1, vi g2, vi u3, vi (p5 &&& (3 : Int32)), vi kf, vi pt, vi pf, vi x18, vi x19, us, us, us, us, us, us, us, us, us] [(.int 1)])) _
              exact J12 _ _ (1 : Int32) XJ eJ NJ (if_pos ⟨hc128, hc129⟩).symm
             ·refine G (fun t k => XS.icmpYes XJ.here hx rfl (pc0 := 254) (pc' := 261) rfl (hb hby at_254) rfl (feq hc129).2 (by decide) (by decide) (XS.iconst XJ.here hx rfl (hb hby at_261) k)) ?_
              show Go _ _ _ (TJ.setTop (mkF m 262 #[vj q1, .second, vj q2, .second, vj q3, .second, vi p4, vi p5, vi fa, vi ta, vi g1, vi u1, vi g2, vi u3, vi (p5 &&& (3 : Int32)), vi kf, vi pt, vi pf, vi x18, vi x19, us, us, us, us, us, us, us, us, us] [(.int 0)])) _
              exact J12 _ _ (0 : Int32) XJ eJ NJ (if_neg (fun y => hc129 y.2)).symm
            ·refine G (fun t k => XS.icmpYes XJ.here hx rfl (pc0 := 247) (pc' := 261) rfl (hb hby at_247) rfl (feq hc128).2 (by decide) (by decide) (XS.iconst XJ.here hx rfl (hb hby at_261) k)) ?_
             show Go _ _ _ (TJ.setTop (mkF m 262 #[vj q1, .second, vj q2, .second, vj q3, .second, vi p4, vi p5, vi fa, vi ta, vi g1, vi u1, vi g2, vi u3, vi (p5 &&& (3 : Int32)), vi kf, vi pt, vi pf, vi x18, vi x19, us, us, us, us, us, us, us, us, us] [(.int 0)])) _
             exact J12 _ _ (0 : Int32) XJ eJ NJ (if_neg (fun y => hc128 y.1)).symm
           refine G (fun t k => XS.iload XJ.here hx rfl (hb hby at_222) rfl (XS.iload XJ.here hx rfl (hb hby at_224) rfl k)) ?_
           by_cases hc130 : fa = g2
           ·refine G (fun t k => XS.icmpNo XJ.here hx rfl (hb hby at_226) rfl (teq hc130).2 (XS.iload XJ.here hx rfl (hb hby at_229) rfl (XS.iload XJ.here hx rfl (hb hby at_231) rfl k))) ?_
            by_cases hc131 : ta = u3
            ·refine G (fun t k => XS.icmpNo XJ.here hx rfl (hb hby at_233) rfl (teq hc131).2 (XS.iconst XJ.here hx rfl (hb hby at_236) k)) ?_
             show Go _ _ _ (TJ.setTop (mkF m 237 #[vj q1, .second, vj q2, .second, vj q3, .second, vi p4, vi p5, vi fa, vi ta, vi g1, vi u1, vi g2, vi u3, vi (p5 &&& (3 : Int32)), vi kf, vi pt, vi pf, vi x18, us, us, us, us, us, us, us, us, us, us] [(.int 1)])) _
             refine G (fun t k => XS.goto XJ.here hx rfl (pc0 := 237) (pc' := 241) rfl (hb hby at_237) (by decide) (by decide) k) ?_
             show Go _ _ _ (TJ.setTop (mkF m 241 #[vj q1, .second, vj q2, .second, vj q3, .second, vi p4, vi p5, vi fa, vi ta, vi g1, vi u1, vi g2, vi u3, vi (p5 &&& (3 : Int32)), vi kf, vi pt, vi pf, vi x18, us, us, us, us, us, us, us, us, us, us] [(.int 1)])) _
             exact J11 _ _ (1 : Int32) XJ eJ NJ (if_pos ⟨hc130, hc131⟩).symm
            ·refine G (fun t k => XS.icmpYes XJ.here hx rfl (pc0 := 233) (pc' := 240) rfl (hb hby at_233) rfl (feq hc131).2 (by decide) (by decide) (XS.iconst XJ.here hx rfl (hb hby at_240) k)) ?_
             show Go _ _ _ (TJ.setTop (mkF m 241 #[vj q1, .second, vj q2, .second, vj q3, .second, vi p4, vi p5, vi fa, vi ta, vi g1, vi u1, vi g2, vi u3, vi (p5 &&& (3 : Int32)), vi kf, vi pt, vi pf, vi x18, us, us, us, us, us, us, us, us, us, us] [(.int 0)])) _
             exact J11 _ _ (0 : Int32) XJ eJ NJ (if_neg (fun y => hc131 y.2)).symm
           ·refine G (fun t k => XS.icmpYes XJ.here hx rfl (pc0 := 226) (pc' := 240) rfl (hb hby at_226) rfl (feq hc130).2 (by decide) (by decide) (XS.iconst XJ.here hx rfl (hb hby at_240) k)) ?_
            show Go _ _ _ (TJ.setTop (mkF m 241 #[vj q1, .second, vj q2, .second, vj q3, .second, vi p4, vi p5, vi fa, vi ta, vi g1, vi u1, vi g2, vi u3, vi (p5 &&& (3 : Int32)), vi kf, vi pt, vi pf, vi x18, us, us, us, us, us, us, us, us, us, us] [(.int 0)])) _
            exact J11 _ _ (0 : Int32) XJ eJ NJ (if_neg (fun y => hc130 y.1)).symm
          refine G (fun t k => XS.iload XJ.here hx rfl (hb hby at_201) rfl (XS.iload XJ.here hx rfl (hb hby at_203) rfl k)) ?_
          by_cases hc132 : fa = g1
          ·refine G (fun t k => XS.icmpNo XJ.here hx rfl (hb hby at_205) rfl (teq hc132).2 (XS.iload XJ.here hx rfl (hb hby at_208) rfl (XS.iload XJ.here hx rfl (hb hby at_210) rfl k))) ?_
           by_cases hc133 : ta = u1
           ·refine G (fun t k => XS.icmpNo XJ.here hx rfl (hb hby at_212) rfl (teq hc133).2 (XS.iconst XJ.here hx rfl (hb hby at_215) k)) ?_
            show Go _ _ _ (TJ.setTop (mkF m 216 #[vj q1, .second, vj q2, .second, vj q3, .second, vi p4, vi p5, vi fa, vi ta, vi g1, vi u1, vi g2, vi u3, vi (p5 &&& (3 : Int32)), vi kf, vi pt, vi pf, us, us, us, us, us, us, us, us, us, us, us] [(.int 1)])) _
            refine G (fun t k => XS.goto XJ.here hx rfl (pc0 := 216) (pc' := 220) rfl (hb hby at_216) (by decide) (by decide) k) ?_
            show Go _ _ _ (TJ.setTop (mkF m 220 #[vj q1, .second, vj q2, .second, vj q3, .second, vi p4, vi p5, vi fa, vi ta, vi g1, vi u1, vi g2, vi u3, vi (p5 &&& (3 : Int32)), vi kf, vi pt, vi pf, us, us, us, us, us, us, us, us, us, us, us] [(.int 1)])) _
            exact J10 _ _ (1 : Int32) XJ eJ NJ (if_pos ⟨hc132, hc133⟩).symm
           ·refine G (fun t k => XS.icmpYes XJ.here hx rfl (pc0 := 212) (pc' := 219) rfl (hb hby at_212) rfl (feq hc133).2 (by decide) (by decide) (XS.iconst XJ.here hx rfl (hb hby at_219) k)) ?_
            show Go _ _ _ (TJ.setTop (mkF m 220 #[vj q1, .second, vj q2, .second, vj q3, .second, vi p4, vi p5, vi fa, vi ta, vi g1, vi u1, vi g2, vi u3, vi (p5 &&& (3 : Int32)), vi kf, vi pt, vi pf, us, us, us, us, us, us, us, us, us, us, us] [(.int 0)])) _
            exact J10 _ _ (0 : Int32) XJ eJ NJ (if_neg (fun y => hc133 y.2)).symm
          ·refine G (fun t k => XS.icmpYes XJ.here hx rfl (pc0 := 205) (pc' := 219) rfl (hb hby at_205) rfl (feq hc132).2 (by decide) (by decide) (XS.iconst XJ.here hx rfl (hb hby at_219) k)) ?_
           show Go _ _ _ (TJ.setTop (mkF m 220 #[vj q1, .second, vj q2, .second, vj q3, .second, vi p4, vi p5, vi fa, vi ta, vi g1, vi u1, vi g2, vi u3, vi (p5 &&& (3 : Int32)), vi kf, vi pt, vi pf, us, us, us, us, us, us, us, us, us, us, us] [(.int 0)])) _
           exact J10 _ _ (0 : Int32) XJ eJ NJ (if_neg (fun y => hc132 y.1)).symm
         refine G (fun t k => XS.iload XJ.here hx rfl (hb hby at_180) rfl (XS.iconst XJ.here hx rfl (hb hby at_182) (XS.iand XJ.here hx rfl (hb hby at_183) rfl k))) ?_
         by_cases hc134 : (p5 &&& (4 : Int32)) = (0 : Int32)
         ·refine G (fun t k => XS.ifYes XJ.here hx rfl (pc0 := 184) (pc' := 197) rfl (hb hby at_184) rfl ((if0 _ _).trans (teq hc134).1) (by decide) (by decide) (XS.iload XJ.here hx rfl (hb hby at_197) rfl k)) ?_
          show Go _ _ _ (TJ.setTop (mkF m 199 #[vj q1, .second, vj q2, .second, vj q3, .second, vi p4, vi p5, vi fa, vi ta, vi g1, vi u1, vi g2, vi u3, vi (p5 &&& (3 : Int32)), vi kf, vi pt, us, us, us, us, us, us, us, us, us, us, us, us] [(.int kf)])) _
          exact J9 _ _ kf XJ eJ NJ r_kf
         ·refine G (fun t k => XS.ifNo XJ.here hx rfl (hb hby at_184) rfl ((if0 _ _).trans (feq hc134).1) (XS.iload XJ.here hx rfl (hb hby at_187) rfl (XS.iconst XJ.here hx rfl (hb hby at_189) (XS.iushr XJ.here hx rfl (hb hby at_190) rfl k)))) ?_
          show Go _ _ _ (TJ.setTop (mkF m 191 #[vj q1, .second, vj q2, .second, vj q3, .second, vi p4, vi p5, vi fa, vi ta, vi g1, vi u1, vi g2, vi u3, vi (p5 &&& (3 : Int32)), vi kf, vi pt, us, us, us, us, us, us, us, us, us, us, us, us] [(.int ((p5.toUInt32 >>> ((3 : Int32) &&& 31).toUInt32).toInt32))])) _
          refine G (fun t k => XS.bipush XJ.here hx rfl (hb hby at_191) (XS.iand XJ.here hx rfl (hb hby at_193) rfl (XS.goto XJ.here hx rfl (pc0 := 194) (pc' := 199) rfl (hb hby at_194) (by decide) (by decide) k))) ?_
          show Go _ _ _ (TJ.setTop (mkF m 199 #[vj q1, .second, vj q2, .second, vj q3, .second, vi p4, vi p5, vi fa, vi ta, vi g1, vi u1, vi g2, vi u3, vi (p5 &&& (3 : Int32)), vi kf, vi pt, us, us, us, us, us, us, us, us, us, us, us, us] [(.int (((p5.toUInt32 >>> ((3 : Int32) &&& 31).toUInt32).toInt32) &&& (7 : Int32)))])) _
          exact J9 _ _ (((p5.toUInt32 >>> ((3 : Int32) &&& 31).toUInt32).toInt32) &&& (7 : Int32)) XJ eJ NJ (own_7 _)
        refine G (fun t k => XS.iload XJ.here hx rfl (hb hby at_141) rfl k) ?_
        by_cases hc135 : (p5 &&& (3 : Int32)) = (0 : Int32)
        ·refine G (fun t k => XS.ifNo XJ.here hx rfl (hb hby at_143) rfl ((if0 _ _).trans (teq hc135).2) (XS.iload XJ.here hx rfl (hb hby at_146) rfl (XS.goto XJ.here hx rfl (pc0 := 148) (pc' := 178) rfl (hb hby at_148) (by decide) (by decide) k))) ?_
         show Go _ _ _ (TJ.setTop (mkF m 178 #[vj q1, .second, vj q2, .second, vj q3, .second, vi p4, vi p5, vi fa, vi ta, vi g1, vi u1, vi g2, vi u3, vi (p5 &&& (3 : Int32)), vi kf, us, us, us, us, us, us, us, us, us, us, us, us, us] [(.int ta)])) _
         exact J8 _ _ ta XJ eJ NJ
        ·refine G (fun t k => XS.ifYes XJ.here hx rfl (pc0 := 143) (pc' := 151) rfl (hb hby at_143) rfl ((if0 _ _).trans (feq hc135).2) (by decide) (by decide) (XS.iload XJ.here hx rfl (hb hby at_151) rfl (XS.iconst XJ.here hx rfl (hb hby at_153) k))) ?_
         by_cases hc136 : (p5 &&& (3 : Int32)) = (1 : Int32)
         ·refine G (fun t k => XS.icmpNo XJ.here hx rfl (hb hby at_154) rfl (teq hc136).2 (XS.iload XJ.here hx rfl (hb hby at_157) rfl (XS.goto XJ.here hx rfl (pc0 := 159) (pc' := 178) rfl (hb hby at_159) (by decide) (by decide) k))) ?_
          show Go _ _ _ (TJ.setTop (mkF m 178 #[vj q1, .second, vj q2, .second, vj q3, .second, vi p4, vi p5, vi fa, vi ta, vi g1, vi u1, vi g2, vi u3, vi (p5 &&& (3 : Int32)), vi kf, us, us, us, us, us, us, us, us, us, us, us, us, us] [(.int u1)])) _
          exact J8 _ _ u1 XJ eJ NJ
         ·refine G (fun t k => XS.icmpYes XJ.here hx rfl (pc0 := 154) (pc' := 162) rfl (hb hby at_154) rfl (feq hc136).2 (by decide) (by decide) (XS.iload XJ.here hx rfl (hb hby at_162) rfl (XS.iconst XJ.here hx rfl (hb hby at_164) k))) ?_
          show Go _ _ _ (TJ.setTop (mkF m 165 #[vj q1, .second, vj q2, .second, vj q3, .second, vi p4, vi p5, vi fa, vi ta, vi g1, vi u1, vi g2, vi u3, vi (p5 &&& (3 : Int32)), vi kf, us, us, us, us, us, us, us, us, us, us, us, us, us] [(.int 2), (.int (p5 &&& (3 : Int32)))])) _
          by_cases hc137 : (p5 &&& (3 : Int32)) = (2 : Int32)
          ·refine G (fun t k => XS.icmpNo XJ.here hx rfl (hb hby at_165) rfl (teq hc137).2 (XS.iload XJ.here hx rfl (hb hby at_168) rfl (XS.goto XJ.here hx rfl (pc0 := 170) (pc' := 178) rfl (hb hby at_170) (by decide) (by decide) k))) ?_
           show Go _ _ _ (TJ.setTop (mkF m 178 #[vj q1, .second, vj q2, .second, vj q3, .second, vi p4, vi p5, vi fa, vi ta, vi g1, vi u1, vi g2, vi u3, vi (p5 &&& (3 : Int32)), vi kf, us, us, us, us, us, us, us, us, us, us, us, us, us] [(.int u3)])) _
           exact J8 _ _ u3 XJ eJ NJ
          ·refine G (fun t k => XS.icmpYes XJ.here hx rfl (pc0 := 165) (pc' := 173) rfl (hb hby at_165) rfl (feq hc137).2 (by decide) (by decide) (XS.iload XJ.here hx rfl (hb hby at_173) rfl (XS.bipush XJ.here hx rfl (hb hby at_175) (XS.iushr XJ.here hx rfl (hb hby at_177) rfl k)))) ?_
           show Go _ _ _ (TJ.setTop (mkF m 178 #[vj q1, .second, vj q2, .second, vj q3, .second, vi p4, vi p5, vi fa, vi ta, vi g1, vi u1, vi g2, vi u3, vi (p5 &&& (3 : Int32)), vi kf, us, us, us, us, us, us, us, us, us, us, us, us, us] [(.int ((p5.toUInt32 >>> ((6 : Int32) &&& 31).toUInt32).toInt32))])) _
           exact J8 _ _ ((p5.toUInt32 >>> ((6 : Int32) &&& 31).toUInt32).toInt32) XJ eJ NJ
       refine G (fun t k => XS.iload XJ.here hx rfl (hb hby at_116) rfl k) ?_
       by_cases hc138 : (p5 &&& (3 : Int32)) = (0 : Int32)
       ·refine G (fun t k => XS.ifNo XJ.here hx rfl (hb hby at_118) rfl ((if0 _ _).trans (teq hc138).2) (XS.iload XJ.here hx rfl (hb hby at_121) rfl (XS.goto XJ.here hx rfl (pc0 := 123) (pc' := 139) rfl (hb hby at_123) (by decide) (by decide) k))) ?_
        show Go _ _ _ (TJ.setTop (mkF m 139 #[vj q1, .second, vj q2, .second, vj q3, .second, vi p4, vi p5, vi fa, vi ta, vi g1, vi u1, vi g2, vi u3, vi (p5 &&& (3 : Int32)), us, us, us, us, us, us, us, us, us, us, us, us, us, us] [(.int fa)])) _
        exact J7 _ _ fa XJ eJ NJ r_fa
       ·refine G (fun t k => XS.ifYes XJ.here hx rfl (pc0 := 118) (pc' := 126) rfl (hb hby at_118) rfl ((if0 _ _).trans (feq hc138).2) (by decide) (by decide) (XS.iload XJ.here hx rfl (hb hby at_126) rfl (XS.iconst XJ.here hx rfl (hb hby at_128) k))) ?_
        by_cases hc139 : (p5 &&& (3 : Int32)) = (1 : Int32)
        ·refine G (fun t k => XS.icmpNo XJ.here hx rfl (hb hby at_129) rfl (teq hc139).2 (XS.iload XJ.here hx rfl (hb hby at_132) rfl (XS.goto XJ.here hx rfl (pc0 := 134) (pc' := 139) rfl (hb hby at_134) (by decide) (by decide) k))) ?_
         show Go _ _ _ (TJ.setTop (mkF m 139 #[vj q1, .second, vj q2, .second, vj q3, .second, vi p4, vi p5, vi fa, vi ta, vi g1, vi u1, vi g2, vi u3, vi (p5 &&& (3 : Int32)), us, us, us, us, us, us, us, us, us, us, us, us, us, us] [(.int g1)])) _
         exact J7 _ _ g1 XJ eJ NJ r_g1
        ·refine G (fun t k => XS.icmpYes XJ.here hx rfl (pc0 := 129) (pc' := 137) rfl (hb hby at_129) rfl (feq hc139).2 (by decide) (by decide) (XS.iload XJ.here hx rfl (hb hby at_137) rfl k)) ?_
         show Go _ _ _ (TJ.setTop (mkF m 139 #[vj q1, .second, vj q2, .second, vj q3, .second, vi p4, vi p5, vi fa, vi ta, vi g1, vi u1, vi g2, vi u3, vi (p5 &&& (3 : Int32)), us, us, us, us, us, us, us, us, us, us, us, us, us, us] [(.int g2)])) _
         exact J7 _ _ g2 XJ eJ NJ r_g2
      refine G (fun t k => XS.iload XJ.here hx rfl (hb hby at_98) rfl (XS.bipush XJ.here hx rfl (hb hby at_100) (XS.iand XJ.here hx rfl (hb hby at_102) rfl k))) ?_
      by_cases hc140 : (p4 &&& (16 : Int32)) = (0 : Int32)
      ·refine G (fun t k => XS.ifYes XJ.here hx rfl (pc0 := 103) (pc' := 110) rfl (hb hby at_103) rfl ((if0 _ _).trans (teq hc140).1) (by decide) (by decide) k) ?_
       show Go _ _ _ (TJ.setTop (mkF m 110 #[vj q1, .second, vj q2, .second, vj q3, .second, vi p4, vi p5, vi fa, vi ta, vi g1, vi u1, vi fc, vi u3, us, us, us, us, us, us, us, us, us, us, us, us, us, us, us] [])) _
       exact J6 _ _ fc XJ eJ NJ r_fc
      ·refine G (fun t k => XS.ifNo XJ.here hx rfl (hb hby at_103) rfl ((if0 _ _).trans (feq hc140).1) (XS.iload XJ.here hx rfl (hb hby at_106) rfl (XS.istore XJ.here hx rfl (hb hby at_108) rfl (l' := #[vj q1, .second, vj q2, .second, vj q3, .second, vi p4, vi p5, vi fa, vi ta, vi g1, vi u1, vi g1, vi u3, us, us, us, us, us, us, us, us, us, us, us, us, us, us, us]) rfl k))) ?_
       show Go _ _ _ (TJ.setTop (mkF m 110 #[vj q1, .second, vj q2, .second, vj q3, .second, vi p4, vi p5, vi fa, vi ta, vi g1, vi u1, vi g1, vi u3, us, us, us, us, us, us, us, us, us, us, us, us, us, us, us] [])) _
       exact J6 _ _ g1 XJ eJ NJ r_g1
     refine G (fun t k => XS.iload XJ.here hx rfl (hb hby at_86) rfl (XS.bipush XJ.here hx rfl (hb hby at_88) (XS.iand XJ.here hx rfl (hb hby at_90) rfl k))) ?_
     by_cases hc141 : (p4 &&& (8 : Int32)) = (0 : Int32)
     ·refine G (fun t k => XS.ifYes XJ.here hx rfl (pc0 := 91) (pc' := 98) rfl (hb hby at_91) rfl ((if0 _ _).trans (teq hc141).1) (by decide) (by decide) k) ?_
      show Go _ _ _ (TJ.setTop (mkF m 98 #[vj q1, .second, vj q2, .second, vj q3, .second, vi p4, vi p5, vi fa, vi ta, vi fb, vi u1, vi fc, vi u3, us, us, us, us, us, us, us, us, us, us, us, us, us, us, us] [])) _
      exact J5 _ _ fb XJ eJ NJ r_fb
     ·refine G (fun t k => XS.ifNo XJ.here hx rfl (hb hby at_91) rfl ((if0 _ _).trans (feq hc141).1) (XS.iload XJ.here hx rfl (hb hby at_94) rfl (XS.istore XJ.here hx rfl (hb hby at_96) rfl (l' := #[vj q1, .second, vj q2, .second, vj q3, .second, vi p4, vi p5, vi fa, vi ta, vi fa, vi u1, vi fc, vi u3, us, us, us, us, us, us, us, us, us, us, us, us, us, us, us]) rfl k))) ?_
      show Go _ _ _ (TJ.setTop (mkF m 98 #[vj q1, .second, vj q2, .second, vj q3, .second, vi p4, vi p5, vi fa, vi ta, vi fa, vi u1, vi fc, vi u3, us, us, us, us, us, us, us, us, us, us, us, us, us, us, us] [])) _
      exact J5 _ _ fa XJ eJ NJ r_fa
    refine G (fun t k => XS.iload XJ.here hx rfl (hb hby at_75) rfl (XS.iconst XJ.here hx rfl (hb hby at_77) (XS.iand XJ.here hx rfl (hb hby at_78) rfl k))) ?_
    by_cases hc142 : (p4 &&& (4 : Int32)) = (0 : Int32)
    ·refine G (fun t k => XS.ifYes XJ.here hx rfl (pc0 := 79) (pc' := 86) rfl (hb hby at_79) rfl ((if0 _ _).trans (teq hc142).1) (by decide) (by decide) k) ?_
     show Go _ _ _ (TJ.setTop (mkF m 86 #[vj q1, .second, vj q2, .second, vj q3, .second, vi p4, vi p5, vi fa, vi ta, vi fb, vi u1, vi fc, vi u2, us, us, us, us, us, us, us, us, us, us, us, us, us, us, us] [])) _
     exact J4 _ _ u2 XJ eJ NJ r_u2
    ·refine G (fun t k => XS.ifNo XJ.here hx rfl (hb hby at_79) rfl ((if0 _ _).trans (feq hc142).1) (XS.iload XJ.here hx rfl (hb hby at_82) rfl (XS.istore XJ.here hx rfl (hb hby at_84) rfl (l' := #[vj q1, .second, vj q2, .second, vj q3, .second, vi p4, vi p5, vi fa, vi ta, vi fb, vi u1, vi fc, vi u1, us, us, us, us, us, us, us, us, us, us, us, us, us, us, us]) rfl k))) ?_
     show Go _ _ _ (TJ.setTop (mkF m 86 #[vj q1, .second, vj q2, .second, vj q3, .second, vi p4, vi p5, vi fa, vi ta, vi fb, vi u1, vi fc, vi u1, us, us, us, us, us, us, us, us, us, us, us, us, us, us, us] [])) _
     exact J4 _ _ u1 XJ eJ NJ r_u1
   refine G (fun t k => XS.iload XJ.here hx rfl (hb hby at_64) rfl (XS.iconst XJ.here hx rfl (hb hby at_66) (XS.iand XJ.here hx rfl (hb hby at_67) rfl k))) ?_
   by_cases hc143 : (p4 &&& (2 : Int32)) = (0 : Int32)
   ·refine G (fun t k => XS.ifYes XJ.here hx rfl (pc0 := 68) (pc' := 75) rfl (hb hby at_68) rfl ((if0 _ _).trans (teq hc143).1) (by decide) (by decide) k) ?_
    show Go _ _ _ (TJ.setTop (mkF m 75 #[vj q1, .second, vj q2, .second, vj q3, .second, vi p4, vi p5, vi fa, vi ta, vi fb, vi u1, vi fc, vi tc, us, us, us, us, us, us, us, us, us, us, us, us, us, us, us] [])) _
    exact J3 _ _ tc XJ eJ NJ r_tc
   ·refine G (fun t k => XS.ifNo XJ.here hx rfl (hb hby at_68) rfl ((if0 _ _).trans (feq hc143).1) (XS.iload XJ.here hx rfl (hb hby at_71) rfl (XS.istore XJ.here hx rfl (hb hby at_73) rfl (l' := #[vj q1, .second, vj q2, .second, vj q3, .second, vi p4, vi p5, vi fa, vi ta, vi fb, vi u1, vi fc, vi ta, us, us, us, us, us, us, us, us, us, us, us, us, us, us, us]) rfl k))) ?_
    show Go _ _ _ (TJ.setTop (mkF m 75 #[vj q1, .second, vj q2, .second, vj q3, .second, vi p4, vi p5, vi fa, vi ta, vi fb, vi u1, vi fc, vi ta, us, us, us, us, us, us, us, us, us, us, us, us, us, us, us] [])) _
    exact J3 _ _ ta XJ eJ NJ r_ta
  refine G (fun t k => XS.iload XJ.here hx rfl (hb hby at_53) rfl (XS.iconst XJ.here hx rfl (hb hby at_55) (XS.iand XJ.here hx rfl (hb hby at_56) rfl k))) ?_
  by_cases hc144 : (p4 &&& (1 : Int32)) = (0 : Int32)
  ·refine G (fun t k => XS.ifYes XJ.here hx rfl (pc0 := 57) (pc' := 64) rfl (hb hby at_57) rfl ((if0 _ _).trans (teq hc144).1) (by decide) (by decide) k) ?_
   show Go _ _ _ (TJ.setTop (mkF m 64 #[vj q1, .second, vj q2, .second, vj q3, .second, vi p4, vi p5, vi fa, vi ta, vi fb, vi tb, vi fc, vi tc, us, us, us, us, us, us, us, us, us, us, us, us, us, us, us] [])) _
   exact J2 _ _ tb XJ eJ NJ r_tb
  ·refine G (fun t k => XS.ifNo XJ.here hx rfl (hb hby at_57) rfl ((if0 _ _).trans (feq hc144).1) (XS.iload XJ.here hx rfl (hb hby at_60) rfl (XS.istore XJ.here hx rfl (hb hby at_62) rfl (l' := #[vj q1, .second, vj q2, .second, vj q3, .second, vi p4, vi p5, vi fa, vi ta, vi fb, vi ta, vi fc, vi tc, us, us, us, us, us, us, us, us, us, us, us, us, us, us, us]) rfl k))) ?_
   show Go _ _ _ (TJ.setTop (mkF m 64 #[vj q1, .second, vj q2, .second, vj q3, .second, vi p4, vi p5, vi fa, vi ta, vi fb, vi ta, vi fc, vi tc, us, us, us, us, us, us, us, us, us, us, us, us, us, us, us] [])) _
   exact J2 _ _ ta XJ eJ NJ r_ta
 exact J1 _ _ ((((q1.toUInt64 >>> ((32 : Int32) &&& 0x3f).toInt64.toUInt64).toInt64).toInt32) &&& (7 : Int32)) ((q1.toInt32) &&& (2147483647 : Int32)) ((((q2.toUInt64 >>> ((32 : Int32) &&& 0x3f).toInt64.toUInt64).toInt64).toInt32) &&& (7 : Int32)) ((q2.toInt32) &&& (2147483647 : Int32)) ((((q3.toUInt64 >>> ((32 : Int32) &&& 0x3f).toInt64.toUInt64).toInt64).toInt32) &&& (7 : Int32)) ((q3.toInt32) &&& (2147483647 : Int32)) X0 e0 N0 (own_7 _) (own_nn _) (own_7 _) (own_nn _) (own_7 _) (own_nn _)
theorem comes_1 {Post : Tables → Env → Array Value → State → Outcome → State → Prop} (hpost : ∀ tb e args s v u, (limb_1_1.after args s (.returned v) u = true ∧ limb_1_2.after args s (.returned v) u = true ∧ True) → FrameEnd s (.returned v) u (Jvm.fieldLocs frame_1_writes args s ++ Jvm.arrayLocs frame_1_arrays args s ++ Jvm.staticLocs frame_1_statics s) 24 192 → Post tb e args s (.returned v) u) :
  ArmFor flags0 classFile x code maxLocals ret World_1 tables_1 room_1 Calls_1 rest_1 Pre_1 Post := by
 intro l hfl _ _ p e ha hc hk s m args below hf hA hF happ hP
 obtain ⟨hcalls, hrest, hpre⟩ := hP
 obtain ⟨-, -, -, hnamed, -, -, -, hat⟩ := (Spec.applies_iff hf).mp happ
 obtain ⟨hg, hn⟩ := and_e (Cond.before_iff.mp (show (Jvm.Cond.and given_1 narrow_1).before args s = true from hpre))
 obtain ⟨g1, g2⟩ := and_e hg
 obtain ⟨g3, g4⟩ := and_e g2
 obtain ⟨g5, g6⟩ := and_e g4
 obtain ⟨g7, g8⟩ := and_e g6
 obtain ⟨g9, g10⟩ := and_e g8
 obtain ⟨w0, w1, w2, w3, w4, rfl⟩ : ∃ w0 w1 w2 w3 w4 : Value, args = #[w0, w1, w2, w3, w4] := by
  have hs : args.size = 5 := by simpa [Cond.value, given_1] using g1
  obtain ⟨L⟩ := args
  match L, hs with
  | [w0, w1, w2, w3, w4], _ => exact ⟨w0, w1, w2, w3, w4, rfl⟩
 have hw := fun d (hd : d ∈ tables_1) => atoms_spec (ws := Jvm.Cond.code x code maxLocals ret :: tables_1) hat d (List.mem_cons_of_mem _ hd)
 have hfit : Fit s := fun {y c} hc i hi => by
  obtain ⟨ha, rfl⟩ := Array.getElem?_eq_some_iff.mp hc
  have q := List.all_eq_true.mp ((Array.all_eq_true_iff_forall_mem.mp hF) _ (Array.getElem_mem ha)) i (List.mem_range.mpr hi)
  simpa [Array.getElem?_eq_getElem hi] using q
 obtain ⟨i0, ei0⟩ := isL_v g3
 obtain rfl : w0 = (.long i0) := Option.some.inj ei0
 obtain ⟨i1, ei1⟩ := isL_v g5
 obtain rfl : w1 = (.long i1) := Option.some.inj ei1
 obtain ⟨i2, ei2⟩ := isL_v g7
 obtain rfl : w2 = (.long i2) := Option.some.inj ei2
 obtain ⟨i3, ei3⟩ := is_v g9
 obtain rfl : w3 = (.int i3) := Option.some.inj ei3
 obtain ⟨i4, ei4⟩ := is_v g10
 obtain rfl : w4 = (.int i4) := Option.some.inj ei4
 have hplain := trivial
 obtain ⟨n, o, h1, h2, h3, _, L, rfl, ⟨rfl, N⟩, hq⟩ := rm0 l s _ hw tables_1 i0 i1 i2 i3 i4 s.heap s.heap.size (Nat.le_refl _)  p e ha hc hk s m _ below hf ((Spec.applies_iff_loose hf).mp happ).1 ⟨rfl, State.Warmed39.refl s, rfl⟩ trivial
 refine ⟨n, _, h1, h2, h3, hpost _ _ _ _ _ _ ⟨Cond.after_iff.mpr rfl, Cond.after_iff.mpr (eq_i res_at (Term.int_eval (1)) rfl), trivial⟩ ⟨hq.1, hq.2.1, (hq.2.2.sift fun y hy => Or.inr (N y hy)).mono (by decide) (by decide)⟩⟩
theorem main_1_1 : Claimed_1_1 := comes_1 fun _ _ _ _ _ _ h hF => ⟨h.1, hF⟩
theorem main_1_2 : Claimed_1_2 := comes_1 fun _ _ _ _ _ _ h hF => ⟨h.2.1, hF⟩
end Jvm.Pilot.@@N@@
namespace Jvm.Pilot.@@N@@
open Jvm Jvm.ClassFile Sem Op Lib Jvm.Free Jvm.Stand Jvm.Pilot.@@N@@.Jvm.D
/-! MADE BY PROGRAM (witnessworld.py) out of the Statement's table words and the real class files: 16 classes; the members and pool entries that the words name. The judged class is class 1, her method 1. -/
namespace start1
open Jvm.ClassFile
def u (s : String) : CpInfo := .utf8 (stringToUtf16 s)
/-- a pool by its gaps: so many unusable entries, then the entry; so many at the end -/
def gap : Nat → List CpInfo → List CpInfo
  | 0, r => r
  | n + 1, r => .unusable :: gap n r
def poolList (es : List (Nat × CpInfo)) (last : Nat) : List CpInfo := es.foldr (fun e r => gap e.1 (e.2 :: r)) (gap last [])
def pool (es : List (Nat × CpInfo)) (last : Nat) : Array CpInfo := ⟨poolList es last⟩
def fileOf (pool : Array CpInfo) (this : Nat) (attrs : Array Attribute := #[]) (ms : Array MethodInfo := #[]) (fl : Nat := 33) (sup : Nat := 0) (ifs : Array Nat := #[]) (fds : Array FieldInfo := #[]) : ClassFile where
  minorVersion := 0
  majorVersion := 65
  constantPool := pool
  accessFlags := fl
  thisClass := this
  superClass := sup
  interfaces := ifs
  fields := fds
  methods := ms
  attributes := attrs
def plain (name : String) (sup : Option ClassId) : Class where
  name := name
  kind := .ordinary
  loader := none
  accessFlags := 33
  super := sup
  interfaces := #[]
  cf := none
  fields := #[]
  methods := #[]
  instanceTypes := #[]
  staticTypes := #[]
  resolved := #[]
  callSites := []
  init := .initialized
  statics := none
  mirror := none

def pool0 : Array CpInfo := pool [(5, u "<init>"), (0, u "()V"), (1, .class_ 10), (1, u "java/lang/Object"), (85, u "clone"), (0, u "()Ljava/lang/Object;")] 26

def k0c0 : Code := { maxStack := 0, maxLocals := 1, code := object_method_1_code, exceptionTable := #[], attributes := #[] }
def k0m0 : Method := { name := "<init>", desc := "()V", sig := { parameters := [], returnType := none }, accessFlags := 1, code := some k0c0 }
def k0m1 : Method := { name := "clone", desc := "()Ljava/lang/Object;", sig := { parameters := [], returnType := some (.object "java/lang/Object") }, accessFlags := 260, code := none }
/-- java/lang/Object -/
def k0 : Class := { plain "java/lang/Object" none with
  accessFlags := 33
  interfaces := #[]
  cf := some (fileOf pool0 8 #[] #[{ accessFlags := 1, nameIndex := 5, descriptorIndex := 6, attributes := #[] }, { accessFlags := 260, nameIndex := 96, descriptorIndex := 97, attributes := #[] }] 33 0 #[] #[])
  fields := #[]
  methods := #[k0m0, k0m1]
  instanceTypes := #[]
  staticTypes := #[]
  resolved := Array.replicate 124 none
  statics := none }

def pool1 : Array CpInfo := pool [(2, .class_ 4), (0, .nameAndType 5 6), (0, u "java/lang/Object"), (0, u "<init>"), (0, u "()V"), (0, .integer 2147483647), (2, .methodref 11 12), (0, .class_ 13), (0, .nameAndType 14 15), (0, u "java/lang/Math"), (0, u "min"), (0, u "(II)I"), (0, .class_ 17), (0, u "com/example/tripletype/tripletype/Relation$Builder"), (0, .methodref 16 3), (0, .methodref 16 20), (0, .nameAndType 21 22), (0, u "add"), (0, u "(II)V"), (0, .methodref 16 24), (0, .nameAndType 25 26), (0, u "build"), (0, u "(I)Lcom/example/tripletype/tripletype/Relation;"), (0, .methodref 28 29), (0, .class_ 30), (0, .nameAndType 31 32), (0, u "com/example/tripletype/tripletype/Relation"), (0, u "pairCount"), (0, u "()I"), (0, .methodref 28 34), (0, .nameAndType 35 36), (0, u "contains"), (0, u "(II)Z"), (0, .methodref 28 38), (0, .nameAndType 39 40), (0, u "start"), (0, u "(I)I"), (0, .methodref 28 42), (0, .nameAndType 43 40), (0, u "end"), (0, .methodref 28 45), (0, .nameAndType 46 40), (0, u "target"), (0, .class_ 48), (0, u "com/example/tripletype/tripletype/BuilderAddPinLaw"), (2, u "law"), (0, u "(JJJII)Z")] 5

def k1m0 : Method := { name := "<init>", desc := "()V", sig := { parameters := [], returnType := none }, accessFlags := 1, code := none }
def k1c1 : Code := { maxStack := 3, maxLocals := 29, code := code, exceptionTable := #[], attributes := #[] }
def k1m1 : Method := { name := "law", desc := "(JJJII)Z", sig := { parameters := [.long, .long, .long, .int, .int], returnType := some .boolean }, accessFlags := 9, code := some k1c1 }
/-- com/example/tripletype/tripletype/BuilderAddPinLaw -/
def k1 : Class := { plain "com/example/tripletype/tripletype/BuilderAddPinLaw" (some 0) with
  accessFlags := 49
  interfaces := #[]
  cf := some (fileOf pool1 47 #[] #[{ accessFlags := 1, nameIndex := 5, descriptorIndex := 6, attributes := #[] }, { accessFlags := 9, nameIndex := 51, descriptorIndex := 52, attributes := #[] }] 49 2 #[] #[])
  fields := #[]
  methods := #[k1m0, k1m1]
  instanceTypes := #[]
  staticTypes := #[]
  resolved := Array.replicate 58 none
  statics := none }

def pool2 : Array CpInfo := pool [(1, .class_ 2), (0, u "java/lang/Math"), (1, .class_ 6), (1, u "java/lang/Object"), (0, u "<init>"), (0, u "()V"), (89, .class_ 100), (1, u "java/lang/Math$RandomNumberGeneratorHolder"), (71, u "negativeZeroFloatBits"), (0, u "J"), (2, u "negativeZeroDoubleBits"), (24, u "min"), (43, u "$assertionsDisabled"), (0, u "Z"), (88, u "(II)I"), (2, u "twoToTheDoubleScaleDown"), (0, u "D"), (4, u "twoToTheDoubleScaleUp"), (9, u "E"), (3, u "PI"), (2, u "TAU"), (2, u "DEGREES_TO_RADIANS"), (0, u "RADIANS_TO_DEGREES")] 94

def k2m0 : Method := { name := "<init>", desc := "()V", sig := { parameters := [], returnType := none }, accessFlags := 2, code := none }
def k2c1 : Code := { maxStack := 2, maxLocals := 2, code := jdk_29_method_69_code, exceptionTable := #[], attributes := #[] }
def k2m1 : Method := { name := "min", desc := "(II)I", sig := { parameters := [.int, .int], returnType := some .int }, accessFlags := 9, code := some k2c1 }
/-- java/lang/Math -/
def k2 : Class := { plain "java/lang/Math" (some 0) with
  accessFlags := 49
  interfaces := #[]
  cf := some (fileOf pool2 1 #[.nestMembers #[98]] #[{ accessFlags := 2, nameIndex := 7, descriptorIndex := 8, attributes := #[] }, { accessFlags := 9, nameIndex := 201, descriptorIndex := 335, attributes := #[] }] 49 4 #[] #[{ accessFlags := 25, nameIndex := 354, descriptorIndex := 339, attributes := #[] }, { accessFlags := 25, nameIndex := 358, descriptorIndex := 339, attributes := #[] }, { accessFlags := 25, nameIndex := 361, descriptorIndex := 339, attributes := #[] }, { accessFlags := 26, nameIndex := 364, descriptorIndex := 339, attributes := #[] }, { accessFlags := 26, nameIndex := 365, descriptorIndex := 339, attributes := #[] }, { accessFlags := 26, nameIndex := 172, descriptorIndex := 173, attributes := #[] }, { accessFlags := 26, nameIndex := 176, descriptorIndex := 173, attributes := #[] }, { accessFlags := 8, nameIndex := 344, descriptorIndex := 339, attributes := #[] }, { accessFlags := 8, nameIndex := 338, descriptorIndex := 339, attributes := #[] }, { accessFlags := 4120, nameIndex := 245, descriptorIndex := 246, attributes := #[] }])
  fields := #[{ name := "E", type := .double, accessFlags := 25, slot := 0, constantValue := 0 }, { name := "PI", type := .double, accessFlags := 25, slot := 1, constantValue := 0 }, { name := "TAU", type := .double, accessFlags := 25, slot := 2, constantValue := 0 }, { name := "DEGREES_TO_RADIANS", type := .double, accessFlags := 26, slot := 3, constantValue := 0 }, { name := "RADIANS_TO_DEGREES", type := .double, accessFlags := 26, slot := 4, constantValue := 0 }, { name := "negativeZeroFloatBits", type := .long, accessFlags := 26, slot := 5, constantValue := 0 }, { name := "negativeZeroDoubleBits", type := .long, accessFlags := 26, slot := 6, constantValue := 0 }, { name := "twoToTheDoubleScaleUp", type := .double, accessFlags := 8, slot := 7, constantValue := 0 }, { name := "twoToTheDoubleScaleDown", type := .double, accessFlags := 8, slot := 8, constantValue := 0 }, { name := "$assertionsDisabled", type := .boolean, accessFlags := 4120, slot := 9, constantValue := 0 }]
  methods := #[k2m0, k2m1]
  instanceTypes := #[]
  staticTypes := #[.double, .double, .double, .double, .double, .long, .long, .double, .double, .boolean]
  resolved := Array.replicate 460 none
  statics := none }

def pool3 : Array CpInfo := pool [(1, .methodref 2 3), (0, .class_ 4), (0, .nameAndType 5 6), (0, u "java/lang/Object"), (0, u "<init>"), (0, u "()V"), (0, .fieldref 8 9), (0, .class_ 10), (0, .nameAndType 11 12), (0, u "com/example/tripletype/tripletype/Relation$Builder"), (0, u "pairs"), (0, u "[J"), (0, .fieldref 8 14), (0, .nameAndType 15 16), (0, u "size"), (0, u "I"), (0, .methodref 18 19), (0, .class_ 20), (0, .nameAndType 21 22), (0, u "java/util/Arrays"), (0, u "copyOf"), (0, u "([JI)[J"), (0, .methodref 18 24), (0, .nameAndType 25 26), (0, u "sort"), (0, u "([J)V"), (0, .class_ 28), (0, u "com/example/tripletype/tripletype/Relation"), (0, .methodref 18 30), (0, .nameAndType 21 31), (0, u "([II)[I"), (0, .methodref 27 33), (0, .nameAndType 5 34), (0, u "([I[I)V"), (2, u "add"), (0, u "(II)V"), (1, u "build"), (0, u "(I)Lcom/example/tripletype/tripletype/Relation;")] 8

def k3c0 : Code := { maxStack := 2, maxLocals := 1, code := prog_9_method_1_code, exceptionTable := #[], attributes := #[] }
def k3m0 : Method := { name := "<init>", desc := "()V", sig := { parameters := [], returnType := none }, accessFlags := 0, code := some k3c0 }
def k3c1 : Code := { maxStack := 6, maxLocals := 3, code := prog_9_method_2_code, exceptionTable := #[], attributes := #[] }
def k3m1 : Method := { name := "add", desc := "(II)V", sig := { parameters := [.int, .int], returnType := none }, accessFlags := 0, code := some k3c1 }
def k3c2 : Code := { maxStack := 5, maxLocals := 7, code := prog_9_method_3_code, exceptionTable := #[], attributes := #[] }
def k3m2 : Method := { name := "build", desc := "(I)Lcom/example/tripletype/tripletype/Relation;", sig := { parameters := [.int], returnType := some (.object "com/example/tripletype/tripletype/Relation") }, accessFlags := 0, code := some k3c2 }
/-- com/example/tripletype/tripletype/Relation$Builder -/
def k3 : Class := { plain "com/example/tripletype/tripletype/Relation$Builder" (some 0) with
  accessFlags := 48
  interfaces := #[]
  cf := some (fileOf pool3 8 #[.nestHost 27] #[{ accessFlags := 0, nameIndex := 5, descriptorIndex := 6, attributes := #[] }, { accessFlags := 0, nameIndex := 37, descriptorIndex := 38, attributes := #[] }, { accessFlags := 0, nameIndex := 40, descriptorIndex := 41, attributes := #[] }] 48 2 #[] #[{ accessFlags := 2, nameIndex := 11, descriptorIndex := 12, attributes := #[] }, { accessFlags := 2, nameIndex := 15, descriptorIndex := 16, attributes := #[] }])
  fields := #[{ name := "pairs", type := (.array .long), accessFlags := 2, slot := 0, constantValue := 0 }, { name := "size", type := .int, accessFlags := 2, slot := 1, constantValue := 0 }]
  methods := #[k3m0, k3m1, k3m2]
  instanceTypes := #[(.array .long), .int]
  staticTypes := #[]
  resolved := Array.replicate 50 none
  statics := none }

def pool4 : Array CpInfo := pool [(2, .class_ 4), (1, u "java/lang/Object"), (0, u "<init>"), (0, u "()V"), (1, .class_ 10), (1, u "java/util/DualPivotQuicksort"), (0, u "sort"), (1, .methodref 14 15), (0, .class_ 16), (0, .nameAndType 17 18), (0, u "java/util/Arrays"), (0, u "rangeCheck"), (0, u "(III)V"), (0, .methodref 8 20), (0, .nameAndType 11 21), (0, u "([JIII)V"), (52, .class_ 76), (1, u "java/util/Arrays$NaturalOrder"), (32, u "()Ljava/lang/Object;"), (3, .class_ 115), (1, u "java/util/Arrays$LegacyMergeSort"), (1, u "Z"), (10, .nameAndType 129 109), (0, u "clone"), (20, .methodref 151 152), (0, .class_ 153), (0, .nameAndType 154 155), (0, u "java/lang/System"), (0, u "arraycopy"), (0, u "(Ljava/lang/Object;ILjava/lang/Object;II)V"), (51, u "binarySearch0"), (1, .methodref 14 210), (0, .nameAndType 207 211), (0, u "([IIII)I"), (90, u "copyOf"), (1, .methodref 305 306), (0, .class_ 307), (0, .nameAndType 308 309), (0, u "java/lang/Math"), (0, u "min"), (0, u "(II)I"), (6, .methodref 317 128), (0, .class_ 318), (0, u "[I"), (56, .class_ 376), (0, u "java/util/Arrays$ArrayList"), (68, u "$assertionsDisabled"), (269, u "MIN_ARRAY_SORT_GRAN"), (0, u "I"), (2, u "INSERTIONSORT_THRESHOLD"), (11, u "([J)V"), (62, u "binarySearch"), (76, u "([II)[I"), (0, u "([JI)[J"), (102, .class_ 976), (0, u "java/util/Arrays$ArrayItr")] 52

def k4m0 : Method := { name := "<init>", desc := "()V", sig := { parameters := [], returnType := none }, accessFlags := 2, code := none }
def k4c1 : Code := { maxStack := 4, maxLocals := 1, code := jdk_65_method_4_code, exceptionTable := #[], attributes := #[] }
def k4m1 : Method := { name := "sort", desc := "([J)V", sig := { parameters := [(.array .long)], returnType := none }, accessFlags := 9, code := some k4c1 }
def k4c2 : Code := { maxStack := 4, maxLocals := 3, code := jdk_65_method_30_code, exceptionTable := #[], attributes := #[] }
def k4m2 : Method := { name := "rangeCheck", desc := "(III)V", sig := { parameters := [.int, .int, .int], returnType := none }, accessFlags := 8, code := some k4c2 }
def k4c3 : Code := { maxStack := 4, maxLocals := 4, code := jdk_65_method_58_code, exceptionTable := #[], attributes := #[] }
def k4m3 : Method := { name := "binarySearch", desc := "([IIII)I", sig := { parameters := [(.array .int), .int, .int, .int], returnType := some .int }, accessFlags := 9, code := some k4c3 }
def k4c4 : Code := { maxStack := 2, maxLocals := 8, code := jdk_65_method_59_code, exceptionTable := #[], attributes := #[] }
def k4m4 : Method := { name := "binarySearch0", desc := "([IIII)I", sig := { parameters := [(.array .int), .int, .int, .int], returnType := some .int }, accessFlags := 10, code := some k4c4 }
def k4c5 : Code := { maxStack := 6, maxLocals := 3, code := jdk_65_method_123_code, exceptionTable := #[], attributes := #[] }
def k4m5 : Method := { name := "copyOf", desc := "([II)[I", sig := { parameters := [(.array .int), .int], returnType := some (.array .int) }, accessFlags := 9, code := some k4c5 }
def k4c6 : Code := { maxStack := 6, maxLocals := 3, code := jdk_65_method_124_code, exceptionTable := #[], attributes := #[] }
def k4m6 : Method := { name := "copyOf", desc := "([JI)[J", sig := { parameters := [(.array .long), .int], returnType := some (.array .long) }, accessFlags := 9, code := some k4c6 }
/-- java/util/Arrays -/
def k4 : Class := { plain "java/util/Arrays" (some 0) with
  accessFlags := 49
  interfaces := #[]
  cf := some (fileOf pool4 14 #[.nestMembers #[975, 375, 113, 74]] #[{ accessFlags := 2, nameIndex := 5, descriptorIndex := 6, attributes := #[] }, { accessFlags := 9, nameIndex := 11, descriptorIndex := 731, attributes := #[] }, { accessFlags := 8, nameIndex := 17, descriptorIndex := 18, attributes := #[] }, { accessFlags := 9, nameIndex := 794, descriptorIndex := 211, attributes := #[] }, { accessFlags := 10, nameIndex := 207, descriptorIndex := 211, attributes := #[] }, { accessFlags := 9, nameIndex := 302, descriptorIndex := 871, attributes := #[] }, { accessFlags := 9, nameIndex := 302, descriptorIndex := 872, attributes := #[] }] 49 2 #[] #[{ accessFlags := 26, nameIndex := 715, descriptorIndex := 716, attributes := #[] }, { accessFlags := 26, nameIndex := 719, descriptorIndex := 716, attributes := #[] }, { accessFlags := 4120, nameIndex := 445, descriptorIndex := 117, attributes := #[] }])
  fields := #[{ name := "MIN_ARRAY_SORT_GRAN", type := .int, accessFlags := 26, slot := 0, constantValue := 0 }, { name := "INSERTIONSORT_THRESHOLD", type := .int, accessFlags := 26, slot := 1, constantValue := 0 }, { name := "$assertionsDisabled", type := .boolean, accessFlags := 4120, slot := 2, constantValue := 0 }]
  methods := #[k4m0, k4m1, k4m2, k4m3, k4m4, k4m5, k4m6]
  instanceTypes := #[]
  staticTypes := #[.int, .int, .boolean]
  resolved := Array.replicate 1029 none
  statics := none }

def pool5 : Array CpInfo := pool [(2, .class_ 4), (1, u "java/lang/Object"), (0, u "<init>"), (0, u "()V"), (1, .class_ 10), (1, u "java/lang/System"), (0, u "allowSecurityManager"), (0, u "I"), (16, u "cons"), (0, u "Ljava/io/Console;"), (77, .class_ 110), (1, u "java/lang/System$CallersHolder"), (43, u "initialErrStream"), (0, u "Ljava/io/PrintStream;"), (19, u "security"), (0, u "Ljava/lang/SecurityManager;"), (31, .class_ 209), (0, u "java/lang/System$1"), (7, u "props"), (0, u "Ljava/util/Properties;"), (2, u "lineSeparator"), (0, u "Ljava/lang/String;"), (96, .class_ 321), (1, u "java/lang/System$LoggerFinder"), (5, .class_ 328), (0, u "java/lang/System$Logger"), (67, u "err"), (2, u "out"), (91, u "notSupportedJnuEncoding"), (15, u "in"), (17, u "initialIn"), (0, u "Ljava/io/InputStream;"), (35, u "bootLayer"), (0, u "Ljava/lang/ModuleLayer;"), (99, .class_ 664), (0, u "java/lang/System$2"), (9, u "NEVER"), (2, u "MAYBE"), (49, u "arraycopy"), (0, u "(Ljava/lang/Object;ILjava/lang/Object;II)V"), (72, .class_ 802), (0, u "java/lang/System$Logger$Level")] 31

def k5m0 : Method := { name := "<init>", desc := "()V", sig := { parameters := [], returnType := none }, accessFlags := 2, code := none }
def k5m1 : Method := { name := "arraycopy", desc := "(Ljava/lang/Object;ILjava/lang/Object;II)V", sig := { parameters := [(.object "java/lang/Object"), .int, (.object "java/lang/Object"), .int, .int], returnType := none }, accessFlags := 265, code := none }
/-- java/lang/System -/
def k5 : Class := { plain "java/lang/System" (some 0) with
  accessFlags := 49
  interfaces := #[]
  cf := some (fileOf pool5 8 #[.nestMembers #[319, 327, 801, 108, 663, 208]] #[{ accessFlags := 2, nameIndex := 5, descriptorIndex := 6, attributes := #[] }, { accessFlags := 265, nameIndex := 727, descriptorIndex := 728, attributes := #[] }] 49 2 #[] #[{ accessFlags := 25, nameIndex := 507, descriptorIndex := 526, attributes := #[] }, { accessFlags := 25, nameIndex := 399, descriptorIndex := 155, attributes := #[] }, { accessFlags := 25, nameIndex := 396, descriptorIndex := 155, attributes := #[] }, { accessFlags := 10, nameIndex := 525, descriptorIndex := 526, attributes := #[] }, { accessFlags := 26, nameIndex := 674, descriptorIndex := 12, attributes := #[] }, { accessFlags := 26, nameIndex := 677, descriptorIndex := 12, attributes := #[] }, { accessFlags := 10, nameIndex := 11, descriptorIndex := 12, attributes := #[] }, { accessFlags := 74, nameIndex := 175, descriptorIndex := 176, attributes := #[] }, { accessFlags := 10, nameIndex := 491, descriptorIndex := 222, attributes := #[] }, { accessFlags := 74, nameIndex := 29, descriptorIndex := 30, attributes := #[] }, { accessFlags := 74, nameIndex := 154, descriptorIndex := 155, attributes := #[] }, { accessFlags := 10, nameIndex := 217, descriptorIndex := 218, attributes := #[] }, { accessFlags := 10, nameIndex := 221, descriptorIndex := 222, attributes := #[] }, { accessFlags := 8, nameIndex := 562, descriptorIndex := 563, attributes := #[] }])
  fields := #[{ name := "in", type := (.object "java/io/InputStream"), accessFlags := 25, slot := 0, constantValue := 0 }, { name := "out", type := (.object "java/io/PrintStream"), accessFlags := 25, slot := 1, constantValue := 0 }, { name := "err", type := (.object "java/io/PrintStream"), accessFlags := 25, slot := 2, constantValue := 0 }, { name := "initialIn", type := (.object "java/io/InputStream"), accessFlags := 10, slot := 3, constantValue := 0 }, { name := "NEVER", type := .int, accessFlags := 26, slot := 4, constantValue := 0 }, { name := "MAYBE", type := .int, accessFlags := 26, slot := 5, constantValue := 0 }, { name := "allowSecurityManager", type := .int, accessFlags := 10, slot := 6, constantValue := 0 }, { name := "security", type := (.object "java/lang/SecurityManager"), accessFlags := 74, slot := 7, constantValue := 0 }, { name := "notSupportedJnuEncoding", type := (.object "java/lang/String"), accessFlags := 10, slot := 8, constantValue := 0 }, { name := "cons", type := (.object "java/io/Console"), accessFlags := 74, slot := 9, constantValue := 0 }, { name := "initialErrStream", type := (.object "java/io/PrintStream"), accessFlags := 74, slot := 10, constantValue := 0 }, { name := "props", type := (.object "java/util/Properties"), accessFlags := 10, slot := 11, constantValue := 0 }, { name := "lineSeparator", type := (.object "java/lang/String"), accessFlags := 10, slot := 12, constantValue := 0 }, { name := "bootLayer", type := (.object "java/lang/ModuleLayer"), accessFlags := 8, slot := 13, constantValue := 0 }]
  methods := #[k5m0, k5m1]
  instanceTypes := #[]
  staticTypes := #[(.object "java/io/InputStream"), (.object "java/io/PrintStream"), (.object "java/io/PrintStream"), (.object "java/io/InputStream"), .int, .int, .int, (.object "java/lang/SecurityManager"), (.object "java/lang/String"), (.object "java/io/Console"), (.object "java/io/PrintStream"), (.object "java/util/Properties"), (.object "java/lang/String"), (.object "java/lang/ModuleLayer")]
  resolved := Array.replicate 834 none
  statics := none }

def pool6 : Array CpInfo := pool [(1, .class_ 2), (0, u "java/util/DualPivotQuicksort"), (5, .class_ 10), (1, u "java/lang/Object"), (0, u "<init>"), (0, u "()V"), (4, .class_ 18), (0, u "java/util/DualPivotQuicksort$Sorter"), (9, u "sort"), (7, u "insertionSort"), (31, u "I"), (4, .class_ 74), (0, u "java/util/DualPivotQuicksort$RunMerger"), (10, .class_ 86), (0, u "java/util/DualPivotQuicksort$Merger"), (12, .methodref 1 100), (0, .nameAndType 28 101), (0, u "(Ljava/util/DualPivotQuicksort$Sorter;[JIII)V"), (2, u "([JIII)V"), (0, .methodref 1 106), (0, .nameAndType 36 107), (0, u "([JII)V"), (106, u "MAX_MIXED_INSERTION_SORT_SIZE"), (2, u "MAX_INSERTION_SORT_SIZE"), (1, u "MIN_PARALLEL_SORT_SIZE"), (1, u "MIN_TRY_MERGE_SIZE"), (0, u "MIN_FIRST_RUN_SIZE"), (1, u "MIN_FIRST_RUNS_FACTOR"), (1, u "MAX_RUN_CAPACITY"), (1, u "MIN_RUN_COUNT"), (1, u "MIN_PARALLEL_MERGE_PARTS_SIZE"), (0, u "MIN_BYTE_COUNTING_SORT_SIZE"), (1, u "MIN_SHORT_OR_CHAR_COUNTING_SORT_SIZE"), (1, u "DELTA"), (1, u "MAX_RECURSION_DEPTH"), (1, u "NUM_BYTE_VALUES"), (1, u "MAX_BYTE_INDEX"), (0, u "NUM_CHAR_VALUES"), (0, u "NUM_SHORT_VALUES"), (0, u "MAX_SHORT_INDEX")] 86

def k6m0 : Method := { name := "<init>", desc := "()V", sig := { parameters := [], returnType := none }, accessFlags := 2, code := none }
def k6c1 : Code := { maxStack := 9, maxLocals := 7, code := jdk_2529_method_12_code, exceptionTable := #[], attributes := #[] }
def k6m1 : Method := { name := "sort", desc := "([JIII)V", sig := { parameters := [(.array .long), .int, .int, .int], returnType := none }, accessFlags := 8, code := some k6c1 }
def k6c2 : Code := { maxStack := 6, maxLocals := 25, code := jdk_2529_method_13_code, exceptionTable := #[], attributes := #[] }
def k6m2 : Method := { name := "sort", desc := "(Ljava/util/DualPivotQuicksort$Sorter;[JIII)V", sig := { parameters := [(.object "java/util/DualPivotQuicksort$Sorter"), (.array .long), .int, .int, .int], returnType := none }, accessFlags := 8, code := some k6c2 }
def k6c3 : Code := { maxStack := 5, maxLocals := 7, code := jdk_2529_method_15_code, exceptionTable := #[], attributes := #[] }
def k6m3 : Method := { name := "insertionSort", desc := "([JII)V", sig := { parameters := [(.array .long), .int, .int], returnType := none }, accessFlags := 10, code := some k6c3 }
/-- java/util/DualPivotQuicksort -/
def k6 : Class := { plain "java/util/DualPivotQuicksort" (some 0) with
  accessFlags := 48
  interfaces := #[]
  cf := some (fileOf pool6 1 #[.nestMembers #[73, 85, 17]] #[{ accessFlags := 2, nameIndex := 11, descriptorIndex := 12, attributes := #[] }, { accessFlags := 8, nameIndex := 28, descriptorIndex := 104, attributes := #[] }, { accessFlags := 8, nameIndex := 28, descriptorIndex := 101, attributes := #[] }, { accessFlags := 10, nameIndex := 36, descriptorIndex := 107, attributes := #[] }] 48 8 #[] #[{ accessFlags := 26, nameIndex := 214, descriptorIndex := 68, attributes := #[] }, { accessFlags := 26, nameIndex := 217, descriptorIndex := 68, attributes := #[] }, { accessFlags := 26, nameIndex := 219, descriptorIndex := 68, attributes := #[] }, { accessFlags := 26, nameIndex := 221, descriptorIndex := 68, attributes := #[] }, { accessFlags := 26, nameIndex := 222, descriptorIndex := 68, attributes := #[] }, { accessFlags := 26, nameIndex := 224, descriptorIndex := 68, attributes := #[] }, { accessFlags := 26, nameIndex := 226, descriptorIndex := 68, attributes := #[] }, { accessFlags := 26, nameIndex := 228, descriptorIndex := 68, attributes := #[] }, { accessFlags := 26, nameIndex := 230, descriptorIndex := 68, attributes := #[] }, { accessFlags := 26, nameIndex := 231, descriptorIndex := 68, attributes := #[] }, { accessFlags := 26, nameIndex := 233, descriptorIndex := 68, attributes := #[] }, { accessFlags := 26, nameIndex := 235, descriptorIndex := 68, attributes := #[] }, { accessFlags := 26, nameIndex := 237, descriptorIndex := 68, attributes := #[] }, { accessFlags := 26, nameIndex := 239, descriptorIndex := 68, attributes := #[] }, { accessFlags := 26, nameIndex := 241, descriptorIndex := 68, attributes := #[] }, { accessFlags := 26, nameIndex := 242, descriptorIndex := 68, attributes := #[] }, { accessFlags := 26, nameIndex := 243, descriptorIndex := 68, attributes := #[] }, { accessFlags := 26, nameIndex := 244, descriptorIndex := 68, attributes := #[] }])
  fields := #[{ name := "MAX_MIXED_INSERTION_SORT_SIZE", type := .int, accessFlags := 26, slot := 0, constantValue := 0 }, { name := "MAX_INSERTION_SORT_SIZE", type := .int, accessFlags := 26, slot := 1, constantValue := 0 }, { name := "MIN_PARALLEL_SORT_SIZE", type := .int, accessFlags := 26, slot := 2, constantValue := 0 }, { name := "MIN_TRY_MERGE_SIZE", type := .int, accessFlags := 26, slot := 3, constantValue := 0 }, { name := "MIN_FIRST_RUN_SIZE", type := .int, accessFlags := 26, slot := 4, constantValue := 0 }, { name := "MIN_FIRST_RUNS_FACTOR", type := .int, accessFlags := 26, slot := 5, constantValue := 0 }, { name := "MAX_RUN_CAPACITY", type := .int, accessFlags := 26, slot := 6, constantValue := 0 }, { name := "MIN_RUN_COUNT", type := .int, accessFlags := 26, slot := 7, constantValue := 0 }, { name := "MIN_PARALLEL_MERGE_PARTS_SIZE", type := .int, accessFlags := 26, slot := 8, constantValue := 0 }, { name := "MIN_BYTE_COUNTING_SORT_SIZE", type := .int, accessFlags := 26, slot := 9, constantValue := 0 }, { name := "MIN_SHORT_OR_CHAR_COUNTING_SORT_SIZE", type := .int, accessFlags := 26, slot := 10, constantValue := 0 }, { name := "DELTA", type := .int, accessFlags := 26, slot := 11, constantValue := 0 }, { name := "MAX_RECURSION_DEPTH", type := .int, accessFlags := 26, slot := 12, constantValue := 0 }, { name := "NUM_BYTE_VALUES", type := .int, accessFlags := 26, slot := 13, constantValue := 0 }, { name := "MAX_BYTE_INDEX", type := .int, accessFlags := 26, slot := 14, constantValue := 0 }, { name := "NUM_CHAR_VALUES", type := .int, accessFlags := 26, slot := 15, constantValue := 0 }, { name := "NUM_SHORT_VALUES", type := .int, accessFlags := 26, slot := 16, constantValue := 0 }, { name := "MAX_SHORT_INDEX", type := .int, accessFlags := 26, slot := 17, constantValue := 0 }]
  methods := #[k6m0, k6m1, k6m2, k6m3]
  instanceTypes := #[]
  staticTypes := #[.int, .int, .int, .int, .int, .int, .int, .int, .int, .int, .int, .int, .int, .int, .int, .int, .int, .int]
  resolved := Array.replicate 331 none
  statics := none }

def pool7 : Array CpInfo := pool [(1, .methodref 2 3), (0, .class_ 4), (0, .nameAndType 5 6), (0, u "java/lang/Object"), (0, u "<init>"), (0, u "()V"), (0, .fieldref 8 9), (0, .class_ 10), (0, .nameAndType 11 12), (0, u "com/example/tripletype/tripletype/Relation"), (0, u "start"), (0, u "[I"), (0, .fieldref 8 14), (0, .nameAndType 15 12), (0, u "targets"), (0, .methodref 17 18), (0, .class_ 19), (0, .nameAndType 20 21), (0, u "java/util/Arrays"), (0, u "binarySearch"), (0, u "([IIII)I"), (0, .class_ 23), (0, u "com/example/tripletype/tripletype/Relation$Builder"), (4, u "()I"), (8, u "([I[I)V"), (2, u "pairCount"), (0, u "(I)I"), (0, u "end"), (0, u "target"), (3, u "contains"), (0, u "(II)Z")] 7

def k7c0 : Code := { maxStack := 2, maxLocals := 3, code := prog_8_method_1_code, exceptionTable := #[], attributes := #[] }
def k7m0 : Method := { name := "<init>", desc := "([I[I)V", sig := { parameters := [(.array .int), (.array .int)], returnType := none }, accessFlags := 2, code := some k7c0 }
def k7c1 : Code := { maxStack := 1, maxLocals := 1, code := prog_8_method_3_code, exceptionTable := #[], attributes := #[] }
def k7m1 : Method := { name := "pairCount", desc := "()I", sig := { parameters := [], returnType := some .int }, accessFlags := 0, code := some k7c1 }
def k7c2 : Code := { maxStack := 2, maxLocals := 2, code := prog_8_method_4_code, exceptionTable := #[], attributes := #[] }
def k7m2 : Method := { name := "start", desc := "(I)I", sig := { parameters := [.int], returnType := some .int }, accessFlags := 0, code := some k7c2 }
def k7c3 : Code := { maxStack := 3, maxLocals := 2, code := prog_8_method_5_code, exceptionTable := #[], attributes := #[] }
def k7m3 : Method := { name := "end", desc := "(I)I", sig := { parameters := [.int], returnType := some .int }, accessFlags := 0, code := some k7c3 }
def k7c4 : Code := { maxStack := 2, maxLocals := 2, code := prog_8_method_6_code, exceptionTable := #[], attributes := #[] }
def k7m4 : Method := { name := "target", desc := "(I)I", sig := { parameters := [.int], returnType := some .int }, accessFlags := 0, code := some k7c4 }
def k7c5 : Code := { maxStack := 5, maxLocals := 3, code := prog_8_method_8_code, exceptionTable := #[], attributes := #[] }
def k7m5 : Method := { name := "contains", desc := "(II)Z", sig := { parameters := [.int, .int], returnType := some .boolean }, accessFlags := 0, code := some k7c5 }
/-- com/example/tripletype/tripletype/Relation -/
def k7 : Class := { plain "com/example/tripletype/tripletype/Relation" (some 0) with
  accessFlags := 48
  interfaces := #[]
  cf := some (fileOf pool7 8 #[.nestMembers #[22]] #[{ accessFlags := 2, nameIndex := 5, descriptorIndex := 37, attributes := #[] }, { accessFlags := 0, nameIndex := 40, descriptorIndex := 28, attributes := #[] }, { accessFlags := 0, nameIndex := 11, descriptorIndex := 41, attributes := #[] }, { accessFlags := 0, nameIndex := 42, descriptorIndex := 41, attributes := #[] }, { accessFlags := 0, nameIndex := 43, descriptorIndex := 41, attributes := #[] }, { accessFlags := 0, nameIndex := 47, descriptorIndex := 48, attributes := #[] }] 48 2 #[] #[{ accessFlags := 18, nameIndex := 11, descriptorIndex := 12, attributes := #[] }, { accessFlags := 18, nameIndex := 15, descriptorIndex := 12, attributes := #[] }])
  fields := #[{ name := "start", type := (.array .int), accessFlags := 18, slot := 0, constantValue := 0 }, { name := "targets", type := (.array .int), accessFlags := 18, slot := 1, constantValue := 0 }]
  methods := #[k7m0, k7m1, k7m2, k7m3, k7m4, k7m5]
  instanceTypes := #[(.array .int), (.array .int)]
  staticTypes := #[]
  resolved := Array.replicate 56 none
  statics := none }

def pool8 : Array CpInfo := pool [(1, .class_ 2), (0, u "java/lang/Cloneable"), (0, .class_ 4), (0, u "java/lang/Object")] 2

/-- java/lang/Cloneable -/
def k8 : Class := { plain "java/lang/Cloneable" (some 0) with
  accessFlags := 1537
  interfaces := #[]
  cf := some (fileOf pool8 1 #[] #[] 1537 3 #[] #[])
  fields := #[]
  methods := #[]
  instanceTypes := #[]
  staticTypes := #[]
  resolved := Array.replicate 7 none
  statics := none }

def pool9 : Array CpInfo := pool [(1, u "java/io/Serializable"), (0, .class_ 1), (0, u "java/lang/Object"), (0, .class_ 3)] 3

/-- java/io/Serializable -/
def k9 : Class := { plain "java/io/Serializable" (some 0) with
  accessFlags := 1537
  interfaces := #[]
  cf := some (fileOf pool9 2 #[] #[] 1537 4 #[] #[])
  fields := #[]
  methods := #[]
  instanceTypes := #[]
  staticTypes := #[]
  resolved := Array.replicate 8 none
  statics := none }

/-- the primitive byte -/
def k10 : Class := { plain "byte" none with kind := .primitive 'B', accessFlags := 0x411 }
/-- [B -/
def k11 : Class := { plain "[B" (some 0) with kind := .array 10 .byte, interfaces := #[8, 9], accessFlags := 1041 }

/-- the primitive int -/
def k12 : Class := { plain "int" none with kind := .primitive 'I', accessFlags := 0x411 }
/-- [I -/
def k13 : Class := { plain "[I" (some 0) with kind := .array 12 .int, interfaces := #[8, 9], accessFlags := 1041 }

/-- the primitive long -/
def k14 : Class := { plain "long" none with kind := .primitive 'J', accessFlags := 0x411 }
/-- [J -/
def k15 : Class := { plain "[J" (some 0) with kind := .array 14 .long, interfaces := #[8, 9], accessFlags := 1041 }

def heap : Heap := #[]
def classes : Array Class := #[k0, k1, k2, k3, k4, k5, k6, k7, k8, k9, k10, k11, k12, k13, k14, k15]
def interned : List (Array UInt16 × Addr) := []
def slotsUsed : Nat := 0
def theMethod : MethodId := ⟨1, 1⟩
def args0 : Array Value := #[.long 5, .long 6, .long 7, .int 8, .int 9]
def aboutOver (below : List Frame) : State where
  vm := { classes := classes, interned := interned.toArray }
  heap := heap
  slotsUsed := slotsUsed
  threads := #[{ frames := .invoking theMethod args0 :: below }]
def below0 : List Frame := [.native { method := ⟨0, 0⟩, args := #[] }]
def about1 : State := aboutOver below0
def p0 : Program := .bare "" "" ""
def e0 : Env := launch0.env 0 0 0
theorem w_frames : about1.frames = Frame.invoking theMethod args0 :: below0 := rfl
set_option maxRecDepth 65536 in
theorem w_args : argsFit about1.vm theMethod args0 = true := by decide +kernel
set_option maxRecDepth 65536 in
theorem w_heap : heapFits about1 = true := by decide +kernel
set_option maxRecDepth 65536 in
theorem w_runnable : about1.curStatus? = some .runnable := by decide +kernel
set_option maxRecDepth 65536 in
theorem w_alone : about1.alone = true := by decide +kernel
set_option maxRecDepth 65536 in
theorem w_named : about1.methodNamed? x = some theMethod := by decide +kernel
set_option maxRecDepth 65536 in
theorem w_hears : about1.hears theMethod below0 = true := by decide +kernel
set_option maxRecDepth 65536 in
theorem w_ripe : about1.ripe theMethod args0 below0 = true := by decide +kernel
theorem w_running : about1.status = .running := rfl
set_option maxRecDepth 65536 in
theorem w_room : about1.hasRoom e0.platform room_1 = true :=
  launch0.hasRoom_least _ room_1 (by decide +kernel) (by decide +kernel) (by decide +kernel) (by decide +kernel) (by decide +kernel) (by decide +kernel)
theorem allAtoms_all (ts : List Jvm.Cond) (a : Array Jvm.Value) (st : Jvm.State) : (allAtoms ts).before a st = ts.all (fun c => c.before a st) := by
  induction ts with
  | nil => rfl
  | cons c t ih =>
    show (Jvm.Cond.and c (allAtoms t)).before a st = _
    rw [Jvm.Cond.before_and, ih, List.all_cons]
def words1 : List Jvm.Cond := Jvm.Cond.code x code maxLocals ret :: tables_1
/-- a 'code' word, met by the world's own term for the bytes: nothing is compared byte by byte -/
theorem code_word {y : MethodName} {bytes : ByteArray} {mx : Nat} {rt : Option FieldType} {a : Array Value} {s : State} {m : MethodId} {meth : Method} {c : Code} (h1 : s.methodNamed? y = some m) (h2 : s.vm.method? m = some meth) (h3 : meth.code = some c) (h4 : c.code = bytes)
    (h5 : (c.maxLocals == mx && c.exceptionTable.isEmpty && decide (c.maxStack ≤ mostOperands) && decide (meth.sig.returnType = rt) && !meth.locks && decide (parseMethodDescriptor y.desc = some meth.sig)) = true) : (Jvm.Cond.code y bytes mx rt).before a s = true := by
  simp only [Bool.and_eq_true, beq_iff_eq, Bool.not_eq_true', decide_eq_true_eq] at h5
  obtain ⟨⟨⟨⟨⟨g1, g2⟩, g3⟩, g4⟩, g5⟩, g6⟩ := h5
  simp [Cond.before, Cond.holds, Cond.value, h1, h2, h3, h4, g1, g2, g3, g4, g5, g6]
def isCode : Jvm.Cond → Bool
  | .code _ _ _ _ => true
  | _ => false
theorem all_split {L : List Jvm.Cond} {P : Jvm.Cond → Bool} (h1 : L.all (fun c => isCode c || P c) = true) (h2 : ∀ c ∈ L.filter isCode, P c = true) : L.all P = true := by
  refine List.all_eq_true.mpr fun c hc => ?_
  have h := List.all_eq_true.mp h1 c hc
  rcases Bool.eq_false_or_eq_true (isCode c) with hi | hi
  · exact h2 c (List.mem_filter.mpr ⟨hc, hi⟩)
  · simpa [hi] using h
set_option maxRecDepth 65536 in
theorem w_c0 : (Jvm.Cond.code x code maxLocals ret).before args0 about1 = true := code_word (m := ⟨1, 1⟩) (meth := k1m1) (c := k1c1) (by decide +kernel) rfl rfl rfl (by decide +kernel)
set_option maxRecDepth 65536 in
theorem w_c1 : (Jvm.Cond.code ({ cls := "java/lang/Math", name := "min", desc := "(II)I" } : Jvm.MethodName) jdk_29_method_69_code (2 : Nat) (Option.some Jvm.ClassFile.FieldType.int)).before args0 about1 = true := code_word (m := ⟨2, 1⟩) (meth := k2m1) (c := k2c1) (by decide +kernel) rfl rfl rfl (by decide +kernel)
set_option maxRecDepth 65536 in
theorem w_c2 : (Jvm.Cond.code ({ cls := "com/example/tripletype/tripletype/Relation$Builder", name := "<init>", desc := "()V" } : Jvm.MethodName) prog_9_method_1_code (1 : Nat) (Option.none : Option Jvm.ClassFile.FieldType)).before args0 about1 = true := code_word (m := ⟨3, 0⟩) (meth := k3m0) (c := k3c0) (by decide +kernel) rfl rfl rfl (by decide +kernel)
set_option maxRecDepth 65536 in
theorem w_c3 : (Jvm.Cond.code ({ cls := "java/lang/Object", name := "<init>", desc := "()V" } : Jvm.MethodName) object_method_1_code (1 : Nat) (Option.none : Option Jvm.ClassFile.FieldType)).before args0 about1 = true := code_word (m := ⟨0, 0⟩) (meth := k0m0) (c := k0c0) (by decide +kernel) rfl rfl rfl (by decide +kernel)
set_option maxRecDepth 65536 in
theorem w_c4 : (Jvm.Cond.code ({ cls := "com/example/tripletype/tripletype/Relation$Builder", name := "add", desc := "(II)V" } : Jvm.MethodName) prog_9_method_2_code (3 : Nat) (Option.none : Option Jvm.ClassFile.FieldType)).before args0 about1 = true := code_word (m := ⟨3, 1⟩) (meth := k3m1) (c := k3c1) (by decide +kernel) rfl rfl rfl (by decide +kernel)
set_option maxRecDepth 65536 in
theorem w_c5 : (Jvm.Cond.code ({ cls := "com/example/tripletype/tripletype/Relation$Builder", name := "build", desc := "(I)Lcom/example/tripletype/tripletype/Relation;" } : Jvm.MethodName) prog_9_method_3_code (7 : Nat) (Option.some (Jvm.ClassFile.FieldType.object "com/example/tripletype/tripletype/Relation"))).before args0 about1 = true := code_word (m := ⟨3, 2⟩) (meth := k3m2) (c := k3c2) (by decide +kernel) rfl rfl rfl (by decide +kernel)
set_option maxRecDepth 65536 in
theorem w_c6 : (Jvm.Cond.code ({ cls := "java/util/Arrays", name := "copyOf", desc := "([JI)[J" } : Jvm.MethodName) jdk_65_method_124_code (3 : Nat) (Option.some (Jvm.ClassFile.FieldType.array Jvm.ClassFile.FieldType.long))).before args0 about1 = true := code_word (m := ⟨4, 6⟩) (meth := k4m6) (c := k4c6) (by decide +kernel) rfl rfl rfl (by decide +kernel)
set_option maxRecDepth 65536 in
theorem w_c7 : (Jvm.Cond.code ({ cls := "java/util/Arrays", name := "sort", desc := "([J)V" } : Jvm.MethodName) jdk_65_method_4_code (1 : Nat) (Option.none : Option Jvm.ClassFile.FieldType)).before args0 about1 = true := code_word (m := ⟨4, 1⟩) (meth := k4m1) (c := k4c1) (by decide +kernel) rfl rfl rfl (by decide +kernel)
set_option maxRecDepth 65536 in
theorem w_c8 : (Jvm.Cond.code ({ cls := "java/util/DualPivotQuicksort", name := "sort", desc := "([JIII)V" } : Jvm.MethodName) jdk_2529_method_12_code (7 : Nat) (Option.none : Option Jvm.ClassFile.FieldType)).before args0 about1 = true := code_word (m := ⟨6, 1⟩) (meth := k6m1) (c := k6c1) (by decide +kernel) rfl rfl rfl (by decide +kernel)
set_option maxRecDepth 65536 in
theorem w_c9 : (Jvm.Cond.code ({ cls := "java/util/DualPivotQuicksort", name := "sort", desc := "(Ljava/util/DualPivotQuicksort$Sorter;[JIII)V" } : Jvm.MethodName) jdk_2529_method_13_code (25 : Nat) (Option.none : Option Jvm.ClassFile.FieldType)).before args0 about1 = true := code_word (m := ⟨6, 2⟩) (meth := k6m2) (c := k6c2) (by decide +kernel) rfl rfl rfl (by decide +kernel)
set_option maxRecDepth 65536 in
theorem w_c10 : (Jvm.Cond.code ({ cls := "java/util/DualPivotQuicksort", name := "insertionSort", desc := "([JII)V" } : Jvm.MethodName) jdk_2529_method_15_code (7 : Nat) (Option.none : Option Jvm.ClassFile.FieldType)).before args0 about1 = true := code_word (m := ⟨6, 3⟩) (meth := k6m3) (c := k6c3) (by decide +kernel) rfl rfl rfl (by decide +kernel)
set_option maxRecDepth 65536 in
theorem w_c11 : (Jvm.Cond.code ({ cls := "java/util/Arrays", name := "copyOf", desc := "([II)[I" } : Jvm.MethodName) jdk_65_method_123_code (3 : Nat) (Option.some (Jvm.ClassFile.FieldType.array Jvm.ClassFile.FieldType.int))).before args0 about1 = true := code_word (m := ⟨4, 5⟩) (meth := k4m5) (c := k4c5) (by decide +kernel) rfl rfl rfl (by decide +kernel)
set_option maxRecDepth 65536 in
theorem w_c12 : (Jvm.Cond.code ({ cls := "com/example/tripletype/tripletype/Relation", name := "<init>", desc := "([I[I)V" } : Jvm.MethodName) prog_8_method_1_code (3 : Nat) (Option.none : Option Jvm.ClassFile.FieldType)).before args0 about1 = true := code_word (m := ⟨7, 0⟩) (meth := k7m0) (c := k7c0) (by decide +kernel) rfl rfl rfl (by decide +kernel)
set_option maxRecDepth 65536 in
theorem w_c13 : (Jvm.Cond.code ({ cls := "com/example/tripletype/tripletype/Relation", name := "pairCount", desc := "()I" } : Jvm.MethodName) prog_8_method_3_code (1 : Nat) (Option.some Jvm.ClassFile.FieldType.int)).before args0 about1 = true := code_word (m := ⟨7, 1⟩) (meth := k7m1) (c := k7c1) (by decide +kernel) rfl rfl rfl (by decide +kernel)
set_option maxRecDepth 65536 in
theorem w_c14 : (Jvm.Cond.code ({ cls := "com/example/tripletype/tripletype/Relation", name := "contains", desc := "(II)Z" } : Jvm.MethodName) prog_8_method_8_code (3 : Nat) (Option.some Jvm.ClassFile.FieldType.boolean)).before args0 about1 = true := code_word (m := ⟨7, 5⟩) (meth := k7m5) (c := k7c5) (by decide +kernel) rfl rfl rfl (by decide +kernel)
set_option maxRecDepth 65536 in
theorem w_c15 : (Jvm.Cond.code ({ cls := "java/util/Arrays", name := "binarySearch", desc := "([IIII)I" } : Jvm.MethodName) jdk_65_method_58_code (4 : Nat) (Option.some Jvm.ClassFile.FieldType.int)).before args0 about1 = true := code_word (m := ⟨4, 3⟩) (meth := k4m3) (c := k4c3) (by decide +kernel) rfl rfl rfl (by decide +kernel)
set_option maxRecDepth 65536 in
theorem w_c16 : (Jvm.Cond.code ({ cls := "java/util/Arrays", name := "rangeCheck", desc := "(III)V" } : Jvm.MethodName) jdk_65_method_30_code (3 : Nat) (Option.none : Option Jvm.ClassFile.FieldType)).before args0 about1 = true := code_word (m := ⟨4, 2⟩) (meth := k4m2) (c := k4c2) (by decide +kernel) rfl rfl rfl (by decide +kernel)
set_option maxRecDepth 65536 in
theorem w_c17 : (Jvm.Cond.code ({ cls := "java/util/Arrays", name := "binarySearch0", desc := "([IIII)I" } : Jvm.MethodName) jdk_65_method_59_code (8 : Nat) (Option.some Jvm.ClassFile.FieldType.int)).before args0 about1 = true := code_word (m := ⟨4, 4⟩) (meth := k4m4) (c := k4c4) (by decide +kernel) rfl rfl rfl (by decide +kernel)
set_option maxRecDepth 65536 in
theorem w_c18 : (Jvm.Cond.code ({ cls := "com/example/tripletype/tripletype/Relation", name := "start", desc := "(I)I" } : Jvm.MethodName) prog_8_method_4_code (2 : Nat) (Option.some Jvm.ClassFile.FieldType.int)).before args0 about1 = true := code_word (m := ⟨7, 2⟩) (meth := k7m2) (c := k7c2) (by decide +kernel) rfl rfl rfl (by decide +kernel)
set_option maxRecDepth 65536 in
theorem w_c19 : (Jvm.Cond.code ({ cls := "com/example/tripletype/tripletype/Relation", name := "end", desc := "(I)I" } : Jvm.MethodName) prog_8_method_5_code (2 : Nat) (Option.some Jvm.ClassFile.FieldType.int)).before args0 about1 = true := code_word (m := ⟨7, 3⟩) (meth := k7m3) (c := k7c3) (by decide +kernel) rfl rfl rfl (by decide +kernel)
set_option maxRecDepth 65536 in
theorem w_c20 : (Jvm.Cond.code ({ cls := "com/example/tripletype/tripletype/Relation", name := "target", desc := "(I)I" } : Jvm.MethodName) prog_8_method_6_code (2 : Nat) (Option.some Jvm.ClassFile.FieldType.int)).before args0 about1 = true := code_word (m := ⟨7, 4⟩) (meth := k7m4) (c := k7c4) (by decide +kernel) rfl rfl rfl (by decide +kernel)
def codes1 : List Jvm.Cond := [Jvm.Cond.code x code maxLocals ret, Jvm.Cond.code ({ cls := "java/lang/Math", name := "min", desc := "(II)I" } : Jvm.MethodName) jdk_29_method_69_code (2 : Nat) (Option.some Jvm.ClassFile.FieldType.int), Jvm.Cond.code ({ cls := "com/example/tripletype/tripletype/Relation$Builder", name := "<init>", desc := "()V" } : Jvm.MethodName) prog_9_method_1_code (1 : Nat) (Option.none : Option Jvm.ClassFile.FieldType), Jvm.Cond.code ({ cls := "java/lang/Object", name := "<init>", desc := "()V" } : Jvm.MethodName) object_method_1_code (1 : Nat) (Option.none : Option Jvm.ClassFile.FieldType), Jvm.Cond.code ({ cls := "com/example/tripletype/tripletype/Relation$Builder", name := "add", desc := "(II)V" } : Jvm.MethodName) prog_9_method_2_code (3 : Nat) (Option.none : Option Jvm.ClassFile.FieldType), Jvm.Cond.code ({ cls := "com/example/tripletype/tripletype/Relation$Builder", name := "build", desc := "(I)Lcom/example/tripletype/tripletype/Relation;" } : Jvm.MethodName) prog_9_method_3_code (7 : Nat) (Option.some (Jvm.ClassFile.FieldType.object "com/example/tripletype/tripletype/Relation")), Jvm.Cond.code ({ cls := "java/util/Arrays", name := "copyOf", desc := "([JI)[J" } : Jvm.MethodName) jdk_65_method_124_code (3 : Nat) (Option.some (Jvm.ClassFile.FieldType.array Jvm.ClassFile.FieldType.long)), Jvm.Cond.code ({ cls := "java/util/Arrays", name := "sort", desc := "([J)V" } : Jvm.MethodName) jdk_65_method_4_code (1 : Nat) (Option.none : Option Jvm.ClassFile.FieldType), Jvm.Cond.code ({ cls := "java/util/DualPivotQuicksort", name := "sort", desc := "([JIII)V" } : Jvm.MethodName) jdk_2529_method_12_code (7 : Nat) (Option.none : Option Jvm.ClassFile.FieldType), Jvm.Cond.code ({ cls := "java/util/DualPivotQuicksort", name := "sort", desc := "(Ljava/util/DualPivotQuicksort$Sorter;[JIII)V" } : Jvm.MethodName) jdk_2529_method_13_code (25 : Nat) (Option.none : Option Jvm.ClassFile.FieldType), Jvm.Cond.code ({ cls := "java/util/DualPivotQuicksort", name := "insertionSort", desc := "([JII)V" } : Jvm.MethodName) jdk_2529_method_15_code (7 : Nat) (Option.none : Option Jvm.ClassFile.FieldType), Jvm.Cond.code ({ cls := "java/util/Arrays", name := "copyOf", desc := "([II)[I" } : Jvm.MethodName) jdk_65_method_123_code (3 : Nat) (Option.some (Jvm.ClassFile.FieldType.array Jvm.ClassFile.FieldType.int)), Jvm.Cond.code ({ cls := "com/example/tripletype/tripletype/Relation", name := "<init>", desc := "([I[I)V" } : Jvm.MethodName) prog_8_method_1_code (3 : Nat) (Option.none : Option Jvm.ClassFile.FieldType), Jvm.Cond.code ({ cls := "com/example/tripletype/tripletype/Relation", name := "pairCount", desc := "()I" } : Jvm.MethodName) prog_8_method_3_code (1 : Nat) (Option.some Jvm.ClassFile.FieldType.int), Jvm.Cond.code ({ cls := "com/example/tripletype/tripletype/Relation", name := "contains", desc := "(II)Z" } : Jvm.MethodName) prog_8_method_8_code (3 : Nat) (Option.some Jvm.ClassFile.FieldType.boolean), Jvm.Cond.code ({ cls := "java/util/Arrays", name := "binarySearch", desc := "([IIII)I" } : Jvm.MethodName) jdk_65_method_58_code (4 : Nat) (Option.some Jvm.ClassFile.FieldType.int), Jvm.Cond.code ({ cls := "java/util/Arrays", name := "rangeCheck", desc := "(III)V" } : Jvm.MethodName) jdk_65_method_30_code (3 : Nat) (Option.none : Option Jvm.ClassFile.FieldType), Jvm.Cond.code ({ cls := "java/util/Arrays", name := "binarySearch0", desc := "([IIII)I" } : Jvm.MethodName) jdk_65_method_59_code (8 : Nat) (Option.some Jvm.ClassFile.FieldType.int), Jvm.Cond.code ({ cls := "com/example/tripletype/tripletype/Relation", name := "start", desc := "(I)I" } : Jvm.MethodName) prog_8_method_4_code (2 : Nat) (Option.some Jvm.ClassFile.FieldType.int), Jvm.Cond.code ({ cls := "com/example/tripletype/tripletype/Relation", name := "end", desc := "(I)I" } : Jvm.MethodName) prog_8_method_5_code (2 : Nat) (Option.some Jvm.ClassFile.FieldType.int), Jvm.Cond.code ({ cls := "com/example/tripletype/tripletype/Relation", name := "target", desc := "(I)I" } : Jvm.MethodName) prog_8_method_6_code (2 : Nat) (Option.some Jvm.ClassFile.FieldType.int)]
set_option maxRecDepth 65536 in
theorem codes_eq : words1.filter isCode = codes1 := rfl
theorem w_codes : ∀ c ∈ words1.filter isCode, c.before args0 about1 = true := by
  rw [codes_eq]
  intro c hc
  simp only [codes1, List.mem_cons, List.not_mem_nil, or_false] at hc
  rcases hc with rfl | rfl | rfl | rfl | rfl | rfl | rfl | rfl | rfl | rfl | rfl | rfl | rfl | rfl | rfl | rfl | rfl | rfl | rfl | rfl | rfl
  · exact w_c0
  · exact w_c1
  · exact w_c2
  · exact w_c3
  · exact w_c4
  · exact w_c5
  · exact w_c6
  · exact w_c7
  · exact w_c8
  · exact w_c9
  · exact w_c10
  · exact w_c11
  · exact w_c12
  · exact w_c13
  · exact w_c14
  · exact w_c15
  · exact w_c16
  · exact w_c17
  · exact w_c18
  · exact w_c19
  · exact w_c20
set_option maxRecDepth 65536 in
theorem w_t1 : (words1.take 24).all (fun c => isCode c || c.before args0 about1) = true := by decide +kernel
set_option maxRecDepth 65536 in
theorem w_t2 : ((words1.drop 24).take 24).all (fun c => isCode c || c.before args0 about1) = true := by decide +kernel
set_option maxRecDepth 65536 in
theorem w_t3 : (((words1.drop 24).drop 24).take 24).all (fun c => isCode c || c.before args0 about1) = true := by decide +kernel
set_option maxRecDepth 65536 in
theorem w_t4 : ((((words1.drop 24).drop 24).drop 24).take 24).all (fun c => isCode c || c.before args0 about1) = true := by decide +kernel
set_option maxRecDepth 65536 in
theorem w_t5 : ((((words1.drop 24).drop 24).drop 24).drop 24).all (fun c => isCode c || c.before args0 about1) = true := by decide +kernel
theorem w_tables : (allAtoms (Jvm.Cond.code x code maxLocals ret :: tables_1)).before args0 about1 = true := by
  rw [allAtoms_all]
  show words1.all (fun c => c.before args0 about1) = true
  refine all_split ?_ w_codes
  rw [← List.take_append_drop 24 words1, List.all_append, w_t1, ← List.take_append_drop 24 (words1.drop 24), List.all_append, w_t2, ← List.take_append_drop 24 ((words1.drop 24).drop 24), List.all_append, w_t3, ← List.take_append_drop 24 (((words1.drop 24).drop 24).drop 24), List.all_append, w_t4, w_t5]
  rfl
set_option maxRecDepth 65536 in
theorem w_case : (Jvm.Cond.and given_1 narrow_1).before args0 about1 = true := by decide +kernel
theorem w_applies : (headSpec (Jvm.Cond.code x code maxLocals ret :: tables_1) room_1).applies x e0.platform about1 = true :=
  (Spec.applies_iff w_frames).mpr ⟨w_running, w_runnable, w_alone, w_named, w_hears, w_ripe, w_room, w_tables⟩
theorem atStart : AtStart classFile x code maxLocals ret World_1 tables_1 room_1 Calls_1 rest_1 Pre_1 launch0 p0 e0 about1 theMethod args0 below0 :=
  ⟨lists_1, trivial, launch0.admits_env _ _ _, launch0.least_env, fairChoices_fair.cas, fairChoices_fair.clock, w_frames, w_args, w_heap, w_applies, trivial, trivial, w_case⟩
end start1
theorem witness_1 : WitnessClaimed_1 := ⟨start1.p0, start1.e0, start1.about1, start1.theMethod, start1.args0, start1.below0, start1.atStart⟩
end Jvm.Pilot.@@N@@
