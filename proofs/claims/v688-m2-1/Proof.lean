import JvmDerived
import JvmDerived.Pilot.@@N@@Statement
import JvmDerived.Pilot.@@N@@Code
set_option linter.unusedVariables false
set_option linter.unusedSimpArgs false
namespace Jvm.Pilot.@@N@@
open Jvm Jvm.ClassFile Sem Op Lib Jvm.Free Jvm.Stand Jvm.LawKit Jvm.RoadKit Bundle Jvm.Pilot.@@N@@.Jvm.D

def Go (tb : Tables) (e : Env) (below : List Frame) (a : State) (P : Outcome → State → Prop) : Prop := ∃ s₂ o, Steps tb e below a s₂ ∧ s₂.status = .running ∧ Ended s₂ below o ∧ P o s₂
theorem Go.st {tb : Tables} {e : Env} {below : List Frame} {a b : State} {P : Outcome → State → Prop} (h : ∀ t, Steps tb e below b t → Steps tb e below a t) (k : Go tb e below b P) : Go tb e below a P := by
  obtain ⟨s, o, h1, h2⟩ := k
  exact ⟨s, o, h _ h1, h2⟩
theorem Go.tr {tb : Tables} {e : Env} {below : List Frame} {a b : State} {P : Outcome → State → Prop} (h : Steps tb e below a b) (k : Go tb e below b P) : Go tb e below a P := Go.st (fun _ q => h.trans q) k
theorem Go.fr {tb : Tables} {e : Env} {below : List Frame} {T : State} {g g' : JFrame} {P : Outcome → State → Prop} (q : g = g') (k : Go tb e below (T.setTop g') P) : Go tb e below (T.setTop g) P := q ▸ k
theorem Go.fin {tb : Tables} {e : Env} {below : List Frame} {a s₂ : State} {o : Outcome} {P : Outcome → State → Prop} (hs : Steps tb e below a s₂) (hr : s₂.status = .running) (he : Ended s₂ below o) (hP : P o s₂) : Go tb e below a P := ⟨_, _, hs, hr, he, hP⟩
theorem exa_ns {Z : State} {h : Heap} {a : Addr} {C : String} (F : Exa Z h a C) : ∃ c : Cell, h[a]? = some c ∧ c.vm.isStatics = false := by
  obtain ⟨c, _, h1, -, -, h4, -⟩ := F
  exact ⟨c, h1, h4⟩
theorem fld_ns {Z : State} {h : Heap} {a : Addr} {C n d : String} {v : Value} (F : Fld Z h a C n d v) : ∃ c : Cell, h[a]? = some c ∧ c.vm.isStatics = false := by
  obtain ⟨c, _, _, _, _, h1, -, -, -, h4, -⟩ := F
  exact ⟨c, h1, h4⟩
theorem arv_ns {Z : State} {h : Heap} {a : Addr} {k : ClassId} {ty : FieldType} {n : Int32} {vs : List Value} {d : Value} (F : Arv Z h a k ty n vs d) : ∃ c : Cell, h[a]? = some c ∧ c.vm.isStatics = false := by
  obtain ⟨c, A, -⟩ := F
  exact ⟨c, A.1, A.plain⟩
theorem sta_keep {Z : State} {h h' : Heap} {C n d : String} {v : Value} {ws : List Addr} (F : Sta Z h C n d v) (K : Keep h h' ws) (q : ∀ x ∈ ws, ∃ c : Cell, h[x]? = some c ∧ c.vm.isStatics = false) : Sta Z h' C n d v := by
  obtain ⟨cf, i, k, f, st, cell, h1, h2, h3, h4, h5, h6, h7⟩ := F
  refine ⟨cf, i, k, f, st, cell, h1, h2, h3, h4, K.2.1 st cell h5 fun z => ?_, h6, h7⟩
  obtain ⟨c, q1, q2⟩ := q st z
  cases q1.symm.trans h5
  rw [q2] at h6
  cases h6
theorem own_mvM {Z s : State} {a0 args : Array Value} {own host : String} {index : Nat} {y : MethodName} (hZ : Z.Warmed39 s.vm) (w : (Cond.methodLinkNest own index y host).before a0 Z = true) : (Cond.methodLinkNest own index y host).before args s = true := by
  have h1 := (Cond.methodLinkNest_wide hZ w :)
  exact h1
theorem own_selp {s : State} {args : Array Value} {y : MethodName} {n : Nat} (wi : (Cond.instantiable y.cls n).before args s = true) (hp : s.PrivateAt y) (hi : (Cond.instanceMethod y).before args s = true) (hy : y.cls ≠ "java/lang/invoke/MethodHandle" ∧ y.cls ≠ "java/lang/invoke/VarHandle") : (Cond.selects y.cls y y).before args s = true := by
  obtain ⟨c, k, h1, h2, -, h4, -⟩ := Cond.instantiable_spec wi
  simp only [Bool.or_eq_false_iff] at h4
  exact selects_self_of_private h1 h2 h4.1 hp hi hy
theorem own_ne32 {x k : Int32} {a : Int} (ha : k.toInt = a) (h : ¬ x = k) : a ≠ x.toInt := fun e => h (Int32.toInt_inj.mp (e.symm.trans ha.symm))
theorem own_nn (x : Int32) : 0 ≤ (x &&& (2147483647 : Int32)).toInt := (c_andS x 2147483647).2.2 (by decide)
theorem own_rem (x : Int32) (k : Int32) (d : Int) (hd : k.toInt = d) (h0 : 0 < d) : 0 ≤ ((x &&& (2147483647 : Int32)) % k).toInt ∧ ((x &&& (2147483647 : Int32)) % k).toInt < d := by
  have h := own_nn x
  rw [Int32.toInt_mod, hd]
  exact ⟨Int.tmod_nonneg _ h, Int.tmod_lt_of_pos _ h0⟩
theorem own_remb (x : Int32) (k : Int32) (d : Int) (hd : k.toInt = d) (h0 : 0 < d) : ¬ ((x &&& (2147483647 : Int32)) % k) < 0 ∧ ((x &&& (2147483647 : Int32)) % k) < k := by
  obtain ⟨h1, h2⟩ := own_rem x k d hd h0
  rw [Int32.lt_iff_toInt_lt, Int32.lt_iff_toInt_lt, hd]
  exact ⟨Int.not_lt.mpr h1, h2⟩
def own_at (xs : List Int32) (j : Int32) : Int32 := xs.getD j.toNatClampNeg 0
theorem own_atv (xs : List Int32) (j : Int32) : (xs.map Value.int).getD j.toNatClampNeg (.int 0) = .int (own_at xs j) := by
  unfold own_at
  generalize j.toNatClampNeg = n
  induction xs generalizing n with
  | nil => rfl
  | cons a r ih => cases n with
    | zero => rfl
    | succ n => simpa using ih n
theorem own_setl {l : List Value} {k n : Nat} {v : Value} (h : l.length = n) : (l.set k v).length = n := by rw [List.length_set]; exact h
theorem own_setg {l : List Value} {k : Nat} {v d : Value} (h : k < l.length) : (l.set k v).getD k d = v := by simp [List.getD, List.getElem?_set, h]
theorem own_setn {l : List Value} {k i : Nat} {v d : Value} (h : i ≠ k) : (l.set k v).getD i d = l.getD i d := by simp [List.getD, List.getElem?_set, Ne.symm h]
theorem own_lt_of {l : List Value} {n : Nat} {j z : Int32} (h : l.length = n) (q : ¬ j < 0 ∧ j < z) (hz : z.toNatClampNeg = n := by decide) : j.toNatClampNeg < l.length := by
  rw [h, ← hz]
  obtain ⟨q1, q2⟩ := q
  rw [Int32.lt_iff_toInt_lt] at q1 q2
  have : (0 : Int32).toInt = 0 := rfl
  simp only [Int32.toNatClampNeg]
  omega
theorem own_eqi {args : Array Value} {s : State} {t : Term} {k : Int32} (h : (Jvm.Cond.eq t (.int k)).value args s none s [] = some true) : t.eval args s none [] s = some (.int k) := by
  simp only [Cond.value, Term.eval] at h
  cases ht : t.eval args s none [] s with
  | none => simp [ht] at h
  | some x => cases x <;> simp_all
set_option maxRecDepth 65536
set_option maxHeartbeats 16000000
abbrev Pr (Z : State) (h0 : Heap) (A : Array Value) : Array Value → State → Prop := fun a U => a = A ∧ Z.Warmed39 U.vm ∧ U.heap = h0
abbrev Tr : Program → Env → List Frame → State → Array Value → Prop := fun _ _ _ _ _ => True
def HW (a0 : Array Value) (Z : State) : Prop := ∀ d ∈ tables_1, d.before a0 Z = true
theorem mw {Z : State} {a0 : Array Value} (hw : HW a0 Z) (i : Nat) {d : Jvm.Cond} (h : tables_1[i]? = some d) : d.before a0 Z = true := hw _ (List.mem_of_getElem? h)
theorem G {tb : Tables} {e : Env} {below : List Frame} {a b : State} {P : Outcome → State → Prop} (h : ∀ t, Steps tb e below b t → Steps tb e below a t) (k : Go tb e below b P) : Go tb e below a P := Go.st h k
abbrev us : Slot := .unset
abbrev vi (x : Int32) : Slot := .val (.int x)
abbrev vj (x : Int64) : Slot := .val (.long x)
abbrev vr (x : Addr) : Slot := .val (.ref x)
abbrev Rm (a b c d : Nat) : Room := { frames := a, cells := b, slots := c, locals := d }
abbrev RC : String := "com/example/bitlattice/bitlattice/eval/Relation"
abbrev IC : String := "com/example/bitlattice/bitlattice/eval/Relation$Index"
abbrev RI : String := "Lcom/example/bitlattice/bitlattice/eval/Relation$Index;"
abbrev RJ : String := "[Lcom/example/bitlattice/bitlattice/eval/Relation$Index;"
abbrev RL : String := "Lcom/example/bitlattice/bitlattice/eval/Relation;"
abbrev cB1 : ByteArray := method_2_code
abbrev cB2 : ByteArray := prog_33_method_1_code
abbrev cB3 : ByteArray := object_method_1_code
abbrev cB4 : ByteArray := prog_33_method_13_code
abbrev cB5 : ByteArray := prog_33_method_14_code
abbrev cB6 : ByteArray := prog_33_method_15_code
abbrev cB7 : ByteArray := prog_33_method_12_code
abbrev cB8 : ByteArray := prog_33_method_9_code
abbrev cB9 : ByteArray := prog_33_method_6_code
abbrev cB10 : ByteArray := prog_33_method_8_code
abbrev cB11 : ByteArray := prog_33_method_16_code
abbrev cB12 : ByteArray := jdk_65_method_123_code
abbrev cB13 : ByteArray := jdk_29_method_69_code
abbrev cB14 : ByteArray := prog_33_method_21_code
abbrev cB15 : ByteArray := prog_34_method_1_code
abbrev cB16 : ByteArray := jdk_29_method_65_code
abbrev cB17 : ByteArray := jdk_33_method_45_code
abbrev cB18 : ByteArray := jdk_33_method_47_code
abbrev cB19 : ByteArray := prog_34_method_4_code
abbrev cB20 : ByteArray := prog_34_method_14_code
abbrev cB21 : ByteArray := prog_33_method_26_code
abbrev cB22 : ByteArray := prog_34_method_8_code
abbrev cB23 : ByteArray := prog_34_method_11_code
abbrev cB24 : ByteArray := prog_34_method_9_code
abbrev cB25 : ByteArray := prog_34_method_10_code
theorem own_ltl (i m ln : Int32) (h : i.toInt < m.toInt) (hl : ¬ ln < m) : i < ln := by
 rw [Int32.lt_iff_toInt_lt] at hl ⊢
 omega
theorem own_nl (k m ln : Int32) (h : k.toInt ≤ m.toInt) (hl : ¬ ln < m) : ¬ ln < k := by
 rw [Int32.lt_iff_toInt_lt] at hl ⊢
 omega
theorem own_cpl (d n m ln : Int32) (hd : 0 ≤ d.toInt ∧ 0 ≤ n.toInt) (h : d.toInt + n.toInt ≤ m.toInt) (hl : ¬ ln < m) : d.toNatClampNeg + n.toNatClampNeg ≤ ln.toNatClampNeg := by
 rw [Int32.lt_iff_toInt_lt] at hl
 simp only [Int32.toNatClampNeg]
 omega
theorem own_pa (p a : Int32) (k : Int) (ha : a.toInt = k) (hk : 1 ≤ k ∧ k ≤ 3) (hp : 0 ≤ p.toInt ∧ p.toInt ≤ 15) : (p * a).toInt = p.toInt * k := by
 have : 0 ≤ p.toInt * k ∧ p.toInt * k ≤ 45 := by
  rcases (show k = 1 ∨ k = 2 ∨ k = 3 by omega) with h | h | h <;> subst h <;> omega
 rw [Int32.toInt_mul, ha, Int.bmod_eq_of_le (by omega) (by omega)]
theorem own_big (p a m : Int32) (k : Int) (ha : a.toInt = k) (hm : m.toInt = 4 * k) (hk : 1 ≤ k ∧ k ≤ 3) (hp : 0 ≤ p.toInt ∧ p.toInt ≤ 15) (h : (4 : Int32) < p) : m < (p * a) := by
 rw [Int32.lt_iff_toInt_lt, show (4 : Int32).toInt = 4 from rfl] at h
 rw [Int32.lt_iff_toInt_lt, own_pa p a k ha hk hp, hm]
 rcases (show k = 1 ∨ k = 2 ∨ k = 3 by omega) with h | h | h <;> subst h <;> omega
theorem own_small (p a m : Int32) (k : Int) (ha : a.toInt = k) (hm : m.toInt = 4 * k) (hk : 1 ≤ k ∧ k ≤ 3) (hp : 0 ≤ p.toInt ∧ p.toInt ≤ 15) (h : ¬ (4 : Int32) < p) : ¬ m < (p * a) := by
 rw [Int32.lt_iff_toInt_lt, show (4 : Int32).toInt = 4 from rfl] at h
 rw [Int32.lt_iff_toInt_lt, own_pa p a k ha hk hp, hm]
 rcases (show k = 1 ∨ k = 2 ∨ k = 3 by omega) with h | h | h <;> subst h <;> omega
theorem own_45 (p a : Int32) (k : Int) (ha : a.toInt = k) (hk : 1 ≤ k ∧ k ≤ 3) (hp : 0 ≤ p.toInt ∧ p.toInt ≤ 15) : (p * a).toInt ≤ 45 := by
 rw [own_pa p a k ha hk hp]
 rcases (show k = 1 ∨ k = 2 ∨ k = 3 by omega) with h | h | h <;> subst h <;> omega
theorem own_ge {x m : Int32} (h : m < x) : ¬ x < m := by
 rw [Int32.lt_iff_toInt_lt] at h ⊢
 omega
theorem own_48 {x : Int32} (h : (8 : Int32) < x) : (4 : Int32) < x := by
 rw [Int32.lt_iff_toInt_lt, show (8 : Int32).toInt = 8 from rfl] at h
 rw [Int32.lt_iff_toInt_lt, show (4 : Int32).toInt = 4 from rfl]
 omega
theorem own_lt (x k : Int32) (n : Int) (hk : k.toInt = n) (h : x.toInt < n) : x < k := by rw [Int32.lt_iff_toInt_lt, hk]; exact h
theorem own_nlt (x k : Int32) (n : Int) (hk : k.toInt = n) (h : n ≤ x.toInt) : ¬ x < k := by rw [Int32.lt_iff_toInt_lt, hk]; omega
theorem own_8 {x : Int32} (h : (8 : Int32) < x) : 9 ≤ x.toInt := by
 rw [Int32.lt_iff_toInt_lt, show (8 : Int32).toInt = 8 from rfl] at h
 omega
theorem own_pos {x : Int32} (h : (8 : Int32) < x) : (0 : Int32) < x := by
 rw [Int32.lt_iff_toInt_lt, show (8 : Int32).toInt = 8 from rfl] at h
 rw [Int32.lt_iff_toInt_lt, show (0 : Int32).toInt = 0 from rfl]
 omega
theorem own_c7 (x : Int32) (h : 9 ≤ x.toInt ∧ x.toInt ≤ 15) (P : Int32 → Prop) (hP : ∀ j : Fin 7, P (Int32.ofInt ((j.1 : Int) + 9))) : P x := by
 have := hP ⟨(x.toInt - 9).toNat, by omega⟩
 rw [Int.toNat_of_nonneg (by omega), Int.sub_add_cancel, Int32.ofInt_toInt] at this
 exact this
theorem own_15 (x : Int32) : 0 ≤ (x &&& (15 : Int32)).toInt ∧ (x &&& (15 : Int32)).toInt ≤ 15 := by
 have e : (x &&& (15 : Int32)).toBitVec = x.toBitVec &&& 15#32 := rfl
 have b : (x.toBitVec &&& 15#32).toNat ≤ 15 := by
  rw [BitVec.toNat_and]
  exact Nat.and_le_right
 have t : (x &&& (15 : Int32)).toInt = ((x.toBitVec &&& 15#32).toNat : Int) := by
  show (x &&& (15 : Int32)).toBitVec.toInt = _
  rw [e, BitVec.toInt_eq_toNat_of_lt (by omega)]
 omega
theorem own_m3 (x : Int32) (h0 : ¬ ((x &&& (2147483647 : Int32)) % (3 : Int32)) = 0) (h1 : ¬ ((x &&& (2147483647 : Int32)) % (3 : Int32)) = 1) : ((x &&& (2147483647 : Int32)) % (3 : Int32)) = 2 := by
 have h := own_rem x 3 3 rfl (by decide)
 have e0 := own_ne32 (a := 0) rfl h0; have e1 := own_ne32 (a := 1) rfl h1
 exact Int32.toInt_inj.mp (show _ = (2 : Int) by omega)
theorem d21_0 : decode cB21 0 = .ok (.iload_n 0, 1) := by decide +kernel
theorem d21_1 : decode cB21 1 = .ok (.iload_n 1, 1) := by decide +kernel
theorem d21_2 : decode cB21 2 = .ok (.iadd, 1) := by decide +kernel
theorem d21_3 : decode cB21 3 = .ok (.ldc 159, 2) := by decide +kernel
theorem wd128 {Z a0} (hw : HW a0 Z) : (Jvm.Cond.constant RC (159 : Nat) (-1640531535 : Int32)).before a0 Z = true := mw hw 128 rfl
theorem d21_5 : decode cB21 5 = .ok (.imul, 1) := by decide +kernel
theorem d21_6 : decode cB21 6 = .ok (.ireturn, 1) := by decide +kernel
theorem pn0 : plainName RC = true := by first | (simp [plainName, overriddenIn]; done) | decide +kernel
def Q21 (Z : State) (p1 : Int32) (p2 : Int32) (h0 : Heap) (n0 : Nat) (v : Option Value) (h : Heap) (L : List Loc) : Prop := v = some (.int ((p1 + p2) * (-1640531535 : Int32))) ∧ Fr n0 L ∧ h = h0
theorem ef21 (m : MethodId) (x0 : Int32) (x1 : Int32) : entryFrame m #[(.int x0), (.int x1)] 2 = mkF m 0 #[.val (.int x0), .val (.int x1)] [] := by first | (simp [entryFrame, mkF, argsToLocals, Value.category]; done) | rfl
theorem rm21 (l : Launch) (Z : State) (a0 : Array Value) (hw : HW a0 Z) (ws : List Jvm.Cond) (p1 : Int32) (p2 : Int32) (h0 : Heap) (n0 : Nat) (Z0 : n0 ≤ h0.size) :
  MetFree l (⟨RC, "mix", "(II)I"⟩ : MethodName) (head1 (Jvm.Cond.code (⟨RC, "mix", "(II)I"⟩ : MethodName) cB21 2 (some .int) :: ws) (Rm 0 0 0 0)) (Pr Z h0 #[(.int p1), (.int p2)]) Tr (fun _ U o U' => ∃ v L, o = .returned v ∧ Q21 Z p1 p2 h0 n0 v U'.heap L ∧ FrameEnd U o U' L (Rm 0 0 0 0).cells (Rm 0 0 0 0).slots) := by
 refine MetFree.of_bodySF (plainFor_of_name pn0) hisR ?_
 intro p e s m args below meth c s₁ Bd hml0 hP hK
 obtain ⟨rfl, hZ, hh⟩ := hP
 have hx := Bd.exec
 have hby := Bd.bytes
 have hml : c.maxLocals = 2 := hml0
 have hown : s.vm.findClass RC = some m.cls := findClass_of_methodNamed Bd.named
 have hnm := (name_of_methodNamed Bd.named Bd.method).1
 have X0 : Stand p l e (Rm 0 0 0 0) s m #[(.int p1), (.int p2)] below meth c s₁ [] 0 0 := Stand.of_body Bd
 have e0 : s₁.heap = h0 := by rw [← hh, Bd.state]; rfl
 have N0 := Fr.nil n0
 have K0 : Keep h0 h0 [] := Keep.refl h0 _
 refine G (P := fun o U' => ∃ v L, o = .returned v ∧ Q21 Z p1 p2 h0 n0 v U'.heap L ∧ FrameEnd s o U' L (Rm 0 0 0 0).cells (Rm 0 0 0 0).slots) (fun t k => castTop (ef21 m p1 p2) k) ?_
 show Go _ _ _ (s₁.setTop (mkF m 0 #[vi p1, vi p2] [])) _
 refine G (fun t k => XS.iloadN X0.here hx rfl (hb hby d21_0) rfl (XS.iloadN X0.here hx rfl (hb hby d21_1) rfl (XS.iadd X0.here hx rfl (hb hby d21_2) rfl (X0.ldcInt hx hown (mvT hZ (wd128 hw)) (g := (mkF m 3 #[vi p1, vi p2] [(.int (p1 + p2))])) rfl (hb hby d21_3) _ (XS.imul X0.here hx rfl (hb hby d21_5) rfl k))))) ?_
 obtain ⟨fs, hr, hrun, hended, hW, hsame⟩ := X0.leave (v := some (.int ((p1 + p2) * (-1640531535 : Int32)))) (fun h => by rw [Bd.returns] at h; cases h)
 refine Go.fin (retOut X0 hx Bd.returns rfl (Or.inl ⟨rfl, Or.inl rfl, _, rfl⟩) (hb hby d21_6) hr) hrun hended ⟨_, _, rfl, ?_, ⟨_, rfl⟩, hW, hsame.mono (by decide) (by decide)⟩
 show Q21 Z p1 p2 h0 n0 _ s₁.heap _
 rw [e0]
 exact ⟨rfl, N0, rfl⟩
theorem d23_0 : decode cB23 0 = .ok (.iload_n 1, 1) := by decide +kernel
theorem d23_1 : decode cB23 1 = .ok (.iload_n 1, 1) := by decide +kernel
theorem d23_2 : decode cB23 2 = .ok (.bipush 16, 2) := by decide +kernel
theorem d23_4 : decode cB23 4 = .ok (.iushr, 1) := by decide +kernel
theorem d23_5 : decode cB23 5 = .ok (.ixor, 1) := by decide +kernel
theorem d23_6 : decode cB23 6 = .ok (.ldc 93, 2) := by decide +kernel
theorem wd139 {Z a0} (hw : HW a0 Z) : (Jvm.Cond.constant IC (93 : Nat) (-2048144789 : Int32)).before a0 Z = true := mw hw 139 rfl
theorem d23_8 : decode cB23 8 = .ok (.imul, 1) := by decide +kernel
theorem d23_9 : decode cB23 9 = .ok (.istore_n 2, 1) := by decide +kernel
theorem d23_10 : decode cB23 10 = .ok (.iload_n 2, 1) := by decide +kernel
theorem d23_11 : decode cB23 11 = .ok (.iload_n 2, 1) := by decide +kernel
theorem d23_12 : decode cB23 12 = .ok (.bipush 13, 2) := by decide +kernel
theorem d23_14 : decode cB23 14 = .ok (.iushr, 1) := by decide +kernel
theorem d23_15 : decode cB23 15 = .ok (.ixor, 1) := by decide +kernel
theorem d23_16 : decode cB23 16 = .ok (.ldc 94, 2) := by decide +kernel
theorem wd140 {Z a0} (hw : HW a0 Z) : (Jvm.Cond.constant IC (94 : Nat) (-1028477387 : Int32)).before a0 Z = true := mw hw 140 rfl
theorem d23_18 : decode cB23 18 = .ok (.imul, 1) := by decide +kernel
theorem d23_19 : decode cB23 19 = .ok (.istore_n 2, 1) := by decide +kernel
theorem d23_20 : decode cB23 20 = .ok (.iload_n 2, 1) := by decide +kernel
theorem d23_21 : decode cB23 21 = .ok (.iload_n 2, 1) := by decide +kernel
theorem d23_22 : decode cB23 22 = .ok (.bipush 16, 2) := by decide +kernel
theorem d23_24 : decode cB23 24 = .ok (.iushr, 1) := by decide +kernel
theorem d23_25 : decode cB23 25 = .ok (.ixor, 1) := by decide +kernel
theorem d23_26 : decode cB23 26 = .ok (.iconst 4, 1) := by decide +kernel
theorem d23_27 : decode cB23 27 = .ok (.imul, 1) := by decide +kernel
theorem d23_28 : decode cB23 28 = .ok (.aload_n 0, 1) := by decide +kernel
theorem d23_29 : decode cB23 29 = .ok (.getfield 29, 3) := by decide +kernel
theorem wd109 {Z a0} (hw : HW a0 Z) : (Jvm.Cond.fieldLink IC (29 : Nat) IC "slots" "[I").before a0 Z = true := mw hw 109 rfl
theorem d23_32 : decode cB23 32 = .ok (.arraylength, 1) := by decide +kernel
theorem d23_33 : decode cB23 33 = .ok (.iconst 1, 1) := by decide +kernel
theorem d23_34 : decode cB23 34 = .ok (.isub, 1) := by decide +kernel
theorem d23_35 : decode cB23 35 = .ok (.iand, 1) := by decide +kernel
theorem d23_36 : decode cB23 36 = .ok (.ireturn, 1) := by decide +kernel
theorem pn1 : plainName IC = true := by first | (simp [plainName, overriddenIn]; done) | decide +kernel
def f23 (p2 : Int32) : Int32 := (((((((p2 ^^^ ((p2.toUInt32 >>> ((16 : Int32) &&& 31).toUInt32).toInt32)) * (-2048144789 : Int32)) ^^^ ((((p2 ^^^ ((p2.toUInt32 >>> ((16 : Int32) &&& 31).toUInt32).toInt32)) * (-2048144789 : Int32)).toUInt32 >>> ((13 : Int32) &&& 31).toUInt32).toInt32)) * (-1028477387 : Int32)) ^^^ ((((((p2 ^^^ ((p2.toUInt32 >>> ((16 : Int32) &&& 31).toUInt32).toInt32)) * (-2048144789 : Int32)) ^^^ ((((p2 ^^^ ((p2.toUInt32 >>> ((16 : Int32) &&& 31).toUInt32).toInt32)) * (-2048144789 : Int32)).toUInt32 >>> ((13 : Int32) &&& 31).toUInt32).toInt32)) * (-1028477387 : Int32)).toUInt32 >>> ((16 : Int32) &&& 31).toUInt32).toInt32)) * (4 : Int32)) &&& (127 : Int32))
def Q23 (Z : State) (a1 : Addr) (p2 : Int32) (w_sl : Addr) (k_s : ClassId) (h0 : Heap) (n0 : Nat) (v : Option Value) (h : Heap) (L : List Loc) : Prop := v = some (.int (f23 p2)) ∧ Fr n0 L ∧ h = h0
theorem ef23 (m : MethodId) (x0 : Addr) (x1 : Int32) : entryFrame m #[(.ref x0), (.int x1)] 3 = mkF m 0 #[.val (.ref x0), .val (.int x1), .unset] [] := by first | (simp [entryFrame, mkF, argsToLocals, Value.category]; done) | rfl
theorem rm23 (l : Launch) (Z : State) (a0 : Array Value) (hw : HW a0 Z) (ws : List Jvm.Cond) (a1 : Addr) (p2 : Int32) (w_sl : Addr) (k_s : ClassId) (h0 : Heap) (n0 : Nat) (Z0 : n0 ≤ h0.size) (F_a1_l : Fld Z h0 a1 IC "slots" "[I" (.ref w_sl)) (V_sl : Arh Z h0 w_sl k_s .int (128 : Int32) [] [] (.int (0 : Int32))) :
  MetFree l (⟨IC, "start", "(I)I"⟩ : MethodName) (head1 (Jvm.Cond.code (⟨IC, "start", "(I)I"⟩ : MethodName) cB23 3 (some .int) :: ws) (Rm 0 0 0 0)) (Pr Z h0 #[(.ref a1), (.int p2)]) Tr (fun _ U o U' => ∃ v L, o = .returned v ∧ Q23 Z a1 p2 w_sl k_s h0 n0 v U'.heap L ∧ FrameEnd U o U' L (Rm 0 0 0 0).cells (Rm 0 0 0 0).slots) := by
 refine MetFree.of_bodySF (plainFor_of_name pn1) hisR ?_
 intro p e s m args below meth c s₁ Bd hml0 hP hK
 obtain ⟨rfl, hZ, hh⟩ := hP
 have hx := Bd.exec
 have hby := Bd.bytes
 have hml : c.maxLocals = 3 := hml0
 have hown : s.vm.findClass IC = some m.cls := findClass_of_methodNamed Bd.named
 have hnm := (name_of_methodNamed Bd.named Bd.method).1
 have X0 : Stand p l e (Rm 0 0 0 0) s m #[(.ref a1), (.int p2)] below meth c s₁ [] 0 0 := Stand.of_body Bd
 have e0 : s₁.heap = h0 := by rw [← hh, Bd.state]; rfl
 have N0 := Fr.nil n0
 have K0 : Keep h0 h0 [] := Keep.refl h0 _
 refine G (P := fun o U' => ∃ v L, o = .returned v ∧ Q23 Z a1 p2 w_sl k_s h0 n0 v U'.heap L ∧ FrameEnd s o U' L (Rm 0 0 0 0).cells (Rm 0 0 0 0).slots) (fun t k => castTop (ef23 m a1 p2) k) ?_
 show Go _ _ _ (s₁.setTop (mkF m 0 #[vr a1, vi p2, us] [])) _
 refine G (fun t k => XS.iloadN X0.here hx rfl (hb hby d23_0) rfl (XS.iloadN X0.here hx rfl (hb hby d23_1) rfl (XS.bipush X0.here hx rfl (hb hby d23_2) (XS.iushr X0.here hx rfl (hb hby d23_4) rfl (XS.ixor X0.here hx rfl (hb hby d23_5) rfl (X0.ldcInt hx hown (mvT hZ (wd139 hw)) (g := (mkF m 6 #[vr a1, vi p2, us] [(.int (p2 ^^^ ((p2.toUInt32 >>> ((16 : Int32) &&& 31).toUInt32).toInt32)))])) rfl (hb hby d23_6) _ k)))))) ?_
 refine G (fun t k => XS.imul X0.here hx rfl (hb hby d23_8) rfl k) ?_
 show Go _ _ _ (s₁.setTop (mkF m 9 #[vr a1, vi p2, us] [(.int ((p2 ^^^ ((p2.toUInt32 >>> ((16 : Int32) &&& 31).toUInt32).toInt32)) * (-2048144789 : Int32)))])) _
 refine G (fun t k => XS.istoreN X0.here hx rfl (hb hby d23_9) rfl (l' := #[vr a1, vi p2, vi ((p2 ^^^ ((p2.toUInt32 >>> ((16 : Int32) &&& 31).toUInt32).toInt32)) * (-2048144789 : Int32))]) rfl (XS.iloadN X0.here hx rfl (hb hby d23_10) rfl (XS.iloadN X0.here hx rfl (hb hby d23_11) rfl (XS.bipush X0.here hx rfl (hb hby d23_12) (XS.iushr X0.here hx rfl (hb hby d23_14) rfl (XS.ixor X0.here hx rfl (hb hby d23_15) rfl k)))))) ?_
 refine G (fun t k => X0.ldcInt hx hown (mvT hZ (wd140 hw)) (g := (mkF m 16 #[vr a1, vi p2, vi ((p2 ^^^ ((p2.toUInt32 >>> ((16 : Int32) &&& 31).toUInt32).toInt32)) * (-2048144789 : Int32))] [(.int (((p2 ^^^ ((p2.toUInt32 >>> ((16 : Int32) &&& 31).toUInt32).toInt32)) * (-2048144789 : Int32)) ^^^ ((((p2 ^^^ ((p2.toUInt32 >>> ((16 : Int32) &&& 31).toUInt32).toInt32)) * (-2048144789 : Int32)).toUInt32 >>> ((13 : Int32) &&& 31).toUInt32).toInt32)))])) rfl (hb hby d23_16) _ k) ?_
 show Go _ _ _ (s₁.setTop (mkF m 18 #[vr a1, vi p2, vi ((p2 ^^^ ((p2.toUInt32 >>> ((16 : Int32) &&& 31).toUInt32).toInt32)) * (-2048144789 : Int32))] [(.int (-1028477387)), (.int (((p2 ^^^ ((p2.toUInt32 >>> ((16 : Int32) &&& 31).toUInt32).toInt32)) * (-2048144789 : Int32)) ^^^ ((((p2 ^^^ ((p2.toUInt32 >>> ((16 : Int32) &&& 31).toUInt32).toInt32)) * (-2048144789 : Int32)).toUInt32 >>> ((13 : Int32) &&& 31).toUInt32).toInt32)))])) _
 refine G (fun t k => XS.imul X0.here hx rfl (hb hby d23_18) rfl (XS.istoreN X0.here hx rfl (hb hby d23_19) rfl (l' := #[vr a1, vi p2, vi ((((p2 ^^^ ((p2.toUInt32 >>> ((16 : Int32) &&& 31).toUInt32).toInt32)) * (-2048144789 : Int32)) ^^^ ((((p2 ^^^ ((p2.toUInt32 >>> ((16 : Int32) &&& 31).toUInt32).toInt32)) * (-2048144789 : Int32)).toUInt32 >>> ((13 : Int32) &&& 31).toUInt32).toInt32)) * (-1028477387 : Int32))]) rfl (XS.iloadN X0.here hx rfl (hb hby d23_20) rfl (XS.iloadN X0.here hx rfl (hb hby d23_21) rfl (XS.bipush X0.here hx rfl (hb hby d23_22) (XS.iushr X0.here hx rfl (hb hby d23_24) rfl k)))))) ?_
 refine G (fun t k => XS.ixor X0.here hx rfl (hb hby d23_25) rfl k) ?_
 show Go _ _ _ (s₁.setTop (mkF m 26 #[vr a1, vi p2, vi ((((p2 ^^^ ((p2.toUInt32 >>> ((16 : Int32) &&& 31).toUInt32).toInt32)) * (-2048144789 : Int32)) ^^^ ((((p2 ^^^ ((p2.toUInt32 >>> ((16 : Int32) &&& 31).toUInt32).toInt32)) * (-2048144789 : Int32)).toUInt32 >>> ((13 : Int32) &&& 31).toUInt32).toInt32)) * (-1028477387 : Int32))] [(.int (((((p2 ^^^ ((p2.toUInt32 >>> ((16 : Int32) &&& 31).toUInt32).toInt32)) * (-2048144789 : Int32)) ^^^ ((((p2 ^^^ ((p2.toUInt32 >>> ((16 : Int32) &&& 31).toUInt32).toInt32)) * (-2048144789 : Int32)).toUInt32 >>> ((13 : Int32) &&& 31).toUInt32).toInt32)) * (-1028477387 : Int32)) ^^^ ((((((p2 ^^^ ((p2.toUInt32 >>> ((16 : Int32) &&& 31).toUInt32).toInt32)) * (-2048144789 : Int32)) ^^^ ((((p2 ^^^ ((p2.toUInt32 >>> ((16 : Int32) &&& 31).toUInt32).toInt32)) * (-2048144789 : Int32)).toUInt32 >>> ((13 : Int32) &&& 31).toUInt32).toInt32)) * (-1028477387 : Int32)).toUInt32 >>> ((16 : Int32) &&& 31).toUInt32).toInt32)))])) _
 refine G (fun t k => XS.iconst X0.here hx rfl (hb hby d23_26) (XS.imul X0.here hx rfl (hb hby d23_27) rfl (XS.aloadN X0.here hx rfl (hb hby d23_28) rfl rfl k))) ?_
 obtain ⟨T1, X1, e1, st1⟩ := getF X0 hx hZ hown (host := "") (Or.inl (wd109 hw)) Via.refl e0 F_a1_l (g := (mkF m 29 #[vr a1, vi p2, vi ((((p2 ^^^ ((p2.toUInt32 >>> ((16 : Int32) &&& 31).toUInt32).toInt32)) * (-2048144789 : Int32)) ^^^ ((((p2 ^^^ ((p2.toUInt32 >>> ((16 : Int32) &&& 31).toUInt32).toInt32)) * (-2048144789 : Int32)).toUInt32 >>> ((13 : Int32) &&& 31).toUInt32).toInt32)) * (-1028477387 : Int32))] [(.ref a1), (.int ((((((p2 ^^^ ((p2.toUInt32 >>> ((16 : Int32) &&& 31).toUInt32).toInt32)) * (-2048144789 : Int32)) ^^^ ((((p2 ^^^ ((p2.toUInt32 >>> ((16 : Int32) &&& 31).toUInt32).toInt32)) * (-2048144789 : Int32)).toUInt32 >>> ((13 : Int32) &&& 31).toUInt32).toInt32)) * (-1028477387 : Int32)) ^^^ ((((((p2 ^^^ ((p2.toUInt32 >>> ((16 : Int32) &&& 31).toUInt32).toInt32)) * (-2048144789 : Int32)) ^^^ ((((p2 ^^^ ((p2.toUInt32 >>> ((16 : Int32) &&& 31).toUInt32).toInt32)) * (-2048144789 : Int32)).toUInt32 >>> ((13 : Int32) &&& 31).toUInt32).toInt32)) * (-1028477387 : Int32)).toUInt32 >>> ((16 : Int32) &&& 31).toUInt32).toInt32)) * (4 : Int32)))])) rfl rfl (hb hby d23_29)
 refine G st1 ?_
 obtain ⟨cl2, Ar2, -, Sz2, Ng2, -, -⟩ := id V_sl
 refine G (fun t k => X1.arraylength hx (by rw [e1]; exact Ar2.1) (State.isArrayOf_alike hZ.alike Ar2.2.1) (g := (mkF m 32 #[vr a1, vi p2, vi ((((p2 ^^^ ((p2.toUInt32 >>> ((16 : Int32) &&& 31).toUInt32).toInt32)) * (-2048144789 : Int32)) ^^^ ((((p2 ^^^ ((p2.toUInt32 >>> ((16 : Int32) &&& 31).toUInt32).toInt32)) * (-2048144789 : Int32)).toUInt32 >>> ((13 : Int32) &&& 31).toUInt32).toInt32)) * (-1028477387 : Int32))] [(.ref w_sl), (.int ((((((p2 ^^^ ((p2.toUInt32 >>> ((16 : Int32) &&& 31).toUInt32).toInt32)) * (-2048144789 : Int32)) ^^^ ((((p2 ^^^ ((p2.toUInt32 >>> ((16 : Int32) &&& 31).toUInt32).toInt32)) * (-2048144789 : Int32)).toUInt32 >>> ((13 : Int32) &&& 31).toUInt32).toInt32)) * (-1028477387 : Int32)) ^^^ ((((((p2 ^^^ ((p2.toUInt32 >>> ((16 : Int32) &&& 31).toUInt32).toInt32)) * (-2048144789 : Int32)) ^^^ ((((p2 ^^^ ((p2.toUInt32 >>> ((16 : Int32) &&& 31).toUInt32).toInt32)) * (-2048144789 : Int32)).toUInt32 >>> ((13 : Int32) &&& 31).toUInt32).toInt32)) * (-1028477387 : Int32)).toUInt32 >>> ((16 : Int32) &&& 31).toUInt32).toInt32)) * (4 : Int32)))])) rfl rfl (hb hby d23_32) _ k) ?_
 rw [len_of Sz2 Ng2]
 refine G (fun t k => XS.iconst X1.here hx rfl (hb hby d23_33) (XS.isub X1.here hx rfl (hb hby d23_34) rfl k)) ?_
 show Go _ _ _ (T1.setTop (mkF m 35 #[vr a1, vi p2, vi ((((p2 ^^^ ((p2.toUInt32 >>> ((16 : Int32) &&& 31).toUInt32).toInt32)) * (-2048144789 : Int32)) ^^^ ((((p2 ^^^ ((p2.toUInt32 >>> ((16 : Int32) &&& 31).toUInt32).toInt32)) * (-2048144789 : Int32)).toUInt32 >>> ((13 : Int32) &&& 31).toUInt32).toInt32)) * (-1028477387 : Int32))] [(.int 127), (.int ((((((p2 ^^^ ((p2.toUInt32 >>> ((16 : Int32) &&& 31).toUInt32).toInt32)) * (-2048144789 : Int32)) ^^^ ((((p2 ^^^ ((p2.toUInt32 >>> ((16 : Int32) &&& 31).toUInt32).toInt32)) * (-2048144789 : Int32)).toUInt32 >>> ((13 : Int32) &&& 31).toUInt32).toInt32)) * (-1028477387 : Int32)) ^^^ ((((((p2 ^^^ ((p2.toUInt32 >>> ((16 : Int32) &&& 31).toUInt32).toInt32)) * (-2048144789 : Int32)) ^^^ ((((p2 ^^^ ((p2.toUInt32 >>> ((16 : Int32) &&& 31).toUInt32).toInt32)) * (-2048144789 : Int32)).toUInt32 >>> ((13 : Int32) &&& 31).toUInt32).toInt32)) * (-1028477387 : Int32)).toUInt32 >>> ((16 : Int32) &&& 31).toUInt32).toInt32)) * (4 : Int32)))])) _
 refine G (fun t k => XS.iand X1.here hx rfl (hb hby d23_35) rfl k) ?_
 obtain ⟨fs, hr, hrun, hended, hW, hsame⟩ := X1.leave (v := some (.int (((((((p2 ^^^ ((p2.toUInt32 >>> ((16 : Int32) &&& 31).toUInt32).toInt32)) * (-2048144789 : Int32)) ^^^ ((((p2 ^^^ ((p2.toUInt32 >>> ((16 : Int32) &&& 31).toUInt32).toInt32)) * (-2048144789 : Int32)).toUInt32 >>> ((13 : Int32) &&& 31).toUInt32).toInt32)) * (-1028477387 : Int32)) ^^^ ((((((p2 ^^^ ((p2.toUInt32 >>> ((16 : Int32) &&& 31).toUInt32).toInt32)) * (-2048144789 : Int32)) ^^^ ((((p2 ^^^ ((p2.toUInt32 >>> ((16 : Int32) &&& 31).toUInt32).toInt32)) * (-2048144789 : Int32)).toUInt32 >>> ((13 : Int32) &&& 31).toUInt32).toInt32)) * (-1028477387 : Int32)).toUInt32 >>> ((16 : Int32) &&& 31).toUInt32).toInt32)) * (4 : Int32)) &&& (127 : Int32)))) (fun h => by rw [Bd.returns] at h; cases h)
 refine Go.fin (retOut X1 hx Bd.returns rfl (Or.inl ⟨rfl, Or.inl rfl, _, rfl⟩) (hb hby d23_36) hr) hrun hended ⟨_, _, rfl, ?_, ⟨_, rfl⟩, hW, hsame.mono (by decide) (by decide)⟩
 show Q23 Z a1 p2 w_sl k_s h0 n0 _ T1.heap _
 rw [e1]
 exact ⟨rfl, N0, rfl⟩
theorem d13_0 : decode cB13 0 = .ok (.iload_n 0, 1) := by decide +kernel
theorem d13_1 : decode cB13 1 = .ok (.iload_n 1, 1) := by decide +kernel
theorem d13_2 : decode cB13 2 = .ok (.if_icmp .gt 7, 3) := by decide +kernel
theorem d13_9 : decode cB13 9 = .ok (.iload_n 1, 1) := by decide +kernel
theorem d13_10 : decode cB13 10 = .ok (.ireturn, 1) := by decide +kernel
theorem d13_5 : decode cB13 5 = .ok (.iload_n 0, 1) := by decide +kernel
theorem d13_6 : decode cB13 6 = .ok (.goto 4, 3) := by decide +kernel
theorem pn2 : plainFor (⟨"java/lang/Math", "min", "(II)I"⟩ : MethodName) = true := by decide +kernel
def f13 (p1 : Int32) (p2 : Int32) : Int32 := (if p2 < p1 then p2 else p1)
def Q13 (Z : State) (p1 : Int32) (p2 : Int32) (h0 : Heap) (n0 : Nat) (v : Option Value) (h : Heap) (L : List Loc) : Prop := v = some (.int (f13 p1 p2)) ∧ Fr n0 L ∧ h = h0
theorem ef13 (m : MethodId) (x0 : Int32) (x1 : Int32) : entryFrame m #[(.int x0), (.int x1)] 2 = mkF m 0 #[.val (.int x0), .val (.int x1)] [] := by first | (simp [entryFrame, mkF, argsToLocals, Value.category]; done) | rfl
theorem rm13 (l : Launch) (Z : State) (a0 : Array Value) (hw : HW a0 Z) (ws : List Jvm.Cond) (p1 : Int32) (p2 : Int32) (h0 : Heap) (n0 : Nat) (Z0 : n0 ≤ h0.size) :
  MetFree l (⟨"java/lang/Math", "min", "(II)I"⟩ : MethodName) (head1 (Jvm.Cond.code (⟨"java/lang/Math", "min", "(II)I"⟩ : MethodName) cB13 2 (some .int) :: ws) (Rm 0 0 0 0)) (Pr Z h0 #[(.int p1), (.int p2)]) Tr (fun _ U o U' => ∃ v L, o = .returned v ∧ Q13 Z p1 p2 h0 n0 v U'.heap L ∧ FrameEnd U o U' L (Rm 0 0 0 0).cells (Rm 0 0 0 0).slots) := by
 refine MetFree.of_bodySF (Jvm.Free.JP.mathPlain rfl (by decide +kernel)) hisR ?_
 intro p e s m args below meth c s₁ Bd hml0 hP hK
 obtain ⟨rfl, hZ, hh⟩ := hP
 have hx := Bd.exec
 have hby := Bd.bytes
 have hml : c.maxLocals = 2 := hml0
 have hown : s.vm.findClass "java/lang/Math" = some m.cls := findClass_of_methodNamed Bd.named
 have hnm := (name_of_methodNamed Bd.named Bd.method).1
 have X0 : Stand p l e (Rm 0 0 0 0) s m #[(.int p1), (.int p2)] below meth c s₁ [] 0 0 := Stand.of_body Bd
 have e0 : s₁.heap = h0 := by rw [← hh, Bd.state]; rfl
 have N0 := Fr.nil n0
 have K0 : Keep h0 h0 [] := Keep.refl h0 _
 refine G (P := fun o U' => ∃ v L, o = .returned v ∧ Q13 Z p1 p2 h0 n0 v U'.heap L ∧ FrameEnd s o U' L (Rm 0 0 0 0).cells (Rm 0 0 0 0).slots) (fun t k => castTop (ef13 m p1 p2) k) ?_
 show Go _ _ _ (s₁.setTop (mkF m 0 #[vi p1, vi p2] [])) _
 refine G (fun t k => XS.iloadN X0.here hx rfl (hb hby d13_0) rfl (XS.iloadN X0.here hx rfl (hb hby d13_1) rfl k)) ?_
 by_cases hc1 : p2 < p1
 ·refine G (fun t k => XS.icmpYes X0.here hx rfl (pc0 := 2) (pc' := 9) rfl (hb hby d13_2) rfl (tlt hc1).2.2.1 (by decide) (by decide) (XS.iloadN X0.here hx rfl (hb hby d13_9) rfl k)) ?_
  obtain ⟨fs, hr, hrun, hended, hW, hsame⟩ := X0.leave (v := some (.int p2)) (fun h => by rw [Bd.returns] at h; cases h)
  refine Go.fin (retOut X0 hx Bd.returns rfl (Or.inl ⟨rfl, Or.inl rfl, _, rfl⟩) (hb hby d13_10) hr) hrun hended ⟨_, _, rfl, ?_, ⟨_, rfl⟩, hW, hsame.mono (by decide) (by decide)⟩
  show Q13 Z p1 p2 h0 n0 _ s₁.heap _
  rw [e0]
  exact ⟨(by unfold f13; simp only [if_pos hc1]), N0, rfl⟩
 ·refine G (fun t k => XS.icmpNo X0.here hx rfl (hb hby d13_2) rfl (flt hc1).2.2.1 (XS.iloadN X0.here hx rfl (hb hby d13_5) rfl (XS.goto X0.here hx rfl (pc0 := 6) (pc' := 10) rfl (hb hby d13_6) (by decide) (by decide) k))) ?_
  obtain ⟨fs, hr, hrun, hended, hW, hsame⟩ := X0.leave (v := some (.int p1)) (fun h => by rw [Bd.returns] at h; cases h)
  refine Go.fin (retOut X0 hx Bd.returns rfl (Or.inl ⟨rfl, Or.inl rfl, _, rfl⟩) (hb hby d13_10) hr) hrun hended ⟨_, _, rfl, ?_, ⟨_, rfl⟩, hW, hsame.mono (by decide) (by decide)⟩
  show Q13 Z p1 p2 h0 n0 _ s₁.heap _
  rw [e0]
  exact ⟨(by unfold f13; simp only [if_neg hc1]), N0, rfl⟩
theorem d16_0 : decode cB16 0 = .ok (.iload_n 0, 1) := by decide +kernel
theorem d16_1 : decode cB16 1 = .ok (.iload_n 1, 1) := by decide +kernel
theorem d16_2 : decode cB16 2 = .ok (.if_icmp .lt 7, 3) := by decide +kernel
theorem d16_9 : decode cB16 9 = .ok (.iload_n 1, 1) := by decide +kernel
theorem d16_10 : decode cB16 10 = .ok (.ireturn, 1) := by decide +kernel
theorem d16_5 : decode cB16 5 = .ok (.iload_n 0, 1) := by decide +kernel
theorem d16_6 : decode cB16 6 = .ok (.goto 4, 3) := by decide +kernel
theorem pn3 : plainFor (⟨"java/lang/Math", "max", "(II)I"⟩ : MethodName) = true := by decide +kernel
def f16 (p1 : Int32) (p2 : Int32) : Int32 := (if p1 < p2 then p2 else p1)
def Q16 (Z : State) (p1 : Int32) (p2 : Int32) (h0 : Heap) (n0 : Nat) (v : Option Value) (h : Heap) (L : List Loc) : Prop := v = some (.int (f16 p1 p2)) ∧ Fr n0 L ∧ h = h0
theorem ef16 (m : MethodId) (x0 : Int32) (x1 : Int32) : entryFrame m #[(.int x0), (.int x1)] 2 = mkF m 0 #[.val (.int x0), .val (.int x1)] [] := by first | (simp [entryFrame, mkF, argsToLocals, Value.category]; done) | rfl
theorem rm16 (l : Launch) (Z : State) (a0 : Array Value) (hw : HW a0 Z) (ws : List Jvm.Cond) (p1 : Int32) (p2 : Int32) (h0 : Heap) (n0 : Nat) (Z0 : n0 ≤ h0.size) :
  MetFree l (⟨"java/lang/Math", "max", "(II)I"⟩ : MethodName) (head1 (Jvm.Cond.code (⟨"java/lang/Math", "max", "(II)I"⟩ : MethodName) cB16 2 (some .int) :: ws) (Rm 0 0 0 0)) (Pr Z h0 #[(.int p1), (.int p2)]) Tr (fun _ U o U' => ∃ v L, o = .returned v ∧ Q16 Z p1 p2 h0 n0 v U'.heap L ∧ FrameEnd U o U' L (Rm 0 0 0 0).cells (Rm 0 0 0 0).slots) := by
 refine MetFree.of_bodySF (Jvm.Free.JP.mathPlain rfl (by decide +kernel)) hisR ?_
 intro p e s m args below meth c s₁ Bd hml0 hP hK
 obtain ⟨rfl, hZ, hh⟩ := hP
 have hx := Bd.exec
 have hby := Bd.bytes
 have hml : c.maxLocals = 2 := hml0
 have hown : s.vm.findClass "java/lang/Math" = some m.cls := findClass_of_methodNamed Bd.named
 have hnm := (name_of_methodNamed Bd.named Bd.method).1
 have X0 : Stand p l e (Rm 0 0 0 0) s m #[(.int p1), (.int p2)] below meth c s₁ [] 0 0 := Stand.of_body Bd
 have e0 : s₁.heap = h0 := by rw [← hh, Bd.state]; rfl
 have N0 := Fr.nil n0
 have K0 : Keep h0 h0 [] := Keep.refl h0 _
 refine G (P := fun o U' => ∃ v L, o = .returned v ∧ Q16 Z p1 p2 h0 n0 v U'.heap L ∧ FrameEnd s o U' L (Rm 0 0 0 0).cells (Rm 0 0 0 0).slots) (fun t k => castTop (ef16 m p1 p2) k) ?_
 show Go _ _ _ (s₁.setTop (mkF m 0 #[vi p1, vi p2] [])) _
 refine G (fun t k => XS.iloadN X0.here hx rfl (hb hby d16_0) rfl (XS.iloadN X0.here hx rfl (hb hby d16_1) rfl k)) ?_
 by_cases hc1 : p1 < p2
 ·refine G (fun t k => XS.icmpYes X0.here hx rfl (pc0 := 2) (pc' := 9) rfl (hb hby d16_2) rfl (tlt hc1).1 (by decide) (by decide) (XS.iloadN X0.here hx rfl (hb hby d16_9) rfl k)) ?_
  obtain ⟨fs, hr, hrun, hended, hW, hsame⟩ := X0.leave (v := some (.int p2)) (fun h => by rw [Bd.returns] at h; cases h)
  refine Go.fin (retOut X0 hx Bd.returns rfl (Or.inl ⟨rfl, Or.inl rfl, _, rfl⟩) (hb hby d16_10) hr) hrun hended ⟨_, _, rfl, ?_, ⟨_, rfl⟩, hW, hsame.mono (by decide) (by decide)⟩
  show Q16 Z p1 p2 h0 n0 _ s₁.heap _
  rw [e0]
  exact ⟨(by unfold f16; simp only [if_pos hc1]), N0, rfl⟩
 ·refine G (fun t k => XS.icmpNo X0.here hx rfl (hb hby d16_2) rfl (flt hc1).1 (XS.iloadN X0.here hx rfl (hb hby d16_5) rfl (XS.goto X0.here hx rfl (pc0 := 6) (pc' := 10) rfl (hb hby d16_6) (by decide) (by decide) k))) ?_
  obtain ⟨fs, hr, hrun, hended, hW, hsame⟩ := X0.leave (v := some (.int p1)) (fun h => by rw [Bd.returns] at h; cases h)
  refine Go.fin (retOut X0 hx Bd.returns rfl (Or.inl ⟨rfl, Or.inl rfl, _, rfl⟩) (hb hby d16_10) hr) hrun hended ⟨_, _, rfl, ?_, ⟨_, rfl⟩, hW, hsame.mono (by decide) (by decide)⟩
  show Q16 Z p1 p2 h0 n0 _ s₁.heap _
  rw [e0]
  exact ⟨(by unfold f16; simp only [if_neg hc1]), N0, rfl⟩
theorem own_st (h : Int32) : 0 ≤ (f23 h).toInt ∧ (f23 h).toInt ≤ 124 := by
 have key : ∀ m : Int32, 0 ≤ ((m * 4) &&& (127 : Int32)).toInt ∧ ((m * 4) &&& (127 : Int32)).toInt ≤ 124 := by
  intro m
  have e : ((m * 4) &&& (127 : Int32)).toBitVec = (m.toBitVec * 4#32) &&& 127#32 := rfl
  have b : ((m.toBitVec * 4#32) &&& 127#32).toNat = (m.toBitVec.toNat * 4 % 4294967296) % 128 := by
   rw [BitVec.toNat_and, BitVec.toNat_mul]
   exact Nat.and_two_pow_sub_one_eq_mod _ 7
  have t : ((m * 4) &&& (127 : Int32)).toInt = (((m.toBitVec * 4#32) &&& 127#32).toNat : Int) := by
   show ((m * 4) &&& (127 : Int32)).toBitVec.toInt = _
   rw [e, BitVec.toInt_eq_toNat_of_lt (by omega)]
  omega
 unfold f23
 exact key _
theorem own_sl (p k : Int32) (n : Int) (hk : k.toInt = n) (hn : 0 ≤ n ∧ n ≤ 3) (hp : 0 ≤ p.toInt ∧ p.toInt ≤ 124) : ¬ (p + k) < 0 ∧ (p + k) < (128 : Int32) := by
 have e : (p + k).toInt = p.toInt + n := by rw [Int32.toInt_add, hk, Int.bmod_eq_of_le (by omega) (by omega)]
 rw [Int32.lt_iff_toInt_lt, Int32.lt_iff_toInt_lt, e, show (0 : Int32).toInt = 0 from rfl, show (128 : Int32).toInt = 128 from rfl]
 omega
theorem d18_0 : decode cB18 0 = .ok (.iload_n 0, 1) := by decide +kernel
theorem d18_1 : decode cB18 1 = .ok (.ifCond .gt 14, 3) := by decide +kernel
theorem d18_15 : decode cB18 15 = .ok (.bipush 31, 2) := by decide +kernel
theorem d18_17 : decode cB18 17 = .ok (.istore_n 1, 1) := by decide +kernel
theorem d18_18 : decode cB18 18 = .ok (.iload_n 0, 1) := by decide +kernel
theorem d18_19 : decode cB18 19 = .ok (.ldc_w 264, 3) := by decide +kernel
theorem wd108 {Z a0} (hw : HW a0 Z) : (Jvm.Cond.constant "java/lang/Integer" (264 : Nat) (65536 : Int32)).before a0 Z = true := mw hw 108 rfl
theorem d18_22 : decode cB18 22 = .ok (.if_icmp .lt 11, 3) := by decide +kernel
theorem d18_33 : decode cB18 33 = .ok (.iload_n 0, 1) := by decide +kernel
theorem d18_34 : decode cB18 34 = .ok (.sipush 256, 3) := by decide +kernel
theorem d18_37 : decode cB18 37 = .ok (.if_icmp .lt 11, 3) := by decide +kernel
theorem d18_48 : decode cB18 48 = .ok (.iload_n 0, 1) := by decide +kernel
theorem d18_49 : decode cB18 49 = .ok (.bipush 16, 2) := by decide +kernel
theorem d18_51 : decode cB18 51 = .ok (.if_icmp .lt 10, 3) := by decide +kernel
theorem d18_61 : decode cB18 61 = .ok (.iload_n 0, 1) := by decide +kernel
theorem d18_62 : decode cB18 62 = .ok (.iconst 4, 1) := by decide +kernel
theorem d18_63 : decode cB18 63 = .ok (.if_icmp .lt 10, 3) := by decide +kernel
theorem d18_66 : decode cB18 66 = .ok (.iinc 1 (-2), 3) := by decide +kernel
theorem d18_69 : decode cB18 69 = .ok (.iload_n 0, 1) := by decide +kernel
theorem d18_70 : decode cB18 70 = .ok (.iconst 2, 1) := by decide +kernel
theorem d18_71 : decode cB18 71 = .ok (.iushr, 1) := by decide +kernel
theorem d18_72 : decode cB18 72 = .ok (.istore_n 0, 1) := by decide +kernel
theorem d18_73 : decode cB18 73 = .ok (.iload_n 1, 1) := by decide +kernel
theorem d18_74 : decode cB18 74 = .ok (.iload_n 0, 1) := by decide +kernel
theorem d18_75 : decode cB18 75 = .ok (.iconst 1, 1) := by decide +kernel
theorem d18_76 : decode cB18 76 = .ok (.iushr, 1) := by decide +kernel
theorem d18_77 : decode cB18 77 = .ok (.isub, 1) := by decide +kernel
theorem own_nlz (p1 : Int32) (h : 9 ≤ p1.toInt ∧ p1.toInt ≤ 15) : ((29 : Int32) - ((((p1.toUInt32 >>> ((2 : Int32) &&& 31).toUInt32).toInt32).toUInt32 >>> ((1 : Int32) &&& 31).toUInt32).toInt32)) = 28 := own_c7 p1 h (fun p1 => ((29 : Int32) - ((((p1.toUInt32 >>> ((2 : Int32) &&& 31).toUInt32).toInt32).toUInt32 >>> ((1 : Int32) &&& 31).toUInt32).toInt32)) = 28) (by decide +kernel)
theorem d18_78 : decode cB18 78 = .ok (.ireturn, 1) := by decide +kernel
theorem pn4 : plainName "java/lang/Integer" = true := by first | (simp [plainName, overriddenIn]; done) | decide +kernel
def Q18 (Z : State) (p1 : Int32) (h0 : Heap) (n0 : Nat) (v : Option Value) (h : Heap) (L : List Loc) : Prop := v = some (.int (28 : Int32)) ∧ Fr n0 L ∧ h = h0
theorem ef18 (m : MethodId) (x0 : Int32) : entryFrame m #[(.int x0)] 2 = mkF m 0 #[.val (.int x0), .unset] [] := by first | (simp [entryFrame, mkF, argsToLocals, Value.category]; done) | rfl
theorem rm18 (l : Launch) (Z : State) (a0 : Array Value) (hw : HW a0 Z) (ws : List Jvm.Cond) (p1 : Int32) (h0 : Heap) (n0 : Nat) (Z0 : n0 ≤ h0.size) (h8 : (8 : Int32) < p1) (h15 : p1.toInt ≤ 15) :
  MetFree l (⟨"java/lang/Integer", "numberOfLeadingZeros", "(I)I"⟩ : MethodName) (head1 (Jvm.Cond.code (⟨"java/lang/Integer", "numberOfLeadingZeros", "(I)I"⟩ : MethodName) cB18 2 (some .int) :: ws) (Rm 0 0 0 0)) (Pr Z h0 #[(.int p1)]) Tr (fun _ U o U' => ∃ v L, o = .returned v ∧ Q18 Z p1 h0 n0 v U'.heap L ∧ FrameEnd U o U' L (Rm 0 0 0 0).cells (Rm 0 0 0 0).slots) := by
 refine MetFree.of_bodySF (plainFor_of_name pn4) hisR ?_
 intro p e s m args below meth c s₁ Bd hml0 hP hK
 obtain ⟨rfl, hZ, hh⟩ := hP
 have hx := Bd.exec
 have hby := Bd.bytes
 have hml : c.maxLocals = 2 := hml0
 have hown : s.vm.findClass "java/lang/Integer" = some m.cls := findClass_of_methodNamed Bd.named
 have hnm := (name_of_methodNamed Bd.named Bd.method).1
 have X0 : Stand p l e (Rm 0 0 0 0) s m #[(.int p1)] below meth c s₁ [] 0 0 := Stand.of_body Bd
 have e0 : s₁.heap = h0 := by rw [← hh, Bd.state]; rfl
 have N0 := Fr.nil n0
 have K0 : Keep h0 h0 [] := Keep.refl h0 _
 refine G (P := fun o U' => ∃ v L, o = .returned v ∧ Q18 Z p1 h0 n0 v U'.heap L ∧ FrameEnd s o U' L (Rm 0 0 0 0).cells (Rm 0 0 0 0).slots) (fun t k => castTop (ef18 m p1) k) ?_
 show Go _ _ _ (s₁.setTop (mkF m 0 #[vi p1, us] [])) _
 refine G (fun t k => XS.iloadN X0.here hx rfl (hb hby d18_0) rfl k) ?_
 have hf1 : (0 : Int32) < p1 := own_pos h8
 refine G (fun t k => XS.ifYes X0.here hx rfl (pc0 := 1) (pc' := 15) rfl (hb hby d18_1) rfl ((if0 _ _).trans (tlt hf1).2.2.1) (by decide) (by decide) (XS.bipush X0.here hx rfl (hb hby d18_15) (XS.istoreN X0.here hx rfl (hb hby d18_17) rfl (l' := #[vi p1, vi 31]) rfl (XS.iloadN X0.here hx rfl (hb hby d18_18) rfl (X0.ldcwInt hx hown (mvT hZ (wd108 hw)) (g := (mkF m 19 #[vi p1, vi 31] [(.int p1)])) rfl (hb hby d18_19) _ k))))) ?_
 have hf2 : p1 < (65536 : Int32) := own_lt p1 65536 65536 rfl (by omega)
 refine G (fun t k => XS.icmpYes X0.here hx rfl (pc0 := 22) (pc' := 33) rfl (hb hby d18_22) rfl (tlt hf2).1 (by decide) (by decide) k) ?_
 show Go _ _ _ (s₁.setTop (mkF m 33 #[vi p1, vi 31] [])) _
 refine G (fun t k => XS.iloadN X0.here hx rfl (hb hby d18_33) rfl (XS.sipush X0.here hx rfl (hb hby d18_34) k)) ?_
 have hf3 : p1 < (256 : Int32) := own_lt p1 256 256 rfl (by omega)
 refine G (fun t k => XS.icmpYes X0.here hx rfl (pc0 := 37) (pc' := 48) rfl (hb hby d18_37) rfl (tlt hf3).1 (by decide) (by decide) (XS.iloadN X0.here hx rfl (hb hby d18_48) rfl (XS.bipush X0.here hx rfl (hb hby d18_49) k))) ?_
 have hf4 : p1 < (16 : Int32) := own_lt p1 16 16 rfl (by omega)
 refine G (fun t k => XS.icmpYes X0.here hx rfl (pc0 := 51) (pc' := 61) rfl (hb hby d18_51) rfl (tlt hf4).1 (by decide) (by decide) (XS.iloadN X0.here hx rfl (hb hby d18_61) rfl k)) ?_
 show Go _ _ _ (s₁.setTop (mkF m 62 #[vi p1, vi 31] [(.int p1)])) _
 refine G (fun t k => XS.iconst X0.here hx rfl (hb hby d18_62) k) ?_
 have hf5 : ¬ (p1 < (4 : Int32)) := own_nlt p1 4 4 rfl (by have := own_8 h8; omega)
 refine G (fun t k => XS.icmpNo X0.here hx rfl (hb hby d18_63) rfl (flt hf5).1 (XS.iinc X0.here hx rfl (hb hby d18_66) rfl (l' := #[.val (.int p1), .val (.int ((31 : Int32) + (-2 : Int32)))]) rfl (XS.iloadN X0.here hx rfl (hb hby d18_69) rfl (XS.iconst X0.here hx rfl (hb hby d18_70) (XS.iushr X0.here hx rfl (hb hby d18_71) rfl (XS.istoreN X0.here hx rfl (hb hby d18_72) rfl (l' := #[vi ((p1.toUInt32 >>> ((2 : Int32) &&& 31).toUInt32).toInt32), vi 29]) rfl k)))))) ?_
 show Go _ _ _ (s₁.setTop (mkF m 73 #[vi ((p1.toUInt32 >>> ((2 : Int32) &&& 31).toUInt32).toInt32), vi 29] [])) _
 refine G (fun t k => XS.iloadN X0.here hx rfl (hb hby d18_73) rfl (XS.iloadN X0.here hx rfl (hb hby d18_74) rfl (XS.iconst X0.here hx rfl (hb hby d18_75) (XS.iushr X0.here hx rfl (hb hby d18_76) rfl (XS.isub X0.here hx rfl (hb hby d18_77) rfl k))))) ?_
 show Go _ _ _ (s₁.setTop (mkF m 78 #[vi ((p1.toUInt32 >>> ((2 : Int32) &&& 31).toUInt32).toInt32), vi 29] [(.int ((29 : Int32) - ((((p1.toUInt32 >>> ((2 : Int32) &&& 31).toUInt32).toInt32).toUInt32 >>> ((1 : Int32) &&& 31).toUInt32).toInt32)))])) _
 refine Go.fr (g' := (mkF m 78 #[vi ((p1.toUInt32 >>> ((2 : Int32) &&& 31).toUInt32).toInt32), vi 29] [(.int 28)])) (by rw [own_nlz p1 ⟨own_8 h8, h15⟩]) ?_
 show Go _ _ _ (s₁.setTop (mkF m 78 #[vi ((p1.toUInt32 >>> ((2 : Int32) &&& 31).toUInt32).toInt32), vi 29] [(.int 28)])) _
 obtain ⟨fs, hr, hrun, hended, hW, hsame⟩ := X0.leave (v := some (.int (28 : Int32))) (fun h => by rw [Bd.returns] at h; cases h)
 refine Go.fin (retOut X0 hx Bd.returns rfl (Or.inl ⟨rfl, Or.inl rfl, _, rfl⟩) (hb hby d18_78) hr) hrun hended ⟨_, _, rfl, ?_, ⟨_, rfl⟩, hW, hsame.mono (by decide) (by decide)⟩
 show Q18 Z p1 h0 n0 _ s₁.heap _
 rw [e0]
 exact ⟨rfl, N0, rfl⟩
theorem d17_0 : decode cB17 0 = .ok (.iload_n 0, 1) := by decide +kernel
theorem d17_1 : decode cB17 1 = .ok (.ldc 127, 2) := by decide +kernel
theorem wd104 {Z a0} (hw : HW a0 Z) : (Jvm.Cond.constant "java/lang/Integer" (127 : Nat) (-2147483648 : Int32)).before a0 Z = true := mw hw 104 rfl
theorem d17_3 : decode cB17 3 = .ok (.iload_n 0, 1) := by decide +kernel
theorem d17_4 : decode cB17 4 = .ok (.invokestatic 51, 3) := by decide +kernel
theorem wd105 {Z a0} (hw : HW a0 Z) : (Jvm.Cond.methodLink "java/lang/Integer" (51 : Nat) ⟨"java/lang/Integer", "numberOfLeadingZeros", "(I)I"⟩).before a0 Z = true := mw hw 105 rfl
theorem wd107 {Z a0} (hw : HW a0 Z) : (Jvm.Cond.code ⟨"java/lang/Integer", "numberOfLeadingZeros", "(I)I"⟩ cB18 (2 : Nat) (Option.some Jvm.ClassFile.FieldType.int)).before a0 Z = true := mw hw 107 rfl
theorem wd102 {Z a0} (hw : HW a0 Z) : (Jvm.Cond.initialized "java/lang/Integer").before a0 Z = true := mw hw 102 rfl
theorem pd0 : parseMethodDescriptor "(I)I" = some ⟨[.int], some .int⟩ := by decide +kernel
theorem wd106 {Z a0} (hw : HW a0 Z) : (Jvm.Cond.static ⟨"java/lang/Integer", "numberOfLeadingZeros", "(I)I"⟩).before a0 Z = true := mw hw 106 rfl
theorem d17_7 : decode cB17 7 = .ok (.iushr, 1) := by decide +kernel
theorem d17_8 : decode cB17 8 = .ok (.iand, 1) := by decide +kernel
theorem own_hob (p1 : Int32) (h : 9 ≤ p1.toInt ∧ p1.toInt ≤ 15) : (p1 &&& (((-2147483648 : Int32).toUInt32 >>> ((28 : Int32) &&& 31).toUInt32).toInt32)) = 8 := own_c7 p1 h (fun p1 => (p1 &&& (((-2147483648 : Int32).toUInt32 >>> ((28 : Int32) &&& 31).toUInt32).toInt32)) = 8) (by decide +kernel)
theorem d17_9 : decode cB17 9 = .ok (.ireturn, 1) := by decide +kernel
def Q17 (Z : State) (p1 : Int32) (h0 : Heap) (n0 : Nat) (v : Option Value) (h : Heap) (L : List Loc) : Prop := v = some (.int (8 : Int32)) ∧ Fr n0 L ∧ h = h0
theorem ef17 (m : MethodId) (x0 : Int32) : entryFrame m #[(.int x0)] 1 = mkF m 0 #[.val (.int x0)] [] := by first | (simp [entryFrame, mkF, argsToLocals, Value.category]; done) | rfl
theorem rm17 (l : Launch) (Z : State) (a0 : Array Value) (hw : HW a0 Z) (ws : List Jvm.Cond) (p1 : Int32) (h0 : Heap) (n0 : Nat) (Z0 : n0 ≤ h0.size) (h8 : (8 : Int32) < p1) (h15 : p1.toInt ≤ 15) :
  MetFree l (⟨"java/lang/Integer", "highestOneBit", "(I)I"⟩ : MethodName) (head1 (Jvm.Cond.code (⟨"java/lang/Integer", "highestOneBit", "(I)I"⟩ : MethodName) cB17 1 (some .int) :: ws) (Rm 1 0 0 15)) (Pr Z h0 #[(.int p1)]) Tr (fun _ U o U' => ∃ v L, o = .returned v ∧ Q17 Z p1 h0 n0 v U'.heap L ∧ FrameEnd U o U' L (Rm 1 0 0 15).cells (Rm 1 0 0 15).slots) := by
 refine MetFree.of_bodySF (plainFor_of_name pn4) hisR ?_
 intro p e s m args below meth c s₁ Bd hml0 hP hK
 obtain ⟨rfl, hZ, hh⟩ := hP
 have hx := Bd.exec
 have hby := Bd.bytes
 have hml : c.maxLocals = 1 := hml0
 have hown : s.vm.findClass "java/lang/Integer" = some m.cls := findClass_of_methodNamed Bd.named
 have hnm := (name_of_methodNamed Bd.named Bd.method).1
 have X0 : Stand p l e (Rm 1 0 0 15) s m #[(.int p1)] below meth c s₁ [] 0 0 := Stand.of_body Bd
 have e0 : s₁.heap = h0 := by rw [← hh, Bd.state]; rfl
 have N0 := Fr.nil n0
 have K0 : Keep h0 h0 [] := Keep.refl h0 _
 refine G (P := fun o U' => ∃ v L, o = .returned v ∧ Q17 Z p1 h0 n0 v U'.heap L ∧ FrameEnd s o U' L (Rm 1 0 0 15).cells (Rm 1 0 0 15).slots) (fun t k => castTop (ef17 m p1) k) ?_
 show Go _ _ _ (s₁.setTop (mkF m 0 #[vi p1] [])) _
 refine G (fun t k => XS.iloadN X0.here hx rfl (hb hby d17_0) rfl (X0.ldcInt hx hown (mvT hZ (wd104 hw)) (g := (mkF m 1 #[vi p1] [(.int p1)])) rfl (hb hby d17_1) _ (XS.iloadN X0.here hx rfl (hb hby d17_3) rfl k))) ?_
 obtain ⟨_, _, ⟨T1, L1, k1, n1⟩, -, X1, ⟨Lc1, hQ1, l1, y1, z1⟩, st1⟩ := Jvm.LawKit.callS X0 hx (y := (⟨"java/lang/Integer", "numberOfLeadingZeros", "(I)I"⟩ : MethodName)) hown (mvT hZ (wd105 hw)) (mvT hZ (wd106 hw)) (mvT hZ (wd102 hw)) (mvT hZ (wd107 hw)) (by decide) (backOf (W := 2) (rm18 l Z a0 hw [] p1 h0 n0 Z0 h8 h15) hZ (wd107 hw) (wd102 hw) (by decide) (by decide)) (g := (mkF m 4 #[vi p1] [(.int p1), (.int (-2147483648)), (.int p1)])) rfl (by rw [hml]; rfl) (argsL := [(.int p1)]) (rest := [(.int (-2147483648 : Int32)), (.int p1)]) (lenOf pd0 rfl) rfl (by show 2 * 0 + _ ≤ _; exact Nat.le_of_eq rfl) (hb hby d17_4) (fun _ _ => ⟨rfl, e0, (by decide : 0 + 0 ≤ _), (by decide : 0 + 0 ≤ _)⟩)
 dsimp only [Pt.U, Pt.locs, Pt.cells, Pt.slots] at X1 l1 y1 z1 st1 hQ1
 subst l1 y1 z1
 refine G st1 ?_
 obtain ⟨rfl, N1q, e1⟩ := hQ1
 have N1 := Fr.app N0 N1q
 refine G (fun t k => XS.iushr X1.here hx rfl (hb hby d17_7) rfl (XS.iand X1.here hx rfl (hb hby d17_8) rfl k)) ?_
 show Go _ _ _ (T1.setTop (mkF m 9 #[vi p1] [(.int (p1 &&& (((-2147483648 : Int32).toUInt32 >>> ((28 : Int32) &&& 31).toUInt32).toInt32)))])) _
 refine Go.fr (g' := (mkF m 9 #[vi p1] [(.int 8)])) (by rw [own_hob p1 ⟨own_8 h8, h15⟩]) ?_
 show Go _ _ _ (T1.setTop (mkF m 9 #[vi p1] [(.int 8)])) _
 obtain ⟨fs, hr, hrun, hended, hW, hsame⟩ := X1.leave (v := some (.int (8 : Int32))) (fun h => by rw [Bd.returns] at h; cases h)
 refine Go.fin (retOut X1 hx Bd.returns rfl (Or.inl ⟨rfl, Or.inl rfl, _, rfl⟩) (hb hby d17_9) hr) hrun hended ⟨_, _, rfl, ?_, ⟨_, rfl⟩, hW, hsame.mono (by decide) (by decide)⟩
 show Q17 Z p1 h0 n0 _ T1.heap _
 rw [e1]
 exact ⟨rfl, N1, rfl⟩
theorem d25_0 : decode cB25 0 = .ok (.iload_n 1, 1) := by decide +kernel
theorem d25_1 : decode cB25 1 = .ok (.aload_n 0, 1) := by decide +kernel
theorem d25_2 : decode cB25 2 = .ok (.getfield 32, 3) := by decide +kernel
theorem wd111 {Z a0} (hw : HW a0 Z) : (Jvm.Cond.fieldLink IC (32 : Nat) IC "next" "[I").before a0 Z = true := mw hw 111 rfl
theorem d25_5 : decode cB25 5 = .ok (.arraylength, 1) := by decide +kernel
theorem d25_6 : decode cB25 6 = .ok (.if_icmp .lt 27, 3) := by decide +kernel
theorem d25_33 : decode cB25 33 = .ok (.aload_n 0, 1) := by decide +kernel
theorem d25_34 : decode cB25 34 = .ok (.getfield 32, 3) := by decide +kernel
theorem d25_37 : decode cB25 37 = .ok (.iload_n 1, 1) := by decide +kernel
theorem d25_38 : decode cB25 38 = .ok (.iconst (-1), 1) := by decide +kernel
theorem d25_39 : decode cB25 39 = .ok (.iastore, 1) := by decide +kernel
theorem d25_40 : decode cB25 40 = .ok (.return_, 1) := by decide +kernel
def Q25 (Z : State) (a1 : Addr) (w_sl : Addr) (w_nx : Addr) (k_s : ClassId) (k_n : ClassId) (h0 : Heap) (n0 : Nat) (v : Option Value) (h : Heap) (L : List Loc) : Prop := v = none ∧ Fr n0 L ∧ Keep h0 h [w_nx] ∧ Arv Z h w_nx k_n .int (16 : Int32) [(.int (-1 : Int32))] (.int (0 : Int32))
theorem ef25 (m : MethodId) (x0 : Addr) : entryFrame m #[(.ref x0), (.int (0 : Int32))] 2 = mkF m 0 #[.val (.ref x0), .val (.int (0 : Int32))] [] := by first | (simp [entryFrame, mkF, argsToLocals, Value.category]; done) | rfl
theorem rm25 (l : Launch) (Z : State) (a0 : Array Value) (hw : HW a0 Z) (ws : List Jvm.Cond) (a1 : Addr) (w_sl : Addr) (w_nx : Addr) (k_s : ClassId) (k_n : ClassId) (h0 : Heap) (n0 : Nat) (Z0 : n0 ≤ h0.size) (E_a1 : Exa Z h0 a1 IC) (F_a1_l : Fld Z h0 a1 IC "slots" "[I" (.ref w_sl)) (F_a1_next : Fld Z h0 a1 IC "next" "[I" (.ref w_nx)) (F_a1_keys : Fld Z h0 a1 IC "keys" "I" (.int (0 : Int32))) (V_sl : Arh Z h0 w_sl k_s .int (128 : Int32) [] [] (.int (0 : Int32))) (V_nx : Arv Z h0 w_nx k_n .int (16 : Int32) [] (.int (0 : Int32))) (ne_w_sl_a1 : w_sl ≠ a1) (ne_w_nx_a1 : w_nx ≠ a1) (ne_w_nx_w_sl : w_nx ≠ w_sl) (g_w_nx : n0 ≤ w_nx) :
  MetFree l (⟨IC, "chain", "(I)V"⟩ : MethodName) (head1 (Jvm.Cond.code (⟨IC, "chain", "(I)V"⟩ : MethodName) cB25 2 none :: ws) (Rm 0 0 0 0)) (Pr Z h0 #[(.ref a1), (.int (0 : Int32))]) Tr (fun _ U o U' => ∃ v L, o = .returned v ∧ Q25 Z a1 w_sl w_nx k_s k_n h0 n0 v U'.heap L ∧ FrameEnd U o U' L (Rm 0 0 0 0).cells (Rm 0 0 0 0).slots) := by
 refine MetFree.of_bodySF (plainFor_of_name pn1) hisR ?_
 intro p e s m args below meth c s₁ Bd hml0 hP hK
 obtain ⟨rfl, hZ, hh⟩ := hP
 have hx := Bd.exec
 have hby := Bd.bytes
 have hml : c.maxLocals = 2 := hml0
 have hown : s.vm.findClass IC = some m.cls := findClass_of_methodNamed Bd.named
 have hnm := (name_of_methodNamed Bd.named Bd.method).1
 have X0 : Stand p l e (Rm 0 0 0 0) s m #[(.ref a1), (.int (0 : Int32))] below meth c s₁ [] 0 0 := Stand.of_body Bd
 have e0 : s₁.heap = h0 := by rw [← hh, Bd.state]; rfl
 have N0 := Fr.nil n0
 have K0 : Keep h0 h0 [w_nx] := Keep.refl h0 _
 refine G (P := fun o U' => ∃ v L, o = .returned v ∧ Q25 Z a1 w_sl w_nx k_s k_n h0 n0 v U'.heap L ∧ FrameEnd s o U' L (Rm 0 0 0 0).cells (Rm 0 0 0 0).slots) (fun t k => castTop (ef25 m a1) k) ?_
 show Go _ _ _ (s₁.setTop (mkF m 0 #[vr a1, vi 0] [])) _
 refine G (fun t k => XS.iloadN X0.here hx rfl (hb hby d25_0) rfl (XS.aloadN X0.here hx rfl (hb hby d25_1) rfl rfl k)) ?_
 obtain ⟨T1, X1, e1, st1⟩ := getF X0 hx hZ hown (host := "") (Or.inl (wd111 hw)) Via.refl e0 F_a1_next (g := (mkF m 2 #[vr a1, vi 0] [(.ref a1), (.int 0)])) rfl rfl (hb hby d25_2)
 refine G st1 ?_
 obtain ⟨cl2, Ar2, -, Sz2, Ng2, -, -⟩ := id V_nx
 refine G (fun t k => X1.arraylength hx (by rw [e1]; exact Ar2.1) (State.isArrayOf_alike hZ.alike Ar2.2.1) (g := (mkF m 5 #[vr a1, vi 0] [(.ref w_nx), (.int 0)])) rfl rfl (hb hby d25_5) _ k) ?_
 rw [len_of Sz2 Ng2]
 refine G (fun t k => XS.icmpYes X1.here hx rfl (pc0 := 6) (pc' := 33) rfl (hb hby d25_6) rfl (tlt (by decide : (0 : Int32) < (16 : Int32))).1 (by decide) (by decide) (XS.aloadN X1.here hx rfl (hb hby d25_33) rfl rfl k)) ?_
 obtain ⟨T3, X3, e3, st3⟩ := getF X1 hx hZ hown (host := "") (Or.inl (wd111 hw)) Via.refl e1 F_a1_next (g := (mkF m 34 #[vr a1, vi 0] [(.ref a1)])) rfl rfl (hb hby d25_34)
 refine G st3 ?_
 show Go _ _ _ (T3.setTop (mkF m 37 #[vr a1, vi 0] [(.ref w_nx)])) _
 refine G (fun t k => XS.iloadN X3.here hx rfl (hb hby d25_37) rfl (XS.iconst X3.here hx rfl (hb hby d25_38) k)) ?_
 replace V_nx : Arv Z h0 w_nx k_n .int (16 : Int32) [(.int (0 : Int32))] (.int (0 : Int32)) := V_nx.pad (pad_rep [] (.int (0 : Int32)) 1)
 obtain ⟨cl4, Ar4, qq4, Sz4, Ng4, Hs4, Gs4⟩ := id V_nx
 have hin4 : ¬ ((0 : Int32) < 0 ∨ cl4.slots.size ≤ ((0 : Int32)).toNatClampNeg) := inb_of Sz4 ⟨by decide, by decide⟩
 obtain ⟨T5, h5, X5, e5, W5, st5⟩ := stI X3 hx hZ e3 Ar4 (j := (0 : Int32)) hin4 (g := (mkF m 39 #[vr a1, vi 0] [(.int (-1)), (.int 0), (.ref w_nx)])) rfl rfl (hb hby d25_39)
 refine G st5 ?_
 have N5 := Fr.snoc X5 N0 g_w_nx
 replace E_a1 := E_a1.wr W5
 replace F_a1_l := F_a1_l.other W5 (Or.inl (Ne.symm ne_w_nx_a1))
 replace F_a1_next := F_a1_next.other W5 (Or.inl (Ne.symm ne_w_nx_a1))
 replace F_a1_keys := F_a1_keys.other W5 (Or.inl (Ne.symm ne_w_nx_a1))
 replace V_sl := V_sl.other W5 (Ne.symm ne_w_nx_w_sl)
 replace Z0 := Nat.le_trans Z0 (Nat.le_of_eq W5.size.symm)
 replace K0 := K0.wr W5 (Or.inl (by simp))
 replace V_nx : Arv Z h5 w_nx k_n .int (16 : Int32) [(.int (-1 : Int32))] (.int (0 : Int32)) := Arv.set Ar4 qq4 Sz4 Ng4 Hs4 Gs4 rfl W5 0 rfl (Nat.le_of_ble_eq_true rfl)
 obtain ⟨fs, hr, hrun, hended, hW, hsame⟩ := X5.leave (v := none) (fun _ => rfl)
 refine Go.fin (X5.returnOut hx Bd.returns (hb hby d25_40) hr) hrun hended ⟨_, _, rfl, ?_, ⟨_, rfl⟩, hW, hsame.mono (by decide) (by decide)⟩
 show Q25 Z a1 w_sl w_nx k_s k_n h0 n0 _ T5.heap _
 rw [e5]
 exact ⟨rfl, N5, K0, V_nx⟩
theorem d22_0 : decode cB22 0 = .ok (.iconst 2, 1) := by decide +kernel
theorem d22_1 : decode cB22 1 = .ok (.aload_n 0, 1) := by decide +kernel
theorem d22_2 : decode cB22 2 = .ok (.getfield 86, 3) := by decide +kernel
theorem wd133 {Z a0} (hw : HW a0 Z) : (Jvm.Cond.fieldLink IC (86 : Nat) IC "keys" "I").before a0 Z = true := mw hw 133 rfl
theorem d22_5 : decode cB22 5 = .ok (.iconst 1, 1) := by decide +kernel
theorem d22_6 : decode cB22 6 = .ok (.iadd, 1) := by decide +kernel
theorem d22_7 : decode cB22 7 = .ok (.imul, 1) := by decide +kernel
theorem d22_8 : decode cB22 8 = .ok (.iconst 4, 1) := by decide +kernel
theorem d22_9 : decode cB22 9 = .ok (.imul, 1) := by decide +kernel
theorem d22_10 : decode cB22 10 = .ok (.aload_n 0, 1) := by decide +kernel
theorem d22_11 : decode cB22 11 = .ok (.getfield 29, 3) := by decide +kernel
theorem d22_14 : decode cB22 14 = .ok (.arraylength, 1) := by decide +kernel
theorem d22_15 : decode cB22 15 = .ok (.if_icmp .le 14, 3) := by decide +kernel
theorem d22_29 : decode cB22 29 = .ok (.aload_n 0, 1) := by decide +kernel
theorem d22_30 : decode cB22 30 = .ok (.iload_n 2, 1) := by decide +kernel
theorem d22_31 : decode cB22 31 = .ok (.invokevirtual 70, 3) := by decide +kernel
theorem wd135 {Z a0} (hw : HW a0 Z) : (Jvm.Cond.methodLink IC (70 : Nat) ⟨IC, "start", "(I)I"⟩).before a0 Z = true := mw hw 135 rfl
theorem wd138 {Z a0} (hw : HW a0 Z) : (Jvm.Cond.code ⟨IC, "start", "(I)I"⟩ cB23 (3 : Nat) (Option.some Jvm.ClassFile.FieldType.int)).before a0 Z = true := mw hw 138 rfl
theorem wd85 {Z a0} (hw : HW a0 Z) : (Jvm.Cond.initialized IC).before a0 Z = true := mw hw 85 rfl
theorem wd136 {Z a0} (hw : HW a0 Z) : (Jvm.Cond.instanceMethod ⟨IC, "start", "(I)I"⟩).before a0 Z = true := mw hw 136 rfl
theorem wd84 {Z a0} (hw : HW a0 Z) : (Jvm.Cond.instantiable IC (5 : Nat)).before a0 Z = true := mw hw 84 rfl
theorem wd137 {Z a0} (hw : HW a0 Z) : (Jvm.Cond.privateMethod ⟨IC, "start", "(I)I"⟩).before a0 Z = true := mw hw 137 rfl
theorem d22_34 : decode cB22 34 = .ok (.istore_n 3, 1) := by decide +kernel
theorem d22_35 : decode cB22 35 = .ok (.aload_n 0, 1) := by decide +kernel
theorem d22_36 : decode cB22 36 = .ok (.getfield 29, 3) := by decide +kernel
theorem d22_39 : decode cB22 39 = .ok (.iload_n 3, 1) := by decide +kernel
theorem d22_40 : decode cB22 40 = .ok (.iconst 0, 1) := by decide +kernel
theorem d22_41 : decode cB22 41 = .ok (.iadd, 1) := by decide +kernel
theorem d22_42 : decode cB22 42 = .ok (.iaload, 1) := by decide +kernel
theorem d22_43 : decode cB22 43 = .ok (.ifCond .eq 42, 3) := by decide +kernel
theorem d22_85 : decode cB22 85 = .ok (.iload_n 3, 1) := by decide +kernel
theorem d22_86 : decode cB22 86 = .ok (.ireturn, 1) := by decide +kernel
def Q22 (Z : State) (a1 : Addr) (p3 : Int32) (w_sl : Addr) (w_nx : Addr) (k_s : ClassId) (k_n : ClassId) (h0 : Heap) (n0 : Nat) (v : Option Value) (h : Heap) (L : List Loc) : Prop := v = some (.int (f23 p3)) ∧ Fr n0 L ∧ h = h0
theorem ef22 (m : MethodId) (x0 : Addr) (x2 : Int32) : entryFrame m #[(.ref x0), (.int (0 : Int32)), (.int x2)] 4 = mkF m 0 #[.val (.ref x0), .val (.int (0 : Int32)), .val (.int x2), .unset] [] := by first | (simp [entryFrame, mkF, argsToLocals, Value.category]; done) | rfl
theorem rm22 (l : Launch) (Z : State) (a0 : Array Value) (hw : HW a0 Z) (ws : List Jvm.Cond) (a1 : Addr) (p3 : Int32) (w_sl : Addr) (w_nx : Addr) (k_s : ClassId) (k_n : ClassId) (h0 : Heap) (n0 : Nat) (Z0 : n0 ≤ h0.size) (E_a1 : Exa Z h0 a1 IC) (F_a1_l : Fld Z h0 a1 IC "slots" "[I" (.ref w_sl)) (F_a1_next : Fld Z h0 a1 IC "next" "[I" (.ref w_nx)) (F_a1_keys : Fld Z h0 a1 IC "keys" "I" (.int (0 : Int32))) (V_sl : Arh Z h0 w_sl k_s .int (128 : Int32) [] [] (.int (0 : Int32))) (V_nx : Arv Z h0 w_nx k_n .int (16 : Int32) [] (.int (0 : Int32))) (ne_w_sl_a1 : w_sl ≠ a1) (ne_w_nx_a1 : w_nx ≠ a1) (ne_w_nx_w_sl : w_nx ≠ w_sl) :
  MetFree l (⟨IC, "probe", "(II)I"⟩ : MethodName) (head1 (Jvm.Cond.code (⟨IC, "probe", "(II)I"⟩ : MethodName) cB22 4 (some .int) :: ws) (Rm 1 0 0 14)) (Pr Z h0 #[(.ref a1), (.int (0 : Int32)), (.int p3)]) Tr (fun _ U o U' => ∃ v L, o = .returned v ∧ Q22 Z a1 p3 w_sl w_nx k_s k_n h0 n0 v U'.heap L ∧ FrameEnd U o U' L (Rm 1 0 0 14).cells (Rm 1 0 0 14).slots) := by
 refine MetFree.of_bodySF (plainFor_of_name pn1) hisR ?_
 intro p e s m args below meth c s₁ Bd hml0 hP hK
 obtain ⟨rfl, hZ, hh⟩ := hP
 have hx := Bd.exec
 have hby := Bd.bytes
 have hml : c.maxLocals = 4 := hml0
 have hown : s.vm.findClass IC = some m.cls := findClass_of_methodNamed Bd.named
 have hnm := (name_of_methodNamed Bd.named Bd.method).1
 have X0 : Stand p l e (Rm 1 0 0 14) s m #[(.ref a1), (.int (0 : Int32)), (.int p3)] below meth c s₁ [] 0 0 := Stand.of_body Bd
 have e0 : s₁.heap = h0 := by rw [← hh, Bd.state]; rfl
 have N0 := Fr.nil n0
 have K0 : Keep h0 h0 [] := Keep.refl h0 _
 refine G (P := fun o U' => ∃ v L, o = .returned v ∧ Q22 Z a1 p3 w_sl w_nx k_s k_n h0 n0 v U'.heap L ∧ FrameEnd s o U' L (Rm 1 0 0 14).cells (Rm 1 0 0 14).slots) (fun t k => castTop (ef22 m a1 p3) k) ?_
 show Go _ _ _ (s₁.setTop (mkF m 0 #[vr a1, vi 0, vi p3, us] [])) _
 refine G (fun t k => XS.iconst X0.here hx rfl (hb hby d22_0) (XS.aloadN X0.here hx rfl (hb hby d22_1) rfl rfl k)) ?_
 obtain ⟨T1, X1, e1, st1⟩ := getF X0 hx hZ hown (host := "") (Or.inl (wd133 hw)) Via.refl e0 F_a1_keys (g := (mkF m 2 #[vr a1, vi 0, vi p3, us] [(.ref a1), (.int 2)])) rfl rfl (hb hby d22_2)
 refine G st1 ?_
 refine G (fun t k => XS.iconst X1.here hx rfl (hb hby d22_5) (XS.iadd X1.here hx rfl (hb hby d22_6) rfl (XS.imul X1.here hx rfl (hb hby d22_7) rfl (XS.iconst X1.here hx rfl (hb hby d22_8) k)))) ?_
 show Go _ _ _ (T1.setTop (mkF m 9 #[vr a1, vi 0, vi p3, us] [(.int 4), (.int 2)])) _
 refine G (fun t k => XS.imul X1.here hx rfl (hb hby d22_9) rfl (XS.aloadN X1.here hx rfl (hb hby d22_10) rfl rfl k)) ?_
 obtain ⟨T2, X2, e2, st2⟩ := getF X1 hx hZ hown (host := "") (Or.inl (wd109 hw)) Via.refl e1 F_a1_l (g := (mkF m 11 #[vr a1, vi 0, vi p3, us] [(.ref a1), (.int 8)])) rfl rfl (hb hby d22_11)
 refine G st2 ?_
 obtain ⟨cl3, Ar3, -, Sz3, Ng3, -, -⟩ := id V_sl
 refine G (fun t k => X2.arraylength hx (by rw [e2]; exact Ar3.1) (State.isArrayOf_alike hZ.alike Ar3.2.1) (g := (mkF m 14 #[vr a1, vi 0, vi p3, us] [(.ref w_sl), (.int 8)])) rfl rfl (hb hby d22_14) _ k) ?_
 rw [len_of Sz3 Ng3]
 refine G (fun t k => XS.icmpYes X2.here hx rfl (pc0 := 15) (pc' := 29) rfl (hb hby d22_15) rfl (flt (by decide : ¬ ((128 : Int32) < (8 : Int32)))).2.2.2 (by decide) (by decide) (XS.aloadN X2.here hx rfl (hb hby d22_29) rfl rfl (XS.iloadN X2.here hx rfl (hb hby d22_30) rfl k))) ?_
 show Go _ _ _ (T2.setTop (mkF m 31 #[vr a1, vi 0, vi p3, us] [(.int p3), (.ref a1)])) _
 obtain ⟨cq4, qq4, qq4'⟩ := E_a1.cell
 obtain ⟨_, _, ⟨T4, L4, k4, n4⟩, -, X4, ⟨Lc4, hQ4, l4, y4, z4⟩, st4⟩ := X2.privateBack hx (y := (⟨IC, "start", "(I)I"⟩ : MethodName)) hown (mvT hZ (wd135 hw)) (mvT hZ (wd136 hw)) (own_selp (mvT hZ (wd84 hw)) (Cond.privateMethod_at (mvP hZ (wd137 hw) (args := #[]))) (mvT hZ (wd136 hw)) (by decide)) (Cond.privateMethod_at (mvP hZ (wd137 hw) (args := #[]))) (mvT hZ (wd138 hw)) (by decide) (backOf (W := 0) (rm23 l Z a0 hw [] a1 p3 w_sl k_s h0 n0 Z0 F_a1_l V_sl) hZ (wd138 hw) (wd85 hw) (by decide) (by decide)) (g := (mkF m 31 #[vr a1, vi 0, vi p3, us] [(.int p3), (.ref a1)])) rfl (by rw [hml]; rfl) (Steps.refl _) (a := a1) (by rw [e2]; exact qq4) qq4' (argsL := [(.int p3)]) (rest := []) (lenOf pd0 rfl) rfl (by show 2 * 0 + _ ≤ _; exact Nat.le_of_eq rfl) (hb hby d22_31) (fun _ _ => ⟨rfl, e2, (by decide : 0 + 0 ≤ _), (by decide : 0 + 0 ≤ _)⟩)
 dsimp only [Pt.U, Pt.locs, Pt.cells, Pt.slots] at X4 l4 y4 z4 st4 hQ4
 subst l4 y4 z4
 refine Go.tr st4 ?_
 obtain ⟨rfl, N4q, e4⟩ := hQ4
 have N4 := Fr.app N0 N4q
 refine G (fun t k => XS.istoreN X4.here hx rfl (hb hby d22_34) rfl (l' := #[vr a1, vi 0, vi p3, vi (f23 p3)]) rfl (XS.aloadN X4.here hx rfl (hb hby d22_35) rfl rfl k)) ?_
 obtain ⟨T5, X5, e5, st5⟩ := getF X4 hx hZ hown (host := "") (Or.inl (wd109 hw)) Via.refl e4 F_a1_l (g := (mkF m 36 #[vr a1, vi 0, vi p3, vi (f23 p3)] [(.ref a1)])) rfl rfl (hb hby d22_36)
 refine G st5 ?_
 refine G (fun t k => XS.iloadN X5.here hx rfl (hb hby d22_39) rfl (XS.iconst X5.here hx rfl (hb hby d22_40) (XS.iadd X5.here hx rfl (hb hby d22_41) rfl k))) ?_
 show Go _ _ _ (T5.setTop (mkF m 42 #[vr a1, vi 0, vi p3, vi (f23 p3)] [(.int ((f23 p3) + (0 : Int32))), (.ref w_sl)])) _
 obtain ⟨cl7, Ar7, -, Sz7, Ng7, Hs7, -⟩ := id V_sl
 have hin7 : ¬ (((f23 p3) + (0 : Int32)) < 0 ∨ cl7.slots.size ≤ (((f23 p3) + (0 : Int32))).toNatClampNeg) := inb_of Sz7 (own_sl (f23 p3) 0 0 rfl (by decide) (own_st _))
 refine G (fun t k => X5.iaload hx (j := ((f23 p3) + (0 : Int32))) (v := (.int (0 : Int32))) (by rw [e5]; exact Ar7.1) (State.isArrayOf_alike hZ.alike Ar7.2.1) Ar7.2.2 hin7 (atH Hs7 hin7 rfl) (g := (mkF m 42 #[vr a1, vi 0, vi p3, vi (f23 p3)] [(.int ((f23 p3) + (0 : Int32))), (.ref w_sl)])) rfl rfl (hb hby d22_42) _ k) ?_
 show Go _ _ _ (T5.setTop (mkF m 43 #[vr a1, vi 0, vi p3, vi (f23 p3)] [(.int 0)])) _
 refine G (fun t k => XS.ifYes X5.here hx rfl (pc0 := 43) (pc' := 85) rfl (hb hby d22_43) rfl ((if0 _ _).trans (teq (by decide : (0 : Int32) = (0 : Int32))).1) (by decide) (by decide) (XS.iloadN X5.here hx rfl (hb hby d22_85) rfl k)) ?_
 obtain ⟨fs, hr, hrun, hended, hW, hsame⟩ := X5.leave (v := some (.int (f23 p3))) (fun h => by rw [Bd.returns] at h; cases h)
 refine Go.fin (retOut X5 hx Bd.returns rfl (Or.inl ⟨rfl, Or.inl rfl, _, rfl⟩) (hb hby d22_86) hr) hrun hended ⟨_, _, rfl, ?_, ⟨_, rfl⟩, hW, hsame.mono (by decide) (by decide)⟩
 show Q22 Z a1 p3 w_sl w_nx k_s k_n h0 n0 _ T5.heap _
 rw [e5]
 exact ⟨rfl, N4, rfl⟩
theorem d24_0 : decode cB24 0 = .ok (.aload_n 0, 1) := by decide +kernel
theorem d24_1 : decode cB24 1 = .ok (.iload_n 2, 1) := by decide +kernel
theorem d24_2 : decode cB24 2 = .ok (.invokevirtual 55, 3) := by decide +kernel
theorem wd145 {Z a0} (hw : HW a0 Z) : (Jvm.Cond.methodLink IC (55 : Nat) ⟨IC, "chain", "(I)V"⟩).before a0 Z = true := mw hw 145 rfl
theorem wd148 {Z a0} (hw : HW a0 Z) : (Jvm.Cond.code ⟨IC, "chain", "(I)V"⟩ cB25 (2 : Nat) (Option.none : Option Jvm.ClassFile.FieldType)).before a0 Z = true := mw hw 148 rfl
theorem pd1 : parseMethodDescriptor "(I)V" = some ⟨[.int], none⟩ := by decide +kernel
theorem wd146 {Z a0} (hw : HW a0 Z) : (Jvm.Cond.instanceMethod ⟨IC, "chain", "(I)V"⟩).before a0 Z = true := mw hw 146 rfl
theorem wd147 {Z a0} (hw : HW a0 Z) : (Jvm.Cond.privateMethod ⟨IC, "chain", "(I)V"⟩).before a0 Z = true := mw hw 147 rfl
theorem d24_5 : decode cB24 5 = .ok (.aload_n 0, 1) := by decide +kernel
theorem d24_6 : decode cB24 6 = .ok (.getfield 29, 3) := by decide +kernel
theorem d24_9 : decode cB24 9 = .ok (.iload_n 1, 1) := by decide +kernel
theorem d24_10 : decode cB24 10 = .ok (.iconst 0, 1) := by decide +kernel
theorem d24_11 : decode cB24 11 = .ok (.iadd, 1) := by decide +kernel
theorem d24_12 : decode cB24 12 = .ok (.iload_n 2, 1) := by decide +kernel
theorem d24_13 : decode cB24 13 = .ok (.iconst 1, 1) := by decide +kernel
theorem d24_14 : decode cB24 14 = .ok (.iadd, 1) := by decide +kernel
theorem d24_15 : decode cB24 15 = .ok (.iastore, 1) := by decide +kernel
theorem d24_16 : decode cB24 16 = .ok (.aload_n 0, 1) := by decide +kernel
theorem d24_17 : decode cB24 17 = .ok (.getfield 29, 3) := by decide +kernel
theorem d24_20 : decode cB24 20 = .ok (.iload_n 1, 1) := by decide +kernel
theorem d24_21 : decode cB24 21 = .ok (.iconst 1, 1) := by decide +kernel
theorem d24_22 : decode cB24 22 = .ok (.iadd, 1) := by decide +kernel
theorem d24_23 : decode cB24 23 = .ok (.iload_n 2, 1) := by decide +kernel
theorem d24_24 : decode cB24 24 = .ok (.iastore, 1) := by decide +kernel
theorem d24_25 : decode cB24 25 = .ok (.aload_n 0, 1) := by decide +kernel
theorem d24_26 : decode cB24 26 = .ok (.getfield 29, 3) := by decide +kernel
theorem d24_29 : decode cB24 29 = .ok (.iload_n 1, 1) := by decide +kernel
theorem d24_30 : decode cB24 30 = .ok (.iconst 2, 1) := by decide +kernel
theorem d24_31 : decode cB24 31 = .ok (.iadd, 1) := by decide +kernel
theorem d24_32 : decode cB24 32 = .ok (.iconst 1, 1) := by decide +kernel
theorem d24_33 : decode cB24 33 = .ok (.iastore, 1) := by decide +kernel
theorem d24_34 : decode cB24 34 = .ok (.aload_n 0, 1) := by decide +kernel
theorem d24_35 : decode cB24 35 = .ok (.getfield 29, 3) := by decide +kernel
theorem d24_38 : decode cB24 38 = .ok (.iload_n 1, 1) := by decide +kernel
theorem d24_39 : decode cB24 39 = .ok (.iconst 3, 1) := by decide +kernel
theorem d24_40 : decode cB24 40 = .ok (.iadd, 1) := by decide +kernel
theorem d24_41 : decode cB24 41 = .ok (.iload_n 3, 1) := by decide +kernel
theorem d24_42 : decode cB24 42 = .ok (.iastore, 1) := by decide +kernel
theorem d24_43 : decode cB24 43 = .ok (.aload_n 0, 1) := by decide +kernel
theorem d24_44 : decode cB24 44 = .ok (.dup, 1) := by decide +kernel
theorem d24_45 : decode cB24 45 = .ok (.getfield 86, 3) := by decide +kernel
theorem d24_48 : decode cB24 48 = .ok (.iconst 1, 1) := by decide +kernel
theorem d24_49 : decode cB24 49 = .ok (.iadd, 1) := by decide +kernel
theorem d24_50 : decode cB24 50 = .ok (.putfield 86, 3) := by decide +kernel
theorem wd134 {Z a0} (hw : HW a0 Z) : (Jvm.Cond.lays IC IC "keys" "I").before a0 Z = true := mw hw 134 rfl
theorem wd110 {Z a0} (hw : HW a0 Z) : (Jvm.Cond.lays IC IC "slots" "[I").before a0 Z = true := mw hw 110 rfl
theorem wd112 {Z a0} (hw : HW a0 Z) : (Jvm.Cond.lays IC IC "next" "[I").before a0 Z = true := mw hw 112 rfl
theorem d24_53 : decode cB24 53 = .ok (.return_, 1) := by decide +kernel
def Q24 (Z : State) (a1 : Addr) (p2 : Int32) (p4 : Int32) (w_sl : Addr) (w_nx : Addr) (k_s : ClassId) (k_n : ClassId) (h0 : Heap) (n0 : Nat) (v : Option Value) (h : Heap) (L : List Loc) : Prop := v = none ∧ Fr n0 L ∧ Keep h0 h [w_nx, w_sl, a1] ∧ Exa Z h a1 IC ∧ Fld Z h a1 IC "slots" "[I" (.ref w_sl) ∧ Fld Z h a1 IC "next" "[I" (.ref w_nx) ∧ Fld Z h a1 IC "keys" "I" (.int (1 : Int32)) ∧ Arh Z h w_sl k_s .int (128 : Int32) [((p2 + (3 : Int32)), (.int p4)), ((p2 + (2 : Int32)), (.int (1 : Int32))), ((p2 + (1 : Int32)), (.int (0 : Int32))), ((p2 + (0 : Int32)), (.int (1 : Int32)))] [] (.int (0 : Int32)) ∧ Arv Z h w_nx k_n .int (16 : Int32) [(.int (-1 : Int32))] (.int (0 : Int32))
theorem ef24 (m : MethodId) (x0 : Addr) (x1 : Int32) (x3 : Int32) : entryFrame m #[(.ref x0), (.int x1), (.int (0 : Int32)), (.int x3)] 4 = mkF m 0 #[.val (.ref x0), .val (.int x1), .val (.int (0 : Int32)), .val (.int x3)] [] := by first | (simp [entryFrame, mkF, argsToLocals, Value.category]; done) | rfl
theorem sn0 {Z a0} (hw : HW a0 Z) {b a : Addr} : b ≠ a ∨ RoadKit.slotOf Z IC "slots" "[I" ≠ RoadKit.slotOf Z IC "keys" "I" := Or.inr (slot_ne (Or.inl (wd110 hw)) (Or.inl (wd134 hw)) (by decide) (t := (.array .int)) (t' := .int) (by decide) (by decide))
theorem sn1 {Z a0} (hw : HW a0 Z) {b a : Addr} : b ≠ a ∨ RoadKit.slotOf Z IC "next" "[I" ≠ RoadKit.slotOf Z IC "keys" "I" := Or.inr (slot_ne (Or.inl (wd112 hw)) (Or.inl (wd134 hw)) (by decide) (t := (.array .int)) (t' := .int) (by decide) (by decide))
theorem rm24 (l : Launch) (Z : State) (a0 : Array Value) (hw : HW a0 Z) (ws : List Jvm.Cond) (a1 : Addr) (p2 : Int32) (p4 : Int32) (w_sl : Addr) (w_nx : Addr) (k_s : ClassId) (k_n : ClassId) (h0 : Heap) (n0 : Nat) (Z0 : n0 ≤ h0.size) (E_a1 : Exa Z h0 a1 IC) (F_a1_l : Fld Z h0 a1 IC "slots" "[I" (.ref w_sl)) (F_a1_next : Fld Z h0 a1 IC "next" "[I" (.ref w_nx)) (F_a1_keys : Fld Z h0 a1 IC "keys" "I" (.int (0 : Int32))) (V_sl : Arh Z h0 w_sl k_s .int (128 : Int32) [] [] (.int (0 : Int32))) (V_nx : Arv Z h0 w_nx k_n .int (16 : Int32) [] (.int (0 : Int32))) (ne_w_sl_a1 : w_sl ≠ a1) (ne_w_nx_a1 : w_nx ≠ a1) (ne_w_nx_w_sl : w_nx ≠ w_sl) (hsl : 0 ≤ p2.toInt ∧ p2.toInt ≤ 124) (g_w_nx : n0 ≤ w_nx) (g_w_sl : n0 ≤ w_sl) (g_a1 : n0 ≤ a1) :
  MetFree l (⟨IC, "take", "(III)V"⟩ : MethodName) (head1 (Jvm.Cond.code (⟨IC, "take", "(III)V"⟩ : MethodName) cB24 4 none :: ws) (Rm 1 0 0 13)) (Pr Z h0 #[(.ref a1), (.int p2), (.int (0 : Int32)), (.int p4)]) Tr (fun _ U o U' => ∃ v L, o = .returned v ∧ Q24 Z a1 p2 p4 w_sl w_nx k_s k_n h0 n0 v U'.heap L ∧ FrameEnd U o U' L (Rm 1 0 0 13).cells (Rm 1 0 0 13).slots) := by
 refine MetFree.of_bodySF (plainFor_of_name pn1) hisR ?_
 intro p e s m args below meth c s₁ Bd hml0 hP hK
 obtain ⟨rfl, hZ, hh⟩ := hP
 have hx := Bd.exec
 have hby := Bd.bytes
 have hml : c.maxLocals = 4 := hml0
 have hown : s.vm.findClass IC = some m.cls := findClass_of_methodNamed Bd.named
 have hnm := (name_of_methodNamed Bd.named Bd.method).1
 have X0 : Stand p l e (Rm 1 0 0 13) s m #[(.ref a1), (.int p2), (.int (0 : Int32)), (.int p4)] below meth c s₁ [] 0 0 := Stand.of_body Bd
 have e0 : s₁.heap = h0 := by rw [← hh, Bd.state]; rfl
 have N0 := Fr.nil n0
 have K0 : Keep h0 h0 [w_nx, w_sl, a1] := Keep.refl h0 _
 refine G (P := fun o U' => ∃ v L, o = .returned v ∧ Q24 Z a1 p2 p4 w_sl w_nx k_s k_n h0 n0 v U'.heap L ∧ FrameEnd s o U' L (Rm 1 0 0 13).cells (Rm 1 0 0 13).slots) (fun t k => castTop (ef24 m a1 p2 p4) k) ?_
 show Go _ _ _ (s₁.setTop (mkF m 0 #[vr a1, vi p2, vi 0, vi p4] [])) _
 refine G (fun t k => XS.aloadN X0.here hx rfl (hb hby d24_0) rfl rfl (XS.iloadN X0.here hx rfl (hb hby d24_1) rfl k)) ?_
 obtain ⟨cq1, qq1, qq1'⟩ := E_a1.cell
 obtain ⟨_, _, ⟨T1, L1, k1, n1⟩, -, X1, ⟨Lc1, hQ1, l1, y1, z1⟩, st1⟩ := X0.privateBack hx (y := (⟨IC, "chain", "(I)V"⟩ : MethodName)) hown (mvT hZ (wd145 hw)) (mvT hZ (wd146 hw)) (own_selp (mvT hZ (wd84 hw)) (Cond.privateMethod_at (mvP hZ (wd147 hw) (args := #[]))) (mvT hZ (wd146 hw)) (by decide)) (Cond.privateMethod_at (mvP hZ (wd147 hw) (args := #[]))) (mvT hZ (wd148 hw)) (by decide) (backOf (W := 0) (rm25 l Z a0 hw [] a1 w_sl w_nx k_s k_n h0 n0 Z0 E_a1 F_a1_l F_a1_next F_a1_keys V_sl V_nx ne_w_sl_a1 ne_w_nx_a1 ne_w_nx_w_sl g_w_nx) hZ (wd148 hw) (wd85 hw) (by decide) (by decide)) (g := (mkF m 2 #[vr a1, vi p2, vi 0, vi p4] [(.int 0), (.ref a1)])) rfl (by rw [hml]; rfl) (Steps.refl _) (a := a1) (by rw [e0]; exact qq1) qq1' (argsL := [(.int (0 : Int32))]) (rest := []) (lenOf pd1 rfl) rfl (by show 2 * 0 + _ ≤ _; exact Nat.le_of_eq rfl) (hb hby d24_2) (fun _ _ => ⟨rfl, e0, (by decide : 0 + 0 ≤ _), (by decide : 0 + 0 ≤ _)⟩)
 dsimp only [Pt.U, Pt.locs, Pt.cells, Pt.slots] at X1 l1 y1 z1 st1 hQ1
 subst l1 y1 z1
 refine Go.tr st1 ?_
 have V_nx_pre := V_nx
 obtain ⟨h1, e1⟩ : ∃ z, T1.heap = z := ⟨_, rfl⟩
 rw [e1] at hQ1
 obtain ⟨rfl, N1q, K1, Q1_0⟩ := hQ1
 replace E_a1 := E_a1.keep K1
 replace F_a1_l := F_a1_l.keep K1 (ninS (Ne.symm ne_w_nx_a1) nin0)
 replace F_a1_next := F_a1_next.keep K1 (ninS (Ne.symm ne_w_nx_a1) nin0)
 replace F_a1_keys := F_a1_keys.keep K1 (ninS (Ne.symm ne_w_nx_a1) nin0)
 replace V_sl := V_sl.keep K1 (ninS (Ne.symm ne_w_nx_w_sl) nin0)
 replace Z0 := Nat.le_trans Z0 K1.1
 replace K0 := K0.trans K1 (allS (Or.inl (by simp)) all0)
 have V_w_nx := Q1_0
 have N1 := Fr.app N0 N1q
 refine G (fun t k => XS.aloadN X1.here hx rfl (hb hby d24_5) rfl rfl k) ?_
 obtain ⟨T2, X2, e2, st2⟩ := getF X1 hx hZ hown (host := "") (Or.inl (wd109 hw)) Via.refl e1 F_a1_l (g := (mkF m 6 #[vr a1, vi p2, vi 0, vi p4] [(.ref a1)])) rfl rfl (hb hby d24_6)
 refine G st2 ?_
 refine G (fun t k => XS.iloadN X2.here hx rfl (hb hby d24_9) rfl (XS.iconst X2.here hx rfl (hb hby d24_10) k)) ?_
 show Go _ _ _ (T2.setTop (mkF m 11 #[vr a1, vi p2, vi 0, vi p4] [(.int 0), (.int p2), (.ref w_sl)])) _
 refine G (fun t k => XS.iadd X2.here hx rfl (hb hby d24_11) rfl (XS.iloadN X2.here hx rfl (hb hby d24_12) rfl (XS.iconst X2.here hx rfl (hb hby d24_13) (XS.iadd X2.here hx rfl (hb hby d24_14) rfl k)))) ?_
 obtain ⟨cl3, Ar3, qq3, Sz3, Ng3, Hs3, Gs3⟩ := id V_sl
 have hin3 : ¬ ((p2 + (0 : Int32)) < 0 ∨ cl3.slots.size ≤ ((p2 + (0 : Int32))).toNatClampNeg) := inb_of Sz3 (own_sl p2 0 0 rfl (by decide) hsl)
 obtain ⟨T4, h4, X4, e4, W4, st4⟩ := stI X2 hx hZ e2 Ar3 (j := (p2 + (0 : Int32))) hin3 (g := (mkF m 15 #[vr a1, vi p2, vi 0, vi p4] [(.int 1), (.int (p2 + (0 : Int32))), (.ref w_sl)])) rfl rfl (hb hby d24_15)
 refine G st4 ?_
 have N4 := Fr.snoc X4 N1 g_w_sl
 replace E_a1 := E_a1.wr W4
 replace F_a1_l := F_a1_l.other W4 (Or.inl (Ne.symm ne_w_sl_a1))
 replace F_a1_next := F_a1_next.other W4 (Or.inl (Ne.symm ne_w_sl_a1))
 replace F_a1_keys := F_a1_keys.other W4 (Or.inl (Ne.symm ne_w_sl_a1))
 replace V_w_nx := V_w_nx.other W4 ne_w_nx_w_sl
 replace Z0 := Nat.le_trans Z0 (Nat.le_of_eq W4.size.symm)
 replace K0 := K0.wr W4 (Or.inl (by simp))
 replace V_sl : Arh Z h4 w_sl k_s .int (128 : Int32) [((p2 + (0 : Int32)), (.int (1 : Int32)))] [] (.int (0 : Int32)) := Arh.push Ar3 qq3 Sz3 Ng3 Hs3 Gs3 rfl W4 hin3
 show Go _ _ _ (T4.setTop (mkF m 16 #[vr a1, vi p2, vi 0, vi p4] [])) _
 refine G (fun t k => XS.aloadN X4.here hx rfl (hb hby d24_16) rfl rfl k) ?_
 obtain ⟨T5, X5, e5, st5⟩ := getF X4 hx hZ hown (host := "") (Or.inl (wd109 hw)) Via.refl e4 F_a1_l (g := (mkF m 17 #[vr a1, vi p2, vi 0, vi p4] [(.ref a1)])) rfl rfl (hb hby d24_17)
 refine G st5 ?_
 refine G (fun t k => XS.iloadN X5.here hx rfl (hb hby d24_20) rfl (XS.iconst X5.here hx rfl (hb hby d24_21) (XS.iadd X5.here hx rfl (hb hby d24_22) rfl (XS.iloadN X5.here hx rfl (hb hby d24_23) rfl k)))) ?_
 obtain ⟨cl6, Ar6, qq6, Sz6, Ng6, Hs6, Gs6⟩ := id V_sl
 have hin6 : ¬ ((p2 + (1 : Int32)) < 0 ∨ cl6.slots.size ≤ ((p2 + (1 : Int32))).toNatClampNeg) := inb_of Sz6 (own_sl p2 1 1 rfl (by decide) hsl)
 obtain ⟨T7, h7, X7, e7, W7, st7⟩ := stI X5 hx hZ e5 Ar6 (j := (p2 + (1 : Int32))) hin6 (g := (mkF m 24 #[vr a1, vi p2, vi 0, vi p4] [(.int 0), (.int (p2 + (1 : Int32))), (.ref w_sl)])) rfl rfl (hb hby d24_24)
 refine G st7 ?_
 have N7 := Fr.snoc X7 N4 g_w_sl
 replace E_a1 := E_a1.wr W7
 replace F_a1_l := F_a1_l.other W7 (Or.inl (Ne.symm ne_w_sl_a1))
 replace F_a1_next := F_a1_next.other W7 (Or.inl (Ne.symm ne_w_sl_a1))
 replace F_a1_keys := F_a1_keys.other W7 (Or.inl (Ne.symm ne_w_sl_a1))
 replace V_w_nx := V_w_nx.other W7 ne_w_nx_w_sl
 replace Z0 := Nat.le_trans Z0 (Nat.le_of_eq W7.size.symm)
 replace K0 := K0.wr W7 (Or.inl (by simp))
 replace V_sl : Arh Z h7 w_sl k_s .int (128 : Int32) [((p2 + (1 : Int32)), (.int (0 : Int32))), ((p2 + (0 : Int32)), (.int (1 : Int32)))] [] (.int (0 : Int32)) := Arh.push Ar6 qq6 Sz6 Ng6 Hs6 Gs6 rfl W7 hin6
 show Go _ _ _ (T7.setTop (mkF m 25 #[vr a1, vi p2, vi 0, vi p4] [])) _
 refine G (fun t k => XS.aloadN X7.here hx rfl (hb hby d24_25) rfl rfl k) ?_
 obtain ⟨T8, X8, e8, st8⟩ := getF X7 hx hZ hown (host := "") (Or.inl (wd109 hw)) Via.refl e7 F_a1_l (g := (mkF m 26 #[vr a1, vi p2, vi 0, vi p4] [(.ref a1)])) rfl rfl (hb hby d24_26)
 refine G st8 ?_
 refine G (fun t k => XS.iloadN X8.here hx rfl (hb hby d24_29) rfl (XS.iconst X8.here hx rfl (hb hby d24_30) (XS.iadd X8.here hx rfl (hb hby d24_31) rfl (XS.iconst X8.here hx rfl (hb hby d24_32) k)))) ?_
 obtain ⟨cl9, Ar9, qq9, Sz9, Ng9, Hs9, Gs9⟩ := id V_sl
 have hin9 : ¬ ((p2 + (2 : Int32)) < 0 ∨ cl9.slots.size ≤ ((p2 + (2 : Int32))).toNatClampNeg) := inb_of Sz9 (own_sl p2 2 2 rfl (by decide) hsl)
 obtain ⟨T10, h10, X10, e10, W10, st10⟩ := stI X8 hx hZ e8 Ar9 (j := (p2 + (2 : Int32))) hin9 (g := (mkF m 33 #[vr a1, vi p2, vi 0, vi p4] [(.int 1), (.int (p2 + (2 : Int32))), (.ref w_sl)])) rfl rfl (hb hby d24_33)
 refine G st10 ?_
 have N10 := Fr.snoc X10 N7 g_w_sl
 obtain ⟨LL10, X10, N10⟩ : ∃ LL, Stand p l e (Rm 1 0 0 13) s m #[(.ref a1), (.int p2), (.int (0 : Int32)), (.int p4)] below meth c T10 LL 0 0 ∧ Fr n0 LL := ⟨_, X10, N10⟩
 replace E_a1 := E_a1.wr W10
 replace F_a1_l := F_a1_l.other W10 (Or.inl (Ne.symm ne_w_sl_a1))
 replace F_a1_next := F_a1_next.other W10 (Or.inl (Ne.symm ne_w_sl_a1))
 replace F_a1_keys := F_a1_keys.other W10 (Or.inl (Ne.symm ne_w_sl_a1))
 replace V_w_nx := V_w_nx.other W10 ne_w_nx_w_sl
 replace Z0 := Nat.le_trans Z0 (Nat.le_of_eq W10.size.symm)
 replace K0 := K0.wr W10 (Or.inl (by simp))
 replace V_sl : Arh Z h10 w_sl k_s .int (128 : Int32) [((p2 + (2 : Int32)), (.int (1 : Int32))), ((p2 + (1 : Int32)), (.int (0 : Int32))), ((p2 + (0 : Int32)), (.int (1 : Int32)))] [] (.int (0 : Int32)) := Arh.push Ar9 qq9 Sz9 Ng9 Hs9 Gs9 rfl W10 hin9
 show Go _ _ _ (T10.setTop (mkF m 34 #[vr a1, vi p2, vi 0, vi p4] [])) _
 refine G (fun t k => XS.aloadN X10.here hx rfl (hb hby d24_34) rfl rfl k) ?_
 obtain ⟨T11, X11, e11, st11⟩ := getF X10 hx hZ hown (host := "") (Or.inl (wd109 hw)) Via.refl e10 F_a1_l (g := (mkF m 35 #[vr a1, vi p2, vi 0, vi p4] [(.ref a1)])) rfl rfl (hb hby d24_35)
 refine G st11 ?_
 refine G (fun t k => XS.iloadN X11.here hx rfl (hb hby d24_38) rfl (XS.iconst X11.here hx rfl (hb hby d24_39) (XS.iadd X11.here hx rfl (hb hby d24_40) rfl (XS.iloadN X11.here hx rfl (hb hby d24_41) rfl k)))) ?_
 obtain ⟨cl12, Ar12, qq12, Sz12, Ng12, Hs12, Gs12⟩ := id V_sl
 have hin12 : ¬ ((p2 + (3 : Int32)) < 0 ∨ cl12.slots.size ≤ ((p2 + (3 : Int32))).toNatClampNeg) := inb_of Sz12 (own_sl p2 3 3 rfl (by decide) hsl)
 obtain ⟨T13, h13, X13, e13, W13, st13⟩ := stI X11 hx hZ e11 Ar12 (j := (p2 + (3 : Int32))) hin12 (g := (mkF m 42 #[vr a1, vi p2, vi 0, vi p4] [(.int p4), (.int (p2 + (3 : Int32))), (.ref w_sl)])) rfl rfl (hb hby d24_42)
 refine G st13 ?_
 have N13 := Fr.snoc X13 N10 g_w_sl
 replace E_a1 := E_a1.wr W13
 replace F_a1_l := F_a1_l.other W13 (Or.inl (Ne.symm ne_w_sl_a1))
 replace F_a1_next := F_a1_next.other W13 (Or.inl (Ne.symm ne_w_sl_a1))
 replace F_a1_keys := F_a1_keys.other W13 (Or.inl (Ne.symm ne_w_sl_a1))
 replace V_w_nx := V_w_nx.other W13 ne_w_nx_w_sl
 replace Z0 := Nat.le_trans Z0 (Nat.le_of_eq W13.size.symm)
 replace K0 := K0.wr W13 (Or.inl (by simp))
 replace V_sl : Arh Z h13 w_sl k_s .int (128 : Int32) [((p2 + (3 : Int32)), (.int p4)), ((p2 + (2 : Int32)), (.int (1 : Int32))), ((p2 + (1 : Int32)), (.int (0 : Int32))), ((p2 + (0 : Int32)), (.int (1 : Int32)))] [] (.int (0 : Int32)) := Arh.push Ar12 qq12 Sz12 Ng12 Hs12 Gs12 rfl W13 hin12
 show Go _ _ _ (T13.setTop (mkF m 43 #[vr a1, vi p2, vi 0, vi p4] [])) _
 refine G (fun t k => XS.aloadN X13.here hx rfl (hb hby d24_43) rfl rfl (XS.dup X13.here hx rfl (hb hby d24_44) rfl rfl k)) ?_
 obtain ⟨T14, X14, e14, st14⟩ := getF X13 hx hZ hown (host := "") (Or.inl (wd133 hw)) Via.refl e13 F_a1_keys (g := (mkF m 45 #[vr a1, vi p2, vi 0, vi p4] [(.ref a1), (.ref a1)])) rfl rfl (hb hby d24_45)
 refine G st14 ?_
 refine G (fun t k => XS.iconst X14.here hx rfl (hb hby d24_48) (XS.iadd X14.here hx rfl (hb hby d24_49) rfl k)) ?_
 obtain ⟨T15, h15, X15, e15, W15, st15⟩ := putF X14 hx hZ hown (host := "") (Or.inl (wd133 hw)) Via.refl e14 F_a1_keys E_a1 (Or.inl (wd134 hw)) (wd84 hw) (ty := .int) (by decide) rfl rfl (g := (mkF m 50 #[vr a1, vi p2, vi 0, vi p4] [(.int 1), (.ref a1)])) rfl rfl (hb hby d24_50)
 refine G st15 ?_
 have N15 := Fr.snoc X15 N13 g_a1
 replace E_a1 := E_a1.wr W15
 replace F_a1_l := F_a1_l.other W15 (sn0 hw)
 replace F_a1_next := F_a1_next.other W15 (sn1 hw)
 replace F_a1_keys := F_a1_keys.same W15
 replace V_sl := V_sl.other W15 ne_w_sl_a1
 replace V_w_nx := V_w_nx.other W15 ne_w_nx_a1
 replace Z0 := Nat.le_trans Z0 (Nat.le_of_eq W15.size.symm)
 replace K0 := K0.wr W15 (Or.inl (by simp))
 obtain ⟨fs, hr, hrun, hended, hW, hsame⟩ := X15.leave (v := none) (fun _ => rfl)
 refine Go.fin (X15.returnOut hx Bd.returns (hb hby d24_53) hr) hrun hended ⟨_, _, rfl, ?_, ⟨_, rfl⟩, hW, hsame.mono (by decide) (by decide)⟩
 show Q24 Z a1 p2 p4 w_sl w_nx k_s k_n h0 n0 _ T15.heap _
 rw [e15]
 exact ⟨rfl, N15, K0, E_a1, F_a1_l, F_a1_next, F_a1_keys, V_sl, V_w_nx⟩
theorem d1_0 : decode cB1 0 = .ok (.iload_n 0, 1) := by decide +kernel
theorem d1_1 : decode cB1 1 = .ok (.newarray .int, 2) := by decide +kernel
theorem wd5 {Z a0} (hw : HW a0 Z) : (Jvm.Cond.arrayClass Jvm.ClassFile.FieldType.int).before a0 Z = true := mw hw 5 rfl
theorem d1_3 : decode cB1 3 = .ok (.astore 4, 2) := by decide +kernel
theorem d1_5 : decode cB1 5 = .ok (.aload 4, 2) := by decide +kernel
theorem d1_7 : decode cB1 7 = .ok (.iconst 0, 1) := by decide +kernel
theorem d1_8 : decode cB1 8 = .ok (.iload_n 1, 1) := by decide +kernel
theorem d1_9 : decode cB1 9 = .ok (.iastore, 1) := by decide +kernel
theorem d1_10 : decode cB1 10 = .ok (.iload_n 0, 1) := by decide +kernel
theorem d1_11 : decode cB1 11 = .ok (.iconst 1, 1) := by decide +kernel
theorem d1_12 : decode cB1 12 = .ok (.if_icmp .le 8, 3) := by decide +kernel
theorem d1_20 : decode cB1 20 = .ok (.iload_n 0, 1) := by decide +kernel
theorem d1_21 : decode cB1 21 = .ok (.iconst 2, 1) := by decide +kernel
theorem d1_22 : decode cB1 22 = .ok (.if_icmp .le 8, 3) := by decide +kernel
theorem d1_30 : decode cB1 30 = .ok (.aload 4, 2) := by decide +kernel
theorem d1_32 : decode cB1 32 = .ok (.areturn, 1) := by decide +kernel
theorem pn5 : plainName "com/example/bitlattice/bitlattice/eval/RelationClearPinLaw" = true := by first | (simp [plainName, overriddenIn]; done) | decide +kernel
def Q1_1 (Z : State) (p2 : Int32) (p3 : Int32) (p4 : Int32) (h0 : Heap) (n0 : Nat) (v : Option Value) (h : Heap) (L : List Loc) : Prop := ∃ x1_1_0 : Addr, ∃ k_x1_1_0 : ClassId, v = some (.ref x1_1_0) ∧ Fr n0 L ∧ Keep h0 h [] ∧ n0 ≤ x1_1_0 ∧ h0.size ≤ x1_1_0 ∧ Arv Z h x1_1_0 k_x1_1_0 .int (1 : Int32) [(.int p2)] (.int (0 : Int32))
theorem ef1_1 (m : MethodId) (x1 : Int32) (x2 : Int32) (x3 : Int32) : entryFrame m #[(.int (1 : Int32)), (.int x1), (.int x2), (.int x3)] 5 = mkF m 0 #[.val (.int (1 : Int32)), .val (.int x1), .val (.int x2), .val (.int x3), .unset] [] := by first | (simp [entryFrame, mkF, argsToLocals, Value.category]; done) | rfl
theorem rm1_1 (l : Launch) (Z : State) (a0 : Array Value) (hw : HW a0 Z) (ws : List Jvm.Cond) (p2 : Int32) (p3 : Int32) (p4 : Int32) (h0 : Heap) (n0 : Nat) (Z0 : n0 ≤ h0.size) :
  MetFree l (⟨"com/example/bitlattice/bitlattice/eval/RelationClearPinLaw", "row", "(IIII)[I"⟩ : MethodName) (head1 (Jvm.Cond.code (⟨"com/example/bitlattice/bitlattice/eval/RelationClearPinLaw", "row", "(IIII)[I"⟩ : MethodName) cB1 5 (some (.array .int)) :: ws) (Rm 0 1 1 0)) (Pr Z h0 #[(.int (1 : Int32)), (.int p2), (.int p3), (.int p4)]) Tr (fun _ U o U' => ∃ v L, o = .returned v ∧ Q1_1 Z p2 p3 p4 h0 n0 v U'.heap L ∧ FrameEnd U o U' L (Rm 0 1 1 0).cells (Rm 0 1 1 0).slots) := by
 refine MetFree.of_bodySF (plainFor_of_name pn5) hisR ?_
 intro p e s m args below meth c s₁ Bd hml0 hP hK
 obtain ⟨rfl, hZ, hh⟩ := hP
 have hx := Bd.exec
 have hby := Bd.bytes
 have hml : c.maxLocals = 5 := hml0
 have hown : s.vm.findClass "com/example/bitlattice/bitlattice/eval/RelationClearPinLaw" = some m.cls := findClass_of_methodNamed Bd.named
 have hnm := (name_of_methodNamed Bd.named Bd.method).1
 have X0 : Stand p l e (Rm 0 1 1 0) s m #[(.int (1 : Int32)), (.int p2), (.int p3), (.int p4)] below meth c s₁ [] 0 0 := Stand.of_body Bd
 have e0 : s₁.heap = h0 := by rw [← hh, Bd.state]; rfl
 have N0 := Fr.nil n0
 have K0 : Keep h0 h0 [] := Keep.refl h0 _
 refine G (P := fun o U' => ∃ v L, o = .returned v ∧ Q1_1 Z p2 p3 p4 h0 n0 v U'.heap L ∧ FrameEnd s o U' L (Rm 0 1 1 0).cells (Rm 0 1 1 0).slots) (fun t k => castTop (ef1_1 m p2 p3 p4) k) ?_
 show Go _ _ _ (s₁.setTop (mkF m 0 #[vi 1, vi p2, vi p3, vi p4, us] [])) _
 refine G (fun t k => XS.iloadN X0.here hx rfl (hb hby d1_0) rfl k) ?_
 obtain ⟨T1, h1, k1, X1, e1, E1, A1, st1⟩ := newP X0 hx hZ (aty := .int) (wd5 hw) e0 (g := (mkF m 1 #[vi 1, vi p2, vi p3, vi p4, us] [(.int 1)])) rfl (hb hby d1_1) rfl (by decide) (cap := 1) (by decide) (by decide) (by decide) (by decide)
 obtain ⟨b1, g1⟩ : ∃ z, z = h0.size := ⟨_, rfl⟩
 rw [← g1] at A1 st1
 refine G st1 ?_
 have g_b1 : n0 ≤ b1 := Nat.le_trans Z0 (Nat.le_of_eq g1.symm)
 have sz_b1 : h0.size ≤ b1 := Nat.le_trans K0.1 (Nat.le_of_eq g1.symm)
 replace K0 := K0.ext E1
 replace Z0 := Nat.le_trans Z0 E1.1
 have V_b1 : Arv Z h1 b1 k1 .int (1 : Int32) [(.int (0 : Int32))] (.int (0 : Int32)) := (Arv.new A1 (by decide)).pad (pad_rep [] (.int (0 : Int32)) 1)
 refine G (fun t k => XS.astore X1.here hx rfl (hb hby d1_3) rfl rfl (l' := #[vi 1, vi p2, vi p3, vi p4, vr b1]) rfl (XS.aload X1.here hx rfl (hb hby d1_5) rfl rfl (XS.iconst X1.here hx rfl (hb hby d1_7) (XS.iloadN X1.here hx rfl (hb hby d1_8) rfl k)))) ?_
 obtain ⟨cl2, Ar2, qq2, Sz2, Ng2, Hs2, Gs2⟩ := id V_b1
 have hin2 : ¬ ((0 : Int32) < 0 ∨ cl2.slots.size ≤ ((0 : Int32)).toNatClampNeg) := inb_of Sz2 ⟨by decide, by decide⟩
 obtain ⟨T3, h3, X3, e3, W3, st3⟩ := stI X1 hx hZ e1 Ar2 (j := (0 : Int32)) hin2 (g := (mkF m 9 #[vi 1, vi p2, vi p3, vi p4, vr b1] [(.int p2), (.int 0), (.ref b1)])) rfl rfl (hb hby d1_9)
 refine G st3 ?_
 have N3 := Fr.snoc X3 N0 g_b1
 replace Z0 := Nat.le_trans Z0 (Nat.le_of_eq W3.size.symm)
 replace K0 := K0.wr W3 (Or.inr sz_b1)
 replace V_b1 : Arv Z h3 b1 k1 .int (1 : Int32) [(.int p2)] (.int (0 : Int32)) := Arv.set Ar2 qq2 Sz2 Ng2 Hs2 Gs2 rfl W3 0 rfl (Nat.le_of_ble_eq_true rfl)
 show Go _ _ _ (T3.setTop (mkF m 10 #[vi 1, vi p2, vi p3, vi p4, vr b1] [])) _
 refine G (fun t k => XS.iloadN X3.here hx rfl (hb hby d1_10) rfl (XS.iconst X3.here hx rfl (hb hby d1_11) (XS.icmpYes X3.here hx rfl (pc0 := 12) (pc' := 20) rfl (hb hby d1_12) rfl (flt (by decide : ¬ ((1 : Int32) < (1 : Int32)))).2.2.2 (by decide) (by decide) (XS.iloadN X3.here hx rfl (hb hby d1_20) rfl (XS.iconst X3.here hx rfl (hb hby d1_21) (XS.icmpYes X3.here hx rfl (pc0 := 22) (pc' := 30) rfl (hb hby d1_22) rfl (flt (by decide : ¬ ((2 : Int32) < (1 : Int32)))).2.2.2 (by decide) (by decide) k)))))) ?_
 refine G (fun t k => XS.aload X3.here hx rfl (hb hby d1_30) rfl rfl k) ?_
 show Go _ _ _ (T3.setTop (mkF m 32 #[vi 1, vi p2, vi p3, vi p4, vr b1] [(.ref b1)])) _
 obtain ⟨fs, hr, hrun, hended, hW, hsame⟩ := X3.leave (v := some (.ref b1)) (fun h => by rw [Bd.returns] at h; cases h)
 refine Go.fin (retOut X3 hx Bd.returns rfl (Or.inr (Or.inr (Or.inr (Or.inr ⟨rfl, rfl, rfl⟩)))) (hb hby d1_32) hr) hrun hended ⟨_, _, rfl, ?_, ⟨_, rfl⟩, hW, hsame.mono (by decide) (by decide)⟩
 show Q1_1 Z p2 p3 p4 h0 n0 _ T3.heap _
 rw [e3]
 exact ⟨b1, k1, rfl, N3, K0, g_b1, sz_b1, V_b1⟩
theorem d2_0 : decode cB2 0 = .ok (.aload_n 0, 1) := by decide +kernel
theorem d2_1 : decode cB2 1 = .ok (.invokespecial 3, 3) := by decide +kernel
theorem wd12 {Z a0} (hw : HW a0 Z) : (Jvm.Cond.methodLink RC (3 : Nat) ⟨"java/lang/Object", "<init>", "()V"⟩).before a0 Z = true := mw hw 12 rfl
theorem wd14 {Z a0} (hw : HW a0 Z) : (Jvm.Cond.code ⟨"java/lang/Object", "<init>", "()V"⟩ cB3 (1 : Nat) (Option.none : Option Jvm.ClassFile.FieldType)).before a0 Z = true := mw hw 14 rfl
theorem wd13 {Z a0} (hw : HW a0 Z) : (Jvm.Cond.instanceMethod ⟨"java/lang/Object", "<init>", "()V"⟩).before a0 Z = true := mw hw 13 rfl
theorem d2_4 : decode cB2 4 = .ok (.aload_n 0, 1) := by decide +kernel
theorem d2_5 : decode cB2 5 = .ok (.getstatic 9, 3) := by decide +kernel
theorem wd15 {Z a0} (hw : HW a0 Z) : (Jvm.Cond.fieldLink RC (9 : Nat) RC "NO_INDEXES" RJ).before a0 Z = true := mw hw 15 rfl
theorem d2_8 : decode cB2 8 = .ok (.putfield 15, 3) := by decide +kernel
theorem wd17 {Z a0} (hw : HW a0 Z) : (Jvm.Cond.fieldLink RC (15 : Nat) RC "indexes" RJ).before a0 Z = true := mw hw 17 rfl
theorem wd18 {Z a0} (hw : HW a0 Z) : (Jvm.Cond.lays RC RC "indexes" RJ).before a0 Z = true := mw hw 18 rfl
theorem wd7 {Z a0} (hw : HW a0 Z) : (Jvm.Cond.instantiable RC (6 : Nat)).before a0 Z = true := mw hw 7 rfl
theorem wd29 {Z a0} (hw : HW a0 Z) : (Jvm.Cond.lays RC RC "size" "I").before a0 Z = true := mw hw 29 rfl
theorem wd31 {Z a0} (hw : HW a0 Z) : (Jvm.Cond.lays RC RC "members" RI).before a0 Z = true := mw hw 31 rfl
theorem wd58 {Z a0} (hw : HW a0 Z) : (Jvm.Cond.lays RC RC "holdingAny" "I").before a0 Z = true := mw hw 58 rfl
theorem wd22 {Z a0} (hw : HW a0 Z) : (Jvm.Cond.lays RC RC "values" "[I").before a0 Z = true := mw hw 22 rfl
theorem wd20 {Z a0} (hw : HW a0 Z) : (Jvm.Cond.laysFinal RC RC "arity" "I").before a0 Z = true := mw hw 20 rfl
theorem d2_11 : decode cB2 11 = .ok (.aload_n 0, 1) := by decide +kernel
theorem d2_12 : decode cB2 12 = .ok (.iload_n 1, 1) := by decide +kernel
theorem d2_13 : decode cB2 13 = .ok (.putfield 18, 3) := by decide +kernel
theorem wd19 {Z a0} (hw : HW a0 Z) : (Jvm.Cond.fieldLink RC (18 : Nat) RC "arity" "I").before a0 Z = true := mw hw 19 rfl
theorem d2_16 : decode cB2 16 = .ok (.aload_n 0, 1) := by decide +kernel
theorem d2_17 : decode cB2 17 = .ok (.iload_n 1, 1) := by decide +kernel
theorem d2_18 : decode cB2 18 = .ok (.iconst 4, 1) := by decide +kernel
theorem d2_19 : decode cB2 19 = .ok (.imul, 1) := by decide +kernel
theorem d2_20 : decode cB2 20 = .ok (.newarray .int, 2) := by decide +kernel
theorem d2_22 : decode cB2 22 = .ok (.putfield 22, 3) := by decide +kernel
theorem wd21 {Z a0} (hw : HW a0 Z) : (Jvm.Cond.fieldLink RC (22 : Nat) RC "values" "[I").before a0 Z = true := mw hw 21 rfl
theorem d2_25 : decode cB2 25 = .ok (.return_, 1) := by decide +kernel
def Q2_1 (Z : State) (a1 : Addr) (w_NI : Addr) (uI : Value) (uV : Value) (uA : Value) (h0 : Heap) (n0 : Nat) (v : Option Value) (h : Heap) (L : List Loc) : Prop := ∃ x2_1_0 : Addr, ∃ k_x2_1_0 : ClassId, v = none ∧ Fr n0 L ∧ Keep h0 h [a1] ∧ n0 ≤ x2_1_0 ∧ h0.size ≤ x2_1_0 ∧ Exa Z h a1 RC ∧ Fld Z h a1 RC "size" "I" (.int (0 : Int32)) ∧ Fld Z h a1 RC "members" RI .null ∧ Fld Z h a1 RC "holdingAny" "I" (.int (0 : Int32)) ∧ Fld Z h a1 RC "indexes" RJ (.ref w_NI) ∧ Fld Z h a1 RC "values" "[I" (.ref x2_1_0) ∧ Fld Z h a1 RC "arity" "I" (.int (1 : Int32)) ∧ Arv Z h x2_1_0 k_x2_1_0 .int (4 : Int32) [] (.int (0 : Int32))
theorem ef2_1 (m : MethodId) (x0 : Addr) : entryFrame m #[(.ref x0), (.int (1 : Int32))] 2 = mkF m 0 #[.val (.ref x0), .val (.int (1 : Int32))] [] := by first | (simp [entryFrame, mkF, argsToLocals, Value.category]; done) | rfl
theorem sn2 {Z a0} (hw : HW a0 Z) {b a : Addr} : b ≠ a ∨ RoadKit.slotOf Z RC "size" "I" ≠ RoadKit.slotOf Z RC "indexes" RJ := Or.inr (slot_ne (Or.inl (wd29 hw)) (Or.inl (wd18 hw)) (by decide) (t := .int) (t' := (.array (.object IC))) (by decide) (by decide))
theorem sn3 {Z a0} (hw : HW a0 Z) {b a : Addr} : b ≠ a ∨ RoadKit.slotOf Z RC "members" RI ≠ RoadKit.slotOf Z RC "indexes" RJ := Or.inr (slot_ne (Or.inl (wd31 hw)) (Or.inl (wd18 hw)) (by decide) (t := (.object IC)) (t' := (.array (.object IC))) (by decide) (by decide))
theorem sn4 {Z a0} (hw : HW a0 Z) {b a : Addr} : b ≠ a ∨ RoadKit.slotOf Z RC "holdingAny" "I" ≠ RoadKit.slotOf Z RC "indexes" RJ := Or.inr (slot_ne (Or.inl (wd58 hw)) (Or.inl (wd18 hw)) (by decide) (t := .int) (t' := (.array (.object IC))) (by decide) (by decide))
theorem sn5 {Z a0} (hw : HW a0 Z) {b a : Addr} : b ≠ a ∨ RoadKit.slotOf Z RC "values" "[I" ≠ RoadKit.slotOf Z RC "indexes" RJ := Or.inr (slot_ne (Or.inl (wd22 hw)) (Or.inl (wd18 hw)) (by decide) (t := (.array .int)) (t' := (.array (.object IC))) (by decide) (by decide))
theorem sn6 {Z a0} (hw : HW a0 Z) {b a : Addr} : b ≠ a ∨ RoadKit.slotOf Z RC "arity" "I" ≠ RoadKit.slotOf Z RC "indexes" RJ := Or.inr (slot_ne (Or.inr (wd20 hw)) (Or.inl (wd18 hw)) (by decide) (t := .int) (t' := (.array (.object IC))) (by decide) (by decide))
theorem sn7 {Z a0} (hw : HW a0 Z) {b a : Addr} : b ≠ a ∨ RoadKit.slotOf Z RC "size" "I" ≠ RoadKit.slotOf Z RC "arity" "I" := Or.inr (slot_ne (Or.inl (wd29 hw)) (Or.inr (wd20 hw)) (by decide) (t := .int) (t' := .int) (by decide) (by decide))
theorem sn8 {Z a0} (hw : HW a0 Z) {b a : Addr} : b ≠ a ∨ RoadKit.slotOf Z RC "members" RI ≠ RoadKit.slotOf Z RC "arity" "I" := Or.inr (slot_ne (Or.inl (wd31 hw)) (Or.inr (wd20 hw)) (by decide) (t := (.object IC)) (t' := .int) (by decide) (by decide))
theorem sn9 {Z a0} (hw : HW a0 Z) {b a : Addr} : b ≠ a ∨ RoadKit.slotOf Z RC "holdingAny" "I" ≠ RoadKit.slotOf Z RC "arity" "I" := Or.inr (slot_ne (Or.inl (wd58 hw)) (Or.inr (wd20 hw)) (by decide) (t := .int) (t' := .int) (by decide) (by decide))
theorem sn10 {Z a0} (hw : HW a0 Z) {b a : Addr} : b ≠ a ∨ RoadKit.slotOf Z RC "indexes" RJ ≠ RoadKit.slotOf Z RC "arity" "I" := Or.inr (slot_ne (Or.inl (wd18 hw)) (Or.inr (wd20 hw)) (by decide) (t := (.array (.object IC))) (t' := .int) (by decide) (by decide))
theorem sn11 {Z a0} (hw : HW a0 Z) {b a : Addr} : b ≠ a ∨ RoadKit.slotOf Z RC "values" "[I" ≠ RoadKit.slotOf Z RC "arity" "I" := Or.inr (slot_ne (Or.inl (wd22 hw)) (Or.inr (wd20 hw)) (by decide) (t := (.array .int)) (t' := .int) (by decide) (by decide))
theorem sn12 {Z a0} (hw : HW a0 Z) {b a : Addr} : b ≠ a ∨ RoadKit.slotOf Z RC "size" "I" ≠ RoadKit.slotOf Z RC "values" "[I" := Or.inr (slot_ne (Or.inl (wd29 hw)) (Or.inl (wd22 hw)) (by decide) (t := .int) (t' := (.array .int)) (by decide) (by decide))
theorem sn13 {Z a0} (hw : HW a0 Z) {b a : Addr} : b ≠ a ∨ RoadKit.slotOf Z RC "members" RI ≠ RoadKit.slotOf Z RC "values" "[I" := Or.inr (slot_ne (Or.inl (wd31 hw)) (Or.inl (wd22 hw)) (by decide) (t := (.object IC)) (t' := (.array .int)) (by decide) (by decide))
theorem sn14 {Z a0} (hw : HW a0 Z) {b a : Addr} : b ≠ a ∨ RoadKit.slotOf Z RC "holdingAny" "I" ≠ RoadKit.slotOf Z RC "values" "[I" := Or.inr (slot_ne (Or.inl (wd58 hw)) (Or.inl (wd22 hw)) (by decide) (t := .int) (t' := (.array .int)) (by decide) (by decide))
theorem sn15 {Z a0} (hw : HW a0 Z) {b a : Addr} : b ≠ a ∨ RoadKit.slotOf Z RC "indexes" RJ ≠ RoadKit.slotOf Z RC "values" "[I" := Or.inr (slot_ne (Or.inl (wd18 hw)) (Or.inl (wd22 hw)) (by decide) (t := (.array (.object IC))) (t' := (.array .int)) (by decide) (by decide))
theorem sn16 {Z a0} (hw : HW a0 Z) {b a : Addr} : b ≠ a ∨ RoadKit.slotOf Z RC "arity" "I" ≠ RoadKit.slotOf Z RC "values" "[I" := Or.inr (slot_ne (Or.inr (wd20 hw)) (Or.inl (wd22 hw)) (by decide) (t := .int) (t' := (.array .int)) (by decide) (by decide))
theorem rm2_1 (l : Launch) (Z : State) (a0 : Array Value) (hw : HW a0 Z) (ws : List Jvm.Cond) (a1 : Addr) (w_NI : Addr) (uI : Value) (uV : Value) (uA : Value) (h0 : Heap) (n0 : Nat) (Z0 : n0 ≤ h0.size) (E_a1 : Exa Z h0 a1 RC) (S_NI : Sta Z h0 RC "NO_INDEXES" RJ (.ref w_NI)) (F_a1_s : Fld Z h0 a1 RC "size" "I" (.int (0 : Int32))) (F_a1_m : Fld Z h0 a1 RC "members" RI .null) (F_a1_h : Fld Z h0 a1 RC "holdingAny" "I" (.int (0 : Int32))) (F_a1_i : Fld Z h0 a1 RC "indexes" RJ uI) (F_a1_v : Fld Z h0 a1 RC "values" "[I" uV) (F_a1_a : Fld Z h0 a1 RC "arity" "I" uA) (g_a1 : n0 ≤ a1) :
  MetFree l (⟨RC, "<init>", "(I)V"⟩ : MethodName) (head1 (Jvm.Cond.code (⟨RC, "<init>", "(I)V"⟩ : MethodName) cB2 2 none :: ws) (Rm 1 1 4 12)) (Pr Z h0 #[(.ref a1), (.int (1 : Int32))]) Tr (fun _ U o U' => ∃ v L, o = .returned v ∧ Q2_1 Z a1 w_NI uI uV uA h0 n0 v U'.heap L ∧ FrameEnd U o U' L (Rm 1 1 4 12).cells (Rm 1 1 4 12).slots) := by
 refine MetFree.of_bodySF (plainFor_of_name pn0) hisR ?_
 intro p e s m args below meth c s₁ Bd hml0 hP hK
 obtain ⟨rfl, hZ, hh⟩ := hP
 have hx := Bd.exec
 have hby := Bd.bytes
 have hml : c.maxLocals = 2 := hml0
 have hown : s.vm.findClass RC = some m.cls := findClass_of_methodNamed Bd.named
 have hnm := (name_of_methodNamed Bd.named Bd.method).1
 have X0 : Stand p l e (Rm 1 1 4 12) s m #[(.ref a1), (.int (1 : Int32))] below meth c s₁ [] 0 0 := Stand.of_body Bd
 have e0 : s₁.heap = h0 := by rw [← hh, Bd.state]; rfl
 have N0 := Fr.nil n0
 have K0 : Keep h0 h0 [a1] := Keep.refl h0 _
 refine G (P := fun o U' => ∃ v L, o = .returned v ∧ Q2_1 Z a1 w_NI uI uV uA h0 n0 v U'.heap L ∧ FrameEnd s o U' L (Rm 1 1 4 12).cells (Rm 1 1 4 12).slots) (fun t k => castTop (ef2_1 m a1) k) ?_
 show Go _ _ _ (s₁.setTop (mkF m 0 #[vr a1, vi 1] [])) _
 refine G (fun t k => XS.aloadN X0.here hx rfl (hb hby d2_0) rfl rfl k) ?_
 obtain ⟨T1, X1, e1, st1⟩ := initO X0 hx hZ hown (wd12 hw) (wd13 hw) (wd14 hw) e0 (g := (mkF m 1 #[vr a1, vi 1] [(.ref a1)])) rfl (by rw [hml]; rfl) rfl (hb hby d2_1) (by decide) (W := 0) (by show 2 * 0 + _ ≤ _; exact Nat.le_of_eq rfl) (by decide)
 refine G st1 ?_
 refine G (fun t k => XS.aloadN X1.here hx rfl (hb hby d2_4) rfl rfl k) ?_
 obtain ⟨T2, X2, e2, st2⟩ := getS2 X1 hx hZ hown (host := "") (Or.inl (wd15 hw)) Via.refl e1 S_NI (g := (mkF m 5 #[vr a1, vi 1] [(.ref a1)])) rfl (hb hby d2_5)
 refine G st2 ?_
 obtain ⟨T3, h3, X3, e3, W3, st3⟩ := putF X2 hx hZ hown (host := "") (Or.inl (wd17 hw)) Via.refl e2 F_a1_i E_a1 (Or.inl (wd18 hw)) (wd7 hw) (ty := (.array (.object IC))) (by decide) rfl rfl (g := (mkF m 8 #[vr a1, vi 1] [(.ref w_NI), (.ref a1)])) rfl rfl (hb hby d2_8)
 refine G st3 ?_
 have N3 := Fr.snoc X3 N0 g_a1
 replace E_a1 := E_a1.wr W3
 replace S_NI := S_NI.wr W3
 replace F_a1_s := F_a1_s.other W3 (sn2 hw)
 replace F_a1_m := F_a1_m.other W3 (sn3 hw)
 replace F_a1_h := F_a1_h.other W3 (sn4 hw)
 replace F_a1_i := F_a1_i.same W3
 replace F_a1_v := F_a1_v.other W3 (sn5 hw)
 replace F_a1_a := F_a1_a.other W3 (sn6 hw)
 replace Z0 := Nat.le_trans Z0 (Nat.le_of_eq W3.size.symm)
 replace K0 := K0.wr W3 (Or.inl (by simp))
 refine G (fun t k => XS.aloadN X3.here hx rfl (hb hby d2_11) rfl rfl (XS.iloadN X3.here hx rfl (hb hby d2_12) rfl k)) ?_
 show Go _ _ _ (T3.setTop (mkF m 13 #[vr a1, vi 1] [(.int 1), (.ref a1)])) _
 obtain ⟨T4, h4, X4, e4, W4, st4⟩ := putF X3 hx hZ hown (host := "") (Or.inl (wd19 hw)) Via.refl e3 F_a1_a E_a1 (Or.inr ⟨(wd20 hw), rfl, hnm⟩) (wd7 hw) (ty := .int) (by decide) rfl rfl (g := (mkF m 13 #[vr a1, vi 1] [(.int 1), (.ref a1)])) rfl rfl (hb hby d2_13)
 refine G st4 ?_
 have N4 := Fr.snoc X4 N3 g_a1
 replace E_a1 := E_a1.wr W4
 replace S_NI := S_NI.wr W4
 replace F_a1_s := F_a1_s.other W4 (sn7 hw)
 replace F_a1_m := F_a1_m.other W4 (sn8 hw)
 replace F_a1_h := F_a1_h.other W4 (sn9 hw)
 replace F_a1_i := F_a1_i.other W4 (sn10 hw)
 replace F_a1_v := F_a1_v.other W4 (sn11 hw)
 replace F_a1_a := F_a1_a.same W4
 replace Z0 := Nat.le_trans Z0 (Nat.le_of_eq W4.size.symm)
 replace K0 := K0.wr W4 (Or.inl (by simp))
 refine G (fun t k => XS.aloadN X4.here hx rfl (hb hby d2_16) rfl rfl (XS.iloadN X4.here hx rfl (hb hby d2_17) rfl (XS.iconst X4.here hx rfl (hb hby d2_18) (XS.imul X4.here hx rfl (hb hby d2_19) rfl k)))) ?_
 obtain ⟨T5, h5, k5, X5, e5, E5, A5, st5⟩ := newP X4 hx hZ (aty := .int) (wd5 hw) e4 (g := (mkF m 20 #[vr a1, vi 1] [(.int 4), (.ref a1)])) rfl (hb hby d2_20) rfl (by decide) (cap := 4) (by decide) (by decide) (by decide) (by decide)
 obtain ⟨b5, g5⟩ : ∃ z, z = h4.size := ⟨_, rfl⟩
 rw [← g5] at A5 st5
 refine G st5 ?_
 have ne_a1_b5 : a1 ≠ b5 := Nat.ne_of_lt (Nat.lt_of_lt_of_le E_a1.lt (Nat.le_of_eq g5.symm))
 have g_b5 : n0 ≤ b5 := Nat.le_trans Z0 (Nat.le_of_eq g5.symm)
 have sz_b5 : h0.size ≤ b5 := Nat.le_trans K0.1 (Nat.le_of_eq g5.symm)
 replace E_a1 := E_a1.ext E5
 replace S_NI := S_NI.ext E5
 replace F_a1_s := F_a1_s.ext E5
 replace F_a1_m := F_a1_m.ext E5
 replace F_a1_h := F_a1_h.ext E5
 replace F_a1_i := F_a1_i.ext E5
 replace F_a1_v := F_a1_v.ext E5
 replace F_a1_a := F_a1_a.ext E5
 replace K0 := K0.ext E5
 replace Z0 := Nat.le_trans Z0 E5.1
 have V_b5 : Arv Z h5 b5 k5 .int (4 : Int32) [] (.int (0 : Int32)) := Arv.new A5 (by decide)
 obtain ⟨T6, h6, X6, e6, W6, st6⟩ := putF X5 hx hZ hown (host := "") (Or.inl (wd21 hw)) Via.refl e5 F_a1_v E_a1 (Or.inl (wd22 hw)) (wd7 hw) (ty := (.array .int)) (by decide) rfl rfl (g := (mkF m 22 #[vr a1, vi 1] [(.ref b5), (.ref a1)])) rfl rfl (hb hby d2_22)
 refine G st6 ?_
 have N6 := Fr.snoc X6 N4 g_a1
 replace E_a1 := E_a1.wr W6
 replace S_NI := S_NI.wr W6
 replace F_a1_s := F_a1_s.other W6 (sn12 hw)
 replace F_a1_m := F_a1_m.other W6 (sn13 hw)
 replace F_a1_h := F_a1_h.other W6 (sn14 hw)
 replace F_a1_i := F_a1_i.other W6 (sn15 hw)
 replace F_a1_v := F_a1_v.same W6
 replace F_a1_a := F_a1_a.other W6 (sn16 hw)
 replace V_b5 := V_b5.other W6 (Ne.symm ne_a1_b5)
 replace Z0 := Nat.le_trans Z0 (Nat.le_of_eq W6.size.symm)
 replace K0 := K0.wr W6 (Or.inl (by simp))
 show Go _ _ _ (T6.setTop (mkF m 25 #[vr a1, vi 1] [])) _
 obtain ⟨fs, hr, hrun, hended, hW, hsame⟩ := X6.leave (v := none) (fun _ => rfl)
 refine Go.fin (X6.returnOut hx Bd.returns (hb hby d2_25) hr) hrun hended ⟨_, _, rfl, ?_, ⟨_, rfl⟩, hW, hsame.mono (by decide) (by decide)⟩
 show Q2_1 Z a1 w_NI uI uV uA h0 n0 _ T6.heap _
 rw [e6]
 exact ⟨b5, k5, rfl, N6, K0, g_b5, sz_b5, E_a1, F_a1_s, F_a1_m, F_a1_h, F_a1_i, F_a1_v, F_a1_a, V_b5⟩
theorem d14_0 : decode cB14 0 = .ok (.iload_n 0, 1) := by decide +kernel
theorem d14_1 : decode cB14 1 = .ok (.newarray .int, 2) := by decide +kernel
theorem d14_3 : decode cB14 3 = .ok (.astore_n 1, 1) := by decide +kernel
theorem d14_4 : decode cB14 4 = .ok (.iconst 0, 1) := by decide +kernel
theorem d14_5 : decode cB14 5 = .ok (.istore_n 2, 1) := by decide +kernel
theorem d14_6 : decode cB14 6 = .ok (.iload_n 2, 1) := by decide +kernel
theorem d14_7 : decode cB14 7 = .ok (.iload_n 0, 1) := by decide +kernel
theorem d14_8 : decode cB14 8 = .ok (.if_icmp .ge 13, 3) := by decide +kernel
theorem d14_11 : decode cB14 11 = .ok (.aload_n 1, 1) := by decide +kernel
theorem d14_12 : decode cB14 12 = .ok (.iload_n 2, 1) := by decide +kernel
theorem d14_13 : decode cB14 13 = .ok (.iload_n 2, 1) := by decide +kernel
theorem d14_14 : decode cB14 14 = .ok (.iastore, 1) := by decide +kernel
theorem d14_15 : decode cB14 15 = .ok (.iinc 2 1, 3) := by decide +kernel
theorem d14_18 : decode cB14 18 = .ok (.goto (-12), 3) := by decide +kernel
theorem d14_21 : decode cB14 21 = .ok (.aload_n 1, 1) := by decide +kernel
theorem d14_22 : decode cB14 22 = .ok (.areturn, 1) := by decide +kernel
def Q14_1 (Z : State)  (h0 : Heap) (n0 : Nat) (v : Option Value) (h : Heap) (L : List Loc) : Prop := ∃ x14_1_0 : Addr, ∃ k_x14_1_0 : ClassId, v = some (.ref x14_1_0) ∧ Fr n0 L ∧ Keep h0 h [] ∧ n0 ≤ x14_1_0 ∧ h0.size ≤ x14_1_0 ∧ Arv Z h x14_1_0 k_x14_1_0 .int (1 : Int32) [(.int (0 : Int32))] (.int (0 : Int32))
theorem ef14_1 (m : MethodId)  : entryFrame m #[(.int (1 : Int32))] 3 = mkF m 0 #[.val (.int (1 : Int32)), .unset, .unset] [] := by first | (simp [entryFrame, mkF, argsToLocals, Value.category]; done) | rfl
theorem rm14_1 (l : Launch) (Z : State) (a0 : Array Value) (hw : HW a0 Z) (ws : List Jvm.Cond)  (h0 : Heap) (n0 : Nat) (Z0 : n0 ≤ h0.size) :
  MetFree l (⟨RC, "allPositions", "(I)[I"⟩ : MethodName) (head1 (Jvm.Cond.code (⟨RC, "allPositions", "(I)[I"⟩ : MethodName) cB14 3 (some (.array .int)) :: ws) (Rm 0 1 1 0)) (Pr Z h0 #[(.int (1 : Int32))]) Tr (fun _ U o U' => ∃ v L, o = .returned v ∧ Q14_1 Z h0 n0 v U'.heap L ∧ FrameEnd U o U' L (Rm 0 1 1 0).cells (Rm 0 1 1 0).slots) := by
 refine MetFree.of_bodySF (plainFor_of_name pn0) hisR ?_
 intro p e s m args below meth c s₁ Bd hml0 hP hK
 obtain ⟨rfl, hZ, hh⟩ := hP
 have hx := Bd.exec
 have hby := Bd.bytes
 have hml : c.maxLocals = 3 := hml0
 have hown : s.vm.findClass RC = some m.cls := findClass_of_methodNamed Bd.named
 have hnm := (name_of_methodNamed Bd.named Bd.method).1
 have X0 : Stand p l e (Rm 0 1 1 0) s m #[(.int (1 : Int32))] below meth c s₁ [] 0 0 := Stand.of_body Bd
 have e0 : s₁.heap = h0 := by rw [← hh, Bd.state]; rfl
 have N0 := Fr.nil n0
 have K0 : Keep h0 h0 [] := Keep.refl h0 _
 refine G (P := fun o U' => ∃ v L, o = .returned v ∧ Q14_1 Z h0 n0 v U'.heap L ∧ FrameEnd s o U' L (Rm 0 1 1 0).cells (Rm 0 1 1 0).slots) (fun t k => castTop (ef14_1 m ) k) ?_
 show Go _ _ _ (s₁.setTop (mkF m 0 #[vi 1, us, us] [])) _
 refine G (fun t k => XS.iloadN X0.here hx rfl (hb hby d14_0) rfl k) ?_
 obtain ⟨T1, h1, k1, X1, e1, E1, A1, st1⟩ := newP X0 hx hZ (aty := .int) (wd5 hw) e0 (g := (mkF m 1 #[vi 1, us, us] [(.int 1)])) rfl (hb hby d14_1) rfl (by decide) (cap := 1) (by decide) (by decide) (by decide) (by decide)
 obtain ⟨b1, g1⟩ : ∃ z, z = h0.size := ⟨_, rfl⟩
 rw [← g1] at A1 st1
 refine G st1 ?_
 have g_b1 : n0 ≤ b1 := Nat.le_trans Z0 (Nat.le_of_eq g1.symm)
 have sz_b1 : h0.size ≤ b1 := Nat.le_trans K0.1 (Nat.le_of_eq g1.symm)
 replace K0 := K0.ext E1
 replace Z0 := Nat.le_trans Z0 E1.1
 have V_b1 : Arv Z h1 b1 k1 .int (1 : Int32) [(.int (0 : Int32))] (.int (0 : Int32)) := (Arv.new A1 (by decide)).pad (pad_rep [] (.int (0 : Int32)) 1)
 refine G (fun t k => XS.astoreN X1.here hx rfl (hb hby d14_3) rfl rfl (l' := #[vi 1, vr b1, us]) rfl (XS.iconst X1.here hx rfl (hb hby d14_4) (XS.istoreN X1.here hx rfl (hb hby d14_5) rfl (l' := #[vi 1, vr b1, vi 0]) rfl (XS.iloadN X1.here hx rfl (hb hby d14_6) rfl (XS.iloadN X1.here hx rfl (hb hby d14_7) rfl k))))) ?_
 show Go _ _ _ (T1.setTop (mkF m 8 #[vi 1, vr b1, vi 0] [(.int 1), (.int 0)])) _
 refine G (fun t k => XS.icmpNo X1.here hx rfl (hb hby d14_8) rfl (tlt (by decide : (0 : Int32) < (1 : Int32))).2.1 (XS.aloadN X1.here hx rfl (hb hby d14_11) rfl rfl (XS.iloadN X1.here hx rfl (hb hby d14_12) rfl (XS.iloadN X1.here hx rfl (hb hby d14_13) rfl k)))) ?_
 obtain ⟨cl2, Ar2, qq2, Sz2, Ng2, Hs2, Gs2⟩ := id V_b1
 have hin2 : ¬ ((0 : Int32) < 0 ∨ cl2.slots.size ≤ ((0 : Int32)).toNatClampNeg) := inb_of Sz2 ⟨by decide, by decide⟩
 obtain ⟨T3, h3, X3, e3, W3, st3⟩ := stI X1 hx hZ e1 Ar2 (j := (0 : Int32)) hin2 (g := (mkF m 14 #[vi 1, vr b1, vi 0] [(.int 0), (.int 0), (.ref b1)])) rfl rfl (hb hby d14_14)
 refine G st3 ?_
 have N3 := Fr.snoc X3 N0 g_b1
 replace Z0 := Nat.le_trans Z0 (Nat.le_of_eq W3.size.symm)
 replace K0 := K0.wr W3 (Or.inr sz_b1)
 replace V_b1 : Arv Z h3 b1 k1 .int (1 : Int32) [(.int (0 : Int32))] (.int (0 : Int32)) := Arv.set Ar2 qq2 Sz2 Ng2 Hs2 Gs2 rfl W3 0 rfl (Nat.le_of_ble_eq_true rfl)
 refine G (fun t k => XS.iinc X3.here hx rfl (hb hby d14_15) rfl (l' := #[.val (.int (1 : Int32)), .val (.ref b1), .val (.int ((0 : Int32) + (1 : Int32)))]) rfl (XS.goto X3.here hx rfl (pc0 := 18) (pc' := 6) rfl (hb hby d14_18) (by decide) (by decide) k)) ?_
 show Go _ _ _ (T3.setTop (mkF m 6 #[vi 1, vr b1, vi 1] [])) _
 refine G (fun t k => XS.iloadN X3.here hx rfl (hb hby d14_6) rfl (XS.iloadN X3.here hx rfl (hb hby d14_7) rfl (XS.icmpYes X3.here hx rfl (pc0 := 8) (pc' := 21) rfl (hb hby d14_8) rfl (flt (by decide : ¬ ((1 : Int32) < (1 : Int32)))).2.1 (by decide) (by decide) (XS.aloadN X3.here hx rfl (hb hby d14_21) rfl rfl k)))) ?_
 obtain ⟨fs, hr, hrun, hended, hW, hsame⟩ := X3.leave (v := some (.ref b1)) (fun h => by rw [Bd.returns] at h; cases h)
 refine Go.fin (retOut X3 hx Bd.returns rfl (Or.inr (Or.inr (Or.inr (Or.inr ⟨rfl, rfl, rfl⟩)))) (hb hby d14_22) hr) hrun hended ⟨_, _, rfl, ?_, ⟨_, rfl⟩, hW, hsame.mono (by decide) (by decide)⟩
 show Q14_1 Z h0 n0 _ T3.heap _
 rw [e3]
 exact ⟨b1, k1, rfl, N3, K0, g_b1, sz_b1, V_b1⟩
theorem d12_0 : decode cB12 0 = .ok (.iload_n 1, 1) := by decide +kernel
theorem d12_1 : decode cB12 1 = .ok (.aload_n 0, 1) := by decide +kernel
theorem d12_2 : decode cB12 2 = .ok (.arraylength, 1) := by decide +kernel
theorem d12_3 : decode cB12 3 = .ok (.if_icmp .ne 11, 3) := by decide +kernel
theorem d12_14 : decode cB12 14 = .ok (.iload_n 1, 1) := by decide +kernel
theorem d12_15 : decode cB12 15 = .ok (.newarray .int, 2) := by decide +kernel
theorem d12_17 : decode cB12 17 = .ok (.astore_n 2, 1) := by decide +kernel
theorem d12_18 : decode cB12 18 = .ok (.aload_n 0, 1) := by decide +kernel
theorem d12_19 : decode cB12 19 = .ok (.iconst 0, 1) := by decide +kernel
theorem d12_20 : decode cB12 20 = .ok (.aload_n 2, 1) := by decide +kernel
theorem d12_21 : decode cB12 21 = .ok (.iconst 0, 1) := by decide +kernel
theorem d12_22 : decode cB12 22 = .ok (.aload_n 0, 1) := by decide +kernel
theorem d12_23 : decode cB12 23 = .ok (.arraylength, 1) := by decide +kernel
theorem d12_24 : decode cB12 24 = .ok (.iload_n 1, 1) := by decide +kernel
theorem d12_25 : decode cB12 25 = .ok (.invokestatic 304, 3) := by decide +kernel
theorem wd78 {Z a0} (hw : HW a0 Z) : (Jvm.Cond.methodLink "java/util/Arrays" (304 : Nat) ⟨"java/lang/Math", "min", "(II)I"⟩).before a0 Z = true := mw hw 78 rfl
theorem wd81 {Z a0} (hw : HW a0 Z) : (Jvm.Cond.code ⟨"java/lang/Math", "min", "(II)I"⟩ cB13 (2 : Nat) (Option.some Jvm.ClassFile.FieldType.int)).before a0 Z = true := mw hw 81 rfl
theorem wd80 {Z a0} (hw : HW a0 Z) : (Jvm.Cond.initialized "java/lang/Math").before a0 Z = true := mw hw 80 rfl
theorem pd2 : parseMethodDescriptor "(II)I" = some ⟨[.int, .int], some .int⟩ := by decide +kernel
theorem wd79 {Z a0} (hw : HW a0 Z) : (Jvm.Cond.static ⟨"java/lang/Math", "min", "(II)I"⟩).before a0 Z = true := mw hw 79 rfl
theorem d12_28 : decode cB12 28 = .ok (.invokestatic 150, 3) := by decide +kernel
theorem wd82 {Z a0} (hw : HW a0 Z) : (Jvm.Cond.methodLink "java/util/Arrays" (150 : Nat) ⟨"java/lang/System", "arraycopy", "(Ljava/lang/Object;ILjava/lang/Object;II)V"⟩).before a0 Z = true := mw hw 82 rfl
theorem wd45 {Z a0} (hw : HW a0 Z) : (Jvm.Cond.native ⟨"java/lang/System", "arraycopy", "(Ljava/lang/Object;ILjava/lang/Object;II)V"⟩).before a0 Z = true := mw hw 45 rfl
theorem wd43 {Z a0} (hw : HW a0 Z) : (Jvm.Cond.static ⟨"java/lang/System", "arraycopy", "(Ljava/lang/Object;ILjava/lang/Object;II)V"⟩).before a0 Z = true := mw hw 43 rfl
theorem wd44 {Z a0} (hw : HW a0 Z) : (Jvm.Cond.initialized "java/lang/System").before a0 Z = true := mw hw 44 rfl
theorem d12_31 : decode cB12 31 = .ok (.aload_n 2, 1) := by decide +kernel
theorem d12_32 : decode cB12 32 = .ok (.areturn, 1) := by decide +kernel
theorem pn6 : plainName "java/util/Arrays" = true := by first | (simp [plainName, overriddenIn]; done) | decide +kernel
def Q12_1 (Z : State) (a1 : Addr) (p2 : Int32) (k_v : ClassId) (h0 : Heap) (n0 : Nat) (v : Option Value) (h : Heap) (L : List Loc) : Prop := ∃ x12_1_0 : Addr, ∃ k_x12_1_0 : ClassId, v = some (.ref x12_1_0) ∧ Fr n0 L ∧ Keep h0 h [] ∧ n0 ≤ x12_1_0 ∧ h0.size ≤ x12_1_0 ∧ Arv Z h x12_1_0 k_x12_1_0 .int p2 [(.int (0 : Int32)), (.int (0 : Int32)), (.int (0 : Int32)), (.int (0 : Int32))] (.int (0 : Int32))
theorem ef12_1 (m : MethodId) (x0 : Addr) (x1 : Int32) : entryFrame m #[(.ref x0), (.int x1)] 3 = mkF m 0 #[.val (.ref x0), .val (.int x1), .unset] [] := by first | (simp [entryFrame, mkF, argsToLocals, Value.category]; done) | rfl
theorem rm12_1 (l : Launch) (Z : State) (a0 : Array Value) (hw : HW a0 Z) (ws : List Jvm.Cond) (a1 : Addr) (p2 : Int32) (k_v : ClassId) (h0 : Heap) (n0 : Nat) (Z0 : n0 ≤ h0.size) (V_a1 : Arv Z h0 a1 k_v .int (4 : Int32) [] (.int (0 : Int32))) (h4 : (4 : Int32) < p2) (h45 : p2.toInt ≤ 45) :
  MetFree l (⟨"java/util/Arrays", "copyOf", "([II)[I"⟩ : MethodName) (head1 (Jvm.Cond.code (⟨"java/util/Arrays", "copyOf", "([II)[I"⟩ : MethodName) cB12 3 (some (.array .int)) :: ws) (Rm 1 1 45 18)) (Pr Z h0 #[(.ref a1), (.int p2)]) Tr (fun _ U o U' => ∃ v L, o = .returned v ∧ Q12_1 Z a1 p2 k_v h0 n0 v U'.heap L ∧ FrameEnd U o U' L (Rm 1 1 45 18).cells (Rm 1 1 45 18).slots) := by
 refine MetFree.of_bodySF (plainFor_of_name pn6) hisR ?_
 intro p e s m args below meth c s₁ Bd hml0 hP hK
 obtain ⟨rfl, hZ, hh⟩ := hP
 have hx := Bd.exec
 have hby := Bd.bytes
 have hml : c.maxLocals = 3 := hml0
 have hown : s.vm.findClass "java/util/Arrays" = some m.cls := findClass_of_methodNamed Bd.named
 have hnm := (name_of_methodNamed Bd.named Bd.method).1
 have X0 : Stand p l e (Rm 1 1 45 18) s m #[(.ref a1), (.int p2)] below meth c s₁ [] 0 0 := Stand.of_body Bd
 have e0 : s₁.heap = h0 := by rw [← hh, Bd.state]; rfl
 have N0 := Fr.nil n0
 have K0 : Keep h0 h0 [] := Keep.refl h0 _
 refine G (P := fun o U' => ∃ v L, o = .returned v ∧ Q12_1 Z a1 p2 k_v h0 n0 v U'.heap L ∧ FrameEnd s o U' L (Rm 1 1 45 18).cells (Rm 1 1 45 18).slots) (fun t k => castTop (ef12_1 m a1 p2) k) ?_
 show Go _ _ _ (s₁.setTop (mkF m 0 #[vr a1, vi p2, us] [])) _
 refine G (fun t k => XS.iloadN X0.here hx rfl (hb hby d12_0) rfl (XS.aloadN X0.here hx rfl (hb hby d12_1) rfl rfl k)) ?_
 obtain ⟨cl1, Ar1, -, Sz1, Ng1, -, -⟩ := id V_a1
 refine G (fun t k => X0.arraylength hx (by rw [e0]; exact Ar1.1) (State.isArrayOf_alike hZ.alike Ar1.2.1) (g := (mkF m 2 #[vr a1, vi p2, us] [(.ref a1), (.int p2)])) rfl rfl (hb hby d12_2) _ k) ?_
 rw [len_of Sz1 Ng1]
 have hf2 : ¬ (p2 = (4 : Int32)) := fun z => by rw [z] at h4; exact absurd h4 (by decide)
 refine G (fun t k => XS.icmpYes X0.here hx rfl (pc0 := 3) (pc' := 14) rfl (hb hby d12_3) rfl (feq hf2).2 (by decide) (by decide) (XS.iloadN X0.here hx rfl (hb hby d12_14) rfl k)) ?_
 obtain ⟨T3, h3, k3, X3, e3, E3, A3, st3⟩ := newP X0 hx hZ (aty := .int) (wd5 hw) e0 (g := (mkF m 15 #[vr a1, vi p2, us] [(.int p2)])) rfl (hb hby d12_15) rfl (own_nl 0 (4 : Int32) _ (by decide) (own_ge h4)) (cap := 45) (by simp only [Int32.toNatClampNeg]; omega) (by decide) (by decide) (by decide)
 obtain ⟨b3, g3⟩ : ∃ z, z = h0.size := ⟨_, rfl⟩
 rw [← g3] at A3 st3
 refine G st3 ?_
 have ne_a1_b3 : a1 ≠ b3 := Nat.ne_of_lt (Nat.lt_of_lt_of_le V_a1.lt (Nat.le_of_eq g3.symm))
 have g_b3 : n0 ≤ b3 := Nat.le_trans Z0 (Nat.le_of_eq g3.symm)
 have sz_b3 : h0.size ≤ b3 := Nat.le_trans K0.1 (Nat.le_of_eq g3.symm)
 replace V_a1 := V_a1.ext E3
 replace K0 := K0.ext E3
 replace Z0 := Nat.le_trans Z0 E3.1
 have V_b3 : Arv Z h3 b3 k3 .int p2 [] (.int (0 : Int32)) := Arv.new A3 (own_nl 0 (4 : Int32) _ (by decide) (own_ge h4))
 refine G (fun t k => XS.astoreN X3.here hx rfl (hb hby d12_17) rfl rfl (l' := #[vr a1, vi p2, vr b3]) rfl k) ?_
 show Go _ _ _ (T3.setTop (mkF m 18 #[vr a1, vi p2, vr b3] [])) _
 refine G (fun t k => XS.aloadN X3.here hx rfl (hb hby d12_18) rfl rfl (XS.iconst X3.here hx rfl (hb hby d12_19) (XS.aloadN X3.here hx rfl (hb hby d12_20) rfl rfl (XS.iconst X3.here hx rfl (hb hby d12_21) (XS.aloadN X3.here hx rfl (hb hby d12_22) rfl rfl k))))) ?_
 obtain ⟨cl4, Ar4, -, Sz4, Ng4, -, -⟩ := id V_a1
 refine G (fun t k => X3.arraylength hx (by rw [e3]; exact Ar4.1) (State.isArrayOf_alike hZ.alike Ar4.2.1) (g := (mkF m 23 #[vr a1, vi p2, vr b3] [(.ref a1), (.int 0), (.ref b3), (.int 0), (.ref a1)])) rfl rfl (hb hby d12_23) _ k) ?_
 rw [len_of Sz4 Ng4]
 refine G (fun t k => XS.iloadN X3.here hx rfl (hb hby d12_24) rfl k) ?_
 show Go _ _ _ (T3.setTop (mkF m 25 #[vr a1, vi p2, vr b3] [(.int p2), (.int 4), (.int 0), (.ref b3), (.int 0), (.ref a1)])) _
 obtain ⟨_, _, ⟨T5, L5, k5, n5⟩, -, X5, ⟨Lc5, hQ5, l5, y5, z5⟩, st5⟩ := Jvm.LawKit.callS X3 hx (y := (⟨"java/lang/Math", "min", "(II)I"⟩ : MethodName)) hown (mvT hZ (wd78 hw)) (mvT hZ (wd79 hw)) (mvT hZ (wd80 hw)) (mvT hZ (wd81 hw)) (by decide) (backOf (W := 4) (rm13 l Z a0 hw [] (4 : Int32) p2 h3 n0 Z0) hZ (wd81 hw) (wd80 hw) (by decide) (by decide)) (g := (mkF m 25 #[vr a1, vi p2, vr b3] [(.int p2), (.int 4), (.int 0), (.ref b3), (.int 0), (.ref a1)])) rfl (by rw [hml]; rfl) (argsL := [(.int (4 : Int32)), (.int p2)]) (rest := [(.int (0 : Int32)), (.ref b3), (.int (0 : Int32)), (.ref a1)]) (lenOf pd2 rfl) rfl (by show 2 * 0 + _ ≤ _; exact Nat.le_of_eq rfl) (hb hby d12_25) (fun _ _ => ⟨rfl, e3, (by decide : 1 + 0 ≤ _), (by decide : 45 + 0 ≤ _)⟩)
 dsimp only [Pt.U, Pt.locs, Pt.cells, Pt.slots] at X5 l5 y5 z5 st5 hQ5
 subst l5 y5 z5
 refine G st5 ?_
 obtain ⟨rfl, N5q, e5⟩ := hQ5
 have N5 := Fr.app N0 N5q
 show Go _ _ _ (T5.setTop (mkF m 28 #[vr a1, vi p2, vr b3] [(.int (f13 (4 : Int32) p2)), (.int 0), (.ref b3), (.int 0), (.ref a1)])) _
 have hf6 : ¬ (p2 < (4 : Int32)) := own_ge h4
 rw [show (f13 (4 : Int32) p2) = (4 : Int32) from by unfold f13; simp only [if_neg hf6, if_true, if_false]]
 show Go _ _ _ (T5.setTop (mkF m 28 #[vr a1, vi p2, vr b3] [(.int 4), (.int 0), (.ref b3), (.int 0), (.ref a1)])) _
 replace V_a1 : Arv Z h3 a1 k_v .int (4 : Int32) [(.int (0 : Int32)), (.int (0 : Int32)), (.int (0 : Int32)), (.int (0 : Int32))] (.int (0 : Int32)) := V_a1.pad (pad_rep [] (.int (0 : Int32)) 4)
 replace V_b3 : Arv Z h3 b3 k3 .int p2 [(.int (0 : Int32)), (.int (0 : Int32)), (.int (0 : Int32)), (.int (0 : Int32))] (.int (0 : Int32)) := V_b3.pad (pad_rep [] (.int (0 : Int32)) 4)
 have V_b3_pre := V_b3
 obtain ⟨T7, h7, L7, X7, e7, N7, K7, B7, st7⟩ := cpA X5 hx hZ hown (wd82 hw) (wd45 hw) (wd43 hw) (wd44 hw) e5 V_a1 V_b3 (us := [(.int (0 : Int32)), (.int (0 : Int32)), (.int (0 : Int32)), (.int (0 : Int32))]) (Or.inl ⟨rfl, rfl⟩) (sp := (0 : Int32)) (dp := (0 : Int32)) (nn := (4 : Int32)) (by decide) (by decide) (by decide) (by decide) (own_cpl 0 4 (4 : Int32) _ (by decide) (by decide) (own_ge h4)) rfl (Nat.le_of_ble_eq_true rfl) N5 g_b3 (g := (mkF m 28 #[vr a1, vi p2, vr b3] [(.int 4), (.int 0), (.ref b3), (.int 0), (.ref a1)])) rfl (by rw [hml]; rfl) rfl (hb hby d12_28) (by decide) (W := 0) (by show 2 * 0 + _ ≤ _; exact Nat.le_of_eq rfl) (by decide)
 refine G st7 ?_
 replace V_a1 := V_a1.keep K7 (ninS ne_a1_b3 nin0)
 replace Z0 := Nat.le_trans Z0 K7.1
 replace K0 := K0.trans K7 (allS (Or.inr sz_b3) all0)
 have V_b3 : Arv Z h7 b3 k3 .int p2 [(.int (0 : Int32)), (.int (0 : Int32)), (.int (0 : Int32)), (.int (0 : Int32))] (.int (0 : Int32)) := B7
 refine G (fun t k => XS.aloadN X7.here hx rfl (hb hby d12_31) rfl rfl k) ?_
 obtain ⟨fs, hr, hrun, hended, hW, hsame⟩ := X7.leave (v := some (.ref b3)) (fun h => by rw [Bd.returns] at h; cases h)
 refine Go.fin (retOut X7 hx Bd.returns rfl (Or.inr (Or.inr (Or.inr (Or.inr ⟨rfl, rfl, rfl⟩)))) (hb hby d12_32) hr) hrun hended ⟨_, _, rfl, ?_, ⟨_, rfl⟩, hW, hsame.mono (by decide) (by decide)⟩
 show Q12_1 Z a1 p2 k_v h0 n0 _ T7.heap _
 rw [e7]
 exact ⟨b3, k3, rfl, N7, K0, g_b3, sz_b3, V_b3⟩
theorem d15_0 : decode cB15 0 = .ok (.aload_n 0, 1) := by decide +kernel
theorem d15_1 : decode cB15 1 = .ok (.aload_n 1, 1) := by decide +kernel
theorem d15_2 : decode cB15 2 = .ok (.putfield 1, 3) := by decide +kernel
theorem wd92 {Z a0} (hw : HW a0 Z) : (Jvm.Cond.fieldLink IC (1 : Nat) IC "this$0" RL).before a0 Z = true := mw hw 92 rfl
theorem wd93 {Z a0} (hw : HW a0 Z) : (Jvm.Cond.laysFinal IC IC "this$0" RL).before a0 Z = true := mw hw 93 rfl
theorem wd96 {Z a0} (hw : HW a0 Z) : (Jvm.Cond.laysFinal IC IC "positions" "[I").before a0 Z = true := mw hw 96 rfl
theorem d15_5 : decode cB15 5 = .ok (.aload_n 0, 1) := by decide +kernel
theorem d15_6 : decode cB15 6 = .ok (.invokespecial 7, 3) := by decide +kernel
theorem wd94 {Z a0} (hw : HW a0 Z) : (Jvm.Cond.methodLink IC (7 : Nat) ⟨"java/lang/Object", "<init>", "()V"⟩).before a0 Z = true := mw hw 94 rfl
theorem d15_9 : decode cB15 9 = .ok (.aload_n 0, 1) := by decide +kernel
theorem d15_10 : decode cB15 10 = .ok (.aload_n 2, 1) := by decide +kernel
theorem d15_11 : decode cB15 11 = .ok (.putfield 13, 3) := by decide +kernel
theorem wd95 {Z a0} (hw : HW a0 Z) : (Jvm.Cond.fieldLink IC (13 : Nat) IC "positions" "[I").before a0 Z = true := mw hw 95 rfl
theorem d15_14 : decode cB15 14 = .ok (.aload_n 0, 1) := by decide +kernel
theorem d15_15 : decode cB15 15 = .ok (.iload_n 3, 1) := by decide +kernel
theorem d15_16 : decode cB15 16 = .ok (.iconst 4, 1) := by decide +kernel
theorem d15_17 : decode cB15 17 = .ok (.invokestatic 17, 3) := by decide +kernel
theorem wd97 {Z a0} (hw : HW a0 Z) : (Jvm.Cond.methodLink IC (17 : Nat) ⟨"java/lang/Math", "max", "(II)I"⟩).before a0 Z = true := mw hw 97 rfl
theorem wd99 {Z a0} (hw : HW a0 Z) : (Jvm.Cond.code ⟨"java/lang/Math", "max", "(II)I"⟩ cB16 (2 : Nat) (Option.some Jvm.ClassFile.FieldType.int)).before a0 Z = true := mw hw 99 rfl
theorem wd98 {Z a0} (hw : HW a0 Z) : (Jvm.Cond.static ⟨"java/lang/Math", "max", "(II)I"⟩).before a0 Z = true := mw hw 98 rfl
theorem d15_20 : decode cB15 20 = .ok (.invokestatic 23, 3) := by decide +kernel
theorem wd100 {Z a0} (hw : HW a0 Z) : (Jvm.Cond.methodLink IC (23 : Nat) ⟨"java/lang/Integer", "highestOneBit", "(I)I"⟩).before a0 Z = true := mw hw 100 rfl
theorem wd103 {Z a0} (hw : HW a0 Z) : (Jvm.Cond.code ⟨"java/lang/Integer", "highestOneBit", "(I)I"⟩ cB17 (1 : Nat) (Option.some Jvm.ClassFile.FieldType.int)).before a0 Z = true := mw hw 103 rfl
theorem wd101 {Z a0} (hw : HW a0 Z) : (Jvm.Cond.static ⟨"java/lang/Integer", "highestOneBit", "(I)I"⟩).before a0 Z = true := mw hw 101 rfl
theorem d15_23 : decode cB15 23 = .ok (.iconst 4, 1) := by decide +kernel
theorem d15_24 : decode cB15 24 = .ok (.imul, 1) := by decide +kernel
theorem d15_25 : decode cB15 25 = .ok (.iconst 4, 1) := by decide +kernel
theorem d15_26 : decode cB15 26 = .ok (.imul, 1) := by decide +kernel
theorem d15_27 : decode cB15 27 = .ok (.newarray .int, 2) := by decide +kernel
theorem d15_29 : decode cB15 29 = .ok (.putfield 29, 3) := by decide +kernel
theorem d15_32 : decode cB15 32 = .ok (.aload_n 0, 1) := by decide +kernel
theorem d15_33 : decode cB15 33 = .ok (.iload_n 3, 1) := by decide +kernel
theorem d15_34 : decode cB15 34 = .ok (.bipush 16, 2) := by decide +kernel
theorem d15_36 : decode cB15 36 = .ok (.invokestatic 17, 3) := by decide +kernel
theorem d15_39 : decode cB15 39 = .ok (.newarray .int, 2) := by decide +kernel
theorem d15_41 : decode cB15 41 = .ok (.putfield 32, 3) := by decide +kernel
theorem d15_44 : decode cB15 44 = .ok (.iconst 0, 1) := by decide +kernel
theorem d15_45 : decode cB15 45 = .ok (.istore 4, 2) := by decide +kernel
theorem d15_47 : decode cB15 47 = .ok (.iload 4, 2) := by decide +kernel
theorem d15_49 : decode cB15 49 = .ok (.aload_n 1, 1) := by decide +kernel
theorem d15_50 : decode cB15 50 = .ok (.getfield 35, 3) := by decide +kernel
theorem wd113 {Z a0} (hw : HW a0 Z) : (Jvm.Cond.fieldLinkNest IC (35 : Nat) RC "size" "I" RC).before a0 Z = true := mw hw 113 rfl
theorem d15_53 : decode cB15 53 = .ok (.if_icmp .ge 15, 3) := by decide +kernel
theorem d15_68 : decode cB15 68 = .ok (.return_, 1) := by decide +kernel
def Q15 (Z : State) (a1 : Addr) (a2 : Addr) (a3 : Addr) (p4 : Int32) (uT : Value) (uP : Value) (uS : Value) (uN : Value) (h0 : Heap) (n0 : Nat) (v : Option Value) (h : Heap) (L : List Loc) : Prop := ∃ x15_0 : Addr, ∃ x15_1 : Addr, ∃ k_x15_0 : ClassId, ∃ k_x15_1 : ClassId, v = none ∧ Fr n0 L ∧ Keep h0 h [a1] ∧ n0 ≤ x15_0 ∧ h0.size ≤ x15_0 ∧ n0 ≤ x15_1 ∧ h0.size ≤ x15_1 ∧ x15_0 ≠ x15_1 ∧ Exa Z h a1 IC ∧ Fld Z h a1 IC "keys" "I" (.int (0 : Int32)) ∧ Fld Z h a1 IC "this$0" RL (.ref a2) ∧ Fld Z h a1 IC "positions" "[I" (.ref a3) ∧ Fld Z h a1 IC "slots" "[I" (.ref x15_0) ∧ Fld Z h a1 IC "next" "[I" (.ref x15_1) ∧ Arv Z h x15_0 k_x15_0 .int (128 : Int32) [] (.int (0 : Int32)) ∧ Arv Z h x15_1 k_x15_1 .int (16 : Int32) [] (.int (0 : Int32))
theorem ef15 (m : MethodId) (x0 : Addr) (x1 : Addr) (x2 : Addr) (x3 : Int32) : entryFrame m #[(.ref x0), (.ref x1), (.ref x2), (.int x3)] 5 = mkF m 0 #[.val (.ref x0), .val (.ref x1), .val (.ref x2), .val (.int x3), .unset] [] := by first | (simp [entryFrame, mkF, argsToLocals, Value.category]; done) | rfl
theorem sn17 {Z a0} (hw : HW a0 Z) {b a : Addr} : b ≠ a ∨ RoadKit.slotOf Z IC "keys" "I" ≠ RoadKit.slotOf Z IC "this$0" RL := Or.inr (slot_ne (Or.inl (wd134 hw)) (Or.inr (wd93 hw)) (by decide) (t := .int) (t' := (.object RC)) (by decide) (by decide))
theorem sn18 {Z a0} (hw : HW a0 Z) {b a : Addr} : b ≠ a ∨ RoadKit.slotOf Z IC "positions" "[I" ≠ RoadKit.slotOf Z IC "this$0" RL := Or.inr (slot_ne (Or.inr (wd96 hw)) (Or.inr (wd93 hw)) (by decide) (t := (.array .int)) (t' := (.object RC)) (by decide) (by decide))
theorem sn19 {Z a0} (hw : HW a0 Z) {b a : Addr} : b ≠ a ∨ RoadKit.slotOf Z IC "slots" "[I" ≠ RoadKit.slotOf Z IC "this$0" RL := Or.inr (slot_ne (Or.inl (wd110 hw)) (Or.inr (wd93 hw)) (by decide) (t := (.array .int)) (t' := (.object RC)) (by decide) (by decide))
theorem sn20 {Z a0} (hw : HW a0 Z) {b a : Addr} : b ≠ a ∨ RoadKit.slotOf Z IC "next" "[I" ≠ RoadKit.slotOf Z IC "this$0" RL := Or.inr (slot_ne (Or.inl (wd112 hw)) (Or.inr (wd93 hw)) (by decide) (t := (.array .int)) (t' := (.object RC)) (by decide) (by decide))
theorem sn21 {Z a0} (hw : HW a0 Z) {b a : Addr} : b ≠ a ∨ RoadKit.slotOf Z IC "keys" "I" ≠ RoadKit.slotOf Z IC "positions" "[I" := Or.inr (slot_ne (Or.inl (wd134 hw)) (Or.inr (wd96 hw)) (by decide) (t := .int) (t' := (.array .int)) (by decide) (by decide))
theorem sn22 {Z a0} (hw : HW a0 Z) {b a : Addr} : b ≠ a ∨ RoadKit.slotOf Z IC "this$0" RL ≠ RoadKit.slotOf Z IC "positions" "[I" := Or.inr (slot_ne (Or.inr (wd93 hw)) (Or.inr (wd96 hw)) (by decide) (t := (.object RC)) (t' := (.array .int)) (by decide) (by decide))
theorem sn23 {Z a0} (hw : HW a0 Z) {b a : Addr} : b ≠ a ∨ RoadKit.slotOf Z IC "slots" "[I" ≠ RoadKit.slotOf Z IC "positions" "[I" := Or.inr (slot_ne (Or.inl (wd110 hw)) (Or.inr (wd96 hw)) (by decide) (t := (.array .int)) (t' := (.array .int)) (by decide) (by decide))
theorem sn24 {Z a0} (hw : HW a0 Z) {b a : Addr} : b ≠ a ∨ RoadKit.slotOf Z IC "next" "[I" ≠ RoadKit.slotOf Z IC "positions" "[I" := Or.inr (slot_ne (Or.inl (wd112 hw)) (Or.inr (wd96 hw)) (by decide) (t := (.array .int)) (t' := (.array .int)) (by decide) (by decide))
theorem sn25 {Z a0} (hw : HW a0 Z) {b a : Addr} : b ≠ a ∨ RoadKit.slotOf Z IC "keys" "I" ≠ RoadKit.slotOf Z IC "slots" "[I" := Or.inr (slot_ne (Or.inl (wd134 hw)) (Or.inl (wd110 hw)) (by decide) (t := .int) (t' := (.array .int)) (by decide) (by decide))
theorem sn26 {Z a0} (hw : HW a0 Z) {b a : Addr} : b ≠ a ∨ RoadKit.slotOf Z IC "this$0" RL ≠ RoadKit.slotOf Z IC "slots" "[I" := Or.inr (slot_ne (Or.inr (wd93 hw)) (Or.inl (wd110 hw)) (by decide) (t := (.object RC)) (t' := (.array .int)) (by decide) (by decide))
theorem sn27 {Z a0} (hw : HW a0 Z) {b a : Addr} : b ≠ a ∨ RoadKit.slotOf Z IC "positions" "[I" ≠ RoadKit.slotOf Z IC "slots" "[I" := Or.inr (slot_ne (Or.inr (wd96 hw)) (Or.inl (wd110 hw)) (by decide) (t := (.array .int)) (t' := (.array .int)) (by decide) (by decide))
theorem sn28 {Z a0} (hw : HW a0 Z) {b a : Addr} : b ≠ a ∨ RoadKit.slotOf Z IC "next" "[I" ≠ RoadKit.slotOf Z IC "slots" "[I" := Or.inr (slot_ne (Or.inl (wd112 hw)) (Or.inl (wd110 hw)) (by decide) (t := (.array .int)) (t' := (.array .int)) (by decide) (by decide))
theorem sn29 {Z a0} (hw : HW a0 Z) {b a : Addr} : b ≠ a ∨ RoadKit.slotOf Z IC "keys" "I" ≠ RoadKit.slotOf Z IC "next" "[I" := Or.inr (slot_ne (Or.inl (wd134 hw)) (Or.inl (wd112 hw)) (by decide) (t := .int) (t' := (.array .int)) (by decide) (by decide))
theorem sn30 {Z a0} (hw : HW a0 Z) {b a : Addr} : b ≠ a ∨ RoadKit.slotOf Z IC "this$0" RL ≠ RoadKit.slotOf Z IC "next" "[I" := Or.inr (slot_ne (Or.inr (wd93 hw)) (Or.inl (wd112 hw)) (by decide) (t := (.object RC)) (t' := (.array .int)) (by decide) (by decide))
theorem sn31 {Z a0} (hw : HW a0 Z) {b a : Addr} : b ≠ a ∨ RoadKit.slotOf Z IC "positions" "[I" ≠ RoadKit.slotOf Z IC "next" "[I" := Or.inr (slot_ne (Or.inr (wd96 hw)) (Or.inl (wd112 hw)) (by decide) (t := (.array .int)) (t' := (.array .int)) (by decide) (by decide))
theorem sn32 {Z a0} (hw : HW a0 Z) {b a : Addr} : b ≠ a ∨ RoadKit.slotOf Z IC "slots" "[I" ≠ RoadKit.slotOf Z IC "next" "[I" := Or.inr (slot_ne (Or.inl (wd110 hw)) (Or.inl (wd112 hw)) (by decide) (t := (.array .int)) (t' := (.array .int)) (by decide) (by decide))
theorem rm15 (l : Launch) (Z : State) (a0 : Array Value) (hw : HW a0 Z) (ws : List Jvm.Cond) (a1 : Addr) (a2 : Addr) (a3 : Addr) (p4 : Int32) (uT : Value) (uP : Value) (uS : Value) (uN : Value) (h0 : Heap) (n0 : Nat) (Z0 : n0 ≤ h0.size) (E_a1 : Exa Z h0 a1 IC) (F_a1_keys : Fld Z h0 a1 IC "keys" "I" (.int (0 : Int32))) (F_a1_this_0 : Fld Z h0 a1 IC "this$0" RL uT) (F_a1_p : Fld Z h0 a1 IC "positions" "[I" uP) (F_a1_l : Fld Z h0 a1 IC "slots" "[I" uS) (F_a1_next : Fld Z h0 a1 IC "next" "[I" uN) (F_a2_s : Fld Z h0 a2 RC "size" "I" (.int (0 : Int32))) (ne_a2_a1 : a2 ≠ a1) (hq8 : (8 : Int32) < p4) (hq15 : p4.toInt ≤ 15) (g_a1 : n0 ≤ a1) :
  MetFree l (⟨IC, "<init>", "(Lcom/example/bitlattice/bitlattice/eval/Relation;[II)V"⟩ : MethodName) (head1 (Jvm.Cond.code (⟨IC, "<init>", "(Lcom/example/bitlattice/bitlattice/eval/Relation;[II)V"⟩ : MethodName) cB15 5 none :: ws) (Rm 2 2 144 28)) (Pr Z h0 #[(.ref a1), (.ref a2), (.ref a3), (.int p4)]) Tr (fun _ U o U' => ∃ v L, o = .returned v ∧ Q15 Z a1 a2 a3 p4 uT uP uS uN h0 n0 v U'.heap L ∧ FrameEnd U o U' L (Rm 2 2 144 28).cells (Rm 2 2 144 28).slots) := by
 refine MetFree.of_bodySF (plainFor_of_name pn1) hisR ?_
 intro p e s m args below meth c s₁ Bd hml0 hP hK
 obtain ⟨rfl, hZ, hh⟩ := hP
 have hx := Bd.exec
 have hby := Bd.bytes
 have hml : c.maxLocals = 5 := hml0
 have hown : s.vm.findClass IC = some m.cls := findClass_of_methodNamed Bd.named
 have hnm := (name_of_methodNamed Bd.named Bd.method).1
 have X0 : Stand p l e (Rm 2 2 144 28) s m #[(.ref a1), (.ref a2), (.ref a3), (.int p4)] below meth c s₁ [] 0 0 := Stand.of_body Bd
 have e0 : s₁.heap = h0 := by rw [← hh, Bd.state]; rfl
 have N0 := Fr.nil n0
 have K0 : Keep h0 h0 [a1] := Keep.refl h0 _
 refine G (P := fun o U' => ∃ v L, o = .returned v ∧ Q15 Z a1 a2 a3 p4 uT uP uS uN h0 n0 v U'.heap L ∧ FrameEnd s o U' L (Rm 2 2 144 28).cells (Rm 2 2 144 28).slots) (fun t k => castTop (ef15 m a1 a2 a3 p4) k) ?_
 show Go _ _ _ (s₁.setTop (mkF m 0 #[vr a1, vr a2, vr a3, vi p4, us] [])) _
 refine G (fun t k => XS.aloadN X0.here hx rfl (hb hby d15_0) rfl rfl (XS.aloadN X0.here hx rfl (hb hby d15_1) rfl rfl k)) ?_
 obtain ⟨T1, h1, X1, e1, W1, st1⟩ := putF X0 hx hZ hown (host := "") (Or.inl (wd92 hw)) Via.refl e0 F_a1_this_0 E_a1 (Or.inr ⟨(wd93 hw), rfl, hnm⟩) (wd84 hw) (ty := (.object RC)) (by decide) rfl rfl (g := (mkF m 2 #[vr a1, vr a2, vr a3, vi p4, us] [(.ref a2), (.ref a1)])) rfl rfl (hb hby d15_2)
 refine G st1 ?_
 have N1 := Fr.snoc X1 N0 g_a1
 replace E_a1 := E_a1.wr W1
 replace F_a1_keys := F_a1_keys.other W1 (sn17 hw)
 replace F_a1_this_0 := F_a1_this_0.same W1
 replace F_a1_p := F_a1_p.other W1 (sn18 hw)
 replace F_a1_l := F_a1_l.other W1 (sn19 hw)
 replace F_a1_next := F_a1_next.other W1 (sn20 hw)
 replace F_a2_s := F_a2_s.other W1 (Or.inl ne_a2_a1)
 replace Z0 := Nat.le_trans Z0 (Nat.le_of_eq W1.size.symm)
 replace K0 := K0.wr W1 (Or.inl (by simp))
 refine G (fun t k => XS.aloadN X1.here hx rfl (hb hby d15_5) rfl rfl k) ?_
 obtain ⟨T2, X2, e2, st2⟩ := initO X1 hx hZ hown (wd94 hw) (wd13 hw) (wd14 hw) e1 (g := (mkF m 6 #[vr a1, vr a2, vr a3, vi p4, us] [(.ref a1)])) rfl (by rw [hml]; rfl) rfl (hb hby d15_6) (by decide) (W := 0) (by show 2 * 0 + _ ≤ _; exact Nat.le_of_eq rfl) (by decide)
 refine G st2 ?_
 refine G (fun t k => XS.aloadN X2.here hx rfl (hb hby d15_9) rfl rfl (XS.aloadN X2.here hx rfl (hb hby d15_10) rfl rfl k)) ?_
 show Go _ _ _ (T2.setTop (mkF m 11 #[vr a1, vr a2, vr a3, vi p4, us] [(.ref a3), (.ref a1)])) _
 obtain ⟨T3, h3, X3, e3, W3, st3⟩ := putF X2 hx hZ hown (host := "") (Or.inl (wd95 hw)) Via.refl e2 F_a1_p E_a1 (Or.inr ⟨(wd96 hw), rfl, hnm⟩) (wd84 hw) (ty := (.array .int)) (by decide) rfl rfl (g := (mkF m 11 #[vr a1, vr a2, vr a3, vi p4, us] [(.ref a3), (.ref a1)])) rfl rfl (hb hby d15_11)
 refine G st3 ?_
 have N3 := Fr.snoc X3 N1 g_a1
 replace E_a1 := E_a1.wr W3
 replace F_a1_keys := F_a1_keys.other W3 (sn21 hw)
 replace F_a1_this_0 := F_a1_this_0.other W3 (sn22 hw)
 replace F_a1_p := F_a1_p.same W3
 replace F_a1_l := F_a1_l.other W3 (sn23 hw)
 replace F_a1_next := F_a1_next.other W3 (sn24 hw)
 replace F_a2_s := F_a2_s.other W3 (Or.inl ne_a2_a1)
 replace Z0 := Nat.le_trans Z0 (Nat.le_of_eq W3.size.symm)
 replace K0 := K0.wr W3 (Or.inl (by simp))
 refine G (fun t k => XS.aloadN X3.here hx rfl (hb hby d15_14) rfl rfl (XS.iloadN X3.here hx rfl (hb hby d15_15) rfl (XS.iconst X3.here hx rfl (hb hby d15_16) k))) ?_
 obtain ⟨_, _, ⟨T4, L4, k4, n4⟩, -, X4, ⟨Lc4, hQ4, l4, y4, z4⟩, st4⟩ := Jvm.LawKit.callS X3 hx (y := (⟨"java/lang/Math", "max", "(II)I"⟩ : MethodName)) hown (mvT hZ (wd97 hw)) (mvT hZ (wd98 hw)) (mvT hZ (wd80 hw)) (mvT hZ (wd99 hw)) (by decide) (backOf (W := 1) (rm16 l Z a0 hw [] p4 (4 : Int32) h3 n0 Z0) hZ (wd99 hw) (wd80 hw) (by decide) (by decide)) (g := (mkF m 17 #[vr a1, vr a2, vr a3, vi p4, us] [(.int 4), (.int p4), (.ref a1)])) rfl (by rw [hml]; rfl) (argsL := [(.int p4), (.int (4 : Int32))]) (rest := [(.ref a1)]) (lenOf pd2 rfl) rfl (by show 2 * 0 + _ ≤ _; exact Nat.le_of_eq rfl) (hb hby d15_17) (fun _ _ => ⟨rfl, e3, (by decide : 0 + 0 ≤ _), (by decide : 0 + 0 ≤ _)⟩)
 dsimp only [Pt.U, Pt.locs, Pt.cells, Pt.slots] at X4 l4 y4 z4 st4 hQ4
 subst l4 y4 z4
 refine G st4 ?_
 obtain ⟨rfl, N4q, e4⟩ := hQ4
 have N4 := Fr.app N3 N4q
 show Go _ _ _ (T4.setTop (mkF m 20 #[vr a1, vr a2, vr a3, vi p4, us] [(.int (f16 p4 (4 : Int32))), (.ref a1)])) _
 have hf5 : ¬ (p4 < (4 : Int32)) := own_nlt p4 4 4 rfl (by have := own_8 hq8; omega)
 rw [show (f16 p4 (4 : Int32)) = p4 from by unfold f16; simp only [if_neg hf5, if_true, if_false]]
 show Go _ _ _ (T4.setTop (mkF m 20 #[vr a1, vr a2, vr a3, vi p4, us] [(.int p4), (.ref a1)])) _
 obtain ⟨_, _, ⟨T6, L6, k6, n6⟩, -, X6, ⟨Lc6, hQ6, l6, y6, z6⟩, st6⟩ := Jvm.LawKit.callS X4 hx (y := (⟨"java/lang/Integer", "highestOneBit", "(I)I"⟩ : MethodName)) hown (mvT hZ (wd100 hw)) (mvT hZ (wd101 hw)) (mvT hZ (wd102 hw)) (mvT hZ (wd103 hw)) (by decide) (backOf (W := 1) (rm17 l Z a0 hw [] p4 h3 n0 Z0 hq8 hq15) hZ (wd103 hw) (wd102 hw) (by decide) (by decide)) (g := (mkF m 20 #[vr a1, vr a2, vr a3, vi p4, us] [(.int p4), (.ref a1)])) rfl (by rw [hml]; rfl) (argsL := [(.int p4)]) (rest := [(.ref a1)]) (lenOf pd0 rfl) rfl (by show 2 * 0 + _ ≤ _; exact Nat.le_of_eq rfl) (hb hby d15_20) (fun _ _ => ⟨rfl, e4, (by decide : 0 + 0 ≤ _), (by decide : 0 + 0 ≤ _)⟩)
 dsimp only [Pt.U, Pt.locs, Pt.cells, Pt.slots] at X6 l6 y6 z6 st6 hQ6
 subst l6 y6 z6
 refine G st6 ?_
 obtain ⟨rfl, N6q, e6⟩ := hQ6
 have N6 := Fr.app N4 N6q
 obtain ⟨LL6, X6, N6⟩ : ∃ LL, Stand p l e (Rm 2 2 144 28) s m #[(.ref a1), (.ref a2), (.ref a3), (.int p4)] below meth c T6 LL 0 0 ∧ Fr n0 LL := ⟨_, X6, N6⟩
 refine G (fun t k => XS.iconst X6.here hx rfl (hb hby d15_23) (XS.imul X6.here hx rfl (hb hby d15_24) rfl (XS.iconst X6.here hx rfl (hb hby d15_25) (XS.imul X6.here hx rfl (hb hby d15_26) rfl k)))) ?_
 obtain ⟨T7, h7, k7, X7, e7, E7, A7, st7⟩ := newP X6 hx hZ (aty := .int) (wd5 hw) e6 (g := (mkF m 27 #[vr a1, vr a2, vr a3, vi p4, us] [(.int 128), (.ref a1)])) rfl (hb hby d15_27) rfl (by decide) (cap := 128) (by decide) (by decide) (by decide) (by decide)
 obtain ⟨b7, g7⟩ : ∃ z, z = h3.size := ⟨_, rfl⟩
 rw [← g7] at A7 st7
 refine G st7 ?_
 have ne_a1_b7 : a1 ≠ b7 := Nat.ne_of_lt (Nat.lt_of_lt_of_le E_a1.lt (Nat.le_of_eq g7.symm))
 have ne_a2_b7 : a2 ≠ b7 := Nat.ne_of_lt (Nat.lt_of_lt_of_le F_a2_s.lt (Nat.le_of_eq g7.symm))
 have g_b7 : n0 ≤ b7 := Nat.le_trans Z0 (Nat.le_of_eq g7.symm)
 have sz_b7 : h0.size ≤ b7 := Nat.le_trans K0.1 (Nat.le_of_eq g7.symm)
 replace E_a1 := E_a1.ext E7
 replace F_a1_keys := F_a1_keys.ext E7
 replace F_a1_this_0 := F_a1_this_0.ext E7
 replace F_a1_p := F_a1_p.ext E7
 replace F_a1_l := F_a1_l.ext E7
 replace F_a1_next := F_a1_next.ext E7
 replace F_a2_s := F_a2_s.ext E7
 replace K0 := K0.ext E7
 replace Z0 := Nat.le_trans Z0 E7.1
 have V_b7 : Arv Z h7 b7 k7 .int (128 : Int32) [] (.int (0 : Int32)) := Arv.new A7 (by decide)
 obtain ⟨T8, h8, X8, e8, W8, st8⟩ := putF X7 hx hZ hown (host := "") (Or.inl (wd109 hw)) Via.refl e7 F_a1_l E_a1 (Or.inl (wd110 hw)) (wd84 hw) (ty := (.array .int)) (by decide) rfl rfl (g := (mkF m 29 #[vr a1, vr a2, vr a3, vi p4, us] [(.ref b7), (.ref a1)])) rfl rfl (hb hby d15_29)
 refine G st8 ?_
 have N8 := Fr.snoc X8 N6 g_a1
 replace E_a1 := E_a1.wr W8
 replace F_a1_keys := F_a1_keys.other W8 (sn25 hw)
 replace F_a1_this_0 := F_a1_this_0.other W8 (sn26 hw)
 replace F_a1_p := F_a1_p.other W8 (sn27 hw)
 replace F_a1_l := F_a1_l.same W8
 replace F_a1_next := F_a1_next.other W8 (sn28 hw)
 replace F_a2_s := F_a2_s.other W8 (Or.inl ne_a2_a1)
 replace V_b7 := V_b7.other W8 (Ne.symm ne_a1_b7)
 replace Z0 := Nat.le_trans Z0 (Nat.le_of_eq W8.size.symm)
 replace K0 := K0.wr W8 (Or.inl (by simp))
 show Go _ _ _ (T8.setTop (mkF m 32 #[vr a1, vr a2, vr a3, vi p4, us] [])) _
 refine G (fun t k => XS.aloadN X8.here hx rfl (hb hby d15_32) rfl rfl (XS.iloadN X8.here hx rfl (hb hby d15_33) rfl (XS.bipush X8.here hx rfl (hb hby d15_34) k))) ?_
 obtain ⟨_, _, ⟨T9, L9, k9, n9⟩, -, X9, ⟨Lc9, hQ9, l9, y9, z9⟩, st9⟩ := Jvm.LawKit.callS X8 hx (y := (⟨"java/lang/Math", "max", "(II)I"⟩ : MethodName)) hown (mvT hZ (wd97 hw)) (mvT hZ (wd98 hw)) (mvT hZ (wd80 hw)) (mvT hZ (wd99 hw)) (by decide) (backOf (W := 1) (rm16 l Z a0 hw [] p4 (16 : Int32) h8 n0 Z0) hZ (wd99 hw) (wd80 hw) (by decide) (by decide)) (g := (mkF m 36 #[vr a1, vr a2, vr a3, vi p4, us] [(.int 16), (.int p4), (.ref a1)])) rfl (by rw [hml]; rfl) (argsL := [(.int p4), (.int (16 : Int32))]) (rest := [(.ref a1)]) (lenOf pd2 rfl) rfl (by show 2 * 0 + _ ≤ _; exact Nat.le_of_eq rfl) (hb hby d15_36) (fun _ _ => ⟨rfl, e8, (by decide : 1 + 0 ≤ _), (by decide : 128 + 0 ≤ _)⟩)
 dsimp only [Pt.U, Pt.locs, Pt.cells, Pt.slots] at X9 l9 y9 z9 st9 hQ9
 subst l9 y9 z9
 refine G st9 ?_
 obtain ⟨rfl, N9q, e9⟩ := hQ9
 have N9 := Fr.app N8 N9q
 show Go _ _ _ (T9.setTop (mkF m 39 #[vr a1, vr a2, vr a3, vi p4, us] [(.int (f16 p4 (16 : Int32))), (.ref a1)])) _
 have hf10 : p4 < (16 : Int32) := own_lt p4 16 16 rfl (by omega)
 rw [show (f16 p4 (16 : Int32)) = (16 : Int32) from by unfold f16; simp only [if_pos hf10, if_true, if_false]]
 show Go _ _ _ (T9.setTop (mkF m 39 #[vr a1, vr a2, vr a3, vi p4, us] [(.int 16), (.ref a1)])) _
 obtain ⟨T11, h11, k11, X11, e11, E11, A11, st11⟩ := newP X9 hx hZ (aty := .int) (wd5 hw) e9 (g := (mkF m 39 #[vr a1, vr a2, vr a3, vi p4, us] [(.int 16), (.ref a1)])) rfl (hb hby d15_39) rfl (by decide) (cap := 16) (by decide) (by decide) (by decide) (by decide)
 obtain ⟨b11, g11⟩ : ∃ z, z = h8.size := ⟨_, rfl⟩
 rw [← g11] at A11 st11
 refine G st11 ?_
 have ne_a1_b11 : a1 ≠ b11 := Nat.ne_of_lt (Nat.lt_of_lt_of_le E_a1.lt (Nat.le_of_eq g11.symm))
 have ne_a2_b11 : a2 ≠ b11 := Nat.ne_of_lt (Nat.lt_of_lt_of_le F_a2_s.lt (Nat.le_of_eq g11.symm))
 have ne_b7_b11 : b7 ≠ b11 := Nat.ne_of_lt (Nat.lt_of_lt_of_le V_b7.lt (Nat.le_of_eq g11.symm))
 have g_b11 : n0 ≤ b11 := Nat.le_trans Z0 (Nat.le_of_eq g11.symm)
 have sz_b11 : h0.size ≤ b11 := Nat.le_trans K0.1 (Nat.le_of_eq g11.symm)
 replace E_a1 := E_a1.ext E11
 replace F_a1_keys := F_a1_keys.ext E11
 replace F_a1_this_0 := F_a1_this_0.ext E11
 replace F_a1_p := F_a1_p.ext E11
 replace F_a1_l := F_a1_l.ext E11
 replace F_a1_next := F_a1_next.ext E11
 replace F_a2_s := F_a2_s.ext E11
 replace V_b7 := V_b7.ext E11
 replace K0 := K0.ext E11
 replace Z0 := Nat.le_trans Z0 E11.1
 have V_b11 : Arv Z h11 b11 k11 .int (16 : Int32) [] (.int (0 : Int32)) := Arv.new A11 (by decide)
 obtain ⟨T12, h12, X12, e12, W12, st12⟩ := putF X11 hx hZ hown (host := "") (Or.inl (wd111 hw)) Via.refl e11 F_a1_next E_a1 (Or.inl (wd112 hw)) (wd84 hw) (ty := (.array .int)) (by decide) rfl rfl (g := (mkF m 41 #[vr a1, vr a2, vr a3, vi p4, us] [(.ref b11), (.ref a1)])) rfl rfl (hb hby d15_41)
 refine G st12 ?_
 have N12 := Fr.snoc X12 N9 g_a1
 replace E_a1 := E_a1.wr W12
 replace F_a1_keys := F_a1_keys.other W12 (sn29 hw)
 replace F_a1_this_0 := F_a1_this_0.other W12 (sn30 hw)
 replace F_a1_p := F_a1_p.other W12 (sn31 hw)
 replace F_a1_l := F_a1_l.other W12 (sn32 hw)
 replace F_a1_next := F_a1_next.same W12
 replace F_a2_s := F_a2_s.other W12 (Or.inl ne_a2_a1)
 replace V_b7 := V_b7.other W12 (Ne.symm ne_a1_b7)
 replace V_b11 := V_b11.other W12 (Ne.symm ne_a1_b11)
 replace Z0 := Nat.le_trans Z0 (Nat.le_of_eq W12.size.symm)
 replace K0 := K0.wr W12 (Or.inl (by simp))
 refine G (fun t k => XS.iconst X12.here hx rfl (hb hby d15_44) (XS.istore X12.here hx rfl (hb hby d15_45) rfl (l' := #[vr a1, vr a2, vr a3, vi p4, vi 0]) rfl (XS.iload X12.here hx rfl (hb hby d15_47) rfl (XS.aloadN X12.here hx rfl (hb hby d15_49) rfl rfl k)))) ?_
 obtain ⟨T13, X13, e13, st13⟩ := getF X12 hx hZ hown (Or.inr (wd113 hw)) Via.refl e12 F_a2_s (g := (mkF m 50 #[vr a1, vr a2, vr a3, vi p4, vi 0] [(.ref a2), (.int 0)])) rfl rfl (hb hby d15_50)
 refine G st13 ?_
 show Go _ _ _ (T13.setTop (mkF m 53 #[vr a1, vr a2, vr a3, vi p4, vi 0] [(.int 0), (.int 0)])) _
 refine G (fun t k => XS.icmpYes X13.here hx rfl (pc0 := 53) (pc' := 68) rfl (hb hby d15_53) rfl (flt (by decide : ¬ ((0 : Int32) < (0 : Int32)))).2.1 (by decide) (by decide) k) ?_
 obtain ⟨fs, hr, hrun, hended, hW, hsame⟩ := X13.leave (v := none) (fun _ => rfl)
 refine Go.fin (X13.returnOut hx Bd.returns (hb hby d15_68) hr) hrun hended ⟨_, _, rfl, ?_, ⟨_, rfl⟩, hW, hsame.mono (by decide) (by decide)⟩
 show Q15 Z a1 a2 a3 p4 uT uP uS uN h0 n0 _ T13.heap _
 rw [e13]
 exact ⟨b7, b11, k7, k11, rfl, N12, K0, g_b7, sz_b7, g_b11, sz_b11, ne_b7_b11, E_a1, F_a1_keys, F_a1_this_0, F_a1_p, F_a1_l, F_a1_next, V_b7, V_b11⟩
theorem d20_0 : decode cB20 0 = .ok (.iconst 0, 1) := by decide +kernel
theorem d20_1 : decode cB20 1 = .ok (.istore_n 2, 1) := by decide +kernel
theorem d20_2 : decode cB20 2 = .ok (.aload_n 0, 1) := by decide +kernel
theorem d20_3 : decode cB20 3 = .ok (.getfield 13, 3) := by decide +kernel
theorem d20_6 : decode cB20 6 = .ok (.astore_n 3, 1) := by decide +kernel
theorem d20_7 : decode cB20 7 = .ok (.aload_n 3, 1) := by decide +kernel
theorem d20_8 : decode cB20 8 = .ok (.arraylength, 1) := by decide +kernel
theorem d20_9 : decode cB20 9 = .ok (.istore 4, 2) := by decide +kernel
theorem d20_11 : decode cB20 11 = .ok (.iconst 0, 1) := by decide +kernel
theorem d20_12 : decode cB20 12 = .ok (.istore 5, 2) := by decide +kernel
theorem d20_14 : decode cB20 14 = .ok (.iload 5, 2) := by decide +kernel
theorem d20_16 : decode cB20 16 = .ok (.iload 4, 2) := by decide +kernel
theorem d20_18 : decode cB20 18 = .ok (.if_icmp .ge 40, 3) := by decide +kernel
theorem d20_21 : decode cB20 21 = .ok (.aload_n 3, 1) := by decide +kernel
theorem d20_22 : decode cB20 22 = .ok (.iload 5, 2) := by decide +kernel
theorem d20_24 : decode cB20 24 = .ok (.iaload, 1) := by decide +kernel
theorem d20_25 : decode cB20 25 = .ok (.istore 6, 2) := by decide +kernel
theorem d20_27 : decode cB20 27 = .ok (.iload_n 2, 1) := by decide +kernel
theorem d20_28 : decode cB20 28 = .ok (.aload_n 0, 1) := by decide +kernel
theorem d20_29 : decode cB20 29 = .ok (.getfield 1, 3) := by decide +kernel
theorem d20_32 : decode cB20 32 = .ok (.getfield 101, 3) := by decide +kernel
theorem wd123 {Z a0} (hw : HW a0 Z) : (Jvm.Cond.fieldLinkNest IC (101 : Nat) RC "values" "[I" RC).before a0 Z = true := mw hw 123 rfl
theorem d20_35 : decode cB20 35 = .ok (.iload_n 1, 1) := by decide +kernel
theorem d20_36 : decode cB20 36 = .ok (.aload_n 0, 1) := by decide +kernel
theorem d20_37 : decode cB20 37 = .ok (.getfield 1, 3) := by decide +kernel
theorem d20_40 : decode cB20 40 = .ok (.getfield 104, 3) := by decide +kernel
theorem wd124 {Z a0} (hw : HW a0 Z) : (Jvm.Cond.fieldLinkNest IC (104 : Nat) RC "arity" "I" RC).before a0 Z = true := mw hw 124 rfl
theorem d20_43 : decode cB20 43 = .ok (.imul, 1) := by decide +kernel
theorem d20_44 : decode cB20 44 = .ok (.iload 6, 2) := by decide +kernel
theorem d20_46 : decode cB20 46 = .ok (.iadd, 1) := by decide +kernel
theorem d20_47 : decode cB20 47 = .ok (.iaload, 1) := by decide +kernel
theorem d20_48 : decode cB20 48 = .ok (.invokestatic 67, 3) := by decide +kernel
theorem wd125 {Z a0} (hw : HW a0 Z) : (Jvm.Cond.methodLinkNest IC (67 : Nat) ⟨RC, "mix", "(II)I"⟩ RC).before a0 Z = true := mw hw 125 rfl
theorem wd127 {Z a0} (hw : HW a0 Z) : (Jvm.Cond.code ⟨RC, "mix", "(II)I"⟩ cB21 (2 : Nat) (Option.some Jvm.ClassFile.FieldType.int)).before a0 Z = true := mw hw 127 rfl
theorem wd8 {Z a0} (hw : HW a0 Z) : (Jvm.Cond.initialized RC).before a0 Z = true := mw hw 8 rfl
theorem wd126 {Z a0} (hw : HW a0 Z) : (Jvm.Cond.static ⟨RC, "mix", "(II)I"⟩).before a0 Z = true := mw hw 126 rfl
theorem d20_51 : decode cB20 51 = .ok (.istore_n 2, 1) := by decide +kernel
theorem d20_52 : decode cB20 52 = .ok (.iinc 5 1, 3) := by decide +kernel
theorem d20_55 : decode cB20 55 = .ok (.goto (-41), 3) := by decide +kernel
theorem d20_58 : decode cB20 58 = .ok (.iload_n 2, 1) := by decide +kernel
theorem d20_59 : decode cB20 59 = .ok (.ireturn, 1) := by decide +kernel
def f20_1 (v0 : Int32) : Int32 := (((0 : Int32) + v0) * (-1640531535 : Int32))
def Q20_1 (Z : State) (a1 : Addr) (w_rel : Addr) (w_pos : Addr) (w_sl : Addr) (w_nx : Addr) (k_p : ClassId) (k_s : ClassId) (k_n : ClassId) (w_v : Addr) (k_v : ClassId) (ln : Int32) (v0 : Int32) (h0 : Heap) (n0 : Nat) (v : Option Value) (h : Heap) (L : List Loc) : Prop := v = some (.int (f20_1 v0)) ∧ Fr n0 L ∧ h = h0
theorem ef20_1 (m : MethodId) (x0 : Addr) : entryFrame m #[(.ref x0), (.int (0 : Int32))] 7 = mkF m 0 #[.val (.ref x0), .val (.int (0 : Int32)), .unset, .unset, .unset, .unset, .unset] [] := by first | (simp [entryFrame, mkF, argsToLocals, Value.category]; done) | rfl
theorem rm20_1 (l : Launch) (Z : State) (a0 : Array Value) (hw : HW a0 Z) (ws : List Jvm.Cond) (a1 : Addr) (w_rel : Addr) (w_pos : Addr) (w_sl : Addr) (w_nx : Addr) (k_p : ClassId) (k_s : ClassId) (k_n : ClassId) (w_v : Addr) (k_v : ClassId) (ln : Int32) (v0 : Int32) (h0 : Heap) (n0 : Nat) (Z0 : n0 ≤ h0.size) (E_a1 : Exa Z h0 a1 IC) (F_a1_p : Fld Z h0 a1 IC "positions" "[I" (.ref w_pos)) (F_a1_l : Fld Z h0 a1 IC "slots" "[I" (.ref w_sl)) (F_a1_next : Fld Z h0 a1 IC "next" "[I" (.ref w_nx)) (F_a1_keys : Fld Z h0 a1 IC "keys" "I" (.int (0 : Int32))) (V_pos : Arv Z h0 w_pos k_p .int (1 : Int32) [(.int (0 : Int32))] (.int (0 : Int32))) (V_sl : Arh Z h0 w_sl k_s .int (128 : Int32) [] [] (.int (0 : Int32))) (V_nx : Arv Z h0 w_nx k_n .int (16 : Int32) [] (.int (0 : Int32))) (F_a1_this_0 : Fld Z h0 a1 IC "this$0" RL (.ref w_rel)) (V_v : Arv Z h0 w_v k_v .int ln [(.int v0)] (.int (0 : Int32))) (F_w_rel_v : Fld Z h0 w_rel RC "values" "[I" (.ref w_v)) (F_w_rel_a : Fld Z h0 w_rel RC "arity" "I" (.int (1 : Int32))) (hln : ¬ ln < (4 : Int32)) (ne_w_pos_a1 : w_pos ≠ a1) (ne_w_sl_a1 : w_sl ≠ a1) (ne_w_sl_w_pos : w_sl ≠ w_pos) (ne_w_nx_a1 : w_nx ≠ a1) (ne_w_nx_w_pos : w_nx ≠ w_pos) (ne_w_nx_w_sl : w_nx ≠ w_sl) (ne_w_rel_a1 : w_rel ≠ a1) (ne_w_rel_w_pos : w_rel ≠ w_pos) (ne_w_rel_w_sl : w_rel ≠ w_sl) (ne_w_rel_w_nx : w_rel ≠ w_nx) (ne_w_v_a1 : w_v ≠ a1) (ne_w_v_w_pos : w_v ≠ w_pos) (ne_w_v_w_sl : w_v ≠ w_sl) (ne_w_v_w_nx : w_v ≠ w_nx) (ne_w_v_w_rel : w_v ≠ w_rel) :
  MetFree l (⟨IC, "hash", "(I)I"⟩ : MethodName) (head1 (Jvm.Cond.code (⟨IC, "hash", "(I)I"⟩ : MethodName) cB20 7 (some .int) :: ws) (Rm 1 0 0 13)) (Pr Z h0 #[(.ref a1), (.int (0 : Int32))]) Tr (fun _ U o U' => ∃ v L, o = .returned v ∧ Q20_1 Z a1 w_rel w_pos w_sl w_nx k_p k_s k_n w_v k_v ln v0 h0 n0 v U'.heap L ∧ FrameEnd U o U' L (Rm 1 0 0 13).cells (Rm 1 0 0 13).slots) := by
 refine MetFree.of_bodySF (plainFor_of_name pn1) hisR ?_
 intro p e s m args below meth c s₁ Bd hml0 hP hK
 obtain ⟨rfl, hZ, hh⟩ := hP
 have hx := Bd.exec
 have hby := Bd.bytes
 have hml : c.maxLocals = 7 := hml0
 have hown : s.vm.findClass IC = some m.cls := findClass_of_methodNamed Bd.named
 have hnm := (name_of_methodNamed Bd.named Bd.method).1
 have X0 : Stand p l e (Rm 1 0 0 13) s m #[(.ref a1), (.int (0 : Int32))] below meth c s₁ [] 0 0 := Stand.of_body Bd
 have e0 : s₁.heap = h0 := by rw [← hh, Bd.state]; rfl
 have N0 := Fr.nil n0
 have K0 : Keep h0 h0 [] := Keep.refl h0 _
 refine G (P := fun o U' => ∃ v L, o = .returned v ∧ Q20_1 Z a1 w_rel w_pos w_sl w_nx k_p k_s k_n w_v k_v ln v0 h0 n0 v U'.heap L ∧ FrameEnd s o U' L (Rm 1 0 0 13).cells (Rm 1 0 0 13).slots) (fun t k => castTop (ef20_1 m a1) k) ?_
 show Go _ _ _ (s₁.setTop (mkF m 0 #[vr a1, vi 0, us, us, us, us, us] [])) _
 refine G (fun t k => XS.iconst X0.here hx rfl (hb hby d20_0) (XS.istoreN X0.here hx rfl (hb hby d20_1) rfl (l' := #[vr a1, vi 0, vi 0, us, us, us, us]) rfl (XS.aloadN X0.here hx rfl (hb hby d20_2) rfl rfl k))) ?_
 obtain ⟨T1, X1, e1, st1⟩ := getF X0 hx hZ hown (host := "") (Or.inl (wd95 hw)) Via.refl e0 F_a1_p (g := (mkF m 3 #[vr a1, vi 0, vi 0, us, us, us, us] [(.ref a1)])) rfl rfl (hb hby d20_3)
 refine G st1 ?_
 refine G (fun t k => XS.astoreN X1.here hx rfl (hb hby d20_6) rfl rfl (l' := #[vr a1, vi 0, vi 0, vr w_pos, us, us, us]) rfl (XS.aloadN X1.here hx rfl (hb hby d20_7) rfl rfl k)) ?_
 obtain ⟨cl2, Ar2, -, Sz2, Ng2, -, -⟩ := id V_pos
 refine G (fun t k => X1.arraylength hx (by rw [e1]; exact Ar2.1) (State.isArrayOf_alike hZ.alike Ar2.2.1) (g := (mkF m 8 #[vr a1, vi 0, vi 0, vr w_pos, us, us, us] [(.ref w_pos)])) rfl rfl (hb hby d20_8) _ k) ?_
 rw [len_of Sz2 Ng2]
 show Go _ _ _ (T1.setTop (mkF m 9 #[vr a1, vi 0, vi 0, vr w_pos, us, us, us] [(.int 1)])) _
 refine G (fun t k => XS.istore X1.here hx rfl (hb hby d20_9) rfl (l' := #[vr a1, vi 0, vi 0, vr w_pos, vi 1, us, us]) rfl (XS.iconst X1.here hx rfl (hb hby d20_11) (XS.istore X1.here hx rfl (hb hby d20_12) rfl (l' := #[vr a1, vi 0, vi 0, vr w_pos, vi 1, vi 0, us]) rfl (XS.iload X1.here hx rfl (hb hby d20_14) rfl (XS.iload X1.here hx rfl (hb hby d20_16) rfl (XS.icmpNo X1.here hx rfl (hb hby d20_18) rfl (tlt (by decide : (0 : Int32) < (1 : Int32))).2.1 k)))))) ?_
 refine G (fun t k => XS.aloadN X1.here hx rfl (hb hby d20_21) rfl rfl k) ?_
 show Go _ _ _ (T1.setTop (mkF m 22 #[vr a1, vi 0, vi 0, vr w_pos, vi 1, vi 0, us] [(.ref w_pos)])) _
 refine G (fun t k => XS.iload X1.here hx rfl (hb hby d20_22) rfl k) ?_
 obtain ⟨cl3, Ar3, -, Sz3, Ng3, Hs3, -⟩ := id V_pos
 have hin3 : ¬ ((0 : Int32) < 0 ∨ cl3.slots.size ≤ ((0 : Int32)).toNatClampNeg) := inb_of Sz3 ⟨by decide, by decide⟩
 refine G (fun t k => X1.iaload hx (j := (0 : Int32)) (v := (.int (0 : Int32))) (by rw [e1]; exact Ar3.1) (State.isArrayOf_alike hZ.alike Ar3.2.1) Ar3.2.2 hin3 (Has.at Hs3 hin3 rfl) (g := (mkF m 24 #[vr a1, vi 0, vi 0, vr w_pos, vi 1, vi 0, us] [(.int 0), (.ref w_pos)])) rfl rfl (hb hby d20_24) _ (XS.istore X1.here hx rfl (hb hby d20_25) rfl (l' := #[vr a1, vi 0, vi 0, vr w_pos, vi 1, vi 0, vi 0]) rfl (XS.iloadN X1.here hx rfl (hb hby d20_27) rfl (XS.aloadN X1.here hx rfl (hb hby d20_28) rfl rfl k)))) ?_
 obtain ⟨T4, X4, e4, st4⟩ := getF X1 hx hZ hown (host := "") (Or.inl (wd92 hw)) Via.refl e1 F_a1_this_0 (g := (mkF m 29 #[vr a1, vi 0, vi 0, vr w_pos, vi 1, vi 0, vi 0] [(.ref a1), (.int 0)])) rfl rfl (hb hby d20_29)
 refine G st4 ?_
 obtain ⟨T5, X5, e5, st5⟩ := getF X4 hx hZ hown (Or.inr (wd123 hw)) Via.refl e4 F_w_rel_v (g := (mkF m 32 #[vr a1, vi 0, vi 0, vr w_pos, vi 1, vi 0, vi 0] [(.ref w_rel), (.int 0)])) rfl rfl (hb hby d20_32)
 refine G st5 ?_
 show Go _ _ _ (T5.setTop (mkF m 35 #[vr a1, vi 0, vi 0, vr w_pos, vi 1, vi 0, vi 0] [(.ref w_v), (.int 0)])) _
 refine G (fun t k => XS.iloadN X5.here hx rfl (hb hby d20_35) rfl (XS.aloadN X5.here hx rfl (hb hby d20_36) rfl rfl k)) ?_
 obtain ⟨T6, X6, e6, st6⟩ := getF X5 hx hZ hown (host := "") (Or.inl (wd92 hw)) Via.refl e5 F_a1_this_0 (g := (mkF m 37 #[vr a1, vi 0, vi 0, vr w_pos, vi 1, vi 0, vi 0] [(.ref a1), (.int 0), (.ref w_v), (.int 0)])) rfl rfl (hb hby d20_37)
 refine G st6 ?_
 obtain ⟨T7, X7, e7, st7⟩ := getF X6 hx hZ hown (Or.inr (wd124 hw)) Via.refl e6 F_w_rel_a (g := (mkF m 40 #[vr a1, vi 0, vi 0, vr w_pos, vi 1, vi 0, vi 0] [(.ref w_rel), (.int 0), (.ref w_v), (.int 0)])) rfl rfl (hb hby d20_40)
 refine G st7 ?_
 refine G (fun t k => XS.imul X7.here hx rfl (hb hby d20_43) rfl (XS.iload X7.here hx rfl (hb hby d20_44) rfl (XS.iadd X7.here hx rfl (hb hby d20_46) rfl k))) ?_
 show Go _ _ _ (T7.setTop (mkF m 47 #[vr a1, vi 0, vi 0, vr w_pos, vi 1, vi 0, vi 0] [(.int 0), (.ref w_v), (.int 0)])) _
 obtain ⟨cl8, Ar8, -, Sz8, Ng8, Hs8, -⟩ := id V_v
 have hin8 : ¬ ((0 : Int32) < 0 ∨ cl8.slots.size ≤ ((0 : Int32)).toNatClampNeg) := inb_of Sz8 ⟨by decide, (own_ltl (0 : Int32) (4 : Int32) _ (by decide) hln)⟩
 refine G (fun t k => X7.iaload hx (j := (0 : Int32)) (v := (.int v0)) (by rw [e7]; exact Ar8.1) (State.isArrayOf_alike hZ.alike Ar8.2.1) Ar8.2.2 hin8 (Has.at Hs8 hin8 rfl) (g := (mkF m 47 #[vr a1, vi 0, vi 0, vr w_pos, vi 1, vi 0, vi 0] [(.int 0), (.ref w_v), (.int 0)])) rfl rfl (hb hby d20_47) _ k) ?_
 obtain ⟨_, _, ⟨T9, L9, k9, n9⟩, -, X9, ⟨Lc9, hQ9, l9, y9, z9⟩, st9⟩ := callSN X7 hx (y := (⟨RC, "mix", "(II)I"⟩ : MethodName)) hown (own_mvM hZ (wd125 hw)) (mvT hZ (wd126 hw)) (mvT hZ (wd8 hw)) (mvT hZ (wd127 hw)) (by decide) (backOf (W := 0) (rm21 l Z a0 hw [] (0 : Int32) v0 h0 n0 Z0) hZ (wd127 hw) (wd8 hw) (by decide) (by decide)) (g := (mkF m 48 #[vr a1, vi 0, vi 0, vr w_pos, vi 1, vi 0, vi 0] [(.int v0), (.int 0)])) rfl (by rw [hml]; rfl) (argsL := [(.int (0 : Int32)), (.int v0)]) (rest := []) (lenOf pd2 rfl) rfl (by show 2 * 0 + _ ≤ _; exact Nat.le_of_eq rfl) (hb hby d20_48) (fun _ _ => ⟨rfl, e7, (by decide : 0 + 0 ≤ _), (by decide : 0 + 0 ≤ _)⟩)
 dsimp only [Pt.U, Pt.locs, Pt.cells, Pt.slots] at X9 l9 y9 z9 st9 hQ9
 subst l9 y9 z9
 refine Go.tr st9 ?_
 obtain ⟨rfl, N9q, e9⟩ := hQ9
 have N9 := Fr.app N0 N9q
 refine G (fun t k => XS.istoreN X9.here hx rfl (hb hby d20_51) rfl (l' := #[vr a1, vi 0, vi (((0 : Int32) + v0) * (-1640531535 : Int32)), vr w_pos, vi 1, vi 0, vi 0]) rfl (XS.iinc X9.here hx rfl (hb hby d20_52) rfl (l' := #[.val (.ref a1), .val (.int (0 : Int32)), .val (.int (((0 : Int32) + v0) * (-1640531535 : Int32))), .val (.ref w_pos), .val (.int (1 : Int32)), .val (.int ((0 : Int32) + (1 : Int32))), .val (.int (0 : Int32))]) rfl (XS.goto X9.here hx rfl (pc0 := 55) (pc' := 14) rfl (hb hby d20_55) (by decide) (by decide) (XS.iload X9.here hx rfl (hb hby d20_14) rfl (XS.iload X9.here hx rfl (hb hby d20_16) rfl k))))) ?_
 show Go _ _ _ (T9.setTop (mkF m 18 #[vr a1, vi 0, vi (((0 : Int32) + v0) * (-1640531535 : Int32)), vr w_pos, vi 1, vi 1, vi 0] [(.int 1), (.int 1)])) _
 refine G (fun t k => XS.icmpYes X9.here hx rfl (pc0 := 18) (pc' := 58) rfl (hb hby d20_18) rfl (flt (by decide : ¬ ((1 : Int32) < (1 : Int32)))).2.1 (by decide) (by decide) (XS.iloadN X9.here hx rfl (hb hby d20_58) rfl k)) ?_
 obtain ⟨fs, hr, hrun, hended, hW, hsame⟩ := X9.leave (v := some (.int (((0 : Int32) + v0) * (-1640531535 : Int32)))) (fun h => by rw [Bd.returns] at h; cases h)
 refine Go.fin (retOut X9 hx Bd.returns rfl (Or.inl ⟨rfl, Or.inl rfl, _, rfl⟩) (hb hby d20_59) hr) hrun hended ⟨_, _, rfl, ?_, ⟨_, rfl⟩, hW, hsame.mono (by decide) (by decide)⟩
 show Q20_1 Z a1 w_rel w_pos w_sl w_nx k_p k_s k_n w_v k_v ln v0 h0 n0 _ T9.heap _
 rw [e9]
 exact ⟨rfl, N9, rfl⟩
theorem d19_0 : decode cB19 0 = .ok (.aload_n 0, 1) := by decide +kernel
theorem d19_1 : decode cB19 1 = .ok (.iload_n 1, 1) := by decide +kernel
theorem d19_2 : decode cB19 2 = .ok (.invokevirtual 45, 3) := by decide +kernel
theorem wd119 {Z a0} (hw : HW a0 Z) : (Jvm.Cond.methodLink IC (45 : Nat) ⟨IC, "hash", "(I)I"⟩).before a0 Z = true := mw hw 119 rfl
theorem wd122 {Z a0} (hw : HW a0 Z) : (Jvm.Cond.code ⟨IC, "hash", "(I)I"⟩ cB20 (7 : Nat) (Option.some Jvm.ClassFile.FieldType.int)).before a0 Z = true := mw hw 122 rfl
theorem wd120 {Z a0} (hw : HW a0 Z) : (Jvm.Cond.instanceMethod ⟨IC, "hash", "(I)I"⟩).before a0 Z = true := mw hw 120 rfl
theorem wd121 {Z a0} (hw : HW a0 Z) : (Jvm.Cond.privateMethod ⟨IC, "hash", "(I)I"⟩).before a0 Z = true := mw hw 121 rfl
theorem d19_5 : decode cB19 5 = .ok (.istore_n 2, 1) := by decide +kernel
theorem d19_6 : decode cB19 6 = .ok (.aload_n 0, 1) := by decide +kernel
theorem d19_7 : decode cB19 7 = .ok (.iload_n 1, 1) := by decide +kernel
theorem d19_8 : decode cB19 8 = .ok (.iload_n 2, 1) := by decide +kernel
theorem d19_9 : decode cB19 9 = .ok (.invokevirtual 48, 3) := by decide +kernel
theorem wd129 {Z a0} (hw : HW a0 Z) : (Jvm.Cond.methodLink IC (48 : Nat) ⟨IC, "probe", "(II)I"⟩).before a0 Z = true := mw hw 129 rfl
theorem wd132 {Z a0} (hw : HW a0 Z) : (Jvm.Cond.code ⟨IC, "probe", "(II)I"⟩ cB22 (4 : Nat) (Option.some Jvm.ClassFile.FieldType.int)).before a0 Z = true := mw hw 132 rfl
theorem wd130 {Z a0} (hw : HW a0 Z) : (Jvm.Cond.instanceMethod ⟨IC, "probe", "(II)I"⟩).before a0 Z = true := mw hw 130 rfl
theorem wd131 {Z a0} (hw : HW a0 Z) : (Jvm.Cond.privateMethod ⟨IC, "probe", "(II)I"⟩).before a0 Z = true := mw hw 131 rfl
theorem d19_12 : decode cB19 12 = .ok (.istore_n 3, 1) := by decide +kernel
theorem d19_13 : decode cB19 13 = .ok (.aload_n 0, 1) := by decide +kernel
theorem d19_14 : decode cB19 14 = .ok (.getfield 29, 3) := by decide +kernel
theorem d19_17 : decode cB19 17 = .ok (.iload_n 3, 1) := by decide +kernel
theorem d19_18 : decode cB19 18 = .ok (.iconst 0, 1) := by decide +kernel
theorem d19_19 : decode cB19 19 = .ok (.iadd, 1) := by decide +kernel
theorem d19_20 : decode cB19 20 = .ok (.iaload, 1) := by decide +kernel
theorem d19_21 : decode cB19 21 = .ok (.ifCond .eq 5, 3) := by decide +kernel
theorem d19_26 : decode cB19 26 = .ok (.aload_n 0, 1) := by decide +kernel
theorem d19_27 : decode cB19 27 = .ok (.iload_n 3, 1) := by decide +kernel
theorem d19_28 : decode cB19 28 = .ok (.iload_n 1, 1) := by decide +kernel
theorem d19_29 : decode cB19 29 = .ok (.iload_n 2, 1) := by decide +kernel
theorem d19_30 : decode cB19 30 = .ok (.invokevirtual 51, 3) := by decide +kernel
theorem wd141 {Z a0} (hw : HW a0 Z) : (Jvm.Cond.methodLink IC (51 : Nat) ⟨IC, "take", "(III)V"⟩).before a0 Z = true := mw hw 141 rfl
theorem wd144 {Z a0} (hw : HW a0 Z) : (Jvm.Cond.code ⟨IC, "take", "(III)V"⟩ cB24 (4 : Nat) (Option.none : Option Jvm.ClassFile.FieldType)).before a0 Z = true := mw hw 144 rfl
theorem pd3 : parseMethodDescriptor "(III)V" = some ⟨[.int, .int, .int], none⟩ := by decide +kernel
theorem wd142 {Z a0} (hw : HW a0 Z) : (Jvm.Cond.instanceMethod ⟨IC, "take", "(III)V"⟩).before a0 Z = true := mw hw 142 rfl
theorem wd143 {Z a0} (hw : HW a0 Z) : (Jvm.Cond.privateMethod ⟨IC, "take", "(III)V"⟩).before a0 Z = true := mw hw 143 rfl
theorem d19_33 : decode cB19 33 = .ok (.iconst 1, 1) := by decide +kernel
theorem d19_34 : decode cB19 34 = .ok (.ireturn, 1) := by decide +kernel
def Q19_1 (Z : State) (a1 : Addr) (w_rel : Addr) (w_pos : Addr) (w_sl : Addr) (w_nx : Addr) (k_p : ClassId) (k_s : ClassId) (k_n : ClassId) (w_v : Addr) (k_v : ClassId) (ln : Int32) (v0 : Int32) (h0 : Heap) (n0 : Nat) (v : Option Value) (h : Heap) (L : List Loc) : Prop := v = some (.int (1 : Int32)) ∧ Fr n0 L ∧ Keep h0 h [a1, w_sl, w_nx]
theorem ef19_1 (m : MethodId) (x0 : Addr) : entryFrame m #[(.ref x0), (.int (0 : Int32))] 4 = mkF m 0 #[.val (.ref x0), .val (.int (0 : Int32)), .unset, .unset] [] := by first | (simp [entryFrame, mkF, argsToLocals, Value.category]; done) | rfl
theorem rm19_1 (l : Launch) (Z : State) (a0 : Array Value) (hw : HW a0 Z) (ws : List Jvm.Cond) (a1 : Addr) (w_rel : Addr) (w_pos : Addr) (w_sl : Addr) (w_nx : Addr) (k_p : ClassId) (k_s : ClassId) (k_n : ClassId) (w_v : Addr) (k_v : ClassId) (ln : Int32) (v0 : Int32) (h0 : Heap) (n0 : Nat) (Z0 : n0 ≤ h0.size) (E_a1 : Exa Z h0 a1 IC) (F_a1_p : Fld Z h0 a1 IC "positions" "[I" (.ref w_pos)) (F_a1_l : Fld Z h0 a1 IC "slots" "[I" (.ref w_sl)) (F_a1_next : Fld Z h0 a1 IC "next" "[I" (.ref w_nx)) (F_a1_keys : Fld Z h0 a1 IC "keys" "I" (.int (0 : Int32))) (V_pos : Arv Z h0 w_pos k_p .int (1 : Int32) [(.int (0 : Int32))] (.int (0 : Int32))) (V_sl : Arh Z h0 w_sl k_s .int (128 : Int32) [] [] (.int (0 : Int32))) (V_nx : Arv Z h0 w_nx k_n .int (16 : Int32) [] (.int (0 : Int32))) (F_a1_this_0 : Fld Z h0 a1 IC "this$0" RL (.ref w_rel)) (V_v : Arv Z h0 w_v k_v .int ln [(.int v0)] (.int (0 : Int32))) (F_w_rel_v : Fld Z h0 w_rel RC "values" "[I" (.ref w_v)) (F_w_rel_a : Fld Z h0 w_rel RC "arity" "I" (.int (1 : Int32))) (hln : ¬ ln < (4 : Int32)) (ne_w_pos_a1 : w_pos ≠ a1) (ne_w_sl_a1 : w_sl ≠ a1) (ne_w_sl_w_pos : w_sl ≠ w_pos) (ne_w_nx_a1 : w_nx ≠ a1) (ne_w_nx_w_pos : w_nx ≠ w_pos) (ne_w_nx_w_sl : w_nx ≠ w_sl) (ne_w_rel_a1 : w_rel ≠ a1) (ne_w_rel_w_pos : w_rel ≠ w_pos) (ne_w_rel_w_sl : w_rel ≠ w_sl) (ne_w_rel_w_nx : w_rel ≠ w_nx) (ne_w_v_a1 : w_v ≠ a1) (ne_w_v_w_pos : w_v ≠ w_pos) (ne_w_v_w_sl : w_v ≠ w_sl) (ne_w_v_w_nx : w_v ≠ w_nx) (ne_w_v_w_rel : w_v ≠ w_rel) (g_w_nx : n0 ≤ w_nx) (g_w_sl : n0 ≤ w_sl) (g_a1 : n0 ≤ a1) :
  MetFree l (⟨IC, "insertNew", "(I)Z"⟩ : MethodName) (head1 (Jvm.Cond.code (⟨IC, "insertNew", "(I)Z"⟩ : MethodName) cB19 4 (some .boolean) :: ws) (Rm 2 0 0 31)) (Pr Z h0 #[(.ref a1), (.int (0 : Int32))]) Tr (fun _ U o U' => ∃ v L, o = .returned v ∧ Q19_1 Z a1 w_rel w_pos w_sl w_nx k_p k_s k_n w_v k_v ln v0 h0 n0 v U'.heap L ∧ FrameEnd U o U' L (Rm 2 0 0 31).cells (Rm 2 0 0 31).slots) := by
 refine MetFree.of_bodySF (plainFor_of_name pn1) hisR ?_
 intro p e s m args below meth c s₁ Bd hml0 hP hK
 obtain ⟨rfl, hZ, hh⟩ := hP
 have hx := Bd.exec
 have hby := Bd.bytes
 have hml : c.maxLocals = 4 := hml0
 have hown : s.vm.findClass IC = some m.cls := findClass_of_methodNamed Bd.named
 have hnm := (name_of_methodNamed Bd.named Bd.method).1
 have X0 : Stand p l e (Rm 2 0 0 31) s m #[(.ref a1), (.int (0 : Int32))] below meth c s₁ [] 0 0 := Stand.of_body Bd
 have e0 : s₁.heap = h0 := by rw [← hh, Bd.state]; rfl
 have N0 := Fr.nil n0
 have K0 : Keep h0 h0 [a1, w_sl, w_nx] := Keep.refl h0 _
 refine G (P := fun o U' => ∃ v L, o = .returned v ∧ Q19_1 Z a1 w_rel w_pos w_sl w_nx k_p k_s k_n w_v k_v ln v0 h0 n0 v U'.heap L ∧ FrameEnd s o U' L (Rm 2 0 0 31).cells (Rm 2 0 0 31).slots) (fun t k => castTop (ef19_1 m a1) k) ?_
 show Go _ _ _ (s₁.setTop (mkF m 0 #[vr a1, vi 0, us, us] [])) _
 refine G (fun t k => XS.aloadN X0.here hx rfl (hb hby d19_0) rfl rfl (XS.iloadN X0.here hx rfl (hb hby d19_1) rfl k)) ?_
 obtain ⟨cq1, qq1, qq1'⟩ := E_a1.cell
 obtain ⟨_, _, ⟨T1, L1, k1, n1⟩, -, X1, ⟨Lc1, hQ1, l1, y1, z1⟩, st1⟩ := X0.privateBack hx (y := (⟨IC, "hash", "(I)I"⟩ : MethodName)) hown (mvT hZ (wd119 hw)) (mvT hZ (wd120 hw)) (own_selp (mvT hZ (wd84 hw)) (Cond.privateMethod_at (mvP hZ (wd121 hw) (args := #[]))) (mvT hZ (wd120 hw)) (by decide)) (Cond.privateMethod_at (mvP hZ (wd121 hw) (args := #[]))) (mvT hZ (wd122 hw)) (by decide) (backOf (W := 0) (rm20_1 l Z a0 hw [] a1 w_rel w_pos w_sl w_nx k_p k_s k_n w_v k_v ln v0 h0 n0 Z0 E_a1 F_a1_p F_a1_l F_a1_next F_a1_keys V_pos V_sl V_nx F_a1_this_0 V_v F_w_rel_v F_w_rel_a (by first | assumption | decide | omega) ne_w_pos_a1 ne_w_sl_a1 ne_w_sl_w_pos ne_w_nx_a1 ne_w_nx_w_pos ne_w_nx_w_sl ne_w_rel_a1 ne_w_rel_w_pos ne_w_rel_w_sl ne_w_rel_w_nx ne_w_v_a1 ne_w_v_w_pos ne_w_v_w_sl ne_w_v_w_nx ne_w_v_w_rel) hZ (wd122 hw) (wd85 hw) (by decide) (by decide)) (g := (mkF m 2 #[vr a1, vi 0, us, us] [(.int 0), (.ref a1)])) rfl (by rw [hml]; rfl) (Steps.refl _) (a := a1) (by rw [e0]; exact qq1) qq1' (argsL := [(.int (0 : Int32))]) (rest := []) (lenOf pd0 rfl) rfl (by show 2 * 0 + _ ≤ _; exact Nat.le_of_eq rfl) (hb hby d19_2) (fun _ _ => ⟨rfl, e0, (by decide : 0 + 0 ≤ _), (by decide : 0 + 0 ≤ _)⟩)
 dsimp only [Pt.U, Pt.locs, Pt.cells, Pt.slots] at X1 l1 y1 z1 st1 hQ1
 subst l1 y1 z1
 refine Go.tr st1 ?_
 obtain ⟨rfl, N1q, e1⟩ := hQ1
 have N1 := Fr.app N0 N1q
 refine G (fun t k => XS.istoreN X1.here hx rfl (hb hby d19_5) rfl (l' := #[vr a1, vi 0, vi (f20_1 v0), us]) rfl (XS.aloadN X1.here hx rfl (hb hby d19_6) rfl rfl (XS.iloadN X1.here hx rfl (hb hby d19_7) rfl (XS.iloadN X1.here hx rfl (hb hby d19_8) rfl k)))) ?_
 show Go _ _ _ (T1.setTop (mkF m 9 #[vr a1, vi 0, vi (f20_1 v0), us] [(.int (f20_1 v0)), (.int 0), (.ref a1)])) _
 obtain ⟨cq2, qq2, qq2'⟩ := E_a1.cell
 obtain ⟨_, _, ⟨T2, L2, k2, n2⟩, -, X2, ⟨Lc2, hQ2, l2, y2, z2⟩, st2⟩ := X1.privateBack hx (y := (⟨IC, "probe", "(II)I"⟩ : MethodName)) hown (mvT hZ (wd129 hw)) (mvT hZ (wd130 hw)) (own_selp (mvT hZ (wd84 hw)) (Cond.privateMethod_at (mvP hZ (wd131 hw) (args := #[]))) (mvT hZ (wd130 hw)) (by decide)) (Cond.privateMethod_at (mvP hZ (wd131 hw) (args := #[]))) (mvT hZ (wd132 hw)) (by decide) (backOf (W := 0) (rm22 l Z a0 hw [] a1 (f20_1 v0) w_sl w_nx k_s k_n h0 n0 Z0 E_a1 F_a1_l F_a1_next F_a1_keys V_sl V_nx ne_w_sl_a1 ne_w_nx_a1 ne_w_nx_w_sl) hZ (wd132 hw) (wd85 hw) (by decide) (by decide)) (g := (mkF m 9 #[vr a1, vi 0, vi (f20_1 v0), us] [(.int (f20_1 v0)), (.int 0), (.ref a1)])) rfl (by rw [hml]; rfl) (Steps.refl _) (a := a1) (by rw [e1]; exact qq2) qq2' (argsL := [(.int (0 : Int32)), (.int (f20_1 v0))]) (rest := []) (lenOf pd2 rfl) rfl (by show 2 * 0 + _ ≤ _; exact Nat.le_of_eq rfl) (hb hby d19_9) (fun _ _ => ⟨rfl, e1, (by decide : 0 + 0 ≤ _), (by decide : 0 + 0 ≤ _)⟩)
 dsimp only [Pt.U, Pt.locs, Pt.cells, Pt.slots] at X2 l2 y2 z2 st2 hQ2
 subst l2 y2 z2
 refine Go.tr st2 ?_
 obtain ⟨rfl, N2q, e2⟩ := hQ2
 have N2 := Fr.app N1 N2q
 refine G (fun t k => XS.istoreN X2.here hx rfl (hb hby d19_12) rfl (l' := #[vr a1, vi 0, vi (f20_1 v0), vi (f23 (f20_1 v0))]) rfl (XS.aloadN X2.here hx rfl (hb hby d19_13) rfl rfl k)) ?_
 obtain ⟨T3, X3, e3, st3⟩ := getF X2 hx hZ hown (host := "") (Or.inl (wd109 hw)) Via.refl e2 F_a1_l (g := (mkF m 14 #[vr a1, vi 0, vi (f20_1 v0), vi (f23 (f20_1 v0))] [(.ref a1)])) rfl rfl (hb hby d19_14)
 refine G st3 ?_
 refine G (fun t k => XS.iloadN X3.here hx rfl (hb hby d19_17) rfl (XS.iconst X3.here hx rfl (hb hby d19_18) (XS.iadd X3.here hx rfl (hb hby d19_19) rfl k))) ?_
 show Go _ _ _ (T3.setTop (mkF m 20 #[vr a1, vi 0, vi (f20_1 v0), vi (f23 (f20_1 v0))] [(.int ((f23 (f20_1 v0)) + (0 : Int32))), (.ref w_sl)])) _
 obtain ⟨cl5, Ar5, -, Sz5, Ng5, Hs5, -⟩ := id V_sl
 have hin5 : ¬ (((f23 (f20_1 v0)) + (0 : Int32)) < 0 ∨ cl5.slots.size ≤ (((f23 (f20_1 v0)) + (0 : Int32))).toNatClampNeg) := inb_of Sz5 (own_sl (f23 (f20_1 v0)) 0 0 rfl (by decide) (own_st _))
 refine G (fun t k => X3.iaload hx (j := ((f23 (f20_1 v0)) + (0 : Int32))) (v := (.int (0 : Int32))) (by rw [e3]; exact Ar5.1) (State.isArrayOf_alike hZ.alike Ar5.2.1) Ar5.2.2 hin5 (atH Hs5 hin5 rfl) (g := (mkF m 20 #[vr a1, vi 0, vi (f20_1 v0), vi (f23 (f20_1 v0))] [(.int ((f23 (f20_1 v0)) + (0 : Int32))), (.ref w_sl)])) rfl rfl (hb hby d19_20) _ k) ?_
 show Go _ _ _ (T3.setTop (mkF m 21 #[vr a1, vi 0, vi (f20_1 v0), vi (f23 (f20_1 v0))] [(.int 0)])) _
 refine G (fun t k => XS.ifYes X3.here hx rfl (pc0 := 21) (pc' := 26) rfl (hb hby d19_21) rfl ((if0 _ _).trans (teq (by decide : (0 : Int32) = (0 : Int32))).1) (by decide) (by decide) (XS.aloadN X3.here hx rfl (hb hby d19_26) rfl rfl (XS.iloadN X3.here hx rfl (hb hby d19_27) rfl (XS.iloadN X3.here hx rfl (hb hby d19_28) rfl (XS.iloadN X3.here hx rfl (hb hby d19_29) rfl k))))) ?_
 obtain ⟨cq6, qq6, qq6'⟩ := E_a1.cell
 obtain ⟨_, _, ⟨T6, L6, k6, n6⟩, -, X6, ⟨Lc6, hQ6, l6, y6, z6⟩, st6⟩ := X3.privateBack hx (y := (⟨IC, "take", "(III)V"⟩ : MethodName)) hown (mvT hZ (wd141 hw)) (mvT hZ (wd142 hw)) (own_selp (mvT hZ (wd84 hw)) (Cond.privateMethod_at (mvP hZ (wd143 hw) (args := #[]))) (mvT hZ (wd142 hw)) (by decide)) (Cond.privateMethod_at (mvP hZ (wd143 hw) (args := #[]))) (mvT hZ (wd144 hw)) (by decide) (backOf (W := 0) (rm24 l Z a0 hw [] a1 (f23 (f20_1 v0)) (f20_1 v0) w_sl w_nx k_s k_n h0 n0 Z0 E_a1 F_a1_l F_a1_next F_a1_keys V_sl V_nx ne_w_sl_a1 ne_w_nx_a1 ne_w_nx_w_sl (own_st _) g_w_nx g_w_sl g_a1) hZ (wd144 hw) (wd85 hw) (by decide) (by decide)) (g := (mkF m 30 #[vr a1, vi 0, vi (f20_1 v0), vi (f23 (f20_1 v0))] [(.int (f20_1 v0)), (.int 0), (.int (f23 (f20_1 v0))), (.ref a1)])) rfl (by rw [hml]; rfl) (Steps.refl _) (a := a1) (by rw [e3]; exact qq6) qq6' (argsL := [(.int (f23 (f20_1 v0))), (.int (0 : Int32)), (.int (f20_1 v0))]) (rest := []) (lenOf pd3 rfl) rfl (by show 2 * 0 + _ ≤ _; exact Nat.le_of_eq rfl) (hb hby d19_30) (fun _ _ => ⟨rfl, e3, (by decide : 0 + 0 ≤ _), (by decide : 0 + 0 ≤ _)⟩)
 dsimp only [Pt.U, Pt.locs, Pt.cells, Pt.slots] at X6 l6 y6 z6 st6 hQ6
 subst l6 y6 z6
 refine Go.tr st6 ?_
 have E_a1_pre := E_a1
 have F_a1_positions_pre := F_a1_p
 have F_a1_slots_pre := F_a1_l
 have F_a1_next_pre := F_a1_next
 have F_a1_keys_pre := F_a1_keys
 have V_sl_pre := V_sl
 have V_nx_pre := V_nx
 have F_a1_this_0_pre := F_a1_this_0
 obtain ⟨h6, e6⟩ : ∃ z, T6.heap = z := ⟨_, rfl⟩
 rw [e6] at hQ6
 obtain ⟨rfl, N6q, K6, Q6_0, Q6_1, Q6_2, Q6_3, Q6_4, Q6_5⟩ := hQ6
 replace E_a1 := E_a1.keep K6
 replace V_pos := V_pos.keep K6 (ninS (Ne.symm ne_w_nx_w_pos) (ninS (Ne.symm ne_w_sl_w_pos) (ninS ne_w_pos_a1 nin0)))
 replace V_v := V_v.keep K6 (ninS ne_w_v_w_nx (ninS ne_w_v_w_sl (ninS ne_w_v_a1 nin0)))
 replace F_w_rel_v := F_w_rel_v.keep K6 (ninS ne_w_rel_w_nx (ninS ne_w_rel_w_sl (ninS ne_w_rel_a1 nin0)))
 replace F_w_rel_a := F_w_rel_a.keep K6 (ninS ne_w_rel_w_nx (ninS ne_w_rel_w_sl (ninS ne_w_rel_a1 nin0)))
 replace Z0 := Nat.le_trans Z0 K6.1
 replace K0 := K0.trans K6 (allS (Or.inl (by simp)) (allS (Or.inl (by simp)) (allS (Or.inl (by simp)) all0)))
 have E_a1 := Q6_0
 have F_a1_l := Q6_1
 have F_a1_next := Q6_2
 have F_a1_keys := Q6_3
 have V_w_sl := Q6_4
 have V_w_nx := Q6_5
 have N6 := Fr.app N2 N6q
 refine G (fun t k => XS.iconst X6.here hx rfl (hb hby d19_33) k) ?_
 show Go _ _ _ (T6.setTop (mkF m 34 #[vr a1, vi 0, vi (f20_1 v0), vi (f23 (f20_1 v0))] [(.int 1)])) _
 obtain ⟨fs, hr, hrun, hended, hW, hsame⟩ := X6.leave (v := some (.int (1 : Int32))) (fun h => by rw [Bd.returns] at h; cases h)
 refine Go.fin (retN X6 hx (t := .boolean) Bd.returns (by simp) (hb hby d19_34) hr) hrun hended ⟨_, _, rfl, ?_, ⟨_, rfl⟩, hW, hsame.mono (by decide) (by decide)⟩
 show Q19_1 Z a1 w_rel w_pos w_sl w_nx k_p k_s k_n w_v k_v ln v0 h0 n0 _ T6.heap _
 rw [e6]
 exact ⟨rfl, N6, K0⟩
theorem d11_0 : decode cB11 0 = .ok (.iconst 0, 1) := by decide +kernel
theorem d11_1 : decode cB11 1 = .ok (.istore_n 3, 1) := by decide +kernel
theorem d11_2 : decode cB11 2 = .ok (.iload_n 3, 1) := by decide +kernel
theorem d11_3 : decode cB11 3 = .ok (.aload_n 0, 1) := by decide +kernel
theorem d11_4 : decode cB11 4 = .ok (.getfield 18, 3) := by decide +kernel
theorem d11_7 : decode cB11 7 = .ok (.if_icmp .ge 30, 3) := by decide +kernel
theorem d11_10 : decode cB11 10 = .ok (.aload_n 0, 1) := by decide +kernel
theorem d11_11 : decode cB11 11 = .ok (.getfield 22, 3) := by decide +kernel
theorem d11_14 : decode cB11 14 = .ok (.iload_n 1, 1) := by decide +kernel
theorem d11_15 : decode cB11 15 = .ok (.aload_n 0, 1) := by decide +kernel
theorem d11_16 : decode cB11 16 = .ok (.getfield 18, 3) := by decide +kernel
theorem d11_19 : decode cB11 19 = .ok (.imul, 1) := by decide +kernel
theorem d11_20 : decode cB11 20 = .ok (.iload_n 3, 1) := by decide +kernel
theorem d11_21 : decode cB11 21 = .ok (.iadd, 1) := by decide +kernel
theorem d11_22 : decode cB11 22 = .ok (.iaload, 1) := by decide +kernel
theorem d11_23 : decode cB11 23 = .ok (.aload_n 2, 1) := by decide +kernel
theorem d11_24 : decode cB11 24 = .ok (.iload_n 3, 1) := by decide +kernel
theorem d11_25 : decode cB11 25 = .ok (.iaload, 1) := by decide +kernel
theorem d11_26 : decode cB11 26 = .ok (.if_icmp .eq 5, 3) := by decide +kernel
theorem d11_31 : decode cB11 31 = .ok (.iinc 3 1, 3) := by decide +kernel
theorem d11_34 : decode cB11 34 = .ok (.goto (-32), 3) := by decide +kernel
theorem d11_37 : decode cB11 37 = .ok (.iconst 1, 1) := by decide +kernel
theorem d11_38 : decode cB11 38 = .ok (.ireturn, 1) := by decide +kernel
theorem d11_29 : decode cB11 29 = .ok (.iconst 0, 1) := by decide +kernel
theorem d11_30 : decode cB11 30 = .ok (.ireturn, 1) := by decide +kernel
def f11_1 (v0 : Int32) (x0 : Int32) : Int32 := (if v0 = x0 then (1 : Int32) else (0 : Int32))
def Q11_1 (Z : State) (a1 : Addr) (a3 : Addr) (w_v : Addr) (k_v : ClassId) (ln : Int32) (v0 : Int32) (w_NI : Addr) (k_NI : ClassId) (hAny : Int32) (k_x : ClassId) (x0 : Int32) (h0 : Heap) (n0 : Nat) (v : Option Value) (h : Heap) (L : List Loc) : Prop := v = some (.int (f11_1 v0 x0)) ∧ Fr n0 L ∧ h = h0
theorem ef11_1 (m : MethodId) (x0 : Addr) (x2 : Addr) : entryFrame m #[(.ref x0), (.int (0 : Int32)), (.ref x2)] 4 = mkF m 0 #[.val (.ref x0), .val (.int (0 : Int32)), .val (.ref x2), .unset] [] := by first | (simp [entryFrame, mkF, argsToLocals, Value.category]; done) | rfl
theorem rm11_1 (l : Launch) (Z : State) (a0 : Array Value) (hw : HW a0 Z) (ws : List Jvm.Cond) (a1 : Addr) (a3 : Addr) (w_v : Addr) (k_v : ClassId) (ln : Int32) (v0 : Int32) (w_NI : Addr) (k_NI : ClassId) (hAny : Int32) (k_x : ClassId) (x0 : Int32) (h0 : Heap) (n0 : Nat) (Z0 : n0 ≤ h0.size) (E_a1 : Exa Z h0 a1 RC) (V_v : Arv Z h0 w_v k_v .int ln [(.int v0)] (.int (0 : Int32))) (V_NI : Arv Z h0 w_NI k_NI (.object IC) (0 : Int32) [] .null) (F_a1_a : Fld Z h0 a1 RC "arity" "I" (.int (1 : Int32))) (F_a1_v : Fld Z h0 a1 RC "values" "[I" (.ref w_v)) (F_a1_s : Fld Z h0 a1 RC "size" "I" (.int (1 : Int32))) (F_a1_m : Fld Z h0 a1 RC "members" RI .null) (F_a1_i : Fld Z h0 a1 RC "indexes" RJ (.ref w_NI)) (F_a1_h : Fld Z h0 a1 RC "holdingAny" "I" (.int hAny)) (V_row : Arv Z h0 a3 k_x .int (1 : Int32) [(.int x0)] (.int (0 : Int32))) (hln : ¬ ln < (4 : Int32)) (ne_w_v_a1 : w_v ≠ a1) (ne_w_NI_a1 : w_NI ≠ a1) (ne_w_NI_w_v : w_NI ≠ w_v) (ne_a3_a1 : a3 ≠ a1) (ne_a3_w_v : a3 ≠ w_v) (ne_a3_w_NI : a3 ≠ w_NI) :
  MetFree l (⟨RC, "rowIs", "(I[I)Z"⟩ : MethodName) (head1 (Jvm.Cond.code (⟨RC, "rowIs", "(I[I)Z"⟩ : MethodName) cB11 4 (some .boolean) :: ws) (Rm 0 0 0 0)) (Pr Z h0 #[(.ref a1), (.int (0 : Int32)), (.ref a3)]) Tr (fun _ U o U' => ∃ v L, o = .returned v ∧ Q11_1 Z a1 a3 w_v k_v ln v0 w_NI k_NI hAny k_x x0 h0 n0 v U'.heap L ∧ FrameEnd U o U' L (Rm 0 0 0 0).cells (Rm 0 0 0 0).slots) := by
 refine MetFree.of_bodySF (plainFor_of_name pn0) hisR ?_
 intro p e s m args below meth c s₁ Bd hml0 hP hK
 obtain ⟨rfl, hZ, hh⟩ := hP
 have hx := Bd.exec
 have hby := Bd.bytes
 have hml : c.maxLocals = 4 := hml0
 have hown : s.vm.findClass RC = some m.cls := findClass_of_methodNamed Bd.named
 have hnm := (name_of_methodNamed Bd.named Bd.method).1
 have X0 : Stand p l e (Rm 0 0 0 0) s m #[(.ref a1), (.int (0 : Int32)), (.ref a3)] below meth c s₁ [] 0 0 := Stand.of_body Bd
 have e0 : s₁.heap = h0 := by rw [← hh, Bd.state]; rfl
 have N0 := Fr.nil n0
 have K0 : Keep h0 h0 [] := Keep.refl h0 _
 refine G (P := fun o U' => ∃ v L, o = .returned v ∧ Q11_1 Z a1 a3 w_v k_v ln v0 w_NI k_NI hAny k_x x0 h0 n0 v U'.heap L ∧ FrameEnd s o U' L (Rm 0 0 0 0).cells (Rm 0 0 0 0).slots) (fun t k => castTop (ef11_1 m a1 a3) k) ?_
 show Go _ _ _ (s₁.setTop (mkF m 0 #[vr a1, vi 0, vr a3, us] [])) _
 refine G (fun t k => XS.iconst X0.here hx rfl (hb hby d11_0) (XS.istoreN X0.here hx rfl (hb hby d11_1) rfl (l' := #[vr a1, vi 0, vr a3, vi 0]) rfl (XS.iloadN X0.here hx rfl (hb hby d11_2) rfl (XS.aloadN X0.here hx rfl (hb hby d11_3) rfl rfl k)))) ?_
 obtain ⟨T1, X1, e1, st1⟩ := getF X0 hx hZ hown (host := "") (Or.inl (wd19 hw)) Via.refl e0 F_a1_a (g := (mkF m 4 #[vr a1, vi 0, vr a3, vi 0] [(.ref a1), (.int 0)])) rfl rfl (hb hby d11_4)
 refine G st1 ?_
 refine G (fun t k => XS.icmpNo X1.here hx rfl (hb hby d11_7) rfl (tlt (by decide : (0 : Int32) < (1 : Int32))).2.1 (XS.aloadN X1.here hx rfl (hb hby d11_10) rfl rfl k)) ?_
 show Go _ _ _ (T1.setTop (mkF m 11 #[vr a1, vi 0, vr a3, vi 0] [(.ref a1)])) _
 obtain ⟨T2, X2, e2, st2⟩ := getF X1 hx hZ hown (host := "") (Or.inl (wd21 hw)) Via.refl e1 F_a1_v (g := (mkF m 11 #[vr a1, vi 0, vr a3, vi 0] [(.ref a1)])) rfl rfl (hb hby d11_11)
 refine G st2 ?_
 refine G (fun t k => XS.iloadN X2.here hx rfl (hb hby d11_14) rfl (XS.aloadN X2.here hx rfl (hb hby d11_15) rfl rfl k)) ?_
 obtain ⟨T3, X3, e3, st3⟩ := getF X2 hx hZ hown (host := "") (Or.inl (wd19 hw)) Via.refl e2 F_a1_a (g := (mkF m 16 #[vr a1, vi 0, vr a3, vi 0] [(.ref a1), (.int 0), (.ref w_v)])) rfl rfl (hb hby d11_16)
 refine G st3 ?_
 refine G (fun t k => XS.imul X3.here hx rfl (hb hby d11_19) rfl (XS.iloadN X3.here hx rfl (hb hby d11_20) rfl (XS.iadd X3.here hx rfl (hb hby d11_21) rfl k))) ?_
 show Go _ _ _ (T3.setTop (mkF m 22 #[vr a1, vi 0, vr a3, vi 0] [(.int 0), (.ref w_v)])) _
 obtain ⟨cl4, Ar4, -, Sz4, Ng4, Hs4, -⟩ := id V_v
 have hin4 : ¬ ((0 : Int32) < 0 ∨ cl4.slots.size ≤ ((0 : Int32)).toNatClampNeg) := inb_of Sz4 ⟨by decide, (own_ltl (0 : Int32) (4 : Int32) _ (by decide) hln)⟩
 refine G (fun t k => X3.iaload hx (j := (0 : Int32)) (v := (.int v0)) (by rw [e3]; exact Ar4.1) (State.isArrayOf_alike hZ.alike Ar4.2.1) Ar4.2.2 hin4 (Has.at Hs4 hin4 rfl) (g := (mkF m 22 #[vr a1, vi 0, vr a3, vi 0] [(.int 0), (.ref w_v)])) rfl rfl (hb hby d11_22) _ (XS.aloadN X3.here hx rfl (hb hby d11_23) rfl rfl (XS.iloadN X3.here hx rfl (hb hby d11_24) rfl k))) ?_
 obtain ⟨cl5, Ar5, -, Sz5, Ng5, Hs5, -⟩ := id V_row
 have hin5 : ¬ ((0 : Int32) < 0 ∨ cl5.slots.size ≤ ((0 : Int32)).toNatClampNeg) := inb_of Sz5 ⟨by decide, by decide⟩
 refine G (fun t k => X3.iaload hx (j := (0 : Int32)) (v := (.int x0)) (by rw [e3]; exact Ar5.1) (State.isArrayOf_alike hZ.alike Ar5.2.1) Ar5.2.2 hin5 (Has.at Hs5 hin5 rfl) (g := (mkF m 25 #[vr a1, vi 0, vr a3, vi 0] [(.int 0), (.ref a3), (.int v0)])) rfl rfl (hb hby d11_25) _ k) ?_
 by_cases hc6 : v0 = x0
 ·refine G (fun t k => XS.icmpYes X3.here hx rfl (pc0 := 26) (pc' := 31) rfl (hb hby d11_26) rfl (teq hc6).1 (by decide) (by decide) (XS.iinc X3.here hx rfl (hb hby d11_31) rfl (l' := #[.val (.ref a1), .val (.int (0 : Int32)), .val (.ref a3), .val (.int ((0 : Int32) + (1 : Int32)))]) rfl (XS.goto X3.here hx rfl (pc0 := 34) (pc' := 2) rfl (hb hby d11_34) (by decide) (by decide) k))) ?_
  show Go _ _ _ (T3.setTop (mkF m 2 #[vr a1, vi 0, vr a3, vi 1] [])) _
  refine G (fun t k => XS.iloadN X3.here hx rfl (hb hby d11_2) rfl (XS.aloadN X3.here hx rfl (hb hby d11_3) rfl rfl k)) ?_
  obtain ⟨T7, X7, e7, st7⟩ := getF X3 hx hZ hown (host := "") (Or.inl (wd19 hw)) Via.refl e3 F_a1_a (g := (mkF m 4 #[vr a1, vi 0, vr a3, vi 1] [(.ref a1), (.int 1)])) rfl rfl (hb hby d11_4)
  refine G st7 ?_
  refine G (fun t k => XS.icmpYes X7.here hx rfl (pc0 := 7) (pc' := 37) rfl (hb hby d11_7) rfl (flt (by decide : ¬ ((1 : Int32) < (1 : Int32)))).2.1 (by decide) (by decide) (XS.iconst X7.here hx rfl (hb hby d11_37) k)) ?_
  obtain ⟨fs, hr, hrun, hended, hW, hsame⟩ := X7.leave (v := some (.int (1 : Int32))) (fun h => by rw [Bd.returns] at h; cases h)
  refine Go.fin (retN X7 hx (t := .boolean) Bd.returns (by simp) (hb hby d11_38) hr) hrun hended ⟨_, _, rfl, ?_, ⟨_, rfl⟩, hW, hsame.mono (by decide) (by decide)⟩
  show Q11_1 Z a1 a3 w_v k_v ln v0 w_NI k_NI hAny k_x x0 h0 n0 _ T7.heap _
  rw [e7]
  exact ⟨(by unfold f11_1; simp only [if_pos hc6]), N0, rfl⟩
 ·refine G (fun t k => XS.icmpNo X3.here hx rfl (hb hby d11_26) rfl (feq hc6).1 (XS.iconst X3.here hx rfl (hb hby d11_29) k)) ?_
  obtain ⟨fs, hr, hrun, hended, hW, hsame⟩ := X3.leave (v := some (.int (0 : Int32))) (fun h => by rw [Bd.returns] at h; cases h)
  refine Go.fin (retN X3 hx (t := .boolean) Bd.returns (by simp) (hb hby d11_30) hr) hrun hended ⟨_, _, rfl, ?_, ⟨_, rfl⟩, hW, hsame.mono (by decide) (by decide)⟩
  show Q11_1 Z a1 a3 w_v k_v ln v0 w_NI k_NI hAny k_x x0 h0 n0 _ T3.heap _
  rw [e3]
  exact ⟨(by unfold f11_1; simp only [if_neg hc6]), N0, rfl⟩
theorem d6_0 : decode cB6 0 = .ok (.aload_n 0, 1) := by decide +kernel
theorem d6_1 : decode cB6 1 = .ok (.getfield 38, 3) := by decide +kernel
theorem wd30 {Z a0} (hw : HW a0 Z) : (Jvm.Cond.fieldLink RC (38 : Nat) RC "members" RI).before a0 Z = true := mw hw 30 rfl
theorem d6_4 : decode cB6 4 = .ok (.ifnull 20, 3) := by decide +kernel
theorem d6_24 : decode cB6 24 = .ok (.iconst 0, 1) := by decide +kernel
theorem d6_25 : decode cB6 25 = .ok (.istore_n 2, 1) := by decide +kernel
theorem d6_26 : decode cB6 26 = .ok (.iload_n 2, 1) := by decide +kernel
theorem d6_27 : decode cB6 27 = .ok (.aload_n 0, 1) := by decide +kernel
theorem d6_28 : decode cB6 28 = .ok (.getfield 26, 3) := by decide +kernel
theorem wd28 {Z a0} (hw : HW a0 Z) : (Jvm.Cond.fieldLink RC (26 : Nat) RC "size" "I").before a0 Z = true := mw hw 28 rfl
theorem d6_31 : decode cB6 31 = .ok (.if_icmp .ge 20, 3) := by decide +kernel
theorem d6_51 : decode cB6 51 = .ok (.iconst 0, 1) := by decide +kernel
theorem d6_52 : decode cB6 52 = .ok (.ireturn, 1) := by decide +kernel
def Q6_1_0 (Z : State) (a1 : Addr) (a2 : Addr) (w_v : Addr) (k_v : ClassId) (ln : Int32) (v0 : Int32) (w_NI : Addr) (k_NI : ClassId) (hAny : Int32) (k_x : ClassId) (x0 : Int32) (h0 : Heap) (n0 : Nat) (v : Option Value) (h : Heap) (L : List Loc) : Prop := v = some (.int (0 : Int32)) ∧ Fr n0 L ∧ h = h0
theorem ef6_1_0 (m : MethodId) (x0 : Addr) (x1 : Addr) : entryFrame m #[(.ref x0), (.ref x1)] 3 = mkF m 0 #[.val (.ref x0), .val (.ref x1), .unset] [] := by first | (simp [entryFrame, mkF, argsToLocals, Value.category]; done) | rfl
theorem rm6_1_0 (l : Launch) (Z : State) (a0 : Array Value) (hw : HW a0 Z) (ws : List Jvm.Cond) (a1 : Addr) (a2 : Addr) (w_v : Addr) (k_v : ClassId) (ln : Int32) (v0 : Int32) (w_NI : Addr) (k_NI : ClassId) (hAny : Int32) (k_x : ClassId) (x0 : Int32) (h0 : Heap) (n0 : Nat) (Z0 : n0 ≤ h0.size) (E_a1 : Exa Z h0 a1 RC) (V_v : Arv Z h0 w_v k_v .int ln [(.int v0)] (.int (0 : Int32))) (V_NI : Arv Z h0 w_NI k_NI (.object IC) (0 : Int32) [] .null) (F_a1_a : Fld Z h0 a1 RC "arity" "I" (.int (1 : Int32))) (F_a1_v : Fld Z h0 a1 RC "values" "[I" (.ref w_v)) (F_a1_s : Fld Z h0 a1 RC "size" "I" (.int (0 : Int32))) (F_a1_m : Fld Z h0 a1 RC "members" RI .null) (F_a1_i : Fld Z h0 a1 RC "indexes" RJ (.ref w_NI)) (F_a1_h : Fld Z h0 a1 RC "holdingAny" "I" (.int hAny)) (V_row : Arv Z h0 a2 k_x .int (1 : Int32) [(.int x0)] (.int (0 : Int32))) (hln : ¬ ln < (4 : Int32)) (ne_w_v_a1 : w_v ≠ a1) (ne_w_NI_a1 : w_NI ≠ a1) (ne_w_NI_w_v : w_NI ≠ w_v) (ne_a2_a1 : a2 ≠ a1) (ne_a2_w_v : a2 ≠ w_v) (ne_a2_w_NI : a2 ≠ w_NI) :
  MetFree l (⟨RC, "contains", "([I)Z"⟩ : MethodName) (head1 (Jvm.Cond.code (⟨RC, "contains", "([I)Z"⟩ : MethodName) cB6 3 (some .boolean) :: ws) (Rm 0 0 0 0)) (Pr Z h0 #[(.ref a1), (.ref a2)]) Tr (fun _ U o U' => ∃ v L, o = .returned v ∧ Q6_1_0 Z a1 a2 w_v k_v ln v0 w_NI k_NI hAny k_x x0 h0 n0 v U'.heap L ∧ FrameEnd U o U' L (Rm 0 0 0 0).cells (Rm 0 0 0 0).slots) := by
 refine MetFree.of_bodySF (plainFor_of_name pn0) hisR ?_
 intro p e s m args below meth c s₁ Bd hml0 hP hK
 obtain ⟨rfl, hZ, hh⟩ := hP
 have hx := Bd.exec
 have hby := Bd.bytes
 have hml : c.maxLocals = 3 := hml0
 have hown : s.vm.findClass RC = some m.cls := findClass_of_methodNamed Bd.named
 have hnm := (name_of_methodNamed Bd.named Bd.method).1
 have X0 : Stand p l e (Rm 0 0 0 0) s m #[(.ref a1), (.ref a2)] below meth c s₁ [] 0 0 := Stand.of_body Bd
 have e0 : s₁.heap = h0 := by rw [← hh, Bd.state]; rfl
 have N0 := Fr.nil n0
 have K0 : Keep h0 h0 [] := Keep.refl h0 _
 refine G (P := fun o U' => ∃ v L, o = .returned v ∧ Q6_1_0 Z a1 a2 w_v k_v ln v0 w_NI k_NI hAny k_x x0 h0 n0 v U'.heap L ∧ FrameEnd s o U' L (Rm 0 0 0 0).cells (Rm 0 0 0 0).slots) (fun t k => castTop (ef6_1_0 m a1 a2) k) ?_
 show Go _ _ _ (s₁.setTop (mkF m 0 #[vr a1, vr a2, us] [])) _
 refine G (fun t k => XS.aloadN X0.here hx rfl (hb hby d6_0) rfl rfl k) ?_
 obtain ⟨T1, X1, e1, st1⟩ := getF X0 hx hZ hown (host := "") (Or.inl (wd30 hw)) Via.refl e0 F_a1_m (g := (mkF m 1 #[vr a1, vr a2, us] [(.ref a1)])) rfl rfl (hb hby d6_1)
 refine G st1 ?_
 refine G (fun t k => XS.ifnullYes X1.here hx rfl (pc0 := 4) (pc' := 24) rfl (hb hby d6_4) rfl (by decide) (by decide) (XS.iconst X1.here hx rfl (hb hby d6_24) (XS.istoreN X1.here hx rfl (hb hby d6_25) rfl (l' := #[vr a1, vr a2, vi 0]) rfl (XS.iloadN X1.here hx rfl (hb hby d6_26) rfl (XS.aloadN X1.here hx rfl (hb hby d6_27) rfl rfl k))))) ?_
 show Go _ _ _ (T1.setTop (mkF m 28 #[vr a1, vr a2, vi 0] [(.ref a1), (.int 0)])) _
 obtain ⟨T2, X2, e2, st2⟩ := getF X1 hx hZ hown (host := "") (Or.inl (wd28 hw)) Via.refl e1 F_a1_s (g := (mkF m 28 #[vr a1, vr a2, vi 0] [(.ref a1), (.int 0)])) rfl rfl (hb hby d6_28)
 refine G st2 ?_
 refine G (fun t k => XS.icmpYes X2.here hx rfl (pc0 := 31) (pc' := 51) rfl (hb hby d6_31) rfl (flt (by decide : ¬ ((0 : Int32) < (0 : Int32)))).2.1 (by decide) (by decide) (XS.iconst X2.here hx rfl (hb hby d6_51) k)) ?_
 obtain ⟨fs, hr, hrun, hended, hW, hsame⟩ := X2.leave (v := some (.int (0 : Int32))) (fun h => by rw [Bd.returns] at h; cases h)
 refine Go.fin (retN X2 hx (t := .boolean) Bd.returns (by simp) (hb hby d6_52) hr) hrun hended ⟨_, _, rfl, ?_, ⟨_, rfl⟩, hW, hsame.mono (by decide) (by decide)⟩
 show Q6_1_0 Z a1 a2 w_v k_v ln v0 w_NI k_NI hAny k_x x0 h0 n0 _ T2.heap _
 rw [e2]
 exact ⟨rfl, N0, rfl⟩
theorem d6_34 : decode cB6 34 = .ok (.aload_n 0, 1) := by decide +kernel
theorem d6_35 : decode cB6 35 = .ok (.iload_n 2, 1) := by decide +kernel
theorem d6_36 : decode cB6 36 = .ok (.aload_n 1, 1) := by decide +kernel
theorem d6_37 : decode cB6 37 = .ok (.invokevirtual 94, 3) := by decide +kernel
theorem wd70 {Z a0} (hw : HW a0 Z) : (Jvm.Cond.methodLink RC (94 : Nat) ⟨RC, "rowIs", "(I[I)Z"⟩).before a0 Z = true := mw hw 70 rfl
theorem wd73 {Z a0} (hw : HW a0 Z) : (Jvm.Cond.code ⟨RC, "rowIs", "(I[I)Z"⟩ cB11 (4 : Nat) (Option.some Jvm.ClassFile.FieldType.boolean)).before a0 Z = true := mw hw 73 rfl
theorem pd4 : parseMethodDescriptor "(I[I)Z" = some ⟨[.int, (.array .int)], some .boolean⟩ := by decide +kernel
theorem wd71 {Z a0} (hw : HW a0 Z) : (Jvm.Cond.instanceMethod ⟨RC, "rowIs", "(I[I)Z"⟩).before a0 Z = true := mw hw 71 rfl
theorem wd72 {Z a0} (hw : HW a0 Z) : (Jvm.Cond.privateMethod ⟨RC, "rowIs", "(I[I)Z"⟩).before a0 Z = true := mw hw 72 rfl
theorem d6_40 : decode cB6 40 = .ok (.ifCond .eq 5, 3) := by decide +kernel
theorem d6_43 : decode cB6 43 = .ok (.iconst 1, 1) := by decide +kernel
theorem d6_44 : decode cB6 44 = .ok (.ireturn, 1) := by decide +kernel
theorem d6_45 : decode cB6 45 = .ok (.iinc 2 1, 3) := by decide +kernel
theorem d6_48 : decode cB6 48 = .ok (.goto (-22), 3) := by decide +kernel
def f6_1_1 (v0 : Int32) (x0 : Int32) : Int32 := (if v0 = x0 then (1 : Int32) else (0 : Int32))
def Q6_1_1 (Z : State) (a1 : Addr) (a2 : Addr) (w_v : Addr) (k_v : ClassId) (ln : Int32) (v0 : Int32) (w_NI : Addr) (k_NI : ClassId) (hAny : Int32) (k_x : ClassId) (x0 : Int32) (h0 : Heap) (n0 : Nat) (v : Option Value) (h : Heap) (L : List Loc) : Prop := v = some (.int (f6_1_1 v0 x0)) ∧ Fr n0 L ∧ h = h0
theorem ef6_1_1 (m : MethodId) (x0 : Addr) (x1 : Addr) : entryFrame m #[(.ref x0), (.ref x1)] 3 = mkF m 0 #[.val (.ref x0), .val (.ref x1), .unset] [] := by first | (simp [entryFrame, mkF, argsToLocals, Value.category]; done) | rfl
theorem rm6_1_1 (l : Launch) (Z : State) (a0 : Array Value) (hw : HW a0 Z) (ws : List Jvm.Cond) (a1 : Addr) (a2 : Addr) (w_v : Addr) (k_v : ClassId) (ln : Int32) (v0 : Int32) (w_NI : Addr) (k_NI : ClassId) (hAny : Int32) (k_x : ClassId) (x0 : Int32) (h0 : Heap) (n0 : Nat) (Z0 : n0 ≤ h0.size) (E_a1 : Exa Z h0 a1 RC) (V_v : Arv Z h0 w_v k_v .int ln [(.int v0)] (.int (0 : Int32))) (V_NI : Arv Z h0 w_NI k_NI (.object IC) (0 : Int32) [] .null) (F_a1_a : Fld Z h0 a1 RC "arity" "I" (.int (1 : Int32))) (F_a1_v : Fld Z h0 a1 RC "values" "[I" (.ref w_v)) (F_a1_s : Fld Z h0 a1 RC "size" "I" (.int (1 : Int32))) (F_a1_m : Fld Z h0 a1 RC "members" RI .null) (F_a1_i : Fld Z h0 a1 RC "indexes" RJ (.ref w_NI)) (F_a1_h : Fld Z h0 a1 RC "holdingAny" "I" (.int hAny)) (V_row : Arv Z h0 a2 k_x .int (1 : Int32) [(.int x0)] (.int (0 : Int32))) (hln : ¬ ln < (4 : Int32)) (ne_w_v_a1 : w_v ≠ a1) (ne_w_NI_a1 : w_NI ≠ a1) (ne_w_NI_w_v : w_NI ≠ w_v) (ne_a2_a1 : a2 ≠ a1) (ne_a2_w_v : a2 ≠ w_v) (ne_a2_w_NI : a2 ≠ w_NI) :
  MetFree l (⟨RC, "contains", "([I)Z"⟩ : MethodName) (head1 (Jvm.Cond.code (⟨RC, "contains", "([I)Z"⟩ : MethodName) cB6 3 (some .boolean) :: ws) (Rm 1 0 0 15)) (Pr Z h0 #[(.ref a1), (.ref a2)]) Tr (fun _ U o U' => ∃ v L, o = .returned v ∧ Q6_1_1 Z a1 a2 w_v k_v ln v0 w_NI k_NI hAny k_x x0 h0 n0 v U'.heap L ∧ FrameEnd U o U' L (Rm 1 0 0 15).cells (Rm 1 0 0 15).slots) := by
 refine MetFree.of_bodySF (plainFor_of_name pn0) hisR ?_
 intro p e s m args below meth c s₁ Bd hml0 hP hK
 obtain ⟨rfl, hZ, hh⟩ := hP
 have hx := Bd.exec
 have hby := Bd.bytes
 have hml : c.maxLocals = 3 := hml0
 have hown : s.vm.findClass RC = some m.cls := findClass_of_methodNamed Bd.named
 have hnm := (name_of_methodNamed Bd.named Bd.method).1
 have X0 : Stand p l e (Rm 1 0 0 15) s m #[(.ref a1), (.ref a2)] below meth c s₁ [] 0 0 := Stand.of_body Bd
 have e0 : s₁.heap = h0 := by rw [← hh, Bd.state]; rfl
 have N0 := Fr.nil n0
 have K0 : Keep h0 h0 [] := Keep.refl h0 _
 refine G (P := fun o U' => ∃ v L, o = .returned v ∧ Q6_1_1 Z a1 a2 w_v k_v ln v0 w_NI k_NI hAny k_x x0 h0 n0 v U'.heap L ∧ FrameEnd s o U' L (Rm 1 0 0 15).cells (Rm 1 0 0 15).slots) (fun t k => castTop (ef6_1_1 m a1 a2) k) ?_
 show Go _ _ _ (s₁.setTop (mkF m 0 #[vr a1, vr a2, us] [])) _
 refine G (fun t k => XS.aloadN X0.here hx rfl (hb hby d6_0) rfl rfl k) ?_
 obtain ⟨T1, X1, e1, st1⟩ := getF X0 hx hZ hown (host := "") (Or.inl (wd30 hw)) Via.refl e0 F_a1_m (g := (mkF m 1 #[vr a1, vr a2, us] [(.ref a1)])) rfl rfl (hb hby d6_1)
 refine G st1 ?_
 refine G (fun t k => XS.ifnullYes X1.here hx rfl (pc0 := 4) (pc' := 24) rfl (hb hby d6_4) rfl (by decide) (by decide) (XS.iconst X1.here hx rfl (hb hby d6_24) (XS.istoreN X1.here hx rfl (hb hby d6_25) rfl (l' := #[vr a1, vr a2, vi 0]) rfl (XS.iloadN X1.here hx rfl (hb hby d6_26) rfl (XS.aloadN X1.here hx rfl (hb hby d6_27) rfl rfl k))))) ?_
 show Go _ _ _ (T1.setTop (mkF m 28 #[vr a1, vr a2, vi 0] [(.ref a1), (.int 0)])) _
 obtain ⟨T2, X2, e2, st2⟩ := getF X1 hx hZ hown (host := "") (Or.inl (wd28 hw)) Via.refl e1 F_a1_s (g := (mkF m 28 #[vr a1, vr a2, vi 0] [(.ref a1), (.int 0)])) rfl rfl (hb hby d6_28)
 refine G st2 ?_
 refine G (fun t k => XS.icmpNo X2.here hx rfl (hb hby d6_31) rfl (tlt (by decide : (0 : Int32) < (1 : Int32))).2.1 (XS.aloadN X2.here hx rfl (hb hby d6_34) rfl rfl (XS.iloadN X2.here hx rfl (hb hby d6_35) rfl (XS.aloadN X2.here hx rfl (hb hby d6_36) rfl rfl k)))) ?_
 obtain ⟨cq3, qq3, qq3'⟩ := E_a1.cell
 obtain ⟨_, _, ⟨T3, L3, k3, n3⟩, -, X3, ⟨Lc3, hQ3, l3, y3, z3⟩, st3⟩ := X2.privateBack hx (y := (⟨RC, "rowIs", "(I[I)Z"⟩ : MethodName)) hown (mvT hZ (wd70 hw)) (mvT hZ (wd71 hw)) (own_selp (mvT hZ (wd7 hw)) (Cond.privateMethod_at (mvP hZ (wd72 hw) (args := #[]))) (mvT hZ (wd71 hw)) (by decide)) (Cond.privateMethod_at (mvP hZ (wd72 hw) (args := #[]))) (mvT hZ (wd73 hw)) (by decide) (backOf (W := 0) (rm11_1 l Z a0 hw [] a1 a2 w_v k_v ln v0 w_NI k_NI hAny k_x x0 h0 n0 Z0 E_a1 V_v V_NI F_a1_a F_a1_v F_a1_s F_a1_m F_a1_i F_a1_h V_row hln ne_w_v_a1 ne_w_NI_a1 ne_w_NI_w_v ne_a2_a1 ne_a2_w_v ne_a2_w_NI) hZ (wd73 hw) (wd8 hw) (by decide) (by decide)) (g := (mkF m 37 #[vr a1, vr a2, vi 0] [(.ref a2), (.int 0), (.ref a1)])) rfl (by rw [hml]; rfl) (Steps.refl _) (a := a1) (by rw [e2]; exact qq3) qq3' (argsL := [(.int (0 : Int32)), (.ref a2)]) (rest := []) (lenOf pd4 rfl) rfl (by show 2 * 0 + _ ≤ _; exact Nat.le_of_eq rfl) (hb hby d6_37) (fun _ _ => ⟨rfl, e2, (by decide : 0 + 0 ≤ _), (by decide : 0 + 0 ≤ _)⟩)
 dsimp only [Pt.U, Pt.locs, Pt.cells, Pt.slots] at X3 l3 y3 z3 st3 hQ3
 subst l3 y3 z3
 refine Go.tr st3 ?_
 obtain ⟨rfl, N3q, e3⟩ := hQ3
 have N3 := Fr.app N0 N3q
 show Go _ _ _ (T3.setTop (mkF m 40 #[vr a1, vr a2, vi 0] [(.int (f11_1 v0 x0))])) _
 by_cases hc4 : v0 = x0
 ·rw [show (f11_1 v0 x0) = (1 : Int32) from by unfold f11_1; simp only [if_pos hc4, if_true, if_false]]
  show Go _ _ _ (T3.setTop (mkF m 40 #[vr a1, vr a2, vi 0] [(.int 1)])) _
  refine G (fun t k => XS.ifNo X3.here hx rfl (hb hby d6_40) rfl ((if0 _ _).trans (feq (by decide : ¬ ((1 : Int32) = (0 : Int32)))).1) (XS.iconst X3.here hx rfl (hb hby d6_43) k)) ?_
  obtain ⟨fs, hr, hrun, hended, hW, hsame⟩ := X3.leave (v := some (.int (1 : Int32))) (fun h => by rw [Bd.returns] at h; cases h)
  refine Go.fin (retN X3 hx (t := .boolean) Bd.returns (by simp) (hb hby d6_44) hr) hrun hended ⟨_, _, rfl, ?_, ⟨_, rfl⟩, hW, hsame.mono (by decide) (by decide)⟩
  show Q6_1_1 Z a1 a2 w_v k_v ln v0 w_NI k_NI hAny k_x x0 h0 n0 _ T3.heap _
  rw [e3]
  exact ⟨(by unfold f6_1_1; simp only [if_pos hc4]), N3, rfl⟩
 ·rw [show (f11_1 v0 x0) = (0 : Int32) from by unfold f11_1; simp only [if_neg hc4, if_true, if_false]]
  show Go _ _ _ (T3.setTop (mkF m 40 #[vr a1, vr a2, vi 0] [(.int 0)])) _
  refine G (fun t k => XS.ifYes X3.here hx rfl (pc0 := 40) (pc' := 45) rfl (hb hby d6_40) rfl ((if0 _ _).trans (teq (by decide : (0 : Int32) = (0 : Int32))).1) (by decide) (by decide) (XS.iinc X3.here hx rfl (hb hby d6_45) rfl (l' := #[.val (.ref a1), .val (.ref a2), .val (.int ((0 : Int32) + (1 : Int32)))]) rfl (XS.goto X3.here hx rfl (pc0 := 48) (pc' := 26) rfl (hb hby d6_48) (by decide) (by decide) (XS.iloadN X3.here hx rfl (hb hby d6_26) rfl (XS.aloadN X3.here hx rfl (hb hby d6_27) rfl rfl k))))) ?_
  obtain ⟨T5, X5, e5, st5⟩ := getF X3 hx hZ hown (host := "") (Or.inl (wd28 hw)) Via.refl e3 F_a1_s (g := (mkF m 28 #[vr a1, vr a2, vi 1] [(.ref a1), (.int 1)])) rfl rfl (hb hby d6_28)
  refine G st5 ?_
  refine G (fun t k => XS.icmpYes X5.here hx rfl (pc0 := 31) (pc' := 51) rfl (hb hby d6_31) rfl (flt (by decide : ¬ ((1 : Int32) < (1 : Int32)))).2.1 (by decide) (by decide) k) ?_
  show Go _ _ _ (T5.setTop (mkF m 51 #[vr a1, vr a2, vi 1] [])) _
  refine G (fun t k => XS.iconst X5.here hx rfl (hb hby d6_51) k) ?_
  obtain ⟨fs, hr, hrun, hended, hW, hsame⟩ := X5.leave (v := some (.int (0 : Int32))) (fun h => by rw [Bd.returns] at h; cases h)
  refine Go.fin (retN X5 hx (t := .boolean) Bd.returns (by simp) (hb hby d6_52) hr) hrun hended ⟨_, _, rfl, ?_, ⟨_, rfl⟩, hW, hsame.mono (by decide) (by decide)⟩
  show Q6_1_1 Z a1 a2 w_v k_v ln v0 w_NI k_NI hAny k_x x0 h0 n0 _ T5.heap _
  rw [e5]
  exact ⟨(by unfold f6_1_1; simp only [if_neg hc4]), N3, rfl⟩
theorem d5_0 : decode cB5 0 = .ok (.aload_n 0, 1) := by decide +kernel
theorem d5_1 : decode cB5 1 = .ok (.getfield 38, 3) := by decide +kernel
theorem d5_4 : decode cB5 4 = .ok (.ifnonnull 13, 3) := by decide +kernel
theorem d5_7 : decode cB5 7 = .ok (.aload_n 0, 1) := by decide +kernel
theorem d5_8 : decode cB5 8 = .ok (.aload_n 1, 1) := by decide +kernel
theorem d5_9 : decode cB5 9 = .ok (.invokevirtual 66, 3) := by decide +kernel
theorem wd37 {Z a0} (hw : HW a0 Z) : (Jvm.Cond.methodLink RC (66 : Nat) ⟨RC, "contains", "([I)Z"⟩).before a0 Z = true := mw hw 37 rfl
theorem wd41 {Z a0} (hw : HW a0 Z) : (Jvm.Cond.code ⟨RC, "contains", "([I)Z"⟩ cB6 (3 : Nat) (Option.some Jvm.ClassFile.FieldType.boolean)).before a0 Z = true := mw hw 41 rfl
theorem pd5 : parseMethodDescriptor "([I)Z" = some ⟨[(.array .int)], some .boolean⟩ := by decide +kernel
theorem wd40 {Z a0} (hw : HW a0 Z) : (Jvm.Cond.selects RC ⟨RC, "contains", "([I)Z"⟩ ⟨RC, "contains", "([I)Z"⟩).before a0 Z = true := mw hw 40 rfl
theorem wd38 {Z a0} (hw : HW a0 Z) : (Jvm.Cond.declares ⟨RC, "contains", "([I)Z"⟩).before a0 Z = true := mw hw 38 rfl
theorem wd39 {Z a0} (hw : HW a0 Z) : (Jvm.Cond.instanceMethod ⟨RC, "contains", "([I)Z"⟩).before a0 Z = true := mw hw 39 rfl
theorem d5_12 : decode cB5 12 = .ok (.ifCond .eq 5, 3) := by decide +kernel
theorem d5_17 : decode cB5 17 = .ok (.aload_n 0, 1) := by decide +kernel
theorem d5_18 : decode cB5 18 = .ok (.getfield 26, 3) := by decide +kernel
theorem d5_21 : decode cB5 21 = .ok (.iconst 1, 1) := by decide +kernel
theorem d5_22 : decode cB5 22 = .ok (.iadd, 1) := by decide +kernel
theorem d5_23 : decode cB5 23 = .ok (.aload_n 0, 1) := by decide +kernel
theorem d5_24 : decode cB5 24 = .ok (.getfield 18, 3) := by decide +kernel
theorem d5_27 : decode cB5 27 = .ok (.imul, 1) := by decide +kernel
theorem d5_28 : decode cB5 28 = .ok (.aload_n 0, 1) := by decide +kernel
theorem d5_29 : decode cB5 29 = .ok (.getfield 22, 3) := by decide +kernel
theorem d5_32 : decode cB5 32 = .ok (.arraylength, 1) := by decide +kernel
theorem d5_33 : decode cB5 33 = .ok (.if_icmp .le 30, 3) := by decide +kernel
theorem d5_63 : decode cB5 63 = .ok (.aload_n 1, 1) := by decide +kernel
theorem d5_64 : decode cB5 64 = .ok (.iconst 0, 1) := by decide +kernel
theorem d5_65 : decode cB5 65 = .ok (.aload_n 0, 1) := by decide +kernel
theorem d5_66 : decode cB5 66 = .ok (.getfield 22, 3) := by decide +kernel
theorem d5_69 : decode cB5 69 = .ok (.aload_n 0, 1) := by decide +kernel
theorem d5_70 : decode cB5 70 = .ok (.getfield 26, 3) := by decide +kernel
theorem d5_73 : decode cB5 73 = .ok (.aload_n 0, 1) := by decide +kernel
theorem d5_74 : decode cB5 74 = .ok (.getfield 18, 3) := by decide +kernel
theorem d5_77 : decode cB5 77 = .ok (.imul, 1) := by decide +kernel
theorem d5_78 : decode cB5 78 = .ok (.aload_n 0, 1) := by decide +kernel
theorem d5_79 : decode cB5 79 = .ok (.getfield 18, 3) := by decide +kernel
theorem d5_82 : decode cB5 82 = .ok (.invokestatic 76, 3) := by decide +kernel
theorem wd42 {Z a0} (hw : HW a0 Z) : (Jvm.Cond.methodLink RC (76 : Nat) ⟨"java/lang/System", "arraycopy", "(Ljava/lang/Object;ILjava/lang/Object;II)V"⟩).before a0 Z = true := mw hw 42 rfl
theorem d5_85 : decode cB5 85 = .ok (.aload_n 0, 1) := by decide +kernel
theorem d5_86 : decode cB5 86 = .ok (.getfield 38, 3) := by decide +kernel
theorem d5_89 : decode cB5 89 = .ok (.ifnull 19, 3) := by decide +kernel
theorem d5_108 : decode cB5 108 = .ok (.aload_n 0, 1) := by decide +kernel
theorem d5_109 : decode cB5 109 = .ok (.dup, 1) := by decide +kernel
theorem d5_110 : decode cB5 110 = .ok (.getfield 26, 3) := by decide +kernel
theorem d5_113 : decode cB5 113 = .ok (.dup_x1, 1) := by decide +kernel
theorem d5_114 : decode cB5 114 = .ok (.iconst 1, 1) := by decide +kernel
theorem d5_115 : decode cB5 115 = .ok (.iadd, 1) := by decide +kernel
theorem d5_116 : decode cB5 116 = .ok (.putfield 26, 3) := by decide +kernel
theorem d5_119 : decode cB5 119 = .ok (.istore_n 2, 1) := by decide +kernel
theorem d5_120 : decode cB5 120 = .ok (.aload_n 1, 1) := by decide +kernel
theorem d5_121 : decode cB5 121 = .ok (.astore_n 3, 1) := by decide +kernel
theorem d5_122 : decode cB5 122 = .ok (.aload_n 3, 1) := by decide +kernel
theorem d5_123 : decode cB5 123 = .ok (.arraylength, 1) := by decide +kernel
theorem d5_124 : decode cB5 124 = .ok (.istore 4, 2) := by decide +kernel
theorem d5_126 : decode cB5 126 = .ok (.iconst 0, 1) := by decide +kernel
theorem d5_127 : decode cB5 127 = .ok (.istore 5, 2) := by decide +kernel
theorem d5_168 : decode cB5 168 = .ok (.aload_n 0, 1) := by decide +kernel
theorem d5_169 : decode cB5 169 = .ok (.getfield 38, 3) := by decide +kernel
theorem d5_172 : decode cB5 172 = .ok (.ifnonnull 35, 3) := by decide +kernel
theorem d5_175 : decode cB5 175 = .ok (.aload_n 0, 1) := by decide +kernel
theorem d5_176 : decode cB5 176 = .ok (.getfield 26, 3) := by decide +kernel
theorem d5_179 : decode cB5 179 = .ok (.bipush 8, 2) := by decide +kernel
theorem d5_181 : decode cB5 181 = .ok (.if_icmp .le 26, 3) := by decide +kernel
theorem d5_207 : decode cB5 207 = .ok (.aload_n 0, 1) := by decide +kernel
theorem d5_208 : decode cB5 208 = .ok (.getfield 15, 3) := by decide +kernel
theorem d5_211 : decode cB5 211 = .ok (.astore_n 3, 1) := by decide +kernel
theorem d5_212 : decode cB5 212 = .ok (.aload_n 3, 1) := by decide +kernel
theorem d5_213 : decode cB5 213 = .ok (.arraylength, 1) := by decide +kernel
theorem d5_214 : decode cB5 214 = .ok (.istore 4, 2) := by decide +kernel
theorem d5_216 : decode cB5 216 = .ok (.iconst 0, 1) := by decide +kernel
theorem d5_217 : decode cB5 217 = .ok (.istore 5, 2) := by decide +kernel
theorem d5_219 : decode cB5 219 = .ok (.iload 5, 2) := by decide +kernel
theorem d5_221 : decode cB5 221 = .ok (.iload 4, 2) := by decide +kernel
theorem d5_223 : decode cB5 223 = .ok (.if_icmp .ge 21, 3) := by decide +kernel
theorem d5_244 : decode cB5 244 = .ok (.iconst 1, 1) := by decide +kernel
theorem d5_245 : decode cB5 245 = .ok (.ireturn, 1) := by decide +kernel
theorem d5_129 : decode cB5 129 = .ok (.iload 5, 2) := by decide +kernel
theorem d5_131 : decode cB5 131 = .ok (.iload 4, 2) := by decide +kernel
theorem d5_133 : decode cB5 133 = .ok (.if_icmp .ge 35, 3) := by decide +kernel
theorem d5_136 : decode cB5 136 = .ok (.aload_n 3, 1) := by decide +kernel
theorem d5_137 : decode cB5 137 = .ok (.iload 5, 2) := by decide +kernel
theorem d5_139 : decode cB5 139 = .ok (.iaload, 1) := by decide +kernel
theorem d5_140 : decode cB5 140 = .ok (.istore 6, 2) := by decide +kernel
theorem d5_142 : decode cB5 142 = .ok (.iload 6, 2) := by decide +kernel
theorem d5_144 : decode cB5 144 = .ok (.ldc 86, 2) := by decide +kernel
theorem wd46 {Z a0} (hw : HW a0 Z) : (Jvm.Cond.constant RC (86 : Nat) (2147483647 : Int32)).before a0 Z = true := mw hw 46 rfl
theorem d5_146 : decode cB5 146 = .ok (.if_icmp .ne 16, 3) := by decide +kernel
theorem d5_149 : decode cB5 149 = .ok (.aload_n 0, 1) := by decide +kernel
theorem d5_150 : decode cB5 150 = .ok (.dup, 1) := by decide +kernel
theorem d5_151 : decode cB5 151 = .ok (.getfield 55, 3) := by decide +kernel
theorem wd57 {Z a0} (hw : HW a0 Z) : (Jvm.Cond.fieldLink RC (55 : Nat) RC "holdingAny" "I").before a0 Z = true := mw hw 57 rfl
theorem d5_154 : decode cB5 154 = .ok (.iconst 1, 1) := by decide +kernel
theorem d5_155 : decode cB5 155 = .ok (.iadd, 1) := by decide +kernel
theorem d5_156 : decode cB5 156 = .ok (.putfield 55, 3) := by decide +kernel
theorem d5_159 : decode cB5 159 = .ok (.goto 9, 3) := by decide +kernel
theorem d5_162 : decode cB5 162 = .ok (.iinc 5 1, 3) := by decide +kernel
theorem d5_165 : decode cB5 165 = .ok (.goto (-36), 3) := by decide +kernel
def Q5_1_N (Z : State) (a1 : Addr) (a2 : Addr) (w_v : Addr) (k_v : ClassId) (ln : Int32) (v0 : Int32) (w_NI : Addr) (k_NI : ClassId) (hAny : Int32) (k_x : ClassId) (x0 : Int32) (h0 : Heap) (n0 : Nat) (v : Option Value) (h : Heap) (L : List Loc) : Prop := ∃ z_5_1_N_holdingAny : Int32, v = some (.int (1 : Int32)) ∧ Fr n0 L ∧ Keep h0 h [w_v, a1] ∧ Exa Z h a1 RC ∧ Fld Z h a1 RC "arity" "I" (.int (1 : Int32)) ∧ Fld Z h a1 RC "values" "[I" (.ref w_v) ∧ Fld Z h a1 RC "size" "I" (.int (1 : Int32)) ∧ Fld Z h a1 RC "members" RI .null ∧ Fld Z h a1 RC "indexes" RJ (.ref w_NI) ∧ Fld Z h a1 RC "holdingAny" "I" (.int z_5_1_N_holdingAny) ∧ Arv Z h w_v k_v .int ln [(.int x0)] (.int (0 : Int32))
theorem ef5_1_N (m : MethodId) (x0 : Addr) (x1 : Addr) : entryFrame m #[(.ref x0), (.ref x1)] 7 = mkF m 0 #[.val (.ref x0), .val (.ref x1), .unset, .unset, .unset, .unset, .unset] [] := by first | (simp [entryFrame, mkF, argsToLocals, Value.category]; done) | rfl
theorem sn33 {Z a0} (hw : HW a0 Z) {b a : Addr} : b ≠ a ∨ RoadKit.slotOf Z RC "arity" "I" ≠ RoadKit.slotOf Z RC "size" "I" := Or.inr (slot_ne (Or.inr (wd20 hw)) (Or.inl (wd29 hw)) (by decide) (t := .int) (t' := .int) (by decide) (by decide))
theorem sn34 {Z a0} (hw : HW a0 Z) {b a : Addr} : b ≠ a ∨ RoadKit.slotOf Z RC "values" "[I" ≠ RoadKit.slotOf Z RC "size" "I" := Or.inr (slot_ne (Or.inl (wd22 hw)) (Or.inl (wd29 hw)) (by decide) (t := (.array .int)) (t' := .int) (by decide) (by decide))
theorem sn35 {Z a0} (hw : HW a0 Z) {b a : Addr} : b ≠ a ∨ RoadKit.slotOf Z RC "members" RI ≠ RoadKit.slotOf Z RC "size" "I" := Or.inr (slot_ne (Or.inl (wd31 hw)) (Or.inl (wd29 hw)) (by decide) (t := (.object IC)) (t' := .int) (by decide) (by decide))
theorem sn36 {Z a0} (hw : HW a0 Z) {b a : Addr} : b ≠ a ∨ RoadKit.slotOf Z RC "indexes" RJ ≠ RoadKit.slotOf Z RC "size" "I" := Or.inr (slot_ne (Or.inl (wd18 hw)) (Or.inl (wd29 hw)) (by decide) (t := (.array (.object IC))) (t' := .int) (by decide) (by decide))
theorem sn37 {Z a0} (hw : HW a0 Z) {b a : Addr} : b ≠ a ∨ RoadKit.slotOf Z RC "holdingAny" "I" ≠ RoadKit.slotOf Z RC "size" "I" := Or.inr (slot_ne (Or.inl (wd58 hw)) (Or.inl (wd29 hw)) (by decide) (t := .int) (t' := .int) (by decide) (by decide))
theorem sn38 {Z a0} (hw : HW a0 Z) {b a : Addr} : b ≠ a ∨ RoadKit.slotOf Z RC "arity" "I" ≠ RoadKit.slotOf Z RC "holdingAny" "I" := Or.inr (slot_ne (Or.inr (wd20 hw)) (Or.inl (wd58 hw)) (by decide) (t := .int) (t' := .int) (by decide) (by decide))
theorem sn39 {Z a0} (hw : HW a0 Z) {b a : Addr} : b ≠ a ∨ RoadKit.slotOf Z RC "values" "[I" ≠ RoadKit.slotOf Z RC "holdingAny" "I" := Or.inr (slot_ne (Or.inl (wd22 hw)) (Or.inl (wd58 hw)) (by decide) (t := (.array .int)) (t' := .int) (by decide) (by decide))
theorem sn40 {Z a0} (hw : HW a0 Z) {b a : Addr} : b ≠ a ∨ RoadKit.slotOf Z RC "size" "I" ≠ RoadKit.slotOf Z RC "holdingAny" "I" := Or.inr (slot_ne (Or.inl (wd29 hw)) (Or.inl (wd58 hw)) (by decide) (t := .int) (t' := .int) (by decide) (by decide))
theorem sn41 {Z a0} (hw : HW a0 Z) {b a : Addr} : b ≠ a ∨ RoadKit.slotOf Z RC "members" RI ≠ RoadKit.slotOf Z RC "holdingAny" "I" := Or.inr (slot_ne (Or.inl (wd31 hw)) (Or.inl (wd58 hw)) (by decide) (t := (.object IC)) (t' := .int) (by decide) (by decide))
theorem sn42 {Z a0} (hw : HW a0 Z) {b a : Addr} : b ≠ a ∨ RoadKit.slotOf Z RC "indexes" RJ ≠ RoadKit.slotOf Z RC "holdingAny" "I" := Or.inr (slot_ne (Or.inl (wd18 hw)) (Or.inl (wd58 hw)) (by decide) (t := (.array (.object IC))) (t' := .int) (by decide) (by decide))
theorem rm5_1_N (l : Launch) (Z : State) (a0 : Array Value) (hw : HW a0 Z) (ws : List Jvm.Cond) (a1 : Addr) (a2 : Addr) (w_v : Addr) (k_v : ClassId) (ln : Int32) (v0 : Int32) (w_NI : Addr) (k_NI : ClassId) (hAny : Int32) (k_x : ClassId) (x0 : Int32) (h0 : Heap) (n0 : Nat) (Z0 : n0 ≤ h0.size) (E_a1 : Exa Z h0 a1 RC) (V_v : Arv Z h0 w_v k_v .int ln [(.int v0)] (.int (0 : Int32))) (V_NI : Arv Z h0 w_NI k_NI (.object IC) (0 : Int32) [] .null) (F_a1_a : Fld Z h0 a1 RC "arity" "I" (.int (1 : Int32))) (F_a1_v : Fld Z h0 a1 RC "values" "[I" (.ref w_v)) (F_a1_s : Fld Z h0 a1 RC "size" "I" (.int (0 : Int32))) (F_a1_m : Fld Z h0 a1 RC "members" RI .null) (F_a1_i : Fld Z h0 a1 RC "indexes" RJ (.ref w_NI)) (F_a1_h : Fld Z h0 a1 RC "holdingAny" "I" (.int hAny)) (V_row : Arv Z h0 a2 k_x .int (1 : Int32) [(.int x0)] (.int (0 : Int32))) (hln : ¬ ln < (4 : Int32)) (ne_w_v_a1 : w_v ≠ a1) (ne_w_NI_a1 : w_NI ≠ a1) (ne_w_NI_w_v : w_NI ≠ w_v) (ne_a2_a1 : a2 ≠ a1) (ne_a2_w_v : a2 ≠ w_v) (ne_a2_w_NI : a2 ≠ w_NI) (g_w_v : n0 ≤ w_v) (g_a1 : n0 ≤ a1) :
  MetFree l (⟨RC, "add", "([I)Z"⟩ : MethodName) (head1 (Jvm.Cond.code (⟨RC, "add", "([I)Z"⟩ : MethodName) cB5 7 (some .boolean) :: ws) (Rm 1 0 0 18)) (Pr Z h0 #[(.ref a1), (.ref a2)]) Tr (fun _ U o U' => ∃ v L, o = .returned v ∧ Q5_1_N Z a1 a2 w_v k_v ln v0 w_NI k_NI hAny k_x x0 h0 n0 v U'.heap L ∧ FrameEnd U o U' L (Rm 1 0 0 18).cells (Rm 1 0 0 18).slots) := by
 refine MetFree.of_bodySF (plainFor_of_name pn0) hisR ?_
 intro p e s m args below meth c s₁ Bd hml0 hP hK
 obtain ⟨rfl, hZ, hh⟩ := hP
 have hx := Bd.exec
 have hby := Bd.bytes
 have hml : c.maxLocals = 7 := hml0
 have hown : s.vm.findClass RC = some m.cls := findClass_of_methodNamed Bd.named
 have hnm := (name_of_methodNamed Bd.named Bd.method).1
 have X0 : Stand p l e (Rm 1 0 0 18) s m #[(.ref a1), (.ref a2)] below meth c s₁ [] 0 0 := Stand.of_body Bd
 have e0 : s₁.heap = h0 := by rw [← hh, Bd.state]; rfl
 have N0 := Fr.nil n0
 have K0 : Keep h0 h0 [w_v, a1] := Keep.refl h0 _
 refine G (P := fun o U' => ∃ v L, o = .returned v ∧ Q5_1_N Z a1 a2 w_v k_v ln v0 w_NI k_NI hAny k_x x0 h0 n0 v U'.heap L ∧ FrameEnd s o U' L (Rm 1 0 0 18).cells (Rm 1 0 0 18).slots) (fun t k => castTop (ef5_1_N m a1 a2) k) ?_
 show Go _ _ _ (s₁.setTop (mkF m 0 #[vr a1, vr a2, us, us, us, us, us] [])) _
 refine G (fun t k => XS.aloadN X0.here hx rfl (hb hby d5_0) rfl rfl k) ?_
 obtain ⟨T1, X1, e1, st1⟩ := getF X0 hx hZ hown (host := "") (Or.inl (wd30 hw)) Via.refl e0 F_a1_m (g := (mkF m 1 #[vr a1, vr a2, us, us, us, us, us] [(.ref a1)])) rfl rfl (hb hby d5_1)
 refine G st1 ?_
 refine G (fun t k => XS.ifnonnullNo X1.here hx rfl (hb hby d5_4) rfl (XS.aloadN X1.here hx rfl (hb hby d5_7) rfl rfl (XS.aloadN X1.here hx rfl (hb hby d5_8) rfl rfl k))) ?_
 obtain ⟨cq2, kq2, q2a, q2b, q2c⟩ := isOf hZ e1 E_a1
 obtain ⟨_, _, ⟨T2, L2, k2, n2⟩, -, X2, ⟨Lc2, hQ2, l2, y2, z2⟩, st2⟩ := X1.virtualBack hx (y := (⟨RC, "contains", "([I)Z"⟩ : MethodName)) (z := (⟨RC, "contains", "([I)Z"⟩ : MethodName)) hown (mvT hZ (wd37 hw)) (mvT hZ (wd38 hw)) (notFace_of_selects (args := #[]) (mvT hZ (wd40 hw))) (mvT hZ (wd40 hw)) (mvT hZ (wd39 hw)) (by decide) (backOf (W := 0) (rm6_1_0 l Z a0 hw [] a1 a2 w_v k_v ln v0 w_NI k_NI hAny k_x x0 h0 n0 Z0 E_a1 V_v V_NI F_a1_a F_a1_v F_a1_s F_a1_m F_a1_i F_a1_h V_row hln ne_w_v_a1 ne_w_NI_a1 ne_w_NI_w_v ne_a2_a1 ne_a2_w_v ne_a2_w_NI) hZ (wd41 hw) (wd8 hw) (by decide) (by decide)) q2a q2c (g := (mkF m 9 #[vr a1, vr a2, us, us, us, us, us] [(.ref a2), (.ref a1)])) rfl (by rw [hml]; rfl) (Steps.refl _) (argsL := [(.ref a2)]) (rest := []) (lenOf pd5 rfl) rfl (by show 2 * 0 + _ ≤ _; exact Nat.le_of_eq rfl) (hb hby d5_9) (fun _ _ => ⟨rfl, e1, (by decide : 0 + 0 ≤ _), (by decide : 0 + 0 ≤ _)⟩)
 dsimp only [Pt.U, Pt.locs, Pt.cells, Pt.slots] at X2 l2 y2 z2 st2 hQ2
 subst l2 y2 z2
 refine Go.tr st2 ?_
 obtain ⟨rfl, N2q, e2⟩ := hQ2
 have N2 := Fr.app N0 N2q
 refine G (fun t k => XS.ifYes X2.here hx rfl (pc0 := 12) (pc' := 17) rfl (hb hby d5_12) rfl ((if0 _ _).trans (teq (by decide : (0 : Int32) = (0 : Int32))).1) (by decide) (by decide) k) ?_
 show Go _ _ _ (T2.setTop (mkF m 17 #[vr a1, vr a2, us, us, us, us, us] [])) _
 refine G (fun t k => XS.aloadN X2.here hx rfl (hb hby d5_17) rfl rfl k) ?_
 obtain ⟨T3, X3, e3, st3⟩ := getF X2 hx hZ hown (host := "") (Or.inl (wd28 hw)) Via.refl e2 F_a1_s (g := (mkF m 18 #[vr a1, vr a2, us, us, us, us, us] [(.ref a1)])) rfl rfl (hb hby d5_18)
 refine G st3 ?_
 refine G (fun t k => XS.iconst X3.here hx rfl (hb hby d5_21) (XS.iadd X3.here hx rfl (hb hby d5_22) rfl (XS.aloadN X3.here hx rfl (hb hby d5_23) rfl rfl k))) ?_
 obtain ⟨T4, X4, e4, st4⟩ := getF X3 hx hZ hown (host := "") (Or.inl (wd19 hw)) Via.refl e3 F_a1_a (g := (mkF m 24 #[vr a1, vr a2, us, us, us, us, us] [(.ref a1), (.int 1)])) rfl rfl (hb hby d5_24)
 refine G st4 ?_
 refine G (fun t k => XS.imul X4.here hx rfl (hb hby d5_27) rfl k) ?_
 show Go _ _ _ (T4.setTop (mkF m 28 #[vr a1, vr a2, us, us, us, us, us] [(.int 1)])) _
 refine G (fun t k => XS.aloadN X4.here hx rfl (hb hby d5_28) rfl rfl k) ?_
 obtain ⟨T5, X5, e5, st5⟩ := getF X4 hx hZ hown (host := "") (Or.inl (wd21 hw)) Via.refl e4 F_a1_v (g := (mkF m 29 #[vr a1, vr a2, us, us, us, us, us] [(.ref a1), (.int 1)])) rfl rfl (hb hby d5_29)
 refine G st5 ?_
 obtain ⟨cl6, Ar6, -, Sz6, Ng6, -, -⟩ := id V_v
 refine G (fun t k => X5.arraylength hx (by rw [e5]; exact Ar6.1) (State.isArrayOf_alike hZ.alike Ar6.2.1) (g := (mkF m 32 #[vr a1, vr a2, us, us, us, us, us] [(.ref w_v), (.int 1)])) rfl rfl (hb hby d5_32) _ k) ?_
 rw [len_of Sz6 Ng6]
 have hf7 : ¬ (ln < (1 : Int32)) := own_nl (1 : Int32) (4 : Int32) _ (by decide) hln
 refine G (fun t k => XS.icmpYes X5.here hx rfl (pc0 := 33) (pc' := 63) rfl (hb hby d5_33) rfl (flt hf7).2.2.2 (by decide) (by decide) (XS.aloadN X5.here hx rfl (hb hby d5_63) rfl rfl (XS.iconst X5.here hx rfl (hb hby d5_64) (XS.aloadN X5.here hx rfl (hb hby d5_65) rfl rfl k)))) ?_
 show Go _ _ _ (T5.setTop (mkF m 66 #[vr a1, vr a2, us, us, us, us, us] [(.ref a1), (.int 0), (.ref a2)])) _
 obtain ⟨T8, X8, e8, st8⟩ := getF X5 hx hZ hown (host := "") (Or.inl (wd21 hw)) Via.refl e5 F_a1_v (g := (mkF m 66 #[vr a1, vr a2, us, us, us, us, us] [(.ref a1), (.int 0), (.ref a2)])) rfl rfl (hb hby d5_66)
 refine G st8 ?_
 refine G (fun t k => XS.aloadN X8.here hx rfl (hb hby d5_69) rfl rfl k) ?_
 obtain ⟨T9, X9, e9, st9⟩ := getF X8 hx hZ hown (host := "") (Or.inl (wd28 hw)) Via.refl e8 F_a1_s (g := (mkF m 70 #[vr a1, vr a2, us, us, us, us, us] [(.ref a1), (.ref w_v), (.int 0), (.ref a2)])) rfl rfl (hb hby d5_70)
 refine G st9 ?_
 refine G (fun t k => XS.aloadN X9.here hx rfl (hb hby d5_73) rfl rfl k) ?_
 obtain ⟨T10, X10, e10, st10⟩ := getF X9 hx hZ hown (host := "") (Or.inl (wd19 hw)) Via.refl e9 F_a1_a (g := (mkF m 74 #[vr a1, vr a2, us, us, us, us, us] [(.ref a1), (.int 0), (.ref w_v), (.int 0), (.ref a2)])) rfl rfl (hb hby d5_74)
 refine G st10 ?_
 refine G (fun t k => XS.imul X10.here hx rfl (hb hby d5_77) rfl (XS.aloadN X10.here hx rfl (hb hby d5_78) rfl rfl k)) ?_
 show Go _ _ _ (T10.setTop (mkF m 79 #[vr a1, vr a2, us, us, us, us, us] [(.ref a1), (.int 0), (.ref w_v), (.int 0), (.ref a2)])) _
 obtain ⟨T11, X11, e11, st11⟩ := getF X10 hx hZ hown (host := "") (Or.inl (wd19 hw)) Via.refl e10 F_a1_a (g := (mkF m 79 #[vr a1, vr a2, us, us, us, us, us] [(.ref a1), (.int 0), (.ref w_v), (.int 0), (.ref a2)])) rfl rfl (hb hby d5_79)
 refine G st11 ?_
 have V_v_pre := V_v
 obtain ⟨T12, h12, L12, X12, e12, N12, K12, B12, st12⟩ := cpA X11 hx hZ hown (wd42 hw) (wd45 hw) (wd43 hw) (wd44 hw) e11 V_row V_v (us := [(.int x0)]) (Or.inl ⟨rfl, rfl⟩) (sp := (0 : Int32)) (dp := (0 : Int32)) (nn := (1 : Int32)) (by decide) (by decide) (by decide) (by decide) (own_cpl 0 1 (4 : Int32) _ (by decide) (by decide) hln) rfl (Nat.le_of_ble_eq_true rfl) N2 g_w_v (g := (mkF m 82 #[vr a1, vr a2, us, us, us, us, us] [(.int 1), (.int 0), (.ref w_v), (.int 0), (.ref a2)])) rfl (by rw [hml]; rfl) rfl (hb hby d5_82) (by decide) (W := 0) (by show 2 * 0 + _ ≤ _; exact Nat.le_of_eq rfl) (by decide)
 refine G st12 ?_
 replace E_a1 := E_a1.keep K12
 replace V_NI := V_NI.keep K12 (ninS ne_w_NI_w_v nin0)
 replace F_a1_a := F_a1_a.keep K12 (ninS (Ne.symm ne_w_v_a1) nin0)
 replace F_a1_v := F_a1_v.keep K12 (ninS (Ne.symm ne_w_v_a1) nin0)
 replace F_a1_s := F_a1_s.keep K12 (ninS (Ne.symm ne_w_v_a1) nin0)
 replace F_a1_m := F_a1_m.keep K12 (ninS (Ne.symm ne_w_v_a1) nin0)
 replace F_a1_i := F_a1_i.keep K12 (ninS (Ne.symm ne_w_v_a1) nin0)
 replace F_a1_h := F_a1_h.keep K12 (ninS (Ne.symm ne_w_v_a1) nin0)
 replace V_row := V_row.keep K12 (ninS ne_a2_w_v nin0)
 replace Z0 := Nat.le_trans Z0 K12.1
 replace K0 := K0.trans K12 (allS (Or.inl (by simp)) all0)
 have V_v : Arv Z h12 w_v k_v .int ln [(.int x0)] (.int (0 : Int32)) := B12
 refine G (fun t k => XS.aloadN X12.here hx rfl (hb hby d5_85) rfl rfl k) ?_
 obtain ⟨T13, X13, e13, st13⟩ := getF X12 hx hZ hown (host := "") (Or.inl (wd30 hw)) Via.refl e12 F_a1_m (g := (mkF m 86 #[vr a1, vr a2, us, us, us, us, us] [(.ref a1)])) rfl rfl (hb hby d5_86)
 refine G st13 ?_
 refine G (fun t k => XS.ifnullYes X13.here hx rfl (pc0 := 89) (pc' := 108) rfl (hb hby d5_89) rfl (by decide) (by decide) (XS.aloadN X13.here hx rfl (hb hby d5_108) rfl rfl (XS.dup X13.here hx rfl (hb hby d5_109) rfl rfl k))) ?_
 show Go _ _ _ (T13.setTop (mkF m 110 #[vr a1, vr a2, us, us, us, us, us] [(.ref a1), (.ref a1)])) _
 obtain ⟨T14, X14, e14, st14⟩ := getF X13 hx hZ hown (host := "") (Or.inl (wd28 hw)) Via.refl e13 F_a1_s (g := (mkF m 110 #[vr a1, vr a2, us, us, us, us, us] [(.ref a1), (.ref a1)])) rfl rfl (hb hby d5_110)
 refine G st14 ?_
 refine G (fun t k => XS.dupX1 X14.here hx rfl (hb hby d5_113) rfl rfl rfl (XS.iconst X14.here hx rfl (hb hby d5_114) (XS.iadd X14.here hx rfl (hb hby d5_115) rfl k))) ?_
 obtain ⟨T15, h15, X15, e15, W15, st15⟩ := putF X14 hx hZ hown (host := "") (Or.inl (wd28 hw)) Via.refl e14 F_a1_s E_a1 (Or.inl (wd29 hw)) (wd7 hw) (ty := .int) (by decide) rfl rfl (g := (mkF m 116 #[vr a1, vr a2, us, us, us, us, us] [(.int 1), (.ref a1), (.int 0)])) rfl rfl (hb hby d5_116)
 refine G st15 ?_
 have N15 := Fr.snoc X15 N12 g_a1
 replace E_a1 := E_a1.wr W15
 replace V_NI := V_NI.other W15 ne_w_NI_a1
 replace F_a1_a := F_a1_a.other W15 (sn33 hw)
 replace F_a1_v := F_a1_v.other W15 (sn34 hw)
 replace F_a1_s := F_a1_s.same W15
 replace F_a1_m := F_a1_m.other W15 (sn35 hw)
 replace F_a1_i := F_a1_i.other W15 (sn36 hw)
 replace F_a1_h := F_a1_h.other W15 (sn37 hw)
 replace V_row := V_row.other W15 ne_a2_a1
 replace V_v := V_v.other W15 ne_w_v_a1
 replace Z0 := Nat.le_trans Z0 (Nat.le_of_eq W15.size.symm)
 replace K0 := K0.wr W15 (Or.inl (by simp))
 refine G (fun t k => XS.istoreN X15.here hx rfl (hb hby d5_119) rfl (l' := #[vr a1, vr a2, vi 0, us, us, us, us]) rfl (XS.aloadN X15.here hx rfl (hb hby d5_120) rfl rfl k)) ?_
 show Go _ _ _ (T15.setTop (mkF m 121 #[vr a1, vr a2, vi 0, us, us, us, us] [(.ref a2)])) _
 refine G (fun t k => XS.astoreN X15.here hx rfl (hb hby d5_121) rfl rfl (l' := #[vr a1, vr a2, vi 0, vr a2, us, us, us]) rfl (XS.aloadN X15.here hx rfl (hb hby d5_122) rfl rfl k)) ?_
 obtain ⟨cl16, Ar16, -, Sz16, Ng16, -, -⟩ := id V_row
 refine G (fun t k => X15.arraylength hx (by rw [e15]; exact Ar16.1) (State.isArrayOf_alike hZ.alike Ar16.2.1) (g := (mkF m 123 #[vr a1, vr a2, vi 0, vr a2, us, us, us] [(.ref a2)])) rfl rfl (hb hby d5_123) _ k) ?_
 rw [len_of Sz16 Ng16]
 refine G (fun t k => XS.istore X15.here hx rfl (hb hby d5_124) rfl (l' := #[vr a1, vr a2, vi 0, vr a2, vi 1, us, us]) rfl (XS.iconst X15.here hx rfl (hb hby d5_126) (XS.istore X15.here hx rfl (hb hby d5_127) rfl (l' := #[vr a1, vr a2, vi 0, vr a2, vi 1, vi 0, us]) rfl k))) ?_
 show Go _ _ _ (T15.setTop (mkF m 129 #[vr a1, vr a2, vi 0, vr a2, vi 1, vi 0, us] [])) _
 have J17 : ∀ (TJ : State) (locsJ : List Loc) (hJ : Heap) (jAny : Int32) (j5 : Int32) (j6 : Int32), Stand p l e (Rm 1 0 0 18) s m #[(.ref a1), (.ref a2)] below meth c TJ locsJ 0 0 → TJ.heap = hJ → Fr n0 locsJ → Keep h0 hJ [w_v, a1] → n0 ≤ hJ.size → Exa Z hJ a1 RC → Arv Z hJ w_NI k_NI (.object IC) (0 : Int32) [] .null → Fld Z hJ a1 RC "arity" "I" (.int (1 : Int32)) → Fld Z hJ a1 RC "values" "[I" (.ref w_v) → Fld Z hJ a1 RC "size" "I" (.int (1 : Int32)) → Fld Z hJ a1 RC "members" RI .null → Fld Z hJ a1 RC "indexes" RJ (.ref w_NI) → Fld Z hJ a1 RC "holdingAny" "I" (.int jAny) → Arv Z hJ a2 k_x .int (1 : Int32) [(.int x0)] (.int (0 : Int32)) → Arv Z hJ w_v k_v .int ln [(.int x0)] (.int (0 : Int32)) → Go p.tables e below (TJ.setTop (mkF m 168 #[vr a1, vr a2, vi 0, vr a2, vi 1, vi j5, vi j6] [])) (fun o U' => ∃ v L, o = .returned v ∧ Q5_1_N Z a1 a2 w_v k_v ln v0 w_NI k_NI hAny k_x x0 h0 n0 v U'.heap L ∧ FrameEnd s o U' L (Rm 1 0 0 18).cells (Rm 1 0 0 18).slots) := by
  intro TJ locsJ hJ jAny j5 j6 XJ eJ NJ K0 Z0 E_a1 V_NI F_a1_a F_a1_v F_a1_s F_a1_m F_a1_i F_a1_h V_row V_v
  refine G (fun t k => XS.aloadN XJ.here hx rfl (hb hby d5_168) rfl rfl k) ?_
  obtain ⟨T18, X18, e18, st18⟩ := getF XJ hx hZ hown (host := "") (Or.inl (wd30 hw)) Via.refl eJ F_a1_m (g := (mkF m 169 #[vr a1, vr a2, vi 0, vr a2, vi 1, vi j5, vi j6] [(.ref a1)])) rfl rfl (hb hby d5_169)
  refine G st18 ?_
  refine G (fun t k => XS.ifnonnullNo X18.here hx rfl (hb hby d5_172) rfl (XS.aloadN X18.here hx rfl (hb hby d5_175) rfl rfl k)) ?_
  obtain ⟨T19, X19, e19, st19⟩ := getF X18 hx hZ hown (host := "") (Or.inl (wd28 hw)) Via.refl e18 F_a1_s (g := (mkF m 176 #[vr a1, vr a2, vi 0, vr a2, vi 1, vi j5, vi j6] [(.ref a1)])) rfl rfl (hb hby d5_176)
  refine G st19 ?_
  refine G (fun t k => XS.bipush X19.here hx rfl (hb hby d5_179) (XS.icmpYes X19.here hx rfl (pc0 := 181) (pc' := 207) rfl (hb hby d5_181) rfl (flt (by decide : ¬ ((8 : Int32) < (1 : Int32)))).2.2.2 (by decide) (by decide) k)) ?_
  show Go _ _ _ (T19.setTop (mkF m 207 #[vr a1, vr a2, vi 0, vr a2, vi 1, vi j5, vi j6] [])) _
  refine G (fun t k => XS.aloadN X19.here hx rfl (hb hby d5_207) rfl rfl k) ?_
  obtain ⟨T20, X20, e20, st20⟩ := getF X19 hx hZ hown (host := "") (Or.inl (wd17 hw)) Via.refl e19 F_a1_i (g := (mkF m 208 #[vr a1, vr a2, vi 0, vr a2, vi 1, vi j5, vi j6] [(.ref a1)])) rfl rfl (hb hby d5_208)
  refine G st20 ?_
  refine G (fun t k => XS.astoreN X20.here hx rfl (hb hby d5_211) rfl rfl (l' := #[vr a1, vr a2, vi 0, vr w_NI, vi 1, vi j5, vi j6]) rfl (XS.aloadN X20.here hx rfl (hb hby d5_212) rfl rfl k)) ?_
  obtain ⟨cl21, Ar21, -, Sz21, Ng21, -, -⟩ := id V_NI
  refine G (fun t k => X20.arraylength hx (by rw [e20]; exact Ar21.1) (State.isArrayOf_alike hZ.alike Ar21.2.1) (g := (mkF m 213 #[vr a1, vr a2, vi 0, vr w_NI, vi 1, vi j5, vi j6] [(.ref w_NI)])) rfl rfl (hb hby d5_213) _ k) ?_
  rw [len_of Sz21 Ng21]
  refine G (fun t k => XS.istore X20.here hx rfl (hb hby d5_214) rfl (l' := #[vr a1, vr a2, vi 0, vr w_NI, vi 0, vi j5, vi j6]) rfl (XS.iconst X20.here hx rfl (hb hby d5_216) k)) ?_
  show Go _ _ _ (T20.setTop (mkF m 217 #[vr a1, vr a2, vi 0, vr w_NI, vi 0, vi j5, vi j6] [(.int 0)])) _
  refine G (fun t k => XS.istore X20.here hx rfl (hb hby d5_217) rfl (l' := #[vr a1, vr a2, vi 0, vr w_NI, vi 0, vi 0, vi j6]) rfl (XS.iload X20.here hx rfl (hb hby d5_219) rfl (XS.iload X20.here hx rfl (hb hby d5_221) rfl (XS.icmpYes X20.here hx rfl (pc0 := 223) (pc' := 244) rfl (hb hby d5_223) rfl (flt (by decide : ¬ ((0 : Int32) < (0 : Int32)))).2.1 (by decide) (by decide) (XS.iconst X20.here hx rfl (hb hby d5_244) k))))) ?_
  obtain ⟨fs, hr, hrun, hended, hW, hsame⟩ := X20.leave (v := some (.int (1 : Int32))) (fun h => by rw [Bd.returns] at h; cases h)
  refine Go.fin (retN X20 hx (t := .boolean) Bd.returns (by simp) (hb hby d5_245) hr) hrun hended ⟨_, _, rfl, ?_, ⟨_, rfl⟩, hW, hsame.mono (by decide) (by decide)⟩
  show Q5_1_N Z a1 a2 w_v k_v ln v0 w_NI k_NI hAny k_x x0 h0 n0 _ T20.heap _
  rw [e20]
  exact ⟨jAny, rfl, NJ, K0, E_a1, F_a1_a, F_a1_v, F_a1_s, F_a1_m, F_a1_i, F_a1_h, V_v⟩
 show Go _ _ _ (T15.setTop (mkF m 129 #[vr a1, vr a2, vi 0, vr a2, vi 1, vi 0, us] [])) _
 refine G (fun t k => XS.iload X15.here hx rfl (hb hby d5_129) rfl (XS.iload X15.here hx rfl (hb hby d5_131) rfl (XS.icmpNo X15.here hx rfl (hb hby d5_133) rfl (tlt (by decide : (0 : Int32) < (1 : Int32))).2.1 (XS.aloadN X15.here hx rfl (hb hby d5_136) rfl rfl (XS.iload X15.here hx rfl (hb hby d5_137) rfl k))))) ?_
 obtain ⟨cl22, Ar22, -, Sz22, Ng22, Hs22, -⟩ := id V_row
 have hin22 : ¬ ((0 : Int32) < 0 ∨ cl22.slots.size ≤ ((0 : Int32)).toNatClampNeg) := inb_of Sz22 ⟨by decide, by decide⟩
 refine G (fun t k => X15.iaload hx (j := (0 : Int32)) (v := (.int x0)) (by rw [e15]; exact Ar22.1) (State.isArrayOf_alike hZ.alike Ar22.2.1) Ar22.2.2 hin22 (Has.at Hs22 hin22 rfl) (g := (mkF m 139 #[vr a1, vr a2, vi 0, vr a2, vi 1, vi 0, us] [(.int 0), (.ref a2)])) rfl rfl (hb hby d5_139) _ (XS.istore X15.here hx rfl (hb hby d5_140) rfl (l' := #[vr a1, vr a2, vi 0, vr a2, vi 1, vi 0, vi x0]) rfl k)) ?_
 show Go _ _ _ (T15.setTop (mkF m 142 #[vr a1, vr a2, vi 0, vr a2, vi 1, vi 0, vi x0] [])) _
 refine G (fun t k => XS.iload X15.here hx rfl (hb hby d5_142) rfl (X15.ldcInt hx hown (mvT hZ (wd46 hw)) (g := (mkF m 144 #[vr a1, vr a2, vi 0, vr a2, vi 1, vi 0, vi x0] [(.int x0)])) rfl (hb hby d5_144) _ k)) ?_
 by_cases hc23 : x0 = (2147483647 : Int32)
 ·refine G (fun t k => XS.icmpNo X15.here hx rfl (hb hby d5_146) rfl (teq hc23).2 (XS.aloadN X15.here hx rfl (hb hby d5_149) rfl rfl (XS.dup X15.here hx rfl (hb hby d5_150) rfl rfl k))) ?_
  obtain ⟨T24, X24, e24, st24⟩ := getF X15 hx hZ hown (host := "") (Or.inl (wd57 hw)) Via.refl e15 F_a1_h (g := (mkF m 151 #[vr a1, vr a2, vi 0, vr a2, vi 1, vi 0, vi x0] [(.ref a1), (.ref a1)])) rfl rfl (hb hby d5_151)
  refine G st24 ?_
  refine G (fun t k => XS.iconst X24.here hx rfl (hb hby d5_154) k) ?_
  show Go _ _ _ (T24.setTop (mkF m 155 #[vr a1, vr a2, vi 0, vr a2, vi 1, vi 0, vi x0] [(.int 1), (.int hAny), (.ref a1)])) _
  refine G (fun t k => XS.iadd X24.here hx rfl (hb hby d5_155) rfl k) ?_
  obtain ⟨T25, h25, X25, e25, W25, st25⟩ := putF X24 hx hZ hown (host := "") (Or.inl (wd57 hw)) Via.refl e24 F_a1_h E_a1 (Or.inl (wd58 hw)) (wd7 hw) (ty := .int) (by decide) rfl rfl (g := (mkF m 156 #[vr a1, vr a2, vi 0, vr a2, vi 1, vi 0, vi x0] [(.int (hAny + (1 : Int32))), (.ref a1)])) rfl rfl (hb hby d5_156)
  refine G st25 ?_
  have N25 := Fr.snoc X25 N15 g_a1
  replace E_a1 := E_a1.wr W25
  replace V_NI := V_NI.other W25 ne_w_NI_a1
  replace F_a1_a := F_a1_a.other W25 (sn38 hw)
  replace F_a1_v := F_a1_v.other W25 (sn39 hw)
  replace F_a1_s := F_a1_s.other W25 (sn40 hw)
  replace F_a1_m := F_a1_m.other W25 (sn41 hw)
  replace F_a1_i := F_a1_i.other W25 (sn42 hw)
  replace F_a1_h := F_a1_h.same W25
  replace V_row := V_row.other W25 ne_a2_a1
  replace V_v := V_v.other W25 ne_w_v_a1
  replace Z0 := Nat.le_trans Z0 (Nat.le_of_eq W25.size.symm)
  replace K0 := K0.wr W25 (Or.inl (by simp))
  refine G (fun t k => XS.goto X25.here hx rfl (pc0 := 159) (pc' := 168) rfl (hb hby d5_159) (by decide) (by decide) k) ?_
  show Go _ _ _ (T25.setTop (mkF m 168 #[vr a1, vr a2, vi 0, vr a2, vi 1, vi 0, vi x0] [])) _
  exact J17 _ _ _ (hAny + (1 : Int32)) (0 : Int32) x0 X25 e25 N25 K0 Z0 E_a1 V_NI F_a1_a F_a1_v F_a1_s F_a1_m F_a1_i F_a1_h V_row V_v
 ·refine G (fun t k => XS.icmpYes X15.here hx rfl (pc0 := 146) (pc' := 162) rfl (hb hby d5_146) rfl (feq hc23).2 (by decide) (by decide) (XS.iinc X15.here hx rfl (hb hby d5_162) rfl (l' := #[.val (.ref a1), .val (.ref a2), .val (.int (0 : Int32)), .val (.ref a2), .val (.int (1 : Int32)), .val (.int ((0 : Int32) + (1 : Int32))), .val (.int x0)]) rfl (XS.goto X15.here hx rfl (pc0 := 165) (pc' := 129) rfl (hb hby d5_165) (by decide) (by decide) k))) ?_
  show Go _ _ _ (T15.setTop (mkF m 129 #[vr a1, vr a2, vi 0, vr a2, vi 1, vi 1, vi x0] [])) _
  refine G (fun t k => XS.iload X15.here hx rfl (hb hby d5_129) rfl (XS.iload X15.here hx rfl (hb hby d5_131) rfl (XS.icmpYes X15.here hx rfl (pc0 := 133) (pc' := 168) rfl (hb hby d5_133) rfl (flt (by decide : ¬ ((1 : Int32) < (1 : Int32)))).2.1 (by decide) (by decide) k))) ?_
  show Go _ _ _ (T15.setTop (mkF m 168 #[vr a1, vr a2, vi 0, vr a2, vi 1, vi 1, vi x0] [])) _
  exact J17 _ _ _ hAny (1 : Int32) x0 X15 e15 N15 K0 Z0 E_a1 V_NI F_a1_a F_a1_v F_a1_s F_a1_m F_a1_i F_a1_h V_row V_v
theorem d5_92 : decode cB5 92 = .ok (.aload_n 0, 1) := by decide +kernel
theorem d5_93 : decode cB5 93 = .ok (.getfield 38, 3) := by decide +kernel
theorem d5_96 : decode cB5 96 = .ok (.aload_n 0, 1) := by decide +kernel
theorem d5_97 : decode cB5 97 = .ok (.getfield 26, 3) := by decide +kernel
theorem d5_100 : decode cB5 100 = .ok (.invokevirtual 82, 3) := by decide +kernel
theorem wd114 {Z a0} (hw : HW a0 Z) : (Jvm.Cond.methodLink RC (82 : Nat) ⟨IC, "insertNew", "(I)Z"⟩).before a0 Z = true := mw hw 114 rfl
theorem wd118 {Z a0} (hw : HW a0 Z) : (Jvm.Cond.code ⟨IC, "insertNew", "(I)Z"⟩ cB19 (4 : Nat) (Option.some Jvm.ClassFile.FieldType.boolean)).before a0 Z = true := mw hw 118 rfl
theorem pd6 : parseMethodDescriptor "(I)Z" = some ⟨[.int], some .boolean⟩ := by decide +kernel
theorem wd117 {Z a0} (hw : HW a0 Z) : (Jvm.Cond.selects IC ⟨IC, "insertNew", "(I)Z"⟩ ⟨IC, "insertNew", "(I)Z"⟩).before a0 Z = true := mw hw 117 rfl
theorem wd115 {Z a0} (hw : HW a0 Z) : (Jvm.Cond.declares ⟨IC, "insertNew", "(I)Z"⟩).before a0 Z = true := mw hw 115 rfl
theorem wd116 {Z a0} (hw : HW a0 Z) : (Jvm.Cond.instanceMethod ⟨IC, "insertNew", "(I)Z"⟩).before a0 Z = true := mw hw 116 rfl
theorem d5_103 : decode cB5 103 = .ok (.ifCond .ne 5, 3) := by decide +kernel
def Q5_1_R (Z : State) (a1 : Addr) (a2 : Addr) (w_v : Addr) (k_v : ClassId) (ln : Int32) (v0 : Int32) (w_NI : Addr) (k_NI : ClassId) (hAny : Int32) (k_x : ClassId) (x0 : Int32) (w_m : Addr) (w_pos : Addr) (w_sl : Addr) (w_nx : Addr) (k_p : ClassId) (k_s : ClassId) (k_n : ClassId) (h0 : Heap) (n0 : Nat) (v : Option Value) (h : Heap) (L : List Loc) : Prop := ∃ z_5_1_R_holdingAny : Int32, v = some (.int (1 : Int32)) ∧ Fr n0 L ∧ Keep h0 h [w_v, w_nx, w_sl, w_m, a1] ∧ Exa Z h a1 RC ∧ Fld Z h a1 RC "arity" "I" (.int (1 : Int32)) ∧ Fld Z h a1 RC "values" "[I" (.ref w_v) ∧ Fld Z h a1 RC "size" "I" (.int (1 : Int32)) ∧ Fld Z h a1 RC "members" RI (.ref w_m) ∧ Fld Z h a1 RC "indexes" RJ (.ref w_NI) ∧ Fld Z h a1 RC "holdingAny" "I" (.int z_5_1_R_holdingAny) ∧ Arv Z h w_v k_v .int ln [(.int x0)] (.int (0 : Int32))
theorem ef5_1_R (m : MethodId) (x0 : Addr) (x1 : Addr) : entryFrame m #[(.ref x0), (.ref x1)] 7 = mkF m 0 #[.val (.ref x0), .val (.ref x1), .unset, .unset, .unset, .unset, .unset] [] := by first | (simp [entryFrame, mkF, argsToLocals, Value.category]; done) | rfl
theorem rm5_1_R (l : Launch) (Z : State) (a0 : Array Value) (hw : HW a0 Z) (ws : List Jvm.Cond) (a1 : Addr) (a2 : Addr) (w_v : Addr) (k_v : ClassId) (ln : Int32) (v0 : Int32) (w_NI : Addr) (k_NI : ClassId) (hAny : Int32) (k_x : ClassId) (x0 : Int32) (w_m : Addr) (w_pos : Addr) (w_sl : Addr) (w_nx : Addr) (k_p : ClassId) (k_s : ClassId) (k_n : ClassId) (h0 : Heap) (n0 : Nat) (Z0 : n0 ≤ h0.size) (E_a1 : Exa Z h0 a1 RC) (V_v : Arv Z h0 w_v k_v .int ln [(.int v0)] (.int (0 : Int32))) (V_NI : Arv Z h0 w_NI k_NI (.object IC) (0 : Int32) [] .null) (F_a1_a : Fld Z h0 a1 RC "arity" "I" (.int (1 : Int32))) (F_a1_v : Fld Z h0 a1 RC "values" "[I" (.ref w_v)) (F_a1_s : Fld Z h0 a1 RC "size" "I" (.int (0 : Int32))) (F_a1_m : Fld Z h0 a1 RC "members" RI (.ref w_m)) (F_a1_i : Fld Z h0 a1 RC "indexes" RJ (.ref w_NI)) (F_a1_h : Fld Z h0 a1 RC "holdingAny" "I" (.int hAny)) (V_row : Arv Z h0 a2 k_x .int (1 : Int32) [(.int x0)] (.int (0 : Int32))) (E_w_m : Exa Z h0 w_m IC) (F_w_m_p : Fld Z h0 w_m IC "positions" "[I" (.ref w_pos)) (F_w_m_l : Fld Z h0 w_m IC "slots" "[I" (.ref w_sl)) (F_w_m_next : Fld Z h0 w_m IC "next" "[I" (.ref w_nx)) (F_w_m_keys : Fld Z h0 w_m IC "keys" "I" (.int (0 : Int32))) (V_pos : Arv Z h0 w_pos k_p .int (1 : Int32) [(.int (0 : Int32))] (.int (0 : Int32))) (V_sl : Arh Z h0 w_sl k_s .int (128 : Int32) [] [] (.int (0 : Int32))) (V_nx : Arv Z h0 w_nx k_n .int (16 : Int32) [] (.int (0 : Int32))) (F_w_m_this_0 : Fld Z h0 w_m IC "this$0" RL (.ref a1)) (hln : ¬ ln < (4 : Int32)) (ne_w_v_a1 : w_v ≠ a1) (ne_w_NI_a1 : w_NI ≠ a1) (ne_w_NI_w_v : w_NI ≠ w_v) (ne_a2_a1 : a2 ≠ a1) (ne_a2_w_v : a2 ≠ w_v) (ne_a2_w_NI : a2 ≠ w_NI) (ne_w_m_a1 : w_m ≠ a1) (ne_w_m_w_v : w_m ≠ w_v) (ne_w_m_w_NI : w_m ≠ w_NI) (ne_w_m_a2 : w_m ≠ a2) (ne_w_pos_a1 : w_pos ≠ a1) (ne_w_pos_w_v : w_pos ≠ w_v) (ne_w_pos_w_NI : w_pos ≠ w_NI) (ne_w_pos_a2 : w_pos ≠ a2) (ne_w_pos_w_m : w_pos ≠ w_m) (ne_w_sl_a1 : w_sl ≠ a1) (ne_w_sl_w_v : w_sl ≠ w_v) (ne_w_sl_w_NI : w_sl ≠ w_NI) (ne_w_sl_a2 : w_sl ≠ a2) (ne_w_sl_w_m : w_sl ≠ w_m) (ne_w_sl_w_pos : w_sl ≠ w_pos) (ne_w_nx_a1 : w_nx ≠ a1) (ne_w_nx_w_v : w_nx ≠ w_v) (ne_w_nx_w_NI : w_nx ≠ w_NI) (ne_w_nx_a2 : w_nx ≠ a2) (ne_w_nx_w_m : w_nx ≠ w_m) (ne_w_nx_w_pos : w_nx ≠ w_pos) (ne_w_nx_w_sl : w_nx ≠ w_sl) (g_w_v : n0 ≤ w_v) (g_w_nx : n0 ≤ w_nx) (g_w_sl : n0 ≤ w_sl) (g_w_m : n0 ≤ w_m) (g_a1 : n0 ≤ a1) :
  MetFree l (⟨RC, "add", "([I)Z"⟩ : MethodName) (head1 (Jvm.Cond.code (⟨RC, "add", "([I)Z"⟩ : MethodName) cB5 7 (some .boolean) :: ws) (Rm 3 0 0 46)) (Pr Z h0 #[(.ref a1), (.ref a2)]) Tr (fun _ U o U' => ∃ v L, o = .returned v ∧ Q5_1_R Z a1 a2 w_v k_v ln v0 w_NI k_NI hAny k_x x0 w_m w_pos w_sl w_nx k_p k_s k_n h0 n0 v U'.heap L ∧ FrameEnd U o U' L (Rm 3 0 0 46).cells (Rm 3 0 0 46).slots) := by
 refine MetFree.of_bodySF (plainFor_of_name pn0) hisR ?_
 intro p e s m args below meth c s₁ Bd hml0 hP hK
 obtain ⟨rfl, hZ, hh⟩ := hP
 have hx := Bd.exec
 have hby := Bd.bytes
 have hml : c.maxLocals = 7 := hml0
 have hown : s.vm.findClass RC = some m.cls := findClass_of_methodNamed Bd.named
 have hnm := (name_of_methodNamed Bd.named Bd.method).1
 have X0 : Stand p l e (Rm 3 0 0 46) s m #[(.ref a1), (.ref a2)] below meth c s₁ [] 0 0 := Stand.of_body Bd
 have e0 : s₁.heap = h0 := by rw [← hh, Bd.state]; rfl
 have N0 := Fr.nil n0
 have K0 : Keep h0 h0 [w_v, w_nx, w_sl, w_m, a1] := Keep.refl h0 _
 refine G (P := fun o U' => ∃ v L, o = .returned v ∧ Q5_1_R Z a1 a2 w_v k_v ln v0 w_NI k_NI hAny k_x x0 w_m w_pos w_sl w_nx k_p k_s k_n h0 n0 v U'.heap L ∧ FrameEnd s o U' L (Rm 3 0 0 46).cells (Rm 3 0 0 46).slots) (fun t k => castTop (ef5_1_R m a1 a2) k) ?_
 show Go _ _ _ (s₁.setTop (mkF m 0 #[vr a1, vr a2, us, us, us, us, us] [])) _
 refine G (fun t k => XS.aloadN X0.here hx rfl (hb hby d5_0) rfl rfl k) ?_
 obtain ⟨T1, X1, e1, st1⟩ := getF X0 hx hZ hown (host := "") (Or.inl (wd30 hw)) Via.refl e0 F_a1_m (g := (mkF m 1 #[vr a1, vr a2, us, us, us, us, us] [(.ref a1)])) rfl rfl (hb hby d5_1)
 refine G st1 ?_
 refine G (fun t k => XS.ifnonnullYes X1.here hx rfl (pc0 := 4) (pc' := 17) rfl (hb hby d5_4) rfl (by decide) (by decide) (XS.aloadN X1.here hx rfl (hb hby d5_17) rfl rfl k)) ?_
 obtain ⟨T2, X2, e2, st2⟩ := getF X1 hx hZ hown (host := "") (Or.inl (wd28 hw)) Via.refl e1 F_a1_s (g := (mkF m 18 #[vr a1, vr a2, us, us, us, us, us] [(.ref a1)])) rfl rfl (hb hby d5_18)
 refine G st2 ?_
 refine G (fun t k => XS.iconst X2.here hx rfl (hb hby d5_21) (XS.iadd X2.here hx rfl (hb hby d5_22) rfl k)) ?_
 show Go _ _ _ (T2.setTop (mkF m 23 #[vr a1, vr a2, us, us, us, us, us] [(.int 1)])) _
 refine G (fun t k => XS.aloadN X2.here hx rfl (hb hby d5_23) rfl rfl k) ?_
 obtain ⟨T3, X3, e3, st3⟩ := getF X2 hx hZ hown (host := "") (Or.inl (wd19 hw)) Via.refl e2 F_a1_a (g := (mkF m 24 #[vr a1, vr a2, us, us, us, us, us] [(.ref a1), (.int 1)])) rfl rfl (hb hby d5_24)
 refine G st3 ?_
 refine G (fun t k => XS.imul X3.here hx rfl (hb hby d5_27) rfl (XS.aloadN X3.here hx rfl (hb hby d5_28) rfl rfl k)) ?_
 obtain ⟨T4, X4, e4, st4⟩ := getF X3 hx hZ hown (host := "") (Or.inl (wd21 hw)) Via.refl e3 F_a1_v (g := (mkF m 29 #[vr a1, vr a2, us, us, us, us, us] [(.ref a1), (.int 1)])) rfl rfl (hb hby d5_29)
 refine G st4 ?_
 obtain ⟨cl5, Ar5, -, Sz5, Ng5, -, -⟩ := id V_v
 refine G (fun t k => X4.arraylength hx (by rw [e4]; exact Ar5.1) (State.isArrayOf_alike hZ.alike Ar5.2.1) (g := (mkF m 32 #[vr a1, vr a2, us, us, us, us, us] [(.ref w_v), (.int 1)])) rfl rfl (hb hby d5_32) _ k) ?_
 rw [len_of Sz5 Ng5]
 have hf6 : ¬ (ln < (1 : Int32)) := own_nl (1 : Int32) (4 : Int32) _ (by decide) hln
 refine G (fun t k => XS.icmpYes X4.here hx rfl (pc0 := 33) (pc' := 63) rfl (hb hby d5_33) rfl (flt hf6).2.2.2 (by decide) (by decide) k) ?_
 show Go _ _ _ (T4.setTop (mkF m 63 #[vr a1, vr a2, us, us, us, us, us] [])) _
 refine G (fun t k => XS.aloadN X4.here hx rfl (hb hby d5_63) rfl rfl (XS.iconst X4.here hx rfl (hb hby d5_64) (XS.aloadN X4.here hx rfl (hb hby d5_65) rfl rfl k))) ?_
 obtain ⟨T7, X7, e7, st7⟩ := getF X4 hx hZ hown (host := "") (Or.inl (wd21 hw)) Via.refl e4 F_a1_v (g := (mkF m 66 #[vr a1, vr a2, us, us, us, us, us] [(.ref a1), (.int 0), (.ref a2)])) rfl rfl (hb hby d5_66)
 refine G st7 ?_
 refine G (fun t k => XS.aloadN X7.here hx rfl (hb hby d5_69) rfl rfl k) ?_
 obtain ⟨T8, X8, e8, st8⟩ := getF X7 hx hZ hown (host := "") (Or.inl (wd28 hw)) Via.refl e7 F_a1_s (g := (mkF m 70 #[vr a1, vr a2, us, us, us, us, us] [(.ref a1), (.ref w_v), (.int 0), (.ref a2)])) rfl rfl (hb hby d5_70)
 refine G st8 ?_
 refine G (fun t k => XS.aloadN X8.here hx rfl (hb hby d5_73) rfl rfl k) ?_
 show Go _ _ _ (T8.setTop (mkF m 74 #[vr a1, vr a2, us, us, us, us, us] [(.ref a1), (.int 0), (.ref w_v), (.int 0), (.ref a2)])) _
 obtain ⟨T9, X9, e9, st9⟩ := getF X8 hx hZ hown (host := "") (Or.inl (wd19 hw)) Via.refl e8 F_a1_a (g := (mkF m 74 #[vr a1, vr a2, us, us, us, us, us] [(.ref a1), (.int 0), (.ref w_v), (.int 0), (.ref a2)])) rfl rfl (hb hby d5_74)
 refine G st9 ?_
 refine G (fun t k => XS.imul X9.here hx rfl (hb hby d5_77) rfl (XS.aloadN X9.here hx rfl (hb hby d5_78) rfl rfl k)) ?_
 obtain ⟨T10, X10, e10, st10⟩ := getF X9 hx hZ hown (host := "") (Or.inl (wd19 hw)) Via.refl e9 F_a1_a (g := (mkF m 79 #[vr a1, vr a2, us, us, us, us, us] [(.ref a1), (.int 0), (.ref w_v), (.int 0), (.ref a2)])) rfl rfl (hb hby d5_79)
 refine G st10 ?_
 have V_v_pre := V_v
 obtain ⟨T11, h11, L11, X11, e11, N11, K11, B11, st11⟩ := cpA X10 hx hZ hown (wd42 hw) (wd45 hw) (wd43 hw) (wd44 hw) e10 V_row V_v (us := [(.int x0)]) (Or.inl ⟨rfl, rfl⟩) (sp := (0 : Int32)) (dp := (0 : Int32)) (nn := (1 : Int32)) (by decide) (by decide) (by decide) (by decide) (own_cpl 0 1 (4 : Int32) _ (by decide) (by decide) hln) rfl (Nat.le_of_ble_eq_true rfl) N0 g_w_v (g := (mkF m 82 #[vr a1, vr a2, us, us, us, us, us] [(.int 1), (.int 0), (.ref w_v), (.int 0), (.ref a2)])) rfl (by rw [hml]; rfl) rfl (hb hby d5_82) (by decide) (W := 0) (by show 2 * 0 + _ ≤ _; exact Nat.le_of_eq rfl) (by decide)
 refine G st11 ?_
 replace E_a1 := E_a1.keep K11
 replace V_NI := V_NI.keep K11 (ninS ne_w_NI_w_v nin0)
 replace F_a1_a := F_a1_a.keep K11 (ninS (Ne.symm ne_w_v_a1) nin0)
 replace F_a1_v := F_a1_v.keep K11 (ninS (Ne.symm ne_w_v_a1) nin0)
 replace F_a1_s := F_a1_s.keep K11 (ninS (Ne.symm ne_w_v_a1) nin0)
 replace F_a1_m := F_a1_m.keep K11 (ninS (Ne.symm ne_w_v_a1) nin0)
 replace F_a1_i := F_a1_i.keep K11 (ninS (Ne.symm ne_w_v_a1) nin0)
 replace F_a1_h := F_a1_h.keep K11 (ninS (Ne.symm ne_w_v_a1) nin0)
 replace V_row := V_row.keep K11 (ninS ne_a2_w_v nin0)
 replace E_w_m := E_w_m.keep K11
 replace F_w_m_p := F_w_m_p.keep K11 (ninS ne_w_m_w_v nin0)
 replace F_w_m_l := F_w_m_l.keep K11 (ninS ne_w_m_w_v nin0)
 replace F_w_m_next := F_w_m_next.keep K11 (ninS ne_w_m_w_v nin0)
 replace F_w_m_keys := F_w_m_keys.keep K11 (ninS ne_w_m_w_v nin0)
 replace V_pos := V_pos.keep K11 (ninS ne_w_pos_w_v nin0)
 replace V_sl := V_sl.keep K11 (ninS ne_w_sl_w_v nin0)
 replace V_nx := V_nx.keep K11 (ninS ne_w_nx_w_v nin0)
 replace F_w_m_this_0 := F_w_m_this_0.keep K11 (ninS ne_w_m_w_v nin0)
 replace Z0 := Nat.le_trans Z0 K11.1
 replace K0 := K0.trans K11 (allS (Or.inl (by simp)) all0)
 have V_v : Arv Z h11 w_v k_v .int ln [(.int x0)] (.int (0 : Int32)) := B11
 refine G (fun t k => XS.aloadN X11.here hx rfl (hb hby d5_85) rfl rfl k) ?_
 obtain ⟨T12, X12, e12, st12⟩ := getF X11 hx hZ hown (host := "") (Or.inl (wd30 hw)) Via.refl e11 F_a1_m (g := (mkF m 86 #[vr a1, vr a2, us, us, us, us, us] [(.ref a1)])) rfl rfl (hb hby d5_86)
 refine G st12 ?_
 show Go _ _ _ (T12.setTop (mkF m 89 #[vr a1, vr a2, us, us, us, us, us] [(.ref w_m)])) _
 refine G (fun t k => XS.ifnullNo X12.here hx rfl (hb hby d5_89) rfl (XS.aloadN X12.here hx rfl (hb hby d5_92) rfl rfl k)) ?_
 obtain ⟨T13, X13, e13, st13⟩ := getF X12 hx hZ hown (host := "") (Or.inl (wd30 hw)) Via.refl e12 F_a1_m (g := (mkF m 93 #[vr a1, vr a2, us, us, us, us, us] [(.ref a1)])) rfl rfl (hb hby d5_93)
 refine G st13 ?_
 refine G (fun t k => XS.aloadN X13.here hx rfl (hb hby d5_96) rfl rfl k) ?_
 obtain ⟨T14, X14, e14, st14⟩ := getF X13 hx hZ hown (host := "") (Or.inl (wd28 hw)) Via.refl e13 F_a1_s (g := (mkF m 97 #[vr a1, vr a2, us, us, us, us, us] [(.ref a1), (.ref w_m)])) rfl rfl (hb hby d5_97)
 refine G st14 ?_
 obtain ⟨cq15, kq15, q15a, q15b, q15c⟩ := isOf hZ e14 E_w_m
 obtain ⟨_, _, ⟨T15, L15, k15, n15⟩, -, X15, ⟨Lc15, hQ15, l15, y15, z15⟩, st15⟩ := X14.virtualBack hx (y := (⟨IC, "insertNew", "(I)Z"⟩ : MethodName)) (z := (⟨IC, "insertNew", "(I)Z"⟩ : MethodName)) hown (mvT hZ (wd114 hw)) (mvT hZ (wd115 hw)) (notFace_of_selects (args := #[]) (mvT hZ (wd117 hw))) (mvT hZ (wd117 hw)) (mvT hZ (wd116 hw)) (by decide) (backOf (W := 0) (rm19_1 l Z a0 hw [] w_m a1 w_pos w_sl w_nx k_p k_s k_n w_v k_v ln x0 h11 n0 Z0 E_w_m F_w_m_p F_w_m_l F_w_m_next F_w_m_keys V_pos V_sl V_nx F_w_m_this_0 V_v F_a1_v F_a1_a (by first | assumption | decide | omega) ne_w_pos_w_m ne_w_sl_w_m ne_w_sl_w_pos ne_w_nx_w_m ne_w_nx_w_pos ne_w_nx_w_sl (Ne.symm ne_w_m_a1) (Ne.symm ne_w_pos_a1) (Ne.symm ne_w_sl_a1) (Ne.symm ne_w_nx_a1) (Ne.symm ne_w_m_w_v) (Ne.symm ne_w_pos_w_v) (Ne.symm ne_w_sl_w_v) (Ne.symm ne_w_nx_w_v) ne_w_v_a1 g_w_nx g_w_sl g_w_m) hZ (wd118 hw) (wd85 hw) (by decide) (by decide)) q15a q15c (g := (mkF m 100 #[vr a1, vr a2, us, us, us, us, us] [(.int 0), (.ref w_m)])) rfl (by rw [hml]; rfl) (Steps.refl _) (argsL := [(.int (0 : Int32))]) (rest := []) (lenOf pd6 rfl) rfl (by show 2 * 0 + _ ≤ _; exact Nat.le_of_eq rfl) (hb hby d5_100) (fun _ _ => ⟨rfl, e14, (by decide : 0 + 0 ≤ _), (by decide : 0 + 0 ≤ _)⟩)
 dsimp only [Pt.U, Pt.locs, Pt.cells, Pt.slots] at X15 l15 y15 z15 st15 hQ15
 subst l15 y15 z15
 refine Go.tr st15 ?_
 have E_w_m_pre := E_w_m
 have F_w_m_positions_pre := F_w_m_p
 have F_w_m_slots_pre := F_w_m_l
 have F_w_m_next_pre := F_w_m_next
 have F_w_m_keys_pre := F_w_m_keys
 have V_sl_pre := V_sl
 have V_nx_pre := V_nx
 have F_w_m_this_0_pre := F_w_m_this_0
 obtain ⟨h15, e15⟩ : ∃ z, T15.heap = z := ⟨_, rfl⟩
 rw [e15] at hQ15
 obtain ⟨rfl, N15q, K15⟩ := hQ15
 replace E_a1 := E_a1.keep K15
 replace V_NI := V_NI.keep K15 (ninS (Ne.symm ne_w_m_w_NI) (ninS (Ne.symm ne_w_sl_w_NI) (ninS (Ne.symm ne_w_nx_w_NI) nin0)))
 replace F_a1_a := F_a1_a.keep K15 (ninS (Ne.symm ne_w_m_a1) (ninS (Ne.symm ne_w_sl_a1) (ninS (Ne.symm ne_w_nx_a1) nin0)))
 replace F_a1_v := F_a1_v.keep K15 (ninS (Ne.symm ne_w_m_a1) (ninS (Ne.symm ne_w_sl_a1) (ninS (Ne.symm ne_w_nx_a1) nin0)))
 replace F_a1_s := F_a1_s.keep K15 (ninS (Ne.symm ne_w_m_a1) (ninS (Ne.symm ne_w_sl_a1) (ninS (Ne.symm ne_w_nx_a1) nin0)))
 replace F_a1_m := F_a1_m.keep K15 (ninS (Ne.symm ne_w_m_a1) (ninS (Ne.symm ne_w_sl_a1) (ninS (Ne.symm ne_w_nx_a1) nin0)))
 replace F_a1_i := F_a1_i.keep K15 (ninS (Ne.symm ne_w_m_a1) (ninS (Ne.symm ne_w_sl_a1) (ninS (Ne.symm ne_w_nx_a1) nin0)))
 replace F_a1_h := F_a1_h.keep K15 (ninS (Ne.symm ne_w_m_a1) (ninS (Ne.symm ne_w_sl_a1) (ninS (Ne.symm ne_w_nx_a1) nin0)))
 replace V_row := V_row.keep K15 (ninS (Ne.symm ne_w_m_a2) (ninS (Ne.symm ne_w_sl_a2) (ninS (Ne.symm ne_w_nx_a2) nin0)))
 replace E_w_m := E_w_m.keep K15
 replace V_pos := V_pos.keep K15 (ninS ne_w_pos_w_m (ninS (Ne.symm ne_w_sl_w_pos) (ninS (Ne.symm ne_w_nx_w_pos) nin0)))
 replace V_v := V_v.keep K15 (ninS (Ne.symm ne_w_m_w_v) (ninS (Ne.symm ne_w_sl_w_v) (ninS (Ne.symm ne_w_nx_w_v) nin0)))
 replace Z0 := Nat.le_trans Z0 K15.1
 replace K0 := K0.trans K15 (allS (Or.inl (by simp)) (allS (Or.inl (by simp)) (allS (Or.inl (by simp)) all0)))
 have N15 := Fr.app N11 N15q
 refine G (fun t k => XS.ifYes X15.here hx rfl (pc0 := 103) (pc' := 108) rfl (hb hby d5_103) rfl ((if0 _ _).trans (feq (by decide : ¬ ((1 : Int32) = (0 : Int32)))).2) (by decide) (by decide) k) ?_
 show Go _ _ _ (T15.setTop (mkF m 108 #[vr a1, vr a2, us, us, us, us, us] [])) _
 refine G (fun t k => XS.aloadN X15.here hx rfl (hb hby d5_108) rfl rfl (XS.dup X15.here hx rfl (hb hby d5_109) rfl rfl k)) ?_
 obtain ⟨T16, X16, e16, st16⟩ := getF X15 hx hZ hown (host := "") (Or.inl (wd28 hw)) Via.refl e15 F_a1_s (g := (mkF m 110 #[vr a1, vr a2, us, us, us, us, us] [(.ref a1), (.ref a1)])) rfl rfl (hb hby d5_110)
 refine G st16 ?_
 refine G (fun t k => XS.dupX1 X16.here hx rfl (hb hby d5_113) rfl rfl rfl (XS.iconst X16.here hx rfl (hb hby d5_114) (XS.iadd X16.here hx rfl (hb hby d5_115) rfl k))) ?_
 obtain ⟨T17, h17, X17, e17, W17, st17⟩ := putF X16 hx hZ hown (host := "") (Or.inl (wd28 hw)) Via.refl e16 F_a1_s E_a1 (Or.inl (wd29 hw)) (wd7 hw) (ty := .int) (by decide) rfl rfl (g := (mkF m 116 #[vr a1, vr a2, us, us, us, us, us] [(.int 1), (.ref a1), (.int 0)])) rfl rfl (hb hby d5_116)
 refine G st17 ?_
 have N17 := Fr.snoc X17 N15 g_a1
 replace E_a1 := E_a1.wr W17
 replace V_NI := V_NI.other W17 ne_w_NI_a1
 replace F_a1_a := F_a1_a.other W17 (sn33 hw)
 replace F_a1_v := F_a1_v.other W17 (sn34 hw)
 replace F_a1_s := F_a1_s.same W17
 replace F_a1_m := F_a1_m.other W17 (sn35 hw)
 replace F_a1_i := F_a1_i.other W17 (sn36 hw)
 replace F_a1_h := F_a1_h.other W17 (sn37 hw)
 replace V_row := V_row.other W17 ne_a2_a1
 replace E_w_m := E_w_m.wr W17
 replace V_pos := V_pos.other W17 ne_w_pos_a1
 replace V_v := V_v.other W17 ne_w_v_a1
 replace Z0 := Nat.le_trans Z0 (Nat.le_of_eq W17.size.symm)
 replace K0 := K0.wr W17 (Or.inl (by simp))
 show Go _ _ _ (T17.setTop (mkF m 119 #[vr a1, vr a2, us, us, us, us, us] [(.int 0)])) _
 refine G (fun t k => XS.istoreN X17.here hx rfl (hb hby d5_119) rfl (l' := #[vr a1, vr a2, vi 0, us, us, us, us]) rfl (XS.aloadN X17.here hx rfl (hb hby d5_120) rfl rfl (XS.astoreN X17.here hx rfl (hb hby d5_121) rfl rfl (l' := #[vr a1, vr a2, vi 0, vr a2, us, us, us]) rfl (XS.aloadN X17.here hx rfl (hb hby d5_122) rfl rfl k)))) ?_
 obtain ⟨cl18, Ar18, -, Sz18, Ng18, -, -⟩ := id V_row
 refine G (fun t k => X17.arraylength hx (by rw [e17]; exact Ar18.1) (State.isArrayOf_alike hZ.alike Ar18.2.1) (g := (mkF m 123 #[vr a1, vr a2, vi 0, vr a2, us, us, us] [(.ref a2)])) rfl rfl (hb hby d5_123) _ k) ?_
 rw [len_of Sz18 Ng18]
 refine G (fun t k => XS.istore X17.here hx rfl (hb hby d5_124) rfl (l' := #[vr a1, vr a2, vi 0, vr a2, vi 1, us, us]) rfl (XS.iconst X17.here hx rfl (hb hby d5_126) k)) ?_
 show Go _ _ _ (T17.setTop (mkF m 127 #[vr a1, vr a2, vi 0, vr a2, vi 1, us, us] [(.int 0)])) _
 refine G (fun t k => XS.istore X17.here hx rfl (hb hby d5_127) rfl (l' := #[vr a1, vr a2, vi 0, vr a2, vi 1, vi 0, us]) rfl k) ?_
 show Go _ _ _ (T17.setTop (mkF m 129 #[vr a1, vr a2, vi 0, vr a2, vi 1, vi 0, us] [])) _
 have J19 : ∀ (TJ : State) (locsJ : List Loc) (hJ : Heap) (jAny : Int32) (j5 : Int32) (j6 : Int32), Stand p l e (Rm 3 0 0 46) s m #[(.ref a1), (.ref a2)] below meth c TJ locsJ 0 0 → TJ.heap = hJ → Fr n0 locsJ → Keep h0 hJ [w_v, w_nx, w_sl, w_m, a1] → n0 ≤ hJ.size → Exa Z hJ a1 RC → Arv Z hJ w_NI k_NI (.object IC) (0 : Int32) [] .null → Fld Z hJ a1 RC "arity" "I" (.int (1 : Int32)) → Fld Z hJ a1 RC "values" "[I" (.ref w_v) → Fld Z hJ a1 RC "size" "I" (.int (1 : Int32)) → Fld Z hJ a1 RC "members" RI (.ref w_m) → Fld Z hJ a1 RC "indexes" RJ (.ref w_NI) → Fld Z hJ a1 RC "holdingAny" "I" (.int jAny) → Arv Z hJ a2 k_x .int (1 : Int32) [(.int x0)] (.int (0 : Int32)) → Exa Z hJ w_m IC → Arv Z hJ w_pos k_p .int (1 : Int32) [(.int (0 : Int32))] (.int (0 : Int32)) → Arv Z hJ w_v k_v .int ln [(.int x0)] (.int (0 : Int32)) → Go p.tables e below (TJ.setTop (mkF m 168 #[vr a1, vr a2, vi 0, vr a2, vi 1, vi j5, vi j6] [])) (fun o U' => ∃ v L, o = .returned v ∧ Q5_1_R Z a1 a2 w_v k_v ln v0 w_NI k_NI hAny k_x x0 w_m w_pos w_sl w_nx k_p k_s k_n h0 n0 v U'.heap L ∧ FrameEnd s o U' L (Rm 3 0 0 46).cells (Rm 3 0 0 46).slots) := by
  intro TJ locsJ hJ jAny j5 j6 XJ eJ NJ K0 Z0 E_a1 V_NI F_a1_a F_a1_v F_a1_s F_a1_m F_a1_i F_a1_h V_row E_w_m V_pos V_v
  refine G (fun t k => XS.aloadN XJ.here hx rfl (hb hby d5_168) rfl rfl k) ?_
  obtain ⟨T20, X20, e20, st20⟩ := getF XJ hx hZ hown (host := "") (Or.inl (wd30 hw)) Via.refl eJ F_a1_m (g := (mkF m 169 #[vr a1, vr a2, vi 0, vr a2, vi 1, vi j5, vi j6] [(.ref a1)])) rfl rfl (hb hby d5_169)
  refine G st20 ?_
  refine G (fun t k => XS.ifnonnullYes X20.here hx rfl (pc0 := 172) (pc' := 207) rfl (hb hby d5_172) rfl (by decide) (by decide) (XS.aloadN X20.here hx rfl (hb hby d5_207) rfl rfl k)) ?_
  obtain ⟨T21, X21, e21, st21⟩ := getF X20 hx hZ hown (host := "") (Or.inl (wd17 hw)) Via.refl e20 F_a1_i (g := (mkF m 208 #[vr a1, vr a2, vi 0, vr a2, vi 1, vi j5, vi j6] [(.ref a1)])) rfl rfl (hb hby d5_208)
  refine G st21 ?_
  refine G (fun t k => XS.astoreN X21.here hx rfl (hb hby d5_211) rfl rfl (l' := #[vr a1, vr a2, vi 0, vr w_NI, vi 1, vi j5, vi j6]) rfl (XS.aloadN X21.here hx rfl (hb hby d5_212) rfl rfl k)) ?_
  show Go _ _ _ (T21.setTop (mkF m 213 #[vr a1, vr a2, vi 0, vr w_NI, vi 1, vi j5, vi j6] [(.ref w_NI)])) _
  obtain ⟨cl22, Ar22, -, Sz22, Ng22, -, -⟩ := id V_NI
  refine G (fun t k => X21.arraylength hx (by rw [e21]; exact Ar22.1) (State.isArrayOf_alike hZ.alike Ar22.2.1) (g := (mkF m 213 #[vr a1, vr a2, vi 0, vr w_NI, vi 1, vi j5, vi j6] [(.ref w_NI)])) rfl rfl (hb hby d5_213) _ k) ?_
  rw [len_of Sz22 Ng22]
  refine G (fun t k => XS.istore X21.here hx rfl (hb hby d5_214) rfl (l' := #[vr a1, vr a2, vi 0, vr w_NI, vi 0, vi j5, vi j6]) rfl (XS.iconst X21.here hx rfl (hb hby d5_216) (XS.istore X21.here hx rfl (hb hby d5_217) rfl (l' := #[vr a1, vr a2, vi 0, vr w_NI, vi 0, vi 0, vi j6]) rfl (XS.iload X21.here hx rfl (hb hby d5_219) rfl (XS.iload X21.here hx rfl (hb hby d5_221) rfl (XS.icmpYes X21.here hx rfl (pc0 := 223) (pc' := 244) rfl (hb hby d5_223) rfl (flt (by decide : ¬ ((0 : Int32) < (0 : Int32)))).2.1 (by decide) (by decide) k)))))) ?_
  show Go _ _ _ (T21.setTop (mkF m 244 #[vr a1, vr a2, vi 0, vr w_NI, vi 0, vi 0, vi j6] [])) _
  refine G (fun t k => XS.iconst X21.here hx rfl (hb hby d5_244) k) ?_
  obtain ⟨fs, hr, hrun, hended, hW, hsame⟩ := X21.leave (v := some (.int (1 : Int32))) (fun h => by rw [Bd.returns] at h; cases h)
  refine Go.fin (retN X21 hx (t := .boolean) Bd.returns (by simp) (hb hby d5_245) hr) hrun hended ⟨_, _, rfl, ?_, ⟨_, rfl⟩, hW, hsame.mono (by decide) (by decide)⟩
  show Q5_1_R Z a1 a2 w_v k_v ln v0 w_NI k_NI hAny k_x x0 w_m w_pos w_sl w_nx k_p k_s k_n h0 n0 _ T21.heap _
  rw [e21]
  exact ⟨jAny, rfl, NJ, K0, E_a1, F_a1_a, F_a1_v, F_a1_s, F_a1_m, F_a1_i, F_a1_h, V_v⟩
 show Go _ _ _ (T17.setTop (mkF m 129 #[vr a1, vr a2, vi 0, vr a2, vi 1, vi 0, us] [])) _
 refine G (fun t k => XS.iload X17.here hx rfl (hb hby d5_129) rfl (XS.iload X17.here hx rfl (hb hby d5_131) rfl (XS.icmpNo X17.here hx rfl (hb hby d5_133) rfl (tlt (by decide : (0 : Int32) < (1 : Int32))).2.1 (XS.aloadN X17.here hx rfl (hb hby d5_136) rfl rfl (XS.iload X17.here hx rfl (hb hby d5_137) rfl k))))) ?_
 obtain ⟨cl23, Ar23, -, Sz23, Ng23, Hs23, -⟩ := id V_row
 have hin23 : ¬ ((0 : Int32) < 0 ∨ cl23.slots.size ≤ ((0 : Int32)).toNatClampNeg) := inb_of Sz23 ⟨by decide, by decide⟩
 refine G (fun t k => X17.iaload hx (j := (0 : Int32)) (v := (.int x0)) (by rw [e17]; exact Ar23.1) (State.isArrayOf_alike hZ.alike Ar23.2.1) Ar23.2.2 hin23 (Has.at Hs23 hin23 rfl) (g := (mkF m 139 #[vr a1, vr a2, vi 0, vr a2, vi 1, vi 0, us] [(.int 0), (.ref a2)])) rfl rfl (hb hby d5_139) _ (XS.istore X17.here hx rfl (hb hby d5_140) rfl (l' := #[vr a1, vr a2, vi 0, vr a2, vi 1, vi 0, vi x0]) rfl k)) ?_
 show Go _ _ _ (T17.setTop (mkF m 142 #[vr a1, vr a2, vi 0, vr a2, vi 1, vi 0, vi x0] [])) _
 refine G (fun t k => XS.iload X17.here hx rfl (hb hby d5_142) rfl (X17.ldcInt hx hown (mvT hZ (wd46 hw)) (g := (mkF m 144 #[vr a1, vr a2, vi 0, vr a2, vi 1, vi 0, vi x0] [(.int x0)])) rfl (hb hby d5_144) _ k)) ?_
 by_cases hc24 : x0 = (2147483647 : Int32)
 ·refine G (fun t k => XS.icmpNo X17.here hx rfl (hb hby d5_146) rfl (teq hc24).2 (XS.aloadN X17.here hx rfl (hb hby d5_149) rfl rfl (XS.dup X17.here hx rfl (hb hby d5_150) rfl rfl k))) ?_
  obtain ⟨T25, X25, e25, st25⟩ := getF X17 hx hZ hown (host := "") (Or.inl (wd57 hw)) Via.refl e17 F_a1_h (g := (mkF m 151 #[vr a1, vr a2, vi 0, vr a2, vi 1, vi 0, vi x0] [(.ref a1), (.ref a1)])) rfl rfl (hb hby d5_151)
  refine G st25 ?_
  refine G (fun t k => XS.iconst X25.here hx rfl (hb hby d5_154) k) ?_
  show Go _ _ _ (T25.setTop (mkF m 155 #[vr a1, vr a2, vi 0, vr a2, vi 1, vi 0, vi x0] [(.int 1), (.int hAny), (.ref a1)])) _
  refine G (fun t k => XS.iadd X25.here hx rfl (hb hby d5_155) rfl k) ?_
  obtain ⟨T26, h26, X26, e26, W26, st26⟩ := putF X25 hx hZ hown (host := "") (Or.inl (wd57 hw)) Via.refl e25 F_a1_h E_a1 (Or.inl (wd58 hw)) (wd7 hw) (ty := .int) (by decide) rfl rfl (g := (mkF m 156 #[vr a1, vr a2, vi 0, vr a2, vi 1, vi 0, vi x0] [(.int (hAny + (1 : Int32))), (.ref a1)])) rfl rfl (hb hby d5_156)
  refine G st26 ?_
  have N26 := Fr.snoc X26 N17 g_a1
  replace E_a1 := E_a1.wr W26
  replace V_NI := V_NI.other W26 ne_w_NI_a1
  replace F_a1_a := F_a1_a.other W26 (sn38 hw)
  replace F_a1_v := F_a1_v.other W26 (sn39 hw)
  replace F_a1_s := F_a1_s.other W26 (sn40 hw)
  replace F_a1_m := F_a1_m.other W26 (sn41 hw)
  replace F_a1_i := F_a1_i.other W26 (sn42 hw)
  replace F_a1_h := F_a1_h.same W26
  replace V_row := V_row.other W26 ne_a2_a1
  replace E_w_m := E_w_m.wr W26
  replace V_pos := V_pos.other W26 ne_w_pos_a1
  replace V_v := V_v.other W26 ne_w_v_a1
  replace Z0 := Nat.le_trans Z0 (Nat.le_of_eq W26.size.symm)
  replace K0 := K0.wr W26 (Or.inl (by simp))
  refine G (fun t k => XS.goto X26.here hx rfl (pc0 := 159) (pc' := 168) rfl (hb hby d5_159) (by decide) (by decide) k) ?_
  show Go _ _ _ (T26.setTop (mkF m 168 #[vr a1, vr a2, vi 0, vr a2, vi 1, vi 0, vi x0] [])) _
  exact J19 _ _ _ (hAny + (1 : Int32)) (0 : Int32) x0 X26 e26 N26 K0 Z0 E_a1 V_NI F_a1_a F_a1_v F_a1_s F_a1_m F_a1_i F_a1_h V_row E_w_m V_pos V_v
 ·refine G (fun t k => XS.icmpYes X17.here hx rfl (pc0 := 146) (pc' := 162) rfl (hb hby d5_146) rfl (feq hc24).2 (by decide) (by decide) (XS.iinc X17.here hx rfl (hb hby d5_162) rfl (l' := #[.val (.ref a1), .val (.ref a2), .val (.int (0 : Int32)), .val (.ref a2), .val (.int (1 : Int32)), .val (.int ((0 : Int32) + (1 : Int32))), .val (.int x0)]) rfl (XS.goto X17.here hx rfl (pc0 := 165) (pc' := 129) rfl (hb hby d5_165) (by decide) (by decide) k))) ?_
  show Go _ _ _ (T17.setTop (mkF m 129 #[vr a1, vr a2, vi 0, vr a2, vi 1, vi 1, vi x0] [])) _
  refine G (fun t k => XS.iload X17.here hx rfl (hb hby d5_129) rfl (XS.iload X17.here hx rfl (hb hby d5_131) rfl (XS.icmpYes X17.here hx rfl (pc0 := 133) (pc' := 168) rfl (hb hby d5_133) rfl (flt (by decide : ¬ ((1 : Int32) < (1 : Int32)))).2.1 (by decide) (by decide) k))) ?_
  show Go _ _ _ (T17.setTop (mkF m 168 #[vr a1, vr a2, vi 0, vr a2, vi 1, vi 1, vi x0] [])) _
  exact J19 _ _ _ hAny (1 : Int32) x0 X17 e17 N17 K0 Z0 E_a1 V_NI F_a1_a F_a1_v F_a1_s F_a1_m F_a1_i F_a1_h V_row E_w_m V_pos V_v
theorem d4_0 : decode cB4 0 = .ok (.aload_n 0, 1) := by decide +kernel
theorem d4_1 : decode cB4 1 = .ok (.getfield 26, 3) := by decide +kernel
theorem d4_4 : decode cB4 4 = .ok (.iload_n 1, 1) := by decide +kernel
theorem d4_5 : decode cB4 5 = .ok (.iadd, 1) := by decide +kernel
theorem d4_6 : decode cB4 6 = .ok (.istore_n 2, 1) := by decide +kernel
theorem d4_7 : decode cB4 7 = .ok (.iload_n 2, 1) := by decide +kernel
theorem d4_8 : decode cB4 8 = .ok (.aload_n 0, 1) := by decide +kernel
theorem d4_9 : decode cB4 9 = .ok (.getfield 18, 3) := by decide +kernel
theorem d4_12 : decode cB4 12 = .ok (.imul, 1) := by decide +kernel
theorem d4_13 : decode cB4 13 = .ok (.aload_n 0, 1) := by decide +kernel
theorem d4_14 : decode cB4 14 = .ok (.getfield 22, 3) := by decide +kernel
theorem d4_17 : decode cB4 17 = .ok (.arraylength, 1) := by decide +kernel
theorem d4_18 : decode cB4 18 = .ok (.if_icmp .le 20, 3) := by decide +kernel
theorem d4_38 : decode cB4 38 = .ok (.aload_n 0, 1) := by decide +kernel
theorem d4_39 : decode cB4 39 = .ok (.getfield 38, 3) := by decide +kernel
theorem d4_42 : decode cB4 42 = .ok (.ifnonnull 32, 3) := by decide +kernel
theorem d4_45 : decode cB4 45 = .ok (.iload_n 2, 1) := by decide +kernel
theorem d4_46 : decode cB4 46 = .ok (.bipush 8, 2) := by decide +kernel
theorem d4_48 : decode cB4 48 = .ok (.if_icmp .le 26, 3) := by decide +kernel
theorem d4_74 : decode cB4 74 = .ok (.aload_n 0, 1) := by decide +kernel
theorem d4_75 : decode cB4 75 = .ok (.getfield 38, 3) := by decide +kernel
theorem d4_78 : decode cB4 78 = .ok (.ifnull 11, 3) := by decide +kernel
theorem d4_89 : decode cB4 89 = .ok (.aload_n 0, 1) := by decide +kernel
theorem d4_90 : decode cB4 90 = .ok (.getfield 15, 3) := by decide +kernel
theorem d4_93 : decode cB4 93 = .ok (.astore_n 3, 1) := by decide +kernel
theorem d4_94 : decode cB4 94 = .ok (.aload_n 3, 1) := by decide +kernel
theorem d4_95 : decode cB4 95 = .ok (.arraylength, 1) := by decide +kernel
theorem d4_96 : decode cB4 96 = .ok (.istore 4, 2) := by decide +kernel
theorem d4_98 : decode cB4 98 = .ok (.iconst 0, 1) := by decide +kernel
theorem d4_99 : decode cB4 99 = .ok (.istore 5, 2) := by decide +kernel
theorem d4_101 : decode cB4 101 = .ok (.iload 5, 2) := by decide +kernel
theorem d4_103 : decode cB4 103 = .ok (.iload 4, 2) := by decide +kernel
theorem d4_105 : decode cB4 105 = .ok (.if_icmp .ge 21, 3) := by decide +kernel
theorem d4_126 : decode cB4 126 = .ok (.return_, 1) := by decide +kernel
def Q4_1_0 (Z : State) (a1 : Addr) (p2 : Int32) (w_v : Addr) (k_v : ClassId) (w_NI : Addr) (k_NI : ClassId) (hAny : Int32) (h0 : Heap) (n0 : Nat) (v : Option Value) (h : Heap) (L : List Loc) : Prop := v = none ∧ Fr n0 L ∧ h = h0
theorem ef4_1_0 (m : MethodId) (x0 : Addr) (x1 : Int32) : entryFrame m #[(.ref x0), (.int x1)] 7 = mkF m 0 #[.val (.ref x0), .val (.int x1), .unset, .unset, .unset, .unset, .unset] [] := by first | (simp [entryFrame, mkF, argsToLocals, Value.category]; done) | rfl
theorem rm4_1_0 (l : Launch) (Z : State) (a0 : Array Value) (hw : HW a0 Z) (ws : List Jvm.Cond) (a1 : Addr) (p2 : Int32) (w_v : Addr) (k_v : ClassId) (w_NI : Addr) (k_NI : ClassId) (hAny : Int32) (h0 : Heap) (n0 : Nat) (Z0 : n0 ≤ h0.size) (E_a1 : Exa Z h0 a1 RC) (V_v : Arv Z h0 w_v k_v .int (4 : Int32) [] (.int (0 : Int32))) (V_NI : Arv Z h0 w_NI k_NI (.object IC) (0 : Int32) [] .null) (F_a1_a : Fld Z h0 a1 RC "arity" "I" (.int (1 : Int32))) (F_a1_v : Fld Z h0 a1 RC "values" "[I" (.ref w_v)) (F_a1_s : Fld Z h0 a1 RC "size" "I" (.int (0 : Int32))) (F_a1_m : Fld Z h0 a1 RC "members" RI .null) (F_a1_i : Fld Z h0 a1 RC "indexes" RJ (.ref w_NI)) (F_a1_h : Fld Z h0 a1 RC "holdingAny" "I" (.int hAny)) (ne_w_v_a1 : w_v ≠ a1) (ne_w_NI_a1 : w_NI ≠ a1) (ne_w_NI_w_v : w_NI ≠ w_v) (hr : 0 ≤ p2.toInt ∧ p2.toInt ≤ 15) (hq4 : ¬ (4 : Int32) < p2) (hq8 : ¬ (8 : Int32) < p2) :
  MetFree l (⟨RC, "reserve", "(I)V"⟩ : MethodName) (head1 (Jvm.Cond.code (⟨RC, "reserve", "(I)V"⟩ : MethodName) cB4 7 none :: ws) (Rm 0 0 0 0)) (Pr Z h0 #[(.ref a1), (.int p2)]) Tr (fun _ U o U' => ∃ v L, o = .returned v ∧ Q4_1_0 Z a1 p2 w_v k_v w_NI k_NI hAny h0 n0 v U'.heap L ∧ FrameEnd U o U' L (Rm 0 0 0 0).cells (Rm 0 0 0 0).slots) := by
 refine MetFree.of_bodySF (plainFor_of_name pn0) hisR ?_
 intro p e s m args below meth c s₁ Bd hml0 hP hK
 obtain ⟨rfl, hZ, hh⟩ := hP
 have hx := Bd.exec
 have hby := Bd.bytes
 have hml : c.maxLocals = 7 := hml0
 have hown : s.vm.findClass RC = some m.cls := findClass_of_methodNamed Bd.named
 have hnm := (name_of_methodNamed Bd.named Bd.method).1
 have X0 : Stand p l e (Rm 0 0 0 0) s m #[(.ref a1), (.int p2)] below meth c s₁ [] 0 0 := Stand.of_body Bd
 have e0 : s₁.heap = h0 := by rw [← hh, Bd.state]; rfl
 have N0 := Fr.nil n0
 have K0 : Keep h0 h0 [] := Keep.refl h0 _
 refine G (P := fun o U' => ∃ v L, o = .returned v ∧ Q4_1_0 Z a1 p2 w_v k_v w_NI k_NI hAny h0 n0 v U'.heap L ∧ FrameEnd s o U' L (Rm 0 0 0 0).cells (Rm 0 0 0 0).slots) (fun t k => castTop (ef4_1_0 m a1 p2) k) ?_
 show Go _ _ _ (s₁.setTop (mkF m 0 #[vr a1, vi p2, us, us, us, us, us] [])) _
 refine G (fun t k => XS.aloadN X0.here hx rfl (hb hby d4_0) rfl rfl k) ?_
 obtain ⟨T1, X1, e1, st1⟩ := getF X0 hx hZ hown (host := "") (Or.inl (wd28 hw)) Via.refl e0 F_a1_s (g := (mkF m 1 #[vr a1, vi p2, us, us, us, us, us] [(.ref a1)])) rfl rfl (hb hby d4_1)
 refine G st1 ?_
 refine G (fun t k => XS.iloadN X1.here hx rfl (hb hby d4_4) rfl (XS.iadd X1.here hx rfl (hb hby d4_5) rfl (XS.istoreN X1.here hx rfl (hb hby d4_6) rfl (l' := #[vr a1, vi p2, vi ((0 : Int32) + p2), us, us, us, us]) rfl k))) ?_
 show Go _ _ _ (T1.setTop (mkF m 7 #[vr a1, vi p2, vi ((0 : Int32) + p2), us, us, us, us] [])) _
 refine Go.fr (g' := (mkF m 7 #[vr a1, vi p2, vi p2, us, us, us, us] [])) (by rw [Int32.zero_add]) ?_
 show Go _ _ _ (T1.setTop (mkF m 7 #[vr a1, vi p2, vi p2, us, us, us, us] [])) _
 refine G (fun t k => XS.iloadN X1.here hx rfl (hb hby d4_7) rfl (XS.aloadN X1.here hx rfl (hb hby d4_8) rfl rfl k)) ?_
 obtain ⟨T2, X2, e2, st2⟩ := getF X1 hx hZ hown (host := "") (Or.inl (wd19 hw)) Via.refl e1 F_a1_a (g := (mkF m 9 #[vr a1, vi p2, vi p2, us, us, us, us] [(.ref a1), (.int p2)])) rfl rfl (hb hby d4_9)
 refine G st2 ?_
 refine G (fun t k => XS.imul X2.here hx rfl (hb hby d4_12) rfl (XS.aloadN X2.here hx rfl (hb hby d4_13) rfl rfl k)) ?_
 obtain ⟨T3, X3, e3, st3⟩ := getF X2 hx hZ hown (host := "") (Or.inl (wd21 hw)) Via.refl e2 F_a1_v (g := (mkF m 14 #[vr a1, vi p2, vi p2, us, us, us, us] [(.ref a1), (.int (p2 * (1 : Int32)))])) rfl rfl (hb hby d4_14)
 refine G st3 ?_
 obtain ⟨cl4, Ar4, -, Sz4, Ng4, -, -⟩ := id V_v
 refine G (fun t k => X3.arraylength hx (by rw [e3]; exact Ar4.1) (State.isArrayOf_alike hZ.alike Ar4.2.1) (g := (mkF m 17 #[vr a1, vi p2, vi p2, us, us, us, us] [(.ref w_v), (.int (p2 * (1 : Int32)))])) rfl rfl (hb hby d4_17) _ k) ?_
 rw [len_of Sz4 Ng4]
 show Go _ _ _ (T3.setTop (mkF m 18 #[vr a1, vi p2, vi p2, us, us, us, us] [(.int 4), (.int (p2 * (1 : Int32)))])) _
 have hf5 : ¬ ((4 : Int32) < (p2 * (1 : Int32))) := own_small p2 1 4 1 rfl rfl (by decide) hr hq4
 refine G (fun t k => XS.icmpYes X3.here hx rfl (pc0 := 18) (pc' := 38) rfl (hb hby d4_18) rfl (flt hf5).2.2.2 (by decide) (by decide) (XS.aloadN X3.here hx rfl (hb hby d4_38) rfl rfl k)) ?_
 obtain ⟨T6, X6, e6, st6⟩ := getF X3 hx hZ hown (host := "") (Or.inl (wd30 hw)) Via.refl e3 F_a1_m (g := (mkF m 39 #[vr a1, vi p2, vi p2, us, us, us, us] [(.ref a1)])) rfl rfl (hb hby d4_39)
 refine G st6 ?_
 refine G (fun t k => XS.ifnonnullNo X6.here hx rfl (hb hby d4_42) rfl (XS.iloadN X6.here hx rfl (hb hby d4_45) rfl (XS.bipush X6.here hx rfl (hb hby d4_46) k))) ?_
 have hf7 : ¬ ((8 : Int32) < p2) := hq8
 refine G (fun t k => XS.icmpYes X6.here hx rfl (pc0 := 48) (pc' := 74) rfl (hb hby d4_48) rfl (flt hf7).2.2.2 (by decide) (by decide) k) ?_
 show Go _ _ _ (T6.setTop (mkF m 74 #[vr a1, vi p2, vi p2, us, us, us, us] [])) _
 refine G (fun t k => XS.aloadN X6.here hx rfl (hb hby d4_74) rfl rfl k) ?_
 obtain ⟨T8, X8, e8, st8⟩ := getF X6 hx hZ hown (host := "") (Or.inl (wd30 hw)) Via.refl e6 F_a1_m (g := (mkF m 75 #[vr a1, vi p2, vi p2, us, us, us, us] [(.ref a1)])) rfl rfl (hb hby d4_75)
 refine G st8 ?_
 refine G (fun t k => XS.ifnullYes X8.here hx rfl (pc0 := 78) (pc' := 89) rfl (hb hby d4_78) rfl (by decide) (by decide) (XS.aloadN X8.here hx rfl (hb hby d4_89) rfl rfl k)) ?_
 obtain ⟨T9, X9, e9, st9⟩ := getF X8 hx hZ hown (host := "") (Or.inl (wd17 hw)) Via.refl e8 F_a1_i (g := (mkF m 90 #[vr a1, vi p2, vi p2, us, us, us, us] [(.ref a1)])) rfl rfl (hb hby d4_90)
 refine G st9 ?_
 refine G (fun t k => XS.astoreN X9.here hx rfl (hb hby d4_93) rfl rfl (l' := #[vr a1, vi p2, vi p2, vr w_NI, us, us, us]) rfl (XS.aloadN X9.here hx rfl (hb hby d4_94) rfl rfl k)) ?_
 show Go _ _ _ (T9.setTop (mkF m 95 #[vr a1, vi p2, vi p2, vr w_NI, us, us, us] [(.ref w_NI)])) _
 obtain ⟨cl10, Ar10, -, Sz10, Ng10, -, -⟩ := id V_NI
 refine G (fun t k => X9.arraylength hx (by rw [e9]; exact Ar10.1) (State.isArrayOf_alike hZ.alike Ar10.2.1) (g := (mkF m 95 #[vr a1, vi p2, vi p2, vr w_NI, us, us, us] [(.ref w_NI)])) rfl rfl (hb hby d4_95) _ k) ?_
 rw [len_of Sz10 Ng10]
 refine G (fun t k => XS.istore X9.here hx rfl (hb hby d4_96) rfl (l' := #[vr a1, vi p2, vi p2, vr w_NI, vi 0, us, us]) rfl (XS.iconst X9.here hx rfl (hb hby d4_98) (XS.istore X9.here hx rfl (hb hby d4_99) rfl (l' := #[vr a1, vi p2, vi p2, vr w_NI, vi 0, vi 0, us]) rfl (XS.iload X9.here hx rfl (hb hby d4_101) rfl (XS.iload X9.here hx rfl (hb hby d4_103) rfl (XS.icmpYes X9.here hx rfl (pc0 := 105) (pc' := 126) rfl (hb hby d4_105) rfl (flt (by decide : ¬ ((0 : Int32) < (0 : Int32)))).2.1 (by decide) (by decide) k)))))) ?_
 show Go _ _ _ (T9.setTop (mkF m 126 #[vr a1, vi p2, vi p2, vr w_NI, vi 0, vi 0, us] [])) _
 obtain ⟨fs, hr, hrun, hended, hW, hsame⟩ := X9.leave (v := none) (fun _ => rfl)
 refine Go.fin (X9.returnOut hx Bd.returns (hb hby d4_126) hr) hrun hended ⟨_, _, rfl, ?_, ⟨_, rfl⟩, hW, hsame.mono (by decide) (by decide)⟩
 show Q4_1_0 Z a1 p2 w_v k_v w_NI k_NI hAny h0 n0 _ T9.heap _
 rw [e9]
 exact ⟨rfl, N0, rfl⟩
theorem d4_21 : decode cB4 21 = .ok (.aload_n 0, 1) := by decide +kernel
theorem d4_22 : decode cB4 22 = .ok (.aload_n 0, 1) := by decide +kernel
theorem d4_23 : decode cB4 23 = .ok (.getfield 22, 3) := by decide +kernel
theorem d4_26 : decode cB4 26 = .ok (.iload_n 2, 1) := by decide +kernel
theorem d4_27 : decode cB4 27 = .ok (.aload_n 0, 1) := by decide +kernel
theorem d4_28 : decode cB4 28 = .ok (.getfield 18, 3) := by decide +kernel
theorem d4_31 : decode cB4 31 = .ok (.imul, 1) := by decide +kernel
theorem d4_32 : decode cB4 32 = .ok (.invokestatic 45, 3) := by decide +kernel
theorem wd74 {Z a0} (hw : HW a0 Z) : (Jvm.Cond.methodLink RC (45 : Nat) ⟨"java/util/Arrays", "copyOf", "([II)[I"⟩).before a0 Z = true := mw hw 74 rfl
theorem wd77 {Z a0} (hw : HW a0 Z) : (Jvm.Cond.code ⟨"java/util/Arrays", "copyOf", "([II)[I"⟩ cB12 (3 : Nat) (Option.some (Jvm.ClassFile.FieldType.array Jvm.ClassFile.FieldType.int))).before a0 Z = true := mw hw 77 rfl
theorem wd76 {Z a0} (hw : HW a0 Z) : (Jvm.Cond.initialized "java/util/Arrays").before a0 Z = true := mw hw 76 rfl
theorem pd7 : parseMethodDescriptor "([II)[I" = some ⟨[(.array .int), .int], some (.array .int)⟩ := by decide +kernel
theorem wd75 {Z a0} (hw : HW a0 Z) : (Jvm.Cond.static ⟨"java/util/Arrays", "copyOf", "([II)[I"⟩).before a0 Z = true := mw hw 75 rfl
theorem d4_35 : decode cB4 35 = .ok (.putfield 22, 3) := by decide +kernel
def Q4_1_1 (Z : State) (a1 : Addr) (p2 : Int32) (w_v : Addr) (k_v : ClassId) (w_NI : Addr) (k_NI : ClassId) (hAny : Int32) (h0 : Heap) (n0 : Nat) (v : Option Value) (h : Heap) (L : List Loc) : Prop := ∃ x4_1_1_0 : Addr, ∃ k_x4_1_1_0 : ClassId, v = none ∧ Fr n0 L ∧ Keep h0 h [a1] ∧ n0 ≤ x4_1_1_0 ∧ h0.size ≤ x4_1_1_0 ∧ Exa Z h a1 RC ∧ Fld Z h a1 RC "arity" "I" (.int (1 : Int32)) ∧ Fld Z h a1 RC "values" "[I" (.ref x4_1_1_0) ∧ Fld Z h a1 RC "size" "I" (.int (0 : Int32)) ∧ Fld Z h a1 RC "members" RI .null ∧ Fld Z h a1 RC "indexes" RJ (.ref w_NI) ∧ Fld Z h a1 RC "holdingAny" "I" (.int hAny) ∧ Arv Z h x4_1_1_0 k_x4_1_1_0 .int (p2 * (1 : Int32)) [] (.int (0 : Int32))
theorem ef4_1_1 (m : MethodId) (x0 : Addr) (x1 : Int32) : entryFrame m #[(.ref x0), (.int x1)] 7 = mkF m 0 #[.val (.ref x0), .val (.int x1), .unset, .unset, .unset, .unset, .unset] [] := by first | (simp [entryFrame, mkF, argsToLocals, Value.category]; done) | rfl
theorem rm4_1_1 (l : Launch) (Z : State) (a0 : Array Value) (hw : HW a0 Z) (ws : List Jvm.Cond) (a1 : Addr) (p2 : Int32) (w_v : Addr) (k_v : ClassId) (w_NI : Addr) (k_NI : ClassId) (hAny : Int32) (h0 : Heap) (n0 : Nat) (Z0 : n0 ≤ h0.size) (E_a1 : Exa Z h0 a1 RC) (V_v : Arv Z h0 w_v k_v .int (4 : Int32) [] (.int (0 : Int32))) (V_NI : Arv Z h0 w_NI k_NI (.object IC) (0 : Int32) [] .null) (F_a1_a : Fld Z h0 a1 RC "arity" "I" (.int (1 : Int32))) (F_a1_v : Fld Z h0 a1 RC "values" "[I" (.ref w_v)) (F_a1_s : Fld Z h0 a1 RC "size" "I" (.int (0 : Int32))) (F_a1_m : Fld Z h0 a1 RC "members" RI .null) (F_a1_i : Fld Z h0 a1 RC "indexes" RJ (.ref w_NI)) (F_a1_h : Fld Z h0 a1 RC "holdingAny" "I" (.int hAny)) (ne_w_v_a1 : w_v ≠ a1) (ne_w_NI_a1 : w_NI ≠ a1) (ne_w_NI_w_v : w_NI ≠ w_v) (hr : 0 ≤ p2.toInt ∧ p2.toInt ≤ 15) (hq4 : (4 : Int32) < p2) (hq8 : ¬ (8 : Int32) < p2) (g_a1 : n0 ≤ a1) :
  MetFree l (⟨RC, "reserve", "(I)V"⟩ : MethodName) (head1 (Jvm.Cond.code (⟨RC, "reserve", "(I)V"⟩ : MethodName) cB4 7 none :: ws) (Rm 2 1 45 33)) (Pr Z h0 #[(.ref a1), (.int p2)]) Tr (fun _ U o U' => ∃ v L, o = .returned v ∧ Q4_1_1 Z a1 p2 w_v k_v w_NI k_NI hAny h0 n0 v U'.heap L ∧ FrameEnd U o U' L (Rm 2 1 45 33).cells (Rm 2 1 45 33).slots) := by
 refine MetFree.of_bodySF (plainFor_of_name pn0) hisR ?_
 intro p e s m args below meth c s₁ Bd hml0 hP hK
 obtain ⟨rfl, hZ, hh⟩ := hP
 have hx := Bd.exec
 have hby := Bd.bytes
 have hml : c.maxLocals = 7 := hml0
 have hown : s.vm.findClass RC = some m.cls := findClass_of_methodNamed Bd.named
 have hnm := (name_of_methodNamed Bd.named Bd.method).1
 have X0 : Stand p l e (Rm 2 1 45 33) s m #[(.ref a1), (.int p2)] below meth c s₁ [] 0 0 := Stand.of_body Bd
 have e0 : s₁.heap = h0 := by rw [← hh, Bd.state]; rfl
 have N0 := Fr.nil n0
 have K0 : Keep h0 h0 [a1] := Keep.refl h0 _
 refine G (P := fun o U' => ∃ v L, o = .returned v ∧ Q4_1_1 Z a1 p2 w_v k_v w_NI k_NI hAny h0 n0 v U'.heap L ∧ FrameEnd s o U' L (Rm 2 1 45 33).cells (Rm 2 1 45 33).slots) (fun t k => castTop (ef4_1_1 m a1 p2) k) ?_
 show Go _ _ _ (s₁.setTop (mkF m 0 #[vr a1, vi p2, us, us, us, us, us] [])) _
 refine G (fun t k => XS.aloadN X0.here hx rfl (hb hby d4_0) rfl rfl k) ?_
 obtain ⟨T1, X1, e1, st1⟩ := getF X0 hx hZ hown (host := "") (Or.inl (wd28 hw)) Via.refl e0 F_a1_s (g := (mkF m 1 #[vr a1, vi p2, us, us, us, us, us] [(.ref a1)])) rfl rfl (hb hby d4_1)
 refine G st1 ?_
 refine G (fun t k => XS.iloadN X1.here hx rfl (hb hby d4_4) rfl (XS.iadd X1.here hx rfl (hb hby d4_5) rfl (XS.istoreN X1.here hx rfl (hb hby d4_6) rfl (l' := #[vr a1, vi p2, vi ((0 : Int32) + p2), us, us, us, us]) rfl k))) ?_
 show Go _ _ _ (T1.setTop (mkF m 7 #[vr a1, vi p2, vi ((0 : Int32) + p2), us, us, us, us] [])) _
 refine Go.fr (g' := (mkF m 7 #[vr a1, vi p2, vi p2, us, us, us, us] [])) (by rw [Int32.zero_add]) ?_
 show Go _ _ _ (T1.setTop (mkF m 7 #[vr a1, vi p2, vi p2, us, us, us, us] [])) _
 refine G (fun t k => XS.iloadN X1.here hx rfl (hb hby d4_7) rfl (XS.aloadN X1.here hx rfl (hb hby d4_8) rfl rfl k)) ?_
 obtain ⟨T2, X2, e2, st2⟩ := getF X1 hx hZ hown (host := "") (Or.inl (wd19 hw)) Via.refl e1 F_a1_a (g := (mkF m 9 #[vr a1, vi p2, vi p2, us, us, us, us] [(.ref a1), (.int p2)])) rfl rfl (hb hby d4_9)
 refine G st2 ?_
 refine G (fun t k => XS.imul X2.here hx rfl (hb hby d4_12) rfl (XS.aloadN X2.here hx rfl (hb hby d4_13) rfl rfl k)) ?_
 obtain ⟨T3, X3, e3, st3⟩ := getF X2 hx hZ hown (host := "") (Or.inl (wd21 hw)) Via.refl e2 F_a1_v (g := (mkF m 14 #[vr a1, vi p2, vi p2, us, us, us, us] [(.ref a1), (.int (p2 * (1 : Int32)))])) rfl rfl (hb hby d4_14)
 refine G st3 ?_
 obtain ⟨cl4, Ar4, -, Sz4, Ng4, -, -⟩ := id V_v
 refine G (fun t k => X3.arraylength hx (by rw [e3]; exact Ar4.1) (State.isArrayOf_alike hZ.alike Ar4.2.1) (g := (mkF m 17 #[vr a1, vi p2, vi p2, us, us, us, us] [(.ref w_v), (.int (p2 * (1 : Int32)))])) rfl rfl (hb hby d4_17) _ k) ?_
 rw [len_of Sz4 Ng4]
 show Go _ _ _ (T3.setTop (mkF m 18 #[vr a1, vi p2, vi p2, us, us, us, us] [(.int 4), (.int (p2 * (1 : Int32)))])) _
 have hf5 : (4 : Int32) < (p2 * (1 : Int32)) := own_big p2 1 4 1 rfl rfl (by decide) hr hq4
 refine G (fun t k => XS.icmpNo X3.here hx rfl (hb hby d4_18) rfl (tlt hf5).2.2.2 (XS.aloadN X3.here hx rfl (hb hby d4_21) rfl rfl (XS.aloadN X3.here hx rfl (hb hby d4_22) rfl rfl k))) ?_
 obtain ⟨T6, X6, e6, st6⟩ := getF X3 hx hZ hown (host := "") (Or.inl (wd21 hw)) Via.refl e3 F_a1_v (g := (mkF m 23 #[vr a1, vi p2, vi p2, us, us, us, us] [(.ref a1), (.ref a1)])) rfl rfl (hb hby d4_23)
 refine G st6 ?_
 refine G (fun t k => XS.iloadN X6.here hx rfl (hb hby d4_26) rfl (XS.aloadN X6.here hx rfl (hb hby d4_27) rfl rfl k)) ?_
 obtain ⟨T7, X7, e7, st7⟩ := getF X6 hx hZ hown (host := "") (Or.inl (wd19 hw)) Via.refl e6 F_a1_a (g := (mkF m 28 #[vr a1, vi p2, vi p2, us, us, us, us] [(.ref a1), (.int p2), (.ref w_v), (.ref a1)])) rfl rfl (hb hby d4_28)
 refine G st7 ?_
 show Go _ _ _ (T7.setTop (mkF m 31 #[vr a1, vi p2, vi p2, us, us, us, us] [(.int 1), (.int p2), (.ref w_v), (.ref a1)])) _
 refine G (fun t k => XS.imul X7.here hx rfl (hb hby d4_31) rfl k) ?_
 obtain ⟨_, _, ⟨T8, L8, k8, n8⟩, -, X8, ⟨Lc8, hQ8, l8, y8, z8⟩, st8⟩ := Jvm.LawKit.callS X7 hx (y := (⟨"java/util/Arrays", "copyOf", "([II)[I"⟩ : MethodName)) hown (mvT hZ (wd74 hw)) (mvT hZ (wd75 hw)) (mvT hZ (wd76 hw)) (mvT hZ (wd77 hw)) (by decide) (backOf (W := 1) (rm12_1 l Z a0 hw [] w_v (p2 * (1 : Int32)) k_v h0 n0 Z0 V_v (own_big p2 1 4 1 rfl rfl (by decide) hr hq4) (own_45 p2 1 1 rfl (by decide) hr)) hZ (wd77 hw) (wd76 hw) (by decide) (by decide)) (g := (mkF m 32 #[vr a1, vi p2, vi p2, us, us, us, us] [(.int (p2 * (1 : Int32))), (.ref w_v), (.ref a1)])) rfl (by rw [hml]; rfl) (argsL := [(.ref w_v), (.int (p2 * (1 : Int32)))]) (rest := [(.ref a1)]) (lenOf pd7 rfl) rfl (by show 2 * 0 + _ ≤ _; exact Nat.le_of_eq rfl) (hb hby d4_32) (fun _ _ => ⟨rfl, e7, (by decide : 0 + 1 ≤ _), (by decide : 0 + 45 ≤ _)⟩)
 dsimp only [Pt.U, Pt.locs, Pt.cells, Pt.slots] at X8 l8 y8 z8 st8 hQ8
 subst l8 y8 z8
 obtain ⟨h8, e8⟩ : ∃ z, T8.heap = z := ⟨_, rfl⟩
 rw [e8] at hQ8
 obtain ⟨y8, k_y8, rfl, N8q, K8, ng_y8, sz0_y8, Q8_0⟩ := hQ8
 refine G st8 ?_
 have ne_a1_y8 : a1 ≠ y8 := Nat.ne_of_lt (Nat.lt_of_lt_of_le E_a1.lt sz0_y8)
 have ne_w_v_y8 : w_v ≠ y8 := Nat.ne_of_lt (Nat.lt_of_lt_of_le V_v.lt sz0_y8)
 have ne_w_NI_y8 : w_NI ≠ y8 := Nat.ne_of_lt (Nat.lt_of_lt_of_le V_NI.lt sz0_y8)
 have g_y8 : n0 ≤ y8 := ng_y8
 have sz_y8 : h0.size ≤ y8 := Nat.le_trans K0.1 sz0_y8
 replace E_a1 := E_a1.keep K8
 replace V_v := V_v.keep K8 nin0
 replace V_NI := V_NI.keep K8 nin0
 replace F_a1_a := F_a1_a.keep K8 nin0
 replace F_a1_v := F_a1_v.keep K8 nin0
 replace F_a1_s := F_a1_s.keep K8 nin0
 replace F_a1_m := F_a1_m.keep K8 nin0
 replace F_a1_i := F_a1_i.keep K8 nin0
 replace F_a1_h := F_a1_h.keep K8 nin0
 replace Z0 := Nat.le_trans Z0 K8.1
 replace K0 := K0.trans K8 all0
 have V_y8 := Q8_0
 have N8 := Fr.app N0 N8q
 replace V_y8 : Arv Z h8 y8 k_y8 .int (p2 * (1 : Int32)) [] (.int (0 : Int32)) := V_y8.pad (fun i => (pad_rep [] (.int (0 : Int32)) 4 i).symm)
 obtain ⟨T9, h9, X9, e9, W9, st9⟩ := putF X8 hx hZ hown (host := "") (Or.inl (wd21 hw)) Via.refl e8 F_a1_v E_a1 (Or.inl (wd22 hw)) (wd7 hw) (ty := (.array .int)) (by decide) rfl rfl (g := (mkF m 35 #[vr a1, vi p2, vi p2, us, us, us, us] [(.ref y8), (.ref a1)])) rfl rfl (hb hby d4_35)
 refine G st9 ?_
 have N9 := Fr.snoc X9 N8 g_a1
 replace E_a1 := E_a1.wr W9
 replace V_v := V_v.other W9 ne_w_v_a1
 replace V_NI := V_NI.other W9 ne_w_NI_a1
 replace F_a1_a := F_a1_a.other W9 (sn16 hw)
 replace F_a1_v := F_a1_v.same W9
 replace F_a1_s := F_a1_s.other W9 (sn12 hw)
 replace F_a1_m := F_a1_m.other W9 (sn13 hw)
 replace F_a1_i := F_a1_i.other W9 (sn15 hw)
 replace F_a1_h := F_a1_h.other W9 (sn14 hw)
 replace V_y8 := V_y8.other W9 (Ne.symm ne_a1_y8)
 replace Z0 := Nat.le_trans Z0 (Nat.le_of_eq W9.size.symm)
 replace K0 := K0.wr W9 (Or.inl (by simp))
 refine G (fun t k => XS.aloadN X9.here hx rfl (hb hby d4_38) rfl rfl k) ?_
 obtain ⟨T10, X10, e10, st10⟩ := getF X9 hx hZ hown (host := "") (Or.inl (wd30 hw)) Via.refl e9 F_a1_m (g := (mkF m 39 #[vr a1, vi p2, vi p2, us, us, us, us] [(.ref a1)])) rfl rfl (hb hby d4_39)
 refine G st10 ?_
 refine G (fun t k => XS.ifnonnullNo X10.here hx rfl (hb hby d4_42) rfl (XS.iloadN X10.here hx rfl (hb hby d4_45) rfl k)) ?_
 show Go _ _ _ (T10.setTop (mkF m 46 #[vr a1, vi p2, vi p2, us, us, us, us] [(.int p2)])) _
 refine G (fun t k => XS.bipush X10.here hx rfl (hb hby d4_46) k) ?_
 have hf11 : ¬ ((8 : Int32) < p2) := hq8
 refine G (fun t k => XS.icmpYes X10.here hx rfl (pc0 := 48) (pc' := 74) rfl (hb hby d4_48) rfl (flt hf11).2.2.2 (by decide) (by decide) (XS.aloadN X10.here hx rfl (hb hby d4_74) rfl rfl k)) ?_
 obtain ⟨T12, X12, e12, st12⟩ := getF X10 hx hZ hown (host := "") (Or.inl (wd30 hw)) Via.refl e10 F_a1_m (g := (mkF m 75 #[vr a1, vi p2, vi p2, us, us, us, us] [(.ref a1)])) rfl rfl (hb hby d4_75)
 refine G st12 ?_
 refine G (fun t k => XS.ifnullYes X12.here hx rfl (pc0 := 78) (pc' := 89) rfl (hb hby d4_78) rfl (by decide) (by decide) (XS.aloadN X12.here hx rfl (hb hby d4_89) rfl rfl k)) ?_
 obtain ⟨T13, X13, e13, st13⟩ := getF X12 hx hZ hown (host := "") (Or.inl (wd17 hw)) Via.refl e12 F_a1_i (g := (mkF m 90 #[vr a1, vi p2, vi p2, us, us, us, us] [(.ref a1)])) rfl rfl (hb hby d4_90)
 refine G st13 ?_
 show Go _ _ _ (T13.setTop (mkF m 93 #[vr a1, vi p2, vi p2, us, us, us, us] [(.ref w_NI)])) _
 refine G (fun t k => XS.astoreN X13.here hx rfl (hb hby d4_93) rfl rfl (l' := #[vr a1, vi p2, vi p2, vr w_NI, us, us, us]) rfl (XS.aloadN X13.here hx rfl (hb hby d4_94) rfl rfl k)) ?_
 obtain ⟨cl14, Ar14, -, Sz14, Ng14, -, -⟩ := id V_NI
 refine G (fun t k => X13.arraylength hx (by rw [e13]; exact Ar14.1) (State.isArrayOf_alike hZ.alike Ar14.2.1) (g := (mkF m 95 #[vr a1, vi p2, vi p2, vr w_NI, us, us, us] [(.ref w_NI)])) rfl rfl (hb hby d4_95) _ k) ?_
 rw [len_of Sz14 Ng14]
 refine G (fun t k => XS.istore X13.here hx rfl (hb hby d4_96) rfl (l' := #[vr a1, vi p2, vi p2, vr w_NI, vi 0, us, us]) rfl (XS.iconst X13.here hx rfl (hb hby d4_98) (XS.istore X13.here hx rfl (hb hby d4_99) rfl (l' := #[vr a1, vi p2, vi p2, vr w_NI, vi 0, vi 0, us]) rfl (XS.iload X13.here hx rfl (hb hby d4_101) rfl k)))) ?_
 show Go _ _ _ (T13.setTop (mkF m 103 #[vr a1, vi p2, vi p2, vr w_NI, vi 0, vi 0, us] [(.int 0)])) _
 refine G (fun t k => XS.iload X13.here hx rfl (hb hby d4_103) rfl (XS.icmpYes X13.here hx rfl (pc0 := 105) (pc' := 126) rfl (hb hby d4_105) rfl (flt (by decide : ¬ ((0 : Int32) < (0 : Int32)))).2.1 (by decide) (by decide) k)) ?_
 obtain ⟨fs, hr, hrun, hended, hW, hsame⟩ := X13.leave (v := none) (fun _ => rfl)
 refine Go.fin (X13.returnOut hx Bd.returns (hb hby d4_126) hr) hrun hended ⟨_, _, rfl, ?_, ⟨_, rfl⟩, hW, hsame.mono (by decide) (by decide)⟩
 show Q4_1_1 Z a1 p2 w_v k_v w_NI k_NI hAny h0 n0 _ T13.heap _
 rw [e13]
 exact ⟨y8, k_y8, rfl, N9, K0, g_y8, sz_y8, E_a1, F_a1_a, F_a1_v, F_a1_s, F_a1_m, F_a1_i, F_a1_h, V_y8⟩
theorem d4_51 : decode cB4 51 = .ok (.aload_n 0, 1) := by decide +kernel
theorem d4_52 : decode cB4 52 = .ok (.new 29, 3) := by decide +kernel
theorem wd83 {Z a0} (hw : HW a0 Z) : (Jvm.Cond.classLink RC (29 : Nat) IC).before a0 Z = true := mw hw 83 rfl
theorem d4_55 : decode cB4 55 = .ok (.dup, 1) := by decide +kernel
theorem d4_56 : decode cB4 56 = .ok (.aload_n 0, 1) := by decide +kernel
theorem d4_57 : decode cB4 57 = .ok (.aload_n 0, 1) := by decide +kernel
theorem d4_58 : decode cB4 58 = .ok (.getfield 18, 3) := by decide +kernel
theorem d4_61 : decode cB4 61 = .ok (.invokestatic 31, 3) := by decide +kernel
theorem wd86 {Z a0} (hw : HW a0 Z) : (Jvm.Cond.methodLink RC (31 : Nat) ⟨RC, "allPositions", "(I)[I"⟩).before a0 Z = true := mw hw 86 rfl
theorem wd88 {Z a0} (hw : HW a0 Z) : (Jvm.Cond.code ⟨RC, "allPositions", "(I)[I"⟩ cB14 (3 : Nat) (Option.some (Jvm.ClassFile.FieldType.array Jvm.ClassFile.FieldType.int))).before a0 Z = true := mw hw 88 rfl
theorem pd8 : parseMethodDescriptor "(I)[I" = some ⟨[.int], some (.array .int)⟩ := by decide +kernel
theorem wd87 {Z a0} (hw : HW a0 Z) : (Jvm.Cond.static ⟨RC, "allPositions", "(I)[I"⟩).before a0 Z = true := mw hw 87 rfl
theorem d4_64 : decode cB4 64 = .ok (.iload_n 2, 1) := by decide +kernel
theorem d4_65 : decode cB4 65 = .ok (.invokespecial 35, 3) := by decide +kernel
theorem wd89 {Z a0} (hw : HW a0 Z) : (Jvm.Cond.methodLink RC (35 : Nat) ⟨IC, "<init>", "(Lcom/example/bitlattice/bitlattice/eval/Relation;[II)V"⟩).before a0 Z = true := mw hw 89 rfl
theorem wd91 {Z a0} (hw : HW a0 Z) : (Jvm.Cond.code ⟨IC, "<init>", "(Lcom/example/bitlattice/bitlattice/eval/Relation;[II)V"⟩ cB15 (5 : Nat) (Option.none : Option Jvm.ClassFile.FieldType)).before a0 Z = true := mw hw 91 rfl
theorem pd9 : parseMethodDescriptor "(Lcom/example/bitlattice/bitlattice/eval/Relation;[II)V" = some ⟨[(.object RC), (.array .int), .int], none⟩ := by decide +kernel
theorem wd90 {Z a0} (hw : HW a0 Z) : (Jvm.Cond.instanceMethod ⟨IC, "<init>", "(Lcom/example/bitlattice/bitlattice/eval/Relation;[II)V"⟩).before a0 Z = true := mw hw 90 rfl
theorem d4_68 : decode cB4 68 = .ok (.putfield 38, 3) := by decide +kernel
theorem d4_71 : decode cB4 71 = .ok (.goto 18, 3) := by decide +kernel
def Q4_1_2 (Z : State) (a1 : Addr) (p2 : Int32) (w_v : Addr) (k_v : ClassId) (w_NI : Addr) (k_NI : ClassId) (hAny : Int32) (h0 : Heap) (n0 : Nat) (v : Option Value) (h : Heap) (L : List Loc) : Prop := ∃ x4_1_2_0 : Addr, ∃ x4_1_2_1 : Addr, ∃ x4_1_2_2 : Addr, ∃ x4_1_2_3 : Addr, ∃ x4_1_2_4 : Addr, ∃ k_x4_1_2_0 : ClassId, ∃ k_x4_1_2_2 : ClassId, ∃ k_x4_1_2_3 : ClassId, ∃ k_x4_1_2_4 : ClassId, v = none ∧ Fr n0 L ∧ Keep h0 h [a1] ∧ n0 ≤ x4_1_2_0 ∧ h0.size ≤ x4_1_2_0 ∧ n0 ≤ x4_1_2_1 ∧ h0.size ≤ x4_1_2_1 ∧ n0 ≤ x4_1_2_2 ∧ h0.size ≤ x4_1_2_2 ∧ n0 ≤ x4_1_2_3 ∧ h0.size ≤ x4_1_2_3 ∧ n0 ≤ x4_1_2_4 ∧ h0.size ≤ x4_1_2_4 ∧ x4_1_2_0 ≠ x4_1_2_1 ∧ x4_1_2_0 ≠ x4_1_2_2 ∧ x4_1_2_0 ≠ x4_1_2_3 ∧ x4_1_2_0 ≠ x4_1_2_4 ∧ x4_1_2_1 ≠ x4_1_2_2 ∧ x4_1_2_1 ≠ x4_1_2_3 ∧ x4_1_2_1 ≠ x4_1_2_4 ∧ x4_1_2_2 ≠ x4_1_2_3 ∧ x4_1_2_2 ≠ x4_1_2_4 ∧ x4_1_2_3 ≠ x4_1_2_4 ∧ Exa Z h a1 RC ∧ Fld Z h a1 RC "arity" "I" (.int (1 : Int32)) ∧ Fld Z h a1 RC "values" "[I" (.ref x4_1_2_0) ∧ Fld Z h a1 RC "size" "I" (.int (0 : Int32)) ∧ Fld Z h a1 RC "members" RI (.ref x4_1_2_1) ∧ Fld Z h a1 RC "indexes" RJ (.ref w_NI) ∧ Fld Z h a1 RC "holdingAny" "I" (.int hAny) ∧ Arv Z h x4_1_2_0 k_x4_1_2_0 .int (p2 * (1 : Int32)) [] (.int (0 : Int32)) ∧ Exa Z h x4_1_2_1 IC ∧ Arv Z h x4_1_2_2 k_x4_1_2_2 .int (1 : Int32) [(.int (0 : Int32))] (.int (0 : Int32)) ∧ Fld Z h x4_1_2_1 IC "keys" "I" (.int (0 : Int32)) ∧ Fld Z h x4_1_2_1 IC "this$0" RL (.ref a1) ∧ Fld Z h x4_1_2_1 IC "positions" "[I" (.ref x4_1_2_2) ∧ Fld Z h x4_1_2_1 IC "slots" "[I" (.ref x4_1_2_3) ∧ Fld Z h x4_1_2_1 IC "next" "[I" (.ref x4_1_2_4) ∧ Arv Z h x4_1_2_3 k_x4_1_2_3 .int (128 : Int32) [] (.int (0 : Int32)) ∧ Arv Z h x4_1_2_4 k_x4_1_2_4 .int (16 : Int32) [] (.int (0 : Int32))
theorem ef4_1_2 (m : MethodId) (x0 : Addr) (x1 : Int32) : entryFrame m #[(.ref x0), (.int x1)] 7 = mkF m 0 #[.val (.ref x0), .val (.int x1), .unset, .unset, .unset, .unset, .unset] [] := by first | (simp [entryFrame, mkF, argsToLocals, Value.category]; done) | rfl
theorem sn43 {Z a0} (hw : HW a0 Z) {b a : Addr} : b ≠ a ∨ RoadKit.slotOf Z RC "arity" "I" ≠ RoadKit.slotOf Z RC "members" RI := Or.inr (slot_ne (Or.inr (wd20 hw)) (Or.inl (wd31 hw)) (by decide) (t := .int) (t' := (.object IC)) (by decide) (by decide))
theorem sn44 {Z a0} (hw : HW a0 Z) {b a : Addr} : b ≠ a ∨ RoadKit.slotOf Z RC "values" "[I" ≠ RoadKit.slotOf Z RC "members" RI := Or.inr (slot_ne (Or.inl (wd22 hw)) (Or.inl (wd31 hw)) (by decide) (t := (.array .int)) (t' := (.object IC)) (by decide) (by decide))
theorem sn45 {Z a0} (hw : HW a0 Z) {b a : Addr} : b ≠ a ∨ RoadKit.slotOf Z RC "size" "I" ≠ RoadKit.slotOf Z RC "members" RI := Or.inr (slot_ne (Or.inl (wd29 hw)) (Or.inl (wd31 hw)) (by decide) (t := .int) (t' := (.object IC)) (by decide) (by decide))
theorem sn46 {Z a0} (hw : HW a0 Z) {b a : Addr} : b ≠ a ∨ RoadKit.slotOf Z RC "indexes" RJ ≠ RoadKit.slotOf Z RC "members" RI := Or.inr (slot_ne (Or.inl (wd18 hw)) (Or.inl (wd31 hw)) (by decide) (t := (.array (.object IC))) (t' := (.object IC)) (by decide) (by decide))
theorem sn47 {Z a0} (hw : HW a0 Z) {b a : Addr} : b ≠ a ∨ RoadKit.slotOf Z RC "holdingAny" "I" ≠ RoadKit.slotOf Z RC "members" RI := Or.inr (slot_ne (Or.inl (wd58 hw)) (Or.inl (wd31 hw)) (by decide) (t := .int) (t' := (.object IC)) (by decide) (by decide))
theorem rm4_1_2 (l : Launch) (Z : State) (a0 : Array Value) (hw : HW a0 Z) (ws : List Jvm.Cond) (a1 : Addr) (p2 : Int32) (w_v : Addr) (k_v : ClassId) (w_NI : Addr) (k_NI : ClassId) (hAny : Int32) (h0 : Heap) (n0 : Nat) (Z0 : n0 ≤ h0.size) (E_a1 : Exa Z h0 a1 RC) (V_v : Arv Z h0 w_v k_v .int (4 : Int32) [] (.int (0 : Int32))) (V_NI : Arv Z h0 w_NI k_NI (.object IC) (0 : Int32) [] .null) (F_a1_a : Fld Z h0 a1 RC "arity" "I" (.int (1 : Int32))) (F_a1_v : Fld Z h0 a1 RC "values" "[I" (.ref w_v)) (F_a1_s : Fld Z h0 a1 RC "size" "I" (.int (0 : Int32))) (F_a1_m : Fld Z h0 a1 RC "members" RI .null) (F_a1_i : Fld Z h0 a1 RC "indexes" RJ (.ref w_NI)) (F_a1_h : Fld Z h0 a1 RC "holdingAny" "I" (.int hAny)) (ne_w_v_a1 : w_v ≠ a1) (ne_w_NI_a1 : w_NI ≠ a1) (ne_w_NI_w_v : w_NI ≠ w_v) (hr : 0 ≤ p2.toInt ∧ p2.toInt ≤ 15) (hq4 : (4 : Int32) < p2) (hq8 : (8 : Int32) < p2) (g_a1 : n0 ≤ a1) :
  MetFree l (⟨RC, "reserve", "(I)V"⟩ : MethodName) (head1 (Jvm.Cond.code (⟨RC, "reserve", "(I)V"⟩ : MethodName) cB4 7 none :: ws) (Rm 3 5 195 46)) (Pr Z h0 #[(.ref a1), (.int p2)]) Tr (fun _ U o U' => ∃ v L, o = .returned v ∧ Q4_1_2 Z a1 p2 w_v k_v w_NI k_NI hAny h0 n0 v U'.heap L ∧ FrameEnd U o U' L (Rm 3 5 195 46).cells (Rm 3 5 195 46).slots) := by
 refine MetFree.of_bodySF (plainFor_of_name pn0) hisR ?_
 intro p e s m args below meth c s₁ Bd hml0 hP hK
 obtain ⟨rfl, hZ, hh⟩ := hP
 have hx := Bd.exec
 have hby := Bd.bytes
 have hml : c.maxLocals = 7 := hml0
 have hown : s.vm.findClass RC = some m.cls := findClass_of_methodNamed Bd.named
 have hnm := (name_of_methodNamed Bd.named Bd.method).1
 have X0 : Stand p l e (Rm 3 5 195 46) s m #[(.ref a1), (.int p2)] below meth c s₁ [] 0 0 := Stand.of_body Bd
 have e0 : s₁.heap = h0 := by rw [← hh, Bd.state]; rfl
 have N0 := Fr.nil n0
 have K0 : Keep h0 h0 [a1] := Keep.refl h0 _
 refine G (P := fun o U' => ∃ v L, o = .returned v ∧ Q4_1_2 Z a1 p2 w_v k_v w_NI k_NI hAny h0 n0 v U'.heap L ∧ FrameEnd s o U' L (Rm 3 5 195 46).cells (Rm 3 5 195 46).slots) (fun t k => castTop (ef4_1_2 m a1 p2) k) ?_
 show Go _ _ _ (s₁.setTop (mkF m 0 #[vr a1, vi p2, us, us, us, us, us] [])) _
 refine G (fun t k => XS.aloadN X0.here hx rfl (hb hby d4_0) rfl rfl k) ?_
 obtain ⟨T1, X1, e1, st1⟩ := getF X0 hx hZ hown (host := "") (Or.inl (wd28 hw)) Via.refl e0 F_a1_s (g := (mkF m 1 #[vr a1, vi p2, us, us, us, us, us] [(.ref a1)])) rfl rfl (hb hby d4_1)
 refine G st1 ?_
 refine G (fun t k => XS.iloadN X1.here hx rfl (hb hby d4_4) rfl (XS.iadd X1.here hx rfl (hb hby d4_5) rfl (XS.istoreN X1.here hx rfl (hb hby d4_6) rfl (l' := #[vr a1, vi p2, vi ((0 : Int32) + p2), us, us, us, us]) rfl k))) ?_
 show Go _ _ _ (T1.setTop (mkF m 7 #[vr a1, vi p2, vi ((0 : Int32) + p2), us, us, us, us] [])) _
 refine Go.fr (g' := (mkF m 7 #[vr a1, vi p2, vi p2, us, us, us, us] [])) (by rw [Int32.zero_add]) ?_
 show Go _ _ _ (T1.setTop (mkF m 7 #[vr a1, vi p2, vi p2, us, us, us, us] [])) _
 refine G (fun t k => XS.iloadN X1.here hx rfl (hb hby d4_7) rfl (XS.aloadN X1.here hx rfl (hb hby d4_8) rfl rfl k)) ?_
 obtain ⟨T2, X2, e2, st2⟩ := getF X1 hx hZ hown (host := "") (Or.inl (wd19 hw)) Via.refl e1 F_a1_a (g := (mkF m 9 #[vr a1, vi p2, vi p2, us, us, us, us] [(.ref a1), (.int p2)])) rfl rfl (hb hby d4_9)
 refine G st2 ?_
 refine G (fun t k => XS.imul X2.here hx rfl (hb hby d4_12) rfl (XS.aloadN X2.here hx rfl (hb hby d4_13) rfl rfl k)) ?_
 obtain ⟨T3, X3, e3, st3⟩ := getF X2 hx hZ hown (host := "") (Or.inl (wd21 hw)) Via.refl e2 F_a1_v (g := (mkF m 14 #[vr a1, vi p2, vi p2, us, us, us, us] [(.ref a1), (.int (p2 * (1 : Int32)))])) rfl rfl (hb hby d4_14)
 refine G st3 ?_
 obtain ⟨cl4, Ar4, -, Sz4, Ng4, -, -⟩ := id V_v
 refine G (fun t k => X3.arraylength hx (by rw [e3]; exact Ar4.1) (State.isArrayOf_alike hZ.alike Ar4.2.1) (g := (mkF m 17 #[vr a1, vi p2, vi p2, us, us, us, us] [(.ref w_v), (.int (p2 * (1 : Int32)))])) rfl rfl (hb hby d4_17) _ k) ?_
 rw [len_of Sz4 Ng4]
 show Go _ _ _ (T3.setTop (mkF m 18 #[vr a1, vi p2, vi p2, us, us, us, us] [(.int 4), (.int (p2 * (1 : Int32)))])) _
 have hf5 : (4 : Int32) < (p2 * (1 : Int32)) := own_big p2 1 4 1 rfl rfl (by decide) hr hq4
 refine G (fun t k => XS.icmpNo X3.here hx rfl (hb hby d4_18) rfl (tlt hf5).2.2.2 (XS.aloadN X3.here hx rfl (hb hby d4_21) rfl rfl (XS.aloadN X3.here hx rfl (hb hby d4_22) rfl rfl k))) ?_
 obtain ⟨T6, X6, e6, st6⟩ := getF X3 hx hZ hown (host := "") (Or.inl (wd21 hw)) Via.refl e3 F_a1_v (g := (mkF m 23 #[vr a1, vi p2, vi p2, us, us, us, us] [(.ref a1), (.ref a1)])) rfl rfl (hb hby d4_23)
 refine G st6 ?_
 refine G (fun t k => XS.iloadN X6.here hx rfl (hb hby d4_26) rfl (XS.aloadN X6.here hx rfl (hb hby d4_27) rfl rfl k)) ?_
 obtain ⟨T7, X7, e7, st7⟩ := getF X6 hx hZ hown (host := "") (Or.inl (wd19 hw)) Via.refl e6 F_a1_a (g := (mkF m 28 #[vr a1, vi p2, vi p2, us, us, us, us] [(.ref a1), (.int p2), (.ref w_v), (.ref a1)])) rfl rfl (hb hby d4_28)
 refine G st7 ?_
 show Go _ _ _ (T7.setTop (mkF m 31 #[vr a1, vi p2, vi p2, us, us, us, us] [(.int 1), (.int p2), (.ref w_v), (.ref a1)])) _
 refine G (fun t k => XS.imul X7.here hx rfl (hb hby d4_31) rfl k) ?_
 obtain ⟨_, _, ⟨T8, L8, k8, n8⟩, -, X8, ⟨Lc8, hQ8, l8, y8, z8⟩, st8⟩ := Jvm.LawKit.callS X7 hx (y := (⟨"java/util/Arrays", "copyOf", "([II)[I"⟩ : MethodName)) hown (mvT hZ (wd74 hw)) (mvT hZ (wd75 hw)) (mvT hZ (wd76 hw)) (mvT hZ (wd77 hw)) (by decide) (backOf (W := 1) (rm12_1 l Z a0 hw [] w_v (p2 * (1 : Int32)) k_v h0 n0 Z0 V_v (own_big p2 1 4 1 rfl rfl (by decide) hr hq4) (own_45 p2 1 1 rfl (by decide) hr)) hZ (wd77 hw) (wd76 hw) (by decide) (by decide)) (g := (mkF m 32 #[vr a1, vi p2, vi p2, us, us, us, us] [(.int (p2 * (1 : Int32))), (.ref w_v), (.ref a1)])) rfl (by rw [hml]; rfl) (argsL := [(.ref w_v), (.int (p2 * (1 : Int32)))]) (rest := [(.ref a1)]) (lenOf pd7 rfl) rfl (by show 2 * 0 + _ ≤ _; exact Nat.le_of_eq rfl) (hb hby d4_32) (fun _ _ => ⟨rfl, e7, (by decide : 0 + 1 ≤ _), (by decide : 0 + 45 ≤ _)⟩)
 dsimp only [Pt.U, Pt.locs, Pt.cells, Pt.slots] at X8 l8 y8 z8 st8 hQ8
 subst l8 y8 z8
 obtain ⟨h8, e8⟩ : ∃ z, T8.heap = z := ⟨_, rfl⟩
 rw [e8] at hQ8
 obtain ⟨y8, k_y8, rfl, N8q, K8, ng_y8, sz0_y8, Q8_0⟩ := hQ8
 refine G st8 ?_
 have ne_a1_y8 : a1 ≠ y8 := Nat.ne_of_lt (Nat.lt_of_lt_of_le E_a1.lt sz0_y8)
 have ne_w_v_y8 : w_v ≠ y8 := Nat.ne_of_lt (Nat.lt_of_lt_of_le V_v.lt sz0_y8)
 have ne_w_NI_y8 : w_NI ≠ y8 := Nat.ne_of_lt (Nat.lt_of_lt_of_le V_NI.lt sz0_y8)
 have g_y8 : n0 ≤ y8 := ng_y8
 have sz_y8 : h0.size ≤ y8 := Nat.le_trans K0.1 sz0_y8
 replace E_a1 := E_a1.keep K8
 replace V_v := V_v.keep K8 nin0
 replace V_NI := V_NI.keep K8 nin0
 replace F_a1_a := F_a1_a.keep K8 nin0
 replace F_a1_v := F_a1_v.keep K8 nin0
 replace F_a1_s := F_a1_s.keep K8 nin0
 replace F_a1_m := F_a1_m.keep K8 nin0
 replace F_a1_i := F_a1_i.keep K8 nin0
 replace F_a1_h := F_a1_h.keep K8 nin0
 replace Z0 := Nat.le_trans Z0 K8.1
 replace K0 := K0.trans K8 all0
 have V_y8 := Q8_0
 have N8 := Fr.app N0 N8q
 replace V_y8 : Arv Z h8 y8 k_y8 .int (p2 * (1 : Int32)) [] (.int (0 : Int32)) := V_y8.pad (fun i => (pad_rep [] (.int (0 : Int32)) 4 i).symm)
 obtain ⟨T9, h9, X9, e9, W9, st9⟩ := putF X8 hx hZ hown (host := "") (Or.inl (wd21 hw)) Via.refl e8 F_a1_v E_a1 (Or.inl (wd22 hw)) (wd7 hw) (ty := (.array .int)) (by decide) rfl rfl (g := (mkF m 35 #[vr a1, vi p2, vi p2, us, us, us, us] [(.ref y8), (.ref a1)])) rfl rfl (hb hby d4_35)
 refine G st9 ?_
 have N9 := Fr.snoc X9 N8 g_a1
 replace E_a1 := E_a1.wr W9
 replace V_v := V_v.other W9 ne_w_v_a1
 replace V_NI := V_NI.other W9 ne_w_NI_a1
 replace F_a1_a := F_a1_a.other W9 (sn16 hw)
 replace F_a1_v := F_a1_v.same W9
 replace F_a1_s := F_a1_s.other W9 (sn12 hw)
 replace F_a1_m := F_a1_m.other W9 (sn13 hw)
 replace F_a1_i := F_a1_i.other W9 (sn15 hw)
 replace F_a1_h := F_a1_h.other W9 (sn14 hw)
 replace V_y8 := V_y8.other W9 (Ne.symm ne_a1_y8)
 replace Z0 := Nat.le_trans Z0 (Nat.le_of_eq W9.size.symm)
 replace K0 := K0.wr W9 (Or.inl (by simp))
 refine G (fun t k => XS.aloadN X9.here hx rfl (hb hby d4_38) rfl rfl k) ?_
 obtain ⟨T10, X10, e10, st10⟩ := getF X9 hx hZ hown (host := "") (Or.inl (wd30 hw)) Via.refl e9 F_a1_m (g := (mkF m 39 #[vr a1, vi p2, vi p2, us, us, us, us] [(.ref a1)])) rfl rfl (hb hby d4_39)
 refine G st10 ?_
 refine G (fun t k => XS.ifnonnullNo X10.here hx rfl (hb hby d4_42) rfl (XS.iloadN X10.here hx rfl (hb hby d4_45) rfl k)) ?_
 show Go _ _ _ (T10.setTop (mkF m 46 #[vr a1, vi p2, vi p2, us, us, us, us] [(.int p2)])) _
 refine G (fun t k => XS.bipush X10.here hx rfl (hb hby d4_46) k) ?_
 have hf11 : (8 : Int32) < p2 := hq8
 refine G (fun t k => XS.icmpNo X10.here hx rfl (hb hby d4_48) rfl (tlt hf11).2.2.2 (XS.aloadN X10.here hx rfl (hb hby d4_51) rfl rfl k)) ?_
 obtain ⟨T12, h12, X12, e12, E12, A12, D12, -, st12⟩ := newO X10 hx hZ hown (wd83 hw) (wd84 hw) (wd85 hw) e10 (g := (mkF m 52 #[vr a1, vi p2, vi p2, us, us, us, us] [(.ref a1)])) rfl (hb hby d4_52) (by decide) (by decide)
 obtain ⟨b12, g12⟩ : ∃ z, z = h9.size := ⟨_, rfl⟩
 rw [← g12] at A12 D12 st12
 refine G st12 ?_
 have ne_a1_b12 : a1 ≠ b12 := Nat.ne_of_lt (Nat.lt_of_lt_of_le E_a1.lt (Nat.le_of_eq g12.symm))
 have ne_w_v_b12 : w_v ≠ b12 := Nat.ne_of_lt (Nat.lt_of_lt_of_le V_v.lt (Nat.le_of_eq g12.symm))
 have ne_w_NI_b12 : w_NI ≠ b12 := Nat.ne_of_lt (Nat.lt_of_lt_of_le V_NI.lt (Nat.le_of_eq g12.symm))
 have ne_y8_b12 : y8 ≠ b12 := Nat.ne_of_lt (Nat.lt_of_lt_of_le V_y8.lt (Nat.le_of_eq g12.symm))
 have g_b12 : n0 ≤ b12 := Nat.le_trans Z0 (Nat.le_of_eq g12.symm)
 have sz_b12 : h0.size ≤ b12 := Nat.le_trans K0.1 (Nat.le_of_eq g12.symm)
 replace E_a1 := E_a1.ext E12
 replace V_v := V_v.ext E12
 replace V_NI := V_NI.ext E12
 replace F_a1_a := F_a1_a.ext E12
 replace F_a1_v := F_a1_v.ext E12
 replace F_a1_s := F_a1_s.ext E12
 replace F_a1_m := F_a1_m.ext E12
 replace F_a1_i := F_a1_i.ext E12
 replace F_a1_h := F_a1_h.ext E12
 replace V_y8 := V_y8.ext E12
 replace K0 := K0.ext E12
 replace Z0 := Nat.le_trans Z0 E12.1
 have E_b12 := A12
 have F_b12_this_0 : Fld Z h12 b12 IC "this$0" RL .null := D12 (Or.inr (wd93 hw)) (ty := (.object RC)) (by decide)
 have F_b12_p : Fld Z h12 b12 IC "positions" "[I" .null := D12 (Or.inr (wd96 hw)) (ty := (.array .int)) (by decide)
 have F_b12_l : Fld Z h12 b12 IC "slots" "[I" .null := D12 (Or.inl (wd110 hw)) (ty := (.array .int)) (by decide)
 have F_b12_next : Fld Z h12 b12 IC "next" "[I" .null := D12 (Or.inl (wd112 hw)) (ty := (.array .int)) (by decide)
 have F_b12_keys : Fld Z h12 b12 IC "keys" "I" (.int (0 : Int32)) := D12 (Or.inl (wd134 hw)) (ty := .int) (by decide)
 refine G (fun t k => XS.dup X12.here hx rfl (hb hby d4_55) rfl rfl (XS.aloadN X12.here hx rfl (hb hby d4_56) rfl rfl (XS.aloadN X12.here hx rfl (hb hby d4_57) rfl rfl k))) ?_
 show Go _ _ _ (T12.setTop (mkF m 58 #[vr a1, vi p2, vi p2, us, us, us, us] [(.ref a1), (.ref a1), (.ref b12), (.ref b12), (.ref a1)])) _
 obtain ⟨T13, X13, e13, st13⟩ := getF X12 hx hZ hown (host := "") (Or.inl (wd19 hw)) Via.refl e12 F_a1_a (g := (mkF m 58 #[vr a1, vi p2, vi p2, us, us, us, us] [(.ref a1), (.ref a1), (.ref b12), (.ref b12), (.ref a1)])) rfl rfl (hb hby d4_58)
 refine G st13 ?_
 obtain ⟨_, _, ⟨T14, L14, k14, n14⟩, -, X14, ⟨Lc14, hQ14, l14, y14, z14⟩, st14⟩ := Jvm.LawKit.callS X13 hx (y := (⟨RC, "allPositions", "(I)[I"⟩ : MethodName)) hown (mvT hZ (wd86 hw)) (mvT hZ (wd87 hw)) (mvT hZ (wd8 hw)) (mvT hZ (wd88 hw)) (by decide) (backOf (W := 4) (rm14_1 l Z a0 hw []  h12 n0 Z0) hZ (wd88 hw) (wd8 hw) (by decide) (by decide)) (g := (mkF m 61 #[vr a1, vi p2, vi p2, us, us, us, us] [(.int 1), (.ref a1), (.ref b12), (.ref b12), (.ref a1)])) rfl (by rw [hml]; rfl) (argsL := [(.int (1 : Int32))]) (rest := [(.ref a1), (.ref b12), (.ref b12), (.ref a1)]) (lenOf pd8 rfl) rfl (by show 2 * 0 + _ ≤ _; exact Nat.le_of_eq rfl) (hb hby d4_61) (fun _ _ => ⟨rfl, e13, (by decide : 2 + 1 ≤ _), (by decide : 50 + 1 ≤ _)⟩)
 dsimp only [Pt.U, Pt.locs, Pt.cells, Pt.slots] at X14 l14 y14 z14 st14 hQ14
 subst l14 y14 z14
 obtain ⟨h14, e14⟩ : ∃ z, T14.heap = z := ⟨_, rfl⟩
 rw [e14] at hQ14
 obtain ⟨y14, k_y14, rfl, N14q, K14, ng_y14, sz0_y14, Q14_0⟩ := hQ14
 refine G st14 ?_
 have ne_a1_y14 : a1 ≠ y14 := Nat.ne_of_lt (Nat.lt_of_lt_of_le E_a1.lt sz0_y14)
 have ne_w_v_y14 : w_v ≠ y14 := Nat.ne_of_lt (Nat.lt_of_lt_of_le V_v.lt sz0_y14)
 have ne_w_NI_y14 : w_NI ≠ y14 := Nat.ne_of_lt (Nat.lt_of_lt_of_le V_NI.lt sz0_y14)
 have ne_y8_y14 : y8 ≠ y14 := Nat.ne_of_lt (Nat.lt_of_lt_of_le V_y8.lt sz0_y14)
 have ne_b12_y14 : b12 ≠ y14 := Nat.ne_of_lt (Nat.lt_of_lt_of_le E_b12.lt sz0_y14)
 have g_y14 : n0 ≤ y14 := ng_y14
 have sz_y14 : h0.size ≤ y14 := Nat.le_trans K0.1 sz0_y14
 replace E_a1 := E_a1.keep K14
 replace V_v := V_v.keep K14 nin0
 replace V_NI := V_NI.keep K14 nin0
 replace F_a1_a := F_a1_a.keep K14 nin0
 replace F_a1_v := F_a1_v.keep K14 nin0
 replace F_a1_s := F_a1_s.keep K14 nin0
 replace F_a1_m := F_a1_m.keep K14 nin0
 replace F_a1_i := F_a1_i.keep K14 nin0
 replace F_a1_h := F_a1_h.keep K14 nin0
 replace V_y8 := V_y8.keep K14 nin0
 replace E_b12 := E_b12.keep K14
 replace F_b12_this_0 := F_b12_this_0.keep K14 nin0
 replace F_b12_p := F_b12_p.keep K14 nin0
 replace F_b12_l := F_b12_l.keep K14 nin0
 replace F_b12_next := F_b12_next.keep K14 nin0
 replace F_b12_keys := F_b12_keys.keep K14 nin0
 replace Z0 := Nat.le_trans Z0 K14.1
 replace K0 := K0.trans K14 all0
 have V_y14 := Q14_0
 have N14 := Fr.app N9 N14q
 refine G (fun t k => XS.iloadN X14.here hx rfl (hb hby d4_64) rfl k) ?_
 obtain ⟨_, _, ⟨T15, L15, k15, n15⟩, -, X15, ⟨Lc15, hQ15, l15, y15, z15⟩, st15⟩ := X14.specialBack hx (y := (⟨IC, "<init>", "(Lcom/example/bitlattice/bitlattice/eval/Relation;[II)V"⟩ : MethodName)) rfl hown (mvT hZ (wd89 hw)) (mvT hZ (wd90 hw)) (mvT hZ (wd91 hw)) (by decide) (backOf (W := 2) (rm15 l Z a0 hw [] b12 a1 y14 p2 (.null : Value) (.null : Value) (.null : Value) (.null : Value) h14 n0 Z0 E_b12 F_b12_keys F_b12_this_0 F_b12_p F_b12_l F_b12_next F_a1_s ne_a1_b12 hq8 hr.2 g_b12) hZ (wd91 hw) (wd85 hw) (by decide) (by decide)) (g := (mkF m 65 #[vr a1, vi p2, vi p2, us, us, us, us] [(.int p2), (.ref y14), (.ref a1), (.ref b12), (.ref b12), (.ref a1)])) rfl (by rw [hml]; rfl) (Steps.refl _) (a := b12) (argsL := [(.ref a1), (.ref y14), (.int p2)]) (rest := [(.ref b12), (.ref a1)]) (lenOf pd9 rfl) rfl (by show 2 * 0 + _ ≤ _; exact Nat.le_of_eq rfl) (hb hby d4_65) (fun _ _ => ⟨rfl, e14, (by decide : 3 + 2 ≤ _), (by decide : 51 + 144 ≤ _)⟩)
 dsimp only [Pt.U, Pt.locs, Pt.cells, Pt.slots] at X15 l15 y15 z15 st15 hQ15
 subst l15 y15 z15
 have E_b12_pre := E_b12
 have F_b12_this_0_pre := F_b12_this_0
 have F_b12_positions_pre := F_b12_p
 have F_b12_slots_pre := F_b12_l
 have F_b12_next_pre := F_b12_next
 have F_b12_keys_pre := F_b12_keys
 obtain ⟨h15, e15⟩ : ∃ z, T15.heap = z := ⟨_, rfl⟩
 rw [e15] at hQ15
 obtain ⟨y15, y15a, k_y15, k_y15a, rfl, N15q, K15, ng_y15, sz0_y15, ng_y15a, sz0_y15a, nef_y15_y15a, Q15_0, Q15_1, Q15_2, Q15_3, Q15_4, Q15_5, Q15_6, Q15_7⟩ := hQ15
 refine Go.tr st15 ?_
 have ne_a1_y15 : a1 ≠ y15 := Nat.ne_of_lt (Nat.lt_of_lt_of_le E_a1.lt sz0_y15)
 have ne_w_v_y15 : w_v ≠ y15 := Nat.ne_of_lt (Nat.lt_of_lt_of_le V_v.lt sz0_y15)
 have ne_w_NI_y15 : w_NI ≠ y15 := Nat.ne_of_lt (Nat.lt_of_lt_of_le V_NI.lt sz0_y15)
 have ne_y8_y15 : y8 ≠ y15 := Nat.ne_of_lt (Nat.lt_of_lt_of_le V_y8.lt sz0_y15)
 have ne_b12_y15 : b12 ≠ y15 := Nat.ne_of_lt (Nat.lt_of_lt_of_le E_b12.lt sz0_y15)
 have ne_y14_y15 : y14 ≠ y15 := Nat.ne_of_lt (Nat.lt_of_lt_of_le V_y14.lt sz0_y15)
 have g_y15 : n0 ≤ y15 := ng_y15
 have sz_y15 : h0.size ≤ y15 := Nat.le_trans K0.1 sz0_y15
 have ne_a1_y15a : a1 ≠ y15a := Nat.ne_of_lt (Nat.lt_of_lt_of_le E_a1.lt sz0_y15a)
 have ne_w_v_y15a : w_v ≠ y15a := Nat.ne_of_lt (Nat.lt_of_lt_of_le V_v.lt sz0_y15a)
 have ne_w_NI_y15a : w_NI ≠ y15a := Nat.ne_of_lt (Nat.lt_of_lt_of_le V_NI.lt sz0_y15a)
 have ne_y8_y15a : y8 ≠ y15a := Nat.ne_of_lt (Nat.lt_of_lt_of_le V_y8.lt sz0_y15a)
 have ne_b12_y15a : b12 ≠ y15a := Nat.ne_of_lt (Nat.lt_of_lt_of_le E_b12.lt sz0_y15a)
 have ne_y14_y15a : y14 ≠ y15a := Nat.ne_of_lt (Nat.lt_of_lt_of_le V_y14.lt sz0_y15a)
 have g_y15a : n0 ≤ y15a := ng_y15a
 have sz_y15a : h0.size ≤ y15a := Nat.le_trans K0.1 sz0_y15a
 replace E_a1 := E_a1.keep K15
 replace V_v := V_v.keep K15 (ninS ne_w_v_b12 nin0)
 replace V_NI := V_NI.keep K15 (ninS ne_w_NI_b12 nin0)
 replace F_a1_a := F_a1_a.keep K15 (ninS ne_a1_b12 nin0)
 replace F_a1_v := F_a1_v.keep K15 (ninS ne_a1_b12 nin0)
 replace F_a1_s := F_a1_s.keep K15 (ninS ne_a1_b12 nin0)
 replace F_a1_m := F_a1_m.keep K15 (ninS ne_a1_b12 nin0)
 replace F_a1_i := F_a1_i.keep K15 (ninS ne_a1_b12 nin0)
 replace F_a1_h := F_a1_h.keep K15 (ninS ne_a1_b12 nin0)
 replace V_y8 := V_y8.keep K15 (ninS ne_y8_b12 nin0)
 replace E_b12 := E_b12.keep K15
 replace V_y14 := V_y14.keep K15 (ninS (Ne.symm ne_b12_y14) nin0)
 replace Z0 := Nat.le_trans Z0 K15.1
 replace K0 := K0.trans K15 (allS (Or.inr sz_b12) all0)
 have E_b12 := Q15_0
 have F_b12_keys := Q15_1
 have F_b12_this_0 := Q15_2
 have F_b12_p := Q15_3
 have F_b12_l := Q15_4
 have F_b12_next := Q15_5
 have V_y15 := Q15_6
 have V_y15a := Q15_7
 have N15 := Fr.app N14 N15q
 obtain ⟨LL15, X15, N15⟩ : ∃ LL, Stand p l e (Rm 3 5 195 46) s m #[(.ref a1), (.int p2)] below meth c T15 LL 5 195 ∧ Fr n0 LL := ⟨_, X15, N15⟩
 obtain ⟨T16, h16, X16, e16, W16, st16⟩ := putF X15 hx hZ hown (host := "") (Or.inl (wd30 hw)) Via.refl e15 F_a1_m E_a1 (Or.inl (wd31 hw)) (wd7 hw) (ty := (.object IC)) (by decide) rfl rfl (g := (mkF m 68 #[vr a1, vi p2, vi p2, us, us, us, us] [(.ref b12), (.ref a1)])) rfl rfl (hb hby d4_68)
 refine G st16 ?_
 have N16 := Fr.snoc X16 N15 g_a1
 replace E_a1 := E_a1.wr W16
 replace V_v := V_v.other W16 ne_w_v_a1
 replace V_NI := V_NI.other W16 ne_w_NI_a1
 replace F_a1_a := F_a1_a.other W16 (sn43 hw)
 replace F_a1_v := F_a1_v.other W16 (sn44 hw)
 replace F_a1_s := F_a1_s.other W16 (sn45 hw)
 replace F_a1_m := F_a1_m.same W16
 replace F_a1_i := F_a1_i.other W16 (sn46 hw)
 replace F_a1_h := F_a1_h.other W16 (sn47 hw)
 replace V_y8 := V_y8.other W16 (Ne.symm ne_a1_y8)
 replace E_b12 := E_b12.wr W16
 replace V_y14 := V_y14.other W16 (Ne.symm ne_a1_y14)
 replace F_b12_keys := F_b12_keys.other W16 (Or.inl (Ne.symm ne_a1_b12))
 replace F_b12_this_0 := F_b12_this_0.other W16 (Or.inl (Ne.symm ne_a1_b12))
 replace F_b12_p := F_b12_p.other W16 (Or.inl (Ne.symm ne_a1_b12))
 replace F_b12_l := F_b12_l.other W16 (Or.inl (Ne.symm ne_a1_b12))
 replace F_b12_next := F_b12_next.other W16 (Or.inl (Ne.symm ne_a1_b12))
 replace V_y15 := V_y15.other W16 (Ne.symm ne_a1_y15)
 replace V_y15a := V_y15a.other W16 (Ne.symm ne_a1_y15a)
 replace Z0 := Nat.le_trans Z0 (Nat.le_of_eq W16.size.symm)
 replace K0 := K0.wr W16 (Or.inl (by simp))
 refine G (fun t k => XS.goto X16.here hx rfl (pc0 := 71) (pc' := 89) rfl (hb hby d4_71) (by decide) (by decide) (XS.aloadN X16.here hx rfl (hb hby d4_89) rfl rfl k)) ?_
 show Go _ _ _ (T16.setTop (mkF m 90 #[vr a1, vi p2, vi p2, us, us, us, us] [(.ref a1)])) _
 obtain ⟨T17, X17, e17, st17⟩ := getF X16 hx hZ hown (host := "") (Or.inl (wd17 hw)) Via.refl e16 F_a1_i (g := (mkF m 90 #[vr a1, vi p2, vi p2, us, us, us, us] [(.ref a1)])) rfl rfl (hb hby d4_90)
 refine G st17 ?_
 refine G (fun t k => XS.astoreN X17.here hx rfl (hb hby d4_93) rfl rfl (l' := #[vr a1, vi p2, vi p2, vr w_NI, us, us, us]) rfl (XS.aloadN X17.here hx rfl (hb hby d4_94) rfl rfl k)) ?_
 obtain ⟨cl18, Ar18, -, Sz18, Ng18, -, -⟩ := id V_NI
 refine G (fun t k => X17.arraylength hx (by rw [e17]; exact Ar18.1) (State.isArrayOf_alike hZ.alike Ar18.2.1) (g := (mkF m 95 #[vr a1, vi p2, vi p2, vr w_NI, us, us, us] [(.ref w_NI)])) rfl rfl (hb hby d4_95) _ k) ?_
 rw [len_of Sz18 Ng18]
 refine G (fun t k => XS.istore X17.here hx rfl (hb hby d4_96) rfl (l' := #[vr a1, vi p2, vi p2, vr w_NI, vi 0, us, us]) rfl (XS.iconst X17.here hx rfl (hb hby d4_98) (XS.istore X17.here hx rfl (hb hby d4_99) rfl (l' := #[vr a1, vi p2, vi p2, vr w_NI, vi 0, vi 0, us]) rfl k))) ?_
 show Go _ _ _ (T17.setTop (mkF m 101 #[vr a1, vi p2, vi p2, vr w_NI, vi 0, vi 0, us] [])) _
 refine G (fun t k => XS.iload X17.here hx rfl (hb hby d4_101) rfl (XS.iload X17.here hx rfl (hb hby d4_103) rfl (XS.icmpYes X17.here hx rfl (pc0 := 105) (pc' := 126) rfl (hb hby d4_105) rfl (flt (by decide : ¬ ((0 : Int32) < (0 : Int32)))).2.1 (by decide) (by decide) k))) ?_
 obtain ⟨fs, hr, hrun, hended, hW, hsame⟩ := X17.leave (v := none) (fun _ => rfl)
 refine Go.fin (X17.returnOut hx Bd.returns (hb hby d4_126) hr) hrun hended ⟨_, _, rfl, ?_, ⟨_, rfl⟩, hW, hsame.mono (by decide) (by decide)⟩
 show Q4_1_2 Z a1 p2 w_v k_v w_NI k_NI hAny h0 n0 _ T17.heap _
 rw [e17]
 exact ⟨y8, b12, y14, y15, y15a, k_y8, k_y14, k_y15, k_y15a, rfl, N16, K0, g_y8, sz_y8, g_b12, sz_b12, g_y14, sz_y14, g_y15, sz_y15, g_y15a, sz_y15a, ne_y8_b12, ne_y8_y14, ne_y8_y15, ne_y8_y15a, ne_b12_y14, ne_b12_y15, ne_b12_y15a, ne_y14_y15, ne_y14_y15a, nef_y15_y15a, E_a1, F_a1_a, F_a1_v, F_a1_s, F_a1_m, F_a1_i, F_a1_h, V_y8, E_b12, V_y14, F_b12_keys, F_b12_this_0, F_b12_p, F_b12_l, F_b12_next, V_y15, V_y15a⟩
theorem d1_15 : decode cB1 15 = .ok (.aload 4, 2) := by decide +kernel
theorem d1_17 : decode cB1 17 = .ok (.iconst 1, 1) := by decide +kernel
theorem d1_18 : decode cB1 18 = .ok (.iload_n 2, 1) := by decide +kernel
theorem d1_19 : decode cB1 19 = .ok (.iastore, 1) := by decide +kernel
def Q1_2 (Z : State) (p2 : Int32) (p3 : Int32) (p4 : Int32) (h0 : Heap) (n0 : Nat) (v : Option Value) (h : Heap) (L : List Loc) : Prop := ∃ x1_2_0 : Addr, ∃ k_x1_2_0 : ClassId, v = some (.ref x1_2_0) ∧ Fr n0 L ∧ Keep h0 h [] ∧ n0 ≤ x1_2_0 ∧ h0.size ≤ x1_2_0 ∧ Arv Z h x1_2_0 k_x1_2_0 .int (2 : Int32) [(.int p2), (.int p3)] (.int (0 : Int32))
theorem ef1_2 (m : MethodId) (x1 : Int32) (x2 : Int32) (x3 : Int32) : entryFrame m #[(.int (2 : Int32)), (.int x1), (.int x2), (.int x3)] 5 = mkF m 0 #[.val (.int (2 : Int32)), .val (.int x1), .val (.int x2), .val (.int x3), .unset] [] := by first | (simp [entryFrame, mkF, argsToLocals, Value.category]; done) | rfl
theorem rm1_2 (l : Launch) (Z : State) (a0 : Array Value) (hw : HW a0 Z) (ws : List Jvm.Cond) (p2 : Int32) (p3 : Int32) (p4 : Int32) (h0 : Heap) (n0 : Nat) (Z0 : n0 ≤ h0.size) :
  MetFree l (⟨"com/example/bitlattice/bitlattice/eval/RelationClearPinLaw", "row", "(IIII)[I"⟩ : MethodName) (head1 (Jvm.Cond.code (⟨"com/example/bitlattice/bitlattice/eval/RelationClearPinLaw", "row", "(IIII)[I"⟩ : MethodName) cB1 5 (some (.array .int)) :: ws) (Rm 0 1 2 0)) (Pr Z h0 #[(.int (2 : Int32)), (.int p2), (.int p3), (.int p4)]) Tr (fun _ U o U' => ∃ v L, o = .returned v ∧ Q1_2 Z p2 p3 p4 h0 n0 v U'.heap L ∧ FrameEnd U o U' L (Rm 0 1 2 0).cells (Rm 0 1 2 0).slots) := by
 refine MetFree.of_bodySF (plainFor_of_name pn5) hisR ?_
 intro p e s m args below meth c s₁ Bd hml0 hP hK
 obtain ⟨rfl, hZ, hh⟩ := hP
 have hx := Bd.exec
 have hby := Bd.bytes
 have hml : c.maxLocals = 5 := hml0
 have hown : s.vm.findClass "com/example/bitlattice/bitlattice/eval/RelationClearPinLaw" = some m.cls := findClass_of_methodNamed Bd.named
 have hnm := (name_of_methodNamed Bd.named Bd.method).1
 have X0 : Stand p l e (Rm 0 1 2 0) s m #[(.int (2 : Int32)), (.int p2), (.int p3), (.int p4)] below meth c s₁ [] 0 0 := Stand.of_body Bd
 have e0 : s₁.heap = h0 := by rw [← hh, Bd.state]; rfl
 have N0 := Fr.nil n0
 have K0 : Keep h0 h0 [] := Keep.refl h0 _
 refine G (P := fun o U' => ∃ v L, o = .returned v ∧ Q1_2 Z p2 p3 p4 h0 n0 v U'.heap L ∧ FrameEnd s o U' L (Rm 0 1 2 0).cells (Rm 0 1 2 0).slots) (fun t k => castTop (ef1_2 m p2 p3 p4) k) ?_
 show Go _ _ _ (s₁.setTop (mkF m 0 #[vi 2, vi p2, vi p3, vi p4, us] [])) _
 refine G (fun t k => XS.iloadN X0.here hx rfl (hb hby d1_0) rfl k) ?_
 obtain ⟨T1, h1, k1, X1, e1, E1, A1, st1⟩ := newP X0 hx hZ (aty := .int) (wd5 hw) e0 (g := (mkF m 1 #[vi 2, vi p2, vi p3, vi p4, us] [(.int 2)])) rfl (hb hby d1_1) rfl (by decide) (cap := 2) (by decide) (by decide) (by decide) (by decide)
 obtain ⟨b1, g1⟩ : ∃ z, z = h0.size := ⟨_, rfl⟩
 rw [← g1] at A1 st1
 refine G st1 ?_
 have g_b1 : n0 ≤ b1 := Nat.le_trans Z0 (Nat.le_of_eq g1.symm)
 have sz_b1 : h0.size ≤ b1 := Nat.le_trans K0.1 (Nat.le_of_eq g1.symm)
 replace K0 := K0.ext E1
 replace Z0 := Nat.le_trans Z0 E1.1
 have V_b1 : Arv Z h1 b1 k1 .int (2 : Int32) [(.int (0 : Int32)), (.int (0 : Int32))] (.int (0 : Int32)) := (Arv.new A1 (by decide)).pad (pad_rep [] (.int (0 : Int32)) 2)
 refine G (fun t k => XS.astore X1.here hx rfl (hb hby d1_3) rfl rfl (l' := #[vi 2, vi p2, vi p3, vi p4, vr b1]) rfl (XS.aload X1.here hx rfl (hb hby d1_5) rfl rfl (XS.iconst X1.here hx rfl (hb hby d1_7) (XS.iloadN X1.here hx rfl (hb hby d1_8) rfl k)))) ?_
 obtain ⟨cl2, Ar2, qq2, Sz2, Ng2, Hs2, Gs2⟩ := id V_b1
 have hin2 : ¬ ((0 : Int32) < 0 ∨ cl2.slots.size ≤ ((0 : Int32)).toNatClampNeg) := inb_of Sz2 ⟨by decide, by decide⟩
 obtain ⟨T3, h3, X3, e3, W3, st3⟩ := stI X1 hx hZ e1 Ar2 (j := (0 : Int32)) hin2 (g := (mkF m 9 #[vi 2, vi p2, vi p3, vi p4, vr b1] [(.int p2), (.int 0), (.ref b1)])) rfl rfl (hb hby d1_9)
 refine G st3 ?_
 have N3 := Fr.snoc X3 N0 g_b1
 replace Z0 := Nat.le_trans Z0 (Nat.le_of_eq W3.size.symm)
 replace K0 := K0.wr W3 (Or.inr sz_b1)
 replace V_b1 : Arv Z h3 b1 k1 .int (2 : Int32) [(.int p2), (.int (0 : Int32))] (.int (0 : Int32)) := Arv.set Ar2 qq2 Sz2 Ng2 Hs2 Gs2 rfl W3 0 rfl (Nat.le_of_ble_eq_true rfl)
 show Go _ _ _ (T3.setTop (mkF m 10 #[vi 2, vi p2, vi p3, vi p4, vr b1] [])) _
 refine G (fun t k => XS.iloadN X3.here hx rfl (hb hby d1_10) rfl (XS.iconst X3.here hx rfl (hb hby d1_11) (XS.icmpNo X3.here hx rfl (hb hby d1_12) rfl (tlt (by decide : (1 : Int32) < (2 : Int32))).2.2.2 (XS.aload X3.here hx rfl (hb hby d1_15) rfl rfl (XS.iconst X3.here hx rfl (hb hby d1_17) (XS.iloadN X3.here hx rfl (hb hby d1_18) rfl k)))))) ?_
 obtain ⟨cl4, Ar4, qq4, Sz4, Ng4, Hs4, Gs4⟩ := id V_b1
 have hin4 : ¬ ((1 : Int32) < 0 ∨ cl4.slots.size ≤ ((1 : Int32)).toNatClampNeg) := inb_of Sz4 ⟨by decide, by decide⟩
 obtain ⟨T5, h5, X5, e5, W5, st5⟩ := stI X3 hx hZ e3 Ar4 (j := (1 : Int32)) hin4 (g := (mkF m 19 #[vi 2, vi p2, vi p3, vi p4, vr b1] [(.int p3), (.int 1), (.ref b1)])) rfl rfl (hb hby d1_19)
 refine G st5 ?_
 have N5 := Fr.snoc X5 N3 g_b1
 replace Z0 := Nat.le_trans Z0 (Nat.le_of_eq W5.size.symm)
 replace K0 := K0.wr W5 (Or.inr sz_b1)
 replace V_b1 : Arv Z h5 b1 k1 .int (2 : Int32) [(.int p2), (.int p3)] (.int (0 : Int32)) := Arv.set Ar4 qq4 Sz4 Ng4 Hs4 Gs4 rfl W5 1 rfl (Nat.le_of_ble_eq_true rfl)
 show Go _ _ _ (T5.setTop (mkF m 20 #[vi 2, vi p2, vi p3, vi p4, vr b1] [])) _
 refine G (fun t k => XS.iloadN X5.here hx rfl (hb hby d1_20) rfl (XS.iconst X5.here hx rfl (hb hby d1_21) (XS.icmpYes X5.here hx rfl (pc0 := 22) (pc' := 30) rfl (hb hby d1_22) rfl (flt (by decide : ¬ ((2 : Int32) < (2 : Int32)))).2.2.2 (by decide) (by decide) (XS.aload X5.here hx rfl (hb hby d1_30) rfl rfl k)))) ?_
 obtain ⟨fs, hr, hrun, hended, hW, hsame⟩ := X5.leave (v := some (.ref b1)) (fun h => by rw [Bd.returns] at h; cases h)
 refine Go.fin (retOut X5 hx Bd.returns rfl (Or.inr (Or.inr (Or.inr (Or.inr ⟨rfl, rfl, rfl⟩)))) (hb hby d1_32) hr) hrun hended ⟨_, _, rfl, ?_, ⟨_, rfl⟩, hW, hsame.mono (by decide) (by decide)⟩
 show Q1_2 Z p2 p3 p4 h0 n0 _ T5.heap _
 rw [e5]
 exact ⟨b1, k1, rfl, N5, K0, g_b1, sz_b1, V_b1⟩
def Q2_2 (Z : State) (a1 : Addr) (w_NI : Addr) (uI : Value) (uV : Value) (uA : Value) (h0 : Heap) (n0 : Nat) (v : Option Value) (h : Heap) (L : List Loc) : Prop := ∃ x2_2_0 : Addr, ∃ k_x2_2_0 : ClassId, v = none ∧ Fr n0 L ∧ Keep h0 h [a1] ∧ n0 ≤ x2_2_0 ∧ h0.size ≤ x2_2_0 ∧ Exa Z h a1 RC ∧ Fld Z h a1 RC "size" "I" (.int (0 : Int32)) ∧ Fld Z h a1 RC "members" RI .null ∧ Fld Z h a1 RC "holdingAny" "I" (.int (0 : Int32)) ∧ Fld Z h a1 RC "indexes" RJ (.ref w_NI) ∧ Fld Z h a1 RC "values" "[I" (.ref x2_2_0) ∧ Fld Z h a1 RC "arity" "I" (.int (2 : Int32)) ∧ Arv Z h x2_2_0 k_x2_2_0 .int (8 : Int32) [] (.int (0 : Int32))
theorem ef2_2 (m : MethodId) (x0 : Addr) : entryFrame m #[(.ref x0), (.int (2 : Int32))] 2 = mkF m 0 #[.val (.ref x0), .val (.int (2 : Int32))] [] := by first | (simp [entryFrame, mkF, argsToLocals, Value.category]; done) | rfl
theorem rm2_2 (l : Launch) (Z : State) (a0 : Array Value) (hw : HW a0 Z) (ws : List Jvm.Cond) (a1 : Addr) (w_NI : Addr) (uI : Value) (uV : Value) (uA : Value) (h0 : Heap) (n0 : Nat) (Z0 : n0 ≤ h0.size) (E_a1 : Exa Z h0 a1 RC) (S_NI : Sta Z h0 RC "NO_INDEXES" RJ (.ref w_NI)) (F_a1_s : Fld Z h0 a1 RC "size" "I" (.int (0 : Int32))) (F_a1_m : Fld Z h0 a1 RC "members" RI .null) (F_a1_h : Fld Z h0 a1 RC "holdingAny" "I" (.int (0 : Int32))) (F_a1_i : Fld Z h0 a1 RC "indexes" RJ uI) (F_a1_v : Fld Z h0 a1 RC "values" "[I" uV) (F_a1_a : Fld Z h0 a1 RC "arity" "I" uA) (g_a1 : n0 ≤ a1) :
  MetFree l (⟨RC, "<init>", "(I)V"⟩ : MethodName) (head1 (Jvm.Cond.code (⟨RC, "<init>", "(I)V"⟩ : MethodName) cB2 2 none :: ws) (Rm 1 1 8 12)) (Pr Z h0 #[(.ref a1), (.int (2 : Int32))]) Tr (fun _ U o U' => ∃ v L, o = .returned v ∧ Q2_2 Z a1 w_NI uI uV uA h0 n0 v U'.heap L ∧ FrameEnd U o U' L (Rm 1 1 8 12).cells (Rm 1 1 8 12).slots) := by
 refine MetFree.of_bodySF (plainFor_of_name pn0) hisR ?_
 intro p e s m args below meth c s₁ Bd hml0 hP hK
 obtain ⟨rfl, hZ, hh⟩ := hP
 have hx := Bd.exec
 have hby := Bd.bytes
 have hml : c.maxLocals = 2 := hml0
 have hown : s.vm.findClass RC = some m.cls := findClass_of_methodNamed Bd.named
 have hnm := (name_of_methodNamed Bd.named Bd.method).1
 have X0 : Stand p l e (Rm 1 1 8 12) s m #[(.ref a1), (.int (2 : Int32))] below meth c s₁ [] 0 0 := Stand.of_body Bd
 have e0 : s₁.heap = h0 := by rw [← hh, Bd.state]; rfl
 have N0 := Fr.nil n0
 have K0 : Keep h0 h0 [a1] := Keep.refl h0 _
 refine G (P := fun o U' => ∃ v L, o = .returned v ∧ Q2_2 Z a1 w_NI uI uV uA h0 n0 v U'.heap L ∧ FrameEnd s o U' L (Rm 1 1 8 12).cells (Rm 1 1 8 12).slots) (fun t k => castTop (ef2_2 m a1) k) ?_
 show Go _ _ _ (s₁.setTop (mkF m 0 #[vr a1, vi 2] [])) _
 refine G (fun t k => XS.aloadN X0.here hx rfl (hb hby d2_0) rfl rfl k) ?_
 obtain ⟨T1, X1, e1, st1⟩ := initO X0 hx hZ hown (wd12 hw) (wd13 hw) (wd14 hw) e0 (g := (mkF m 1 #[vr a1, vi 2] [(.ref a1)])) rfl (by rw [hml]; rfl) rfl (hb hby d2_1) (by decide) (W := 0) (by show 2 * 0 + _ ≤ _; exact Nat.le_of_eq rfl) (by decide)
 refine G st1 ?_
 refine G (fun t k => XS.aloadN X1.here hx rfl (hb hby d2_4) rfl rfl k) ?_
 obtain ⟨T2, X2, e2, st2⟩ := getS2 X1 hx hZ hown (host := "") (Or.inl (wd15 hw)) Via.refl e1 S_NI (g := (mkF m 5 #[vr a1, vi 2] [(.ref a1)])) rfl (hb hby d2_5)
 refine G st2 ?_
 obtain ⟨T3, h3, X3, e3, W3, st3⟩ := putF X2 hx hZ hown (host := "") (Or.inl (wd17 hw)) Via.refl e2 F_a1_i E_a1 (Or.inl (wd18 hw)) (wd7 hw) (ty := (.array (.object IC))) (by decide) rfl rfl (g := (mkF m 8 #[vr a1, vi 2] [(.ref w_NI), (.ref a1)])) rfl rfl (hb hby d2_8)
 refine G st3 ?_
 have N3 := Fr.snoc X3 N0 g_a1
 replace E_a1 := E_a1.wr W3
 replace S_NI := S_NI.wr W3
 replace F_a1_s := F_a1_s.other W3 (sn2 hw)
 replace F_a1_m := F_a1_m.other W3 (sn3 hw)
 replace F_a1_h := F_a1_h.other W3 (sn4 hw)
 replace F_a1_i := F_a1_i.same W3
 replace F_a1_v := F_a1_v.other W3 (sn5 hw)
 replace F_a1_a := F_a1_a.other W3 (sn6 hw)
 replace Z0 := Nat.le_trans Z0 (Nat.le_of_eq W3.size.symm)
 replace K0 := K0.wr W3 (Or.inl (by simp))
 refine G (fun t k => XS.aloadN X3.here hx rfl (hb hby d2_11) rfl rfl (XS.iloadN X3.here hx rfl (hb hby d2_12) rfl k)) ?_
 show Go _ _ _ (T3.setTop (mkF m 13 #[vr a1, vi 2] [(.int 2), (.ref a1)])) _
 obtain ⟨T4, h4, X4, e4, W4, st4⟩ := putF X3 hx hZ hown (host := "") (Or.inl (wd19 hw)) Via.refl e3 F_a1_a E_a1 (Or.inr ⟨(wd20 hw), rfl, hnm⟩) (wd7 hw) (ty := .int) (by decide) rfl rfl (g := (mkF m 13 #[vr a1, vi 2] [(.int 2), (.ref a1)])) rfl rfl (hb hby d2_13)
 refine G st4 ?_
 have N4 := Fr.snoc X4 N3 g_a1
 replace E_a1 := E_a1.wr W4
 replace S_NI := S_NI.wr W4
 replace F_a1_s := F_a1_s.other W4 (sn7 hw)
 replace F_a1_m := F_a1_m.other W4 (sn8 hw)
 replace F_a1_h := F_a1_h.other W4 (sn9 hw)
 replace F_a1_i := F_a1_i.other W4 (sn10 hw)
 replace F_a1_v := F_a1_v.other W4 (sn11 hw)
 replace F_a1_a := F_a1_a.same W4
 replace Z0 := Nat.le_trans Z0 (Nat.le_of_eq W4.size.symm)
 replace K0 := K0.wr W4 (Or.inl (by simp))
 refine G (fun t k => XS.aloadN X4.here hx rfl (hb hby d2_16) rfl rfl (XS.iloadN X4.here hx rfl (hb hby d2_17) rfl (XS.iconst X4.here hx rfl (hb hby d2_18) (XS.imul X4.here hx rfl (hb hby d2_19) rfl k)))) ?_
 obtain ⟨T5, h5, k5, X5, e5, E5, A5, st5⟩ := newP X4 hx hZ (aty := .int) (wd5 hw) e4 (g := (mkF m 20 #[vr a1, vi 2] [(.int 8), (.ref a1)])) rfl (hb hby d2_20) rfl (by decide) (cap := 8) (by decide) (by decide) (by decide) (by decide)
 obtain ⟨b5, g5⟩ : ∃ z, z = h4.size := ⟨_, rfl⟩
 rw [← g5] at A5 st5
 refine G st5 ?_
 have ne_a1_b5 : a1 ≠ b5 := Nat.ne_of_lt (Nat.lt_of_lt_of_le E_a1.lt (Nat.le_of_eq g5.symm))
 have g_b5 : n0 ≤ b5 := Nat.le_trans Z0 (Nat.le_of_eq g5.symm)
 have sz_b5 : h0.size ≤ b5 := Nat.le_trans K0.1 (Nat.le_of_eq g5.symm)
 replace E_a1 := E_a1.ext E5
 replace S_NI := S_NI.ext E5
 replace F_a1_s := F_a1_s.ext E5
 replace F_a1_m := F_a1_m.ext E5
 replace F_a1_h := F_a1_h.ext E5
 replace F_a1_i := F_a1_i.ext E5
 replace F_a1_v := F_a1_v.ext E5
 replace F_a1_a := F_a1_a.ext E5
 replace K0 := K0.ext E5
 replace Z0 := Nat.le_trans Z0 E5.1
 have V_b5 : Arv Z h5 b5 k5 .int (8 : Int32) [] (.int (0 : Int32)) := Arv.new A5 (by decide)
 obtain ⟨T6, h6, X6, e6, W6, st6⟩ := putF X5 hx hZ hown (host := "") (Or.inl (wd21 hw)) Via.refl e5 F_a1_v E_a1 (Or.inl (wd22 hw)) (wd7 hw) (ty := (.array .int)) (by decide) rfl rfl (g := (mkF m 22 #[vr a1, vi 2] [(.ref b5), (.ref a1)])) rfl rfl (hb hby d2_22)
 refine G st6 ?_
 have N6 := Fr.snoc X6 N4 g_a1
 replace E_a1 := E_a1.wr W6
 replace S_NI := S_NI.wr W6
 replace F_a1_s := F_a1_s.other W6 (sn12 hw)
 replace F_a1_m := F_a1_m.other W6 (sn13 hw)
 replace F_a1_h := F_a1_h.other W6 (sn14 hw)
 replace F_a1_i := F_a1_i.other W6 (sn15 hw)
 replace F_a1_v := F_a1_v.same W6
 replace F_a1_a := F_a1_a.other W6 (sn16 hw)
 replace V_b5 := V_b5.other W6 (Ne.symm ne_a1_b5)
 replace Z0 := Nat.le_trans Z0 (Nat.le_of_eq W6.size.symm)
 replace K0 := K0.wr W6 (Or.inl (by simp))
 show Go _ _ _ (T6.setTop (mkF m 25 #[vr a1, vi 2] [])) _
 obtain ⟨fs, hr, hrun, hended, hW, hsame⟩ := X6.leave (v := none) (fun _ => rfl)
 refine Go.fin (X6.returnOut hx Bd.returns (hb hby d2_25) hr) hrun hended ⟨_, _, rfl, ?_, ⟨_, rfl⟩, hW, hsame.mono (by decide) (by decide)⟩
 show Q2_2 Z a1 w_NI uI uV uA h0 n0 _ T6.heap _
 rw [e6]
 exact ⟨b5, k5, rfl, N6, K0, g_b5, sz_b5, E_a1, F_a1_s, F_a1_m, F_a1_h, F_a1_i, F_a1_v, F_a1_a, V_b5⟩
def Q14_2 (Z : State)  (h0 : Heap) (n0 : Nat) (v : Option Value) (h : Heap) (L : List Loc) : Prop := ∃ x14_2_0 : Addr, ∃ k_x14_2_0 : ClassId, v = some (.ref x14_2_0) ∧ Fr n0 L ∧ Keep h0 h [] ∧ n0 ≤ x14_2_0 ∧ h0.size ≤ x14_2_0 ∧ Arv Z h x14_2_0 k_x14_2_0 .int (2 : Int32) [(.int (0 : Int32)), (.int (1 : Int32))] (.int (0 : Int32))
theorem ef14_2 (m : MethodId)  : entryFrame m #[(.int (2 : Int32))] 3 = mkF m 0 #[.val (.int (2 : Int32)), .unset, .unset] [] := by first | (simp [entryFrame, mkF, argsToLocals, Value.category]; done) | rfl
theorem rm14_2 (l : Launch) (Z : State) (a0 : Array Value) (hw : HW a0 Z) (ws : List Jvm.Cond)  (h0 : Heap) (n0 : Nat) (Z0 : n0 ≤ h0.size) :
  MetFree l (⟨RC, "allPositions", "(I)[I"⟩ : MethodName) (head1 (Jvm.Cond.code (⟨RC, "allPositions", "(I)[I"⟩ : MethodName) cB14 3 (some (.array .int)) :: ws) (Rm 0 1 2 0)) (Pr Z h0 #[(.int (2 : Int32))]) Tr (fun _ U o U' => ∃ v L, o = .returned v ∧ Q14_2 Z h0 n0 v U'.heap L ∧ FrameEnd U o U' L (Rm 0 1 2 0).cells (Rm 0 1 2 0).slots) := by
 refine MetFree.of_bodySF (plainFor_of_name pn0) hisR ?_
 intro p e s m args below meth c s₁ Bd hml0 hP hK
 obtain ⟨rfl, hZ, hh⟩ := hP
 have hx := Bd.exec
 have hby := Bd.bytes
 have hml : c.maxLocals = 3 := hml0
 have hown : s.vm.findClass RC = some m.cls := findClass_of_methodNamed Bd.named
 have hnm := (name_of_methodNamed Bd.named Bd.method).1
 have X0 : Stand p l e (Rm 0 1 2 0) s m #[(.int (2 : Int32))] below meth c s₁ [] 0 0 := Stand.of_body Bd
 have e0 : s₁.heap = h0 := by rw [← hh, Bd.state]; rfl
 have N0 := Fr.nil n0
 have K0 : Keep h0 h0 [] := Keep.refl h0 _
 refine G (P := fun o U' => ∃ v L, o = .returned v ∧ Q14_2 Z h0 n0 v U'.heap L ∧ FrameEnd s o U' L (Rm 0 1 2 0).cells (Rm 0 1 2 0).slots) (fun t k => castTop (ef14_2 m ) k) ?_
 show Go _ _ _ (s₁.setTop (mkF m 0 #[vi 2, us, us] [])) _
 refine G (fun t k => XS.iloadN X0.here hx rfl (hb hby d14_0) rfl k) ?_
 obtain ⟨T1, h1, k1, X1, e1, E1, A1, st1⟩ := newP X0 hx hZ (aty := .int) (wd5 hw) e0 (g := (mkF m 1 #[vi 2, us, us] [(.int 2)])) rfl (hb hby d14_1) rfl (by decide) (cap := 2) (by decide) (by decide) (by decide) (by decide)
 obtain ⟨b1, g1⟩ : ∃ z, z = h0.size := ⟨_, rfl⟩
 rw [← g1] at A1 st1
 refine G st1 ?_
 have g_b1 : n0 ≤ b1 := Nat.le_trans Z0 (Nat.le_of_eq g1.symm)
 have sz_b1 : h0.size ≤ b1 := Nat.le_trans K0.1 (Nat.le_of_eq g1.symm)
 replace K0 := K0.ext E1
 replace Z0 := Nat.le_trans Z0 E1.1
 have V_b1 : Arv Z h1 b1 k1 .int (2 : Int32) [(.int (0 : Int32)), (.int (0 : Int32))] (.int (0 : Int32)) := (Arv.new A1 (by decide)).pad (pad_rep [] (.int (0 : Int32)) 2)
 refine G (fun t k => XS.astoreN X1.here hx rfl (hb hby d14_3) rfl rfl (l' := #[vi 2, vr b1, us]) rfl (XS.iconst X1.here hx rfl (hb hby d14_4) (XS.istoreN X1.here hx rfl (hb hby d14_5) rfl (l' := #[vi 2, vr b1, vi 0]) rfl (XS.iloadN X1.here hx rfl (hb hby d14_6) rfl (XS.iloadN X1.here hx rfl (hb hby d14_7) rfl k))))) ?_
 show Go _ _ _ (T1.setTop (mkF m 8 #[vi 2, vr b1, vi 0] [(.int 2), (.int 0)])) _
 refine G (fun t k => XS.icmpNo X1.here hx rfl (hb hby d14_8) rfl (tlt (by decide : (0 : Int32) < (2 : Int32))).2.1 (XS.aloadN X1.here hx rfl (hb hby d14_11) rfl rfl (XS.iloadN X1.here hx rfl (hb hby d14_12) rfl (XS.iloadN X1.here hx rfl (hb hby d14_13) rfl k)))) ?_
 obtain ⟨cl2, Ar2, qq2, Sz2, Ng2, Hs2, Gs2⟩ := id V_b1
 have hin2 : ¬ ((0 : Int32) < 0 ∨ cl2.slots.size ≤ ((0 : Int32)).toNatClampNeg) := inb_of Sz2 ⟨by decide, by decide⟩
 obtain ⟨T3, h3, X3, e3, W3, st3⟩ := stI X1 hx hZ e1 Ar2 (j := (0 : Int32)) hin2 (g := (mkF m 14 #[vi 2, vr b1, vi 0] [(.int 0), (.int 0), (.ref b1)])) rfl rfl (hb hby d14_14)
 refine G st3 ?_
 have N3 := Fr.snoc X3 N0 g_b1
 replace Z0 := Nat.le_trans Z0 (Nat.le_of_eq W3.size.symm)
 replace K0 := K0.wr W3 (Or.inr sz_b1)
 replace V_b1 : Arv Z h3 b1 k1 .int (2 : Int32) [(.int (0 : Int32)), (.int (0 : Int32))] (.int (0 : Int32)) := Arv.set Ar2 qq2 Sz2 Ng2 Hs2 Gs2 rfl W3 0 rfl (Nat.le_of_ble_eq_true rfl)
 refine G (fun t k => XS.iinc X3.here hx rfl (hb hby d14_15) rfl (l' := #[.val (.int (2 : Int32)), .val (.ref b1), .val (.int ((0 : Int32) + (1 : Int32)))]) rfl (XS.goto X3.here hx rfl (pc0 := 18) (pc' := 6) rfl (hb hby d14_18) (by decide) (by decide) k)) ?_
 show Go _ _ _ (T3.setTop (mkF m 6 #[vi 2, vr b1, vi 1] [])) _
 refine G (fun t k => XS.iloadN X3.here hx rfl (hb hby d14_6) rfl (XS.iloadN X3.here hx rfl (hb hby d14_7) rfl (XS.icmpNo X3.here hx rfl (hb hby d14_8) rfl (tlt (by decide : (1 : Int32) < (2 : Int32))).2.1 (XS.aloadN X3.here hx rfl (hb hby d14_11) rfl rfl (XS.iloadN X3.here hx rfl (hb hby d14_12) rfl (XS.iloadN X3.here hx rfl (hb hby d14_13) rfl k)))))) ?_
 obtain ⟨cl4, Ar4, qq4, Sz4, Ng4, Hs4, Gs4⟩ := id V_b1
 have hin4 : ¬ ((1 : Int32) < 0 ∨ cl4.slots.size ≤ ((1 : Int32)).toNatClampNeg) := inb_of Sz4 ⟨by decide, by decide⟩
 obtain ⟨T5, h5, X5, e5, W5, st5⟩ := stI X3 hx hZ e3 Ar4 (j := (1 : Int32)) hin4 (g := (mkF m 14 #[vi 2, vr b1, vi 1] [(.int 1), (.int 1), (.ref b1)])) rfl rfl (hb hby d14_14)
 refine G st5 ?_
 have N5 := Fr.snoc X5 N3 g_b1
 replace Z0 := Nat.le_trans Z0 (Nat.le_of_eq W5.size.symm)
 replace K0 := K0.wr W5 (Or.inr sz_b1)
 replace V_b1 : Arv Z h5 b1 k1 .int (2 : Int32) [(.int (0 : Int32)), (.int (1 : Int32))] (.int (0 : Int32)) := Arv.set Ar4 qq4 Sz4 Ng4 Hs4 Gs4 rfl W5 1 rfl (Nat.le_of_ble_eq_true rfl)
 show Go _ _ _ (T5.setTop (mkF m 15 #[vi 2, vr b1, vi 1] [])) _
 refine G (fun t k => XS.iinc X5.here hx rfl (hb hby d14_15) rfl (l' := #[.val (.int (2 : Int32)), .val (.ref b1), .val (.int ((1 : Int32) + (1 : Int32)))]) rfl (XS.goto X5.here hx rfl (pc0 := 18) (pc' := 6) rfl (hb hby d14_18) (by decide) (by decide) (XS.iloadN X5.here hx rfl (hb hby d14_6) rfl (XS.iloadN X5.here hx rfl (hb hby d14_7) rfl (XS.icmpYes X5.here hx rfl (pc0 := 8) (pc' := 21) rfl (hb hby d14_8) rfl (flt (by decide : ¬ ((2 : Int32) < (2 : Int32)))).2.1 (by decide) (by decide) (XS.aloadN X5.here hx rfl (hb hby d14_21) rfl rfl k)))))) ?_
 obtain ⟨fs, hr, hrun, hended, hW, hsame⟩ := X5.leave (v := some (.ref b1)) (fun h => by rw [Bd.returns] at h; cases h)
 refine Go.fin (retOut X5 hx Bd.returns rfl (Or.inr (Or.inr (Or.inr (Or.inr ⟨rfl, rfl, rfl⟩)))) (hb hby d14_22) hr) hrun hended ⟨_, _, rfl, ?_, ⟨_, rfl⟩, hW, hsame.mono (by decide) (by decide)⟩
 show Q14_2 Z h0 n0 _ T5.heap _
 rw [e5]
 exact ⟨b1, k1, rfl, N5, K0, g_b1, sz_b1, V_b1⟩
def Q12_2 (Z : State) (a1 : Addr) (p2 : Int32) (k_v : ClassId) (h0 : Heap) (n0 : Nat) (v : Option Value) (h : Heap) (L : List Loc) : Prop := ∃ x12_2_0 : Addr, ∃ k_x12_2_0 : ClassId, v = some (.ref x12_2_0) ∧ Fr n0 L ∧ Keep h0 h [] ∧ n0 ≤ x12_2_0 ∧ h0.size ≤ x12_2_0 ∧ Arv Z h x12_2_0 k_x12_2_0 .int p2 [(.int (0 : Int32)), (.int (0 : Int32)), (.int (0 : Int32)), (.int (0 : Int32)), (.int (0 : Int32)), (.int (0 : Int32)), (.int (0 : Int32)), (.int (0 : Int32))] (.int (0 : Int32))
theorem ef12_2 (m : MethodId) (x0 : Addr) (x1 : Int32) : entryFrame m #[(.ref x0), (.int x1)] 3 = mkF m 0 #[.val (.ref x0), .val (.int x1), .unset] [] := by first | (simp [entryFrame, mkF, argsToLocals, Value.category]; done) | rfl
theorem rm12_2 (l : Launch) (Z : State) (a0 : Array Value) (hw : HW a0 Z) (ws : List Jvm.Cond) (a1 : Addr) (p2 : Int32) (k_v : ClassId) (h0 : Heap) (n0 : Nat) (Z0 : n0 ≤ h0.size) (V_a1 : Arv Z h0 a1 k_v .int (8 : Int32) [] (.int (0 : Int32))) (h4 : (8 : Int32) < p2) (h45 : p2.toInt ≤ 45) :
  MetFree l (⟨"java/util/Arrays", "copyOf", "([II)[I"⟩ : MethodName) (head1 (Jvm.Cond.code (⟨"java/util/Arrays", "copyOf", "([II)[I"⟩ : MethodName) cB12 3 (some (.array .int)) :: ws) (Rm 1 1 45 18)) (Pr Z h0 #[(.ref a1), (.int p2)]) Tr (fun _ U o U' => ∃ v L, o = .returned v ∧ Q12_2 Z a1 p2 k_v h0 n0 v U'.heap L ∧ FrameEnd U o U' L (Rm 1 1 45 18).cells (Rm 1 1 45 18).slots) := by
 refine MetFree.of_bodySF (plainFor_of_name pn6) hisR ?_
 intro p e s m args below meth c s₁ Bd hml0 hP hK
 obtain ⟨rfl, hZ, hh⟩ := hP
 have hx := Bd.exec
 have hby := Bd.bytes
 have hml : c.maxLocals = 3 := hml0
 have hown : s.vm.findClass "java/util/Arrays" = some m.cls := findClass_of_methodNamed Bd.named
 have hnm := (name_of_methodNamed Bd.named Bd.method).1
 have X0 : Stand p l e (Rm 1 1 45 18) s m #[(.ref a1), (.int p2)] below meth c s₁ [] 0 0 := Stand.of_body Bd
 have e0 : s₁.heap = h0 := by rw [← hh, Bd.state]; rfl
 have N0 := Fr.nil n0
 have K0 : Keep h0 h0 [] := Keep.refl h0 _
 refine G (P := fun o U' => ∃ v L, o = .returned v ∧ Q12_2 Z a1 p2 k_v h0 n0 v U'.heap L ∧ FrameEnd s o U' L (Rm 1 1 45 18).cells (Rm 1 1 45 18).slots) (fun t k => castTop (ef12_2 m a1 p2) k) ?_
 show Go _ _ _ (s₁.setTop (mkF m 0 #[vr a1, vi p2, us] [])) _
 refine G (fun t k => XS.iloadN X0.here hx rfl (hb hby d12_0) rfl (XS.aloadN X0.here hx rfl (hb hby d12_1) rfl rfl k)) ?_
 obtain ⟨cl1, Ar1, -, Sz1, Ng1, -, -⟩ := id V_a1
 refine G (fun t k => X0.arraylength hx (by rw [e0]; exact Ar1.1) (State.isArrayOf_alike hZ.alike Ar1.2.1) (g := (mkF m 2 #[vr a1, vi p2, us] [(.ref a1), (.int p2)])) rfl rfl (hb hby d12_2) _ k) ?_
 rw [len_of Sz1 Ng1]
 have hf2 : ¬ (p2 = (8 : Int32)) := fun z => by rw [z] at h4; exact absurd h4 (by decide)
 refine G (fun t k => XS.icmpYes X0.here hx rfl (pc0 := 3) (pc' := 14) rfl (hb hby d12_3) rfl (feq hf2).2 (by decide) (by decide) (XS.iloadN X0.here hx rfl (hb hby d12_14) rfl k)) ?_
 obtain ⟨T3, h3, k3, X3, e3, E3, A3, st3⟩ := newP X0 hx hZ (aty := .int) (wd5 hw) e0 (g := (mkF m 15 #[vr a1, vi p2, us] [(.int p2)])) rfl (hb hby d12_15) rfl (own_nl 0 (8 : Int32) _ (by decide) (own_ge h4)) (cap := 45) (by simp only [Int32.toNatClampNeg]; omega) (by decide) (by decide) (by decide)
 obtain ⟨b3, g3⟩ : ∃ z, z = h0.size := ⟨_, rfl⟩
 rw [← g3] at A3 st3
 refine G st3 ?_
 have ne_a1_b3 : a1 ≠ b3 := Nat.ne_of_lt (Nat.lt_of_lt_of_le V_a1.lt (Nat.le_of_eq g3.symm))
 have g_b3 : n0 ≤ b3 := Nat.le_trans Z0 (Nat.le_of_eq g3.symm)
 have sz_b3 : h0.size ≤ b3 := Nat.le_trans K0.1 (Nat.le_of_eq g3.symm)
 replace V_a1 := V_a1.ext E3
 replace K0 := K0.ext E3
 replace Z0 := Nat.le_trans Z0 E3.1
 have V_b3 : Arv Z h3 b3 k3 .int p2 [] (.int (0 : Int32)) := Arv.new A3 (own_nl 0 (8 : Int32) _ (by decide) (own_ge h4))
 refine G (fun t k => XS.astoreN X3.here hx rfl (hb hby d12_17) rfl rfl (l' := #[vr a1, vi p2, vr b3]) rfl k) ?_
 show Go _ _ _ (T3.setTop (mkF m 18 #[vr a1, vi p2, vr b3] [])) _
 refine G (fun t k => XS.aloadN X3.here hx rfl (hb hby d12_18) rfl rfl (XS.iconst X3.here hx rfl (hb hby d12_19) (XS.aloadN X3.here hx rfl (hb hby d12_20) rfl rfl (XS.iconst X3.here hx rfl (hb hby d12_21) (XS.aloadN X3.here hx rfl (hb hby d12_22) rfl rfl k))))) ?_
 obtain ⟨cl4, Ar4, -, Sz4, Ng4, -, -⟩ := id V_a1
 refine G (fun t k => X3.arraylength hx (by rw [e3]; exact Ar4.1) (State.isArrayOf_alike hZ.alike Ar4.2.1) (g := (mkF m 23 #[vr a1, vi p2, vr b3] [(.ref a1), (.int 0), (.ref b3), (.int 0), (.ref a1)])) rfl rfl (hb hby d12_23) _ k) ?_
 rw [len_of Sz4 Ng4]
 refine G (fun t k => XS.iloadN X3.here hx rfl (hb hby d12_24) rfl k) ?_
 show Go _ _ _ (T3.setTop (mkF m 25 #[vr a1, vi p2, vr b3] [(.int p2), (.int 8), (.int 0), (.ref b3), (.int 0), (.ref a1)])) _
 obtain ⟨_, _, ⟨T5, L5, k5, n5⟩, -, X5, ⟨Lc5, hQ5, l5, y5, z5⟩, st5⟩ := Jvm.LawKit.callS X3 hx (y := (⟨"java/lang/Math", "min", "(II)I"⟩ : MethodName)) hown (mvT hZ (wd78 hw)) (mvT hZ (wd79 hw)) (mvT hZ (wd80 hw)) (mvT hZ (wd81 hw)) (by decide) (backOf (W := 4) (rm13 l Z a0 hw [] (8 : Int32) p2 h3 n0 Z0) hZ (wd81 hw) (wd80 hw) (by decide) (by decide)) (g := (mkF m 25 #[vr a1, vi p2, vr b3] [(.int p2), (.int 8), (.int 0), (.ref b3), (.int 0), (.ref a1)])) rfl (by rw [hml]; rfl) (argsL := [(.int (8 : Int32)), (.int p2)]) (rest := [(.int (0 : Int32)), (.ref b3), (.int (0 : Int32)), (.ref a1)]) (lenOf pd2 rfl) rfl (by show 2 * 0 + _ ≤ _; exact Nat.le_of_eq rfl) (hb hby d12_25) (fun _ _ => ⟨rfl, e3, (by decide : 1 + 0 ≤ _), (by decide : 45 + 0 ≤ _)⟩)
 dsimp only [Pt.U, Pt.locs, Pt.cells, Pt.slots] at X5 l5 y5 z5 st5 hQ5
 subst l5 y5 z5
 refine G st5 ?_
 obtain ⟨rfl, N5q, e5⟩ := hQ5
 have N5 := Fr.app N0 N5q
 show Go _ _ _ (T5.setTop (mkF m 28 #[vr a1, vi p2, vr b3] [(.int (f13 (8 : Int32) p2)), (.int 0), (.ref b3), (.int 0), (.ref a1)])) _
 have hf6 : ¬ (p2 < (8 : Int32)) := own_ge h4
 rw [show (f13 (8 : Int32) p2) = (8 : Int32) from by unfold f13; simp only [if_neg hf6, if_true, if_false]]
 show Go _ _ _ (T5.setTop (mkF m 28 #[vr a1, vi p2, vr b3] [(.int 8), (.int 0), (.ref b3), (.int 0), (.ref a1)])) _
 replace V_a1 : Arv Z h3 a1 k_v .int (8 : Int32) [(.int (0 : Int32)), (.int (0 : Int32)), (.int (0 : Int32)), (.int (0 : Int32)), (.int (0 : Int32)), (.int (0 : Int32)), (.int (0 : Int32)), (.int (0 : Int32))] (.int (0 : Int32)) := V_a1.pad (pad_rep [] (.int (0 : Int32)) 8)
 replace V_b3 : Arv Z h3 b3 k3 .int p2 [(.int (0 : Int32)), (.int (0 : Int32)), (.int (0 : Int32)), (.int (0 : Int32)), (.int (0 : Int32)), (.int (0 : Int32)), (.int (0 : Int32)), (.int (0 : Int32))] (.int (0 : Int32)) := V_b3.pad (pad_rep [] (.int (0 : Int32)) 8)
 have V_b3_pre := V_b3
 obtain ⟨T7, h7, L7, X7, e7, N7, K7, B7, st7⟩ := cpA X5 hx hZ hown (wd82 hw) (wd45 hw) (wd43 hw) (wd44 hw) e5 V_a1 V_b3 (us := [(.int (0 : Int32)), (.int (0 : Int32)), (.int (0 : Int32)), (.int (0 : Int32)), (.int (0 : Int32)), (.int (0 : Int32)), (.int (0 : Int32)), (.int (0 : Int32))]) (Or.inl ⟨rfl, rfl⟩) (sp := (0 : Int32)) (dp := (0 : Int32)) (nn := (8 : Int32)) (by decide) (by decide) (by decide) (by decide) (own_cpl 0 8 (8 : Int32) _ (by decide) (by decide) (own_ge h4)) rfl (Nat.le_of_ble_eq_true rfl) N5 g_b3 (g := (mkF m 28 #[vr a1, vi p2, vr b3] [(.int 8), (.int 0), (.ref b3), (.int 0), (.ref a1)])) rfl (by rw [hml]; rfl) rfl (hb hby d12_28) (by decide) (W := 0) (by show 2 * 0 + _ ≤ _; exact Nat.le_of_eq rfl) (by decide)
 refine G st7 ?_
 replace V_a1 := V_a1.keep K7 (ninS ne_a1_b3 nin0)
 replace Z0 := Nat.le_trans Z0 K7.1
 replace K0 := K0.trans K7 (allS (Or.inr sz_b3) all0)
 have V_b3 : Arv Z h7 b3 k3 .int p2 [(.int (0 : Int32)), (.int (0 : Int32)), (.int (0 : Int32)), (.int (0 : Int32)), (.int (0 : Int32)), (.int (0 : Int32)), (.int (0 : Int32)), (.int (0 : Int32))] (.int (0 : Int32)) := B7
 refine G (fun t k => XS.aloadN X7.here hx rfl (hb hby d12_31) rfl rfl k) ?_
 obtain ⟨fs, hr, hrun, hended, hW, hsame⟩ := X7.leave (v := some (.ref b3)) (fun h => by rw [Bd.returns] at h; cases h)
 refine Go.fin (retOut X7 hx Bd.returns rfl (Or.inr (Or.inr (Or.inr (Or.inr ⟨rfl, rfl, rfl⟩)))) (hb hby d12_32) hr) hrun hended ⟨_, _, rfl, ?_, ⟨_, rfl⟩, hW, hsame.mono (by decide) (by decide)⟩
 show Q12_2 Z a1 p2 k_v h0 n0 _ T7.heap _
 rw [e7]
 exact ⟨b3, k3, rfl, N7, K0, g_b3, sz_b3, V_b3⟩
def f20_2 (v0 : Int32) (v1 : Int32) : Int32 := (((((0 : Int32) + v0) * (-1640531535 : Int32)) + v1) * (-1640531535 : Int32))
def Q20_2 (Z : State) (a1 : Addr) (w_rel : Addr) (w_pos : Addr) (w_sl : Addr) (w_nx : Addr) (k_p : ClassId) (k_s : ClassId) (k_n : ClassId) (w_v : Addr) (k_v : ClassId) (ln : Int32) (v0 : Int32) (v1 : Int32) (h0 : Heap) (n0 : Nat) (v : Option Value) (h : Heap) (L : List Loc) : Prop := v = some (.int (f20_2 v0 v1)) ∧ Fr n0 L ∧ h = h0
theorem ef20_2 (m : MethodId) (x0 : Addr) : entryFrame m #[(.ref x0), (.int (0 : Int32))] 7 = mkF m 0 #[.val (.ref x0), .val (.int (0 : Int32)), .unset, .unset, .unset, .unset, .unset] [] := by first | (simp [entryFrame, mkF, argsToLocals, Value.category]; done) | rfl
theorem rm20_2 (l : Launch) (Z : State) (a0 : Array Value) (hw : HW a0 Z) (ws : List Jvm.Cond) (a1 : Addr) (w_rel : Addr) (w_pos : Addr) (w_sl : Addr) (w_nx : Addr) (k_p : ClassId) (k_s : ClassId) (k_n : ClassId) (w_v : Addr) (k_v : ClassId) (ln : Int32) (v0 : Int32) (v1 : Int32) (h0 : Heap) (n0 : Nat) (Z0 : n0 ≤ h0.size) (E_a1 : Exa Z h0 a1 IC) (F_a1_p : Fld Z h0 a1 IC "positions" "[I" (.ref w_pos)) (F_a1_l : Fld Z h0 a1 IC "slots" "[I" (.ref w_sl)) (F_a1_next : Fld Z h0 a1 IC "next" "[I" (.ref w_nx)) (F_a1_keys : Fld Z h0 a1 IC "keys" "I" (.int (0 : Int32))) (V_pos : Arv Z h0 w_pos k_p .int (2 : Int32) [(.int (0 : Int32)), (.int (1 : Int32))] (.int (0 : Int32))) (V_sl : Arh Z h0 w_sl k_s .int (128 : Int32) [] [] (.int (0 : Int32))) (V_nx : Arv Z h0 w_nx k_n .int (16 : Int32) [] (.int (0 : Int32))) (F_a1_this_0 : Fld Z h0 a1 IC "this$0" RL (.ref w_rel)) (V_v : Arv Z h0 w_v k_v .int ln [(.int v0), (.int v1)] (.int (0 : Int32))) (F_w_rel_v : Fld Z h0 w_rel RC "values" "[I" (.ref w_v)) (F_w_rel_a : Fld Z h0 w_rel RC "arity" "I" (.int (2 : Int32))) (hln : ¬ ln < (8 : Int32)) (ne_w_pos_a1 : w_pos ≠ a1) (ne_w_sl_a1 : w_sl ≠ a1) (ne_w_sl_w_pos : w_sl ≠ w_pos) (ne_w_nx_a1 : w_nx ≠ a1) (ne_w_nx_w_pos : w_nx ≠ w_pos) (ne_w_nx_w_sl : w_nx ≠ w_sl) (ne_w_rel_a1 : w_rel ≠ a1) (ne_w_rel_w_pos : w_rel ≠ w_pos) (ne_w_rel_w_sl : w_rel ≠ w_sl) (ne_w_rel_w_nx : w_rel ≠ w_nx) (ne_w_v_a1 : w_v ≠ a1) (ne_w_v_w_pos : w_v ≠ w_pos) (ne_w_v_w_sl : w_v ≠ w_sl) (ne_w_v_w_nx : w_v ≠ w_nx) (ne_w_v_w_rel : w_v ≠ w_rel) :
  MetFree l (⟨IC, "hash", "(I)I"⟩ : MethodName) (head1 (Jvm.Cond.code (⟨IC, "hash", "(I)I"⟩ : MethodName) cB20 7 (some .int) :: ws) (Rm 1 0 0 13)) (Pr Z h0 #[(.ref a1), (.int (0 : Int32))]) Tr (fun _ U o U' => ∃ v L, o = .returned v ∧ Q20_2 Z a1 w_rel w_pos w_sl w_nx k_p k_s k_n w_v k_v ln v0 v1 h0 n0 v U'.heap L ∧ FrameEnd U o U' L (Rm 1 0 0 13).cells (Rm 1 0 0 13).slots) := by
 refine MetFree.of_bodySF (plainFor_of_name pn1) hisR ?_
 intro p e s m args below meth c s₁ Bd hml0 hP hK
 obtain ⟨rfl, hZ, hh⟩ := hP
 have hx := Bd.exec
 have hby := Bd.bytes
 have hml : c.maxLocals = 7 := hml0
 have hown : s.vm.findClass IC = some m.cls := findClass_of_methodNamed Bd.named
 have hnm := (name_of_methodNamed Bd.named Bd.method).1
 have X0 : Stand p l e (Rm 1 0 0 13) s m #[(.ref a1), (.int (0 : Int32))] below meth c s₁ [] 0 0 := Stand.of_body Bd
 have e0 : s₁.heap = h0 := by rw [← hh, Bd.state]; rfl
 have N0 := Fr.nil n0
 have K0 : Keep h0 h0 [] := Keep.refl h0 _
 refine G (P := fun o U' => ∃ v L, o = .returned v ∧ Q20_2 Z a1 w_rel w_pos w_sl w_nx k_p k_s k_n w_v k_v ln v0 v1 h0 n0 v U'.heap L ∧ FrameEnd s o U' L (Rm 1 0 0 13).cells (Rm 1 0 0 13).slots) (fun t k => castTop (ef20_2 m a1) k) ?_
 show Go _ _ _ (s₁.setTop (mkF m 0 #[vr a1, vi 0, us, us, us, us, us] [])) _
 refine G (fun t k => XS.iconst X0.here hx rfl (hb hby d20_0) (XS.istoreN X0.here hx rfl (hb hby d20_1) rfl (l' := #[vr a1, vi 0, vi 0, us, us, us, us]) rfl (XS.aloadN X0.here hx rfl (hb hby d20_2) rfl rfl k))) ?_
 obtain ⟨T1, X1, e1, st1⟩ := getF X0 hx hZ hown (host := "") (Or.inl (wd95 hw)) Via.refl e0 F_a1_p (g := (mkF m 3 #[vr a1, vi 0, vi 0, us, us, us, us] [(.ref a1)])) rfl rfl (hb hby d20_3)
 refine G st1 ?_
 refine G (fun t k => XS.astoreN X1.here hx rfl (hb hby d20_6) rfl rfl (l' := #[vr a1, vi 0, vi 0, vr w_pos, us, us, us]) rfl (XS.aloadN X1.here hx rfl (hb hby d20_7) rfl rfl k)) ?_
 obtain ⟨cl2, Ar2, -, Sz2, Ng2, -, -⟩ := id V_pos
 refine G (fun t k => X1.arraylength hx (by rw [e1]; exact Ar2.1) (State.isArrayOf_alike hZ.alike Ar2.2.1) (g := (mkF m 8 #[vr a1, vi 0, vi 0, vr w_pos, us, us, us] [(.ref w_pos)])) rfl rfl (hb hby d20_8) _ k) ?_
 rw [len_of Sz2 Ng2]
 show Go _ _ _ (T1.setTop (mkF m 9 #[vr a1, vi 0, vi 0, vr w_pos, us, us, us] [(.int 2)])) _
 refine G (fun t k => XS.istore X1.here hx rfl (hb hby d20_9) rfl (l' := #[vr a1, vi 0, vi 0, vr w_pos, vi 2, us, us]) rfl (XS.iconst X1.here hx rfl (hb hby d20_11) (XS.istore X1.here hx rfl (hb hby d20_12) rfl (l' := #[vr a1, vi 0, vi 0, vr w_pos, vi 2, vi 0, us]) rfl (XS.iload X1.here hx rfl (hb hby d20_14) rfl (XS.iload X1.here hx rfl (hb hby d20_16) rfl (XS.icmpNo X1.here hx rfl (hb hby d20_18) rfl (tlt (by decide : (0 : Int32) < (2 : Int32))).2.1 k)))))) ?_
 refine G (fun t k => XS.aloadN X1.here hx rfl (hb hby d20_21) rfl rfl k) ?_
 show Go _ _ _ (T1.setTop (mkF m 22 #[vr a1, vi 0, vi 0, vr w_pos, vi 2, vi 0, us] [(.ref w_pos)])) _
 refine G (fun t k => XS.iload X1.here hx rfl (hb hby d20_22) rfl k) ?_
 obtain ⟨cl3, Ar3, -, Sz3, Ng3, Hs3, -⟩ := id V_pos
 have hin3 : ¬ ((0 : Int32) < 0 ∨ cl3.slots.size ≤ ((0 : Int32)).toNatClampNeg) := inb_of Sz3 ⟨by decide, by decide⟩
 refine G (fun t k => X1.iaload hx (j := (0 : Int32)) (v := (.int (0 : Int32))) (by rw [e1]; exact Ar3.1) (State.isArrayOf_alike hZ.alike Ar3.2.1) Ar3.2.2 hin3 (Has.at Hs3 hin3 rfl) (g := (mkF m 24 #[vr a1, vi 0, vi 0, vr w_pos, vi 2, vi 0, us] [(.int 0), (.ref w_pos)])) rfl rfl (hb hby d20_24) _ (XS.istore X1.here hx rfl (hb hby d20_25) rfl (l' := #[vr a1, vi 0, vi 0, vr w_pos, vi 2, vi 0, vi 0]) rfl (XS.iloadN X1.here hx rfl (hb hby d20_27) rfl (XS.aloadN X1.here hx rfl (hb hby d20_28) rfl rfl k)))) ?_
 obtain ⟨T4, X4, e4, st4⟩ := getF X1 hx hZ hown (host := "") (Or.inl (wd92 hw)) Via.refl e1 F_a1_this_0 (g := (mkF m 29 #[vr a1, vi 0, vi 0, vr w_pos, vi 2, vi 0, vi 0] [(.ref a1), (.int 0)])) rfl rfl (hb hby d20_29)
 refine G st4 ?_
 obtain ⟨T5, X5, e5, st5⟩ := getF X4 hx hZ hown (Or.inr (wd123 hw)) Via.refl e4 F_w_rel_v (g := (mkF m 32 #[vr a1, vi 0, vi 0, vr w_pos, vi 2, vi 0, vi 0] [(.ref w_rel), (.int 0)])) rfl rfl (hb hby d20_32)
 refine G st5 ?_
 show Go _ _ _ (T5.setTop (mkF m 35 #[vr a1, vi 0, vi 0, vr w_pos, vi 2, vi 0, vi 0] [(.ref w_v), (.int 0)])) _
 refine G (fun t k => XS.iloadN X5.here hx rfl (hb hby d20_35) rfl (XS.aloadN X5.here hx rfl (hb hby d20_36) rfl rfl k)) ?_
 obtain ⟨T6, X6, e6, st6⟩ := getF X5 hx hZ hown (host := "") (Or.inl (wd92 hw)) Via.refl e5 F_a1_this_0 (g := (mkF m 37 #[vr a1, vi 0, vi 0, vr w_pos, vi 2, vi 0, vi 0] [(.ref a1), (.int 0), (.ref w_v), (.int 0)])) rfl rfl (hb hby d20_37)
 refine G st6 ?_
 obtain ⟨T7, X7, e7, st7⟩ := getF X6 hx hZ hown (Or.inr (wd124 hw)) Via.refl e6 F_w_rel_a (g := (mkF m 40 #[vr a1, vi 0, vi 0, vr w_pos, vi 2, vi 0, vi 0] [(.ref w_rel), (.int 0), (.ref w_v), (.int 0)])) rfl rfl (hb hby d20_40)
 refine G st7 ?_
 refine G (fun t k => XS.imul X7.here hx rfl (hb hby d20_43) rfl (XS.iload X7.here hx rfl (hb hby d20_44) rfl (XS.iadd X7.here hx rfl (hb hby d20_46) rfl k))) ?_
 show Go _ _ _ (T7.setTop (mkF m 47 #[vr a1, vi 0, vi 0, vr w_pos, vi 2, vi 0, vi 0] [(.int 0), (.ref w_v), (.int 0)])) _
 obtain ⟨cl8, Ar8, -, Sz8, Ng8, Hs8, -⟩ := id V_v
 have hin8 : ¬ ((0 : Int32) < 0 ∨ cl8.slots.size ≤ ((0 : Int32)).toNatClampNeg) := inb_of Sz8 ⟨by decide, (own_ltl (0 : Int32) (8 : Int32) _ (by decide) hln)⟩
 refine G (fun t k => X7.iaload hx (j := (0 : Int32)) (v := (.int v0)) (by rw [e7]; exact Ar8.1) (State.isArrayOf_alike hZ.alike Ar8.2.1) Ar8.2.2 hin8 (Has.at Hs8 hin8 rfl) (g := (mkF m 47 #[vr a1, vi 0, vi 0, vr w_pos, vi 2, vi 0, vi 0] [(.int 0), (.ref w_v), (.int 0)])) rfl rfl (hb hby d20_47) _ k) ?_
 obtain ⟨_, _, ⟨T9, L9, k9, n9⟩, -, X9, ⟨Lc9, hQ9, l9, y9, z9⟩, st9⟩ := callSN X7 hx (y := (⟨RC, "mix", "(II)I"⟩ : MethodName)) hown (own_mvM hZ (wd125 hw)) (mvT hZ (wd126 hw)) (mvT hZ (wd8 hw)) (mvT hZ (wd127 hw)) (by decide) (backOf (W := 0) (rm21 l Z a0 hw [] (0 : Int32) v0 h0 n0 Z0) hZ (wd127 hw) (wd8 hw) (by decide) (by decide)) (g := (mkF m 48 #[vr a1, vi 0, vi 0, vr w_pos, vi 2, vi 0, vi 0] [(.int v0), (.int 0)])) rfl (by rw [hml]; rfl) (argsL := [(.int (0 : Int32)), (.int v0)]) (rest := []) (lenOf pd2 rfl) rfl (by show 2 * 0 + _ ≤ _; exact Nat.le_of_eq rfl) (hb hby d20_48) (fun _ _ => ⟨rfl, e7, (by decide : 0 + 0 ≤ _), (by decide : 0 + 0 ≤ _)⟩)
 dsimp only [Pt.U, Pt.locs, Pt.cells, Pt.slots] at X9 l9 y9 z9 st9 hQ9
 subst l9 y9 z9
 refine Go.tr st9 ?_
 obtain ⟨rfl, N9q, e9⟩ := hQ9
 have N9 := Fr.app N0 N9q
 refine G (fun t k => XS.istoreN X9.here hx rfl (hb hby d20_51) rfl (l' := #[vr a1, vi 0, vi (((0 : Int32) + v0) * (-1640531535 : Int32)), vr w_pos, vi 2, vi 0, vi 0]) rfl (XS.iinc X9.here hx rfl (hb hby d20_52) rfl (l' := #[.val (.ref a1), .val (.int (0 : Int32)), .val (.int (((0 : Int32) + v0) * (-1640531535 : Int32))), .val (.ref w_pos), .val (.int (2 : Int32)), .val (.int ((0 : Int32) + (1 : Int32))), .val (.int (0 : Int32))]) rfl (XS.goto X9.here hx rfl (pc0 := 55) (pc' := 14) rfl (hb hby d20_55) (by decide) (by decide) (XS.iload X9.here hx rfl (hb hby d20_14) rfl (XS.iload X9.here hx rfl (hb hby d20_16) rfl k))))) ?_
 show Go _ _ _ (T9.setTop (mkF m 18 #[vr a1, vi 0, vi (((0 : Int32) + v0) * (-1640531535 : Int32)), vr w_pos, vi 2, vi 1, vi 0] [(.int 2), (.int 1)])) _
 refine G (fun t k => XS.icmpNo X9.here hx rfl (hb hby d20_18) rfl (tlt (by decide : (1 : Int32) < (2 : Int32))).2.1 (XS.aloadN X9.here hx rfl (hb hby d20_21) rfl rfl (XS.iload X9.here hx rfl (hb hby d20_22) rfl k))) ?_
 obtain ⟨cl10, Ar10, -, Sz10, Ng10, Hs10, -⟩ := id V_pos
 have hin10 : ¬ ((1 : Int32) < 0 ∨ cl10.slots.size ≤ ((1 : Int32)).toNatClampNeg) := inb_of Sz10 ⟨by decide, by decide⟩
 refine G (fun t k => X9.iaload hx (j := (1 : Int32)) (v := (.int (1 : Int32))) (by rw [e9]; exact Ar10.1) (State.isArrayOf_alike hZ.alike Ar10.2.1) Ar10.2.2 hin10 (Has.at Hs10 hin10 rfl) (g := (mkF m 24 #[vr a1, vi 0, vi (((0 : Int32) + v0) * (-1640531535 : Int32)), vr w_pos, vi 2, vi 1, vi 0] [(.int 1), (.ref w_pos)])) rfl rfl (hb hby d20_24) _ (XS.istore X9.here hx rfl (hb hby d20_25) rfl (l' := #[vr a1, vi 0, vi (((0 : Int32) + v0) * (-1640531535 : Int32)), vr w_pos, vi 2, vi 1, vi 1]) rfl (XS.iloadN X9.here hx rfl (hb hby d20_27) rfl (XS.aloadN X9.here hx rfl (hb hby d20_28) rfl rfl k)))) ?_
 show Go _ _ _ (T9.setTop (mkF m 29 #[vr a1, vi 0, vi (((0 : Int32) + v0) * (-1640531535 : Int32)), vr w_pos, vi 2, vi 1, vi 1] [(.ref a1), (.int (((0 : Int32) + v0) * (-1640531535 : Int32)))])) _
 obtain ⟨T11, X11, e11, st11⟩ := getF X9 hx hZ hown (host := "") (Or.inl (wd92 hw)) Via.refl e9 F_a1_this_0 (g := (mkF m 29 #[vr a1, vi 0, vi (((0 : Int32) + v0) * (-1640531535 : Int32)), vr w_pos, vi 2, vi 1, vi 1] [(.ref a1), (.int (((0 : Int32) + v0) * (-1640531535 : Int32)))])) rfl rfl (hb hby d20_29)
 refine G st11 ?_
 obtain ⟨T12, X12, e12, st12⟩ := getF X11 hx hZ hown (Or.inr (wd123 hw)) Via.refl e11 F_w_rel_v (g := (mkF m 32 #[vr a1, vi 0, vi (((0 : Int32) + v0) * (-1640531535 : Int32)), vr w_pos, vi 2, vi 1, vi 1] [(.ref w_rel), (.int (((0 : Int32) + v0) * (-1640531535 : Int32)))])) rfl rfl (hb hby d20_32)
 refine G st12 ?_
 refine G (fun t k => XS.iloadN X12.here hx rfl (hb hby d20_35) rfl (XS.aloadN X12.here hx rfl (hb hby d20_36) rfl rfl k)) ?_
 obtain ⟨T13, X13, e13, st13⟩ := getF X12 hx hZ hown (host := "") (Or.inl (wd92 hw)) Via.refl e12 F_a1_this_0 (g := (mkF m 37 #[vr a1, vi 0, vi (((0 : Int32) + v0) * (-1640531535 : Int32)), vr w_pos, vi 2, vi 1, vi 1] [(.ref a1), (.int 0), (.ref w_v), (.int (((0 : Int32) + v0) * (-1640531535 : Int32)))])) rfl rfl (hb hby d20_37)
 refine G st13 ?_
 obtain ⟨T14, X14, e14, st14⟩ := getF X13 hx hZ hown (Or.inr (wd124 hw)) Via.refl e13 F_w_rel_a (g := (mkF m 40 #[vr a1, vi 0, vi (((0 : Int32) + v0) * (-1640531535 : Int32)), vr w_pos, vi 2, vi 1, vi 1] [(.ref w_rel), (.int 0), (.ref w_v), (.int (((0 : Int32) + v0) * (-1640531535 : Int32)))])) rfl rfl (hb hby d20_40)
 refine G st14 ?_
 refine G (fun t k => XS.imul X14.here hx rfl (hb hby d20_43) rfl k) ?_
 show Go _ _ _ (T14.setTop (mkF m 44 #[vr a1, vi 0, vi (((0 : Int32) + v0) * (-1640531535 : Int32)), vr w_pos, vi 2, vi 1, vi 1] [(.int 0), (.ref w_v), (.int (((0 : Int32) + v0) * (-1640531535 : Int32)))])) _
 refine G (fun t k => XS.iload X14.here hx rfl (hb hby d20_44) rfl (XS.iadd X14.here hx rfl (hb hby d20_46) rfl k)) ?_
 obtain ⟨cl15, Ar15, -, Sz15, Ng15, Hs15, -⟩ := id V_v
 have hin15 : ¬ ((1 : Int32) < 0 ∨ cl15.slots.size ≤ ((1 : Int32)).toNatClampNeg) := inb_of Sz15 ⟨by decide, (own_ltl (1 : Int32) (8 : Int32) _ (by decide) hln)⟩
 refine G (fun t k => X14.iaload hx (j := (1 : Int32)) (v := (.int v1)) (by rw [e14]; exact Ar15.1) (State.isArrayOf_alike hZ.alike Ar15.2.1) Ar15.2.2 hin15 (Has.at Hs15 hin15 rfl) (g := (mkF m 47 #[vr a1, vi 0, vi (((0 : Int32) + v0) * (-1640531535 : Int32)), vr w_pos, vi 2, vi 1, vi 1] [(.int 1), (.ref w_v), (.int (((0 : Int32) + v0) * (-1640531535 : Int32)))])) rfl rfl (hb hby d20_47) _ k) ?_
 obtain ⟨_, _, ⟨T16, L16, k16, n16⟩, -, X16, ⟨Lc16, hQ16, l16, y16, z16⟩, st16⟩ := callSN X14 hx (y := (⟨RC, "mix", "(II)I"⟩ : MethodName)) hown (own_mvM hZ (wd125 hw)) (mvT hZ (wd126 hw)) (mvT hZ (wd8 hw)) (mvT hZ (wd127 hw)) (by decide) (backOf (W := 0) (rm21 l Z a0 hw [] (((0 : Int32) + v0) * (-1640531535 : Int32)) v1 h0 n0 Z0) hZ (wd127 hw) (wd8 hw) (by decide) (by decide)) (g := (mkF m 48 #[vr a1, vi 0, vi (((0 : Int32) + v0) * (-1640531535 : Int32)), vr w_pos, vi 2, vi 1, vi 1] [(.int v1), (.int (((0 : Int32) + v0) * (-1640531535 : Int32)))])) rfl (by rw [hml]; rfl) (argsL := [(.int (((0 : Int32) + v0) * (-1640531535 : Int32))), (.int v1)]) (rest := []) (lenOf pd2 rfl) rfl (by show 2 * 0 + _ ≤ _; exact Nat.le_of_eq rfl) (hb hby d20_48) (fun _ _ => ⟨rfl, e14, (by decide : 0 + 0 ≤ _), (by decide : 0 + 0 ≤ _)⟩)
 dsimp only [Pt.U, Pt.locs, Pt.cells, Pt.slots] at X16 l16 y16 z16 st16 hQ16
 subst l16 y16 z16
 refine Go.tr st16 ?_
 obtain ⟨rfl, N16q, e16⟩ := hQ16
 have N16 := Fr.app N9 N16q
 refine G (fun t k => XS.istoreN X16.here hx rfl (hb hby d20_51) rfl (l' := #[vr a1, vi 0, vi (((((0 : Int32) + v0) * (-1640531535 : Int32)) + v1) * (-1640531535 : Int32)), vr w_pos, vi 2, vi 1, vi 1]) rfl (XS.iinc X16.here hx rfl (hb hby d20_52) rfl (l' := #[.val (.ref a1), .val (.int (0 : Int32)), .val (.int (((((0 : Int32) + v0) * (-1640531535 : Int32)) + v1) * (-1640531535 : Int32))), .val (.ref w_pos), .val (.int (2 : Int32)), .val (.int ((1 : Int32) + (1 : Int32))), .val (.int (1 : Int32))]) rfl (XS.goto X16.here hx rfl (pc0 := 55) (pc' := 14) rfl (hb hby d20_55) (by decide) (by decide) k))) ?_
 show Go _ _ _ (T16.setTop (mkF m 14 #[vr a1, vi 0, vi (((((0 : Int32) + v0) * (-1640531535 : Int32)) + v1) * (-1640531535 : Int32)), vr w_pos, vi 2, vi 2, vi 1] [])) _
 refine G (fun t k => XS.iload X16.here hx rfl (hb hby d20_14) rfl (XS.iload X16.here hx rfl (hb hby d20_16) rfl (XS.icmpYes X16.here hx rfl (pc0 := 18) (pc' := 58) rfl (hb hby d20_18) rfl (flt (by decide : ¬ ((2 : Int32) < (2 : Int32)))).2.1 (by decide) (by decide) (XS.iloadN X16.here hx rfl (hb hby d20_58) rfl k)))) ?_
 obtain ⟨fs, hr, hrun, hended, hW, hsame⟩ := X16.leave (v := some (.int (((((0 : Int32) + v0) * (-1640531535 : Int32)) + v1) * (-1640531535 : Int32)))) (fun h => by rw [Bd.returns] at h; cases h)
 refine Go.fin (retOut X16 hx Bd.returns rfl (Or.inl ⟨rfl, Or.inl rfl, _, rfl⟩) (hb hby d20_59) hr) hrun hended ⟨_, _, rfl, ?_, ⟨_, rfl⟩, hW, hsame.mono (by decide) (by decide)⟩
 show Q20_2 Z a1 w_rel w_pos w_sl w_nx k_p k_s k_n w_v k_v ln v0 v1 h0 n0 _ T16.heap _
 rw [e16]
 exact ⟨rfl, N16, rfl⟩
def Q19_2 (Z : State) (a1 : Addr) (w_rel : Addr) (w_pos : Addr) (w_sl : Addr) (w_nx : Addr) (k_p : ClassId) (k_s : ClassId) (k_n : ClassId) (w_v : Addr) (k_v : ClassId) (ln : Int32) (v0 : Int32) (v1 : Int32) (h0 : Heap) (n0 : Nat) (v : Option Value) (h : Heap) (L : List Loc) : Prop := v = some (.int (1 : Int32)) ∧ Fr n0 L ∧ Keep h0 h [a1, w_sl, w_nx]
theorem ef19_2 (m : MethodId) (x0 : Addr) : entryFrame m #[(.ref x0), (.int (0 : Int32))] 4 = mkF m 0 #[.val (.ref x0), .val (.int (0 : Int32)), .unset, .unset] [] := by first | (simp [entryFrame, mkF, argsToLocals, Value.category]; done) | rfl
theorem rm19_2 (l : Launch) (Z : State) (a0 : Array Value) (hw : HW a0 Z) (ws : List Jvm.Cond) (a1 : Addr) (w_rel : Addr) (w_pos : Addr) (w_sl : Addr) (w_nx : Addr) (k_p : ClassId) (k_s : ClassId) (k_n : ClassId) (w_v : Addr) (k_v : ClassId) (ln : Int32) (v0 : Int32) (v1 : Int32) (h0 : Heap) (n0 : Nat) (Z0 : n0 ≤ h0.size) (E_a1 : Exa Z h0 a1 IC) (F_a1_p : Fld Z h0 a1 IC "positions" "[I" (.ref w_pos)) (F_a1_l : Fld Z h0 a1 IC "slots" "[I" (.ref w_sl)) (F_a1_next : Fld Z h0 a1 IC "next" "[I" (.ref w_nx)) (F_a1_keys : Fld Z h0 a1 IC "keys" "I" (.int (0 : Int32))) (V_pos : Arv Z h0 w_pos k_p .int (2 : Int32) [(.int (0 : Int32)), (.int (1 : Int32))] (.int (0 : Int32))) (V_sl : Arh Z h0 w_sl k_s .int (128 : Int32) [] [] (.int (0 : Int32))) (V_nx : Arv Z h0 w_nx k_n .int (16 : Int32) [] (.int (0 : Int32))) (F_a1_this_0 : Fld Z h0 a1 IC "this$0" RL (.ref w_rel)) (V_v : Arv Z h0 w_v k_v .int ln [(.int v0), (.int v1)] (.int (0 : Int32))) (F_w_rel_v : Fld Z h0 w_rel RC "values" "[I" (.ref w_v)) (F_w_rel_a : Fld Z h0 w_rel RC "arity" "I" (.int (2 : Int32))) (hln : ¬ ln < (8 : Int32)) (ne_w_pos_a1 : w_pos ≠ a1) (ne_w_sl_a1 : w_sl ≠ a1) (ne_w_sl_w_pos : w_sl ≠ w_pos) (ne_w_nx_a1 : w_nx ≠ a1) (ne_w_nx_w_pos : w_nx ≠ w_pos) (ne_w_nx_w_sl : w_nx ≠ w_sl) (ne_w_rel_a1 : w_rel ≠ a1) (ne_w_rel_w_pos : w_rel ≠ w_pos) (ne_w_rel_w_sl : w_rel ≠ w_sl) (ne_w_rel_w_nx : w_rel ≠ w_nx) (ne_w_v_a1 : w_v ≠ a1) (ne_w_v_w_pos : w_v ≠ w_pos) (ne_w_v_w_sl : w_v ≠ w_sl) (ne_w_v_w_nx : w_v ≠ w_nx) (ne_w_v_w_rel : w_v ≠ w_rel) (g_w_nx : n0 ≤ w_nx) (g_w_sl : n0 ≤ w_sl) (g_a1 : n0 ≤ a1) :
  MetFree l (⟨IC, "insertNew", "(I)Z"⟩ : MethodName) (head1 (Jvm.Cond.code (⟨IC, "insertNew", "(I)Z"⟩ : MethodName) cB19 4 (some .boolean) :: ws) (Rm 2 0 0 31)) (Pr Z h0 #[(.ref a1), (.int (0 : Int32))]) Tr (fun _ U o U' => ∃ v L, o = .returned v ∧ Q19_2 Z a1 w_rel w_pos w_sl w_nx k_p k_s k_n w_v k_v ln v0 v1 h0 n0 v U'.heap L ∧ FrameEnd U o U' L (Rm 2 0 0 31).cells (Rm 2 0 0 31).slots) := by
 refine MetFree.of_bodySF (plainFor_of_name pn1) hisR ?_
 intro p e s m args below meth c s₁ Bd hml0 hP hK
 obtain ⟨rfl, hZ, hh⟩ := hP
 have hx := Bd.exec
 have hby := Bd.bytes
 have hml : c.maxLocals = 4 := hml0
 have hown : s.vm.findClass IC = some m.cls := findClass_of_methodNamed Bd.named
 have hnm := (name_of_methodNamed Bd.named Bd.method).1
 have X0 : Stand p l e (Rm 2 0 0 31) s m #[(.ref a1), (.int (0 : Int32))] below meth c s₁ [] 0 0 := Stand.of_body Bd
 have e0 : s₁.heap = h0 := by rw [← hh, Bd.state]; rfl
 have N0 := Fr.nil n0
 have K0 : Keep h0 h0 [a1, w_sl, w_nx] := Keep.refl h0 _
 refine G (P := fun o U' => ∃ v L, o = .returned v ∧ Q19_2 Z a1 w_rel w_pos w_sl w_nx k_p k_s k_n w_v k_v ln v0 v1 h0 n0 v U'.heap L ∧ FrameEnd s o U' L (Rm 2 0 0 31).cells (Rm 2 0 0 31).slots) (fun t k => castTop (ef19_2 m a1) k) ?_
 show Go _ _ _ (s₁.setTop (mkF m 0 #[vr a1, vi 0, us, us] [])) _
 refine G (fun t k => XS.aloadN X0.here hx rfl (hb hby d19_0) rfl rfl (XS.iloadN X0.here hx rfl (hb hby d19_1) rfl k)) ?_
 obtain ⟨cq1, qq1, qq1'⟩ := E_a1.cell
 obtain ⟨_, _, ⟨T1, L1, k1, n1⟩, -, X1, ⟨Lc1, hQ1, l1, y1, z1⟩, st1⟩ := X0.privateBack hx (y := (⟨IC, "hash", "(I)I"⟩ : MethodName)) hown (mvT hZ (wd119 hw)) (mvT hZ (wd120 hw)) (own_selp (mvT hZ (wd84 hw)) (Cond.privateMethod_at (mvP hZ (wd121 hw) (args := #[]))) (mvT hZ (wd120 hw)) (by decide)) (Cond.privateMethod_at (mvP hZ (wd121 hw) (args := #[]))) (mvT hZ (wd122 hw)) (by decide) (backOf (W := 0) (rm20_2 l Z a0 hw [] a1 w_rel w_pos w_sl w_nx k_p k_s k_n w_v k_v ln v0 v1 h0 n0 Z0 E_a1 F_a1_p F_a1_l F_a1_next F_a1_keys V_pos V_sl V_nx F_a1_this_0 V_v F_w_rel_v F_w_rel_a (by first | assumption | decide | omega) ne_w_pos_a1 ne_w_sl_a1 ne_w_sl_w_pos ne_w_nx_a1 ne_w_nx_w_pos ne_w_nx_w_sl ne_w_rel_a1 ne_w_rel_w_pos ne_w_rel_w_sl ne_w_rel_w_nx ne_w_v_a1 ne_w_v_w_pos ne_w_v_w_sl ne_w_v_w_nx ne_w_v_w_rel) hZ (wd122 hw) (wd85 hw) (by decide) (by decide)) (g := (mkF m 2 #[vr a1, vi 0, us, us] [(.int 0), (.ref a1)])) rfl (by rw [hml]; rfl) (Steps.refl _) (a := a1) (by rw [e0]; exact qq1) qq1' (argsL := [(.int (0 : Int32))]) (rest := []) (lenOf pd0 rfl) rfl (by show 2 * 0 + _ ≤ _; exact Nat.le_of_eq rfl) (hb hby d19_2) (fun _ _ => ⟨rfl, e0, (by decide : 0 + 0 ≤ _), (by decide : 0 + 0 ≤ _)⟩)
 dsimp only [Pt.U, Pt.locs, Pt.cells, Pt.slots] at X1 l1 y1 z1 st1 hQ1
 subst l1 y1 z1
 refine Go.tr st1 ?_
 obtain ⟨rfl, N1q, e1⟩ := hQ1
 have N1 := Fr.app N0 N1q
 refine G (fun t k => XS.istoreN X1.here hx rfl (hb hby d19_5) rfl (l' := #[vr a1, vi 0, vi (f20_2 v0 v1), us]) rfl (XS.aloadN X1.here hx rfl (hb hby d19_6) rfl rfl (XS.iloadN X1.here hx rfl (hb hby d19_7) rfl (XS.iloadN X1.here hx rfl (hb hby d19_8) rfl k)))) ?_
 show Go _ _ _ (T1.setTop (mkF m 9 #[vr a1, vi 0, vi (f20_2 v0 v1), us] [(.int (f20_2 v0 v1)), (.int 0), (.ref a1)])) _
 obtain ⟨cq2, qq2, qq2'⟩ := E_a1.cell
 obtain ⟨_, _, ⟨T2, L2, k2, n2⟩, -, X2, ⟨Lc2, hQ2, l2, y2, z2⟩, st2⟩ := X1.privateBack hx (y := (⟨IC, "probe", "(II)I"⟩ : MethodName)) hown (mvT hZ (wd129 hw)) (mvT hZ (wd130 hw)) (own_selp (mvT hZ (wd84 hw)) (Cond.privateMethod_at (mvP hZ (wd131 hw) (args := #[]))) (mvT hZ (wd130 hw)) (by decide)) (Cond.privateMethod_at (mvP hZ (wd131 hw) (args := #[]))) (mvT hZ (wd132 hw)) (by decide) (backOf (W := 0) (rm22 l Z a0 hw [] a1 (f20_2 v0 v1) w_sl w_nx k_s k_n h0 n0 Z0 E_a1 F_a1_l F_a1_next F_a1_keys V_sl V_nx ne_w_sl_a1 ne_w_nx_a1 ne_w_nx_w_sl) hZ (wd132 hw) (wd85 hw) (by decide) (by decide)) (g := (mkF m 9 #[vr a1, vi 0, vi (f20_2 v0 v1), us] [(.int (f20_2 v0 v1)), (.int 0), (.ref a1)])) rfl (by rw [hml]; rfl) (Steps.refl _) (a := a1) (by rw [e1]; exact qq2) qq2' (argsL := [(.int (0 : Int32)), (.int (f20_2 v0 v1))]) (rest := []) (lenOf pd2 rfl) rfl (by show 2 * 0 + _ ≤ _; exact Nat.le_of_eq rfl) (hb hby d19_9) (fun _ _ => ⟨rfl, e1, (by decide : 0 + 0 ≤ _), (by decide : 0 + 0 ≤ _)⟩)
 dsimp only [Pt.U, Pt.locs, Pt.cells, Pt.slots] at X2 l2 y2 z2 st2 hQ2
 subst l2 y2 z2
 refine Go.tr st2 ?_
 obtain ⟨rfl, N2q, e2⟩ := hQ2
 have N2 := Fr.app N1 N2q
 refine G (fun t k => XS.istoreN X2.here hx rfl (hb hby d19_12) rfl (l' := #[vr a1, vi 0, vi (f20_2 v0 v1), vi (f23 (f20_2 v0 v1))]) rfl (XS.aloadN X2.here hx rfl (hb hby d19_13) rfl rfl k)) ?_
 obtain ⟨T3, X3, e3, st3⟩ := getF X2 hx hZ hown (host := "") (Or.inl (wd109 hw)) Via.refl e2 F_a1_l (g := (mkF m 14 #[vr a1, vi 0, vi (f20_2 v0 v1), vi (f23 (f20_2 v0 v1))] [(.ref a1)])) rfl rfl (hb hby d19_14)
 refine G st3 ?_
 refine G (fun t k => XS.iloadN X3.here hx rfl (hb hby d19_17) rfl (XS.iconst X3.here hx rfl (hb hby d19_18) (XS.iadd X3.here hx rfl (hb hby d19_19) rfl k))) ?_
 show Go _ _ _ (T3.setTop (mkF m 20 #[vr a1, vi 0, vi (f20_2 v0 v1), vi (f23 (f20_2 v0 v1))] [(.int ((f23 (f20_2 v0 v1)) + (0 : Int32))), (.ref w_sl)])) _
 obtain ⟨cl5, Ar5, -, Sz5, Ng5, Hs5, -⟩ := id V_sl
 have hin5 : ¬ (((f23 (f20_2 v0 v1)) + (0 : Int32)) < 0 ∨ cl5.slots.size ≤ (((f23 (f20_2 v0 v1)) + (0 : Int32))).toNatClampNeg) := inb_of Sz5 (own_sl (f23 (f20_2 v0 v1)) 0 0 rfl (by decide) (own_st _))
 refine G (fun t k => X3.iaload hx (j := ((f23 (f20_2 v0 v1)) + (0 : Int32))) (v := (.int (0 : Int32))) (by rw [e3]; exact Ar5.1) (State.isArrayOf_alike hZ.alike Ar5.2.1) Ar5.2.2 hin5 (atH Hs5 hin5 rfl) (g := (mkF m 20 #[vr a1, vi 0, vi (f20_2 v0 v1), vi (f23 (f20_2 v0 v1))] [(.int ((f23 (f20_2 v0 v1)) + (0 : Int32))), (.ref w_sl)])) rfl rfl (hb hby d19_20) _ k) ?_
 show Go _ _ _ (T3.setTop (mkF m 21 #[vr a1, vi 0, vi (f20_2 v0 v1), vi (f23 (f20_2 v0 v1))] [(.int 0)])) _
 refine G (fun t k => XS.ifYes X3.here hx rfl (pc0 := 21) (pc' := 26) rfl (hb hby d19_21) rfl ((if0 _ _).trans (teq (by decide : (0 : Int32) = (0 : Int32))).1) (by decide) (by decide) (XS.aloadN X3.here hx rfl (hb hby d19_26) rfl rfl (XS.iloadN X3.here hx rfl (hb hby d19_27) rfl (XS.iloadN X3.here hx rfl (hb hby d19_28) rfl (XS.iloadN X3.here hx rfl (hb hby d19_29) rfl k))))) ?_
 obtain ⟨cq6, qq6, qq6'⟩ := E_a1.cell
 obtain ⟨_, _, ⟨T6, L6, k6, n6⟩, -, X6, ⟨Lc6, hQ6, l6, y6, z6⟩, st6⟩ := X3.privateBack hx (y := (⟨IC, "take", "(III)V"⟩ : MethodName)) hown (mvT hZ (wd141 hw)) (mvT hZ (wd142 hw)) (own_selp (mvT hZ (wd84 hw)) (Cond.privateMethod_at (mvP hZ (wd143 hw) (args := #[]))) (mvT hZ (wd142 hw)) (by decide)) (Cond.privateMethod_at (mvP hZ (wd143 hw) (args := #[]))) (mvT hZ (wd144 hw)) (by decide) (backOf (W := 0) (rm24 l Z a0 hw [] a1 (f23 (f20_2 v0 v1)) (f20_2 v0 v1) w_sl w_nx k_s k_n h0 n0 Z0 E_a1 F_a1_l F_a1_next F_a1_keys V_sl V_nx ne_w_sl_a1 ne_w_nx_a1 ne_w_nx_w_sl (own_st _) g_w_nx g_w_sl g_a1) hZ (wd144 hw) (wd85 hw) (by decide) (by decide)) (g := (mkF m 30 #[vr a1, vi 0, vi (f20_2 v0 v1), vi (f23 (f20_2 v0 v1))] [(.int (f20_2 v0 v1)), (.int 0), (.int (f23 (f20_2 v0 v1))), (.ref a1)])) rfl (by rw [hml]; rfl) (Steps.refl _) (a := a1) (by rw [e3]; exact qq6) qq6' (argsL := [(.int (f23 (f20_2 v0 v1))), (.int (0 : Int32)), (.int (f20_2 v0 v1))]) (rest := []) (lenOf pd3 rfl) rfl (by show 2 * 0 + _ ≤ _; exact Nat.le_of_eq rfl) (hb hby d19_30) (fun _ _ => ⟨rfl, e3, (by decide : 0 + 0 ≤ _), (by decide : 0 + 0 ≤ _)⟩)
 dsimp only [Pt.U, Pt.locs, Pt.cells, Pt.slots] at X6 l6 y6 z6 st6 hQ6
 subst l6 y6 z6
 refine Go.tr st6 ?_
 have E_a1_pre := E_a1
 have F_a1_positions_pre := F_a1_p
 have F_a1_slots_pre := F_a1_l
 have F_a1_next_pre := F_a1_next
 have F_a1_keys_pre := F_a1_keys
 have V_sl_pre := V_sl
 have V_nx_pre := V_nx
 have F_a1_this_0_pre := F_a1_this_0
 obtain ⟨h6, e6⟩ : ∃ z, T6.heap = z := ⟨_, rfl⟩
 rw [e6] at hQ6
 obtain ⟨rfl, N6q, K6, Q6_0, Q6_1, Q6_2, Q6_3, Q6_4, Q6_5⟩ := hQ6
 replace E_a1 := E_a1.keep K6
 replace V_pos := V_pos.keep K6 (ninS (Ne.symm ne_w_nx_w_pos) (ninS (Ne.symm ne_w_sl_w_pos) (ninS ne_w_pos_a1 nin0)))
 replace V_v := V_v.keep K6 (ninS ne_w_v_w_nx (ninS ne_w_v_w_sl (ninS ne_w_v_a1 nin0)))
 replace F_w_rel_v := F_w_rel_v.keep K6 (ninS ne_w_rel_w_nx (ninS ne_w_rel_w_sl (ninS ne_w_rel_a1 nin0)))
 replace F_w_rel_a := F_w_rel_a.keep K6 (ninS ne_w_rel_w_nx (ninS ne_w_rel_w_sl (ninS ne_w_rel_a1 nin0)))
 replace Z0 := Nat.le_trans Z0 K6.1
 replace K0 := K0.trans K6 (allS (Or.inl (by simp)) (allS (Or.inl (by simp)) (allS (Or.inl (by simp)) all0)))
 have E_a1 := Q6_0
 have F_a1_l := Q6_1
 have F_a1_next := Q6_2
 have F_a1_keys := Q6_3
 have V_w_sl := Q6_4
 have V_w_nx := Q6_5
 have N6 := Fr.app N2 N6q
 refine G (fun t k => XS.iconst X6.here hx rfl (hb hby d19_33) k) ?_
 show Go _ _ _ (T6.setTop (mkF m 34 #[vr a1, vi 0, vi (f20_2 v0 v1), vi (f23 (f20_2 v0 v1))] [(.int 1)])) _
 obtain ⟨fs, hr, hrun, hended, hW, hsame⟩ := X6.leave (v := some (.int (1 : Int32))) (fun h => by rw [Bd.returns] at h; cases h)
 refine Go.fin (retN X6 hx (t := .boolean) Bd.returns (by simp) (hb hby d19_34) hr) hrun hended ⟨_, _, rfl, ?_, ⟨_, rfl⟩, hW, hsame.mono (by decide) (by decide)⟩
 show Q19_2 Z a1 w_rel w_pos w_sl w_nx k_p k_s k_n w_v k_v ln v0 v1 h0 n0 _ T6.heap _
 rw [e6]
 exact ⟨rfl, N6, K0⟩
def f11_2 (v0 : Int32) (v1 : Int32) (x0 : Int32) (x1 : Int32) : Int32 := (if v0 = x0 then (if v1 = x1 then (1 : Int32) else (0 : Int32)) else (0 : Int32))
def Q11_2 (Z : State) (a1 : Addr) (a3 : Addr) (w_v : Addr) (k_v : ClassId) (ln : Int32) (v0 : Int32) (v1 : Int32) (w_NI : Addr) (k_NI : ClassId) (hAny : Int32) (k_x : ClassId) (x0 : Int32) (x1 : Int32) (h0 : Heap) (n0 : Nat) (v : Option Value) (h : Heap) (L : List Loc) : Prop := v = some (.int (f11_2 v0 v1 x0 x1)) ∧ Fr n0 L ∧ h = h0
theorem ef11_2 (m : MethodId) (x0 : Addr) (x2 : Addr) : entryFrame m #[(.ref x0), (.int (0 : Int32)), (.ref x2)] 4 = mkF m 0 #[.val (.ref x0), .val (.int (0 : Int32)), .val (.ref x2), .unset] [] := by first | (simp [entryFrame, mkF, argsToLocals, Value.category]; done) | rfl
theorem rm11_2 (l : Launch) (Z : State) (a0 : Array Value) (hw : HW a0 Z) (ws : List Jvm.Cond) (a1 : Addr) (a3 : Addr) (w_v : Addr) (k_v : ClassId) (ln : Int32) (v0 : Int32) (v1 : Int32) (w_NI : Addr) (k_NI : ClassId) (hAny : Int32) (k_x : ClassId) (x0 : Int32) (x1 : Int32) (h0 : Heap) (n0 : Nat) (Z0 : n0 ≤ h0.size) (E_a1 : Exa Z h0 a1 RC) (V_v : Arv Z h0 w_v k_v .int ln [(.int v0), (.int v1)] (.int (0 : Int32))) (V_NI : Arv Z h0 w_NI k_NI (.object IC) (0 : Int32) [] .null) (F_a1_a : Fld Z h0 a1 RC "arity" "I" (.int (2 : Int32))) (F_a1_v : Fld Z h0 a1 RC "values" "[I" (.ref w_v)) (F_a1_s : Fld Z h0 a1 RC "size" "I" (.int (1 : Int32))) (F_a1_m : Fld Z h0 a1 RC "members" RI .null) (F_a1_i : Fld Z h0 a1 RC "indexes" RJ (.ref w_NI)) (F_a1_h : Fld Z h0 a1 RC "holdingAny" "I" (.int hAny)) (V_row : Arv Z h0 a3 k_x .int (2 : Int32) [(.int x0), (.int x1)] (.int (0 : Int32))) (hln : ¬ ln < (8 : Int32)) (ne_w_v_a1 : w_v ≠ a1) (ne_w_NI_a1 : w_NI ≠ a1) (ne_w_NI_w_v : w_NI ≠ w_v) (ne_a3_a1 : a3 ≠ a1) (ne_a3_w_v : a3 ≠ w_v) (ne_a3_w_NI : a3 ≠ w_NI) :
  MetFree l (⟨RC, "rowIs", "(I[I)Z"⟩ : MethodName) (head1 (Jvm.Cond.code (⟨RC, "rowIs", "(I[I)Z"⟩ : MethodName) cB11 4 (some .boolean) :: ws) (Rm 0 0 0 0)) (Pr Z h0 #[(.ref a1), (.int (0 : Int32)), (.ref a3)]) Tr (fun _ U o U' => ∃ v L, o = .returned v ∧ Q11_2 Z a1 a3 w_v k_v ln v0 v1 w_NI k_NI hAny k_x x0 x1 h0 n0 v U'.heap L ∧ FrameEnd U o U' L (Rm 0 0 0 0).cells (Rm 0 0 0 0).slots) := by
 refine MetFree.of_bodySF (plainFor_of_name pn0) hisR ?_
 intro p e s m args below meth c s₁ Bd hml0 hP hK
 obtain ⟨rfl, hZ, hh⟩ := hP
 have hx := Bd.exec
 have hby := Bd.bytes
 have hml : c.maxLocals = 4 := hml0
 have hown : s.vm.findClass RC = some m.cls := findClass_of_methodNamed Bd.named
 have hnm := (name_of_methodNamed Bd.named Bd.method).1
 have X0 : Stand p l e (Rm 0 0 0 0) s m #[(.ref a1), (.int (0 : Int32)), (.ref a3)] below meth c s₁ [] 0 0 := Stand.of_body Bd
 have e0 : s₁.heap = h0 := by rw [← hh, Bd.state]; rfl
 have N0 := Fr.nil n0
 have K0 : Keep h0 h0 [] := Keep.refl h0 _
 refine G (P := fun o U' => ∃ v L, o = .returned v ∧ Q11_2 Z a1 a3 w_v k_v ln v0 v1 w_NI k_NI hAny k_x x0 x1 h0 n0 v U'.heap L ∧ FrameEnd s o U' L (Rm 0 0 0 0).cells (Rm 0 0 0 0).slots) (fun t k => castTop (ef11_2 m a1 a3) k) ?_
 show Go _ _ _ (s₁.setTop (mkF m 0 #[vr a1, vi 0, vr a3, us] [])) _
 refine G (fun t k => XS.iconst X0.here hx rfl (hb hby d11_0) (XS.istoreN X0.here hx rfl (hb hby d11_1) rfl (l' := #[vr a1, vi 0, vr a3, vi 0]) rfl (XS.iloadN X0.here hx rfl (hb hby d11_2) rfl (XS.aloadN X0.here hx rfl (hb hby d11_3) rfl rfl k)))) ?_
 obtain ⟨T1, X1, e1, st1⟩ := getF X0 hx hZ hown (host := "") (Or.inl (wd19 hw)) Via.refl e0 F_a1_a (g := (mkF m 4 #[vr a1, vi 0, vr a3, vi 0] [(.ref a1), (.int 0)])) rfl rfl (hb hby d11_4)
 refine G st1 ?_
 refine G (fun t k => XS.icmpNo X1.here hx rfl (hb hby d11_7) rfl (tlt (by decide : (0 : Int32) < (2 : Int32))).2.1 (XS.aloadN X1.here hx rfl (hb hby d11_10) rfl rfl k)) ?_
 show Go _ _ _ (T1.setTop (mkF m 11 #[vr a1, vi 0, vr a3, vi 0] [(.ref a1)])) _
 obtain ⟨T2, X2, e2, st2⟩ := getF X1 hx hZ hown (host := "") (Or.inl (wd21 hw)) Via.refl e1 F_a1_v (g := (mkF m 11 #[vr a1, vi 0, vr a3, vi 0] [(.ref a1)])) rfl rfl (hb hby d11_11)
 refine G st2 ?_
 refine G (fun t k => XS.iloadN X2.here hx rfl (hb hby d11_14) rfl (XS.aloadN X2.here hx rfl (hb hby d11_15) rfl rfl k)) ?_
 obtain ⟨T3, X3, e3, st3⟩ := getF X2 hx hZ hown (host := "") (Or.inl (wd19 hw)) Via.refl e2 F_a1_a (g := (mkF m 16 #[vr a1, vi 0, vr a3, vi 0] [(.ref a1), (.int 0), (.ref w_v)])) rfl rfl (hb hby d11_16)
 refine G st3 ?_
 refine G (fun t k => XS.imul X3.here hx rfl (hb hby d11_19) rfl (XS.iloadN X3.here hx rfl (hb hby d11_20) rfl (XS.iadd X3.here hx rfl (hb hby d11_21) rfl k))) ?_
 show Go _ _ _ (T3.setTop (mkF m 22 #[vr a1, vi 0, vr a3, vi 0] [(.int 0), (.ref w_v)])) _
 obtain ⟨cl4, Ar4, -, Sz4, Ng4, Hs4, -⟩ := id V_v
 have hin4 : ¬ ((0 : Int32) < 0 ∨ cl4.slots.size ≤ ((0 : Int32)).toNatClampNeg) := inb_of Sz4 ⟨by decide, (own_ltl (0 : Int32) (8 : Int32) _ (by decide) hln)⟩
 refine G (fun t k => X3.iaload hx (j := (0 : Int32)) (v := (.int v0)) (by rw [e3]; exact Ar4.1) (State.isArrayOf_alike hZ.alike Ar4.2.1) Ar4.2.2 hin4 (Has.at Hs4 hin4 rfl) (g := (mkF m 22 #[vr a1, vi 0, vr a3, vi 0] [(.int 0), (.ref w_v)])) rfl rfl (hb hby d11_22) _ (XS.aloadN X3.here hx rfl (hb hby d11_23) rfl rfl (XS.iloadN X3.here hx rfl (hb hby d11_24) rfl k))) ?_
 obtain ⟨cl5, Ar5, -, Sz5, Ng5, Hs5, -⟩ := id V_row
 have hin5 : ¬ ((0 : Int32) < 0 ∨ cl5.slots.size ≤ ((0 : Int32)).toNatClampNeg) := inb_of Sz5 ⟨by decide, by decide⟩
 refine G (fun t k => X3.iaload hx (j := (0 : Int32)) (v := (.int x0)) (by rw [e3]; exact Ar5.1) (State.isArrayOf_alike hZ.alike Ar5.2.1) Ar5.2.2 hin5 (Has.at Hs5 hin5 rfl) (g := (mkF m 25 #[vr a1, vi 0, vr a3, vi 0] [(.int 0), (.ref a3), (.int v0)])) rfl rfl (hb hby d11_25) _ k) ?_
 by_cases hc6 : v0 = x0
 ·refine G (fun t k => XS.icmpYes X3.here hx rfl (pc0 := 26) (pc' := 31) rfl (hb hby d11_26) rfl (teq hc6).1 (by decide) (by decide) (XS.iinc X3.here hx rfl (hb hby d11_31) rfl (l' := #[.val (.ref a1), .val (.int (0 : Int32)), .val (.ref a3), .val (.int ((0 : Int32) + (1 : Int32)))]) rfl (XS.goto X3.here hx rfl (pc0 := 34) (pc' := 2) rfl (hb hby d11_34) (by decide) (by decide) k))) ?_
  show Go _ _ _ (T3.setTop (mkF m 2 #[vr a1, vi 0, vr a3, vi 1] [])) _
  refine G (fun t k => XS.iloadN X3.here hx rfl (hb hby d11_2) rfl (XS.aloadN X3.here hx rfl (hb hby d11_3) rfl rfl k)) ?_
  obtain ⟨T7, X7, e7, st7⟩ := getF X3 hx hZ hown (host := "") (Or.inl (wd19 hw)) Via.refl e3 F_a1_a (g := (mkF m 4 #[vr a1, vi 0, vr a3, vi 1] [(.ref a1), (.int 1)])) rfl rfl (hb hby d11_4)
  refine G st7 ?_
  refine G (fun t k => XS.icmpNo X7.here hx rfl (hb hby d11_7) rfl (tlt (by decide : (1 : Int32) < (2 : Int32))).2.1 (XS.aloadN X7.here hx rfl (hb hby d11_10) rfl rfl k)) ?_
  obtain ⟨T8, X8, e8, st8⟩ := getF X7 hx hZ hown (host := "") (Or.inl (wd21 hw)) Via.refl e7 F_a1_v (g := (mkF m 11 #[vr a1, vi 0, vr a3, vi 1] [(.ref a1)])) rfl rfl (hb hby d11_11)
  refine G st8 ?_
  refine G (fun t k => XS.iloadN X8.here hx rfl (hb hby d11_14) rfl k) ?_
  show Go _ _ _ (T8.setTop (mkF m 15 #[vr a1, vi 0, vr a3, vi 1] [(.int 0), (.ref w_v)])) _
  refine G (fun t k => XS.aloadN X8.here hx rfl (hb hby d11_15) rfl rfl k) ?_
  obtain ⟨T9, X9, e9, st9⟩ := getF X8 hx hZ hown (host := "") (Or.inl (wd19 hw)) Via.refl e8 F_a1_a (g := (mkF m 16 #[vr a1, vi 0, vr a3, vi 1] [(.ref a1), (.int 0), (.ref w_v)])) rfl rfl (hb hby d11_16)
  refine G st9 ?_
  refine G (fun t k => XS.imul X9.here hx rfl (hb hby d11_19) rfl (XS.iloadN X9.here hx rfl (hb hby d11_20) rfl (XS.iadd X9.here hx rfl (hb hby d11_21) rfl k))) ?_
  obtain ⟨cl10, Ar10, -, Sz10, Ng10, Hs10, -⟩ := id V_v
  have hin10 : ¬ ((1 : Int32) < 0 ∨ cl10.slots.size ≤ ((1 : Int32)).toNatClampNeg) := inb_of Sz10 ⟨by decide, (own_ltl (1 : Int32) (8 : Int32) _ (by decide) hln)⟩
  refine G (fun t k => X9.iaload hx (j := (1 : Int32)) (v := (.int v1)) (by rw [e9]; exact Ar10.1) (State.isArrayOf_alike hZ.alike Ar10.2.1) Ar10.2.2 hin10 (Has.at Hs10 hin10 rfl) (g := (mkF m 22 #[vr a1, vi 0, vr a3, vi 1] [(.int 1), (.ref w_v)])) rfl rfl (hb hby d11_22) _ (XS.aloadN X9.here hx rfl (hb hby d11_23) rfl rfl k)) ?_
  show Go _ _ _ (T9.setTop (mkF m 24 #[vr a1, vi 0, vr a3, vi 1] [(.ref a3), (.int v1)])) _
  refine G (fun t k => XS.iloadN X9.here hx rfl (hb hby d11_24) rfl k) ?_
  obtain ⟨cl11, Ar11, -, Sz11, Ng11, Hs11, -⟩ := id V_row
  have hin11 : ¬ ((1 : Int32) < 0 ∨ cl11.slots.size ≤ ((1 : Int32)).toNatClampNeg) := inb_of Sz11 ⟨by decide, by decide⟩
  refine G (fun t k => X9.iaload hx (j := (1 : Int32)) (v := (.int x1)) (by rw [e9]; exact Ar11.1) (State.isArrayOf_alike hZ.alike Ar11.2.1) Ar11.2.2 hin11 (Has.at Hs11 hin11 rfl) (g := (mkF m 25 #[vr a1, vi 0, vr a3, vi 1] [(.int 1), (.ref a3), (.int v1)])) rfl rfl (hb hby d11_25) _ k) ?_
  by_cases hc12 : v1 = x1
  ·refine G (fun t k => XS.icmpYes X9.here hx rfl (pc0 := 26) (pc' := 31) rfl (hb hby d11_26) rfl (teq hc12).1 (by decide) (by decide) (XS.iinc X9.here hx rfl (hb hby d11_31) rfl (l' := #[.val (.ref a1), .val (.int (0 : Int32)), .val (.ref a3), .val (.int ((1 : Int32) + (1 : Int32)))]) rfl (XS.goto X9.here hx rfl (pc0 := 34) (pc' := 2) rfl (hb hby d11_34) (by decide) (by decide) (XS.iloadN X9.here hx rfl (hb hby d11_2) rfl (XS.aloadN X9.here hx rfl (hb hby d11_3) rfl rfl k))))) ?_
   show Go _ _ _ (T9.setTop (mkF m 4 #[vr a1, vi 0, vr a3, vi 2] [(.ref a1), (.int 2)])) _
   obtain ⟨T13, X13, e13, st13⟩ := getF X9 hx hZ hown (host := "") (Or.inl (wd19 hw)) Via.refl e9 F_a1_a (g := (mkF m 4 #[vr a1, vi 0, vr a3, vi 2] [(.ref a1), (.int 2)])) rfl rfl (hb hby d11_4)
   refine G st13 ?_
   refine G (fun t k => XS.icmpYes X13.here hx rfl (pc0 := 7) (pc' := 37) rfl (hb hby d11_7) rfl (flt (by decide : ¬ ((2 : Int32) < (2 : Int32)))).2.1 (by decide) (by decide) (XS.iconst X13.here hx rfl (hb hby d11_37) k)) ?_
   obtain ⟨fs, hr, hrun, hended, hW, hsame⟩ := X13.leave (v := some (.int (1 : Int32))) (fun h => by rw [Bd.returns] at h; cases h)
   refine Go.fin (retN X13 hx (t := .boolean) Bd.returns (by simp) (hb hby d11_38) hr) hrun hended ⟨_, _, rfl, ?_, ⟨_, rfl⟩, hW, hsame.mono (by decide) (by decide)⟩
   show Q11_2 Z a1 a3 w_v k_v ln v0 v1 w_NI k_NI hAny k_x x0 x1 h0 n0 _ T13.heap _
   rw [e13]
   exact ⟨(by unfold f11_2; simp only [if_pos hc6, if_pos hc12]), N0, rfl⟩
  ·refine G (fun t k => XS.icmpNo X9.here hx rfl (hb hby d11_26) rfl (feq hc12).1 (XS.iconst X9.here hx rfl (hb hby d11_29) k)) ?_
   obtain ⟨fs, hr, hrun, hended, hW, hsame⟩ := X9.leave (v := some (.int (0 : Int32))) (fun h => by rw [Bd.returns] at h; cases h)
   refine Go.fin (retN X9 hx (t := .boolean) Bd.returns (by simp) (hb hby d11_30) hr) hrun hended ⟨_, _, rfl, ?_, ⟨_, rfl⟩, hW, hsame.mono (by decide) (by decide)⟩
   show Q11_2 Z a1 a3 w_v k_v ln v0 v1 w_NI k_NI hAny k_x x0 x1 h0 n0 _ T9.heap _
   rw [e9]
   exact ⟨(by unfold f11_2; simp only [if_pos hc6, if_neg hc12]), N0, rfl⟩
 ·refine G (fun t k => XS.icmpNo X3.here hx rfl (hb hby d11_26) rfl (feq hc6).1 (XS.iconst X3.here hx rfl (hb hby d11_29) k)) ?_
  obtain ⟨fs, hr, hrun, hended, hW, hsame⟩ := X3.leave (v := some (.int (0 : Int32))) (fun h => by rw [Bd.returns] at h; cases h)
  refine Go.fin (retN X3 hx (t := .boolean) Bd.returns (by simp) (hb hby d11_30) hr) hrun hended ⟨_, _, rfl, ?_, ⟨_, rfl⟩, hW, hsame.mono (by decide) (by decide)⟩
  show Q11_2 Z a1 a3 w_v k_v ln v0 v1 w_NI k_NI hAny k_x x0 x1 h0 n0 _ T3.heap _
  rw [e3]
  exact ⟨(by unfold f11_2; simp only [if_neg hc6]), N0, rfl⟩
def Q6_2_0 (Z : State) (a1 : Addr) (a2 : Addr) (w_v : Addr) (k_v : ClassId) (ln : Int32) (v0 : Int32) (v1 : Int32) (w_NI : Addr) (k_NI : ClassId) (hAny : Int32) (k_x : ClassId) (x0 : Int32) (x1 : Int32) (h0 : Heap) (n0 : Nat) (v : Option Value) (h : Heap) (L : List Loc) : Prop := v = some (.int (0 : Int32)) ∧ Fr n0 L ∧ h = h0
theorem ef6_2_0 (m : MethodId) (x0 : Addr) (x1 : Addr) : entryFrame m #[(.ref x0), (.ref x1)] 3 = mkF m 0 #[.val (.ref x0), .val (.ref x1), .unset] [] := by first | (simp [entryFrame, mkF, argsToLocals, Value.category]; done) | rfl
theorem rm6_2_0 (l : Launch) (Z : State) (a0 : Array Value) (hw : HW a0 Z) (ws : List Jvm.Cond) (a1 : Addr) (a2 : Addr) (w_v : Addr) (k_v : ClassId) (ln : Int32) (v0 : Int32) (v1 : Int32) (w_NI : Addr) (k_NI : ClassId) (hAny : Int32) (k_x : ClassId) (x0 : Int32) (x1 : Int32) (h0 : Heap) (n0 : Nat) (Z0 : n0 ≤ h0.size) (E_a1 : Exa Z h0 a1 RC) (V_v : Arv Z h0 w_v k_v .int ln [(.int v0), (.int v1)] (.int (0 : Int32))) (V_NI : Arv Z h0 w_NI k_NI (.object IC) (0 : Int32) [] .null) (F_a1_a : Fld Z h0 a1 RC "arity" "I" (.int (2 : Int32))) (F_a1_v : Fld Z h0 a1 RC "values" "[I" (.ref w_v)) (F_a1_s : Fld Z h0 a1 RC "size" "I" (.int (0 : Int32))) (F_a1_m : Fld Z h0 a1 RC "members" RI .null) (F_a1_i : Fld Z h0 a1 RC "indexes" RJ (.ref w_NI)) (F_a1_h : Fld Z h0 a1 RC "holdingAny" "I" (.int hAny)) (V_row : Arv Z h0 a2 k_x .int (2 : Int32) [(.int x0), (.int x1)] (.int (0 : Int32))) (hln : ¬ ln < (8 : Int32)) (ne_w_v_a1 : w_v ≠ a1) (ne_w_NI_a1 : w_NI ≠ a1) (ne_w_NI_w_v : w_NI ≠ w_v) (ne_a2_a1 : a2 ≠ a1) (ne_a2_w_v : a2 ≠ w_v) (ne_a2_w_NI : a2 ≠ w_NI) :
  MetFree l (⟨RC, "contains", "([I)Z"⟩ : MethodName) (head1 (Jvm.Cond.code (⟨RC, "contains", "([I)Z"⟩ : MethodName) cB6 3 (some .boolean) :: ws) (Rm 0 0 0 0)) (Pr Z h0 #[(.ref a1), (.ref a2)]) Tr (fun _ U o U' => ∃ v L, o = .returned v ∧ Q6_2_0 Z a1 a2 w_v k_v ln v0 v1 w_NI k_NI hAny k_x x0 x1 h0 n0 v U'.heap L ∧ FrameEnd U o U' L (Rm 0 0 0 0).cells (Rm 0 0 0 0).slots) := by
 refine MetFree.of_bodySF (plainFor_of_name pn0) hisR ?_
 intro p e s m args below meth c s₁ Bd hml0 hP hK
 obtain ⟨rfl, hZ, hh⟩ := hP
 have hx := Bd.exec
 have hby := Bd.bytes
 have hml : c.maxLocals = 3 := hml0
 have hown : s.vm.findClass RC = some m.cls := findClass_of_methodNamed Bd.named
 have hnm := (name_of_methodNamed Bd.named Bd.method).1
 have X0 : Stand p l e (Rm 0 0 0 0) s m #[(.ref a1), (.ref a2)] below meth c s₁ [] 0 0 := Stand.of_body Bd
 have e0 : s₁.heap = h0 := by rw [← hh, Bd.state]; rfl
 have N0 := Fr.nil n0
 have K0 : Keep h0 h0 [] := Keep.refl h0 _
 refine G (P := fun o U' => ∃ v L, o = .returned v ∧ Q6_2_0 Z a1 a2 w_v k_v ln v0 v1 w_NI k_NI hAny k_x x0 x1 h0 n0 v U'.heap L ∧ FrameEnd s o U' L (Rm 0 0 0 0).cells (Rm 0 0 0 0).slots) (fun t k => castTop (ef6_2_0 m a1 a2) k) ?_
 show Go _ _ _ (s₁.setTop (mkF m 0 #[vr a1, vr a2, us] [])) _
 refine G (fun t k => XS.aloadN X0.here hx rfl (hb hby d6_0) rfl rfl k) ?_
 obtain ⟨T1, X1, e1, st1⟩ := getF X0 hx hZ hown (host := "") (Or.inl (wd30 hw)) Via.refl e0 F_a1_m (g := (mkF m 1 #[vr a1, vr a2, us] [(.ref a1)])) rfl rfl (hb hby d6_1)
 refine G st1 ?_
 refine G (fun t k => XS.ifnullYes X1.here hx rfl (pc0 := 4) (pc' := 24) rfl (hb hby d6_4) rfl (by decide) (by decide) (XS.iconst X1.here hx rfl (hb hby d6_24) (XS.istoreN X1.here hx rfl (hb hby d6_25) rfl (l' := #[vr a1, vr a2, vi 0]) rfl (XS.iloadN X1.here hx rfl (hb hby d6_26) rfl (XS.aloadN X1.here hx rfl (hb hby d6_27) rfl rfl k))))) ?_
 show Go _ _ _ (T1.setTop (mkF m 28 #[vr a1, vr a2, vi 0] [(.ref a1), (.int 0)])) _
 obtain ⟨T2, X2, e2, st2⟩ := getF X1 hx hZ hown (host := "") (Or.inl (wd28 hw)) Via.refl e1 F_a1_s (g := (mkF m 28 #[vr a1, vr a2, vi 0] [(.ref a1), (.int 0)])) rfl rfl (hb hby d6_28)
 refine G st2 ?_
 refine G (fun t k => XS.icmpYes X2.here hx rfl (pc0 := 31) (pc' := 51) rfl (hb hby d6_31) rfl (flt (by decide : ¬ ((0 : Int32) < (0 : Int32)))).2.1 (by decide) (by decide) (XS.iconst X2.here hx rfl (hb hby d6_51) k)) ?_
 obtain ⟨fs, hr, hrun, hended, hW, hsame⟩ := X2.leave (v := some (.int (0 : Int32))) (fun h => by rw [Bd.returns] at h; cases h)
 refine Go.fin (retN X2 hx (t := .boolean) Bd.returns (by simp) (hb hby d6_52) hr) hrun hended ⟨_, _, rfl, ?_, ⟨_, rfl⟩, hW, hsame.mono (by decide) (by decide)⟩
 show Q6_2_0 Z a1 a2 w_v k_v ln v0 v1 w_NI k_NI hAny k_x x0 x1 h0 n0 _ T2.heap _
 rw [e2]
 exact ⟨rfl, N0, rfl⟩
def f6_2_1 (v0 : Int32) (v1 : Int32) (x0 : Int32) (x1 : Int32) : Int32 := (if v0 = x0 then (if v1 = x1 then (1 : Int32) else (0 : Int32)) else (0 : Int32))
def Q6_2_1 (Z : State) (a1 : Addr) (a2 : Addr) (w_v : Addr) (k_v : ClassId) (ln : Int32) (v0 : Int32) (v1 : Int32) (w_NI : Addr) (k_NI : ClassId) (hAny : Int32) (k_x : ClassId) (x0 : Int32) (x1 : Int32) (h0 : Heap) (n0 : Nat) (v : Option Value) (h : Heap) (L : List Loc) : Prop := v = some (.int (f6_2_1 v0 v1 x0 x1)) ∧ Fr n0 L ∧ h = h0
theorem ef6_2_1 (m : MethodId) (x0 : Addr) (x1 : Addr) : entryFrame m #[(.ref x0), (.ref x1)] 3 = mkF m 0 #[.val (.ref x0), .val (.ref x1), .unset] [] := by first | (simp [entryFrame, mkF, argsToLocals, Value.category]; done) | rfl
theorem rm6_2_1 (l : Launch) (Z : State) (a0 : Array Value) (hw : HW a0 Z) (ws : List Jvm.Cond) (a1 : Addr) (a2 : Addr) (w_v : Addr) (k_v : ClassId) (ln : Int32) (v0 : Int32) (v1 : Int32) (w_NI : Addr) (k_NI : ClassId) (hAny : Int32) (k_x : ClassId) (x0 : Int32) (x1 : Int32) (h0 : Heap) (n0 : Nat) (Z0 : n0 ≤ h0.size) (E_a1 : Exa Z h0 a1 RC) (V_v : Arv Z h0 w_v k_v .int ln [(.int v0), (.int v1)] (.int (0 : Int32))) (V_NI : Arv Z h0 w_NI k_NI (.object IC) (0 : Int32) [] .null) (F_a1_a : Fld Z h0 a1 RC "arity" "I" (.int (2 : Int32))) (F_a1_v : Fld Z h0 a1 RC "values" "[I" (.ref w_v)) (F_a1_s : Fld Z h0 a1 RC "size" "I" (.int (1 : Int32))) (F_a1_m : Fld Z h0 a1 RC "members" RI .null) (F_a1_i : Fld Z h0 a1 RC "indexes" RJ (.ref w_NI)) (F_a1_h : Fld Z h0 a1 RC "holdingAny" "I" (.int hAny)) (V_row : Arv Z h0 a2 k_x .int (2 : Int32) [(.int x0), (.int x1)] (.int (0 : Int32))) (hln : ¬ ln < (8 : Int32)) (ne_w_v_a1 : w_v ≠ a1) (ne_w_NI_a1 : w_NI ≠ a1) (ne_w_NI_w_v : w_NI ≠ w_v) (ne_a2_a1 : a2 ≠ a1) (ne_a2_w_v : a2 ≠ w_v) (ne_a2_w_NI : a2 ≠ w_NI) :
  MetFree l (⟨RC, "contains", "([I)Z"⟩ : MethodName) (head1 (Jvm.Cond.code (⟨RC, "contains", "([I)Z"⟩ : MethodName) cB6 3 (some .boolean) :: ws) (Rm 1 0 0 15)) (Pr Z h0 #[(.ref a1), (.ref a2)]) Tr (fun _ U o U' => ∃ v L, o = .returned v ∧ Q6_2_1 Z a1 a2 w_v k_v ln v0 v1 w_NI k_NI hAny k_x x0 x1 h0 n0 v U'.heap L ∧ FrameEnd U o U' L (Rm 1 0 0 15).cells (Rm 1 0 0 15).slots) := by
 refine MetFree.of_bodySF (plainFor_of_name pn0) hisR ?_
 intro p e s m args below meth c s₁ Bd hml0 hP hK
 obtain ⟨rfl, hZ, hh⟩ := hP
 have hx := Bd.exec
 have hby := Bd.bytes
 have hml : c.maxLocals = 3 := hml0
 have hown : s.vm.findClass RC = some m.cls := findClass_of_methodNamed Bd.named
 have hnm := (name_of_methodNamed Bd.named Bd.method).1
 have X0 : Stand p l e (Rm 1 0 0 15) s m #[(.ref a1), (.ref a2)] below meth c s₁ [] 0 0 := Stand.of_body Bd
 have e0 : s₁.heap = h0 := by rw [← hh, Bd.state]; rfl
 have N0 := Fr.nil n0
 have K0 : Keep h0 h0 [] := Keep.refl h0 _
 refine G (P := fun o U' => ∃ v L, o = .returned v ∧ Q6_2_1 Z a1 a2 w_v k_v ln v0 v1 w_NI k_NI hAny k_x x0 x1 h0 n0 v U'.heap L ∧ FrameEnd s o U' L (Rm 1 0 0 15).cells (Rm 1 0 0 15).slots) (fun t k => castTop (ef6_2_1 m a1 a2) k) ?_
 show Go _ _ _ (s₁.setTop (mkF m 0 #[vr a1, vr a2, us] [])) _
 refine G (fun t k => XS.aloadN X0.here hx rfl (hb hby d6_0) rfl rfl k) ?_
 obtain ⟨T1, X1, e1, st1⟩ := getF X0 hx hZ hown (host := "") (Or.inl (wd30 hw)) Via.refl e0 F_a1_m (g := (mkF m 1 #[vr a1, vr a2, us] [(.ref a1)])) rfl rfl (hb hby d6_1)
 refine G st1 ?_
 refine G (fun t k => XS.ifnullYes X1.here hx rfl (pc0 := 4) (pc' := 24) rfl (hb hby d6_4) rfl (by decide) (by decide) (XS.iconst X1.here hx rfl (hb hby d6_24) (XS.istoreN X1.here hx rfl (hb hby d6_25) rfl (l' := #[vr a1, vr a2, vi 0]) rfl (XS.iloadN X1.here hx rfl (hb hby d6_26) rfl (XS.aloadN X1.here hx rfl (hb hby d6_27) rfl rfl k))))) ?_
 show Go _ _ _ (T1.setTop (mkF m 28 #[vr a1, vr a2, vi 0] [(.ref a1), (.int 0)])) _
 obtain ⟨T2, X2, e2, st2⟩ := getF X1 hx hZ hown (host := "") (Or.inl (wd28 hw)) Via.refl e1 F_a1_s (g := (mkF m 28 #[vr a1, vr a2, vi 0] [(.ref a1), (.int 0)])) rfl rfl (hb hby d6_28)
 refine G st2 ?_
 refine G (fun t k => XS.icmpNo X2.here hx rfl (hb hby d6_31) rfl (tlt (by decide : (0 : Int32) < (1 : Int32))).2.1 (XS.aloadN X2.here hx rfl (hb hby d6_34) rfl rfl (XS.iloadN X2.here hx rfl (hb hby d6_35) rfl (XS.aloadN X2.here hx rfl (hb hby d6_36) rfl rfl k)))) ?_
 obtain ⟨cq3, qq3, qq3'⟩ := E_a1.cell
 obtain ⟨_, _, ⟨T3, L3, k3, n3⟩, -, X3, ⟨Lc3, hQ3, l3, y3, z3⟩, st3⟩ := X2.privateBack hx (y := (⟨RC, "rowIs", "(I[I)Z"⟩ : MethodName)) hown (mvT hZ (wd70 hw)) (mvT hZ (wd71 hw)) (own_selp (mvT hZ (wd7 hw)) (Cond.privateMethod_at (mvP hZ (wd72 hw) (args := #[]))) (mvT hZ (wd71 hw)) (by decide)) (Cond.privateMethod_at (mvP hZ (wd72 hw) (args := #[]))) (mvT hZ (wd73 hw)) (by decide) (backOf (W := 0) (rm11_2 l Z a0 hw [] a1 a2 w_v k_v ln v0 v1 w_NI k_NI hAny k_x x0 x1 h0 n0 Z0 E_a1 V_v V_NI F_a1_a F_a1_v F_a1_s F_a1_m F_a1_i F_a1_h V_row hln ne_w_v_a1 ne_w_NI_a1 ne_w_NI_w_v ne_a2_a1 ne_a2_w_v ne_a2_w_NI) hZ (wd73 hw) (wd8 hw) (by decide) (by decide)) (g := (mkF m 37 #[vr a1, vr a2, vi 0] [(.ref a2), (.int 0), (.ref a1)])) rfl (by rw [hml]; rfl) (Steps.refl _) (a := a1) (by rw [e2]; exact qq3) qq3' (argsL := [(.int (0 : Int32)), (.ref a2)]) (rest := []) (lenOf pd4 rfl) rfl (by show 2 * 0 + _ ≤ _; exact Nat.le_of_eq rfl) (hb hby d6_37) (fun _ _ => ⟨rfl, e2, (by decide : 0 + 0 ≤ _), (by decide : 0 + 0 ≤ _)⟩)
 dsimp only [Pt.U, Pt.locs, Pt.cells, Pt.slots] at X3 l3 y3 z3 st3 hQ3
 subst l3 y3 z3
 refine Go.tr st3 ?_
 obtain ⟨rfl, N3q, e3⟩ := hQ3
 have N3 := Fr.app N0 N3q
 show Go _ _ _ (T3.setTop (mkF m 40 #[vr a1, vr a2, vi 0] [(.int (f11_2 v0 v1 x0 x1))])) _
 by_cases hc4 : v0 = x0
 ·by_cases hc5 : v1 = x1
  ·rw [show (f11_2 v0 v1 x0 x1) = (1 : Int32) from by unfold f11_2; simp only [if_pos hc4, if_pos hc5, if_true, if_false]]
   show Go _ _ _ (T3.setTop (mkF m 40 #[vr a1, vr a2, vi 0] [(.int 1)])) _
   refine G (fun t k => XS.ifNo X3.here hx rfl (hb hby d6_40) rfl ((if0 _ _).trans (feq (by decide : ¬ ((1 : Int32) = (0 : Int32)))).1) (XS.iconst X3.here hx rfl (hb hby d6_43) k)) ?_
   obtain ⟨fs, hr, hrun, hended, hW, hsame⟩ := X3.leave (v := some (.int (1 : Int32))) (fun h => by rw [Bd.returns] at h; cases h)
   refine Go.fin (retN X3 hx (t := .boolean) Bd.returns (by simp) (hb hby d6_44) hr) hrun hended ⟨_, _, rfl, ?_, ⟨_, rfl⟩, hW, hsame.mono (by decide) (by decide)⟩
   show Q6_2_1 Z a1 a2 w_v k_v ln v0 v1 w_NI k_NI hAny k_x x0 x1 h0 n0 _ T3.heap _
   rw [e3]
   exact ⟨(by unfold f6_2_1; simp only [if_pos hc4, if_pos hc5]), N3, rfl⟩
  ·rw [show (f11_2 v0 v1 x0 x1) = (0 : Int32) from by unfold f11_2; simp only [if_pos hc4, if_neg hc5, if_true, if_false]]
   show Go _ _ _ (T3.setTop (mkF m 40 #[vr a1, vr a2, vi 0] [(.int 0)])) _
   refine G (fun t k => XS.ifYes X3.here hx rfl (pc0 := 40) (pc' := 45) rfl (hb hby d6_40) rfl ((if0 _ _).trans (teq (by decide : (0 : Int32) = (0 : Int32))).1) (by decide) (by decide) (XS.iinc X3.here hx rfl (hb hby d6_45) rfl (l' := #[.val (.ref a1), .val (.ref a2), .val (.int ((0 : Int32) + (1 : Int32)))]) rfl (XS.goto X3.here hx rfl (pc0 := 48) (pc' := 26) rfl (hb hby d6_48) (by decide) (by decide) (XS.iloadN X3.here hx rfl (hb hby d6_26) rfl (XS.aloadN X3.here hx rfl (hb hby d6_27) rfl rfl k))))) ?_
   obtain ⟨T6, X6, e6, st6⟩ := getF X3 hx hZ hown (host := "") (Or.inl (wd28 hw)) Via.refl e3 F_a1_s (g := (mkF m 28 #[vr a1, vr a2, vi 1] [(.ref a1), (.int 1)])) rfl rfl (hb hby d6_28)
   refine G st6 ?_
   refine G (fun t k => XS.icmpYes X6.here hx rfl (pc0 := 31) (pc' := 51) rfl (hb hby d6_31) rfl (flt (by decide : ¬ ((1 : Int32) < (1 : Int32)))).2.1 (by decide) (by decide) k) ?_
   show Go _ _ _ (T6.setTop (mkF m 51 #[vr a1, vr a2, vi 1] [])) _
   refine G (fun t k => XS.iconst X6.here hx rfl (hb hby d6_51) k) ?_
   obtain ⟨fs, hr, hrun, hended, hW, hsame⟩ := X6.leave (v := some (.int (0 : Int32))) (fun h => by rw [Bd.returns] at h; cases h)
   refine Go.fin (retN X6 hx (t := .boolean) Bd.returns (by simp) (hb hby d6_52) hr) hrun hended ⟨_, _, rfl, ?_, ⟨_, rfl⟩, hW, hsame.mono (by decide) (by decide)⟩
   show Q6_2_1 Z a1 a2 w_v k_v ln v0 v1 w_NI k_NI hAny k_x x0 x1 h0 n0 _ T6.heap _
   rw [e6]
   exact ⟨(by unfold f6_2_1; simp only [if_pos hc4, if_neg hc5]), N3, rfl⟩
 ·rw [show (f11_2 v0 v1 x0 x1) = (0 : Int32) from by unfold f11_2; simp only [if_neg hc4, if_true, if_false]]
  show Go _ _ _ (T3.setTop (mkF m 40 #[vr a1, vr a2, vi 0] [(.int 0)])) _
  refine G (fun t k => XS.ifYes X3.here hx rfl (pc0 := 40) (pc' := 45) rfl (hb hby d6_40) rfl ((if0 _ _).trans (teq (by decide : (0 : Int32) = (0 : Int32))).1) (by decide) (by decide) (XS.iinc X3.here hx rfl (hb hby d6_45) rfl (l' := #[.val (.ref a1), .val (.ref a2), .val (.int ((0 : Int32) + (1 : Int32)))]) rfl (XS.goto X3.here hx rfl (pc0 := 48) (pc' := 26) rfl (hb hby d6_48) (by decide) (by decide) (XS.iloadN X3.here hx rfl (hb hby d6_26) rfl (XS.aloadN X3.here hx rfl (hb hby d6_27) rfl rfl k))))) ?_
  obtain ⟨T7, X7, e7, st7⟩ := getF X3 hx hZ hown (host := "") (Or.inl (wd28 hw)) Via.refl e3 F_a1_s (g := (mkF m 28 #[vr a1, vr a2, vi 1] [(.ref a1), (.int 1)])) rfl rfl (hb hby d6_28)
  refine G st7 ?_
  refine G (fun t k => XS.icmpYes X7.here hx rfl (pc0 := 31) (pc' := 51) rfl (hb hby d6_31) rfl (flt (by decide : ¬ ((1 : Int32) < (1 : Int32)))).2.1 (by decide) (by decide) k) ?_
  show Go _ _ _ (T7.setTop (mkF m 51 #[vr a1, vr a2, vi 1] [])) _
  refine G (fun t k => XS.iconst X7.here hx rfl (hb hby d6_51) k) ?_
  obtain ⟨fs, hr, hrun, hended, hW, hsame⟩ := X7.leave (v := some (.int (0 : Int32))) (fun h => by rw [Bd.returns] at h; cases h)
  refine Go.fin (retN X7 hx (t := .boolean) Bd.returns (by simp) (hb hby d6_52) hr) hrun hended ⟨_, _, rfl, ?_, ⟨_, rfl⟩, hW, hsame.mono (by decide) (by decide)⟩
  show Q6_2_1 Z a1 a2 w_v k_v ln v0 v1 w_NI k_NI hAny k_x x0 x1 h0 n0 _ T7.heap _
  rw [e7]
  exact ⟨(by unfold f6_2_1; simp only [if_neg hc4]), N3, rfl⟩
def Q5_2_N (Z : State) (a1 : Addr) (a2 : Addr) (w_v : Addr) (k_v : ClassId) (ln : Int32) (v0 : Int32) (v1 : Int32) (w_NI : Addr) (k_NI : ClassId) (hAny : Int32) (k_x : ClassId) (x0 : Int32) (x1 : Int32) (h0 : Heap) (n0 : Nat) (v : Option Value) (h : Heap) (L : List Loc) : Prop := ∃ z_5_2_N_holdingAny : Int32, v = some (.int (1 : Int32)) ∧ Fr n0 L ∧ Keep h0 h [w_v, a1] ∧ Exa Z h a1 RC ∧ Fld Z h a1 RC "arity" "I" (.int (2 : Int32)) ∧ Fld Z h a1 RC "values" "[I" (.ref w_v) ∧ Fld Z h a1 RC "size" "I" (.int (1 : Int32)) ∧ Fld Z h a1 RC "members" RI .null ∧ Fld Z h a1 RC "indexes" RJ (.ref w_NI) ∧ Fld Z h a1 RC "holdingAny" "I" (.int z_5_2_N_holdingAny) ∧ Arv Z h w_v k_v .int ln [(.int x0), (.int x1)] (.int (0 : Int32))
theorem ef5_2_N (m : MethodId) (x0 : Addr) (x1 : Addr) : entryFrame m #[(.ref x0), (.ref x1)] 7 = mkF m 0 #[.val (.ref x0), .val (.ref x1), .unset, .unset, .unset, .unset, .unset] [] := by first | (simp [entryFrame, mkF, argsToLocals, Value.category]; done) | rfl
theorem rm5_2_N (l : Launch) (Z : State) (a0 : Array Value) (hw : HW a0 Z) (ws : List Jvm.Cond) (a1 : Addr) (a2 : Addr) (w_v : Addr) (k_v : ClassId) (ln : Int32) (v0 : Int32) (v1 : Int32) (w_NI : Addr) (k_NI : ClassId) (hAny : Int32) (k_x : ClassId) (x0 : Int32) (x1 : Int32) (h0 : Heap) (n0 : Nat) (Z0 : n0 ≤ h0.size) (E_a1 : Exa Z h0 a1 RC) (V_v : Arv Z h0 w_v k_v .int ln [(.int v0), (.int v1)] (.int (0 : Int32))) (V_NI : Arv Z h0 w_NI k_NI (.object IC) (0 : Int32) [] .null) (F_a1_a : Fld Z h0 a1 RC "arity" "I" (.int (2 : Int32))) (F_a1_v : Fld Z h0 a1 RC "values" "[I" (.ref w_v)) (F_a1_s : Fld Z h0 a1 RC "size" "I" (.int (0 : Int32))) (F_a1_m : Fld Z h0 a1 RC "members" RI .null) (F_a1_i : Fld Z h0 a1 RC "indexes" RJ (.ref w_NI)) (F_a1_h : Fld Z h0 a1 RC "holdingAny" "I" (.int hAny)) (V_row : Arv Z h0 a2 k_x .int (2 : Int32) [(.int x0), (.int x1)] (.int (0 : Int32))) (hln : ¬ ln < (8 : Int32)) (ne_w_v_a1 : w_v ≠ a1) (ne_w_NI_a1 : w_NI ≠ a1) (ne_w_NI_w_v : w_NI ≠ w_v) (ne_a2_a1 : a2 ≠ a1) (ne_a2_w_v : a2 ≠ w_v) (ne_a2_w_NI : a2 ≠ w_NI) (g_w_v : n0 ≤ w_v) (g_a1 : n0 ≤ a1) :
  MetFree l (⟨RC, "add", "([I)Z"⟩ : MethodName) (head1 (Jvm.Cond.code (⟨RC, "add", "([I)Z"⟩ : MethodName) cB5 7 (some .boolean) :: ws) (Rm 1 0 0 18)) (Pr Z h0 #[(.ref a1), (.ref a2)]) Tr (fun _ U o U' => ∃ v L, o = .returned v ∧ Q5_2_N Z a1 a2 w_v k_v ln v0 v1 w_NI k_NI hAny k_x x0 x1 h0 n0 v U'.heap L ∧ FrameEnd U o U' L (Rm 1 0 0 18).cells (Rm 1 0 0 18).slots) := by
 refine MetFree.of_bodySF (plainFor_of_name pn0) hisR ?_
 intro p e s m args below meth c s₁ Bd hml0 hP hK
 obtain ⟨rfl, hZ, hh⟩ := hP
 have hx := Bd.exec
 have hby := Bd.bytes
 have hml : c.maxLocals = 7 := hml0
 have hown : s.vm.findClass RC = some m.cls := findClass_of_methodNamed Bd.named
 have hnm := (name_of_methodNamed Bd.named Bd.method).1
 have X0 : Stand p l e (Rm 1 0 0 18) s m #[(.ref a1), (.ref a2)] below meth c s₁ [] 0 0 := Stand.of_body Bd
 have e0 : s₁.heap = h0 := by rw [← hh, Bd.state]; rfl
 have N0 := Fr.nil n0
 have K0 : Keep h0 h0 [w_v, a1] := Keep.refl h0 _
 refine G (P := fun o U' => ∃ v L, o = .returned v ∧ Q5_2_N Z a1 a2 w_v k_v ln v0 v1 w_NI k_NI hAny k_x x0 x1 h0 n0 v U'.heap L ∧ FrameEnd s o U' L (Rm 1 0 0 18).cells (Rm 1 0 0 18).slots) (fun t k => castTop (ef5_2_N m a1 a2) k) ?_
 show Go _ _ _ (s₁.setTop (mkF m 0 #[vr a1, vr a2, us, us, us, us, us] [])) _
 refine G (fun t k => XS.aloadN X0.here hx rfl (hb hby d5_0) rfl rfl k) ?_
 obtain ⟨T1, X1, e1, st1⟩ := getF X0 hx hZ hown (host := "") (Or.inl (wd30 hw)) Via.refl e0 F_a1_m (g := (mkF m 1 #[vr a1, vr a2, us, us, us, us, us] [(.ref a1)])) rfl rfl (hb hby d5_1)
 refine G st1 ?_
 refine G (fun t k => XS.ifnonnullNo X1.here hx rfl (hb hby d5_4) rfl (XS.aloadN X1.here hx rfl (hb hby d5_7) rfl rfl (XS.aloadN X1.here hx rfl (hb hby d5_8) rfl rfl k))) ?_
 obtain ⟨cq2, kq2, q2a, q2b, q2c⟩ := isOf hZ e1 E_a1
 obtain ⟨_, _, ⟨T2, L2, k2, n2⟩, -, X2, ⟨Lc2, hQ2, l2, y2, z2⟩, st2⟩ := X1.virtualBack hx (y := (⟨RC, "contains", "([I)Z"⟩ : MethodName)) (z := (⟨RC, "contains", "([I)Z"⟩ : MethodName)) hown (mvT hZ (wd37 hw)) (mvT hZ (wd38 hw)) (notFace_of_selects (args := #[]) (mvT hZ (wd40 hw))) (mvT hZ (wd40 hw)) (mvT hZ (wd39 hw)) (by decide) (backOf (W := 0) (rm6_2_0 l Z a0 hw [] a1 a2 w_v k_v ln v0 v1 w_NI k_NI hAny k_x x0 x1 h0 n0 Z0 E_a1 V_v V_NI F_a1_a F_a1_v F_a1_s F_a1_m F_a1_i F_a1_h V_row hln ne_w_v_a1 ne_w_NI_a1 ne_w_NI_w_v ne_a2_a1 ne_a2_w_v ne_a2_w_NI) hZ (wd41 hw) (wd8 hw) (by decide) (by decide)) q2a q2c (g := (mkF m 9 #[vr a1, vr a2, us, us, us, us, us] [(.ref a2), (.ref a1)])) rfl (by rw [hml]; rfl) (Steps.refl _) (argsL := [(.ref a2)]) (rest := []) (lenOf pd5 rfl) rfl (by show 2 * 0 + _ ≤ _; exact Nat.le_of_eq rfl) (hb hby d5_9) (fun _ _ => ⟨rfl, e1, (by decide : 0 + 0 ≤ _), (by decide : 0 + 0 ≤ _)⟩)
 dsimp only [Pt.U, Pt.locs, Pt.cells, Pt.slots] at X2 l2 y2 z2 st2 hQ2
 subst l2 y2 z2
 refine Go.tr st2 ?_
 obtain ⟨rfl, N2q, e2⟩ := hQ2
 have N2 := Fr.app N0 N2q
 refine G (fun t k => XS.ifYes X2.here hx rfl (pc0 := 12) (pc' := 17) rfl (hb hby d5_12) rfl ((if0 _ _).trans (teq (by decide : (0 : Int32) = (0 : Int32))).1) (by decide) (by decide) k) ?_
 show Go _ _ _ (T2.setTop (mkF m 17 #[vr a1, vr a2, us, us, us, us, us] [])) _
 refine G (fun t k => XS.aloadN X2.here hx rfl (hb hby d5_17) rfl rfl k) ?_
 obtain ⟨T3, X3, e3, st3⟩ := getF X2 hx hZ hown (host := "") (Or.inl (wd28 hw)) Via.refl e2 F_a1_s (g := (mkF m 18 #[vr a1, vr a2, us, us, us, us, us] [(.ref a1)])) rfl rfl (hb hby d5_18)
 refine G st3 ?_
 refine G (fun t k => XS.iconst X3.here hx rfl (hb hby d5_21) (XS.iadd X3.here hx rfl (hb hby d5_22) rfl (XS.aloadN X3.here hx rfl (hb hby d5_23) rfl rfl k))) ?_
 obtain ⟨T4, X4, e4, st4⟩ := getF X3 hx hZ hown (host := "") (Or.inl (wd19 hw)) Via.refl e3 F_a1_a (g := (mkF m 24 #[vr a1, vr a2, us, us, us, us, us] [(.ref a1), (.int 1)])) rfl rfl (hb hby d5_24)
 refine G st4 ?_
 refine G (fun t k => XS.imul X4.here hx rfl (hb hby d5_27) rfl k) ?_
 show Go _ _ _ (T4.setTop (mkF m 28 #[vr a1, vr a2, us, us, us, us, us] [(.int 2)])) _
 refine G (fun t k => XS.aloadN X4.here hx rfl (hb hby d5_28) rfl rfl k) ?_
 obtain ⟨T5, X5, e5, st5⟩ := getF X4 hx hZ hown (host := "") (Or.inl (wd21 hw)) Via.refl e4 F_a1_v (g := (mkF m 29 #[vr a1, vr a2, us, us, us, us, us] [(.ref a1), (.int 2)])) rfl rfl (hb hby d5_29)
 refine G st5 ?_
 obtain ⟨cl6, Ar6, -, Sz6, Ng6, -, -⟩ := id V_v
 refine G (fun t k => X5.arraylength hx (by rw [e5]; exact Ar6.1) (State.isArrayOf_alike hZ.alike Ar6.2.1) (g := (mkF m 32 #[vr a1, vr a2, us, us, us, us, us] [(.ref w_v), (.int 2)])) rfl rfl (hb hby d5_32) _ k) ?_
 rw [len_of Sz6 Ng6]
 have hf7 : ¬ (ln < (2 : Int32)) := own_nl (2 : Int32) (8 : Int32) _ (by decide) hln
 refine G (fun t k => XS.icmpYes X5.here hx rfl (pc0 := 33) (pc' := 63) rfl (hb hby d5_33) rfl (flt hf7).2.2.2 (by decide) (by decide) (XS.aloadN X5.here hx rfl (hb hby d5_63) rfl rfl (XS.iconst X5.here hx rfl (hb hby d5_64) (XS.aloadN X5.here hx rfl (hb hby d5_65) rfl rfl k)))) ?_
 show Go _ _ _ (T5.setTop (mkF m 66 #[vr a1, vr a2, us, us, us, us, us] [(.ref a1), (.int 0), (.ref a2)])) _
 obtain ⟨T8, X8, e8, st8⟩ := getF X5 hx hZ hown (host := "") (Or.inl (wd21 hw)) Via.refl e5 F_a1_v (g := (mkF m 66 #[vr a1, vr a2, us, us, us, us, us] [(.ref a1), (.int 0), (.ref a2)])) rfl rfl (hb hby d5_66)
 refine G st8 ?_
 refine G (fun t k => XS.aloadN X8.here hx rfl (hb hby d5_69) rfl rfl k) ?_
 obtain ⟨T9, X9, e9, st9⟩ := getF X8 hx hZ hown (host := "") (Or.inl (wd28 hw)) Via.refl e8 F_a1_s (g := (mkF m 70 #[vr a1, vr a2, us, us, us, us, us] [(.ref a1), (.ref w_v), (.int 0), (.ref a2)])) rfl rfl (hb hby d5_70)
 refine G st9 ?_
 refine G (fun t k => XS.aloadN X9.here hx rfl (hb hby d5_73) rfl rfl k) ?_
 obtain ⟨T10, X10, e10, st10⟩ := getF X9 hx hZ hown (host := "") (Or.inl (wd19 hw)) Via.refl e9 F_a1_a (g := (mkF m 74 #[vr a1, vr a2, us, us, us, us, us] [(.ref a1), (.int 0), (.ref w_v), (.int 0), (.ref a2)])) rfl rfl (hb hby d5_74)
 refine G st10 ?_
 refine G (fun t k => XS.imul X10.here hx rfl (hb hby d5_77) rfl (XS.aloadN X10.here hx rfl (hb hby d5_78) rfl rfl k)) ?_
 show Go _ _ _ (T10.setTop (mkF m 79 #[vr a1, vr a2, us, us, us, us, us] [(.ref a1), (.int 0), (.ref w_v), (.int 0), (.ref a2)])) _
 obtain ⟨T11, X11, e11, st11⟩ := getF X10 hx hZ hown (host := "") (Or.inl (wd19 hw)) Via.refl e10 F_a1_a (g := (mkF m 79 #[vr a1, vr a2, us, us, us, us, us] [(.ref a1), (.int 0), (.ref w_v), (.int 0), (.ref a2)])) rfl rfl (hb hby d5_79)
 refine G st11 ?_
 have V_v_pre := V_v
 obtain ⟨T12, h12, L12, X12, e12, N12, K12, B12, st12⟩ := cpA X11 hx hZ hown (wd42 hw) (wd45 hw) (wd43 hw) (wd44 hw) e11 V_row V_v (us := [(.int x0), (.int x1)]) (Or.inl ⟨rfl, rfl⟩) (sp := (0 : Int32)) (dp := (0 : Int32)) (nn := (2 : Int32)) (by decide) (by decide) (by decide) (by decide) (own_cpl 0 2 (8 : Int32) _ (by decide) (by decide) hln) rfl (Nat.le_of_ble_eq_true rfl) N2 g_w_v (g := (mkF m 82 #[vr a1, vr a2, us, us, us, us, us] [(.int 2), (.int 0), (.ref w_v), (.int 0), (.ref a2)])) rfl (by rw [hml]; rfl) rfl (hb hby d5_82) (by decide) (W := 0) (by show 2 * 0 + _ ≤ _; exact Nat.le_of_eq rfl) (by decide)
 refine G st12 ?_
 replace E_a1 := E_a1.keep K12
 replace V_NI := V_NI.keep K12 (ninS ne_w_NI_w_v nin0)
 replace F_a1_a := F_a1_a.keep K12 (ninS (Ne.symm ne_w_v_a1) nin0)
 replace F_a1_v := F_a1_v.keep K12 (ninS (Ne.symm ne_w_v_a1) nin0)
 replace F_a1_s := F_a1_s.keep K12 (ninS (Ne.symm ne_w_v_a1) nin0)
 replace F_a1_m := F_a1_m.keep K12 (ninS (Ne.symm ne_w_v_a1) nin0)
 replace F_a1_i := F_a1_i.keep K12 (ninS (Ne.symm ne_w_v_a1) nin0)
 replace F_a1_h := F_a1_h.keep K12 (ninS (Ne.symm ne_w_v_a1) nin0)
 replace V_row := V_row.keep K12 (ninS ne_a2_w_v nin0)
 replace Z0 := Nat.le_trans Z0 K12.1
 replace K0 := K0.trans K12 (allS (Or.inl (by simp)) all0)
 have V_v : Arv Z h12 w_v k_v .int ln [(.int x0), (.int x1)] (.int (0 : Int32)) := B12
 refine G (fun t k => XS.aloadN X12.here hx rfl (hb hby d5_85) rfl rfl k) ?_
 obtain ⟨T13, X13, e13, st13⟩ := getF X12 hx hZ hown (host := "") (Or.inl (wd30 hw)) Via.refl e12 F_a1_m (g := (mkF m 86 #[vr a1, vr a2, us, us, us, us, us] [(.ref a1)])) rfl rfl (hb hby d5_86)
 refine G st13 ?_
 refine G (fun t k => XS.ifnullYes X13.here hx rfl (pc0 := 89) (pc' := 108) rfl (hb hby d5_89) rfl (by decide) (by decide) (XS.aloadN X13.here hx rfl (hb hby d5_108) rfl rfl (XS.dup X13.here hx rfl (hb hby d5_109) rfl rfl k))) ?_
 show Go _ _ _ (T13.setTop (mkF m 110 #[vr a1, vr a2, us, us, us, us, us] [(.ref a1), (.ref a1)])) _
 obtain ⟨T14, X14, e14, st14⟩ := getF X13 hx hZ hown (host := "") (Or.inl (wd28 hw)) Via.refl e13 F_a1_s (g := (mkF m 110 #[vr a1, vr a2, us, us, us, us, us] [(.ref a1), (.ref a1)])) rfl rfl (hb hby d5_110)
 refine G st14 ?_
 refine G (fun t k => XS.dupX1 X14.here hx rfl (hb hby d5_113) rfl rfl rfl (XS.iconst X14.here hx rfl (hb hby d5_114) (XS.iadd X14.here hx rfl (hb hby d5_115) rfl k))) ?_
 obtain ⟨T15, h15, X15, e15, W15, st15⟩ := putF X14 hx hZ hown (host := "") (Or.inl (wd28 hw)) Via.refl e14 F_a1_s E_a1 (Or.inl (wd29 hw)) (wd7 hw) (ty := .int) (by decide) rfl rfl (g := (mkF m 116 #[vr a1, vr a2, us, us, us, us, us] [(.int 1), (.ref a1), (.int 0)])) rfl rfl (hb hby d5_116)
 refine G st15 ?_
 have N15 := Fr.snoc X15 N12 g_a1
 replace E_a1 := E_a1.wr W15
 replace V_NI := V_NI.other W15 ne_w_NI_a1
 replace F_a1_a := F_a1_a.other W15 (sn33 hw)
 replace F_a1_v := F_a1_v.other W15 (sn34 hw)
 replace F_a1_s := F_a1_s.same W15
 replace F_a1_m := F_a1_m.other W15 (sn35 hw)
 replace F_a1_i := F_a1_i.other W15 (sn36 hw)
 replace F_a1_h := F_a1_h.other W15 (sn37 hw)
 replace V_row := V_row.other W15 ne_a2_a1
 replace V_v := V_v.other W15 ne_w_v_a1
 replace Z0 := Nat.le_trans Z0 (Nat.le_of_eq W15.size.symm)
 replace K0 := K0.wr W15 (Or.inl (by simp))
 refine G (fun t k => XS.istoreN X15.here hx rfl (hb hby d5_119) rfl (l' := #[vr a1, vr a2, vi 0, us, us, us, us]) rfl (XS.aloadN X15.here hx rfl (hb hby d5_120) rfl rfl k)) ?_
 show Go _ _ _ (T15.setTop (mkF m 121 #[vr a1, vr a2, vi 0, us, us, us, us] [(.ref a2)])) _
 refine G (fun t k => XS.astoreN X15.here hx rfl (hb hby d5_121) rfl rfl (l' := #[vr a1, vr a2, vi 0, vr a2, us, us, us]) rfl (XS.aloadN X15.here hx rfl (hb hby d5_122) rfl rfl k)) ?_
 obtain ⟨cl16, Ar16, -, Sz16, Ng16, -, -⟩ := id V_row
 refine G (fun t k => X15.arraylength hx (by rw [e15]; exact Ar16.1) (State.isArrayOf_alike hZ.alike Ar16.2.1) (g := (mkF m 123 #[vr a1, vr a2, vi 0, vr a2, us, us, us] [(.ref a2)])) rfl rfl (hb hby d5_123) _ k) ?_
 rw [len_of Sz16 Ng16]
 refine G (fun t k => XS.istore X15.here hx rfl (hb hby d5_124) rfl (l' := #[vr a1, vr a2, vi 0, vr a2, vi 2, us, us]) rfl (XS.iconst X15.here hx rfl (hb hby d5_126) (XS.istore X15.here hx rfl (hb hby d5_127) rfl (l' := #[vr a1, vr a2, vi 0, vr a2, vi 2, vi 0, us]) rfl k))) ?_
 show Go _ _ _ (T15.setTop (mkF m 129 #[vr a1, vr a2, vi 0, vr a2, vi 2, vi 0, us] [])) _
 have J17 : ∀ (TJ : State) (locsJ : List Loc) (hJ : Heap) (jAny : Int32) (j5 : Int32) (j6 : Int32), Stand p l e (Rm 1 0 0 18) s m #[(.ref a1), (.ref a2)] below meth c TJ locsJ 0 0 → TJ.heap = hJ → Fr n0 locsJ → Keep h0 hJ [w_v, a1] → n0 ≤ hJ.size → Exa Z hJ a1 RC → Arv Z hJ w_NI k_NI (.object IC) (0 : Int32) [] .null → Fld Z hJ a1 RC "arity" "I" (.int (2 : Int32)) → Fld Z hJ a1 RC "values" "[I" (.ref w_v) → Fld Z hJ a1 RC "size" "I" (.int (1 : Int32)) → Fld Z hJ a1 RC "members" RI .null → Fld Z hJ a1 RC "indexes" RJ (.ref w_NI) → Fld Z hJ a1 RC "holdingAny" "I" (.int jAny) → Arv Z hJ a2 k_x .int (2 : Int32) [(.int x0), (.int x1)] (.int (0 : Int32)) → Arv Z hJ w_v k_v .int ln [(.int x0), (.int x1)] (.int (0 : Int32)) → Go p.tables e below (TJ.setTop (mkF m 168 #[vr a1, vr a2, vi 0, vr a2, vi 2, vi j5, vi j6] [])) (fun o U' => ∃ v L, o = .returned v ∧ Q5_2_N Z a1 a2 w_v k_v ln v0 v1 w_NI k_NI hAny k_x x0 x1 h0 n0 v U'.heap L ∧ FrameEnd s o U' L (Rm 1 0 0 18).cells (Rm 1 0 0 18).slots) := by
  intro TJ locsJ hJ jAny j5 j6 XJ eJ NJ K0 Z0 E_a1 V_NI F_a1_a F_a1_v F_a1_s F_a1_m F_a1_i F_a1_h V_row V_v
  refine G (fun t k => XS.aloadN XJ.here hx rfl (hb hby d5_168) rfl rfl k) ?_
  obtain ⟨T18, X18, e18, st18⟩ := getF XJ hx hZ hown (host := "") (Or.inl (wd30 hw)) Via.refl eJ F_a1_m (g := (mkF m 169 #[vr a1, vr a2, vi 0, vr a2, vi 2, vi j5, vi j6] [(.ref a1)])) rfl rfl (hb hby d5_169)
  refine G st18 ?_
  refine G (fun t k => XS.ifnonnullNo X18.here hx rfl (hb hby d5_172) rfl (XS.aloadN X18.here hx rfl (hb hby d5_175) rfl rfl k)) ?_
  obtain ⟨T19, X19, e19, st19⟩ := getF X18 hx hZ hown (host := "") (Or.inl (wd28 hw)) Via.refl e18 F_a1_s (g := (mkF m 176 #[vr a1, vr a2, vi 0, vr a2, vi 2, vi j5, vi j6] [(.ref a1)])) rfl rfl (hb hby d5_176)
  refine G st19 ?_
  refine G (fun t k => XS.bipush X19.here hx rfl (hb hby d5_179) (XS.icmpYes X19.here hx rfl (pc0 := 181) (pc' := 207) rfl (hb hby d5_181) rfl (flt (by decide : ¬ ((8 : Int32) < (1 : Int32)))).2.2.2 (by decide) (by decide) k)) ?_
  show Go _ _ _ (T19.setTop (mkF m 207 #[vr a1, vr a2, vi 0, vr a2, vi 2, vi j5, vi j6] [])) _
  refine G (fun t k => XS.aloadN X19.here hx rfl (hb hby d5_207) rfl rfl k) ?_
  obtain ⟨T20, X20, e20, st20⟩ := getF X19 hx hZ hown (host := "") (Or.inl (wd17 hw)) Via.refl e19 F_a1_i (g := (mkF m 208 #[vr a1, vr a2, vi 0, vr a2, vi 2, vi j5, vi j6] [(.ref a1)])) rfl rfl (hb hby d5_208)
  refine G st20 ?_
  refine G (fun t k => XS.astoreN X20.here hx rfl (hb hby d5_211) rfl rfl (l' := #[vr a1, vr a2, vi 0, vr w_NI, vi 2, vi j5, vi j6]) rfl (XS.aloadN X20.here hx rfl (hb hby d5_212) rfl rfl k)) ?_
  obtain ⟨cl21, Ar21, -, Sz21, Ng21, -, -⟩ := id V_NI
  refine G (fun t k => X20.arraylength hx (by rw [e20]; exact Ar21.1) (State.isArrayOf_alike hZ.alike Ar21.2.1) (g := (mkF m 213 #[vr a1, vr a2, vi 0, vr w_NI, vi 2, vi j5, vi j6] [(.ref w_NI)])) rfl rfl (hb hby d5_213) _ k) ?_
  rw [len_of Sz21 Ng21]
  refine G (fun t k => XS.istore X20.here hx rfl (hb hby d5_214) rfl (l' := #[vr a1, vr a2, vi 0, vr w_NI, vi 0, vi j5, vi j6]) rfl (XS.iconst X20.here hx rfl (hb hby d5_216) k)) ?_
  show Go _ _ _ (T20.setTop (mkF m 217 #[vr a1, vr a2, vi 0, vr w_NI, vi 0, vi j5, vi j6] [(.int 0)])) _
  refine G (fun t k => XS.istore X20.here hx rfl (hb hby d5_217) rfl (l' := #[vr a1, vr a2, vi 0, vr w_NI, vi 0, vi 0, vi j6]) rfl (XS.iload X20.here hx rfl (hb hby d5_219) rfl (XS.iload X20.here hx rfl (hb hby d5_221) rfl (XS.icmpYes X20.here hx rfl (pc0 := 223) (pc' := 244) rfl (hb hby d5_223) rfl (flt (by decide : ¬ ((0 : Int32) < (0 : Int32)))).2.1 (by decide) (by decide) (XS.iconst X20.here hx rfl (hb hby d5_244) k))))) ?_
  obtain ⟨fs, hr, hrun, hended, hW, hsame⟩ := X20.leave (v := some (.int (1 : Int32))) (fun h => by rw [Bd.returns] at h; cases h)
  refine Go.fin (retN X20 hx (t := .boolean) Bd.returns (by simp) (hb hby d5_245) hr) hrun hended ⟨_, _, rfl, ?_, ⟨_, rfl⟩, hW, hsame.mono (by decide) (by decide)⟩
  show Q5_2_N Z a1 a2 w_v k_v ln v0 v1 w_NI k_NI hAny k_x x0 x1 h0 n0 _ T20.heap _
  rw [e20]
  exact ⟨jAny, rfl, NJ, K0, E_a1, F_a1_a, F_a1_v, F_a1_s, F_a1_m, F_a1_i, F_a1_h, V_v⟩
 show Go _ _ _ (T15.setTop (mkF m 129 #[vr a1, vr a2, vi 0, vr a2, vi 2, vi 0, us] [])) _
 refine G (fun t k => XS.iload X15.here hx rfl (hb hby d5_129) rfl (XS.iload X15.here hx rfl (hb hby d5_131) rfl (XS.icmpNo X15.here hx rfl (hb hby d5_133) rfl (tlt (by decide : (0 : Int32) < (2 : Int32))).2.1 (XS.aloadN X15.here hx rfl (hb hby d5_136) rfl rfl (XS.iload X15.here hx rfl (hb hby d5_137) rfl k))))) ?_
 obtain ⟨cl22, Ar22, -, Sz22, Ng22, Hs22, -⟩ := id V_row
 have hin22 : ¬ ((0 : Int32) < 0 ∨ cl22.slots.size ≤ ((0 : Int32)).toNatClampNeg) := inb_of Sz22 ⟨by decide, by decide⟩
 refine G (fun t k => X15.iaload hx (j := (0 : Int32)) (v := (.int x0)) (by rw [e15]; exact Ar22.1) (State.isArrayOf_alike hZ.alike Ar22.2.1) Ar22.2.2 hin22 (Has.at Hs22 hin22 rfl) (g := (mkF m 139 #[vr a1, vr a2, vi 0, vr a2, vi 2, vi 0, us] [(.int 0), (.ref a2)])) rfl rfl (hb hby d5_139) _ (XS.istore X15.here hx rfl (hb hby d5_140) rfl (l' := #[vr a1, vr a2, vi 0, vr a2, vi 2, vi 0, vi x0]) rfl k)) ?_
 show Go _ _ _ (T15.setTop (mkF m 142 #[vr a1, vr a2, vi 0, vr a2, vi 2, vi 0, vi x0] [])) _
 refine G (fun t k => XS.iload X15.here hx rfl (hb hby d5_142) rfl (X15.ldcInt hx hown (mvT hZ (wd46 hw)) (g := (mkF m 144 #[vr a1, vr a2, vi 0, vr a2, vi 2, vi 0, vi x0] [(.int x0)])) rfl (hb hby d5_144) _ k)) ?_
 by_cases hc23 : x0 = (2147483647 : Int32)
 ·refine G (fun t k => XS.icmpNo X15.here hx rfl (hb hby d5_146) rfl (teq hc23).2 (XS.aloadN X15.here hx rfl (hb hby d5_149) rfl rfl (XS.dup X15.here hx rfl (hb hby d5_150) rfl rfl k))) ?_
  obtain ⟨T24, X24, e24, st24⟩ := getF X15 hx hZ hown (host := "") (Or.inl (wd57 hw)) Via.refl e15 F_a1_h (g := (mkF m 151 #[vr a1, vr a2, vi 0, vr a2, vi 2, vi 0, vi x0] [(.ref a1), (.ref a1)])) rfl rfl (hb hby d5_151)
  refine G st24 ?_
  refine G (fun t k => XS.iconst X24.here hx rfl (hb hby d5_154) k) ?_
  show Go _ _ _ (T24.setTop (mkF m 155 #[vr a1, vr a2, vi 0, vr a2, vi 2, vi 0, vi x0] [(.int 1), (.int hAny), (.ref a1)])) _
  refine G (fun t k => XS.iadd X24.here hx rfl (hb hby d5_155) rfl k) ?_
  obtain ⟨T25, h25, X25, e25, W25, st25⟩ := putF X24 hx hZ hown (host := "") (Or.inl (wd57 hw)) Via.refl e24 F_a1_h E_a1 (Or.inl (wd58 hw)) (wd7 hw) (ty := .int) (by decide) rfl rfl (g := (mkF m 156 #[vr a1, vr a2, vi 0, vr a2, vi 2, vi 0, vi x0] [(.int (hAny + (1 : Int32))), (.ref a1)])) rfl rfl (hb hby d5_156)
  refine G st25 ?_
  have N25 := Fr.snoc X25 N15 g_a1
  replace E_a1 := E_a1.wr W25
  replace V_NI := V_NI.other W25 ne_w_NI_a1
  replace F_a1_a := F_a1_a.other W25 (sn38 hw)
  replace F_a1_v := F_a1_v.other W25 (sn39 hw)
  replace F_a1_s := F_a1_s.other W25 (sn40 hw)
  replace F_a1_m := F_a1_m.other W25 (sn41 hw)
  replace F_a1_i := F_a1_i.other W25 (sn42 hw)
  replace F_a1_h := F_a1_h.same W25
  replace V_row := V_row.other W25 ne_a2_a1
  replace V_v := V_v.other W25 ne_w_v_a1
  replace Z0 := Nat.le_trans Z0 (Nat.le_of_eq W25.size.symm)
  replace K0 := K0.wr W25 (Or.inl (by simp))
  refine G (fun t k => XS.goto X25.here hx rfl (pc0 := 159) (pc' := 168) rfl (hb hby d5_159) (by decide) (by decide) k) ?_
  show Go _ _ _ (T25.setTop (mkF m 168 #[vr a1, vr a2, vi 0, vr a2, vi 2, vi 0, vi x0] [])) _
  exact J17 _ _ _ (hAny + (1 : Int32)) (0 : Int32) x0 X25 e25 N25 K0 Z0 E_a1 V_NI F_a1_a F_a1_v F_a1_s F_a1_m F_a1_i F_a1_h V_row V_v
 ·refine G (fun t k => XS.icmpYes X15.here hx rfl (pc0 := 146) (pc' := 162) rfl (hb hby d5_146) rfl (feq hc23).2 (by decide) (by decide) (XS.iinc X15.here hx rfl (hb hby d5_162) rfl (l' := #[.val (.ref a1), .val (.ref a2), .val (.int (0 : Int32)), .val (.ref a2), .val (.int (2 : Int32)), .val (.int ((0 : Int32) + (1 : Int32))), .val (.int x0)]) rfl (XS.goto X15.here hx rfl (pc0 := 165) (pc' := 129) rfl (hb hby d5_165) (by decide) (by decide) k))) ?_
  show Go _ _ _ (T15.setTop (mkF m 129 #[vr a1, vr a2, vi 0, vr a2, vi 2, vi 1, vi x0] [])) _
  refine G (fun t k => XS.iload X15.here hx rfl (hb hby d5_129) rfl (XS.iload X15.here hx rfl (hb hby d5_131) rfl (XS.icmpNo X15.here hx rfl (hb hby d5_133) rfl (tlt (by decide : (1 : Int32) < (2 : Int32))).2.1 (XS.aloadN X15.here hx rfl (hb hby d5_136) rfl rfl (XS.iload X15.here hx rfl (hb hby d5_137) rfl k))))) ?_
  obtain ⟨cl26, Ar26, -, Sz26, Ng26, Hs26, -⟩ := id V_row
  have hin26 : ¬ ((1 : Int32) < 0 ∨ cl26.slots.size ≤ ((1 : Int32)).toNatClampNeg) := inb_of Sz26 ⟨by decide, by decide⟩
  refine G (fun t k => X15.iaload hx (j := (1 : Int32)) (v := (.int x1)) (by rw [e15]; exact Ar26.1) (State.isArrayOf_alike hZ.alike Ar26.2.1) Ar26.2.2 hin26 (Has.at Hs26 hin26 rfl) (g := (mkF m 139 #[vr a1, vr a2, vi 0, vr a2, vi 2, vi 1, vi x0] [(.int 1), (.ref a2)])) rfl rfl (hb hby d5_139) _ (XS.istore X15.here hx rfl (hb hby d5_140) rfl (l' := #[vr a1, vr a2, vi 0, vr a2, vi 2, vi 1, vi x1]) rfl k)) ?_
  show Go _ _ _ (T15.setTop (mkF m 142 #[vr a1, vr a2, vi 0, vr a2, vi 2, vi 1, vi x1] [])) _
  refine G (fun t k => XS.iload X15.here hx rfl (hb hby d5_142) rfl (X15.ldcInt hx hown (mvT hZ (wd46 hw)) (g := (mkF m 144 #[vr a1, vr a2, vi 0, vr a2, vi 2, vi 1, vi x1] [(.int x1)])) rfl (hb hby d5_144) _ k)) ?_
  by_cases hc27 : x1 = (2147483647 : Int32)
  ·refine G (fun t k => XS.icmpNo X15.here hx rfl (hb hby d5_146) rfl (teq hc27).2 (XS.aloadN X15.here hx rfl (hb hby d5_149) rfl rfl (XS.dup X15.here hx rfl (hb hby d5_150) rfl rfl k))) ?_
   obtain ⟨T28, X28, e28, st28⟩ := getF X15 hx hZ hown (host := "") (Or.inl (wd57 hw)) Via.refl e15 F_a1_h (g := (mkF m 151 #[vr a1, vr a2, vi 0, vr a2, vi 2, vi 1, vi x1] [(.ref a1), (.ref a1)])) rfl rfl (hb hby d5_151)
   refine G st28 ?_
   refine G (fun t k => XS.iconst X28.here hx rfl (hb hby d5_154) k) ?_
   show Go _ _ _ (T28.setTop (mkF m 155 #[vr a1, vr a2, vi 0, vr a2, vi 2, vi 1, vi x1] [(.int 1), (.int hAny), (.ref a1)])) _
   refine G (fun t k => XS.iadd X28.here hx rfl (hb hby d5_155) rfl k) ?_
   obtain ⟨T29, h29, X29, e29, W29, st29⟩ := putF X28 hx hZ hown (host := "") (Or.inl (wd57 hw)) Via.refl e28 F_a1_h E_a1 (Or.inl (wd58 hw)) (wd7 hw) (ty := .int) (by decide) rfl rfl (g := (mkF m 156 #[vr a1, vr a2, vi 0, vr a2, vi 2, vi 1, vi x1] [(.int (hAny + (1 : Int32))), (.ref a1)])) rfl rfl (hb hby d5_156)
   refine G st29 ?_
   have N29 := Fr.snoc X29 N15 g_a1
   replace E_a1 := E_a1.wr W29
   replace V_NI := V_NI.other W29 ne_w_NI_a1
   replace F_a1_a := F_a1_a.other W29 (sn38 hw)
   replace F_a1_v := F_a1_v.other W29 (sn39 hw)
   replace F_a1_s := F_a1_s.other W29 (sn40 hw)
   replace F_a1_m := F_a1_m.other W29 (sn41 hw)
   replace F_a1_i := F_a1_i.other W29 (sn42 hw)
   replace F_a1_h := F_a1_h.same W29
   replace V_row := V_row.other W29 ne_a2_a1
   replace V_v := V_v.other W29 ne_w_v_a1
   replace Z0 := Nat.le_trans Z0 (Nat.le_of_eq W29.size.symm)
   replace K0 := K0.wr W29 (Or.inl (by simp))
   refine G (fun t k => XS.goto X29.here hx rfl (pc0 := 159) (pc' := 168) rfl (hb hby d5_159) (by decide) (by decide) k) ?_
   show Go _ _ _ (T29.setTop (mkF m 168 #[vr a1, vr a2, vi 0, vr a2, vi 2, vi 1, vi x1] [])) _
   exact J17 _ _ _ (hAny + (1 : Int32)) (1 : Int32) x1 X29 e29 N29 K0 Z0 E_a1 V_NI F_a1_a F_a1_v F_a1_s F_a1_m F_a1_i F_a1_h V_row V_v
  ·refine G (fun t k => XS.icmpYes X15.here hx rfl (pc0 := 146) (pc' := 162) rfl (hb hby d5_146) rfl (feq hc27).2 (by decide) (by decide) (XS.iinc X15.here hx rfl (hb hby d5_162) rfl (l' := #[.val (.ref a1), .val (.ref a2), .val (.int (0 : Int32)), .val (.ref a2), .val (.int (2 : Int32)), .val (.int ((1 : Int32) + (1 : Int32))), .val (.int x1)]) rfl (XS.goto X15.here hx rfl (pc0 := 165) (pc' := 129) rfl (hb hby d5_165) (by decide) (by decide) k))) ?_
   show Go _ _ _ (T15.setTop (mkF m 129 #[vr a1, vr a2, vi 0, vr a2, vi 2, vi 2, vi x1] [])) _
   refine G (fun t k => XS.iload X15.here hx rfl (hb hby d5_129) rfl (XS.iload X15.here hx rfl (hb hby d5_131) rfl (XS.icmpYes X15.here hx rfl (pc0 := 133) (pc' := 168) rfl (hb hby d5_133) rfl (flt (by decide : ¬ ((2 : Int32) < (2 : Int32)))).2.1 (by decide) (by decide) k))) ?_
   show Go _ _ _ (T15.setTop (mkF m 168 #[vr a1, vr a2, vi 0, vr a2, vi 2, vi 2, vi x1] [])) _
   exact J17 _ _ _ hAny (2 : Int32) x1 X15 e15 N15 K0 Z0 E_a1 V_NI F_a1_a F_a1_v F_a1_s F_a1_m F_a1_i F_a1_h V_row V_v
def Q5_2_R (Z : State) (a1 : Addr) (a2 : Addr) (w_v : Addr) (k_v : ClassId) (ln : Int32) (v0 : Int32) (v1 : Int32) (w_NI : Addr) (k_NI : ClassId) (hAny : Int32) (k_x : ClassId) (x0 : Int32) (x1 : Int32) (w_m : Addr) (w_pos : Addr) (w_sl : Addr) (w_nx : Addr) (k_p : ClassId) (k_s : ClassId) (k_n : ClassId) (h0 : Heap) (n0 : Nat) (v : Option Value) (h : Heap) (L : List Loc) : Prop := ∃ z_5_2_R_holdingAny : Int32, v = some (.int (1 : Int32)) ∧ Fr n0 L ∧ Keep h0 h [w_v, w_nx, w_sl, w_m, a1] ∧ Exa Z h a1 RC ∧ Fld Z h a1 RC "arity" "I" (.int (2 : Int32)) ∧ Fld Z h a1 RC "values" "[I" (.ref w_v) ∧ Fld Z h a1 RC "size" "I" (.int (1 : Int32)) ∧ Fld Z h a1 RC "members" RI (.ref w_m) ∧ Fld Z h a1 RC "indexes" RJ (.ref w_NI) ∧ Fld Z h a1 RC "holdingAny" "I" (.int z_5_2_R_holdingAny) ∧ Arv Z h w_v k_v .int ln [(.int x0), (.int x1)] (.int (0 : Int32))
theorem ef5_2_R (m : MethodId) (x0 : Addr) (x1 : Addr) : entryFrame m #[(.ref x0), (.ref x1)] 7 = mkF m 0 #[.val (.ref x0), .val (.ref x1), .unset, .unset, .unset, .unset, .unset] [] := by first | (simp [entryFrame, mkF, argsToLocals, Value.category]; done) | rfl
theorem rm5_2_R (l : Launch) (Z : State) (a0 : Array Value) (hw : HW a0 Z) (ws : List Jvm.Cond) (a1 : Addr) (a2 : Addr) (w_v : Addr) (k_v : ClassId) (ln : Int32) (v0 : Int32) (v1 : Int32) (w_NI : Addr) (k_NI : ClassId) (hAny : Int32) (k_x : ClassId) (x0 : Int32) (x1 : Int32) (w_m : Addr) (w_pos : Addr) (w_sl : Addr) (w_nx : Addr) (k_p : ClassId) (k_s : ClassId) (k_n : ClassId) (h0 : Heap) (n0 : Nat) (Z0 : n0 ≤ h0.size) (E_a1 : Exa Z h0 a1 RC) (V_v : Arv Z h0 w_v k_v .int ln [(.int v0), (.int v1)] (.int (0 : Int32))) (V_NI : Arv Z h0 w_NI k_NI (.object IC) (0 : Int32) [] .null) (F_a1_a : Fld Z h0 a1 RC "arity" "I" (.int (2 : Int32))) (F_a1_v : Fld Z h0 a1 RC "values" "[I" (.ref w_v)) (F_a1_s : Fld Z h0 a1 RC "size" "I" (.int (0 : Int32))) (F_a1_m : Fld Z h0 a1 RC "members" RI (.ref w_m)) (F_a1_i : Fld Z h0 a1 RC "indexes" RJ (.ref w_NI)) (F_a1_h : Fld Z h0 a1 RC "holdingAny" "I" (.int hAny)) (V_row : Arv Z h0 a2 k_x .int (2 : Int32) [(.int x0), (.int x1)] (.int (0 : Int32))) (E_w_m : Exa Z h0 w_m IC) (F_w_m_p : Fld Z h0 w_m IC "positions" "[I" (.ref w_pos)) (F_w_m_l : Fld Z h0 w_m IC "slots" "[I" (.ref w_sl)) (F_w_m_next : Fld Z h0 w_m IC "next" "[I" (.ref w_nx)) (F_w_m_keys : Fld Z h0 w_m IC "keys" "I" (.int (0 : Int32))) (V_pos : Arv Z h0 w_pos k_p .int (2 : Int32) [(.int (0 : Int32)), (.int (1 : Int32))] (.int (0 : Int32))) (V_sl : Arh Z h0 w_sl k_s .int (128 : Int32) [] [] (.int (0 : Int32))) (V_nx : Arv Z h0 w_nx k_n .int (16 : Int32) [] (.int (0 : Int32))) (F_w_m_this_0 : Fld Z h0 w_m IC "this$0" RL (.ref a1)) (hln : ¬ ln < (8 : Int32)) (ne_w_v_a1 : w_v ≠ a1) (ne_w_NI_a1 : w_NI ≠ a1) (ne_w_NI_w_v : w_NI ≠ w_v) (ne_a2_a1 : a2 ≠ a1) (ne_a2_w_v : a2 ≠ w_v) (ne_a2_w_NI : a2 ≠ w_NI) (ne_w_m_a1 : w_m ≠ a1) (ne_w_m_w_v : w_m ≠ w_v) (ne_w_m_w_NI : w_m ≠ w_NI) (ne_w_m_a2 : w_m ≠ a2) (ne_w_pos_a1 : w_pos ≠ a1) (ne_w_pos_w_v : w_pos ≠ w_v) (ne_w_pos_w_NI : w_pos ≠ w_NI) (ne_w_pos_a2 : w_pos ≠ a2) (ne_w_pos_w_m : w_pos ≠ w_m) (ne_w_sl_a1 : w_sl ≠ a1) (ne_w_sl_w_v : w_sl ≠ w_v) (ne_w_sl_w_NI : w_sl ≠ w_NI) (ne_w_sl_a2 : w_sl ≠ a2) (ne_w_sl_w_m : w_sl ≠ w_m) (ne_w_sl_w_pos : w_sl ≠ w_pos) (ne_w_nx_a1 : w_nx ≠ a1) (ne_w_nx_w_v : w_nx ≠ w_v) (ne_w_nx_w_NI : w_nx ≠ w_NI) (ne_w_nx_a2 : w_nx ≠ a2) (ne_w_nx_w_m : w_nx ≠ w_m) (ne_w_nx_w_pos : w_nx ≠ w_pos) (ne_w_nx_w_sl : w_nx ≠ w_sl) (g_w_v : n0 ≤ w_v) (g_w_nx : n0 ≤ w_nx) (g_w_sl : n0 ≤ w_sl) (g_w_m : n0 ≤ w_m) (g_a1 : n0 ≤ a1) :
  MetFree l (⟨RC, "add", "([I)Z"⟩ : MethodName) (head1 (Jvm.Cond.code (⟨RC, "add", "([I)Z"⟩ : MethodName) cB5 7 (some .boolean) :: ws) (Rm 3 0 0 46)) (Pr Z h0 #[(.ref a1), (.ref a2)]) Tr (fun _ U o U' => ∃ v L, o = .returned v ∧ Q5_2_R Z a1 a2 w_v k_v ln v0 v1 w_NI k_NI hAny k_x x0 x1 w_m w_pos w_sl w_nx k_p k_s k_n h0 n0 v U'.heap L ∧ FrameEnd U o U' L (Rm 3 0 0 46).cells (Rm 3 0 0 46).slots) := by
 refine MetFree.of_bodySF (plainFor_of_name pn0) hisR ?_
 intro p e s m args below meth c s₁ Bd hml0 hP hK
 obtain ⟨rfl, hZ, hh⟩ := hP
 have hx := Bd.exec
 have hby := Bd.bytes
 have hml : c.maxLocals = 7 := hml0
 have hown : s.vm.findClass RC = some m.cls := findClass_of_methodNamed Bd.named
 have hnm := (name_of_methodNamed Bd.named Bd.method).1
 have X0 : Stand p l e (Rm 3 0 0 46) s m #[(.ref a1), (.ref a2)] below meth c s₁ [] 0 0 := Stand.of_body Bd
 have e0 : s₁.heap = h0 := by rw [← hh, Bd.state]; rfl
 have N0 := Fr.nil n0
 have K0 : Keep h0 h0 [w_v, w_nx, w_sl, w_m, a1] := Keep.refl h0 _
 refine G (P := fun o U' => ∃ v L, o = .returned v ∧ Q5_2_R Z a1 a2 w_v k_v ln v0 v1 w_NI k_NI hAny k_x x0 x1 w_m w_pos w_sl w_nx k_p k_s k_n h0 n0 v U'.heap L ∧ FrameEnd s o U' L (Rm 3 0 0 46).cells (Rm 3 0 0 46).slots) (fun t k => castTop (ef5_2_R m a1 a2) k) ?_
 show Go _ _ _ (s₁.setTop (mkF m 0 #[vr a1, vr a2, us, us, us, us, us] [])) _
 refine G (fun t k => XS.aloadN X0.here hx rfl (hb hby d5_0) rfl rfl k) ?_
 obtain ⟨T1, X1, e1, st1⟩ := getF X0 hx hZ hown (host := "") (Or.inl (wd30 hw)) Via.refl e0 F_a1_m (g := (mkF m 1 #[vr a1, vr a2, us, us, us, us, us] [(.ref a1)])) rfl rfl (hb hby d5_1)
 refine G st1 ?_
 refine G (fun t k => XS.ifnonnullYes X1.here hx rfl (pc0 := 4) (pc' := 17) rfl (hb hby d5_4) rfl (by decide) (by decide) (XS.aloadN X1.here hx rfl (hb hby d5_17) rfl rfl k)) ?_
 obtain ⟨T2, X2, e2, st2⟩ := getF X1 hx hZ hown (host := "") (Or.inl (wd28 hw)) Via.refl e1 F_a1_s (g := (mkF m 18 #[vr a1, vr a2, us, us, us, us, us] [(.ref a1)])) rfl rfl (hb hby d5_18)
 refine G st2 ?_
 refine G (fun t k => XS.iconst X2.here hx rfl (hb hby d5_21) (XS.iadd X2.here hx rfl (hb hby d5_22) rfl k)) ?_
 show Go _ _ _ (T2.setTop (mkF m 23 #[vr a1, vr a2, us, us, us, us, us] [(.int 1)])) _
 refine G (fun t k => XS.aloadN X2.here hx rfl (hb hby d5_23) rfl rfl k) ?_
 obtain ⟨T3, X3, e3, st3⟩ := getF X2 hx hZ hown (host := "") (Or.inl (wd19 hw)) Via.refl e2 F_a1_a (g := (mkF m 24 #[vr a1, vr a2, us, us, us, us, us] [(.ref a1), (.int 1)])) rfl rfl (hb hby d5_24)
 refine G st3 ?_
 refine G (fun t k => XS.imul X3.here hx rfl (hb hby d5_27) rfl (XS.aloadN X3.here hx rfl (hb hby d5_28) rfl rfl k)) ?_
 obtain ⟨T4, X4, e4, st4⟩ := getF X3 hx hZ hown (host := "") (Or.inl (wd21 hw)) Via.refl e3 F_a1_v (g := (mkF m 29 #[vr a1, vr a2, us, us, us, us, us] [(.ref a1), (.int 2)])) rfl rfl (hb hby d5_29)
 refine G st4 ?_
 obtain ⟨cl5, Ar5, -, Sz5, Ng5, -, -⟩ := id V_v
 refine G (fun t k => X4.arraylength hx (by rw [e4]; exact Ar5.1) (State.isArrayOf_alike hZ.alike Ar5.2.1) (g := (mkF m 32 #[vr a1, vr a2, us, us, us, us, us] [(.ref w_v), (.int 2)])) rfl rfl (hb hby d5_32) _ k) ?_
 rw [len_of Sz5 Ng5]
 have hf6 : ¬ (ln < (2 : Int32)) := own_nl (2 : Int32) (8 : Int32) _ (by decide) hln
 refine G (fun t k => XS.icmpYes X4.here hx rfl (pc0 := 33) (pc' := 63) rfl (hb hby d5_33) rfl (flt hf6).2.2.2 (by decide) (by decide) k) ?_
 show Go _ _ _ (T4.setTop (mkF m 63 #[vr a1, vr a2, us, us, us, us, us] [])) _
 refine G (fun t k => XS.aloadN X4.here hx rfl (hb hby d5_63) rfl rfl (XS.iconst X4.here hx rfl (hb hby d5_64) (XS.aloadN X4.here hx rfl (hb hby d5_65) rfl rfl k))) ?_
 obtain ⟨T7, X7, e7, st7⟩ := getF X4 hx hZ hown (host := "") (Or.inl (wd21 hw)) Via.refl e4 F_a1_v (g := (mkF m 66 #[vr a1, vr a2, us, us, us, us, us] [(.ref a1), (.int 0), (.ref a2)])) rfl rfl (hb hby d5_66)
 refine G st7 ?_
 refine G (fun t k => XS.aloadN X7.here hx rfl (hb hby d5_69) rfl rfl k) ?_
 obtain ⟨T8, X8, e8, st8⟩ := getF X7 hx hZ hown (host := "") (Or.inl (wd28 hw)) Via.refl e7 F_a1_s (g := (mkF m 70 #[vr a1, vr a2, us, us, us, us, us] [(.ref a1), (.ref w_v), (.int 0), (.ref a2)])) rfl rfl (hb hby d5_70)
 refine G st8 ?_
 refine G (fun t k => XS.aloadN X8.here hx rfl (hb hby d5_73) rfl rfl k) ?_
 show Go _ _ _ (T8.setTop (mkF m 74 #[vr a1, vr a2, us, us, us, us, us] [(.ref a1), (.int 0), (.ref w_v), (.int 0), (.ref a2)])) _
 obtain ⟨T9, X9, e9, st9⟩ := getF X8 hx hZ hown (host := "") (Or.inl (wd19 hw)) Via.refl e8 F_a1_a (g := (mkF m 74 #[vr a1, vr a2, us, us, us, us, us] [(.ref a1), (.int 0), (.ref w_v), (.int 0), (.ref a2)])) rfl rfl (hb hby d5_74)
 refine G st9 ?_
 refine G (fun t k => XS.imul X9.here hx rfl (hb hby d5_77) rfl (XS.aloadN X9.here hx rfl (hb hby d5_78) rfl rfl k)) ?_
 obtain ⟨T10, X10, e10, st10⟩ := getF X9 hx hZ hown (host := "") (Or.inl (wd19 hw)) Via.refl e9 F_a1_a (g := (mkF m 79 #[vr a1, vr a2, us, us, us, us, us] [(.ref a1), (.int 0), (.ref w_v), (.int 0), (.ref a2)])) rfl rfl (hb hby d5_79)
 refine G st10 ?_
 have V_v_pre := V_v
 obtain ⟨T11, h11, L11, X11, e11, N11, K11, B11, st11⟩ := cpA X10 hx hZ hown (wd42 hw) (wd45 hw) (wd43 hw) (wd44 hw) e10 V_row V_v (us := [(.int x0), (.int x1)]) (Or.inl ⟨rfl, rfl⟩) (sp := (0 : Int32)) (dp := (0 : Int32)) (nn := (2 : Int32)) (by decide) (by decide) (by decide) (by decide) (own_cpl 0 2 (8 : Int32) _ (by decide) (by decide) hln) rfl (Nat.le_of_ble_eq_true rfl) N0 g_w_v (g := (mkF m 82 #[vr a1, vr a2, us, us, us, us, us] [(.int 2), (.int 0), (.ref w_v), (.int 0), (.ref a2)])) rfl (by rw [hml]; rfl) rfl (hb hby d5_82) (by decide) (W := 0) (by show 2 * 0 + _ ≤ _; exact Nat.le_of_eq rfl) (by decide)
 refine G st11 ?_
 replace E_a1 := E_a1.keep K11
 replace V_NI := V_NI.keep K11 (ninS ne_w_NI_w_v nin0)
 replace F_a1_a := F_a1_a.keep K11 (ninS (Ne.symm ne_w_v_a1) nin0)
 replace F_a1_v := F_a1_v.keep K11 (ninS (Ne.symm ne_w_v_a1) nin0)
 replace F_a1_s := F_a1_s.keep K11 (ninS (Ne.symm ne_w_v_a1) nin0)
 replace F_a1_m := F_a1_m.keep K11 (ninS (Ne.symm ne_w_v_a1) nin0)
 replace F_a1_i := F_a1_i.keep K11 (ninS (Ne.symm ne_w_v_a1) nin0)
 replace F_a1_h := F_a1_h.keep K11 (ninS (Ne.symm ne_w_v_a1) nin0)
 replace V_row := V_row.keep K11 (ninS ne_a2_w_v nin0)
 replace E_w_m := E_w_m.keep K11
 replace F_w_m_p := F_w_m_p.keep K11 (ninS ne_w_m_w_v nin0)
 replace F_w_m_l := F_w_m_l.keep K11 (ninS ne_w_m_w_v nin0)
 replace F_w_m_next := F_w_m_next.keep K11 (ninS ne_w_m_w_v nin0)
 replace F_w_m_keys := F_w_m_keys.keep K11 (ninS ne_w_m_w_v nin0)
 replace V_pos := V_pos.keep K11 (ninS ne_w_pos_w_v nin0)
 replace V_sl := V_sl.keep K11 (ninS ne_w_sl_w_v nin0)
 replace V_nx := V_nx.keep K11 (ninS ne_w_nx_w_v nin0)
 replace F_w_m_this_0 := F_w_m_this_0.keep K11 (ninS ne_w_m_w_v nin0)
 replace Z0 := Nat.le_trans Z0 K11.1
 replace K0 := K0.trans K11 (allS (Or.inl (by simp)) all0)
 have V_v : Arv Z h11 w_v k_v .int ln [(.int x0), (.int x1)] (.int (0 : Int32)) := B11
 refine G (fun t k => XS.aloadN X11.here hx rfl (hb hby d5_85) rfl rfl k) ?_
 obtain ⟨T12, X12, e12, st12⟩ := getF X11 hx hZ hown (host := "") (Or.inl (wd30 hw)) Via.refl e11 F_a1_m (g := (mkF m 86 #[vr a1, vr a2, us, us, us, us, us] [(.ref a1)])) rfl rfl (hb hby d5_86)
 refine G st12 ?_
 show Go _ _ _ (T12.setTop (mkF m 89 #[vr a1, vr a2, us, us, us, us, us] [(.ref w_m)])) _
 refine G (fun t k => XS.ifnullNo X12.here hx rfl (hb hby d5_89) rfl (XS.aloadN X12.here hx rfl (hb hby d5_92) rfl rfl k)) ?_
 obtain ⟨T13, X13, e13, st13⟩ := getF X12 hx hZ hown (host := "") (Or.inl (wd30 hw)) Via.refl e12 F_a1_m (g := (mkF m 93 #[vr a1, vr a2, us, us, us, us, us] [(.ref a1)])) rfl rfl (hb hby d5_93)
 refine G st13 ?_
 refine G (fun t k => XS.aloadN X13.here hx rfl (hb hby d5_96) rfl rfl k) ?_
 obtain ⟨T14, X14, e14, st14⟩ := getF X13 hx hZ hown (host := "") (Or.inl (wd28 hw)) Via.refl e13 F_a1_s (g := (mkF m 97 #[vr a1, vr a2, us, us, us, us, us] [(.ref a1), (.ref w_m)])) rfl rfl (hb hby d5_97)
 refine G st14 ?_
 obtain ⟨cq15, kq15, q15a, q15b, q15c⟩ := isOf hZ e14 E_w_m
 obtain ⟨_, _, ⟨T15, L15, k15, n15⟩, -, X15, ⟨Lc15, hQ15, l15, y15, z15⟩, st15⟩ := X14.virtualBack hx (y := (⟨IC, "insertNew", "(I)Z"⟩ : MethodName)) (z := (⟨IC, "insertNew", "(I)Z"⟩ : MethodName)) hown (mvT hZ (wd114 hw)) (mvT hZ (wd115 hw)) (notFace_of_selects (args := #[]) (mvT hZ (wd117 hw))) (mvT hZ (wd117 hw)) (mvT hZ (wd116 hw)) (by decide) (backOf (W := 0) (rm19_2 l Z a0 hw [] w_m a1 w_pos w_sl w_nx k_p k_s k_n w_v k_v ln x0 x1 h11 n0 Z0 E_w_m F_w_m_p F_w_m_l F_w_m_next F_w_m_keys V_pos V_sl V_nx F_w_m_this_0 V_v F_a1_v F_a1_a (by first | assumption | decide | omega) ne_w_pos_w_m ne_w_sl_w_m ne_w_sl_w_pos ne_w_nx_w_m ne_w_nx_w_pos ne_w_nx_w_sl (Ne.symm ne_w_m_a1) (Ne.symm ne_w_pos_a1) (Ne.symm ne_w_sl_a1) (Ne.symm ne_w_nx_a1) (Ne.symm ne_w_m_w_v) (Ne.symm ne_w_pos_w_v) (Ne.symm ne_w_sl_w_v) (Ne.symm ne_w_nx_w_v) ne_w_v_a1 g_w_nx g_w_sl g_w_m) hZ (wd118 hw) (wd85 hw) (by decide) (by decide)) q15a q15c (g := (mkF m 100 #[vr a1, vr a2, us, us, us, us, us] [(.int 0), (.ref w_m)])) rfl (by rw [hml]; rfl) (Steps.refl _) (argsL := [(.int (0 : Int32))]) (rest := []) (lenOf pd6 rfl) rfl (by show 2 * 0 + _ ≤ _; exact Nat.le_of_eq rfl) (hb hby d5_100) (fun _ _ => ⟨rfl, e14, (by decide : 0 + 0 ≤ _), (by decide : 0 + 0 ≤ _)⟩)
 dsimp only [Pt.U, Pt.locs, Pt.cells, Pt.slots] at X15 l15 y15 z15 st15 hQ15
 subst l15 y15 z15
 refine Go.tr st15 ?_
 have E_w_m_pre := E_w_m
 have F_w_m_positions_pre := F_w_m_p
 have F_w_m_slots_pre := F_w_m_l
 have F_w_m_next_pre := F_w_m_next
 have F_w_m_keys_pre := F_w_m_keys
 have V_sl_pre := V_sl
 have V_nx_pre := V_nx
 have F_w_m_this_0_pre := F_w_m_this_0
 obtain ⟨h15, e15⟩ : ∃ z, T15.heap = z := ⟨_, rfl⟩
 rw [e15] at hQ15
 obtain ⟨rfl, N15q, K15⟩ := hQ15
 replace E_a1 := E_a1.keep K15
 replace V_NI := V_NI.keep K15 (ninS (Ne.symm ne_w_m_w_NI) (ninS (Ne.symm ne_w_sl_w_NI) (ninS (Ne.symm ne_w_nx_w_NI) nin0)))
 replace F_a1_a := F_a1_a.keep K15 (ninS (Ne.symm ne_w_m_a1) (ninS (Ne.symm ne_w_sl_a1) (ninS (Ne.symm ne_w_nx_a1) nin0)))
 replace F_a1_v := F_a1_v.keep K15 (ninS (Ne.symm ne_w_m_a1) (ninS (Ne.symm ne_w_sl_a1) (ninS (Ne.symm ne_w_nx_a1) nin0)))
 replace F_a1_s := F_a1_s.keep K15 (ninS (Ne.symm ne_w_m_a1) (ninS (Ne.symm ne_w_sl_a1) (ninS (Ne.symm ne_w_nx_a1) nin0)))
 replace F_a1_m := F_a1_m.keep K15 (ninS (Ne.symm ne_w_m_a1) (ninS (Ne.symm ne_w_sl_a1) (ninS (Ne.symm ne_w_nx_a1) nin0)))
 replace F_a1_i := F_a1_i.keep K15 (ninS (Ne.symm ne_w_m_a1) (ninS (Ne.symm ne_w_sl_a1) (ninS (Ne.symm ne_w_nx_a1) nin0)))
 replace F_a1_h := F_a1_h.keep K15 (ninS (Ne.symm ne_w_m_a1) (ninS (Ne.symm ne_w_sl_a1) (ninS (Ne.symm ne_w_nx_a1) nin0)))
 replace V_row := V_row.keep K15 (ninS (Ne.symm ne_w_m_a2) (ninS (Ne.symm ne_w_sl_a2) (ninS (Ne.symm ne_w_nx_a2) nin0)))
 replace E_w_m := E_w_m.keep K15
 replace V_pos := V_pos.keep K15 (ninS ne_w_pos_w_m (ninS (Ne.symm ne_w_sl_w_pos) (ninS (Ne.symm ne_w_nx_w_pos) nin0)))
 replace V_v := V_v.keep K15 (ninS (Ne.symm ne_w_m_w_v) (ninS (Ne.symm ne_w_sl_w_v) (ninS (Ne.symm ne_w_nx_w_v) nin0)))
 replace Z0 := Nat.le_trans Z0 K15.1
 replace K0 := K0.trans K15 (allS (Or.inl (by simp)) (allS (Or.inl (by simp)) (allS (Or.inl (by simp)) all0)))
 have N15 := Fr.app N11 N15q
 refine G (fun t k => XS.ifYes X15.here hx rfl (pc0 := 103) (pc' := 108) rfl (hb hby d5_103) rfl ((if0 _ _).trans (feq (by decide : ¬ ((1 : Int32) = (0 : Int32)))).2) (by decide) (by decide) k) ?_
 show Go _ _ _ (T15.setTop (mkF m 108 #[vr a1, vr a2, us, us, us, us, us] [])) _
 refine G (fun t k => XS.aloadN X15.here hx rfl (hb hby d5_108) rfl rfl (XS.dup X15.here hx rfl (hb hby d5_109) rfl rfl k)) ?_
 obtain ⟨T16, X16, e16, st16⟩ := getF X15 hx hZ hown (host := "") (Or.inl (wd28 hw)) Via.refl e15 F_a1_s (g := (mkF m 110 #[vr a1, vr a2, us, us, us, us, us] [(.ref a1), (.ref a1)])) rfl rfl (hb hby d5_110)
 refine G st16 ?_
 refine G (fun t k => XS.dupX1 X16.here hx rfl (hb hby d5_113) rfl rfl rfl (XS.iconst X16.here hx rfl (hb hby d5_114) (XS.iadd X16.here hx rfl (hb hby d5_115) rfl k))) ?_
 obtain ⟨T17, h17, X17, e17, W17, st17⟩ := putF X16 hx hZ hown (host := "") (Or.inl (wd28 hw)) Via.refl e16 F_a1_s E_a1 (Or.inl (wd29 hw)) (wd7 hw) (ty := .int) (by decide) rfl rfl (g := (mkF m 116 #[vr a1, vr a2, us, us, us, us, us] [(.int 1), (.ref a1), (.int 0)])) rfl rfl (hb hby d5_116)
 refine G st17 ?_
 have N17 := Fr.snoc X17 N15 g_a1
 replace E_a1 := E_a1.wr W17
 replace V_NI := V_NI.other W17 ne_w_NI_a1
 replace F_a1_a := F_a1_a.other W17 (sn33 hw)
 replace F_a1_v := F_a1_v.other W17 (sn34 hw)
 replace F_a1_s := F_a1_s.same W17
 replace F_a1_m := F_a1_m.other W17 (sn35 hw)
 replace F_a1_i := F_a1_i.other W17 (sn36 hw)
 replace F_a1_h := F_a1_h.other W17 (sn37 hw)
 replace V_row := V_row.other W17 ne_a2_a1
 replace E_w_m := E_w_m.wr W17
 replace V_pos := V_pos.other W17 ne_w_pos_a1
 replace V_v := V_v.other W17 ne_w_v_a1
 replace Z0 := Nat.le_trans Z0 (Nat.le_of_eq W17.size.symm)
 replace K0 := K0.wr W17 (Or.inl (by simp))
 show Go _ _ _ (T17.setTop (mkF m 119 #[vr a1, vr a2, us, us, us, us, us] [(.int 0)])) _
 refine G (fun t k => XS.istoreN X17.here hx rfl (hb hby d5_119) rfl (l' := #[vr a1, vr a2, vi 0, us, us, us, us]) rfl (XS.aloadN X17.here hx rfl (hb hby d5_120) rfl rfl (XS.astoreN X17.here hx rfl (hb hby d5_121) rfl rfl (l' := #[vr a1, vr a2, vi 0, vr a2, us, us, us]) rfl (XS.aloadN X17.here hx rfl (hb hby d5_122) rfl rfl k)))) ?_
 obtain ⟨cl18, Ar18, -, Sz18, Ng18, -, -⟩ := id V_row
 refine G (fun t k => X17.arraylength hx (by rw [e17]; exact Ar18.1) (State.isArrayOf_alike hZ.alike Ar18.2.1) (g := (mkF m 123 #[vr a1, vr a2, vi 0, vr a2, us, us, us] [(.ref a2)])) rfl rfl (hb hby d5_123) _ k) ?_
 rw [len_of Sz18 Ng18]
 refine G (fun t k => XS.istore X17.here hx rfl (hb hby d5_124) rfl (l' := #[vr a1, vr a2, vi 0, vr a2, vi 2, us, us]) rfl (XS.iconst X17.here hx rfl (hb hby d5_126) k)) ?_
 show Go _ _ _ (T17.setTop (mkF m 127 #[vr a1, vr a2, vi 0, vr a2, vi 2, us, us] [(.int 0)])) _
 refine G (fun t k => XS.istore X17.here hx rfl (hb hby d5_127) rfl (l' := #[vr a1, vr a2, vi 0, vr a2, vi 2, vi 0, us]) rfl k) ?_
 show Go _ _ _ (T17.setTop (mkF m 129 #[vr a1, vr a2, vi 0, vr a2, vi 2, vi 0, us] [])) _
 have J19 : ∀ (TJ : State) (locsJ : List Loc) (hJ : Heap) (jAny : Int32) (j5 : Int32) (j6 : Int32), Stand p l e (Rm 3 0 0 46) s m #[(.ref a1), (.ref a2)] below meth c TJ locsJ 0 0 → TJ.heap = hJ → Fr n0 locsJ → Keep h0 hJ [w_v, w_nx, w_sl, w_m, a1] → n0 ≤ hJ.size → Exa Z hJ a1 RC → Arv Z hJ w_NI k_NI (.object IC) (0 : Int32) [] .null → Fld Z hJ a1 RC "arity" "I" (.int (2 : Int32)) → Fld Z hJ a1 RC "values" "[I" (.ref w_v) → Fld Z hJ a1 RC "size" "I" (.int (1 : Int32)) → Fld Z hJ a1 RC "members" RI (.ref w_m) → Fld Z hJ a1 RC "indexes" RJ (.ref w_NI) → Fld Z hJ a1 RC "holdingAny" "I" (.int jAny) → Arv Z hJ a2 k_x .int (2 : Int32) [(.int x0), (.int x1)] (.int (0 : Int32)) → Exa Z hJ w_m IC → Arv Z hJ w_pos k_p .int (2 : Int32) [(.int (0 : Int32)), (.int (1 : Int32))] (.int (0 : Int32)) → Arv Z hJ w_v k_v .int ln [(.int x0), (.int x1)] (.int (0 : Int32)) → Go p.tables e below (TJ.setTop (mkF m 168 #[vr a1, vr a2, vi 0, vr a2, vi 2, vi j5, vi j6] [])) (fun o U' => ∃ v L, o = .returned v ∧ Q5_2_R Z a1 a2 w_v k_v ln v0 v1 w_NI k_NI hAny k_x x0 x1 w_m w_pos w_sl w_nx k_p k_s k_n h0 n0 v U'.heap L ∧ FrameEnd s o U' L (Rm 3 0 0 46).cells (Rm 3 0 0 46).slots) := by
  intro TJ locsJ hJ jAny j5 j6 XJ eJ NJ K0 Z0 E_a1 V_NI F_a1_a F_a1_v F_a1_s F_a1_m F_a1_i F_a1_h V_row E_w_m V_pos V_v
  refine G (fun t k => XS.aloadN XJ.here hx rfl (hb hby d5_168) rfl rfl k) ?_
  obtain ⟨T20, X20, e20, st20⟩ := getF XJ hx hZ hown (host := "") (Or.inl (wd30 hw)) Via.refl eJ F_a1_m (g := (mkF m 169 #[vr a1, vr a2, vi 0, vr a2, vi 2, vi j5, vi j6] [(.ref a1)])) rfl rfl (hb hby d5_169)
  refine G st20 ?_
  refine G (fun t k => XS.ifnonnullYes X20.here hx rfl (pc0 := 172) (pc' := 207) rfl (hb hby d5_172) rfl (by decide) (by decide) (XS.aloadN X20.here hx rfl (hb hby d5_207) rfl rfl k)) ?_
  obtain ⟨T21, X21, e21, st21⟩ := getF X20 hx hZ hown (host := "") (Or.inl (wd17 hw)) Via.refl e20 F_a1_i (g := (mkF m 208 #[vr a1, vr a2, vi 0, vr a2, vi 2, vi j5, vi j6] [(.ref a1)])) rfl rfl (hb hby d5_208)
  refine G st21 ?_
  refine G (fun t k => XS.astoreN X21.here hx rfl (hb hby d5_211) rfl rfl (l' := #[vr a1, vr a2, vi 0, vr w_NI, vi 2, vi j5, vi j6]) rfl (XS.aloadN X21.here hx rfl (hb hby d5_212) rfl rfl k)) ?_
  show Go _ _ _ (T21.setTop (mkF m 213 #[vr a1, vr a2, vi 0, vr w_NI, vi 2, vi j5, vi j6] [(.ref w_NI)])) _
  obtain ⟨cl22, Ar22, -, Sz22, Ng22, -, -⟩ := id V_NI
  refine G (fun t k => X21.arraylength hx (by rw [e21]; exact Ar22.1) (State.isArrayOf_alike hZ.alike Ar22.2.1) (g := (mkF m 213 #[vr a1, vr a2, vi 0, vr w_NI, vi 2, vi j5, vi j6] [(.ref w_NI)])) rfl rfl (hb hby d5_213) _ k) ?_
  rw [len_of Sz22 Ng22]
  refine G (fun t k => XS.istore X21.here hx rfl (hb hby d5_214) rfl (l' := #[vr a1, vr a2, vi 0, vr w_NI, vi 0, vi j5, vi j6]) rfl (XS.iconst X21.here hx rfl (hb hby d5_216) (XS.istore X21.here hx rfl (hb hby d5_217) rfl (l' := #[vr a1, vr a2, vi 0, vr w_NI, vi 0, vi 0, vi j6]) rfl (XS.iload X21.here hx rfl (hb hby d5_219) rfl (XS.iload X21.here hx rfl (hb hby d5_221) rfl (XS.icmpYes X21.here hx rfl (pc0 := 223) (pc' := 244) rfl (hb hby d5_223) rfl (flt (by decide : ¬ ((0 : Int32) < (0 : Int32)))).2.1 (by decide) (by decide) k)))))) ?_
  show Go _ _ _ (T21.setTop (mkF m 244 #[vr a1, vr a2, vi 0, vr w_NI, vi 0, vi 0, vi j6] [])) _
  refine G (fun t k => XS.iconst X21.here hx rfl (hb hby d5_244) k) ?_
  obtain ⟨fs, hr, hrun, hended, hW, hsame⟩ := X21.leave (v := some (.int (1 : Int32))) (fun h => by rw [Bd.returns] at h; cases h)
  refine Go.fin (retN X21 hx (t := .boolean) Bd.returns (by simp) (hb hby d5_245) hr) hrun hended ⟨_, _, rfl, ?_, ⟨_, rfl⟩, hW, hsame.mono (by decide) (by decide)⟩
  show Q5_2_R Z a1 a2 w_v k_v ln v0 v1 w_NI k_NI hAny k_x x0 x1 w_m w_pos w_sl w_nx k_p k_s k_n h0 n0 _ T21.heap _
  rw [e21]
  exact ⟨jAny, rfl, NJ, K0, E_a1, F_a1_a, F_a1_v, F_a1_s, F_a1_m, F_a1_i, F_a1_h, V_v⟩
 show Go _ _ _ (T17.setTop (mkF m 129 #[vr a1, vr a2, vi 0, vr a2, vi 2, vi 0, us] [])) _
 refine G (fun t k => XS.iload X17.here hx rfl (hb hby d5_129) rfl (XS.iload X17.here hx rfl (hb hby d5_131) rfl (XS.icmpNo X17.here hx rfl (hb hby d5_133) rfl (tlt (by decide : (0 : Int32) < (2 : Int32))).2.1 (XS.aloadN X17.here hx rfl (hb hby d5_136) rfl rfl (XS.iload X17.here hx rfl (hb hby d5_137) rfl k))))) ?_
 obtain ⟨cl23, Ar23, -, Sz23, Ng23, Hs23, -⟩ := id V_row
 have hin23 : ¬ ((0 : Int32) < 0 ∨ cl23.slots.size ≤ ((0 : Int32)).toNatClampNeg) := inb_of Sz23 ⟨by decide, by decide⟩
 refine G (fun t k => X17.iaload hx (j := (0 : Int32)) (v := (.int x0)) (by rw [e17]; exact Ar23.1) (State.isArrayOf_alike hZ.alike Ar23.2.1) Ar23.2.2 hin23 (Has.at Hs23 hin23 rfl) (g := (mkF m 139 #[vr a1, vr a2, vi 0, vr a2, vi 2, vi 0, us] [(.int 0), (.ref a2)])) rfl rfl (hb hby d5_139) _ (XS.istore X17.here hx rfl (hb hby d5_140) rfl (l' := #[vr a1, vr a2, vi 0, vr a2, vi 2, vi 0, vi x0]) rfl k)) ?_
 show Go _ _ _ (T17.setTop (mkF m 142 #[vr a1, vr a2, vi 0, vr a2, vi 2, vi 0, vi x0] [])) _
 refine G (fun t k => XS.iload X17.here hx rfl (hb hby d5_142) rfl (X17.ldcInt hx hown (mvT hZ (wd46 hw)) (g := (mkF m 144 #[vr a1, vr a2, vi 0, vr a2, vi 2, vi 0, vi x0] [(.int x0)])) rfl (hb hby d5_144) _ k)) ?_
 by_cases hc24 : x0 = (2147483647 : Int32)
 ·refine G (fun t k => XS.icmpNo X17.here hx rfl (hb hby d5_146) rfl (teq hc24).2 (XS.aloadN X17.here hx rfl (hb hby d5_149) rfl rfl (XS.dup X17.here hx rfl (hb hby d5_150) rfl rfl k))) ?_
  obtain ⟨T25, X25, e25, st25⟩ := getF X17 hx hZ hown (host := "") (Or.inl (wd57 hw)) Via.refl e17 F_a1_h (g := (mkF m 151 #[vr a1, vr a2, vi 0, vr a2, vi 2, vi 0, vi x0] [(.ref a1), (.ref a1)])) rfl rfl (hb hby d5_151)
  refine G st25 ?_
  refine G (fun t k => XS.iconst X25.here hx rfl (hb hby d5_154) k) ?_
  show Go _ _ _ (T25.setTop (mkF m 155 #[vr a1, vr a2, vi 0, vr a2, vi 2, vi 0, vi x0] [(.int 1), (.int hAny), (.ref a1)])) _
  refine G (fun t k => XS.iadd X25.here hx rfl (hb hby d5_155) rfl k) ?_
  obtain ⟨T26, h26, X26, e26, W26, st26⟩ := putF X25 hx hZ hown (host := "") (Or.inl (wd57 hw)) Via.refl e25 F_a1_h E_a1 (Or.inl (wd58 hw)) (wd7 hw) (ty := .int) (by decide) rfl rfl (g := (mkF m 156 #[vr a1, vr a2, vi 0, vr a2, vi 2, vi 0, vi x0] [(.int (hAny + (1 : Int32))), (.ref a1)])) rfl rfl (hb hby d5_156)
  refine G st26 ?_
  have N26 := Fr.snoc X26 N17 g_a1
  replace E_a1 := E_a1.wr W26
  replace V_NI := V_NI.other W26 ne_w_NI_a1
  replace F_a1_a := F_a1_a.other W26 (sn38 hw)
  replace F_a1_v := F_a1_v.other W26 (sn39 hw)
  replace F_a1_s := F_a1_s.other W26 (sn40 hw)
  replace F_a1_m := F_a1_m.other W26 (sn41 hw)
  replace F_a1_i := F_a1_i.other W26 (sn42 hw)
  replace F_a1_h := F_a1_h.same W26
  replace V_row := V_row.other W26 ne_a2_a1
  replace E_w_m := E_w_m.wr W26
  replace V_pos := V_pos.other W26 ne_w_pos_a1
  replace V_v := V_v.other W26 ne_w_v_a1
  replace Z0 := Nat.le_trans Z0 (Nat.le_of_eq W26.size.symm)
  replace K0 := K0.wr W26 (Or.inl (by simp))
  refine G (fun t k => XS.goto X26.here hx rfl (pc0 := 159) (pc' := 168) rfl (hb hby d5_159) (by decide) (by decide) k) ?_
  show Go _ _ _ (T26.setTop (mkF m 168 #[vr a1, vr a2, vi 0, vr a2, vi 2, vi 0, vi x0] [])) _
  exact J19 _ _ _ (hAny + (1 : Int32)) (0 : Int32) x0 X26 e26 N26 K0 Z0 E_a1 V_NI F_a1_a F_a1_v F_a1_s F_a1_m F_a1_i F_a1_h V_row E_w_m V_pos V_v
 ·refine G (fun t k => XS.icmpYes X17.here hx rfl (pc0 := 146) (pc' := 162) rfl (hb hby d5_146) rfl (feq hc24).2 (by decide) (by decide) (XS.iinc X17.here hx rfl (hb hby d5_162) rfl (l' := #[.val (.ref a1), .val (.ref a2), .val (.int (0 : Int32)), .val (.ref a2), .val (.int (2 : Int32)), .val (.int ((0 : Int32) + (1 : Int32))), .val (.int x0)]) rfl (XS.goto X17.here hx rfl (pc0 := 165) (pc' := 129) rfl (hb hby d5_165) (by decide) (by decide) k))) ?_
  show Go _ _ _ (T17.setTop (mkF m 129 #[vr a1, vr a2, vi 0, vr a2, vi 2, vi 1, vi x0] [])) _
  refine G (fun t k => XS.iload X17.here hx rfl (hb hby d5_129) rfl (XS.iload X17.here hx rfl (hb hby d5_131) rfl (XS.icmpNo X17.here hx rfl (hb hby d5_133) rfl (tlt (by decide : (1 : Int32) < (2 : Int32))).2.1 (XS.aloadN X17.here hx rfl (hb hby d5_136) rfl rfl (XS.iload X17.here hx rfl (hb hby d5_137) rfl k))))) ?_
  obtain ⟨cl27, Ar27, -, Sz27, Ng27, Hs27, -⟩ := id V_row
  have hin27 : ¬ ((1 : Int32) < 0 ∨ cl27.slots.size ≤ ((1 : Int32)).toNatClampNeg) := inb_of Sz27 ⟨by decide, by decide⟩
  refine G (fun t k => X17.iaload hx (j := (1 : Int32)) (v := (.int x1)) (by rw [e17]; exact Ar27.1) (State.isArrayOf_alike hZ.alike Ar27.2.1) Ar27.2.2 hin27 (Has.at Hs27 hin27 rfl) (g := (mkF m 139 #[vr a1, vr a2, vi 0, vr a2, vi 2, vi 1, vi x0] [(.int 1), (.ref a2)])) rfl rfl (hb hby d5_139) _ (XS.istore X17.here hx rfl (hb hby d5_140) rfl (l' := #[vr a1, vr a2, vi 0, vr a2, vi 2, vi 1, vi x1]) rfl k)) ?_
  show Go _ _ _ (T17.setTop (mkF m 142 #[vr a1, vr a2, vi 0, vr a2, vi 2, vi 1, vi x1] [])) _
  refine G (fun t k => XS.iload X17.here hx rfl (hb hby d5_142) rfl (X17.ldcInt hx hown (mvT hZ (wd46 hw)) (g := (mkF m 144 #[vr a1, vr a2, vi 0, vr a2, vi 2, vi 1, vi x1] [(.int x1)])) rfl (hb hby d5_144) _ k)) ?_
  by_cases hc28 : x1 = (2147483647 : Int32)
  ·refine G (fun t k => XS.icmpNo X17.here hx rfl (hb hby d5_146) rfl (teq hc28).2 (XS.aloadN X17.here hx rfl (hb hby d5_149) rfl rfl (XS.dup X17.here hx rfl (hb hby d5_150) rfl rfl k))) ?_
   obtain ⟨T29, X29, e29, st29⟩ := getF X17 hx hZ hown (host := "") (Or.inl (wd57 hw)) Via.refl e17 F_a1_h (g := (mkF m 151 #[vr a1, vr a2, vi 0, vr a2, vi 2, vi 1, vi x1] [(.ref a1), (.ref a1)])) rfl rfl (hb hby d5_151)
   refine G st29 ?_
   refine G (fun t k => XS.iconst X29.here hx rfl (hb hby d5_154) k) ?_
   show Go _ _ _ (T29.setTop (mkF m 155 #[vr a1, vr a2, vi 0, vr a2, vi 2, vi 1, vi x1] [(.int 1), (.int hAny), (.ref a1)])) _
   refine G (fun t k => XS.iadd X29.here hx rfl (hb hby d5_155) rfl k) ?_
   obtain ⟨T30, h30, X30, e30, W30, st30⟩ := putF X29 hx hZ hown (host := "") (Or.inl (wd57 hw)) Via.refl e29 F_a1_h E_a1 (Or.inl (wd58 hw)) (wd7 hw) (ty := .int) (by decide) rfl rfl (g := (mkF m 156 #[vr a1, vr a2, vi 0, vr a2, vi 2, vi 1, vi x1] [(.int (hAny + (1 : Int32))), (.ref a1)])) rfl rfl (hb hby d5_156)
   refine G st30 ?_
   have N30 := Fr.snoc X30 N17 g_a1
   replace E_a1 := E_a1.wr W30
   replace V_NI := V_NI.other W30 ne_w_NI_a1
   replace F_a1_a := F_a1_a.other W30 (sn38 hw)
   replace F_a1_v := F_a1_v.other W30 (sn39 hw)
   replace F_a1_s := F_a1_s.other W30 (sn40 hw)
   replace F_a1_m := F_a1_m.other W30 (sn41 hw)
   replace F_a1_i := F_a1_i.other W30 (sn42 hw)
   replace F_a1_h := F_a1_h.same W30
   replace V_row := V_row.other W30 ne_a2_a1
   replace E_w_m := E_w_m.wr W30
   replace V_pos := V_pos.other W30 ne_w_pos_a1
   replace V_v := V_v.other W30 ne_w_v_a1
   replace Z0 := Nat.le_trans Z0 (Nat.le_of_eq W30.size.symm)
   replace K0 := K0.wr W30 (Or.inl (by simp))
   refine G (fun t k => XS.goto X30.here hx rfl (pc0 := 159) (pc' := 168) rfl (hb hby d5_159) (by decide) (by decide) k) ?_
   show Go _ _ _ (T30.setTop (mkF m 168 #[vr a1, vr a2, vi 0, vr a2, vi 2, vi 1, vi x1] [])) _
   exact J19 _ _ _ (hAny + (1 : Int32)) (1 : Int32) x1 X30 e30 N30 K0 Z0 E_a1 V_NI F_a1_a F_a1_v F_a1_s F_a1_m F_a1_i F_a1_h V_row E_w_m V_pos V_v
  ·refine G (fun t k => XS.icmpYes X17.here hx rfl (pc0 := 146) (pc' := 162) rfl (hb hby d5_146) rfl (feq hc28).2 (by decide) (by decide) (XS.iinc X17.here hx rfl (hb hby d5_162) rfl (l' := #[.val (.ref a1), .val (.ref a2), .val (.int (0 : Int32)), .val (.ref a2), .val (.int (2 : Int32)), .val (.int ((1 : Int32) + (1 : Int32))), .val (.int x1)]) rfl (XS.goto X17.here hx rfl (pc0 := 165) (pc' := 129) rfl (hb hby d5_165) (by decide) (by decide) k))) ?_
   show Go _ _ _ (T17.setTop (mkF m 129 #[vr a1, vr a2, vi 0, vr a2, vi 2, vi 2, vi x1] [])) _
   refine G (fun t k => XS.iload X17.here hx rfl (hb hby d5_129) rfl (XS.iload X17.here hx rfl (hb hby d5_131) rfl (XS.icmpYes X17.here hx rfl (pc0 := 133) (pc' := 168) rfl (hb hby d5_133) rfl (flt (by decide : ¬ ((2 : Int32) < (2 : Int32)))).2.1 (by decide) (by decide) k))) ?_
   show Go _ _ _ (T17.setTop (mkF m 168 #[vr a1, vr a2, vi 0, vr a2, vi 2, vi 2, vi x1] [])) _
   exact J19 _ _ _ hAny (2 : Int32) x1 X17 e17 N17 K0 Z0 E_a1 V_NI F_a1_a F_a1_v F_a1_s F_a1_m F_a1_i F_a1_h V_row E_w_m V_pos V_v
def Q4_2_0 (Z : State) (a1 : Addr) (p2 : Int32) (w_v : Addr) (k_v : ClassId) (w_NI : Addr) (k_NI : ClassId) (hAny : Int32) (h0 : Heap) (n0 : Nat) (v : Option Value) (h : Heap) (L : List Loc) : Prop := v = none ∧ Fr n0 L ∧ h = h0
theorem ef4_2_0 (m : MethodId) (x0 : Addr) (x1 : Int32) : entryFrame m #[(.ref x0), (.int x1)] 7 = mkF m 0 #[.val (.ref x0), .val (.int x1), .unset, .unset, .unset, .unset, .unset] [] := by first | (simp [entryFrame, mkF, argsToLocals, Value.category]; done) | rfl
theorem rm4_2_0 (l : Launch) (Z : State) (a0 : Array Value) (hw : HW a0 Z) (ws : List Jvm.Cond) (a1 : Addr) (p2 : Int32) (w_v : Addr) (k_v : ClassId) (w_NI : Addr) (k_NI : ClassId) (hAny : Int32) (h0 : Heap) (n0 : Nat) (Z0 : n0 ≤ h0.size) (E_a1 : Exa Z h0 a1 RC) (V_v : Arv Z h0 w_v k_v .int (8 : Int32) [] (.int (0 : Int32))) (V_NI : Arv Z h0 w_NI k_NI (.object IC) (0 : Int32) [] .null) (F_a1_a : Fld Z h0 a1 RC "arity" "I" (.int (2 : Int32))) (F_a1_v : Fld Z h0 a1 RC "values" "[I" (.ref w_v)) (F_a1_s : Fld Z h0 a1 RC "size" "I" (.int (0 : Int32))) (F_a1_m : Fld Z h0 a1 RC "members" RI .null) (F_a1_i : Fld Z h0 a1 RC "indexes" RJ (.ref w_NI)) (F_a1_h : Fld Z h0 a1 RC "holdingAny" "I" (.int hAny)) (ne_w_v_a1 : w_v ≠ a1) (ne_w_NI_a1 : w_NI ≠ a1) (ne_w_NI_w_v : w_NI ≠ w_v) (hr : 0 ≤ p2.toInt ∧ p2.toInt ≤ 15) (hq4 : ¬ (4 : Int32) < p2) (hq8 : ¬ (8 : Int32) < p2) :
  MetFree l (⟨RC, "reserve", "(I)V"⟩ : MethodName) (head1 (Jvm.Cond.code (⟨RC, "reserve", "(I)V"⟩ : MethodName) cB4 7 none :: ws) (Rm 0 0 0 0)) (Pr Z h0 #[(.ref a1), (.int p2)]) Tr (fun _ U o U' => ∃ v L, o = .returned v ∧ Q4_2_0 Z a1 p2 w_v k_v w_NI k_NI hAny h0 n0 v U'.heap L ∧ FrameEnd U o U' L (Rm 0 0 0 0).cells (Rm 0 0 0 0).slots) := by
 refine MetFree.of_bodySF (plainFor_of_name pn0) hisR ?_
 intro p e s m args below meth c s₁ Bd hml0 hP hK
 obtain ⟨rfl, hZ, hh⟩ := hP
 have hx := Bd.exec
 have hby := Bd.bytes
 have hml : c.maxLocals = 7 := hml0
 have hown : s.vm.findClass RC = some m.cls := findClass_of_methodNamed Bd.named
 have hnm := (name_of_methodNamed Bd.named Bd.method).1
 have X0 : Stand p l e (Rm 0 0 0 0) s m #[(.ref a1), (.int p2)] below meth c s₁ [] 0 0 := Stand.of_body Bd
 have e0 : s₁.heap = h0 := by rw [← hh, Bd.state]; rfl
 have N0 := Fr.nil n0
 have K0 : Keep h0 h0 [] := Keep.refl h0 _
 refine G (P := fun o U' => ∃ v L, o = .returned v ∧ Q4_2_0 Z a1 p2 w_v k_v w_NI k_NI hAny h0 n0 v U'.heap L ∧ FrameEnd s o U' L (Rm 0 0 0 0).cells (Rm 0 0 0 0).slots) (fun t k => castTop (ef4_2_0 m a1 p2) k) ?_
 show Go _ _ _ (s₁.setTop (mkF m 0 #[vr a1, vi p2, us, us, us, us, us] [])) _
 refine G (fun t k => XS.aloadN X0.here hx rfl (hb hby d4_0) rfl rfl k) ?_
 obtain ⟨T1, X1, e1, st1⟩ := getF X0 hx hZ hown (host := "") (Or.inl (wd28 hw)) Via.refl e0 F_a1_s (g := (mkF m 1 #[vr a1, vi p2, us, us, us, us, us] [(.ref a1)])) rfl rfl (hb hby d4_1)
 refine G st1 ?_
 refine G (fun t k => XS.iloadN X1.here hx rfl (hb hby d4_4) rfl (XS.iadd X1.here hx rfl (hb hby d4_5) rfl (XS.istoreN X1.here hx rfl (hb hby d4_6) rfl (l' := #[vr a1, vi p2, vi ((0 : Int32) + p2), us, us, us, us]) rfl k))) ?_
 show Go _ _ _ (T1.setTop (mkF m 7 #[vr a1, vi p2, vi ((0 : Int32) + p2), us, us, us, us] [])) _
 refine Go.fr (g' := (mkF m 7 #[vr a1, vi p2, vi p2, us, us, us, us] [])) (by rw [Int32.zero_add]) ?_
 show Go _ _ _ (T1.setTop (mkF m 7 #[vr a1, vi p2, vi p2, us, us, us, us] [])) _
 refine G (fun t k => XS.iloadN X1.here hx rfl (hb hby d4_7) rfl (XS.aloadN X1.here hx rfl (hb hby d4_8) rfl rfl k)) ?_
 obtain ⟨T2, X2, e2, st2⟩ := getF X1 hx hZ hown (host := "") (Or.inl (wd19 hw)) Via.refl e1 F_a1_a (g := (mkF m 9 #[vr a1, vi p2, vi p2, us, us, us, us] [(.ref a1), (.int p2)])) rfl rfl (hb hby d4_9)
 refine G st2 ?_
 refine G (fun t k => XS.imul X2.here hx rfl (hb hby d4_12) rfl (XS.aloadN X2.here hx rfl (hb hby d4_13) rfl rfl k)) ?_
 obtain ⟨T3, X3, e3, st3⟩ := getF X2 hx hZ hown (host := "") (Or.inl (wd21 hw)) Via.refl e2 F_a1_v (g := (mkF m 14 #[vr a1, vi p2, vi p2, us, us, us, us] [(.ref a1), (.int (p2 * (2 : Int32)))])) rfl rfl (hb hby d4_14)
 refine G st3 ?_
 obtain ⟨cl4, Ar4, -, Sz4, Ng4, -, -⟩ := id V_v
 refine G (fun t k => X3.arraylength hx (by rw [e3]; exact Ar4.1) (State.isArrayOf_alike hZ.alike Ar4.2.1) (g := (mkF m 17 #[vr a1, vi p2, vi p2, us, us, us, us] [(.ref w_v), (.int (p2 * (2 : Int32)))])) rfl rfl (hb hby d4_17) _ k) ?_
 rw [len_of Sz4 Ng4]
 show Go _ _ _ (T3.setTop (mkF m 18 #[vr a1, vi p2, vi p2, us, us, us, us] [(.int 8), (.int (p2 * (2 : Int32)))])) _
 have hf5 : ¬ ((8 : Int32) < (p2 * (2 : Int32))) := own_small p2 2 8 2 rfl rfl (by decide) hr hq4
 refine G (fun t k => XS.icmpYes X3.here hx rfl (pc0 := 18) (pc' := 38) rfl (hb hby d4_18) rfl (flt hf5).2.2.2 (by decide) (by decide) (XS.aloadN X3.here hx rfl (hb hby d4_38) rfl rfl k)) ?_
 obtain ⟨T6, X6, e6, st6⟩ := getF X3 hx hZ hown (host := "") (Or.inl (wd30 hw)) Via.refl e3 F_a1_m (g := (mkF m 39 #[vr a1, vi p2, vi p2, us, us, us, us] [(.ref a1)])) rfl rfl (hb hby d4_39)
 refine G st6 ?_
 refine G (fun t k => XS.ifnonnullNo X6.here hx rfl (hb hby d4_42) rfl (XS.iloadN X6.here hx rfl (hb hby d4_45) rfl (XS.bipush X6.here hx rfl (hb hby d4_46) k))) ?_
 have hf7 : ¬ ((8 : Int32) < p2) := hq8
 refine G (fun t k => XS.icmpYes X6.here hx rfl (pc0 := 48) (pc' := 74) rfl (hb hby d4_48) rfl (flt hf7).2.2.2 (by decide) (by decide) k) ?_
 show Go _ _ _ (T6.setTop (mkF m 74 #[vr a1, vi p2, vi p2, us, us, us, us] [])) _
 refine G (fun t k => XS.aloadN X6.here hx rfl (hb hby d4_74) rfl rfl k) ?_
 obtain ⟨T8, X8, e8, st8⟩ := getF X6 hx hZ hown (host := "") (Or.inl (wd30 hw)) Via.refl e6 F_a1_m (g := (mkF m 75 #[vr a1, vi p2, vi p2, us, us, us, us] [(.ref a1)])) rfl rfl (hb hby d4_75)
 refine G st8 ?_
 refine G (fun t k => XS.ifnullYes X8.here hx rfl (pc0 := 78) (pc' := 89) rfl (hb hby d4_78) rfl (by decide) (by decide) (XS.aloadN X8.here hx rfl (hb hby d4_89) rfl rfl k)) ?_
 obtain ⟨T9, X9, e9, st9⟩ := getF X8 hx hZ hown (host := "") (Or.inl (wd17 hw)) Via.refl e8 F_a1_i (g := (mkF m 90 #[vr a1, vi p2, vi p2, us, us, us, us] [(.ref a1)])) rfl rfl (hb hby d4_90)
 refine G st9 ?_
 refine G (fun t k => XS.astoreN X9.here hx rfl (hb hby d4_93) rfl rfl (l' := #[vr a1, vi p2, vi p2, vr w_NI, us, us, us]) rfl (XS.aloadN X9.here hx rfl (hb hby d4_94) rfl rfl k)) ?_
 show Go _ _ _ (T9.setTop (mkF m 95 #[vr a1, vi p2, vi p2, vr w_NI, us, us, us] [(.ref w_NI)])) _
 obtain ⟨cl10, Ar10, -, Sz10, Ng10, -, -⟩ := id V_NI
 refine G (fun t k => X9.arraylength hx (by rw [e9]; exact Ar10.1) (State.isArrayOf_alike hZ.alike Ar10.2.1) (g := (mkF m 95 #[vr a1, vi p2, vi p2, vr w_NI, us, us, us] [(.ref w_NI)])) rfl rfl (hb hby d4_95) _ k) ?_
 rw [len_of Sz10 Ng10]
 refine G (fun t k => XS.istore X9.here hx rfl (hb hby d4_96) rfl (l' := #[vr a1, vi p2, vi p2, vr w_NI, vi 0, us, us]) rfl (XS.iconst X9.here hx rfl (hb hby d4_98) (XS.istore X9.here hx rfl (hb hby d4_99) rfl (l' := #[vr a1, vi p2, vi p2, vr w_NI, vi 0, vi 0, us]) rfl (XS.iload X9.here hx rfl (hb hby d4_101) rfl (XS.iload X9.here hx rfl (hb hby d4_103) rfl (XS.icmpYes X9.here hx rfl (pc0 := 105) (pc' := 126) rfl (hb hby d4_105) rfl (flt (by decide : ¬ ((0 : Int32) < (0 : Int32)))).2.1 (by decide) (by decide) k)))))) ?_
 show Go _ _ _ (T9.setTop (mkF m 126 #[vr a1, vi p2, vi p2, vr w_NI, vi 0, vi 0, us] [])) _
 obtain ⟨fs, hr, hrun, hended, hW, hsame⟩ := X9.leave (v := none) (fun _ => rfl)
 refine Go.fin (X9.returnOut hx Bd.returns (hb hby d4_126) hr) hrun hended ⟨_, _, rfl, ?_, ⟨_, rfl⟩, hW, hsame.mono (by decide) (by decide)⟩
 show Q4_2_0 Z a1 p2 w_v k_v w_NI k_NI hAny h0 n0 _ T9.heap _
 rw [e9]
 exact ⟨rfl, N0, rfl⟩
def Q4_2_1 (Z : State) (a1 : Addr) (p2 : Int32) (w_v : Addr) (k_v : ClassId) (w_NI : Addr) (k_NI : ClassId) (hAny : Int32) (h0 : Heap) (n0 : Nat) (v : Option Value) (h : Heap) (L : List Loc) : Prop := ∃ x4_2_1_0 : Addr, ∃ k_x4_2_1_0 : ClassId, v = none ∧ Fr n0 L ∧ Keep h0 h [a1] ∧ n0 ≤ x4_2_1_0 ∧ h0.size ≤ x4_2_1_0 ∧ Exa Z h a1 RC ∧ Fld Z h a1 RC "arity" "I" (.int (2 : Int32)) ∧ Fld Z h a1 RC "values" "[I" (.ref x4_2_1_0) ∧ Fld Z h a1 RC "size" "I" (.int (0 : Int32)) ∧ Fld Z h a1 RC "members" RI .null ∧ Fld Z h a1 RC "indexes" RJ (.ref w_NI) ∧ Fld Z h a1 RC "holdingAny" "I" (.int hAny) ∧ Arv Z h x4_2_1_0 k_x4_2_1_0 .int (p2 * (2 : Int32)) [] (.int (0 : Int32))
theorem ef4_2_1 (m : MethodId) (x0 : Addr) (x1 : Int32) : entryFrame m #[(.ref x0), (.int x1)] 7 = mkF m 0 #[.val (.ref x0), .val (.int x1), .unset, .unset, .unset, .unset, .unset] [] := by first | (simp [entryFrame, mkF, argsToLocals, Value.category]; done) | rfl
theorem rm4_2_1 (l : Launch) (Z : State) (a0 : Array Value) (hw : HW a0 Z) (ws : List Jvm.Cond) (a1 : Addr) (p2 : Int32) (w_v : Addr) (k_v : ClassId) (w_NI : Addr) (k_NI : ClassId) (hAny : Int32) (h0 : Heap) (n0 : Nat) (Z0 : n0 ≤ h0.size) (E_a1 : Exa Z h0 a1 RC) (V_v : Arv Z h0 w_v k_v .int (8 : Int32) [] (.int (0 : Int32))) (V_NI : Arv Z h0 w_NI k_NI (.object IC) (0 : Int32) [] .null) (F_a1_a : Fld Z h0 a1 RC "arity" "I" (.int (2 : Int32))) (F_a1_v : Fld Z h0 a1 RC "values" "[I" (.ref w_v)) (F_a1_s : Fld Z h0 a1 RC "size" "I" (.int (0 : Int32))) (F_a1_m : Fld Z h0 a1 RC "members" RI .null) (F_a1_i : Fld Z h0 a1 RC "indexes" RJ (.ref w_NI)) (F_a1_h : Fld Z h0 a1 RC "holdingAny" "I" (.int hAny)) (ne_w_v_a1 : w_v ≠ a1) (ne_w_NI_a1 : w_NI ≠ a1) (ne_w_NI_w_v : w_NI ≠ w_v) (hr : 0 ≤ p2.toInt ∧ p2.toInt ≤ 15) (hq4 : (4 : Int32) < p2) (hq8 : ¬ (8 : Int32) < p2) (g_a1 : n0 ≤ a1) :
  MetFree l (⟨RC, "reserve", "(I)V"⟩ : MethodName) (head1 (Jvm.Cond.code (⟨RC, "reserve", "(I)V"⟩ : MethodName) cB4 7 none :: ws) (Rm 2 1 45 33)) (Pr Z h0 #[(.ref a1), (.int p2)]) Tr (fun _ U o U' => ∃ v L, o = .returned v ∧ Q4_2_1 Z a1 p2 w_v k_v w_NI k_NI hAny h0 n0 v U'.heap L ∧ FrameEnd U o U' L (Rm 2 1 45 33).cells (Rm 2 1 45 33).slots) := by
 refine MetFree.of_bodySF (plainFor_of_name pn0) hisR ?_
 intro p e s m args below meth c s₁ Bd hml0 hP hK
 obtain ⟨rfl, hZ, hh⟩ := hP
 have hx := Bd.exec
 have hby := Bd.bytes
 have hml : c.maxLocals = 7 := hml0
 have hown : s.vm.findClass RC = some m.cls := findClass_of_methodNamed Bd.named
 have hnm := (name_of_methodNamed Bd.named Bd.method).1
 have X0 : Stand p l e (Rm 2 1 45 33) s m #[(.ref a1), (.int p2)] below meth c s₁ [] 0 0 := Stand.of_body Bd
 have e0 : s₁.heap = h0 := by rw [← hh, Bd.state]; rfl
 have N0 := Fr.nil n0
 have K0 : Keep h0 h0 [a1] := Keep.refl h0 _
 refine G (P := fun o U' => ∃ v L, o = .returned v ∧ Q4_2_1 Z a1 p2 w_v k_v w_NI k_NI hAny h0 n0 v U'.heap L ∧ FrameEnd s o U' L (Rm 2 1 45 33).cells (Rm 2 1 45 33).slots) (fun t k => castTop (ef4_2_1 m a1 p2) k) ?_
 show Go _ _ _ (s₁.setTop (mkF m 0 #[vr a1, vi p2, us, us, us, us, us] [])) _
 refine G (fun t k => XS.aloadN X0.here hx rfl (hb hby d4_0) rfl rfl k) ?_
 obtain ⟨T1, X1, e1, st1⟩ := getF X0 hx hZ hown (host := "") (Or.inl (wd28 hw)) Via.refl e0 F_a1_s (g := (mkF m 1 #[vr a1, vi p2, us, us, us, us, us] [(.ref a1)])) rfl rfl (hb hby d4_1)
 refine G st1 ?_
 refine G (fun t k => XS.iloadN X1.here hx rfl (hb hby d4_4) rfl (XS.iadd X1.here hx rfl (hb hby d4_5) rfl (XS.istoreN X1.here hx rfl (hb hby d4_6) rfl (l' := #[vr a1, vi p2, vi ((0 : Int32) + p2), us, us, us, us]) rfl k))) ?_
 show Go _ _ _ (T1.setTop (mkF m 7 #[vr a1, vi p2, vi ((0 : Int32) + p2), us, us, us, us] [])) _
 refine Go.fr (g' := (mkF m 7 #[vr a1, vi p2, vi p2, us, us, us, us] [])) (by rw [Int32.zero_add]) ?_
 show Go _ _ _ (T1.setTop (mkF m 7 #[vr a1, vi p2, vi p2, us, us, us, us] [])) _
 refine G (fun t k => XS.iloadN X1.here hx rfl (hb hby d4_7) rfl (XS.aloadN X1.here hx rfl (hb hby d4_8) rfl rfl k)) ?_
 obtain ⟨T2, X2, e2, st2⟩ := getF X1 hx hZ hown (host := "") (Or.inl (wd19 hw)) Via.refl e1 F_a1_a (g := (mkF m 9 #[vr a1, vi p2, vi p2, us, us, us, us] [(.ref a1), (.int p2)])) rfl rfl (hb hby d4_9)
 refine G st2 ?_
 refine G (fun t k => XS.imul X2.here hx rfl (hb hby d4_12) rfl (XS.aloadN X2.here hx rfl (hb hby d4_13) rfl rfl k)) ?_
 obtain ⟨T3, X3, e3, st3⟩ := getF X2 hx hZ hown (host := "") (Or.inl (wd21 hw)) Via.refl e2 F_a1_v (g := (mkF m 14 #[vr a1, vi p2, vi p2, us, us, us, us] [(.ref a1), (.int (p2 * (2 : Int32)))])) rfl rfl (hb hby d4_14)
 refine G st3 ?_
 obtain ⟨cl4, Ar4, -, Sz4, Ng4, -, -⟩ := id V_v
 refine G (fun t k => X3.arraylength hx (by rw [e3]; exact Ar4.1) (State.isArrayOf_alike hZ.alike Ar4.2.1) (g := (mkF m 17 #[vr a1, vi p2, vi p2, us, us, us, us] [(.ref w_v), (.int (p2 * (2 : Int32)))])) rfl rfl (hb hby d4_17) _ k) ?_
 rw [len_of Sz4 Ng4]
 show Go _ _ _ (T3.setTop (mkF m 18 #[vr a1, vi p2, vi p2, us, us, us, us] [(.int 8), (.int (p2 * (2 : Int32)))])) _
 have hf5 : (8 : Int32) < (p2 * (2 : Int32)) := own_big p2 2 8 2 rfl rfl (by decide) hr hq4
 refine G (fun t k => XS.icmpNo X3.here hx rfl (hb hby d4_18) rfl (tlt hf5).2.2.2 (XS.aloadN X3.here hx rfl (hb hby d4_21) rfl rfl (XS.aloadN X3.here hx rfl (hb hby d4_22) rfl rfl k))) ?_
 obtain ⟨T6, X6, e6, st6⟩ := getF X3 hx hZ hown (host := "") (Or.inl (wd21 hw)) Via.refl e3 F_a1_v (g := (mkF m 23 #[vr a1, vi p2, vi p2, us, us, us, us] [(.ref a1), (.ref a1)])) rfl rfl (hb hby d4_23)
 refine G st6 ?_
 refine G (fun t k => XS.iloadN X6.here hx rfl (hb hby d4_26) rfl (XS.aloadN X6.here hx rfl (hb hby d4_27) rfl rfl k)) ?_
 obtain ⟨T7, X7, e7, st7⟩ := getF X6 hx hZ hown (host := "") (Or.inl (wd19 hw)) Via.refl e6 F_a1_a (g := (mkF m 28 #[vr a1, vi p2, vi p2, us, us, us, us] [(.ref a1), (.int p2), (.ref w_v), (.ref a1)])) rfl rfl (hb hby d4_28)
 refine G st7 ?_
 show Go _ _ _ (T7.setTop (mkF m 31 #[vr a1, vi p2, vi p2, us, us, us, us] [(.int 2), (.int p2), (.ref w_v), (.ref a1)])) _
 refine G (fun t k => XS.imul X7.here hx rfl (hb hby d4_31) rfl k) ?_
 obtain ⟨_, _, ⟨T8, L8, k8, n8⟩, -, X8, ⟨Lc8, hQ8, l8, y8, z8⟩, st8⟩ := Jvm.LawKit.callS X7 hx (y := (⟨"java/util/Arrays", "copyOf", "([II)[I"⟩ : MethodName)) hown (mvT hZ (wd74 hw)) (mvT hZ (wd75 hw)) (mvT hZ (wd76 hw)) (mvT hZ (wd77 hw)) (by decide) (backOf (W := 1) (rm12_2 l Z a0 hw [] w_v (p2 * (2 : Int32)) k_v h0 n0 Z0 V_v (own_big p2 2 8 2 rfl rfl (by decide) hr hq4) (own_45 p2 2 2 rfl (by decide) hr)) hZ (wd77 hw) (wd76 hw) (by decide) (by decide)) (g := (mkF m 32 #[vr a1, vi p2, vi p2, us, us, us, us] [(.int (p2 * (2 : Int32))), (.ref w_v), (.ref a1)])) rfl (by rw [hml]; rfl) (argsL := [(.ref w_v), (.int (p2 * (2 : Int32)))]) (rest := [(.ref a1)]) (lenOf pd7 rfl) rfl (by show 2 * 0 + _ ≤ _; exact Nat.le_of_eq rfl) (hb hby d4_32) (fun _ _ => ⟨rfl, e7, (by decide : 0 + 1 ≤ _), (by decide : 0 + 45 ≤ _)⟩)
 dsimp only [Pt.U, Pt.locs, Pt.cells, Pt.slots] at X8 l8 y8 z8 st8 hQ8
 subst l8 y8 z8
 obtain ⟨h8, e8⟩ : ∃ z, T8.heap = z := ⟨_, rfl⟩
 rw [e8] at hQ8
 obtain ⟨y8, k_y8, rfl, N8q, K8, ng_y8, sz0_y8, Q8_0⟩ := hQ8
 refine G st8 ?_
 have ne_a1_y8 : a1 ≠ y8 := Nat.ne_of_lt (Nat.lt_of_lt_of_le E_a1.lt sz0_y8)
 have ne_w_v_y8 : w_v ≠ y8 := Nat.ne_of_lt (Nat.lt_of_lt_of_le V_v.lt sz0_y8)
 have ne_w_NI_y8 : w_NI ≠ y8 := Nat.ne_of_lt (Nat.lt_of_lt_of_le V_NI.lt sz0_y8)
 have g_y8 : n0 ≤ y8 := ng_y8
 have sz_y8 : h0.size ≤ y8 := Nat.le_trans K0.1 sz0_y8
 replace E_a1 := E_a1.keep K8
 replace V_v := V_v.keep K8 nin0
 replace V_NI := V_NI.keep K8 nin0
 replace F_a1_a := F_a1_a.keep K8 nin0
 replace F_a1_v := F_a1_v.keep K8 nin0
 replace F_a1_s := F_a1_s.keep K8 nin0
 replace F_a1_m := F_a1_m.keep K8 nin0
 replace F_a1_i := F_a1_i.keep K8 nin0
 replace F_a1_h := F_a1_h.keep K8 nin0
 replace Z0 := Nat.le_trans Z0 K8.1
 replace K0 := K0.trans K8 all0
 have V_y8 := Q8_0
 have N8 := Fr.app N0 N8q
 replace V_y8 : Arv Z h8 y8 k_y8 .int (p2 * (2 : Int32)) [] (.int (0 : Int32)) := V_y8.pad (fun i => (pad_rep [] (.int (0 : Int32)) 8 i).symm)
 obtain ⟨T9, h9, X9, e9, W9, st9⟩ := putF X8 hx hZ hown (host := "") (Or.inl (wd21 hw)) Via.refl e8 F_a1_v E_a1 (Or.inl (wd22 hw)) (wd7 hw) (ty := (.array .int)) (by decide) rfl rfl (g := (mkF m 35 #[vr a1, vi p2, vi p2, us, us, us, us] [(.ref y8), (.ref a1)])) rfl rfl (hb hby d4_35)
 refine G st9 ?_
 have N9 := Fr.snoc X9 N8 g_a1
 replace E_a1 := E_a1.wr W9
 replace V_v := V_v.other W9 ne_w_v_a1
 replace V_NI := V_NI.other W9 ne_w_NI_a1
 replace F_a1_a := F_a1_a.other W9 (sn16 hw)
 replace F_a1_v := F_a1_v.same W9
 replace F_a1_s := F_a1_s.other W9 (sn12 hw)
 replace F_a1_m := F_a1_m.other W9 (sn13 hw)
 replace F_a1_i := F_a1_i.other W9 (sn15 hw)
 replace F_a1_h := F_a1_h.other W9 (sn14 hw)
 replace V_y8 := V_y8.other W9 (Ne.symm ne_a1_y8)
 replace Z0 := Nat.le_trans Z0 (Nat.le_of_eq W9.size.symm)
 replace K0 := K0.wr W9 (Or.inl (by simp))
 refine G (fun t k => XS.aloadN X9.here hx rfl (hb hby d4_38) rfl rfl k) ?_
 obtain ⟨T10, X10, e10, st10⟩ := getF X9 hx hZ hown (host := "") (Or.inl (wd30 hw)) Via.refl e9 F_a1_m (g := (mkF m 39 #[vr a1, vi p2, vi p2, us, us, us, us] [(.ref a1)])) rfl rfl (hb hby d4_39)
 refine G st10 ?_
 refine G (fun t k => XS.ifnonnullNo X10.here hx rfl (hb hby d4_42) rfl (XS.iloadN X10.here hx rfl (hb hby d4_45) rfl k)) ?_
 show Go _ _ _ (T10.setTop (mkF m 46 #[vr a1, vi p2, vi p2, us, us, us, us] [(.int p2)])) _
 refine G (fun t k => XS.bipush X10.here hx rfl (hb hby d4_46) k) ?_
 have hf11 : ¬ ((8 : Int32) < p2) := hq8
 refine G (fun t k => XS.icmpYes X10.here hx rfl (pc0 := 48) (pc' := 74) rfl (hb hby d4_48) rfl (flt hf11).2.2.2 (by decide) (by decide) (XS.aloadN X10.here hx rfl (hb hby d4_74) rfl rfl k)) ?_
 obtain ⟨T12, X12, e12, st12⟩ := getF X10 hx hZ hown (host := "") (Or.inl (wd30 hw)) Via.refl e10 F_a1_m (g := (mkF m 75 #[vr a1, vi p2, vi p2, us, us, us, us] [(.ref a1)])) rfl rfl (hb hby d4_75)
 refine G st12 ?_
 refine G (fun t k => XS.ifnullYes X12.here hx rfl (pc0 := 78) (pc' := 89) rfl (hb hby d4_78) rfl (by decide) (by decide) (XS.aloadN X12.here hx rfl (hb hby d4_89) rfl rfl k)) ?_
 obtain ⟨T13, X13, e13, st13⟩ := getF X12 hx hZ hown (host := "") (Or.inl (wd17 hw)) Via.refl e12 F_a1_i (g := (mkF m 90 #[vr a1, vi p2, vi p2, us, us, us, us] [(.ref a1)])) rfl rfl (hb hby d4_90)
 refine G st13 ?_
 show Go _ _ _ (T13.setTop (mkF m 93 #[vr a1, vi p2, vi p2, us, us, us, us] [(.ref w_NI)])) _
 refine G (fun t k => XS.astoreN X13.here hx rfl (hb hby d4_93) rfl rfl (l' := #[vr a1, vi p2, vi p2, vr w_NI, us, us, us]) rfl (XS.aloadN X13.here hx rfl (hb hby d4_94) rfl rfl k)) ?_
 obtain ⟨cl14, Ar14, -, Sz14, Ng14, -, -⟩ := id V_NI
 refine G (fun t k => X13.arraylength hx (by rw [e13]; exact Ar14.1) (State.isArrayOf_alike hZ.alike Ar14.2.1) (g := (mkF m 95 #[vr a1, vi p2, vi p2, vr w_NI, us, us, us] [(.ref w_NI)])) rfl rfl (hb hby d4_95) _ k) ?_
 rw [len_of Sz14 Ng14]
 refine G (fun t k => XS.istore X13.here hx rfl (hb hby d4_96) rfl (l' := #[vr a1, vi p2, vi p2, vr w_NI, vi 0, us, us]) rfl (XS.iconst X13.here hx rfl (hb hby d4_98) (XS.istore X13.here hx rfl (hb hby d4_99) rfl (l' := #[vr a1, vi p2, vi p2, vr w_NI, vi 0, vi 0, us]) rfl (XS.iload X13.here hx rfl (hb hby d4_101) rfl k)))) ?_
 show Go _ _ _ (T13.setTop (mkF m 103 #[vr a1, vi p2, vi p2, vr w_NI, vi 0, vi 0, us] [(.int 0)])) _
 refine G (fun t k => XS.iload X13.here hx rfl (hb hby d4_103) rfl (XS.icmpYes X13.here hx rfl (pc0 := 105) (pc' := 126) rfl (hb hby d4_105) rfl (flt (by decide : ¬ ((0 : Int32) < (0 : Int32)))).2.1 (by decide) (by decide) k)) ?_
 obtain ⟨fs, hr, hrun, hended, hW, hsame⟩ := X13.leave (v := none) (fun _ => rfl)
 refine Go.fin (X13.returnOut hx Bd.returns (hb hby d4_126) hr) hrun hended ⟨_, _, rfl, ?_, ⟨_, rfl⟩, hW, hsame.mono (by decide) (by decide)⟩
 show Q4_2_1 Z a1 p2 w_v k_v w_NI k_NI hAny h0 n0 _ T13.heap _
 rw [e13]
 exact ⟨y8, k_y8, rfl, N9, K0, g_y8, sz_y8, E_a1, F_a1_a, F_a1_v, F_a1_s, F_a1_m, F_a1_i, F_a1_h, V_y8⟩
def Q4_2_2 (Z : State) (a1 : Addr) (p2 : Int32) (w_v : Addr) (k_v : ClassId) (w_NI : Addr) (k_NI : ClassId) (hAny : Int32) (h0 : Heap) (n0 : Nat) (v : Option Value) (h : Heap) (L : List Loc) : Prop := ∃ x4_2_2_0 : Addr, ∃ x4_2_2_1 : Addr, ∃ x4_2_2_2 : Addr, ∃ x4_2_2_3 : Addr, ∃ x4_2_2_4 : Addr, ∃ k_x4_2_2_0 : ClassId, ∃ k_x4_2_2_2 : ClassId, ∃ k_x4_2_2_3 : ClassId, ∃ k_x4_2_2_4 : ClassId, v = none ∧ Fr n0 L ∧ Keep h0 h [a1] ∧ n0 ≤ x4_2_2_0 ∧ h0.size ≤ x4_2_2_0 ∧ n0 ≤ x4_2_2_1 ∧ h0.size ≤ x4_2_2_1 ∧ n0 ≤ x4_2_2_2 ∧ h0.size ≤ x4_2_2_2 ∧ n0 ≤ x4_2_2_3 ∧ h0.size ≤ x4_2_2_3 ∧ n0 ≤ x4_2_2_4 ∧ h0.size ≤ x4_2_2_4 ∧ x4_2_2_0 ≠ x4_2_2_1 ∧ x4_2_2_0 ≠ x4_2_2_2 ∧ x4_2_2_0 ≠ x4_2_2_3 ∧ x4_2_2_0 ≠ x4_2_2_4 ∧ x4_2_2_1 ≠ x4_2_2_2 ∧ x4_2_2_1 ≠ x4_2_2_3 ∧ x4_2_2_1 ≠ x4_2_2_4 ∧ x4_2_2_2 ≠ x4_2_2_3 ∧ x4_2_2_2 ≠ x4_2_2_4 ∧ x4_2_2_3 ≠ x4_2_2_4 ∧ Exa Z h a1 RC ∧ Fld Z h a1 RC "arity" "I" (.int (2 : Int32)) ∧ Fld Z h a1 RC "values" "[I" (.ref x4_2_2_0) ∧ Fld Z h a1 RC "size" "I" (.int (0 : Int32)) ∧ Fld Z h a1 RC "members" RI (.ref x4_2_2_1) ∧ Fld Z h a1 RC "indexes" RJ (.ref w_NI) ∧ Fld Z h a1 RC "holdingAny" "I" (.int hAny) ∧ Arv Z h x4_2_2_0 k_x4_2_2_0 .int (p2 * (2 : Int32)) [] (.int (0 : Int32)) ∧ Exa Z h x4_2_2_1 IC ∧ Arv Z h x4_2_2_2 k_x4_2_2_2 .int (2 : Int32) [(.int (0 : Int32)), (.int (1 : Int32))] (.int (0 : Int32)) ∧ Fld Z h x4_2_2_1 IC "keys" "I" (.int (0 : Int32)) ∧ Fld Z h x4_2_2_1 IC "this$0" RL (.ref a1) ∧ Fld Z h x4_2_2_1 IC "positions" "[I" (.ref x4_2_2_2) ∧ Fld Z h x4_2_2_1 IC "slots" "[I" (.ref x4_2_2_3) ∧ Fld Z h x4_2_2_1 IC "next" "[I" (.ref x4_2_2_4) ∧ Arv Z h x4_2_2_3 k_x4_2_2_3 .int (128 : Int32) [] (.int (0 : Int32)) ∧ Arv Z h x4_2_2_4 k_x4_2_2_4 .int (16 : Int32) [] (.int (0 : Int32))
theorem ef4_2_2 (m : MethodId) (x0 : Addr) (x1 : Int32) : entryFrame m #[(.ref x0), (.int x1)] 7 = mkF m 0 #[.val (.ref x0), .val (.int x1), .unset, .unset, .unset, .unset, .unset] [] := by first | (simp [entryFrame, mkF, argsToLocals, Value.category]; done) | rfl
theorem rm4_2_2 (l : Launch) (Z : State) (a0 : Array Value) (hw : HW a0 Z) (ws : List Jvm.Cond) (a1 : Addr) (p2 : Int32) (w_v : Addr) (k_v : ClassId) (w_NI : Addr) (k_NI : ClassId) (hAny : Int32) (h0 : Heap) (n0 : Nat) (Z0 : n0 ≤ h0.size) (E_a1 : Exa Z h0 a1 RC) (V_v : Arv Z h0 w_v k_v .int (8 : Int32) [] (.int (0 : Int32))) (V_NI : Arv Z h0 w_NI k_NI (.object IC) (0 : Int32) [] .null) (F_a1_a : Fld Z h0 a1 RC "arity" "I" (.int (2 : Int32))) (F_a1_v : Fld Z h0 a1 RC "values" "[I" (.ref w_v)) (F_a1_s : Fld Z h0 a1 RC "size" "I" (.int (0 : Int32))) (F_a1_m : Fld Z h0 a1 RC "members" RI .null) (F_a1_i : Fld Z h0 a1 RC "indexes" RJ (.ref w_NI)) (F_a1_h : Fld Z h0 a1 RC "holdingAny" "I" (.int hAny)) (ne_w_v_a1 : w_v ≠ a1) (ne_w_NI_a1 : w_NI ≠ a1) (ne_w_NI_w_v : w_NI ≠ w_v) (hr : 0 ≤ p2.toInt ∧ p2.toInt ≤ 15) (hq4 : (4 : Int32) < p2) (hq8 : (8 : Int32) < p2) (g_a1 : n0 ≤ a1) :
  MetFree l (⟨RC, "reserve", "(I)V"⟩ : MethodName) (head1 (Jvm.Cond.code (⟨RC, "reserve", "(I)V"⟩ : MethodName) cB4 7 none :: ws) (Rm 3 5 196 46)) (Pr Z h0 #[(.ref a1), (.int p2)]) Tr (fun _ U o U' => ∃ v L, o = .returned v ∧ Q4_2_2 Z a1 p2 w_v k_v w_NI k_NI hAny h0 n0 v U'.heap L ∧ FrameEnd U o U' L (Rm 3 5 196 46).cells (Rm 3 5 196 46).slots) := by
 refine MetFree.of_bodySF (plainFor_of_name pn0) hisR ?_
 intro p e s m args below meth c s₁ Bd hml0 hP hK
 obtain ⟨rfl, hZ, hh⟩ := hP
 have hx := Bd.exec
 have hby := Bd.bytes
 have hml : c.maxLocals = 7 := hml0
 have hown : s.vm.findClass RC = some m.cls := findClass_of_methodNamed Bd.named
 have hnm := (name_of_methodNamed Bd.named Bd.method).1
 have X0 : Stand p l e (Rm 3 5 196 46) s m #[(.ref a1), (.int p2)] below meth c s₁ [] 0 0 := Stand.of_body Bd
 have e0 : s₁.heap = h0 := by rw [← hh, Bd.state]; rfl
 have N0 := Fr.nil n0
 have K0 : Keep h0 h0 [a1] := Keep.refl h0 _
 refine G (P := fun o U' => ∃ v L, o = .returned v ∧ Q4_2_2 Z a1 p2 w_v k_v w_NI k_NI hAny h0 n0 v U'.heap L ∧ FrameEnd s o U' L (Rm 3 5 196 46).cells (Rm 3 5 196 46).slots) (fun t k => castTop (ef4_2_2 m a1 p2) k) ?_
 show Go _ _ _ (s₁.setTop (mkF m 0 #[vr a1, vi p2, us, us, us, us, us] [])) _
 refine G (fun t k => XS.aloadN X0.here hx rfl (hb hby d4_0) rfl rfl k) ?_
 obtain ⟨T1, X1, e1, st1⟩ := getF X0 hx hZ hown (host := "") (Or.inl (wd28 hw)) Via.refl e0 F_a1_s (g := (mkF m 1 #[vr a1, vi p2, us, us, us, us, us] [(.ref a1)])) rfl rfl (hb hby d4_1)
 refine G st1 ?_
 refine G (fun t k => XS.iloadN X1.here hx rfl (hb hby d4_4) rfl (XS.iadd X1.here hx rfl (hb hby d4_5) rfl (XS.istoreN X1.here hx rfl (hb hby d4_6) rfl (l' := #[vr a1, vi p2, vi ((0 : Int32) + p2), us, us, us, us]) rfl k))) ?_
 show Go _ _ _ (T1.setTop (mkF m 7 #[vr a1, vi p2, vi ((0 : Int32) + p2), us, us, us, us] [])) _
 refine Go.fr (g' := (mkF m 7 #[vr a1, vi p2, vi p2, us, us, us, us] [])) (by rw [Int32.zero_add]) ?_
 show Go _ _ _ (T1.setTop (mkF m 7 #[vr a1, vi p2, vi p2, us, us, us, us] [])) _
 refine G (fun t k => XS.iloadN X1.here hx rfl (hb hby d4_7) rfl (XS.aloadN X1.here hx rfl (hb hby d4_8) rfl rfl k)) ?_
 obtain ⟨T2, X2, e2, st2⟩ := getF X1 hx hZ hown (host := "") (Or.inl (wd19 hw)) Via.refl e1 F_a1_a (g := (mkF m 9 #[vr a1, vi p2, vi p2, us, us, us, us] [(.ref a1), (.int p2)])) rfl rfl (hb hby d4_9)
 refine G st2 ?_
 refine G (fun t k => XS.imul X2.here hx rfl (hb hby d4_12) rfl (XS.aloadN X2.here hx rfl (hb hby d4_13) rfl rfl k)) ?_
 obtain ⟨T3, X3, e3, st3⟩ := getF X2 hx hZ hown (host := "") (Or.inl (wd21 hw)) Via.refl e2 F_a1_v (g := (mkF m 14 #[vr a1, vi p2, vi p2, us, us, us, us] [(.ref a1), (.int (p2 * (2 : Int32)))])) rfl rfl (hb hby d4_14)
 refine G st3 ?_
 obtain ⟨cl4, Ar4, -, Sz4, Ng4, -, -⟩ := id V_v
 refine G (fun t k => X3.arraylength hx (by rw [e3]; exact Ar4.1) (State.isArrayOf_alike hZ.alike Ar4.2.1) (g := (mkF m 17 #[vr a1, vi p2, vi p2, us, us, us, us] [(.ref w_v), (.int (p2 * (2 : Int32)))])) rfl rfl (hb hby d4_17) _ k) ?_
 rw [len_of Sz4 Ng4]
 show Go _ _ _ (T3.setTop (mkF m 18 #[vr a1, vi p2, vi p2, us, us, us, us] [(.int 8), (.int (p2 * (2 : Int32)))])) _
 have hf5 : (8 : Int32) < (p2 * (2 : Int32)) := own_big p2 2 8 2 rfl rfl (by decide) hr hq4
 refine G (fun t k => XS.icmpNo X3.here hx rfl (hb hby d4_18) rfl (tlt hf5).2.2.2 (XS.aloadN X3.here hx rfl (hb hby d4_21) rfl rfl (XS.aloadN X3.here hx rfl (hb hby d4_22) rfl rfl k))) ?_
 obtain ⟨T6, X6, e6, st6⟩ := getF X3 hx hZ hown (host := "") (Or.inl (wd21 hw)) Via.refl e3 F_a1_v (g := (mkF m 23 #[vr a1, vi p2, vi p2, us, us, us, us] [(.ref a1), (.ref a1)])) rfl rfl (hb hby d4_23)
 refine G st6 ?_
 refine G (fun t k => XS.iloadN X6.here hx rfl (hb hby d4_26) rfl (XS.aloadN X6.here hx rfl (hb hby d4_27) rfl rfl k)) ?_
 obtain ⟨T7, X7, e7, st7⟩ := getF X6 hx hZ hown (host := "") (Or.inl (wd19 hw)) Via.refl e6 F_a1_a (g := (mkF m 28 #[vr a1, vi p2, vi p2, us, us, us, us] [(.ref a1), (.int p2), (.ref w_v), (.ref a1)])) rfl rfl (hb hby d4_28)
 refine G st7 ?_
 show Go _ _ _ (T7.setTop (mkF m 31 #[vr a1, vi p2, vi p2, us, us, us, us] [(.int 2), (.int p2), (.ref w_v), (.ref a1)])) _
 refine G (fun t k => XS.imul X7.here hx rfl (hb hby d4_31) rfl k) ?_
 obtain ⟨_, _, ⟨T8, L8, k8, n8⟩, -, X8, ⟨Lc8, hQ8, l8, y8, z8⟩, st8⟩ := Jvm.LawKit.callS X7 hx (y := (⟨"java/util/Arrays", "copyOf", "([II)[I"⟩ : MethodName)) hown (mvT hZ (wd74 hw)) (mvT hZ (wd75 hw)) (mvT hZ (wd76 hw)) (mvT hZ (wd77 hw)) (by decide) (backOf (W := 1) (rm12_2 l Z a0 hw [] w_v (p2 * (2 : Int32)) k_v h0 n0 Z0 V_v (own_big p2 2 8 2 rfl rfl (by decide) hr hq4) (own_45 p2 2 2 rfl (by decide) hr)) hZ (wd77 hw) (wd76 hw) (by decide) (by decide)) (g := (mkF m 32 #[vr a1, vi p2, vi p2, us, us, us, us] [(.int (p2 * (2 : Int32))), (.ref w_v), (.ref a1)])) rfl (by rw [hml]; rfl) (argsL := [(.ref w_v), (.int (p2 * (2 : Int32)))]) (rest := [(.ref a1)]) (lenOf pd7 rfl) rfl (by show 2 * 0 + _ ≤ _; exact Nat.le_of_eq rfl) (hb hby d4_32) (fun _ _ => ⟨rfl, e7, (by decide : 0 + 1 ≤ _), (by decide : 0 + 45 ≤ _)⟩)
 dsimp only [Pt.U, Pt.locs, Pt.cells, Pt.slots] at X8 l8 y8 z8 st8 hQ8
 subst l8 y8 z8
 obtain ⟨h8, e8⟩ : ∃ z, T8.heap = z := ⟨_, rfl⟩
 rw [e8] at hQ8
 obtain ⟨y8, k_y8, rfl, N8q, K8, ng_y8, sz0_y8, Q8_0⟩ := hQ8
 refine G st8 ?_
 have ne_a1_y8 : a1 ≠ y8 := Nat.ne_of_lt (Nat.lt_of_lt_of_le E_a1.lt sz0_y8)
 have ne_w_v_y8 : w_v ≠ y8 := Nat.ne_of_lt (Nat.lt_of_lt_of_le V_v.lt sz0_y8)
 have ne_w_NI_y8 : w_NI ≠ y8 := Nat.ne_of_lt (Nat.lt_of_lt_of_le V_NI.lt sz0_y8)
 have g_y8 : n0 ≤ y8 := ng_y8
 have sz_y8 : h0.size ≤ y8 := Nat.le_trans K0.1 sz0_y8
 replace E_a1 := E_a1.keep K8
 replace V_v := V_v.keep K8 nin0
 replace V_NI := V_NI.keep K8 nin0
 replace F_a1_a := F_a1_a.keep K8 nin0
 replace F_a1_v := F_a1_v.keep K8 nin0
 replace F_a1_s := F_a1_s.keep K8 nin0
 replace F_a1_m := F_a1_m.keep K8 nin0
 replace F_a1_i := F_a1_i.keep K8 nin0
 replace F_a1_h := F_a1_h.keep K8 nin0
 replace Z0 := Nat.le_trans Z0 K8.1
 replace K0 := K0.trans K8 all0
 have V_y8 := Q8_0
 have N8 := Fr.app N0 N8q
 replace V_y8 : Arv Z h8 y8 k_y8 .int (p2 * (2 : Int32)) [] (.int (0 : Int32)) := V_y8.pad (fun i => (pad_rep [] (.int (0 : Int32)) 8 i).symm)
 obtain ⟨T9, h9, X9, e9, W9, st9⟩ := putF X8 hx hZ hown (host := "") (Or.inl (wd21 hw)) Via.refl e8 F_a1_v E_a1 (Or.inl (wd22 hw)) (wd7 hw) (ty := (.array .int)) (by decide) rfl rfl (g := (mkF m 35 #[vr a1, vi p2, vi p2, us, us, us, us] [(.ref y8), (.ref a1)])) rfl rfl (hb hby d4_35)
 refine G st9 ?_
 have N9 := Fr.snoc X9 N8 g_a1
 replace E_a1 := E_a1.wr W9
 replace V_v := V_v.other W9 ne_w_v_a1
 replace V_NI := V_NI.other W9 ne_w_NI_a1
 replace F_a1_a := F_a1_a.other W9 (sn16 hw)
 replace F_a1_v := F_a1_v.same W9
 replace F_a1_s := F_a1_s.other W9 (sn12 hw)
 replace F_a1_m := F_a1_m.other W9 (sn13 hw)
 replace F_a1_i := F_a1_i.other W9 (sn15 hw)
 replace F_a1_h := F_a1_h.other W9 (sn14 hw)
 replace V_y8 := V_y8.other W9 (Ne.symm ne_a1_y8)
 replace Z0 := Nat.le_trans Z0 (Nat.le_of_eq W9.size.symm)
 replace K0 := K0.wr W9 (Or.inl (by simp))
 refine G (fun t k => XS.aloadN X9.here hx rfl (hb hby d4_38) rfl rfl k) ?_
 obtain ⟨T10, X10, e10, st10⟩ := getF X9 hx hZ hown (host := "") (Or.inl (wd30 hw)) Via.refl e9 F_a1_m (g := (mkF m 39 #[vr a1, vi p2, vi p2, us, us, us, us] [(.ref a1)])) rfl rfl (hb hby d4_39)
 refine G st10 ?_
 refine G (fun t k => XS.ifnonnullNo X10.here hx rfl (hb hby d4_42) rfl (XS.iloadN X10.here hx rfl (hb hby d4_45) rfl k)) ?_
 show Go _ _ _ (T10.setTop (mkF m 46 #[vr a1, vi p2, vi p2, us, us, us, us] [(.int p2)])) _
 refine G (fun t k => XS.bipush X10.here hx rfl (hb hby d4_46) k) ?_
 have hf11 : (8 : Int32) < p2 := hq8
 refine G (fun t k => XS.icmpNo X10.here hx rfl (hb hby d4_48) rfl (tlt hf11).2.2.2 (XS.aloadN X10.here hx rfl (hb hby d4_51) rfl rfl k)) ?_
 obtain ⟨T12, h12, X12, e12, E12, A12, D12, -, st12⟩ := newO X10 hx hZ hown (wd83 hw) (wd84 hw) (wd85 hw) e10 (g := (mkF m 52 #[vr a1, vi p2, vi p2, us, us, us, us] [(.ref a1)])) rfl (hb hby d4_52) (by decide) (by decide)
 obtain ⟨b12, g12⟩ : ∃ z, z = h9.size := ⟨_, rfl⟩
 rw [← g12] at A12 D12 st12
 refine G st12 ?_
 have ne_a1_b12 : a1 ≠ b12 := Nat.ne_of_lt (Nat.lt_of_lt_of_le E_a1.lt (Nat.le_of_eq g12.symm))
 have ne_w_v_b12 : w_v ≠ b12 := Nat.ne_of_lt (Nat.lt_of_lt_of_le V_v.lt (Nat.le_of_eq g12.symm))
 have ne_w_NI_b12 : w_NI ≠ b12 := Nat.ne_of_lt (Nat.lt_of_lt_of_le V_NI.lt (Nat.le_of_eq g12.symm))
 have ne_y8_b12 : y8 ≠ b12 := Nat.ne_of_lt (Nat.lt_of_lt_of_le V_y8.lt (Nat.le_of_eq g12.symm))
 have g_b12 : n0 ≤ b12 := Nat.le_trans Z0 (Nat.le_of_eq g12.symm)
 have sz_b12 : h0.size ≤ b12 := Nat.le_trans K0.1 (Nat.le_of_eq g12.symm)
 replace E_a1 := E_a1.ext E12
 replace V_v := V_v.ext E12
 replace V_NI := V_NI.ext E12
 replace F_a1_a := F_a1_a.ext E12
 replace F_a1_v := F_a1_v.ext E12
 replace F_a1_s := F_a1_s.ext E12
 replace F_a1_m := F_a1_m.ext E12
 replace F_a1_i := F_a1_i.ext E12
 replace F_a1_h := F_a1_h.ext E12
 replace V_y8 := V_y8.ext E12
 replace K0 := K0.ext E12
 replace Z0 := Nat.le_trans Z0 E12.1
 have E_b12 := A12
 have F_b12_this_0 : Fld Z h12 b12 IC "this$0" RL .null := D12 (Or.inr (wd93 hw)) (ty := (.object RC)) (by decide)
 have F_b12_p : Fld Z h12 b12 IC "positions" "[I" .null := D12 (Or.inr (wd96 hw)) (ty := (.array .int)) (by decide)
 have F_b12_l : Fld Z h12 b12 IC "slots" "[I" .null := D12 (Or.inl (wd110 hw)) (ty := (.array .int)) (by decide)
 have F_b12_next : Fld Z h12 b12 IC "next" "[I" .null := D12 (Or.inl (wd112 hw)) (ty := (.array .int)) (by decide)
 have F_b12_keys : Fld Z h12 b12 IC "keys" "I" (.int (0 : Int32)) := D12 (Or.inl (wd134 hw)) (ty := .int) (by decide)
 refine G (fun t k => XS.dup X12.here hx rfl (hb hby d4_55) rfl rfl (XS.aloadN X12.here hx rfl (hb hby d4_56) rfl rfl (XS.aloadN X12.here hx rfl (hb hby d4_57) rfl rfl k))) ?_
 show Go _ _ _ (T12.setTop (mkF m 58 #[vr a1, vi p2, vi p2, us, us, us, us] [(.ref a1), (.ref a1), (.ref b12), (.ref b12), (.ref a1)])) _
 obtain ⟨T13, X13, e13, st13⟩ := getF X12 hx hZ hown (host := "") (Or.inl (wd19 hw)) Via.refl e12 F_a1_a (g := (mkF m 58 #[vr a1, vi p2, vi p2, us, us, us, us] [(.ref a1), (.ref a1), (.ref b12), (.ref b12), (.ref a1)])) rfl rfl (hb hby d4_58)
 refine G st13 ?_
 obtain ⟨_, _, ⟨T14, L14, k14, n14⟩, -, X14, ⟨Lc14, hQ14, l14, y14, z14⟩, st14⟩ := Jvm.LawKit.callS X13 hx (y := (⟨RC, "allPositions", "(I)[I"⟩ : MethodName)) hown (mvT hZ (wd86 hw)) (mvT hZ (wd87 hw)) (mvT hZ (wd8 hw)) (mvT hZ (wd88 hw)) (by decide) (backOf (W := 4) (rm14_2 l Z a0 hw []  h12 n0 Z0) hZ (wd88 hw) (wd8 hw) (by decide) (by decide)) (g := (mkF m 61 #[vr a1, vi p2, vi p2, us, us, us, us] [(.int 2), (.ref a1), (.ref b12), (.ref b12), (.ref a1)])) rfl (by rw [hml]; rfl) (argsL := [(.int (2 : Int32))]) (rest := [(.ref a1), (.ref b12), (.ref b12), (.ref a1)]) (lenOf pd8 rfl) rfl (by show 2 * 0 + _ ≤ _; exact Nat.le_of_eq rfl) (hb hby d4_61) (fun _ _ => ⟨rfl, e13, (by decide : 2 + 1 ≤ _), (by decide : 50 + 2 ≤ _)⟩)
 dsimp only [Pt.U, Pt.locs, Pt.cells, Pt.slots] at X14 l14 y14 z14 st14 hQ14
 subst l14 y14 z14
 obtain ⟨h14, e14⟩ : ∃ z, T14.heap = z := ⟨_, rfl⟩
 rw [e14] at hQ14
 obtain ⟨y14, k_y14, rfl, N14q, K14, ng_y14, sz0_y14, Q14_0⟩ := hQ14
 refine G st14 ?_
 have ne_a1_y14 : a1 ≠ y14 := Nat.ne_of_lt (Nat.lt_of_lt_of_le E_a1.lt sz0_y14)
 have ne_w_v_y14 : w_v ≠ y14 := Nat.ne_of_lt (Nat.lt_of_lt_of_le V_v.lt sz0_y14)
 have ne_w_NI_y14 : w_NI ≠ y14 := Nat.ne_of_lt (Nat.lt_of_lt_of_le V_NI.lt sz0_y14)
 have ne_y8_y14 : y8 ≠ y14 := Nat.ne_of_lt (Nat.lt_of_lt_of_le V_y8.lt sz0_y14)
 have ne_b12_y14 : b12 ≠ y14 := Nat.ne_of_lt (Nat.lt_of_lt_of_le E_b12.lt sz0_y14)
 have g_y14 : n0 ≤ y14 := ng_y14
 have sz_y14 : h0.size ≤ y14 := Nat.le_trans K0.1 sz0_y14
 replace E_a1 := E_a1.keep K14
 replace V_v := V_v.keep K14 nin0
 replace V_NI := V_NI.keep K14 nin0
 replace F_a1_a := F_a1_a.keep K14 nin0
 replace F_a1_v := F_a1_v.keep K14 nin0
 replace F_a1_s := F_a1_s.keep K14 nin0
 replace F_a1_m := F_a1_m.keep K14 nin0
 replace F_a1_i := F_a1_i.keep K14 nin0
 replace F_a1_h := F_a1_h.keep K14 nin0
 replace V_y8 := V_y8.keep K14 nin0
 replace E_b12 := E_b12.keep K14
 replace F_b12_this_0 := F_b12_this_0.keep K14 nin0
 replace F_b12_p := F_b12_p.keep K14 nin0
 replace F_b12_l := F_b12_l.keep K14 nin0
 replace F_b12_next := F_b12_next.keep K14 nin0
 replace F_b12_keys := F_b12_keys.keep K14 nin0
 replace Z0 := Nat.le_trans Z0 K14.1
 replace K0 := K0.trans K14 all0
 have V_y14 := Q14_0
 have N14 := Fr.app N9 N14q
 refine G (fun t k => XS.iloadN X14.here hx rfl (hb hby d4_64) rfl k) ?_
 obtain ⟨_, _, ⟨T15, L15, k15, n15⟩, -, X15, ⟨Lc15, hQ15, l15, y15, z15⟩, st15⟩ := X14.specialBack hx (y := (⟨IC, "<init>", "(Lcom/example/bitlattice/bitlattice/eval/Relation;[II)V"⟩ : MethodName)) rfl hown (mvT hZ (wd89 hw)) (mvT hZ (wd90 hw)) (mvT hZ (wd91 hw)) (by decide) (backOf (W := 2) (rm15 l Z a0 hw [] b12 a1 y14 p2 (.null : Value) (.null : Value) (.null : Value) (.null : Value) h14 n0 Z0 E_b12 F_b12_keys F_b12_this_0 F_b12_p F_b12_l F_b12_next F_a1_s ne_a1_b12 hq8 hr.2 g_b12) hZ (wd91 hw) (wd85 hw) (by decide) (by decide)) (g := (mkF m 65 #[vr a1, vi p2, vi p2, us, us, us, us] [(.int p2), (.ref y14), (.ref a1), (.ref b12), (.ref b12), (.ref a1)])) rfl (by rw [hml]; rfl) (Steps.refl _) (a := b12) (argsL := [(.ref a1), (.ref y14), (.int p2)]) (rest := [(.ref b12), (.ref a1)]) (lenOf pd9 rfl) rfl (by show 2 * 0 + _ ≤ _; exact Nat.le_of_eq rfl) (hb hby d4_65) (fun _ _ => ⟨rfl, e14, (by decide : 3 + 2 ≤ _), (by decide : 52 + 144 ≤ _)⟩)
 dsimp only [Pt.U, Pt.locs, Pt.cells, Pt.slots] at X15 l15 y15 z15 st15 hQ15
 subst l15 y15 z15
 have E_b12_pre := E_b12
 have F_b12_this_0_pre := F_b12_this_0
 have F_b12_positions_pre := F_b12_p
 have F_b12_slots_pre := F_b12_l
 have F_b12_next_pre := F_b12_next
 have F_b12_keys_pre := F_b12_keys
 obtain ⟨h15, e15⟩ : ∃ z, T15.heap = z := ⟨_, rfl⟩
 rw [e15] at hQ15
 obtain ⟨y15, y15a, k_y15, k_y15a, rfl, N15q, K15, ng_y15, sz0_y15, ng_y15a, sz0_y15a, nef_y15_y15a, Q15_0, Q15_1, Q15_2, Q15_3, Q15_4, Q15_5, Q15_6, Q15_7⟩ := hQ15
 refine Go.tr st15 ?_
 have ne_a1_y15 : a1 ≠ y15 := Nat.ne_of_lt (Nat.lt_of_lt_of_le E_a1.lt sz0_y15)
 have ne_w_v_y15 : w_v ≠ y15 := Nat.ne_of_lt (Nat.lt_of_lt_of_le V_v.lt sz0_y15)
 have ne_w_NI_y15 : w_NI ≠ y15 := Nat.ne_of_lt (Nat.lt_of_lt_of_le V_NI.lt sz0_y15)
 have ne_y8_y15 : y8 ≠ y15 := Nat.ne_of_lt (Nat.lt_of_lt_of_le V_y8.lt sz0_y15)
 have ne_b12_y15 : b12 ≠ y15 := Nat.ne_of_lt (Nat.lt_of_lt_of_le E_b12.lt sz0_y15)
 have ne_y14_y15 : y14 ≠ y15 := Nat.ne_of_lt (Nat.lt_of_lt_of_le V_y14.lt sz0_y15)
 have g_y15 : n0 ≤ y15 := ng_y15
 have sz_y15 : h0.size ≤ y15 := Nat.le_trans K0.1 sz0_y15
 have ne_a1_y15a : a1 ≠ y15a := Nat.ne_of_lt (Nat.lt_of_lt_of_le E_a1.lt sz0_y15a)
 have ne_w_v_y15a : w_v ≠ y15a := Nat.ne_of_lt (Nat.lt_of_lt_of_le V_v.lt sz0_y15a)
 have ne_w_NI_y15a : w_NI ≠ y15a := Nat.ne_of_lt (Nat.lt_of_lt_of_le V_NI.lt sz0_y15a)
 have ne_y8_y15a : y8 ≠ y15a := Nat.ne_of_lt (Nat.lt_of_lt_of_le V_y8.lt sz0_y15a)
 have ne_b12_y15a : b12 ≠ y15a := Nat.ne_of_lt (Nat.lt_of_lt_of_le E_b12.lt sz0_y15a)
 have ne_y14_y15a : y14 ≠ y15a := Nat.ne_of_lt (Nat.lt_of_lt_of_le V_y14.lt sz0_y15a)
 have g_y15a : n0 ≤ y15a := ng_y15a
 have sz_y15a : h0.size ≤ y15a := Nat.le_trans K0.1 sz0_y15a
 replace E_a1 := E_a1.keep K15
 replace V_v := V_v.keep K15 (ninS ne_w_v_b12 nin0)
 replace V_NI := V_NI.keep K15 (ninS ne_w_NI_b12 nin0)
 replace F_a1_a := F_a1_a.keep K15 (ninS ne_a1_b12 nin0)
 replace F_a1_v := F_a1_v.keep K15 (ninS ne_a1_b12 nin0)
 replace F_a1_s := F_a1_s.keep K15 (ninS ne_a1_b12 nin0)
 replace F_a1_m := F_a1_m.keep K15 (ninS ne_a1_b12 nin0)
 replace F_a1_i := F_a1_i.keep K15 (ninS ne_a1_b12 nin0)
 replace F_a1_h := F_a1_h.keep K15 (ninS ne_a1_b12 nin0)
 replace V_y8 := V_y8.keep K15 (ninS ne_y8_b12 nin0)
 replace E_b12 := E_b12.keep K15
 replace V_y14 := V_y14.keep K15 (ninS (Ne.symm ne_b12_y14) nin0)
 replace Z0 := Nat.le_trans Z0 K15.1
 replace K0 := K0.trans K15 (allS (Or.inr sz_b12) all0)
 have E_b12 := Q15_0
 have F_b12_keys := Q15_1
 have F_b12_this_0 := Q15_2
 have F_b12_p := Q15_3
 have F_b12_l := Q15_4
 have F_b12_next := Q15_5
 have V_y15 := Q15_6
 have V_y15a := Q15_7
 have N15 := Fr.app N14 N15q
 obtain ⟨LL15, X15, N15⟩ : ∃ LL, Stand p l e (Rm 3 5 196 46) s m #[(.ref a1), (.int p2)] below meth c T15 LL 5 196 ∧ Fr n0 LL := ⟨_, X15, N15⟩
 obtain ⟨T16, h16, X16, e16, W16, st16⟩ := putF X15 hx hZ hown (host := "") (Or.inl (wd30 hw)) Via.refl e15 F_a1_m E_a1 (Or.inl (wd31 hw)) (wd7 hw) (ty := (.object IC)) (by decide) rfl rfl (g := (mkF m 68 #[vr a1, vi p2, vi p2, us, us, us, us] [(.ref b12), (.ref a1)])) rfl rfl (hb hby d4_68)
 refine G st16 ?_
 have N16 := Fr.snoc X16 N15 g_a1
 replace E_a1 := E_a1.wr W16
 replace V_v := V_v.other W16 ne_w_v_a1
 replace V_NI := V_NI.other W16 ne_w_NI_a1
 replace F_a1_a := F_a1_a.other W16 (sn43 hw)
 replace F_a1_v := F_a1_v.other W16 (sn44 hw)
 replace F_a1_s := F_a1_s.other W16 (sn45 hw)
 replace F_a1_m := F_a1_m.same W16
 replace F_a1_i := F_a1_i.other W16 (sn46 hw)
 replace F_a1_h := F_a1_h.other W16 (sn47 hw)
 replace V_y8 := V_y8.other W16 (Ne.symm ne_a1_y8)
 replace E_b12 := E_b12.wr W16
 replace V_y14 := V_y14.other W16 (Ne.symm ne_a1_y14)
 replace F_b12_keys := F_b12_keys.other W16 (Or.inl (Ne.symm ne_a1_b12))
 replace F_b12_this_0 := F_b12_this_0.other W16 (Or.inl (Ne.symm ne_a1_b12))
 replace F_b12_p := F_b12_p.other W16 (Or.inl (Ne.symm ne_a1_b12))
 replace F_b12_l := F_b12_l.other W16 (Or.inl (Ne.symm ne_a1_b12))
 replace F_b12_next := F_b12_next.other W16 (Or.inl (Ne.symm ne_a1_b12))
 replace V_y15 := V_y15.other W16 (Ne.symm ne_a1_y15)
 replace V_y15a := V_y15a.other W16 (Ne.symm ne_a1_y15a)
 replace Z0 := Nat.le_trans Z0 (Nat.le_of_eq W16.size.symm)
 replace K0 := K0.wr W16 (Or.inl (by simp))
 refine G (fun t k => XS.goto X16.here hx rfl (pc0 := 71) (pc' := 89) rfl (hb hby d4_71) (by decide) (by decide) (XS.aloadN X16.here hx rfl (hb hby d4_89) rfl rfl k)) ?_
 show Go _ _ _ (T16.setTop (mkF m 90 #[vr a1, vi p2, vi p2, us, us, us, us] [(.ref a1)])) _
 obtain ⟨T17, X17, e17, st17⟩ := getF X16 hx hZ hown (host := "") (Or.inl (wd17 hw)) Via.refl e16 F_a1_i (g := (mkF m 90 #[vr a1, vi p2, vi p2, us, us, us, us] [(.ref a1)])) rfl rfl (hb hby d4_90)
 refine G st17 ?_
 refine G (fun t k => XS.astoreN X17.here hx rfl (hb hby d4_93) rfl rfl (l' := #[vr a1, vi p2, vi p2, vr w_NI, us, us, us]) rfl (XS.aloadN X17.here hx rfl (hb hby d4_94) rfl rfl k)) ?_
 obtain ⟨cl18, Ar18, -, Sz18, Ng18, -, -⟩ := id V_NI
 refine G (fun t k => X17.arraylength hx (by rw [e17]; exact Ar18.1) (State.isArrayOf_alike hZ.alike Ar18.2.1) (g := (mkF m 95 #[vr a1, vi p2, vi p2, vr w_NI, us, us, us] [(.ref w_NI)])) rfl rfl (hb hby d4_95) _ k) ?_
 rw [len_of Sz18 Ng18]
 refine G (fun t k => XS.istore X17.here hx rfl (hb hby d4_96) rfl (l' := #[vr a1, vi p2, vi p2, vr w_NI, vi 0, us, us]) rfl (XS.iconst X17.here hx rfl (hb hby d4_98) (XS.istore X17.here hx rfl (hb hby d4_99) rfl (l' := #[vr a1, vi p2, vi p2, vr w_NI, vi 0, vi 0, us]) rfl k))) ?_
 show Go _ _ _ (T17.setTop (mkF m 101 #[vr a1, vi p2, vi p2, vr w_NI, vi 0, vi 0, us] [])) _
 refine G (fun t k => XS.iload X17.here hx rfl (hb hby d4_101) rfl (XS.iload X17.here hx rfl (hb hby d4_103) rfl (XS.icmpYes X17.here hx rfl (pc0 := 105) (pc' := 126) rfl (hb hby d4_105) rfl (flt (by decide : ¬ ((0 : Int32) < (0 : Int32)))).2.1 (by decide) (by decide) k))) ?_
 obtain ⟨fs, hr, hrun, hended, hW, hsame⟩ := X17.leave (v := none) (fun _ => rfl)
 refine Go.fin (X17.returnOut hx Bd.returns (hb hby d4_126) hr) hrun hended ⟨_, _, rfl, ?_, ⟨_, rfl⟩, hW, hsame.mono (by decide) (by decide)⟩
 show Q4_2_2 Z a1 p2 w_v k_v w_NI k_NI hAny h0 n0 _ T17.heap _
 rw [e17]
 exact ⟨y8, b12, y14, y15, y15a, k_y8, k_y14, k_y15, k_y15a, rfl, N16, K0, g_y8, sz_y8, g_b12, sz_b12, g_y14, sz_y14, g_y15, sz_y15, g_y15a, sz_y15a, ne_y8_b12, ne_y8_y14, ne_y8_y15, ne_y8_y15a, ne_b12_y14, ne_b12_y15, ne_b12_y15a, ne_y14_y15, ne_y14_y15a, nef_y15_y15a, E_a1, F_a1_a, F_a1_v, F_a1_s, F_a1_m, F_a1_i, F_a1_h, V_y8, E_b12, V_y14, F_b12_keys, F_b12_this_0, F_b12_p, F_b12_l, F_b12_next, V_y15, V_y15a⟩
theorem d1_25 : decode cB1 25 = .ok (.aload 4, 2) := by decide +kernel
theorem d1_27 : decode cB1 27 = .ok (.iconst 2, 1) := by decide +kernel
theorem d1_28 : decode cB1 28 = .ok (.iload_n 3, 1) := by decide +kernel
theorem d1_29 : decode cB1 29 = .ok (.iastore, 1) := by decide +kernel
def Q1_3 (Z : State) (p2 : Int32) (p3 : Int32) (p4 : Int32) (h0 : Heap) (n0 : Nat) (v : Option Value) (h : Heap) (L : List Loc) : Prop := ∃ x1_3_0 : Addr, ∃ k_x1_3_0 : ClassId, v = some (.ref x1_3_0) ∧ Fr n0 L ∧ Keep h0 h [] ∧ n0 ≤ x1_3_0 ∧ h0.size ≤ x1_3_0 ∧ Arv Z h x1_3_0 k_x1_3_0 .int (3 : Int32) [(.int p2), (.int p3), (.int p4)] (.int (0 : Int32))
theorem ef1_3 (m : MethodId) (x1 : Int32) (x2 : Int32) (x3 : Int32) : entryFrame m #[(.int (3 : Int32)), (.int x1), (.int x2), (.int x3)] 5 = mkF m 0 #[.val (.int (3 : Int32)), .val (.int x1), .val (.int x2), .val (.int x3), .unset] [] := by first | (simp [entryFrame, mkF, argsToLocals, Value.category]; done) | rfl
theorem rm1_3 (l : Launch) (Z : State) (a0 : Array Value) (hw : HW a0 Z) (ws : List Jvm.Cond) (p2 : Int32) (p3 : Int32) (p4 : Int32) (h0 : Heap) (n0 : Nat) (Z0 : n0 ≤ h0.size) :
  MetFree l (⟨"com/example/bitlattice/bitlattice/eval/RelationClearPinLaw", "row", "(IIII)[I"⟩ : MethodName) (head1 (Jvm.Cond.code (⟨"com/example/bitlattice/bitlattice/eval/RelationClearPinLaw", "row", "(IIII)[I"⟩ : MethodName) cB1 5 (some (.array .int)) :: ws) (Rm 0 1 3 0)) (Pr Z h0 #[(.int (3 : Int32)), (.int p2), (.int p3), (.int p4)]) Tr (fun _ U o U' => ∃ v L, o = .returned v ∧ Q1_3 Z p2 p3 p4 h0 n0 v U'.heap L ∧ FrameEnd U o U' L (Rm 0 1 3 0).cells (Rm 0 1 3 0).slots) := by
 refine MetFree.of_bodySF (plainFor_of_name pn5) hisR ?_
 intro p e s m args below meth c s₁ Bd hml0 hP hK
 obtain ⟨rfl, hZ, hh⟩ := hP
 have hx := Bd.exec
 have hby := Bd.bytes
 have hml : c.maxLocals = 5 := hml0
 have hown : s.vm.findClass "com/example/bitlattice/bitlattice/eval/RelationClearPinLaw" = some m.cls := findClass_of_methodNamed Bd.named
 have hnm := (name_of_methodNamed Bd.named Bd.method).1
 have X0 : Stand p l e (Rm 0 1 3 0) s m #[(.int (3 : Int32)), (.int p2), (.int p3), (.int p4)] below meth c s₁ [] 0 0 := Stand.of_body Bd
 have e0 : s₁.heap = h0 := by rw [← hh, Bd.state]; rfl
 have N0 := Fr.nil n0
 have K0 : Keep h0 h0 [] := Keep.refl h0 _
 refine G (P := fun o U' => ∃ v L, o = .returned v ∧ Q1_3 Z p2 p3 p4 h0 n0 v U'.heap L ∧ FrameEnd s o U' L (Rm 0 1 3 0).cells (Rm 0 1 3 0).slots) (fun t k => castTop (ef1_3 m p2 p3 p4) k) ?_
 show Go _ _ _ (s₁.setTop (mkF m 0 #[vi 3, vi p2, vi p3, vi p4, us] [])) _
 refine G (fun t k => XS.iloadN X0.here hx rfl (hb hby d1_0) rfl k) ?_
 obtain ⟨T1, h1, k1, X1, e1, E1, A1, st1⟩ := newP X0 hx hZ (aty := .int) (wd5 hw) e0 (g := (mkF m 1 #[vi 3, vi p2, vi p3, vi p4, us] [(.int 3)])) rfl (hb hby d1_1) rfl (by decide) (cap := 3) (by decide) (by decide) (by decide) (by decide)
 obtain ⟨b1, g1⟩ : ∃ z, z = h0.size := ⟨_, rfl⟩
 rw [← g1] at A1 st1
 refine G st1 ?_
 have g_b1 : n0 ≤ b1 := Nat.le_trans Z0 (Nat.le_of_eq g1.symm)
 have sz_b1 : h0.size ≤ b1 := Nat.le_trans K0.1 (Nat.le_of_eq g1.symm)
 replace K0 := K0.ext E1
 replace Z0 := Nat.le_trans Z0 E1.1
 have V_b1 : Arv Z h1 b1 k1 .int (3 : Int32) [(.int (0 : Int32)), (.int (0 : Int32)), (.int (0 : Int32))] (.int (0 : Int32)) := (Arv.new A1 (by decide)).pad (pad_rep [] (.int (0 : Int32)) 3)
 refine G (fun t k => XS.astore X1.here hx rfl (hb hby d1_3) rfl rfl (l' := #[vi 3, vi p2, vi p3, vi p4, vr b1]) rfl (XS.aload X1.here hx rfl (hb hby d1_5) rfl rfl (XS.iconst X1.here hx rfl (hb hby d1_7) (XS.iloadN X1.here hx rfl (hb hby d1_8) rfl k)))) ?_
 obtain ⟨cl2, Ar2, qq2, Sz2, Ng2, Hs2, Gs2⟩ := id V_b1
 have hin2 : ¬ ((0 : Int32) < 0 ∨ cl2.slots.size ≤ ((0 : Int32)).toNatClampNeg) := inb_of Sz2 ⟨by decide, by decide⟩
 obtain ⟨T3, h3, X3, e3, W3, st3⟩ := stI X1 hx hZ e1 Ar2 (j := (0 : Int32)) hin2 (g := (mkF m 9 #[vi 3, vi p2, vi p3, vi p4, vr b1] [(.int p2), (.int 0), (.ref b1)])) rfl rfl (hb hby d1_9)
 refine G st3 ?_
 have N3 := Fr.snoc X3 N0 g_b1
 replace Z0 := Nat.le_trans Z0 (Nat.le_of_eq W3.size.symm)
 replace K0 := K0.wr W3 (Or.inr sz_b1)
 replace V_b1 : Arv Z h3 b1 k1 .int (3 : Int32) [(.int p2), (.int (0 : Int32)), (.int (0 : Int32))] (.int (0 : Int32)) := Arv.set Ar2 qq2 Sz2 Ng2 Hs2 Gs2 rfl W3 0 rfl (Nat.le_of_ble_eq_true rfl)
 show Go _ _ _ (T3.setTop (mkF m 10 #[vi 3, vi p2, vi p3, vi p4, vr b1] [])) _
 refine G (fun t k => XS.iloadN X3.here hx rfl (hb hby d1_10) rfl (XS.iconst X3.here hx rfl (hb hby d1_11) (XS.icmpNo X3.here hx rfl (hb hby d1_12) rfl (tlt (by decide : (1 : Int32) < (3 : Int32))).2.2.2 (XS.aload X3.here hx rfl (hb hby d1_15) rfl rfl (XS.iconst X3.here hx rfl (hb hby d1_17) (XS.iloadN X3.here hx rfl (hb hby d1_18) rfl k)))))) ?_
 obtain ⟨cl4, Ar4, qq4, Sz4, Ng4, Hs4, Gs4⟩ := id V_b1
 have hin4 : ¬ ((1 : Int32) < 0 ∨ cl4.slots.size ≤ ((1 : Int32)).toNatClampNeg) := inb_of Sz4 ⟨by decide, by decide⟩
 obtain ⟨T5, h5, X5, e5, W5, st5⟩ := stI X3 hx hZ e3 Ar4 (j := (1 : Int32)) hin4 (g := (mkF m 19 #[vi 3, vi p2, vi p3, vi p4, vr b1] [(.int p3), (.int 1), (.ref b1)])) rfl rfl (hb hby d1_19)
 refine G st5 ?_
 have N5 := Fr.snoc X5 N3 g_b1
 replace Z0 := Nat.le_trans Z0 (Nat.le_of_eq W5.size.symm)
 replace K0 := K0.wr W5 (Or.inr sz_b1)
 replace V_b1 : Arv Z h5 b1 k1 .int (3 : Int32) [(.int p2), (.int p3), (.int (0 : Int32))] (.int (0 : Int32)) := Arv.set Ar4 qq4 Sz4 Ng4 Hs4 Gs4 rfl W5 1 rfl (Nat.le_of_ble_eq_true rfl)
 show Go _ _ _ (T5.setTop (mkF m 20 #[vi 3, vi p2, vi p3, vi p4, vr b1] [])) _
 refine G (fun t k => XS.iloadN X5.here hx rfl (hb hby d1_20) rfl (XS.iconst X5.here hx rfl (hb hby d1_21) (XS.icmpNo X5.here hx rfl (hb hby d1_22) rfl (tlt (by decide : (2 : Int32) < (3 : Int32))).2.2.2 (XS.aload X5.here hx rfl (hb hby d1_25) rfl rfl (XS.iconst X5.here hx rfl (hb hby d1_27) (XS.iloadN X5.here hx rfl (hb hby d1_28) rfl k)))))) ?_
 obtain ⟨cl6, Ar6, qq6, Sz6, Ng6, Hs6, Gs6⟩ := id V_b1
 have hin6 : ¬ ((2 : Int32) < 0 ∨ cl6.slots.size ≤ ((2 : Int32)).toNatClampNeg) := inb_of Sz6 ⟨by decide, by decide⟩
 obtain ⟨T7, h7, X7, e7, W7, st7⟩ := stI X5 hx hZ e5 Ar6 (j := (2 : Int32)) hin6 (g := (mkF m 29 #[vi 3, vi p2, vi p3, vi p4, vr b1] [(.int p4), (.int 2), (.ref b1)])) rfl rfl (hb hby d1_29)
 refine G st7 ?_
 have N7 := Fr.snoc X7 N5 g_b1
 replace Z0 := Nat.le_trans Z0 (Nat.le_of_eq W7.size.symm)
 replace K0 := K0.wr W7 (Or.inr sz_b1)
 replace V_b1 : Arv Z h7 b1 k1 .int (3 : Int32) [(.int p2), (.int p3), (.int p4)] (.int (0 : Int32)) := Arv.set Ar6 qq6 Sz6 Ng6 Hs6 Gs6 rfl W7 2 rfl (Nat.le_of_ble_eq_true rfl)
 show Go _ _ _ (T7.setTop (mkF m 30 #[vi 3, vi p2, vi p3, vi p4, vr b1] [])) _
 refine G (fun t k => XS.aload X7.here hx rfl (hb hby d1_30) rfl rfl k) ?_
 obtain ⟨fs, hr, hrun, hended, hW, hsame⟩ := X7.leave (v := some (.ref b1)) (fun h => by rw [Bd.returns] at h; cases h)
 refine Go.fin (retOut X7 hx Bd.returns rfl (Or.inr (Or.inr (Or.inr (Or.inr ⟨rfl, rfl, rfl⟩)))) (hb hby d1_32) hr) hrun hended ⟨_, _, rfl, ?_, ⟨_, rfl⟩, hW, hsame.mono (by decide) (by decide)⟩
 show Q1_3 Z p2 p3 p4 h0 n0 _ T7.heap _
 rw [e7]
 exact ⟨b1, k1, rfl, N7, K0, g_b1, sz_b1, V_b1⟩
def Q2_3 (Z : State) (a1 : Addr) (w_NI : Addr) (uI : Value) (uV : Value) (uA : Value) (h0 : Heap) (n0 : Nat) (v : Option Value) (h : Heap) (L : List Loc) : Prop := ∃ x2_3_0 : Addr, ∃ k_x2_3_0 : ClassId, v = none ∧ Fr n0 L ∧ Keep h0 h [a1] ∧ n0 ≤ x2_3_0 ∧ h0.size ≤ x2_3_0 ∧ Exa Z h a1 RC ∧ Fld Z h a1 RC "size" "I" (.int (0 : Int32)) ∧ Fld Z h a1 RC "members" RI .null ∧ Fld Z h a1 RC "holdingAny" "I" (.int (0 : Int32)) ∧ Fld Z h a1 RC "indexes" RJ (.ref w_NI) ∧ Fld Z h a1 RC "values" "[I" (.ref x2_3_0) ∧ Fld Z h a1 RC "arity" "I" (.int (3 : Int32)) ∧ Arv Z h x2_3_0 k_x2_3_0 .int (12 : Int32) [] (.int (0 : Int32))
theorem ef2_3 (m : MethodId) (x0 : Addr) : entryFrame m #[(.ref x0), (.int (3 : Int32))] 2 = mkF m 0 #[.val (.ref x0), .val (.int (3 : Int32))] [] := by first | (simp [entryFrame, mkF, argsToLocals, Value.category]; done) | rfl
theorem rm2_3 (l : Launch) (Z : State) (a0 : Array Value) (hw : HW a0 Z) (ws : List Jvm.Cond) (a1 : Addr) (w_NI : Addr) (uI : Value) (uV : Value) (uA : Value) (h0 : Heap) (n0 : Nat) (Z0 : n0 ≤ h0.size) (E_a1 : Exa Z h0 a1 RC) (S_NI : Sta Z h0 RC "NO_INDEXES" RJ (.ref w_NI)) (F_a1_s : Fld Z h0 a1 RC "size" "I" (.int (0 : Int32))) (F_a1_m : Fld Z h0 a1 RC "members" RI .null) (F_a1_h : Fld Z h0 a1 RC "holdingAny" "I" (.int (0 : Int32))) (F_a1_i : Fld Z h0 a1 RC "indexes" RJ uI) (F_a1_v : Fld Z h0 a1 RC "values" "[I" uV) (F_a1_a : Fld Z h0 a1 RC "arity" "I" uA) (g_a1 : n0 ≤ a1) :
  MetFree l (⟨RC, "<init>", "(I)V"⟩ : MethodName) (head1 (Jvm.Cond.code (⟨RC, "<init>", "(I)V"⟩ : MethodName) cB2 2 none :: ws) (Rm 1 1 12 12)) (Pr Z h0 #[(.ref a1), (.int (3 : Int32))]) Tr (fun _ U o U' => ∃ v L, o = .returned v ∧ Q2_3 Z a1 w_NI uI uV uA h0 n0 v U'.heap L ∧ FrameEnd U o U' L (Rm 1 1 12 12).cells (Rm 1 1 12 12).slots) := by
 refine MetFree.of_bodySF (plainFor_of_name pn0) hisR ?_
 intro p e s m args below meth c s₁ Bd hml0 hP hK
 obtain ⟨rfl, hZ, hh⟩ := hP
 have hx := Bd.exec
 have hby := Bd.bytes
 have hml : c.maxLocals = 2 := hml0
 have hown : s.vm.findClass RC = some m.cls := findClass_of_methodNamed Bd.named
 have hnm := (name_of_methodNamed Bd.named Bd.method).1
 have X0 : Stand p l e (Rm 1 1 12 12) s m #[(.ref a1), (.int (3 : Int32))] below meth c s₁ [] 0 0 := Stand.of_body Bd
 have e0 : s₁.heap = h0 := by rw [← hh, Bd.state]; rfl
 have N0 := Fr.nil n0
 have K0 : Keep h0 h0 [a1] := Keep.refl h0 _
 refine G (P := fun o U' => ∃ v L, o = .returned v ∧ Q2_3 Z a1 w_NI uI uV uA h0 n0 v U'.heap L ∧ FrameEnd s o U' L (Rm 1 1 12 12).cells (Rm 1 1 12 12).slots) (fun t k => castTop (ef2_3 m a1) k) ?_
 show Go _ _ _ (s₁.setTop (mkF m 0 #[vr a1, vi 3] [])) _
 refine G (fun t k => XS.aloadN X0.here hx rfl (hb hby d2_0) rfl rfl k) ?_
 obtain ⟨T1, X1, e1, st1⟩ := initO X0 hx hZ hown (wd12 hw) (wd13 hw) (wd14 hw) e0 (g := (mkF m 1 #[vr a1, vi 3] [(.ref a1)])) rfl (by rw [hml]; rfl) rfl (hb hby d2_1) (by decide) (W := 0) (by show 2 * 0 + _ ≤ _; exact Nat.le_of_eq rfl) (by decide)
 refine G st1 ?_
 refine G (fun t k => XS.aloadN X1.here hx rfl (hb hby d2_4) rfl rfl k) ?_
 obtain ⟨T2, X2, e2, st2⟩ := getS2 X1 hx hZ hown (host := "") (Or.inl (wd15 hw)) Via.refl e1 S_NI (g := (mkF m 5 #[vr a1, vi 3] [(.ref a1)])) rfl (hb hby d2_5)
 refine G st2 ?_
 obtain ⟨T3, h3, X3, e3, W3, st3⟩ := putF X2 hx hZ hown (host := "") (Or.inl (wd17 hw)) Via.refl e2 F_a1_i E_a1 (Or.inl (wd18 hw)) (wd7 hw) (ty := (.array (.object IC))) (by decide) rfl rfl (g := (mkF m 8 #[vr a1, vi 3] [(.ref w_NI), (.ref a1)])) rfl rfl (hb hby d2_8)
 refine G st3 ?_
 have N3 := Fr.snoc X3 N0 g_a1
 replace E_a1 := E_a1.wr W3
 replace S_NI := S_NI.wr W3
 replace F_a1_s := F_a1_s.other W3 (sn2 hw)
 replace F_a1_m := F_a1_m.other W3 (sn3 hw)
 replace F_a1_h := F_a1_h.other W3 (sn4 hw)
 replace F_a1_i := F_a1_i.same W3
 replace F_a1_v := F_a1_v.other W3 (sn5 hw)
 replace F_a1_a := F_a1_a.other W3 (sn6 hw)
 replace Z0 := Nat.le_trans Z0 (Nat.le_of_eq W3.size.symm)
 replace K0 := K0.wr W3 (Or.inl (by simp))
 refine G (fun t k => XS.aloadN X3.here hx rfl (hb hby d2_11) rfl rfl (XS.iloadN X3.here hx rfl (hb hby d2_12) rfl k)) ?_
 show Go _ _ _ (T3.setTop (mkF m 13 #[vr a1, vi 3] [(.int 3), (.ref a1)])) _
 obtain ⟨T4, h4, X4, e4, W4, st4⟩ := putF X3 hx hZ hown (host := "") (Or.inl (wd19 hw)) Via.refl e3 F_a1_a E_a1 (Or.inr ⟨(wd20 hw), rfl, hnm⟩) (wd7 hw) (ty := .int) (by decide) rfl rfl (g := (mkF m 13 #[vr a1, vi 3] [(.int 3), (.ref a1)])) rfl rfl (hb hby d2_13)
 refine G st4 ?_
 have N4 := Fr.snoc X4 N3 g_a1
 replace E_a1 := E_a1.wr W4
 replace S_NI := S_NI.wr W4
 replace F_a1_s := F_a1_s.other W4 (sn7 hw)
 replace F_a1_m := F_a1_m.other W4 (sn8 hw)
 replace F_a1_h := F_a1_h.other W4 (sn9 hw)
 replace F_a1_i := F_a1_i.other W4 (sn10 hw)
 replace F_a1_v := F_a1_v.other W4 (sn11 hw)
 replace F_a1_a := F_a1_a.same W4
 replace Z0 := Nat.le_trans Z0 (Nat.le_of_eq W4.size.symm)
 replace K0 := K0.wr W4 (Or.inl (by simp))
 refine G (fun t k => XS.aloadN X4.here hx rfl (hb hby d2_16) rfl rfl (XS.iloadN X4.here hx rfl (hb hby d2_17) rfl (XS.iconst X4.here hx rfl (hb hby d2_18) (XS.imul X4.here hx rfl (hb hby d2_19) rfl k)))) ?_
 obtain ⟨T5, h5, k5, X5, e5, E5, A5, st5⟩ := newP X4 hx hZ (aty := .int) (wd5 hw) e4 (g := (mkF m 20 #[vr a1, vi 3] [(.int 12), (.ref a1)])) rfl (hb hby d2_20) rfl (by decide) (cap := 12) (by decide) (by decide) (by decide) (by decide)
 obtain ⟨b5, g5⟩ : ∃ z, z = h4.size := ⟨_, rfl⟩
 rw [← g5] at A5 st5
 refine G st5 ?_
 have ne_a1_b5 : a1 ≠ b5 := Nat.ne_of_lt (Nat.lt_of_lt_of_le E_a1.lt (Nat.le_of_eq g5.symm))
 have g_b5 : n0 ≤ b5 := Nat.le_trans Z0 (Nat.le_of_eq g5.symm)
 have sz_b5 : h0.size ≤ b5 := Nat.le_trans K0.1 (Nat.le_of_eq g5.symm)
 replace E_a1 := E_a1.ext E5
 replace S_NI := S_NI.ext E5
 replace F_a1_s := F_a1_s.ext E5
 replace F_a1_m := F_a1_m.ext E5
 replace F_a1_h := F_a1_h.ext E5
 replace F_a1_i := F_a1_i.ext E5
 replace F_a1_v := F_a1_v.ext E5
 replace F_a1_a := F_a1_a.ext E5
 replace K0 := K0.ext E5
 replace Z0 := Nat.le_trans Z0 E5.1
 have V_b5 : Arv Z h5 b5 k5 .int (12 : Int32) [] (.int (0 : Int32)) := Arv.new A5 (by decide)
 obtain ⟨T6, h6, X6, e6, W6, st6⟩ := putF X5 hx hZ hown (host := "") (Or.inl (wd21 hw)) Via.refl e5 F_a1_v E_a1 (Or.inl (wd22 hw)) (wd7 hw) (ty := (.array .int)) (by decide) rfl rfl (g := (mkF m 22 #[vr a1, vi 3] [(.ref b5), (.ref a1)])) rfl rfl (hb hby d2_22)
 refine G st6 ?_
 have N6 := Fr.snoc X6 N4 g_a1
 replace E_a1 := E_a1.wr W6
 replace S_NI := S_NI.wr W6
 replace F_a1_s := F_a1_s.other W6 (sn12 hw)
 replace F_a1_m := F_a1_m.other W6 (sn13 hw)
 replace F_a1_h := F_a1_h.other W6 (sn14 hw)
 replace F_a1_i := F_a1_i.other W6 (sn15 hw)
 replace F_a1_v := F_a1_v.same W6
 replace F_a1_a := F_a1_a.other W6 (sn16 hw)
 replace V_b5 := V_b5.other W6 (Ne.symm ne_a1_b5)
 replace Z0 := Nat.le_trans Z0 (Nat.le_of_eq W6.size.symm)
 replace K0 := K0.wr W6 (Or.inl (by simp))
 show Go _ _ _ (T6.setTop (mkF m 25 #[vr a1, vi 3] [])) _
 obtain ⟨fs, hr, hrun, hended, hW, hsame⟩ := X6.leave (v := none) (fun _ => rfl)
 refine Go.fin (X6.returnOut hx Bd.returns (hb hby d2_25) hr) hrun hended ⟨_, _, rfl, ?_, ⟨_, rfl⟩, hW, hsame.mono (by decide) (by decide)⟩
 show Q2_3 Z a1 w_NI uI uV uA h0 n0 _ T6.heap _
 rw [e6]
 exact ⟨b5, k5, rfl, N6, K0, g_b5, sz_b5, E_a1, F_a1_s, F_a1_m, F_a1_h, F_a1_i, F_a1_v, F_a1_a, V_b5⟩
def Q14_3 (Z : State)  (h0 : Heap) (n0 : Nat) (v : Option Value) (h : Heap) (L : List Loc) : Prop := ∃ x14_3_0 : Addr, ∃ k_x14_3_0 : ClassId, v = some (.ref x14_3_0) ∧ Fr n0 L ∧ Keep h0 h [] ∧ n0 ≤ x14_3_0 ∧ h0.size ≤ x14_3_0 ∧ Arv Z h x14_3_0 k_x14_3_0 .int (3 : Int32) [(.int (0 : Int32)), (.int (1 : Int32)), (.int (2 : Int32))] (.int (0 : Int32))
theorem ef14_3 (m : MethodId)  : entryFrame m #[(.int (3 : Int32))] 3 = mkF m 0 #[.val (.int (3 : Int32)), .unset, .unset] [] := by first | (simp [entryFrame, mkF, argsToLocals, Value.category]; done) | rfl
theorem rm14_3 (l : Launch) (Z : State) (a0 : Array Value) (hw : HW a0 Z) (ws : List Jvm.Cond)  (h0 : Heap) (n0 : Nat) (Z0 : n0 ≤ h0.size) :
  MetFree l (⟨RC, "allPositions", "(I)[I"⟩ : MethodName) (head1 (Jvm.Cond.code (⟨RC, "allPositions", "(I)[I"⟩ : MethodName) cB14 3 (some (.array .int)) :: ws) (Rm 0 1 3 0)) (Pr Z h0 #[(.int (3 : Int32))]) Tr (fun _ U o U' => ∃ v L, o = .returned v ∧ Q14_3 Z h0 n0 v U'.heap L ∧ FrameEnd U o U' L (Rm 0 1 3 0).cells (Rm 0 1 3 0).slots) := by
 refine MetFree.of_bodySF (plainFor_of_name pn0) hisR ?_
 intro p e s m args below meth c s₁ Bd hml0 hP hK
 obtain ⟨rfl, hZ, hh⟩ := hP
 have hx := Bd.exec
 have hby := Bd.bytes
 have hml : c.maxLocals = 3 := hml0
 have hown : s.vm.findClass RC = some m.cls := findClass_of_methodNamed Bd.named
 have hnm := (name_of_methodNamed Bd.named Bd.method).1
 have X0 : Stand p l e (Rm 0 1 3 0) s m #[(.int (3 : Int32))] below meth c s₁ [] 0 0 := Stand.of_body Bd
 have e0 : s₁.heap = h0 := by rw [← hh, Bd.state]; rfl
 have N0 := Fr.nil n0
 have K0 : Keep h0 h0 [] := Keep.refl h0 _
 refine G (P := fun o U' => ∃ v L, o = .returned v ∧ Q14_3 Z h0 n0 v U'.heap L ∧ FrameEnd s o U' L (Rm 0 1 3 0).cells (Rm 0 1 3 0).slots) (fun t k => castTop (ef14_3 m ) k) ?_
 show Go _ _ _ (s₁.setTop (mkF m 0 #[vi 3, us, us] [])) _
 refine G (fun t k => XS.iloadN X0.here hx rfl (hb hby d14_0) rfl k) ?_
 obtain ⟨T1, h1, k1, X1, e1, E1, A1, st1⟩ := newP X0 hx hZ (aty := .int) (wd5 hw) e0 (g := (mkF m 1 #[vi 3, us, us] [(.int 3)])) rfl (hb hby d14_1) rfl (by decide) (cap := 3) (by decide) (by decide) (by decide) (by decide)
 obtain ⟨b1, g1⟩ : ∃ z, z = h0.size := ⟨_, rfl⟩
 rw [← g1] at A1 st1
 refine G st1 ?_
 have g_b1 : n0 ≤ b1 := Nat.le_trans Z0 (Nat.le_of_eq g1.symm)
 have sz_b1 : h0.size ≤ b1 := Nat.le_trans K0.1 (Nat.le_of_eq g1.symm)
 replace K0 := K0.ext E1
 replace Z0 := Nat.le_trans Z0 E1.1
 have V_b1 : Arv Z h1 b1 k1 .int (3 : Int32) [(.int (0 : Int32)), (.int (0 : Int32)), (.int (0 : Int32))] (.int (0 : Int32)) := (Arv.new A1 (by decide)).pad (pad_rep [] (.int (0 : Int32)) 3)
 refine G (fun t k => XS.astoreN X1.here hx rfl (hb hby d14_3) rfl rfl (l' := #[vi 3, vr b1, us]) rfl (XS.iconst X1.here hx rfl (hb hby d14_4) (XS.istoreN X1.here hx rfl (hb hby d14_5) rfl (l' := #[vi 3, vr b1, vi 0]) rfl (XS.iloadN X1.here hx rfl (hb hby d14_6) rfl (XS.iloadN X1.here hx rfl (hb hby d14_7) rfl k))))) ?_
 show Go _ _ _ (T1.setTop (mkF m 8 #[vi 3, vr b1, vi 0] [(.int 3), (.int 0)])) _
 refine G (fun t k => XS.icmpNo X1.here hx rfl (hb hby d14_8) rfl (tlt (by decide : (0 : Int32) < (3 : Int32))).2.1 (XS.aloadN X1.here hx rfl (hb hby d14_11) rfl rfl (XS.iloadN X1.here hx rfl (hb hby d14_12) rfl (XS.iloadN X1.here hx rfl (hb hby d14_13) rfl k)))) ?_
 obtain ⟨cl2, Ar2, qq2, Sz2, Ng2, Hs2, Gs2⟩ := id V_b1
 have hin2 : ¬ ((0 : Int32) < 0 ∨ cl2.slots.size ≤ ((0 : Int32)).toNatClampNeg) := inb_of Sz2 ⟨by decide, by decide⟩
 obtain ⟨T3, h3, X3, e3, W3, st3⟩ := stI X1 hx hZ e1 Ar2 (j := (0 : Int32)) hin2 (g := (mkF m 14 #[vi 3, vr b1, vi 0] [(.int 0), (.int 0), (.ref b1)])) rfl rfl (hb hby d14_14)
 refine G st3 ?_
 have N3 := Fr.snoc X3 N0 g_b1
 replace Z0 := Nat.le_trans Z0 (Nat.le_of_eq W3.size.symm)
 replace K0 := K0.wr W3 (Or.inr sz_b1)
 replace V_b1 : Arv Z h3 b1 k1 .int (3 : Int32) [(.int (0 : Int32)), (.int (0 : Int32)), (.int (0 : Int32))] (.int (0 : Int32)) := Arv.set Ar2 qq2 Sz2 Ng2 Hs2 Gs2 rfl W3 0 rfl (Nat.le_of_ble_eq_true rfl)
 refine G (fun t k => XS.iinc X3.here hx rfl (hb hby d14_15) rfl (l' := #[.val (.int (3 : Int32)), .val (.ref b1), .val (.int ((0 : Int32) + (1 : Int32)))]) rfl (XS.goto X3.here hx rfl (pc0 := 18) (pc' := 6) rfl (hb hby d14_18) (by decide) (by decide) k)) ?_
 show Go _ _ _ (T3.setTop (mkF m 6 #[vi 3, vr b1, vi 1] [])) _
 refine G (fun t k => XS.iloadN X3.here hx rfl (hb hby d14_6) rfl (XS.iloadN X3.here hx rfl (hb hby d14_7) rfl (XS.icmpNo X3.here hx rfl (hb hby d14_8) rfl (tlt (by decide : (1 : Int32) < (3 : Int32))).2.1 (XS.aloadN X3.here hx rfl (hb hby d14_11) rfl rfl (XS.iloadN X3.here hx rfl (hb hby d14_12) rfl (XS.iloadN X3.here hx rfl (hb hby d14_13) rfl k)))))) ?_
 obtain ⟨cl4, Ar4, qq4, Sz4, Ng4, Hs4, Gs4⟩ := id V_b1
 have hin4 : ¬ ((1 : Int32) < 0 ∨ cl4.slots.size ≤ ((1 : Int32)).toNatClampNeg) := inb_of Sz4 ⟨by decide, by decide⟩
 obtain ⟨T5, h5, X5, e5, W5, st5⟩ := stI X3 hx hZ e3 Ar4 (j := (1 : Int32)) hin4 (g := (mkF m 14 #[vi 3, vr b1, vi 1] [(.int 1), (.int 1), (.ref b1)])) rfl rfl (hb hby d14_14)
 refine G st5 ?_
 have N5 := Fr.snoc X5 N3 g_b1
 replace Z0 := Nat.le_trans Z0 (Nat.le_of_eq W5.size.symm)
 replace K0 := K0.wr W5 (Or.inr sz_b1)
 replace V_b1 : Arv Z h5 b1 k1 .int (3 : Int32) [(.int (0 : Int32)), (.int (1 : Int32)), (.int (0 : Int32))] (.int (0 : Int32)) := Arv.set Ar4 qq4 Sz4 Ng4 Hs4 Gs4 rfl W5 1 rfl (Nat.le_of_ble_eq_true rfl)
 show Go _ _ _ (T5.setTop (mkF m 15 #[vi 3, vr b1, vi 1] [])) _
 refine G (fun t k => XS.iinc X5.here hx rfl (hb hby d14_15) rfl (l' := #[.val (.int (3 : Int32)), .val (.ref b1), .val (.int ((1 : Int32) + (1 : Int32)))]) rfl (XS.goto X5.here hx rfl (pc0 := 18) (pc' := 6) rfl (hb hby d14_18) (by decide) (by decide) (XS.iloadN X5.here hx rfl (hb hby d14_6) rfl (XS.iloadN X5.here hx rfl (hb hby d14_7) rfl (XS.icmpNo X5.here hx rfl (hb hby d14_8) rfl (tlt (by decide : (2 : Int32) < (3 : Int32))).2.1 (XS.aloadN X5.here hx rfl (hb hby d14_11) rfl rfl k)))))) ?_
 refine G (fun t k => XS.iloadN X5.here hx rfl (hb hby d14_12) rfl k) ?_
 show Go _ _ _ (T5.setTop (mkF m 13 #[vi 3, vr b1, vi 2] [(.int 2), (.ref b1)])) _
 refine G (fun t k => XS.iloadN X5.here hx rfl (hb hby d14_13) rfl k) ?_
 obtain ⟨cl6, Ar6, qq6, Sz6, Ng6, Hs6, Gs6⟩ := id V_b1
 have hin6 : ¬ ((2 : Int32) < 0 ∨ cl6.slots.size ≤ ((2 : Int32)).toNatClampNeg) := inb_of Sz6 ⟨by decide, by decide⟩
 obtain ⟨T7, h7, X7, e7, W7, st7⟩ := stI X5 hx hZ e5 Ar6 (j := (2 : Int32)) hin6 (g := (mkF m 14 #[vi 3, vr b1, vi 2] [(.int 2), (.int 2), (.ref b1)])) rfl rfl (hb hby d14_14)
 refine G st7 ?_
 have N7 := Fr.snoc X7 N5 g_b1
 replace Z0 := Nat.le_trans Z0 (Nat.le_of_eq W7.size.symm)
 replace K0 := K0.wr W7 (Or.inr sz_b1)
 replace V_b1 : Arv Z h7 b1 k1 .int (3 : Int32) [(.int (0 : Int32)), (.int (1 : Int32)), (.int (2 : Int32))] (.int (0 : Int32)) := Arv.set Ar6 qq6 Sz6 Ng6 Hs6 Gs6 rfl W7 2 rfl (Nat.le_of_ble_eq_true rfl)
 refine G (fun t k => XS.iinc X7.here hx rfl (hb hby d14_15) rfl (l' := #[.val (.int (3 : Int32)), .val (.ref b1), .val (.int ((2 : Int32) + (1 : Int32)))]) rfl (XS.goto X7.here hx rfl (pc0 := 18) (pc' := 6) rfl (hb hby d14_18) (by decide) (by decide) (XS.iloadN X7.here hx rfl (hb hby d14_6) rfl (XS.iloadN X7.here hx rfl (hb hby d14_7) rfl (XS.icmpYes X7.here hx rfl (pc0 := 8) (pc' := 21) rfl (hb hby d14_8) rfl (flt (by decide : ¬ ((3 : Int32) < (3 : Int32)))).2.1 (by decide) (by decide) k))))) ?_
 show Go _ _ _ (T7.setTop (mkF m 21 #[vi 3, vr b1, vi 3] [])) _
 refine G (fun t k => XS.aloadN X7.here hx rfl (hb hby d14_21) rfl rfl k) ?_
 obtain ⟨fs, hr, hrun, hended, hW, hsame⟩ := X7.leave (v := some (.ref b1)) (fun h => by rw [Bd.returns] at h; cases h)
 refine Go.fin (retOut X7 hx Bd.returns rfl (Or.inr (Or.inr (Or.inr (Or.inr ⟨rfl, rfl, rfl⟩)))) (hb hby d14_22) hr) hrun hended ⟨_, _, rfl, ?_, ⟨_, rfl⟩, hW, hsame.mono (by decide) (by decide)⟩
 show Q14_3 Z h0 n0 _ T7.heap _
 rw [e7]
 exact ⟨b1, k1, rfl, N7, K0, g_b1, sz_b1, V_b1⟩
def Q12_3 (Z : State) (a1 : Addr) (p2 : Int32) (k_v : ClassId) (h0 : Heap) (n0 : Nat) (v : Option Value) (h : Heap) (L : List Loc) : Prop := ∃ x12_3_0 : Addr, ∃ k_x12_3_0 : ClassId, v = some (.ref x12_3_0) ∧ Fr n0 L ∧ Keep h0 h [] ∧ n0 ≤ x12_3_0 ∧ h0.size ≤ x12_3_0 ∧ Arv Z h x12_3_0 k_x12_3_0 .int p2 [(.int (0 : Int32)), (.int (0 : Int32)), (.int (0 : Int32)), (.int (0 : Int32)), (.int (0 : Int32)), (.int (0 : Int32)), (.int (0 : Int32)), (.int (0 : Int32)), (.int (0 : Int32)), (.int (0 : Int32)), (.int (0 : Int32)), (.int (0 : Int32))] (.int (0 : Int32))
theorem ef12_3 (m : MethodId) (x0 : Addr) (x1 : Int32) : entryFrame m #[(.ref x0), (.int x1)] 3 = mkF m 0 #[.val (.ref x0), .val (.int x1), .unset] [] := by first | (simp [entryFrame, mkF, argsToLocals, Value.category]; done) | rfl
theorem rm12_3 (l : Launch) (Z : State) (a0 : Array Value) (hw : HW a0 Z) (ws : List Jvm.Cond) (a1 : Addr) (p2 : Int32) (k_v : ClassId) (h0 : Heap) (n0 : Nat) (Z0 : n0 ≤ h0.size) (V_a1 : Arv Z h0 a1 k_v .int (12 : Int32) [] (.int (0 : Int32))) (h4 : (12 : Int32) < p2) (h45 : p2.toInt ≤ 45) :
  MetFree l (⟨"java/util/Arrays", "copyOf", "([II)[I"⟩ : MethodName) (head1 (Jvm.Cond.code (⟨"java/util/Arrays", "copyOf", "([II)[I"⟩ : MethodName) cB12 3 (some (.array .int)) :: ws) (Rm 1 1 45 18)) (Pr Z h0 #[(.ref a1), (.int p2)]) Tr (fun _ U o U' => ∃ v L, o = .returned v ∧ Q12_3 Z a1 p2 k_v h0 n0 v U'.heap L ∧ FrameEnd U o U' L (Rm 1 1 45 18).cells (Rm 1 1 45 18).slots) := by
 refine MetFree.of_bodySF (plainFor_of_name pn6) hisR ?_
 intro p e s m args below meth c s₁ Bd hml0 hP hK
 obtain ⟨rfl, hZ, hh⟩ := hP
 have hx := Bd.exec
 have hby := Bd.bytes
 have hml : c.maxLocals = 3 := hml0
 have hown : s.vm.findClass "java/util/Arrays" = some m.cls := findClass_of_methodNamed Bd.named
 have hnm := (name_of_methodNamed Bd.named Bd.method).1
 have X0 : Stand p l e (Rm 1 1 45 18) s m #[(.ref a1), (.int p2)] below meth c s₁ [] 0 0 := Stand.of_body Bd
 have e0 : s₁.heap = h0 := by rw [← hh, Bd.state]; rfl
 have N0 := Fr.nil n0
 have K0 : Keep h0 h0 [] := Keep.refl h0 _
 refine G (P := fun o U' => ∃ v L, o = .returned v ∧ Q12_3 Z a1 p2 k_v h0 n0 v U'.heap L ∧ FrameEnd s o U' L (Rm 1 1 45 18).cells (Rm 1 1 45 18).slots) (fun t k => castTop (ef12_3 m a1 p2) k) ?_
 show Go _ _ _ (s₁.setTop (mkF m 0 #[vr a1, vi p2, us] [])) _
 refine G (fun t k => XS.iloadN X0.here hx rfl (hb hby d12_0) rfl (XS.aloadN X0.here hx rfl (hb hby d12_1) rfl rfl k)) ?_
 obtain ⟨cl1, Ar1, -, Sz1, Ng1, -, -⟩ := id V_a1
 refine G (fun t k => X0.arraylength hx (by rw [e0]; exact Ar1.1) (State.isArrayOf_alike hZ.alike Ar1.2.1) (g := (mkF m 2 #[vr a1, vi p2, us] [(.ref a1), (.int p2)])) rfl rfl (hb hby d12_2) _ k) ?_
 rw [len_of Sz1 Ng1]
 have hf2 : ¬ (p2 = (12 : Int32)) := fun z => by rw [z] at h4; exact absurd h4 (by decide)
 refine G (fun t k => XS.icmpYes X0.here hx rfl (pc0 := 3) (pc' := 14) rfl (hb hby d12_3) rfl (feq hf2).2 (by decide) (by decide) (XS.iloadN X0.here hx rfl (hb hby d12_14) rfl k)) ?_
 obtain ⟨T3, h3, k3, X3, e3, E3, A3, st3⟩ := newP X0 hx hZ (aty := .int) (wd5 hw) e0 (g := (mkF m 15 #[vr a1, vi p2, us] [(.int p2)])) rfl (hb hby d12_15) rfl (own_nl 0 (12 : Int32) _ (by decide) (own_ge h4)) (cap := 45) (by simp only [Int32.toNatClampNeg]; omega) (by decide) (by decide) (by decide)
 obtain ⟨b3, g3⟩ : ∃ z, z = h0.size := ⟨_, rfl⟩
 rw [← g3] at A3 st3
 refine G st3 ?_
 have ne_a1_b3 : a1 ≠ b3 := Nat.ne_of_lt (Nat.lt_of_lt_of_le V_a1.lt (Nat.le_of_eq g3.symm))
 have g_b3 : n0 ≤ b3 := Nat.le_trans Z0 (Nat.le_of_eq g3.symm)
 have sz_b3 : h0.size ≤ b3 := Nat.le_trans K0.1 (Nat.le_of_eq g3.symm)
 replace V_a1 := V_a1.ext E3
 replace K0 := K0.ext E3
 replace Z0 := Nat.le_trans Z0 E3.1
 have V_b3 : Arv Z h3 b3 k3 .int p2 [] (.int (0 : Int32)) := Arv.new A3 (own_nl 0 (12 : Int32) _ (by decide) (own_ge h4))
 refine G (fun t k => XS.astoreN X3.here hx rfl (hb hby d12_17) rfl rfl (l' := #[vr a1, vi p2, vr b3]) rfl k) ?_
 show Go _ _ _ (T3.setTop (mkF m 18 #[vr a1, vi p2, vr b3] [])) _
 refine G (fun t k => XS.aloadN X3.here hx rfl (hb hby d12_18) rfl rfl (XS.iconst X3.here hx rfl (hb hby d12_19) (XS.aloadN X3.here hx rfl (hb hby d12_20) rfl rfl (XS.iconst X3.here hx rfl (hb hby d12_21) (XS.aloadN X3.here hx rfl (hb hby d12_22) rfl rfl k))))) ?_
 obtain ⟨cl4, Ar4, -, Sz4, Ng4, -, -⟩ := id V_a1
 refine G (fun t k => X3.arraylength hx (by rw [e3]; exact Ar4.1) (State.isArrayOf_alike hZ.alike Ar4.2.1) (g := (mkF m 23 #[vr a1, vi p2, vr b3] [(.ref a1), (.int 0), (.ref b3), (.int 0), (.ref a1)])) rfl rfl (hb hby d12_23) _ k) ?_
 rw [len_of Sz4 Ng4]
 refine G (fun t k => XS.iloadN X3.here hx rfl (hb hby d12_24) rfl k) ?_
 show Go _ _ _ (T3.setTop (mkF m 25 #[vr a1, vi p2, vr b3] [(.int p2), (.int 12), (.int 0), (.ref b3), (.int 0), (.ref a1)])) _
 obtain ⟨_, _, ⟨T5, L5, k5, n5⟩, -, X5, ⟨Lc5, hQ5, l5, y5, z5⟩, st5⟩ := Jvm.LawKit.callS X3 hx (y := (⟨"java/lang/Math", "min", "(II)I"⟩ : MethodName)) hown (mvT hZ (wd78 hw)) (mvT hZ (wd79 hw)) (mvT hZ (wd80 hw)) (mvT hZ (wd81 hw)) (by decide) (backOf (W := 4) (rm13 l Z a0 hw [] (12 : Int32) p2 h3 n0 Z0) hZ (wd81 hw) (wd80 hw) (by decide) (by decide)) (g := (mkF m 25 #[vr a1, vi p2, vr b3] [(.int p2), (.int 12), (.int 0), (.ref b3), (.int 0), (.ref a1)])) rfl (by rw [hml]; rfl) (argsL := [(.int (12 : Int32)), (.int p2)]) (rest := [(.int (0 : Int32)), (.ref b3), (.int (0 : Int32)), (.ref a1)]) (lenOf pd2 rfl) rfl (by show 2 * 0 + _ ≤ _; exact Nat.le_of_eq rfl) (hb hby d12_25) (fun _ _ => ⟨rfl, e3, (by decide : 1 + 0 ≤ _), (by decide : 45 + 0 ≤ _)⟩)
 dsimp only [Pt.U, Pt.locs, Pt.cells, Pt.slots] at X5 l5 y5 z5 st5 hQ5
 subst l5 y5 z5
 refine G st5 ?_
 obtain ⟨rfl, N5q, e5⟩ := hQ5
 have N5 := Fr.app N0 N5q
 show Go _ _ _ (T5.setTop (mkF m 28 #[vr a1, vi p2, vr b3] [(.int (f13 (12 : Int32) p2)), (.int 0), (.ref b3), (.int 0), (.ref a1)])) _
 have hf6 : ¬ (p2 < (12 : Int32)) := own_ge h4
 rw [show (f13 (12 : Int32) p2) = (12 : Int32) from by unfold f13; simp only [if_neg hf6, if_true, if_false]]
 show Go _ _ _ (T5.setTop (mkF m 28 #[vr a1, vi p2, vr b3] [(.int 12), (.int 0), (.ref b3), (.int 0), (.ref a1)])) _
 replace V_a1 : Arv Z h3 a1 k_v .int (12 : Int32) [(.int (0 : Int32)), (.int (0 : Int32)), (.int (0 : Int32)), (.int (0 : Int32)), (.int (0 : Int32)), (.int (0 : Int32)), (.int (0 : Int32)), (.int (0 : Int32)), (.int (0 : Int32)), (.int (0 : Int32)), (.int (0 : Int32)), (.int (0 : Int32))] (.int (0 : Int32)) := V_a1.pad (pad_rep [] (.int (0 : Int32)) 12)
 replace V_b3 : Arv Z h3 b3 k3 .int p2 [(.int (0 : Int32)), (.int (0 : Int32)), (.int (0 : Int32)), (.int (0 : Int32)), (.int (0 : Int32)), (.int (0 : Int32)), (.int (0 : Int32)), (.int (0 : Int32)), (.int (0 : Int32)), (.int (0 : Int32)), (.int (0 : Int32)), (.int (0 : Int32))] (.int (0 : Int32)) := V_b3.pad (pad_rep [] (.int (0 : Int32)) 12)
 have V_b3_pre := V_b3
 obtain ⟨T7, h7, L7, X7, e7, N7, K7, B7, st7⟩ := cpA X5 hx hZ hown (wd82 hw) (wd45 hw) (wd43 hw) (wd44 hw) e5 V_a1 V_b3 (us := [(.int (0 : Int32)), (.int (0 : Int32)), (.int (0 : Int32)), (.int (0 : Int32)), (.int (0 : Int32)), (.int (0 : Int32)), (.int (0 : Int32)), (.int (0 : Int32)), (.int (0 : Int32)), (.int (0 : Int32)), (.int (0 : Int32)), (.int (0 : Int32))]) (Or.inl ⟨rfl, rfl⟩) (sp := (0 : Int32)) (dp := (0 : Int32)) (nn := (12 : Int32)) (by decide) (by decide) (by decide) (by decide) (own_cpl 0 12 (12 : Int32) _ (by decide) (by decide) (own_ge h4)) rfl (Nat.le_of_ble_eq_true rfl) N5 g_b3 (g := (mkF m 28 #[vr a1, vi p2, vr b3] [(.int 12), (.int 0), (.ref b3), (.int 0), (.ref a1)])) rfl (by rw [hml]; rfl) rfl (hb hby d12_28) (by decide) (W := 0) (by show 2 * 0 + _ ≤ _; exact Nat.le_of_eq rfl) (by decide)
 refine G st7 ?_
 replace V_a1 := V_a1.keep K7 (ninS ne_a1_b3 nin0)
 replace Z0 := Nat.le_trans Z0 K7.1
 replace K0 := K0.trans K7 (allS (Or.inr sz_b3) all0)
 have V_b3 : Arv Z h7 b3 k3 .int p2 [(.int (0 : Int32)), (.int (0 : Int32)), (.int (0 : Int32)), (.int (0 : Int32)), (.int (0 : Int32)), (.int (0 : Int32)), (.int (0 : Int32)), (.int (0 : Int32)), (.int (0 : Int32)), (.int (0 : Int32)), (.int (0 : Int32)), (.int (0 : Int32))] (.int (0 : Int32)) := B7
 refine G (fun t k => XS.aloadN X7.here hx rfl (hb hby d12_31) rfl rfl k) ?_
 obtain ⟨fs, hr, hrun, hended, hW, hsame⟩ := X7.leave (v := some (.ref b3)) (fun h => by rw [Bd.returns] at h; cases h)
 refine Go.fin (retOut X7 hx Bd.returns rfl (Or.inr (Or.inr (Or.inr (Or.inr ⟨rfl, rfl, rfl⟩)))) (hb hby d12_32) hr) hrun hended ⟨_, _, rfl, ?_, ⟨_, rfl⟩, hW, hsame.mono (by decide) (by decide)⟩
 show Q12_3 Z a1 p2 k_v h0 n0 _ T7.heap _
 rw [e7]
 exact ⟨b3, k3, rfl, N7, K0, g_b3, sz_b3, V_b3⟩
def f20_3 (v0 : Int32) (v1 : Int32) (v2 : Int32) : Int32 := (((((((0 : Int32) + v0) * (-1640531535 : Int32)) + v1) * (-1640531535 : Int32)) + v2) * (-1640531535 : Int32))
def Q20_3 (Z : State) (a1 : Addr) (w_rel : Addr) (w_pos : Addr) (w_sl : Addr) (w_nx : Addr) (k_p : ClassId) (k_s : ClassId) (k_n : ClassId) (w_v : Addr) (k_v : ClassId) (ln : Int32) (v0 : Int32) (v1 : Int32) (v2 : Int32) (h0 : Heap) (n0 : Nat) (v : Option Value) (h : Heap) (L : List Loc) : Prop := v = some (.int (f20_3 v0 v1 v2)) ∧ Fr n0 L ∧ h = h0
theorem ef20_3 (m : MethodId) (x0 : Addr) : entryFrame m #[(.ref x0), (.int (0 : Int32))] 7 = mkF m 0 #[.val (.ref x0), .val (.int (0 : Int32)), .unset, .unset, .unset, .unset, .unset] [] := by first | (simp [entryFrame, mkF, argsToLocals, Value.category]; done) | rfl
theorem rm20_3 (l : Launch) (Z : State) (a0 : Array Value) (hw : HW a0 Z) (ws : List Jvm.Cond) (a1 : Addr) (w_rel : Addr) (w_pos : Addr) (w_sl : Addr) (w_nx : Addr) (k_p : ClassId) (k_s : ClassId) (k_n : ClassId) (w_v : Addr) (k_v : ClassId) (ln : Int32) (v0 : Int32) (v1 : Int32) (v2 : Int32) (h0 : Heap) (n0 : Nat) (Z0 : n0 ≤ h0.size) (E_a1 : Exa Z h0 a1 IC) (F_a1_p : Fld Z h0 a1 IC "positions" "[I" (.ref w_pos)) (F_a1_l : Fld Z h0 a1 IC "slots" "[I" (.ref w_sl)) (F_a1_next : Fld Z h0 a1 IC "next" "[I" (.ref w_nx)) (F_a1_keys : Fld Z h0 a1 IC "keys" "I" (.int (0 : Int32))) (V_pos : Arv Z h0 w_pos k_p .int (3 : Int32) [(.int (0 : Int32)), (.int (1 : Int32)), (.int (2 : Int32))] (.int (0 : Int32))) (V_sl : Arh Z h0 w_sl k_s .int (128 : Int32) [] [] (.int (0 : Int32))) (V_nx : Arv Z h0 w_nx k_n .int (16 : Int32) [] (.int (0 : Int32))) (F_a1_this_0 : Fld Z h0 a1 IC "this$0" RL (.ref w_rel)) (V_v : Arv Z h0 w_v k_v .int ln [(.int v0), (.int v1), (.int v2)] (.int (0 : Int32))) (F_w_rel_v : Fld Z h0 w_rel RC "values" "[I" (.ref w_v)) (F_w_rel_a : Fld Z h0 w_rel RC "arity" "I" (.int (3 : Int32))) (hln : ¬ ln < (12 : Int32)) (ne_w_pos_a1 : w_pos ≠ a1) (ne_w_sl_a1 : w_sl ≠ a1) (ne_w_sl_w_pos : w_sl ≠ w_pos) (ne_w_nx_a1 : w_nx ≠ a1) (ne_w_nx_w_pos : w_nx ≠ w_pos) (ne_w_nx_w_sl : w_nx ≠ w_sl) (ne_w_rel_a1 : w_rel ≠ a1) (ne_w_rel_w_pos : w_rel ≠ w_pos) (ne_w_rel_w_sl : w_rel ≠ w_sl) (ne_w_rel_w_nx : w_rel ≠ w_nx) (ne_w_v_a1 : w_v ≠ a1) (ne_w_v_w_pos : w_v ≠ w_pos) (ne_w_v_w_sl : w_v ≠ w_sl) (ne_w_v_w_nx : w_v ≠ w_nx) (ne_w_v_w_rel : w_v ≠ w_rel) :
  MetFree l (⟨IC, "hash", "(I)I"⟩ : MethodName) (head1 (Jvm.Cond.code (⟨IC, "hash", "(I)I"⟩ : MethodName) cB20 7 (some .int) :: ws) (Rm 1 0 0 13)) (Pr Z h0 #[(.ref a1), (.int (0 : Int32))]) Tr (fun _ U o U' => ∃ v L, o = .returned v ∧ Q20_3 Z a1 w_rel w_pos w_sl w_nx k_p k_s k_n w_v k_v ln v0 v1 v2 h0 n0 v U'.heap L ∧ FrameEnd U o U' L (Rm 1 0 0 13).cells (Rm 1 0 0 13).slots) := by
 refine MetFree.of_bodySF (plainFor_of_name pn1) hisR ?_
 intro p e s m args below meth c s₁ Bd hml0 hP hK
 obtain ⟨rfl, hZ, hh⟩ := hP
 have hx := Bd.exec
 have hby := Bd.bytes
 have hml : c.maxLocals = 7 := hml0
 have hown : s.vm.findClass IC = some m.cls := findClass_of_methodNamed Bd.named
 have hnm := (name_of_methodNamed Bd.named Bd.method).1
 have X0 : Stand p l e (Rm 1 0 0 13) s m #[(.ref a1), (.int (0 : Int32))] below meth c s₁ [] 0 0 := Stand.of_body Bd
 have e0 : s₁.heap = h0 := by rw [← hh, Bd.state]; rfl
 have N0 := Fr.nil n0
 have K0 : Keep h0 h0 [] := Keep.refl h0 _
 refine G (P := fun o U' => ∃ v L, o = .returned v ∧ Q20_3 Z a1 w_rel w_pos w_sl w_nx k_p k_s k_n w_v k_v ln v0 v1 v2 h0 n0 v U'.heap L ∧ FrameEnd s o U' L (Rm 1 0 0 13).cells (Rm 1 0 0 13).slots) (fun t k => castTop (ef20_3 m a1) k) ?_
 show Go _ _ _ (s₁.setTop (mkF m 0 #[vr a1, vi 0, us, us, us, us, us] [])) _
 refine G (fun t k => XS.iconst X0.here hx rfl (hb hby d20_0) (XS.istoreN X0.here hx rfl (hb hby d20_1) rfl (l' := #[vr a1, vi 0, vi 0, us, us, us, us]) rfl (XS.aloadN X0.here hx rfl (hb hby d20_2) rfl rfl k))) ?_
 obtain ⟨T1, X1, e1, st1⟩ := getF X0 hx hZ hown (host := "") (Or.inl (wd95 hw)) Via.refl e0 F_a1_p (g := (mkF m 3 #[vr a1, vi 0, vi 0, us, us, us, us] [(.ref a1)])) rfl rfl (hb hby d20_3)
 refine G st1 ?_
 refine G (fun t k => XS.astoreN X1.here hx rfl (hb hby d20_6) rfl rfl (l' := #[vr a1, vi 0, vi 0, vr w_pos, us, us, us]) rfl (XS.aloadN X1.here hx rfl (hb hby d20_7) rfl rfl k)) ?_
 obtain ⟨cl2, Ar2, -, Sz2, Ng2, -, -⟩ := id V_pos
 refine G (fun t k => X1.arraylength hx (by rw [e1]; exact Ar2.1) (State.isArrayOf_alike hZ.alike Ar2.2.1) (g := (mkF m 8 #[vr a1, vi 0, vi 0, vr w_pos, us, us, us] [(.ref w_pos)])) rfl rfl (hb hby d20_8) _ k) ?_
 rw [len_of Sz2 Ng2]
 show Go _ _ _ (T1.setTop (mkF m 9 #[vr a1, vi 0, vi 0, vr w_pos, us, us, us] [(.int 3)])) _
 refine G (fun t k => XS.istore X1.here hx rfl (hb hby d20_9) rfl (l' := #[vr a1, vi 0, vi 0, vr w_pos, vi 3, us, us]) rfl (XS.iconst X1.here hx rfl (hb hby d20_11) (XS.istore X1.here hx rfl (hb hby d20_12) rfl (l' := #[vr a1, vi 0, vi 0, vr w_pos, vi 3, vi 0, us]) rfl (XS.iload X1.here hx rfl (hb hby d20_14) rfl (XS.iload X1.here hx rfl (hb hby d20_16) rfl (XS.icmpNo X1.here hx rfl (hb hby d20_18) rfl (tlt (by decide : (0 : Int32) < (3 : Int32))).2.1 k)))))) ?_
 refine G (fun t k => XS.aloadN X1.here hx rfl (hb hby d20_21) rfl rfl k) ?_
 show Go _ _ _ (T1.setTop (mkF m 22 #[vr a1, vi 0, vi 0, vr w_pos, vi 3, vi 0, us] [(.ref w_pos)])) _
 refine G (fun t k => XS.iload X1.here hx rfl (hb hby d20_22) rfl k) ?_
 obtain ⟨cl3, Ar3, -, Sz3, Ng3, Hs3, -⟩ := id V_pos
 have hin3 : ¬ ((0 : Int32) < 0 ∨ cl3.slots.size ≤ ((0 : Int32)).toNatClampNeg) := inb_of Sz3 ⟨by decide, by decide⟩
 refine G (fun t k => X1.iaload hx (j := (0 : Int32)) (v := (.int (0 : Int32))) (by rw [e1]; exact Ar3.1) (State.isArrayOf_alike hZ.alike Ar3.2.1) Ar3.2.2 hin3 (Has.at Hs3 hin3 rfl) (g := (mkF m 24 #[vr a1, vi 0, vi 0, vr w_pos, vi 3, vi 0, us] [(.int 0), (.ref w_pos)])) rfl rfl (hb hby d20_24) _ (XS.istore X1.here hx rfl (hb hby d20_25) rfl (l' := #[vr a1, vi 0, vi 0, vr w_pos, vi 3, vi 0, vi 0]) rfl (XS.iloadN X1.here hx rfl (hb hby d20_27) rfl (XS.aloadN X1.here hx rfl (hb hby d20_28) rfl rfl k)))) ?_
 obtain ⟨T4, X4, e4, st4⟩ := getF X1 hx hZ hown (host := "") (Or.inl (wd92 hw)) Via.refl e1 F_a1_this_0 (g := (mkF m 29 #[vr a1, vi 0, vi 0, vr w_pos, vi 3, vi 0, vi 0] [(.ref a1), (.int 0)])) rfl rfl (hb hby d20_29)
 refine G st4 ?_
 obtain ⟨T5, X5, e5, st5⟩ := getF X4 hx hZ hown (Or.inr (wd123 hw)) Via.refl e4 F_w_rel_v (g := (mkF m 32 #[vr a1, vi 0, vi 0, vr w_pos, vi 3, vi 0, vi 0] [(.ref w_rel), (.int 0)])) rfl rfl (hb hby d20_32)
 refine G st5 ?_
 show Go _ _ _ (T5.setTop (mkF m 35 #[vr a1, vi 0, vi 0, vr w_pos, vi 3, vi 0, vi 0] [(.ref w_v), (.int 0)])) _
 refine G (fun t k => XS.iloadN X5.here hx rfl (hb hby d20_35) rfl (XS.aloadN X5.here hx rfl (hb hby d20_36) rfl rfl k)) ?_
 obtain ⟨T6, X6, e6, st6⟩ := getF X5 hx hZ hown (host := "") (Or.inl (wd92 hw)) Via.refl e5 F_a1_this_0 (g := (mkF m 37 #[vr a1, vi 0, vi 0, vr w_pos, vi 3, vi 0, vi 0] [(.ref a1), (.int 0), (.ref w_v), (.int 0)])) rfl rfl (hb hby d20_37)
 refine G st6 ?_
 obtain ⟨T7, X7, e7, st7⟩ := getF X6 hx hZ hown (Or.inr (wd124 hw)) Via.refl e6 F_w_rel_a (g := (mkF m 40 #[vr a1, vi 0, vi 0, vr w_pos, vi 3, vi 0, vi 0] [(.ref w_rel), (.int 0), (.ref w_v), (.int 0)])) rfl rfl (hb hby d20_40)
 refine G st7 ?_
 refine G (fun t k => XS.imul X7.here hx rfl (hb hby d20_43) rfl (XS.iload X7.here hx rfl (hb hby d20_44) rfl (XS.iadd X7.here hx rfl (hb hby d20_46) rfl k))) ?_
 show Go _ _ _ (T7.setTop (mkF m 47 #[vr a1, vi 0, vi 0, vr w_pos, vi 3, vi 0, vi 0] [(.int 0), (.ref w_v), (.int 0)])) _
 obtain ⟨cl8, Ar8, -, Sz8, Ng8, Hs8, -⟩ := id V_v
 have hin8 : ¬ ((0 : Int32) < 0 ∨ cl8.slots.size ≤ ((0 : Int32)).toNatClampNeg) := inb_of Sz8 ⟨by decide, (own_ltl (0 : Int32) (12 : Int32) _ (by decide) hln)⟩
 refine G (fun t k => X7.iaload hx (j := (0 : Int32)) (v := (.int v0)) (by rw [e7]; exact Ar8.1) (State.isArrayOf_alike hZ.alike Ar8.2.1) Ar8.2.2 hin8 (Has.at Hs8 hin8 rfl) (g := (mkF m 47 #[vr a1, vi 0, vi 0, vr w_pos, vi 3, vi 0, vi 0] [(.int 0), (.ref w_v), (.int 0)])) rfl rfl (hb hby d20_47) _ k) ?_
 obtain ⟨_, _, ⟨T9, L9, k9, n9⟩, -, X9, ⟨Lc9, hQ9, l9, y9, z9⟩, st9⟩ := callSN X7 hx (y := (⟨RC, "mix", "(II)I"⟩ : MethodName)) hown (own_mvM hZ (wd125 hw)) (mvT hZ (wd126 hw)) (mvT hZ (wd8 hw)) (mvT hZ (wd127 hw)) (by decide) (backOf (W := 0) (rm21 l Z a0 hw [] (0 : Int32) v0 h0 n0 Z0) hZ (wd127 hw) (wd8 hw) (by decide) (by decide)) (g := (mkF m 48 #[vr a1, vi 0, vi 0, vr w_pos, vi 3, vi 0, vi 0] [(.int v0), (.int 0)])) rfl (by rw [hml]; rfl) (argsL := [(.int (0 : Int32)), (.int v0)]) (rest := []) (lenOf pd2 rfl) rfl (by show 2 * 0 + _ ≤ _; exact Nat.le_of_eq rfl) (hb hby d20_48) (fun _ _ => ⟨rfl, e7, (by decide : 0 + 0 ≤ _), (by decide : 0 + 0 ≤ _)⟩)
 dsimp only [Pt.U, Pt.locs, Pt.cells, Pt.slots] at X9 l9 y9 z9 st9 hQ9
 subst l9 y9 z9
 refine Go.tr st9 ?_
 obtain ⟨rfl, N9q, e9⟩ := hQ9
 have N9 := Fr.app N0 N9q
 refine G (fun t k => XS.istoreN X9.here hx rfl (hb hby d20_51) rfl (l' := #[vr a1, vi 0, vi (((0 : Int32) + v0) * (-1640531535 : Int32)), vr w_pos, vi 3, vi 0, vi 0]) rfl (XS.iinc X9.here hx rfl (hb hby d20_52) rfl (l' := #[.val (.ref a1), .val (.int (0 : Int32)), .val (.int (((0 : Int32) + v0) * (-1640531535 : Int32))), .val (.ref w_pos), .val (.int (3 : Int32)), .val (.int ((0 : Int32) + (1 : Int32))), .val (.int (0 : Int32))]) rfl (XS.goto X9.here hx rfl (pc0 := 55) (pc' := 14) rfl (hb hby d20_55) (by decide) (by decide) (XS.iload X9.here hx rfl (hb hby d20_14) rfl (XS.iload X9.here hx rfl (hb hby d20_16) rfl k))))) ?_
 show Go _ _ _ (T9.setTop (mkF m 18 #[vr a1, vi 0, vi (((0 : Int32) + v0) * (-1640531535 : Int32)), vr w_pos, vi 3, vi 1, vi 0] [(.int 3), (.int 1)])) _
 refine G (fun t k => XS.icmpNo X9.here hx rfl (hb hby d20_18) rfl (tlt (by decide : (1 : Int32) < (3 : Int32))).2.1 (XS.aloadN X9.here hx rfl (hb hby d20_21) rfl rfl (XS.iload X9.here hx rfl (hb hby d20_22) rfl k))) ?_
 obtain ⟨cl10, Ar10, -, Sz10, Ng10, Hs10, -⟩ := id V_pos
 have hin10 : ¬ ((1 : Int32) < 0 ∨ cl10.slots.size ≤ ((1 : Int32)).toNatClampNeg) := inb_of Sz10 ⟨by decide, by decide⟩
 refine G (fun t k => X9.iaload hx (j := (1 : Int32)) (v := (.int (1 : Int32))) (by rw [e9]; exact Ar10.1) (State.isArrayOf_alike hZ.alike Ar10.2.1) Ar10.2.2 hin10 (Has.at Hs10 hin10 rfl) (g := (mkF m 24 #[vr a1, vi 0, vi (((0 : Int32) + v0) * (-1640531535 : Int32)), vr w_pos, vi 3, vi 1, vi 0] [(.int 1), (.ref w_pos)])) rfl rfl (hb hby d20_24) _ (XS.istore X9.here hx rfl (hb hby d20_25) rfl (l' := #[vr a1, vi 0, vi (((0 : Int32) + v0) * (-1640531535 : Int32)), vr w_pos, vi 3, vi 1, vi 1]) rfl (XS.iloadN X9.here hx rfl (hb hby d20_27) rfl (XS.aloadN X9.here hx rfl (hb hby d20_28) rfl rfl k)))) ?_
 show Go _ _ _ (T9.setTop (mkF m 29 #[vr a1, vi 0, vi (((0 : Int32) + v0) * (-1640531535 : Int32)), vr w_pos, vi 3, vi 1, vi 1] [(.ref a1), (.int (((0 : Int32) + v0) * (-1640531535 : Int32)))])) _
 obtain ⟨T11, X11, e11, st11⟩ := getF X9 hx hZ hown (host := "") (Or.inl (wd92 hw)) Via.refl e9 F_a1_this_0 (g := (mkF m 29 #[vr a1, vi 0, vi (((0 : Int32) + v0) * (-1640531535 : Int32)), vr w_pos, vi 3, vi 1, vi 1] [(.ref a1), (.int (((0 : Int32) + v0) * (-1640531535 : Int32)))])) rfl rfl (hb hby d20_29)
 refine G st11 ?_
 obtain ⟨T12, X12, e12, st12⟩ := getF X11 hx hZ hown (Or.inr (wd123 hw)) Via.refl e11 F_w_rel_v (g := (mkF m 32 #[vr a1, vi 0, vi (((0 : Int32) + v0) * (-1640531535 : Int32)), vr w_pos, vi 3, vi 1, vi 1] [(.ref w_rel), (.int (((0 : Int32) + v0) * (-1640531535 : Int32)))])) rfl rfl (hb hby d20_32)
 refine G st12 ?_
 refine G (fun t k => XS.iloadN X12.here hx rfl (hb hby d20_35) rfl (XS.aloadN X12.here hx rfl (hb hby d20_36) rfl rfl k)) ?_
 obtain ⟨T13, X13, e13, st13⟩ := getF X12 hx hZ hown (host := "") (Or.inl (wd92 hw)) Via.refl e12 F_a1_this_0 (g := (mkF m 37 #[vr a1, vi 0, vi (((0 : Int32) + v0) * (-1640531535 : Int32)), vr w_pos, vi 3, vi 1, vi 1] [(.ref a1), (.int 0), (.ref w_v), (.int (((0 : Int32) + v0) * (-1640531535 : Int32)))])) rfl rfl (hb hby d20_37)
 refine G st13 ?_
 obtain ⟨T14, X14, e14, st14⟩ := getF X13 hx hZ hown (Or.inr (wd124 hw)) Via.refl e13 F_w_rel_a (g := (mkF m 40 #[vr a1, vi 0, vi (((0 : Int32) + v0) * (-1640531535 : Int32)), vr w_pos, vi 3, vi 1, vi 1] [(.ref w_rel), (.int 0), (.ref w_v), (.int (((0 : Int32) + v0) * (-1640531535 : Int32)))])) rfl rfl (hb hby d20_40)
 refine G st14 ?_
 refine G (fun t k => XS.imul X14.here hx rfl (hb hby d20_43) rfl k) ?_
 show Go _ _ _ (T14.setTop (mkF m 44 #[vr a1, vi 0, vi (((0 : Int32) + v0) * (-1640531535 : Int32)), vr w_pos, vi 3, vi 1, vi 1] [(.int 0), (.ref w_v), (.int (((0 : Int32) + v0) * (-1640531535 : Int32)))])) _
 refine G (fun t k => XS.iload X14.here hx rfl (hb hby d20_44) rfl (XS.iadd X14.here hx rfl (hb hby d20_46) rfl k)) ?_
 obtain ⟨cl15, Ar15, -, Sz15, Ng15, Hs15, -⟩ := id V_v
 have hin15 : ¬ ((1 : Int32) < 0 ∨ cl15.slots.size ≤ ((1 : Int32)).toNatClampNeg) := inb_of Sz15 ⟨by decide, (own_ltl (1 : Int32) (12 : Int32) _ (by decide) hln)⟩
 refine G (fun t k => X14.iaload hx (j := (1 : Int32)) (v := (.int v1)) (by rw [e14]; exact Ar15.1) (State.isArrayOf_alike hZ.alike Ar15.2.1) Ar15.2.2 hin15 (Has.at Hs15 hin15 rfl) (g := (mkF m 47 #[vr a1, vi 0, vi (((0 : Int32) + v0) * (-1640531535 : Int32)), vr w_pos, vi 3, vi 1, vi 1] [(.int 1), (.ref w_v), (.int (((0 : Int32) + v0) * (-1640531535 : Int32)))])) rfl rfl (hb hby d20_47) _ k) ?_
 obtain ⟨_, _, ⟨T16, L16, k16, n16⟩, -, X16, ⟨Lc16, hQ16, l16, y16, z16⟩, st16⟩ := callSN X14 hx (y := (⟨RC, "mix", "(II)I"⟩ : MethodName)) hown (own_mvM hZ (wd125 hw)) (mvT hZ (wd126 hw)) (mvT hZ (wd8 hw)) (mvT hZ (wd127 hw)) (by decide) (backOf (W := 0) (rm21 l Z a0 hw [] (((0 : Int32) + v0) * (-1640531535 : Int32)) v1 h0 n0 Z0) hZ (wd127 hw) (wd8 hw) (by decide) (by decide)) (g := (mkF m 48 #[vr a1, vi 0, vi (((0 : Int32) + v0) * (-1640531535 : Int32)), vr w_pos, vi 3, vi 1, vi 1] [(.int v1), (.int (((0 : Int32) + v0) * (-1640531535 : Int32)))])) rfl (by rw [hml]; rfl) (argsL := [(.int (((0 : Int32) + v0) * (-1640531535 : Int32))), (.int v1)]) (rest := []) (lenOf pd2 rfl) rfl (by show 2 * 0 + _ ≤ _; exact Nat.le_of_eq rfl) (hb hby d20_48) (fun _ _ => ⟨rfl, e14, (by decide : 0 + 0 ≤ _), (by decide : 0 + 0 ≤ _)⟩)
 dsimp only [Pt.U, Pt.locs, Pt.cells, Pt.slots] at X16 l16 y16 z16 st16 hQ16
 subst l16 y16 z16
 refine Go.tr st16 ?_
 obtain ⟨rfl, N16q, e16⟩ := hQ16
 have N16 := Fr.app N9 N16q
 refine G (fun t k => XS.istoreN X16.here hx rfl (hb hby d20_51) rfl (l' := #[vr a1, vi 0, vi (((((0 : Int32) + v0) * (-1640531535 : Int32)) + v1) * (-1640531535 : Int32)), vr w_pos, vi 3, vi 1, vi 1]) rfl (XS.iinc X16.here hx rfl (hb hby d20_52) rfl (l' := #[.val (.ref a1), .val (.int (0 : Int32)), .val (.int (((((0 : Int32) + v0) * (-1640531535 : Int32)) + v1) * (-1640531535 : Int32))), .val (.ref w_pos), .val (.int (3 : Int32)), .val (.int ((1 : Int32) + (1 : Int32))), .val (.int (1 : Int32))]) rfl (XS.goto X16.here hx rfl (pc0 := 55) (pc' := 14) rfl (hb hby d20_55) (by decide) (by decide) k))) ?_
 show Go _ _ _ (T16.setTop (mkF m 14 #[vr a1, vi 0, vi (((((0 : Int32) + v0) * (-1640531535 : Int32)) + v1) * (-1640531535 : Int32)), vr w_pos, vi 3, vi 2, vi 1] [])) _
 refine G (fun t k => XS.iload X16.here hx rfl (hb hby d20_14) rfl (XS.iload X16.here hx rfl (hb hby d20_16) rfl (XS.icmpNo X16.here hx rfl (hb hby d20_18) rfl (tlt (by decide : (2 : Int32) < (3 : Int32))).2.1 (XS.aloadN X16.here hx rfl (hb hby d20_21) rfl rfl (XS.iload X16.here hx rfl (hb hby d20_22) rfl k))))) ?_
 obtain ⟨cl17, Ar17, -, Sz17, Ng17, Hs17, -⟩ := id V_pos
 have hin17 : ¬ ((2 : Int32) < 0 ∨ cl17.slots.size ≤ ((2 : Int32)).toNatClampNeg) := inb_of Sz17 ⟨by decide, by decide⟩
 refine G (fun t k => X16.iaload hx (j := (2 : Int32)) (v := (.int (2 : Int32))) (by rw [e16]; exact Ar17.1) (State.isArrayOf_alike hZ.alike Ar17.2.1) Ar17.2.2 hin17 (Has.at Hs17 hin17 rfl) (g := (mkF m 24 #[vr a1, vi 0, vi (((((0 : Int32) + v0) * (-1640531535 : Int32)) + v1) * (-1640531535 : Int32)), vr w_pos, vi 3, vi 2, vi 1] [(.int 2), (.ref w_pos)])) rfl rfl (hb hby d20_24) _ (XS.istore X16.here hx rfl (hb hby d20_25) rfl (l' := #[vr a1, vi 0, vi (((((0 : Int32) + v0) * (-1640531535 : Int32)) + v1) * (-1640531535 : Int32)), vr w_pos, vi 3, vi 2, vi 2]) rfl k)) ?_
 show Go _ _ _ (T16.setTop (mkF m 27 #[vr a1, vi 0, vi (((((0 : Int32) + v0) * (-1640531535 : Int32)) + v1) * (-1640531535 : Int32)), vr w_pos, vi 3, vi 2, vi 2] [])) _
 refine G (fun t k => XS.iloadN X16.here hx rfl (hb hby d20_27) rfl (XS.aloadN X16.here hx rfl (hb hby d20_28) rfl rfl k)) ?_
 obtain ⟨T18, X18, e18, st18⟩ := getF X16 hx hZ hown (host := "") (Or.inl (wd92 hw)) Via.refl e16 F_a1_this_0 (g := (mkF m 29 #[vr a1, vi 0, vi (((((0 : Int32) + v0) * (-1640531535 : Int32)) + v1) * (-1640531535 : Int32)), vr w_pos, vi 3, vi 2, vi 2] [(.ref a1), (.int (((((0 : Int32) + v0) * (-1640531535 : Int32)) + v1) * (-1640531535 : Int32)))])) rfl rfl (hb hby d20_29)
 refine G st18 ?_
 obtain ⟨T19, X19, e19, st19⟩ := getF X18 hx hZ hown (Or.inr (wd123 hw)) Via.refl e18 F_w_rel_v (g := (mkF m 32 #[vr a1, vi 0, vi (((((0 : Int32) + v0) * (-1640531535 : Int32)) + v1) * (-1640531535 : Int32)), vr w_pos, vi 3, vi 2, vi 2] [(.ref w_rel), (.int (((((0 : Int32) + v0) * (-1640531535 : Int32)) + v1) * (-1640531535 : Int32)))])) rfl rfl (hb hby d20_32)
 refine G st19 ?_
 refine G (fun t k => XS.iloadN X19.here hx rfl (hb hby d20_35) rfl (XS.aloadN X19.here hx rfl (hb hby d20_36) rfl rfl k)) ?_
 obtain ⟨T20, X20, e20, st20⟩ := getF X19 hx hZ hown (host := "") (Or.inl (wd92 hw)) Via.refl e19 F_a1_this_0 (g := (mkF m 37 #[vr a1, vi 0, vi (((((0 : Int32) + v0) * (-1640531535 : Int32)) + v1) * (-1640531535 : Int32)), vr w_pos, vi 3, vi 2, vi 2] [(.ref a1), (.int 0), (.ref w_v), (.int (((((0 : Int32) + v0) * (-1640531535 : Int32)) + v1) * (-1640531535 : Int32)))])) rfl rfl (hb hby d20_37)
 refine G st20 ?_
 show Go _ _ _ (T20.setTop (mkF m 40 #[vr a1, vi 0, vi (((((0 : Int32) + v0) * (-1640531535 : Int32)) + v1) * (-1640531535 : Int32)), vr w_pos, vi 3, vi 2, vi 2] [(.ref w_rel), (.int 0), (.ref w_v), (.int (((((0 : Int32) + v0) * (-1640531535 : Int32)) + v1) * (-1640531535 : Int32)))])) _
 obtain ⟨T21, X21, e21, st21⟩ := getF X20 hx hZ hown (Or.inr (wd124 hw)) Via.refl e20 F_w_rel_a (g := (mkF m 40 #[vr a1, vi 0, vi (((((0 : Int32) + v0) * (-1640531535 : Int32)) + v1) * (-1640531535 : Int32)), vr w_pos, vi 3, vi 2, vi 2] [(.ref w_rel), (.int 0), (.ref w_v), (.int (((((0 : Int32) + v0) * (-1640531535 : Int32)) + v1) * (-1640531535 : Int32)))])) rfl rfl (hb hby d20_40)
 refine G st21 ?_
 refine G (fun t k => XS.imul X21.here hx rfl (hb hby d20_43) rfl (XS.iload X21.here hx rfl (hb hby d20_44) rfl (XS.iadd X21.here hx rfl (hb hby d20_46) rfl k))) ?_
 obtain ⟨cl22, Ar22, -, Sz22, Ng22, Hs22, -⟩ := id V_v
 have hin22 : ¬ ((2 : Int32) < 0 ∨ cl22.slots.size ≤ ((2 : Int32)).toNatClampNeg) := inb_of Sz22 ⟨by decide, (own_ltl (2 : Int32) (12 : Int32) _ (by decide) hln)⟩
 refine G (fun t k => X21.iaload hx (j := (2 : Int32)) (v := (.int v2)) (by rw [e21]; exact Ar22.1) (State.isArrayOf_alike hZ.alike Ar22.2.1) Ar22.2.2 hin22 (Has.at Hs22 hin22 rfl) (g := (mkF m 47 #[vr a1, vi 0, vi (((((0 : Int32) + v0) * (-1640531535 : Int32)) + v1) * (-1640531535 : Int32)), vr w_pos, vi 3, vi 2, vi 2] [(.int 2), (.ref w_v), (.int (((((0 : Int32) + v0) * (-1640531535 : Int32)) + v1) * (-1640531535 : Int32)))])) rfl rfl (hb hby d20_47) _ k) ?_
 obtain ⟨_, _, ⟨T23, L23, k23, n23⟩, -, X23, ⟨Lc23, hQ23, l23, y23, z23⟩, st23⟩ := callSN X21 hx (y := (⟨RC, "mix", "(II)I"⟩ : MethodName)) hown (own_mvM hZ (wd125 hw)) (mvT hZ (wd126 hw)) (mvT hZ (wd8 hw)) (mvT hZ (wd127 hw)) (by decide) (backOf (W := 0) (rm21 l Z a0 hw [] (((((0 : Int32) + v0) * (-1640531535 : Int32)) + v1) * (-1640531535 : Int32)) v2 h0 n0 Z0) hZ (wd127 hw) (wd8 hw) (by decide) (by decide)) (g := (mkF m 48 #[vr a1, vi 0, vi (((((0 : Int32) + v0) * (-1640531535 : Int32)) + v1) * (-1640531535 : Int32)), vr w_pos, vi 3, vi 2, vi 2] [(.int v2), (.int (((((0 : Int32) + v0) * (-1640531535 : Int32)) + v1) * (-1640531535 : Int32)))])) rfl (by rw [hml]; rfl) (argsL := [(.int (((((0 : Int32) + v0) * (-1640531535 : Int32)) + v1) * (-1640531535 : Int32))), (.int v2)]) (rest := []) (lenOf pd2 rfl) rfl (by show 2 * 0 + _ ≤ _; exact Nat.le_of_eq rfl) (hb hby d20_48) (fun _ _ => ⟨rfl, e21, (by decide : 0 + 0 ≤ _), (by decide : 0 + 0 ≤ _)⟩)
 dsimp only [Pt.U, Pt.locs, Pt.cells, Pt.slots] at X23 l23 y23 z23 st23 hQ23
 subst l23 y23 z23
 refine Go.tr st23 ?_
 obtain ⟨rfl, N23q, e23⟩ := hQ23
 have N23 := Fr.app N16 N23q
 refine G (fun t k => XS.istoreN X23.here hx rfl (hb hby d20_51) rfl (l' := #[vr a1, vi 0, vi (((((((0 : Int32) + v0) * (-1640531535 : Int32)) + v1) * (-1640531535 : Int32)) + v2) * (-1640531535 : Int32)), vr w_pos, vi 3, vi 2, vi 2]) rfl k) ?_
 show Go _ _ _ (T23.setTop (mkF m 52 #[vr a1, vi 0, vi (((((((0 : Int32) + v0) * (-1640531535 : Int32)) + v1) * (-1640531535 : Int32)) + v2) * (-1640531535 : Int32)), vr w_pos, vi 3, vi 2, vi 2] [])) _
 refine G (fun t k => XS.iinc X23.here hx rfl (hb hby d20_52) rfl (l' := #[.val (.ref a1), .val (.int (0 : Int32)), .val (.int (((((((0 : Int32) + v0) * (-1640531535 : Int32)) + v1) * (-1640531535 : Int32)) + v2) * (-1640531535 : Int32))), .val (.ref w_pos), .val (.int (3 : Int32)), .val (.int ((2 : Int32) + (1 : Int32))), .val (.int (2 : Int32))]) rfl (XS.goto X23.here hx rfl (pc0 := 55) (pc' := 14) rfl (hb hby d20_55) (by decide) (by decide) (XS.iload X23.here hx rfl (hb hby d20_14) rfl (XS.iload X23.here hx rfl (hb hby d20_16) rfl (XS.icmpYes X23.here hx rfl (pc0 := 18) (pc' := 58) rfl (hb hby d20_18) rfl (flt (by decide : ¬ ((3 : Int32) < (3 : Int32)))).2.1 (by decide) (by decide) (XS.iloadN X23.here hx rfl (hb hby d20_58) rfl k)))))) ?_
 obtain ⟨fs, hr, hrun, hended, hW, hsame⟩ := X23.leave (v := some (.int (((((((0 : Int32) + v0) * (-1640531535 : Int32)) + v1) * (-1640531535 : Int32)) + v2) * (-1640531535 : Int32)))) (fun h => by rw [Bd.returns] at h; cases h)
 refine Go.fin (retOut X23 hx Bd.returns rfl (Or.inl ⟨rfl, Or.inl rfl, _, rfl⟩) (hb hby d20_59) hr) hrun hended ⟨_, _, rfl, ?_, ⟨_, rfl⟩, hW, hsame.mono (by decide) (by decide)⟩
 show Q20_3 Z a1 w_rel w_pos w_sl w_nx k_p k_s k_n w_v k_v ln v0 v1 v2 h0 n0 _ T23.heap _
 rw [e23]
 exact ⟨rfl, N23, rfl⟩
def Q19_3 (Z : State) (a1 : Addr) (w_rel : Addr) (w_pos : Addr) (w_sl : Addr) (w_nx : Addr) (k_p : ClassId) (k_s : ClassId) (k_n : ClassId) (w_v : Addr) (k_v : ClassId) (ln : Int32) (v0 : Int32) (v1 : Int32) (v2 : Int32) (h0 : Heap) (n0 : Nat) (v : Option Value) (h : Heap) (L : List Loc) : Prop := v = some (.int (1 : Int32)) ∧ Fr n0 L ∧ Keep h0 h [a1, w_sl, w_nx]
theorem ef19_3 (m : MethodId) (x0 : Addr) : entryFrame m #[(.ref x0), (.int (0 : Int32))] 4 = mkF m 0 #[.val (.ref x0), .val (.int (0 : Int32)), .unset, .unset] [] := by first | (simp [entryFrame, mkF, argsToLocals, Value.category]; done) | rfl
theorem rm19_3 (l : Launch) (Z : State) (a0 : Array Value) (hw : HW a0 Z) (ws : List Jvm.Cond) (a1 : Addr) (w_rel : Addr) (w_pos : Addr) (w_sl : Addr) (w_nx : Addr) (k_p : ClassId) (k_s : ClassId) (k_n : ClassId) (w_v : Addr) (k_v : ClassId) (ln : Int32) (v0 : Int32) (v1 : Int32) (v2 : Int32) (h0 : Heap) (n0 : Nat) (Z0 : n0 ≤ h0.size) (E_a1 : Exa Z h0 a1 IC) (F_a1_p : Fld Z h0 a1 IC "positions" "[I" (.ref w_pos)) (F_a1_l : Fld Z h0 a1 IC "slots" "[I" (.ref w_sl)) (F_a1_next : Fld Z h0 a1 IC "next" "[I" (.ref w_nx)) (F_a1_keys : Fld Z h0 a1 IC "keys" "I" (.int (0 : Int32))) (V_pos : Arv Z h0 w_pos k_p .int (3 : Int32) [(.int (0 : Int32)), (.int (1 : Int32)), (.int (2 : Int32))] (.int (0 : Int32))) (V_sl : Arh Z h0 w_sl k_s .int (128 : Int32) [] [] (.int (0 : Int32))) (V_nx : Arv Z h0 w_nx k_n .int (16 : Int32) [] (.int (0 : Int32))) (F_a1_this_0 : Fld Z h0 a1 IC "this$0" RL (.ref w_rel)) (V_v : Arv Z h0 w_v k_v .int ln [(.int v0), (.int v1), (.int v2)] (.int (0 : Int32))) (F_w_rel_v : Fld Z h0 w_rel RC "values" "[I" (.ref w_v)) (F_w_rel_a : Fld Z h0 w_rel RC "arity" "I" (.int (3 : Int32))) (hln : ¬ ln < (12 : Int32)) (ne_w_pos_a1 : w_pos ≠ a1) (ne_w_sl_a1 : w_sl ≠ a1) (ne_w_sl_w_pos : w_sl ≠ w_pos) (ne_w_nx_a1 : w_nx ≠ a1) (ne_w_nx_w_pos : w_nx ≠ w_pos) (ne_w_nx_w_sl : w_nx ≠ w_sl) (ne_w_rel_a1 : w_rel ≠ a1) (ne_w_rel_w_pos : w_rel ≠ w_pos) (ne_w_rel_w_sl : w_rel ≠ w_sl) (ne_w_rel_w_nx : w_rel ≠ w_nx) (ne_w_v_a1 : w_v ≠ a1) (ne_w_v_w_pos : w_v ≠ w_pos) (ne_w_v_w_sl : w_v ≠ w_sl) (ne_w_v_w_nx : w_v ≠ w_nx) (ne_w_v_w_rel : w_v ≠ w_rel) (g_w_nx : n0 ≤ w_nx) (g_w_sl : n0 ≤ w_sl) (g_a1 : n0 ≤ a1) :
  MetFree l (⟨IC, "insertNew", "(I)Z"⟩ : MethodName) (head1 (Jvm.Cond.code (⟨IC, "insertNew", "(I)Z"⟩ : MethodName) cB19 4 (some .boolean) :: ws) (Rm 2 0 0 31)) (Pr Z h0 #[(.ref a1), (.int (0 : Int32))]) Tr (fun _ U o U' => ∃ v L, o = .returned v ∧ Q19_3 Z a1 w_rel w_pos w_sl w_nx k_p k_s k_n w_v k_v ln v0 v1 v2 h0 n0 v U'.heap L ∧ FrameEnd U o U' L (Rm 2 0 0 31).cells (Rm 2 0 0 31).slots) := by
 refine MetFree.of_bodySF (plainFor_of_name pn1) hisR ?_
 intro p e s m args below meth c s₁ Bd hml0 hP hK
 obtain ⟨rfl, hZ, hh⟩ := hP
 have hx := Bd.exec
 have hby := Bd.bytes
 have hml : c.maxLocals = 4 := hml0
 have hown : s.vm.findClass IC = some m.cls := findClass_of_methodNamed Bd.named
 have hnm := (name_of_methodNamed Bd.named Bd.method).1
 have X0 : Stand p l e (Rm 2 0 0 31) s m #[(.ref a1), (.int (0 : Int32))] below meth c s₁ [] 0 0 := Stand.of_body Bd
 have e0 : s₁.heap = h0 := by rw [← hh, Bd.state]; rfl
 have N0 := Fr.nil n0
 have K0 : Keep h0 h0 [a1, w_sl, w_nx] := Keep.refl h0 _
 refine G (P := fun o U' => ∃ v L, o = .returned v ∧ Q19_3 Z a1 w_rel w_pos w_sl w_nx k_p k_s k_n w_v k_v ln v0 v1 v2 h0 n0 v U'.heap L ∧ FrameEnd s o U' L (Rm 2 0 0 31).cells (Rm 2 0 0 31).slots) (fun t k => castTop (ef19_3 m a1) k) ?_
 show Go _ _ _ (s₁.setTop (mkF m 0 #[vr a1, vi 0, us, us] [])) _
 refine G (fun t k => XS.aloadN X0.here hx rfl (hb hby d19_0) rfl rfl (XS.iloadN X0.here hx rfl (hb hby d19_1) rfl k)) ?_
 obtain ⟨cq1, qq1, qq1'⟩ := E_a1.cell
 obtain ⟨_, _, ⟨T1, L1, k1, n1⟩, -, X1, ⟨Lc1, hQ1, l1, y1, z1⟩, st1⟩ := X0.privateBack hx (y := (⟨IC, "hash", "(I)I"⟩ : MethodName)) hown (mvT hZ (wd119 hw)) (mvT hZ (wd120 hw)) (own_selp (mvT hZ (wd84 hw)) (Cond.privateMethod_at (mvP hZ (wd121 hw) (args := #[]))) (mvT hZ (wd120 hw)) (by decide)) (Cond.privateMethod_at (mvP hZ (wd121 hw) (args := #[]))) (mvT hZ (wd122 hw)) (by decide) (backOf (W := 0) (rm20_3 l Z a0 hw [] a1 w_rel w_pos w_sl w_nx k_p k_s k_n w_v k_v ln v0 v1 v2 h0 n0 Z0 E_a1 F_a1_p F_a1_l F_a1_next F_a1_keys V_pos V_sl V_nx F_a1_this_0 V_v F_w_rel_v F_w_rel_a (by first | assumption | decide | omega) ne_w_pos_a1 ne_w_sl_a1 ne_w_sl_w_pos ne_w_nx_a1 ne_w_nx_w_pos ne_w_nx_w_sl ne_w_rel_a1 ne_w_rel_w_pos ne_w_rel_w_sl ne_w_rel_w_nx ne_w_v_a1 ne_w_v_w_pos ne_w_v_w_sl ne_w_v_w_nx ne_w_v_w_rel) hZ (wd122 hw) (wd85 hw) (by decide) (by decide)) (g := (mkF m 2 #[vr a1, vi 0, us, us] [(.int 0), (.ref a1)])) rfl (by rw [hml]; rfl) (Steps.refl _) (a := a1) (by rw [e0]; exact qq1) qq1' (argsL := [(.int (0 : Int32))]) (rest := []) (lenOf pd0 rfl) rfl (by show 2 * 0 + _ ≤ _; exact Nat.le_of_eq rfl) (hb hby d19_2) (fun _ _ => ⟨rfl, e0, (by decide : 0 + 0 ≤ _), (by decide : 0 + 0 ≤ _)⟩)
 dsimp only [Pt.U, Pt.locs, Pt.cells, Pt.slots] at X1 l1 y1 z1 st1 hQ1
 subst l1 y1 z1
 refine Go.tr st1 ?_
 obtain ⟨rfl, N1q, e1⟩ := hQ1
 have N1 := Fr.app N0 N1q
 refine G (fun t k => XS.istoreN X1.here hx rfl (hb hby d19_5) rfl (l' := #[vr a1, vi 0, vi (f20_3 v0 v1 v2), us]) rfl (XS.aloadN X1.here hx rfl (hb hby d19_6) rfl rfl (XS.iloadN X1.here hx rfl (hb hby d19_7) rfl (XS.iloadN X1.here hx rfl (hb hby d19_8) rfl k)))) ?_
 show Go _ _ _ (T1.setTop (mkF m 9 #[vr a1, vi 0, vi (f20_3 v0 v1 v2), us] [(.int (f20_3 v0 v1 v2)), (.int 0), (.ref a1)])) _
 obtain ⟨cq2, qq2, qq2'⟩ := E_a1.cell
 obtain ⟨_, _, ⟨T2, L2, k2, n2⟩, -, X2, ⟨Lc2, hQ2, l2, y2, z2⟩, st2⟩ := X1.privateBack hx (y := (⟨IC, "probe", "(II)I"⟩ : MethodName)) hown (mvT hZ (wd129 hw)) (mvT hZ (wd130 hw)) (own_selp (mvT hZ (wd84 hw)) (Cond.privateMethod_at (mvP hZ (wd131 hw) (args := #[]))) (mvT hZ (wd130 hw)) (by decide)) (Cond.privateMethod_at (mvP hZ (wd131 hw) (args := #[]))) (mvT hZ (wd132 hw)) (by decide) (backOf (W := 0) (rm22 l Z a0 hw [] a1 (f20_3 v0 v1 v2) w_sl w_nx k_s k_n h0 n0 Z0 E_a1 F_a1_l F_a1_next F_a1_keys V_sl V_nx ne_w_sl_a1 ne_w_nx_a1 ne_w_nx_w_sl) hZ (wd132 hw) (wd85 hw) (by decide) (by decide)) (g := (mkF m 9 #[vr a1, vi 0, vi (f20_3 v0 v1 v2), us] [(.int (f20_3 v0 v1 v2)), (.int 0), (.ref a1)])) rfl (by rw [hml]; rfl) (Steps.refl _) (a := a1) (by rw [e1]; exact qq2) qq2' (argsL := [(.int (0 : Int32)), (.int (f20_3 v0 v1 v2))]) (rest := []) (lenOf pd2 rfl) rfl (by show 2 * 0 + _ ≤ _; exact Nat.le_of_eq rfl) (hb hby d19_9) (fun _ _ => ⟨rfl, e1, (by decide : 0 + 0 ≤ _), (by decide : 0 + 0 ≤ _)⟩)
 dsimp only [Pt.U, Pt.locs, Pt.cells, Pt.slots] at X2 l2 y2 z2 st2 hQ2
 subst l2 y2 z2
 refine Go.tr st2 ?_
 obtain ⟨rfl, N2q, e2⟩ := hQ2
 have N2 := Fr.app N1 N2q
 refine G (fun t k => XS.istoreN X2.here hx rfl (hb hby d19_12) rfl (l' := #[vr a1, vi 0, vi (f20_3 v0 v1 v2), vi (f23 (f20_3 v0 v1 v2))]) rfl (XS.aloadN X2.here hx rfl (hb hby d19_13) rfl rfl k)) ?_
 obtain ⟨T3, X3, e3, st3⟩ := getF X2 hx hZ hown (host := "") (Or.inl (wd109 hw)) Via.refl e2 F_a1_l (g := (mkF m 14 #[vr a1, vi 0, vi (f20_3 v0 v1 v2), vi (f23 (f20_3 v0 v1 v2))] [(.ref a1)])) rfl rfl (hb hby d19_14)
 refine G st3 ?_
 refine G (fun t k => XS.iloadN X3.here hx rfl (hb hby d19_17) rfl (XS.iconst X3.here hx rfl (hb hby d19_18) (XS.iadd X3.here hx rfl (hb hby d19_19) rfl k))) ?_
 show Go _ _ _ (T3.setTop (mkF m 20 #[vr a1, vi 0, vi (f20_3 v0 v1 v2), vi (f23 (f20_3 v0 v1 v2))] [(.int ((f23 (f20_3 v0 v1 v2)) + (0 : Int32))), (.ref w_sl)])) _
 obtain ⟨cl5, Ar5, -, Sz5, Ng5, Hs5, -⟩ := id V_sl
 have hin5 : ¬ (((f23 (f20_3 v0 v1 v2)) + (0 : Int32)) < 0 ∨ cl5.slots.size ≤ (((f23 (f20_3 v0 v1 v2)) + (0 : Int32))).toNatClampNeg) := inb_of Sz5 (own_sl (f23 (f20_3 v0 v1 v2)) 0 0 rfl (by decide) (own_st _))
 refine G (fun t k => X3.iaload hx (j := ((f23 (f20_3 v0 v1 v2)) + (0 : Int32))) (v := (.int (0 : Int32))) (by rw [e3]; exact Ar5.1) (State.isArrayOf_alike hZ.alike Ar5.2.1) Ar5.2.2 hin5 (atH Hs5 hin5 rfl) (g := (mkF m 20 #[vr a1, vi 0, vi (f20_3 v0 v1 v2), vi (f23 (f20_3 v0 v1 v2))] [(.int ((f23 (f20_3 v0 v1 v2)) + (0 : Int32))), (.ref w_sl)])) rfl rfl (hb hby d19_20) _ k) ?_
 show Go _ _ _ (T3.setTop (mkF m 21 #[vr a1, vi 0, vi (f20_3 v0 v1 v2), vi (f23 (f20_3 v0 v1 v2))] [(.int 0)])) _
 refine G (fun t k => XS.ifYes X3.here hx rfl (pc0 := 21) (pc' := 26) rfl (hb hby d19_21) rfl ((if0 _ _).trans (teq (by decide : (0 : Int32) = (0 : Int32))).1) (by decide) (by decide) (XS.aloadN X3.here hx rfl (hb hby d19_26) rfl rfl (XS.iloadN X3.here hx rfl (hb hby d19_27) rfl (XS.iloadN X3.here hx rfl (hb hby d19_28) rfl (XS.iloadN X3.here hx rfl (hb hby d19_29) rfl k))))) ?_
 obtain ⟨cq6, qq6, qq6'⟩ := E_a1.cell
 obtain ⟨_, _, ⟨T6, L6, k6, n6⟩, -, X6, ⟨Lc6, hQ6, l6, y6, z6⟩, st6⟩ := X3.privateBack hx (y := (⟨IC, "take", "(III)V"⟩ : MethodName)) hown (mvT hZ (wd141 hw)) (mvT hZ (wd142 hw)) (own_selp (mvT hZ (wd84 hw)) (Cond.privateMethod_at (mvP hZ (wd143 hw) (args := #[]))) (mvT hZ (wd142 hw)) (by decide)) (Cond.privateMethod_at (mvP hZ (wd143 hw) (args := #[]))) (mvT hZ (wd144 hw)) (by decide) (backOf (W := 0) (rm24 l Z a0 hw [] a1 (f23 (f20_3 v0 v1 v2)) (f20_3 v0 v1 v2) w_sl w_nx k_s k_n h0 n0 Z0 E_a1 F_a1_l F_a1_next F_a1_keys V_sl V_nx ne_w_sl_a1 ne_w_nx_a1 ne_w_nx_w_sl (own_st _) g_w_nx g_w_sl g_a1) hZ (wd144 hw) (wd85 hw) (by decide) (by decide)) (g := (mkF m 30 #[vr a1, vi 0, vi (f20_3 v0 v1 v2), vi (f23 (f20_3 v0 v1 v2))] [(.int (f20_3 v0 v1 v2)), (.int 0), (.int (f23 (f20_3 v0 v1 v2))), (.ref a1)])) rfl (by rw [hml]; rfl) (Steps.refl _) (a := a1) (by rw [e3]; exact qq6) qq6' (argsL := [(.int (f23 (f20_3 v0 v1 v2))), (.int (0 : Int32)), (.int (f20_3 v0 v1 v2))]) (rest := []) (lenOf pd3 rfl) rfl (by show 2 * 0 + _ ≤ _; exact Nat.le_of_eq rfl) (hb hby d19_30) (fun _ _ => ⟨rfl, e3, (by decide : 0 + 0 ≤ _), (by decide : 0 + 0 ≤ _)⟩)
 dsimp only [Pt.U, Pt.locs, Pt.cells, Pt.slots] at X6 l6 y6 z6 st6 hQ6
 subst l6 y6 z6
 refine Go.tr st6 ?_
 have E_a1_pre := E_a1
 have F_a1_positions_pre := F_a1_p
 have F_a1_slots_pre := F_a1_l
 have F_a1_next_pre := F_a1_next
 have F_a1_keys_pre := F_a1_keys
 have V_sl_pre := V_sl
 have V_nx_pre := V_nx
 have F_a1_this_0_pre := F_a1_this_0
 obtain ⟨h6, e6⟩ : ∃ z, T6.heap = z := ⟨_, rfl⟩
 rw [e6] at hQ6
 obtain ⟨rfl, N6q, K6, Q6_0, Q6_1, Q6_2, Q6_3, Q6_4, Q6_5⟩ := hQ6
 replace E_a1 := E_a1.keep K6
 replace V_pos := V_pos.keep K6 (ninS (Ne.symm ne_w_nx_w_pos) (ninS (Ne.symm ne_w_sl_w_pos) (ninS ne_w_pos_a1 nin0)))
 replace V_v := V_v.keep K6 (ninS ne_w_v_w_nx (ninS ne_w_v_w_sl (ninS ne_w_v_a1 nin0)))
 replace F_w_rel_v := F_w_rel_v.keep K6 (ninS ne_w_rel_w_nx (ninS ne_w_rel_w_sl (ninS ne_w_rel_a1 nin0)))
 replace F_w_rel_a := F_w_rel_a.keep K6 (ninS ne_w_rel_w_nx (ninS ne_w_rel_w_sl (ninS ne_w_rel_a1 nin0)))
 replace Z0 := Nat.le_trans Z0 K6.1
 replace K0 := K0.trans K6 (allS (Or.inl (by simp)) (allS (Or.inl (by simp)) (allS (Or.inl (by simp)) all0)))
 have E_a1 := Q6_0
 have F_a1_l := Q6_1
 have F_a1_next := Q6_2
 have F_a1_keys := Q6_3
 have V_w_sl := Q6_4
 have V_w_nx := Q6_5
 have N6 := Fr.app N2 N6q
 refine G (fun t k => XS.iconst X6.here hx rfl (hb hby d19_33) k) ?_
 show Go _ _ _ (T6.setTop (mkF m 34 #[vr a1, vi 0, vi (f20_3 v0 v1 v2), vi (f23 (f20_3 v0 v1 v2))] [(.int 1)])) _
 obtain ⟨fs, hr, hrun, hended, hW, hsame⟩ := X6.leave (v := some (.int (1 : Int32))) (fun h => by rw [Bd.returns] at h; cases h)
 refine Go.fin (retN X6 hx (t := .boolean) Bd.returns (by simp) (hb hby d19_34) hr) hrun hended ⟨_, _, rfl, ?_, ⟨_, rfl⟩, hW, hsame.mono (by decide) (by decide)⟩
 show Q19_3 Z a1 w_rel w_pos w_sl w_nx k_p k_s k_n w_v k_v ln v0 v1 v2 h0 n0 _ T6.heap _
 rw [e6]
 exact ⟨rfl, N6, K0⟩
def f11_3 (v0 : Int32) (v1 : Int32) (v2 : Int32) (x0 : Int32) (x1 : Int32) (x2 : Int32) : Int32 := (if v0 = x0 then (if v1 = x1 then (if v2 = x2 then (1 : Int32) else (0 : Int32)) else (0 : Int32)) else (0 : Int32))
def Q11_3 (Z : State) (a1 : Addr) (a3 : Addr) (w_v : Addr) (k_v : ClassId) (ln : Int32) (v0 : Int32) (v1 : Int32) (v2 : Int32) (w_NI : Addr) (k_NI : ClassId) (hAny : Int32) (k_x : ClassId) (x0 : Int32) (x1 : Int32) (x2 : Int32) (h0 : Heap) (n0 : Nat) (v : Option Value) (h : Heap) (L : List Loc) : Prop := v = some (.int (f11_3 v0 v1 v2 x0 x1 x2)) ∧ Fr n0 L ∧ h = h0
theorem ef11_3 (m : MethodId) (x0 : Addr) (x2 : Addr) : entryFrame m #[(.ref x0), (.int (0 : Int32)), (.ref x2)] 4 = mkF m 0 #[.val (.ref x0), .val (.int (0 : Int32)), .val (.ref x2), .unset] [] := by first | (simp [entryFrame, mkF, argsToLocals, Value.category]; done) | rfl
theorem rm11_3 (l : Launch) (Z : State) (a0 : Array Value) (hw : HW a0 Z) (ws : List Jvm.Cond) (a1 : Addr) (a3 : Addr) (w_v : Addr) (k_v : ClassId) (ln : Int32) (v0 : Int32) (v1 : Int32) (v2 : Int32) (w_NI : Addr) (k_NI : ClassId) (hAny : Int32) (k_x : ClassId) (x0 : Int32) (x1 : Int32) (x2 : Int32) (h0 : Heap) (n0 : Nat) (Z0 : n0 ≤ h0.size) (E_a1 : Exa Z h0 a1 RC) (V_v : Arv Z h0 w_v k_v .int ln [(.int v0), (.int v1), (.int v2)] (.int (0 : Int32))) (V_NI : Arv Z h0 w_NI k_NI (.object IC) (0 : Int32) [] .null) (F_a1_a : Fld Z h0 a1 RC "arity" "I" (.int (3 : Int32))) (F_a1_v : Fld Z h0 a1 RC "values" "[I" (.ref w_v)) (F_a1_s : Fld Z h0 a1 RC "size" "I" (.int (1 : Int32))) (F_a1_m : Fld Z h0 a1 RC "members" RI .null) (F_a1_i : Fld Z h0 a1 RC "indexes" RJ (.ref w_NI)) (F_a1_h : Fld Z h0 a1 RC "holdingAny" "I" (.int hAny)) (V_row : Arv Z h0 a3 k_x .int (3 : Int32) [(.int x0), (.int x1), (.int x2)] (.int (0 : Int32))) (hln : ¬ ln < (12 : Int32)) (ne_w_v_a1 : w_v ≠ a1) (ne_w_NI_a1 : w_NI ≠ a1) (ne_w_NI_w_v : w_NI ≠ w_v) (ne_a3_a1 : a3 ≠ a1) (ne_a3_w_v : a3 ≠ w_v) (ne_a3_w_NI : a3 ≠ w_NI) :
  MetFree l (⟨RC, "rowIs", "(I[I)Z"⟩ : MethodName) (head1 (Jvm.Cond.code (⟨RC, "rowIs", "(I[I)Z"⟩ : MethodName) cB11 4 (some .boolean) :: ws) (Rm 0 0 0 0)) (Pr Z h0 #[(.ref a1), (.int (0 : Int32)), (.ref a3)]) Tr (fun _ U o U' => ∃ v L, o = .returned v ∧ Q11_3 Z a1 a3 w_v k_v ln v0 v1 v2 w_NI k_NI hAny k_x x0 x1 x2 h0 n0 v U'.heap L ∧ FrameEnd U o U' L (Rm 0 0 0 0).cells (Rm 0 0 0 0).slots) := by
 refine MetFree.of_bodySF (plainFor_of_name pn0) hisR ?_
 intro p e s m args below meth c s₁ Bd hml0 hP hK
 obtain ⟨rfl, hZ, hh⟩ := hP
 have hx := Bd.exec
 have hby := Bd.bytes
 have hml : c.maxLocals = 4 := hml0
 have hown : s.vm.findClass RC = some m.cls := findClass_of_methodNamed Bd.named
 have hnm := (name_of_methodNamed Bd.named Bd.method).1
 have X0 : Stand p l e (Rm 0 0 0 0) s m #[(.ref a1), (.int (0 : Int32)), (.ref a3)] below meth c s₁ [] 0 0 := Stand.of_body Bd
 have e0 : s₁.heap = h0 := by rw [← hh, Bd.state]; rfl
 have N0 := Fr.nil n0
 have K0 : Keep h0 h0 [] := Keep.refl h0 _
 refine G (P := fun o U' => ∃ v L, o = .returned v ∧ Q11_3 Z a1 a3 w_v k_v ln v0 v1 v2 w_NI k_NI hAny k_x x0 x1 x2 h0 n0 v U'.heap L ∧ FrameEnd s o U' L (Rm 0 0 0 0).cells (Rm 0 0 0 0).slots) (fun t k => castTop (ef11_3 m a1 a3) k) ?_
 show Go _ _ _ (s₁.setTop (mkF m 0 #[vr a1, vi 0, vr a3, us] [])) _
 refine G (fun t k => XS.iconst X0.here hx rfl (hb hby d11_0) (XS.istoreN X0.here hx rfl (hb hby d11_1) rfl (l' := #[vr a1, vi 0, vr a3, vi 0]) rfl (XS.iloadN X0.here hx rfl (hb hby d11_2) rfl (XS.aloadN X0.here hx rfl (hb hby d11_3) rfl rfl k)))) ?_
 obtain ⟨T1, X1, e1, st1⟩ := getF X0 hx hZ hown (host := "") (Or.inl (wd19 hw)) Via.refl e0 F_a1_a (g := (mkF m 4 #[vr a1, vi 0, vr a3, vi 0] [(.ref a1), (.int 0)])) rfl rfl (hb hby d11_4)
 refine G st1 ?_
 refine G (fun t k => XS.icmpNo X1.here hx rfl (hb hby d11_7) rfl (tlt (by decide : (0 : Int32) < (3 : Int32))).2.1 (XS.aloadN X1.here hx rfl (hb hby d11_10) rfl rfl k)) ?_
 show Go _ _ _ (T1.setTop (mkF m 11 #[vr a1, vi 0, vr a3, vi 0] [(.ref a1)])) _
 obtain ⟨T2, X2, e2, st2⟩ := getF X1 hx hZ hown (host := "") (Or.inl (wd21 hw)) Via.refl e1 F_a1_v (g := (mkF m 11 #[vr a1, vi 0, vr a3, vi 0] [(.ref a1)])) rfl rfl (hb hby d11_11)
 refine G st2 ?_
 refine G (fun t k => XS.iloadN X2.here hx rfl (hb hby d11_14) rfl (XS.aloadN X2.here hx rfl (hb hby d11_15) rfl rfl k)) ?_
 obtain ⟨T3, X3, e3, st3⟩ := getF X2 hx hZ hown (host := "") (Or.inl (wd19 hw)) Via.refl e2 F_a1_a (g := (mkF m 16 #[vr a1, vi 0, vr a3, vi 0] [(.ref a1), (.int 0), (.ref w_v)])) rfl rfl (hb hby d11_16)
 refine G st3 ?_
 refine G (fun t k => XS.imul X3.here hx rfl (hb hby d11_19) rfl (XS.iloadN X3.here hx rfl (hb hby d11_20) rfl (XS.iadd X3.here hx rfl (hb hby d11_21) rfl k))) ?_
 show Go _ _ _ (T3.setTop (mkF m 22 #[vr a1, vi 0, vr a3, vi 0] [(.int 0), (.ref w_v)])) _
 obtain ⟨cl4, Ar4, -, Sz4, Ng4, Hs4, -⟩ := id V_v
 have hin4 : ¬ ((0 : Int32) < 0 ∨ cl4.slots.size ≤ ((0 : Int32)).toNatClampNeg) := inb_of Sz4 ⟨by decide, (own_ltl (0 : Int32) (12 : Int32) _ (by decide) hln)⟩
 refine G (fun t k => X3.iaload hx (j := (0 : Int32)) (v := (.int v0)) (by rw [e3]; exact Ar4.1) (State.isArrayOf_alike hZ.alike Ar4.2.1) Ar4.2.2 hin4 (Has.at Hs4 hin4 rfl) (g := (mkF m 22 #[vr a1, vi 0, vr a3, vi 0] [(.int 0), (.ref w_v)])) rfl rfl (hb hby d11_22) _ (XS.aloadN X3.here hx rfl (hb hby d11_23) rfl rfl (XS.iloadN X3.here hx rfl (hb hby d11_24) rfl k))) ?_
 obtain ⟨cl5, Ar5, -, Sz5, Ng5, Hs5, -⟩ := id V_row
 have hin5 : ¬ ((0 : Int32) < 0 ∨ cl5.slots.size ≤ ((0 : Int32)).toNatClampNeg) := inb_of Sz5 ⟨by decide, by decide⟩
 refine G (fun t k => X3.iaload hx (j := (0 : Int32)) (v := (.int x0)) (by rw [e3]; exact Ar5.1) (State.isArrayOf_alike hZ.alike Ar5.2.1) Ar5.2.2 hin5 (Has.at Hs5 hin5 rfl) (g := (mkF m 25 #[vr a1, vi 0, vr a3, vi 0] [(.int 0), (.ref a3), (.int v0)])) rfl rfl (hb hby d11_25) _ k) ?_
 by_cases hc6 : v0 = x0
 ·refine G (fun t k => XS.icmpYes X3.here hx rfl (pc0 := 26) (pc' := 31) rfl (hb hby d11_26) rfl (teq hc6).1 (by decide) (by decide) (XS.iinc X3.here hx rfl (hb hby d11_31) rfl (l' := #[.val (.ref a1), .val (.int (0 : Int32)), .val (.ref a3), .val (.int ((0 : Int32) + (1 : Int32)))]) rfl (XS.goto X3.here hx rfl (pc0 := 34) (pc' := 2) rfl (hb hby d11_34) (by decide) (by decide) k))) ?_
  show Go _ _ _ (T3.setTop (mkF m 2 #[vr a1, vi 0, vr a3, vi 1] [])) _
  refine G (fun t k => XS.iloadN X3.here hx rfl (hb hby d11_2) rfl (XS.aloadN X3.here hx rfl (hb hby d11_3) rfl rfl k)) ?_
  obtain ⟨T7, X7, e7, st7⟩ := getF X3 hx hZ hown (host := "") (Or.inl (wd19 hw)) Via.refl e3 F_a1_a (g := (mkF m 4 #[vr a1, vi 0, vr a3, vi 1] [(.ref a1), (.int 1)])) rfl rfl (hb hby d11_4)
  refine G st7 ?_
  refine G (fun t k => XS.icmpNo X7.here hx rfl (hb hby d11_7) rfl (tlt (by decide : (1 : Int32) < (3 : Int32))).2.1 (XS.aloadN X7.here hx rfl (hb hby d11_10) rfl rfl k)) ?_
  obtain ⟨T8, X8, e8, st8⟩ := getF X7 hx hZ hown (host := "") (Or.inl (wd21 hw)) Via.refl e7 F_a1_v (g := (mkF m 11 #[vr a1, vi 0, vr a3, vi 1] [(.ref a1)])) rfl rfl (hb hby d11_11)
  refine G st8 ?_
  refine G (fun t k => XS.iloadN X8.here hx rfl (hb hby d11_14) rfl k) ?_
  show Go _ _ _ (T8.setTop (mkF m 15 #[vr a1, vi 0, vr a3, vi 1] [(.int 0), (.ref w_v)])) _
  refine G (fun t k => XS.aloadN X8.here hx rfl (hb hby d11_15) rfl rfl k) ?_
  obtain ⟨T9, X9, e9, st9⟩ := getF X8 hx hZ hown (host := "") (Or.inl (wd19 hw)) Via.refl e8 F_a1_a (g := (mkF m 16 #[vr a1, vi 0, vr a3, vi 1] [(.ref a1), (.int 0), (.ref w_v)])) rfl rfl (hb hby d11_16)
  refine G st9 ?_
  refine G (fun t k => XS.imul X9.here hx rfl (hb hby d11_19) rfl (XS.iloadN X9.here hx rfl (hb hby d11_20) rfl (XS.iadd X9.here hx rfl (hb hby d11_21) rfl k))) ?_
  obtain ⟨cl10, Ar10, -, Sz10, Ng10, Hs10, -⟩ := id V_v
  have hin10 : ¬ ((1 : Int32) < 0 ∨ cl10.slots.size ≤ ((1 : Int32)).toNatClampNeg) := inb_of Sz10 ⟨by decide, (own_ltl (1 : Int32) (12 : Int32) _ (by decide) hln)⟩
  refine G (fun t k => X9.iaload hx (j := (1 : Int32)) (v := (.int v1)) (by rw [e9]; exact Ar10.1) (State.isArrayOf_alike hZ.alike Ar10.2.1) Ar10.2.2 hin10 (Has.at Hs10 hin10 rfl) (g := (mkF m 22 #[vr a1, vi 0, vr a3, vi 1] [(.int 1), (.ref w_v)])) rfl rfl (hb hby d11_22) _ (XS.aloadN X9.here hx rfl (hb hby d11_23) rfl rfl k)) ?_
  show Go _ _ _ (T9.setTop (mkF m 24 #[vr a1, vi 0, vr a3, vi 1] [(.ref a3), (.int v1)])) _
  refine G (fun t k => XS.iloadN X9.here hx rfl (hb hby d11_24) rfl k) ?_
  obtain ⟨cl11, Ar11, -, Sz11, Ng11, Hs11, -⟩ := id V_row
  have hin11 : ¬ ((1 : Int32) < 0 ∨ cl11.slots.size ≤ ((1 : Int32)).toNatClampNeg) := inb_of Sz11 ⟨by decide, by decide⟩
  refine G (fun t k => X9.iaload hx (j := (1 : Int32)) (v := (.int x1)) (by rw [e9]; exact Ar11.1) (State.isArrayOf_alike hZ.alike Ar11.2.1) Ar11.2.2 hin11 (Has.at Hs11 hin11 rfl) (g := (mkF m 25 #[vr a1, vi 0, vr a3, vi 1] [(.int 1), (.ref a3), (.int v1)])) rfl rfl (hb hby d11_25) _ k) ?_
  by_cases hc12 : v1 = x1
  ·refine G (fun t k => XS.icmpYes X9.here hx rfl (pc0 := 26) (pc' := 31) rfl (hb hby d11_26) rfl (teq hc12).1 (by decide) (by decide) (XS.iinc X9.here hx rfl (hb hby d11_31) rfl (l' := #[.val (.ref a1), .val (.int (0 : Int32)), .val (.ref a3), .val (.int ((1 : Int32) + (1 : Int32)))]) rfl (XS.goto X9.here hx rfl (pc0 := 34) (pc' := 2) rfl (hb hby d11_34) (by decide) (by decide) (XS.iloadN X9.here hx rfl (hb hby d11_2) rfl (XS.aloadN X9.here hx rfl (hb hby d11_3) rfl rfl k))))) ?_
   show Go _ _ _ (T9.setTop (mkF m 4 #[vr a1, vi 0, vr a3, vi 2] [(.ref a1), (.int 2)])) _
   obtain ⟨T13, X13, e13, st13⟩ := getF X9 hx hZ hown (host := "") (Or.inl (wd19 hw)) Via.refl e9 F_a1_a (g := (mkF m 4 #[vr a1, vi 0, vr a3, vi 2] [(.ref a1), (.int 2)])) rfl rfl (hb hby d11_4)
   refine G st13 ?_
   refine G (fun t k => XS.icmpNo X13.here hx rfl (hb hby d11_7) rfl (tlt (by decide : (2 : Int32) < (3 : Int32))).2.1 (XS.aloadN X13.here hx rfl (hb hby d11_10) rfl rfl k)) ?_
   obtain ⟨T14, X14, e14, st14⟩ := getF X13 hx hZ hown (host := "") (Or.inl (wd21 hw)) Via.refl e13 F_a1_v (g := (mkF m 11 #[vr a1, vi 0, vr a3, vi 2] [(.ref a1)])) rfl rfl (hb hby d11_11)
   refine G st14 ?_
   refine G (fun t k => XS.iloadN X14.here hx rfl (hb hby d11_14) rfl (XS.aloadN X14.here hx rfl (hb hby d11_15) rfl rfl k)) ?_
   obtain ⟨T15, X15, e15, st15⟩ := getF X14 hx hZ hown (host := "") (Or.inl (wd19 hw)) Via.refl e14 F_a1_a (g := (mkF m 16 #[vr a1, vi 0, vr a3, vi 2] [(.ref a1), (.int 0), (.ref w_v)])) rfl rfl (hb hby d11_16)
   refine G st15 ?_
   show Go _ _ _ (T15.setTop (mkF m 19 #[vr a1, vi 0, vr a3, vi 2] [(.int 3), (.int 0), (.ref w_v)])) _
   refine G (fun t k => XS.imul X15.here hx rfl (hb hby d11_19) rfl (XS.iloadN X15.here hx rfl (hb hby d11_20) rfl (XS.iadd X15.here hx rfl (hb hby d11_21) rfl k))) ?_
   obtain ⟨cl16, Ar16, -, Sz16, Ng16, Hs16, -⟩ := id V_v
   have hin16 : ¬ ((2 : Int32) < 0 ∨ cl16.slots.size ≤ ((2 : Int32)).toNatClampNeg) := inb_of Sz16 ⟨by decide, (own_ltl (2 : Int32) (12 : Int32) _ (by decide) hln)⟩
   refine G (fun t k => X15.iaload hx (j := (2 : Int32)) (v := (.int v2)) (by rw [e15]; exact Ar16.1) (State.isArrayOf_alike hZ.alike Ar16.2.1) Ar16.2.2 hin16 (Has.at Hs16 hin16 rfl) (g := (mkF m 22 #[vr a1, vi 0, vr a3, vi 2] [(.int 2), (.ref w_v)])) rfl rfl (hb hby d11_22) _ (XS.aloadN X15.here hx rfl (hb hby d11_23) rfl rfl (XS.iloadN X15.here hx rfl (hb hby d11_24) rfl k))) ?_
   obtain ⟨cl17, Ar17, -, Sz17, Ng17, Hs17, -⟩ := id V_row
   have hin17 : ¬ ((2 : Int32) < 0 ∨ cl17.slots.size ≤ ((2 : Int32)).toNatClampNeg) := inb_of Sz17 ⟨by decide, by decide⟩
   refine G (fun t k => X15.iaload hx (j := (2 : Int32)) (v := (.int x2)) (by rw [e15]; exact Ar17.1) (State.isArrayOf_alike hZ.alike Ar17.2.1) Ar17.2.2 hin17 (Has.at Hs17 hin17 rfl) (g := (mkF m 25 #[vr a1, vi 0, vr a3, vi 2] [(.int 2), (.ref a3), (.int v2)])) rfl rfl (hb hby d11_25) _ k) ?_
   show Go _ _ _ (T15.setTop (mkF m 26 #[vr a1, vi 0, vr a3, vi 2] [(.int x2), (.int v2)])) _
   by_cases hc18 : v2 = x2
   ·refine G (fun t k => XS.icmpYes X15.here hx rfl (pc0 := 26) (pc' := 31) rfl (hb hby d11_26) rfl (teq hc18).1 (by decide) (by decide) (XS.iinc X15.here hx rfl (hb hby d11_31) rfl (l' := #[.val (.ref a1), .val (.int (0 : Int32)), .val (.ref a3), .val (.int ((2 : Int32) + (1 : Int32)))]) rfl (XS.goto X15.here hx rfl (pc0 := 34) (pc' := 2) rfl (hb hby d11_34) (by decide) (by decide) (XS.iloadN X15.here hx rfl (hb hby d11_2) rfl (XS.aloadN X15.here hx rfl (hb hby d11_3) rfl rfl k))))) ?_
    obtain ⟨T19, X19, e19, st19⟩ := getF X15 hx hZ hown (host := "") (Or.inl (wd19 hw)) Via.refl e15 F_a1_a (g := (mkF m 4 #[vr a1, vi 0, vr a3, vi 3] [(.ref a1), (.int 3)])) rfl rfl (hb hby d11_4)
    refine G st19 ?_
    refine G (fun t k => XS.icmpYes X19.here hx rfl (pc0 := 7) (pc' := 37) rfl (hb hby d11_7) rfl (flt (by decide : ¬ ((3 : Int32) < (3 : Int32)))).2.1 (by decide) (by decide) k) ?_
    show Go _ _ _ (T19.setTop (mkF m 37 #[vr a1, vi 0, vr a3, vi 3] [])) _
    refine G (fun t k => XS.iconst X19.here hx rfl (hb hby d11_37) k) ?_
    obtain ⟨fs, hr, hrun, hended, hW, hsame⟩ := X19.leave (v := some (.int (1 : Int32))) (fun h => by rw [Bd.returns] at h; cases h)
    refine Go.fin (retN X19 hx (t := .boolean) Bd.returns (by simp) (hb hby d11_38) hr) hrun hended ⟨_, _, rfl, ?_, ⟨_, rfl⟩, hW, hsame.mono (by decide) (by decide)⟩
    show Q11_3 Z a1 a3 w_v k_v ln v0 v1 v2 w_NI k_NI hAny k_x x0 x1 x2 h0 n0 _ T19.heap _
    rw [e19]
    exact ⟨(by unfold f11_3; simp only [if_pos hc6, if_pos hc12, if_pos hc18]), N0, rfl⟩
   ·refine G (fun t k => XS.icmpNo X15.here hx rfl (hb hby d11_26) rfl (feq hc18).1 (XS.iconst X15.here hx rfl (hb hby d11_29) k)) ?_
    obtain ⟨fs, hr, hrun, hended, hW, hsame⟩ := X15.leave (v := some (.int (0 : Int32))) (fun h => by rw [Bd.returns] at h; cases h)
    refine Go.fin (retN X15 hx (t := .boolean) Bd.returns (by simp) (hb hby d11_30) hr) hrun hended ⟨_, _, rfl, ?_, ⟨_, rfl⟩, hW, hsame.mono (by decide) (by decide)⟩
    show Q11_3 Z a1 a3 w_v k_v ln v0 v1 v2 w_NI k_NI hAny k_x x0 x1 x2 h0 n0 _ T15.heap _
    rw [e15]
    exact ⟨(by unfold f11_3; simp only [if_pos hc6, if_pos hc12, if_neg hc18]), N0, rfl⟩
  ·refine G (fun t k => XS.icmpNo X9.here hx rfl (hb hby d11_26) rfl (feq hc12).1 (XS.iconst X9.here hx rfl (hb hby d11_29) k)) ?_
   obtain ⟨fs, hr, hrun, hended, hW, hsame⟩ := X9.leave (v := some (.int (0 : Int32))) (fun h => by rw [Bd.returns] at h; cases h)
   refine Go.fin (retN X9 hx (t := .boolean) Bd.returns (by simp) (hb hby d11_30) hr) hrun hended ⟨_, _, rfl, ?_, ⟨_, rfl⟩, hW, hsame.mono (by decide) (by decide)⟩
   show Q11_3 Z a1 a3 w_v k_v ln v0 v1 v2 w_NI k_NI hAny k_x x0 x1 x2 h0 n0 _ T9.heap _
   rw [e9]
   exact ⟨(by unfold f11_3; simp only [if_pos hc6, if_neg hc12]), N0, rfl⟩
 ·refine G (fun t k => XS.icmpNo X3.here hx rfl (hb hby d11_26) rfl (feq hc6).1 (XS.iconst X3.here hx rfl (hb hby d11_29) k)) ?_
  obtain ⟨fs, hr, hrun, hended, hW, hsame⟩ := X3.leave (v := some (.int (0 : Int32))) (fun h => by rw [Bd.returns] at h; cases h)
  refine Go.fin (retN X3 hx (t := .boolean) Bd.returns (by simp) (hb hby d11_30) hr) hrun hended ⟨_, _, rfl, ?_, ⟨_, rfl⟩, hW, hsame.mono (by decide) (by decide)⟩
  show Q11_3 Z a1 a3 w_v k_v ln v0 v1 v2 w_NI k_NI hAny k_x x0 x1 x2 h0 n0 _ T3.heap _
  rw [e3]
  exact ⟨(by unfold f11_3; simp only [if_neg hc6]), N0, rfl⟩
def Q6_3_0 (Z : State) (a1 : Addr) (a2 : Addr) (w_v : Addr) (k_v : ClassId) (ln : Int32) (v0 : Int32) (v1 : Int32) (v2 : Int32) (w_NI : Addr) (k_NI : ClassId) (hAny : Int32) (k_x : ClassId) (x0 : Int32) (x1 : Int32) (x2 : Int32) (h0 : Heap) (n0 : Nat) (v : Option Value) (h : Heap) (L : List Loc) : Prop := v = some (.int (0 : Int32)) ∧ Fr n0 L ∧ h = h0
theorem ef6_3_0 (m : MethodId) (x0 : Addr) (x1 : Addr) : entryFrame m #[(.ref x0), (.ref x1)] 3 = mkF m 0 #[.val (.ref x0), .val (.ref x1), .unset] [] := by first | (simp [entryFrame, mkF, argsToLocals, Value.category]; done) | rfl
theorem rm6_3_0 (l : Launch) (Z : State) (a0 : Array Value) (hw : HW a0 Z) (ws : List Jvm.Cond) (a1 : Addr) (a2 : Addr) (w_v : Addr) (k_v : ClassId) (ln : Int32) (v0 : Int32) (v1 : Int32) (v2 : Int32) (w_NI : Addr) (k_NI : ClassId) (hAny : Int32) (k_x : ClassId) (x0 : Int32) (x1 : Int32) (x2 : Int32) (h0 : Heap) (n0 : Nat) (Z0 : n0 ≤ h0.size) (E_a1 : Exa Z h0 a1 RC) (V_v : Arv Z h0 w_v k_v .int ln [(.int v0), (.int v1), (.int v2)] (.int (0 : Int32))) (V_NI : Arv Z h0 w_NI k_NI (.object IC) (0 : Int32) [] .null) (F_a1_a : Fld Z h0 a1 RC "arity" "I" (.int (3 : Int32))) (F_a1_v : Fld Z h0 a1 RC "values" "[I" (.ref w_v)) (F_a1_s : Fld Z h0 a1 RC "size" "I" (.int (0 : Int32))) (F_a1_m : Fld Z h0 a1 RC "members" RI .null) (F_a1_i : Fld Z h0 a1 RC "indexes" RJ (.ref w_NI)) (F_a1_h : Fld Z h0 a1 RC "holdingAny" "I" (.int hAny)) (V_row : Arv Z h0 a2 k_x .int (3 : Int32) [(.int x0), (.int x1), (.int x2)] (.int (0 : Int32))) (hln : ¬ ln < (12 : Int32)) (ne_w_v_a1 : w_v ≠ a1) (ne_w_NI_a1 : w_NI ≠ a1) (ne_w_NI_w_v : w_NI ≠ w_v) (ne_a2_a1 : a2 ≠ a1) (ne_a2_w_v : a2 ≠ w_v) (ne_a2_w_NI : a2 ≠ w_NI) :
  MetFree l (⟨RC, "contains", "([I)Z"⟩ : MethodName) (head1 (Jvm.Cond.code (⟨RC, "contains", "([I)Z"⟩ : MethodName) cB6 3 (some .boolean) :: ws) (Rm 0 0 0 0)) (Pr Z h0 #[(.ref a1), (.ref a2)]) Tr (fun _ U o U' => ∃ v L, o = .returned v ∧ Q6_3_0 Z a1 a2 w_v k_v ln v0 v1 v2 w_NI k_NI hAny k_x x0 x1 x2 h0 n0 v U'.heap L ∧ FrameEnd U o U' L (Rm 0 0 0 0).cells (Rm 0 0 0 0).slots) := by
 refine MetFree.of_bodySF (plainFor_of_name pn0) hisR ?_
 intro p e s m args below meth c s₁ Bd hml0 hP hK
 obtain ⟨rfl, hZ, hh⟩ := hP
 have hx := Bd.exec
 have hby := Bd.bytes
 have hml : c.maxLocals = 3 := hml0
 have hown : s.vm.findClass RC = some m.cls := findClass_of_methodNamed Bd.named
 have hnm := (name_of_methodNamed Bd.named Bd.method).1
 have X0 : Stand p l e (Rm 0 0 0 0) s m #[(.ref a1), (.ref a2)] below meth c s₁ [] 0 0 := Stand.of_body Bd
 have e0 : s₁.heap = h0 := by rw [← hh, Bd.state]; rfl
 have N0 := Fr.nil n0
 have K0 : Keep h0 h0 [] := Keep.refl h0 _
 refine G (P := fun o U' => ∃ v L, o = .returned v ∧ Q6_3_0 Z a1 a2 w_v k_v ln v0 v1 v2 w_NI k_NI hAny k_x x0 x1 x2 h0 n0 v U'.heap L ∧ FrameEnd s o U' L (Rm 0 0 0 0).cells (Rm 0 0 0 0).slots) (fun t k => castTop (ef6_3_0 m a1 a2) k) ?_
 show Go _ _ _ (s₁.setTop (mkF m 0 #[vr a1, vr a2, us] [])) _
 refine G (fun t k => XS.aloadN X0.here hx rfl (hb hby d6_0) rfl rfl k) ?_
 obtain ⟨T1, X1, e1, st1⟩ := getF X0 hx hZ hown (host := "") (Or.inl (wd30 hw)) Via.refl e0 F_a1_m (g := (mkF m 1 #[vr a1, vr a2, us] [(.ref a1)])) rfl rfl (hb hby d6_1)
 refine G st1 ?_
 refine G (fun t k => XS.ifnullYes X1.here hx rfl (pc0 := 4) (pc' := 24) rfl (hb hby d6_4) rfl (by decide) (by decide) (XS.iconst X1.here hx rfl (hb hby d6_24) (XS.istoreN X1.here hx rfl (hb hby d6_25) rfl (l' := #[vr a1, vr a2, vi 0]) rfl (XS.iloadN X1.here hx rfl (hb hby d6_26) rfl (XS.aloadN X1.here hx rfl (hb hby d6_27) rfl rfl k))))) ?_
 show Go _ _ _ (T1.setTop (mkF m 28 #[vr a1, vr a2, vi 0] [(.ref a1), (.int 0)])) _
 obtain ⟨T2, X2, e2, st2⟩ := getF X1 hx hZ hown (host := "") (Or.inl (wd28 hw)) Via.refl e1 F_a1_s (g := (mkF m 28 #[vr a1, vr a2, vi 0] [(.ref a1), (.int 0)])) rfl rfl (hb hby d6_28)
 refine G st2 ?_
 refine G (fun t k => XS.icmpYes X2.here hx rfl (pc0 := 31) (pc' := 51) rfl (hb hby d6_31) rfl (flt (by decide : ¬ ((0 : Int32) < (0 : Int32)))).2.1 (by decide) (by decide) (XS.iconst X2.here hx rfl (hb hby d6_51) k)) ?_
 obtain ⟨fs, hr, hrun, hended, hW, hsame⟩ := X2.leave (v := some (.int (0 : Int32))) (fun h => by rw [Bd.returns] at h; cases h)
 refine Go.fin (retN X2 hx (t := .boolean) Bd.returns (by simp) (hb hby d6_52) hr) hrun hended ⟨_, _, rfl, ?_, ⟨_, rfl⟩, hW, hsame.mono (by decide) (by decide)⟩
 show Q6_3_0 Z a1 a2 w_v k_v ln v0 v1 v2 w_NI k_NI hAny k_x x0 x1 x2 h0 n0 _ T2.heap _
 rw [e2]
 exact ⟨rfl, N0, rfl⟩
def f6_3_1 (v0 : Int32) (v1 : Int32) (v2 : Int32) (x0 : Int32) (x1 : Int32) (x2 : Int32) : Int32 := (if v0 = x0 then (if v1 = x1 then (if v2 = x2 then (1 : Int32) else (0 : Int32)) else (0 : Int32)) else (0 : Int32))
def Q6_3_1 (Z : State) (a1 : Addr) (a2 : Addr) (w_v : Addr) (k_v : ClassId) (ln : Int32) (v0 : Int32) (v1 : Int32) (v2 : Int32) (w_NI : Addr) (k_NI : ClassId) (hAny : Int32) (k_x : ClassId) (x0 : Int32) (x1 : Int32) (x2 : Int32) (h0 : Heap) (n0 : Nat) (v : Option Value) (h : Heap) (L : List Loc) : Prop := v = some (.int (f6_3_1 v0 v1 v2 x0 x1 x2)) ∧ Fr n0 L ∧ h = h0
theorem ef6_3_1 (m : MethodId) (x0 : Addr) (x1 : Addr) : entryFrame m #[(.ref x0), (.ref x1)] 3 = mkF m 0 #[.val (.ref x0), .val (.ref x1), .unset] [] := by first | (simp [entryFrame, mkF, argsToLocals, Value.category]; done) | rfl
theorem rm6_3_1 (l : Launch) (Z : State) (a0 : Array Value) (hw : HW a0 Z) (ws : List Jvm.Cond) (a1 : Addr) (a2 : Addr) (w_v : Addr) (k_v : ClassId) (ln : Int32) (v0 : Int32) (v1 : Int32) (v2 : Int32) (w_NI : Addr) (k_NI : ClassId) (hAny : Int32) (k_x : ClassId) (x0 : Int32) (x1 : Int32) (x2 : Int32) (h0 : Heap) (n0 : Nat) (Z0 : n0 ≤ h0.size) (E_a1 : Exa Z h0 a1 RC) (V_v : Arv Z h0 w_v k_v .int ln [(.int v0), (.int v1), (.int v2)] (.int (0 : Int32))) (V_NI : Arv Z h0 w_NI k_NI (.object IC) (0 : Int32) [] .null) (F_a1_a : Fld Z h0 a1 RC "arity" "I" (.int (3 : Int32))) (F_a1_v : Fld Z h0 a1 RC "values" "[I" (.ref w_v)) (F_a1_s : Fld Z h0 a1 RC "size" "I" (.int (1 : Int32))) (F_a1_m : Fld Z h0 a1 RC "members" RI .null) (F_a1_i : Fld Z h0 a1 RC "indexes" RJ (.ref w_NI)) (F_a1_h : Fld Z h0 a1 RC "holdingAny" "I" (.int hAny)) (V_row : Arv Z h0 a2 k_x .int (3 : Int32) [(.int x0), (.int x1), (.int x2)] (.int (0 : Int32))) (hln : ¬ ln < (12 : Int32)) (ne_w_v_a1 : w_v ≠ a1) (ne_w_NI_a1 : w_NI ≠ a1) (ne_w_NI_w_v : w_NI ≠ w_v) (ne_a2_a1 : a2 ≠ a1) (ne_a2_w_v : a2 ≠ w_v) (ne_a2_w_NI : a2 ≠ w_NI) :
  MetFree l (⟨RC, "contains", "([I)Z"⟩ : MethodName) (head1 (Jvm.Cond.code (⟨RC, "contains", "([I)Z"⟩ : MethodName) cB6 3 (some .boolean) :: ws) (Rm 1 0 0 15)) (Pr Z h0 #[(.ref a1), (.ref a2)]) Tr (fun _ U o U' => ∃ v L, o = .returned v ∧ Q6_3_1 Z a1 a2 w_v k_v ln v0 v1 v2 w_NI k_NI hAny k_x x0 x1 x2 h0 n0 v U'.heap L ∧ FrameEnd U o U' L (Rm 1 0 0 15).cells (Rm 1 0 0 15).slots) := by
 refine MetFree.of_bodySF (plainFor_of_name pn0) hisR ?_
 intro p e s m args below meth c s₁ Bd hml0 hP hK
 obtain ⟨rfl, hZ, hh⟩ := hP
 have hx := Bd.exec
 have hby := Bd.bytes
 have hml : c.maxLocals = 3 := hml0
 have hown : s.vm.findClass RC = some m.cls := findClass_of_methodNamed Bd.named
 have hnm := (name_of_methodNamed Bd.named Bd.method).1
 have X0 : Stand p l e (Rm 1 0 0 15) s m #[(.ref a1), (.ref a2)] below meth c s₁ [] 0 0 := Stand.of_body Bd
 have e0 : s₁.heap = h0 := by rw [← hh, Bd.state]; rfl
 have N0 := Fr.nil n0
 have K0 : Keep h0 h0 [] := Keep.refl h0 _
 refine G (P := fun o U' => ∃ v L, o = .returned v ∧ Q6_3_1 Z a1 a2 w_v k_v ln v0 v1 v2 w_NI k_NI hAny k_x x0 x1 x2 h0 n0 v U'.heap L ∧ FrameEnd s o U' L (Rm 1 0 0 15).cells (Rm 1 0 0 15).slots) (fun t k => castTop (ef6_3_1 m a1 a2) k) ?_
 show Go _ _ _ (s₁.setTop (mkF m 0 #[vr a1, vr a2, us] [])) _
 refine G (fun t k => XS.aloadN X0.here hx rfl (hb hby d6_0) rfl rfl k) ?_
 obtain ⟨T1, X1, e1, st1⟩ := getF X0 hx hZ hown (host := "") (Or.inl (wd30 hw)) Via.refl e0 F_a1_m (g := (mkF m 1 #[vr a1, vr a2, us] [(.ref a1)])) rfl rfl (hb hby d6_1)
 refine G st1 ?_
 refine G (fun t k => XS.ifnullYes X1.here hx rfl (pc0 := 4) (pc' := 24) rfl (hb hby d6_4) rfl (by decide) (by decide) (XS.iconst X1.here hx rfl (hb hby d6_24) (XS.istoreN X1.here hx rfl (hb hby d6_25) rfl (l' := #[vr a1, vr a2, vi 0]) rfl (XS.iloadN X1.here hx rfl (hb hby d6_26) rfl (XS.aloadN X1.here hx rfl (hb hby d6_27) rfl rfl k))))) ?_
 show Go _ _ _ (T1.setTop (mkF m 28 #[vr a1, vr a2, vi 0] [(.ref a1), (.int 0)])) _
 obtain ⟨T2, X2, e2, st2⟩ := getF X1 hx hZ hown (host := "") (Or.inl (wd28 hw)) Via.refl e1 F_a1_s (g := (mkF m 28 #[vr a1, vr a2, vi 0] [(.ref a1), (.int 0)])) rfl rfl (hb hby d6_28)
 refine G st2 ?_
 refine G (fun t k => XS.icmpNo X2.here hx rfl (hb hby d6_31) rfl (tlt (by decide : (0 : Int32) < (1 : Int32))).2.1 (XS.aloadN X2.here hx rfl (hb hby d6_34) rfl rfl (XS.iloadN X2.here hx rfl (hb hby d6_35) rfl (XS.aloadN X2.here hx rfl (hb hby d6_36) rfl rfl k)))) ?_
 obtain ⟨cq3, qq3, qq3'⟩ := E_a1.cell
 obtain ⟨_, _, ⟨T3, L3, k3, n3⟩, -, X3, ⟨Lc3, hQ3, l3, y3, z3⟩, st3⟩ := X2.privateBack hx (y := (⟨RC, "rowIs", "(I[I)Z"⟩ : MethodName)) hown (mvT hZ (wd70 hw)) (mvT hZ (wd71 hw)) (own_selp (mvT hZ (wd7 hw)) (Cond.privateMethod_at (mvP hZ (wd72 hw) (args := #[]))) (mvT hZ (wd71 hw)) (by decide)) (Cond.privateMethod_at (mvP hZ (wd72 hw) (args := #[]))) (mvT hZ (wd73 hw)) (by decide) (backOf (W := 0) (rm11_3 l Z a0 hw [] a1 a2 w_v k_v ln v0 v1 v2 w_NI k_NI hAny k_x x0 x1 x2 h0 n0 Z0 E_a1 V_v V_NI F_a1_a F_a1_v F_a1_s F_a1_m F_a1_i F_a1_h V_row hln ne_w_v_a1 ne_w_NI_a1 ne_w_NI_w_v ne_a2_a1 ne_a2_w_v ne_a2_w_NI) hZ (wd73 hw) (wd8 hw) (by decide) (by decide)) (g := (mkF m 37 #[vr a1, vr a2, vi 0] [(.ref a2), (.int 0), (.ref a1)])) rfl (by rw [hml]; rfl) (Steps.refl _) (a := a1) (by rw [e2]; exact qq3) qq3' (argsL := [(.int (0 : Int32)), (.ref a2)]) (rest := []) (lenOf pd4 rfl) rfl (by show 2 * 0 + _ ≤ _; exact Nat.le_of_eq rfl) (hb hby d6_37) (fun _ _ => ⟨rfl, e2, (by decide : 0 + 0 ≤ _), (by decide : 0 + 0 ≤ _)⟩)
 dsimp only [Pt.U, Pt.locs, Pt.cells, Pt.slots] at X3 l3 y3 z3 st3 hQ3
 subst l3 y3 z3
 refine Go.tr st3 ?_
 obtain ⟨rfl, N3q, e3⟩ := hQ3
 have N3 := Fr.app N0 N3q
 show Go _ _ _ (T3.setTop (mkF m 40 #[vr a1, vr a2, vi 0] [(.int (f11_3 v0 v1 v2 x0 x1 x2))])) _
 by_cases hc4 : v0 = x0
 ·by_cases hc5 : v1 = x1
  ·by_cases hc6 : v2 = x2
   ·rw [show (f11_3 v0 v1 v2 x0 x1 x2) = (1 : Int32) from by unfold f11_3; simp only [if_pos hc4, if_pos hc5, if_pos hc6, if_true, if_false]]
    show Go _ _ _ (T3.setTop (mkF m 40 #[vr a1, vr a2, vi 0] [(.int 1)])) _
    refine G (fun t k => XS.ifNo X3.here hx rfl (hb hby d6_40) rfl ((if0 _ _).trans (feq (by decide : ¬ ((1 : Int32) = (0 : Int32)))).1) (XS.iconst X3.here hx rfl (hb hby d6_43) k)) ?_
    obtain ⟨fs, hr, hrun, hended, hW, hsame⟩ := X3.leave (v := some (.int (1 : Int32))) (fun h => by rw [Bd.returns] at h; cases h)
    refine Go.fin (retN X3 hx (t := .boolean) Bd.returns (by simp) (hb hby d6_44) hr) hrun hended ⟨_, _, rfl, ?_, ⟨_, rfl⟩, hW, hsame.mono (by decide) (by decide)⟩
    show Q6_3_1 Z a1 a2 w_v k_v ln v0 v1 v2 w_NI k_NI hAny k_x x0 x1 x2 h0 n0 _ T3.heap _
    rw [e3]
    exact ⟨(by unfold f6_3_1; simp only [if_pos hc4, if_pos hc5, if_pos hc6]), N3, rfl⟩
   ·rw [show (f11_3 v0 v1 v2 x0 x1 x2) = (0 : Int32) from by unfold f11_3; simp only [if_pos hc4, if_pos hc5, if_neg hc6, if_true, if_false]]
    show Go _ _ _ (T3.setTop (mkF m 40 #[vr a1, vr a2, vi 0] [(.int 0)])) _
    refine G (fun t k => XS.ifYes X3.here hx rfl (pc0 := 40) (pc' := 45) rfl (hb hby d6_40) rfl ((if0 _ _).trans (teq (by decide : (0 : Int32) = (0 : Int32))).1) (by decide) (by decide) (XS.iinc X3.here hx rfl (hb hby d6_45) rfl (l' := #[.val (.ref a1), .val (.ref a2), .val (.int ((0 : Int32) + (1 : Int32)))]) rfl (XS.goto X3.here hx rfl (pc0 := 48) (pc' := 26) rfl (hb hby d6_48) (by decide) (by decide) (XS.iloadN X3.here hx rfl (hb hby d6_26) rfl (XS.aloadN X3.here hx rfl (hb hby d6_27) rfl rfl k))))) ?_
    obtain ⟨T7, X7, e7, st7⟩ := getF X3 hx hZ hown (host := "") (Or.inl (wd28 hw)) Via.refl e3 F_a1_s (g := (mkF m 28 #[vr a1, vr a2, vi 1] [(.ref a1), (.int 1)])) rfl rfl (hb hby d6_28)
    refine G st7 ?_
    refine G (fun t k => XS.icmpYes X7.here hx rfl (pc0 := 31) (pc' := 51) rfl (hb hby d6_31) rfl (flt (by decide : ¬ ((1 : Int32) < (1 : Int32)))).2.1 (by decide) (by decide) k) ?_
    show Go _ _ _ (T7.setTop (mkF m 51 #[vr a1, vr a2, vi 1] [])) _
    refine G (fun t k => XS.iconst X7.here hx rfl (hb hby d6_51) k) ?_
    obtain ⟨fs, hr, hrun, hended, hW, hsame⟩ := X7.leave (v := some (.int (0 : Int32))) (fun h => by rw [Bd.returns] at h; cases h)
    refine Go.fin (retN X7 hx (t := .boolean) Bd.returns (by simp) (hb hby d6_52) hr) hrun hended ⟨_, _, rfl, ?_, ⟨_, rfl⟩, hW, hsame.mono (by decide) (by decide)⟩
    show Q6_3_1 Z a1 a2 w_v k_v ln v0 v1 v2 w_NI k_NI hAny k_x x0 x1 x2 h0 n0 _ T7.heap _
    rw [e7]
    exact ⟨(by unfold f6_3_1; simp only [if_pos hc4, if_pos hc5, if_neg hc6]), N3, rfl⟩
  ·rw [show (f11_3 v0 v1 v2 x0 x1 x2) = (0 : Int32) from by unfold f11_3; simp only [if_pos hc4, if_neg hc5, if_true, if_false]]
   show Go _ _ _ (T3.setTop (mkF m 40 #[vr a1, vr a2, vi 0] [(.int 0)])) _
   refine G (fun t k => XS.ifYes X3.here hx rfl (pc0 := 40) (pc' := 45) rfl (hb hby d6_40) rfl ((if0 _ _).trans (teq (by decide : (0 : Int32) = (0 : Int32))).1) (by decide) (by decide) (XS.iinc X3.here hx rfl (hb hby d6_45) rfl (l' := #[.val (.ref a1), .val (.ref a2), .val (.int ((0 : Int32) + (1 : Int32)))]) rfl (XS.goto X3.here hx rfl (pc0 := 48) (pc' := 26) rfl (hb hby d6_48) (by decide) (by decide) (XS.iloadN X3.here hx rfl (hb hby d6_26) rfl (XS.aloadN X3.here hx rfl (hb hby d6_27) rfl rfl k))))) ?_
   obtain ⟨T8, X8, e8, st8⟩ := getF X3 hx hZ hown (host := "") (Or.inl (wd28 hw)) Via.refl e3 F_a1_s (g := (mkF m 28 #[vr a1, vr a2, vi 1] [(.ref a1), (.int 1)])) rfl rfl (hb hby d6_28)
   refine G st8 ?_
   refine G (fun t k => XS.icmpYes X8.here hx rfl (pc0 := 31) (pc' := 51) rfl (hb hby d6_31) rfl (flt (by decide : ¬ ((1 : Int32) < (1 : Int32)))).2.1 (by decide) (by decide) k) ?_
   show Go _ _ _ (T8.setTop (mkF m 51 #[vr a1, vr a2, vi 1] [])) _
   refine G (fun t k => XS.iconst X8.here hx rfl (hb hby d6_51) k) ?_
   obtain ⟨fs, hr, hrun, hended, hW, hsame⟩ := X8.leave (v := some (.int (0 : Int32))) (fun h => by rw [Bd.returns] at h; cases h)
   refine Go.fin (retN X8 hx (t := .boolean) Bd.returns (by simp) (hb hby d6_52) hr) hrun hended ⟨_, _, rfl, ?_, ⟨_, rfl⟩, hW, hsame.mono (by decide) (by decide)⟩
   show Q6_3_1 Z a1 a2 w_v k_v ln v0 v1 v2 w_NI k_NI hAny k_x x0 x1 x2 h0 n0 _ T8.heap _
   rw [e8]
   exact ⟨(by unfold f6_3_1; simp only [if_pos hc4, if_neg hc5]), N3, rfl⟩
 ·rw [show (f11_3 v0 v1 v2 x0 x1 x2) = (0 : Int32) from by unfold f11_3; simp only [if_neg hc4, if_true, if_false]]
  show Go _ _ _ (T3.setTop (mkF m 40 #[vr a1, vr a2, vi 0] [(.int 0)])) _
  refine G (fun t k => XS.ifYes X3.here hx rfl (pc0 := 40) (pc' := 45) rfl (hb hby d6_40) rfl ((if0 _ _).trans (teq (by decide : (0 : Int32) = (0 : Int32))).1) (by decide) (by decide) (XS.iinc X3.here hx rfl (hb hby d6_45) rfl (l' := #[.val (.ref a1), .val (.ref a2), .val (.int ((0 : Int32) + (1 : Int32)))]) rfl (XS.goto X3.here hx rfl (pc0 := 48) (pc' := 26) rfl (hb hby d6_48) (by decide) (by decide) (XS.iloadN X3.here hx rfl (hb hby d6_26) rfl (XS.aloadN X3.here hx rfl (hb hby d6_27) rfl rfl k))))) ?_
  obtain ⟨T9, X9, e9, st9⟩ := getF X3 hx hZ hown (host := "") (Or.inl (wd28 hw)) Via.refl e3 F_a1_s (g := (mkF m 28 #[vr a1, vr a2, vi 1] [(.ref a1), (.int 1)])) rfl rfl (hb hby d6_28)
  refine G st9 ?_
  refine G (fun t k => XS.icmpYes X9.here hx rfl (pc0 := 31) (pc' := 51) rfl (hb hby d6_31) rfl (flt (by decide : ¬ ((1 : Int32) < (1 : Int32)))).2.1 (by decide) (by decide) k) ?_
  show Go _ _ _ (T9.setTop (mkF m 51 #[vr a1, vr a2, vi 1] [])) _
  refine G (fun t k => XS.iconst X9.here hx rfl (hb hby d6_51) k) ?_
  obtain ⟨fs, hr, hrun, hended, hW, hsame⟩ := X9.leave (v := some (.int (0 : Int32))) (fun h => by rw [Bd.returns] at h; cases h)
  refine Go.fin (retN X9 hx (t := .boolean) Bd.returns (by simp) (hb hby d6_52) hr) hrun hended ⟨_, _, rfl, ?_, ⟨_, rfl⟩, hW, hsame.mono (by decide) (by decide)⟩
  show Q6_3_1 Z a1 a2 w_v k_v ln v0 v1 v2 w_NI k_NI hAny k_x x0 x1 x2 h0 n0 _ T9.heap _
  rw [e9]
  exact ⟨(by unfold f6_3_1; simp only [if_neg hc4]), N3, rfl⟩
def Q5_3_N (Z : State) (a1 : Addr) (a2 : Addr) (w_v : Addr) (k_v : ClassId) (ln : Int32) (v0 : Int32) (v1 : Int32) (v2 : Int32) (w_NI : Addr) (k_NI : ClassId) (hAny : Int32) (k_x : ClassId) (x0 : Int32) (x1 : Int32) (x2 : Int32) (h0 : Heap) (n0 : Nat) (v : Option Value) (h : Heap) (L : List Loc) : Prop := ∃ z_5_3_N_holdingAny : Int32, v = some (.int (1 : Int32)) ∧ Fr n0 L ∧ Keep h0 h [w_v, a1] ∧ Exa Z h a1 RC ∧ Fld Z h a1 RC "arity" "I" (.int (3 : Int32)) ∧ Fld Z h a1 RC "values" "[I" (.ref w_v) ∧ Fld Z h a1 RC "size" "I" (.int (1 : Int32)) ∧ Fld Z h a1 RC "members" RI .null ∧ Fld Z h a1 RC "indexes" RJ (.ref w_NI) ∧ Fld Z h a1 RC "holdingAny" "I" (.int z_5_3_N_holdingAny) ∧ Arv Z h w_v k_v .int ln [(.int x0), (.int x1), (.int x2)] (.int (0 : Int32))
theorem ef5_3_N (m : MethodId) (x0 : Addr) (x1 : Addr) : entryFrame m #[(.ref x0), (.ref x1)] 7 = mkF m 0 #[.val (.ref x0), .val (.ref x1), .unset, .unset, .unset, .unset, .unset] [] := by first | (simp [entryFrame, mkF, argsToLocals, Value.category]; done) | rfl
theorem rm5_3_N (l : Launch) (Z : State) (a0 : Array Value) (hw : HW a0 Z) (ws : List Jvm.Cond) (a1 : Addr) (a2 : Addr) (w_v : Addr) (k_v : ClassId) (ln : Int32) (v0 : Int32) (v1 : Int32) (v2 : Int32) (w_NI : Addr) (k_NI : ClassId) (hAny : Int32) (k_x : ClassId) (x0 : Int32) (x1 : Int32) (x2 : Int32) (h0 : Heap) (n0 : Nat) (Z0 : n0 ≤ h0.size) (E_a1 : Exa Z h0 a1 RC) (V_v : Arv Z h0 w_v k_v .int ln [(.int v0), (.int v1), (.int v2)] (.int (0 : Int32))) (V_NI : Arv Z h0 w_NI k_NI (.object IC) (0 : Int32) [] .null) (F_a1_a : Fld Z h0 a1 RC "arity" "I" (.int (3 : Int32))) (F_a1_v : Fld Z h0 a1 RC "values" "[I" (.ref w_v)) (F_a1_s : Fld Z h0 a1 RC "size" "I" (.int (0 : Int32))) (F_a1_m : Fld Z h0 a1 RC "members" RI .null) (F_a1_i : Fld Z h0 a1 RC "indexes" RJ (.ref w_NI)) (F_a1_h : Fld Z h0 a1 RC "holdingAny" "I" (.int hAny)) (V_row : Arv Z h0 a2 k_x .int (3 : Int32) [(.int x0), (.int x1), (.int x2)] (.int (0 : Int32))) (hln : ¬ ln < (12 : Int32)) (ne_w_v_a1 : w_v ≠ a1) (ne_w_NI_a1 : w_NI ≠ a1) (ne_w_NI_w_v : w_NI ≠ w_v) (ne_a2_a1 : a2 ≠ a1) (ne_a2_w_v : a2 ≠ w_v) (ne_a2_w_NI : a2 ≠ w_NI) (g_w_v : n0 ≤ w_v) (g_a1 : n0 ≤ a1) :
  MetFree l (⟨RC, "add", "([I)Z"⟩ : MethodName) (head1 (Jvm.Cond.code (⟨RC, "add", "([I)Z"⟩ : MethodName) cB5 7 (some .boolean) :: ws) (Rm 1 0 0 18)) (Pr Z h0 #[(.ref a1), (.ref a2)]) Tr (fun _ U o U' => ∃ v L, o = .returned v ∧ Q5_3_N Z a1 a2 w_v k_v ln v0 v1 v2 w_NI k_NI hAny k_x x0 x1 x2 h0 n0 v U'.heap L ∧ FrameEnd U o U' L (Rm 1 0 0 18).cells (Rm 1 0 0 18).slots) := by
 refine MetFree.of_bodySF (plainFor_of_name pn0) hisR ?_
 intro p e s m args below meth c s₁ Bd hml0 hP hK
 obtain ⟨rfl, hZ, hh⟩ := hP
 have hx := Bd.exec
 have hby := Bd.bytes
 have hml : c.maxLocals = 7 := hml0
 have hown : s.vm.findClass RC = some m.cls := findClass_of_methodNamed Bd.named
 have hnm := (name_of_methodNamed Bd.named Bd.method).1
 have X0 : Stand p l e (Rm 1 0 0 18) s m #[(.ref a1), (.ref a2)] below meth c s₁ [] 0 0 := Stand.of_body Bd
 have e0 : s₁.heap = h0 := by rw [← hh, Bd.state]; rfl
 have N0 := Fr.nil n0
 have K0 : Keep h0 h0 [w_v, a1] := Keep.refl h0 _
 refine G (P := fun o U' => ∃ v L, o = .returned v ∧ Q5_3_N Z a1 a2 w_v k_v ln v0 v1 v2 w_NI k_NI hAny k_x x0 x1 x2 h0 n0 v U'.heap L ∧ FrameEnd s o U' L (Rm 1 0 0 18).cells (Rm 1 0 0 18).slots) (fun t k => castTop (ef5_3_N m a1 a2) k) ?_
 show Go _ _ _ (s₁.setTop (mkF m 0 #[vr a1, vr a2, us, us, us, us, us] [])) _
 refine G (fun t k => XS.aloadN X0.here hx rfl (hb hby d5_0) rfl rfl k) ?_
 obtain ⟨T1, X1, e1, st1⟩ := getF X0 hx hZ hown (host := "") (Or.inl (wd30 hw)) Via.refl e0 F_a1_m (g := (mkF m 1 #[vr a1, vr a2, us, us, us, us, us] [(.ref a1)])) rfl rfl (hb hby d5_1)
 refine G st1 ?_
 refine G (fun t k => XS.ifnonnullNo X1.here hx rfl (hb hby d5_4) rfl (XS.aloadN X1.here hx rfl (hb hby d5_7) rfl rfl (XS.aloadN X1.here hx rfl (hb hby d5_8) rfl rfl k))) ?_
 obtain ⟨cq2, kq2, q2a, q2b, q2c⟩ := isOf hZ e1 E_a1
 obtain ⟨_, _, ⟨T2, L2, k2, n2⟩, -, X2, ⟨Lc2, hQ2, l2, y2, z2⟩, st2⟩ := X1.virtualBack hx (y := (⟨RC, "contains", "([I)Z"⟩ : MethodName)) (z := (⟨RC, "contains", "([I)Z"⟩ : MethodName)) hown (mvT hZ (wd37 hw)) (mvT hZ (wd38 hw)) (notFace_of_selects (args := #[]) (mvT hZ (wd40 hw))) (mvT hZ (wd40 hw)) (mvT hZ (wd39 hw)) (by decide) (backOf (W := 0) (rm6_3_0 l Z a0 hw [] a1 a2 w_v k_v ln v0 v1 v2 w_NI k_NI hAny k_x x0 x1 x2 h0 n0 Z0 E_a1 V_v V_NI F_a1_a F_a1_v F_a1_s F_a1_m F_a1_i F_a1_h V_row hln ne_w_v_a1 ne_w_NI_a1 ne_w_NI_w_v ne_a2_a1 ne_a2_w_v ne_a2_w_NI) hZ (wd41 hw) (wd8 hw) (by decide) (by decide)) q2a q2c (g := (mkF m 9 #[vr a1, vr a2, us, us, us, us, us] [(.ref a2), (.ref a1)])) rfl (by rw [hml]; rfl) (Steps.refl _) (argsL := [(.ref a2)]) (rest := []) (lenOf pd5 rfl) rfl (by show 2 * 0 + _ ≤ _; exact Nat.le_of_eq rfl) (hb hby d5_9) (fun _ _ => ⟨rfl, e1, (by decide : 0 + 0 ≤ _), (by decide : 0 + 0 ≤ _)⟩)
 dsimp only [Pt.U, Pt.locs, Pt.cells, Pt.slots] at X2 l2 y2 z2 st2 hQ2
 subst l2 y2 z2
 refine Go.tr st2 ?_
 obtain ⟨rfl, N2q, e2⟩ := hQ2
 have N2 := Fr.app N0 N2q
 refine G (fun t k => XS.ifYes X2.here hx rfl (pc0 := 12) (pc' := 17) rfl (hb hby d5_12) rfl ((if0 _ _).trans (teq (by decide : (0 : Int32) = (0 : Int32))).1) (by decide) (by decide) k) ?_
 show Go _ _ _ (T2.setTop (mkF m 17 #[vr a1, vr a2, us, us, us, us, us] [])) _
 refine G (fun t k => XS.aloadN X2.here hx rfl (hb hby d5_17) rfl rfl k) ?_
 obtain ⟨T3, X3, e3, st3⟩ := getF X2 hx hZ hown (host := "") (Or.inl (wd28 hw)) Via.refl e2 F_a1_s (g := (mkF m 18 #[vr a1, vr a2, us, us, us, us, us] [(.ref a1)])) rfl rfl (hb hby d5_18)
 refine G st3 ?_
 refine G (fun t k => XS.iconst X3.here hx rfl (hb hby d5_21) (XS.iadd X3.here hx rfl (hb hby d5_22) rfl (XS.aloadN X3.here hx rfl (hb hby d5_23) rfl rfl k))) ?_
 obtain ⟨T4, X4, e4, st4⟩ := getF X3 hx hZ hown (host := "") (Or.inl (wd19 hw)) Via.refl e3 F_a1_a (g := (mkF m 24 #[vr a1, vr a2, us, us, us, us, us] [(.ref a1), (.int 1)])) rfl rfl (hb hby d5_24)
 refine G st4 ?_
 refine G (fun t k => XS.imul X4.here hx rfl (hb hby d5_27) rfl k) ?_
 show Go _ _ _ (T4.setTop (mkF m 28 #[vr a1, vr a2, us, us, us, us, us] [(.int 3)])) _
 refine G (fun t k => XS.aloadN X4.here hx rfl (hb hby d5_28) rfl rfl k) ?_
 obtain ⟨T5, X5, e5, st5⟩ := getF X4 hx hZ hown (host := "") (Or.inl (wd21 hw)) Via.refl e4 F_a1_v (g := (mkF m 29 #[vr a1, vr a2, us, us, us, us, us] [(.ref a1), (.int 3)])) rfl rfl (hb hby d5_29)
 refine G st5 ?_
 obtain ⟨cl6, Ar6, -, Sz6, Ng6, -, -⟩ := id V_v
 refine G (fun t k => X5.arraylength hx (by rw [e5]; exact Ar6.1) (State.isArrayOf_alike hZ.alike Ar6.2.1) (g := (mkF m 32 #[vr a1, vr a2, us, us, us, us, us] [(.ref w_v), (.int 3)])) rfl rfl (hb hby d5_32) _ k) ?_
 rw [len_of Sz6 Ng6]
 have hf7 : ¬ (ln < (3 : Int32)) := own_nl (3 : Int32) (12 : Int32) _ (by decide) hln
 refine G (fun t k => XS.icmpYes X5.here hx rfl (pc0 := 33) (pc' := 63) rfl (hb hby d5_33) rfl (flt hf7).2.2.2 (by decide) (by decide) (XS.aloadN X5.here hx rfl (hb hby d5_63) rfl rfl (XS.iconst X5.here hx rfl (hb hby d5_64) (XS.aloadN X5.here hx rfl (hb hby d5_65) rfl rfl k)))) ?_
 show Go _ _ _ (T5.setTop (mkF m 66 #[vr a1, vr a2, us, us, us, us, us] [(.ref a1), (.int 0), (.ref a2)])) _
 obtain ⟨T8, X8, e8, st8⟩ := getF X5 hx hZ hown (host := "") (Or.inl (wd21 hw)) Via.refl e5 F_a1_v (g := (mkF m 66 #[vr a1, vr a2, us, us, us, us, us] [(.ref a1), (.int 0), (.ref a2)])) rfl rfl (hb hby d5_66)
 refine G st8 ?_
 refine G (fun t k => XS.aloadN X8.here hx rfl (hb hby d5_69) rfl rfl k) ?_
 obtain ⟨T9, X9, e9, st9⟩ := getF X8 hx hZ hown (host := "") (Or.inl (wd28 hw)) Via.refl e8 F_a1_s (g := (mkF m 70 #[vr a1, vr a2, us, us, us, us, us] [(.ref a1), (.ref w_v), (.int 0), (.ref a2)])) rfl rfl (hb hby d5_70)
 refine G st9 ?_
 refine G (fun t k => XS.aloadN X9.here hx rfl (hb hby d5_73) rfl rfl k) ?_
 obtain ⟨T10, X10, e10, st10⟩ := getF X9 hx hZ hown (host := "") (Or.inl (wd19 hw)) Via.refl e9 F_a1_a (g := (mkF m 74 #[vr a1, vr a2, us, us, us, us, us] [(.ref a1), (.int 0), (.ref w_v), (.int 0), (.ref a2)])) rfl rfl (hb hby d5_74)
 refine G st10 ?_
 refine G (fun t k => XS.imul X10.here hx rfl (hb hby d5_77) rfl (XS.aloadN X10.here hx rfl (hb hby d5_78) rfl rfl k)) ?_
 show Go _ _ _ (T10.setTop (mkF m 79 #[vr a1, vr a2, us, us, us, us, us] [(.ref a1), (.int 0), (.ref w_v), (.int 0), (.ref a2)])) _
 obtain ⟨T11, X11, e11, st11⟩ := getF X10 hx hZ hown (host := "") (Or.inl (wd19 hw)) Via.refl e10 F_a1_a (g := (mkF m 79 #[vr a1, vr a2, us, us, us, us, us] [(.ref a1), (.int 0), (.ref w_v), (.int 0), (.ref a2)])) rfl rfl (hb hby d5_79)
 refine G st11 ?_
 have V_v_pre := V_v
 obtain ⟨T12, h12, L12, X12, e12, N12, K12, B12, st12⟩ := cpA X11 hx hZ hown (wd42 hw) (wd45 hw) (wd43 hw) (wd44 hw) e11 V_row V_v (us := [(.int x0), (.int x1), (.int x2)]) (Or.inl ⟨rfl, rfl⟩) (sp := (0 : Int32)) (dp := (0 : Int32)) (nn := (3 : Int32)) (by decide) (by decide) (by decide) (by decide) (own_cpl 0 3 (12 : Int32) _ (by decide) (by decide) hln) rfl (Nat.le_of_ble_eq_true rfl) N2 g_w_v (g := (mkF m 82 #[vr a1, vr a2, us, us, us, us, us] [(.int 3), (.int 0), (.ref w_v), (.int 0), (.ref a2)])) rfl (by rw [hml]; rfl) rfl (hb hby d5_82) (by decide) (W := 0) (by show 2 * 0 + _ ≤ _; exact Nat.le_of_eq rfl) (by decide)
 refine G st12 ?_
 replace E_a1 := E_a1.keep K12
 replace V_NI := V_NI.keep K12 (ninS ne_w_NI_w_v nin0)
 replace F_a1_a := F_a1_a.keep K12 (ninS (Ne.symm ne_w_v_a1) nin0)
 replace F_a1_v := F_a1_v.keep K12 (ninS (Ne.symm ne_w_v_a1) nin0)
 replace F_a1_s := F_a1_s.keep K12 (ninS (Ne.symm ne_w_v_a1) nin0)
 replace F_a1_m := F_a1_m.keep K12 (ninS (Ne.symm ne_w_v_a1) nin0)
 replace F_a1_i := F_a1_i.keep K12 (ninS (Ne.symm ne_w_v_a1) nin0)
 replace F_a1_h := F_a1_h.keep K12 (ninS (Ne.symm ne_w_v_a1) nin0)
 replace V_row := V_row.keep K12 (ninS ne_a2_w_v nin0)
 replace Z0 := Nat.le_trans Z0 K12.1
 replace K0 := K0.trans K12 (allS (Or.inl (by simp)) all0)
 have V_v : Arv Z h12 w_v k_v .int ln [(.int x0), (.int x1), (.int x2)] (.int (0 : Int32)) := B12
 refine G (fun t k => XS.aloadN X12.here hx rfl (hb hby d5_85) rfl rfl k) ?_
 obtain ⟨T13, X13, e13, st13⟩ := getF X12 hx hZ hown (host := "") (Or.inl (wd30 hw)) Via.refl e12 F_a1_m (g := (mkF m 86 #[vr a1, vr a2, us, us, us, us, us] [(.ref a1)])) rfl rfl (hb hby d5_86)
 refine G st13 ?_
 refine G (fun t k => XS.ifnullYes X13.here hx rfl (pc0 := 89) (pc' := 108) rfl (hb hby d5_89) rfl (by decide) (by decide) (XS.aloadN X13.here hx rfl (hb hby d5_108) rfl rfl (XS.dup X13.here hx rfl (hb hby d5_109) rfl rfl k))) ?_
 show Go _ _ _ (T13.setTop (mkF m 110 #[vr a1, vr a2, us, us, us, us, us] [(.ref a1), (.ref a1)])) _
 obtain ⟨T14, X14, e14, st14⟩ := getF X13 hx hZ hown (host := "") (Or.inl (wd28 hw)) Via.refl e13 F_a1_s (g := (mkF m 110 #[vr a1, vr a2, us, us, us, us, us] [(.ref a1), (.ref a1)])) rfl rfl (hb hby d5_110)
 refine G st14 ?_
 refine G (fun t k => XS.dupX1 X14.here hx rfl (hb hby d5_113) rfl rfl rfl (XS.iconst X14.here hx rfl (hb hby d5_114) (XS.iadd X14.here hx rfl (hb hby d5_115) rfl k))) ?_
 obtain ⟨T15, h15, X15, e15, W15, st15⟩ := putF X14 hx hZ hown (host := "") (Or.inl (wd28 hw)) Via.refl e14 F_a1_s E_a1 (Or.inl (wd29 hw)) (wd7 hw) (ty := .int) (by decide) rfl rfl (g := (mkF m 116 #[vr a1, vr a2, us, us, us, us, us] [(.int 1), (.ref a1), (.int 0)])) rfl rfl (hb hby d5_116)
 refine G st15 ?_
 have N15 := Fr.snoc X15 N12 g_a1
 replace E_a1 := E_a1.wr W15
 replace V_NI := V_NI.other W15 ne_w_NI_a1
 replace F_a1_a := F_a1_a.other W15 (sn33 hw)
 replace F_a1_v := F_a1_v.other W15 (sn34 hw)
 replace F_a1_s := F_a1_s.same W15
 replace F_a1_m := F_a1_m.other W15 (sn35 hw)
 replace F_a1_i := F_a1_i.other W15 (sn36 hw)
 replace F_a1_h := F_a1_h.other W15 (sn37 hw)
 replace V_row := V_row.other W15 ne_a2_a1
 replace V_v := V_v.other W15 ne_w_v_a1
 replace Z0 := Nat.le_trans Z0 (Nat.le_of_eq W15.size.symm)
 replace K0 := K0.wr W15 (Or.inl (by simp))
 refine G (fun t k => XS.istoreN X15.here hx rfl (hb hby d5_119) rfl (l' := #[vr a1, vr a2, vi 0, us, us, us, us]) rfl (XS.aloadN X15.here hx rfl (hb hby d5_120) rfl rfl k)) ?_
 show Go _ _ _ (T15.setTop (mkF m 121 #[vr a1, vr a2, vi 0, us, us, us, us] [(.ref a2)])) _
 refine G (fun t k => XS.astoreN X15.here hx rfl (hb hby d5_121) rfl rfl (l' := #[vr a1, vr a2, vi 0, vr a2, us, us, us]) rfl (XS.aloadN X15.here hx rfl (hb hby d5_122) rfl rfl k)) ?_
 obtain ⟨cl16, Ar16, -, Sz16, Ng16, -, -⟩ := id V_row
 refine G (fun t k => X15.arraylength hx (by rw [e15]; exact Ar16.1) (State.isArrayOf_alike hZ.alike Ar16.2.1) (g := (mkF m 123 #[vr a1, vr a2, vi 0, vr a2, us, us, us] [(.ref a2)])) rfl rfl (hb hby d5_123) _ k) ?_
 rw [len_of Sz16 Ng16]
 refine G (fun t k => XS.istore X15.here hx rfl (hb hby d5_124) rfl (l' := #[vr a1, vr a2, vi 0, vr a2, vi 3, us, us]) rfl (XS.iconst X15.here hx rfl (hb hby d5_126) (XS.istore X15.here hx rfl (hb hby d5_127) rfl (l' := #[vr a1, vr a2, vi 0, vr a2, vi 3, vi 0, us]) rfl k))) ?_
 show Go _ _ _ (T15.setTop (mkF m 129 #[vr a1, vr a2, vi 0, vr a2, vi 3, vi 0, us] [])) _
 have J17 : ∀ (TJ : State) (locsJ : List Loc) (hJ : Heap) (jAny : Int32) (j5 : Int32) (j6 : Int32), Stand p l e (Rm 1 0 0 18) s m #[(.ref a1), (.ref a2)] below meth c TJ locsJ 0 0 → TJ.heap = hJ → Fr n0 locsJ → Keep h0 hJ [w_v, a1] → n0 ≤ hJ.size → Exa Z hJ a1 RC → Arv Z hJ w_NI k_NI (.object IC) (0 : Int32) [] .null → Fld Z hJ a1 RC "arity" "I" (.int (3 : Int32)) → Fld Z hJ a1 RC "values" "[I" (.ref w_v) → Fld Z hJ a1 RC "size" "I" (.int (1 : Int32)) → Fld Z hJ a1 RC "members" RI .null → Fld Z hJ a1 RC "indexes" RJ (.ref w_NI) → Fld Z hJ a1 RC "holdingAny" "I" (.int jAny) → Arv Z hJ a2 k_x .int (3 : Int32) [(.int x0), (.int x1), (.int x2)] (.int (0 : Int32)) → Arv Z hJ w_v k_v .int ln [(.int x0), (.int x1), (.int x2)] (.int (0 : Int32)) → Go p.tables e below (TJ.setTop (mkF m 168 #[vr a1, vr a2, vi 0, vr a2, vi 3, vi j5, vi j6] [])) (fun o U' => ∃ v L, o = .returned v ∧ Q5_3_N Z a1 a2 w_v k_v ln v0 v1 v2 w_NI k_NI hAny k_x x0 x1 x2 h0 n0 v U'.heap L ∧ FrameEnd s o U' L (Rm 1 0 0 18).cells (Rm 1 0 0 18).slots) := by
  intro TJ locsJ hJ jAny j5 j6 XJ eJ NJ K0 Z0 E_a1 V_NI F_a1_a F_a1_v F_a1_s F_a1_m F_a1_i F_a1_h V_row V_v
  refine G (fun t k => XS.aloadN XJ.here hx rfl (hb hby d5_168) rfl rfl k) ?_
  obtain ⟨T18, X18, e18, st18⟩ := getF XJ hx hZ hown (host := "") (Or.inl (wd30 hw)) Via.refl eJ F_a1_m (g := (mkF m 169 #[vr a1, vr a2, vi 0, vr a2, vi 3, vi j5, vi j6] [(.ref a1)])) rfl rfl (hb hby d5_169)
  refine G st18 ?_
  refine G (fun t k => XS.ifnonnullNo X18.here hx rfl (hb hby d5_172) rfl (XS.aloadN X18.here hx rfl (hb hby d5_175) rfl rfl k)) ?_
  obtain ⟨T19, X19, e19, st19⟩ := getF X18 hx hZ hown (host := "") (Or.inl (wd28 hw)) Via.refl e18 F_a1_s (g := (mkF m 176 #[vr a1, vr a2, vi 0, vr a2, vi 3, vi j5, vi j6] [(.ref a1)])) rfl rfl (hb hby d5_176)
  refine G st19 ?_
  refine G (fun t k => XS.bipush X19.here hx rfl (hb hby d5_179) (XS.icmpYes X19.here hx rfl (pc0 := 181) (pc' := 207) rfl (hb hby d5_181) rfl (flt (by decide : ¬ ((8 : Int32) < (1 : Int32)))).2.2.2 (by decide) (by decide) k)) ?_
  show Go _ _ _ (T19.setTop (mkF m 207 #[vr a1, vr a2, vi 0, vr a2, vi 3, vi j5, vi j6] [])) _
  refine G (fun t k => XS.aloadN X19.here hx rfl (hb hby d5_207) rfl rfl k) ?_
  obtain ⟨T20, X20, e20, st20⟩ := getF X19 hx hZ hown (host := "") (Or.inl (wd17 hw)) Via.refl e19 F_a1_i (g := (mkF m 208 #[vr a1, vr a2, vi 0, vr a2, vi 3, vi j5, vi j6] [(.ref a1)])) rfl rfl (hb hby d5_208)
  refine G st20 ?_
  refine G (fun t k => XS.astoreN X20.here hx rfl (hb hby d5_211) rfl rfl (l' := #[vr a1, vr a2, vi 0, vr w_NI, vi 3, vi j5, vi j6]) rfl (XS.aloadN X20.here hx rfl (hb hby d5_212) rfl rfl k)) ?_
  obtain ⟨cl21, Ar21, -, Sz21, Ng21, -, -⟩ := id V_NI
  refine G (fun t k => X20.arraylength hx (by rw [e20]; exact Ar21.1) (State.isArrayOf_alike hZ.alike Ar21.2.1) (g := (mkF m 213 #[vr a1, vr a2, vi 0, vr w_NI, vi 3, vi j5, vi j6] [(.ref w_NI)])) rfl rfl (hb hby d5_213) _ k) ?_
  rw [len_of Sz21 Ng21]
  refine G (fun t k => XS.istore X20.here hx rfl (hb hby d5_214) rfl (l' := #[vr a1, vr a2, vi 0, vr w_NI, vi 0, vi j5, vi j6]) rfl (XS.iconst X20.here hx rfl (hb hby d5_216) k)) ?_
  show Go _ _ _ (T20.setTop (mkF m 217 #[vr a1, vr a2, vi 0, vr w_NI, vi 0, vi j5, vi j6] [(.int 0)])) _
  refine G (fun t k => XS.istore X20.here hx rfl (hb hby d5_217) rfl (l' := #[vr a1, vr a2, vi 0, vr w_NI, vi 0, vi 0, vi j6]) rfl (XS.iload X20.here hx rfl (hb hby d5_219) rfl (XS.iload X20.here hx rfl (hb hby d5_221) rfl (XS.icmpYes X20.here hx rfl (pc0 := 223) (pc' := 244) rfl (hb hby d5_223) rfl (flt (by decide : ¬ ((0 : Int32) < (0 : Int32)))).2.1 (by decide) (by decide) (XS.iconst X20.here hx rfl (hb hby d5_244) k))))) ?_
  obtain ⟨fs, hr, hrun, hended, hW, hsame⟩ := X20.leave (v := some (.int (1 : Int32))) (fun h => by rw [Bd.returns] at h; cases h)
  refine Go.fin (retN X20 hx (t := .boolean) Bd.returns (by simp) (hb hby d5_245) hr) hrun hended ⟨_, _, rfl, ?_, ⟨_, rfl⟩, hW, hsame.mono (by decide) (by decide)⟩
  show Q5_3_N Z a1 a2 w_v k_v ln v0 v1 v2 w_NI k_NI hAny k_x x0 x1 x2 h0 n0 _ T20.heap _
  rw [e20]
  exact ⟨jAny, rfl, NJ, K0, E_a1, F_a1_a, F_a1_v, F_a1_s, F_a1_m, F_a1_i, F_a1_h, V_v⟩
 show Go _ _ _ (T15.setTop (mkF m 129 #[vr a1, vr a2, vi 0, vr a2, vi 3, vi 0, us] [])) _
 refine G (fun t k => XS.iload X15.here hx rfl (hb hby d5_129) rfl (XS.iload X15.here hx rfl (hb hby d5_131) rfl (XS.icmpNo X15.here hx rfl (hb hby d5_133) rfl (tlt (by decide : (0 : Int32) < (3 : Int32))).2.1 (XS.aloadN X15.here hx rfl (hb hby d5_136) rfl rfl (XS.iload X15.here hx rfl (hb hby d5_137) rfl k))))) ?_
 obtain ⟨cl22, Ar22, -, Sz22, Ng22, Hs22, -⟩ := id V_row
 have hin22 : ¬ ((0 : Int32) < 0 ∨ cl22.slots.size ≤ ((0 : Int32)).toNatClampNeg) := inb_of Sz22 ⟨by decide, by decide⟩
 refine G (fun t k => X15.iaload hx (j := (0 : Int32)) (v := (.int x0)) (by rw [e15]; exact Ar22.1) (State.isArrayOf_alike hZ.alike Ar22.2.1) Ar22.2.2 hin22 (Has.at Hs22 hin22 rfl) (g := (mkF m 139 #[vr a1, vr a2, vi 0, vr a2, vi 3, vi 0, us] [(.int 0), (.ref a2)])) rfl rfl (hb hby d5_139) _ (XS.istore X15.here hx rfl (hb hby d5_140) rfl (l' := #[vr a1, vr a2, vi 0, vr a2, vi 3, vi 0, vi x0]) rfl k)) ?_
 show Go _ _ _ (T15.setTop (mkF m 142 #[vr a1, vr a2, vi 0, vr a2, vi 3, vi 0, vi x0] [])) _
 refine G (fun t k => XS.iload X15.here hx rfl (hb hby d5_142) rfl (X15.ldcInt hx hown (mvT hZ (wd46 hw)) (g := (mkF m 144 #[vr a1, vr a2, vi 0, vr a2, vi 3, vi 0, vi x0] [(.int x0)])) rfl (hb hby d5_144) _ k)) ?_
 by_cases hc23 : x0 = (2147483647 : Int32)
 ·refine G (fun t k => XS.icmpNo X15.here hx rfl (hb hby d5_146) rfl (teq hc23).2 (XS.aloadN X15.here hx rfl (hb hby d5_149) rfl rfl (XS.dup X15.here hx rfl (hb hby d5_150) rfl rfl k))) ?_
  obtain ⟨T24, X24, e24, st24⟩ := getF X15 hx hZ hown (host := "") (Or.inl (wd57 hw)) Via.refl e15 F_a1_h (g := (mkF m 151 #[vr a1, vr a2, vi 0, vr a2, vi 3, vi 0, vi x0] [(.ref a1), (.ref a1)])) rfl rfl (hb hby d5_151)
  refine G st24 ?_
  refine G (fun t k => XS.iconst X24.here hx rfl (hb hby d5_154) k) ?_
  show Go _ _ _ (T24.setTop (mkF m 155 #[vr a1, vr a2, vi 0, vr a2, vi 3, vi 0, vi x0] [(.int 1), (.int hAny), (.ref a1)])) _
  refine G (fun t k => XS.iadd X24.here hx rfl (hb hby d5_155) rfl k) ?_
  obtain ⟨T25, h25, X25, e25, W25, st25⟩ := putF X24 hx hZ hown (host := "") (Or.inl (wd57 hw)) Via.refl e24 F_a1_h E_a1 (Or.inl (wd58 hw)) (wd7 hw) (ty := .int) (by decide) rfl rfl (g := (mkF m 156 #[vr a1, vr a2, vi 0, vr a2, vi 3, vi 0, vi x0] [(.int (hAny + (1 : Int32))), (.ref a1)])) rfl rfl (hb hby d5_156)
  refine G st25 ?_
  have N25 := Fr.snoc X25 N15 g_a1
  replace E_a1 := E_a1.wr W25
  replace V_NI := V_NI.other W25 ne_w_NI_a1
  replace F_a1_a := F_a1_a.other W25 (sn38 hw)
  replace F_a1_v := F_a1_v.other W25 (sn39 hw)
  replace F_a1_s := F_a1_s.other W25 (sn40 hw)
  replace F_a1_m := F_a1_m.other W25 (sn41 hw)
  replace F_a1_i := F_a1_i.other W25 (sn42 hw)
  replace F_a1_h := F_a1_h.same W25
  replace V_row := V_row.other W25 ne_a2_a1
  replace V_v := V_v.other W25 ne_w_v_a1
  replace Z0 := Nat.le_trans Z0 (Nat.le_of_eq W25.size.symm)
  replace K0 := K0.wr W25 (Or.inl (by simp))
  refine G (fun t k => XS.goto X25.here hx rfl (pc0 := 159) (pc' := 168) rfl (hb hby d5_159) (by decide) (by decide) k) ?_
  show Go _ _ _ (T25.setTop (mkF m 168 #[vr a1, vr a2, vi 0, vr a2, vi 3, vi 0, vi x0] [])) _
  exact J17 _ _ _ (hAny + (1 : Int32)) (0 : Int32) x0 X25 e25 N25 K0 Z0 E_a1 V_NI F_a1_a F_a1_v F_a1_s F_a1_m F_a1_i F_a1_h V_row V_v
 ·refine G (fun t k => XS.icmpYes X15.here hx rfl (pc0 := 146) (pc' := 162) rfl (hb hby d5_146) rfl (feq hc23).2 (by decide) (by decide) (XS.iinc X15.here hx rfl (hb hby d5_162) rfl (l' := #[.val (.ref a1), .val (.ref a2), .val (.int (0 : Int32)), .val (.ref a2), .val (.int (3 : Int32)), .val (.int ((0 : Int32) + (1 : Int32))), .val (.int x0)]) rfl (XS.goto X15.here hx rfl (pc0 := 165) (pc' := 129) rfl (hb hby d5_165) (by decide) (by decide) k))) ?_
  show Go _ _ _ (T15.setTop (mkF m 129 #[vr a1, vr a2, vi 0, vr a2, vi 3, vi 1, vi x0] [])) _
  refine G (fun t k => XS.iload X15.here hx rfl (hb hby d5_129) rfl (XS.iload X15.here hx rfl (hb hby d5_131) rfl (XS.icmpNo X15.here hx rfl (hb hby d5_133) rfl (tlt (by decide : (1 : Int32) < (3 : Int32))).2.1 (XS.aloadN X15.here hx rfl (hb hby d5_136) rfl rfl (XS.iload X15.here hx rfl (hb hby d5_137) rfl k))))) ?_
  obtain ⟨cl26, Ar26, -, Sz26, Ng26, Hs26, -⟩ := id V_row
  have hin26 : ¬ ((1 : Int32) < 0 ∨ cl26.slots.size ≤ ((1 : Int32)).toNatClampNeg) := inb_of Sz26 ⟨by decide, by decide⟩
  refine G (fun t k => X15.iaload hx (j := (1 : Int32)) (v := (.int x1)) (by rw [e15]; exact Ar26.1) (State.isArrayOf_alike hZ.alike Ar26.2.1) Ar26.2.2 hin26 (Has.at Hs26 hin26 rfl) (g := (mkF m 139 #[vr a1, vr a2, vi 0, vr a2, vi 3, vi 1, vi x0] [(.int 1), (.ref a2)])) rfl rfl (hb hby d5_139) _ (XS.istore X15.here hx rfl (hb hby d5_140) rfl (l' := #[vr a1, vr a2, vi 0, vr a2, vi 3, vi 1, vi x1]) rfl k)) ?_
  show Go _ _ _ (T15.setTop (mkF m 142 #[vr a1, vr a2, vi 0, vr a2, vi 3, vi 1, vi x1] [])) _
  refine G (fun t k => XS.iload X15.here hx rfl (hb hby d5_142) rfl (X15.ldcInt hx hown (mvT hZ (wd46 hw)) (g := (mkF m 144 #[vr a1, vr a2, vi 0, vr a2, vi 3, vi 1, vi x1] [(.int x1)])) rfl (hb hby d5_144) _ k)) ?_
  by_cases hc27 : x1 = (2147483647 : Int32)
  ·refine G (fun t k => XS.icmpNo X15.here hx rfl (hb hby d5_146) rfl (teq hc27).2 (XS.aloadN X15.here hx rfl (hb hby d5_149) rfl rfl (XS.dup X15.here hx rfl (hb hby d5_150) rfl rfl k))) ?_
   obtain ⟨T28, X28, e28, st28⟩ := getF X15 hx hZ hown (host := "") (Or.inl (wd57 hw)) Via.refl e15 F_a1_h (g := (mkF m 151 #[vr a1, vr a2, vi 0, vr a2, vi 3, vi 1, vi x1] [(.ref a1), (.ref a1)])) rfl rfl (hb hby d5_151)
   refine G st28 ?_
   refine G (fun t k => XS.iconst X28.here hx rfl (hb hby d5_154) k) ?_
   show Go _ _ _ (T28.setTop (mkF m 155 #[vr a1, vr a2, vi 0, vr a2, vi 3, vi 1, vi x1] [(.int 1), (.int hAny), (.ref a1)])) _
   refine G (fun t k => XS.iadd X28.here hx rfl (hb hby d5_155) rfl k) ?_
   obtain ⟨T29, h29, X29, e29, W29, st29⟩ := putF X28 hx hZ hown (host := "") (Or.inl (wd57 hw)) Via.refl e28 F_a1_h E_a1 (Or.inl (wd58 hw)) (wd7 hw) (ty := .int) (by decide) rfl rfl (g := (mkF m 156 #[vr a1, vr a2, vi 0, vr a2, vi 3, vi 1, vi x1] [(.int (hAny + (1 : Int32))), (.ref a1)])) rfl rfl (hb hby d5_156)
   refine G st29 ?_
   have N29 := Fr.snoc X29 N15 g_a1
   replace E_a1 := E_a1.wr W29
   replace V_NI := V_NI.other W29 ne_w_NI_a1
   replace F_a1_a := F_a1_a.other W29 (sn38 hw)
   replace F_a1_v := F_a1_v.other W29 (sn39 hw)
   replace F_a1_s := F_a1_s.other W29 (sn40 hw)
   replace F_a1_m := F_a1_m.other W29 (sn41 hw)
   replace F_a1_i := F_a1_i.other W29 (sn42 hw)
   replace F_a1_h := F_a1_h.same W29
   replace V_row := V_row.other W29 ne_a2_a1
   replace V_v := V_v.other W29 ne_w_v_a1
   replace Z0 := Nat.le_trans Z0 (Nat.le_of_eq W29.size.symm)
   replace K0 := K0.wr W29 (Or.inl (by simp))
   refine G (fun t k => XS.goto X29.here hx rfl (pc0 := 159) (pc' := 168) rfl (hb hby d5_159) (by decide) (by decide) k) ?_
   show Go _ _ _ (T29.setTop (mkF m 168 #[vr a1, vr a2, vi 0, vr a2, vi 3, vi 1, vi x1] [])) _
   exact J17 _ _ _ (hAny + (1 : Int32)) (1 : Int32) x1 X29 e29 N29 K0 Z0 E_a1 V_NI F_a1_a F_a1_v F_a1_s F_a1_m F_a1_i F_a1_h V_row V_v
  ·refine G (fun t k => XS.icmpYes X15.here hx rfl (pc0 := 146) (pc' := 162) rfl (hb hby d5_146) rfl (feq hc27).2 (by decide) (by decide) (XS.iinc X15.here hx rfl (hb hby d5_162) rfl (l' := #[.val (.ref a1), .val (.ref a2), .val (.int (0 : Int32)), .val (.ref a2), .val (.int (3 : Int32)), .val (.int ((1 : Int32) + (1 : Int32))), .val (.int x1)]) rfl (XS.goto X15.here hx rfl (pc0 := 165) (pc' := 129) rfl (hb hby d5_165) (by decide) (by decide) k))) ?_
   show Go _ _ _ (T15.setTop (mkF m 129 #[vr a1, vr a2, vi 0, vr a2, vi 3, vi 2, vi x1] [])) _
   refine G (fun t k => XS.iload X15.here hx rfl (hb hby d5_129) rfl (XS.iload X15.here hx rfl (hb hby d5_131) rfl (XS.icmpNo X15.here hx rfl (hb hby d5_133) rfl (tlt (by decide : (2 : Int32) < (3 : Int32))).2.1 (XS.aloadN X15.here hx rfl (hb hby d5_136) rfl rfl (XS.iload X15.here hx rfl (hb hby d5_137) rfl k))))) ?_
   obtain ⟨cl30, Ar30, -, Sz30, Ng30, Hs30, -⟩ := id V_row
   have hin30 : ¬ ((2 : Int32) < 0 ∨ cl30.slots.size ≤ ((2 : Int32)).toNatClampNeg) := inb_of Sz30 ⟨by decide, by decide⟩
   refine G (fun t k => X15.iaload hx (j := (2 : Int32)) (v := (.int x2)) (by rw [e15]; exact Ar30.1) (State.isArrayOf_alike hZ.alike Ar30.2.1) Ar30.2.2 hin30 (Has.at Hs30 hin30 rfl) (g := (mkF m 139 #[vr a1, vr a2, vi 0, vr a2, vi 3, vi 2, vi x1] [(.int 2), (.ref a2)])) rfl rfl (hb hby d5_139) _ (XS.istore X15.here hx rfl (hb hby d5_140) rfl (l' := #[vr a1, vr a2, vi 0, vr a2, vi 3, vi 2, vi x2]) rfl k)) ?_
   show Go _ _ _ (T15.setTop (mkF m 142 #[vr a1, vr a2, vi 0, vr a2, vi 3, vi 2, vi x2] [])) _
   refine G (fun t k => XS.iload X15.here hx rfl (hb hby d5_142) rfl (X15.ldcInt hx hown (mvT hZ (wd46 hw)) (g := (mkF m 144 #[vr a1, vr a2, vi 0, vr a2, vi 3, vi 2, vi x2] [(.int x2)])) rfl (hb hby d5_144) _ k)) ?_
   by_cases hc31 : x2 = (2147483647 : Int32)
   ·refine G (fun t k => XS.icmpNo X15.here hx rfl (hb hby d5_146) rfl (teq hc31).2 (XS.aloadN X15.here hx rfl (hb hby d5_149) rfl rfl (XS.dup X15.here hx rfl (hb hby d5_150) rfl rfl k))) ?_
    obtain ⟨T32, X32, e32, st32⟩ := getF X15 hx hZ hown (host := "") (Or.inl (wd57 hw)) Via.refl e15 F_a1_h (g := (mkF m 151 #[vr a1, vr a2, vi 0, vr a2, vi 3, vi 2, vi x2] [(.ref a1), (.ref a1)])) rfl rfl (hb hby d5_151)
    refine G st32 ?_
    refine G (fun t k => XS.iconst X32.here hx rfl (hb hby d5_154) k) ?_
    show Go _ _ _ (T32.setTop (mkF m 155 #[vr a1, vr a2, vi 0, vr a2, vi 3, vi 2, vi x2] [(.int 1), (.int hAny), (.ref a1)])) _
    refine G (fun t k => XS.iadd X32.here hx rfl (hb hby d5_155) rfl k) ?_
    obtain ⟨T33, h33, X33, e33, W33, st33⟩ := putF X32 hx hZ hown (host := "") (Or.inl (wd57 hw)) Via.refl e32 F_a1_h E_a1 (Or.inl (wd58 hw)) (wd7 hw) (ty := .int) (by decide) rfl rfl (g := (mkF m 156 #[vr a1, vr a2, vi 0, vr a2, vi 3, vi 2, vi x2] [(.int (hAny + (1 : Int32))), (.ref a1)])) rfl rfl (hb hby d5_156)
    refine G st33 ?_
    have N33 := Fr.snoc X33 N15 g_a1
    replace E_a1 := E_a1.wr W33
    replace V_NI := V_NI.other W33 ne_w_NI_a1
    replace F_a1_a := F_a1_a.other W33 (sn38 hw)
    replace F_a1_v := F_a1_v.other W33 (sn39 hw)
    replace F_a1_s := F_a1_s.other W33 (sn40 hw)
    replace F_a1_m := F_a1_m.other W33 (sn41 hw)
    replace F_a1_i := F_a1_i.other W33 (sn42 hw)
    replace F_a1_h := F_a1_h.same W33
    replace V_row := V_row.other W33 ne_a2_a1
    replace V_v := V_v.other W33 ne_w_v_a1
    replace Z0 := Nat.le_trans Z0 (Nat.le_of_eq W33.size.symm)
    replace K0 := K0.wr W33 (Or.inl (by simp))
    refine G (fun t k => XS.goto X33.here hx rfl (pc0 := 159) (pc' := 168) rfl (hb hby d5_159) (by decide) (by decide) k) ?_
    show Go _ _ _ (T33.setTop (mkF m 168 #[vr a1, vr a2, vi 0, vr a2, vi 3, vi 2, vi x2] [])) _
    exact J17 _ _ _ (hAny + (1 : Int32)) (2 : Int32) x2 X33 e33 N33 K0 Z0 E_a1 V_NI F_a1_a F_a1_v F_a1_s F_a1_m F_a1_i F_a1_h V_row V_v
   ·refine G (fun t k => XS.icmpYes X15.here hx rfl (pc0 := 146) (pc' := 162) rfl (hb hby d5_146) rfl (feq hc31).2 (by decide) (by decide) (XS.iinc X15.here hx rfl (hb hby d5_162) rfl (l' := #[.val (.ref a1), .val (.ref a2), .val (.int (0 : Int32)), .val (.ref a2), .val (.int (3 : Int32)), .val (.int ((2 : Int32) + (1 : Int32))), .val (.int x2)]) rfl (XS.goto X15.here hx rfl (pc0 := 165) (pc' := 129) rfl (hb hby d5_165) (by decide) (by decide) k))) ?_
    show Go _ _ _ (T15.setTop (mkF m 129 #[vr a1, vr a2, vi 0, vr a2, vi 3, vi 3, vi x2] [])) _
    refine G (fun t k => XS.iload X15.here hx rfl (hb hby d5_129) rfl (XS.iload X15.here hx rfl (hb hby d5_131) rfl (XS.icmpYes X15.here hx rfl (pc0 := 133) (pc' := 168) rfl (hb hby d5_133) rfl (flt (by decide : ¬ ((3 : Int32) < (3 : Int32)))).2.1 (by decide) (by decide) k))) ?_
    show Go _ _ _ (T15.setTop (mkF m 168 #[vr a1, vr a2, vi 0, vr a2, vi 3, vi 3, vi x2] [])) _
    exact J17 _ _ _ hAny (3 : Int32) x2 X15 e15 N15 K0 Z0 E_a1 V_NI F_a1_a F_a1_v F_a1_s F_a1_m F_a1_i F_a1_h V_row V_v
def Q5_3_R (Z : State) (a1 : Addr) (a2 : Addr) (w_v : Addr) (k_v : ClassId) (ln : Int32) (v0 : Int32) (v1 : Int32) (v2 : Int32) (w_NI : Addr) (k_NI : ClassId) (hAny : Int32) (k_x : ClassId) (x0 : Int32) (x1 : Int32) (x2 : Int32) (w_m : Addr) (w_pos : Addr) (w_sl : Addr) (w_nx : Addr) (k_p : ClassId) (k_s : ClassId) (k_n : ClassId) (h0 : Heap) (n0 : Nat) (v : Option Value) (h : Heap) (L : List Loc) : Prop := ∃ z_5_3_R_holdingAny : Int32, v = some (.int (1 : Int32)) ∧ Fr n0 L ∧ Keep h0 h [w_v, w_nx, w_sl, w_m, a1] ∧ Exa Z h a1 RC ∧ Fld Z h a1 RC "arity" "I" (.int (3 : Int32)) ∧ Fld Z h a1 RC "values" "[I" (.ref w_v) ∧ Fld Z h a1 RC "size" "I" (.int (1 : Int32)) ∧ Fld Z h a1 RC "members" RI (.ref w_m) ∧ Fld Z h a1 RC "indexes" RJ (.ref w_NI) ∧ Fld Z h a1 RC "holdingAny" "I" (.int z_5_3_R_holdingAny) ∧ Arv Z h w_v k_v .int ln [(.int x0), (.int x1), (.int x2)] (.int (0 : Int32))
theorem ef5_3_R (m : MethodId) (x0 : Addr) (x1 : Addr) : entryFrame m #[(.ref x0), (.ref x1)] 7 = mkF m 0 #[.val (.ref x0), .val (.ref x1), .unset, .unset, .unset, .unset, .unset] [] := by first | (simp [entryFrame, mkF, argsToLocals, Value.category]; done) | rfl
theorem rm5_3_R (l : Launch) (Z : State) (a0 : Array Value) (hw : HW a0 Z) (ws : List Jvm.Cond) (a1 : Addr) (a2 : Addr) (w_v : Addr) (k_v : ClassId) (ln : Int32) (v0 : Int32) (v1 : Int32) (v2 : Int32) (w_NI : Addr) (k_NI : ClassId) (hAny : Int32) (k_x : ClassId) (x0 : Int32) (x1 : Int32) (x2 : Int32) (w_m : Addr) (w_pos : Addr) (w_sl : Addr) (w_nx : Addr) (k_p : ClassId) (k_s : ClassId) (k_n : ClassId) (h0 : Heap) (n0 : Nat) (Z0 : n0 ≤ h0.size) (E_a1 : Exa Z h0 a1 RC) (V_v : Arv Z h0 w_v k_v .int ln [(.int v0), (.int v1), (.int v2)] (.int (0 : Int32))) (V_NI : Arv Z h0 w_NI k_NI (.object IC) (0 : Int32) [] .null) (F_a1_a : Fld Z h0 a1 RC "arity" "I" (.int (3 : Int32))) (F_a1_v : Fld Z h0 a1 RC "values" "[I" (.ref w_v)) (F_a1_s : Fld Z h0 a1 RC "size" "I" (.int (0 : Int32))) (F_a1_m : Fld Z h0 a1 RC "members" RI (.ref w_m)) (F_a1_i : Fld Z h0 a1 RC "indexes" RJ (.ref w_NI)) (F_a1_h : Fld Z h0 a1 RC "holdingAny" "I" (.int hAny)) (V_row : Arv Z h0 a2 k_x .int (3 : Int32) [(.int x0), (.int x1), (.int x2)] (.int (0 : Int32))) (E_w_m : Exa Z h0 w_m IC) (F_w_m_p : Fld Z h0 w_m IC "positions" "[I" (.ref w_pos)) (F_w_m_l : Fld Z h0 w_m IC "slots" "[I" (.ref w_sl)) (F_w_m_next : Fld Z h0 w_m IC "next" "[I" (.ref w_nx)) (F_w_m_keys : Fld Z h0 w_m IC "keys" "I" (.int (0 : Int32))) (V_pos : Arv Z h0 w_pos k_p .int (3 : Int32) [(.int (0 : Int32)), (.int (1 : Int32)), (.int (2 : Int32))] (.int (0 : Int32))) (V_sl : Arh Z h0 w_sl k_s .int (128 : Int32) [] [] (.int (0 : Int32))) (V_nx : Arv Z h0 w_nx k_n .int (16 : Int32) [] (.int (0 : Int32))) (F_w_m_this_0 : Fld Z h0 w_m IC "this$0" RL (.ref a1)) (hln : ¬ ln < (12 : Int32)) (ne_w_v_a1 : w_v ≠ a1) (ne_w_NI_a1 : w_NI ≠ a1) (ne_w_NI_w_v : w_NI ≠ w_v) (ne_a2_a1 : a2 ≠ a1) (ne_a2_w_v : a2 ≠ w_v) (ne_a2_w_NI : a2 ≠ w_NI) (ne_w_m_a1 : w_m ≠ a1) (ne_w_m_w_v : w_m ≠ w_v) (ne_w_m_w_NI : w_m ≠ w_NI) (ne_w_m_a2 : w_m ≠ a2) (ne_w_pos_a1 : w_pos ≠ a1) (ne_w_pos_w_v : w_pos ≠ w_v) (ne_w_pos_w_NI : w_pos ≠ w_NI) (ne_w_pos_a2 : w_pos ≠ a2) (ne_w_pos_w_m : w_pos ≠ w_m) (ne_w_sl_a1 : w_sl ≠ a1) (ne_w_sl_w_v : w_sl ≠ w_v) (ne_w_sl_w_NI : w_sl ≠ w_NI) (ne_w_sl_a2 : w_sl ≠ a2) (ne_w_sl_w_m : w_sl ≠ w_m) (ne_w_sl_w_pos : w_sl ≠ w_pos) (ne_w_nx_a1 : w_nx ≠ a1) (ne_w_nx_w_v : w_nx ≠ w_v) (ne_w_nx_w_NI : w_nx ≠ w_NI) (ne_w_nx_a2 : w_nx ≠ a2) (ne_w_nx_w_m : w_nx ≠ w_m) (ne_w_nx_w_pos : w_nx ≠ w_pos) (ne_w_nx_w_sl : w_nx ≠ w_sl) (g_w_v : n0 ≤ w_v) (g_w_nx : n0 ≤ w_nx) (g_w_sl : n0 ≤ w_sl) (g_w_m : n0 ≤ w_m) (g_a1 : n0 ≤ a1) :
  MetFree l (⟨RC, "add", "([I)Z"⟩ : MethodName) (head1 (Jvm.Cond.code (⟨RC, "add", "([I)Z"⟩ : MethodName) cB5 7 (some .boolean) :: ws) (Rm 3 0 0 46)) (Pr Z h0 #[(.ref a1), (.ref a2)]) Tr (fun _ U o U' => ∃ v L, o = .returned v ∧ Q5_3_R Z a1 a2 w_v k_v ln v0 v1 v2 w_NI k_NI hAny k_x x0 x1 x2 w_m w_pos w_sl w_nx k_p k_s k_n h0 n0 v U'.heap L ∧ FrameEnd U o U' L (Rm 3 0 0 46).cells (Rm 3 0 0 46).slots) := by
 refine MetFree.of_bodySF (plainFor_of_name pn0) hisR ?_
 intro p e s m args below meth c s₁ Bd hml0 hP hK
 obtain ⟨rfl, hZ, hh⟩ := hP
 have hx := Bd.exec
 have hby := Bd.bytes
 have hml : c.maxLocals = 7 := hml0
 have hown : s.vm.findClass RC = some m.cls := findClass_of_methodNamed Bd.named
 have hnm := (name_of_methodNamed Bd.named Bd.method).1
 have X0 : Stand p l e (Rm 3 0 0 46) s m #[(.ref a1), (.ref a2)] below meth c s₁ [] 0 0 := Stand.of_body Bd
 have e0 : s₁.heap = h0 := by rw [← hh, Bd.state]; rfl
 have N0 := Fr.nil n0
 have K0 : Keep h0 h0 [w_v, w_nx, w_sl, w_m, a1] := Keep.refl h0 _
 refine G (P := fun o U' => ∃ v L, o = .returned v ∧ Q5_3_R Z a1 a2 w_v k_v ln v0 v1 v2 w_NI k_NI hAny k_x x0 x1 x2 w_m w_pos w_sl w_nx k_p k_s k_n h0 n0 v U'.heap L ∧ FrameEnd s o U' L (Rm 3 0 0 46).cells (Rm 3 0 0 46).slots) (fun t k => castTop (ef5_3_R m a1 a2) k) ?_
 show Go _ _ _ (s₁.setTop (mkF m 0 #[vr a1, vr a2, us, us, us, us, us] [])) _
 refine G (fun t k => XS.aloadN X0.here hx rfl (hb hby d5_0) rfl rfl k) ?_
 obtain ⟨T1, X1, e1, st1⟩ := getF X0 hx hZ hown (host := "") (Or.inl (wd30 hw)) Via.refl e0 F_a1_m (g := (mkF m 1 #[vr a1, vr a2, us, us, us, us, us] [(.ref a1)])) rfl rfl (hb hby d5_1)
 refine G st1 ?_
 refine G (fun t k => XS.ifnonnullYes X1.here hx rfl (pc0 := 4) (pc' := 17) rfl (hb hby d5_4) rfl (by decide) (by decide) (XS.aloadN X1.here hx rfl (hb hby d5_17) rfl rfl k)) ?_
 obtain ⟨T2, X2, e2, st2⟩ := getF X1 hx hZ hown (host := "") (Or.inl (wd28 hw)) Via.refl e1 F_a1_s (g := (mkF m 18 #[vr a1, vr a2, us, us, us, us, us] [(.ref a1)])) rfl rfl (hb hby d5_18)
 refine G st2 ?_
 refine G (fun t k => XS.iconst X2.here hx rfl (hb hby d5_21) (XS.iadd X2.here hx rfl (hb hby d5_22) rfl k)) ?_
 show Go _ _ _ (T2.setTop (mkF m 23 #[vr a1, vr a2, us, us, us, us, us] [(.int 1)])) _
 refine G (fun t k => XS.aloadN X2.here hx rfl (hb hby d5_23) rfl rfl k) ?_
 obtain ⟨T3, X3, e3, st3⟩ := getF X2 hx hZ hown (host := "") (Or.inl (wd19 hw)) Via.refl e2 F_a1_a (g := (mkF m 24 #[vr a1, vr a2, us, us, us, us, us] [(.ref a1), (.int 1)])) rfl rfl (hb hby d5_24)
 refine G st3 ?_
 refine G (fun t k => XS.imul X3.here hx rfl (hb hby d5_27) rfl (XS.aloadN X3.here hx rfl (hb hby d5_28) rfl rfl k)) ?_
 obtain ⟨T4, X4, e4, st4⟩ := getF X3 hx hZ hown (host := "") (Or.inl (wd21 hw)) Via.refl e3 F_a1_v (g := (mkF m 29 #[vr a1, vr a2, us, us, us, us, us] [(.ref a1), (.int 3)])) rfl rfl (hb hby d5_29)
 refine G st4 ?_
 obtain ⟨cl5, Ar5, -, Sz5, Ng5, -, -⟩ := id V_v
 refine G (fun t k => X4.arraylength hx (by rw [e4]; exact Ar5.1) (State.isArrayOf_alike hZ.alike Ar5.2.1) (g := (mkF m 32 #[vr a1, vr a2, us, us, us, us, us] [(.ref w_v), (.int 3)])) rfl rfl (hb hby d5_32) _ k) ?_
 rw [len_of Sz5 Ng5]
 have hf6 : ¬ (ln < (3 : Int32)) := own_nl (3 : Int32) (12 : Int32) _ (by decide) hln
 refine G (fun t k => XS.icmpYes X4.here hx rfl (pc0 := 33) (pc' := 63) rfl (hb hby d5_33) rfl (flt hf6).2.2.2 (by decide) (by decide) k) ?_
 show Go _ _ _ (T4.setTop (mkF m 63 #[vr a1, vr a2, us, us, us, us, us] [])) _
 refine G (fun t k => XS.aloadN X4.here hx rfl (hb hby d5_63) rfl rfl (XS.iconst X4.here hx rfl (hb hby d5_64) (XS.aloadN X4.here hx rfl (hb hby d5_65) rfl rfl k))) ?_
 obtain ⟨T7, X7, e7, st7⟩ := getF X4 hx hZ hown (host := "") (Or.inl (wd21 hw)) Via.refl e4 F_a1_v (g := (mkF m 66 #[vr a1, vr a2, us, us, us, us, us] [(.ref a1), (.int 0), (.ref a2)])) rfl rfl (hb hby d5_66)
 refine G st7 ?_
 refine G (fun t k => XS.aloadN X7.here hx rfl (hb hby d5_69) rfl rfl k) ?_
 obtain ⟨T8, X8, e8, st8⟩ := getF X7 hx hZ hown (host := "") (Or.inl (wd28 hw)) Via.refl e7 F_a1_s (g := (mkF m 70 #[vr a1, vr a2, us, us, us, us, us] [(.ref a1), (.ref w_v), (.int 0), (.ref a2)])) rfl rfl (hb hby d5_70)
 refine G st8 ?_
 refine G (fun t k => XS.aloadN X8.here hx rfl (hb hby d5_73) rfl rfl k) ?_
 show Go _ _ _ (T8.setTop (mkF m 74 #[vr a1, vr a2, us, us, us, us, us] [(.ref a1), (.int 0), (.ref w_v), (.int 0), (.ref a2)])) _
 obtain ⟨T9, X9, e9, st9⟩ := getF X8 hx hZ hown (host := "") (Or.inl (wd19 hw)) Via.refl e8 F_a1_a (g := (mkF m 74 #[vr a1, vr a2, us, us, us, us, us] [(.ref a1), (.int 0), (.ref w_v), (.int 0), (.ref a2)])) rfl rfl (hb hby d5_74)
 refine G st9 ?_
 refine G (fun t k => XS.imul X9.here hx rfl (hb hby d5_77) rfl (XS.aloadN X9.here hx rfl (hb hby d5_78) rfl rfl k)) ?_
 obtain ⟨T10, X10, e10, st10⟩ := getF X9 hx hZ hown (host := "") (Or.inl (wd19 hw)) Via.refl e9 F_a1_a (g := (mkF m 79 #[vr a1, vr a2, us, us, us, us, us] [(.ref a1), (.int 0), (.ref w_v), (.int 0), (.ref a2)])) rfl rfl (hb hby d5_79)
 refine G st10 ?_
 have V_v_pre := V_v
 obtain ⟨T11, h11, L11, X11, e11, N11, K11, B11, st11⟩ := cpA X10 hx hZ hown (wd42 hw) (wd45 hw) (wd43 hw) (wd44 hw) e10 V_row V_v (us := [(.int x0), (.int x1), (.int x2)]) (Or.inl ⟨rfl, rfl⟩) (sp := (0 : Int32)) (dp := (0 : Int32)) (nn := (3 : Int32)) (by decide) (by decide) (by decide) (by decide) (own_cpl 0 3 (12 : Int32) _ (by decide) (by decide) hln) rfl (Nat.le_of_ble_eq_true rfl) N0 g_w_v (g := (mkF m 82 #[vr a1, vr a2, us, us, us, us, us] [(.int 3), (.int 0), (.ref w_v), (.int 0), (.ref a2)])) rfl (by rw [hml]; rfl) rfl (hb hby d5_82) (by decide) (W := 0) (by show 2 * 0 + _ ≤ _; exact Nat.le_of_eq rfl) (by decide)
 refine G st11 ?_
 replace E_a1 := E_a1.keep K11
 replace V_NI := V_NI.keep K11 (ninS ne_w_NI_w_v nin0)
 replace F_a1_a := F_a1_a.keep K11 (ninS (Ne.symm ne_w_v_a1) nin0)
 replace F_a1_v := F_a1_v.keep K11 (ninS (Ne.symm ne_w_v_a1) nin0)
 replace F_a1_s := F_a1_s.keep K11 (ninS (Ne.symm ne_w_v_a1) nin0)
 replace F_a1_m := F_a1_m.keep K11 (ninS (Ne.symm ne_w_v_a1) nin0)
 replace F_a1_i := F_a1_i.keep K11 (ninS (Ne.symm ne_w_v_a1) nin0)
 replace F_a1_h := F_a1_h.keep K11 (ninS (Ne.symm ne_w_v_a1) nin0)
 replace V_row := V_row.keep K11 (ninS ne_a2_w_v nin0)
 replace E_w_m := E_w_m.keep K11
 replace F_w_m_p := F_w_m_p.keep K11 (ninS ne_w_m_w_v nin0)
 replace F_w_m_l := F_w_m_l.keep K11 (ninS ne_w_m_w_v nin0)
 replace F_w_m_next := F_w_m_next.keep K11 (ninS ne_w_m_w_v nin0)
 replace F_w_m_keys := F_w_m_keys.keep K11 (ninS ne_w_m_w_v nin0)
 replace V_pos := V_pos.keep K11 (ninS ne_w_pos_w_v nin0)
 replace V_sl := V_sl.keep K11 (ninS ne_w_sl_w_v nin0)
 replace V_nx := V_nx.keep K11 (ninS ne_w_nx_w_v nin0)
 replace F_w_m_this_0 := F_w_m_this_0.keep K11 (ninS ne_w_m_w_v nin0)
 replace Z0 := Nat.le_trans Z0 K11.1
 replace K0 := K0.trans K11 (allS (Or.inl (by simp)) all0)
 have V_v : Arv Z h11 w_v k_v .int ln [(.int x0), (.int x1), (.int x2)] (.int (0 : Int32)) := B11
 refine G (fun t k => XS.aloadN X11.here hx rfl (hb hby d5_85) rfl rfl k) ?_
 obtain ⟨T12, X12, e12, st12⟩ := getF X11 hx hZ hown (host := "") (Or.inl (wd30 hw)) Via.refl e11 F_a1_m (g := (mkF m 86 #[vr a1, vr a2, us, us, us, us, us] [(.ref a1)])) rfl rfl (hb hby d5_86)
 refine G st12 ?_
 show Go _ _ _ (T12.setTop (mkF m 89 #[vr a1, vr a2, us, us, us, us, us] [(.ref w_m)])) _
 refine G (fun t k => XS.ifnullNo X12.here hx rfl (hb hby d5_89) rfl (XS.aloadN X12.here hx rfl (hb hby d5_92) rfl rfl k)) ?_
 obtain ⟨T13, X13, e13, st13⟩ := getF X12 hx hZ hown (host := "") (Or.inl (wd30 hw)) Via.refl e12 F_a1_m (g := (mkF m 93 #[vr a1, vr a2, us, us, us, us, us] [(.ref a1)])) rfl rfl (hb hby d5_93)
 refine G st13 ?_
 refine G (fun t k => XS.aloadN X13.here hx rfl (hb hby d5_96) rfl rfl k) ?_
 obtain ⟨T14, X14, e14, st14⟩ := getF X13 hx hZ hown (host := "") (Or.inl (wd28 hw)) Via.refl e13 F_a1_s (g := (mkF m 97 #[vr a1, vr a2, us, us, us, us, us] [(.ref a1), (.ref w_m)])) rfl rfl (hb hby d5_97)
 refine G st14 ?_
 obtain ⟨cq15, kq15, q15a, q15b, q15c⟩ := isOf hZ e14 E_w_m
 obtain ⟨_, _, ⟨T15, L15, k15, n15⟩, -, X15, ⟨Lc15, hQ15, l15, y15, z15⟩, st15⟩ := X14.virtualBack hx (y := (⟨IC, "insertNew", "(I)Z"⟩ : MethodName)) (z := (⟨IC, "insertNew", "(I)Z"⟩ : MethodName)) hown (mvT hZ (wd114 hw)) (mvT hZ (wd115 hw)) (notFace_of_selects (args := #[]) (mvT hZ (wd117 hw))) (mvT hZ (wd117 hw)) (mvT hZ (wd116 hw)) (by decide) (backOf (W := 0) (rm19_3 l Z a0 hw [] w_m a1 w_pos w_sl w_nx k_p k_s k_n w_v k_v ln x0 x1 x2 h11 n0 Z0 E_w_m F_w_m_p F_w_m_l F_w_m_next F_w_m_keys V_pos V_sl V_nx F_w_m_this_0 V_v F_a1_v F_a1_a (by first | assumption | decide | omega) ne_w_pos_w_m ne_w_sl_w_m ne_w_sl_w_pos ne_w_nx_w_m ne_w_nx_w_pos ne_w_nx_w_sl (Ne.symm ne_w_m_a1) (Ne.symm ne_w_pos_a1) (Ne.symm ne_w_sl_a1) (Ne.symm ne_w_nx_a1) (Ne.symm ne_w_m_w_v) (Ne.symm ne_w_pos_w_v) (Ne.symm ne_w_sl_w_v) (Ne.symm ne_w_nx_w_v) ne_w_v_a1 g_w_nx g_w_sl g_w_m) hZ (wd118 hw) (wd85 hw) (by decide) (by decide)) q15a q15c (g := (mkF m 100 #[vr a1, vr a2, us, us, us, us, us] [(.int 0), (.ref w_m)])) rfl (by rw [hml]; rfl) (Steps.refl _) (argsL := [(.int (0 : Int32))]) (rest := []) (lenOf pd6 rfl) rfl (by show 2 * 0 + _ ≤ _; exact Nat.le_of_eq rfl) (hb hby d5_100) (fun _ _ => ⟨rfl, e14, (by decide : 0 + 0 ≤ _), (by decide : 0 + 0 ≤ _)⟩)
 dsimp only [Pt.U, Pt.locs, Pt.cells, Pt.slots] at X15 l15 y15 z15 st15 hQ15
 subst l15 y15 z15
 refine Go.tr st15 ?_
 have E_w_m_pre := E_w_m
 have F_w_m_positions_pre := F_w_m_p
 have F_w_m_slots_pre := F_w_m_l
 have F_w_m_next_pre := F_w_m_next
 have F_w_m_keys_pre := F_w_m_keys
 have V_sl_pre := V_sl
 have V_nx_pre := V_nx
 have F_w_m_this_0_pre := F_w_m_this_0
 obtain ⟨h15, e15⟩ : ∃ z, T15.heap = z := ⟨_, rfl⟩
 rw [e15] at hQ15
 obtain ⟨rfl, N15q, K15⟩ := hQ15
 replace E_a1 := E_a1.keep K15
 replace V_NI := V_NI.keep K15 (ninS (Ne.symm ne_w_m_w_NI) (ninS (Ne.symm ne_w_sl_w_NI) (ninS (Ne.symm ne_w_nx_w_NI) nin0)))
 replace F_a1_a := F_a1_a.keep K15 (ninS (Ne.symm ne_w_m_a1) (ninS (Ne.symm ne_w_sl_a1) (ninS (Ne.symm ne_w_nx_a1) nin0)))
 replace F_a1_v := F_a1_v.keep K15 (ninS (Ne.symm ne_w_m_a1) (ninS (Ne.symm ne_w_sl_a1) (ninS (Ne.symm ne_w_nx_a1) nin0)))
 replace F_a1_s := F_a1_s.keep K15 (ninS (Ne.symm ne_w_m_a1) (ninS (Ne.symm ne_w_sl_a1) (ninS (Ne.symm ne_w_nx_a1) nin0)))
 replace F_a1_m := F_a1_m.keep K15 (ninS (Ne.symm ne_w_m_a1) (ninS (Ne.symm ne_w_sl_a1) (ninS (Ne.symm ne_w_nx_a1) nin0)))
 replace F_a1_i := F_a1_i.keep K15 (ninS (Ne.symm ne_w_m_a1) (ninS (Ne.symm ne_w_sl_a1) (ninS (Ne.symm ne_w_nx_a1) nin0)))
 replace F_a1_h := F_a1_h.keep K15 (ninS (Ne.symm ne_w_m_a1) (ninS (Ne.symm ne_w_sl_a1) (ninS (Ne.symm ne_w_nx_a1) nin0)))
 replace V_row := V_row.keep K15 (ninS (Ne.symm ne_w_m_a2) (ninS (Ne.symm ne_w_sl_a2) (ninS (Ne.symm ne_w_nx_a2) nin0)))
 replace E_w_m := E_w_m.keep K15
 replace V_pos := V_pos.keep K15 (ninS ne_w_pos_w_m (ninS (Ne.symm ne_w_sl_w_pos) (ninS (Ne.symm ne_w_nx_w_pos) nin0)))
 replace V_v := V_v.keep K15 (ninS (Ne.symm ne_w_m_w_v) (ninS (Ne.symm ne_w_sl_w_v) (ninS (Ne.symm ne_w_nx_w_v) nin0)))
 replace Z0 := Nat.le_trans Z0 K15.1
 replace K0 := K0.trans K15 (allS (Or.inl (by simp)) (allS (Or.inl (by simp)) (allS (Or.inl (by simp)) all0)))
 have N15 := Fr.app N11 N15q
 refine G (fun t k => XS.ifYes X15.here hx rfl (pc0 := 103) (pc' := 108) rfl (hb hby d5_103) rfl ((if0 _ _).trans (feq (by decide : ¬ ((1 : Int32) = (0 : Int32)))).2) (by decide) (by decide) k) ?_
 show Go _ _ _ (T15.setTop (mkF m 108 #[vr a1, vr a2, us, us, us, us, us] [])) _
 refine G (fun t k => XS.aloadN X15.here hx rfl (hb hby d5_108) rfl rfl (XS.dup X15.here hx rfl (hb hby d5_109) rfl rfl k)) ?_
 obtain ⟨T16, X16, e16, st16⟩ := getF X15 hx hZ hown (host := "") (Or.inl (wd28 hw)) Via.refl e15 F_a1_s (g := (mkF m 110 #[vr a1, vr a2, us, us, us, us, us] [(.ref a1), (.ref a1)])) rfl rfl (hb hby d5_110)
 refine G st16 ?_
 refine G (fun t k => XS.dupX1 X16.here hx rfl (hb hby d5_113) rfl rfl rfl (XS.iconst X16.here hx rfl (hb hby d5_114) (XS.iadd X16.here hx rfl (hb hby d5_115) rfl k))) ?_
 obtain ⟨T17, h17, X17, e17, W17, st17⟩ := putF X16 hx hZ hown (host := "") (Or.inl (wd28 hw)) Via.refl e16 F_a1_s E_a1 (Or.inl (wd29 hw)) (wd7 hw) (ty := .int) (by decide) rfl rfl (g := (mkF m 116 #[vr a1, vr a2, us, us, us, us, us] [(.int 1), (.ref a1), (.int 0)])) rfl rfl (hb hby d5_116)
 refine G st17 ?_
 have N17 := Fr.snoc X17 N15 g_a1
 replace E_a1 := E_a1.wr W17
 replace V_NI := V_NI.other W17 ne_w_NI_a1
 replace F_a1_a := F_a1_a.other W17 (sn33 hw)
 replace F_a1_v := F_a1_v.other W17 (sn34 hw)
 replace F_a1_s := F_a1_s.same W17
 replace F_a1_m := F_a1_m.other W17 (sn35 hw)
 replace F_a1_i := F_a1_i.other W17 (sn36 hw)
 replace F_a1_h := F_a1_h.other W17 (sn37 hw)
 replace V_row := V_row.other W17 ne_a2_a1
 replace E_w_m := E_w_m.wr W17
 replace V_pos := V_pos.other W17 ne_w_pos_a1
 replace V_v := V_v.other W17 ne_w_v_a1
 replace Z0 := Nat.le_trans Z0 (Nat.le_of_eq W17.size.symm)
 replace K0 := K0.wr W17 (Or.inl (by simp))
 show Go _ _ _ (T17.setTop (mkF m 119 #[vr a1, vr a2, us, us, us, us, us] [(.int 0)])) _
 refine G (fun t k => XS.istoreN X17.here hx rfl (hb hby d5_119) rfl (l' := #[vr a1, vr a2, vi 0, us, us, us, us]) rfl (XS.aloadN X17.here hx rfl (hb hby d5_120) rfl rfl (XS.astoreN X17.here hx rfl (hb hby d5_121) rfl rfl (l' := #[vr a1, vr a2, vi 0, vr a2, us, us, us]) rfl (XS.aloadN X17.here hx rfl (hb hby d5_122) rfl rfl k)))) ?_
 obtain ⟨cl18, Ar18, -, Sz18, Ng18, -, -⟩ := id V_row
 refine G (fun t k => X17.arraylength hx (by rw [e17]; exact Ar18.1) (State.isArrayOf_alike hZ.alike Ar18.2.1) (g := (mkF m 123 #[vr a1, vr a2, vi 0, vr a2, us, us, us] [(.ref a2)])) rfl rfl (hb hby d5_123) _ k) ?_
 rw [len_of Sz18 Ng18]
 refine G (fun t k => XS.istore X17.here hx rfl (hb hby d5_124) rfl (l' := #[vr a1, vr a2, vi 0, vr a2, vi 3, us, us]) rfl (XS.iconst X17.here hx rfl (hb hby d5_126) k)) ?_
 show Go _ _ _ (T17.setTop (mkF m 127 #[vr a1, vr a2, vi 0, vr a2, vi 3, us, us] [(.int 0)])) _
 refine G (fun t k => XS.istore X17.here hx rfl (hb hby d5_127) rfl (l' := #[vr a1, vr a2, vi 0, vr a2, vi 3, vi 0, us]) rfl k) ?_
 show Go _ _ _ (T17.setTop (mkF m 129 #[vr a1, vr a2, vi 0, vr a2, vi 3, vi 0, us] [])) _
 have J19 : ∀ (TJ : State) (locsJ : List Loc) (hJ : Heap) (jAny : Int32) (j5 : Int32) (j6 : Int32), Stand p l e (Rm 3 0 0 46) s m #[(.ref a1), (.ref a2)] below meth c TJ locsJ 0 0 → TJ.heap = hJ → Fr n0 locsJ → Keep h0 hJ [w_v, w_nx, w_sl, w_m, a1] → n0 ≤ hJ.size → Exa Z hJ a1 RC → Arv Z hJ w_NI k_NI (.object IC) (0 : Int32) [] .null → Fld Z hJ a1 RC "arity" "I" (.int (3 : Int32)) → Fld Z hJ a1 RC "values" "[I" (.ref w_v) → Fld Z hJ a1 RC "size" "I" (.int (1 : Int32)) → Fld Z hJ a1 RC "members" RI (.ref w_m) → Fld Z hJ a1 RC "indexes" RJ (.ref w_NI) → Fld Z hJ a1 RC "holdingAny" "I" (.int jAny) → Arv Z hJ a2 k_x .int (3 : Int32) [(.int x0), (.int x1), (.int x2)] (.int (0 : Int32)) → Exa Z hJ w_m IC → Arv Z hJ w_pos k_p .int (3 : Int32) [(.int (0 : Int32)), (.int (1 : Int32)), (.int (2 : Int32))] (.int (0 : Int32)) → Arv Z hJ w_v k_v .int ln [(.int x0), (.int x1), (.int x2)] (.int (0 : Int32)) → Go p.tables e below (TJ.setTop (mkF m 168 #[vr a1, vr a2, vi 0, vr a2, vi 3, vi j5, vi j6] [])) (fun o U' => ∃ v L, o = .returned v ∧ Q5_3_R Z a1 a2 w_v k_v ln v0 v1 v2 w_NI k_NI hAny k_x x0 x1 x2 w_m w_pos w_sl w_nx k_p k_s k_n h0 n0 v U'.heap L ∧ FrameEnd s o U' L (Rm 3 0 0 46).cells (Rm 3 0 0 46).slots) := by
  intro TJ locsJ hJ jAny j5 j6 XJ eJ NJ K0 Z0 E_a1 V_NI F_a1_a F_a1_v F_a1_s F_a1_m F_a1_i F_a1_h V_row E_w_m V_pos V_v
  refine G (fun t k => XS.aloadN XJ.here hx rfl (hb hby d5_168) rfl rfl k) ?_
  obtain ⟨T20, X20, e20, st20⟩ := getF XJ hx hZ hown (host := "") (Or.inl (wd30 hw)) Via.refl eJ F_a1_m (g := (mkF m 169 #[vr a1, vr a2, vi 0, vr a2, vi 3, vi j5, vi j6] [(.ref a1)])) rfl rfl (hb hby d5_169)
  refine G st20 ?_
  refine G (fun t k => XS.ifnonnullYes X20.here hx rfl (pc0 := 172) (pc' := 207) rfl (hb hby d5_172) rfl (by decide) (by decide) (XS.aloadN X20.here hx rfl (hb hby d5_207) rfl rfl k)) ?_
  obtain ⟨T21, X21, e21, st21⟩ := getF X20 hx hZ hown (host := "") (Or.inl (wd17 hw)) Via.refl e20 F_a1_i (g := (mkF m 208 #[vr a1, vr a2, vi 0, vr a2, vi 3, vi j5, vi j6] [(.ref a1)])) rfl rfl (hb hby d5_208)
  refine G st21 ?_
  refine G (fun t k => XS.astoreN X21.here hx rfl (hb hby d5_211) rfl rfl (l' := #[vr a1, vr a2, vi 0, vr w_NI, vi 3, vi j5, vi j6]) rfl (XS.aloadN X21.here hx rfl (hb hby d5_212) rfl rfl k)) ?_
  show Go _ _ _ (T21.setTop (mkF m 213 #[vr a1, vr a2, vi 0, vr w_NI, vi 3, vi j5, vi j6] [(.ref w_NI)])) _
  obtain ⟨cl22, Ar22, -, Sz22, Ng22, -, -⟩ := id V_NI
  refine G (fun t k => X21.arraylength hx (by rw [e21]; exact Ar22.1) (State.isArrayOf_alike hZ.alike Ar22.2.1) (g := (mkF m 213 #[vr a1, vr a2, vi 0, vr w_NI, vi 3, vi j5, vi j6] [(.ref w_NI)])) rfl rfl (hb hby d5_213) _ k) ?_
  rw [len_of Sz22 Ng22]
  refine G (fun t k => XS.istore X21.here hx rfl (hb hby d5_214) rfl (l' := #[vr a1, vr a2, vi 0, vr w_NI, vi 0, vi j5, vi j6]) rfl (XS.iconst X21.here hx rfl (hb hby d5_216) (XS.istore X21.here hx rfl (hb hby d5_217) rfl (l' := #[vr a1, vr a2, vi 0, vr w_NI, vi 0, vi 0, vi j6]) rfl (XS.iload X21.here hx rfl (hb hby d5_219) rfl (XS.iload X21.here hx rfl (hb hby d5_221) rfl (XS.icmpYes X21.here hx rfl (pc0 := 223) (pc' := 244) rfl (hb hby d5_223) rfl (flt (by decide : ¬ ((0 : Int32) < (0 : Int32)))).2.1 (by decide) (by decide) k)))))) ?_
  show Go _ _ _ (T21.setTop (mkF m 244 #[vr a1, vr a2, vi 0, vr w_NI, vi 0, vi 0, vi j6] [])) _
  refine G (fun t k => XS.iconst X21.here hx rfl (hb hby d5_244) k) ?_
  obtain ⟨fs, hr, hrun, hended, hW, hsame⟩ := X21.leave (v := some (.int (1 : Int32))) (fun h => by rw [Bd.returns] at h; cases h)
  refine Go.fin (retN X21 hx (t := .boolean) Bd.returns (by simp) (hb hby d5_245) hr) hrun hended ⟨_, _, rfl, ?_, ⟨_, rfl⟩, hW, hsame.mono (by decide) (by decide)⟩
  show Q5_3_R Z a1 a2 w_v k_v ln v0 v1 v2 w_NI k_NI hAny k_x x0 x1 x2 w_m w_pos w_sl w_nx k_p k_s k_n h0 n0 _ T21.heap _
  rw [e21]
  exact ⟨jAny, rfl, NJ, K0, E_a1, F_a1_a, F_a1_v, F_a1_s, F_a1_m, F_a1_i, F_a1_h, V_v⟩
 show Go _ _ _ (T17.setTop (mkF m 129 #[vr a1, vr a2, vi 0, vr a2, vi 3, vi 0, us] [])) _
 refine G (fun t k => XS.iload X17.here hx rfl (hb hby d5_129) rfl (XS.iload X17.here hx rfl (hb hby d5_131) rfl (XS.icmpNo X17.here hx rfl (hb hby d5_133) rfl (tlt (by decide : (0 : Int32) < (3 : Int32))).2.1 (XS.aloadN X17.here hx rfl (hb hby d5_136) rfl rfl (XS.iload X17.here hx rfl (hb hby d5_137) rfl k))))) ?_
 obtain ⟨cl23, Ar23, -, Sz23, Ng23, Hs23, -⟩ := id V_row
 have hin23 : ¬ ((0 : Int32) < 0 ∨ cl23.slots.size ≤ ((0 : Int32)).toNatClampNeg) := inb_of Sz23 ⟨by decide, by decide⟩
 refine G (fun t k => X17.iaload hx (j := (0 : Int32)) (v := (.int x0)) (by rw [e17]; exact Ar23.1) (State.isArrayOf_alike hZ.alike Ar23.2.1) Ar23.2.2 hin23 (Has.at Hs23 hin23 rfl) (g := (mkF m 139 #[vr a1, vr a2, vi 0, vr a2, vi 3, vi 0, us] [(.int 0), (.ref a2)])) rfl rfl (hb hby d5_139) _ (XS.istore X17.here hx rfl (hb hby d5_140) rfl (l' := #[vr a1, vr a2, vi 0, vr a2, vi 3, vi 0, vi x0]) rfl k)) ?_
 show Go _ _ _ (T17.setTop (mkF m 142 #[vr a1, vr a2, vi 0, vr a2, vi 3, vi 0, vi x0] [])) _
 refine G (fun t k => XS.iload X17.here hx rfl (hb hby d5_142) rfl (X17.ldcInt hx hown (mvT hZ (wd46 hw)) (g := (mkF m 144 #[vr a1, vr a2, vi 0, vr a2, vi 3, vi 0, vi x0] [(.int x0)])) rfl (hb hby d5_144) _ k)) ?_
 by_cases hc24 : x0 = (2147483647 : Int32)
 ·refine G (fun t k => XS.icmpNo X17.here hx rfl (hb hby d5_146) rfl (teq hc24).2 (XS.aloadN X17.here hx rfl (hb hby d5_149) rfl rfl (XS.dup X17.here hx rfl (hb hby d5_150) rfl rfl k))) ?_
  obtain ⟨T25, X25, e25, st25⟩ := getF X17 hx hZ hown (host := "") (Or.inl (wd57 hw)) Via.refl e17 F_a1_h (g := (mkF m 151 #[vr a1, vr a2, vi 0, vr a2, vi 3, vi 0, vi x0] [(.ref a1), (.ref a1)])) rfl rfl (hb hby d5_151)
  refine G st25 ?_
  refine G (fun t k => XS.iconst X25.here hx rfl (hb hby d5_154) k) ?_
  show Go _ _ _ (T25.setTop (mkF m 155 #[vr a1, vr a2, vi 0, vr a2, vi 3, vi 0, vi x0] [(.int 1), (.int hAny), (.ref a1)])) _
  refine G (fun t k => XS.iadd X25.here hx rfl (hb hby d5_155) rfl k) ?_
  obtain ⟨T26, h26, X26, e26, W26, st26⟩ := putF X25 hx hZ hown (host := "") (Or.inl (wd57 hw)) Via.refl e25 F_a1_h E_a1 (Or.inl (wd58 hw)) (wd7 hw) (ty := .int) (by decide) rfl rfl (g := (mkF m 156 #[vr a1, vr a2, vi 0, vr a2, vi 3, vi 0, vi x0] [(.int (hAny + (1 : Int32))), (.ref a1)])) rfl rfl (hb hby d5_156)
  refine G st26 ?_
  have N26 := Fr.snoc X26 N17 g_a1
  replace E_a1 := E_a1.wr W26
  replace V_NI := V_NI.other W26 ne_w_NI_a1
  replace F_a1_a := F_a1_a.other W26 (sn38 hw)
  replace F_a1_v := F_a1_v.other W26 (sn39 hw)
  replace F_a1_s := F_a1_s.other W26 (sn40 hw)
  replace F_a1_m := F_a1_m.other W26 (sn41 hw)
  replace F_a1_i := F_a1_i.other W26 (sn42 hw)
  replace F_a1_h := F_a1_h.same W26
  replace V_row := V_row.other W26 ne_a2_a1
  replace E_w_m := E_w_m.wr W26
  replace V_pos := V_pos.other W26 ne_w_pos_a1
  replace V_v := V_v.other W26 ne_w_v_a1
  replace Z0 := Nat.le_trans Z0 (Nat.le_of_eq W26.size.symm)
  replace K0 := K0.wr W26 (Or.inl (by simp))
  refine G (fun t k => XS.goto X26.here hx rfl (pc0 := 159) (pc' := 168) rfl (hb hby d5_159) (by decide) (by decide) k) ?_
  show Go _ _ _ (T26.setTop (mkF m 168 #[vr a1, vr a2, vi 0, vr a2, vi 3, vi 0, vi x0] [])) _
  exact J19 _ _ _ (hAny + (1 : Int32)) (0 : Int32) x0 X26 e26 N26 K0 Z0 E_a1 V_NI F_a1_a F_a1_v F_a1_s F_a1_m F_a1_i F_a1_h V_row E_w_m V_pos V_v
 ·refine G (fun t k => XS.icmpYes X17.here hx rfl (pc0 := 146) (pc' := 162) rfl (hb hby d5_146) rfl (feq hc24).2 (by decide) (by decide) (XS.iinc X17.here hx rfl (hb hby d5_162) rfl (l' := #[.val (.ref a1), .val (.ref a2), .val (.int (0 : Int32)), .val (.ref a2), .val (.int (3 : Int32)), .val (.int ((0 : Int32) + (1 : Int32))), .val (.int x0)]) rfl (XS.goto X17.here hx rfl (pc0 := 165) (pc' := 129) rfl (hb hby d5_165) (by decide) (by decide) k))) ?_
  show Go _ _ _ (T17.setTop (mkF m 129 #[vr a1, vr a2, vi 0, vr a2, vi 3, vi 1, vi x0] [])) _
  refine G (fun t k => XS.iload X17.here hx rfl (hb hby d5_129) rfl (XS.iload X17.here hx rfl (hb hby d5_131) rfl (XS.icmpNo X17.here hx rfl (hb hby d5_133) rfl (tlt (by decide : (1 : Int32) < (3 : Int32))).2.1 (XS.aloadN X17.here hx rfl (hb hby d5_136) rfl rfl (XS.iload X17.here hx rfl (hb hby d5_137) rfl k))))) ?_
  obtain ⟨cl27, Ar27, -, Sz27, Ng27, Hs27, -⟩ := id V_row
  have hin27 : ¬ ((1 : Int32) < 0 ∨ cl27.slots.size ≤ ((1 : Int32)).toNatClampNeg) := inb_of Sz27 ⟨by decide, by decide⟩
  refine G (fun t k => X17.iaload hx (j := (1 : Int32)) (v := (.int x1)) (by rw [e17]; exact Ar27.1) (State.isArrayOf_alike hZ.alike Ar27.2.1) Ar27.2.2 hin27 (Has.at Hs27 hin27 rfl) (g := (mkF m 139 #[vr a1, vr a2, vi 0, vr a2, vi 3, vi 1, vi x0] [(.int 1), (.ref a2)])) rfl rfl (hb hby d5_139) _ (XS.istore X17.here hx rfl (hb hby d5_140) rfl (l' := #[vr a1, vr a2, vi 0, vr a2, vi 3, vi 1, vi x1]) rfl k)) ?_
  show Go _ _ _ (T17.setTop (mkF m 142 #[vr a1, vr a2, vi 0, vr a2, vi 3, vi 1, vi x1] [])) _
  refine G (fun t k => XS.iload X17.here hx rfl (hb hby d5_142) rfl (X17.ldcInt hx hown (mvT hZ (wd46 hw)) (g := (mkF m 144 #[vr a1, vr a2, vi 0, vr a2, vi 3, vi 1, vi x1] [(.int x1)])) rfl (hb hby d5_144) _ k)) ?_
  by_cases hc28 : x1 = (2147483647 : Int32)
  ·refine G (fun t k => XS.icmpNo X17.here hx rfl (hb hby d5_146) rfl (teq hc28).2 (XS.aloadN X17.here hx rfl (hb hby d5_149) rfl rfl (XS.dup X17.here hx rfl (hb hby d5_150) rfl rfl k))) ?_
   obtain ⟨T29, X29, e29, st29⟩ := getF X17 hx hZ hown (host := "") (Or.inl (wd57 hw)) Via.refl e17 F_a1_h (g := (mkF m 151 #[vr a1, vr a2, vi 0, vr a2, vi 3, vi 1, vi x1] [(.ref a1), (.ref a1)])) rfl rfl (hb hby d5_151)
   refine G st29 ?_
   refine G (fun t k => XS.iconst X29.here hx rfl (hb hby d5_154) k) ?_
   show Go _ _ _ (T29.setTop (mkF m 155 #[vr a1, vr a2, vi 0, vr a2, vi 3, vi 1, vi x1] [(.int 1), (.int hAny), (.ref a1)])) _
   refine G (fun t k => XS.iadd X29.here hx rfl (hb hby d5_155) rfl k) ?_
   obtain ⟨T30, h30, X30, e30, W30, st30⟩ := putF X29 hx hZ hown (host := "") (Or.inl (wd57 hw)) Via.refl e29 F_a1_h E_a1 (Or.inl (wd58 hw)) (wd7 hw) (ty := .int) (by decide) rfl rfl (g := (mkF m 156 #[vr a1, vr a2, vi 0, vr a2, vi 3, vi 1, vi x1] [(.int (hAny + (1 : Int32))), (.ref a1)])) rfl rfl (hb hby d5_156)
   refine G st30 ?_
   have N30 := Fr.snoc X30 N17 g_a1
   replace E_a1 := E_a1.wr W30
   replace V_NI := V_NI.other W30 ne_w_NI_a1
   replace F_a1_a := F_a1_a.other W30 (sn38 hw)
   replace F_a1_v := F_a1_v.other W30 (sn39 hw)
   replace F_a1_s := F_a1_s.other W30 (sn40 hw)
   replace F_a1_m := F_a1_m.other W30 (sn41 hw)
   replace F_a1_i := F_a1_i.other W30 (sn42 hw)
   replace F_a1_h := F_a1_h.same W30
   replace V_row := V_row.other W30 ne_a2_a1
   replace E_w_m := E_w_m.wr W30
   replace V_pos := V_pos.other W30 ne_w_pos_a1
   replace V_v := V_v.other W30 ne_w_v_a1
   replace Z0 := Nat.le_trans Z0 (Nat.le_of_eq W30.size.symm)
   replace K0 := K0.wr W30 (Or.inl (by simp))
   refine G (fun t k => XS.goto X30.here hx rfl (pc0 := 159) (pc' := 168) rfl (hb hby d5_159) (by decide) (by decide) k) ?_
   show Go _ _ _ (T30.setTop (mkF m 168 #[vr a1, vr a2, vi 0, vr a2, vi 3, vi 1, vi x1] [])) _
   exact J19 _ _ _ (hAny + (1 : Int32)) (1 : Int32) x1 X30 e30 N30 K0 Z0 E_a1 V_NI F_a1_a F_a1_v F_a1_s F_a1_m F_a1_i F_a1_h V_row E_w_m V_pos V_v
  ·refine G (fun t k => XS.icmpYes X17.here hx rfl (pc0 := 146) (pc' := 162) rfl (hb hby d5_146) rfl (feq hc28).2 (by decide) (by decide) (XS.iinc X17.here hx rfl (hb hby d5_162) rfl (l' := #[.val (.ref a1), .val (.ref a2), .val (.int (0 : Int32)), .val (.ref a2), .val (.int (3 : Int32)), .val (.int ((1 : Int32) + (1 : Int32))), .val (.int x1)]) rfl (XS.goto X17.here hx rfl (pc0 := 165) (pc' := 129) rfl (hb hby d5_165) (by decide) (by decide) k))) ?_
   show Go _ _ _ (T17.setTop (mkF m 129 #[vr a1, vr a2, vi 0, vr a2, vi 3, vi 2, vi x1] [])) _
   refine G (fun t k => XS.iload X17.here hx rfl (hb hby d5_129) rfl (XS.iload X17.here hx rfl (hb hby d5_131) rfl (XS.icmpNo X17.here hx rfl (hb hby d5_133) rfl (tlt (by decide : (2 : Int32) < (3 : Int32))).2.1 (XS.aloadN X17.here hx rfl (hb hby d5_136) rfl rfl (XS.iload X17.here hx rfl (hb hby d5_137) rfl k))))) ?_
   obtain ⟨cl31, Ar31, -, Sz31, Ng31, Hs31, -⟩ := id V_row
   have hin31 : ¬ ((2 : Int32) < 0 ∨ cl31.slots.size ≤ ((2 : Int32)).toNatClampNeg) := inb_of Sz31 ⟨by decide, by decide⟩
   refine G (fun t k => X17.iaload hx (j := (2 : Int32)) (v := (.int x2)) (by rw [e17]; exact Ar31.1) (State.isArrayOf_alike hZ.alike Ar31.2.1) Ar31.2.2 hin31 (Has.at Hs31 hin31 rfl) (g := (mkF m 139 #[vr a1, vr a2, vi 0, vr a2, vi 3, vi 2, vi x1] [(.int 2), (.ref a2)])) rfl rfl (hb hby d5_139) _ (XS.istore X17.here hx rfl (hb hby d5_140) rfl (l' := #[vr a1, vr a2, vi 0, vr a2, vi 3, vi 2, vi x2]) rfl k)) ?_
   show Go _ _ _ (T17.setTop (mkF m 142 #[vr a1, vr a2, vi 0, vr a2, vi 3, vi 2, vi x2] [])) _
   refine G (fun t k => XS.iload X17.here hx rfl (hb hby d5_142) rfl (X17.ldcInt hx hown (mvT hZ (wd46 hw)) (g := (mkF m 144 #[vr a1, vr a2, vi 0, vr a2, vi 3, vi 2, vi x2] [(.int x2)])) rfl (hb hby d5_144) _ k)) ?_
   by_cases hc32 : x2 = (2147483647 : Int32)
   ·refine G (fun t k => XS.icmpNo X17.here hx rfl (hb hby d5_146) rfl (teq hc32).2 (XS.aloadN X17.here hx rfl (hb hby d5_149) rfl rfl (XS.dup X17.here hx rfl (hb hby d5_150) rfl rfl k))) ?_
    obtain ⟨T33, X33, e33, st33⟩ := getF X17 hx hZ hown (host := "") (Or.inl (wd57 hw)) Via.refl e17 F_a1_h (g := (mkF m 151 #[vr a1, vr a2, vi 0, vr a2, vi 3, vi 2, vi x2] [(.ref a1), (.ref a1)])) rfl rfl (hb hby d5_151)
    refine G st33 ?_
    refine G (fun t k => XS.iconst X33.here hx rfl (hb hby d5_154) k) ?_
    show Go _ _ _ (T33.setTop (mkF m 155 #[vr a1, vr a2, vi 0, vr a2, vi 3, vi 2, vi x2] [(.int 1), (.int hAny), (.ref a1)])) _
    refine G (fun t k => XS.iadd X33.here hx rfl (hb hby d5_155) rfl k) ?_
    obtain ⟨T34, h34, X34, e34, W34, st34⟩ := putF X33 hx hZ hown (host := "") (Or.inl (wd57 hw)) Via.refl e33 F_a1_h E_a1 (Or.inl (wd58 hw)) (wd7 hw) (ty := .int) (by decide) rfl rfl (g := (mkF m 156 #[vr a1, vr a2, vi 0, vr a2, vi 3, vi 2, vi x2] [(.int (hAny + (1 : Int32))), (.ref a1)])) rfl rfl (hb hby d5_156)
    refine G st34 ?_
    have N34 := Fr.snoc X34 N17 g_a1
    replace E_a1 := E_a1.wr W34
    replace V_NI := V_NI.other W34 ne_w_NI_a1
    replace F_a1_a := F_a1_a.other W34 (sn38 hw)
    replace F_a1_v := F_a1_v.other W34 (sn39 hw)
    replace F_a1_s := F_a1_s.other W34 (sn40 hw)
    replace F_a1_m := F_a1_m.other W34 (sn41 hw)
    replace F_a1_i := F_a1_i.other W34 (sn42 hw)
    replace F_a1_h := F_a1_h.same W34
    replace V_row := V_row.other W34 ne_a2_a1
    replace E_w_m := E_w_m.wr W34
    replace V_pos := V_pos.other W34 ne_w_pos_a1
    replace V_v := V_v.other W34 ne_w_v_a1
    replace Z0 := Nat.le_trans Z0 (Nat.le_of_eq W34.size.symm)
    replace K0 := K0.wr W34 (Or.inl (by simp))
    refine G (fun t k => XS.goto X34.here hx rfl (pc0 := 159) (pc' := 168) rfl (hb hby d5_159) (by decide) (by decide) k) ?_
    show Go _ _ _ (T34.setTop (mkF m 168 #[vr a1, vr a2, vi 0, vr a2, vi 3, vi 2, vi x2] [])) _
    exact J19 _ _ _ (hAny + (1 : Int32)) (2 : Int32) x2 X34 e34 N34 K0 Z0 E_a1 V_NI F_a1_a F_a1_v F_a1_s F_a1_m F_a1_i F_a1_h V_row E_w_m V_pos V_v
   ·refine G (fun t k => XS.icmpYes X17.here hx rfl (pc0 := 146) (pc' := 162) rfl (hb hby d5_146) rfl (feq hc32).2 (by decide) (by decide) (XS.iinc X17.here hx rfl (hb hby d5_162) rfl (l' := #[.val (.ref a1), .val (.ref a2), .val (.int (0 : Int32)), .val (.ref a2), .val (.int (3 : Int32)), .val (.int ((2 : Int32) + (1 : Int32))), .val (.int x2)]) rfl (XS.goto X17.here hx rfl (pc0 := 165) (pc' := 129) rfl (hb hby d5_165) (by decide) (by decide) k))) ?_
    show Go _ _ _ (T17.setTop (mkF m 129 #[vr a1, vr a2, vi 0, vr a2, vi 3, vi 3, vi x2] [])) _
    refine G (fun t k => XS.iload X17.here hx rfl (hb hby d5_129) rfl (XS.iload X17.here hx rfl (hb hby d5_131) rfl (XS.icmpYes X17.here hx rfl (pc0 := 133) (pc' := 168) rfl (hb hby d5_133) rfl (flt (by decide : ¬ ((3 : Int32) < (3 : Int32)))).2.1 (by decide) (by decide) k))) ?_
    show Go _ _ _ (T17.setTop (mkF m 168 #[vr a1, vr a2, vi 0, vr a2, vi 3, vi 3, vi x2] [])) _
    exact J19 _ _ _ hAny (3 : Int32) x2 X17 e17 N17 K0 Z0 E_a1 V_NI F_a1_a F_a1_v F_a1_s F_a1_m F_a1_i F_a1_h V_row E_w_m V_pos V_v
def Q4_3_0 (Z : State) (a1 : Addr) (p2 : Int32) (w_v : Addr) (k_v : ClassId) (w_NI : Addr) (k_NI : ClassId) (hAny : Int32) (h0 : Heap) (n0 : Nat) (v : Option Value) (h : Heap) (L : List Loc) : Prop := v = none ∧ Fr n0 L ∧ h = h0
theorem ef4_3_0 (m : MethodId) (x0 : Addr) (x1 : Int32) : entryFrame m #[(.ref x0), (.int x1)] 7 = mkF m 0 #[.val (.ref x0), .val (.int x1), .unset, .unset, .unset, .unset, .unset] [] := by first | (simp [entryFrame, mkF, argsToLocals, Value.category]; done) | rfl
theorem rm4_3_0 (l : Launch) (Z : State) (a0 : Array Value) (hw : HW a0 Z) (ws : List Jvm.Cond) (a1 : Addr) (p2 : Int32) (w_v : Addr) (k_v : ClassId) (w_NI : Addr) (k_NI : ClassId) (hAny : Int32) (h0 : Heap) (n0 : Nat) (Z0 : n0 ≤ h0.size) (E_a1 : Exa Z h0 a1 RC) (V_v : Arv Z h0 w_v k_v .int (12 : Int32) [] (.int (0 : Int32))) (V_NI : Arv Z h0 w_NI k_NI (.object IC) (0 : Int32) [] .null) (F_a1_a : Fld Z h0 a1 RC "arity" "I" (.int (3 : Int32))) (F_a1_v : Fld Z h0 a1 RC "values" "[I" (.ref w_v)) (F_a1_s : Fld Z h0 a1 RC "size" "I" (.int (0 : Int32))) (F_a1_m : Fld Z h0 a1 RC "members" RI .null) (F_a1_i : Fld Z h0 a1 RC "indexes" RJ (.ref w_NI)) (F_a1_h : Fld Z h0 a1 RC "holdingAny" "I" (.int hAny)) (ne_w_v_a1 : w_v ≠ a1) (ne_w_NI_a1 : w_NI ≠ a1) (ne_w_NI_w_v : w_NI ≠ w_v) (hr : 0 ≤ p2.toInt ∧ p2.toInt ≤ 15) (hq4 : ¬ (4 : Int32) < p2) (hq8 : ¬ (8 : Int32) < p2) :
  MetFree l (⟨RC, "reserve", "(I)V"⟩ : MethodName) (head1 (Jvm.Cond.code (⟨RC, "reserve", "(I)V"⟩ : MethodName) cB4 7 none :: ws) (Rm 0 0 0 0)) (Pr Z h0 #[(.ref a1), (.int p2)]) Tr (fun _ U o U' => ∃ v L, o = .returned v ∧ Q4_3_0 Z a1 p2 w_v k_v w_NI k_NI hAny h0 n0 v U'.heap L ∧ FrameEnd U o U' L (Rm 0 0 0 0).cells (Rm 0 0 0 0).slots) := by
 refine MetFree.of_bodySF (plainFor_of_name pn0) hisR ?_
 intro p e s m args below meth c s₁ Bd hml0 hP hK
 obtain ⟨rfl, hZ, hh⟩ := hP
 have hx := Bd.exec
 have hby := Bd.bytes
 have hml : c.maxLocals = 7 := hml0
 have hown : s.vm.findClass RC = some m.cls := findClass_of_methodNamed Bd.named
 have hnm := (name_of_methodNamed Bd.named Bd.method).1
 have X0 : Stand p l e (Rm 0 0 0 0) s m #[(.ref a1), (.int p2)] below meth c s₁ [] 0 0 := Stand.of_body Bd
 have e0 : s₁.heap = h0 := by rw [← hh, Bd.state]; rfl
 have N0 := Fr.nil n0
 have K0 : Keep h0 h0 [] := Keep.refl h0 _
 refine G (P := fun o U' => ∃ v L, o = .returned v ∧ Q4_3_0 Z a1 p2 w_v k_v w_NI k_NI hAny h0 n0 v U'.heap L ∧ FrameEnd s o U' L (Rm 0 0 0 0).cells (Rm 0 0 0 0).slots) (fun t k => castTop (ef4_3_0 m a1 p2) k) ?_
 show Go _ _ _ (s₁.setTop (mkF m 0 #[vr a1, vi p2, us, us, us, us, us] [])) _
 refine G (fun t k => XS.aloadN X0.here hx rfl (hb hby d4_0) rfl rfl k) ?_
 obtain ⟨T1, X1, e1, st1⟩ := getF X0 hx hZ hown (host := "") (Or.inl (wd28 hw)) Via.refl e0 F_a1_s (g := (mkF m 1 #[vr a1, vi p2, us, us, us, us, us] [(.ref a1)])) rfl rfl (hb hby d4_1)
 refine G st1 ?_
 refine G (fun t k => XS.iloadN X1.here hx rfl (hb hby d4_4) rfl (XS.iadd X1.here hx rfl (hb hby d4_5) rfl (XS.istoreN X1.here hx rfl (hb hby d4_6) rfl (l' := #[vr a1, vi p2, vi ((0 : Int32) + p2), us, us, us, us]) rfl k))) ?_
 show Go _ _ _ (T1.setTop (mkF m 7 #[vr a1, vi p2, vi ((0 : Int32) + p2), us, us, us, us] [])) _
 refine Go.fr (g' := (mkF m 7 #[vr a1, vi p2, vi p2, us, us, us, us] [])) (by rw [Int32.zero_add]) ?_
 show Go _ _ _ (T1.setTop (mkF m 7 #[vr a1, vi p2, vi p2, us, us, us, us] [])) _
 refine G (fun t k => XS.iloadN X1.here hx rfl (hb hby d4_7) rfl (XS.aloadN X1.here hx rfl (hb hby d4_8) rfl rfl k)) ?_
 obtain ⟨T2, X2, e2, st2⟩ := getF X1 hx hZ hown (host := "") (Or.inl (wd19 hw)) Via.refl e1 F_a1_a (g := (mkF m 9 #[vr a1, vi p2, vi p2, us, us, us, us] [(.ref a1), (.int p2)])) rfl rfl (hb hby d4_9)
 refine G st2 ?_
 refine G (fun t k => XS.imul X2.here hx rfl (hb hby d4_12) rfl (XS.aloadN X2.here hx rfl (hb hby d4_13) rfl rfl k)) ?_
 obtain ⟨T3, X3, e3, st3⟩ := getF X2 hx hZ hown (host := "") (Or.inl (wd21 hw)) Via.refl e2 F_a1_v (g := (mkF m 14 #[vr a1, vi p2, vi p2, us, us, us, us] [(.ref a1), (.int (p2 * (3 : Int32)))])) rfl rfl (hb hby d4_14)
 refine G st3 ?_
 obtain ⟨cl4, Ar4, -, Sz4, Ng4, -, -⟩ := id V_v
 refine G (fun t k => X3.arraylength hx (by rw [e3]; exact Ar4.1) (State.isArrayOf_alike hZ.alike Ar4.2.1) (g := (mkF m 17 #[vr a1, vi p2, vi p2, us, us, us, us] [(.ref w_v), (.int (p2 * (3 : Int32)))])) rfl rfl (hb hby d4_17) _ k) ?_
 rw [len_of Sz4 Ng4]
 show Go _ _ _ (T3.setTop (mkF m 18 #[vr a1, vi p2, vi p2, us, us, us, us] [(.int 12), (.int (p2 * (3 : Int32)))])) _
 have hf5 : ¬ ((12 : Int32) < (p2 * (3 : Int32))) := own_small p2 3 12 3 rfl rfl (by decide) hr hq4
 refine G (fun t k => XS.icmpYes X3.here hx rfl (pc0 := 18) (pc' := 38) rfl (hb hby d4_18) rfl (flt hf5).2.2.2 (by decide) (by decide) (XS.aloadN X3.here hx rfl (hb hby d4_38) rfl rfl k)) ?_
 obtain ⟨T6, X6, e6, st6⟩ := getF X3 hx hZ hown (host := "") (Or.inl (wd30 hw)) Via.refl e3 F_a1_m (g := (mkF m 39 #[vr a1, vi p2, vi p2, us, us, us, us] [(.ref a1)])) rfl rfl (hb hby d4_39)
 refine G st6 ?_
 refine G (fun t k => XS.ifnonnullNo X6.here hx rfl (hb hby d4_42) rfl (XS.iloadN X6.here hx rfl (hb hby d4_45) rfl (XS.bipush X6.here hx rfl (hb hby d4_46) k))) ?_
 have hf7 : ¬ ((8 : Int32) < p2) := hq8
 refine G (fun t k => XS.icmpYes X6.here hx rfl (pc0 := 48) (pc' := 74) rfl (hb hby d4_48) rfl (flt hf7).2.2.2 (by decide) (by decide) k) ?_
 show Go _ _ _ (T6.setTop (mkF m 74 #[vr a1, vi p2, vi p2, us, us, us, us] [])) _
 refine G (fun t k => XS.aloadN X6.here hx rfl (hb hby d4_74) rfl rfl k) ?_
 obtain ⟨T8, X8, e8, st8⟩ := getF X6 hx hZ hown (host := "") (Or.inl (wd30 hw)) Via.refl e6 F_a1_m (g := (mkF m 75 #[vr a1, vi p2, vi p2, us, us, us, us] [(.ref a1)])) rfl rfl (hb hby d4_75)
 refine G st8 ?_
 refine G (fun t k => XS.ifnullYes X8.here hx rfl (pc0 := 78) (pc' := 89) rfl (hb hby d4_78) rfl (by decide) (by decide) (XS.aloadN X8.here hx rfl (hb hby d4_89) rfl rfl k)) ?_
 obtain ⟨T9, X9, e9, st9⟩ := getF X8 hx hZ hown (host := "") (Or.inl (wd17 hw)) Via.refl e8 F_a1_i (g := (mkF m 90 #[vr a1, vi p2, vi p2, us, us, us, us] [(.ref a1)])) rfl rfl (hb hby d4_90)
 refine G st9 ?_
 refine G (fun t k => XS.astoreN X9.here hx rfl (hb hby d4_93) rfl rfl (l' := #[vr a1, vi p2, vi p2, vr w_NI, us, us, us]) rfl (XS.aloadN X9.here hx rfl (hb hby d4_94) rfl rfl k)) ?_
 show Go _ _ _ (T9.setTop (mkF m 95 #[vr a1, vi p2, vi p2, vr w_NI, us, us, us] [(.ref w_NI)])) _
 obtain ⟨cl10, Ar10, -, Sz10, Ng10, -, -⟩ := id V_NI
 refine G (fun t k => X9.arraylength hx (by rw [e9]; exact Ar10.1) (State.isArrayOf_alike hZ.alike Ar10.2.1) (g := (mkF m 95 #[vr a1, vi p2, vi p2, vr w_NI, us, us, us] [(.ref w_NI)])) rfl rfl (hb hby d4_95) _ k) ?_
 rw [len_of Sz10 Ng10]
 refine G (fun t k => XS.istore X9.here hx rfl (hb hby d4_96) rfl (l' := #[vr a1, vi p2, vi p2, vr w_NI, vi 0, us, us]) rfl (XS.iconst X9.here hx rfl (hb hby d4_98) (XS.istore X9.here hx rfl (hb hby d4_99) rfl (l' := #[vr a1, vi p2, vi p2, vr w_NI, vi 0, vi 0, us]) rfl (XS.iload X9.here hx rfl (hb hby d4_101) rfl (XS.iload X9.here hx rfl (hb hby d4_103) rfl (XS.icmpYes X9.here hx rfl (pc0 := 105) (pc' := 126) rfl (hb hby d4_105) rfl (flt (by decide : ¬ ((0 : Int32) < (0 : Int32)))).2.1 (by decide) (by decide) k)))))) ?_
 show Go _ _ _ (T9.setTop (mkF m 126 #[vr a1, vi p2, vi p2, vr w_NI, vi 0, vi 0, us] [])) _
 obtain ⟨fs, hr, hrun, hended, hW, hsame⟩ := X9.leave (v := none) (fun _ => rfl)
 refine Go.fin (X9.returnOut hx Bd.returns (hb hby d4_126) hr) hrun hended ⟨_, _, rfl, ?_, ⟨_, rfl⟩, hW, hsame.mono (by decide) (by decide)⟩
 show Q4_3_0 Z a1 p2 w_v k_v w_NI k_NI hAny h0 n0 _ T9.heap _
 rw [e9]
 exact ⟨rfl, N0, rfl⟩
def Q4_3_1 (Z : State) (a1 : Addr) (p2 : Int32) (w_v : Addr) (k_v : ClassId) (w_NI : Addr) (k_NI : ClassId) (hAny : Int32) (h0 : Heap) (n0 : Nat) (v : Option Value) (h : Heap) (L : List Loc) : Prop := ∃ x4_3_1_0 : Addr, ∃ k_x4_3_1_0 : ClassId, v = none ∧ Fr n0 L ∧ Keep h0 h [a1] ∧ n0 ≤ x4_3_1_0 ∧ h0.size ≤ x4_3_1_0 ∧ Exa Z h a1 RC ∧ Fld Z h a1 RC "arity" "I" (.int (3 : Int32)) ∧ Fld Z h a1 RC "values" "[I" (.ref x4_3_1_0) ∧ Fld Z h a1 RC "size" "I" (.int (0 : Int32)) ∧ Fld Z h a1 RC "members" RI .null ∧ Fld Z h a1 RC "indexes" RJ (.ref w_NI) ∧ Fld Z h a1 RC "holdingAny" "I" (.int hAny) ∧ Arv Z h x4_3_1_0 k_x4_3_1_0 .int (p2 * (3 : Int32)) [] (.int (0 : Int32))
theorem ef4_3_1 (m : MethodId) (x0 : Addr) (x1 : Int32) : entryFrame m #[(.ref x0), (.int x1)] 7 = mkF m 0 #[.val (.ref x0), .val (.int x1), .unset, .unset, .unset, .unset, .unset] [] := by first | (simp [entryFrame, mkF, argsToLocals, Value.category]; done) | rfl
theorem rm4_3_1 (l : Launch) (Z : State) (a0 : Array Value) (hw : HW a0 Z) (ws : List Jvm.Cond) (a1 : Addr) (p2 : Int32) (w_v : Addr) (k_v : ClassId) (w_NI : Addr) (k_NI : ClassId) (hAny : Int32) (h0 : Heap) (n0 : Nat) (Z0 : n0 ≤ h0.size) (E_a1 : Exa Z h0 a1 RC) (V_v : Arv Z h0 w_v k_v .int (12 : Int32) [] (.int (0 : Int32))) (V_NI : Arv Z h0 w_NI k_NI (.object IC) (0 : Int32) [] .null) (F_a1_a : Fld Z h0 a1 RC "arity" "I" (.int (3 : Int32))) (F_a1_v : Fld Z h0 a1 RC "values" "[I" (.ref w_v)) (F_a1_s : Fld Z h0 a1 RC "size" "I" (.int (0 : Int32))) (F_a1_m : Fld Z h0 a1 RC "members" RI .null) (F_a1_i : Fld Z h0 a1 RC "indexes" RJ (.ref w_NI)) (F_a1_h : Fld Z h0 a1 RC "holdingAny" "I" (.int hAny)) (ne_w_v_a1 : w_v ≠ a1) (ne_w_NI_a1 : w_NI ≠ a1) (ne_w_NI_w_v : w_NI ≠ w_v) (hr : 0 ≤ p2.toInt ∧ p2.toInt ≤ 15) (hq4 : (4 : Int32) < p2) (hq8 : ¬ (8 : Int32) < p2) (g_a1 : n0 ≤ a1) :
  MetFree l (⟨RC, "reserve", "(I)V"⟩ : MethodName) (head1 (Jvm.Cond.code (⟨RC, "reserve", "(I)V"⟩ : MethodName) cB4 7 none :: ws) (Rm 2 1 45 33)) (Pr Z h0 #[(.ref a1), (.int p2)]) Tr (fun _ U o U' => ∃ v L, o = .returned v ∧ Q4_3_1 Z a1 p2 w_v k_v w_NI k_NI hAny h0 n0 v U'.heap L ∧ FrameEnd U o U' L (Rm 2 1 45 33).cells (Rm 2 1 45 33).slots) := by
 refine MetFree.of_bodySF (plainFor_of_name pn0) hisR ?_
 intro p e s m args below meth c s₁ Bd hml0 hP hK
 obtain ⟨rfl, hZ, hh⟩ := hP
 have hx := Bd.exec
 have hby := Bd.bytes
 have hml : c.maxLocals = 7 := hml0
 have hown : s.vm.findClass RC = some m.cls := findClass_of_methodNamed Bd.named
 have hnm := (name_of_methodNamed Bd.named Bd.method).1
 have X0 : Stand p l e (Rm 2 1 45 33) s m #[(.ref a1), (.int p2)] below meth c s₁ [] 0 0 := Stand.of_body Bd
 have e0 : s₁.heap = h0 := by rw [← hh, Bd.state]; rfl
 have N0 := Fr.nil n0
 have K0 : Keep h0 h0 [a1] := Keep.refl h0 _
 refine G (P := fun o U' => ∃ v L, o = .returned v ∧ Q4_3_1 Z a1 p2 w_v k_v w_NI k_NI hAny h0 n0 v U'.heap L ∧ FrameEnd s o U' L (Rm 2 1 45 33).cells (Rm 2 1 45 33).slots) (fun t k => castTop (ef4_3_1 m a1 p2) k) ?_
 show Go _ _ _ (s₁.setTop (mkF m 0 #[vr a1, vi p2, us, us, us, us, us] [])) _
 refine G (fun t k => XS.aloadN X0.here hx rfl (hb hby d4_0) rfl rfl k) ?_
 obtain ⟨T1, X1, e1, st1⟩ := getF X0 hx hZ hown (host := "") (Or.inl (wd28 hw)) Via.refl e0 F_a1_s (g := (mkF m 1 #[vr a1, vi p2, us, us, us, us, us] [(.ref a1)])) rfl rfl (hb hby d4_1)
 refine G st1 ?_
 refine G (fun t k => XS.iloadN X1.here hx rfl (hb hby d4_4) rfl (XS.iadd X1.here hx rfl (hb hby d4_5) rfl (XS.istoreN X1.here hx rfl (hb hby d4_6) rfl (l' := #[vr a1, vi p2, vi ((0 : Int32) + p2), us, us, us, us]) rfl k))) ?_
 show Go _ _ _ (T1.setTop (mkF m 7 #[vr a1, vi p2, vi ((0 : Int32) + p2), us, us, us, us] [])) _
 refine Go.fr (g' := (mkF m 7 #[vr a1, vi p2, vi p2, us, us, us, us] [])) (by rw [Int32.zero_add]) ?_
 show Go _ _ _ (T1.setTop (mkF m 7 #[vr a1, vi p2, vi p2, us, us, us, us] [])) _
 refine G (fun t k => XS.iloadN X1.here hx rfl (hb hby d4_7) rfl (XS.aloadN X1.here hx rfl (hb hby d4_8) rfl rfl k)) ?_
 obtain ⟨T2, X2, e2, st2⟩ := getF X1 hx hZ hown (host := "") (Or.inl (wd19 hw)) Via.refl e1 F_a1_a (g := (mkF m 9 #[vr a1, vi p2, vi p2, us, us, us, us] [(.ref a1), (.int p2)])) rfl rfl (hb hby d4_9)
 refine G st2 ?_
 refine G (fun t k => XS.imul X2.here hx rfl (hb hby d4_12) rfl (XS.aloadN X2.here hx rfl (hb hby d4_13) rfl rfl k)) ?_
 obtain ⟨T3, X3, e3, st3⟩ := getF X2 hx hZ hown (host := "") (Or.inl (wd21 hw)) Via.refl e2 F_a1_v (g := (mkF m 14 #[vr a1, vi p2, vi p2, us, us, us, us] [(.ref a1), (.int (p2 * (3 : Int32)))])) rfl rfl (hb hby d4_14)
 refine G st3 ?_
 obtain ⟨cl4, Ar4, -, Sz4, Ng4, -, -⟩ := id V_v
 refine G (fun t k => X3.arraylength hx (by rw [e3]; exact Ar4.1) (State.isArrayOf_alike hZ.alike Ar4.2.1) (g := (mkF m 17 #[vr a1, vi p2, vi p2, us, us, us, us] [(.ref w_v), (.int (p2 * (3 : Int32)))])) rfl rfl (hb hby d4_17) _ k) ?_
 rw [len_of Sz4 Ng4]
 show Go _ _ _ (T3.setTop (mkF m 18 #[vr a1, vi p2, vi p2, us, us, us, us] [(.int 12), (.int (p2 * (3 : Int32)))])) _
 have hf5 : (12 : Int32) < (p2 * (3 : Int32)) := own_big p2 3 12 3 rfl rfl (by decide) hr hq4
 refine G (fun t k => XS.icmpNo X3.here hx rfl (hb hby d4_18) rfl (tlt hf5).2.2.2 (XS.aloadN X3.here hx rfl (hb hby d4_21) rfl rfl (XS.aloadN X3.here hx rfl (hb hby d4_22) rfl rfl k))) ?_
 obtain ⟨T6, X6, e6, st6⟩ := getF X3 hx hZ hown (host := "") (Or.inl (wd21 hw)) Via.refl e3 F_a1_v (g := (mkF m 23 #[vr a1, vi p2, vi p2, us, us, us, us] [(.ref a1), (.ref a1)])) rfl rfl (hb hby d4_23)
 refine G st6 ?_
 refine G (fun t k => XS.iloadN X6.here hx rfl (hb hby d4_26) rfl (XS.aloadN X6.here hx rfl (hb hby d4_27) rfl rfl k)) ?_
 obtain ⟨T7, X7, e7, st7⟩ := getF X6 hx hZ hown (host := "") (Or.inl (wd19 hw)) Via.refl e6 F_a1_a (g := (mkF m 28 #[vr a1, vi p2, vi p2, us, us, us, us] [(.ref a1), (.int p2), (.ref w_v), (.ref a1)])) rfl rfl (hb hby d4_28)
 refine G st7 ?_
 show Go _ _ _ (T7.setTop (mkF m 31 #[vr a1, vi p2, vi p2, us, us, us, us] [(.int 3), (.int p2), (.ref w_v), (.ref a1)])) _
 refine G (fun t k => XS.imul X7.here hx rfl (hb hby d4_31) rfl k) ?_
 obtain ⟨_, _, ⟨T8, L8, k8, n8⟩, -, X8, ⟨Lc8, hQ8, l8, y8, z8⟩, st8⟩ := Jvm.LawKit.callS X7 hx (y := (⟨"java/util/Arrays", "copyOf", "([II)[I"⟩ : MethodName)) hown (mvT hZ (wd74 hw)) (mvT hZ (wd75 hw)) (mvT hZ (wd76 hw)) (mvT hZ (wd77 hw)) (by decide) (backOf (W := 1) (rm12_3 l Z a0 hw [] w_v (p2 * (3 : Int32)) k_v h0 n0 Z0 V_v (own_big p2 3 12 3 rfl rfl (by decide) hr hq4) (own_45 p2 3 3 rfl (by decide) hr)) hZ (wd77 hw) (wd76 hw) (by decide) (by decide)) (g := (mkF m 32 #[vr a1, vi p2, vi p2, us, us, us, us] [(.int (p2 * (3 : Int32))), (.ref w_v), (.ref a1)])) rfl (by rw [hml]; rfl) (argsL := [(.ref w_v), (.int (p2 * (3 : Int32)))]) (rest := [(.ref a1)]) (lenOf pd7 rfl) rfl (by show 2 * 0 + _ ≤ _; exact Nat.le_of_eq rfl) (hb hby d4_32) (fun _ _ => ⟨rfl, e7, (by decide : 0 + 1 ≤ _), (by decide : 0 + 45 ≤ _)⟩)
 dsimp only [Pt.U, Pt.locs, Pt.cells, Pt.slots] at X8 l8 y8 z8 st8 hQ8
 subst l8 y8 z8
 obtain ⟨h8, e8⟩ : ∃ z, T8.heap = z := ⟨_, rfl⟩
 rw [e8] at hQ8
 obtain ⟨y8, k_y8, rfl, N8q, K8, ng_y8, sz0_y8, Q8_0⟩ := hQ8
 refine G st8 ?_
 have ne_a1_y8 : a1 ≠ y8 := Nat.ne_of_lt (Nat.lt_of_lt_of_le E_a1.lt sz0_y8)
 have ne_w_v_y8 : w_v ≠ y8 := Nat.ne_of_lt (Nat.lt_of_lt_of_le V_v.lt sz0_y8)
 have ne_w_NI_y8 : w_NI ≠ y8 := Nat.ne_of_lt (Nat.lt_of_lt_of_le V_NI.lt sz0_y8)
 have g_y8 : n0 ≤ y8 := ng_y8
 have sz_y8 : h0.size ≤ y8 := Nat.le_trans K0.1 sz0_y8
 replace E_a1 := E_a1.keep K8
 replace V_v := V_v.keep K8 nin0
 replace V_NI := V_NI.keep K8 nin0
 replace F_a1_a := F_a1_a.keep K8 nin0
 replace F_a1_v := F_a1_v.keep K8 nin0
 replace F_a1_s := F_a1_s.keep K8 nin0
 replace F_a1_m := F_a1_m.keep K8 nin0
 replace F_a1_i := F_a1_i.keep K8 nin0
 replace F_a1_h := F_a1_h.keep K8 nin0
 replace Z0 := Nat.le_trans Z0 K8.1
 replace K0 := K0.trans K8 all0
 have V_y8 := Q8_0
 have N8 := Fr.app N0 N8q
 replace V_y8 : Arv Z h8 y8 k_y8 .int (p2 * (3 : Int32)) [] (.int (0 : Int32)) := V_y8.pad (fun i => (pad_rep [] (.int (0 : Int32)) 12 i).symm)
 obtain ⟨T9, h9, X9, e9, W9, st9⟩ := putF X8 hx hZ hown (host := "") (Or.inl (wd21 hw)) Via.refl e8 F_a1_v E_a1 (Or.inl (wd22 hw)) (wd7 hw) (ty := (.array .int)) (by decide) rfl rfl (g := (mkF m 35 #[vr a1, vi p2, vi p2, us, us, us, us] [(.ref y8), (.ref a1)])) rfl rfl (hb hby d4_35)
 refine G st9 ?_
 have N9 := Fr.snoc X9 N8 g_a1
 replace E_a1 := E_a1.wr W9
 replace V_v := V_v.other W9 ne_w_v_a1
 replace V_NI := V_NI.other W9 ne_w_NI_a1
 replace F_a1_a := F_a1_a.other W9 (sn16 hw)
 replace F_a1_v := F_a1_v.same W9
 replace F_a1_s := F_a1_s.other W9 (sn12 hw)
 replace F_a1_m := F_a1_m.other W9 (sn13 hw)
 replace F_a1_i := F_a1_i.other W9 (sn15 hw)
 replace F_a1_h := F_a1_h.other W9 (sn14 hw)
 replace V_y8 := V_y8.other W9 (Ne.symm ne_a1_y8)
 replace Z0 := Nat.le_trans Z0 (Nat.le_of_eq W9.size.symm)
 replace K0 := K0.wr W9 (Or.inl (by simp))
 refine G (fun t k => XS.aloadN X9.here hx rfl (hb hby d4_38) rfl rfl k) ?_
 obtain ⟨T10, X10, e10, st10⟩ := getF X9 hx hZ hown (host := "") (Or.inl (wd30 hw)) Via.refl e9 F_a1_m (g := (mkF m 39 #[vr a1, vi p2, vi p2, us, us, us, us] [(.ref a1)])) rfl rfl (hb hby d4_39)
 refine G st10 ?_
 refine G (fun t k => XS.ifnonnullNo X10.here hx rfl (hb hby d4_42) rfl (XS.iloadN X10.here hx rfl (hb hby d4_45) rfl k)) ?_
 show Go _ _ _ (T10.setTop (mkF m 46 #[vr a1, vi p2, vi p2, us, us, us, us] [(.int p2)])) _
 refine G (fun t k => XS.bipush X10.here hx rfl (hb hby d4_46) k) ?_
 have hf11 : ¬ ((8 : Int32) < p2) := hq8
 refine G (fun t k => XS.icmpYes X10.here hx rfl (pc0 := 48) (pc' := 74) rfl (hb hby d4_48) rfl (flt hf11).2.2.2 (by decide) (by decide) (XS.aloadN X10.here hx rfl (hb hby d4_74) rfl rfl k)) ?_
 obtain ⟨T12, X12, e12, st12⟩ := getF X10 hx hZ hown (host := "") (Or.inl (wd30 hw)) Via.refl e10 F_a1_m (g := (mkF m 75 #[vr a1, vi p2, vi p2, us, us, us, us] [(.ref a1)])) rfl rfl (hb hby d4_75)
 refine G st12 ?_
 refine G (fun t k => XS.ifnullYes X12.here hx rfl (pc0 := 78) (pc' := 89) rfl (hb hby d4_78) rfl (by decide) (by decide) (XS.aloadN X12.here hx rfl (hb hby d4_89) rfl rfl k)) ?_
 obtain ⟨T13, X13, e13, st13⟩ := getF X12 hx hZ hown (host := "") (Or.inl (wd17 hw)) Via.refl e12 F_a1_i (g := (mkF m 90 #[vr a1, vi p2, vi p2, us, us, us, us] [(.ref a1)])) rfl rfl (hb hby d4_90)
 refine G st13 ?_
 show Go _ _ _ (T13.setTop (mkF m 93 #[vr a1, vi p2, vi p2, us, us, us, us] [(.ref w_NI)])) _
 refine G (fun t k => XS.astoreN X13.here hx rfl (hb hby d4_93) rfl rfl (l' := #[vr a1, vi p2, vi p2, vr w_NI, us, us, us]) rfl (XS.aloadN X13.here hx rfl (hb hby d4_94) rfl rfl k)) ?_
 obtain ⟨cl14, Ar14, -, Sz14, Ng14, -, -⟩ := id V_NI
 refine G (fun t k => X13.arraylength hx (by rw [e13]; exact Ar14.1) (State.isArrayOf_alike hZ.alike Ar14.2.1) (g := (mkF m 95 #[vr a1, vi p2, vi p2, vr w_NI, us, us, us] [(.ref w_NI)])) rfl rfl (hb hby d4_95) _ k) ?_
 rw [len_of Sz14 Ng14]
 refine G (fun t k => XS.istore X13.here hx rfl (hb hby d4_96) rfl (l' := #[vr a1, vi p2, vi p2, vr w_NI, vi 0, us, us]) rfl (XS.iconst X13.here hx rfl (hb hby d4_98) (XS.istore X13.here hx rfl (hb hby d4_99) rfl (l' := #[vr a1, vi p2, vi p2, vr w_NI, vi 0, vi 0, us]) rfl (XS.iload X13.here hx rfl (hb hby d4_101) rfl k)))) ?_
 show Go _ _ _ (T13.setTop (mkF m 103 #[vr a1, vi p2, vi p2, vr w_NI, vi 0, vi 0, us] [(.int 0)])) _
 refine G (fun t k => XS.iload X13.here hx rfl (hb hby d4_103) rfl (XS.icmpYes X13.here hx rfl (pc0 := 105) (pc' := 126) rfl (hb hby d4_105) rfl (flt (by decide : ¬ ((0 : Int32) < (0 : Int32)))).2.1 (by decide) (by decide) k)) ?_
 obtain ⟨fs, hr, hrun, hended, hW, hsame⟩ := X13.leave (v := none) (fun _ => rfl)
 refine Go.fin (X13.returnOut hx Bd.returns (hb hby d4_126) hr) hrun hended ⟨_, _, rfl, ?_, ⟨_, rfl⟩, hW, hsame.mono (by decide) (by decide)⟩
 show Q4_3_1 Z a1 p2 w_v k_v w_NI k_NI hAny h0 n0 _ T13.heap _
 rw [e13]
 exact ⟨y8, k_y8, rfl, N9, K0, g_y8, sz_y8, E_a1, F_a1_a, F_a1_v, F_a1_s, F_a1_m, F_a1_i, F_a1_h, V_y8⟩
def Q4_3_2 (Z : State) (a1 : Addr) (p2 : Int32) (w_v : Addr) (k_v : ClassId) (w_NI : Addr) (k_NI : ClassId) (hAny : Int32) (h0 : Heap) (n0 : Nat) (v : Option Value) (h : Heap) (L : List Loc) : Prop := ∃ x4_3_2_0 : Addr, ∃ x4_3_2_1 : Addr, ∃ x4_3_2_2 : Addr, ∃ x4_3_2_3 : Addr, ∃ x4_3_2_4 : Addr, ∃ k_x4_3_2_0 : ClassId, ∃ k_x4_3_2_2 : ClassId, ∃ k_x4_3_2_3 : ClassId, ∃ k_x4_3_2_4 : ClassId, v = none ∧ Fr n0 L ∧ Keep h0 h [a1] ∧ n0 ≤ x4_3_2_0 ∧ h0.size ≤ x4_3_2_0 ∧ n0 ≤ x4_3_2_1 ∧ h0.size ≤ x4_3_2_1 ∧ n0 ≤ x4_3_2_2 ∧ h0.size ≤ x4_3_2_2 ∧ n0 ≤ x4_3_2_3 ∧ h0.size ≤ x4_3_2_3 ∧ n0 ≤ x4_3_2_4 ∧ h0.size ≤ x4_3_2_4 ∧ x4_3_2_0 ≠ x4_3_2_1 ∧ x4_3_2_0 ≠ x4_3_2_2 ∧ x4_3_2_0 ≠ x4_3_2_3 ∧ x4_3_2_0 ≠ x4_3_2_4 ∧ x4_3_2_1 ≠ x4_3_2_2 ∧ x4_3_2_1 ≠ x4_3_2_3 ∧ x4_3_2_1 ≠ x4_3_2_4 ∧ x4_3_2_2 ≠ x4_3_2_3 ∧ x4_3_2_2 ≠ x4_3_2_4 ∧ x4_3_2_3 ≠ x4_3_2_4 ∧ Exa Z h a1 RC ∧ Fld Z h a1 RC "arity" "I" (.int (3 : Int32)) ∧ Fld Z h a1 RC "values" "[I" (.ref x4_3_2_0) ∧ Fld Z h a1 RC "size" "I" (.int (0 : Int32)) ∧ Fld Z h a1 RC "members" RI (.ref x4_3_2_1) ∧ Fld Z h a1 RC "indexes" RJ (.ref w_NI) ∧ Fld Z h a1 RC "holdingAny" "I" (.int hAny) ∧ Arv Z h x4_3_2_0 k_x4_3_2_0 .int (p2 * (3 : Int32)) [] (.int (0 : Int32)) ∧ Exa Z h x4_3_2_1 IC ∧ Arv Z h x4_3_2_2 k_x4_3_2_2 .int (3 : Int32) [(.int (0 : Int32)), (.int (1 : Int32)), (.int (2 : Int32))] (.int (0 : Int32)) ∧ Fld Z h x4_3_2_1 IC "keys" "I" (.int (0 : Int32)) ∧ Fld Z h x4_3_2_1 IC "this$0" RL (.ref a1) ∧ Fld Z h x4_3_2_1 IC "positions" "[I" (.ref x4_3_2_2) ∧ Fld Z h x4_3_2_1 IC "slots" "[I" (.ref x4_3_2_3) ∧ Fld Z h x4_3_2_1 IC "next" "[I" (.ref x4_3_2_4) ∧ Arv Z h x4_3_2_3 k_x4_3_2_3 .int (128 : Int32) [] (.int (0 : Int32)) ∧ Arv Z h x4_3_2_4 k_x4_3_2_4 .int (16 : Int32) [] (.int (0 : Int32))
theorem ef4_3_2 (m : MethodId) (x0 : Addr) (x1 : Int32) : entryFrame m #[(.ref x0), (.int x1)] 7 = mkF m 0 #[.val (.ref x0), .val (.int x1), .unset, .unset, .unset, .unset, .unset] [] := by first | (simp [entryFrame, mkF, argsToLocals, Value.category]; done) | rfl
theorem rm4_3_2 (l : Launch) (Z : State) (a0 : Array Value) (hw : HW a0 Z) (ws : List Jvm.Cond) (a1 : Addr) (p2 : Int32) (w_v : Addr) (k_v : ClassId) (w_NI : Addr) (k_NI : ClassId) (hAny : Int32) (h0 : Heap) (n0 : Nat) (Z0 : n0 ≤ h0.size) (E_a1 : Exa Z h0 a1 RC) (V_v : Arv Z h0 w_v k_v .int (12 : Int32) [] (.int (0 : Int32))) (V_NI : Arv Z h0 w_NI k_NI (.object IC) (0 : Int32) [] .null) (F_a1_a : Fld Z h0 a1 RC "arity" "I" (.int (3 : Int32))) (F_a1_v : Fld Z h0 a1 RC "values" "[I" (.ref w_v)) (F_a1_s : Fld Z h0 a1 RC "size" "I" (.int (0 : Int32))) (F_a1_m : Fld Z h0 a1 RC "members" RI .null) (F_a1_i : Fld Z h0 a1 RC "indexes" RJ (.ref w_NI)) (F_a1_h : Fld Z h0 a1 RC "holdingAny" "I" (.int hAny)) (ne_w_v_a1 : w_v ≠ a1) (ne_w_NI_a1 : w_NI ≠ a1) (ne_w_NI_w_v : w_NI ≠ w_v) (hr : 0 ≤ p2.toInt ∧ p2.toInt ≤ 15) (hq4 : (4 : Int32) < p2) (hq8 : (8 : Int32) < p2) (g_a1 : n0 ≤ a1) :
  MetFree l (⟨RC, "reserve", "(I)V"⟩ : MethodName) (head1 (Jvm.Cond.code (⟨RC, "reserve", "(I)V"⟩ : MethodName) cB4 7 none :: ws) (Rm 3 5 197 46)) (Pr Z h0 #[(.ref a1), (.int p2)]) Tr (fun _ U o U' => ∃ v L, o = .returned v ∧ Q4_3_2 Z a1 p2 w_v k_v w_NI k_NI hAny h0 n0 v U'.heap L ∧ FrameEnd U o U' L (Rm 3 5 197 46).cells (Rm 3 5 197 46).slots) := by
 refine MetFree.of_bodySF (plainFor_of_name pn0) hisR ?_
 intro p e s m args below meth c s₁ Bd hml0 hP hK
 obtain ⟨rfl, hZ, hh⟩ := hP
 have hx := Bd.exec
 have hby := Bd.bytes
 have hml : c.maxLocals = 7 := hml0
 have hown : s.vm.findClass RC = some m.cls := findClass_of_methodNamed Bd.named
 have hnm := (name_of_methodNamed Bd.named Bd.method).1
 have X0 : Stand p l e (Rm 3 5 197 46) s m #[(.ref a1), (.int p2)] below meth c s₁ [] 0 0 := Stand.of_body Bd
 have e0 : s₁.heap = h0 := by rw [← hh, Bd.state]; rfl
 have N0 := Fr.nil n0
 have K0 : Keep h0 h0 [a1] := Keep.refl h0 _
 refine G (P := fun o U' => ∃ v L, o = .returned v ∧ Q4_3_2 Z a1 p2 w_v k_v w_NI k_NI hAny h0 n0 v U'.heap L ∧ FrameEnd s o U' L (Rm 3 5 197 46).cells (Rm 3 5 197 46).slots) (fun t k => castTop (ef4_3_2 m a1 p2) k) ?_
 show Go _ _ _ (s₁.setTop (mkF m 0 #[vr a1, vi p2, us, us, us, us, us] [])) _
 refine G (fun t k => XS.aloadN X0.here hx rfl (hb hby d4_0) rfl rfl k) ?_
 obtain ⟨T1, X1, e1, st1⟩ := getF X0 hx hZ hown (host := "") (Or.inl (wd28 hw)) Via.refl e0 F_a1_s (g := (mkF m 1 #[vr a1, vi p2, us, us, us, us, us] [(.ref a1)])) rfl rfl (hb hby d4_1)
 refine G st1 ?_
 refine G (fun t k => XS.iloadN X1.here hx rfl (hb hby d4_4) rfl (XS.iadd X1.here hx rfl (hb hby d4_5) rfl (XS.istoreN X1.here hx rfl (hb hby d4_6) rfl (l' := #[vr a1, vi p2, vi ((0 : Int32) + p2), us, us, us, us]) rfl k))) ?_
 show Go _ _ _ (T1.setTop (mkF m 7 #[vr a1, vi p2, vi ((0 : Int32) + p2), us, us, us, us] [])) _
 refine Go.fr (g' := (mkF m 7 #[vr a1, vi p2, vi p2, us, us, us, us] [])) (by rw [Int32.zero_add]) ?_
 show Go _ _ _ (T1.setTop (mkF m 7 #[vr a1, vi p2, vi p2, us, us, us, us] [])) _
 refine G (fun t k => XS.iloadN X1.here hx rfl (hb hby d4_7) rfl (XS.aloadN X1.here hx rfl (hb hby d4_8) rfl rfl k)) ?_
 obtain ⟨T2, X2, e2, st2⟩ := getF X1 hx hZ hown (host := "") (Or.inl (wd19 hw)) Via.refl e1 F_a1_a (g := (mkF m 9 #[vr a1, vi p2, vi p2, us, us, us, us] [(.ref a1), (.int p2)])) rfl rfl (hb hby d4_9)
 refine G st2 ?_
 refine G (fun t k => XS.imul X2.here hx rfl (hb hby d4_12) rfl (XS.aloadN X2.here hx rfl (hb hby d4_13) rfl rfl k)) ?_
 obtain ⟨T3, X3, e3, st3⟩ := getF X2 hx hZ hown (host := "") (Or.inl (wd21 hw)) Via.refl e2 F_a1_v (g := (mkF m 14 #[vr a1, vi p2, vi p2, us, us, us, us] [(.ref a1), (.int (p2 * (3 : Int32)))])) rfl rfl (hb hby d4_14)
 refine G st3 ?_
 obtain ⟨cl4, Ar4, -, Sz4, Ng4, -, -⟩ := id V_v
 refine G (fun t k => X3.arraylength hx (by rw [e3]; exact Ar4.1) (State.isArrayOf_alike hZ.alike Ar4.2.1) (g := (mkF m 17 #[vr a1, vi p2, vi p2, us, us, us, us] [(.ref w_v), (.int (p2 * (3 : Int32)))])) rfl rfl (hb hby d4_17) _ k) ?_
 rw [len_of Sz4 Ng4]
 show Go _ _ _ (T3.setTop (mkF m 18 #[vr a1, vi p2, vi p2, us, us, us, us] [(.int 12), (.int (p2 * (3 : Int32)))])) _
 have hf5 : (12 : Int32) < (p2 * (3 : Int32)) := own_big p2 3 12 3 rfl rfl (by decide) hr hq4
 refine G (fun t k => XS.icmpNo X3.here hx rfl (hb hby d4_18) rfl (tlt hf5).2.2.2 (XS.aloadN X3.here hx rfl (hb hby d4_21) rfl rfl (XS.aloadN X3.here hx rfl (hb hby d4_22) rfl rfl k))) ?_
 obtain ⟨T6, X6, e6, st6⟩ := getF X3 hx hZ hown (host := "") (Or.inl (wd21 hw)) Via.refl e3 F_a1_v (g := (mkF m 23 #[vr a1, vi p2, vi p2, us, us, us, us] [(.ref a1), (.ref a1)])) rfl rfl (hb hby d4_23)
 refine G st6 ?_
 refine G (fun t k => XS.iloadN X6.here hx rfl (hb hby d4_26) rfl (XS.aloadN X6.here hx rfl (hb hby d4_27) rfl rfl k)) ?_
 obtain ⟨T7, X7, e7, st7⟩ := getF X6 hx hZ hown (host := "") (Or.inl (wd19 hw)) Via.refl e6 F_a1_a (g := (mkF m 28 #[vr a1, vi p2, vi p2, us, us, us, us] [(.ref a1), (.int p2), (.ref w_v), (.ref a1)])) rfl rfl (hb hby d4_28)
 refine G st7 ?_
 show Go _ _ _ (T7.setTop (mkF m 31 #[vr a1, vi p2, vi p2, us, us, us, us] [(.int 3), (.int p2), (.ref w_v), (.ref a1)])) _
 refine G (fun t k => XS.imul X7.here hx rfl (hb hby d4_31) rfl k) ?_
 obtain ⟨_, _, ⟨T8, L8, k8, n8⟩, -, X8, ⟨Lc8, hQ8, l8, y8, z8⟩, st8⟩ := Jvm.LawKit.callS X7 hx (y := (⟨"java/util/Arrays", "copyOf", "([II)[I"⟩ : MethodName)) hown (mvT hZ (wd74 hw)) (mvT hZ (wd75 hw)) (mvT hZ (wd76 hw)) (mvT hZ (wd77 hw)) (by decide) (backOf (W := 1) (rm12_3 l Z a0 hw [] w_v (p2 * (3 : Int32)) k_v h0 n0 Z0 V_v (own_big p2 3 12 3 rfl rfl (by decide) hr hq4) (own_45 p2 3 3 rfl (by decide) hr)) hZ (wd77 hw) (wd76 hw) (by decide) (by decide)) (g := (mkF m 32 #[vr a1, vi p2, vi p2, us, us, us, us] [(.int (p2 * (3 : Int32))), (.ref w_v), (.ref a1)])) rfl (by rw [hml]; rfl) (argsL := [(.ref w_v), (.int (p2 * (3 : Int32)))]) (rest := [(.ref a1)]) (lenOf pd7 rfl) rfl (by show 2 * 0 + _ ≤ _; exact Nat.le_of_eq rfl) (hb hby d4_32) (fun _ _ => ⟨rfl, e7, (by decide : 0 + 1 ≤ _), (by decide : 0 + 45 ≤ _)⟩)
 dsimp only [Pt.U, Pt.locs, Pt.cells, Pt.slots] at X8 l8 y8 z8 st8 hQ8
 subst l8 y8 z8
 obtain ⟨h8, e8⟩ : ∃ z, T8.heap = z := ⟨_, rfl⟩
 rw [e8] at hQ8
 obtain ⟨y8, k_y8, rfl, N8q, K8, ng_y8, sz0_y8, Q8_0⟩ := hQ8
 refine G st8 ?_
 have ne_a1_y8 : a1 ≠ y8 := Nat.ne_of_lt (Nat.lt_of_lt_of_le E_a1.lt sz0_y8)
 have ne_w_v_y8 : w_v ≠ y8 := Nat.ne_of_lt (Nat.lt_of_lt_of_le V_v.lt sz0_y8)
 have ne_w_NI_y8 : w_NI ≠ y8 := Nat.ne_of_lt (Nat.lt_of_lt_of_le V_NI.lt sz0_y8)
 have g_y8 : n0 ≤ y8 := ng_y8
 have sz_y8 : h0.size ≤ y8 := Nat.le_trans K0.1 sz0_y8
 replace E_a1 := E_a1.keep K8
 replace V_v := V_v.keep K8 nin0
 replace V_NI := V_NI.keep K8 nin0
 replace F_a1_a := F_a1_a.keep K8 nin0
 replace F_a1_v := F_a1_v.keep K8 nin0
 replace F_a1_s := F_a1_s.keep K8 nin0
 replace F_a1_m := F_a1_m.keep K8 nin0
 replace F_a1_i := F_a1_i.keep K8 nin0
 replace F_a1_h := F_a1_h.keep K8 nin0
 replace Z0 := Nat.le_trans Z0 K8.1
 replace K0 := K0.trans K8 all0
 have V_y8 := Q8_0
 have N8 := Fr.app N0 N8q
 replace V_y8 : Arv Z h8 y8 k_y8 .int (p2 * (3 : Int32)) [] (.int (0 : Int32)) := V_y8.pad (fun i => (pad_rep [] (.int (0 : Int32)) 12 i).symm)
 obtain ⟨T9, h9, X9, e9, W9, st9⟩ := putF X8 hx hZ hown (host := "") (Or.inl (wd21 hw)) Via.refl e8 F_a1_v E_a1 (Or.inl (wd22 hw)) (wd7 hw) (ty := (.array .int)) (by decide) rfl rfl (g := (mkF m 35 #[vr a1, vi p2, vi p2, us, us, us, us] [(.ref y8), (.ref a1)])) rfl rfl (hb hby d4_35)
 refine G st9 ?_
 have N9 := Fr.snoc X9 N8 g_a1
 replace E_a1 := E_a1.wr W9
 replace V_v := V_v.other W9 ne_w_v_a1
 replace V_NI := V_NI.other W9 ne_w_NI_a1
 replace F_a1_a := F_a1_a.other W9 (sn16 hw)
 replace F_a1_v := F_a1_v.same W9
 replace F_a1_s := F_a1_s.other W9 (sn12 hw)
 replace F_a1_m := F_a1_m.other W9 (sn13 hw)
 replace F_a1_i := F_a1_i.other W9 (sn15 hw)
 replace F_a1_h := F_a1_h.other W9 (sn14 hw)
 replace V_y8 := V_y8.other W9 (Ne.symm ne_a1_y8)
 replace Z0 := Nat.le_trans Z0 (Nat.le_of_eq W9.size.symm)
 replace K0 := K0.wr W9 (Or.inl (by simp))
 refine G (fun t k => XS.aloadN X9.here hx rfl (hb hby d4_38) rfl rfl k) ?_
 obtain ⟨T10, X10, e10, st10⟩ := getF X9 hx hZ hown (host := "") (Or.inl (wd30 hw)) Via.refl e9 F_a1_m (g := (mkF m 39 #[vr a1, vi p2, vi p2, us, us, us, us] [(.ref a1)])) rfl rfl (hb hby d4_39)
 refine G st10 ?_
 refine G (fun t k => XS.ifnonnullNo X10.here hx rfl (hb hby d4_42) rfl (XS.iloadN X10.here hx rfl (hb hby d4_45) rfl k)) ?_
 show Go _ _ _ (T10.setTop (mkF m 46 #[vr a1, vi p2, vi p2, us, us, us, us] [(.int p2)])) _
 refine G (fun t k => XS.bipush X10.here hx rfl (hb hby d4_46) k) ?_
 have hf11 : (8 : Int32) < p2 := hq8
 refine G (fun t k => XS.icmpNo X10.here hx rfl (hb hby d4_48) rfl (tlt hf11).2.2.2 (XS.aloadN X10.here hx rfl (hb hby d4_51) rfl rfl k)) ?_
 obtain ⟨T12, h12, X12, e12, E12, A12, D12, -, st12⟩ := newO X10 hx hZ hown (wd83 hw) (wd84 hw) (wd85 hw) e10 (g := (mkF m 52 #[vr a1, vi p2, vi p2, us, us, us, us] [(.ref a1)])) rfl (hb hby d4_52) (by decide) (by decide)
 obtain ⟨b12, g12⟩ : ∃ z, z = h9.size := ⟨_, rfl⟩
 rw [← g12] at A12 D12 st12
 refine G st12 ?_
 have ne_a1_b12 : a1 ≠ b12 := Nat.ne_of_lt (Nat.lt_of_lt_of_le E_a1.lt (Nat.le_of_eq g12.symm))
 have ne_w_v_b12 : w_v ≠ b12 := Nat.ne_of_lt (Nat.lt_of_lt_of_le V_v.lt (Nat.le_of_eq g12.symm))
 have ne_w_NI_b12 : w_NI ≠ b12 := Nat.ne_of_lt (Nat.lt_of_lt_of_le V_NI.lt (Nat.le_of_eq g12.symm))
 have ne_y8_b12 : y8 ≠ b12 := Nat.ne_of_lt (Nat.lt_of_lt_of_le V_y8.lt (Nat.le_of_eq g12.symm))
 have g_b12 : n0 ≤ b12 := Nat.le_trans Z0 (Nat.le_of_eq g12.symm)
 have sz_b12 : h0.size ≤ b12 := Nat.le_trans K0.1 (Nat.le_of_eq g12.symm)
 replace E_a1 := E_a1.ext E12
 replace V_v := V_v.ext E12
 replace V_NI := V_NI.ext E12
 replace F_a1_a := F_a1_a.ext E12
 replace F_a1_v := F_a1_v.ext E12
 replace F_a1_s := F_a1_s.ext E12
 replace F_a1_m := F_a1_m.ext E12
 replace F_a1_i := F_a1_i.ext E12
 replace F_a1_h := F_a1_h.ext E12
 replace V_y8 := V_y8.ext E12
 replace K0 := K0.ext E12
 replace Z0 := Nat.le_trans Z0 E12.1
 have E_b12 := A12
 have F_b12_this_0 : Fld Z h12 b12 IC "this$0" RL .null := D12 (Or.inr (wd93 hw)) (ty := (.object RC)) (by decide)
 have F_b12_p : Fld Z h12 b12 IC "positions" "[I" .null := D12 (Or.inr (wd96 hw)) (ty := (.array .int)) (by decide)
 have F_b12_l : Fld Z h12 b12 IC "slots" "[I" .null := D12 (Or.inl (wd110 hw)) (ty := (.array .int)) (by decide)
 have F_b12_next : Fld Z h12 b12 IC "next" "[I" .null := D12 (Or.inl (wd112 hw)) (ty := (.array .int)) (by decide)
 have F_b12_keys : Fld Z h12 b12 IC "keys" "I" (.int (0 : Int32)) := D12 (Or.inl (wd134 hw)) (ty := .int) (by decide)
 refine G (fun t k => XS.dup X12.here hx rfl (hb hby d4_55) rfl rfl (XS.aloadN X12.here hx rfl (hb hby d4_56) rfl rfl (XS.aloadN X12.here hx rfl (hb hby d4_57) rfl rfl k))) ?_
 show Go _ _ _ (T12.setTop (mkF m 58 #[vr a1, vi p2, vi p2, us, us, us, us] [(.ref a1), (.ref a1), (.ref b12), (.ref b12), (.ref a1)])) _
 obtain ⟨T13, X13, e13, st13⟩ := getF X12 hx hZ hown (host := "") (Or.inl (wd19 hw)) Via.refl e12 F_a1_a (g := (mkF m 58 #[vr a1, vi p2, vi p2, us, us, us, us] [(.ref a1), (.ref a1), (.ref b12), (.ref b12), (.ref a1)])) rfl rfl (hb hby d4_58)
 refine G st13 ?_
 obtain ⟨_, _, ⟨T14, L14, k14, n14⟩, -, X14, ⟨Lc14, hQ14, l14, y14, z14⟩, st14⟩ := Jvm.LawKit.callS X13 hx (y := (⟨RC, "allPositions", "(I)[I"⟩ : MethodName)) hown (mvT hZ (wd86 hw)) (mvT hZ (wd87 hw)) (mvT hZ (wd8 hw)) (mvT hZ (wd88 hw)) (by decide) (backOf (W := 4) (rm14_3 l Z a0 hw []  h12 n0 Z0) hZ (wd88 hw) (wd8 hw) (by decide) (by decide)) (g := (mkF m 61 #[vr a1, vi p2, vi p2, us, us, us, us] [(.int 3), (.ref a1), (.ref b12), (.ref b12), (.ref a1)])) rfl (by rw [hml]; rfl) (argsL := [(.int (3 : Int32))]) (rest := [(.ref a1), (.ref b12), (.ref b12), (.ref a1)]) (lenOf pd8 rfl) rfl (by show 2 * 0 + _ ≤ _; exact Nat.le_of_eq rfl) (hb hby d4_61) (fun _ _ => ⟨rfl, e13, (by decide : 2 + 1 ≤ _), (by decide : 50 + 3 ≤ _)⟩)
 dsimp only [Pt.U, Pt.locs, Pt.cells, Pt.slots] at X14 l14 y14 z14 st14 hQ14
 subst l14 y14 z14
 obtain ⟨h14, e14⟩ : ∃ z, T14.heap = z := ⟨_, rfl⟩
 rw [e14] at hQ14
 obtain ⟨y14, k_y14, rfl, N14q, K14, ng_y14, sz0_y14, Q14_0⟩ := hQ14
 refine G st14 ?_
 have ne_a1_y14 : a1 ≠ y14 := Nat.ne_of_lt (Nat.lt_of_lt_of_le E_a1.lt sz0_y14)
 have ne_w_v_y14 : w_v ≠ y14 := Nat.ne_of_lt (Nat.lt_of_lt_of_le V_v.lt sz0_y14)
 have ne_w_NI_y14 : w_NI ≠ y14 := Nat.ne_of_lt (Nat.lt_of_lt_of_le V_NI.lt sz0_y14)
 have ne_y8_y14 : y8 ≠ y14 := Nat.ne_of_lt (Nat.lt_of_lt_of_le V_y8.lt sz0_y14)
 have ne_b12_y14 : b12 ≠ y14 := Nat.ne_of_lt (Nat.lt_of_lt_of_le E_b12.lt sz0_y14)
 have g_y14 : n0 ≤ y14 := ng_y14
 have sz_y14 : h0.size ≤ y14 := Nat.le_trans K0.1 sz0_y14
 replace E_a1 := E_a1.keep K14
 replace V_v := V_v.keep K14 nin0
 replace V_NI := V_NI.keep K14 nin0
 replace F_a1_a := F_a1_a.keep K14 nin0
 replace F_a1_v := F_a1_v.keep K14 nin0
 replace F_a1_s := F_a1_s.keep K14 nin0
 replace F_a1_m := F_a1_m.keep K14 nin0
 replace F_a1_i := F_a1_i.keep K14 nin0
 replace F_a1_h := F_a1_h.keep K14 nin0
 replace V_y8 := V_y8.keep K14 nin0
 replace E_b12 := E_b12.keep K14
 replace F_b12_this_0 := F_b12_this_0.keep K14 nin0
 replace F_b12_p := F_b12_p.keep K14 nin0
 replace F_b12_l := F_b12_l.keep K14 nin0
 replace F_b12_next := F_b12_next.keep K14 nin0
 replace F_b12_keys := F_b12_keys.keep K14 nin0
 replace Z0 := Nat.le_trans Z0 K14.1
 replace K0 := K0.trans K14 all0
 have V_y14 := Q14_0
 have N14 := Fr.app N9 N14q
 refine G (fun t k => XS.iloadN X14.here hx rfl (hb hby d4_64) rfl k) ?_
 obtain ⟨_, _, ⟨T15, L15, k15, n15⟩, -, X15, ⟨Lc15, hQ15, l15, y15, z15⟩, st15⟩ := X14.specialBack hx (y := (⟨IC, "<init>", "(Lcom/example/bitlattice/bitlattice/eval/Relation;[II)V"⟩ : MethodName)) rfl hown (mvT hZ (wd89 hw)) (mvT hZ (wd90 hw)) (mvT hZ (wd91 hw)) (by decide) (backOf (W := 2) (rm15 l Z a0 hw [] b12 a1 y14 p2 (.null : Value) (.null : Value) (.null : Value) (.null : Value) h14 n0 Z0 E_b12 F_b12_keys F_b12_this_0 F_b12_p F_b12_l F_b12_next F_a1_s ne_a1_b12 hq8 hr.2 g_b12) hZ (wd91 hw) (wd85 hw) (by decide) (by decide)) (g := (mkF m 65 #[vr a1, vi p2, vi p2, us, us, us, us] [(.int p2), (.ref y14), (.ref a1), (.ref b12), (.ref b12), (.ref a1)])) rfl (by rw [hml]; rfl) (Steps.refl _) (a := b12) (argsL := [(.ref a1), (.ref y14), (.int p2)]) (rest := [(.ref b12), (.ref a1)]) (lenOf pd9 rfl) rfl (by show 2 * 0 + _ ≤ _; exact Nat.le_of_eq rfl) (hb hby d4_65) (fun _ _ => ⟨rfl, e14, (by decide : 3 + 2 ≤ _), (by decide : 53 + 144 ≤ _)⟩)
 dsimp only [Pt.U, Pt.locs, Pt.cells, Pt.slots] at X15 l15 y15 z15 st15 hQ15
 subst l15 y15 z15
 have E_b12_pre := E_b12
 have F_b12_this_0_pre := F_b12_this_0
 have F_b12_positions_pre := F_b12_p
 have F_b12_slots_pre := F_b12_l
 have F_b12_next_pre := F_b12_next
 have F_b12_keys_pre := F_b12_keys
 obtain ⟨h15, e15⟩ : ∃ z, T15.heap = z := ⟨_, rfl⟩
 rw [e15] at hQ15
 obtain ⟨y15, y15a, k_y15, k_y15a, rfl, N15q, K15, ng_y15, sz0_y15, ng_y15a, sz0_y15a, nef_y15_y15a, Q15_0, Q15_1, Q15_2, Q15_3, Q15_4, Q15_5, Q15_6, Q15_7⟩ := hQ15
 refine Go.tr st15 ?_
 have ne_a1_y15 : a1 ≠ y15 := Nat.ne_of_lt (Nat.lt_of_lt_of_le E_a1.lt sz0_y15)
 have ne_w_v_y15 : w_v ≠ y15 := Nat.ne_of_lt (Nat.lt_of_lt_of_le V_v.lt sz0_y15)
 have ne_w_NI_y15 : w_NI ≠ y15 := Nat.ne_of_lt (Nat.lt_of_lt_of_le V_NI.lt sz0_y15)
 have ne_y8_y15 : y8 ≠ y15 := Nat.ne_of_lt (Nat.lt_of_lt_of_le V_y8.lt sz0_y15)
 have ne_b12_y15 : b12 ≠ y15 := Nat.ne_of_lt (Nat.lt_of_lt_of_le E_b12.lt sz0_y15)
 have ne_y14_y15 : y14 ≠ y15 := Nat.ne_of_lt (Nat.lt_of_lt_of_le V_y14.lt sz0_y15)
 have g_y15 : n0 ≤ y15 := ng_y15
 have sz_y15 : h0.size ≤ y15 := Nat.le_trans K0.1 sz0_y15
 have ne_a1_y15a : a1 ≠ y15a := Nat.ne_of_lt (Nat.lt_of_lt_of_le E_a1.lt sz0_y15a)
 have ne_w_v_y15a : w_v ≠ y15a := Nat.ne_of_lt (Nat.lt_of_lt_of_le V_v.lt sz0_y15a)
 have ne_w_NI_y15a : w_NI ≠ y15a := Nat.ne_of_lt (Nat.lt_of_lt_of_le V_NI.lt sz0_y15a)
 have ne_y8_y15a : y8 ≠ y15a := Nat.ne_of_lt (Nat.lt_of_lt_of_le V_y8.lt sz0_y15a)
 have ne_b12_y15a : b12 ≠ y15a := Nat.ne_of_lt (Nat.lt_of_lt_of_le E_b12.lt sz0_y15a)
 have ne_y14_y15a : y14 ≠ y15a := Nat.ne_of_lt (Nat.lt_of_lt_of_le V_y14.lt sz0_y15a)
 have g_y15a : n0 ≤ y15a := ng_y15a
 have sz_y15a : h0.size ≤ y15a := Nat.le_trans K0.1 sz0_y15a
 replace E_a1 := E_a1.keep K15
 replace V_v := V_v.keep K15 (ninS ne_w_v_b12 nin0)
 replace V_NI := V_NI.keep K15 (ninS ne_w_NI_b12 nin0)
 replace F_a1_a := F_a1_a.keep K15 (ninS ne_a1_b12 nin0)
 replace F_a1_v := F_a1_v.keep K15 (ninS ne_a1_b12 nin0)
 replace F_a1_s := F_a1_s.keep K15 (ninS ne_a1_b12 nin0)
 replace F_a1_m := F_a1_m.keep K15 (ninS ne_a1_b12 nin0)
 replace F_a1_i := F_a1_i.keep K15 (ninS ne_a1_b12 nin0)
 replace F_a1_h := F_a1_h.keep K15 (ninS ne_a1_b12 nin0)
 replace V_y8 := V_y8.keep K15 (ninS ne_y8_b12 nin0)
 replace E_b12 := E_b12.keep K15
 replace V_y14 := V_y14.keep K15 (ninS (Ne.symm ne_b12_y14) nin0)
 replace Z0 := Nat.le_trans Z0 K15.1
 replace K0 := K0.trans K15 (allS (Or.inr sz_b12) all0)
 have E_b12 := Q15_0
 have F_b12_keys := Q15_1
 have F_b12_this_0 := Q15_2
 have F_b12_p := Q15_3
 have F_b12_l := Q15_4
 have F_b12_next := Q15_5
 have V_y15 := Q15_6
 have V_y15a := Q15_7
 have N15 := Fr.app N14 N15q
 obtain ⟨LL15, X15, N15⟩ : ∃ LL, Stand p l e (Rm 3 5 197 46) s m #[(.ref a1), (.int p2)] below meth c T15 LL 5 197 ∧ Fr n0 LL := ⟨_, X15, N15⟩
 obtain ⟨T16, h16, X16, e16, W16, st16⟩ := putF X15 hx hZ hown (host := "") (Or.inl (wd30 hw)) Via.refl e15 F_a1_m E_a1 (Or.inl (wd31 hw)) (wd7 hw) (ty := (.object IC)) (by decide) rfl rfl (g := (mkF m 68 #[vr a1, vi p2, vi p2, us, us, us, us] [(.ref b12), (.ref a1)])) rfl rfl (hb hby d4_68)
 refine G st16 ?_
 have N16 := Fr.snoc X16 N15 g_a1
 replace E_a1 := E_a1.wr W16
 replace V_v := V_v.other W16 ne_w_v_a1
 replace V_NI := V_NI.other W16 ne_w_NI_a1
 replace F_a1_a := F_a1_a.other W16 (sn43 hw)
 replace F_a1_v := F_a1_v.other W16 (sn44 hw)
 replace F_a1_s := F_a1_s.other W16 (sn45 hw)
 replace F_a1_m := F_a1_m.same W16
 replace F_a1_i := F_a1_i.other W16 (sn46 hw)
 replace F_a1_h := F_a1_h.other W16 (sn47 hw)
 replace V_y8 := V_y8.other W16 (Ne.symm ne_a1_y8)
 replace E_b12 := E_b12.wr W16
 replace V_y14 := V_y14.other W16 (Ne.symm ne_a1_y14)
 replace F_b12_keys := F_b12_keys.other W16 (Or.inl (Ne.symm ne_a1_b12))
 replace F_b12_this_0 := F_b12_this_0.other W16 (Or.inl (Ne.symm ne_a1_b12))
 replace F_b12_p := F_b12_p.other W16 (Or.inl (Ne.symm ne_a1_b12))
 replace F_b12_l := F_b12_l.other W16 (Or.inl (Ne.symm ne_a1_b12))
 replace F_b12_next := F_b12_next.other W16 (Or.inl (Ne.symm ne_a1_b12))
 replace V_y15 := V_y15.other W16 (Ne.symm ne_a1_y15)
 replace V_y15a := V_y15a.other W16 (Ne.symm ne_a1_y15a)
 replace Z0 := Nat.le_trans Z0 (Nat.le_of_eq W16.size.symm)
 replace K0 := K0.wr W16 (Or.inl (by simp))
 refine G (fun t k => XS.goto X16.here hx rfl (pc0 := 71) (pc' := 89) rfl (hb hby d4_71) (by decide) (by decide) (XS.aloadN X16.here hx rfl (hb hby d4_89) rfl rfl k)) ?_
 show Go _ _ _ (T16.setTop (mkF m 90 #[vr a1, vi p2, vi p2, us, us, us, us] [(.ref a1)])) _
 obtain ⟨T17, X17, e17, st17⟩ := getF X16 hx hZ hown (host := "") (Or.inl (wd17 hw)) Via.refl e16 F_a1_i (g := (mkF m 90 #[vr a1, vi p2, vi p2, us, us, us, us] [(.ref a1)])) rfl rfl (hb hby d4_90)
 refine G st17 ?_
 refine G (fun t k => XS.astoreN X17.here hx rfl (hb hby d4_93) rfl rfl (l' := #[vr a1, vi p2, vi p2, vr w_NI, us, us, us]) rfl (XS.aloadN X17.here hx rfl (hb hby d4_94) rfl rfl k)) ?_
 obtain ⟨cl18, Ar18, -, Sz18, Ng18, -, -⟩ := id V_NI
 refine G (fun t k => X17.arraylength hx (by rw [e17]; exact Ar18.1) (State.isArrayOf_alike hZ.alike Ar18.2.1) (g := (mkF m 95 #[vr a1, vi p2, vi p2, vr w_NI, us, us, us] [(.ref w_NI)])) rfl rfl (hb hby d4_95) _ k) ?_
 rw [len_of Sz18 Ng18]
 refine G (fun t k => XS.istore X17.here hx rfl (hb hby d4_96) rfl (l' := #[vr a1, vi p2, vi p2, vr w_NI, vi 0, us, us]) rfl (XS.iconst X17.here hx rfl (hb hby d4_98) (XS.istore X17.here hx rfl (hb hby d4_99) rfl (l' := #[vr a1, vi p2, vi p2, vr w_NI, vi 0, vi 0, us]) rfl k))) ?_
 show Go _ _ _ (T17.setTop (mkF m 101 #[vr a1, vi p2, vi p2, vr w_NI, vi 0, vi 0, us] [])) _
 refine G (fun t k => XS.iload X17.here hx rfl (hb hby d4_101) rfl (XS.iload X17.here hx rfl (hb hby d4_103) rfl (XS.icmpYes X17.here hx rfl (pc0 := 105) (pc' := 126) rfl (hb hby d4_105) rfl (flt (by decide : ¬ ((0 : Int32) < (0 : Int32)))).2.1 (by decide) (by decide) k))) ?_
 obtain ⟨fs, hr, hrun, hended, hW, hsame⟩ := X17.leave (v := none) (fun _ => rfl)
 refine Go.fin (X17.returnOut hx Bd.returns (hb hby d4_126) hr) hrun hended ⟨_, _, rfl, ?_, ⟨_, rfl⟩, hW, hsame.mono (by decide) (by decide)⟩
 show Q4_3_2 Z a1 p2 w_v k_v w_NI k_NI hAny h0 n0 _ T17.heap _
 rw [e17]
 exact ⟨y8, b12, y14, y15, y15a, k_y8, k_y14, k_y15, k_y15a, rfl, N16, K0, g_y8, sz_y8, g_b12, sz_b12, g_y14, sz_y14, g_y15, sz_y15, g_y15a, sz_y15a, ne_y8_b12, ne_y8_y14, ne_y8_y15, ne_y8_y15a, ne_b12_y14, ne_b12_y15, ne_b12_y15a, ne_y14_y15, ne_y14_y15a, nef_y15_y15a, E_a1, F_a1_a, F_a1_v, F_a1_s, F_a1_m, F_a1_i, F_a1_h, V_y8, E_b12, V_y14, F_b12_keys, F_b12_this_0, F_b12_p, F_b12_l, F_b12_next, V_y15, V_y15a⟩
theorem d8_0 : decode cB8 0 = .ok (.aload_n 0, 1) := by decide +kernel
theorem d8_1 : decode cB8 1 = .ok (.iconst 0, 1) := by decide +kernel
theorem d8_2 : decode cB8 2 = .ok (.putfield 26, 3) := by decide +kernel
theorem d8_5 : decode cB8 5 = .ok (.aload_n 0, 1) := by decide +kernel
theorem d8_6 : decode cB8 6 = .ok (.iconst 0, 1) := by decide +kernel
theorem d8_7 : decode cB8 7 = .ok (.putfield 55, 3) := by decide +kernel
theorem d8_10 : decode cB8 10 = .ok (.aload_n 0, 1) := by decide +kernel
theorem d8_11 : decode cB8 11 = .ok (.aconst_null, 1) := by decide +kernel
theorem d8_12 : decode cB8 12 = .ok (.putfield 38, 3) := by decide +kernel
theorem d8_15 : decode cB8 15 = .ok (.aload_n 0, 1) := by decide +kernel
theorem d8_16 : decode cB8 16 = .ok (.getstatic 9, 3) := by decide +kernel
theorem d8_19 : decode cB8 19 = .ok (.putfield 15, 3) := by decide +kernel
theorem d8_22 : decode cB8 22 = .ok (.return_, 1) := by decide +kernel
def Q8 (Z : State) (a1 : Addr) (w_ar : Int32) (w_vv : Addr) (u_a1_size : Value) (u_a1_holdingAny : Value) (u_a1_members : Value) (w_NO_INDEXES : Addr) (u_a1_indexes : Value) (h0 : Heap) (n0 : Nat) (v : Option Value) (h : Heap) (L : List Loc) : Prop := v = none ∧ Fr n0 L ∧ Keep h0 h [a1] ∧ Fld Z h a1 RC "arity" "I" (.int w_ar) ∧ Fld Z h a1 RC "values" "[I" (.ref w_vv) ∧ Exa Z h a1 RC ∧ Fld Z h a1 RC "size" "I" (.int (0 : Int32)) ∧ Fld Z h a1 RC "holdingAny" "I" (.int (0 : Int32)) ∧ Fld Z h a1 RC "members" RI .null ∧ Fld Z h a1 RC "indexes" RJ (.ref w_NO_INDEXES)
theorem ef8 (m : MethodId) (x0 : Addr) : entryFrame m #[(.ref x0)] 1 = mkF m 0 #[.val (.ref x0)] [] := by first | (simp [entryFrame, mkF, argsToLocals, Value.category]; done) | rfl
theorem rm8 (l : Launch) (Z : State) (a0 : Array Value) (hw : HW a0 Z) (ws : List Jvm.Cond) (a1 : Addr) (w_ar : Int32) (w_vv : Addr) (u_a1_size : Value) (u_a1_holdingAny : Value) (u_a1_members : Value) (w_NO_INDEXES : Addr) (u_a1_indexes : Value) (h0 : Heap) (n0 : Nat) (Z0 : n0 ≤ h0.size) (F_a1_a : Fld Z h0 a1 RC "arity" "I" (.int w_ar)) (F_a1_v : Fld Z h0 a1 RC "values" "[I" (.ref w_vv)) (E_a1 : Exa Z h0 a1 RC) (F_a1_s : Fld Z h0 a1 RC "size" "I" u_a1_size) (F_a1_h : Fld Z h0 a1 RC "holdingAny" "I" u_a1_holdingAny) (F_a1_m : Fld Z h0 a1 RC "members" RI u_a1_members) (S_NO_INDEXES : Sta Z h0 RC "NO_INDEXES" RJ (.ref w_NO_INDEXES)) (F_a1_i : Fld Z h0 a1 RC "indexes" RJ u_a1_indexes) (g_a1 : n0 ≤ a1) :
  MetFree l (⟨RC, "clear", "()V"⟩ : MethodName) (head1 (Jvm.Cond.code (⟨RC, "clear", "()V"⟩ : MethodName) cB8 1 none :: ws) (Rm 0 0 0 0)) (Pr Z h0 #[(.ref a1)]) Tr (fun _ U o U' => ∃ v L, o = .returned v ∧ Q8 Z a1 w_ar w_vv u_a1_size u_a1_holdingAny u_a1_members w_NO_INDEXES u_a1_indexes h0 n0 v U'.heap L ∧ FrameEnd U o U' L (Rm 0 0 0 0).cells (Rm 0 0 0 0).slots) := by
 refine MetFree.of_bodySF (plainFor_of_name pn0) hisR ?_
 intro p e s m args below meth c s₁ Bd hml0 hP hK
 obtain ⟨rfl, hZ, hh⟩ := hP
 have hx := Bd.exec
 have hby := Bd.bytes
 have hml : c.maxLocals = 1 := hml0
 have hown : s.vm.findClass RC = some m.cls := findClass_of_methodNamed Bd.named
 have hnm := (name_of_methodNamed Bd.named Bd.method).1
 have X0 : Stand p l e (Rm 0 0 0 0) s m #[(.ref a1)] below meth c s₁ [] 0 0 := Stand.of_body Bd
 have e0 : s₁.heap = h0 := by rw [← hh, Bd.state]; rfl
 have N0 := Fr.nil n0
 have K0 : Keep h0 h0 [a1] := Keep.refl h0 _
 refine G (P := fun o U' => ∃ v L, o = .returned v ∧ Q8 Z a1 w_ar w_vv u_a1_size u_a1_holdingAny u_a1_members w_NO_INDEXES u_a1_indexes h0 n0 v U'.heap L ∧ FrameEnd s o U' L (Rm 0 0 0 0).cells (Rm 0 0 0 0).slots) (fun t k => castTop (ef8 m a1) k) ?_
 show Go _ _ _ (s₁.setTop (mkF m 0 #[vr a1] [])) _
 refine G (fun t k => XS.aloadN X0.here hx rfl (hb hby d8_0) rfl rfl (XS.iconst X0.here hx rfl (hb hby d8_1) k)) ?_
 obtain ⟨T1, h1, X1, e1, W1, st1⟩ := putF X0 hx hZ hown (host := "") (Or.inl (wd28 hw)) Via.refl e0 F_a1_s E_a1 (Or.inl (wd29 hw)) (wd7 hw) (ty := .int) (by decide) rfl rfl (g := (mkF m 2 #[vr a1] [(.int 0), (.ref a1)])) rfl rfl (hb hby d8_2)
 refine G st1 ?_
 have N1 := Fr.snoc X1 N0 g_a1
 replace F_a1_a := F_a1_a.other W1 (sn33 hw)
 replace F_a1_v := F_a1_v.other W1 (sn34 hw)
 replace E_a1 := E_a1.wr W1
 replace F_a1_s := F_a1_s.same W1
 replace F_a1_h := F_a1_h.other W1 (sn37 hw)
 replace F_a1_m := F_a1_m.other W1 (sn35 hw)
 replace S_NO_INDEXES := S_NO_INDEXES.wr W1
 replace F_a1_i := F_a1_i.other W1 (sn36 hw)
 replace Z0 := Nat.le_trans Z0 (Nat.le_of_eq W1.size.symm)
 replace K0 := K0.wr W1 (Or.inl (by simp))
 refine G (fun t k => XS.aloadN X1.here hx rfl (hb hby d8_5) rfl rfl (XS.iconst X1.here hx rfl (hb hby d8_6) k)) ?_
 obtain ⟨T2, h2, X2, e2, W2, st2⟩ := putF X1 hx hZ hown (host := "") (Or.inl (wd57 hw)) Via.refl e1 F_a1_h E_a1 (Or.inl (wd58 hw)) (wd7 hw) (ty := .int) (by decide) rfl rfl (g := (mkF m 7 #[vr a1] [(.int 0), (.ref a1)])) rfl rfl (hb hby d8_7)
 refine G st2 ?_
 have N2 := Fr.snoc X2 N1 g_a1
 replace F_a1_a := F_a1_a.other W2 (sn38 hw)
 replace F_a1_v := F_a1_v.other W2 (sn39 hw)
 replace E_a1 := E_a1.wr W2
 replace F_a1_s := F_a1_s.other W2 (sn40 hw)
 replace F_a1_h := F_a1_h.same W2
 replace F_a1_m := F_a1_m.other W2 (sn41 hw)
 replace S_NO_INDEXES := S_NO_INDEXES.wr W2
 replace F_a1_i := F_a1_i.other W2 (sn42 hw)
 replace Z0 := Nat.le_trans Z0 (Nat.le_of_eq W2.size.symm)
 replace K0 := K0.wr W2 (Or.inl (by simp))
 refine G (fun t k => XS.aloadN X2.here hx rfl (hb hby d8_10) rfl rfl k) ?_
 show Go _ _ _ (T2.setTop (mkF m 11 #[vr a1] [(.ref a1)])) _
 refine G (fun t k => XS.aconstNull X2.here hx rfl (hb hby d8_11) k) ?_
 obtain ⟨T3, h3, X3, e3, W3, st3⟩ := putF X2 hx hZ hown (host := "") (Or.inl (wd30 hw)) Via.refl e2 F_a1_m E_a1 (Or.inl (wd31 hw)) (wd7 hw) (ty := (.object IC)) (by decide) rfl rfl (g := (mkF m 12 #[vr a1] [.null, (.ref a1)])) rfl rfl (hb hby d8_12)
 refine G st3 ?_
 have N3 := Fr.snoc X3 N2 g_a1
 replace F_a1_a := F_a1_a.other W3 (sn43 hw)
 replace F_a1_v := F_a1_v.other W3 (sn44 hw)
 replace E_a1 := E_a1.wr W3
 replace F_a1_s := F_a1_s.other W3 (sn45 hw)
 replace F_a1_h := F_a1_h.other W3 (sn47 hw)
 replace F_a1_m := F_a1_m.same W3
 replace S_NO_INDEXES := S_NO_INDEXES.wr W3
 replace F_a1_i := F_a1_i.other W3 (sn46 hw)
 replace Z0 := Nat.le_trans Z0 (Nat.le_of_eq W3.size.symm)
 replace K0 := K0.wr W3 (Or.inl (by simp))
 refine G (fun t k => XS.aloadN X3.here hx rfl (hb hby d8_15) rfl rfl k) ?_
 obtain ⟨T4, X4, e4, st4⟩ := getS2 X3 hx hZ hown (host := "") (Or.inl (wd15 hw)) Via.refl e3 S_NO_INDEXES (g := (mkF m 16 #[vr a1] [(.ref a1)])) rfl (hb hby d8_16)
 refine G st4 ?_
 obtain ⟨T5, h5, X5, e5, W5, st5⟩ := putF X4 hx hZ hown (host := "") (Or.inl (wd17 hw)) Via.refl e4 F_a1_i E_a1 (Or.inl (wd18 hw)) (wd7 hw) (ty := (.array (.object IC))) (by decide) rfl rfl (g := (mkF m 19 #[vr a1] [(.ref w_NO_INDEXES), (.ref a1)])) rfl rfl (hb hby d8_19)
 refine G st5 ?_
 have N5 := Fr.snoc X5 N3 g_a1
 obtain ⟨LL5, X5, N5⟩ : ∃ LL, Stand p l e (Rm 0 0 0 0) s m #[(.ref a1)] below meth c T5 LL 0 0 ∧ Fr n0 LL := ⟨_, X5, N5⟩
 replace F_a1_a := F_a1_a.other W5 (sn6 hw)
 replace F_a1_v := F_a1_v.other W5 (sn5 hw)
 replace E_a1 := E_a1.wr W5
 replace F_a1_s := F_a1_s.other W5 (sn2 hw)
 replace F_a1_h := F_a1_h.other W5 (sn4 hw)
 replace F_a1_m := F_a1_m.other W5 (sn3 hw)
 replace S_NO_INDEXES := S_NO_INDEXES.wr W5
 replace F_a1_i := F_a1_i.same W5
 replace Z0 := Nat.le_trans Z0 (Nat.le_of_eq W5.size.symm)
 replace K0 := K0.wr W5 (Or.inl (by simp))
 obtain ⟨fs, hr, hrun, hended, hW, hsame⟩ := X5.leave (v := none) (fun _ => rfl)
 refine Go.fin (X5.returnOut hx Bd.returns (hb hby d8_22) hr) hrun hended ⟨_, _, rfl, ?_, ⟨_, rfl⟩, hW, hsame.mono (by decide) (by decide)⟩
 show Q8 Z a1 w_ar w_vv u_a1_size u_a1_holdingAny u_a1_members w_NO_INDEXES u_a1_indexes h0 n0 _ T5.heap _
 rw [e5]
 exact ⟨rfl, N5, K0, F_a1_a, F_a1_v, E_a1, F_a1_s, F_a1_h, F_a1_m, F_a1_i⟩
theorem d9_0 : decode cB9 0 = .ok (.aload_n 0, 1) := by decide +kernel
theorem d9_1 : decode cB9 1 = .ok (.getfield 26, 3) := by decide +kernel
theorem d9_4 : decode cB9 4 = .ok (.ireturn, 1) := by decide +kernel
def Q9 (Z : State) (a1 : Addr) (w_a1_size : Int32) (h0 : Heap) (n0 : Nat) (v : Option Value) (h : Heap) (L : List Loc) : Prop := v = some (.int w_a1_size) ∧ Fr n0 L ∧ h = h0
theorem ef9 (m : MethodId) (x0 : Addr) : entryFrame m #[(.ref x0)] 1 = mkF m 0 #[.val (.ref x0)] [] := by first | (simp [entryFrame, mkF, argsToLocals, Value.category]; done) | rfl
theorem rm9 (l : Launch) (Z : State) (a0 : Array Value) (hw : HW a0 Z) (ws : List Jvm.Cond) (a1 : Addr) (w_a1_size : Int32) (h0 : Heap) (n0 : Nat) (Z0 : n0 ≤ h0.size) (F_a1_s : Fld Z h0 a1 RC "size" "I" (.int w_a1_size)) :
  MetFree l (⟨RC, "size", "()I"⟩ : MethodName) (head1 (Jvm.Cond.code (⟨RC, "size", "()I"⟩ : MethodName) cB9 1 (some .int) :: ws) (Rm 0 0 0 0)) (Pr Z h0 #[(.ref a1)]) Tr (fun _ U o U' => ∃ v L, o = .returned v ∧ Q9 Z a1 w_a1_size h0 n0 v U'.heap L ∧ FrameEnd U o U' L (Rm 0 0 0 0).cells (Rm 0 0 0 0).slots) := by
 refine MetFree.of_bodySF (plainFor_of_name pn0) hisR ?_
 intro p e s m args below meth c s₁ Bd hml0 hP hK
 obtain ⟨rfl, hZ, hh⟩ := hP
 have hx := Bd.exec
 have hby := Bd.bytes
 have hml : c.maxLocals = 1 := hml0
 have hown : s.vm.findClass RC = some m.cls := findClass_of_methodNamed Bd.named
 have hnm := (name_of_methodNamed Bd.named Bd.method).1
 have X0 : Stand p l e (Rm 0 0 0 0) s m #[(.ref a1)] below meth c s₁ [] 0 0 := Stand.of_body Bd
 have e0 : s₁.heap = h0 := by rw [← hh, Bd.state]; rfl
 have N0 := Fr.nil n0
 have K0 : Keep h0 h0 [] := Keep.refl h0 _
 refine G (P := fun o U' => ∃ v L, o = .returned v ∧ Q9 Z a1 w_a1_size h0 n0 v U'.heap L ∧ FrameEnd s o U' L (Rm 0 0 0 0).cells (Rm 0 0 0 0).slots) (fun t k => castTop (ef9 m a1) k) ?_
 show Go _ _ _ (s₁.setTop (mkF m 0 #[vr a1] [])) _
 refine G (fun t k => XS.aloadN X0.here hx rfl (hb hby d9_0) rfl rfl k) ?_
 obtain ⟨T1, X1, e1, st1⟩ := getF X0 hx hZ hown (host := "") (Or.inl (wd28 hw)) Via.refl e0 F_a1_s (g := (mkF m 1 #[vr a1] [(.ref a1)])) rfl rfl (hb hby d9_1)
 refine G st1 ?_
 obtain ⟨fs, hr, hrun, hended, hW, hsame⟩ := X1.leave (v := some (.int w_a1_size)) (fun h => by rw [Bd.returns] at h; cases h)
 refine Go.fin (retOut X1 hx Bd.returns rfl (Or.inl ⟨rfl, Or.inl rfl, _, rfl⟩) (hb hby d9_4) hr) hrun hended ⟨_, _, rfl, ?_, ⟨_, rfl⟩, hW, hsame.mono (by decide) (by decide)⟩
 show Q9 Z a1 w_a1_size h0 n0 _ T1.heap _
 rw [e1]
 exact ⟨rfl, N0, rfl⟩
theorem d10_0 : decode cB10 0 = .ok (.aload_n 0, 1) := by decide +kernel
theorem d10_1 : decode cB10 1 = .ok (.getfield 38, 3) := by decide +kernel
theorem d10_4 : decode cB10 4 = .ok (.ifnonnull 7, 3) := by decide +kernel
theorem d10_7 : decode cB10 7 = .ok (.iconst 1, 1) := by decide +kernel
theorem d10_8 : decode cB10 8 = .ok (.goto 4, 3) := by decide +kernel
theorem d10_12 : decode cB10 12 = .ok (.ireturn, 1) := by decide +kernel
def Q10 (Z : State) (a1 : Addr) (h0 : Heap) (n0 : Nat) (v : Option Value) (h : Heap) (L : List Loc) : Prop := v = some (.int (1 : Int32)) ∧ Fr n0 L ∧ h = h0
theorem ef10 (m : MethodId) (x0 : Addr) : entryFrame m #[(.ref x0)] 1 = mkF m 0 #[.val (.ref x0)] [] := by first | (simp [entryFrame, mkF, argsToLocals, Value.category]; done) | rfl
theorem rm10 (l : Launch) (Z : State) (a0 : Array Value) (hw : HW a0 Z) (ws : List Jvm.Cond) (a1 : Addr) (h0 : Heap) (n0 : Nat) (Z0 : n0 ≤ h0.size) (F_a1_m : Fld Z h0 a1 RC "members" RI .null) :
  MetFree l (⟨RC, "isSmall", "()Z"⟩ : MethodName) (head1 (Jvm.Cond.code (⟨RC, "isSmall", "()Z"⟩ : MethodName) cB10 1 (some .boolean) :: ws) (Rm 0 0 0 0)) (Pr Z h0 #[(.ref a1)]) Tr (fun _ U o U' => ∃ v L, o = .returned v ∧ Q10 Z a1 h0 n0 v U'.heap L ∧ FrameEnd U o U' L (Rm 0 0 0 0).cells (Rm 0 0 0 0).slots) := by
 refine MetFree.of_bodySF (plainFor_of_name pn0) hisR ?_
 intro p e s m args below meth c s₁ Bd hml0 hP hK
 obtain ⟨rfl, hZ, hh⟩ := hP
 have hx := Bd.exec
 have hby := Bd.bytes
 have hml : c.maxLocals = 1 := hml0
 have hown : s.vm.findClass RC = some m.cls := findClass_of_methodNamed Bd.named
 have hnm := (name_of_methodNamed Bd.named Bd.method).1
 have X0 : Stand p l e (Rm 0 0 0 0) s m #[(.ref a1)] below meth c s₁ [] 0 0 := Stand.of_body Bd
 have e0 : s₁.heap = h0 := by rw [← hh, Bd.state]; rfl
 have N0 := Fr.nil n0
 have K0 : Keep h0 h0 [] := Keep.refl h0 _
 refine G (P := fun o U' => ∃ v L, o = .returned v ∧ Q10 Z a1 h0 n0 v U'.heap L ∧ FrameEnd s o U' L (Rm 0 0 0 0).cells (Rm 0 0 0 0).slots) (fun t k => castTop (ef10 m a1) k) ?_
 show Go _ _ _ (s₁.setTop (mkF m 0 #[vr a1] [])) _
 refine G (fun t k => XS.aloadN X0.here hx rfl (hb hby d10_0) rfl rfl k) ?_
 obtain ⟨T1, X1, e1, st1⟩ := getF X0 hx hZ hown (host := "") (Or.inl (wd30 hw)) Via.refl e0 F_a1_m (g := (mkF m 1 #[vr a1] [(.ref a1)])) rfl rfl (hb hby d10_1)
 refine G st1 ?_
 refine G (fun t k => XS.ifnonnullNo X1.here hx rfl (hb hby d10_4) rfl (XS.iconst X1.here hx rfl (hb hby d10_7) (XS.goto X1.here hx rfl (pc0 := 8) (pc' := 12) rfl (hb hby d10_8) (by decide) (by decide) k))) ?_
 obtain ⟨fs, hr, hrun, hended, hW, hsame⟩ := X1.leave (v := some (.int (1 : Int32))) (fun h => by rw [Bd.returns] at h; cases h)
 refine Go.fin (retN X1 hx (t := .boolean) Bd.returns (by simp) (hb hby d10_12) hr) hrun hended ⟨_, _, rfl, ?_, ⟨_, rfl⟩, hW, hsame.mono (by decide) (by decide)⟩
 show Q10 Z a1 h0 n0 _ T1.heap _
 rw [e1]
 exact ⟨rfl, N0, rfl⟩
theorem d7_0 : decode cB7 0 = .ok (.aload_n 0, 1) := by decide +kernel
theorem d7_1 : decode cB7 1 = .ok (.getfield 22, 3) := by decide +kernel
theorem d7_4 : decode cB7 4 = .ok (.areturn, 1) := by decide +kernel
def Q7 (Z : State) (a1 : Addr) (w_a1_values : Addr) (h0 : Heap) (n0 : Nat) (v : Option Value) (h : Heap) (L : List Loc) : Prop := v = some (.ref w_a1_values) ∧ Fr n0 L ∧ h = h0
theorem ef7 (m : MethodId) (x0 : Addr) : entryFrame m #[(.ref x0)] 1 = mkF m 0 #[.val (.ref x0)] [] := by first | (simp [entryFrame, mkF, argsToLocals, Value.category]; done) | rfl
theorem rm7 (l : Launch) (Z : State) (a0 : Array Value) (hw : HW a0 Z) (ws : List Jvm.Cond) (a1 : Addr) (w_a1_values : Addr) (h0 : Heap) (n0 : Nat) (Z0 : n0 ≤ h0.size) (F_a1_v : Fld Z h0 a1 RC "values" "[I" (.ref w_a1_values)) :
  MetFree l (⟨RC, "values", "()[I"⟩ : MethodName) (head1 (Jvm.Cond.code (⟨RC, "values", "()[I"⟩ : MethodName) cB7 1 (some (.array .int)) :: ws) (Rm 0 0 0 0)) (Pr Z h0 #[(.ref a1)]) Tr (fun _ U o U' => ∃ v L, o = .returned v ∧ Q7 Z a1 w_a1_values h0 n0 v U'.heap L ∧ FrameEnd U o U' L (Rm 0 0 0 0).cells (Rm 0 0 0 0).slots) := by
 refine MetFree.of_bodySF (plainFor_of_name pn0) hisR ?_
 intro p e s m args below meth c s₁ Bd hml0 hP hK
 obtain ⟨rfl, hZ, hh⟩ := hP
 have hx := Bd.exec
 have hby := Bd.bytes
 have hml : c.maxLocals = 1 := hml0
 have hown : s.vm.findClass RC = some m.cls := findClass_of_methodNamed Bd.named
 have hnm := (name_of_methodNamed Bd.named Bd.method).1
 have X0 : Stand p l e (Rm 0 0 0 0) s m #[(.ref a1)] below meth c s₁ [] 0 0 := Stand.of_body Bd
 have e0 : s₁.heap = h0 := by rw [← hh, Bd.state]; rfl
 have N0 := Fr.nil n0
 have K0 : Keep h0 h0 [] := Keep.refl h0 _
 refine G (P := fun o U' => ∃ v L, o = .returned v ∧ Q7 Z a1 w_a1_values h0 n0 v U'.heap L ∧ FrameEnd s o U' L (Rm 0 0 0 0).cells (Rm 0 0 0 0).slots) (fun t k => castTop (ef7 m a1) k) ?_
 show Go _ _ _ (s₁.setTop (mkF m 0 #[vr a1] [])) _
 refine G (fun t k => XS.aloadN X0.here hx rfl (hb hby d7_0) rfl rfl k) ?_
 obtain ⟨T1, X1, e1, st1⟩ := getF X0 hx hZ hown (host := "") (Or.inl (wd21 hw)) Via.refl e0 F_a1_v (g := (mkF m 1 #[vr a1] [(.ref a1)])) rfl rfl (hb hby d7_1)
 refine G st1 ?_
 obtain ⟨fs, hr, hrun, hended, hW, hsame⟩ := X1.leave (v := some (.ref w_a1_values)) (fun h => by rw [Bd.returns] at h; cases h)
 refine Go.fin (retOut X1 hx Bd.returns rfl (Or.inr (Or.inr (Or.inr (Or.inr ⟨rfl, rfl, rfl⟩)))) (hb hby d7_4) hr) hrun hended ⟨_, _, rfl, ?_, ⟨_, rfl⟩, hW, hsame.mono (by decide) (by decide)⟩
 show Q7 Z a1 w_a1_values h0 n0 _ T1.heap _
 rw [e1]
 exact ⟨rfl, N0, rfl⟩
theorem own_stm {p : Program} {l : Launch} {e : Env} {R : Room} {s : State} {m : MethodId} {args : Array Value} {below : List Frame} {meth : Method} {c : Code} {T : State} {locs : List Loc} {a b a' b' : Nat} (X : Stand p l e R s m args below meth c T locs a b) (h1 : a ≤ a') (h2 : b ≤ b') : Stand p l e R s m args below meth c T locs a' b' :=
 ⟨X.admits, X.cas, X.clock, X.frames, X.room, X.hears, X.method, X.code, X.here, X.tail, X.warmed, X.limits, X.bytes, X.same.mono h1 h2⟩
theorem wd0 {Z a0} (hw : HW a0 Z) : (Jvm.Cond.constant "com/example/bitlattice/bitlattice/eval/RelationClearPinLaw" (7 : Nat) (2147483647 : Int32)).before a0 Z = true := mw hw 0 rfl
theorem wd1 {Z a0} (hw : HW a0 Z) : (Jvm.Cond.methodLink "com/example/bitlattice/bitlattice/eval/RelationClearPinLaw" (8 : Nat) ⟨"com/example/bitlattice/bitlattice/eval/RelationClearPinLaw", "row", "(IIII)[I"⟩).before a0 Z = true := mw hw 1 rfl
theorem wd4 {Z a0} (hw : HW a0 Z) : (Jvm.Cond.code ⟨"com/example/bitlattice/bitlattice/eval/RelationClearPinLaw", "row", "(IIII)[I"⟩ cB1 (5 : Nat) (Option.some (Jvm.ClassFile.FieldType.array Jvm.ClassFile.FieldType.int))).before a0 Z = true := mw hw 4 rfl
theorem wd3 {Z a0} (hw : HW a0 Z) : (Jvm.Cond.initialized "com/example/bitlattice/bitlattice/eval/RelationClearPinLaw").before a0 Z = true := mw hw 3 rfl
theorem pd10 : parseMethodDescriptor "(IIII)[I" = some ⟨[.int, .int, .int, .int], some (.array .int)⟩ := by decide +kernel
theorem wd2 {Z a0} (hw : HW a0 Z) : (Jvm.Cond.static ⟨"com/example/bitlattice/bitlattice/eval/RelationClearPinLaw", "row", "(IIII)[I"⟩).before a0 Z = true := mw hw 2 rfl
theorem wd6 {Z a0} (hw : HW a0 Z) : (Jvm.Cond.classLink "com/example/bitlattice/bitlattice/eval/RelationClearPinLaw" (14 : Nat) RC).before a0 Z = true := mw hw 6 rfl
theorem wd9 {Z a0} (hw : HW a0 Z) : (Jvm.Cond.methodLink "com/example/bitlattice/bitlattice/eval/RelationClearPinLaw" (16 : Nat) ⟨RC, "<init>", "(I)V"⟩).before a0 Z = true := mw hw 9 rfl
theorem wd11 {Z a0} (hw : HW a0 Z) : (Jvm.Cond.code ⟨RC, "<init>", "(I)V"⟩ cB2 (2 : Nat) (Option.none : Option Jvm.ClassFile.FieldType)).before a0 Z = true := mw hw 11 rfl
theorem wd10 {Z a0} (hw : HW a0 Z) : (Jvm.Cond.instanceMethod ⟨RC, "<init>", "(I)V"⟩).before a0 Z = true := mw hw 10 rfl
theorem wd59 {Z a0} (hw : HW a0 Z) : (Jvm.Cond.methodLink "com/example/bitlattice/bitlattice/eval/RelationClearPinLaw" (33 : Nat) ⟨RC, "size", "()I"⟩).before a0 Z = true := mw hw 59 rfl
theorem wd63 {Z a0} (hw : HW a0 Z) : (Jvm.Cond.code ⟨RC, "size", "()I"⟩ cB9 (1 : Nat) (Option.some Jvm.ClassFile.FieldType.int)).before a0 Z = true := mw hw 63 rfl
theorem pd11 : parseMethodDescriptor "()I" = some ⟨[], some .int⟩ := by decide +kernel
theorem wd62 {Z a0} (hw : HW a0 Z) : (Jvm.Cond.selects RC ⟨RC, "size", "()I"⟩ ⟨RC, "size", "()I"⟩).before a0 Z = true := mw hw 62 rfl
theorem wd60 {Z a0} (hw : HW a0 Z) : (Jvm.Cond.declares ⟨RC, "size", "()I"⟩).before a0 Z = true := mw hw 60 rfl
theorem wd61 {Z a0} (hw : HW a0 Z) : (Jvm.Cond.instanceMethod ⟨RC, "size", "()I"⟩).before a0 Z = true := mw hw 61 rfl
theorem wd64 {Z a0} (hw : HW a0 Z) : (Jvm.Cond.methodLink "com/example/bitlattice/bitlattice/eval/RelationClearPinLaw" (37 : Nat) ⟨RC, "isSmall", "()Z"⟩).before a0 Z = true := mw hw 64 rfl
theorem wd68 {Z a0} (hw : HW a0 Z) : (Jvm.Cond.code ⟨RC, "isSmall", "()Z"⟩ cB10 (1 : Nat) (Option.some Jvm.ClassFile.FieldType.boolean)).before a0 Z = true := mw hw 68 rfl
theorem pd12 : parseMethodDescriptor "()Z" = some ⟨[], some .boolean⟩ := by decide +kernel
theorem wd67 {Z a0} (hw : HW a0 Z) : (Jvm.Cond.selects RC ⟨RC, "isSmall", "()Z"⟩ ⟨RC, "isSmall", "()Z"⟩).before a0 Z = true := mw hw 67 rfl
theorem wd65 {Z a0} (hw : HW a0 Z) : (Jvm.Cond.declares ⟨RC, "isSmall", "()Z"⟩).before a0 Z = true := mw hw 65 rfl
theorem wd66 {Z a0} (hw : HW a0 Z) : (Jvm.Cond.instanceMethod ⟨RC, "isSmall", "()Z"⟩).before a0 Z = true := mw hw 66 rfl
theorem wd69 {Z a0} (hw : HW a0 Z) : (Jvm.Cond.methodLink "com/example/bitlattice/bitlattice/eval/RelationClearPinLaw" (41 : Nat) ⟨RC, "contains", "([I)Z"⟩).before a0 Z = true := mw hw 69 rfl
theorem wd47 {Z a0} (hw : HW a0 Z) : (Jvm.Cond.methodLink "com/example/bitlattice/bitlattice/eval/RelationClearPinLaw" (26 : Nat) ⟨RC, "values", "()[I"⟩).before a0 Z = true := mw hw 47 rfl
theorem wd51 {Z a0} (hw : HW a0 Z) : (Jvm.Cond.code ⟨RC, "values", "()[I"⟩ cB7 (1 : Nat) (Option.some (Jvm.ClassFile.FieldType.array Jvm.ClassFile.FieldType.int))).before a0 Z = true := mw hw 51 rfl
theorem pd13 : parseMethodDescriptor "()[I" = some ⟨[], some (.array .int)⟩ := by decide +kernel
theorem wd50 {Z a0} (hw : HW a0 Z) : (Jvm.Cond.selects RC ⟨RC, "values", "()[I"⟩ ⟨RC, "values", "()[I"⟩).before a0 Z = true := mw hw 50 rfl
theorem wd48 {Z a0} (hw : HW a0 Z) : (Jvm.Cond.declares ⟨RC, "values", "()[I"⟩).before a0 Z = true := mw hw 48 rfl
theorem wd49 {Z a0} (hw : HW a0 Z) : (Jvm.Cond.instanceMethod ⟨RC, "values", "()[I"⟩).before a0 Z = true := mw hw 49 rfl
theorem wd32 {Z a0} (hw : HW a0 Z) : (Jvm.Cond.methodLink "com/example/bitlattice/bitlattice/eval/RelationClearPinLaw" (22 : Nat) ⟨RC, "add", "([I)Z"⟩).before a0 Z = true := mw hw 32 rfl
theorem wd36 {Z a0} (hw : HW a0 Z) : (Jvm.Cond.code ⟨RC, "add", "([I)Z"⟩ cB5 (7 : Nat) (Option.some Jvm.ClassFile.FieldType.boolean)).before a0 Z = true := mw hw 36 rfl
theorem wd35 {Z a0} (hw : HW a0 Z) : (Jvm.Cond.selects RC ⟨RC, "add", "([I)Z"⟩ ⟨RC, "add", "([I)Z"⟩).before a0 Z = true := mw hw 35 rfl
theorem wd33 {Z a0} (hw : HW a0 Z) : (Jvm.Cond.declares ⟨RC, "add", "([I)Z"⟩).before a0 Z = true := mw hw 33 rfl
theorem wd34 {Z a0} (hw : HW a0 Z) : (Jvm.Cond.instanceMethod ⟨RC, "add", "([I)Z"⟩).before a0 Z = true := mw hw 34 rfl
theorem wd23 {Z a0} (hw : HW a0 Z) : (Jvm.Cond.methodLink "com/example/bitlattice/bitlattice/eval/RelationClearPinLaw" (19 : Nat) ⟨RC, "reserve", "(I)V"⟩).before a0 Z = true := mw hw 23 rfl
theorem wd27 {Z a0} (hw : HW a0 Z) : (Jvm.Cond.code ⟨RC, "reserve", "(I)V"⟩ cB4 (7 : Nat) (Option.none : Option Jvm.ClassFile.FieldType)).before a0 Z = true := mw hw 27 rfl
theorem wd26 {Z a0} (hw : HW a0 Z) : (Jvm.Cond.selects RC ⟨RC, "reserve", "(I)V"⟩ ⟨RC, "reserve", "(I)V"⟩).before a0 Z = true := mw hw 26 rfl
theorem wd24 {Z a0} (hw : HW a0 Z) : (Jvm.Cond.declares ⟨RC, "reserve", "(I)V"⟩).before a0 Z = true := mw hw 24 rfl
theorem wd25 {Z a0} (hw : HW a0 Z) : (Jvm.Cond.instanceMethod ⟨RC, "reserve", "(I)V"⟩).before a0 Z = true := mw hw 25 rfl
theorem wd52 {Z a0} (hw : HW a0 Z) : (Jvm.Cond.methodLink "com/example/bitlattice/bitlattice/eval/RelationClearPinLaw" (30 : Nat) ⟨RC, "clear", "()V"⟩).before a0 Z = true := mw hw 52 rfl
theorem wd56 {Z a0} (hw : HW a0 Z) : (Jvm.Cond.code ⟨RC, "clear", "()V"⟩ cB8 (1 : Nat) (Option.none : Option Jvm.ClassFile.FieldType)).before a0 Z = true := mw hw 56 rfl
theorem pd14 : parseMethodDescriptor "()V" = some ⟨[], none⟩ := by decide +kernel
theorem wd55 {Z a0} (hw : HW a0 Z) : (Jvm.Cond.selects RC ⟨RC, "clear", "()V"⟩ ⟨RC, "clear", "()V"⟩).before a0 Z = true := mw hw 55 rfl
theorem wd53 {Z a0} (hw : HW a0 Z) : (Jvm.Cond.declares ⟨RC, "clear", "()V"⟩).before a0 Z = true := mw hw 53 rfl
theorem wd54 {Z a0} (hw : HW a0 Z) : (Jvm.Cond.instanceMethod ⟨RC, "clear", "()V"⟩).before a0 Z = true := mw hw 54 rfl
def Q0 (Z : State) (p1 : Int32) (p2 : Int32) (p3 : Int32) (p4 : Int32) (p5 : Int32) (p6 : Int32) (w_NI : Addr) (k_NI : ClassId) (h0 : Heap) (n0 : Nat) (v : Option Value) (h : Heap) (L : List Loc) : Prop := v = some (.int (1 : Int32)) ∧ Fr n0 L
theorem ef0 (m : MethodId) (x0 : Int32) (x1 : Int32) (x2 : Int32) (x3 : Int32) (x4 : Int32) (x5 : Int32) : entryFrame m #[(.int x0), (.int x1), (.int x2), (.int x3), (.int x4), (.int x5)] maxLocals = mkF m 0 #[.val (.int x0), .val (.int x1), .val (.int x2), .val (.int x3), .val (.int x4), .val (.int x5), .unset, .unset, .unset, .unset, .unset, .unset, .unset, .unset, .unset, .unset, .unset, .unset] [] := by first | (simp [entryFrame, mkF, argsToLocals, Value.category, maxLocals]; done) | rfl
theorem rm0 (l : Launch) (Z : State) (a0 : Array Value) (hw : HW a0 Z) (ws : List Jvm.Cond) (p1 : Int32) (p2 : Int32) (p3 : Int32) (p4 : Int32) (p5 : Int32) (p6 : Int32) (w_NI : Addr) (k_NI : ClassId) (h0 : Heap) (n0 : Nat) (Z0 : n0 ≤ h0.size) (V_NI : Arv Z h0 w_NI k_NI (.object IC) (0 : Int32) [] .null) (S_NI : Sta Z h0 RC "NO_INDEXES" RJ (.ref w_NI)) :
  MetFree l x (head1 (Jvm.Cond.code x code maxLocals ret :: ws) room_1) (Pr Z h0 #[(.int p1), (.int p2), (.int p3), (.int p4), (.int p5), (.int p6)]) Tr (fun _ U o U' => ∃ v L, o = .returned v ∧ Q0 Z p1 p2 p3 p4 p5 p6 w_NI k_NI h0 n0 v U'.heap L ∧ FrameEnd U o U' L 32 512) := by
 refine MetFree.of_bodySF (plainFor_of_name pn5) hisR ?_
 intro p e s m args below meth c s₁ Bd hml0 hP hK
 obtain ⟨rfl, hZ, hh⟩ := hP
 have hx := Bd.exec
 have hby := Bd.bytes
 have hml : c.maxLocals = 18 := hml0
 have hown : s.vm.findClass "com/example/bitlattice/bitlattice/eval/RelationClearPinLaw" = some m.cls := findClass_of_methodNamed Bd.named
 have hnm := (name_of_methodNamed Bd.named Bd.method).1
 have X0 : Stand p l e room_1 s m #[(.int p1), (.int p2), (.int p3), (.int p4), (.int p5), (.int p6)] below meth c s₁ [] 0 0 := Stand.of_body Bd
 have e0 : s₁.heap = h0 := by rw [← hh, Bd.state]; rfl
 have N0 := Fr.nil n0
 have K0 : Keep h0 h0 [] := Keep.refl h0 _
 refine G (P := fun o U' => ∃ v L, o = .returned v ∧ Q0 Z p1 p2 p3 p4 p5 p6 w_NI k_NI h0 n0 v U'.heap L ∧ FrameEnd s o U' L 32 512) (fun t k => castTop (ef0 m p1 p2 p3 p4 p5 p6) k) ?_
 show Go _ _ _ (s₁.setTop (mkF m 0 #[vi p1, vi p2, vi p3, vi p4, vi p5, vi p6, us, us, us, us, us, us, us, us, us, us, us, us] [])) _
 refine G (fun t k => XS.iconst X0.here hx rfl (hb hby at_0) (XS.iloadN X0.here hx rfl (hb hby at_1) rfl (X0.ldcInt hx hown (mvT hZ (wd0 hw)) (g := (mkF m 2 #[vi p1, vi p2, vi p3, vi p4, vi p5, vi p6, us, us, us, us, us, us, us, us, us, us, us, us] [(.int p1), (.int 1)])) rfl (hb hby at_2) _ (XS.iand X0.here hx rfl (hb hby at_4) rfl (XS.iconst X0.here hx rfl (hb hby at_5) (iremM X0 hx rfl (hb hby at_6) rfl (by decide) k)))))) ?_
 refine G (fun t k => XS.iadd X0.here hx rfl (hb hby at_7) rfl k) ?_
 show Go _ _ _ (s₁.setTop (mkF m 8 #[vi p1, vi p2, vi p3, vi p4, vi p5, vi p6, us, us, us, us, us, us, us, us, us, us, us, us] [(.int ((1 : Int32) + ((p1 &&& (2147483647 : Int32)) % (3 : Int32))))])) _
 refine G (fun t k => XS.istore X0.here hx rfl (hb hby at_8) rfl (l' := #[vi p1, vi p2, vi p3, vi p4, vi p5, vi p6, vi ((1 : Int32) + ((p1 &&& (2147483647 : Int32)) % (3 : Int32))), us, us, us, us, us, us, us, us, us, us, us]) rfl k) ?_
 show Go _ _ _ (s₁.setTop (mkF m 10 #[vi p1, vi p2, vi p3, vi p4, vi p5, vi p6, vi ((1 : Int32) + ((p1 &&& (2147483647 : Int32)) % (3 : Int32))), us, us, us, us, us, us, us, us, us, us, us] [])) _
 by_cases hc1 : ((p1 &&& (2147483647 : Int32)) % (3 : Int32)) = (0 : Int32)
 ·rw [show ((1 : Int32) + ((p1 &&& (2147483647 : Int32)) % (3 : Int32))) = (1 : Int32) from by rw [hc1]; decide]
  show Go _ _ _ (s₁.setTop (mkF m 10 #[vi p1, vi p2, vi p3, vi p4, vi p5, vi p6, vi 1, us, us, us, us, us, us, us, us, us, us, us] [])) _
  refine G (fun t k => XS.iload X0.here hx rfl (hb hby at_10) rfl (XS.iloadN X0.here hx rfl (hb hby at_12) rfl (XS.iloadN X0.here hx rfl (hb hby at_13) rfl (XS.iload X0.here hx rfl (hb hby at_14) rfl k)))) ?_
  obtain ⟨_, _, ⟨T2, L2, k2, n2⟩, -, X2, ⟨Lc2, hQ2, l2, y2, z2⟩, st2⟩ := Jvm.LawKit.callS X0 hx (y := (⟨"com/example/bitlattice/bitlattice/eval/RelationClearPinLaw", "row", "(IIII)[I"⟩ : MethodName)) hown (mvT hZ (wd1 hw)) (mvT hZ (wd2 hw)) (mvT hZ (wd3 hw)) (mvT hZ (wd4 hw)) (by decide) (backOf (W := 0) (rm1_1 l Z a0 hw [] p3 p4 p5 h0 n0 Z0) hZ (wd4 hw) (wd3 hw) (by decide) (by decide)) (g := (mkF m 16 #[vi p1, vi p2, vi p3, vi p4, vi p5, vi p6, vi 1, us, us, us, us, us, us, us, us, us, us, us] [(.int p5), (.int p4), (.int p3), (.int 1)])) rfl (by rw [hml]; rfl) (argsL := [(.int (1 : Int32)), (.int p3), (.int p4), (.int p5)]) (rest := []) (lenOf pd10 rfl) rfl (by show 2 * 0 + _ ≤ _; exact Nat.le_of_eq rfl) (hb hby at_16) (fun _ _ => ⟨rfl, e0, (by decide : 0 + 1 ≤ _), (by decide : 0 + 1 ≤ _)⟩)
  dsimp only [Pt.U, Pt.locs, Pt.cells, Pt.slots] at X2 l2 y2 z2 st2 hQ2
  subst l2 y2 z2
  obtain ⟨h2, e2⟩ : ∃ z, T2.heap = z := ⟨_, rfl⟩
  rw [e2] at hQ2
  obtain ⟨y2, k_y2, rfl, N2q, K2, ng_y2, sz0_y2, Q2_0⟩ := hQ2
  refine G st2 ?_
  have ne_w_NI_y2 : w_NI ≠ y2 := Nat.ne_of_lt (Nat.lt_of_lt_of_le V_NI.lt sz0_y2)
  have g_y2 : n0 ≤ y2 := ng_y2
  have sz_y2 : h0.size ≤ y2 := Nat.le_trans K0.1 sz0_y2
  replace V_NI := V_NI.keep K2 nin0
  replace S_NI := sta_keep S_NI K2 all0
  replace Z0 := Nat.le_trans Z0 K2.1
  replace K0 := K0.trans K2 all0
  have V_y2 := Q2_0
  have N2 := Fr.app N0 N2q
  refine G (fun t k => XS.astore X2.here hx rfl (hb hby at_19) rfl rfl (l' := #[vi p1, vi p2, vi p3, vi p4, vi p5, vi p6, vi 1, vr y2, us, us, us, us, us, us, us, us, us, us]) rfl (XS.iload X2.here hx rfl (hb hby at_21) rfl k)) ?_
  show Go _ _ _ (T2.setTop (mkF m 23 #[vi p1, vi p2, vi p3, vi p4, vi p5, vi p6, vi 1, vr y2, us, us, us, us, us, us, us, us, us, us] [(.int 1)])) _
  refine G (fun t k => XS.iload X2.here hx rfl (hb hby at_23) rfl (XS.iloadN X2.here hx rfl (hb hby at_25) rfl (XS.iload X2.here hx rfl (hb hby at_26) rfl k))) ?_
  obtain ⟨_, _, ⟨T3, L3, k3, n3⟩, -, X3, ⟨Lc3, hQ3, l3, y3, z3⟩, st3⟩ := Jvm.LawKit.callS X2 hx (y := (⟨"com/example/bitlattice/bitlattice/eval/RelationClearPinLaw", "row", "(IIII)[I"⟩ : MethodName)) hown (mvT hZ (wd1 hw)) (mvT hZ (wd2 hw)) (mvT hZ (wd3 hw)) (mvT hZ (wd4 hw)) (by decide) (backOf (W := 0) (rm1_1 l Z a0 hw [] p6 p4 p5 h2 n0 Z0) hZ (wd4 hw) (wd3 hw) (by decide) (by decide)) (g := (mkF m 28 #[vi p1, vi p2, vi p3, vi p4, vi p5, vi p6, vi 1, vr y2, us, us, us, us, us, us, us, us, us, us] [(.int p5), (.int p4), (.int p6), (.int 1)])) rfl (by rw [hml]; rfl) (argsL := [(.int (1 : Int32)), (.int p6), (.int p4), (.int p5)]) (rest := []) (lenOf pd10 rfl) rfl (by show 2 * 0 + _ ≤ _; exact Nat.le_of_eq rfl) (hb hby at_28) (fun _ _ => ⟨rfl, e2, (by decide : 1 + 1 ≤ _), (by decide : 1 + 1 ≤ _)⟩)
  dsimp only [Pt.U, Pt.locs, Pt.cells, Pt.slots] at X3 l3 y3 z3 st3 hQ3
  subst l3 y3 z3
  obtain ⟨h3, e3⟩ : ∃ z, T3.heap = z := ⟨_, rfl⟩
  rw [e3] at hQ3
  obtain ⟨y3, k_y3, rfl, N3q, K3, ng_y3, sz0_y3, Q3_0⟩ := hQ3
  refine G st3 ?_
  have ne_w_NI_y3 : w_NI ≠ y3 := Nat.ne_of_lt (Nat.lt_of_lt_of_le V_NI.lt sz0_y3)
  have ne_y2_y3 : y2 ≠ y3 := Nat.ne_of_lt (Nat.lt_of_lt_of_le V_y2.lt sz0_y3)
  have g_y3 : n0 ≤ y3 := ng_y3
  have sz_y3 : h0.size ≤ y3 := Nat.le_trans K0.1 sz0_y3
  replace V_NI := V_NI.keep K3 nin0
  replace S_NI := sta_keep S_NI K3 all0
  replace V_y2 := V_y2.keep K3 nin0
  replace Z0 := Nat.le_trans Z0 K3.1
  replace K0 := K0.trans K3 all0
  have V_y3 := Q3_0
  have N3 := Fr.app N2 N3q
  refine G (fun t k => XS.astore X3.here hx rfl (hb hby at_31) rfl rfl (l' := #[vi p1, vi p2, vi p3, vi p4, vi p5, vi p6, vi 1, vr y2, vr y3, us, us, us, us, us, us, us, us, us]) rfl k) ?_
  obtain ⟨T4, h4, X4, e4, E4, A4, D4, -, st4⟩ := newO X3 hx hZ hown (wd6 hw) (wd7 hw) (wd8 hw) e3 (g := (mkF m 33 #[vi p1, vi p2, vi p3, vi p4, vi p5, vi p6, vi 1, vr y2, vr y3, us, us, us, us, us, us, us, us, us] [])) rfl (hb hby at_33) (by decide) (by decide)
  obtain ⟨b4, g4⟩ : ∃ z, z = h3.size := ⟨_, rfl⟩
  rw [← g4] at A4 D4 st4
  refine G st4 ?_
  have ne_w_NI_b4 : w_NI ≠ b4 := Nat.ne_of_lt (Nat.lt_of_lt_of_le V_NI.lt (Nat.le_of_eq g4.symm))
  have ne_y2_b4 : y2 ≠ b4 := Nat.ne_of_lt (Nat.lt_of_lt_of_le V_y2.lt (Nat.le_of_eq g4.symm))
  have ne_y3_b4 : y3 ≠ b4 := Nat.ne_of_lt (Nat.lt_of_lt_of_le V_y3.lt (Nat.le_of_eq g4.symm))
  have g_b4 : n0 ≤ b4 := Nat.le_trans Z0 (Nat.le_of_eq g4.symm)
  have sz_b4 : h0.size ≤ b4 := Nat.le_trans K0.1 (Nat.le_of_eq g4.symm)
  replace V_NI := V_NI.ext E4
  replace S_NI := S_NI.ext E4
  replace V_y2 := V_y2.ext E4
  replace V_y3 := V_y3.ext E4
  replace K0 := K0.ext E4
  replace Z0 := Nat.le_trans Z0 E4.1
  have E_b4 := A4
  have F_b4_i : Fld Z h4 b4 RC "indexes" RJ .null := D4 (Or.inl (wd18 hw)) (ty := (.array (.object IC))) (by decide)
  have F_b4_a : Fld Z h4 b4 RC "arity" "I" (.int (0 : Int32)) := D4 (Or.inr (wd20 hw)) (ty := .int) (by decide)
  have F_b4_v : Fld Z h4 b4 RC "values" "[I" .null := D4 (Or.inl (wd22 hw)) (ty := (.array .int)) (by decide)
  have F_b4_s : Fld Z h4 b4 RC "size" "I" (.int (0 : Int32)) := D4 (Or.inl (wd29 hw)) (ty := .int) (by decide)
  have F_b4_m : Fld Z h4 b4 RC "members" RI .null := D4 (Or.inl (wd31 hw)) (ty := (.object IC)) (by decide)
  have F_b4_h : Fld Z h4 b4 RC "holdingAny" "I" (.int (0 : Int32)) := D4 (Or.inl (wd58 hw)) (ty := .int) (by decide)
  refine G (fun t k => XS.dup X4.here hx rfl (hb hby at_36) rfl rfl k) ?_
  show Go _ _ _ (T4.setTop (mkF m 37 #[vi p1, vi p2, vi p3, vi p4, vi p5, vi p6, vi 1, vr y2, vr y3, us, us, us, us, us, us, us, us, us] [(.ref b4), (.ref b4)])) _
  refine G (fun t k => XS.iload X4.here hx rfl (hb hby at_37) rfl k) ?_
  obtain ⟨_, _, ⟨T5, L5, k5, n5⟩, -, X5, ⟨Lc5, hQ5, l5, y5, z5⟩, st5⟩ := X4.specialBack hx (y := (⟨RC, "<init>", "(I)V"⟩ : MethodName)) rfl hown (mvT hZ (wd9 hw)) (mvT hZ (wd10 hw)) (mvT hZ (wd11 hw)) (by decide) (backOf (W := 1) (rm2_1 l Z a0 hw [] b4 w_NI (.null : Value) (.null : Value) ((.int (0 : Int32)) : Value) h4 n0 Z0 E_b4 S_NI F_b4_s F_b4_m F_b4_h F_b4_i F_b4_v F_b4_a g_b4) hZ (wd11 hw) (wd8 hw) (by decide) (by decide)) (g := (mkF m 39 #[vi p1, vi p2, vi p3, vi p4, vi p5, vi p6, vi 1, vr y2, vr y3, us, us, us, us, us, us, us, us, us] [(.int 1), (.ref b4), (.ref b4)])) rfl (by rw [hml]; rfl) (Steps.refl _) (a := b4) (argsL := [(.int (1 : Int32))]) (rest := [(.ref b4)]) (lenOf pd1 rfl) rfl (by show 2 * 0 + _ ≤ _; exact Nat.le_of_eq rfl) (hb hby at_39) (fun _ _ => ⟨rfl, e4, (by decide : 3 + 1 ≤ _), (by decide : 8 + 4 ≤ _)⟩)
  dsimp only [Pt.U, Pt.locs, Pt.cells, Pt.slots] at X5 l5 y5 z5 st5 hQ5
  subst l5 y5 z5
  have E_b4_pre := E_b4
  have F_b4_indexes_pre := F_b4_i
  have F_b4_arity_pre := F_b4_a
  have F_b4_values_pre := F_b4_v
  have F_b4_size_pre := F_b4_s
  have F_b4_members_pre := F_b4_m
  have F_b4_holdingAny_pre := F_b4_h
  obtain ⟨h5, e5⟩ : ∃ z, T5.heap = z := ⟨_, rfl⟩
  rw [e5] at hQ5
  obtain ⟨y5, k_y5, rfl, N5q, K5, ng_y5, sz0_y5, Q5_0, Q5_1, Q5_2, Q5_3, Q5_4, Q5_5, Q5_6, Q5_7⟩ := hQ5
  refine Go.tr st5 ?_
  have ne_w_NI_y5 : w_NI ≠ y5 := Nat.ne_of_lt (Nat.lt_of_lt_of_le V_NI.lt sz0_y5)
  have ne_y2_y5 : y2 ≠ y5 := Nat.ne_of_lt (Nat.lt_of_lt_of_le V_y2.lt sz0_y5)
  have ne_y3_y5 : y3 ≠ y5 := Nat.ne_of_lt (Nat.lt_of_lt_of_le V_y3.lt sz0_y5)
  have ne_b4_y5 : b4 ≠ y5 := Nat.ne_of_lt (Nat.lt_of_lt_of_le E_b4.lt sz0_y5)
  have g_y5 : n0 ≤ y5 := ng_y5
  have sz_y5 : h0.size ≤ y5 := Nat.le_trans K0.1 sz0_y5
  replace V_NI := V_NI.keep K5 (ninS ne_w_NI_b4 nin0)
  replace S_NI := sta_keep S_NI K5 (allS (exa_ns E_b4_pre) all0)
  replace V_y2 := V_y2.keep K5 (ninS ne_y2_b4 nin0)
  replace V_y3 := V_y3.keep K5 (ninS ne_y3_b4 nin0)
  replace E_b4 := E_b4.keep K5
  replace Z0 := Nat.le_trans Z0 K5.1
  replace K0 := K0.trans K5 (allS (Or.inr sz_b4) all0)
  have E_b4 := Q5_0
  have F_b4_s := Q5_1
  have F_b4_m := Q5_2
  have F_b4_h := Q5_3
  have F_b4_i := Q5_4
  have F_b4_v := Q5_5
  have F_b4_a := Q5_6
  have V_y5 := Q5_7
  have N5 := Fr.app N3 N5q
  refine G (fun t k => XS.astore X5.here hx rfl (hb hby at_42) rfl rfl (l' := #[vi p1, vi p2, vi p3, vi p4, vi p5, vi p6, vi 1, vr y2, vr y3, vr b4, us, us, us, us, us, us, us, us]) rfl (XS.aload X5.here hx rfl (hb hby at_44) rfl rfl (XS.iloadN X5.here hx rfl (hb hby at_46) rfl (XS.bipush X5.here hx rfl (hb hby at_47) (XS.iand X5.here hx rfl (hb hby at_49) rfl k))))) ?_
  show Go _ _ _ (T5.setTop (mkF m 50 #[vi p1, vi p2, vi p3, vi p4, vi p5, vi p6, vi 1, vr y2, vr y3, vr b4, us, us, us, us, us, us, us, us] [(.int (p2 &&& (15 : Int32))), (.ref b4)])) _
  have J6 : ∀ (TJ : State) (locsJ : List Loc) (hJ : Heap) (jv : Addr) (jk : ClassId) (jn : Int32), Stand p l e room_1 s m #[(.int p1), (.int p2), (.int p3), (.int p4), (.int p5), (.int p6)] below meth c TJ locsJ 12 300 → TJ.heap = hJ → Fr n0 locsJ → Keep h0 hJ [] → n0 ≤ hJ.size → ¬ jn < (4 : Int32) → n0 ≤ jv → h0.size ≤ jv → w_NI ≠ jv → y2 ≠ jv → y3 ≠ jv → b4 ≠ jv → Arv Z hJ w_NI k_NI (.object IC) (0 : Int32) [] .null → Sta Z hJ RC "NO_INDEXES" RJ (.ref w_NI) → Arv Z hJ y2 k_y2 .int (1 : Int32) [(.int p3)] (.int (0 : Int32)) → Arv Z hJ y3 k_y3 .int (1 : Int32) [(.int p6)] (.int (0 : Int32)) → Exa Z hJ b4 RC → Fld Z hJ b4 RC "size" "I" (.int (0 : Int32)) → Fld Z hJ b4 RC "members" RI .null → Fld Z hJ b4 RC "holdingAny" "I" (.int (0 : Int32)) → Fld Z hJ b4 RC "indexes" RJ (.ref w_NI) → Fld Z hJ b4 RC "values" "[I" (.ref jv) → Fld Z hJ b4 RC "arity" "I" (.int (1 : Int32)) → Arv Z hJ jv jk .int jn [(.int p3)] (.int (0 : Int32)) → Go p.tables e below (TJ.setTop (mkF m 75 #[vi p1, vi p2, vi p3, vi p4, vi p5, vi p6, vi 1, vr y2, vr y3, vr b4, vi 1, vi jn, us, us, us, us, us, us] [])) (fun o U' => ∃ v L, o = .returned v ∧ Q0 Z p1 p2 p3 p4 p5 p6 w_NI k_NI h0 n0 v U'.heap L ∧ FrameEnd s o U' L 32 512) := by
   intro TJ locsJ hJ jv jk jn XJ eJ NJ K0 Z0 hjn g_jv sz_jv nj_w_NI nj_y2 nj_y3 nj_b4 V_NI S_NI V_y2 V_y3 E_b4 F_b4_s F_b4_m F_b4_h F_b4_i F_b4_v F_b4_a V_jv
   refine G (fun t k => XS.aload XJ.here hx rfl (hb hby at_75) rfl rfl k) ?_
   obtain ⟨cq7, kq7, q7a, q7b, q7c⟩ := isOf hZ eJ E_b4
   obtain ⟨_, _, ⟨T7, L7, k7, n7⟩, -, X7, ⟨Lc7, hQ7, l7, y7, z7⟩, st7⟩ := XJ.virtualBack hx (y := (⟨RC, "size", "()I"⟩ : MethodName)) (z := (⟨RC, "size", "()I"⟩ : MethodName)) hown (mvT hZ (wd59 hw)) (mvT hZ (wd60 hw)) (notFace_of_selects (args := #[]) (mvT hZ (wd62 hw))) (mvT hZ (wd62 hw)) (mvT hZ (wd61 hw)) (by decide) (backOf (W := 0) (rm9 l Z a0 hw [] b4 (0 : Int32) hJ n0 Z0 F_b4_s) hZ (wd63 hw) (wd8 hw) (by decide) (by decide)) q7a q7c (g := (mkF m 77 #[vi p1, vi p2, vi p3, vi p4, vi p5, vi p6, vi 1, vr y2, vr y3, vr b4, vi 1, vi jn, us, us, us, us, us, us] [(.ref b4)])) rfl (by rw [hml]; rfl) (Steps.refl _) (argsL := []) (rest := []) (lenOf pd11 rfl) rfl (by show 2 * 0 + _ ≤ _; exact Nat.le_of_eq rfl) (hb hby at_77) (fun _ _ => ⟨rfl, eJ, (by decide : 12 + 0 ≤ _), (by decide : 300 + 0 ≤ _)⟩)
   dsimp only [Pt.U, Pt.locs, Pt.cells, Pt.slots] at X7 l7 y7 z7 st7 hQ7
   subst l7 y7 z7
   refine Go.tr st7 ?_
   obtain ⟨rfl, N7q, e7⟩ := hQ7
   have N7 := Fr.app NJ N7q
   refine G (fun t k => XS.ifNo X7.here hx rfl (hb hby at_80) rfl ((if0 _ _).trans (teq (by decide : (0 : Int32) = (0 : Int32))).2) (XS.iconst X7.here hx rfl (hb hby at_83) (XS.goto X7.here hx rfl (pc0 := 84) (pc' := 88) rfl (hb hby at_84) (by decide) (by decide) (XS.istore X7.here hx rfl (hb hby at_88) rfl (l' := #[vi p1, vi p2, vi p3, vi p4, vi p5, vi p6, vi 1, vr y2, vr y3, vr b4, vi 1, vi jn, vi 1, us, us, us, us, us]) rfl (XS.aload X7.here hx rfl (hb hby at_90) rfl rfl k))))) ?_
   show Go _ _ _ (T7.setTop (mkF m 92 #[vi p1, vi p2, vi p3, vi p4, vi p5, vi p6, vi 1, vr y2, vr y3, vr b4, vi 1, vi jn, vi 1, us, us, us, us, us] [(.ref b4)])) _
   obtain ⟨cq8, kq8, q8a, q8b, q8c⟩ := isOf hZ e7 E_b4
   obtain ⟨_, _, ⟨T8, L8, k8, n8⟩, -, X8, ⟨Lc8, hQ8, l8, y8, z8⟩, st8⟩ := X7.virtualBack hx (y := (⟨RC, "isSmall", "()Z"⟩ : MethodName)) (z := (⟨RC, "isSmall", "()Z"⟩ : MethodName)) hown (mvT hZ (wd64 hw)) (mvT hZ (wd65 hw)) (notFace_of_selects (args := #[]) (mvT hZ (wd67 hw))) (mvT hZ (wd67 hw)) (mvT hZ (wd66 hw)) (by decide) (backOf (W := 0) (rm10 l Z a0 hw [] b4 hJ n0 Z0 F_b4_m) hZ (wd68 hw) (wd8 hw) (by decide) (by decide)) q8a q8c (g := (mkF m 92 #[vi p1, vi p2, vi p3, vi p4, vi p5, vi p6, vi 1, vr y2, vr y3, vr b4, vi 1, vi jn, vi 1, us, us, us, us, us] [(.ref b4)])) rfl (by rw [hml]; rfl) (Steps.refl _) (argsL := []) (rest := []) (lenOf pd12 rfl) rfl (by show 2 * 0 + _ ≤ _; exact Nat.le_of_eq rfl) (hb hby at_92) (fun _ _ => ⟨rfl, e7, (by decide : 12 + 0 ≤ _), (by decide : 300 + 0 ≤ _)⟩)
   dsimp only [Pt.U, Pt.locs, Pt.cells, Pt.slots] at X8 l8 y8 z8 st8 hQ8
   subst l8 y8 z8
   refine Go.tr st8 ?_
   obtain ⟨rfl, N8q, e8⟩ := hQ8
   have N8 := Fr.app N7 N8q
   refine G (fun t k => XS.istore X8.here hx rfl (hb hby at_95) rfl (l' := #[vi p1, vi p2, vi p3, vi p4, vi p5, vi p6, vi 1, vr y2, vr y3, vr b4, vi 1, vi jn, vi 1, vi 1, us, us, us, us]) rfl (XS.aload X8.here hx rfl (hb hby at_97) rfl rfl (XS.aload X8.here hx rfl (hb hby at_99) rfl rfl k))) ?_
   obtain ⟨cq9, kq9, q9a, q9b, q9c⟩ := isOf hZ e8 E_b4
   obtain ⟨_, _, ⟨T9, L9, k9, n9⟩, -, X9, ⟨Lc9, hQ9, l9, y9, z9⟩, st9⟩ := X8.virtualBack hx (y := (⟨RC, "contains", "([I)Z"⟩ : MethodName)) (z := (⟨RC, "contains", "([I)Z"⟩ : MethodName)) hown (mvT hZ (wd69 hw)) (mvT hZ (wd38 hw)) (notFace_of_selects (args := #[]) (mvT hZ (wd40 hw))) (mvT hZ (wd40 hw)) (mvT hZ (wd39 hw)) (by decide) (backOf (W := 0) (rm6_1_0 l Z a0 hw [] b4 y2 jv jk jn p3 w_NI k_NI (0 : Int32) k_y2 p3 hJ n0 Z0 E_b4 V_jv V_NI F_b4_a F_b4_v F_b4_s F_b4_m F_b4_i F_b4_h V_y2 hjn (Ne.symm nj_b4) ne_w_NI_b4 nj_w_NI ne_y2_b4 nj_y2 (Ne.symm ne_w_NI_y2)) hZ (wd41 hw) (wd8 hw) (by decide) (by decide)) q9a q9c (g := (mkF m 101 #[vi p1, vi p2, vi p3, vi p4, vi p5, vi p6, vi 1, vr y2, vr y3, vr b4, vi 1, vi jn, vi 1, vi 1, us, us, us, us] [(.ref y2), (.ref b4)])) rfl (by rw [hml]; rfl) (Steps.refl _) (argsL := [(.ref y2)]) (rest := []) (lenOf pd5 rfl) rfl (by show 2 * 0 + _ ≤ _; exact Nat.le_of_eq rfl) (hb hby at_101) (fun _ _ => ⟨rfl, e8, (by decide : 12 + 0 ≤ _), (by decide : 300 + 0 ≤ _)⟩)
   dsimp only [Pt.U, Pt.locs, Pt.cells, Pt.slots] at X9 l9 y9 z9 st9 hQ9
   subst l9 y9 z9
   refine Go.tr st9 ?_
   obtain ⟨rfl, N9q, e9⟩ := hQ9
   have N9 := Fr.app N8 N9q
   refine G (fun t k => XS.ifNo X9.here hx rfl (hb hby at_104) rfl ((if0 _ _).trans (teq (by decide : (0 : Int32) = (0 : Int32))).2) (XS.iconst X9.here hx rfl (hb hby at_107) k)) ?_
   show Go _ _ _ (T9.setTop (mkF m 108 #[vi p1, vi p2, vi p3, vi p4, vi p5, vi p6, vi 1, vr y2, vr y3, vr b4, vi 1, vi jn, vi 1, vi 1, us, us, us, us] [(.int 1)])) _
   refine G (fun t k => XS.goto X9.here hx rfl (pc0 := 108) (pc' := 112) rfl (hb hby at_108) (by decide) (by decide) (XS.istore X9.here hx rfl (hb hby at_112) rfl (l' := #[vi p1, vi p2, vi p3, vi p4, vi p5, vi p6, vi 1, vr y2, vr y3, vr b4, vi 1, vi jn, vi 1, vi 1, vi 1, us, us, us]) rfl (XS.aload X9.here hx rfl (hb hby at_114) rfl rfl k))) ?_
   obtain ⟨cq10, kq10, q10a, q10b, q10c⟩ := isOf hZ e9 E_b4
   obtain ⟨_, _, ⟨T10, L10, k10, n10⟩, -, X10, ⟨Lc10, hQ10, l10, y10, z10⟩, st10⟩ := X9.virtualBack hx (y := (⟨RC, "values", "()[I"⟩ : MethodName)) (z := (⟨RC, "values", "()[I"⟩ : MethodName)) hown (mvT hZ (wd47 hw)) (mvT hZ (wd48 hw)) (notFace_of_selects (args := #[]) (mvT hZ (wd50 hw))) (mvT hZ (wd50 hw)) (mvT hZ (wd49 hw)) (by decide) (backOf (W := 0) (rm7 l Z a0 hw [] b4 jv hJ n0 Z0 F_b4_v) hZ (wd51 hw) (wd8 hw) (by decide) (by decide)) q10a q10c (g := (mkF m 116 #[vi p1, vi p2, vi p3, vi p4, vi p5, vi p6, vi 1, vr y2, vr y3, vr b4, vi 1, vi jn, vi 1, vi 1, vi 1, us, us, us] [(.ref b4)])) rfl (by rw [hml]; rfl) (Steps.refl _) (argsL := []) (rest := []) (lenOf pd13 rfl) rfl (by show 2 * 0 + _ ≤ _; exact Nat.le_of_eq rfl) (hb hby at_116) (fun _ _ => ⟨rfl, e9, (by decide : 12 + 0 ≤ _), (by decide : 300 + 0 ≤ _)⟩)
   dsimp only [Pt.U, Pt.locs, Pt.cells, Pt.slots] at X10 l10 y10 z10 st10 hQ10
   subst l10 y10 z10
   refine Go.tr st10 ?_
   obtain ⟨rfl, N10q, e10⟩ := hQ10
   have N10 := Fr.app N9 N10q
   obtain ⟨LL10, X10, N10⟩ : ∃ LL, Stand p l e room_1 s m #[(.int p1), (.int p2), (.int p3), (.int p4), (.int p5), (.int p6)] below meth c T10 LL 12 300 ∧ Fr n0 LL := ⟨_, X10, N10⟩
   obtain ⟨cl11, Ar11, -, Sz11, Ng11, -, -⟩ := id V_jv
   refine G (fun t k => X10.arraylength hx (by rw [e10]; exact Ar11.1) (State.isArrayOf_alike hZ.alike Ar11.2.1) (g := (mkF m 119 #[vi p1, vi p2, vi p3, vi p4, vi p5, vi p6, vi 1, vr y2, vr y3, vr b4, vi 1, vi jn, vi 1, vi 1, vi 1, us, us, us] [(.ref jv)])) rfl rfl (hb hby at_119) _ k) ?_
   rw [len_of Sz11 Ng11]
   refine G (fun t k => XS.iload X10.here hx rfl (hb hby at_120) rfl (XS.icmpNo X10.here hx rfl (hb hby at_122) rfl (teq (rfl : jn = jn)).2 k)) ?_
   show Go _ _ _ (T10.setTop (mkF m 125 #[vi p1, vi p2, vi p3, vi p4, vi p5, vi p6, vi 1, vr y2, vr y3, vr b4, vi 1, vi jn, vi 1, vi 1, vi 1, us, us, us] [])) _
   refine G (fun t k => XS.iconst X10.here hx rfl (hb hby at_125) (XS.goto X10.here hx rfl (pc0 := 126) (pc' := 130) rfl (hb hby at_126) (by decide) (by decide) (XS.istore X10.here hx rfl (hb hby at_130) rfl (l' := #[vi p1, vi p2, vi p3, vi p4, vi p5, vi p6, vi 1, vr y2, vr y3, vr b4, vi 1, vi jn, vi 1, vi 1, vi 1, vi 1, us, us]) rfl (XS.aload X10.here hx rfl (hb hby at_132) rfl rfl (XS.aload X10.here hx rfl (hb hby at_134) rfl rfl k))))) ?_
   obtain ⟨cq12, kq12, q12a, q12b, q12c⟩ := isOf hZ e10 E_b4
   obtain ⟨_, _, ⟨T12, L12, k12, n12⟩, -, X12, ⟨Lc12, hQ12, l12, y12, z12⟩, st12⟩ := X10.virtualBack hx (y := (⟨RC, "add", "([I)Z"⟩ : MethodName)) (z := (⟨RC, "add", "([I)Z"⟩ : MethodName)) hown (mvT hZ (wd32 hw)) (mvT hZ (wd33 hw)) (notFace_of_selects (args := #[]) (mvT hZ (wd35 hw))) (mvT hZ (wd35 hw)) (mvT hZ (wd34 hw)) (by decide) (backOf (W := 0) (rm5_1_N l Z a0 hw [] b4 y2 jv jk jn p3 w_NI k_NI (0 : Int32) k_y2 p3 hJ n0 Z0 E_b4 V_jv V_NI F_b4_a F_b4_v F_b4_s F_b4_m F_b4_i F_b4_h V_y2 hjn (Ne.symm nj_b4) ne_w_NI_b4 nj_w_NI ne_y2_b4 nj_y2 (Ne.symm ne_w_NI_y2) g_jv g_b4) hZ (wd36 hw) (wd8 hw) (by decide) (by decide)) q12a q12c (g := (mkF m 136 #[vi p1, vi p2, vi p3, vi p4, vi p5, vi p6, vi 1, vr y2, vr y3, vr b4, vi 1, vi jn, vi 1, vi 1, vi 1, vi 1, us, us] [(.ref y2), (.ref b4)])) rfl (by rw [hml]; rfl) (Steps.refl _) (argsL := [(.ref y2)]) (rest := []) (lenOf pd5 rfl) rfl (by show 2 * 0 + _ ≤ _; exact Nat.le_of_eq rfl) (hb hby at_136) (fun _ _ => ⟨rfl, e10, (by decide : 12 + 0 ≤ _), (by decide : 300 + 0 ≤ _)⟩)
   dsimp only [Pt.U, Pt.locs, Pt.cells, Pt.slots] at X12 l12 y12 z12 st12 hQ12
   subst l12 y12 z12
   have E_b4_pre := E_b4
   have F_b4_size_pre := F_b4_s
   have F_b4_members_pre := F_b4_m
   have F_b4_holdingAny_pre := F_b4_h
   have F_b4_indexes_pre := F_b4_i
   have F_b4_values_pre := F_b4_v
   have F_b4_arity_pre := F_b4_a
   have V_jv_pre := V_jv
   obtain ⟨h12, e12⟩ : ∃ z, T12.heap = z := ⟨_, rfl⟩
   rw [e12] at hQ12
   obtain ⟨zh12, rfl, N12q, K12, Q12_0, Q12_1, Q12_2, Q12_3, Q12_4, Q12_5, Q12_6, Q12_7⟩ := hQ12
   refine Go.tr st12 ?_
   replace V_NI := V_NI.keep K12 (ninS nj_w_NI (ninS ne_w_NI_b4 nin0))
   replace S_NI := sta_keep S_NI K12 (allS (arv_ns V_jv_pre) (allS (exa_ns E_b4_pre) all0))
   replace V_y2 := V_y2.keep K12 (ninS nj_y2 (ninS ne_y2_b4 nin0))
   replace V_y3 := V_y3.keep K12 (ninS nj_y3 (ninS ne_y3_b4 nin0))
   replace E_b4 := E_b4.keep K12
   replace Z0 := Nat.le_trans Z0 K12.1
   replace K0 := K0.trans K12 (allS (Or.inr sz_jv) (allS (Or.inr sz_b4) all0))
   have E_b4 := Q12_0
   have F_b4_a := Q12_1
   have F_b4_v := Q12_2
   have F_b4_s := Q12_3
   have F_b4_m := Q12_4
   have F_b4_i := Q12_5
   have F_b4_h := Q12_6
   have V_jv := Q12_7
   have N12 := Fr.app N10 N12q
   refine G (fun t k => XS.istore X12.here hx rfl (hb hby at_139) rfl (l' := #[vi p1, vi p2, vi p3, vi p4, vi p5, vi p6, vi 1, vr y2, vr y3, vr b4, vi 1, vi jn, vi 1, vi 1, vi 1, vi 1, vi 1, us]) rfl k) ?_
   show Go _ _ _ (T12.setTop (mkF m 141 #[vi p1, vi p2, vi p3, vi p4, vi p5, vi p6, vi 1, vr y2, vr y3, vr b4, vi 1, vi jn, vi 1, vi 1, vi 1, vi 1, vi 1, us] [])) _
   refine G (fun t k => XS.aload X12.here hx rfl (hb hby at_141) rfl rfl (XS.aload X12.here hx rfl (hb hby at_143) rfl rfl k)) ?_
   obtain ⟨cq13, kq13, q13a, q13b, q13c⟩ := isOf hZ e12 E_b4
   obtain ⟨_, _, ⟨T13, L13, k13, n13⟩, -, X13, ⟨Lc13, hQ13, l13, y13, z13⟩, st13⟩ := X12.virtualBack hx (y := (⟨RC, "contains", "([I)Z"⟩ : MethodName)) (z := (⟨RC, "contains", "([I)Z"⟩ : MethodName)) hown (mvT hZ (wd69 hw)) (mvT hZ (wd38 hw)) (notFace_of_selects (args := #[]) (mvT hZ (wd40 hw))) (mvT hZ (wd40 hw)) (mvT hZ (wd39 hw)) (by decide) (backOf (W := 0) (rm6_1_1 l Z a0 hw [] b4 y3 jv jk jn p3 w_NI k_NI zh12 k_y3 p6 h12 n0 Z0 E_b4 V_jv V_NI F_b4_a F_b4_v F_b4_s F_b4_m F_b4_i F_b4_h V_y3 hjn (Ne.symm nj_b4) ne_w_NI_b4 nj_w_NI ne_y3_b4 nj_y3 (Ne.symm ne_w_NI_y3)) hZ (wd41 hw) (wd8 hw) (by decide) (by decide)) q13a q13c (g := (mkF m 145 #[vi p1, vi p2, vi p3, vi p4, vi p5, vi p6, vi 1, vr y2, vr y3, vr b4, vi 1, vi jn, vi 1, vi 1, vi 1, vi 1, vi 1, us] [(.ref y3), (.ref b4)])) rfl (by rw [hml]; rfl) (Steps.refl _) (argsL := [(.ref y3)]) (rest := []) (lenOf pd5 rfl) rfl (by show 2 * 0 + _ ≤ _; exact Nat.le_of_eq rfl) (hb hby at_145) (fun _ _ => ⟨rfl, e12, (by decide : 12 + 0 ≤ _), (by decide : 300 + 0 ≤ _)⟩)
   dsimp only [Pt.U, Pt.locs, Pt.cells, Pt.slots] at X13 l13 y13 z13 st13 hQ13
   subst l13 y13 z13
   refine Go.tr st13 ?_
   obtain ⟨rfl, N13q, e13⟩ := hQ13
   have N13 := Fr.app N12 N13q
   show Go _ _ _ (T13.setTop (mkF m 148 #[vi p1, vi p2, vi p3, vi p4, vi p5, vi p6, vi 1, vr y2, vr y3, vr b4, vi 1, vi jn, vi 1, vi 1, vi 1, vi 1, vi 1, us] [(.int (f6_1_1 p3 p6))])) _
   by_cases hc14 : p3 = p6
   ·rw [show (f6_1_1 p3 p6) = (1 : Int32) from by unfold f6_1_1; simp only [if_pos hc14, if_true, if_false]]
    show Go _ _ _ (T13.setTop (mkF m 148 #[vi p1, vi p2, vi p3, vi p4, vi p5, vi p6, vi 1, vr y2, vr y3, vr b4, vi 1, vi jn, vi 1, vi 1, vi 1, vi 1, vi 1, us] [(.int 1)])) _
    refine G (fun t k => XS.iload X13.here hx rfl (hb hby at_148) rfl (XS.iloadN X13.here hx rfl (hb hby at_150) rfl (XS.icmpNo X13.here hx rfl (hb hby at_151) rfl (teq (Eq.symm hc14)).2 (XS.iconst X13.here hx rfl (hb hby at_154) (XS.goto X13.here hx rfl (pc0 := 155) (pc' := 159) rfl (hb hby at_155) (by decide) (by decide) (XS.icmpNo X13.here hx rfl (hb hby at_159) rfl (teq (by decide : (1 : Int32) = (1 : Int32))).2 k)))))) ?_
    refine G (fun t k => XS.iconst X13.here hx rfl (hb hby at_162) k) ?_
    show Go _ _ _ (T13.setTop (mkF m 163 #[vi p1, vi p2, vi p3, vi p4, vi p5, vi p6, vi 1, vr y2, vr y3, vr b4, vi 1, vi jn, vi 1, vi 1, vi 1, vi 1, vi 1, us] [(.int 1)])) _
    refine G (fun t k => XS.goto X13.here hx rfl (pc0 := 163) (pc' := 167) rfl (hb hby at_163) (by decide) (by decide) (XS.istore X13.here hx rfl (hb hby at_167) rfl (l' := #[vi p1, vi p2, vi p3, vi p4, vi p5, vi p6, vi 1, vr y2, vr y3, vr b4, vi 1, vi jn, vi 1, vi 1, vi 1, vi 1, vi 1, vi 1]) rfl (XS.iload X13.here hx rfl (hb hby at_169) rfl (XS.ifNo X13.here hx rfl (hb hby at_171) rfl ((if0 _ _).trans (feq (by decide : ¬ ((1 : Int32) = (0 : Int32)))).1) (XS.iload X13.here hx rfl (hb hby at_174) rfl (XS.ifNo X13.here hx rfl (hb hby at_176) rfl ((if0 _ _).trans (feq (by decide : ¬ ((1 : Int32) = (0 : Int32)))).1) k)))))) ?_
    refine G (fun t k => XS.iload X13.here hx rfl (hb hby at_179) rfl k) ?_
    show Go _ _ _ (T13.setTop (mkF m 181 #[vi p1, vi p2, vi p3, vi p4, vi p5, vi p6, vi 1, vr y2, vr y3, vr b4, vi 1, vi jn, vi 1, vi 1, vi 1, vi 1, vi 1, vi 1] [(.int 1)])) _
    refine G (fun t k => XS.ifNo X13.here hx rfl (hb hby at_181) rfl ((if0 _ _).trans (feq (by decide : ¬ ((1 : Int32) = (0 : Int32)))).1) (XS.iload X13.here hx rfl (hb hby at_184) rfl (XS.ifNo X13.here hx rfl (hb hby at_186) rfl ((if0 _ _).trans (feq (by decide : ¬ ((1 : Int32) = (0 : Int32)))).1) (XS.iload X13.here hx rfl (hb hby at_189) rfl (XS.ifNo X13.here hx rfl (hb hby at_191) rfl ((if0 _ _).trans (feq (by decide : ¬ ((1 : Int32) = (0 : Int32)))).1) (XS.iload X13.here hx rfl (hb hby at_194) rfl k)))))) ?_
    refine G (fun t k => XS.ifNo X13.here hx rfl (hb hby at_196) rfl ((if0 _ _).trans (feq (by decide : ¬ ((1 : Int32) = (0 : Int32)))).1) k) ?_
    show Go _ _ _ (T13.setTop (mkF m 199 #[vi p1, vi p2, vi p3, vi p4, vi p5, vi p6, vi 1, vr y2, vr y3, vr b4, vi 1, vi jn, vi 1, vi 1, vi 1, vi 1, vi 1, vi 1] [])) _
    refine G (fun t k => XS.iload X13.here hx rfl (hb hby at_199) rfl (XS.ifNo X13.here hx rfl (hb hby at_201) rfl ((if0 _ _).trans (feq (by decide : ¬ ((1 : Int32) = (0 : Int32)))).1) (XS.iconst X13.here hx rfl (hb hby at_204) (XS.goto X13.here hx rfl (pc0 := 205) (pc' := 209) rfl (hb hby at_205) (by decide) (by decide) k)))) ?_
    obtain ⟨fs, hr, hrun, hended, hW, hsame⟩ := X13.leave (v := some (.int (1 : Int32))) (fun h => by rw [Bd.returns] at h; cases h)
    refine Go.fin (retN X13 hx (t := .boolean) Bd.returns (by simp) (hb hby at_209) hr) hrun hended ⟨_, _, rfl, ?_, ⟨_, rfl⟩, hW, hsame.mono (by decide) (by decide)⟩
    show Q0 Z p1 p2 p3 p4 p5 p6 w_NI k_NI h0 n0 _ T13.heap _
    rw [e13]
    exact ⟨rfl, N13⟩
   ·rw [show (f6_1_1 p3 p6) = (0 : Int32) from by unfold f6_1_1; simp only [if_neg hc14, if_true, if_false]]
    show Go _ _ _ (T13.setTop (mkF m 148 #[vi p1, vi p2, vi p3, vi p4, vi p5, vi p6, vi 1, vr y2, vr y3, vr b4, vi 1, vi jn, vi 1, vi 1, vi 1, vi 1, vi 1, us] [(.int 0)])) _
    refine G (fun t k => XS.iload X13.here hx rfl (hb hby at_148) rfl (XS.iloadN X13.here hx rfl (hb hby at_150) rfl (XS.icmpYes X13.here hx rfl (pc0 := 151) (pc' := 158) rfl (hb hby at_151) rfl (feq (show ¬ (p6 = p3) from fun z => hc14 z.symm)).2 (by decide) (by decide) (XS.iconst X13.here hx rfl (hb hby at_158) (XS.icmpNo X13.here hx rfl (hb hby at_159) rfl (teq (by decide : (0 : Int32) = (0 : Int32))).2 (XS.iconst X13.here hx rfl (hb hby at_162) k)))))) ?_
    refine G (fun t k => XS.goto X13.here hx rfl (pc0 := 163) (pc' := 167) rfl (hb hby at_163) (by decide) (by decide) k) ?_
    show Go _ _ _ (T13.setTop (mkF m 167 #[vi p1, vi p2, vi p3, vi p4, vi p5, vi p6, vi 1, vr y2, vr y3, vr b4, vi 1, vi jn, vi 1, vi 1, vi 1, vi 1, vi 1, us] [(.int 1)])) _
    refine G (fun t k => XS.istore X13.here hx rfl (hb hby at_167) rfl (l' := #[vi p1, vi p2, vi p3, vi p4, vi p5, vi p6, vi 1, vr y2, vr y3, vr b4, vi 1, vi jn, vi 1, vi 1, vi 1, vi 1, vi 1, vi 1]) rfl (XS.iload X13.here hx rfl (hb hby at_169) rfl (XS.ifNo X13.here hx rfl (hb hby at_171) rfl ((if0 _ _).trans (feq (by decide : ¬ ((1 : Int32) = (0 : Int32)))).1) (XS.iload X13.here hx rfl (hb hby at_174) rfl (XS.ifNo X13.here hx rfl (hb hby at_176) rfl ((if0 _ _).trans (feq (by decide : ¬ ((1 : Int32) = (0 : Int32)))).1) (XS.iload X13.here hx rfl (hb hby at_179) rfl k)))))) ?_
    refine G (fun t k => XS.ifNo X13.here hx rfl (hb hby at_181) rfl ((if0 _ _).trans (feq (by decide : ¬ ((1 : Int32) = (0 : Int32)))).1) k) ?_
    show Go _ _ _ (T13.setTop (mkF m 184 #[vi p1, vi p2, vi p3, vi p4, vi p5, vi p6, vi 1, vr y2, vr y3, vr b4, vi 1, vi jn, vi 1, vi 1, vi 1, vi 1, vi 1, vi 1] [])) _
    refine G (fun t k => XS.iload X13.here hx rfl (hb hby at_184) rfl (XS.ifNo X13.here hx rfl (hb hby at_186) rfl ((if0 _ _).trans (feq (by decide : ¬ ((1 : Int32) = (0 : Int32)))).1) (XS.iload X13.here hx rfl (hb hby at_189) rfl (XS.ifNo X13.here hx rfl (hb hby at_191) rfl ((if0 _ _).trans (feq (by decide : ¬ ((1 : Int32) = (0 : Int32)))).1) (XS.iload X13.here hx rfl (hb hby at_194) rfl (XS.ifNo X13.here hx rfl (hb hby at_196) rfl ((if0 _ _).trans (feq (by decide : ¬ ((1 : Int32) = (0 : Int32)))).1) k)))))) ?_
    refine G (fun t k => XS.iload X13.here hx rfl (hb hby at_199) rfl k) ?_
    show Go _ _ _ (T13.setTop (mkF m 201 #[vi p1, vi p2, vi p3, vi p4, vi p5, vi p6, vi 1, vr y2, vr y3, vr b4, vi 1, vi jn, vi 1, vi 1, vi 1, vi 1, vi 1, vi 1] [(.int 1)])) _
    refine G (fun t k => XS.ifNo X13.here hx rfl (hb hby at_201) rfl ((if0 _ _).trans (feq (by decide : ¬ ((1 : Int32) = (0 : Int32)))).1) (XS.iconst X13.here hx rfl (hb hby at_204) (XS.goto X13.here hx rfl (pc0 := 205) (pc' := 209) rfl (hb hby at_205) (by decide) (by decide) k))) ?_
    obtain ⟨fs, hr, hrun, hended, hW, hsame⟩ := X13.leave (v := some (.int (1 : Int32))) (fun h => by rw [Bd.returns] at h; cases h)
    refine Go.fin (retN X13 hx (t := .boolean) Bd.returns (by simp) (hb hby at_209) hr) hrun hended ⟨_, _, rfl, ?_, ⟨_, rfl⟩, hW, hsame.mono (by decide) (by decide)⟩
    show Q0 Z p1 p2 p3 p4 p5 p6 w_NI k_NI h0 n0 _ T13.heap _
    rw [e13]
    exact ⟨rfl, N13⟩
  show Go _ _ _ (T5.setTop (mkF m 50 #[vi p1, vi p2, vi p3, vi p4, vi p5, vi p6, vi 1, vr y2, vr y3, vr b4, us, us, us, us, us, us, us, us] [(.int (p2 &&& (15 : Int32))), (.ref b4)])) _
  by_cases hc15 : (8 : Int32) < (p2 &&& (15 : Int32))
  ·show Go _ _ _ (T5.setTop (mkF m 50 #[vi p1, vi p2, vi p3, vi p4, vi p5, vi p6, vi 1, vr y2, vr y3, vr b4, us, us, us, us, us, us, us, us] [(.int (p2 &&& (15 : Int32))), (.ref b4)])) _
   obtain ⟨cq16, kq16, q16a, q16b, q16c⟩ := isOf hZ e5 E_b4
   obtain ⟨_, _, ⟨T16, L16, k16, n16⟩, -, X16, ⟨Lc16, hQ16, l16, y16, z16⟩, st16⟩ := X5.virtualBack hx (y := (⟨RC, "reserve", "(I)V"⟩ : MethodName)) (z := (⟨RC, "reserve", "(I)V"⟩ : MethodName)) hown (mvT hZ (wd23 hw)) (mvT hZ (wd24 hw)) (notFace_of_selects (args := #[]) (mvT hZ (wd26 hw))) (mvT hZ (wd26 hw)) (mvT hZ (wd25 hw)) (by decide) (backOf (W := 0) (rm4_1_2 l Z a0 hw [] b4 (p2 &&& (15 : Int32)) y5 k_y5 w_NI k_NI (0 : Int32) h5 n0 Z0 E_b4 V_y5 V_NI F_b4_a F_b4_v F_b4_s F_b4_m F_b4_i F_b4_h (Ne.symm ne_b4_y5) ne_w_NI_b4 ne_w_NI_y5 (own_15 _) (own_48 hc15) hc15 g_b4) hZ (wd27 hw) (wd8 hw) (by decide) (by decide)) q16a q16c (g := (mkF m 50 #[vi p1, vi p2, vi p3, vi p4, vi p5, vi p6, vi 1, vr y2, vr y3, vr b4, us, us, us, us, us, us, us, us] [(.int (p2 &&& (15 : Int32))), (.ref b4)])) rfl (by rw [hml]; rfl) (Steps.refl _) (argsL := [(.int (p2 &&& (15 : Int32)))]) (rest := []) (lenOf pd1 rfl) rfl (by show 2 * 0 + _ ≤ _; exact Nat.le_of_eq rfl) (hb hby at_50) (fun _ _ => ⟨rfl, e5, (by decide : 4 + 5 ≤ _), (by decide : 12 + 195 ≤ _)⟩)
   dsimp only [Pt.U, Pt.locs, Pt.cells, Pt.slots] at X16 l16 y16 z16 st16 hQ16
   subst l16 y16 z16
   have E_b4_pre := E_b4
   have F_b4_size_pre := F_b4_s
   have F_b4_members_pre := F_b4_m
   have F_b4_holdingAny_pre := F_b4_h
   have F_b4_indexes_pre := F_b4_i
   have F_b4_values_pre := F_b4_v
   have F_b4_arity_pre := F_b4_a
   obtain ⟨h16, e16⟩ : ∃ z, T16.heap = z := ⟨_, rfl⟩
   rw [e16] at hQ16
   obtain ⟨y16, y16a, y16b, y16c, y16d, k_y16, k_y16b, k_y16c, k_y16d, rfl, N16q, K16, ng_y16, sz0_y16, ng_y16a, sz0_y16a, ng_y16b, sz0_y16b, ng_y16c, sz0_y16c, ng_y16d, sz0_y16d, nef_y16_y16a, nef_y16_y16b, nef_y16_y16c, nef_y16_y16d, nef_y16a_y16b, nef_y16a_y16c, nef_y16a_y16d, nef_y16b_y16c, nef_y16b_y16d, nef_y16c_y16d, Q16_0, Q16_1, Q16_2, Q16_3, Q16_4, Q16_5, Q16_6, Q16_7, Q16_8, Q16_9, Q16_10, Q16_11, Q16_12, Q16_13, Q16_14, Q16_15, Q16_16⟩ := hQ16
   refine Go.tr st16 ?_
   have ne_w_NI_y16 : w_NI ≠ y16 := Nat.ne_of_lt (Nat.lt_of_lt_of_le V_NI.lt sz0_y16)
   have ne_y2_y16 : y2 ≠ y16 := Nat.ne_of_lt (Nat.lt_of_lt_of_le V_y2.lt sz0_y16)
   have ne_y3_y16 : y3 ≠ y16 := Nat.ne_of_lt (Nat.lt_of_lt_of_le V_y3.lt sz0_y16)
   have ne_b4_y16 : b4 ≠ y16 := Nat.ne_of_lt (Nat.lt_of_lt_of_le E_b4.lt sz0_y16)
   have ne_y5_y16 : y5 ≠ y16 := Nat.ne_of_lt (Nat.lt_of_lt_of_le V_y5.lt sz0_y16)
   have g_y16 : n0 ≤ y16 := ng_y16
   have sz_y16 : h0.size ≤ y16 := Nat.le_trans K0.1 sz0_y16
   have ne_w_NI_y16a : w_NI ≠ y16a := Nat.ne_of_lt (Nat.lt_of_lt_of_le V_NI.lt sz0_y16a)
   have ne_y2_y16a : y2 ≠ y16a := Nat.ne_of_lt (Nat.lt_of_lt_of_le V_y2.lt sz0_y16a)
   have ne_y3_y16a : y3 ≠ y16a := Nat.ne_of_lt (Nat.lt_of_lt_of_le V_y3.lt sz0_y16a)
   have ne_b4_y16a : b4 ≠ y16a := Nat.ne_of_lt (Nat.lt_of_lt_of_le E_b4.lt sz0_y16a)
   have ne_y5_y16a : y5 ≠ y16a := Nat.ne_of_lt (Nat.lt_of_lt_of_le V_y5.lt sz0_y16a)
   have g_y16a : n0 ≤ y16a := ng_y16a
   have sz_y16a : h0.size ≤ y16a := Nat.le_trans K0.1 sz0_y16a
   have ne_w_NI_y16b : w_NI ≠ y16b := Nat.ne_of_lt (Nat.lt_of_lt_of_le V_NI.lt sz0_y16b)
   have ne_y2_y16b : y2 ≠ y16b := Nat.ne_of_lt (Nat.lt_of_lt_of_le V_y2.lt sz0_y16b)
   have ne_y3_y16b : y3 ≠ y16b := Nat.ne_of_lt (Nat.lt_of_lt_of_le V_y3.lt sz0_y16b)
   have ne_b4_y16b : b4 ≠ y16b := Nat.ne_of_lt (Nat.lt_of_lt_of_le E_b4.lt sz0_y16b)
   have ne_y5_y16b : y5 ≠ y16b := Nat.ne_of_lt (Nat.lt_of_lt_of_le V_y5.lt sz0_y16b)
   have g_y16b : n0 ≤ y16b := ng_y16b
   have sz_y16b : h0.size ≤ y16b := Nat.le_trans K0.1 sz0_y16b
   have ne_w_NI_y16c : w_NI ≠ y16c := Nat.ne_of_lt (Nat.lt_of_lt_of_le V_NI.lt sz0_y16c)
   have ne_y2_y16c : y2 ≠ y16c := Nat.ne_of_lt (Nat.lt_of_lt_of_le V_y2.lt sz0_y16c)
   have ne_y3_y16c : y3 ≠ y16c := Nat.ne_of_lt (Nat.lt_of_lt_of_le V_y3.lt sz0_y16c)
   have ne_b4_y16c : b4 ≠ y16c := Nat.ne_of_lt (Nat.lt_of_lt_of_le E_b4.lt sz0_y16c)
   have ne_y5_y16c : y5 ≠ y16c := Nat.ne_of_lt (Nat.lt_of_lt_of_le V_y5.lt sz0_y16c)
   have g_y16c : n0 ≤ y16c := ng_y16c
   have sz_y16c : h0.size ≤ y16c := Nat.le_trans K0.1 sz0_y16c
   have ne_w_NI_y16d : w_NI ≠ y16d := Nat.ne_of_lt (Nat.lt_of_lt_of_le V_NI.lt sz0_y16d)
   have ne_y2_y16d : y2 ≠ y16d := Nat.ne_of_lt (Nat.lt_of_lt_of_le V_y2.lt sz0_y16d)
   have ne_y3_y16d : y3 ≠ y16d := Nat.ne_of_lt (Nat.lt_of_lt_of_le V_y3.lt sz0_y16d)
   have ne_b4_y16d : b4 ≠ y16d := Nat.ne_of_lt (Nat.lt_of_lt_of_le E_b4.lt sz0_y16d)
   have ne_y5_y16d : y5 ≠ y16d := Nat.ne_of_lt (Nat.lt_of_lt_of_le V_y5.lt sz0_y16d)
   have g_y16d : n0 ≤ y16d := ng_y16d
   have sz_y16d : h0.size ≤ y16d := Nat.le_trans K0.1 sz0_y16d
   replace V_NI := V_NI.keep K16 (ninS ne_w_NI_b4 nin0)
   replace S_NI := sta_keep S_NI K16 (allS (exa_ns E_b4_pre) all0)
   replace V_y2 := V_y2.keep K16 (ninS ne_y2_b4 nin0)
   replace V_y3 := V_y3.keep K16 (ninS ne_y3_b4 nin0)
   replace E_b4 := E_b4.keep K16
   replace V_y5 := V_y5.keep K16 (ninS (Ne.symm ne_b4_y5) nin0)
   replace Z0 := Nat.le_trans Z0 K16.1
   replace K0 := K0.trans K16 (allS (Or.inr sz_b4) all0)
   have E_b4 := Q16_0
   have F_b4_a := Q16_1
   have F_b4_v := Q16_2
   have F_b4_s := Q16_3
   have F_b4_m := Q16_4
   have F_b4_i := Q16_5
   have F_b4_h := Q16_6
   have V_y16 := Q16_7
   have E_y16a := Q16_8
   have V_y16b := Q16_9
   have F_y16a_keys := Q16_10
   have F_y16a_this_0 := Q16_11
   have F_y16a_p := Q16_12
   have F_y16a_l := Q16_13
   have F_y16a_next := Q16_14
   have V_y16c := Q16_15
   have V_y16d := Q16_16
   have N16 := Fr.app N5 N16q
   obtain ⟨LL16, X16, N16⟩ : ∃ LL, Stand p l e room_1 s m #[(.int p1), (.int p2), (.int p3), (.int p4), (.int p5), (.int p6)] below meth c T16 LL 9 207 ∧ Fr n0 LL := ⟨_, X16, N16⟩
   show Go _ _ _ (T16.setTop (mkF m 53 #[vi p1, vi p2, vi p3, vi p4, vi p5, vi p6, vi 1, vr y2, vr y3, vr b4, us, us, us, us, us, us, us, us] [])) _
   replace V_y16 : Arv Z h16 y16 k_y16 .int ((p2 &&& (15 : Int32)) * (1 : Int32)) [(.int (0 : Int32))] (.int (0 : Int32)) := V_y16.pad (pad_rep [] (.int (0 : Int32)) 1)
   refine G (fun t k => XS.aload X16.here hx rfl (hb hby at_53) rfl rfl (XS.aload X16.here hx rfl (hb hby at_55) rfl rfl k)) ?_
   obtain ⟨cq17, kq17, q17a, q17b, q17c⟩ := isOf hZ e16 E_b4
   obtain ⟨_, _, ⟨T17, L17, k17, n17⟩, -, X17, ⟨Lc17, hQ17, l17, y17, z17⟩, st17⟩ := X16.virtualBack hx (y := (⟨RC, "add", "([I)Z"⟩ : MethodName)) (z := (⟨RC, "add", "([I)Z"⟩ : MethodName)) hown (mvT hZ (wd32 hw)) (mvT hZ (wd33 hw)) (notFace_of_selects (args := #[]) (mvT hZ (wd35 hw))) (mvT hZ (wd35 hw)) (mvT hZ (wd34 hw)) (by decide) (backOf (W := 0) (rm5_1_R l Z a0 hw [] b4 y2 y16 k_y16 ((p2 &&& (15 : Int32)) * (1 : Int32)) (0 : Int32) w_NI k_NI (0 : Int32) k_y2 p3 y16a y16b y16c y16d k_y16b k_y16c k_y16d h16 n0 Z0 E_b4 V_y16 V_NI F_b4_a F_b4_v F_b4_s F_b4_m F_b4_i F_b4_h V_y2 E_y16a F_y16a_p F_y16a_l F_y16a_next F_y16a_keys V_y16b V_y16c V_y16d F_y16a_this_0 (own_ge (own_big _ 1 4 1 rfl rfl (by decide) (own_15 _) (own_48 hc15))) (Ne.symm ne_b4_y16) ne_w_NI_b4 ne_w_NI_y16 ne_y2_b4 ne_y2_y16 (Ne.symm ne_w_NI_y2) (Ne.symm ne_b4_y16a) (Ne.symm nef_y16_y16a) (Ne.symm ne_w_NI_y16a) (Ne.symm ne_y2_y16a) (Ne.symm ne_b4_y16b) (Ne.symm nef_y16_y16b) (Ne.symm ne_w_NI_y16b) (Ne.symm ne_y2_y16b) (Ne.symm nef_y16a_y16b) (Ne.symm ne_b4_y16c) (Ne.symm nef_y16_y16c) (Ne.symm ne_w_NI_y16c) (Ne.symm ne_y2_y16c) (Ne.symm nef_y16a_y16c) (Ne.symm nef_y16b_y16c) (Ne.symm ne_b4_y16d) (Ne.symm nef_y16_y16d) (Ne.symm ne_w_NI_y16d) (Ne.symm ne_y2_y16d) (Ne.symm nef_y16a_y16d) (Ne.symm nef_y16b_y16d) (Ne.symm nef_y16c_y16d) g_y16 g_y16d g_y16c g_y16a g_b4) hZ (wd36 hw) (wd8 hw) (by decide) (by decide)) q17a q17c (g := (mkF m 57 #[vi p1, vi p2, vi p3, vi p4, vi p5, vi p6, vi 1, vr y2, vr y3, vr b4, us, us, us, us, us, us, us, us] [(.ref y2), (.ref b4)])) rfl (by rw [hml]; rfl) (Steps.refl _) (argsL := [(.ref y2)]) (rest := []) (lenOf pd5 rfl) rfl (by show 2 * 0 + _ ≤ _; exact Nat.le_of_eq rfl) (hb hby at_57) (fun _ _ => ⟨rfl, e16, (by decide : 9 + 0 ≤ _), (by decide : 207 + 0 ≤ _)⟩)
   dsimp only [Pt.U, Pt.locs, Pt.cells, Pt.slots] at X17 l17 y17 z17 st17 hQ17
   subst l17 y17 z17
   have E_b4_pre := E_b4
   have F_b4_arity_pre := F_b4_a
   have F_b4_values_pre := F_b4_v
   have F_b4_size_pre := F_b4_s
   have F_b4_members_pre := F_b4_m
   have F_b4_indexes_pre := F_b4_i
   have F_b4_holdingAny_pre := F_b4_h
   have V_y16_pre := V_y16
   have E_y16a_pre := E_y16a
   have F_y16a_keys_pre := F_y16a_keys
   have F_y16a_this_0_pre := F_y16a_this_0
   have F_y16a_positions_pre := F_y16a_p
   have F_y16a_slots_pre := F_y16a_l
   have F_y16a_next_pre := F_y16a_next
   have V_y16c_pre := V_y16c
   have V_y16d_pre := V_y16d
   obtain ⟨h17, e17⟩ : ∃ z, T17.heap = z := ⟨_, rfl⟩
   rw [e17] at hQ17
   obtain ⟨zh17, rfl, N17q, K17, Q17_0, Q17_1, Q17_2, Q17_3, Q17_4, Q17_5, Q17_6, Q17_7⟩ := hQ17
   refine Go.tr st17 ?_
   replace V_NI := V_NI.keep K17 (ninS ne_w_NI_y16 (ninS ne_w_NI_y16d (ninS ne_w_NI_y16c (ninS ne_w_NI_y16a (ninS ne_w_NI_b4 nin0)))))
   replace S_NI := sta_keep S_NI K17 (allS (arv_ns V_y16_pre) (allS (arv_ns V_y16d_pre) (allS (arv_ns V_y16c_pre) (allS (exa_ns E_y16a_pre) (allS (exa_ns E_b4_pre) all0)))))
   replace V_y2 := V_y2.keep K17 (ninS ne_y2_y16 (ninS ne_y2_y16d (ninS ne_y2_y16c (ninS ne_y2_y16a (ninS ne_y2_b4 nin0)))))
   replace V_y3 := V_y3.keep K17 (ninS ne_y3_y16 (ninS ne_y3_y16d (ninS ne_y3_y16c (ninS ne_y3_y16a (ninS ne_y3_b4 nin0)))))
   replace E_b4 := E_b4.keep K17
   replace V_y5 := V_y5.keep K17 (ninS ne_y5_y16 (ninS ne_y5_y16d (ninS ne_y5_y16c (ninS ne_y5_y16a (ninS (Ne.symm ne_b4_y5) nin0)))))
   replace E_y16a := E_y16a.keep K17
   replace V_y16b := V_y16b.keep K17 (ninS (Ne.symm nef_y16_y16b) (ninS nef_y16b_y16d (ninS nef_y16b_y16c (ninS (Ne.symm nef_y16a_y16b) (ninS (Ne.symm ne_b4_y16b) nin0)))))
   replace Z0 := Nat.le_trans Z0 K17.1
   replace K0 := K0.trans K17 (allS (Or.inr sz_y16) (allS (Or.inr sz_y16d) (allS (Or.inr sz_y16c) (allS (Or.inr sz_y16a) (allS (Or.inr sz_b4) all0)))))
   have E_b4 := Q17_0
   have F_b4_a := Q17_1
   have F_b4_v := Q17_2
   have F_b4_s := Q17_3
   have F_b4_m := Q17_4
   have F_b4_i := Q17_5
   have F_b4_h := Q17_6
   have V_y16 := Q17_7
   have N17 := Fr.app N16 N17q
   refine G (fun t k => XS.istore X17.here hx rfl (hb hby at_60) rfl (l' := #[vi p1, vi p2, vi p3, vi p4, vi p5, vi p6, vi 1, vr y2, vr y3, vr b4, vi 1, us, us, us, us, us, us, us]) rfl (XS.aload X17.here hx rfl (hb hby at_62) rfl rfl k)) ?_
   obtain ⟨cq18, kq18, q18a, q18b, q18c⟩ := isOf hZ e17 E_b4
   obtain ⟨_, _, ⟨T18, L18, k18, n18⟩, -, X18, ⟨Lc18, hQ18, l18, y18, z18⟩, st18⟩ := X17.virtualBack hx (y := (⟨RC, "values", "()[I"⟩ : MethodName)) (z := (⟨RC, "values", "()[I"⟩ : MethodName)) hown (mvT hZ (wd47 hw)) (mvT hZ (wd48 hw)) (notFace_of_selects (args := #[]) (mvT hZ (wd50 hw))) (mvT hZ (wd50 hw)) (mvT hZ (wd49 hw)) (by decide) (backOf (W := 0) (rm7 l Z a0 hw [] b4 y16 h17 n0 Z0 F_b4_v) hZ (wd51 hw) (wd8 hw) (by decide) (by decide)) q18a q18c (g := (mkF m 64 #[vi p1, vi p2, vi p3, vi p4, vi p5, vi p6, vi 1, vr y2, vr y3, vr b4, vi 1, us, us, us, us, us, us, us] [(.ref b4)])) rfl (by rw [hml]; rfl) (Steps.refl _) (argsL := []) (rest := []) (lenOf pd13 rfl) rfl (by show 2 * 0 + _ ≤ _; exact Nat.le_of_eq rfl) (hb hby at_64) (fun _ _ => ⟨rfl, e17, (by decide : 9 + 0 ≤ _), (by decide : 207 + 0 ≤ _)⟩)
   dsimp only [Pt.U, Pt.locs, Pt.cells, Pt.slots] at X18 l18 y18 z18 st18 hQ18
   subst l18 y18 z18
   refine Go.tr st18 ?_
   obtain ⟨rfl, N18q, e18⟩ := hQ18
   have N18 := Fr.app N17 N18q
   obtain ⟨cl19, Ar19, -, Sz19, Ng19, -, -⟩ := id V_y16
   refine G (fun t k => X18.arraylength hx (by rw [e18]; exact Ar19.1) (State.isArrayOf_alike hZ.alike Ar19.2.1) (g := (mkF m 67 #[vi p1, vi p2, vi p3, vi p4, vi p5, vi p6, vi 1, vr y2, vr y3, vr b4, vi 1, us, us, us, us, us, us, us] [(.ref y16)])) rfl rfl (hb hby at_67) _ k) ?_
   rw [len_of Sz19 Ng19]
   show Go _ _ _ (T18.setTop (mkF m 68 #[vi p1, vi p2, vi p3, vi p4, vi p5, vi p6, vi 1, vr y2, vr y3, vr b4, vi 1, us, us, us, us, us, us, us] [(.int ((p2 &&& (15 : Int32)) * (1 : Int32)))])) _
   refine G (fun t k => XS.istore X18.here hx rfl (hb hby at_68) rfl (l' := #[vi p1, vi p2, vi p3, vi p4, vi p5, vi p6, vi 1, vr y2, vr y3, vr b4, vi 1, vi ((p2 &&& (15 : Int32)) * (1 : Int32)), us, us, us, us, us, us]) rfl (XS.aload X18.here hx rfl (hb hby at_70) rfl rfl k)) ?_
   obtain ⟨cq20, kq20, q20a, q20b, q20c⟩ := isOf hZ e18 E_b4
   obtain ⟨_, _, ⟨T20, L20, k20, n20⟩, -, X20, ⟨Lc20, hQ20, l20, y20, z20⟩, st20⟩ := X18.virtualBack hx (y := (⟨RC, "clear", "()V"⟩ : MethodName)) (z := (⟨RC, "clear", "()V"⟩ : MethodName)) hown (mvT hZ (wd52 hw)) (mvT hZ (wd53 hw)) (notFace_of_selects (args := #[]) (mvT hZ (wd55 hw))) (mvT hZ (wd55 hw)) (mvT hZ (wd54 hw)) (by decide) (backOf (W := 0) (rm8 l Z a0 hw [] b4 (1 : Int32) y16 ((.int (1 : Int32)) : Value) ((.int zh17) : Value) ((.ref y16a) : Value) w_NI ((.ref w_NI) : Value) h17 n0 Z0 F_b4_a F_b4_v E_b4 F_b4_s F_b4_h F_b4_m S_NI F_b4_i g_b4) hZ (wd56 hw) (wd8 hw) (by decide) (by decide)) q20a q20c (g := (mkF m 72 #[vi p1, vi p2, vi p3, vi p4, vi p5, vi p6, vi 1, vr y2, vr y3, vr b4, vi 1, vi ((p2 &&& (15 : Int32)) * (1 : Int32)), us, us, us, us, us, us] [(.ref b4)])) rfl (by rw [hml]; rfl) (Steps.refl _) (argsL := []) (rest := []) (lenOf pd14 rfl) rfl (by show 2 * 0 + _ ≤ _; exact Nat.le_of_eq rfl) (hb hby at_72) (fun _ _ => ⟨rfl, e18, (by decide : 9 + 0 ≤ _), (by decide : 207 + 0 ≤ _)⟩)
   dsimp only [Pt.U, Pt.locs, Pt.cells, Pt.slots] at X20 l20 y20 z20 st20 hQ20
   subst l20 y20 z20
   refine Go.tr st20 ?_
   have E_b4_pre := E_b4
   have F_b4_arity_pre := F_b4_a
   have F_b4_values_pre := F_b4_v
   have F_b4_size_pre := F_b4_s
   have F_b4_members_pre := F_b4_m
   have F_b4_indexes_pre := F_b4_i
   have F_b4_holdingAny_pre := F_b4_h
   obtain ⟨h20, e20⟩ : ∃ z, T20.heap = z := ⟨_, rfl⟩
   rw [e20] at hQ20
   obtain ⟨rfl, N20q, K20, Q20_0, Q20_1, Q20_2, Q20_3, Q20_4, Q20_5, Q20_6⟩ := hQ20
   replace V_NI := V_NI.keep K20 (ninS ne_w_NI_b4 nin0)
   replace S_NI := sta_keep S_NI K20 (allS (exa_ns E_b4_pre) all0)
   replace V_y2 := V_y2.keep K20 (ninS ne_y2_b4 nin0)
   replace V_y3 := V_y3.keep K20 (ninS ne_y3_b4 nin0)
   replace E_b4 := E_b4.keep K20
   replace V_y5 := V_y5.keep K20 (ninS (Ne.symm ne_b4_y5) nin0)
   replace E_y16a := E_y16a.keep K20
   replace V_y16b := V_y16b.keep K20 (ninS (Ne.symm ne_b4_y16b) nin0)
   replace V_y16 := V_y16.keep K20 (ninS (Ne.symm ne_b4_y16) nin0)
   replace Z0 := Nat.le_trans Z0 K20.1
   replace K0 := K0.trans K20 (allS (Or.inr sz_b4) all0)
   have F_b4_a := Q20_0
   have F_b4_v := Q20_1
   have E_b4 := Q20_2
   have F_b4_s := Q20_3
   have F_b4_h := Q20_4
   have F_b4_m := Q20_5
   have F_b4_i := Q20_6
   have N20 := Fr.app N18 N20q
   show Go _ _ _ (T20.setTop (mkF m 75 #[vi p1, vi p2, vi p3, vi p4, vi p5, vi p6, vi 1, vr y2, vr y3, vr b4, vi 1, vi ((p2 &&& (15 : Int32)) * (1 : Int32)), us, us, us, us, us, us] [])) _
   exact J6 _ _ _ y16 k_y16 ((p2 &&& (15 : Int32)) * (1 : Int32)) (own_stm X20 (by decide) (by decide)) e20 N20 K0 Z0 (own_ge (own_big _ 1 4 1 rfl rfl (by decide) (own_15 _) (own_48 hc15))) g_y16 sz_y16 ne_w_NI_y16 ne_y2_y16 ne_y3_y16 ne_b4_y16 V_NI S_NI V_y2 V_y3 E_b4 F_b4_s F_b4_m F_b4_h F_b4_i F_b4_v F_b4_a V_y16
  ·by_cases hc21 : (4 : Int32) < (p2 &&& (15 : Int32))
   ·show Go _ _ _ (T5.setTop (mkF m 50 #[vi p1, vi p2, vi p3, vi p4, vi p5, vi p6, vi 1, vr y2, vr y3, vr b4, us, us, us, us, us, us, us, us] [(.int (p2 &&& (15 : Int32))), (.ref b4)])) _
    obtain ⟨cq22, kq22, q22a, q22b, q22c⟩ := isOf hZ e5 E_b4
    obtain ⟨_, _, ⟨T22, L22, k22, n22⟩, -, X22, ⟨Lc22, hQ22, l22, y22, z22⟩, st22⟩ := X5.virtualBack hx (y := (⟨RC, "reserve", "(I)V"⟩ : MethodName)) (z := (⟨RC, "reserve", "(I)V"⟩ : MethodName)) hown (mvT hZ (wd23 hw)) (mvT hZ (wd24 hw)) (notFace_of_selects (args := #[]) (mvT hZ (wd26 hw))) (mvT hZ (wd26 hw)) (mvT hZ (wd25 hw)) (by decide) (backOf (W := 0) (rm4_1_1 l Z a0 hw [] b4 (p2 &&& (15 : Int32)) y5 k_y5 w_NI k_NI (0 : Int32) h5 n0 Z0 E_b4 V_y5 V_NI F_b4_a F_b4_v F_b4_s F_b4_m F_b4_i F_b4_h (Ne.symm ne_b4_y5) ne_w_NI_b4 ne_w_NI_y5 (own_15 _) hc21 hc15 g_b4) hZ (wd27 hw) (wd8 hw) (by decide) (by decide)) q22a q22c (g := (mkF m 50 #[vi p1, vi p2, vi p3, vi p4, vi p5, vi p6, vi 1, vr y2, vr y3, vr b4, us, us, us, us, us, us, us, us] [(.int (p2 &&& (15 : Int32))), (.ref b4)])) rfl (by rw [hml]; rfl) (Steps.refl _) (argsL := [(.int (p2 &&& (15 : Int32)))]) (rest := []) (lenOf pd1 rfl) rfl (by show 2 * 0 + _ ≤ _; exact Nat.le_of_eq rfl) (hb hby at_50) (fun _ _ => ⟨rfl, e5, (by decide : 4 + 1 ≤ _), (by decide : 12 + 45 ≤ _)⟩)
    dsimp only [Pt.U, Pt.locs, Pt.cells, Pt.slots] at X22 l22 y22 z22 st22 hQ22
    subst l22 y22 z22
    have E_b4_pre := E_b4
    have F_b4_size_pre := F_b4_s
    have F_b4_members_pre := F_b4_m
    have F_b4_holdingAny_pre := F_b4_h
    have F_b4_indexes_pre := F_b4_i
    have F_b4_values_pre := F_b4_v
    have F_b4_arity_pre := F_b4_a
    obtain ⟨h22, e22⟩ : ∃ z, T22.heap = z := ⟨_, rfl⟩
    rw [e22] at hQ22
    obtain ⟨y22, k_y22, rfl, N22q, K22, ng_y22, sz0_y22, Q22_0, Q22_1, Q22_2, Q22_3, Q22_4, Q22_5, Q22_6, Q22_7⟩ := hQ22
    refine Go.tr st22 ?_
    have ne_w_NI_y22 : w_NI ≠ y22 := Nat.ne_of_lt (Nat.lt_of_lt_of_le V_NI.lt sz0_y22)
    have ne_y2_y22 : y2 ≠ y22 := Nat.ne_of_lt (Nat.lt_of_lt_of_le V_y2.lt sz0_y22)
    have ne_y3_y22 : y3 ≠ y22 := Nat.ne_of_lt (Nat.lt_of_lt_of_le V_y3.lt sz0_y22)
    have ne_b4_y22 : b4 ≠ y22 := Nat.ne_of_lt (Nat.lt_of_lt_of_le E_b4.lt sz0_y22)
    have ne_y5_y22 : y5 ≠ y22 := Nat.ne_of_lt (Nat.lt_of_lt_of_le V_y5.lt sz0_y22)
    have g_y22 : n0 ≤ y22 := ng_y22
    have sz_y22 : h0.size ≤ y22 := Nat.le_trans K0.1 sz0_y22
    replace V_NI := V_NI.keep K22 (ninS ne_w_NI_b4 nin0)
    replace S_NI := sta_keep S_NI K22 (allS (exa_ns E_b4_pre) all0)
    replace V_y2 := V_y2.keep K22 (ninS ne_y2_b4 nin0)
    replace V_y3 := V_y3.keep K22 (ninS ne_y3_b4 nin0)
    replace E_b4 := E_b4.keep K22
    replace V_y5 := V_y5.keep K22 (ninS (Ne.symm ne_b4_y5) nin0)
    replace Z0 := Nat.le_trans Z0 K22.1
    replace K0 := K0.trans K22 (allS (Or.inr sz_b4) all0)
    have E_b4 := Q22_0
    have F_b4_a := Q22_1
    have F_b4_v := Q22_2
    have F_b4_s := Q22_3
    have F_b4_m := Q22_4
    have F_b4_i := Q22_5
    have F_b4_h := Q22_6
    have V_y22 := Q22_7
    have N22 := Fr.app N5 N22q
    obtain ⟨LL22, X22, N22⟩ : ∃ LL, Stand p l e room_1 s m #[(.int p1), (.int p2), (.int p3), (.int p4), (.int p5), (.int p6)] below meth c T22 LL 5 57 ∧ Fr n0 LL := ⟨_, X22, N22⟩
    show Go _ _ _ (T22.setTop (mkF m 53 #[vi p1, vi p2, vi p3, vi p4, vi p5, vi p6, vi 1, vr y2, vr y3, vr b4, us, us, us, us, us, us, us, us] [])) _
    replace V_y22 : Arv Z h22 y22 k_y22 .int ((p2 &&& (15 : Int32)) * (1 : Int32)) [(.int (0 : Int32))] (.int (0 : Int32)) := V_y22.pad (pad_rep [] (.int (0 : Int32)) 1)
    refine G (fun t k => XS.aload X22.here hx rfl (hb hby at_53) rfl rfl (XS.aload X22.here hx rfl (hb hby at_55) rfl rfl k)) ?_
    obtain ⟨cq23, kq23, q23a, q23b, q23c⟩ := isOf hZ e22 E_b4
    obtain ⟨_, _, ⟨T23, L23, k23, n23⟩, -, X23, ⟨Lc23, hQ23, l23, y23, z23⟩, st23⟩ := X22.virtualBack hx (y := (⟨RC, "add", "([I)Z"⟩ : MethodName)) (z := (⟨RC, "add", "([I)Z"⟩ : MethodName)) hown (mvT hZ (wd32 hw)) (mvT hZ (wd33 hw)) (notFace_of_selects (args := #[]) (mvT hZ (wd35 hw))) (mvT hZ (wd35 hw)) (mvT hZ (wd34 hw)) (by decide) (backOf (W := 0) (rm5_1_N l Z a0 hw [] b4 y2 y22 k_y22 ((p2 &&& (15 : Int32)) * (1 : Int32)) (0 : Int32) w_NI k_NI (0 : Int32) k_y2 p3 h22 n0 Z0 E_b4 V_y22 V_NI F_b4_a F_b4_v F_b4_s F_b4_m F_b4_i F_b4_h V_y2 (own_ge (own_big _ 1 4 1 rfl rfl (by decide) (own_15 _) hc21)) (Ne.symm ne_b4_y22) ne_w_NI_b4 ne_w_NI_y22 ne_y2_b4 ne_y2_y22 (Ne.symm ne_w_NI_y2) g_y22 g_b4) hZ (wd36 hw) (wd8 hw) (by decide) (by decide)) q23a q23c (g := (mkF m 57 #[vi p1, vi p2, vi p3, vi p4, vi p5, vi p6, vi 1, vr y2, vr y3, vr b4, us, us, us, us, us, us, us, us] [(.ref y2), (.ref b4)])) rfl (by rw [hml]; rfl) (Steps.refl _) (argsL := [(.ref y2)]) (rest := []) (lenOf pd5 rfl) rfl (by show 2 * 0 + _ ≤ _; exact Nat.le_of_eq rfl) (hb hby at_57) (fun _ _ => ⟨rfl, e22, (by decide : 5 + 0 ≤ _), (by decide : 57 + 0 ≤ _)⟩)
    dsimp only [Pt.U, Pt.locs, Pt.cells, Pt.slots] at X23 l23 y23 z23 st23 hQ23
    subst l23 y23 z23
    have E_b4_pre := E_b4
    have F_b4_arity_pre := F_b4_a
    have F_b4_values_pre := F_b4_v
    have F_b4_size_pre := F_b4_s
    have F_b4_members_pre := F_b4_m
    have F_b4_indexes_pre := F_b4_i
    have F_b4_holdingAny_pre := F_b4_h
    have V_y22_pre := V_y22
    obtain ⟨h23, e23⟩ : ∃ z, T23.heap = z := ⟨_, rfl⟩
    rw [e23] at hQ23
    obtain ⟨zh23, rfl, N23q, K23, Q23_0, Q23_1, Q23_2, Q23_3, Q23_4, Q23_5, Q23_6, Q23_7⟩ := hQ23
    refine Go.tr st23 ?_
    replace V_NI := V_NI.keep K23 (ninS ne_w_NI_y22 (ninS ne_w_NI_b4 nin0))
    replace S_NI := sta_keep S_NI K23 (allS (arv_ns V_y22_pre) (allS (exa_ns E_b4_pre) all0))
    replace V_y2 := V_y2.keep K23 (ninS ne_y2_y22 (ninS ne_y2_b4 nin0))
    replace V_y3 := V_y3.keep K23 (ninS ne_y3_y22 (ninS ne_y3_b4 nin0))
    replace E_b4 := E_b4.keep K23
    replace V_y5 := V_y5.keep K23 (ninS ne_y5_y22 (ninS (Ne.symm ne_b4_y5) nin0))
    replace Z0 := Nat.le_trans Z0 K23.1
    replace K0 := K0.trans K23 (allS (Or.inr sz_y22) (allS (Or.inr sz_b4) all0))
    have E_b4 := Q23_0
    have F_b4_a := Q23_1
    have F_b4_v := Q23_2
    have F_b4_s := Q23_3
    have F_b4_m := Q23_4
    have F_b4_i := Q23_5
    have F_b4_h := Q23_6
    have V_y22 := Q23_7
    have N23 := Fr.app N22 N23q
    refine G (fun t k => XS.istore X23.here hx rfl (hb hby at_60) rfl (l' := #[vi p1, vi p2, vi p3, vi p4, vi p5, vi p6, vi 1, vr y2, vr y3, vr b4, vi 1, us, us, us, us, us, us, us]) rfl (XS.aload X23.here hx rfl (hb hby at_62) rfl rfl k)) ?_
    obtain ⟨cq24, kq24, q24a, q24b, q24c⟩ := isOf hZ e23 E_b4
    obtain ⟨_, _, ⟨T24, L24, k24, n24⟩, -, X24, ⟨Lc24, hQ24, l24, y24, z24⟩, st24⟩ := X23.virtualBack hx (y := (⟨RC, "values", "()[I"⟩ : MethodName)) (z := (⟨RC, "values", "()[I"⟩ : MethodName)) hown (mvT hZ (wd47 hw)) (mvT hZ (wd48 hw)) (notFace_of_selects (args := #[]) (mvT hZ (wd50 hw))) (mvT hZ (wd50 hw)) (mvT hZ (wd49 hw)) (by decide) (backOf (W := 0) (rm7 l Z a0 hw [] b4 y22 h23 n0 Z0 F_b4_v) hZ (wd51 hw) (wd8 hw) (by decide) (by decide)) q24a q24c (g := (mkF m 64 #[vi p1, vi p2, vi p3, vi p4, vi p5, vi p6, vi 1, vr y2, vr y3, vr b4, vi 1, us, us, us, us, us, us, us] [(.ref b4)])) rfl (by rw [hml]; rfl) (Steps.refl _) (argsL := []) (rest := []) (lenOf pd13 rfl) rfl (by show 2 * 0 + _ ≤ _; exact Nat.le_of_eq rfl) (hb hby at_64) (fun _ _ => ⟨rfl, e23, (by decide : 5 + 0 ≤ _), (by decide : 57 + 0 ≤ _)⟩)
    dsimp only [Pt.U, Pt.locs, Pt.cells, Pt.slots] at X24 l24 y24 z24 st24 hQ24
    subst l24 y24 z24
    refine Go.tr st24 ?_
    obtain ⟨rfl, N24q, e24⟩ := hQ24
    have N24 := Fr.app N23 N24q
    obtain ⟨cl25, Ar25, -, Sz25, Ng25, -, -⟩ := id V_y22
    refine G (fun t k => X24.arraylength hx (by rw [e24]; exact Ar25.1) (State.isArrayOf_alike hZ.alike Ar25.2.1) (g := (mkF m 67 #[vi p1, vi p2, vi p3, vi p4, vi p5, vi p6, vi 1, vr y2, vr y3, vr b4, vi 1, us, us, us, us, us, us, us] [(.ref y22)])) rfl rfl (hb hby at_67) _ k) ?_
    rw [len_of Sz25 Ng25]
    show Go _ _ _ (T24.setTop (mkF m 68 #[vi p1, vi p2, vi p3, vi p4, vi p5, vi p6, vi 1, vr y2, vr y3, vr b4, vi 1, us, us, us, us, us, us, us] [(.int ((p2 &&& (15 : Int32)) * (1 : Int32)))])) _
    refine G (fun t k => XS.istore X24.here hx rfl (hb hby at_68) rfl (l' := #[vi p1, vi p2, vi p3, vi p4, vi p5, vi p6, vi 1, vr y2, vr y3, vr b4, vi 1, vi ((p2 &&& (15 : Int32)) * (1 : Int32)), us, us, us, us, us, us]) rfl (XS.aload X24.here hx rfl (hb hby at_70) rfl rfl k)) ?_
    obtain ⟨cq26, kq26, q26a, q26b, q26c⟩ := isOf hZ e24 E_b4
    obtain ⟨_, _, ⟨T26, L26, k26, n26⟩, -, X26, ⟨Lc26, hQ26, l26, y26, z26⟩, st26⟩ := X24.virtualBack hx (y := (⟨RC, "clear", "()V"⟩ : MethodName)) (z := (⟨RC, "clear", "()V"⟩ : MethodName)) hown (mvT hZ (wd52 hw)) (mvT hZ (wd53 hw)) (notFace_of_selects (args := #[]) (mvT hZ (wd55 hw))) (mvT hZ (wd55 hw)) (mvT hZ (wd54 hw)) (by decide) (backOf (W := 0) (rm8 l Z a0 hw [] b4 (1 : Int32) y22 ((.int (1 : Int32)) : Value) ((.int zh23) : Value) (.null : Value) w_NI ((.ref w_NI) : Value) h23 n0 Z0 F_b4_a F_b4_v E_b4 F_b4_s F_b4_h F_b4_m S_NI F_b4_i g_b4) hZ (wd56 hw) (wd8 hw) (by decide) (by decide)) q26a q26c (g := (mkF m 72 #[vi p1, vi p2, vi p3, vi p4, vi p5, vi p6, vi 1, vr y2, vr y3, vr b4, vi 1, vi ((p2 &&& (15 : Int32)) * (1 : Int32)), us, us, us, us, us, us] [(.ref b4)])) rfl (by rw [hml]; rfl) (Steps.refl _) (argsL := []) (rest := []) (lenOf pd14 rfl) rfl (by show 2 * 0 + _ ≤ _; exact Nat.le_of_eq rfl) (hb hby at_72) (fun _ _ => ⟨rfl, e24, (by decide : 5 + 0 ≤ _), (by decide : 57 + 0 ≤ _)⟩)
    dsimp only [Pt.U, Pt.locs, Pt.cells, Pt.slots] at X26 l26 y26 z26 st26 hQ26
    subst l26 y26 z26
    refine Go.tr st26 ?_
    have E_b4_pre := E_b4
    have F_b4_arity_pre := F_b4_a
    have F_b4_values_pre := F_b4_v
    have F_b4_size_pre := F_b4_s
    have F_b4_members_pre := F_b4_m
    have F_b4_indexes_pre := F_b4_i
    have F_b4_holdingAny_pre := F_b4_h
    obtain ⟨h26, e26⟩ : ∃ z, T26.heap = z := ⟨_, rfl⟩
    rw [e26] at hQ26
    obtain ⟨rfl, N26q, K26, Q26_0, Q26_1, Q26_2, Q26_3, Q26_4, Q26_5, Q26_6⟩ := hQ26
    replace V_NI := V_NI.keep K26 (ninS ne_w_NI_b4 nin0)
    replace S_NI := sta_keep S_NI K26 (allS (exa_ns E_b4_pre) all0)
    replace V_y2 := V_y2.keep K26 (ninS ne_y2_b4 nin0)
    replace V_y3 := V_y3.keep K26 (ninS ne_y3_b4 nin0)
    replace E_b4 := E_b4.keep K26
    replace V_y5 := V_y5.keep K26 (ninS (Ne.symm ne_b4_y5) nin0)
    replace V_y22 := V_y22.keep K26 (ninS (Ne.symm ne_b4_y22) nin0)
    replace Z0 := Nat.le_trans Z0 K26.1
    replace K0 := K0.trans K26 (allS (Or.inr sz_b4) all0)
    have F_b4_a := Q26_0
    have F_b4_v := Q26_1
    have E_b4 := Q26_2
    have F_b4_s := Q26_3
    have F_b4_h := Q26_4
    have F_b4_m := Q26_5
    have F_b4_i := Q26_6
    have N26 := Fr.app N24 N26q
    show Go _ _ _ (T26.setTop (mkF m 75 #[vi p1, vi p2, vi p3, vi p4, vi p5, vi p6, vi 1, vr y2, vr y3, vr b4, vi 1, vi ((p2 &&& (15 : Int32)) * (1 : Int32)), us, us, us, us, us, us] [])) _
    exact J6 _ _ _ y22 k_y22 ((p2 &&& (15 : Int32)) * (1 : Int32)) (own_stm X26 (by decide) (by decide)) e26 N26 K0 Z0 (own_ge (own_big _ 1 4 1 rfl rfl (by decide) (own_15 _) hc21)) g_y22 sz_y22 ne_w_NI_y22 ne_y2_y22 ne_y3_y22 ne_b4_y22 V_NI S_NI V_y2 V_y3 E_b4 F_b4_s F_b4_m F_b4_h F_b4_i F_b4_v F_b4_a V_y22
   ·show Go _ _ _ (T5.setTop (mkF m 50 #[vi p1, vi p2, vi p3, vi p4, vi p5, vi p6, vi 1, vr y2, vr y3, vr b4, us, us, us, us, us, us, us, us] [(.int (p2 &&& (15 : Int32))), (.ref b4)])) _
    obtain ⟨cq27, kq27, q27a, q27b, q27c⟩ := isOf hZ e5 E_b4
    obtain ⟨_, _, ⟨T27, L27, k27, n27⟩, -, X27, ⟨Lc27, hQ27, l27, y27, z27⟩, st27⟩ := X5.virtualBack hx (y := (⟨RC, "reserve", "(I)V"⟩ : MethodName)) (z := (⟨RC, "reserve", "(I)V"⟩ : MethodName)) hown (mvT hZ (wd23 hw)) (mvT hZ (wd24 hw)) (notFace_of_selects (args := #[]) (mvT hZ (wd26 hw))) (mvT hZ (wd26 hw)) (mvT hZ (wd25 hw)) (by decide) (backOf (W := 0) (rm4_1_0 l Z a0 hw [] b4 (p2 &&& (15 : Int32)) y5 k_y5 w_NI k_NI (0 : Int32) h5 n0 Z0 E_b4 V_y5 V_NI F_b4_a F_b4_v F_b4_s F_b4_m F_b4_i F_b4_h (Ne.symm ne_b4_y5) ne_w_NI_b4 ne_w_NI_y5 (own_15 _) hc21 hc15) hZ (wd27 hw) (wd8 hw) (by decide) (by decide)) q27a q27c (g := (mkF m 50 #[vi p1, vi p2, vi p3, vi p4, vi p5, vi p6, vi 1, vr y2, vr y3, vr b4, us, us, us, us, us, us, us, us] [(.int (p2 &&& (15 : Int32))), (.ref b4)])) rfl (by rw [hml]; rfl) (Steps.refl _) (argsL := [(.int (p2 &&& (15 : Int32)))]) (rest := []) (lenOf pd1 rfl) rfl (by show 2 * 0 + _ ≤ _; exact Nat.le_of_eq rfl) (hb hby at_50) (fun _ _ => ⟨rfl, e5, (by decide : 4 + 0 ≤ _), (by decide : 12 + 0 ≤ _)⟩)
    dsimp only [Pt.U, Pt.locs, Pt.cells, Pt.slots] at X27 l27 y27 z27 st27 hQ27
    subst l27 y27 z27
    refine Go.tr st27 ?_
    obtain ⟨rfl, N27q, e27⟩ := hQ27
    have N27 := Fr.app N5 N27q
    obtain ⟨LL27, X27, N27⟩ : ∃ LL, Stand p l e room_1 s m #[(.int p1), (.int p2), (.int p3), (.int p4), (.int p5), (.int p6)] below meth c T27 LL 4 12 ∧ Fr n0 LL := ⟨_, X27, N27⟩
    show Go _ _ _ (T27.setTop (mkF m 53 #[vi p1, vi p2, vi p3, vi p4, vi p5, vi p6, vi 1, vr y2, vr y3, vr b4, us, us, us, us, us, us, us, us] [])) _
    replace V_y5 : Arv Z h5 y5 k_y5 .int (4 : Int32) [(.int (0 : Int32))] (.int (0 : Int32)) := V_y5.pad (pad_rep [] (.int (0 : Int32)) 1)
    refine G (fun t k => XS.aload X27.here hx rfl (hb hby at_53) rfl rfl (XS.aload X27.here hx rfl (hb hby at_55) rfl rfl k)) ?_
    obtain ⟨cq28, kq28, q28a, q28b, q28c⟩ := isOf hZ e27 E_b4
    obtain ⟨_, _, ⟨T28, L28, k28, n28⟩, -, X28, ⟨Lc28, hQ28, l28, y28, z28⟩, st28⟩ := X27.virtualBack hx (y := (⟨RC, "add", "([I)Z"⟩ : MethodName)) (z := (⟨RC, "add", "([I)Z"⟩ : MethodName)) hown (mvT hZ (wd32 hw)) (mvT hZ (wd33 hw)) (notFace_of_selects (args := #[]) (mvT hZ (wd35 hw))) (mvT hZ (wd35 hw)) (mvT hZ (wd34 hw)) (by decide) (backOf (W := 0) (rm5_1_N l Z a0 hw [] b4 y2 y5 k_y5 (4 : Int32) (0 : Int32) w_NI k_NI (0 : Int32) k_y2 p3 h5 n0 Z0 E_b4 V_y5 V_NI F_b4_a F_b4_v F_b4_s F_b4_m F_b4_i F_b4_h V_y2 (by decide) (Ne.symm ne_b4_y5) ne_w_NI_b4 ne_w_NI_y5 ne_y2_b4 ne_y2_y5 (Ne.symm ne_w_NI_y2) g_y5 g_b4) hZ (wd36 hw) (wd8 hw) (by decide) (by decide)) q28a q28c (g := (mkF m 57 #[vi p1, vi p2, vi p3, vi p4, vi p5, vi p6, vi 1, vr y2, vr y3, vr b4, us, us, us, us, us, us, us, us] [(.ref y2), (.ref b4)])) rfl (by rw [hml]; rfl) (Steps.refl _) (argsL := [(.ref y2)]) (rest := []) (lenOf pd5 rfl) rfl (by show 2 * 0 + _ ≤ _; exact Nat.le_of_eq rfl) (hb hby at_57) (fun _ _ => ⟨rfl, e27, (by decide : 4 + 0 ≤ _), (by decide : 12 + 0 ≤ _)⟩)
    dsimp only [Pt.U, Pt.locs, Pt.cells, Pt.slots] at X28 l28 y28 z28 st28 hQ28
    subst l28 y28 z28
    have E_b4_pre := E_b4
    have F_b4_size_pre := F_b4_s
    have F_b4_members_pre := F_b4_m
    have F_b4_holdingAny_pre := F_b4_h
    have F_b4_indexes_pre := F_b4_i
    have F_b4_values_pre := F_b4_v
    have F_b4_arity_pre := F_b4_a
    have V_y5_pre := V_y5
    obtain ⟨h28, e28⟩ : ∃ z, T28.heap = z := ⟨_, rfl⟩
    rw [e28] at hQ28
    obtain ⟨zh28, rfl, N28q, K28, Q28_0, Q28_1, Q28_2, Q28_3, Q28_4, Q28_5, Q28_6, Q28_7⟩ := hQ28
    refine Go.tr st28 ?_
    replace V_NI := V_NI.keep K28 (ninS ne_w_NI_y5 (ninS ne_w_NI_b4 nin0))
    replace S_NI := sta_keep S_NI K28 (allS (arv_ns V_y5_pre) (allS (exa_ns E_b4_pre) all0))
    replace V_y2 := V_y2.keep K28 (ninS ne_y2_y5 (ninS ne_y2_b4 nin0))
    replace V_y3 := V_y3.keep K28 (ninS ne_y3_y5 (ninS ne_y3_b4 nin0))
    replace E_b4 := E_b4.keep K28
    replace Z0 := Nat.le_trans Z0 K28.1
    replace K0 := K0.trans K28 (allS (Or.inr sz_y5) (allS (Or.inr sz_b4) all0))
    have E_b4 := Q28_0
    have F_b4_a := Q28_1
    have F_b4_v := Q28_2
    have F_b4_s := Q28_3
    have F_b4_m := Q28_4
    have F_b4_i := Q28_5
    have F_b4_h := Q28_6
    have V_y5 := Q28_7
    have N28 := Fr.app N27 N28q
    refine G (fun t k => XS.istore X28.here hx rfl (hb hby at_60) rfl (l' := #[vi p1, vi p2, vi p3, vi p4, vi p5, vi p6, vi 1, vr y2, vr y3, vr b4, vi 1, us, us, us, us, us, us, us]) rfl (XS.aload X28.here hx rfl (hb hby at_62) rfl rfl k)) ?_
    obtain ⟨cq29, kq29, q29a, q29b, q29c⟩ := isOf hZ e28 E_b4
    obtain ⟨_, _, ⟨T29, L29, k29, n29⟩, -, X29, ⟨Lc29, hQ29, l29, y29, z29⟩, st29⟩ := X28.virtualBack hx (y := (⟨RC, "values", "()[I"⟩ : MethodName)) (z := (⟨RC, "values", "()[I"⟩ : MethodName)) hown (mvT hZ (wd47 hw)) (mvT hZ (wd48 hw)) (notFace_of_selects (args := #[]) (mvT hZ (wd50 hw))) (mvT hZ (wd50 hw)) (mvT hZ (wd49 hw)) (by decide) (backOf (W := 0) (rm7 l Z a0 hw [] b4 y5 h28 n0 Z0 F_b4_v) hZ (wd51 hw) (wd8 hw) (by decide) (by decide)) q29a q29c (g := (mkF m 64 #[vi p1, vi p2, vi p3, vi p4, vi p5, vi p6, vi 1, vr y2, vr y3, vr b4, vi 1, us, us, us, us, us, us, us] [(.ref b4)])) rfl (by rw [hml]; rfl) (Steps.refl _) (argsL := []) (rest := []) (lenOf pd13 rfl) rfl (by show 2 * 0 + _ ≤ _; exact Nat.le_of_eq rfl) (hb hby at_64) (fun _ _ => ⟨rfl, e28, (by decide : 4 + 0 ≤ _), (by decide : 12 + 0 ≤ _)⟩)
    dsimp only [Pt.U, Pt.locs, Pt.cells, Pt.slots] at X29 l29 y29 z29 st29 hQ29
    subst l29 y29 z29
    refine Go.tr st29 ?_
    obtain ⟨rfl, N29q, e29⟩ := hQ29
    have N29 := Fr.app N28 N29q
    obtain ⟨cl30, Ar30, -, Sz30, Ng30, -, -⟩ := id V_y5
    refine G (fun t k => X29.arraylength hx (by rw [e29]; exact Ar30.1) (State.isArrayOf_alike hZ.alike Ar30.2.1) (g := (mkF m 67 #[vi p1, vi p2, vi p3, vi p4, vi p5, vi p6, vi 1, vr y2, vr y3, vr b4, vi 1, us, us, us, us, us, us, us] [(.ref y5)])) rfl rfl (hb hby at_67) _ k) ?_
    rw [len_of Sz30 Ng30]
    show Go _ _ _ (T29.setTop (mkF m 68 #[vi p1, vi p2, vi p3, vi p4, vi p5, vi p6, vi 1, vr y2, vr y3, vr b4, vi 1, us, us, us, us, us, us, us] [(.int 4)])) _
    refine G (fun t k => XS.istore X29.here hx rfl (hb hby at_68) rfl (l' := #[vi p1, vi p2, vi p3, vi p4, vi p5, vi p6, vi 1, vr y2, vr y3, vr b4, vi 1, vi 4, us, us, us, us, us, us]) rfl (XS.aload X29.here hx rfl (hb hby at_70) rfl rfl k)) ?_
    obtain ⟨cq31, kq31, q31a, q31b, q31c⟩ := isOf hZ e29 E_b4
    obtain ⟨_, _, ⟨T31, L31, k31, n31⟩, -, X31, ⟨Lc31, hQ31, l31, y31, z31⟩, st31⟩ := X29.virtualBack hx (y := (⟨RC, "clear", "()V"⟩ : MethodName)) (z := (⟨RC, "clear", "()V"⟩ : MethodName)) hown (mvT hZ (wd52 hw)) (mvT hZ (wd53 hw)) (notFace_of_selects (args := #[]) (mvT hZ (wd55 hw))) (mvT hZ (wd55 hw)) (mvT hZ (wd54 hw)) (by decide) (backOf (W := 0) (rm8 l Z a0 hw [] b4 (1 : Int32) y5 ((.int (1 : Int32)) : Value) ((.int zh28) : Value) (.null : Value) w_NI ((.ref w_NI) : Value) h28 n0 Z0 F_b4_a F_b4_v E_b4 F_b4_s F_b4_h F_b4_m S_NI F_b4_i g_b4) hZ (wd56 hw) (wd8 hw) (by decide) (by decide)) q31a q31c (g := (mkF m 72 #[vi p1, vi p2, vi p3, vi p4, vi p5, vi p6, vi 1, vr y2, vr y3, vr b4, vi 1, vi 4, us, us, us, us, us, us] [(.ref b4)])) rfl (by rw [hml]; rfl) (Steps.refl _) (argsL := []) (rest := []) (lenOf pd14 rfl) rfl (by show 2 * 0 + _ ≤ _; exact Nat.le_of_eq rfl) (hb hby at_72) (fun _ _ => ⟨rfl, e29, (by decide : 4 + 0 ≤ _), (by decide : 12 + 0 ≤ _)⟩)
    dsimp only [Pt.U, Pt.locs, Pt.cells, Pt.slots] at X31 l31 y31 z31 st31 hQ31
    subst l31 y31 z31
    refine Go.tr st31 ?_
    have E_b4_pre := E_b4
    have F_b4_arity_pre := F_b4_a
    have F_b4_values_pre := F_b4_v
    have F_b4_size_pre := F_b4_s
    have F_b4_members_pre := F_b4_m
    have F_b4_indexes_pre := F_b4_i
    have F_b4_holdingAny_pre := F_b4_h
    obtain ⟨h31, e31⟩ : ∃ z, T31.heap = z := ⟨_, rfl⟩
    rw [e31] at hQ31
    obtain ⟨rfl, N31q, K31, Q31_0, Q31_1, Q31_2, Q31_3, Q31_4, Q31_5, Q31_6⟩ := hQ31
    replace V_NI := V_NI.keep K31 (ninS ne_w_NI_b4 nin0)
    replace S_NI := sta_keep S_NI K31 (allS (exa_ns E_b4_pre) all0)
    replace V_y2 := V_y2.keep K31 (ninS ne_y2_b4 nin0)
    replace V_y3 := V_y3.keep K31 (ninS ne_y3_b4 nin0)
    replace E_b4 := E_b4.keep K31
    replace V_y5 := V_y5.keep K31 (ninS (Ne.symm ne_b4_y5) nin0)
    replace Z0 := Nat.le_trans Z0 K31.1
    replace K0 := K0.trans K31 (allS (Or.inr sz_b4) all0)
    have F_b4_a := Q31_0
    have F_b4_v := Q31_1
    have E_b4 := Q31_2
    have F_b4_s := Q31_3
    have F_b4_h := Q31_4
    have F_b4_m := Q31_5
    have F_b4_i := Q31_6
    have N31 := Fr.app N29 N31q
    show Go _ _ _ (T31.setTop (mkF m 75 #[vi p1, vi p2, vi p3, vi p4, vi p5, vi p6, vi 1, vr y2, vr y3, vr b4, vi 1, vi 4, us, us, us, us, us, us] [])) _
    exact J6 _ _ _ y5 k_y5 (4 : Int32) (own_stm X31 (by decide) (by decide)) e31 N31 K0 Z0 (by decide) g_y5 sz_y5 ne_w_NI_y5 ne_y2_y5 ne_y3_y5 ne_b4_y5 V_NI S_NI V_y2 V_y3 E_b4 F_b4_s F_b4_m F_b4_h F_b4_i F_b4_v F_b4_a V_y5
 ·by_cases hc32 : ((p1 &&& (2147483647 : Int32)) % (3 : Int32)) = (1 : Int32)
  ·rw [show ((1 : Int32) + ((p1 &&& (2147483647 : Int32)) % (3 : Int32))) = (2 : Int32) from by rw [hc32]; decide]
   show Go _ _ _ (s₁.setTop (mkF m 10 #[vi p1, vi p2, vi p3, vi p4, vi p5, vi p6, vi 2, us, us, us, us, us, us, us, us, us, us, us] [])) _
   refine G (fun t k => XS.iload X0.here hx rfl (hb hby at_10) rfl (XS.iloadN X0.here hx rfl (hb hby at_12) rfl (XS.iloadN X0.here hx rfl (hb hby at_13) rfl (XS.iload X0.here hx rfl (hb hby at_14) rfl k)))) ?_
   obtain ⟨_, _, ⟨T33, L33, k33, n33⟩, -, X33, ⟨Lc33, hQ33, l33, y33, z33⟩, st33⟩ := Jvm.LawKit.callS X0 hx (y := (⟨"com/example/bitlattice/bitlattice/eval/RelationClearPinLaw", "row", "(IIII)[I"⟩ : MethodName)) hown (mvT hZ (wd1 hw)) (mvT hZ (wd2 hw)) (mvT hZ (wd3 hw)) (mvT hZ (wd4 hw)) (by decide) (backOf (W := 0) (rm1_2 l Z a0 hw [] p3 p4 p5 h0 n0 Z0) hZ (wd4 hw) (wd3 hw) (by decide) (by decide)) (g := (mkF m 16 #[vi p1, vi p2, vi p3, vi p4, vi p5, vi p6, vi 2, us, us, us, us, us, us, us, us, us, us, us] [(.int p5), (.int p4), (.int p3), (.int 2)])) rfl (by rw [hml]; rfl) (argsL := [(.int (2 : Int32)), (.int p3), (.int p4), (.int p5)]) (rest := []) (lenOf pd10 rfl) rfl (by show 2 * 0 + _ ≤ _; exact Nat.le_of_eq rfl) (hb hby at_16) (fun _ _ => ⟨rfl, e0, (by decide : 0 + 1 ≤ _), (by decide : 0 + 2 ≤ _)⟩)
   dsimp only [Pt.U, Pt.locs, Pt.cells, Pt.slots] at X33 l33 y33 z33 st33 hQ33
   subst l33 y33 z33
   obtain ⟨h33, e33⟩ : ∃ z, T33.heap = z := ⟨_, rfl⟩
   rw [e33] at hQ33
   obtain ⟨y33, k_y33, rfl, N33q, K33, ng_y33, sz0_y33, Q33_0⟩ := hQ33
   refine G st33 ?_
   have ne_w_NI_y33 : w_NI ≠ y33 := Nat.ne_of_lt (Nat.lt_of_lt_of_le V_NI.lt sz0_y33)
   have g_y33 : n0 ≤ y33 := ng_y33
   have sz_y33 : h0.size ≤ y33 := Nat.le_trans K0.1 sz0_y33
   replace V_NI := V_NI.keep K33 nin0
   replace S_NI := sta_keep S_NI K33 all0
   replace Z0 := Nat.le_trans Z0 K33.1
   replace K0 := K0.trans K33 all0
   have V_y33 := Q33_0
   have N33 := Fr.app N0 N33q
   refine G (fun t k => XS.astore X33.here hx rfl (hb hby at_19) rfl rfl (l' := #[vi p1, vi p2, vi p3, vi p4, vi p5, vi p6, vi 2, vr y33, us, us, us, us, us, us, us, us, us, us]) rfl (XS.iload X33.here hx rfl (hb hby at_21) rfl k)) ?_
   show Go _ _ _ (T33.setTop (mkF m 23 #[vi p1, vi p2, vi p3, vi p4, vi p5, vi p6, vi 2, vr y33, us, us, us, us, us, us, us, us, us, us] [(.int 2)])) _
   refine G (fun t k => XS.iload X33.here hx rfl (hb hby at_23) rfl (XS.iloadN X33.here hx rfl (hb hby at_25) rfl (XS.iload X33.here hx rfl (hb hby at_26) rfl k))) ?_
   obtain ⟨_, _, ⟨T34, L34, k34, n34⟩, -, X34, ⟨Lc34, hQ34, l34, y34, z34⟩, st34⟩ := Jvm.LawKit.callS X33 hx (y := (⟨"com/example/bitlattice/bitlattice/eval/RelationClearPinLaw", "row", "(IIII)[I"⟩ : MethodName)) hown (mvT hZ (wd1 hw)) (mvT hZ (wd2 hw)) (mvT hZ (wd3 hw)) (mvT hZ (wd4 hw)) (by decide) (backOf (W := 0) (rm1_2 l Z a0 hw [] p6 p4 p5 h33 n0 Z0) hZ (wd4 hw) (wd3 hw) (by decide) (by decide)) (g := (mkF m 28 #[vi p1, vi p2, vi p3, vi p4, vi p5, vi p6, vi 2, vr y33, us, us, us, us, us, us, us, us, us, us] [(.int p5), (.int p4), (.int p6), (.int 2)])) rfl (by rw [hml]; rfl) (argsL := [(.int (2 : Int32)), (.int p6), (.int p4), (.int p5)]) (rest := []) (lenOf pd10 rfl) rfl (by show 2 * 0 + _ ≤ _; exact Nat.le_of_eq rfl) (hb hby at_28) (fun _ _ => ⟨rfl, e33, (by decide : 1 + 1 ≤ _), (by decide : 2 + 2 ≤ _)⟩)
   dsimp only [Pt.U, Pt.locs, Pt.cells, Pt.slots] at X34 l34 y34 z34 st34 hQ34
   subst l34 y34 z34
   obtain ⟨h34, e34⟩ : ∃ z, T34.heap = z := ⟨_, rfl⟩
   rw [e34] at hQ34
   obtain ⟨y34, k_y34, rfl, N34q, K34, ng_y34, sz0_y34, Q34_0⟩ := hQ34
   refine G st34 ?_
   have ne_w_NI_y34 : w_NI ≠ y34 := Nat.ne_of_lt (Nat.lt_of_lt_of_le V_NI.lt sz0_y34)
   have ne_y33_y34 : y33 ≠ y34 := Nat.ne_of_lt (Nat.lt_of_lt_of_le V_y33.lt sz0_y34)
   have g_y34 : n0 ≤ y34 := ng_y34
   have sz_y34 : h0.size ≤ y34 := Nat.le_trans K0.1 sz0_y34
   replace V_NI := V_NI.keep K34 nin0
   replace S_NI := sta_keep S_NI K34 all0
   replace V_y33 := V_y33.keep K34 nin0
   replace Z0 := Nat.le_trans Z0 K34.1
   replace K0 := K0.trans K34 all0
   have V_y34 := Q34_0
   have N34 := Fr.app N33 N34q
   refine G (fun t k => XS.astore X34.here hx rfl (hb hby at_31) rfl rfl (l' := #[vi p1, vi p2, vi p3, vi p4, vi p5, vi p6, vi 2, vr y33, vr y34, us, us, us, us, us, us, us, us, us]) rfl k) ?_
   obtain ⟨T35, h35, X35, e35, E35, A35, D35, -, st35⟩ := newO X34 hx hZ hown (wd6 hw) (wd7 hw) (wd8 hw) e34 (g := (mkF m 33 #[vi p1, vi p2, vi p3, vi p4, vi p5, vi p6, vi 2, vr y33, vr y34, us, us, us, us, us, us, us, us, us] [])) rfl (hb hby at_33) (by decide) (by decide)
   obtain ⟨b35, g35⟩ : ∃ z, z = h34.size := ⟨_, rfl⟩
   rw [← g35] at A35 D35 st35
   refine G st35 ?_
   have ne_w_NI_b35 : w_NI ≠ b35 := Nat.ne_of_lt (Nat.lt_of_lt_of_le V_NI.lt (Nat.le_of_eq g35.symm))
   have ne_y33_b35 : y33 ≠ b35 := Nat.ne_of_lt (Nat.lt_of_lt_of_le V_y33.lt (Nat.le_of_eq g35.symm))
   have ne_y34_b35 : y34 ≠ b35 := Nat.ne_of_lt (Nat.lt_of_lt_of_le V_y34.lt (Nat.le_of_eq g35.symm))
   have g_b35 : n0 ≤ b35 := Nat.le_trans Z0 (Nat.le_of_eq g35.symm)
   have sz_b35 : h0.size ≤ b35 := Nat.le_trans K0.1 (Nat.le_of_eq g35.symm)
   replace V_NI := V_NI.ext E35
   replace S_NI := S_NI.ext E35
   replace V_y33 := V_y33.ext E35
   replace V_y34 := V_y34.ext E35
   replace K0 := K0.ext E35
   replace Z0 := Nat.le_trans Z0 E35.1
   have E_b35 := A35
   have F_b35_i : Fld Z h35 b35 RC "indexes" RJ .null := D35 (Or.inl (wd18 hw)) (ty := (.array (.object IC))) (by decide)
   have F_b35_a : Fld Z h35 b35 RC "arity" "I" (.int (0 : Int32)) := D35 (Or.inr (wd20 hw)) (ty := .int) (by decide)
   have F_b35_v : Fld Z h35 b35 RC "values" "[I" .null := D35 (Or.inl (wd22 hw)) (ty := (.array .int)) (by decide)
   have F_b35_s : Fld Z h35 b35 RC "size" "I" (.int (0 : Int32)) := D35 (Or.inl (wd29 hw)) (ty := .int) (by decide)
   have F_b35_m : Fld Z h35 b35 RC "members" RI .null := D35 (Or.inl (wd31 hw)) (ty := (.object IC)) (by decide)
   have F_b35_h : Fld Z h35 b35 RC "holdingAny" "I" (.int (0 : Int32)) := D35 (Or.inl (wd58 hw)) (ty := .int) (by decide)
   refine G (fun t k => XS.dup X35.here hx rfl (hb hby at_36) rfl rfl k) ?_
   show Go _ _ _ (T35.setTop (mkF m 37 #[vi p1, vi p2, vi p3, vi p4, vi p5, vi p6, vi 2, vr y33, vr y34, us, us, us, us, us, us, us, us, us] [(.ref b35), (.ref b35)])) _
   refine G (fun t k => XS.iload X35.here hx rfl (hb hby at_37) rfl k) ?_
   obtain ⟨_, _, ⟨T36, L36, k36, n36⟩, -, X36, ⟨Lc36, hQ36, l36, y36, z36⟩, st36⟩ := X35.specialBack hx (y := (⟨RC, "<init>", "(I)V"⟩ : MethodName)) rfl hown (mvT hZ (wd9 hw)) (mvT hZ (wd10 hw)) (mvT hZ (wd11 hw)) (by decide) (backOf (W := 1) (rm2_2 l Z a0 hw [] b35 w_NI (.null : Value) (.null : Value) ((.int (0 : Int32)) : Value) h35 n0 Z0 E_b35 S_NI F_b35_s F_b35_m F_b35_h F_b35_i F_b35_v F_b35_a g_b35) hZ (wd11 hw) (wd8 hw) (by decide) (by decide)) (g := (mkF m 39 #[vi p1, vi p2, vi p3, vi p4, vi p5, vi p6, vi 2, vr y33, vr y34, us, us, us, us, us, us, us, us, us] [(.int 2), (.ref b35), (.ref b35)])) rfl (by rw [hml]; rfl) (Steps.refl _) (a := b35) (argsL := [(.int (2 : Int32))]) (rest := [(.ref b35)]) (lenOf pd1 rfl) rfl (by show 2 * 0 + _ ≤ _; exact Nat.le_of_eq rfl) (hb hby at_39) (fun _ _ => ⟨rfl, e35, (by decide : 3 + 1 ≤ _), (by decide : 10 + 8 ≤ _)⟩)
   dsimp only [Pt.U, Pt.locs, Pt.cells, Pt.slots] at X36 l36 y36 z36 st36 hQ36
   subst l36 y36 z36
   have E_b35_pre := E_b35
   have F_b35_indexes_pre := F_b35_i
   have F_b35_arity_pre := F_b35_a
   have F_b35_values_pre := F_b35_v
   have F_b35_size_pre := F_b35_s
   have F_b35_members_pre := F_b35_m
   have F_b35_holdingAny_pre := F_b35_h
   obtain ⟨h36, e36⟩ : ∃ z, T36.heap = z := ⟨_, rfl⟩
   rw [e36] at hQ36
   obtain ⟨y36, k_y36, rfl, N36q, K36, ng_y36, sz0_y36, Q36_0, Q36_1, Q36_2, Q36_3, Q36_4, Q36_5, Q36_6, Q36_7⟩ := hQ36
   refine Go.tr st36 ?_
   have ne_w_NI_y36 : w_NI ≠ y36 := Nat.ne_of_lt (Nat.lt_of_lt_of_le V_NI.lt sz0_y36)
   have ne_y33_y36 : y33 ≠ y36 := Nat.ne_of_lt (Nat.lt_of_lt_of_le V_y33.lt sz0_y36)
   have ne_y34_y36 : y34 ≠ y36 := Nat.ne_of_lt (Nat.lt_of_lt_of_le V_y34.lt sz0_y36)
   have ne_b35_y36 : b35 ≠ y36 := Nat.ne_of_lt (Nat.lt_of_lt_of_le E_b35.lt sz0_y36)
   have g_y36 : n0 ≤ y36 := ng_y36
   have sz_y36 : h0.size ≤ y36 := Nat.le_trans K0.1 sz0_y36
   replace V_NI := V_NI.keep K36 (ninS ne_w_NI_b35 nin0)
   replace S_NI := sta_keep S_NI K36 (allS (exa_ns E_b35_pre) all0)
   replace V_y33 := V_y33.keep K36 (ninS ne_y33_b35 nin0)
   replace V_y34 := V_y34.keep K36 (ninS ne_y34_b35 nin0)
   replace E_b35 := E_b35.keep K36
   replace Z0 := Nat.le_trans Z0 K36.1
   replace K0 := K0.trans K36 (allS (Or.inr sz_b35) all0)
   have E_b35 := Q36_0
   have F_b35_s := Q36_1
   have F_b35_m := Q36_2
   have F_b35_h := Q36_3
   have F_b35_i := Q36_4
   have F_b35_v := Q36_5
   have F_b35_a := Q36_6
   have V_y36 := Q36_7
   have N36 := Fr.app N34 N36q
   refine G (fun t k => XS.astore X36.here hx rfl (hb hby at_42) rfl rfl (l' := #[vi p1, vi p2, vi p3, vi p4, vi p5, vi p6, vi 2, vr y33, vr y34, vr b35, us, us, us, us, us, us, us, us]) rfl (XS.aload X36.here hx rfl (hb hby at_44) rfl rfl (XS.iloadN X36.here hx rfl (hb hby at_46) rfl (XS.bipush X36.here hx rfl (hb hby at_47) (XS.iand X36.here hx rfl (hb hby at_49) rfl k))))) ?_
   show Go _ _ _ (T36.setTop (mkF m 50 #[vi p1, vi p2, vi p3, vi p4, vi p5, vi p6, vi 2, vr y33, vr y34, vr b35, us, us, us, us, us, us, us, us] [(.int (p2 &&& (15 : Int32))), (.ref b35)])) _
   have J37 : ∀ (TJ : State) (locsJ : List Loc) (hJ : Heap) (jv : Addr) (jk : ClassId) (jn : Int32), Stand p l e room_1 s m #[(.int p1), (.int p2), (.int p3), (.int p4), (.int p5), (.int p6)] below meth c TJ locsJ 12 300 → TJ.heap = hJ → Fr n0 locsJ → Keep h0 hJ [] → n0 ≤ hJ.size → ¬ jn < (8 : Int32) → n0 ≤ jv → h0.size ≤ jv → w_NI ≠ jv → y33 ≠ jv → y34 ≠ jv → b35 ≠ jv → Arv Z hJ w_NI k_NI (.object IC) (0 : Int32) [] .null → Sta Z hJ RC "NO_INDEXES" RJ (.ref w_NI) → Arv Z hJ y33 k_y33 .int (2 : Int32) [(.int p3), (.int p4)] (.int (0 : Int32)) → Arv Z hJ y34 k_y34 .int (2 : Int32) [(.int p6), (.int p4)] (.int (0 : Int32)) → Exa Z hJ b35 RC → Fld Z hJ b35 RC "size" "I" (.int (0 : Int32)) → Fld Z hJ b35 RC "members" RI .null → Fld Z hJ b35 RC "holdingAny" "I" (.int (0 : Int32)) → Fld Z hJ b35 RC "indexes" RJ (.ref w_NI) → Fld Z hJ b35 RC "values" "[I" (.ref jv) → Fld Z hJ b35 RC "arity" "I" (.int (2 : Int32)) → Arv Z hJ jv jk .int jn [(.int p3), (.int p4)] (.int (0 : Int32)) → Go p.tables e below (TJ.setTop (mkF m 75 #[vi p1, vi p2, vi p3, vi p4, vi p5, vi p6, vi 2, vr y33, vr y34, vr b35, vi 1, vi jn, us, us, us, us, us, us] [])) (fun o U' => ∃ v L, o = .returned v ∧ Q0 Z p1 p2 p3 p4 p5 p6 w_NI k_NI h0 n0 v U'.heap L ∧ FrameEnd s o U' L 32 512) := by
    intro TJ locsJ hJ jv jk jn XJ eJ NJ K0 Z0 hjn g_jv sz_jv nj_w_NI nj_y33 nj_y34 nj_b35 V_NI S_NI V_y33 V_y34 E_b35 F_b35_s F_b35_m F_b35_h F_b35_i F_b35_v F_b35_a V_jv
    refine G (fun t k => XS.aload XJ.here hx rfl (hb hby at_75) rfl rfl k) ?_
    obtain ⟨cq38, kq38, q38a, q38b, q38c⟩ := isOf hZ eJ E_b35
    obtain ⟨_, _, ⟨T38, L38, k38, n38⟩, -, X38, ⟨Lc38, hQ38, l38, y38, z38⟩, st38⟩ := XJ.virtualBack hx (y := (⟨RC, "size", "()I"⟩ : MethodName)) (z := (⟨RC, "size", "()I"⟩ : MethodName)) hown (mvT hZ (wd59 hw)) (mvT hZ (wd60 hw)) (notFace_of_selects (args := #[]) (mvT hZ (wd62 hw))) (mvT hZ (wd62 hw)) (mvT hZ (wd61 hw)) (by decide) (backOf (W := 0) (rm9 l Z a0 hw [] b35 (0 : Int32) hJ n0 Z0 F_b35_s) hZ (wd63 hw) (wd8 hw) (by decide) (by decide)) q38a q38c (g := (mkF m 77 #[vi p1, vi p2, vi p3, vi p4, vi p5, vi p6, vi 2, vr y33, vr y34, vr b35, vi 1, vi jn, us, us, us, us, us, us] [(.ref b35)])) rfl (by rw [hml]; rfl) (Steps.refl _) (argsL := []) (rest := []) (lenOf pd11 rfl) rfl (by show 2 * 0 + _ ≤ _; exact Nat.le_of_eq rfl) (hb hby at_77) (fun _ _ => ⟨rfl, eJ, (by decide : 12 + 0 ≤ _), (by decide : 300 + 0 ≤ _)⟩)
    dsimp only [Pt.U, Pt.locs, Pt.cells, Pt.slots] at X38 l38 y38 z38 st38 hQ38
    subst l38 y38 z38
    refine Go.tr st38 ?_
    obtain ⟨rfl, N38q, e38⟩ := hQ38
    have N38 := Fr.app NJ N38q
    refine G (fun t k => XS.ifNo X38.here hx rfl (hb hby at_80) rfl ((if0 _ _).trans (teq (by decide : (0 : Int32) = (0 : Int32))).2) (XS.iconst X38.here hx rfl (hb hby at_83) (XS.goto X38.here hx rfl (pc0 := 84) (pc' := 88) rfl (hb hby at_84) (by decide) (by decide) (XS.istore X38.here hx rfl (hb hby at_88) rfl (l' := #[vi p1, vi p2, vi p3, vi p4, vi p5, vi p6, vi 2, vr y33, vr y34, vr b35, vi 1, vi jn, vi 1, us, us, us, us, us]) rfl (XS.aload X38.here hx rfl (hb hby at_90) rfl rfl k))))) ?_
    show Go _ _ _ (T38.setTop (mkF m 92 #[vi p1, vi p2, vi p3, vi p4, vi p5, vi p6, vi 2, vr y33, vr y34, vr b35, vi 1, vi jn, vi 1, us, us, us, us, us] [(.ref b35)])) _
    obtain ⟨cq39, kq39, q39a, q39b, q39c⟩ := isOf hZ e38 E_b35
    obtain ⟨_, _, ⟨T39, L39, k39, n39⟩, -, X39, ⟨Lc39, hQ39, l39, y39, z39⟩, st39⟩ := X38.virtualBack hx (y := (⟨RC, "isSmall", "()Z"⟩ : MethodName)) (z := (⟨RC, "isSmall", "()Z"⟩ : MethodName)) hown (mvT hZ (wd64 hw)) (mvT hZ (wd65 hw)) (notFace_of_selects (args := #[]) (mvT hZ (wd67 hw))) (mvT hZ (wd67 hw)) (mvT hZ (wd66 hw)) (by decide) (backOf (W := 0) (rm10 l Z a0 hw [] b35 hJ n0 Z0 F_b35_m) hZ (wd68 hw) (wd8 hw) (by decide) (by decide)) q39a q39c (g := (mkF m 92 #[vi p1, vi p2, vi p3, vi p4, vi p5, vi p6, vi 2, vr y33, vr y34, vr b35, vi 1, vi jn, vi 1, us, us, us, us, us] [(.ref b35)])) rfl (by rw [hml]; rfl) (Steps.refl _) (argsL := []) (rest := []) (lenOf pd12 rfl) rfl (by show 2 * 0 + _ ≤ _; exact Nat.le_of_eq rfl) (hb hby at_92) (fun _ _ => ⟨rfl, e38, (by decide : 12 + 0 ≤ _), (by decide : 300 + 0 ≤ _)⟩)
    dsimp only [Pt.U, Pt.locs, Pt.cells, Pt.slots] at X39 l39 y39 z39 st39 hQ39
    subst l39 y39 z39
    refine Go.tr st39 ?_
    obtain ⟨rfl, N39q, e39⟩ := hQ39
    have N39 := Fr.app N38 N39q
    refine G (fun t k => XS.istore X39.here hx rfl (hb hby at_95) rfl (l' := #[vi p1, vi p2, vi p3, vi p4, vi p5, vi p6, vi 2, vr y33, vr y34, vr b35, vi 1, vi jn, vi 1, vi 1, us, us, us, us]) rfl (XS.aload X39.here hx rfl (hb hby at_97) rfl rfl (XS.aload X39.here hx rfl (hb hby at_99) rfl rfl k))) ?_
    obtain ⟨cq40, kq40, q40a, q40b, q40c⟩ := isOf hZ e39 E_b35
    obtain ⟨_, _, ⟨T40, L40, k40, n40⟩, -, X40, ⟨Lc40, hQ40, l40, y40, z40⟩, st40⟩ := X39.virtualBack hx (y := (⟨RC, "contains", "([I)Z"⟩ : MethodName)) (z := (⟨RC, "contains", "([I)Z"⟩ : MethodName)) hown (mvT hZ (wd69 hw)) (mvT hZ (wd38 hw)) (notFace_of_selects (args := #[]) (mvT hZ (wd40 hw))) (mvT hZ (wd40 hw)) (mvT hZ (wd39 hw)) (by decide) (backOf (W := 0) (rm6_2_0 l Z a0 hw [] b35 y33 jv jk jn p3 p4 w_NI k_NI (0 : Int32) k_y33 p3 p4 hJ n0 Z0 E_b35 V_jv V_NI F_b35_a F_b35_v F_b35_s F_b35_m F_b35_i F_b35_h V_y33 hjn (Ne.symm nj_b35) ne_w_NI_b35 nj_w_NI ne_y33_b35 nj_y33 (Ne.symm ne_w_NI_y33)) hZ (wd41 hw) (wd8 hw) (by decide) (by decide)) q40a q40c (g := (mkF m 101 #[vi p1, vi p2, vi p3, vi p4, vi p5, vi p6, vi 2, vr y33, vr y34, vr b35, vi 1, vi jn, vi 1, vi 1, us, us, us, us] [(.ref y33), (.ref b35)])) rfl (by rw [hml]; rfl) (Steps.refl _) (argsL := [(.ref y33)]) (rest := []) (lenOf pd5 rfl) rfl (by show 2 * 0 + _ ≤ _; exact Nat.le_of_eq rfl) (hb hby at_101) (fun _ _ => ⟨rfl, e39, (by decide : 12 + 0 ≤ _), (by decide : 300 + 0 ≤ _)⟩)
    dsimp only [Pt.U, Pt.locs, Pt.cells, Pt.slots] at X40 l40 y40 z40 st40 hQ40
    subst l40 y40 z40
    refine Go.tr st40 ?_
    obtain ⟨rfl, N40q, e40⟩ := hQ40
    have N40 := Fr.app N39 N40q
    refine G (fun t k => XS.ifNo X40.here hx rfl (hb hby at_104) rfl ((if0 _ _).trans (teq (by decide : (0 : Int32) = (0 : Int32))).2) (XS.iconst X40.here hx rfl (hb hby at_107) k)) ?_
    show Go _ _ _ (T40.setTop (mkF m 108 #[vi p1, vi p2, vi p3, vi p4, vi p5, vi p6, vi 2, vr y33, vr y34, vr b35, vi 1, vi jn, vi 1, vi 1, us, us, us, us] [(.int 1)])) _
    refine G (fun t k => XS.goto X40.here hx rfl (pc0 := 108) (pc' := 112) rfl (hb hby at_108) (by decide) (by decide) (XS.istore X40.here hx rfl (hb hby at_112) rfl (l' := #[vi p1, vi p2, vi p3, vi p4, vi p5, vi p6, vi 2, vr y33, vr y34, vr b35, vi 1, vi jn, vi 1, vi 1, vi 1, us, us, us]) rfl (XS.aload X40.here hx rfl (hb hby at_114) rfl rfl k))) ?_
    obtain ⟨cq41, kq41, q41a, q41b, q41c⟩ := isOf hZ e40 E_b35
    obtain ⟨_, _, ⟨T41, L41, k41, n41⟩, -, X41, ⟨Lc41, hQ41, l41, y41, z41⟩, st41⟩ := X40.virtualBack hx (y := (⟨RC, "values", "()[I"⟩ : MethodName)) (z := (⟨RC, "values", "()[I"⟩ : MethodName)) hown (mvT hZ (wd47 hw)) (mvT hZ (wd48 hw)) (notFace_of_selects (args := #[]) (mvT hZ (wd50 hw))) (mvT hZ (wd50 hw)) (mvT hZ (wd49 hw)) (by decide) (backOf (W := 0) (rm7 l Z a0 hw [] b35 jv hJ n0 Z0 F_b35_v) hZ (wd51 hw) (wd8 hw) (by decide) (by decide)) q41a q41c (g := (mkF m 116 #[vi p1, vi p2, vi p3, vi p4, vi p5, vi p6, vi 2, vr y33, vr y34, vr b35, vi 1, vi jn, vi 1, vi 1, vi 1, us, us, us] [(.ref b35)])) rfl (by rw [hml]; rfl) (Steps.refl _) (argsL := []) (rest := []) (lenOf pd13 rfl) rfl (by show 2 * 0 + _ ≤ _; exact Nat.le_of_eq rfl) (hb hby at_116) (fun _ _ => ⟨rfl, e40, (by decide : 12 + 0 ≤ _), (by decide : 300 + 0 ≤ _)⟩)
    dsimp only [Pt.U, Pt.locs, Pt.cells, Pt.slots] at X41 l41 y41 z41 st41 hQ41
    subst l41 y41 z41
    refine Go.tr st41 ?_
    obtain ⟨rfl, N41q, e41⟩ := hQ41
    have N41 := Fr.app N40 N41q
    obtain ⟨LL41, X41, N41⟩ : ∃ LL, Stand p l e room_1 s m #[(.int p1), (.int p2), (.int p3), (.int p4), (.int p5), (.int p6)] below meth c T41 LL 12 300 ∧ Fr n0 LL := ⟨_, X41, N41⟩
    obtain ⟨cl42, Ar42, -, Sz42, Ng42, -, -⟩ := id V_jv
    refine G (fun t k => X41.arraylength hx (by rw [e41]; exact Ar42.1) (State.isArrayOf_alike hZ.alike Ar42.2.1) (g := (mkF m 119 #[vi p1, vi p2, vi p3, vi p4, vi p5, vi p6, vi 2, vr y33, vr y34, vr b35, vi 1, vi jn, vi 1, vi 1, vi 1, us, us, us] [(.ref jv)])) rfl rfl (hb hby at_119) _ k) ?_
    rw [len_of Sz42 Ng42]
    refine G (fun t k => XS.iload X41.here hx rfl (hb hby at_120) rfl (XS.icmpNo X41.here hx rfl (hb hby at_122) rfl (teq (rfl : jn = jn)).2 k)) ?_
    show Go _ _ _ (T41.setTop (mkF m 125 #[vi p1, vi p2, vi p3, vi p4, vi p5, vi p6, vi 2, vr y33, vr y34, vr b35, vi 1, vi jn, vi 1, vi 1, vi 1, us, us, us] [])) _
    refine G (fun t k => XS.iconst X41.here hx rfl (hb hby at_125) (XS.goto X41.here hx rfl (pc0 := 126) (pc' := 130) rfl (hb hby at_126) (by decide) (by decide) (XS.istore X41.here hx rfl (hb hby at_130) rfl (l' := #[vi p1, vi p2, vi p3, vi p4, vi p5, vi p6, vi 2, vr y33, vr y34, vr b35, vi 1, vi jn, vi 1, vi 1, vi 1, vi 1, us, us]) rfl (XS.aload X41.here hx rfl (hb hby at_132) rfl rfl (XS.aload X41.here hx rfl (hb hby at_134) rfl rfl k))))) ?_
    obtain ⟨cq43, kq43, q43a, q43b, q43c⟩ := isOf hZ e41 E_b35
    obtain ⟨_, _, ⟨T43, L43, k43, n43⟩, -, X43, ⟨Lc43, hQ43, l43, y43, z43⟩, st43⟩ := X41.virtualBack hx (y := (⟨RC, "add", "([I)Z"⟩ : MethodName)) (z := (⟨RC, "add", "([I)Z"⟩ : MethodName)) hown (mvT hZ (wd32 hw)) (mvT hZ (wd33 hw)) (notFace_of_selects (args := #[]) (mvT hZ (wd35 hw))) (mvT hZ (wd35 hw)) (mvT hZ (wd34 hw)) (by decide) (backOf (W := 0) (rm5_2_N l Z a0 hw [] b35 y33 jv jk jn p3 p4 w_NI k_NI (0 : Int32) k_y33 p3 p4 hJ n0 Z0 E_b35 V_jv V_NI F_b35_a F_b35_v F_b35_s F_b35_m F_b35_i F_b35_h V_y33 hjn (Ne.symm nj_b35) ne_w_NI_b35 nj_w_NI ne_y33_b35 nj_y33 (Ne.symm ne_w_NI_y33) g_jv g_b35) hZ (wd36 hw) (wd8 hw) (by decide) (by decide)) q43a q43c (g := (mkF m 136 #[vi p1, vi p2, vi p3, vi p4, vi p5, vi p6, vi 2, vr y33, vr y34, vr b35, vi 1, vi jn, vi 1, vi 1, vi 1, vi 1, us, us] [(.ref y33), (.ref b35)])) rfl (by rw [hml]; rfl) (Steps.refl _) (argsL := [(.ref y33)]) (rest := []) (lenOf pd5 rfl) rfl (by show 2 * 0 + _ ≤ _; exact Nat.le_of_eq rfl) (hb hby at_136) (fun _ _ => ⟨rfl, e41, (by decide : 12 + 0 ≤ _), (by decide : 300 + 0 ≤ _)⟩)
    dsimp only [Pt.U, Pt.locs, Pt.cells, Pt.slots] at X43 l43 y43 z43 st43 hQ43
    subst l43 y43 z43
    have E_b35_pre := E_b35
    have F_b35_size_pre := F_b35_s
    have F_b35_members_pre := F_b35_m
    have F_b35_holdingAny_pre := F_b35_h
    have F_b35_indexes_pre := F_b35_i
    have F_b35_values_pre := F_b35_v
    have F_b35_arity_pre := F_b35_a
    have V_jv_pre := V_jv
    obtain ⟨h43, e43⟩ : ∃ z, T43.heap = z := ⟨_, rfl⟩
    rw [e43] at hQ43
    obtain ⟨zh43, rfl, N43q, K43, Q43_0, Q43_1, Q43_2, Q43_3, Q43_4, Q43_5, Q43_6, Q43_7⟩ := hQ43
    refine Go.tr st43 ?_
    replace V_NI := V_NI.keep K43 (ninS nj_w_NI (ninS ne_w_NI_b35 nin0))
    replace S_NI := sta_keep S_NI K43 (allS (arv_ns V_jv_pre) (allS (exa_ns E_b35_pre) all0))
    replace V_y33 := V_y33.keep K43 (ninS nj_y33 (ninS ne_y33_b35 nin0))
    replace V_y34 := V_y34.keep K43 (ninS nj_y34 (ninS ne_y34_b35 nin0))
    replace E_b35 := E_b35.keep K43
    replace Z0 := Nat.le_trans Z0 K43.1
    replace K0 := K0.trans K43 (allS (Or.inr sz_jv) (allS (Or.inr sz_b35) all0))
    have E_b35 := Q43_0
    have F_b35_a := Q43_1
    have F_b35_v := Q43_2
    have F_b35_s := Q43_3
    have F_b35_m := Q43_4
    have F_b35_i := Q43_5
    have F_b35_h := Q43_6
    have V_jv := Q43_7
    have N43 := Fr.app N41 N43q
    refine G (fun t k => XS.istore X43.here hx rfl (hb hby at_139) rfl (l' := #[vi p1, vi p2, vi p3, vi p4, vi p5, vi p6, vi 2, vr y33, vr y34, vr b35, vi 1, vi jn, vi 1, vi 1, vi 1, vi 1, vi 1, us]) rfl k) ?_
    show Go _ _ _ (T43.setTop (mkF m 141 #[vi p1, vi p2, vi p3, vi p4, vi p5, vi p6, vi 2, vr y33, vr y34, vr b35, vi 1, vi jn, vi 1, vi 1, vi 1, vi 1, vi 1, us] [])) _
    refine G (fun t k => XS.aload X43.here hx rfl (hb hby at_141) rfl rfl (XS.aload X43.here hx rfl (hb hby at_143) rfl rfl k)) ?_
    obtain ⟨cq44, kq44, q44a, q44b, q44c⟩ := isOf hZ e43 E_b35
    obtain ⟨_, _, ⟨T44, L44, k44, n44⟩, -, X44, ⟨Lc44, hQ44, l44, y44, z44⟩, st44⟩ := X43.virtualBack hx (y := (⟨RC, "contains", "([I)Z"⟩ : MethodName)) (z := (⟨RC, "contains", "([I)Z"⟩ : MethodName)) hown (mvT hZ (wd69 hw)) (mvT hZ (wd38 hw)) (notFace_of_selects (args := #[]) (mvT hZ (wd40 hw))) (mvT hZ (wd40 hw)) (mvT hZ (wd39 hw)) (by decide) (backOf (W := 0) (rm6_2_1 l Z a0 hw [] b35 y34 jv jk jn p3 p4 w_NI k_NI zh43 k_y34 p6 p4 h43 n0 Z0 E_b35 V_jv V_NI F_b35_a F_b35_v F_b35_s F_b35_m F_b35_i F_b35_h V_y34 hjn (Ne.symm nj_b35) ne_w_NI_b35 nj_w_NI ne_y34_b35 nj_y34 (Ne.symm ne_w_NI_y34)) hZ (wd41 hw) (wd8 hw) (by decide) (by decide)) q44a q44c (g := (mkF m 145 #[vi p1, vi p2, vi p3, vi p4, vi p5, vi p6, vi 2, vr y33, vr y34, vr b35, vi 1, vi jn, vi 1, vi 1, vi 1, vi 1, vi 1, us] [(.ref y34), (.ref b35)])) rfl (by rw [hml]; rfl) (Steps.refl _) (argsL := [(.ref y34)]) (rest := []) (lenOf pd5 rfl) rfl (by show 2 * 0 + _ ≤ _; exact Nat.le_of_eq rfl) (hb hby at_145) (fun _ _ => ⟨rfl, e43, (by decide : 12 + 0 ≤ _), (by decide : 300 + 0 ≤ _)⟩)
    dsimp only [Pt.U, Pt.locs, Pt.cells, Pt.slots] at X44 l44 y44 z44 st44 hQ44
    subst l44 y44 z44
    refine Go.tr st44 ?_
    obtain ⟨rfl, N44q, e44⟩ := hQ44
    have N44 := Fr.app N43 N44q
    show Go _ _ _ (T44.setTop (mkF m 148 #[vi p1, vi p2, vi p3, vi p4, vi p5, vi p6, vi 2, vr y33, vr y34, vr b35, vi 1, vi jn, vi 1, vi 1, vi 1, vi 1, vi 1, us] [(.int (f6_2_1 p3 p4 p6 p4))])) _
    by_cases hc45 : p3 = p6
    ·rw [show (f6_2_1 p3 p4 p6 p4) = (1 : Int32) from by unfold f6_2_1; simp only [if_pos hc45, if_pos (rfl : p4 = p4), if_true, if_false]]
     show Go _ _ _ (T44.setTop (mkF m 148 #[vi p1, vi p2, vi p3, vi p4, vi p5, vi p6, vi 2, vr y33, vr y34, vr b35, vi 1, vi jn, vi 1, vi 1, vi 1, vi 1, vi 1, us] [(.int 1)])) _
     refine G (fun t k => XS.iload X44.here hx rfl (hb hby at_148) rfl (XS.iloadN X44.here hx rfl (hb hby at_150) rfl (XS.icmpNo X44.here hx rfl (hb hby at_151) rfl (teq (Eq.symm hc45)).2 (XS.iconst X44.here hx rfl (hb hby at_154) (XS.goto X44.here hx rfl (pc0 := 155) (pc' := 159) rfl (hb hby at_155) (by decide) (by decide) (XS.icmpNo X44.here hx rfl (hb hby at_159) rfl (teq (by decide : (1 : Int32) = (1 : Int32))).2 k)))))) ?_
     refine G (fun t k => XS.iconst X44.here hx rfl (hb hby at_162) k) ?_
     show Go _ _ _ (T44.setTop (mkF m 163 #[vi p1, vi p2, vi p3, vi p4, vi p5, vi p6, vi 2, vr y33, vr y34, vr b35, vi 1, vi jn, vi 1, vi 1, vi 1, vi 1, vi 1, us] [(.int 1)])) _
     refine G (fun t k => XS.goto X44.here hx rfl (pc0 := 163) (pc' := 167) rfl (hb hby at_163) (by decide) (by decide) (XS.istore X44.here hx rfl (hb hby at_167) rfl (l' := #[vi p1, vi p2, vi p3, vi p4, vi p5, vi p6, vi 2, vr y33, vr y34, vr b35, vi 1, vi jn, vi 1, vi 1, vi 1, vi 1, vi 1, vi 1]) rfl (XS.iload X44.here hx rfl (hb hby at_169) rfl (XS.ifNo X44.here hx rfl (hb hby at_171) rfl ((if0 _ _).trans (feq (by decide : ¬ ((1 : Int32) = (0 : Int32)))).1) (XS.iload X44.here hx rfl (hb hby at_174) rfl (XS.ifNo X44.here hx rfl (hb hby at_176) rfl ((if0 _ _).trans (feq (by decide : ¬ ((1 : Int32) = (0 : Int32)))).1) k)))))) ?_
     refine G (fun t k => XS.iload X44.here hx rfl (hb hby at_179) rfl k) ?_
     show Go _ _ _ (T44.setTop (mkF m 181 #[vi p1, vi p2, vi p3, vi p4, vi p5, vi p6, vi 2, vr y33, vr y34, vr b35, vi 1, vi jn, vi 1, vi 1, vi 1, vi 1, vi 1, vi 1] [(.int 1)])) _
     refine G (fun t k => XS.ifNo X44.here hx rfl (hb hby at_181) rfl ((if0 _ _).trans (feq (by decide : ¬ ((1 : Int32) = (0 : Int32)))).1) (XS.iload X44.here hx rfl (hb hby at_184) rfl (XS.ifNo X44.here hx rfl (hb hby at_186) rfl ((if0 _ _).trans (feq (by decide : ¬ ((1 : Int32) = (0 : Int32)))).1) (XS.iload X44.here hx rfl (hb hby at_189) rfl (XS.ifNo X44.here hx rfl (hb hby at_191) rfl ((if0 _ _).trans (feq (by decide : ¬ ((1 : Int32) = (0 : Int32)))).1) (XS.iload X44.here hx rfl (hb hby at_194) rfl k)))))) ?_
     refine G (fun t k => XS.ifNo X44.here hx rfl (hb hby at_196) rfl ((if0 _ _).trans (feq (by decide : ¬ ((1 : Int32) = (0 : Int32)))).1) k) ?_
     show Go _ _ _ (T44.setTop (mkF m 199 #[vi p1, vi p2, vi p3, vi p4, vi p5, vi p6, vi 2, vr y33, vr y34, vr b35, vi 1, vi jn, vi 1, vi 1, vi 1, vi 1, vi 1, vi 1] [])) _
     refine G (fun t k => XS.iload X44.here hx rfl (hb hby at_199) rfl (XS.ifNo X44.here hx rfl (hb hby at_201) rfl ((if0 _ _).trans (feq (by decide : ¬ ((1 : Int32) = (0 : Int32)))).1) (XS.iconst X44.here hx rfl (hb hby at_204) (XS.goto X44.here hx rfl (pc0 := 205) (pc' := 209) rfl (hb hby at_205) (by decide) (by decide) k)))) ?_
     obtain ⟨fs, hr, hrun, hended, hW, hsame⟩ := X44.leave (v := some (.int (1 : Int32))) (fun h => by rw [Bd.returns] at h; cases h)
     refine Go.fin (retN X44 hx (t := .boolean) Bd.returns (by simp) (hb hby at_209) hr) hrun hended ⟨_, _, rfl, ?_, ⟨_, rfl⟩, hW, hsame.mono (by decide) (by decide)⟩
     show Q0 Z p1 p2 p3 p4 p5 p6 w_NI k_NI h0 n0 _ T44.heap _
     rw [e44]
     exact ⟨rfl, N44⟩
    ·rw [show (f6_2_1 p3 p4 p6 p4) = (0 : Int32) from by unfold f6_2_1; simp only [if_neg hc45, if_true, if_false]]
     show Go _ _ _ (T44.setTop (mkF m 148 #[vi p1, vi p2, vi p3, vi p4, vi p5, vi p6, vi 2, vr y33, vr y34, vr b35, vi 1, vi jn, vi 1, vi 1, vi 1, vi 1, vi 1, us] [(.int 0)])) _
     refine G (fun t k => XS.iload X44.here hx rfl (hb hby at_148) rfl (XS.iloadN X44.here hx rfl (hb hby at_150) rfl (XS.icmpYes X44.here hx rfl (pc0 := 151) (pc' := 158) rfl (hb hby at_151) rfl (feq (show ¬ (p6 = p3) from fun z => hc45 z.symm)).2 (by decide) (by decide) (XS.iconst X44.here hx rfl (hb hby at_158) (XS.icmpNo X44.here hx rfl (hb hby at_159) rfl (teq (by decide : (0 : Int32) = (0 : Int32))).2 (XS.iconst X44.here hx rfl (hb hby at_162) k)))))) ?_
     refine G (fun t k => XS.goto X44.here hx rfl (pc0 := 163) (pc' := 167) rfl (hb hby at_163) (by decide) (by decide) k) ?_
     show Go _ _ _ (T44.setTop (mkF m 167 #[vi p1, vi p2, vi p3, vi p4, vi p5, vi p6, vi 2, vr y33, vr y34, vr b35, vi 1, vi jn, vi 1, vi 1, vi 1, vi 1, vi 1, us] [(.int 1)])) _
     refine G (fun t k => XS.istore X44.here hx rfl (hb hby at_167) rfl (l' := #[vi p1, vi p2, vi p3, vi p4, vi p5, vi p6, vi 2, vr y33, vr y34, vr b35, vi 1, vi jn, vi 1, vi 1, vi 1, vi 1, vi 1, vi 1]) rfl (XS.iload X44.here hx rfl (hb hby at_169) rfl (XS.ifNo X44.here hx rfl (hb hby at_171) rfl ((if0 _ _).trans (feq (by decide : ¬ ((1 : Int32) = (0 : Int32)))).1) (XS.iload X44.here hx rfl (hb hby at_174) rfl (XS.ifNo X44.here hx rfl (hb hby at_176) rfl ((if0 _ _).trans (feq (by decide : ¬ ((1 : Int32) = (0 : Int32)))).1) (XS.iload X44.here hx rfl (hb hby at_179) rfl k)))))) ?_
     refine G (fun t k => XS.ifNo X44.here hx rfl (hb hby at_181) rfl ((if0 _ _).trans (feq (by decide : ¬ ((1 : Int32) = (0 : Int32)))).1) k) ?_
     show Go _ _ _ (T44.setTop (mkF m 184 #[vi p1, vi p2, vi p3, vi p4, vi p5, vi p6, vi 2, vr y33, vr y34, vr b35, vi 1, vi jn, vi 1, vi 1, vi 1, vi 1, vi 1, vi 1] [])) _
     refine G (fun t k => XS.iload X44.here hx rfl (hb hby at_184) rfl (XS.ifNo X44.here hx rfl (hb hby at_186) rfl ((if0 _ _).trans (feq (by decide : ¬ ((1 : Int32) = (0 : Int32)))).1) (XS.iload X44.here hx rfl (hb hby at_189) rfl (XS.ifNo X44.here hx rfl (hb hby at_191) rfl ((if0 _ _).trans (feq (by decide : ¬ ((1 : Int32) = (0 : Int32)))).1) (XS.iload X44.here hx rfl (hb hby at_194) rfl (XS.ifNo X44.here hx rfl (hb hby at_196) rfl ((if0 _ _).trans (feq (by decide : ¬ ((1 : Int32) = (0 : Int32)))).1) k)))))) ?_
     refine G (fun t k => XS.iload X44.here hx rfl (hb hby at_199) rfl k) ?_
     show Go _ _ _ (T44.setTop (mkF m 201 #[vi p1, vi p2, vi p3, vi p4, vi p5, vi p6, vi 2, vr y33, vr y34, vr b35, vi 1, vi jn, vi 1, vi 1, vi 1, vi 1, vi 1, vi 1] [(.int 1)])) _
     refine G (fun t k => XS.ifNo X44.here hx rfl (hb hby at_201) rfl ((if0 _ _).trans (feq (by decide : ¬ ((1 : Int32) = (0 : Int32)))).1) (XS.iconst X44.here hx rfl (hb hby at_204) (XS.goto X44.here hx rfl (pc0 := 205) (pc' := 209) rfl (hb hby at_205) (by decide) (by decide) k))) ?_
     obtain ⟨fs, hr, hrun, hended, hW, hsame⟩ := X44.leave (v := some (.int (1 : Int32))) (fun h => by rw [Bd.returns] at h; cases h)
     refine Go.fin (retN X44 hx (t := .boolean) Bd.returns (by simp) (hb hby at_209) hr) hrun hended ⟨_, _, rfl, ?_, ⟨_, rfl⟩, hW, hsame.mono (by decide) (by decide)⟩
     show Q0 Z p1 p2 p3 p4 p5 p6 w_NI k_NI h0 n0 _ T44.heap _
     rw [e44]
     exact ⟨rfl, N44⟩
   show Go _ _ _ (T36.setTop (mkF m 50 #[vi p1, vi p2, vi p3, vi p4, vi p5, vi p6, vi 2, vr y33, vr y34, vr b35, us, us, us, us, us, us, us, us] [(.int (p2 &&& (15 : Int32))), (.ref b35)])) _
   by_cases hc46 : (8 : Int32) < (p2 &&& (15 : Int32))
   ·show Go _ _ _ (T36.setTop (mkF m 50 #[vi p1, vi p2, vi p3, vi p4, vi p5, vi p6, vi 2, vr y33, vr y34, vr b35, us, us, us, us, us, us, us, us] [(.int (p2 &&& (15 : Int32))), (.ref b35)])) _
    obtain ⟨cq47, kq47, q47a, q47b, q47c⟩ := isOf hZ e36 E_b35
    obtain ⟨_, _, ⟨T47, L47, k47, n47⟩, -, X47, ⟨Lc47, hQ47, l47, y47, z47⟩, st47⟩ := X36.virtualBack hx (y := (⟨RC, "reserve", "(I)V"⟩ : MethodName)) (z := (⟨RC, "reserve", "(I)V"⟩ : MethodName)) hown (mvT hZ (wd23 hw)) (mvT hZ (wd24 hw)) (notFace_of_selects (args := #[]) (mvT hZ (wd26 hw))) (mvT hZ (wd26 hw)) (mvT hZ (wd25 hw)) (by decide) (backOf (W := 0) (rm4_2_2 l Z a0 hw [] b35 (p2 &&& (15 : Int32)) y36 k_y36 w_NI k_NI (0 : Int32) h36 n0 Z0 E_b35 V_y36 V_NI F_b35_a F_b35_v F_b35_s F_b35_m F_b35_i F_b35_h (Ne.symm ne_b35_y36) ne_w_NI_b35 ne_w_NI_y36 (own_15 _) (own_48 hc46) hc46 g_b35) hZ (wd27 hw) (wd8 hw) (by decide) (by decide)) q47a q47c (g := (mkF m 50 #[vi p1, vi p2, vi p3, vi p4, vi p5, vi p6, vi 2, vr y33, vr y34, vr b35, us, us, us, us, us, us, us, us] [(.int (p2 &&& (15 : Int32))), (.ref b35)])) rfl (by rw [hml]; rfl) (Steps.refl _) (argsL := [(.int (p2 &&& (15 : Int32)))]) (rest := []) (lenOf pd1 rfl) rfl (by show 2 * 0 + _ ≤ _; exact Nat.le_of_eq rfl) (hb hby at_50) (fun _ _ => ⟨rfl, e36, (by decide : 4 + 5 ≤ _), (by decide : 18 + 196 ≤ _)⟩)
    dsimp only [Pt.U, Pt.locs, Pt.cells, Pt.slots] at X47 l47 y47 z47 st47 hQ47
    subst l47 y47 z47
    have E_b35_pre := E_b35
    have F_b35_size_pre := F_b35_s
    have F_b35_members_pre := F_b35_m
    have F_b35_holdingAny_pre := F_b35_h
    have F_b35_indexes_pre := F_b35_i
    have F_b35_values_pre := F_b35_v
    have F_b35_arity_pre := F_b35_a
    obtain ⟨h47, e47⟩ : ∃ z, T47.heap = z := ⟨_, rfl⟩
    rw [e47] at hQ47
    obtain ⟨y47, y47a, y47b, y47c, y47d, k_y47, k_y47b, k_y47c, k_y47d, rfl, N47q, K47, ng_y47, sz0_y47, ng_y47a, sz0_y47a, ng_y47b, sz0_y47b, ng_y47c, sz0_y47c, ng_y47d, sz0_y47d, nef_y47_y47a, nef_y47_y47b, nef_y47_y47c, nef_y47_y47d, nef_y47a_y47b, nef_y47a_y47c, nef_y47a_y47d, nef_y47b_y47c, nef_y47b_y47d, nef_y47c_y47d, Q47_0, Q47_1, Q47_2, Q47_3, Q47_4, Q47_5, Q47_6, Q47_7, Q47_8, Q47_9, Q47_10, Q47_11, Q47_12, Q47_13, Q47_14, Q47_15, Q47_16⟩ := hQ47
    refine Go.tr st47 ?_
    have ne_w_NI_y47 : w_NI ≠ y47 := Nat.ne_of_lt (Nat.lt_of_lt_of_le V_NI.lt sz0_y47)
    have ne_y33_y47 : y33 ≠ y47 := Nat.ne_of_lt (Nat.lt_of_lt_of_le V_y33.lt sz0_y47)
    have ne_y34_y47 : y34 ≠ y47 := Nat.ne_of_lt (Nat.lt_of_lt_of_le V_y34.lt sz0_y47)
    have ne_b35_y47 : b35 ≠ y47 := Nat.ne_of_lt (Nat.lt_of_lt_of_le E_b35.lt sz0_y47)
    have ne_y36_y47 : y36 ≠ y47 := Nat.ne_of_lt (Nat.lt_of_lt_of_le V_y36.lt sz0_y47)
    have g_y47 : n0 ≤ y47 := ng_y47
    have sz_y47 : h0.size ≤ y47 := Nat.le_trans K0.1 sz0_y47
    have ne_w_NI_y47a : w_NI ≠ y47a := Nat.ne_of_lt (Nat.lt_of_lt_of_le V_NI.lt sz0_y47a)
    have ne_y33_y47a : y33 ≠ y47a := Nat.ne_of_lt (Nat.lt_of_lt_of_le V_y33.lt sz0_y47a)
    have ne_y34_y47a : y34 ≠ y47a := Nat.ne_of_lt (Nat.lt_of_lt_of_le V_y34.lt sz0_y47a)
    have ne_b35_y47a : b35 ≠ y47a := Nat.ne_of_lt (Nat.lt_of_lt_of_le E_b35.lt sz0_y47a)
    have ne_y36_y47a : y36 ≠ y47a := Nat.ne_of_lt (Nat.lt_of_lt_of_le V_y36.lt sz0_y47a)
    have g_y47a : n0 ≤ y47a := ng_y47a
    have sz_y47a : h0.size ≤ y47a := Nat.le_trans K0.1 sz0_y47a
    have ne_w_NI_y47b : w_NI ≠ y47b := Nat.ne_of_lt (Nat.lt_of_lt_of_le V_NI.lt sz0_y47b)
    have ne_y33_y47b : y33 ≠ y47b := Nat.ne_of_lt (Nat.lt_of_lt_of_le V_y33.lt sz0_y47b)
    have ne_y34_y47b : y34 ≠ y47b := Nat.ne_of_lt (Nat.lt_of_lt_of_le V_y34.lt sz0_y47b)
    have ne_b35_y47b : b35 ≠ y47b := Nat.ne_of_lt (Nat.lt_of_lt_of_le E_b35.lt sz0_y47b)
    have ne_y36_y47b : y36 ≠ y47b := Nat.ne_of_lt (Nat.lt_of_lt_of_le V_y36.lt sz0_y47b)
    have g_y47b : n0 ≤ y47b := ng_y47b
    have sz_y47b : h0.size ≤ y47b := Nat.le_trans K0.1 sz0_y47b
    have ne_w_NI_y47c : w_NI ≠ y47c := Nat.ne_of_lt (Nat.lt_of_lt_of_le V_NI.lt sz0_y47c)
    have ne_y33_y47c : y33 ≠ y47c := Nat.ne_of_lt (Nat.lt_of_lt_of_le V_y33.lt sz0_y47c)
    have ne_y34_y47c : y34 ≠ y47c := Nat.ne_of_lt (Nat.lt_of_lt_of_le V_y34.lt sz0_y47c)
    have ne_b35_y47c : b35 ≠ y47c := Nat.ne_of_lt (Nat.lt_of_lt_of_le E_b35.lt sz0_y47c)
    have ne_y36_y47c : y36 ≠ y47c := Nat.ne_of_lt (Nat.lt_of_lt_of_le V_y36.lt sz0_y47c)
    have g_y47c : n0 ≤ y47c := ng_y47c
    have sz_y47c : h0.size ≤ y47c := Nat.le_trans K0.1 sz0_y47c
    have ne_w_NI_y47d : w_NI ≠ y47d := Nat.ne_of_lt (Nat.lt_of_lt_of_le V_NI.lt sz0_y47d)
    have ne_y33_y47d : y33 ≠ y47d := Nat.ne_of_lt (Nat.lt_of_lt_of_le V_y33.lt sz0_y47d)
    have ne_y34_y47d : y34 ≠ y47d := Nat.ne_of_lt (Nat.lt_of_lt_of_le V_y34.lt sz0_y47d)
    have ne_b35_y47d : b35 ≠ y47d := Nat.ne_of_lt (Nat.lt_of_lt_of_le E_b35.lt sz0_y47d)
    have ne_y36_y47d : y36 ≠ y47d := Nat.ne_of_lt (Nat.lt_of_lt_of_le V_y36.lt sz0_y47d)
    have g_y47d : n0 ≤ y47d := ng_y47d
    have sz_y47d : h0.size ≤ y47d := Nat.le_trans K0.1 sz0_y47d
    replace V_NI := V_NI.keep K47 (ninS ne_w_NI_b35 nin0)
    replace S_NI := sta_keep S_NI K47 (allS (exa_ns E_b35_pre) all0)
    replace V_y33 := V_y33.keep K47 (ninS ne_y33_b35 nin0)
    replace V_y34 := V_y34.keep K47 (ninS ne_y34_b35 nin0)
    replace E_b35 := E_b35.keep K47
    replace V_y36 := V_y36.keep K47 (ninS (Ne.symm ne_b35_y36) nin0)
    replace Z0 := Nat.le_trans Z0 K47.1
    replace K0 := K0.trans K47 (allS (Or.inr sz_b35) all0)
    have E_b35 := Q47_0
    have F_b35_a := Q47_1
    have F_b35_v := Q47_2
    have F_b35_s := Q47_3
    have F_b35_m := Q47_4
    have F_b35_i := Q47_5
    have F_b35_h := Q47_6
    have V_y47 := Q47_7
    have E_y47a := Q47_8
    have V_y47b := Q47_9
    have F_y47a_keys := Q47_10
    have F_y47a_this_0 := Q47_11
    have F_y47a_p := Q47_12
    have F_y47a_l := Q47_13
    have F_y47a_next := Q47_14
    have V_y47c := Q47_15
    have V_y47d := Q47_16
    have N47 := Fr.app N36 N47q
    obtain ⟨LL47, X47, N47⟩ : ∃ LL, Stand p l e room_1 s m #[(.int p1), (.int p2), (.int p3), (.int p4), (.int p5), (.int p6)] below meth c T47 LL 9 214 ∧ Fr n0 LL := ⟨_, X47, N47⟩
    show Go _ _ _ (T47.setTop (mkF m 53 #[vi p1, vi p2, vi p3, vi p4, vi p5, vi p6, vi 2, vr y33, vr y34, vr b35, us, us, us, us, us, us, us, us] [])) _
    replace V_y47 : Arv Z h47 y47 k_y47 .int ((p2 &&& (15 : Int32)) * (2 : Int32)) [(.int (0 : Int32)), (.int (0 : Int32))] (.int (0 : Int32)) := V_y47.pad (pad_rep [] (.int (0 : Int32)) 2)
    refine G (fun t k => XS.aload X47.here hx rfl (hb hby at_53) rfl rfl (XS.aload X47.here hx rfl (hb hby at_55) rfl rfl k)) ?_
    obtain ⟨cq48, kq48, q48a, q48b, q48c⟩ := isOf hZ e47 E_b35
    obtain ⟨_, _, ⟨T48, L48, k48, n48⟩, -, X48, ⟨Lc48, hQ48, l48, y48, z48⟩, st48⟩ := X47.virtualBack hx (y := (⟨RC, "add", "([I)Z"⟩ : MethodName)) (z := (⟨RC, "add", "([I)Z"⟩ : MethodName)) hown (mvT hZ (wd32 hw)) (mvT hZ (wd33 hw)) (notFace_of_selects (args := #[]) (mvT hZ (wd35 hw))) (mvT hZ (wd35 hw)) (mvT hZ (wd34 hw)) (by decide) (backOf (W := 0) (rm5_2_R l Z a0 hw [] b35 y33 y47 k_y47 ((p2 &&& (15 : Int32)) * (2 : Int32)) (0 : Int32) (0 : Int32) w_NI k_NI (0 : Int32) k_y33 p3 p4 y47a y47b y47c y47d k_y47b k_y47c k_y47d h47 n0 Z0 E_b35 V_y47 V_NI F_b35_a F_b35_v F_b35_s F_b35_m F_b35_i F_b35_h V_y33 E_y47a F_y47a_p F_y47a_l F_y47a_next F_y47a_keys V_y47b V_y47c V_y47d F_y47a_this_0 (own_ge (own_big _ 2 8 2 rfl rfl (by decide) (own_15 _) (own_48 hc46))) (Ne.symm ne_b35_y47) ne_w_NI_b35 ne_w_NI_y47 ne_y33_b35 ne_y33_y47 (Ne.symm ne_w_NI_y33) (Ne.symm ne_b35_y47a) (Ne.symm nef_y47_y47a) (Ne.symm ne_w_NI_y47a) (Ne.symm ne_y33_y47a) (Ne.symm ne_b35_y47b) (Ne.symm nef_y47_y47b) (Ne.symm ne_w_NI_y47b) (Ne.symm ne_y33_y47b) (Ne.symm nef_y47a_y47b) (Ne.symm ne_b35_y47c) (Ne.symm nef_y47_y47c) (Ne.symm ne_w_NI_y47c) (Ne.symm ne_y33_y47c) (Ne.symm nef_y47a_y47c) (Ne.symm nef_y47b_y47c) (Ne.symm ne_b35_y47d) (Ne.symm nef_y47_y47d) (Ne.symm ne_w_NI_y47d) (Ne.symm ne_y33_y47d) (Ne.symm nef_y47a_y47d) (Ne.symm nef_y47b_y47d) (Ne.symm nef_y47c_y47d) g_y47 g_y47d g_y47c g_y47a g_b35) hZ (wd36 hw) (wd8 hw) (by decide) (by decide)) q48a q48c (g := (mkF m 57 #[vi p1, vi p2, vi p3, vi p4, vi p5, vi p6, vi 2, vr y33, vr y34, vr b35, us, us, us, us, us, us, us, us] [(.ref y33), (.ref b35)])) rfl (by rw [hml]; rfl) (Steps.refl _) (argsL := [(.ref y33)]) (rest := []) (lenOf pd5 rfl) rfl (by show 2 * 0 + _ ≤ _; exact Nat.le_of_eq rfl) (hb hby at_57) (fun _ _ => ⟨rfl, e47, (by decide : 9 + 0 ≤ _), (by decide : 214 + 0 ≤ _)⟩)
    dsimp only [Pt.U, Pt.locs, Pt.cells, Pt.slots] at X48 l48 y48 z48 st48 hQ48
    subst l48 y48 z48
    have E_b35_pre := E_b35
    have F_b35_arity_pre := F_b35_a
    have F_b35_values_pre := F_b35_v
    have F_b35_size_pre := F_b35_s
    have F_b35_members_pre := F_b35_m
    have F_b35_indexes_pre := F_b35_i
    have F_b35_holdingAny_pre := F_b35_h
    have V_y47_pre := V_y47
    have E_y47a_pre := E_y47a
    have F_y47a_keys_pre := F_y47a_keys
    have F_y47a_this_0_pre := F_y47a_this_0
    have F_y47a_positions_pre := F_y47a_p
    have F_y47a_slots_pre := F_y47a_l
    have F_y47a_next_pre := F_y47a_next
    have V_y47c_pre := V_y47c
    have V_y47d_pre := V_y47d
    obtain ⟨h48, e48⟩ : ∃ z, T48.heap = z := ⟨_, rfl⟩
    rw [e48] at hQ48
    obtain ⟨zh48, rfl, N48q, K48, Q48_0, Q48_1, Q48_2, Q48_3, Q48_4, Q48_5, Q48_6, Q48_7⟩ := hQ48
    refine Go.tr st48 ?_
    replace V_NI := V_NI.keep K48 (ninS ne_w_NI_y47 (ninS ne_w_NI_y47d (ninS ne_w_NI_y47c (ninS ne_w_NI_y47a (ninS ne_w_NI_b35 nin0)))))
    replace S_NI := sta_keep S_NI K48 (allS (arv_ns V_y47_pre) (allS (arv_ns V_y47d_pre) (allS (arv_ns V_y47c_pre) (allS (exa_ns E_y47a_pre) (allS (exa_ns E_b35_pre) all0)))))
    replace V_y33 := V_y33.keep K48 (ninS ne_y33_y47 (ninS ne_y33_y47d (ninS ne_y33_y47c (ninS ne_y33_y47a (ninS ne_y33_b35 nin0)))))
    replace V_y34 := V_y34.keep K48 (ninS ne_y34_y47 (ninS ne_y34_y47d (ninS ne_y34_y47c (ninS ne_y34_y47a (ninS ne_y34_b35 nin0)))))
    replace E_b35 := E_b35.keep K48
    replace V_y36 := V_y36.keep K48 (ninS ne_y36_y47 (ninS ne_y36_y47d (ninS ne_y36_y47c (ninS ne_y36_y47a (ninS (Ne.symm ne_b35_y36) nin0)))))
    replace E_y47a := E_y47a.keep K48
    replace V_y47b := V_y47b.keep K48 (ninS (Ne.symm nef_y47_y47b) (ninS nef_y47b_y47d (ninS nef_y47b_y47c (ninS (Ne.symm nef_y47a_y47b) (ninS (Ne.symm ne_b35_y47b) nin0)))))
    replace Z0 := Nat.le_trans Z0 K48.1
    replace K0 := K0.trans K48 (allS (Or.inr sz_y47) (allS (Or.inr sz_y47d) (allS (Or.inr sz_y47c) (allS (Or.inr sz_y47a) (allS (Or.inr sz_b35) all0)))))
    have E_b35 := Q48_0
    have F_b35_a := Q48_1
    have F_b35_v := Q48_2
    have F_b35_s := Q48_3
    have F_b35_m := Q48_4
    have F_b35_i := Q48_5
    have F_b35_h := Q48_6
    have V_y47 := Q48_7
    have N48 := Fr.app N47 N48q
    refine G (fun t k => XS.istore X48.here hx rfl (hb hby at_60) rfl (l' := #[vi p1, vi p2, vi p3, vi p4, vi p5, vi p6, vi 2, vr y33, vr y34, vr b35, vi 1, us, us, us, us, us, us, us]) rfl (XS.aload X48.here hx rfl (hb hby at_62) rfl rfl k)) ?_
    obtain ⟨cq49, kq49, q49a, q49b, q49c⟩ := isOf hZ e48 E_b35
    obtain ⟨_, _, ⟨T49, L49, k49, n49⟩, -, X49, ⟨Lc49, hQ49, l49, y49, z49⟩, st49⟩ := X48.virtualBack hx (y := (⟨RC, "values", "()[I"⟩ : MethodName)) (z := (⟨RC, "values", "()[I"⟩ : MethodName)) hown (mvT hZ (wd47 hw)) (mvT hZ (wd48 hw)) (notFace_of_selects (args := #[]) (mvT hZ (wd50 hw))) (mvT hZ (wd50 hw)) (mvT hZ (wd49 hw)) (by decide) (backOf (W := 0) (rm7 l Z a0 hw [] b35 y47 h48 n0 Z0 F_b35_v) hZ (wd51 hw) (wd8 hw) (by decide) (by decide)) q49a q49c (g := (mkF m 64 #[vi p1, vi p2, vi p3, vi p4, vi p5, vi p6, vi 2, vr y33, vr y34, vr b35, vi 1, us, us, us, us, us, us, us] [(.ref b35)])) rfl (by rw [hml]; rfl) (Steps.refl _) (argsL := []) (rest := []) (lenOf pd13 rfl) rfl (by show 2 * 0 + _ ≤ _; exact Nat.le_of_eq rfl) (hb hby at_64) (fun _ _ => ⟨rfl, e48, (by decide : 9 + 0 ≤ _), (by decide : 214 + 0 ≤ _)⟩)
    dsimp only [Pt.U, Pt.locs, Pt.cells, Pt.slots] at X49 l49 y49 z49 st49 hQ49
    subst l49 y49 z49
    refine Go.tr st49 ?_
    obtain ⟨rfl, N49q, e49⟩ := hQ49
    have N49 := Fr.app N48 N49q
    obtain ⟨cl50, Ar50, -, Sz50, Ng50, -, -⟩ := id V_y47
    refine G (fun t k => X49.arraylength hx (by rw [e49]; exact Ar50.1) (State.isArrayOf_alike hZ.alike Ar50.2.1) (g := (mkF m 67 #[vi p1, vi p2, vi p3, vi p4, vi p5, vi p6, vi 2, vr y33, vr y34, vr b35, vi 1, us, us, us, us, us, us, us] [(.ref y47)])) rfl rfl (hb hby at_67) _ k) ?_
    rw [len_of Sz50 Ng50]
    show Go _ _ _ (T49.setTop (mkF m 68 #[vi p1, vi p2, vi p3, vi p4, vi p5, vi p6, vi 2, vr y33, vr y34, vr b35, vi 1, us, us, us, us, us, us, us] [(.int ((p2 &&& (15 : Int32)) * (2 : Int32)))])) _
    refine G (fun t k => XS.istore X49.here hx rfl (hb hby at_68) rfl (l' := #[vi p1, vi p2, vi p3, vi p4, vi p5, vi p6, vi 2, vr y33, vr y34, vr b35, vi 1, vi ((p2 &&& (15 : Int32)) * (2 : Int32)), us, us, us, us, us, us]) rfl (XS.aload X49.here hx rfl (hb hby at_70) rfl rfl k)) ?_
    obtain ⟨cq51, kq51, q51a, q51b, q51c⟩ := isOf hZ e49 E_b35
    obtain ⟨_, _, ⟨T51, L51, k51, n51⟩, -, X51, ⟨Lc51, hQ51, l51, y51, z51⟩, st51⟩ := X49.virtualBack hx (y := (⟨RC, "clear", "()V"⟩ : MethodName)) (z := (⟨RC, "clear", "()V"⟩ : MethodName)) hown (mvT hZ (wd52 hw)) (mvT hZ (wd53 hw)) (notFace_of_selects (args := #[]) (mvT hZ (wd55 hw))) (mvT hZ (wd55 hw)) (mvT hZ (wd54 hw)) (by decide) (backOf (W := 0) (rm8 l Z a0 hw [] b35 (2 : Int32) y47 ((.int (1 : Int32)) : Value) ((.int zh48) : Value) ((.ref y47a) : Value) w_NI ((.ref w_NI) : Value) h48 n0 Z0 F_b35_a F_b35_v E_b35 F_b35_s F_b35_h F_b35_m S_NI F_b35_i g_b35) hZ (wd56 hw) (wd8 hw) (by decide) (by decide)) q51a q51c (g := (mkF m 72 #[vi p1, vi p2, vi p3, vi p4, vi p5, vi p6, vi 2, vr y33, vr y34, vr b35, vi 1, vi ((p2 &&& (15 : Int32)) * (2 : Int32)), us, us, us, us, us, us] [(.ref b35)])) rfl (by rw [hml]; rfl) (Steps.refl _) (argsL := []) (rest := []) (lenOf pd14 rfl) rfl (by show 2 * 0 + _ ≤ _; exact Nat.le_of_eq rfl) (hb hby at_72) (fun _ _ => ⟨rfl, e49, (by decide : 9 + 0 ≤ _), (by decide : 214 + 0 ≤ _)⟩)
    dsimp only [Pt.U, Pt.locs, Pt.cells, Pt.slots] at X51 l51 y51 z51 st51 hQ51
    subst l51 y51 z51
    refine Go.tr st51 ?_
    have E_b35_pre := E_b35
    have F_b35_arity_pre := F_b35_a
    have F_b35_values_pre := F_b35_v
    have F_b35_size_pre := F_b35_s
    have F_b35_members_pre := F_b35_m
    have F_b35_indexes_pre := F_b35_i
    have F_b35_holdingAny_pre := F_b35_h
    obtain ⟨h51, e51⟩ : ∃ z, T51.heap = z := ⟨_, rfl⟩
    rw [e51] at hQ51
    obtain ⟨rfl, N51q, K51, Q51_0, Q51_1, Q51_2, Q51_3, Q51_4, Q51_5, Q51_6⟩ := hQ51
    replace V_NI := V_NI.keep K51 (ninS ne_w_NI_b35 nin0)
    replace S_NI := sta_keep S_NI K51 (allS (exa_ns E_b35_pre) all0)
    replace V_y33 := V_y33.keep K51 (ninS ne_y33_b35 nin0)
    replace V_y34 := V_y34.keep K51 (ninS ne_y34_b35 nin0)
    replace E_b35 := E_b35.keep K51
    replace V_y36 := V_y36.keep K51 (ninS (Ne.symm ne_b35_y36) nin0)
    replace E_y47a := E_y47a.keep K51
    replace V_y47b := V_y47b.keep K51 (ninS (Ne.symm ne_b35_y47b) nin0)
    replace V_y47 := V_y47.keep K51 (ninS (Ne.symm ne_b35_y47) nin0)
    replace Z0 := Nat.le_trans Z0 K51.1
    replace K0 := K0.trans K51 (allS (Or.inr sz_b35) all0)
    have F_b35_a := Q51_0
    have F_b35_v := Q51_1
    have E_b35 := Q51_2
    have F_b35_s := Q51_3
    have F_b35_h := Q51_4
    have F_b35_m := Q51_5
    have F_b35_i := Q51_6
    have N51 := Fr.app N49 N51q
    show Go _ _ _ (T51.setTop (mkF m 75 #[vi p1, vi p2, vi p3, vi p4, vi p5, vi p6, vi 2, vr y33, vr y34, vr b35, vi 1, vi ((p2 &&& (15 : Int32)) * (2 : Int32)), us, us, us, us, us, us] [])) _
    exact J37 _ _ _ y47 k_y47 ((p2 &&& (15 : Int32)) * (2 : Int32)) (own_stm X51 (by decide) (by decide)) e51 N51 K0 Z0 (own_ge (own_big _ 2 8 2 rfl rfl (by decide) (own_15 _) (own_48 hc46))) g_y47 sz_y47 ne_w_NI_y47 ne_y33_y47 ne_y34_y47 ne_b35_y47 V_NI S_NI V_y33 V_y34 E_b35 F_b35_s F_b35_m F_b35_h F_b35_i F_b35_v F_b35_a V_y47
   ·by_cases hc52 : (4 : Int32) < (p2 &&& (15 : Int32))
    ·show Go _ _ _ (T36.setTop (mkF m 50 #[vi p1, vi p2, vi p3, vi p4, vi p5, vi p6, vi 2, vr y33, vr y34, vr b35, us, us, us, us, us, us, us, us] [(.int (p2 &&& (15 : Int32))), (.ref b35)])) _
     obtain ⟨cq53, kq53, q53a, q53b, q53c⟩ := isOf hZ e36 E_b35
     obtain ⟨_, _, ⟨T53, L53, k53, n53⟩, -, X53, ⟨Lc53, hQ53, l53, y53, z53⟩, st53⟩ := X36.virtualBack hx (y := (⟨RC, "reserve", "(I)V"⟩ : MethodName)) (z := (⟨RC, "reserve", "(I)V"⟩ : MethodName)) hown (mvT hZ (wd23 hw)) (mvT hZ (wd24 hw)) (notFace_of_selects (args := #[]) (mvT hZ (wd26 hw))) (mvT hZ (wd26 hw)) (mvT hZ (wd25 hw)) (by decide) (backOf (W := 0) (rm4_2_1 l Z a0 hw [] b35 (p2 &&& (15 : Int32)) y36 k_y36 w_NI k_NI (0 : Int32) h36 n0 Z0 E_b35 V_y36 V_NI F_b35_a F_b35_v F_b35_s F_b35_m F_b35_i F_b35_h (Ne.symm ne_b35_y36) ne_w_NI_b35 ne_w_NI_y36 (own_15 _) hc52 hc46 g_b35) hZ (wd27 hw) (wd8 hw) (by decide) (by decide)) q53a q53c (g := (mkF m 50 #[vi p1, vi p2, vi p3, vi p4, vi p5, vi p6, vi 2, vr y33, vr y34, vr b35, us, us, us, us, us, us, us, us] [(.int (p2 &&& (15 : Int32))), (.ref b35)])) rfl (by rw [hml]; rfl) (Steps.refl _) (argsL := [(.int (p2 &&& (15 : Int32)))]) (rest := []) (lenOf pd1 rfl) rfl (by show 2 * 0 + _ ≤ _; exact Nat.le_of_eq rfl) (hb hby at_50) (fun _ _ => ⟨rfl, e36, (by decide : 4 + 1 ≤ _), (by decide : 18 + 45 ≤ _)⟩)
     dsimp only [Pt.U, Pt.locs, Pt.cells, Pt.slots] at X53 l53 y53 z53 st53 hQ53
     subst l53 y53 z53
     have E_b35_pre := E_b35
     have F_b35_size_pre := F_b35_s
     have F_b35_members_pre := F_b35_m
     have F_b35_holdingAny_pre := F_b35_h
     have F_b35_indexes_pre := F_b35_i
     have F_b35_values_pre := F_b35_v
     have F_b35_arity_pre := F_b35_a
     obtain ⟨h53, e53⟩ : ∃ z, T53.heap = z := ⟨_, rfl⟩
     rw [e53] at hQ53
     obtain ⟨y53, k_y53, rfl, N53q, K53, ng_y53, sz0_y53, Q53_0, Q53_1, Q53_2, Q53_3, Q53_4, Q53_5, Q53_6, Q53_7⟩ := hQ53
     refine Go.tr st53 ?_
     have ne_w_NI_y53 : w_NI ≠ y53 := Nat.ne_of_lt (Nat.lt_of_lt_of_le V_NI.lt sz0_y53)
     have ne_y33_y53 : y33 ≠ y53 := Nat.ne_of_lt (Nat.lt_of_lt_of_le V_y33.lt sz0_y53)
     have ne_y34_y53 : y34 ≠ y53 := Nat.ne_of_lt (Nat.lt_of_lt_of_le V_y34.lt sz0_y53)
     have ne_b35_y53 : b35 ≠ y53 := Nat.ne_of_lt (Nat.lt_of_lt_of_le E_b35.lt sz0_y53)
     have ne_y36_y53 : y36 ≠ y53 := Nat.ne_of_lt (Nat.lt_of_lt_of_le V_y36.lt sz0_y53)
     have g_y53 : n0 ≤ y53 := ng_y53
     have sz_y53 : h0.size ≤ y53 := Nat.le_trans K0.1 sz0_y53
     replace V_NI := V_NI.keep K53 (ninS ne_w_NI_b35 nin0)
     replace S_NI := sta_keep S_NI K53 (allS (exa_ns E_b35_pre) all0)
     replace V_y33 := V_y33.keep K53 (ninS ne_y33_b35 nin0)
     replace V_y34 := V_y34.keep K53 (ninS ne_y34_b35 nin0)
     replace E_b35 := E_b35.keep K53
     replace V_y36 := V_y36.keep K53 (ninS (Ne.symm ne_b35_y36) nin0)
     replace Z0 := Nat.le_trans Z0 K53.1
     replace K0 := K0.trans K53 (allS (Or.inr sz_b35) all0)
     have E_b35 := Q53_0
     have F_b35_a := Q53_1
     have F_b35_v := Q53_2
     have F_b35_s := Q53_3
     have F_b35_m := Q53_4
     have F_b35_i := Q53_5
     have F_b35_h := Q53_6
     have V_y53 := Q53_7
     have N53 := Fr.app N36 N53q
     obtain ⟨LL53, X53, N53⟩ : ∃ LL, Stand p l e room_1 s m #[(.int p1), (.int p2), (.int p3), (.int p4), (.int p5), (.int p6)] below meth c T53 LL 5 63 ∧ Fr n0 LL := ⟨_, X53, N53⟩
     show Go _ _ _ (T53.setTop (mkF m 53 #[vi p1, vi p2, vi p3, vi p4, vi p5, vi p6, vi 2, vr y33, vr y34, vr b35, us, us, us, us, us, us, us, us] [])) _
     replace V_y53 : Arv Z h53 y53 k_y53 .int ((p2 &&& (15 : Int32)) * (2 : Int32)) [(.int (0 : Int32)), (.int (0 : Int32))] (.int (0 : Int32)) := V_y53.pad (pad_rep [] (.int (0 : Int32)) 2)
     refine G (fun t k => XS.aload X53.here hx rfl (hb hby at_53) rfl rfl (XS.aload X53.here hx rfl (hb hby at_55) rfl rfl k)) ?_
     obtain ⟨cq54, kq54, q54a, q54b, q54c⟩ := isOf hZ e53 E_b35
     obtain ⟨_, _, ⟨T54, L54, k54, n54⟩, -, X54, ⟨Lc54, hQ54, l54, y54, z54⟩, st54⟩ := X53.virtualBack hx (y := (⟨RC, "add", "([I)Z"⟩ : MethodName)) (z := (⟨RC, "add", "([I)Z"⟩ : MethodName)) hown (mvT hZ (wd32 hw)) (mvT hZ (wd33 hw)) (notFace_of_selects (args := #[]) (mvT hZ (wd35 hw))) (mvT hZ (wd35 hw)) (mvT hZ (wd34 hw)) (by decide) (backOf (W := 0) (rm5_2_N l Z a0 hw [] b35 y33 y53 k_y53 ((p2 &&& (15 : Int32)) * (2 : Int32)) (0 : Int32) (0 : Int32) w_NI k_NI (0 : Int32) k_y33 p3 p4 h53 n0 Z0 E_b35 V_y53 V_NI F_b35_a F_b35_v F_b35_s F_b35_m F_b35_i F_b35_h V_y33 (own_ge (own_big _ 2 8 2 rfl rfl (by decide) (own_15 _) hc52)) (Ne.symm ne_b35_y53) ne_w_NI_b35 ne_w_NI_y53 ne_y33_b35 ne_y33_y53 (Ne.symm ne_w_NI_y33) g_y53 g_b35) hZ (wd36 hw) (wd8 hw) (by decide) (by decide)) q54a q54c (g := (mkF m 57 #[vi p1, vi p2, vi p3, vi p4, vi p5, vi p6, vi 2, vr y33, vr y34, vr b35, us, us, us, us, us, us, us, us] [(.ref y33), (.ref b35)])) rfl (by rw [hml]; rfl) (Steps.refl _) (argsL := [(.ref y33)]) (rest := []) (lenOf pd5 rfl) rfl (by show 2 * 0 + _ ≤ _; exact Nat.le_of_eq rfl) (hb hby at_57) (fun _ _ => ⟨rfl, e53, (by decide : 5 + 0 ≤ _), (by decide : 63 + 0 ≤ _)⟩)
     dsimp only [Pt.U, Pt.locs, Pt.cells, Pt.slots] at X54 l54 y54 z54 st54 hQ54
     subst l54 y54 z54
     have E_b35_pre := E_b35
     have F_b35_arity_pre := F_b35_a
     have F_b35_values_pre := F_b35_v
     have F_b35_size_pre := F_b35_s
     have F_b35_members_pre := F_b35_m
     have F_b35_indexes_pre := F_b35_i
     have F_b35_holdingAny_pre := F_b35_h
     have V_y53_pre := V_y53
     obtain ⟨h54, e54⟩ : ∃ z, T54.heap = z := ⟨_, rfl⟩
     rw [e54] at hQ54
     obtain ⟨zh54, rfl, N54q, K54, Q54_0, Q54_1, Q54_2, Q54_3, Q54_4, Q54_5, Q54_6, Q54_7⟩ := hQ54
     refine Go.tr st54 ?_
     replace V_NI := V_NI.keep K54 (ninS ne_w_NI_y53 (ninS ne_w_NI_b35 nin0))
     replace S_NI := sta_keep S_NI K54 (allS (arv_ns V_y53_pre) (allS (exa_ns E_b35_pre) all0))
     replace V_y33 := V_y33.keep K54 (ninS ne_y33_y53 (ninS ne_y33_b35 nin0))
     replace V_y34 := V_y34.keep K54 (ninS ne_y34_y53 (ninS ne_y34_b35 nin0))
     replace E_b35 := E_b35.keep K54
     replace V_y36 := V_y36.keep K54 (ninS ne_y36_y53 (ninS (Ne.symm ne_b35_y36) nin0))
     replace Z0 := Nat.le_trans Z0 K54.1
     replace K0 := K0.trans K54 (allS (Or.inr sz_y53) (allS (Or.inr sz_b35) all0))
     have E_b35 := Q54_0
     have F_b35_a := Q54_1
     have F_b35_v := Q54_2
     have F_b35_s := Q54_3
     have F_b35_m := Q54_4
     have F_b35_i := Q54_5
     have F_b35_h := Q54_6
     have V_y53 := Q54_7
     have N54 := Fr.app N53 N54q
     refine G (fun t k => XS.istore X54.here hx rfl (hb hby at_60) rfl (l' := #[vi p1, vi p2, vi p3, vi p4, vi p5, vi p6, vi 2, vr y33, vr y34, vr b35, vi 1, us, us, us, us, us, us, us]) rfl (XS.aload X54.here hx rfl (hb hby at_62) rfl rfl k)) ?_
     obtain ⟨cq55, kq55, q55a, q55b, q55c⟩ := isOf hZ e54 E_b35
     obtain ⟨_, _, ⟨T55, L55, k55, n55⟩, -, X55, ⟨Lc55, hQ55, l55, y55, z55⟩, st55⟩ := X54.virtualBack hx (y := (⟨RC, "values", "()[I"⟩ : MethodName)) (z := (⟨RC, "values", "()[I"⟩ : MethodName)) hown (mvT hZ (wd47 hw)) (mvT hZ (wd48 hw)) (notFace_of_selects (args := #[]) (mvT hZ (wd50 hw))) (mvT hZ (wd50 hw)) (mvT hZ (wd49 hw)) (by decide) (backOf (W := 0) (rm7 l Z a0 hw [] b35 y53 h54 n0 Z0 F_b35_v) hZ (wd51 hw) (wd8 hw) (by decide) (by decide)) q55a q55c (g := (mkF m 64 #[vi p1, vi p2, vi p3, vi p4, vi p5, vi p6, vi 2, vr y33, vr y34, vr b35, vi 1, us, us, us, us, us, us, us] [(.ref b35)])) rfl (by rw [hml]; rfl) (Steps.refl _) (argsL := []) (rest := []) (lenOf pd13 rfl) rfl (by show 2 * 0 + _ ≤ _; exact Nat.le_of_eq rfl) (hb hby at_64) (fun _ _ => ⟨rfl, e54, (by decide : 5 + 0 ≤ _), (by decide : 63 + 0 ≤ _)⟩)
     dsimp only [Pt.U, Pt.locs, Pt.cells, Pt.slots] at X55 l55 y55 z55 st55 hQ55
     subst l55 y55 z55
     refine Go.tr st55 ?_
     obtain ⟨rfl, N55q, e55⟩ := hQ55
     have N55 := Fr.app N54 N55q
     obtain ⟨cl56, Ar56, -, Sz56, Ng56, -, -⟩ := id V_y53
     refine G (fun t k => X55.arraylength hx (by rw [e55]; exact Ar56.1) (State.isArrayOf_alike hZ.alike Ar56.2.1) (g := (mkF m 67 #[vi p1, vi p2, vi p3, vi p4, vi p5, vi p6, vi 2, vr y33, vr y34, vr b35, vi 1, us, us, us, us, us, us, us] [(.ref y53)])) rfl rfl (hb hby at_67) _ k) ?_
     rw [len_of Sz56 Ng56]
     show Go _ _ _ (T55.setTop (mkF m 68 #[vi p1, vi p2, vi p3, vi p4, vi p5, vi p6, vi 2, vr y33, vr y34, vr b35, vi 1, us, us, us, us, us, us, us] [(.int ((p2 &&& (15 : Int32)) * (2 : Int32)))])) _
     refine G (fun t k => XS.istore X55.here hx rfl (hb hby at_68) rfl (l' := #[vi p1, vi p2, vi p3, vi p4, vi p5, vi p6, vi 2, vr y33, vr y34, vr b35, vi 1, vi ((p2 &&& (15 : Int32)) * (2 : Int32)), us, us, us, us, us, us]) rfl (XS.aload X55.here hx rfl (hb hby at_70) rfl rfl k)) ?_
     obtain ⟨cq57, kq57, q57a, q57b, q57c⟩ := isOf hZ e55 E_b35
     obtain ⟨_, _, ⟨T57, L57, k57, n57⟩, -, X57, ⟨Lc57, hQ57, l57, y57, z57⟩, st57⟩ := X55.virtualBack hx (y := (⟨RC, "clear", "()V"⟩ : MethodName)) (z := (⟨RC, "clear", "()V"⟩ : MethodName)) hown (mvT hZ (wd52 hw)) (mvT hZ (wd53 hw)) (notFace_of_selects (args := #[]) (mvT hZ (wd55 hw))) (mvT hZ (wd55 hw)) (mvT hZ (wd54 hw)) (by decide) (backOf (W := 0) (rm8 l Z a0 hw [] b35 (2 : Int32) y53 ((.int (1 : Int32)) : Value) ((.int zh54) : Value) (.null : Value) w_NI ((.ref w_NI) : Value) h54 n0 Z0 F_b35_a F_b35_v E_b35 F_b35_s F_b35_h F_b35_m S_NI F_b35_i g_b35) hZ (wd56 hw) (wd8 hw) (by decide) (by decide)) q57a q57c (g := (mkF m 72 #[vi p1, vi p2, vi p3, vi p4, vi p5, vi p6, vi 2, vr y33, vr y34, vr b35, vi 1, vi ((p2 &&& (15 : Int32)) * (2 : Int32)), us, us, us, us, us, us] [(.ref b35)])) rfl (by rw [hml]; rfl) (Steps.refl _) (argsL := []) (rest := []) (lenOf pd14 rfl) rfl (by show 2 * 0 + _ ≤ _; exact Nat.le_of_eq rfl) (hb hby at_72) (fun _ _ => ⟨rfl, e55, (by decide : 5 + 0 ≤ _), (by decide : 63 + 0 ≤ _)⟩)
     dsimp only [Pt.U, Pt.locs, Pt.cells, Pt.slots] at X57 l57 y57 z57 st57 hQ57
     subst l57 y57 z57
     refine Go.tr st57 ?_
     have E_b35_pre := E_b35
     have F_b35_arity_pre := F_b35_a
     have F_b35_values_pre := F_b35_v
     have F_b35_size_pre := F_b35_s
     have F_b35_members_pre := F_b35_m
     have F_b35_indexes_pre := F_b35_i
     have F_b35_holdingAny_pre := F_b35_h
     obtain ⟨h57, e57⟩ : ∃ z, T57.heap = z := ⟨_, rfl⟩
     rw [e57] at hQ57
     obtain ⟨rfl, N57q, K57, Q57_0, Q57_1, Q57_2, Q57_3, Q57_4, Q57_5, Q57_6⟩ := hQ57
     replace V_NI := V_NI.keep K57 (ninS ne_w_NI_b35 nin0)
     replace S_NI := sta_keep S_NI K57 (allS (exa_ns E_b35_pre) all0)
     replace V_y33 := V_y33.keep K57 (ninS ne_y33_b35 nin0)
     replace V_y34 := V_y34.keep K57 (ninS ne_y34_b35 nin0)
     replace E_b35 := E_b35.keep K57
     replace V_y36 := V_y36.keep K57 (ninS (Ne.symm ne_b35_y36) nin0)
     replace V_y53 := V_y53.keep K57 (ninS (Ne.symm ne_b35_y53) nin0)
     replace Z0 := Nat.le_trans Z0 K57.1
     replace K0 := K0.trans K57 (allS (Or.inr sz_b35) all0)
     have F_b35_a := Q57_0
     have F_b35_v := Q57_1
     have E_b35 := Q57_2
     have F_b35_s := Q57_3
     have F_b35_h := Q57_4
     have F_b35_m := Q57_5
     have F_b35_i := Q57_6
     have N57 := Fr.app N55 N57q
     show Go _ _ _ (T57.setTop (mkF m 75 #[vi p1, vi p2, vi p3, vi p4, vi p5, vi p6, vi 2, vr y33, vr y34, vr b35, vi 1, vi ((p2 &&& (15 : Int32)) * (2 : Int32)), us, us, us, us, us, us] [])) _
     exact J37 _ _ _ y53 k_y53 ((p2 &&& (15 : Int32)) * (2 : Int32)) (own_stm X57 (by decide) (by decide)) e57 N57 K0 Z0 (own_ge (own_big _ 2 8 2 rfl rfl (by decide) (own_15 _) hc52)) g_y53 sz_y53 ne_w_NI_y53 ne_y33_y53 ne_y34_y53 ne_b35_y53 V_NI S_NI V_y33 V_y34 E_b35 F_b35_s F_b35_m F_b35_h F_b35_i F_b35_v F_b35_a V_y53
    ·show Go _ _ _ (T36.setTop (mkF m 50 #[vi p1, vi p2, vi p3, vi p4, vi p5, vi p6, vi 2, vr y33, vr y34, vr b35, us, us, us, us, us, us, us, us] [(.int (p2 &&& (15 : Int32))), (.ref b35)])) _
     obtain ⟨cq58, kq58, q58a, q58b, q58c⟩ := isOf hZ e36 E_b35
     obtain ⟨_, _, ⟨T58, L58, k58, n58⟩, -, X58, ⟨Lc58, hQ58, l58, y58, z58⟩, st58⟩ := X36.virtualBack hx (y := (⟨RC, "reserve", "(I)V"⟩ : MethodName)) (z := (⟨RC, "reserve", "(I)V"⟩ : MethodName)) hown (mvT hZ (wd23 hw)) (mvT hZ (wd24 hw)) (notFace_of_selects (args := #[]) (mvT hZ (wd26 hw))) (mvT hZ (wd26 hw)) (mvT hZ (wd25 hw)) (by decide) (backOf (W := 0) (rm4_2_0 l Z a0 hw [] b35 (p2 &&& (15 : Int32)) y36 k_y36 w_NI k_NI (0 : Int32) h36 n0 Z0 E_b35 V_y36 V_NI F_b35_a F_b35_v F_b35_s F_b35_m F_b35_i F_b35_h (Ne.symm ne_b35_y36) ne_w_NI_b35 ne_w_NI_y36 (own_15 _) hc52 hc46) hZ (wd27 hw) (wd8 hw) (by decide) (by decide)) q58a q58c (g := (mkF m 50 #[vi p1, vi p2, vi p3, vi p4, vi p5, vi p6, vi 2, vr y33, vr y34, vr b35, us, us, us, us, us, us, us, us] [(.int (p2 &&& (15 : Int32))), (.ref b35)])) rfl (by rw [hml]; rfl) (Steps.refl _) (argsL := [(.int (p2 &&& (15 : Int32)))]) (rest := []) (lenOf pd1 rfl) rfl (by show 2 * 0 + _ ≤ _; exact Nat.le_of_eq rfl) (hb hby at_50) (fun _ _ => ⟨rfl, e36, (by decide : 4 + 0 ≤ _), (by decide : 18 + 0 ≤ _)⟩)
     dsimp only [Pt.U, Pt.locs, Pt.cells, Pt.slots] at X58 l58 y58 z58 st58 hQ58
     subst l58 y58 z58
     refine Go.tr st58 ?_
     obtain ⟨rfl, N58q, e58⟩ := hQ58
     have N58 := Fr.app N36 N58q
     obtain ⟨LL58, X58, N58⟩ : ∃ LL, Stand p l e room_1 s m #[(.int p1), (.int p2), (.int p3), (.int p4), (.int p5), (.int p6)] below meth c T58 LL 4 18 ∧ Fr n0 LL := ⟨_, X58, N58⟩
     show Go _ _ _ (T58.setTop (mkF m 53 #[vi p1, vi p2, vi p3, vi p4, vi p5, vi p6, vi 2, vr y33, vr y34, vr b35, us, us, us, us, us, us, us, us] [])) _
     replace V_y36 : Arv Z h36 y36 k_y36 .int (8 : Int32) [(.int (0 : Int32)), (.int (0 : Int32))] (.int (0 : Int32)) := V_y36.pad (pad_rep [] (.int (0 : Int32)) 2)
     refine G (fun t k => XS.aload X58.here hx rfl (hb hby at_53) rfl rfl (XS.aload X58.here hx rfl (hb hby at_55) rfl rfl k)) ?_
     obtain ⟨cq59, kq59, q59a, q59b, q59c⟩ := isOf hZ e58 E_b35
     obtain ⟨_, _, ⟨T59, L59, k59, n59⟩, -, X59, ⟨Lc59, hQ59, l59, y59, z59⟩, st59⟩ := X58.virtualBack hx (y := (⟨RC, "add", "([I)Z"⟩ : MethodName)) (z := (⟨RC, "add", "([I)Z"⟩ : MethodName)) hown (mvT hZ (wd32 hw)) (mvT hZ (wd33 hw)) (notFace_of_selects (args := #[]) (mvT hZ (wd35 hw))) (mvT hZ (wd35 hw)) (mvT hZ (wd34 hw)) (by decide) (backOf (W := 0) (rm5_2_N l Z a0 hw [] b35 y33 y36 k_y36 (8 : Int32) (0 : Int32) (0 : Int32) w_NI k_NI (0 : Int32) k_y33 p3 p4 h36 n0 Z0 E_b35 V_y36 V_NI F_b35_a F_b35_v F_b35_s F_b35_m F_b35_i F_b35_h V_y33 (by decide) (Ne.symm ne_b35_y36) ne_w_NI_b35 ne_w_NI_y36 ne_y33_b35 ne_y33_y36 (Ne.symm ne_w_NI_y33) g_y36 g_b35) hZ (wd36 hw) (wd8 hw) (by decide) (by decide)) q59a q59c (g := (mkF m 57 #[vi p1, vi p2, vi p3, vi p4, vi p5, vi p6, vi 2, vr y33, vr y34, vr b35, us, us, us, us, us, us, us, us] [(.ref y33), (.ref b35)])) rfl (by rw [hml]; rfl) (Steps.refl _) (argsL := [(.ref y33)]) (rest := []) (lenOf pd5 rfl) rfl (by show 2 * 0 + _ ≤ _; exact Nat.le_of_eq rfl) (hb hby at_57) (fun _ _ => ⟨rfl, e58, (by decide : 4 + 0 ≤ _), (by decide : 18 + 0 ≤ _)⟩)
     dsimp only [Pt.U, Pt.locs, Pt.cells, Pt.slots] at X59 l59 y59 z59 st59 hQ59
     subst l59 y59 z59
     have E_b35_pre := E_b35
     have F_b35_size_pre := F_b35_s
     have F_b35_members_pre := F_b35_m
     have F_b35_holdingAny_pre := F_b35_h
     have F_b35_indexes_pre := F_b35_i
     have F_b35_values_pre := F_b35_v
     have F_b35_arity_pre := F_b35_a
     have V_y36_pre := V_y36
     obtain ⟨h59, e59⟩ : ∃ z, T59.heap = z := ⟨_, rfl⟩
     rw [e59] at hQ59
     obtain ⟨zh59, rfl, N59q, K59, Q59_0, Q59_1, Q59_2, Q59_3, Q59_4, Q59_5, Q59_6, Q59_7⟩ := hQ59
     refine Go.tr st59 ?_
     replace V_NI := V_NI.keep K59 (ninS ne_w_NI_y36 (ninS ne_w_NI_b35 nin0))
     replace S_NI := sta_keep S_NI K59 (allS (arv_ns V_y36_pre) (allS (exa_ns E_b35_pre) all0))
     replace V_y33 := V_y33.keep K59 (ninS ne_y33_y36 (ninS ne_y33_b35 nin0))
     replace V_y34 := V_y34.keep K59 (ninS ne_y34_y36 (ninS ne_y34_b35 nin0))
     replace E_b35 := E_b35.keep K59
     replace Z0 := Nat.le_trans Z0 K59.1
     replace K0 := K0.trans K59 (allS (Or.inr sz_y36) (allS (Or.inr sz_b35) all0))
     have E_b35 := Q59_0
     have F_b35_a := Q59_1
     have F_b35_v := Q59_2
     have F_b35_s := Q59_3
     have F_b35_m := Q59_4
     have F_b35_i := Q59_5
     have F_b35_h := Q59_6
     have V_y36 := Q59_7
     have N59 := Fr.app N58 N59q
     refine G (fun t k => XS.istore X59.here hx rfl (hb hby at_60) rfl (l' := #[vi p1, vi p2, vi p3, vi p4, vi p5, vi p6, vi 2, vr y33, vr y34, vr b35, vi 1, us, us, us, us, us, us, us]) rfl (XS.aload X59.here hx rfl (hb hby at_62) rfl rfl k)) ?_
     obtain ⟨cq60, kq60, q60a, q60b, q60c⟩ := isOf hZ e59 E_b35
     obtain ⟨_, _, ⟨T60, L60, k60, n60⟩, -, X60, ⟨Lc60, hQ60, l60, y60, z60⟩, st60⟩ := X59.virtualBack hx (y := (⟨RC, "values", "()[I"⟩ : MethodName)) (z := (⟨RC, "values", "()[I"⟩ : MethodName)) hown (mvT hZ (wd47 hw)) (mvT hZ (wd48 hw)) (notFace_of_selects (args := #[]) (mvT hZ (wd50 hw))) (mvT hZ (wd50 hw)) (mvT hZ (wd49 hw)) (by decide) (backOf (W := 0) (rm7 l Z a0 hw [] b35 y36 h59 n0 Z0 F_b35_v) hZ (wd51 hw) (wd8 hw) (by decide) (by decide)) q60a q60c (g := (mkF m 64 #[vi p1, vi p2, vi p3, vi p4, vi p5, vi p6, vi 2, vr y33, vr y34, vr b35, vi 1, us, us, us, us, us, us, us] [(.ref b35)])) rfl (by rw [hml]; rfl) (Steps.refl _) (argsL := []) (rest := []) (lenOf pd13 rfl) rfl (by show 2 * 0 + _ ≤ _; exact Nat.le_of_eq rfl) (hb hby at_64) (fun _ _ => ⟨rfl, e59, (by decide : 4 + 0 ≤ _), (by decide : 18 + 0 ≤ _)⟩)
     dsimp only [Pt.U, Pt.locs, Pt.cells, Pt.slots] at X60 l60 y60 z60 st60 hQ60
     subst l60 y60 z60
     refine Go.tr st60 ?_
     obtain ⟨rfl, N60q, e60⟩ := hQ60
     have N60 := Fr.app N59 N60q
     obtain ⟨cl61, Ar61, -, Sz61, Ng61, -, -⟩ := id V_y36
     refine G (fun t k => X60.arraylength hx (by rw [e60]; exact Ar61.1) (State.isArrayOf_alike hZ.alike Ar61.2.1) (g := (mkF m 67 #[vi p1, vi p2, vi p3, vi p4, vi p5, vi p6, vi 2, vr y33, vr y34, vr b35, vi 1, us, us, us, us, us, us, us] [(.ref y36)])) rfl rfl (hb hby at_67) _ k) ?_
     rw [len_of Sz61 Ng61]
     show Go _ _ _ (T60.setTop (mkF m 68 #[vi p1, vi p2, vi p3, vi p4, vi p5, vi p6, vi 2, vr y33, vr y34, vr b35, vi 1, us, us, us, us, us, us, us] [(.int 8)])) _
     refine G (fun t k => XS.istore X60.here hx rfl (hb hby at_68) rfl (l' := #[vi p1, vi p2, vi p3, vi p4, vi p5, vi p6, vi 2, vr y33, vr y34, vr b35, vi 1, vi 8, us, us, us, us, us, us]) rfl (XS.aload X60.here hx rfl (hb hby at_70) rfl rfl k)) ?_
     obtain ⟨cq62, kq62, q62a, q62b, q62c⟩ := isOf hZ e60 E_b35
     obtain ⟨_, _, ⟨T62, L62, k62, n62⟩, -, X62, ⟨Lc62, hQ62, l62, y62, z62⟩, st62⟩ := X60.virtualBack hx (y := (⟨RC, "clear", "()V"⟩ : MethodName)) (z := (⟨RC, "clear", "()V"⟩ : MethodName)) hown (mvT hZ (wd52 hw)) (mvT hZ (wd53 hw)) (notFace_of_selects (args := #[]) (mvT hZ (wd55 hw))) (mvT hZ (wd55 hw)) (mvT hZ (wd54 hw)) (by decide) (backOf (W := 0) (rm8 l Z a0 hw [] b35 (2 : Int32) y36 ((.int (1 : Int32)) : Value) ((.int zh59) : Value) (.null : Value) w_NI ((.ref w_NI) : Value) h59 n0 Z0 F_b35_a F_b35_v E_b35 F_b35_s F_b35_h F_b35_m S_NI F_b35_i g_b35) hZ (wd56 hw) (wd8 hw) (by decide) (by decide)) q62a q62c (g := (mkF m 72 #[vi p1, vi p2, vi p3, vi p4, vi p5, vi p6, vi 2, vr y33, vr y34, vr b35, vi 1, vi 8, us, us, us, us, us, us] [(.ref b35)])) rfl (by rw [hml]; rfl) (Steps.refl _) (argsL := []) (rest := []) (lenOf pd14 rfl) rfl (by show 2 * 0 + _ ≤ _; exact Nat.le_of_eq rfl) (hb hby at_72) (fun _ _ => ⟨rfl, e60, (by decide : 4 + 0 ≤ _), (by decide : 18 + 0 ≤ _)⟩)
     dsimp only [Pt.U, Pt.locs, Pt.cells, Pt.slots] at X62 l62 y62 z62 st62 hQ62
     subst l62 y62 z62
     refine Go.tr st62 ?_
     have E_b35_pre := E_b35
     have F_b35_arity_pre := F_b35_a
     have F_b35_values_pre := F_b35_v
     have F_b35_size_pre := F_b35_s
     have F_b35_members_pre := F_b35_m
     have F_b35_indexes_pre := F_b35_i
     have F_b35_holdingAny_pre := F_b35_h
     obtain ⟨h62, e62⟩ : ∃ z, T62.heap = z := ⟨_, rfl⟩
     rw [e62] at hQ62
     obtain ⟨rfl, N62q, K62, Q62_0, Q62_1, Q62_2, Q62_3, Q62_4, Q62_5, Q62_6⟩ := hQ62
     replace V_NI := V_NI.keep K62 (ninS ne_w_NI_b35 nin0)
     replace S_NI := sta_keep S_NI K62 (allS (exa_ns E_b35_pre) all0)
     replace V_y33 := V_y33.keep K62 (ninS ne_y33_b35 nin0)
     replace V_y34 := V_y34.keep K62 (ninS ne_y34_b35 nin0)
     replace E_b35 := E_b35.keep K62
     replace V_y36 := V_y36.keep K62 (ninS (Ne.symm ne_b35_y36) nin0)
     replace Z0 := Nat.le_trans Z0 K62.1
     replace K0 := K0.trans K62 (allS (Or.inr sz_b35) all0)
     have F_b35_a := Q62_0
     have F_b35_v := Q62_1
     have E_b35 := Q62_2
     have F_b35_s := Q62_3
     have F_b35_h := Q62_4
     have F_b35_m := Q62_5
     have F_b35_i := Q62_6
     have N62 := Fr.app N60 N62q
     show Go _ _ _ (T62.setTop (mkF m 75 #[vi p1, vi p2, vi p3, vi p4, vi p5, vi p6, vi 2, vr y33, vr y34, vr b35, vi 1, vi 8, us, us, us, us, us, us] [])) _
     exact J37 _ _ _ y36 k_y36 (8 : Int32) (own_stm X62 (by decide) (by decide)) e62 N62 K0 Z0 (by decide) g_y36 sz_y36 ne_w_NI_y36 ne_y33_y36 ne_y34_y36 ne_b35_y36 V_NI S_NI V_y33 V_y34 E_b35 F_b35_s F_b35_m F_b35_h F_b35_i F_b35_v F_b35_a V_y36
  ·rw [show ((1 : Int32) + ((p1 &&& (2147483647 : Int32)) % (3 : Int32))) = (3 : Int32) from by rw [own_m3 p1 hc1 hc32]; decide]
   show Go _ _ _ (s₁.setTop (mkF m 10 #[vi p1, vi p2, vi p3, vi p4, vi p5, vi p6, vi 3, us, us, us, us, us, us, us, us, us, us, us] [])) _
   refine G (fun t k => XS.iload X0.here hx rfl (hb hby at_10) rfl (XS.iloadN X0.here hx rfl (hb hby at_12) rfl (XS.iloadN X0.here hx rfl (hb hby at_13) rfl (XS.iload X0.here hx rfl (hb hby at_14) rfl k)))) ?_
   obtain ⟨_, _, ⟨T63, L63, k63, n63⟩, -, X63, ⟨Lc63, hQ63, l63, y63, z63⟩, st63⟩ := Jvm.LawKit.callS X0 hx (y := (⟨"com/example/bitlattice/bitlattice/eval/RelationClearPinLaw", "row", "(IIII)[I"⟩ : MethodName)) hown (mvT hZ (wd1 hw)) (mvT hZ (wd2 hw)) (mvT hZ (wd3 hw)) (mvT hZ (wd4 hw)) (by decide) (backOf (W := 0) (rm1_3 l Z a0 hw [] p3 p4 p5 h0 n0 Z0) hZ (wd4 hw) (wd3 hw) (by decide) (by decide)) (g := (mkF m 16 #[vi p1, vi p2, vi p3, vi p4, vi p5, vi p6, vi 3, us, us, us, us, us, us, us, us, us, us, us] [(.int p5), (.int p4), (.int p3), (.int 3)])) rfl (by rw [hml]; rfl) (argsL := [(.int (3 : Int32)), (.int p3), (.int p4), (.int p5)]) (rest := []) (lenOf pd10 rfl) rfl (by show 2 * 0 + _ ≤ _; exact Nat.le_of_eq rfl) (hb hby at_16) (fun _ _ => ⟨rfl, e0, (by decide : 0 + 1 ≤ _), (by decide : 0 + 3 ≤ _)⟩)
   dsimp only [Pt.U, Pt.locs, Pt.cells, Pt.slots] at X63 l63 y63 z63 st63 hQ63
   subst l63 y63 z63
   obtain ⟨h63, e63⟩ : ∃ z, T63.heap = z := ⟨_, rfl⟩
   rw [e63] at hQ63
   obtain ⟨y63, k_y63, rfl, N63q, K63, ng_y63, sz0_y63, Q63_0⟩ := hQ63
   refine G st63 ?_
   have ne_w_NI_y63 : w_NI ≠ y63 := Nat.ne_of_lt (Nat.lt_of_lt_of_le V_NI.lt sz0_y63)
   have g_y63 : n0 ≤ y63 := ng_y63
   have sz_y63 : h0.size ≤ y63 := Nat.le_trans K0.1 sz0_y63
   replace V_NI := V_NI.keep K63 nin0
   replace S_NI := sta_keep S_NI K63 all0
   replace Z0 := Nat.le_trans Z0 K63.1
   replace K0 := K0.trans K63 all0
   have V_y63 := Q63_0
   have N63 := Fr.app N0 N63q
   refine G (fun t k => XS.astore X63.here hx rfl (hb hby at_19) rfl rfl (l' := #[vi p1, vi p2, vi p3, vi p4, vi p5, vi p6, vi 3, vr y63, us, us, us, us, us, us, us, us, us, us]) rfl (XS.iload X63.here hx rfl (hb hby at_21) rfl k)) ?_
   show Go _ _ _ (T63.setTop (mkF m 23 #[vi p1, vi p2, vi p3, vi p4, vi p5, vi p6, vi 3, vr y63, us, us, us, us, us, us, us, us, us, us] [(.int 3)])) _
   refine G (fun t k => XS.iload X63.here hx rfl (hb hby at_23) rfl (XS.iloadN X63.here hx rfl (hb hby at_25) rfl (XS.iload X63.here hx rfl (hb hby at_26) rfl k))) ?_
   obtain ⟨_, _, ⟨T64, L64, k64, n64⟩, -, X64, ⟨Lc64, hQ64, l64, y64, z64⟩, st64⟩ := Jvm.LawKit.callS X63 hx (y := (⟨"com/example/bitlattice/bitlattice/eval/RelationClearPinLaw", "row", "(IIII)[I"⟩ : MethodName)) hown (mvT hZ (wd1 hw)) (mvT hZ (wd2 hw)) (mvT hZ (wd3 hw)) (mvT hZ (wd4 hw)) (by decide) (backOf (W := 0) (rm1_3 l Z a0 hw [] p6 p4 p5 h63 n0 Z0) hZ (wd4 hw) (wd3 hw) (by decide) (by decide)) (g := (mkF m 28 #[vi p1, vi p2, vi p3, vi p4, vi p5, vi p6, vi 3, vr y63, us, us, us, us, us, us, us, us, us, us] [(.int p5), (.int p4), (.int p6), (.int 3)])) rfl (by rw [hml]; rfl) (argsL := [(.int (3 : Int32)), (.int p6), (.int p4), (.int p5)]) (rest := []) (lenOf pd10 rfl) rfl (by show 2 * 0 + _ ≤ _; exact Nat.le_of_eq rfl) (hb hby at_28) (fun _ _ => ⟨rfl, e63, (by decide : 1 + 1 ≤ _), (by decide : 3 + 3 ≤ _)⟩)
   dsimp only [Pt.U, Pt.locs, Pt.cells, Pt.slots] at X64 l64 y64 z64 st64 hQ64
   subst l64 y64 z64
   obtain ⟨h64, e64⟩ : ∃ z, T64.heap = z := ⟨_, rfl⟩
   rw [e64] at hQ64
   obtain ⟨y64, k_y64, rfl, N64q, K64, ng_y64, sz0_y64, Q64_0⟩ := hQ64
   refine G st64 ?_
   have ne_w_NI_y64 : w_NI ≠ y64 := Nat.ne_of_lt (Nat.lt_of_lt_of_le V_NI.lt sz0_y64)
   have ne_y63_y64 : y63 ≠ y64 := Nat.ne_of_lt (Nat.lt_of_lt_of_le V_y63.lt sz0_y64)
   have g_y64 : n0 ≤ y64 := ng_y64
   have sz_y64 : h0.size ≤ y64 := Nat.le_trans K0.1 sz0_y64
   replace V_NI := V_NI.keep K64 nin0
   replace S_NI := sta_keep S_NI K64 all0
   replace V_y63 := V_y63.keep K64 nin0
   replace Z0 := Nat.le_trans Z0 K64.1
   replace K0 := K0.trans K64 all0
   have V_y64 := Q64_0
   have N64 := Fr.app N63 N64q
   refine G (fun t k => XS.astore X64.here hx rfl (hb hby at_31) rfl rfl (l' := #[vi p1, vi p2, vi p3, vi p4, vi p5, vi p6, vi 3, vr y63, vr y64, us, us, us, us, us, us, us, us, us]) rfl k) ?_
   obtain ⟨T65, h65, X65, e65, E65, A65, D65, -, st65⟩ := newO X64 hx hZ hown (wd6 hw) (wd7 hw) (wd8 hw) e64 (g := (mkF m 33 #[vi p1, vi p2, vi p3, vi p4, vi p5, vi p6, vi 3, vr y63, vr y64, us, us, us, us, us, us, us, us, us] [])) rfl (hb hby at_33) (by decide) (by decide)
   obtain ⟨b65, g65⟩ : ∃ z, z = h64.size := ⟨_, rfl⟩
   rw [← g65] at A65 D65 st65
   refine G st65 ?_
   have ne_w_NI_b65 : w_NI ≠ b65 := Nat.ne_of_lt (Nat.lt_of_lt_of_le V_NI.lt (Nat.le_of_eq g65.symm))
   have ne_y63_b65 : y63 ≠ b65 := Nat.ne_of_lt (Nat.lt_of_lt_of_le V_y63.lt (Nat.le_of_eq g65.symm))
   have ne_y64_b65 : y64 ≠ b65 := Nat.ne_of_lt (Nat.lt_of_lt_of_le V_y64.lt (Nat.le_of_eq g65.symm))
   have g_b65 : n0 ≤ b65 := Nat.le_trans Z0 (Nat.le_of_eq g65.symm)
   have sz_b65 : h0.size ≤ b65 := Nat.le_trans K0.1 (Nat.le_of_eq g65.symm)
   replace V_NI := V_NI.ext E65
   replace S_NI := S_NI.ext E65
   replace V_y63 := V_y63.ext E65
   replace V_y64 := V_y64.ext E65
   replace K0 := K0.ext E65
   replace Z0 := Nat.le_trans Z0 E65.1
   have E_b65 := A65
   have F_b65_i : Fld Z h65 b65 RC "indexes" RJ .null := D65 (Or.inl (wd18 hw)) (ty := (.array (.object IC))) (by decide)
   have F_b65_a : Fld Z h65 b65 RC "arity" "I" (.int (0 : Int32)) := D65 (Or.inr (wd20 hw)) (ty := .int) (by decide)
   have F_b65_v : Fld Z h65 b65 RC "values" "[I" .null := D65 (Or.inl (wd22 hw)) (ty := (.array .int)) (by decide)
   have F_b65_s : Fld Z h65 b65 RC "size" "I" (.int (0 : Int32)) := D65 (Or.inl (wd29 hw)) (ty := .int) (by decide)
   have F_b65_m : Fld Z h65 b65 RC "members" RI .null := D65 (Or.inl (wd31 hw)) (ty := (.object IC)) (by decide)
   have F_b65_h : Fld Z h65 b65 RC "holdingAny" "I" (.int (0 : Int32)) := D65 (Or.inl (wd58 hw)) (ty := .int) (by decide)
   refine G (fun t k => XS.dup X65.here hx rfl (hb hby at_36) rfl rfl k) ?_
   show Go _ _ _ (T65.setTop (mkF m 37 #[vi p1, vi p2, vi p3, vi p4, vi p5, vi p6, vi 3, vr y63, vr y64, us, us, us, us, us, us, us, us, us] [(.ref b65), (.ref b65)])) _
   refine G (fun t k => XS.iload X65.here hx rfl (hb hby at_37) rfl k) ?_
   obtain ⟨_, _, ⟨T66, L66, k66, n66⟩, -, X66, ⟨Lc66, hQ66, l66, y66, z66⟩, st66⟩ := X65.specialBack hx (y := (⟨RC, "<init>", "(I)V"⟩ : MethodName)) rfl hown (mvT hZ (wd9 hw)) (mvT hZ (wd10 hw)) (mvT hZ (wd11 hw)) (by decide) (backOf (W := 1) (rm2_3 l Z a0 hw [] b65 w_NI (.null : Value) (.null : Value) ((.int (0 : Int32)) : Value) h65 n0 Z0 E_b65 S_NI F_b65_s F_b65_m F_b65_h F_b65_i F_b65_v F_b65_a g_b65) hZ (wd11 hw) (wd8 hw) (by decide) (by decide)) (g := (mkF m 39 #[vi p1, vi p2, vi p3, vi p4, vi p5, vi p6, vi 3, vr y63, vr y64, us, us, us, us, us, us, us, us, us] [(.int 3), (.ref b65), (.ref b65)])) rfl (by rw [hml]; rfl) (Steps.refl _) (a := b65) (argsL := [(.int (3 : Int32))]) (rest := [(.ref b65)]) (lenOf pd1 rfl) rfl (by show 2 * 0 + _ ≤ _; exact Nat.le_of_eq rfl) (hb hby at_39) (fun _ _ => ⟨rfl, e65, (by decide : 3 + 1 ≤ _), (by decide : 12 + 12 ≤ _)⟩)
   dsimp only [Pt.U, Pt.locs, Pt.cells, Pt.slots] at X66 l66 y66 z66 st66 hQ66
   subst l66 y66 z66
   have E_b65_pre := E_b65
   have F_b65_indexes_pre := F_b65_i
   have F_b65_arity_pre := F_b65_a
   have F_b65_values_pre := F_b65_v
   have F_b65_size_pre := F_b65_s
   have F_b65_members_pre := F_b65_m
   have F_b65_holdingAny_pre := F_b65_h
   obtain ⟨h66, e66⟩ : ∃ z, T66.heap = z := ⟨_, rfl⟩
   rw [e66] at hQ66
   obtain ⟨y66, k_y66, rfl, N66q, K66, ng_y66, sz0_y66, Q66_0, Q66_1, Q66_2, Q66_3, Q66_4, Q66_5, Q66_6, Q66_7⟩ := hQ66
   refine Go.tr st66 ?_
   have ne_w_NI_y66 : w_NI ≠ y66 := Nat.ne_of_lt (Nat.lt_of_lt_of_le V_NI.lt sz0_y66)
   have ne_y63_y66 : y63 ≠ y66 := Nat.ne_of_lt (Nat.lt_of_lt_of_le V_y63.lt sz0_y66)
   have ne_y64_y66 : y64 ≠ y66 := Nat.ne_of_lt (Nat.lt_of_lt_of_le V_y64.lt sz0_y66)
   have ne_b65_y66 : b65 ≠ y66 := Nat.ne_of_lt (Nat.lt_of_lt_of_le E_b65.lt sz0_y66)
   have g_y66 : n0 ≤ y66 := ng_y66
   have sz_y66 : h0.size ≤ y66 := Nat.le_trans K0.1 sz0_y66
   replace V_NI := V_NI.keep K66 (ninS ne_w_NI_b65 nin0)
   replace S_NI := sta_keep S_NI K66 (allS (exa_ns E_b65_pre) all0)
   replace V_y63 := V_y63.keep K66 (ninS ne_y63_b65 nin0)
   replace V_y64 := V_y64.keep K66 (ninS ne_y64_b65 nin0)
   replace E_b65 := E_b65.keep K66
   replace Z0 := Nat.le_trans Z0 K66.1
   replace K0 := K0.trans K66 (allS (Or.inr sz_b65) all0)
   have E_b65 := Q66_0
   have F_b65_s := Q66_1
   have F_b65_m := Q66_2
   have F_b65_h := Q66_3
   have F_b65_i := Q66_4
   have F_b65_v := Q66_5
   have F_b65_a := Q66_6
   have V_y66 := Q66_7
   have N66 := Fr.app N64 N66q
   refine G (fun t k => XS.astore X66.here hx rfl (hb hby at_42) rfl rfl (l' := #[vi p1, vi p2, vi p3, vi p4, vi p5, vi p6, vi 3, vr y63, vr y64, vr b65, us, us, us, us, us, us, us, us]) rfl (XS.aload X66.here hx rfl (hb hby at_44) rfl rfl (XS.iloadN X66.here hx rfl (hb hby at_46) rfl (XS.bipush X66.here hx rfl (hb hby at_47) (XS.iand X66.here hx rfl (hb hby at_49) rfl k))))) ?_
   show Go _ _ _ (T66.setTop (mkF m 50 #[vi p1, vi p2, vi p3, vi p4, vi p5, vi p6, vi 3, vr y63, vr y64, vr b65, us, us, us, us, us, us, us, us] [(.int (p2 &&& (15 : Int32))), (.ref b65)])) _
   have J67 : ∀ (TJ : State) (locsJ : List Loc) (hJ : Heap) (jv : Addr) (jk : ClassId) (jn : Int32), Stand p l e room_1 s m #[(.int p1), (.int p2), (.int p3), (.int p4), (.int p5), (.int p6)] below meth c TJ locsJ 12 300 → TJ.heap = hJ → Fr n0 locsJ → Keep h0 hJ [] → n0 ≤ hJ.size → ¬ jn < (12 : Int32) → n0 ≤ jv → h0.size ≤ jv → w_NI ≠ jv → y63 ≠ jv → y64 ≠ jv → b65 ≠ jv → Arv Z hJ w_NI k_NI (.object IC) (0 : Int32) [] .null → Sta Z hJ RC "NO_INDEXES" RJ (.ref w_NI) → Arv Z hJ y63 k_y63 .int (3 : Int32) [(.int p3), (.int p4), (.int p5)] (.int (0 : Int32)) → Arv Z hJ y64 k_y64 .int (3 : Int32) [(.int p6), (.int p4), (.int p5)] (.int (0 : Int32)) → Exa Z hJ b65 RC → Fld Z hJ b65 RC "size" "I" (.int (0 : Int32)) → Fld Z hJ b65 RC "members" RI .null → Fld Z hJ b65 RC "holdingAny" "I" (.int (0 : Int32)) → Fld Z hJ b65 RC "indexes" RJ (.ref w_NI) → Fld Z hJ b65 RC "values" "[I" (.ref jv) → Fld Z hJ b65 RC "arity" "I" (.int (3 : Int32)) → Arv Z hJ jv jk .int jn [(.int p3), (.int p4), (.int p5)] (.int (0 : Int32)) → Go p.tables e below (TJ.setTop (mkF m 75 #[vi p1, vi p2, vi p3, vi p4, vi p5, vi p6, vi 3, vr y63, vr y64, vr b65, vi 1, vi jn, us, us, us, us, us, us] [])) (fun o U' => ∃ v L, o = .returned v ∧ Q0 Z p1 p2 p3 p4 p5 p6 w_NI k_NI h0 n0 v U'.heap L ∧ FrameEnd s o U' L 32 512) := by
    intro TJ locsJ hJ jv jk jn XJ eJ NJ K0 Z0 hjn g_jv sz_jv nj_w_NI nj_y63 nj_y64 nj_b65 V_NI S_NI V_y63 V_y64 E_b65 F_b65_s F_b65_m F_b65_h F_b65_i F_b65_v F_b65_a V_jv
    refine G (fun t k => XS.aload XJ.here hx rfl (hb hby at_75) rfl rfl k) ?_
    obtain ⟨cq68, kq68, q68a, q68b, q68c⟩ := isOf hZ eJ E_b65
    obtain ⟨_, _, ⟨T68, L68, k68, n68⟩, -, X68, ⟨Lc68, hQ68, l68, y68, z68⟩, st68⟩ := XJ.virtualBack hx (y := (⟨RC, "size", "()I"⟩ : MethodName)) (z := (⟨RC, "size", "()I"⟩ : MethodName)) hown (mvT hZ (wd59 hw)) (mvT hZ (wd60 hw)) (notFace_of_selects (args := #[]) (mvT hZ (wd62 hw))) (mvT hZ (wd62 hw)) (mvT hZ (wd61 hw)) (by decide) (backOf (W := 0) (rm9 l Z a0 hw [] b65 (0 : Int32) hJ n0 Z0 F_b65_s) hZ (wd63 hw) (wd8 hw) (by decide) (by decide)) q68a q68c (g := (mkF m 77 #[vi p1, vi p2, vi p3, vi p4, vi p5, vi p6, vi 3, vr y63, vr y64, vr b65, vi 1, vi jn, us, us, us, us, us, us] [(.ref b65)])) rfl (by rw [hml]; rfl) (Steps.refl _) (argsL := []) (rest := []) (lenOf pd11 rfl) rfl (by show 2 * 0 + _ ≤ _; exact Nat.le_of_eq rfl) (hb hby at_77) (fun _ _ => ⟨rfl, eJ, (by decide : 12 + 0 ≤ _), (by decide : 300 + 0 ≤ _)⟩)
    dsimp only [Pt.U, Pt.locs, Pt.cells, Pt.slots] at X68 l68 y68 z68 st68 hQ68
    subst l68 y68 z68
    refine Go.tr st68 ?_
    obtain ⟨rfl, N68q, e68⟩ := hQ68
    have N68 := Fr.app NJ N68q
    refine G (fun t k => XS.ifNo X68.here hx rfl (hb hby at_80) rfl ((if0 _ _).trans (teq (by decide : (0 : Int32) = (0 : Int32))).2) (XS.iconst X68.here hx rfl (hb hby at_83) (XS.goto X68.here hx rfl (pc0 := 84) (pc' := 88) rfl (hb hby at_84) (by decide) (by decide) (XS.istore X68.here hx rfl (hb hby at_88) rfl (l' := #[vi p1, vi p2, vi p3, vi p4, vi p5, vi p6, vi 3, vr y63, vr y64, vr b65, vi 1, vi jn, vi 1, us, us, us, us, us]) rfl (XS.aload X68.here hx rfl (hb hby at_90) rfl rfl k))))) ?_
    show Go _ _ _ (T68.setTop (mkF m 92 #[vi p1, vi p2, vi p3, vi p4, vi p5, vi p6, vi 3, vr y63, vr y64, vr b65, vi 1, vi jn, vi 1, us, us, us, us, us] [(.ref b65)])) _
    obtain ⟨cq69, kq69, q69a, q69b, q69c⟩ := isOf hZ e68 E_b65
    obtain ⟨_, _, ⟨T69, L69, k69, n69⟩, -, X69, ⟨Lc69, hQ69, l69, y69, z69⟩, st69⟩ := X68.virtualBack hx (y := (⟨RC, "isSmall", "()Z"⟩ : MethodName)) (z := (⟨RC, "isSmall", "()Z"⟩ : MethodName)) hown (mvT hZ (wd64 hw)) (mvT hZ (wd65 hw)) (notFace_of_selects (args := #[]) (mvT hZ (wd67 hw))) (mvT hZ (wd67 hw)) (mvT hZ (wd66 hw)) (by decide) (backOf (W := 0) (rm10 l Z a0 hw [] b65 hJ n0 Z0 F_b65_m) hZ (wd68 hw) (wd8 hw) (by decide) (by decide)) q69a q69c (g := (mkF m 92 #[vi p1, vi p2, vi p3, vi p4, vi p5, vi p6, vi 3, vr y63, vr y64, vr b65, vi 1, vi jn, vi 1, us, us, us, us, us] [(.ref b65)])) rfl (by rw [hml]; rfl) (Steps.refl _) (argsL := []) (rest := []) (lenOf pd12 rfl) rfl (by show 2 * 0 + _ ≤ _; exact Nat.le_of_eq rfl) (hb hby at_92) (fun _ _ => ⟨rfl, e68, (by decide : 12 + 0 ≤ _), (by decide : 300 + 0 ≤ _)⟩)
    dsimp only [Pt.U, Pt.locs, Pt.cells, Pt.slots] at X69 l69 y69 z69 st69 hQ69
    subst l69 y69 z69
    refine Go.tr st69 ?_
    obtain ⟨rfl, N69q, e69⟩ := hQ69
    have N69 := Fr.app N68 N69q
    refine G (fun t k => XS.istore X69.here hx rfl (hb hby at_95) rfl (l' := #[vi p1, vi p2, vi p3, vi p4, vi p5, vi p6, vi 3, vr y63, vr y64, vr b65, vi 1, vi jn, vi 1, vi 1, us, us, us, us]) rfl (XS.aload X69.here hx rfl (hb hby at_97) rfl rfl (XS.aload X69.here hx rfl (hb hby at_99) rfl rfl k))) ?_
    obtain ⟨cq70, kq70, q70a, q70b, q70c⟩ := isOf hZ e69 E_b65
    obtain ⟨_, _, ⟨T70, L70, k70, n70⟩, -, X70, ⟨Lc70, hQ70, l70, y70, z70⟩, st70⟩ := X69.virtualBack hx (y := (⟨RC, "contains", "([I)Z"⟩ : MethodName)) (z := (⟨RC, "contains", "([I)Z"⟩ : MethodName)) hown (mvT hZ (wd69 hw)) (mvT hZ (wd38 hw)) (notFace_of_selects (args := #[]) (mvT hZ (wd40 hw))) (mvT hZ (wd40 hw)) (mvT hZ (wd39 hw)) (by decide) (backOf (W := 0) (rm6_3_0 l Z a0 hw [] b65 y63 jv jk jn p3 p4 p5 w_NI k_NI (0 : Int32) k_y63 p3 p4 p5 hJ n0 Z0 E_b65 V_jv V_NI F_b65_a F_b65_v F_b65_s F_b65_m F_b65_i F_b65_h V_y63 hjn (Ne.symm nj_b65) ne_w_NI_b65 nj_w_NI ne_y63_b65 nj_y63 (Ne.symm ne_w_NI_y63)) hZ (wd41 hw) (wd8 hw) (by decide) (by decide)) q70a q70c (g := (mkF m 101 #[vi p1, vi p2, vi p3, vi p4, vi p5, vi p6, vi 3, vr y63, vr y64, vr b65, vi 1, vi jn, vi 1, vi 1, us, us, us, us] [(.ref y63), (.ref b65)])) rfl (by rw [hml]; rfl) (Steps.refl _) (argsL := [(.ref y63)]) (rest := []) (lenOf pd5 rfl) rfl (by show 2 * 0 + _ ≤ _; exact Nat.le_of_eq rfl) (hb hby at_101) (fun _ _ => ⟨rfl, e69, (by decide : 12 + 0 ≤ _), (by decide : 300 + 0 ≤ _)⟩)
    dsimp only [Pt.U, Pt.locs, Pt.cells, Pt.slots] at X70 l70 y70 z70 st70 hQ70
    subst l70 y70 z70
    refine Go.tr st70 ?_
    obtain ⟨rfl, N70q, e70⟩ := hQ70
    have N70 := Fr.app N69 N70q
    refine G (fun t k => XS.ifNo X70.here hx rfl (hb hby at_104) rfl ((if0 _ _).trans (teq (by decide : (0 : Int32) = (0 : Int32))).2) (XS.iconst X70.here hx rfl (hb hby at_107) k)) ?_
    show Go _ _ _ (T70.setTop (mkF m 108 #[vi p1, vi p2, vi p3, vi p4, vi p5, vi p6, vi 3, vr y63, vr y64, vr b65, vi 1, vi jn, vi 1, vi 1, us, us, us, us] [(.int 1)])) _
    refine G (fun t k => XS.goto X70.here hx rfl (pc0 := 108) (pc' := 112) rfl (hb hby at_108) (by decide) (by decide) (XS.istore X70.here hx rfl (hb hby at_112) rfl (l' := #[vi p1, vi p2, vi p3, vi p4, vi p5, vi p6, vi 3, vr y63, vr y64, vr b65, vi 1, vi jn, vi 1, vi 1, vi 1, us, us, us]) rfl (XS.aload X70.here hx rfl (hb hby at_114) rfl rfl k))) ?_
    obtain ⟨cq71, kq71, q71a, q71b, q71c⟩ := isOf hZ e70 E_b65
    obtain ⟨_, _, ⟨T71, L71, k71, n71⟩, -, X71, ⟨Lc71, hQ71, l71, y71, z71⟩, st71⟩ := X70.virtualBack hx (y := (⟨RC, "values", "()[I"⟩ : MethodName)) (z := (⟨RC, "values", "()[I"⟩ : MethodName)) hown (mvT hZ (wd47 hw)) (mvT hZ (wd48 hw)) (notFace_of_selects (args := #[]) (mvT hZ (wd50 hw))) (mvT hZ (wd50 hw)) (mvT hZ (wd49 hw)) (by decide) (backOf (W := 0) (rm7 l Z a0 hw [] b65 jv hJ n0 Z0 F_b65_v) hZ (wd51 hw) (wd8 hw) (by decide) (by decide)) q71a q71c (g := (mkF m 116 #[vi p1, vi p2, vi p3, vi p4, vi p5, vi p6, vi 3, vr y63, vr y64, vr b65, vi 1, vi jn, vi 1, vi 1, vi 1, us, us, us] [(.ref b65)])) rfl (by rw [hml]; rfl) (Steps.refl _) (argsL := []) (rest := []) (lenOf pd13 rfl) rfl (by show 2 * 0 + _ ≤ _; exact Nat.le_of_eq rfl) (hb hby at_116) (fun _ _ => ⟨rfl, e70, (by decide : 12 + 0 ≤ _), (by decide : 300 + 0 ≤ _)⟩)
    dsimp only [Pt.U, Pt.locs, Pt.cells, Pt.slots] at X71 l71 y71 z71 st71 hQ71
    subst l71 y71 z71
    refine Go.tr st71 ?_
    obtain ⟨rfl, N71q, e71⟩ := hQ71
    have N71 := Fr.app N70 N71q
    obtain ⟨LL71, X71, N71⟩ : ∃ LL, Stand p l e room_1 s m #[(.int p1), (.int p2), (.int p3), (.int p4), (.int p5), (.int p6)] below meth c T71 LL 12 300 ∧ Fr n0 LL := ⟨_, X71, N71⟩
    obtain ⟨cl72, Ar72, -, Sz72, Ng72, -, -⟩ := id V_jv
    refine G (fun t k => X71.arraylength hx (by rw [e71]; exact Ar72.1) (State.isArrayOf_alike hZ.alike Ar72.2.1) (g := (mkF m 119 #[vi p1, vi p2, vi p3, vi p4, vi p5, vi p6, vi 3, vr y63, vr y64, vr b65, vi 1, vi jn, vi 1, vi 1, vi 1, us, us, us] [(.ref jv)])) rfl rfl (hb hby at_119) _ k) ?_
    rw [len_of Sz72 Ng72]
    refine G (fun t k => XS.iload X71.here hx rfl (hb hby at_120) rfl (XS.icmpNo X71.here hx rfl (hb hby at_122) rfl (teq (rfl : jn = jn)).2 k)) ?_
    show Go _ _ _ (T71.setTop (mkF m 125 #[vi p1, vi p2, vi p3, vi p4, vi p5, vi p6, vi 3, vr y63, vr y64, vr b65, vi 1, vi jn, vi 1, vi 1, vi 1, us, us, us] [])) _
    refine G (fun t k => XS.iconst X71.here hx rfl (hb hby at_125) (XS.goto X71.here hx rfl (pc0 := 126) (pc' := 130) rfl (hb hby at_126) (by decide) (by decide) (XS.istore X71.here hx rfl (hb hby at_130) rfl (l' := #[vi p1, vi p2, vi p3, vi p4, vi p5, vi p6, vi 3, vr y63, vr y64, vr b65, vi 1, vi jn, vi 1, vi 1, vi 1, vi 1, us, us]) rfl (XS.aload X71.here hx rfl (hb hby at_132) rfl rfl (XS.aload X71.here hx rfl (hb hby at_134) rfl rfl k))))) ?_
    obtain ⟨cq73, kq73, q73a, q73b, q73c⟩ := isOf hZ e71 E_b65
    obtain ⟨_, _, ⟨T73, L73, k73, n73⟩, -, X73, ⟨Lc73, hQ73, l73, y73, z73⟩, st73⟩ := X71.virtualBack hx (y := (⟨RC, "add", "([I)Z"⟩ : MethodName)) (z := (⟨RC, "add", "([I)Z"⟩ : MethodName)) hown (mvT hZ (wd32 hw)) (mvT hZ (wd33 hw)) (notFace_of_selects (args := #[]) (mvT hZ (wd35 hw))) (mvT hZ (wd35 hw)) (mvT hZ (wd34 hw)) (by decide) (backOf (W := 0) (rm5_3_N l Z a0 hw [] b65 y63 jv jk jn p3 p4 p5 w_NI k_NI (0 : Int32) k_y63 p3 p4 p5 hJ n0 Z0 E_b65 V_jv V_NI F_b65_a F_b65_v F_b65_s F_b65_m F_b65_i F_b65_h V_y63 hjn (Ne.symm nj_b65) ne_w_NI_b65 nj_w_NI ne_y63_b65 nj_y63 (Ne.symm ne_w_NI_y63) g_jv g_b65) hZ (wd36 hw) (wd8 hw) (by decide) (by decide)) q73a q73c (g := (mkF m 136 #[vi p1, vi p2, vi p3, vi p4, vi p5, vi p6, vi 3, vr y63, vr y64, vr b65, vi 1, vi jn, vi 1, vi 1, vi 1, vi 1, us, us] [(.ref y63), (.ref b65)])) rfl (by rw [hml]; rfl) (Steps.refl _) (argsL := [(.ref y63)]) (rest := []) (lenOf pd5 rfl) rfl (by show 2 * 0 + _ ≤ _; exact Nat.le_of_eq rfl) (hb hby at_136) (fun _ _ => ⟨rfl, e71, (by decide : 12 + 0 ≤ _), (by decide : 300 + 0 ≤ _)⟩)
    dsimp only [Pt.U, Pt.locs, Pt.cells, Pt.slots] at X73 l73 y73 z73 st73 hQ73
    subst l73 y73 z73
    have E_b65_pre := E_b65
    have F_b65_size_pre := F_b65_s
    have F_b65_members_pre := F_b65_m
    have F_b65_holdingAny_pre := F_b65_h
    have F_b65_indexes_pre := F_b65_i
    have F_b65_values_pre := F_b65_v
    have F_b65_arity_pre := F_b65_a
    have V_jv_pre := V_jv
    obtain ⟨h73, e73⟩ : ∃ z, T73.heap = z := ⟨_, rfl⟩
    rw [e73] at hQ73
    obtain ⟨zh73, rfl, N73q, K73, Q73_0, Q73_1, Q73_2, Q73_3, Q73_4, Q73_5, Q73_6, Q73_7⟩ := hQ73
    refine Go.tr st73 ?_
    replace V_NI := V_NI.keep K73 (ninS nj_w_NI (ninS ne_w_NI_b65 nin0))
    replace S_NI := sta_keep S_NI K73 (allS (arv_ns V_jv_pre) (allS (exa_ns E_b65_pre) all0))
    replace V_y63 := V_y63.keep K73 (ninS nj_y63 (ninS ne_y63_b65 nin0))
    replace V_y64 := V_y64.keep K73 (ninS nj_y64 (ninS ne_y64_b65 nin0))
    replace E_b65 := E_b65.keep K73
    replace Z0 := Nat.le_trans Z0 K73.1
    replace K0 := K0.trans K73 (allS (Or.inr sz_jv) (allS (Or.inr sz_b65) all0))
    have E_b65 := Q73_0
    have F_b65_a := Q73_1
    have F_b65_v := Q73_2
    have F_b65_s := Q73_3
    have F_b65_m := Q73_4
    have F_b65_i := Q73_5
    have F_b65_h := Q73_6
    have V_jv := Q73_7
    have N73 := Fr.app N71 N73q
    refine G (fun t k => XS.istore X73.here hx rfl (hb hby at_139) rfl (l' := #[vi p1, vi p2, vi p3, vi p4, vi p5, vi p6, vi 3, vr y63, vr y64, vr b65, vi 1, vi jn, vi 1, vi 1, vi 1, vi 1, vi 1, us]) rfl k) ?_
    show Go _ _ _ (T73.setTop (mkF m 141 #[vi p1, vi p2, vi p3, vi p4, vi p5, vi p6, vi 3, vr y63, vr y64, vr b65, vi 1, vi jn, vi 1, vi 1, vi 1, vi 1, vi 1, us] [])) _
    refine G (fun t k => XS.aload X73.here hx rfl (hb hby at_141) rfl rfl (XS.aload X73.here hx rfl (hb hby at_143) rfl rfl k)) ?_
    obtain ⟨cq74, kq74, q74a, q74b, q74c⟩ := isOf hZ e73 E_b65
    obtain ⟨_, _, ⟨T74, L74, k74, n74⟩, -, X74, ⟨Lc74, hQ74, l74, y74, z74⟩, st74⟩ := X73.virtualBack hx (y := (⟨RC, "contains", "([I)Z"⟩ : MethodName)) (z := (⟨RC, "contains", "([I)Z"⟩ : MethodName)) hown (mvT hZ (wd69 hw)) (mvT hZ (wd38 hw)) (notFace_of_selects (args := #[]) (mvT hZ (wd40 hw))) (mvT hZ (wd40 hw)) (mvT hZ (wd39 hw)) (by decide) (backOf (W := 0) (rm6_3_1 l Z a0 hw [] b65 y64 jv jk jn p3 p4 p5 w_NI k_NI zh73 k_y64 p6 p4 p5 h73 n0 Z0 E_b65 V_jv V_NI F_b65_a F_b65_v F_b65_s F_b65_m F_b65_i F_b65_h V_y64 hjn (Ne.symm nj_b65) ne_w_NI_b65 nj_w_NI ne_y64_b65 nj_y64 (Ne.symm ne_w_NI_y64)) hZ (wd41 hw) (wd8 hw) (by decide) (by decide)) q74a q74c (g := (mkF m 145 #[vi p1, vi p2, vi p3, vi p4, vi p5, vi p6, vi 3, vr y63, vr y64, vr b65, vi 1, vi jn, vi 1, vi 1, vi 1, vi 1, vi 1, us] [(.ref y64), (.ref b65)])) rfl (by rw [hml]; rfl) (Steps.refl _) (argsL := [(.ref y64)]) (rest := []) (lenOf pd5 rfl) rfl (by show 2 * 0 + _ ≤ _; exact Nat.le_of_eq rfl) (hb hby at_145) (fun _ _ => ⟨rfl, e73, (by decide : 12 + 0 ≤ _), (by decide : 300 + 0 ≤ _)⟩)
    dsimp only [Pt.U, Pt.locs, Pt.cells, Pt.slots] at X74 l74 y74 z74 st74 hQ74
    subst l74 y74 z74
    refine Go.tr st74 ?_
    obtain ⟨rfl, N74q, e74⟩ := hQ74
    have N74 := Fr.app N73 N74q
    show Go _ _ _ (T74.setTop (mkF m 148 #[vi p1, vi p2, vi p3, vi p4, vi p5, vi p6, vi 3, vr y63, vr y64, vr b65, vi 1, vi jn, vi 1, vi 1, vi 1, vi 1, vi 1, us] [(.int (f6_3_1 p3 p4 p5 p6 p4 p5))])) _
    by_cases hc75 : p3 = p6
    ·rw [show (f6_3_1 p3 p4 p5 p6 p4 p5) = (1 : Int32) from by unfold f6_3_1; simp only [if_pos hc75, if_pos (rfl : p4 = p4), if_pos (rfl : p5 = p5), if_true, if_false]]
     show Go _ _ _ (T74.setTop (mkF m 148 #[vi p1, vi p2, vi p3, vi p4, vi p5, vi p6, vi 3, vr y63, vr y64, vr b65, vi 1, vi jn, vi 1, vi 1, vi 1, vi 1, vi 1, us] [(.int 1)])) _
     refine G (fun t k => XS.iload X74.here hx rfl (hb hby at_148) rfl (XS.iloadN X74.here hx rfl (hb hby at_150) rfl (XS.icmpNo X74.here hx rfl (hb hby at_151) rfl (teq (Eq.symm hc75)).2 (XS.iconst X74.here hx rfl (hb hby at_154) (XS.goto X74.here hx rfl (pc0 := 155) (pc' := 159) rfl (hb hby at_155) (by decide) (by decide) (XS.icmpNo X74.here hx rfl (hb hby at_159) rfl (teq (by decide : (1 : Int32) = (1 : Int32))).2 k)))))) ?_
     refine G (fun t k => XS.iconst X74.here hx rfl (hb hby at_162) k) ?_
     show Go _ _ _ (T74.setTop (mkF m 163 #[vi p1, vi p2, vi p3, vi p4, vi p5, vi p6, vi 3, vr y63, vr y64, vr b65, vi 1, vi jn, vi 1, vi 1, vi 1, vi 1, vi 1, us] [(.int 1)])) _
     refine G (fun t k => XS.goto X74.here hx rfl (pc0 := 163) (pc' := 167) rfl (hb hby at_163) (by decide) (by decide) (XS.istore X74.here hx rfl (hb hby at_167) rfl (l' := #[vi p1, vi p2, vi p3, vi p4, vi p5, vi p6, vi 3, vr y63, vr y64, vr b65, vi 1, vi jn, vi 1, vi 1, vi 1, vi 1, vi 1, vi 1]) rfl (XS.iload X74.here hx rfl (hb hby at_169) rfl (XS.ifNo X74.here hx rfl (hb hby at_171) rfl ((if0 _ _).trans (feq (by decide : ¬ ((1 : Int32) = (0 : Int32)))).1) (XS.iload X74.here hx rfl (hb hby at_174) rfl (XS.ifNo X74.here hx rfl (hb hby at_176) rfl ((if0 _ _).trans (feq (by decide : ¬ ((1 : Int32) = (0 : Int32)))).1) k)))))) ?_
     refine G (fun t k => XS.iload X74.here hx rfl (hb hby at_179) rfl k) ?_
     show Go _ _ _ (T74.setTop (mkF m 181 #[vi p1, vi p2, vi p3, vi p4, vi p5, vi p6, vi 3, vr y63, vr y64, vr b65, vi 1, vi jn, vi 1, vi 1, vi 1, vi 1, vi 1, vi 1] [(.int 1)])) _
     refine G (fun t k => XS.ifNo X74.here hx rfl (hb hby at_181) rfl ((if0 _ _).trans (feq (by decide : ¬ ((1 : Int32) = (0 : Int32)))).1) (XS.iload X74.here hx rfl (hb hby at_184) rfl (XS.ifNo X74.here hx rfl (hb hby at_186) rfl ((if0 _ _).trans (feq (by decide : ¬ ((1 : Int32) = (0 : Int32)))).1) (XS.iload X74.here hx rfl (hb hby at_189) rfl (XS.ifNo X74.here hx rfl (hb hby at_191) rfl ((if0 _ _).trans (feq (by decide : ¬ ((1 : Int32) = (0 : Int32)))).1) (XS.iload X74.here hx rfl (hb hby at_194) rfl k)))))) ?_
     refine G (fun t k => XS.ifNo X74.here hx rfl (hb hby at_196) rfl ((if0 _ _).trans (feq (by decide : ¬ ((1 : Int32) = (0 : Int32)))).1) k) ?_
     show Go _ _ _ (T74.setTop (mkF m 199 #[vi p1, vi p2, vi p3, vi p4, vi p5, vi p6, vi 3, vr y63, vr y64, vr b65, vi 1, vi jn, vi 1, vi 1, vi 1, vi 1, vi 1, vi 1] [])) _
     refine G (fun t k => XS.iload X74.here hx rfl (hb hby at_199) rfl (XS.ifNo X74.here hx rfl (hb hby at_201) rfl ((if0 _ _).trans (feq (by decide : ¬ ((1 : Int32) = (0 : Int32)))).1) (XS.iconst X74.here hx rfl (hb hby at_204) (XS.goto X74.here hx rfl (pc0 := 205) (pc' := 209) rfl (hb hby at_205) (by decide) (by decide) k)))) ?_
     obtain ⟨fs, hr, hrun, hended, hW, hsame⟩ := X74.leave (v := some (.int (1 : Int32))) (fun h => by rw [Bd.returns] at h; cases h)
     refine Go.fin (retN X74 hx (t := .boolean) Bd.returns (by simp) (hb hby at_209) hr) hrun hended ⟨_, _, rfl, ?_, ⟨_, rfl⟩, hW, hsame.mono (by decide) (by decide)⟩
     show Q0 Z p1 p2 p3 p4 p5 p6 w_NI k_NI h0 n0 _ T74.heap _
     rw [e74]
     exact ⟨rfl, N74⟩
    ·rw [show (f6_3_1 p3 p4 p5 p6 p4 p5) = (0 : Int32) from by unfold f6_3_1; simp only [if_neg hc75, if_true, if_false]]
     show Go _ _ _ (T74.setTop (mkF m 148 #[vi p1, vi p2, vi p3, vi p4, vi p5, vi p6, vi 3, vr y63, vr y64, vr b65, vi 1, vi jn, vi 1, vi 1, vi 1, vi 1, vi 1, us] [(.int 0)])) _
     refine G (fun t k => XS.iload X74.here hx rfl (hb hby at_148) rfl (XS.iloadN X74.here hx rfl (hb hby at_150) rfl (XS.icmpYes X74.here hx rfl (pc0 := 151) (pc' := 158) rfl (hb hby at_151) rfl (feq (show ¬ (p6 = p3) from fun z => hc75 z.symm)).2 (by decide) (by decide) (XS.iconst X74.here hx rfl (hb hby at_158) (XS.icmpNo X74.here hx rfl (hb hby at_159) rfl (teq (by decide : (0 : Int32) = (0 : Int32))).2 (XS.iconst X74.here hx rfl (hb hby at_162) k)))))) ?_
     refine G (fun t k => XS.goto X74.here hx rfl (pc0 := 163) (pc' := 167) rfl (hb hby at_163) (by decide) (by decide) k) ?_
     show Go _ _ _ (T74.setTop (mkF m 167 #[vi p1, vi p2, vi p3, vi p4, vi p5, vi p6, vi 3, vr y63, vr y64, vr b65, vi 1, vi jn, vi 1, vi 1, vi 1, vi 1, vi 1, us] [(.int 1)])) _
     refine G (fun t k => XS.istore X74.here hx rfl (hb hby at_167) rfl (l' := #[vi p1, vi p2, vi p3, vi p4, vi p5, vi p6, vi 3, vr y63, vr y64, vr b65, vi 1, vi jn, vi 1, vi 1, vi 1, vi 1, vi 1, vi 1]) rfl (XS.iload X74.here hx rfl (hb hby at_169) rfl (XS.ifNo X74.here hx rfl (hb hby at_171) rfl ((if0 _ _).trans (feq (by decide : ¬ ((1 : Int32) = (0 : Int32)))).1) (XS.iload X74.here hx rfl (hb hby at_174) rfl (XS.ifNo X74.here hx rfl (hb hby at_176) rfl ((if0 _ _).trans (feq (by decide : ¬ ((1 : Int32) = (0 : Int32)))).1) (XS.iload X74.here hx rfl (hb hby at_179) rfl k)))))) ?_
     refine G (fun t k => XS.ifNo X74.here hx rfl (hb hby at_181) rfl ((if0 _ _).trans (feq (by decide : ¬ ((1 : Int32) = (0 : Int32)))).1) k) ?_
     show Go _ _ _ (T74.setTop (mkF m 184 #[vi p1, vi p2, vi p3, vi p4, vi p5, vi p6, vi 3, vr y63, vr y64, vr b65, vi 1, vi jn, vi 1, vi 1, vi 1, vi 1, vi 1, vi 1] [])) _
     refine G (fun t k => XS.iload X74.here hx rfl (hb hby at_184) rfl (XS.ifNo X74.here hx rfl (hb hby at_186) rfl ((if0 _ _).trans (feq (by decide : ¬ ((1 : Int32) = (0 : Int32)))).1) (XS.iload X74.here hx rfl (hb hby at_189) rfl (XS.ifNo X74.here hx rfl (hb hby at_191) rfl ((if0 _ _).trans (feq (by decide : ¬ ((1 : Int32) = (0 : Int32)))).1) (XS.iload X74.here hx rfl (hb hby at_194) rfl (XS.ifNo X74.here hx rfl (hb hby at_196) rfl ((if0 _ _).trans (feq (by decide : ¬ ((1 : Int32) = (0 : Int32)))).1) k)))))) ?_
     refine G (fun t k => XS.iload X74.here hx rfl (hb hby at_199) rfl k) ?_
     show Go _ _ _ (T74.setTop (mkF m 201 #[vi p1, vi p2, vi p3, vi p4, vi p5, vi p6, vi 3, vr y63, vr y64, vr b65, vi 1, vi jn, vi 1, vi 1, vi 1, vi 1, vi 1, vi 1] [(.int 1)])) _
     refine G (fun t k => XS.ifNo X74.here hx rfl (hb hby at_201) rfl ((if0 _ _).trans (feq (by decide : ¬ ((1 : Int32) = (0 : Int32)))).1) (XS.iconst X74.here hx rfl (hb hby at_204) (XS.goto X74.here hx rfl (pc0 := 205) (pc' := 209) rfl (hb hby at_205) (by decide) (by decide) k))) ?_
     obtain ⟨fs, hr, hrun, hended, hW, hsame⟩ := X74.leave (v := some (.int (1 : Int32))) (fun h => by rw [Bd.returns] at h; cases h)
     refine Go.fin (retN X74 hx (t := .boolean) Bd.returns (by simp) (hb hby at_209) hr) hrun hended ⟨_, _, rfl, ?_, ⟨_, rfl⟩, hW, hsame.mono (by decide) (by decide)⟩
     show Q0 Z p1 p2 p3 p4 p5 p6 w_NI k_NI h0 n0 _ T74.heap _
     rw [e74]
     exact ⟨rfl, N74⟩
   show Go _ _ _ (T66.setTop (mkF m 50 #[vi p1, vi p2, vi p3, vi p4, vi p5, vi p6, vi 3, vr y63, vr y64, vr b65, us, us, us, us, us, us, us, us] [(.int (p2 &&& (15 : Int32))), (.ref b65)])) _
   by_cases hc76 : (8 : Int32) < (p2 &&& (15 : Int32))
   ·show Go _ _ _ (T66.setTop (mkF m 50 #[vi p1, vi p2, vi p3, vi p4, vi p5, vi p6, vi 3, vr y63, vr y64, vr b65, us, us, us, us, us, us, us, us] [(.int (p2 &&& (15 : Int32))), (.ref b65)])) _
    obtain ⟨cq77, kq77, q77a, q77b, q77c⟩ := isOf hZ e66 E_b65
    obtain ⟨_, _, ⟨T77, L77, k77, n77⟩, -, X77, ⟨Lc77, hQ77, l77, y77, z77⟩, st77⟩ := X66.virtualBack hx (y := (⟨RC, "reserve", "(I)V"⟩ : MethodName)) (z := (⟨RC, "reserve", "(I)V"⟩ : MethodName)) hown (mvT hZ (wd23 hw)) (mvT hZ (wd24 hw)) (notFace_of_selects (args := #[]) (mvT hZ (wd26 hw))) (mvT hZ (wd26 hw)) (mvT hZ (wd25 hw)) (by decide) (backOf (W := 0) (rm4_3_2 l Z a0 hw [] b65 (p2 &&& (15 : Int32)) y66 k_y66 w_NI k_NI (0 : Int32) h66 n0 Z0 E_b65 V_y66 V_NI F_b65_a F_b65_v F_b65_s F_b65_m F_b65_i F_b65_h (Ne.symm ne_b65_y66) ne_w_NI_b65 ne_w_NI_y66 (own_15 _) (own_48 hc76) hc76 g_b65) hZ (wd27 hw) (wd8 hw) (by decide) (by decide)) q77a q77c (g := (mkF m 50 #[vi p1, vi p2, vi p3, vi p4, vi p5, vi p6, vi 3, vr y63, vr y64, vr b65, us, us, us, us, us, us, us, us] [(.int (p2 &&& (15 : Int32))), (.ref b65)])) rfl (by rw [hml]; rfl) (Steps.refl _) (argsL := [(.int (p2 &&& (15 : Int32)))]) (rest := []) (lenOf pd1 rfl) rfl (by show 2 * 0 + _ ≤ _; exact Nat.le_of_eq rfl) (hb hby at_50) (fun _ _ => ⟨rfl, e66, (by decide : 4 + 5 ≤ _), (by decide : 24 + 197 ≤ _)⟩)
    dsimp only [Pt.U, Pt.locs, Pt.cells, Pt.slots] at X77 l77 y77 z77 st77 hQ77
    subst l77 y77 z77
    have E_b65_pre := E_b65
    have F_b65_size_pre := F_b65_s
    have F_b65_members_pre := F_b65_m
    have F_b65_holdingAny_pre := F_b65_h
    have F_b65_indexes_pre := F_b65_i
    have F_b65_values_pre := F_b65_v
    have F_b65_arity_pre := F_b65_a
    obtain ⟨h77, e77⟩ : ∃ z, T77.heap = z := ⟨_, rfl⟩
    rw [e77] at hQ77
    obtain ⟨y77, y77a, y77b, y77c, y77d, k_y77, k_y77b, k_y77c, k_y77d, rfl, N77q, K77, ng_y77, sz0_y77, ng_y77a, sz0_y77a, ng_y77b, sz0_y77b, ng_y77c, sz0_y77c, ng_y77d, sz0_y77d, nef_y77_y77a, nef_y77_y77b, nef_y77_y77c, nef_y77_y77d, nef_y77a_y77b, nef_y77a_y77c, nef_y77a_y77d, nef_y77b_y77c, nef_y77b_y77d, nef_y77c_y77d, Q77_0, Q77_1, Q77_2, Q77_3, Q77_4, Q77_5, Q77_6, Q77_7, Q77_8, Q77_9, Q77_10, Q77_11, Q77_12, Q77_13, Q77_14, Q77_15, Q77_16⟩ := hQ77
    refine Go.tr st77 ?_
    have ne_w_NI_y77 : w_NI ≠ y77 := Nat.ne_of_lt (Nat.lt_of_lt_of_le V_NI.lt sz0_y77)
    have ne_y63_y77 : y63 ≠ y77 := Nat.ne_of_lt (Nat.lt_of_lt_of_le V_y63.lt sz0_y77)
    have ne_y64_y77 : y64 ≠ y77 := Nat.ne_of_lt (Nat.lt_of_lt_of_le V_y64.lt sz0_y77)
    have ne_b65_y77 : b65 ≠ y77 := Nat.ne_of_lt (Nat.lt_of_lt_of_le E_b65.lt sz0_y77)
    have ne_y66_y77 : y66 ≠ y77 := Nat.ne_of_lt (Nat.lt_of_lt_of_le V_y66.lt sz0_y77)
    have g_y77 : n0 ≤ y77 := ng_y77
    have sz_y77 : h0.size ≤ y77 := Nat.le_trans K0.1 sz0_y77
    have ne_w_NI_y77a : w_NI ≠ y77a := Nat.ne_of_lt (Nat.lt_of_lt_of_le V_NI.lt sz0_y77a)
    have ne_y63_y77a : y63 ≠ y77a := Nat.ne_of_lt (Nat.lt_of_lt_of_le V_y63.lt sz0_y77a)
    have ne_y64_y77a : y64 ≠ y77a := Nat.ne_of_lt (Nat.lt_of_lt_of_le V_y64.lt sz0_y77a)
    have ne_b65_y77a : b65 ≠ y77a := Nat.ne_of_lt (Nat.lt_of_lt_of_le E_b65.lt sz0_y77a)
    have ne_y66_y77a : y66 ≠ y77a := Nat.ne_of_lt (Nat.lt_of_lt_of_le V_y66.lt sz0_y77a)
    have g_y77a : n0 ≤ y77a := ng_y77a
    have sz_y77a : h0.size ≤ y77a := Nat.le_trans K0.1 sz0_y77a
    have ne_w_NI_y77b : w_NI ≠ y77b := Nat.ne_of_lt (Nat.lt_of_lt_of_le V_NI.lt sz0_y77b)
    have ne_y63_y77b : y63 ≠ y77b := Nat.ne_of_lt (Nat.lt_of_lt_of_le V_y63.lt sz0_y77b)
    have ne_y64_y77b : y64 ≠ y77b := Nat.ne_of_lt (Nat.lt_of_lt_of_le V_y64.lt sz0_y77b)
    have ne_b65_y77b : b65 ≠ y77b := Nat.ne_of_lt (Nat.lt_of_lt_of_le E_b65.lt sz0_y77b)
    have ne_y66_y77b : y66 ≠ y77b := Nat.ne_of_lt (Nat.lt_of_lt_of_le V_y66.lt sz0_y77b)
    have g_y77b : n0 ≤ y77b := ng_y77b
    have sz_y77b : h0.size ≤ y77b := Nat.le_trans K0.1 sz0_y77b
    have ne_w_NI_y77c : w_NI ≠ y77c := Nat.ne_of_lt (Nat.lt_of_lt_of_le V_NI.lt sz0_y77c)
    have ne_y63_y77c : y63 ≠ y77c := Nat.ne_of_lt (Nat.lt_of_lt_of_le V_y63.lt sz0_y77c)
    have ne_y64_y77c : y64 ≠ y77c := Nat.ne_of_lt (Nat.lt_of_lt_of_le V_y64.lt sz0_y77c)
    have ne_b65_y77c : b65 ≠ y77c := Nat.ne_of_lt (Nat.lt_of_lt_of_le E_b65.lt sz0_y77c)
    have ne_y66_y77c : y66 ≠ y77c := Nat.ne_of_lt (Nat.lt_of_lt_of_le V_y66.lt sz0_y77c)
    have g_y77c : n0 ≤ y77c := ng_y77c
    have sz_y77c : h0.size ≤ y77c := Nat.le_trans K0.1 sz0_y77c
    have ne_w_NI_y77d : w_NI ≠ y77d := Nat.ne_of_lt (Nat.lt_of_lt_of_le V_NI.lt sz0_y77d)
    have ne_y63_y77d : y63 ≠ y77d := Nat.ne_of_lt (Nat.lt_of_lt_of_le V_y63.lt sz0_y77d)
    have ne_y64_y77d : y64 ≠ y77d := Nat.ne_of_lt (Nat.lt_of_lt_of_le V_y64.lt sz0_y77d)
    have ne_b65_y77d : b65 ≠ y77d := Nat.ne_of_lt (Nat.lt_of_lt_of_le E_b65.lt sz0_y77d)
    have ne_y66_y77d : y66 ≠ y77d := Nat.ne_of_lt (Nat.lt_of_lt_of_le V_y66.lt sz0_y77d)
    have g_y77d : n0 ≤ y77d := ng_y77d
    have sz_y77d : h0.size ≤ y77d := Nat.le_trans K0.1 sz0_y77d
    replace V_NI := V_NI.keep K77 (ninS ne_w_NI_b65 nin0)
    replace S_NI := sta_keep S_NI K77 (allS (exa_ns E_b65_pre) all0)
    replace V_y63 := V_y63.keep K77 (ninS ne_y63_b65 nin0)
    replace V_y64 := V_y64.keep K77 (ninS ne_y64_b65 nin0)
    replace E_b65 := E_b65.keep K77
    replace V_y66 := V_y66.keep K77 (ninS (Ne.symm ne_b65_y66) nin0)
    replace Z0 := Nat.le_trans Z0 K77.1
    replace K0 := K0.trans K77 (allS (Or.inr sz_b65) all0)
    have E_b65 := Q77_0
    have F_b65_a := Q77_1
    have F_b65_v := Q77_2
    have F_b65_s := Q77_3
    have F_b65_m := Q77_4
    have F_b65_i := Q77_5
    have F_b65_h := Q77_6
    have V_y77 := Q77_7
    have E_y77a := Q77_8
    have V_y77b := Q77_9
    have F_y77a_keys := Q77_10
    have F_y77a_this_0 := Q77_11
    have F_y77a_p := Q77_12
    have F_y77a_l := Q77_13
    have F_y77a_next := Q77_14
    have V_y77c := Q77_15
    have V_y77d := Q77_16
    have N77 := Fr.app N66 N77q
    obtain ⟨LL77, X77, N77⟩ : ∃ LL, Stand p l e room_1 s m #[(.int p1), (.int p2), (.int p3), (.int p4), (.int p5), (.int p6)] below meth c T77 LL 9 221 ∧ Fr n0 LL := ⟨_, X77, N77⟩
    show Go _ _ _ (T77.setTop (mkF m 53 #[vi p1, vi p2, vi p3, vi p4, vi p5, vi p6, vi 3, vr y63, vr y64, vr b65, us, us, us, us, us, us, us, us] [])) _
    replace V_y77 : Arv Z h77 y77 k_y77 .int ((p2 &&& (15 : Int32)) * (3 : Int32)) [(.int (0 : Int32)), (.int (0 : Int32)), (.int (0 : Int32))] (.int (0 : Int32)) := V_y77.pad (pad_rep [] (.int (0 : Int32)) 3)
    refine G (fun t k => XS.aload X77.here hx rfl (hb hby at_53) rfl rfl (XS.aload X77.here hx rfl (hb hby at_55) rfl rfl k)) ?_
    obtain ⟨cq78, kq78, q78a, q78b, q78c⟩ := isOf hZ e77 E_b65
    obtain ⟨_, _, ⟨T78, L78, k78, n78⟩, -, X78, ⟨Lc78, hQ78, l78, y78, z78⟩, st78⟩ := X77.virtualBack hx (y := (⟨RC, "add", "([I)Z"⟩ : MethodName)) (z := (⟨RC, "add", "([I)Z"⟩ : MethodName)) hown (mvT hZ (wd32 hw)) (mvT hZ (wd33 hw)) (notFace_of_selects (args := #[]) (mvT hZ (wd35 hw))) (mvT hZ (wd35 hw)) (mvT hZ (wd34 hw)) (by decide) (backOf (W := 0) (rm5_3_R l Z a0 hw [] b65 y63 y77 k_y77 ((p2 &&& (15 : Int32)) * (3 : Int32)) (0 : Int32) (0 : Int32) (0 : Int32) w_NI k_NI (0 : Int32) k_y63 p3 p4 p5 y77a y77b y77c y77d k_y77b k_y77c k_y77d h77 n0 Z0 E_b65 V_y77 V_NI F_b65_a F_b65_v F_b65_s F_b65_m F_b65_i F_b65_h V_y63 E_y77a F_y77a_p F_y77a_l F_y77a_next F_y77a_keys V_y77b V_y77c V_y77d F_y77a_this_0 (own_ge (own_big _ 3 12 3 rfl rfl (by decide) (own_15 _) (own_48 hc76))) (Ne.symm ne_b65_y77) ne_w_NI_b65 ne_w_NI_y77 ne_y63_b65 ne_y63_y77 (Ne.symm ne_w_NI_y63) (Ne.symm ne_b65_y77a) (Ne.symm nef_y77_y77a) (Ne.symm ne_w_NI_y77a) (Ne.symm ne_y63_y77a) (Ne.symm ne_b65_y77b) (Ne.symm nef_y77_y77b) (Ne.symm ne_w_NI_y77b) (Ne.symm ne_y63_y77b) (Ne.symm nef_y77a_y77b) (Ne.symm ne_b65_y77c) (Ne.symm nef_y77_y77c) (Ne.symm ne_w_NI_y77c) (Ne.symm ne_y63_y77c) (Ne.symm nef_y77a_y77c) (Ne.symm nef_y77b_y77c) (Ne.symm ne_b65_y77d) (Ne.symm nef_y77_y77d) (Ne.symm ne_w_NI_y77d) (Ne.symm ne_y63_y77d) (Ne.symm nef_y77a_y77d) (Ne.symm nef_y77b_y77d) (Ne.symm nef_y77c_y77d) g_y77 g_y77d g_y77c g_y77a g_b65) hZ (wd36 hw) (wd8 hw) (by decide) (by decide)) q78a q78c (g := (mkF m 57 #[vi p1, vi p2, vi p3, vi p4, vi p5, vi p6, vi 3, vr y63, vr y64, vr b65, us, us, us, us, us, us, us, us] [(.ref y63), (.ref b65)])) rfl (by rw [hml]; rfl) (Steps.refl _) (argsL := [(.ref y63)]) (rest := []) (lenOf pd5 rfl) rfl (by show 2 * 0 + _ ≤ _; exact Nat.le_of_eq rfl) (hb hby at_57) (fun _ _ => ⟨rfl, e77, (by decide : 9 + 0 ≤ _), (by decide : 221 + 0 ≤ _)⟩)
    dsimp only [Pt.U, Pt.locs, Pt.cells, Pt.slots] at X78 l78 y78 z78 st78 hQ78
    subst l78 y78 z78
    have E_b65_pre := E_b65
    have F_b65_arity_pre := F_b65_a
    have F_b65_values_pre := F_b65_v
    have F_b65_size_pre := F_b65_s
    have F_b65_members_pre := F_b65_m
    have F_b65_indexes_pre := F_b65_i
    have F_b65_holdingAny_pre := F_b65_h
    have V_y77_pre := V_y77
    have E_y77a_pre := E_y77a
    have F_y77a_keys_pre := F_y77a_keys
    have F_y77a_this_0_pre := F_y77a_this_0
    have F_y77a_positions_pre := F_y77a_p
    have F_y77a_slots_pre := F_y77a_l
    have F_y77a_next_pre := F_y77a_next
    have V_y77c_pre := V_y77c
    have V_y77d_pre := V_y77d
    obtain ⟨h78, e78⟩ : ∃ z, T78.heap = z := ⟨_, rfl⟩
    rw [e78] at hQ78
    obtain ⟨zh78, rfl, N78q, K78, Q78_0, Q78_1, Q78_2, Q78_3, Q78_4, Q78_5, Q78_6, Q78_7⟩ := hQ78
    refine Go.tr st78 ?_
    replace V_NI := V_NI.keep K78 (ninS ne_w_NI_y77 (ninS ne_w_NI_y77d (ninS ne_w_NI_y77c (ninS ne_w_NI_y77a (ninS ne_w_NI_b65 nin0)))))
    replace S_NI := sta_keep S_NI K78 (allS (arv_ns V_y77_pre) (allS (arv_ns V_y77d_pre) (allS (arv_ns V_y77c_pre) (allS (exa_ns E_y77a_pre) (allS (exa_ns E_b65_pre) all0)))))
    replace V_y63 := V_y63.keep K78 (ninS ne_y63_y77 (ninS ne_y63_y77d (ninS ne_y63_y77c (ninS ne_y63_y77a (ninS ne_y63_b65 nin0)))))
    replace V_y64 := V_y64.keep K78 (ninS ne_y64_y77 (ninS ne_y64_y77d (ninS ne_y64_y77c (ninS ne_y64_y77a (ninS ne_y64_b65 nin0)))))
    replace E_b65 := E_b65.keep K78
    replace V_y66 := V_y66.keep K78 (ninS ne_y66_y77 (ninS ne_y66_y77d (ninS ne_y66_y77c (ninS ne_y66_y77a (ninS (Ne.symm ne_b65_y66) nin0)))))
    replace E_y77a := E_y77a.keep K78
    replace V_y77b := V_y77b.keep K78 (ninS (Ne.symm nef_y77_y77b) (ninS nef_y77b_y77d (ninS nef_y77b_y77c (ninS (Ne.symm nef_y77a_y77b) (ninS (Ne.symm ne_b65_y77b) nin0)))))
    replace Z0 := Nat.le_trans Z0 K78.1
    replace K0 := K0.trans K78 (allS (Or.inr sz_y77) (allS (Or.inr sz_y77d) (allS (Or.inr sz_y77c) (allS (Or.inr sz_y77a) (allS (Or.inr sz_b65) all0)))))
    have E_b65 := Q78_0
    have F_b65_a := Q78_1
    have F_b65_v := Q78_2
    have F_b65_s := Q78_3
    have F_b65_m := Q78_4
    have F_b65_i := Q78_5
    have F_b65_h := Q78_6
    have V_y77 := Q78_7
    have N78 := Fr.app N77 N78q
    refine G (fun t k => XS.istore X78.here hx rfl (hb hby at_60) rfl (l' := #[vi p1, vi p2, vi p3, vi p4, vi p5, vi p6, vi 3, vr y63, vr y64, vr b65, vi 1, us, us, us, us, us, us, us]) rfl (XS.aload X78.here hx rfl (hb hby at_62) rfl rfl k)) ?_
    obtain ⟨cq79, kq79, q79a, q79b, q79c⟩ := isOf hZ e78 E_b65
    obtain ⟨_, _, ⟨T79, L79, k79, n79⟩, -, X79, ⟨Lc79, hQ79, l79, y79, z79⟩, st79⟩ := X78.virtualBack hx (y := (⟨RC, "values", "()[I"⟩ : MethodName)) (z := (⟨RC, "values", "()[I"⟩ : MethodName)) hown (mvT hZ (wd47 hw)) (mvT hZ (wd48 hw)) (notFace_of_selects (args := #[]) (mvT hZ (wd50 hw))) (mvT hZ (wd50 hw)) (mvT hZ (wd49 hw)) (by decide) (backOf (W := 0) (rm7 l Z a0 hw [] b65 y77 h78 n0 Z0 F_b65_v) hZ (wd51 hw) (wd8 hw) (by decide) (by decide)) q79a q79c (g := (mkF m 64 #[vi p1, vi p2, vi p3, vi p4, vi p5, vi p6, vi 3, vr y63, vr y64, vr b65, vi 1, us, us, us, us, us, us, us] [(.ref b65)])) rfl (by rw [hml]; rfl) (Steps.refl _) (argsL := []) (rest := []) (lenOf pd13 rfl) rfl (by show 2 * 0 + _ ≤ _; exact Nat.le_of_eq rfl) (hb hby at_64) (fun _ _ => ⟨rfl, e78, (by decide : 9 + 0 ≤ _), (by decide : 221 + 0 ≤ _)⟩)
    dsimp only [Pt.U, Pt.locs, Pt.cells, Pt.slots] at X79 l79 y79 z79 st79 hQ79
    subst l79 y79 z79
    refine Go.tr st79 ?_
    obtain ⟨rfl, N79q, e79⟩ := hQ79
    have N79 := Fr.app N78 N79q
    obtain ⟨cl80, Ar80, -, Sz80, Ng80, -, -⟩ := id V_y77
    refine G (fun t k => X79.arraylength hx (by rw [e79]; exact Ar80.1) (State.isArrayOf_alike hZ.alike Ar80.2.1) (g := (mkF m 67 #[vi p1, vi p2, vi p3, vi p4, vi p5, vi p6, vi 3, vr y63, vr y64, vr b65, vi 1, us, us, us, us, us, us, us] [(.ref y77)])) rfl rfl (hb hby at_67) _ k) ?_
    rw [len_of Sz80 Ng80]
    show Go _ _ _ (T79.setTop (mkF m 68 #[vi p1, vi p2, vi p3, vi p4, vi p5, vi p6, vi 3, vr y63, vr y64, vr b65, vi 1, us, us, us, us, us, us, us] [(.int ((p2 &&& (15 : Int32)) * (3 : Int32)))])) _
    refine G (fun t k => XS.istore X79.here hx rfl (hb hby at_68) rfl (l' := #[vi p1, vi p2, vi p3, vi p4, vi p5, vi p6, vi 3, vr y63, vr y64, vr b65, vi 1, vi ((p2 &&& (15 : Int32)) * (3 : Int32)), us, us, us, us, us, us]) rfl (XS.aload X79.here hx rfl (hb hby at_70) rfl rfl k)) ?_
    obtain ⟨cq81, kq81, q81a, q81b, q81c⟩ := isOf hZ e79 E_b65
    obtain ⟨_, _, ⟨T81, L81, k81, n81⟩, -, X81, ⟨Lc81, hQ81, l81, y81, z81⟩, st81⟩ := X79.virtualBack hx (y := (⟨RC, "clear", "()V"⟩ : MethodName)) (z := (⟨RC, "clear", "()V"⟩ : MethodName)) hown (mvT hZ (wd52 hw)) (mvT hZ (wd53 hw)) (notFace_of_selects (args := #[]) (mvT hZ (wd55 hw))) (mvT hZ (wd55 hw)) (mvT hZ (wd54 hw)) (by decide) (backOf (W := 0) (rm8 l Z a0 hw [] b65 (3 : Int32) y77 ((.int (1 : Int32)) : Value) ((.int zh78) : Value) ((.ref y77a) : Value) w_NI ((.ref w_NI) : Value) h78 n0 Z0 F_b65_a F_b65_v E_b65 F_b65_s F_b65_h F_b65_m S_NI F_b65_i g_b65) hZ (wd56 hw) (wd8 hw) (by decide) (by decide)) q81a q81c (g := (mkF m 72 #[vi p1, vi p2, vi p3, vi p4, vi p5, vi p6, vi 3, vr y63, vr y64, vr b65, vi 1, vi ((p2 &&& (15 : Int32)) * (3 : Int32)), us, us, us, us, us, us] [(.ref b65)])) rfl (by rw [hml]; rfl) (Steps.refl _) (argsL := []) (rest := []) (lenOf pd14 rfl) rfl (by show 2 * 0 + _ ≤ _; exact Nat.le_of_eq rfl) (hb hby at_72) (fun _ _ => ⟨rfl, e79, (by decide : 9 + 0 ≤ _), (by decide : 221 + 0 ≤ _)⟩)
    dsimp only [Pt.U, Pt.locs, Pt.cells, Pt.slots] at X81 l81 y81 z81 st81 hQ81
    subst l81 y81 z81
    refine Go.tr st81 ?_
    have E_b65_pre := E_b65
    have F_b65_arity_pre := F_b65_a
    have F_b65_values_pre := F_b65_v
    have F_b65_size_pre := F_b65_s
    have F_b65_members_pre := F_b65_m
    have F_b65_indexes_pre := F_b65_i
    have F_b65_holdingAny_pre := F_b65_h
    obtain ⟨h81, e81⟩ : ∃ z, T81.heap = z := ⟨_, rfl⟩
    rw [e81] at hQ81
    obtain ⟨rfl, N81q, K81, Q81_0, Q81_1, Q81_2, Q81_3, Q81_4, Q81_5, Q81_6⟩ := hQ81
    replace V_NI := V_NI.keep K81 (ninS ne_w_NI_b65 nin0)
    replace S_NI := sta_keep S_NI K81 (allS (exa_ns E_b65_pre) all0)
    replace V_y63 := V_y63.keep K81 (ninS ne_y63_b65 nin0)
    replace V_y64 := V_y64.keep K81 (ninS ne_y64_b65 nin0)
    replace E_b65 := E_b65.keep K81
    replace V_y66 := V_y66.keep K81 (ninS (Ne.symm ne_b65_y66) nin0)
    replace E_y77a := E_y77a.keep K81
    replace V_y77b := V_y77b.keep K81 (ninS (Ne.symm ne_b65_y77b) nin0)
    replace V_y77 := V_y77.keep K81 (ninS (Ne.symm ne_b65_y77) nin0)
    replace Z0 := Nat.le_trans Z0 K81.1
    replace K0 := K0.trans K81 (allS (Or.inr sz_b65) all0)
    have F_b65_a := Q81_0
    have F_b65_v := Q81_1
    have E_b65 := Q81_2
    have F_b65_s := Q81_3
    have F_b65_h := Q81_4
    have F_b65_m := Q81_5
    have F_b65_i := Q81_6
    have N81 := Fr.app N79 N81q
    show Go _ _ _ (T81.setTop (mkF m 75 #[vi p1, vi p2, vi p3, vi p4, vi p5, vi p6, vi 3, vr y63, vr y64, vr b65, vi 1, vi ((p2 &&& (15 : Int32)) * (3 : Int32)), us, us, us, us, us, us] [])) _
    exact J67 _ _ _ y77 k_y77 ((p2 &&& (15 : Int32)) * (3 : Int32)) (own_stm X81 (by decide) (by decide)) e81 N81 K0 Z0 (own_ge (own_big _ 3 12 3 rfl rfl (by decide) (own_15 _) (own_48 hc76))) g_y77 sz_y77 ne_w_NI_y77 ne_y63_y77 ne_y64_y77 ne_b65_y77 V_NI S_NI V_y63 V_y64 E_b65 F_b65_s F_b65_m F_b65_h F_b65_i F_b65_v F_b65_a V_y77
   ·by_cases hc82 : (4 : Int32) < (p2 &&& (15 : Int32))
    ·show Go _ _ _ (T66.setTop (mkF m 50 #[vi p1, vi p2, vi p3, vi p4, vi p5, vi p6, vi 3, vr y63, vr y64, vr b65, us, us, us, us, us, us, us, us] [(.int (p2 &&& (15 : Int32))), (.ref b65)])) _
     obtain ⟨cq83, kq83, q83a, q83b, q83c⟩ := isOf hZ e66 E_b65
     obtain ⟨_, _, ⟨T83, L83, k83, n83⟩, -, X83, ⟨Lc83, hQ83, l83, y83, z83⟩, st83⟩ := X66.virtualBack hx (y := (⟨RC, "reserve", "(I)V"⟩ : MethodName)) (z := (⟨RC, "reserve", "(I)V"⟩ : MethodName)) hown (mvT hZ (wd23 hw)) (mvT hZ (wd24 hw)) (notFace_of_selects (args := #[]) (mvT hZ (wd26 hw))) (mvT hZ (wd26 hw)) (mvT hZ (wd25 hw)) (by decide) (backOf (W := 0) (rm4_3_1 l Z a0 hw [] b65 (p2 &&& (15 : Int32)) y66 k_y66 w_NI k_NI (0 : Int32) h66 n0 Z0 E_b65 V_y66 V_NI F_b65_a F_b65_v F_b65_s F_b65_m F_b65_i F_b65_h (Ne.symm ne_b65_y66) ne_w_NI_b65 ne_w_NI_y66 (own_15 _) hc82 hc76 g_b65) hZ (wd27 hw) (wd8 hw) (by decide) (by decide)) q83a q83c (g := (mkF m 50 #[vi p1, vi p2, vi p3, vi p4, vi p5, vi p6, vi 3, vr y63, vr y64, vr b65, us, us, us, us, us, us, us, us] [(.int (p2 &&& (15 : Int32))), (.ref b65)])) rfl (by rw [hml]; rfl) (Steps.refl _) (argsL := [(.int (p2 &&& (15 : Int32)))]) (rest := []) (lenOf pd1 rfl) rfl (by show 2 * 0 + _ ≤ _; exact Nat.le_of_eq rfl) (hb hby at_50) (fun _ _ => ⟨rfl, e66, (by decide : 4 + 1 ≤ _), (by decide : 24 + 45 ≤ _)⟩)
     dsimp only [Pt.U, Pt.locs, Pt.cells, Pt.slots] at X83 l83 y83 z83 st83 hQ83
     subst l83 y83 z83
     have E_b65_pre := E_b65
     have F_b65_size_pre := F_b65_s
     have F_b65_members_pre := F_b65_m
     have F_b65_holdingAny_pre := F_b65_h
     have F_b65_indexes_pre := F_b65_i
     have F_b65_values_pre := F_b65_v
     have F_b65_arity_pre := F_b65_a
     obtain ⟨h83, e83⟩ : ∃ z, T83.heap = z := ⟨_, rfl⟩
     rw [e83] at hQ83
     obtain ⟨y83, k_y83, rfl, N83q, K83, ng_y83, sz0_y83, Q83_0, Q83_1, Q83_2, Q83_3, Q83_4, Q83_5, Q83_6, Q83_7⟩ := hQ83
     refine Go.tr st83 ?_
     have ne_w_NI_y83 : w_NI ≠ y83 := Nat.ne_of_lt (Nat.lt_of_lt_of_le V_NI.lt sz0_y83)
     have ne_y63_y83 : y63 ≠ y83 := Nat.ne_of_lt (Nat.lt_of_lt_of_le V_y63.lt sz0_y83)
     have ne_y64_y83 : y64 ≠ y83 := Nat.ne_of_lt (Nat.lt_of_lt_of_le V_y64.lt sz0_y83)
     have ne_b65_y83 : b65 ≠ y83 := Nat.ne_of_lt (Nat.lt_of_lt_of_le E_b65.lt sz0_y83)
     have ne_y66_y83 : y66 ≠ y83 := Nat.ne_of_lt (Nat.lt_of_lt_of_le V_y66.lt sz0_y83)
     have g_y83 : n0 ≤ y83 := ng_y83
     have sz_y83 : h0.size ≤ y83 := Nat.le_trans K0.1 sz0_y83
     replace V_NI := V_NI.keep K83 (ninS ne_w_NI_b65 nin0)
     replace S_NI := sta_keep S_NI K83 (allS (exa_ns E_b65_pre) all0)
     replace V_y63 := V_y63.keep K83 (ninS ne_y63_b65 nin0)
     replace V_y64 := V_y64.keep K83 (ninS ne_y64_b65 nin0)
     replace E_b65 := E_b65.keep K83
     replace V_y66 := V_y66.keep K83 (ninS (Ne.symm ne_b65_y66) nin0)
     replace Z0 := Nat.le_trans Z0 K83.1
     replace K0 := K0.trans K83 (allS (Or.inr sz_b65) all0)
     have E_b65 := Q83_0
     have F_b65_a := Q83_1
     have F_b65_v := Q83_2
     have F_b65_s := Q83_3
     have F_b65_m := Q83_4
     have F_b65_i := Q83_5
     have F_b65_h := Q83_6
     have V_y83 := Q83_7
     have N83 := Fr.app N66 N83q
     obtain ⟨LL83, X83, N83⟩ : ∃ LL, Stand p l e room_1 s m #[(.int p1), (.int p2), (.int p3), (.int p4), (.int p5), (.int p6)] below meth c T83 LL 5 69 ∧ Fr n0 LL := ⟨_, X83, N83⟩
     show Go _ _ _ (T83.setTop (mkF m 53 #[vi p1, vi p2, vi p3, vi p4, vi p5, vi p6, vi 3, vr y63, vr y64, vr b65, us, us, us, us, us, us, us, us] [])) _
     replace V_y83 : Arv Z h83 y83 k_y83 .int ((p2 &&& (15 : Int32)) * (3 : Int32)) [(.int (0 : Int32)), (.int (0 : Int32)), (.int (0 : Int32))] (.int (0 : Int32)) := V_y83.pad (pad_rep [] (.int (0 : Int32)) 3)
     refine G (fun t k => XS.aload X83.here hx rfl (hb hby at_53) rfl rfl (XS.aload X83.here hx rfl (hb hby at_55) rfl rfl k)) ?_
     obtain ⟨cq84, kq84, q84a, q84b, q84c⟩ := isOf hZ e83 E_b65
     obtain ⟨_, _, ⟨T84, L84, k84, n84⟩, -, X84, ⟨Lc84, hQ84, l84, y84, z84⟩, st84⟩ := X83.virtualBack hx (y := (⟨RC, "add", "([I)Z"⟩ : MethodName)) (z := (⟨RC, "add", "([I)Z"⟩ : MethodName)) hown (mvT hZ (wd32 hw)) (mvT hZ (wd33 hw)) (notFace_of_selects (args := #[]) (mvT hZ (wd35 hw))) (mvT hZ (wd35 hw)) (mvT hZ (wd34 hw)) (by decide) (backOf (W := 0) (rm5_3_N l Z a0 hw [] b65 y63 y83 k_y83 ((p2 &&& (15 : Int32)) * (3 : Int32)) (0 : Int32) (0 : Int32) (0 : Int32) w_NI k_NI (0 : Int32) k_y63 p3 p4 p5 h83 n0 Z0 E_b65 V_y83 V_NI F_b65_a F_b65_v F_b65_s F_b65_m F_b65_i F_b65_h V_y63 (own_ge (own_big _ 3 12 3 rfl rfl (by decide) (own_15 _) hc82)) (Ne.symm ne_b65_y83) ne_w_NI_b65 ne_w_NI_y83 ne_y63_b65 ne_y63_y83 (Ne.symm ne_w_NI_y63) g_y83 g_b65) hZ (wd36 hw) (wd8 hw) (by decide) (by decide)) q84a q84c (g := (mkF m 57 #[vi p1, vi p2, vi p3, vi p4, vi p5, vi p6, vi 3, vr y63, vr y64, vr b65, us, us, us, us, us, us, us, us] [(.ref y63), (.ref b65)])) rfl (by rw [hml]; rfl) (Steps.refl _) (argsL := [(.ref y63)]) (rest := []) (lenOf pd5 rfl) rfl (by show 2 * 0 + _ ≤ _; exact Nat.le_of_eq rfl) (hb hby at_57) (fun _ _ => ⟨rfl, e83, (by decide : 5 + 0 ≤ _), (by decide : 69 + 0 ≤ _)⟩)
     dsimp only [Pt.U, Pt.locs, Pt.cells, Pt.slots] at X84 l84 y84 z84 st84 hQ84
     subst l84 y84 z84
     have E_b65_pre := E_b65
     have F_b65_arity_pre := F_b65_a
     have F_b65_values_pre := F_b65_v
     have F_b65_size_pre := F_b65_s
     have F_b65_members_pre := F_b65_m
     have F_b65_indexes_pre := F_b65_i
     have F_b65_holdingAny_pre := F_b65_h
     have V_y83_pre := V_y83
     obtain ⟨h84, e84⟩ : ∃ z, T84.heap = z := ⟨_, rfl⟩
     rw [e84] at hQ84
     obtain ⟨zh84, rfl, N84q, K84, Q84_0, Q84_1, Q84_2, Q84_3, Q84_4, Q84_5, Q84_6, Q84_7⟩ := hQ84
     refine Go.tr st84 ?_
     replace V_NI := V_NI.keep K84 (ninS ne_w_NI_y83 (ninS ne_w_NI_b65 nin0))
     replace S_NI := sta_keep S_NI K84 (allS (arv_ns V_y83_pre) (allS (exa_ns E_b65_pre) all0))
     replace V_y63 := V_y63.keep K84 (ninS ne_y63_y83 (ninS ne_y63_b65 nin0))
     replace V_y64 := V_y64.keep K84 (ninS ne_y64_y83 (ninS ne_y64_b65 nin0))
     replace E_b65 := E_b65.keep K84
     replace V_y66 := V_y66.keep K84 (ninS ne_y66_y83 (ninS (Ne.symm ne_b65_y66) nin0))
     replace Z0 := Nat.le_trans Z0 K84.1
     replace K0 := K0.trans K84 (allS (Or.inr sz_y83) (allS (Or.inr sz_b65) all0))
     have E_b65 := Q84_0
     have F_b65_a := Q84_1
     have F_b65_v := Q84_2
     have F_b65_s := Q84_3
     have F_b65_m := Q84_4
     have F_b65_i := Q84_5
     have F_b65_h := Q84_6
     have V_y83 := Q84_7
     have N84 := Fr.app N83 N84q
     refine G (fun t k => XS.istore X84.here hx rfl (hb hby at_60) rfl (l' := #[vi p1, vi p2, vi p3, vi p4, vi p5, vi p6, vi 3, vr y63, vr y64, vr b65, vi 1, us, us, us, us, us, us, us]) rfl (XS.aload X84.here hx rfl (hb hby at_62) rfl rfl k)) ?_
     obtain ⟨cq85, kq85, q85a, q85b, q85c⟩ := isOf hZ e84 E_b65
     obtain ⟨_, _, ⟨T85, L85, k85, n85⟩, -, X85, ⟨Lc85, hQ85, l85, y85, z85⟩, st85⟩ := X84.virtualBack hx (y := (⟨RC, "values", "()[I"⟩ : MethodName)) (z := (⟨RC, "values", "()[I"⟩ : MethodName)) hown (mvT hZ (wd47 hw)) (mvT hZ (wd48 hw)) (notFace_of_selects (args := #[]) (mvT hZ (wd50 hw))) (mvT hZ (wd50 hw)) (mvT hZ (wd49 hw)) (by decide) (backOf (W := 0) (rm7 l Z a0 hw [] b65 y83 h84 n0 Z0 F_b65_v) hZ (wd51 hw) (wd8 hw) (by decide) (by decide)) q85a q85c (g := (mkF m 64 #[vi p1, vi p2, vi p3, vi p4, vi p5, vi p6, vi 3, vr y63, vr y64, vr b65, vi 1, us, us, us, us, us, us, us] [(.ref b65)])) rfl (by rw [hml]; rfl) (Steps.refl _) (argsL := []) (rest := []) (lenOf pd13 rfl) rfl (by show 2 * 0 + _ ≤ _; exact Nat.le_of_eq rfl) (hb hby at_64) (fun _ _ => ⟨rfl, e84, (by decide : 5 + 0 ≤ _), (by decide : 69 + 0 ≤ _)⟩)
     dsimp only [Pt.U, Pt.locs, Pt.cells, Pt.slots] at X85 l85 y85 z85 st85 hQ85
     subst l85 y85 z85
     refine Go.tr st85 ?_
     obtain ⟨rfl, N85q, e85⟩ := hQ85
     have N85 := Fr.app N84 N85q
     obtain ⟨cl86, Ar86, -, Sz86, Ng86, -, -⟩ := id V_y83
     refine G (fun t k => X85.arraylength hx (by rw [e85]; exact Ar86.1) (State.isArrayOf_alike hZ.alike Ar86.2.1) (g := (mkF m 67 #[vi p1, vi p2, vi p3, vi p4, vi p5, vi p6, vi 3, vr y63, vr y64, vr b65, vi 1, us, us, us, us, us, us, us] [(.ref y83)])) rfl rfl (hb hby at_67) _ k) ?_
     rw [len_of Sz86 Ng86]
     show Go _ _ _ (T85.setTop (mkF m 68 #[vi p1, vi p2, vi p3, vi p4, vi p5, vi p6, vi 3, vr y63, vr y64, vr b65, vi 1, us, us, us, us, us, us, us] [(.int ((p2 &&& (15 : Int32)) * (3 : Int32)))])) _
     refine G (fun t k => XS.istore X85.here hx rfl (hb hby at_68) rfl (l' := #[vi p1, vi p2, vi p3, vi p4, vi p5, vi p6, vi 3, vr y63, vr y64, vr b65, vi 1, vi ((p2 &&& (15 : Int32)) * (3 : Int32)), us, us, us, us, us, us]) rfl (XS.aload X85.here hx rfl (hb hby at_70) rfl rfl k)) ?_
     obtain ⟨cq87, kq87, q87a, q87b, q87c⟩ := isOf hZ e85 E_b65
     obtain ⟨_, _, ⟨T87, L87, k87, n87⟩, -, X87, ⟨Lc87, hQ87, l87, y87, z87⟩, st87⟩ := X85.virtualBack hx (y := (⟨RC, "clear", "()V"⟩ : MethodName)) (z := (⟨RC, "clear", "()V"⟩ : MethodName)) hown (mvT hZ (wd52 hw)) (mvT hZ (wd53 hw)) (notFace_of_selects (args := #[]) (mvT hZ (wd55 hw))) (mvT hZ (wd55 hw)) (mvT hZ (wd54 hw)) (by decide) (backOf (W := 0) (rm8 l Z a0 hw [] b65 (3 : Int32) y83 ((.int (1 : Int32)) : Value) ((.int zh84) : Value) (.null : Value) w_NI ((.ref w_NI) : Value) h84 n0 Z0 F_b65_a F_b65_v E_b65 F_b65_s F_b65_h F_b65_m S_NI F_b65_i g_b65) hZ (wd56 hw) (wd8 hw) (by decide) (by decide)) q87a q87c (g := (mkF m 72 #[vi p1, vi p2, vi p3, vi p4, vi p5, vi p6, vi 3, vr y63, vr y64, vr b65, vi 1, vi ((p2 &&& (15 : Int32)) * (3 : Int32)), us, us, us, us, us, us] [(.ref b65)])) rfl (by rw [hml]; rfl) (Steps.refl _) (argsL := []) (rest := []) (lenOf pd14 rfl) rfl (by show 2 * 0 + _ ≤ _; exact Nat.le_of_eq rfl) (hb hby at_72) (fun _ _ => ⟨rfl, e85, (by decide : 5 + 0 ≤ _), (by decide : 69 + 0 ≤ _)⟩)
     dsimp only [Pt.U, Pt.locs, Pt.cells, Pt.slots] at X87 l87 y87 z87 st87 hQ87
     subst l87 y87 z87
     refine Go.tr st87 ?_
     have E_b65_pre := E_b65
     have F_b65_arity_pre := F_b65_a
     have F_b65_values_pre := F_b65_v
     have F_b65_size_pre := F_b65_s
     have F_b65_members_pre := F_b65_m
     have F_b65_indexes_pre := F_b65_i
     have F_b65_holdingAny_pre := F_b65_h
     obtain ⟨h87, e87⟩ : ∃ z, T87.heap = z := ⟨_, rfl⟩
     rw [e87] at hQ87
     obtain ⟨rfl, N87q, K87, Q87_0, Q87_1, Q87_2, Q87_3, Q87_4, Q87_5, Q87_6⟩ := hQ87
     replace V_NI := V_NI.keep K87 (ninS ne_w_NI_b65 nin0)
     replace S_NI := sta_keep S_NI K87 (allS (exa_ns E_b65_pre) all0)
     replace V_y63 := V_y63.keep K87 (ninS ne_y63_b65 nin0)
     replace V_y64 := V_y64.keep K87 (ninS ne_y64_b65 nin0)
     replace E_b65 := E_b65.keep K87
     replace V_y66 := V_y66.keep K87 (ninS (Ne.symm ne_b65_y66) nin0)
     replace V_y83 := V_y83.keep K87 (ninS (Ne.symm ne_b65_y83) nin0)
     replace Z0 := Nat.le_trans Z0 K87.1
     replace K0 := K0.trans K87 (allS (Or.inr sz_b65) all0)
     have F_b65_a := Q87_0
     have F_b65_v := Q87_1
     have E_b65 := Q87_2
     have F_b65_s := Q87_3
     have F_b65_h := Q87_4
     have F_b65_m := Q87_5
     have F_b65_i := Q87_6
     have N87 := Fr.app N85 N87q
     show Go _ _ _ (T87.setTop (mkF m 75 #[vi p1, vi p2, vi p3, vi p4, vi p5, vi p6, vi 3, vr y63, vr y64, vr b65, vi 1, vi ((p2 &&& (15 : Int32)) * (3 : Int32)), us, us, us, us, us, us] [])) _
     exact J67 _ _ _ y83 k_y83 ((p2 &&& (15 : Int32)) * (3 : Int32)) (own_stm X87 (by decide) (by decide)) e87 N87 K0 Z0 (own_ge (own_big _ 3 12 3 rfl rfl (by decide) (own_15 _) hc82)) g_y83 sz_y83 ne_w_NI_y83 ne_y63_y83 ne_y64_y83 ne_b65_y83 V_NI S_NI V_y63 V_y64 E_b65 F_b65_s F_b65_m F_b65_h F_b65_i F_b65_v F_b65_a V_y83
    ·show Go _ _ _ (T66.setTop (mkF m 50 #[vi p1, vi p2, vi p3, vi p4, vi p5, vi p6, vi 3, vr y63, vr y64, vr b65, us, us, us, us, us, us, us, us] [(.int (p2 &&& (15 : Int32))), (.ref b65)])) _
     obtain ⟨cq88, kq88, q88a, q88b, q88c⟩ := isOf hZ e66 E_b65
     obtain ⟨_, _, ⟨T88, L88, k88, n88⟩, -, X88, ⟨Lc88, hQ88, l88, y88, z88⟩, st88⟩ := X66.virtualBack hx (y := (⟨RC, "reserve", "(I)V"⟩ : MethodName)) (z := (⟨RC, "reserve", "(I)V"⟩ : MethodName)) hown (mvT hZ (wd23 hw)) (mvT hZ (wd24 hw)) (notFace_of_selects (args := #[]) (mvT hZ (wd26 hw))) (mvT hZ (wd26 hw)) (mvT hZ (wd25 hw)) (by decide) (backOf (W := 0) (rm4_3_0 l Z a0 hw [] b65 (p2 &&& (15 : Int32)) y66 k_y66 w_NI k_NI (0 : Int32) h66 n0 Z0 E_b65 V_y66 V_NI F_b65_a F_b65_v F_b65_s F_b65_m F_b65_i F_b65_h (Ne.symm ne_b65_y66) ne_w_NI_b65 ne_w_NI_y66 (own_15 _) hc82 hc76) hZ (wd27 hw) (wd8 hw) (by decide) (by decide)) q88a q88c (g := (mkF m 50 #[vi p1, vi p2, vi p3, vi p4, vi p5, vi p6, vi 3, vr y63, vr y64, vr b65, us, us, us, us, us, us, us, us] [(.int (p2 &&& (15 : Int32))), (.ref b65)])) rfl (by rw [hml]; rfl) (Steps.refl _) (argsL := [(.int (p2 &&& (15 : Int32)))]) (rest := []) (lenOf pd1 rfl) rfl (by show 2 * 0 + _ ≤ _; exact Nat.le_of_eq rfl) (hb hby at_50) (fun _ _ => ⟨rfl, e66, (by decide : 4 + 0 ≤ _), (by decide : 24 + 0 ≤ _)⟩)
     dsimp only [Pt.U, Pt.locs, Pt.cells, Pt.slots] at X88 l88 y88 z88 st88 hQ88
     subst l88 y88 z88
     refine Go.tr st88 ?_
     obtain ⟨rfl, N88q, e88⟩ := hQ88
     have N88 := Fr.app N66 N88q
     obtain ⟨LL88, X88, N88⟩ : ∃ LL, Stand p l e room_1 s m #[(.int p1), (.int p2), (.int p3), (.int p4), (.int p5), (.int p6)] below meth c T88 LL 4 24 ∧ Fr n0 LL := ⟨_, X88, N88⟩
     show Go _ _ _ (T88.setTop (mkF m 53 #[vi p1, vi p2, vi p3, vi p4, vi p5, vi p6, vi 3, vr y63, vr y64, vr b65, us, us, us, us, us, us, us, us] [])) _
     replace V_y66 : Arv Z h66 y66 k_y66 .int (12 : Int32) [(.int (0 : Int32)), (.int (0 : Int32)), (.int (0 : Int32))] (.int (0 : Int32)) := V_y66.pad (pad_rep [] (.int (0 : Int32)) 3)
     refine G (fun t k => XS.aload X88.here hx rfl (hb hby at_53) rfl rfl (XS.aload X88.here hx rfl (hb hby at_55) rfl rfl k)) ?_
     obtain ⟨cq89, kq89, q89a, q89b, q89c⟩ := isOf hZ e88 E_b65
     obtain ⟨_, _, ⟨T89, L89, k89, n89⟩, -, X89, ⟨Lc89, hQ89, l89, y89, z89⟩, st89⟩ := X88.virtualBack hx (y := (⟨RC, "add", "([I)Z"⟩ : MethodName)) (z := (⟨RC, "add", "([I)Z"⟩ : MethodName)) hown (mvT hZ (wd32 hw)) (mvT hZ (wd33 hw)) (notFace_of_selects (args := #[]) (mvT hZ (wd35 hw))) (mvT hZ (wd35 hw)) (mvT hZ (wd34 hw)) (by decide) (backOf (W := 0) (rm5_3_N l Z a0 hw [] b65 y63 y66 k_y66 (12 : Int32) (0 : Int32) (0 : Int32) (0 : Int32) w_NI k_NI (0 : Int32) k_y63 p3 p4 p5 h66 n0 Z0 E_b65 V_y66 V_NI F_b65_a F_b65_v F_b65_s F_b65_m F_b65_i F_b65_h V_y63 (by decide) (Ne.symm ne_b65_y66) ne_w_NI_b65 ne_w_NI_y66 ne_y63_b65 ne_y63_y66 (Ne.symm ne_w_NI_y63) g_y66 g_b65) hZ (wd36 hw) (wd8 hw) (by decide) (by decide)) q89a q89c (g := (mkF m 57 #[vi p1, vi p2, vi p3, vi p4, vi p5, vi p6, vi 3, vr y63, vr y64, vr b65, us, us, us, us, us, us, us, us] [(.ref y63), (.ref b65)])) rfl (by rw [hml]; rfl) (Steps.refl _) (argsL := [(.ref y63)]) (rest := []) (lenOf pd5 rfl) rfl (by show 2 * 0 + _ ≤ _; exact Nat.le_of_eq rfl) (hb hby at_57) (fun _ _ => ⟨rfl, e88, (by decide : 4 + 0 ≤ _), (by decide : 24 + 0 ≤ _)⟩)
     dsimp only [Pt.U, Pt.locs, Pt.cells, Pt.slots] at X89 l89 y89 z89 st89 hQ89
     subst l89 y89 z89
     have E_b65_pre := E_b65
     have F_b65_size_pre := F_b65_s
     have F_b65_members_pre := F_b65_m
     have F_b65_holdingAny_pre := F_b65_h
     have F_b65_indexes_pre := F_b65_i
     have F_b65_values_pre := F_b65_v
     have F_b65_arity_pre := F_b65_a
     have V_y66_pre := V_y66
     obtain ⟨h89, e89⟩ : ∃ z, T89.heap = z := ⟨_, rfl⟩
     rw [e89] at hQ89
     obtain ⟨zh89, rfl, N89q, K89, Q89_0, Q89_1, Q89_2, Q89_3, Q89_4, Q89_5, Q89_6, Q89_7⟩ := hQ89
     refine Go.tr st89 ?_
     replace V_NI := V_NI.keep K89 (ninS ne_w_NI_y66 (ninS ne_w_NI_b65 nin0))
     replace S_NI := sta_keep S_NI K89 (allS (arv_ns V_y66_pre) (allS (exa_ns E_b65_pre) all0))
     replace V_y63 := V_y63.keep K89 (ninS ne_y63_y66 (ninS ne_y63_b65 nin0))
     replace V_y64 := V_y64.keep K89 (ninS ne_y64_y66 (ninS ne_y64_b65 nin0))
     replace E_b65 := E_b65.keep K89
     replace Z0 := Nat.le_trans Z0 K89.1
     replace K0 := K0.trans K89 (allS (Or.inr sz_y66) (allS (Or.inr sz_b65) all0))
     have E_b65 := Q89_0
     have F_b65_a := Q89_1
     have F_b65_v := Q89_2
     have F_b65_s := Q89_3
     have F_b65_m := Q89_4
     have F_b65_i := Q89_5
     have F_b65_h := Q89_6
     have V_y66 := Q89_7
     have N89 := Fr.app N88 N89q
     refine G (fun t k => XS.istore X89.here hx rfl (hb hby at_60) rfl (l' := #[vi p1, vi p2, vi p3, vi p4, vi p5, vi p6, vi 3, vr y63, vr y64, vr b65, vi 1, us, us, us, us, us, us, us]) rfl (XS.aload X89.here hx rfl (hb hby at_62) rfl rfl k)) ?_
     obtain ⟨cq90, kq90, q90a, q90b, q90c⟩ := isOf hZ e89 E_b65
     obtain ⟨_, _, ⟨T90, L90, k90, n90⟩, -, X90, ⟨Lc90, hQ90, l90, y90, z90⟩, st90⟩ := X89.virtualBack hx (y := (⟨RC, "values", "()[I"⟩ : MethodName)) (z := (⟨RC, "values", "()[I"⟩ : MethodName)) hown (mvT hZ (wd47 hw)) (mvT hZ (wd48 hw)) (notFace_of_selects (args := #[]) (mvT hZ (wd50 hw))) (mvT hZ (wd50 hw)) (mvT hZ (wd49 hw)) (by decide) (backOf (W := 0) (rm7 l Z a0 hw [] b65 y66 h89 n0 Z0 F_b65_v) hZ (wd51 hw) (wd8 hw) (by decide) (by decide)) q90a q90c (g := (mkF m 64 #[vi p1, vi p2, vi p3, vi p4, vi p5, vi p6, vi 3, vr y63, vr y64, vr b65, vi 1, us, us, us, us, us, us, us] [(.ref b65)])) rfl (by rw [hml]; rfl) (Steps.refl _) (argsL := []) (rest := []) (lenOf pd13 rfl) rfl (by show 2 * 0 + _ ≤ _; exact Nat.le_of_eq rfl) (hb hby at_64) (fun _ _ => ⟨rfl, e89, (by decide : 4 + 0 ≤ _), (by decide : 24 + 0 ≤ _)⟩)
     dsimp only [Pt.U, Pt.locs, Pt.cells, Pt.slots] at X90 l90 y90 z90 st90 hQ90
     subst l90 y90 z90
     refine Go.tr st90 ?_
     obtain ⟨rfl, N90q, e90⟩ := hQ90
     have N90 := Fr.app N89 N90q
     obtain ⟨cl91, Ar91, -, Sz91, Ng91, -, -⟩ := id V_y66
     refine G (fun t k => X90.arraylength hx (by rw [e90]; exact Ar91.1) (State.isArrayOf_alike hZ.alike Ar91.2.1) (g := (mkF m 67 #[vi p1, vi p2, vi p3, vi p4, vi p5, vi p6, vi 3, vr y63, vr y64, vr b65, vi 1, us, us, us, us, us, us, us] [(.ref y66)])) rfl rfl (hb hby at_67) _ k) ?_
     rw [len_of Sz91 Ng91]
     show Go _ _ _ (T90.setTop (mkF m 68 #[vi p1, vi p2, vi p3, vi p4, vi p5, vi p6, vi 3, vr y63, vr y64, vr b65, vi 1, us, us, us, us, us, us, us] [(.int 12)])) _
     refine G (fun t k => XS.istore X90.here hx rfl (hb hby at_68) rfl (l' := #[vi p1, vi p2, vi p3, vi p4, vi p5, vi p6, vi 3, vr y63, vr y64, vr b65, vi 1, vi 12, us, us, us, us, us, us]) rfl (XS.aload X90.here hx rfl (hb hby at_70) rfl rfl k)) ?_
     obtain ⟨cq92, kq92, q92a, q92b, q92c⟩ := isOf hZ e90 E_b65
     obtain ⟨_, _, ⟨T92, L92, k92, n92⟩, -, X92, ⟨Lc92, hQ92, l92, y92, z92⟩, st92⟩ := X90.virtualBack hx (y := (⟨RC, "clear", "()V"⟩ : MethodName)) (z := (⟨RC, "clear", "()V"⟩ : MethodName)) hown (mvT hZ (wd52 hw)) (mvT hZ (wd53 hw)) (notFace_of_selects (args := #[]) (mvT hZ (wd55 hw))) (mvT hZ (wd55 hw)) (mvT hZ (wd54 hw)) (by decide) (backOf (W := 0) (rm8 l Z a0 hw [] b65 (3 : Int32) y66 ((.int (1 : Int32)) : Value) ((.int zh89) : Value) (.null : Value) w_NI ((.ref w_NI) : Value) h89 n0 Z0 F_b65_a F_b65_v E_b65 F_b65_s F_b65_h F_b65_m S_NI F_b65_i g_b65) hZ (wd56 hw) (wd8 hw) (by decide) (by decide)) q92a q92c (g := (mkF m 72 #[vi p1, vi p2, vi p3, vi p4, vi p5, vi p6, vi 3, vr y63, vr y64, vr b65, vi 1, vi 12, us, us, us, us, us, us] [(.ref b65)])) rfl (by rw [hml]; rfl) (Steps.refl _) (argsL := []) (rest := []) (lenOf pd14 rfl) rfl (by show 2 * 0 + _ ≤ _; exact Nat.le_of_eq rfl) (hb hby at_72) (fun _ _ => ⟨rfl, e90, (by decide : 4 + 0 ≤ _), (by decide : 24 + 0 ≤ _)⟩)
     dsimp only [Pt.U, Pt.locs, Pt.cells, Pt.slots] at X92 l92 y92 z92 st92 hQ92
     subst l92 y92 z92
     refine Go.tr st92 ?_
     have E_b65_pre := E_b65
     have F_b65_arity_pre := F_b65_a
     have F_b65_values_pre := F_b65_v
     have F_b65_size_pre := F_b65_s
     have F_b65_members_pre := F_b65_m
     have F_b65_indexes_pre := F_b65_i
     have F_b65_holdingAny_pre := F_b65_h
     obtain ⟨h92, e92⟩ : ∃ z, T92.heap = z := ⟨_, rfl⟩
     rw [e92] at hQ92
     obtain ⟨rfl, N92q, K92, Q92_0, Q92_1, Q92_2, Q92_3, Q92_4, Q92_5, Q92_6⟩ := hQ92
     replace V_NI := V_NI.keep K92 (ninS ne_w_NI_b65 nin0)
     replace S_NI := sta_keep S_NI K92 (allS (exa_ns E_b65_pre) all0)
     replace V_y63 := V_y63.keep K92 (ninS ne_y63_b65 nin0)
     replace V_y64 := V_y64.keep K92 (ninS ne_y64_b65 nin0)
     replace E_b65 := E_b65.keep K92
     replace V_y66 := V_y66.keep K92 (ninS (Ne.symm ne_b65_y66) nin0)
     replace Z0 := Nat.le_trans Z0 K92.1
     replace K0 := K0.trans K92 (allS (Or.inr sz_b65) all0)
     have F_b65_a := Q92_0
     have F_b65_v := Q92_1
     have E_b65 := Q92_2
     have F_b65_s := Q92_3
     have F_b65_h := Q92_4
     have F_b65_m := Q92_5
     have F_b65_i := Q92_6
     have N92 := Fr.app N90 N92q
     show Go _ _ _ (T92.setTop (mkF m 75 #[vi p1, vi p2, vi p3, vi p4, vi p5, vi p6, vi 3, vr y63, vr y64, vr b65, vi 1, vi 12, us, us, us, us, us, us] [])) _
     exact J67 _ _ _ y66 k_y66 (12 : Int32) (own_stm X92 (by decide) (by decide)) e92 N92 K0 Z0 (by decide) g_y66 sz_y66 ne_w_NI_y66 ne_y63_y66 ne_y64_y66 ne_b65_y66 V_NI S_NI V_y63 V_y64 E_b65 F_b65_s F_b65_m F_b65_h F_b65_i F_b65_v F_b65_a V_y66
theorem own_len {args : Array Value} {s : State} {t : Term} {a : Addr} {cl : Cell} {ty : FieldType} {k : Int32} (ev : t.eval args s none [] s = some (.ref a)) (A : Arr s s.heap a cl ty) (h : (Jvm.Cond.eq (.length t) (.int k)).value args s none s [] = some true) : cl.slots.size < 2 ^ 31 ∧ cl.slots.size.toInt32 = k := by
 have e := own_eqi h
 have ha := A.fin (Vm.Alike.refl _)
 by_cases hn : cl.slots.size < 2 ^ 31
 ·rw [len_f ev ha hn] at e
  exact ⟨hn, Value.int.inj (Option.some.inj e)⟩
 ·exact absurd e (by simp [Term.eval, ev, ha, show ¬ cl.slots.size < 2147483648 from hn])
theorem own_eqr {args : Array Value} {s : State} {t u : Term} {x : Addr} (hu : u.eval args s none [] s = some (.ref x)) (h : (Jvm.Cond.eq t u).value args s none s [] = some true) : t.eval args s none [] s = some (.ref x) := by
 obtain ⟨v, y, e1, e2, k1, k2⟩ := cmp_v (Or.inl h)
 cases hu.symm.trans e2
 cases v <;> simp [Cond.value, e1, hu] at h
 rw [e1, h]
theorem own_elr {args : Array Value} {s : State} {t u : Term} {a x : Addr} {cl : Cell} {ty : FieldType} {j : Int32} (ev : t.eval args s none [] s = some (.ref a)) (A : Arr s s.heap a cl ty) (hu : u.eval args s none [] s = some (.ref x)) (h : (Jvm.Cond.eq (.elem t (.int j)) u).value args s none s [] = some true) : cl.slots[j.toNatClampNeg]? = some (.ref x) :=
 (elem_in (own_eqr hu h) ev (Term.int_eval j) A.1).2
theorem own_eli {args : Array Value} {s : State} {t : Term} {a : Addr} {cl : Cell} {ty : FieldType} {j k : Int32} (ev : t.eval args s none [] s = some (.ref a)) (A : Arr s s.heap a cl ty) (h : (Jvm.Cond.eq (.elem t (.int j)) (.int k)).value args s none s [] = some true) : atv cl j = k :=
 atv_of (elem_in (own_eqi h) ev (Term.int_eval j) A.1).2
theorem own_tabArv {s : State} {a : Addr} {cl : Cell} {ty : FieldType} {z : Int32} (hfit : Fit s) (T : Tab s s.heap a cl ty z) (q : cl.slots.size < 2 ^ 31) (e : cl.slots.size.toInt32 = z) (xs : List Int32) (h : ∀ j : Int32, ¬ j < 0 → j < z → atv cl j = own_at xs j) : Arv s s.heap a cl.cls ty z (xs.map Value.int) (.int 0) := by
 have hk : ∀ k, k < cl.slots.size → (Nat.toInt32 k).toNatClampNeg = k ∧ cl.slots[k]? = some ((xs.map Value.int).getD k (.int 0)) := by
  intro k hk
  have e1 : (Nat.toInt32 k).toNatClampNeg = k := by simp only [Int32.toNatClampNeg, len_toInt (Nat.lt_trans hk q)]; rfl
  have hi := idx_in hk q
  have g := T.2.2.2 (Nat.toInt32 k) hi
  have hlt : Nat.toInt32 k < z := by
   rw [← e, Int32.lt_iff_toInt_lt, len_toInt (Nat.lt_trans hk q), len_toInt q]
   omega
  rw [h _ (fun y => hi (Or.inl y)) hlt, ← own_atv, e1] at g
  exact ⟨e1, g⟩
 refine ⟨cl, T.1, rfl, T.2.1, T.2.2.1, fun k q' => (hk k q').2, fun k q' => ?_⟩
 exact elem_fits (j := Nat.toInt32 k) hfit T.1 (idx_in q' q) (by rw [(hk k q').1]; exact (hk k q').2)
theorem own_all2 {args : Array Value} {s : State} {t : Term} {a : Addr} {cl : Cell} {ty : FieldType} {z hi v : Int32} (et : ∀ idx, t.eval args s none idx s = some (.ref a)) (T : Tab s s.heap a cl ty z) (h : (Jvm.Cond.all t (.or (.le (.int hi) (.index 0)) (.eq (.elem t (.index 0)) (.int v)))).value args s none s [] = some true) (j : Int32) (h0 : ¬ j < 0) (h1 : j < z) : ¬ j < hi ∨ atv cl j = v := by
 have ha := T.1.fin (Vm.Alike.refl _)
 have hin : ¬ (j < 0 ∨ cl.slots.size ≤ j.toNatClampNeg) := inb_of T.2.1 ⟨h0, h1⟩
 have c := Cond.all_elim (et []) ha h j.toNatClampNeg (Nat.lt_of_not_le fun x => hin (Or.inr x))
 have e1 : (Term.elem t (.index 0)).eval args s none [j.toNatClampNeg] s = some (.int (atv cl j)) := (elem_f (et _) (idx_at h0) ha h0).trans (T.2.2.2 j hin)
 have v1 : (Jvm.Cond.le (.int hi) (.index 0)).value args s none s [j.toNatClampNeg] = some (decide (hi ≤ j)) := Cond.le_ints (Term.int_eval hi) (idx_at h0)
 have v2 : (Jvm.Cond.eq (.elem t (.index 0)) (.int v)).value args s none s [j.toNatClampNeg] = some (decide (atv cl j = v)) := Cond.eq_ints e1 (Term.int_eval v)
 rcases or_e2 v1 v2 c with q | q
 ·exact Or.inl (Int32.not_lt.mpr q)
 ·exact Or.inr q
theorem own_all3 {args : Array Value} {s : State} {t : Term} {a : Addr} {cl : Cell} {ty : FieldType} {z lo hi v : Int32} (et : ∀ idx, t.eval args s none idx s = some (.ref a)) (T : Tab s s.heap a cl ty z) (h : (Jvm.Cond.all t (.or (.lt (.index 0) (.int lo)) (.or (.le (.int hi) (.index 0)) (.eq (.elem t (.index 0)) (.int v))))).value args s none s [] = some true) (j : Int32) (h0 : ¬ j < 0) (h1 : j < z) : j < lo ∨ ¬ j < hi ∨ atv cl j = v := by
 have ha := T.1.fin (Vm.Alike.refl _)
 have hin : ¬ (j < 0 ∨ cl.slots.size ≤ j.toNatClampNeg) := inb_of T.2.1 ⟨h0, h1⟩
 have c := Cond.all_elim (et []) ha h j.toNatClampNeg (Nat.lt_of_not_le fun x => hin (Or.inr x))
 have e1 : (Term.elem t (.index 0)).eval args s none [j.toNatClampNeg] s = some (.int (atv cl j)) := (elem_f (et _) (idx_at h0) ha h0).trans (T.2.2.2 j hin)
 have v1 : (Jvm.Cond.lt (.index 0) (.int lo)).value args s none s [j.toNatClampNeg] = some (decide (j < lo)) := Cond.lt_ints (idx_at h0) (Term.int_eval lo)
 have v2 : (Jvm.Cond.le (.int hi) (.index 0)).value args s none s [j.toNatClampNeg] = some (decide (hi ≤ j)) := Cond.le_ints (Term.int_eval hi) (idx_at h0)
 have v3 : (Jvm.Cond.eq (.elem t (.index 0)) (.int v)).value args s none s [j.toNatClampNeg] = some (decide (atv cl j = v)) := Cond.eq_ints e1 (Term.int_eval v)
 exact or3 c v1 v2 v3
theorem own_l48 {args : Array Value} {s : State} {t : Term} {cl : Cell} {j : Int32} {k : Int64} (h0 : ¬ j < 0) (e1 : (Term.elem t (.index 0)).eval args s none [j.toNatClampNeg] s = some (.int (atv cl j))) : (Jvm.Cond.eq (.op1 .i2l (.elem t (.index 0))) (.op2 .ladd (.op1 .i2l (.index 0)) (.long k))).value args s none s [j.toNatClampNeg] = some (decide ((atv cl j).toInt64 = j.toInt64 + k)) :=
 eq_L (i2l_at e1) ((op2_f (i2l_at (idx_at h0)) rfl).trans rfl)
theorem own_allA {args : Array Value} {s : State} {t : Term} {a : Addr} {cl : Cell} {ty : FieldType} {z hi : Int32} {k : Int64} (et : ∀ idx, t.eval args s none idx s = some (.ref a)) (T : Tab s s.heap a cl ty z) (h : (Jvm.Cond.all t (.or (.le (.int hi) (.index 0)) (.eq (.op1 .i2l (.elem t (.index 0))) (.op2 .ladd (.op1 .i2l (.index 0)) (.long k))))).value args s none s [] = some true) (j : Int32) (h0 : ¬ j < 0) (h1 : j < z) (h2 : j < hi) : (atv cl j).toInt64 = j.toInt64 + k := by
 have ha := T.1.fin (Vm.Alike.refl _)
 have hin : ¬ (j < 0 ∨ cl.slots.size ≤ j.toNatClampNeg) := inb_of T.2.1 ⟨h0, h1⟩
 have c := Cond.all_elim (et []) ha h j.toNatClampNeg (Nat.lt_of_not_le fun x => hin (Or.inr x))
 have e1 : (Term.elem t (.index 0)).eval args s none [j.toNatClampNeg] s = some (.int (atv cl j)) := (elem_f (et _) (idx_at h0) ha h0).trans (T.2.2.2 j hin)
 rcases or_e2 (Cond.le_ints (Term.int_eval hi) (idx_at h0)) (own_l48 h0 e1) c with q | q
 ·exact absurd h2 (Int32.not_lt.mpr q)
 ·exact q
theorem own_allB {args : Array Value} {s : State} {t : Term} {a : Addr} {cl : Cell} {ty : FieldType} {z lo : Int32} {k : Int64} (et : ∀ idx, t.eval args s none idx s = some (.ref a)) (T : Tab s s.heap a cl ty z) (h : (Jvm.Cond.all t (.or (.lt (.index 0) (.int lo)) (.eq (.op1 .i2l (.elem t (.index 0))) (.op2 .ladd (.op1 .i2l (.index 0)) (.long k))))).value args s none s [] = some true) (j : Int32) (h0 : ¬ j < 0) (h1 : j < z) (h2 : ¬ j < lo) : (atv cl j).toInt64 = j.toInt64 + k := by
 have ha := T.1.fin (Vm.Alike.refl _)
 have hin : ¬ (j < 0 ∨ cl.slots.size ≤ j.toNatClampNeg) := inb_of T.2.1 ⟨h0, h1⟩
 have c := Cond.all_elim (et []) ha h j.toNatClampNeg (Nat.lt_of_not_le fun x => hin (Or.inr x))
 have e1 : (Term.elem t (.index 0)).eval args s none [j.toNatClampNeg] s = some (.int (atv cl j)) := (elem_f (et _) (idx_at h0) ha h0).trans (T.2.2.2 j hin)
 rcases or_e2 (Cond.lt_ints (idx_at h0) (Term.int_eval lo)) (own_l48 h0 e1) c with q | q
 ·exact absurd q h2
 ·exact q

theorem wd16 {Z a0} (hw : HW a0 Z) : (Jvm.Cond.laysStatic RC "NO_INDEXES" RJ).before a0 Z = true := mw hw 16 rfl
theorem comes_1 {Post : Tables → Env → Array Value → State → Outcome → State → Prop} (hpost : ∀ tb e args s v u, (limb_1_1.after args s (.returned v) u = true ∧ limb_1_2.after args s (.returned v) u = true ∧ True) → FrameEnd s (.returned v) u (Jvm.fieldLocs frame_1_writes args s ++ Jvm.arrayLocs frame_1_arrays args s ++ Jvm.staticLocs frame_1_statics s) 32 512 → Post tb e args s (.returned v) u) :
  ArmFor flags0 classFile x code maxLocals ret World_1 tables_1 room_1 Calls_1 rest_1 Pre_1 Post := by
 intro l hfl _ _ p e ha hc hk s m args below hf hA hF happ hP
 obtain ⟨hcalls, hrest, hpre⟩ := hP
 obtain ⟨-, -, -, hnamed, -, -, -, hat⟩ := (Spec.applies_iff hf).mp happ
 obtain ⟨hg, hn⟩ := and_e (Cond.before_iff.mp (show (Jvm.Cond.and given_1 narrow_1).before args s = true from hpre))
 obtain ⟨g1, g2⟩ := and_e hg
 obtain ⟨g3, g4⟩ := and_e g2
 obtain ⟨g5, g6⟩ := and_e g4
 obtain ⟨g7, g8⟩ := and_e g6
 obtain ⟨g9, g10⟩ := and_e g8
 obtain ⟨g11, g12⟩ := and_e g10
 obtain ⟨g13, g14⟩ := and_e hn
 obtain ⟨w0, w1, w2, w3, w4, w5, rfl⟩ : ∃ w0 w1 w2 w3 w4 w5 : Value, args = #[w0, w1, w2, w3, w4, w5] := by
  have hs : args.size = 6 := by simpa [Cond.value, given_1] using g1
  obtain ⟨L⟩ := args
  match L, hs with
  | [w0, w1, w2, w3, w4, w5], _ => exact ⟨w0, w1, w2, w3, w4, w5, rfl⟩
 have hw := fun d (hd : d ∈ tables_1) => atoms_spec (ws := Jvm.Cond.code x code maxLocals ret :: tables_1) hat d (List.mem_cons_of_mem _ hd)
 have hfit : Fit s := fun {y c} hc i hi => by
  obtain ⟨ha, rfl⟩ := Array.getElem?_eq_some_iff.mp hc
  have q := List.all_eq_true.mp ((Array.all_eq_true_iff_forall_mem.mp hF) _ (Array.getElem_mem ha)) i (List.mem_range.mpr hi)
  simpa [Array.getElem?_eq_getElem hi] using q
 obtain ⟨i0, ei0⟩ := is_v g3
 obtain rfl : w0 = (.int i0) := Option.some.inj ei0
 obtain ⟨i1, ei1⟩ := is_v g5
 obtain rfl : w1 = (.int i1) := Option.some.inj ei1
 obtain ⟨i2, ei2⟩ := is_v g7
 obtain rfl : w2 = (.int i2) := Option.some.inj ei2
 obtain ⟨i3, ei3⟩ := is_v g9
 obtain rfl : w3 = (.int i3) := Option.some.inj ei3
 obtain ⟨i4, ei4⟩ := is_v g11
 obtain rfl : w4 = (.int i4) := Option.some.inj ei4
 obtain ⟨i5, ei5⟩ := is_v g12
 obtain rfl : w5 = (.int i5) := Option.some.inj ei5
 obtain ⟨v_NO_INDEXES, ev_v_NO_INDEXES⟩ := arr_v g13
 have S_v_NO_INDEXES := Sta.start ev_v_NO_INDEXES (Or.inr ⟨(wd8 hw), (wd16 hw)⟩)
 obtain ⟨cl_v_NO_INDEXES, Ar_v_NO_INDEXES⟩ := Arr.start ev_v_NO_INDEXES g13
 obtain ⟨q_v_NO_INDEXES, e_v_NO_INDEXES⟩ := own_len ev_v_NO_INDEXES Ar_v_NO_INDEXES g14
 have V_v_NO_INDEXES := Arv.start (dv := .null) (vs := []) hfit Ar_v_NO_INDEXES q_v_NO_INDEXES e_v_NO_INDEXES (by decide) rfl trivial
 have hplain := trivial
 obtain ⟨n, o, h1, h2, h3, _, L, rfl, ⟨rfl, N⟩, hq⟩ := rm0 l s _ hw tables_1 i0 i1 i2 i3 i4 i5 v_NO_INDEXES cl_v_NO_INDEXES.cls s.heap s.heap.size (Nat.le_refl _) V_v_NO_INDEXES S_v_NO_INDEXES p e ha hc hk s m _ below hf ((Spec.applies_iff_loose hf).mp happ).1 ⟨rfl, State.Warmed39.refl s, rfl⟩ trivial
 refine ⟨n, _, h1, h2, h3, hpost _ _ _ _ _ _ ⟨Cond.after_iff.mpr rfl, Cond.after_iff.mpr (eq_i res_at (Term.int_eval (1)) rfl), trivial⟩ ⟨hq.1, hq.2.1, (hq.2.2.sift fun y hy => Or.inr (N y hy)).mono (by decide) (by decide)⟩⟩
theorem main_1_1 : Claimed_1_1 := comes_1 fun _ _ _ _ _ _ h hF => ⟨h.1, hF⟩
theorem main_1_2 : Claimed_1_2 := comes_1 fun _ _ _ _ _ _ h hF => ⟨h.2.1, hF⟩
end Jvm.Pilot.@@N@@
namespace Jvm.Pilot.@@N@@
open Jvm Jvm.ClassFile Sem Op Lib Jvm.Free Jvm.Stand Jvm.Pilot.@@N@@.Jvm.D
/-! MADE BY PROGRAM (witnessworld.py) out of the Statement's table words and the real class files: 19 classes; the members and pool entries that the words name. The judged class is class 1, her method 2. -/
namespace start1
open Jvm.ClassFile
def u (s : String) : CpInfo := .utf8 (stringToUtf16 s)
/-- a pool by its gaps: so many unusable entries, then the entry; so many at the end -/
def gap : Nat → List CpInfo → List CpInfo
  | 0, r => r
  | n + 1, r => .unusable :: gap n r
def poolList (es : List (Nat × CpInfo)) (last : Nat) : List CpInfo := es.foldr (fun e r => gap e.1 (e.2 :: r)) (gap last [])
def pool (es : List (Nat × CpInfo)) (last : Nat) : Array CpInfo := ⟨poolList es last⟩
def fileOf (pool : Array CpInfo) (this : Nat) (attrs : Array Attribute := #[]) (ms : Array MethodInfo := #[]) (fl : Nat := 33) (sup : Nat := 0) (ifs : Array Nat := #[]) (fds : Array FieldInfo := #[]) : ClassFile where
  minorVersion := 0
  majorVersion := 65
  constantPool := pool
  accessFlags := fl
  thisClass := this
  superClass := sup
  interfaces := ifs
  fields := fds
  methods := ms
  attributes := attrs
def plain (name : String) (sup : Option ClassId) : Class where
  name := name
  kind := .ordinary
  loader := none
  accessFlags := 33
  super := sup
  interfaces := #[]
  cf := none
  fields := #[]
  methods := #[]
  instanceTypes := #[]
  staticTypes := #[]
  resolved := #[]
  callSites := []
  init := .initialized
  statics := none
  mirror := none

def pool0 : Array CpInfo := pool [(5, u "<init>"), (0, u "()V"), (1, .class_ 10), (1, u "java/lang/Object")] 113

def k0c0 : Code := { maxStack := 0, maxLocals := 1, code := object_method_1_code, exceptionTable := #[], attributes := #[] }
def k0m0 : Method := { name := "<init>", desc := "()V", sig := { parameters := [], returnType := none }, accessFlags := 1, code := some k0c0 }
/-- java/lang/Object -/
def k0 : Class := { plain "java/lang/Object" none with
  accessFlags := 33
  interfaces := #[]
  cf := some (fileOf pool0 8 #[] #[{ accessFlags := 1, nameIndex := 5, descriptorIndex := 6, attributes := #[] }] 33 0 #[] #[])
  fields := #[]
  methods := #[k0m0]
  instanceTypes := #[]
  staticTypes := #[]
  resolved := Array.replicate 124 none
  statics := none }

def pool1 : Array CpInfo := pool [(2, .class_ 4), (1, u "java/lang/Object"), (0, u "<init>"), (0, u "()V"), (0, .integer 2147483647), (0, .methodref 9 10), (0, .class_ 11), (0, .nameAndType 12 13), (0, u "com/example/bitlattice/bitlattice/eval/RelationClearPinLaw"), (0, u "row"), (0, u "(IIII)[I"), (0, .class_ 15), (0, u "com/example/bitlattice/bitlattice/eval/Relation"), (0, .methodref 14 17), (0, .nameAndType 5 18), (0, u "(I)V"), (0, .methodref 14 20), (0, .nameAndType 21 18), (0, u "reserve"), (0, .methodref 14 23), (0, .nameAndType 24 25), (0, u "add"), (0, u "([I)Z"), (0, .methodref 14 27), (0, .nameAndType 28 29), (0, u "values"), (0, u "()[I"), (0, .methodref 14 31), (0, .nameAndType 32 6), (0, u "clear"), (0, .methodref 14 34), (0, .nameAndType 35 36), (0, u "size"), (0, u "()I"), (0, .methodref 14 38), (0, .nameAndType 39 40), (0, u "isSmall"), (0, u "()Z"), (0, .methodref 14 42), (0, .nameAndType 43 25), (0, u "contains"), (5, u "law"), (0, u "(IIIIII)Z")] 2

def k1m0 : Method := { name := "<init>", desc := "()V", sig := { parameters := [], returnType := none }, accessFlags := 1, code := none }
def k1c1 : Code := { maxStack := 3, maxLocals := 5, code := method_2_code, exceptionTable := #[], attributes := #[] }
def k1m1 : Method := { name := "row", desc := "(IIII)[I", sig := { parameters := [.int, .int, .int, .int], returnType := some (.array .int) }, accessFlags := 10, code := some k1c1 }
def k1c2 : Code := { maxStack := 4, maxLocals := 18, code := code, exceptionTable := #[], attributes := #[] }
def k1m2 : Method := { name := "law", desc := "(IIIIII)Z", sig := { parameters := [.int, .int, .int, .int, .int, .int], returnType := some .boolean }, accessFlags := 9, code := some k1c2 }
/-- com/example/bitlattice/bitlattice/eval/RelationClearPinLaw -/
def k1 : Class := { plain "com/example/bitlattice/bitlattice/eval/RelationClearPinLaw" (some 0) with
  accessFlags := 49
  interfaces := #[]
  cf := some (fileOf pool1 9 #[] #[{ accessFlags := 1, nameIndex := 5, descriptorIndex := 6, attributes := #[] }, { accessFlags := 10, nameIndex := 12, descriptorIndex := 13, attributes := #[] }, { accessFlags := 9, nameIndex := 49, descriptorIndex := 50, attributes := #[] }] 49 2 #[] #[])
  fields := #[]
  methods := #[k1m0, k1m1, k1m2]
  instanceTypes := #[]
  staticTypes := #[]
  resolved := Array.replicate 53 none
  statics := none }

def pool2 : Array CpInfo := pool [(3, .methodref 4 5), (0, .class_ 6), (0, .nameAndType 7 8), (0, u "java/lang/Object"), (0, u "<init>"), (0, u "()V"), (0, .fieldref 10 11), (0, .class_ 12), (0, .nameAndType 13 14), (0, u "com/example/bitlattice/bitlattice/eval/Relation"), (0, u "NO_INDEXES"), (0, u "[Lcom/example/bitlattice/bitlattice/eval/Relation$Index;"), (0, .fieldref 10 16), (0, .nameAndType 17 14), (0, u "indexes"), (0, .fieldref 10 19), (0, .nameAndType 20 21), (0, u "arity"), (0, u "I"), (0, .fieldref 10 23), (0, .nameAndType 24 25), (0, u "values"), (0, u "[I"), (0, .fieldref 10 27), (0, .nameAndType 28 21), (0, u "size"), (0, .class_ 30), (0, u "com/example/bitlattice/bitlattice/eval/Relation$Index"), (0, .methodref 10 32), (0, .nameAndType 33 34), (0, u "allPositions"), (0, u "(I)[I"), (0, .methodref 29 36), (0, .nameAndType 7 37), (0, u "(Lcom/example/bitlattice/bitlattice/eval/Relation;[II)V"), (0, .fieldref 10 39), (0, .nameAndType 40 41), (0, u "members"), (0, u "Lcom/example/bitlattice/bitlattice/eval/Relation$Index;"), (3, .methodref 46 47), (0, .class_ 48), (0, .nameAndType 49 50), (0, u "java/util/Arrays"), (0, u "copyOf"), (0, u "([II)[I"), (4, .fieldref 10 56), (0, .nameAndType 57 21), (0, u "holdingAny"), (6, u "reserve"), (0, u "(I)V"), (0, .methodref 10 67), (0, .nameAndType 68 69), (0, u "contains"), (0, u "([I)Z"), (0, .methodref 71 72), (0, .class_ 73), (0, .nameAndType 74 75), (0, u "java/lang/Math"), (0, u "max"), (0, u "(II)I"), (0, .methodref 77 78), (0, .class_ 79), (0, .nameAndType 80 81), (0, u "java/lang/System"), (0, u "arraycopy"), (0, u "(Ljava/lang/Object;ILjava/lang/Object;II)V"), (0, .methodref 29 83), (0, .nameAndType 84 85), (0, u "insertNew"), (0, u "(I)Z"), (0, .integer 2147483647), (7, .methodref 10 95), (0, .nameAndType 96 97), (0, u "rowIs"), (0, u "(I[I)Z"), (14, u "()I"), (7, u "()[I"), (38, .integer 2654435761), (2, u "NONE"), (0, u "ANY"), (1, u "SMALL"), (7, u "()Z"), (0, u "isSmall"), (0, u "clear"), (2, u "add"), (2, u "mix")] 6

def k2c0 : Code := { maxStack := 3, maxLocals := 2, code := prog_33_method_1_code, exceptionTable := #[], attributes := #[] }
def k2m0 : Method := { name := "<init>", desc := "(I)V", sig := { parameters := [.int], returnType := none }, accessFlags := 0, code := some k2c0 }
def k2c1 : Code := { maxStack := 1, maxLocals := 1, code := prog_33_method_6_code, exceptionTable := #[], attributes := #[] }
def k2m1 : Method := { name := "size", desc := "()I", sig := { parameters := [], returnType := some .int }, accessFlags := 0, code := some k2c1 }
def k2c2 : Code := { maxStack := 1, maxLocals := 1, code := prog_33_method_8_code, exceptionTable := #[], attributes := #[] }
def k2m2 : Method := { name := "isSmall", desc := "()Z", sig := { parameters := [], returnType := some .boolean }, accessFlags := 0, code := some k2c2 }
def k2c3 : Code := { maxStack := 2, maxLocals := 1, code := prog_33_method_9_code, exceptionTable := #[], attributes := #[] }
def k2m3 : Method := { name := "clear", desc := "()V", sig := { parameters := [], returnType := none }, accessFlags := 0, code := some k2c3 }
def k2c4 : Code := { maxStack := 1, maxLocals := 1, code := prog_33_method_12_code, exceptionTable := #[], attributes := #[] }
def k2m4 : Method := { name := "values", desc := "()[I", sig := { parameters := [], returnType := some (.array .int) }, accessFlags := 0, code := some k2c4 }
def k2c5 : Code := { maxStack := 6, maxLocals := 7, code := prog_33_method_13_code, exceptionTable := #[], attributes := #[] }
def k2m5 : Method := { name := "reserve", desc := "(I)V", sig := { parameters := [.int], returnType := none }, accessFlags := 0, code := some k2c5 }
def k2c6 : Code := { maxStack := 6, maxLocals := 7, code := prog_33_method_14_code, exceptionTable := #[], attributes := #[] }
def k2m6 : Method := { name := "add", desc := "([I)Z", sig := { parameters := [(.array .int)], returnType := some .boolean }, accessFlags := 0, code := some k2c6 }
def k2c7 : Code := { maxStack := 3, maxLocals := 3, code := prog_33_method_15_code, exceptionTable := #[], attributes := #[] }
def k2m7 : Method := { name := "contains", desc := "([I)Z", sig := { parameters := [(.array .int)], returnType := some .boolean }, accessFlags := 0, code := some k2c7 }
def k2c8 : Code := { maxStack := 3, maxLocals := 4, code := prog_33_method_16_code, exceptionTable := #[], attributes := #[] }
def k2m8 : Method := { name := "rowIs", desc := "(I[I)Z", sig := { parameters := [.int, (.array .int)], returnType := some .boolean }, accessFlags := 2, code := some k2c8 }
def k2c9 : Code := { maxStack := 3, maxLocals := 3, code := prog_33_method_21_code, exceptionTable := #[], attributes := #[] }
def k2m9 : Method := { name := "allPositions", desc := "(I)[I", sig := { parameters := [.int], returnType := some (.array .int) }, accessFlags := 10, code := some k2c9 }
def k2c10 : Code := { maxStack := 2, maxLocals := 2, code := prog_33_method_26_code, exceptionTable := #[], attributes := #[] }
def k2m10 : Method := { name := "mix", desc := "(II)I", sig := { parameters := [.int, .int], returnType := some .int }, accessFlags := 10, code := some k2c10 }
/-- com/example/bitlattice/bitlattice/eval/Relation -/
def k2 : Class := { plain "com/example/bitlattice/bitlattice/eval/Relation" (some 0) with
  accessFlags := 32
  interfaces := #[]
  cf := some (fileOf pool2 10 #[.nestMembers #[29]] #[{ accessFlags := 0, nameIndex := 7, descriptorIndex := 65, attributes := #[] }, { accessFlags := 0, nameIndex := 28, descriptorIndex := 112, attributes := #[] }, { accessFlags := 0, nameIndex := 174, descriptorIndex := 173, attributes := #[] }, { accessFlags := 0, nameIndex := 175, descriptorIndex := 8, attributes := #[] }, { accessFlags := 0, nameIndex := 24, descriptorIndex := 120, attributes := #[] }, { accessFlags := 0, nameIndex := 64, descriptorIndex := 65, attributes := #[] }, { accessFlags := 0, nameIndex := 178, descriptorIndex := 69, attributes := #[] }, { accessFlags := 0, nameIndex := 68, descriptorIndex := 69, attributes := #[] }, { accessFlags := 2, nameIndex := 96, descriptorIndex := 97, attributes := #[] }, { accessFlags := 10, nameIndex := 33, descriptorIndex := 34, attributes := #[] }, { accessFlags := 10, nameIndex := 181, descriptorIndex := 75, attributes := #[] }] 32 4 #[] #[{ accessFlags := 24, nameIndex := 163, descriptorIndex := 21, attributes := #[] }, { accessFlags := 26, nameIndex := 165, descriptorIndex := 21, attributes := #[] }, { accessFlags := 26, nameIndex := 13, descriptorIndex := 14, attributes := #[] }, { accessFlags := 26, nameIndex := 162, descriptorIndex := 25, attributes := #[] }, { accessFlags := 18, nameIndex := 20, descriptorIndex := 21, attributes := #[] }, { accessFlags := 2, nameIndex := 24, descriptorIndex := 25, attributes := #[] }, { accessFlags := 2, nameIndex := 28, descriptorIndex := 21, attributes := #[] }, { accessFlags := 2, nameIndex := 57, descriptorIndex := 21, attributes := #[] }, { accessFlags := 2, nameIndex := 40, descriptorIndex := 41, attributes := #[] }, { accessFlags := 66, nameIndex := 17, descriptorIndex := 14, attributes := #[] }])
  fields := #[{ name := "ANY", type := .int, accessFlags := 24, slot := 0, constantValue := 0 }, { name := "SMALL", type := .int, accessFlags := 26, slot := 1, constantValue := 0 }, { name := "NO_INDEXES", type := (.array (.object "com/example/bitlattice/bitlattice/eval/Relation$Index")), accessFlags := 26, slot := 2, constantValue := 0 }, { name := "NONE", type := (.array .int), accessFlags := 26, slot := 3, constantValue := 0 }, { name := "arity", type := .int, accessFlags := 18, slot := 0, constantValue := 0 }, { name := "values", type := (.array .int), accessFlags := 2, slot := 1, constantValue := 0 }, { name := "size", type := .int, accessFlags := 2, slot := 2, constantValue := 0 }, { name := "holdingAny", type := .int, accessFlags := 2, slot := 3, constantValue := 0 }, { name := "members", type := (.object "com/example/bitlattice/bitlattice/eval/Relation$Index"), accessFlags := 2, slot := 4, constantValue := 0 }, { name := "indexes", type := (.array (.object "com/example/bitlattice/bitlattice/eval/Relation$Index")), accessFlags := 66, slot := 5, constantValue := 0 }]
  methods := #[k2m0, k2m1, k2m2, k2m3, k2m4, k2m5, k2m6, k2m7, k2m8, k2m9, k2m10]
  instanceTypes := #[.int, (.array .int), .int, .int, (.object "com/example/bitlattice/bitlattice/eval/Relation$Index"), (.array (.object "com/example/bitlattice/bitlattice/eval/Relation$Index"))]
  staticTypes := #[.int, .int, (.array (.object "com/example/bitlattice/bitlattice/eval/Relation$Index")), (.array .int)]
  resolved := Array.replicate 188 none
  statics := some 0 }

def pool3 : Array CpInfo := pool [(2, .class_ 4), (1, u "java/lang/Object"), (0, u "<init>"), (0, u "()V"), (1, .class_ 10), (1, u "java/lang/System"), (0, u "allowSecurityManager"), (0, u "I"), (16, u "cons"), (0, u "Ljava/io/Console;"), (77, .class_ 110), (1, u "java/lang/System$CallersHolder"), (43, u "initialErrStream"), (0, u "Ljava/io/PrintStream;"), (19, u "security"), (0, u "Ljava/lang/SecurityManager;"), (31, .class_ 209), (0, u "java/lang/System$1"), (7, u "props"), (0, u "Ljava/util/Properties;"), (2, u "lineSeparator"), (0, u "Ljava/lang/String;"), (96, .class_ 321), (1, u "java/lang/System$LoggerFinder"), (5, .class_ 328), (0, u "java/lang/System$Logger"), (67, u "err"), (2, u "out"), (91, u "notSupportedJnuEncoding"), (15, u "in"), (17, u "initialIn"), (0, u "Ljava/io/InputStream;"), (35, u "bootLayer"), (0, u "Ljava/lang/ModuleLayer;"), (99, .class_ 664), (0, u "java/lang/System$2"), (9, u "NEVER"), (2, u "MAYBE"), (49, u "arraycopy"), (0, u "(Ljava/lang/Object;ILjava/lang/Object;II)V"), (72, .class_ 802), (0, u "java/lang/System$Logger$Level")] 31

def k3m0 : Method := { name := "<init>", desc := "()V", sig := { parameters := [], returnType := none }, accessFlags := 2, code := none }
def k3m1 : Method := { name := "arraycopy", desc := "(Ljava/lang/Object;ILjava/lang/Object;II)V", sig := { parameters := [(.object "java/lang/Object"), .int, (.object "java/lang/Object"), .int, .int], returnType := none }, accessFlags := 265, code := none }
/-- java/lang/System -/
def k3 : Class := { plain "java/lang/System" (some 0) with
  accessFlags := 49
  interfaces := #[]
  cf := some (fileOf pool3 8 #[.nestMembers #[319, 327, 801, 108, 663, 208]] #[{ accessFlags := 2, nameIndex := 5, descriptorIndex := 6, attributes := #[] }, { accessFlags := 265, nameIndex := 727, descriptorIndex := 728, attributes := #[] }] 49 2 #[] #[{ accessFlags := 25, nameIndex := 507, descriptorIndex := 526, attributes := #[] }, { accessFlags := 25, nameIndex := 399, descriptorIndex := 155, attributes := #[] }, { accessFlags := 25, nameIndex := 396, descriptorIndex := 155, attributes := #[] }, { accessFlags := 10, nameIndex := 525, descriptorIndex := 526, attributes := #[] }, { accessFlags := 26, nameIndex := 674, descriptorIndex := 12, attributes := #[] }, { accessFlags := 26, nameIndex := 677, descriptorIndex := 12, attributes := #[] }, { accessFlags := 10, nameIndex := 11, descriptorIndex := 12, attributes := #[] }, { accessFlags := 74, nameIndex := 175, descriptorIndex := 176, attributes := #[] }, { accessFlags := 10, nameIndex := 491, descriptorIndex := 222, attributes := #[] }, { accessFlags := 74, nameIndex := 29, descriptorIndex := 30, attributes := #[] }, { accessFlags := 74, nameIndex := 154, descriptorIndex := 155, attributes := #[] }, { accessFlags := 10, nameIndex := 217, descriptorIndex := 218, attributes := #[] }, { accessFlags := 10, nameIndex := 221, descriptorIndex := 222, attributes := #[] }, { accessFlags := 8, nameIndex := 562, descriptorIndex := 563, attributes := #[] }])
  fields := #[{ name := "in", type := (.object "java/io/InputStream"), accessFlags := 25, slot := 0, constantValue := 0 }, { name := "out", type := (.object "java/io/PrintStream"), accessFlags := 25, slot := 1, constantValue := 0 }, { name := "err", type := (.object "java/io/PrintStream"), accessFlags := 25, slot := 2, constantValue := 0 }, { name := "initialIn", type := (.object "java/io/InputStream"), accessFlags := 10, slot := 3, constantValue := 0 }, { name := "NEVER", type := .int, accessFlags := 26, slot := 4, constantValue := 0 }, { name := "MAYBE", type := .int, accessFlags := 26, slot := 5, constantValue := 0 }, { name := "allowSecurityManager", type := .int, accessFlags := 10, slot := 6, constantValue := 0 }, { name := "security", type := (.object "java/lang/SecurityManager"), accessFlags := 74, slot := 7, constantValue := 0 }, { name := "notSupportedJnuEncoding", type := (.object "java/lang/String"), accessFlags := 10, slot := 8, constantValue := 0 }, { name := "cons", type := (.object "java/io/Console"), accessFlags := 74, slot := 9, constantValue := 0 }, { name := "initialErrStream", type := (.object "java/io/PrintStream"), accessFlags := 74, slot := 10, constantValue := 0 }, { name := "props", type := (.object "java/util/Properties"), accessFlags := 10, slot := 11, constantValue := 0 }, { name := "lineSeparator", type := (.object "java/lang/String"), accessFlags := 10, slot := 12, constantValue := 0 }, { name := "bootLayer", type := (.object "java/lang/ModuleLayer"), accessFlags := 8, slot := 13, constantValue := 0 }]
  methods := #[k3m0, k3m1]
  instanceTypes := #[]
  staticTypes := #[(.object "java/io/InputStream"), (.object "java/io/PrintStream"), (.object "java/io/PrintStream"), (.object "java/io/InputStream"), .int, .int, .int, (.object "java/lang/SecurityManager"), (.object "java/lang/String"), (.object "java/io/Console"), (.object "java/io/PrintStream"), (.object "java/util/Properties"), (.object "java/lang/String"), (.object "java/lang/ModuleLayer")]
  resolved := Array.replicate 834 none
  statics := none }

def pool4 : Array CpInfo := pool [(2, .class_ 4), (1, u "java/lang/Object"), (0, u "<init>"), (0, u "()V"), (7, .class_ 16), (1, u "java/util/Arrays"), (57, .class_ 76), (1, u "java/util/Arrays$NaturalOrder"), (36, .class_ 115), (1, u "java/util/Arrays$LegacyMergeSort"), (1, u "Z"), (32, .methodref 151 152), (0, .class_ 153), (0, .nameAndType 154 155), (0, u "java/lang/System"), (0, u "arraycopy"), (0, u "(Ljava/lang/Object;ILjava/lang/Object;II)V"), (146, u "copyOf"), (1, .methodref 305 306), (0, .class_ 307), (0, .nameAndType 308 309), (0, u "java/lang/Math"), (0, u "min"), (0, u "(II)I"), (65, .class_ 376), (0, u "java/util/Arrays$ArrayList"), (68, u "$assertionsDisabled"), (269, u "MIN_ARRAY_SORT_GRAN"), (0, u "I"), (2, u "INSERTIONSORT_THRESHOLD"), (151, u "([II)[I"), (103, .class_ 976), (0, u "java/util/Arrays$ArrayItr")] 52

def k4m0 : Method := { name := "<init>", desc := "()V", sig := { parameters := [], returnType := none }, accessFlags := 2, code := none }
def k4c1 : Code := { maxStack := 6, maxLocals := 3, code := jdk_65_method_123_code, exceptionTable := #[], attributes := #[] }
def k4m1 : Method := { name := "copyOf", desc := "([II)[I", sig := { parameters := [(.array .int), .int], returnType := some (.array .int) }, accessFlags := 9, code := some k4c1 }
/-- java/util/Arrays -/
def k4 : Class := { plain "java/util/Arrays" (some 0) with
  accessFlags := 49
  interfaces := #[]
  cf := some (fileOf pool4 14 #[.nestMembers #[975, 375, 113, 74]] #[{ accessFlags := 2, nameIndex := 5, descriptorIndex := 6, attributes := #[] }, { accessFlags := 9, nameIndex := 302, descriptorIndex := 871, attributes := #[] }] 49 2 #[] #[{ accessFlags := 26, nameIndex := 715, descriptorIndex := 716, attributes := #[] }, { accessFlags := 26, nameIndex := 719, descriptorIndex := 716, attributes := #[] }, { accessFlags := 4120, nameIndex := 445, descriptorIndex := 117, attributes := #[] }])
  fields := #[{ name := "MIN_ARRAY_SORT_GRAN", type := .int, accessFlags := 26, slot := 0, constantValue := 0 }, { name := "INSERTIONSORT_THRESHOLD", type := .int, accessFlags := 26, slot := 1, constantValue := 0 }, { name := "$assertionsDisabled", type := .boolean, accessFlags := 4120, slot := 2, constantValue := 0 }]
  methods := #[k4m0, k4m1]
  instanceTypes := #[]
  staticTypes := #[.int, .int, .boolean]
  resolved := Array.replicate 1029 none
  statics := none }

def pool5 : Array CpInfo := pool [(1, .class_ 2), (0, u "java/lang/Math"), (1, .class_ 6), (1, u "java/lang/Object"), (0, u "<init>"), (0, u "()V"), (89, .class_ 100), (1, u "java/lang/Math$RandomNumberGeneratorHolder"), (71, u "negativeZeroFloatBits"), (0, u "J"), (2, u "negativeZeroDoubleBits"), (21, u "max"), (2, u "min"), (43, u "$assertionsDisabled"), (0, u "Z"), (88, u "(II)I"), (2, u "twoToTheDoubleScaleDown"), (0, u "D"), (4, u "twoToTheDoubleScaleUp"), (9, u "E"), (3, u "PI"), (2, u "TAU"), (2, u "DEGREES_TO_RADIANS"), (0, u "RADIANS_TO_DEGREES")] 94

def k5m0 : Method := { name := "<init>", desc := "()V", sig := { parameters := [], returnType := none }, accessFlags := 2, code := none }
def k5c1 : Code := { maxStack := 2, maxLocals := 2, code := jdk_29_method_65_code, exceptionTable := #[], attributes := #[] }
def k5m1 : Method := { name := "max", desc := "(II)I", sig := { parameters := [.int, .int], returnType := some .int }, accessFlags := 9, code := some k5c1 }
def k5c2 : Code := { maxStack := 2, maxLocals := 2, code := jdk_29_method_69_code, exceptionTable := #[], attributes := #[] }
def k5m2 : Method := { name := "min", desc := "(II)I", sig := { parameters := [.int, .int], returnType := some .int }, accessFlags := 9, code := some k5c2 }
/-- java/lang/Math -/
def k5 : Class := { plain "java/lang/Math" (some 0) with
  accessFlags := 49
  interfaces := #[]
  cf := some (fileOf pool5 1 #[.nestMembers #[98]] #[{ accessFlags := 2, nameIndex := 7, descriptorIndex := 8, attributes := #[] }, { accessFlags := 9, nameIndex := 198, descriptorIndex := 335, attributes := #[] }, { accessFlags := 9, nameIndex := 201, descriptorIndex := 335, attributes := #[] }] 49 4 #[] #[{ accessFlags := 25, nameIndex := 354, descriptorIndex := 339, attributes := #[] }, { accessFlags := 25, nameIndex := 358, descriptorIndex := 339, attributes := #[] }, { accessFlags := 25, nameIndex := 361, descriptorIndex := 339, attributes := #[] }, { accessFlags := 26, nameIndex := 364, descriptorIndex := 339, attributes := #[] }, { accessFlags := 26, nameIndex := 365, descriptorIndex := 339, attributes := #[] }, { accessFlags := 26, nameIndex := 172, descriptorIndex := 173, attributes := #[] }, { accessFlags := 26, nameIndex := 176, descriptorIndex := 173, attributes := #[] }, { accessFlags := 8, nameIndex := 344, descriptorIndex := 339, attributes := #[] }, { accessFlags := 8, nameIndex := 338, descriptorIndex := 339, attributes := #[] }, { accessFlags := 4120, nameIndex := 245, descriptorIndex := 246, attributes := #[] }])
  fields := #[{ name := "E", type := .double, accessFlags := 25, slot := 0, constantValue := 0 }, { name := "PI", type := .double, accessFlags := 25, slot := 1, constantValue := 0 }, { name := "TAU", type := .double, accessFlags := 25, slot := 2, constantValue := 0 }, { name := "DEGREES_TO_RADIANS", type := .double, accessFlags := 26, slot := 3, constantValue := 0 }, { name := "RADIANS_TO_DEGREES", type := .double, accessFlags := 26, slot := 4, constantValue := 0 }, { name := "negativeZeroFloatBits", type := .long, accessFlags := 26, slot := 5, constantValue := 0 }, { name := "negativeZeroDoubleBits", type := .long, accessFlags := 26, slot := 6, constantValue := 0 }, { name := "twoToTheDoubleScaleUp", type := .double, accessFlags := 8, slot := 7, constantValue := 0 }, { name := "twoToTheDoubleScaleDown", type := .double, accessFlags := 8, slot := 8, constantValue := 0 }, { name := "$assertionsDisabled", type := .boolean, accessFlags := 4120, slot := 9, constantValue := 0 }]
  methods := #[k5m0, k5m1, k5m2]
  instanceTypes := #[]
  staticTypes := #[.double, .double, .double, .double, .double, .long, .long, .double, .double, .boolean]
  resolved := Array.replicate 460 none
  statics := none }

def pool6 : Array CpInfo := pool [(1, .fieldref 2 3), (0, .class_ 4), (0, .nameAndType 5 6), (0, u "com/example/bitlattice/bitlattice/eval/Relation$Index"), (0, u "this$0"), (0, u "Lcom/example/bitlattice/bitlattice/eval/Relation;"), (0, .methodref 8 9), (0, .class_ 10), (0, .nameAndType 11 12), (0, u "java/lang/Object"), (0, u "<init>"), (0, u "()V"), (0, .fieldref 2 14), (0, .nameAndType 15 16), (0, u "positions"), (0, u "[I"), (0, .methodref 18 19), (0, .class_ 20), (0, .nameAndType 21 22), (0, u "java/lang/Math"), (0, u "max"), (0, u "(II)I"), (0, .methodref 24 25), (0, .class_ 26), (0, .nameAndType 27 28), (0, u "java/lang/Integer"), (0, u "highestOneBit"), (0, u "(I)I"), (0, .fieldref 2 30), (0, .nameAndType 31 16), (0, u "slots"), (0, .fieldref 2 33), (0, .nameAndType 34 16), (0, u "next"), (0, .fieldref 36 37), (0, .class_ 38), (0, .nameAndType 39 40), (0, u "com/example/bitlattice/bitlattice/eval/Relation"), (0, u "size"), (0, u "I"), (3, u "(I)V"), (0, .methodref 2 46), (0, .nameAndType 47 28), (0, u "hash"), (0, .methodref 2 49), (0, .nameAndType 50 22), (0, u "probe"), (0, .methodref 2 52), (0, .nameAndType 53 54), (0, u "take"), (0, u "(III)V"), (0, .methodref 2 56), (0, .nameAndType 57 44), (0, u "chain"), (3, .methodref 62 63), (0, .class_ 64), (0, .nameAndType 65 66), (0, u "java/util/Arrays"), (0, u "copyOf"), (0, u "([II)[I"), (0, .methodref 36 68), (0, .nameAndType 69 22), (0, u "mix"), (0, .methodref 2 71), (0, .nameAndType 72 28), (0, u "start"), (13, .fieldref 2 87), (0, .nameAndType 88 40), (0, u "keys"), (4, .integer 2246822507), (0, .integer 3266489909), (6, .fieldref 36 102), (0, .nameAndType 103 16), (0, u "values"), (0, .fieldref 36 105), (0, .nameAndType 106 40), (0, u "arity"), (0, u "FIRST"), (2, u "LAST"), (1, u "COUNT"), (1, u "HASH"), (1, u "WIDTH"), (1, u "(Lcom/example/bitlattice/bitlattice/eval/Relation;[II)V"), (6, u "insertNew"), (0, u "(I)Z")] 10

def k6c0 : Code := { maxStack := 3, maxLocals := 5, code := prog_34_method_1_code, exceptionTable := #[], attributes := #[] }
def k6m0 : Method := { name := "<init>", desc := "(Lcom/example/bitlattice/bitlattice/eval/Relation;[II)V", sig := { parameters := [(.object "com/example/bitlattice/bitlattice/eval/Relation"), (.array .int), .int], returnType := none }, accessFlags := 0, code := some k6c0 }
def k6c1 : Code := { maxStack := 4, maxLocals := 4, code := prog_34_method_4_code, exceptionTable := #[], attributes := #[] }
def k6m1 : Method := { name := "insertNew", desc := "(I)Z", sig := { parameters := [.int], returnType := some .boolean }, accessFlags := 0, code := some k6c1 }
def k6c2 : Code := { maxStack := 4, maxLocals := 4, code := prog_34_method_8_code, exceptionTable := #[], attributes := #[] }
def k6m2 : Method := { name := "probe", desc := "(II)I", sig := { parameters := [.int, .int], returnType := some .int }, accessFlags := 2, code := some k6c2 }
def k6c3 : Code := { maxStack := 4, maxLocals := 4, code := prog_34_method_9_code, exceptionTable := #[], attributes := #[] }
def k6m3 : Method := { name := "take", desc := "(III)V", sig := { parameters := [.int, .int, .int], returnType := none }, accessFlags := 2, code := some k6c3 }
def k6c4 : Code := { maxStack := 5, maxLocals := 2, code := prog_34_method_10_code, exceptionTable := #[], attributes := #[] }
def k6m4 : Method := { name := "chain", desc := "(I)V", sig := { parameters := [.int], returnType := none }, accessFlags := 2, code := some k6c4 }
def k6c5 : Code := { maxStack := 3, maxLocals := 3, code := prog_34_method_11_code, exceptionTable := #[], attributes := #[] }
def k6m5 : Method := { name := "start", desc := "(I)I", sig := { parameters := [.int], returnType := some .int }, accessFlags := 2, code := some k6c5 }
def k6c6 : Code := { maxStack := 4, maxLocals := 7, code := prog_34_method_14_code, exceptionTable := #[], attributes := #[] }
def k6m6 : Method := { name := "hash", desc := "(I)I", sig := { parameters := [.int], returnType := some .int }, accessFlags := 2, code := some k6c6 }
/-- com/example/bitlattice/bitlattice/eval/Relation$Index -/
def k6 : Class := { plain "com/example/bitlattice/bitlattice/eval/Relation$Index" (some 0) with
  accessFlags := 32
  interfaces := #[]
  cf := some (fileOf pool6 2 #[.nestHost 36] #[{ accessFlags := 0, nameIndex := 11, descriptorIndex := 118, attributes := #[] }, { accessFlags := 0, nameIndex := 125, descriptorIndex := 126, attributes := #[] }, { accessFlags := 2, nameIndex := 50, descriptorIndex := 22, attributes := #[] }, { accessFlags := 2, nameIndex := 53, descriptorIndex := 54, attributes := #[] }, { accessFlags := 2, nameIndex := 57, descriptorIndex := 44, attributes := #[] }, { accessFlags := 2, nameIndex := 72, descriptorIndex := 28, attributes := #[] }, { accessFlags := 2, nameIndex := 47, descriptorIndex := 28, attributes := #[] }] 32 8 #[] #[{ accessFlags := 26, nameIndex := 107, descriptorIndex := 40, attributes := #[] }, { accessFlags := 26, nameIndex := 110, descriptorIndex := 40, attributes := #[] }, { accessFlags := 26, nameIndex := 112, descriptorIndex := 40, attributes := #[] }, { accessFlags := 26, nameIndex := 114, descriptorIndex := 40, attributes := #[] }, { accessFlags := 26, nameIndex := 116, descriptorIndex := 40, attributes := #[] }, { accessFlags := 18, nameIndex := 15, descriptorIndex := 16, attributes := #[] }, { accessFlags := 2, nameIndex := 31, descriptorIndex := 16, attributes := #[] }, { accessFlags := 2, nameIndex := 34, descriptorIndex := 16, attributes := #[] }, { accessFlags := 2, nameIndex := 88, descriptorIndex := 40, attributes := #[] }, { accessFlags := 4112, nameIndex := 5, descriptorIndex := 6, attributes := #[] }])
  fields := #[{ name := "FIRST", type := .int, accessFlags := 26, slot := 0, constantValue := 0 }, { name := "LAST", type := .int, accessFlags := 26, slot := 1, constantValue := 0 }, { name := "COUNT", type := .int, accessFlags := 26, slot := 2, constantValue := 0 }, { name := "HASH", type := .int, accessFlags := 26, slot := 3, constantValue := 0 }, { name := "WIDTH", type := .int, accessFlags := 26, slot := 4, constantValue := 0 }, { name := "positions", type := (.array .int), accessFlags := 18, slot := 0, constantValue := 0 }, { name := "slots", type := (.array .int), accessFlags := 2, slot := 1, constantValue := 0 }, { name := "next", type := (.array .int), accessFlags := 2, slot := 2, constantValue := 0 }, { name := "keys", type := .int, accessFlags := 2, slot := 3, constantValue := 0 }, { name := "this$0", type := (.object "com/example/bitlattice/bitlattice/eval/Relation"), accessFlags := 4112, slot := 4, constantValue := 0 }]
  methods := #[k6m0, k6m1, k6m2, k6m3, k6m4, k6m5, k6m6]
  instanceTypes := #[(.array .int), (.array .int), (.array .int), .int, (.object "com/example/bitlattice/bitlattice/eval/Relation")]
  staticTypes := #[.int, .int, .int, .int, .int]
  resolved := Array.replicate 137 none
  statics := none }

def pool7 : Array CpInfo := pool [(1, .class_ 2), (0, u "java/io/Serializable"), (0, .class_ 4), (0, u "java/lang/Object")] 2

/-- java/io/Serializable -/
def k7 : Class := { plain "java/io/Serializable" (some 0) with
  accessFlags := 1537
  interfaces := #[]
  cf := some (fileOf pool7 1 #[] #[] 1537 3 #[] #[])
  fields := #[]
  methods := #[]
  instanceTypes := #[]
  staticTypes := #[]
  resolved := Array.replicate 7 none
  statics := none }

def pool8 : Array CpInfo := pool [(2, .class_ 4), (1, u "java/lang/Object"), (0, u "<init>"), (0, u "()V"), (1, .class_ 10), (1, u "java/lang/Number"), (2, .class_ 14), (0, u "java/io/Serializable"), (0, u "serialVersionUID"), (0, u "J")] 20

def k8m0 : Method := { name := "<init>", desc := "()V", sig := { parameters := [], returnType := none }, accessFlags := 1, code := none }
/-- java/lang/Number -/
def k8 : Class := { plain "java/lang/Number" (some 0) with
  accessFlags := 1057
  interfaces := #[7]
  cf := some (fileOf pool8 8 #[] #[{ accessFlags := 1, nameIndex := 5, descriptorIndex := 6, attributes := #[] }] 1057 2 #[13] #[{ accessFlags := 26, nameIndex := 15, descriptorIndex := 16, attributes := #[] }])
  fields := #[{ name := "serialVersionUID", type := .long, accessFlags := 26, slot := 0, constantValue := 0 }]
  methods := #[k8m0]
  instanceTypes := #[]
  staticTypes := #[.long]
  resolved := Array.replicate 37 none
  statics := none }

def pool9 : Array CpInfo := pool [(1, .class_ 2), (0, u "java/lang/Comparable"), (0, .class_ 4), (0, u "java/lang/Object")] 7

/-- java/lang/Comparable -/
def k9 : Class := { plain "java/lang/Comparable" (some 0) with
  accessFlags := 1537
  interfaces := #[]
  cf := some (fileOf pool9 1 #[] #[] 1537 3 #[] #[])
  fields := #[]
  methods := #[]
  instanceTypes := #[]
  staticTypes := #[]
  resolved := Array.replicate 12 none
  statics := none }

def pool10 : Array CpInfo := pool [(1, .class_ 2), (0, u "java/lang/constant/Constable"), (0, .class_ 4), (0, u "java/lang/Object")] 6

/-- java/lang/constant/Constable -/
def k10 : Class := { plain "java/lang/constant/Constable" (some 0) with
  accessFlags := 1537
  interfaces := #[]
  cf := some (fileOf pool10 1 #[] #[] 1537 3 #[] #[])
  fields := #[]
  methods := #[]
  instanceTypes := #[]
  staticTypes := #[]
  resolved := Array.replicate 11 none
  statics := none }

def pool11 : Array CpInfo := pool [(1, .class_ 2), (0, u "java/lang/constant/ConstantDesc"), (0, .class_ 4), (0, u "java/lang/Object")] 32

/-- java/lang/constant/ConstantDesc -/
def k11 : Class := { plain "java/lang/constant/ConstantDesc" (some 0) with
  accessFlags := 1537
  interfaces := #[]
  cf := some (fileOf pool11 1 #[] #[] 1537 3 #[] #[])
  fields := #[]
  methods := #[]
  instanceTypes := #[]
  staticTypes := #[]
  resolved := Array.replicate 37 none
  statics := none }

def pool12 : Array CpInfo := pool [(1, .class_ 2), (0, u "java/lang/Integer"), (16, u "digits"), (0, u "[C"), (30, .methodref 1 52), (0, .nameAndType 53 54), (0, u "numberOfLeadingZeros"), (0, u "(I)I"), (30, u "DigitOnes"), (0, u "[B"), (2, u "DigitTens"), (37, .integer 2147483648), (61, .class_ 190), (0, u "java/lang/Integer$IntegerCache"), (3, u "I"), (8, .class_ 204), (0, u "java/lang/Number"), (2, u "value"), (56, .integer 65536), (37, u "TYPE"), (0, u "Ljava/lang/Class;"), (0, .class_ 305), (0, u "java/lang/Comparable"), (0, .class_ 307), (0, u "java/lang/constant/Constable"), (0, .class_ 309), (0, u "java/lang/constant/ConstantDesc"), (0, u "MIN_VALUE"), (1, u "MAX_VALUE"), (3, u "SIZE"), (1, u "BYTES"), (1, u "serialVersionUID"), (0, u "J"), (81, u "highestOneBit")] 49

def k12c0 : Code := { maxStack := 3, maxLocals := 1, code := jdk_33_method_45_code, exceptionTable := #[], attributes := #[] }
def k12m0 : Method := { name := "highestOneBit", desc := "(I)I", sig := { parameters := [.int], returnType := some .int }, accessFlags := 9, code := some k12c0 }
def k12c1 : Code := { maxStack := 3, maxLocals := 2, code := jdk_33_method_47_code, exceptionTable := #[], attributes := #[] }
def k12m1 : Method := { name := "numberOfLeadingZeros", desc := "(I)I", sig := { parameters := [.int], returnType := some .int }, accessFlags := 9, code := some k12c1 }
/-- java/lang/Integer -/
def k12 : Class := { plain "java/lang/Integer" (some 8) with
  accessFlags := 49
  interfaces := #[9, 10, 11]
  cf := some (fileOf pool12 1 #[.nestMembers #[189]] #[{ accessFlags := 9, nameIndex := 403, descriptorIndex := 54, attributes := #[] }, { accessFlags := 9, nameIndex := 53, descriptorIndex := 54, attributes := #[] }] 49 203 #[304, 306, 308] #[{ accessFlags := 25, nameIndex := 310, descriptorIndex := 194, attributes := #[] }, { accessFlags := 25, nameIndex := 312, descriptorIndex := 194, attributes := #[] }, { accessFlags := 25, nameIndex := 302, descriptorIndex := 303, attributes := #[] }, { accessFlags := 24, nameIndex := 19, descriptorIndex := 20, attributes := #[] }, { accessFlags := 24, nameIndex := 89, descriptorIndex := 86, attributes := #[] }, { accessFlags := 24, nameIndex := 85, descriptorIndex := 86, attributes := #[] }, { accessFlags := 18, nameIndex := 207, descriptorIndex := 194, attributes := #[] }, { accessFlags := 25, nameIndex := 316, descriptorIndex := 194, attributes := #[] }, { accessFlags := 25, nameIndex := 318, descriptorIndex := 194, attributes := #[] }, { accessFlags := 26, nameIndex := 320, descriptorIndex := 321, attributes := #[] }])
  fields := #[{ name := "MIN_VALUE", type := .int, accessFlags := 25, slot := 0, constantValue := 0 }, { name := "MAX_VALUE", type := .int, accessFlags := 25, slot := 1, constantValue := 0 }, { name := "TYPE", type := (.object "java/lang/Class"), accessFlags := 25, slot := 2, constantValue := 0 }, { name := "digits", type := (.array .char), accessFlags := 24, slot := 3, constantValue := 0 }, { name := "DigitTens", type := (.array .byte), accessFlags := 24, slot := 4, constantValue := 0 }, { name := "DigitOnes", type := (.array .byte), accessFlags := 24, slot := 5, constantValue := 0 }, { name := "value", type := .int, accessFlags := 18, slot := 0, constantValue := 0 }, { name := "SIZE", type := .int, accessFlags := 25, slot := 6, constantValue := 0 }, { name := "BYTES", type := .int, accessFlags := 25, slot := 7, constantValue := 0 }, { name := "serialVersionUID", type := .long, accessFlags := 26, slot := 8, constantValue := 0 }]
  methods := #[k12m0, k12m1]
  instanceTypes := #[.int]
  staticTypes := #[.int, .int, (.object "java/lang/Class"), (.array .char), (.array .byte), (.array .byte), .int, .int, .long]
  resolved := Array.replicate 453 none
  statics := none }

def pool13 : Array CpInfo := pool [(1, u "java/lang/Cloneable"), (0, .class_ 1), (0, u "java/lang/Object"), (0, .class_ 3)] 3

/-- java/lang/Cloneable -/
def k13 : Class := { plain "java/lang/Cloneable" (some 0) with
  accessFlags := 1537
  interfaces := #[]
  cf := some (fileOf pool13 2 #[] #[] 1537 4 #[] #[])
  fields := #[]
  methods := #[]
  instanceTypes := #[]
  staticTypes := #[]
  resolved := Array.replicate 8 none
  statics := none }

/-- the primitive byte -/
def k14 : Class := { plain "byte" none with kind := .primitive 'B', accessFlags := 0x411 }
/-- [B -/
def k15 : Class := { plain "[B" (some 0) with kind := .array 14 .byte, interfaces := #[13, 7], accessFlags := 1041 }

/-- the primitive int -/
def k16 : Class := { plain "int" none with kind := .primitive 'I', accessFlags := 0x411 }
/-- [I -/
def k17 : Class := { plain "[I" (some 0) with kind := .array 16 .int, interfaces := #[13, 7], accessFlags := 1041 }

/-- [Lcom/example/bitlattice/bitlattice/eval/Relation$Index; -/
def k18 : Class := { plain "[Lcom/example/bitlattice/bitlattice/eval/Relation$Index;" (some 0) with kind := .array 6 (.object "com/example/bitlattice/bitlattice/eval/Relation$Index"), interfaces := #[13, 7], accessFlags := 1041 }

def heap : Heap := #[{ cls := 2, slots := #[.int 0, .int 0, .ref 1, .null], vm := .statics 2 },
  { cls := 18, slots := #[], vm := .none }]
def classes : Array Class := #[k0, k1, k2, k3, k4, k5, k6, k7, k8, k9, k10, k11, k12, k13, k14, k15, k16, k17, k18]
def interned : List (Array UInt16 × Addr) := []
def slotsUsed : Nat := 4
def theMethod : MethodId := ⟨1, 2⟩
def args0 : Array Value := #[.int 5, .int 6, .int 7, .int 8, .int 9, .int 10]
def aboutOver (below : List Frame) : State where
  vm := { classes := classes, interned := interned.toArray }
  heap := heap
  slotsUsed := slotsUsed
  threads := #[{ frames := .invoking theMethod args0 :: below }]
def below0 : List Frame := [.native { method := ⟨0, 0⟩, args := #[] }]
def about1 : State := aboutOver below0
def p0 : Program := .bare "" "" ""
def e0 : Env := launch0.env 0 0 0
theorem w_frames : about1.frames = Frame.invoking theMethod args0 :: below0 := rfl
set_option maxRecDepth 65536 in
theorem w_args : argsFit about1.vm theMethod args0 = true := by decide +kernel
set_option maxRecDepth 65536 in
theorem w_heap : heapFits about1 = true := by decide +kernel
set_option maxRecDepth 65536 in
theorem w_runnable : about1.curStatus? = some .runnable := by decide +kernel
set_option maxRecDepth 65536 in
theorem w_alone : about1.alone = true := by decide +kernel
set_option maxRecDepth 65536 in
theorem w_named : about1.methodNamed? x = some theMethod := by decide +kernel
set_option maxRecDepth 65536 in
theorem w_hears : about1.hears theMethod below0 = true := by decide +kernel
set_option maxRecDepth 65536 in
theorem w_ripe : about1.ripe theMethod args0 below0 = true := by decide +kernel
theorem w_running : about1.status = .running := rfl
set_option maxRecDepth 65536 in
theorem w_room : about1.hasRoom e0.platform room_1 = true :=
  launch0.hasRoom_least _ room_1 (by decide +kernel) (by decide +kernel) (by decide +kernel) (by decide +kernel) (by decide +kernel) (by decide +kernel)
theorem allAtoms_all (ts : List Jvm.Cond) (a : Array Jvm.Value) (st : Jvm.State) : (allAtoms ts).before a st = ts.all (fun c => c.before a st) := by
  induction ts with
  | nil => rfl
  | cons c t ih =>
    show (Jvm.Cond.and c (allAtoms t)).before a st = _
    rw [Jvm.Cond.before_and, ih, List.all_cons]
def words1 : List Jvm.Cond := Jvm.Cond.code x code maxLocals ret :: tables_1
/-- a 'code' word, met by the world's own term for the bytes: nothing is compared byte by byte -/
theorem code_word {y : MethodName} {bytes : ByteArray} {mx : Nat} {rt : Option FieldType} {a : Array Value} {s : State} {m : MethodId} {meth : Method} {c : Code} (h1 : s.methodNamed? y = some m) (h2 : s.vm.method? m = some meth) (h3 : meth.code = some c) (h4 : c.code = bytes)
    (h5 : (c.maxLocals == mx && c.exceptionTable.isEmpty && decide (c.maxStack ≤ mostOperands) && decide (meth.sig.returnType = rt) && !meth.locks && decide (parseMethodDescriptor y.desc = some meth.sig)) = true) : (Jvm.Cond.code y bytes mx rt).before a s = true := by
  simp only [Bool.and_eq_true, beq_iff_eq, Bool.not_eq_true', decide_eq_true_eq] at h5
  obtain ⟨⟨⟨⟨⟨g1, g2⟩, g3⟩, g4⟩, g5⟩, g6⟩ := h5
  simp [Cond.before, Cond.holds, Cond.value, h1, h2, h3, h4, g1, g2, g3, g4, g5, g6]
def isCode : Jvm.Cond → Bool
  | .code _ _ _ _ => true
  | _ => false
theorem all_split {L : List Jvm.Cond} {P : Jvm.Cond → Bool} (h1 : L.all (fun c => isCode c || P c) = true) (h2 : ∀ c ∈ L.filter isCode, P c = true) : L.all P = true := by
  refine List.all_eq_true.mpr fun c hc => ?_
  have h := List.all_eq_true.mp h1 c hc
  rcases Bool.eq_false_or_eq_true (isCode c) with hi | hi
  · exact h2 c (List.mem_filter.mpr ⟨hc, hi⟩)
  · simpa [hi] using h
set_option maxRecDepth 65536 in
theorem w_c0 : (Jvm.Cond.code x code maxLocals ret).before args0 about1 = true := code_word (m := ⟨1, 2⟩) (meth := k1m2) (c := k1c2) (by decide +kernel) rfl rfl rfl (by decide +kernel)
set_option maxRecDepth 65536 in
theorem w_c1 : (Jvm.Cond.code ({ cls := "com/example/bitlattice/bitlattice/eval/RelationClearPinLaw", name := "row", desc := "(IIII)[I" } : Jvm.MethodName) method_2_code (5 : Nat) (Option.some (Jvm.ClassFile.FieldType.array Jvm.ClassFile.FieldType.int))).before args0 about1 = true := code_word (m := ⟨1, 1⟩) (meth := k1m1) (c := k1c1) (by decide +kernel) rfl rfl rfl (by decide +kernel)
set_option maxRecDepth 65536 in
theorem w_c2 : (Jvm.Cond.code ({ cls := "com/example/bitlattice/bitlattice/eval/Relation", name := "<init>", desc := "(I)V" } : Jvm.MethodName) prog_33_method_1_code (2 : Nat) (Option.none : Option Jvm.ClassFile.FieldType)).before args0 about1 = true := code_word (m := ⟨2, 0⟩) (meth := k2m0) (c := k2c0) (by decide +kernel) rfl rfl rfl (by decide +kernel)
set_option maxRecDepth 65536 in
theorem w_c3 : (Jvm.Cond.code ({ cls := "java/lang/Object", name := "<init>", desc := "()V" } : Jvm.MethodName) object_method_1_code (1 : Nat) (Option.none : Option Jvm.ClassFile.FieldType)).before args0 about1 = true := code_word (m := ⟨0, 0⟩) (meth := k0m0) (c := k0c0) (by decide +kernel) rfl rfl rfl (by decide +kernel)
set_option maxRecDepth 65536 in
theorem w_c4 : (Jvm.Cond.code ({ cls := "com/example/bitlattice/bitlattice/eval/Relation", name := "reserve", desc := "(I)V" } : Jvm.MethodName) prog_33_method_13_code (7 : Nat) (Option.none : Option Jvm.ClassFile.FieldType)).before args0 about1 = true := code_word (m := ⟨2, 5⟩) (meth := k2m5) (c := k2c5) (by decide +kernel) rfl rfl rfl (by decide +kernel)
set_option maxRecDepth 65536 in
theorem w_c5 : (Jvm.Cond.code ({ cls := "com/example/bitlattice/bitlattice/eval/Relation", name := "add", desc := "([I)Z" } : Jvm.MethodName) prog_33_method_14_code (7 : Nat) (Option.some Jvm.ClassFile.FieldType.boolean)).before args0 about1 = true := code_word (m := ⟨2, 6⟩) (meth := k2m6) (c := k2c6) (by decide +kernel) rfl rfl rfl (by decide +kernel)
set_option maxRecDepth 65536 in
theorem w_c6 : (Jvm.Cond.code ({ cls := "com/example/bitlattice/bitlattice/eval/Relation", name := "contains", desc := "([I)Z" } : Jvm.MethodName) prog_33_method_15_code (3 : Nat) (Option.some Jvm.ClassFile.FieldType.boolean)).before args0 about1 = true := code_word (m := ⟨2, 7⟩) (meth := k2m7) (c := k2c7) (by decide +kernel) rfl rfl rfl (by decide +kernel)
set_option maxRecDepth 65536 in
theorem w_c7 : (Jvm.Cond.code ({ cls := "com/example/bitlattice/bitlattice/eval/Relation", name := "values", desc := "()[I" } : Jvm.MethodName) prog_33_method_12_code (1 : Nat) (Option.some (Jvm.ClassFile.FieldType.array Jvm.ClassFile.FieldType.int))).before args0 about1 = true := code_word (m := ⟨2, 4⟩) (meth := k2m4) (c := k2c4) (by decide +kernel) rfl rfl rfl (by decide +kernel)
set_option maxRecDepth 65536 in
theorem w_c8 : (Jvm.Cond.code ({ cls := "com/example/bitlattice/bitlattice/eval/Relation", name := "clear", desc := "()V" } : Jvm.MethodName) prog_33_method_9_code (1 : Nat) (Option.none : Option Jvm.ClassFile.FieldType)).before args0 about1 = true := code_word (m := ⟨2, 3⟩) (meth := k2m3) (c := k2c3) (by decide +kernel) rfl rfl rfl (by decide +kernel)
set_option maxRecDepth 65536 in
theorem w_c9 : (Jvm.Cond.code ({ cls := "com/example/bitlattice/bitlattice/eval/Relation", name := "size", desc := "()I" } : Jvm.MethodName) prog_33_method_6_code (1 : Nat) (Option.some Jvm.ClassFile.FieldType.int)).before args0 about1 = true := code_word (m := ⟨2, 1⟩) (meth := k2m1) (c := k2c1) (by decide +kernel) rfl rfl rfl (by decide +kernel)
set_option maxRecDepth 65536 in
theorem w_c10 : (Jvm.Cond.code ({ cls := "com/example/bitlattice/bitlattice/eval/Relation", name := "isSmall", desc := "()Z" } : Jvm.MethodName) prog_33_method_8_code (1 : Nat) (Option.some Jvm.ClassFile.FieldType.boolean)).before args0 about1 = true := code_word (m := ⟨2, 2⟩) (meth := k2m2) (c := k2c2) (by decide +kernel) rfl rfl rfl (by decide +kernel)
set_option maxRecDepth 65536 in
theorem w_c11 : (Jvm.Cond.code ({ cls := "com/example/bitlattice/bitlattice/eval/Relation", name := "rowIs", desc := "(I[I)Z" } : Jvm.MethodName) prog_33_method_16_code (4 : Nat) (Option.some Jvm.ClassFile.FieldType.boolean)).before args0 about1 = true := code_word (m := ⟨2, 8⟩) (meth := k2m8) (c := k2c8) (by decide +kernel) rfl rfl rfl (by decide +kernel)
set_option maxRecDepth 65536 in
theorem w_c12 : (Jvm.Cond.code ({ cls := "java/util/Arrays", name := "copyOf", desc := "([II)[I" } : Jvm.MethodName) jdk_65_method_123_code (3 : Nat) (Option.some (Jvm.ClassFile.FieldType.array Jvm.ClassFile.FieldType.int))).before args0 about1 = true := code_word (m := ⟨4, 1⟩) (meth := k4m1) (c := k4c1) (by decide +kernel) rfl rfl rfl (by decide +kernel)
set_option maxRecDepth 65536 in
theorem w_c13 : (Jvm.Cond.code ({ cls := "java/lang/Math", name := "min", desc := "(II)I" } : Jvm.MethodName) jdk_29_method_69_code (2 : Nat) (Option.some Jvm.ClassFile.FieldType.int)).before args0 about1 = true := code_word (m := ⟨5, 2⟩) (meth := k5m2) (c := k5c2) (by decide +kernel) rfl rfl rfl (by decide +kernel)
set_option maxRecDepth 65536 in
theorem w_c14 : (Jvm.Cond.code ({ cls := "com/example/bitlattice/bitlattice/eval/Relation", name := "allPositions", desc := "(I)[I" } : Jvm.MethodName) prog_33_method_21_code (3 : Nat) (Option.some (Jvm.ClassFile.FieldType.array Jvm.ClassFile.FieldType.int))).before args0 about1 = true := code_word (m := ⟨2, 9⟩) (meth := k2m9) (c := k2c9) (by decide +kernel) rfl rfl rfl (by decide +kernel)
set_option maxRecDepth 65536 in
theorem w_c15 : (Jvm.Cond.code ({ cls := "com/example/bitlattice/bitlattice/eval/Relation$Index", name := "<init>", desc := "(Lcom/example/bitlattice/bitlattice/eval/Relation;[II)V" } : Jvm.MethodName) prog_34_method_1_code (5 : Nat) (Option.none : Option Jvm.ClassFile.FieldType)).before args0 about1 = true := code_word (m := ⟨6, 0⟩) (meth := k6m0) (c := k6c0) (by decide +kernel) rfl rfl rfl (by decide +kernel)
set_option maxRecDepth 65536 in
theorem w_c16 : (Jvm.Cond.code ({ cls := "java/lang/Math", name := "max", desc := "(II)I" } : Jvm.MethodName) jdk_29_method_65_code (2 : Nat) (Option.some Jvm.ClassFile.FieldType.int)).before args0 about1 = true := code_word (m := ⟨5, 1⟩) (meth := k5m1) (c := k5c1) (by decide +kernel) rfl rfl rfl (by decide +kernel)
set_option maxRecDepth 65536 in
theorem w_c17 : (Jvm.Cond.code ({ cls := "java/lang/Integer", name := "highestOneBit", desc := "(I)I" } : Jvm.MethodName) jdk_33_method_45_code (1 : Nat) (Option.some Jvm.ClassFile.FieldType.int)).before args0 about1 = true := code_word (m := ⟨12, 0⟩) (meth := k12m0) (c := k12c0) (by decide +kernel) rfl rfl rfl (by decide +kernel)
set_option maxRecDepth 65536 in
theorem w_c18 : (Jvm.Cond.code ({ cls := "java/lang/Integer", name := "numberOfLeadingZeros", desc := "(I)I" } : Jvm.MethodName) jdk_33_method_47_code (2 : Nat) (Option.some Jvm.ClassFile.FieldType.int)).before args0 about1 = true := code_word (m := ⟨12, 1⟩) (meth := k12m1) (c := k12c1) (by decide +kernel) rfl rfl rfl (by decide +kernel)
set_option maxRecDepth 65536 in
theorem w_c19 : (Jvm.Cond.code ({ cls := "com/example/bitlattice/bitlattice/eval/Relation$Index", name := "insertNew", desc := "(I)Z" } : Jvm.MethodName) prog_34_method_4_code (4 : Nat) (Option.some Jvm.ClassFile.FieldType.boolean)).before args0 about1 = true := code_word (m := ⟨6, 1⟩) (meth := k6m1) (c := k6c1) (by decide +kernel) rfl rfl rfl (by decide +kernel)
set_option maxRecDepth 65536 in
theorem w_c20 : (Jvm.Cond.code ({ cls := "com/example/bitlattice/bitlattice/eval/Relation$Index", name := "hash", desc := "(I)I" } : Jvm.MethodName) prog_34_method_14_code (7 : Nat) (Option.some Jvm.ClassFile.FieldType.int)).before args0 about1 = true := code_word (m := ⟨6, 6⟩) (meth := k6m6) (c := k6c6) (by decide +kernel) rfl rfl rfl (by decide +kernel)
set_option maxRecDepth 65536 in
theorem w_c21 : (Jvm.Cond.code ({ cls := "com/example/bitlattice/bitlattice/eval/Relation", name := "mix", desc := "(II)I" } : Jvm.MethodName) prog_33_method_26_code (2 : Nat) (Option.some Jvm.ClassFile.FieldType.int)).before args0 about1 = true := code_word (m := ⟨2, 10⟩) (meth := k2m10) (c := k2c10) (by decide +kernel) rfl rfl rfl (by decide +kernel)
set_option maxRecDepth 65536 in
theorem w_c22 : (Jvm.Cond.code ({ cls := "com/example/bitlattice/bitlattice/eval/Relation$Index", name := "probe", desc := "(II)I" } : Jvm.MethodName) prog_34_method_8_code (4 : Nat) (Option.some Jvm.ClassFile.FieldType.int)).before args0 about1 = true := code_word (m := ⟨6, 2⟩) (meth := k6m2) (c := k6c2) (by decide +kernel) rfl rfl rfl (by decide +kernel)
set_option maxRecDepth 65536 in
theorem w_c23 : (Jvm.Cond.code ({ cls := "com/example/bitlattice/bitlattice/eval/Relation$Index", name := "start", desc := "(I)I" } : Jvm.MethodName) prog_34_method_11_code (3 : Nat) (Option.some Jvm.ClassFile.FieldType.int)).before args0 about1 = true := code_word (m := ⟨6, 5⟩) (meth := k6m5) (c := k6c5) (by decide +kernel) rfl rfl rfl (by decide +kernel)
set_option maxRecDepth 65536 in
theorem w_c24 : (Jvm.Cond.code ({ cls := "com/example/bitlattice/bitlattice/eval/Relation$Index", name := "take", desc := "(III)V" } : Jvm.MethodName) prog_34_method_9_code (4 : Nat) (Option.none : Option Jvm.ClassFile.FieldType)).before args0 about1 = true := code_word (m := ⟨6, 3⟩) (meth := k6m3) (c := k6c3) (by decide +kernel) rfl rfl rfl (by decide +kernel)
set_option maxRecDepth 65536 in
theorem w_c25 : (Jvm.Cond.code ({ cls := "com/example/bitlattice/bitlattice/eval/Relation$Index", name := "chain", desc := "(I)V" } : Jvm.MethodName) prog_34_method_10_code (2 : Nat) (Option.none : Option Jvm.ClassFile.FieldType)).before args0 about1 = true := code_word (m := ⟨6, 4⟩) (meth := k6m4) (c := k6c4) (by decide +kernel) rfl rfl rfl (by decide +kernel)
def codes1 : List Jvm.Cond := [Jvm.Cond.code x code maxLocals ret, Jvm.Cond.code ({ cls := "com/example/bitlattice/bitlattice/eval/RelationClearPinLaw", name := "row", desc := "(IIII)[I" } : Jvm.MethodName) method_2_code (5 : Nat) (Option.some (Jvm.ClassFile.FieldType.array Jvm.ClassFile.FieldType.int)), Jvm.Cond.code ({ cls := "com/example/bitlattice/bitlattice/eval/Relation", name := "<init>", desc := "(I)V" } : Jvm.MethodName) prog_33_method_1_code (2 : Nat) (Option.none : Option Jvm.ClassFile.FieldType), Jvm.Cond.code ({ cls := "java/lang/Object", name := "<init>", desc := "()V" } : Jvm.MethodName) object_method_1_code (1 : Nat) (Option.none : Option Jvm.ClassFile.FieldType), Jvm.Cond.code ({ cls := "com/example/bitlattice/bitlattice/eval/Relation", name := "reserve", desc := "(I)V" } : Jvm.MethodName) prog_33_method_13_code (7 : Nat) (Option.none : Option Jvm.ClassFile.FieldType), Jvm.Cond.code ({ cls := "com/example/bitlattice/bitlattice/eval/Relation", name := "add", desc := "([I)Z" } : Jvm.MethodName) prog_33_method_14_code (7 : Nat) (Option.some Jvm.ClassFile.FieldType.boolean), Jvm.Cond.code ({ cls := "com/example/bitlattice/bitlattice/eval/Relation", name := "contains", desc := "([I)Z" } : Jvm.MethodName) prog_33_method_15_code (3 : Nat) (Option.some Jvm.ClassFile.FieldType.boolean), Jvm.Cond.code ({ cls := "com/example/bitlattice/bitlattice/eval/Relation", name := "values", desc := "()[I" } : Jvm.MethodName) prog_33_method_12_code (1 : Nat) (Option.some (Jvm.ClassFile.FieldType.array Jvm.ClassFile.FieldType.int)), Jvm.Cond.code ({ cls := "com/example/bitlattice/bitlattice/eval/Relation", name := "clear", desc := "()V" } : Jvm.MethodName) prog_33_method_9_code (1 : Nat) (Option.none : Option Jvm.ClassFile.FieldType), Jvm.Cond.code ({ cls := "com/example/bitlattice/bitlattice/eval/Relation", name := "size", desc := "()I" } : Jvm.MethodName) prog_33_method_6_code (1 : Nat) (Option.some Jvm.ClassFile.FieldType.int), Jvm.Cond.code ({ cls := "com/example/bitlattice/bitlattice/eval/Relation", name := "isSmall", desc := "()Z" } : Jvm.MethodName) prog_33_method_8_code (1 : Nat) (Option.some Jvm.ClassFile.FieldType.boolean), Jvm.Cond.code ({ cls := "com/example/bitlattice/bitlattice/eval/Relation", name := "rowIs", desc := "(I[I)Z" } : Jvm.MethodName) prog_33_method_16_code (4 : Nat) (Option.some Jvm.ClassFile.FieldType.boolean), Jvm.Cond.code ({ cls := "java/util/Arrays", name := "copyOf", desc := "([II)[I" } : Jvm.MethodName) jdk_65_method_123_code (3 : Nat) (Option.some (Jvm.ClassFile.FieldType.array Jvm.ClassFile.FieldType.int)), Jvm.Cond.code ({ cls := "java/lang/Math", name := "min", desc := "(II)I" } : Jvm.MethodName) jdk_29_method_69_code (2 : Nat) (Option.some Jvm.ClassFile.FieldType.int), Jvm.Cond.code ({ cls := "com/example/bitlattice/bitlattice/eval/Relation", name := "allPositions", desc := "(I)[I" } : Jvm.MethodName) prog_33_method_21_code (3 : Nat) (Option.some (Jvm.ClassFile.FieldType.array Jvm.ClassFile.FieldType.int)), Jvm.Cond.code ({ cls := "com/example/bitlattice/bitlattice/eval/Relation$Index", name := "<init>", desc := "(Lcom/example/bitlattice/bitlattice/eval/Relation;[II)V" } : Jvm.MethodName) prog_34_method_1_code (5 : Nat) (Option.none : Option Jvm.ClassFile.FieldType), Jvm.Cond.code ({ cls := "java/lang/Math", name := "max", desc := "(II)I" } : Jvm.MethodName) jdk_29_method_65_code (2 : Nat) (Option.some Jvm.ClassFile.FieldType.int), Jvm.Cond.code ({ cls := "java/lang/Integer", name := "highestOneBit", desc := "(I)I" } : Jvm.MethodName) jdk_33_method_45_code (1 : Nat) (Option.some Jvm.ClassFile.FieldType.int), Jvm.Cond.code ({ cls := "java/lang/Integer", name := "numberOfLeadingZeros", desc := "(I)I" } : Jvm.MethodName) jdk_33_method_47_code (2 : Nat) (Option.some Jvm.ClassFile.FieldType.int), Jvm.Cond.code ({ cls := "com/example/bitlattice/bitlattice/eval/Relation$Index", name := "insertNew", desc := "(I)Z" } : Jvm.MethodName) prog_34_method_4_code (4 : Nat) (Option.some Jvm.ClassFile.FieldType.boolean), Jvm.Cond.code ({ cls := "com/example/bitlattice/bitlattice/eval/Relation$Index", name := "hash", desc := "(I)I" } : Jvm.MethodName) prog_34_method_14_code (7 : Nat) (Option.some Jvm.ClassFile.FieldType.int), Jvm.Cond.code ({ cls := "com/example/bitlattice/bitlattice/eval/Relation", name := "mix", desc := "(II)I" } : Jvm.MethodName) prog_33_method_26_code (2 : Nat) (Option.some Jvm.ClassFile.FieldType.int), Jvm.Cond.code ({ cls := "com/example/bitlattice/bitlattice/eval/Relation$Index", name := "probe", desc := "(II)I" } : Jvm.MethodName) prog_34_method_8_code (4 : Nat) (Option.some Jvm.ClassFile.FieldType.int), Jvm.Cond.code ({ cls := "com/example/bitlattice/bitlattice/eval/Relation$Index", name := "start", desc := "(I)I" } : Jvm.MethodName) prog_34_method_11_code (3 : Nat) (Option.some Jvm.ClassFile.FieldType.int), Jvm.Cond.code ({ cls := "com/example/bitlattice/bitlattice/eval/Relation$Index", name := "take", desc := "(III)V" } : Jvm.MethodName) prog_34_method_9_code (4 : Nat) (Option.none : Option Jvm.ClassFile.FieldType), Jvm.Cond.code ({ cls := "com/example/bitlattice/bitlattice/eval/Relation$Index", name := "chain", desc := "(I)V" } : Jvm.MethodName) prog_34_method_10_code (2 : Nat) (Option.none : Option Jvm.ClassFile.FieldType)]
set_option maxRecDepth 65536 in
theorem codes_eq : words1.filter isCode = codes1 := rfl
theorem w_codes : ∀ c ∈ words1.filter isCode, c.before args0 about1 = true := by
  rw [codes_eq]
  intro c hc
  simp only [codes1, List.mem_cons, List.not_mem_nil, or_false] at hc
  rcases hc with rfl | rfl | rfl | rfl | rfl | rfl | rfl | rfl | rfl | rfl | rfl | rfl | rfl | rfl | rfl | rfl | rfl | rfl | rfl | rfl | rfl | rfl | rfl | rfl | rfl | rfl
  · exact w_c0
  · exact w_c1
  · exact w_c2
  · exact w_c3
  · exact w_c4
  · exact w_c5
  · exact w_c6
  · exact w_c7
  · exact w_c8
  · exact w_c9
  · exact w_c10
  · exact w_c11
  · exact w_c12
  · exact w_c13
  · exact w_c14
  · exact w_c15
  · exact w_c16
  · exact w_c17
  · exact w_c18
  · exact w_c19
  · exact w_c20
  · exact w_c21
  · exact w_c22
  · exact w_c23
  · exact w_c24
  · exact w_c25
set_option maxRecDepth 65536 in
theorem w_t1 : (words1.take 24).all (fun c => isCode c || c.before args0 about1) = true := by decide +kernel
set_option maxRecDepth 65536 in
theorem w_t2 : ((words1.drop 24).take 24).all (fun c => isCode c || c.before args0 about1) = true := by decide +kernel
set_option maxRecDepth 65536 in
theorem w_t3 : (((words1.drop 24).drop 24).take 24).all (fun c => isCode c || c.before args0 about1) = true := by decide +kernel
set_option maxRecDepth 65536 in
theorem w_t4 : ((((words1.drop 24).drop 24).drop 24).take 24).all (fun c => isCode c || c.before args0 about1) = true := by decide +kernel
set_option maxRecDepth 65536 in
theorem w_t5 : (((((words1.drop 24).drop 24).drop 24).drop 24).take 24).all (fun c => isCode c || c.before args0 about1) = true := by decide +kernel
set_option maxRecDepth 65536 in
theorem w_t6 : ((((((words1.drop 24).drop 24).drop 24).drop 24).drop 24).take 24).all (fun c => isCode c || c.before args0 about1) = true := by decide +kernel
set_option maxRecDepth 65536 in
theorem w_t7 : ((((((words1.drop 24).drop 24).drop 24).drop 24).drop 24).drop 24).all (fun c => isCode c || c.before args0 about1) = true := by decide +kernel
theorem w_tables : (allAtoms (Jvm.Cond.code x code maxLocals ret :: tables_1)).before args0 about1 = true := by
  rw [allAtoms_all]
  show words1.all (fun c => c.before args0 about1) = true
  refine all_split ?_ w_codes
  rw [← List.take_append_drop 24 words1, List.all_append, w_t1, ← List.take_append_drop 24 (words1.drop 24), List.all_append, w_t2, ← List.take_append_drop 24 ((words1.drop 24).drop 24), List.all_append, w_t3, ← List.take_append_drop 24 (((words1.drop 24).drop 24).drop 24), List.all_append, w_t4, ← List.take_append_drop 24 ((((words1.drop 24).drop 24).drop 24).drop 24), List.all_append, w_t5, ← List.take_append_drop 24 (((((words1.drop 24).drop 24).drop 24).drop 24).drop 24), List.all_append, w_t6, w_t7]
  rfl
set_option maxRecDepth 65536 in
theorem w_case : (Jvm.Cond.and given_1 narrow_1).before args0 about1 = true := by decide +kernel
theorem w_applies : (headSpec (Jvm.Cond.code x code maxLocals ret :: tables_1) room_1).applies x e0.platform about1 = true :=
  (Spec.applies_iff w_frames).mpr ⟨w_running, w_runnable, w_alone, w_named, w_hears, w_ripe, w_room, w_tables⟩
theorem atStart : AtStart classFile x code maxLocals ret World_1 tables_1 room_1 Calls_1 rest_1 Pre_1 launch0 p0 e0 about1 theMethod args0 below0 :=
  ⟨lists_1, trivial, launch0.admits_env _ _ _, launch0.least_env, fairChoices_fair.cas, fairChoices_fair.clock, w_frames, w_args, w_heap, w_applies, trivial, trivial, w_case⟩
end start1
theorem witness_1 : WitnessClaimed_1 := ⟨start1.p0, start1.e0, start1.about1, start1.theMethod, start1.args0, start1.below0, start1.atStart⟩
end Jvm.Pilot.@@N@@
