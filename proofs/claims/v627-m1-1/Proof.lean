import JvmDerived
import JvmDerived.Pilot.@@N@@Statement
import JvmDerived.Pilot.@@N@@Code
set_option linter.unusedVariables false
set_option linter.unusedSimpArgs false
namespace Jvm.Pilot.@@N@@
open Jvm Jvm.ClassFile Sem Op Lib Jvm.Free Jvm.Stand Jvm.LawKit Jvm.RoadKit Bundle Jvm.Pilot.@@N@@.Jvm.D

def Go (tb : Tables) (e : Env) (below : List Frame) (a : State) (P : Outcome → State → Prop) : Prop := ∃ s₂ o, Steps tb e below a s₂ ∧ s₂.status = .running ∧ Ended s₂ below o ∧ P o s₂
theorem Go.st {tb : Tables} {e : Env} {below : List Frame} {a b : State} {P : Outcome → State → Prop} (h : ∀ t, Steps tb e below b t → Steps tb e below a t) (k : Go tb e below b P) : Go tb e below a P := by
  obtain ⟨s, o, h1, h2⟩ := k
  exact ⟨s, o, h _ h1, h2⟩
theorem Go.tr {tb : Tables} {e : Env} {below : List Frame} {a b : State} {P : Outcome → State → Prop} (h : Steps tb e below a b) (k : Go tb e below b P) : Go tb e below a P := Go.st (fun _ q => h.trans q) k
theorem Go.fr {tb : Tables} {e : Env} {below : List Frame} {T : State} {g g' : JFrame} {P : Outcome → State → Prop} (q : g = g') (k : Go tb e below (T.setTop g') P) : Go tb e below (T.setTop g) P := q ▸ k
theorem Go.fin {tb : Tables} {e : Env} {below : List Frame} {a s₂ : State} {o : Outcome} {P : Outcome → State → Prop} (hs : Steps tb e below a s₂) (hr : s₂.status = .running) (he : Ended s₂ below o) (hP : P o s₂) : Go tb e below a P := ⟨_, _, hs, hr, he, hP⟩
theorem exa_ns {Z : State} {h : Heap} {a : Addr} {C : String} (F : Exa Z h a C) : ∃ c : Cell, h[a]? = some c ∧ c.vm.isStatics = false := by
  obtain ⟨c, _, h1, -, -, h4, -⟩ := F
  exact ⟨c, h1, h4⟩
theorem fld_ns {Z : State} {h : Heap} {a : Addr} {C n d : String} {v : Value} (F : Fld Z h a C n d v) : ∃ c : Cell, h[a]? = some c ∧ c.vm.isStatics = false := by
  obtain ⟨c, _, _, _, _, h1, -, -, -, h4, -⟩ := F
  exact ⟨c, h1, h4⟩
theorem arv_ns {Z : State} {h : Heap} {a : Addr} {k : ClassId} {ty : FieldType} {n : Int32} {vs : List Value} {d : Value} (F : Arv Z h a k ty n vs d) : ∃ c : Cell, h[a]? = some c ∧ c.vm.isStatics = false := by
  obtain ⟨c, A, -⟩ := F
  exact ⟨c, A.1, A.plain⟩
theorem sta_keep {Z : State} {h h' : Heap} {C n d : String} {v : Value} {ws : List Addr} (F : Sta Z h C n d v) (K : Keep h h' ws) (q : ∀ x ∈ ws, ∃ c : Cell, h[x]? = some c ∧ c.vm.isStatics = false) : Sta Z h' C n d v := by
  obtain ⟨cf, i, k, f, st, cell, h1, h2, h3, h4, h5, h6, h7⟩ := F
  refine ⟨cf, i, k, f, st, cell, h1, h2, h3, h4, K.2.1 st cell h5 fun z => ?_, h6, h7⟩
  obtain ⟨c, q1, q2⟩ := q st z
  cases q1.symm.trans h5
  rw [q2] at h6
  cases h6
theorem own_selp {s : State} {args : Array Value} {y : MethodName} {n : Nat} (wi : (Cond.instantiable y.cls n).before args s = true) (hp : s.PrivateAt y) (hi : (Cond.instanceMethod y).before args s = true) (hy : y.cls ≠ "java/lang/invoke/MethodHandle" ∧ y.cls ≠ "java/lang/invoke/VarHandle") : (Cond.selects y.cls y y).before args s = true := by
  obtain ⟨c, k, h1, h2, -, h4, -⟩ := Cond.instantiable_spec wi
  simp only [Bool.or_eq_false_iff] at h4
  exact selects_self_of_private h1 h2 h4.1 hp hi hy
theorem own_ne32 {x k : Int32} {a : Int} (ha : k.toInt = a) (h : ¬ x = k) : a ≠ x.toInt := fun e => h (Int32.toInt_inj.mp (e.symm.trans ha.symm))
theorem own_nn (x : Int32) : 0 ≤ (x &&& (2147483647 : Int32)).toInt := (c_andS x 2147483647).2.2 (by decide)
theorem own_rem (x : Int32) (k : Int32) (d : Int) (hd : k.toInt = d) (h0 : 0 < d) : 0 ≤ ((x &&& (2147483647 : Int32)) % k).toInt ∧ ((x &&& (2147483647 : Int32)) % k).toInt < d := by
  have h := own_nn x
  rw [Int32.toInt_mod, hd]
  exact ⟨Int.tmod_nonneg _ h, Int.tmod_lt_of_pos _ h0⟩
theorem own_remb (x : Int32) (k : Int32) (d : Int) (hd : k.toInt = d) (h0 : 0 < d) : ¬ ((x &&& (2147483647 : Int32)) % k) < 0 ∧ ((x &&& (2147483647 : Int32)) % k) < k := by
  obtain ⟨h1, h2⟩ := own_rem x k d hd h0
  rw [Int32.lt_iff_toInt_lt, Int32.lt_iff_toInt_lt, hd]
  exact ⟨Int.not_lt.mpr h1, h2⟩
def own_at (xs : List Int32) (j : Int32) : Int32 := xs.getD j.toNatClampNeg 0
theorem own_atv (xs : List Int32) (j : Int32) : (xs.map Value.int).getD j.toNatClampNeg (.int 0) = .int (own_at xs j) := by
  unfold own_at
  generalize j.toNatClampNeg = n
  induction xs generalizing n with
  | nil => rfl
  | cons a r ih => cases n with
    | zero => rfl
    | succ n => simpa using ih n
theorem own_setl {l : List Value} {k n : Nat} {v : Value} (h : l.length = n) : (l.set k v).length = n := by rw [List.length_set]; exact h
theorem own_setg {l : List Value} {k : Nat} {v d : Value} (h : k < l.length) : (l.set k v).getD k d = v := by simp [List.getD, List.getElem?_set, h]
theorem own_setn {l : List Value} {k i : Nat} {v d : Value} (h : i ≠ k) : (l.set k v).getD i d = l.getD i d := by simp [List.getD, List.getElem?_set, Ne.symm h]
theorem own_lt_of {l : List Value} {n : Nat} {j z : Int32} (h : l.length = n) (q : ¬ j < 0 ∧ j < z) (hz : z.toNatClampNeg = n := by decide) : j.toNatClampNeg < l.length := by
  rw [h, ← hz]
  obtain ⟨q1, q2⟩ := q
  rw [Int32.lt_iff_toInt_lt] at q1 q2
  have : (0 : Int32).toInt = 0 := rfl
  simp only [Int32.toNatClampNeg]
  omega
theorem own_eqi {args : Array Value} {s : State} {t : Term} {k : Int32} (h : (Jvm.Cond.eq t (.int k)).value args s none s [] = some true) : t.eval args s none [] s = some (.int k) := by
  simp only [Cond.value, Term.eval] at h
  cases ht : t.eval args s none [] s with
  | none => simp [ht] at h
  | some x => cases x <;> simp_all
def own_dg : List Int32 := [48, 49, 50, 51, 52, 53, 54, 55, 56, 57, 97, 98, 99, 100, 101, 102]
def own_sh (z : Int64) : Int64 := ((z.toUInt64 >>> ((4 : Int32) &&& 0x3f).toInt64.toUInt64).toInt64)
def own_nib (z : Int64) : Int32 := ((z &&& (15 : Int64)).toInt32)
def own_dgt (z : Int64) : Int32 := ((own_at own_dg (own_nib z)).toInt8.toInt32)
def own_wrI : Nat → Int64 → Nat → List Int32 → List Int32
  | 0, _, _, ys => ys
  | k + 1, z, i, ys => own_wrI k (own_sh z) (i - 1) (ys.set i (own_dgt z))
def own_shn : Nat → Int64 → Int64
  | 0, z => z
  | n + 1, z => own_shn n (own_sh z)
theorem own_shn_bv (n : Nat) (z : Int64) : (own_shn n z).toBitVec = z.toBitVec >>> (4 * n) := by
  induction n generalizing z with
  | zero => simp [own_shn]
  | succ n ih =>
    show (own_shn n (own_sh z)).toBitVec = _
    rw [ih]
    show (z.toBitVec >>> 4) >>> (4 * n) = _
    rw [← BitVec.shiftRight_add, show 4 + 4 * n = 4 * (n + 1) by omega]
theorem own_wr_at (k : Nat) : ∀ (z : Int64) (i : Nat) (ys : List Int32) (j : Nat), i < ys.length → k ≤ i + 1 → (own_wrI k z i ys).getD j 0 = if j ≤ i ∧ i < j + k then own_dgt (own_shn (i - j) z) else ys.getD j 0 := by
  induction k with
  | zero =>
    intro z i ys j _ _
    rw [if_neg (by omega)]
    rfl
  | succ k ih =>
    intro z i ys j hi hk
    show (own_wrI k (own_sh z) (i - 1) (ys.set i (own_dgt z))).getD j 0 = _
    by_cases hji : j = i
    · subst hji
      rw [if_pos (by omega)]
      by_cases h0 : j = 0
      · subst h0
        rw [ih _ _ _ _ (by rw [List.length_set]; omega) (by omega)]
        by_cases hk0 : k = 0
        · subst hk0
          rw [if_neg (by omega)]
          simp [List.getD, List.getElem?_set, hi, own_shn]
        · omega
      · rw [ih _ _ _ _ (by rw [List.length_set]; omega) (by omega), if_neg (by omega)]
        simp [List.getD, List.getElem?_set, hi, own_shn]
    · rw [ih _ _ _ _ (by rw [List.length_set]; omega) (by omega)]
      by_cases hc : j ≤ i ∧ i < j + (k + 1)
      · rw [if_pos hc, if_pos (by omega)]
        obtain ⟨d, hd⟩ : ∃ d, i - j = d + 1 := ⟨i - j - 1, by omega⟩
        rw [hd, show i - 1 - j = d by omega]
        rfl
      · rw [if_neg hc, if_neg (by omega)]
        simp [List.getD, List.getElem?_set, Ne.symm hji]
theorem own_wr_len (k : Nat) : ∀ (z : Int64) (i : Nat) (ys : List Int32), (own_wrI k z i ys).length = ys.length := by
  induction k with
  | zero => intros; rfl
  | succ k ih => intro z i ys; show (own_wrI k _ _ _).length = _; rw [ih, List.length_set]
theorem own_nib_b (z : Int64) : 0 ≤ (own_nib z).toInt ∧ (own_nib z).toInt < 16 := by
  have e : (own_nib z).toBitVec = (z.toBitVec &&& 15#64).signExtend 32 := rfl
  have e2 : (z.toBitVec &&& 15#64).signExtend 32 = (z.toBitVec &&& 15#64).setWidth 32 := BitVec.signExtend_eq_setWidth_of_le _ (by decide)
  have b : ((z.toBitVec &&& 15#64).setWidth 32).toNat < 16 := by
    rw [BitVec.toNat_setWidth, BitVec.toNat_and]
    have : z.toBitVec.toNat &&& (15#64).toNat ≤ (15#64).toNat := Nat.and_le_right
    have h15 : (15#64).toNat = 15 := rfl
    omega
  have t : (own_nib z).toInt = (((z.toBitVec &&& 15#64).setWidth 32).toNat : Int) := by
    show (own_nib z).toBitVec.toInt = _
    rw [e, e2, BitVec.toInt_eq_toNat_of_lt (by omega)]
  omega
theorem own_nib_ib (z : Int64) : ¬ (own_nib z) < 0 ∧ (own_nib z) < (16 : Int32) := by
  have := own_nib_b z
  rw [Int32.lt_iff_toInt_lt, Int32.lt_iff_toInt_lt, show (0 : Int32).toInt = 0 from rfl, show (16 : Int32).toInt = 16 from rfl]
  omega
def own_txt (v : Int64) (s f : Int32) : List Int32 := own_wrI 16 v (s + (15 : Int32)).toNatClampNeg [f, f, f, f, f, f, f, f, f, f, f, f, f, f, f, f, f, f, f, f]

theorem own_l20 (f : Int32) : [f, f, f, f, f, f, f, f, f, f, f, f, f, f, f, f, f, f, f, f] = List.replicate 20 f := rfl

abbrev own_dgv : List Value := own_dg.map Value.int
theorem own_i1 (i : Int32) (h : 0 ≤ i.toInt) : (i + (-1 : Int32)).toInt = i.toInt - 1 := by
  have := i.toInt_lt
  rw [Int32.toInt_add, show (-1 : Int32).toInt = -1 from rfl, Int.bmod_eq_of_le (by omega) (by omega)]
  omega
theorem own_i1n (i : Int32) (h : 0 ≤ i.toInt) : (i + (-1 : Int32)).toNatClampNeg = i.toNatClampNeg - 1 := by
  simp only [Int32.toNatClampNeg, own_i1 i h]
  omega
theorem own_p15 (p : Int32) (h : 0 ≤ p.toInt ∧ p.toInt ≤ 3) : (p + (15 : Int32)).toInt = p.toInt + 15 := by
  rw [Int32.toInt_add, show (15 : Int32).toInt = 15 from rfl, Int.bmod_eq_of_le (by omega) (by omega)]
theorem own_ib20 (i : Int32) (h : 0 ≤ i.toInt ∧ i.toInt < 20) : ¬ i < 0 ∧ i < (20 : Int32) := by
  rw [Int32.lt_iff_toInt_lt, Int32.lt_iff_toInt_lt, show (0 : Int32).toInt = 0 from rfl, show (20 : Int32).toInt = 20 from rfl]
  omega
theorem own_cl (i : Int32) (h : 0 ≤ i.toInt ∧ i.toInt < 20) : i.toNatClampNeg < 20 := by
  simp only [Int32.toNatClampNeg]
  omega
theorem d1_0 : decode prog_28_method_3_code 0 = .ok (.lload_n 0, 1) := by decide +kernel
theorem d1_1 : decode prog_28_method_3_code 1 = .ok (.lstore 4, 2) := by decide +kernel
theorem d1_3 : decode prog_28_method_3_code 3 = .ok (.iload_n 3, 1) := by decide +kernel
theorem d1_4 : decode prog_28_method_3_code 4 = .ok (.bipush 15, 2) := by decide +kernel
theorem d1_6 : decode prog_28_method_3_code 6 = .ok (.iadd, 1) := by decide +kernel
theorem d1_7 : decode prog_28_method_3_code 7 = .ok (.istore 6, 2) := by decide +kernel
theorem d1_9 : decode prog_28_method_3_code 9 = .ok (.iload 6, 2) := by decide +kernel
theorem d1_11 : decode prog_28_method_3_code 11 = .ok (.iload_n 3, 1) := by decide +kernel
theorem d1_12 : decode prog_28_method_3_code 12 = .ok (.if_icmp .lt 30, 3) := by decide +kernel
theorem d1_42 : decode prog_28_method_3_code 42 = .ok (.return_, 1) := by decide +kernel
theorem d1_15 : decode prog_28_method_3_code 15 = .ok (.aload_n 2, 1) := by decide +kernel
theorem d1_16 : decode prog_28_method_3_code 16 = .ok (.iload 6, 2) := by decide +kernel
theorem d1_18 : decode prog_28_method_3_code 18 = .ok (.getstatic 22, 3) := by decide +kernel
theorem wd5 {Z : State} {a0 : Array Value} (hw : ∀ d ∈ tables_1, d.before a0 Z = true) : (Jvm.Cond.fieldLink "com/example/piece/piece/span/Hex" (22 : Nat) "com/example/piece/piece/span/Hex" "DIGITS" "[B").before a0 Z = true := hw _ (List.mem_of_getElem? (i := 5) rfl)
theorem d1_21 : decode prog_28_method_3_code 21 = .ok (.lload 4, 2) := by decide +kernel
theorem d1_23 : decode prog_28_method_3_code 23 = .ok (.ldc2_w 28, 3) := by decide +kernel
theorem wd7 {Z : State} {a0 : Array Value} (hw : ∀ d ∈ tables_1, d.before a0 Z = true) : (Jvm.Cond.constantLong "com/example/piece/piece/span/Hex" (28 : Nat) (15 : Int64)).before a0 Z = true := hw _ (List.mem_of_getElem? (i := 7) rfl)
theorem d1_26 : decode prog_28_method_3_code 26 = .ok (.land, 1) := by decide +kernel
theorem d1_27 : decode prog_28_method_3_code 27 = .ok (.l2i, 1) := by decide +kernel
theorem d1_28 : decode prog_28_method_3_code 28 = .ok (.baload, 1) := by decide +kernel
theorem d1_29 : decode prog_28_method_3_code 29 = .ok (.bastore, 1) := by decide +kernel
theorem d1_30 : decode prog_28_method_3_code 30 = .ok (.lload 4, 2) := by decide +kernel
theorem d1_32 : decode prog_28_method_3_code 32 = .ok (.iconst 4, 1) := by decide +kernel
theorem d1_33 : decode prog_28_method_3_code 33 = .ok (.lushr, 1) := by decide +kernel
theorem d1_34 : decode prog_28_method_3_code 34 = .ok (.lstore 4, 2) := by decide +kernel
theorem d1_36 : decode prog_28_method_3_code 36 = .ok (.iinc 6 (-1), 3) := by decide +kernel
theorem d1_39 : decode prog_28_method_3_code 39 = .ok (.goto (-30), 3) := by decide +kernel
theorem pn0 : plainName "com/example/piece/piece/span/Hex" = true := by first | (simp [plainName, overriddenIn]; done) | decide +kernel
def Q1 (Z : State) (q1 : Int64) (a2 : Addr) (p3 : Int32) (w_DIGITS : Addr) (k_D : ClassId) (k_a : ClassId) (xs : List Int32) (h0 : Heap) (n0 : Nat) (v : Option Value) (h : Heap) (L : List Loc) : Prop := v = none ∧ Fr n0 L ∧ Keep h0 h [a2] ∧ Arv Z h a2 k_a .byte (20 : Int32) (List.map Value.int (own_wrI 16 q1 (p3 + (15 : Int32)).toNatClampNeg xs)) (.int (0 : Int32))
theorem ef1 (m : MethodId) (x0 : Int64) (x1 : Addr) (x2 : Int32) : entryFrame m #[(.long x0), (.ref x1), (.int x2)] 7 = mkF m 0 #[.val (.long x0), .second, .val (.ref x1), .val (.int x2), .unset, .unset, .unset] [] := by first | (simp [entryFrame, mkF, argsToLocals, Value.category]; done) | rfl
set_option maxRecDepth 65536 in
set_option maxHeartbeats 16000000 in
theorem rm1 (l : Launch) (Z : State) (a0 : Array Value) (hw : ∀ d ∈ tables_1, d.before a0 Z = true) (ws : List Jvm.Cond) (q1 : Int64) (a2 : Addr) (p3 : Int32) (w_DIGITS : Addr) (k_D : ClassId) (k_a : ClassId) (xs : List Int32) (h0 : Heap) (n0 : Nat) (Z0 : n0 ≤ h0.size) (S_DIGITS : Sta Z h0 "com/example/piece/piece/span/Hex" "DIGITS" "[B" (.ref w_DIGITS)) (V_DIGITS : Arv Z h0 w_DIGITS k_D .byte (16 : Int32) own_dgv (.int (0 : Int32))) (V_a2 : Arv Z h0 a2 k_a .byte (20 : Int32) (List.map Value.int xs) (.int (0 : Int32))) (hxl : xs.length = 20) (hs : 0 ≤ p3.toInt ∧ p3.toInt ≤ 3) (ne_D_a2 : w_DIGITS ≠ a2) (g_a2 : n0 ≤ a2) :
    MetFree l (⟨"com/example/piece/piece/span/Hex", "write", "(J[BI)V"⟩ : MethodName) (head1 (Jvm.Cond.code (⟨"com/example/piece/piece/span/Hex", "write", "(J[BI)V"⟩ : MethodName) prog_28_method_3_code 7 none :: ws) ({ frames := 0, cells := 0, slots := 0, locals := 0 } : Room)) (fun a U => a = #[(.long q1), (.ref a2), (.int p3)] ∧ Z.Warmed39 U.vm ∧ U.heap = h0) (fun _ _ _ _ _ => True) (fun _ U o U' => ∃ v L, o = .returned v ∧ Q1 Z q1 a2 p3 w_DIGITS k_D k_a xs h0 n0 v U'.heap L ∧ FrameEnd U o U' L ({ frames := 0, cells := 0, slots := 0, locals := 0 } : Room).cells ({ frames := 0, cells := 0, slots := 0, locals := 0 } : Room).slots) := by
  refine MetFree.of_bodySF (plainFor_of_name pn0) hisR ?_
  intro p e s m args below meth c s₁ Bd hml0 hP hK
  obtain ⟨rfl, hZ, hh⟩ := hP
  have hx := Bd.exec
  have hby := Bd.bytes
  have hml : c.maxLocals = 7 := hml0
  have hown : s.vm.findClass "com/example/piece/piece/span/Hex" = some m.cls := findClass_of_methodNamed Bd.named
  have hnm := (name_of_methodNamed Bd.named Bd.method).1
  have X0 : Stand p l e ({ frames := 0, cells := 0, slots := 0, locals := 0 } : Room) s m #[(.long q1), (.ref a2), (.int p3)] below meth c s₁ [] 0 0 := Stand.of_body Bd
  have e0 : s₁.heap = h0 := by rw [← hh, Bd.state]; rfl
  have N0 := Fr.nil n0
  have K0 : Keep h0 h0 [a2] := Keep.refl h0 _
  refine Go.st (P := fun o U' => ∃ v L, o = .returned v ∧ Q1 Z q1 a2 p3 w_DIGITS k_D k_a xs h0 n0 v U'.heap L ∧ FrameEnd s o U' L ({ frames := 0, cells := 0, slots := 0, locals := 0 } : Room).cells ({ frames := 0, cells := 0, slots := 0, locals := 0 } : Room).slots) (fun t k => castTop (ef1 m q1 a2 p3) k) ?_
  show Go _ _ _ (s₁.setTop (mkF m 0 #[.val (.long q1), .second, .val (.ref a2), .val (.int p3), .unset, .unset, .unset] [])) _
  refine Go.st (fun t k => XS.lloadN X0.here hx rfl (hb hby d1_0) rfl k) ?_
  refine Go.st (fun t k => XS.lstore X0.here hx rfl (hb hby d1_1) rfl (l' := #[.val (.long q1), .second, .val (.ref a2), .val (.int p3), .val (.long q1), .second, .unset]) rfl k) ?_
  refine Go.st (fun t k => XS.iloadN X0.here hx rfl (hb hby d1_3) rfl k) ?_
  refine Go.st (fun t k => XS.bipush X0.here hx rfl (hb hby d1_4) k) ?_
  refine Go.st (fun t k => XS.iadd X0.here hx rfl (hb hby d1_6) rfl k) ?_
  show Go _ _ _ (s₁.setTop (mkF m 7 #[.val (.long q1), .second, .val (.ref a2), .val (.int p3), .val (.long q1), .second, .unset] [(.int (p3 + (15 : Int32)))])) _
  refine Go.st (fun t k => XS.istore X0.here hx rfl (hb hby d1_7) rfl (l' := #[.val (.long q1), .second, .val (.ref a2), .val (.int p3), .val (.long q1), .second, .val (.int (p3 + (15 : Int32)))]) rfl k) ?_
  show Go _ _ _ (s₁.setTop (mkF m 9 #[.val (.long q1), .second, .val (.ref a2), .val (.int p3), .val (.long q1), .second, .val (.int (p3 + (15 : Int32)))] [])) _
  have loop : ∀ (k : Nat) (T : State) (locs : List Loc) (hh : Heap) (z : Int64) (i : Int32) (ys : List Int32), Stand p l e ({ frames := 0, cells := 0, slots := 0, locals := 0 } : Room) s m #[(.long q1), (.ref a2), (.int p3)] below meth c T locs 0 0 → T.heap = hh → Fr n0 locs → Keep h0 hh [a2] → n0 ≤ hh.size → Sta Z hh "com/example/piece/piece/span/Hex" "DIGITS" "[B" (.ref w_DIGITS) → Arv Z hh w_DIGITS k_D .byte (16 : Int32) own_dgv (.int (0 : Int32)) → Arv Z hh a2 k_a .byte (20 : Int32) (List.map Value.int ys) (.int (0 : Int32)) → ys.length = 20 → i.toInt = p3.toInt + k - 1 → k ≤ 16 → own_wrI k z i.toNatClampNeg ys = (own_wrI 16 q1 (p3 + (15 : Int32)).toNatClampNeg xs) → Go p.tables e below (T.setTop (mkF m 9 #[.val (.long q1), .second, .val (.ref a2), .val (.int p3), .val (.long z), .second, .val (.int i)] [])) (fun o U' => ∃ v L, o = .returned v ∧ Q1 Z q1 a2 p3 w_DIGITS k_D k_a xs h0 n0 v U'.heap L ∧ FrameEnd s o U' L ({ frames := 0, cells := 0, slots := 0, locals := 0 } : Room).cells ({ frames := 0, cells := 0, slots := 0, locals := 0 } : Room).slots) := by
    intro k
    induction k with
    | zero =>
      intro T0 locs hh z i ys X0 e0 N0 K0 Z0 S_DIGITS V_DIGITS V_a2 hl hi hk hwr
      have hlt : i < p3 := by rw [Int32.lt_iff_toInt_lt]; omega
      have hwr' : ys = (own_wrI 16 q1 (p3 + (15 : Int32)).toNatClampNeg xs) := hwr
      rw [hwr'] at V_a2
      show Go _ _ _ (T0.setTop (mkF m 9 #[.val (.long q1), .second, .val (.ref a2), .val (.int p3), .val (.long z), .second, .val (.int i)] [])) _
      refine Go.st (fun t k => XS.iload X0.here hx rfl (hb hby d1_9) rfl k) ?_
      refine Go.st (fun t k => XS.iloadN X0.here hx rfl (hb hby d1_11) rfl k) ?_
      refine Go.st (fun t k => XS.icmpYes X0.here hx rfl (pc0 := 12) (pc' := 42) rfl (hb hby d1_12) rfl (tlt hlt).1 (by decide) (by decide) k) ?_
      show Go _ _ _ (T0.setTop (mkF m 42 #[.val (.long q1), .second, .val (.ref a2), .val (.int p3), .val (.long z), .second, .val (.int i)] [])) _
      obtain ⟨fs, hr, hrun, hended, hW, hsame⟩ := X0.leave (v := none) (fun _ => rfl)
      refine Go.fin (X0.returnOut hx Bd.returns (hb hby d1_42) hr) hrun hended ⟨_, _, rfl, ?_, ⟨_, rfl⟩, hW, hsame.mono (by decide) (by decide)⟩
      show Q1 Z q1 a2 p3 w_DIGITS k_D k_a xs h0 n0 _ T0.heap _
      rw [e0]
      exact ⟨rfl, N0, K0, V_a2⟩
    | succ k ih =>
      intro T0 locs hh z i ys X0 e0 N0 K0 Z0 S_DIGITS V_DIGITS V_a2 hl hi hk hwr
      have hlt : ¬ i < p3 := by rw [Int32.lt_iff_toInt_lt]; omega
      have hi20 : 0 ≤ i.toInt ∧ i.toInt < 20 := by omega
      show Go _ _ _ (T0.setTop (mkF m 9 #[.val (.long q1), .second, .val (.ref a2), .val (.int p3), .val (.long z), .second, .val (.int i)] [])) _
      refine Go.st (fun t k => XS.iload X0.here hx rfl (hb hby d1_9) rfl k) ?_
      refine Go.st (fun t k => XS.iloadN X0.here hx rfl (hb hby d1_11) rfl k) ?_
      refine Go.st (fun t k => XS.icmpNo X0.here hx rfl (hb hby d1_12) rfl (flt hlt).1 k) ?_
      show Go _ _ _ (T0.setTop (mkF m 15 #[.val (.long q1), .second, .val (.ref a2), .val (.int p3), .val (.long z), .second, .val (.int i)] [])) _
      refine Go.st (fun t k => XS.aloadN X0.here hx rfl (hb hby d1_15) rfl rfl k) ?_
      refine Go.st (fun t k => XS.iload X0.here hx rfl (hb hby d1_16) rfl k) ?_
      obtain ⟨T1, X1, e1, st1⟩ := getS2 X0 hx hZ hown (host := "") (Or.inl (wd5 hw)) Via.refl e0 S_DIGITS (g := (mkF m 18 #[.val (.long q1), .second, .val (.ref a2), .val (.int p3), .val (.long z), .second, .val (.int i)] [(.int i), (.ref a2)])) rfl (hb hby d1_18)
      refine Go.st st1 ?_
      show Go _ _ _ (T1.setTop (mkF m 21 #[.val (.long q1), .second, .val (.ref a2), .val (.int p3), .val (.long z), .second, .val (.int i)] [(.ref w_DIGITS), (.int i), (.ref a2)])) _
      refine Go.st (fun t k => XS.lload X1.here hx rfl (hb hby d1_21) rfl k) ?_
      refine Go.st (fun t k => X1.ldc2Long hx hown (mvT hZ (wd7 hw)) (g := (mkF m 23 #[.val (.long q1), .second, .val (.ref a2), .val (.int p3), .val (.long z), .second, .val (.int i)] [(.long z), (.ref w_DIGITS), (.int i), (.ref a2)])) rfl (hb hby d1_23) _ k) ?_
      show Go _ _ _ (T1.setTop (mkF m 26 #[.val (.long q1), .second, .val (.ref a2), .val (.int p3), .val (.long z), .second, .val (.int i)] [(.long 15), (.long z), (.ref w_DIGITS), (.int i), (.ref a2)])) _
      refine Go.st (fun t k => XS.land X1.here hx rfl (hb hby d1_26) rfl k) ?_
      show Go _ _ _ (T1.setTop (mkF m 27 #[.val (.long q1), .second, .val (.ref a2), .val (.int p3), .val (.long z), .second, .val (.int i)] [(.long (z &&& (15 : Int64))), (.ref w_DIGITS), (.int i), (.ref a2)])) _
      refine Go.st (fun t k => XS.l2i X1.here hx rfl (hb hby d1_27) rfl k) ?_
      show Go _ _ _ (T1.setTop (mkF m 28 #[.val (.long q1), .second, .val (.ref a2), .val (.int p3), .val (.long z), .second, .val (.int i)] [(.int ((z &&& (15 : Int64)).toInt32)), (.ref w_DIGITS), (.int i), (.ref a2)])) _
      obtain ⟨cl2, Ar2, -, Sz2, Ng2, Hs2, -⟩ := id V_DIGITS
      have hin2 : ¬ (((z &&& (15 : Int64)).toInt32) < 0 ∨ cl2.slots.size ≤ (((z &&& (15 : Int64)).toInt32)).toNatClampNeg) := inb_of Sz2 (own_nib_ib z)
      refine Go.st (fun t k => X1.baloadBytes hx (j := ((z &&& (15 : Int64)).toInt32)) (v := (.int (own_at own_dg ((z &&& (15 : Int64)).toInt32)))) (by rw [e1]; exact Ar2.1) (State.isArrayOf_alike hZ.alike Ar2.2.1) Ar2.2.2 hin2 (Has.at Hs2 hin2 (own_atv own_dg _)) (g := (mkF m 28 #[.val (.long q1), .second, .val (.ref a2), .val (.int p3), .val (.long z), .second, .val (.int i)] [(.int ((z &&& (15 : Int64)).toInt32)), (.ref w_DIGITS), (.int i), (.ref a2)])) rfl rfl (hb hby d1_28) _ k) ?_
      show Go _ _ _ (T1.setTop (mkF m 29 #[.val (.long q1), .second, .val (.ref a2), .val (.int p3), .val (.long z), .second, .val (.int i)] [(.int (own_at own_dg ((z &&& (15 : Int64)).toInt32))), (.int i), (.ref a2)])) _
      obtain ⟨cl3, Ar3, qq3, Sz3, Ng3, Hs3, Gs3⟩ := id V_a2
      have hin3 := inb_of Sz3 (own_ib20 i hi20)
      obtain ⟨T3, h3, X3, e3, W3, st3⟩ := stB X1 hx hZ e1 Ar3 (j := i) hin3 (g := (mkF m 29 #[.val (.long q1), .second, .val (.ref a2), .val (.int p3), .val (.long z), .second, .val (.int i)] [(.int (own_at own_dg ((z &&& (15 : Int64)).toInt32))), (.int i), (.ref a2)])) rfl rfl (hb hby d1_29)
      refine Go.st st3 ?_
      have N3 := Fr.snoc X3 N0 g_a2
      replace S_DIGITS := S_DIGITS.wr W3
      replace V_DIGITS := V_DIGITS.other W3 ne_D_a2
      replace Z0 := Nat.le_trans Z0 (Nat.le_of_eq W3.size.symm)
      replace K0 := K0.wr W3 (Or.inl (by simp))
      replace V_a2 : Arv Z h3 a2 k_a .byte (20 : Int32) (List.map Value.int (ys.set i.toNatClampNeg (own_dgt z))) (.int (0 : Int32)) := by
        rw [List.map_set]
        exact Arv.set Ar3 qq3 Sz3 Ng3 Hs3 Gs3 (fits_nar_byte _) W3 _ rfl (by rw [List.length_map, hl]; exact own_cl i hi20)
      show Go _ _ _ (T3.setTop (mkF m 30 #[.val (.long q1), .second, .val (.ref a2), .val (.int p3), .val (.long z), .second, .val (.int i)] [])) _
      refine Go.st (fun t k => XS.lload X3.here hx rfl (hb hby d1_30) rfl k) ?_
      refine Go.st (fun t k => XS.iconst X3.here hx rfl (hb hby d1_32) k) ?_
      refine Go.st (fun t k => XS.lushr X3.here hx rfl (hb hby d1_33) rfl k) ?_
      show Go _ _ _ (T3.setTop (mkF m 34 #[.val (.long q1), .second, .val (.ref a2), .val (.int p3), .val (.long z), .second, .val (.int i)] [(.long ((z.toUInt64 >>> ((4 : Int32) &&& 0x3f).toInt64.toUInt64).toInt64))])) _
      refine Go.st (fun t k => XS.lstore X3.here hx rfl (hb hby d1_34) rfl (l' := #[.val (.long q1), .second, .val (.ref a2), .val (.int p3), .val (.long ((z.toUInt64 >>> ((4 : Int32) &&& 0x3f).toInt64.toUInt64).toInt64)), .second, .val (.int i)]) rfl k) ?_
      refine Go.st (fun t k => XS.iinc X3.here hx rfl (hb hby d1_36) rfl (l' := #[.val (.long q1), .second, .val (.ref a2), .val (.int p3), .val (.long ((z.toUInt64 >>> ((4 : Int32) &&& 0x3f).toInt64.toUInt64).toInt64)), .second, .val (.int (i + (-1 : Int32)))]) rfl k) ?_
      show Go _ _ _ (T3.setTop (mkF m 39 #[.val (.long q1), .second, .val (.ref a2), .val (.int p3), .val (.long ((z.toUInt64 >>> ((4 : Int32) &&& 0x3f).toInt64.toUInt64).toInt64)), .second, .val (.int (i + (-1 : Int32)))] [])) _
      refine Go.st (fun t k => XS.goto X3.here hx rfl (pc0 := 39) (pc' := 9) rfl (hb hby d1_39) (by decide) (by decide) k) ?_
      show Go _ _ _ (T3.setTop (mkF m 9 #[.val (.long q1), .second, .val (.ref a2), .val (.int p3), .val (.long ((z.toUInt64 >>> ((4 : Int32) &&& 0x3f).toInt64.toUInt64).toInt64)), .second, .val (.int (i + (-1 : Int32)))] [])) _
      exact ih _ _ _ _ _ _ X3 e3 N3 K0 Z0 S_DIGITS V_DIGITS V_a2 (by rw [List.length_set]; exact hl) (by rw [own_i1 i hi20.1]; omega) (by omega) (by rw [own_i1n i hi20.1]; exact hwr)
  exact loop 16 _ _ _ _ _ _ X0 e0 N0 K0 Z0 S_DIGITS V_DIGITS V_a2 hxl (by rw [own_p15 p3 hs]; omega) (by decide) rfl
theorem d2_0 : decode method_3_code 0 = .ok (.iload_n 1, 1) := by decide +kernel
theorem d2_1 : decode method_3_code 1 = .ok (.iload_n 2, 1) := by decide +kernel
theorem d2_2 : decode method_3_code 2 = .ok (.isub, 1) := by decide +kernel
theorem d2_3 : decode method_3_code 3 = .ok (.istore 6, 2) := by decide +kernel
theorem d2_5 : decode method_3_code 5 = .ok (.iload 6, 2) := by decide +kernel
theorem d2_7 : decode method_3_code 7 = .ok (.ifCond .lt 10, 3) := by decide +kernel
theorem d2_17 : decode method_3_code 17 = .ok (.aload_n 0, 1) := by decide +kernel
theorem d2_18 : decode method_3_code 18 = .ok (.iload_n 1, 1) := by decide +kernel
theorem d2_19 : decode method_3_code 19 = .ok (.baload, 1) := by decide +kernel
theorem d2_20 : decode method_3_code 20 = .ok (.iload 5, 2) := by decide +kernel
theorem d2_22 : decode method_3_code 22 = .ok (.if_icmp .ne 7, 3) := by decide +kernel
theorem d2_25 : decode method_3_code 25 = .ok (.iconst 1, 1) := by decide +kernel
theorem d2_26 : decode method_3_code 26 = .ok (.goto 4, 3) := by decide +kernel
theorem d2_30 : decode method_3_code 30 = .ok (.ireturn, 1) := by decide +kernel
theorem d2_29 : decode method_3_code 29 = .ok (.iconst 0, 1) := by decide +kernel
theorem d2_10 : decode method_3_code 10 = .ok (.iload 6, 2) := by decide +kernel
theorem d2_12 : decode method_3_code 12 = .ok (.bipush 15, 2) := by decide +kernel
theorem d2_14 : decode method_3_code 14 = .ok (.if_icmp .le 17, 3) := by decide +kernel
theorem d2_31 : decode method_3_code 31 = .ok (.lload_n 3, 1) := by decide +kernel
theorem d2_32 : decode method_3_code 32 = .ok (.iconst 4, 1) := by decide +kernel
theorem d2_33 : decode method_3_code 33 = .ok (.bipush 15, 2) := by decide +kernel
theorem d2_35 : decode method_3_code 35 = .ok (.iload 6, 2) := by decide +kernel
theorem d2_37 : decode method_3_code 37 = .ok (.isub, 1) := by decide +kernel
theorem d2_38 : decode method_3_code 38 = .ok (.imul, 1) := by decide +kernel
theorem d2_39 : decode method_3_code 39 = .ok (.lushr, 1) := by decide +kernel
theorem d2_40 : decode method_3_code 40 = .ok (.ldc2_w 19, 3) := by decide +kernel
theorem wd12 {Z : State} {a0 : Array Value} (hw : ∀ d ∈ tables_1, d.before a0 Z = true) : (Jvm.Cond.constantLong "com/example/piece/piece/span/HexWritePinLaw" (19 : Nat) (15 : Int64)).before a0 Z = true := hw _ (List.mem_of_getElem? (i := 12) rfl)
theorem d2_43 : decode method_3_code 43 = .ok (.land, 1) := by decide +kernel
theorem d2_44 : decode method_3_code 44 = .ok (.l2i, 1) := by decide +kernel
theorem d2_45 : decode method_3_code 45 = .ok (.istore 7, 2) := by decide +kernel
def t2_0 (p2 : Int32) (p3 : Int32) (q4 : Int64) : Int32 := ((((q4.toUInt64 >>> (((4 : Int32) * ((15 : Int32) - (p2 - p3))) &&& 0x3f).toInt64.toUInt64).toInt64) &&& (15 : Int64)).toInt32)
theorem d2_47 : decode method_3_code 47 = .ok (.iload 7, 2) := by decide +kernel
theorem d2_49 : decode method_3_code 49 = .ok (.bipush 10, 2) := by decide +kernel
theorem d2_51 : decode method_3_code 51 = .ok (.if_icmp .ge 13, 3) := by decide +kernel
theorem d2_54 : decode method_3_code 54 = .ok (.bipush 48, 2) := by decide +kernel
theorem d2_56 : decode method_3_code 56 = .ok (.iload 7, 2) := by decide +kernel
theorem d2_58 : decode method_3_code 58 = .ok (.iadd, 1) := by decide +kernel
theorem d2_59 : decode method_3_code 59 = .ok (.istore 8, 2) := by decide +kernel
theorem d2_61 : decode method_3_code 61 = .ok (.goto 13, 3) := by decide +kernel
theorem d2_74 : decode method_3_code 74 = .ok (.aload_n 0, 1) := by decide +kernel
theorem d2_75 : decode method_3_code 75 = .ok (.iload_n 1, 1) := by decide +kernel
theorem d2_76 : decode method_3_code 76 = .ok (.baload, 1) := by decide +kernel
theorem d2_77 : decode method_3_code 77 = .ok (.iload 8, 2) := by decide +kernel
theorem d2_79 : decode method_3_code 79 = .ok (.i2b, 1) := by decide +kernel
theorem d2_80 : decode method_3_code 80 = .ok (.if_icmp .ne 7, 3) := by decide +kernel
theorem d2_83 : decode method_3_code 83 = .ok (.iconst 1, 1) := by decide +kernel
theorem d2_84 : decode method_3_code 84 = .ok (.goto 4, 3) := by decide +kernel
theorem d2_88 : decode method_3_code 88 = .ok (.ireturn, 1) := by decide +kernel
theorem d2_87 : decode method_3_code 87 = .ok (.iconst 0, 1) := by decide +kernel
theorem d2_64 : decode method_3_code 64 = .ok (.bipush 97, 2) := by decide +kernel
theorem d2_66 : decode method_3_code 66 = .ok (.iload 7, 2) := by decide +kernel
theorem d2_68 : decode method_3_code 68 = .ok (.bipush 10, 2) := by decide +kernel
theorem d2_70 : decode method_3_code 70 = .ok (.isub, 1) := by decide +kernel
theorem d2_71 : decode method_3_code 71 = .ok (.iadd, 1) := by decide +kernel
theorem d2_72 : decode method_3_code 72 = .ok (.istore 8, 2) := by decide +kernel
theorem pn1 : plainName "com/example/piece/piece/span/HexWritePinLaw" = true := by first | (simp [plainName, overriddenIn]; done) | decide +kernel
def f2 (p2 : Int32) (p3 : Int32) (q4 : Int64) (p5 : Int32) (x : Int32) : Int32 := (if (p2 - p3) < (0 : Int32) then (if x = p5 then (1 : Int32) else (0 : Int32)) else (if (15 : Int32) < (p2 - p3) then (if x = p5 then (1 : Int32) else (0 : Int32)) else (if (t2_0 p2 p3 q4) < (10 : Int32) then (if x = (((48 : Int32) + (t2_0 p2 p3 q4)).toInt8.toInt32) then (1 : Int32) else (0 : Int32)) else (if x = (((97 : Int32) + ((t2_0 p2 p3 q4) - (10 : Int32))).toInt8.toInt32) then (1 : Int32) else (0 : Int32)))))
def Q2 (Z : State) (a1 : Addr) (p2 : Int32) (p3 : Int32) (q4 : Int64) (p5 : Int32) (k_a : ClassId) (vs : List Value) (x : Int32) (h0 : Heap) (n0 : Nat) (v : Option Value) (h : Heap) (L : List Loc) : Prop := v = some (.int (f2 p2 p3 q4 p5 x)) ∧ Fr n0 L ∧ h = h0
theorem ef2 (m : MethodId) (x0 : Addr) (x1 : Int32) (x2 : Int32) (x3 : Int64) (x4 : Int32) : entryFrame m #[(.ref x0), (.int x1), (.int x2), (.long x3), (.int x4)] 9 = mkF m 0 #[.val (.ref x0), .val (.int x1), .val (.int x2), .val (.long x3), .second, .val (.int x4), .unset, .unset, .unset] [] := by first | (simp [entryFrame, mkF, argsToLocals, Value.category]; done) | rfl
set_option maxRecDepth 65536 in
set_option maxHeartbeats 16000000 in
theorem rm2 (l : Launch) (Z : State) (a0 : Array Value) (hw : ∀ d ∈ tables_1, d.before a0 Z = true) (ws : List Jvm.Cond) (a1 : Addr) (p2 : Int32) (p3 : Int32) (q4 : Int64) (p5 : Int32) (k_a : ClassId) (vs : List Value) (x : Int32) (h0 : Heap) (n0 : Nat) (Z0 : n0 ≤ h0.size) (V_a1 : Arv Z h0 a1 k_a .byte (20 : Int32) vs (.int (0 : Int32))) (hib : ¬ p2 < 0 ∧ p2 < (20 : Int32)) (hat : vs.getD p2.toNatClampNeg (.int (0 : Int32)) = .int x) :
    MetFree l (⟨"com/example/piece/piece/span/HexWritePinLaw", "ok", "([BIIJB)Z"⟩ : MethodName) (head1 (Jvm.Cond.code (⟨"com/example/piece/piece/span/HexWritePinLaw", "ok", "([BIIJB)Z"⟩ : MethodName) method_3_code 9 (some .boolean) :: ws) ({ frames := 0, cells := 0, slots := 0, locals := 0 } : Room)) (fun a U => a = #[(.ref a1), (.int p2), (.int p3), (.long q4), (.int p5)] ∧ Z.Warmed39 U.vm ∧ U.heap = h0) (fun _ _ _ _ _ => True) (fun _ U o U' => ∃ v L, o = .returned v ∧ Q2 Z a1 p2 p3 q4 p5 k_a vs x h0 n0 v U'.heap L ∧ FrameEnd U o U' L ({ frames := 0, cells := 0, slots := 0, locals := 0 } : Room).cells ({ frames := 0, cells := 0, slots := 0, locals := 0 } : Room).slots) := by
  refine MetFree.of_bodySF (plainFor_of_name pn1) hisR ?_
  intro p e s m args below meth c s₁ Bd hml0 hP hK
  obtain ⟨rfl, hZ, hh⟩ := hP
  have hx := Bd.exec
  have hby := Bd.bytes
  have hml : c.maxLocals = 9 := hml0
  have hown : s.vm.findClass "com/example/piece/piece/span/HexWritePinLaw" = some m.cls := findClass_of_methodNamed Bd.named
  have hnm := (name_of_methodNamed Bd.named Bd.method).1
  have X0 : Stand p l e ({ frames := 0, cells := 0, slots := 0, locals := 0 } : Room) s m #[(.ref a1), (.int p2), (.int p3), (.long q4), (.int p5)] below meth c s₁ [] 0 0 := Stand.of_body Bd
  have e0 : s₁.heap = h0 := by rw [← hh, Bd.state]; rfl
  have N0 := Fr.nil n0
  have K0 : Keep h0 h0 [] := Keep.refl h0 _
  refine Go.st (P := fun o U' => ∃ v L, o = .returned v ∧ Q2 Z a1 p2 p3 q4 p5 k_a vs x h0 n0 v U'.heap L ∧ FrameEnd s o U' L ({ frames := 0, cells := 0, slots := 0, locals := 0 } : Room).cells ({ frames := 0, cells := 0, slots := 0, locals := 0 } : Room).slots) (fun t k => castTop (ef2 m a1 p2 p3 q4 p5) k) ?_
  show Go _ _ _ (s₁.setTop (mkF m 0 #[.val (.ref a1), .val (.int p2), .val (.int p3), .val (.long q4), .second, .val (.int p5), .unset, .unset, .unset] [])) _
  refine Go.st (fun t k => XS.iloadN X0.here hx rfl (hb hby d2_0) rfl k) ?_
  refine Go.st (fun t k => XS.iloadN X0.here hx rfl (hb hby d2_1) rfl k) ?_
  refine Go.st (fun t k => XS.isub X0.here hx rfl (hb hby d2_2) rfl k) ?_
  show Go _ _ _ (s₁.setTop (mkF m 3 #[.val (.ref a1), .val (.int p2), .val (.int p3), .val (.long q4), .second, .val (.int p5), .unset, .unset, .unset] [(.int (p2 - p3))])) _
  refine Go.st (fun t k => XS.istore X0.here hx rfl (hb hby d2_3) rfl (l' := #[.val (.ref a1), .val (.int p2), .val (.int p3), .val (.long q4), .second, .val (.int p5), .val (.int (p2 - p3)), .unset, .unset]) rfl k) ?_
  refine Go.st (fun t k => XS.iload X0.here hx rfl (hb hby d2_5) rfl k) ?_
  by_cases hc1 : (p2 - p3) < (0 : Int32)
  · refine Go.st (fun t k => XS.ifYes X0.here hx rfl (pc0 := 7) (pc' := 17) rfl (hb hby d2_7) rfl ((if0 _ _).trans (tlt hc1).1) (by decide) (by decide) k) ?_
    show Go _ _ _ (s₁.setTop (mkF m 17 #[.val (.ref a1), .val (.int p2), .val (.int p3), .val (.long q4), .second, .val (.int p5), .val (.int (p2 - p3)), .unset, .unset] [])) _
    refine Go.st (fun t k => XS.aloadN X0.here hx rfl (hb hby d2_17) rfl rfl k) ?_
    refine Go.st (fun t k => XS.iloadN X0.here hx rfl (hb hby d2_18) rfl k) ?_
    obtain ⟨cl2, Ar2, -, Sz2, Ng2, Hs2, -⟩ := id V_a1
    have hin2 : ¬ (p2 < 0 ∨ cl2.slots.size ≤ (p2).toNatClampNeg) := inb_of Sz2 hib
    refine Go.st (fun t k => X0.baloadBytes hx (j := p2) (v := (.int x)) (by rw [e0]; exact Ar2.1) (State.isArrayOf_alike hZ.alike Ar2.2.1) Ar2.2.2 hin2 (Has.at Hs2 hin2 hat) (g := (mkF m 19 #[.val (.ref a1), .val (.int p2), .val (.int p3), .val (.long q4), .second, .val (.int p5), .val (.int (p2 - p3)), .unset, .unset] [(.int p2), (.ref a1)])) rfl rfl (hb hby d2_19) _ k) ?_
    show Go _ _ _ (s₁.setTop (mkF m 20 #[.val (.ref a1), .val (.int p2), .val (.int p3), .val (.long q4), .second, .val (.int p5), .val (.int (p2 - p3)), .unset, .unset] [(.int x)])) _
    refine Go.st (fun t k => XS.iload X0.here hx rfl (hb hby d2_20) rfl k) ?_
    by_cases hc3 : x = p5
    · refine Go.st (fun t k => XS.icmpNo X0.here hx rfl (hb hby d2_22) rfl (teq hc3).2 k) ?_
      show Go _ _ _ (s₁.setTop (mkF m 25 #[.val (.ref a1), .val (.int p2), .val (.int p3), .val (.long q4), .second, .val (.int p5), .val (.int (p2 - p3)), .unset, .unset] [])) _
      refine Go.st (fun t k => XS.iconst X0.here hx rfl (hb hby d2_25) k) ?_
      refine Go.st (fun t k => XS.goto X0.here hx rfl (pc0 := 26) (pc' := 30) rfl (hb hby d2_26) (by decide) (by decide) k) ?_
      obtain ⟨fs, hr, hrun, hended, hW, hsame⟩ := X0.leave (v := some (.int (1 : Int32))) (fun h => by rw [Bd.returns] at h; cases h)
      refine Go.fin (retN X0 hx (t := .boolean) Bd.returns (by simp) (hb hby d2_30) hr) hrun hended ⟨_, _, rfl, ?_, ⟨_, rfl⟩, hW, hsame.mono (by decide) (by decide)⟩
      show Q2 Z a1 p2 p3 q4 p5 k_a vs x h0 n0 _ s₁.heap _
      rw [e0]
      exact ⟨(by unfold f2; simp only [if_pos hc1, if_pos hc3]), N0, rfl⟩
    · refine Go.st (fun t k => XS.icmpYes X0.here hx rfl (pc0 := 22) (pc' := 29) rfl (hb hby d2_22) rfl (feq hc3).2 (by decide) (by decide) k) ?_
      show Go _ _ _ (s₁.setTop (mkF m 29 #[.val (.ref a1), .val (.int p2), .val (.int p3), .val (.long q4), .second, .val (.int p5), .val (.int (p2 - p3)), .unset, .unset] [])) _
      refine Go.st (fun t k => XS.iconst X0.here hx rfl (hb hby d2_29) k) ?_
      obtain ⟨fs, hr, hrun, hended, hW, hsame⟩ := X0.leave (v := some (.int (0 : Int32))) (fun h => by rw [Bd.returns] at h; cases h)
      refine Go.fin (retN X0 hx (t := .boolean) Bd.returns (by simp) (hb hby d2_30) hr) hrun hended ⟨_, _, rfl, ?_, ⟨_, rfl⟩, hW, hsame.mono (by decide) (by decide)⟩
      show Q2 Z a1 p2 p3 q4 p5 k_a vs x h0 n0 _ s₁.heap _
      rw [e0]
      exact ⟨(by unfold f2; simp only [if_pos hc1, if_neg hc3]), N0, rfl⟩
  · refine Go.st (fun t k => XS.ifNo X0.here hx rfl (hb hby d2_7) rfl ((if0 _ _).trans (flt hc1).1) k) ?_
    show Go _ _ _ (s₁.setTop (mkF m 10 #[.val (.ref a1), .val (.int p2), .val (.int p3), .val (.long q4), .second, .val (.int p5), .val (.int (p2 - p3)), .unset, .unset] [])) _
    refine Go.st (fun t k => XS.iload X0.here hx rfl (hb hby d2_10) rfl k) ?_
    refine Go.st (fun t k => XS.bipush X0.here hx rfl (hb hby d2_12) k) ?_
    by_cases hc4 : (15 : Int32) < (p2 - p3)
    · refine Go.st (fun t k => XS.icmpNo X0.here hx rfl (hb hby d2_14) rfl (tlt hc4).2.2.2 k) ?_
      show Go _ _ _ (s₁.setTop (mkF m 17 #[.val (.ref a1), .val (.int p2), .val (.int p3), .val (.long q4), .second, .val (.int p5), .val (.int (p2 - p3)), .unset, .unset] [])) _
      refine Go.st (fun t k => XS.aloadN X0.here hx rfl (hb hby d2_17) rfl rfl k) ?_
      refine Go.st (fun t k => XS.iloadN X0.here hx rfl (hb hby d2_18) rfl k) ?_
      obtain ⟨cl5, Ar5, -, Sz5, Ng5, Hs5, -⟩ := id V_a1
      have hin5 : ¬ (p2 < 0 ∨ cl5.slots.size ≤ (p2).toNatClampNeg) := inb_of Sz5 hib
      refine Go.st (fun t k => X0.baloadBytes hx (j := p2) (v := (.int x)) (by rw [e0]; exact Ar5.1) (State.isArrayOf_alike hZ.alike Ar5.2.1) Ar5.2.2 hin5 (Has.at Hs5 hin5 hat) (g := (mkF m 19 #[.val (.ref a1), .val (.int p2), .val (.int p3), .val (.long q4), .second, .val (.int p5), .val (.int (p2 - p3)), .unset, .unset] [(.int p2), (.ref a1)])) rfl rfl (hb hby d2_19) _ k) ?_
      show Go _ _ _ (s₁.setTop (mkF m 20 #[.val (.ref a1), .val (.int p2), .val (.int p3), .val (.long q4), .second, .val (.int p5), .val (.int (p2 - p3)), .unset, .unset] [(.int x)])) _
      refine Go.st (fun t k => XS.iload X0.here hx rfl (hb hby d2_20) rfl k) ?_
      by_cases hc6 : x = p5
      · refine Go.st (fun t k => XS.icmpNo X0.here hx rfl (hb hby d2_22) rfl (teq hc6).2 k) ?_
        show Go _ _ _ (s₁.setTop (mkF m 25 #[.val (.ref a1), .val (.int p2), .val (.int p3), .val (.long q4), .second, .val (.int p5), .val (.int (p2 - p3)), .unset, .unset] [])) _
        refine Go.st (fun t k => XS.iconst X0.here hx rfl (hb hby d2_25) k) ?_
        refine Go.st (fun t k => XS.goto X0.here hx rfl (pc0 := 26) (pc' := 30) rfl (hb hby d2_26) (by decide) (by decide) k) ?_
        obtain ⟨fs, hr, hrun, hended, hW, hsame⟩ := X0.leave (v := some (.int (1 : Int32))) (fun h => by rw [Bd.returns] at h; cases h)
        refine Go.fin (retN X0 hx (t := .boolean) Bd.returns (by simp) (hb hby d2_30) hr) hrun hended ⟨_, _, rfl, ?_, ⟨_, rfl⟩, hW, hsame.mono (by decide) (by decide)⟩
        show Q2 Z a1 p2 p3 q4 p5 k_a vs x h0 n0 _ s₁.heap _
        rw [e0]
        exact ⟨(by unfold f2; simp only [if_neg hc1, if_pos hc4, if_pos hc6]), N0, rfl⟩
      · refine Go.st (fun t k => XS.icmpYes X0.here hx rfl (pc0 := 22) (pc' := 29) rfl (hb hby d2_22) rfl (feq hc6).2 (by decide) (by decide) k) ?_
        show Go _ _ _ (s₁.setTop (mkF m 29 #[.val (.ref a1), .val (.int p2), .val (.int p3), .val (.long q4), .second, .val (.int p5), .val (.int (p2 - p3)), .unset, .unset] [])) _
        refine Go.st (fun t k => XS.iconst X0.here hx rfl (hb hby d2_29) k) ?_
        obtain ⟨fs, hr, hrun, hended, hW, hsame⟩ := X0.leave (v := some (.int (0 : Int32))) (fun h => by rw [Bd.returns] at h; cases h)
        refine Go.fin (retN X0 hx (t := .boolean) Bd.returns (by simp) (hb hby d2_30) hr) hrun hended ⟨_, _, rfl, ?_, ⟨_, rfl⟩, hW, hsame.mono (by decide) (by decide)⟩
        show Q2 Z a1 p2 p3 q4 p5 k_a vs x h0 n0 _ s₁.heap _
        rw [e0]
        exact ⟨(by unfold f2; simp only [if_neg hc1, if_pos hc4, if_neg hc6]), N0, rfl⟩
    · refine Go.st (fun t k => XS.icmpYes X0.here hx rfl (pc0 := 14) (pc' := 31) rfl (hb hby d2_14) rfl (flt hc4).2.2.2 (by decide) (by decide) k) ?_
      show Go _ _ _ (s₁.setTop (mkF m 31 #[.val (.ref a1), .val (.int p2), .val (.int p3), .val (.long q4), .second, .val (.int p5), .val (.int (p2 - p3)), .unset, .unset] [])) _
      refine Go.st (fun t k => XS.lloadN X0.here hx rfl (hb hby d2_31) rfl k) ?_
      refine Go.st (fun t k => XS.iconst X0.here hx rfl (hb hby d2_32) k) ?_
      refine Go.st (fun t k => XS.bipush X0.here hx rfl (hb hby d2_33) k) ?_
      refine Go.st (fun t k => XS.iload X0.here hx rfl (hb hby d2_35) rfl k) ?_
      refine Go.st (fun t k => XS.isub X0.here hx rfl (hb hby d2_37) rfl k) ?_
      show Go _ _ _ (s₁.setTop (mkF m 38 #[.val (.ref a1), .val (.int p2), .val (.int p3), .val (.long q4), .second, .val (.int p5), .val (.int (p2 - p3)), .unset, .unset] [(.int ((15 : Int32) - (p2 - p3))), (.int 4), (.long q4)])) _
      refine Go.st (fun t k => XS.imul X0.here hx rfl (hb hby d2_38) rfl k) ?_
      show Go _ _ _ (s₁.setTop (mkF m 39 #[.val (.ref a1), .val (.int p2), .val (.int p3), .val (.long q4), .second, .val (.int p5), .val (.int (p2 - p3)), .unset, .unset] [(.int ((4 : Int32) * ((15 : Int32) - (p2 - p3)))), (.long q4)])) _
      refine Go.st (fun t k => XS.lushr X0.here hx rfl (hb hby d2_39) rfl k) ?_
      show Go _ _ _ (s₁.setTop (mkF m 40 #[.val (.ref a1), .val (.int p2), .val (.int p3), .val (.long q4), .second, .val (.int p5), .val (.int (p2 - p3)), .unset, .unset] [(.long ((q4.toUInt64 >>> (((4 : Int32) * ((15 : Int32) - (p2 - p3))) &&& 0x3f).toInt64.toUInt64).toInt64))])) _
      refine Go.st (fun t k => X0.ldc2Long hx hown (mvT hZ (wd12 hw)) (g := (mkF m 40 #[.val (.ref a1), .val (.int p2), .val (.int p3), .val (.long q4), .second, .val (.int p5), .val (.int (p2 - p3)), .unset, .unset] [(.long ((q4.toUInt64 >>> (((4 : Int32) * ((15 : Int32) - (p2 - p3))) &&& 0x3f).toInt64.toUInt64).toInt64))])) rfl (hb hby d2_40) _ k) ?_
      show Go _ _ _ (s₁.setTop (mkF m 43 #[.val (.ref a1), .val (.int p2), .val (.int p3), .val (.long q4), .second, .val (.int p5), .val (.int (p2 - p3)), .unset, .unset] [(.long 15), (.long ((q4.toUInt64 >>> (((4 : Int32) * ((15 : Int32) - (p2 - p3))) &&& 0x3f).toInt64.toUInt64).toInt64))])) _
      refine Go.st (fun t k => XS.land X0.here hx rfl (hb hby d2_43) rfl k) ?_
      show Go _ _ _ (s₁.setTop (mkF m 44 #[.val (.ref a1), .val (.int p2), .val (.int p3), .val (.long q4), .second, .val (.int p5), .val (.int (p2 - p3)), .unset, .unset] [(.long (((q4.toUInt64 >>> (((4 : Int32) * ((15 : Int32) - (p2 - p3))) &&& 0x3f).toInt64.toUInt64).toInt64) &&& (15 : Int64)))])) _
      refine Go.st (fun t k => XS.l2i X0.here hx rfl (hb hby d2_44) rfl k) ?_
      show Go _ _ _ (s₁.setTop (mkF m 45 #[.val (.ref a1), .val (.int p2), .val (.int p3), .val (.long q4), .second, .val (.int p5), .val (.int (p2 - p3)), .unset, .unset] [(.int ((((q4.toUInt64 >>> (((4 : Int32) * ((15 : Int32) - (p2 - p3))) &&& 0x3f).toInt64.toUInt64).toInt64) &&& (15 : Int64)).toInt32))])) _
      refine Go.st (fun t k => XS.istore X0.here hx rfl (hb hby d2_45) rfl (l' := #[.val (.ref a1), .val (.int p2), .val (.int p3), .val (.long q4), .second, .val (.int p5), .val (.int (p2 - p3)), .val (.int (t2_0 p2 p3 q4)), .unset]) rfl k) ?_
      refine Go.st (fun t k => XS.iload X0.here hx rfl (hb hby d2_47) rfl k) ?_
      refine Go.st (fun t k => XS.bipush X0.here hx rfl (hb hby d2_49) k) ?_
      by_cases hc7 : (t2_0 p2 p3 q4) < (10 : Int32)
      · refine Go.st (fun t k => XS.icmpNo X0.here hx rfl (hb hby d2_51) rfl (tlt hc7).2.1 k) ?_
        show Go _ _ _ (s₁.setTop (mkF m 54 #[.val (.ref a1), .val (.int p2), .val (.int p3), .val (.long q4), .second, .val (.int p5), .val (.int (p2 - p3)), .val (.int (t2_0 p2 p3 q4)), .unset] [])) _
        refine Go.st (fun t k => XS.bipush X0.here hx rfl (hb hby d2_54) k) ?_
        refine Go.st (fun t k => XS.iload X0.here hx rfl (hb hby d2_56) rfl k) ?_
        refine Go.st (fun t k => XS.iadd X0.here hx rfl (hb hby d2_58) rfl k) ?_
        show Go _ _ _ (s₁.setTop (mkF m 59 #[.val (.ref a1), .val (.int p2), .val (.int p3), .val (.long q4), .second, .val (.int p5), .val (.int (p2 - p3)), .val (.int (t2_0 p2 p3 q4)), .unset] [(.int ((48 : Int32) + (t2_0 p2 p3 q4)))])) _
        refine Go.st (fun t k => XS.istore X0.here hx rfl (hb hby d2_59) rfl (l' := #[.val (.ref a1), .val (.int p2), .val (.int p3), .val (.long q4), .second, .val (.int p5), .val (.int (p2 - p3)), .val (.int (t2_0 p2 p3 q4)), .val (.int ((48 : Int32) + (t2_0 p2 p3 q4)))]) rfl k) ?_
        refine Go.st (fun t k => XS.goto X0.here hx rfl (pc0 := 61) (pc' := 74) rfl (hb hby d2_61) (by decide) (by decide) k) ?_
        refine Go.st (fun t k => XS.aloadN X0.here hx rfl (hb hby d2_74) rfl rfl k) ?_
        refine Go.st (fun t k => XS.iloadN X0.here hx rfl (hb hby d2_75) rfl k) ?_
        obtain ⟨cl8, Ar8, -, Sz8, Ng8, Hs8, -⟩ := id V_a1
        have hin8 : ¬ (p2 < 0 ∨ cl8.slots.size ≤ (p2).toNatClampNeg) := inb_of Sz8 hib
        refine Go.st (fun t k => X0.baloadBytes hx (j := p2) (v := (.int x)) (by rw [e0]; exact Ar8.1) (State.isArrayOf_alike hZ.alike Ar8.2.1) Ar8.2.2 hin8 (Has.at Hs8 hin8 hat) (g := (mkF m 76 #[.val (.ref a1), .val (.int p2), .val (.int p3), .val (.long q4), .second, .val (.int p5), .val (.int (p2 - p3)), .val (.int (t2_0 p2 p3 q4)), .val (.int ((48 : Int32) + (t2_0 p2 p3 q4)))] [(.int p2), (.ref a1)])) rfl rfl (hb hby d2_76) _ k) ?_
        show Go _ _ _ (s₁.setTop (mkF m 77 #[.val (.ref a1), .val (.int p2), .val (.int p3), .val (.long q4), .second, .val (.int p5), .val (.int (p2 - p3)), .val (.int (t2_0 p2 p3 q4)), .val (.int ((48 : Int32) + (t2_0 p2 p3 q4)))] [(.int x)])) _
        refine Go.st (fun t k => XS.iload X0.here hx rfl (hb hby d2_77) rfl k) ?_
        refine Go.st (fun t k => XS.i2b X0.here hx rfl (hb hby d2_79) rfl k) ?_
        show Go _ _ _ (s₁.setTop (mkF m 80 #[.val (.ref a1), .val (.int p2), .val (.int p3), .val (.long q4), .second, .val (.int p5), .val (.int (p2 - p3)), .val (.int (t2_0 p2 p3 q4)), .val (.int ((48 : Int32) + (t2_0 p2 p3 q4)))] [(.int (((48 : Int32) + (t2_0 p2 p3 q4)).toInt8.toInt32)), (.int x)])) _
        by_cases hc9 : x = (((48 : Int32) + (t2_0 p2 p3 q4)).toInt8.toInt32)
        · refine Go.st (fun t k => XS.icmpNo X0.here hx rfl (hb hby d2_80) rfl (teq hc9).2 k) ?_
          show Go _ _ _ (s₁.setTop (mkF m 83 #[.val (.ref a1), .val (.int p2), .val (.int p3), .val (.long q4), .second, .val (.int p5), .val (.int (p2 - p3)), .val (.int (t2_0 p2 p3 q4)), .val (.int ((48 : Int32) + (t2_0 p2 p3 q4)))] [])) _
          refine Go.st (fun t k => XS.iconst X0.here hx rfl (hb hby d2_83) k) ?_
          refine Go.st (fun t k => XS.goto X0.here hx rfl (pc0 := 84) (pc' := 88) rfl (hb hby d2_84) (by decide) (by decide) k) ?_
          obtain ⟨fs, hr, hrun, hended, hW, hsame⟩ := X0.leave (v := some (.int (1 : Int32))) (fun h => by rw [Bd.returns] at h; cases h)
          refine Go.fin (retN X0 hx (t := .boolean) Bd.returns (by simp) (hb hby d2_88) hr) hrun hended ⟨_, _, rfl, ?_, ⟨_, rfl⟩, hW, hsame.mono (by decide) (by decide)⟩
          show Q2 Z a1 p2 p3 q4 p5 k_a vs x h0 n0 _ s₁.heap _
          rw [e0]
          exact ⟨(by unfold f2; simp only [if_neg hc1, if_neg hc4, if_pos hc7, if_pos hc9]), N0, rfl⟩
        · refine Go.st (fun t k => XS.icmpYes X0.here hx rfl (pc0 := 80) (pc' := 87) rfl (hb hby d2_80) rfl (feq hc9).2 (by decide) (by decide) k) ?_
          show Go _ _ _ (s₁.setTop (mkF m 87 #[.val (.ref a1), .val (.int p2), .val (.int p3), .val (.long q4), .second, .val (.int p5), .val (.int (p2 - p3)), .val (.int (t2_0 p2 p3 q4)), .val (.int ((48 : Int32) + (t2_0 p2 p3 q4)))] [])) _
          refine Go.st (fun t k => XS.iconst X0.here hx rfl (hb hby d2_87) k) ?_
          obtain ⟨fs, hr, hrun, hended, hW, hsame⟩ := X0.leave (v := some (.int (0 : Int32))) (fun h => by rw [Bd.returns] at h; cases h)
          refine Go.fin (retN X0 hx (t := .boolean) Bd.returns (by simp) (hb hby d2_88) hr) hrun hended ⟨_, _, rfl, ?_, ⟨_, rfl⟩, hW, hsame.mono (by decide) (by decide)⟩
          show Q2 Z a1 p2 p3 q4 p5 k_a vs x h0 n0 _ s₁.heap _
          rw [e0]
          exact ⟨(by unfold f2; simp only [if_neg hc1, if_neg hc4, if_pos hc7, if_neg hc9]), N0, rfl⟩
      · refine Go.st (fun t k => XS.icmpYes X0.here hx rfl (pc0 := 51) (pc' := 64) rfl (hb hby d2_51) rfl (flt hc7).2.1 (by decide) (by decide) k) ?_
        show Go _ _ _ (s₁.setTop (mkF m 64 #[.val (.ref a1), .val (.int p2), .val (.int p3), .val (.long q4), .second, .val (.int p5), .val (.int (p2 - p3)), .val (.int (t2_0 p2 p3 q4)), .unset] [])) _
        refine Go.st (fun t k => XS.bipush X0.here hx rfl (hb hby d2_64) k) ?_
        refine Go.st (fun t k => XS.iload X0.here hx rfl (hb hby d2_66) rfl k) ?_
        refine Go.st (fun t k => XS.bipush X0.here hx rfl (hb hby d2_68) k) ?_
        refine Go.st (fun t k => XS.isub X0.here hx rfl (hb hby d2_70) rfl k) ?_
        show Go _ _ _ (s₁.setTop (mkF m 71 #[.val (.ref a1), .val (.int p2), .val (.int p3), .val (.long q4), .second, .val (.int p5), .val (.int (p2 - p3)), .val (.int (t2_0 p2 p3 q4)), .unset] [(.int ((t2_0 p2 p3 q4) - (10 : Int32))), (.int 97)])) _
        refine Go.st (fun t k => XS.iadd X0.here hx rfl (hb hby d2_71) rfl k) ?_
        show Go _ _ _ (s₁.setTop (mkF m 72 #[.val (.ref a1), .val (.int p2), .val (.int p3), .val (.long q4), .second, .val (.int p5), .val (.int (p2 - p3)), .val (.int (t2_0 p2 p3 q4)), .unset] [(.int ((97 : Int32) + ((t2_0 p2 p3 q4) - (10 : Int32))))])) _
        refine Go.st (fun t k => XS.istore X0.here hx rfl (hb hby d2_72) rfl (l' := #[.val (.ref a1), .val (.int p2), .val (.int p3), .val (.long q4), .second, .val (.int p5), .val (.int (p2 - p3)), .val (.int (t2_0 p2 p3 q4)), .val (.int ((97 : Int32) + ((t2_0 p2 p3 q4) - (10 : Int32))))]) rfl k) ?_
        refine Go.st (fun t k => XS.aloadN X0.here hx rfl (hb hby d2_74) rfl rfl k) ?_
        refine Go.st (fun t k => XS.iloadN X0.here hx rfl (hb hby d2_75) rfl k) ?_
        obtain ⟨cl10, Ar10, -, Sz10, Ng10, Hs10, -⟩ := id V_a1
        have hin10 : ¬ (p2 < 0 ∨ cl10.slots.size ≤ (p2).toNatClampNeg) := inb_of Sz10 hib
        refine Go.st (fun t k => X0.baloadBytes hx (j := p2) (v := (.int x)) (by rw [e0]; exact Ar10.1) (State.isArrayOf_alike hZ.alike Ar10.2.1) Ar10.2.2 hin10 (Has.at Hs10 hin10 hat) (g := (mkF m 76 #[.val (.ref a1), .val (.int p2), .val (.int p3), .val (.long q4), .second, .val (.int p5), .val (.int (p2 - p3)), .val (.int (t2_0 p2 p3 q4)), .val (.int ((97 : Int32) + ((t2_0 p2 p3 q4) - (10 : Int32))))] [(.int p2), (.ref a1)])) rfl rfl (hb hby d2_76) _ k) ?_
        show Go _ _ _ (s₁.setTop (mkF m 77 #[.val (.ref a1), .val (.int p2), .val (.int p3), .val (.long q4), .second, .val (.int p5), .val (.int (p2 - p3)), .val (.int (t2_0 p2 p3 q4)), .val (.int ((97 : Int32) + ((t2_0 p2 p3 q4) - (10 : Int32))))] [(.int x)])) _
        refine Go.st (fun t k => XS.iload X0.here hx rfl (hb hby d2_77) rfl k) ?_
        refine Go.st (fun t k => XS.i2b X0.here hx rfl (hb hby d2_79) rfl k) ?_
        show Go _ _ _ (s₁.setTop (mkF m 80 #[.val (.ref a1), .val (.int p2), .val (.int p3), .val (.long q4), .second, .val (.int p5), .val (.int (p2 - p3)), .val (.int (t2_0 p2 p3 q4)), .val (.int ((97 : Int32) + ((t2_0 p2 p3 q4) - (10 : Int32))))] [(.int (((97 : Int32) + ((t2_0 p2 p3 q4) - (10 : Int32))).toInt8.toInt32)), (.int x)])) _
        by_cases hc11 : x = (((97 : Int32) + ((t2_0 p2 p3 q4) - (10 : Int32))).toInt8.toInt32)
        · refine Go.st (fun t k => XS.icmpNo X0.here hx rfl (hb hby d2_80) rfl (teq hc11).2 k) ?_
          show Go _ _ _ (s₁.setTop (mkF m 83 #[.val (.ref a1), .val (.int p2), .val (.int p3), .val (.long q4), .second, .val (.int p5), .val (.int (p2 - p3)), .val (.int (t2_0 p2 p3 q4)), .val (.int ((97 : Int32) + ((t2_0 p2 p3 q4) - (10 : Int32))))] [])) _
          refine Go.st (fun t k => XS.iconst X0.here hx rfl (hb hby d2_83) k) ?_
          refine Go.st (fun t k => XS.goto X0.here hx rfl (pc0 := 84) (pc' := 88) rfl (hb hby d2_84) (by decide) (by decide) k) ?_
          obtain ⟨fs, hr, hrun, hended, hW, hsame⟩ := X0.leave (v := some (.int (1 : Int32))) (fun h => by rw [Bd.returns] at h; cases h)
          refine Go.fin (retN X0 hx (t := .boolean) Bd.returns (by simp) (hb hby d2_88) hr) hrun hended ⟨_, _, rfl, ?_, ⟨_, rfl⟩, hW, hsame.mono (by decide) (by decide)⟩
          show Q2 Z a1 p2 p3 q4 p5 k_a vs x h0 n0 _ s₁.heap _
          rw [e0]
          exact ⟨(by unfold f2; simp only [if_neg hc1, if_neg hc4, if_neg hc7, if_pos hc11]), N0, rfl⟩
        · refine Go.st (fun t k => XS.icmpYes X0.here hx rfl (pc0 := 80) (pc' := 87) rfl (hb hby d2_80) rfl (feq hc11).2 (by decide) (by decide) k) ?_
          show Go _ _ _ (s₁.setTop (mkF m 87 #[.val (.ref a1), .val (.int p2), .val (.int p3), .val (.long q4), .second, .val (.int p5), .val (.int (p2 - p3)), .val (.int (t2_0 p2 p3 q4)), .val (.int ((97 : Int32) + ((t2_0 p2 p3 q4) - (10 : Int32))))] [])) _
          refine Go.st (fun t k => XS.iconst X0.here hx rfl (hb hby d2_87) k) ?_
          obtain ⟨fs, hr, hrun, hended, hW, hsame⟩ := X0.leave (v := some (.int (0 : Int32))) (fun h => by rw [Bd.returns] at h; cases h)
          refine Go.fin (retN X0 hx (t := .boolean) Bd.returns (by simp) (hb hby d2_88) hr) hrun hended ⟨_, _, rfl, ?_, ⟨_, rfl⟩, hW, hsame.mono (by decide) (by decide)⟩
          show Q2 Z a1 p2 p3 q4 p5 k_a vs x h0 n0 _ s₁.heap _
          rw [e0]
          exact ⟨(by unfold f2; simp only [if_neg hc1, if_neg hc4, if_neg hc7, if_neg hc11]), N0, rfl⟩
theorem own_and3 (x : Int32) : 0 ≤ (x &&& (3 : Int32)).toInt ∧ (x &&& (3 : Int32)).toInt ≤ 3 := by
  have e : (x &&& (3 : Int32)).toBitVec = x.toBitVec &&& 3#32 := rfl
  have b : (x.toBitVec &&& 3#32).toNat ≤ 3 := by
    rw [BitVec.toNat_and]
    exact Nat.and_le_right
  have t : (x &&& (3 : Int32)).toInt = ((x.toBitVec &&& 3#32).toNat : Int) := by
    show (x &&& (3 : Int32)).toBitVec.toInt = _
    rw [e, BitVec.toInt_eq_toNat_of_lt (by omega)]
  omega
theorem own_b8 (x : Int32) : (x.toInt8.toInt32).toInt8.toInt32 = x.toInt8.toInt32 := by rw [Int8.toInt8_toInt32]
theorem own_cases16 (k : Int32) (h : 0 ≤ k.toInt ∧ k.toInt ≤ 15) (P : Int32 → Prop) (hP : ∀ j : Fin 16, P (Int32.ofInt (j.1 : Int))) : P k := by
  have := hP ⟨k.toInt.toNat, by omega⟩
  rw [Int.toNat_of_nonneg h.1, Int32.ofInt_toInt] at this
  exact this
theorem own_amt (q : Int64) (k : Int32) (h : 0 ≤ k.toInt ∧ k.toInt ≤ 15) : ((q.toUInt64 >>> (((4 : Int32) * ((15 : Int32) - k)) &&& 0x3f).toInt64.toUInt64).toInt64) = own_shn (15 - k.toInt.toNat) q := by
  refine own_cases16 k h (fun k => ((q.toUInt64 >>> (((4 : Int32) * ((15 : Int32) - k)) &&& 0x3f).toInt64.toUInt64).toInt64) = own_shn (15 - k.toInt.toNat) q) ?_
  intro j
  apply Int64.toBitVec_inj.mp
  rw [own_shn_bv]
  have e : ∀ j : Fin 16, ((((4 : Int32) * ((15 : Int32) - Int32.ofInt (j.1 : Int))) &&& 0x3f).toInt64.toUInt64.toBitVec % 64#64).toNat = 4 * (15 - (Int32.ofInt (j.1 : Int)).toInt.toNat) := by decide +kernel
  show q.toBitVec >>> ((((4 : Int32) * ((15 : Int32) - Int32.ofInt (j.1 : Int))) &&& 0x3f).toInt64.toUInt64.toBitVec % 64#64) = _
  rw [BitVec.ushiftRight_eq', e]
theorem own_dig (n : Int32) (h : 0 ≤ n.toInt ∧ n.toInt ≤ 15) : (if n < (10 : Int32) then (if ((own_at own_dg n).toInt8.toInt32) = (((48 : Int32) + n).toInt8.toInt32) then (1 : Int32) else (0 : Int32)) else (if ((own_at own_dg n).toInt8.toInt32) = (((97 : Int32) + (n - (10 : Int32))).toInt8.toInt32) then (1 : Int32) else (0 : Int32))) = 1 := by
  refine own_cases16 n h (fun n => (if n < (10 : Int32) then (if ((own_at own_dg n).toInt8.toInt32) = (((48 : Int32) + n).toInt8.toInt32) then (1 : Int32) else (0 : Int32)) else (if ((own_at own_dg n).toInt8.toInt32) = (((97 : Int32) + (n - (10 : Int32))).toInt8.toInt32) then (1 : Int32) else (0 : Int32))) = 1) ?_
  decide +kernel
theorem own_rep (f : Int32) (n m : Nat) (h : m < n) : (List.replicate n f).getD m 0 = f := by rw [List.getD_eq_getElem?_getD, List.getElem?_replicate, if_pos h]; rfl
theorem own_get (q : Int64) (s f i : Int32) (hs : 0 ≤ s.toInt ∧ s.toInt ≤ 3) (hi : 0 ≤ i.toInt ∧ i.toInt < 20) : own_at (own_txt q s f) i = if i.toInt ≤ s.toInt + 15 ∧ s.toInt ≤ i.toInt then own_dgt (own_shn (s.toInt + 15 - i.toInt).toNat q) else f := by
  have e15 := own_p15 s hs
  have c15 : (s + (15 : Int32)).toNatClampNeg = (s.toInt + 15).toNat := by simp only [Int32.toNatClampNeg, e15]
  have ci : i.toNatClampNeg = i.toInt.toNat := rfl
  unfold own_at own_txt
  rw [own_l20]
  rw [own_wr_at _ _ _ _ _ (by rw [List.length_replicate, c15]; omega) (by rw [c15]; omega), c15, ci]
  by_cases h : i.toInt ≤ s.toInt + 15 ∧ s.toInt ≤ i.toInt
  · rw [if_pos h, if_pos (by omega), show (s.toInt + 15).toNat - i.toInt.toNat = (s.toInt + 15 - i.toInt).toNat by omega]
  · rw [if_neg h, if_neg (by omega)]
    exact own_rep f 20 _ (by omega)
theorem own_ok (q : Int64) (s0 f0 i : Int32) (hi : 0 ≤ i.toInt ∧ i.toInt < 20) : ¬ (f2 i (s0 &&& (3 : Int32)) q (f0.toInt8.toInt32) (own_at (own_txt q (s0 &&& (3 : Int32)) ((f0.toInt8.toInt32).toInt8.toInt32)) i)) = 0 := by
  have hs := own_and3 s0
  rw [own_b8]
  generalize s0 &&& (3 : Int32) = s at *
  generalize f0.toInt8.toInt32 = f
  rw [own_get q s f i hs hi]
  have hk : (i - s).toInt = i.toInt - s.toInt := by rw [Int32.toInt_sub, Int.bmod_eq_of_le (by omega) (by omega)]
  unfold f2
  by_cases h1 : (i - s) < (0 : Int32)
  · rw [if_pos h1]
    rw [Int32.lt_iff_toInt_lt, hk, show (0 : Int32).toInt = 0 from rfl] at h1
    rw [if_neg (show ¬ (i.toInt ≤ s.toInt + 15 ∧ s.toInt ≤ i.toInt) by omega), if_pos rfl]
    decide
  · rw [if_neg h1]
    rw [Int32.lt_iff_toInt_lt, hk, show (0 : Int32).toInt = 0 from rfl] at h1
    by_cases h2 : (15 : Int32) < (i - s)
    · rw [if_pos h2]
      rw [Int32.lt_iff_toInt_lt, hk, show (15 : Int32).toInt = 15 from rfl] at h2
      rw [if_neg (show ¬ (i.toInt ≤ s.toInt + 15 ∧ s.toInt ≤ i.toInt) by omega), if_pos rfl]
      decide
    · rw [if_neg h2]
      rw [Int32.lt_iff_toInt_lt, hk, show (15 : Int32).toInt = 15 from rfl] at h2
      rw [if_pos (show (i.toInt ≤ s.toInt + 15 ∧ s.toInt ≤ i.toInt) by omega)]
      have et : t2_0 i s q = own_nib (own_shn (s.toInt + 15 - i.toInt).toNat q) := by
        unfold t2_0 own_nib
        rw [own_amt q (i - s) (by omega), hk, show 15 - (i.toInt - s.toInt).toNat = (s.toInt + 15 - i.toInt).toNat by omega]
      rw [et]
      have := own_nib_b (own_shn (s.toInt + 15 - i.toInt).toNat q)
      have hd := own_dig (own_nib (own_shn (s.toInt + 15 - i.toInt).toNat q)) (by omega)
      unfold own_dgt
      rw [hd]
      decide

theorem wd0 {Z : State} {a0 : Array Value} (hw : ∀ d ∈ tables_1, d.before a0 Z = true) : (Jvm.Cond.arrayClass Jvm.ClassFile.FieldType.byte).before a0 Z = true := hw _ (List.mem_of_getElem? (i := 0) rfl)
theorem wd1 {Z : State} {a0 : Array Value} (hw : ∀ d ∈ tables_1, d.before a0 Z = true) : (Jvm.Cond.methodLink "com/example/piece/piece/span/HexWritePinLaw" (7 : Nat) ({ cls := "com/example/piece/piece/span/Hex", name := "write", desc := "(J[BI)V" } : Jvm.MethodName)).before a0 Z = true := hw _ (List.mem_of_getElem? (i := 1) rfl)
theorem wd4 {Z : State} {a0 : Array Value} (hw : ∀ d ∈ tables_1, d.before a0 Z = true) : (Jvm.Cond.code ({ cls := "com/example/piece/piece/span/Hex", name := "write", desc := "(J[BI)V" } : Jvm.MethodName) prog_28_method_3_code (7 : Nat) (Option.none : Option Jvm.ClassFile.FieldType)).before a0 Z = true := hw _ (List.mem_of_getElem? (i := 4) rfl)
theorem wd3 {Z : State} {a0 : Array Value} (hw : ∀ d ∈ tables_1, d.before a0 Z = true) : (Jvm.Cond.initialized "com/example/piece/piece/span/Hex").before a0 Z = true := hw _ (List.mem_of_getElem? (i := 3) rfl)
theorem pd0 : parseMethodDescriptor "(J[BI)V" = some ⟨[.long, (.array .byte), .int], none⟩ := by decide +kernel
theorem wd2 {Z : State} {a0 : Array Value} (hw : ∀ d ∈ tables_1, d.before a0 Z = true) : (Jvm.Cond.static ({ cls := "com/example/piece/piece/span/Hex", name := "write", desc := "(J[BI)V" } : Jvm.MethodName)).before a0 Z = true := hw _ (List.mem_of_getElem? (i := 2) rfl)
theorem wd8 {Z : State} {a0 : Array Value} (hw : ∀ d ∈ tables_1, d.before a0 Z = true) : (Jvm.Cond.methodLink "com/example/piece/piece/span/HexWritePinLaw" (13 : Nat) ({ cls := "com/example/piece/piece/span/HexWritePinLaw", name := "ok", desc := "([BIIJB)Z" } : Jvm.MethodName)).before a0 Z = true := hw _ (List.mem_of_getElem? (i := 8) rfl)
theorem wd11 {Z : State} {a0 : Array Value} (hw : ∀ d ∈ tables_1, d.before a0 Z = true) : (Jvm.Cond.code ({ cls := "com/example/piece/piece/span/HexWritePinLaw", name := "ok", desc := "([BIIJB)Z" } : Jvm.MethodName) method_3_code (9 : Nat) (Option.some Jvm.ClassFile.FieldType.boolean)).before a0 Z = true := hw _ (List.mem_of_getElem? (i := 11) rfl)
theorem wd10 {Z : State} {a0 : Array Value} (hw : ∀ d ∈ tables_1, d.before a0 Z = true) : (Jvm.Cond.initialized "com/example/piece/piece/span/HexWritePinLaw").before a0 Z = true := hw _ (List.mem_of_getElem? (i := 10) rfl)
theorem pd1 : parseMethodDescriptor "([BIIJB)Z" = some ⟨[(.array .byte), .int, .int, .long, .byte], some .boolean⟩ := by decide +kernel
theorem wd9 {Z : State} {a0 : Array Value} (hw : ∀ d ∈ tables_1, d.before a0 Z = true) : (Jvm.Cond.static ({ cls := "com/example/piece/piece/span/HexWritePinLaw", name := "ok", desc := "([BIIJB)Z" } : Jvm.MethodName)).before a0 Z = true := hw _ (List.mem_of_getElem? (i := 9) rfl)
def Q0 (Z : State) (q1 : Int64) (p2 : Int32) (p3 : Int32) (w_DIGITS : Addr) (k_D : ClassId) (h0 : Heap) (n0 : Nat) (v : Option Value) (h : Heap) (L : List Loc) : Prop := v = some (.int (1 : Int32)) ∧ Fr n0 L
theorem ef0 (m : MethodId) (x0 : Int64) (x1 : Int32) (x2 : Int32) : entryFrame m #[(.long x0), (.int x1), (.int x2)] maxLocals = mkF m 0 #[.val (.long x0), .second, .val (.int x1), .val (.int x2), .unset, .unset, .unset] [] := by first | (simp [entryFrame, mkF, argsToLocals, Value.category, maxLocals]; done) | rfl
set_option maxRecDepth 65536 in
set_option maxHeartbeats 16000000 in
theorem rm0 (l : Launch) (Z : State) (a0 : Array Value) (hw : ∀ d ∈ tables_1, d.before a0 Z = true) (ws : List Jvm.Cond) (q1 : Int64) (p2 : Int32) (p3 : Int32) (w_DIGITS : Addr) (k_D : ClassId) (h0 : Heap) (n0 : Nat) (Z0 : n0 ≤ h0.size) (S_DIGITS : Sta Z h0 "com/example/piece/piece/span/Hex" "DIGITS" "[B" (.ref w_DIGITS)) (V_DIGITS : Arv Z h0 w_DIGITS k_D .byte (16 : Int32) own_dgv (.int (0 : Int32))) :
    MetFree l x (head1 (Jvm.Cond.code x code maxLocals ret :: ws) room_1) (fun a U => a = #[(.long q1), (.int p2), (.int p3)] ∧ Z.Warmed39 U.vm ∧ U.heap = h0) (fun _ _ _ _ _ => True) (fun _ U o U' => ∃ v L, o = .returned v ∧ Q0 Z q1 p2 p3 w_DIGITS k_D h0 n0 v U'.heap L ∧ FrameEnd U o U' L 16 128) := by
  refine MetFree.of_bodySF (plainFor_of_name pn1) hisR ?_
  intro p e s m args below meth c s₁ Bd hml0 hP hK
  obtain ⟨rfl, hZ, hh⟩ := hP
  have hx := Bd.exec
  have hby := Bd.bytes
  have hml : c.maxLocals = 7 := hml0
  have hown : s.vm.findClass "com/example/piece/piece/span/HexWritePinLaw" = some m.cls := findClass_of_methodNamed Bd.named
  have hnm := (name_of_methodNamed Bd.named Bd.method).1
  have X0 : Stand p l e room_1 s m #[(.long q1), (.int p2), (.int p3)] below meth c s₁ [] 0 0 := Stand.of_body Bd
  have e0 : s₁.heap = h0 := by rw [← hh, Bd.state]; rfl
  have N0 := Fr.nil n0
  have K0 : Keep h0 h0 [] := Keep.refl h0 _
  refine Go.st (P := fun o U' => ∃ v L, o = .returned v ∧ Q0 Z q1 p2 p3 w_DIGITS k_D h0 n0 v U'.heap L ∧ FrameEnd s o U' L 16 128) (fun t k => castTop (ef0 m q1 p2 p3) k) ?_
  show Go _ _ _ (s₁.setTop (mkF m 0 #[.val (.long q1), .second, .val (.int p2), .val (.int p3), .unset, .unset, .unset] [])) _
  refine Go.st (fun t k => XS.iloadN X0.here hx rfl (hb hby at_0) rfl k) ?_
  refine Go.st (fun t k => XS.iconst X0.here hx rfl (hb hby at_1) k) ?_
  refine Go.st (fun t k => XS.iand X0.here hx rfl (hb hby at_2) rfl k) ?_
  show Go _ _ _ (s₁.setTop (mkF m 3 #[.val (.long q1), .second, .val (.int p2), .val (.int p3), .unset, .unset, .unset] [(.int (p2 &&& (3 : Int32)))])) _
  refine Go.st (fun t k => XS.istore X0.here hx rfl (hb hby at_3) rfl (l' := #[.val (.long q1), .second, .val (.int p2), .val (.int p3), .val (.int (p2 &&& (3 : Int32))), .unset, .unset]) rfl k) ?_
  refine Go.st (fun t k => XS.iloadN X0.here hx rfl (hb hby at_5) rfl k) ?_
  refine Go.st (fun t k => XS.i2b X0.here hx rfl (hb hby at_6) rfl k) ?_
  show Go _ _ _ (s₁.setTop (mkF m 7 #[.val (.long q1), .second, .val (.int p2), .val (.int p3), .val (.int (p2 &&& (3 : Int32))), .unset, .unset] [(.int (p3.toInt8.toInt32))])) _
  refine Go.st (fun t k => XS.istore X0.here hx rfl (hb hby at_7) rfl (l' := #[.val (.long q1), .second, .val (.int p2), .val (.int p3), .val (.int (p2 &&& (3 : Int32))), .val (.int (p3.toInt8.toInt32)), .unset]) rfl k) ?_
  refine Go.st (fun t k => XS.bipush X0.here hx rfl (hb hby at_9) k) ?_
  obtain ⟨T1, h1, k1, X1, e1, E1, A1, st1⟩ := newP X0 hx hZ (aty := .byte) (wd0 hw) e0 (g := (mkF m 11 #[.val (.long q1), .second, .val (.int p2), .val (.int p3), .val (.int (p2 &&& (3 : Int32))), .val (.int (p3.toInt8.toInt32)), .unset] [(.int 20)])) rfl (hb hby at_11) rfl (by decide) (cap := 20) (by decide) (by decide) (by decide) (by decide)
  obtain ⟨b1, g1⟩ : ∃ z, z = h0.size := ⟨_, rfl⟩
  rw [← g1] at A1 st1
  refine Go.st st1 ?_
  have ne_w_DIGITS_b1 : w_DIGITS ≠ b1 := Nat.ne_of_lt (Nat.lt_of_lt_of_le V_DIGITS.lt (Nat.le_of_eq g1.symm))
  have g_b1 : n0 ≤ b1 := Nat.le_trans Z0 (Nat.le_of_eq g1.symm)
  have sz_b1 : h0.size ≤ b1 := Nat.le_trans K0.1 (Nat.le_of_eq g1.symm)
  replace S_DIGITS := S_DIGITS.ext E1
  replace V_DIGITS := V_DIGITS.ext E1
  replace K0 := K0.ext E1
  replace Z0 := Nat.le_trans Z0 E1.1
  have V_b1 : Arv Z h1 b1 k1 .byte (20 : Int32) [(.int (0 : Int32)), (.int (0 : Int32)), (.int (0 : Int32)), (.int (0 : Int32)), (.int (0 : Int32)), (.int (0 : Int32)), (.int (0 : Int32)), (.int (0 : Int32)), (.int (0 : Int32)), (.int (0 : Int32)), (.int (0 : Int32)), (.int (0 : Int32)), (.int (0 : Int32)), (.int (0 : Int32)), (.int (0 : Int32)), (.int (0 : Int32)), (.int (0 : Int32)), (.int (0 : Int32)), (.int (0 : Int32)), (.int (0 : Int32))] (.int (0 : Int32)) := (Arv.new A1 (by decide)).pad (pad_rep [] (.int (0 : Int32)) 20)
  show Go _ _ _ (T1.setTop (mkF m 13 #[.val (.long q1), .second, .val (.int p2), .val (.int p3), .val (.int (p2 &&& (3 : Int32))), .val (.int (p3.toInt8.toInt32)), .unset] [(.ref b1)])) _
  refine Go.st (fun t k => XS.dup X1.here hx rfl (hb hby at_13) rfl rfl k) ?_
  refine Go.st (fun t k => XS.iconst X1.here hx rfl (hb hby at_14) k) ?_
  refine Go.st (fun t k => XS.iload X1.here hx rfl (hb hby at_15) rfl k) ?_
  obtain ⟨cl2, Ar2, qq2, Sz2, Ng2, Hs2, Gs2⟩ := id V_b1
  have hin2 : ¬ ((0 : Int32) < 0 ∨ cl2.slots.size ≤ ((0 : Int32)).toNatClampNeg) := inb_of Sz2 ⟨by decide, by decide⟩
  obtain ⟨T3, h3, X3, e3, W3, st3⟩ := stB X1 hx hZ e1 Ar2 (j := (0 : Int32)) hin2 (g := (mkF m 17 #[.val (.long q1), .second, .val (.int p2), .val (.int p3), .val (.int (p2 &&& (3 : Int32))), .val (.int (p3.toInt8.toInt32)), .unset] [(.int (p3.toInt8.toInt32)), (.int 0), (.ref b1), (.ref b1)])) rfl rfl (hb hby at_17)
  refine Go.st st3 ?_
  have N3 := Fr.snoc X3 N0 g_b1
  replace S_DIGITS := S_DIGITS.wr W3
  replace V_DIGITS := V_DIGITS.other W3 ne_w_DIGITS_b1
  replace Z0 := Nat.le_trans Z0 (Nat.le_of_eq W3.size.symm)
  replace K0 := K0.wr W3 (Or.inr sz_b1)
  replace V_b1 : Arv Z h3 b1 k1 .byte (20 : Int32) [(.int ((p3.toInt8.toInt32).toInt8.toInt32)), (.int (0 : Int32)), (.int (0 : Int32)), (.int (0 : Int32)), (.int (0 : Int32)), (.int (0 : Int32)), (.int (0 : Int32)), (.int (0 : Int32)), (.int (0 : Int32)), (.int (0 : Int32)), (.int (0 : Int32)), (.int (0 : Int32)), (.int (0 : Int32)), (.int (0 : Int32)), (.int (0 : Int32)), (.int (0 : Int32)), (.int (0 : Int32)), (.int (0 : Int32)), (.int (0 : Int32)), (.int (0 : Int32))] (.int (0 : Int32)) := Arv.set Ar2 qq2 Sz2 Ng2 Hs2 Gs2 (fits_nar_byte _) W3 0 rfl (Nat.le_of_ble_eq_true rfl)
  show Go _ _ _ (T3.setTop (mkF m 18 #[.val (.long q1), .second, .val (.int p2), .val (.int p3), .val (.int (p2 &&& (3 : Int32))), .val (.int (p3.toInt8.toInt32)), .unset] [(.ref b1)])) _
  refine Go.st (fun t k => XS.dup X3.here hx rfl (hb hby at_18) rfl rfl k) ?_
  refine Go.st (fun t k => XS.iconst X3.here hx rfl (hb hby at_19) k) ?_
  refine Go.st (fun t k => XS.iload X3.here hx rfl (hb hby at_20) rfl k) ?_
  obtain ⟨cl4, Ar4, qq4, Sz4, Ng4, Hs4, Gs4⟩ := id V_b1
  have hin4 : ¬ ((1 : Int32) < 0 ∨ cl4.slots.size ≤ ((1 : Int32)).toNatClampNeg) := inb_of Sz4 ⟨by decide, by decide⟩
  obtain ⟨T5, h5, X5, e5, W5, st5⟩ := stB X3 hx hZ e3 Ar4 (j := (1 : Int32)) hin4 (g := (mkF m 22 #[.val (.long q1), .second, .val (.int p2), .val (.int p3), .val (.int (p2 &&& (3 : Int32))), .val (.int (p3.toInt8.toInt32)), .unset] [(.int (p3.toInt8.toInt32)), (.int 1), (.ref b1), (.ref b1)])) rfl rfl (hb hby at_22)
  refine Go.st st5 ?_
  have N5 := Fr.snoc X5 N3 g_b1
  replace S_DIGITS := S_DIGITS.wr W5
  replace V_DIGITS := V_DIGITS.other W5 ne_w_DIGITS_b1
  replace Z0 := Nat.le_trans Z0 (Nat.le_of_eq W5.size.symm)
  replace K0 := K0.wr W5 (Or.inr sz_b1)
  replace V_b1 : Arv Z h5 b1 k1 .byte (20 : Int32) [(.int ((p3.toInt8.toInt32).toInt8.toInt32)), (.int ((p3.toInt8.toInt32).toInt8.toInt32)), (.int (0 : Int32)), (.int (0 : Int32)), (.int (0 : Int32)), (.int (0 : Int32)), (.int (0 : Int32)), (.int (0 : Int32)), (.int (0 : Int32)), (.int (0 : Int32)), (.int (0 : Int32)), (.int (0 : Int32)), (.int (0 : Int32)), (.int (0 : Int32)), (.int (0 : Int32)), (.int (0 : Int32)), (.int (0 : Int32)), (.int (0 : Int32)), (.int (0 : Int32)), (.int (0 : Int32))] (.int (0 : Int32)) := Arv.set Ar4 qq4 Sz4 Ng4 Hs4 Gs4 (fits_nar_byte _) W5 1 rfl (Nat.le_of_ble_eq_true rfl)
  show Go _ _ _ (T5.setTop (mkF m 23 #[.val (.long q1), .second, .val (.int p2), .val (.int p3), .val (.int (p2 &&& (3 : Int32))), .val (.int (p3.toInt8.toInt32)), .unset] [(.ref b1)])) _
  refine Go.st (fun t k => XS.dup X5.here hx rfl (hb hby at_23) rfl rfl k) ?_
  refine Go.st (fun t k => XS.iconst X5.here hx rfl (hb hby at_24) k) ?_
  refine Go.st (fun t k => XS.iload X5.here hx rfl (hb hby at_25) rfl k) ?_
  obtain ⟨cl6, Ar6, qq6, Sz6, Ng6, Hs6, Gs6⟩ := id V_b1
  have hin6 : ¬ ((2 : Int32) < 0 ∨ cl6.slots.size ≤ ((2 : Int32)).toNatClampNeg) := inb_of Sz6 ⟨by decide, by decide⟩
  obtain ⟨T7, h7, X7, e7, W7, st7⟩ := stB X5 hx hZ e5 Ar6 (j := (2 : Int32)) hin6 (g := (mkF m 27 #[.val (.long q1), .second, .val (.int p2), .val (.int p3), .val (.int (p2 &&& (3 : Int32))), .val (.int (p3.toInt8.toInt32)), .unset] [(.int (p3.toInt8.toInt32)), (.int 2), (.ref b1), (.ref b1)])) rfl rfl (hb hby at_27)
  refine Go.st st7 ?_
  have N7 := Fr.snoc X7 N5 g_b1
  replace S_DIGITS := S_DIGITS.wr W7
  replace V_DIGITS := V_DIGITS.other W7 ne_w_DIGITS_b1
  replace Z0 := Nat.le_trans Z0 (Nat.le_of_eq W7.size.symm)
  replace K0 := K0.wr W7 (Or.inr sz_b1)
  replace V_b1 : Arv Z h7 b1 k1 .byte (20 : Int32) [(.int ((p3.toInt8.toInt32).toInt8.toInt32)), (.int ((p3.toInt8.toInt32).toInt8.toInt32)), (.int ((p3.toInt8.toInt32).toInt8.toInt32)), (.int (0 : Int32)), (.int (0 : Int32)), (.int (0 : Int32)), (.int (0 : Int32)), (.int (0 : Int32)), (.int (0 : Int32)), (.int (0 : Int32)), (.int (0 : Int32)), (.int (0 : Int32)), (.int (0 : Int32)), (.int (0 : Int32)), (.int (0 : Int32)), (.int (0 : Int32)), (.int (0 : Int32)), (.int (0 : Int32)), (.int (0 : Int32)), (.int (0 : Int32))] (.int (0 : Int32)) := Arv.set Ar6 qq6 Sz6 Ng6 Hs6 Gs6 (fits_nar_byte _) W7 2 rfl (Nat.le_of_ble_eq_true rfl)
  show Go _ _ _ (T7.setTop (mkF m 28 #[.val (.long q1), .second, .val (.int p2), .val (.int p3), .val (.int (p2 &&& (3 : Int32))), .val (.int (p3.toInt8.toInt32)), .unset] [(.ref b1)])) _
  refine Go.st (fun t k => XS.dup X7.here hx rfl (hb hby at_28) rfl rfl k) ?_
  refine Go.st (fun t k => XS.iconst X7.here hx rfl (hb hby at_29) k) ?_
  refine Go.st (fun t k => XS.iload X7.here hx rfl (hb hby at_30) rfl k) ?_
  obtain ⟨cl8, Ar8, qq8, Sz8, Ng8, Hs8, Gs8⟩ := id V_b1
  have hin8 : ¬ ((3 : Int32) < 0 ∨ cl8.slots.size ≤ ((3 : Int32)).toNatClampNeg) := inb_of Sz8 ⟨by decide, by decide⟩
  obtain ⟨T9, h9, X9, e9, W9, st9⟩ := stB X7 hx hZ e7 Ar8 (j := (3 : Int32)) hin8 (g := (mkF m 32 #[.val (.long q1), .second, .val (.int p2), .val (.int p3), .val (.int (p2 &&& (3 : Int32))), .val (.int (p3.toInt8.toInt32)), .unset] [(.int (p3.toInt8.toInt32)), (.int 3), (.ref b1), (.ref b1)])) rfl rfl (hb hby at_32)
  refine Go.st st9 ?_
  have N9 := Fr.snoc X9 N7 g_b1
  obtain ⟨LL9, X9, N9⟩ : ∃ LL, Stand p l e room_1 s m #[(.long q1), (.int p2), (.int p3)] below meth c T9 LL 1 20 ∧ Fr n0 LL := ⟨_, X9, N9⟩
  replace S_DIGITS := S_DIGITS.wr W9
  replace V_DIGITS := V_DIGITS.other W9 ne_w_DIGITS_b1
  replace Z0 := Nat.le_trans Z0 (Nat.le_of_eq W9.size.symm)
  replace K0 := K0.wr W9 (Or.inr sz_b1)
  replace V_b1 : Arv Z h9 b1 k1 .byte (20 : Int32) [(.int ((p3.toInt8.toInt32).toInt8.toInt32)), (.int ((p3.toInt8.toInt32).toInt8.toInt32)), (.int ((p3.toInt8.toInt32).toInt8.toInt32)), (.int ((p3.toInt8.toInt32).toInt8.toInt32)), (.int (0 : Int32)), (.int (0 : Int32)), (.int (0 : Int32)), (.int (0 : Int32)), (.int (0 : Int32)), (.int (0 : Int32)), (.int (0 : Int32)), (.int (0 : Int32)), (.int (0 : Int32)), (.int (0 : Int32)), (.int (0 : Int32)), (.int (0 : Int32)), (.int (0 : Int32)), (.int (0 : Int32)), (.int (0 : Int32)), (.int (0 : Int32))] (.int (0 : Int32)) := Arv.set Ar8 qq8 Sz8 Ng8 Hs8 Gs8 (fits_nar_byte _) W9 3 rfl (Nat.le_of_ble_eq_true rfl)
  show Go _ _ _ (T9.setTop (mkF m 33 #[.val (.long q1), .second, .val (.int p2), .val (.int p3), .val (.int (p2 &&& (3 : Int32))), .val (.int (p3.toInt8.toInt32)), .unset] [(.ref b1)])) _
  refine Go.st (fun t k => XS.dup X9.here hx rfl (hb hby at_33) rfl rfl k) ?_
  refine Go.st (fun t k => XS.iconst X9.here hx rfl (hb hby at_34) k) ?_
  refine Go.st (fun t k => XS.iload X9.here hx rfl (hb hby at_35) rfl k) ?_
  obtain ⟨cl10, Ar10, qq10, Sz10, Ng10, Hs10, Gs10⟩ := id V_b1
  have hin10 : ¬ ((4 : Int32) < 0 ∨ cl10.slots.size ≤ ((4 : Int32)).toNatClampNeg) := inb_of Sz10 ⟨by decide, by decide⟩
  obtain ⟨T11, h11, X11, e11, W11, st11⟩ := stB X9 hx hZ e9 Ar10 (j := (4 : Int32)) hin10 (g := (mkF m 37 #[.val (.long q1), .second, .val (.int p2), .val (.int p3), .val (.int (p2 &&& (3 : Int32))), .val (.int (p3.toInt8.toInt32)), .unset] [(.int (p3.toInt8.toInt32)), (.int 4), (.ref b1), (.ref b1)])) rfl rfl (hb hby at_37)
  refine Go.st st11 ?_
  have N11 := Fr.snoc X11 N9 g_b1
  replace S_DIGITS := S_DIGITS.wr W11
  replace V_DIGITS := V_DIGITS.other W11 ne_w_DIGITS_b1
  replace Z0 := Nat.le_trans Z0 (Nat.le_of_eq W11.size.symm)
  replace K0 := K0.wr W11 (Or.inr sz_b1)
  replace V_b1 : Arv Z h11 b1 k1 .byte (20 : Int32) [(.int ((p3.toInt8.toInt32).toInt8.toInt32)), (.int ((p3.toInt8.toInt32).toInt8.toInt32)), (.int ((p3.toInt8.toInt32).toInt8.toInt32)), (.int ((p3.toInt8.toInt32).toInt8.toInt32)), (.int ((p3.toInt8.toInt32).toInt8.toInt32)), (.int (0 : Int32)), (.int (0 : Int32)), (.int (0 : Int32)), (.int (0 : Int32)), (.int (0 : Int32)), (.int (0 : Int32)), (.int (0 : Int32)), (.int (0 : Int32)), (.int (0 : Int32)), (.int (0 : Int32)), (.int (0 : Int32)), (.int (0 : Int32)), (.int (0 : Int32)), (.int (0 : Int32)), (.int (0 : Int32))] (.int (0 : Int32)) := Arv.set Ar10 qq10 Sz10 Ng10 Hs10 Gs10 (fits_nar_byte _) W11 4 rfl (Nat.le_of_ble_eq_true rfl)
  show Go _ _ _ (T11.setTop (mkF m 38 #[.val (.long q1), .second, .val (.int p2), .val (.int p3), .val (.int (p2 &&& (3 : Int32))), .val (.int (p3.toInt8.toInt32)), .unset] [(.ref b1)])) _
  refine Go.st (fun t k => XS.dup X11.here hx rfl (hb hby at_38) rfl rfl k) ?_
  refine Go.st (fun t k => XS.iconst X11.here hx rfl (hb hby at_39) k) ?_
  refine Go.st (fun t k => XS.iload X11.here hx rfl (hb hby at_40) rfl k) ?_
  obtain ⟨cl12, Ar12, qq12, Sz12, Ng12, Hs12, Gs12⟩ := id V_b1
  have hin12 : ¬ ((5 : Int32) < 0 ∨ cl12.slots.size ≤ ((5 : Int32)).toNatClampNeg) := inb_of Sz12 ⟨by decide, by decide⟩
  obtain ⟨T13, h13, X13, e13, W13, st13⟩ := stB X11 hx hZ e11 Ar12 (j := (5 : Int32)) hin12 (g := (mkF m 42 #[.val (.long q1), .second, .val (.int p2), .val (.int p3), .val (.int (p2 &&& (3 : Int32))), .val (.int (p3.toInt8.toInt32)), .unset] [(.int (p3.toInt8.toInt32)), (.int 5), (.ref b1), (.ref b1)])) rfl rfl (hb hby at_42)
  refine Go.st st13 ?_
  have N13 := Fr.snoc X13 N11 g_b1
  replace S_DIGITS := S_DIGITS.wr W13
  replace V_DIGITS := V_DIGITS.other W13 ne_w_DIGITS_b1
  replace Z0 := Nat.le_trans Z0 (Nat.le_of_eq W13.size.symm)
  replace K0 := K0.wr W13 (Or.inr sz_b1)
  replace V_b1 : Arv Z h13 b1 k1 .byte (20 : Int32) [(.int ((p3.toInt8.toInt32).toInt8.toInt32)), (.int ((p3.toInt8.toInt32).toInt8.toInt32)), (.int ((p3.toInt8.toInt32).toInt8.toInt32)), (.int ((p3.toInt8.toInt32).toInt8.toInt32)), (.int ((p3.toInt8.toInt32).toInt8.toInt32)), (.int ((p3.toInt8.toInt32).toInt8.toInt32)), (.int (0 : Int32)), (.int (0 : Int32)), (.int (0 : Int32)), (.int (0 : Int32)), (.int (0 : Int32)), (.int (0 : Int32)), (.int (0 : Int32)), (.int (0 : Int32)), (.int (0 : Int32)), (.int (0 : Int32)), (.int (0 : Int32)), (.int (0 : Int32)), (.int (0 : Int32)), (.int (0 : Int32))] (.int (0 : Int32)) := Arv.set Ar12 qq12 Sz12 Ng12 Hs12 Gs12 (fits_nar_byte _) W13 5 rfl (Nat.le_of_ble_eq_true rfl)
  show Go _ _ _ (T13.setTop (mkF m 43 #[.val (.long q1), .second, .val (.int p2), .val (.int p3), .val (.int (p2 &&& (3 : Int32))), .val (.int (p3.toInt8.toInt32)), .unset] [(.ref b1)])) _
  refine Go.st (fun t k => XS.dup X13.here hx rfl (hb hby at_43) rfl rfl k) ?_
  refine Go.st (fun t k => XS.bipush X13.here hx rfl (hb hby at_44) k) ?_
  refine Go.st (fun t k => XS.iload X13.here hx rfl (hb hby at_46) rfl k) ?_
  obtain ⟨cl14, Ar14, qq14, Sz14, Ng14, Hs14, Gs14⟩ := id V_b1
  have hin14 : ¬ ((6 : Int32) < 0 ∨ cl14.slots.size ≤ ((6 : Int32)).toNatClampNeg) := inb_of Sz14 ⟨by decide, by decide⟩
  obtain ⟨T15, h15, X15, e15, W15, st15⟩ := stB X13 hx hZ e13 Ar14 (j := (6 : Int32)) hin14 (g := (mkF m 48 #[.val (.long q1), .second, .val (.int p2), .val (.int p3), .val (.int (p2 &&& (3 : Int32))), .val (.int (p3.toInt8.toInt32)), .unset] [(.int (p3.toInt8.toInt32)), (.int 6), (.ref b1), (.ref b1)])) rfl rfl (hb hby at_48)
  refine Go.st st15 ?_
  have N15 := Fr.snoc X15 N13 g_b1
  replace S_DIGITS := S_DIGITS.wr W15
  replace V_DIGITS := V_DIGITS.other W15 ne_w_DIGITS_b1
  replace Z0 := Nat.le_trans Z0 (Nat.le_of_eq W15.size.symm)
  replace K0 := K0.wr W15 (Or.inr sz_b1)
  replace V_b1 : Arv Z h15 b1 k1 .byte (20 : Int32) [(.int ((p3.toInt8.toInt32).toInt8.toInt32)), (.int ((p3.toInt8.toInt32).toInt8.toInt32)), (.int ((p3.toInt8.toInt32).toInt8.toInt32)), (.int ((p3.toInt8.toInt32).toInt8.toInt32)), (.int ((p3.toInt8.toInt32).toInt8.toInt32)), (.int ((p3.toInt8.toInt32).toInt8.toInt32)), (.int ((p3.toInt8.toInt32).toInt8.toInt32)), (.int (0 : Int32)), (.int (0 : Int32)), (.int (0 : Int32)), (.int (0 : Int32)), (.int (0 : Int32)), (.int (0 : Int32)), (.int (0 : Int32)), (.int (0 : Int32)), (.int (0 : Int32)), (.int (0 : Int32)), (.int (0 : Int32)), (.int (0 : Int32)), (.int (0 : Int32))] (.int (0 : Int32)) := Arv.set Ar14 qq14 Sz14 Ng14 Hs14 Gs14 (fits_nar_byte _) W15 6 rfl (Nat.le_of_ble_eq_true rfl)
  show Go _ _ _ (T15.setTop (mkF m 49 #[.val (.long q1), .second, .val (.int p2), .val (.int p3), .val (.int (p2 &&& (3 : Int32))), .val (.int (p3.toInt8.toInt32)), .unset] [(.ref b1)])) _
  refine Go.st (fun t k => XS.dup X15.here hx rfl (hb hby at_49) rfl rfl k) ?_
  refine Go.st (fun t k => XS.bipush X15.here hx rfl (hb hby at_50) k) ?_
  refine Go.st (fun t k => XS.iload X15.here hx rfl (hb hby at_52) rfl k) ?_
  obtain ⟨cl16, Ar16, qq16, Sz16, Ng16, Hs16, Gs16⟩ := id V_b1
  have hin16 : ¬ ((7 : Int32) < 0 ∨ cl16.slots.size ≤ ((7 : Int32)).toNatClampNeg) := inb_of Sz16 ⟨by decide, by decide⟩
  obtain ⟨T17, h17, X17, e17, W17, st17⟩ := stB X15 hx hZ e15 Ar16 (j := (7 : Int32)) hin16 (g := (mkF m 54 #[.val (.long q1), .second, .val (.int p2), .val (.int p3), .val (.int (p2 &&& (3 : Int32))), .val (.int (p3.toInt8.toInt32)), .unset] [(.int (p3.toInt8.toInt32)), (.int 7), (.ref b1), (.ref b1)])) rfl rfl (hb hby at_54)
  refine Go.st st17 ?_
  have N17 := Fr.snoc X17 N15 g_b1
  obtain ⟨LL17, X17, N17⟩ : ∃ LL, Stand p l e room_1 s m #[(.long q1), (.int p2), (.int p3)] below meth c T17 LL 1 20 ∧ Fr n0 LL := ⟨_, X17, N17⟩
  replace S_DIGITS := S_DIGITS.wr W17
  replace V_DIGITS := V_DIGITS.other W17 ne_w_DIGITS_b1
  replace Z0 := Nat.le_trans Z0 (Nat.le_of_eq W17.size.symm)
  replace K0 := K0.wr W17 (Or.inr sz_b1)
  replace V_b1 : Arv Z h17 b1 k1 .byte (20 : Int32) [(.int ((p3.toInt8.toInt32).toInt8.toInt32)), (.int ((p3.toInt8.toInt32).toInt8.toInt32)), (.int ((p3.toInt8.toInt32).toInt8.toInt32)), (.int ((p3.toInt8.toInt32).toInt8.toInt32)), (.int ((p3.toInt8.toInt32).toInt8.toInt32)), (.int ((p3.toInt8.toInt32).toInt8.toInt32)), (.int ((p3.toInt8.toInt32).toInt8.toInt32)), (.int ((p3.toInt8.toInt32).toInt8.toInt32)), (.int (0 : Int32)), (.int (0 : Int32)), (.int (0 : Int32)), (.int (0 : Int32)), (.int (0 : Int32)), (.int (0 : Int32)), (.int (0 : Int32)), (.int (0 : Int32)), (.int (0 : Int32)), (.int (0 : Int32)), (.int (0 : Int32)), (.int (0 : Int32))] (.int (0 : Int32)) := Arv.set Ar16 qq16 Sz16 Ng16 Hs16 Gs16 (fits_nar_byte _) W17 7 rfl (Nat.le_of_ble_eq_true rfl)
  show Go _ _ _ (T17.setTop (mkF m 55 #[.val (.long q1), .second, .val (.int p2), .val (.int p3), .val (.int (p2 &&& (3 : Int32))), .val (.int (p3.toInt8.toInt32)), .unset] [(.ref b1)])) _
  refine Go.st (fun t k => XS.dup X17.here hx rfl (hb hby at_55) rfl rfl k) ?_
  refine Go.st (fun t k => XS.bipush X17.here hx rfl (hb hby at_56) k) ?_
  refine Go.st (fun t k => XS.iload X17.here hx rfl (hb hby at_58) rfl k) ?_
  obtain ⟨cl18, Ar18, qq18, Sz18, Ng18, Hs18, Gs18⟩ := id V_b1
  have hin18 : ¬ ((8 : Int32) < 0 ∨ cl18.slots.size ≤ ((8 : Int32)).toNatClampNeg) := inb_of Sz18 ⟨by decide, by decide⟩
  obtain ⟨T19, h19, X19, e19, W19, st19⟩ := stB X17 hx hZ e17 Ar18 (j := (8 : Int32)) hin18 (g := (mkF m 60 #[.val (.long q1), .second, .val (.int p2), .val (.int p3), .val (.int (p2 &&& (3 : Int32))), .val (.int (p3.toInt8.toInt32)), .unset] [(.int (p3.toInt8.toInt32)), (.int 8), (.ref b1), (.ref b1)])) rfl rfl (hb hby at_60)
  refine Go.st st19 ?_
  have N19 := Fr.snoc X19 N17 g_b1
  replace S_DIGITS := S_DIGITS.wr W19
  replace V_DIGITS := V_DIGITS.other W19 ne_w_DIGITS_b1
  replace Z0 := Nat.le_trans Z0 (Nat.le_of_eq W19.size.symm)
  replace K0 := K0.wr W19 (Or.inr sz_b1)
  replace V_b1 : Arv Z h19 b1 k1 .byte (20 : Int32) [(.int ((p3.toInt8.toInt32).toInt8.toInt32)), (.int ((p3.toInt8.toInt32).toInt8.toInt32)), (.int ((p3.toInt8.toInt32).toInt8.toInt32)), (.int ((p3.toInt8.toInt32).toInt8.toInt32)), (.int ((p3.toInt8.toInt32).toInt8.toInt32)), (.int ((p3.toInt8.toInt32).toInt8.toInt32)), (.int ((p3.toInt8.toInt32).toInt8.toInt32)), (.int ((p3.toInt8.toInt32).toInt8.toInt32)), (.int ((p3.toInt8.toInt32).toInt8.toInt32)), (.int (0 : Int32)), (.int (0 : Int32)), (.int (0 : Int32)), (.int (0 : Int32)), (.int (0 : Int32)), (.int (0 : Int32)), (.int (0 : Int32)), (.int (0 : Int32)), (.int (0 : Int32)), (.int (0 : Int32)), (.int (0 : Int32))] (.int (0 : Int32)) := Arv.set Ar18 qq18 Sz18 Ng18 Hs18 Gs18 (fits_nar_byte _) W19 8 rfl (Nat.le_of_ble_eq_true rfl)
  show Go _ _ _ (T19.setTop (mkF m 61 #[.val (.long q1), .second, .val (.int p2), .val (.int p3), .val (.int (p2 &&& (3 : Int32))), .val (.int (p3.toInt8.toInt32)), .unset] [(.ref b1)])) _
  refine Go.st (fun t k => XS.dup X19.here hx rfl (hb hby at_61) rfl rfl k) ?_
  refine Go.st (fun t k => XS.bipush X19.here hx rfl (hb hby at_62) k) ?_
  refine Go.st (fun t k => XS.iload X19.here hx rfl (hb hby at_64) rfl k) ?_
  obtain ⟨cl20, Ar20, qq20, Sz20, Ng20, Hs20, Gs20⟩ := id V_b1
  have hin20 : ¬ ((9 : Int32) < 0 ∨ cl20.slots.size ≤ ((9 : Int32)).toNatClampNeg) := inb_of Sz20 ⟨by decide, by decide⟩
  obtain ⟨T21, h21, X21, e21, W21, st21⟩ := stB X19 hx hZ e19 Ar20 (j := (9 : Int32)) hin20 (g := (mkF m 66 #[.val (.long q1), .second, .val (.int p2), .val (.int p3), .val (.int (p2 &&& (3 : Int32))), .val (.int (p3.toInt8.toInt32)), .unset] [(.int (p3.toInt8.toInt32)), (.int 9), (.ref b1), (.ref b1)])) rfl rfl (hb hby at_66)
  refine Go.st st21 ?_
  have N21 := Fr.snoc X21 N19 g_b1
  replace S_DIGITS := S_DIGITS.wr W21
  replace V_DIGITS := V_DIGITS.other W21 ne_w_DIGITS_b1
  replace Z0 := Nat.le_trans Z0 (Nat.le_of_eq W21.size.symm)
  replace K0 := K0.wr W21 (Or.inr sz_b1)
  replace V_b1 : Arv Z h21 b1 k1 .byte (20 : Int32) [(.int ((p3.toInt8.toInt32).toInt8.toInt32)), (.int ((p3.toInt8.toInt32).toInt8.toInt32)), (.int ((p3.toInt8.toInt32).toInt8.toInt32)), (.int ((p3.toInt8.toInt32).toInt8.toInt32)), (.int ((p3.toInt8.toInt32).toInt8.toInt32)), (.int ((p3.toInt8.toInt32).toInt8.toInt32)), (.int ((p3.toInt8.toInt32).toInt8.toInt32)), (.int ((p3.toInt8.toInt32).toInt8.toInt32)), (.int ((p3.toInt8.toInt32).toInt8.toInt32)), (.int ((p3.toInt8.toInt32).toInt8.toInt32)), (.int (0 : Int32)), (.int (0 : Int32)), (.int (0 : Int32)), (.int (0 : Int32)), (.int (0 : Int32)), (.int (0 : Int32)), (.int (0 : Int32)), (.int (0 : Int32)), (.int (0 : Int32)), (.int (0 : Int32))] (.int (0 : Int32)) := Arv.set Ar20 qq20 Sz20 Ng20 Hs20 Gs20 (fits_nar_byte _) W21 9 rfl (Nat.le_of_ble_eq_true rfl)
  show Go _ _ _ (T21.setTop (mkF m 67 #[.val (.long q1), .second, .val (.int p2), .val (.int p3), .val (.int (p2 &&& (3 : Int32))), .val (.int (p3.toInt8.toInt32)), .unset] [(.ref b1)])) _
  refine Go.st (fun t k => XS.dup X21.here hx rfl (hb hby at_67) rfl rfl k) ?_
  refine Go.st (fun t k => XS.bipush X21.here hx rfl (hb hby at_68) k) ?_
  refine Go.st (fun t k => XS.iload X21.here hx rfl (hb hby at_70) rfl k) ?_
  obtain ⟨cl22, Ar22, qq22, Sz22, Ng22, Hs22, Gs22⟩ := id V_b1
  have hin22 : ¬ ((10 : Int32) < 0 ∨ cl22.slots.size ≤ ((10 : Int32)).toNatClampNeg) := inb_of Sz22 ⟨by decide, by decide⟩
  obtain ⟨T23, h23, X23, e23, W23, st23⟩ := stB X21 hx hZ e21 Ar22 (j := (10 : Int32)) hin22 (g := (mkF m 72 #[.val (.long q1), .second, .val (.int p2), .val (.int p3), .val (.int (p2 &&& (3 : Int32))), .val (.int (p3.toInt8.toInt32)), .unset] [(.int (p3.toInt8.toInt32)), (.int 10), (.ref b1), (.ref b1)])) rfl rfl (hb hby at_72)
  refine Go.st st23 ?_
  have N23 := Fr.snoc X23 N21 g_b1
  replace S_DIGITS := S_DIGITS.wr W23
  replace V_DIGITS := V_DIGITS.other W23 ne_w_DIGITS_b1
  replace Z0 := Nat.le_trans Z0 (Nat.le_of_eq W23.size.symm)
  replace K0 := K0.wr W23 (Or.inr sz_b1)
  replace V_b1 : Arv Z h23 b1 k1 .byte (20 : Int32) [(.int ((p3.toInt8.toInt32).toInt8.toInt32)), (.int ((p3.toInt8.toInt32).toInt8.toInt32)), (.int ((p3.toInt8.toInt32).toInt8.toInt32)), (.int ((p3.toInt8.toInt32).toInt8.toInt32)), (.int ((p3.toInt8.toInt32).toInt8.toInt32)), (.int ((p3.toInt8.toInt32).toInt8.toInt32)), (.int ((p3.toInt8.toInt32).toInt8.toInt32)), (.int ((p3.toInt8.toInt32).toInt8.toInt32)), (.int ((p3.toInt8.toInt32).toInt8.toInt32)), (.int ((p3.toInt8.toInt32).toInt8.toInt32)), (.int ((p3.toInt8.toInt32).toInt8.toInt32)), (.int (0 : Int32)), (.int (0 : Int32)), (.int (0 : Int32)), (.int (0 : Int32)), (.int (0 : Int32)), (.int (0 : Int32)), (.int (0 : Int32)), (.int (0 : Int32)), (.int (0 : Int32))] (.int (0 : Int32)) := Arv.set Ar22 qq22 Sz22 Ng22 Hs22 Gs22 (fits_nar_byte _) W23 10 rfl (Nat.le_of_ble_eq_true rfl)
  show Go _ _ _ (T23.setTop (mkF m 73 #[.val (.long q1), .second, .val (.int p2), .val (.int p3), .val (.int (p2 &&& (3 : Int32))), .val (.int (p3.toInt8.toInt32)), .unset] [(.ref b1)])) _
  refine Go.st (fun t k => XS.dup X23.here hx rfl (hb hby at_73) rfl rfl k) ?_
  refine Go.st (fun t k => XS.bipush X23.here hx rfl (hb hby at_74) k) ?_
  refine Go.st (fun t k => XS.iload X23.here hx rfl (hb hby at_76) rfl k) ?_
  obtain ⟨cl24, Ar24, qq24, Sz24, Ng24, Hs24, Gs24⟩ := id V_b1
  have hin24 : ¬ ((11 : Int32) < 0 ∨ cl24.slots.size ≤ ((11 : Int32)).toNatClampNeg) := inb_of Sz24 ⟨by decide, by decide⟩
  obtain ⟨T25, h25, X25, e25, W25, st25⟩ := stB X23 hx hZ e23 Ar24 (j := (11 : Int32)) hin24 (g := (mkF m 78 #[.val (.long q1), .second, .val (.int p2), .val (.int p3), .val (.int (p2 &&& (3 : Int32))), .val (.int (p3.toInt8.toInt32)), .unset] [(.int (p3.toInt8.toInt32)), (.int 11), (.ref b1), (.ref b1)])) rfl rfl (hb hby at_78)
  refine Go.st st25 ?_
  have N25 := Fr.snoc X25 N23 g_b1
  obtain ⟨LL25, X25, N25⟩ : ∃ LL, Stand p l e room_1 s m #[(.long q1), (.int p2), (.int p3)] below meth c T25 LL 1 20 ∧ Fr n0 LL := ⟨_, X25, N25⟩
  replace S_DIGITS := S_DIGITS.wr W25
  replace V_DIGITS := V_DIGITS.other W25 ne_w_DIGITS_b1
  replace Z0 := Nat.le_trans Z0 (Nat.le_of_eq W25.size.symm)
  replace K0 := K0.wr W25 (Or.inr sz_b1)
  replace V_b1 : Arv Z h25 b1 k1 .byte (20 : Int32) [(.int ((p3.toInt8.toInt32).toInt8.toInt32)), (.int ((p3.toInt8.toInt32).toInt8.toInt32)), (.int ((p3.toInt8.toInt32).toInt8.toInt32)), (.int ((p3.toInt8.toInt32).toInt8.toInt32)), (.int ((p3.toInt8.toInt32).toInt8.toInt32)), (.int ((p3.toInt8.toInt32).toInt8.toInt32)), (.int ((p3.toInt8.toInt32).toInt8.toInt32)), (.int ((p3.toInt8.toInt32).toInt8.toInt32)), (.int ((p3.toInt8.toInt32).toInt8.toInt32)), (.int ((p3.toInt8.toInt32).toInt8.toInt32)), (.int ((p3.toInt8.toInt32).toInt8.toInt32)), (.int ((p3.toInt8.toInt32).toInt8.toInt32)), (.int (0 : Int32)), (.int (0 : Int32)), (.int (0 : Int32)), (.int (0 : Int32)), (.int (0 : Int32)), (.int (0 : Int32)), (.int (0 : Int32)), (.int (0 : Int32))] (.int (0 : Int32)) := Arv.set Ar24 qq24 Sz24 Ng24 Hs24 Gs24 (fits_nar_byte _) W25 11 rfl (Nat.le_of_ble_eq_true rfl)
  show Go _ _ _ (T25.setTop (mkF m 79 #[.val (.long q1), .second, .val (.int p2), .val (.int p3), .val (.int (p2 &&& (3 : Int32))), .val (.int (p3.toInt8.toInt32)), .unset] [(.ref b1)])) _
  refine Go.st (fun t k => XS.dup X25.here hx rfl (hb hby at_79) rfl rfl k) ?_
  refine Go.st (fun t k => XS.bipush X25.here hx rfl (hb hby at_80) k) ?_
  refine Go.st (fun t k => XS.iload X25.here hx rfl (hb hby at_82) rfl k) ?_
  obtain ⟨cl26, Ar26, qq26, Sz26, Ng26, Hs26, Gs26⟩ := id V_b1
  have hin26 : ¬ ((12 : Int32) < 0 ∨ cl26.slots.size ≤ ((12 : Int32)).toNatClampNeg) := inb_of Sz26 ⟨by decide, by decide⟩
  obtain ⟨T27, h27, X27, e27, W27, st27⟩ := stB X25 hx hZ e25 Ar26 (j := (12 : Int32)) hin26 (g := (mkF m 84 #[.val (.long q1), .second, .val (.int p2), .val (.int p3), .val (.int (p2 &&& (3 : Int32))), .val (.int (p3.toInt8.toInt32)), .unset] [(.int (p3.toInt8.toInt32)), (.int 12), (.ref b1), (.ref b1)])) rfl rfl (hb hby at_84)
  refine Go.st st27 ?_
  have N27 := Fr.snoc X27 N25 g_b1
  replace S_DIGITS := S_DIGITS.wr W27
  replace V_DIGITS := V_DIGITS.other W27 ne_w_DIGITS_b1
  replace Z0 := Nat.le_trans Z0 (Nat.le_of_eq W27.size.symm)
  replace K0 := K0.wr W27 (Or.inr sz_b1)
  replace V_b1 : Arv Z h27 b1 k1 .byte (20 : Int32) [(.int ((p3.toInt8.toInt32).toInt8.toInt32)), (.int ((p3.toInt8.toInt32).toInt8.toInt32)), (.int ((p3.toInt8.toInt32).toInt8.toInt32)), (.int ((p3.toInt8.toInt32).toInt8.toInt32)), (.int ((p3.toInt8.toInt32).toInt8.toInt32)), (.int ((p3.toInt8.toInt32).toInt8.toInt32)), (.int ((p3.toInt8.toInt32).toInt8.toInt32)), (.int ((p3.toInt8.toInt32).toInt8.toInt32)), (.int ((p3.toInt8.toInt32).toInt8.toInt32)), (.int ((p3.toInt8.toInt32).toInt8.toInt32)), (.int ((p3.toInt8.toInt32).toInt8.toInt32)), (.int ((p3.toInt8.toInt32).toInt8.toInt32)), (.int ((p3.toInt8.toInt32).toInt8.toInt32)), (.int (0 : Int32)), (.int (0 : Int32)), (.int (0 : Int32)), (.int (0 : Int32)), (.int (0 : Int32)), (.int (0 : Int32)), (.int (0 : Int32))] (.int (0 : Int32)) := Arv.set Ar26 qq26 Sz26 Ng26 Hs26 Gs26 (fits_nar_byte _) W27 12 rfl (Nat.le_of_ble_eq_true rfl)
  show Go _ _ _ (T27.setTop (mkF m 85 #[.val (.long q1), .second, .val (.int p2), .val (.int p3), .val (.int (p2 &&& (3 : Int32))), .val (.int (p3.toInt8.toInt32)), .unset] [(.ref b1)])) _
  refine Go.st (fun t k => XS.dup X27.here hx rfl (hb hby at_85) rfl rfl k) ?_
  refine Go.st (fun t k => XS.bipush X27.here hx rfl (hb hby at_86) k) ?_
  refine Go.st (fun t k => XS.iload X27.here hx rfl (hb hby at_88) rfl k) ?_
  obtain ⟨cl28, Ar28, qq28, Sz28, Ng28, Hs28, Gs28⟩ := id V_b1
  have hin28 : ¬ ((13 : Int32) < 0 ∨ cl28.slots.size ≤ ((13 : Int32)).toNatClampNeg) := inb_of Sz28 ⟨by decide, by decide⟩
  obtain ⟨T29, h29, X29, e29, W29, st29⟩ := stB X27 hx hZ e27 Ar28 (j := (13 : Int32)) hin28 (g := (mkF m 90 #[.val (.long q1), .second, .val (.int p2), .val (.int p3), .val (.int (p2 &&& (3 : Int32))), .val (.int (p3.toInt8.toInt32)), .unset] [(.int (p3.toInt8.toInt32)), (.int 13), (.ref b1), (.ref b1)])) rfl rfl (hb hby at_90)
  refine Go.st st29 ?_
  have N29 := Fr.snoc X29 N27 g_b1
  replace S_DIGITS := S_DIGITS.wr W29
  replace V_DIGITS := V_DIGITS.other W29 ne_w_DIGITS_b1
  replace Z0 := Nat.le_trans Z0 (Nat.le_of_eq W29.size.symm)
  replace K0 := K0.wr W29 (Or.inr sz_b1)
  replace V_b1 : Arv Z h29 b1 k1 .byte (20 : Int32) [(.int ((p3.toInt8.toInt32).toInt8.toInt32)), (.int ((p3.toInt8.toInt32).toInt8.toInt32)), (.int ((p3.toInt8.toInt32).toInt8.toInt32)), (.int ((p3.toInt8.toInt32).toInt8.toInt32)), (.int ((p3.toInt8.toInt32).toInt8.toInt32)), (.int ((p3.toInt8.toInt32).toInt8.toInt32)), (.int ((p3.toInt8.toInt32).toInt8.toInt32)), (.int ((p3.toInt8.toInt32).toInt8.toInt32)), (.int ((p3.toInt8.toInt32).toInt8.toInt32)), (.int ((p3.toInt8.toInt32).toInt8.toInt32)), (.int ((p3.toInt8.toInt32).toInt8.toInt32)), (.int ((p3.toInt8.toInt32).toInt8.toInt32)), (.int ((p3.toInt8.toInt32).toInt8.toInt32)), (.int ((p3.toInt8.toInt32).toInt8.toInt32)), (.int (0 : Int32)), (.int (0 : Int32)), (.int (0 : Int32)), (.int (0 : Int32)), (.int (0 : Int32)), (.int (0 : Int32))] (.int (0 : Int32)) := Arv.set Ar28 qq28 Sz28 Ng28 Hs28 Gs28 (fits_nar_byte _) W29 13 rfl (Nat.le_of_ble_eq_true rfl)
  show Go _ _ _ (T29.setTop (mkF m 91 #[.val (.long q1), .second, .val (.int p2), .val (.int p3), .val (.int (p2 &&& (3 : Int32))), .val (.int (p3.toInt8.toInt32)), .unset] [(.ref b1)])) _
  refine Go.st (fun t k => XS.dup X29.here hx rfl (hb hby at_91) rfl rfl k) ?_
  refine Go.st (fun t k => XS.bipush X29.here hx rfl (hb hby at_92) k) ?_
  refine Go.st (fun t k => XS.iload X29.here hx rfl (hb hby at_94) rfl k) ?_
  obtain ⟨cl30, Ar30, qq30, Sz30, Ng30, Hs30, Gs30⟩ := id V_b1
  have hin30 : ¬ ((14 : Int32) < 0 ∨ cl30.slots.size ≤ ((14 : Int32)).toNatClampNeg) := inb_of Sz30 ⟨by decide, by decide⟩
  obtain ⟨T31, h31, X31, e31, W31, st31⟩ := stB X29 hx hZ e29 Ar30 (j := (14 : Int32)) hin30 (g := (mkF m 96 #[.val (.long q1), .second, .val (.int p2), .val (.int p3), .val (.int (p2 &&& (3 : Int32))), .val (.int (p3.toInt8.toInt32)), .unset] [(.int (p3.toInt8.toInt32)), (.int 14), (.ref b1), (.ref b1)])) rfl rfl (hb hby at_96)
  refine Go.st st31 ?_
  have N31 := Fr.snoc X31 N29 g_b1
  replace S_DIGITS := S_DIGITS.wr W31
  replace V_DIGITS := V_DIGITS.other W31 ne_w_DIGITS_b1
  replace Z0 := Nat.le_trans Z0 (Nat.le_of_eq W31.size.symm)
  replace K0 := K0.wr W31 (Or.inr sz_b1)
  replace V_b1 : Arv Z h31 b1 k1 .byte (20 : Int32) [(.int ((p3.toInt8.toInt32).toInt8.toInt32)), (.int ((p3.toInt8.toInt32).toInt8.toInt32)), (.int ((p3.toInt8.toInt32).toInt8.toInt32)), (.int ((p3.toInt8.toInt32).toInt8.toInt32)), (.int ((p3.toInt8.toInt32).toInt8.toInt32)), (.int ((p3.toInt8.toInt32).toInt8.toInt32)), (.int ((p3.toInt8.toInt32).toInt8.toInt32)), (.int ((p3.toInt8.toInt32).toInt8.toInt32)), (.int ((p3.toInt8.toInt32).toInt8.toInt32)), (.int ((p3.toInt8.toInt32).toInt8.toInt32)), (.int ((p3.toInt8.toInt32).toInt8.toInt32)), (.int ((p3.toInt8.toInt32).toInt8.toInt32)), (.int ((p3.toInt8.toInt32).toInt8.toInt32)), (.int ((p3.toInt8.toInt32).toInt8.toInt32)), (.int ((p3.toInt8.toInt32).toInt8.toInt32)), (.int (0 : Int32)), (.int (0 : Int32)), (.int (0 : Int32)), (.int (0 : Int32)), (.int (0 : Int32))] (.int (0 : Int32)) := Arv.set Ar30 qq30 Sz30 Ng30 Hs30 Gs30 (fits_nar_byte _) W31 14 rfl (Nat.le_of_ble_eq_true rfl)
  show Go _ _ _ (T31.setTop (mkF m 97 #[.val (.long q1), .second, .val (.int p2), .val (.int p3), .val (.int (p2 &&& (3 : Int32))), .val (.int (p3.toInt8.toInt32)), .unset] [(.ref b1)])) _
  refine Go.st (fun t k => XS.dup X31.here hx rfl (hb hby at_97) rfl rfl k) ?_
  refine Go.st (fun t k => XS.bipush X31.here hx rfl (hb hby at_98) k) ?_
  refine Go.st (fun t k => XS.iload X31.here hx rfl (hb hby at_100) rfl k) ?_
  obtain ⟨cl32, Ar32, qq32, Sz32, Ng32, Hs32, Gs32⟩ := id V_b1
  have hin32 : ¬ ((15 : Int32) < 0 ∨ cl32.slots.size ≤ ((15 : Int32)).toNatClampNeg) := inb_of Sz32 ⟨by decide, by decide⟩
  obtain ⟨T33, h33, X33, e33, W33, st33⟩ := stB X31 hx hZ e31 Ar32 (j := (15 : Int32)) hin32 (g := (mkF m 102 #[.val (.long q1), .second, .val (.int p2), .val (.int p3), .val (.int (p2 &&& (3 : Int32))), .val (.int (p3.toInt8.toInt32)), .unset] [(.int (p3.toInt8.toInt32)), (.int 15), (.ref b1), (.ref b1)])) rfl rfl (hb hby at_102)
  refine Go.st st33 ?_
  have N33 := Fr.snoc X33 N31 g_b1
  obtain ⟨LL33, X33, N33⟩ : ∃ LL, Stand p l e room_1 s m #[(.long q1), (.int p2), (.int p3)] below meth c T33 LL 1 20 ∧ Fr n0 LL := ⟨_, X33, N33⟩
  replace S_DIGITS := S_DIGITS.wr W33
  replace V_DIGITS := V_DIGITS.other W33 ne_w_DIGITS_b1
  replace Z0 := Nat.le_trans Z0 (Nat.le_of_eq W33.size.symm)
  replace K0 := K0.wr W33 (Or.inr sz_b1)
  replace V_b1 : Arv Z h33 b1 k1 .byte (20 : Int32) [(.int ((p3.toInt8.toInt32).toInt8.toInt32)), (.int ((p3.toInt8.toInt32).toInt8.toInt32)), (.int ((p3.toInt8.toInt32).toInt8.toInt32)), (.int ((p3.toInt8.toInt32).toInt8.toInt32)), (.int ((p3.toInt8.toInt32).toInt8.toInt32)), (.int ((p3.toInt8.toInt32).toInt8.toInt32)), (.int ((p3.toInt8.toInt32).toInt8.toInt32)), (.int ((p3.toInt8.toInt32).toInt8.toInt32)), (.int ((p3.toInt8.toInt32).toInt8.toInt32)), (.int ((p3.toInt8.toInt32).toInt8.toInt32)), (.int ((p3.toInt8.toInt32).toInt8.toInt32)), (.int ((p3.toInt8.toInt32).toInt8.toInt32)), (.int ((p3.toInt8.toInt32).toInt8.toInt32)), (.int ((p3.toInt8.toInt32).toInt8.toInt32)), (.int ((p3.toInt8.toInt32).toInt8.toInt32)), (.int ((p3.toInt8.toInt32).toInt8.toInt32)), (.int (0 : Int32)), (.int (0 : Int32)), (.int (0 : Int32)), (.int (0 : Int32))] (.int (0 : Int32)) := Arv.set Ar32 qq32 Sz32 Ng32 Hs32 Gs32 (fits_nar_byte _) W33 15 rfl (Nat.le_of_ble_eq_true rfl)
  show Go _ _ _ (T33.setTop (mkF m 103 #[.val (.long q1), .second, .val (.int p2), .val (.int p3), .val (.int (p2 &&& (3 : Int32))), .val (.int (p3.toInt8.toInt32)), .unset] [(.ref b1)])) _
  refine Go.st (fun t k => XS.dup X33.here hx rfl (hb hby at_103) rfl rfl k) ?_
  refine Go.st (fun t k => XS.bipush X33.here hx rfl (hb hby at_104) k) ?_
  refine Go.st (fun t k => XS.iload X33.here hx rfl (hb hby at_106) rfl k) ?_
  obtain ⟨cl34, Ar34, qq34, Sz34, Ng34, Hs34, Gs34⟩ := id V_b1
  have hin34 : ¬ ((16 : Int32) < 0 ∨ cl34.slots.size ≤ ((16 : Int32)).toNatClampNeg) := inb_of Sz34 ⟨by decide, by decide⟩
  obtain ⟨T35, h35, X35, e35, W35, st35⟩ := stB X33 hx hZ e33 Ar34 (j := (16 : Int32)) hin34 (g := (mkF m 108 #[.val (.long q1), .second, .val (.int p2), .val (.int p3), .val (.int (p2 &&& (3 : Int32))), .val (.int (p3.toInt8.toInt32)), .unset] [(.int (p3.toInt8.toInt32)), (.int 16), (.ref b1), (.ref b1)])) rfl rfl (hb hby at_108)
  refine Go.st st35 ?_
  have N35 := Fr.snoc X35 N33 g_b1
  replace S_DIGITS := S_DIGITS.wr W35
  replace V_DIGITS := V_DIGITS.other W35 ne_w_DIGITS_b1
  replace Z0 := Nat.le_trans Z0 (Nat.le_of_eq W35.size.symm)
  replace K0 := K0.wr W35 (Or.inr sz_b1)
  replace V_b1 : Arv Z h35 b1 k1 .byte (20 : Int32) [(.int ((p3.toInt8.toInt32).toInt8.toInt32)), (.int ((p3.toInt8.toInt32).toInt8.toInt32)), (.int ((p3.toInt8.toInt32).toInt8.toInt32)), (.int ((p3.toInt8.toInt32).toInt8.toInt32)), (.int ((p3.toInt8.toInt32).toInt8.toInt32)), (.int ((p3.toInt8.toInt32).toInt8.toInt32)), (.int ((p3.toInt8.toInt32).toInt8.toInt32)), (.int ((p3.toInt8.toInt32).toInt8.toInt32)), (.int ((p3.toInt8.toInt32).toInt8.toInt32)), (.int ((p3.toInt8.toInt32).toInt8.toInt32)), (.int ((p3.toInt8.toInt32).toInt8.toInt32)), (.int ((p3.toInt8.toInt32).toInt8.toInt32)), (.int ((p3.toInt8.toInt32).toInt8.toInt32)), (.int ((p3.toInt8.toInt32).toInt8.toInt32)), (.int ((p3.toInt8.toInt32).toInt8.toInt32)), (.int ((p3.toInt8.toInt32).toInt8.toInt32)), (.int ((p3.toInt8.toInt32).toInt8.toInt32)), (.int (0 : Int32)), (.int (0 : Int32)), (.int (0 : Int32))] (.int (0 : Int32)) := Arv.set Ar34 qq34 Sz34 Ng34 Hs34 Gs34 (fits_nar_byte _) W35 16 rfl (Nat.le_of_ble_eq_true rfl)
  show Go _ _ _ (T35.setTop (mkF m 109 #[.val (.long q1), .second, .val (.int p2), .val (.int p3), .val (.int (p2 &&& (3 : Int32))), .val (.int (p3.toInt8.toInt32)), .unset] [(.ref b1)])) _
  refine Go.st (fun t k => XS.dup X35.here hx rfl (hb hby at_109) rfl rfl k) ?_
  refine Go.st (fun t k => XS.bipush X35.here hx rfl (hb hby at_110) k) ?_
  refine Go.st (fun t k => XS.iload X35.here hx rfl (hb hby at_112) rfl k) ?_
  obtain ⟨cl36, Ar36, qq36, Sz36, Ng36, Hs36, Gs36⟩ := id V_b1
  have hin36 : ¬ ((17 : Int32) < 0 ∨ cl36.slots.size ≤ ((17 : Int32)).toNatClampNeg) := inb_of Sz36 ⟨by decide, by decide⟩
  obtain ⟨T37, h37, X37, e37, W37, st37⟩ := stB X35 hx hZ e35 Ar36 (j := (17 : Int32)) hin36 (g := (mkF m 114 #[.val (.long q1), .second, .val (.int p2), .val (.int p3), .val (.int (p2 &&& (3 : Int32))), .val (.int (p3.toInt8.toInt32)), .unset] [(.int (p3.toInt8.toInt32)), (.int 17), (.ref b1), (.ref b1)])) rfl rfl (hb hby at_114)
  refine Go.st st37 ?_
  have N37 := Fr.snoc X37 N35 g_b1
  replace S_DIGITS := S_DIGITS.wr W37
  replace V_DIGITS := V_DIGITS.other W37 ne_w_DIGITS_b1
  replace Z0 := Nat.le_trans Z0 (Nat.le_of_eq W37.size.symm)
  replace K0 := K0.wr W37 (Or.inr sz_b1)
  replace V_b1 : Arv Z h37 b1 k1 .byte (20 : Int32) [(.int ((p3.toInt8.toInt32).toInt8.toInt32)), (.int ((p3.toInt8.toInt32).toInt8.toInt32)), (.int ((p3.toInt8.toInt32).toInt8.toInt32)), (.int ((p3.toInt8.toInt32).toInt8.toInt32)), (.int ((p3.toInt8.toInt32).toInt8.toInt32)), (.int ((p3.toInt8.toInt32).toInt8.toInt32)), (.int ((p3.toInt8.toInt32).toInt8.toInt32)), (.int ((p3.toInt8.toInt32).toInt8.toInt32)), (.int ((p3.toInt8.toInt32).toInt8.toInt32)), (.int ((p3.toInt8.toInt32).toInt8.toInt32)), (.int ((p3.toInt8.toInt32).toInt8.toInt32)), (.int ((p3.toInt8.toInt32).toInt8.toInt32)), (.int ((p3.toInt8.toInt32).toInt8.toInt32)), (.int ((p3.toInt8.toInt32).toInt8.toInt32)), (.int ((p3.toInt8.toInt32).toInt8.toInt32)), (.int ((p3.toInt8.toInt32).toInt8.toInt32)), (.int ((p3.toInt8.toInt32).toInt8.toInt32)), (.int ((p3.toInt8.toInt32).toInt8.toInt32)), (.int (0 : Int32)), (.int (0 : Int32))] (.int (0 : Int32)) := Arv.set Ar36 qq36 Sz36 Ng36 Hs36 Gs36 (fits_nar_byte _) W37 17 rfl (Nat.le_of_ble_eq_true rfl)
  show Go _ _ _ (T37.setTop (mkF m 115 #[.val (.long q1), .second, .val (.int p2), .val (.int p3), .val (.int (p2 &&& (3 : Int32))), .val (.int (p3.toInt8.toInt32)), .unset] [(.ref b1)])) _
  refine Go.st (fun t k => XS.dup X37.here hx rfl (hb hby at_115) rfl rfl k) ?_
  refine Go.st (fun t k => XS.bipush X37.here hx rfl (hb hby at_116) k) ?_
  refine Go.st (fun t k => XS.iload X37.here hx rfl (hb hby at_118) rfl k) ?_
  obtain ⟨cl38, Ar38, qq38, Sz38, Ng38, Hs38, Gs38⟩ := id V_b1
  have hin38 : ¬ ((18 : Int32) < 0 ∨ cl38.slots.size ≤ ((18 : Int32)).toNatClampNeg) := inb_of Sz38 ⟨by decide, by decide⟩
  obtain ⟨T39, h39, X39, e39, W39, st39⟩ := stB X37 hx hZ e37 Ar38 (j := (18 : Int32)) hin38 (g := (mkF m 120 #[.val (.long q1), .second, .val (.int p2), .val (.int p3), .val (.int (p2 &&& (3 : Int32))), .val (.int (p3.toInt8.toInt32)), .unset] [(.int (p3.toInt8.toInt32)), (.int 18), (.ref b1), (.ref b1)])) rfl rfl (hb hby at_120)
  refine Go.st st39 ?_
  have N39 := Fr.snoc X39 N37 g_b1
  replace S_DIGITS := S_DIGITS.wr W39
  replace V_DIGITS := V_DIGITS.other W39 ne_w_DIGITS_b1
  replace Z0 := Nat.le_trans Z0 (Nat.le_of_eq W39.size.symm)
  replace K0 := K0.wr W39 (Or.inr sz_b1)
  replace V_b1 : Arv Z h39 b1 k1 .byte (20 : Int32) [(.int ((p3.toInt8.toInt32).toInt8.toInt32)), (.int ((p3.toInt8.toInt32).toInt8.toInt32)), (.int ((p3.toInt8.toInt32).toInt8.toInt32)), (.int ((p3.toInt8.toInt32).toInt8.toInt32)), (.int ((p3.toInt8.toInt32).toInt8.toInt32)), (.int ((p3.toInt8.toInt32).toInt8.toInt32)), (.int ((p3.toInt8.toInt32).toInt8.toInt32)), (.int ((p3.toInt8.toInt32).toInt8.toInt32)), (.int ((p3.toInt8.toInt32).toInt8.toInt32)), (.int ((p3.toInt8.toInt32).toInt8.toInt32)), (.int ((p3.toInt8.toInt32).toInt8.toInt32)), (.int ((p3.toInt8.toInt32).toInt8.toInt32)), (.int ((p3.toInt8.toInt32).toInt8.toInt32)), (.int ((p3.toInt8.toInt32).toInt8.toInt32)), (.int ((p3.toInt8.toInt32).toInt8.toInt32)), (.int ((p3.toInt8.toInt32).toInt8.toInt32)), (.int ((p3.toInt8.toInt32).toInt8.toInt32)), (.int ((p3.toInt8.toInt32).toInt8.toInt32)), (.int ((p3.toInt8.toInt32).toInt8.toInt32)), (.int (0 : Int32))] (.int (0 : Int32)) := Arv.set Ar38 qq38 Sz38 Ng38 Hs38 Gs38 (fits_nar_byte _) W39 18 rfl (Nat.le_of_ble_eq_true rfl)
  show Go _ _ _ (T39.setTop (mkF m 121 #[.val (.long q1), .second, .val (.int p2), .val (.int p3), .val (.int (p2 &&& (3 : Int32))), .val (.int (p3.toInt8.toInt32)), .unset] [(.ref b1)])) _
  refine Go.st (fun t k => XS.dup X39.here hx rfl (hb hby at_121) rfl rfl k) ?_
  refine Go.st (fun t k => XS.bipush X39.here hx rfl (hb hby at_122) k) ?_
  refine Go.st (fun t k => XS.iload X39.here hx rfl (hb hby at_124) rfl k) ?_
  obtain ⟨cl40, Ar40, qq40, Sz40, Ng40, Hs40, Gs40⟩ := id V_b1
  have hin40 : ¬ ((19 : Int32) < 0 ∨ cl40.slots.size ≤ ((19 : Int32)).toNatClampNeg) := inb_of Sz40 ⟨by decide, by decide⟩
  obtain ⟨T41, h41, X41, e41, W41, st41⟩ := stB X39 hx hZ e39 Ar40 (j := (19 : Int32)) hin40 (g := (mkF m 126 #[.val (.long q1), .second, .val (.int p2), .val (.int p3), .val (.int (p2 &&& (3 : Int32))), .val (.int (p3.toInt8.toInt32)), .unset] [(.int (p3.toInt8.toInt32)), (.int 19), (.ref b1), (.ref b1)])) rfl rfl (hb hby at_126)
  refine Go.st st41 ?_
  have N41 := Fr.snoc X41 N39 g_b1
  obtain ⟨LL41, X41, N41⟩ : ∃ LL, Stand p l e room_1 s m #[(.long q1), (.int p2), (.int p3)] below meth c T41 LL 1 20 ∧ Fr n0 LL := ⟨_, X41, N41⟩
  replace S_DIGITS := S_DIGITS.wr W41
  replace V_DIGITS := V_DIGITS.other W41 ne_w_DIGITS_b1
  replace Z0 := Nat.le_trans Z0 (Nat.le_of_eq W41.size.symm)
  replace K0 := K0.wr W41 (Or.inr sz_b1)
  replace V_b1 : Arv Z h41 b1 k1 .byte (20 : Int32) [(.int ((p3.toInt8.toInt32).toInt8.toInt32)), (.int ((p3.toInt8.toInt32).toInt8.toInt32)), (.int ((p3.toInt8.toInt32).toInt8.toInt32)), (.int ((p3.toInt8.toInt32).toInt8.toInt32)), (.int ((p3.toInt8.toInt32).toInt8.toInt32)), (.int ((p3.toInt8.toInt32).toInt8.toInt32)), (.int ((p3.toInt8.toInt32).toInt8.toInt32)), (.int ((p3.toInt8.toInt32).toInt8.toInt32)), (.int ((p3.toInt8.toInt32).toInt8.toInt32)), (.int ((p3.toInt8.toInt32).toInt8.toInt32)), (.int ((p3.toInt8.toInt32).toInt8.toInt32)), (.int ((p3.toInt8.toInt32).toInt8.toInt32)), (.int ((p3.toInt8.toInt32).toInt8.toInt32)), (.int ((p3.toInt8.toInt32).toInt8.toInt32)), (.int ((p3.toInt8.toInt32).toInt8.toInt32)), (.int ((p3.toInt8.toInt32).toInt8.toInt32)), (.int ((p3.toInt8.toInt32).toInt8.toInt32)), (.int ((p3.toInt8.toInt32).toInt8.toInt32)), (.int ((p3.toInt8.toInt32).toInt8.toInt32)), (.int ((p3.toInt8.toInt32).toInt8.toInt32))] (.int (0 : Int32)) := Arv.set Ar40 qq40 Sz40 Ng40 Hs40 Gs40 (fits_nar_byte _) W41 19 rfl (Nat.le_of_ble_eq_true rfl)
  show Go _ _ _ (T41.setTop (mkF m 127 #[.val (.long q1), .second, .val (.int p2), .val (.int p3), .val (.int (p2 &&& (3 : Int32))), .val (.int (p3.toInt8.toInt32)), .unset] [(.ref b1)])) _
  refine Go.st (fun t k => XS.astore X41.here hx rfl (hb hby at_127) rfl rfl (l' := #[.val (.long q1), .second, .val (.int p2), .val (.int p3), .val (.int (p2 &&& (3 : Int32))), .val (.int (p3.toInt8.toInt32)), .val (.ref b1)]) rfl k) ?_
  refine Go.st (fun t k => XS.lloadN X41.here hx rfl (hb hby at_129) rfl k) ?_
  refine Go.st (fun t k => XS.aload X41.here hx rfl (hb hby at_130) rfl rfl k) ?_
  refine Go.st (fun t k => XS.iload X41.here hx rfl (hb hby at_132) rfl k) ?_
  obtain ⟨_, _, ⟨T42, L42, k42, n42⟩, -, X42, ⟨Lc42, hQ42, l42, y42, z42⟩, st42⟩ := Jvm.LawKit.callS X41 hx (y := (⟨"com/example/piece/piece/span/Hex", "write", "(J[BI)V"⟩ : MethodName)) hown (mvT hZ (wd1 hw)) (mvT hZ (wd2 hw)) (mvT hZ (wd3 hw)) (mvT hZ (wd4 hw)) (by decide) (backOf (W := 0) (rm1 l Z a0 hw [] q1 b1 (p2 &&& (3 : Int32)) w_DIGITS k_D k1 [((p3.toInt8.toInt32).toInt8.toInt32), ((p3.toInt8.toInt32).toInt8.toInt32), ((p3.toInt8.toInt32).toInt8.toInt32), ((p3.toInt8.toInt32).toInt8.toInt32), ((p3.toInt8.toInt32).toInt8.toInt32), ((p3.toInt8.toInt32).toInt8.toInt32), ((p3.toInt8.toInt32).toInt8.toInt32), ((p3.toInt8.toInt32).toInt8.toInt32), ((p3.toInt8.toInt32).toInt8.toInt32), ((p3.toInt8.toInt32).toInt8.toInt32), ((p3.toInt8.toInt32).toInt8.toInt32), ((p3.toInt8.toInt32).toInt8.toInt32), ((p3.toInt8.toInt32).toInt8.toInt32), ((p3.toInt8.toInt32).toInt8.toInt32), ((p3.toInt8.toInt32).toInt8.toInt32), ((p3.toInt8.toInt32).toInt8.toInt32), ((p3.toInt8.toInt32).toInt8.toInt32), ((p3.toInt8.toInt32).toInt8.toInt32), ((p3.toInt8.toInt32).toInt8.toInt32), ((p3.toInt8.toInt32).toInt8.toInt32)] h41 n0 Z0 S_DIGITS V_DIGITS V_b1 rfl (own_and3 p2) ne_w_DIGITS_b1 g_b1) hZ (wd4 hw) (wd3 hw) (by decide) (by decide)) (g := (mkF m 134 #[.val (.long q1), .second, .val (.int p2), .val (.int p3), .val (.int (p2 &&& (3 : Int32))), .val (.int (p3.toInt8.toInt32)), .val (.ref b1)] [(.int (p2 &&& (3 : Int32))), (.ref b1), (.long q1)])) rfl (by rw [hml]; rfl) (argsL := [(.long q1), (.ref b1), (.int (p2 &&& (3 : Int32)))]) (rest := []) (lenOf pd0 rfl) rfl (by show 2 * 0 + _ ≤ _; exact Nat.le_of_eq rfl) (hb hby at_134) (fun _ _ => ⟨rfl, e41, (by decide : 1 + 0 ≤ _), (by decide : 20 + 0 ≤ _)⟩)
  dsimp only [Pt.U, Pt.locs, Pt.cells, Pt.slots] at X42 l42 y42 z42 st42 hQ42
  subst l42 y42 z42
  refine Go.st st42 ?_
  have V_b1_pre := V_b1
  obtain ⟨h42, e42⟩ : ∃ z, T42.heap = z := ⟨_, rfl⟩
  rw [e42] at hQ42
  obtain ⟨rfl, N42q, K42, Q42_0⟩ := hQ42
  replace S_DIGITS := sta_keep S_DIGITS K42 (allS (arv_ns V_b1_pre) all0)
  replace V_DIGITS := V_DIGITS.keep K42 (ninS ne_w_DIGITS_b1 nin0)
  replace Z0 := Nat.le_trans Z0 K42.1
  replace K0 := K0.trans K42 (allS (Or.inr sz_b1) all0)
  have V_b1 := Q42_0
  have N42 := Fr.app N41 N42q
  replace V_b1 : Arv Z h42 b1 k1 .byte (20 : Int32) (List.map Value.int (own_txt q1 (p2 &&& (3 : Int32)) ((p3.toInt8.toInt32).toInt8.toInt32))) (.int (0 : Int32)) := V_b1
  show Go _ _ _ (T42.setTop (mkF m 137 #[.val (.long q1), .second, .val (.int p2), .val (.int p3), .val (.int (p2 &&& (3 : Int32))), .val (.int (p3.toInt8.toInt32)), .val (.ref b1)] [])) _
  refine Go.st (fun t k => XS.aload X42.here hx rfl (hb hby at_137) rfl rfl k) ?_
  refine Go.st (fun t k => XS.iconst X42.here hx rfl (hb hby at_139) k) ?_
  refine Go.st (fun t k => XS.iload X42.here hx rfl (hb hby at_140) rfl k) ?_
  refine Go.st (fun t k => XS.lloadN X42.here hx rfl (hb hby at_142) rfl k) ?_
  refine Go.st (fun t k => XS.iload X42.here hx rfl (hb hby at_143) rfl k) ?_
  obtain ⟨_, _, ⟨T43, L43, k43, n43⟩, -, X43, ⟨Lc43, hQ43, l43, y43, z43⟩, st43⟩ := Jvm.LawKit.callS X42 hx (y := (⟨"com/example/piece/piece/span/HexWritePinLaw", "ok", "([BIIJB)Z"⟩ : MethodName)) hown (mvT hZ (wd8 hw)) (mvT hZ (wd9 hw)) (mvT hZ (wd10 hw)) (mvT hZ (wd11 hw)) (by decide) (backOf (W := 0) (rm2 l Z a0 hw [] b1 (0 : Int32) (p2 &&& (3 : Int32)) q1 (p3.toInt8.toInt32) k1 (List.map Value.int (own_txt q1 (p2 &&& (3 : Int32)) ((p3.toInt8.toInt32).toInt8.toInt32))) (own_at (own_txt q1 (p2 &&& (3 : Int32)) ((p3.toInt8.toInt32).toInt8.toInt32)) (0 : Int32)) h42 n0 Z0 V_b1 (by decide) (own_atv _ _)) hZ (wd11 hw) (wd10 hw) (by decide) (by decide)) (g := (mkF m 145 #[.val (.long q1), .second, .val (.int p2), .val (.int p3), .val (.int (p2 &&& (3 : Int32))), .val (.int (p3.toInt8.toInt32)), .val (.ref b1)] [(.int (p3.toInt8.toInt32)), (.long q1), (.int (p2 &&& (3 : Int32))), (.int 0), (.ref b1)])) rfl (by rw [hml]; rfl) (argsL := [(.ref b1), (.int (0 : Int32)), (.int (p2 &&& (3 : Int32))), (.long q1), (.int (p3.toInt8.toInt32))]) (rest := []) (lenOf pd1 rfl) rfl (by show 2 * 0 + _ ≤ _; exact Nat.le_of_eq rfl) (hb hby at_145) (fun _ _ => ⟨rfl, e42, (by decide : 1 + 0 ≤ _), (by decide : 20 + 0 ≤ _)⟩)
  dsimp only [Pt.U, Pt.locs, Pt.cells, Pt.slots] at X43 l43 y43 z43 st43 hQ43
  subst l43 y43 z43
  refine Go.st st43 ?_
  obtain ⟨rfl, N43q, e43⟩ := hQ43
  have N43 := Fr.app N42 N43q
  show Go _ _ _ (T43.setTop (mkF m 148 #[.val (.long q1), .second, .val (.int p2), .val (.int p3), .val (.int (p2 &&& (3 : Int32))), .val (.int (p3.toInt8.toInt32)), .val (.ref b1)] [(.int (f2 (0 : Int32) (p2 &&& (3 : Int32)) q1 (p3.toInt8.toInt32) (own_at (own_txt q1 (p2 &&& (3 : Int32)) ((p3.toInt8.toInt32).toInt8.toInt32)) (0 : Int32))))])) _
  refine Go.st (fun t k => XS.ifNo X43.here hx rfl (hb hby at_148) rfl ((if0 _ _).trans (feq (show ¬ ((f2 (0 : Int32) (p2 &&& (3 : Int32)) q1 (p3.toInt8.toInt32) (own_at (own_txt q1 (p2 &&& (3 : Int32)) ((p3.toInt8.toInt32).toInt8.toInt32)) (0 : Int32))) = (0 : Int32)) from (own_ok q1 p2 p3 0 (by decide)))).1) k) ?_
  show Go _ _ _ (T43.setTop (mkF m 151 #[.val (.long q1), .second, .val (.int p2), .val (.int p3), .val (.int (p2 &&& (3 : Int32))), .val (.int (p3.toInt8.toInt32)), .val (.ref b1)] [])) _
  refine Go.st (fun t k => XS.aload X43.here hx rfl (hb hby at_151) rfl rfl k) ?_
  refine Go.st (fun t k => XS.iconst X43.here hx rfl (hb hby at_153) k) ?_
  refine Go.st (fun t k => XS.iload X43.here hx rfl (hb hby at_154) rfl k) ?_
  refine Go.st (fun t k => XS.lloadN X43.here hx rfl (hb hby at_156) rfl k) ?_
  refine Go.st (fun t k => XS.iload X43.here hx rfl (hb hby at_157) rfl k) ?_
  obtain ⟨_, _, ⟨T44, L44, k44, n44⟩, -, X44, ⟨Lc44, hQ44, l44, y44, z44⟩, st44⟩ := Jvm.LawKit.callS X43 hx (y := (⟨"com/example/piece/piece/span/HexWritePinLaw", "ok", "([BIIJB)Z"⟩ : MethodName)) hown (mvT hZ (wd8 hw)) (mvT hZ (wd9 hw)) (mvT hZ (wd10 hw)) (mvT hZ (wd11 hw)) (by decide) (backOf (W := 0) (rm2 l Z a0 hw [] b1 (1 : Int32) (p2 &&& (3 : Int32)) q1 (p3.toInt8.toInt32) k1 (List.map Value.int (own_txt q1 (p2 &&& (3 : Int32)) ((p3.toInt8.toInt32).toInt8.toInt32))) (own_at (own_txt q1 (p2 &&& (3 : Int32)) ((p3.toInt8.toInt32).toInt8.toInt32)) (1 : Int32)) h42 n0 Z0 V_b1 (by decide) (own_atv _ _)) hZ (wd11 hw) (wd10 hw) (by decide) (by decide)) (g := (mkF m 159 #[.val (.long q1), .second, .val (.int p2), .val (.int p3), .val (.int (p2 &&& (3 : Int32))), .val (.int (p3.toInt8.toInt32)), .val (.ref b1)] [(.int (p3.toInt8.toInt32)), (.long q1), (.int (p2 &&& (3 : Int32))), (.int 1), (.ref b1)])) rfl (by rw [hml]; rfl) (argsL := [(.ref b1), (.int (1 : Int32)), (.int (p2 &&& (3 : Int32))), (.long q1), (.int (p3.toInt8.toInt32))]) (rest := []) (lenOf pd1 rfl) rfl (by show 2 * 0 + _ ≤ _; exact Nat.le_of_eq rfl) (hb hby at_159) (fun _ _ => ⟨rfl, e43, (by decide : 1 + 0 ≤ _), (by decide : 20 + 0 ≤ _)⟩)
  dsimp only [Pt.U, Pt.locs, Pt.cells, Pt.slots] at X44 l44 y44 z44 st44 hQ44
  subst l44 y44 z44
  refine Go.st st44 ?_
  obtain ⟨rfl, N44q, e44⟩ := hQ44
  have N44 := Fr.app N43 N44q
  show Go _ _ _ (T44.setTop (mkF m 162 #[.val (.long q1), .second, .val (.int p2), .val (.int p3), .val (.int (p2 &&& (3 : Int32))), .val (.int (p3.toInt8.toInt32)), .val (.ref b1)] [(.int (f2 (1 : Int32) (p2 &&& (3 : Int32)) q1 (p3.toInt8.toInt32) (own_at (own_txt q1 (p2 &&& (3 : Int32)) ((p3.toInt8.toInt32).toInt8.toInt32)) (1 : Int32))))])) _
  refine Go.st (fun t k => XS.ifNo X44.here hx rfl (hb hby at_162) rfl ((if0 _ _).trans (feq (show ¬ ((f2 (1 : Int32) (p2 &&& (3 : Int32)) q1 (p3.toInt8.toInt32) (own_at (own_txt q1 (p2 &&& (3 : Int32)) ((p3.toInt8.toInt32).toInt8.toInt32)) (1 : Int32))) = (0 : Int32)) from (own_ok q1 p2 p3 1 (by decide)))).1) k) ?_
  show Go _ _ _ (T44.setTop (mkF m 165 #[.val (.long q1), .second, .val (.int p2), .val (.int p3), .val (.int (p2 &&& (3 : Int32))), .val (.int (p3.toInt8.toInt32)), .val (.ref b1)] [])) _
  refine Go.st (fun t k => XS.aload X44.here hx rfl (hb hby at_165) rfl rfl k) ?_
  refine Go.st (fun t k => XS.iconst X44.here hx rfl (hb hby at_167) k) ?_
  refine Go.st (fun t k => XS.iload X44.here hx rfl (hb hby at_168) rfl k) ?_
  refine Go.st (fun t k => XS.lloadN X44.here hx rfl (hb hby at_170) rfl k) ?_
  refine Go.st (fun t k => XS.iload X44.here hx rfl (hb hby at_171) rfl k) ?_
  obtain ⟨_, _, ⟨T45, L45, k45, n45⟩, -, X45, ⟨Lc45, hQ45, l45, y45, z45⟩, st45⟩ := Jvm.LawKit.callS X44 hx (y := (⟨"com/example/piece/piece/span/HexWritePinLaw", "ok", "([BIIJB)Z"⟩ : MethodName)) hown (mvT hZ (wd8 hw)) (mvT hZ (wd9 hw)) (mvT hZ (wd10 hw)) (mvT hZ (wd11 hw)) (by decide) (backOf (W := 0) (rm2 l Z a0 hw [] b1 (2 : Int32) (p2 &&& (3 : Int32)) q1 (p3.toInt8.toInt32) k1 (List.map Value.int (own_txt q1 (p2 &&& (3 : Int32)) ((p3.toInt8.toInt32).toInt8.toInt32))) (own_at (own_txt q1 (p2 &&& (3 : Int32)) ((p3.toInt8.toInt32).toInt8.toInt32)) (2 : Int32)) h42 n0 Z0 V_b1 (by decide) (own_atv _ _)) hZ (wd11 hw) (wd10 hw) (by decide) (by decide)) (g := (mkF m 173 #[.val (.long q1), .second, .val (.int p2), .val (.int p3), .val (.int (p2 &&& (3 : Int32))), .val (.int (p3.toInt8.toInt32)), .val (.ref b1)] [(.int (p3.toInt8.toInt32)), (.long q1), (.int (p2 &&& (3 : Int32))), (.int 2), (.ref b1)])) rfl (by rw [hml]; rfl) (argsL := [(.ref b1), (.int (2 : Int32)), (.int (p2 &&& (3 : Int32))), (.long q1), (.int (p3.toInt8.toInt32))]) (rest := []) (lenOf pd1 rfl) rfl (by show 2 * 0 + _ ≤ _; exact Nat.le_of_eq rfl) (hb hby at_173) (fun _ _ => ⟨rfl, e44, (by decide : 1 + 0 ≤ _), (by decide : 20 + 0 ≤ _)⟩)
  dsimp only [Pt.U, Pt.locs, Pt.cells, Pt.slots] at X45 l45 y45 z45 st45 hQ45
  subst l45 y45 z45
  refine Go.st st45 ?_
  obtain ⟨rfl, N45q, e45⟩ := hQ45
  have N45 := Fr.app N44 N45q
  obtain ⟨LL45, X45, N45⟩ : ∃ LL, Stand p l e room_1 s m #[(.long q1), (.int p2), (.int p3)] below meth c T45 LL 1 20 ∧ Fr n0 LL := ⟨_, X45, N45⟩
  show Go _ _ _ (T45.setTop (mkF m 176 #[.val (.long q1), .second, .val (.int p2), .val (.int p3), .val (.int (p2 &&& (3 : Int32))), .val (.int (p3.toInt8.toInt32)), .val (.ref b1)] [(.int (f2 (2 : Int32) (p2 &&& (3 : Int32)) q1 (p3.toInt8.toInt32) (own_at (own_txt q1 (p2 &&& (3 : Int32)) ((p3.toInt8.toInt32).toInt8.toInt32)) (2 : Int32))))])) _
  refine Go.st (fun t k => XS.ifNo X45.here hx rfl (hb hby at_176) rfl ((if0 _ _).trans (feq (show ¬ ((f2 (2 : Int32) (p2 &&& (3 : Int32)) q1 (p3.toInt8.toInt32) (own_at (own_txt q1 (p2 &&& (3 : Int32)) ((p3.toInt8.toInt32).toInt8.toInt32)) (2 : Int32))) = (0 : Int32)) from (own_ok q1 p2 p3 2 (by decide)))).1) k) ?_
  show Go _ _ _ (T45.setTop (mkF m 179 #[.val (.long q1), .second, .val (.int p2), .val (.int p3), .val (.int (p2 &&& (3 : Int32))), .val (.int (p3.toInt8.toInt32)), .val (.ref b1)] [])) _
  refine Go.st (fun t k => XS.aload X45.here hx rfl (hb hby at_179) rfl rfl k) ?_
  refine Go.st (fun t k => XS.iconst X45.here hx rfl (hb hby at_181) k) ?_
  refine Go.st (fun t k => XS.iload X45.here hx rfl (hb hby at_182) rfl k) ?_
  refine Go.st (fun t k => XS.lloadN X45.here hx rfl (hb hby at_184) rfl k) ?_
  refine Go.st (fun t k => XS.iload X45.here hx rfl (hb hby at_185) rfl k) ?_
  obtain ⟨_, _, ⟨T46, L46, k46, n46⟩, -, X46, ⟨Lc46, hQ46, l46, y46, z46⟩, st46⟩ := Jvm.LawKit.callS X45 hx (y := (⟨"com/example/piece/piece/span/HexWritePinLaw", "ok", "([BIIJB)Z"⟩ : MethodName)) hown (mvT hZ (wd8 hw)) (mvT hZ (wd9 hw)) (mvT hZ (wd10 hw)) (mvT hZ (wd11 hw)) (by decide) (backOf (W := 0) (rm2 l Z a0 hw [] b1 (3 : Int32) (p2 &&& (3 : Int32)) q1 (p3.toInt8.toInt32) k1 (List.map Value.int (own_txt q1 (p2 &&& (3 : Int32)) ((p3.toInt8.toInt32).toInt8.toInt32))) (own_at (own_txt q1 (p2 &&& (3 : Int32)) ((p3.toInt8.toInt32).toInt8.toInt32)) (3 : Int32)) h42 n0 Z0 V_b1 (by decide) (own_atv _ _)) hZ (wd11 hw) (wd10 hw) (by decide) (by decide)) (g := (mkF m 187 #[.val (.long q1), .second, .val (.int p2), .val (.int p3), .val (.int (p2 &&& (3 : Int32))), .val (.int (p3.toInt8.toInt32)), .val (.ref b1)] [(.int (p3.toInt8.toInt32)), (.long q1), (.int (p2 &&& (3 : Int32))), (.int 3), (.ref b1)])) rfl (by rw [hml]; rfl) (argsL := [(.ref b1), (.int (3 : Int32)), (.int (p2 &&& (3 : Int32))), (.long q1), (.int (p3.toInt8.toInt32))]) (rest := []) (lenOf pd1 rfl) rfl (by show 2 * 0 + _ ≤ _; exact Nat.le_of_eq rfl) (hb hby at_187) (fun _ _ => ⟨rfl, e45, (by decide : 1 + 0 ≤ _), (by decide : 20 + 0 ≤ _)⟩)
  dsimp only [Pt.U, Pt.locs, Pt.cells, Pt.slots] at X46 l46 y46 z46 st46 hQ46
  subst l46 y46 z46
  refine Go.st st46 ?_
  obtain ⟨rfl, N46q, e46⟩ := hQ46
  have N46 := Fr.app N45 N46q
  show Go _ _ _ (T46.setTop (mkF m 190 #[.val (.long q1), .second, .val (.int p2), .val (.int p3), .val (.int (p2 &&& (3 : Int32))), .val (.int (p3.toInt8.toInt32)), .val (.ref b1)] [(.int (f2 (3 : Int32) (p2 &&& (3 : Int32)) q1 (p3.toInt8.toInt32) (own_at (own_txt q1 (p2 &&& (3 : Int32)) ((p3.toInt8.toInt32).toInt8.toInt32)) (3 : Int32))))])) _
  refine Go.st (fun t k => XS.ifNo X46.here hx rfl (hb hby at_190) rfl ((if0 _ _).trans (feq (show ¬ ((f2 (3 : Int32) (p2 &&& (3 : Int32)) q1 (p3.toInt8.toInt32) (own_at (own_txt q1 (p2 &&& (3 : Int32)) ((p3.toInt8.toInt32).toInt8.toInt32)) (3 : Int32))) = (0 : Int32)) from (own_ok q1 p2 p3 3 (by decide)))).1) k) ?_
  show Go _ _ _ (T46.setTop (mkF m 193 #[.val (.long q1), .second, .val (.int p2), .val (.int p3), .val (.int (p2 &&& (3 : Int32))), .val (.int (p3.toInt8.toInt32)), .val (.ref b1)] [])) _
  refine Go.st (fun t k => XS.aload X46.here hx rfl (hb hby at_193) rfl rfl k) ?_
  refine Go.st (fun t k => XS.iconst X46.here hx rfl (hb hby at_195) k) ?_
  refine Go.st (fun t k => XS.iload X46.here hx rfl (hb hby at_196) rfl k) ?_
  refine Go.st (fun t k => XS.lloadN X46.here hx rfl (hb hby at_198) rfl k) ?_
  refine Go.st (fun t k => XS.iload X46.here hx rfl (hb hby at_199) rfl k) ?_
  obtain ⟨_, _, ⟨T47, L47, k47, n47⟩, -, X47, ⟨Lc47, hQ47, l47, y47, z47⟩, st47⟩ := Jvm.LawKit.callS X46 hx (y := (⟨"com/example/piece/piece/span/HexWritePinLaw", "ok", "([BIIJB)Z"⟩ : MethodName)) hown (mvT hZ (wd8 hw)) (mvT hZ (wd9 hw)) (mvT hZ (wd10 hw)) (mvT hZ (wd11 hw)) (by decide) (backOf (W := 0) (rm2 l Z a0 hw [] b1 (4 : Int32) (p2 &&& (3 : Int32)) q1 (p3.toInt8.toInt32) k1 (List.map Value.int (own_txt q1 (p2 &&& (3 : Int32)) ((p3.toInt8.toInt32).toInt8.toInt32))) (own_at (own_txt q1 (p2 &&& (3 : Int32)) ((p3.toInt8.toInt32).toInt8.toInt32)) (4 : Int32)) h42 n0 Z0 V_b1 (by decide) (own_atv _ _)) hZ (wd11 hw) (wd10 hw) (by decide) (by decide)) (g := (mkF m 201 #[.val (.long q1), .second, .val (.int p2), .val (.int p3), .val (.int (p2 &&& (3 : Int32))), .val (.int (p3.toInt8.toInt32)), .val (.ref b1)] [(.int (p3.toInt8.toInt32)), (.long q1), (.int (p2 &&& (3 : Int32))), (.int 4), (.ref b1)])) rfl (by rw [hml]; rfl) (argsL := [(.ref b1), (.int (4 : Int32)), (.int (p2 &&& (3 : Int32))), (.long q1), (.int (p3.toInt8.toInt32))]) (rest := []) (lenOf pd1 rfl) rfl (by show 2 * 0 + _ ≤ _; exact Nat.le_of_eq rfl) (hb hby at_201) (fun _ _ => ⟨rfl, e46, (by decide : 1 + 0 ≤ _), (by decide : 20 + 0 ≤ _)⟩)
  dsimp only [Pt.U, Pt.locs, Pt.cells, Pt.slots] at X47 l47 y47 z47 st47 hQ47
  subst l47 y47 z47
  refine Go.st st47 ?_
  obtain ⟨rfl, N47q, e47⟩ := hQ47
  have N47 := Fr.app N46 N47q
  show Go _ _ _ (T47.setTop (mkF m 204 #[.val (.long q1), .second, .val (.int p2), .val (.int p3), .val (.int (p2 &&& (3 : Int32))), .val (.int (p3.toInt8.toInt32)), .val (.ref b1)] [(.int (f2 (4 : Int32) (p2 &&& (3 : Int32)) q1 (p3.toInt8.toInt32) (own_at (own_txt q1 (p2 &&& (3 : Int32)) ((p3.toInt8.toInt32).toInt8.toInt32)) (4 : Int32))))])) _
  refine Go.st (fun t k => XS.ifNo X47.here hx rfl (hb hby at_204) rfl ((if0 _ _).trans (feq (show ¬ ((f2 (4 : Int32) (p2 &&& (3 : Int32)) q1 (p3.toInt8.toInt32) (own_at (own_txt q1 (p2 &&& (3 : Int32)) ((p3.toInt8.toInt32).toInt8.toInt32)) (4 : Int32))) = (0 : Int32)) from (own_ok q1 p2 p3 4 (by decide)))).1) k) ?_
  show Go _ _ _ (T47.setTop (mkF m 207 #[.val (.long q1), .second, .val (.int p2), .val (.int p3), .val (.int (p2 &&& (3 : Int32))), .val (.int (p3.toInt8.toInt32)), .val (.ref b1)] [])) _
  refine Go.st (fun t k => XS.aload X47.here hx rfl (hb hby at_207) rfl rfl k) ?_
  refine Go.st (fun t k => XS.iconst X47.here hx rfl (hb hby at_209) k) ?_
  refine Go.st (fun t k => XS.iload X47.here hx rfl (hb hby at_210) rfl k) ?_
  refine Go.st (fun t k => XS.lloadN X47.here hx rfl (hb hby at_212) rfl k) ?_
  refine Go.st (fun t k => XS.iload X47.here hx rfl (hb hby at_213) rfl k) ?_
  obtain ⟨_, _, ⟨T48, L48, k48, n48⟩, -, X48, ⟨Lc48, hQ48, l48, y48, z48⟩, st48⟩ := Jvm.LawKit.callS X47 hx (y := (⟨"com/example/piece/piece/span/HexWritePinLaw", "ok", "([BIIJB)Z"⟩ : MethodName)) hown (mvT hZ (wd8 hw)) (mvT hZ (wd9 hw)) (mvT hZ (wd10 hw)) (mvT hZ (wd11 hw)) (by decide) (backOf (W := 0) (rm2 l Z a0 hw [] b1 (5 : Int32) (p2 &&& (3 : Int32)) q1 (p3.toInt8.toInt32) k1 (List.map Value.int (own_txt q1 (p2 &&& (3 : Int32)) ((p3.toInt8.toInt32).toInt8.toInt32))) (own_at (own_txt q1 (p2 &&& (3 : Int32)) ((p3.toInt8.toInt32).toInt8.toInt32)) (5 : Int32)) h42 n0 Z0 V_b1 (by decide) (own_atv _ _)) hZ (wd11 hw) (wd10 hw) (by decide) (by decide)) (g := (mkF m 215 #[.val (.long q1), .second, .val (.int p2), .val (.int p3), .val (.int (p2 &&& (3 : Int32))), .val (.int (p3.toInt8.toInt32)), .val (.ref b1)] [(.int (p3.toInt8.toInt32)), (.long q1), (.int (p2 &&& (3 : Int32))), (.int 5), (.ref b1)])) rfl (by rw [hml]; rfl) (argsL := [(.ref b1), (.int (5 : Int32)), (.int (p2 &&& (3 : Int32))), (.long q1), (.int (p3.toInt8.toInt32))]) (rest := []) (lenOf pd1 rfl) rfl (by show 2 * 0 + _ ≤ _; exact Nat.le_of_eq rfl) (hb hby at_215) (fun _ _ => ⟨rfl, e47, (by decide : 1 + 0 ≤ _), (by decide : 20 + 0 ≤ _)⟩)
  dsimp only [Pt.U, Pt.locs, Pt.cells, Pt.slots] at X48 l48 y48 z48 st48 hQ48
  subst l48 y48 z48
  refine Go.st st48 ?_
  obtain ⟨rfl, N48q, e48⟩ := hQ48
  have N48 := Fr.app N47 N48q
  show Go _ _ _ (T48.setTop (mkF m 218 #[.val (.long q1), .second, .val (.int p2), .val (.int p3), .val (.int (p2 &&& (3 : Int32))), .val (.int (p3.toInt8.toInt32)), .val (.ref b1)] [(.int (f2 (5 : Int32) (p2 &&& (3 : Int32)) q1 (p3.toInt8.toInt32) (own_at (own_txt q1 (p2 &&& (3 : Int32)) ((p3.toInt8.toInt32).toInt8.toInt32)) (5 : Int32))))])) _
  refine Go.st (fun t k => XS.ifNo X48.here hx rfl (hb hby at_218) rfl ((if0 _ _).trans (feq (show ¬ ((f2 (5 : Int32) (p2 &&& (3 : Int32)) q1 (p3.toInt8.toInt32) (own_at (own_txt q1 (p2 &&& (3 : Int32)) ((p3.toInt8.toInt32).toInt8.toInt32)) (5 : Int32))) = (0 : Int32)) from (own_ok q1 p2 p3 5 (by decide)))).1) k) ?_
  show Go _ _ _ (T48.setTop (mkF m 221 #[.val (.long q1), .second, .val (.int p2), .val (.int p3), .val (.int (p2 &&& (3 : Int32))), .val (.int (p3.toInt8.toInt32)), .val (.ref b1)] [])) _
  refine Go.st (fun t k => XS.aload X48.here hx rfl (hb hby at_221) rfl rfl k) ?_
  refine Go.st (fun t k => XS.bipush X48.here hx rfl (hb hby at_223) k) ?_
  refine Go.st (fun t k => XS.iload X48.here hx rfl (hb hby at_225) rfl k) ?_
  refine Go.st (fun t k => XS.lloadN X48.here hx rfl (hb hby at_227) rfl k) ?_
  refine Go.st (fun t k => XS.iload X48.here hx rfl (hb hby at_228) rfl k) ?_
  obtain ⟨_, _, ⟨T49, L49, k49, n49⟩, -, X49, ⟨Lc49, hQ49, l49, y49, z49⟩, st49⟩ := Jvm.LawKit.callS X48 hx (y := (⟨"com/example/piece/piece/span/HexWritePinLaw", "ok", "([BIIJB)Z"⟩ : MethodName)) hown (mvT hZ (wd8 hw)) (mvT hZ (wd9 hw)) (mvT hZ (wd10 hw)) (mvT hZ (wd11 hw)) (by decide) (backOf (W := 0) (rm2 l Z a0 hw [] b1 (6 : Int32) (p2 &&& (3 : Int32)) q1 (p3.toInt8.toInt32) k1 (List.map Value.int (own_txt q1 (p2 &&& (3 : Int32)) ((p3.toInt8.toInt32).toInt8.toInt32))) (own_at (own_txt q1 (p2 &&& (3 : Int32)) ((p3.toInt8.toInt32).toInt8.toInt32)) (6 : Int32)) h42 n0 Z0 V_b1 (by decide) (own_atv _ _)) hZ (wd11 hw) (wd10 hw) (by decide) (by decide)) (g := (mkF m 230 #[.val (.long q1), .second, .val (.int p2), .val (.int p3), .val (.int (p2 &&& (3 : Int32))), .val (.int (p3.toInt8.toInt32)), .val (.ref b1)] [(.int (p3.toInt8.toInt32)), (.long q1), (.int (p2 &&& (3 : Int32))), (.int 6), (.ref b1)])) rfl (by rw [hml]; rfl) (argsL := [(.ref b1), (.int (6 : Int32)), (.int (p2 &&& (3 : Int32))), (.long q1), (.int (p3.toInt8.toInt32))]) (rest := []) (lenOf pd1 rfl) rfl (by show 2 * 0 + _ ≤ _; exact Nat.le_of_eq rfl) (hb hby at_230) (fun _ _ => ⟨rfl, e48, (by decide : 1 + 0 ≤ _), (by decide : 20 + 0 ≤ _)⟩)
  dsimp only [Pt.U, Pt.locs, Pt.cells, Pt.slots] at X49 l49 y49 z49 st49 hQ49
  subst l49 y49 z49
  refine Go.st st49 ?_
  obtain ⟨rfl, N49q, e49⟩ := hQ49
  have N49 := Fr.app N48 N49q
  obtain ⟨LL49, X49, N49⟩ : ∃ LL, Stand p l e room_1 s m #[(.long q1), (.int p2), (.int p3)] below meth c T49 LL 1 20 ∧ Fr n0 LL := ⟨_, X49, N49⟩
  show Go _ _ _ (T49.setTop (mkF m 233 #[.val (.long q1), .second, .val (.int p2), .val (.int p3), .val (.int (p2 &&& (3 : Int32))), .val (.int (p3.toInt8.toInt32)), .val (.ref b1)] [(.int (f2 (6 : Int32) (p2 &&& (3 : Int32)) q1 (p3.toInt8.toInt32) (own_at (own_txt q1 (p2 &&& (3 : Int32)) ((p3.toInt8.toInt32).toInt8.toInt32)) (6 : Int32))))])) _
  refine Go.st (fun t k => XS.ifNo X49.here hx rfl (hb hby at_233) rfl ((if0 _ _).trans (feq (show ¬ ((f2 (6 : Int32) (p2 &&& (3 : Int32)) q1 (p3.toInt8.toInt32) (own_at (own_txt q1 (p2 &&& (3 : Int32)) ((p3.toInt8.toInt32).toInt8.toInt32)) (6 : Int32))) = (0 : Int32)) from (own_ok q1 p2 p3 6 (by decide)))).1) k) ?_
  show Go _ _ _ (T49.setTop (mkF m 236 #[.val (.long q1), .second, .val (.int p2), .val (.int p3), .val (.int (p2 &&& (3 : Int32))), .val (.int (p3.toInt8.toInt32)), .val (.ref b1)] [])) _
  refine Go.st (fun t k => XS.aload X49.here hx rfl (hb hby at_236) rfl rfl k) ?_
  refine Go.st (fun t k => XS.bipush X49.here hx rfl (hb hby at_238) k) ?_
  refine Go.st (fun t k => XS.iload X49.here hx rfl (hb hby at_240) rfl k) ?_
  refine Go.st (fun t k => XS.lloadN X49.here hx rfl (hb hby at_242) rfl k) ?_
  refine Go.st (fun t k => XS.iload X49.here hx rfl (hb hby at_243) rfl k) ?_
  obtain ⟨_, _, ⟨T50, L50, k50, n50⟩, -, X50, ⟨Lc50, hQ50, l50, y50, z50⟩, st50⟩ := Jvm.LawKit.callS X49 hx (y := (⟨"com/example/piece/piece/span/HexWritePinLaw", "ok", "([BIIJB)Z"⟩ : MethodName)) hown (mvT hZ (wd8 hw)) (mvT hZ (wd9 hw)) (mvT hZ (wd10 hw)) (mvT hZ (wd11 hw)) (by decide) (backOf (W := 0) (rm2 l Z a0 hw [] b1 (7 : Int32) (p2 &&& (3 : Int32)) q1 (p3.toInt8.toInt32) k1 (List.map Value.int (own_txt q1 (p2 &&& (3 : Int32)) ((p3.toInt8.toInt32).toInt8.toInt32))) (own_at (own_txt q1 (p2 &&& (3 : Int32)) ((p3.toInt8.toInt32).toInt8.toInt32)) (7 : Int32)) h42 n0 Z0 V_b1 (by decide) (own_atv _ _)) hZ (wd11 hw) (wd10 hw) (by decide) (by decide)) (g := (mkF m 245 #[.val (.long q1), .second, .val (.int p2), .val (.int p3), .val (.int (p2 &&& (3 : Int32))), .val (.int (p3.toInt8.toInt32)), .val (.ref b1)] [(.int (p3.toInt8.toInt32)), (.long q1), (.int (p2 &&& (3 : Int32))), (.int 7), (.ref b1)])) rfl (by rw [hml]; rfl) (argsL := [(.ref b1), (.int (7 : Int32)), (.int (p2 &&& (3 : Int32))), (.long q1), (.int (p3.toInt8.toInt32))]) (rest := []) (lenOf pd1 rfl) rfl (by show 2 * 0 + _ ≤ _; exact Nat.le_of_eq rfl) (hb hby at_245) (fun _ _ => ⟨rfl, e49, (by decide : 1 + 0 ≤ _), (by decide : 20 + 0 ≤ _)⟩)
  dsimp only [Pt.U, Pt.locs, Pt.cells, Pt.slots] at X50 l50 y50 z50 st50 hQ50
  subst l50 y50 z50
  refine Go.st st50 ?_
  obtain ⟨rfl, N50q, e50⟩ := hQ50
  have N50 := Fr.app N49 N50q
  show Go _ _ _ (T50.setTop (mkF m 248 #[.val (.long q1), .second, .val (.int p2), .val (.int p3), .val (.int (p2 &&& (3 : Int32))), .val (.int (p3.toInt8.toInt32)), .val (.ref b1)] [(.int (f2 (7 : Int32) (p2 &&& (3 : Int32)) q1 (p3.toInt8.toInt32) (own_at (own_txt q1 (p2 &&& (3 : Int32)) ((p3.toInt8.toInt32).toInt8.toInt32)) (7 : Int32))))])) _
  refine Go.st (fun t k => XS.ifNo X50.here hx rfl (hb hby at_248) rfl ((if0 _ _).trans (feq (show ¬ ((f2 (7 : Int32) (p2 &&& (3 : Int32)) q1 (p3.toInt8.toInt32) (own_at (own_txt q1 (p2 &&& (3 : Int32)) ((p3.toInt8.toInt32).toInt8.toInt32)) (7 : Int32))) = (0 : Int32)) from (own_ok q1 p2 p3 7 (by decide)))).1) k) ?_
  show Go _ _ _ (T50.setTop (mkF m 251 #[.val (.long q1), .second, .val (.int p2), .val (.int p3), .val (.int (p2 &&& (3 : Int32))), .val (.int (p3.toInt8.toInt32)), .val (.ref b1)] [])) _
  refine Go.st (fun t k => XS.aload X50.here hx rfl (hb hby at_251) rfl rfl k) ?_
  refine Go.st (fun t k => XS.bipush X50.here hx rfl (hb hby at_253) k) ?_
  refine Go.st (fun t k => XS.iload X50.here hx rfl (hb hby at_255) rfl k) ?_
  refine Go.st (fun t k => XS.lloadN X50.here hx rfl (hb hby at_257) rfl k) ?_
  refine Go.st (fun t k => XS.iload X50.here hx rfl (hb hby at_258) rfl k) ?_
  obtain ⟨_, _, ⟨T51, L51, k51, n51⟩, -, X51, ⟨Lc51, hQ51, l51, y51, z51⟩, st51⟩ := Jvm.LawKit.callS X50 hx (y := (⟨"com/example/piece/piece/span/HexWritePinLaw", "ok", "([BIIJB)Z"⟩ : MethodName)) hown (mvT hZ (wd8 hw)) (mvT hZ (wd9 hw)) (mvT hZ (wd10 hw)) (mvT hZ (wd11 hw)) (by decide) (backOf (W := 0) (rm2 l Z a0 hw [] b1 (8 : Int32) (p2 &&& (3 : Int32)) q1 (p3.toInt8.toInt32) k1 (List.map Value.int (own_txt q1 (p2 &&& (3 : Int32)) ((p3.toInt8.toInt32).toInt8.toInt32))) (own_at (own_txt q1 (p2 &&& (3 : Int32)) ((p3.toInt8.toInt32).toInt8.toInt32)) (8 : Int32)) h42 n0 Z0 V_b1 (by decide) (own_atv _ _)) hZ (wd11 hw) (wd10 hw) (by decide) (by decide)) (g := (mkF m 260 #[.val (.long q1), .second, .val (.int p2), .val (.int p3), .val (.int (p2 &&& (3 : Int32))), .val (.int (p3.toInt8.toInt32)), .val (.ref b1)] [(.int (p3.toInt8.toInt32)), (.long q1), (.int (p2 &&& (3 : Int32))), (.int 8), (.ref b1)])) rfl (by rw [hml]; rfl) (argsL := [(.ref b1), (.int (8 : Int32)), (.int (p2 &&& (3 : Int32))), (.long q1), (.int (p3.toInt8.toInt32))]) (rest := []) (lenOf pd1 rfl) rfl (by show 2 * 0 + _ ≤ _; exact Nat.le_of_eq rfl) (hb hby at_260) (fun _ _ => ⟨rfl, e50, (by decide : 1 + 0 ≤ _), (by decide : 20 + 0 ≤ _)⟩)
  dsimp only [Pt.U, Pt.locs, Pt.cells, Pt.slots] at X51 l51 y51 z51 st51 hQ51
  subst l51 y51 z51
  refine Go.st st51 ?_
  obtain ⟨rfl, N51q, e51⟩ := hQ51
  have N51 := Fr.app N50 N51q
  show Go _ _ _ (T51.setTop (mkF m 263 #[.val (.long q1), .second, .val (.int p2), .val (.int p3), .val (.int (p2 &&& (3 : Int32))), .val (.int (p3.toInt8.toInt32)), .val (.ref b1)] [(.int (f2 (8 : Int32) (p2 &&& (3 : Int32)) q1 (p3.toInt8.toInt32) (own_at (own_txt q1 (p2 &&& (3 : Int32)) ((p3.toInt8.toInt32).toInt8.toInt32)) (8 : Int32))))])) _
  refine Go.st (fun t k => XS.ifNo X51.here hx rfl (hb hby at_263) rfl ((if0 _ _).trans (feq (show ¬ ((f2 (8 : Int32) (p2 &&& (3 : Int32)) q1 (p3.toInt8.toInt32) (own_at (own_txt q1 (p2 &&& (3 : Int32)) ((p3.toInt8.toInt32).toInt8.toInt32)) (8 : Int32))) = (0 : Int32)) from (own_ok q1 p2 p3 8 (by decide)))).1) k) ?_
  show Go _ _ _ (T51.setTop (mkF m 266 #[.val (.long q1), .second, .val (.int p2), .val (.int p3), .val (.int (p2 &&& (3 : Int32))), .val (.int (p3.toInt8.toInt32)), .val (.ref b1)] [])) _
  refine Go.st (fun t k => XS.aload X51.here hx rfl (hb hby at_266) rfl rfl k) ?_
  refine Go.st (fun t k => XS.bipush X51.here hx rfl (hb hby at_268) k) ?_
  refine Go.st (fun t k => XS.iload X51.here hx rfl (hb hby at_270) rfl k) ?_
  refine Go.st (fun t k => XS.lloadN X51.here hx rfl (hb hby at_272) rfl k) ?_
  refine Go.st (fun t k => XS.iload X51.here hx rfl (hb hby at_273) rfl k) ?_
  obtain ⟨_, _, ⟨T52, L52, k52, n52⟩, -, X52, ⟨Lc52, hQ52, l52, y52, z52⟩, st52⟩ := Jvm.LawKit.callS X51 hx (y := (⟨"com/example/piece/piece/span/HexWritePinLaw", "ok", "([BIIJB)Z"⟩ : MethodName)) hown (mvT hZ (wd8 hw)) (mvT hZ (wd9 hw)) (mvT hZ (wd10 hw)) (mvT hZ (wd11 hw)) (by decide) (backOf (W := 0) (rm2 l Z a0 hw [] b1 (9 : Int32) (p2 &&& (3 : Int32)) q1 (p3.toInt8.toInt32) k1 (List.map Value.int (own_txt q1 (p2 &&& (3 : Int32)) ((p3.toInt8.toInt32).toInt8.toInt32))) (own_at (own_txt q1 (p2 &&& (3 : Int32)) ((p3.toInt8.toInt32).toInt8.toInt32)) (9 : Int32)) h42 n0 Z0 V_b1 (by decide) (own_atv _ _)) hZ (wd11 hw) (wd10 hw) (by decide) (by decide)) (g := (mkF m 275 #[.val (.long q1), .second, .val (.int p2), .val (.int p3), .val (.int (p2 &&& (3 : Int32))), .val (.int (p3.toInt8.toInt32)), .val (.ref b1)] [(.int (p3.toInt8.toInt32)), (.long q1), (.int (p2 &&& (3 : Int32))), (.int 9), (.ref b1)])) rfl (by rw [hml]; rfl) (argsL := [(.ref b1), (.int (9 : Int32)), (.int (p2 &&& (3 : Int32))), (.long q1), (.int (p3.toInt8.toInt32))]) (rest := []) (lenOf pd1 rfl) rfl (by show 2 * 0 + _ ≤ _; exact Nat.le_of_eq rfl) (hb hby at_275) (fun _ _ => ⟨rfl, e51, (by decide : 1 + 0 ≤ _), (by decide : 20 + 0 ≤ _)⟩)
  dsimp only [Pt.U, Pt.locs, Pt.cells, Pt.slots] at X52 l52 y52 z52 st52 hQ52
  subst l52 y52 z52
  refine Go.st st52 ?_
  obtain ⟨rfl, N52q, e52⟩ := hQ52
  have N52 := Fr.app N51 N52q
  show Go _ _ _ (T52.setTop (mkF m 278 #[.val (.long q1), .second, .val (.int p2), .val (.int p3), .val (.int (p2 &&& (3 : Int32))), .val (.int (p3.toInt8.toInt32)), .val (.ref b1)] [(.int (f2 (9 : Int32) (p2 &&& (3 : Int32)) q1 (p3.toInt8.toInt32) (own_at (own_txt q1 (p2 &&& (3 : Int32)) ((p3.toInt8.toInt32).toInt8.toInt32)) (9 : Int32))))])) _
  refine Go.st (fun t k => XS.ifNo X52.here hx rfl (hb hby at_278) rfl ((if0 _ _).trans (feq (show ¬ ((f2 (9 : Int32) (p2 &&& (3 : Int32)) q1 (p3.toInt8.toInt32) (own_at (own_txt q1 (p2 &&& (3 : Int32)) ((p3.toInt8.toInt32).toInt8.toInt32)) (9 : Int32))) = (0 : Int32)) from (own_ok q1 p2 p3 9 (by decide)))).1) k) ?_
  show Go _ _ _ (T52.setTop (mkF m 281 #[.val (.long q1), .second, .val (.int p2), .val (.int p3), .val (.int (p2 &&& (3 : Int32))), .val (.int (p3.toInt8.toInt32)), .val (.ref b1)] [])) _
  refine Go.st (fun t k => XS.aload X52.here hx rfl (hb hby at_281) rfl rfl k) ?_
  refine Go.st (fun t k => XS.bipush X52.here hx rfl (hb hby at_283) k) ?_
  refine Go.st (fun t k => XS.iload X52.here hx rfl (hb hby at_285) rfl k) ?_
  refine Go.st (fun t k => XS.lloadN X52.here hx rfl (hb hby at_287) rfl k) ?_
  refine Go.st (fun t k => XS.iload X52.here hx rfl (hb hby at_288) rfl k) ?_
  obtain ⟨_, _, ⟨T53, L53, k53, n53⟩, -, X53, ⟨Lc53, hQ53, l53, y53, z53⟩, st53⟩ := Jvm.LawKit.callS X52 hx (y := (⟨"com/example/piece/piece/span/HexWritePinLaw", "ok", "([BIIJB)Z"⟩ : MethodName)) hown (mvT hZ (wd8 hw)) (mvT hZ (wd9 hw)) (mvT hZ (wd10 hw)) (mvT hZ (wd11 hw)) (by decide) (backOf (W := 0) (rm2 l Z a0 hw [] b1 (10 : Int32) (p2 &&& (3 : Int32)) q1 (p3.toInt8.toInt32) k1 (List.map Value.int (own_txt q1 (p2 &&& (3 : Int32)) ((p3.toInt8.toInt32).toInt8.toInt32))) (own_at (own_txt q1 (p2 &&& (3 : Int32)) ((p3.toInt8.toInt32).toInt8.toInt32)) (10 : Int32)) h42 n0 Z0 V_b1 (by decide) (own_atv _ _)) hZ (wd11 hw) (wd10 hw) (by decide) (by decide)) (g := (mkF m 290 #[.val (.long q1), .second, .val (.int p2), .val (.int p3), .val (.int (p2 &&& (3 : Int32))), .val (.int (p3.toInt8.toInt32)), .val (.ref b1)] [(.int (p3.toInt8.toInt32)), (.long q1), (.int (p2 &&& (3 : Int32))), (.int 10), (.ref b1)])) rfl (by rw [hml]; rfl) (argsL := [(.ref b1), (.int (10 : Int32)), (.int (p2 &&& (3 : Int32))), (.long q1), (.int (p3.toInt8.toInt32))]) (rest := []) (lenOf pd1 rfl) rfl (by show 2 * 0 + _ ≤ _; exact Nat.le_of_eq rfl) (hb hby at_290) (fun _ _ => ⟨rfl, e52, (by decide : 1 + 0 ≤ _), (by decide : 20 + 0 ≤ _)⟩)
  dsimp only [Pt.U, Pt.locs, Pt.cells, Pt.slots] at X53 l53 y53 z53 st53 hQ53
  subst l53 y53 z53
  refine Go.st st53 ?_
  obtain ⟨rfl, N53q, e53⟩ := hQ53
  have N53 := Fr.app N52 N53q
  obtain ⟨LL53, X53, N53⟩ : ∃ LL, Stand p l e room_1 s m #[(.long q1), (.int p2), (.int p3)] below meth c T53 LL 1 20 ∧ Fr n0 LL := ⟨_, X53, N53⟩
  show Go _ _ _ (T53.setTop (mkF m 293 #[.val (.long q1), .second, .val (.int p2), .val (.int p3), .val (.int (p2 &&& (3 : Int32))), .val (.int (p3.toInt8.toInt32)), .val (.ref b1)] [(.int (f2 (10 : Int32) (p2 &&& (3 : Int32)) q1 (p3.toInt8.toInt32) (own_at (own_txt q1 (p2 &&& (3 : Int32)) ((p3.toInt8.toInt32).toInt8.toInt32)) (10 : Int32))))])) _
  refine Go.st (fun t k => XS.ifNo X53.here hx rfl (hb hby at_293) rfl ((if0 _ _).trans (feq (show ¬ ((f2 (10 : Int32) (p2 &&& (3 : Int32)) q1 (p3.toInt8.toInt32) (own_at (own_txt q1 (p2 &&& (3 : Int32)) ((p3.toInt8.toInt32).toInt8.toInt32)) (10 : Int32))) = (0 : Int32)) from (own_ok q1 p2 p3 10 (by decide)))).1) k) ?_
  show Go _ _ _ (T53.setTop (mkF m 296 #[.val (.long q1), .second, .val (.int p2), .val (.int p3), .val (.int (p2 &&& (3 : Int32))), .val (.int (p3.toInt8.toInt32)), .val (.ref b1)] [])) _
  refine Go.st (fun t k => XS.aload X53.here hx rfl (hb hby at_296) rfl rfl k) ?_
  refine Go.st (fun t k => XS.bipush X53.here hx rfl (hb hby at_298) k) ?_
  refine Go.st (fun t k => XS.iload X53.here hx rfl (hb hby at_300) rfl k) ?_
  refine Go.st (fun t k => XS.lloadN X53.here hx rfl (hb hby at_302) rfl k) ?_
  refine Go.st (fun t k => XS.iload X53.here hx rfl (hb hby at_303) rfl k) ?_
  obtain ⟨_, _, ⟨T54, L54, k54, n54⟩, -, X54, ⟨Lc54, hQ54, l54, y54, z54⟩, st54⟩ := Jvm.LawKit.callS X53 hx (y := (⟨"com/example/piece/piece/span/HexWritePinLaw", "ok", "([BIIJB)Z"⟩ : MethodName)) hown (mvT hZ (wd8 hw)) (mvT hZ (wd9 hw)) (mvT hZ (wd10 hw)) (mvT hZ (wd11 hw)) (by decide) (backOf (W := 0) (rm2 l Z a0 hw [] b1 (11 : Int32) (p2 &&& (3 : Int32)) q1 (p3.toInt8.toInt32) k1 (List.map Value.int (own_txt q1 (p2 &&& (3 : Int32)) ((p3.toInt8.toInt32).toInt8.toInt32))) (own_at (own_txt q1 (p2 &&& (3 : Int32)) ((p3.toInt8.toInt32).toInt8.toInt32)) (11 : Int32)) h42 n0 Z0 V_b1 (by decide) (own_atv _ _)) hZ (wd11 hw) (wd10 hw) (by decide) (by decide)) (g := (mkF m 305 #[.val (.long q1), .second, .val (.int p2), .val (.int p3), .val (.int (p2 &&& (3 : Int32))), .val (.int (p3.toInt8.toInt32)), .val (.ref b1)] [(.int (p3.toInt8.toInt32)), (.long q1), (.int (p2 &&& (3 : Int32))), (.int 11), (.ref b1)])) rfl (by rw [hml]; rfl) (argsL := [(.ref b1), (.int (11 : Int32)), (.int (p2 &&& (3 : Int32))), (.long q1), (.int (p3.toInt8.toInt32))]) (rest := []) (lenOf pd1 rfl) rfl (by show 2 * 0 + _ ≤ _; exact Nat.le_of_eq rfl) (hb hby at_305) (fun _ _ => ⟨rfl, e53, (by decide : 1 + 0 ≤ _), (by decide : 20 + 0 ≤ _)⟩)
  dsimp only [Pt.U, Pt.locs, Pt.cells, Pt.slots] at X54 l54 y54 z54 st54 hQ54
  subst l54 y54 z54
  refine Go.st st54 ?_
  obtain ⟨rfl, N54q, e54⟩ := hQ54
  have N54 := Fr.app N53 N54q
  show Go _ _ _ (T54.setTop (mkF m 308 #[.val (.long q1), .second, .val (.int p2), .val (.int p3), .val (.int (p2 &&& (3 : Int32))), .val (.int (p3.toInt8.toInt32)), .val (.ref b1)] [(.int (f2 (11 : Int32) (p2 &&& (3 : Int32)) q1 (p3.toInt8.toInt32) (own_at (own_txt q1 (p2 &&& (3 : Int32)) ((p3.toInt8.toInt32).toInt8.toInt32)) (11 : Int32))))])) _
  refine Go.st (fun t k => XS.ifNo X54.here hx rfl (hb hby at_308) rfl ((if0 _ _).trans (feq (show ¬ ((f2 (11 : Int32) (p2 &&& (3 : Int32)) q1 (p3.toInt8.toInt32) (own_at (own_txt q1 (p2 &&& (3 : Int32)) ((p3.toInt8.toInt32).toInt8.toInt32)) (11 : Int32))) = (0 : Int32)) from (own_ok q1 p2 p3 11 (by decide)))).1) k) ?_
  show Go _ _ _ (T54.setTop (mkF m 311 #[.val (.long q1), .second, .val (.int p2), .val (.int p3), .val (.int (p2 &&& (3 : Int32))), .val (.int (p3.toInt8.toInt32)), .val (.ref b1)] [])) _
  refine Go.st (fun t k => XS.aload X54.here hx rfl (hb hby at_311) rfl rfl k) ?_
  refine Go.st (fun t k => XS.bipush X54.here hx rfl (hb hby at_313) k) ?_
  refine Go.st (fun t k => XS.iload X54.here hx rfl (hb hby at_315) rfl k) ?_
  refine Go.st (fun t k => XS.lloadN X54.here hx rfl (hb hby at_317) rfl k) ?_
  refine Go.st (fun t k => XS.iload X54.here hx rfl (hb hby at_318) rfl k) ?_
  obtain ⟨_, _, ⟨T55, L55, k55, n55⟩, -, X55, ⟨Lc55, hQ55, l55, y55, z55⟩, st55⟩ := Jvm.LawKit.callS X54 hx (y := (⟨"com/example/piece/piece/span/HexWritePinLaw", "ok", "([BIIJB)Z"⟩ : MethodName)) hown (mvT hZ (wd8 hw)) (mvT hZ (wd9 hw)) (mvT hZ (wd10 hw)) (mvT hZ (wd11 hw)) (by decide) (backOf (W := 0) (rm2 l Z a0 hw [] b1 (12 : Int32) (p2 &&& (3 : Int32)) q1 (p3.toInt8.toInt32) k1 (List.map Value.int (own_txt q1 (p2 &&& (3 : Int32)) ((p3.toInt8.toInt32).toInt8.toInt32))) (own_at (own_txt q1 (p2 &&& (3 : Int32)) ((p3.toInt8.toInt32).toInt8.toInt32)) (12 : Int32)) h42 n0 Z0 V_b1 (by decide) (own_atv _ _)) hZ (wd11 hw) (wd10 hw) (by decide) (by decide)) (g := (mkF m 320 #[.val (.long q1), .second, .val (.int p2), .val (.int p3), .val (.int (p2 &&& (3 : Int32))), .val (.int (p3.toInt8.toInt32)), .val (.ref b1)] [(.int (p3.toInt8.toInt32)), (.long q1), (.int (p2 &&& (3 : Int32))), (.int 12), (.ref b1)])) rfl (by rw [hml]; rfl) (argsL := [(.ref b1), (.int (12 : Int32)), (.int (p2 &&& (3 : Int32))), (.long q1), (.int (p3.toInt8.toInt32))]) (rest := []) (lenOf pd1 rfl) rfl (by show 2 * 0 + _ ≤ _; exact Nat.le_of_eq rfl) (hb hby at_320) (fun _ _ => ⟨rfl, e54, (by decide : 1 + 0 ≤ _), (by decide : 20 + 0 ≤ _)⟩)
  dsimp only [Pt.U, Pt.locs, Pt.cells, Pt.slots] at X55 l55 y55 z55 st55 hQ55
  subst l55 y55 z55
  refine Go.st st55 ?_
  obtain ⟨rfl, N55q, e55⟩ := hQ55
  have N55 := Fr.app N54 N55q
  show Go _ _ _ (T55.setTop (mkF m 323 #[.val (.long q1), .second, .val (.int p2), .val (.int p3), .val (.int (p2 &&& (3 : Int32))), .val (.int (p3.toInt8.toInt32)), .val (.ref b1)] [(.int (f2 (12 : Int32) (p2 &&& (3 : Int32)) q1 (p3.toInt8.toInt32) (own_at (own_txt q1 (p2 &&& (3 : Int32)) ((p3.toInt8.toInt32).toInt8.toInt32)) (12 : Int32))))])) _
  refine Go.st (fun t k => XS.ifNo X55.here hx rfl (hb hby at_323) rfl ((if0 _ _).trans (feq (show ¬ ((f2 (12 : Int32) (p2 &&& (3 : Int32)) q1 (p3.toInt8.toInt32) (own_at (own_txt q1 (p2 &&& (3 : Int32)) ((p3.toInt8.toInt32).toInt8.toInt32)) (12 : Int32))) = (0 : Int32)) from (own_ok q1 p2 p3 12 (by decide)))).1) k) ?_
  show Go _ _ _ (T55.setTop (mkF m 326 #[.val (.long q1), .second, .val (.int p2), .val (.int p3), .val (.int (p2 &&& (3 : Int32))), .val (.int (p3.toInt8.toInt32)), .val (.ref b1)] [])) _
  refine Go.st (fun t k => XS.aload X55.here hx rfl (hb hby at_326) rfl rfl k) ?_
  refine Go.st (fun t k => XS.bipush X55.here hx rfl (hb hby at_328) k) ?_
  refine Go.st (fun t k => XS.iload X55.here hx rfl (hb hby at_330) rfl k) ?_
  refine Go.st (fun t k => XS.lloadN X55.here hx rfl (hb hby at_332) rfl k) ?_
  refine Go.st (fun t k => XS.iload X55.here hx rfl (hb hby at_333) rfl k) ?_
  obtain ⟨_, _, ⟨T56, L56, k56, n56⟩, -, X56, ⟨Lc56, hQ56, l56, y56, z56⟩, st56⟩ := Jvm.LawKit.callS X55 hx (y := (⟨"com/example/piece/piece/span/HexWritePinLaw", "ok", "([BIIJB)Z"⟩ : MethodName)) hown (mvT hZ (wd8 hw)) (mvT hZ (wd9 hw)) (mvT hZ (wd10 hw)) (mvT hZ (wd11 hw)) (by decide) (backOf (W := 0) (rm2 l Z a0 hw [] b1 (13 : Int32) (p2 &&& (3 : Int32)) q1 (p3.toInt8.toInt32) k1 (List.map Value.int (own_txt q1 (p2 &&& (3 : Int32)) ((p3.toInt8.toInt32).toInt8.toInt32))) (own_at (own_txt q1 (p2 &&& (3 : Int32)) ((p3.toInt8.toInt32).toInt8.toInt32)) (13 : Int32)) h42 n0 Z0 V_b1 (by decide) (own_atv _ _)) hZ (wd11 hw) (wd10 hw) (by decide) (by decide)) (g := (mkF m 335 #[.val (.long q1), .second, .val (.int p2), .val (.int p3), .val (.int (p2 &&& (3 : Int32))), .val (.int (p3.toInt8.toInt32)), .val (.ref b1)] [(.int (p3.toInt8.toInt32)), (.long q1), (.int (p2 &&& (3 : Int32))), (.int 13), (.ref b1)])) rfl (by rw [hml]; rfl) (argsL := [(.ref b1), (.int (13 : Int32)), (.int (p2 &&& (3 : Int32))), (.long q1), (.int (p3.toInt8.toInt32))]) (rest := []) (lenOf pd1 rfl) rfl (by show 2 * 0 + _ ≤ _; exact Nat.le_of_eq rfl) (hb hby at_335) (fun _ _ => ⟨rfl, e55, (by decide : 1 + 0 ≤ _), (by decide : 20 + 0 ≤ _)⟩)
  dsimp only [Pt.U, Pt.locs, Pt.cells, Pt.slots] at X56 l56 y56 z56 st56 hQ56
  subst l56 y56 z56
  refine Go.st st56 ?_
  obtain ⟨rfl, N56q, e56⟩ := hQ56
  have N56 := Fr.app N55 N56q
  show Go _ _ _ (T56.setTop (mkF m 338 #[.val (.long q1), .second, .val (.int p2), .val (.int p3), .val (.int (p2 &&& (3 : Int32))), .val (.int (p3.toInt8.toInt32)), .val (.ref b1)] [(.int (f2 (13 : Int32) (p2 &&& (3 : Int32)) q1 (p3.toInt8.toInt32) (own_at (own_txt q1 (p2 &&& (3 : Int32)) ((p3.toInt8.toInt32).toInt8.toInt32)) (13 : Int32))))])) _
  refine Go.st (fun t k => XS.ifNo X56.here hx rfl (hb hby at_338) rfl ((if0 _ _).trans (feq (show ¬ ((f2 (13 : Int32) (p2 &&& (3 : Int32)) q1 (p3.toInt8.toInt32) (own_at (own_txt q1 (p2 &&& (3 : Int32)) ((p3.toInt8.toInt32).toInt8.toInt32)) (13 : Int32))) = (0 : Int32)) from (own_ok q1 p2 p3 13 (by decide)))).1) k) ?_
  show Go _ _ _ (T56.setTop (mkF m 341 #[.val (.long q1), .second, .val (.int p2), .val (.int p3), .val (.int (p2 &&& (3 : Int32))), .val (.int (p3.toInt8.toInt32)), .val (.ref b1)] [])) _
  refine Go.st (fun t k => XS.aload X56.here hx rfl (hb hby at_341) rfl rfl k) ?_
  refine Go.st (fun t k => XS.bipush X56.here hx rfl (hb hby at_343) k) ?_
  refine Go.st (fun t k => XS.iload X56.here hx rfl (hb hby at_345) rfl k) ?_
  refine Go.st (fun t k => XS.lloadN X56.here hx rfl (hb hby at_347) rfl k) ?_
  refine Go.st (fun t k => XS.iload X56.here hx rfl (hb hby at_348) rfl k) ?_
  obtain ⟨_, _, ⟨T57, L57, k57, n57⟩, -, X57, ⟨Lc57, hQ57, l57, y57, z57⟩, st57⟩ := Jvm.LawKit.callS X56 hx (y := (⟨"com/example/piece/piece/span/HexWritePinLaw", "ok", "([BIIJB)Z"⟩ : MethodName)) hown (mvT hZ (wd8 hw)) (mvT hZ (wd9 hw)) (mvT hZ (wd10 hw)) (mvT hZ (wd11 hw)) (by decide) (backOf (W := 0) (rm2 l Z a0 hw [] b1 (14 : Int32) (p2 &&& (3 : Int32)) q1 (p3.toInt8.toInt32) k1 (List.map Value.int (own_txt q1 (p2 &&& (3 : Int32)) ((p3.toInt8.toInt32).toInt8.toInt32))) (own_at (own_txt q1 (p2 &&& (3 : Int32)) ((p3.toInt8.toInt32).toInt8.toInt32)) (14 : Int32)) h42 n0 Z0 V_b1 (by decide) (own_atv _ _)) hZ (wd11 hw) (wd10 hw) (by decide) (by decide)) (g := (mkF m 350 #[.val (.long q1), .second, .val (.int p2), .val (.int p3), .val (.int (p2 &&& (3 : Int32))), .val (.int (p3.toInt8.toInt32)), .val (.ref b1)] [(.int (p3.toInt8.toInt32)), (.long q1), (.int (p2 &&& (3 : Int32))), (.int 14), (.ref b1)])) rfl (by rw [hml]; rfl) (argsL := [(.ref b1), (.int (14 : Int32)), (.int (p2 &&& (3 : Int32))), (.long q1), (.int (p3.toInt8.toInt32))]) (rest := []) (lenOf pd1 rfl) rfl (by show 2 * 0 + _ ≤ _; exact Nat.le_of_eq rfl) (hb hby at_350) (fun _ _ => ⟨rfl, e56, (by decide : 1 + 0 ≤ _), (by decide : 20 + 0 ≤ _)⟩)
  dsimp only [Pt.U, Pt.locs, Pt.cells, Pt.slots] at X57 l57 y57 z57 st57 hQ57
  subst l57 y57 z57
  refine Go.st st57 ?_
  obtain ⟨rfl, N57q, e57⟩ := hQ57
  have N57 := Fr.app N56 N57q
  obtain ⟨LL57, X57, N57⟩ : ∃ LL, Stand p l e room_1 s m #[(.long q1), (.int p2), (.int p3)] below meth c T57 LL 1 20 ∧ Fr n0 LL := ⟨_, X57, N57⟩
  show Go _ _ _ (T57.setTop (mkF m 353 #[.val (.long q1), .second, .val (.int p2), .val (.int p3), .val (.int (p2 &&& (3 : Int32))), .val (.int (p3.toInt8.toInt32)), .val (.ref b1)] [(.int (f2 (14 : Int32) (p2 &&& (3 : Int32)) q1 (p3.toInt8.toInt32) (own_at (own_txt q1 (p2 &&& (3 : Int32)) ((p3.toInt8.toInt32).toInt8.toInt32)) (14 : Int32))))])) _
  refine Go.st (fun t k => XS.ifNo X57.here hx rfl (hb hby at_353) rfl ((if0 _ _).trans (feq (show ¬ ((f2 (14 : Int32) (p2 &&& (3 : Int32)) q1 (p3.toInt8.toInt32) (own_at (own_txt q1 (p2 &&& (3 : Int32)) ((p3.toInt8.toInt32).toInt8.toInt32)) (14 : Int32))) = (0 : Int32)) from (own_ok q1 p2 p3 14 (by decide)))).1) k) ?_
  show Go _ _ _ (T57.setTop (mkF m 356 #[.val (.long q1), .second, .val (.int p2), .val (.int p3), .val (.int (p2 &&& (3 : Int32))), .val (.int (p3.toInt8.toInt32)), .val (.ref b1)] [])) _
  refine Go.st (fun t k => XS.aload X57.here hx rfl (hb hby at_356) rfl rfl k) ?_
  refine Go.st (fun t k => XS.bipush X57.here hx rfl (hb hby at_358) k) ?_
  refine Go.st (fun t k => XS.iload X57.here hx rfl (hb hby at_360) rfl k) ?_
  refine Go.st (fun t k => XS.lloadN X57.here hx rfl (hb hby at_362) rfl k) ?_
  refine Go.st (fun t k => XS.iload X57.here hx rfl (hb hby at_363) rfl k) ?_
  obtain ⟨_, _, ⟨T58, L58, k58, n58⟩, -, X58, ⟨Lc58, hQ58, l58, y58, z58⟩, st58⟩ := Jvm.LawKit.callS X57 hx (y := (⟨"com/example/piece/piece/span/HexWritePinLaw", "ok", "([BIIJB)Z"⟩ : MethodName)) hown (mvT hZ (wd8 hw)) (mvT hZ (wd9 hw)) (mvT hZ (wd10 hw)) (mvT hZ (wd11 hw)) (by decide) (backOf (W := 0) (rm2 l Z a0 hw [] b1 (15 : Int32) (p2 &&& (3 : Int32)) q1 (p3.toInt8.toInt32) k1 (List.map Value.int (own_txt q1 (p2 &&& (3 : Int32)) ((p3.toInt8.toInt32).toInt8.toInt32))) (own_at (own_txt q1 (p2 &&& (3 : Int32)) ((p3.toInt8.toInt32).toInt8.toInt32)) (15 : Int32)) h42 n0 Z0 V_b1 (by decide) (own_atv _ _)) hZ (wd11 hw) (wd10 hw) (by decide) (by decide)) (g := (mkF m 365 #[.val (.long q1), .second, .val (.int p2), .val (.int p3), .val (.int (p2 &&& (3 : Int32))), .val (.int (p3.toInt8.toInt32)), .val (.ref b1)] [(.int (p3.toInt8.toInt32)), (.long q1), (.int (p2 &&& (3 : Int32))), (.int 15), (.ref b1)])) rfl (by rw [hml]; rfl) (argsL := [(.ref b1), (.int (15 : Int32)), (.int (p2 &&& (3 : Int32))), (.long q1), (.int (p3.toInt8.toInt32))]) (rest := []) (lenOf pd1 rfl) rfl (by show 2 * 0 + _ ≤ _; exact Nat.le_of_eq rfl) (hb hby at_365) (fun _ _ => ⟨rfl, e57, (by decide : 1 + 0 ≤ _), (by decide : 20 + 0 ≤ _)⟩)
  dsimp only [Pt.U, Pt.locs, Pt.cells, Pt.slots] at X58 l58 y58 z58 st58 hQ58
  subst l58 y58 z58
  refine Go.st st58 ?_
  obtain ⟨rfl, N58q, e58⟩ := hQ58
  have N58 := Fr.app N57 N58q
  show Go _ _ _ (T58.setTop (mkF m 368 #[.val (.long q1), .second, .val (.int p2), .val (.int p3), .val (.int (p2 &&& (3 : Int32))), .val (.int (p3.toInt8.toInt32)), .val (.ref b1)] [(.int (f2 (15 : Int32) (p2 &&& (3 : Int32)) q1 (p3.toInt8.toInt32) (own_at (own_txt q1 (p2 &&& (3 : Int32)) ((p3.toInt8.toInt32).toInt8.toInt32)) (15 : Int32))))])) _
  refine Go.st (fun t k => XS.ifNo X58.here hx rfl (hb hby at_368) rfl ((if0 _ _).trans (feq (show ¬ ((f2 (15 : Int32) (p2 &&& (3 : Int32)) q1 (p3.toInt8.toInt32) (own_at (own_txt q1 (p2 &&& (3 : Int32)) ((p3.toInt8.toInt32).toInt8.toInt32)) (15 : Int32))) = (0 : Int32)) from (own_ok q1 p2 p3 15 (by decide)))).1) k) ?_
  show Go _ _ _ (T58.setTop (mkF m 371 #[.val (.long q1), .second, .val (.int p2), .val (.int p3), .val (.int (p2 &&& (3 : Int32))), .val (.int (p3.toInt8.toInt32)), .val (.ref b1)] [])) _
  refine Go.st (fun t k => XS.aload X58.here hx rfl (hb hby at_371) rfl rfl k) ?_
  refine Go.st (fun t k => XS.bipush X58.here hx rfl (hb hby at_373) k) ?_
  refine Go.st (fun t k => XS.iload X58.here hx rfl (hb hby at_375) rfl k) ?_
  refine Go.st (fun t k => XS.lloadN X58.here hx rfl (hb hby at_377) rfl k) ?_
  refine Go.st (fun t k => XS.iload X58.here hx rfl (hb hby at_378) rfl k) ?_
  obtain ⟨_, _, ⟨T59, L59, k59, n59⟩, -, X59, ⟨Lc59, hQ59, l59, y59, z59⟩, st59⟩ := Jvm.LawKit.callS X58 hx (y := (⟨"com/example/piece/piece/span/HexWritePinLaw", "ok", "([BIIJB)Z"⟩ : MethodName)) hown (mvT hZ (wd8 hw)) (mvT hZ (wd9 hw)) (mvT hZ (wd10 hw)) (mvT hZ (wd11 hw)) (by decide) (backOf (W := 0) (rm2 l Z a0 hw [] b1 (16 : Int32) (p2 &&& (3 : Int32)) q1 (p3.toInt8.toInt32) k1 (List.map Value.int (own_txt q1 (p2 &&& (3 : Int32)) ((p3.toInt8.toInt32).toInt8.toInt32))) (own_at (own_txt q1 (p2 &&& (3 : Int32)) ((p3.toInt8.toInt32).toInt8.toInt32)) (16 : Int32)) h42 n0 Z0 V_b1 (by decide) (own_atv _ _)) hZ (wd11 hw) (wd10 hw) (by decide) (by decide)) (g := (mkF m 380 #[.val (.long q1), .second, .val (.int p2), .val (.int p3), .val (.int (p2 &&& (3 : Int32))), .val (.int (p3.toInt8.toInt32)), .val (.ref b1)] [(.int (p3.toInt8.toInt32)), (.long q1), (.int (p2 &&& (3 : Int32))), (.int 16), (.ref b1)])) rfl (by rw [hml]; rfl) (argsL := [(.ref b1), (.int (16 : Int32)), (.int (p2 &&& (3 : Int32))), (.long q1), (.int (p3.toInt8.toInt32))]) (rest := []) (lenOf pd1 rfl) rfl (by show 2 * 0 + _ ≤ _; exact Nat.le_of_eq rfl) (hb hby at_380) (fun _ _ => ⟨rfl, e58, (by decide : 1 + 0 ≤ _), (by decide : 20 + 0 ≤ _)⟩)
  dsimp only [Pt.U, Pt.locs, Pt.cells, Pt.slots] at X59 l59 y59 z59 st59 hQ59
  subst l59 y59 z59
  refine Go.st st59 ?_
  obtain ⟨rfl, N59q, e59⟩ := hQ59
  have N59 := Fr.app N58 N59q
  show Go _ _ _ (T59.setTop (mkF m 383 #[.val (.long q1), .second, .val (.int p2), .val (.int p3), .val (.int (p2 &&& (3 : Int32))), .val (.int (p3.toInt8.toInt32)), .val (.ref b1)] [(.int (f2 (16 : Int32) (p2 &&& (3 : Int32)) q1 (p3.toInt8.toInt32) (own_at (own_txt q1 (p2 &&& (3 : Int32)) ((p3.toInt8.toInt32).toInt8.toInt32)) (16 : Int32))))])) _
  refine Go.st (fun t k => XS.ifNo X59.here hx rfl (hb hby at_383) rfl ((if0 _ _).trans (feq (show ¬ ((f2 (16 : Int32) (p2 &&& (3 : Int32)) q1 (p3.toInt8.toInt32) (own_at (own_txt q1 (p2 &&& (3 : Int32)) ((p3.toInt8.toInt32).toInt8.toInt32)) (16 : Int32))) = (0 : Int32)) from (own_ok q1 p2 p3 16 (by decide)))).1) k) ?_
  show Go _ _ _ (T59.setTop (mkF m 386 #[.val (.long q1), .second, .val (.int p2), .val (.int p3), .val (.int (p2 &&& (3 : Int32))), .val (.int (p3.toInt8.toInt32)), .val (.ref b1)] [])) _
  refine Go.st (fun t k => XS.aload X59.here hx rfl (hb hby at_386) rfl rfl k) ?_
  refine Go.st (fun t k => XS.bipush X59.here hx rfl (hb hby at_388) k) ?_
  refine Go.st (fun t k => XS.iload X59.here hx rfl (hb hby at_390) rfl k) ?_
  refine Go.st (fun t k => XS.lloadN X59.here hx rfl (hb hby at_392) rfl k) ?_
  refine Go.st (fun t k => XS.iload X59.here hx rfl (hb hby at_393) rfl k) ?_
  obtain ⟨_, _, ⟨T60, L60, k60, n60⟩, -, X60, ⟨Lc60, hQ60, l60, y60, z60⟩, st60⟩ := Jvm.LawKit.callS X59 hx (y := (⟨"com/example/piece/piece/span/HexWritePinLaw", "ok", "([BIIJB)Z"⟩ : MethodName)) hown (mvT hZ (wd8 hw)) (mvT hZ (wd9 hw)) (mvT hZ (wd10 hw)) (mvT hZ (wd11 hw)) (by decide) (backOf (W := 0) (rm2 l Z a0 hw [] b1 (17 : Int32) (p2 &&& (3 : Int32)) q1 (p3.toInt8.toInt32) k1 (List.map Value.int (own_txt q1 (p2 &&& (3 : Int32)) ((p3.toInt8.toInt32).toInt8.toInt32))) (own_at (own_txt q1 (p2 &&& (3 : Int32)) ((p3.toInt8.toInt32).toInt8.toInt32)) (17 : Int32)) h42 n0 Z0 V_b1 (by decide) (own_atv _ _)) hZ (wd11 hw) (wd10 hw) (by decide) (by decide)) (g := (mkF m 395 #[.val (.long q1), .second, .val (.int p2), .val (.int p3), .val (.int (p2 &&& (3 : Int32))), .val (.int (p3.toInt8.toInt32)), .val (.ref b1)] [(.int (p3.toInt8.toInt32)), (.long q1), (.int (p2 &&& (3 : Int32))), (.int 17), (.ref b1)])) rfl (by rw [hml]; rfl) (argsL := [(.ref b1), (.int (17 : Int32)), (.int (p2 &&& (3 : Int32))), (.long q1), (.int (p3.toInt8.toInt32))]) (rest := []) (lenOf pd1 rfl) rfl (by show 2 * 0 + _ ≤ _; exact Nat.le_of_eq rfl) (hb hby at_395) (fun _ _ => ⟨rfl, e59, (by decide : 1 + 0 ≤ _), (by decide : 20 + 0 ≤ _)⟩)
  dsimp only [Pt.U, Pt.locs, Pt.cells, Pt.slots] at X60 l60 y60 z60 st60 hQ60
  subst l60 y60 z60
  refine Go.st st60 ?_
  obtain ⟨rfl, N60q, e60⟩ := hQ60
  have N60 := Fr.app N59 N60q
  show Go _ _ _ (T60.setTop (mkF m 398 #[.val (.long q1), .second, .val (.int p2), .val (.int p3), .val (.int (p2 &&& (3 : Int32))), .val (.int (p3.toInt8.toInt32)), .val (.ref b1)] [(.int (f2 (17 : Int32) (p2 &&& (3 : Int32)) q1 (p3.toInt8.toInt32) (own_at (own_txt q1 (p2 &&& (3 : Int32)) ((p3.toInt8.toInt32).toInt8.toInt32)) (17 : Int32))))])) _
  refine Go.st (fun t k => XS.ifNo X60.here hx rfl (hb hby at_398) rfl ((if0 _ _).trans (feq (show ¬ ((f2 (17 : Int32) (p2 &&& (3 : Int32)) q1 (p3.toInt8.toInt32) (own_at (own_txt q1 (p2 &&& (3 : Int32)) ((p3.toInt8.toInt32).toInt8.toInt32)) (17 : Int32))) = (0 : Int32)) from (own_ok q1 p2 p3 17 (by decide)))).1) k) ?_
  show Go _ _ _ (T60.setTop (mkF m 401 #[.val (.long q1), .second, .val (.int p2), .val (.int p3), .val (.int (p2 &&& (3 : Int32))), .val (.int (p3.toInt8.toInt32)), .val (.ref b1)] [])) _
  refine Go.st (fun t k => XS.aload X60.here hx rfl (hb hby at_401) rfl rfl k) ?_
  refine Go.st (fun t k => XS.bipush X60.here hx rfl (hb hby at_403) k) ?_
  refine Go.st (fun t k => XS.iload X60.here hx rfl (hb hby at_405) rfl k) ?_
  refine Go.st (fun t k => XS.lloadN X60.here hx rfl (hb hby at_407) rfl k) ?_
  refine Go.st (fun t k => XS.iload X60.here hx rfl (hb hby at_408) rfl k) ?_
  obtain ⟨_, _, ⟨T61, L61, k61, n61⟩, -, X61, ⟨Lc61, hQ61, l61, y61, z61⟩, st61⟩ := Jvm.LawKit.callS X60 hx (y := (⟨"com/example/piece/piece/span/HexWritePinLaw", "ok", "([BIIJB)Z"⟩ : MethodName)) hown (mvT hZ (wd8 hw)) (mvT hZ (wd9 hw)) (mvT hZ (wd10 hw)) (mvT hZ (wd11 hw)) (by decide) (backOf (W := 0) (rm2 l Z a0 hw [] b1 (18 : Int32) (p2 &&& (3 : Int32)) q1 (p3.toInt8.toInt32) k1 (List.map Value.int (own_txt q1 (p2 &&& (3 : Int32)) ((p3.toInt8.toInt32).toInt8.toInt32))) (own_at (own_txt q1 (p2 &&& (3 : Int32)) ((p3.toInt8.toInt32).toInt8.toInt32)) (18 : Int32)) h42 n0 Z0 V_b1 (by decide) (own_atv _ _)) hZ (wd11 hw) (wd10 hw) (by decide) (by decide)) (g := (mkF m 410 #[.val (.long q1), .second, .val (.int p2), .val (.int p3), .val (.int (p2 &&& (3 : Int32))), .val (.int (p3.toInt8.toInt32)), .val (.ref b1)] [(.int (p3.toInt8.toInt32)), (.long q1), (.int (p2 &&& (3 : Int32))), (.int 18), (.ref b1)])) rfl (by rw [hml]; rfl) (argsL := [(.ref b1), (.int (18 : Int32)), (.int (p2 &&& (3 : Int32))), (.long q1), (.int (p3.toInt8.toInt32))]) (rest := []) (lenOf pd1 rfl) rfl (by show 2 * 0 + _ ≤ _; exact Nat.le_of_eq rfl) (hb hby at_410) (fun _ _ => ⟨rfl, e60, (by decide : 1 + 0 ≤ _), (by decide : 20 + 0 ≤ _)⟩)
  dsimp only [Pt.U, Pt.locs, Pt.cells, Pt.slots] at X61 l61 y61 z61 st61 hQ61
  subst l61 y61 z61
  refine Go.st st61 ?_
  obtain ⟨rfl, N61q, e61⟩ := hQ61
  have N61 := Fr.app N60 N61q
  obtain ⟨LL61, X61, N61⟩ : ∃ LL, Stand p l e room_1 s m #[(.long q1), (.int p2), (.int p3)] below meth c T61 LL 1 20 ∧ Fr n0 LL := ⟨_, X61, N61⟩
  show Go _ _ _ (T61.setTop (mkF m 413 #[.val (.long q1), .second, .val (.int p2), .val (.int p3), .val (.int (p2 &&& (3 : Int32))), .val (.int (p3.toInt8.toInt32)), .val (.ref b1)] [(.int (f2 (18 : Int32) (p2 &&& (3 : Int32)) q1 (p3.toInt8.toInt32) (own_at (own_txt q1 (p2 &&& (3 : Int32)) ((p3.toInt8.toInt32).toInt8.toInt32)) (18 : Int32))))])) _
  refine Go.st (fun t k => XS.ifNo X61.here hx rfl (hb hby at_413) rfl ((if0 _ _).trans (feq (show ¬ ((f2 (18 : Int32) (p2 &&& (3 : Int32)) q1 (p3.toInt8.toInt32) (own_at (own_txt q1 (p2 &&& (3 : Int32)) ((p3.toInt8.toInt32).toInt8.toInt32)) (18 : Int32))) = (0 : Int32)) from (own_ok q1 p2 p3 18 (by decide)))).1) k) ?_
  show Go _ _ _ (T61.setTop (mkF m 416 #[.val (.long q1), .second, .val (.int p2), .val (.int p3), .val (.int (p2 &&& (3 : Int32))), .val (.int (p3.toInt8.toInt32)), .val (.ref b1)] [])) _
  refine Go.st (fun t k => XS.aload X61.here hx rfl (hb hby at_416) rfl rfl k) ?_
  refine Go.st (fun t k => XS.bipush X61.here hx rfl (hb hby at_418) k) ?_
  refine Go.st (fun t k => XS.iload X61.here hx rfl (hb hby at_420) rfl k) ?_
  refine Go.st (fun t k => XS.lloadN X61.here hx rfl (hb hby at_422) rfl k) ?_
  refine Go.st (fun t k => XS.iload X61.here hx rfl (hb hby at_423) rfl k) ?_
  obtain ⟨_, _, ⟨T62, L62, k62, n62⟩, -, X62, ⟨Lc62, hQ62, l62, y62, z62⟩, st62⟩ := Jvm.LawKit.callS X61 hx (y := (⟨"com/example/piece/piece/span/HexWritePinLaw", "ok", "([BIIJB)Z"⟩ : MethodName)) hown (mvT hZ (wd8 hw)) (mvT hZ (wd9 hw)) (mvT hZ (wd10 hw)) (mvT hZ (wd11 hw)) (by decide) (backOf (W := 0) (rm2 l Z a0 hw [] b1 (19 : Int32) (p2 &&& (3 : Int32)) q1 (p3.toInt8.toInt32) k1 (List.map Value.int (own_txt q1 (p2 &&& (3 : Int32)) ((p3.toInt8.toInt32).toInt8.toInt32))) (own_at (own_txt q1 (p2 &&& (3 : Int32)) ((p3.toInt8.toInt32).toInt8.toInt32)) (19 : Int32)) h42 n0 Z0 V_b1 (by decide) (own_atv _ _)) hZ (wd11 hw) (wd10 hw) (by decide) (by decide)) (g := (mkF m 425 #[.val (.long q1), .second, .val (.int p2), .val (.int p3), .val (.int (p2 &&& (3 : Int32))), .val (.int (p3.toInt8.toInt32)), .val (.ref b1)] [(.int (p3.toInt8.toInt32)), (.long q1), (.int (p2 &&& (3 : Int32))), (.int 19), (.ref b1)])) rfl (by rw [hml]; rfl) (argsL := [(.ref b1), (.int (19 : Int32)), (.int (p2 &&& (3 : Int32))), (.long q1), (.int (p3.toInt8.toInt32))]) (rest := []) (lenOf pd1 rfl) rfl (by show 2 * 0 + _ ≤ _; exact Nat.le_of_eq rfl) (hb hby at_425) (fun _ _ => ⟨rfl, e61, (by decide : 1 + 0 ≤ _), (by decide : 20 + 0 ≤ _)⟩)
  dsimp only [Pt.U, Pt.locs, Pt.cells, Pt.slots] at X62 l62 y62 z62 st62 hQ62
  subst l62 y62 z62
  refine Go.st st62 ?_
  obtain ⟨rfl, N62q, e62⟩ := hQ62
  have N62 := Fr.app N61 N62q
  show Go _ _ _ (T62.setTop (mkF m 428 #[.val (.long q1), .second, .val (.int p2), .val (.int p3), .val (.int (p2 &&& (3 : Int32))), .val (.int (p3.toInt8.toInt32)), .val (.ref b1)] [(.int (f2 (19 : Int32) (p2 &&& (3 : Int32)) q1 (p3.toInt8.toInt32) (own_at (own_txt q1 (p2 &&& (3 : Int32)) ((p3.toInt8.toInt32).toInt8.toInt32)) (19 : Int32))))])) _
  refine Go.st (fun t k => XS.ifNo X62.here hx rfl (hb hby at_428) rfl ((if0 _ _).trans (feq (show ¬ ((f2 (19 : Int32) (p2 &&& (3 : Int32)) q1 (p3.toInt8.toInt32) (own_at (own_txt q1 (p2 &&& (3 : Int32)) ((p3.toInt8.toInt32).toInt8.toInt32)) (19 : Int32))) = (0 : Int32)) from (own_ok q1 p2 p3 19 (by decide)))).1) k) ?_
  show Go _ _ _ (T62.setTop (mkF m 431 #[.val (.long q1), .second, .val (.int p2), .val (.int p3), .val (.int (p2 &&& (3 : Int32))), .val (.int (p3.toInt8.toInt32)), .val (.ref b1)] [])) _
  refine Go.st (fun t k => XS.iconst X62.here hx rfl (hb hby at_431) k) ?_
  refine Go.st (fun t k => XS.goto X62.here hx rfl (pc0 := 432) (pc' := 436) rfl (hb hby at_432) (by decide) (by decide) k) ?_
  obtain ⟨fs, hr, hrun, hended, hW, hsame⟩ := X62.leave (v := some (.int (1 : Int32))) (fun h => by rw [Bd.returns] at h; cases h)
  refine Go.fin (retN X62 hx (t := .boolean) Bd.returns (by simp) (hb hby at_436) hr) hrun hended ⟨_, _, rfl, ?_, ⟨_, rfl⟩, hW, hsame.mono (by decide) (by decide)⟩
  show Q0 Z q1 p2 p3 w_DIGITS k_D h0 n0 _ T62.heap _
  rw [e62]
  exact ⟨rfl, N62⟩
theorem own_dgv1 (x j : Int32) (k : Int64) (n : Int) (hk : k.toInt = n) (hn : 0 ≤ n ∧ n < 100) (h0 : 0 ≤ j.toInt ∧ j.toInt < 16) (h : x.toInt64 = j.toInt64 + k) : x.toInt = j.toInt + n := by
  have e := congrArg Int64.toInt h
  rw [Int32.toInt_toInt64, Int64.toInt_add, Int32.toInt_toInt64, hk, Int.bmod_eq_of_le (by omega) (by omega)] at e
  exact e
theorem own_dgval (x : Int32 → Int32) (hA : ∀ j : Int32, ¬ j < 0 → j < (16 : Int32) → j < (10 : Int32) → (x j).toInt64 = j.toInt64 + (48 : Int64)) (hB : ∀ j : Int32, ¬ j < 0 → j < (16 : Int32) → ¬ j < (10 : Int32) → (x j).toInt64 = j.toInt64 + (87 : Int64)) : ∀ j : Int32, ¬ j < 0 → j < (16 : Int32) → x j = own_at own_dg j := by
  intro j h0 h1
  have b0 := h0; have b1 := h1
  rw [Int32.lt_iff_toInt_lt, show (0 : Int32).toInt = 0 from rfl] at b0
  rw [Int32.lt_iff_toInt_lt, show (16 : Int32).toInt = 16 from rfl] at b1
  have hd : ∀ k : Fin 16, (own_at own_dg (Int32.ofInt (k.1 : Int))).toInt = if k.1 < 10 then (k.1 : Int) + 48 else (k.1 : Int) + 87 := by decide +kernel
  have d : (own_at own_dg (Int32.ofInt ((j.toInt.toNat : Nat) : Int))).toInt = if j.toInt.toNat < 10 then ((j.toInt.toNat : Nat) : Int) + 48 else ((j.toInt.toNat : Nat) : Int) + 87 := hd ⟨j.toInt.toNat, by omega⟩
  rw [Int.toNat_of_nonneg (by omega), Int32.ofInt_toInt] at d
  apply Int32.toInt_inj.mp
  rw [d]
  by_cases h : j < (10 : Int32)
  · rw [own_dgv1 _ j 48 48 rfl (by decide) (by omega) (hA j h0 h1 h)]
    rw [Int32.lt_iff_toInt_lt, show (10 : Int32).toInt = 10 from rfl] at h
    rw [if_pos (by omega)]
  · rw [own_dgv1 _ j 87 87 rfl (by decide) (by omega) (hB j h0 h1 h)]
    rw [Int32.lt_iff_toInt_lt, show (10 : Int32).toInt = 10 from rfl] at h
    rw [if_neg (by omega)]
theorem own_len {args : Array Value} {s : State} {t : Term} {a : Addr} {cl : Cell} {ty : FieldType} {k : Int32} (ev : t.eval args s none [] s = some (.ref a)) (A : Arr s s.heap a cl ty) (h : (Jvm.Cond.eq (.length t) (.int k)).value args s none s [] = some true) : cl.slots.size < 2 ^ 31 ∧ cl.slots.size.toInt32 = k := by
  have e := own_eqi h
  have ha := A.fin (Vm.Alike.refl _)
  by_cases hn : cl.slots.size < 2 ^ 31
  · rw [len_f ev ha hn] at e
    exact ⟨hn, Value.int.inj (Option.some.inj e)⟩
  · exact absurd e (by simp [Term.eval, ev, ha, show ¬ cl.slots.size < 2147483648 from hn])
theorem own_eqr {args : Array Value} {s : State} {t u : Term} {x : Addr} (hu : u.eval args s none [] s = some (.ref x)) (h : (Jvm.Cond.eq t u).value args s none s [] = some true) : t.eval args s none [] s = some (.ref x) := by
  obtain ⟨v, y, e1, e2, k1, k2⟩ := cmp_v (Or.inl h)
  cases hu.symm.trans e2
  cases v <;> simp [Cond.value, e1, hu] at h
  rw [e1, h]
theorem own_elr {args : Array Value} {s : State} {t u : Term} {a x : Addr} {cl : Cell} {ty : FieldType} {j : Int32} (ev : t.eval args s none [] s = some (.ref a)) (A : Arr s s.heap a cl ty) (hu : u.eval args s none [] s = some (.ref x)) (h : (Jvm.Cond.eq (.elem t (.int j)) u).value args s none s [] = some true) : cl.slots[j.toNatClampNeg]? = some (.ref x) :=
  (elem_in (own_eqr hu h) ev (Term.int_eval j) A.1).2
theorem own_eli {args : Array Value} {s : State} {t : Term} {a : Addr} {cl : Cell} {ty : FieldType} {j k : Int32} (ev : t.eval args s none [] s = some (.ref a)) (A : Arr s s.heap a cl ty) (h : (Jvm.Cond.eq (.elem t (.int j)) (.int k)).value args s none s [] = some true) : atv cl j = k :=
  atv_of (elem_in (own_eqi h) ev (Term.int_eval j) A.1).2
theorem own_tabArv {s : State} {a : Addr} {cl : Cell} {ty : FieldType} {z : Int32} (hfit : Fit s) (T : Tab s s.heap a cl ty z) (q : cl.slots.size < 2 ^ 31) (e : cl.slots.size.toInt32 = z) (xs : List Int32) (h : ∀ j : Int32, ¬ j < 0 → j < z → atv cl j = own_at xs j) : Arv s s.heap a cl.cls ty z (xs.map Value.int) (.int 0) := by
  have hk : ∀ k, k < cl.slots.size → (Nat.toInt32 k).toNatClampNeg = k ∧ cl.slots[k]? = some ((xs.map Value.int).getD k (.int 0)) := by
    intro k hk
    have e1 : (Nat.toInt32 k).toNatClampNeg = k := by simp only [Int32.toNatClampNeg, len_toInt (Nat.lt_trans hk q)]; rfl
    have hi := idx_in hk q
    have g := T.2.2.2 (Nat.toInt32 k) hi
    have hlt : Nat.toInt32 k < z := by
      rw [← e, Int32.lt_iff_toInt_lt, len_toInt (Nat.lt_trans hk q), len_toInt q]
      omega
    rw [h _ (fun y => hi (Or.inl y)) hlt, ← own_atv, e1] at g
    exact ⟨e1, g⟩
  refine ⟨cl, T.1, rfl, T.2.1, T.2.2.1, fun k q' => (hk k q').2, fun k q' => ?_⟩
  exact elem_fits (j := Nat.toInt32 k) hfit T.1 (idx_in q' q) (by rw [(hk k q').1]; exact (hk k q').2)
theorem own_all2 {args : Array Value} {s : State} {t : Term} {a : Addr} {cl : Cell} {ty : FieldType} {z hi v : Int32} (et : ∀ idx, t.eval args s none idx s = some (.ref a)) (T : Tab s s.heap a cl ty z) (h : (Jvm.Cond.all t (.or (.le (.int hi) (.index 0)) (.eq (.elem t (.index 0)) (.int v)))).value args s none s [] = some true) (j : Int32) (h0 : ¬ j < 0) (h1 : j < z) : ¬ j < hi ∨ atv cl j = v := by
  have ha := T.1.fin (Vm.Alike.refl _)
  have hin : ¬ (j < 0 ∨ cl.slots.size ≤ j.toNatClampNeg) := inb_of T.2.1 ⟨h0, h1⟩
  have c := Cond.all_elim (et []) ha h j.toNatClampNeg (Nat.lt_of_not_le fun x => hin (Or.inr x))
  have e1 : (Term.elem t (.index 0)).eval args s none [j.toNatClampNeg] s = some (.int (atv cl j)) := (elem_f (et _) (idx_at h0) ha h0).trans (T.2.2.2 j hin)
  have v1 : (Jvm.Cond.le (.int hi) (.index 0)).value args s none s [j.toNatClampNeg] = some (decide (hi ≤ j)) := Cond.le_ints (Term.int_eval hi) (idx_at h0)
  have v2 : (Jvm.Cond.eq (.elem t (.index 0)) (.int v)).value args s none s [j.toNatClampNeg] = some (decide (atv cl j = v)) := Cond.eq_ints e1 (Term.int_eval v)
  rcases or_e2 v1 v2 c with q | q
  · exact Or.inl (Int32.not_lt.mpr q)
  · exact Or.inr q
theorem own_all3 {args : Array Value} {s : State} {t : Term} {a : Addr} {cl : Cell} {ty : FieldType} {z lo hi v : Int32} (et : ∀ idx, t.eval args s none idx s = some (.ref a)) (T : Tab s s.heap a cl ty z) (h : (Jvm.Cond.all t (.or (.lt (.index 0) (.int lo)) (.or (.le (.int hi) (.index 0)) (.eq (.elem t (.index 0)) (.int v))))).value args s none s [] = some true) (j : Int32) (h0 : ¬ j < 0) (h1 : j < z) : j < lo ∨ ¬ j < hi ∨ atv cl j = v := by
  have ha := T.1.fin (Vm.Alike.refl _)
  have hin : ¬ (j < 0 ∨ cl.slots.size ≤ j.toNatClampNeg) := inb_of T.2.1 ⟨h0, h1⟩
  have c := Cond.all_elim (et []) ha h j.toNatClampNeg (Nat.lt_of_not_le fun x => hin (Or.inr x))
  have e1 : (Term.elem t (.index 0)).eval args s none [j.toNatClampNeg] s = some (.int (atv cl j)) := (elem_f (et _) (idx_at h0) ha h0).trans (T.2.2.2 j hin)
  have v1 : (Jvm.Cond.lt (.index 0) (.int lo)).value args s none s [j.toNatClampNeg] = some (decide (j < lo)) := Cond.lt_ints (idx_at h0) (Term.int_eval lo)
  have v2 : (Jvm.Cond.le (.int hi) (.index 0)).value args s none s [j.toNatClampNeg] = some (decide (hi ≤ j)) := Cond.le_ints (Term.int_eval hi) (idx_at h0)
  have v3 : (Jvm.Cond.eq (.elem t (.index 0)) (.int v)).value args s none s [j.toNatClampNeg] = some (decide (atv cl j = v)) := Cond.eq_ints e1 (Term.int_eval v)
  exact or3 c v1 v2 v3
theorem own_l48 {args : Array Value} {s : State} {t : Term} {cl : Cell} {j : Int32} {k : Int64} (h0 : ¬ j < 0) (e1 : (Term.elem t (.index 0)).eval args s none [j.toNatClampNeg] s = some (.int (atv cl j))) : (Jvm.Cond.eq (.op1 .i2l (.elem t (.index 0))) (.op2 .ladd (.op1 .i2l (.index 0)) (.long k))).value args s none s [j.toNatClampNeg] = some (decide ((atv cl j).toInt64 = j.toInt64 + k)) :=
  eq_L (i2l_at e1) ((op2_f (i2l_at (idx_at h0)) rfl).trans rfl)
theorem own_allA {args : Array Value} {s : State} {t : Term} {a : Addr} {cl : Cell} {ty : FieldType} {z hi : Int32} {k : Int64} (et : ∀ idx, t.eval args s none idx s = some (.ref a)) (T : Tab s s.heap a cl ty z) (h : (Jvm.Cond.all t (.or (.le (.int hi) (.index 0)) (.eq (.op1 .i2l (.elem t (.index 0))) (.op2 .ladd (.op1 .i2l (.index 0)) (.long k))))).value args s none s [] = some true) (j : Int32) (h0 : ¬ j < 0) (h1 : j < z) (h2 : j < hi) : (atv cl j).toInt64 = j.toInt64 + k := by
  have ha := T.1.fin (Vm.Alike.refl _)
  have hin : ¬ (j < 0 ∨ cl.slots.size ≤ j.toNatClampNeg) := inb_of T.2.1 ⟨h0, h1⟩
  have c := Cond.all_elim (et []) ha h j.toNatClampNeg (Nat.lt_of_not_le fun x => hin (Or.inr x))
  have e1 : (Term.elem t (.index 0)).eval args s none [j.toNatClampNeg] s = some (.int (atv cl j)) := (elem_f (et _) (idx_at h0) ha h0).trans (T.2.2.2 j hin)
  rcases or_e2 (Cond.le_ints (Term.int_eval hi) (idx_at h0)) (own_l48 h0 e1) c with q | q
  · exact absurd h2 (Int32.not_lt.mpr q)
  · exact q
theorem own_allB {args : Array Value} {s : State} {t : Term} {a : Addr} {cl : Cell} {ty : FieldType} {z lo : Int32} {k : Int64} (et : ∀ idx, t.eval args s none idx s = some (.ref a)) (T : Tab s s.heap a cl ty z) (h : (Jvm.Cond.all t (.or (.lt (.index 0) (.int lo)) (.eq (.op1 .i2l (.elem t (.index 0))) (.op2 .ladd (.op1 .i2l (.index 0)) (.long k))))).value args s none s [] = some true) (j : Int32) (h0 : ¬ j < 0) (h1 : j < z) (h2 : ¬ j < lo) : (atv cl j).toInt64 = j.toInt64 + k := by
  have ha := T.1.fin (Vm.Alike.refl _)
  have hin : ¬ (j < 0 ∨ cl.slots.size ≤ j.toNatClampNeg) := inb_of T.2.1 ⟨h0, h1⟩
  have c := Cond.all_elim (et []) ha h j.toNatClampNeg (Nat.lt_of_not_le fun x => hin (Or.inr x))
  have e1 : (Term.elem t (.index 0)).eval args s none [j.toNatClampNeg] s = some (.int (atv cl j)) := (elem_f (et _) (idx_at h0) ha h0).trans (T.2.2.2 j hin)
  rcases or_e2 (Cond.lt_ints (idx_at h0) (Term.int_eval lo)) (own_l48 h0 e1) c with q | q
  · exact absurd q h2
  · exact q

theorem wd6 {Z : State} {a0 : Array Value} (hw : ∀ d ∈ tables_1, d.before a0 Z = true) : (Jvm.Cond.laysStatic "com/example/piece/piece/span/Hex" "DIGITS" "[B").before a0 Z = true := hw _ (List.mem_of_getElem? (i := 6) rfl)
set_option maxRecDepth 65536 in
set_option maxHeartbeats 16000000 in
theorem comes_1 {Post : Tables → Env → Array Value → State → Outcome → State → Prop} (hpost : ∀ tb e args s v u, (limb_1_1.after args s (.returned v) u = true ∧ limb_1_2.after args s (.returned v) u = true ∧ True) → FrameEnd s (.returned v) u (Jvm.fieldLocs frame_1_writes args s ++ Jvm.arrayLocs frame_1_arrays args s ++ Jvm.staticLocs frame_1_statics s) 16 128 → Post tb e args s (.returned v) u) :
    ArmFor flags0 classFile x code maxLocals ret World_1 tables_1 room_1 Calls_1 rest_1 Pre_1 Post := by
  intro l hfl _ _ p e ha hc hk s m args below hf hA hF happ hP
  obtain ⟨hcalls, hrest, hpre⟩ := hP
  obtain ⟨-, -, -, hnamed, -, -, -, hat⟩ := (Spec.applies_iff hf).mp happ
  obtain ⟨hg, hn⟩ := and_e (Cond.before_iff.mp (show (Jvm.Cond.and given_1 narrow_1).before args s = true from hpre))
  obtain ⟨g1, g2⟩ := and_e hg
  obtain ⟨g3, g4⟩ := and_e g2
  obtain ⟨g5, g6⟩ := and_e g4
  obtain ⟨g7, g8⟩ := and_e hn
  obtain ⟨g9, g10⟩ := and_e g8
  obtain ⟨g11, g12⟩ := and_e g10
  obtain ⟨w0, w1, w2, rfl⟩ : ∃ w0 w1 w2 : Value, args = #[w0, w1, w2] := by
    have hs : args.size = 3 := by simpa [Cond.value, given_1] using g1
    obtain ⟨L⟩ := args
    match L, hs with
    | [w0, w1, w2], _ => exact ⟨w0, w1, w2, rfl⟩
  have hw := fun d (hd : d ∈ tables_1) => atoms_spec (ws := Jvm.Cond.code x code maxLocals ret :: tables_1) hat d (List.mem_cons_of_mem _ hd)
  have hfit : Fit s := fun {y c} hc i hi => by
    obtain ⟨ha, rfl⟩ := Array.getElem?_eq_some_iff.mp hc
    have q := List.all_eq_true.mp ((Array.all_eq_true_iff_forall_mem.mp hF) _ (Array.getElem_mem ha)) i (List.mem_range.mpr hi)
    simpa [Array.getElem?_eq_getElem hi] using q
  obtain ⟨i0, ei0⟩ := isL_v g3
  obtain rfl : w0 = (.long i0) := Option.some.inj ei0
  obtain ⟨i1, ei1⟩ := is_v g5
  obtain rfl : w1 = (.int i1) := Option.some.inj ei1
  obtain ⟨i2, ei2⟩ := is_v g6
  obtain rfl : w2 = (.int i2) := Option.some.inj ei2
  obtain ⟨v_DIGITS, ev_v_DIGITS⟩ := arr_v g7
  have S_v_DIGITS := Sta.start ev_v_DIGITS (Or.inr ⟨(wd3 hw), (wd6 hw)⟩)
  obtain ⟨cl_v_DIGITS, Ar_v_DIGITS⟩ := Arr.start ev_v_DIGITS g7
  obtain ⟨q_v_DIGITS, e_v_DIGITS⟩ := own_len ev_v_DIGITS Ar_v_DIGITS g9
  have T_v_DIGITS := Tab.start hfit Ar_v_DIGITS (by simp) q_v_DIGITS e_v_DIGITS (by decide)
  have V_v_DIGITS := own_tabArv hfit T_v_DIGITS q_v_DIGITS e_v_DIGITS own_dg (own_dgval (atv cl_v_DIGITS) (own_allA (fun _ => ev_v_DIGITS) T_v_DIGITS g11) (own_allB (fun _ => ev_v_DIGITS) T_v_DIGITS g12))
  have hplain := trivial
  obtain ⟨n, o, h1, h2, h3, _, L, rfl, ⟨rfl, N⟩, hq⟩ := rm0 l s _ hw tables_1 i0 i1 i2 v_DIGITS cl_v_DIGITS.cls s.heap s.heap.size (Nat.le_refl _) S_v_DIGITS V_v_DIGITS p e ha hc hk s m _ below hf ((Spec.applies_iff_loose hf).mp happ).1 ⟨rfl, State.Warmed39.refl s, rfl⟩ trivial
  refine ⟨n, _, h1, h2, h3, hpost _ _ _ _ _ _ ⟨Cond.after_iff.mpr rfl, Cond.after_iff.mpr (eq_i res_at (Term.int_eval (1)) rfl), trivial⟩ ⟨hq.1, hq.2.1, (hq.2.2.sift fun y hy => Or.inr (N y hy)).mono (by decide) (by decide)⟩⟩
theorem main_1_1 : Claimed_1_1 := comes_1 fun _ _ _ _ _ _ h hF => ⟨h.1, hF⟩
theorem main_1_2 : Claimed_1_2 := comes_1 fun _ _ _ _ _ _ h hF => ⟨h.2.1, hF⟩
end Jvm.Pilot.@@N@@
namespace Jvm.Pilot.@@N@@
open Jvm Jvm.ClassFile Sem Op Lib Jvm.Free Jvm.Stand Jvm.Pilot.@@N@@.Jvm.D
/-! MADE BY PROGRAM (witnessworld.py) out of the Statement's table words and the real class files: 9 classes; the members and pool entries that the words name. The judged class is class 1, her method 1. -/
namespace start1
open Jvm.ClassFile
def u (s : String) : CpInfo := .utf8 (stringToUtf16 s)
/-- a pool by its gaps: so many unusable entries, then the entry; so many at the end -/
def gap : Nat → List CpInfo → List CpInfo
  | 0, r => r
  | n + 1, r => .unusable :: gap n r
def poolList (es : List (Nat × CpInfo)) (last : Nat) : List CpInfo := es.foldr (fun e r => gap e.1 (e.2 :: r)) (gap last [])
def pool (es : List (Nat × CpInfo)) (last : Nat) : Array CpInfo := ⟨poolList es last⟩
def fileOf (pool : Array CpInfo) (this : Nat) (attrs : Array Attribute := #[]) (ms : Array MethodInfo := #[]) (fl : Nat := 33) (sup : Nat := 0) (ifs : Array Nat := #[]) (fds : Array FieldInfo := #[]) : ClassFile where
  minorVersion := 0
  majorVersion := 65
  constantPool := pool
  accessFlags := fl
  thisClass := this
  superClass := sup
  interfaces := ifs
  fields := fds
  methods := ms
  attributes := attrs
def plain (name : String) (sup : Option ClassId) : Class where
  name := name
  kind := .ordinary
  loader := none
  accessFlags := 33
  super := sup
  interfaces := #[]
  cf := none
  fields := #[]
  methods := #[]
  instanceTypes := #[]
  staticTypes := #[]
  resolved := #[]
  callSites := []
  init := .initialized
  statics := none
  mirror := none

def pool0 : Array CpInfo := pool [(5, u "<init>"), (0, u "()V"), (1, .class_ 10), (1, u "java/lang/Object")] 113

def k0m0 : Method := { name := "<init>", desc := "()V", sig := { parameters := [], returnType := none }, accessFlags := 1, code := none }
/-- java/lang/Object -/
def k0 : Class := { plain "java/lang/Object" none with
  accessFlags := 33
  interfaces := #[]
  cf := some (fileOf pool0 8 #[] #[{ accessFlags := 1, nameIndex := 5, descriptorIndex := 6, attributes := #[] }] 33 0 #[] #[])
  fields := #[]
  methods := #[k0m0]
  instanceTypes := #[]
  staticTypes := #[]
  resolved := Array.replicate 124 none
  statics := none }

def pool1 : Array CpInfo := pool [(2, .class_ 4), (1, u "java/lang/Object"), (0, u "<init>"), (0, u "()V"), (0, .methodref 8 9), (0, .class_ 10), (0, .nameAndType 11 12), (0, u "com/example/piece/piece/span/Hex"), (0, u "write"), (0, u "(J[BI)V"), (0, .methodref 14 15), (0, .class_ 16), (0, .nameAndType 17 18), (0, u "com/example/piece/piece/span/HexWritePinLaw"), (0, u "ok"), (0, u "([BIIJB)Z"), (0, .long 15), (3, u "law"), (0, u "(JII)Z")] 5

def k1m0 : Method := { name := "<init>", desc := "()V", sig := { parameters := [], returnType := none }, accessFlags := 1, code := none }
def k1c1 : Code := { maxStack := 6, maxLocals := 7, code := code, exceptionTable := #[], attributes := #[] }
def k1m1 : Method := { name := "law", desc := "(JII)Z", sig := { parameters := [.long, .int, .int], returnType := some .boolean }, accessFlags := 9, code := some k1c1 }
def k1c2 : Code := { maxStack := 5, maxLocals := 9, code := method_3_code, exceptionTable := #[], attributes := #[] }
def k1m2 : Method := { name := "ok", desc := "([BIIJB)Z", sig := { parameters := [(.array .byte), .int, .int, .long, .byte], returnType := some .boolean }, accessFlags := 10, code := some k1c2 }
/-- com/example/piece/piece/span/HexWritePinLaw -/
def k1 : Class := { plain "com/example/piece/piece/span/HexWritePinLaw" (some 0) with
  accessFlags := 49
  interfaces := #[]
  cf := some (fileOf pool1 14 #[] #[{ accessFlags := 1, nameIndex := 5, descriptorIndex := 6, attributes := #[] }, { accessFlags := 9, nameIndex := 23, descriptorIndex := 24, attributes := #[] }, { accessFlags := 10, nameIndex := 17, descriptorIndex := 18, attributes := #[] }] 49 2 #[] #[])
  fields := #[]
  methods := #[k1m0, k1m1, k1m2]
  instanceTypes := #[]
  staticTypes := #[]
  resolved := Array.replicate 30 none
  statics := none }

def pool2 : Array CpInfo := pool [(2, .class_ 4), (1, u "java/lang/Object"), (0, u "<init>"), (0, u "()V"), (15, .fieldref 23 24), (0, .class_ 25), (0, .nameAndType 26 27), (0, u "com/example/piece/piece/span/Hex"), (0, u "DIGITS"), (0, u "[B"), (0, .long 15), (20, u "write"), (0, u "(J[BI)V")] 18

def k2m0 : Method := { name := "<init>", desc := "()V", sig := { parameters := [], returnType := none }, accessFlags := 2, code := none }
def k2c1 : Code := { maxStack := 7, maxLocals := 7, code := prog_28_method_3_code, exceptionTable := #[], attributes := #[] }
def k2m1 : Method := { name := "write", desc := "(J[BI)V", sig := { parameters := [.long, (.array .byte), .int], returnType := none }, accessFlags := 8, code := some k2c1 }
/-- com/example/piece/piece/span/Hex -/
def k2 : Class := { plain "com/example/piece/piece/span/Hex" (some 0) with
  accessFlags := 48
  interfaces := #[]
  cf := some (fileOf pool2 23 #[] #[{ accessFlags := 2, nameIndex := 5, descriptorIndex := 6, attributes := #[] }, { accessFlags := 8, nameIndex := 49, descriptorIndex := 50, attributes := #[] }] 48 2 #[] #[{ accessFlags := 26, nameIndex := 26, descriptorIndex := 27, attributes := #[] }])
  fields := #[{ name := "DIGITS", type := (.array .byte), accessFlags := 26, slot := 0, constantValue := 0 }]
  methods := #[k2m0, k2m1]
  instanceTypes := #[]
  staticTypes := #[(.array .byte)]
  resolved := Array.replicate 69 none
  statics := some 0 }

def pool3 : Array CpInfo := pool [(1, u "java/lang/Cloneable"), (0, .class_ 1), (0, u "java/lang/Object"), (0, .class_ 3)] 3

/-- java/lang/Cloneable -/
def k3 : Class := { plain "java/lang/Cloneable" (some 0) with
  accessFlags := 1537
  interfaces := #[]
  cf := some (fileOf pool3 2 #[] #[] 1537 4 #[] #[])
  fields := #[]
  methods := #[]
  instanceTypes := #[]
  staticTypes := #[]
  resolved := Array.replicate 8 none
  statics := none }

def pool4 : Array CpInfo := pool [(1, u "java/io/Serializable"), (0, .class_ 1), (0, u "java/lang/Object"), (0, .class_ 3)] 3

/-- java/io/Serializable -/
def k4 : Class := { plain "java/io/Serializable" (some 0) with
  accessFlags := 1537
  interfaces := #[]
  cf := some (fileOf pool4 2 #[] #[] 1537 4 #[] #[])
  fields := #[]
  methods := #[]
  instanceTypes := #[]
  staticTypes := #[]
  resolved := Array.replicate 8 none
  statics := none }

/-- the primitive byte -/
def k5 : Class := { plain "byte" none with kind := .primitive 'B', accessFlags := 0x411 }
/-- [B -/
def k6 : Class := { plain "[B" (some 0) with kind := .array 5 .byte, interfaces := #[3, 4], accessFlags := 1041 }

/-- the primitive int -/
def k7 : Class := { plain "int" none with kind := .primitive 'I', accessFlags := 0x411 }
/-- [I -/
def k8 : Class := { plain "[I" (some 0) with kind := .array 7 .int, interfaces := #[3, 4], accessFlags := 1041 }

def heap : Heap := #[{ cls := 2, slots := #[.ref 1], vm := .statics 2 },
  { cls := 6, slots := #[.int 48, .int 49, .int 50, .int 51, .int 52, .int 53, .int 54, .int 55, .int 56, .int 57, .int 97, .int 98, .int 99, .int 100, .int 101, .int 102], vm := .none }]
def classes : Array Class := #[k0, k1, k2, k3, k4, k5, k6, k7, k8]
def interned : List (Array UInt16 × Addr) := []
def slotsUsed : Nat := 17
def theMethod : MethodId := ⟨1, 1⟩
def args0 : Array Value := #[.long 5, .int 6, .int 7]
def aboutOver (below : List Frame) : State where
  vm := { classes := classes, interned := interned.toArray }
  heap := heap
  slotsUsed := slotsUsed
  threads := #[{ frames := .invoking theMethod args0 :: below }]
def below0 : List Frame := [.native { method := ⟨0, 0⟩, args := #[] }]
def about1 : State := aboutOver below0
def p0 : Program := .bare "" "" ""
def e0 : Env := launch0.env 0 0 0
theorem w_frames : about1.frames = Frame.invoking theMethod args0 :: below0 := rfl
set_option maxRecDepth 65536 in
theorem w_args : argsFit about1.vm theMethod args0 = true := by decide +kernel
set_option maxRecDepth 65536 in
theorem w_heap : heapFits about1 = true := by decide +kernel
set_option maxRecDepth 65536 in
theorem w_runnable : about1.curStatus? = some .runnable := by decide +kernel
set_option maxRecDepth 65536 in
theorem w_alone : about1.alone = true := by decide +kernel
set_option maxRecDepth 65536 in
theorem w_named : about1.methodNamed? x = some theMethod := by decide +kernel
set_option maxRecDepth 65536 in
theorem w_hears : about1.hears theMethod below0 = true := by decide +kernel
set_option maxRecDepth 65536 in
theorem w_ripe : about1.ripe theMethod args0 below0 = true := by decide +kernel
theorem w_running : about1.status = .running := rfl
set_option maxRecDepth 65536 in
theorem w_room : about1.hasRoom e0.platform room_1 = true :=
  launch0.hasRoom_least _ room_1 (by decide +kernel) (by decide +kernel) (by decide +kernel) (by decide +kernel) (by decide +kernel) (by decide +kernel)
theorem allAtoms_all (ts : List Jvm.Cond) (a : Array Jvm.Value) (st : Jvm.State) : (allAtoms ts).before a st = ts.all (fun c => c.before a st) := by
  induction ts with
  | nil => rfl
  | cons c t ih =>
    show (Jvm.Cond.and c (allAtoms t)).before a st = _
    rw [Jvm.Cond.before_and, ih, List.all_cons]
def words1 : List Jvm.Cond := Jvm.Cond.code x code maxLocals ret :: tables_1
/-- a 'code' word, met by the world's own term for the bytes: nothing is compared byte by byte -/
theorem code_word {y : MethodName} {bytes : ByteArray} {mx : Nat} {rt : Option FieldType} {a : Array Value} {s : State} {m : MethodId} {meth : Method} {c : Code} (h1 : s.methodNamed? y = some m) (h2 : s.vm.method? m = some meth) (h3 : meth.code = some c) (h4 : c.code = bytes)
    (h5 : (c.maxLocals == mx && c.exceptionTable.isEmpty && decide (c.maxStack ≤ mostOperands) && decide (meth.sig.returnType = rt) && !meth.locks && decide (parseMethodDescriptor y.desc = some meth.sig)) = true) : (Jvm.Cond.code y bytes mx rt).before a s = true := by
  simp only [Bool.and_eq_true, beq_iff_eq, Bool.not_eq_true', decide_eq_true_eq] at h5
  obtain ⟨⟨⟨⟨⟨g1, g2⟩, g3⟩, g4⟩, g5⟩, g6⟩ := h5
  simp [Cond.before, Cond.holds, Cond.value, h1, h2, h3, h4, g1, g2, g3, g4, g5, g6]
def isCode : Jvm.Cond → Bool
  | .code _ _ _ _ => true
  | _ => false
theorem all_split {L : List Jvm.Cond} {P : Jvm.Cond → Bool} (h1 : L.all (fun c => isCode c || P c) = true) (h2 : ∀ c ∈ L.filter isCode, P c = true) : L.all P = true := by
  refine List.all_eq_true.mpr fun c hc => ?_
  have h := List.all_eq_true.mp h1 c hc
  rcases Bool.eq_false_or_eq_true (isCode c) with hi | hi
  · exact h2 c (List.mem_filter.mpr ⟨hc, hi⟩)
  · simpa [hi] using h
set_option maxRecDepth 65536 in
theorem w_c0 : (Jvm.Cond.code x code maxLocals ret).before args0 about1 = true := code_word (m := ⟨1, 1⟩) (meth := k1m1) (c := k1c1) (by decide +kernel) rfl rfl rfl (by decide +kernel)
set_option maxRecDepth 65536 in
theorem w_c1 : (Jvm.Cond.code ({ cls := "com/example/piece/piece/span/Hex", name := "write", desc := "(J[BI)V" } : Jvm.MethodName) prog_28_method_3_code (7 : Nat) (Option.none : Option Jvm.ClassFile.FieldType)).before args0 about1 = true := code_word (m := ⟨2, 1⟩) (meth := k2m1) (c := k2c1) (by decide +kernel) rfl rfl rfl (by decide +kernel)
set_option maxRecDepth 65536 in
theorem w_c2 : (Jvm.Cond.code ({ cls := "com/example/piece/piece/span/HexWritePinLaw", name := "ok", desc := "([BIIJB)Z" } : Jvm.MethodName) method_3_code (9 : Nat) (Option.some Jvm.ClassFile.FieldType.boolean)).before args0 about1 = true := code_word (m := ⟨1, 2⟩) (meth := k1m2) (c := k1c2) (by decide +kernel) rfl rfl rfl (by decide +kernel)
def codes1 : List Jvm.Cond := [Jvm.Cond.code x code maxLocals ret, Jvm.Cond.code ({ cls := "com/example/piece/piece/span/Hex", name := "write", desc := "(J[BI)V" } : Jvm.MethodName) prog_28_method_3_code (7 : Nat) (Option.none : Option Jvm.ClassFile.FieldType), Jvm.Cond.code ({ cls := "com/example/piece/piece/span/HexWritePinLaw", name := "ok", desc := "([BIIJB)Z" } : Jvm.MethodName) method_3_code (9 : Nat) (Option.some Jvm.ClassFile.FieldType.boolean)]
set_option maxRecDepth 65536 in
theorem codes_eq : words1.filter isCode = codes1 := rfl
theorem w_codes : ∀ c ∈ words1.filter isCode, c.before args0 about1 = true := by
  rw [codes_eq]
  intro c hc
  simp only [codes1, List.mem_cons, List.not_mem_nil, or_false] at hc
  rcases hc with rfl | rfl | rfl
  · exact w_c0
  · exact w_c1
  · exact w_c2
set_option maxRecDepth 65536 in
theorem w_t1 : words1.all (fun c => isCode c || c.before args0 about1) = true := by decide +kernel
theorem w_tables : (allAtoms (Jvm.Cond.code x code maxLocals ret :: tables_1)).before args0 about1 = true := by
  rw [allAtoms_all]
  show words1.all (fun c => c.before args0 about1) = true
  refine all_split ?_ w_codes
  rw [w_t1]
set_option maxRecDepth 65536 in
theorem w_case : (Jvm.Cond.and given_1 narrow_1).before args0 about1 = true := by decide +kernel
theorem w_applies : (headSpec (Jvm.Cond.code x code maxLocals ret :: tables_1) room_1).applies x e0.platform about1 = true :=
  (Spec.applies_iff w_frames).mpr ⟨w_running, w_runnable, w_alone, w_named, w_hears, w_ripe, w_room, w_tables⟩
theorem atStart : AtStart classFile x code maxLocals ret World_1 tables_1 room_1 Calls_1 rest_1 Pre_1 launch0 p0 e0 about1 theMethod args0 below0 :=
  ⟨lists_1, trivial, launch0.admits_env _ _ _, launch0.least_env, fairChoices_fair.cas, fairChoices_fair.clock, w_frames, w_args, w_heap, w_applies, trivial, trivial, w_case⟩
end start1
theorem witness_1 : WitnessClaimed_1 := ⟨start1.p0, start1.e0, start1.about1, start1.theMethod, start1.args0, start1.below0, start1.atStart⟩
end Jvm.Pilot.@@N@@
