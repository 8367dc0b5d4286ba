import JvmDerived
import JvmDerived.Pilot.@@N@@Statement
import JvmDerived.Pilot.@@N@@Code
set_option linter.unusedVariables false
set_option linter.unusedSimpArgs false
namespace Jvm.Pilot.@@N@@
open Jvm Jvm.ClassFile Sem Op Lib Jvm.Free Jvm.Stand Jvm.LawKit Jvm.RoadKit Bundle Jvm.Pilot.@@N@@.Jvm.D

def Go (tb : Tables) (e : Env) (below : List Frame) (a : State) (P : Outcome → State → Prop) : Prop := ∃ s₂ o, Steps tb e below a s₂ ∧ s₂.status = .running ∧ Ended s₂ below o ∧ P o s₂
theorem Go.st {tb : Tables} {e : Env} {below : List Frame} {a b : State} {P : Outcome → State → Prop} (h : ∀ t, Steps tb e below b t → Steps tb e below a t) (k : Go tb e below b P) : Go tb e below a P := by
  obtain ⟨s, o, h1, h2⟩ := k
  exact ⟨s, o, h _ h1, h2⟩
theorem Go.tr {tb : Tables} {e : Env} {below : List Frame} {a b : State} {P : Outcome → State → Prop} (h : Steps tb e below a b) (k : Go tb e below b P) : Go tb e below a P := Go.st (fun _ q => h.trans q) k
theorem Go.fr {tb : Tables} {e : Env} {below : List Frame} {T : State} {g g' : JFrame} {P : Outcome → State → Prop} (q : g = g') (k : Go tb e below (T.setTop g') P) : Go tb e below (T.setTop g) P := q ▸ k
theorem Go.fin {tb : Tables} {e : Env} {below : List Frame} {a s₂ : State} {o : Outcome} {P : Outcome → State → Prop} (hs : Steps tb e below a s₂) (hr : s₂.status = .running) (he : Ended s₂ below o) (hP : P o s₂) : Go tb e below a P := ⟨_, _, hs, hr, he, hP⟩
theorem exa_ns {Z : State} {h : Heap} {a : Addr} {C : String} (F : Exa Z h a C) : ∃ c : Cell, h[a]? = some c ∧ c.vm.isStatics = false := by
  obtain ⟨c, _, h1, -, -, h4, -⟩ := F
  exact ⟨c, h1, h4⟩
theorem fld_ns {Z : State} {h : Heap} {a : Addr} {C n d : String} {v : Value} (F : Fld Z h a C n d v) : ∃ c : Cell, h[a]? = some c ∧ c.vm.isStatics = false := by
  obtain ⟨c, _, _, _, _, h1, -, -, -, h4, -⟩ := F
  exact ⟨c, h1, h4⟩
theorem arv_ns {Z : State} {h : Heap} {a : Addr} {k : ClassId} {ty : FieldType} {n : Int32} {vs : List Value} {d : Value} (F : Arv Z h a k ty n vs d) : ∃ c : Cell, h[a]? = some c ∧ c.vm.isStatics = false := by
  obtain ⟨c, A, -⟩ := F
  exact ⟨c, A.1, A.plain⟩
theorem sta_keep {Z : State} {h h' : Heap} {C n d : String} {v : Value} {ws : List Addr} (F : Sta Z h C n d v) (K : Keep h h' ws) (q : ∀ x ∈ ws, ∃ c : Cell, h[x]? = some c ∧ c.vm.isStatics = false) : Sta Z h' C n d v := by
  obtain ⟨cf, i, k, f, st, cell, h1, h2, h3, h4, h5, h6, h7⟩ := F
  refine ⟨cf, i, k, f, st, cell, h1, h2, h3, h4, K.2.1 st cell h5 fun z => ?_, h6, h7⟩
  obtain ⟨c, q1, q2⟩ := q st z
  cases q1.symm.trans h5
  rw [q2] at h6
  cases h6
theorem own_mvM {Z s : State} {a0 args : Array Value} {own host : String} {index : Nat} {y : MethodName} (hZ : Z.Warmed39 s.vm) (w : (Cond.methodLinkNest own index y host).before a0 Z = true) : (Cond.methodLinkNest own index y host).before args s = true := by
  have h1 := (Cond.methodLinkNest_wide hZ w :)
  exact h1
theorem own_selp {s : State} {args : Array Value} {y : MethodName} {n : Nat} (wi : (Cond.instantiable y.cls n).before args s = true) (hp : s.PrivateAt y) (hi : (Cond.instanceMethod y).before args s = true) (hy : y.cls ≠ "java/lang/invoke/MethodHandle" ∧ y.cls ≠ "java/lang/invoke/VarHandle") : (Cond.selects y.cls y y).before args s = true := by
  obtain ⟨c, k, h1, h2, -, h4, -⟩ := Cond.instantiable_spec wi
  simp only [Bool.or_eq_false_iff] at h4
  exact selects_self_of_private h1 h2 h4.1 hp hi hy
theorem own_ne32 {x k : Int32} {a : Int} (ha : k.toInt = a) (h : ¬ x = k) : a ≠ x.toInt := fun e => h (Int32.toInt_inj.mp (e.symm.trans ha.symm))
theorem own_nn (x : Int32) : 0 ≤ (x &&& (2147483647 : Int32)).toInt := (c_andS x 2147483647).2.2 (by decide)
theorem own_rem (x : Int32) (k : Int32) (d : Int) (hd : k.toInt = d) (h0 : 0 < d) : 0 ≤ ((x &&& (2147483647 : Int32)) % k).toInt ∧ ((x &&& (2147483647 : Int32)) % k).toInt < d := by
  have h := own_nn x
  rw [Int32.toInt_mod, hd]
  exact ⟨Int.tmod_nonneg _ h, Int.tmod_lt_of_pos _ h0⟩
theorem own_remb (x : Int32) (k : Int32) (d : Int) (hd : k.toInt = d) (h0 : 0 < d) : ¬ ((x &&& (2147483647 : Int32)) % k) < 0 ∧ ((x &&& (2147483647 : Int32)) % k) < k := by
  obtain ⟨h1, h2⟩ := own_rem x k d hd h0
  rw [Int32.lt_iff_toInt_lt, Int32.lt_iff_toInt_lt, hd]
  exact ⟨Int.not_lt.mpr h1, h2⟩
theorem own_mono {p : Program} {l : Launch} {e : Env} {R : Room} {s : State} {m : MethodId} {args : Array Value} {below : List Frame} {meth : Method} {c : Code} {T : State} {locs : List Loc} {cells slots cells' slots' : Nat} (X : Stand p l e R s m args below meth c T locs cells slots) (h1 : cells ≤ cells') (h2 : slots ≤ slots') : Stand p l e R s m args below meth c T locs cells' slots' := { X with same := X.same.mono h1 h2 }
def own_at (xs : List Int32) (j : Int32) : Int32 := xs.getD j.toNatClampNeg 0
theorem own_atv (xs : List Int32) (j : Int32) : (xs.map Value.int).getD j.toNatClampNeg (.int 0) = .int (own_at xs j) := by
  unfold own_at
  generalize j.toNatClampNeg = n
  induction xs generalizing n with
  | nil => rfl
  | cons a r ih => cases n with
    | zero => rfl
    | succ n => simpa using ih n
theorem own_setl {l : List Value} {k n : Nat} {v : Value} (h : l.length = n) : (l.set k v).length = n := by rw [List.length_set]; exact h
theorem own_setg {l : List Value} {k : Nat} {v d : Value} (h : k < l.length) : (l.set k v).getD k d = v := by simp [List.getD, List.getElem?_set, h]
theorem own_setn {l : List Value} {k i : Nat} {v d : Value} (h : i ≠ k) : (l.set k v).getD i d = l.getD i d := by simp [List.getD, List.getElem?_set, Ne.symm h]
theorem own_lt_of {l : List Value} {n : Nat} {j z : Int32} (h : l.length = n) (q : ¬ j < 0 ∧ j < z) (hz : z.toNatClampNeg = n := by decide) : j.toNatClampNeg < l.length := by
  rw [h, ← hz]
  obtain ⟨q1, q2⟩ := q
  rw [Int32.lt_iff_toInt_lt] at q1 q2
  have : (0 : Int32).toInt = 0 := rfl
  simp only [Int32.toNatClampNeg]
  omega
theorem own_eqi {args : Array Value} {s : State} {t : Term} {k : Int32} (h : (Jvm.Cond.eq t (.int k)).value args s none s [] = some true) : t.eval args s none [] s = some (.int k) := by
  simp only [Cond.value, Term.eval] at h
  cases ht : t.eval args s none [] s with
  | none => simp [ht] at h
  | some x => cases x <;> simp_all
set_option maxRecDepth 65536
set_option maxHeartbeats 16000000
abbrev Pr (Z : State) (h0 : Heap) (A : Array Value) : Array Value → State → Prop := fun a U => a = A ∧ Z.Warmed39 U.vm ∧ U.heap = h0
abbrev Tr : Program → Env → List Frame → State → Array Value → Prop := fun _ _ _ _ _ => True
def HW (a0 : Array Value) (Z : State) : Prop := ∀ d ∈ tables_1, d.before a0 Z = true
theorem mw {Z : State} {a0 : Array Value} (hw : HW a0 Z) (i : Nat) {d : Jvm.Cond} (h : tables_1[i]? = some d) : d.before a0 Z = true := hw _ (List.mem_of_getElem? h)
theorem G {tb : Tables} {e : Env} {below : List Frame} {a b : State} {P : Outcome → State → Prop} (h : ∀ t, Steps tb e below b t → Steps tb e below a t) (k : Go tb e below b P) : Go tb e below a P := Go.st h k
abbrev us : Slot := .unset
abbrev vi (x : Int32) : Slot := .val (.int x)
abbrev vj (x : Int64) : Slot := .val (.long x)
abbrev vr (x : Addr) : Slot := .val (.ref x)
abbrev Rm (a b c d : Nat) : Room := { frames := a, cells := b, slots := c, locals := d }
abbrev SN : String := "java/lang/String"
abbrev NU : String := "com/example/tripletype/tripletype/Numeral"
abbrev OP : String := "java/util/Optional"
abbrev LW : String := "com/example/tripletype/tripletype/NumeralParsePinLaw"
abbrev U16 : String := "java/lang/StringUTF16"
abbrev PC : String := "jdk/internal/util/Preconditions"
abbrev SL1 : String := "java/lang/StringLatin1"
abbrev LS : String := "Ljava/lang/String;"
abbrev BF : String := "Ljava/util/function/BiFunction;"
abbrev cB1 : ByteArray := method_2_code
abbrev cB2 : ByteArray := method_3_code
abbrev cB3 : ByteArray := jdk_42_method_3_code
abbrev cB4 : ByteArray := jdk_42_method_149_code
abbrev cB5 : ByteArray := object_method_1_code
abbrev cB6 : ByteArray := prog_2_method_2_code
abbrev cB7 : ByteArray := jdk_42_method_76_code
abbrev cB8 : ByteArray := jdk_42_method_75_code
abbrev cB9 : ByteArray := jdk_42_method_54_code
abbrev cB10 : ByteArray := jdk_42_method_152_code
abbrev cB11 : ByteArray := jdk_32_method_1_code
abbrev cB12 : ByteArray := method_4_code
abbrev cB13 : ByteArray := method_5_code
abbrev cB14 : ByteArray := jdk_32_method_6_code
abbrev cB15 : ByteArray := jdk_52_method_16_code
abbrev cB16 : ByteArray := jdk_52_method_21_code
abbrev cB17 : ByteArray := jdk_52_method_15_code
abbrev cB18 : ByteArray := jdk_48_method_14_code
abbrev cB19 : ByteArray := prog_2_method_3_code
abbrev cB20 : ByteArray := jdk_42_method_56_code
abbrev cB21 : ByteArray := jdk_42_method_154_code
abbrev cB22 : ByteArray := jdk_43_method_2_code
abbrev cB23 : ByteArray := jdk_42_method_155_code
abbrev cB24 : ByteArray := jdk_41_method_11_code
abbrev cB25 : ByteArray := jdk_42_method_92_code
abbrev cB26 : ByteArray := jdk_42_method_158_code
abbrev cB27 : ByteArray := jdk_41_method_12_code
abbrev cB28 : ByteArray := prog_2_method_1_code
abbrev cB29 : ByteArray := jdk_30_method_1_code
abbrev cB30 : ByteArray := jdk_32_method_3_code
abbrev cB31 : ByteArray := jdk_31_method_10_code
abbrev cB32 : ByteArray := jdk_32_method_2_code
abbrev cB33 : ByteArray := method_6_code
abbrev cB34 : ByteArray := jdk_32_method_5_code
abbrev cB35 : ByteArray := prog_2_method_10_code
abbrev cB36 : ByteArray := prog_2_method_11_code
abbrev cB37 : ByteArray := method_7_code
abbrev cB38 : ByteArray := prog_2_method_12_code
abbrev cB39 : ByteArray := jdk_42_method_80_code
abbrev cB40 : ByteArray := jdk_43_method_22_code
abbrev cB41 : ByteArray := jdk_43_method_4_code
abbrev cB42 : ByteArray := jdk_29_method_65_code
abbrev cB43 : ByteArray := jdk_29_method_69_code
abbrev cB44 : ByteArray := jdk_43_method_23_code
abbrev cB45 : ByteArray := jdk_43_method_47_code
abbrev cB46 : ByteArray := jdk_65_method_132_code
abbrev cB47 : ByteArray := jdk_65_method_133_code
abbrev cB48 : ByteArray := jdk_65_method_131_code
abbrev cB49 : ByteArray := jdk_42_method_151_code
abbrev dc (b : ByteArray) (p : Nat) (i : Instr) (n : Nat) : Prop := decode b p = .ok (i, n)
theorem sG {tb : Tables} {e : Env} {below : List Frame} {P : Outcome → State → Prop} (T : State) (g : JFrame) (k : Go tb e below (T.setTop g) P) : Go tb e below (T.setTop g) P := k
theorem nf {Z s : State} {a0 : Array Value} {C : String} {x : MethodName} (hZ : Z.Warmed39 s.vm) (w : (Cond.selects C x x).before a0 Z = true) : NotFace s x := notFace_of_selects (args := #[]) (s := s) (mvT hZ w)
abbrev y_0 : MethodName := ⟨U16, "compress", "([CI[BII)I"⟩
abbrev y_1 : MethodName := ⟨U16, "compress", "([CII)[B"⟩
abbrev y_2 : MethodName := ⟨U16, "coderFromArrayLen", "([BI)B"⟩
abbrev y_3 : MethodName := ⟨SN, "<init>", "([CIILjava/lang/Void;)V"⟩
abbrev y_4 : MethodName := ⟨SN, "<init>", "([C)V"⟩
abbrev y_5 : MethodName := ⟨SN, "coder", "()B"⟩
abbrev y_6 : MethodName := ⟨SN, "isLatin1", "()Z"⟩
abbrev y_7 : MethodName := ⟨SN, "length", "()I"⟩
abbrev y_8 : MethodName := ⟨PC, "checkIndex", "(IILjava/util/function/BiFunction;)I"⟩
abbrev y_9 : MethodName := ⟨SN, "checkIndex", "(II)V"⟩
abbrev y_10 : MethodName := ⟨SL1, "charAt", "([BI)C"⟩
abbrev y_11 : MethodName := ⟨SN, "charAt", "(I)C"⟩
abbrev y_12 : MethodName := ⟨NU, "isDigits", "(Ljava/lang/String;II)Z"⟩
abbrev y_13 : MethodName := ⟨"java/lang/Math", "min", "(II)I"⟩
abbrev y_14 : MethodName := ⟨"java/lang/Math", "max", "(II)I"⟩
abbrev y_15 : MethodName := ⟨SL1, "canEncode", "(I)Z"⟩
abbrev y_16 : MethodName := ⟨SL1, "indexOfChar", "([BIII)I"⟩
abbrev y_17 : MethodName := ⟨SL1, "indexOf", "([BIII)I"⟩
abbrev y_18 : MethodName := ⟨SN, "indexOf", "(II)I"⟩
abbrev y_19 : MethodName := ⟨"jdk/internal/util/ArraysSupport", "mismatch", "([BI[BII)I"⟩
abbrev y_20 : MethodName := ⟨SN, "startsWith", "(Ljava/lang/String;I)Z"⟩
abbrev y_21 : MethodName := ⟨SN, "startsWith", "(Ljava/lang/String;)Z"⟩
abbrev y_22 : MethodName := ⟨"java/lang/Record", "<init>", "()V"⟩
abbrev y_23 : MethodName := ⟨NU, "<init>", "(ZLjava/lang/String;Ljava/lang/String;)V"⟩
abbrev y_24 : MethodName := ⟨NU, "negative", "()Z"⟩
abbrev y_25 : MethodName := ⟨NU, "integer", "()Ljava/lang/String;"⟩
abbrev y_26 : MethodName := ⟨NU, "fraction", "()Ljava/lang/String;"⟩
abbrev y_27 : MethodName := ⟨"java/util/Objects", "requireNonNull", "(Ljava/lang/Object;)Ljava/lang/Object;"⟩
abbrev y_28 : MethodName := ⟨OP, "<init>", "(Ljava/lang/Object;)V"⟩
abbrev y_29 : MethodName := ⟨OP, "of", "(Ljava/lang/Object;)Ljava/util/Optional;"⟩
abbrev y_30 : MethodName := ⟨OP, "empty", "()Ljava/util/Optional;"⟩
abbrev y_31 : MethodName := ⟨OP, "isPresent", "()Z"⟩
abbrev y_32 : MethodName := ⟨OP, "get", "()Ljava/lang/Object;"⟩
abbrev y_33 : MethodName := ⟨LW, "pick", "(I)C"⟩
abbrev y_34 : MethodName := ⟨LW, "count", "(IIIII)I"⟩
abbrev y_35 : MethodName := ⟨"java/util/Arrays", "checkLength", "(II)V"⟩
abbrev y_36 : MethodName := ⟨"java/util/Arrays", "copyOfRangeByte", "([BII)[B"⟩
abbrev y_37 : MethodName := ⟨"java/util/Arrays", "copyOfRange", "([BII)[B"⟩
abbrev y_38 : MethodName := ⟨SN, "<init>", "([BB)V"⟩
abbrev y_39 : MethodName := ⟨SL1, "newString", "([BII)Ljava/lang/String;"⟩
abbrev y_40 : MethodName := ⟨PC, "checkFromToIndex", "(IIILjava/util/function/BiFunction;)I"⟩
abbrev y_41 : MethodName := ⟨SN, "checkBoundsBeginEnd", "(III)V"⟩
abbrev y_42 : MethodName := ⟨SN, "substring", "(II)Ljava/lang/String;"⟩
abbrev y_43 : MethodName := ⟨LW, "kind", "([CIII)I"⟩
abbrev y_44 : MethodName := ⟨LW, "make", "(I[C)Ljava/lang/String;"⟩
abbrev y_45 : MethodName := ⟨LW, "collect", "([C[Z[C)I"⟩
abbrev y_46 : MethodName := ⟨LW, "same", "(Ljava/lang/String;[CI)Z"⟩
abbrev y_47 : MethodName := ⟨NU, "parse", "(Ljava/lang/String;Z)Ljava/util/Optional;"⟩
theorem nr {A : Prop} {r : Option FieldType} {t : FieldType} (q : r = some t) (h : r = none) : A := by rw [q] at h; cases h
section
variable {p : Program} {l : Launch} {x : MethodName} {S : Spec} {code : ByteArray} {ml : Nat} {e : Env} {s Z : State} {m : MethodId} {args a0 : Array Value} {below : List Frame} {meth : Method} {c : Code} {s₁ T : State} {R : Room} {locs : List Loc} {ce sl cc ss pc kS : Nat} {h h0 : Heap} {VM : Vm} {EL : List (String × Nat)} {Ls : Array Slot} {rest : List Value} {Q : Option Value → Heap → List Loc → Prop} {t : FieldType}
theorem lfG (X : Stand p l e R s m args below meth c T locs ce sl) (hl : meth.locks = false) {v : Option Value} (hv : meth.sig.returnType = none → v = none) {a : State} (H : ∀ {fs : List Frame}, (∀ (f : JFrame) (acts : List Action), f.method = m → f.locked = none → f.entered = [] → (doReturn e (T.setTop f) acts v).1 = T.setFrames fs) → Steps p.tables e below a (T.setFrames fs)) (eT : T.heap = h) (hq : Q v h locs) (hc : ce ≤ cc) (hs : sl ≤ ss) : Go p.tables e below a (fun o U' => ∃ v L, o = .returned v ∧ Q v U'.heap L ∧ FrameEnd s o U' L cc ss) := by
 obtain ⟨fs, hr, hrun, hended, hW, hsame⟩ := X.leave hv hl
 refine Go.fin (H hr) hrun hended ⟨_, _, rfl, ?_, ⟨_, rfl⟩, hW, hsame.mono hc hs⟩
 show Q v T.heap _
 rw [eT]
 exact hq
theorem lfI (B : BodyLoose p l x S code ml (some .int) e s m args below meth c s₁) (X : Stand p l e R s m args below meth c T locs ce sl) (eT : T.heap = h) (hd : decode c.code pc = .ok (.ireturn, 1)) {w : Int32} (hq : Q (some (.int w)) h locs) (hc : ce ≤ cc) (hs : sl ≤ ss) : Go p.tables e below (T.setTop (mkF m pc Ls (.int w :: rest))) (fun o U' => ∃ v L, o = .returned v ∧ Q v U'.heap L ∧ FrameEnd s o U' L cc ss) := lfG X B.notSynchronized (nr B.returns) (retOut X B.exec B.returns rfl (Or.inl ⟨rfl, Or.inl rfl, _, rfl⟩) hd) eT hq hc hs
theorem lfN (B : BodyLoose p l x S code ml (some t) e s m args below meth c s₁) (X : Stand p l e R s m args below meth c T locs ce sl) (eT : T.heap = h) (hd : decode c.code pc = .ok (.ireturn, 1)) (ht : t = .boolean ∨ t = .byte ∨ t = .char ∨ t = .short) {z w : Int32} (hw : nar t z = w) (hq : Q (some (.int w)) h locs) (hc : ce ≤ cc) (hs : sl ≤ ss) : Go p.tables e below (T.setTop (mkF m pc Ls (.int z :: rest))) (fun o U' => ∃ v L, o = .returned v ∧ Q v U'.heap L ∧ FrameEnd s o U' L cc ss) := by
 subst hw
 exact lfG X B.notSynchronized (nr B.returns) (retN X B.exec B.returns ht hd) eT hq hc hs
theorem lfR (B : BodyLoose p l x S code ml (some t) e s m args below meth c s₁) (X : Stand p l e R s m args below meth c T locs ce sl) (eT : T.heap = h) (hd : decode c.code pc = .ok (.areturn, 1)) {w : Value} (hn : narrow t w = w) (ht : t.isReference = true) (hw : w.isRef = true) (hq : Q (some w) h locs) (hc : ce ≤ cc) (hs : sl ≤ ss) : Go p.tables e below (T.setTop (mkF m pc Ls (w :: rest))) (fun o U' => ∃ v L, o = .returned v ∧ Q v U'.heap L ∧ FrameEnd s o U' L cc ss) := lfG X B.notSynchronized (nr B.returns) (retOut X B.exec B.returns hn (Or.inr (Or.inr (Or.inr (Or.inr ⟨rfl, ht, hw⟩)))) hd) eT hq hc hs
theorem lfV (B : BodyLoose p l x S code ml none e s m args below meth c s₁) (X : Stand p l e R s m args below meth c T locs ce sl) (eT : T.heap = h) (hd : decode c.code pc = .ok (.return_, 1)) (hq : Q none h locs) (hc : ce ≤ cc) (hs : sl ≤ ss) : Go p.tables e below (T.setTop (mkF m pc Ls [])) (fun o U' => ∃ v L, o = .returned v ∧ Q v U'.heap L ∧ FrameEnd s o U' L cc ss) := lfG X B.notSynchronized (fun _ => rfl) (X.returnOut B.exec B.returns hd) eT hq hc hs
theorem lwG (X : Stand p l e R (s.setVm VM) m args below meth c T locs ce sl) (hl : meth.locks = false) {v : Option Value} (hv : meth.sig.returnType = none → v = none) {a : State} (H : ∀ {fs : List Frame}, (∀ (f : JFrame) (acts : List Action), f.method = m → f.locked = none → f.entered = [] → (doReturn e (T.setTop f) acts v).1 = T.setFrames fs) → Steps p.tables e below a (T.setFrames fs)) (eT : T.heap = h) (hS : s.Since VM kS) (hk : kS ≤ h.size) (hh : s.heap = h0) (hCr : CHr Z EL s.vm h0 VM h) (hZ : Z.Warmed39 (s.setVm VM).vm) (hE : EW Z a0 EL) (hq : Q v h locs) (hc : ce ≤ cc) (hs : sl ≤ ss) : Go p.tables e below a (fun o U' => ∃ v L, o = .returned v ∧ Q v U'.heap L ∧ CHr Z EL s.vm s.heap U'.vm U'.heap ∧ ReturnedEndW s o U' L cc ss) := by
 obtain ⟨fs, hr, hrun, hended, hRW⟩ := X.leaveW hS (by rw [eT]; exact hk) hv hl
 subst eT
 have hCf := hCr.trans (CHv.at X hZ hE hCr.1)
 refine Go.fin (H hr) hrun hended ⟨_, _, rfl, ?_, ?_, hRW.1, hRW.2.1, hRW.2.2.1, hRW.2.2.2.mono hc hs⟩
 ·exact hq
 ·show CHr Z EL s.vm s.heap T.vm T.heap
  rw [hh]
  exact hCf
theorem lwN (B : BodyLoose p l x S code ml (some t) e s m args below meth c s₁) (X : Stand p l e R (s.setVm VM) m args below meth c T locs ce sl) (eT : T.heap = h) (hS : s.Since VM kS) (hk : kS ≤ h.size) (hh : s.heap = h0) (hCr : CHr Z EL s.vm h0 VM h) (hZ : Z.Warmed39 (s.setVm VM).vm) (hE : EW Z a0 EL) (hd : decode c.code pc = .ok (.ireturn, 1)) (ht : t = .boolean ∨ t = .byte ∨ t = .char ∨ t = .short) {z w : Int32} (hw : nar t z = w) (hq : Q (some (.int w)) h locs) (hc : ce ≤ cc) (hs : sl ≤ ss) : Go p.tables e below (T.setTop (mkF m pc Ls (.int z :: rest))) (fun o U' => ∃ v L, o = .returned v ∧ Q v U'.heap L ∧ CHr Z EL s.vm s.heap U'.vm U'.heap ∧ ReturnedEndW s o U' L cc ss) := by
 subst hw
 exact lwG X B.notSynchronized (nr B.returns) (retN X B.exec B.returns ht hd) eT hS hk hh hCr hZ hE hq hc hs
theorem lwR (B : BodyLoose p l x S code ml (some t) e s m args below meth c s₁) (X : Stand p l e R (s.setVm VM) m args below meth c T locs ce sl) (eT : T.heap = h) (hS : s.Since VM kS) (hk : kS ≤ h.size) (hh : s.heap = h0) (hCr : CHr Z EL s.vm h0 VM h) (hZ : Z.Warmed39 (s.setVm VM).vm) (hE : EW Z a0 EL) (hd : decode c.code pc = .ok (.areturn, 1)) {w : Value} (hn : narrow t w = w) (ht : t.isReference = true) (hw : w.isRef = true) (hq : Q (some w) h locs) (hc : ce ≤ cc) (hs : sl ≤ ss) : Go p.tables e below (T.setTop (mkF m pc Ls (w :: rest))) (fun o U' => ∃ v L, o = .returned v ∧ Q v U'.heap L ∧ CHr Z EL s.vm s.heap U'.vm U'.heap ∧ ReturnedEndW s o U' L cc ss) := lwG X B.notSynchronized (nr B.returns) (retOut X B.exec B.returns hn (Or.inr (Or.inr (Or.inr (Or.inr ⟨rfl, ht, hw⟩)))) hd) eT hS hk hh hCr hZ hE hq hc hs
theorem lwV (B : BodyLoose p l x S code ml none e s m args below meth c s₁) (X : Stand p l e R (s.setVm VM) m args below meth c T locs ce sl) (eT : T.heap = h) (hS : s.Since VM kS) (hk : kS ≤ h.size) (hh : s.heap = h0) (hCr : CHr Z EL s.vm h0 VM h) (hZ : Z.Warmed39 (s.setVm VM).vm) (hE : EW Z a0 EL) (hd : decode c.code pc = .ok (.return_, 1)) (hq : Q none h locs) (hc : ce ≤ cc) (hs : sl ≤ ss) : Go p.tables e below (T.setTop (mkF m pc Ls [])) (fun o U' => ∃ v L, o = .returned v ∧ Q v U'.heap L ∧ CHr Z EL s.vm s.heap U'.vm U'.heap ∧ ReturnedEndW s o U' L cc ss) := lwG X B.notSynchronized (fun _ => rfl) (X.returnOut B.exec B.returns hd) eT hS hk hh hCr hZ hE hq hc hs
end
section
variable {p : Program} {l : Launch} {e : Env} {R : Room} {s : State} {m : MethodId} {args : Array Value} {below : List Frame} {meth : Method} {c : Code} {T : State} {locs : List Loc} {cells slots : Nat} {Z : State} {a0 : Array Value} {h : Heap}
theorem cV {k : Nat} (X : Stand p l e R s m args below meth c T locs cells slots) (hx : p.tables.exec = Jvm.exec) (hZ : Z.Warmed39 s.vm) {own C : String} {index : Nat} {y : MethodName} (hown : s.vm.findClass own = some m.cls) (hml : c.maxLocals = k) (w1 : (Cond.methodLink own index y).before a0 Z = true) (w2 : (Cond.declares y).before a0 Z = true) (w3 : (Cond.selects C y y).before a0 Z = true) (w4 : (Cond.instanceMethod y).before a0 Z = true) {bytes : ByteArray} {maxL : Nat} {ret : Option FieldType} (w5 : (Cond.code y bytes maxL ret).before a0 Z = true) (w6 : (Cond.initialized y.cls).before a0 Z = true) {b : Addr} (E : Exa Z h b C) (eT : T.heap = h) (W : Nat) (rest : List Value) {rm : Room} {argsL : List Value} {Q : Option Value → Heap → List Loc → Prop}
  (hM : MetFree l y (head1 [Cond.code y bytes maxL ret] rm) (fun a U => a = (.ref b :: argsL).toArray ∧ Z.Warmed39 U.vm ∧ U.heap = h) (fun _ _ _ _ _ => True) (fun _ U o U' => ∃ v L, o = .returned v ∧ Q v U'.heap L ∧ FrameEnd U o U' L rm.cells rm.slots)) {ps : List FieldType} {r : Option FieldType} (hp : parseMethodDescriptor y.desc = some ⟨ps, r⟩) (g : JFrame) (hd : decode c.code g.pc = .ok (.invokevirtual index, 3))
  (hst : g.stack = argsL.reverse ++ .ref b :: rest := by rfl) (hsz : g.locals.size = k := by rfl) (hW : 2 * g.monitorRoom + (rest.map fun v => v.category).sum ≤ W := by (show 2 * 0 + _ ≤ _; exact Nat.le_of_eq rfl)) (hlen : argsL.length = ps.length := by rfl) (hg : g.method = m := by rfl) (hy : y.cls ≠ "java/lang/invoke/MethodHandle" ∧ y.cls ≠ "java/lang/invoke/VarHandle" := by decide) (hf : rm.frames + 1 ≤ R.frames := by decide) (hl : W + (maxL + 11) + rm.locals ≤ R.locals := by decide) (hc : cells + rm.cells ≤ R.cells := by decide) (hs : slots + rm.slots ≤ R.slots := by decide) :
  ∃ (v : Option Value) (T' : State) (L : List Loc), Stand p l e R s m args below meth c T' (locs ++ L) (cells + rm.cells) (slots + rm.slots) ∧ Q v T'.heap L ∧ Steps p.tables e below (T.setTop g) (T'.setTop { g with pc := g.pc + 3, stack := v.toList ++ rest }) := by
 obtain ⟨cq, kq, qa, qb, qc⟩ := isOf hZ eT E
 obtain ⟨v, _, ⟨T', L', k', n'⟩, -, X', ⟨Lc, hQ, l', y', z'⟩, st⟩ := X.virtualBack hx (y := y) (z := y) hown (mvT hZ w1) (mvT hZ w2) (notFace_of_selects (args := #[]) (mvT hZ w3)) (mvT hZ w3) (mvT hZ w4) hy (backOf (W := W) hM hZ w5 w6 hf hl) qa qc (g := g) hg (by rw [hml]; exact hsz) (Steps.refl _) (argsL := argsL) (rest := rest) (lenOf hp hlen) hst hW hd (fun _ _ => ⟨rfl, eT, hc, hs⟩)
 dsimp only [Pt.U, Pt.locs, Pt.cells, Pt.slots] at X' l' y' z' st hQ
 subst l' y' z'
 exact ⟨v, T', Lc, X', hQ, st⟩
theorem cS {k : Nat} (X : Stand p l e R s m args below meth c T locs cells slots) (hx : p.tables.exec = Jvm.exec) (hZ : Z.Warmed39 s.vm) {own : String} {index : Nat} {y : MethodName} (hown : s.vm.findClass own = some m.cls) (hml : c.maxLocals = k) (w1 : (Cond.methodLink own index y).before a0 Z = true) (w2 : (Cond.static y).before a0 Z = true) (w6 : (Cond.initialized y.cls).before a0 Z = true) {bytes : ByteArray} {maxL : Nat} {ret : Option FieldType} (w5 : (Cond.code y bytes maxL ret).before a0 Z = true) (eT : T.heap = h) (W : Nat) (rest : List Value) {rm : Room} {argsL : List Value} {Q : Option Value → Heap → List Loc → Prop}
  (hM : MetFree l y (head1 [Cond.code y bytes maxL ret] rm) (fun a U => a = argsL.toArray ∧ Z.Warmed39 U.vm ∧ U.heap = h) (fun _ _ _ _ _ => True) (fun _ U o U' => ∃ v L, o = .returned v ∧ Q v U'.heap L ∧ FrameEnd U o U' L rm.cells rm.slots)) {ps : List FieldType} {r : Option FieldType} (hp : parseMethodDescriptor y.desc = some ⟨ps, r⟩) (g : JFrame) (hd : decode c.code g.pc = .ok (.invokestatic index, 3))
  (hst : g.stack = argsL.reverse ++ rest := by rfl) (hsz : g.locals.size = k := by rfl) (hW : 2 * g.monitorRoom + (rest.map fun v => v.category).sum ≤ W := by (show 2 * 0 + _ ≤ _; exact Nat.le_of_eq rfl)) (hlen : argsL.length = ps.length := by rfl) (hg : g.method = m := by rfl) (hy : y.cls ≠ "java/lang/invoke/MethodHandle" ∧ y.cls ≠ "java/lang/invoke/VarHandle" := by decide) (hf : rm.frames + 1 ≤ R.frames := by decide) (hl : W + (maxL + 11) + rm.locals ≤ R.locals := by decide) (hc : cells + rm.cells ≤ R.cells := by decide) (hs : slots + rm.slots ≤ R.slots := by decide) :
  ∃ (v : Option Value) (T' : State) (L : List Loc), Stand p l e R s m args below meth c T' (locs ++ L) (cells + rm.cells) (slots + rm.slots) ∧ Q v T'.heap L ∧ ∀ target, Steps p.tables e below (T'.setTop { g with pc := g.pc + 3, stack := v.toList ++ rest }) target → Steps p.tables e below (T.setTop g) target := by
 obtain ⟨v, _, ⟨T', L', k', n'⟩, -, X', ⟨Lc, hQ, l', y', z'⟩, st⟩ := Jvm.LawKit.callS X hx (y := y) hown (mvT hZ w1) (mvT hZ w2) (mvT hZ w6) (mvT hZ w5) hy (backOf (W := W) hM hZ w5 w6 hf hl) (g := g) hg (by rw [hml]; exact hsz) (argsL := argsL) (rest := rest) (lenOf hp hlen) hst hW hd (fun _ _ => ⟨rfl, eT, hc, hs⟩)
 dsimp only [Pt.U, Pt.locs, Pt.cells, Pt.slots] at X' l' y' z' st hQ
 subst l' y' z'
 exact ⟨v, T', Lc, X', hQ, st⟩
end
theorem wd10 {Z a0} (hw : HW a0 Z) : (Cond.initialized SN).before a0 Z = true := mw hw 10 rfl
theorem wd9 {Z a0} (hw : HW a0 Z) : (Cond.instantiable SN (4 : Nat)).before a0 Z = true := mw hw 9 rfl
theorem wd22 {Z a0} (hw : HW a0 Z) : (Cond.arrayClass FieldType.byte).before a0 Z = true := mw hw 22 rfl
theorem wd23 {Z a0} (hw : HW a0 Z) : (Cond.laysFinal SN SN "value" "[B").before a0 Z = true := mw hw 23 rfl
theorem wd24 {Z a0} (hw : HW a0 Z) : (Cond.laysFinal SN SN "coder" "B").before a0 Z = true := mw hw 24 rfl
theorem wd25 {Z a0} (hw : HW a0 Z) : (Cond.soleField SN "value").before a0 Z = true := mw hw 25 rfl
theorem wd26 {Z a0} (hw : HW a0 Z) : (Cond.soleField SN "coder").before a0 Z = true := mw hw 26 rfl
theorem own_str {Z a0} (hw : HW a0 Z) : ∀ a ∈ Bundle.stringAtoms, a.before a0 Z = true := by
 intro a ha
 simp only [Bundle.stringAtoms, List.mem_cons, List.not_mem_nil, or_false] at ha
 rcases ha with rfl | rfl | rfl | rfl | rfl | rfl | rfl
 ·exact (wd10 hw)
 ·exact (wd9 hw)
 ·exact (wd22 hw)
 ·exact (wd23 hw)
 ·exact (wd24 hw)
 ·exact (wd25 hw)
 ·exact (wd26 hw)
theorem wd212 {Z a0} (hw : HW a0 Z) : (Cond.stringLink SL1 (151 : Nat) "").before a0 Z = true := mw hw 212 rfl
theorem wd21 {Z a0} (hw : HW a0 Z) : (Cond.stringLink SN (7 : Nat) "").before a0 Z = true := mw hw 21 rfl
theorem wd114 {Z a0} (hw : HW a0 Z) : (Cond.stringLink NU (52 : Nat) "").before a0 Z = true := mw hw 114 rfl
theorem wd55 {Z a0} (hw : HW a0 Z) : (Cond.stringLink NU (28 : Nat) "-").before a0 Z = true := mw hw 55 rfl
theorem wd33 {Z a0} (hw : HW a0 Z) : (Cond.stringLink NU (20 : Nat) "+").before a0 Z = true := mw hw 33 rfl
theorem own_EL {Z a0} (hw : HW a0 Z) : EW Z a0 consts_1 := (EW.cons (wd33 hw) (by decide) (EW.cons (wd55 hw) (by decide) (EW.cons (wd114 hw) (by decide) (EW.cons (wd21 hw) (by decide) (EW.cons (wd212 hw) (by decide) EW.nil)))))
theorem own_safeN {Z : State} {EL : List (String × Nat)} {vm : Vm} {h : Heap} {x : Addr} (hal : Z.vm.Alike vm) (E : Exa Z h x SN) (F : Fld Z h x SN "value" "[B" .null) : Safe Z EL vm h x := fun B => by
 obtain ⟨cell, cf, k, i, f, e1, hf, -, -, -, -, hv⟩ := F
 obtain ⟨cell', kE, E1, E2, E3, -, -⟩ := E
 cases e1.symm.trans E1
 obtain ⟨p, -, u, a, -, q, -, G, rfl | rfl⟩ := B
 ·cases (show h[q.sa]? = some q.sC from G.ha).symm.trans e1
  obtain ⟨cS, ⟨⟨-, -, -, ⟨c1, k1, i1, f1, -⟩, -, -, -, v1, -⟩, -⟩, -⟩ := G
  obtain ⟨k3, e3, -⟩ := State.fieldFound?_setVm (s := ({ Z with heap := h } : State)) hal (show ({ Z with heap := h } : State).fieldFound? SN "value" "[B" = _ from hf)
  have e4 := (show (Wst Z vm h).fieldFound? _ _ _ = _ from e3).symm.trans f1
  simp only [Option.some.injEq, Prod.mk.injEq] at e4
  rw [← e4.2.2.2, hv] at v1
  cases v1
 ·cases (show h[q.sd]? = some q.SA from G.hd).symm.trans e1
  obtain ⟨cS, -, -, g, -⟩ := G
  have g' : vm.findClass "[B" = some q.SA.cls := g
  rw [hal.findClass] at g'
  obtain ⟨k1, q1, q2⟩ := Vm.findClass_spec g'
  obtain ⟨k2, q3, q4⟩ := Vm.findClass_spec E2
  cases q1.symm.trans q3
  exact absurd (q2.symm.trans q4) (by decide)

theorem d16_0 : dc cB16 0 (.iconst 0) 1 := by decide +kernel
theorem d16_1 : dc cB16 1 (.istore 5) 2 := by decide +kernel
theorem d16_3 : dc cB16 3 (.iload 5) 2 := by decide +kernel
theorem d16_5 : dc cB16 5 (.iload 4) 2 := by decide +kernel
theorem d16_7 : dc cB16 7 (.if_icmp .ge 37) 3 := by decide +kernel
theorem d16_10 : dc cB16 10 (.aload_n 0) 1 := by decide +kernel
theorem d16_11 : dc cB16 11 (.iload_n 1) 1 := by decide +kernel
theorem d16_12 : dc cB16 12 .caload 1 := by decide +kernel
theorem d16_13 : dc cB16 13 (.istore 6) 2 := by decide +kernel
theorem d16_15 : dc cB16 15 (.iload 6) 2 := by decide +kernel
theorem d16_17 : dc cB16 17 (.sipush 255) 3 := by decide +kernel
theorem d16_20 : dc cB16 20 (.if_icmp .le 6) 3 := by decide +kernel
theorem d16_26 : dc cB16 26 (.aload_n 2) 1 := by decide +kernel
theorem d16_27 : dc cB16 27 (.iload_n 3) 1 := by decide +kernel
theorem d16_28 : dc cB16 28 (.iload 6) 2 := by decide +kernel
theorem d16_30 : dc cB16 30 .i2b 1 := by decide +kernel
theorem d16_31 : dc cB16 31 .bastore 1 := by decide +kernel
theorem d16_32 : dc cB16 32 (.iinc 1 1) 3 := by decide +kernel
theorem d16_35 : dc cB16 35 (.iinc 3 1) 3 := by decide +kernel
theorem d16_38 : dc cB16 38 (.iinc 5 1) 3 := by decide +kernel
theorem d16_41 : dc cB16 41 (.goto (-38)) 3 := by decide +kernel
theorem d16_44 : dc cB16 44 (.iload 4) 2 := by decide +kernel
theorem d16_46 : dc cB16 46 .ireturn 1 := by decide +kernel
theorem pn0 : plainName U16 = true := by first | (simp [plainName, overriddenIn]; done) | decide +kernel
def Qc5_1 (Z : State) (a1 : Addr) (a3 : Addr) (k_c : ClassId) (v0 : Int32) (k_b : ClassId) (h0 : Heap) (n0 : Nat) (v : Option Value) (h : Heap) (L : List Loc) : Prop := v = some (.int (1 : Int32)) ∧ Fr n0 L ∧ Keep h0 h [a3] ∧ Arv Z h a3 k_b .byte (1 : Int32) [(.int ((v0.toInt8.toInt32).toInt8.toInt32))] (.int (0 : Int32))
theorem efc5_1 (m : MethodId) (x0 : Addr) (x2 : Addr) : entryFrame m #[(.ref x0), (.int (0 : Int32)), (.ref x2), (.int (0 : Int32)), (.int (1 : Int32))] 7 = mkF m 0 #[.val (.ref x0), .val (.int (0 : Int32)), .val (.ref x2), .val (.int (0 : Int32)), .val (.int (1 : Int32)), .unset, .unset] [] := by first | (simp [entryFrame, mkF, argsToLocals, Value.category]; done) | rfl
theorem rmc5_1 (l : Launch) (Z : State) (a0 : Array Value) (hw : HW a0 Z) (ws : List Jvm.Cond) (a1 : Addr) (a3 : Addr) (k_c : ClassId) (v0 : Int32) (k_b : ClassId) (h0 : Heap) (n0 : Nat) (Z0 : n0 ≤ h0.size) (V_c : Arv Z h0 a1 k_c .char (1 : Int32) [(.int v0)] (.int (0 : Int32))) (V_b : Arv Z h0 a3 k_b .byte (1 : Int32) [(.int (0 : Int32))] (.int (0 : Int32))) (hv0 : ¬ (255 : Int32) < v0) (ne_a1_a3 : a1 ≠ a3) (g_a3 : n0 ≤ a3) :
  MetFree l y_0 (head1 (Cond.code y_0 cB16 7 (some .int) :: ws) (Rm 0 0 0 0)) (Pr Z h0 #[(.ref a1), (.int (0 : Int32)), (.ref a3), (.int (0 : Int32)), (.int (1 : Int32))]) Tr (fun _ U o U' => ∃ v L, o = .returned v ∧ Qc5_1 Z a1 a3 k_c v0 k_b h0 n0 v U'.heap L ∧ FrameEnd U o U' L (Rm 0 0 0 0).cells (Rm 0 0 0 0).slots) := by
 refine MetFree.of_bodySF (plainFor_of_name pn0) hisR ?_
 intro p e s m args below meth c s₁ Bd hml0 hP hK
 obtain ⟨rfl, hZ, hh⟩ := hP
 have hx := Bd.exec
 have D := @hb _ _ Bd.bytes
 have hml : c.maxLocals = 7 := hml0
 have hown : s.vm.findClass U16 = some m.cls := findClass_of_methodNamed Bd.named
 have hnm := (name_of_methodNamed Bd.named Bd.method).1
 have X0 : Stand p l e (Rm 0 0 0 0) s m #[(.ref a1), (.int (0 : Int32)), (.ref a3), (.int (0 : Int32)), (.int (1 : Int32))] below meth c s₁ [] 0 0 := Stand.of_body Bd
 have e0 : s₁.heap = h0 := by rw [← hh, Bd.state]; rfl
 have N0 := Fr.nil n0
 have K0 : Keep h0 h0 [a3] := Keep.refl h0 _
 refine G (P := fun o U' => ∃ v L, o = .returned v ∧ Qc5_1 Z a1 a3 k_c v0 k_b h0 n0 v U'.heap L ∧ FrameEnd s o U' L (Rm 0 0 0 0).cells (Rm 0 0 0 0).slots) (fun t k => castTop (efc5_1 m a1 a3) k) ?_
 refine sG s₁ (mkF m 0 #[vr a1, vi 0, vr a3, vi 0, vi 1, us, us] []) ?_
 refine G (fun t k => XS.iconst X0.here hx rfl (D d16_0) (XS.istore X0.here hx rfl (D d16_1) rfl (l' := #[vr a1, vi 0, vr a3, vi 0, vi 1, vi 0, us]) rfl (XS.iload X0.here hx rfl (D d16_3) rfl (XS.iload X0.here hx rfl (D d16_5) rfl (XS.icmpNo X0.here hx rfl (D d16_7) rfl (tlt (by decide : (0 : Int32) < (1 : Int32))).2.1 (XS.aloadN X0.here hx rfl (D d16_10) rfl rfl k)))))) ?_
 refine G (fun t k => XS.iloadN X0.here hx rfl (D d16_11) rfl k) ?_
 refine sG s₁ (mkF m 12 #[vr a1, vi 0, vr a3, vi 0, vi 1, vi 0, us] [(.int 0), (.ref a1)]) ?_
 obtain ⟨cl1, Ar1, -, Sz1, Ng1, Hs1, -⟩ := id V_c
 have hin1 := inb_of (j := (0 : Int32)) (c := cl1) Sz1 ⟨by decide, by decide⟩
 refine G (fun t k => X0.caload hx (j := (0 : Int32)) (v := (.int v0)) (by rw [e0]; exact Ar1.1) (State.isArrayOf_alike hZ.alike Ar1.2.1) Ar1.2.2 hin1 (Has.at Hs1 hin1 rfl) (g := (mkF m 12 #[vr a1, vi 0, vr a3, vi 0, vi 1, vi 0, us] [(.int 0), (.ref a1)])) rfl rfl (D d16_12) _ k) ?_
 clear hin1 Hs1 Ng1 Sz1 Ar1 cl1
 refine G (fun t k => XS.istore X0.here hx rfl (D d16_13) rfl (l' := #[vr a1, vi 0, vr a3, vi 0, vi 1, vi 0, vi v0]) rfl (XS.iload X0.here hx rfl (D d16_15) rfl (XS.sipush X0.here hx rfl (D d16_17) k))) ?_
 have hf2 : ¬ ((255 : Int32) < v0) := hv0
 refine G (fun t k => XS.icmpYes X0.here hx rfl (pc0 := 20) (pc' := 26) rfl (D d16_20) rfl (flt hf2).2.2.2 (by decide) (by decide) (XS.aloadN X0.here hx rfl (D d16_26) rfl rfl (XS.iloadN X0.here hx rfl (D d16_27) rfl k))) ?_
 refine sG s₁ (mkF m 28 #[vr a1, vi 0, vr a3, vi 0, vi 1, vi 0, vi v0] [(.int 0), (.ref a3)]) ?_
 refine G (fun t k => XS.iload X0.here hx rfl (D d16_28) rfl (XS.i2b X0.here hx rfl (D d16_30) rfl k)) ?_
 obtain ⟨cl3, Ar3, qq3, Sz3, Ng3, Hs3, Gs3⟩ := id V_b
 have hin3 := inb_of (j := (0 : Int32)) (c := cl3) Sz3 ⟨by decide, by decide⟩
 obtain ⟨T4, h4, X4, e4, W4, st4⟩ := stB X0 hx hZ e0 Ar3 (j := (0 : Int32)) hin3 (g := (mkF m 31 #[vr a1, vi 0, vr a3, vi 0, vi 1, vi 0, vi v0] [(.int (v0.toInt8.toInt32)), (.int 0), (.ref a3)])) rfl rfl (D d16_31)
 refine G st4 ?_
 have N4 := Fr.snoc X4 N0 g_a3
 replace V_c := V_c.other W4 ne_a1_a3
 replace Z0 := Nat.le_trans Z0 (Nat.le_of_eq W4.size.symm)
 replace K0 := K0.wr W4 (Or.inl (by simp))
 replace V_b : Arv Z h4 a3 k_b .byte (1 : Int32) [(.int ((v0.toInt8.toInt32).toInt8.toInt32))] (.int (0 : Int32)) := Arv.set Ar3 qq3 Sz3 Ng3 Hs3 Gs3 (fits_nar_byte _) W4 0 rfl (Nat.le_of_ble_eq_true rfl)
 clear hin3 Gs3 Hs3 Ng3 Sz3 qq3 Ar3 cl3
 refine G (fun t k => XS.iinc X4.here hx rfl (D d16_32) rfl (l' := #[vr a1, vi ((0 : Int32) + (1 : Int32)), vr a3, vi 0, vi 1, vi 0, vi v0]) rfl (XS.iinc X4.here hx rfl (D d16_35) rfl (l' := #[vr a1, vi 1, vr a3, vi ((0 : Int32) + (1 : Int32)), vi 1, vi 0, vi v0]) rfl (XS.iinc X4.here hx rfl (D d16_38) rfl (l' := #[vr a1, vi 1, vr a3, vi 1, vi 1, vi ((0 : Int32) + (1 : Int32)), vi v0]) rfl (XS.goto X4.here hx rfl (pc0 := 41) (pc' := 3) rfl (D d16_41) (by decide) (by decide) k)))) ?_
 refine sG T4 (mkF m 3 #[vr a1, vi 1, vr a3, vi 1, vi 1, vi 1, vi v0] []) ?_
 refine G (fun t k => XS.iload X4.here hx rfl (D d16_3) rfl (XS.iload X4.here hx rfl (D d16_5) rfl (XS.icmpYes X4.here hx rfl (pc0 := 7) (pc' := 44) rfl (D d16_7) rfl (flt (by decide : ¬ ((1 : Int32) < (1 : Int32)))).2.1 (by decide) (by decide) (XS.iload X4.here hx rfl (D d16_44) rfl k)))) ?_
 exact lfI (Q := Qc5_1 Z a1 a3 k_c v0 k_b h0 n0) Bd X4 e4 (D d16_46) (w := (1 : Int32)) ⟨rfl, N4, K0, V_b⟩ (by decide) (by decide)
theorem d15_0 : dc cB15 0 (.iload_n 2) 1 := by decide +kernel
theorem d15_1 : dc cB15 1 (.newarray .byte) 2 := by decide +kernel
theorem d15_3 : dc cB15 3 (.astore_n 3) 1 := by decide +kernel
theorem d15_4 : dc cB15 4 (.aload_n 0) 1 := by decide +kernel
theorem d15_5 : dc cB15 5 (.iload_n 1) 1 := by decide +kernel
theorem d15_6 : dc cB15 6 (.aload_n 3) 1 := by decide +kernel
theorem d15_7 : dc cB15 7 (.iconst 0) 1 := by decide +kernel
theorem d15_8 : dc cB15 8 (.iload_n 2) 1 := by decide +kernel
theorem d15_9 : dc cB15 9 (.invokestatic 115) 3 := by decide +kernel
theorem wd79 {Z a0} (hw : HW a0 Z) : (Cond.methodLink U16 (115 : Nat) y_0).before a0 Z = true := mw hw 79 rfl
theorem wd81 {Z a0} (hw : HW a0 Z) : (Cond.code y_0 cB16 (7 : Nat) (Option.some FieldType.int)).before a0 Z = true := mw hw 81 rfl
theorem wd77 {Z a0} (hw : HW a0 Z) : (Cond.initialized U16).before a0 Z = true := mw hw 77 rfl
theorem pd0 : parseMethodDescriptor "([CI[BII)I" = some ⟨[(.array .char), .int, (.array .byte), .int, .int], some .int⟩ := by decide +kernel
theorem wd80 {Z a0} (hw : HW a0 Z) : (Cond.static y_0).before a0 Z = true := mw hw 80 rfl
theorem d15_12 : dc cB15 12 (.istore 4) 2 := by decide +kernel
theorem d15_14 : dc cB15 14 (.iload 4) 2 := by decide +kernel
theorem d15_16 : dc cB15 16 (.iload_n 2) 1 := by decide +kernel
theorem d15_17 : dc cB15 17 (.if_icmp .eq 40) 3 := by decide +kernel
theorem d15_57 : dc cB15 57 (.aload_n 3) 1 := by decide +kernel
theorem d15_58 : dc cB15 58 .areturn 1 := by decide +kernel
def Qc3_1 (Z : State) (a1 : Addr) (k_c : ClassId) (v0 : Int32) (h0 : Heap) (n0 : Nat) (v : Option Value) (h : Heap) (L : List Loc) : Prop := ∃ xc3_1_0 : Addr, ∃ k_xc3_1_0 : ClassId, v = some (.ref xc3_1_0) ∧ Fr n0 L ∧ Keep h0 h [] ∧ n0 ≤ xc3_1_0 ∧ h0.size ≤ xc3_1_0 ∧ Arv Z h xc3_1_0 k_xc3_1_0 .byte (1 : Int32) [(.int ((v0.toInt8.toInt32).toInt8.toInt32))] (.int (0 : Int32))
theorem efc3_1 (m : MethodId) (x0 : Addr) : entryFrame m #[(.ref x0), (.int (0 : Int32)), (.int (1 : Int32))] 6 = mkF m 0 #[.val (.ref x0), .val (.int (0 : Int32)), .val (.int (1 : Int32)), .unset, .unset, .unset] [] := by first | (simp [entryFrame, mkF, argsToLocals, Value.category]; done) | rfl
theorem rmc3_1 (l : Launch) (Z : State) (a0 : Array Value) (hw : HW a0 Z) (ws : List Jvm.Cond) (a1 : Addr) (k_c : ClassId) (v0 : Int32) (h0 : Heap) (n0 : Nat) (Z0 : n0 ≤ h0.size) (V_c : Arv Z h0 a1 k_c .char (1 : Int32) [(.int v0)] (.int (0 : Int32))) (hv0 : ¬ (255 : Int32) < v0) :
  MetFree l y_1 (head1 (Cond.code y_1 cB15 6 (some (.array .byte)) :: ws) (Rm 1 1 1 18)) (Pr Z h0 #[(.ref a1), (.int (0 : Int32)), (.int (1 : Int32))]) Tr (fun _ U o U' => ∃ v L, o = .returned v ∧ Qc3_1 Z a1 k_c v0 h0 n0 v U'.heap L ∧ FrameEnd U o U' L (Rm 1 1 1 18).cells (Rm 1 1 1 18).slots) := by
 refine MetFree.of_bodySF (plainFor_of_name pn0) hisR ?_
 intro p e s m args below meth c s₁ Bd hml0 hP hK
 obtain ⟨rfl, hZ, hh⟩ := hP
 have hx := Bd.exec
 have D := @hb _ _ Bd.bytes
 have hml : c.maxLocals = 6 := hml0
 have hown : s.vm.findClass U16 = some m.cls := findClass_of_methodNamed Bd.named
 have hnm := (name_of_methodNamed Bd.named Bd.method).1
 have X0 : Stand p l e (Rm 1 1 1 18) s m #[(.ref a1), (.int (0 : Int32)), (.int (1 : Int32))] below meth c s₁ [] 0 0 := Stand.of_body Bd
 have e0 : s₁.heap = h0 := by rw [← hh, Bd.state]; rfl
 have N0 := Fr.nil n0
 have K0 : Keep h0 h0 [] := Keep.refl h0 _
 refine G (P := fun o U' => ∃ v L, o = .returned v ∧ Qc3_1 Z a1 k_c v0 h0 n0 v U'.heap L ∧ FrameEnd s o U' L (Rm 1 1 1 18).cells (Rm 1 1 1 18).slots) (fun t k => castTop (efc3_1 m a1) k) ?_
 refine sG s₁ (mkF m 0 #[vr a1, vi 0, vi 1, us, us, us] []) ?_
 refine G (fun t k => XS.iloadN X0.here hx rfl (D d15_0) rfl k) ?_
 obtain ⟨T1, h1, k1, X1, e1, E1, A1, st1⟩ := newP X0 hx hZ (aty := .byte) (wd22 hw) e0 (g := (mkF m 1 #[vr a1, vi 0, vi 1, us, us, us] [(.int 1)])) rfl (D d15_1) rfl (by decide) (cap := 1) (by decide) (by decide) (by decide) (by decide)
 obtain ⟨b1, g1⟩ : ∃ z, z = h0.size := ⟨_, rfl⟩
 rw [← g1] at A1 st1
 refine G st1 ?_
 have ne_a1_b1 : a1 ≠ b1 := Nat.ne_of_lt (Nat.lt_of_lt_of_le V_c.lt (Nat.le_of_eq g1.symm))
 have g_b1 : n0 ≤ b1 := Nat.le_trans Z0 (Nat.le_of_eq g1.symm)
 have sz_b1 : h0.size ≤ b1 := Nat.le_trans K0.1 (Nat.le_of_eq g1.symm)
 replace V_c := V_c.ext E1
 replace K0 := K0.ext E1
 replace Z0 := Nat.le_trans Z0 E1.1
 have V_b1 : Arv Z h1 b1 k1 .byte (1 : Int32) [(.int (0 : Int32))] (.int (0 : Int32)) := (Arv.new A1 (by decide)).pad (pad_rep [] (.int (0 : Int32)) 1)
 refine G (fun t k => XS.astoreN X1.here hx rfl (D d15_3) rfl rfl (l' := #[vr a1, vi 0, vi 1, vr b1, us, us]) rfl (XS.aloadN X1.here hx rfl (D d15_4) rfl rfl (XS.iloadN X1.here hx rfl (D d15_5) rfl (XS.aloadN X1.here hx rfl (D d15_6) rfl rfl (XS.iconst X1.here hx rfl (D d15_7) k))))) ?_
 refine sG T1 (mkF m 8 #[vr a1, vi 0, vi 1, vr b1, us, us] [(.int 0), (.ref b1), (.int 0), (.ref a1)]) ?_
 refine G (fun t k => XS.iloadN X1.here hx rfl (D d15_8) rfl k) ?_
 obtain ⟨_, T2, Lc2, X2, hQ2, st2⟩ := cS X1 hx hZ hown hml (wd79 hw) (wd80 hw) (wd77 hw) (wd81 hw) e1 0 [] (rmc5_1 l Z a0 hw [] a1 b1 k_c v0 k1 h1 n0 Z0 V_c V_b1 hv0 ne_a1_b1 g_b1) pd0 (mkF m 9 #[vr a1, vi 0, vi 1, vr b1, us, us] [(.int 1), (.int 0), (.ref b1), (.int 0), (.ref a1)]) (D d15_9)
 refine G st2 ?_
 have V_b1_pre := V_b1
 obtain ⟨h2, e2⟩ : ∃ z, T2.heap = z := ⟨_, rfl⟩
 rw [e2] at hQ2
 obtain ⟨rfl, N2q, K2, Q2_0⟩ := hQ2
 replace V_c := V_c.keep K2 (ninS ne_a1_b1 nin0)
 replace Z0 := Nat.le_trans Z0 K2.1
 replace K0 := K0.trans K2 (allS (Or.inr sz_b1) all0)
 clear V_b1_pre
 have V_b1 := Q2_0
 have N2 := Fr.app N0 N2q
 refine G (fun t k => XS.istore X2.here hx rfl (D d15_12) rfl (l' := #[vr a1, vi 0, vi 1, vr b1, vi 1, us]) rfl (XS.iload X2.here hx rfl (D d15_14) rfl (XS.iloadN X2.here hx rfl (D d15_16) rfl (XS.icmpYes X2.here hx rfl (pc0 := 17) (pc' := 57) rfl (D d15_17) rfl (teq (by decide : (1 : Int32) = (1 : Int32))).1 (by decide) (by decide) (XS.aloadN X2.here hx rfl (D d15_57) rfl rfl k))))) ?_
 refine sG T2 (mkF m 58 #[vr a1, vi 0, vi 1, vr b1, vi 1, us] [(.ref b1)]) ?_
 exact lfR (Q := Qc3_1 Z a1 k_c v0 h0 n0) Bd X2 e2 (D d15_58) rfl rfl rfl ⟨b1, k1, rfl, N2, K0, g_b1, sz_b1, V_b1⟩ (by decide) (by decide)
theorem d17_0 : dc cB17 0 (.iload_n 1) 1 := by decide +kernel
theorem d17_1 : dc cB17 1 (.aload_n 0) 1 := by decide +kernel
theorem d17_2 : dc cB17 2 .arraylength 1 := by decide +kernel
theorem d17_3 : dc cB17 3 .isub 1 := by decide +kernel
theorem d17_4 : dc cB17 4 (.bipush 31) 2 := by decide +kernel
theorem d17_6 : dc cB17 6 .iushr 1 := by decide +kernel
theorem d17_7 : dc cB17 7 .i2b 1 := by decide +kernel
theorem d17_8 : dc cB17 8 .ireturn 1 := by decide +kernel
def Qcl_1 (Z : State) (a1 : Addr) (k_b : ClassId) (v0 : Int32) (h0 : Heap) (n0 : Nat) (v : Option Value) (h : Heap) (L : List Loc) : Prop := v = some (.int (0 : Int32)) ∧ Fr n0 L ∧ h = h0
theorem efcl_1 (m : MethodId) (x0 : Addr) : entryFrame m #[(.ref x0), (.int (1 : Int32))] 2 = mkF m 0 #[.val (.ref x0), .val (.int (1 : Int32))] [] := by first | (simp [entryFrame, mkF, argsToLocals, Value.category]; done) | rfl
theorem rmcl_1 (l : Launch) (Z : State) (a0 : Array Value) (hw : HW a0 Z) (ws : List Jvm.Cond) (a1 : Addr) (k_b : ClassId) (v0 : Int32) (h0 : Heap) (n0 : Nat) (Z0 : n0 ≤ h0.size) (V_b : Arv Z h0 a1 k_b .byte (1 : Int32) [(.int v0)] (.int (0 : Int32))) :
  MetFree l y_2 (head1 (Cond.code y_2 cB17 2 (some .byte) :: ws) (Rm 0 0 0 0)) (Pr Z h0 #[(.ref a1), (.int (1 : Int32))]) Tr (fun _ U o U' => ∃ v L, o = .returned v ∧ Qcl_1 Z a1 k_b v0 h0 n0 v U'.heap L ∧ FrameEnd U o U' L (Rm 0 0 0 0).cells (Rm 0 0 0 0).slots) := by
 refine MetFree.of_bodySF (plainFor_of_name pn0) hisR ?_
 intro p e s m args below meth c s₁ Bd hml0 hP hK
 obtain ⟨rfl, hZ, hh⟩ := hP
 have hx := Bd.exec
 have D := @hb _ _ Bd.bytes
 have hml : c.maxLocals = 2 := hml0
 have hown : s.vm.findClass U16 = some m.cls := findClass_of_methodNamed Bd.named
 have hnm := (name_of_methodNamed Bd.named Bd.method).1
 have X0 : Stand p l e (Rm 0 0 0 0) s m #[(.ref a1), (.int (1 : Int32))] below meth c s₁ [] 0 0 := Stand.of_body Bd
 have e0 : s₁.heap = h0 := by rw [← hh, Bd.state]; rfl
 have N0 := Fr.nil n0
 have K0 : Keep h0 h0 [] := Keep.refl h0 _
 refine G (P := fun o U' => ∃ v L, o = .returned v ∧ Qcl_1 Z a1 k_b v0 h0 n0 v U'.heap L ∧ FrameEnd s o U' L (Rm 0 0 0 0).cells (Rm 0 0 0 0).slots) (fun t k => castTop (efcl_1 m a1) k) ?_
 refine sG s₁ (mkF m 0 #[vr a1, vi 1] []) ?_
 refine G (fun t k => XS.iloadN X0.here hx rfl (D d17_0) rfl (XS.aloadN X0.here hx rfl (D d17_1) rfl rfl k)) ?_
 obtain ⟨cl1, Ar1, -, Sz1, Ng1, -, -⟩ := id V_b
 refine G (fun t k => X0.arraylength hx (by rw [e0]; exact Ar1.1) (State.isArrayOf_alike hZ.alike Ar1.2.1) (g := (mkF m 2 #[vr a1, vi 1] [(.ref a1), (.int 1)])) rfl rfl (D d17_2) _ k) ?_
 rw [len_of Sz1 Ng1]
 clear Ng1 Sz1 Ar1 cl1
 refine G (fun t k => XS.isub X0.here hx rfl (D d17_3) rfl (XS.bipush X0.here hx rfl (D d17_4) (XS.iushr X0.here hx rfl (D d17_6) rfl k))) ?_
 refine sG s₁ (mkF m 7 #[vr a1, vi 1] [(.int (((0 : Int32).toUInt32 >>> ((31 : Int32) &&& 31).toUInt32).toInt32))]) ?_
 refine Go.fr (g' := (mkF m 7 #[vr a1, vi 1] [(.int 0)])) (by rw [show (((0 : Int32).toUInt32 >>> ((31 : Int32) &&& 31).toUInt32).toInt32) = (0 : Int32) from by decide]) ?_
 refine G (fun t k => XS.i2b X0.here hx rfl (D d17_7) rfl k) ?_
 exact lfN (Q := Qcl_1 Z a1 k_b v0 h0 n0) Bd X0 e0 (D d17_8) (by simp) (w := (0 : Int32)) rfl ⟨rfl, N0, rfl⟩ (by decide) (by decide)
theorem d4_0 : dc cB4 0 (.aload_n 0) 1 := by decide +kernel
theorem d4_1 : dc cB4 1 (.invokespecial 1) 3 := by decide +kernel
theorem wd18 {Z a0} (hw : HW a0 Z) : (Cond.methodLink SN (1 : Nat) ⟨"java/lang/Object", "<init>", "()V"⟩).before a0 Z = true := mw hw 18 rfl
theorem wd20 {Z a0} (hw : HW a0 Z) : (Cond.code ⟨"java/lang/Object", "<init>", "()V"⟩ cB5 (1 : Nat) (Option.none : Option FieldType)).before a0 Z = true := mw hw 20 rfl
theorem wd19 {Z a0} (hw : HW a0 Z) : (Cond.instanceMethod ⟨"java/lang/Object", "<init>", "()V"⟩).before a0 Z = true := mw hw 19 rfl
theorem d4_4 : dc cB4 4 (.iload_n 3) 1 := by decide +kernel
theorem d4_5 : dc cB4 5 (.ifCond .ne 22) 3 := by decide +kernel
theorem d4_27 : dc cB4 27 (.getstatic 38) 3 := by decide +kernel
theorem wd54 {Z a0} (hw : HW a0 Z) : (Cond.fieldLink SN (38 : Nat) SN "COMPACT_STRINGS" "Z").before a0 Z = true := mw hw 54 rfl
theorem d4_30 : dc cB4 30 (.ifCond .eq 28) 3 := by decide +kernel
theorem d4_33 : dc cB4 33 (.aload_n 1) 1 := by decide +kernel
theorem d4_34 : dc cB4 34 (.iload_n 2) 1 := by decide +kernel
theorem d4_35 : dc cB4 35 (.iload_n 3) 1 := by decide +kernel
theorem d4_36 : dc cB4 36 (.invokestatic 177) 3 := by decide +kernel
theorem wd75 {Z a0} (hw : HW a0 Z) : (Cond.methodLink SN (177 : Nat) y_1).before a0 Z = true := mw hw 75 rfl
theorem wd78 {Z a0} (hw : HW a0 Z) : (Cond.code y_1 cB15 (6 : Nat) (Option.some (FieldType.array FieldType.byte))).before a0 Z = true := mw hw 78 rfl
theorem pd1 : parseMethodDescriptor "([CII)[B" = some ⟨[(.array .char), .int, .int], some (.array .byte)⟩ := by decide +kernel
theorem wd76 {Z a0} (hw : HW a0 Z) : (Cond.static y_1).before a0 Z = true := mw hw 76 rfl
theorem d4_39 : dc cB4 39 (.astore 5) 2 := by decide +kernel
theorem d4_41 : dc cB4 41 (.aload_n 0) 1 := by decide +kernel
theorem d4_42 : dc cB4 42 (.aload 5) 2 := by decide +kernel
theorem d4_44 : dc cB4 44 (.iload_n 3) 1 := by decide +kernel
theorem d4_45 : dc cB4 45 (.invokestatic 47) 3 := by decide +kernel
theorem wd82 {Z a0} (hw : HW a0 Z) : (Cond.methodLink SN (47 : Nat) y_2).before a0 Z = true := mw hw 82 rfl
theorem wd84 {Z a0} (hw : HW a0 Z) : (Cond.code y_2 cB17 (2 : Nat) (Option.some FieldType.byte)).before a0 Z = true := mw hw 84 rfl
theorem pd2 : parseMethodDescriptor "([BI)B" = some ⟨[(.array .byte), .int], some .byte⟩ := by decide +kernel
theorem wd83 {Z a0} (hw : HW a0 Z) : (Cond.static y_2).before a0 Z = true := mw hw 83 rfl
theorem d4_48 : dc cB4 48 (.putfield 15) 3 := by decide +kernel
theorem wd28 {Z a0} (hw : HW a0 Z) : (Cond.fieldLink SN (15 : Nat) SN "coder" "B").before a0 Z = true := mw hw 28 rfl
theorem d4_51 : dc cB4 51 (.aload_n 0) 1 := by decide +kernel
theorem d4_52 : dc cB4 52 (.aload 5) 2 := by decide +kernel
theorem d4_54 : dc cB4 54 (.putfield 9) 3 := by decide +kernel
theorem wd27 {Z a0} (hw : HW a0 Z) : (Cond.fieldLink SN (9 : Nat) SN "value" "[B").before a0 Z = true := mw hw 27 rfl
theorem d4_57 : dc cB4 57 .return_ 1 := by decide +kernel
theorem pn1 : plainName SN = true := by first | (simp [plainName, overriddenIn]; done) | decide +kernel
def Qi4_1 (Z : State) (a1 : Addr) (a2 : Addr) (k_c : ClassId) (v0 : Int32) (wC : Int32) (h0 : Heap) (n0 : Nat) (v : Option Value) (h : Heap) (L : List Loc) : Prop := ∃ xi4_1_0 : Addr, ∃ k_xi4_1_0 : ClassId, v = none ∧ Fr n0 L ∧ Keep h0 h [a1] ∧ n0 ≤ xi4_1_0 ∧ h0.size ≤ xi4_1_0 ∧ Exa Z h a1 SN ∧ Fld Z h a1 SN "value" "[B" (.ref xi4_1_0) ∧ Fld Z h a1 SN "coder" "B" (.int (0 : Int32)) ∧ Arv Z h xi4_1_0 k_xi4_1_0 .byte (1 : Int32) [(.int ((v0.toInt8.toInt32).toInt8.toInt32))] (.int (0 : Int32))
theorem efi4_1 (m : MethodId) (x0 : Addr) (x1 : Addr) : entryFrame m #[(.ref x0), (.ref x1), (.int (0 : Int32)), (.int (1 : Int32)), .null] 6 = mkF m 0 #[.val (.ref x0), .val (.ref x1), .val (.int (0 : Int32)), .val (.int (1 : Int32)), .val .null, .unset] [] := by first | (simp [entryFrame, mkF, argsToLocals, Value.category]; done) | rfl
theorem sn0 {Z a0} (hw : HW a0 Z) {b a : Addr} : b ≠ a ∨ RoadKit.slotOf Z SN "value" "[B" ≠ RoadKit.slotOf Z SN "coder" "B" := Or.inr (slot_ne (Or.inr (wd23 hw)) (Or.inr (wd24 hw)) (by decide) (t := (.array .byte)) (t' := .byte) (by decide) (by decide))
theorem sn1 {Z a0} (hw : HW a0 Z) {b a : Addr} : b ≠ a ∨ RoadKit.slotOf Z SN "coder" "B" ≠ RoadKit.slotOf Z SN "value" "[B" := Or.inr (slot_ne (Or.inr (wd24 hw)) (Or.inr (wd23 hw)) (by decide) (t := .byte) (t' := (.array .byte)) (by decide) (by decide))
theorem rmi4_1 (l : Launch) (Z : State) (a0 : Array Value) (hw : HW a0 Z) (ws : List Jvm.Cond) (a1 : Addr) (a2 : Addr) (k_c : ClassId) (v0 : Int32) (wC : Int32) (h0 : Heap) (n0 : Nat) (Z0 : n0 ≤ h0.size) (E_a1 : Exa Z h0 a1 SN) (F_a1_v : Fld Z h0 a1 SN "value" "[B" .null) (F_a1_c : Fld Z h0 a1 SN "coder" "B" (.int (0 : Int32))) (V_c : Arv Z h0 a2 k_c .char (1 : Int32) [(.int v0)] (.int (0 : Int32))) (SC : Sta Z h0 SN "COMPACT_STRINGS" "Z" (.int wC)) (hv0 : ¬ (255 : Int32) < v0) (hcs : ¬ wC = (0 : Int32)) (ne_a1_a2 : a1 ≠ a2) (g_a1 : n0 ≤ a1) :
  MetFree l y_3 (head1 (Cond.code y_3 cB4 6 none :: ws) (Rm 2 1 1 35)) (Pr Z h0 #[(.ref a1), (.ref a2), (.int (0 : Int32)), (.int (1 : Int32)), .null]) Tr (fun _ U o U' => ∃ v L, o = .returned v ∧ Qi4_1 Z a1 a2 k_c v0 wC h0 n0 v U'.heap L ∧ FrameEnd U o U' L (Rm 2 1 1 35).cells (Rm 2 1 1 35).slots) := by
 refine MetFree.of_bodySF (plainFor_of_name pn1) hisR ?_
 intro p e s m args below meth c s₁ Bd hml0 hP hK
 obtain ⟨rfl, hZ, hh⟩ := hP
 have hx := Bd.exec
 have D := @hb _ _ Bd.bytes
 have hml : c.maxLocals = 6 := hml0
 have hown : s.vm.findClass SN = some m.cls := findClass_of_methodNamed Bd.named
 have hnm := (name_of_methodNamed Bd.named Bd.method).1
 have X0 : Stand p l e (Rm 2 1 1 35) s m #[(.ref a1), (.ref a2), (.int (0 : Int32)), (.int (1 : Int32)), .null] below meth c s₁ [] 0 0 := Stand.of_body Bd
 have e0 : s₁.heap = h0 := by rw [← hh, Bd.state]; rfl
 have N0 := Fr.nil n0
 have K0 : Keep h0 h0 [a1] := Keep.refl h0 _
 refine G (P := fun o U' => ∃ v L, o = .returned v ∧ Qi4_1 Z a1 a2 k_c v0 wC h0 n0 v U'.heap L ∧ FrameEnd s o U' L (Rm 2 1 1 35).cells (Rm 2 1 1 35).slots) (fun t k => castTop (efi4_1 m a1 a2) k) ?_
 refine sG s₁ (mkF m 0 #[vr a1, vr a2, vi 0, vi 1, .val .null, us] []) ?_
 refine G (fun t k => XS.aloadN X0.here hx rfl (D d4_0) rfl rfl k) ?_
 obtain ⟨T1, X1, e1, st1⟩ := initO X0 hx hZ hown (wd18 hw) (wd19 hw) (wd20 hw) e0 (g := (mkF m 1 #[vr a1, vr a2, vi 0, vi 1, .val .null, us] [(.ref a1)])) rfl (by rw [hml]; rfl) rfl (D d4_1) (by decide) (W := 0) (by show 2 * 0 + _ ≤ _; exact Nat.le_of_eq rfl) (by decide)
 refine G st1 ?_
 refine G (fun t k => XS.iloadN X1.here hx rfl (D d4_4) rfl (XS.ifYes X1.here hx rfl (pc0 := 5) (pc' := 27) rfl (D d4_5) rfl ((if0 _ _).trans (feq (by decide : ¬ ((1 : Int32) = (0 : Int32)))).2) (by decide) (by decide) k)) ?_
 obtain ⟨T2, X2, e2, st2⟩ := getS2 X1 hx hZ hown (host := "") (Or.inl (wd54 hw)) Via.refl e1 SC (g := (mkF m 27 #[vr a1, vr a2, vi 0, vi 1, .val .null, us] [])) rfl (D d4_27)
 refine G st2 ?_
 have hf3 : ¬ (wC = (0 : Int32)) := hcs
 refine G (fun t k => XS.ifNo X2.here hx rfl (D d4_30) rfl ((if0 _ _).trans (feq hf3).1) (XS.aloadN X2.here hx rfl (D d4_33) rfl rfl k)) ?_
 refine sG T2 (mkF m 34 #[vr a1, vr a2, vi 0, vi 1, .val .null, us] [(.ref a2)]) ?_
 refine G (fun t k => XS.iloadN X2.here hx rfl (D d4_34) rfl (XS.iloadN X2.here hx rfl (D d4_35) rfl k)) ?_
 obtain ⟨_, T4, Lc4, X4, hQ4, st4⟩ := cS X2 hx hZ hown hml (wd75 hw) (wd76 hw) (wd77 hw) (wd78 hw) e2 0 [] (rmc3_1 l Z a0 hw [] a2 k_c v0 h0 n0 Z0 V_c hv0) pd1 (mkF m 36 #[vr a1, vr a2, vi 0, vi 1, .val .null, us] [(.int 1), (.int 0), (.ref a2)]) (D d4_36)
 obtain ⟨h4, e4⟩ : ∃ z, T4.heap = z := ⟨_, rfl⟩
 rw [e4] at hQ4
 obtain ⟨y4, k_y4, rfl, N4q, K4, ng_y4, sz0_y4, Q4_0⟩ := hQ4
 refine G st4 ?_
 have ne_a1_y4 : a1 ≠ y4 := Nat.ne_of_lt (Nat.lt_of_lt_of_le E_a1.lt sz0_y4)
 have ne_a2_y4 : a2 ≠ y4 := Nat.ne_of_lt (Nat.lt_of_lt_of_le V_c.lt sz0_y4)
 have g_y4 : n0 ≤ y4 := ng_y4
 have sz_y4 : h0.size ≤ y4 := Nat.le_trans K0.1 sz0_y4
 replace E_a1 := E_a1.keep K4
 replace F_a1_v := F_a1_v.keep K4 nin0
 replace F_a1_c := F_a1_c.keep K4 nin0
 replace V_c := V_c.keep K4 nin0
 replace SC := sta_keep SC K4 all0
 replace Z0 := Nat.le_trans Z0 K4.1
 replace K0 := K0.trans K4 all0
 have V_y4 := Q4_0
 have N4 := Fr.app N0 N4q
 refine G (fun t k => XS.astore X4.here hx rfl (D d4_39) rfl rfl (l' := #[vr a1, vr a2, vi 0, vi 1, .val .null, vr y4]) rfl (XS.aloadN X4.here hx rfl (D d4_41) rfl rfl (XS.aload X4.here hx rfl (D d4_42) rfl rfl (XS.iloadN X4.here hx rfl (D d4_44) rfl k)))) ?_
 refine sG T4 (mkF m 45 #[vr a1, vr a2, vi 0, vi 1, .val .null, vr y4] [(.int 1), (.ref y4), (.ref a1)]) ?_
 obtain ⟨_, T5, Lc5, X5, hQ5, st5⟩ := cS X4 hx hZ hown hml (wd82 hw) (wd83 hw) (wd77 hw) (wd84 hw) e4 1 [(.ref a1)] (rmcl_1 l Z a0 hw [] y4 k_y4 ((v0.toInt8.toInt32).toInt8.toInt32) h4 n0 Z0 V_y4) pd2 (mkF m 45 #[vr a1, vr a2, vi 0, vi 1, .val .null, vr y4] [(.int 1), (.ref y4), (.ref a1)]) (D d4_45)
 refine G st5 ?_
 obtain ⟨rfl, N5q, e5⟩ := hQ5
 have N5 := Fr.app N4 N5q
 obtain ⟨T6, h6, X6, e6, W6, st6⟩ := putFN X5 hx hZ hown (wd28 hw) Via.refl e5 F_a1_c E_a1 (Or.inr ⟨(wd24 hw), rfl, hnm⟩) (wd9 hw) (ty := .byte) (v' := (.int ((0 : Int32).toInt8.toInt32))) (by decide) rfl (fits_nar_byte _) (g := (mkF m 48 #[vr a1, vr a2, vi 0, vi 1, .val .null, vr y4] [(.int 0), (.ref a1)])) rfl rfl (D d4_48)
 refine G st6 ?_
 have N6 := Fr.snoc X6 N5 g_a1
 replace E_a1 := E_a1.wr W6
 replace F_a1_v := F_a1_v.other W6 (sn0 hw)
 replace F_a1_c := F_a1_c.same W6
 replace V_c := V_c.other W6 (Ne.symm ne_a1_a2)
 replace SC := SC.wr W6
 replace V_y4 := V_y4.other W6 (Ne.symm ne_a1_y4)
 replace Z0 := Nat.le_trans Z0 (Nat.le_of_eq W6.size.symm)
 replace K0 := K0.wr W6 (Or.inl (by simp))
 replace F_a1_c : Fld Z h6 a1 SN "coder" "B" (.int (0 : Int32)) := F_a1_c
 refine G (fun t k => XS.aloadN X6.here hx rfl (D d4_51) rfl rfl (XS.aload X6.here hx rfl (D d4_52) rfl rfl k)) ?_
 obtain ⟨T7, h7, X7, e7, W7, st7⟩ := putF X6 hx hZ hown (host := "") (Or.inl (wd27 hw)) Via.refl e6 F_a1_v E_a1 (Or.inr ⟨(wd23 hw), rfl, hnm⟩) (wd9 hw) (ty := (.array .byte)) (by decide) rfl rfl (g := (mkF m 54 #[vr a1, vr a2, vi 0, vi 1, .val .null, vr y4] [(.ref y4), (.ref a1)])) rfl rfl (D d4_54)
 refine G st7 ?_
 have N7 := Fr.snoc X7 N6 g_a1
 obtain ⟨LL7, X7, N7⟩ : ∃ LL, Stand p l e (Rm 2 1 1 35) s m #[(.ref a1), (.ref a2), (.int (0 : Int32)), (.int (1 : Int32)), .null] below meth c T7 LL 1 1 ∧ Fr n0 LL := ⟨_, X7, N7⟩
 replace E_a1 := E_a1.wr W7
 replace F_a1_v := F_a1_v.same W7
 replace F_a1_c := F_a1_c.other W7 (sn1 hw)
 replace V_c := V_c.other W7 (Ne.symm ne_a1_a2)
 replace SC := SC.wr W7
 replace V_y4 := V_y4.other W7 (Ne.symm ne_a1_y4)
 replace Z0 := Nat.le_trans Z0 (Nat.le_of_eq W7.size.symm)
 replace K0 := K0.wr W7 (Or.inl (by simp))
 exact lfV (Q := Qi4_1 Z a1 a2 k_c v0 wC h0 n0) Bd X7 e7 (D d4_57) ⟨y4, k_y4, rfl, N7, K0, g_y4, sz_y4, E_a1, F_a1_v, F_a1_c, V_y4⟩ (by decide) (by decide)
theorem d3_0 : dc cB3 0 (.aload_n 0) 1 := by decide +kernel
theorem d3_1 : dc cB3 1 (.aload_n 1) 1 := by decide +kernel
theorem d3_2 : dc cB3 2 (.iconst 0) 1 := by decide +kernel
theorem d3_3 : dc cB3 3 (.aload_n 1) 1 := by decide +kernel
theorem d3_4 : dc cB3 4 .arraylength 1 := by decide +kernel
theorem d3_5 : dc cB3 5 .aconst_null 1 := by decide +kernel
theorem d3_6 : dc cB3 6 (.invokespecial 27) 3 := by decide +kernel
theorem wd14 {Z a0} (hw : HW a0 Z) : (Cond.methodLink SN (27 : Nat) y_3).before a0 Z = true := mw hw 14 rfl
theorem wd17 {Z a0} (hw : HW a0 Z) : (Cond.code y_3 cB4 (6 : Nat) (Option.none : Option FieldType)).before a0 Z = true := mw hw 17 rfl
theorem pd3 : parseMethodDescriptor "([CIILjava/lang/Void;)V" = some ⟨[(.array .char), .int, .int, (.object "java/lang/Void")], none⟩ := by decide +kernel
theorem wd15 {Z a0} (hw : HW a0 Z) : (Cond.instanceMethod y_3).before a0 Z = true := mw hw 15 rfl
theorem d3_9 : dc cB3 9 .return_ 1 := by decide +kernel
def Qi1_1 (Z : State) (a1 : Addr) (a2 : Addr) (k_c : ClassId) (v0 : Int32) (wC : Int32) (h0 : Heap) (n0 : Nat) (v : Option Value) (h : Heap) (L : List Loc) : Prop := ∃ xi1_1_0 : Addr, ∃ k_xi1_1_0 : ClassId, v = none ∧ Fr n0 L ∧ Keep h0 h [a1] ∧ n0 ≤ xi1_1_0 ∧ h0.size ≤ xi1_1_0 ∧ Exa Z h a1 SN ∧ Fld Z h a1 SN "value" "[B" (.ref xi1_1_0) ∧ Fld Z h a1 SN "coder" "B" (.int (0 : Int32)) ∧ Arv Z h xi1_1_0 k_xi1_1_0 .byte (1 : Int32) [(.int ((v0.toInt8.toInt32).toInt8.toInt32))] (.int (0 : Int32))
theorem efi1_1 (m : MethodId) (x0 : Addr) (x1 : Addr) : entryFrame m #[(.ref x0), (.ref x1)] 2 = mkF m 0 #[.val (.ref x0), .val (.ref x1)] [] := by first | (simp [entryFrame, mkF, argsToLocals, Value.category]; done) | rfl
theorem rmi1_1 (l : Launch) (Z : State) (a0 : Array Value) (hw : HW a0 Z) (ws : List Jvm.Cond) (a1 : Addr) (a2 : Addr) (k_c : ClassId) (v0 : Int32) (wC : Int32) (h0 : Heap) (n0 : Nat) (Z0 : n0 ≤ h0.size) (E_a1 : Exa Z h0 a1 SN) (F_a1_v : Fld Z h0 a1 SN "value" "[B" .null) (F_a1_c : Fld Z h0 a1 SN "coder" "B" (.int (0 : Int32))) (V_c : Arv Z h0 a2 k_c .char (1 : Int32) [(.int v0)] (.int (0 : Int32))) (SC : Sta Z h0 SN "COMPACT_STRINGS" "Z" (.int wC)) (hv0 : ¬ (255 : Int32) < v0) (hcs : ¬ wC = (0 : Int32)) (ne_a1_a2 : a1 ≠ a2) (g_a1 : n0 ≤ a1) :
  MetFree l y_4 (head1 (Cond.code y_4 cB3 2 none :: ws) (Rm 3 1 1 52)) (Pr Z h0 #[(.ref a1), (.ref a2)]) Tr (fun _ U o U' => ∃ v L, o = .returned v ∧ Qi1_1 Z a1 a2 k_c v0 wC h0 n0 v U'.heap L ∧ FrameEnd U o U' L (Rm 3 1 1 52).cells (Rm 3 1 1 52).slots) := by
 refine MetFree.of_bodySF (plainFor_of_name pn1) hisR ?_
 intro p e s m args below meth c s₁ Bd hml0 hP hK
 obtain ⟨rfl, hZ, hh⟩ := hP
 have hx := Bd.exec
 have D := @hb _ _ Bd.bytes
 have hml : c.maxLocals = 2 := hml0
 have hown : s.vm.findClass SN = some m.cls := findClass_of_methodNamed Bd.named
 have hnm := (name_of_methodNamed Bd.named Bd.method).1
 have X0 : Stand p l e (Rm 3 1 1 52) s m #[(.ref a1), (.ref a2)] below meth c s₁ [] 0 0 := Stand.of_body Bd
 have e0 : s₁.heap = h0 := by rw [← hh, Bd.state]; rfl
 have N0 := Fr.nil n0
 have K0 : Keep h0 h0 [a1] := Keep.refl h0 _
 refine G (P := fun o U' => ∃ v L, o = .returned v ∧ Qi1_1 Z a1 a2 k_c v0 wC h0 n0 v U'.heap L ∧ FrameEnd s o U' L (Rm 3 1 1 52).cells (Rm 3 1 1 52).slots) (fun t k => castTop (efi1_1 m a1 a2) k) ?_
 refine sG s₁ (mkF m 0 #[vr a1, vr a2] []) ?_
 refine G (fun t k => XS.aloadN X0.here hx rfl (D d3_0) rfl rfl (XS.aloadN X0.here hx rfl (D d3_1) rfl rfl (XS.iconst X0.here hx rfl (D d3_2) (XS.aloadN X0.here hx rfl (D d3_3) rfl rfl k)))) ?_
 obtain ⟨cl1, Ar1, -, Sz1, Ng1, -, -⟩ := id V_c
 refine G (fun t k => X0.arraylength hx (by rw [e0]; exact Ar1.1) (State.isArrayOf_alike hZ.alike Ar1.2.1) (g := (mkF m 4 #[vr a1, vr a2] [(.ref a2), (.int 0), (.ref a2), (.ref a1)])) rfl rfl (D d3_4) _ k) ?_
 rw [len_of Sz1 Ng1]
 clear Ng1 Sz1 Ar1 cl1
 refine G (fun t k => XS.aconstNull X0.here hx rfl (D d3_5) k) ?_
 obtain ⟨_, _, ⟨T2, L2, k2, n2⟩, -, X2, ⟨Lc2, hQ2, l2, y2, z2⟩, st2⟩ := X0.specialBack hx (y := y_3) rfl hown (mvT hZ (wd14 hw)) (mvT hZ (wd15 hw)) (mvT hZ (wd17 hw)) (by decide) (backOf (W := 0) (rmi4_1 l Z a0 hw [] a1 a2 k_c v0 wC h0 n0 Z0 E_a1 F_a1_v F_a1_c V_c SC hv0 hcs ne_a1_a2 g_a1) hZ (wd17 hw) (wd10 hw) (by decide) (by decide)) (g := (mkF m 6 #[vr a1, vr a2] [.null, (.int 1), (.int 0), (.ref a2), (.ref a1)])) rfl (by rw [hml]; rfl) (Steps.refl _) (a := a1) (argsL := [(.ref a2), (.int (0 : Int32)), (.int (1 : Int32)), .null]) (rest := []) (lenOf pd3 rfl) rfl (by show 2 * 0 + _ ≤ _; exact Nat.le_of_eq rfl) (D d3_6) (fun _ _ => ⟨rfl, e0, (by decide : 0 + 1 ≤ _), (by decide : 0 + 1 ≤ _)⟩)
 dsimp only [Pt.U, Pt.locs, Pt.cells, Pt.slots] at X2 l2 y2 z2 st2 hQ2
 subst l2 y2 z2
 have E_a1_pre := E_a1
 have F_a1_value_pre := F_a1_v
 have F_a1_coder_pre := F_a1_c
 obtain ⟨h2, e2⟩ : ∃ z, T2.heap = z := ⟨_, rfl⟩
 rw [e2] at hQ2
 obtain ⟨y2, k_y2, rfl, N2q, K2, ng_y2, sz0_y2, Q2_0, Q2_1, Q2_2, Q2_3⟩ := hQ2
 refine Go.tr st2 ?_
 have ne_a1_y2 : a1 ≠ y2 := Nat.ne_of_lt (Nat.lt_of_lt_of_le E_a1.lt sz0_y2)
 have ne_a2_y2 : a2 ≠ y2 := Nat.ne_of_lt (Nat.lt_of_lt_of_le V_c.lt sz0_y2)
 have g_y2 : n0 ≤ y2 := ng_y2
 have sz_y2 : h0.size ≤ y2 := Nat.le_trans K0.1 sz0_y2
 replace E_a1 := E_a1.keep K2
 replace V_c := V_c.keep K2 (ninS (Ne.symm ne_a1_a2) nin0)
 replace SC := sta_keep SC K2 (allS (exa_ns E_a1_pre) all0)
 replace Z0 := Nat.le_trans Z0 K2.1
 replace K0 := K0.trans K2 (allS (Or.inl (by simp)) all0)
 clear E_a1_pre F_a1_value_pre F_a1_coder_pre
 have E_a1 := Q2_0
 have F_a1_v := Q2_1
 have F_a1_c := Q2_2
 have V_y2 := Q2_3
 have N2 := Fr.app N0 N2q
 refine sG T2 (mkF m 9 #[vr a1, vr a2] []) ?_
 exact lfV (Q := Qi1_1 Z a1 a2 k_c v0 wC h0 n0) Bd X2 e2 (D d3_9) ⟨y2, k_y2, rfl, N2, K0, g_y2, sz_y2, E_a1, F_a1_v, F_a1_c, V_y2⟩ (by decide) (by decide)
def Qc5_2 (Z : State) (a1 : Addr) (a3 : Addr) (k_c : ClassId) (v0 : Int32) (v1 : Int32) (k_b : ClassId) (h0 : Heap) (n0 : Nat) (v : Option Value) (h : Heap) (L : List Loc) : Prop := v = some (.int (2 : Int32)) ∧ Fr n0 L ∧ Keep h0 h [a3] ∧ Arv Z h a3 k_b .byte (2 : Int32) [(.int ((v0.toInt8.toInt32).toInt8.toInt32)), (.int ((v1.toInt8.toInt32).toInt8.toInt32))] (.int (0 : Int32))
theorem efc5_2 (m : MethodId) (x0 : Addr) (x2 : Addr) : entryFrame m #[(.ref x0), (.int (0 : Int32)), (.ref x2), (.int (0 : Int32)), (.int (2 : Int32))] 7 = mkF m 0 #[.val (.ref x0), .val (.int (0 : Int32)), .val (.ref x2), .val (.int (0 : Int32)), .val (.int (2 : Int32)), .unset, .unset] [] := by first | (simp [entryFrame, mkF, argsToLocals, Value.category]; done) | rfl
theorem rmc5_2 (l : Launch) (Z : State) (a0 : Array Value) (hw : HW a0 Z) (ws : List Jvm.Cond) (a1 : Addr) (a3 : Addr) (k_c : ClassId) (v0 : Int32) (v1 : Int32) (k_b : ClassId) (h0 : Heap) (n0 : Nat) (Z0 : n0 ≤ h0.size) (V_c : Arv Z h0 a1 k_c .char (2 : Int32) [(.int v0), (.int v1)] (.int (0 : Int32))) (V_b : Arv Z h0 a3 k_b .byte (2 : Int32) [(.int (0 : Int32)), (.int (0 : Int32))] (.int (0 : Int32))) (hv0 : ¬ (255 : Int32) < v0) (hv1 : ¬ (255 : Int32) < v1) (ne_a1_a3 : a1 ≠ a3) (g_a3 : n0 ≤ a3) :
  MetFree l y_0 (head1 (Cond.code y_0 cB16 7 (some .int) :: ws) (Rm 0 0 0 0)) (Pr Z h0 #[(.ref a1), (.int (0 : Int32)), (.ref a3), (.int (0 : Int32)), (.int (2 : Int32))]) Tr (fun _ U o U' => ∃ v L, o = .returned v ∧ Qc5_2 Z a1 a3 k_c v0 v1 k_b h0 n0 v U'.heap L ∧ FrameEnd U o U' L (Rm 0 0 0 0).cells (Rm 0 0 0 0).slots) := by
 refine MetFree.of_bodySF (plainFor_of_name pn0) hisR ?_
 intro p e s m args below meth c s₁ Bd hml0 hP hK
 obtain ⟨rfl, hZ, hh⟩ := hP
 have hx := Bd.exec
 have D := @hb _ _ Bd.bytes
 have hml : c.maxLocals = 7 := hml0
 have hown : s.vm.findClass U16 = some m.cls := findClass_of_methodNamed Bd.named
 have hnm := (name_of_methodNamed Bd.named Bd.method).1
 have X0 : Stand p l e (Rm 0 0 0 0) s m #[(.ref a1), (.int (0 : Int32)), (.ref a3), (.int (0 : Int32)), (.int (2 : Int32))] below meth c s₁ [] 0 0 := Stand.of_body Bd
 have e0 : s₁.heap = h0 := by rw [← hh, Bd.state]; rfl
 have N0 := Fr.nil n0
 have K0 : Keep h0 h0 [a3] := Keep.refl h0 _
 refine G (P := fun o U' => ∃ v L, o = .returned v ∧ Qc5_2 Z a1 a3 k_c v0 v1 k_b h0 n0 v U'.heap L ∧ FrameEnd s o U' L (Rm 0 0 0 0).cells (Rm 0 0 0 0).slots) (fun t k => castTop (efc5_2 m a1 a3) k) ?_
 refine sG s₁ (mkF m 0 #[vr a1, vi 0, vr a3, vi 0, vi 2, us, us] []) ?_
 refine G (fun t k => XS.iconst X0.here hx rfl (D d16_0) (XS.istore X0.here hx rfl (D d16_1) rfl (l' := #[vr a1, vi 0, vr a3, vi 0, vi 2, vi 0, us]) rfl (XS.iload X0.here hx rfl (D d16_3) rfl (XS.iload X0.here hx rfl (D d16_5) rfl (XS.icmpNo X0.here hx rfl (D d16_7) rfl (tlt (by decide : (0 : Int32) < (2 : Int32))).2.1 (XS.aloadN X0.here hx rfl (D d16_10) rfl rfl k)))))) ?_
 refine G (fun t k => XS.iloadN X0.here hx rfl (D d16_11) rfl k) ?_
 refine sG s₁ (mkF m 12 #[vr a1, vi 0, vr a3, vi 0, vi 2, vi 0, us] [(.int 0), (.ref a1)]) ?_
 obtain ⟨cl1, Ar1, -, Sz1, Ng1, Hs1, -⟩ := id V_c
 have hin1 := inb_of (j := (0 : Int32)) (c := cl1) Sz1 ⟨by decide, by decide⟩
 refine G (fun t k => X0.caload hx (j := (0 : Int32)) (v := (.int v0)) (by rw [e0]; exact Ar1.1) (State.isArrayOf_alike hZ.alike Ar1.2.1) Ar1.2.2 hin1 (Has.at Hs1 hin1 rfl) (g := (mkF m 12 #[vr a1, vi 0, vr a3, vi 0, vi 2, vi 0, us] [(.int 0), (.ref a1)])) rfl rfl (D d16_12) _ k) ?_
 clear hin1 Hs1 Ng1 Sz1 Ar1 cl1
 refine G (fun t k => XS.istore X0.here hx rfl (D d16_13) rfl (l' := #[vr a1, vi 0, vr a3, vi 0, vi 2, vi 0, vi v0]) rfl (XS.iload X0.here hx rfl (D d16_15) rfl (XS.sipush X0.here hx rfl (D d16_17) k))) ?_
 have hf2 : ¬ ((255 : Int32) < v0) := hv0
 refine G (fun t k => XS.icmpYes X0.here hx rfl (pc0 := 20) (pc' := 26) rfl (D d16_20) rfl (flt hf2).2.2.2 (by decide) (by decide) (XS.aloadN X0.here hx rfl (D d16_26) rfl rfl (XS.iloadN X0.here hx rfl (D d16_27) rfl k))) ?_
 refine sG s₁ (mkF m 28 #[vr a1, vi 0, vr a3, vi 0, vi 2, vi 0, vi v0] [(.int 0), (.ref a3)]) ?_
 refine G (fun t k => XS.iload X0.here hx rfl (D d16_28) rfl (XS.i2b X0.here hx rfl (D d16_30) rfl k)) ?_
 obtain ⟨cl3, Ar3, qq3, Sz3, Ng3, Hs3, Gs3⟩ := id V_b
 have hin3 := inb_of (j := (0 : Int32)) (c := cl3) Sz3 ⟨by decide, by decide⟩
 obtain ⟨T4, h4, X4, e4, W4, st4⟩ := stB X0 hx hZ e0 Ar3 (j := (0 : Int32)) hin3 (g := (mkF m 31 #[vr a1, vi 0, vr a3, vi 0, vi 2, vi 0, vi v0] [(.int (v0.toInt8.toInt32)), (.int 0), (.ref a3)])) rfl rfl (D d16_31)
 refine G st4 ?_
 have N4 := Fr.snoc X4 N0 g_a3
 replace V_c := V_c.other W4 ne_a1_a3
 replace Z0 := Nat.le_trans Z0 (Nat.le_of_eq W4.size.symm)
 replace K0 := K0.wr W4 (Or.inl (by simp))
 replace V_b : Arv Z h4 a3 k_b .byte (2 : Int32) [(.int ((v0.toInt8.toInt32).toInt8.toInt32)), (.int (0 : Int32))] (.int (0 : Int32)) := Arv.set Ar3 qq3 Sz3 Ng3 Hs3 Gs3 (fits_nar_byte _) W4 0 rfl (Nat.le_of_ble_eq_true rfl)
 clear hin3 Gs3 Hs3 Ng3 Sz3 qq3 Ar3 cl3
 refine G (fun t k => XS.iinc X4.here hx rfl (D d16_32) rfl (l' := #[vr a1, vi ((0 : Int32) + (1 : Int32)), vr a3, vi 0, vi 2, vi 0, vi v0]) rfl (XS.iinc X4.here hx rfl (D d16_35) rfl (l' := #[vr a1, vi 1, vr a3, vi ((0 : Int32) + (1 : Int32)), vi 2, vi 0, vi v0]) rfl (XS.iinc X4.here hx rfl (D d16_38) rfl (l' := #[vr a1, vi 1, vr a3, vi 1, vi 2, vi ((0 : Int32) + (1 : Int32)), vi v0]) rfl (XS.goto X4.here hx rfl (pc0 := 41) (pc' := 3) rfl (D d16_41) (by decide) (by decide) k)))) ?_
 refine sG T4 (mkF m 3 #[vr a1, vi 1, vr a3, vi 1, vi 2, vi 1, vi v0] []) ?_
 refine G (fun t k => XS.iload X4.here hx rfl (D d16_3) rfl (XS.iload X4.here hx rfl (D d16_5) rfl (XS.icmpNo X4.here hx rfl (D d16_7) rfl (tlt (by decide : (1 : Int32) < (2 : Int32))).2.1 (XS.aloadN X4.here hx rfl (D d16_10) rfl rfl (XS.iloadN X4.here hx rfl (D d16_11) rfl k))))) ?_
 obtain ⟨cl5, Ar5, -, Sz5, Ng5, Hs5, -⟩ := id V_c
 have hin5 := inb_of (j := (1 : Int32)) (c := cl5) Sz5 ⟨by decide, by decide⟩
 refine G (fun t k => X4.caload hx (j := (1 : Int32)) (v := (.int v1)) (by rw [e4]; exact Ar5.1) (State.isArrayOf_alike hZ.alike Ar5.2.1) Ar5.2.2 hin5 (Has.at Hs5 hin5 rfl) (g := (mkF m 12 #[vr a1, vi 1, vr a3, vi 1, vi 2, vi 1, vi v0] [(.int 1), (.ref a1)])) rfl rfl (D d16_12) _ k) ?_
 clear hin5 Hs5 Ng5 Sz5 Ar5 cl5
 refine G (fun t k => XS.istore X4.here hx rfl (D d16_13) rfl (l' := #[vr a1, vi 1, vr a3, vi 1, vi 2, vi 1, vi v1]) rfl k) ?_
 refine sG T4 (mkF m 15 #[vr a1, vi 1, vr a3, vi 1, vi 2, vi 1, vi v1] []) ?_
 refine G (fun t k => XS.iload X4.here hx rfl (D d16_15) rfl (XS.sipush X4.here hx rfl (D d16_17) k)) ?_
 have hf6 : ¬ ((255 : Int32) < v1) := hv1
 refine G (fun t k => XS.icmpYes X4.here hx rfl (pc0 := 20) (pc' := 26) rfl (D d16_20) rfl (flt hf6).2.2.2 (by decide) (by decide) (XS.aloadN X4.here hx rfl (D d16_26) rfl rfl (XS.iloadN X4.here hx rfl (D d16_27) rfl (XS.iload X4.here hx rfl (D d16_28) rfl (XS.i2b X4.here hx rfl (D d16_30) rfl k))))) ?_
 refine sG T4 (mkF m 31 #[vr a1, vi 1, vr a3, vi 1, vi 2, vi 1, vi v1] [(.int (v1.toInt8.toInt32)), (.int 1), (.ref a3)]) ?_
 obtain ⟨cl7, Ar7, qq7, Sz7, Ng7, Hs7, Gs7⟩ := id V_b
 have hin7 := inb_of (j := (1 : Int32)) (c := cl7) Sz7 ⟨by decide, by decide⟩
 obtain ⟨T8, h8, X8, e8, W8, st8⟩ := stB X4 hx hZ e4 Ar7 (j := (1 : Int32)) hin7 (g := (mkF m 31 #[vr a1, vi 1, vr a3, vi 1, vi 2, vi 1, vi v1] [(.int (v1.toInt8.toInt32)), (.int 1), (.ref a3)])) rfl rfl (D d16_31)
 refine G st8 ?_
 have N8 := Fr.snoc X8 N4 g_a3
 replace V_c := V_c.other W8 ne_a1_a3
 replace Z0 := Nat.le_trans Z0 (Nat.le_of_eq W8.size.symm)
 replace K0 := K0.wr W8 (Or.inl (by simp))
 replace V_b : Arv Z h8 a3 k_b .byte (2 : Int32) [(.int ((v0.toInt8.toInt32).toInt8.toInt32)), (.int ((v1.toInt8.toInt32).toInt8.toInt32))] (.int (0 : Int32)) := Arv.set Ar7 qq7 Sz7 Ng7 Hs7 Gs7 (fits_nar_byte _) W8 1 rfl (Nat.le_of_ble_eq_true rfl)
 clear hin7 Gs7 Hs7 Ng7 Sz7 qq7 Ar7 cl7
 refine G (fun t k => XS.iinc X8.here hx rfl (D d16_32) rfl (l' := #[vr a1, vi ((1 : Int32) + (1 : Int32)), vr a3, vi 1, vi 2, vi 1, vi v1]) rfl (XS.iinc X8.here hx rfl (D d16_35) rfl (l' := #[vr a1, vi 2, vr a3, vi ((1 : Int32) + (1 : Int32)), vi 2, vi 1, vi v1]) rfl (XS.iinc X8.here hx rfl (D d16_38) rfl (l' := #[vr a1, vi 2, vr a3, vi 2, vi 2, vi ((1 : Int32) + (1 : Int32)), vi v1]) rfl (XS.goto X8.here hx rfl (pc0 := 41) (pc' := 3) rfl (D d16_41) (by decide) (by decide) (XS.iload X8.here hx rfl (D d16_3) rfl (XS.iload X8.here hx rfl (D d16_5) rfl k)))))) ?_
 refine sG T8 (mkF m 7 #[vr a1, vi 2, vr a3, vi 2, vi 2, vi 2, vi v1] [(.int 2), (.int 2)]) ?_
 refine G (fun t k => XS.icmpYes X8.here hx rfl (pc0 := 7) (pc' := 44) rfl (D d16_7) rfl (flt (by decide : ¬ ((2 : Int32) < (2 : Int32)))).2.1 (by decide) (by decide) (XS.iload X8.here hx rfl (D d16_44) rfl k)) ?_
 exact lfI (Q := Qc5_2 Z a1 a3 k_c v0 v1 k_b h0 n0) Bd X8 e8 (D d16_46) (w := (2 : Int32)) ⟨rfl, N8, K0, V_b⟩ (by decide) (by decide)
def Qc3_2 (Z : State) (a1 : Addr) (k_c : ClassId) (v0 : Int32) (v1 : Int32) (h0 : Heap) (n0 : Nat) (v : Option Value) (h : Heap) (L : List Loc) : Prop := ∃ xc3_2_0 : Addr, ∃ k_xc3_2_0 : ClassId, v = some (.ref xc3_2_0) ∧ Fr n0 L ∧ Keep h0 h [] ∧ n0 ≤ xc3_2_0 ∧ h0.size ≤ xc3_2_0 ∧ Arv Z h xc3_2_0 k_xc3_2_0 .byte (2 : Int32) [(.int ((v0.toInt8.toInt32).toInt8.toInt32)), (.int ((v1.toInt8.toInt32).toInt8.toInt32))] (.int (0 : Int32))
theorem efc3_2 (m : MethodId) (x0 : Addr) : entryFrame m #[(.ref x0), (.int (0 : Int32)), (.int (2 : Int32))] 6 = mkF m 0 #[.val (.ref x0), .val (.int (0 : Int32)), .val (.int (2 : Int32)), .unset, .unset, .unset] [] := by first | (simp [entryFrame, mkF, argsToLocals, Value.category]; done) | rfl
theorem rmc3_2 (l : Launch) (Z : State) (a0 : Array Value) (hw : HW a0 Z) (ws : List Jvm.Cond) (a1 : Addr) (k_c : ClassId) (v0 : Int32) (v1 : Int32) (h0 : Heap) (n0 : Nat) (Z0 : n0 ≤ h0.size) (V_c : Arv Z h0 a1 k_c .char (2 : Int32) [(.int v0), (.int v1)] (.int (0 : Int32))) (hv0 : ¬ (255 : Int32) < v0) (hv1 : ¬ (255 : Int32) < v1) :
  MetFree l y_1 (head1 (Cond.code y_1 cB15 6 (some (.array .byte)) :: ws) (Rm 1 1 2 18)) (Pr Z h0 #[(.ref a1), (.int (0 : Int32)), (.int (2 : Int32))]) Tr (fun _ U o U' => ∃ v L, o = .returned v ∧ Qc3_2 Z a1 k_c v0 v1 h0 n0 v U'.heap L ∧ FrameEnd U o U' L (Rm 1 1 2 18).cells (Rm 1 1 2 18).slots) := by
 refine MetFree.of_bodySF (plainFor_of_name pn0) hisR ?_
 intro p e s m args below meth c s₁ Bd hml0 hP hK
 obtain ⟨rfl, hZ, hh⟩ := hP
 have hx := Bd.exec
 have D := @hb _ _ Bd.bytes
 have hml : c.maxLocals = 6 := hml0
 have hown : s.vm.findClass U16 = some m.cls := findClass_of_methodNamed Bd.named
 have hnm := (name_of_methodNamed Bd.named Bd.method).1
 have X0 : Stand p l e (Rm 1 1 2 18) s m #[(.ref a1), (.int (0 : Int32)), (.int (2 : Int32))] below meth c s₁ [] 0 0 := Stand.of_body Bd
 have e0 : s₁.heap = h0 := by rw [← hh, Bd.state]; rfl
 have N0 := Fr.nil n0
 have K0 : Keep h0 h0 [] := Keep.refl h0 _
 refine G (P := fun o U' => ∃ v L, o = .returned v ∧ Qc3_2 Z a1 k_c v0 v1 h0 n0 v U'.heap L ∧ FrameEnd s o U' L (Rm 1 1 2 18).cells (Rm 1 1 2 18).slots) (fun t k => castTop (efc3_2 m a1) k) ?_
 refine sG s₁ (mkF m 0 #[vr a1, vi 0, vi 2, us, us, us] []) ?_
 refine G (fun t k => XS.iloadN X0.here hx rfl (D d15_0) rfl k) ?_
 obtain ⟨T1, h1, k1, X1, e1, E1, A1, st1⟩ := newP X0 hx hZ (aty := .byte) (wd22 hw) e0 (g := (mkF m 1 #[vr a1, vi 0, vi 2, us, us, us] [(.int 2)])) rfl (D d15_1) rfl (by decide) (cap := 2) (by decide) (by decide) (by decide) (by decide)
 obtain ⟨b1, g1⟩ : ∃ z, z = h0.size := ⟨_, rfl⟩
 rw [← g1] at A1 st1
 refine G st1 ?_
 have ne_a1_b1 : a1 ≠ b1 := Nat.ne_of_lt (Nat.lt_of_lt_of_le V_c.lt (Nat.le_of_eq g1.symm))
 have g_b1 : n0 ≤ b1 := Nat.le_trans Z0 (Nat.le_of_eq g1.symm)
 have sz_b1 : h0.size ≤ b1 := Nat.le_trans K0.1 (Nat.le_of_eq g1.symm)
 replace V_c := V_c.ext E1
 replace K0 := K0.ext E1
 replace Z0 := Nat.le_trans Z0 E1.1
 have V_b1 : Arv Z h1 b1 k1 .byte (2 : Int32) [(.int (0 : Int32)), (.int (0 : Int32))] (.int (0 : Int32)) := (Arv.new A1 (by decide)).pad (pad_rep [] (.int (0 : Int32)) 2)
 refine G (fun t k => XS.astoreN X1.here hx rfl (D d15_3) rfl rfl (l' := #[vr a1, vi 0, vi 2, vr b1, us, us]) rfl (XS.aloadN X1.here hx rfl (D d15_4) rfl rfl (XS.iloadN X1.here hx rfl (D d15_5) rfl (XS.aloadN X1.here hx rfl (D d15_6) rfl rfl (XS.iconst X1.here hx rfl (D d15_7) k))))) ?_
 refine sG T1 (mkF m 8 #[vr a1, vi 0, vi 2, vr b1, us, us] [(.int 0), (.ref b1), (.int 0), (.ref a1)]) ?_
 refine G (fun t k => XS.iloadN X1.here hx rfl (D d15_8) rfl k) ?_
 obtain ⟨_, T2, Lc2, X2, hQ2, st2⟩ := cS X1 hx hZ hown hml (wd79 hw) (wd80 hw) (wd77 hw) (wd81 hw) e1 0 [] (rmc5_2 l Z a0 hw [] a1 b1 k_c v0 v1 k1 h1 n0 Z0 V_c V_b1 hv0 hv1 ne_a1_b1 g_b1) pd0 (mkF m 9 #[vr a1, vi 0, vi 2, vr b1, us, us] [(.int 2), (.int 0), (.ref b1), (.int 0), (.ref a1)]) (D d15_9)
 refine G st2 ?_
 have V_b1_pre := V_b1
 obtain ⟨h2, e2⟩ : ∃ z, T2.heap = z := ⟨_, rfl⟩
 rw [e2] at hQ2
 obtain ⟨rfl, N2q, K2, Q2_0⟩ := hQ2
 replace V_c := V_c.keep K2 (ninS ne_a1_b1 nin0)
 replace Z0 := Nat.le_trans Z0 K2.1
 replace K0 := K0.trans K2 (allS (Or.inr sz_b1) all0)
 clear V_b1_pre
 have V_b1 := Q2_0
 have N2 := Fr.app N0 N2q
 refine G (fun t k => XS.istore X2.here hx rfl (D d15_12) rfl (l' := #[vr a1, vi 0, vi 2, vr b1, vi 2, us]) rfl (XS.iload X2.here hx rfl (D d15_14) rfl (XS.iloadN X2.here hx rfl (D d15_16) rfl (XS.icmpYes X2.here hx rfl (pc0 := 17) (pc' := 57) rfl (D d15_17) rfl (teq (by decide : (2 : Int32) = (2 : Int32))).1 (by decide) (by decide) (XS.aloadN X2.here hx rfl (D d15_57) rfl rfl k))))) ?_
 refine sG T2 (mkF m 58 #[vr a1, vi 0, vi 2, vr b1, vi 2, us] [(.ref b1)]) ?_
 exact lfR (Q := Qc3_2 Z a1 k_c v0 v1 h0 n0) Bd X2 e2 (D d15_58) rfl rfl rfl ⟨b1, k1, rfl, N2, K0, g_b1, sz_b1, V_b1⟩ (by decide) (by decide)
def Qcl_2 (Z : State) (a1 : Addr) (k_b : ClassId) (v0 : Int32) (v1 : Int32) (h0 : Heap) (n0 : Nat) (v : Option Value) (h : Heap) (L : List Loc) : Prop := v = some (.int (0 : Int32)) ∧ Fr n0 L ∧ h = h0
theorem efcl_2 (m : MethodId) (x0 : Addr) : entryFrame m #[(.ref x0), (.int (2 : Int32))] 2 = mkF m 0 #[.val (.ref x0), .val (.int (2 : Int32))] [] := by first | (simp [entryFrame, mkF, argsToLocals, Value.category]; done) | rfl
theorem rmcl_2 (l : Launch) (Z : State) (a0 : Array Value) (hw : HW a0 Z) (ws : List Jvm.Cond) (a1 : Addr) (k_b : ClassId) (v0 : Int32) (v1 : Int32) (h0 : Heap) (n0 : Nat) (Z0 : n0 ≤ h0.size) (V_b : Arv Z h0 a1 k_b .byte (2 : Int32) [(.int v0), (.int v1)] (.int (0 : Int32))) :
  MetFree l y_2 (head1 (Cond.code y_2 cB17 2 (some .byte) :: ws) (Rm 0 0 0 0)) (Pr Z h0 #[(.ref a1), (.int (2 : Int32))]) Tr (fun _ U o U' => ∃ v L, o = .returned v ∧ Qcl_2 Z a1 k_b v0 v1 h0 n0 v U'.heap L ∧ FrameEnd U o U' L (Rm 0 0 0 0).cells (Rm 0 0 0 0).slots) := by
 refine MetFree.of_bodySF (plainFor_of_name pn0) hisR ?_
 intro p e s m args below meth c s₁ Bd hml0 hP hK
 obtain ⟨rfl, hZ, hh⟩ := hP
 have hx := Bd.exec
 have D := @hb _ _ Bd.bytes
 have hml : c.maxLocals = 2 := hml0
 have hown : s.vm.findClass U16 = some m.cls := findClass_of_methodNamed Bd.named
 have hnm := (name_of_methodNamed Bd.named Bd.method).1
 have X0 : Stand p l e (Rm 0 0 0 0) s m #[(.ref a1), (.int (2 : Int32))] below meth c s₁ [] 0 0 := Stand.of_body Bd
 have e0 : s₁.heap = h0 := by rw [← hh, Bd.state]; rfl
 have N0 := Fr.nil n0
 have K0 : Keep h0 h0 [] := Keep.refl h0 _
 refine G (P := fun o U' => ∃ v L, o = .returned v ∧ Qcl_2 Z a1 k_b v0 v1 h0 n0 v U'.heap L ∧ FrameEnd s o U' L (Rm 0 0 0 0).cells (Rm 0 0 0 0).slots) (fun t k => castTop (efcl_2 m a1) k) ?_
 refine sG s₁ (mkF m 0 #[vr a1, vi 2] []) ?_
 refine G (fun t k => XS.iloadN X0.here hx rfl (D d17_0) rfl (XS.aloadN X0.here hx rfl (D d17_1) rfl rfl k)) ?_
 obtain ⟨cl1, Ar1, -, Sz1, Ng1, -, -⟩ := id V_b
 refine G (fun t k => X0.arraylength hx (by rw [e0]; exact Ar1.1) (State.isArrayOf_alike hZ.alike Ar1.2.1) (g := (mkF m 2 #[vr a1, vi 2] [(.ref a1), (.int 2)])) rfl rfl (D d17_2) _ k) ?_
 rw [len_of Sz1 Ng1]
 clear Ng1 Sz1 Ar1 cl1
 refine G (fun t k => XS.isub X0.here hx rfl (D d17_3) rfl (XS.bipush X0.here hx rfl (D d17_4) (XS.iushr X0.here hx rfl (D d17_6) rfl k))) ?_
 refine sG s₁ (mkF m 7 #[vr a1, vi 2] [(.int (((0 : Int32).toUInt32 >>> ((31 : Int32) &&& 31).toUInt32).toInt32))]) ?_
 refine Go.fr (g' := (mkF m 7 #[vr a1, vi 2] [(.int 0)])) (by rw [show (((0 : Int32).toUInt32 >>> ((31 : Int32) &&& 31).toUInt32).toInt32) = (0 : Int32) from by decide]) ?_
 refine G (fun t k => XS.i2b X0.here hx rfl (D d17_7) rfl k) ?_
 exact lfN (Q := Qcl_2 Z a1 k_b v0 v1 h0 n0) Bd X0 e0 (D d17_8) (by simp) (w := (0 : Int32)) rfl ⟨rfl, N0, rfl⟩ (by decide) (by decide)
def Qi4_2 (Z : State) (a1 : Addr) (a2 : Addr) (k_c : ClassId) (v0 : Int32) (v1 : Int32) (wC : Int32) (h0 : Heap) (n0 : Nat) (v : Option Value) (h : Heap) (L : List Loc) : Prop := ∃ xi4_2_0 : Addr, ∃ k_xi4_2_0 : ClassId, v = none ∧ Fr n0 L ∧ Keep h0 h [a1] ∧ n0 ≤ xi4_2_0 ∧ h0.size ≤ xi4_2_0 ∧ Exa Z h a1 SN ∧ Fld Z h a1 SN "value" "[B" (.ref xi4_2_0) ∧ Fld Z h a1 SN "coder" "B" (.int (0 : Int32)) ∧ Arv Z h xi4_2_0 k_xi4_2_0 .byte (2 : Int32) [(.int ((v0.toInt8.toInt32).toInt8.toInt32)), (.int ((v1.toInt8.toInt32).toInt8.toInt32))] (.int (0 : Int32))
theorem efi4_2 (m : MethodId) (x0 : Addr) (x1 : Addr) : entryFrame m #[(.ref x0), (.ref x1), (.int (0 : Int32)), (.int (2 : Int32)), .null] 6 = mkF m 0 #[.val (.ref x0), .val (.ref x1), .val (.int (0 : Int32)), .val (.int (2 : Int32)), .val .null, .unset] [] := by first | (simp [entryFrame, mkF, argsToLocals, Value.category]; done) | rfl
theorem rmi4_2 (l : Launch) (Z : State) (a0 : Array Value) (hw : HW a0 Z) (ws : List Jvm.Cond) (a1 : Addr) (a2 : Addr) (k_c : ClassId) (v0 : Int32) (v1 : Int32) (wC : Int32) (h0 : Heap) (n0 : Nat) (Z0 : n0 ≤ h0.size) (E_a1 : Exa Z h0 a1 SN) (F_a1_v : Fld Z h0 a1 SN "value" "[B" .null) (F_a1_c : Fld Z h0 a1 SN "coder" "B" (.int (0 : Int32))) (V_c : Arv Z h0 a2 k_c .char (2 : Int32) [(.int v0), (.int v1)] (.int (0 : Int32))) (SC : Sta Z h0 SN "COMPACT_STRINGS" "Z" (.int wC)) (hv0 : ¬ (255 : Int32) < v0) (hv1 : ¬ (255 : Int32) < v1) (hcs : ¬ wC = (0 : Int32)) (ne_a1_a2 : a1 ≠ a2) (g_a1 : n0 ≤ a1) :
  MetFree l y_3 (head1 (Cond.code y_3 cB4 6 none :: ws) (Rm 2 1 2 35)) (Pr Z h0 #[(.ref a1), (.ref a2), (.int (0 : Int32)), (.int (2 : Int32)), .null]) Tr (fun _ U o U' => ∃ v L, o = .returned v ∧ Qi4_2 Z a1 a2 k_c v0 v1 wC h0 n0 v U'.heap L ∧ FrameEnd U o U' L (Rm 2 1 2 35).cells (Rm 2 1 2 35).slots) := by
 refine MetFree.of_bodySF (plainFor_of_name pn1) hisR ?_
 intro p e s m args below meth c s₁ Bd hml0 hP hK
 obtain ⟨rfl, hZ, hh⟩ := hP
 have hx := Bd.exec
 have D := @hb _ _ Bd.bytes
 have hml : c.maxLocals = 6 := hml0
 have hown : s.vm.findClass SN = some m.cls := findClass_of_methodNamed Bd.named
 have hnm := (name_of_methodNamed Bd.named Bd.method).1
 have X0 : Stand p l e (Rm 2 1 2 35) s m #[(.ref a1), (.ref a2), (.int (0 : Int32)), (.int (2 : Int32)), .null] below meth c s₁ [] 0 0 := Stand.of_body Bd
 have e0 : s₁.heap = h0 := by rw [← hh, Bd.state]; rfl
 have N0 := Fr.nil n0
 have K0 : Keep h0 h0 [a1] := Keep.refl h0 _
 refine G (P := fun o U' => ∃ v L, o = .returned v ∧ Qi4_2 Z a1 a2 k_c v0 v1 wC h0 n0 v U'.heap L ∧ FrameEnd s o U' L (Rm 2 1 2 35).cells (Rm 2 1 2 35).slots) (fun t k => castTop (efi4_2 m a1 a2) k) ?_
 refine sG s₁ (mkF m 0 #[vr a1, vr a2, vi 0, vi 2, .val .null, us] []) ?_
 refine G (fun t k => XS.aloadN X0.here hx rfl (D d4_0) rfl rfl k) ?_
 obtain ⟨T1, X1, e1, st1⟩ := initO X0 hx hZ hown (wd18 hw) (wd19 hw) (wd20 hw) e0 (g := (mkF m 1 #[vr a1, vr a2, vi 0, vi 2, .val .null, us] [(.ref a1)])) rfl (by rw [hml]; rfl) rfl (D d4_1) (by decide) (W := 0) (by show 2 * 0 + _ ≤ _; exact Nat.le_of_eq rfl) (by decide)
 refine G st1 ?_
 refine G (fun t k => XS.iloadN X1.here hx rfl (D d4_4) rfl (XS.ifYes X1.here hx rfl (pc0 := 5) (pc' := 27) rfl (D d4_5) rfl ((if0 _ _).trans (feq (by decide : ¬ ((2 : Int32) = (0 : Int32)))).2) (by decide) (by decide) k)) ?_
 obtain ⟨T2, X2, e2, st2⟩ := getS2 X1 hx hZ hown (host := "") (Or.inl (wd54 hw)) Via.refl e1 SC (g := (mkF m 27 #[vr a1, vr a2, vi 0, vi 2, .val .null, us] [])) rfl (D d4_27)
 refine G st2 ?_
 have hf3 : ¬ (wC = (0 : Int32)) := hcs
 refine G (fun t k => XS.ifNo X2.here hx rfl (D d4_30) rfl ((if0 _ _).trans (feq hf3).1) (XS.aloadN X2.here hx rfl (D d4_33) rfl rfl k)) ?_
 refine sG T2 (mkF m 34 #[vr a1, vr a2, vi 0, vi 2, .val .null, us] [(.ref a2)]) ?_
 refine G (fun t k => XS.iloadN X2.here hx rfl (D d4_34) rfl (XS.iloadN X2.here hx rfl (D d4_35) rfl k)) ?_
 obtain ⟨_, T4, Lc4, X4, hQ4, st4⟩ := cS X2 hx hZ hown hml (wd75 hw) (wd76 hw) (wd77 hw) (wd78 hw) e2 0 [] (rmc3_2 l Z a0 hw [] a2 k_c v0 v1 h0 n0 Z0 V_c hv0 hv1) pd1 (mkF m 36 #[vr a1, vr a2, vi 0, vi 2, .val .null, us] [(.int 2), (.int 0), (.ref a2)]) (D d4_36)
 obtain ⟨h4, e4⟩ : ∃ z, T4.heap = z := ⟨_, rfl⟩
 rw [e4] at hQ4
 obtain ⟨y4, k_y4, rfl, N4q, K4, ng_y4, sz0_y4, Q4_0⟩ := hQ4
 refine G st4 ?_
 have ne_a1_y4 : a1 ≠ y4 := Nat.ne_of_lt (Nat.lt_of_lt_of_le E_a1.lt sz0_y4)
 have ne_a2_y4 : a2 ≠ y4 := Nat.ne_of_lt (Nat.lt_of_lt_of_le V_c.lt sz0_y4)
 have g_y4 : n0 ≤ y4 := ng_y4
 have sz_y4 : h0.size ≤ y4 := Nat.le_trans K0.1 sz0_y4
 replace E_a1 := E_a1.keep K4
 replace F_a1_v := F_a1_v.keep K4 nin0
 replace F_a1_c := F_a1_c.keep K4 nin0
 replace V_c := V_c.keep K4 nin0
 replace SC := sta_keep SC K4 all0
 replace Z0 := Nat.le_trans Z0 K4.1
 replace K0 := K0.trans K4 all0
 have V_y4 := Q4_0
 have N4 := Fr.app N0 N4q
 refine G (fun t k => XS.astore X4.here hx rfl (D d4_39) rfl rfl (l' := #[vr a1, vr a2, vi 0, vi 2, .val .null, vr y4]) rfl (XS.aloadN X4.here hx rfl (D d4_41) rfl rfl (XS.aload X4.here hx rfl (D d4_42) rfl rfl (XS.iloadN X4.here hx rfl (D d4_44) rfl k)))) ?_
 refine sG T4 (mkF m 45 #[vr a1, vr a2, vi 0, vi 2, .val .null, vr y4] [(.int 2), (.ref y4), (.ref a1)]) ?_
 obtain ⟨_, T5, Lc5, X5, hQ5, st5⟩ := cS X4 hx hZ hown hml (wd82 hw) (wd83 hw) (wd77 hw) (wd84 hw) e4 1 [(.ref a1)] (rmcl_2 l Z a0 hw [] y4 k_y4 ((v0.toInt8.toInt32).toInt8.toInt32) ((v1.toInt8.toInt32).toInt8.toInt32) h4 n0 Z0 V_y4) pd2 (mkF m 45 #[vr a1, vr a2, vi 0, vi 2, .val .null, vr y4] [(.int 2), (.ref y4), (.ref a1)]) (D d4_45)
 refine G st5 ?_
 obtain ⟨rfl, N5q, e5⟩ := hQ5
 have N5 := Fr.app N4 N5q
 obtain ⟨T6, h6, X6, e6, W6, st6⟩ := putFN X5 hx hZ hown (wd28 hw) Via.refl e5 F_a1_c E_a1 (Or.inr ⟨(wd24 hw), rfl, hnm⟩) (wd9 hw) (ty := .byte) (v' := (.int ((0 : Int32).toInt8.toInt32))) (by decide) rfl (fits_nar_byte _) (g := (mkF m 48 #[vr a1, vr a2, vi 0, vi 2, .val .null, vr y4] [(.int 0), (.ref a1)])) rfl rfl (D d4_48)
 refine G st6 ?_
 have N6 := Fr.snoc X6 N5 g_a1
 replace E_a1 := E_a1.wr W6
 replace F_a1_v := F_a1_v.other W6 (sn0 hw)
 replace F_a1_c := F_a1_c.same W6
 replace V_c := V_c.other W6 (Ne.symm ne_a1_a2)
 replace SC := SC.wr W6
 replace V_y4 := V_y4.other W6 (Ne.symm ne_a1_y4)
 replace Z0 := Nat.le_trans Z0 (Nat.le_of_eq W6.size.symm)
 replace K0 := K0.wr W6 (Or.inl (by simp))
 replace F_a1_c : Fld Z h6 a1 SN "coder" "B" (.int (0 : Int32)) := F_a1_c
 refine G (fun t k => XS.aloadN X6.here hx rfl (D d4_51) rfl rfl (XS.aload X6.here hx rfl (D d4_52) rfl rfl k)) ?_
 obtain ⟨T7, h7, X7, e7, W7, st7⟩ := putF X6 hx hZ hown (host := "") (Or.inl (wd27 hw)) Via.refl e6 F_a1_v E_a1 (Or.inr ⟨(wd23 hw), rfl, hnm⟩) (wd9 hw) (ty := (.array .byte)) (by decide) rfl rfl (g := (mkF m 54 #[vr a1, vr a2, vi 0, vi 2, .val .null, vr y4] [(.ref y4), (.ref a1)])) rfl rfl (D d4_54)
 refine G st7 ?_
 have N7 := Fr.snoc X7 N6 g_a1
 obtain ⟨LL7, X7, N7⟩ : ∃ LL, Stand p l e (Rm 2 1 2 35) s m #[(.ref a1), (.ref a2), (.int (0 : Int32)), (.int (2 : Int32)), .null] below meth c T7 LL 1 2 ∧ Fr n0 LL := ⟨_, X7, N7⟩
 replace E_a1 := E_a1.wr W7
 replace F_a1_v := F_a1_v.same W7
 replace F_a1_c := F_a1_c.other W7 (sn1 hw)
 replace V_c := V_c.other W7 (Ne.symm ne_a1_a2)
 replace SC := SC.wr W7
 replace V_y4 := V_y4.other W7 (Ne.symm ne_a1_y4)
 replace Z0 := Nat.le_trans Z0 (Nat.le_of_eq W7.size.symm)
 replace K0 := K0.wr W7 (Or.inl (by simp))
 exact lfV (Q := Qi4_2 Z a1 a2 k_c v0 v1 wC h0 n0) Bd X7 e7 (D d4_57) ⟨y4, k_y4, rfl, N7, K0, g_y4, sz_y4, E_a1, F_a1_v, F_a1_c, V_y4⟩ (by decide) (by decide)
def Qi1_2 (Z : State) (a1 : Addr) (a2 : Addr) (k_c : ClassId) (v0 : Int32) (v1 : Int32) (wC : Int32) (h0 : Heap) (n0 : Nat) (v : Option Value) (h : Heap) (L : List Loc) : Prop := ∃ xi1_2_0 : Addr, ∃ k_xi1_2_0 : ClassId, v = none ∧ Fr n0 L ∧ Keep h0 h [a1] ∧ n0 ≤ xi1_2_0 ∧ h0.size ≤ xi1_2_0 ∧ Exa Z h a1 SN ∧ Fld Z h a1 SN "value" "[B" (.ref xi1_2_0) ∧ Fld Z h a1 SN "coder" "B" (.int (0 : Int32)) ∧ Arv Z h xi1_2_0 k_xi1_2_0 .byte (2 : Int32) [(.int ((v0.toInt8.toInt32).toInt8.toInt32)), (.int ((v1.toInt8.toInt32).toInt8.toInt32))] (.int (0 : Int32))
theorem efi1_2 (m : MethodId) (x0 : Addr) (x1 : Addr) : entryFrame m #[(.ref x0), (.ref x1)] 2 = mkF m 0 #[.val (.ref x0), .val (.ref x1)] [] := by first | (simp [entryFrame, mkF, argsToLocals, Value.category]; done) | rfl
theorem rmi1_2 (l : Launch) (Z : State) (a0 : Array Value) (hw : HW a0 Z) (ws : List Jvm.Cond) (a1 : Addr) (a2 : Addr) (k_c : ClassId) (v0 : Int32) (v1 : Int32) (wC : Int32) (h0 : Heap) (n0 : Nat) (Z0 : n0 ≤ h0.size) (E_a1 : Exa Z h0 a1 SN) (F_a1_v : Fld Z h0 a1 SN "value" "[B" .null) (F_a1_c : Fld Z h0 a1 SN "coder" "B" (.int (0 : Int32))) (V_c : Arv Z h0 a2 k_c .char (2 : Int32) [(.int v0), (.int v1)] (.int (0 : Int32))) (SC : Sta Z h0 SN "COMPACT_STRINGS" "Z" (.int wC)) (hv0 : ¬ (255 : Int32) < v0) (hv1 : ¬ (255 : Int32) < v1) (hcs : ¬ wC = (0 : Int32)) (ne_a1_a2 : a1 ≠ a2) (g_a1 : n0 ≤ a1) :
  MetFree l y_4 (head1 (Cond.code y_4 cB3 2 none :: ws) (Rm 3 1 2 52)) (Pr Z h0 #[(.ref a1), (.ref a2)]) Tr (fun _ U o U' => ∃ v L, o = .returned v ∧ Qi1_2 Z a1 a2 k_c v0 v1 wC h0 n0 v U'.heap L ∧ FrameEnd U o U' L (Rm 3 1 2 52).cells (Rm 3 1 2 52).slots) := by
 refine MetFree.of_bodySF (plainFor_of_name pn1) hisR ?_
 intro p e s m args below meth c s₁ Bd hml0 hP hK
 obtain ⟨rfl, hZ, hh⟩ := hP
 have hx := Bd.exec
 have D := @hb _ _ Bd.bytes
 have hml : c.maxLocals = 2 := hml0
 have hown : s.vm.findClass SN = some m.cls := findClass_of_methodNamed Bd.named
 have hnm := (name_of_methodNamed Bd.named Bd.method).1
 have X0 : Stand p l e (Rm 3 1 2 52) s m #[(.ref a1), (.ref a2)] below meth c s₁ [] 0 0 := Stand.of_body Bd
 have e0 : s₁.heap = h0 := by rw [← hh, Bd.state]; rfl
 have N0 := Fr.nil n0
 have K0 : Keep h0 h0 [a1] := Keep.refl h0 _
 refine G (P := fun o U' => ∃ v L, o = .returned v ∧ Qi1_2 Z a1 a2 k_c v0 v1 wC h0 n0 v U'.heap L ∧ FrameEnd s o U' L (Rm 3 1 2 52).cells (Rm 3 1 2 52).slots) (fun t k => castTop (efi1_2 m a1 a2) k) ?_
 refine sG s₁ (mkF m 0 #[vr a1, vr a2] []) ?_
 refine G (fun t k => XS.aloadN X0.here hx rfl (D d3_0) rfl rfl (XS.aloadN X0.here hx rfl (D d3_1) rfl rfl (XS.iconst X0.here hx rfl (D d3_2) (XS.aloadN X0.here hx rfl (D d3_3) rfl rfl k)))) ?_
 obtain ⟨cl1, Ar1, -, Sz1, Ng1, -, -⟩ := id V_c
 refine G (fun t k => X0.arraylength hx (by rw [e0]; exact Ar1.1) (State.isArrayOf_alike hZ.alike Ar1.2.1) (g := (mkF m 4 #[vr a1, vr a2] [(.ref a2), (.int 0), (.ref a2), (.ref a1)])) rfl rfl (D d3_4) _ k) ?_
 rw [len_of Sz1 Ng1]
 clear Ng1 Sz1 Ar1 cl1
 refine G (fun t k => XS.aconstNull X0.here hx rfl (D d3_5) k) ?_
 obtain ⟨_, _, ⟨T2, L2, k2, n2⟩, -, X2, ⟨Lc2, hQ2, l2, y2, z2⟩, st2⟩ := X0.specialBack hx (y := y_3) rfl hown (mvT hZ (wd14 hw)) (mvT hZ (wd15 hw)) (mvT hZ (wd17 hw)) (by decide) (backOf (W := 0) (rmi4_2 l Z a0 hw [] a1 a2 k_c v0 v1 wC h0 n0 Z0 E_a1 F_a1_v F_a1_c V_c SC hv0 hv1 hcs ne_a1_a2 g_a1) hZ (wd17 hw) (wd10 hw) (by decide) (by decide)) (g := (mkF m 6 #[vr a1, vr a2] [.null, (.int 2), (.int 0), (.ref a2), (.ref a1)])) rfl (by rw [hml]; rfl) (Steps.refl _) (a := a1) (argsL := [(.ref a2), (.int (0 : Int32)), (.int (2 : Int32)), .null]) (rest := []) (lenOf pd3 rfl) rfl (by show 2 * 0 + _ ≤ _; exact Nat.le_of_eq rfl) (D d3_6) (fun _ _ => ⟨rfl, e0, (by decide : 0 + 1 ≤ _), (by decide : 0 + 2 ≤ _)⟩)
 dsimp only [Pt.U, Pt.locs, Pt.cells, Pt.slots] at X2 l2 y2 z2 st2 hQ2
 subst l2 y2 z2
 have E_a1_pre := E_a1
 have F_a1_value_pre := F_a1_v
 have F_a1_coder_pre := F_a1_c
 obtain ⟨h2, e2⟩ : ∃ z, T2.heap = z := ⟨_, rfl⟩
 rw [e2] at hQ2
 obtain ⟨y2, k_y2, rfl, N2q, K2, ng_y2, sz0_y2, Q2_0, Q2_1, Q2_2, Q2_3⟩ := hQ2
 refine Go.tr st2 ?_
 have ne_a1_y2 : a1 ≠ y2 := Nat.ne_of_lt (Nat.lt_of_lt_of_le E_a1.lt sz0_y2)
 have ne_a2_y2 : a2 ≠ y2 := Nat.ne_of_lt (Nat.lt_of_lt_of_le V_c.lt sz0_y2)
 have g_y2 : n0 ≤ y2 := ng_y2
 have sz_y2 : h0.size ≤ y2 := Nat.le_trans K0.1 sz0_y2
 replace E_a1 := E_a1.keep K2
 replace V_c := V_c.keep K2 (ninS (Ne.symm ne_a1_a2) nin0)
 replace SC := sta_keep SC K2 (allS (exa_ns E_a1_pre) all0)
 replace Z0 := Nat.le_trans Z0 K2.1
 replace K0 := K0.trans K2 (allS (Or.inl (by simp)) all0)
 clear E_a1_pre F_a1_value_pre F_a1_coder_pre
 have E_a1 := Q2_0
 have F_a1_v := Q2_1
 have F_a1_c := Q2_2
 have V_y2 := Q2_3
 have N2 := Fr.app N0 N2q
 refine sG T2 (mkF m 9 #[vr a1, vr a2] []) ?_
 exact lfV (Q := Qi1_2 Z a1 a2 k_c v0 v1 wC h0 n0) Bd X2 e2 (D d3_9) ⟨y2, k_y2, rfl, N2, K0, g_y2, sz_y2, E_a1, F_a1_v, F_a1_c, V_y2⟩ (by decide) (by decide)
def Qc5_3 (Z : State) (a1 : Addr) (a3 : Addr) (k_c : ClassId) (v0 : Int32) (v1 : Int32) (v2 : Int32) (k_b : ClassId) (h0 : Heap) (n0 : Nat) (v : Option Value) (h : Heap) (L : List Loc) : Prop := v = some (.int (3 : Int32)) ∧ Fr n0 L ∧ Keep h0 h [a3] ∧ Arv Z h a3 k_b .byte (3 : Int32) [(.int ((v0.toInt8.toInt32).toInt8.toInt32)), (.int ((v1.toInt8.toInt32).toInt8.toInt32)), (.int ((v2.toInt8.toInt32).toInt8.toInt32))] (.int (0 : Int32))
theorem efc5_3 (m : MethodId) (x0 : Addr) (x2 : Addr) : entryFrame m #[(.ref x0), (.int (0 : Int32)), (.ref x2), (.int (0 : Int32)), (.int (3 : Int32))] 7 = mkF m 0 #[.val (.ref x0), .val (.int (0 : Int32)), .val (.ref x2), .val (.int (0 : Int32)), .val (.int (3 : Int32)), .unset, .unset] [] := by first | (simp [entryFrame, mkF, argsToLocals, Value.category]; done) | rfl
theorem rmc5_3 (l : Launch) (Z : State) (a0 : Array Value) (hw : HW a0 Z) (ws : List Jvm.Cond) (a1 : Addr) (a3 : Addr) (k_c : ClassId) (v0 : Int32) (v1 : Int32) (v2 : Int32) (k_b : ClassId) (h0 : Heap) (n0 : Nat) (Z0 : n0 ≤ h0.size) (V_c : Arv Z h0 a1 k_c .char (3 : Int32) [(.int v0), (.int v1), (.int v2)] (.int (0 : Int32))) (V_b : Arv Z h0 a3 k_b .byte (3 : Int32) [(.int (0 : Int32)), (.int (0 : Int32)), (.int (0 : Int32))] (.int (0 : Int32))) (hv0 : ¬ (255 : Int32) < v0) (hv1 : ¬ (255 : Int32) < v1) (hv2 : ¬ (255 : Int32) < v2) (ne_a1_a3 : a1 ≠ a3) (g_a3 : n0 ≤ a3) :
  MetFree l y_0 (head1 (Cond.code y_0 cB16 7 (some .int) :: ws) (Rm 0 0 0 0)) (Pr Z h0 #[(.ref a1), (.int (0 : Int32)), (.ref a3), (.int (0 : Int32)), (.int (3 : Int32))]) Tr (fun _ U o U' => ∃ v L, o = .returned v ∧ Qc5_3 Z a1 a3 k_c v0 v1 v2 k_b h0 n0 v U'.heap L ∧ FrameEnd U o U' L (Rm 0 0 0 0).cells (Rm 0 0 0 0).slots) := by
 refine MetFree.of_bodySF (plainFor_of_name pn0) hisR ?_
 intro p e s m args below meth c s₁ Bd hml0 hP hK
 obtain ⟨rfl, hZ, hh⟩ := hP
 have hx := Bd.exec
 have D := @hb _ _ Bd.bytes
 have hml : c.maxLocals = 7 := hml0
 have hown : s.vm.findClass U16 = some m.cls := findClass_of_methodNamed Bd.named
 have hnm := (name_of_methodNamed Bd.named Bd.method).1
 have X0 : Stand p l e (Rm 0 0 0 0) s m #[(.ref a1), (.int (0 : Int32)), (.ref a3), (.int (0 : Int32)), (.int (3 : Int32))] below meth c s₁ [] 0 0 := Stand.of_body Bd
 have e0 : s₁.heap = h0 := by rw [← hh, Bd.state]; rfl
 have N0 := Fr.nil n0
 have K0 : Keep h0 h0 [a3] := Keep.refl h0 _
 refine G (P := fun o U' => ∃ v L, o = .returned v ∧ Qc5_3 Z a1 a3 k_c v0 v1 v2 k_b h0 n0 v U'.heap L ∧ FrameEnd s o U' L (Rm 0 0 0 0).cells (Rm 0 0 0 0).slots) (fun t k => castTop (efc5_3 m a1 a3) k) ?_
 refine sG s₁ (mkF m 0 #[vr a1, vi 0, vr a3, vi 0, vi 3, us, us] []) ?_
 refine G (fun t k => XS.iconst X0.here hx rfl (D d16_0) (XS.istore X0.here hx rfl (D d16_1) rfl (l' := #[vr a1, vi 0, vr a3, vi 0, vi 3, vi 0, us]) rfl (XS.iload X0.here hx rfl (D d16_3) rfl (XS.iload X0.here hx rfl (D d16_5) rfl (XS.icmpNo X0.here hx rfl (D d16_7) rfl (tlt (by decide : (0 : Int32) < (3 : Int32))).2.1 (XS.aloadN X0.here hx rfl (D d16_10) rfl rfl k)))))) ?_
 refine G (fun t k => XS.iloadN X0.here hx rfl (D d16_11) rfl k) ?_
 refine sG s₁ (mkF m 12 #[vr a1, vi 0, vr a3, vi 0, vi 3, vi 0, us] [(.int 0), (.ref a1)]) ?_
 obtain ⟨cl1, Ar1, -, Sz1, Ng1, Hs1, -⟩ := id V_c
 have hin1 := inb_of (j := (0 : Int32)) (c := cl1) Sz1 ⟨by decide, by decide⟩
 refine G (fun t k => X0.caload hx (j := (0 : Int32)) (v := (.int v0)) (by rw [e0]; exact Ar1.1) (State.isArrayOf_alike hZ.alike Ar1.2.1) Ar1.2.2 hin1 (Has.at Hs1 hin1 rfl) (g := (mkF m 12 #[vr a1, vi 0, vr a3, vi 0, vi 3, vi 0, us] [(.int 0), (.ref a1)])) rfl rfl (D d16_12) _ k) ?_
 clear hin1 Hs1 Ng1 Sz1 Ar1 cl1
 refine G (fun t k => XS.istore X0.here hx rfl (D d16_13) rfl (l' := #[vr a1, vi 0, vr a3, vi 0, vi 3, vi 0, vi v0]) rfl (XS.iload X0.here hx rfl (D d16_15) rfl (XS.sipush X0.here hx rfl (D d16_17) k))) ?_
 have hf2 : ¬ ((255 : Int32) < v0) := hv0
 refine G (fun t k => XS.icmpYes X0.here hx rfl (pc0 := 20) (pc' := 26) rfl (D d16_20) rfl (flt hf2).2.2.2 (by decide) (by decide) (XS.aloadN X0.here hx rfl (D d16_26) rfl rfl (XS.iloadN X0.here hx rfl (D d16_27) rfl k))) ?_
 refine sG s₁ (mkF m 28 #[vr a1, vi 0, vr a3, vi 0, vi 3, vi 0, vi v0] [(.int 0), (.ref a3)]) ?_
 refine G (fun t k => XS.iload X0.here hx rfl (D d16_28) rfl (XS.i2b X0.here hx rfl (D d16_30) rfl k)) ?_
 obtain ⟨cl3, Ar3, qq3, Sz3, Ng3, Hs3, Gs3⟩ := id V_b
 have hin3 := inb_of (j := (0 : Int32)) (c := cl3) Sz3 ⟨by decide, by decide⟩
 obtain ⟨T4, h4, X4, e4, W4, st4⟩ := stB X0 hx hZ e0 Ar3 (j := (0 : Int32)) hin3 (g := (mkF m 31 #[vr a1, vi 0, vr a3, vi 0, vi 3, vi 0, vi v0] [(.int (v0.toInt8.toInt32)), (.int 0), (.ref a3)])) rfl rfl (D d16_31)
 refine G st4 ?_
 have N4 := Fr.snoc X4 N0 g_a3
 replace V_c := V_c.other W4 ne_a1_a3
 replace Z0 := Nat.le_trans Z0 (Nat.le_of_eq W4.size.symm)
 replace K0 := K0.wr W4 (Or.inl (by simp))
 replace V_b : Arv Z h4 a3 k_b .byte (3 : Int32) [(.int ((v0.toInt8.toInt32).toInt8.toInt32)), (.int (0 : Int32)), (.int (0 : Int32))] (.int (0 : Int32)) := Arv.set Ar3 qq3 Sz3 Ng3 Hs3 Gs3 (fits_nar_byte _) W4 0 rfl (Nat.le_of_ble_eq_true rfl)
 clear hin3 Gs3 Hs3 Ng3 Sz3 qq3 Ar3 cl3
 refine G (fun t k => XS.iinc X4.here hx rfl (D d16_32) rfl (l' := #[vr a1, vi ((0 : Int32) + (1 : Int32)), vr a3, vi 0, vi 3, vi 0, vi v0]) rfl (XS.iinc X4.here hx rfl (D d16_35) rfl (l' := #[vr a1, vi 1, vr a3, vi ((0 : Int32) + (1 : Int32)), vi 3, vi 0, vi v0]) rfl (XS.iinc X4.here hx rfl (D d16_38) rfl (l' := #[vr a1, vi 1, vr a3, vi 1, vi 3, vi ((0 : Int32) + (1 : Int32)), vi v0]) rfl (XS.goto X4.here hx rfl (pc0 := 41) (pc' := 3) rfl (D d16_41) (by decide) (by decide) k)))) ?_
 refine sG T4 (mkF m 3 #[vr a1, vi 1, vr a3, vi 1, vi 3, vi 1, vi v0] []) ?_
 refine G (fun t k => XS.iload X4.here hx rfl (D d16_3) rfl (XS.iload X4.here hx rfl (D d16_5) rfl (XS.icmpNo X4.here hx rfl (D d16_7) rfl (tlt (by decide : (1 : Int32) < (3 : Int32))).2.1 (XS.aloadN X4.here hx rfl (D d16_10) rfl rfl (XS.iloadN X4.here hx rfl (D d16_11) rfl k))))) ?_
 obtain ⟨cl5, Ar5, -, Sz5, Ng5, Hs5, -⟩ := id V_c
 have hin5 := inb_of (j := (1 : Int32)) (c := cl5) Sz5 ⟨by decide, by decide⟩
 refine G (fun t k => X4.caload hx (j := (1 : Int32)) (v := (.int v1)) (by rw [e4]; exact Ar5.1) (State.isArrayOf_alike hZ.alike Ar5.2.1) Ar5.2.2 hin5 (Has.at Hs5 hin5 rfl) (g := (mkF m 12 #[vr a1, vi 1, vr a3, vi 1, vi 3, vi 1, vi v0] [(.int 1), (.ref a1)])) rfl rfl (D d16_12) _ k) ?_
 clear hin5 Hs5 Ng5 Sz5 Ar5 cl5
 refine G (fun t k => XS.istore X4.here hx rfl (D d16_13) rfl (l' := #[vr a1, vi 1, vr a3, vi 1, vi 3, vi 1, vi v1]) rfl k) ?_
 refine sG T4 (mkF m 15 #[vr a1, vi 1, vr a3, vi 1, vi 3, vi 1, vi v1] []) ?_
 refine G (fun t k => XS.iload X4.here hx rfl (D d16_15) rfl (XS.sipush X4.here hx rfl (D d16_17) k)) ?_
 have hf6 : ¬ ((255 : Int32) < v1) := hv1
 refine G (fun t k => XS.icmpYes X4.here hx rfl (pc0 := 20) (pc' := 26) rfl (D d16_20) rfl (flt hf6).2.2.2 (by decide) (by decide) (XS.aloadN X4.here hx rfl (D d16_26) rfl rfl (XS.iloadN X4.here hx rfl (D d16_27) rfl (XS.iload X4.here hx rfl (D d16_28) rfl (XS.i2b X4.here hx rfl (D d16_30) rfl k))))) ?_
 refine sG T4 (mkF m 31 #[vr a1, vi 1, vr a3, vi 1, vi 3, vi 1, vi v1] [(.int (v1.toInt8.toInt32)), (.int 1), (.ref a3)]) ?_
 obtain ⟨cl7, Ar7, qq7, Sz7, Ng7, Hs7, Gs7⟩ := id V_b
 have hin7 := inb_of (j := (1 : Int32)) (c := cl7) Sz7 ⟨by decide, by decide⟩
 obtain ⟨T8, h8, X8, e8, W8, st8⟩ := stB X4 hx hZ e4 Ar7 (j := (1 : Int32)) hin7 (g := (mkF m 31 #[vr a1, vi 1, vr a3, vi 1, vi 3, vi 1, vi v1] [(.int (v1.toInt8.toInt32)), (.int 1), (.ref a3)])) rfl rfl (D d16_31)
 refine G st8 ?_
 have N8 := Fr.snoc X8 N4 g_a3
 replace V_c := V_c.other W8 ne_a1_a3
 replace Z0 := Nat.le_trans Z0 (Nat.le_of_eq W8.size.symm)
 replace K0 := K0.wr W8 (Or.inl (by simp))
 replace V_b : Arv Z h8 a3 k_b .byte (3 : Int32) [(.int ((v0.toInt8.toInt32).toInt8.toInt32)), (.int ((v1.toInt8.toInt32).toInt8.toInt32)), (.int (0 : Int32))] (.int (0 : Int32)) := Arv.set Ar7 qq7 Sz7 Ng7 Hs7 Gs7 (fits_nar_byte _) W8 1 rfl (Nat.le_of_ble_eq_true rfl)
 clear hin7 Gs7 Hs7 Ng7 Sz7 qq7 Ar7 cl7
 refine G (fun t k => XS.iinc X8.here hx rfl (D d16_32) rfl (l' := #[vr a1, vi ((1 : Int32) + (1 : Int32)), vr a3, vi 1, vi 3, vi 1, vi v1]) rfl (XS.iinc X8.here hx rfl (D d16_35) rfl (l' := #[vr a1, vi 2, vr a3, vi ((1 : Int32) + (1 : Int32)), vi 3, vi 1, vi v1]) rfl (XS.iinc X8.here hx rfl (D d16_38) rfl (l' := #[vr a1, vi 2, vr a3, vi 2, vi 3, vi ((1 : Int32) + (1 : Int32)), vi v1]) rfl (XS.goto X8.here hx rfl (pc0 := 41) (pc' := 3) rfl (D d16_41) (by decide) (by decide) (XS.iload X8.here hx rfl (D d16_3) rfl (XS.iload X8.here hx rfl (D d16_5) rfl k)))))) ?_
 refine sG T8 (mkF m 7 #[vr a1, vi 2, vr a3, vi 2, vi 3, vi 2, vi v1] [(.int 3), (.int 2)]) ?_
 refine G (fun t k => XS.icmpNo X8.here hx rfl (D d16_7) rfl (tlt (by decide : (2 : Int32) < (3 : Int32))).2.1 (XS.aloadN X8.here hx rfl (D d16_10) rfl rfl (XS.iloadN X8.here hx rfl (D d16_11) rfl k))) ?_
 obtain ⟨cl9, Ar9, -, Sz9, Ng9, Hs9, -⟩ := id V_c
 have hin9 := inb_of (j := (2 : Int32)) (c := cl9) Sz9 ⟨by decide, by decide⟩
 refine G (fun t k => X8.caload hx (j := (2 : Int32)) (v := (.int v2)) (by rw [e8]; exact Ar9.1) (State.isArrayOf_alike hZ.alike Ar9.2.1) Ar9.2.2 hin9 (Has.at Hs9 hin9 rfl) (g := (mkF m 12 #[vr a1, vi 2, vr a3, vi 2, vi 3, vi 2, vi v1] [(.int 2), (.ref a1)])) rfl rfl (D d16_12) _ k) ?_
 clear hin9 Hs9 Ng9 Sz9 Ar9 cl9
 refine G (fun t k => XS.istore X8.here hx rfl (D d16_13) rfl (l' := #[vr a1, vi 2, vr a3, vi 2, vi 3, vi 2, vi v2]) rfl (XS.iload X8.here hx rfl (D d16_15) rfl (XS.sipush X8.here hx rfl (D d16_17) k))) ?_
 refine sG T8 (mkF m 20 #[vr a1, vi 2, vr a3, vi 2, vi 3, vi 2, vi v2] [(.int 255), (.int v2)]) ?_
 have hf10 : ¬ ((255 : Int32) < v2) := hv2
 refine G (fun t k => XS.icmpYes X8.here hx rfl (pc0 := 20) (pc' := 26) rfl (D d16_20) rfl (flt hf10).2.2.2 (by decide) (by decide) (XS.aloadN X8.here hx rfl (D d16_26) rfl rfl (XS.iloadN X8.here hx rfl (D d16_27) rfl (XS.iload X8.here hx rfl (D d16_28) rfl (XS.i2b X8.here hx rfl (D d16_30) rfl k))))) ?_
 obtain ⟨cl11, Ar11, qq11, Sz11, Ng11, Hs11, Gs11⟩ := id V_b
 have hin11 := inb_of (j := (2 : Int32)) (c := cl11) Sz11 ⟨by decide, by decide⟩
 obtain ⟨T12, h12, X12, e12, W12, st12⟩ := stB X8 hx hZ e8 Ar11 (j := (2 : Int32)) hin11 (g := (mkF m 31 #[vr a1, vi 2, vr a3, vi 2, vi 3, vi 2, vi v2] [(.int (v2.toInt8.toInt32)), (.int 2), (.ref a3)])) rfl rfl (D d16_31)
 refine G st12 ?_
 have N12 := Fr.snoc X12 N8 g_a3
 replace V_c := V_c.other W12 ne_a1_a3
 replace Z0 := Nat.le_trans Z0 (Nat.le_of_eq W12.size.symm)
 replace K0 := K0.wr W12 (Or.inl (by simp))
 replace V_b : Arv Z h12 a3 k_b .byte (3 : Int32) [(.int ((v0.toInt8.toInt32).toInt8.toInt32)), (.int ((v1.toInt8.toInt32).toInt8.toInt32)), (.int ((v2.toInt8.toInt32).toInt8.toInt32))] (.int (0 : Int32)) := Arv.set Ar11 qq11 Sz11 Ng11 Hs11 Gs11 (fits_nar_byte _) W12 2 rfl (Nat.le_of_ble_eq_true rfl)
 clear hin11 Gs11 Hs11 Ng11 Sz11 qq11 Ar11 cl11
 refine G (fun t k => XS.iinc X12.here hx rfl (D d16_32) rfl (l' := #[vr a1, vi ((2 : Int32) + (1 : Int32)), vr a3, vi 2, vi 3, vi 2, vi v2]) rfl k) ?_
 refine sG T12 (mkF m 35 #[vr a1, vi 3, vr a3, vi 2, vi 3, vi 2, vi v2] []) ?_
 refine G (fun t k => XS.iinc X12.here hx rfl (D d16_35) rfl (l' := #[vr a1, vi 3, vr a3, vi ((2 : Int32) + (1 : Int32)), vi 3, vi 2, vi v2]) rfl (XS.iinc X12.here hx rfl (D d16_38) rfl (l' := #[vr a1, vi 3, vr a3, vi 3, vi 3, vi ((2 : Int32) + (1 : Int32)), vi v2]) rfl (XS.goto X12.here hx rfl (pc0 := 41) (pc' := 3) rfl (D d16_41) (by decide) (by decide) (XS.iload X12.here hx rfl (D d16_3) rfl (XS.iload X12.here hx rfl (D d16_5) rfl (XS.icmpYes X12.here hx rfl (pc0 := 7) (pc' := 44) rfl (D d16_7) rfl (flt (by decide : ¬ ((3 : Int32) < (3 : Int32)))).2.1 (by decide) (by decide) k)))))) ?_
 refine G (fun t k => XS.iload X12.here hx rfl (D d16_44) rfl k) ?_
 refine sG T12 (mkF m 46 #[vr a1, vi 3, vr a3, vi 3, vi 3, vi 3, vi v2] [(.int 3)]) ?_
 exact lfI (Q := Qc5_3 Z a1 a3 k_c v0 v1 v2 k_b h0 n0) Bd X12 e12 (D d16_46) (w := (3 : Int32)) ⟨rfl, N12, K0, V_b⟩ (by decide) (by decide)
def Qc3_3 (Z : State) (a1 : Addr) (k_c : ClassId) (v0 : Int32) (v1 : Int32) (v2 : Int32) (h0 : Heap) (n0 : Nat) (v : Option Value) (h : Heap) (L : List Loc) : Prop := ∃ xc3_3_0 : Addr, ∃ k_xc3_3_0 : ClassId, v = some (.ref xc3_3_0) ∧ Fr n0 L ∧ Keep h0 h [] ∧ n0 ≤ xc3_3_0 ∧ h0.size ≤ xc3_3_0 ∧ Arv Z h xc3_3_0 k_xc3_3_0 .byte (3 : Int32) [(.int ((v0.toInt8.toInt32).toInt8.toInt32)), (.int ((v1.toInt8.toInt32).toInt8.toInt32)), (.int ((v2.toInt8.toInt32).toInt8.toInt32))] (.int (0 : Int32))
theorem efc3_3 (m : MethodId) (x0 : Addr) : entryFrame m #[(.ref x0), (.int (0 : Int32)), (.int (3 : Int32))] 6 = mkF m 0 #[.val (.ref x0), .val (.int (0 : Int32)), .val (.int (3 : Int32)), .unset, .unset, .unset] [] := by first | (simp [entryFrame, mkF, argsToLocals, Value.category]; done) | rfl
theorem rmc3_3 (l : Launch) (Z : State) (a0 : Array Value) (hw : HW a0 Z) (ws : List Jvm.Cond) (a1 : Addr) (k_c : ClassId) (v0 : Int32) (v1 : Int32) (v2 : Int32) (h0 : Heap) (n0 : Nat) (Z0 : n0 ≤ h0.size) (V_c : Arv Z h0 a1 k_c .char (3 : Int32) [(.int v0), (.int v1), (.int v2)] (.int (0 : Int32))) (hv0 : ¬ (255 : Int32) < v0) (hv1 : ¬ (255 : Int32) < v1) (hv2 : ¬ (255 : Int32) < v2) :
  MetFree l y_1 (head1 (Cond.code y_1 cB15 6 (some (.array .byte)) :: ws) (Rm 1 1 3 18)) (Pr Z h0 #[(.ref a1), (.int (0 : Int32)), (.int (3 : Int32))]) Tr (fun _ U o U' => ∃ v L, o = .returned v ∧ Qc3_3 Z a1 k_c v0 v1 v2 h0 n0 v U'.heap L ∧ FrameEnd U o U' L (Rm 1 1 3 18).cells (Rm 1 1 3 18).slots) := by
 refine MetFree.of_bodySF (plainFor_of_name pn0) hisR ?_
 intro p e s m args below meth c s₁ Bd hml0 hP hK
 obtain ⟨rfl, hZ, hh⟩ := hP
 have hx := Bd.exec
 have D := @hb _ _ Bd.bytes
 have hml : c.maxLocals = 6 := hml0
 have hown : s.vm.findClass U16 = some m.cls := findClass_of_methodNamed Bd.named
 have hnm := (name_of_methodNamed Bd.named Bd.method).1
 have X0 : Stand p l e (Rm 1 1 3 18) s m #[(.ref a1), (.int (0 : Int32)), (.int (3 : Int32))] below meth c s₁ [] 0 0 := Stand.of_body Bd
 have e0 : s₁.heap = h0 := by rw [← hh, Bd.state]; rfl
 have N0 := Fr.nil n0
 have K0 : Keep h0 h0 [] := Keep.refl h0 _
 refine G (P := fun o U' => ∃ v L, o = .returned v ∧ Qc3_3 Z a1 k_c v0 v1 v2 h0 n0 v U'.heap L ∧ FrameEnd s o U' L (Rm 1 1 3 18).cells (Rm 1 1 3 18).slots) (fun t k => castTop (efc3_3 m a1) k) ?_
 refine sG s₁ (mkF m 0 #[vr a1, vi 0, vi 3, us, us, us] []) ?_
 refine G (fun t k => XS.iloadN X0.here hx rfl (D d15_0) rfl k) ?_
 obtain ⟨T1, h1, k1, X1, e1, E1, A1, st1⟩ := newP X0 hx hZ (aty := .byte) (wd22 hw) e0 (g := (mkF m 1 #[vr a1, vi 0, vi 3, us, us, us] [(.int 3)])) rfl (D d15_1) rfl (by decide) (cap := 3) (by decide) (by decide) (by decide) (by decide)
 obtain ⟨b1, g1⟩ : ∃ z, z = h0.size := ⟨_, rfl⟩
 rw [← g1] at A1 st1
 refine G st1 ?_
 have ne_a1_b1 : a1 ≠ b1 := Nat.ne_of_lt (Nat.lt_of_lt_of_le V_c.lt (Nat.le_of_eq g1.symm))
 have g_b1 : n0 ≤ b1 := Nat.le_trans Z0 (Nat.le_of_eq g1.symm)
 have sz_b1 : h0.size ≤ b1 := Nat.le_trans K0.1 (Nat.le_of_eq g1.symm)
 replace V_c := V_c.ext E1
 replace K0 := K0.ext E1
 replace Z0 := Nat.le_trans Z0 E1.1
 have V_b1 : Arv Z h1 b1 k1 .byte (3 : Int32) [(.int (0 : Int32)), (.int (0 : Int32)), (.int (0 : Int32))] (.int (0 : Int32)) := (Arv.new A1 (by decide)).pad (pad_rep [] (.int (0 : Int32)) 3)
 refine G (fun t k => XS.astoreN X1.here hx rfl (D d15_3) rfl rfl (l' := #[vr a1, vi 0, vi 3, vr b1, us, us]) rfl (XS.aloadN X1.here hx rfl (D d15_4) rfl rfl (XS.iloadN X1.here hx rfl (D d15_5) rfl (XS.aloadN X1.here hx rfl (D d15_6) rfl rfl (XS.iconst X1.here hx rfl (D d15_7) k))))) ?_
 refine sG T1 (mkF m 8 #[vr a1, vi 0, vi 3, vr b1, us, us] [(.int 0), (.ref b1), (.int 0), (.ref a1)]) ?_
 refine G (fun t k => XS.iloadN X1.here hx rfl (D d15_8) rfl k) ?_
 obtain ⟨_, T2, Lc2, X2, hQ2, st2⟩ := cS X1 hx hZ hown hml (wd79 hw) (wd80 hw) (wd77 hw) (wd81 hw) e1 0 [] (rmc5_3 l Z a0 hw [] a1 b1 k_c v0 v1 v2 k1 h1 n0 Z0 V_c V_b1 hv0 hv1 hv2 ne_a1_b1 g_b1) pd0 (mkF m 9 #[vr a1, vi 0, vi 3, vr b1, us, us] [(.int 3), (.int 0), (.ref b1), (.int 0), (.ref a1)]) (D d15_9)
 refine G st2 ?_
 have V_b1_pre := V_b1
 obtain ⟨h2, e2⟩ : ∃ z, T2.heap = z := ⟨_, rfl⟩
 rw [e2] at hQ2
 obtain ⟨rfl, N2q, K2, Q2_0⟩ := hQ2
 replace V_c := V_c.keep K2 (ninS ne_a1_b1 nin0)
 replace Z0 := Nat.le_trans Z0 K2.1
 replace K0 := K0.trans K2 (allS (Or.inr sz_b1) all0)
 clear V_b1_pre
 have V_b1 := Q2_0
 have N2 := Fr.app N0 N2q
 refine G (fun t k => XS.istore X2.here hx rfl (D d15_12) rfl (l' := #[vr a1, vi 0, vi 3, vr b1, vi 3, us]) rfl (XS.iload X2.here hx rfl (D d15_14) rfl (XS.iloadN X2.here hx rfl (D d15_16) rfl (XS.icmpYes X2.here hx rfl (pc0 := 17) (pc' := 57) rfl (D d15_17) rfl (teq (by decide : (3 : Int32) = (3 : Int32))).1 (by decide) (by decide) (XS.aloadN X2.here hx rfl (D d15_57) rfl rfl k))))) ?_
 refine sG T2 (mkF m 58 #[vr a1, vi 0, vi 3, vr b1, vi 3, us] [(.ref b1)]) ?_
 exact lfR (Q := Qc3_3 Z a1 k_c v0 v1 v2 h0 n0) Bd X2 e2 (D d15_58) rfl rfl rfl ⟨b1, k1, rfl, N2, K0, g_b1, sz_b1, V_b1⟩ (by decide) (by decide)
def Qcl_3 (Z : State) (a1 : Addr) (k_b : ClassId) (v0 : Int32) (v1 : Int32) (v2 : Int32) (h0 : Heap) (n0 : Nat) (v : Option Value) (h : Heap) (L : List Loc) : Prop := v = some (.int (0 : Int32)) ∧ Fr n0 L ∧ h = h0
theorem efcl_3 (m : MethodId) (x0 : Addr) : entryFrame m #[(.ref x0), (.int (3 : Int32))] 2 = mkF m 0 #[.val (.ref x0), .val (.int (3 : Int32))] [] := by first | (simp [entryFrame, mkF, argsToLocals, Value.category]; done) | rfl
theorem rmcl_3 (l : Launch) (Z : State) (a0 : Array Value) (hw : HW a0 Z) (ws : List Jvm.Cond) (a1 : Addr) (k_b : ClassId) (v0 : Int32) (v1 : Int32) (v2 : Int32) (h0 : Heap) (n0 : Nat) (Z0 : n0 ≤ h0.size) (V_b : Arv Z h0 a1 k_b .byte (3 : Int32) [(.int v0), (.int v1), (.int v2)] (.int (0 : Int32))) :
  MetFree l y_2 (head1 (Cond.code y_2 cB17 2 (some .byte) :: ws) (Rm 0 0 0 0)) (Pr Z h0 #[(.ref a1), (.int (3 : Int32))]) Tr (fun _ U o U' => ∃ v L, o = .returned v ∧ Qcl_3 Z a1 k_b v0 v1 v2 h0 n0 v U'.heap L ∧ FrameEnd U o U' L (Rm 0 0 0 0).cells (Rm 0 0 0 0).slots) := by
 refine MetFree.of_bodySF (plainFor_of_name pn0) hisR ?_
 intro p e s m args below meth c s₁ Bd hml0 hP hK
 obtain ⟨rfl, hZ, hh⟩ := hP
 have hx := Bd.exec
 have D := @hb _ _ Bd.bytes
 have hml : c.maxLocals = 2 := hml0
 have hown : s.vm.findClass U16 = some m.cls := findClass_of_methodNamed Bd.named
 have hnm := (name_of_methodNamed Bd.named Bd.method).1
 have X0 : Stand p l e (Rm 0 0 0 0) s m #[(.ref a1), (.int (3 : Int32))] below meth c s₁ [] 0 0 := Stand.of_body Bd
 have e0 : s₁.heap = h0 := by rw [← hh, Bd.state]; rfl
 have N0 := Fr.nil n0
 have K0 : Keep h0 h0 [] := Keep.refl h0 _
 refine G (P := fun o U' => ∃ v L, o = .returned v ∧ Qcl_3 Z a1 k_b v0 v1 v2 h0 n0 v U'.heap L ∧ FrameEnd s o U' L (Rm 0 0 0 0).cells (Rm 0 0 0 0).slots) (fun t k => castTop (efcl_3 m a1) k) ?_
 refine sG s₁ (mkF m 0 #[vr a1, vi 3] []) ?_
 refine G (fun t k => XS.iloadN X0.here hx rfl (D d17_0) rfl (XS.aloadN X0.here hx rfl (D d17_1) rfl rfl k)) ?_
 obtain ⟨cl1, Ar1, -, Sz1, Ng1, -, -⟩ := id V_b
 refine G (fun t k => X0.arraylength hx (by rw [e0]; exact Ar1.1) (State.isArrayOf_alike hZ.alike Ar1.2.1) (g := (mkF m 2 #[vr a1, vi 3] [(.ref a1), (.int 3)])) rfl rfl (D d17_2) _ k) ?_
 rw [len_of Sz1 Ng1]
 clear Ng1 Sz1 Ar1 cl1
 refine G (fun t k => XS.isub X0.here hx rfl (D d17_3) rfl (XS.bipush X0.here hx rfl (D d17_4) (XS.iushr X0.here hx rfl (D d17_6) rfl k))) ?_
 refine sG s₁ (mkF m 7 #[vr a1, vi 3] [(.int (((0 : Int32).toUInt32 >>> ((31 : Int32) &&& 31).toUInt32).toInt32))]) ?_
 refine Go.fr (g' := (mkF m 7 #[vr a1, vi 3] [(.int 0)])) (by rw [show (((0 : Int32).toUInt32 >>> ((31 : Int32) &&& 31).toUInt32).toInt32) = (0 : Int32) from by decide]) ?_
 refine G (fun t k => XS.i2b X0.here hx rfl (D d17_7) rfl k) ?_
 exact lfN (Q := Qcl_3 Z a1 k_b v0 v1 v2 h0 n0) Bd X0 e0 (D d17_8) (by simp) (w := (0 : Int32)) rfl ⟨rfl, N0, rfl⟩ (by decide) (by decide)
def Qi4_3 (Z : State) (a1 : Addr) (a2 : Addr) (k_c : ClassId) (v0 : Int32) (v1 : Int32) (v2 : Int32) (wC : Int32) (h0 : Heap) (n0 : Nat) (v : Option Value) (h : Heap) (L : List Loc) : Prop := ∃ xi4_3_0 : Addr, ∃ k_xi4_3_0 : ClassId, v = none ∧ Fr n0 L ∧ Keep h0 h [a1] ∧ n0 ≤ xi4_3_0 ∧ h0.size ≤ xi4_3_0 ∧ Exa Z h a1 SN ∧ Fld Z h a1 SN "value" "[B" (.ref xi4_3_0) ∧ Fld Z h a1 SN "coder" "B" (.int (0 : Int32)) ∧ Arv Z h xi4_3_0 k_xi4_3_0 .byte (3 : Int32) [(.int ((v0.toInt8.toInt32).toInt8.toInt32)), (.int ((v1.toInt8.toInt32).toInt8.toInt32)), (.int ((v2.toInt8.toInt32).toInt8.toInt32))] (.int (0 : Int32))
theorem efi4_3 (m : MethodId) (x0 : Addr) (x1 : Addr) : entryFrame m #[(.ref x0), (.ref x1), (.int (0 : Int32)), (.int (3 : Int32)), .null] 6 = mkF m 0 #[.val (.ref x0), .val (.ref x1), .val (.int (0 : Int32)), .val (.int (3 : Int32)), .val .null, .unset] [] := by first | (simp [entryFrame, mkF, argsToLocals, Value.category]; done) | rfl
theorem rmi4_3 (l : Launch) (Z : State) (a0 : Array Value) (hw : HW a0 Z) (ws : List Jvm.Cond) (a1 : Addr) (a2 : Addr) (k_c : ClassId) (v0 : Int32) (v1 : Int32) (v2 : Int32) (wC : Int32) (h0 : Heap) (n0 : Nat) (Z0 : n0 ≤ h0.size) (E_a1 : Exa Z h0 a1 SN) (F_a1_v : Fld Z h0 a1 SN "value" "[B" .null) (F_a1_c : Fld Z h0 a1 SN "coder" "B" (.int (0 : Int32))) (V_c : Arv Z h0 a2 k_c .char (3 : Int32) [(.int v0), (.int v1), (.int v2)] (.int (0 : Int32))) (SC : Sta Z h0 SN "COMPACT_STRINGS" "Z" (.int wC)) (hv0 : ¬ (255 : Int32) < v0) (hv1 : ¬ (255 : Int32) < v1) (hv2 : ¬ (255 : Int32) < v2) (hcs : ¬ wC = (0 : Int32)) (ne_a1_a2 : a1 ≠ a2) (g_a1 : n0 ≤ a1) :
  MetFree l y_3 (head1 (Cond.code y_3 cB4 6 none :: ws) (Rm 2 1 3 35)) (Pr Z h0 #[(.ref a1), (.ref a2), (.int (0 : Int32)), (.int (3 : Int32)), .null]) Tr (fun _ U o U' => ∃ v L, o = .returned v ∧ Qi4_3 Z a1 a2 k_c v0 v1 v2 wC h0 n0 v U'.heap L ∧ FrameEnd U o U' L (Rm 2 1 3 35).cells (Rm 2 1 3 35).slots) := by
 refine MetFree.of_bodySF (plainFor_of_name pn1) hisR ?_
 intro p e s m args below meth c s₁ Bd hml0 hP hK
 obtain ⟨rfl, hZ, hh⟩ := hP
 have hx := Bd.exec
 have D := @hb _ _ Bd.bytes
 have hml : c.maxLocals = 6 := hml0
 have hown : s.vm.findClass SN = some m.cls := findClass_of_methodNamed Bd.named
 have hnm := (name_of_methodNamed Bd.named Bd.method).1
 have X0 : Stand p l e (Rm 2 1 3 35) s m #[(.ref a1), (.ref a2), (.int (0 : Int32)), (.int (3 : Int32)), .null] below meth c s₁ [] 0 0 := Stand.of_body Bd
 have e0 : s₁.heap = h0 := by rw [← hh, Bd.state]; rfl
 have N0 := Fr.nil n0
 have K0 : Keep h0 h0 [a1] := Keep.refl h0 _
 refine G (P := fun o U' => ∃ v L, o = .returned v ∧ Qi4_3 Z a1 a2 k_c v0 v1 v2 wC h0 n0 v U'.heap L ∧ FrameEnd s o U' L (Rm 2 1 3 35).cells (Rm 2 1 3 35).slots) (fun t k => castTop (efi4_3 m a1 a2) k) ?_
 refine sG s₁ (mkF m 0 #[vr a1, vr a2, vi 0, vi 3, .val .null, us] []) ?_
 refine G (fun t k => XS.aloadN X0.here hx rfl (D d4_0) rfl rfl k) ?_
 obtain ⟨T1, X1, e1, st1⟩ := initO X0 hx hZ hown (wd18 hw) (wd19 hw) (wd20 hw) e0 (g := (mkF m 1 #[vr a1, vr a2, vi 0, vi 3, .val .null, us] [(.ref a1)])) rfl (by rw [hml]; rfl) rfl (D d4_1) (by decide) (W := 0) (by show 2 * 0 + _ ≤ _; exact Nat.le_of_eq rfl) (by decide)
 refine G st1 ?_
 refine G (fun t k => XS.iloadN X1.here hx rfl (D d4_4) rfl (XS.ifYes X1.here hx rfl (pc0 := 5) (pc' := 27) rfl (D d4_5) rfl ((if0 _ _).trans (feq (by decide : ¬ ((3 : Int32) = (0 : Int32)))).2) (by decide) (by decide) k)) ?_
 obtain ⟨T2, X2, e2, st2⟩ := getS2 X1 hx hZ hown (host := "") (Or.inl (wd54 hw)) Via.refl e1 SC (g := (mkF m 27 #[vr a1, vr a2, vi 0, vi 3, .val .null, us] [])) rfl (D d4_27)
 refine G st2 ?_
 have hf3 : ¬ (wC = (0 : Int32)) := hcs
 refine G (fun t k => XS.ifNo X2.here hx rfl (D d4_30) rfl ((if0 _ _).trans (feq hf3).1) (XS.aloadN X2.here hx rfl (D d4_33) rfl rfl k)) ?_
 refine sG T2 (mkF m 34 #[vr a1, vr a2, vi 0, vi 3, .val .null, us] [(.ref a2)]) ?_
 refine G (fun t k => XS.iloadN X2.here hx rfl (D d4_34) rfl (XS.iloadN X2.here hx rfl (D d4_35) rfl k)) ?_
 obtain ⟨_, T4, Lc4, X4, hQ4, st4⟩ := cS X2 hx hZ hown hml (wd75 hw) (wd76 hw) (wd77 hw) (wd78 hw) e2 0 [] (rmc3_3 l Z a0 hw [] a2 k_c v0 v1 v2 h0 n0 Z0 V_c hv0 hv1 hv2) pd1 (mkF m 36 #[vr a1, vr a2, vi 0, vi 3, .val .null, us] [(.int 3), (.int 0), (.ref a2)]) (D d4_36)
 obtain ⟨h4, e4⟩ : ∃ z, T4.heap = z := ⟨_, rfl⟩
 rw [e4] at hQ4
 obtain ⟨y4, k_y4, rfl, N4q, K4, ng_y4, sz0_y4, Q4_0⟩ := hQ4
 refine G st4 ?_
 have ne_a1_y4 : a1 ≠ y4 := Nat.ne_of_lt (Nat.lt_of_lt_of_le E_a1.lt sz0_y4)
 have ne_a2_y4 : a2 ≠ y4 := Nat.ne_of_lt (Nat.lt_of_lt_of_le V_c.lt sz0_y4)
 have g_y4 : n0 ≤ y4 := ng_y4
 have sz_y4 : h0.size ≤ y4 := Nat.le_trans K0.1 sz0_y4
 replace E_a1 := E_a1.keep K4
 replace F_a1_v := F_a1_v.keep K4 nin0
 replace F_a1_c := F_a1_c.keep K4 nin0
 replace V_c := V_c.keep K4 nin0
 replace SC := sta_keep SC K4 all0
 replace Z0 := Nat.le_trans Z0 K4.1
 replace K0 := K0.trans K4 all0
 have V_y4 := Q4_0
 have N4 := Fr.app N0 N4q
 refine G (fun t k => XS.astore X4.here hx rfl (D d4_39) rfl rfl (l' := #[vr a1, vr a2, vi 0, vi 3, .val .null, vr y4]) rfl (XS.aloadN X4.here hx rfl (D d4_41) rfl rfl (XS.aload X4.here hx rfl (D d4_42) rfl rfl (XS.iloadN X4.here hx rfl (D d4_44) rfl k)))) ?_
 refine sG T4 (mkF m 45 #[vr a1, vr a2, vi 0, vi 3, .val .null, vr y4] [(.int 3), (.ref y4), (.ref a1)]) ?_
 obtain ⟨_, T5, Lc5, X5, hQ5, st5⟩ := cS X4 hx hZ hown hml (wd82 hw) (wd83 hw) (wd77 hw) (wd84 hw) e4 1 [(.ref a1)] (rmcl_3 l Z a0 hw [] y4 k_y4 ((v0.toInt8.toInt32).toInt8.toInt32) ((v1.toInt8.toInt32).toInt8.toInt32) ((v2.toInt8.toInt32).toInt8.toInt32) h4 n0 Z0 V_y4) pd2 (mkF m 45 #[vr a1, vr a2, vi 0, vi 3, .val .null, vr y4] [(.int 3), (.ref y4), (.ref a1)]) (D d4_45)
 refine G st5 ?_
 obtain ⟨rfl, N5q, e5⟩ := hQ5
 have N5 := Fr.app N4 N5q
 obtain ⟨T6, h6, X6, e6, W6, st6⟩ := putFN X5 hx hZ hown (wd28 hw) Via.refl e5 F_a1_c E_a1 (Or.inr ⟨(wd24 hw), rfl, hnm⟩) (wd9 hw) (ty := .byte) (v' := (.int ((0 : Int32).toInt8.toInt32))) (by decide) rfl (fits_nar_byte _) (g := (mkF m 48 #[vr a1, vr a2, vi 0, vi 3, .val .null, vr y4] [(.int 0), (.ref a1)])) rfl rfl (D d4_48)
 refine G st6 ?_
 have N6 := Fr.snoc X6 N5 g_a1
 replace E_a1 := E_a1.wr W6
 replace F_a1_v := F_a1_v.other W6 (sn0 hw)
 replace F_a1_c := F_a1_c.same W6
 replace V_c := V_c.other W6 (Ne.symm ne_a1_a2)
 replace SC := SC.wr W6
 replace V_y4 := V_y4.other W6 (Ne.symm ne_a1_y4)
 replace Z0 := Nat.le_trans Z0 (Nat.le_of_eq W6.size.symm)
 replace K0 := K0.wr W6 (Or.inl (by simp))
 replace F_a1_c : Fld Z h6 a1 SN "coder" "B" (.int (0 : Int32)) := F_a1_c
 refine G (fun t k => XS.aloadN X6.here hx rfl (D d4_51) rfl rfl (XS.aload X6.here hx rfl (D d4_52) rfl rfl k)) ?_
 obtain ⟨T7, h7, X7, e7, W7, st7⟩ := putF X6 hx hZ hown (host := "") (Or.inl (wd27 hw)) Via.refl e6 F_a1_v E_a1 (Or.inr ⟨(wd23 hw), rfl, hnm⟩) (wd9 hw) (ty := (.array .byte)) (by decide) rfl rfl (g := (mkF m 54 #[vr a1, vr a2, vi 0, vi 3, .val .null, vr y4] [(.ref y4), (.ref a1)])) rfl rfl (D d4_54)
 refine G st7 ?_
 have N7 := Fr.snoc X7 N6 g_a1
 obtain ⟨LL7, X7, N7⟩ : ∃ LL, Stand p l e (Rm 2 1 3 35) s m #[(.ref a1), (.ref a2), (.int (0 : Int32)), (.int (3 : Int32)), .null] below meth c T7 LL 1 3 ∧ Fr n0 LL := ⟨_, X7, N7⟩
 replace E_a1 := E_a1.wr W7
 replace F_a1_v := F_a1_v.same W7
 replace F_a1_c := F_a1_c.other W7 (sn1 hw)
 replace V_c := V_c.other W7 (Ne.symm ne_a1_a2)
 replace SC := SC.wr W7
 replace V_y4 := V_y4.other W7 (Ne.symm ne_a1_y4)
 replace Z0 := Nat.le_trans Z0 (Nat.le_of_eq W7.size.symm)
 replace K0 := K0.wr W7 (Or.inl (by simp))
 exact lfV (Q := Qi4_3 Z a1 a2 k_c v0 v1 v2 wC h0 n0) Bd X7 e7 (D d4_57) ⟨y4, k_y4, rfl, N7, K0, g_y4, sz_y4, E_a1, F_a1_v, F_a1_c, V_y4⟩ (by decide) (by decide)
def Qi1_3 (Z : State) (a1 : Addr) (a2 : Addr) (k_c : ClassId) (v0 : Int32) (v1 : Int32) (v2 : Int32) (wC : Int32) (h0 : Heap) (n0 : Nat) (v : Option Value) (h : Heap) (L : List Loc) : Prop := ∃ xi1_3_0 : Addr, ∃ k_xi1_3_0 : ClassId, v = none ∧ Fr n0 L ∧ Keep h0 h [a1] ∧ n0 ≤ xi1_3_0 ∧ h0.size ≤ xi1_3_0 ∧ Exa Z h a1 SN ∧ Fld Z h a1 SN "value" "[B" (.ref xi1_3_0) ∧ Fld Z h a1 SN "coder" "B" (.int (0 : Int32)) ∧ Arv Z h xi1_3_0 k_xi1_3_0 .byte (3 : Int32) [(.int ((v0.toInt8.toInt32).toInt8.toInt32)), (.int ((v1.toInt8.toInt32).toInt8.toInt32)), (.int ((v2.toInt8.toInt32).toInt8.toInt32))] (.int (0 : Int32))
theorem efi1_3 (m : MethodId) (x0 : Addr) (x1 : Addr) : entryFrame m #[(.ref x0), (.ref x1)] 2 = mkF m 0 #[.val (.ref x0), .val (.ref x1)] [] := by first | (simp [entryFrame, mkF, argsToLocals, Value.category]; done) | rfl
theorem rmi1_3 (l : Launch) (Z : State) (a0 : Array Value) (hw : HW a0 Z) (ws : List Jvm.Cond) (a1 : Addr) (a2 : Addr) (k_c : ClassId) (v0 : Int32) (v1 : Int32) (v2 : Int32) (wC : Int32) (h0 : Heap) (n0 : Nat) (Z0 : n0 ≤ h0.size) (E_a1 : Exa Z h0 a1 SN) (F_a1_v : Fld Z h0 a1 SN "value" "[B" .null) (F_a1_c : Fld Z h0 a1 SN "coder" "B" (.int (0 : Int32))) (V_c : Arv Z h0 a2 k_c .char (3 : Int32) [(.int v0), (.int v1), (.int v2)] (.int (0 : Int32))) (SC : Sta Z h0 SN "COMPACT_STRINGS" "Z" (.int wC)) (hv0 : ¬ (255 : Int32) < v0) (hv1 : ¬ (255 : Int32) < v1) (hv2 : ¬ (255 : Int32) < v2) (hcs : ¬ wC = (0 : Int32)) (ne_a1_a2 : a1 ≠ a2) (g_a1 : n0 ≤ a1) :
  MetFree l y_4 (head1 (Cond.code y_4 cB3 2 none :: ws) (Rm 3 1 3 52)) (Pr Z h0 #[(.ref a1), (.ref a2)]) Tr (fun _ U o U' => ∃ v L, o = .returned v ∧ Qi1_3 Z a1 a2 k_c v0 v1 v2 wC h0 n0 v U'.heap L ∧ FrameEnd U o U' L (Rm 3 1 3 52).cells (Rm 3 1 3 52).slots) := by
 refine MetFree.of_bodySF (plainFor_of_name pn1) hisR ?_
 intro p e s m args below meth c s₁ Bd hml0 hP hK
 obtain ⟨rfl, hZ, hh⟩ := hP
 have hx := Bd.exec
 have D := @hb _ _ Bd.bytes
 have hml : c.maxLocals = 2 := hml0
 have hown : s.vm.findClass SN = some m.cls := findClass_of_methodNamed Bd.named
 have hnm := (name_of_methodNamed Bd.named Bd.method).1
 have X0 : Stand p l e (Rm 3 1 3 52) s m #[(.ref a1), (.ref a2)] below meth c s₁ [] 0 0 := Stand.of_body Bd
 have e0 : s₁.heap = h0 := by rw [← hh, Bd.state]; rfl
 have N0 := Fr.nil n0
 have K0 : Keep h0 h0 [a1] := Keep.refl h0 _
 refine G (P := fun o U' => ∃ v L, o = .returned v ∧ Qi1_3 Z a1 a2 k_c v0 v1 v2 wC h0 n0 v U'.heap L ∧ FrameEnd s o U' L (Rm 3 1 3 52).cells (Rm 3 1 3 52).slots) (fun t k => castTop (efi1_3 m a1 a2) k) ?_
 refine sG s₁ (mkF m 0 #[vr a1, vr a2] []) ?_
 refine G (fun t k => XS.aloadN X0.here hx rfl (D d3_0) rfl rfl (XS.aloadN X0.here hx rfl (D d3_1) rfl rfl (XS.iconst X0.here hx rfl (D d3_2) (XS.aloadN X0.here hx rfl (D d3_3) rfl rfl k)))) ?_
 obtain ⟨cl1, Ar1, -, Sz1, Ng1, -, -⟩ := id V_c
 refine G (fun t k => X0.arraylength hx (by rw [e0]; exact Ar1.1) (State.isArrayOf_alike hZ.alike Ar1.2.1) (g := (mkF m 4 #[vr a1, vr a2] [(.ref a2), (.int 0), (.ref a2), (.ref a1)])) rfl rfl (D d3_4) _ k) ?_
 rw [len_of Sz1 Ng1]
 clear Ng1 Sz1 Ar1 cl1
 refine G (fun t k => XS.aconstNull X0.here hx rfl (D d3_5) k) ?_
 obtain ⟨_, _, ⟨T2, L2, k2, n2⟩, -, X2, ⟨Lc2, hQ2, l2, y2, z2⟩, st2⟩ := X0.specialBack hx (y := y_3) rfl hown (mvT hZ (wd14 hw)) (mvT hZ (wd15 hw)) (mvT hZ (wd17 hw)) (by decide) (backOf (W := 0) (rmi4_3 l Z a0 hw [] a1 a2 k_c v0 v1 v2 wC h0 n0 Z0 E_a1 F_a1_v F_a1_c V_c SC hv0 hv1 hv2 hcs ne_a1_a2 g_a1) hZ (wd17 hw) (wd10 hw) (by decide) (by decide)) (g := (mkF m 6 #[vr a1, vr a2] [.null, (.int 3), (.int 0), (.ref a2), (.ref a1)])) rfl (by rw [hml]; rfl) (Steps.refl _) (a := a1) (argsL := [(.ref a2), (.int (0 : Int32)), (.int (3 : Int32)), .null]) (rest := []) (lenOf pd3 rfl) rfl (by show 2 * 0 + _ ≤ _; exact Nat.le_of_eq rfl) (D d3_6) (fun _ _ => ⟨rfl, e0, (by decide : 0 + 1 ≤ _), (by decide : 0 + 3 ≤ _)⟩)
 dsimp only [Pt.U, Pt.locs, Pt.cells, Pt.slots] at X2 l2 y2 z2 st2 hQ2
 subst l2 y2 z2
 have E_a1_pre := E_a1
 have F_a1_value_pre := F_a1_v
 have F_a1_coder_pre := F_a1_c
 obtain ⟨h2, e2⟩ : ∃ z, T2.heap = z := ⟨_, rfl⟩
 rw [e2] at hQ2
 obtain ⟨y2, k_y2, rfl, N2q, K2, ng_y2, sz0_y2, Q2_0, Q2_1, Q2_2, Q2_3⟩ := hQ2
 refine Go.tr st2 ?_
 have ne_a1_y2 : a1 ≠ y2 := Nat.ne_of_lt (Nat.lt_of_lt_of_le E_a1.lt sz0_y2)
 have ne_a2_y2 : a2 ≠ y2 := Nat.ne_of_lt (Nat.lt_of_lt_of_le V_c.lt sz0_y2)
 have g_y2 : n0 ≤ y2 := ng_y2
 have sz_y2 : h0.size ≤ y2 := Nat.le_trans K0.1 sz0_y2
 replace E_a1 := E_a1.keep K2
 replace V_c := V_c.keep K2 (ninS (Ne.symm ne_a1_a2) nin0)
 replace SC := sta_keep SC K2 (allS (exa_ns E_a1_pre) all0)
 replace Z0 := Nat.le_trans Z0 K2.1
 replace K0 := K0.trans K2 (allS (Or.inl (by simp)) all0)
 clear E_a1_pre F_a1_value_pre F_a1_coder_pre
 have E_a1 := Q2_0
 have F_a1_v := Q2_1
 have F_a1_c := Q2_2
 have V_y2 := Q2_3
 have N2 := Fr.app N0 N2q
 refine sG T2 (mkF m 9 #[vr a1, vr a2] []) ?_
 exact lfV (Q := Qi1_3 Z a1 a2 k_c v0 v1 v2 wC h0 n0) Bd X2 e2 (D d3_9) ⟨y2, k_y2, rfl, N2, K0, g_y2, sz_y2, E_a1, F_a1_v, F_a1_c, V_y2⟩ (by decide) (by decide)
def Qc5_4 (Z : State) (a1 : Addr) (a3 : Addr) (k_c : ClassId) (v0 : Int32) (v1 : Int32) (v2 : Int32) (v3 : Int32) (k_b : ClassId) (h0 : Heap) (n0 : Nat) (v : Option Value) (h : Heap) (L : List Loc) : Prop := v = some (.int (4 : Int32)) ∧ Fr n0 L ∧ Keep h0 h [a3] ∧ Arv Z h a3 k_b .byte (4 : Int32) [(.int ((v0.toInt8.toInt32).toInt8.toInt32)), (.int ((v1.toInt8.toInt32).toInt8.toInt32)), (.int ((v2.toInt8.toInt32).toInt8.toInt32)), (.int ((v3.toInt8.toInt32).toInt8.toInt32))] (.int (0 : Int32))
theorem efc5_4 (m : MethodId) (x0 : Addr) (x2 : Addr) : entryFrame m #[(.ref x0), (.int (0 : Int32)), (.ref x2), (.int (0 : Int32)), (.int (4 : Int32))] 7 = mkF m 0 #[.val (.ref x0), .val (.int (0 : Int32)), .val (.ref x2), .val (.int (0 : Int32)), .val (.int (4 : Int32)), .unset, .unset] [] := by first | (simp [entryFrame, mkF, argsToLocals, Value.category]; done) | rfl
theorem rmc5_4 (l : Launch) (Z : State) (a0 : Array Value) (hw : HW a0 Z) (ws : List Jvm.Cond) (a1 : Addr) (a3 : Addr) (k_c : ClassId) (v0 : Int32) (v1 : Int32) (v2 : Int32) (v3 : Int32) (k_b : ClassId) (h0 : Heap) (n0 : Nat) (Z0 : n0 ≤ h0.size) (V_c : Arv Z h0 a1 k_c .char (4 : Int32) [(.int v0), (.int v1), (.int v2), (.int v3)] (.int (0 : Int32))) (V_b : Arv Z h0 a3 k_b .byte (4 : Int32) [(.int (0 : Int32)), (.int (0 : Int32)), (.int (0 : Int32)), (.int (0 : Int32))] (.int (0 : Int32))) (hv0 : ¬ (255 : Int32) < v0) (hv1 : ¬ (255 : Int32) < v1) (hv2 : ¬ (255 : Int32) < v2) (hv3 : ¬ (255 : Int32) < v3) (ne_a1_a3 : a1 ≠ a3) (g_a3 : n0 ≤ a3) :
  MetFree l y_0 (head1 (Cond.code y_0 cB16 7 (some .int) :: ws) (Rm 0 0 0 0)) (Pr Z h0 #[(.ref a1), (.int (0 : Int32)), (.ref a3), (.int (0 : Int32)), (.int (4 : Int32))]) Tr (fun _ U o U' => ∃ v L, o = .returned v ∧ Qc5_4 Z a1 a3 k_c v0 v1 v2 v3 k_b h0 n0 v U'.heap L ∧ FrameEnd U o U' L (Rm 0 0 0 0).cells (Rm 0 0 0 0).slots) := by
 refine MetFree.of_bodySF (plainFor_of_name pn0) hisR ?_
 intro p e s m args below meth c s₁ Bd hml0 hP hK
 obtain ⟨rfl, hZ, hh⟩ := hP
 have hx := Bd.exec
 have D := @hb _ _ Bd.bytes
 have hml : c.maxLocals = 7 := hml0
 have hown : s.vm.findClass U16 = some m.cls := findClass_of_methodNamed Bd.named
 have hnm := (name_of_methodNamed Bd.named Bd.method).1
 have X0 : Stand p l e (Rm 0 0 0 0) s m #[(.ref a1), (.int (0 : Int32)), (.ref a3), (.int (0 : Int32)), (.int (4 : Int32))] below meth c s₁ [] 0 0 := Stand.of_body Bd
 have e0 : s₁.heap = h0 := by rw [← hh, Bd.state]; rfl
 have N0 := Fr.nil n0
 have K0 : Keep h0 h0 [a3] := Keep.refl h0 _
 refine G (P := fun o U' => ∃ v L, o = .returned v ∧ Qc5_4 Z a1 a3 k_c v0 v1 v2 v3 k_b h0 n0 v U'.heap L ∧ FrameEnd s o U' L (Rm 0 0 0 0).cells (Rm 0 0 0 0).slots) (fun t k => castTop (efc5_4 m a1 a3) k) ?_
 refine sG s₁ (mkF m 0 #[vr a1, vi 0, vr a3, vi 0, vi 4, us, us] []) ?_
 refine G (fun t k => XS.iconst X0.here hx rfl (D d16_0) (XS.istore X0.here hx rfl (D d16_1) rfl (l' := #[vr a1, vi 0, vr a3, vi 0, vi 4, vi 0, us]) rfl (XS.iload X0.here hx rfl (D d16_3) rfl (XS.iload X0.here hx rfl (D d16_5) rfl (XS.icmpNo X0.here hx rfl (D d16_7) rfl (tlt (by decide : (0 : Int32) < (4 : Int32))).2.1 (XS.aloadN X0.here hx rfl (D d16_10) rfl rfl k)))))) ?_
 refine G (fun t k => XS.iloadN X0.here hx rfl (D d16_11) rfl k) ?_
 refine sG s₁ (mkF m 12 #[vr a1, vi 0, vr a3, vi 0, vi 4, vi 0, us] [(.int 0), (.ref a1)]) ?_
 obtain ⟨cl1, Ar1, -, Sz1, Ng1, Hs1, -⟩ := id V_c
 have hin1 := inb_of (j := (0 : Int32)) (c := cl1) Sz1 ⟨by decide, by decide⟩
 refine G (fun t k => X0.caload hx (j := (0 : Int32)) (v := (.int v0)) (by rw [e0]; exact Ar1.1) (State.isArrayOf_alike hZ.alike Ar1.2.1) Ar1.2.2 hin1 (Has.at Hs1 hin1 rfl) (g := (mkF m 12 #[vr a1, vi 0, vr a3, vi 0, vi 4, vi 0, us] [(.int 0), (.ref a1)])) rfl rfl (D d16_12) _ k) ?_
 clear hin1 Hs1 Ng1 Sz1 Ar1 cl1
 refine G (fun t k => XS.istore X0.here hx rfl (D d16_13) rfl (l' := #[vr a1, vi 0, vr a3, vi 0, vi 4, vi 0, vi v0]) rfl (XS.iload X0.here hx rfl (D d16_15) rfl (XS.sipush X0.here hx rfl (D d16_17) k))) ?_
 have hf2 : ¬ ((255 : Int32) < v0) := hv0
 refine G (fun t k => XS.icmpYes X0.here hx rfl (pc0 := 20) (pc' := 26) rfl (D d16_20) rfl (flt hf2).2.2.2 (by decide) (by decide) (XS.aloadN X0.here hx rfl (D d16_26) rfl rfl (XS.iloadN X0.here hx rfl (D d16_27) rfl k))) ?_
 refine sG s₁ (mkF m 28 #[vr a1, vi 0, vr a3, vi 0, vi 4, vi 0, vi v0] [(.int 0), (.ref a3)]) ?_
 refine G (fun t k => XS.iload X0.here hx rfl (D d16_28) rfl (XS.i2b X0.here hx rfl (D d16_30) rfl k)) ?_
 obtain ⟨cl3, Ar3, qq3, Sz3, Ng3, Hs3, Gs3⟩ := id V_b
 have hin3 := inb_of (j := (0 : Int32)) (c := cl3) Sz3 ⟨by decide, by decide⟩
 obtain ⟨T4, h4, X4, e4, W4, st4⟩ := stB X0 hx hZ e0 Ar3 (j := (0 : Int32)) hin3 (g := (mkF m 31 #[vr a1, vi 0, vr a3, vi 0, vi 4, vi 0, vi v0] [(.int (v0.toInt8.toInt32)), (.int 0), (.ref a3)])) rfl rfl (D d16_31)
 refine G st4 ?_
 have N4 := Fr.snoc X4 N0 g_a3
 replace V_c := V_c.other W4 ne_a1_a3
 replace Z0 := Nat.le_trans Z0 (Nat.le_of_eq W4.size.symm)
 replace K0 := K0.wr W4 (Or.inl (by simp))
 replace V_b : Arv Z h4 a3 k_b .byte (4 : Int32) [(.int ((v0.toInt8.toInt32).toInt8.toInt32)), (.int (0 : Int32)), (.int (0 : Int32)), (.int (0 : Int32))] (.int (0 : Int32)) := Arv.set Ar3 qq3 Sz3 Ng3 Hs3 Gs3 (fits_nar_byte _) W4 0 rfl (Nat.le_of_ble_eq_true rfl)
 clear hin3 Gs3 Hs3 Ng3 Sz3 qq3 Ar3 cl3
 refine G (fun t k => XS.iinc X4.here hx rfl (D d16_32) rfl (l' := #[vr a1, vi ((0 : Int32) + (1 : Int32)), vr a3, vi 0, vi 4, vi 0, vi v0]) rfl (XS.iinc X4.here hx rfl (D d16_35) rfl (l' := #[vr a1, vi 1, vr a3, vi ((0 : Int32) + (1 : Int32)), vi 4, vi 0, vi v0]) rfl (XS.iinc X4.here hx rfl (D d16_38) rfl (l' := #[vr a1, vi 1, vr a3, vi 1, vi 4, vi ((0 : Int32) + (1 : Int32)), vi v0]) rfl (XS.goto X4.here hx rfl (pc0 := 41) (pc' := 3) rfl (D d16_41) (by decide) (by decide) k)))) ?_
 refine sG T4 (mkF m 3 #[vr a1, vi 1, vr a3, vi 1, vi 4, vi 1, vi v0] []) ?_
 refine G (fun t k => XS.iload X4.here hx rfl (D d16_3) rfl (XS.iload X4.here hx rfl (D d16_5) rfl (XS.icmpNo X4.here hx rfl (D d16_7) rfl (tlt (by decide : (1 : Int32) < (4 : Int32))).2.1 (XS.aloadN X4.here hx rfl (D d16_10) rfl rfl (XS.iloadN X4.here hx rfl (D d16_11) rfl k))))) ?_
 obtain ⟨cl5, Ar5, -, Sz5, Ng5, Hs5, -⟩ := id V_c
 have hin5 := inb_of (j := (1 : Int32)) (c := cl5) Sz5 ⟨by decide, by decide⟩
 refine G (fun t k => X4.caload hx (j := (1 : Int32)) (v := (.int v1)) (by rw [e4]; exact Ar5.1) (State.isArrayOf_alike hZ.alike Ar5.2.1) Ar5.2.2 hin5 (Has.at Hs5 hin5 rfl) (g := (mkF m 12 #[vr a1, vi 1, vr a3, vi 1, vi 4, vi 1, vi v0] [(.int 1), (.ref a1)])) rfl rfl (D d16_12) _ k) ?_
 clear hin5 Hs5 Ng5 Sz5 Ar5 cl5
 refine G (fun t k => XS.istore X4.here hx rfl (D d16_13) rfl (l' := #[vr a1, vi 1, vr a3, vi 1, vi 4, vi 1, vi v1]) rfl k) ?_
 refine sG T4 (mkF m 15 #[vr a1, vi 1, vr a3, vi 1, vi 4, vi 1, vi v1] []) ?_
 refine G (fun t k => XS.iload X4.here hx rfl (D d16_15) rfl (XS.sipush X4.here hx rfl (D d16_17) k)) ?_
 have hf6 : ¬ ((255 : Int32) < v1) := hv1
 refine G (fun t k => XS.icmpYes X4.here hx rfl (pc0 := 20) (pc' := 26) rfl (D d16_20) rfl (flt hf6).2.2.2 (by decide) (by decide) (XS.aloadN X4.here hx rfl (D d16_26) rfl rfl (XS.iloadN X4.here hx rfl (D d16_27) rfl (XS.iload X4.here hx rfl (D d16_28) rfl (XS.i2b X4.here hx rfl (D d16_30) rfl k))))) ?_
 refine sG T4 (mkF m 31 #[vr a1, vi 1, vr a3, vi 1, vi 4, vi 1, vi v1] [(.int (v1.toInt8.toInt32)), (.int 1), (.ref a3)]) ?_
 obtain ⟨cl7, Ar7, qq7, Sz7, Ng7, Hs7, Gs7⟩ := id V_b
 have hin7 := inb_of (j := (1 : Int32)) (c := cl7) Sz7 ⟨by decide, by decide⟩
 obtain ⟨T8, h8, X8, e8, W8, st8⟩ := stB X4 hx hZ e4 Ar7 (j := (1 : Int32)) hin7 (g := (mkF m 31 #[vr a1, vi 1, vr a3, vi 1, vi 4, vi 1, vi v1] [(.int (v1.toInt8.toInt32)), (.int 1), (.ref a3)])) rfl rfl (D d16_31)
 refine G st8 ?_
 have N8 := Fr.snoc X8 N4 g_a3
 replace V_c := V_c.other W8 ne_a1_a3
 replace Z0 := Nat.le_trans Z0 (Nat.le_of_eq W8.size.symm)
 replace K0 := K0.wr W8 (Or.inl (by simp))
 replace V_b : Arv Z h8 a3 k_b .byte (4 : Int32) [(.int ((v0.toInt8.toInt32).toInt8.toInt32)), (.int ((v1.toInt8.toInt32).toInt8.toInt32)), (.int (0 : Int32)), (.int (0 : Int32))] (.int (0 : Int32)) := Arv.set Ar7 qq7 Sz7 Ng7 Hs7 Gs7 (fits_nar_byte _) W8 1 rfl (Nat.le_of_ble_eq_true rfl)
 clear hin7 Gs7 Hs7 Ng7 Sz7 qq7 Ar7 cl7
 refine G (fun t k => XS.iinc X8.here hx rfl (D d16_32) rfl (l' := #[vr a1, vi ((1 : Int32) + (1 : Int32)), vr a3, vi 1, vi 4, vi 1, vi v1]) rfl (XS.iinc X8.here hx rfl (D d16_35) rfl (l' := #[vr a1, vi 2, vr a3, vi ((1 : Int32) + (1 : Int32)), vi 4, vi 1, vi v1]) rfl (XS.iinc X8.here hx rfl (D d16_38) rfl (l' := #[vr a1, vi 2, vr a3, vi 2, vi 4, vi ((1 : Int32) + (1 : Int32)), vi v1]) rfl (XS.goto X8.here hx rfl (pc0 := 41) (pc' := 3) rfl (D d16_41) (by decide) (by decide) (XS.iload X8.here hx rfl (D d16_3) rfl (XS.iload X8.here hx rfl (D d16_5) rfl k)))))) ?_
 refine sG T8 (mkF m 7 #[vr a1, vi 2, vr a3, vi 2, vi 4, vi 2, vi v1] [(.int 4), (.int 2)]) ?_
 refine G (fun t k => XS.icmpNo X8.here hx rfl (D d16_7) rfl (tlt (by decide : (2 : Int32) < (4 : Int32))).2.1 (XS.aloadN X8.here hx rfl (D d16_10) rfl rfl (XS.iloadN X8.here hx rfl (D d16_11) rfl k))) ?_
 obtain ⟨cl9, Ar9, -, Sz9, Ng9, Hs9, -⟩ := id V_c
 have hin9 := inb_of (j := (2 : Int32)) (c := cl9) Sz9 ⟨by decide, by decide⟩
 refine G (fun t k => X8.caload hx (j := (2 : Int32)) (v := (.int v2)) (by rw [e8]; exact Ar9.1) (State.isArrayOf_alike hZ.alike Ar9.2.1) Ar9.2.2 hin9 (Has.at Hs9 hin9 rfl) (g := (mkF m 12 #[vr a1, vi 2, vr a3, vi 2, vi 4, vi 2, vi v1] [(.int 2), (.ref a1)])) rfl rfl (D d16_12) _ k) ?_
 clear hin9 Hs9 Ng9 Sz9 Ar9 cl9
 refine G (fun t k => XS.istore X8.here hx rfl (D d16_13) rfl (l' := #[vr a1, vi 2, vr a3, vi 2, vi 4, vi 2, vi v2]) rfl (XS.iload X8.here hx rfl (D d16_15) rfl (XS.sipush X8.here hx rfl (D d16_17) k))) ?_
 refine sG T8 (mkF m 20 #[vr a1, vi 2, vr a3, vi 2, vi 4, vi 2, vi v2] [(.int 255), (.int v2)]) ?_
 have hf10 : ¬ ((255 : Int32) < v2) := hv2
 refine G (fun t k => XS.icmpYes X8.here hx rfl (pc0 := 20) (pc' := 26) rfl (D d16_20) rfl (flt hf10).2.2.2 (by decide) (by decide) (XS.aloadN X8.here hx rfl (D d16_26) rfl rfl (XS.iloadN X8.here hx rfl (D d16_27) rfl (XS.iload X8.here hx rfl (D d16_28) rfl (XS.i2b X8.here hx rfl (D d16_30) rfl k))))) ?_
 obtain ⟨cl11, Ar11, qq11, Sz11, Ng11, Hs11, Gs11⟩ := id V_b
 have hin11 := inb_of (j := (2 : Int32)) (c := cl11) Sz11 ⟨by decide, by decide⟩
 obtain ⟨T12, h12, X12, e12, W12, st12⟩ := stB X8 hx hZ e8 Ar11 (j := (2 : Int32)) hin11 (g := (mkF m 31 #[vr a1, vi 2, vr a3, vi 2, vi 4, vi 2, vi v2] [(.int (v2.toInt8.toInt32)), (.int 2), (.ref a3)])) rfl rfl (D d16_31)
 refine G st12 ?_
 have N12 := Fr.snoc X12 N8 g_a3
 replace V_c := V_c.other W12 ne_a1_a3
 replace Z0 := Nat.le_trans Z0 (Nat.le_of_eq W12.size.symm)
 replace K0 := K0.wr W12 (Or.inl (by simp))
 replace V_b : Arv Z h12 a3 k_b .byte (4 : Int32) [(.int ((v0.toInt8.toInt32).toInt8.toInt32)), (.int ((v1.toInt8.toInt32).toInt8.toInt32)), (.int ((v2.toInt8.toInt32).toInt8.toInt32)), (.int (0 : Int32))] (.int (0 : Int32)) := Arv.set Ar11 qq11 Sz11 Ng11 Hs11 Gs11 (fits_nar_byte _) W12 2 rfl (Nat.le_of_ble_eq_true rfl)
 clear hin11 Gs11 Hs11 Ng11 Sz11 qq11 Ar11 cl11
 refine G (fun t k => XS.iinc X12.here hx rfl (D d16_32) rfl (l' := #[vr a1, vi ((2 : Int32) + (1 : Int32)), vr a3, vi 2, vi 4, vi 2, vi v2]) rfl k) ?_
 refine sG T12 (mkF m 35 #[vr a1, vi 3, vr a3, vi 2, vi 4, vi 2, vi v2] []) ?_
 refine G (fun t k => XS.iinc X12.here hx rfl (D d16_35) rfl (l' := #[vr a1, vi 3, vr a3, vi ((2 : Int32) + (1 : Int32)), vi 4, vi 2, vi v2]) rfl (XS.iinc X12.here hx rfl (D d16_38) rfl (l' := #[vr a1, vi 3, vr a3, vi 3, vi 4, vi ((2 : Int32) + (1 : Int32)), vi v2]) rfl (XS.goto X12.here hx rfl (pc0 := 41) (pc' := 3) rfl (D d16_41) (by decide) (by decide) (XS.iload X12.here hx rfl (D d16_3) rfl (XS.iload X12.here hx rfl (D d16_5) rfl (XS.icmpNo X12.here hx rfl (D d16_7) rfl (tlt (by decide : (3 : Int32) < (4 : Int32))).2.1 k)))))) ?_
 refine G (fun t k => XS.aloadN X12.here hx rfl (D d16_10) rfl rfl k) ?_
 refine sG T12 (mkF m 11 #[vr a1, vi 3, vr a3, vi 3, vi 4, vi 3, vi v2] [(.ref a1)]) ?_
 refine G (fun t k => XS.iloadN X12.here hx rfl (D d16_11) rfl k) ?_
 obtain ⟨cl13, Ar13, -, Sz13, Ng13, Hs13, -⟩ := id V_c
 have hin13 := inb_of (j := (3 : Int32)) (c := cl13) Sz13 ⟨by decide, by decide⟩
 refine G (fun t k => X12.caload hx (j := (3 : Int32)) (v := (.int v3)) (by rw [e12]; exact Ar13.1) (State.isArrayOf_alike hZ.alike Ar13.2.1) Ar13.2.2 hin13 (Has.at Hs13 hin13 rfl) (g := (mkF m 12 #[vr a1, vi 3, vr a3, vi 3, vi 4, vi 3, vi v2] [(.int 3), (.ref a1)])) rfl rfl (D d16_12) _ k) ?_
 clear hin13 Hs13 Ng13 Sz13 Ar13 cl13
 refine G (fun t k => XS.istore X12.here hx rfl (D d16_13) rfl (l' := #[vr a1, vi 3, vr a3, vi 3, vi 4, vi 3, vi v3]) rfl (XS.iload X12.here hx rfl (D d16_15) rfl (XS.sipush X12.here hx rfl (D d16_17) k))) ?_
 have hf14 : ¬ ((255 : Int32) < v3) := hv3
 refine G (fun t k => XS.icmpYes X12.here hx rfl (pc0 := 20) (pc' := 26) rfl (D d16_20) rfl (flt hf14).2.2.2 (by decide) (by decide) (XS.aloadN X12.here hx rfl (D d16_26) rfl rfl k)) ?_
 refine sG T12 (mkF m 27 #[vr a1, vi 3, vr a3, vi 3, vi 4, vi 3, vi v3] [(.ref a3)]) ?_
 refine G (fun t k => XS.iloadN X12.here hx rfl (D d16_27) rfl (XS.iload X12.here hx rfl (D d16_28) rfl (XS.i2b X12.here hx rfl (D d16_30) rfl k))) ?_
 obtain ⟨cl15, Ar15, qq15, Sz15, Ng15, Hs15, Gs15⟩ := id V_b
 have hin15 := inb_of (j := (3 : Int32)) (c := cl15) Sz15 ⟨by decide, by decide⟩
 obtain ⟨T16, h16, X16, e16, W16, st16⟩ := stB X12 hx hZ e12 Ar15 (j := (3 : Int32)) hin15 (g := (mkF m 31 #[vr a1, vi 3, vr a3, vi 3, vi 4, vi 3, vi v3] [(.int (v3.toInt8.toInt32)), (.int 3), (.ref a3)])) rfl rfl (D d16_31)
 refine G st16 ?_
 have N16 := Fr.snoc X16 N12 g_a3
 obtain ⟨LL16, X16, N16⟩ : ∃ LL, Stand p l e (Rm 0 0 0 0) s m #[(.ref a1), (.int (0 : Int32)), (.ref a3), (.int (0 : Int32)), (.int (4 : Int32))] below meth c T16 LL 0 0 ∧ Fr n0 LL := ⟨_, X16, N16⟩
 replace V_c := V_c.other W16 ne_a1_a3
 replace Z0 := Nat.le_trans Z0 (Nat.le_of_eq W16.size.symm)
 replace K0 := K0.wr W16 (Or.inl (by simp))
 replace V_b : Arv Z h16 a3 k_b .byte (4 : Int32) [(.int ((v0.toInt8.toInt32).toInt8.toInt32)), (.int ((v1.toInt8.toInt32).toInt8.toInt32)), (.int ((v2.toInt8.toInt32).toInt8.toInt32)), (.int ((v3.toInt8.toInt32).toInt8.toInt32))] (.int (0 : Int32)) := Arv.set Ar15 qq15 Sz15 Ng15 Hs15 Gs15 (fits_nar_byte _) W16 3 rfl (Nat.le_of_ble_eq_true rfl)
 clear hin15 Gs15 Hs15 Ng15 Sz15 qq15 Ar15 cl15
 refine G (fun t k => XS.iinc X16.here hx rfl (D d16_32) rfl (l' := #[vr a1, vi ((3 : Int32) + (1 : Int32)), vr a3, vi 3, vi 4, vi 3, vi v3]) rfl (XS.iinc X16.here hx rfl (D d16_35) rfl (l' := #[vr a1, vi 4, vr a3, vi ((3 : Int32) + (1 : Int32)), vi 4, vi 3, vi v3]) rfl (XS.iinc X16.here hx rfl (D d16_38) rfl (l' := #[vr a1, vi 4, vr a3, vi 4, vi 4, vi ((3 : Int32) + (1 : Int32)), vi v3]) rfl k))) ?_
 refine sG T16 (mkF m 41 #[vr a1, vi 4, vr a3, vi 4, vi 4, vi 4, vi v3] []) ?_
 refine G (fun t k => XS.goto X16.here hx rfl (pc0 := 41) (pc' := 3) rfl (D d16_41) (by decide) (by decide) (XS.iload X16.here hx rfl (D d16_3) rfl (XS.iload X16.here hx rfl (D d16_5) rfl (XS.icmpYes X16.here hx rfl (pc0 := 7) (pc' := 44) rfl (D d16_7) rfl (flt (by decide : ¬ ((4 : Int32) < (4 : Int32)))).2.1 (by decide) (by decide) (XS.iload X16.here hx rfl (D d16_44) rfl k))))) ?_
 exact lfI (Q := Qc5_4 Z a1 a3 k_c v0 v1 v2 v3 k_b h0 n0) Bd X16 e16 (D d16_46) (w := (4 : Int32)) ⟨rfl, N16, K0, V_b⟩ (by decide) (by decide)
def Qc3_4 (Z : State) (a1 : Addr) (k_c : ClassId) (v0 : Int32) (v1 : Int32) (v2 : Int32) (v3 : Int32) (h0 : Heap) (n0 : Nat) (v : Option Value) (h : Heap) (L : List Loc) : Prop := ∃ xc3_4_0 : Addr, ∃ k_xc3_4_0 : ClassId, v = some (.ref xc3_4_0) ∧ Fr n0 L ∧ Keep h0 h [] ∧ n0 ≤ xc3_4_0 ∧ h0.size ≤ xc3_4_0 ∧ Arv Z h xc3_4_0 k_xc3_4_0 .byte (4 : Int32) [(.int ((v0.toInt8.toInt32).toInt8.toInt32)), (.int ((v1.toInt8.toInt32).toInt8.toInt32)), (.int ((v2.toInt8.toInt32).toInt8.toInt32)), (.int ((v3.toInt8.toInt32).toInt8.toInt32))] (.int (0 : Int32))
theorem efc3_4 (m : MethodId) (x0 : Addr) : entryFrame m #[(.ref x0), (.int (0 : Int32)), (.int (4 : Int32))] 6 = mkF m 0 #[.val (.ref x0), .val (.int (0 : Int32)), .val (.int (4 : Int32)), .unset, .unset, .unset] [] := by first | (simp [entryFrame, mkF, argsToLocals, Value.category]; done) | rfl
theorem rmc3_4 (l : Launch) (Z : State) (a0 : Array Value) (hw : HW a0 Z) (ws : List Jvm.Cond) (a1 : Addr) (k_c : ClassId) (v0 : Int32) (v1 : Int32) (v2 : Int32) (v3 : Int32) (h0 : Heap) (n0 : Nat) (Z0 : n0 ≤ h0.size) (V_c : Arv Z h0 a1 k_c .char (4 : Int32) [(.int v0), (.int v1), (.int v2), (.int v3)] (.int (0 : Int32))) (hv0 : ¬ (255 : Int32) < v0) (hv1 : ¬ (255 : Int32) < v1) (hv2 : ¬ (255 : Int32) < v2) (hv3 : ¬ (255 : Int32) < v3) :
  MetFree l y_1 (head1 (Cond.code y_1 cB15 6 (some (.array .byte)) :: ws) (Rm 1 1 4 18)) (Pr Z h0 #[(.ref a1), (.int (0 : Int32)), (.int (4 : Int32))]) Tr (fun _ U o U' => ∃ v L, o = .returned v ∧ Qc3_4 Z a1 k_c v0 v1 v2 v3 h0 n0 v U'.heap L ∧ FrameEnd U o U' L (Rm 1 1 4 18).cells (Rm 1 1 4 18).slots) := by
 refine MetFree.of_bodySF (plainFor_of_name pn0) hisR ?_
 intro p e s m args below meth c s₁ Bd hml0 hP hK
 obtain ⟨rfl, hZ, hh⟩ := hP
 have hx := Bd.exec
 have D := @hb _ _ Bd.bytes
 have hml : c.maxLocals = 6 := hml0
 have hown : s.vm.findClass U16 = some m.cls := findClass_of_methodNamed Bd.named
 have hnm := (name_of_methodNamed Bd.named Bd.method).1
 have X0 : Stand p l e (Rm 1 1 4 18) s m #[(.ref a1), (.int (0 : Int32)), (.int (4 : Int32))] below meth c s₁ [] 0 0 := Stand.of_body Bd
 have e0 : s₁.heap = h0 := by rw [← hh, Bd.state]; rfl
 have N0 := Fr.nil n0
 have K0 : Keep h0 h0 [] := Keep.refl h0 _
 refine G (P := fun o U' => ∃ v L, o = .returned v ∧ Qc3_4 Z a1 k_c v0 v1 v2 v3 h0 n0 v U'.heap L ∧ FrameEnd s o U' L (Rm 1 1 4 18).cells (Rm 1 1 4 18).slots) (fun t k => castTop (efc3_4 m a1) k) ?_
 refine sG s₁ (mkF m 0 #[vr a1, vi 0, vi 4, us, us, us] []) ?_
 refine G (fun t k => XS.iloadN X0.here hx rfl (D d15_0) rfl k) ?_
 obtain ⟨T1, h1, k1, X1, e1, E1, A1, st1⟩ := newP X0 hx hZ (aty := .byte) (wd22 hw) e0 (g := (mkF m 1 #[vr a1, vi 0, vi 4, us, us, us] [(.int 4)])) rfl (D d15_1) rfl (by decide) (cap := 4) (by decide) (by decide) (by decide) (by decide)
 obtain ⟨b1, g1⟩ : ∃ z, z = h0.size := ⟨_, rfl⟩
 rw [← g1] at A1 st1
 refine G st1 ?_
 have ne_a1_b1 : a1 ≠ b1 := Nat.ne_of_lt (Nat.lt_of_lt_of_le V_c.lt (Nat.le_of_eq g1.symm))
 have g_b1 : n0 ≤ b1 := Nat.le_trans Z0 (Nat.le_of_eq g1.symm)
 have sz_b1 : h0.size ≤ b1 := Nat.le_trans K0.1 (Nat.le_of_eq g1.symm)
 replace V_c := V_c.ext E1
 replace K0 := K0.ext E1
 replace Z0 := Nat.le_trans Z0 E1.1
 have V_b1 : Arv Z h1 b1 k1 .byte (4 : Int32) [(.int (0 : Int32)), (.int (0 : Int32)), (.int (0 : Int32)), (.int (0 : Int32))] (.int (0 : Int32)) := (Arv.new A1 (by decide)).pad (pad_rep [] (.int (0 : Int32)) 4)
 refine G (fun t k => XS.astoreN X1.here hx rfl (D d15_3) rfl rfl (l' := #[vr a1, vi 0, vi 4, vr b1, us, us]) rfl (XS.aloadN X1.here hx rfl (D d15_4) rfl rfl (XS.iloadN X1.here hx rfl (D d15_5) rfl (XS.aloadN X1.here hx rfl (D d15_6) rfl rfl (XS.iconst X1.here hx rfl (D d15_7) k))))) ?_
 refine sG T1 (mkF m 8 #[vr a1, vi 0, vi 4, vr b1, us, us] [(.int 0), (.ref b1), (.int 0), (.ref a1)]) ?_
 refine G (fun t k => XS.iloadN X1.here hx rfl (D d15_8) rfl k) ?_
 obtain ⟨_, T2, Lc2, X2, hQ2, st2⟩ := cS X1 hx hZ hown hml (wd79 hw) (wd80 hw) (wd77 hw) (wd81 hw) e1 0 [] (rmc5_4 l Z a0 hw [] a1 b1 k_c v0 v1 v2 v3 k1 h1 n0 Z0 V_c V_b1 hv0 hv1 hv2 hv3 ne_a1_b1 g_b1) pd0 (mkF m 9 #[vr a1, vi 0, vi 4, vr b1, us, us] [(.int 4), (.int 0), (.ref b1), (.int 0), (.ref a1)]) (D d15_9)
 refine G st2 ?_
 have V_b1_pre := V_b1
 obtain ⟨h2, e2⟩ : ∃ z, T2.heap = z := ⟨_, rfl⟩
 rw [e2] at hQ2
 obtain ⟨rfl, N2q, K2, Q2_0⟩ := hQ2
 replace V_c := V_c.keep K2 (ninS ne_a1_b1 nin0)
 replace Z0 := Nat.le_trans Z0 K2.1
 replace K0 := K0.trans K2 (allS (Or.inr sz_b1) all0)
 clear V_b1_pre
 have V_b1 := Q2_0
 have N2 := Fr.app N0 N2q
 refine G (fun t k => XS.istore X2.here hx rfl (D d15_12) rfl (l' := #[vr a1, vi 0, vi 4, vr b1, vi 4, us]) rfl (XS.iload X2.here hx rfl (D d15_14) rfl (XS.iloadN X2.here hx rfl (D d15_16) rfl (XS.icmpYes X2.here hx rfl (pc0 := 17) (pc' := 57) rfl (D d15_17) rfl (teq (by decide : (4 : Int32) = (4 : Int32))).1 (by decide) (by decide) (XS.aloadN X2.here hx rfl (D d15_57) rfl rfl k))))) ?_
 refine sG T2 (mkF m 58 #[vr a1, vi 0, vi 4, vr b1, vi 4, us] [(.ref b1)]) ?_
 exact lfR (Q := Qc3_4 Z a1 k_c v0 v1 v2 v3 h0 n0) Bd X2 e2 (D d15_58) rfl rfl rfl ⟨b1, k1, rfl, N2, K0, g_b1, sz_b1, V_b1⟩ (by decide) (by decide)
def Qcl_4 (Z : State) (a1 : Addr) (k_b : ClassId) (v0 : Int32) (v1 : Int32) (v2 : Int32) (v3 : Int32) (h0 : Heap) (n0 : Nat) (v : Option Value) (h : Heap) (L : List Loc) : Prop := v = some (.int (0 : Int32)) ∧ Fr n0 L ∧ h = h0
theorem efcl_4 (m : MethodId) (x0 : Addr) : entryFrame m #[(.ref x0), (.int (4 : Int32))] 2 = mkF m 0 #[.val (.ref x0), .val (.int (4 : Int32))] [] := by first | (simp [entryFrame, mkF, argsToLocals, Value.category]; done) | rfl
theorem rmcl_4 (l : Launch) (Z : State) (a0 : Array Value) (hw : HW a0 Z) (ws : List Jvm.Cond) (a1 : Addr) (k_b : ClassId) (v0 : Int32) (v1 : Int32) (v2 : Int32) (v3 : Int32) (h0 : Heap) (n0 : Nat) (Z0 : n0 ≤ h0.size) (V_b : Arv Z h0 a1 k_b .byte (4 : Int32) [(.int v0), (.int v1), (.int v2), (.int v3)] (.int (0 : Int32))) :
  MetFree l y_2 (head1 (Cond.code y_2 cB17 2 (some .byte) :: ws) (Rm 0 0 0 0)) (Pr Z h0 #[(.ref a1), (.int (4 : Int32))]) Tr (fun _ U o U' => ∃ v L, o = .returned v ∧ Qcl_4 Z a1 k_b v0 v1 v2 v3 h0 n0 v U'.heap L ∧ FrameEnd U o U' L (Rm 0 0 0 0).cells (Rm 0 0 0 0).slots) := by
 refine MetFree.of_bodySF (plainFor_of_name pn0) hisR ?_
 intro p e s m args below meth c s₁ Bd hml0 hP hK
 obtain ⟨rfl, hZ, hh⟩ := hP
 have hx := Bd.exec
 have D := @hb _ _ Bd.bytes
 have hml : c.maxLocals = 2 := hml0
 have hown : s.vm.findClass U16 = some m.cls := findClass_of_methodNamed Bd.named
 have hnm := (name_of_methodNamed Bd.named Bd.method).1
 have X0 : Stand p l e (Rm 0 0 0 0) s m #[(.ref a1), (.int (4 : Int32))] below meth c s₁ [] 0 0 := Stand.of_body Bd
 have e0 : s₁.heap = h0 := by rw [← hh, Bd.state]; rfl
 have N0 := Fr.nil n0
 have K0 : Keep h0 h0 [] := Keep.refl h0 _
 refine G (P := fun o U' => ∃ v L, o = .returned v ∧ Qcl_4 Z a1 k_b v0 v1 v2 v3 h0 n0 v U'.heap L ∧ FrameEnd s o U' L (Rm 0 0 0 0).cells (Rm 0 0 0 0).slots) (fun t k => castTop (efcl_4 m a1) k) ?_
 refine sG s₁ (mkF m 0 #[vr a1, vi 4] []) ?_
 refine G (fun t k => XS.iloadN X0.here hx rfl (D d17_0) rfl (XS.aloadN X0.here hx rfl (D d17_1) rfl rfl k)) ?_
 obtain ⟨cl1, Ar1, -, Sz1, Ng1, -, -⟩ := id V_b
 refine G (fun t k => X0.arraylength hx (by rw [e0]; exact Ar1.1) (State.isArrayOf_alike hZ.alike Ar1.2.1) (g := (mkF m 2 #[vr a1, vi 4] [(.ref a1), (.int 4)])) rfl rfl (D d17_2) _ k) ?_
 rw [len_of Sz1 Ng1]
 clear Ng1 Sz1 Ar1 cl1
 refine G (fun t k => XS.isub X0.here hx rfl (D d17_3) rfl (XS.bipush X0.here hx rfl (D d17_4) (XS.iushr X0.here hx rfl (D d17_6) rfl k))) ?_
 refine sG s₁ (mkF m 7 #[vr a1, vi 4] [(.int (((0 : Int32).toUInt32 >>> ((31 : Int32) &&& 31).toUInt32).toInt32))]) ?_
 refine Go.fr (g' := (mkF m 7 #[vr a1, vi 4] [(.int 0)])) (by rw [show (((0 : Int32).toUInt32 >>> ((31 : Int32) &&& 31).toUInt32).toInt32) = (0 : Int32) from by decide]) ?_
 refine G (fun t k => XS.i2b X0.here hx rfl (D d17_7) rfl k) ?_
 exact lfN (Q := Qcl_4 Z a1 k_b v0 v1 v2 v3 h0 n0) Bd X0 e0 (D d17_8) (by simp) (w := (0 : Int32)) rfl ⟨rfl, N0, rfl⟩ (by decide) (by decide)
def Qi4_4 (Z : State) (a1 : Addr) (a2 : Addr) (k_c : ClassId) (v0 : Int32) (v1 : Int32) (v2 : Int32) (v3 : Int32) (wC : Int32) (h0 : Heap) (n0 : Nat) (v : Option Value) (h : Heap) (L : List Loc) : Prop := ∃ xi4_4_0 : Addr, ∃ k_xi4_4_0 : ClassId, v = none ∧ Fr n0 L ∧ Keep h0 h [a1] ∧ n0 ≤ xi4_4_0 ∧ h0.size ≤ xi4_4_0 ∧ Exa Z h a1 SN ∧ Fld Z h a1 SN "value" "[B" (.ref xi4_4_0) ∧ Fld Z h a1 SN "coder" "B" (.int (0 : Int32)) ∧ Arv Z h xi4_4_0 k_xi4_4_0 .byte (4 : Int32) [(.int ((v0.toInt8.toInt32).toInt8.toInt32)), (.int ((v1.toInt8.toInt32).toInt8.toInt32)), (.int ((v2.toInt8.toInt32).toInt8.toInt32)), (.int ((v3.toInt8.toInt32).toInt8.toInt32))] (.int (0 : Int32))
theorem efi4_4 (m : MethodId) (x0 : Addr) (x1 : Addr) : entryFrame m #[(.ref x0), (.ref x1), (.int (0 : Int32)), (.int (4 : Int32)), .null] 6 = mkF m 0 #[.val (.ref x0), .val (.ref x1), .val (.int (0 : Int32)), .val (.int (4 : Int32)), .val .null, .unset] [] := by first | (simp [entryFrame, mkF, argsToLocals, Value.category]; done) | rfl
theorem rmi4_4 (l : Launch) (Z : State) (a0 : Array Value) (hw : HW a0 Z) (ws : List Jvm.Cond) (a1 : Addr) (a2 : Addr) (k_c : ClassId) (v0 : Int32) (v1 : Int32) (v2 : Int32) (v3 : Int32) (wC : Int32) (h0 : Heap) (n0 : Nat) (Z0 : n0 ≤ h0.size) (E_a1 : Exa Z h0 a1 SN) (F_a1_v : Fld Z h0 a1 SN "value" "[B" .null) (F_a1_c : Fld Z h0 a1 SN "coder" "B" (.int (0 : Int32))) (V_c : Arv Z h0 a2 k_c .char (4 : Int32) [(.int v0), (.int v1), (.int v2), (.int v3)] (.int (0 : Int32))) (SC : Sta Z h0 SN "COMPACT_STRINGS" "Z" (.int wC)) (hv0 : ¬ (255 : Int32) < v0) (hv1 : ¬ (255 : Int32) < v1) (hv2 : ¬ (255 : Int32) < v2) (hv3 : ¬ (255 : Int32) < v3) (hcs : ¬ wC = (0 : Int32)) (ne_a1_a2 : a1 ≠ a2) (g_a1 : n0 ≤ a1) :
  MetFree l y_3 (head1 (Cond.code y_3 cB4 6 none :: ws) (Rm 2 1 4 35)) (Pr Z h0 #[(.ref a1), (.ref a2), (.int (0 : Int32)), (.int (4 : Int32)), .null]) Tr (fun _ U o U' => ∃ v L, o = .returned v ∧ Qi4_4 Z a1 a2 k_c v0 v1 v2 v3 wC h0 n0 v U'.heap L ∧ FrameEnd U o U' L (Rm 2 1 4 35).cells (Rm 2 1 4 35).slots) := by
 refine MetFree.of_bodySF (plainFor_of_name pn1) hisR ?_
 intro p e s m args below meth c s₁ Bd hml0 hP hK
 obtain ⟨rfl, hZ, hh⟩ := hP
 have hx := Bd.exec
 have D := @hb _ _ Bd.bytes
 have hml : c.maxLocals = 6 := hml0
 have hown : s.vm.findClass SN = some m.cls := findClass_of_methodNamed Bd.named
 have hnm := (name_of_methodNamed Bd.named Bd.method).1
 have X0 : Stand p l e (Rm 2 1 4 35) s m #[(.ref a1), (.ref a2), (.int (0 : Int32)), (.int (4 : Int32)), .null] below meth c s₁ [] 0 0 := Stand.of_body Bd
 have e0 : s₁.heap = h0 := by rw [← hh, Bd.state]; rfl
 have N0 := Fr.nil n0
 have K0 : Keep h0 h0 [a1] := Keep.refl h0 _
 refine G (P := fun o U' => ∃ v L, o = .returned v ∧ Qi4_4 Z a1 a2 k_c v0 v1 v2 v3 wC h0 n0 v U'.heap L ∧ FrameEnd s o U' L (Rm 2 1 4 35).cells (Rm 2 1 4 35).slots) (fun t k => castTop (efi4_4 m a1 a2) k) ?_
 refine sG s₁ (mkF m 0 #[vr a1, vr a2, vi 0, vi 4, .val .null, us] []) ?_
 refine G (fun t k => XS.aloadN X0.here hx rfl (D d4_0) rfl rfl k) ?_
 obtain ⟨T1, X1, e1, st1⟩ := initO X0 hx hZ hown (wd18 hw) (wd19 hw) (wd20 hw) e0 (g := (mkF m 1 #[vr a1, vr a2, vi 0, vi 4, .val .null, us] [(.ref a1)])) rfl (by rw [hml]; rfl) rfl (D d4_1) (by decide) (W := 0) (by show 2 * 0 + _ ≤ _; exact Nat.le_of_eq rfl) (by decide)
 refine G st1 ?_
 refine G (fun t k => XS.iloadN X1.here hx rfl (D d4_4) rfl (XS.ifYes X1.here hx rfl (pc0 := 5) (pc' := 27) rfl (D d4_5) rfl ((if0 _ _).trans (feq (by decide : ¬ ((4 : Int32) = (0 : Int32)))).2) (by decide) (by decide) k)) ?_
 obtain ⟨T2, X2, e2, st2⟩ := getS2 X1 hx hZ hown (host := "") (Or.inl (wd54 hw)) Via.refl e1 SC (g := (mkF m 27 #[vr a1, vr a2, vi 0, vi 4, .val .null, us] [])) rfl (D d4_27)
 refine G st2 ?_
 have hf3 : ¬ (wC = (0 : Int32)) := hcs
 refine G (fun t k => XS.ifNo X2.here hx rfl (D d4_30) rfl ((if0 _ _).trans (feq hf3).1) (XS.aloadN X2.here hx rfl (D d4_33) rfl rfl k)) ?_
 refine sG T2 (mkF m 34 #[vr a1, vr a2, vi 0, vi 4, .val .null, us] [(.ref a2)]) ?_
 refine G (fun t k => XS.iloadN X2.here hx rfl (D d4_34) rfl (XS.iloadN X2.here hx rfl (D d4_35) rfl k)) ?_
 obtain ⟨_, T4, Lc4, X4, hQ4, st4⟩ := cS X2 hx hZ hown hml (wd75 hw) (wd76 hw) (wd77 hw) (wd78 hw) e2 0 [] (rmc3_4 l Z a0 hw [] a2 k_c v0 v1 v2 v3 h0 n0 Z0 V_c hv0 hv1 hv2 hv3) pd1 (mkF m 36 #[vr a1, vr a2, vi 0, vi 4, .val .null, us] [(.int 4), (.int 0), (.ref a2)]) (D d4_36)
 obtain ⟨h4, e4⟩ : ∃ z, T4.heap = z := ⟨_, rfl⟩
 rw [e4] at hQ4
 obtain ⟨y4, k_y4, rfl, N4q, K4, ng_y4, sz0_y4, Q4_0⟩ := hQ4
 refine G st4 ?_
 have ne_a1_y4 : a1 ≠ y4 := Nat.ne_of_lt (Nat.lt_of_lt_of_le E_a1.lt sz0_y4)
 have ne_a2_y4 : a2 ≠ y4 := Nat.ne_of_lt (Nat.lt_of_lt_of_le V_c.lt sz0_y4)
 have g_y4 : n0 ≤ y4 := ng_y4
 have sz_y4 : h0.size ≤ y4 := Nat.le_trans K0.1 sz0_y4
 replace E_a1 := E_a1.keep K4
 replace F_a1_v := F_a1_v.keep K4 nin0
 replace F_a1_c := F_a1_c.keep K4 nin0
 replace V_c := V_c.keep K4 nin0
 replace SC := sta_keep SC K4 all0
 replace Z0 := Nat.le_trans Z0 K4.1
 replace K0 := K0.trans K4 all0
 have V_y4 := Q4_0
 have N4 := Fr.app N0 N4q
 refine G (fun t k => XS.astore X4.here hx rfl (D d4_39) rfl rfl (l' := #[vr a1, vr a2, vi 0, vi 4, .val .null, vr y4]) rfl (XS.aloadN X4.here hx rfl (D d4_41) rfl rfl (XS.aload X4.here hx rfl (D d4_42) rfl rfl (XS.iloadN X4.here hx rfl (D d4_44) rfl k)))) ?_
 refine sG T4 (mkF m 45 #[vr a1, vr a2, vi 0, vi 4, .val .null, vr y4] [(.int 4), (.ref y4), (.ref a1)]) ?_
 obtain ⟨_, T5, Lc5, X5, hQ5, st5⟩ := cS X4 hx hZ hown hml (wd82 hw) (wd83 hw) (wd77 hw) (wd84 hw) e4 1 [(.ref a1)] (rmcl_4 l Z a0 hw [] y4 k_y4 ((v0.toInt8.toInt32).toInt8.toInt32) ((v1.toInt8.toInt32).toInt8.toInt32) ((v2.toInt8.toInt32).toInt8.toInt32) ((v3.toInt8.toInt32).toInt8.toInt32) h4 n0 Z0 V_y4) pd2 (mkF m 45 #[vr a1, vr a2, vi 0, vi 4, .val .null, vr y4] [(.int 4), (.ref y4), (.ref a1)]) (D d4_45)
 refine G st5 ?_
 obtain ⟨rfl, N5q, e5⟩ := hQ5
 have N5 := Fr.app N4 N5q
 obtain ⟨T6, h6, X6, e6, W6, st6⟩ := putFN X5 hx hZ hown (wd28 hw) Via.refl e5 F_a1_c E_a1 (Or.inr ⟨(wd24 hw), rfl, hnm⟩) (wd9 hw) (ty := .byte) (v' := (.int ((0 : Int32).toInt8.toInt32))) (by decide) rfl (fits_nar_byte _) (g := (mkF m 48 #[vr a1, vr a2, vi 0, vi 4, .val .null, vr y4] [(.int 0), (.ref a1)])) rfl rfl (D d4_48)
 refine G st6 ?_
 have N6 := Fr.snoc X6 N5 g_a1
 replace E_a1 := E_a1.wr W6
 replace F_a1_v := F_a1_v.other W6 (sn0 hw)
 replace F_a1_c := F_a1_c.same W6
 replace V_c := V_c.other W6 (Ne.symm ne_a1_a2)
 replace SC := SC.wr W6
 replace V_y4 := V_y4.other W6 (Ne.symm ne_a1_y4)
 replace Z0 := Nat.le_trans Z0 (Nat.le_of_eq W6.size.symm)
 replace K0 := K0.wr W6 (Or.inl (by simp))
 replace F_a1_c : Fld Z h6 a1 SN "coder" "B" (.int (0 : Int32)) := F_a1_c
 refine G (fun t k => XS.aloadN X6.here hx rfl (D d4_51) rfl rfl (XS.aload X6.here hx rfl (D d4_52) rfl rfl k)) ?_
 obtain ⟨T7, h7, X7, e7, W7, st7⟩ := putF X6 hx hZ hown (host := "") (Or.inl (wd27 hw)) Via.refl e6 F_a1_v E_a1 (Or.inr ⟨(wd23 hw), rfl, hnm⟩) (wd9 hw) (ty := (.array .byte)) (by decide) rfl rfl (g := (mkF m 54 #[vr a1, vr a2, vi 0, vi 4, .val .null, vr y4] [(.ref y4), (.ref a1)])) rfl rfl (D d4_54)
 refine G st7 ?_
 have N7 := Fr.snoc X7 N6 g_a1
 obtain ⟨LL7, X7, N7⟩ : ∃ LL, Stand p l e (Rm 2 1 4 35) s m #[(.ref a1), (.ref a2), (.int (0 : Int32)), (.int (4 : Int32)), .null] below meth c T7 LL 1 4 ∧ Fr n0 LL := ⟨_, X7, N7⟩
 replace E_a1 := E_a1.wr W7
 replace F_a1_v := F_a1_v.same W7
 replace F_a1_c := F_a1_c.other W7 (sn1 hw)
 replace V_c := V_c.other W7 (Ne.symm ne_a1_a2)
 replace SC := SC.wr W7
 replace V_y4 := V_y4.other W7 (Ne.symm ne_a1_y4)
 replace Z0 := Nat.le_trans Z0 (Nat.le_of_eq W7.size.symm)
 replace K0 := K0.wr W7 (Or.inl (by simp))
 exact lfV (Q := Qi4_4 Z a1 a2 k_c v0 v1 v2 v3 wC h0 n0) Bd X7 e7 (D d4_57) ⟨y4, k_y4, rfl, N7, K0, g_y4, sz_y4, E_a1, F_a1_v, F_a1_c, V_y4⟩ (by decide) (by decide)
def Qi1_4 (Z : State) (a1 : Addr) (a2 : Addr) (k_c : ClassId) (v0 : Int32) (v1 : Int32) (v2 : Int32) (v3 : Int32) (wC : Int32) (h0 : Heap) (n0 : Nat) (v : Option Value) (h : Heap) (L : List Loc) : Prop := ∃ xi1_4_0 : Addr, ∃ k_xi1_4_0 : ClassId, v = none ∧ Fr n0 L ∧ Keep h0 h [a1] ∧ n0 ≤ xi1_4_0 ∧ h0.size ≤ xi1_4_0 ∧ Exa Z h a1 SN ∧ Fld Z h a1 SN "value" "[B" (.ref xi1_4_0) ∧ Fld Z h a1 SN "coder" "B" (.int (0 : Int32)) ∧ Arv Z h xi1_4_0 k_xi1_4_0 .byte (4 : Int32) [(.int ((v0.toInt8.toInt32).toInt8.toInt32)), (.int ((v1.toInt8.toInt32).toInt8.toInt32)), (.int ((v2.toInt8.toInt32).toInt8.toInt32)), (.int ((v3.toInt8.toInt32).toInt8.toInt32))] (.int (0 : Int32))
theorem efi1_4 (m : MethodId) (x0 : Addr) (x1 : Addr) : entryFrame m #[(.ref x0), (.ref x1)] 2 = mkF m 0 #[.val (.ref x0), .val (.ref x1)] [] := by first | (simp [entryFrame, mkF, argsToLocals, Value.category]; done) | rfl
theorem rmi1_4 (l : Launch) (Z : State) (a0 : Array Value) (hw : HW a0 Z) (ws : List Jvm.Cond) (a1 : Addr) (a2 : Addr) (k_c : ClassId) (v0 : Int32) (v1 : Int32) (v2 : Int32) (v3 : Int32) (wC : Int32) (h0 : Heap) (n0 : Nat) (Z0 : n0 ≤ h0.size) (E_a1 : Exa Z h0 a1 SN) (F_a1_v : Fld Z h0 a1 SN "value" "[B" .null) (F_a1_c : Fld Z h0 a1 SN "coder" "B" (.int (0 : Int32))) (V_c : Arv Z h0 a2 k_c .char (4 : Int32) [(.int v0), (.int v1), (.int v2), (.int v3)] (.int (0 : Int32))) (SC : Sta Z h0 SN "COMPACT_STRINGS" "Z" (.int wC)) (hv0 : ¬ (255 : Int32) < v0) (hv1 : ¬ (255 : Int32) < v1) (hv2 : ¬ (255 : Int32) < v2) (hv3 : ¬ (255 : Int32) < v3) (hcs : ¬ wC = (0 : Int32)) (ne_a1_a2 : a1 ≠ a2) (g_a1 : n0 ≤ a1) :
  MetFree l y_4 (head1 (Cond.code y_4 cB3 2 none :: ws) (Rm 3 1 4 52)) (Pr Z h0 #[(.ref a1), (.ref a2)]) Tr (fun _ U o U' => ∃ v L, o = .returned v ∧ Qi1_4 Z a1 a2 k_c v0 v1 v2 v3 wC h0 n0 v U'.heap L ∧ FrameEnd U o U' L (Rm 3 1 4 52).cells (Rm 3 1 4 52).slots) := by
 refine MetFree.of_bodySF (plainFor_of_name pn1) hisR ?_
 intro p e s m args below meth c s₁ Bd hml0 hP hK
 obtain ⟨rfl, hZ, hh⟩ := hP
 have hx := Bd.exec
 have D := @hb _ _ Bd.bytes
 have hml : c.maxLocals = 2 := hml0
 have hown : s.vm.findClass SN = some m.cls := findClass_of_methodNamed Bd.named
 have hnm := (name_of_methodNamed Bd.named Bd.method).1
 have X0 : Stand p l e (Rm 3 1 4 52) s m #[(.ref a1), (.ref a2)] below meth c s₁ [] 0 0 := Stand.of_body Bd
 have e0 : s₁.heap = h0 := by rw [← hh, Bd.state]; rfl
 have N0 := Fr.nil n0
 have K0 : Keep h0 h0 [a1] := Keep.refl h0 _
 refine G (P := fun o U' => ∃ v L, o = .returned v ∧ Qi1_4 Z a1 a2 k_c v0 v1 v2 v3 wC h0 n0 v U'.heap L ∧ FrameEnd s o U' L (Rm 3 1 4 52).cells (Rm 3 1 4 52).slots) (fun t k => castTop (efi1_4 m a1 a2) k) ?_
 refine sG s₁ (mkF m 0 #[vr a1, vr a2] []) ?_
 refine G (fun t k => XS.aloadN X0.here hx rfl (D d3_0) rfl rfl (XS.aloadN X0.here hx rfl (D d3_1) rfl rfl (XS.iconst X0.here hx rfl (D d3_2) (XS.aloadN X0.here hx rfl (D d3_3) rfl rfl k)))) ?_
 obtain ⟨cl1, Ar1, -, Sz1, Ng1, -, -⟩ := id V_c
 refine G (fun t k => X0.arraylength hx (by rw [e0]; exact Ar1.1) (State.isArrayOf_alike hZ.alike Ar1.2.1) (g := (mkF m 4 #[vr a1, vr a2] [(.ref a2), (.int 0), (.ref a2), (.ref a1)])) rfl rfl (D d3_4) _ k) ?_
 rw [len_of Sz1 Ng1]
 clear Ng1 Sz1 Ar1 cl1
 refine G (fun t k => XS.aconstNull X0.here hx rfl (D d3_5) k) ?_
 obtain ⟨_, _, ⟨T2, L2, k2, n2⟩, -, X2, ⟨Lc2, hQ2, l2, y2, z2⟩, st2⟩ := X0.specialBack hx (y := y_3) rfl hown (mvT hZ (wd14 hw)) (mvT hZ (wd15 hw)) (mvT hZ (wd17 hw)) (by decide) (backOf (W := 0) (rmi4_4 l Z a0 hw [] a1 a2 k_c v0 v1 v2 v3 wC h0 n0 Z0 E_a1 F_a1_v F_a1_c V_c SC hv0 hv1 hv2 hv3 hcs ne_a1_a2 g_a1) hZ (wd17 hw) (wd10 hw) (by decide) (by decide)) (g := (mkF m 6 #[vr a1, vr a2] [.null, (.int 4), (.int 0), (.ref a2), (.ref a1)])) rfl (by rw [hml]; rfl) (Steps.refl _) (a := a1) (argsL := [(.ref a2), (.int (0 : Int32)), (.int (4 : Int32)), .null]) (rest := []) (lenOf pd3 rfl) rfl (by show 2 * 0 + _ ≤ _; exact Nat.le_of_eq rfl) (D d3_6) (fun _ _ => ⟨rfl, e0, (by decide : 0 + 1 ≤ _), (by decide : 0 + 4 ≤ _)⟩)
 dsimp only [Pt.U, Pt.locs, Pt.cells, Pt.slots] at X2 l2 y2 z2 st2 hQ2
 subst l2 y2 z2
 have E_a1_pre := E_a1
 have F_a1_value_pre := F_a1_v
 have F_a1_coder_pre := F_a1_c
 obtain ⟨h2, e2⟩ : ∃ z, T2.heap = z := ⟨_, rfl⟩
 rw [e2] at hQ2
 obtain ⟨y2, k_y2, rfl, N2q, K2, ng_y2, sz0_y2, Q2_0, Q2_1, Q2_2, Q2_3⟩ := hQ2
 refine Go.tr st2 ?_
 have ne_a1_y2 : a1 ≠ y2 := Nat.ne_of_lt (Nat.lt_of_lt_of_le E_a1.lt sz0_y2)
 have ne_a2_y2 : a2 ≠ y2 := Nat.ne_of_lt (Nat.lt_of_lt_of_le V_c.lt sz0_y2)
 have g_y2 : n0 ≤ y2 := ng_y2
 have sz_y2 : h0.size ≤ y2 := Nat.le_trans K0.1 sz0_y2
 replace E_a1 := E_a1.keep K2
 replace V_c := V_c.keep K2 (ninS (Ne.symm ne_a1_a2) nin0)
 replace SC := sta_keep SC K2 (allS (exa_ns E_a1_pre) all0)
 replace Z0 := Nat.le_trans Z0 K2.1
 replace K0 := K0.trans K2 (allS (Or.inl (by simp)) all0)
 clear E_a1_pre F_a1_value_pre F_a1_coder_pre
 have E_a1 := Q2_0
 have F_a1_v := Q2_1
 have F_a1_c := Q2_2
 have V_y2 := Q2_3
 have N2 := Fr.app N0 N2q
 refine sG T2 (mkF m 9 #[vr a1, vr a2] []) ?_
 exact lfV (Q := Qi1_4 Z a1 a2 k_c v0 v1 v2 v3 wC h0 n0) Bd X2 e2 (D d3_9) ⟨y2, k_y2, rfl, N2, K0, g_y2, sz_y2, E_a1, F_a1_v, F_a1_c, V_y2⟩ (by decide) (by decide)
theorem d4_8 : dc cB4 8 (.aload_n 0) 1 := by decide +kernel
theorem d4_9 : dc cB4 9 (.ldc 7) 2 := by decide +kernel
theorem d4_11 : dc cB4 11 (.getfield 9) 3 := by decide +kernel
theorem d4_14 : dc cB4 14 (.putfield 9) 3 := by decide +kernel
theorem d4_17 : dc cB4 17 (.aload_n 0) 1 := by decide +kernel
theorem d4_18 : dc cB4 18 (.ldc 7) 2 := by decide +kernel
theorem d4_20 : dc cB4 20 (.getfield 15) 3 := by decide +kernel
theorem d4_23 : dc cB4 23 (.putfield 15) 3 := by decide +kernel
theorem d4_26 : dc cB4 26 .return_ 1 := by decide +kernel
def Qi4_0 (Z : State) (a1 : Addr) (a2 : Addr) (k_c : ClassId) (h0 : Heap) (n0 : Nat) (v : Option Value) (h : Heap) (L : List Loc) : Prop := ∃ z_i4_0_l0 : Addr, ∃ k_z_i4_0_l0 : ClassId, v = none ∧ Fr n0 L ∧ Keep h0 h [a1] ∧ Exa Z h a1 SN ∧ Fld Z h a1 SN "value" "[B" (.ref z_i4_0_l0) ∧ Fld Z h a1 SN "coder" "B" (.int (0 : Int32)) ∧ Arv Z h z_i4_0_l0 k_z_i4_0_l0 .byte (0 : Int32) [] (.int (0 : Int32))
theorem efi4_0 (m : MethodId) (x0 : Addr) (x1 : Addr) : entryFrame m #[(.ref x0), (.ref x1), (.int (0 : Int32)), (.int (0 : Int32)), .null] 6 = mkF m 0 #[.val (.ref x0), .val (.ref x1), .val (.int (0 : Int32)), .val (.int (0 : Int32)), .val .null, .unset] [] := by first | (simp [entryFrame, mkF, argsToLocals, Value.category]; done) | rfl
theorem rmi4_0 (l : Launch) (Z : State) (a0 : Array Value) (hw : HW a0 Z) (ws : List Jvm.Cond) (a1 : Addr) (a2 : Addr) (k_c : ClassId) (h0 : Heap) (n0 : Nat) (Z0 : n0 ≤ h0.size) (E_a1 : Exa Z h0 a1 SN) (F_a1_v : Fld Z h0 a1 SN "value" "[B" .null) (F_a1_c : Fld Z h0 a1 SN "coder" "B" (.int (0 : Int32))) (V_c : Arv Z h0 a2 k_c .char (0 : Int32) [] (.int (0 : Int32))) (ne_a1_a2 : a1 ≠ a2) (g_a1 : n0 ≤ a1) :
  MetFree l y_3 (head1 (Cond.code y_3 cB4 6 none :: ws) (Rm 1 4 8 12)) (fun a U => a = #[(.ref a1), (.ref a2), (.int (0 : Int32)), (.int (0 : Int32)), .null] ∧ Z.Warmed39 U.vm ∧ U.heap = h0 ∧ CHv Z consts_1 U.vm h0) (fun _ _ _ _ _ => True) (fun _ U o U' => ∃ v L, o = .returned v ∧ Qi4_0 Z a1 a2 k_c h0 n0 v U'.heap L ∧ CHr Z consts_1 U.vm U.heap U'.vm U'.heap ∧ ReturnedEndW U o U' L (Rm 1 4 8 12).cells (Rm 1 4 8 12).slots) := by
 refine MetFree.of_bodySF (plainFor_of_name pn1) hisR ?_
 intro p e s m args below meth c s₁ Bd hml0 hP hK
 obtain ⟨rfl, hZ, hh, hC0⟩ := hP
 replace hZ : Z.Warmed39 (s.setVm s.vm).vm := hZ
 have hS : s.Since s.vm 0 := (State.WarmedH.refl s).since 0
 have hk : 0 ≤ h0.size := Nat.zero_le _
 have hCr : CHr Z consts_1 s.vm h0 s.vm h0 := CHr.refl hC0
 have hx := Bd.exec
 have D := @hb _ _ Bd.bytes
 have hml : c.maxLocals = 6 := hml0
 have hown : (s.setVm s.vm).vm.findClass SN = some m.cls := findClass_of_methodNamed Bd.named
 have hnm := (name_of_methodNamed Bd.named Bd.method).1
 have X0 : Stand p l e (Rm 1 4 8 12) (s.setVm s.vm) m #[(.ref a1), (.ref a2), (.int (0 : Int32)), (.int (0 : Int32)), .null] below meth c s₁ [] 0 0 := Stand.of_body Bd
 have e0 : s₁.heap = h0 := by rw [← hh, Bd.state]; rfl
 have N0 := Fr.nil n0
 have K0 : Keep h0 h0 [a1] := Keep.refl h0 _
 refine G (P := fun o U' => ∃ v L, o = .returned v ∧ Qi4_0 Z a1 a2 k_c h0 n0 v U'.heap L ∧ CHr Z consts_1 s.vm s.heap U'.vm U'.heap ∧ ReturnedEndW s o U' L (Rm 1 4 8 12).cells (Rm 1 4 8 12).slots) (fun t k => castTop (efi4_0 m a1 a2) k) ?_
 refine sG s₁ (mkF m 0 #[vr a1, vr a2, vi 0, vi 0, .val .null, us] []) ?_
 have Sf_a1 : Safe Z consts_1 _ h0 a1 := own_safeN hZ.alike E_a1 F_a1_v
 refine G (fun t k => XS.aloadN X0.here hx rfl (D d4_0) rfl rfl k) ?_
 obtain ⟨T1, X1, e1, st1⟩ := initO X0 hx hZ hown (wd18 hw) (wd19 hw) (wd20 hw) e0 (g := (mkF m 1 #[vr a1, vr a2, vi 0, vi 0, .val .null, us] [(.ref a1)])) rfl (by rw [hml]; rfl) rfl (D d4_1) (by decide) (W := 0) (by show 2 * 0 + _ ≤ _; exact Nat.le_of_eq rfl) (by decide)
 refine G st1 ?_
 refine G (fun t k => XS.iloadN X1.here hx rfl (D d4_4) rfl (XS.ifNo X1.here hx rfl (D d4_5) rfl ((if0 _ _).trans (teq (by decide : (0 : Int32) = (0 : Int32))).2) (XS.aloadN X1.here hx rfl (D d4_8) rfl rfl k))) ?_
 obtain ⟨c2, T2, h2, kk2, d2, kb2, X2, e2, E2, hS2, hk2, hZ2, ho2, ES2, FC2, FV2, VA2, -, -, hC2, LL2, hn2, st2⟩ := ldcCH X1 hx hZ hown (wd21 hw) (own_str hw) e1 hS hk (own_EL hw) (by simp [consts_1]) hCr.1 (vs := []) (z := 0) ⟨by decide, by decide⟩ (by decide) (by decide) (g := (mkF m 9 #[vr a1, vr a2, vi 0, vi 0, .val .null, us] [(.ref a1)])) rfl (D d4_9) (n := 0) (by decide) (by decide) (by decide) (by decide)
 refine G st2 ?_
 replace Sf_a1 := CHr.safe hC2 E_a1.lt Sf_a1
 have ne_a1_c2 := (hn2 a1 Sf_a1).1
 have ne_a1_d2 := (hn2 a1 Sf_a1).2
 replace E_a1 := E_a1.ext E2
 replace F_a1_v := F_a1_v.ext E2
 replace F_a1_c := F_a1_c.ext E2
 replace V_c := V_c.ext E2
 replace K0 := K0.ext E2
 replace Z0 := Nat.le_trans Z0 E2.1
 replace hCr := hCr.trans hC2
 replace hZ := hZ2
 replace hown := ho2
 replace hS := hS2
 replace hk := hk2
 obtain ⟨T3, X3, e3, st3⟩ := getF X2 hx hZ hown (host := "") (Or.inl (wd27 hw)) Via.refl e2 FV2 (g := (mkF m 11 #[vr a1, vr a2, vi 0, vi 0, .val .null, us] [(.ref c2), (.ref a1)])) rfl rfl (D d4_11)
 refine G st3 ?_
 refine sG T3 (mkF m 14 #[vr a1, vr a2, vi 0, vi 0, .val .null, us] [(.ref d2), (.ref a1)]) ?_
 obtain ⟨T4, h4, X4, e4, W4, st4⟩ := putF X3 hx hZ hown (host := "") (Or.inl (wd27 hw)) Via.refl e3 F_a1_v E_a1 (Or.inr ⟨(wd23 hw), rfl, hnm⟩) (wd9 hw) (ty := (.array .byte)) (by decide) rfl rfl (g := (mkF m 14 #[vr a1, vr a2, vi 0, vi 0, .val .null, us] [(.ref d2), (.ref a1)])) rfl rfl (D d4_14)
 refine G st4 ?_
 have N4 := Fr.snoc X4 N0 g_a1
 have hCo := hCr.1
 have Sfo := Sf_a1
 replace Sf_a1 := Safe.wr W4 Sfo hCo Sf_a1
 replace hk := Nat.le_trans hk (Nat.le_of_eq W4.size.symm)
 replace hCr := hCr.trans (CHr.wr W4 Sfo hCo)
 clear hCo Sfo
 replace E_a1 := E_a1.wr W4
 replace F_a1_v := F_a1_v.same W4
 replace F_a1_c := F_a1_c.other W4 (sn1 hw)
 replace V_c := V_c.other W4 (Ne.symm ne_a1_a2)
 replace ES2 := ES2.wr W4
 replace FC2 := FC2.other W4 (Or.inl (Ne.symm ne_a1_c2))
 replace FV2 := FV2.other W4 (Or.inl (Ne.symm ne_a1_c2))
 replace VA2 := VA2.other W4 (Ne.symm ne_a1_d2)
 replace Z0 := Nat.le_trans Z0 (Nat.le_of_eq W4.size.symm)
 replace K0 := K0.wr W4 (Or.inl (by simp))
 refine G (fun t k => XS.aloadN X4.here hx rfl (D d4_17) rfl rfl k) ?_
 obtain ⟨c5, T5, h5, kk5, d5, kb5, X5, e5, E5, hS5, hk5, hZ5, ho5, ES5, FC5, FV5, VA5, -, -, hC5, LL5, hn5, st5⟩ := ldcCH X4 hx hZ hown (wd21 hw) (own_str hw) e4 hS hk (own_EL hw) (by simp [consts_1]) hCr.1 (vs := []) (z := 0) ⟨by decide, by decide⟩ (by decide) (by decide) (g := (mkF m 18 #[vr a1, vr a2, vi 0, vi 0, .val .null, us] [(.ref a1)])) rfl (D d4_18) (n := 0) (by decide) (by decide) (by decide) (by decide)
 refine G st5 ?_
 replace Sf_a1 := CHr.safe hC5 E_a1.lt Sf_a1
 have ne_a1_c5 := (hn5 a1 Sf_a1).1
 have ne_a1_d5 := (hn5 a1 Sf_a1).2
 replace E_a1 := E_a1.ext E5
 replace F_a1_v := F_a1_v.ext E5
 replace F_a1_c := F_a1_c.ext E5
 replace V_c := V_c.ext E5
 replace ES2 := ES2.ext E5
 replace FC2 := FC2.ext E5
 replace FV2 := FV2.ext E5
 replace VA2 := VA2.ext E5
 replace K0 := K0.ext E5
 replace Z0 := Nat.le_trans Z0 E5.1
 replace hCr := hCr.trans hC5
 replace hZ := hZ5
 replace hown := ho5
 replace hS := hS5
 replace hk := hk5
 obtain ⟨T6, X6, e6, st6⟩ := getF X5 hx hZ hown (host := "") (Or.inl (wd28 hw)) Via.refl e5 FC5 (g := (mkF m 20 #[vr a1, vr a2, vi 0, vi 0, .val .null, us] [(.ref c5), (.ref a1)])) rfl rfl (D d4_20)
 refine G st6 ?_
 obtain ⟨T7, h7, X7, e7, W7, st7⟩ := putFN X6 hx hZ hown (wd28 hw) Via.refl e6 F_a1_c E_a1 (Or.inr ⟨(wd24 hw), rfl, hnm⟩) (wd9 hw) (ty := .byte) (v' := (.int ((0 : Int32).toInt8.toInt32))) (by decide) rfl (fits_nar_byte _) (g := (mkF m 23 #[vr a1, vr a2, vi 0, vi 0, .val .null, us] [(.int 0), (.ref a1)])) rfl rfl (D d4_23)
 refine G st7 ?_
 have N7 := Fr.snoc X7 N4 g_a1
 have hCo := hCr.1
 have Sfo := Sf_a1
 replace Sf_a1 := Safe.wr W7 Sfo hCo Sf_a1
 replace hk := Nat.le_trans hk (Nat.le_of_eq W7.size.symm)
 replace hCr := hCr.trans (CHr.wr W7 Sfo hCo)
 clear hCo Sfo
 replace E_a1 := E_a1.wr W7
 replace F_a1_v := F_a1_v.other W7 (sn0 hw)
 replace F_a1_c := F_a1_c.same W7
 replace V_c := V_c.other W7 (Ne.symm ne_a1_a2)
 replace ES2 := ES2.wr W7
 replace FC2 := FC2.other W7 (Or.inl (Ne.symm ne_a1_c2))
 replace FV2 := FV2.other W7 (Or.inl (Ne.symm ne_a1_c2))
 replace VA2 := VA2.other W7 (Ne.symm ne_a1_d2)
 replace ES5 := ES5.wr W7
 replace FC5 := FC5.other W7 (Or.inl (Ne.symm ne_a1_c5))
 replace FV5 := FV5.other W7 (Or.inl (Ne.symm ne_a1_c5))
 replace VA5 := VA5.other W7 (Ne.symm ne_a1_d5)
 replace Z0 := Nat.le_trans Z0 (Nat.le_of_eq W7.size.symm)
 replace K0 := K0.wr W7 (Or.inl (by simp))
 replace F_a1_c : Fld Z h7 a1 SN "coder" "B" (.int (0 : Int32)) := F_a1_c
 exact lwV (Q := Qi4_0 Z a1 a2 k_c h0 n0) Bd X7 e7 hS hk hh hCr hZ (own_EL hw) (D d4_26) ⟨d2, kb2, rfl, N7, K0, E_a1, F_a1_v, F_a1_c, VA2⟩ (by decide) (by decide)
def Qi1_0 (Z : State) (a1 : Addr) (a2 : Addr) (k_c : ClassId) (h0 : Heap) (n0 : Nat) (v : Option Value) (h : Heap) (L : List Loc) : Prop := ∃ z_i1_0_l0 : Addr, ∃ k_z_i1_0_l0 : ClassId, v = none ∧ Fr n0 L ∧ Keep h0 h [a1] ∧ Exa Z h a1 SN ∧ Fld Z h a1 SN "value" "[B" (.ref z_i1_0_l0) ∧ Fld Z h a1 SN "coder" "B" (.int (0 : Int32)) ∧ Arv Z h z_i1_0_l0 k_z_i1_0_l0 .byte (0 : Int32) [] (.int (0 : Int32))
theorem efi1_0 (m : MethodId) (x0 : Addr) (x1 : Addr) : entryFrame m #[(.ref x0), (.ref x1)] 2 = mkF m 0 #[.val (.ref x0), .val (.ref x1)] [] := by first | (simp [entryFrame, mkF, argsToLocals, Value.category]; done) | rfl
theorem rmi1_0 (l : Launch) (Z : State) (a0 : Array Value) (hw : HW a0 Z) (ws : List Jvm.Cond) (a1 : Addr) (a2 : Addr) (k_c : ClassId) (h0 : Heap) (n0 : Nat) (Z0 : n0 ≤ h0.size) (E_a1 : Exa Z h0 a1 SN) (F_a1_v : Fld Z h0 a1 SN "value" "[B" .null) (F_a1_c : Fld Z h0 a1 SN "coder" "B" (.int (0 : Int32))) (V_c : Arv Z h0 a2 k_c .char (0 : Int32) [] (.int (0 : Int32))) (ne_a1_a2 : a1 ≠ a2) (g_a1 : n0 ≤ a1) :
  MetFree l y_4 (head1 (Cond.code y_4 cB3 2 none :: ws) (Rm 2 4 8 29)) (fun a U => a = #[(.ref a1), (.ref a2)] ∧ Z.Warmed39 U.vm ∧ U.heap = h0 ∧ CHv Z consts_1 U.vm h0) (fun _ _ _ _ _ => True) (fun _ U o U' => ∃ v L, o = .returned v ∧ Qi1_0 Z a1 a2 k_c h0 n0 v U'.heap L ∧ CHr Z consts_1 U.vm U.heap U'.vm U'.heap ∧ ReturnedEndW U o U' L (Rm 2 4 8 29).cells (Rm 2 4 8 29).slots) := by
 refine MetFree.of_bodySF (plainFor_of_name pn1) hisR ?_
 intro p e s m args below meth c s₁ Bd hml0 hP hK
 obtain ⟨rfl, hZ, hh, hC0⟩ := hP
 replace hZ : Z.Warmed39 (s.setVm s.vm).vm := hZ
 have hS : s.Since s.vm 0 := (State.WarmedH.refl s).since 0
 have hk : 0 ≤ h0.size := Nat.zero_le _
 have hCr : CHr Z consts_1 s.vm h0 s.vm h0 := CHr.refl hC0
 have hx := Bd.exec
 have D := @hb _ _ Bd.bytes
 have hml : c.maxLocals = 2 := hml0
 have hown : (s.setVm s.vm).vm.findClass SN = some m.cls := findClass_of_methodNamed Bd.named
 have hnm := (name_of_methodNamed Bd.named Bd.method).1
 have X0 : Stand p l e (Rm 2 4 8 29) (s.setVm s.vm) m #[(.ref a1), (.ref a2)] below meth c s₁ [] 0 0 := Stand.of_body Bd
 have e0 : s₁.heap = h0 := by rw [← hh, Bd.state]; rfl
 have N0 := Fr.nil n0
 have K0 : Keep h0 h0 [a1] := Keep.refl h0 _
 refine G (P := fun o U' => ∃ v L, o = .returned v ∧ Qi1_0 Z a1 a2 k_c h0 n0 v U'.heap L ∧ CHr Z consts_1 s.vm s.heap U'.vm U'.heap ∧ ReturnedEndW s o U' L (Rm 2 4 8 29).cells (Rm 2 4 8 29).slots) (fun t k => castTop (efi1_0 m a1 a2) k) ?_
 refine sG s₁ (mkF m 0 #[vr a1, vr a2] []) ?_
 have Sf_a1 : Safe Z consts_1 _ h0 a1 := own_safeN hZ.alike E_a1 F_a1_v
 refine G (fun t k => XS.aloadN X0.here hx rfl (D d3_0) rfl rfl (XS.aloadN X0.here hx rfl (D d3_1) rfl rfl (XS.iconst X0.here hx rfl (D d3_2) (XS.aloadN X0.here hx rfl (D d3_3) rfl rfl k)))) ?_
 obtain ⟨cl1, Ar1, -, Sz1, Ng1, -, -⟩ := id V_c
 refine G (fun t k => X0.arraylength hx (by rw [e0]; exact Ar1.1) (State.isArrayOf_alike hZ.alike Ar1.2.1) (g := (mkF m 4 #[vr a1, vr a2] [(.ref a2), (.int 0), (.ref a2), (.ref a1)])) rfl rfl (D d3_4) _ k) ?_
 rw [len_of Sz1 Ng1]
 clear Ng1 Sz1 Ar1 cl1
 refine G (fun t k => XS.aconstNull X0.here hx rfl (D d3_5) k) ?_
 obtain ⟨_, _, ⟨T2, L2, k2, n2⟩, -, X2, hSi2, hgz2, ⟨Lc2, hQ2, l2, y2, z2, hC2⟩, st2⟩ := X0.specialBackS hx (y := y_3) rfl hown (mvT hZ (wd14 hw)) (mvT hZ (wd15 hw)) (mvT hZ (wd17 hw)) (by decide) (backOfSH (W := 0) (rmi4_0 l Z a0 hw [] a1 a2 k_c h0 n0 Z0 E_a1 F_a1_v F_a1_c V_c ne_a1_a2 g_a1) hZ (wd17 hw) (wd10 hw) (by decide) (by decide) (own_EL hw) hCr.1) (g := (mkF m 6 #[vr a1, vr a2] [.null, (.int 0), (.int 0), (.ref a2), (.ref a1)])) rfl (by rw [hml]; rfl) (Steps.refl _) (a := a1) (argsL := [(.ref a2), (.int (0 : Int32)), (.int (0 : Int32)), .null]) (rest := []) (lenOf pd3 rfl) rfl (by show 2 * 0 + _ ≤ _; exact Nat.le_of_eq rfl) (D d3_6) (fun _ _ => ⟨rfl, e0, (by decide : 0 + 4 ≤ _), (by decide : 0 + 8 ≤ _)⟩)
 dsimp only [Pt.U, Pt.locs, Pt.cells, Pt.slots] at X2 l2 y2 z2 st2 hQ2 hSi2 hgz2 hC2
 subst l2 y2 z2
 obtain ⟨X2, hS, hZ, hown⟩ := rebS hS (show _ ≤ s₁.heap.size by rw [e0]; exact hk) X2 hSi2 hgz2 hZ hown
 have E_a1_pre := E_a1
 have F_a1_value_pre := F_a1_v
 have F_a1_coder_pre := F_a1_c
 obtain ⟨h2, e2⟩ : ∃ z, T2.heap = z := ⟨_, rfl⟩
 rw [e2] at hQ2
 obtain ⟨z_i4_0_l0_2, k_z_i4_0_l0_2, rfl, N2q, K2, Q2_0, Q2_1, Q2_2, Q2_3⟩ := hQ2
 refine Go.tr st2 ?_
 have lt_a1 := E_a1.lt
 replace E_a1 := E_a1.keep K2
 replace V_c := V_c.keep K2 (ninS (Ne.symm ne_a1_a2) nin0)
 rw [e2] at hC2 hS
 have hk := Nat.le_refl h2.size
 replace Sf_a1 := CHr.safe hC2 lt_a1 Sf_a1
 replace hCr := hCr.trans hC2
 replace Z0 := Nat.le_trans Z0 K2.1
 replace K0 := K0.trans K2 (allS (Or.inl (by simp)) all0)
 clear E_a1_pre F_a1_value_pre F_a1_coder_pre
 have E_a1 := Q2_0
 have F_a1_v := Q2_1
 have F_a1_c := Q2_2
 have V_z_i4_0_l0_2 := Q2_3
 have N2 := Fr.app N0 N2q
 refine sG T2 (mkF m 9 #[vr a1, vr a2] []) ?_
 exact lwV (Q := Qi1_0 Z a1 a2 k_c h0 n0) Bd X2 e2 hS hk hh hCr hZ (own_EL hw) (D d3_9) ⟨z_i4_0_l0_2, k_z_i4_0_l0_2, rfl, N2, K0, E_a1, F_a1_v, F_a1_c, V_z_i4_0_l0_2⟩ (by decide) (by decide)
theorem own_shr0 (x : Int32) : (x >>> ((0 : Int32) &&& 31)) = x := by
 rw [show ((0 : Int32) &&& 31) = 0 from by decide]
 exact Int32.toInt_inj.mp (by simp)
theorem d10_0 : dc cB10 0 (.getstatic 38) 3 := by decide +kernel
theorem d10_3 : dc cB10 3 (.ifCond .eq 10) 3 := by decide +kernel
theorem d10_6 : dc cB10 6 (.aload_n 0) 1 := by decide +kernel
theorem d10_7 : dc cB10 7 (.getfield 15) 3 := by decide +kernel
theorem d10_10 : dc cB10 10 (.goto 4) 3 := by decide +kernel
theorem d10_14 : dc cB10 14 .ireturn 1 := by decide +kernel
def Q10 (Z : State) (a1 : Addr) (wC : Int32) (h0 : Heap) (n0 : Nat) (v : Option Value) (h : Heap) (L : List Loc) : Prop := v = some (.int (0 : Int32)) ∧ Fr n0 L ∧ h = h0
theorem ef10 (m : MethodId) (x0 : Addr) : entryFrame m #[(.ref x0)] 1 = mkF m 0 #[.val (.ref x0)] [] := by first | (simp [entryFrame, mkF, argsToLocals, Value.category]; done) | rfl
theorem rm10 (l : Launch) (Z : State) (a0 : Array Value) (hw : HW a0 Z) (ws : List Jvm.Cond) (a1 : Addr) (wC : Int32) (h0 : Heap) (n0 : Nat) (Z0 : n0 ≤ h0.size) (E_a1 : Exa Z h0 a1 SN) (F_a1_c : Fld Z h0 a1 SN "coder" "B" (.int (0 : Int32))) (SC : Sta Z h0 SN "COMPACT_STRINGS" "Z" (.int wC)) (hcs : ¬ wC = (0 : Int32)) :
  MetFree l y_5 (head1 (Cond.code y_5 cB10 1 (some .byte) :: ws) (Rm 0 0 0 0)) (Pr Z h0 #[(.ref a1)]) Tr (fun _ U o U' => ∃ v L, o = .returned v ∧ Q10 Z a1 wC h0 n0 v U'.heap L ∧ FrameEnd U o U' L (Rm 0 0 0 0).cells (Rm 0 0 0 0).slots) := by
 refine MetFree.of_bodySF (plainFor_of_name pn1) hisR ?_
 intro p e s m args below meth c s₁ Bd hml0 hP hK
 obtain ⟨rfl, hZ, hh⟩ := hP
 have hx := Bd.exec
 have D := @hb _ _ Bd.bytes
 have hml : c.maxLocals = 1 := hml0
 have hown : s.vm.findClass SN = some m.cls := findClass_of_methodNamed Bd.named
 have hnm := (name_of_methodNamed Bd.named Bd.method).1
 have X0 : Stand p l e (Rm 0 0 0 0) s m #[(.ref a1)] below meth c s₁ [] 0 0 := Stand.of_body Bd
 have e0 : s₁.heap = h0 := by rw [← hh, Bd.state]; rfl
 have N0 := Fr.nil n0
 have K0 : Keep h0 h0 [] := Keep.refl h0 _
 refine G (P := fun o U' => ∃ v L, o = .returned v ∧ Q10 Z a1 wC h0 n0 v U'.heap L ∧ FrameEnd s o U' L (Rm 0 0 0 0).cells (Rm 0 0 0 0).slots) (fun t k => castTop (ef10 m a1) k) ?_
 refine sG s₁ (mkF m 0 #[vr a1] []) ?_
 obtain ⟨T1, X1, e1, st1⟩ := getS2 X0 hx hZ hown (host := "") (Or.inl (wd54 hw)) Via.refl e0 SC (g := (mkF m 0 #[vr a1] [])) rfl (D d10_0)
 refine G st1 ?_
 have hf2 : ¬ (wC = (0 : Int32)) := hcs
 refine G (fun t k => XS.ifNo X1.here hx rfl (D d10_3) rfl ((if0 _ _).trans (feq hf2).1) (XS.aloadN X1.here hx rfl (D d10_6) rfl rfl k)) ?_
 obtain ⟨T3, X3, e3, st3⟩ := getF X1 hx hZ hown (host := "") (Or.inl (wd28 hw)) Via.refl e1 F_a1_c (g := (mkF m 7 #[vr a1] [(.ref a1)])) rfl rfl (D d10_7)
 refine G st3 ?_
 refine G (fun t k => XS.goto X3.here hx rfl (pc0 := 10) (pc' := 14) rfl (D d10_10) (by decide) (by decide) k) ?_
 exact lfN (Q := Q10 Z a1 wC h0 n0) Bd X3 e3 (D d10_14) (by simp) (w := (0 : Int32)) rfl ⟨rfl, N0, rfl⟩ (by decide) (by decide)
theorem d21_0 : dc cB21 0 (.getstatic 38) 3 := by decide +kernel
theorem d21_3 : dc cB21 3 (.ifCond .eq 14) 3 := by decide +kernel
theorem d21_6 : dc cB21 6 (.aload_n 0) 1 := by decide +kernel
theorem d21_7 : dc cB21 7 (.getfield 15) 3 := by decide +kernel
theorem d21_10 : dc cB21 10 (.ifCond .ne 7) 3 := by decide +kernel
theorem d21_13 : dc cB21 13 (.iconst 1) 1 := by decide +kernel
theorem d21_14 : dc cB21 14 (.goto 4) 3 := by decide +kernel
theorem d21_18 : dc cB21 18 .ireturn 1 := by decide +kernel
def Q21 (Z : State) (a1 : Addr) (wC : Int32) (h0 : Heap) (n0 : Nat) (v : Option Value) (h : Heap) (L : List Loc) : Prop := v = some (.int (1 : Int32)) ∧ Fr n0 L ∧ h = h0
theorem ef21 (m : MethodId) (x0 : Addr) : entryFrame m #[(.ref x0)] 1 = mkF m 0 #[.val (.ref x0)] [] := by first | (simp [entryFrame, mkF, argsToLocals, Value.category]; done) | rfl
theorem rm21 (l : Launch) (Z : State) (a0 : Array Value) (hw : HW a0 Z) (ws : List Jvm.Cond) (a1 : Addr) (wC : Int32) (h0 : Heap) (n0 : Nat) (Z0 : n0 ≤ h0.size) (E_a1 : Exa Z h0 a1 SN) (F_a1_c : Fld Z h0 a1 SN "coder" "B" (.int (0 : Int32))) (SC : Sta Z h0 SN "COMPACT_STRINGS" "Z" (.int wC)) (hcs : ¬ wC = (0 : Int32)) :
  MetFree l y_6 (head1 (Cond.code y_6 cB21 1 (some .boolean) :: ws) (Rm 0 0 0 0)) (Pr Z h0 #[(.ref a1)]) Tr (fun _ U o U' => ∃ v L, o = .returned v ∧ Q21 Z a1 wC h0 n0 v U'.heap L ∧ FrameEnd U o U' L (Rm 0 0 0 0).cells (Rm 0 0 0 0).slots) := by
 refine MetFree.of_bodySF (plainFor_of_name pn1) hisR ?_
 intro p e s m args below meth c s₁ Bd hml0 hP hK
 obtain ⟨rfl, hZ, hh⟩ := hP
 have hx := Bd.exec
 have D := @hb _ _ Bd.bytes
 have hml : c.maxLocals = 1 := hml0
 have hown : s.vm.findClass SN = some m.cls := findClass_of_methodNamed Bd.named
 have hnm := (name_of_methodNamed Bd.named Bd.method).1
 have X0 : Stand p l e (Rm 0 0 0 0) s m #[(.ref a1)] below meth c s₁ [] 0 0 := Stand.of_body Bd
 have e0 : s₁.heap = h0 := by rw [← hh, Bd.state]; rfl
 have N0 := Fr.nil n0
 have K0 : Keep h0 h0 [] := Keep.refl h0 _
 refine G (P := fun o U' => ∃ v L, o = .returned v ∧ Q21 Z a1 wC h0 n0 v U'.heap L ∧ FrameEnd s o U' L (Rm 0 0 0 0).cells (Rm 0 0 0 0).slots) (fun t k => castTop (ef21 m a1) k) ?_
 refine sG s₁ (mkF m 0 #[vr a1] []) ?_
 obtain ⟨T1, X1, e1, st1⟩ := getS2 X0 hx hZ hown (host := "") (Or.inl (wd54 hw)) Via.refl e0 SC (g := (mkF m 0 #[vr a1] [])) rfl (D d21_0)
 refine G st1 ?_
 have hf2 : ¬ (wC = (0 : Int32)) := hcs
 refine G (fun t k => XS.ifNo X1.here hx rfl (D d21_3) rfl ((if0 _ _).trans (feq hf2).1) (XS.aloadN X1.here hx rfl (D d21_6) rfl rfl k)) ?_
 obtain ⟨T3, X3, e3, st3⟩ := getF X1 hx hZ hown (host := "") (Or.inl (wd28 hw)) Via.refl e1 F_a1_c (g := (mkF m 7 #[vr a1] [(.ref a1)])) rfl rfl (D d21_7)
 refine G st3 ?_
 refine G (fun t k => XS.ifNo X3.here hx rfl (D d21_10) rfl ((if0 _ _).trans (teq (by decide : (0 : Int32) = (0 : Int32))).2) (XS.iconst X3.here hx rfl (D d21_13) (XS.goto X3.here hx rfl (pc0 := 14) (pc' := 18) rfl (D d21_14) (by decide) (by decide) k))) ?_
 refine sG T3 (mkF m 18 #[vr a1] [(.int 1)]) ?_
 exact lfN (Q := Q21 Z a1 wC h0 n0) Bd X3 e3 (D d21_18) (by simp) (w := (1 : Int32)) rfl ⟨rfl, N0, rfl⟩ (by decide) (by decide)
theorem d9_0 : dc cB9 0 (.aload_n 0) 1 := by decide +kernel
theorem d9_1 : dc cB9 1 (.getfield 9) 3 := by decide +kernel
theorem d9_4 : dc cB9 4 .arraylength 1 := by decide +kernel
theorem d9_5 : dc cB9 5 (.aload_n 0) 1 := by decide +kernel
theorem d9_6 : dc cB9 6 (.invokevirtual 335) 3 := by decide +kernel
theorem wd49 {Z a0} (hw : HW a0 Z) : (Cond.methodLink SN (335 : Nat) y_5).before a0 Z = true := mw hw 49 rfl
theorem wd53 {Z a0} (hw : HW a0 Z) : (Cond.code y_5 cB10 (1 : Nat) (Option.some FieldType.byte)).before a0 Z = true := mw hw 53 rfl
theorem pd4 : parseMethodDescriptor "()B" = some ⟨[], some .byte⟩ := by decide +kernel
theorem wd50 {Z a0} (hw : HW a0 Z) : (Cond.declares y_5).before a0 Z = true := mw hw 50 rfl
theorem wd52 {Z a0} (hw : HW a0 Z) : (Cond.selects SN y_5 y_5).before a0 Z = true := mw hw 52 rfl
theorem wd51 {Z a0} (hw : HW a0 Z) : (Cond.instanceMethod y_5).before a0 Z = true := mw hw 51 rfl
theorem d9_9 : dc cB9 9 .ishr 1 := by decide +kernel
theorem d9_10 : dc cB9 10 .ireturn 1 := by decide +kernel
def Q9 (Z : State) (a1 : Addr) (w_b : Addr) (k_b : ClassId) (bs : List Int32) (w_n : Int32) (wC : Int32) (h0 : Heap) (n0 : Nat) (v : Option Value) (h : Heap) (L : List Loc) : Prop := v = some (.int w_n) ∧ Fr n0 L ∧ h = h0
theorem ef9 (m : MethodId) (x0 : Addr) : entryFrame m #[(.ref x0)] 1 = mkF m 0 #[.val (.ref x0)] [] := by first | (simp [entryFrame, mkF, argsToLocals, Value.category]; done) | rfl
theorem rm9 (l : Launch) (Z : State) (a0 : Array Value) (hw : HW a0 Z) (ws : List Jvm.Cond) (a1 : Addr) (w_b : Addr) (k_b : ClassId) (bs : List Int32) (w_n : Int32) (wC : Int32) (h0 : Heap) (n0 : Nat) (Z0 : n0 ≤ h0.size) (E_a1 : Exa Z h0 a1 SN) (F_a1_v : Fld Z h0 a1 SN "value" "[B" (.ref w_b)) (F_a1_c : Fld Z h0 a1 SN "coder" "B" (.int (0 : Int32))) (V_b : Arv Z h0 w_b k_b .byte w_n (List.map Value.int bs) (.int (0 : Int32))) (SC : Sta Z h0 SN "COMPACT_STRINGS" "Z" (.int wC)) (hcs : ¬ wC = (0 : Int32)) :
  MetFree l y_7 (head1 (Cond.code y_7 cB9 1 (some .int) :: ws) (Rm 1 0 0 13)) (Pr Z h0 #[(.ref a1)]) Tr (fun _ U o U' => ∃ v L, o = .returned v ∧ Q9 Z a1 w_b k_b bs w_n wC h0 n0 v U'.heap L ∧ FrameEnd U o U' L (Rm 1 0 0 13).cells (Rm 1 0 0 13).slots) := by
 refine MetFree.of_bodySF (plainFor_of_name pn1) hisR ?_
 intro p e s m args below meth c s₁ Bd hml0 hP hK
 obtain ⟨rfl, hZ, hh⟩ := hP
 have hx := Bd.exec
 have D := @hb _ _ Bd.bytes
 have hml : c.maxLocals = 1 := hml0
 have hown : s.vm.findClass SN = some m.cls := findClass_of_methodNamed Bd.named
 have hnm := (name_of_methodNamed Bd.named Bd.method).1
 have X0 : Stand p l e (Rm 1 0 0 13) s m #[(.ref a1)] below meth c s₁ [] 0 0 := Stand.of_body Bd
 have e0 : s₁.heap = h0 := by rw [← hh, Bd.state]; rfl
 have N0 := Fr.nil n0
 have K0 : Keep h0 h0 [] := Keep.refl h0 _
 refine G (P := fun o U' => ∃ v L, o = .returned v ∧ Q9 Z a1 w_b k_b bs w_n wC h0 n0 v U'.heap L ∧ FrameEnd s o U' L (Rm 1 0 0 13).cells (Rm 1 0 0 13).slots) (fun t k => castTop (ef9 m a1) k) ?_
 refine sG s₁ (mkF m 0 #[vr a1] []) ?_
 refine G (fun t k => XS.aloadN X0.here hx rfl (D d9_0) rfl rfl k) ?_
 obtain ⟨T1, X1, e1, st1⟩ := getF X0 hx hZ hown (host := "") (Or.inl (wd27 hw)) Via.refl e0 F_a1_v (g := (mkF m 1 #[vr a1] [(.ref a1)])) rfl rfl (D d9_1)
 refine G st1 ?_
 obtain ⟨cl2, Ar2, -, Sz2, Ng2, -, -⟩ := id V_b
 refine G (fun t k => X1.arraylength hx (by rw [e1]; exact Ar2.1) (State.isArrayOf_alike hZ.alike Ar2.2.1) (g := (mkF m 4 #[vr a1] [(.ref w_b)])) rfl rfl (D d9_4) _ k) ?_
 rw [len_of Sz2 Ng2]
 clear Ng2 Sz2 Ar2 cl2
 refine G (fun t k => XS.aloadN X1.here hx rfl (D d9_5) rfl rfl k) ?_
 obtain ⟨_, T3, Lc3, X3, hQ3, st3⟩ := cV X1 hx hZ hown hml (wd49 hw) (wd50 hw) (wd52 hw) (wd51 hw) (wd53 hw) (wd10 hw) E_a1 e1 1 [(.int w_n)] (rm10 l Z a0 hw [] a1 wC h0 n0 Z0 E_a1 F_a1_c SC hcs) pd4 (mkF m 6 #[vr a1] [(.ref a1), (.int w_n)]) (D d9_6)
 refine Go.tr st3 ?_
 obtain ⟨rfl, N3q, e3⟩ := hQ3
 have N3 := Fr.app N0 N3q
 refine G (fun t k => XS.ishr X3.here hx rfl (D d9_9) rfl k) ?_
 refine sG T3 (mkF m 10 #[vr a1] [(.int (w_n >>> ((0 : Int32) &&& 31)))]) ?_
 refine Go.fr (g' := (mkF m 10 #[vr a1] [(.int w_n)])) (by rw [own_shr0]) ?_
 refine sG T3 (mkF m 10 #[vr a1] [(.int w_n)]) ?_
 exact lfI (Q := Q9 Z a1 w_b k_b bs w_n wC h0 n0) Bd X3 e3 (D d9_10) (w := w_n) ⟨rfl, N3, rfl⟩ (by decide) (by decide)
theorem d24_0 : dc cB24 0 (.iload_n 0) 1 := by decide +kernel
theorem d24_1 : dc cB24 1 (.ifCond .lt 8) 3 := by decide +kernel
theorem d24_4 : dc cB24 4 (.iload_n 0) 1 := by decide +kernel
theorem d24_5 : dc cB24 5 (.iload_n 1) 1 := by decide +kernel
theorem d24_6 : dc cB24 6 (.if_icmp .lt 10) 3 := by decide +kernel
theorem d24_16 : dc cB24 16 (.iload_n 0) 1 := by decide +kernel
theorem d24_17 : dc cB24 17 .ireturn 1 := by decide +kernel
theorem pn2 : plainName PC = true := by first | (simp [plainName, overriddenIn]; done) | decide +kernel
def Q24 (Z : State) (p1 : Int32) (p2 : Int32) (g3 : Value) (h0 : Heap) (n0 : Nat) (v : Option Value) (h : Heap) (L : List Loc) : Prop := v = some (.int p1) ∧ Fr n0 L ∧ h = h0
theorem ef24 (m : MethodId) (x0 : Int32) (x1 : Int32) (x2 : Value) (hr2 : x2.isRef = true) : entryFrame m #[(.int x0), (.int x1), x2] 3 = mkF m 0 #[.val (.int x0), .val (.int x1), .val x2] [] := by rcases ref_cases hr2 with hq | ⟨_, hq⟩ <;> subst hq <;> first | (simp [entryFrame, mkF, argsToLocals, Value.category]; done) | rfl
theorem rm24 (l : Launch) (Z : State) (a0 : Array Value) (hw : HW a0 Z) (ws : List Jvm.Cond) (p1 : Int32) (p2 : Int32) (g3 : Value) (h0 : Heap) (n0 : Nat) (Z0 : n0 ≤ h0.size) (hg3 : g3.isRef = true) (hq1 : ¬ p1 < (0 : Int32)) (hq2 : p1 < p2) :
  MetFree l y_8 (head1 (Cond.code y_8 cB24 3 (some .int) :: ws) (Rm 0 0 0 0)) (Pr Z h0 #[(.int p1), (.int p2), g3]) Tr (fun _ U o U' => ∃ v L, o = .returned v ∧ Q24 Z p1 p2 g3 h0 n0 v U'.heap L ∧ FrameEnd U o U' L (Rm 0 0 0 0).cells (Rm 0 0 0 0).slots) := by
 refine MetFree.of_bodySF (plainFor_of_name pn2) hisR ?_
 intro p e s m args below meth c s₁ Bd hml0 hP hK
 obtain ⟨rfl, hZ, hh⟩ := hP
 have hx := Bd.exec
 have D := @hb _ _ Bd.bytes
 have hml : c.maxLocals = 3 := hml0
 have hown : s.vm.findClass PC = some m.cls := findClass_of_methodNamed Bd.named
 have hnm := (name_of_methodNamed Bd.named Bd.method).1
 have X0 : Stand p l e (Rm 0 0 0 0) s m #[(.int p1), (.int p2), g3] below meth c s₁ [] 0 0 := Stand.of_body Bd
 have e0 : s₁.heap = h0 := by rw [← hh, Bd.state]; rfl
 have N0 := Fr.nil n0
 have K0 : Keep h0 h0 [] := Keep.refl h0 _
 refine G (P := fun o U' => ∃ v L, o = .returned v ∧ Q24 Z p1 p2 g3 h0 n0 v U'.heap L ∧ FrameEnd s o U' L (Rm 0 0 0 0).cells (Rm 0 0 0 0).slots) (fun t k => castTop (ef24 m p1 p2 g3 hg3) k) ?_
 refine sG s₁ (mkF m 0 #[vi p1, vi p2, .val g3] []) ?_
 refine G (fun t k => XS.iloadN X0.here hx rfl (D d24_0) rfl (XS.ifNo X0.here hx rfl (D d24_1) rfl ((if0 _ _).trans (flt (show ¬ (p1 < (0 : Int32)) from hq1)).1) (XS.iloadN X0.here hx rfl (D d24_4) rfl (XS.iloadN X0.here hx rfl (D d24_5) rfl (XS.icmpYes X0.here hx rfl (pc0 := 6) (pc' := 16) rfl (D d24_6) rfl (tlt (show p1 < p2 from hq2)).1 (by decide) (by decide) (XS.iloadN X0.here hx rfl (D d24_16) rfl k)))))) ?_
 exact lfI (Q := Q24 Z p1 p2 g3 h0 n0) Bd X0 e0 (D d24_17) (w := p1) ⟨rfl, N0, rfl⟩ (by decide) (by decide)
theorem d23_0 : dc cB23 0 (.iload_n 0) 1 := by decide +kernel
theorem d23_1 : dc cB23 1 (.iload_n 1) 1 := by decide +kernel
theorem d23_2 : dc cB23 2 (.getstatic 1053) 3 := by decide +kernel
theorem wd109 {Z a0} (hw : HW a0 Z) : (Cond.fieldLink SN (1053 : Nat) PC "SIOOBE_FORMATTER" BF).before a0 Z = true := mw hw 109 rfl
theorem d23_5 : dc cB23 5 (.invokestatic 1059) 3 := by decide +kernel
theorem wd111 {Z a0} (hw : HW a0 Z) : (Cond.methodLink SN (1059 : Nat) y_8).before a0 Z = true := mw hw 111 rfl
theorem wd113 {Z a0} (hw : HW a0 Z) : (Cond.code y_8 cB24 (3 : Nat) (Option.some FieldType.int)).before a0 Z = true := mw hw 113 rfl
theorem wd110 {Z a0} (hw : HW a0 Z) : (Cond.initialized PC).before a0 Z = true := mw hw 110 rfl
theorem pd5 : parseMethodDescriptor "(IILjava/util/function/BiFunction;)I" = some ⟨[.int, .int, (.object "java/util/function/BiFunction")], some .int⟩ := by decide +kernel
theorem wd112 {Z a0} (hw : HW a0 Z) : (Cond.static y_8).before a0 Z = true := mw hw 112 rfl
theorem d23_8 : dc cB23 8 .pop 1 := by decide +kernel
theorem d23_9 : dc cB23 9 .return_ 1 := by decide +kernel
def Q23 (Z : State) (p1 : Int32) (p2 : Int32) (w_S : Value) (h0 : Heap) (n0 : Nat) (v : Option Value) (h : Heap) (L : List Loc) : Prop := v = none ∧ Fr n0 L ∧ h = h0
theorem ef23 (m : MethodId) (x0 : Int32) (x1 : Int32) : entryFrame m #[(.int x0), (.int x1)] 2 = mkF m 0 #[.val (.int x0), .val (.int x1)] [] := by first | (simp [entryFrame, mkF, argsToLocals, Value.category]; done) | rfl
theorem rm23 (l : Launch) (Z : State) (a0 : Array Value) (hw : HW a0 Z) (ws : List Jvm.Cond) (p1 : Int32) (p2 : Int32) (w_S : Value) (h0 : Heap) (n0 : Nat) (Z0 : n0 ≤ h0.size) (SI : Sta Z h0 PC "SIOOBE_FORMATTER" BF w_S) (hrS : w_S.isRef = true) (hq1 : ¬ p1 < (0 : Int32)) (hq2 : p1 < p2) :
  MetFree l y_9 (head1 (Cond.code y_9 cB23 2 none :: ws) (Rm 1 0 0 14)) (Pr Z h0 #[(.int p1), (.int p2)]) Tr (fun _ U o U' => ∃ v L, o = .returned v ∧ Q23 Z p1 p2 w_S h0 n0 v U'.heap L ∧ FrameEnd U o U' L (Rm 1 0 0 14).cells (Rm 1 0 0 14).slots) := by
 refine MetFree.of_bodySF (plainFor_of_name pn1) hisR ?_
 intro p e s m args below meth c s₁ Bd hml0 hP hK
 obtain ⟨rfl, hZ, hh⟩ := hP
 have hx := Bd.exec
 have D := @hb _ _ Bd.bytes
 have hml : c.maxLocals = 2 := hml0
 have hown : s.vm.findClass SN = some m.cls := findClass_of_methodNamed Bd.named
 have hnm := (name_of_methodNamed Bd.named Bd.method).1
 have X0 : Stand p l e (Rm 1 0 0 14) s m #[(.int p1), (.int p2)] below meth c s₁ [] 0 0 := Stand.of_body Bd
 have e0 : s₁.heap = h0 := by rw [← hh, Bd.state]; rfl
 have N0 := Fr.nil n0
 have K0 : Keep h0 h0 [] := Keep.refl h0 _
 refine G (P := fun o U' => ∃ v L, o = .returned v ∧ Q23 Z p1 p2 w_S h0 n0 v U'.heap L ∧ FrameEnd s o U' L (Rm 1 0 0 14).cells (Rm 1 0 0 14).slots) (fun t k => castTop (ef23 m p1 p2) k) ?_
 refine sG s₁ (mkF m 0 #[vi p1, vi p2] []) ?_
 refine G (fun t k => XS.iloadN X0.here hx rfl (D d23_0) rfl (XS.iloadN X0.here hx rfl (D d23_1) rfl k)) ?_
 obtain ⟨T1, X1, e1, st1⟩ := getS2 X0 hx hZ hown (host := "") (Or.inl (wd109 hw)) Via.refl e0 SI (g := (mkF m 2 #[vi p1, vi p2] [(.int p2), (.int p1)])) rfl (D d23_2)
 refine G st1 ?_
 obtain ⟨_, T2, Lc2, X2, hQ2, st2⟩ := cS X1 hx hZ hown hml (wd111 hw) (wd112 hw) (wd110 hw) (wd113 hw) e1 0 [] (rm24 l Z a0 hw [] p1 p2 w_S h0 n0 Z0 hrS hq1 hq2) pd5 (mkF m 5 #[vi p1, vi p2] [w_S, (.int p2), (.int p1)]) (D d23_5)
 refine G st2 ?_
 obtain ⟨rfl, N2q, e2⟩ := hQ2
 have N2 := Fr.app N0 N2q
 refine G (fun t k => XS.pop X2.here hx rfl (D d23_8) rfl rfl k) ?_
 exact lfV (Q := Q23 Z p1 p2 w_S h0 n0) Bd X2 e2 (D d23_9) ⟨rfl, N2, rfl⟩ (by decide) (by decide)
theorem d22_0 : dc cB22 0 (.iload_n 1) 1 := by decide +kernel
theorem d22_1 : dc cB22 1 (.aload_n 0) 1 := by decide +kernel
theorem d22_2 : dc cB22 2 .arraylength 1 := by decide +kernel
theorem d22_3 : dc cB22 3 (.invokestatic 9) 3 := by decide +kernel
theorem wd106 {Z a0} (hw : HW a0 Z) : (Cond.methodLink SL1 (9 : Nat) y_9).before a0 Z = true := mw hw 106 rfl
theorem wd108 {Z a0} (hw : HW a0 Z) : (Cond.code y_9 cB23 (2 : Nat) (Option.none : Option FieldType)).before a0 Z = true := mw hw 108 rfl
theorem pd6 : parseMethodDescriptor "(II)V" = some ⟨[.int, .int], none⟩ := by decide +kernel
theorem wd107 {Z a0} (hw : HW a0 Z) : (Cond.static y_9).before a0 Z = true := mw hw 107 rfl
theorem d22_6 : dc cB22 6 (.aload_n 0) 1 := by decide +kernel
theorem d22_7 : dc cB22 7 (.iload_n 1) 1 := by decide +kernel
theorem d22_8 : dc cB22 8 .baload 1 := by decide +kernel
theorem d22_9 : dc cB22 9 (.sipush 255) 3 := by decide +kernel
theorem d22_12 : dc cB22 12 .iand 1 := by decide +kernel
theorem d22_13 : dc cB22 13 .i2c 1 := by decide +kernel
theorem d22_14 : dc cB22 14 .ireturn 1 := by decide +kernel
theorem pn3 : plainName SL1 = true := by first | (simp [plainName, overriddenIn]; done) | decide +kernel
def Q22 (Z : State) (a1 : Addr) (p2 : Int32) (k_b : ClassId) (bs : List Int32) (w_n : Int32) (w_S : Value) (h0 : Heap) (n0 : Nat) (v : Option Value) (h : Heap) (L : List Loc) : Prop := v = some (.int ((((own_at bs p2) &&& (255 : Int32)).toUInt32.toUInt16.toUInt32.toInt32).toUInt32.toUInt16.toUInt32.toInt32)) ∧ Fr n0 L ∧ h = h0
theorem ef22 (m : MethodId) (x0 : Addr) (x1 : Int32) : entryFrame m #[(.ref x0), (.int x1)] 2 = mkF m 0 #[.val (.ref x0), .val (.int x1)] [] := by first | (simp [entryFrame, mkF, argsToLocals, Value.category]; done) | rfl
theorem rm22 (l : Launch) (Z : State) (a0 : Array Value) (hw : HW a0 Z) (ws : List Jvm.Cond) (a1 : Addr) (p2 : Int32) (k_b : ClassId) (bs : List Int32) (w_n : Int32) (w_S : Value) (h0 : Heap) (n0 : Nat) (Z0 : n0 ≤ h0.size) (V_b : Arv Z h0 a1 k_b .byte w_n (List.map Value.int bs) (.int (0 : Int32))) (SI : Sta Z h0 PC "SIOOBE_FORMATTER" BF w_S) (hrS : w_S.isRef = true) (hib : ¬ p2 < 0 ∧ p2 < w_n) :
  MetFree l y_10 (head1 (Cond.code y_10 cB22 2 (some .char) :: ws) (Rm 2 0 0 27)) (Pr Z h0 #[(.ref a1), (.int p2)]) Tr (fun _ U o U' => ∃ v L, o = .returned v ∧ Q22 Z a1 p2 k_b bs w_n w_S h0 n0 v U'.heap L ∧ FrameEnd U o U' L (Rm 2 0 0 27).cells (Rm 2 0 0 27).slots) := by
 refine MetFree.of_bodySF (plainFor_of_name pn3) hisR ?_
 intro p e s m args below meth c s₁ Bd hml0 hP hK
 obtain ⟨rfl, hZ, hh⟩ := hP
 have hx := Bd.exec
 have D := @hb _ _ Bd.bytes
 have hml : c.maxLocals = 2 := hml0
 have hown : s.vm.findClass SL1 = some m.cls := findClass_of_methodNamed Bd.named
 have hnm := (name_of_methodNamed Bd.named Bd.method).1
 have X0 : Stand p l e (Rm 2 0 0 27) s m #[(.ref a1), (.int p2)] below meth c s₁ [] 0 0 := Stand.of_body Bd
 have e0 : s₁.heap = h0 := by rw [← hh, Bd.state]; rfl
 have N0 := Fr.nil n0
 have K0 : Keep h0 h0 [] := Keep.refl h0 _
 refine G (P := fun o U' => ∃ v L, o = .returned v ∧ Q22 Z a1 p2 k_b bs w_n w_S h0 n0 v U'.heap L ∧ FrameEnd s o U' L (Rm 2 0 0 27).cells (Rm 2 0 0 27).slots) (fun t k => castTop (ef22 m a1 p2) k) ?_
 refine sG s₁ (mkF m 0 #[vr a1, vi p2] []) ?_
 refine G (fun t k => XS.iloadN X0.here hx rfl (D d22_0) rfl (XS.aloadN X0.here hx rfl (D d22_1) rfl rfl k)) ?_
 obtain ⟨cl1, Ar1, -, Sz1, Ng1, -, -⟩ := id V_b
 refine G (fun t k => X0.arraylength hx (by rw [e0]; exact Ar1.1) (State.isArrayOf_alike hZ.alike Ar1.2.1) (g := (mkF m 2 #[vr a1, vi p2] [(.ref a1), (.int p2)])) rfl rfl (D d22_2) _ k) ?_
 rw [len_of Sz1 Ng1]
 clear Ng1 Sz1 Ar1 cl1
 obtain ⟨_, T2, Lc2, X2, hQ2, st2⟩ := cS X0 hx hZ hown hml (wd106 hw) (wd107 hw) (wd10 hw) (wd108 hw) e0 0 [] (rm23 l Z a0 hw [] p2 w_n w_S h0 n0 Z0 SI hrS hib.1 hib.2) pd6 (mkF m 3 #[vr a1, vi p2] [(.int w_n), (.int p2)]) (D d22_3)
 refine G st2 ?_
 obtain ⟨rfl, N2q, e2⟩ := hQ2
 have N2 := Fr.app N0 N2q
 refine G (fun t k => XS.aloadN X2.here hx rfl (D d22_6) rfl rfl (XS.iloadN X2.here hx rfl (D d22_7) rfl k)) ?_
 obtain ⟨cl3, Ar3, -, Sz3, Ng3, Hs3, -⟩ := id V_b
 have hin3 := inb_of (j := p2) (c := cl3) Sz3 hib
 refine G (fun t k => X2.baloadBytes hx (j := p2) (v := (.int (own_at bs p2))) (by rw [e2]; exact Ar3.1) (State.isArrayOf_alike hZ.alike Ar3.2.1) Ar3.2.2 hin3 (Has.at Hs3 hin3 (own_atv bs p2)) (g := (mkF m 8 #[vr a1, vi p2] [(.int p2), (.ref a1)])) rfl rfl (D d22_8) _ k) ?_
 clear hin3 Hs3 Ng3 Sz3 Ar3 cl3
 refine sG T2 (mkF m 9 #[vr a1, vi p2] [(.int (own_at bs p2))]) ?_
 refine G (fun t k => XS.sipush X2.here hx rfl (D d22_9) (XS.iand X2.here hx rfl (D d22_12) rfl (XS.i2c X2.here hx rfl (D d22_13) rfl k))) ?_
 exact lfN (Q := Q22 Z a1 p2 k_b bs w_n w_S h0 n0) Bd X2 e2 (D d22_14) (by simp) (w := ((((own_at bs p2) &&& (255 : Int32)).toUInt32.toUInt16.toUInt32.toInt32).toUInt32.toUInt16.toUInt32.toInt32)) rfl ⟨rfl, N2, rfl⟩ (by decide) (by decide)
theorem d20_0 : dc cB20 0 (.aload_n 0) 1 := by decide +kernel
theorem d20_1 : dc cB20 1 (.invokevirtual 492) 3 := by decide +kernel
theorem wd97 {Z a0} (hw : HW a0 Z) : (Cond.methodLink SN (492 : Nat) y_6).before a0 Z = true := mw hw 97 rfl
theorem wd101 {Z a0} (hw : HW a0 Z) : (Cond.code y_6 cB21 (1 : Nat) (Option.some FieldType.boolean)).before a0 Z = true := mw hw 101 rfl
theorem pd7 : parseMethodDescriptor "()Z" = some ⟨[], some .boolean⟩ := by decide +kernel
theorem wd98 {Z a0} (hw : HW a0 Z) : (Cond.declares y_6).before a0 Z = true := mw hw 98 rfl
theorem wd100 {Z a0} (hw : HW a0 Z) : (Cond.selects SN y_6 y_6).before a0 Z = true := mw hw 100 rfl
theorem wd99 {Z a0} (hw : HW a0 Z) : (Cond.instanceMethod y_6).before a0 Z = true := mw hw 99 rfl
theorem d20_4 : dc cB20 4 (.ifCond .eq 12) 3 := by decide +kernel
theorem d20_7 : dc cB20 7 (.aload_n 0) 1 := by decide +kernel
theorem d20_8 : dc cB20 8 (.getfield 9) 3 := by decide +kernel
theorem d20_11 : dc cB20 11 (.iload_n 1) 1 := by decide +kernel
theorem d20_12 : dc cB20 12 (.invokestatic 495) 3 := by decide +kernel
theorem wd102 {Z a0} (hw : HW a0 Z) : (Cond.methodLink SN (495 : Nat) y_10).before a0 Z = true := mw hw 102 rfl
theorem wd105 {Z a0} (hw : HW a0 Z) : (Cond.code y_10 cB22 (2 : Nat) (Option.some FieldType.char)).before a0 Z = true := mw hw 105 rfl
theorem wd104 {Z a0} (hw : HW a0 Z) : (Cond.initialized SL1).before a0 Z = true := mw hw 104 rfl
theorem pd8 : parseMethodDescriptor "([BI)C" = some ⟨[(.array .byte), .int], some .char⟩ := by decide +kernel
theorem wd103 {Z a0} (hw : HW a0 Z) : (Cond.static y_10).before a0 Z = true := mw hw 103 rfl
theorem d20_15 : dc cB20 15 .ireturn 1 := by decide +kernel
def Q20 (Z : State) (a1 : Addr) (p2 : Int32) (w_b : Addr) (k_b : ClassId) (bs : List Int32) (w_n : Int32) (wC : Int32) (w_S : Value) (h0 : Heap) (n0 : Nat) (v : Option Value) (h : Heap) (L : List Loc) : Prop := v = some (.int (((((own_at bs p2) &&& (255 : Int32)).toUInt32.toUInt16.toUInt32.toInt32).toUInt32.toUInt16.toUInt32.toInt32).toUInt32.toUInt16.toUInt32.toInt32)) ∧ Fr n0 L ∧ h = h0
theorem ef20 (m : MethodId) (x0 : Addr) (x1 : Int32) : entryFrame m #[(.ref x0), (.int x1)] 2 = mkF m 0 #[.val (.ref x0), .val (.int x1)] [] := by first | (simp [entryFrame, mkF, argsToLocals, Value.category]; done) | rfl
theorem rm20 (l : Launch) (Z : State) (a0 : Array Value) (hw : HW a0 Z) (ws : List Jvm.Cond) (a1 : Addr) (p2 : Int32) (w_b : Addr) (k_b : ClassId) (bs : List Int32) (w_n : Int32) (wC : Int32) (w_S : Value) (h0 : Heap) (n0 : Nat) (Z0 : n0 ≤ h0.size) (E_a1 : Exa Z h0 a1 SN) (F_a1_v : Fld Z h0 a1 SN "value" "[B" (.ref w_b)) (F_a1_c : Fld Z h0 a1 SN "coder" "B" (.int (0 : Int32))) (V_b : Arv Z h0 w_b k_b .byte w_n (List.map Value.int bs) (.int (0 : Int32))) (SC : Sta Z h0 SN "COMPACT_STRINGS" "Z" (.int wC)) (SI : Sta Z h0 PC "SIOOBE_FORMATTER" BF w_S) (hcs : ¬ wC = (0 : Int32)) (hrS : w_S.isRef = true) (hib : ¬ p2 < 0 ∧ p2 < w_n) :
  MetFree l y_11 (head1 (Cond.code y_11 cB20 2 (some .char) :: ws) (Rm 3 0 0 40)) (Pr Z h0 #[(.ref a1), (.int p2)]) Tr (fun _ U o U' => ∃ v L, o = .returned v ∧ Q20 Z a1 p2 w_b k_b bs w_n wC w_S h0 n0 v U'.heap L ∧ FrameEnd U o U' L (Rm 3 0 0 40).cells (Rm 3 0 0 40).slots) := by
 refine MetFree.of_bodySF (plainFor_of_name pn1) hisR ?_
 intro p e s m args below meth c s₁ Bd hml0 hP hK
 obtain ⟨rfl, hZ, hh⟩ := hP
 have hx := Bd.exec
 have D := @hb _ _ Bd.bytes
 have hml : c.maxLocals = 2 := hml0
 have hown : s.vm.findClass SN = some m.cls := findClass_of_methodNamed Bd.named
 have hnm := (name_of_methodNamed Bd.named Bd.method).1
 have X0 : Stand p l e (Rm 3 0 0 40) s m #[(.ref a1), (.int p2)] below meth c s₁ [] 0 0 := Stand.of_body Bd
 have e0 : s₁.heap = h0 := by rw [← hh, Bd.state]; rfl
 have N0 := Fr.nil n0
 have K0 : Keep h0 h0 [] := Keep.refl h0 _
 refine G (P := fun o U' => ∃ v L, o = .returned v ∧ Q20 Z a1 p2 w_b k_b bs w_n wC w_S h0 n0 v U'.heap L ∧ FrameEnd s o U' L (Rm 3 0 0 40).cells (Rm 3 0 0 40).slots) (fun t k => castTop (ef20 m a1 p2) k) ?_
 refine sG s₁ (mkF m 0 #[vr a1, vi p2] []) ?_
 refine G (fun t k => XS.aloadN X0.here hx rfl (D d20_0) rfl rfl k) ?_
 obtain ⟨_, T1, Lc1, X1, hQ1, st1⟩ := cV X0 hx hZ hown hml (wd97 hw) (wd98 hw) (wd100 hw) (wd99 hw) (wd101 hw) (wd10 hw) E_a1 e0 0 [] (rm21 l Z a0 hw [] a1 wC h0 n0 Z0 E_a1 F_a1_c SC hcs) pd7 (mkF m 1 #[vr a1, vi p2] [(.ref a1)]) (D d20_1)
 refine Go.tr st1 ?_
 obtain ⟨rfl, N1q, e1⟩ := hQ1
 have N1 := Fr.app N0 N1q
 refine G (fun t k => XS.ifNo X1.here hx rfl (D d20_4) rfl ((if0 _ _).trans (feq (by decide : ¬ ((1 : Int32) = (0 : Int32)))).1) (XS.aloadN X1.here hx rfl (D d20_7) rfl rfl k)) ?_
 obtain ⟨T2, X2, e2, st2⟩ := getF X1 hx hZ hown (host := "") (Or.inl (wd27 hw)) Via.refl e1 F_a1_v (g := (mkF m 8 #[vr a1, vi p2] [(.ref a1)])) rfl rfl (D d20_8)
 refine G st2 ?_
 refine G (fun t k => XS.iloadN X2.here hx rfl (D d20_11) rfl k) ?_
 obtain ⟨_, T3, Lc3, X3, hQ3, st3⟩ := cS X2 hx hZ hown hml (wd102 hw) (wd103 hw) (wd104 hw) (wd105 hw) e2 0 [] (rm22 l Z a0 hw [] w_b p2 k_b bs w_n w_S h0 n0 Z0 V_b SI hrS hib) pd8 (mkF m 12 #[vr a1, vi p2] [(.int p2), (.ref w_b)]) (D d20_12)
 refine G st3 ?_
 obtain ⟨rfl, N3q, e3⟩ := hQ3
 have N3 := Fr.app N1 N3q
 refine sG T3 (mkF m 15 #[vr a1, vi p2] [(.int ((((own_at bs p2) &&& (255 : Int32)).toUInt32.toUInt16.toUInt32.toInt32).toUInt32.toUInt16.toUInt32.toInt32))]) ?_
 exact lfN (Q := Q20 Z a1 p2 w_b k_b bs w_n wC w_S h0 n0) Bd X3 e3 (D d20_15) (by simp) (w := (((((own_at bs p2) &&& (255 : Int32)).toUInt32.toUInt16.toUInt32.toInt32).toUInt32.toUInt16.toUInt32.toInt32).toUInt32.toUInt16.toUInt32.toInt32)) rfl ⟨rfl, N3, rfl⟩ (by decide) (by decide)
def chr (b : Int32) : Int32 := ((((b &&& (255 : Int32)).toUInt32.toUInt16.toUInt32.toInt32).toUInt32.toUInt16.toUInt32.toInt32).toUInt32.toUInt16.toUInt32.toInt32)
def dig (c : Int32) : Prop := 48 ≤ c.toInt ∧ c.toInt ≤ 57
theorem own_inc {i n : Int32} {d : Nat} (h : 0 ≤ i.toInt ∧ i.toInt + ((d + 1 : Nat) : Int) = n.toInt) : (i + (1 : Int32)).toInt = i.toInt + 1 := by
 have := Int32.toInt_lt n
 rw [Int32.toInt_add, show (1 : Int32).toInt = 1 from rfl, Int.bmod_eq_of_le (by omega) (by omega)]
theorem own_ilt {i n : Int32} {d : Nat} (h : 0 ≤ i.toInt ∧ i.toInt + ((d + 1 : Nat) : Int) = n.toInt) : i < n := by
 rw [Int32.lt_iff_toInt_lt]
 omega
theorem own_ige {i n : Int32} (h : 0 ≤ i.toInt ∧ i.toInt + ((0 : Nat) : Int) = n.toInt) : ¬ i < n := by
 rw [Int32.lt_iff_toInt_lt]
 omega
theorem own_iib {i n m : Int32} {d : Nat} (h : 0 ≤ i.toInt ∧ i.toInt + ((d + 1 : Nat) : Int) = n.toInt) (q : n.toInt ≤ m.toInt) : ¬ i < 0 ∧ i < m := by
 rw [Int32.lt_iff_toInt_lt, Int32.lt_iff_toInt_lt, show (0 : Int32).toInt = 0 from rfl]
 omega
def AllD (bs : List Int32) (a b : Int) : Prop := ∀ j : Int32, a ≤ j.toInt → j.toInt < b → dig (chr (own_at bs j))
theorem AllD.start {bs : List Int32} {a : Int} : AllD bs a a := fun j h1 h2 => by omega
theorem AllD.step {bs : List Int32} {a : Int} {i i' : Int32} (h : AllD bs a i.toInt) (e : i'.toInt = i.toInt + 1) (q1 : ¬ (chr (own_at bs i)) < (48 : Int32)) (q2 : ¬ (57 : Int32) < (chr (own_at bs i))) : AllD bs a i'.toInt := fun j h1 h2 => by
 by_cases hj : j.toInt < i.toInt
 ·exact h j h1 hj
 ·have : j = i := Int32.toInt_inj.mp (by omega)
  subst this
  rw [Int32.lt_iff_toInt_lt, show (48 : Int32).toInt = 48 from rfl] at q1
  rw [Int32.lt_iff_toInt_lt, show (57 : Int32).toInt = 57 from rfl] at q2
  unfold dig
  omega
theorem AllD.not {bs : List Int32} {a b : Int} {i : Int32} (h1 : a ≤ i.toInt) (h2 : i.toInt < b) (q : (chr (own_at bs i)) < (48 : Int32) ∨ (57 : Int32) < (chr (own_at bs i))) : ¬ AllD bs a b := fun h => by
 have := h i h1 h2
 rw [Int32.lt_iff_toInt_lt, show (48 : Int32).toInt = 48 from rfl, Int32.lt_iff_toInt_lt, show (57 : Int32).toInt = 57 from rfl] at q
 unfold dig at this
 omega
theorem d19_0 : dc cB19 0 (.iload_n 1) 1 := by decide +kernel
theorem d19_1 : dc cB19 1 (.istore_n 3) 1 := by decide +kernel
theorem d19_2 : dc cB19 2 (.iload_n 3) 1 := by decide +kernel
theorem d19_3 : dc cB19 3 (.iload_n 2) 1 := by decide +kernel
theorem d19_4 : dc cB19 4 (.if_icmp .ge 32) 3 := by decide +kernel
theorem d19_36 : dc cB19 36 (.iconst 1) 1 := by decide +kernel
theorem d19_37 : dc cB19 37 .ireturn 1 := by decide +kernel
theorem pn4 : plainName NU = true := by first | (simp [plainName, overriddenIn]; done) | decide +kernel
def Q19e (Z : State) (a1 : Addr) (p2 : Int32) (p3 : Int32) (h0 : Heap) (n0 : Nat) (v : Option Value) (h : Heap) (L : List Loc) : Prop := v = some (.int (1 : Int32)) ∧ Fr n0 L ∧ h = h0
theorem ef19e (m : MethodId) (x0 : Addr) (x1 : Int32) (x2 : Int32) : entryFrame m #[(.ref x0), (.int x1), (.int x2)] 5 = mkF m 0 #[.val (.ref x0), .val (.int x1), .val (.int x2), .unset, .unset] [] := by first | (simp [entryFrame, mkF, argsToLocals, Value.category]; done) | rfl
theorem rm19e (l : Launch) (Z : State) (a0 : Array Value) (hw : HW a0 Z) (ws : List Jvm.Cond) (a1 : Addr) (p2 : Int32) (p3 : Int32) (h0 : Heap) (n0 : Nat) (Z0 : n0 ≤ h0.size) (hge : ¬ p2 < p3) :
  MetFree l y_12 (head1 (Cond.code y_12 cB19 5 (some .boolean) :: ws) (Rm 0 0 0 0)) (Pr Z h0 #[(.ref a1), (.int p2), (.int p3)]) Tr (fun _ U o U' => ∃ v L, o = .returned v ∧ Q19e Z a1 p2 p3 h0 n0 v U'.heap L ∧ FrameEnd U o U' L (Rm 0 0 0 0).cells (Rm 0 0 0 0).slots) := by
 refine MetFree.of_bodySF (plainFor_of_name pn4) hisR ?_
 intro p e s m args below meth c s₁ Bd hml0 hP hK
 obtain ⟨rfl, hZ, hh⟩ := hP
 have hx := Bd.exec
 have D := @hb _ _ Bd.bytes
 have hml : c.maxLocals = 5 := hml0
 have hown : s.vm.findClass NU = some m.cls := findClass_of_methodNamed Bd.named
 have hnm := (name_of_methodNamed Bd.named Bd.method).1
 have X0 : Stand p l e (Rm 0 0 0 0) s m #[(.ref a1), (.int p2), (.int p3)] below meth c s₁ [] 0 0 := Stand.of_body Bd
 have e0 : s₁.heap = h0 := by rw [← hh, Bd.state]; rfl
 have N0 := Fr.nil n0
 have K0 : Keep h0 h0 [] := Keep.refl h0 _
 refine G (P := fun o U' => ∃ v L, o = .returned v ∧ Q19e Z a1 p2 p3 h0 n0 v U'.heap L ∧ FrameEnd s o U' L (Rm 0 0 0 0).cells (Rm 0 0 0 0).slots) (fun t k => castTop (ef19e m a1 p2 p3) k) ?_
 refine sG s₁ (mkF m 0 #[vr a1, vi p2, vi p3, us, us] []) ?_
 refine G (fun t k => XS.iloadN X0.here hx rfl (D d19_0) rfl (XS.istoreN X0.here hx rfl (D d19_1) rfl (l' := #[vr a1, vi p2, vi p3, vi p2, us]) rfl (XS.iloadN X0.here hx rfl (D d19_2) rfl (XS.iloadN X0.here hx rfl (D d19_3) rfl (XS.icmpYes X0.here hx rfl (pc0 := 4) (pc' := 36) rfl (D d19_4) rfl (flt (show ¬ (p2 < p3) from hge)).2.1 (by decide) (by decide) (XS.iconst X0.here hx rfl (D d19_36) k)))))) ?_
 exact lfN (Q := Q19e Z a1 p2 p3 h0 n0) Bd X0 e0 (D d19_37) (by simp) (w := (1 : Int32)) rfl ⟨rfl, N0, rfl⟩ (by decide) (by decide)
theorem d19_7 : dc cB19 7 (.aload_n 0) 1 := by decide +kernel
theorem d19_8 : dc cB19 8 (.iload_n 3) 1 := by decide +kernel
theorem d19_9 : dc cB19 9 (.invokevirtual 48) 3 := by decide +kernel
theorem wd92 {Z a0} (hw : HW a0 Z) : (Cond.methodLink NU (48 : Nat) y_11).before a0 Z = true := mw hw 92 rfl
theorem wd96 {Z a0} (hw : HW a0 Z) : (Cond.code y_11 cB20 (2 : Nat) (Option.some FieldType.char)).before a0 Z = true := mw hw 96 rfl
theorem pd9 : parseMethodDescriptor "(I)C" = some ⟨[.int], some .char⟩ := by decide +kernel
theorem wd93 {Z a0} (hw : HW a0 Z) : (Cond.declares y_11).before a0 Z = true := mw hw 93 rfl
theorem wd95 {Z a0} (hw : HW a0 Z) : (Cond.selects SN y_11 y_11).before a0 Z = true := mw hw 95 rfl
theorem wd94 {Z a0} (hw : HW a0 Z) : (Cond.instanceMethod y_11).before a0 Z = true := mw hw 94 rfl
theorem d19_12 : dc cB19 12 (.istore 4) 2 := by decide +kernel
theorem d19_14 : dc cB19 14 (.iload 4) 2 := by decide +kernel
theorem d19_16 : dc cB19 16 (.bipush 48) 2 := by decide +kernel
theorem d19_18 : dc cB19 18 (.if_icmp .lt 10) 3 := by decide +kernel
theorem d19_28 : dc cB19 28 (.iconst 0) 1 := by decide +kernel
theorem d19_29 : dc cB19 29 .ireturn 1 := by decide +kernel
theorem d19_21 : dc cB19 21 (.iload 4) 2 := by decide +kernel
theorem d19_23 : dc cB19 23 (.bipush 57) 2 := by decide +kernel
theorem d19_25 : dc cB19 25 (.if_icmp .le 5) 3 := by decide +kernel
theorem d19_30 : dc cB19 30 (.iinc 3 1) 3 := by decide +kernel
theorem d19_33 : dc cB19 33 (.goto (-31)) 3 := by decide +kernel
def Q19 (Z : State) (a1 : Addr) (p2 : Int32) (p3 : Int32) (w_b : Addr) (k_b : ClassId) (bs : List Int32) (w_n : Int32) (wC : Int32) (w_S : Value) (h0 : Heap) (n0 : Nat) (v : Option Value) (h : Heap) (L : List Loc) : Prop := ∃ zr_19 : Int32, v = some (.int zr_19) ∧ Fr n0 L ∧ h = h0 ∧ ((zr_19 = 1 ∧ AllD bs p2.toInt p3.toInt) ∨ (zr_19 = 0 ∧ ¬ AllD bs p2.toInt p3.toInt))
theorem ef19 (m : MethodId) (x0 : Addr) (x1 : Int32) (x2 : Int32) : entryFrame m #[(.ref x0), (.int x1), (.int x2)] 5 = mkF m 0 #[.val (.ref x0), .val (.int x1), .val (.int x2), .unset, .unset] [] := by first | (simp [entryFrame, mkF, argsToLocals, Value.category]; done) | rfl
theorem rm19 (l : Launch) (Z : State) (a0 : Array Value) (hw : HW a0 Z) (ws : List Jvm.Cond) (a1 : Addr) (p2 : Int32) (p3 : Int32) (w_b : Addr) (k_b : ClassId) (bs : List Int32) (w_n : Int32) (wC : Int32) (w_S : Value) (h0 : Heap) (n0 : Nat) (Z0 : n0 ≤ h0.size) (E_a1 : Exa Z h0 a1 SN) (F_a1_v : Fld Z h0 a1 SN "value" "[B" (.ref w_b)) (F_a1_c : Fld Z h0 a1 SN "coder" "B" (.int (0 : Int32))) (V_b : Arv Z h0 w_b k_b .byte w_n (List.map Value.int bs) (.int (0 : Int32))) (SC : Sta Z h0 SN "COMPACT_STRINGS" "Z" (.int wC)) (SI : Sta Z h0 PC "SIOOBE_FORMATTER" BF w_S) (hcs : ¬ wC = (0 : Int32)) (hrS : w_S.isRef = true) (hft : 0 ≤ p2.toInt ∧ p2.toInt ≤ p3.toInt) (htn : p3.toInt ≤ w_n.toInt) :
  MetFree l y_12 (head1 (Cond.code y_12 cB19 5 (some .boolean) :: ws) (Rm 4 0 0 53)) (Pr Z h0 #[(.ref a1), (.int p2), (.int p3)]) Tr (fun _ U o U' => ∃ v L, o = .returned v ∧ Q19 Z a1 p2 p3 w_b k_b bs w_n wC w_S h0 n0 v U'.heap L ∧ FrameEnd U o U' L (Rm 4 0 0 53).cells (Rm 4 0 0 53).slots) := by
 refine MetFree.of_bodySF (plainFor_of_name pn4) hisR ?_
 intro p e s m args below meth c s₁ Bd hml0 hP hK
 obtain ⟨rfl, hZ, hh⟩ := hP
 have hx := Bd.exec
 have D := @hb _ _ Bd.bytes
 have hml : c.maxLocals = 5 := hml0
 have hown : s.vm.findClass NU = some m.cls := findClass_of_methodNamed Bd.named
 have hnm := (name_of_methodNamed Bd.named Bd.method).1
 have X0 : Stand p l e (Rm 4 0 0 53) s m #[(.ref a1), (.int p2), (.int p3)] below meth c s₁ [] 0 0 := Stand.of_body Bd
 have e0 : s₁.heap = h0 := by rw [← hh, Bd.state]; rfl
 have N0 := Fr.nil n0
 have K0 : Keep h0 h0 [] := Keep.refl h0 _
 refine G (P := fun o U' => ∃ v L, o = .returned v ∧ Q19 Z a1 p2 p3 w_b k_b bs w_n wC w_S h0 n0 v U'.heap L ∧ FrameEnd s o U' L (Rm 4 0 0 53).cells (Rm 4 0 0 53).slots) (fun t k => castTop (ef19 m a1 p2 p3) k) ?_
 refine sG s₁ (mkF m 0 #[vr a1, vi p2, vi p3, us, us] []) ?_
 refine G (fun t k => XS.iloadN X0.here hx rfl (D d19_0) rfl (XS.istoreN X0.here hx rfl (D d19_1) rfl (l' := #[vr a1, vi p2, vi p3, vi p2, us]) rfl k)) ?_
 refine sG s₁ (mkF m 2 #[vr a1, vi p2, vi p3, vi p2, us] []) ?_
 have J1 : ∀ (dd : Nat) (TJ : State) (locsJ : List Loc) (i : Int32) (j4 : Slot), Stand p l e (Rm 4 0 0 53) s m #[(.ref a1), (.int p2), (.int p3)] below meth c TJ locsJ 0 0 → TJ.heap = h0 → Fr n0 locsJ → (0 ≤ i.toInt ∧ i.toInt + (dd : Int) = p3.toInt) → (AllD bs p2.toInt i.toInt ∧ p2.toInt ≤ i.toInt) → (j4 = .unset ∨ ∃ x, j4 = .val (.int x)) → Go p.tables e below (TJ.setTop (mkF m 2 #[vr a1, vi p2, vi p3, vi i, j4] [])) (fun o U' => ∃ v L, o = .returned v ∧ Q19 Z a1 p2 p3 w_b k_b bs w_n wC w_S h0 n0 v U'.heap L ∧ FrameEnd s o U' L (Rm 4 0 0 53).cells (Rm 4 0 0 53).slots) := by
  intro dd
  induction dd with
  | zero =>
   intro TJ locsJ i j4 XJ eJ NJ hi hA hj4
   refine G (fun t k => XS.iloadN XJ.here hx rfl (D d19_2) rfl (XS.iloadN XJ.here hx rfl (D d19_3) rfl k)) ?_
   have hf2 : ¬ (i < p3) := own_ige hi
   refine G (fun t k => XS.icmpYes XJ.here hx rfl (pc0 := 4) (pc' := 36) rfl (D d19_4) rfl (flt hf2).2.1 (by decide) (by decide) (XS.iconst XJ.here hx rfl (D d19_36) k)) ?_
   exact lfN (Q := Q19 Z a1 p2 p3 w_b k_b bs w_n wC w_S h0 n0) Bd XJ eJ (D d19_37) (by simp) (w := (1 : Int32)) rfl ⟨(1 : Int32), rfl, NJ, rfl, (Or.inl ⟨rfl, by have := hi.2; rw [show p3.toInt = i.toInt by omega]; exact hA.1⟩)⟩ (by decide) (by decide)
  | succ dd ih =>
   intro TJ locsJ i j4 XJ eJ NJ hi hA hj4
   refine G (fun t k => XS.iloadN XJ.here hx rfl (D d19_2) rfl (XS.iloadN XJ.here hx rfl (D d19_3) rfl k)) ?_
   have hf3 : i < p3 := own_ilt hi
   refine G (fun t k => XS.icmpNo XJ.here hx rfl (D d19_4) rfl (tlt hf3).2.1 (XS.aloadN XJ.here hx rfl (D d19_7) rfl rfl (XS.iloadN XJ.here hx rfl (D d19_8) rfl k))) ?_
   obtain ⟨_, T4, Lc4, X4, hQ4, st4⟩ := cV XJ hx hZ hown hml (wd92 hw) (wd93 hw) (wd95 hw) (wd94 hw) (wd96 hw) (wd10 hw) E_a1 eJ 0 [] (rm20 l Z a0 hw [] a1 i w_b k_b bs w_n wC w_S h0 n0 Z0 E_a1 F_a1_v F_a1_c V_b SC SI hcs hrS (own_iib hi htn)) pd9 (mkF m 9 #[vr a1, vi p2, vi p3, vi i, j4] [(.int i), (.ref a1)]) (D d19_9)
   refine Go.tr st4 ?_
   obtain ⟨rfl, N4q, e4⟩ := hQ4
   have N4 := Fr.app NJ N4q
   refine G (fun t k => XS.istore X4.here hx rfl (D d19_12) rfl (l' := #[vr a1, vi p2, vi p3, vi i, vi (chr (own_at bs i))]) (by rcases hj4 with hq | ⟨_, hq⟩ <;> subst hq <;> rfl) k) ?_
   refine sG T4 (mkF m 14 #[vr a1, vi p2, vi p3, vi i, vi (chr (own_at bs i))] []) ?_
   refine G (fun t k => XS.iload X4.here hx rfl (D d19_14) rfl (XS.bipush X4.here hx rfl (D d19_16) k)) ?_
   by_cases hc5 : (chr (own_at bs i)) < (48 : Int32)
   ·refine G (fun t k => XS.icmpYes X4.here hx rfl (pc0 := 18) (pc' := 28) rfl (D d19_18) rfl (tlt hc5).1 (by decide) (by decide) (XS.iconst X4.here hx rfl (D d19_28) k)) ?_
    exact lfN (Q := Q19 Z a1 p2 p3 w_b k_b bs w_n wC w_S h0 n0) Bd X4 e4 (D d19_29) (by simp) (w := (0 : Int32)) rfl ⟨(0 : Int32), rfl, N4, rfl, (Or.inr ⟨rfl, AllD.not hA.2 (by have := hi.2; omega) (Or.inl hc5)⟩)⟩ (by decide) (by decide)
   ·refine G (fun t k => XS.icmpNo X4.here hx rfl (D d19_18) rfl (flt hc5).1 (XS.iload X4.here hx rfl (D d19_21) rfl (XS.bipush X4.here hx rfl (D d19_23) k))) ?_
    by_cases hc6 : (57 : Int32) < (chr (own_at bs i))
    ·refine G (fun t k => XS.icmpNo X4.here hx rfl (D d19_25) rfl (tlt hc6).2.2.2 (XS.iconst X4.here hx rfl (D d19_28) k)) ?_
     refine sG T4 (mkF m 29 #[vr a1, vi p2, vi p3, vi i, vi (chr (own_at bs i))] [(.int 0)]) ?_
     exact lfN (Q := Q19 Z a1 p2 p3 w_b k_b bs w_n wC w_S h0 n0) Bd X4 e4 (D d19_29) (by simp) (w := (0 : Int32)) rfl ⟨(0 : Int32), rfl, N4, rfl, (Or.inr ⟨rfl, AllD.not hA.2 (by have := hi.2; omega) (Or.inr hc6)⟩)⟩ (by decide) (by decide)
    ·refine G (fun t k => XS.icmpYes X4.here hx rfl (pc0 := 25) (pc' := 30) rfl (D d19_25) rfl (flt hc6).2.2.2 (by decide) (by decide) (XS.iinc X4.here hx rfl (D d19_30) rfl (l' := #[vr a1, vi p2, vi p3, vi (i + (1 : Int32)), vi (chr (own_at bs i))]) rfl k)) ?_
     refine sG T4 (mkF m 33 #[vr a1, vi p2, vi p3, vi (i + (1 : Int32)), vi (chr (own_at bs i))] []) ?_
     refine G (fun t k => XS.goto X4.here hx rfl (pc0 := 33) (pc' := 2) rfl (D d19_33) (by decide) (by decide) k) ?_
     refine sG T4 (mkF m 2 #[vr a1, vi p2, vi p3, vi (i + (1 : Int32)), vi (chr (own_at bs i))] []) ?_
     exact ih _ _ (i + (1 : Int32)) (.val (.int (chr (own_at bs i)))) X4 e4 N4 ⟨by have := own_inc hi; omega, by have := own_inc hi; have := hi.2; omega⟩ ⟨AllD.step hA.1 (own_inc hi) hc5 hc6, by have := own_inc hi; have := hA.2; omega⟩ (Or.inr ⟨_, rfl⟩)
 exact J1 (p3.toInt - p2.toInt).toNat _ _ p2 .unset X0 e0 N0 ⟨hft.1, by have := hft.2; omega⟩ ⟨AllD.start, Int.le_refl _⟩ (Or.inl rfl)
def NoP (bs : List Int32) (a b : Int) : Prop := ∀ j : Int32, a ≤ j.toInt → j.toInt < b → ¬ own_at bs j = (46 : Int32)
def Idx (bs : List Int32) (a n : Int) (r : Int32) : Prop := (r = (-1 : Int32) ∧ NoP bs a n) ∨ (a ≤ r.toInt ∧ r.toInt < n ∧ own_at bs r = (46 : Int32) ∧ NoP bs a r.toInt)
theorem NoP.start {bs : List Int32} {a b : Int} (h : b ≤ a) : NoP bs a b := fun j h1 h2 => by omega
theorem NoP.step {bs : List Int32} {a : Int} {i i' : Int32} (h : NoP bs a i.toInt) (e : i'.toInt = i.toInt + 1) (q : ¬ own_at bs i = (46 : Int32)) : NoP bs a i'.toInt := fun j h1 h2 => by
 by_cases hj : j.toInt < i.toInt
 ·exact h j h1 hj
 ·have : j = i := Int32.toInt_inj.mp (by omega)
  subst this
  exact q
theorem d43_0 : dc cB43 0 (.iload_n 0) 1 := by decide +kernel
theorem d43_1 : dc cB43 1 (.iload_n 1) 1 := by decide +kernel
theorem d43_2 : dc cB43 2 (.if_icmp .gt 7) 3 := by decide +kernel
theorem d43_9 : dc cB43 9 (.iload_n 1) 1 := by decide +kernel
theorem d43_10 : dc cB43 10 .ireturn 1 := by decide +kernel
theorem d43_5 : dc cB43 5 (.iload_n 0) 1 := by decide +kernel
theorem d43_6 : dc cB43 6 (.goto 4) 3 := by decide +kernel
theorem pn5 : plainFor y_13 = true := by decide +kernel
def f43 (p1 : Int32) (p2 : Int32) : Int32 := (if p2 < p1 then p2 else p1)
def Q43 (Z : State) (p1 : Int32) (p2 : Int32) (h0 : Heap) (n0 : Nat) (v : Option Value) (h : Heap) (L : List Loc) : Prop := v = some (.int (f43 p1 p2)) ∧ Fr n0 L ∧ h = h0
theorem ef43 (m : MethodId) (x0 : Int32) (x1 : Int32) : entryFrame m #[(.int x0), (.int x1)] 2 = mkF m 0 #[.val (.int x0), .val (.int x1)] [] := by first | (simp [entryFrame, mkF, argsToLocals, Value.category]; done) | rfl
theorem rm43 (l : Launch) (Z : State) (a0 : Array Value) (hw : HW a0 Z) (ws : List Jvm.Cond) (p1 : Int32) (p2 : Int32) (h0 : Heap) (n0 : Nat) (Z0 : n0 ≤ h0.size) :
  MetFree l y_13 (head1 (Cond.code y_13 cB43 2 (some .int) :: ws) (Rm 0 0 0 0)) (Pr Z h0 #[(.int p1), (.int p2)]) Tr (fun _ U o U' => ∃ v L, o = .returned v ∧ Q43 Z p1 p2 h0 n0 v U'.heap L ∧ FrameEnd U o U' L (Rm 0 0 0 0).cells (Rm 0 0 0 0).slots) := by
 refine MetFree.of_bodySF (Jvm.Free.JP.mathPlain rfl (by decide +kernel)) hisR ?_
 intro p e s m args below meth c s₁ Bd hml0 hP hK
 obtain ⟨rfl, hZ, hh⟩ := hP
 have hx := Bd.exec
 have D := @hb _ _ Bd.bytes
 have hml : c.maxLocals = 2 := hml0
 have hown : s.vm.findClass "java/lang/Math" = some m.cls := findClass_of_methodNamed Bd.named
 have hnm := (name_of_methodNamed Bd.named Bd.method).1
 have X0 : Stand p l e (Rm 0 0 0 0) s m #[(.int p1), (.int p2)] below meth c s₁ [] 0 0 := Stand.of_body Bd
 have e0 : s₁.heap = h0 := by rw [← hh, Bd.state]; rfl
 have N0 := Fr.nil n0
 have K0 : Keep h0 h0 [] := Keep.refl h0 _
 refine G (P := fun o U' => ∃ v L, o = .returned v ∧ Q43 Z p1 p2 h0 n0 v U'.heap L ∧ FrameEnd s o U' L (Rm 0 0 0 0).cells (Rm 0 0 0 0).slots) (fun t k => castTop (ef43 m p1 p2) k) ?_
 refine sG s₁ (mkF m 0 #[vi p1, vi p2] []) ?_
 refine G (fun t k => XS.iloadN X0.here hx rfl (D d43_0) rfl (XS.iloadN X0.here hx rfl (D d43_1) rfl k)) ?_
 by_cases hc1 : p2 < p1
 ·refine G (fun t k => XS.icmpYes X0.here hx rfl (pc0 := 2) (pc' := 9) rfl (D d43_2) rfl (tlt hc1).2.2.1 (by decide) (by decide) (XS.iloadN X0.here hx rfl (D d43_9) rfl k)) ?_
  exact lfI (Q := Q43 Z p1 p2 h0 n0) Bd X0 e0 (D d43_10) (w := p2) ⟨(by unfold f43; simp only [if_pos hc1]), N0, rfl⟩ (by decide) (by decide)
 ·refine G (fun t k => XS.icmpNo X0.here hx rfl (D d43_2) rfl (flt hc1).2.2.1 (XS.iloadN X0.here hx rfl (D d43_5) rfl (XS.goto X0.here hx rfl (pc0 := 6) (pc' := 10) rfl (D d43_6) (by decide) (by decide) k))) ?_
  exact lfI (Q := Q43 Z p1 p2 h0 n0) Bd X0 e0 (D d43_10) (w := p1) ⟨(by unfold f43; simp only [if_neg hc1]), N0, rfl⟩ (by decide) (by decide)
theorem d42_0 : dc cB42 0 (.iload_n 0) 1 := by decide +kernel
theorem d42_1 : dc cB42 1 (.iload_n 1) 1 := by decide +kernel
theorem d42_2 : dc cB42 2 (.if_icmp .lt 7) 3 := by decide +kernel
theorem d42_9 : dc cB42 9 (.iload_n 1) 1 := by decide +kernel
theorem d42_10 : dc cB42 10 .ireturn 1 := by decide +kernel
theorem d42_5 : dc cB42 5 (.iload_n 0) 1 := by decide +kernel
theorem d42_6 : dc cB42 6 (.goto 4) 3 := by decide +kernel
theorem pn6 : plainFor y_14 = true := by decide +kernel
def f42 (p1 : Int32) (p2 : Int32) : Int32 := (if p1 < p2 then p2 else p1)
def Q42 (Z : State) (p1 : Int32) (p2 : Int32) (h0 : Heap) (n0 : Nat) (v : Option Value) (h : Heap) (L : List Loc) : Prop := v = some (.int (f42 p1 p2)) ∧ Fr n0 L ∧ h = h0
theorem ef42 (m : MethodId) (x0 : Int32) (x1 : Int32) : entryFrame m #[(.int x0), (.int x1)] 2 = mkF m 0 #[.val (.int x0), .val (.int x1)] [] := by first | (simp [entryFrame, mkF, argsToLocals, Value.category]; done) | rfl
theorem rm42 (l : Launch) (Z : State) (a0 : Array Value) (hw : HW a0 Z) (ws : List Jvm.Cond) (p1 : Int32) (p2 : Int32) (h0 : Heap) (n0 : Nat) (Z0 : n0 ≤ h0.size) :
  MetFree l y_14 (head1 (Cond.code y_14 cB42 2 (some .int) :: ws) (Rm 0 0 0 0)) (Pr Z h0 #[(.int p1), (.int p2)]) Tr (fun _ U o U' => ∃ v L, o = .returned v ∧ Q42 Z p1 p2 h0 n0 v U'.heap L ∧ FrameEnd U o U' L (Rm 0 0 0 0).cells (Rm 0 0 0 0).slots) := by
 refine MetFree.of_bodySF (Jvm.Free.JP.mathPlain rfl (by decide +kernel)) hisR ?_
 intro p e s m args below meth c s₁ Bd hml0 hP hK
 obtain ⟨rfl, hZ, hh⟩ := hP
 have hx := Bd.exec
 have D := @hb _ _ Bd.bytes
 have hml : c.maxLocals = 2 := hml0
 have hown : s.vm.findClass "java/lang/Math" = some m.cls := findClass_of_methodNamed Bd.named
 have hnm := (name_of_methodNamed Bd.named Bd.method).1
 have X0 : Stand p l e (Rm 0 0 0 0) s m #[(.int p1), (.int p2)] below meth c s₁ [] 0 0 := Stand.of_body Bd
 have e0 : s₁.heap = h0 := by rw [← hh, Bd.state]; rfl
 have N0 := Fr.nil n0
 have K0 : Keep h0 h0 [] := Keep.refl h0 _
 refine G (P := fun o U' => ∃ v L, o = .returned v ∧ Q42 Z p1 p2 h0 n0 v U'.heap L ∧ FrameEnd s o U' L (Rm 0 0 0 0).cells (Rm 0 0 0 0).slots) (fun t k => castTop (ef42 m p1 p2) k) ?_
 refine sG s₁ (mkF m 0 #[vi p1, vi p2] []) ?_
 refine G (fun t k => XS.iloadN X0.here hx rfl (D d42_0) rfl (XS.iloadN X0.here hx rfl (D d42_1) rfl k)) ?_
 by_cases hc1 : p1 < p2
 ·refine G (fun t k => XS.icmpYes X0.here hx rfl (pc0 := 2) (pc' := 9) rfl (D d42_2) rfl (tlt hc1).1 (by decide) (by decide) (XS.iloadN X0.here hx rfl (D d42_9) rfl k)) ?_
  exact lfI (Q := Q42 Z p1 p2 h0 n0) Bd X0 e0 (D d42_10) (w := p2) ⟨(by unfold f42; simp only [if_pos hc1]), N0, rfl⟩ (by decide) (by decide)
 ·refine G (fun t k => XS.icmpNo X0.here hx rfl (D d42_2) rfl (flt hc1).1 (XS.iloadN X0.here hx rfl (D d42_5) rfl (XS.goto X0.here hx rfl (pc0 := 6) (pc' := 10) rfl (D d42_6) (by decide) (by decide) k))) ?_
  exact lfI (Q := Q42 Z p1 p2 h0 n0) Bd X0 e0 (D d42_10) (w := p1) ⟨(by unfold f42; simp only [if_neg hc1]), N0, rfl⟩ (by decide) (by decide)
theorem d41_0 : dc cB41 0 (.iload_n 0) 1 := by decide +kernel
theorem d41_1 : dc cB41 1 (.ifCond .lt 14) 3 := by decide +kernel
theorem d41_4 : dc cB41 4 (.iload_n 0) 1 := by decide +kernel
theorem d41_5 : dc cB41 5 (.sipush 255) 3 := by decide +kernel
theorem d41_8 : dc cB41 8 (.if_icmp .gt 7) 3 := by decide +kernel
theorem d41_11 : dc cB41 11 (.iconst 1) 1 := by decide +kernel
theorem d41_12 : dc cB41 12 (.goto 4) 3 := by decide +kernel
theorem d41_16 : dc cB41 16 .ireturn 1 := by decide +kernel
def Q41 (Z : State)  (h0 : Heap) (n0 : Nat) (v : Option Value) (h : Heap) (L : List Loc) : Prop := v = some (.int (1 : Int32)) ∧ Fr n0 L ∧ h = h0
theorem ef41 (m : MethodId)  : entryFrame m #[(.int (46 : Int32))] 1 = mkF m 0 #[.val (.int (46 : Int32))] [] := by first | (simp [entryFrame, mkF, argsToLocals, Value.category]; done) | rfl
theorem rm41 (l : Launch) (Z : State) (a0 : Array Value) (hw : HW a0 Z) (ws : List Jvm.Cond)  (h0 : Heap) (n0 : Nat) (Z0 : n0 ≤ h0.size) :
  MetFree l y_15 (head1 (Cond.code y_15 cB41 1 (some .boolean) :: ws) (Rm 0 0 0 0)) (Pr Z h0 #[(.int (46 : Int32))]) Tr (fun _ U o U' => ∃ v L, o = .returned v ∧ Q41 Z h0 n0 v U'.heap L ∧ FrameEnd U o U' L (Rm 0 0 0 0).cells (Rm 0 0 0 0).slots) := by
 refine MetFree.of_bodySF (plainFor_of_name pn3) hisR ?_
 intro p e s m args below meth c s₁ Bd hml0 hP hK
 obtain ⟨rfl, hZ, hh⟩ := hP
 have hx := Bd.exec
 have D := @hb _ _ Bd.bytes
 have hml : c.maxLocals = 1 := hml0
 have hown : s.vm.findClass SL1 = some m.cls := findClass_of_methodNamed Bd.named
 have hnm := (name_of_methodNamed Bd.named Bd.method).1
 have X0 : Stand p l e (Rm 0 0 0 0) s m #[(.int (46 : Int32))] below meth c s₁ [] 0 0 := Stand.of_body Bd
 have e0 : s₁.heap = h0 := by rw [← hh, Bd.state]; rfl
 have N0 := Fr.nil n0
 have K0 : Keep h0 h0 [] := Keep.refl h0 _
 refine G (P := fun o U' => ∃ v L, o = .returned v ∧ Q41 Z h0 n0 v U'.heap L ∧ FrameEnd s o U' L (Rm 0 0 0 0).cells (Rm 0 0 0 0).slots) (fun t k => castTop (ef41 m ) k) ?_
 refine sG s₁ (mkF m 0 #[vi 46] []) ?_
 refine G (fun t k => XS.iloadN X0.here hx rfl (D d41_0) rfl (XS.ifNo X0.here hx rfl (D d41_1) rfl ((if0 _ _).trans (flt (by decide : ¬ ((46 : Int32) < (0 : Int32)))).1) (XS.iloadN X0.here hx rfl (D d41_4) rfl (XS.sipush X0.here hx rfl (D d41_5) (XS.icmpNo X0.here hx rfl (D d41_8) rfl (flt (by decide : ¬ ((255 : Int32) < (46 : Int32)))).2.2.1 (XS.iconst X0.here hx rfl (D d41_11) k)))))) ?_
 refine G (fun t k => XS.goto X0.here hx rfl (pc0 := 12) (pc' := 16) rfl (D d41_12) (by decide) (by decide) k) ?_
 refine sG s₁ (mkF m 16 #[vi 46] [(.int 1)]) ?_
 exact lfN (Q := Q41 Z h0 n0) Bd X0 e0 (D d41_16) (by simp) (w := (1 : Int32)) rfl ⟨rfl, N0, rfl⟩ (by decide) (by decide)
theorem d44_0 : dc cB44 0 (.iload_n 1) 1 := by decide +kernel
theorem d44_1 : dc cB44 1 .i2b 1 := by decide +kernel
theorem d44_2 : dc cB44 2 (.istore 4) 2 := by decide +kernel
theorem d44_4 : dc cB44 4 (.iload_n 2) 1 := by decide +kernel
theorem d44_5 : dc cB44 5 (.istore 5) 2 := by decide +kernel
theorem d44_7 : dc cB44 7 (.iload 5) 2 := by decide +kernel
theorem d44_9 : dc cB44 9 (.iload_n 3) 1 := by decide +kernel
theorem d44_10 : dc cB44 10 (.if_icmp .ge 21) 3 := by decide +kernel
theorem d44_31 : dc cB44 31 (.iconst (-1)) 1 := by decide +kernel
theorem d44_32 : dc cB44 32 .ireturn 1 := by decide +kernel
theorem d44_13 : dc cB44 13 (.aload_n 0) 1 := by decide +kernel
theorem d44_14 : dc cB44 14 (.iload 5) 2 := by decide +kernel
theorem d44_16 : dc cB44 16 .baload 1 := by decide +kernel
theorem d44_17 : dc cB44 17 (.iload 4) 2 := by decide +kernel
theorem d44_19 : dc cB44 19 (.if_icmp .ne 6) 3 := by decide +kernel
theorem d44_22 : dc cB44 22 (.iload 5) 2 := by decide +kernel
theorem d44_24 : dc cB44 24 .ireturn 1 := by decide +kernel
theorem d44_25 : dc cB44 25 (.iinc 5 1) 3 := by decide +kernel
theorem d44_28 : dc cB44 28 (.goto (-21)) 3 := by decide +kernel
def Q44 (Z : State) (a1 : Addr) (p3 : Int32) (p4 : Int32) (k_b : ClassId) (bs : List Int32) (w_n : Int32) (h0 : Heap) (n0 : Nat) (v : Option Value) (h : Heap) (L : List Loc) : Prop := ∃ zr_44 : Int32, v = some (.int zr_44) ∧ Fr n0 L ∧ h = h0 ∧ Idx bs p3.toInt p4.toInt zr_44
theorem ef44 (m : MethodId) (x0 : Addr) (x2 : Int32) (x3 : Int32) : entryFrame m #[(.ref x0), (.int (46 : Int32)), (.int x2), (.int x3)] 6 = mkF m 0 #[.val (.ref x0), .val (.int (46 : Int32)), .val (.int x2), .val (.int x3), .unset, .unset] [] := by first | (simp [entryFrame, mkF, argsToLocals, Value.category]; done) | rfl
theorem rm44 (l : Launch) (Z : State) (a0 : Array Value) (hw : HW a0 Z) (ws : List Jvm.Cond) (a1 : Addr) (p3 : Int32) (p4 : Int32) (k_b : ClassId) (bs : List Int32) (w_n : Int32) (h0 : Heap) (n0 : Nat) (Z0 : n0 ≤ h0.size) (V_b : Arv Z h0 a1 k_b .byte w_n (List.map Value.int bs) (.int (0 : Int32))) (hft : 0 ≤ p3.toInt ∧ p3.toInt ≤ p4.toInt) (htn : p4.toInt ≤ w_n.toInt) :
  MetFree l y_16 (head1 (Cond.code y_16 cB44 6 (some .int) :: ws) (Rm 0 0 0 0)) (Pr Z h0 #[(.ref a1), (.int (46 : Int32)), (.int p3), (.int p4)]) Tr (fun _ U o U' => ∃ v L, o = .returned v ∧ Q44 Z a1 p3 p4 k_b bs w_n h0 n0 v U'.heap L ∧ FrameEnd U o U' L (Rm 0 0 0 0).cells (Rm 0 0 0 0).slots) := by
 refine MetFree.of_bodySF (plainFor_of_name pn3) hisR ?_
 intro p e s m args below meth c s₁ Bd hml0 hP hK
 obtain ⟨rfl, hZ, hh⟩ := hP
 have hx := Bd.exec
 have D := @hb _ _ Bd.bytes
 have hml : c.maxLocals = 6 := hml0
 have hown : s.vm.findClass SL1 = some m.cls := findClass_of_methodNamed Bd.named
 have hnm := (name_of_methodNamed Bd.named Bd.method).1
 have X0 : Stand p l e (Rm 0 0 0 0) s m #[(.ref a1), (.int (46 : Int32)), (.int p3), (.int p4)] below meth c s₁ [] 0 0 := Stand.of_body Bd
 have e0 : s₁.heap = h0 := by rw [← hh, Bd.state]; rfl
 have N0 := Fr.nil n0
 have K0 : Keep h0 h0 [] := Keep.refl h0 _
 refine G (P := fun o U' => ∃ v L, o = .returned v ∧ Q44 Z a1 p3 p4 k_b bs w_n h0 n0 v U'.heap L ∧ FrameEnd s o U' L (Rm 0 0 0 0).cells (Rm 0 0 0 0).slots) (fun t k => castTop (ef44 m a1 p3 p4) k) ?_
 refine sG s₁ (mkF m 0 #[vr a1, vi 46, vi p3, vi p4, us, us] []) ?_
 refine G (fun t k => XS.iloadN X0.here hx rfl (D d44_0) rfl (XS.i2b X0.here hx rfl (D d44_1) rfl (XS.istore X0.here hx rfl (D d44_2) rfl (l' := #[vr a1, vi 46, vi p3, vi p4, vi 46, us]) rfl (XS.iloadN X0.here hx rfl (D d44_4) rfl (XS.istore X0.here hx rfl (D d44_5) rfl (l' := #[vr a1, vi 46, vi p3, vi p4, vi 46, vi p3]) rfl k))))) ?_
 refine sG s₁ (mkF m 7 #[vr a1, vi 46, vi p3, vi p4, vi 46, vi p3] []) ?_
 have J1 : ∀ (dd : Nat) (TJ : State) (locsJ : List Loc) (i : Int32), Stand p l e (Rm 0 0 0 0) s m #[(.ref a1), (.int (46 : Int32)), (.int p3), (.int p4)] below meth c TJ locsJ 0 0 → TJ.heap = h0 → Fr n0 locsJ → (0 ≤ i.toInt ∧ i.toInt + (dd : Int) = p4.toInt) → (NoP bs p3.toInt i.toInt ∧ p3.toInt ≤ i.toInt) → Go p.tables e below (TJ.setTop (mkF m 7 #[vr a1, vi 46, vi p3, vi p4, vi 46, vi i] [])) (fun o U' => ∃ v L, o = .returned v ∧ Q44 Z a1 p3 p4 k_b bs w_n h0 n0 v U'.heap L ∧ FrameEnd s o U' L (Rm 0 0 0 0).cells (Rm 0 0 0 0).slots) := by
  intro dd
  induction dd with
  | zero =>
   intro TJ locsJ i XJ eJ NJ hi hA
   refine G (fun t k => XS.iload XJ.here hx rfl (D d44_7) rfl (XS.iloadN XJ.here hx rfl (D d44_9) rfl k)) ?_
   have hf2 : ¬ (i < p4) := own_ige hi
   refine G (fun t k => XS.icmpYes XJ.here hx rfl (pc0 := 10) (pc' := 31) rfl (D d44_10) rfl (flt hf2).2.1 (by decide) (by decide) (XS.iconst XJ.here hx rfl (D d44_31) k)) ?_
   exact lfI (Q := Q44 Z a1 p3 p4 k_b bs w_n h0 n0) Bd XJ eJ (D d44_32) (w := (-1 : Int32)) ⟨(-1 : Int32), rfl, NJ, rfl, (Or.inl ⟨rfl, by have := hi.2; rw [show p4.toInt = i.toInt by omega]; exact hA.1⟩)⟩ (by decide) (by decide)
  | succ dd ih =>
   intro TJ locsJ i XJ eJ NJ hi hA
   refine G (fun t k => XS.iload XJ.here hx rfl (D d44_7) rfl (XS.iloadN XJ.here hx rfl (D d44_9) rfl k)) ?_
   have hf3 : i < p4 := own_ilt hi
   refine G (fun t k => XS.icmpNo XJ.here hx rfl (D d44_10) rfl (tlt hf3).2.1 (XS.aloadN XJ.here hx rfl (D d44_13) rfl rfl (XS.iload XJ.here hx rfl (D d44_14) rfl k))) ?_
   obtain ⟨cl4, Ar4, -, Sz4, Ng4, Hs4, -⟩ := id V_b
   have hin4 := inb_of (j := i) (c := cl4) Sz4 (own_iib hi htn)
   refine G (fun t k => XJ.baloadBytes hx (j := i) (v := (.int (own_at bs i))) (by rw [eJ]; exact Ar4.1) (State.isArrayOf_alike hZ.alike Ar4.2.1) Ar4.2.2 hin4 (Has.at Hs4 hin4 (own_atv bs i)) (g := (mkF m 16 #[vr a1, vi 46, vi p3, vi p4, vi 46, vi i] [(.int i), (.ref a1)])) rfl rfl (D d44_16) _ k) ?_
   clear hin4 Hs4 Ng4 Sz4 Ar4 cl4
   refine G (fun t k => XS.iload XJ.here hx rfl (D d44_17) rfl k) ?_
   refine sG TJ (mkF m 19 #[vr a1, vi 46, vi p3, vi p4, vi 46, vi i] [(.int 46), (.int (own_at bs i))]) ?_
   by_cases hc5 : (own_at bs i) = (46 : Int32)
   ·refine G (fun t k => XS.icmpNo XJ.here hx rfl (D d44_19) rfl (teq hc5).2 (XS.iload XJ.here hx rfl (D d44_22) rfl k)) ?_
    exact lfI (Q := Q44 Z a1 p3 p4 k_b bs w_n h0 n0) Bd XJ eJ (D d44_24) (w := i) ⟨i, rfl, NJ, rfl, (Or.inr ⟨hA.2, by have := hi.2; omega, hc5, hA.1⟩)⟩ (by decide) (by decide)
   ·refine G (fun t k => XS.icmpYes XJ.here hx rfl (pc0 := 19) (pc' := 25) rfl (D d44_19) rfl (feq hc5).2 (by decide) (by decide) (XS.iinc XJ.here hx rfl (D d44_25) rfl (l' := #[vr a1, vi 46, vi p3, vi p4, vi 46, vi (i + (1 : Int32))]) rfl (XS.goto XJ.here hx rfl (pc0 := 28) (pc' := 7) rfl (D d44_28) (by decide) (by decide) k))) ?_
    refine sG TJ (mkF m 7 #[vr a1, vi 46, vi p3, vi p4, vi 46, vi (i + (1 : Int32))] []) ?_
    exact ih _ _ (i + (1 : Int32)) XJ eJ NJ ⟨by have := own_inc hi; omega, by have := own_inc hi; have := hi.2; omega⟩ ⟨NoP.step hA.1 (own_inc hi) hc5, by have := own_inc hi; have := hA.2; omega⟩
 exact J1 (p4.toInt - p3.toInt).toNat _ _ p3 X0 e0 N0 ⟨hft.1, by have := hft.2; omega⟩ ⟨NoP.start (Int.le_refl _), Int.le_refl _⟩
theorem d40_0 : dc cB40 0 (.iload_n 1) 1 := by decide +kernel
theorem d40_1 : dc cB40 1 (.invokestatic 88) 3 := by decide +kernel
theorem wd196 {Z a0} (hw : HW a0 Z) : (Cond.methodLink SL1 (88 : Nat) y_15).before a0 Z = true := mw hw 196 rfl
theorem wd198 {Z a0} (hw : HW a0 Z) : (Cond.code y_15 cB41 (1 : Nat) (Option.some FieldType.boolean)).before a0 Z = true := mw hw 198 rfl
theorem pd10 : parseMethodDescriptor "(I)Z" = some ⟨[.int], some .boolean⟩ := by decide +kernel
theorem wd197 {Z a0} (hw : HW a0 Z) : (Cond.static y_15).before a0 Z = true := mw hw 197 rfl
theorem d40_4 : dc cB40 4 (.ifCond .ne 5) 3 := by decide +kernel
theorem d40_9 : dc cB40 9 (.iload_n 2) 1 := by decide +kernel
theorem d40_10 : dc cB40 10 (.iconst 0) 1 := by decide +kernel
theorem d40_11 : dc cB40 11 (.invokestatic 92) 3 := by decide +kernel
theorem wd199 {Z a0} (hw : HW a0 Z) : (Cond.methodLink SL1 (92 : Nat) y_14).before a0 Z = true := mw hw 199 rfl
theorem wd202 {Z a0} (hw : HW a0 Z) : (Cond.code y_14 cB42 (2 : Nat) (Option.some FieldType.int)).before a0 Z = true := mw hw 202 rfl
theorem wd201 {Z a0} (hw : HW a0 Z) : (Cond.initialized "java/lang/Math").before a0 Z = true := mw hw 201 rfl
theorem pd11 : parseMethodDescriptor "(II)I" = some ⟨[.int, .int], some .int⟩ := by decide +kernel
theorem wd200 {Z a0} (hw : HW a0 Z) : (Cond.static y_14).before a0 Z = true := mw hw 200 rfl
theorem d40_14 : dc cB40 14 (.istore_n 2) 1 := by decide +kernel
theorem d40_15 : dc cB40 15 (.iload_n 3) 1 := by decide +kernel
theorem d40_16 : dc cB40 16 (.aload_n 0) 1 := by decide +kernel
theorem d40_17 : dc cB40 17 .arraylength 1 := by decide +kernel
theorem d40_18 : dc cB40 18 (.invokestatic 38) 3 := by decide +kernel
theorem wd203 {Z a0} (hw : HW a0 Z) : (Cond.methodLink SL1 (38 : Nat) y_13).before a0 Z = true := mw hw 203 rfl
theorem wd205 {Z a0} (hw : HW a0 Z) : (Cond.code y_13 cB43 (2 : Nat) (Option.some FieldType.int)).before a0 Z = true := mw hw 205 rfl
theorem wd204 {Z a0} (hw : HW a0 Z) : (Cond.static y_13).before a0 Z = true := mw hw 204 rfl
theorem d40_21 : dc cB40 21 (.istore_n 3) 1 := by decide +kernel
theorem d40_22 : dc cB40 22 (.iload_n 2) 1 := by decide +kernel
theorem d40_23 : dc cB40 23 (.iload_n 3) 1 := by decide +kernel
theorem d40_24 : dc cB40 24 (.if_icmp .lt 5) 3 := by decide +kernel
theorem d40_29 : dc cB40 29 (.aload_n 0) 1 := by decide +kernel
theorem d40_30 : dc cB40 30 (.iload_n 1) 1 := by decide +kernel
theorem d40_31 : dc cB40 31 (.iload_n 2) 1 := by decide +kernel
theorem d40_32 : dc cB40 32 (.iload_n 3) 1 := by decide +kernel
theorem d40_33 : dc cB40 33 (.invokestatic 95) 3 := by decide +kernel
theorem wd206 {Z a0} (hw : HW a0 Z) : (Cond.methodLink SL1 (95 : Nat) y_16).before a0 Z = true := mw hw 206 rfl
theorem wd208 {Z a0} (hw : HW a0 Z) : (Cond.code y_16 cB44 (6 : Nat) (Option.some FieldType.int)).before a0 Z = true := mw hw 208 rfl
theorem pd12 : parseMethodDescriptor "([BIII)I" = some ⟨[(.array .byte), .int, .int, .int], some .int⟩ := by decide +kernel
theorem wd207 {Z a0} (hw : HW a0 Z) : (Cond.static y_16).before a0 Z = true := mw hw 207 rfl
theorem d40_36 : dc cB40 36 .ireturn 1 := by decide +kernel
theorem d40_27 : dc cB40 27 (.iconst (-1)) 1 := by decide +kernel
theorem d40_28 : dc cB40 28 .ireturn 1 := by decide +kernel
def Q40 (Z : State) (a1 : Addr) (p3 : Int32) (k_b : ClassId) (bs : List Int32) (w_n : Int32) (h0 : Heap) (n0 : Nat) (v : Option Value) (h : Heap) (L : List Loc) : Prop := ∃ zr_40 : Int32, v = some (.int zr_40) ∧ Fr n0 L ∧ h = h0 ∧ Idx bs p3.toInt w_n.toInt zr_40
theorem ef40 (m : MethodId) (x0 : Addr) (x2 : Int32) (x3 : Int32) : entryFrame m #[(.ref x0), (.int (46 : Int32)), (.int x2), (.int x3)] 4 = mkF m 0 #[.val (.ref x0), .val (.int (46 : Int32)), .val (.int x2), .val (.int x3)] [] := by first | (simp [entryFrame, mkF, argsToLocals, Value.category]; done) | rfl
theorem rm40 (l : Launch) (Z : State) (a0 : Array Value) (hw : HW a0 Z) (ws : List Jvm.Cond) (a1 : Addr) (p3 : Int32) (k_b : ClassId) (bs : List Int32) (w_n : Int32) (h0 : Heap) (n0 : Nat) (Z0 : n0 ≤ h0.size) (V_b : Arv Z h0 a1 k_b .byte w_n (List.map Value.int bs) (.int (0 : Int32))) (hp3 : 0 ≤ p3.toInt ∧ p3.toInt ≤ w_n.toInt) :
  MetFree l y_17 (head1 (Cond.code y_17 cB40 4 (some .int) :: ws) (Rm 1 0 0 17)) (Pr Z h0 #[(.ref a1), (.int (46 : Int32)), (.int p3), (.int w_n)]) Tr (fun _ U o U' => ∃ v L, o = .returned v ∧ Q40 Z a1 p3 k_b bs w_n h0 n0 v U'.heap L ∧ FrameEnd U o U' L (Rm 1 0 0 17).cells (Rm 1 0 0 17).slots) := by
 refine MetFree.of_bodySF (plainFor_of_name pn3) hisR ?_
 intro p e s m args below meth c s₁ Bd hml0 hP hK
 obtain ⟨rfl, hZ, hh⟩ := hP
 have hx := Bd.exec
 have D := @hb _ _ Bd.bytes
 have hml : c.maxLocals = 4 := hml0
 have hown : s.vm.findClass SL1 = some m.cls := findClass_of_methodNamed Bd.named
 have hnm := (name_of_methodNamed Bd.named Bd.method).1
 have X0 : Stand p l e (Rm 1 0 0 17) s m #[(.ref a1), (.int (46 : Int32)), (.int p3), (.int w_n)] below meth c s₁ [] 0 0 := Stand.of_body Bd
 have e0 : s₁.heap = h0 := by rw [← hh, Bd.state]; rfl
 have N0 := Fr.nil n0
 have K0 : Keep h0 h0 [] := Keep.refl h0 _
 refine G (P := fun o U' => ∃ v L, o = .returned v ∧ Q40 Z a1 p3 k_b bs w_n h0 n0 v U'.heap L ∧ FrameEnd s o U' L (Rm 1 0 0 17).cells (Rm 1 0 0 17).slots) (fun t k => castTop (ef40 m a1 p3 w_n) k) ?_
 refine sG s₁ (mkF m 0 #[vr a1, vi 46, vi p3, vi w_n] []) ?_
 refine G (fun t k => XS.iloadN X0.here hx rfl (D d40_0) rfl k) ?_
 obtain ⟨_, T1, Lc1, X1, hQ1, st1⟩ := cS X0 hx hZ hown hml (wd196 hw) (wd197 hw) (wd104 hw) (wd198 hw) e0 0 [] (rm41 l Z a0 hw []  h0 n0 Z0) pd10 (mkF m 1 #[vr a1, vi 46, vi p3, vi w_n] [(.int 46)]) (D d40_1)
 refine G st1 ?_
 obtain ⟨rfl, N1q, e1⟩ := hQ1
 have N1 := Fr.app N0 N1q
 refine G (fun t k => XS.ifYes X1.here hx rfl (pc0 := 4) (pc' := 9) rfl (D d40_4) rfl ((if0 _ _).trans (feq (by decide : ¬ ((1 : Int32) = (0 : Int32)))).2) (by decide) (by decide) (XS.iloadN X1.here hx rfl (D d40_9) rfl (XS.iconst X1.here hx rfl (D d40_10) k))) ?_
 obtain ⟨_, T2, Lc2, X2, hQ2, st2⟩ := cS X1 hx hZ hown hml (wd199 hw) (wd200 hw) (wd201 hw) (wd202 hw) e1 0 [] (rm42 l Z a0 hw [] p3 (0 : Int32) h0 n0 Z0) pd11 (mkF m 11 #[vr a1, vi 46, vi p3, vi w_n] [(.int 0), (.int p3)]) (D d40_11)
 refine G st2 ?_
 obtain ⟨rfl, N2q, e2⟩ := hQ2
 have N2 := Fr.app N1 N2q
 refine sG T2 (mkF m 14 #[vr a1, vi 46, vi p3, vi w_n] [(.int (f42 p3 (0 : Int32)))]) ?_
 have hf3 : ¬ (p3 < (0 : Int32)) := (by rw [Int32.lt_iff_toInt_lt, show (0 : Int32).toInt = 0 from rfl]; have := hp3.1; omega)
 rw [show (f42 p3 (0 : Int32)) = p3 from by unfold f42; simp only [if_neg hf3, if_true, if_false]]
 refine sG T2 (mkF m 14 #[vr a1, vi 46, vi p3, vi w_n] [(.int p3)]) ?_
 refine G (fun t k => XS.istoreN X2.here hx rfl (D d40_14) rfl (l' := #[vr a1, vi 46, vi p3, vi w_n]) rfl (XS.iloadN X2.here hx rfl (D d40_15) rfl (XS.aloadN X2.here hx rfl (D d40_16) rfl rfl k))) ?_
 obtain ⟨cl4, Ar4, -, Sz4, Ng4, -, -⟩ := id V_b
 refine G (fun t k => X2.arraylength hx (by rw [e2]; exact Ar4.1) (State.isArrayOf_alike hZ.alike Ar4.2.1) (g := (mkF m 17 #[vr a1, vi 46, vi p3, vi w_n] [(.ref a1), (.int w_n)])) rfl rfl (D d40_17) _ k) ?_
 rw [len_of Sz4 Ng4]
 clear Ng4 Sz4 Ar4 cl4
 obtain ⟨_, T5, Lc5, X5, hQ5, st5⟩ := cS X2 hx hZ hown hml (wd203 hw) (wd204 hw) (wd201 hw) (wd205 hw) e2 0 [] (rm43 l Z a0 hw [] w_n w_n h0 n0 Z0) pd11 (mkF m 18 #[vr a1, vi 46, vi p3, vi w_n] [(.int w_n), (.int w_n)]) (D d40_18)
 refine G st5 ?_
 obtain ⟨rfl, N5q, e5⟩ := hQ5
 have N5 := Fr.app N2 N5q
 refine sG T5 (mkF m 21 #[vr a1, vi 46, vi p3, vi w_n] [(.int (f43 w_n w_n))]) ?_
 have hf6 : ¬ (w_n < w_n) := (by rw [Int32.lt_iff_toInt_lt]; omega)
 rw [show (f43 w_n w_n) = w_n from by unfold f43; simp only [if_neg hf6, if_true, if_false]]
 refine sG T5 (mkF m 21 #[vr a1, vi 46, vi p3, vi w_n] [(.int w_n)]) ?_
 refine G (fun t k => XS.istoreN X5.here hx rfl (D d40_21) rfl (l' := #[vr a1, vi 46, vi p3, vi w_n]) rfl (XS.iloadN X5.here hx rfl (D d40_22) rfl (XS.iloadN X5.here hx rfl (D d40_23) rfl k))) ?_
 by_cases hc7 : p3 < w_n
 ·refine G (fun t k => XS.icmpYes X5.here hx rfl (pc0 := 24) (pc' := 29) rfl (D d40_24) rfl (tlt hc7).1 (by decide) (by decide) (XS.aloadN X5.here hx rfl (D d40_29) rfl rfl (XS.iloadN X5.here hx rfl (D d40_30) rfl (XS.iloadN X5.here hx rfl (D d40_31) rfl k)))) ?_
  refine sG T5 (mkF m 32 #[vr a1, vi 46, vi p3, vi w_n] [(.int p3), (.int 46), (.ref a1)]) ?_
  refine G (fun t k => XS.iloadN X5.here hx rfl (D d40_32) rfl k) ?_
  obtain ⟨_, T8, Lc8, X8, hQ8, st8⟩ := cS X5 hx hZ hown hml (wd206 hw) (wd207 hw) (wd104 hw) (wd208 hw) e5 0 [] (rm44 l Z a0 hw [] a1 p3 w_n k_b bs w_n h0 n0 Z0 V_b ⟨hp3.1, by have := Int32.lt_iff_toInt_lt.mp hc7; omega⟩ (Int.le_refl _)) pd12 (mkF m 33 #[vr a1, vi 46, vi p3, vi w_n] [(.int w_n), (.int p3), (.int 46), (.ref a1)]) (D d40_33)
  obtain ⟨rr8, rfl, N8q, e8, raw8⟩ := hQ8
  refine G st8 ?_
  have N8 := Fr.app N5 N8q
  obtain ⟨LL8, X8, N8⟩ : ∃ LL, Stand p l e (Rm 1 0 0 17) s m #[(.ref a1), (.int (46 : Int32)), (.int p3), (.int w_n)] below meth c T8 LL 0 0 ∧ Fr n0 LL := ⟨_, X8, N8⟩
  exact lfI (Q := Q40 Z a1 p3 k_b bs w_n h0 n0) Bd X8 e8 (D d40_36) (w := rr8) ⟨rr8, rfl, N8, rfl, raw8⟩ (by decide) (by decide)
 ·refine G (fun t k => XS.icmpNo X5.here hx rfl (D d40_24) rfl (flt hc7).1 (XS.iconst X5.here hx rfl (D d40_27) k)) ?_
  exact lfI (Q := Q40 Z a1 p3 k_b bs w_n h0 n0) Bd X5 e5 (D d40_28) (w := (-1 : Int32)) ⟨(-1 : Int32), rfl, N5, rfl, (Or.inl ⟨rfl, NoP.start (by have := hc7; rw [Int32.lt_iff_toInt_lt] at this; omega)⟩)⟩ (by decide) (by decide)
theorem d39_0 : dc cB39 0 (.aload_n 0) 1 := by decide +kernel
theorem d39_1 : dc cB39 1 (.invokevirtual 492) 3 := by decide +kernel
theorem d39_4 : dc cB39 4 (.ifCond .eq 19) 3 := by decide +kernel
theorem d39_7 : dc cB39 7 (.aload_n 0) 1 := by decide +kernel
theorem d39_8 : dc cB39 8 (.getfield 9) 3 := by decide +kernel
theorem d39_11 : dc cB39 11 (.iload_n 1) 1 := by decide +kernel
theorem d39_12 : dc cB39 12 (.iload_n 2) 1 := by decide +kernel
theorem d39_13 : dc cB39 13 (.aload_n 0) 1 := by decide +kernel
theorem d39_14 : dc cB39 14 (.invokevirtual 505) 3 := by decide +kernel
theorem wd44 {Z a0} (hw : HW a0 Z) : (Cond.methodLink SN (505 : Nat) y_7).before a0 Z = true := mw hw 44 rfl
theorem wd48 {Z a0} (hw : HW a0 Z) : (Cond.code y_7 cB9 (1 : Nat) (Option.some FieldType.int)).before a0 Z = true := mw hw 48 rfl
theorem pd13 : parseMethodDescriptor "()I" = some ⟨[], some .int⟩ := by decide +kernel
theorem wd45 {Z a0} (hw : HW a0 Z) : (Cond.declares y_7).before a0 Z = true := mw hw 45 rfl
theorem wd47 {Z a0} (hw : HW a0 Z) : (Cond.selects SN y_7 y_7).before a0 Z = true := mw hw 47 rfl
theorem wd46 {Z a0} (hw : HW a0 Z) : (Cond.instanceMethod y_7).before a0 Z = true := mw hw 46 rfl
theorem d39_17 : dc cB39 17 (.invokestatic 637) 3 := by decide +kernel
theorem wd193 {Z a0} (hw : HW a0 Z) : (Cond.methodLink SN (637 : Nat) y_17).before a0 Z = true := mw hw 193 rfl
theorem wd195 {Z a0} (hw : HW a0 Z) : (Cond.code y_17 cB40 (4 : Nat) (Option.some FieldType.int)).before a0 Z = true := mw hw 195 rfl
theorem wd194 {Z a0} (hw : HW a0 Z) : (Cond.static y_17).before a0 Z = true := mw hw 194 rfl
theorem d39_20 : dc cB39 20 (.goto 16) 3 := by decide +kernel
theorem d39_36 : dc cB39 36 .ireturn 1 := by decide +kernel
def Q39 (Z : State) (a1 : Addr) (p3 : Int32) (w_b : Addr) (k_b : ClassId) (bs : List Int32) (w_n : Int32) (wC : Int32) (h0 : Heap) (n0 : Nat) (v : Option Value) (h : Heap) (L : List Loc) : Prop := ∃ zr_39 : Int32, v = some (.int zr_39) ∧ Fr n0 L ∧ h = h0 ∧ Idx bs p3.toInt w_n.toInt zr_39
theorem ef39 (m : MethodId) (x0 : Addr) (x2 : Int32) : entryFrame m #[(.ref x0), (.int (46 : Int32)), (.int x2)] 3 = mkF m 0 #[.val (.ref x0), .val (.int (46 : Int32)), .val (.int x2)] [] := by first | (simp [entryFrame, mkF, argsToLocals, Value.category]; done) | rfl
theorem rm39 (l : Launch) (Z : State) (a0 : Array Value) (hw : HW a0 Z) (ws : List Jvm.Cond) (a1 : Addr) (p3 : Int32) (w_b : Addr) (k_b : ClassId) (bs : List Int32) (w_n : Int32) (wC : Int32) (h0 : Heap) (n0 : Nat) (Z0 : n0 ≤ h0.size) (E_a1 : Exa Z h0 a1 SN) (F_a1_v : Fld Z h0 a1 SN "value" "[B" (.ref w_b)) (F_a1_c : Fld Z h0 a1 SN "coder" "B" (.int (0 : Int32))) (V_b : Arv Z h0 w_b k_b .byte w_n (List.map Value.int bs) (.int (0 : Int32))) (SC : Sta Z h0 SN "COMPACT_STRINGS" "Z" (.int wC)) (hcs : ¬ wC = (0 : Int32)) (hp3 : 0 ≤ p3.toInt ∧ p3.toInt ≤ w_n.toInt) :
  MetFree l y_18 (head1 (Cond.code y_18 cB39 3 (some .int) :: ws) (Rm 2 0 0 32)) (Pr Z h0 #[(.ref a1), (.int (46 : Int32)), (.int p3)]) Tr (fun _ U o U' => ∃ v L, o = .returned v ∧ Q39 Z a1 p3 w_b k_b bs w_n wC h0 n0 v U'.heap L ∧ FrameEnd U o U' L (Rm 2 0 0 32).cells (Rm 2 0 0 32).slots) := by
 refine MetFree.of_bodySF (plainFor_of_name pn1) hisR ?_
 intro p e s m args below meth c s₁ Bd hml0 hP hK
 obtain ⟨rfl, hZ, hh⟩ := hP
 have hx := Bd.exec
 have D := @hb _ _ Bd.bytes
 have hml : c.maxLocals = 3 := hml0
 have hown : s.vm.findClass SN = some m.cls := findClass_of_methodNamed Bd.named
 have hnm := (name_of_methodNamed Bd.named Bd.method).1
 have X0 : Stand p l e (Rm 2 0 0 32) s m #[(.ref a1), (.int (46 : Int32)), (.int p3)] below meth c s₁ [] 0 0 := Stand.of_body Bd
 have e0 : s₁.heap = h0 := by rw [← hh, Bd.state]; rfl
 have N0 := Fr.nil n0
 have K0 : Keep h0 h0 [] := Keep.refl h0 _
 refine G (P := fun o U' => ∃ v L, o = .returned v ∧ Q39 Z a1 p3 w_b k_b bs w_n wC h0 n0 v U'.heap L ∧ FrameEnd s o U' L (Rm 2 0 0 32).cells (Rm 2 0 0 32).slots) (fun t k => castTop (ef39 m a1 p3) k) ?_
 refine sG s₁ (mkF m 0 #[vr a1, vi 46, vi p3] []) ?_
 refine G (fun t k => XS.aloadN X0.here hx rfl (D d39_0) rfl rfl k) ?_
 obtain ⟨_, T1, Lc1, X1, hQ1, st1⟩ := cV X0 hx hZ hown hml (wd97 hw) (wd98 hw) (wd100 hw) (wd99 hw) (wd101 hw) (wd10 hw) E_a1 e0 0 [] (rm21 l Z a0 hw [] a1 wC h0 n0 Z0 E_a1 F_a1_c SC hcs) pd7 (mkF m 1 #[vr a1, vi 46, vi p3] [(.ref a1)]) (D d39_1)
 refine Go.tr st1 ?_
 obtain ⟨rfl, N1q, e1⟩ := hQ1
 have N1 := Fr.app N0 N1q
 refine G (fun t k => XS.ifNo X1.here hx rfl (D d39_4) rfl ((if0 _ _).trans (feq (by decide : ¬ ((1 : Int32) = (0 : Int32)))).1) (XS.aloadN X1.here hx rfl (D d39_7) rfl rfl k)) ?_
 obtain ⟨T2, X2, e2, st2⟩ := getF X1 hx hZ hown (host := "") (Or.inl (wd27 hw)) Via.refl e1 F_a1_v (g := (mkF m 8 #[vr a1, vi 46, vi p3] [(.ref a1)])) rfl rfl (D d39_8)
 refine G st2 ?_
 refine G (fun t k => XS.iloadN X2.here hx rfl (D d39_11) rfl (XS.iloadN X2.here hx rfl (D d39_12) rfl k)) ?_
 refine sG T2 (mkF m 13 #[vr a1, vi 46, vi p3] [(.int p3), (.int 46), (.ref w_b)]) ?_
 refine G (fun t k => XS.aloadN X2.here hx rfl (D d39_13) rfl rfl k) ?_
 obtain ⟨_, T3, Lc3, X3, hQ3, st3⟩ := cV X2 hx hZ hown hml (wd44 hw) (wd45 hw) (wd47 hw) (wd46 hw) (wd48 hw) (wd10 hw) E_a1 e2 3 [(.int p3), (.int (46 : Int32)), (.ref w_b)] (rm9 l Z a0 hw [] a1 w_b k_b bs w_n wC h0 n0 Z0 E_a1 F_a1_v F_a1_c V_b SC hcs) pd13 (mkF m 14 #[vr a1, vi 46, vi p3] [(.ref a1), (.int p3), (.int 46), (.ref w_b)]) (D d39_14)
 refine Go.tr st3 ?_
 obtain ⟨rfl, N3q, e3⟩ := hQ3
 have N3 := Fr.app N1 N3q
 obtain ⟨_, T4, Lc4, X4, hQ4, st4⟩ := cS X3 hx hZ hown hml (wd193 hw) (wd194 hw) (wd104 hw) (wd195 hw) e3 0 [] (rm40 l Z a0 hw [] w_b p3 k_b bs w_n h0 n0 Z0 V_b hp3) pd12 (mkF m 17 #[vr a1, vi 46, vi p3] [(.int w_n), (.int p3), (.int 46), (.ref w_b)]) (D d39_17)
 obtain ⟨rr4, rfl, N4q, e4, raw4⟩ := hQ4
 refine G st4 ?_
 have N4 := Fr.app N3 N4q
 refine G (fun t k => XS.goto X4.here hx rfl (pc0 := 20) (pc' := 36) rfl (D d39_20) (by decide) (by decide) k) ?_
 exact lfI (Q := Q39 Z a1 p3 w_b k_b bs w_n wC h0 n0) Bd X4 e4 (D d39_36) (w := rr4) ⟨rr4, rfl, N4, rfl, raw4⟩ (by decide) (by decide)
theorem own_sw {n : Int32} (h : 0 ≤ n.toInt) (q : ¬ (n - (1 : Int32)) < (0 : Int32)) : (0 : Int32) < n := by
 have := Int32.toInt_lt n
 rw [Int32.lt_iff_toInt_lt, Int32.toInt_sub, show (1 : Int32).toInt = 1 from rfl, show (0 : Int32).toInt = 0 from rfl, Int.bmod_eq_of_le (by omega) (by omega)] at q
 rw [Int32.lt_iff_toInt_lt, show (0 : Int32).toInt = 0 from rfl]
 omega
theorem d18_0 : dc cB18 0 (.iconst 0) 1 := by decide +kernel
theorem d18_1 : dc cB18 1 (.istore 5) 2 := by decide +kernel
theorem d18_3 : dc cB18 3 (.iload 4) 2 := by decide +kernel
theorem d18_5 : dc cB18 5 (.bipush 7) 2 := by decide +kernel
theorem d18_7 : dc cB18 7 (.if_icmp .le 63) 3 := by decide +kernel
theorem d18_70 : dc cB18 70 (.iload 5) 2 := by decide +kernel
theorem d18_72 : dc cB18 72 (.iload 4) 2 := by decide +kernel
theorem d18_74 : dc cB18 74 (.if_icmp .ge 27) 3 := by decide +kernel
theorem d18_77 : dc cB18 77 (.aload_n 0) 1 := by decide +kernel
theorem d18_78 : dc cB18 78 (.iload_n 1) 1 := by decide +kernel
theorem d18_79 : dc cB18 79 (.iload 5) 2 := by decide +kernel
theorem d18_81 : dc cB18 81 .iadd 1 := by decide +kernel
theorem d18_82 : dc cB18 82 .baload 1 := by decide +kernel
theorem d18_83 : dc cB18 83 (.aload_n 2) 1 := by decide +kernel
theorem d18_84 : dc cB18 84 (.iload_n 3) 1 := by decide +kernel
theorem d18_85 : dc cB18 85 (.iload 5) 2 := by decide +kernel
theorem d18_87 : dc cB18 87 .iadd 1 := by decide +kernel
theorem d18_88 : dc cB18 88 .baload 1 := by decide +kernel
theorem d18_89 : dc cB18 89 (.if_icmp .eq 6) 3 := by decide +kernel
theorem d18_95 : dc cB18 95 (.iinc 5 1) 3 := by decide +kernel
theorem d18_98 : dc cB18 98 (.goto (-28)) 3 := by decide +kernel
theorem d18_101 : dc cB18 101 (.iconst (-1)) 1 := by decide +kernel
theorem d18_102 : dc cB18 102 .ireturn 1 := by decide +kernel
theorem d18_92 : dc cB18 92 (.iload 5) 2 := by decide +kernel
theorem d18_94 : dc cB18 94 .ireturn 1 := by decide +kernel
theorem pn7 : plainName "jdk/internal/util/ArraysSupport" = true := by first | (simp [plainName, overriddenIn]; done) | decide +kernel
def f18 (bs : List Int32) (pc0 : Int32) : Int32 := (if (own_at bs (0 : Int32)) = pc0 then (-1 : Int32) else (0 : Int32))
def Q18 (Z : State) (a1 : Addr) (a3 : Addr) (k_b : ClassId) (bs : List Int32) (w_n : Int32) (k_d : ClassId) (pc0 : Int32) (h0 : Heap) (n0 : Nat) (v : Option Value) (h : Heap) (L : List Loc) : Prop := v = some (.int (f18 bs pc0)) ∧ Fr n0 L ∧ h = h0
theorem ef18 (m : MethodId) (x0 : Addr) (x2 : Addr) : entryFrame m #[(.ref x0), (.int (0 : Int32)), (.ref x2), (.int (0 : Int32)), (.int (1 : Int32))] 8 = mkF m 0 #[.val (.ref x0), .val (.int (0 : Int32)), .val (.ref x2), .val (.int (0 : Int32)), .val (.int (1 : Int32)), .unset, .unset, .unset] [] := by first | (simp [entryFrame, mkF, argsToLocals, Value.category]; done) | rfl
theorem rm18 (l : Launch) (Z : State) (a0 : Array Value) (hw : HW a0 Z) (ws : List Jvm.Cond) (a1 : Addr) (a3 : Addr) (k_b : ClassId) (bs : List Int32) (w_n : Int32) (k_d : ClassId) (pc0 : Int32) (h0 : Heap) (n0 : Nat) (Z0 : n0 ≤ h0.size) (V_b : Arv Z h0 a1 k_b .byte w_n (List.map Value.int bs) (.int (0 : Int32))) (V_d : Arv Z h0 a3 k_d .byte (1 : Int32) [(.int pc0)] (.int (0 : Int32))) (h0n : (0 : Int32) < w_n) :
  MetFree l y_19 (head1 (Cond.code y_19 cB18 8 (some .int) :: ws) (Rm 0 0 0 0)) (Pr Z h0 #[(.ref a1), (.int (0 : Int32)), (.ref a3), (.int (0 : Int32)), (.int (1 : Int32))]) Tr (fun _ U o U' => ∃ v L, o = .returned v ∧ Q18 Z a1 a3 k_b bs w_n k_d pc0 h0 n0 v U'.heap L ∧ FrameEnd U o U' L (Rm 0 0 0 0).cells (Rm 0 0 0 0).slots) := by
 refine MetFree.of_bodySF (plainFor_of_name pn7) hisR ?_
 intro p e s m args below meth c s₁ Bd hml0 hP hK
 obtain ⟨rfl, hZ, hh⟩ := hP
 have hx := Bd.exec
 have D := @hb _ _ Bd.bytes
 have hml : c.maxLocals = 8 := hml0
 have hown : s.vm.findClass "jdk/internal/util/ArraysSupport" = some m.cls := findClass_of_methodNamed Bd.named
 have hnm := (name_of_methodNamed Bd.named Bd.method).1
 have X0 : Stand p l e (Rm 0 0 0 0) s m #[(.ref a1), (.int (0 : Int32)), (.ref a3), (.int (0 : Int32)), (.int (1 : Int32))] below meth c s₁ [] 0 0 := Stand.of_body Bd
 have e0 : s₁.heap = h0 := by rw [← hh, Bd.state]; rfl
 have N0 := Fr.nil n0
 have K0 : Keep h0 h0 [] := Keep.refl h0 _
 refine G (P := fun o U' => ∃ v L, o = .returned v ∧ Q18 Z a1 a3 k_b bs w_n k_d pc0 h0 n0 v U'.heap L ∧ FrameEnd s o U' L (Rm 0 0 0 0).cells (Rm 0 0 0 0).slots) (fun t k => castTop (ef18 m a1 a3) k) ?_
 refine sG s₁ (mkF m 0 #[vr a1, vi 0, vr a3, vi 0, vi 1, us, us, us] []) ?_
 refine G (fun t k => XS.iconst X0.here hx rfl (D d18_0) (XS.istore X0.here hx rfl (D d18_1) rfl (l' := #[vr a1, vi 0, vr a3, vi 0, vi 1, vi 0, us, us]) rfl (XS.iload X0.here hx rfl (D d18_3) rfl (XS.bipush X0.here hx rfl (D d18_5) (XS.icmpYes X0.here hx rfl (pc0 := 7) (pc' := 70) rfl (D d18_7) rfl (flt (by decide : ¬ ((7 : Int32) < (1 : Int32)))).2.2.2 (by decide) (by decide) (XS.iload X0.here hx rfl (D d18_70) rfl k)))))) ?_
 refine G (fun t k => XS.iload X0.here hx rfl (D d18_72) rfl k) ?_
 refine sG s₁ (mkF m 74 #[vr a1, vi 0, vr a3, vi 0, vi 1, vi 0, us, us] [(.int 1), (.int 0)]) ?_
 refine G (fun t k => XS.icmpNo X0.here hx rfl (D d18_74) rfl (tlt (by decide : (0 : Int32) < (1 : Int32))).2.1 (XS.aloadN X0.here hx rfl (D d18_77) rfl rfl (XS.iloadN X0.here hx rfl (D d18_78) rfl (XS.iload X0.here hx rfl (D d18_79) rfl (XS.iadd X0.here hx rfl (D d18_81) rfl k))))) ?_
 obtain ⟨cl1, Ar1, -, Sz1, Ng1, Hs1, -⟩ := id V_b
 have hin1 := inb_of (j := (0 : Int32)) (c := cl1) Sz1 ⟨by decide, h0n⟩
 refine G (fun t k => X0.baloadBytes hx (j := (0 : Int32)) (v := (.int (own_at bs (0 : Int32)))) (by rw [e0]; exact Ar1.1) (State.isArrayOf_alike hZ.alike Ar1.2.1) Ar1.2.2 hin1 (Has.at Hs1 hin1 (own_atv bs (0 : Int32))) (g := (mkF m 82 #[vr a1, vi 0, vr a3, vi 0, vi 1, vi 0, us, us] [(.int 0), (.ref a1)])) rfl rfl (D d18_82) _ k) ?_
 clear hin1 Hs1 Ng1 Sz1 Ar1 cl1
 refine G (fun t k => XS.aloadN X0.here hx rfl (D d18_83) rfl rfl k) ?_
 refine sG s₁ (mkF m 84 #[vr a1, vi 0, vr a3, vi 0, vi 1, vi 0, us, us] [(.ref a3), (.int (own_at bs (0 : Int32)))]) ?_
 refine G (fun t k => XS.iloadN X0.here hx rfl (D d18_84) rfl (XS.iload X0.here hx rfl (D d18_85) rfl (XS.iadd X0.here hx rfl (D d18_87) rfl k))) ?_
 obtain ⟨cl2, Ar2, -, Sz2, Ng2, Hs2, -⟩ := id V_d
 have hin2 := inb_of (j := (0 : Int32)) (c := cl2) Sz2 ⟨by decide, by decide⟩
 refine G (fun t k => X0.baloadBytes hx (j := (0 : Int32)) (v := (.int pc0)) (by rw [e0]; exact Ar2.1) (State.isArrayOf_alike hZ.alike Ar2.2.1) Ar2.2.2 hin2 (Has.at Hs2 hin2 rfl) (g := (mkF m 88 #[vr a1, vi 0, vr a3, vi 0, vi 1, vi 0, us, us] [(.int 0), (.ref a3), (.int (own_at bs (0 : Int32)))])) rfl rfl (D d18_88) _ k) ?_
 clear hin2 Hs2 Ng2 Sz2 Ar2 cl2
 by_cases hc3 : (own_at bs (0 : Int32)) = pc0
 ·refine G (fun t k => XS.icmpYes X0.here hx rfl (pc0 := 89) (pc' := 95) rfl (D d18_89) rfl (teq hc3).1 (by decide) (by decide) (XS.iinc X0.here hx rfl (D d18_95) rfl (l' := #[vr a1, vi 0, vr a3, vi 0, vi 1, vi ((0 : Int32) + (1 : Int32)), us, us]) rfl (XS.goto X0.here hx rfl (pc0 := 98) (pc' := 70) rfl (D d18_98) (by decide) (by decide) k))) ?_
  refine sG s₁ (mkF m 70 #[vr a1, vi 0, vr a3, vi 0, vi 1, vi 1, us, us] []) ?_
  refine G (fun t k => XS.iload X0.here hx rfl (D d18_70) rfl (XS.iload X0.here hx rfl (D d18_72) rfl (XS.icmpYes X0.here hx rfl (pc0 := 74) (pc' := 101) rfl (D d18_74) rfl (flt (by decide : ¬ ((1 : Int32) < (1 : Int32)))).2.1 (by decide) (by decide) (XS.iconst X0.here hx rfl (D d18_101) k)))) ?_
  exact lfI (Q := Q18 Z a1 a3 k_b bs w_n k_d pc0 h0 n0) Bd X0 e0 (D d18_102) (w := (-1 : Int32)) ⟨(by unfold f18; simp only [if_pos hc3]), N0, rfl⟩ (by decide) (by decide)
 ·refine G (fun t k => XS.icmpNo X0.here hx rfl (D d18_89) rfl (feq hc3).1 (XS.iload X0.here hx rfl (D d18_92) rfl k)) ?_
  exact lfI (Q := Q18 Z a1 a3 k_b bs w_n k_d pc0 h0 n0) Bd X0 e0 (D d18_94) (w := (0 : Int32)) ⟨(by unfold f18; simp only [if_neg hc3]), N0, rfl⟩ (by decide) (by decide)
theorem d8_0 : dc cB8 0 (.iload_n 2) 1 := by decide +kernel
theorem d8_1 : dc cB8 1 (.ifCond .lt 16) 3 := by decide +kernel
theorem d8_4 : dc cB8 4 (.iload_n 2) 1 := by decide +kernel
theorem d8_5 : dc cB8 5 (.aload_n 0) 1 := by decide +kernel
theorem d8_6 : dc cB8 6 (.invokevirtual 505) 3 := by decide +kernel
theorem d8_9 : dc cB8 9 (.aload_n 1) 1 := by decide +kernel
theorem d8_10 : dc cB8 10 (.invokevirtual 505) 3 := by decide +kernel
theorem d8_13 : dc cB8 13 .isub 1 := by decide +kernel
theorem d8_14 : dc cB8 14 (.if_icmp .le 5) 3 := by decide +kernel
theorem d8_17 : dc cB8 17 (.iconst 0) 1 := by decide +kernel
theorem d8_18 : dc cB8 18 .ireturn 1 := by decide +kernel
theorem d8_19 : dc cB8 19 (.aload_n 0) 1 := by decide +kernel
theorem d8_20 : dc cB8 20 (.getfield 9) 3 := by decide +kernel
theorem d8_23 : dc cB8 23 (.astore_n 3) 1 := by decide +kernel
theorem d8_24 : dc cB8 24 (.aload_n 1) 1 := by decide +kernel
theorem d8_25 : dc cB8 25 (.getfield 9) 3 := by decide +kernel
theorem d8_28 : dc cB8 28 (.astore 4) 2 := by decide +kernel
theorem d8_30 : dc cB8 30 (.iconst 0) 1 := by decide +kernel
theorem d8_31 : dc cB8 31 (.istore 5) 2 := by decide +kernel
theorem d8_33 : dc cB8 33 (.aload 4) 2 := by decide +kernel
theorem d8_35 : dc cB8 35 .arraylength 1 := by decide +kernel
theorem d8_36 : dc cB8 36 (.istore 6) 2 := by decide +kernel
theorem d8_38 : dc cB8 38 (.aload_n 0) 1 := by decide +kernel
theorem d8_39 : dc cB8 39 (.invokevirtual 335) 3 := by decide +kernel
theorem d8_42 : dc cB8 42 (.istore 7) 2 := by decide +kernel
theorem d8_44 : dc cB8 44 (.iload 7) 2 := by decide +kernel
theorem d8_46 : dc cB8 46 (.aload_n 1) 1 := by decide +kernel
theorem d8_47 : dc cB8 47 (.invokevirtual 335) 3 := by decide +kernel
theorem d8_50 : dc cB8 50 (.if_icmp .ne 32) 3 := by decide +kernel
theorem d8_53 : dc cB8 53 (.iload 7) 2 := by decide +kernel
theorem d8_55 : dc cB8 55 (.iconst 1) 1 := by decide +kernel
theorem d8_56 : dc cB8 56 (.if_icmp .ne 7) 3 := by decide +kernel
theorem d8_63 : dc cB8 63 (.aload_n 3) 1 := by decide +kernel
theorem d8_64 : dc cB8 64 (.iload_n 2) 1 := by decide +kernel
theorem d8_65 : dc cB8 65 (.aload 4) 2 := by decide +kernel
theorem d8_67 : dc cB8 67 (.iconst 0) 1 := by decide +kernel
theorem d8_68 : dc cB8 68 (.iload 6) 2 := by decide +kernel
theorem d8_70 : dc cB8 70 (.invokestatic 607) 3 := by decide +kernel
theorem wd85 {Z a0} (hw : HW a0 Z) : (Cond.methodLink SN (607 : Nat) y_19).before a0 Z = true := mw hw 85 rfl
theorem wd88 {Z a0} (hw : HW a0 Z) : (Cond.code y_19 cB18 (8 : Nat) (Option.some FieldType.int)).before a0 Z = true := mw hw 88 rfl
theorem wd87 {Z a0} (hw : HW a0 Z) : (Cond.initialized "jdk/internal/util/ArraysSupport").before a0 Z = true := mw hw 87 rfl
theorem pd14 : parseMethodDescriptor "([BI[BII)I" = some ⟨[(.array .byte), .int, (.array .byte), .int, .int], some .int⟩ := by decide +kernel
theorem wd86 {Z a0} (hw : HW a0 Z) : (Cond.static y_19).before a0 Z = true := mw hw 86 rfl
theorem d8_73 : dc cB8 73 (.ifCond .ge 7) 3 := by decide +kernel
theorem d8_76 : dc cB8 76 (.iconst 1) 1 := by decide +kernel
theorem d8_77 : dc cB8 77 (.goto 4) 3 := by decide +kernel
theorem d8_81 : dc cB8 81 .ireturn 1 := by decide +kernel
theorem d8_80 : dc cB8 80 (.iconst 0) 1 := by decide +kernel
def f8 (bs : List Int32) (w_n : Int32) (pc0 : Int32) : Int32 := (if (w_n - (1 : Int32)) < (0 : Int32) then (0 : Int32) else (if (own_at bs (0 : Int32)) = pc0 then (1 : Int32) else (0 : Int32)))
def Q8 (Z : State) (a1 : Addr) (a2 : Addr) (w_b : Addr) (k_b : ClassId) (bs : List Int32) (w_n : Int32) (wC : Int32) (w_d : Addr) (k_d : ClassId) (pc0 : Int32) (h0 : Heap) (n0 : Nat) (v : Option Value) (h : Heap) (L : List Loc) : Prop := v = some (.int (f8 bs w_n pc0)) ∧ Fr n0 L ∧ h = h0
theorem ef8 (m : MethodId) (x0 : Addr) (x1 : Addr) : entryFrame m #[(.ref x0), (.ref x1), (.int (0 : Int32))] 8 = mkF m 0 #[.val (.ref x0), .val (.ref x1), .val (.int (0 : Int32)), .unset, .unset, .unset, .unset, .unset] [] := by first | (simp [entryFrame, mkF, argsToLocals, Value.category]; done) | rfl
theorem rm8 (l : Launch) (Z : State) (a0 : Array Value) (hw : HW a0 Z) (ws : List Jvm.Cond) (a1 : Addr) (a2 : Addr) (w_b : Addr) (k_b : ClassId) (bs : List Int32) (w_n : Int32) (wC : Int32) (w_d : Addr) (k_d : ClassId) (pc0 : Int32) (h0 : Heap) (n0 : Nat) (Z0 : n0 ≤ h0.size) (E_a1 : Exa Z h0 a1 SN) (F_a1_v : Fld Z h0 a1 SN "value" "[B" (.ref w_b)) (F_a1_c : Fld Z h0 a1 SN "coder" "B" (.int (0 : Int32))) (V_b : Arv Z h0 w_b k_b .byte w_n (List.map Value.int bs) (.int (0 : Int32))) (SC : Sta Z h0 SN "COMPACT_STRINGS" "Z" (.int wC)) (E_a2 : Exa Z h0 a2 SN) (F_a2_v : Fld Z h0 a2 SN "value" "[B" (.ref w_d)) (F_a2_c : Fld Z h0 a2 SN "coder" "B" (.int (0 : Int32))) (V_d : Arv Z h0 w_d k_d .byte (1 : Int32) [(.int pc0)] (.int (0 : Int32))) (hcs : ¬ wC = (0 : Int32)) (hn0 : 0 ≤ w_n.toInt) :
  MetFree l y_20 (head1 (Cond.code y_20 cB8 8 (some .boolean) :: ws) (Rm 2 0 0 27)) (Pr Z h0 #[(.ref a1), (.ref a2), (.int (0 : Int32))]) Tr (fun _ U o U' => ∃ v L, o = .returned v ∧ Q8 Z a1 a2 w_b k_b bs w_n wC w_d k_d pc0 h0 n0 v U'.heap L ∧ FrameEnd U o U' L (Rm 2 0 0 27).cells (Rm 2 0 0 27).slots) := by
 refine MetFree.of_bodySF (plainFor_of_name pn1) hisR ?_
 intro p e s m args below meth c s₁ Bd hml0 hP hK
 obtain ⟨rfl, hZ, hh⟩ := hP
 have hx := Bd.exec
 have D := @hb _ _ Bd.bytes
 have hml : c.maxLocals = 8 := hml0
 have hown : s.vm.findClass SN = some m.cls := findClass_of_methodNamed Bd.named
 have hnm := (name_of_methodNamed Bd.named Bd.method).1
 have X0 : Stand p l e (Rm 2 0 0 27) s m #[(.ref a1), (.ref a2), (.int (0 : Int32))] below meth c s₁ [] 0 0 := Stand.of_body Bd
 have e0 : s₁.heap = h0 := by rw [← hh, Bd.state]; rfl
 have N0 := Fr.nil n0
 have K0 : Keep h0 h0 [] := Keep.refl h0 _
 refine G (P := fun o U' => ∃ v L, o = .returned v ∧ Q8 Z a1 a2 w_b k_b bs w_n wC w_d k_d pc0 h0 n0 v U'.heap L ∧ FrameEnd s o U' L (Rm 2 0 0 27).cells (Rm 2 0 0 27).slots) (fun t k => castTop (ef8 m a1 a2) k) ?_
 refine sG s₁ (mkF m 0 #[vr a1, vr a2, vi 0, us, us, us, us, us] []) ?_
 refine G (fun t k => XS.iloadN X0.here hx rfl (D d8_0) rfl (XS.ifNo X0.here hx rfl (D d8_1) rfl ((if0 _ _).trans (flt (by decide : ¬ ((0 : Int32) < (0 : Int32)))).1) (XS.iloadN X0.here hx rfl (D d8_4) rfl (XS.aloadN X0.here hx rfl (D d8_5) rfl rfl k)))) ?_
 obtain ⟨_, T1, Lc1, X1, hQ1, st1⟩ := cV X0 hx hZ hown hml (wd44 hw) (wd45 hw) (wd47 hw) (wd46 hw) (wd48 hw) (wd10 hw) E_a1 e0 1 [(.int (0 : Int32))] (rm9 l Z a0 hw [] a1 w_b k_b bs w_n wC h0 n0 Z0 E_a1 F_a1_v F_a1_c V_b SC hcs) pd13 (mkF m 6 #[vr a1, vr a2, vi 0, us, us, us, us, us] [(.ref a1), (.int 0)]) (D d8_6)
 refine Go.tr st1 ?_
 obtain ⟨rfl, N1q, e1⟩ := hQ1
 have N1 := Fr.app N0 N1q
 refine G (fun t k => XS.aloadN X1.here hx rfl (D d8_9) rfl rfl k) ?_
 obtain ⟨_, T2, Lc2, X2, hQ2, st2⟩ := cV X1 hx hZ hown hml (wd44 hw) (wd45 hw) (wd47 hw) (wd46 hw) (wd48 hw) (wd10 hw) E_a2 e1 2 [(.int w_n), (.int (0 : Int32))] (rm9 l Z a0 hw [] a2 w_d k_d [pc0] (1 : Int32) wC h0 n0 Z0 E_a2 F_a2_v F_a2_c V_d SC hcs) pd13 (mkF m 10 #[vr a1, vr a2, vi 0, us, us, us, us, us] [(.ref a2), (.int w_n), (.int 0)]) (D d8_10)
 refine Go.tr st2 ?_
 obtain ⟨rfl, N2q, e2⟩ := hQ2
 have N2 := Fr.app N1 N2q
 refine sG T2 (mkF m 13 #[vr a1, vr a2, vi 0, us, us, us, us, us] [(.int 1), (.int w_n), (.int 0)]) ?_
 refine G (fun t k => XS.isub X2.here hx rfl (D d8_13) rfl k) ?_
 by_cases hc3 : (w_n - (1 : Int32)) < (0 : Int32)
 ·refine G (fun t k => XS.icmpNo X2.here hx rfl (D d8_14) rfl (tlt hc3).2.2.2 (XS.iconst X2.here hx rfl (D d8_17) k)) ?_
  exact lfN (Q := Q8 Z a1 a2 w_b k_b bs w_n wC w_d k_d pc0 h0 n0) Bd X2 e2 (D d8_18) (by simp) (w := (0 : Int32)) rfl ⟨(by unfold f8; simp only [if_pos hc3]), N2, rfl⟩ (by decide) (by decide)
 ·refine G (fun t k => XS.icmpYes X2.here hx rfl (pc0 := 14) (pc' := 19) rfl (D d8_14) rfl (flt hc3).2.2.2 (by decide) (by decide) (XS.aloadN X2.here hx rfl (D d8_19) rfl rfl k)) ?_
  obtain ⟨T4, X4, e4, st4⟩ := getF X2 hx hZ hown (host := "") (Or.inl (wd27 hw)) Via.refl e2 F_a1_v (g := (mkF m 20 #[vr a1, vr a2, vi 0, us, us, us, us, us] [(.ref a1)])) rfl rfl (D d8_20)
  refine G st4 ?_
  refine G (fun t k => XS.astoreN X4.here hx rfl (D d8_23) rfl rfl (l' := #[vr a1, vr a2, vi 0, vr w_b, us, us, us, us]) rfl (XS.aloadN X4.here hx rfl (D d8_24) rfl rfl k)) ?_
  obtain ⟨T5, X5, e5, st5⟩ := getF X4 hx hZ hown (host := "") (Or.inl (wd27 hw)) Via.refl e4 F_a2_v (g := (mkF m 25 #[vr a1, vr a2, vi 0, vr w_b, us, us, us, us] [(.ref a2)])) rfl rfl (D d8_25)
  refine G st5 ?_
  refine sG T5 (mkF m 28 #[vr a1, vr a2, vi 0, vr w_b, us, us, us, us] [(.ref w_d)]) ?_
  refine G (fun t k => XS.astore X5.here hx rfl (D d8_28) rfl rfl (l' := #[vr a1, vr a2, vi 0, vr w_b, vr w_d, us, us, us]) rfl (XS.iconst X5.here hx rfl (D d8_30) (XS.istore X5.here hx rfl (D d8_31) rfl (l' := #[vr a1, vr a2, vi 0, vr w_b, vr w_d, vi 0, us, us]) rfl (XS.aload X5.here hx rfl (D d8_33) rfl rfl k)))) ?_
  obtain ⟨cl6, Ar6, -, Sz6, Ng6, -, -⟩ := id V_d
  refine G (fun t k => X5.arraylength hx (by rw [e5]; exact Ar6.1) (State.isArrayOf_alike hZ.alike Ar6.2.1) (g := (mkF m 35 #[vr a1, vr a2, vi 0, vr w_b, vr w_d, vi 0, us, us] [(.ref w_d)])) rfl rfl (D d8_35) _ k) ?_
  rw [len_of Sz6 Ng6]
  clear Ng6 Sz6 Ar6 cl6
  refine G (fun t k => XS.istore X5.here hx rfl (D d8_36) rfl (l' := #[vr a1, vr a2, vi 0, vr w_b, vr w_d, vi 0, vi 1, us]) rfl (XS.aloadN X5.here hx rfl (D d8_38) rfl rfl k)) ?_
  refine sG T5 (mkF m 39 #[vr a1, vr a2, vi 0, vr w_b, vr w_d, vi 0, vi 1, us] [(.ref a1)]) ?_
  obtain ⟨_, T7, Lc7, X7, hQ7, st7⟩ := cV X5 hx hZ hown hml (wd49 hw) (wd50 hw) (wd52 hw) (wd51 hw) (wd53 hw) (wd10 hw) E_a1 e5 0 [] (rm10 l Z a0 hw [] a1 wC h0 n0 Z0 E_a1 F_a1_c SC hcs) pd4 (mkF m 39 #[vr a1, vr a2, vi 0, vr w_b, vr w_d, vi 0, vi 1, us] [(.ref a1)]) (D d8_39)
  refine Go.tr st7 ?_
  obtain ⟨rfl, N7q, e7⟩ := hQ7
  have N7 := Fr.app N2 N7q
  refine G (fun t k => XS.istore X7.here hx rfl (D d8_42) rfl (l' := #[vr a1, vr a2, vi 0, vr w_b, vr w_d, vi 0, vi 1, vi 0]) rfl (XS.iload X7.here hx rfl (D d8_44) rfl (XS.aloadN X7.here hx rfl (D d8_46) rfl rfl k))) ?_
  obtain ⟨_, T8, Lc8, X8, hQ8, st8⟩ := cV X7 hx hZ hown hml (wd49 hw) (wd50 hw) (wd52 hw) (wd51 hw) (wd53 hw) (wd10 hw) E_a2 e7 1 [(.int (0 : Int32))] (rm10 l Z a0 hw [] a2 wC h0 n0 Z0 E_a2 F_a2_c SC hcs) pd4 (mkF m 47 #[vr a1, vr a2, vi 0, vr w_b, vr w_d, vi 0, vi 1, vi 0] [(.ref a2), (.int 0)]) (D d8_47)
  refine Go.tr st8 ?_
  obtain ⟨rfl, N8q, e8⟩ := hQ8
  have N8 := Fr.app N7 N8q
  obtain ⟨LL8, X8, N8⟩ : ∃ LL, Stand p l e (Rm 2 0 0 27) s m #[(.ref a1), (.ref a2), (.int (0 : Int32))] below meth c T8 LL 0 0 ∧ Fr n0 LL := ⟨_, X8, N8⟩
  refine G (fun t k => XS.icmpNo X8.here hx rfl (D d8_50) rfl (teq (by decide : (0 : Int32) = (0 : Int32))).2 (XS.iload X8.here hx rfl (D d8_53) rfl k)) ?_
  refine sG T8 (mkF m 55 #[vr a1, vr a2, vi 0, vr w_b, vr w_d, vi 0, vi 1, vi 0] [(.int 0)]) ?_
  refine G (fun t k => XS.iconst X8.here hx rfl (D d8_55) (XS.icmpYes X8.here hx rfl (pc0 := 56) (pc' := 63) rfl (D d8_56) rfl (feq (by decide : ¬ ((0 : Int32) = (1 : Int32)))).2 (by decide) (by decide) (XS.aloadN X8.here hx rfl (D d8_63) rfl rfl (XS.iloadN X8.here hx rfl (D d8_64) rfl (XS.aload X8.here hx rfl (D d8_65) rfl rfl (XS.iconst X8.here hx rfl (D d8_67) k)))))) ?_
  refine G (fun t k => XS.iload X8.here hx rfl (D d8_68) rfl k) ?_
  refine sG T8 (mkF m 70 #[vr a1, vr a2, vi 0, vr w_b, vr w_d, vi 0, vi 1, vi 0] [(.int 1), (.int 0), (.ref w_d), (.int 0), (.ref w_b)]) ?_
  obtain ⟨_, T9, Lc9, X9, hQ9, st9⟩ := cS X8 hx hZ hown hml (wd85 hw) (wd86 hw) (wd87 hw) (wd88 hw) e8 0 [] (rm18 l Z a0 hw [] w_b w_d k_b bs w_n k_d pc0 h0 n0 Z0 V_b V_d (own_sw hn0 hc3)) pd14 (mkF m 70 #[vr a1, vr a2, vi 0, vr w_b, vr w_d, vi 0, vi 1, vi 0] [(.int 1), (.int 0), (.ref w_d), (.int 0), (.ref w_b)]) (D d8_70)
  refine G st9 ?_
  obtain ⟨rfl, N9q, e9⟩ := hQ9
  have N9 := Fr.app N8 N9q
  refine sG T9 (mkF m 73 #[vr a1, vr a2, vi 0, vr w_b, vr w_d, vi 0, vi 1, vi 0] [(.int (f18 bs pc0))]) ?_
  by_cases hc10 : (own_at bs (0 : Int32)) = pc0
  ·rw [show (f18 bs pc0) = (-1 : Int32) from by unfold f18; simp only [if_pos hc10, if_true, if_false]]
   refine sG T9 (mkF m 73 #[vr a1, vr a2, vi 0, vr w_b, vr w_d, vi 0, vi 1, vi 0] [(.int (-1))]) ?_
   refine G (fun t k => XS.ifNo X9.here hx rfl (D d8_73) rfl ((if0 _ _).trans (tlt (by decide : (-1 : Int32) < (0 : Int32))).2.1) (XS.iconst X9.here hx rfl (D d8_76) (XS.goto X9.here hx rfl (pc0 := 77) (pc' := 81) rfl (D d8_77) (by decide) (by decide) k))) ?_
   exact lfN (Q := Q8 Z a1 a2 w_b k_b bs w_n wC w_d k_d pc0 h0 n0) Bd X9 e9 (D d8_81) (by simp) (w := (1 : Int32)) rfl ⟨(by unfold f8; simp only [if_neg hc3, if_pos hc10]), N9, rfl⟩ (by decide) (by decide)
  ·rw [show (f18 bs pc0) = (0 : Int32) from by unfold f18; simp only [if_neg hc10, if_true, if_false]]
   refine sG T9 (mkF m 73 #[vr a1, vr a2, vi 0, vr w_b, vr w_d, vi 0, vi 1, vi 0] [(.int 0)]) ?_
   refine G (fun t k => XS.ifYes X9.here hx rfl (pc0 := 73) (pc' := 80) rfl (D d8_73) rfl ((if0 _ _).trans (flt (by decide : ¬ ((0 : Int32) < (0 : Int32)))).2.1) (by decide) (by decide) (XS.iconst X9.here hx rfl (D d8_80) k)) ?_
   exact lfN (Q := Q8 Z a1 a2 w_b k_b bs w_n wC w_d k_d pc0 h0 n0) Bd X9 e9 (D d8_81) (by simp) (w := (0 : Int32)) rfl ⟨(by unfold f8; simp only [if_neg hc3, if_neg hc10]), N9, rfl⟩ (by decide) (by decide)
theorem d7_0 : dc cB7 0 (.aload_n 0) 1 := by decide +kernel
theorem d7_1 : dc cB7 1 (.aload_n 1) 1 := by decide +kernel
theorem d7_2 : dc cB7 2 (.iconst 0) 1 := by decide +kernel
theorem d7_3 : dc cB7 3 (.invokevirtual 624) 3 := by decide +kernel
theorem wd39 {Z a0} (hw : HW a0 Z) : (Cond.methodLink SN (624 : Nat) y_20).before a0 Z = true := mw hw 39 rfl
theorem wd43 {Z a0} (hw : HW a0 Z) : (Cond.code y_20 cB8 (8 : Nat) (Option.some FieldType.boolean)).before a0 Z = true := mw hw 43 rfl
theorem pd15 : parseMethodDescriptor "(Ljava/lang/String;I)Z" = some ⟨[(.object SN), .int], some .boolean⟩ := by decide +kernel
theorem wd40 {Z a0} (hw : HW a0 Z) : (Cond.declares y_20).before a0 Z = true := mw hw 40 rfl
theorem wd42 {Z a0} (hw : HW a0 Z) : (Cond.selects SN y_20 y_20).before a0 Z = true := mw hw 42 rfl
theorem wd41 {Z a0} (hw : HW a0 Z) : (Cond.instanceMethod y_20).before a0 Z = true := mw hw 41 rfl
theorem d7_6 : dc cB7 6 .ireturn 1 := by decide +kernel
def Q7 (Z : State) (a1 : Addr) (a2 : Addr) (w_b : Addr) (k_b : ClassId) (bs : List Int32) (w_n : Int32) (wC : Int32) (w_d : Addr) (k_d : ClassId) (pc0 : Int32) (h0 : Heap) (n0 : Nat) (v : Option Value) (h : Heap) (L : List Loc) : Prop := v = some (.int ((f8 bs w_n pc0) &&& 1)) ∧ Fr n0 L ∧ h = h0
theorem ef7 (m : MethodId) (x0 : Addr) (x1 : Addr) : entryFrame m #[(.ref x0), (.ref x1)] 2 = mkF m 0 #[.val (.ref x0), .val (.ref x1)] [] := by first | (simp [entryFrame, mkF, argsToLocals, Value.category]; done) | rfl
theorem rm7 (l : Launch) (Z : State) (a0 : Array Value) (hw : HW a0 Z) (ws : List Jvm.Cond) (a1 : Addr) (a2 : Addr) (w_b : Addr) (k_b : ClassId) (bs : List Int32) (w_n : Int32) (wC : Int32) (w_d : Addr) (k_d : ClassId) (pc0 : Int32) (h0 : Heap) (n0 : Nat) (Z0 : n0 ≤ h0.size) (E_a1 : Exa Z h0 a1 SN) (F_a1_v : Fld Z h0 a1 SN "value" "[B" (.ref w_b)) (F_a1_c : Fld Z h0 a1 SN "coder" "B" (.int (0 : Int32))) (V_b : Arv Z h0 w_b k_b .byte w_n (List.map Value.int bs) (.int (0 : Int32))) (SC : Sta Z h0 SN "COMPACT_STRINGS" "Z" (.int wC)) (E_a2 : Exa Z h0 a2 SN) (F_a2_v : Fld Z h0 a2 SN "value" "[B" (.ref w_d)) (F_a2_c : Fld Z h0 a2 SN "coder" "B" (.int (0 : Int32))) (V_d : Arv Z h0 w_d k_d .byte (1 : Int32) [(.int pc0)] (.int (0 : Int32))) (hcs : ¬ wC = (0 : Int32)) (hn0 : 0 ≤ w_n.toInt) :
  MetFree l y_21 (head1 (Cond.code y_21 cB7 2 (some .boolean) :: ws) (Rm 3 0 0 46)) (Pr Z h0 #[(.ref a1), (.ref a2)]) Tr (fun _ U o U' => ∃ v L, o = .returned v ∧ Q7 Z a1 a2 w_b k_b bs w_n wC w_d k_d pc0 h0 n0 v U'.heap L ∧ FrameEnd U o U' L (Rm 3 0 0 46).cells (Rm 3 0 0 46).slots) := by
 refine MetFree.of_bodySF (plainFor_of_name pn1) hisR ?_
 intro p e s m args below meth c s₁ Bd hml0 hP hK
 obtain ⟨rfl, hZ, hh⟩ := hP
 have hx := Bd.exec
 have D := @hb _ _ Bd.bytes
 have hml : c.maxLocals = 2 := hml0
 have hown : s.vm.findClass SN = some m.cls := findClass_of_methodNamed Bd.named
 have hnm := (name_of_methodNamed Bd.named Bd.method).1
 have X0 : Stand p l e (Rm 3 0 0 46) s m #[(.ref a1), (.ref a2)] below meth c s₁ [] 0 0 := Stand.of_body Bd
 have e0 : s₁.heap = h0 := by rw [← hh, Bd.state]; rfl
 have N0 := Fr.nil n0
 have K0 : Keep h0 h0 [] := Keep.refl h0 _
 refine G (P := fun o U' => ∃ v L, o = .returned v ∧ Q7 Z a1 a2 w_b k_b bs w_n wC w_d k_d pc0 h0 n0 v U'.heap L ∧ FrameEnd s o U' L (Rm 3 0 0 46).cells (Rm 3 0 0 46).slots) (fun t k => castTop (ef7 m a1 a2) k) ?_
 refine sG s₁ (mkF m 0 #[vr a1, vr a2] []) ?_
 refine G (fun t k => XS.aloadN X0.here hx rfl (D d7_0) rfl rfl (XS.aloadN X0.here hx rfl (D d7_1) rfl rfl (XS.iconst X0.here hx rfl (D d7_2) k))) ?_
 obtain ⟨_, T1, Lc1, X1, hQ1, st1⟩ := cV X0 hx hZ hown hml (wd39 hw) (wd40 hw) (wd42 hw) (wd41 hw) (wd43 hw) (wd10 hw) E_a1 e0 0 [] (rm8 l Z a0 hw [] a1 a2 w_b k_b bs w_n wC w_d k_d pc0 h0 n0 Z0 E_a1 F_a1_v F_a1_c V_b SC E_a2 F_a2_v F_a2_c V_d hcs hn0) pd15 (mkF m 3 #[vr a1, vr a2] [(.int 0), (.ref a2), (.ref a1)]) (D d7_3)
 refine Go.tr st1 ?_
 obtain ⟨rfl, N1q, e1⟩ := hQ1
 have N1 := Fr.app N0 N1q
 exact lfN (Q := Q7 Z a1 a2 w_b k_b bs w_n wC w_d k_d pc0 h0 n0) Bd X1 e1 (D d7_6) (by simp) (w := ((f8 bs w_n pc0) &&& 1)) rfl ⟨rfl, N1, rfl⟩ (by decide) (by decide)
theorem d29_0 : dc cB29 0 (.aload_n 0) 1 := by decide +kernel
theorem d29_1 : dc cB29 1 (.invokespecial 1) 3 := by decide +kernel
theorem wd136 {Z a0} (hw : HW a0 Z) : (Cond.methodLink "java/lang/Record" (1 : Nat) ⟨"java/lang/Object", "<init>", "()V"⟩).before a0 Z = true := mw hw 136 rfl
theorem d29_4 : dc cB29 4 .return_ 1 := by decide +kernel
theorem pn8 : plainName "java/lang/Record" = true := by first | (simp [plainName, overriddenIn]; done) | decide +kernel
def Q29 (Z : State) (a1 : Addr) (h0 : Heap) (n0 : Nat) (v : Option Value) (h : Heap) (L : List Loc) : Prop := v = none ∧ Fr n0 L ∧ h = h0
theorem ef29 (m : MethodId) (x0 : Addr) : entryFrame m #[(.ref x0)] 1 = mkF m 0 #[.val (.ref x0)] [] := by first | (simp [entryFrame, mkF, argsToLocals, Value.category]; done) | rfl
theorem rm29 (l : Launch) (Z : State) (a0 : Array Value) (hw : HW a0 Z) (ws : List Jvm.Cond) (a1 : Addr) (h0 : Heap) (n0 : Nat) (Z0 : n0 ≤ h0.size) :
  MetFree l y_22 (head1 (Cond.code y_22 cB29 1 none :: ws) (Rm 1 0 0 12)) (Pr Z h0 #[(.ref a1)]) Tr (fun _ U o U' => ∃ v L, o = .returned v ∧ Q29 Z a1 h0 n0 v U'.heap L ∧ FrameEnd U o U' L (Rm 1 0 0 12).cells (Rm 1 0 0 12).slots) := by
 refine MetFree.of_bodySF (plainFor_of_name pn8) hisR ?_
 intro p e s m args below meth c s₁ Bd hml0 hP hK
 obtain ⟨rfl, hZ, hh⟩ := hP
 have hx := Bd.exec
 have D := @hb _ _ Bd.bytes
 have hml : c.maxLocals = 1 := hml0
 have hown : s.vm.findClass "java/lang/Record" = some m.cls := findClass_of_methodNamed Bd.named
 have hnm := (name_of_methodNamed Bd.named Bd.method).1
 have X0 : Stand p l e (Rm 1 0 0 12) s m #[(.ref a1)] below meth c s₁ [] 0 0 := Stand.of_body Bd
 have e0 : s₁.heap = h0 := by rw [← hh, Bd.state]; rfl
 have N0 := Fr.nil n0
 have K0 : Keep h0 h0 [] := Keep.refl h0 _
 refine G (P := fun o U' => ∃ v L, o = .returned v ∧ Q29 Z a1 h0 n0 v U'.heap L ∧ FrameEnd s o U' L (Rm 1 0 0 12).cells (Rm 1 0 0 12).slots) (fun t k => castTop (ef29 m a1) k) ?_
 refine sG s₁ (mkF m 0 #[vr a1] []) ?_
 refine G (fun t k => XS.aloadN X0.here hx rfl (D d29_0) rfl rfl k) ?_
 obtain ⟨T1, X1, e1, st1⟩ := initO X0 hx hZ hown (wd136 hw) (wd19 hw) (wd20 hw) e0 (g := (mkF m 1 #[vr a1] [(.ref a1)])) rfl (by rw [hml]; rfl) rfl (D d29_1) (by decide) (W := 0) (by show 2 * 0 + _ ≤ _; exact Nat.le_of_eq rfl) (by decide)
 refine G st1 ?_
 exact lfV (Q := Q29 Z a1 h0 n0) Bd X1 e1 (D d29_4) ⟨rfl, N0, rfl⟩ (by decide) (by decide)
theorem d28_0 : dc cB28 0 (.aload_n 0) 1 := by decide +kernel
theorem d28_1 : dc cB28 1 (.invokespecial 1) 3 := by decide +kernel
theorem wd131 {Z a0} (hw : HW a0 Z) : (Cond.methodLink NU (1 : Nat) y_22).before a0 Z = true := mw hw 131 rfl
theorem wd135 {Z a0} (hw : HW a0 Z) : (Cond.code y_22 cB29 (1 : Nat) (Option.none : Option FieldType)).before a0 Z = true := mw hw 135 rfl
theorem wd134 {Z a0} (hw : HW a0 Z) : (Cond.initialized "java/lang/Record").before a0 Z = true := mw hw 134 rfl
theorem pd16 : parseMethodDescriptor "()V" = some ⟨[], none⟩ := by decide +kernel
theorem wd132 {Z a0} (hw : HW a0 Z) : (Cond.instanceMethod y_22).before a0 Z = true := mw hw 132 rfl
theorem d28_4 : dc cB28 4 (.aload_n 0) 1 := by decide +kernel
theorem d28_5 : dc cB28 5 (.iload_n 1) 1 := by decide +kernel
theorem d28_6 : dc cB28 6 (.putfield 7) 3 := by decide +kernel
theorem wd137 {Z a0} (hw : HW a0 Z) : (Cond.fieldLink NU (7 : Nat) NU "negative" "Z").before a0 Z = true := mw hw 137 rfl
theorem wd138 {Z a0} (hw : HW a0 Z) : (Cond.laysFinal NU NU "negative" "Z").before a0 Z = true := mw hw 138 rfl
theorem wd116 {Z a0} (hw : HW a0 Z) : (Cond.instantiable NU (3 : Nat)).before a0 Z = true := mw hw 116 rfl
theorem d28_9 : dc cB28 9 (.aload_n 0) 1 := by decide +kernel
theorem d28_10 : dc cB28 10 (.aload_n 2) 1 := by decide +kernel
theorem d28_11 : dc cB28 11 (.putfield 13) 3 := by decide +kernel
theorem wd139 {Z a0} (hw : HW a0 Z) : (Cond.fieldLink NU (13 : Nat) NU "integer" LS).before a0 Z = true := mw hw 139 rfl
theorem wd140 {Z a0} (hw : HW a0 Z) : (Cond.laysFinal NU NU "integer" LS).before a0 Z = true := mw hw 140 rfl
theorem d28_14 : dc cB28 14 (.aload_n 0) 1 := by decide +kernel
theorem d28_15 : dc cB28 15 (.aload_n 3) 1 := by decide +kernel
theorem d28_16 : dc cB28 16 (.putfield 17) 3 := by decide +kernel
theorem wd141 {Z a0} (hw : HW a0 Z) : (Cond.fieldLink NU (17 : Nat) NU "fraction" LS).before a0 Z = true := mw hw 141 rfl
theorem wd142 {Z a0} (hw : HW a0 Z) : (Cond.laysFinal NU NU "fraction" LS).before a0 Z = true := mw hw 142 rfl
theorem d28_19 : dc cB28 19 .return_ 1 := by decide +kernel
def Q28 (Z : State) (a1 : Addr) (p2 : Int32) (a3 : Addr) (a4 : Addr) (u_a1_negative : Value) (u_a1_integer : Value) (u_a1_fraction : Value) (h0 : Heap) (n0 : Nat) (v : Option Value) (h : Heap) (L : List Loc) : Prop := v = none ∧ Fr n0 L ∧ Keep h0 h [a1] ∧ Exa Z h a1 NU ∧ Fld Z h a1 NU "negative" "Z" (.int (p2 &&& 1)) ∧ Fld Z h a1 NU "integer" LS (.ref a3) ∧ Fld Z h a1 NU "fraction" LS (.ref a4)
theorem ef28 (m : MethodId) (x0 : Addr) (x1 : Int32) (x2 : Addr) (x3 : Addr) : entryFrame m #[(.ref x0), (.int x1), (.ref x2), (.ref x3)] 4 = mkF m 0 #[.val (.ref x0), .val (.int x1), .val (.ref x2), .val (.ref x3)] [] := by first | (simp [entryFrame, mkF, argsToLocals, Value.category]; done) | rfl
theorem sn2 {Z a0} (hw : HW a0 Z) {b a : Addr} : b ≠ a ∨ RoadKit.slotOf Z NU "integer" LS ≠ RoadKit.slotOf Z NU "negative" "Z" := Or.inr (slot_ne (Or.inr (wd140 hw)) (Or.inr (wd138 hw)) (by decide) (t := (.object SN)) (t' := .boolean) (by decide) (by decide))
theorem sn3 {Z a0} (hw : HW a0 Z) {b a : Addr} : b ≠ a ∨ RoadKit.slotOf Z NU "fraction" LS ≠ RoadKit.slotOf Z NU "negative" "Z" := Or.inr (slot_ne (Or.inr (wd142 hw)) (Or.inr (wd138 hw)) (by decide) (t := (.object SN)) (t' := .boolean) (by decide) (by decide))
theorem sn4 {Z a0} (hw : HW a0 Z) {b a : Addr} : b ≠ a ∨ RoadKit.slotOf Z NU "negative" "Z" ≠ RoadKit.slotOf Z NU "integer" LS := Or.inr (slot_ne (Or.inr (wd138 hw)) (Or.inr (wd140 hw)) (by decide) (t := .boolean) (t' := (.object SN)) (by decide) (by decide))
theorem sn5 {Z a0} (hw : HW a0 Z) {b a : Addr} : b ≠ a ∨ RoadKit.slotOf Z NU "fraction" LS ≠ RoadKit.slotOf Z NU "integer" LS := Or.inr (slot_ne (Or.inr (wd142 hw)) (Or.inr (wd140 hw)) (by decide) (t := (.object SN)) (t' := (.object SN)) (by decide) (by decide))
theorem sn6 {Z a0} (hw : HW a0 Z) {b a : Addr} : b ≠ a ∨ RoadKit.slotOf Z NU "negative" "Z" ≠ RoadKit.slotOf Z NU "fraction" LS := Or.inr (slot_ne (Or.inr (wd138 hw)) (Or.inr (wd142 hw)) (by decide) (t := .boolean) (t' := (.object SN)) (by decide) (by decide))
theorem sn7 {Z a0} (hw : HW a0 Z) {b a : Addr} : b ≠ a ∨ RoadKit.slotOf Z NU "integer" LS ≠ RoadKit.slotOf Z NU "fraction" LS := Or.inr (slot_ne (Or.inr (wd140 hw)) (Or.inr (wd142 hw)) (by decide) (t := (.object SN)) (t' := (.object SN)) (by decide) (by decide))
theorem rm28 (l : Launch) (Z : State) (a0 : Array Value) (hw : HW a0 Z) (ws : List Jvm.Cond) (a1 : Addr) (p2 : Int32) (a3 : Addr) (a4 : Addr) (u_a1_negative : Value) (u_a1_integer : Value) (u_a1_fraction : Value) (h0 : Heap) (n0 : Nat) (Z0 : n0 ≤ h0.size) (E_a1 : Exa Z h0 a1 NU) (F_a1_negative : Fld Z h0 a1 NU "negative" "Z" u_a1_negative) (F_a1_integer : Fld Z h0 a1 NU "integer" LS u_a1_integer) (F_a1_fraction : Fld Z h0 a1 NU "fraction" LS u_a1_fraction) (g_a1 : n0 ≤ a1) :
  MetFree l y_23 (head1 (Cond.code y_23 cB28 4 none :: ws) (Rm 2 0 0 24)) (Pr Z h0 #[(.ref a1), (.int p2), (.ref a3), (.ref a4)]) Tr (fun _ U o U' => ∃ v L, o = .returned v ∧ Q28 Z a1 p2 a3 a4 u_a1_negative u_a1_integer u_a1_fraction h0 n0 v U'.heap L ∧ FrameEnd U o U' L (Rm 2 0 0 24).cells (Rm 2 0 0 24).slots) := by
 refine MetFree.of_bodySF (plainFor_of_name pn4) hisR ?_
 intro p e s m args below meth c s₁ Bd hml0 hP hK
 obtain ⟨rfl, hZ, hh⟩ := hP
 have hx := Bd.exec
 have D := @hb _ _ Bd.bytes
 have hml : c.maxLocals = 4 := hml0
 have hown : s.vm.findClass NU = some m.cls := findClass_of_methodNamed Bd.named
 have hnm := (name_of_methodNamed Bd.named Bd.method).1
 have X0 : Stand p l e (Rm 2 0 0 24) s m #[(.ref a1), (.int p2), (.ref a3), (.ref a4)] below meth c s₁ [] 0 0 := Stand.of_body Bd
 have e0 : s₁.heap = h0 := by rw [← hh, Bd.state]; rfl
 have N0 := Fr.nil n0
 have K0 : Keep h0 h0 [a1] := Keep.refl h0 _
 refine G (P := fun o U' => ∃ v L, o = .returned v ∧ Q28 Z a1 p2 a3 a4 u_a1_negative u_a1_integer u_a1_fraction h0 n0 v U'.heap L ∧ FrameEnd s o U' L (Rm 2 0 0 24).cells (Rm 2 0 0 24).slots) (fun t k => castTop (ef28 m a1 p2 a3 a4) k) ?_
 refine sG s₁ (mkF m 0 #[vr a1, vi p2, vr a3, vr a4] []) ?_
 refine G (fun t k => XS.aloadN X0.here hx rfl (D d28_0) rfl rfl k) ?_
 obtain ⟨_, _, ⟨T1, L1, k1, n1⟩, -, X1, ⟨Lc1, hQ1, l1, y1, z1⟩, st1⟩ := X0.specialBack hx (y := y_22) rfl hown (mvT hZ (wd131 hw)) (mvT hZ (wd132 hw)) (mvT hZ (wd135 hw)) (by decide) (backOf (W := 0) (rm29 l Z a0 hw [] a1 h0 n0 Z0) hZ (wd135 hw) (wd134 hw) (by decide) (by decide)) (g := (mkF m 1 #[vr a1, vi p2, vr a3, vr a4] [(.ref a1)])) rfl (by rw [hml]; rfl) (Steps.refl _) (a := a1) (argsL := []) (rest := []) (lenOf pd16 rfl) rfl (by show 2 * 0 + _ ≤ _; exact Nat.le_of_eq rfl) (D d28_1) (fun _ _ => ⟨rfl, e0, (by decide : 0 + 0 ≤ _), (by decide : 0 + 0 ≤ _)⟩)
 dsimp only [Pt.U, Pt.locs, Pt.cells, Pt.slots] at X1 l1 y1 z1 st1 hQ1
 subst l1 y1 z1
 refine Go.tr st1 ?_
 obtain ⟨rfl, N1q, e1⟩ := hQ1
 have N1 := Fr.app N0 N1q
 refine G (fun t k => XS.aloadN X1.here hx rfl (D d28_4) rfl rfl (XS.iloadN X1.here hx rfl (D d28_5) rfl k)) ?_
 obtain ⟨T2, h2, X2, e2, W2, st2⟩ := putFN X1 hx hZ hown (wd137 hw) Via.refl e1 F_a1_negative E_a1 (Or.inr ⟨(wd138 hw), rfl, hnm⟩) (wd116 hw) (ty := .boolean) (v' := (.int (p2 &&& 1))) (by decide) rfl (fits_nar_bool _) (g := (mkF m 6 #[vr a1, vi p2, vr a3, vr a4] [(.int p2), (.ref a1)])) rfl rfl (D d28_6)
 refine G st2 ?_
 have N2 := Fr.snoc X2 N1 g_a1
 replace E_a1 := E_a1.wr W2
 replace F_a1_negative := F_a1_negative.same W2
 replace F_a1_integer := F_a1_integer.other W2 (sn2 hw)
 replace F_a1_fraction := F_a1_fraction.other W2 (sn3 hw)
 replace Z0 := Nat.le_trans Z0 (Nat.le_of_eq W2.size.symm)
 replace K0 := K0.wr W2 (Or.inl (by simp))
 refine G (fun t k => XS.aloadN X2.here hx rfl (D d28_9) rfl rfl (XS.aloadN X2.here hx rfl (D d28_10) rfl rfl k)) ?_
 refine sG T2 (mkF m 11 #[vr a1, vi p2, vr a3, vr a4] [(.ref a3), (.ref a1)]) ?_
 obtain ⟨T3, h3, X3, e3, W3, st3⟩ := putF X2 hx hZ hown (host := "") (Or.inl (wd139 hw)) Via.refl e2 F_a1_integer E_a1 (Or.inr ⟨(wd140 hw), rfl, hnm⟩) (wd116 hw) (ty := (.object SN)) (by decide) rfl rfl (g := (mkF m 11 #[vr a1, vi p2, vr a3, vr a4] [(.ref a3), (.ref a1)])) rfl rfl (D d28_11)
 refine G st3 ?_
 have N3 := Fr.snoc X3 N2 g_a1
 replace E_a1 := E_a1.wr W3
 replace F_a1_negative := F_a1_negative.other W3 (sn4 hw)
 replace F_a1_integer := F_a1_integer.same W3
 replace F_a1_fraction := F_a1_fraction.other W3 (sn5 hw)
 replace Z0 := Nat.le_trans Z0 (Nat.le_of_eq W3.size.symm)
 replace K0 := K0.wr W3 (Or.inl (by simp))
 refine G (fun t k => XS.aloadN X3.here hx rfl (D d28_14) rfl rfl (XS.aloadN X3.here hx rfl (D d28_15) rfl rfl k)) ?_
 obtain ⟨T4, h4, X4, e4, W4, st4⟩ := putF X3 hx hZ hown (host := "") (Or.inl (wd141 hw)) Via.refl e3 F_a1_fraction E_a1 (Or.inr ⟨(wd142 hw), rfl, hnm⟩) (wd116 hw) (ty := (.object SN)) (by decide) rfl rfl (g := (mkF m 16 #[vr a1, vi p2, vr a3, vr a4] [(.ref a4), (.ref a1)])) rfl rfl (D d28_16)
 refine G st4 ?_
 have N4 := Fr.snoc X4 N3 g_a1
 obtain ⟨LL4, X4, N4⟩ : ∃ LL, Stand p l e (Rm 2 0 0 24) s m #[(.ref a1), (.int p2), (.ref a3), (.ref a4)] below meth c T4 LL 0 0 ∧ Fr n0 LL := ⟨_, X4, N4⟩
 replace E_a1 := E_a1.wr W4
 replace F_a1_negative := F_a1_negative.other W4 (sn6 hw)
 replace F_a1_integer := F_a1_integer.other W4 (sn7 hw)
 replace F_a1_fraction := F_a1_fraction.same W4
 replace Z0 := Nat.le_trans Z0 (Nat.le_of_eq W4.size.symm)
 replace K0 := K0.wr W4 (Or.inl (by simp))
 exact lfV (Q := Q28 Z a1 p2 a3 a4 u_a1_negative u_a1_integer u_a1_fraction h0 n0) Bd X4 e4 (D d28_19) ⟨rfl, N4, K0, E_a1, F_a1_negative, F_a1_integer, F_a1_fraction⟩ (by decide) (by decide)
theorem d35_0 : dc cB35 0 (.aload_n 0) 1 := by decide +kernel
theorem d35_1 : dc cB35 1 (.getfield 7) 3 := by decide +kernel
theorem d35_4 : dc cB35 4 .ireturn 1 := by decide +kernel
def Q35 (Z : State) (a1 : Addr) (w_a1_negative : Int32) (h0 : Heap) (n0 : Nat) (v : Option Value) (h : Heap) (L : List Loc) : Prop := v = some (.int (w_a1_negative &&& 1)) ∧ Fr n0 L ∧ h = h0
theorem ef35 (m : MethodId) (x0 : Addr) : entryFrame m #[(.ref x0)] 1 = mkF m 0 #[.val (.ref x0)] [] := by first | (simp [entryFrame, mkF, argsToLocals, Value.category]; done) | rfl
theorem rm35 (l : Launch) (Z : State) (a0 : Array Value) (hw : HW a0 Z) (ws : List Jvm.Cond) (a1 : Addr) (w_a1_negative : Int32) (h0 : Heap) (n0 : Nat) (Z0 : n0 ≤ h0.size) (F_a1_negative : Fld Z h0 a1 NU "negative" "Z" (.int w_a1_negative)) :
  MetFree l y_24 (head1 (Cond.code y_24 cB35 1 (some .boolean) :: ws) (Rm 0 0 0 0)) (Pr Z h0 #[(.ref a1)]) Tr (fun _ U o U' => ∃ v L, o = .returned v ∧ Q35 Z a1 w_a1_negative h0 n0 v U'.heap L ∧ FrameEnd U o U' L (Rm 0 0 0 0).cells (Rm 0 0 0 0).slots) := by
 refine MetFree.of_bodySF (plainFor_of_name pn4) hisR ?_
 intro p e s m args below meth c s₁ Bd hml0 hP hK
 obtain ⟨rfl, hZ, hh⟩ := hP
 have hx := Bd.exec
 have D := @hb _ _ Bd.bytes
 have hml : c.maxLocals = 1 := hml0
 have hown : s.vm.findClass NU = some m.cls := findClass_of_methodNamed Bd.named
 have hnm := (name_of_methodNamed Bd.named Bd.method).1
 have X0 : Stand p l e (Rm 0 0 0 0) s m #[(.ref a1)] below meth c s₁ [] 0 0 := Stand.of_body Bd
 have e0 : s₁.heap = h0 := by rw [← hh, Bd.state]; rfl
 have N0 := Fr.nil n0
 have K0 : Keep h0 h0 [] := Keep.refl h0 _
 refine G (P := fun o U' => ∃ v L, o = .returned v ∧ Q35 Z a1 w_a1_negative h0 n0 v U'.heap L ∧ FrameEnd s o U' L (Rm 0 0 0 0).cells (Rm 0 0 0 0).slots) (fun t k => castTop (ef35 m a1) k) ?_
 refine sG s₁ (mkF m 0 #[vr a1] []) ?_
 refine G (fun t k => XS.aloadN X0.here hx rfl (D d35_0) rfl rfl k) ?_
 obtain ⟨T1, X1, e1, st1⟩ := getF X0 hx hZ hown (host := "") (Or.inl (wd137 hw)) Via.refl e0 F_a1_negative (g := (mkF m 1 #[vr a1] [(.ref a1)])) rfl rfl (D d35_1)
 refine G st1 ?_
 exact lfN (Q := Q35 Z a1 w_a1_negative h0 n0) Bd X1 e1 (D d35_4) (by simp) (w := (w_a1_negative &&& 1)) rfl ⟨rfl, N0, rfl⟩ (by decide) (by decide)
theorem d36_0 : dc cB36 0 (.aload_n 0) 1 := by decide +kernel
theorem d36_1 : dc cB36 1 (.getfield 13) 3 := by decide +kernel
theorem d36_4 : dc cB36 4 .areturn 1 := by decide +kernel
def Q36 (Z : State) (a1 : Addr) (w_a1_integer : Addr) (h0 : Heap) (n0 : Nat) (v : Option Value) (h : Heap) (L : List Loc) : Prop := v = some (.ref w_a1_integer) ∧ Fr n0 L ∧ h = h0
theorem ef36 (m : MethodId) (x0 : Addr) : entryFrame m #[(.ref x0)] 1 = mkF m 0 #[.val (.ref x0)] [] := by first | (simp [entryFrame, mkF, argsToLocals, Value.category]; done) | rfl
theorem rm36 (l : Launch) (Z : State) (a0 : Array Value) (hw : HW a0 Z) (ws : List Jvm.Cond) (a1 : Addr) (w_a1_integer : Addr) (h0 : Heap) (n0 : Nat) (Z0 : n0 ≤ h0.size) (F_a1_integer : Fld Z h0 a1 NU "integer" LS (.ref w_a1_integer)) :
  MetFree l y_25 (head1 (Cond.code y_25 cB36 1 (some (.object SN)) :: ws) (Rm 0 0 0 0)) (Pr Z h0 #[(.ref a1)]) Tr (fun _ U o U' => ∃ v L, o = .returned v ∧ Q36 Z a1 w_a1_integer h0 n0 v U'.heap L ∧ FrameEnd U o U' L (Rm 0 0 0 0).cells (Rm 0 0 0 0).slots) := by
 refine MetFree.of_bodySF (plainFor_of_name pn4) hisR ?_
 intro p e s m args below meth c s₁ Bd hml0 hP hK
 obtain ⟨rfl, hZ, hh⟩ := hP
 have hx := Bd.exec
 have D := @hb _ _ Bd.bytes
 have hml : c.maxLocals = 1 := hml0
 have hown : s.vm.findClass NU = some m.cls := findClass_of_methodNamed Bd.named
 have hnm := (name_of_methodNamed Bd.named Bd.method).1
 have X0 : Stand p l e (Rm 0 0 0 0) s m #[(.ref a1)] below meth c s₁ [] 0 0 := Stand.of_body Bd
 have e0 : s₁.heap = h0 := by rw [← hh, Bd.state]; rfl
 have N0 := Fr.nil n0
 have K0 : Keep h0 h0 [] := Keep.refl h0 _
 refine G (P := fun o U' => ∃ v L, o = .returned v ∧ Q36 Z a1 w_a1_integer h0 n0 v U'.heap L ∧ FrameEnd s o U' L (Rm 0 0 0 0).cells (Rm 0 0 0 0).slots) (fun t k => castTop (ef36 m a1) k) ?_
 refine sG s₁ (mkF m 0 #[vr a1] []) ?_
 refine G (fun t k => XS.aloadN X0.here hx rfl (D d36_0) rfl rfl k) ?_
 obtain ⟨T1, X1, e1, st1⟩ := getF X0 hx hZ hown (host := "") (Or.inl (wd139 hw)) Via.refl e0 F_a1_integer (g := (mkF m 1 #[vr a1] [(.ref a1)])) rfl rfl (D d36_1)
 refine G st1 ?_
 exact lfR (Q := Q36 Z a1 w_a1_integer h0 n0) Bd X1 e1 (D d36_4) rfl rfl rfl ⟨rfl, N0, rfl⟩ (by decide) (by decide)
theorem d38_0 : dc cB38 0 (.aload_n 0) 1 := by decide +kernel
theorem d38_1 : dc cB38 1 (.getfield 17) 3 := by decide +kernel
theorem d38_4 : dc cB38 4 .areturn 1 := by decide +kernel
def Q38 (Z : State) (a1 : Addr) (w_a1_fraction : Addr) (h0 : Heap) (n0 : Nat) (v : Option Value) (h : Heap) (L : List Loc) : Prop := v = some (.ref w_a1_fraction) ∧ Fr n0 L ∧ h = h0
theorem ef38 (m : MethodId) (x0 : Addr) : entryFrame m #[(.ref x0)] 1 = mkF m 0 #[.val (.ref x0)] [] := by first | (simp [entryFrame, mkF, argsToLocals, Value.category]; done) | rfl
theorem rm38 (l : Launch) (Z : State) (a0 : Array Value) (hw : HW a0 Z) (ws : List Jvm.Cond) (a1 : Addr) (w_a1_fraction : Addr) (h0 : Heap) (n0 : Nat) (Z0 : n0 ≤ h0.size) (F_a1_fraction : Fld Z h0 a1 NU "fraction" LS (.ref w_a1_fraction)) :
  MetFree l y_26 (head1 (Cond.code y_26 cB38 1 (some (.object SN)) :: ws) (Rm 0 0 0 0)) (Pr Z h0 #[(.ref a1)]) Tr (fun _ U o U' => ∃ v L, o = .returned v ∧ Q38 Z a1 w_a1_fraction h0 n0 v U'.heap L ∧ FrameEnd U o U' L (Rm 0 0 0 0).cells (Rm 0 0 0 0).slots) := by
 refine MetFree.of_bodySF (plainFor_of_name pn4) hisR ?_
 intro p e s m args below meth c s₁ Bd hml0 hP hK
 obtain ⟨rfl, hZ, hh⟩ := hP
 have hx := Bd.exec
 have D := @hb _ _ Bd.bytes
 have hml : c.maxLocals = 1 := hml0
 have hown : s.vm.findClass NU = some m.cls := findClass_of_methodNamed Bd.named
 have hnm := (name_of_methodNamed Bd.named Bd.method).1
 have X0 : Stand p l e (Rm 0 0 0 0) s m #[(.ref a1)] below meth c s₁ [] 0 0 := Stand.of_body Bd
 have e0 : s₁.heap = h0 := by rw [← hh, Bd.state]; rfl
 have N0 := Fr.nil n0
 have K0 : Keep h0 h0 [] := Keep.refl h0 _
 refine G (P := fun o U' => ∃ v L, o = .returned v ∧ Q38 Z a1 w_a1_fraction h0 n0 v U'.heap L ∧ FrameEnd s o U' L (Rm 0 0 0 0).cells (Rm 0 0 0 0).slots) (fun t k => castTop (ef38 m a1) k) ?_
 refine sG s₁ (mkF m 0 #[vr a1] []) ?_
 refine G (fun t k => XS.aloadN X0.here hx rfl (D d38_0) rfl rfl k) ?_
 obtain ⟨T1, X1, e1, st1⟩ := getF X0 hx hZ hown (host := "") (Or.inl (wd141 hw)) Via.refl e0 F_a1_fraction (g := (mkF m 1 #[vr a1] [(.ref a1)])) rfl rfl (D d38_1)
 refine G st1 ?_
 exact lfR (Q := Q38 Z a1 w_a1_fraction h0 n0) Bd X1 e1 (D d38_4) rfl rfl rfl ⟨rfl, N0, rfl⟩ (by decide) (by decide)
theorem d31_0 : dc cB31 0 (.aload_n 0) 1 := by decide +kernel
theorem d31_1 : dc cB31 1 (.ifnonnull 11) 3 := by decide +kernel
theorem d31_12 : dc cB31 12 (.aload_n 0) 1 := by decide +kernel
theorem d31_13 : dc cB31 13 .areturn 1 := by decide +kernel
theorem pn9 : plainName "java/util/Objects" = true := by first | (simp [plainName, overriddenIn]; done) | decide +kernel
def Q31 (Z : State) (a1 : Addr) (h0 : Heap) (n0 : Nat) (v : Option Value) (h : Heap) (L : List Loc) : Prop := v = some (.ref a1) ∧ Fr n0 L ∧ h = h0
theorem ef31 (m : MethodId) (x0 : Addr) : entryFrame m #[(.ref x0)] 1 = mkF m 0 #[.val (.ref x0)] [] := by first | (simp [entryFrame, mkF, argsToLocals, Value.category]; done) | rfl
theorem rm31 (l : Launch) (Z : State) (a0 : Array Value) (hw : HW a0 Z) (ws : List Jvm.Cond) (a1 : Addr) (h0 : Heap) (n0 : Nat) (Z0 : n0 ≤ h0.size) :
  MetFree l y_27 (head1 (Cond.code y_27 cB31 1 (some (.object "java/lang/Object")) :: ws) (Rm 0 0 0 0)) (Pr Z h0 #[(.ref a1)]) Tr (fun _ U o U' => ∃ v L, o = .returned v ∧ Q31 Z a1 h0 n0 v U'.heap L ∧ FrameEnd U o U' L (Rm 0 0 0 0).cells (Rm 0 0 0 0).slots) := by
 refine MetFree.of_bodySF (plainFor_of_name pn9) hisR ?_
 intro p e s m args below meth c s₁ Bd hml0 hP hK
 obtain ⟨rfl, hZ, hh⟩ := hP
 have hx := Bd.exec
 have D := @hb _ _ Bd.bytes
 have hml : c.maxLocals = 1 := hml0
 have hown : s.vm.findClass "java/util/Objects" = some m.cls := findClass_of_methodNamed Bd.named
 have hnm := (name_of_methodNamed Bd.named Bd.method).1
 have X0 : Stand p l e (Rm 0 0 0 0) s m #[(.ref a1)] below meth c s₁ [] 0 0 := Stand.of_body Bd
 have e0 : s₁.heap = h0 := by rw [← hh, Bd.state]; rfl
 have N0 := Fr.nil n0
 have K0 : Keep h0 h0 [] := Keep.refl h0 _
 refine G (P := fun o U' => ∃ v L, o = .returned v ∧ Q31 Z a1 h0 n0 v U'.heap L ∧ FrameEnd s o U' L (Rm 0 0 0 0).cells (Rm 0 0 0 0).slots) (fun t k => castTop (ef31 m a1) k) ?_
 refine sG s₁ (mkF m 0 #[vr a1] []) ?_
 refine G (fun t k => XS.aloadN X0.here hx rfl (D d31_0) rfl rfl (XS.ifnonnullYes X0.here hx rfl (pc0 := 1) (pc' := 12) rfl (D d31_1) rfl (by decide) (by decide) (XS.aloadN X0.here hx rfl (D d31_12) rfl rfl k))) ?_
 exact lfR (Q := Q31 Z a1 h0 n0) Bd X0 e0 (D d31_13) rfl rfl rfl ⟨rfl, N0, rfl⟩ (by decide) (by decide)
theorem d32_0 : dc cB32 0 (.aload_n 0) 1 := by decide +kernel
theorem d32_1 : dc cB32 1 (.invokespecial 7) 3 := by decide +kernel
theorem wd156 {Z a0} (hw : HW a0 Z) : (Cond.methodLink OP (7 : Nat) ⟨"java/lang/Object", "<init>", "()V"⟩).before a0 Z = true := mw hw 156 rfl
theorem d32_4 : dc cB32 4 (.aload_n 0) 1 := by decide +kernel
theorem d32_5 : dc cB32 5 (.aload_n 1) 1 := by decide +kernel
theorem d32_6 : dc cB32 6 (.putfield 13) 3 := by decide +kernel
theorem wd73 {Z a0} (hw : HW a0 Z) : (Cond.fieldLink OP (13 : Nat) OP "value" "Ljava/lang/Object;").before a0 Z = true := mw hw 73 rfl
theorem wd74 {Z a0} (hw : HW a0 Z) : (Cond.laysFinal OP OP "value" "Ljava/lang/Object;").before a0 Z = true := mw hw 74 rfl
theorem wd147 {Z a0} (hw : HW a0 Z) : (Cond.instantiable OP (1 : Nat)).before a0 Z = true := mw hw 147 rfl
theorem d32_9 : dc cB32 9 .return_ 1 := by decide +kernel
theorem pn10 : plainName OP = true := by first | (simp [plainName, overriddenIn]; done) | decide +kernel
def Q32 (Z : State) (a1 : Addr) (a2 : Addr) (u_a1_value : Value) (h0 : Heap) (n0 : Nat) (v : Option Value) (h : Heap) (L : List Loc) : Prop := v = none ∧ Fr n0 L ∧ Keep h0 h [a1] ∧ Exa Z h a1 OP ∧ Fld Z h a1 OP "value" "Ljava/lang/Object;" (.ref a2)
theorem ef32 (m : MethodId) (x0 : Addr) (x1 : Addr) : entryFrame m #[(.ref x0), (.ref x1)] 2 = mkF m 0 #[.val (.ref x0), .val (.ref x1)] [] := by first | (simp [entryFrame, mkF, argsToLocals, Value.category]; done) | rfl
theorem rm32 (l : Launch) (Z : State) (a0 : Array Value) (hw : HW a0 Z) (ws : List Jvm.Cond) (a1 : Addr) (a2 : Addr) (u_a1_value : Value) (h0 : Heap) (n0 : Nat) (Z0 : n0 ≤ h0.size) (E_a1 : Exa Z h0 a1 OP) (F_a1_v : Fld Z h0 a1 OP "value" "Ljava/lang/Object;" u_a1_value) (g_a1 : n0 ≤ a1) :
  MetFree l y_28 (head1 (Cond.code y_28 cB32 2 none :: ws) (Rm 1 0 0 12)) (Pr Z h0 #[(.ref a1), (.ref a2)]) Tr (fun _ U o U' => ∃ v L, o = .returned v ∧ Q32 Z a1 a2 u_a1_value h0 n0 v U'.heap L ∧ FrameEnd U o U' L (Rm 1 0 0 12).cells (Rm 1 0 0 12).slots) := by
 refine MetFree.of_bodySF (plainFor_of_name pn10) hisR ?_
 intro p e s m args below meth c s₁ Bd hml0 hP hK
 obtain ⟨rfl, hZ, hh⟩ := hP
 have hx := Bd.exec
 have D := @hb _ _ Bd.bytes
 have hml : c.maxLocals = 2 := hml0
 have hown : s.vm.findClass OP = some m.cls := findClass_of_methodNamed Bd.named
 have hnm := (name_of_methodNamed Bd.named Bd.method).1
 have X0 : Stand p l e (Rm 1 0 0 12) s m #[(.ref a1), (.ref a2)] below meth c s₁ [] 0 0 := Stand.of_body Bd
 have e0 : s₁.heap = h0 := by rw [← hh, Bd.state]; rfl
 have N0 := Fr.nil n0
 have K0 : Keep h0 h0 [a1] := Keep.refl h0 _
 refine G (P := fun o U' => ∃ v L, o = .returned v ∧ Q32 Z a1 a2 u_a1_value h0 n0 v U'.heap L ∧ FrameEnd s o U' L (Rm 1 0 0 12).cells (Rm 1 0 0 12).slots) (fun t k => castTop (ef32 m a1 a2) k) ?_
 refine sG s₁ (mkF m 0 #[vr a1, vr a2] []) ?_
 refine G (fun t k => XS.aloadN X0.here hx rfl (D d32_0) rfl rfl k) ?_
 obtain ⟨T1, X1, e1, st1⟩ := initO X0 hx hZ hown (wd156 hw) (wd19 hw) (wd20 hw) e0 (g := (mkF m 1 #[vr a1, vr a2] [(.ref a1)])) rfl (by rw [hml]; rfl) rfl (D d32_1) (by decide) (W := 0) (by show 2 * 0 + _ ≤ _; exact Nat.le_of_eq rfl) (by decide)
 refine G st1 ?_
 refine G (fun t k => XS.aloadN X1.here hx rfl (D d32_4) rfl rfl (XS.aloadN X1.here hx rfl (D d32_5) rfl rfl k)) ?_
 obtain ⟨T2, h2, X2, e2, W2, st2⟩ := putF X1 hx hZ hown (host := "") (Or.inl (wd73 hw)) Via.refl e1 F_a1_v E_a1 (Or.inr ⟨(wd74 hw), rfl, hnm⟩) (wd147 hw) (ty := (.object "java/lang/Object")) (by decide) rfl rfl (g := (mkF m 6 #[vr a1, vr a2] [(.ref a2), (.ref a1)])) rfl rfl (D d32_6)
 refine G st2 ?_
 have N2 := Fr.snoc X2 N0 g_a1
 replace E_a1 := E_a1.wr W2
 replace F_a1_v := F_a1_v.same W2
 replace Z0 := Nat.le_trans Z0 (Nat.le_of_eq W2.size.symm)
 replace K0 := K0.wr W2 (Or.inl (by simp))
 exact lfV (Q := Q32 Z a1 a2 u_a1_value h0 n0) Bd X2 e2 (D d32_9) ⟨rfl, N2, K0, E_a1, F_a1_v⟩ (by decide) (by decide)
theorem d30_0 : dc cB30 0 (.new 2) 3 := by decide +kernel
theorem wd146 {Z a0} (hw : HW a0 Z) : (Cond.classLink OP (2 : Nat) OP).before a0 Z = true := mw hw 146 rfl
theorem wd59 {Z a0} (hw : HW a0 Z) : (Cond.initialized OP).before a0 Z = true := mw hw 59 rfl
theorem d30_3 : dc cB30 3 .dup 1 := by decide +kernel
theorem d30_4 : dc cB30 4 (.aload_n 0) 1 := by decide +kernel
theorem d30_5 : dc cB30 5 (.invokestatic 17) 3 := by decide +kernel
theorem wd148 {Z a0} (hw : HW a0 Z) : (Cond.methodLink OP (17 : Nat) y_27).before a0 Z = true := mw hw 148 rfl
theorem wd151 {Z a0} (hw : HW a0 Z) : (Cond.code y_27 cB31 (1 : Nat) (Option.some (FieldType.object "java/lang/Object"))).before a0 Z = true := mw hw 151 rfl
theorem wd150 {Z a0} (hw : HW a0 Z) : (Cond.initialized "java/util/Objects").before a0 Z = true := mw hw 150 rfl
theorem pd17 : parseMethodDescriptor "(Ljava/lang/Object;)Ljava/lang/Object;" = some ⟨[(.object "java/lang/Object")], some (.object "java/lang/Object")⟩ := by decide +kernel
theorem wd149 {Z a0} (hw : HW a0 Z) : (Cond.static y_27).before a0 Z = true := mw hw 149 rfl
theorem d30_8 : dc cB30 8 (.invokespecial 23) 3 := by decide +kernel
theorem wd152 {Z a0} (hw : HW a0 Z) : (Cond.methodLink OP (23 : Nat) y_28).before a0 Z = true := mw hw 152 rfl
theorem wd155 {Z a0} (hw : HW a0 Z) : (Cond.code y_28 cB32 (2 : Nat) (Option.none : Option FieldType)).before a0 Z = true := mw hw 155 rfl
theorem pd18 : parseMethodDescriptor "(Ljava/lang/Object;)V" = some ⟨[(.object "java/lang/Object")], none⟩ := by decide +kernel
theorem wd153 {Z a0} (hw : HW a0 Z) : (Cond.instanceMethod y_28).before a0 Z = true := mw hw 153 rfl
theorem d30_11 : dc cB30 11 .areturn 1 := by decide +kernel
def Q30 (Z : State) (a1 : Addr) (h0 : Heap) (n0 : Nat) (v : Option Value) (h : Heap) (L : List Loc) : Prop := ∃ x30_0 : Addr, v = some (.ref x30_0) ∧ Fr n0 L ∧ Keep h0 h [] ∧ n0 ≤ x30_0 ∧ h0.size ≤ x30_0 ∧ Exa Z h x30_0 OP ∧ Fld Z h x30_0 OP "value" "Ljava/lang/Object;" (.ref a1)
theorem ef30 (m : MethodId) (x0 : Addr) : entryFrame m #[(.ref x0)] 1 = mkF m 0 #[.val (.ref x0)] [] := by first | (simp [entryFrame, mkF, argsToLocals, Value.category]; done) | rfl
theorem rm30 (l : Launch) (Z : State) (a0 : Array Value) (hw : HW a0 Z) (ws : List Jvm.Cond) (a1 : Addr) (h0 : Heap) (n0 : Nat) (Z0 : n0 ≤ h0.size) :
  MetFree l y_29 (head1 (Cond.code y_29 cB30 1 (some (.object OP)) :: ws) (Rm 2 1 1 26)) (Pr Z h0 #[(.ref a1)]) Tr (fun _ U o U' => ∃ v L, o = .returned v ∧ Q30 Z a1 h0 n0 v U'.heap L ∧ FrameEnd U o U' L (Rm 2 1 1 26).cells (Rm 2 1 1 26).slots) := by
 refine MetFree.of_bodySF (plainFor_of_name pn10) hisR ?_
 intro p e s m args below meth c s₁ Bd hml0 hP hK
 obtain ⟨rfl, hZ, hh⟩ := hP
 have hx := Bd.exec
 have D := @hb _ _ Bd.bytes
 have hml : c.maxLocals = 1 := hml0
 have hown : s.vm.findClass OP = some m.cls := findClass_of_methodNamed Bd.named
 have hnm := (name_of_methodNamed Bd.named Bd.method).1
 have X0 : Stand p l e (Rm 2 1 1 26) s m #[(.ref a1)] below meth c s₁ [] 0 0 := Stand.of_body Bd
 have e0 : s₁.heap = h0 := by rw [← hh, Bd.state]; rfl
 have N0 := Fr.nil n0
 have K0 : Keep h0 h0 [] := Keep.refl h0 _
 refine G (P := fun o U' => ∃ v L, o = .returned v ∧ Q30 Z a1 h0 n0 v U'.heap L ∧ FrameEnd s o U' L (Rm 2 1 1 26).cells (Rm 2 1 1 26).slots) (fun t k => castTop (ef30 m a1) k) ?_
 refine sG s₁ (mkF m 0 #[vr a1] []) ?_
 obtain ⟨T1, h1, X1, e1, E1, A1, D1, -, st1⟩ := newO X0 hx hZ hown (wd146 hw) (wd147 hw) (wd59 hw) e0 (g := (mkF m 0 #[vr a1] [])) rfl (D d30_0) (by decide) (by decide)
 obtain ⟨b1, g1⟩ : ∃ z, z = h0.size := ⟨_, rfl⟩
 rw [← g1] at A1 D1 st1
 refine G st1 ?_
 have g_b1 : n0 ≤ b1 := Nat.le_trans Z0 (Nat.le_of_eq g1.symm)
 have sz_b1 : h0.size ≤ b1 := Nat.le_trans K0.1 (Nat.le_of_eq g1.symm)
 replace K0 := K0.ext E1
 replace Z0 := Nat.le_trans Z0 E1.1
 have E_b1 := A1
 have F_b1_v : Fld Z h1 b1 OP "value" "Ljava/lang/Object;" .null := D1 (Or.inr (wd74 hw)) (ty := (.object "java/lang/Object")) (by decide)
 refine G (fun t k => XS.dup X1.here hx rfl (D d30_3) rfl rfl (XS.aloadN X1.here hx rfl (D d30_4) rfl rfl k)) ?_
 obtain ⟨_, T2, Lc2, X2, hQ2, st2⟩ := cS X1 hx hZ hown hml (wd148 hw) (wd149 hw) (wd150 hw) (wd151 hw) e1 2 [(.ref b1), (.ref b1)] (rm31 l Z a0 hw [] a1 h1 n0 Z0) pd17 (mkF m 5 #[vr a1] [(.ref a1), (.ref b1), (.ref b1)]) (D d30_5)
 refine G st2 ?_
 obtain ⟨rfl, N2q, e2⟩ := hQ2
 have N2 := Fr.app N0 N2q
 obtain ⟨_, _, ⟨T3, L3, k3, n3⟩, -, X3, ⟨Lc3, hQ3, l3, y3, z3⟩, st3⟩ := X2.specialBack hx (y := y_28) rfl hown (mvT hZ (wd152 hw)) (mvT hZ (wd153 hw)) (mvT hZ (wd155 hw)) (by decide) (backOf (W := 1) (rm32 l Z a0 hw [] b1 a1 (.null : Value) h1 n0 Z0 E_b1 F_b1_v g_b1) hZ (wd155 hw) (wd59 hw) (by decide) (by decide)) (g := (mkF m 8 #[vr a1] [(.ref a1), (.ref b1), (.ref b1)])) rfl (by rw [hml]; rfl) (Steps.refl _) (a := b1) (argsL := [(.ref a1)]) (rest := [(.ref b1)]) (lenOf pd18 rfl) rfl (by show 2 * 0 + _ ≤ _; exact Nat.le_of_eq rfl) (D d30_8) (fun _ _ => ⟨rfl, e2, (by decide : 1 + 0 ≤ _), (by decide : 1 + 0 ≤ _)⟩)
 dsimp only [Pt.U, Pt.locs, Pt.cells, Pt.slots] at X3 l3 y3 z3 st3 hQ3
 subst l3 y3 z3
 refine Go.tr st3 ?_
 have E_b1_pre := E_b1
 have F_b1_value_pre := F_b1_v
 obtain ⟨h3, e3⟩ : ∃ z, T3.heap = z := ⟨_, rfl⟩
 rw [e3] at hQ3
 obtain ⟨rfl, N3q, K3, Q3_0, Q3_1⟩ := hQ3
 replace E_b1 := E_b1.keep K3
 replace Z0 := Nat.le_trans Z0 K3.1
 replace K0 := K0.trans K3 (allS (Or.inr sz_b1) all0)
 clear E_b1_pre F_b1_value_pre
 have E_b1 := Q3_0
 have F_b1_v := Q3_1
 have N3 := Fr.app N2 N3q
 exact lfR (Q := Q30 Z a1 h0 n0) Bd X3 e3 (D d30_11) rfl rfl rfl ⟨b1, rfl, N3, K0, g_b1, sz_b1, E_b1, F_b1_v⟩ (by decide) (by decide)
theorem d11_0 : dc cB11 0 (.getstatic 1) 3 := by decide +kernel
theorem wd61 {Z a0} (hw : HW a0 Z) : (Cond.fieldLink OP (1 : Nat) OP "EMPTY" "Ljava/util/Optional;").before a0 Z = true := mw hw 61 rfl
theorem d11_3 : dc cB11 3 (.astore_n 0) 1 := by decide +kernel
theorem d11_4 : dc cB11 4 (.aload_n 0) 1 := by decide +kernel
theorem d11_5 : dc cB11 5 .areturn 1 := by decide +kernel
def Q11 (Z : State) (w_EMPTY : Addr) (h0 : Heap) (n0 : Nat) (v : Option Value) (h : Heap) (L : List Loc) : Prop := v = some (.ref w_EMPTY) ∧ Fr n0 L ∧ h = h0
theorem ef11 (m : MethodId)  : entryFrame m #[] 1 = mkF m 0 #[.unset] [] := by first | (simp [entryFrame, mkF, argsToLocals, Value.category]; done) | rfl
theorem rm11 (l : Launch) (Z : State) (a0 : Array Value) (hw : HW a0 Z) (ws : List Jvm.Cond) (w_EMPTY : Addr) (h0 : Heap) (n0 : Nat) (Z0 : n0 ≤ h0.size) (S_EMPTY : Sta Z h0 OP "EMPTY" "Ljava/util/Optional;" (.ref w_EMPTY)) (E_w_EMPTY : Exa Z h0 w_EMPTY OP) :
  MetFree l y_30 (head1 (Cond.code y_30 cB11 1 (some (.object OP)) :: ws) (Rm 0 0 0 0)) (Pr Z h0 #[]) Tr (fun _ U o U' => ∃ v L, o = .returned v ∧ Q11 Z w_EMPTY h0 n0 v U'.heap L ∧ FrameEnd U o U' L (Rm 0 0 0 0).cells (Rm 0 0 0 0).slots) := by
 refine MetFree.of_bodySF (plainFor_of_name pn10) hisR ?_
 intro p e s m args below meth c s₁ Bd hml0 hP hK
 obtain ⟨rfl, hZ, hh⟩ := hP
 have hx := Bd.exec
 have D := @hb _ _ Bd.bytes
 have hml : c.maxLocals = 1 := hml0
 have hown : s.vm.findClass OP = some m.cls := findClass_of_methodNamed Bd.named
 have hnm := (name_of_methodNamed Bd.named Bd.method).1
 have X0 : Stand p l e (Rm 0 0 0 0) s m #[] below meth c s₁ [] 0 0 := Stand.of_body Bd
 have e0 : s₁.heap = h0 := by rw [← hh, Bd.state]; rfl
 have N0 := Fr.nil n0
 have K0 : Keep h0 h0 [] := Keep.refl h0 _
 refine G (P := fun o U' => ∃ v L, o = .returned v ∧ Q11 Z w_EMPTY h0 n0 v U'.heap L ∧ FrameEnd s o U' L (Rm 0 0 0 0).cells (Rm 0 0 0 0).slots) (fun t k => castTop (ef11 m ) k) ?_
 refine sG s₁ (mkF m 0 #[us] []) ?_
 obtain ⟨T1, X1, e1, st1⟩ := getS2 X0 hx hZ hown (host := "") (Or.inl (wd61 hw)) Via.refl e0 S_EMPTY (g := (mkF m 0 #[us] [])) rfl (D d11_0)
 refine G st1 ?_
 refine G (fun t k => XS.astoreN X1.here hx rfl (D d11_3) rfl rfl (l' := #[vr w_EMPTY]) rfl (XS.aloadN X1.here hx rfl (D d11_4) rfl rfl k)) ?_
 exact lfR (Q := Q11 Z w_EMPTY h0 n0) Bd X1 e1 (D d11_5) rfl rfl rfl ⟨rfl, N0, rfl⟩ (by decide) (by decide)
theorem d14_0 : dc cB14 0 (.aload_n 0) 1 := by decide +kernel
theorem d14_1 : dc cB14 1 (.getfield 13) 3 := by decide +kernel
theorem d14_4 : dc cB14 4 (.ifnull 7) 3 := by decide +kernel
theorem d14_11 : dc cB14 11 (.iconst 0) 1 := by decide +kernel
theorem d14_12 : dc cB14 12 .ireturn 1 := by decide +kernel
def QipN (Z : State) (a1 : Addr) (h0 : Heap) (n0 : Nat) (v : Option Value) (h : Heap) (L : List Loc) : Prop := v = some (.int (0 : Int32)) ∧ Fr n0 L ∧ h = h0
theorem efipN (m : MethodId) (x0 : Addr) : entryFrame m #[(.ref x0)] 1 = mkF m 0 #[.val (.ref x0)] [] := by first | (simp [entryFrame, mkF, argsToLocals, Value.category]; done) | rfl
theorem rmipN (l : Launch) (Z : State) (a0 : Array Value) (hw : HW a0 Z) (ws : List Jvm.Cond) (a1 : Addr) (h0 : Heap) (n0 : Nat) (Z0 : n0 ≤ h0.size) (F_a1_v : Fld Z h0 a1 OP "value" "Ljava/lang/Object;" .null) :
  MetFree l y_31 (head1 (Cond.code y_31 cB14 1 (some .boolean) :: ws) (Rm 0 0 0 0)) (Pr Z h0 #[(.ref a1)]) Tr (fun _ U o U' => ∃ v L, o = .returned v ∧ QipN Z a1 h0 n0 v U'.heap L ∧ FrameEnd U o U' L (Rm 0 0 0 0).cells (Rm 0 0 0 0).slots) := by
 refine MetFree.of_bodySF (plainFor_of_name pn10) hisR ?_
 intro p e s m args below meth c s₁ Bd hml0 hP hK
 obtain ⟨rfl, hZ, hh⟩ := hP
 have hx := Bd.exec
 have D := @hb _ _ Bd.bytes
 have hml : c.maxLocals = 1 := hml0
 have hown : s.vm.findClass OP = some m.cls := findClass_of_methodNamed Bd.named
 have hnm := (name_of_methodNamed Bd.named Bd.method).1
 have X0 : Stand p l e (Rm 0 0 0 0) s m #[(.ref a1)] below meth c s₁ [] 0 0 := Stand.of_body Bd
 have e0 : s₁.heap = h0 := by rw [← hh, Bd.state]; rfl
 have N0 := Fr.nil n0
 have K0 : Keep h0 h0 [] := Keep.refl h0 _
 refine G (P := fun o U' => ∃ v L, o = .returned v ∧ QipN Z a1 h0 n0 v U'.heap L ∧ FrameEnd s o U' L (Rm 0 0 0 0).cells (Rm 0 0 0 0).slots) (fun t k => castTop (efipN m a1) k) ?_
 refine sG s₁ (mkF m 0 #[vr a1] []) ?_
 refine G (fun t k => XS.aloadN X0.here hx rfl (D d14_0) rfl rfl k) ?_
 obtain ⟨T1, X1, e1, st1⟩ := getF X0 hx hZ hown (host := "") (Or.inl (wd73 hw)) Via.refl e0 F_a1_v (g := (mkF m 1 #[vr a1] [(.ref a1)])) rfl rfl (D d14_1)
 refine G st1 ?_
 refine G (fun t k => XS.ifnullYes X1.here hx rfl (pc0 := 4) (pc' := 11) rfl (D d14_4) rfl (by decide) (by decide) (XS.iconst X1.here hx rfl (D d14_11) k)) ?_
 exact lfN (Q := QipN Z a1 h0 n0) Bd X1 e1 (D d14_12) (by simp) (w := (0 : Int32)) rfl ⟨rfl, N0, rfl⟩ (by decide) (by decide)
theorem d14_7 : dc cB14 7 (.iconst 1) 1 := by decide +kernel
theorem d14_8 : dc cB14 8 (.goto 4) 3 := by decide +kernel
def QipR (Z : State) (a1 : Addr) (w_v : Addr) (h0 : Heap) (n0 : Nat) (v : Option Value) (h : Heap) (L : List Loc) : Prop := v = some (.int (1 : Int32)) ∧ Fr n0 L ∧ h = h0
theorem efipR (m : MethodId) (x0 : Addr) : entryFrame m #[(.ref x0)] 1 = mkF m 0 #[.val (.ref x0)] [] := by first | (simp [entryFrame, mkF, argsToLocals, Value.category]; done) | rfl
theorem rmipR (l : Launch) (Z : State) (a0 : Array Value) (hw : HW a0 Z) (ws : List Jvm.Cond) (a1 : Addr) (w_v : Addr) (h0 : Heap) (n0 : Nat) (Z0 : n0 ≤ h0.size) (F_a1_v : Fld Z h0 a1 OP "value" "Ljava/lang/Object;" (.ref w_v)) :
  MetFree l y_31 (head1 (Cond.code y_31 cB14 1 (some .boolean) :: ws) (Rm 0 0 0 0)) (Pr Z h0 #[(.ref a1)]) Tr (fun _ U o U' => ∃ v L, o = .returned v ∧ QipR Z a1 w_v h0 n0 v U'.heap L ∧ FrameEnd U o U' L (Rm 0 0 0 0).cells (Rm 0 0 0 0).slots) := by
 refine MetFree.of_bodySF (plainFor_of_name pn10) hisR ?_
 intro p e s m args below meth c s₁ Bd hml0 hP hK
 obtain ⟨rfl, hZ, hh⟩ := hP
 have hx := Bd.exec
 have D := @hb _ _ Bd.bytes
 have hml : c.maxLocals = 1 := hml0
 have hown : s.vm.findClass OP = some m.cls := findClass_of_methodNamed Bd.named
 have hnm := (name_of_methodNamed Bd.named Bd.method).1
 have X0 : Stand p l e (Rm 0 0 0 0) s m #[(.ref a1)] below meth c s₁ [] 0 0 := Stand.of_body Bd
 have e0 : s₁.heap = h0 := by rw [← hh, Bd.state]; rfl
 have N0 := Fr.nil n0
 have K0 : Keep h0 h0 [] := Keep.refl h0 _
 refine G (P := fun o U' => ∃ v L, o = .returned v ∧ QipR Z a1 w_v h0 n0 v U'.heap L ∧ FrameEnd s o U' L (Rm 0 0 0 0).cells (Rm 0 0 0 0).slots) (fun t k => castTop (efipR m a1) k) ?_
 refine sG s₁ (mkF m 0 #[vr a1] []) ?_
 refine G (fun t k => XS.aloadN X0.here hx rfl (D d14_0) rfl rfl k) ?_
 obtain ⟨T1, X1, e1, st1⟩ := getF X0 hx hZ hown (host := "") (Or.inl (wd73 hw)) Via.refl e0 F_a1_v (g := (mkF m 1 #[vr a1] [(.ref a1)])) rfl rfl (D d14_1)
 refine G st1 ?_
 refine G (fun t k => XS.ifnullNo X1.here hx rfl (D d14_4) rfl (XS.iconst X1.here hx rfl (D d14_7) (XS.goto X1.here hx rfl (pc0 := 8) (pc' := 12) rfl (D d14_8) (by decide) (by decide) k))) ?_
 exact lfN (Q := QipR Z a1 w_v h0 n0) Bd X1 e1 (D d14_12) (by simp) (w := (1 : Int32)) rfl ⟨rfl, N0, rfl⟩ (by decide) (by decide)
theorem d34_0 : dc cB34 0 (.aload_n 0) 1 := by decide +kernel
theorem d34_1 : dc cB34 1 (.getfield 13) 3 := by decide +kernel
theorem d34_4 : dc cB34 4 (.ifnonnull 13) 3 := by decide +kernel
theorem d34_17 : dc cB34 17 (.aload_n 0) 1 := by decide +kernel
theorem d34_18 : dc cB34 18 (.getfield 13) 3 := by decide +kernel
theorem d34_21 : dc cB34 21 .areturn 1 := by decide +kernel
def Q34 (Z : State) (a1 : Addr) (w_v : Addr) (h0 : Heap) (n0 : Nat) (v : Option Value) (h : Heap) (L : List Loc) : Prop := v = some (.ref w_v) ∧ Fr n0 L ∧ h = h0
theorem ef34 (m : MethodId) (x0 : Addr) : entryFrame m #[(.ref x0)] 1 = mkF m 0 #[.val (.ref x0)] [] := by first | (simp [entryFrame, mkF, argsToLocals, Value.category]; done) | rfl
theorem rm34 (l : Launch) (Z : State) (a0 : Array Value) (hw : HW a0 Z) (ws : List Jvm.Cond) (a1 : Addr) (w_v : Addr) (h0 : Heap) (n0 : Nat) (Z0 : n0 ≤ h0.size) (F_a1_v : Fld Z h0 a1 OP "value" "Ljava/lang/Object;" (.ref w_v)) :
  MetFree l y_32 (head1 (Cond.code y_32 cB34 1 (some (.object "java/lang/Object")) :: ws) (Rm 0 0 0 0)) (Pr Z h0 #[(.ref a1)]) Tr (fun _ U o U' => ∃ v L, o = .returned v ∧ Q34 Z a1 w_v h0 n0 v U'.heap L ∧ FrameEnd U o U' L (Rm 0 0 0 0).cells (Rm 0 0 0 0).slots) := by
 refine MetFree.of_bodySF (plainFor_of_name pn10) hisR ?_
 intro p e s m args below meth c s₁ Bd hml0 hP hK
 obtain ⟨rfl, hZ, hh⟩ := hP
 have hx := Bd.exec
 have D := @hb _ _ Bd.bytes
 have hml : c.maxLocals = 1 := hml0
 have hown : s.vm.findClass OP = some m.cls := findClass_of_methodNamed Bd.named
 have hnm := (name_of_methodNamed Bd.named Bd.method).1
 have X0 : Stand p l e (Rm 0 0 0 0) s m #[(.ref a1)] below meth c s₁ [] 0 0 := Stand.of_body Bd
 have e0 : s₁.heap = h0 := by rw [← hh, Bd.state]; rfl
 have N0 := Fr.nil n0
 have K0 : Keep h0 h0 [] := Keep.refl h0 _
 refine G (P := fun o U' => ∃ v L, o = .returned v ∧ Q34 Z a1 w_v h0 n0 v U'.heap L ∧ FrameEnd s o U' L (Rm 0 0 0 0).cells (Rm 0 0 0 0).slots) (fun t k => castTop (ef34 m a1) k) ?_
 refine sG s₁ (mkF m 0 #[vr a1] []) ?_
 refine G (fun t k => XS.aloadN X0.here hx rfl (D d34_0) rfl rfl k) ?_
 obtain ⟨T1, X1, e1, st1⟩ := getF X0 hx hZ hown (host := "") (Or.inl (wd73 hw)) Via.refl e0 F_a1_v (g := (mkF m 1 #[vr a1] [(.ref a1)])) rfl rfl (D d34_1)
 refine G st1 ?_
 refine G (fun t k => XS.ifnonnullYes X1.here hx rfl (pc0 := 4) (pc' := 17) rfl (D d34_4) rfl (by decide) (by decide) (XS.aloadN X1.here hx rfl (D d34_17) rfl rfl k)) ?_
 obtain ⟨T2, X2, e2, st2⟩ := getF X1 hx hZ hown (host := "") (Or.inl (wd73 hw)) Via.refl e1 F_a1_v (g := (mkF m 18 #[vr a1] [(.ref a1)])) rfl rfl (D d34_18)
 refine G st2 ?_
 exact lfR (Q := Q34 Z a1 w_v h0 n0) Bd X2 e2 (D d34_21) rfl rfl rfl ⟨rfl, N0, rfl⟩ (by decide) (by decide)
theorem d1_0 : dc cB1 0 (.iload_n 0) 1 := by decide +kernel
theorem d1_1 : dc cB1 1 (.bipush 15) 2 := by decide +kernel
theorem d1_3 : dc cB1 3 .iand 1 := by decide +kernel
theorem d1_4 : dc cB1 4 (.istore_n 1) 1 := by decide +kernel
theorem d1_5 : dc cB1 5 (.iload_n 1) 1 := by decide +kernel
theorem d1_6 : dc cB1 6 (.bipush 10) 2 := by decide +kernel
theorem d1_8 : dc cB1 8 (.if_icmp .ge 9) 3 := by decide +kernel
theorem d1_11 : dc cB1 11 (.bipush 48) 2 := by decide +kernel
theorem d1_13 : dc cB1 13 (.iload_n 1) 1 := by decide +kernel
theorem d1_14 : dc cB1 14 .iadd 1 := by decide +kernel
theorem d1_15 : dc cB1 15 .i2c 1 := by decide +kernel
theorem d1_16 : dc cB1 16 .ireturn 1 := by decide +kernel
theorem d1_17 : dc cB1 17 (.iload_n 1) 1 := by decide +kernel
theorem d1_18 : dc cB1 18 (.bipush 10) 2 := by decide +kernel
theorem d1_20 : dc cB1 20 (.if_icmp .ne 6) 3 := by decide +kernel
theorem d1_23 : dc cB1 23 (.bipush 43) 2 := by decide +kernel
theorem d1_25 : dc cB1 25 .ireturn 1 := by decide +kernel
theorem d1_26 : dc cB1 26 (.iload_n 1) 1 := by decide +kernel
theorem d1_27 : dc cB1 27 (.bipush 11) 2 := by decide +kernel
theorem d1_29 : dc cB1 29 (.if_icmp .ne 6) 3 := by decide +kernel
theorem d1_32 : dc cB1 32 (.bipush 45) 2 := by decide +kernel
theorem d1_34 : dc cB1 34 .ireturn 1 := by decide +kernel
theorem d1_35 : dc cB1 35 (.iload_n 1) 1 := by decide +kernel
theorem d1_36 : dc cB1 36 (.bipush 12) 2 := by decide +kernel
theorem d1_38 : dc cB1 38 (.if_icmp .ne 6) 3 := by decide +kernel
theorem d1_41 : dc cB1 41 (.bipush 46) 2 := by decide +kernel
theorem d1_43 : dc cB1 43 .ireturn 1 := by decide +kernel
theorem d1_44 : dc cB1 44 (.iload_n 0) 1 := by decide +kernel
theorem d1_45 : dc cB1 45 (.iconst 4) 1 := by decide +kernel
theorem d1_46 : dc cB1 46 .iushr 1 := by decide +kernel
theorem d1_47 : dc cB1 47 (.sipush 255) 3 := by decide +kernel
theorem d1_50 : dc cB1 50 .iand 1 := by decide +kernel
theorem d1_51 : dc cB1 51 .i2c 1 := by decide +kernel
theorem d1_52 : dc cB1 52 .ireturn 1 := by decide +kernel
theorem pn11 : plainName LW = true := by first | (simp [plainName, overriddenIn]; done) | decide +kernel
def f1 (p1 : Int32) : Int32 := (if (p1 &&& (15 : Int32)) < (10 : Int32) then ((((48 : Int32) + (p1 &&& (15 : Int32))).toUInt32.toUInt16.toUInt32.toInt32).toUInt32.toUInt16.toUInt32.toInt32) else (if (p1 &&& (15 : Int32)) = (10 : Int32) then (43 : Int32) else (if (p1 &&& (15 : Int32)) = (11 : Int32) then (45 : Int32) else (if (p1 &&& (15 : Int32)) = (12 : Int32) then (46 : Int32) else (((((p1.toUInt32 >>> ((4 : Int32) &&& 31).toUInt32).toInt32) &&& (255 : Int32)).toUInt32.toUInt16.toUInt32.toInt32).toUInt32.toUInt16.toUInt32.toInt32)))))
def Q1 (Z : State) (p1 : Int32) (h0 : Heap) (n0 : Nat) (v : Option Value) (h : Heap) (L : List Loc) : Prop := v = some (.int (f1 p1)) ∧ Fr n0 L ∧ h = h0
theorem ef1 (m : MethodId) (x0 : Int32) : entryFrame m #[(.int x0)] 2 = mkF m 0 #[.val (.int x0), .unset] [] := by first | (simp [entryFrame, mkF, argsToLocals, Value.category]; done) | rfl
theorem rm1 (l : Launch) (Z : State) (a0 : Array Value) (hw : HW a0 Z) (ws : List Jvm.Cond) (p1 : Int32) (h0 : Heap) (n0 : Nat) (Z0 : n0 ≤ h0.size) :
  MetFree l y_33 (head1 (Cond.code y_33 cB1 2 (some .char) :: ws) (Rm 0 0 0 0)) (Pr Z h0 #[(.int p1)]) Tr (fun _ U o U' => ∃ v L, o = .returned v ∧ Q1 Z p1 h0 n0 v U'.heap L ∧ FrameEnd U o U' L (Rm 0 0 0 0).cells (Rm 0 0 0 0).slots) := by
 refine MetFree.of_bodySF (plainFor_of_name pn11) hisR ?_
 intro p e s m args below meth c s₁ Bd hml0 hP hK
 obtain ⟨rfl, hZ, hh⟩ := hP
 have hx := Bd.exec
 have D := @hb _ _ Bd.bytes
 have hml : c.maxLocals = 2 := hml0
 have hown : s.vm.findClass LW = some m.cls := findClass_of_methodNamed Bd.named
 have hnm := (name_of_methodNamed Bd.named Bd.method).1
 have X0 : Stand p l e (Rm 0 0 0 0) s m #[(.int p1)] below meth c s₁ [] 0 0 := Stand.of_body Bd
 have e0 : s₁.heap = h0 := by rw [← hh, Bd.state]; rfl
 have N0 := Fr.nil n0
 have K0 : Keep h0 h0 [] := Keep.refl h0 _
 refine G (P := fun o U' => ∃ v L, o = .returned v ∧ Q1 Z p1 h0 n0 v U'.heap L ∧ FrameEnd s o U' L (Rm 0 0 0 0).cells (Rm 0 0 0 0).slots) (fun t k => castTop (ef1 m p1) k) ?_
 refine sG s₁ (mkF m 0 #[vi p1, us] []) ?_
 refine G (fun t k => XS.iloadN X0.here hx rfl (D d1_0) rfl (XS.bipush X0.here hx rfl (D d1_1) (XS.iand X0.here hx rfl (D d1_3) rfl (XS.istoreN X0.here hx rfl (D d1_4) rfl (l' := #[vi p1, vi (p1 &&& (15 : Int32))]) rfl (XS.iloadN X0.here hx rfl (D d1_5) rfl (XS.bipush X0.here hx rfl (D d1_6) k)))))) ?_
 by_cases hc1 : (p1 &&& (15 : Int32)) < (10 : Int32)
 ·refine G (fun t k => XS.icmpNo X0.here hx rfl (D d1_8) rfl (tlt hc1).2.1 k) ?_
  refine sG s₁ (mkF m 11 #[vi p1, vi (p1 &&& (15 : Int32))] []) ?_
  refine G (fun t k => XS.bipush X0.here hx rfl (D d1_11) (XS.iloadN X0.here hx rfl (D d1_13) rfl (XS.iadd X0.here hx rfl (D d1_14) rfl (XS.i2c X0.here hx rfl (D d1_15) rfl k)))) ?_
  exact lfN (Q := Q1 Z p1 h0 n0) Bd X0 e0 (D d1_16) (by simp) (w := ((((48 : Int32) + (p1 &&& (15 : Int32))).toUInt32.toUInt16.toUInt32.toInt32).toUInt32.toUInt16.toUInt32.toInt32)) rfl ⟨(by unfold f1; simp only [if_pos hc1]), N0, rfl⟩ (by decide) (by decide)
 ·refine G (fun t k => XS.icmpYes X0.here hx rfl (pc0 := 8) (pc' := 17) rfl (D d1_8) rfl (flt hc1).2.1 (by decide) (by decide) k) ?_
  refine sG s₁ (mkF m 17 #[vi p1, vi (p1 &&& (15 : Int32))] []) ?_
  refine G (fun t k => XS.iloadN X0.here hx rfl (D d1_17) rfl (XS.bipush X0.here hx rfl (D d1_18) k)) ?_
  by_cases hc2 : (p1 &&& (15 : Int32)) = (10 : Int32)
  ·refine G (fun t k => XS.icmpNo X0.here hx rfl (D d1_20) rfl (teq hc2).2 (XS.bipush X0.here hx rfl (D d1_23) k)) ?_
   exact lfN (Q := Q1 Z p1 h0 n0) Bd X0 e0 (D d1_25) (by simp) (w := (43 : Int32)) rfl ⟨(by unfold f1; simp only [if_neg hc1, if_pos hc2]), N0, rfl⟩ (by decide) (by decide)
  ·refine G (fun t k => XS.icmpYes X0.here hx rfl (pc0 := 20) (pc' := 26) rfl (D d1_20) rfl (feq hc2).2 (by decide) (by decide) (XS.iloadN X0.here hx rfl (D d1_26) rfl (XS.bipush X0.here hx rfl (D d1_27) k))) ?_
   by_cases hc3 : (p1 &&& (15 : Int32)) = (11 : Int32)
   ·refine G (fun t k => XS.icmpNo X0.here hx rfl (D d1_29) rfl (teq hc3).2 (XS.bipush X0.here hx rfl (D d1_32) k)) ?_
    refine sG s₁ (mkF m 34 #[vi p1, vi (p1 &&& (15 : Int32))] [(.int 45)]) ?_
    exact lfN (Q := Q1 Z p1 h0 n0) Bd X0 e0 (D d1_34) (by simp) (w := (45 : Int32)) rfl ⟨(by unfold f1; simp only [if_neg hc1, if_neg hc2, if_pos hc3]), N0, rfl⟩ (by decide) (by decide)
   ·refine G (fun t k => XS.icmpYes X0.here hx rfl (pc0 := 29) (pc' := 35) rfl (D d1_29) rfl (feq hc3).2 (by decide) (by decide) (XS.iloadN X0.here hx rfl (D d1_35) rfl k)) ?_
    refine sG s₁ (mkF m 36 #[vi p1, vi (p1 &&& (15 : Int32))] [(.int (p1 &&& (15 : Int32)))]) ?_
    refine G (fun t k => XS.bipush X0.here hx rfl (D d1_36) k) ?_
    by_cases hc4 : (p1 &&& (15 : Int32)) = (12 : Int32)
    ·refine G (fun t k => XS.icmpNo X0.here hx rfl (D d1_38) rfl (teq hc4).2 (XS.bipush X0.here hx rfl (D d1_41) k)) ?_
     exact lfN (Q := Q1 Z p1 h0 n0) Bd X0 e0 (D d1_43) (by simp) (w := (46 : Int32)) rfl ⟨(by unfold f1; simp only [if_neg hc1, if_neg hc2, if_neg hc3, if_pos hc4]), N0, rfl⟩ (by decide) (by decide)
    ·refine G (fun t k => XS.icmpYes X0.here hx rfl (pc0 := 38) (pc' := 44) rfl (D d1_38) rfl (feq hc4).2 (by decide) (by decide) (XS.iloadN X0.here hx rfl (D d1_44) rfl (XS.iconst X0.here hx rfl (D d1_45) (XS.iushr X0.here hx rfl (D d1_46) rfl (XS.sipush X0.here hx rfl (D d1_47) (XS.iand X0.here hx rfl (D d1_50) rfl k)))))) ?_
     refine sG s₁ (mkF m 51 #[vi p1, vi (p1 &&& (15 : Int32))] [(.int (((p1.toUInt32 >>> ((4 : Int32) &&& 31).toUInt32).toInt32) &&& (255 : Int32)))]) ?_
     refine G (fun t k => XS.i2c X0.here hx rfl (D d1_51) rfl k) ?_
     exact lfN (Q := Q1 Z p1 h0 n0) Bd X0 e0 (D d1_52) (by simp) (w := (((((p1.toUInt32 >>> ((4 : Int32) &&& 31).toUInt32).toInt32) &&& (255 : Int32)).toUInt32.toUInt16.toUInt32.toInt32).toUInt32.toUInt16.toUInt32.toInt32)) rfl ⟨(by unfold f1; simp only [if_neg hc1, if_neg hc2, if_neg hc3, if_neg hc4]), N0, rfl⟩ (by decide) (by decide)
def cn (p1 p2 p3 p4 p5 : Int32) : Int32 := (((if p1 = p5 then (1 : Int32) else 0) + (if p2 = p5 then (1 : Int32) else 0)) + (if p3 = p5 then (1 : Int32) else 0)) + (if p4 = p5 then (1 : Int32) else 0)
theorem d13_22 : dc cB13 22 .iadd 1 := by decide +kernel
theorem d13_34 : dc cB13 34 .iadd 1 := by decide +kernel
theorem d13_46 : dc cB13 46 .iadd 1 := by decide +kernel
theorem d13_47 : dc cB13 47 .ireturn 1 := by decide +kernel
theorem d13_35 : dc cB13 35 (.iload_n 3) 1 := by decide +kernel
theorem d13_36 : dc cB13 36 (.iload 4) 2 := by decide +kernel
theorem d13_38 : dc cB13 38 (.if_icmp .ne 7) 3 := by decide +kernel
theorem d13_41 : dc cB13 41 (.iconst 1) 1 := by decide +kernel
theorem d13_42 : dc cB13 42 (.goto 4) 3 := by decide +kernel
theorem d13_45 : dc cB13 45 (.iconst 0) 1 := by decide +kernel
theorem d13_23 : dc cB13 23 (.iload_n 2) 1 := by decide +kernel
theorem d13_24 : dc cB13 24 (.iload 4) 2 := by decide +kernel
theorem d13_26 : dc cB13 26 (.if_icmp .ne 7) 3 := by decide +kernel
theorem d13_29 : dc cB13 29 (.iconst 1) 1 := by decide +kernel
theorem d13_30 : dc cB13 30 (.goto 4) 3 := by decide +kernel
theorem d13_33 : dc cB13 33 (.iconst 0) 1 := by decide +kernel
theorem d13_11 : dc cB13 11 (.iload_n 1) 1 := by decide +kernel
theorem d13_12 : dc cB13 12 (.iload 4) 2 := by decide +kernel
theorem d13_14 : dc cB13 14 (.if_icmp .ne 7) 3 := by decide +kernel
theorem d13_17 : dc cB13 17 (.iconst 1) 1 := by decide +kernel
theorem d13_18 : dc cB13 18 (.goto 4) 3 := by decide +kernel
theorem d13_21 : dc cB13 21 (.iconst 0) 1 := by decide +kernel
theorem d13_0 : dc cB13 0 (.iload_n 0) 1 := by decide +kernel
theorem d13_1 : dc cB13 1 (.iload 4) 2 := by decide +kernel
theorem d13_3 : dc cB13 3 (.if_icmp .ne 7) 3 := by decide +kernel
theorem d13_6 : dc cB13 6 (.iconst 1) 1 := by decide +kernel
theorem d13_7 : dc cB13 7 (.goto 4) 3 := by decide +kernel
theorem d13_10 : dc cB13 10 (.iconst 0) 1 := by decide +kernel
def Q13 (Z : State) (p1 : Int32) (p2 : Int32) (p3 : Int32) (p4 : Int32) (p5 : Int32) (h0 : Heap) (n0 : Nat) (v : Option Value) (h : Heap) (L : List Loc) : Prop := ∃ zr_13 : Int32, v = some (.int zr_13) ∧ Fr n0 L ∧ h = h0 ∧ zr_13 = cn p1 p2 p3 p4 p5
theorem ef13 (m : MethodId) (x0 : Int32) (x1 : Int32) (x2 : Int32) (x3 : Int32) (x4 : Int32) : entryFrame m #[(.int x0), (.int x1), (.int x2), (.int x3), (.int x4)] 5 = mkF m 0 #[.val (.int x0), .val (.int x1), .val (.int x2), .val (.int x3), .val (.int x4)] [] := by first | (simp [entryFrame, mkF, argsToLocals, Value.category]; done) | rfl
theorem rm13 (l : Launch) (Z : State) (a0 : Array Value) (hw : HW a0 Z) (ws : List Jvm.Cond) (p1 : Int32) (p2 : Int32) (p3 : Int32) (p4 : Int32) (p5 : Int32) (h0 : Heap) (n0 : Nat) (Z0 : n0 ≤ h0.size) :
  MetFree l y_34 (head1 (Cond.code y_34 cB13 5 (some .int) :: ws) (Rm 0 0 0 0)) (Pr Z h0 #[(.int p1), (.int p2), (.int p3), (.int p4), (.int p5)]) Tr (fun _ U o U' => ∃ v L, o = .returned v ∧ Q13 Z p1 p2 p3 p4 p5 h0 n0 v U'.heap L ∧ FrameEnd U o U' L (Rm 0 0 0 0).cells (Rm 0 0 0 0).slots) := by
 refine MetFree.of_bodySF (plainFor_of_name pn11) hisR ?_
 intro p e s m args below meth c s₁ Bd hml0 hP hK
 obtain ⟨rfl, hZ, hh⟩ := hP
 have hx := Bd.exec
 have D := @hb _ _ Bd.bytes
 have hml : c.maxLocals = 5 := hml0
 have hown : s.vm.findClass LW = some m.cls := findClass_of_methodNamed Bd.named
 have hnm := (name_of_methodNamed Bd.named Bd.method).1
 have X0 : Stand p l e (Rm 0 0 0 0) s m #[(.int p1), (.int p2), (.int p3), (.int p4), (.int p5)] below meth c s₁ [] 0 0 := Stand.of_body Bd
 have e0 : s₁.heap = h0 := by rw [← hh, Bd.state]; rfl
 have N0 := Fr.nil n0
 have K0 : Keep h0 h0 [] := Keep.refl h0 _
 refine G (P := fun o U' => ∃ v L, o = .returned v ∧ Q13 Z p1 p2 p3 p4 p5 h0 n0 v U'.heap L ∧ FrameEnd s o U' L (Rm 0 0 0 0).cells (Rm 0 0 0 0).slots) (fun t k => castTop (ef13 m p1 p2 p3 p4 p5) k) ?_
 refine sG s₁ (mkF m 0 #[vi p1, vi p2, vi p3, vi p4, vi p5] []) ?_
 have J1 : ∀ (TJ : State) (locsJ : List Loc) (e0 : Int32), Stand p l e (Rm 0 0 0 0) s m #[(.int p1), (.int p2), (.int p3), (.int p4), (.int p5)] below meth c TJ locsJ 0 0 → TJ.heap = h0 → Fr n0 locsJ → (e0 = (if p1 = p5 then (1 : Int32) else 0)) → Go p.tables e below (TJ.setTop (mkF m 11 #[vi p1, vi p2, vi p3, vi p4, vi p5] [(.int e0)])) (fun o U' => ∃ v L, o = .returned v ∧ Q13 Z p1 p2 p3 p4 p5 h0 n0 v U'.heap L ∧ FrameEnd s o U' L (Rm 0 0 0 0).cells (Rm 0 0 0 0).slots) := by
  intro TJ locsJ e0 XJ eJ NJ he0
  have J2 : ∀ (TJ : State) (locsJ : List Loc) (e1 : Int32), Stand p l e (Rm 0 0 0 0) s m #[(.int p1), (.int p2), (.int p3), (.int p4), (.int p5)] below meth c TJ locsJ 0 0 → TJ.heap = h0 → Fr n0 locsJ → (e1 = (if p2 = p5 then (1 : Int32) else 0)) → Go p.tables e below (TJ.setTop (mkF m 22 #[vi p1, vi p2, vi p3, vi p4, vi p5] [(.int e1), (.int e0)])) (fun o U' => ∃ v L, o = .returned v ∧ Q13 Z p1 p2 p3 p4 p5 h0 n0 v U'.heap L ∧ FrameEnd s o U' L (Rm 0 0 0 0).cells (Rm 0 0 0 0).slots) := by
   intro TJ locsJ e1 XJ eJ NJ he1
   refine G (fun t k => XS.iadd XJ.here hx rfl (D d13_22) rfl k) ?_
   refine sG TJ (mkF m 23 #[vi p1, vi p2, vi p3, vi p4, vi p5] [(.int (e0 + e1))]) ?_
   have J3 : ∀ (TJ : State) (locsJ : List Loc) (e2 : Int32), Stand p l e (Rm 0 0 0 0) s m #[(.int p1), (.int p2), (.int p3), (.int p4), (.int p5)] below meth c TJ locsJ 0 0 → TJ.heap = h0 → Fr n0 locsJ → (e2 = (if p3 = p5 then (1 : Int32) else 0)) → Go p.tables e below (TJ.setTop (mkF m 34 #[vi p1, vi p2, vi p3, vi p4, vi p5] [(.int e2), (.int (e0 + e1))])) (fun o U' => ∃ v L, o = .returned v ∧ Q13 Z p1 p2 p3 p4 p5 h0 n0 v U'.heap L ∧ FrameEnd s o U' L (Rm 0 0 0 0).cells (Rm 0 0 0 0).slots) := by
    intro TJ locsJ e2 XJ eJ NJ he2
    refine G (fun t k => XS.iadd XJ.here hx rfl (D d13_34) rfl k) ?_
    refine sG TJ (mkF m 35 #[vi p1, vi p2, vi p3, vi p4, vi p5] [(.int ((e0 + e1) + e2))]) ?_
    have J4 : ∀ (TJ : State) (locsJ : List Loc) (e3 : Int32), Stand p l e (Rm 0 0 0 0) s m #[(.int p1), (.int p2), (.int p3), (.int p4), (.int p5)] below meth c TJ locsJ 0 0 → TJ.heap = h0 → Fr n0 locsJ → (e3 = (if p4 = p5 then (1 : Int32) else 0)) → Go p.tables e below (TJ.setTop (mkF m 46 #[vi p1, vi p2, vi p3, vi p4, vi p5] [(.int e3), (.int ((e0 + e1) + e2))])) (fun o U' => ∃ v L, o = .returned v ∧ Q13 Z p1 p2 p3 p4 p5 h0 n0 v U'.heap L ∧ FrameEnd s o U' L (Rm 0 0 0 0).cells (Rm 0 0 0 0).slots) := by
     intro TJ locsJ e3 XJ eJ NJ he3
     refine G (fun t k => XS.iadd XJ.here hx rfl (D d13_46) rfl k) ?_
     exact lfI (Q := Q13 Z p1 p2 p3 p4 p5 h0 n0) Bd XJ eJ (D d13_47) (w := (((e0 + e1) + e2) + e3)) ⟨(((e0 + e1) + e2) + e3), rfl, NJ, rfl, (by rw [he0, he1, he2, he3]; rfl)⟩ (by decide) (by decide)
    refine G (fun t k => XS.iloadN XJ.here hx rfl (D d13_35) rfl (XS.iload XJ.here hx rfl (D d13_36) rfl k)) ?_
    by_cases hc5 : p4 = p5
    ·refine G (fun t k => XS.icmpNo XJ.here hx rfl (D d13_38) rfl (teq hc5).2 (XS.iconst XJ.here hx rfl (D d13_41) (XS.goto XJ.here hx rfl (pc0 := 42) (pc' := 46) rfl (D d13_42) (by decide) (by decide) k))) ?_
     refine sG TJ (mkF m 46 #[vi p1, vi p2, vi p3, vi p4, vi p5] [(.int 1), (.int ((e0 + e1) + e2))]) ?_
     exact J4 _ _ (1 : Int32) XJ eJ NJ (by rw [if_pos hc5])
    ·refine G (fun t k => XS.icmpYes XJ.here hx rfl (pc0 := 38) (pc' := 45) rfl (D d13_38) rfl (feq hc5).2 (by decide) (by decide) (XS.iconst XJ.here hx rfl (D d13_45) k)) ?_
     refine sG TJ (mkF m 46 #[vi p1, vi p2, vi p3, vi p4, vi p5] [(.int 0), (.int ((e0 + e1) + e2))]) ?_
     exact J4 _ _ (0 : Int32) XJ eJ NJ (by rw [if_neg hc5])
   refine G (fun t k => XS.iloadN XJ.here hx rfl (D d13_23) rfl (XS.iload XJ.here hx rfl (D d13_24) rfl k)) ?_
   by_cases hc6 : p3 = p5
   ·refine G (fun t k => XS.icmpNo XJ.here hx rfl (D d13_26) rfl (teq hc6).2 (XS.iconst XJ.here hx rfl (D d13_29) (XS.goto XJ.here hx rfl (pc0 := 30) (pc' := 34) rfl (D d13_30) (by decide) (by decide) k))) ?_
    refine sG TJ (mkF m 34 #[vi p1, vi p2, vi p3, vi p4, vi p5] [(.int 1), (.int (e0 + e1))]) ?_
    exact J3 _ _ (1 : Int32) XJ eJ NJ (by rw [if_pos hc6])
   ·refine G (fun t k => XS.icmpYes XJ.here hx rfl (pc0 := 26) (pc' := 33) rfl (D d13_26) rfl (feq hc6).2 (by decide) (by decide) (XS.iconst XJ.here hx rfl (D d13_33) k)) ?_
    refine sG TJ (mkF m 34 #[vi p1, vi p2, vi p3, vi p4, vi p5] [(.int 0), (.int (e0 + e1))]) ?_
    exact J3 _ _ (0 : Int32) XJ eJ NJ (by rw [if_neg hc6])
  refine G (fun t k => XS.iloadN XJ.here hx rfl (D d13_11) rfl (XS.iload XJ.here hx rfl (D d13_12) rfl k)) ?_
  by_cases hc7 : p2 = p5
  ·refine G (fun t k => XS.icmpNo XJ.here hx rfl (D d13_14) rfl (teq hc7).2 (XS.iconst XJ.here hx rfl (D d13_17) (XS.goto XJ.here hx rfl (pc0 := 18) (pc' := 22) rfl (D d13_18) (by decide) (by decide) k))) ?_
   refine sG TJ (mkF m 22 #[vi p1, vi p2, vi p3, vi p4, vi p5] [(.int 1), (.int e0)]) ?_
   exact J2 _ _ (1 : Int32) XJ eJ NJ (by rw [if_pos hc7])
  ·refine G (fun t k => XS.icmpYes XJ.here hx rfl (pc0 := 14) (pc' := 21) rfl (D d13_14) rfl (feq hc7).2 (by decide) (by decide) (XS.iconst XJ.here hx rfl (D d13_21) k)) ?_
   refine sG TJ (mkF m 22 #[vi p1, vi p2, vi p3, vi p4, vi p5] [(.int 0), (.int e0)]) ?_
   exact J2 _ _ (0 : Int32) XJ eJ NJ (by rw [if_neg hc7])
 refine G (fun t k => XS.iloadN X0.here hx rfl (D d13_0) rfl (XS.iload X0.here hx rfl (D d13_1) rfl k)) ?_
 by_cases hc8 : p1 = p5
 ·refine G (fun t k => XS.icmpNo X0.here hx rfl (D d13_3) rfl (teq hc8).2 (XS.iconst X0.here hx rfl (D d13_6) (XS.goto X0.here hx rfl (pc0 := 7) (pc' := 11) rfl (D d13_7) (by decide) (by decide) k))) ?_
  refine sG s₁ (mkF m 11 #[vi p1, vi p2, vi p3, vi p4, vi p5] [(.int 1)]) ?_
  exact J1 _ _ (1 : Int32) X0 e0 N0 (by rw [if_pos hc8])
 ·refine G (fun t k => XS.icmpYes X0.here hx rfl (pc0 := 3) (pc' := 10) rfl (D d13_3) rfl (feq hc8).2 (by decide) (by decide) (XS.iconst X0.here hx rfl (D d13_10) k)) ?_
  refine sG s₁ (mkF m 11 #[vi p1, vi p2, vi p3, vi p4, vi p5] [(.int 0)]) ?_
  exact J1 _ _ (0 : Int32) X0 e0 N0 (by rw [if_neg hc8])
def slice (bs : List Int32) (p k : Int32) : List Int32 := (List.range k.toNatClampNeg).map fun i => bs.getD (p.toNatClampNeg + i) 0
theorem own_padr (n i : Nat) : (List.replicate n (Value.int 0)).getD i (.int 0) = ([] : List Value).getD i (.int 0) := by
 simp only [List.getD, List.getElem?_replicate, List.getElem?_nil, Option.getD_none]
 split <;> rfl
theorem own_slice (bs : List Int32) (p k : Int32) : List.map Value.int (slice bs p k) = (List.range k.toNatClampNeg).map fun i => (List.map Value.int bs).getD (p.toNatClampNeg + i) (.int 0) := by
 unfold slice
 rw [List.map_map]
 apply List.map_congr_left
 intro i _
 simp only [Function.comp, List.getD, List.getElem?_map]
 cases bs[p.toNatClampNeg + i]? <;> rfl
theorem own_hl (k : Int32) : (0 : Int32).toNatClampNeg + k.toNatClampNeg ≤ (List.replicate k.toNatClampNeg (Value.int 0)).length := by
 rw [List.length_replicate, show (0 : Int32).toNatClampNeg = 0 from rfl]
 omega
theorem own_tk {Z : State} {h : Heap} {b : Addr} {k : ClassId} {ty : FieldType} {z n : Int32} {us : List Value} {dv : Value} (V : Arv Z h b k ty z ((List.replicate n.toNatClampNeg (Value.int 0)).take (0 : Int32).toNatClampNeg ++ us ++ (List.replicate n.toNatClampNeg (Value.int 0)).drop ((0 : Int32).toNatClampNeg + n.toNatClampNeg)) dv) : Arv Z h b k ty z us dv := by
 rw [show (0 : Int32).toNatClampNeg = 0 from rfl, List.take_zero, Nat.zero_add, List.drop_of_length_le (by rw [List.length_replicate]; exact Nat.le_refl _), List.nil_append, List.append_nil] at V
 exact V
theorem own_sub {a b : Int32} (h : 0 ≤ a.toInt ∧ a.toInt ≤ b.toInt) : (b - a).toInt = b.toInt - a.toInt := by
 have := Int32.toInt_lt b
 rw [Int32.toInt_sub, Int.bmod_eq_of_le (by omega) (by omega)]
theorem own_nn0 {a : Int32} (h : 0 ≤ a.toInt) : ¬ a < 0 := by
 rw [Int32.lt_iff_toInt_lt, show (0 : Int32).toInt = 0 from rfl]
 omega
theorem own_h4 {a b n : Int32} (h : 0 ≤ a.toInt ∧ a.toInt ≤ b.toInt) (q : b.toInt ≤ n.toInt) : a.toNatClampNeg + (b - a).toNatClampNeg ≤ n.toNatClampNeg := by
 have := own_sub h
 simp only [Int32.toNatClampNeg]
 omega
theorem own_c4 {a b n : Int32} (h : 0 ≤ a.toInt ∧ a.toInt ≤ b.toInt) (q : b.toInt ≤ n.toInt) (r : n.toInt ≤ 4) : (b - a).toNatClampNeg ≤ 4 := by
 have := own_sub h
 simp only [Int32.toNatClampNeg]
 omega
theorem own_mn2 {a b n : Int32} (h : 0 ≤ a.toInt ∧ a.toInt ≤ b.toInt) (q : b.toInt ≤ n.toInt) : (f43 (n - a) (b - a)) = (b - a) := by
 have h1 := own_sub h
 have h2 := own_sub (a := a) (b := n) ⟨h.1, by omega⟩
 unfold f43
 split
 ·rfl
 ·rename_i z
  rw [Int32.lt_iff_toInt_lt, h1, h2] at z
  exact Int32.toInt_inj.mp (by omega)
theorem d48_0 : dc cB48 0 (.iload_n 1) 1 := by decide +kernel
theorem d48_1 : dc cB48 1 (.iload_n 0) 1 := by decide +kernel
theorem d48_2 : dc cB48 2 (.if_icmp .ge 35) 3 := by decide +kernel
theorem d48_37 : dc cB48 37 .return_ 1 := by decide +kernel
theorem pn12 : plainName "java/util/Arrays" = true := by first | (simp [plainName, overriddenIn]; done) | decide +kernel
def Q48 (Z : State) (p1 : Int32) (p2 : Int32) (h0 : Heap) (n0 : Nat) (v : Option Value) (h : Heap) (L : List Loc) : Prop := v = none ∧ Fr n0 L ∧ h = h0
theorem ef48 (m : MethodId) (x0 : Int32) (x1 : Int32) : entryFrame m #[(.int x0), (.int x1)] 2 = mkF m 0 #[.val (.int x0), .val (.int x1)] [] := by first | (simp [entryFrame, mkF, argsToLocals, Value.category]; done) | rfl
theorem rm48 (l : Launch) (Z : State) (a0 : Array Value) (hw : HW a0 Z) (ws : List Jvm.Cond) (p1 : Int32) (p2 : Int32) (h0 : Heap) (n0 : Nat) (Z0 : n0 ≤ h0.size) (hft : p1.toInt ≤ p2.toInt) :
  MetFree l y_35 (head1 (Cond.code y_35 cB48 2 none :: ws) (Rm 0 0 0 0)) (Pr Z h0 #[(.int p1), (.int p2)]) Tr (fun _ U o U' => ∃ v L, o = .returned v ∧ Q48 Z p1 p2 h0 n0 v U'.heap L ∧ FrameEnd U o U' L (Rm 0 0 0 0).cells (Rm 0 0 0 0).slots) := by
 refine MetFree.of_bodySF (plainFor_of_name pn12) hisR ?_
 intro p e s m args below meth c s₁ Bd hml0 hP hK
 obtain ⟨rfl, hZ, hh⟩ := hP
 have hx := Bd.exec
 have D := @hb _ _ Bd.bytes
 have hml : c.maxLocals = 2 := hml0
 have hown : s.vm.findClass "java/util/Arrays" = some m.cls := findClass_of_methodNamed Bd.named
 have hnm := (name_of_methodNamed Bd.named Bd.method).1
 have X0 : Stand p l e (Rm 0 0 0 0) s m #[(.int p1), (.int p2)] below meth c s₁ [] 0 0 := Stand.of_body Bd
 have e0 : s₁.heap = h0 := by rw [← hh, Bd.state]; rfl
 have N0 := Fr.nil n0
 have K0 : Keep h0 h0 [] := Keep.refl h0 _
 refine G (P := fun o U' => ∃ v L, o = .returned v ∧ Q48 Z p1 p2 h0 n0 v U'.heap L ∧ FrameEnd s o U' L (Rm 0 0 0 0).cells (Rm 0 0 0 0).slots) (fun t k => castTop (ef48 m p1 p2) k) ?_
 refine sG s₁ (mkF m 0 #[vi p1, vi p2] []) ?_
 refine G (fun t k => XS.iloadN X0.here hx rfl (D d48_0) rfl (XS.iloadN X0.here hx rfl (D d48_1) rfl k)) ?_
 have hf1 : ¬ (p2 < p1) := (by rw [Int32.lt_iff_toInt_lt]; omega)
 refine G (fun t k => XS.icmpYes X0.here hx rfl (pc0 := 2) (pc' := 37) rfl (D d48_2) rfl (flt hf1).2.1 (by decide) (by decide) k) ?_
 exact lfV (Q := Q48 Z p1 p2 h0 n0) Bd X0 e0 (D d48_37) ⟨rfl, N0, rfl⟩ (by decide) (by decide)
theorem d47_0 : dc cB47 0 (.iload_n 1) 1 := by decide +kernel
theorem d47_1 : dc cB47 1 (.iload_n 2) 1 := by decide +kernel
theorem d47_2 : dc cB47 2 (.invokestatic 343) 3 := by decide +kernel
theorem wd221 {Z a0} (hw : HW a0 Z) : (Cond.methodLink "java/util/Arrays" (343 : Nat) y_35).before a0 Z = true := mw hw 221 rfl
theorem wd223 {Z a0} (hw : HW a0 Z) : (Cond.code y_35 cB48 (2 : Nat) (Option.none : Option FieldType)).before a0 Z = true := mw hw 223 rfl
theorem wd216 {Z a0} (hw : HW a0 Z) : (Cond.initialized "java/util/Arrays").before a0 Z = true := mw hw 216 rfl
theorem wd222 {Z a0} (hw : HW a0 Z) : (Cond.static y_35).before a0 Z = true := mw hw 222 rfl
theorem d47_5 : dc cB47 5 (.iload_n 2) 1 := by decide +kernel
theorem d47_6 : dc cB47 6 (.iload_n 1) 1 := by decide +kernel
theorem d47_7 : dc cB47 7 .isub 1 := by decide +kernel
theorem d47_8 : dc cB47 8 (.istore_n 3) 1 := by decide +kernel
theorem d47_9 : dc cB47 9 (.iload_n 3) 1 := by decide +kernel
theorem d47_10 : dc cB47 10 (.newarray .byte) 2 := by decide +kernel
theorem d47_12 : dc cB47 12 (.astore 4) 2 := by decide +kernel
theorem d47_14 : dc cB47 14 (.aload_n 0) 1 := by decide +kernel
theorem d47_15 : dc cB47 15 (.iload_n 1) 1 := by decide +kernel
theorem d47_16 : dc cB47 16 (.aload 4) 2 := by decide +kernel
theorem d47_18 : dc cB47 18 (.iconst 0) 1 := by decide +kernel
theorem d47_19 : dc cB47 19 (.aload_n 0) 1 := by decide +kernel
theorem d47_20 : dc cB47 20 .arraylength 1 := by decide +kernel
theorem d47_21 : dc cB47 21 (.iload_n 1) 1 := by decide +kernel
theorem d47_22 : dc cB47 22 .isub 1 := by decide +kernel
theorem d47_23 : dc cB47 23 (.iload_n 3) 1 := by decide +kernel
theorem d47_24 : dc cB47 24 (.invokestatic 304) 3 := by decide +kernel
theorem wd224 {Z a0} (hw : HW a0 Z) : (Cond.methodLink "java/util/Arrays" (304 : Nat) y_13).before a0 Z = true := mw hw 224 rfl
theorem d47_27 : dc cB47 27 (.invokestatic 150) 3 := by decide +kernel
theorem wd225 {Z a0} (hw : HW a0 Z) : (Cond.methodLink "java/util/Arrays" (150 : Nat) ⟨"java/lang/System", "arraycopy", "(Ljava/lang/Object;ILjava/lang/Object;II)V"⟩).before a0 Z = true := mw hw 225 rfl
theorem wd228 {Z a0} (hw : HW a0 Z) : (Cond.native ⟨"java/lang/System", "arraycopy", "(Ljava/lang/Object;ILjava/lang/Object;II)V"⟩).before a0 Z = true := mw hw 228 rfl
theorem wd226 {Z a0} (hw : HW a0 Z) : (Cond.static ⟨"java/lang/System", "arraycopy", "(Ljava/lang/Object;ILjava/lang/Object;II)V"⟩).before a0 Z = true := mw hw 226 rfl
theorem wd227 {Z a0} (hw : HW a0 Z) : (Cond.initialized "java/lang/System").before a0 Z = true := mw hw 227 rfl
theorem d47_30 : dc cB47 30 (.aload 4) 2 := by decide +kernel
theorem d47_32 : dc cB47 32 .areturn 1 := by decide +kernel
def Q47 (Z : State) (a1 : Addr) (p2 : Int32) (p3 : Int32) (k_b : ClassId) (bs : List Int32) (w_n : Int32) (h0 : Heap) (n0 : Nat) (v : Option Value) (h : Heap) (L : List Loc) : Prop := ∃ x47_0 : Addr, ∃ k_x47_0 : ClassId, v = some (.ref x47_0) ∧ Fr n0 L ∧ Keep h0 h [] ∧ n0 ≤ x47_0 ∧ h0.size ≤ x47_0 ∧ Arv Z h x47_0 k_x47_0 .byte (p3 - p2) (List.map Value.int (slice bs p2 (p3 - p2))) (.int (0 : Int32))
theorem ef47 (m : MethodId) (x0 : Addr) (x1 : Int32) (x2 : Int32) : entryFrame m #[(.ref x0), (.int x1), (.int x2)] 5 = mkF m 0 #[.val (.ref x0), .val (.int x1), .val (.int x2), .unset, .unset] [] := by first | (simp [entryFrame, mkF, argsToLocals, Value.category]; done) | rfl
theorem rm47 (l : Launch) (Z : State) (a0 : Array Value) (hw : HW a0 Z) (ws : List Jvm.Cond) (a1 : Addr) (p2 : Int32) (p3 : Int32) (k_b : ClassId) (bs : List Int32) (w_n : Int32) (h0 : Heap) (n0 : Nat) (Z0 : n0 ≤ h0.size) (V_b : Arv Z h0 a1 k_b .byte w_n (List.map Value.int bs) (.int (0 : Int32))) (hft : 0 ≤ p2.toInt ∧ p2.toInt ≤ p3.toInt) (htn : p3.toInt ≤ w_n.toInt) (hn4 : w_n.toInt ≤ 4) :
  MetFree l y_36 (head1 (Cond.code y_36 cB47 5 (some (.array .byte)) :: ws) (Rm 1 1 4 18)) (Pr Z h0 #[(.ref a1), (.int p2), (.int p3)]) Tr (fun _ U o U' => ∃ v L, o = .returned v ∧ Q47 Z a1 p2 p3 k_b bs w_n h0 n0 v U'.heap L ∧ FrameEnd U o U' L (Rm 1 1 4 18).cells (Rm 1 1 4 18).slots) := by
 refine MetFree.of_bodySF (plainFor_of_name pn12) hisR ?_
 intro p e s m args below meth c s₁ Bd hml0 hP hK
 obtain ⟨rfl, hZ, hh⟩ := hP
 have hx := Bd.exec
 have D := @hb _ _ Bd.bytes
 have hml : c.maxLocals = 5 := hml0
 have hown : s.vm.findClass "java/util/Arrays" = some m.cls := findClass_of_methodNamed Bd.named
 have hnm := (name_of_methodNamed Bd.named Bd.method).1
 have X0 : Stand p l e (Rm 1 1 4 18) s m #[(.ref a1), (.int p2), (.int p3)] below meth c s₁ [] 0 0 := Stand.of_body Bd
 have e0 : s₁.heap = h0 := by rw [← hh, Bd.state]; rfl
 have N0 := Fr.nil n0
 have K0 : Keep h0 h0 [] := Keep.refl h0 _
 refine G (P := fun o U' => ∃ v L, o = .returned v ∧ Q47 Z a1 p2 p3 k_b bs w_n h0 n0 v U'.heap L ∧ FrameEnd s o U' L (Rm 1 1 4 18).cells (Rm 1 1 4 18).slots) (fun t k => castTop (ef47 m a1 p2 p3) k) ?_
 refine sG s₁ (mkF m 0 #[vr a1, vi p2, vi p3, us, us] []) ?_
 refine G (fun t k => XS.iloadN X0.here hx rfl (D d47_0) rfl (XS.iloadN X0.here hx rfl (D d47_1) rfl k)) ?_
 obtain ⟨_, T1, Lc1, X1, hQ1, st1⟩ := cS X0 hx hZ hown hml (wd221 hw) (wd222 hw) (wd216 hw) (wd223 hw) e0 0 [] (rm48 l Z a0 hw [] p2 p3 h0 n0 Z0 hft.2) pd6 (mkF m 2 #[vr a1, vi p2, vi p3, us, us] [(.int p3), (.int p2)]) (D d47_2)
 refine G st1 ?_
 obtain ⟨rfl, N1q, e1⟩ := hQ1
 have N1 := Fr.app N0 N1q
 refine G (fun t k => XS.iloadN X1.here hx rfl (D d47_5) rfl (XS.iloadN X1.here hx rfl (D d47_6) rfl (XS.isub X1.here hx rfl (D d47_7) rfl (XS.istoreN X1.here hx rfl (D d47_8) rfl (l' := #[vr a1, vi p2, vi p3, vi (p3 - p2), us]) rfl k)))) ?_
 refine sG T1 (mkF m 9 #[vr a1, vi p2, vi p3, vi (p3 - p2), us] []) ?_
 refine G (fun t k => XS.iloadN X1.here hx rfl (D d47_9) rfl k) ?_
 obtain ⟨T2, h2, k2, X2, e2, E2, A2, st2⟩ := newP X1 hx hZ (aty := .byte) (wd22 hw) e1 (g := (mkF m 10 #[vr a1, vi p2, vi p3, vi (p3 - p2), us] [(.int (p3 - p2))])) rfl (D d47_10) rfl (own_nn0 (by rw [own_sub hft]; have := hft.2; omega)) (cap := 4) (own_c4 hft htn hn4) (by decide) (by decide) (by decide)
 obtain ⟨b2, g2⟩ : ∃ z, z = h0.size := ⟨_, rfl⟩
 rw [← g2] at A2 st2
 refine G st2 ?_
 have ne_a1_b2 : a1 ≠ b2 := Nat.ne_of_lt (Nat.lt_of_lt_of_le V_b.lt (Nat.le_of_eq g2.symm))
 have g_b2 : n0 ≤ b2 := Nat.le_trans Z0 (Nat.le_of_eq g2.symm)
 have sz_b2 : h0.size ≤ b2 := Nat.le_trans K0.1 (Nat.le_of_eq g2.symm)
 replace V_b := V_b.ext E2
 replace K0 := K0.ext E2
 replace Z0 := Nat.le_trans Z0 E2.1
 have V_b2 : Arv Z h2 b2 k2 .byte (p3 - p2) [] (.int (0 : Int32)) := Arv.new A2 (own_nn0 (by rw [own_sub hft]; have := hft.2; omega))
 refine G (fun t k => XS.astore X2.here hx rfl (D d47_12) rfl rfl (l' := #[vr a1, vi p2, vi p3, vi (p3 - p2), vr b2]) rfl (XS.aloadN X2.here hx rfl (D d47_14) rfl rfl (XS.iloadN X2.here hx rfl (D d47_15) rfl (XS.aload X2.here hx rfl (D d47_16) rfl rfl (XS.iconst X2.here hx rfl (D d47_18) k))))) ?_
 refine sG T2 (mkF m 19 #[vr a1, vi p2, vi p3, vi (p3 - p2), vr b2] [(.int 0), (.ref b2), (.int p2), (.ref a1)]) ?_
 refine G (fun t k => XS.aloadN X2.here hx rfl (D d47_19) rfl rfl k) ?_
 obtain ⟨cl3, Ar3, -, Sz3, Ng3, -, -⟩ := id V_b
 refine G (fun t k => X2.arraylength hx (by rw [e2]; exact Ar3.1) (State.isArrayOf_alike hZ.alike Ar3.2.1) (g := (mkF m 20 #[vr a1, vi p2, vi p3, vi (p3 - p2), vr b2] [(.ref a1), (.int 0), (.ref b2), (.int p2), (.ref a1)])) rfl rfl (D d47_20) _ k) ?_
 rw [len_of Sz3 Ng3]
 clear Ng3 Sz3 Ar3 cl3
 refine G (fun t k => XS.iloadN X2.here hx rfl (D d47_21) rfl (XS.isub X2.here hx rfl (D d47_22) rfl (XS.iloadN X2.here hx rfl (D d47_23) rfl k))) ?_
 obtain ⟨_, T4, Lc4, X4, hQ4, st4⟩ := cS X2 hx hZ hown hml (wd224 hw) (wd204 hw) (wd201 hw) (wd205 hw) e2 4 [(.int (0 : Int32)), (.ref b2), (.int p2), (.ref a1)] (rm43 l Z a0 hw [] (w_n - p2) (p3 - p2) h2 n0 Z0) pd11 (mkF m 24 #[vr a1, vi p2, vi p3, vi (p3 - p2), vr b2] [(.int (p3 - p2)), (.int (w_n - p2)), (.int 0), (.ref b2), (.int p2), (.ref a1)]) (D d47_24)
 refine G st4 ?_
 obtain ⟨rfl, N4q, e4⟩ := hQ4
 have N4 := Fr.app N1 N4q
 rw [own_mn2 hft htn]
 replace V_b2 : Arv Z h2 b2 k2 .byte (p3 - p2) (List.replicate ((p3 - p2)).toNatClampNeg (.int (0 : Int32))) (.int (0 : Int32)) := V_b2.pad (own_padr _)
 have V_b2_pre := V_b2
 obtain ⟨T5, h5, L5, X5, e5, N5, K5, B5, st5⟩ := cpA X4 hx hZ hown (wd225 hw) (wd228 hw) (wd226 hw) (wd227 hw) e4 V_b V_b2 (us := List.map Value.int (slice bs p2 (p3 - p2))) (Or.inl ⟨rfl, rfl⟩) (sp := p2) (dp := (0 : Int32)) (nn := (p3 - p2)) (own_nn0 hft.1) (by decide) (own_nn0 (by rw [own_sub hft]; have := hft.2; omega)) (own_h4 hft htn) (by rw [show (0 : Int32).toNatClampNeg = 0 from rfl]; omega) (own_slice _ _ _) (own_hl _) N4 g_b2 (g := (mkF m 27 #[vr a1, vi p2, vi p3, vi (p3 - p2), vr b2] [(.int (p3 - p2)), (.int 0), (.ref b2), (.int p2), (.ref a1)])) rfl (by rw [hml]; rfl) rfl (D d47_27) (by decide) (W := 0) (by show 2 * 0 + _ ≤ _; exact Nat.le_of_eq rfl) (by decide)
 refine G st5 ?_
 replace V_b := V_b.keep K5 (ninS ne_a1_b2 nin0)
 replace Z0 := Nat.le_trans Z0 K5.1
 replace K0 := K0.trans K5 (allS (Or.inr sz_b2) all0)
 have V_b2 : Arv Z h5 b2 k2 .byte (p3 - p2) (List.map Value.int (slice bs p2 (p3 - p2))) (.int (0 : Int32)) := own_tk B5
 refine sG T5 (mkF m 30 #[vr a1, vi p2, vi p3, vi (p3 - p2), vr b2] []) ?_
 refine G (fun t k => XS.aload X5.here hx rfl (D d47_30) rfl rfl k) ?_
 exact lfR (Q := Q47 Z a1 p2 p3 k_b bs w_n h0 n0) Bd X5 e5 (D d47_32) rfl rfl rfl ⟨b2, k2, rfl, N5, K0, g_b2, sz_b2, V_b2⟩ (by decide) (by decide)
theorem d46_0 : dc cB46 0 (.iload_n 1) 1 := by decide +kernel
theorem d46_1 : dc cB46 1 (.ifCond .ne 9) 3 := by decide +kernel
theorem d46_4 : dc cB46 4 (.iload_n 2) 1 := by decide +kernel
theorem d46_5 : dc cB46 5 (.aload_n 0) 1 := by decide +kernel
theorem d46_6 : dc cB46 6 .arraylength 1 := by decide +kernel
theorem d46_7 : dc cB46 7 (.if_icmp .eq 10) 3 := by decide +kernel
theorem d46_10 : dc cB46 10 (.aload_n 0) 1 := by decide +kernel
theorem d46_11 : dc cB46 11 (.iload_n 1) 1 := by decide +kernel
theorem d46_12 : dc cB46 12 (.iload_n 2) 1 := by decide +kernel
theorem d46_13 : dc cB46 13 (.invokestatic 339) 3 := by decide +kernel
theorem wd218 {Z a0} (hw : HW a0 Z) : (Cond.methodLink "java/util/Arrays" (339 : Nat) y_36).before a0 Z = true := mw hw 218 rfl
theorem wd220 {Z a0} (hw : HW a0 Z) : (Cond.code y_36 cB47 (5 : Nat) (Option.some (FieldType.array FieldType.byte))).before a0 Z = true := mw hw 220 rfl
theorem pd19 : parseMethodDescriptor "([BII)[B" = some ⟨[(.array .byte), .int, .int], some (.array .byte)⟩ := by decide +kernel
theorem wd219 {Z a0} (hw : HW a0 Z) : (Cond.static y_36).before a0 Z = true := mw hw 219 rfl
theorem d46_16 : dc cB46 16 .areturn 1 := by decide +kernel
def Q46 (Z : State) (a1 : Addr) (p2 : Int32) (p3 : Int32) (k_b : ClassId) (bs : List Int32) (w_n : Int32) (h0 : Heap) (n0 : Nat) (v : Option Value) (h : Heap) (L : List Loc) : Prop := ∃ x46_0 : Addr, ∃ k_x46_0 : ClassId, v = some (.ref x46_0) ∧ Fr n0 L ∧ Keep h0 h [] ∧ n0 ≤ x46_0 ∧ h0.size ≤ x46_0 ∧ Arv Z h x46_0 k_x46_0 .byte (p3 - p2) (List.map Value.int (slice bs p2 (p3 - p2))) (.int (0 : Int32))
theorem ef46 (m : MethodId) (x0 : Addr) (x1 : Int32) (x2 : Int32) : entryFrame m #[(.ref x0), (.int x1), (.int x2)] 3 = mkF m 0 #[.val (.ref x0), .val (.int x1), .val (.int x2)] [] := by first | (simp [entryFrame, mkF, argsToLocals, Value.category]; done) | rfl
theorem rm46 (l : Launch) (Z : State) (a0 : Array Value) (hw : HW a0 Z) (ws : List Jvm.Cond) (a1 : Addr) (p2 : Int32) (p3 : Int32) (k_b : ClassId) (bs : List Int32) (w_n : Int32) (h0 : Heap) (n0 : Nat) (Z0 : n0 ≤ h0.size) (V_b : Arv Z h0 a1 k_b .byte w_n (List.map Value.int bs) (.int (0 : Int32))) (hft : 0 ≤ p2.toInt ∧ p2.toInt ≤ p3.toInt) (htn : p3.toInt ≤ w_n.toInt) (hn4 : w_n.toInt ≤ 4) (hnf : ¬ (p2 = (0 : Int32) ∧ p3 = w_n)) :
  MetFree l y_37 (head1 (Cond.code y_37 cB46 3 (some (.array .byte)) :: ws) (Rm 2 1 4 34)) (Pr Z h0 #[(.ref a1), (.int p2), (.int p3)]) Tr (fun _ U o U' => ∃ v L, o = .returned v ∧ Q46 Z a1 p2 p3 k_b bs w_n h0 n0 v U'.heap L ∧ FrameEnd U o U' L (Rm 2 1 4 34).cells (Rm 2 1 4 34).slots) := by
 refine MetFree.of_bodySF (plainFor_of_name pn12) hisR ?_
 intro p e s m args below meth c s₁ Bd hml0 hP hK
 obtain ⟨rfl, hZ, hh⟩ := hP
 have hx := Bd.exec
 have D := @hb _ _ Bd.bytes
 have hml : c.maxLocals = 3 := hml0
 have hown : s.vm.findClass "java/util/Arrays" = some m.cls := findClass_of_methodNamed Bd.named
 have hnm := (name_of_methodNamed Bd.named Bd.method).1
 have X0 : Stand p l e (Rm 2 1 4 34) s m #[(.ref a1), (.int p2), (.int p3)] below meth c s₁ [] 0 0 := Stand.of_body Bd
 have e0 : s₁.heap = h0 := by rw [← hh, Bd.state]; rfl
 have N0 := Fr.nil n0
 have K0 : Keep h0 h0 [] := Keep.refl h0 _
 refine G (P := fun o U' => ∃ v L, o = .returned v ∧ Q46 Z a1 p2 p3 k_b bs w_n h0 n0 v U'.heap L ∧ FrameEnd s o U' L (Rm 2 1 4 34).cells (Rm 2 1 4 34).slots) (fun t k => castTop (ef46 m a1 p2 p3) k) ?_
 refine sG s₁ (mkF m 0 #[vr a1, vi p2, vi p3] []) ?_
 refine G (fun t k => XS.iloadN X0.here hx rfl (D d46_0) rfl k) ?_
 by_cases hc1 : p2 = (0 : Int32)
 ·refine G (fun t k => XS.ifNo X0.here hx rfl (D d46_1) rfl ((if0 _ _).trans (teq hc1).2) (XS.iloadN X0.here hx rfl (D d46_4) rfl (XS.aloadN X0.here hx rfl (D d46_5) rfl rfl k))) ?_
  obtain ⟨cl2, Ar2, -, Sz2, Ng2, -, -⟩ := id V_b
  refine G (fun t k => X0.arraylength hx (by rw [e0]; exact Ar2.1) (State.isArrayOf_alike hZ.alike Ar2.2.1) (g := (mkF m 6 #[vr a1, vi p2, vi p3] [(.ref a1), (.int p3)])) rfl rfl (D d46_6) _ k) ?_
  rw [len_of Sz2 Ng2]
  clear Ng2 Sz2 Ar2 cl2
  have hf3 : ¬ (p3 = w_n) := fun z => hnf ⟨hc1, z⟩
  refine G (fun t k => XS.icmpNo X0.here hx rfl (D d46_7) rfl (feq hf3).1 (XS.aloadN X0.here hx rfl (D d46_10) rfl rfl k)) ?_
  refine sG s₁ (mkF m 11 #[vr a1, vi p2, vi p3] [(.ref a1)]) ?_
  refine G (fun t k => XS.iloadN X0.here hx rfl (D d46_11) rfl (XS.iloadN X0.here hx rfl (D d46_12) rfl k)) ?_
  obtain ⟨_, T4, Lc4, X4, hQ4, st4⟩ := cS X0 hx hZ hown hml (wd218 hw) (wd219 hw) (wd216 hw) (wd220 hw) e0 0 [] (rm47 l Z a0 hw [] a1 p2 p3 k_b bs w_n h0 n0 Z0 V_b hft htn hn4) pd19 (mkF m 13 #[vr a1, vi p2, vi p3] [(.int p3), (.int p2), (.ref a1)]) (D d46_13)
  obtain ⟨h4, e4⟩ : ∃ z, T4.heap = z := ⟨_, rfl⟩
  rw [e4] at hQ4
  obtain ⟨y4, k_y4, rfl, N4q, K4, ng_y4, sz0_y4, Q4_0⟩ := hQ4
  refine G st4 ?_
  have ne_a1_y4 : a1 ≠ y4 := Nat.ne_of_lt (Nat.lt_of_lt_of_le V_b.lt sz0_y4)
  have g_y4 : n0 ≤ y4 := ng_y4
  have sz_y4 : h0.size ≤ y4 := Nat.le_trans K0.1 sz0_y4
  replace V_b := V_b.keep K4 nin0
  replace Z0 := Nat.le_trans Z0 K4.1
  replace K0 := K0.trans K4 all0
  have V_y4 := Q4_0
  have N4 := Fr.app N0 N4q
  exact lfR (Q := Q46 Z a1 p2 p3 k_b bs w_n h0 n0) Bd X4 e4 (D d46_16) rfl rfl rfl ⟨y4, k_y4, rfl, N4, K0, g_y4, sz_y4, V_y4⟩ (by decide) (by decide)
 ·refine G (fun t k => XS.ifYes X0.here hx rfl (pc0 := 1) (pc' := 10) rfl (D d46_1) rfl ((if0 _ _).trans (feq hc1).2) (by decide) (by decide) (XS.aloadN X0.here hx rfl (D d46_10) rfl rfl (XS.iloadN X0.here hx rfl (D d46_11) rfl (XS.iloadN X0.here hx rfl (D d46_12) rfl k)))) ?_
  obtain ⟨_, T5, Lc5, X5, hQ5, st5⟩ := cS X0 hx hZ hown hml (wd218 hw) (wd219 hw) (wd216 hw) (wd220 hw) e0 0 [] (rm47 l Z a0 hw [] a1 p2 p3 k_b bs w_n h0 n0 Z0 V_b hft htn hn4) pd19 (mkF m 13 #[vr a1, vi p2, vi p3] [(.int p3), (.int p2), (.ref a1)]) (D d46_13)
  obtain ⟨h5, e5⟩ : ∃ z, T5.heap = z := ⟨_, rfl⟩
  rw [e5] at hQ5
  obtain ⟨y5, k_y5, rfl, N5q, K5, ng_y5, sz0_y5, Q5_0⟩ := hQ5
  refine G st5 ?_
  have ne_a1_y5 : a1 ≠ y5 := Nat.ne_of_lt (Nat.lt_of_lt_of_le V_b.lt sz0_y5)
  have g_y5 : n0 ≤ y5 := ng_y5
  have sz_y5 : h0.size ≤ y5 := Nat.le_trans K0.1 sz0_y5
  replace V_b := V_b.keep K5 nin0
  replace Z0 := Nat.le_trans Z0 K5.1
  replace K0 := K0.trans K5 all0
  have V_y5 := Q5_0
  have N5 := Fr.app N0 N5q
  exact lfR (Q := Q46 Z a1 p2 p3 k_b bs w_n h0 n0) Bd X5 e5 (D d46_16) rfl rfl rfl ⟨y5, k_y5, rfl, N5, K0, g_y5, sz_y5, V_y5⟩ (by decide) (by decide)
theorem own_asc (a b : Int32) : ((a + b) - a) = b := by
 apply Int32.toBitVec_inj.mp
 show (a.toBitVec + b.toBitVec) - a.toBitVec = b.toBitVec
 rw [BitVec.add_comm, BitVec.add_sub_cancel]
theorem own_add {a b n : Int32} (h : 0 ≤ a.toInt ∧ 0 ≤ b.toInt) (q : a.toInt + b.toInt ≤ n.toInt) : (a + b).toInt = a.toInt + b.toInt := by
 have := Int32.toInt_lt n
 rw [Int32.toInt_add, Int.bmod_eq_of_le (by omega) (by omega)]
theorem own_full {bs : List Int32} {n p q : Int32} (h : bs.length = n.toNatClampNeg) (e1 : p = (0 : Int32)) (e2 : q = n) : slice bs p (q - p) = bs := by
 subst e1 e2
 have e : (q - (0 : Int32)) = q := by
  apply Int32.toBitVec_inj.mp
  show q.toBitVec - 0#32 = q.toBitVec
  simp
 unfold slice
 rw [e, ← h]
 apply List.ext_getElem
 ·simp
 ·intro i h1 h2
  simp [List.getD, show (0 : Int32).toNatClampNeg = 0 from rfl, h2]
theorem own_sub0 {n p q : Int32} (e1 : p = (0 : Int32)) (e2 : q = n) : (q - p) = n := by
 subst e1 e2
 apply Int32.toBitVec_inj.mp
 show q.toBitVec - 0#32 = q.toBitVec
 simp
theorem d49_0 : dc cB49 0 (.aload_n 0) 1 := by decide +kernel
theorem d49_1 : dc cB49 1 (.invokespecial 1) 3 := by decide +kernel
theorem d49_4 : dc cB49 4 (.aload_n 0) 1 := by decide +kernel
theorem d49_5 : dc cB49 5 (.aload_n 1) 1 := by decide +kernel
theorem d49_6 : dc cB49 6 (.putfield 9) 3 := by decide +kernel
theorem d49_9 : dc cB49 9 (.aload_n 0) 1 := by decide +kernel
theorem d49_10 : dc cB49 10 (.iload_n 2) 1 := by decide +kernel
theorem d49_11 : dc cB49 11 (.putfield 15) 3 := by decide +kernel
theorem d49_14 : dc cB49 14 .return_ 1 := by decide +kernel
def Q49 (Z : State) (a1 : Addr) (a2 : Addr) (h0 : Heap) (n0 : Nat) (v : Option Value) (h : Heap) (L : List Loc) : Prop := v = none ∧ Fr n0 L ∧ Keep h0 h [a1] ∧ Exa Z h a1 SN ∧ Fld Z h a1 SN "value" "[B" (.ref a2) ∧ Fld Z h a1 SN "coder" "B" (.int (0 : Int32))
theorem ef49 (m : MethodId) (x0 : Addr) (x1 : Addr) : entryFrame m #[(.ref x0), (.ref x1), (.int (0 : Int32))] 3 = mkF m 0 #[.val (.ref x0), .val (.ref x1), .val (.int (0 : Int32))] [] := by first | (simp [entryFrame, mkF, argsToLocals, Value.category]; done) | rfl
theorem rm49 (l : Launch) (Z : State) (a0 : Array Value) (hw : HW a0 Z) (ws : List Jvm.Cond) (a1 : Addr) (a2 : Addr) (h0 : Heap) (n0 : Nat) (Z0 : n0 ≤ h0.size) (E_a1 : Exa Z h0 a1 SN) (F_a1_v : Fld Z h0 a1 SN "value" "[B" .null) (F_a1_c : Fld Z h0 a1 SN "coder" "B" (.int (0 : Int32))) (g_a1 : n0 ≤ a1) :
  MetFree l y_38 (head1 (Cond.code y_38 cB49 3 none :: ws) (Rm 1 0 0 12)) (Pr Z h0 #[(.ref a1), (.ref a2), (.int (0 : Int32))]) Tr (fun _ U o U' => ∃ v L, o = .returned v ∧ Q49 Z a1 a2 h0 n0 v U'.heap L ∧ FrameEnd U o U' L (Rm 1 0 0 12).cells (Rm 1 0 0 12).slots) := by
 refine MetFree.of_bodySF (plainFor_of_name pn1) hisR ?_
 intro p e s m args below meth c s₁ Bd hml0 hP hK
 obtain ⟨rfl, hZ, hh⟩ := hP
 have hx := Bd.exec
 have D := @hb _ _ Bd.bytes
 have hml : c.maxLocals = 3 := hml0
 have hown : s.vm.findClass SN = some m.cls := findClass_of_methodNamed Bd.named
 have hnm := (name_of_methodNamed Bd.named Bd.method).1
 have X0 : Stand p l e (Rm 1 0 0 12) s m #[(.ref a1), (.ref a2), (.int (0 : Int32))] below meth c s₁ [] 0 0 := Stand.of_body Bd
 have e0 : s₁.heap = h0 := by rw [← hh, Bd.state]; rfl
 have N0 := Fr.nil n0
 have K0 : Keep h0 h0 [a1] := Keep.refl h0 _
 refine G (P := fun o U' => ∃ v L, o = .returned v ∧ Q49 Z a1 a2 h0 n0 v U'.heap L ∧ FrameEnd s o U' L (Rm 1 0 0 12).cells (Rm 1 0 0 12).slots) (fun t k => castTop (ef49 m a1 a2) k) ?_
 refine sG s₁ (mkF m 0 #[vr a1, vr a2, vi 0] []) ?_
 refine G (fun t k => XS.aloadN X0.here hx rfl (D d49_0) rfl rfl k) ?_
 obtain ⟨T1, X1, e1, st1⟩ := initO X0 hx hZ hown (wd18 hw) (wd19 hw) (wd20 hw) e0 (g := (mkF m 1 #[vr a1, vr a2, vi 0] [(.ref a1)])) rfl (by rw [hml]; rfl) rfl (D d49_1) (by decide) (W := 0) (by show 2 * 0 + _ ≤ _; exact Nat.le_of_eq rfl) (by decide)
 refine G st1 ?_
 refine G (fun t k => XS.aloadN X1.here hx rfl (D d49_4) rfl rfl (XS.aloadN X1.here hx rfl (D d49_5) rfl rfl k)) ?_
 obtain ⟨T2, h2, X2, e2, W2, st2⟩ := putF X1 hx hZ hown (host := "") (Or.inl (wd27 hw)) Via.refl e1 F_a1_v E_a1 (Or.inr ⟨(wd23 hw), rfl, hnm⟩) (wd9 hw) (ty := (.array .byte)) (by decide) rfl rfl (g := (mkF m 6 #[vr a1, vr a2, vi 0] [(.ref a2), (.ref a1)])) rfl rfl (D d49_6)
 refine G st2 ?_
 have N2 := Fr.snoc X2 N0 g_a1
 replace E_a1 := E_a1.wr W2
 replace F_a1_v := F_a1_v.same W2
 replace F_a1_c := F_a1_c.other W2 (sn1 hw)
 replace Z0 := Nat.le_trans Z0 (Nat.le_of_eq W2.size.symm)
 replace K0 := K0.wr W2 (Or.inl (by simp))
 refine G (fun t k => XS.aloadN X2.here hx rfl (D d49_9) rfl rfl (XS.iloadN X2.here hx rfl (D d49_10) rfl k)) ?_
 refine sG T2 (mkF m 11 #[vr a1, vr a2, vi 0] [(.int 0), (.ref a1)]) ?_
 obtain ⟨T3, h3, X3, e3, W3, st3⟩ := putFN X2 hx hZ hown (wd28 hw) Via.refl e2 F_a1_c E_a1 (Or.inr ⟨(wd24 hw), rfl, hnm⟩) (wd9 hw) (ty := .byte) (v' := (.int ((0 : Int32).toInt8.toInt32))) (by decide) rfl (fits_nar_byte _) (g := (mkF m 11 #[vr a1, vr a2, vi 0] [(.int 0), (.ref a1)])) rfl rfl (D d49_11)
 refine G st3 ?_
 have N3 := Fr.snoc X3 N2 g_a1
 replace E_a1 := E_a1.wr W3
 replace F_a1_v := F_a1_v.other W3 (sn0 hw)
 replace F_a1_c := F_a1_c.same W3
 replace Z0 := Nat.le_trans Z0 (Nat.le_of_eq W3.size.symm)
 replace K0 := K0.wr W3 (Or.inl (by simp))
 replace F_a1_c : Fld Z h3 a1 SN "coder" "B" (.int (0 : Int32)) := F_a1_c
 exact lfV (Q := Q49 Z a1 a2 h0 n0) Bd X3 e3 (D d49_14) ⟨rfl, N3, K0, E_a1, F_a1_v, F_a1_c⟩ (by decide) (by decide)
theorem d45_0 : dc cB45 0 (.iload_n 2) 1 := by decide +kernel
theorem d45_1 : dc cB45 1 (.ifCond .ne 6) 3 := by decide +kernel
theorem d45_4 : dc cB45 4 (.ldc 151) 2 := by decide +kernel
theorem d45_6 : dc cB45 6 .areturn 1 := by decide +kernel
theorem d45_7 : dc cB45 7 (.new 1) 3 := by decide +kernel
theorem wd213 {Z a0} (hw : HW a0 Z) : (Cond.classLink SL1 (1 : Nat) SN).before a0 Z = true := mw hw 213 rfl
theorem d45_10 : dc cB45 10 .dup 1 := by decide +kernel
theorem d45_11 : dc cB45 11 (.aload_n 0) 1 := by decide +kernel
theorem d45_12 : dc cB45 12 (.iload_n 1) 1 := by decide +kernel
theorem d45_13 : dc cB45 13 (.iload_n 1) 1 := by decide +kernel
theorem d45_14 : dc cB45 14 (.iload_n 2) 1 := by decide +kernel
theorem d45_15 : dc cB45 15 .iadd 1 := by decide +kernel
theorem d45_16 : dc cB45 16 (.invokestatic 232) 3 := by decide +kernel
theorem wd214 {Z a0} (hw : HW a0 Z) : (Cond.methodLink SL1 (232 : Nat) y_37).before a0 Z = true := mw hw 214 rfl
theorem wd217 {Z a0} (hw : HW a0 Z) : (Cond.code y_37 cB46 (3 : Nat) (Option.some (FieldType.array FieldType.byte))).before a0 Z = true := mw hw 217 rfl
theorem wd215 {Z a0} (hw : HW a0 Z) : (Cond.static y_37).before a0 Z = true := mw hw 215 rfl
theorem d45_19 : dc cB45 19 (.iconst 0) 1 := by decide +kernel
theorem d45_20 : dc cB45 20 (.invokespecial 112) 3 := by decide +kernel
theorem wd229 {Z a0} (hw : HW a0 Z) : (Cond.methodLink SL1 (112 : Nat) y_38).before a0 Z = true := mw hw 229 rfl
theorem wd231 {Z a0} (hw : HW a0 Z) : (Cond.code y_38 cB49 (3 : Nat) (Option.none : Option FieldType)).before a0 Z = true := mw hw 231 rfl
theorem pd20 : parseMethodDescriptor "([BB)V" = some ⟨[(.array .byte), .byte], none⟩ := by decide +kernel
theorem wd230 {Z a0} (hw : HW a0 Z) : (Cond.instanceMethod y_38).before a0 Z = true := mw hw 230 rfl
theorem d45_23 : dc cB45 23 .areturn 1 := by decide +kernel
def Q45 (Z : State) (a1 : Addr) (p2 : Int32) (p3 : Int32) (k_b : ClassId) (bs : List Int32) (w_n : Int32) (h0 : Heap) (n0 : Nat) (v : Option Value) (h : Heap) (L : List Loc) : Prop := ∃ z_45_l0 : Addr, ∃ z_45_l1 : Addr, ∃ k_z_45_l1 : ClassId, v = some (.ref z_45_l0) ∧ Fr n0 L ∧ Keep h0 h [] ∧ Exa Z h z_45_l0 SN ∧ Fld Z h z_45_l0 SN "coder" "B" (.int (0 : Int32)) ∧ Fld Z h z_45_l0 SN "value" "[B" (.ref z_45_l1) ∧ Arv Z h z_45_l1 k_z_45_l1 .byte p3 (List.map Value.int (slice bs p2 p3)) (.int (0 : Int32))
theorem ef45 (m : MethodId) (x0 : Addr) (x1 : Int32) (x2 : Int32) : entryFrame m #[(.ref x0), (.int x1), (.int x2)] 3 = mkF m 0 #[.val (.ref x0), .val (.int x1), .val (.int x2)] [] := by first | (simp [entryFrame, mkF, argsToLocals, Value.category]; done) | rfl
theorem rm45 (l : Launch) (Z : State) (a0 : Array Value) (hw : HW a0 Z) (ws : List Jvm.Cond) (a1 : Addr) (p2 : Int32) (p3 : Int32) (k_b : ClassId) (bs : List Int32) (w_n : Int32) (h0 : Heap) (n0 : Nat) (Z0 : n0 ≤ h0.size) (V_b : Arv Z h0 a1 k_b .byte w_n (List.map Value.int bs) (.int (0 : Int32))) (hp2 : 0 ≤ p2.toInt ∧ 0 ≤ p3.toInt) (hle : p2.toInt + p3.toInt ≤ w_n.toInt) (hn4 : w_n.toInt ≤ 4) (hnf : ¬ (p2 = (0 : Int32) ∧ p3 = w_n)) :
  MetFree l y_39 (head1 (Cond.code y_39 cB45 3 (some (.object SN)) :: ws) (Rm 3 2 8 50)) (fun a U => a = #[(.ref a1), (.int p2), (.int p3)] ∧ Z.Warmed39 U.vm ∧ U.heap = h0 ∧ CHv Z consts_1 U.vm h0) (fun _ _ _ _ _ => True) (fun _ U o U' => ∃ v L, o = .returned v ∧ Q45 Z a1 p2 p3 k_b bs w_n h0 n0 v U'.heap L ∧ CHr Z consts_1 U.vm U.heap U'.vm U'.heap ∧ ReturnedEndW U o U' L (Rm 3 2 8 50).cells (Rm 3 2 8 50).slots) := by
 refine MetFree.of_bodySF (plainFor_of_name pn3) hisR ?_
 intro p e s m args below meth c s₁ Bd hml0 hP hK
 obtain ⟨rfl, hZ, hh, hC0⟩ := hP
 replace hZ : Z.Warmed39 (s.setVm s.vm).vm := hZ
 have hS : s.Since s.vm 0 := (State.WarmedH.refl s).since 0
 have hk : 0 ≤ h0.size := Nat.zero_le _
 have hCr : CHr Z consts_1 s.vm h0 s.vm h0 := CHr.refl hC0
 have hx := Bd.exec
 have D := @hb _ _ Bd.bytes
 have hml : c.maxLocals = 3 := hml0
 have hown : (s.setVm s.vm).vm.findClass SL1 = some m.cls := findClass_of_methodNamed Bd.named
 have hnm := (name_of_methodNamed Bd.named Bd.method).1
 have X0 : Stand p l e (Rm 3 2 8 50) (s.setVm s.vm) m #[(.ref a1), (.int p2), (.int p3)] below meth c s₁ [] 0 0 := Stand.of_body Bd
 have e0 : s₁.heap = h0 := by rw [← hh, Bd.state]; rfl
 have N0 := Fr.nil n0
 have K0 : Keep h0 h0 [] := Keep.refl h0 _
 refine G (P := fun o U' => ∃ v L, o = .returned v ∧ Q45 Z a1 p2 p3 k_b bs w_n h0 n0 v U'.heap L ∧ CHr Z consts_1 s.vm s.heap U'.vm U'.heap ∧ ReturnedEndW s o U' L (Rm 3 2 8 50).cells (Rm 3 2 8 50).slots) (fun t k => castTop (ef45 m a1 p2 p3) k) ?_
 refine sG s₁ (mkF m 0 #[vr a1, vi p2, vi p3] []) ?_
 refine G (fun t k => XS.iloadN X0.here hx rfl (D d45_0) rfl k) ?_
 by_cases hc1 : p3 = (0 : Int32)
 ·refine G (fun t k => XS.ifNo X0.here hx rfl (D d45_1) rfl ((if0 _ _).trans (teq hc1).2) k) ?_
  obtain ⟨c2, T2, h2, kk2, d2, kb2, X2, e2, E2, hS2, hk2, hZ2, ho2, ES2, FC2, FV2, VA2, -, -, hC2, LL2, hn2, st2⟩ := ldcCH X0 hx hZ hown (wd212 hw) (own_str hw) e0 hS hk (own_EL hw) (by simp [consts_1]) hCr.1 (vs := []) (z := 0) ⟨by decide, by decide⟩ (by decide) (by decide) (g := (mkF m 4 #[vr a1, vi p2, vi p3] [])) rfl (D d45_4) (n := 0) (by decide) (by decide) (by decide) (by decide)
  refine G st2 ?_
  replace V_b := V_b.ext E2
  replace K0 := K0.ext E2
  replace Z0 := Nat.le_trans Z0 E2.1
  replace hCr := hCr.trans hC2
  replace hZ := hZ2
  replace hown := ho2
  replace hS := hS2
  replace hk := hk2
  refine sG T2 (mkF m 6 #[vr a1, vi p2, vi p3] [(.ref c2)]) ?_
  replace VA2 : Arv Z h2 d2 kb2 .byte p3 (List.map Value.int (slice bs p2 p3)) (.int (0 : Int32)) := (by rw [hc1]; exact VA2)
  exact lwR (Q := Q45 Z a1 p2 p3 k_b bs w_n h0 n0) Bd X2 e2 hS hk hh hCr hZ (own_EL hw) (D d45_6) rfl rfl rfl ⟨c2, d2, kb2, rfl, N0, K0, ES2, FC2, FV2, VA2⟩ (by decide) (by decide)
 ·refine G (fun t k => XS.ifYes X0.here hx rfl (pc0 := 1) (pc' := 7) rfl (D d45_1) rfl ((if0 _ _).trans (feq hc1).2) (by decide) (by decide) k) ?_
  obtain ⟨T3, h3, X3, e3, E3, A3, D3, -, st3⟩ := newO X0 hx hZ hown (wd213 hw) (wd9 hw) (wd10 hw) e0 (g := (mkF m 7 #[vr a1, vi p2, vi p3] [])) rfl (D d45_7) (by decide) (by decide)
  obtain ⟨b3, g3⟩ : ∃ z, z = h0.size := ⟨_, rfl⟩
  rw [← g3] at A3 D3 st3
  refine G st3 ?_
  have ne_a1_b3 : a1 ≠ b3 := Nat.ne_of_lt (Nat.lt_of_lt_of_le V_b.lt (Nat.le_of_eq g3.symm))
  have g_b3 : n0 ≤ b3 := Nat.le_trans Z0 (Nat.le_of_eq g3.symm)
  have sz_b3 : h0.size ≤ b3 := Nat.le_trans K0.1 (Nat.le_of_eq g3.symm)
  have Sf_b3 : Safe Z consts_1 s.vm h0 b3 := Safe.new (Nat.le_of_eq g3.symm)
  replace V_b := V_b.ext E3
  replace K0 := K0.ext E3
  replace Z0 := Nat.le_trans Z0 E3.1
  replace Sf_b3 := Safe.ext E3 hCr.1 Sf_b3
  replace hk := Nat.le_trans hk E3.1
  replace hCr := hCr.trans (CHr.ext E3 hCr.1)
  have E_b3 := A3
  have F_b3_v : Fld Z h3 b3 SN "value" "[B" .null := D3 (Or.inr (wd23 hw)) (ty := (.array .byte)) (by decide)
  have F_b3_c : Fld Z h3 b3 SN "coder" "B" (.int (0 : Int32)) := D3 (Or.inr (wd24 hw)) (ty := .byte) (by decide)
  refine G (fun t k => XS.dup X3.here hx rfl (D d45_10) rfl rfl (XS.aloadN X3.here hx rfl (D d45_11) rfl rfl (XS.iloadN X3.here hx rfl (D d45_12) rfl (XS.iloadN X3.here hx rfl (D d45_13) rfl k)))) ?_
  refine sG T3 (mkF m 14 #[vr a1, vi p2, vi p3] [(.int p2), (.int p2), (.ref a1), (.ref b3), (.ref b3)]) ?_
  refine G (fun t k => XS.iloadN X3.here hx rfl (D d45_14) rfl (XS.iadd X3.here hx rfl (D d45_15) rfl k)) ?_
  obtain ⟨_, T4, Lc4, X4, hQ4, st4⟩ := cS X3 hx hZ hown hml (wd214 hw) (wd215 hw) (wd216 hw) (wd217 hw) e3 2 [(.ref b3), (.ref b3)] (rm46 l Z a0 hw [] a1 p2 (p2 + p3) k_b bs w_n h3 n0 Z0 V_b ⟨hp2.1, by rw [own_add hp2 hle]; have := hp2.2; omega⟩ (by rw [own_add hp2 hle]; exact hle) hn4 (fun z => hnf ⟨z.1, by have e := z.2; rw [z.1, Int32.zero_add] at e; exact e⟩)) pd19 (mkF m 16 #[vr a1, vi p2, vi p3] [(.int (p2 + p3)), (.int p2), (.ref a1), (.ref b3), (.ref b3)]) (D d45_16)
  obtain ⟨h4, e4⟩ : ∃ z, T4.heap = z := ⟨_, rfl⟩
  rw [e4] at hQ4
  obtain ⟨y4, k_y4, rfl, N4q, K4, ng_y4, sz0_y4, Q4_0⟩ := hQ4
  refine G st4 ?_
  have ne_a1_y4 : a1 ≠ y4 := Nat.ne_of_lt (Nat.lt_of_lt_of_le V_b.lt sz0_y4)
  have ne_b3_y4 : b3 ≠ y4 := Nat.ne_of_lt (Nat.lt_of_lt_of_le E_b3.lt sz0_y4)
  have g_y4 : n0 ≤ y4 := ng_y4
  have sz_y4 : h0.size ≤ y4 := Nat.le_trans K0.1 sz0_y4
  replace V_b := V_b.keep K4 nin0
  replace E_b3 := E_b3.keep K4
  replace F_b3_v := F_b3_v.keep K4 nin0
  replace F_b3_c := F_b3_c.keep K4 nin0
  have hCo := hCr.1
  replace Sf_b3 := Safe.keep K4 all0 hCo Sf_b3
  replace hk := Nat.le_trans hk K4.1
  replace hCr := hCr.trans (CHr.keep K4 all0 hCo)
  clear hCo
  replace Z0 := Nat.le_trans Z0 K4.1
  replace K0 := K0.trans K4 all0
  have V_y4 := Q4_0
  have N4 := Fr.app N0 N4q
  refine sG T4 (mkF m 19 #[vr a1, vi p2, vi p3] [(.ref y4), (.ref b3), (.ref b3)]) ?_
  rw [own_asc] at V_y4
  refine G (fun t k => XS.iconst X4.here hx rfl (D d45_19) k) ?_
  obtain ⟨_, _, ⟨T5, L5, k5, n5⟩, -, X5, ⟨Lc5, hQ5, l5, y5, z5⟩, st5⟩ := X4.specialBack hx (y := y_38) rfl hown (mvT hZ (wd229 hw)) (mvT hZ (wd230 hw)) (mvT hZ (wd231 hw)) (by decide) (backOf (W := 1) (rm49 l Z a0 hw [] b3 y4 h4 n0 Z0 E_b3 F_b3_v F_b3_c g_b3) hZ (wd231 hw) (wd10 hw) (by decide) (by decide)) (g := (mkF m 20 #[vr a1, vi p2, vi p3] [(.int 0), (.ref y4), (.ref b3), (.ref b3)])) rfl (by rw [hml]; rfl) (Steps.refl _) (a := b3) (argsL := [(.ref y4), (.int (0 : Int32))]) (rest := [(.ref b3)]) (lenOf pd20 rfl) rfl (by show 2 * 0 + _ ≤ _; exact Nat.le_of_eq rfl) (D d45_20) (fun _ _ => ⟨rfl, e4, (by decide : 2 + 0 ≤ _), (by decide : 8 + 0 ≤ _)⟩)
  dsimp only [Pt.U, Pt.locs, Pt.cells, Pt.slots] at X5 l5 y5 z5 st5 hQ5
  subst l5 y5 z5
  refine Go.tr st5 ?_
  have E_b3_pre := E_b3
  have F_b3_value_pre := F_b3_v
  have F_b3_coder_pre := F_b3_c
  obtain ⟨h5, e5⟩ : ∃ z, T5.heap = z := ⟨_, rfl⟩
  rw [e5] at hQ5
  obtain ⟨rfl, N5q, K5, Q5_0, Q5_1, Q5_2⟩ := hQ5
  replace V_b := V_b.keep K5 (ninS ne_a1_b3 nin0)
  replace E_b3 := E_b3.keep K5
  replace V_y4 := V_y4.keep K5 (ninS (Ne.symm ne_b3_y4) nin0)
  have hCo := hCr.1
  have Sf_b3_o := Sf_b3
  replace Sf_b3 := Safe.keep K5 (allS Sf_b3_o all0) hCo Sf_b3
  replace hk := Nat.le_trans hk K5.1
  replace hCr := hCr.trans (CHr.keep K5 (allS Sf_b3_o all0) hCo)
  clear hCo Sf_b3_o
  replace Z0 := Nat.le_trans Z0 K5.1
  replace K0 := K0.trans K5 (allS (Or.inr sz_b3) all0)
  clear E_b3_pre F_b3_value_pre F_b3_coder_pre
  have E_b3 := Q5_0
  have F_b3_v := Q5_1
  have F_b3_c := Q5_2
  have N5 := Fr.app N4 N5q
  exact lwR (Q := Q45 Z a1 p2 p3 k_b bs w_n h0 n0) Bd X5 e5 hS hk hh hCr hZ (own_EL hw) (D d45_23) rfl rfl rfl ⟨b3, y4, k_y4, rfl, N5, K0, E_b3, F_b3_c, F_b3_v, V_y4⟩ (by decide) (by decide)
theorem d27_0 : dc cB27 0 (.iload_n 0) 1 := by decide +kernel
theorem d27_1 : dc cB27 1 (.ifCond .lt 13) 3 := by decide +kernel
theorem d27_4 : dc cB27 4 (.iload_n 0) 1 := by decide +kernel
theorem d27_5 : dc cB27 5 (.iload_n 1) 1 := by decide +kernel
theorem d27_6 : dc cB27 6 (.if_icmp .gt 8) 3 := by decide +kernel
theorem d27_9 : dc cB27 9 (.iload_n 1) 1 := by decide +kernel
theorem d27_10 : dc cB27 10 (.iload_n 2) 1 := by decide +kernel
theorem d27_11 : dc cB27 11 (.if_icmp .le 11) 3 := by decide +kernel
theorem d27_22 : dc cB27 22 (.iload_n 0) 1 := by decide +kernel
theorem d27_23 : dc cB27 23 .ireturn 1 := by decide +kernel
def Q27 (Z : State) (p1 : Int32) (p2 : Int32) (p3 : Int32) (g3 : Value) (h0 : Heap) (n0 : Nat) (v : Option Value) (h : Heap) (L : List Loc) : Prop := v = some (.int p1) ∧ Fr n0 L ∧ h = h0
theorem ef27 (m : MethodId) (x0 : Int32) (x1 : Int32) (x2 : Int32) (x3 : Value) (hr3 : x3.isRef = true) : entryFrame m #[(.int x0), (.int x1), (.int x2), x3] 4 = mkF m 0 #[.val (.int x0), .val (.int x1), .val (.int x2), .val x3] [] := by rcases ref_cases hr3 with hq | ⟨_, hq⟩ <;> subst hq <;> first | (simp [entryFrame, mkF, argsToLocals, Value.category]; done) | rfl
theorem rm27 (l : Launch) (Z : State) (a0 : Array Value) (hw : HW a0 Z) (ws : List Jvm.Cond) (p1 : Int32) (p2 : Int32) (p3 : Int32) (g3 : Value) (h0 : Heap) (n0 : Nat) (Z0 : n0 ≤ h0.size) (hg3 : g3.isRef = true) (hft : 0 ≤ p1.toInt ∧ p1.toInt ≤ p2.toInt) (htn : p2.toInt ≤ p3.toInt) :
  MetFree l y_40 (head1 (Cond.code y_40 cB27 4 (some .int) :: ws) (Rm 0 0 0 0)) (Pr Z h0 #[(.int p1), (.int p2), (.int p3), g3]) Tr (fun _ U o U' => ∃ v L, o = .returned v ∧ Q27 Z p1 p2 p3 g3 h0 n0 v U'.heap L ∧ FrameEnd U o U' L (Rm 0 0 0 0).cells (Rm 0 0 0 0).slots) := by
 refine MetFree.of_bodySF (plainFor_of_name pn2) hisR ?_
 intro p e s m args below meth c s₁ Bd hml0 hP hK
 obtain ⟨rfl, hZ, hh⟩ := hP
 have hx := Bd.exec
 have D := @hb _ _ Bd.bytes
 have hml : c.maxLocals = 4 := hml0
 have hown : s.vm.findClass PC = some m.cls := findClass_of_methodNamed Bd.named
 have hnm := (name_of_methodNamed Bd.named Bd.method).1
 have X0 : Stand p l e (Rm 0 0 0 0) s m #[(.int p1), (.int p2), (.int p3), g3] below meth c s₁ [] 0 0 := Stand.of_body Bd
 have e0 : s₁.heap = h0 := by rw [← hh, Bd.state]; rfl
 have N0 := Fr.nil n0
 have K0 : Keep h0 h0 [] := Keep.refl h0 _
 refine G (P := fun o U' => ∃ v L, o = .returned v ∧ Q27 Z p1 p2 p3 g3 h0 n0 v U'.heap L ∧ FrameEnd s o U' L (Rm 0 0 0 0).cells (Rm 0 0 0 0).slots) (fun t k => castTop (ef27 m p1 p2 p3 g3 hg3) k) ?_
 refine sG s₁ (mkF m 0 #[vi p1, vi p2, vi p3, .val g3] []) ?_
 refine G (fun t k => XS.iloadN X0.here hx rfl (D d27_0) rfl k) ?_
 have hf1 : ¬ (p1 < (0 : Int32)) := (own_nn0 hft.1)
 refine G (fun t k => XS.ifNo X0.here hx rfl (D d27_1) rfl ((if0 _ _).trans (flt hf1).1) (XS.iloadN X0.here hx rfl (D d27_4) rfl (XS.iloadN X0.here hx rfl (D d27_5) rfl k))) ?_
 have hf2 : ¬ (p2 < p1) := (by rw [Int32.lt_iff_toInt_lt]; have := hft.2; omega)
 refine G (fun t k => XS.icmpNo X0.here hx rfl (D d27_6) rfl (flt hf2).2.2.1 (XS.iloadN X0.here hx rfl (D d27_9) rfl (XS.iloadN X0.here hx rfl (D d27_10) rfl k))) ?_
 refine sG s₁ (mkF m 11 #[vi p1, vi p2, vi p3, .val g3] [(.int p3), (.int p2)]) ?_
 have hf3 : ¬ (p3 < p2) := (by rw [Int32.lt_iff_toInt_lt]; omega)
 refine G (fun t k => XS.icmpYes X0.here hx rfl (pc0 := 11) (pc' := 22) rfl (D d27_11) rfl (flt hf3).2.2.2 (by decide) (by decide) (XS.iloadN X0.here hx rfl (D d27_22) rfl k)) ?_
 exact lfI (Q := Q27 Z p1 p2 p3 g3 h0 n0) Bd X0 e0 (D d27_23) (w := p1) ⟨rfl, N0, rfl⟩ (by decide) (by decide)
theorem d26_0 : dc cB26 0 (.iload_n 0) 1 := by decide +kernel
theorem d26_1 : dc cB26 1 (.iload_n 1) 1 := by decide +kernel
theorem d26_2 : dc cB26 2 (.iload_n 2) 1 := by decide +kernel
theorem d26_3 : dc cB26 3 (.getstatic 1053) 3 := by decide +kernel
theorem d26_6 : dc cB26 6 (.invokestatic 1062) 3 := by decide +kernel
theorem wd125 {Z a0} (hw : HW a0 Z) : (Cond.methodLink SN (1062 : Nat) y_40).before a0 Z = true := mw hw 125 rfl
theorem wd127 {Z a0} (hw : HW a0 Z) : (Cond.code y_40 cB27 (4 : Nat) (Option.some FieldType.int)).before a0 Z = true := mw hw 127 rfl
theorem pd21 : parseMethodDescriptor "(IIILjava/util/function/BiFunction;)I" = some ⟨[.int, .int, .int, (.object "java/util/function/BiFunction")], some .int⟩ := by decide +kernel
theorem wd126 {Z a0} (hw : HW a0 Z) : (Cond.static y_40).before a0 Z = true := mw hw 126 rfl
theorem d26_9 : dc cB26 9 .pop 1 := by decide +kernel
theorem d26_10 : dc cB26 10 .return_ 1 := by decide +kernel
def Q26 (Z : State) (p1 : Int32) (p2 : Int32) (p3 : Int32) (w_S : Value) (h0 : Heap) (n0 : Nat) (v : Option Value) (h : Heap) (L : List Loc) : Prop := v = none ∧ Fr n0 L ∧ h = h0
theorem ef26 (m : MethodId) (x0 : Int32) (x1 : Int32) (x2 : Int32) : entryFrame m #[(.int x0), (.int x1), (.int x2)] 3 = mkF m 0 #[.val (.int x0), .val (.int x1), .val (.int x2)] [] := by first | (simp [entryFrame, mkF, argsToLocals, Value.category]; done) | rfl
theorem rm26 (l : Launch) (Z : State) (a0 : Array Value) (hw : HW a0 Z) (ws : List Jvm.Cond) (p1 : Int32) (p2 : Int32) (p3 : Int32) (w_S : Value) (h0 : Heap) (n0 : Nat) (Z0 : n0 ≤ h0.size) (SI : Sta Z h0 PC "SIOOBE_FORMATTER" BF w_S) (hrS : w_S.isRef = true) (hft : 0 ≤ p1.toInt ∧ p1.toInt ≤ p2.toInt) (htn : p2.toInt ≤ p3.toInt) :
  MetFree l y_41 (head1 (Cond.code y_41 cB26 3 none :: ws) (Rm 1 0 0 15)) (Pr Z h0 #[(.int p1), (.int p2), (.int p3)]) Tr (fun _ U o U' => ∃ v L, o = .returned v ∧ Q26 Z p1 p2 p3 w_S h0 n0 v U'.heap L ∧ FrameEnd U o U' L (Rm 1 0 0 15).cells (Rm 1 0 0 15).slots) := by
 refine MetFree.of_bodySF (plainFor_of_name pn1) hisR ?_
 intro p e s m args below meth c s₁ Bd hml0 hP hK
 obtain ⟨rfl, hZ, hh⟩ := hP
 have hx := Bd.exec
 have D := @hb _ _ Bd.bytes
 have hml : c.maxLocals = 3 := hml0
 have hown : s.vm.findClass SN = some m.cls := findClass_of_methodNamed Bd.named
 have hnm := (name_of_methodNamed Bd.named Bd.method).1
 have X0 : Stand p l e (Rm 1 0 0 15) s m #[(.int p1), (.int p2), (.int p3)] below meth c s₁ [] 0 0 := Stand.of_body Bd
 have e0 : s₁.heap = h0 := by rw [← hh, Bd.state]; rfl
 have N0 := Fr.nil n0
 have K0 : Keep h0 h0 [] := Keep.refl h0 _
 refine G (P := fun o U' => ∃ v L, o = .returned v ∧ Q26 Z p1 p2 p3 w_S h0 n0 v U'.heap L ∧ FrameEnd s o U' L (Rm 1 0 0 15).cells (Rm 1 0 0 15).slots) (fun t k => castTop (ef26 m p1 p2 p3) k) ?_
 refine sG s₁ (mkF m 0 #[vi p1, vi p2, vi p3] []) ?_
 refine G (fun t k => XS.iloadN X0.here hx rfl (D d26_0) rfl (XS.iloadN X0.here hx rfl (D d26_1) rfl (XS.iloadN X0.here hx rfl (D d26_2) rfl k))) ?_
 obtain ⟨T1, X1, e1, st1⟩ := getS2 X0 hx hZ hown (host := "") (Or.inl (wd109 hw)) Via.refl e0 SI (g := (mkF m 3 #[vi p1, vi p2, vi p3] [(.int p3), (.int p2), (.int p1)])) rfl (D d26_3)
 refine G st1 ?_
 obtain ⟨_, T2, Lc2, X2, hQ2, st2⟩ := cS X1 hx hZ hown hml (wd125 hw) (wd126 hw) (wd110 hw) (wd127 hw) e1 0 [] (rm27 l Z a0 hw [] p1 p2 p3 w_S h0 n0 Z0 hrS hft htn) pd21 (mkF m 6 #[vi p1, vi p2, vi p3] [w_S, (.int p3), (.int p2), (.int p1)]) (D d26_6)
 refine G st2 ?_
 obtain ⟨rfl, N2q, e2⟩ := hQ2
 have N2 := Fr.app N0 N2q
 refine G (fun t k => XS.pop X2.here hx rfl (D d26_9) rfl rfl k) ?_
 exact lfV (Q := Q26 Z p1 p2 p3 w_S h0 n0) Bd X2 e2 (D d26_10) ⟨rfl, N2, rfl⟩ (by decide) (by decide)
theorem d25_0 : dc cB25 0 (.aload_n 0) 1 := by decide +kernel
theorem d25_1 : dc cB25 1 (.invokevirtual 505) 3 := by decide +kernel
theorem d25_4 : dc cB25 4 (.istore_n 3) 1 := by decide +kernel
theorem d25_5 : dc cB25 5 (.iload_n 1) 1 := by decide +kernel
theorem d25_6 : dc cB25 6 (.iload_n 2) 1 := by decide +kernel
theorem d25_7 : dc cB25 7 (.iload_n 3) 1 := by decide +kernel
theorem d25_8 : dc cB25 8 (.invokestatic 521) 3 := by decide +kernel
theorem wd122 {Z a0} (hw : HW a0 Z) : (Cond.methodLink SN (521 : Nat) y_41).before a0 Z = true := mw hw 122 rfl
theorem wd124 {Z a0} (hw : HW a0 Z) : (Cond.code y_41 cB26 (3 : Nat) (Option.none : Option FieldType)).before a0 Z = true := mw hw 124 rfl
theorem pd22 : parseMethodDescriptor "(III)V" = some ⟨[.int, .int, .int], none⟩ := by decide +kernel
theorem wd123 {Z a0} (hw : HW a0 Z) : (Cond.static y_41).before a0 Z = true := mw hw 123 rfl
theorem d25_11 : dc cB25 11 (.iload_n 1) 1 := by decide +kernel
theorem d25_12 : dc cB25 12 (.ifCond .ne 10) 3 := by decide +kernel
theorem d25_15 : dc cB25 15 (.iload_n 2) 1 := by decide +kernel
theorem d25_16 : dc cB25 16 (.iload_n 3) 1 := by decide +kernel
theorem d25_17 : dc cB25 17 (.if_icmp .ne 5) 3 := by decide +kernel
theorem d25_20 : dc cB25 20 (.aload_n 0) 1 := by decide +kernel
theorem d25_21 : dc cB25 21 .areturn 1 := by decide +kernel
theorem d25_22 : dc cB25 22 (.iload_n 2) 1 := by decide +kernel
theorem d25_23 : dc cB25 23 (.iload_n 1) 1 := by decide +kernel
theorem d25_24 : dc cB25 24 .isub 1 := by decide +kernel
theorem d25_25 : dc cB25 25 (.istore 4) 2 := by decide +kernel
theorem d25_27 : dc cB25 27 (.aload_n 0) 1 := by decide +kernel
theorem d25_28 : dc cB25 28 (.invokevirtual 492) 3 := by decide +kernel
theorem d25_31 : dc cB25 31 (.ifCond .eq 16) 3 := by decide +kernel
theorem d25_34 : dc cB25 34 (.aload_n 0) 1 := by decide +kernel
theorem d25_35 : dc cB25 35 (.getfield 9) 3 := by decide +kernel
theorem d25_38 : dc cB25 38 (.iload_n 1) 1 := by decide +kernel
theorem d25_39 : dc cB25 39 (.iload 4) 2 := by decide +kernel
theorem d25_41 : dc cB25 41 (.invokestatic 685) 3 := by decide +kernel
theorem wd209 {Z a0} (hw : HW a0 Z) : (Cond.methodLink SN (685 : Nat) y_39).before a0 Z = true := mw hw 209 rfl
theorem wd211 {Z a0} (hw : HW a0 Z) : (Cond.code y_39 cB45 (3 : Nat) (Option.some (FieldType.object SN))).before a0 Z = true := mw hw 211 rfl
theorem pd23 : parseMethodDescriptor "([BII)Ljava/lang/String;" = some ⟨[(.array .byte), .int, .int], some (.object SN)⟩ := by decide +kernel
theorem wd210 {Z a0} (hw : HW a0 Z) : (Cond.static y_39).before a0 Z = true := mw hw 210 rfl
theorem d25_44 : dc cB25 44 (.goto 13) 3 := by decide +kernel
theorem d25_57 : dc cB25 57 .areturn 1 := by decide +kernel
def Q25 (Z : State) (a1 : Addr) (p2 : Int32) (p3 : Int32) (w_b : Addr) (k_b : ClassId) (bs : List Int32) (w_n : Int32) (wC : Int32) (w_S : Value) (h0 : Heap) (n0 : Nat) (v : Option Value) (h : Heap) (L : List Loc) : Prop := ∃ z_25_l0 : Addr, ∃ z_25_l1 : Addr, ∃ k_z_25_l1 : ClassId, v = some (.ref z_25_l0) ∧ Fr n0 L ∧ Keep h0 h [] ∧ Exa Z h z_25_l0 SN ∧ Fld Z h z_25_l0 SN "value" "[B" (.ref z_25_l1) ∧ Fld Z h z_25_l0 SN "coder" "B" (.int (0 : Int32)) ∧ Arv Z h z_25_l1 k_z_25_l1 .byte (p3 - p2) (List.map Value.int (slice bs p2 (p3 - p2))) (.int (0 : Int32))
theorem ef25 (m : MethodId) (x0 : Addr) (x1 : Int32) (x2 : Int32) : entryFrame m #[(.ref x0), (.int x1), (.int x2)] 5 = mkF m 0 #[.val (.ref x0), .val (.int x1), .val (.int x2), .unset, .unset] [] := by first | (simp [entryFrame, mkF, argsToLocals, Value.category]; done) | rfl
theorem rm25 (l : Launch) (Z : State) (a0 : Array Value) (hw : HW a0 Z) (ws : List Jvm.Cond) (a1 : Addr) (p2 : Int32) (p3 : Int32) (w_b : Addr) (k_b : ClassId) (bs : List Int32) (w_n : Int32) (wC : Int32) (w_S : Value) (h0 : Heap) (n0 : Nat) (Z0 : n0 ≤ h0.size) (E_a1 : Exa Z h0 a1 SN) (F_a1_v : Fld Z h0 a1 SN "value" "[B" (.ref w_b)) (F_a1_c : Fld Z h0 a1 SN "coder" "B" (.int (0 : Int32))) (V_b : Arv Z h0 w_b k_b .byte w_n (List.map Value.int bs) (.int (0 : Int32))) (SC : Sta Z h0 SN "COMPACT_STRINGS" "Z" (.int wC)) (SI : Sta Z h0 PC "SIOOBE_FORMATTER" BF w_S) (hcs : ¬ wC = (0 : Int32)) (hrS : w_S.isRef = true) (hft : 0 ≤ p2.toInt ∧ p2.toInt ≤ p3.toInt) (htn : p3.toInt ≤ w_n.toInt) (hn4 : w_n.toInt ≤ 4) (hbl : bs.length = w_n.toNatClampNeg) :
  MetFree l y_42 (head1 (Cond.code y_42 cB25 5 (some (.object SN)) :: ws) (Rm 4 2 8 64)) (fun a U => a = #[(.ref a1), (.int p2), (.int p3)] ∧ Z.Warmed39 U.vm ∧ U.heap = h0 ∧ CHv Z consts_1 U.vm h0) (fun _ _ _ _ _ => True) (fun _ U o U' => ∃ v L, o = .returned v ∧ Q25 Z a1 p2 p3 w_b k_b bs w_n wC w_S h0 n0 v U'.heap L ∧ CHr Z consts_1 U.vm U.heap U'.vm U'.heap ∧ ReturnedEndW U o U' L (Rm 4 2 8 64).cells (Rm 4 2 8 64).slots) := by
 refine MetFree.of_bodySF (plainFor_of_name pn1) hisR ?_
 intro p e s m args below meth c s₁ Bd hml0 hP hK
 obtain ⟨rfl, hZ, hh, hC0⟩ := hP
 replace hZ : Z.Warmed39 (s.setVm s.vm).vm := hZ
 have hS : s.Since s.vm 0 := (State.WarmedH.refl s).since 0
 have hk : 0 ≤ h0.size := Nat.zero_le _
 have hCr : CHr Z consts_1 s.vm h0 s.vm h0 := CHr.refl hC0
 have hx := Bd.exec
 have D := @hb _ _ Bd.bytes
 have hml : c.maxLocals = 5 := hml0
 have hown : (s.setVm s.vm).vm.findClass SN = some m.cls := findClass_of_methodNamed Bd.named
 have hnm := (name_of_methodNamed Bd.named Bd.method).1
 have X0 : Stand p l e (Rm 4 2 8 64) (s.setVm s.vm) m #[(.ref a1), (.int p2), (.int p3)] below meth c s₁ [] 0 0 := Stand.of_body Bd
 have e0 : s₁.heap = h0 := by rw [← hh, Bd.state]; rfl
 have N0 := Fr.nil n0
 have K0 : Keep h0 h0 [] := Keep.refl h0 _
 refine G (P := fun o U' => ∃ v L, o = .returned v ∧ Q25 Z a1 p2 p3 w_b k_b bs w_n wC w_S h0 n0 v U'.heap L ∧ CHr Z consts_1 s.vm s.heap U'.vm U'.heap ∧ ReturnedEndW s o U' L (Rm 4 2 8 64).cells (Rm 4 2 8 64).slots) (fun t k => castTop (ef25 m a1 p2 p3) k) ?_
 refine sG s₁ (mkF m 0 #[vr a1, vi p2, vi p3, us, us] []) ?_
 refine G (fun t k => XS.aloadN X0.here hx rfl (D d25_0) rfl rfl k) ?_
 obtain ⟨_, T1, Lc1, X1, hQ1, st1⟩ := cV X0 hx hZ hown hml (wd44 hw) (wd45 hw) (wd47 hw) (wd46 hw) (wd48 hw) (wd10 hw) E_a1 e0 0 [] (rm9 l Z a0 hw [] a1 w_b k_b bs w_n wC h0 n0 Z0 E_a1 F_a1_v F_a1_c V_b SC hcs) pd13 (mkF m 1 #[vr a1, vi p2, vi p3, us, us] [(.ref a1)]) (D d25_1)
 refine Go.tr st1 ?_
 obtain ⟨rfl, N1q, e1⟩ := hQ1
 have N1 := Fr.app N0 N1q
 refine G (fun t k => XS.istoreN X1.here hx rfl (D d25_4) rfl (l' := #[vr a1, vi p2, vi p3, vi w_n, us]) rfl (XS.iloadN X1.here hx rfl (D d25_5) rfl (XS.iloadN X1.here hx rfl (D d25_6) rfl (XS.iloadN X1.here hx rfl (D d25_7) rfl k)))) ?_
 obtain ⟨_, T2, Lc2, X2, hQ2, st2⟩ := cS X1 hx hZ hown hml (wd122 hw) (wd123 hw) (wd10 hw) (wd124 hw) e1 0 [] (rm26 l Z a0 hw [] p2 p3 w_n w_S h0 n0 Z0 SI hrS hft htn) pd22 (mkF m 8 #[vr a1, vi p2, vi p3, vi w_n, us] [(.int w_n), (.int p3), (.int p2)]) (D d25_8)
 refine G st2 ?_
 obtain ⟨rfl, N2q, e2⟩ := hQ2
 have N2 := Fr.app N1 N2q
 refine sG T2 (mkF m 11 #[vr a1, vi p2, vi p3, vi w_n, us] []) ?_
 refine G (fun t k => XS.iloadN X2.here hx rfl (D d25_11) rfl k) ?_
 by_cases hc3 : p2 = (0 : Int32)
 ·refine G (fun t k => XS.ifNo X2.here hx rfl (D d25_12) rfl ((if0 _ _).trans (teq hc3).2) (XS.iloadN X2.here hx rfl (D d25_15) rfl (XS.iloadN X2.here hx rfl (D d25_16) rfl k))) ?_
  by_cases hc4 : p3 = w_n
  ·refine G (fun t k => XS.icmpNo X2.here hx rfl (D d25_17) rfl (teq hc4).2 (XS.aloadN X2.here hx rfl (D d25_20) rfl rfl k)) ?_
   refine sG T2 (mkF m 21 #[vr a1, vi p2, vi p3, vi w_n, us] [(.ref a1)]) ?_
   replace V_b : Arv Z h0 w_b k_b .byte (p3 - p2) (List.map Value.int (slice bs p2 (p3 - p2))) (.int (0 : Int32)) := (by rw [own_full hbl hc3 hc4, own_sub0 hc3 hc4]; exact V_b)
   exact lwR (Q := Q25 Z a1 p2 p3 w_b k_b bs w_n wC w_S h0 n0) Bd X2 e2 hS hk hh hCr hZ (own_EL hw) (D d25_21) rfl rfl rfl ⟨a1, w_b, k_b, rfl, N2, K0, E_a1, F_a1_v, F_a1_c, V_b⟩ (by decide) (by decide)
  ·refine G (fun t k => XS.icmpYes X2.here hx rfl (pc0 := 17) (pc' := 22) rfl (D d25_17) rfl (feq hc4).2 (by decide) (by decide) (XS.iloadN X2.here hx rfl (D d25_22) rfl (XS.iloadN X2.here hx rfl (D d25_23) rfl k))) ?_
   refine sG T2 (mkF m 24 #[vr a1, vi p2, vi p3, vi w_n, us] [(.int p2), (.int p3)]) ?_
   refine G (fun t k => XS.isub X2.here hx rfl (D d25_24) rfl (XS.istore X2.here hx rfl (D d25_25) rfl (l' := #[vr a1, vi p2, vi p3, vi w_n, vi (p3 - p2)]) rfl (XS.aloadN X2.here hx rfl (D d25_27) rfl rfl k))) ?_
   obtain ⟨_, T5, Lc5, X5, hQ5, st5⟩ := cV X2 hx hZ hown hml (wd97 hw) (wd98 hw) (wd100 hw) (wd99 hw) (wd101 hw) (wd10 hw) E_a1 e2 0 [] (rm21 l Z a0 hw [] a1 wC h0 n0 Z0 E_a1 F_a1_c SC hcs) pd7 (mkF m 28 #[vr a1, vi p2, vi p3, vi w_n, vi (p3 - p2)] [(.ref a1)]) (D d25_28)
   refine Go.tr st5 ?_
   obtain ⟨rfl, N5q, e5⟩ := hQ5
   have N5 := Fr.app N2 N5q
   refine G (fun t k => XS.ifNo X5.here hx rfl (D d25_31) rfl ((if0 _ _).trans (feq (by decide : ¬ ((1 : Int32) = (0 : Int32)))).1) (XS.aloadN X5.here hx rfl (D d25_34) rfl rfl k)) ?_
   obtain ⟨T6, X6, e6, st6⟩ := getF X5 hx hZ hown (host := "") (Or.inl (wd27 hw)) Via.refl e5 F_a1_v (g := (mkF m 35 #[vr a1, vi p2, vi p3, vi w_n, vi (p3 - p2)] [(.ref a1)])) rfl rfl (D d25_35)
   refine G st6 ?_
   refine sG T6 (mkF m 38 #[vr a1, vi p2, vi p3, vi w_n, vi (p3 - p2)] [(.ref w_b)]) ?_
   refine G (fun t k => XS.iloadN X6.here hx rfl (D d25_38) rfl (XS.iload X6.here hx rfl (D d25_39) rfl k)) ?_
   obtain ⟨_, _, ⟨T7, L7, k7, n7⟩, -, X7, hSi7, hgz7, ⟨Lc7, hQ7, l7, y7, z7, hC7⟩, st7⟩ := callSS X6 hx (y := y_39) hown (mvT hZ (wd209 hw)) (mvT hZ (wd210 hw)) (mvT hZ (wd104 hw)) (mvT hZ (wd211 hw)) (by decide) (backOfSH (W := 0) (rm45 l Z a0 hw [] w_b p2 (p3 - p2) k_b bs w_n h0 n0 Z0 V_b ⟨hft.1, by rw [own_sub hft]; have := hft.2; omega⟩ (by rw [own_sub hft]; omega) hn4 (fun z => hc4 ((own_sub0 z.1 rfl).symm.trans z.2))) hZ (wd211 hw) (wd104 hw) (by decide) (by decide) (own_EL hw) hCr.1) (g := (mkF m 41 #[vr a1, vi p2, vi p3, vi w_n, vi (p3 - p2)] [(.int (p3 - p2)), (.int p2), (.ref w_b)])) rfl (by rw [hml]; rfl) (argsL := [(.ref w_b), (.int p2), (.int (p3 - p2))]) (rest := []) (lenOf pd23 rfl) rfl (by show 2 * 0 + _ ≤ _; exact Nat.le_of_eq rfl) (D d25_41) (fun _ _ => ⟨rfl, e6, (by decide : 0 + 2 ≤ _), (by decide : 0 + 8 ≤ _)⟩)
   dsimp only [Pt.U, Pt.locs, Pt.cells, Pt.slots] at X7 l7 y7 z7 st7 hQ7 hSi7 hgz7 hC7
   subst l7 y7 z7
   obtain ⟨X7, hS, hZ, hown⟩ := rebS hS (show _ ≤ T6.heap.size by rw [e6]; exact hk) X7 hSi7 hgz7 hZ hown
   obtain ⟨h7, e7⟩ : ∃ z, T7.heap = z := ⟨_, rfl⟩
   rw [e7] at hQ7
   obtain ⟨za7, zb7, k_z_45_l1_7, rfl, N7q, K7, Q7_0, Q7_1, Q7_2, Q7_3⟩ := hQ7
   refine Go.tr st7 ?_
   replace E_a1 := E_a1.keep K7
   replace F_a1_v := F_a1_v.keep K7 nin0
   replace F_a1_c := F_a1_c.keep K7 nin0
   replace V_b := V_b.keep K7 nin0
   replace SC := sta_keep SC K7 all0
   replace SI := sta_keep SI K7 all0
   rw [e7] at hC7 hS
   have hk := Nat.le_refl h7.size
   replace hCr := hCr.trans hC7
   replace Z0 := Nat.le_trans Z0 K7.1
   replace K0 := K0.trans K7 all0
   have E_z_45_l0_7 := Q7_0
   have F_z_45_l0_7_c := Q7_1
   have F_z_45_l0_7_v := Q7_2
   have V_z_45_l1_7 := Q7_3
   have N7 := Fr.app N5 N7q
   obtain ⟨LL7, X7, N7⟩ : ∃ LL, Stand p l e (Rm 4 2 8 64) (s.setVm T7.vm) m #[(.ref a1), (.int p2), (.int p3)] below meth c T7 LL 2 8 ∧ Fr n0 LL := ⟨_, X7, N7⟩
   refine G (fun t k => XS.goto X7.here hx rfl (pc0 := 44) (pc' := 57) rfl (D d25_44) (by decide) (by decide) k) ?_
   exact lwR (Q := Q25 Z a1 p2 p3 w_b k_b bs w_n wC w_S h0 n0) Bd X7 e7 hS hk hh hCr hZ (own_EL hw) (D d25_57) rfl rfl rfl ⟨za7, zb7, k_z_45_l1_7, rfl, N7, K0, E_z_45_l0_7, F_z_45_l0_7_v, F_z_45_l0_7_c, V_z_45_l1_7⟩ (by decide) (by decide)
 ·refine G (fun t k => XS.ifYes X2.here hx rfl (pc0 := 12) (pc' := 22) rfl (D d25_12) rfl ((if0 _ _).trans (feq hc3).2) (by decide) (by decide) (XS.iloadN X2.here hx rfl (D d25_22) rfl (XS.iloadN X2.here hx rfl (D d25_23) rfl (XS.isub X2.here hx rfl (D d25_24) rfl (XS.istore X2.here hx rfl (D d25_25) rfl (l' := #[vr a1, vi p2, vi p3, vi w_n, vi (p3 - p2)]) rfl (XS.aloadN X2.here hx rfl (D d25_27) rfl rfl k)))))) ?_
  refine sG T2 (mkF m 28 #[vr a1, vi p2, vi p3, vi w_n, vi (p3 - p2)] [(.ref a1)]) ?_
  obtain ⟨_, T8, Lc8, X8, hQ8, st8⟩ := cV X2 hx hZ hown hml (wd97 hw) (wd98 hw) (wd100 hw) (wd99 hw) (wd101 hw) (wd10 hw) E_a1 e2 0 [] (rm21 l Z a0 hw [] a1 wC h0 n0 Z0 E_a1 F_a1_c SC hcs) pd7 (mkF m 28 #[vr a1, vi p2, vi p3, vi w_n, vi (p3 - p2)] [(.ref a1)]) (D d25_28)
  refine Go.tr st8 ?_
  obtain ⟨rfl, N8q, e8⟩ := hQ8
  have N8 := Fr.app N2 N8q
  refine G (fun t k => XS.ifNo X8.here hx rfl (D d25_31) rfl ((if0 _ _).trans (feq (by decide : ¬ ((1 : Int32) = (0 : Int32)))).1) (XS.aloadN X8.here hx rfl (D d25_34) rfl rfl k)) ?_
  obtain ⟨T9, X9, e9, st9⟩ := getF X8 hx hZ hown (host := "") (Or.inl (wd27 hw)) Via.refl e8 F_a1_v (g := (mkF m 35 #[vr a1, vi p2, vi p3, vi w_n, vi (p3 - p2)] [(.ref a1)])) rfl rfl (D d25_35)
  refine G st9 ?_
  refine G (fun t k => XS.iloadN X9.here hx rfl (D d25_38) rfl (XS.iload X9.here hx rfl (D d25_39) rfl k)) ?_
  obtain ⟨_, _, ⟨T10, L10, k10, n10⟩, -, X10, hSi10, hgz10, ⟨Lc10, hQ10, l10, y10, z10, hC10⟩, st10⟩ := callSS X9 hx (y := y_39) hown (mvT hZ (wd209 hw)) (mvT hZ (wd210 hw)) (mvT hZ (wd104 hw)) (mvT hZ (wd211 hw)) (by decide) (backOfSH (W := 0) (rm45 l Z a0 hw [] w_b p2 (p3 - p2) k_b bs w_n h0 n0 Z0 V_b ⟨hft.1, by rw [own_sub hft]; have := hft.2; omega⟩ (by rw [own_sub hft]; omega) hn4 (fun z => hc3 z.1)) hZ (wd211 hw) (wd104 hw) (by decide) (by decide) (own_EL hw) hCr.1) (g := (mkF m 41 #[vr a1, vi p2, vi p3, vi w_n, vi (p3 - p2)] [(.int (p3 - p2)), (.int p2), (.ref w_b)])) rfl (by rw [hml]; rfl) (argsL := [(.ref w_b), (.int p2), (.int (p3 - p2))]) (rest := []) (lenOf pd23 rfl) rfl (by show 2 * 0 + _ ≤ _; exact Nat.le_of_eq rfl) (D d25_41) (fun _ _ => ⟨rfl, e9, (by decide : 0 + 2 ≤ _), (by decide : 0 + 8 ≤ _)⟩)
  dsimp only [Pt.U, Pt.locs, Pt.cells, Pt.slots] at X10 l10 y10 z10 st10 hQ10 hSi10 hgz10 hC10
  subst l10 y10 z10
  obtain ⟨X10, hS, hZ, hown⟩ := rebS hS (show _ ≤ T9.heap.size by rw [e9]; exact hk) X10 hSi10 hgz10 hZ hown
  obtain ⟨h10, e10⟩ : ∃ z, T10.heap = z := ⟨_, rfl⟩
  rw [e10] at hQ10
  obtain ⟨za10, zb10, k_z_45_l1_10, rfl, N10q, K10, Q10_0, Q10_1, Q10_2, Q10_3⟩ := hQ10
  refine Go.tr st10 ?_
  replace E_a1 := E_a1.keep K10
  replace F_a1_v := F_a1_v.keep K10 nin0
  replace F_a1_c := F_a1_c.keep K10 nin0
  replace V_b := V_b.keep K10 nin0
  replace SC := sta_keep SC K10 all0
  replace SI := sta_keep SI K10 all0
  rw [e10] at hC10 hS
  have hk := Nat.le_refl h10.size
  replace hCr := hCr.trans hC10
  replace Z0 := Nat.le_trans Z0 K10.1
  replace K0 := K0.trans K10 all0
  have E_z_45_l0_10 := Q10_0
  have F_z_45_l0_10_c := Q10_1
  have F_z_45_l0_10_v := Q10_2
  have V_z_45_l1_10 := Q10_3
  have N10 := Fr.app N8 N10q
  obtain ⟨LL10, X10, N10⟩ : ∃ LL, Stand p l e (Rm 4 2 8 64) (s.setVm T10.vm) m #[(.ref a1), (.int p2), (.int p3)] below meth c T10 LL 2 8 ∧ Fr n0 LL := ⟨_, X10, N10⟩
  refine sG T10 (mkF m 44 #[vr a1, vi p2, vi p3, vi w_n, vi (p3 - p2)] [(.ref za10)]) ?_
  refine G (fun t k => XS.goto X10.here hx rfl (pc0 := 44) (pc' := 57) rfl (D d25_44) (by decide) (by decide) k) ?_
  exact lwR (Q := Q25 Z a1 p2 p3 w_b k_b bs w_n wC w_S h0 n0) Bd X10 e10 hS hk hh hCr hZ (own_EL hw) (D d25_57) rfl rfl rfl ⟨za10, zb10, k_z_45_l1_10, rfl, N10, K0, E_z_45_l0_10, F_z_45_l0_10_v, F_z_45_l0_10_c, V_z_45_l1_10⟩ (by decide) (by decide)
theorem d12_0 : dc cB12 0 (.iload_n 3) 1 := by decide +kernel
theorem d12_1 : dc cB12 1 (.iload_n 2) 1 := by decide +kernel
theorem d12_2 : dc cB12 2 (.if_icmp .lt 8) 3 := by decide +kernel
theorem d12_10 : dc cB12 10 (.iconst 3) 1 := by decide +kernel
theorem d12_11 : dc cB12 11 .ireturn 1 := by decide +kernel
theorem d12_5 : dc cB12 5 (.iload_n 3) 1 := by decide +kernel
theorem d12_6 : dc cB12 6 (.iload_n 1) 1 := by decide +kernel
theorem d12_7 : dc cB12 7 (.if_icmp .lt 5) 3 := by decide +kernel
theorem d12_12 : dc cB12 12 (.aload_n 0) 1 := by decide +kernel
theorem d12_13 : dc cB12 13 (.iload_n 3) 1 := by decide +kernel
theorem d12_14 : dc cB12 14 .caload 1 := by decide +kernel
theorem d12_15 : dc cB12 15 (.istore 4) 2 := by decide +kernel
theorem d12_17 : dc cB12 17 (.iload 4) 2 := by decide +kernel
theorem d12_19 : dc cB12 19 (.bipush 48) 2 := by decide +kernel
theorem d12_21 : dc cB12 21 (.if_icmp .lt 12) 3 := by decide +kernel
theorem d12_33 : dc cB12 33 (.iload 4) 2 := by decide +kernel
theorem d12_35 : dc cB12 35 (.bipush 46) 2 := by decide +kernel
theorem d12_37 : dc cB12 37 (.if_icmp .ne 5) 3 := by decide +kernel
theorem d12_40 : dc cB12 40 (.iconst 1) 1 := by decide +kernel
theorem d12_41 : dc cB12 41 .ireturn 1 := by decide +kernel
theorem d12_42 : dc cB12 42 (.iconst 2) 1 := by decide +kernel
theorem d12_43 : dc cB12 43 .ireturn 1 := by decide +kernel
theorem d12_24 : dc cB12 24 (.iload 4) 2 := by decide +kernel
theorem d12_26 : dc cB12 26 (.bipush 57) 2 := by decide +kernel
theorem d12_28 : dc cB12 28 (.if_icmp .gt 5) 3 := by decide +kernel
theorem d12_31 : dc cB12 31 (.iconst 0) 1 := by decide +kernel
theorem d12_32 : dc cB12 32 .ireturn 1 := by decide +kernel
def f12 (p2 : Int32) (p3 : Int32) (p4 : Int32) (cs : List Int32) : Int32 := (if p4 < p3 then (3 : Int32) else (if p4 < p2 then (if (own_at cs p4) < (48 : Int32) then (if (own_at cs p4) = (46 : Int32) then (1 : Int32) else (2 : Int32)) else (if (57 : Int32) < (own_at cs p4) then (if (own_at cs p4) = (46 : Int32) then (1 : Int32) else (2 : Int32)) else (0 : Int32))) else (3 : Int32)))
def Q12 (Z : State) (a1 : Addr) (p2 : Int32) (p3 : Int32) (p4 : Int32) (k_c : ClassId) (cs : List Int32) (h0 : Heap) (n0 : Nat) (v : Option Value) (h : Heap) (L : List Loc) : Prop := v = some (.int (f12 p2 p3 p4 cs)) ∧ Fr n0 L ∧ h = h0
theorem ef12 (m : MethodId) (x0 : Addr) (x1 : Int32) (x2 : Int32) (x3 : Int32) : entryFrame m #[(.ref x0), (.int x1), (.int x2), (.int x3)] 5 = mkF m 0 #[.val (.ref x0), .val (.int x1), .val (.int x2), .val (.int x3), .unset] [] := by first | (simp [entryFrame, mkF, argsToLocals, Value.category]; done) | rfl
theorem rm12 (l : Launch) (Z : State) (a0 : Array Value) (hw : HW a0 Z) (ws : List Jvm.Cond) (a1 : Addr) (p2 : Int32) (p3 : Int32) (p4 : Int32) (k_c : ClassId) (cs : List Int32) (h0 : Heap) (n0 : Nat) (Z0 : n0 ≤ h0.size) (V_c : Arv Z h0 a1 k_c .char (4 : Int32) (List.map Value.int cs) (.int (0 : Int32))) (hib : ¬ p4 < 0 ∧ p4 < (4 : Int32)) :
  MetFree l y_43 (head1 (Cond.code y_43 cB12 5 (some .int) :: ws) (Rm 0 0 0 0)) (Pr Z h0 #[(.ref a1), (.int p2), (.int p3), (.int p4)]) Tr (fun _ U o U' => ∃ v L, o = .returned v ∧ Q12 Z a1 p2 p3 p4 k_c cs h0 n0 v U'.heap L ∧ FrameEnd U o U' L (Rm 0 0 0 0).cells (Rm 0 0 0 0).slots) := by
 refine MetFree.of_bodySF (plainFor_of_name pn11) hisR ?_
 intro p e s m args below meth c s₁ Bd hml0 hP hK
 obtain ⟨rfl, hZ, hh⟩ := hP
 have hx := Bd.exec
 have D := @hb _ _ Bd.bytes
 have hml : c.maxLocals = 5 := hml0
 have hown : s.vm.findClass LW = some m.cls := findClass_of_methodNamed Bd.named
 have hnm := (name_of_methodNamed Bd.named Bd.method).1
 have X0 : Stand p l e (Rm 0 0 0 0) s m #[(.ref a1), (.int p2), (.int p3), (.int p4)] below meth c s₁ [] 0 0 := Stand.of_body Bd
 have e0 : s₁.heap = h0 := by rw [← hh, Bd.state]; rfl
 have N0 := Fr.nil n0
 have K0 : Keep h0 h0 [] := Keep.refl h0 _
 refine G (P := fun o U' => ∃ v L, o = .returned v ∧ Q12 Z a1 p2 p3 p4 k_c cs h0 n0 v U'.heap L ∧ FrameEnd s o U' L (Rm 0 0 0 0).cells (Rm 0 0 0 0).slots) (fun t k => castTop (ef12 m a1 p2 p3 p4) k) ?_
 refine sG s₁ (mkF m 0 #[vr a1, vi p2, vi p3, vi p4, us] []) ?_
 refine G (fun t k => XS.iloadN X0.here hx rfl (D d12_0) rfl (XS.iloadN X0.here hx rfl (D d12_1) rfl k)) ?_
 by_cases hc1 : p4 < p3
 ·refine G (fun t k => XS.icmpYes X0.here hx rfl (pc0 := 2) (pc' := 10) rfl (D d12_2) rfl (tlt hc1).1 (by decide) (by decide) (XS.iconst X0.here hx rfl (D d12_10) k)) ?_
  exact lfI (Q := Q12 Z a1 p2 p3 p4 k_c cs h0 n0) Bd X0 e0 (D d12_11) (w := (3 : Int32)) ⟨(by unfold f12; simp only [if_pos hc1]), N0, rfl⟩ (by decide) (by decide)
 ·refine G (fun t k => XS.icmpNo X0.here hx rfl (D d12_2) rfl (flt hc1).1 (XS.iloadN X0.here hx rfl (D d12_5) rfl (XS.iloadN X0.here hx rfl (D d12_6) rfl k))) ?_
  by_cases hc2 : p4 < p2
  ·refine G (fun t k => XS.icmpYes X0.here hx rfl (pc0 := 7) (pc' := 12) rfl (D d12_7) rfl (tlt hc2).1 (by decide) (by decide) (XS.aloadN X0.here hx rfl (D d12_12) rfl rfl k)) ?_
   refine sG s₁ (mkF m 13 #[vr a1, vi p2, vi p3, vi p4, us] [(.ref a1)]) ?_
   refine G (fun t k => XS.iloadN X0.here hx rfl (D d12_13) rfl k) ?_
   obtain ⟨cl3, Ar3, -, Sz3, Ng3, Hs3, -⟩ := id V_c
   have hin3 := inb_of (j := p4) (c := cl3) Sz3 hib
   refine G (fun t k => X0.caload hx (j := p4) (v := (.int (own_at cs p4))) (by rw [e0]; exact Ar3.1) (State.isArrayOf_alike hZ.alike Ar3.2.1) Ar3.2.2 hin3 (Has.at Hs3 hin3 (own_atv cs p4)) (g := (mkF m 14 #[vr a1, vi p2, vi p3, vi p4, us] [(.int p4), (.ref a1)])) rfl rfl (D d12_14) _ k) ?_
   clear hin3 Hs3 Ng3 Sz3 Ar3 cl3
   refine G (fun t k => XS.istore X0.here hx rfl (D d12_15) rfl (l' := #[vr a1, vi p2, vi p3, vi p4, vi (own_at cs p4)]) rfl (XS.iload X0.here hx rfl (D d12_17) rfl (XS.bipush X0.here hx rfl (D d12_19) k))) ?_
   by_cases hc4 : (own_at cs p4) < (48 : Int32)
   ·refine G (fun t k => XS.icmpYes X0.here hx rfl (pc0 := 21) (pc' := 33) rfl (D d12_21) rfl (tlt hc4).1 (by decide) (by decide) (XS.iload X0.here hx rfl (D d12_33) rfl k)) ?_
    refine sG s₁ (mkF m 35 #[vr a1, vi p2, vi p3, vi p4, vi (own_at cs p4)] [(.int (own_at cs p4))]) ?_
    refine G (fun t k => XS.bipush X0.here hx rfl (D d12_35) k) ?_
    by_cases hc5 : (own_at cs p4) = (46 : Int32)
    ·refine G (fun t k => XS.icmpNo X0.here hx rfl (D d12_37) rfl (teq hc5).2 (XS.iconst X0.here hx rfl (D d12_40) k)) ?_
     exact lfI (Q := Q12 Z a1 p2 p3 p4 k_c cs h0 n0) Bd X0 e0 (D d12_41) (w := (1 : Int32)) ⟨(by unfold f12; simp only [if_neg hc1, if_pos hc2, if_pos hc4, if_pos hc5]), N0, rfl⟩ (by decide) (by decide)
    ·refine G (fun t k => XS.icmpYes X0.here hx rfl (pc0 := 37) (pc' := 42) rfl (D d12_37) rfl (feq hc5).2 (by decide) (by decide) (XS.iconst X0.here hx rfl (D d12_42) k)) ?_
     exact lfI (Q := Q12 Z a1 p2 p3 p4 k_c cs h0 n0) Bd X0 e0 (D d12_43) (w := (2 : Int32)) ⟨(by unfold f12; simp only [if_neg hc1, if_pos hc2, if_pos hc4, if_neg hc5]), N0, rfl⟩ (by decide) (by decide)
   ·refine G (fun t k => XS.icmpNo X0.here hx rfl (D d12_21) rfl (flt hc4).1 (XS.iload X0.here hx rfl (D d12_24) rfl k)) ?_
    refine sG s₁ (mkF m 26 #[vr a1, vi p2, vi p3, vi p4, vi (own_at cs p4)] [(.int (own_at cs p4))]) ?_
    refine G (fun t k => XS.bipush X0.here hx rfl (D d12_26) k) ?_
    by_cases hc6 : (57 : Int32) < (own_at cs p4)
    ·refine G (fun t k => XS.icmpYes X0.here hx rfl (pc0 := 28) (pc' := 33) rfl (D d12_28) rfl (tlt hc6).2.2.1 (by decide) (by decide) (XS.iload X0.here hx rfl (D d12_33) rfl (XS.bipush X0.here hx rfl (D d12_35) k))) ?_
     by_cases hc7 : (own_at cs p4) = (46 : Int32)
     ·refine G (fun t k => XS.icmpNo X0.here hx rfl (D d12_37) rfl (teq hc7).2 (XS.iconst X0.here hx rfl (D d12_40) k)) ?_
      exact lfI (Q := Q12 Z a1 p2 p3 p4 k_c cs h0 n0) Bd X0 e0 (D d12_41) (w := (1 : Int32)) ⟨(by unfold f12; simp only [if_neg hc1, if_pos hc2, if_neg hc4, if_pos hc6, if_pos hc7]), N0, rfl⟩ (by decide) (by decide)
     ·refine G (fun t k => XS.icmpYes X0.here hx rfl (pc0 := 37) (pc' := 42) rfl (D d12_37) rfl (feq hc7).2 (by decide) (by decide) (XS.iconst X0.here hx rfl (D d12_42) k)) ?_
      exact lfI (Q := Q12 Z a1 p2 p3 p4 k_c cs h0 n0) Bd X0 e0 (D d12_43) (w := (2 : Int32)) ⟨(by unfold f12; simp only [if_neg hc1, if_pos hc2, if_neg hc4, if_pos hc6, if_neg hc7]), N0, rfl⟩ (by decide) (by decide)
    ·refine G (fun t k => XS.icmpNo X0.here hx rfl (D d12_28) rfl (flt hc6).2.2.1 (XS.iconst X0.here hx rfl (D d12_31) k)) ?_
     exact lfI (Q := Q12 Z a1 p2 p3 p4 k_c cs h0 n0) Bd X0 e0 (D d12_32) (w := (0 : Int32)) ⟨(by unfold f12; simp only [if_neg hc1, if_pos hc2, if_neg hc4, if_neg hc6]), N0, rfl⟩ (by decide) (by decide)
  ·refine G (fun t k => XS.icmpNo X0.here hx rfl (D d12_7) rfl (flt hc2).1 (XS.iconst X0.here hx rfl (D d12_10) k)) ?_
   refine sG s₁ (mkF m 11 #[vr a1, vi p2, vi p3, vi p4, us] [(.int 3)]) ?_
   exact lfI (Q := Q12 Z a1 p2 p3 p4 k_c cs h0 n0) Bd X0 e0 (D d12_11) (w := (3 : Int32)) ⟨(by unfold f12; simp only [if_neg hc1, if_neg hc2]), N0, rfl⟩ (by decide) (by decide)
theorem own_nat {v : Int32} (h : 0 ≤ v.toInt ∧ v.toInt ≤ 255) : v.toBitVec.toNat < 256 ∧ (v.toBitVec.toNat : Int) = v.toInt := by
 have h1 := h.1
 have h2 := h.2
 have h3 : v.toInt = v.toBitVec.toInt := rfl
 rw [h3, BitVec.toInt_eq_toNat_cond] at h1 h2
 rw [h3, BitVec.toInt_eq_toNat_cond]
 have := v.toBitVec.isLt
 split at h1 <;> split at h2 <;> split <;> omega
theorem own_nar {v : Int32} (h : 0 ≤ v.toInt ∧ v.toInt ≤ 255) : (v.toUInt32.toUInt16.toUInt32.toInt32) = v := by
 have h1 := (own_nat h).1
 apply Int32.toBitVec_inj.mp
 show BitVec.setWidth 32 (BitVec.setWidth 16 v.toBitVec) = v.toBitVec
 apply BitVec.eq_of_toNat_eq
 rw [BitVec.toNat_setWidth, BitVec.toNat_setWidth]
 omega
theorem own_ton (k : Nat) (h : k < 256) : (Int32.ofNat k).toInt = k := by
 show (BitVec.ofNat 32 k).toInt = k
 rw [BitVec.toInt_eq_toNat_cond, BitVec.toNat_ofNat]
 split <;> omega
theorem own_ofn {v : Int32} (h : 0 ≤ v.toInt ∧ v.toInt ≤ 255) : ∃ k : Fin 256, v = Int32.ofNat k.val := by
 obtain ⟨h1, h2⟩ := own_nat h
 exact ⟨⟨v.toBitVec.toNat, h1⟩, Int32.toInt_inj.mp (by rw [own_ton _ h1, ← h2])⟩
theorem own_chk1 : ∀ k : Fin 256, chr ((Int32.ofNat k.val).toInt8.toInt32.toInt8.toInt32) = Int32.ofNat k.val := by decide +kernel
theorem own_chk2 : ∀ k : Fin 128, (Int32.ofNat k.val).toInt8.toInt32.toInt8.toInt32 = Int32.ofNat k.val := by decide +kernel
def Ch (b c : Int32) : Prop := chr b = c ∧ ∀ k : Int32, 0 ≤ k.toInt → k.toInt < 128 → (b = k ↔ c = k)
theorem own_byte {v : Int32} (h : 0 ≤ v.toInt ∧ v.toInt ≤ 255) : Ch (((v.toUInt32.toUInt16.toUInt32.toInt32).toInt8.toInt32).toInt8.toInt32) v := by
 rw [own_nar h]
 obtain ⟨k, rfl⟩ := own_ofn h
 refine ⟨own_chk1 k, fun j h0 h1 => ?_⟩
 obtain ⟨i, e⟩ := own_ofn (v := j) ⟨h0, by omega⟩
 have hi : i.val < 128 := by
  rw [e, own_ton _ i.isLt] at h1
  omega
 have q := own_chk2 ⟨i.val, hi⟩
 have q1 := own_chk1 i
 simp only [] at q
 rw [q] at q1
 constructor
 ·intro z
  have q2 := own_chk1 k
  rw [z, e, q1] at q2
  rw [e, q2]
 ·intro z
  rw [z, e]
  exact q
theorem own_c255 {v : Int32} (h : 0 ≤ v.toInt ∧ v.toInt ≤ 255) : ¬ (255 : Int32) < (v.toUInt32.toUInt16.toUInt32.toInt32) := by
 rw [own_nar h, Int32.lt_iff_toInt_lt, show (255 : Int32).toInt = 255 from rfl]
 omega
theorem d2_0 : dc cB2 0 (.iload_n 0) 1 := by decide +kernel
theorem d2_1 : dc cB2 1 (.ifCond .ne 14) 3 := by decide +kernel
theorem d2_4 : dc cB2 4 (.new 7) 3 := by decide +kernel
theorem wd8 {Z a0} (hw : HW a0 Z) : (Cond.classLink LW (7 : Nat) SN).before a0 Z = true := mw hw 8 rfl
theorem d2_7 : dc cB2 7 .dup 1 := by decide +kernel
theorem d2_8 : dc cB2 8 (.iconst 0) 1 := by decide +kernel
theorem d2_9 : dc cB2 9 (.newarray .char) 2 := by decide +kernel
theorem wd0 {Z a0} (hw : HW a0 Z) : (Cond.arrayClass FieldType.char).before a0 Z = true := mw hw 0 rfl
theorem d2_11 : dc cB2 11 (.invokespecial 9) 3 := by decide +kernel
theorem wd11 {Z a0} (hw : HW a0 Z) : (Cond.methodLink LW (9 : Nat) y_4).before a0 Z = true := mw hw 11 rfl
theorem wd13 {Z a0} (hw : HW a0 Z) : (Cond.code y_4 cB3 (2 : Nat) (Option.none : Option FieldType)).before a0 Z = true := mw hw 13 rfl
theorem pd24 : parseMethodDescriptor "([C)V" = some ⟨[(.array .char)], none⟩ := by decide +kernel
theorem wd12 {Z a0} (hw : HW a0 Z) : (Cond.instanceMethod y_4).before a0 Z = true := mw hw 12 rfl
theorem d2_14 : dc cB2 14 .areturn 1 := by decide +kernel
theorem d2_15 : dc cB2 15 (.iload_n 0) 1 := by decide +kernel
theorem d2_16 : dc cB2 16 (.iconst 1) 1 := by decide +kernel
theorem d2_17 : dc cB2 17 (.if_icmp .ne 20) 3 := by decide +kernel
theorem d2_20 : dc cB2 20 (.new 7) 3 := by decide +kernel
theorem d2_23 : dc cB2 23 .dup 1 := by decide +kernel
theorem d2_24 : dc cB2 24 (.iconst 1) 1 := by decide +kernel
theorem d2_25 : dc cB2 25 (.newarray .char) 2 := by decide +kernel
theorem d2_27 : dc cB2 27 .dup 1 := by decide +kernel
theorem d2_28 : dc cB2 28 (.iconst 0) 1 := by decide +kernel
theorem d2_29 : dc cB2 29 (.aload_n 1) 1 := by decide +kernel
theorem d2_30 : dc cB2 30 (.iconst 0) 1 := by decide +kernel
theorem d2_31 : dc cB2 31 .caload 1 := by decide +kernel
theorem d2_32 : dc cB2 32 .castore 1 := by decide +kernel
theorem d2_33 : dc cB2 33 (.invokespecial 9) 3 := by decide +kernel
theorem d2_36 : dc cB2 36 .areturn 1 := by decide +kernel
theorem d2_37 : dc cB2 37 (.iload_n 0) 1 := by decide +kernel
theorem d2_38 : dc cB2 38 (.iconst 2) 1 := by decide +kernel
theorem d2_39 : dc cB2 39 (.if_icmp .ne 26) 3 := by decide +kernel
theorem d2_42 : dc cB2 42 (.new 7) 3 := by decide +kernel
theorem d2_45 : dc cB2 45 .dup 1 := by decide +kernel
theorem d2_46 : dc cB2 46 (.iconst 2) 1 := by decide +kernel
theorem d2_47 : dc cB2 47 (.newarray .char) 2 := by decide +kernel
theorem d2_49 : dc cB2 49 .dup 1 := by decide +kernel
theorem d2_50 : dc cB2 50 (.iconst 0) 1 := by decide +kernel
theorem d2_51 : dc cB2 51 (.aload_n 1) 1 := by decide +kernel
theorem d2_52 : dc cB2 52 (.iconst 0) 1 := by decide +kernel
theorem d2_53 : dc cB2 53 .caload 1 := by decide +kernel
theorem d2_54 : dc cB2 54 .castore 1 := by decide +kernel
theorem d2_55 : dc cB2 55 .dup 1 := by decide +kernel
theorem d2_56 : dc cB2 56 (.iconst 1) 1 := by decide +kernel
theorem d2_57 : dc cB2 57 (.aload_n 1) 1 := by decide +kernel
theorem d2_58 : dc cB2 58 (.iconst 1) 1 := by decide +kernel
theorem d2_59 : dc cB2 59 .caload 1 := by decide +kernel
theorem d2_60 : dc cB2 60 .castore 1 := by decide +kernel
theorem d2_61 : dc cB2 61 (.invokespecial 9) 3 := by decide +kernel
theorem d2_64 : dc cB2 64 .areturn 1 := by decide +kernel
theorem d2_65 : dc cB2 65 (.iload_n 0) 1 := by decide +kernel
theorem d2_66 : dc cB2 66 (.iconst 3) 1 := by decide +kernel
theorem d2_67 : dc cB2 67 (.if_icmp .ne 32) 3 := by decide +kernel
theorem d2_70 : dc cB2 70 (.new 7) 3 := by decide +kernel
theorem d2_73 : dc cB2 73 .dup 1 := by decide +kernel
theorem d2_74 : dc cB2 74 (.iconst 3) 1 := by decide +kernel
theorem d2_75 : dc cB2 75 (.newarray .char) 2 := by decide +kernel
theorem d2_77 : dc cB2 77 .dup 1 := by decide +kernel
theorem d2_78 : dc cB2 78 (.iconst 0) 1 := by decide +kernel
theorem d2_79 : dc cB2 79 (.aload_n 1) 1 := by decide +kernel
theorem d2_80 : dc cB2 80 (.iconst 0) 1 := by decide +kernel
theorem d2_81 : dc cB2 81 .caload 1 := by decide +kernel
theorem d2_82 : dc cB2 82 .castore 1 := by decide +kernel
theorem d2_83 : dc cB2 83 .dup 1 := by decide +kernel
theorem d2_84 : dc cB2 84 (.iconst 1) 1 := by decide +kernel
theorem d2_85 : dc cB2 85 (.aload_n 1) 1 := by decide +kernel
theorem d2_86 : dc cB2 86 (.iconst 1) 1 := by decide +kernel
theorem d2_87 : dc cB2 87 .caload 1 := by decide +kernel
theorem d2_88 : dc cB2 88 .castore 1 := by decide +kernel
theorem d2_89 : dc cB2 89 .dup 1 := by decide +kernel
theorem d2_90 : dc cB2 90 (.iconst 2) 1 := by decide +kernel
theorem d2_91 : dc cB2 91 (.aload_n 1) 1 := by decide +kernel
theorem d2_92 : dc cB2 92 (.iconst 2) 1 := by decide +kernel
theorem d2_93 : dc cB2 93 .caload 1 := by decide +kernel
theorem d2_94 : dc cB2 94 .castore 1 := by decide +kernel
theorem d2_95 : dc cB2 95 (.invokespecial 9) 3 := by decide +kernel
theorem d2_98 : dc cB2 98 .areturn 1 := by decide +kernel
theorem d2_99 : dc cB2 99 (.new 7) 3 := by decide +kernel
theorem d2_102 : dc cB2 102 .dup 1 := by decide +kernel
theorem d2_103 : dc cB2 103 (.iconst 4) 1 := by decide +kernel
theorem d2_104 : dc cB2 104 (.newarray .char) 2 := by decide +kernel
theorem d2_106 : dc cB2 106 .dup 1 := by decide +kernel
theorem d2_107 : dc cB2 107 (.iconst 0) 1 := by decide +kernel
theorem d2_108 : dc cB2 108 (.aload_n 1) 1 := by decide +kernel
theorem d2_109 : dc cB2 109 (.iconst 0) 1 := by decide +kernel
theorem d2_110 : dc cB2 110 .caload 1 := by decide +kernel
theorem d2_111 : dc cB2 111 .castore 1 := by decide +kernel
theorem d2_112 : dc cB2 112 .dup 1 := by decide +kernel
theorem d2_113 : dc cB2 113 (.iconst 1) 1 := by decide +kernel
theorem d2_114 : dc cB2 114 (.aload_n 1) 1 := by decide +kernel
theorem d2_115 : dc cB2 115 (.iconst 1) 1 := by decide +kernel
theorem d2_116 : dc cB2 116 .caload 1 := by decide +kernel
theorem d2_117 : dc cB2 117 .castore 1 := by decide +kernel
theorem d2_118 : dc cB2 118 .dup 1 := by decide +kernel
theorem d2_119 : dc cB2 119 (.iconst 2) 1 := by decide +kernel
theorem d2_120 : dc cB2 120 (.aload_n 1) 1 := by decide +kernel
theorem d2_121 : dc cB2 121 (.iconst 2) 1 := by decide +kernel
theorem d2_122 : dc cB2 122 .caload 1 := by decide +kernel
theorem d2_123 : dc cB2 123 .castore 1 := by decide +kernel
theorem d2_124 : dc cB2 124 .dup 1 := by decide +kernel
theorem d2_125 : dc cB2 125 (.iconst 3) 1 := by decide +kernel
theorem d2_126 : dc cB2 126 (.aload_n 1) 1 := by decide +kernel
theorem d2_127 : dc cB2 127 (.iconst 3) 1 := by decide +kernel
theorem d2_128 : dc cB2 128 .caload 1 := by decide +kernel
theorem d2_129 : dc cB2 129 .castore 1 := by decide +kernel
theorem d2_130 : dc cB2 130 (.invokespecial 9) 3 := by decide +kernel
theorem d2_133 : dc cB2 133 .areturn 1 := by decide +kernel
def f2_n (p1 : Int32) : Int32 := (if p1 = (0 : Int32) then (0 : Int32) else (if p1 = (1 : Int32) then (1 : Int32) else (if p1 = (2 : Int32) then (2 : Int32) else (if p1 = (3 : Int32) then (3 : Int32) else (4 : Int32)))))
def f2_l (p1 : Int32) (v0 : Int32) (v1 : Int32) (v2 : Int32) (v3 : Int32) : List Int32 := (if p1 = (0 : Int32) then [] else (if p1 = (1 : Int32) then [(((v0.toUInt32.toUInt16.toUInt32.toInt32).toInt8.toInt32).toInt8.toInt32)] else (if p1 = (2 : Int32) then [(((v0.toUInt32.toUInt16.toUInt32.toInt32).toInt8.toInt32).toInt8.toInt32), (((v1.toUInt32.toUInt16.toUInt32.toInt32).toInt8.toInt32).toInt8.toInt32)] else (if p1 = (3 : Int32) then [(((v0.toUInt32.toUInt16.toUInt32.toInt32).toInt8.toInt32).toInt8.toInt32), (((v1.toUInt32.toUInt16.toUInt32.toInt32).toInt8.toInt32).toInt8.toInt32), (((v2.toUInt32.toUInt16.toUInt32.toInt32).toInt8.toInt32).toInt8.toInt32)] else [(((v0.toUInt32.toUInt16.toUInt32.toInt32).toInt8.toInt32).toInt8.toInt32), (((v1.toUInt32.toUInt16.toUInt32.toInt32).toInt8.toInt32).toInt8.toInt32), (((v2.toUInt32.toUInt16.toUInt32.toInt32).toInt8.toInt32).toInt8.toInt32), (((v3.toUInt32.toUInt16.toUInt32.toInt32).toInt8.toInt32).toInt8.toInt32)]))))
def Q2 (Z : State) (p1 : Int32) (a2 : Addr) (k_c : ClassId) (v0 : Int32) (v1 : Int32) (v2 : Int32) (v3 : Int32) (wC : Int32) (h0 : Heap) (n0 : Nat) (v : Option Value) (h : Heap) (L : List Loc) : Prop := ∃ z_2_l0 : Addr, ∃ z_2_l1 : Addr, ∃ k_z_2_l1 : ClassId, v = some (.ref z_2_l0) ∧ Fr n0 L ∧ Keep h0 h [] ∧ Exa Z h z_2_l0 SN ∧ Fld Z h z_2_l0 SN "value" "[B" (.ref z_2_l1) ∧ Fld Z h z_2_l0 SN "coder" "B" (.int (0 : Int32)) ∧ Arv Z h z_2_l1 k_z_2_l1 .byte (f2_n p1) (List.map Value.int (f2_l p1 v0 v1 v2 v3)) (.int (0 : Int32))
theorem ef2 (m : MethodId) (x0 : Int32) (x1 : Addr) : entryFrame m #[(.int x0), (.ref x1)] 2 = mkF m 0 #[.val (.int x0), .val (.ref x1)] [] := by first | (simp [entryFrame, mkF, argsToLocals, Value.category]; done) | rfl
theorem rm2 (l : Launch) (Z : State) (a0 : Array Value) (hw : HW a0 Z) (ws : List Jvm.Cond) (p1 : Int32) (a2 : Addr) (k_c : ClassId) (v0 : Int32) (v1 : Int32) (v2 : Int32) (v3 : Int32) (wC : Int32) (h0 : Heap) (n0 : Nat) (Z0 : n0 ≤ h0.size) (V_c : Arv Z h0 a2 k_c .char (4 : Int32) [(.int v0), (.int v1), (.int v2), (.int v3)] (.int (0 : Int32))) (SC : Sta Z h0 SN "COMPACT_STRINGS" "Z" (.int wC)) (hcs : ¬ wC = (0 : Int32)) (hv0 : 0 ≤ v0.toInt ∧ v0.toInt ≤ 255) (hv1 : 0 ≤ v1.toInt ∧ v1.toInt ≤ 255) (hv2 : 0 ≤ v2.toInt ∧ v2.toInt ≤ 255) (hv3 : 0 ≤ v3.toInt ∧ v3.toInt ≤ 255) :
  MetFree l y_44 (head1 (Cond.code y_44 cB2 2 (some (.object SN)) :: ws) (Rm 4 6 12 66)) (fun a U => a = #[(.int p1), (.ref a2)] ∧ Z.Warmed39 U.vm ∧ U.heap = h0 ∧ CHv Z consts_1 U.vm h0) (fun _ _ _ _ _ => True) (fun _ U o U' => ∃ v L, o = .returned v ∧ Q2 Z p1 a2 k_c v0 v1 v2 v3 wC h0 n0 v U'.heap L ∧ CHr Z consts_1 U.vm U.heap U'.vm U'.heap ∧ ReturnedEndW U o U' L (Rm 4 6 12 66).cells (Rm 4 6 12 66).slots) := by
 refine MetFree.of_bodySF (plainFor_of_name pn11) hisR ?_
 intro p e s m args below meth c s₁ Bd hml0 hP hK
 obtain ⟨rfl, hZ, hh, hC0⟩ := hP
 replace hZ : Z.Warmed39 (s.setVm s.vm).vm := hZ
 have hS : s.Since s.vm 0 := (State.WarmedH.refl s).since 0
 have hk : 0 ≤ h0.size := Nat.zero_le _
 have hCr : CHr Z consts_1 s.vm h0 s.vm h0 := CHr.refl hC0
 have hx := Bd.exec
 have D := @hb _ _ Bd.bytes
 have hml : c.maxLocals = 2 := hml0
 have hown : (s.setVm s.vm).vm.findClass LW = some m.cls := findClass_of_methodNamed Bd.named
 have hnm := (name_of_methodNamed Bd.named Bd.method).1
 have X0 : Stand p l e (Rm 4 6 12 66) (s.setVm s.vm) m #[(.int p1), (.ref a2)] below meth c s₁ [] 0 0 := Stand.of_body Bd
 have e0 : s₁.heap = h0 := by rw [← hh, Bd.state]; rfl
 have N0 := Fr.nil n0
 have K0 : Keep h0 h0 [] := Keep.refl h0 _
 refine G (P := fun o U' => ∃ v L, o = .returned v ∧ Q2 Z p1 a2 k_c v0 v1 v2 v3 wC h0 n0 v U'.heap L ∧ CHr Z consts_1 s.vm s.heap U'.vm U'.heap ∧ ReturnedEndW s o U' L (Rm 4 6 12 66).cells (Rm 4 6 12 66).slots) (fun t k => castTop (ef2 m p1 a2) k) ?_
 refine sG s₁ (mkF m 0 #[vi p1, vr a2] []) ?_
 refine G (fun t k => XS.iloadN X0.here hx rfl (D d2_0) rfl k) ?_
 by_cases hc1 : p1 = (0 : Int32)
 ·refine G (fun t k => XS.ifNo X0.here hx rfl (D d2_1) rfl ((if0 _ _).trans (teq hc1).2) k) ?_
  obtain ⟨T2, h2, X2, e2, E2, A2, D2, -, st2⟩ := newO X0 hx hZ hown (wd8 hw) (wd9 hw) (wd10 hw) e0 (g := (mkF m 4 #[vi p1, vr a2] [])) rfl (D d2_4) (by decide) (by decide)
  obtain ⟨b2, g2⟩ : ∃ z, z = h0.size := ⟨_, rfl⟩
  rw [← g2] at A2 D2 st2
  refine G st2 ?_
  have ne_a2_b2 : a2 ≠ b2 := Nat.ne_of_lt (Nat.lt_of_lt_of_le V_c.lt (Nat.le_of_eq g2.symm))
  have g_b2 : n0 ≤ b2 := Nat.le_trans Z0 (Nat.le_of_eq g2.symm)
  have sz_b2 : h0.size ≤ b2 := Nat.le_trans K0.1 (Nat.le_of_eq g2.symm)
  have Sf_b2 : Safe Z consts_1 s.vm h0 b2 := Safe.new (Nat.le_of_eq g2.symm)
  replace V_c := V_c.ext E2
  replace SC := SC.ext E2
  replace K0 := K0.ext E2
  replace Z0 := Nat.le_trans Z0 E2.1
  replace Sf_b2 := Safe.ext E2 hCr.1 Sf_b2
  replace hk := Nat.le_trans hk E2.1
  replace hCr := hCr.trans (CHr.ext E2 hCr.1)
  have E_b2 := A2
  have F_b2_v : Fld Z h2 b2 SN "value" "[B" .null := D2 (Or.inr (wd23 hw)) (ty := (.array .byte)) (by decide)
  have F_b2_c : Fld Z h2 b2 SN "coder" "B" (.int (0 : Int32)) := D2 (Or.inr (wd24 hw)) (ty := .byte) (by decide)
  refine G (fun t k => XS.dup X2.here hx rfl (D d2_7) rfl rfl (XS.iconst X2.here hx rfl (D d2_8) k)) ?_
  obtain ⟨T3, h3, k3, X3, e3, E3, A3, st3⟩ := newP X2 hx hZ (aty := .char) (wd0 hw) e2 (g := (mkF m 9 #[vi p1, vr a2] [(.int 0), (.ref b2), (.ref b2)])) rfl (D d2_9) rfl (by decide) (cap := 0) (by decide) (by decide) (by decide) (by decide)
  obtain ⟨b3, g3⟩ : ∃ z, z = h2.size := ⟨_, rfl⟩
  rw [← g3] at A3 st3
  refine G st3 ?_
  have ne_a2_b3 : a2 ≠ b3 := Nat.ne_of_lt (Nat.lt_of_lt_of_le V_c.lt (Nat.le_of_eq g3.symm))
  have ne_b2_b3 : b2 ≠ b3 := Nat.ne_of_lt (Nat.lt_of_lt_of_le E_b2.lt (Nat.le_of_eq g3.symm))
  have g_b3 : n0 ≤ b3 := Nat.le_trans Z0 (Nat.le_of_eq g3.symm)
  have sz_b3 : h0.size ≤ b3 := Nat.le_trans K0.1 (Nat.le_of_eq g3.symm)
  have Sf_b3 : Safe Z consts_1 s.vm h2 b3 := Safe.new (Nat.le_of_eq g3.symm)
  replace V_c := V_c.ext E3
  replace SC := SC.ext E3
  replace E_b2 := E_b2.ext E3
  replace F_b2_v := F_b2_v.ext E3
  replace F_b2_c := F_b2_c.ext E3
  replace K0 := K0.ext E3
  replace Z0 := Nat.le_trans Z0 E3.1
  replace Sf_b2 := Safe.ext E3 hCr.1 Sf_b2
  replace Sf_b3 := Safe.ext E3 hCr.1 Sf_b3
  replace hk := Nat.le_trans hk E3.1
  replace hCr := hCr.trans (CHr.ext E3 hCr.1)
  have V_b3 : Arv Z h3 b3 k3 .char (0 : Int32) [] (.int (0 : Int32)) := (Arv.new A3 (by decide)).pad (pad_rep [] (.int (0 : Int32)) 0)
  obtain ⟨_, _, ⟨T4, L4, k4, n4⟩, -, X4, hSi4, hgz4, ⟨Lc4, hQ4, l4, y4, z4, hC4⟩, st4⟩ := X3.specialBackS hx (y := y_4) rfl hown (mvT hZ (wd11 hw)) (mvT hZ (wd12 hw)) (mvT hZ (wd13 hw)) (by decide) (backOfSH (W := 1) (rmi1_0 l Z a0 hw [] b2 b3 k3 h3 n0 Z0 E_b2 F_b2_v F_b2_c V_b3 ne_b2_b3 g_b2) hZ (wd13 hw) (wd10 hw) (by decide) (by decide) (own_EL hw) hCr.1) (g := (mkF m 11 #[vi p1, vr a2] [(.ref b3), (.ref b2), (.ref b2)])) rfl (by rw [hml]; rfl) (Steps.refl _) (a := b2) (argsL := [(.ref b3)]) (rest := [(.ref b2)]) (lenOf pd24 rfl) rfl (by show 2 * 0 + _ ≤ _; exact Nat.le_of_eq rfl) (D d2_11) (fun _ _ => ⟨rfl, e3, (by decide : 2 + 4 ≤ _), (by decide : 4 + 8 ≤ _)⟩)
  dsimp only [Pt.U, Pt.locs, Pt.cells, Pt.slots] at X4 l4 y4 z4 st4 hQ4 hSi4 hgz4 hC4
  subst l4 y4 z4
  obtain ⟨X4, hS, hZ, hown⟩ := rebS hS (show _ ≤ T3.heap.size by rw [e3]; exact hk) X4 hSi4 hgz4 hZ hown
  have E_b2_pre := E_b2
  have F_b2_value_pre := F_b2_v
  have F_b2_coder_pre := F_b2_c
  obtain ⟨h4, e4⟩ : ∃ z, T4.heap = z := ⟨_, rfl⟩
  rw [e4] at hQ4
  obtain ⟨z_i1_0_l0_4, k_z_i1_0_l0_4, rfl, N4q, K4, Q4_0, Q4_1, Q4_2, Q4_3⟩ := hQ4
  refine Go.tr st4 ?_
  have lt_b2 := E_b2.lt
  have lt_b3 := V_b3.lt
  replace V_c := V_c.keep K4 (ninS ne_a2_b2 nin0)
  replace SC := sta_keep SC K4 (allS (exa_ns E_b2_pre) all0)
  replace E_b2 := E_b2.keep K4
  replace V_b3 := V_b3.keep K4 (ninS (Ne.symm ne_b2_b3) nin0)
  rw [e4] at hC4 hS
  have hk := Nat.le_refl h4.size
  replace Sf_b2 := CHr.safe hC4 lt_b2 Sf_b2
  replace Sf_b3 := CHr.safe hC4 lt_b3 Sf_b3
  replace hCr := hCr.trans hC4
  replace Z0 := Nat.le_trans Z0 K4.1
  replace K0 := K0.trans K4 (allS (Or.inr sz_b2) all0)
  clear E_b2_pre F_b2_value_pre F_b2_coder_pre
  have E_b2 := Q4_0
  have F_b2_v := Q4_1
  have F_b2_c := Q4_2
  have V_z_i1_0_l0_4 := Q4_3
  have ne_b2_z_i1_0_l0_4 : b2 ≠ z_i1_0_l0_4 := V_z_i1_0_l0_4.elim fun _ q => ne_arr E_b2 (wd9 hw) q.1
  have N4 := Fr.app N0 N4q
  refine sG T4 (mkF m 14 #[vi p1, vr a2] [(.ref b2)]) ?_
  exact lwR (Q := Q2 Z p1 a2 k_c v0 v1 v2 v3 wC h0 n0) Bd X4 e4 hS hk hh hCr hZ (own_EL hw) (D d2_14) rfl rfl rfl ⟨b2, z_i1_0_l0_4, k_z_i1_0_l0_4, rfl, N4, K0, E_b2, F_b2_v, F_b2_c, (by unfold f2_n f2_l; simp only [if_pos hc1]; exact V_z_i1_0_l0_4)⟩ (by decide) (by decide)
 ·refine G (fun t k => XS.ifYes X0.here hx rfl (pc0 := 1) (pc' := 15) rfl (D d2_1) rfl ((if0 _ _).trans (feq hc1).2) (by decide) (by decide) (XS.iloadN X0.here hx rfl (D d2_15) rfl (XS.iconst X0.here hx rfl (D d2_16) k))) ?_
  by_cases hc5 : p1 = (1 : Int32)
  ·refine G (fun t k => XS.icmpNo X0.here hx rfl (D d2_17) rfl (teq hc5).2 k) ?_
   obtain ⟨T6, h6, X6, e6, E6, A6, D6, -, st6⟩ := newO X0 hx hZ hown (wd8 hw) (wd9 hw) (wd10 hw) e0 (g := (mkF m 20 #[vi p1, vr a2] [])) rfl (D d2_20) (by decide) (by decide)
   obtain ⟨b6, g6⟩ : ∃ z, z = h0.size := ⟨_, rfl⟩
   rw [← g6] at A6 D6 st6
   refine G st6 ?_
   have ne_a2_b6 : a2 ≠ b6 := Nat.ne_of_lt (Nat.lt_of_lt_of_le V_c.lt (Nat.le_of_eq g6.symm))
   have g_b6 : n0 ≤ b6 := Nat.le_trans Z0 (Nat.le_of_eq g6.symm)
   have sz_b6 : h0.size ≤ b6 := Nat.le_trans K0.1 (Nat.le_of_eq g6.symm)
   have Sf_b6 : Safe Z consts_1 s.vm h0 b6 := Safe.new (Nat.le_of_eq g6.symm)
   replace V_c := V_c.ext E6
   replace SC := SC.ext E6
   replace K0 := K0.ext E6
   replace Z0 := Nat.le_trans Z0 E6.1
   replace Sf_b6 := Safe.ext E6 hCr.1 Sf_b6
   replace hk := Nat.le_trans hk E6.1
   replace hCr := hCr.trans (CHr.ext E6 hCr.1)
   have E_b6 := A6
   have F_b6_v : Fld Z h6 b6 SN "value" "[B" .null := D6 (Or.inr (wd23 hw)) (ty := (.array .byte)) (by decide)
   have F_b6_c : Fld Z h6 b6 SN "coder" "B" (.int (0 : Int32)) := D6 (Or.inr (wd24 hw)) (ty := .byte) (by decide)
   refine G (fun t k => XS.dup X6.here hx rfl (D d2_23) rfl rfl k) ?_
   refine sG T6 (mkF m 24 #[vi p1, vr a2] [(.ref b6), (.ref b6)]) ?_
   refine G (fun t k => XS.iconst X6.here hx rfl (D d2_24) k) ?_
   obtain ⟨T7, h7, k7, X7, e7, E7, A7, st7⟩ := newP X6 hx hZ (aty := .char) (wd0 hw) e6 (g := (mkF m 25 #[vi p1, vr a2] [(.int 1), (.ref b6), (.ref b6)])) rfl (D d2_25) rfl (by decide) (cap := 1) (by decide) (by decide) (by decide) (by decide)
   obtain ⟨b7, g7⟩ : ∃ z, z = h6.size := ⟨_, rfl⟩
   rw [← g7] at A7 st7
   refine G st7 ?_
   have ne_a2_b7 : a2 ≠ b7 := Nat.ne_of_lt (Nat.lt_of_lt_of_le V_c.lt (Nat.le_of_eq g7.symm))
   have ne_b6_b7 : b6 ≠ b7 := Nat.ne_of_lt (Nat.lt_of_lt_of_le E_b6.lt (Nat.le_of_eq g7.symm))
   have g_b7 : n0 ≤ b7 := Nat.le_trans Z0 (Nat.le_of_eq g7.symm)
   have sz_b7 : h0.size ≤ b7 := Nat.le_trans K0.1 (Nat.le_of_eq g7.symm)
   have Sf_b7 : Safe Z consts_1 s.vm h6 b7 := Safe.new (Nat.le_of_eq g7.symm)
   replace V_c := V_c.ext E7
   replace SC := SC.ext E7
   replace E_b6 := E_b6.ext E7
   replace F_b6_v := F_b6_v.ext E7
   replace F_b6_c := F_b6_c.ext E7
   replace K0 := K0.ext E7
   replace Z0 := Nat.le_trans Z0 E7.1
   replace Sf_b6 := Safe.ext E7 hCr.1 Sf_b6
   replace Sf_b7 := Safe.ext E7 hCr.1 Sf_b7
   replace hk := Nat.le_trans hk E7.1
   replace hCr := hCr.trans (CHr.ext E7 hCr.1)
   have V_b7 : Arv Z h7 b7 k7 .char (1 : Int32) [(.int (0 : Int32))] (.int (0 : Int32)) := (Arv.new A7 (by decide)).pad (pad_rep [] (.int (0 : Int32)) 1)
   refine G (fun t k => XS.dup X7.here hx rfl (D d2_27) rfl rfl (XS.iconst X7.here hx rfl (D d2_28) (XS.aloadN X7.here hx rfl (D d2_29) rfl rfl (XS.iconst X7.here hx rfl (D d2_30) k)))) ?_
   obtain ⟨cl8, Ar8, -, Sz8, Ng8, Hs8, -⟩ := id V_c
   have hin8 := inb_of (j := (0 : Int32)) (c := cl8) Sz8 ⟨by decide, by decide⟩
   refine G (fun t k => X7.caload hx (j := (0 : Int32)) (v := (.int v0)) (by rw [e7]; exact Ar8.1) (State.isArrayOf_alike hZ.alike Ar8.2.1) Ar8.2.2 hin8 (Has.at Hs8 hin8 rfl) (g := (mkF m 31 #[vi p1, vr a2] [(.int 0), (.ref a2), (.int 0), (.ref b7), (.ref b7), (.ref b6), (.ref b6)])) rfl rfl (D d2_31) _ k) ?_
   clear hin8 Hs8 Ng8 Sz8 Ar8 cl8
   refine sG T7 (mkF m 32 #[vi p1, vr a2] [(.int v0), (.int 0), (.ref b7), (.ref b7), (.ref b6), (.ref b6)]) ?_
   obtain ⟨cl9, Ar9, qq9, Sz9, Ng9, Hs9, Gs9⟩ := id V_b7
   have hin9 := inb_of (j := (0 : Int32)) (c := cl9) Sz9 ⟨by decide, by decide⟩
   obtain ⟨T10, h10, X10, e10, W10, st10⟩ := stC X7 hx hZ e7 Ar9 (j := (0 : Int32)) hin9 (g := (mkF m 32 #[vi p1, vr a2] [(.int v0), (.int 0), (.ref b7), (.ref b7), (.ref b6), (.ref b6)])) rfl rfl (D d2_32)
   refine G st10 ?_
   have N10 := Fr.snoc X10 N0 g_b7
   have hCo := hCr.1
   have Sfo := Sf_b7
   replace Sf_b6 := Safe.wr W10 Sfo hCo Sf_b6
   replace Sf_b7 := Safe.wr W10 Sfo hCo Sf_b7
   replace hk := Nat.le_trans hk (Nat.le_of_eq W10.size.symm)
   replace hCr := hCr.trans (CHr.wr W10 Sfo hCo)
   clear hCo Sfo
   replace V_c := V_c.other W10 ne_a2_b7
   replace SC := SC.wr W10
   replace E_b6 := E_b6.wr W10
   replace F_b6_v := F_b6_v.other W10 (Or.inl ne_b6_b7)
   replace F_b6_c := F_b6_c.other W10 (Or.inl ne_b6_b7)
   replace Z0 := Nat.le_trans Z0 (Nat.le_of_eq W10.size.symm)
   replace K0 := K0.wr W10 (Or.inr sz_b7)
   replace V_b7 : Arv Z h10 b7 k7 .char (1 : Int32) [(.int (v0.toUInt32.toUInt16.toUInt32.toInt32))] (.int (0 : Int32)) := Arv.set Ar9 qq9 Sz9 Ng9 Hs9 Gs9 (fits_nar_char _) W10 0 rfl (Nat.le_of_ble_eq_true rfl)
   clear hin9 Gs9 Hs9 Ng9 Sz9 qq9 Ar9 cl9
   obtain ⟨_, _, ⟨T11, L11, k11, n11⟩, -, X11, ⟨Lc11, hQ11, l11, y11, z11⟩, st11⟩ := X10.specialBack hx (y := y_4) rfl hown (mvT hZ (wd11 hw)) (mvT hZ (wd12 hw)) (mvT hZ (wd13 hw)) (by decide) (backOf (W := 1) (rmi1_1 l Z a0 hw [] b6 b7 k7 (v0.toUInt32.toUInt16.toUInt32.toInt32) wC h10 n0 Z0 E_b6 F_b6_v F_b6_c V_b7 SC (own_c255 hv0) hcs ne_b6_b7 g_b6) hZ (wd13 hw) (wd10 hw) (by decide) (by decide)) (g := (mkF m 33 #[vi p1, vr a2] [(.ref b7), (.ref b6), (.ref b6)])) rfl (by rw [hml]; rfl) (Steps.refl _) (a := b6) (argsL := [(.ref b7)]) (rest := [(.ref b6)]) (lenOf pd24 rfl) rfl (by show 2 * 0 + _ ≤ _; exact Nat.le_of_eq rfl) (D d2_33) (fun _ _ => ⟨rfl, e10, (by decide : 2 + 1 ≤ _), (by decide : 5 + 1 ≤ _)⟩)
   dsimp only [Pt.U, Pt.locs, Pt.cells, Pt.slots] at X11 l11 y11 z11 st11 hQ11
   subst l11 y11 z11
   have E_b6_pre := E_b6
   have F_b6_value_pre := F_b6_v
   have F_b6_coder_pre := F_b6_c
   obtain ⟨h11, e11⟩ : ∃ z, T11.heap = z := ⟨_, rfl⟩
   rw [e11] at hQ11
   obtain ⟨y11, k_y11, rfl, N11q, K11, ng_y11, sz0_y11, Q11_0, Q11_1, Q11_2, Q11_3⟩ := hQ11
   refine Go.tr st11 ?_
   have ne_a2_y11 : a2 ≠ y11 := Nat.ne_of_lt (Nat.lt_of_lt_of_le V_c.lt sz0_y11)
   have ne_b6_y11 : b6 ≠ y11 := Nat.ne_of_lt (Nat.lt_of_lt_of_le E_b6.lt sz0_y11)
   have ne_b7_y11 : b7 ≠ y11 := Nat.ne_of_lt (Nat.lt_of_lt_of_le V_b7.lt sz0_y11)
   have g_y11 : n0 ≤ y11 := ng_y11
   have sz_y11 : h0.size ≤ y11 := Nat.le_trans K0.1 sz0_y11
   replace V_c := V_c.keep K11 (ninS ne_a2_b6 nin0)
   replace SC := sta_keep SC K11 (allS (exa_ns E_b6_pre) all0)
   replace E_b6 := E_b6.keep K11
   replace V_b7 := V_b7.keep K11 (ninS (Ne.symm ne_b6_b7) nin0)
   have hCo := hCr.1
   have Sf_b6_o := Sf_b6
   replace Sf_b6 := Safe.keep K11 (allS Sf_b6_o all0) hCo Sf_b6
   replace Sf_b7 := Safe.keep K11 (allS Sf_b6_o all0) hCo Sf_b7
   replace hk := Nat.le_trans hk K11.1
   replace hCr := hCr.trans (CHr.keep K11 (allS Sf_b6_o all0) hCo)
   clear hCo Sf_b6_o
   replace Z0 := Nat.le_trans Z0 K11.1
   replace K0 := K0.trans K11 (allS (Or.inr sz_b6) all0)
   clear E_b6_pre F_b6_value_pre F_b6_coder_pre
   have E_b6 := Q11_0
   have F_b6_v := Q11_1
   have F_b6_c := Q11_2
   have V_y11 := Q11_3
   have N11 := Fr.app N10 N11q
   exact lwR (Q := Q2 Z p1 a2 k_c v0 v1 v2 v3 wC h0 n0) Bd X11 e11 hS hk hh hCr hZ (own_EL hw) (D d2_36) rfl rfl rfl ⟨b6, y11, k_y11, rfl, N11, K0, E_b6, F_b6_v, F_b6_c, (by unfold f2_n f2_l; simp only [if_neg hc1, if_pos hc5]; exact V_y11)⟩ (by decide) (by decide)
  ·refine G (fun t k => XS.icmpYes X0.here hx rfl (pc0 := 17) (pc' := 37) rfl (D d2_17) rfl (feq hc5).2 (by decide) (by decide) (XS.iloadN X0.here hx rfl (D d2_37) rfl (XS.iconst X0.here hx rfl (D d2_38) k))) ?_
   refine sG s₁ (mkF m 39 #[vi p1, vr a2] [(.int 2), (.int p1)]) ?_
   by_cases hc12 : p1 = (2 : Int32)
   ·refine G (fun t k => XS.icmpNo X0.here hx rfl (D d2_39) rfl (teq hc12).2 k) ?_
    obtain ⟨T13, h13, X13, e13, E13, A13, D13, -, st13⟩ := newO X0 hx hZ hown (wd8 hw) (wd9 hw) (wd10 hw) e0 (g := (mkF m 42 #[vi p1, vr a2] [])) rfl (D d2_42) (by decide) (by decide)
    obtain ⟨b13, g13⟩ : ∃ z, z = h0.size := ⟨_, rfl⟩
    rw [← g13] at A13 D13 st13
    refine G st13 ?_
    have ne_a2_b13 : a2 ≠ b13 := Nat.ne_of_lt (Nat.lt_of_lt_of_le V_c.lt (Nat.le_of_eq g13.symm))
    have g_b13 : n0 ≤ b13 := Nat.le_trans Z0 (Nat.le_of_eq g13.symm)
    have sz_b13 : h0.size ≤ b13 := Nat.le_trans K0.1 (Nat.le_of_eq g13.symm)
    have Sf_b13 : Safe Z consts_1 s.vm h0 b13 := Safe.new (Nat.le_of_eq g13.symm)
    replace V_c := V_c.ext E13
    replace SC := SC.ext E13
    replace K0 := K0.ext E13
    replace Z0 := Nat.le_trans Z0 E13.1
    replace Sf_b13 := Safe.ext E13 hCr.1 Sf_b13
    replace hk := Nat.le_trans hk E13.1
    replace hCr := hCr.trans (CHr.ext E13 hCr.1)
    have E_b13 := A13
    have F_b13_v : Fld Z h13 b13 SN "value" "[B" .null := D13 (Or.inr (wd23 hw)) (ty := (.array .byte)) (by decide)
    have F_b13_c : Fld Z h13 b13 SN "coder" "B" (.int (0 : Int32)) := D13 (Or.inr (wd24 hw)) (ty := .byte) (by decide)
    refine G (fun t k => XS.dup X13.here hx rfl (D d2_45) rfl rfl (XS.iconst X13.here hx rfl (D d2_46) k)) ?_
    obtain ⟨T14, h14, k14, X14, e14, E14, A14, st14⟩ := newP X13 hx hZ (aty := .char) (wd0 hw) e13 (g := (mkF m 47 #[vi p1, vr a2] [(.int 2), (.ref b13), (.ref b13)])) rfl (D d2_47) rfl (by decide) (cap := 2) (by decide) (by decide) (by decide) (by decide)
    obtain ⟨b14, g14⟩ : ∃ z, z = h13.size := ⟨_, rfl⟩
    rw [← g14] at A14 st14
    refine G st14 ?_
    have ne_a2_b14 : a2 ≠ b14 := Nat.ne_of_lt (Nat.lt_of_lt_of_le V_c.lt (Nat.le_of_eq g14.symm))
    have ne_b13_b14 : b13 ≠ b14 := Nat.ne_of_lt (Nat.lt_of_lt_of_le E_b13.lt (Nat.le_of_eq g14.symm))
    have g_b14 : n0 ≤ b14 := Nat.le_trans Z0 (Nat.le_of_eq g14.symm)
    have sz_b14 : h0.size ≤ b14 := Nat.le_trans K0.1 (Nat.le_of_eq g14.symm)
    have Sf_b14 : Safe Z consts_1 s.vm h13 b14 := Safe.new (Nat.le_of_eq g14.symm)
    replace V_c := V_c.ext E14
    replace SC := SC.ext E14
    replace E_b13 := E_b13.ext E14
    replace F_b13_v := F_b13_v.ext E14
    replace F_b13_c := F_b13_c.ext E14
    replace K0 := K0.ext E14
    replace Z0 := Nat.le_trans Z0 E14.1
    replace Sf_b13 := Safe.ext E14 hCr.1 Sf_b13
    replace Sf_b14 := Safe.ext E14 hCr.1 Sf_b14
    replace hk := Nat.le_trans hk E14.1
    replace hCr := hCr.trans (CHr.ext E14 hCr.1)
    have V_b14 : Arv Z h14 b14 k14 .char (2 : Int32) [(.int (0 : Int32)), (.int (0 : Int32))] (.int (0 : Int32)) := (Arv.new A14 (by decide)).pad (pad_rep [] (.int (0 : Int32)) 2)
    refine G (fun t k => XS.dup X14.here hx rfl (D d2_49) rfl rfl (XS.iconst X14.here hx rfl (D d2_50) k)) ?_
    refine sG T14 (mkF m 51 #[vi p1, vr a2] [(.int 0), (.ref b14), (.ref b14), (.ref b13), (.ref b13)]) ?_
    refine G (fun t k => XS.aloadN X14.here hx rfl (D d2_51) rfl rfl (XS.iconst X14.here hx rfl (D d2_52) k)) ?_
    obtain ⟨cl15, Ar15, -, Sz15, Ng15, Hs15, -⟩ := id V_c
    have hin15 := inb_of (j := (0 : Int32)) (c := cl15) Sz15 ⟨by decide, by decide⟩
    refine G (fun t k => X14.caload hx (j := (0 : Int32)) (v := (.int v0)) (by rw [e14]; exact Ar15.1) (State.isArrayOf_alike hZ.alike Ar15.2.1) Ar15.2.2 hin15 (Has.at Hs15 hin15 rfl) (g := (mkF m 53 #[vi p1, vr a2] [(.int 0), (.ref a2), (.int 0), (.ref b14), (.ref b14), (.ref b13), (.ref b13)])) rfl rfl (D d2_53) _ k) ?_
    clear hin15 Hs15 Ng15 Sz15 Ar15 cl15
    obtain ⟨cl16, Ar16, qq16, Sz16, Ng16, Hs16, Gs16⟩ := id V_b14
    have hin16 := inb_of (j := (0 : Int32)) (c := cl16) Sz16 ⟨by decide, by decide⟩
    obtain ⟨T17, h17, X17, e17, W17, st17⟩ := stC X14 hx hZ e14 Ar16 (j := (0 : Int32)) hin16 (g := (mkF m 54 #[vi p1, vr a2] [(.int v0), (.int 0), (.ref b14), (.ref b14), (.ref b13), (.ref b13)])) rfl rfl (D d2_54)
    refine G st17 ?_
    have N17 := Fr.snoc X17 N0 g_b14
    have hCo := hCr.1
    have Sfo := Sf_b14
    replace Sf_b13 := Safe.wr W17 Sfo hCo Sf_b13
    replace Sf_b14 := Safe.wr W17 Sfo hCo Sf_b14
    replace hk := Nat.le_trans hk (Nat.le_of_eq W17.size.symm)
    replace hCr := hCr.trans (CHr.wr W17 Sfo hCo)
    clear hCo Sfo
    replace V_c := V_c.other W17 ne_a2_b14
    replace SC := SC.wr W17
    replace E_b13 := E_b13.wr W17
    replace F_b13_v := F_b13_v.other W17 (Or.inl ne_b13_b14)
    replace F_b13_c := F_b13_c.other W17 (Or.inl ne_b13_b14)
    replace Z0 := Nat.le_trans Z0 (Nat.le_of_eq W17.size.symm)
    replace K0 := K0.wr W17 (Or.inr sz_b14)
    replace V_b14 : Arv Z h17 b14 k14 .char (2 : Int32) [(.int (v0.toUInt32.toUInt16.toUInt32.toInt32)), (.int (0 : Int32))] (.int (0 : Int32)) := Arv.set Ar16 qq16 Sz16 Ng16 Hs16 Gs16 (fits_nar_char _) W17 0 rfl (Nat.le_of_ble_eq_true rfl)
    clear hin16 Gs16 Hs16 Ng16 Sz16 qq16 Ar16 cl16
    refine G (fun t k => XS.dup X17.here hx rfl (D d2_55) rfl rfl (XS.iconst X17.here hx rfl (D d2_56) (XS.aloadN X17.here hx rfl (D d2_57) rfl rfl k))) ?_
    refine sG T17 (mkF m 58 #[vi p1, vr a2] [(.ref a2), (.int 1), (.ref b14), (.ref b14), (.ref b13), (.ref b13)]) ?_
    refine G (fun t k => XS.iconst X17.here hx rfl (D d2_58) k) ?_
    obtain ⟨cl18, Ar18, -, Sz18, Ng18, Hs18, -⟩ := id V_c
    have hin18 := inb_of (j := (1 : Int32)) (c := cl18) Sz18 ⟨by decide, by decide⟩
    refine G (fun t k => X17.caload hx (j := (1 : Int32)) (v := (.int v1)) (by rw [e17]; exact Ar18.1) (State.isArrayOf_alike hZ.alike Ar18.2.1) Ar18.2.2 hin18 (Has.at Hs18 hin18 rfl) (g := (mkF m 59 #[vi p1, vr a2] [(.int 1), (.ref a2), (.int 1), (.ref b14), (.ref b14), (.ref b13), (.ref b13)])) rfl rfl (D d2_59) _ k) ?_
    clear hin18 Hs18 Ng18 Sz18 Ar18 cl18
    obtain ⟨cl19, Ar19, qq19, Sz19, Ng19, Hs19, Gs19⟩ := id V_b14
    have hin19 := inb_of (j := (1 : Int32)) (c := cl19) Sz19 ⟨by decide, by decide⟩
    obtain ⟨T20, h20, X20, e20, W20, st20⟩ := stC X17 hx hZ e17 Ar19 (j := (1 : Int32)) hin19 (g := (mkF m 60 #[vi p1, vr a2] [(.int v1), (.int 1), (.ref b14), (.ref b14), (.ref b13), (.ref b13)])) rfl rfl (D d2_60)
    refine G st20 ?_
    have N20 := Fr.snoc X20 N17 g_b14
    have hCo := hCr.1
    have Sfo := Sf_b14
    replace Sf_b13 := Safe.wr W20 Sfo hCo Sf_b13
    replace Sf_b14 := Safe.wr W20 Sfo hCo Sf_b14
    replace hk := Nat.le_trans hk (Nat.le_of_eq W20.size.symm)
    replace hCr := hCr.trans (CHr.wr W20 Sfo hCo)
    clear hCo Sfo
    replace V_c := V_c.other W20 ne_a2_b14
    replace SC := SC.wr W20
    replace E_b13 := E_b13.wr W20
    replace F_b13_v := F_b13_v.other W20 (Or.inl ne_b13_b14)
    replace F_b13_c := F_b13_c.other W20 (Or.inl ne_b13_b14)
    replace Z0 := Nat.le_trans Z0 (Nat.le_of_eq W20.size.symm)
    replace K0 := K0.wr W20 (Or.inr sz_b14)
    replace V_b14 : Arv Z h20 b14 k14 .char (2 : Int32) [(.int (v0.toUInt32.toUInt16.toUInt32.toInt32)), (.int (v1.toUInt32.toUInt16.toUInt32.toInt32))] (.int (0 : Int32)) := Arv.set Ar19 qq19 Sz19 Ng19 Hs19 Gs19 (fits_nar_char _) W20 1 rfl (Nat.le_of_ble_eq_true rfl)
    clear hin19 Gs19 Hs19 Ng19 Sz19 qq19 Ar19 cl19
    obtain ⟨_, _, ⟨T21, L21, k21, n21⟩, -, X21, ⟨Lc21, hQ21, l21, y21, z21⟩, st21⟩ := X20.specialBack hx (y := y_4) rfl hown (mvT hZ (wd11 hw)) (mvT hZ (wd12 hw)) (mvT hZ (wd13 hw)) (by decide) (backOf (W := 1) (rmi1_2 l Z a0 hw [] b13 b14 k14 (v0.toUInt32.toUInt16.toUInt32.toInt32) (v1.toUInt32.toUInt16.toUInt32.toInt32) wC h20 n0 Z0 E_b13 F_b13_v F_b13_c V_b14 SC (own_c255 hv0) (own_c255 hv1) hcs ne_b13_b14 g_b13) hZ (wd13 hw) (wd10 hw) (by decide) (by decide)) (g := (mkF m 61 #[vi p1, vr a2] [(.ref b14), (.ref b13), (.ref b13)])) rfl (by rw [hml]; rfl) (Steps.refl _) (a := b13) (argsL := [(.ref b14)]) (rest := [(.ref b13)]) (lenOf pd24 rfl) rfl (by show 2 * 0 + _ ≤ _; exact Nat.le_of_eq rfl) (D d2_61) (fun _ _ => ⟨rfl, e20, (by decide : 2 + 1 ≤ _), (by decide : 6 + 2 ≤ _)⟩)
    dsimp only [Pt.U, Pt.locs, Pt.cells, Pt.slots] at X21 l21 y21 z21 st21 hQ21
    subst l21 y21 z21
    have E_b13_pre := E_b13
    have F_b13_value_pre := F_b13_v
    have F_b13_coder_pre := F_b13_c
    obtain ⟨h21, e21⟩ : ∃ z, T21.heap = z := ⟨_, rfl⟩
    rw [e21] at hQ21
    obtain ⟨y21, k_y21, rfl, N21q, K21, ng_y21, sz0_y21, Q21_0, Q21_1, Q21_2, Q21_3⟩ := hQ21
    refine Go.tr st21 ?_
    have ne_a2_y21 : a2 ≠ y21 := Nat.ne_of_lt (Nat.lt_of_lt_of_le V_c.lt sz0_y21)
    have ne_b13_y21 : b13 ≠ y21 := Nat.ne_of_lt (Nat.lt_of_lt_of_le E_b13.lt sz0_y21)
    have ne_b14_y21 : b14 ≠ y21 := Nat.ne_of_lt (Nat.lt_of_lt_of_le V_b14.lt sz0_y21)
    have g_y21 : n0 ≤ y21 := ng_y21
    have sz_y21 : h0.size ≤ y21 := Nat.le_trans K0.1 sz0_y21
    replace V_c := V_c.keep K21 (ninS ne_a2_b13 nin0)
    replace SC := sta_keep SC K21 (allS (exa_ns E_b13_pre) all0)
    replace E_b13 := E_b13.keep K21
    replace V_b14 := V_b14.keep K21 (ninS (Ne.symm ne_b13_b14) nin0)
    have hCo := hCr.1
    have Sf_b13_o := Sf_b13
    replace Sf_b13 := Safe.keep K21 (allS Sf_b13_o all0) hCo Sf_b13
    replace Sf_b14 := Safe.keep K21 (allS Sf_b13_o all0) hCo Sf_b14
    replace hk := Nat.le_trans hk K21.1
    replace hCr := hCr.trans (CHr.keep K21 (allS Sf_b13_o all0) hCo)
    clear hCo Sf_b13_o
    replace Z0 := Nat.le_trans Z0 K21.1
    replace K0 := K0.trans K21 (allS (Or.inr sz_b13) all0)
    clear E_b13_pre F_b13_value_pre F_b13_coder_pre
    have E_b13 := Q21_0
    have F_b13_v := Q21_1
    have F_b13_c := Q21_2
    have V_y21 := Q21_3
    have N21 := Fr.app N20 N21q
    exact lwR (Q := Q2 Z p1 a2 k_c v0 v1 v2 v3 wC h0 n0) Bd X21 e21 hS hk hh hCr hZ (own_EL hw) (D d2_64) rfl rfl rfl ⟨b13, y21, k_y21, rfl, N21, K0, E_b13, F_b13_v, F_b13_c, (by unfold f2_n f2_l; simp only [if_neg hc1, if_neg hc5, if_pos hc12]; exact V_y21)⟩ (by decide) (by decide)
   ·refine G (fun t k => XS.icmpYes X0.here hx rfl (pc0 := 39) (pc' := 65) rfl (D d2_39) rfl (feq hc12).2 (by decide) (by decide) (XS.iloadN X0.here hx rfl (D d2_65) rfl (XS.iconst X0.here hx rfl (D d2_66) k))) ?_
    by_cases hc22 : p1 = (3 : Int32)
    ·refine G (fun t k => XS.icmpNo X0.here hx rfl (D d2_67) rfl (teq hc22).2 k) ?_
     obtain ⟨T23, h23, X23, e23, E23, A23, D23, -, st23⟩ := newO X0 hx hZ hown (wd8 hw) (wd9 hw) (wd10 hw) e0 (g := (mkF m 70 #[vi p1, vr a2] [])) rfl (D d2_70) (by decide) (by decide)
     obtain ⟨b23, g23⟩ : ∃ z, z = h0.size := ⟨_, rfl⟩
     rw [← g23] at A23 D23 st23
     refine G st23 ?_
     have ne_a2_b23 : a2 ≠ b23 := Nat.ne_of_lt (Nat.lt_of_lt_of_le V_c.lt (Nat.le_of_eq g23.symm))
     have g_b23 : n0 ≤ b23 := Nat.le_trans Z0 (Nat.le_of_eq g23.symm)
     have sz_b23 : h0.size ≤ b23 := Nat.le_trans K0.1 (Nat.le_of_eq g23.symm)
     have Sf_b23 : Safe Z consts_1 s.vm h0 b23 := Safe.new (Nat.le_of_eq g23.symm)
     replace V_c := V_c.ext E23
     replace SC := SC.ext E23
     replace K0 := K0.ext E23
     replace Z0 := Nat.le_trans Z0 E23.1
     replace Sf_b23 := Safe.ext E23 hCr.1 Sf_b23
     replace hk := Nat.le_trans hk E23.1
     replace hCr := hCr.trans (CHr.ext E23 hCr.1)
     have E_b23 := A23
     have F_b23_v : Fld Z h23 b23 SN "value" "[B" .null := D23 (Or.inr (wd23 hw)) (ty := (.array .byte)) (by decide)
     have F_b23_c : Fld Z h23 b23 SN "coder" "B" (.int (0 : Int32)) := D23 (Or.inr (wd24 hw)) (ty := .byte) (by decide)
     refine G (fun t k => XS.dup X23.here hx rfl (D d2_73) rfl rfl (XS.iconst X23.here hx rfl (D d2_74) k)) ?_
     refine sG T23 (mkF m 75 #[vi p1, vr a2] [(.int 3), (.ref b23), (.ref b23)]) ?_
     obtain ⟨T24, h24, k24, X24, e24, E24, A24, st24⟩ := newP X23 hx hZ (aty := .char) (wd0 hw) e23 (g := (mkF m 75 #[vi p1, vr a2] [(.int 3), (.ref b23), (.ref b23)])) rfl (D d2_75) rfl (by decide) (cap := 3) (by decide) (by decide) (by decide) (by decide)
     obtain ⟨b24, g24⟩ : ∃ z, z = h23.size := ⟨_, rfl⟩
     rw [← g24] at A24 st24
     refine G st24 ?_
     have ne_a2_b24 : a2 ≠ b24 := Nat.ne_of_lt (Nat.lt_of_lt_of_le V_c.lt (Nat.le_of_eq g24.symm))
     have ne_b23_b24 : b23 ≠ b24 := Nat.ne_of_lt (Nat.lt_of_lt_of_le E_b23.lt (Nat.le_of_eq g24.symm))
     have g_b24 : n0 ≤ b24 := Nat.le_trans Z0 (Nat.le_of_eq g24.symm)
     have sz_b24 : h0.size ≤ b24 := Nat.le_trans K0.1 (Nat.le_of_eq g24.symm)
     have Sf_b24 : Safe Z consts_1 s.vm h23 b24 := Safe.new (Nat.le_of_eq g24.symm)
     replace V_c := V_c.ext E24
     replace SC := SC.ext E24
     replace E_b23 := E_b23.ext E24
     replace F_b23_v := F_b23_v.ext E24
     replace F_b23_c := F_b23_c.ext E24
     replace K0 := K0.ext E24
     replace Z0 := Nat.le_trans Z0 E24.1
     replace Sf_b23 := Safe.ext E24 hCr.1 Sf_b23
     replace Sf_b24 := Safe.ext E24 hCr.1 Sf_b24
     replace hk := Nat.le_trans hk E24.1
     replace hCr := hCr.trans (CHr.ext E24 hCr.1)
     have V_b24 : Arv Z h24 b24 k24 .char (3 : Int32) [(.int (0 : Int32)), (.int (0 : Int32)), (.int (0 : Int32))] (.int (0 : Int32)) := (Arv.new A24 (by decide)).pad (pad_rep [] (.int (0 : Int32)) 3)
     refine G (fun t k => XS.dup X24.here hx rfl (D d2_77) rfl rfl (XS.iconst X24.here hx rfl (D d2_78) (XS.aloadN X24.here hx rfl (D d2_79) rfl rfl (XS.iconst X24.here hx rfl (D d2_80) k)))) ?_
     obtain ⟨cl25, Ar25, -, Sz25, Ng25, Hs25, -⟩ := id V_c
     have hin25 := inb_of (j := (0 : Int32)) (c := cl25) Sz25 ⟨by decide, by decide⟩
     refine G (fun t k => X24.caload hx (j := (0 : Int32)) (v := (.int v0)) (by rw [e24]; exact Ar25.1) (State.isArrayOf_alike hZ.alike Ar25.2.1) Ar25.2.2 hin25 (Has.at Hs25 hin25 rfl) (g := (mkF m 81 #[vi p1, vr a2] [(.int 0), (.ref a2), (.int 0), (.ref b24), (.ref b24), (.ref b23), (.ref b23)])) rfl rfl (D d2_81) _ k) ?_
     clear hin25 Hs25 Ng25 Sz25 Ar25 cl25
     obtain ⟨cl26, Ar26, qq26, Sz26, Ng26, Hs26, Gs26⟩ := id V_b24
     have hin26 := inb_of (j := (0 : Int32)) (c := cl26) Sz26 ⟨by decide, by decide⟩
     obtain ⟨T27, h27, X27, e27, W27, st27⟩ := stC X24 hx hZ e24 Ar26 (j := (0 : Int32)) hin26 (g := (mkF m 82 #[vi p1, vr a2] [(.int v0), (.int 0), (.ref b24), (.ref b24), (.ref b23), (.ref b23)])) rfl rfl (D d2_82)
     refine G st27 ?_
     have N27 := Fr.snoc X27 N0 g_b24
     have hCo := hCr.1
     have Sfo := Sf_b24
     replace Sf_b23 := Safe.wr W27 Sfo hCo Sf_b23
     replace Sf_b24 := Safe.wr W27 Sfo hCo Sf_b24
     replace hk := Nat.le_trans hk (Nat.le_of_eq W27.size.symm)
     replace hCr := hCr.trans (CHr.wr W27 Sfo hCo)
     clear hCo Sfo
     replace V_c := V_c.other W27 ne_a2_b24
     replace SC := SC.wr W27
     replace E_b23 := E_b23.wr W27
     replace F_b23_v := F_b23_v.other W27 (Or.inl ne_b23_b24)
     replace F_b23_c := F_b23_c.other W27 (Or.inl ne_b23_b24)
     replace Z0 := Nat.le_trans Z0 (Nat.le_of_eq W27.size.symm)
     replace K0 := K0.wr W27 (Or.inr sz_b24)
     replace V_b24 : Arv Z h27 b24 k24 .char (3 : Int32) [(.int (v0.toUInt32.toUInt16.toUInt32.toInt32)), (.int (0 : Int32)), (.int (0 : Int32))] (.int (0 : Int32)) := Arv.set Ar26 qq26 Sz26 Ng26 Hs26 Gs26 (fits_nar_char _) W27 0 rfl (Nat.le_of_ble_eq_true rfl)
     clear hin26 Gs26 Hs26 Ng26 Sz26 qq26 Ar26 cl26
     refine sG T27 (mkF m 83 #[vi p1, vr a2] [(.ref b24), (.ref b23), (.ref b23)]) ?_
     refine G (fun t k => XS.dup X27.here hx rfl (D d2_83) rfl rfl (XS.iconst X27.here hx rfl (D d2_84) (XS.aloadN X27.here hx rfl (D d2_85) rfl rfl (XS.iconst X27.here hx rfl (D d2_86) k)))) ?_
     obtain ⟨cl28, Ar28, -, Sz28, Ng28, Hs28, -⟩ := id V_c
     have hin28 := inb_of (j := (1 : Int32)) (c := cl28) Sz28 ⟨by decide, by decide⟩
     refine G (fun t k => X27.caload hx (j := (1 : Int32)) (v := (.int v1)) (by rw [e27]; exact Ar28.1) (State.isArrayOf_alike hZ.alike Ar28.2.1) Ar28.2.2 hin28 (Has.at Hs28 hin28 rfl) (g := (mkF m 87 #[vi p1, vr a2] [(.int 1), (.ref a2), (.int 1), (.ref b24), (.ref b24), (.ref b23), (.ref b23)])) rfl rfl (D d2_87) _ k) ?_
     clear hin28 Hs28 Ng28 Sz28 Ar28 cl28
     obtain ⟨cl29, Ar29, qq29, Sz29, Ng29, Hs29, Gs29⟩ := id V_b24
     have hin29 := inb_of (j := (1 : Int32)) (c := cl29) Sz29 ⟨by decide, by decide⟩
     obtain ⟨T30, h30, X30, e30, W30, st30⟩ := stC X27 hx hZ e27 Ar29 (j := (1 : Int32)) hin29 (g := (mkF m 88 #[vi p1, vr a2] [(.int v1), (.int 1), (.ref b24), (.ref b24), (.ref b23), (.ref b23)])) rfl rfl (D d2_88)
     refine G st30 ?_
     have N30 := Fr.snoc X30 N27 g_b24
     have hCo := hCr.1
     have Sfo := Sf_b24
     replace Sf_b23 := Safe.wr W30 Sfo hCo Sf_b23
     replace Sf_b24 := Safe.wr W30 Sfo hCo Sf_b24
     replace hk := Nat.le_trans hk (Nat.le_of_eq W30.size.symm)
     replace hCr := hCr.trans (CHr.wr W30 Sfo hCo)
     clear hCo Sfo
     replace V_c := V_c.other W30 ne_a2_b24
     replace SC := SC.wr W30
     replace E_b23 := E_b23.wr W30
     replace F_b23_v := F_b23_v.other W30 (Or.inl ne_b23_b24)
     replace F_b23_c := F_b23_c.other W30 (Or.inl ne_b23_b24)
     replace Z0 := Nat.le_trans Z0 (Nat.le_of_eq W30.size.symm)
     replace K0 := K0.wr W30 (Or.inr sz_b24)
     replace V_b24 : Arv Z h30 b24 k24 .char (3 : Int32) [(.int (v0.toUInt32.toUInt16.toUInt32.toInt32)), (.int (v1.toUInt32.toUInt16.toUInt32.toInt32)), (.int (0 : Int32))] (.int (0 : Int32)) := Arv.set Ar29 qq29 Sz29 Ng29 Hs29 Gs29 (fits_nar_char _) W30 1 rfl (Nat.le_of_ble_eq_true rfl)
     clear hin29 Gs29 Hs29 Ng29 Sz29 qq29 Ar29 cl29
     refine G (fun t k => XS.dup X30.here hx rfl (D d2_89) rfl rfl k) ?_
     refine sG T30 (mkF m 90 #[vi p1, vr a2] [(.ref b24), (.ref b24), (.ref b23), (.ref b23)]) ?_
     refine G (fun t k => XS.iconst X30.here hx rfl (D d2_90) (XS.aloadN X30.here hx rfl (D d2_91) rfl rfl (XS.iconst X30.here hx rfl (D d2_92) k))) ?_
     obtain ⟨cl31, Ar31, -, Sz31, Ng31, Hs31, -⟩ := id V_c
     have hin31 := inb_of (j := (2 : Int32)) (c := cl31) Sz31 ⟨by decide, by decide⟩
     refine G (fun t k => X30.caload hx (j := (2 : Int32)) (v := (.int v2)) (by rw [e30]; exact Ar31.1) (State.isArrayOf_alike hZ.alike Ar31.2.1) Ar31.2.2 hin31 (Has.at Hs31 hin31 rfl) (g := (mkF m 93 #[vi p1, vr a2] [(.int 2), (.ref a2), (.int 2), (.ref b24), (.ref b24), (.ref b23), (.ref b23)])) rfl rfl (D d2_93) _ k) ?_
     clear hin31 Hs31 Ng31 Sz31 Ar31 cl31
     obtain ⟨cl32, Ar32, qq32, Sz32, Ng32, Hs32, Gs32⟩ := id V_b24
     have hin32 := inb_of (j := (2 : Int32)) (c := cl32) Sz32 ⟨by decide, by decide⟩
     obtain ⟨T33, h33, X33, e33, W33, st33⟩ := stC X30 hx hZ e30 Ar32 (j := (2 : Int32)) hin32 (g := (mkF m 94 #[vi p1, vr a2] [(.int v2), (.int 2), (.ref b24), (.ref b24), (.ref b23), (.ref b23)])) rfl rfl (D d2_94)
     refine G st33 ?_
     have N33 := Fr.snoc X33 N30 g_b24
     have hCo := hCr.1
     have Sfo := Sf_b24
     replace Sf_b23 := Safe.wr W33 Sfo hCo Sf_b23
     replace Sf_b24 := Safe.wr W33 Sfo hCo Sf_b24
     replace hk := Nat.le_trans hk (Nat.le_of_eq W33.size.symm)
     replace hCr := hCr.trans (CHr.wr W33 Sfo hCo)
     clear hCo Sfo
     replace V_c := V_c.other W33 ne_a2_b24
     replace SC := SC.wr W33
     replace E_b23 := E_b23.wr W33
     replace F_b23_v := F_b23_v.other W33 (Or.inl ne_b23_b24)
     replace F_b23_c := F_b23_c.other W33 (Or.inl ne_b23_b24)
     replace Z0 := Nat.le_trans Z0 (Nat.le_of_eq W33.size.symm)
     replace K0 := K0.wr W33 (Or.inr sz_b24)
     replace V_b24 : Arv Z h33 b24 k24 .char (3 : Int32) [(.int (v0.toUInt32.toUInt16.toUInt32.toInt32)), (.int (v1.toUInt32.toUInt16.toUInt32.toInt32)), (.int (v2.toUInt32.toUInt16.toUInt32.toInt32))] (.int (0 : Int32)) := Arv.set Ar32 qq32 Sz32 Ng32 Hs32 Gs32 (fits_nar_char _) W33 2 rfl (Nat.le_of_ble_eq_true rfl)
     clear hin32 Gs32 Hs32 Ng32 Sz32 qq32 Ar32 cl32
     obtain ⟨_, _, ⟨T34, L34, k34, n34⟩, -, X34, ⟨Lc34, hQ34, l34, y34, z34⟩, st34⟩ := X33.specialBack hx (y := y_4) rfl hown (mvT hZ (wd11 hw)) (mvT hZ (wd12 hw)) (mvT hZ (wd13 hw)) (by decide) (backOf (W := 1) (rmi1_3 l Z a0 hw [] b23 b24 k24 (v0.toUInt32.toUInt16.toUInt32.toInt32) (v1.toUInt32.toUInt16.toUInt32.toInt32) (v2.toUInt32.toUInt16.toUInt32.toInt32) wC h33 n0 Z0 E_b23 F_b23_v F_b23_c V_b24 SC (own_c255 hv0) (own_c255 hv1) (own_c255 hv2) hcs ne_b23_b24 g_b23) hZ (wd13 hw) (wd10 hw) (by decide) (by decide)) (g := (mkF m 95 #[vi p1, vr a2] [(.ref b24), (.ref b23), (.ref b23)])) rfl (by rw [hml]; rfl) (Steps.refl _) (a := b23) (argsL := [(.ref b24)]) (rest := [(.ref b23)]) (lenOf pd24 rfl) rfl (by show 2 * 0 + _ ≤ _; exact Nat.le_of_eq rfl) (D d2_95) (fun _ _ => ⟨rfl, e33, (by decide : 2 + 1 ≤ _), (by decide : 7 + 3 ≤ _)⟩)
     dsimp only [Pt.U, Pt.locs, Pt.cells, Pt.slots] at X34 l34 y34 z34 st34 hQ34
     subst l34 y34 z34
     have E_b23_pre := E_b23
     have F_b23_value_pre := F_b23_v
     have F_b23_coder_pre := F_b23_c
     obtain ⟨h34, e34⟩ : ∃ z, T34.heap = z := ⟨_, rfl⟩
     rw [e34] at hQ34
     obtain ⟨y34, k_y34, rfl, N34q, K34, ng_y34, sz0_y34, Q34_0, Q34_1, Q34_2, Q34_3⟩ := hQ34
     refine Go.tr st34 ?_
     have ne_a2_y34 : a2 ≠ y34 := Nat.ne_of_lt (Nat.lt_of_lt_of_le V_c.lt sz0_y34)
     have ne_b23_y34 : b23 ≠ y34 := Nat.ne_of_lt (Nat.lt_of_lt_of_le E_b23.lt sz0_y34)
     have ne_b24_y34 : b24 ≠ y34 := Nat.ne_of_lt (Nat.lt_of_lt_of_le V_b24.lt sz0_y34)
     have g_y34 : n0 ≤ y34 := ng_y34
     have sz_y34 : h0.size ≤ y34 := Nat.le_trans K0.1 sz0_y34
     replace V_c := V_c.keep K34 (ninS ne_a2_b23 nin0)
     replace SC := sta_keep SC K34 (allS (exa_ns E_b23_pre) all0)
     replace E_b23 := E_b23.keep K34
     replace V_b24 := V_b24.keep K34 (ninS (Ne.symm ne_b23_b24) nin0)
     have hCo := hCr.1
     have Sf_b23_o := Sf_b23
     replace Sf_b23 := Safe.keep K34 (allS Sf_b23_o all0) hCo Sf_b23
     replace Sf_b24 := Safe.keep K34 (allS Sf_b23_o all0) hCo Sf_b24
     replace hk := Nat.le_trans hk K34.1
     replace hCr := hCr.trans (CHr.keep K34 (allS Sf_b23_o all0) hCo)
     clear hCo Sf_b23_o
     replace Z0 := Nat.le_trans Z0 K34.1
     replace K0 := K0.trans K34 (allS (Or.inr sz_b23) all0)
     clear E_b23_pre F_b23_value_pre F_b23_coder_pre
     have E_b23 := Q34_0
     have F_b23_v := Q34_1
     have F_b23_c := Q34_2
     have V_y34 := Q34_3
     have N34 := Fr.app N33 N34q
     obtain ⟨LL34, X34, N34⟩ : ∃ LL, Stand p l e (Rm 4 6 12 66) (s.setVm s.vm) m #[(.int p1), (.ref a2)] below meth c T34 LL 3 10 ∧ Fr n0 LL := ⟨_, X34, N34⟩
     exact lwR (Q := Q2 Z p1 a2 k_c v0 v1 v2 v3 wC h0 n0) Bd X34 e34 hS hk hh hCr hZ (own_EL hw) (D d2_98) rfl rfl rfl ⟨b23, y34, k_y34, rfl, N34, K0, E_b23, F_b23_v, F_b23_c, (by unfold f2_n f2_l; simp only [if_neg hc1, if_neg hc5, if_neg hc12, if_pos hc22]; exact V_y34)⟩ (by decide) (by decide)
    ·refine G (fun t k => XS.icmpYes X0.here hx rfl (pc0 := 67) (pc' := 99) rfl (D d2_67) rfl (feq hc22).2 (by decide) (by decide) k) ?_
     obtain ⟨T35, h35, X35, e35, E35, A35, D35, -, st35⟩ := newO X0 hx hZ hown (wd8 hw) (wd9 hw) (wd10 hw) e0 (g := (mkF m 99 #[vi p1, vr a2] [])) rfl (D d2_99) (by decide) (by decide)
     obtain ⟨b35, g35⟩ : ∃ z, z = h0.size := ⟨_, rfl⟩
     rw [← g35] at A35 D35 st35
     refine G st35 ?_
     have ne_a2_b35 : a2 ≠ b35 := Nat.ne_of_lt (Nat.lt_of_lt_of_le V_c.lt (Nat.le_of_eq g35.symm))
     have g_b35 : n0 ≤ b35 := Nat.le_trans Z0 (Nat.le_of_eq g35.symm)
     have sz_b35 : h0.size ≤ b35 := Nat.le_trans K0.1 (Nat.le_of_eq g35.symm)
     have Sf_b35 : Safe Z consts_1 s.vm h0 b35 := Safe.new (Nat.le_of_eq g35.symm)
     replace V_c := V_c.ext E35
     replace SC := SC.ext E35
     replace K0 := K0.ext E35
     replace Z0 := Nat.le_trans Z0 E35.1
     replace Sf_b35 := Safe.ext E35 hCr.1 Sf_b35
     replace hk := Nat.le_trans hk E35.1
     replace hCr := hCr.trans (CHr.ext E35 hCr.1)
     have E_b35 := A35
     have F_b35_v : Fld Z h35 b35 SN "value" "[B" .null := D35 (Or.inr (wd23 hw)) (ty := (.array .byte)) (by decide)
     have F_b35_c : Fld Z h35 b35 SN "coder" "B" (.int (0 : Int32)) := D35 (Or.inr (wd24 hw)) (ty := .byte) (by decide)
     refine G (fun t k => XS.dup X35.here hx rfl (D d2_102) rfl rfl (XS.iconst X35.here hx rfl (D d2_103) k)) ?_
     refine sG T35 (mkF m 104 #[vi p1, vr a2] [(.int 4), (.ref b35), (.ref b35)]) ?_
     obtain ⟨T36, h36, k36, X36, e36, E36, A36, st36⟩ := newP X35 hx hZ (aty := .char) (wd0 hw) e35 (g := (mkF m 104 #[vi p1, vr a2] [(.int 4), (.ref b35), (.ref b35)])) rfl (D d2_104) rfl (by decide) (cap := 4) (by decide) (by decide) (by decide) (by decide)
     obtain ⟨b36, g36⟩ : ∃ z, z = h35.size := ⟨_, rfl⟩
     rw [← g36] at A36 st36
     refine G st36 ?_
     have ne_a2_b36 : a2 ≠ b36 := Nat.ne_of_lt (Nat.lt_of_lt_of_le V_c.lt (Nat.le_of_eq g36.symm))
     have ne_b35_b36 : b35 ≠ b36 := Nat.ne_of_lt (Nat.lt_of_lt_of_le E_b35.lt (Nat.le_of_eq g36.symm))
     have g_b36 : n0 ≤ b36 := Nat.le_trans Z0 (Nat.le_of_eq g36.symm)
     have sz_b36 : h0.size ≤ b36 := Nat.le_trans K0.1 (Nat.le_of_eq g36.symm)
     have Sf_b36 : Safe Z consts_1 s.vm h35 b36 := Safe.new (Nat.le_of_eq g36.symm)
     replace V_c := V_c.ext E36
     replace SC := SC.ext E36
     replace E_b35 := E_b35.ext E36
     replace F_b35_v := F_b35_v.ext E36
     replace F_b35_c := F_b35_c.ext E36
     replace K0 := K0.ext E36
     replace Z0 := Nat.le_trans Z0 E36.1
     replace Sf_b35 := Safe.ext E36 hCr.1 Sf_b35
     replace Sf_b36 := Safe.ext E36 hCr.1 Sf_b36
     replace hk := Nat.le_trans hk E36.1
     replace hCr := hCr.trans (CHr.ext E36 hCr.1)
     have V_b36 : Arv Z h36 b36 k36 .char (4 : Int32) [(.int (0 : Int32)), (.int (0 : Int32)), (.int (0 : Int32)), (.int (0 : Int32))] (.int (0 : Int32)) := (Arv.new A36 (by decide)).pad (pad_rep [] (.int (0 : Int32)) 4)
     refine G (fun t k => XS.dup X36.here hx rfl (D d2_106) rfl rfl (XS.iconst X36.here hx rfl (D d2_107) (XS.aloadN X36.here hx rfl (D d2_108) rfl rfl (XS.iconst X36.here hx rfl (D d2_109) k)))) ?_
     obtain ⟨cl37, Ar37, -, Sz37, Ng37, Hs37, -⟩ := id V_c
     have hin37 := inb_of (j := (0 : Int32)) (c := cl37) Sz37 ⟨by decide, by decide⟩
     refine G (fun t k => X36.caload hx (j := (0 : Int32)) (v := (.int v0)) (by rw [e36]; exact Ar37.1) (State.isArrayOf_alike hZ.alike Ar37.2.1) Ar37.2.2 hin37 (Has.at Hs37 hin37 rfl) (g := (mkF m 110 #[vi p1, vr a2] [(.int 0), (.ref a2), (.int 0), (.ref b36), (.ref b36), (.ref b35), (.ref b35)])) rfl rfl (D d2_110) _ k) ?_
     clear hin37 Hs37 Ng37 Sz37 Ar37 cl37
     obtain ⟨cl38, Ar38, qq38, Sz38, Ng38, Hs38, Gs38⟩ := id V_b36
     have hin38 := inb_of (j := (0 : Int32)) (c := cl38) Sz38 ⟨by decide, by decide⟩
     obtain ⟨T39, h39, X39, e39, W39, st39⟩ := stC X36 hx hZ e36 Ar38 (j := (0 : Int32)) hin38 (g := (mkF m 111 #[vi p1, vr a2] [(.int v0), (.int 0), (.ref b36), (.ref b36), (.ref b35), (.ref b35)])) rfl rfl (D d2_111)
     refine G st39 ?_
     have N39 := Fr.snoc X39 N0 g_b36
     have hCo := hCr.1
     have Sfo := Sf_b36
     replace Sf_b35 := Safe.wr W39 Sfo hCo Sf_b35
     replace Sf_b36 := Safe.wr W39 Sfo hCo Sf_b36
     replace hk := Nat.le_trans hk (Nat.le_of_eq W39.size.symm)
     replace hCr := hCr.trans (CHr.wr W39 Sfo hCo)
     clear hCo Sfo
     replace V_c := V_c.other W39 ne_a2_b36
     replace SC := SC.wr W39
     replace E_b35 := E_b35.wr W39
     replace F_b35_v := F_b35_v.other W39 (Or.inl ne_b35_b36)
     replace F_b35_c := F_b35_c.other W39 (Or.inl ne_b35_b36)
     replace Z0 := Nat.le_trans Z0 (Nat.le_of_eq W39.size.symm)
     replace K0 := K0.wr W39 (Or.inr sz_b36)
     replace V_b36 : Arv Z h39 b36 k36 .char (4 : Int32) [(.int (v0.toUInt32.toUInt16.toUInt32.toInt32)), (.int (0 : Int32)), (.int (0 : Int32)), (.int (0 : Int32))] (.int (0 : Int32)) := Arv.set Ar38 qq38 Sz38 Ng38 Hs38 Gs38 (fits_nar_char _) W39 0 rfl (Nat.le_of_ble_eq_true rfl)
     clear hin38 Gs38 Hs38 Ng38 Sz38 qq38 Ar38 cl38
     refine sG T39 (mkF m 112 #[vi p1, vr a2] [(.ref b36), (.ref b35), (.ref b35)]) ?_
     refine G (fun t k => XS.dup X39.here hx rfl (D d2_112) rfl rfl (XS.iconst X39.here hx rfl (D d2_113) (XS.aloadN X39.here hx rfl (D d2_114) rfl rfl (XS.iconst X39.here hx rfl (D d2_115) k)))) ?_
     obtain ⟨cl40, Ar40, -, Sz40, Ng40, Hs40, -⟩ := id V_c
     have hin40 := inb_of (j := (1 : Int32)) (c := cl40) Sz40 ⟨by decide, by decide⟩
     refine G (fun t k => X39.caload hx (j := (1 : Int32)) (v := (.int v1)) (by rw [e39]; exact Ar40.1) (State.isArrayOf_alike hZ.alike Ar40.2.1) Ar40.2.2 hin40 (Has.at Hs40 hin40 rfl) (g := (mkF m 116 #[vi p1, vr a2] [(.int 1), (.ref a2), (.int 1), (.ref b36), (.ref b36), (.ref b35), (.ref b35)])) rfl rfl (D d2_116) _ k) ?_
     clear hin40 Hs40 Ng40 Sz40 Ar40 cl40
     obtain ⟨cl41, Ar41, qq41, Sz41, Ng41, Hs41, Gs41⟩ := id V_b36
     have hin41 := inb_of (j := (1 : Int32)) (c := cl41) Sz41 ⟨by decide, by decide⟩
     obtain ⟨T42, h42, X42, e42, W42, st42⟩ := stC X39 hx hZ e39 Ar41 (j := (1 : Int32)) hin41 (g := (mkF m 117 #[vi p1, vr a2] [(.int v1), (.int 1), (.ref b36), (.ref b36), (.ref b35), (.ref b35)])) rfl rfl (D d2_117)
     refine G st42 ?_
     have N42 := Fr.snoc X42 N39 g_b36
     have hCo := hCr.1
     have Sfo := Sf_b36
     replace Sf_b35 := Safe.wr W42 Sfo hCo Sf_b35
     replace Sf_b36 := Safe.wr W42 Sfo hCo Sf_b36
     replace hk := Nat.le_trans hk (Nat.le_of_eq W42.size.symm)
     replace hCr := hCr.trans (CHr.wr W42 Sfo hCo)
     clear hCo Sfo
     replace V_c := V_c.other W42 ne_a2_b36
     replace SC := SC.wr W42
     replace E_b35 := E_b35.wr W42
     replace F_b35_v := F_b35_v.other W42 (Or.inl ne_b35_b36)
     replace F_b35_c := F_b35_c.other W42 (Or.inl ne_b35_b36)
     replace Z0 := Nat.le_trans Z0 (Nat.le_of_eq W42.size.symm)
     replace K0 := K0.wr W42 (Or.inr sz_b36)
     replace V_b36 : Arv Z h42 b36 k36 .char (4 : Int32) [(.int (v0.toUInt32.toUInt16.toUInt32.toInt32)), (.int (v1.toUInt32.toUInt16.toUInt32.toInt32)), (.int (0 : Int32)), (.int (0 : Int32))] (.int (0 : Int32)) := Arv.set Ar41 qq41 Sz41 Ng41 Hs41 Gs41 (fits_nar_char _) W42 1 rfl (Nat.le_of_ble_eq_true rfl)
     clear hin41 Gs41 Hs41 Ng41 Sz41 qq41 Ar41 cl41
     refine G (fun t k => XS.dup X42.here hx rfl (D d2_118) rfl rfl k) ?_
     refine sG T42 (mkF m 119 #[vi p1, vr a2] [(.ref b36), (.ref b36), (.ref b35), (.ref b35)]) ?_
     refine G (fun t k => XS.iconst X42.here hx rfl (D d2_119) (XS.aloadN X42.here hx rfl (D d2_120) rfl rfl (XS.iconst X42.here hx rfl (D d2_121) k))) ?_
     obtain ⟨cl43, Ar43, -, Sz43, Ng43, Hs43, -⟩ := id V_c
     have hin43 := inb_of (j := (2 : Int32)) (c := cl43) Sz43 ⟨by decide, by decide⟩
     refine G (fun t k => X42.caload hx (j := (2 : Int32)) (v := (.int v2)) (by rw [e42]; exact Ar43.1) (State.isArrayOf_alike hZ.alike Ar43.2.1) Ar43.2.2 hin43 (Has.at Hs43 hin43 rfl) (g := (mkF m 122 #[vi p1, vr a2] [(.int 2), (.ref a2), (.int 2), (.ref b36), (.ref b36), (.ref b35), (.ref b35)])) rfl rfl (D d2_122) _ k) ?_
     clear hin43 Hs43 Ng43 Sz43 Ar43 cl43
     obtain ⟨cl44, Ar44, qq44, Sz44, Ng44, Hs44, Gs44⟩ := id V_b36
     have hin44 := inb_of (j := (2 : Int32)) (c := cl44) Sz44 ⟨by decide, by decide⟩
     obtain ⟨T45, h45, X45, e45, W45, st45⟩ := stC X42 hx hZ e42 Ar44 (j := (2 : Int32)) hin44 (g := (mkF m 123 #[vi p1, vr a2] [(.int v2), (.int 2), (.ref b36), (.ref b36), (.ref b35), (.ref b35)])) rfl rfl (D d2_123)
     refine G st45 ?_
     have N45 := Fr.snoc X45 N42 g_b36
     have hCo := hCr.1
     have Sfo := Sf_b36
     replace Sf_b35 := Safe.wr W45 Sfo hCo Sf_b35
     replace Sf_b36 := Safe.wr W45 Sfo hCo Sf_b36
     replace hk := Nat.le_trans hk (Nat.le_of_eq W45.size.symm)
     replace hCr := hCr.trans (CHr.wr W45 Sfo hCo)
     clear hCo Sfo
     replace V_c := V_c.other W45 ne_a2_b36
     replace SC := SC.wr W45
     replace E_b35 := E_b35.wr W45
     replace F_b35_v := F_b35_v.other W45 (Or.inl ne_b35_b36)
     replace F_b35_c := F_b35_c.other W45 (Or.inl ne_b35_b36)
     replace Z0 := Nat.le_trans Z0 (Nat.le_of_eq W45.size.symm)
     replace K0 := K0.wr W45 (Or.inr sz_b36)
     replace V_b36 : Arv Z h45 b36 k36 .char (4 : Int32) [(.int (v0.toUInt32.toUInt16.toUInt32.toInt32)), (.int (v1.toUInt32.toUInt16.toUInt32.toInt32)), (.int (v2.toUInt32.toUInt16.toUInt32.toInt32)), (.int (0 : Int32))] (.int (0 : Int32)) := Arv.set Ar44 qq44 Sz44 Ng44 Hs44 Gs44 (fits_nar_char _) W45 2 rfl (Nat.le_of_ble_eq_true rfl)
     clear hin44 Gs44 Hs44 Ng44 Sz44 qq44 Ar44 cl44
     refine G (fun t k => XS.dup X45.here hx rfl (D d2_124) rfl rfl (XS.iconst X45.here hx rfl (D d2_125) k)) ?_
     refine sG T45 (mkF m 126 #[vi p1, vr a2] [(.int 3), (.ref b36), (.ref b36), (.ref b35), (.ref b35)]) ?_
     refine G (fun t k => XS.aloadN X45.here hx rfl (D d2_126) rfl rfl (XS.iconst X45.here hx rfl (D d2_127) k)) ?_
     obtain ⟨cl46, Ar46, -, Sz46, Ng46, Hs46, -⟩ := id V_c
     have hin46 := inb_of (j := (3 : Int32)) (c := cl46) Sz46 ⟨by decide, by decide⟩
     refine G (fun t k => X45.caload hx (j := (3 : Int32)) (v := (.int v3)) (by rw [e45]; exact Ar46.1) (State.isArrayOf_alike hZ.alike Ar46.2.1) Ar46.2.2 hin46 (Has.at Hs46 hin46 rfl) (g := (mkF m 128 #[vi p1, vr a2] [(.int 3), (.ref a2), (.int 3), (.ref b36), (.ref b36), (.ref b35), (.ref b35)])) rfl rfl (D d2_128) _ k) ?_
     clear hin46 Hs46 Ng46 Sz46 Ar46 cl46
     obtain ⟨cl47, Ar47, qq47, Sz47, Ng47, Hs47, Gs47⟩ := id V_b36
     have hin47 := inb_of (j := (3 : Int32)) (c := cl47) Sz47 ⟨by decide, by decide⟩
     obtain ⟨T48, h48, X48, e48, W48, st48⟩ := stC X45 hx hZ e45 Ar47 (j := (3 : Int32)) hin47 (g := (mkF m 129 #[vi p1, vr a2] [(.int v3), (.int 3), (.ref b36), (.ref b36), (.ref b35), (.ref b35)])) rfl rfl (D d2_129)
     refine G st48 ?_
     have N48 := Fr.snoc X48 N45 g_b36
     obtain ⟨LL48, X48, N48⟩ : ∃ LL, Stand p l e (Rm 4 6 12 66) (s.setVm s.vm) m #[(.int p1), (.ref a2)] below meth c T48 LL 2 8 ∧ Fr n0 LL := ⟨_, X48, N48⟩
     have hCo := hCr.1
     have Sfo := Sf_b36
     replace Sf_b35 := Safe.wr W48 Sfo hCo Sf_b35
     replace Sf_b36 := Safe.wr W48 Sfo hCo Sf_b36
     replace hk := Nat.le_trans hk (Nat.le_of_eq W48.size.symm)
     replace hCr := hCr.trans (CHr.wr W48 Sfo hCo)
     clear hCo Sfo
     replace V_c := V_c.other W48 ne_a2_b36
     replace SC := SC.wr W48
     replace E_b35 := E_b35.wr W48
     replace F_b35_v := F_b35_v.other W48 (Or.inl ne_b35_b36)
     replace F_b35_c := F_b35_c.other W48 (Or.inl ne_b35_b36)
     replace Z0 := Nat.le_trans Z0 (Nat.le_of_eq W48.size.symm)
     replace K0 := K0.wr W48 (Or.inr sz_b36)
     replace V_b36 : Arv Z h48 b36 k36 .char (4 : Int32) [(.int (v0.toUInt32.toUInt16.toUInt32.toInt32)), (.int (v1.toUInt32.toUInt16.toUInt32.toInt32)), (.int (v2.toUInt32.toUInt16.toUInt32.toInt32)), (.int (v3.toUInt32.toUInt16.toUInt32.toInt32))] (.int (0 : Int32)) := Arv.set Ar47 qq47 Sz47 Ng47 Hs47 Gs47 (fits_nar_char _) W48 3 rfl (Nat.le_of_ble_eq_true rfl)
     clear hin47 Gs47 Hs47 Ng47 Sz47 qq47 Ar47 cl47
     obtain ⟨_, _, ⟨T49, L49, k49, n49⟩, -, X49, ⟨Lc49, hQ49, l49, y49, z49⟩, st49⟩ := X48.specialBack hx (y := y_4) rfl hown (mvT hZ (wd11 hw)) (mvT hZ (wd12 hw)) (mvT hZ (wd13 hw)) (by decide) (backOf (W := 1) (rmi1_4 l Z a0 hw [] b35 b36 k36 (v0.toUInt32.toUInt16.toUInt32.toInt32) (v1.toUInt32.toUInt16.toUInt32.toInt32) (v2.toUInt32.toUInt16.toUInt32.toInt32) (v3.toUInt32.toUInt16.toUInt32.toInt32) wC h48 n0 Z0 E_b35 F_b35_v F_b35_c V_b36 SC (own_c255 hv0) (own_c255 hv1) (own_c255 hv2) (own_c255 hv3) hcs ne_b35_b36 g_b35) hZ (wd13 hw) (wd10 hw) (by decide) (by decide)) (g := (mkF m 130 #[vi p1, vr a2] [(.ref b36), (.ref b35), (.ref b35)])) rfl (by rw [hml]; rfl) (Steps.refl _) (a := b35) (argsL := [(.ref b36)]) (rest := [(.ref b35)]) (lenOf pd24 rfl) rfl (by show 2 * 0 + _ ≤ _; exact Nat.le_of_eq rfl) (D d2_130) (fun _ _ => ⟨rfl, e48, (by decide : 2 + 1 ≤ _), (by decide : 8 + 4 ≤ _)⟩)
     dsimp only [Pt.U, Pt.locs, Pt.cells, Pt.slots] at X49 l49 y49 z49 st49 hQ49
     subst l49 y49 z49
     have E_b35_pre := E_b35
     have F_b35_value_pre := F_b35_v
     have F_b35_coder_pre := F_b35_c
     obtain ⟨h49, e49⟩ : ∃ z, T49.heap = z := ⟨_, rfl⟩
     rw [e49] at hQ49
     obtain ⟨y49, k_y49, rfl, N49q, K49, ng_y49, sz0_y49, Q49_0, Q49_1, Q49_2, Q49_3⟩ := hQ49
     refine Go.tr st49 ?_
     have ne_a2_y49 : a2 ≠ y49 := Nat.ne_of_lt (Nat.lt_of_lt_of_le V_c.lt sz0_y49)
     have ne_b35_y49 : b35 ≠ y49 := Nat.ne_of_lt (Nat.lt_of_lt_of_le E_b35.lt sz0_y49)
     have ne_b36_y49 : b36 ≠ y49 := Nat.ne_of_lt (Nat.lt_of_lt_of_le V_b36.lt sz0_y49)
     have g_y49 : n0 ≤ y49 := ng_y49
     have sz_y49 : h0.size ≤ y49 := Nat.le_trans K0.1 sz0_y49
     replace V_c := V_c.keep K49 (ninS ne_a2_b35 nin0)
     replace SC := sta_keep SC K49 (allS (exa_ns E_b35_pre) all0)
     replace E_b35 := E_b35.keep K49
     replace V_b36 := V_b36.keep K49 (ninS (Ne.symm ne_b35_b36) nin0)
     have hCo := hCr.1
     have Sf_b35_o := Sf_b35
     replace Sf_b35 := Safe.keep K49 (allS Sf_b35_o all0) hCo Sf_b35
     replace Sf_b36 := Safe.keep K49 (allS Sf_b35_o all0) hCo Sf_b36
     replace hk := Nat.le_trans hk K49.1
     replace hCr := hCr.trans (CHr.keep K49 (allS Sf_b35_o all0) hCo)
     clear hCo Sf_b35_o
     replace Z0 := Nat.le_trans Z0 K49.1
     replace K0 := K0.trans K49 (allS (Or.inr sz_b35) all0)
     clear E_b35_pre F_b35_value_pre F_b35_coder_pre
     have E_b35 := Q49_0
     have F_b35_v := Q49_1
     have F_b35_c := Q49_2
     have V_y49 := Q49_3
     have N49 := Fr.app N48 N49q
     exact lwR (Q := Q2 Z p1 a2 k_c v0 v1 v2 v3 wC h0 n0) Bd X49 e49 hS hk hh hCr hZ (own_EL hw) (D d2_133) rfl rfl rfl ⟨b35, y49, k_y49, rfl, N49, K0, E_b35, F_b35_v, F_b35_c, (by unfold f2_n f2_l; simp only [if_neg hc1, if_neg hc5, if_neg hc12, if_neg hc22]; exact V_y49)⟩ (by decide) (by decide)
theorem d33_0 : dc cB33 0 (.iconst 0) 1 := by decide +kernel
theorem d33_1 : dc cB33 1 (.istore_n 3) 1 := by decide +kernel
theorem d33_2 : dc cB33 2 (.aload_n 1) 1 := by decide +kernel
theorem d33_3 : dc cB33 3 (.iconst 0) 1 := by decide +kernel
theorem d33_4 : dc cB33 4 .baload 1 := by decide +kernel
theorem d33_5 : dc cB33 5 (.ifCond .eq 12) 3 := by decide +kernel
theorem d33_17 : dc cB33 17 (.aload_n 1) 1 := by decide +kernel
theorem d33_18 : dc cB33 18 (.iconst 1) 1 := by decide +kernel
theorem d33_19 : dc cB33 19 .baload 1 := by decide +kernel
theorem d33_20 : dc cB33 20 (.ifCond .eq 12) 3 := by decide +kernel
theorem d33_32 : dc cB33 32 (.aload_n 1) 1 := by decide +kernel
theorem d33_33 : dc cB33 33 (.iconst 2) 1 := by decide +kernel
theorem d33_34 : dc cB33 34 .baload 1 := by decide +kernel
theorem d33_35 : dc cB33 35 (.ifCond .eq 12) 3 := by decide +kernel
theorem d33_47 : dc cB33 47 (.aload_n 1) 1 := by decide +kernel
theorem d33_48 : dc cB33 48 (.iconst 3) 1 := by decide +kernel
theorem d33_49 : dc cB33 49 .baload 1 := by decide +kernel
theorem d33_50 : dc cB33 50 (.ifCond .eq 12) 3 := by decide +kernel
theorem d33_62 : dc cB33 62 (.iload_n 3) 1 := by decide +kernel
theorem d33_63 : dc cB33 63 .ireturn 1 := by decide +kernel
theorem d33_53 : dc cB33 53 (.aload_n 2) 1 := by decide +kernel
theorem d33_54 : dc cB33 54 (.iload_n 3) 1 := by decide +kernel
theorem d33_55 : dc cB33 55 (.aload_n 0) 1 := by decide +kernel
theorem d33_56 : dc cB33 56 (.iconst 3) 1 := by decide +kernel
theorem d33_57 : dc cB33 57 .caload 1 := by decide +kernel
theorem d33_58 : dc cB33 58 .castore 1 := by decide +kernel
theorem d33_59 : dc cB33 59 (.iinc 3 1) 3 := by decide +kernel
theorem d33_38 : dc cB33 38 (.aload_n 2) 1 := by decide +kernel
theorem d33_39 : dc cB33 39 (.iload_n 3) 1 := by decide +kernel
theorem d33_40 : dc cB33 40 (.aload_n 0) 1 := by decide +kernel
theorem d33_41 : dc cB33 41 (.iconst 2) 1 := by decide +kernel
theorem d33_42 : dc cB33 42 .caload 1 := by decide +kernel
theorem d33_43 : dc cB33 43 .castore 1 := by decide +kernel
theorem d33_44 : dc cB33 44 (.iinc 3 1) 3 := by decide +kernel
theorem d33_23 : dc cB33 23 (.aload_n 2) 1 := by decide +kernel
theorem d33_24 : dc cB33 24 (.iload_n 3) 1 := by decide +kernel
theorem d33_25 : dc cB33 25 (.aload_n 0) 1 := by decide +kernel
theorem d33_26 : dc cB33 26 (.iconst 1) 1 := by decide +kernel
theorem d33_27 : dc cB33 27 .caload 1 := by decide +kernel
theorem d33_28 : dc cB33 28 .castore 1 := by decide +kernel
theorem d33_29 : dc cB33 29 (.iinc 3 1) 3 := by decide +kernel
theorem d33_8 : dc cB33 8 (.aload_n 2) 1 := by decide +kernel
theorem d33_9 : dc cB33 9 (.iload_n 3) 1 := by decide +kernel
theorem d33_10 : dc cB33 10 (.aload_n 0) 1 := by decide +kernel
theorem d33_11 : dc cB33 11 (.iconst 0) 1 := by decide +kernel
theorem d33_12 : dc cB33 12 .caload 1 := by decide +kernel
theorem d33_13 : dc cB33 13 .castore 1 := by decide +kernel
theorem d33_14 : dc cB33 14 (.iinc 3 1) 3 := by decide +kernel
def f33 (m0 : Int32) (m1 : Int32) (m2 : Int32) (m3 : Int32) : Int32 := (if m0 = (0 : Int32) then (if m1 = (0 : Int32) then (if m2 = (0 : Int32) then (if m3 = (0 : Int32) then (0 : Int32) else (1 : Int32)) else (if m3 = (0 : Int32) then (1 : Int32) else (2 : Int32))) else (if m2 = (0 : Int32) then (if m3 = (0 : Int32) then (1 : Int32) else (2 : Int32)) else (if m3 = (0 : Int32) then (2 : Int32) else (3 : Int32)))) else (if m1 = (0 : Int32) then (if m2 = (0 : Int32) then (if m3 = (0 : Int32) then (1 : Int32) else (2 : Int32)) else (if m3 = (0 : Int32) then (2 : Int32) else (3 : Int32))) else (if m2 = (0 : Int32) then (if m3 = (0 : Int32) then (2 : Int32) else (3 : Int32)) else (if m3 = (0 : Int32) then (3 : Int32) else (4 : Int32)))))
def f33_a3_0 (v0 : Int32) (v1 : Int32) (v2 : Int32) (v3 : Int32) (m0 : Int32) (m1 : Int32) (m2 : Int32) (m3 : Int32) : Int32 := (if m0 = (0 : Int32) then (if m1 = (0 : Int32) then (if m2 = (0 : Int32) then (if m3 = (0 : Int32) then (0 : Int32) else (v3.toUInt32.toUInt16.toUInt32.toInt32)) else (v2.toUInt32.toUInt16.toUInt32.toInt32)) else (v1.toUInt32.toUInt16.toUInt32.toInt32)) else (v0.toUInt32.toUInt16.toUInt32.toInt32))
def f33_a3_1 (v1 : Int32) (v2 : Int32) (v3 : Int32) (m0 : Int32) (m1 : Int32) (m2 : Int32) (m3 : Int32) : Int32 := (if m0 = (0 : Int32) then (if m1 = (0 : Int32) then (if m2 = (0 : Int32) then (0 : Int32) else (if m3 = (0 : Int32) then (0 : Int32) else (v3.toUInt32.toUInt16.toUInt32.toInt32))) else (if m2 = (0 : Int32) then (if m3 = (0 : Int32) then (0 : Int32) else (v3.toUInt32.toUInt16.toUInt32.toInt32)) else (v2.toUInt32.toUInt16.toUInt32.toInt32))) else (if m1 = (0 : Int32) then (if m2 = (0 : Int32) then (if m3 = (0 : Int32) then (0 : Int32) else (v3.toUInt32.toUInt16.toUInt32.toInt32)) else (v2.toUInt32.toUInt16.toUInt32.toInt32)) else (v1.toUInt32.toUInt16.toUInt32.toInt32)))
def f33_a3_2 (v2 : Int32) (v3 : Int32) (m0 : Int32) (m1 : Int32) (m2 : Int32) (m3 : Int32) : Int32 := (if m0 = (0 : Int32) then (if m1 = (0 : Int32) then (0 : Int32) else (if m2 = (0 : Int32) then (0 : Int32) else (if m3 = (0 : Int32) then (0 : Int32) else (v3.toUInt32.toUInt16.toUInt32.toInt32)))) else (if m1 = (0 : Int32) then (if m2 = (0 : Int32) then (0 : Int32) else (if m3 = (0 : Int32) then (0 : Int32) else (v3.toUInt32.toUInt16.toUInt32.toInt32))) else (if m2 = (0 : Int32) then (if m3 = (0 : Int32) then (0 : Int32) else (v3.toUInt32.toUInt16.toUInt32.toInt32)) else (v2.toUInt32.toUInt16.toUInt32.toInt32))))
def f33_a3_3 (v3 : Int32) (m0 : Int32) (m1 : Int32) (m2 : Int32) (m3 : Int32) : Int32 := (if m0 = (0 : Int32) then (0 : Int32) else (if m1 = (0 : Int32) then (0 : Int32) else (if m2 = (0 : Int32) then (0 : Int32) else (if m3 = (0 : Int32) then (0 : Int32) else (v3.toUInt32.toUInt16.toUInt32.toInt32)))))
def Q33 (Z : State) (a1 : Addr) (a2 : Addr) (a3 : Addr) (k_c : ClassId) (v0 : Int32) (v1 : Int32) (v2 : Int32) (v3 : Int32) (k_m : ClassId) (m0 : Int32) (m1 : Int32) (m2 : Int32) (m3 : Int32) (k_o : ClassId) (h0 : Heap) (n0 : Nat) (v : Option Value) (h : Heap) (L : List Loc) : Prop := v = some (.int (f33 m0 m1 m2 m3)) ∧ Fr n0 L ∧ Keep h0 h [a3] ∧ Arv Z h a3 k_o .char (4 : Int32) [(.int (f33_a3_0 v0 v1 v2 v3 m0 m1 m2 m3)), (.int (f33_a3_1 v1 v2 v3 m0 m1 m2 m3)), (.int (f33_a3_2 v2 v3 m0 m1 m2 m3)), (.int (f33_a3_3 v3 m0 m1 m2 m3))] (.int (0 : Int32))
theorem ef33 (m : MethodId) (x0 : Addr) (x1 : Addr) (x2 : Addr) : entryFrame m #[(.ref x0), (.ref x1), (.ref x2)] 4 = mkF m 0 #[.val (.ref x0), .val (.ref x1), .val (.ref x2), .unset] [] := by first | (simp [entryFrame, mkF, argsToLocals, Value.category]; done) | rfl
theorem rm33 (l : Launch) (Z : State) (a0 : Array Value) (hw : HW a0 Z) (ws : List Jvm.Cond) (a1 : Addr) (a2 : Addr) (a3 : Addr) (k_c : ClassId) (v0 : Int32) (v1 : Int32) (v2 : Int32) (v3 : Int32) (k_m : ClassId) (m0 : Int32) (m1 : Int32) (m2 : Int32) (m3 : Int32) (k_o : ClassId) (h0 : Heap) (n0 : Nat) (Z0 : n0 ≤ h0.size) (V_c : Arv Z h0 a1 k_c .char (4 : Int32) [(.int v0), (.int v1), (.int v2), (.int v3)] (.int (0 : Int32))) (V_m : Arv Z h0 a2 k_m .boolean (4 : Int32) [(.int m0), (.int m1), (.int m2), (.int m3)] (.int (0 : Int32))) (V_o : Arv Z h0 a3 k_o .char (4 : Int32) [(.int (0 : Int32)), (.int (0 : Int32)), (.int (0 : Int32)), (.int (0 : Int32))] (.int (0 : Int32))) (ne_a1_a3 : a1 ≠ a3) (ne_a2_a3 : a2 ≠ a3) (g_a3 : n0 ≤ a3) :
  MetFree l y_45 (head1 (Cond.code y_45 cB33 4 (some .int) :: ws) (Rm 0 0 0 0)) (Pr Z h0 #[(.ref a1), (.ref a2), (.ref a3)]) Tr (fun _ U o U' => ∃ v L, o = .returned v ∧ Q33 Z a1 a2 a3 k_c v0 v1 v2 v3 k_m m0 m1 m2 m3 k_o h0 n0 v U'.heap L ∧ FrameEnd U o U' L (Rm 0 0 0 0).cells (Rm 0 0 0 0).slots) := by
 refine MetFree.of_bodySF (plainFor_of_name pn11) hisR ?_
 intro p e s m args below meth c s₁ Bd hml0 hP hK
 obtain ⟨rfl, hZ, hh⟩ := hP
 have hx := Bd.exec
 have D := @hb _ _ Bd.bytes
 have hml : c.maxLocals = 4 := hml0
 have hown : s.vm.findClass LW = some m.cls := findClass_of_methodNamed Bd.named
 have hnm := (name_of_methodNamed Bd.named Bd.method).1
 have X0 : Stand p l e (Rm 0 0 0 0) s m #[(.ref a1), (.ref a2), (.ref a3)] below meth c s₁ [] 0 0 := Stand.of_body Bd
 have e0 : s₁.heap = h0 := by rw [← hh, Bd.state]; rfl
 have N0 := Fr.nil n0
 have K0 : Keep h0 h0 [a3] := Keep.refl h0 _
 refine G (P := fun o U' => ∃ v L, o = .returned v ∧ Q33 Z a1 a2 a3 k_c v0 v1 v2 v3 k_m m0 m1 m2 m3 k_o h0 n0 v U'.heap L ∧ FrameEnd s o U' L (Rm 0 0 0 0).cells (Rm 0 0 0 0).slots) (fun t k => castTop (ef33 m a1 a2 a3) k) ?_
 refine sG s₁ (mkF m 0 #[vr a1, vr a2, vr a3, us] []) ?_
 refine G (fun t k => XS.iconst X0.here hx rfl (D d33_0) (XS.istoreN X0.here hx rfl (D d33_1) rfl (l' := #[vr a1, vr a2, vr a3, vi 0]) rfl (XS.aloadN X0.here hx rfl (D d33_2) rfl rfl (XS.iconst X0.here hx rfl (D d33_3) k)))) ?_
 obtain ⟨cl1, Ar1, -, Sz1, Ng1, Hs1, -⟩ := id V_m
 have hin1 := inb_of (j := (0 : Int32)) (c := cl1) Sz1 ⟨by decide, by decide⟩
 refine G (fun t k => X0.baloadBooleans hx (j := (0 : Int32)) (v := (.int m0)) (by rw [e0]; exact Ar1.1) (State.isArrayOf_alike hZ.alike Ar1.2.1) Ar1.2.2 hin1 (Has.at Hs1 hin1 rfl) (g := (mkF m 4 #[vr a1, vr a2, vr a3, vi 0] [(.int 0), (.ref a2)])) rfl rfl (D d33_4) _ k) ?_
 clear hin1 Hs1 Ng1 Sz1 Ar1 cl1
 by_cases hc2 : m0 = (0 : Int32)
 ·refine G (fun t k => XS.ifYes X0.here hx rfl (pc0 := 5) (pc' := 17) rfl (D d33_5) rfl ((if0 _ _).trans (teq hc2).1) (by decide) (by decide) (XS.aloadN X0.here hx rfl (D d33_17) rfl rfl k)) ?_
  refine sG s₁ (mkF m 18 #[vr a1, vr a2, vr a3, vi 0] [(.ref a2)]) ?_
  refine G (fun t k => XS.iconst X0.here hx rfl (D d33_18) k) ?_
  obtain ⟨cl3, Ar3, -, Sz3, Ng3, Hs3, -⟩ := id V_m
  have hin3 := inb_of (j := (1 : Int32)) (c := cl3) Sz3 ⟨by decide, by decide⟩
  refine G (fun t k => X0.baloadBooleans hx (j := (1 : Int32)) (v := (.int m1)) (by rw [e0]; exact Ar3.1) (State.isArrayOf_alike hZ.alike Ar3.2.1) Ar3.2.2 hin3 (Has.at Hs3 hin3 rfl) (g := (mkF m 19 #[vr a1, vr a2, vr a3, vi 0] [(.int 1), (.ref a2)])) rfl rfl (D d33_19) _ k) ?_
  clear hin3 Hs3 Ng3 Sz3 Ar3 cl3
  by_cases hc4 : m1 = (0 : Int32)
  ·refine G (fun t k => XS.ifYes X0.here hx rfl (pc0 := 20) (pc' := 32) rfl (D d33_20) rfl ((if0 _ _).trans (teq hc4).1) (by decide) (by decide) (XS.aloadN X0.here hx rfl (D d33_32) rfl rfl (XS.iconst X0.here hx rfl (D d33_33) k))) ?_
   obtain ⟨cl5, Ar5, -, Sz5, Ng5, Hs5, -⟩ := id V_m
   have hin5 := inb_of (j := (2 : Int32)) (c := cl5) Sz5 ⟨by decide, by decide⟩
   refine G (fun t k => X0.baloadBooleans hx (j := (2 : Int32)) (v := (.int m2)) (by rw [e0]; exact Ar5.1) (State.isArrayOf_alike hZ.alike Ar5.2.1) Ar5.2.2 hin5 (Has.at Hs5 hin5 rfl) (g := (mkF m 34 #[vr a1, vr a2, vr a3, vi 0] [(.int 2), (.ref a2)])) rfl rfl (D d33_34) _ k) ?_
   clear hin5 Hs5 Ng5 Sz5 Ar5 cl5
   by_cases hc6 : m2 = (0 : Int32)
   ·refine G (fun t k => XS.ifYes X0.here hx rfl (pc0 := 35) (pc' := 47) rfl (D d33_35) rfl ((if0 _ _).trans (teq hc6).1) (by decide) (by decide) k) ?_
    refine sG s₁ (mkF m 47 #[vr a1, vr a2, vr a3, vi 0] []) ?_
    refine G (fun t k => XS.aloadN X0.here hx rfl (D d33_47) rfl rfl (XS.iconst X0.here hx rfl (D d33_48) k)) ?_
    obtain ⟨cl7, Ar7, -, Sz7, Ng7, Hs7, -⟩ := id V_m
    have hin7 := inb_of (j := (3 : Int32)) (c := cl7) Sz7 ⟨by decide, by decide⟩
    refine G (fun t k => X0.baloadBooleans hx (j := (3 : Int32)) (v := (.int m3)) (by rw [e0]; exact Ar7.1) (State.isArrayOf_alike hZ.alike Ar7.2.1) Ar7.2.2 hin7 (Has.at Hs7 hin7 rfl) (g := (mkF m 49 #[vr a1, vr a2, vr a3, vi 0] [(.int 3), (.ref a2)])) rfl rfl (D d33_49) _ k) ?_
    clear hin7 Hs7 Ng7 Sz7 Ar7 cl7
    by_cases hc8 : m3 = (0 : Int32)
    ·refine G (fun t k => XS.ifYes X0.here hx rfl (pc0 := 50) (pc' := 62) rfl (D d33_50) rfl ((if0 _ _).trans (teq hc8).1) (by decide) (by decide) (XS.iloadN X0.here hx rfl (D d33_62) rfl k)) ?_
     exact lfI (Q := Q33 Z a1 a2 a3 k_c v0 v1 v2 v3 k_m m0 m1 m2 m3 k_o h0 n0) Bd X0 e0 (D d33_63) (w := (0 : Int32)) ⟨(by unfold f33; simp only [if_pos hc2, if_pos hc4, if_pos hc6, if_pos hc8]), N0, K0, (by unfold f33_a3_0 f33_a3_1 f33_a3_2 f33_a3_3; simp only [if_pos hc2, if_pos hc4, if_pos hc6, if_pos hc8]; exact V_o)⟩ (by decide) (by decide)
    ·refine G (fun t k => XS.ifNo X0.here hx rfl (D d33_50) rfl ((if0 _ _).trans (feq hc8).1) (XS.aloadN X0.here hx rfl (D d33_53) rfl rfl (XS.iloadN X0.here hx rfl (D d33_54) rfl (XS.aloadN X0.here hx rfl (D d33_55) rfl rfl k)))) ?_
     refine sG s₁ (mkF m 56 #[vr a1, vr a2, vr a3, vi 0] [(.ref a1), (.int 0), (.ref a3)]) ?_
     refine G (fun t k => XS.iconst X0.here hx rfl (D d33_56) k) ?_
     obtain ⟨cl9, Ar9, -, Sz9, Ng9, Hs9, -⟩ := id V_c
     have hin9 := inb_of (j := (3 : Int32)) (c := cl9) Sz9 ⟨by decide, by decide⟩
     refine G (fun t k => X0.caload hx (j := (3 : Int32)) (v := (.int v3)) (by rw [e0]; exact Ar9.1) (State.isArrayOf_alike hZ.alike Ar9.2.1) Ar9.2.2 hin9 (Has.at Hs9 hin9 rfl) (g := (mkF m 57 #[vr a1, vr a2, vr a3, vi 0] [(.int 3), (.ref a1), (.int 0), (.ref a3)])) rfl rfl (D d33_57) _ k) ?_
     clear hin9 Hs9 Ng9 Sz9 Ar9 cl9
     obtain ⟨cl10, Ar10, qq10, Sz10, Ng10, Hs10, Gs10⟩ := id V_o
     have hin10 := inb_of (j := (0 : Int32)) (c := cl10) Sz10 ⟨by decide, by decide⟩
     obtain ⟨T11, h11, X11, e11, W11, st11⟩ := stC X0 hx hZ e0 Ar10 (j := (0 : Int32)) hin10 (g := (mkF m 58 #[vr a1, vr a2, vr a3, vi 0] [(.int v3), (.int 0), (.ref a3)])) rfl rfl (D d33_58)
     refine G st11 ?_
     have N11 := Fr.snoc X11 N0 g_a3
     replace V_c := V_c.other W11 ne_a1_a3
     replace V_m := V_m.other W11 ne_a2_a3
     replace Z0 := Nat.le_trans Z0 (Nat.le_of_eq W11.size.symm)
     replace K0 := K0.wr W11 (Or.inl (by simp))
     replace V_o : Arv Z h11 a3 k_o .char (4 : Int32) [(.int (v3.toUInt32.toUInt16.toUInt32.toInt32)), (.int (0 : Int32)), (.int (0 : Int32)), (.int (0 : Int32))] (.int (0 : Int32)) := Arv.set Ar10 qq10 Sz10 Ng10 Hs10 Gs10 (fits_nar_char _) W11 0 rfl (Nat.le_of_ble_eq_true rfl)
     clear hin10 Gs10 Hs10 Ng10 Sz10 qq10 Ar10 cl10
     refine G (fun t k => XS.iinc X11.here hx rfl (D d33_59) rfl (l' := #[vr a1, vr a2, vr a3, vi ((0 : Int32) + (1 : Int32))]) rfl (XS.iloadN X11.here hx rfl (D d33_62) rfl k)) ?_
     exact lfI (Q := Q33 Z a1 a2 a3 k_c v0 v1 v2 v3 k_m m0 m1 m2 m3 k_o h0 n0) Bd X11 e11 (D d33_63) (w := (1 : Int32)) ⟨(by unfold f33; simp only [if_pos hc2, if_pos hc4, if_pos hc6, if_neg hc8]), N11, K0, (by unfold f33_a3_0 f33_a3_1 f33_a3_2 f33_a3_3; simp only [if_pos hc2, if_pos hc4, if_pos hc6, if_neg hc8]; exact V_o)⟩ (by decide) (by decide)
   ·refine G (fun t k => XS.ifNo X0.here hx rfl (D d33_35) rfl ((if0 _ _).trans (feq hc6).1) k) ?_
    refine sG s₁ (mkF m 38 #[vr a1, vr a2, vr a3, vi 0] []) ?_
    refine G (fun t k => XS.aloadN X0.here hx rfl (D d33_38) rfl rfl (XS.iloadN X0.here hx rfl (D d33_39) rfl (XS.aloadN X0.here hx rfl (D d33_40) rfl rfl (XS.iconst X0.here hx rfl (D d33_41) k)))) ?_
    obtain ⟨cl12, Ar12, -, Sz12, Ng12, Hs12, -⟩ := id V_c
    have hin12 := inb_of (j := (2 : Int32)) (c := cl12) Sz12 ⟨by decide, by decide⟩
    refine G (fun t k => X0.caload hx (j := (2 : Int32)) (v := (.int v2)) (by rw [e0]; exact Ar12.1) (State.isArrayOf_alike hZ.alike Ar12.2.1) Ar12.2.2 hin12 (Has.at Hs12 hin12 rfl) (g := (mkF m 42 #[vr a1, vr a2, vr a3, vi 0] [(.int 2), (.ref a1), (.int 0), (.ref a3)])) rfl rfl (D d33_42) _ k) ?_
    clear hin12 Hs12 Ng12 Sz12 Ar12 cl12
    obtain ⟨cl13, Ar13, qq13, Sz13, Ng13, Hs13, Gs13⟩ := id V_o
    have hin13 := inb_of (j := (0 : Int32)) (c := cl13) Sz13 ⟨by decide, by decide⟩
    obtain ⟨T14, h14, X14, e14, W14, st14⟩ := stC X0 hx hZ e0 Ar13 (j := (0 : Int32)) hin13 (g := (mkF m 43 #[vr a1, vr a2, vr a3, vi 0] [(.int v2), (.int 0), (.ref a3)])) rfl rfl (D d33_43)
    refine G st14 ?_
    have N14 := Fr.snoc X14 N0 g_a3
    replace V_c := V_c.other W14 ne_a1_a3
    replace V_m := V_m.other W14 ne_a2_a3
    replace Z0 := Nat.le_trans Z0 (Nat.le_of_eq W14.size.symm)
    replace K0 := K0.wr W14 (Or.inl (by simp))
    replace V_o : Arv Z h14 a3 k_o .char (4 : Int32) [(.int (v2.toUInt32.toUInt16.toUInt32.toInt32)), (.int (0 : Int32)), (.int (0 : Int32)), (.int (0 : Int32))] (.int (0 : Int32)) := Arv.set Ar13 qq13 Sz13 Ng13 Hs13 Gs13 (fits_nar_char _) W14 0 rfl (Nat.le_of_ble_eq_true rfl)
    clear hin13 Gs13 Hs13 Ng13 Sz13 qq13 Ar13 cl13
    refine G (fun t k => XS.iinc X14.here hx rfl (D d33_44) rfl (l' := #[vr a1, vr a2, vr a3, vi ((0 : Int32) + (1 : Int32))]) rfl k) ?_
    refine sG T14 (mkF m 47 #[vr a1, vr a2, vr a3, vi 1] []) ?_
    refine G (fun t k => XS.aloadN X14.here hx rfl (D d33_47) rfl rfl (XS.iconst X14.here hx rfl (D d33_48) k)) ?_
    obtain ⟨cl15, Ar15, -, Sz15, Ng15, Hs15, -⟩ := id V_m
    have hin15 := inb_of (j := (3 : Int32)) (c := cl15) Sz15 ⟨by decide, by decide⟩
    refine G (fun t k => X14.baloadBooleans hx (j := (3 : Int32)) (v := (.int m3)) (by rw [e14]; exact Ar15.1) (State.isArrayOf_alike hZ.alike Ar15.2.1) Ar15.2.2 hin15 (Has.at Hs15 hin15 rfl) (g := (mkF m 49 #[vr a1, vr a2, vr a3, vi 1] [(.int 3), (.ref a2)])) rfl rfl (D d33_49) _ k) ?_
    clear hin15 Hs15 Ng15 Sz15 Ar15 cl15
    by_cases hc16 : m3 = (0 : Int32)
    ·refine G (fun t k => XS.ifYes X14.here hx rfl (pc0 := 50) (pc' := 62) rfl (D d33_50) rfl ((if0 _ _).trans (teq hc16).1) (by decide) (by decide) (XS.iloadN X14.here hx rfl (D d33_62) rfl k)) ?_
     exact lfI (Q := Q33 Z a1 a2 a3 k_c v0 v1 v2 v3 k_m m0 m1 m2 m3 k_o h0 n0) Bd X14 e14 (D d33_63) (w := (1 : Int32)) ⟨(by unfold f33; simp only [if_pos hc2, if_pos hc4, if_neg hc6, if_pos hc16]), N14, K0, (by unfold f33_a3_0 f33_a3_1 f33_a3_2 f33_a3_3; simp only [if_pos hc2, if_pos hc4, if_neg hc6, if_pos hc16]; exact V_o)⟩ (by decide) (by decide)
    ·refine G (fun t k => XS.ifNo X14.here hx rfl (D d33_50) rfl ((if0 _ _).trans (feq hc16).1) (XS.aloadN X14.here hx rfl (D d33_53) rfl rfl (XS.iloadN X14.here hx rfl (D d33_54) rfl (XS.aloadN X14.here hx rfl (D d33_55) rfl rfl k)))) ?_
     refine sG T14 (mkF m 56 #[vr a1, vr a2, vr a3, vi 1] [(.ref a1), (.int 1), (.ref a3)]) ?_
     refine G (fun t k => XS.iconst X14.here hx rfl (D d33_56) k) ?_
     obtain ⟨cl17, Ar17, -, Sz17, Ng17, Hs17, -⟩ := id V_c
     have hin17 := inb_of (j := (3 : Int32)) (c := cl17) Sz17 ⟨by decide, by decide⟩
     refine G (fun t k => X14.caload hx (j := (3 : Int32)) (v := (.int v3)) (by rw [e14]; exact Ar17.1) (State.isArrayOf_alike hZ.alike Ar17.2.1) Ar17.2.2 hin17 (Has.at Hs17 hin17 rfl) (g := (mkF m 57 #[vr a1, vr a2, vr a3, vi 1] [(.int 3), (.ref a1), (.int 1), (.ref a3)])) rfl rfl (D d33_57) _ k) ?_
     clear hin17 Hs17 Ng17 Sz17 Ar17 cl17
     obtain ⟨cl18, Ar18, qq18, Sz18, Ng18, Hs18, Gs18⟩ := id V_o
     have hin18 := inb_of (j := (1 : Int32)) (c := cl18) Sz18 ⟨by decide, by decide⟩
     obtain ⟨T19, h19, X19, e19, W19, st19⟩ := stC X14 hx hZ e14 Ar18 (j := (1 : Int32)) hin18 (g := (mkF m 58 #[vr a1, vr a2, vr a3, vi 1] [(.int v3), (.int 1), (.ref a3)])) rfl rfl (D d33_58)
     refine G st19 ?_
     have N19 := Fr.snoc X19 N14 g_a3
     replace V_c := V_c.other W19 ne_a1_a3
     replace V_m := V_m.other W19 ne_a2_a3
     replace Z0 := Nat.le_trans Z0 (Nat.le_of_eq W19.size.symm)
     replace K0 := K0.wr W19 (Or.inl (by simp))
     replace V_o : Arv Z h19 a3 k_o .char (4 : Int32) [(.int (v2.toUInt32.toUInt16.toUInt32.toInt32)), (.int (v3.toUInt32.toUInt16.toUInt32.toInt32)), (.int (0 : Int32)), (.int (0 : Int32))] (.int (0 : Int32)) := Arv.set Ar18 qq18 Sz18 Ng18 Hs18 Gs18 (fits_nar_char _) W19 1 rfl (Nat.le_of_ble_eq_true rfl)
     clear hin18 Gs18 Hs18 Ng18 Sz18 qq18 Ar18 cl18
     refine G (fun t k => XS.iinc X19.here hx rfl (D d33_59) rfl (l' := #[vr a1, vr a2, vr a3, vi ((1 : Int32) + (1 : Int32))]) rfl (XS.iloadN X19.here hx rfl (D d33_62) rfl k)) ?_
     exact lfI (Q := Q33 Z a1 a2 a3 k_c v0 v1 v2 v3 k_m m0 m1 m2 m3 k_o h0 n0) Bd X19 e19 (D d33_63) (w := (2 : Int32)) ⟨(by unfold f33; simp only [if_pos hc2, if_pos hc4, if_neg hc6, if_neg hc16]), N19, K0, (by unfold f33_a3_0 f33_a3_1 f33_a3_2 f33_a3_3; simp only [if_pos hc2, if_pos hc4, if_neg hc6, if_neg hc16]; exact V_o)⟩ (by decide) (by decide)
  ·refine G (fun t k => XS.ifNo X0.here hx rfl (D d33_20) rfl ((if0 _ _).trans (feq hc4).1) (XS.aloadN X0.here hx rfl (D d33_23) rfl rfl (XS.iloadN X0.here hx rfl (D d33_24) rfl (XS.aloadN X0.here hx rfl (D d33_25) rfl rfl (XS.iconst X0.here hx rfl (D d33_26) k))))) ?_
   refine sG s₁ (mkF m 27 #[vr a1, vr a2, vr a3, vi 0] [(.int 1), (.ref a1), (.int 0), (.ref a3)]) ?_
   obtain ⟨cl20, Ar20, -, Sz20, Ng20, Hs20, -⟩ := id V_c
   have hin20 := inb_of (j := (1 : Int32)) (c := cl20) Sz20 ⟨by decide, by decide⟩
   refine G (fun t k => X0.caload hx (j := (1 : Int32)) (v := (.int v1)) (by rw [e0]; exact Ar20.1) (State.isArrayOf_alike hZ.alike Ar20.2.1) Ar20.2.2 hin20 (Has.at Hs20 hin20 rfl) (g := (mkF m 27 #[vr a1, vr a2, vr a3, vi 0] [(.int 1), (.ref a1), (.int 0), (.ref a3)])) rfl rfl (D d33_27) _ k) ?_
   clear hin20 Hs20 Ng20 Sz20 Ar20 cl20
   obtain ⟨cl21, Ar21, qq21, Sz21, Ng21, Hs21, Gs21⟩ := id V_o
   have hin21 := inb_of (j := (0 : Int32)) (c := cl21) Sz21 ⟨by decide, by decide⟩
   obtain ⟨T22, h22, X22, e22, W22, st22⟩ := stC X0 hx hZ e0 Ar21 (j := (0 : Int32)) hin21 (g := (mkF m 28 #[vr a1, vr a2, vr a3, vi 0] [(.int v1), (.int 0), (.ref a3)])) rfl rfl (D d33_28)
   refine G st22 ?_
   have N22 := Fr.snoc X22 N0 g_a3
   replace V_c := V_c.other W22 ne_a1_a3
   replace V_m := V_m.other W22 ne_a2_a3
   replace Z0 := Nat.le_trans Z0 (Nat.le_of_eq W22.size.symm)
   replace K0 := K0.wr W22 (Or.inl (by simp))
   replace V_o : Arv Z h22 a3 k_o .char (4 : Int32) [(.int (v1.toUInt32.toUInt16.toUInt32.toInt32)), (.int (0 : Int32)), (.int (0 : Int32)), (.int (0 : Int32))] (.int (0 : Int32)) := Arv.set Ar21 qq21 Sz21 Ng21 Hs21 Gs21 (fits_nar_char _) W22 0 rfl (Nat.le_of_ble_eq_true rfl)
   clear hin21 Gs21 Hs21 Ng21 Sz21 qq21 Ar21 cl21
   refine G (fun t k => XS.iinc X22.here hx rfl (D d33_29) rfl (l' := #[vr a1, vr a2, vr a3, vi ((0 : Int32) + (1 : Int32))]) rfl (XS.aloadN X22.here hx rfl (D d33_32) rfl rfl (XS.iconst X22.here hx rfl (D d33_33) k))) ?_
   obtain ⟨cl23, Ar23, -, Sz23, Ng23, Hs23, -⟩ := id V_m
   have hin23 := inb_of (j := (2 : Int32)) (c := cl23) Sz23 ⟨by decide, by decide⟩
   refine G (fun t k => X22.baloadBooleans hx (j := (2 : Int32)) (v := (.int m2)) (by rw [e22]; exact Ar23.1) (State.isArrayOf_alike hZ.alike Ar23.2.1) Ar23.2.2 hin23 (Has.at Hs23 hin23 rfl) (g := (mkF m 34 #[vr a1, vr a2, vr a3, vi 1] [(.int 2), (.ref a2)])) rfl rfl (D d33_34) _ k) ?_
   clear hin23 Hs23 Ng23 Sz23 Ar23 cl23
   by_cases hc24 : m2 = (0 : Int32)
   ·refine G (fun t k => XS.ifYes X22.here hx rfl (pc0 := 35) (pc' := 47) rfl (D d33_35) rfl ((if0 _ _).trans (teq hc24).1) (by decide) (by decide) k) ?_
    refine sG T22 (mkF m 47 #[vr a1, vr a2, vr a3, vi 1] []) ?_
    refine G (fun t k => XS.aloadN X22.here hx rfl (D d33_47) rfl rfl (XS.iconst X22.here hx rfl (D d33_48) k)) ?_
    obtain ⟨cl25, Ar25, -, Sz25, Ng25, Hs25, -⟩ := id V_m
    have hin25 := inb_of (j := (3 : Int32)) (c := cl25) Sz25 ⟨by decide, by decide⟩
    refine G (fun t k => X22.baloadBooleans hx (j := (3 : Int32)) (v := (.int m3)) (by rw [e22]; exact Ar25.1) (State.isArrayOf_alike hZ.alike Ar25.2.1) Ar25.2.2 hin25 (Has.at Hs25 hin25 rfl) (g := (mkF m 49 #[vr a1, vr a2, vr a3, vi 1] [(.int 3), (.ref a2)])) rfl rfl (D d33_49) _ k) ?_
    clear hin25 Hs25 Ng25 Sz25 Ar25 cl25
    by_cases hc26 : m3 = (0 : Int32)
    ·refine G (fun t k => XS.ifYes X22.here hx rfl (pc0 := 50) (pc' := 62) rfl (D d33_50) rfl ((if0 _ _).trans (teq hc26).1) (by decide) (by decide) (XS.iloadN X22.here hx rfl (D d33_62) rfl k)) ?_
     exact lfI (Q := Q33 Z a1 a2 a3 k_c v0 v1 v2 v3 k_m m0 m1 m2 m3 k_o h0 n0) Bd X22 e22 (D d33_63) (w := (1 : Int32)) ⟨(by unfold f33; simp only [if_pos hc2, if_neg hc4, if_pos hc24, if_pos hc26]), N22, K0, (by unfold f33_a3_0 f33_a3_1 f33_a3_2 f33_a3_3; simp only [if_pos hc2, if_neg hc4, if_pos hc24, if_pos hc26]; exact V_o)⟩ (by decide) (by decide)
    ·refine G (fun t k => XS.ifNo X22.here hx rfl (D d33_50) rfl ((if0 _ _).trans (feq hc26).1) (XS.aloadN X22.here hx rfl (D d33_53) rfl rfl (XS.iloadN X22.here hx rfl (D d33_54) rfl (XS.aloadN X22.here hx rfl (D d33_55) rfl rfl k)))) ?_
     refine sG T22 (mkF m 56 #[vr a1, vr a2, vr a3, vi 1] [(.ref a1), (.int 1), (.ref a3)]) ?_
     refine G (fun t k => XS.iconst X22.here hx rfl (D d33_56) k) ?_
     obtain ⟨cl27, Ar27, -, Sz27, Ng27, Hs27, -⟩ := id V_c
     have hin27 := inb_of (j := (3 : Int32)) (c := cl27) Sz27 ⟨by decide, by decide⟩
     refine G (fun t k => X22.caload hx (j := (3 : Int32)) (v := (.int v3)) (by rw [e22]; exact Ar27.1) (State.isArrayOf_alike hZ.alike Ar27.2.1) Ar27.2.2 hin27 (Has.at Hs27 hin27 rfl) (g := (mkF m 57 #[vr a1, vr a2, vr a3, vi 1] [(.int 3), (.ref a1), (.int 1), (.ref a3)])) rfl rfl (D d33_57) _ k) ?_
     clear hin27 Hs27 Ng27 Sz27 Ar27 cl27
     obtain ⟨cl28, Ar28, qq28, Sz28, Ng28, Hs28, Gs28⟩ := id V_o
     have hin28 := inb_of (j := (1 : Int32)) (c := cl28) Sz28 ⟨by decide, by decide⟩
     obtain ⟨T29, h29, X29, e29, W29, st29⟩ := stC X22 hx hZ e22 Ar28 (j := (1 : Int32)) hin28 (g := (mkF m 58 #[vr a1, vr a2, vr a3, vi 1] [(.int v3), (.int 1), (.ref a3)])) rfl rfl (D d33_58)
     refine G st29 ?_
     have N29 := Fr.snoc X29 N22 g_a3
     replace V_c := V_c.other W29 ne_a1_a3
     replace V_m := V_m.other W29 ne_a2_a3
     replace Z0 := Nat.le_trans Z0 (Nat.le_of_eq W29.size.symm)
     replace K0 := K0.wr W29 (Or.inl (by simp))
     replace V_o : Arv Z h29 a3 k_o .char (4 : Int32) [(.int (v1.toUInt32.toUInt16.toUInt32.toInt32)), (.int (v3.toUInt32.toUInt16.toUInt32.toInt32)), (.int (0 : Int32)), (.int (0 : Int32))] (.int (0 : Int32)) := Arv.set Ar28 qq28 Sz28 Ng28 Hs28 Gs28 (fits_nar_char _) W29 1 rfl (Nat.le_of_ble_eq_true rfl)
     clear hin28 Gs28 Hs28 Ng28 Sz28 qq28 Ar28 cl28
     refine G (fun t k => XS.iinc X29.here hx rfl (D d33_59) rfl (l' := #[vr a1, vr a2, vr a3, vi ((1 : Int32) + (1 : Int32))]) rfl (XS.iloadN X29.here hx rfl (D d33_62) rfl k)) ?_
     exact lfI (Q := Q33 Z a1 a2 a3 k_c v0 v1 v2 v3 k_m m0 m1 m2 m3 k_o h0 n0) Bd X29 e29 (D d33_63) (w := (2 : Int32)) ⟨(by unfold f33; simp only [if_pos hc2, if_neg hc4, if_pos hc24, if_neg hc26]), N29, K0, (by unfold f33_a3_0 f33_a3_1 f33_a3_2 f33_a3_3; simp only [if_pos hc2, if_neg hc4, if_pos hc24, if_neg hc26]; exact V_o)⟩ (by decide) (by decide)
   ·refine G (fun t k => XS.ifNo X22.here hx rfl (D d33_35) rfl ((if0 _ _).trans (feq hc24).1) k) ?_
    refine sG T22 (mkF m 38 #[vr a1, vr a2, vr a3, vi 1] []) ?_
    refine G (fun t k => XS.aloadN X22.here hx rfl (D d33_38) rfl rfl (XS.iloadN X22.here hx rfl (D d33_39) rfl (XS.aloadN X22.here hx rfl (D d33_40) rfl rfl (XS.iconst X22.here hx rfl (D d33_41) k)))) ?_
    obtain ⟨cl30, Ar30, -, Sz30, Ng30, Hs30, -⟩ := id V_c
    have hin30 := inb_of (j := (2 : Int32)) (c := cl30) Sz30 ⟨by decide, by decide⟩
    refine G (fun t k => X22.caload hx (j := (2 : Int32)) (v := (.int v2)) (by rw [e22]; exact Ar30.1) (State.isArrayOf_alike hZ.alike Ar30.2.1) Ar30.2.2 hin30 (Has.at Hs30 hin30 rfl) (g := (mkF m 42 #[vr a1, vr a2, vr a3, vi 1] [(.int 2), (.ref a1), (.int 1), (.ref a3)])) rfl rfl (D d33_42) _ k) ?_
    clear hin30 Hs30 Ng30 Sz30 Ar30 cl30
    obtain ⟨cl31, Ar31, qq31, Sz31, Ng31, Hs31, Gs31⟩ := id V_o
    have hin31 := inb_of (j := (1 : Int32)) (c := cl31) Sz31 ⟨by decide, by decide⟩
    obtain ⟨T32, h32, X32, e32, W32, st32⟩ := stC X22 hx hZ e22 Ar31 (j := (1 : Int32)) hin31 (g := (mkF m 43 #[vr a1, vr a2, vr a3, vi 1] [(.int v2), (.int 1), (.ref a3)])) rfl rfl (D d33_43)
    refine G st32 ?_
    have N32 := Fr.snoc X32 N22 g_a3
    replace V_c := V_c.other W32 ne_a1_a3
    replace V_m := V_m.other W32 ne_a2_a3
    replace Z0 := Nat.le_trans Z0 (Nat.le_of_eq W32.size.symm)
    replace K0 := K0.wr W32 (Or.inl (by simp))
    replace V_o : Arv Z h32 a3 k_o .char (4 : Int32) [(.int (v1.toUInt32.toUInt16.toUInt32.toInt32)), (.int (v2.toUInt32.toUInt16.toUInt32.toInt32)), (.int (0 : Int32)), (.int (0 : Int32))] (.int (0 : Int32)) := Arv.set Ar31 qq31 Sz31 Ng31 Hs31 Gs31 (fits_nar_char _) W32 1 rfl (Nat.le_of_ble_eq_true rfl)
    clear hin31 Gs31 Hs31 Ng31 Sz31 qq31 Ar31 cl31
    refine G (fun t k => XS.iinc X32.here hx rfl (D d33_44) rfl (l' := #[vr a1, vr a2, vr a3, vi ((1 : Int32) + (1 : Int32))]) rfl k) ?_
    refine sG T32 (mkF m 47 #[vr a1, vr a2, vr a3, vi 2] []) ?_
    refine G (fun t k => XS.aloadN X32.here hx rfl (D d33_47) rfl rfl (XS.iconst X32.here hx rfl (D d33_48) k)) ?_
    obtain ⟨cl33, Ar33, -, Sz33, Ng33, Hs33, -⟩ := id V_m
    have hin33 := inb_of (j := (3 : Int32)) (c := cl33) Sz33 ⟨by decide, by decide⟩
    refine G (fun t k => X32.baloadBooleans hx (j := (3 : Int32)) (v := (.int m3)) (by rw [e32]; exact Ar33.1) (State.isArrayOf_alike hZ.alike Ar33.2.1) Ar33.2.2 hin33 (Has.at Hs33 hin33 rfl) (g := (mkF m 49 #[vr a1, vr a2, vr a3, vi 2] [(.int 3), (.ref a2)])) rfl rfl (D d33_49) _ k) ?_
    clear hin33 Hs33 Ng33 Sz33 Ar33 cl33
    by_cases hc34 : m3 = (0 : Int32)
    ·refine G (fun t k => XS.ifYes X32.here hx rfl (pc0 := 50) (pc' := 62) rfl (D d33_50) rfl ((if0 _ _).trans (teq hc34).1) (by decide) (by decide) (XS.iloadN X32.here hx rfl (D d33_62) rfl k)) ?_
     exact lfI (Q := Q33 Z a1 a2 a3 k_c v0 v1 v2 v3 k_m m0 m1 m2 m3 k_o h0 n0) Bd X32 e32 (D d33_63) (w := (2 : Int32)) ⟨(by unfold f33; simp only [if_pos hc2, if_neg hc4, if_neg hc24, if_pos hc34]), N32, K0, (by unfold f33_a3_0 f33_a3_1 f33_a3_2 f33_a3_3; simp only [if_pos hc2, if_neg hc4, if_neg hc24, if_pos hc34]; exact V_o)⟩ (by decide) (by decide)
    ·refine G (fun t k => XS.ifNo X32.here hx rfl (D d33_50) rfl ((if0 _ _).trans (feq hc34).1) (XS.aloadN X32.here hx rfl (D d33_53) rfl rfl (XS.iloadN X32.here hx rfl (D d33_54) rfl (XS.aloadN X32.here hx rfl (D d33_55) rfl rfl k)))) ?_
     refine sG T32 (mkF m 56 #[vr a1, vr a2, vr a3, vi 2] [(.ref a1), (.int 2), (.ref a3)]) ?_
     refine G (fun t k => XS.iconst X32.here hx rfl (D d33_56) k) ?_
     obtain ⟨cl35, Ar35, -, Sz35, Ng35, Hs35, -⟩ := id V_c
     have hin35 := inb_of (j := (3 : Int32)) (c := cl35) Sz35 ⟨by decide, by decide⟩
     refine G (fun t k => X32.caload hx (j := (3 : Int32)) (v := (.int v3)) (by rw [e32]; exact Ar35.1) (State.isArrayOf_alike hZ.alike Ar35.2.1) Ar35.2.2 hin35 (Has.at Hs35 hin35 rfl) (g := (mkF m 57 #[vr a1, vr a2, vr a3, vi 2] [(.int 3), (.ref a1), (.int 2), (.ref a3)])) rfl rfl (D d33_57) _ k) ?_
     clear hin35 Hs35 Ng35 Sz35 Ar35 cl35
     obtain ⟨cl36, Ar36, qq36, Sz36, Ng36, Hs36, Gs36⟩ := id V_o
     have hin36 := inb_of (j := (2 : Int32)) (c := cl36) Sz36 ⟨by decide, by decide⟩
     obtain ⟨T37, h37, X37, e37, W37, st37⟩ := stC X32 hx hZ e32 Ar36 (j := (2 : Int32)) hin36 (g := (mkF m 58 #[vr a1, vr a2, vr a3, vi 2] [(.int v3), (.int 2), (.ref a3)])) rfl rfl (D d33_58)
     refine G st37 ?_
     have N37 := Fr.snoc X37 N32 g_a3
     replace V_c := V_c.other W37 ne_a1_a3
     replace V_m := V_m.other W37 ne_a2_a3
     replace Z0 := Nat.le_trans Z0 (Nat.le_of_eq W37.size.symm)
     replace K0 := K0.wr W37 (Or.inl (by simp))
     replace V_o : Arv Z h37 a3 k_o .char (4 : Int32) [(.int (v1.toUInt32.toUInt16.toUInt32.toInt32)), (.int (v2.toUInt32.toUInt16.toUInt32.toInt32)), (.int (v3.toUInt32.toUInt16.toUInt32.toInt32)), (.int (0 : Int32))] (.int (0 : Int32)) := Arv.set Ar36 qq36 Sz36 Ng36 Hs36 Gs36 (fits_nar_char _) W37 2 rfl (Nat.le_of_ble_eq_true rfl)
     clear hin36 Gs36 Hs36 Ng36 Sz36 qq36 Ar36 cl36
     refine G (fun t k => XS.iinc X37.here hx rfl (D d33_59) rfl (l' := #[vr a1, vr a2, vr a3, vi ((2 : Int32) + (1 : Int32))]) rfl (XS.iloadN X37.here hx rfl (D d33_62) rfl k)) ?_
     exact lfI (Q := Q33 Z a1 a2 a3 k_c v0 v1 v2 v3 k_m m0 m1 m2 m3 k_o h0 n0) Bd X37 e37 (D d33_63) (w := (3 : Int32)) ⟨(by unfold f33; simp only [if_pos hc2, if_neg hc4, if_neg hc24, if_neg hc34]), N37, K0, (by unfold f33_a3_0 f33_a3_1 f33_a3_2 f33_a3_3; simp only [if_pos hc2, if_neg hc4, if_neg hc24, if_neg hc34]; exact V_o)⟩ (by decide) (by decide)
 ·refine G (fun t k => XS.ifNo X0.here hx rfl (D d33_5) rfl ((if0 _ _).trans (feq hc2).1) (XS.aloadN X0.here hx rfl (D d33_8) rfl rfl k)) ?_
  refine sG s₁ (mkF m 9 #[vr a1, vr a2, vr a3, vi 0] [(.ref a3)]) ?_
  refine G (fun t k => XS.iloadN X0.here hx rfl (D d33_9) rfl (XS.aloadN X0.here hx rfl (D d33_10) rfl rfl (XS.iconst X0.here hx rfl (D d33_11) k))) ?_
  obtain ⟨cl38, Ar38, -, Sz38, Ng38, Hs38, -⟩ := id V_c
  have hin38 := inb_of (j := (0 : Int32)) (c := cl38) Sz38 ⟨by decide, by decide⟩
  refine G (fun t k => X0.caload hx (j := (0 : Int32)) (v := (.int v0)) (by rw [e0]; exact Ar38.1) (State.isArrayOf_alike hZ.alike Ar38.2.1) Ar38.2.2 hin38 (Has.at Hs38 hin38 rfl) (g := (mkF m 12 #[vr a1, vr a2, vr a3, vi 0] [(.int 0), (.ref a1), (.int 0), (.ref a3)])) rfl rfl (D d33_12) _ k) ?_
  clear hin38 Hs38 Ng38 Sz38 Ar38 cl38
  obtain ⟨cl39, Ar39, qq39, Sz39, Ng39, Hs39, Gs39⟩ := id V_o
  have hin39 := inb_of (j := (0 : Int32)) (c := cl39) Sz39 ⟨by decide, by decide⟩
  obtain ⟨T40, h40, X40, e40, W40, st40⟩ := stC X0 hx hZ e0 Ar39 (j := (0 : Int32)) hin39 (g := (mkF m 13 #[vr a1, vr a2, vr a3, vi 0] [(.int v0), (.int 0), (.ref a3)])) rfl rfl (D d33_13)
  refine G st40 ?_
  have N40 := Fr.snoc X40 N0 g_a3
  replace V_c := V_c.other W40 ne_a1_a3
  replace V_m := V_m.other W40 ne_a2_a3
  replace Z0 := Nat.le_trans Z0 (Nat.le_of_eq W40.size.symm)
  replace K0 := K0.wr W40 (Or.inl (by simp))
  replace V_o : Arv Z h40 a3 k_o .char (4 : Int32) [(.int (v0.toUInt32.toUInt16.toUInt32.toInt32)), (.int (0 : Int32)), (.int (0 : Int32)), (.int (0 : Int32))] (.int (0 : Int32)) := Arv.set Ar39 qq39 Sz39 Ng39 Hs39 Gs39 (fits_nar_char _) W40 0 rfl (Nat.le_of_ble_eq_true rfl)
  clear hin39 Gs39 Hs39 Ng39 Sz39 qq39 Ar39 cl39
  refine G (fun t k => XS.iinc X40.here hx rfl (D d33_14) rfl (l' := #[vr a1, vr a2, vr a3, vi ((0 : Int32) + (1 : Int32))]) rfl (XS.aloadN X40.here hx rfl (D d33_17) rfl rfl k)) ?_
  refine sG T40 (mkF m 18 #[vr a1, vr a2, vr a3, vi 1] [(.ref a2)]) ?_
  refine G (fun t k => XS.iconst X40.here hx rfl (D d33_18) k) ?_
  obtain ⟨cl41, Ar41, -, Sz41, Ng41, Hs41, -⟩ := id V_m
  have hin41 := inb_of (j := (1 : Int32)) (c := cl41) Sz41 ⟨by decide, by decide⟩
  refine G (fun t k => X40.baloadBooleans hx (j := (1 : Int32)) (v := (.int m1)) (by rw [e40]; exact Ar41.1) (State.isArrayOf_alike hZ.alike Ar41.2.1) Ar41.2.2 hin41 (Has.at Hs41 hin41 rfl) (g := (mkF m 19 #[vr a1, vr a2, vr a3, vi 1] [(.int 1), (.ref a2)])) rfl rfl (D d33_19) _ k) ?_
  clear hin41 Hs41 Ng41 Sz41 Ar41 cl41
  by_cases hc42 : m1 = (0 : Int32)
  ·refine G (fun t k => XS.ifYes X40.here hx rfl (pc0 := 20) (pc' := 32) rfl (D d33_20) rfl ((if0 _ _).trans (teq hc42).1) (by decide) (by decide) (XS.aloadN X40.here hx rfl (D d33_32) rfl rfl (XS.iconst X40.here hx rfl (D d33_33) k))) ?_
   obtain ⟨cl43, Ar43, -, Sz43, Ng43, Hs43, -⟩ := id V_m
   have hin43 := inb_of (j := (2 : Int32)) (c := cl43) Sz43 ⟨by decide, by decide⟩
   refine G (fun t k => X40.baloadBooleans hx (j := (2 : Int32)) (v := (.int m2)) (by rw [e40]; exact Ar43.1) (State.isArrayOf_alike hZ.alike Ar43.2.1) Ar43.2.2 hin43 (Has.at Hs43 hin43 rfl) (g := (mkF m 34 #[vr a1, vr a2, vr a3, vi 1] [(.int 2), (.ref a2)])) rfl rfl (D d33_34) _ k) ?_
   clear hin43 Hs43 Ng43 Sz43 Ar43 cl43
   by_cases hc44 : m2 = (0 : Int32)
   ·refine G (fun t k => XS.ifYes X40.here hx rfl (pc0 := 35) (pc' := 47) rfl (D d33_35) rfl ((if0 _ _).trans (teq hc44).1) (by decide) (by decide) k) ?_
    refine sG T40 (mkF m 47 #[vr a1, vr a2, vr a3, vi 1] []) ?_
    refine G (fun t k => XS.aloadN X40.here hx rfl (D d33_47) rfl rfl (XS.iconst X40.here hx rfl (D d33_48) k)) ?_
    obtain ⟨cl45, Ar45, -, Sz45, Ng45, Hs45, -⟩ := id V_m
    have hin45 := inb_of (j := (3 : Int32)) (c := cl45) Sz45 ⟨by decide, by decide⟩
    refine G (fun t k => X40.baloadBooleans hx (j := (3 : Int32)) (v := (.int m3)) (by rw [e40]; exact Ar45.1) (State.isArrayOf_alike hZ.alike Ar45.2.1) Ar45.2.2 hin45 (Has.at Hs45 hin45 rfl) (g := (mkF m 49 #[vr a1, vr a2, vr a3, vi 1] [(.int 3), (.ref a2)])) rfl rfl (D d33_49) _ k) ?_
    clear hin45 Hs45 Ng45 Sz45 Ar45 cl45
    by_cases hc46 : m3 = (0 : Int32)
    ·refine G (fun t k => XS.ifYes X40.here hx rfl (pc0 := 50) (pc' := 62) rfl (D d33_50) rfl ((if0 _ _).trans (teq hc46).1) (by decide) (by decide) (XS.iloadN X40.here hx rfl (D d33_62) rfl k)) ?_
     exact lfI (Q := Q33 Z a1 a2 a3 k_c v0 v1 v2 v3 k_m m0 m1 m2 m3 k_o h0 n0) Bd X40 e40 (D d33_63) (w := (1 : Int32)) ⟨(by unfold f33; simp only [if_neg hc2, if_pos hc42, if_pos hc44, if_pos hc46]), N40, K0, (by unfold f33_a3_0 f33_a3_1 f33_a3_2 f33_a3_3; simp only [if_neg hc2, if_pos hc42, if_pos hc44, if_pos hc46]; exact V_o)⟩ (by decide) (by decide)
    ·refine G (fun t k => XS.ifNo X40.here hx rfl (D d33_50) rfl ((if0 _ _).trans (feq hc46).1) (XS.aloadN X40.here hx rfl (D d33_53) rfl rfl (XS.iloadN X40.here hx rfl (D d33_54) rfl (XS.aloadN X40.here hx rfl (D d33_55) rfl rfl k)))) ?_
     refine sG T40 (mkF m 56 #[vr a1, vr a2, vr a3, vi 1] [(.ref a1), (.int 1), (.ref a3)]) ?_
     refine G (fun t k => XS.iconst X40.here hx rfl (D d33_56) k) ?_
     obtain ⟨cl47, Ar47, -, Sz47, Ng47, Hs47, -⟩ := id V_c
     have hin47 := inb_of (j := (3 : Int32)) (c := cl47) Sz47 ⟨by decide, by decide⟩
     refine G (fun t k => X40.caload hx (j := (3 : Int32)) (v := (.int v3)) (by rw [e40]; exact Ar47.1) (State.isArrayOf_alike hZ.alike Ar47.2.1) Ar47.2.2 hin47 (Has.at Hs47 hin47 rfl) (g := (mkF m 57 #[vr a1, vr a2, vr a3, vi 1] [(.int 3), (.ref a1), (.int 1), (.ref a3)])) rfl rfl (D d33_57) _ k) ?_
     clear hin47 Hs47 Ng47 Sz47 Ar47 cl47
     obtain ⟨cl48, Ar48, qq48, Sz48, Ng48, Hs48, Gs48⟩ := id V_o
     have hin48 := inb_of (j := (1 : Int32)) (c := cl48) Sz48 ⟨by decide, by decide⟩
     obtain ⟨T49, h49, X49, e49, W49, st49⟩ := stC X40 hx hZ e40 Ar48 (j := (1 : Int32)) hin48 (g := (mkF m 58 #[vr a1, vr a2, vr a3, vi 1] [(.int v3), (.int 1), (.ref a3)])) rfl rfl (D d33_58)
     refine G st49 ?_
     have N49 := Fr.snoc X49 N40 g_a3
     replace V_c := V_c.other W49 ne_a1_a3
     replace V_m := V_m.other W49 ne_a2_a3
     replace Z0 := Nat.le_trans Z0 (Nat.le_of_eq W49.size.symm)
     replace K0 := K0.wr W49 (Or.inl (by simp))
     replace V_o : Arv Z h49 a3 k_o .char (4 : Int32) [(.int (v0.toUInt32.toUInt16.toUInt32.toInt32)), (.int (v3.toUInt32.toUInt16.toUInt32.toInt32)), (.int (0 : Int32)), (.int (0 : Int32))] (.int (0 : Int32)) := Arv.set Ar48 qq48 Sz48 Ng48 Hs48 Gs48 (fits_nar_char _) W49 1 rfl (Nat.le_of_ble_eq_true rfl)
     clear hin48 Gs48 Hs48 Ng48 Sz48 qq48 Ar48 cl48
     refine G (fun t k => XS.iinc X49.here hx rfl (D d33_59) rfl (l' := #[vr a1, vr a2, vr a3, vi ((1 : Int32) + (1 : Int32))]) rfl (XS.iloadN X49.here hx rfl (D d33_62) rfl k)) ?_
     exact lfI (Q := Q33 Z a1 a2 a3 k_c v0 v1 v2 v3 k_m m0 m1 m2 m3 k_o h0 n0) Bd X49 e49 (D d33_63) (w := (2 : Int32)) ⟨(by unfold f33; simp only [if_neg hc2, if_pos hc42, if_pos hc44, if_neg hc46]), N49, K0, (by unfold f33_a3_0 f33_a3_1 f33_a3_2 f33_a3_3; simp only [if_neg hc2, if_pos hc42, if_pos hc44, if_neg hc46]; exact V_o)⟩ (by decide) (by decide)
   ·refine G (fun t k => XS.ifNo X40.here hx rfl (D d33_35) rfl ((if0 _ _).trans (feq hc44).1) k) ?_
    refine sG T40 (mkF m 38 #[vr a1, vr a2, vr a3, vi 1] []) ?_
    refine G (fun t k => XS.aloadN X40.here hx rfl (D d33_38) rfl rfl (XS.iloadN X40.here hx rfl (D d33_39) rfl (XS.aloadN X40.here hx rfl (D d33_40) rfl rfl (XS.iconst X40.here hx rfl (D d33_41) k)))) ?_
    obtain ⟨cl50, Ar50, -, Sz50, Ng50, Hs50, -⟩ := id V_c
    have hin50 := inb_of (j := (2 : Int32)) (c := cl50) Sz50 ⟨by decide, by decide⟩
    refine G (fun t k => X40.caload hx (j := (2 : Int32)) (v := (.int v2)) (by rw [e40]; exact Ar50.1) (State.isArrayOf_alike hZ.alike Ar50.2.1) Ar50.2.2 hin50 (Has.at Hs50 hin50 rfl) (g := (mkF m 42 #[vr a1, vr a2, vr a3, vi 1] [(.int 2), (.ref a1), (.int 1), (.ref a3)])) rfl rfl (D d33_42) _ k) ?_
    clear hin50 Hs50 Ng50 Sz50 Ar50 cl50
    obtain ⟨cl51, Ar51, qq51, Sz51, Ng51, Hs51, Gs51⟩ := id V_o
    have hin51 := inb_of (j := (1 : Int32)) (c := cl51) Sz51 ⟨by decide, by decide⟩
    obtain ⟨T52, h52, X52, e52, W52, st52⟩ := stC X40 hx hZ e40 Ar51 (j := (1 : Int32)) hin51 (g := (mkF m 43 #[vr a1, vr a2, vr a3, vi 1] [(.int v2), (.int 1), (.ref a3)])) rfl rfl (D d33_43)
    refine G st52 ?_
    have N52 := Fr.snoc X52 N40 g_a3
    replace V_c := V_c.other W52 ne_a1_a3
    replace V_m := V_m.other W52 ne_a2_a3
    replace Z0 := Nat.le_trans Z0 (Nat.le_of_eq W52.size.symm)
    replace K0 := K0.wr W52 (Or.inl (by simp))
    replace V_o : Arv Z h52 a3 k_o .char (4 : Int32) [(.int (v0.toUInt32.toUInt16.toUInt32.toInt32)), (.int (v2.toUInt32.toUInt16.toUInt32.toInt32)), (.int (0 : Int32)), (.int (0 : Int32))] (.int (0 : Int32)) := Arv.set Ar51 qq51 Sz51 Ng51 Hs51 Gs51 (fits_nar_char _) W52 1 rfl (Nat.le_of_ble_eq_true rfl)
    clear hin51 Gs51 Hs51 Ng51 Sz51 qq51 Ar51 cl51
    refine G (fun t k => XS.iinc X52.here hx rfl (D d33_44) rfl (l' := #[vr a1, vr a2, vr a3, vi ((1 : Int32) + (1 : Int32))]) rfl k) ?_
    refine sG T52 (mkF m 47 #[vr a1, vr a2, vr a3, vi 2] []) ?_
    refine G (fun t k => XS.aloadN X52.here hx rfl (D d33_47) rfl rfl (XS.iconst X52.here hx rfl (D d33_48) k)) ?_
    obtain ⟨cl53, Ar53, -, Sz53, Ng53, Hs53, -⟩ := id V_m
    have hin53 := inb_of (j := (3 : Int32)) (c := cl53) Sz53 ⟨by decide, by decide⟩
    refine G (fun t k => X52.baloadBooleans hx (j := (3 : Int32)) (v := (.int m3)) (by rw [e52]; exact Ar53.1) (State.isArrayOf_alike hZ.alike Ar53.2.1) Ar53.2.2 hin53 (Has.at Hs53 hin53 rfl) (g := (mkF m 49 #[vr a1, vr a2, vr a3, vi 2] [(.int 3), (.ref a2)])) rfl rfl (D d33_49) _ k) ?_
    clear hin53 Hs53 Ng53 Sz53 Ar53 cl53
    by_cases hc54 : m3 = (0 : Int32)
    ·refine G (fun t k => XS.ifYes X52.here hx rfl (pc0 := 50) (pc' := 62) rfl (D d33_50) rfl ((if0 _ _).trans (teq hc54).1) (by decide) (by decide) (XS.iloadN X52.here hx rfl (D d33_62) rfl k)) ?_
     exact lfI (Q := Q33 Z a1 a2 a3 k_c v0 v1 v2 v3 k_m m0 m1 m2 m3 k_o h0 n0) Bd X52 e52 (D d33_63) (w := (2 : Int32)) ⟨(by unfold f33; simp only [if_neg hc2, if_pos hc42, if_neg hc44, if_pos hc54]), N52, K0, (by unfold f33_a3_0 f33_a3_1 f33_a3_2 f33_a3_3; simp only [if_neg hc2, if_pos hc42, if_neg hc44, if_pos hc54]; exact V_o)⟩ (by decide) (by decide)
    ·refine G (fun t k => XS.ifNo X52.here hx rfl (D d33_50) rfl ((if0 _ _).trans (feq hc54).1) (XS.aloadN X52.here hx rfl (D d33_53) rfl rfl (XS.iloadN X52.here hx rfl (D d33_54) rfl (XS.aloadN X52.here hx rfl (D d33_55) rfl rfl k)))) ?_
     refine sG T52 (mkF m 56 #[vr a1, vr a2, vr a3, vi 2] [(.ref a1), (.int 2), (.ref a3)]) ?_
     refine G (fun t k => XS.iconst X52.here hx rfl (D d33_56) k) ?_
     obtain ⟨cl55, Ar55, -, Sz55, Ng55, Hs55, -⟩ := id V_c
     have hin55 := inb_of (j := (3 : Int32)) (c := cl55) Sz55 ⟨by decide, by decide⟩
     refine G (fun t k => X52.caload hx (j := (3 : Int32)) (v := (.int v3)) (by rw [e52]; exact Ar55.1) (State.isArrayOf_alike hZ.alike Ar55.2.1) Ar55.2.2 hin55 (Has.at Hs55 hin55 rfl) (g := (mkF m 57 #[vr a1, vr a2, vr a3, vi 2] [(.int 3), (.ref a1), (.int 2), (.ref a3)])) rfl rfl (D d33_57) _ k) ?_
     clear hin55 Hs55 Ng55 Sz55 Ar55 cl55
     obtain ⟨cl56, Ar56, qq56, Sz56, Ng56, Hs56, Gs56⟩ := id V_o
     have hin56 := inb_of (j := (2 : Int32)) (c := cl56) Sz56 ⟨by decide, by decide⟩
     obtain ⟨T57, h57, X57, e57, W57, st57⟩ := stC X52 hx hZ e52 Ar56 (j := (2 : Int32)) hin56 (g := (mkF m 58 #[vr a1, vr a2, vr a3, vi 2] [(.int v3), (.int 2), (.ref a3)])) rfl rfl (D d33_58)
     refine G st57 ?_
     have N57 := Fr.snoc X57 N52 g_a3
     replace V_c := V_c.other W57 ne_a1_a3
     replace V_m := V_m.other W57 ne_a2_a3
     replace Z0 := Nat.le_trans Z0 (Nat.le_of_eq W57.size.symm)
     replace K0 := K0.wr W57 (Or.inl (by simp))
     replace V_o : Arv Z h57 a3 k_o .char (4 : Int32) [(.int (v0.toUInt32.toUInt16.toUInt32.toInt32)), (.int (v2.toUInt32.toUInt16.toUInt32.toInt32)), (.int (v3.toUInt32.toUInt16.toUInt32.toInt32)), (.int (0 : Int32))] (.int (0 : Int32)) := Arv.set Ar56 qq56 Sz56 Ng56 Hs56 Gs56 (fits_nar_char _) W57 2 rfl (Nat.le_of_ble_eq_true rfl)
     clear hin56 Gs56 Hs56 Ng56 Sz56 qq56 Ar56 cl56
     refine G (fun t k => XS.iinc X57.here hx rfl (D d33_59) rfl (l' := #[vr a1, vr a2, vr a3, vi ((2 : Int32) + (1 : Int32))]) rfl (XS.iloadN X57.here hx rfl (D d33_62) rfl k)) ?_
     exact lfI (Q := Q33 Z a1 a2 a3 k_c v0 v1 v2 v3 k_m m0 m1 m2 m3 k_o h0 n0) Bd X57 e57 (D d33_63) (w := (3 : Int32)) ⟨(by unfold f33; simp only [if_neg hc2, if_pos hc42, if_neg hc44, if_neg hc54]), N57, K0, (by unfold f33_a3_0 f33_a3_1 f33_a3_2 f33_a3_3; simp only [if_neg hc2, if_pos hc42, if_neg hc44, if_neg hc54]; exact V_o)⟩ (by decide) (by decide)
  ·refine G (fun t k => XS.ifNo X40.here hx rfl (D d33_20) rfl ((if0 _ _).trans (feq hc42).1) (XS.aloadN X40.here hx rfl (D d33_23) rfl rfl (XS.iloadN X40.here hx rfl (D d33_24) rfl (XS.aloadN X40.here hx rfl (D d33_25) rfl rfl (XS.iconst X40.here hx rfl (D d33_26) k))))) ?_
   refine sG T40 (mkF m 27 #[vr a1, vr a2, vr a3, vi 1] [(.int 1), (.ref a1), (.int 1), (.ref a3)]) ?_
   obtain ⟨cl58, Ar58, -, Sz58, Ng58, Hs58, -⟩ := id V_c
   have hin58 := inb_of (j := (1 : Int32)) (c := cl58) Sz58 ⟨by decide, by decide⟩
   refine G (fun t k => X40.caload hx (j := (1 : Int32)) (v := (.int v1)) (by rw [e40]; exact Ar58.1) (State.isArrayOf_alike hZ.alike Ar58.2.1) Ar58.2.2 hin58 (Has.at Hs58 hin58 rfl) (g := (mkF m 27 #[vr a1, vr a2, vr a3, vi 1] [(.int 1), (.ref a1), (.int 1), (.ref a3)])) rfl rfl (D d33_27) _ k) ?_
   clear hin58 Hs58 Ng58 Sz58 Ar58 cl58
   obtain ⟨cl59, Ar59, qq59, Sz59, Ng59, Hs59, Gs59⟩ := id V_o
   have hin59 := inb_of (j := (1 : Int32)) (c := cl59) Sz59 ⟨by decide, by decide⟩
   obtain ⟨T60, h60, X60, e60, W60, st60⟩ := stC X40 hx hZ e40 Ar59 (j := (1 : Int32)) hin59 (g := (mkF m 28 #[vr a1, vr a2, vr a3, vi 1] [(.int v1), (.int 1), (.ref a3)])) rfl rfl (D d33_28)
   refine G st60 ?_
   have N60 := Fr.snoc X60 N40 g_a3
   replace V_c := V_c.other W60 ne_a1_a3
   replace V_m := V_m.other W60 ne_a2_a3
   replace Z0 := Nat.le_trans Z0 (Nat.le_of_eq W60.size.symm)
   replace K0 := K0.wr W60 (Or.inl (by simp))
   replace V_o : Arv Z h60 a3 k_o .char (4 : Int32) [(.int (v0.toUInt32.toUInt16.toUInt32.toInt32)), (.int (v1.toUInt32.toUInt16.toUInt32.toInt32)), (.int (0 : Int32)), (.int (0 : Int32))] (.int (0 : Int32)) := Arv.set Ar59 qq59 Sz59 Ng59 Hs59 Gs59 (fits_nar_char _) W60 1 rfl (Nat.le_of_ble_eq_true rfl)
   clear hin59 Gs59 Hs59 Ng59 Sz59 qq59 Ar59 cl59
   refine G (fun t k => XS.iinc X60.here hx rfl (D d33_29) rfl (l' := #[vr a1, vr a2, vr a3, vi ((1 : Int32) + (1 : Int32))]) rfl (XS.aloadN X60.here hx rfl (D d33_32) rfl rfl (XS.iconst X60.here hx rfl (D d33_33) k))) ?_
   obtain ⟨cl61, Ar61, -, Sz61, Ng61, Hs61, -⟩ := id V_m
   have hin61 := inb_of (j := (2 : Int32)) (c := cl61) Sz61 ⟨by decide, by decide⟩
   refine G (fun t k => X60.baloadBooleans hx (j := (2 : Int32)) (v := (.int m2)) (by rw [e60]; exact Ar61.1) (State.isArrayOf_alike hZ.alike Ar61.2.1) Ar61.2.2 hin61 (Has.at Hs61 hin61 rfl) (g := (mkF m 34 #[vr a1, vr a2, vr a3, vi 2] [(.int 2), (.ref a2)])) rfl rfl (D d33_34) _ k) ?_
   clear hin61 Hs61 Ng61 Sz61 Ar61 cl61
   by_cases hc62 : m2 = (0 : Int32)
   ·refine G (fun t k => XS.ifYes X60.here hx rfl (pc0 := 35) (pc' := 47) rfl (D d33_35) rfl ((if0 _ _).trans (teq hc62).1) (by decide) (by decide) k) ?_
    refine sG T60 (mkF m 47 #[vr a1, vr a2, vr a3, vi 2] []) ?_
    refine G (fun t k => XS.aloadN X60.here hx rfl (D d33_47) rfl rfl (XS.iconst X60.here hx rfl (D d33_48) k)) ?_
    obtain ⟨cl63, Ar63, -, Sz63, Ng63, Hs63, -⟩ := id V_m
    have hin63 := inb_of (j := (3 : Int32)) (c := cl63) Sz63 ⟨by decide, by decide⟩
    refine G (fun t k => X60.baloadBooleans hx (j := (3 : Int32)) (v := (.int m3)) (by rw [e60]; exact Ar63.1) (State.isArrayOf_alike hZ.alike Ar63.2.1) Ar63.2.2 hin63 (Has.at Hs63 hin63 rfl) (g := (mkF m 49 #[vr a1, vr a2, vr a3, vi 2] [(.int 3), (.ref a2)])) rfl rfl (D d33_49) _ k) ?_
    clear hin63 Hs63 Ng63 Sz63 Ar63 cl63
    by_cases hc64 : m3 = (0 : Int32)
    ·refine G (fun t k => XS.ifYes X60.here hx rfl (pc0 := 50) (pc' := 62) rfl (D d33_50) rfl ((if0 _ _).trans (teq hc64).1) (by decide) (by decide) (XS.iloadN X60.here hx rfl (D d33_62) rfl k)) ?_
     exact lfI (Q := Q33 Z a1 a2 a3 k_c v0 v1 v2 v3 k_m m0 m1 m2 m3 k_o h0 n0) Bd X60 e60 (D d33_63) (w := (2 : Int32)) ⟨(by unfold f33; simp only [if_neg hc2, if_neg hc42, if_pos hc62, if_pos hc64]), N60, K0, (by unfold f33_a3_0 f33_a3_1 f33_a3_2 f33_a3_3; simp only [if_neg hc2, if_neg hc42, if_pos hc62, if_pos hc64]; exact V_o)⟩ (by decide) (by decide)
    ·refine G (fun t k => XS.ifNo X60.here hx rfl (D d33_50) rfl ((if0 _ _).trans (feq hc64).1) (XS.aloadN X60.here hx rfl (D d33_53) rfl rfl (XS.iloadN X60.here hx rfl (D d33_54) rfl (XS.aloadN X60.here hx rfl (D d33_55) rfl rfl k)))) ?_
     refine sG T60 (mkF m 56 #[vr a1, vr a2, vr a3, vi 2] [(.ref a1), (.int 2), (.ref a3)]) ?_
     refine G (fun t k => XS.iconst X60.here hx rfl (D d33_56) k) ?_
     obtain ⟨cl65, Ar65, -, Sz65, Ng65, Hs65, -⟩ := id V_c
     have hin65 := inb_of (j := (3 : Int32)) (c := cl65) Sz65 ⟨by decide, by decide⟩
     refine G (fun t k => X60.caload hx (j := (3 : Int32)) (v := (.int v3)) (by rw [e60]; exact Ar65.1) (State.isArrayOf_alike hZ.alike Ar65.2.1) Ar65.2.2 hin65 (Has.at Hs65 hin65 rfl) (g := (mkF m 57 #[vr a1, vr a2, vr a3, vi 2] [(.int 3), (.ref a1), (.int 2), (.ref a3)])) rfl rfl (D d33_57) _ k) ?_
     clear hin65 Hs65 Ng65 Sz65 Ar65 cl65
     obtain ⟨cl66, Ar66, qq66, Sz66, Ng66, Hs66, Gs66⟩ := id V_o
     have hin66 := inb_of (j := (2 : Int32)) (c := cl66) Sz66 ⟨by decide, by decide⟩
     obtain ⟨T67, h67, X67, e67, W67, st67⟩ := stC X60 hx hZ e60 Ar66 (j := (2 : Int32)) hin66 (g := (mkF m 58 #[vr a1, vr a2, vr a3, vi 2] [(.int v3), (.int 2), (.ref a3)])) rfl rfl (D d33_58)
     refine G st67 ?_
     have N67 := Fr.snoc X67 N60 g_a3
     replace V_c := V_c.other W67 ne_a1_a3
     replace V_m := V_m.other W67 ne_a2_a3
     replace Z0 := Nat.le_trans Z0 (Nat.le_of_eq W67.size.symm)
     replace K0 := K0.wr W67 (Or.inl (by simp))
     replace V_o : Arv Z h67 a3 k_o .char (4 : Int32) [(.int (v0.toUInt32.toUInt16.toUInt32.toInt32)), (.int (v1.toUInt32.toUInt16.toUInt32.toInt32)), (.int (v3.toUInt32.toUInt16.toUInt32.toInt32)), (.int (0 : Int32))] (.int (0 : Int32)) := Arv.set Ar66 qq66 Sz66 Ng66 Hs66 Gs66 (fits_nar_char _) W67 2 rfl (Nat.le_of_ble_eq_true rfl)
     clear hin66 Gs66 Hs66 Ng66 Sz66 qq66 Ar66 cl66
     refine G (fun t k => XS.iinc X67.here hx rfl (D d33_59) rfl (l' := #[vr a1, vr a2, vr a3, vi ((2 : Int32) + (1 : Int32))]) rfl (XS.iloadN X67.here hx rfl (D d33_62) rfl k)) ?_
     exact lfI (Q := Q33 Z a1 a2 a3 k_c v0 v1 v2 v3 k_m m0 m1 m2 m3 k_o h0 n0) Bd X67 e67 (D d33_63) (w := (3 : Int32)) ⟨(by unfold f33; simp only [if_neg hc2, if_neg hc42, if_pos hc62, if_neg hc64]), N67, K0, (by unfold f33_a3_0 f33_a3_1 f33_a3_2 f33_a3_3; simp only [if_neg hc2, if_neg hc42, if_pos hc62, if_neg hc64]; exact V_o)⟩ (by decide) (by decide)
   ·refine G (fun t k => XS.ifNo X60.here hx rfl (D d33_35) rfl ((if0 _ _).trans (feq hc62).1) k) ?_
    refine sG T60 (mkF m 38 #[vr a1, vr a2, vr a3, vi 2] []) ?_
    refine G (fun t k => XS.aloadN X60.here hx rfl (D d33_38) rfl rfl (XS.iloadN X60.here hx rfl (D d33_39) rfl (XS.aloadN X60.here hx rfl (D d33_40) rfl rfl (XS.iconst X60.here hx rfl (D d33_41) k)))) ?_
    obtain ⟨cl68, Ar68, -, Sz68, Ng68, Hs68, -⟩ := id V_c
    have hin68 := inb_of (j := (2 : Int32)) (c := cl68) Sz68 ⟨by decide, by decide⟩
    refine G (fun t k => X60.caload hx (j := (2 : Int32)) (v := (.int v2)) (by rw [e60]; exact Ar68.1) (State.isArrayOf_alike hZ.alike Ar68.2.1) Ar68.2.2 hin68 (Has.at Hs68 hin68 rfl) (g := (mkF m 42 #[vr a1, vr a2, vr a3, vi 2] [(.int 2), (.ref a1), (.int 2), (.ref a3)])) rfl rfl (D d33_42) _ k) ?_
    clear hin68 Hs68 Ng68 Sz68 Ar68 cl68
    obtain ⟨cl69, Ar69, qq69, Sz69, Ng69, Hs69, Gs69⟩ := id V_o
    have hin69 := inb_of (j := (2 : Int32)) (c := cl69) Sz69 ⟨by decide, by decide⟩
    obtain ⟨T70, h70, X70, e70, W70, st70⟩ := stC X60 hx hZ e60 Ar69 (j := (2 : Int32)) hin69 (g := (mkF m 43 #[vr a1, vr a2, vr a3, vi 2] [(.int v2), (.int 2), (.ref a3)])) rfl rfl (D d33_43)
    refine G st70 ?_
    have N70 := Fr.snoc X70 N60 g_a3
    replace V_c := V_c.other W70 ne_a1_a3
    replace V_m := V_m.other W70 ne_a2_a3
    replace Z0 := Nat.le_trans Z0 (Nat.le_of_eq W70.size.symm)
    replace K0 := K0.wr W70 (Or.inl (by simp))
    replace V_o : Arv Z h70 a3 k_o .char (4 : Int32) [(.int (v0.toUInt32.toUInt16.toUInt32.toInt32)), (.int (v1.toUInt32.toUInt16.toUInt32.toInt32)), (.int (v2.toUInt32.toUInt16.toUInt32.toInt32)), (.int (0 : Int32))] (.int (0 : Int32)) := Arv.set Ar69 qq69 Sz69 Ng69 Hs69 Gs69 (fits_nar_char _) W70 2 rfl (Nat.le_of_ble_eq_true rfl)
    clear hin69 Gs69 Hs69 Ng69 Sz69 qq69 Ar69 cl69
    refine G (fun t k => XS.iinc X70.here hx rfl (D d33_44) rfl (l' := #[vr a1, vr a2, vr a3, vi ((2 : Int32) + (1 : Int32))]) rfl k) ?_
    refine sG T70 (mkF m 47 #[vr a1, vr a2, vr a3, vi 3] []) ?_
    refine G (fun t k => XS.aloadN X70.here hx rfl (D d33_47) rfl rfl (XS.iconst X70.here hx rfl (D d33_48) k)) ?_
    obtain ⟨cl71, Ar71, -, Sz71, Ng71, Hs71, -⟩ := id V_m
    have hin71 := inb_of (j := (3 : Int32)) (c := cl71) Sz71 ⟨by decide, by decide⟩
    refine G (fun t k => X70.baloadBooleans hx (j := (3 : Int32)) (v := (.int m3)) (by rw [e70]; exact Ar71.1) (State.isArrayOf_alike hZ.alike Ar71.2.1) Ar71.2.2 hin71 (Has.at Hs71 hin71 rfl) (g := (mkF m 49 #[vr a1, vr a2, vr a3, vi 3] [(.int 3), (.ref a2)])) rfl rfl (D d33_49) _ k) ?_
    clear hin71 Hs71 Ng71 Sz71 Ar71 cl71
    by_cases hc72 : m3 = (0 : Int32)
    ·refine G (fun t k => XS.ifYes X70.here hx rfl (pc0 := 50) (pc' := 62) rfl (D d33_50) rfl ((if0 _ _).trans (teq hc72).1) (by decide) (by decide) (XS.iloadN X70.here hx rfl (D d33_62) rfl k)) ?_
     exact lfI (Q := Q33 Z a1 a2 a3 k_c v0 v1 v2 v3 k_m m0 m1 m2 m3 k_o h0 n0) Bd X70 e70 (D d33_63) (w := (3 : Int32)) ⟨(by unfold f33; simp only [if_neg hc2, if_neg hc42, if_neg hc62, if_pos hc72]), N70, K0, (by unfold f33_a3_0 f33_a3_1 f33_a3_2 f33_a3_3; simp only [if_neg hc2, if_neg hc42, if_neg hc62, if_pos hc72]; exact V_o)⟩ (by decide) (by decide)
    ·refine G (fun t k => XS.ifNo X70.here hx rfl (D d33_50) rfl ((if0 _ _).trans (feq hc72).1) (XS.aloadN X70.here hx rfl (D d33_53) rfl rfl (XS.iloadN X70.here hx rfl (D d33_54) rfl (XS.aloadN X70.here hx rfl (D d33_55) rfl rfl k)))) ?_
     refine sG T70 (mkF m 56 #[vr a1, vr a2, vr a3, vi 3] [(.ref a1), (.int 3), (.ref a3)]) ?_
     refine G (fun t k => XS.iconst X70.here hx rfl (D d33_56) k) ?_
     obtain ⟨cl73, Ar73, -, Sz73, Ng73, Hs73, -⟩ := id V_c
     have hin73 := inb_of (j := (3 : Int32)) (c := cl73) Sz73 ⟨by decide, by decide⟩
     refine G (fun t k => X70.caload hx (j := (3 : Int32)) (v := (.int v3)) (by rw [e70]; exact Ar73.1) (State.isArrayOf_alike hZ.alike Ar73.2.1) Ar73.2.2 hin73 (Has.at Hs73 hin73 rfl) (g := (mkF m 57 #[vr a1, vr a2, vr a3, vi 3] [(.int 3), (.ref a1), (.int 3), (.ref a3)])) rfl rfl (D d33_57) _ k) ?_
     clear hin73 Hs73 Ng73 Sz73 Ar73 cl73
     obtain ⟨cl74, Ar74, qq74, Sz74, Ng74, Hs74, Gs74⟩ := id V_o
     have hin74 := inb_of (j := (3 : Int32)) (c := cl74) Sz74 ⟨by decide, by decide⟩
     obtain ⟨T75, h75, X75, e75, W75, st75⟩ := stC X70 hx hZ e70 Ar74 (j := (3 : Int32)) hin74 (g := (mkF m 58 #[vr a1, vr a2, vr a3, vi 3] [(.int v3), (.int 3), (.ref a3)])) rfl rfl (D d33_58)
     refine G st75 ?_
     have N75 := Fr.snoc X75 N70 g_a3
     obtain ⟨LL75, X75, N75⟩ : ∃ LL, Stand p l e (Rm 0 0 0 0) s m #[(.ref a1), (.ref a2), (.ref a3)] below meth c T75 LL 0 0 ∧ Fr n0 LL := ⟨_, X75, N75⟩
     replace V_c := V_c.other W75 ne_a1_a3
     replace V_m := V_m.other W75 ne_a2_a3
     replace Z0 := Nat.le_trans Z0 (Nat.le_of_eq W75.size.symm)
     replace K0 := K0.wr W75 (Or.inl (by simp))
     replace V_o : Arv Z h75 a3 k_o .char (4 : Int32) [(.int (v0.toUInt32.toUInt16.toUInt32.toInt32)), (.int (v1.toUInt32.toUInt16.toUInt32.toInt32)), (.int (v2.toUInt32.toUInt16.toUInt32.toInt32)), (.int (v3.toUInt32.toUInt16.toUInt32.toInt32))] (.int (0 : Int32)) := Arv.set Ar74 qq74 Sz74 Ng74 Hs74 Gs74 (fits_nar_char _) W75 3 rfl (Nat.le_of_ble_eq_true rfl)
     clear hin74 Gs74 Hs74 Ng74 Sz74 qq74 Ar74 cl74
     refine G (fun t k => XS.iinc X75.here hx rfl (D d33_59) rfl (l' := #[vr a1, vr a2, vr a3, vi ((3 : Int32) + (1 : Int32))]) rfl (XS.iloadN X75.here hx rfl (D d33_62) rfl k)) ?_
     exact lfI (Q := Q33 Z a1 a2 a3 k_c v0 v1 v2 v3 k_m m0 m1 m2 m3 k_o h0 n0) Bd X75 e75 (D d33_63) (w := (4 : Int32)) ⟨(by unfold f33; simp only [if_neg hc2, if_neg hc42, if_neg hc62, if_neg hc72]), N75, K0, (by unfold f33_a3_0 f33_a3_1 f33_a3_2 f33_a3_3; simp only [if_neg hc2, if_neg hc42, if_neg hc62, if_neg hc72]; exact V_o)⟩ (by decide) (by decide)
theorem d37_0 : dc cB37 0 (.aload_n 0) 1 := by decide +kernel
theorem d37_1 : dc cB37 1 (.invokevirtual 12) 3 := by decide +kernel
theorem wd181 {Z a0} (hw : HW a0 Z) : (Cond.methodLink LW (12 : Nat) y_7).before a0 Z = true := mw hw 181 rfl
theorem d37_4 : dc cB37 4 (.iload_n 2) 1 := by decide +kernel
theorem d37_5 : dc cB37 5 (.if_icmp .eq 5) 3 := by decide +kernel
theorem d37_10 : dc cB37 10 (.iload_n 2) 1 := by decide +kernel
theorem d37_11 : dc cB37 11 (.ifCond .le 16) 3 := by decide +kernel
theorem d37_14 : dc cB37 14 (.aload_n 0) 1 := by decide +kernel
theorem d37_15 : dc cB37 15 (.iconst 0) 1 := by decide +kernel
theorem d37_16 : dc cB37 16 (.invokevirtual 16) 3 := by decide +kernel
theorem wd182 {Z a0} (hw : HW a0 Z) : (Cond.methodLink LW (16 : Nat) y_11).before a0 Z = true := mw hw 182 rfl
theorem d37_19 : dc cB37 19 (.aload_n 1) 1 := by decide +kernel
theorem d37_20 : dc cB37 20 (.iconst 0) 1 := by decide +kernel
theorem d37_21 : dc cB37 21 .caload 1 := by decide +kernel
theorem d37_22 : dc cB37 22 (.if_icmp .eq 5) 3 := by decide +kernel
theorem d37_27 : dc cB37 27 (.iload_n 2) 1 := by decide +kernel
theorem d37_28 : dc cB37 28 (.iconst 1) 1 := by decide +kernel
theorem d37_29 : dc cB37 29 (.if_icmp .le 16) 3 := by decide +kernel
theorem d37_32 : dc cB37 32 (.aload_n 0) 1 := by decide +kernel
theorem d37_33 : dc cB37 33 (.iconst 1) 1 := by decide +kernel
theorem d37_34 : dc cB37 34 (.invokevirtual 16) 3 := by decide +kernel
theorem d37_37 : dc cB37 37 (.aload_n 1) 1 := by decide +kernel
theorem d37_38 : dc cB37 38 (.iconst 1) 1 := by decide +kernel
theorem d37_39 : dc cB37 39 .caload 1 := by decide +kernel
theorem d37_40 : dc cB37 40 (.if_icmp .eq 5) 3 := by decide +kernel
theorem d37_45 : dc cB37 45 (.iload_n 2) 1 := by decide +kernel
theorem d37_46 : dc cB37 46 (.iconst 2) 1 := by decide +kernel
theorem d37_47 : dc cB37 47 (.if_icmp .le 16) 3 := by decide +kernel
theorem d37_50 : dc cB37 50 (.aload_n 0) 1 := by decide +kernel
theorem d37_51 : dc cB37 51 (.iconst 2) 1 := by decide +kernel
theorem d37_52 : dc cB37 52 (.invokevirtual 16) 3 := by decide +kernel
theorem d37_55 : dc cB37 55 (.aload_n 1) 1 := by decide +kernel
theorem d37_56 : dc cB37 56 (.iconst 2) 1 := by decide +kernel
theorem d37_57 : dc cB37 57 .caload 1 := by decide +kernel
theorem d37_58 : dc cB37 58 (.if_icmp .eq 5) 3 := by decide +kernel
theorem d37_63 : dc cB37 63 (.iload_n 2) 1 := by decide +kernel
theorem d37_64 : dc cB37 64 (.iconst 3) 1 := by decide +kernel
theorem d37_65 : dc cB37 65 (.if_icmp .le 16) 3 := by decide +kernel
theorem d37_68 : dc cB37 68 (.aload_n 0) 1 := by decide +kernel
theorem d37_69 : dc cB37 69 (.iconst 3) 1 := by decide +kernel
theorem d37_70 : dc cB37 70 (.invokevirtual 16) 3 := by decide +kernel
theorem d37_73 : dc cB37 73 (.aload_n 1) 1 := by decide +kernel
theorem d37_74 : dc cB37 74 (.iconst 3) 1 := by decide +kernel
theorem d37_75 : dc cB37 75 .caload 1 := by decide +kernel
theorem d37_76 : dc cB37 76 (.if_icmp .eq 5) 3 := by decide +kernel
theorem d37_81 : dc cB37 81 (.iconst 1) 1 := by decide +kernel
theorem d37_82 : dc cB37 82 .ireturn 1 := by decide +kernel
theorem d37_79 : dc cB37 79 (.iconst 0) 1 := by decide +kernel
theorem d37_80 : dc cB37 80 .ireturn 1 := by decide +kernel
theorem d37_61 : dc cB37 61 (.iconst 0) 1 := by decide +kernel
theorem d37_62 : dc cB37 62 .ireturn 1 := by decide +kernel
theorem d37_43 : dc cB37 43 (.iconst 0) 1 := by decide +kernel
theorem d37_44 : dc cB37 44 .ireturn 1 := by decide +kernel
theorem d37_25 : dc cB37 25 (.iconst 0) 1 := by decide +kernel
theorem d37_26 : dc cB37 26 .ireturn 1 := by decide +kernel
theorem d37_8 : dc cB37 8 (.iconst 0) 1 := by decide +kernel
theorem d37_9 : dc cB37 9 .ireturn 1 := by decide +kernel
def f37 (p3 : Int32) (bs : List Int32) (w_n : Int32) (v0 : Int32) (v1 : Int32) (v2 : Int32) (v3 : Int32) : Int32 := (if w_n = p3 then (if (0 : Int32) < p3 then (if (chr (own_at bs (0 : Int32))) = v0 then (if (1 : Int32) < p3 then (if (chr (own_at bs (1 : Int32))) = v1 then (if (2 : Int32) < p3 then (if (chr (own_at bs (2 : Int32))) = v2 then (if (3 : Int32) < p3 then (if (chr (own_at bs (3 : Int32))) = v3 then (1 : Int32) else (0 : Int32)) else (1 : Int32)) else (0 : Int32)) else (1 : Int32)) else (0 : Int32)) else (1 : Int32)) else (0 : Int32)) else (1 : Int32)) else (0 : Int32))
def Q37 (Z : State) (a1 : Addr) (a2 : Addr) (p3 : Int32) (w_b : Addr) (k_b : ClassId) (bs : List Int32) (w_n : Int32) (k_c : ClassId) (v0 : Int32) (v1 : Int32) (v2 : Int32) (v3 : Int32) (wC : Int32) (w_S : Value) (h0 : Heap) (n0 : Nat) (v : Option Value) (h : Heap) (L : List Loc) : Prop := v = some (.int (f37 p3 bs w_n v0 v1 v2 v3)) ∧ Fr n0 L ∧ h = h0
theorem ef37 (m : MethodId) (x0 : Addr) (x1 : Addr) (x2 : Int32) : entryFrame m #[(.ref x0), (.ref x1), (.int x2)] 3 = mkF m 0 #[.val (.ref x0), .val (.ref x1), .val (.int x2)] [] := by first | (simp [entryFrame, mkF, argsToLocals, Value.category]; done) | rfl
theorem rm37 (l : Launch) (Z : State) (a0 : Array Value) (hw : HW a0 Z) (ws : List Jvm.Cond) (a1 : Addr) (a2 : Addr) (p3 : Int32) (w_b : Addr) (k_b : ClassId) (bs : List Int32) (w_n : Int32) (k_c : ClassId) (v0 : Int32) (v1 : Int32) (v2 : Int32) (v3 : Int32) (wC : Int32) (w_S : Value) (h0 : Heap) (n0 : Nat) (Z0 : n0 ≤ h0.size) (E_a1 : Exa Z h0 a1 SN) (F_a1_v : Fld Z h0 a1 SN "value" "[B" (.ref w_b)) (F_a1_c : Fld Z h0 a1 SN "coder" "B" (.int (0 : Int32))) (V_b : Arv Z h0 w_b k_b .byte w_n (List.map Value.int bs) (.int (0 : Int32))) (V_c : Arv Z h0 a2 k_c .char (4 : Int32) [(.int v0), (.int v1), (.int v2), (.int v3)] (.int (0 : Int32))) (SC : Sta Z h0 SN "COMPACT_STRINGS" "Z" (.int wC)) (SI : Sta Z h0 PC "SIOOBE_FORMATTER" BF w_S) (hcs : ¬ wC = (0 : Int32)) (hrS : w_S.isRef = true) :
  MetFree l y_46 (head1 (Cond.code y_46 cB37 3 (some .boolean) :: ws) (Rm 4 0 0 53)) (Pr Z h0 #[(.ref a1), (.ref a2), (.int p3)]) Tr (fun _ U o U' => ∃ v L, o = .returned v ∧ Q37 Z a1 a2 p3 w_b k_b bs w_n k_c v0 v1 v2 v3 wC w_S h0 n0 v U'.heap L ∧ FrameEnd U o U' L (Rm 4 0 0 53).cells (Rm 4 0 0 53).slots) := by
 refine MetFree.of_bodySF (plainFor_of_name pn11) hisR ?_
 intro p e s m args below meth c s₁ Bd hml0 hP hK
 obtain ⟨rfl, hZ, hh⟩ := hP
 have hx := Bd.exec
 have D := @hb _ _ Bd.bytes
 have hml : c.maxLocals = 3 := hml0
 have hown : s.vm.findClass LW = some m.cls := findClass_of_methodNamed Bd.named
 have hnm := (name_of_methodNamed Bd.named Bd.method).1
 have X0 : Stand p l e (Rm 4 0 0 53) s m #[(.ref a1), (.ref a2), (.int p3)] below meth c s₁ [] 0 0 := Stand.of_body Bd
 have e0 : s₁.heap = h0 := by rw [← hh, Bd.state]; rfl
 have N0 := Fr.nil n0
 have K0 : Keep h0 h0 [] := Keep.refl h0 _
 refine G (P := fun o U' => ∃ v L, o = .returned v ∧ Q37 Z a1 a2 p3 w_b k_b bs w_n k_c v0 v1 v2 v3 wC w_S h0 n0 v U'.heap L ∧ FrameEnd s o U' L (Rm 4 0 0 53).cells (Rm 4 0 0 53).slots) (fun t k => castTop (ef37 m a1 a2 p3) k) ?_
 refine sG s₁ (mkF m 0 #[vr a1, vr a2, vi p3] []) ?_
 refine G (fun t k => XS.aloadN X0.here hx rfl (D d37_0) rfl rfl k) ?_
 obtain ⟨_, T1, Lc1, X1, hQ1, st1⟩ := cV X0 hx hZ hown hml (wd181 hw) (wd45 hw) (wd47 hw) (wd46 hw) (wd48 hw) (wd10 hw) E_a1 e0 0 [] (rm9 l Z a0 hw [] a1 w_b k_b bs w_n wC h0 n0 Z0 E_a1 F_a1_v F_a1_c V_b SC hcs) pd13 (mkF m 1 #[vr a1, vr a2, vi p3] [(.ref a1)]) (D d37_1)
 refine Go.tr st1 ?_
 obtain ⟨rfl, N1q, e1⟩ := hQ1
 have N1 := Fr.app N0 N1q
 refine G (fun t k => XS.iloadN X1.here hx rfl (D d37_4) rfl k) ?_
 by_cases hc2 : w_n = p3
 ·refine G (fun t k => XS.icmpYes X1.here hx rfl (pc0 := 5) (pc' := 10) rfl (D d37_5) rfl (teq hc2).1 (by decide) (by decide) (XS.iloadN X1.here hx rfl (D d37_10) rfl k)) ?_
  by_cases hc3 : (0 : Int32) < p3
  ·refine G (fun t k => XS.ifNo X1.here hx rfl (D d37_11) rfl ((if0 _ _).trans (tlt hc3).2.2.2) (XS.aloadN X1.here hx rfl (D d37_14) rfl rfl k)) ?_
   refine sG T1 (mkF m 15 #[vr a1, vr a2, vi p3] [(.ref a1)]) ?_
   refine G (fun t k => XS.iconst X1.here hx rfl (D d37_15) k) ?_
   obtain ⟨_, T4, Lc4, X4, hQ4, st4⟩ := cV X1 hx hZ hown hml (wd182 hw) (wd93 hw) (wd95 hw) (wd94 hw) (wd96 hw) (wd10 hw) E_a1 e1 0 [] (rm20 l Z a0 hw [] a1 (0 : Int32) w_b k_b bs w_n wC w_S h0 n0 Z0 E_a1 F_a1_v F_a1_c V_b SC SI hcs hrS ⟨by decide, by rw [hc2]; exact hc3⟩) pd9 (mkF m 16 #[vr a1, vr a2, vi p3] [(.int 0), (.ref a1)]) (D d37_16)
   refine Go.tr st4 ?_
   obtain ⟨rfl, N4q, e4⟩ := hQ4
   have N4 := Fr.app N1 N4q
   refine G (fun t k => XS.aloadN X4.here hx rfl (D d37_19) rfl rfl (XS.iconst X4.here hx rfl (D d37_20) k)) ?_
   obtain ⟨cl5, Ar5, -, Sz5, Ng5, Hs5, -⟩ := id V_c
   have hin5 := inb_of (j := (0 : Int32)) (c := cl5) Sz5 ⟨by decide, by decide⟩
   refine G (fun t k => X4.caload hx (j := (0 : Int32)) (v := (.int v0)) (by rw [e4]; exact Ar5.1) (State.isArrayOf_alike hZ.alike Ar5.2.1) Ar5.2.2 hin5 (Has.at Hs5 hin5 rfl) (g := (mkF m 21 #[vr a1, vr a2, vi p3] [(.int 0), (.ref a2), (.int (chr (own_at bs (0 : Int32))))])) rfl rfl (D d37_21) _ k) ?_
   clear hin5 Hs5 Ng5 Sz5 Ar5 cl5
   by_cases hc6 : (chr (own_at bs (0 : Int32))) = v0
   ·refine G (fun t k => XS.icmpYes X4.here hx rfl (pc0 := 22) (pc' := 27) rfl (D d37_22) rfl (teq hc6).1 (by decide) (by decide) (XS.iloadN X4.here hx rfl (D d37_27) rfl k)) ?_
    refine sG T4 (mkF m 28 #[vr a1, vr a2, vi p3] [(.int p3)]) ?_
    refine G (fun t k => XS.iconst X4.here hx rfl (D d37_28) k) ?_
    by_cases hc7 : (1 : Int32) < p3
    ·refine G (fun t k => XS.icmpNo X4.here hx rfl (D d37_29) rfl (tlt hc7).2.2.2 (XS.aloadN X4.here hx rfl (D d37_32) rfl rfl (XS.iconst X4.here hx rfl (D d37_33) k))) ?_
     obtain ⟨_, T8, Lc8, X8, hQ8, st8⟩ := cV X4 hx hZ hown hml (wd182 hw) (wd93 hw) (wd95 hw) (wd94 hw) (wd96 hw) (wd10 hw) E_a1 e4 0 [] (rm20 l Z a0 hw [] a1 (1 : Int32) w_b k_b bs w_n wC w_S h0 n0 Z0 E_a1 F_a1_v F_a1_c V_b SC SI hcs hrS ⟨by decide, by rw [hc2]; exact hc7⟩) pd9 (mkF m 34 #[vr a1, vr a2, vi p3] [(.int 1), (.ref a1)]) (D d37_34)
     refine Go.tr st8 ?_
     obtain ⟨rfl, N8q, e8⟩ := hQ8
     have N8 := Fr.app N4 N8q
     refine G (fun t k => XS.aloadN X8.here hx rfl (D d37_37) rfl rfl (XS.iconst X8.here hx rfl (D d37_38) k)) ?_
     refine sG T8 (mkF m 39 #[vr a1, vr a2, vi p3] [(.int 1), (.ref a2), (.int (chr (own_at bs (1 : Int32))))]) ?_
     obtain ⟨cl9, Ar9, -, Sz9, Ng9, Hs9, -⟩ := id V_c
     have hin9 := inb_of (j := (1 : Int32)) (c := cl9) Sz9 ⟨by decide, by decide⟩
     refine G (fun t k => X8.caload hx (j := (1 : Int32)) (v := (.int v1)) (by rw [e8]; exact Ar9.1) (State.isArrayOf_alike hZ.alike Ar9.2.1) Ar9.2.2 hin9 (Has.at Hs9 hin9 rfl) (g := (mkF m 39 #[vr a1, vr a2, vi p3] [(.int 1), (.ref a2), (.int (chr (own_at bs (1 : Int32))))])) rfl rfl (D d37_39) _ k) ?_
     clear hin9 Hs9 Ng9 Sz9 Ar9 cl9
     by_cases hc10 : (chr (own_at bs (1 : Int32))) = v1
     ·refine G (fun t k => XS.icmpYes X8.here hx rfl (pc0 := 40) (pc' := 45) rfl (D d37_40) rfl (teq hc10).1 (by decide) (by decide) (XS.iloadN X8.here hx rfl (D d37_45) rfl (XS.iconst X8.here hx rfl (D d37_46) k))) ?_
      by_cases hc11 : (2 : Int32) < p3
      ·refine G (fun t k => XS.icmpNo X8.here hx rfl (D d37_47) rfl (tlt hc11).2.2.2 (XS.aloadN X8.here hx rfl (D d37_50) rfl rfl (XS.iconst X8.here hx rfl (D d37_51) k))) ?_
       refine sG T8 (mkF m 52 #[vr a1, vr a2, vi p3] [(.int 2), (.ref a1)]) ?_
       obtain ⟨_, T12, Lc12, X12, hQ12, st12⟩ := cV X8 hx hZ hown hml (wd182 hw) (wd93 hw) (wd95 hw) (wd94 hw) (wd96 hw) (wd10 hw) E_a1 e8 0 [] (rm20 l Z a0 hw [] a1 (2 : Int32) w_b k_b bs w_n wC w_S h0 n0 Z0 E_a1 F_a1_v F_a1_c V_b SC SI hcs hrS ⟨by decide, by rw [hc2]; exact hc11⟩) pd9 (mkF m 52 #[vr a1, vr a2, vi p3] [(.int 2), (.ref a1)]) (D d37_52)
       refine Go.tr st12 ?_
       obtain ⟨rfl, N12q, e12⟩ := hQ12
       have N12 := Fr.app N8 N12q
       obtain ⟨LL12, X12, N12⟩ : ∃ LL, Stand p l e (Rm 4 0 0 53) s m #[(.ref a1), (.ref a2), (.int p3)] below meth c T12 LL 0 0 ∧ Fr n0 LL := ⟨_, X12, N12⟩
       refine G (fun t k => XS.aloadN X12.here hx rfl (D d37_55) rfl rfl (XS.iconst X12.here hx rfl (D d37_56) k)) ?_
       obtain ⟨cl13, Ar13, -, Sz13, Ng13, Hs13, -⟩ := id V_c
       have hin13 := inb_of (j := (2 : Int32)) (c := cl13) Sz13 ⟨by decide, by decide⟩
       refine G (fun t k => X12.caload hx (j := (2 : Int32)) (v := (.int v2)) (by rw [e12]; exact Ar13.1) (State.isArrayOf_alike hZ.alike Ar13.2.1) Ar13.2.2 hin13 (Has.at Hs13 hin13 rfl) (g := (mkF m 57 #[vr a1, vr a2, vi p3] [(.int 2), (.ref a2), (.int (chr (own_at bs (2 : Int32))))])) rfl rfl (D d37_57) _ k) ?_
       clear hin13 Hs13 Ng13 Sz13 Ar13 cl13
       by_cases hc14 : (chr (own_at bs (2 : Int32))) = v2
       ·refine G (fun t k => XS.icmpYes X12.here hx rfl (pc0 := 58) (pc' := 63) rfl (D d37_58) rfl (teq hc14).1 (by decide) (by decide) (XS.iloadN X12.here hx rfl (D d37_63) rfl (XS.iconst X12.here hx rfl (D d37_64) k))) ?_
        refine sG T12 (mkF m 65 #[vr a1, vr a2, vi p3] [(.int 3), (.int p3)]) ?_
        by_cases hc15 : (3 : Int32) < p3
        ·refine G (fun t k => XS.icmpNo X12.here hx rfl (D d37_65) rfl (tlt hc15).2.2.2 (XS.aloadN X12.here hx rfl (D d37_68) rfl rfl (XS.iconst X12.here hx rfl (D d37_69) k))) ?_
         obtain ⟨_, T16, Lc16, X16, hQ16, st16⟩ := cV X12 hx hZ hown hml (wd182 hw) (wd93 hw) (wd95 hw) (wd94 hw) (wd96 hw) (wd10 hw) E_a1 e12 0 [] (rm20 l Z a0 hw [] a1 (3 : Int32) w_b k_b bs w_n wC w_S h0 n0 Z0 E_a1 F_a1_v F_a1_c V_b SC SI hcs hrS ⟨by decide, by rw [hc2]; exact hc15⟩) pd9 (mkF m 70 #[vr a1, vr a2, vi p3] [(.int 3), (.ref a1)]) (D d37_70)
         refine Go.tr st16 ?_
         obtain ⟨rfl, N16q, e16⟩ := hQ16
         have N16 := Fr.app N12 N16q
         refine G (fun t k => XS.aloadN X16.here hx rfl (D d37_73) rfl rfl (XS.iconst X16.here hx rfl (D d37_74) k)) ?_
         obtain ⟨cl17, Ar17, -, Sz17, Ng17, Hs17, -⟩ := id V_c
         have hin17 := inb_of (j := (3 : Int32)) (c := cl17) Sz17 ⟨by decide, by decide⟩
         refine G (fun t k => X16.caload hx (j := (3 : Int32)) (v := (.int v3)) (by rw [e16]; exact Ar17.1) (State.isArrayOf_alike hZ.alike Ar17.2.1) Ar17.2.2 hin17 (Has.at Hs17 hin17 rfl) (g := (mkF m 75 #[vr a1, vr a2, vi p3] [(.int 3), (.ref a2), (.int (chr (own_at bs (3 : Int32))))])) rfl rfl (D d37_75) _ k) ?_
         clear hin17 Hs17 Ng17 Sz17 Ar17 cl17
         refine sG T16 (mkF m 76 #[vr a1, vr a2, vi p3] [(.int v3), (.int (chr (own_at bs (3 : Int32))))]) ?_
         by_cases hc18 : (chr (own_at bs (3 : Int32))) = v3
         ·refine G (fun t k => XS.icmpYes X16.here hx rfl (pc0 := 76) (pc' := 81) rfl (D d37_76) rfl (teq hc18).1 (by decide) (by decide) (XS.iconst X16.here hx rfl (D d37_81) k)) ?_
          exact lfN (Q := Q37 Z a1 a2 p3 w_b k_b bs w_n k_c v0 v1 v2 v3 wC w_S h0 n0) Bd X16 e16 (D d37_82) (by simp) (w := (1 : Int32)) rfl ⟨(by unfold f37; simp only [if_pos hc2, if_pos hc3, if_pos hc6, if_pos hc7, if_pos hc10, if_pos hc11, if_pos hc14, if_pos hc15, if_pos hc18]), N16, rfl⟩ (by decide) (by decide)
         ·refine G (fun t k => XS.icmpNo X16.here hx rfl (D d37_76) rfl (feq hc18).1 (XS.iconst X16.here hx rfl (D d37_79) k)) ?_
          exact lfN (Q := Q37 Z a1 a2 p3 w_b k_b bs w_n k_c v0 v1 v2 v3 wC w_S h0 n0) Bd X16 e16 (D d37_80) (by simp) (w := (0 : Int32)) rfl ⟨(by unfold f37; simp only [if_pos hc2, if_pos hc3, if_pos hc6, if_pos hc7, if_pos hc10, if_pos hc11, if_pos hc14, if_pos hc15, if_neg hc18]), N16, rfl⟩ (by decide) (by decide)
        ·refine G (fun t k => XS.icmpYes X12.here hx rfl (pc0 := 65) (pc' := 81) rfl (D d37_65) rfl (flt hc15).2.2.2 (by decide) (by decide) (XS.iconst X12.here hx rfl (D d37_81) k)) ?_
         exact lfN (Q := Q37 Z a1 a2 p3 w_b k_b bs w_n k_c v0 v1 v2 v3 wC w_S h0 n0) Bd X12 e12 (D d37_82) (by simp) (w := (1 : Int32)) rfl ⟨(by unfold f37; simp only [if_pos hc2, if_pos hc3, if_pos hc6, if_pos hc7, if_pos hc10, if_pos hc11, if_pos hc14, if_neg hc15]), N12, rfl⟩ (by decide) (by decide)
       ·refine G (fun t k => XS.icmpNo X12.here hx rfl (D d37_58) rfl (feq hc14).1 (XS.iconst X12.here hx rfl (D d37_61) k)) ?_
        exact lfN (Q := Q37 Z a1 a2 p3 w_b k_b bs w_n k_c v0 v1 v2 v3 wC w_S h0 n0) Bd X12 e12 (D d37_62) (by simp) (w := (0 : Int32)) rfl ⟨(by unfold f37; simp only [if_pos hc2, if_pos hc3, if_pos hc6, if_pos hc7, if_pos hc10, if_pos hc11, if_neg hc14]), N12, rfl⟩ (by decide) (by decide)
      ·refine G (fun t k => XS.icmpYes X8.here hx rfl (pc0 := 47) (pc' := 63) rfl (D d37_47) rfl (flt hc11).2.2.2 (by decide) (by decide) (XS.iloadN X8.here hx rfl (D d37_63) rfl (XS.iconst X8.here hx rfl (D d37_64) k))) ?_
       refine sG T8 (mkF m 65 #[vr a1, vr a2, vi p3] [(.int 3), (.int p3)]) ?_
       have hf19 : ¬ ((3 : Int32) < p3) := (fun z => hc11 (Int32.lt_trans (by decide) z))
       refine G (fun t k => XS.icmpYes X8.here hx rfl (pc0 := 65) (pc' := 81) rfl (D d37_65) rfl (flt hf19).2.2.2 (by decide) (by decide) (XS.iconst X8.here hx rfl (D d37_81) k)) ?_
       exact lfN (Q := Q37 Z a1 a2 p3 w_b k_b bs w_n k_c v0 v1 v2 v3 wC w_S h0 n0) Bd X8 e8 (D d37_82) (by simp) (w := (1 : Int32)) rfl ⟨(by unfold f37; simp only [if_pos hc2, if_pos hc3, if_pos hc6, if_pos hc7, if_pos hc10, if_neg hc11]), N8, rfl⟩ (by decide) (by decide)
     ·refine G (fun t k => XS.icmpNo X8.here hx rfl (D d37_40) rfl (feq hc10).1 (XS.iconst X8.here hx rfl (D d37_43) k)) ?_
      exact lfN (Q := Q37 Z a1 a2 p3 w_b k_b bs w_n k_c v0 v1 v2 v3 wC w_S h0 n0) Bd X8 e8 (D d37_44) (by simp) (w := (0 : Int32)) rfl ⟨(by unfold f37; simp only [if_pos hc2, if_pos hc3, if_pos hc6, if_pos hc7, if_neg hc10]), N8, rfl⟩ (by decide) (by decide)
    ·refine G (fun t k => XS.icmpYes X4.here hx rfl (pc0 := 29) (pc' := 45) rfl (D d37_29) rfl (flt hc7).2.2.2 (by decide) (by decide) (XS.iloadN X4.here hx rfl (D d37_45) rfl (XS.iconst X4.here hx rfl (D d37_46) k))) ?_
     have hf20 : ¬ ((2 : Int32) < p3) := (fun z => hc7 (Int32.lt_trans (by decide) z))
     refine G (fun t k => XS.icmpYes X4.here hx rfl (pc0 := 47) (pc' := 63) rfl (D d37_47) rfl (flt hf20).2.2.2 (by decide) (by decide) (XS.iloadN X4.here hx rfl (D d37_63) rfl (XS.iconst X4.here hx rfl (D d37_64) k))) ?_
     refine sG T4 (mkF m 65 #[vr a1, vr a2, vi p3] [(.int 3), (.int p3)]) ?_
     have hf21 : ¬ ((3 : Int32) < p3) := (fun z => hc7 (Int32.lt_trans (by decide) z))
     refine G (fun t k => XS.icmpYes X4.here hx rfl (pc0 := 65) (pc' := 81) rfl (D d37_65) rfl (flt hf21).2.2.2 (by decide) (by decide) (XS.iconst X4.here hx rfl (D d37_81) k)) ?_
     exact lfN (Q := Q37 Z a1 a2 p3 w_b k_b bs w_n k_c v0 v1 v2 v3 wC w_S h0 n0) Bd X4 e4 (D d37_82) (by simp) (w := (1 : Int32)) rfl ⟨(by unfold f37; simp only [if_pos hc2, if_pos hc3, if_pos hc6, if_neg hc7]), N4, rfl⟩ (by decide) (by decide)
   ·refine G (fun t k => XS.icmpNo X4.here hx rfl (D d37_22) rfl (feq hc6).1 (XS.iconst X4.here hx rfl (D d37_25) k)) ?_
    refine sG T4 (mkF m 26 #[vr a1, vr a2, vi p3] [(.int 0)]) ?_
    exact lfN (Q := Q37 Z a1 a2 p3 w_b k_b bs w_n k_c v0 v1 v2 v3 wC w_S h0 n0) Bd X4 e4 (D d37_26) (by simp) (w := (0 : Int32)) rfl ⟨(by unfold f37; simp only [if_pos hc2, if_pos hc3, if_neg hc6]), N4, rfl⟩ (by decide) (by decide)
  ·refine G (fun t k => XS.ifYes X1.here hx rfl (pc0 := 11) (pc' := 27) rfl (D d37_11) rfl ((if0 _ _).trans (flt hc3).2.2.2) (by decide) (by decide) (XS.iloadN X1.here hx rfl (D d37_27) rfl k)) ?_
   refine sG T1 (mkF m 28 #[vr a1, vr a2, vi p3] [(.int p3)]) ?_
   refine G (fun t k => XS.iconst X1.here hx rfl (D d37_28) k) ?_
   have hf22 : ¬ ((1 : Int32) < p3) := (fun z => hc3 (Int32.lt_trans (by decide) z))
   refine G (fun t k => XS.icmpYes X1.here hx rfl (pc0 := 29) (pc' := 45) rfl (D d37_29) rfl (flt hf22).2.2.2 (by decide) (by decide) (XS.iloadN X1.here hx rfl (D d37_45) rfl (XS.iconst X1.here hx rfl (D d37_46) k))) ?_
   have hf23 : ¬ ((2 : Int32) < p3) := (fun z => hc3 (Int32.lt_trans (by decide) z))
   refine G (fun t k => XS.icmpYes X1.here hx rfl (pc0 := 47) (pc' := 63) rfl (D d37_47) rfl (flt hf23).2.2.2 (by decide) (by decide) (XS.iloadN X1.here hx rfl (D d37_63) rfl (XS.iconst X1.here hx rfl (D d37_64) k))) ?_
   refine sG T1 (mkF m 65 #[vr a1, vr a2, vi p3] [(.int 3), (.int p3)]) ?_
   have hf24 : ¬ ((3 : Int32) < p3) := (fun z => hc3 (Int32.lt_trans (by decide) z))
   refine G (fun t k => XS.icmpYes X1.here hx rfl (pc0 := 65) (pc' := 81) rfl (D d37_65) rfl (flt hf24).2.2.2 (by decide) (by decide) (XS.iconst X1.here hx rfl (D d37_81) k)) ?_
   exact lfN (Q := Q37 Z a1 a2 p3 w_b k_b bs w_n k_c v0 v1 v2 v3 wC w_S h0 n0) Bd X1 e1 (D d37_82) (by simp) (w := (1 : Int32)) rfl ⟨(by unfold f37; simp only [if_pos hc2, if_neg hc3]), N1, rfl⟩ (by decide) (by decide)
 ·refine G (fun t k => XS.icmpNo X1.here hx rfl (D d37_5) rfl (feq hc2).1 (XS.iconst X1.here hx rfl (D d37_8) k)) ?_
  exact lfN (Q := Q37 Z a1 a2 p3 w_b k_b bs w_n k_c v0 v1 v2 v3 wC w_S h0 n0) Bd X1 e1 (D d37_9) (by simp) (w := (0 : Int32)) rfl ⟨(by unfold f37; simp only [if_neg hc2]), N1, rfl⟩ (by decide) (by decide)
def sw (bs : List Int32) (n k : Int32) : Prop := 0 < n.toInt ∧ own_at bs 0 = k
def Stt (bs : List Int32) (n st : Int32) : Prop := (st = 1 ∧ (sw bs n 43 ∨ sw bs n 45)) ∨ (st = 0 ∧ ¬ (sw bs n 43 ∨ sw bs n 45))
def Pat (bs : List Int32) (n pt st pa : Int32) : Prop := (¬ pt = (0 : Int32) ∧ Idx bs st.toInt n.toInt pa) ∨ (pt = (0 : Int32) ∧ pa = (-1 : Int32))
def Zer (bs : List Int32) (a b : Int) : Prop := ∀ j : Int32, a ≤ j.toInt → j.toInt < b → chr (own_at bs j) = 48
def Fst (bs : List Int32) (a b : Int) (r : Int32) : Prop := a ≤ r.toInt ∧ r.toInt ≤ b ∧ Zer bs a r.toInt ∧ (r.toInt < b → ¬ chr (own_at bs r) = 48)
def Lst (bs : List Int32) (a b : Int) (r : Int32) : Prop := a ≤ r.toInt ∧ r.toInt ≤ b ∧ Zer bs r.toInt b ∧ (a < r.toInt → ¬ chr (own_at bs (r - 1)) = 48)
def PE (bs : List Int32) (n pt : Int32) : Prop := ∃ st pa : Int32, Stt bs n st ∧ Pat bs n pt st pa ∧ ((pa < 0 ∧ (n.toInt - st.toInt = 0 ∨ ¬ AllD bs st.toInt n.toInt)) ∨ (¬ pa < 0 ∧ (n.toInt - st.toInt - 1 = 0 ∨ ¬ AllD bs st.toInt pa.toInt ∨ ¬ AllD bs (pa.toInt + 1) n.toInt)))
def PN (bs : List Int32) (n pt st pa ie fi fa la : Int32) : Prop := Stt bs n st ∧ Pat bs n pt st pa ∧ Fst bs st.toInt ie.toInt fi ∧ ((pa < 0 ∧ ie = n ∧ fa = 0 ∧ la = 0 ∧ AllD bs st.toInt n.toInt ∧ ¬ n.toInt - st.toInt = 0) ∨ (¬ pa < 0 ∧ ie = pa ∧ fa = pa + 1 ∧ AllD bs st.toInt pa.toInt ∧ AllD bs (pa.toInt + 1) n.toInt ∧ ¬ n.toInt - st.toInt - 1 = 0 ∧ Lst bs (pa.toInt + 1) n.toInt la))
theorem own_f8 {bs : List Int32} {n k : Int32} (h : 0 ≤ n.toInt) : ((f8 bs n k) &&& 1) = (0 : Int32) ↔ ¬ sw bs n k := by
 have h1 := Int32.toInt_lt n
 have e : (n - (1 : Int32)) < (0 : Int32) ↔ ¬ 0 < n.toInt := by
  rw [Int32.lt_iff_toInt_lt, Int32.toInt_sub, show (1 : Int32).toInt = 1 from rfl, show (0 : Int32).toInt = 0 from rfl, Int.bmod_eq_of_le (by omega) (by omega)]
  omega
 unfold f8 sw
 by_cases q0 : (n - (1 : Int32)) < (0 : Int32)
 ·rw [if_pos q0]
  exact ⟨fun _ z => e.mp q0 z.1, fun _ => by decide⟩
 ·rw [if_neg q0]
  by_cases q : own_at bs 0 = k
  ·rw [if_pos q]
   exact ⟨fun z => absurd z (by decide), fun z => absurd ⟨Classical.byContradiction fun y => q0 (e.mpr y), q⟩ z⟩
  ·rw [if_neg q]
   exact ⟨fun _ z => q z.2, fun _ => by decide⟩
theorem own_f8n {bs : List Int32} {n k : Int32} (h : 0 ≤ n.toInt) (q : ¬ ((f8 bs n k) &&& 1) = (0 : Int32)) : sw bs n k := Classical.byContradiction fun z => q ((own_f8 h).mpr z)
theorem own_stle {bs : List Int32} {n st : Int32} (hst : Stt bs n st) (hn : 0 ≤ n.toInt) : 0 ≤ st.toInt ∧ st.toInt ≤ n.toInt := by
 rcases hst with ⟨rfl, h | h⟩ | ⟨rfl, -⟩
 ·have := h.1
  rw [show (1 : Int32).toInt = 1 from rfl]
  omega
 ·have := h.1
  rw [show (1 : Int32).toInt = 1 from rfl]
  omega
 ·rw [show (0 : Int32).toInt = 0 from rfl]
  omega
theorem own_neg1 : (-1 : Int32) < 0 := by decide
theorem own_pale {bs : List Int32} {n pt st pa : Int32} (hst : Stt bs n st) (hn : 0 ≤ n.toInt) (hpa : Pat bs n pt st pa) (h : ¬ pa < (0 : Int32)) : (0 ≤ st.toInt ∧ st.toInt ≤ pa.toInt) ∧ pa.toInt < n.toInt := by
 have := own_stle hst hn
 rcases hpa with ⟨-, ⟨rfl, -⟩ | ⟨h1, h2, -⟩⟩ | ⟨-, rfl⟩
 ·exact absurd own_neg1 h
 ·exact ⟨⟨this.1, h1⟩, h2⟩
 ·exact absurd own_neg1 h
theorem own_n1 {n : Int32} (h0 : 0 ≤ n.toInt) (h4 : n.toInt ≤ 4) : ¬ (n + (1 : Int32)) < n := by
 rw [Int32.lt_iff_toInt_lt, Int32.toInt_add, show (1 : Int32).toInt = 1 from rfl, Int.bmod_eq_of_le (by omega) (by omega)]
 omega
theorem own_p1 {pa n : Int32} (h : 0 ≤ pa.toInt) (q : pa.toInt < n.toInt) : (pa + (1 : Int32)).toInt = pa.toInt + 1 := by
 have := Int32.toInt_lt n
 rw [Int32.toInt_add, show (1 : Int32).toInt = 1 from rfl, Int.bmod_eq_of_le (by omega) (by omega)]
theorem own_i0 {a : Int32} : a = (0 : Int32) ↔ a.toInt = 0 := ⟨fun h => by rw [h]; rfl, fun h => Int32.toInt_inj.mp h⟩
theorem own_d0 {n st : Int32} (h : 0 ≤ st.toInt ∧ st.toInt ≤ n.toInt) : ((n - st) - (0 : Int32)) = (0 : Int32) ↔ n.toInt - st.toInt = 0 := by
 have h1 := own_sub h
 have := Int32.toInt_lt n
 rw [own_i0, Int32.toInt_sub, h1, show (0 : Int32).toInt = 0 from rfl, Int.bmod_eq_of_le (by omega) (by omega)]
 omega
theorem own_d1 {n st : Int32} (h : 0 ≤ st.toInt ∧ st.toInt ≤ n.toInt) : ((n - st) - (1 : Int32)) = (0 : Int32) ↔ n.toInt - st.toInt - 1 = 0 := by
 have h1 := own_sub h
 have := Int32.toInt_lt n
 rw [own_i0, Int32.toInt_sub, h1, show (1 : Int32).toInt = 1 from rfl, Int.bmod_eq_of_le (by omega) (by omega)]
theorem own_r0 {r : Int32} {A : Prop} (h : (r = 1 ∧ A) ∨ (r = 0 ∧ ¬ A)) (q : r = (0 : Int32)) : ¬ A := by
 rcases h with ⟨rfl, -⟩ | ⟨-, h⟩
 ·exact absurd q (by decide)
 ·exact h
theorem own_r1 {r : Int32} {A : Prop} (h : (r = 1 ∧ A) ∨ (r = 0 ∧ ¬ A)) (q : ¬ r = (0 : Int32)) : A := by
 rcases h with ⟨-, h⟩ | ⟨h, -⟩
 ·exact h
 ·exact absurd h q
theorem Zer.nil {bs : List Int32} {a b : Int} (h : b ≤ a) : Zer bs a b := fun j h1 h2 => by omega
theorem Zer.step {bs : List Int32} {a : Int} {i i' : Int32} (h : Zer bs a i.toInt) (e : i'.toInt = i.toInt + 1) (q : chr (own_at bs i) = (48 : Int32)) : Zer bs a i'.toInt := fun j h1 h2 => by
 by_cases hj : j.toInt < i.toInt
 ·exact h j h1 hj
 ·have : j = i := Int32.toInt_inj.mp (by omega)
  rw [this]
  exact q
theorem Zer.back {bs : List Int32} {b : Int} {i k i' : Int32} (h : Zer bs i.toInt b) (e : k.toInt = i.toInt - 1) (e' : i'.toInt = i.toInt - 1) (q : chr (own_at bs k) = (48 : Int32)) : Zer bs i'.toInt b := fun j h1 h2 => by
 by_cases hj : i.toInt ≤ j.toInt
 ·exact h j hj h2
 ·have : j = k := Int32.toInt_inj.mp (by omega)
  rw [this]
  exact q
theorem Fst.end {bs : List Int32} {a : Int} {i n : Int32} (hi : 0 ≤ i.toInt ∧ i.toInt + ((0 : Nat) : Int) = n.toInt) (hz : Zer bs a i.toInt ∧ a ≤ i.toInt) : Fst bs a n.toInt i := ⟨hz.2, by omega, hz.1, fun z => by omega⟩
theorem Fst.stop {bs : List Int32} {a : Int} {i n : Int32} {d : Nat} (hi : 0 ≤ i.toInt ∧ i.toInt + ((d + 1 : Nat) : Int) = n.toInt) (hz : Zer bs a i.toInt ∧ a ≤ i.toInt) (q : ¬ chr (own_at bs i) = (48 : Int32)) : Fst bs a n.toInt i := ⟨hz.2, by omega, hz.1, fun _ => q⟩
theorem own_im1 {i : Int32} (h : 0 < i.toInt) : (i - (1 : Int32)).toInt = i.toInt - 1 := by
 have := Int32.toInt_lt i
 rw [Int32.toInt_sub, show (1 : Int32).toInt = 1 from rfl, Int.bmod_eq_of_le (by omega) (by omega)]
theorem own_ip1 {i : Int32} (h : 0 < i.toInt) : (i + (Int32.ofInt (-1))).toInt = i.toInt - 1 := by
 have := Int32.toInt_lt i
 rw [show Int32.ofInt (-1) = (-1 : Int32) from by decide]
 rw [Int32.toInt_add, show (-1 : Int32).toInt = -1 from rfl, Int.bmod_eq_of_le (by omega) (by omega)]
 omega
theorem own_jpos {pa i n : Int32} {d : Nat} (h0 : 0 ≤ pa.toInt) (hj : i.toInt = pa.toInt + 1 + ((d + 1 : Nat) : Int) ∧ i.toInt ≤ n.toInt) : 0 < i.toInt := by omega
theorem own_jlt {pa i n : Int32} {d : Nat} (h1 : (pa + (1 : Int32)).toInt = pa.toInt + 1) (hj : i.toInt = pa.toInt + 1 + ((d + 1 : Nat) : Int) ∧ i.toInt ≤ n.toInt) : (pa + (1 : Int32)) < i := by
 rw [Int32.lt_iff_toInt_lt, h1]
 omega
theorem own_jge {pa i n : Int32} (h1 : (pa + (1 : Int32)).toInt = pa.toInt + 1) (hj : i.toInt = pa.toInt + 1 + ((0 : Nat) : Int) ∧ i.toInt ≤ n.toInt) : ¬ (pa + (1 : Int32)) < i := by
 rw [Int32.lt_iff_toInt_lt, h1]
 omega
theorem own_jib {pa i n : Int32} {d : Nat} (h0 : 0 ≤ pa.toInt) (hj : i.toInt = pa.toInt + 1 + ((d + 1 : Nat) : Int) ∧ i.toInt ≤ n.toInt) : ¬ (i - (1 : Int32)) < 0 ∧ (i - (1 : Int32)) < n := by
 have h1 := own_im1 (own_jpos h0 hj)
 rw [Int32.lt_iff_toInt_lt, Int32.lt_iff_toInt_lt, h1, show (0 : Int32).toInt = 0 from rfl]
 omega
theorem own_jnx {pa i n : Int32} {d : Nat} (h0 : 0 ≤ pa.toInt) (hj : i.toInt = pa.toInt + 1 + ((d + 1 : Nat) : Int) ∧ i.toInt ≤ n.toInt) : (i + (Int32.ofInt (-1))).toInt = pa.toInt + 1 + (d : Int) ∧ (i + (Int32.ofInt (-1))).toInt ≤ n.toInt := by
 have h := own_ip1 (own_jpos h0 hj)
 rw [h]
 omega
theorem Lst.end {bs : List Int32} {pa i n : Int32} (hj : i.toInt = pa.toInt + 1 + ((0 : Nat) : Int) ∧ i.toInt ≤ n.toInt) (hz : Zer bs i.toInt n.toInt) : Lst bs (pa.toInt + 1) n.toInt i := ⟨by omega, hj.2, hz, fun z => by omega⟩
theorem Lst.stop {bs : List Int32} {pa i n : Int32} {d : Nat} (hj : i.toInt = pa.toInt + 1 + ((d + 1 : Nat) : Int) ∧ i.toInt ≤ n.toInt) (hz : Zer bs i.toInt n.toInt) (q : ¬ chr (own_at bs (i - (1 : Int32))) = (48 : Int32)) : Lst bs (pa.toInt + 1) n.toInt i := ⟨by omega, hj.2, hz, fun _ => q⟩
theorem own_sl0 (bs : List Int32) : slice bs 0 ((0 : Int32) - (0 : Int32)) = [] := rfl
theorem own_00 : ((0 : Int32) - (0 : Int32)) = 0 := by decide
def PR (Z : State) (h : Heap) (bs : List Int32) (n pt : Int32) (em r : Addr) : Prop := (r = em ∧ PE bs n pt) ∨ ∃ (xn si sf bi bf : Addr) (ki kf : ClassId) (st pa ie fi fa la : Int32), Fld Z h r OP "value" "Ljava/lang/Object;" (.ref xn) ∧ Exa Z h xn NU ∧ Fld Z h xn NU "negative" "Z" (.int (((f8 bs n (45 : Int32)) &&& 1) &&& 1)) ∧ Fld Z h xn NU "integer" LS (.ref si) ∧ Fld Z h xn NU "fraction" LS (.ref sf) ∧ Exa Z h si SN ∧ Fld Z h si SN "value" "[B" (.ref bi) ∧ Fld Z h si SN "coder" "B" (.int (0 : Int32)) ∧ Arv Z h bi ki .byte (ie - fi) (List.map Value.int (slice bs fi (ie - fi))) (.int (0 : Int32)) ∧ Exa Z h sf SN ∧ Fld Z h sf SN "value" "[B" (.ref bf) ∧ Fld Z h sf SN "coder" "B" (.int (0 : Int32)) ∧ Arv Z h bf kf .byte (la - fa) (List.map Value.int (slice bs fa (la - fa))) (.int (0 : Int32)) ∧ PN bs n pt st pa ie fi fa la
theorem d6_23 : dc cB6 23 (.istore_n 2) 1 := by decide +kernel
theorem d6_39 : dc cB6 39 (.istore_n 3) 1 := by decide +kernel
theorem d6_40 : dc cB6 40 (.iload_n 3) 1 := by decide +kernel
theorem d6_41 : dc cB6 41 (.ifCond .ge 10) 3 := by decide +kernel
theorem d6_44 : dc cB6 44 (.aload_n 0) 1 := by decide +kernel
theorem d6_45 : dc cB6 45 (.invokevirtual 34) 3 := by decide +kernel
theorem wd56 {Z a0} (hw : HW a0 Z) : (Cond.methodLink NU (34 : Nat) y_7).before a0 Z = true := mw hw 56 rfl
theorem d6_48 : dc cB6 48 (.goto 4) 3 := by decide +kernel
theorem d6_52 : dc cB6 52 (.istore 4) 2 := by decide +kernel
theorem d6_54 : dc cB6 54 (.aload_n 0) 1 := by decide +kernel
theorem d6_55 : dc cB6 55 (.invokevirtual 34) 3 := by decide +kernel
theorem d6_58 : dc cB6 58 (.iload_n 2) 1 := by decide +kernel
theorem d6_59 : dc cB6 59 .isub 1 := by decide +kernel
theorem d6_60 : dc cB6 60 (.iload_n 3) 1 := by decide +kernel
theorem d6_61 : dc cB6 61 (.ifCond .ge 7) 3 := by decide +kernel
theorem d6_64 : dc cB6 64 (.iconst 0) 1 := by decide +kernel
theorem d6_65 : dc cB6 65 (.goto 4) 3 := by decide +kernel
theorem d6_69 : dc cB6 69 .isub 1 := by decide +kernel
theorem d6_70 : dc cB6 70 (.istore 5) 2 := by decide +kernel
theorem d6_72 : dc cB6 72 (.iload 5) 2 := by decide +kernel
theorem d6_74 : dc cB6 74 (.ifCond .eq 28) 3 := by decide +kernel
theorem d6_102 : dc cB6 102 (.invokestatic 42) 3 := by decide +kernel
theorem wd57 {Z a0} (hw : HW a0 Z) : (Cond.methodLink NU (42 : Nat) y_30).before a0 Z = true := mw hw 57 rfl
theorem wd60 {Z a0} (hw : HW a0 Z) : (Cond.code y_30 cB11 (1 : Nat) (Option.some (FieldType.object OP))).before a0 Z = true := mw hw 60 rfl
theorem pd25 : parseMethodDescriptor "()Ljava/util/Optional;" = some ⟨[], some (.object OP)⟩ := by decide +kernel
theorem wd58 {Z a0} (hw : HW a0 Z) : (Cond.static y_30).before a0 Z = true := mw hw 58 rfl
theorem d6_105 : dc cB6 105 .areturn 1 := by decide +kernel
theorem d6_77 : dc cB6 77 (.aload_n 0) 1 := by decide +kernel
theorem d6_78 : dc cB6 78 (.iload_n 2) 1 := by decide +kernel
theorem d6_79 : dc cB6 79 (.iload 4) 2 := by decide +kernel
theorem d6_81 : dc cB6 81 (.invokestatic 38) 3 := by decide +kernel
theorem wd89 {Z a0} (hw : HW a0 Z) : (Cond.methodLink NU (38 : Nat) y_12).before a0 Z = true := mw hw 89 rfl
theorem wd91 {Z a0} (hw : HW a0 Z) : (Cond.code y_12 cB19 (5 : Nat) (Option.some FieldType.boolean)).before a0 Z = true := mw hw 91 rfl
theorem wd31 {Z a0} (hw : HW a0 Z) : (Cond.initialized NU).before a0 Z = true := mw hw 31 rfl
theorem pd26 : parseMethodDescriptor "(Ljava/lang/String;II)Z" = some ⟨[(.object SN), .int, .int], some .boolean⟩ := by decide +kernel
theorem wd90 {Z a0} (hw : HW a0 Z) : (Cond.static y_12).before a0 Z = true := mw hw 90 rfl
theorem d6_84 : dc cB6 84 (.ifCond .eq 18) 3 := by decide +kernel
theorem d6_87 : dc cB6 87 (.aload_n 0) 1 := by decide +kernel
theorem d6_88 : dc cB6 88 (.iload 4) 2 := by decide +kernel
theorem d6_90 : dc cB6 90 (.iconst 1) 1 := by decide +kernel
theorem d6_91 : dc cB6 91 .iadd 1 := by decide +kernel
theorem d6_92 : dc cB6 92 (.aload_n 0) 1 := by decide +kernel
theorem d6_93 : dc cB6 93 (.invokevirtual 34) 3 := by decide +kernel
theorem d6_96 : dc cB6 96 (.invokestatic 38) 3 := by decide +kernel
theorem d6_99 : dc cB6 99 (.ifCond .ne 7) 3 := by decide +kernel
theorem d6_106 : dc cB6 106 (.iload_n 2) 1 := by decide +kernel
theorem d6_107 : dc cB6 107 (.istore 6) 2 := by decide +kernel
theorem d6_133 : dc cB6 133 (.aload_n 0) 1 := by decide +kernel
theorem d6_134 : dc cB6 134 (.invokevirtual 34) 3 := by decide +kernel
theorem d6_137 : dc cB6 137 (.istore 7) 2 := by decide +kernel
theorem d6_139 : dc cB6 139 (.iload 7) 2 := by decide +kernel
theorem d6_141 : dc cB6 141 (.iload 4) 2 := by decide +kernel
theorem d6_143 : dc cB6 143 (.iconst 1) 1 := by decide +kernel
theorem d6_144 : dc cB6 144 .iadd 1 := by decide +kernel
theorem d6_145 : dc cB6 145 (.if_icmp .le 22) 3 := by decide +kernel
theorem d6_167 : dc cB6 167 (.iload_n 3) 1 := by decide +kernel
theorem d6_168 : dc cB6 168 (.ifCond .ge 8) 3 := by decide +kernel
theorem d6_171 : dc cB6 171 (.ldc 52) 2 := by decide +kernel
theorem d6_173 : dc cB6 173 (.goto 12) 3 := by decide +kernel
theorem d6_185 : dc cB6 185 (.astore 8) 2 := by decide +kernel
theorem d6_187 : dc cB6 187 (.new 8) 3 := by decide +kernel
theorem wd115 {Z a0} (hw : HW a0 Z) : (Cond.classLink NU (8 : Nat) NU).before a0 Z = true := mw hw 115 rfl
theorem d6_190 : dc cB6 190 .dup 1 := by decide +kernel
theorem d6_191 : dc cB6 191 (.aload_n 0) 1 := by decide +kernel
theorem d6_192 : dc cB6 192 (.ldc 28) 2 := by decide +kernel
theorem d6_194 : dc cB6 194 (.invokevirtual 22) 3 := by decide +kernel
theorem wd34 {Z a0} (hw : HW a0 Z) : (Cond.methodLink NU (22 : Nat) y_21).before a0 Z = true := mw hw 34 rfl
theorem wd38 {Z a0} (hw : HW a0 Z) : (Cond.code y_21 cB7 (2 : Nat) (Option.some FieldType.boolean)).before a0 Z = true := mw hw 38 rfl
theorem pd27 : parseMethodDescriptor "(Ljava/lang/String;)Z" = some ⟨[(.object SN)], some .boolean⟩ := by decide +kernel
theorem wd35 {Z a0} (hw : HW a0 Z) : (Cond.declares y_21).before a0 Z = true := mw hw 35 rfl
theorem wd37 {Z a0} (hw : HW a0 Z) : (Cond.selects SN y_21 y_21).before a0 Z = true := mw hw 37 rfl
theorem wd36 {Z a0} (hw : HW a0 Z) : (Cond.instanceMethod y_21).before a0 Z = true := mw hw 36 rfl
theorem d6_197 : dc cB6 197 (.aload_n 0) 1 := by decide +kernel
theorem d6_198 : dc cB6 198 (.iload 6) 2 := by decide +kernel
theorem d6_200 : dc cB6 200 (.iload 4) 2 := by decide +kernel
theorem d6_202 : dc cB6 202 (.invokevirtual 54) 3 := by decide +kernel
theorem wd117 {Z a0} (hw : HW a0 Z) : (Cond.methodLink NU (54 : Nat) y_42).before a0 Z = true := mw hw 117 rfl
theorem wd121 {Z a0} (hw : HW a0 Z) : (Cond.code y_42 cB25 (5 : Nat) (Option.some (FieldType.object SN))).before a0 Z = true := mw hw 121 rfl
theorem pd28 : parseMethodDescriptor "(II)Ljava/lang/String;" = some ⟨[.int, .int], some (.object SN)⟩ := by decide +kernel
theorem wd120 {Z a0} (hw : HW a0 Z) : (Cond.selects SN y_42 y_42).before a0 Z = true := mw hw 120 rfl
theorem wd118 {Z a0} (hw : HW a0 Z) : (Cond.declares y_42).before a0 Z = true := mw hw 118 rfl
theorem wd119 {Z a0} (hw : HW a0 Z) : (Cond.instanceMethod y_42).before a0 Z = true := mw hw 119 rfl
theorem d6_205 : dc cB6 205 (.aload 8) 2 := by decide +kernel
theorem d6_207 : dc cB6 207 (.invokespecial 58) 3 := by decide +kernel
theorem wd128 {Z a0} (hw : HW a0 Z) : (Cond.methodLink NU (58 : Nat) y_23).before a0 Z = true := mw hw 128 rfl
theorem wd130 {Z a0} (hw : HW a0 Z) : (Cond.code y_23 cB28 (4 : Nat) (Option.none : Option FieldType)).before a0 Z = true := mw hw 130 rfl
theorem pd29 : parseMethodDescriptor "(ZLjava/lang/String;Ljava/lang/String;)V" = some ⟨[.boolean, (.object SN), (.object SN)], none⟩ := by decide +kernel
theorem wd129 {Z a0} (hw : HW a0 Z) : (Cond.instanceMethod y_23).before a0 Z = true := mw hw 129 rfl
theorem d6_210 : dc cB6 210 (.invokestatic 61) 3 := by decide +kernel
theorem wd143 {Z a0} (hw : HW a0 Z) : (Cond.methodLink NU (61 : Nat) y_29).before a0 Z = true := mw hw 143 rfl
theorem wd145 {Z a0} (hw : HW a0 Z) : (Cond.code y_29 cB30 (1 : Nat) (Option.some (FieldType.object OP))).before a0 Z = true := mw hw 145 rfl
theorem pd30 : parseMethodDescriptor "(Ljava/lang/Object;)Ljava/util/Optional;" = some ⟨[(.object "java/lang/Object")], some (.object OP)⟩ := by decide +kernel
theorem wd144 {Z a0} (hw : HW a0 Z) : (Cond.static y_29).before a0 Z = true := mw hw 144 rfl
theorem d6_213 : dc cB6 213 .areturn 1 := by decide +kernel
theorem d6_109 : dc cB6 109 (.iload 6) 2 := by decide +kernel
theorem d6_111 : dc cB6 111 (.iload 4) 2 := by decide +kernel
theorem d6_113 : dc cB6 113 (.if_icmp .ge 20) 3 := by decide +kernel
theorem d6_116 : dc cB6 116 (.aload_n 0) 1 := by decide +kernel
theorem d6_117 : dc cB6 117 (.iload 6) 2 := by decide +kernel
theorem d6_119 : dc cB6 119 (.invokevirtual 48) 3 := by decide +kernel
theorem d6_122 : dc cB6 122 (.bipush 48) 2 := by decide +kernel
theorem d6_124 : dc cB6 124 (.if_icmp .ne 9) 3 := by decide +kernel
theorem d6_127 : dc cB6 127 (.iinc 6 1) 3 := by decide +kernel
theorem d6_130 : dc cB6 130 (.goto (-21)) 3 := by decide +kernel
theorem d6_51 : dc cB6 51 (.iload_n 3) 1 := by decide +kernel
theorem d6_68 : dc cB6 68 (.iconst 1) 1 := by decide +kernel
theorem d6_176 : dc cB6 176 (.aload_n 0) 1 := by decide +kernel
theorem d6_177 : dc cB6 177 (.iload_n 3) 1 := by decide +kernel
theorem d6_178 : dc cB6 178 (.iconst 1) 1 := by decide +kernel
theorem d6_179 : dc cB6 179 .iadd 1 := by decide +kernel
theorem d6_180 : dc cB6 180 (.iload 7) 2 := by decide +kernel
theorem d6_182 : dc cB6 182 (.invokevirtual 54) 3 := by decide +kernel
theorem d6_148 : dc cB6 148 (.aload_n 0) 1 := by decide +kernel
theorem d6_149 : dc cB6 149 (.iload 7) 2 := by decide +kernel
theorem d6_151 : dc cB6 151 (.iconst 1) 1 := by decide +kernel
theorem d6_152 : dc cB6 152 .isub 1 := by decide +kernel
theorem d6_153 : dc cB6 153 (.invokevirtual 48) 3 := by decide +kernel
theorem d6_156 : dc cB6 156 (.bipush 48) 2 := by decide +kernel
theorem d6_158 : dc cB6 158 (.if_icmp .ne 9) 3 := by decide +kernel
theorem d6_161 : dc cB6 161 (.iinc 7 (-1)) 3 := by decide +kernel
theorem d6_164 : dc cB6 164 (.goto (-25)) 3 := by decide +kernel
theorem d6_24 : dc cB6 24 (.iload_n 1) 1 := by decide +kernel
theorem d6_25 : dc cB6 25 (.ifCond .eq 13) 3 := by decide +kernel
theorem d6_38 : dc cB6 38 (.iconst (-1)) 1 := by decide +kernel
theorem d6_28 : dc cB6 28 (.aload_n 0) 1 := by decide +kernel
theorem d6_29 : dc cB6 29 (.bipush 46) 2 := by decide +kernel
theorem d6_31 : dc cB6 31 (.iload_n 2) 1 := by decide +kernel
theorem d6_32 : dc cB6 32 (.invokevirtual 30) 3 := by decide +kernel
theorem wd188 {Z a0} (hw : HW a0 Z) : (Cond.methodLink NU (30 : Nat) y_18).before a0 Z = true := mw hw 188 rfl
theorem wd192 {Z a0} (hw : HW a0 Z) : (Cond.code y_18 cB39 (3 : Nat) (Option.some FieldType.int)).before a0 Z = true := mw hw 192 rfl
theorem wd189 {Z a0} (hw : HW a0 Z) : (Cond.declares y_18).before a0 Z = true := mw hw 189 rfl
theorem wd191 {Z a0} (hw : HW a0 Z) : (Cond.selects SN y_18 y_18).before a0 Z = true := mw hw 191 rfl
theorem wd190 {Z a0} (hw : HW a0 Z) : (Cond.instanceMethod y_18).before a0 Z = true := mw hw 190 rfl
theorem d6_35 : dc cB6 35 (.goto 4) 3 := by decide +kernel
theorem d6_0 : dc cB6 0 (.aload_n 0) 1 := by decide +kernel
theorem d6_1 : dc cB6 1 (.ldc 20) 2 := by decide +kernel
theorem d6_3 : dc cB6 3 (.invokevirtual 22) 3 := by decide +kernel
theorem d6_6 : dc cB6 6 (.ifCond .ne 12) 3 := by decide +kernel
theorem d6_9 : dc cB6 9 (.aload_n 0) 1 := by decide +kernel
theorem d6_10 : dc cB6 10 (.ldc 28) 2 := by decide +kernel
theorem d6_12 : dc cB6 12 (.invokevirtual 22) 3 := by decide +kernel
theorem d6_15 : dc cB6 15 (.ifCond .eq 7) 3 := by decide +kernel
theorem d6_22 : dc cB6 22 (.iconst 0) 1 := by decide +kernel
theorem d6_18 : dc cB6 18 (.iconst 1) 1 := by decide +kernel
theorem d6_19 : dc cB6 19 (.goto 4) 3 := by decide +kernel
def Q6 (Z : State) (a1 : Addr) (p2 : Int32) (w_b : Addr) (k_b : ClassId) (bs : List Int32) (w_n : Int32) (wC : Int32) (w_S : Value) (w_EMPTY : Addr) (h0 : Heap) (n0 : Nat) (v : Option Value) (h : Heap) (L : List Loc) : Prop := ∃ z_6_l0 : Addr, v = some (.ref z_6_l0) ∧ Fr n0 L ∧ Keep h0 h [] ∧ Exa Z h z_6_l0 OP ∧ PR Z h bs w_n p2 w_EMPTY z_6_l0
theorem ef6 (m : MethodId) (x0 : Addr) (x1 : Int32) : entryFrame m #[(.ref x0), (.int x1)] 9 = mkF m 0 #[.val (.ref x0), .val (.int x1), .unset, .unset, .unset, .unset, .unset, .unset, .unset] [] := by first | (simp [entryFrame, mkF, argsToLocals, Value.category]; done) | rfl
theorem TJ6_14 (l : Launch) (Z : State) (a0 : Array Value) (hw : HW a0 Z) (ws : List Jvm.Cond) (a1 : Addr) (p2 : Int32) (w_b : Addr) (k_b : ClassId) (bs : List Int32) (w_n : Int32) (wC : Int32) (w_S : Value) (w_EMPTY : Addr) (h0 : Heap) (n0 : Nat) {p : Program} {e : Env} {s : State} {m : MethodId} {below : List Frame} {meth : Method} {c : Code} {s₁ : State} (Bd : BodyLoose p l y_47 (head1 (Cond.code y_47 cB6 9 (some (.object OP)) :: ws) (Rm 5 12 44 83)) cB6 9 (some (.object OP)) e s m #[(.ref a1), (.int p2)] below meth c s₁) (hml0 : c.maxLocals = 9) {VM : Vm} {kS : Nat} (hZ : Z.Warmed39 (s.setVm VM).vm) (hown : (s.setVm VM).vm.findClass NU = some m.cls) (hh : s.heap = h0) {TJ : State} {locsJ : List Loc} {hJ : Heap} {st : Int32} {pa : Int32} {fi : Int32} (XJ : Stand p l e (Rm 5 12 44 83) (s.setVm VM) m #[(.ref a1), (.int p2)] below meth c TJ locsJ 4 16) (eJ : TJ.heap = hJ) (NJ : Fr n0 locsJ) (K0 : Keep h0 hJ []) (Z0 : n0 ≤ hJ.size) (hS : s.Since VM kS) (hk : kS ≤ hJ.size) (hCr : CHr Z consts_1 s.vm h0 VM hJ) (E_a1 : Exa Z hJ a1 SN) (F_a1_v : Fld Z hJ a1 SN "value" "[B" (.ref w_b)) (F_a1_c : Fld Z hJ a1 SN "coder" "B" (.int (0 : Int32))) (V_b : Arv Z hJ w_b k_b .byte w_n (List.map Value.int bs) (.int (0 : Int32))) (SC : Sta Z hJ SN "COMPACT_STRINGS" "Z" (.int wC)) (SI : Sta Z hJ PC "SIOOBE_FORMATTER" BF w_S) (S_EMPTY : Sta Z hJ OP "EMPTY" "Ljava/util/Optional;" (.ref w_EMPTY)) (E_w_EMPTY : Exa Z hJ w_EMPTY OP) (hc3 : pa < (0 : Int32)) (hst : Stt bs w_n st) (hpa : Pat bs w_n p2 st pa) (hA1 : AllD bs st.toInt w_n.toInt) (hdz : ¬ w_n.toInt - st.toInt = 0) (hcs : ¬ wC = (0 : Int32)) (hrS : w_S.isRef = true) (hn0 : 0 ≤ w_n.toInt) (hn4 : w_n.toInt ≤ 4) (hbl : bs.length = w_n.toNatClampNeg) (hfi : Fst bs st.toInt w_n.toInt fi) :
  Go p.tables e below (TJ.setTop (mkF m 133 #[vr a1, vi p2, vi st, vi pa, vi w_n, vi ((w_n - st) - (0 : Int32)), vi fi, us, us] [])) (fun o U' => ∃ v L, o = .returned v ∧ Q6 Z a1 p2 w_b k_b bs w_n wC w_S w_EMPTY h0 n0 v U'.heap L ∧ CHr Z consts_1 s.vm s.heap U'.vm U'.heap ∧ ReturnedEndW s o U' L (Rm 5 12 44 83).cells (Rm 5 12 44 83).slots) := by
 have hx := Bd.exec
 have D := @hb _ _ Bd.bytes
 have hml : c.maxLocals = 9 := hml0
 have hnm := (name_of_methodNamed Bd.named Bd.method).1
 have hsl := own_stle hst hn0
 have hft : 0 ≤ st.toInt ∧ st.toInt ≤ w_n.toInt := hsl
 have htn : w_n.toInt ≤ w_n.toInt := Int.le_refl _
 refine G (fun t k => XS.aloadN XJ.here hx rfl (D d6_133) rfl rfl k) ?_
 obtain ⟨_, T15, Lc15, X15, hQ15, st15⟩ := cV XJ hx hZ hown hml (wd56 hw) (wd45 hw) (wd47 hw) (wd46 hw) (wd48 hw) (wd10 hw) E_a1 eJ 0 [] (rm9 l Z a0 hw [] a1 w_b k_b bs w_n wC hJ n0 Z0 E_a1 F_a1_v F_a1_c V_b SC hcs) pd13 (mkF m 134 #[vr a1, vi p2, vi st, vi pa, vi w_n, vi ((w_n - st) - (0 : Int32)), vi fi, us, us] [(.ref a1)]) (D d6_134)
 refine Go.tr st15 ?_
 obtain ⟨rfl, N15q, e15⟩ := hQ15
 have N15 := Fr.app NJ N15q
 refine G (fun t k => XS.istore X15.here hx rfl (D d6_137) rfl (l' := #[vr a1, vi p2, vi st, vi pa, vi w_n, vi ((w_n - st) - (0 : Int32)), vi fi, vi w_n, us]) rfl k) ?_
 refine sG T15 (mkF m 139 #[vr a1, vi p2, vi st, vi pa, vi w_n, vi ((w_n - st) - (0 : Int32)), vi fi, vi w_n, us] []) ?_
 refine G (fun t k => XS.iload X15.here hx rfl (D d6_139) rfl (XS.iload X15.here hx rfl (D d6_141) rfl (XS.iconst X15.here hx rfl (D d6_143) (XS.iadd X15.here hx rfl (D d6_144) rfl k)))) ?_
 have hf16 : ¬ ((w_n + (1 : Int32)) < w_n) := (own_n1 hn0 hn4)
 refine G (fun t k => XS.icmpYes X15.here hx rfl (pc0 := 145) (pc' := 167) rfl (D d6_145) rfl (flt hf16).2.2.2 (by decide) (by decide) (XS.iloadN X15.here hx rfl (D d6_167) rfl (XS.ifNo X15.here hx rfl (D d6_168) rfl ((if0 _ _).trans (tlt hc3).2.1) k))) ?_
 refine sG T15 (mkF m 171 #[vr a1, vi p2, vi st, vi pa, vi w_n, vi ((w_n - st) - (0 : Int32)), vi fi, vi w_n, us] []) ?_
 obtain ⟨c17, T17, h17, kk17, d17, kb17, X17, e17, E17, hS17, hk17, hZ17, ho17, ES17, FC17, FV17, VA17, -, -, hC17, LL17, hn17, st17⟩ := ldcCH X15 hx hZ hown (wd114 hw) (own_str hw) e15 hS hk (own_EL hw) (by simp [consts_1]) hCr.1 (vs := []) (z := 0) ⟨by decide, by decide⟩ (by decide) (by decide) (g := (mkF m 171 #[vr a1, vi p2, vi st, vi pa, vi w_n, vi ((w_n - st) - (0 : Int32)), vi fi, vi w_n, us] [])) rfl (D d6_171) (n := 0) (by decide) (by decide) (by decide) (by decide)
 refine G st17 ?_
 replace E_a1 := E_a1.ext E17
 replace F_a1_v := F_a1_v.ext E17
 replace F_a1_c := F_a1_c.ext E17
 replace V_b := V_b.ext E17
 replace SC := SC.ext E17
 replace SI := SI.ext E17
 replace S_EMPTY := S_EMPTY.ext E17
 replace E_w_EMPTY := E_w_EMPTY.ext E17
 replace K0 := K0.ext E17
 replace Z0 := Nat.le_trans Z0 E17.1
 replace hCr := hCr.trans hC17
 replace hZ := hZ17
 replace hown := ho17
 replace hS := hS17
 replace hk := hk17
 refine G (fun t k => XS.goto X17.here hx rfl (pc0 := 173) (pc' := 185) rfl (D d6_173) (by decide) (by decide) (XS.astore X17.here hx rfl (D d6_185) rfl rfl (l' := #[vr a1, vi p2, vi st, vi pa, vi w_n, vi ((w_n - st) - (0 : Int32)), vi fi, vi w_n, vr c17]) rfl k)) ?_
 obtain ⟨T18, h18, X18, e18, E18, A18, D18, -, st18⟩ := newO X17 hx hZ hown (wd115 hw) (wd116 hw) (wd31 hw) e17 (g := (mkF m 187 #[vr a1, vi p2, vi st, vi pa, vi w_n, vi ((w_n - st) - (0 : Int32)), vi fi, vi w_n, vr c17] [])) rfl (D d6_187) (by decide) (by decide)
 obtain ⟨b18, g18⟩ : ∃ z, z = h17.size := ⟨_, rfl⟩
 rw [← g18] at A18 D18 st18
 refine G st18 ?_
 have ne_a1_b18 : a1 ≠ b18 := Nat.ne_of_lt (Nat.lt_of_lt_of_le E_a1.lt (Nat.le_of_eq g18.symm))
 have ne_w_b_b18 : w_b ≠ b18 := Nat.ne_of_lt (Nat.lt_of_lt_of_le V_b.lt (Nat.le_of_eq g18.symm))
 have ne_w_EMPTY_b18 : w_EMPTY ≠ b18 := Nat.ne_of_lt (Nat.lt_of_lt_of_le E_w_EMPTY.lt (Nat.le_of_eq g18.symm))
 have ne_c17_b18 : c17 ≠ b18 := Nat.ne_of_lt (Nat.lt_of_lt_of_le ES17.lt (Nat.le_of_eq g18.symm))
 have ne_d17_b18 : d17 ≠ b18 := Nat.ne_of_lt (Nat.lt_of_lt_of_le VA17.lt (Nat.le_of_eq g18.symm))
 have g_b18 : n0 ≤ b18 := Nat.le_trans Z0 (Nat.le_of_eq g18.symm)
 have sz_b18 : h0.size ≤ b18 := Nat.le_trans K0.1 (Nat.le_of_eq g18.symm)
 have Sf_b18 : Safe Z consts_1 T17.vm h17 b18 := Safe.new (Nat.le_of_eq g18.symm)
 replace E_a1 := E_a1.ext E18
 replace F_a1_v := F_a1_v.ext E18
 replace F_a1_c := F_a1_c.ext E18
 replace V_b := V_b.ext E18
 replace SC := SC.ext E18
 replace SI := SI.ext E18
 replace S_EMPTY := S_EMPTY.ext E18
 replace E_w_EMPTY := E_w_EMPTY.ext E18
 replace ES17 := ES17.ext E18
 replace FC17 := FC17.ext E18
 replace FV17 := FV17.ext E18
 replace VA17 := VA17.ext E18
 replace K0 := K0.ext E18
 replace Z0 := Nat.le_trans Z0 E18.1
 replace Sf_b18 := Safe.ext E18 hCr.1 Sf_b18
 replace hk := Nat.le_trans hk E18.1
 replace hCr := hCr.trans (CHr.ext E18 hCr.1)
 have E_b18 := A18
 have F_b18_negative : Fld Z h18 b18 NU "negative" "Z" (.int (0 : Int32)) := D18 (Or.inr (wd138 hw)) (ty := .boolean) (by decide)
 have F_b18_integer : Fld Z h18 b18 NU "integer" LS .null := D18 (Or.inr (wd140 hw)) (ty := (.object SN)) (by decide)
 have F_b18_fraction : Fld Z h18 b18 NU "fraction" LS .null := D18 (Or.inr (wd142 hw)) (ty := (.object SN)) (by decide)
 refine G (fun t k => XS.dup X18.here hx rfl (D d6_190) rfl rfl (XS.aloadN X18.here hx rfl (D d6_191) rfl rfl k)) ?_
 obtain ⟨c19, T19, h19, kk19, d19, kb19, X19, e19, E19, hS19, hk19, hZ19, ho19, ES19, FC19, FV19, VA19, -, -, hC19, LL19, hn19, st19⟩ := ldcCH X18 hx hZ hown (wd55 hw) (own_str hw) e18 hS hk (own_EL hw) (by simp [consts_1]) hCr.1 (vs := [(.int (45 : Int32))]) (z := 1) ⟨by decide, by decide⟩ (by decide) (by decide) (g := (mkF m 192 #[vr a1, vi p2, vi st, vi pa, vi w_n, vi ((w_n - st) - (0 : Int32)), vi fi, vi w_n, vr c17] [(.ref a1), (.ref b18), (.ref b18)])) rfl (D d6_192) (n := 4) (by decide) (by decide) (by decide) (by decide)
 refine G st19 ?_
 replace Sf_b18 := CHr.safe hC19 E_b18.lt Sf_b18
 have ne_b18_c19 := (hn19 b18 Sf_b18).1
 have ne_b18_d19 := (hn19 b18 Sf_b18).2
 replace E_a1 := E_a1.ext E19
 replace F_a1_v := F_a1_v.ext E19
 replace F_a1_c := F_a1_c.ext E19
 replace V_b := V_b.ext E19
 replace SC := SC.ext E19
 replace SI := SI.ext E19
 replace S_EMPTY := S_EMPTY.ext E19
 replace E_w_EMPTY := E_w_EMPTY.ext E19
 replace ES17 := ES17.ext E19
 replace FC17 := FC17.ext E19
 replace FV17 := FV17.ext E19
 replace VA17 := VA17.ext E19
 replace E_b18 := E_b18.ext E19
 replace F_b18_negative := F_b18_negative.ext E19
 replace F_b18_integer := F_b18_integer.ext E19
 replace F_b18_fraction := F_b18_fraction.ext E19
 replace K0 := K0.ext E19
 replace Z0 := Nat.le_trans Z0 E19.1
 replace hCr := hCr.trans hC19
 replace hZ := hZ19
 replace hown := ho19
 replace hS := hS19
 replace hk := hk19
 refine sG T19 (mkF m 194 #[vr a1, vi p2, vi st, vi pa, vi w_n, vi ((w_n - st) - (0 : Int32)), vi fi, vi w_n, vr c17] [(.ref c19), (.ref a1), (.ref b18), (.ref b18)]) ?_
 obtain ⟨_, T20, Lc20, X20, hQ20, st20⟩ := cV X19 hx hZ hown hml (wd34 hw) (wd35 hw) (wd37 hw) (wd36 hw) (wd38 hw) (wd10 hw) E_a1 e19 2 [(.ref b18), (.ref b18)] (rm7 l Z a0 hw [] a1 c19 w_b k_b bs w_n wC d19 kb19 (45 : Int32) h19 n0 Z0 E_a1 F_a1_v F_a1_c V_b SC ES19 FV19 FC19 VA19 hcs hn0) pd27 (mkF m 194 #[vr a1, vi p2, vi st, vi pa, vi w_n, vi ((w_n - st) - (0 : Int32)), vi fi, vi w_n, vr c17] [(.ref c19), (.ref a1), (.ref b18), (.ref b18)]) (D d6_194)
 refine Go.tr st20 ?_
 obtain ⟨rfl, N20q, e20⟩ := hQ20
 have N20 := Fr.app N15 N20q
 refine sG T20 (mkF m 197 #[vr a1, vi p2, vi st, vi pa, vi w_n, vi ((w_n - st) - (0 : Int32)), vi fi, vi w_n, vr c17] [(.int ((f8 bs w_n (45 : Int32)) &&& 1)), (.ref b18), (.ref b18)]) ?_
 refine G (fun t k => XS.aloadN X20.here hx rfl (D d6_197) rfl rfl (XS.iload X20.here hx rfl (D d6_198) rfl (XS.iload X20.here hx rfl (D d6_200) rfl k))) ?_
 obtain ⟨cq21, kq21, q21a, q21b, q21c⟩ := isOf hZ e20 E_a1
 obtain ⟨_, _, ⟨T21, L21, k21, n21⟩, -, X21, hSi21, hgz21, ⟨Lc21, hQ21, l21, y21, z21, hC21⟩, st21⟩ := X20.virtualBackS hx (y := y_42) (z := y_42) hown (mvT hZ (wd117 hw)) (mvT hZ (wd118 hw)) (nf hZ (wd120 hw)) (mvT hZ (wd120 hw)) (mvT hZ (wd119 hw)) (by decide) (backOfSH (W := 3) (rm25 l Z a0 hw [] a1 fi w_n w_b k_b bs w_n wC w_S h19 n0 Z0 E_a1 F_a1_v F_a1_c V_b SC SI hcs hrS ⟨Int.le_trans hsl.1 hfi.1, hfi.2.1⟩ htn hn4 hbl) hZ (wd121 hw) (wd10 hw) (by decide) (by decide) (own_EL hw) hCr.1) q21a q21c (g := (mkF m 202 #[vr a1, vi p2, vi st, vi pa, vi w_n, vi ((w_n - st) - (0 : Int32)), vi fi, vi w_n, vr c17] [(.int w_n), (.int fi), (.ref a1), (.int ((f8 bs w_n (45 : Int32)) &&& 1)), (.ref b18), (.ref b18)])) rfl (by rw [hml]; rfl) (Steps.refl _) (argsL := [(.int fi), (.int w_n)]) (rest := [(.int ((f8 bs w_n (45 : Int32)) &&& 1)), (.ref b18), (.ref b18)]) (lenOf pd28 rfl) rfl (by show 2 * 0 + _ ≤ _; exact Nat.le_of_eq rfl) (D d6_202) (fun _ _ => ⟨rfl, e20, (by decide : 9 + 2 ≤ _), (by decide : 31 + 8 ≤ _)⟩)
 dsimp only [Pt.U, Pt.locs, Pt.cells, Pt.slots] at X21 l21 y21 z21 st21 hQ21 hSi21 hgz21 hC21
 subst l21 y21 z21
 obtain ⟨X21, hS, hZ, hown⟩ := rebS hS (show _ ≤ T20.heap.size by rw [e20]; exact hk) X21 hSi21 hgz21 hZ hown
 obtain ⟨h21, e21⟩ : ∃ z, T21.heap = z := ⟨_, rfl⟩
 rw [e21] at hQ21
 obtain ⟨za21, zb21, k_z_25_l1_21, rfl, N21q, K21, Q21_0, Q21_1, Q21_2, Q21_3⟩ := hQ21
 refine Go.tr st21 ?_
 have lt_b18 := E_b18.lt
 replace E_a1 := E_a1.keep K21
 replace F_a1_v := F_a1_v.keep K21 nin0
 replace F_a1_c := F_a1_c.keep K21 nin0
 replace V_b := V_b.keep K21 nin0
 replace SC := sta_keep SC K21 all0
 replace SI := sta_keep SI K21 all0
 replace S_EMPTY := sta_keep S_EMPTY K21 all0
 replace ES17 := ES17.keep K21
 replace FC17 := FC17.keep K21 nin0
 replace FV17 := FV17.keep K21 nin0
 replace VA17 := VA17.keep K21 nin0
 replace E_b18 := E_b18.keep K21
 replace F_b18_negative := F_b18_negative.keep K21 nin0
 replace F_b18_integer := F_b18_integer.keep K21 nin0
 replace F_b18_fraction := F_b18_fraction.keep K21 nin0
 rw [e21] at hC21 hS
 have hk := Nat.le_refl h21.size
 replace Sf_b18 := CHr.safe hC21 lt_b18 Sf_b18
 replace hCr := hCr.trans hC21
 replace Z0 := Nat.le_trans Z0 K21.1
 replace K0 := K0.trans K21 all0
 have E_z_25_l0_21 := Q21_0
 have F_z_25_l0_21_v := Q21_1
 have F_z_25_l0_21_c := Q21_2
 have V_z_25_l1_21 := Q21_3
 have ne_b18_z_25_l0_21 : b18 ≠ za21 := ne_exa E_b18 E_z_25_l0_21 (by decide)
 have ne_b18_z_25_l1_21 : b18 ≠ zb21 := V_z_25_l1_21.elim fun _ q => ne_arr E_b18 (wd116 hw) q.1
 have N21 := Fr.app N20 N21q
 refine G (fun t k => XS.aload X21.here hx rfl (D d6_205) rfl rfl k) ?_
 obtain ⟨_, _, ⟨T22, L22, k22, n22⟩, -, X22, ⟨Lc22, hQ22, l22, y22, z22⟩, st22⟩ := X21.specialBack hx (y := y_23) rfl hown (mvT hZ (wd128 hw)) (mvT hZ (wd129 hw)) (mvT hZ (wd130 hw)) (by decide) (backOf (W := 1) (rm28 l Z a0 hw [] b18 ((f8 bs w_n (45 : Int32)) &&& 1) za21 c17 ((.int (0 : Int32)) : Value) (.null : Value) (.null : Value) h21 n0 Z0 E_b18 F_b18_negative F_b18_integer F_b18_fraction g_b18) hZ (wd130 hw) (wd31 hw) (by decide) (by decide)) (g := (mkF m 207 #[vr a1, vi p2, vi st, vi pa, vi w_n, vi ((w_n - st) - (0 : Int32)), vi fi, vi w_n, vr c17] [(.ref c17), (.ref za21), (.int ((f8 bs w_n (45 : Int32)) &&& 1)), (.ref b18), (.ref b18)])) rfl (by rw [hml]; rfl) (Steps.refl _) (a := b18) (argsL := [(.int ((f8 bs w_n (45 : Int32)) &&& 1)), (.ref za21), (.ref c17)]) (rest := [(.ref b18)]) (lenOf pd29 rfl) rfl (by show 2 * 0 + _ ≤ _; exact Nat.le_of_eq rfl) (D d6_207) (fun _ _ => ⟨rfl, e21, (by decide : 11 + 0 ≤ _), (by decide : 39 + 0 ≤ _)⟩)
 dsimp only [Pt.U, Pt.locs, Pt.cells, Pt.slots] at X22 l22 y22 z22 st22 hQ22
 subst l22 y22 z22
 refine Go.tr st22 ?_
 have E_b18_pre := E_b18
 have F_b18_negative_pre := F_b18_negative
 have F_b18_integer_pre := F_b18_integer
 have F_b18_fraction_pre := F_b18_fraction
 obtain ⟨h22, e22⟩ : ∃ z, T22.heap = z := ⟨_, rfl⟩
 rw [e22] at hQ22
 obtain ⟨rfl, N22q, K22, Q22_0, Q22_1, Q22_2, Q22_3⟩ := hQ22
 replace E_a1 := E_a1.keep K22
 replace F_a1_v := F_a1_v.keep K22 (ninS ne_a1_b18 nin0)
 replace F_a1_c := F_a1_c.keep K22 (ninS ne_a1_b18 nin0)
 replace V_b := V_b.keep K22 (ninS ne_w_b_b18 nin0)
 replace SC := sta_keep SC K22 (allS (exa_ns E_b18_pre) all0)
 replace SI := sta_keep SI K22 (allS (exa_ns E_b18_pre) all0)
 replace S_EMPTY := sta_keep S_EMPTY K22 (allS (exa_ns E_b18_pre) all0)
 replace ES17 := ES17.keep K22
 replace FC17 := FC17.keep K22 (ninS ne_c17_b18 nin0)
 replace FV17 := FV17.keep K22 (ninS ne_c17_b18 nin0)
 replace VA17 := VA17.keep K22 (ninS ne_d17_b18 nin0)
 replace E_b18 := E_b18.keep K22
 replace E_z_25_l0_21 := E_z_25_l0_21.keep K22
 replace F_z_25_l0_21_v := F_z_25_l0_21_v.keep K22 (ninS (Ne.symm ne_b18_z_25_l0_21) nin0)
 replace F_z_25_l0_21_c := F_z_25_l0_21_c.keep K22 (ninS (Ne.symm ne_b18_z_25_l0_21) nin0)
 replace V_z_25_l1_21 := V_z_25_l1_21.keep K22 (ninS (Ne.symm ne_b18_z_25_l1_21) nin0)
 have hCo := hCr.1
 have Sf_b18_o := Sf_b18
 replace Sf_b18 := Safe.keep K22 (allS Sf_b18_o all0) hCo Sf_b18
 replace hk := Nat.le_trans hk K22.1
 replace hCr := hCr.trans (CHr.keep K22 (allS Sf_b18_o all0) hCo)
 clear hCo Sf_b18_o
 replace Z0 := Nat.le_trans Z0 K22.1
 replace K0 := K0.trans K22 (allS (Or.inr sz_b18) all0)
 clear E_b18_pre F_b18_negative_pre F_b18_integer_pre F_b18_fraction_pre
 have E_b18 := Q22_0
 have F_b18_negative := Q22_1
 have F_b18_integer := Q22_2
 have F_b18_fraction := Q22_3
 have N22 := Fr.app N21 N22q
 obtain ⟨LL22, X22, N22⟩ : ∃ LL, Stand p l e (Rm 5 12 44 83) (s.setVm T21.vm) m #[(.ref a1), (.int p2)] below meth c T22 LL 11 39 ∧ Fr n0 LL := ⟨_, X22, N22⟩
 obtain ⟨_, T23, Lc23, X23, hQ23, st23⟩ := cS X22 hx hZ hown hml (wd143 hw) (wd144 hw) (wd59 hw) (wd145 hw) e22 0 [] (rm30 l Z a0 hw [] b18 h22 n0 Z0) pd30 (mkF m 210 #[vr a1, vi p2, vi st, vi pa, vi w_n, vi ((w_n - st) - (0 : Int32)), vi fi, vi w_n, vr c17] [(.ref b18)]) (D d6_210)
 obtain ⟨h23, e23⟩ : ∃ z, T23.heap = z := ⟨_, rfl⟩
 rw [e23] at hQ23
 obtain ⟨y23, rfl, N23q, K23, ng_y23, sz0_y23, Q23_0, Q23_1⟩ := hQ23
 refine G st23 ?_
 have ne_a1_y23 : a1 ≠ y23 := Nat.ne_of_lt (Nat.lt_of_lt_of_le E_a1.lt sz0_y23)
 have ne_w_b_y23 : w_b ≠ y23 := Nat.ne_of_lt (Nat.lt_of_lt_of_le V_b.lt sz0_y23)
 have ne_c17_y23 : c17 ≠ y23 := Nat.ne_of_lt (Nat.lt_of_lt_of_le ES17.lt sz0_y23)
 have ne_d17_y23 : d17 ≠ y23 := Nat.ne_of_lt (Nat.lt_of_lt_of_le VA17.lt sz0_y23)
 have ne_b18_y23 : b18 ≠ y23 := Nat.ne_of_lt (Nat.lt_of_lt_of_le E_b18.lt sz0_y23)
 have ne_z_25_l0_21_y23 : za21 ≠ y23 := Nat.ne_of_lt (Nat.lt_of_lt_of_le E_z_25_l0_21.lt sz0_y23)
 have ne_z_25_l1_21_y23 : zb21 ≠ y23 := Nat.ne_of_lt (Nat.lt_of_lt_of_le V_z_25_l1_21.lt sz0_y23)
 have g_y23 : n0 ≤ y23 := ng_y23
 have sz_y23 : h0.size ≤ y23 := Nat.le_trans K0.1 sz0_y23
 replace E_a1 := E_a1.keep K23
 replace F_a1_v := F_a1_v.keep K23 nin0
 replace F_a1_c := F_a1_c.keep K23 nin0
 replace V_b := V_b.keep K23 nin0
 replace SC := sta_keep SC K23 all0
 replace SI := sta_keep SI K23 all0
 replace S_EMPTY := sta_keep S_EMPTY K23 all0
 replace ES17 := ES17.keep K23
 replace FC17 := FC17.keep K23 nin0
 replace FV17 := FV17.keep K23 nin0
 replace VA17 := VA17.keep K23 nin0
 replace E_b18 := E_b18.keep K23
 replace E_z_25_l0_21 := E_z_25_l0_21.keep K23
 replace F_z_25_l0_21_v := F_z_25_l0_21_v.keep K23 nin0
 replace F_z_25_l0_21_c := F_z_25_l0_21_c.keep K23 nin0
 replace V_z_25_l1_21 := V_z_25_l1_21.keep K23 nin0
 replace F_b18_negative := F_b18_negative.keep K23 nin0
 replace F_b18_integer := F_b18_integer.keep K23 nin0
 replace F_b18_fraction := F_b18_fraction.keep K23 nin0
 have hCo := hCr.1
 replace Sf_b18 := Safe.keep K23 all0 hCo Sf_b18
 replace hk := Nat.le_trans hk K23.1
 replace hCr := hCr.trans (CHr.keep K23 all0 hCo)
 clear hCo
 replace Z0 := Nat.le_trans Z0 K23.1
 replace K0 := K0.trans K23 all0
 have E_y23 := Q23_0
 have F_y23_v := Q23_1
 have N23 := Fr.app N22 N23q
 refine sG T23 (mkF m 213 #[vr a1, vi p2, vi st, vi pa, vi w_n, vi ((w_n - st) - (0 : Int32)), vi fi, vi w_n, vr c17] [(.ref y23)]) ?_
 exact lwR (Q := Q6 Z a1 p2 w_b k_b bs w_n wC w_S w_EMPTY h0 n0) Bd X23 e23 hS hk hh hCr hZ (own_EL hw) (D d6_213) rfl rfl rfl ⟨y23, rfl, N23, K0, E_y23, (Or.inr ⟨b18, za21, c17, zb21, d17, k_z_25_l1_21, kb17, st, pa, w_n, fi, 0, 0, F_y23_v, E_b18, F_b18_negative, F_b18_integer, F_b18_fraction, E_z_25_l0_21, F_z_25_l0_21_v, F_z_25_l0_21_c, V_z_25_l1_21, ES17, FV17, FC17, (by rw [own_sl0, own_00]; exact VA17), hst, hpa, hfi, Or.inl ⟨hc3, rfl, rfl, rfl, hA1, hdz⟩⟩)⟩ (by decide) (by decide)
theorem TJ6_5 (l : Launch) (Z : State) (a0 : Array Value) (hw : HW a0 Z) (ws : List Jvm.Cond) (a1 : Addr) (p2 : Int32) (w_b : Addr) (k_b : ClassId) (bs : List Int32) (w_n : Int32) (wC : Int32) (w_S : Value) (w_EMPTY : Addr) (h0 : Heap) (n0 : Nat) {p : Program} {e : Env} {s : State} {m : MethodId} {below : List Frame} {meth : Method} {c : Code} {s₁ : State} (Bd : BodyLoose p l y_47 (head1 (Cond.code y_47 cB6 9 (some (.object OP)) :: ws) (Rm 5 12 44 83)) cB6 9 (some (.object OP)) e s m #[(.ref a1), (.int p2)] below meth c s₁) (hml0 : c.maxLocals = 9) {VM : Vm} {kS : Nat} (hZ : Z.Warmed39 (s.setVm VM).vm) (hown : (s.setVm VM).vm.findClass NU = some m.cls) (hh : s.heap = h0) {TJ : State} {locsJ : List Loc} {hJ : Heap} {st : Int32} {pa : Int32} (XJ : Stand p l e (Rm 5 12 44 83) (s.setVm VM) m #[(.ref a1), (.int p2)] below meth c TJ locsJ 4 16) (eJ : TJ.heap = hJ) (NJ : Fr n0 locsJ) (K0 : Keep h0 hJ []) (Z0 : n0 ≤ hJ.size) (hS : s.Since VM kS) (hk : kS ≤ hJ.size) (hCr : CHr Z consts_1 s.vm h0 VM hJ) (E_a1 : Exa Z hJ a1 SN) (F_a1_v : Fld Z hJ a1 SN "value" "[B" (.ref w_b)) (F_a1_c : Fld Z hJ a1 SN "coder" "B" (.int (0 : Int32))) (V_b : Arv Z hJ w_b k_b .byte w_n (List.map Value.int bs) (.int (0 : Int32))) (SC : Sta Z hJ SN "COMPACT_STRINGS" "Z" (.int wC)) (SI : Sta Z hJ PC "SIOOBE_FORMATTER" BF w_S) (S_EMPTY : Sta Z hJ OP "EMPTY" "Ljava/util/Optional;" (.ref w_EMPTY)) (E_w_EMPTY : Exa Z hJ w_EMPTY OP) (hc3 : pa < (0 : Int32)) (hst : Stt bs w_n st) (hpa : Pat bs w_n p2 st pa) (hcs : ¬ wC = (0 : Int32)) (hrS : w_S.isRef = true) (hn0 : 0 ≤ w_n.toInt) (hn4 : w_n.toInt ≤ 4) (hbl : bs.length = w_n.toNatClampNeg) :
  Go p.tables e below (TJ.setTop (mkF m 52 #[vr a1, vi p2, vi st, vi pa, us, us, us, us, us] [(.int w_n)])) (fun o U' => ∃ v L, o = .returned v ∧ Q6 Z a1 p2 w_b k_b bs w_n wC w_S w_EMPTY h0 n0 v U'.heap L ∧ CHr Z consts_1 s.vm s.heap U'.vm U'.heap ∧ ReturnedEndW s o U' L (Rm 5 12 44 83).cells (Rm 5 12 44 83).slots) := by
 have hx := Bd.exec
 have D := @hb _ _ Bd.bytes
 have hml : c.maxLocals = 9 := hml0
 have hnm := (name_of_methodNamed Bd.named Bd.method).1
 have hsl := own_stle hst hn0
 have hft : 0 ≤ st.toInt ∧ st.toInt ≤ w_n.toInt := hsl
 have htn : w_n.toInt ≤ w_n.toInt := Int.le_refl _
 refine G (fun t k => XS.istore XJ.here hx rfl (D d6_52) rfl (l' := #[vr a1, vi p2, vi st, vi pa, vi w_n, us, us, us, us]) rfl (XS.aloadN XJ.here hx rfl (D d6_54) rfl rfl k)) ?_
 obtain ⟨_, T6, Lc6, X6, hQ6, st6⟩ := cV XJ hx hZ hown hml (wd56 hw) (wd45 hw) (wd47 hw) (wd46 hw) (wd48 hw) (wd10 hw) E_a1 eJ 0 [] (rm9 l Z a0 hw [] a1 w_b k_b bs w_n wC hJ n0 Z0 E_a1 F_a1_v F_a1_c V_b SC hcs) pd13 (mkF m 55 #[vr a1, vi p2, vi st, vi pa, vi w_n, us, us, us, us] [(.ref a1)]) (D d6_55)
 refine Go.tr st6 ?_
 obtain ⟨rfl, N6q, e6⟩ := hQ6
 have N6 := Fr.app NJ N6q
 refine G (fun t k => XS.iloadN X6.here hx rfl (D d6_58) rfl (XS.isub X6.here hx rfl (D d6_59) rfl (XS.iloadN X6.here hx rfl (D d6_60) rfl (XS.ifNo X6.here hx rfl (D d6_61) rfl ((if0 _ _).trans (tlt hc3).2.1) k)))) ?_
 refine sG T6 (mkF m 64 #[vr a1, vi p2, vi st, vi pa, vi w_n, us, us, us, us] [(.int (w_n - st))]) ?_
 refine G (fun t k => XS.iconst X6.here hx rfl (D d6_64) (XS.goto X6.here hx rfl (pc0 := 65) (pc' := 69) rfl (D d6_65) (by decide) (by decide) (XS.isub X6.here hx rfl (D d6_69) rfl (XS.istore X6.here hx rfl (D d6_70) rfl (l' := #[vr a1, vi p2, vi st, vi pa, vi w_n, vi ((w_n - st) - (0 : Int32)), us, us, us]) rfl (XS.iload X6.here hx rfl (D d6_72) rfl k))))) ?_
 by_cases hc7 : ((w_n - st) - (0 : Int32)) = (0 : Int32)
 ·refine G (fun t k => XS.ifYes X6.here hx rfl (pc0 := 74) (pc' := 102) rfl (D d6_74) rfl ((if0 _ _).trans (teq hc7).1) (by decide) (by decide) k) ?_
  obtain ⟨_, T8, Lc8, X8, hQ8, st8⟩ := cS X6 hx hZ hown hml (wd57 hw) (wd58 hw) (wd59 hw) (wd60 hw) e6 0 [] (rm11 l Z a0 hw [] w_EMPTY hJ n0 Z0 S_EMPTY E_w_EMPTY) pd25 (mkF m 102 #[vr a1, vi p2, vi st, vi pa, vi w_n, vi ((w_n - st) - (0 : Int32)), us, us, us] []) (D d6_102)
  refine G st8 ?_
  obtain ⟨rfl, N8q, e8⟩ := hQ8
  have N8 := Fr.app N6 N8q
  refine sG T8 (mkF m 105 #[vr a1, vi p2, vi st, vi pa, vi w_n, vi ((w_n - st) - (0 : Int32)), us, us, us] [(.ref w_EMPTY)]) ?_
  exact lwR (Q := Q6 Z a1 p2 w_b k_b bs w_n wC w_S w_EMPTY h0 n0) Bd X8 e8 hS hk hh hCr hZ (own_EL hw) (D d6_105) rfl rfl rfl ⟨w_EMPTY, rfl, N8, K0, E_w_EMPTY, (Or.inl ⟨rfl, st, pa, hst, hpa, Or.inl ⟨hc3, Or.inl ((own_d0 hsl).mp hc7)⟩⟩)⟩ (by decide) (by decide)
 ·refine G (fun t k => XS.ifNo X6.here hx rfl (D d6_74) rfl ((if0 _ _).trans (feq hc7).1) (XS.aloadN X6.here hx rfl (D d6_77) rfl rfl k)) ?_
  refine sG T6 (mkF m 78 #[vr a1, vi p2, vi st, vi pa, vi w_n, vi ((w_n - st) - (0 : Int32)), us, us, us] [(.ref a1)]) ?_
  refine G (fun t k => XS.iloadN X6.here hx rfl (D d6_78) rfl (XS.iload X6.here hx rfl (D d6_79) rfl k)) ?_
  obtain ⟨_, T9, Lc9, X9, hQ9, st9⟩ := cS X6 hx hZ hown hml (wd89 hw) (wd90 hw) (wd31 hw) (wd91 hw) e6 0 [] (rm19 l Z a0 hw [] a1 st w_n w_b k_b bs w_n wC w_S hJ n0 Z0 E_a1 F_a1_v F_a1_c V_b SC SI hcs hrS hft htn) pd26 (mkF m 81 #[vr a1, vi p2, vi st, vi pa, vi w_n, vi ((w_n - st) - (0 : Int32)), us, us, us] [(.int w_n), (.int st), (.ref a1)]) (D d6_81)
  obtain ⟨rr9, rfl, N9q, e9, raw9⟩ := hQ9
  refine G st9 ?_
  have N9 := Fr.app N6 N9q
  by_cases hc10 : rr9 = (0 : Int32)
  ·refine G (fun t k => XS.ifYes X9.here hx rfl (pc0 := 84) (pc' := 102) rfl (D d6_84) rfl ((if0 _ _).trans (teq hc10).1) (by decide) (by decide) k) ?_
   obtain ⟨_, T11, Lc11, X11, hQ11, st11⟩ := cS X9 hx hZ hown hml (wd57 hw) (wd58 hw) (wd59 hw) (wd60 hw) e9 0 [] (rm11 l Z a0 hw [] w_EMPTY hJ n0 Z0 S_EMPTY E_w_EMPTY) pd25 (mkF m 102 #[vr a1, vi p2, vi st, vi pa, vi w_n, vi ((w_n - st) - (0 : Int32)), us, us, us] []) (D d6_102)
   refine G st11 ?_
   obtain ⟨rfl, N11q, e11⟩ := hQ11
   have N11 := Fr.app N9 N11q
   exact lwR (Q := Q6 Z a1 p2 w_b k_b bs w_n wC w_S w_EMPTY h0 n0) Bd X11 e11 hS hk hh hCr hZ (own_EL hw) (D d6_105) rfl rfl rfl ⟨w_EMPTY, rfl, N11, K0, E_w_EMPTY, (Or.inl ⟨rfl, st, pa, hst, hpa, Or.inl ⟨hc3, Or.inr (own_r0 raw9 hc10)⟩⟩)⟩ (by decide) (by decide)
  ·refine G (fun t k => XS.ifNo X9.here hx rfl (D d6_84) rfl ((if0 _ _).trans (feq hc10).1) (XS.aloadN X9.here hx rfl (D d6_87) rfl rfl (XS.iload X9.here hx rfl (D d6_88) rfl (XS.iconst X9.here hx rfl (D d6_90) k)))) ?_
   refine sG T9 (mkF m 91 #[vr a1, vi p2, vi st, vi pa, vi w_n, vi ((w_n - st) - (0 : Int32)), us, us, us] [(.int 1), (.int w_n), (.ref a1)]) ?_
   refine G (fun t k => XS.iadd X9.here hx rfl (D d6_91) rfl (XS.aloadN X9.here hx rfl (D d6_92) rfl rfl k)) ?_
   obtain ⟨_, T12, Lc12, X12, hQ12, st12⟩ := cV X9 hx hZ hown hml (wd56 hw) (wd45 hw) (wd47 hw) (wd46 hw) (wd48 hw) (wd10 hw) E_a1 e9 2 [(.int (w_n + (1 : Int32))), (.ref a1)] (rm9 l Z a0 hw [] a1 w_b k_b bs w_n wC hJ n0 Z0 E_a1 F_a1_v F_a1_c V_b SC hcs) pd13 (mkF m 93 #[vr a1, vi p2, vi st, vi pa, vi w_n, vi ((w_n - st) - (0 : Int32)), us, us, us] [(.ref a1), (.int (w_n + (1 : Int32))), (.ref a1)]) (D d6_93)
   refine Go.tr st12 ?_
   obtain ⟨rfl, N12q, e12⟩ := hQ12
   have N12 := Fr.app N9 N12q
   obtain ⟨_, T13, Lc13, X13, hQ13, st13⟩ := cS X12 hx hZ hown hml (wd89 hw) (wd90 hw) (wd31 hw) (wd91 hw) e12 0 [] (rm19e l Z a0 hw [] a1 (w_n + (1 : Int32)) w_n hJ n0 Z0 (own_n1 hn0 hn4)) pd26 (mkF m 96 #[vr a1, vi p2, vi st, vi pa, vi w_n, vi ((w_n - st) - (0 : Int32)), us, us, us] [(.int w_n), (.int (w_n + (1 : Int32))), (.ref a1)]) (D d6_96)
   refine G st13 ?_
   obtain ⟨rfl, N13q, e13⟩ := hQ13
   have N13 := Fr.app N12 N13q
   obtain ⟨LL13, X13, N13⟩ : ∃ LL, Stand p l e (Rm 5 12 44 83) (s.setVm VM) m #[(.ref a1), (.int p2)] below meth c T13 LL 4 16 ∧ Fr n0 LL := ⟨_, X13, N13⟩
   refine G (fun t k => XS.ifYes X13.here hx rfl (pc0 := 99) (pc' := 106) rfl (D d6_99) rfl ((if0 _ _).trans (feq (by decide : ¬ ((1 : Int32) = (0 : Int32)))).2) (by decide) (by decide) k) ?_
   refine sG T13 (mkF m 106 #[vr a1, vi p2, vi st, vi pa, vi w_n, vi ((w_n - st) - (0 : Int32)), us, us, us] []) ?_
   have hA1 : AllD bs st.toInt w_n.toInt := own_r1 raw9 hc10
   have hdz : ¬ w_n.toInt - st.toInt = 0 := fun z => hc7 ((own_d0 hsl).mpr z)
   refine G (fun t k => XS.iloadN X13.here hx rfl (D d6_106) rfl (XS.istore X13.here hx rfl (D d6_107) rfl (l' := #[vr a1, vi p2, vi st, vi pa, vi w_n, vi ((w_n - st) - (0 : Int32)), vi st, us, us]) rfl k)) ?_
   refine sG T13 (mkF m 109 #[vr a1, vi p2, vi st, vi pa, vi w_n, vi ((w_n - st) - (0 : Int32)), vi st, us, us] []) ?_
   have J24 : ∀ (dd : Nat) (TJ : State) (locsJ : List Loc) (i : Int32), Stand p l e (Rm 5 12 44 83) (s.setVm VM) m #[(.ref a1), (.int p2)] below meth c TJ locsJ 4 16 → TJ.heap = hJ → Fr n0 locsJ → (0 ≤ i.toInt ∧ i.toInt + (dd : Int) = w_n.toInt) → (Zer bs st.toInt i.toInt ∧ st.toInt ≤ i.toInt) → Go p.tables e below (TJ.setTop (mkF m 109 #[vr a1, vi p2, vi st, vi pa, vi w_n, vi ((w_n - st) - (0 : Int32)), vi i, us, us] [])) (fun o U' => ∃ v L, o = .returned v ∧ Q6 Z a1 p2 w_b k_b bs w_n wC w_S w_EMPTY h0 n0 v U'.heap L ∧ CHr Z consts_1 s.vm s.heap U'.vm U'.heap ∧ ReturnedEndW s o U' L (Rm 5 12 44 83).cells (Rm 5 12 44 83).slots) := by
    intro dd
    induction dd with
    | zero =>
     intro TJ locsJ i XJ eJ NJ hi hz
     refine G (fun t k => XS.iload XJ.here hx rfl (D d6_109) rfl (XS.iload XJ.here hx rfl (D d6_111) rfl k)) ?_
     have hf25 : ¬ (i < w_n) := own_ige hi
     refine G (fun t k => XS.icmpYes XJ.here hx rfl (pc0 := 113) (pc' := 133) rfl (D d6_113) rfl (flt hf25).2.1 (by decide) (by decide) k) ?_
     refine sG TJ (mkF m 133 #[vr a1, vi p2, vi st, vi pa, vi w_n, vi ((w_n - st) - (0 : Int32)), vi i, us, us] []) ?_
     exact TJ6_14 l Z a0 hw ws a1 p2 w_b k_b bs w_n wC w_S w_EMPTY h0 n0 Bd hml0 hZ hown hh XJ eJ NJ K0 Z0 hS hk hCr E_a1 F_a1_v F_a1_c V_b SC SI S_EMPTY E_w_EMPTY hc3 hst hpa hA1 hdz hcs hrS hn0 hn4 hbl (Fst.end hi hz)
    | succ dd ih =>
     intro TJ locsJ i XJ eJ NJ hi hz
     refine G (fun t k => XS.iload XJ.here hx rfl (D d6_109) rfl (XS.iload XJ.here hx rfl (D d6_111) rfl k)) ?_
     have hf26 : i < w_n := own_ilt hi
     refine G (fun t k => XS.icmpNo XJ.here hx rfl (D d6_113) rfl (tlt hf26).2.1 (XS.aloadN XJ.here hx rfl (D d6_116) rfl rfl (XS.iload XJ.here hx rfl (D d6_117) rfl k))) ?_
     obtain ⟨_, T27, Lc27, X27, hQ27, st27⟩ := cV XJ hx hZ hown hml (wd92 hw) (wd93 hw) (wd95 hw) (wd94 hw) (wd96 hw) (wd10 hw) E_a1 eJ 0 [] (rm20 l Z a0 hw [] a1 i w_b k_b bs w_n wC w_S hJ n0 Z0 E_a1 F_a1_v F_a1_c V_b SC SI hcs hrS (own_iib hi htn)) pd9 (mkF m 119 #[vr a1, vi p2, vi st, vi pa, vi w_n, vi ((w_n - st) - (0 : Int32)), vi i, us, us] [(.int i), (.ref a1)]) (D d6_119)
     refine Go.tr st27 ?_
     obtain ⟨rfl, N27q, e27⟩ := hQ27
     have N27 := Fr.app NJ N27q
     refine G (fun t k => XS.bipush X27.here hx rfl (D d6_122) k) ?_
     refine sG T27 (mkF m 124 #[vr a1, vi p2, vi st, vi pa, vi w_n, vi ((w_n - st) - (0 : Int32)), vi i, us, us] [(.int 48), (.int (chr (own_at bs i)))]) ?_
     by_cases hc28 : (chr (own_at bs i)) = (48 : Int32)
     ·refine G (fun t k => XS.icmpNo X27.here hx rfl (D d6_124) rfl (teq hc28).2 (XS.iinc X27.here hx rfl (D d6_127) rfl (l' := #[vr a1, vi p2, vi st, vi pa, vi w_n, vi ((w_n - st) - (0 : Int32)), vi (i + (1 : Int32)), us, us]) rfl (XS.goto X27.here hx rfl (pc0 := 130) (pc' := 109) rfl (D d6_130) (by decide) (by decide) k))) ?_
      refine sG T27 (mkF m 109 #[vr a1, vi p2, vi st, vi pa, vi w_n, vi ((w_n - st) - (0 : Int32)), vi (i + (1 : Int32)), us, us] []) ?_
      exact ih _ _ (i + (1 : Int32)) X27 e27 N27 ⟨by have := own_inc hi; omega, by have := own_inc hi; have := hi.2; omega⟩ ⟨Zer.step hz.1 (own_inc hi) hc28, by have := own_inc hi; have := hz.2; omega⟩
     ·refine G (fun t k => XS.icmpYes X27.here hx rfl (pc0 := 124) (pc' := 133) rfl (D d6_124) rfl (feq hc28).2 (by decide) (by decide) k) ?_
      refine sG T27 (mkF m 133 #[vr a1, vi p2, vi st, vi pa, vi w_n, vi ((w_n - st) - (0 : Int32)), vi i, us, us] []) ?_
      exact TJ6_14 l Z a0 hw ws a1 p2 w_b k_b bs w_n wC w_S w_EMPTY h0 n0 Bd hml0 hZ hown hh X27 e27 N27 K0 Z0 hS hk hCr E_a1 F_a1_v F_a1_c V_b SC SI S_EMPTY E_w_EMPTY hc3 hst hpa hA1 hdz hcs hrS hn0 hn4 hbl (Fst.stop hi hz hc28)
   exact J24 (w_n.toInt - st.toInt).toNat _ _ st X13 e13 N13 ⟨hft.1, by have := hft.2; omega⟩ ⟨Zer.nil (Int.le_refl _), Int.le_refl _⟩
theorem TJ6_42 (l : Launch) (Z : State) (a0 : Array Value) (hw : HW a0 Z) (ws : List Jvm.Cond) (a1 : Addr) (p2 : Int32) (w_b : Addr) (k_b : ClassId) (bs : List Int32) (w_n : Int32) (wC : Int32) (w_S : Value) (w_EMPTY : Addr) (h0 : Heap) (n0 : Nat) {p : Program} {e : Env} {s : State} {m : MethodId} {below : List Frame} {meth : Method} {c : Code} {s₁ : State} (Bd : BodyLoose p l y_47 (head1 (Cond.code y_47 cB6 9 (some (.object OP)) :: ws) (Rm 5 12 44 83)) cB6 9 (some (.object OP)) e s m #[(.ref a1), (.int p2)] below meth c s₁) (hml0 : c.maxLocals = 9) {VM : Vm} {kS : Nat} (hZ : Z.Warmed39 (s.setVm VM).vm) (hown : (s.setVm VM).vm.findClass NU = some m.cls) (hh : s.heap = h0) {TJ : State} {locsJ : List Loc} {hJ : Heap} {st : Int32} {pa : Int32} {fi : Int32} {la : Int32} (XJ : Stand p l e (Rm 5 12 44 83) (s.setVm VM) m #[(.ref a1), (.int p2)] below meth c TJ locsJ 4 16) (eJ : TJ.heap = hJ) (NJ : Fr n0 locsJ) (K0 : Keep h0 hJ []) (Z0 : n0 ≤ hJ.size) (hS : s.Since VM kS) (hk : kS ≤ hJ.size) (hCr : CHr Z consts_1 s.vm h0 VM hJ) (E_a1 : Exa Z hJ a1 SN) (F_a1_v : Fld Z hJ a1 SN "value" "[B" (.ref w_b)) (F_a1_c : Fld Z hJ a1 SN "coder" "B" (.int (0 : Int32))) (V_b : Arv Z hJ w_b k_b .byte w_n (List.map Value.int bs) (.int (0 : Int32))) (SC : Sta Z hJ SN "COMPACT_STRINGS" "Z" (.int wC)) (SI : Sta Z hJ PC "SIOOBE_FORMATTER" BF w_S) (S_EMPTY : Sta Z hJ OP "EMPTY" "Ljava/util/Optional;" (.ref w_EMPTY)) (E_w_EMPTY : Exa Z hJ w_EMPTY OP) (hc3 : ¬ (pa < (0 : Int32))) (hst : Stt bs w_n st) (hpa : Pat bs w_n p2 st pa) (hA1 : AllD bs st.toInt pa.toInt) (hdz : ¬ w_n.toInt - st.toInt - 1 = 0) (hA2 : AllD bs (pa.toInt + 1) w_n.toInt) (hfi : Fst bs st.toInt pa.toInt fi) (hcs : ¬ wC = (0 : Int32)) (hrS : w_S.isRef = true) (hn0 : 0 ≤ w_n.toInt) (hn4 : w_n.toInt ≤ 4) (hbl : bs.length = w_n.toNatClampNeg) (hla : Lst bs (pa.toInt + 1) w_n.toInt la) :
  Go p.tables e below (TJ.setTop (mkF m 167 #[vr a1, vi p2, vi st, vi pa, vi pa, vi ((w_n - st) - (1 : Int32)), vi fi, vi la, us] [])) (fun o U' => ∃ v L, o = .returned v ∧ Q6 Z a1 p2 w_b k_b bs w_n wC w_S w_EMPTY h0 n0 v U'.heap L ∧ CHr Z consts_1 s.vm s.heap U'.vm U'.heap ∧ ReturnedEndW s o U' L (Rm 5 12 44 83).cells (Rm 5 12 44 83).slots) := by
 have hx := Bd.exec
 have D := @hb _ _ Bd.bytes
 have hml : c.maxLocals = 9 := hml0
 have hnm := (name_of_methodNamed Bd.named Bd.method).1
 have hsl := own_stle hst hn0
 have hpl := own_pale hst hn0 hpa hc3
 have hft : 0 ≤ st.toInt ∧ st.toInt ≤ pa.toInt := hpl.1
 have htn : pa.toInt ≤ w_n.toInt := Int.le_of_lt hpl.2
 have hp0 : 0 ≤ pa.toInt := Int.le_trans hft.1 hft.2
 have hp1 := own_p1 hp0 hpl.2
 refine G (fun t k => XS.iloadN XJ.here hx rfl (D d6_167) rfl (XS.ifYes XJ.here hx rfl (pc0 := 168) (pc' := 176) rfl (D d6_168) rfl ((if0 _ _).trans (flt hc3).2.1) (by decide) (by decide) (XS.aloadN XJ.here hx rfl (D d6_176) rfl rfl (XS.iloadN XJ.here hx rfl (D d6_177) rfl (XS.iconst XJ.here hx rfl (D d6_178) (XS.iadd XJ.here hx rfl (D d6_179) rfl k)))))) ?_
 refine G (fun t k => XS.iload XJ.here hx rfl (D d6_180) rfl k) ?_
 refine sG TJ (mkF m 182 #[vr a1, vi p2, vi st, vi pa, vi pa, vi ((w_n - st) - (1 : Int32)), vi fi, vi la, us] [(.int la), (.int (pa + (1 : Int32))), (.ref a1)]) ?_
 obtain ⟨cq43, kq43, q43a, q43b, q43c⟩ := isOf hZ eJ E_a1
 obtain ⟨_, _, ⟨T43, L43, k43, n43⟩, -, X43, hSi43, hgz43, ⟨Lc43, hQ43, l43, y43, z43, hC43⟩, st43⟩ := XJ.virtualBackS hx (y := y_42) (z := y_42) hown (mvT hZ (wd117 hw)) (mvT hZ (wd118 hw)) (nf hZ (wd120 hw)) (mvT hZ (wd120 hw)) (mvT hZ (wd119 hw)) (by decide) (backOfSH (W := 0) (rm25 l Z a0 hw [] a1 (pa + (1 : Int32)) la w_b k_b bs w_n wC w_S hJ n0 Z0 E_a1 F_a1_v F_a1_c V_b SC SI hcs hrS ⟨by rw [hp1]; omega, by rw [hp1]; exact hla.1⟩ hla.2.1 hn4 hbl) hZ (wd121 hw) (wd10 hw) (by decide) (by decide) (own_EL hw) hCr.1) q43a q43c (g := (mkF m 182 #[vr a1, vi p2, vi st, vi pa, vi pa, vi ((w_n - st) - (1 : Int32)), vi fi, vi la, us] [(.int la), (.int (pa + (1 : Int32))), (.ref a1)])) rfl (by rw [hml]; rfl) (Steps.refl _) (argsL := [(.int (pa + (1 : Int32))), (.int la)]) (rest := []) (lenOf pd28 rfl) rfl (by show 2 * 0 + _ ≤ _; exact Nat.le_of_eq rfl) (D d6_182) (fun _ _ => ⟨rfl, eJ, (by decide : 4 + 2 ≤ _), (by decide : 16 + 8 ≤ _)⟩)
 dsimp only [Pt.U, Pt.locs, Pt.cells, Pt.slots] at X43 l43 y43 z43 st43 hQ43 hSi43 hgz43 hC43
 subst l43 y43 z43
 obtain ⟨X43, hS, hZ, hown⟩ := rebS hS (show _ ≤ TJ.heap.size by rw [eJ]; exact hk) X43 hSi43 hgz43 hZ hown
 obtain ⟨h43, e43⟩ : ∃ z, T43.heap = z := ⟨_, rfl⟩
 rw [e43] at hQ43
 obtain ⟨za43, zb43, k_z_25_l1_43, rfl, N43q, K43, Q43_0, Q43_1, Q43_2, Q43_3⟩ := hQ43
 refine Go.tr st43 ?_
 replace E_a1 := E_a1.keep K43
 replace F_a1_v := F_a1_v.keep K43 nin0
 replace F_a1_c := F_a1_c.keep K43 nin0
 replace V_b := V_b.keep K43 nin0
 replace SC := sta_keep SC K43 all0
 replace SI := sta_keep SI K43 all0
 replace S_EMPTY := sta_keep S_EMPTY K43 all0
 replace E_w_EMPTY := E_w_EMPTY.keep K43
 rw [e43] at hC43 hS
 have hk := Nat.le_refl h43.size
 replace hCr := hCr.trans hC43
 replace Z0 := Nat.le_trans Z0 K43.1
 replace K0 := K0.trans K43 all0
 have E_z_25_l0_43 := Q43_0
 have F_z_25_l0_43_v := Q43_1
 have F_z_25_l0_43_c := Q43_2
 have V_z_25_l1_43 := Q43_3
 have N43 := Fr.app NJ N43q
 refine G (fun t k => XS.astore X43.here hx rfl (D d6_185) rfl rfl (l' := #[vr a1, vi p2, vi st, vi pa, vi pa, vi ((w_n - st) - (1 : Int32)), vi fi, vi la, vr za43]) rfl k) ?_
 obtain ⟨T44, h44, X44, e44, E44, A44, D44, -, st44⟩ := newO X43 hx hZ hown (wd115 hw) (wd116 hw) (wd31 hw) e43 (g := (mkF m 187 #[vr a1, vi p2, vi st, vi pa, vi pa, vi ((w_n - st) - (1 : Int32)), vi fi, vi la, vr za43] [])) rfl (D d6_187) (by decide) (by decide)
 obtain ⟨b44, g44⟩ : ∃ z, z = h43.size := ⟨_, rfl⟩
 rw [← g44] at A44 D44 st44
 refine G st44 ?_
 have ne_a1_b44 : a1 ≠ b44 := Nat.ne_of_lt (Nat.lt_of_lt_of_le E_a1.lt (Nat.le_of_eq g44.symm))
 have ne_w_b_b44 : w_b ≠ b44 := Nat.ne_of_lt (Nat.lt_of_lt_of_le V_b.lt (Nat.le_of_eq g44.symm))
 have ne_w_EMPTY_b44 : w_EMPTY ≠ b44 := Nat.ne_of_lt (Nat.lt_of_lt_of_le E_w_EMPTY.lt (Nat.le_of_eq g44.symm))
 have ne_z_25_l0_43_b44 : za43 ≠ b44 := Nat.ne_of_lt (Nat.lt_of_lt_of_le E_z_25_l0_43.lt (Nat.le_of_eq g44.symm))
 have ne_z_25_l1_43_b44 : zb43 ≠ b44 := Nat.ne_of_lt (Nat.lt_of_lt_of_le V_z_25_l1_43.lt (Nat.le_of_eq g44.symm))
 have g_b44 : n0 ≤ b44 := Nat.le_trans Z0 (Nat.le_of_eq g44.symm)
 have sz_b44 : h0.size ≤ b44 := Nat.le_trans K0.1 (Nat.le_of_eq g44.symm)
 have Sf_b44 : Safe Z consts_1 T43.vm h43 b44 := Safe.new (Nat.le_of_eq g44.symm)
 replace E_a1 := E_a1.ext E44
 replace F_a1_v := F_a1_v.ext E44
 replace F_a1_c := F_a1_c.ext E44
 replace V_b := V_b.ext E44
 replace SC := SC.ext E44
 replace SI := SI.ext E44
 replace S_EMPTY := S_EMPTY.ext E44
 replace E_w_EMPTY := E_w_EMPTY.ext E44
 replace E_z_25_l0_43 := E_z_25_l0_43.ext E44
 replace F_z_25_l0_43_v := F_z_25_l0_43_v.ext E44
 replace F_z_25_l0_43_c := F_z_25_l0_43_c.ext E44
 replace V_z_25_l1_43 := V_z_25_l1_43.ext E44
 replace K0 := K0.ext E44
 replace Z0 := Nat.le_trans Z0 E44.1
 replace Sf_b44 := Safe.ext E44 hCr.1 Sf_b44
 replace hk := Nat.le_trans hk E44.1
 replace hCr := hCr.trans (CHr.ext E44 hCr.1)
 have E_b44 := A44
 have F_b44_negative : Fld Z h44 b44 NU "negative" "Z" (.int (0 : Int32)) := D44 (Or.inr (wd138 hw)) (ty := .boolean) (by decide)
 have F_b44_integer : Fld Z h44 b44 NU "integer" LS .null := D44 (Or.inr (wd140 hw)) (ty := (.object SN)) (by decide)
 have F_b44_fraction : Fld Z h44 b44 NU "fraction" LS .null := D44 (Or.inr (wd142 hw)) (ty := (.object SN)) (by decide)
 refine G (fun t k => XS.dup X44.here hx rfl (D d6_190) rfl rfl (XS.aloadN X44.here hx rfl (D d6_191) rfl rfl k)) ?_
 obtain ⟨c45, T45, h45, kk45, d45, kb45, X45, e45, E45, hS45, hk45, hZ45, ho45, ES45, FC45, FV45, VA45, -, -, hC45, LL45, hn45, st45⟩ := ldcCH X44 hx hZ hown (wd55 hw) (own_str hw) e44 hS hk (own_EL hw) (by simp [consts_1]) hCr.1 (vs := [(.int (45 : Int32))]) (z := 1) ⟨by decide, by decide⟩ (by decide) (by decide) (g := (mkF m 192 #[vr a1, vi p2, vi st, vi pa, vi pa, vi ((w_n - st) - (1 : Int32)), vi fi, vi la, vr za43] [(.ref a1), (.ref b44), (.ref b44)])) rfl (D d6_192) (n := 4) (by decide) (by decide) (by decide) (by decide)
 refine G st45 ?_
 replace Sf_b44 := CHr.safe hC45 E_b44.lt Sf_b44
 have ne_b44_c45 := (hn45 b44 Sf_b44).1
 have ne_b44_d45 := (hn45 b44 Sf_b44).2
 replace E_a1 := E_a1.ext E45
 replace F_a1_v := F_a1_v.ext E45
 replace F_a1_c := F_a1_c.ext E45
 replace V_b := V_b.ext E45
 replace SC := SC.ext E45
 replace SI := SI.ext E45
 replace S_EMPTY := S_EMPTY.ext E45
 replace E_w_EMPTY := E_w_EMPTY.ext E45
 replace E_z_25_l0_43 := E_z_25_l0_43.ext E45
 replace F_z_25_l0_43_v := F_z_25_l0_43_v.ext E45
 replace F_z_25_l0_43_c := F_z_25_l0_43_c.ext E45
 replace V_z_25_l1_43 := V_z_25_l1_43.ext E45
 replace E_b44 := E_b44.ext E45
 replace F_b44_negative := F_b44_negative.ext E45
 replace F_b44_integer := F_b44_integer.ext E45
 replace F_b44_fraction := F_b44_fraction.ext E45
 replace K0 := K0.ext E45
 replace Z0 := Nat.le_trans Z0 E45.1
 replace hCr := hCr.trans hC45
 replace hZ := hZ45
 replace hown := ho45
 replace hS := hS45
 replace hk := hk45
 obtain ⟨_, T46, Lc46, X46, hQ46, st46⟩ := cV X45 hx hZ hown hml (wd34 hw) (wd35 hw) (wd37 hw) (wd36 hw) (wd38 hw) (wd10 hw) E_a1 e45 2 [(.ref b44), (.ref b44)] (rm7 l Z a0 hw [] a1 c45 w_b k_b bs w_n wC d45 kb45 (45 : Int32) h45 n0 Z0 E_a1 F_a1_v F_a1_c V_b SC ES45 FV45 FC45 VA45 hcs hn0) pd27 (mkF m 194 #[vr a1, vi p2, vi st, vi pa, vi pa, vi ((w_n - st) - (1 : Int32)), vi fi, vi la, vr za43] [(.ref c45), (.ref a1), (.ref b44), (.ref b44)]) (D d6_194)
 refine Go.tr st46 ?_
 obtain ⟨rfl, N46q, e46⟩ := hQ46
 have N46 := Fr.app N43 N46q
 refine sG T46 (mkF m 197 #[vr a1, vi p2, vi st, vi pa, vi pa, vi ((w_n - st) - (1 : Int32)), vi fi, vi la, vr za43] [(.int ((f8 bs w_n (45 : Int32)) &&& 1)), (.ref b44), (.ref b44)]) ?_
 refine G (fun t k => XS.aloadN X46.here hx rfl (D d6_197) rfl rfl (XS.iload X46.here hx rfl (D d6_198) rfl (XS.iload X46.here hx rfl (D d6_200) rfl k))) ?_
 obtain ⟨cq47, kq47, q47a, q47b, q47c⟩ := isOf hZ e46 E_a1
 obtain ⟨_, _, ⟨T47, L47, k47, n47⟩, -, X47, hSi47, hgz47, ⟨Lc47, hQ47, l47, y47, z47, hC47⟩, st47⟩ := X46.virtualBackS hx (y := y_42) (z := y_42) hown (mvT hZ (wd117 hw)) (mvT hZ (wd118 hw)) (nf hZ (wd120 hw)) (mvT hZ (wd120 hw)) (mvT hZ (wd119 hw)) (by decide) (backOfSH (W := 3) (rm25 l Z a0 hw [] a1 fi pa w_b k_b bs w_n wC w_S h45 n0 Z0 E_a1 F_a1_v F_a1_c V_b SC SI hcs hrS ⟨Int.le_trans hsl.1 hfi.1, hfi.2.1⟩ htn hn4 hbl) hZ (wd121 hw) (wd10 hw) (by decide) (by decide) (own_EL hw) hCr.1) q47a q47c (g := (mkF m 202 #[vr a1, vi p2, vi st, vi pa, vi pa, vi ((w_n - st) - (1 : Int32)), vi fi, vi la, vr za43] [(.int pa), (.int fi), (.ref a1), (.int ((f8 bs w_n (45 : Int32)) &&& 1)), (.ref b44), (.ref b44)])) rfl (by rw [hml]; rfl) (Steps.refl _) (argsL := [(.int fi), (.int pa)]) (rest := [(.int ((f8 bs w_n (45 : Int32)) &&& 1)), (.ref b44), (.ref b44)]) (lenOf pd28 rfl) rfl (by show 2 * 0 + _ ≤ _; exact Nat.le_of_eq rfl) (D d6_202) (fun _ _ => ⟨rfl, e46, (by decide : 9 + 2 ≤ _), (by decide : 35 + 8 ≤ _)⟩)
 dsimp only [Pt.U, Pt.locs, Pt.cells, Pt.slots] at X47 l47 y47 z47 st47 hQ47 hSi47 hgz47 hC47
 subst l47 y47 z47
 obtain ⟨X47, hS, hZ, hown⟩ := rebS hS (show _ ≤ T46.heap.size by rw [e46]; exact hk) X47 hSi47 hgz47 hZ hown
 obtain ⟨h47, e47⟩ : ∃ z, T47.heap = z := ⟨_, rfl⟩
 rw [e47] at hQ47
 obtain ⟨za47, zb47, k_z_25_l1_47, rfl, N47q, K47, Q47_0, Q47_1, Q47_2, Q47_3⟩ := hQ47
 refine Go.tr st47 ?_
 have lt_b44 := E_b44.lt
 replace E_a1 := E_a1.keep K47
 replace F_a1_v := F_a1_v.keep K47 nin0
 replace F_a1_c := F_a1_c.keep K47 nin0
 replace V_b := V_b.keep K47 nin0
 replace SC := sta_keep SC K47 all0
 replace SI := sta_keep SI K47 all0
 replace S_EMPTY := sta_keep S_EMPTY K47 all0
 replace E_z_25_l0_43 := E_z_25_l0_43.keep K47
 replace F_z_25_l0_43_v := F_z_25_l0_43_v.keep K47 nin0
 replace F_z_25_l0_43_c := F_z_25_l0_43_c.keep K47 nin0
 replace V_z_25_l1_43 := V_z_25_l1_43.keep K47 nin0
 replace E_b44 := E_b44.keep K47
 replace F_b44_negative := F_b44_negative.keep K47 nin0
 replace F_b44_integer := F_b44_integer.keep K47 nin0
 replace F_b44_fraction := F_b44_fraction.keep K47 nin0
 rw [e47] at hC47 hS
 have hk := Nat.le_refl h47.size
 replace Sf_b44 := CHr.safe hC47 lt_b44 Sf_b44
 replace hCr := hCr.trans hC47
 replace Z0 := Nat.le_trans Z0 K47.1
 replace K0 := K0.trans K47 all0
 have E_z_25_l0_47 := Q47_0
 have F_z_25_l0_47_v := Q47_1
 have F_z_25_l0_47_c := Q47_2
 have V_z_25_l1_47 := Q47_3
 have ne_b44_z_25_l0_47 : b44 ≠ za47 := ne_exa E_b44 E_z_25_l0_47 (by decide)
 have ne_b44_z_25_l1_47 : b44 ≠ zb47 := V_z_25_l1_47.elim fun _ q => ne_arr E_b44 (wd116 hw) q.1
 have N47 := Fr.app N46 N47q
 refine G (fun t k => XS.aload X47.here hx rfl (D d6_205) rfl rfl k) ?_
 obtain ⟨_, _, ⟨T48, L48, k48, n48⟩, -, X48, ⟨Lc48, hQ48, l48, y48, z48⟩, st48⟩ := X47.specialBack hx (y := y_23) rfl hown (mvT hZ (wd128 hw)) (mvT hZ (wd129 hw)) (mvT hZ (wd130 hw)) (by decide) (backOf (W := 1) (rm28 l Z a0 hw [] b44 ((f8 bs w_n (45 : Int32)) &&& 1) za47 za43 ((.int (0 : Int32)) : Value) (.null : Value) (.null : Value) h47 n0 Z0 E_b44 F_b44_negative F_b44_integer F_b44_fraction g_b44) hZ (wd130 hw) (wd31 hw) (by decide) (by decide)) (g := (mkF m 207 #[vr a1, vi p2, vi st, vi pa, vi pa, vi ((w_n - st) - (1 : Int32)), vi fi, vi la, vr za43] [(.ref za43), (.ref za47), (.int ((f8 bs w_n (45 : Int32)) &&& 1)), (.ref b44), (.ref b44)])) rfl (by rw [hml]; rfl) (Steps.refl _) (a := b44) (argsL := [(.int ((f8 bs w_n (45 : Int32)) &&& 1)), (.ref za47), (.ref za43)]) (rest := [(.ref b44)]) (lenOf pd29 rfl) rfl (by show 2 * 0 + _ ≤ _; exact Nat.le_of_eq rfl) (D d6_207) (fun _ _ => ⟨rfl, e47, (by decide : 11 + 0 ≤ _), (by decide : 43 + 0 ≤ _)⟩)
 dsimp only [Pt.U, Pt.locs, Pt.cells, Pt.slots] at X48 l48 y48 z48 st48 hQ48
 subst l48 y48 z48
 refine Go.tr st48 ?_
 have E_b44_pre := E_b44
 have F_b44_negative_pre := F_b44_negative
 have F_b44_integer_pre := F_b44_integer
 have F_b44_fraction_pre := F_b44_fraction
 obtain ⟨h48, e48⟩ : ∃ z, T48.heap = z := ⟨_, rfl⟩
 rw [e48] at hQ48
 obtain ⟨rfl, N48q, K48, Q48_0, Q48_1, Q48_2, Q48_3⟩ := hQ48
 replace E_a1 := E_a1.keep K48
 replace F_a1_v := F_a1_v.keep K48 (ninS ne_a1_b44 nin0)
 replace F_a1_c := F_a1_c.keep K48 (ninS ne_a1_b44 nin0)
 replace V_b := V_b.keep K48 (ninS ne_w_b_b44 nin0)
 replace SC := sta_keep SC K48 (allS (exa_ns E_b44_pre) all0)
 replace SI := sta_keep SI K48 (allS (exa_ns E_b44_pre) all0)
 replace S_EMPTY := sta_keep S_EMPTY K48 (allS (exa_ns E_b44_pre) all0)
 replace E_z_25_l0_43 := E_z_25_l0_43.keep K48
 replace F_z_25_l0_43_v := F_z_25_l0_43_v.keep K48 (ninS ne_z_25_l0_43_b44 nin0)
 replace F_z_25_l0_43_c := F_z_25_l0_43_c.keep K48 (ninS ne_z_25_l0_43_b44 nin0)
 replace V_z_25_l1_43 := V_z_25_l1_43.keep K48 (ninS ne_z_25_l1_43_b44 nin0)
 replace E_b44 := E_b44.keep K48
 replace E_z_25_l0_47 := E_z_25_l0_47.keep K48
 replace F_z_25_l0_47_v := F_z_25_l0_47_v.keep K48 (ninS (Ne.symm ne_b44_z_25_l0_47) nin0)
 replace F_z_25_l0_47_c := F_z_25_l0_47_c.keep K48 (ninS (Ne.symm ne_b44_z_25_l0_47) nin0)
 replace V_z_25_l1_47 := V_z_25_l1_47.keep K48 (ninS (Ne.symm ne_b44_z_25_l1_47) nin0)
 have hCo := hCr.1
 have Sf_b44_o := Sf_b44
 replace Sf_b44 := Safe.keep K48 (allS Sf_b44_o all0) hCo Sf_b44
 replace hk := Nat.le_trans hk K48.1
 replace hCr := hCr.trans (CHr.keep K48 (allS Sf_b44_o all0) hCo)
 clear hCo Sf_b44_o
 replace Z0 := Nat.le_trans Z0 K48.1
 replace K0 := K0.trans K48 (allS (Or.inr sz_b44) all0)
 clear E_b44_pre F_b44_negative_pre F_b44_integer_pre F_b44_fraction_pre
 have E_b44 := Q48_0
 have F_b44_negative := Q48_1
 have F_b44_integer := Q48_2
 have F_b44_fraction := Q48_3
 have N48 := Fr.app N47 N48q
 obtain ⟨LL48, X48, N48⟩ : ∃ LL, Stand p l e (Rm 5 12 44 83) (s.setVm T47.vm) m #[(.ref a1), (.int p2)] below meth c T48 LL 11 43 ∧ Fr n0 LL := ⟨_, X48, N48⟩
 obtain ⟨_, T49, Lc49, X49, hQ49, st49⟩ := cS X48 hx hZ hown hml (wd143 hw) (wd144 hw) (wd59 hw) (wd145 hw) e48 0 [] (rm30 l Z a0 hw [] b44 h48 n0 Z0) pd30 (mkF m 210 #[vr a1, vi p2, vi st, vi pa, vi pa, vi ((w_n - st) - (1 : Int32)), vi fi, vi la, vr za43] [(.ref b44)]) (D d6_210)
 obtain ⟨h49, e49⟩ : ∃ z, T49.heap = z := ⟨_, rfl⟩
 rw [e49] at hQ49
 obtain ⟨y49, rfl, N49q, K49, ng_y49, sz0_y49, Q49_0, Q49_1⟩ := hQ49
 refine G st49 ?_
 have ne_a1_y49 : a1 ≠ y49 := Nat.ne_of_lt (Nat.lt_of_lt_of_le E_a1.lt sz0_y49)
 have ne_w_b_y49 : w_b ≠ y49 := Nat.ne_of_lt (Nat.lt_of_lt_of_le V_b.lt sz0_y49)
 have ne_z_25_l0_43_y49 : za43 ≠ y49 := Nat.ne_of_lt (Nat.lt_of_lt_of_le E_z_25_l0_43.lt sz0_y49)
 have ne_z_25_l1_43_y49 : zb43 ≠ y49 := Nat.ne_of_lt (Nat.lt_of_lt_of_le V_z_25_l1_43.lt sz0_y49)
 have ne_b44_y49 : b44 ≠ y49 := Nat.ne_of_lt (Nat.lt_of_lt_of_le E_b44.lt sz0_y49)
 have ne_z_25_l0_47_y49 : za47 ≠ y49 := Nat.ne_of_lt (Nat.lt_of_lt_of_le E_z_25_l0_47.lt sz0_y49)
 have ne_z_25_l1_47_y49 : zb47 ≠ y49 := Nat.ne_of_lt (Nat.lt_of_lt_of_le V_z_25_l1_47.lt sz0_y49)
 have g_y49 : n0 ≤ y49 := ng_y49
 have sz_y49 : h0.size ≤ y49 := Nat.le_trans K0.1 sz0_y49
 replace E_a1 := E_a1.keep K49
 replace F_a1_v := F_a1_v.keep K49 nin0
 replace F_a1_c := F_a1_c.keep K49 nin0
 replace V_b := V_b.keep K49 nin0
 replace SC := sta_keep SC K49 all0
 replace SI := sta_keep SI K49 all0
 replace S_EMPTY := sta_keep S_EMPTY K49 all0
 replace E_z_25_l0_43 := E_z_25_l0_43.keep K49
 replace F_z_25_l0_43_v := F_z_25_l0_43_v.keep K49 nin0
 replace F_z_25_l0_43_c := F_z_25_l0_43_c.keep K49 nin0
 replace V_z_25_l1_43 := V_z_25_l1_43.keep K49 nin0
 replace E_b44 := E_b44.keep K49
 replace E_z_25_l0_47 := E_z_25_l0_47.keep K49
 replace F_z_25_l0_47_v := F_z_25_l0_47_v.keep K49 nin0
 replace F_z_25_l0_47_c := F_z_25_l0_47_c.keep K49 nin0
 replace V_z_25_l1_47 := V_z_25_l1_47.keep K49 nin0
 replace F_b44_negative := F_b44_negative.keep K49 nin0
 replace F_b44_integer := F_b44_integer.keep K49 nin0
 replace F_b44_fraction := F_b44_fraction.keep K49 nin0
 have hCo := hCr.1
 replace Sf_b44 := Safe.keep K49 all0 hCo Sf_b44
 replace hk := Nat.le_trans hk K49.1
 replace hCr := hCr.trans (CHr.keep K49 all0 hCo)
 clear hCo
 replace Z0 := Nat.le_trans Z0 K49.1
 replace K0 := K0.trans K49 all0
 have E_y49 := Q49_0
 have F_y49_v := Q49_1
 have N49 := Fr.app N48 N49q
 refine sG T49 (mkF m 213 #[vr a1, vi p2, vi st, vi pa, vi pa, vi ((w_n - st) - (1 : Int32)), vi fi, vi la, vr za43] [(.ref y49)]) ?_
 exact lwR (Q := Q6 Z a1 p2 w_b k_b bs w_n wC w_S w_EMPTY h0 n0) Bd X49 e49 hS hk hh hCr hZ (own_EL hw) (D d6_213) rfl rfl rfl ⟨y49, rfl, N49, K0, E_y49, (Or.inr ⟨b44, za47, za43, zb47, zb43, k_z_25_l1_47, k_z_25_l1_43, st, pa, pa, fi, (pa + (1 : Int32)), la, F_y49_v, E_b44, F_b44_negative, F_b44_integer, F_b44_fraction, E_z_25_l0_47, F_z_25_l0_47_v, F_z_25_l0_47_c, V_z_25_l1_47, E_z_25_l0_43, F_z_25_l0_43_v, F_z_25_l0_43_c, V_z_25_l1_43, hst, hpa, hfi, Or.inr ⟨hc3, rfl, rfl, hA1, hA2, hdz, hla⟩⟩)⟩ (by decide) (by decide)
theorem TJ6_40 (l : Launch) (Z : State) (a0 : Array Value) (hw : HW a0 Z) (ws : List Jvm.Cond) (a1 : Addr) (p2 : Int32) (w_b : Addr) (k_b : ClassId) (bs : List Int32) (w_n : Int32) (wC : Int32) (w_S : Value) (w_EMPTY : Addr) (h0 : Heap) (n0 : Nat) {p : Program} {e : Env} {s : State} {m : MethodId} {below : List Frame} {meth : Method} {c : Code} {s₁ : State} (Bd : BodyLoose p l y_47 (head1 (Cond.code y_47 cB6 9 (some (.object OP)) :: ws) (Rm 5 12 44 83)) cB6 9 (some (.object OP)) e s m #[(.ref a1), (.int p2)] below meth c s₁) (hml0 : c.maxLocals = 9) {VM : Vm} {kS : Nat} (hZ : Z.Warmed39 (s.setVm VM).vm) (hown : (s.setVm VM).vm.findClass NU = some m.cls) (hh : s.heap = h0) {TJ : State} {locsJ : List Loc} {hJ : Heap} {st : Int32} {pa : Int32} {fi : Int32} (XJ : Stand p l e (Rm 5 12 44 83) (s.setVm VM) m #[(.ref a1), (.int p2)] below meth c TJ locsJ 4 16) (eJ : TJ.heap = hJ) (NJ : Fr n0 locsJ) (K0 : Keep h0 hJ []) (Z0 : n0 ≤ hJ.size) (hS : s.Since VM kS) (hk : kS ≤ hJ.size) (hCr : CHr Z consts_1 s.vm h0 VM hJ) (E_a1 : Exa Z hJ a1 SN) (F_a1_v : Fld Z hJ a1 SN "value" "[B" (.ref w_b)) (F_a1_c : Fld Z hJ a1 SN "coder" "B" (.int (0 : Int32))) (V_b : Arv Z hJ w_b k_b .byte w_n (List.map Value.int bs) (.int (0 : Int32))) (SC : Sta Z hJ SN "COMPACT_STRINGS" "Z" (.int wC)) (SI : Sta Z hJ PC "SIOOBE_FORMATTER" BF w_S) (S_EMPTY : Sta Z hJ OP "EMPTY" "Ljava/util/Optional;" (.ref w_EMPTY)) (E_w_EMPTY : Exa Z hJ w_EMPTY OP) (hc3 : ¬ (pa < (0 : Int32))) (hst : Stt bs w_n st) (hpa : Pat bs w_n p2 st pa) (hA1 : AllD bs st.toInt pa.toInt) (hdz : ¬ w_n.toInt - st.toInt - 1 = 0) (hA2 : AllD bs (pa.toInt + 1) w_n.toInt) (hcs : ¬ wC = (0 : Int32)) (hrS : w_S.isRef = true) (hn0 : 0 ≤ w_n.toInt) (hn4 : w_n.toInt ≤ 4) (hbl : bs.length = w_n.toNatClampNeg) (hfi : Fst bs st.toInt pa.toInt fi) :
  Go p.tables e below (TJ.setTop (mkF m 133 #[vr a1, vi p2, vi st, vi pa, vi pa, vi ((w_n - st) - (1 : Int32)), vi fi, us, us] [])) (fun o U' => ∃ v L, o = .returned v ∧ Q6 Z a1 p2 w_b k_b bs w_n wC w_S w_EMPTY h0 n0 v U'.heap L ∧ CHr Z consts_1 s.vm s.heap U'.vm U'.heap ∧ ReturnedEndW s o U' L (Rm 5 12 44 83).cells (Rm 5 12 44 83).slots) := by
 have hx := Bd.exec
 have D := @hb _ _ Bd.bytes
 have hml : c.maxLocals = 9 := hml0
 have hnm := (name_of_methodNamed Bd.named Bd.method).1
 have hsl := own_stle hst hn0
 have hpl := own_pale hst hn0 hpa hc3
 have hft : 0 ≤ st.toInt ∧ st.toInt ≤ pa.toInt := hpl.1
 have htn : pa.toInt ≤ w_n.toInt := Int.le_of_lt hpl.2
 have hp0 : 0 ≤ pa.toInt := Int.le_trans hft.1 hft.2
 have hp1 := own_p1 hp0 hpl.2
 refine G (fun t k => XS.aloadN XJ.here hx rfl (D d6_133) rfl rfl k) ?_
 obtain ⟨_, T41, Lc41, X41, hQ41, st41⟩ := cV XJ hx hZ hown hml (wd56 hw) (wd45 hw) (wd47 hw) (wd46 hw) (wd48 hw) (wd10 hw) E_a1 eJ 0 [] (rm9 l Z a0 hw [] a1 w_b k_b bs w_n wC hJ n0 Z0 E_a1 F_a1_v F_a1_c V_b SC hcs) pd13 (mkF m 134 #[vr a1, vi p2, vi st, vi pa, vi pa, vi ((w_n - st) - (1 : Int32)), vi fi, us, us] [(.ref a1)]) (D d6_134)
 refine Go.tr st41 ?_
 obtain ⟨rfl, N41q, e41⟩ := hQ41
 have N41 := Fr.app NJ N41q
 refine G (fun t k => XS.istore X41.here hx rfl (D d6_137) rfl (l' := #[vr a1, vi p2, vi st, vi pa, vi pa, vi ((w_n - st) - (1 : Int32)), vi fi, vi w_n, us]) rfl k) ?_
 refine sG T41 (mkF m 139 #[vr a1, vi p2, vi st, vi pa, vi pa, vi ((w_n - st) - (1 : Int32)), vi fi, vi w_n, us] []) ?_
 have J50 : ∀ (dd : Nat) (TJ : State) (locsJ : List Loc) (i : Int32), Stand p l e (Rm 5 12 44 83) (s.setVm VM) m #[(.ref a1), (.int p2)] below meth c TJ locsJ 4 16 → TJ.heap = hJ → Fr n0 locsJ → (i.toInt = pa.toInt + 1 + (dd : Int) ∧ i.toInt ≤ w_n.toInt) → (Zer bs i.toInt w_n.toInt) → Go p.tables e below (TJ.setTop (mkF m 139 #[vr a1, vi p2, vi st, vi pa, vi pa, vi ((w_n - st) - (1 : Int32)), vi fi, vi i, us] [])) (fun o U' => ∃ v L, o = .returned v ∧ Q6 Z a1 p2 w_b k_b bs w_n wC w_S w_EMPTY h0 n0 v U'.heap L ∧ CHr Z consts_1 s.vm s.heap U'.vm U'.heap ∧ ReturnedEndW s o U' L (Rm 5 12 44 83).cells (Rm 5 12 44 83).slots) := by
  intro dd
  induction dd with
  | zero =>
   intro TJ locsJ i XJ eJ NJ hj hz
   refine G (fun t k => XS.iload XJ.here hx rfl (D d6_139) rfl (XS.iload XJ.here hx rfl (D d6_141) rfl (XS.iconst XJ.here hx rfl (D d6_143) (XS.iadd XJ.here hx rfl (D d6_144) rfl k)))) ?_
   have hf51 : ¬ ((pa + (1 : Int32)) < i) := (own_jge hp1 hj)
   refine G (fun t k => XS.icmpYes XJ.here hx rfl (pc0 := 145) (pc' := 167) rfl (D d6_145) rfl (flt hf51).2.2.2 (by decide) (by decide) k) ?_
   refine sG TJ (mkF m 167 #[vr a1, vi p2, vi st, vi pa, vi pa, vi ((w_n - st) - (1 : Int32)), vi fi, vi i, us] []) ?_
   exact TJ6_42 l Z a0 hw ws a1 p2 w_b k_b bs w_n wC w_S w_EMPTY h0 n0 Bd hml0 hZ hown hh XJ eJ NJ K0 Z0 hS hk hCr E_a1 F_a1_v F_a1_c V_b SC SI S_EMPTY E_w_EMPTY hc3 hst hpa hA1 hdz hA2 hfi hcs hrS hn0 hn4 hbl (Lst.end hj hz)
  | succ dd ih =>
   intro TJ locsJ i XJ eJ NJ hj hz
   refine G (fun t k => XS.iload XJ.here hx rfl (D d6_139) rfl (XS.iload XJ.here hx rfl (D d6_141) rfl (XS.iconst XJ.here hx rfl (D d6_143) (XS.iadd XJ.here hx rfl (D d6_144) rfl k)))) ?_
   have hf52 : (pa + (1 : Int32)) < i := (own_jlt hp1 hj)
   refine G (fun t k => XS.icmpNo XJ.here hx rfl (D d6_145) rfl (tlt hf52).2.2.2 (XS.aloadN XJ.here hx rfl (D d6_148) rfl rfl (XS.iload XJ.here hx rfl (D d6_149) rfl k))) ?_
   refine sG TJ (mkF m 151 #[vr a1, vi p2, vi st, vi pa, vi pa, vi ((w_n - st) - (1 : Int32)), vi fi, vi i, us] [(.int i), (.ref a1)]) ?_
   refine G (fun t k => XS.iconst XJ.here hx rfl (D d6_151) (XS.isub XJ.here hx rfl (D d6_152) rfl k)) ?_
   obtain ⟨_, T53, Lc53, X53, hQ53, st53⟩ := cV XJ hx hZ hown hml (wd92 hw) (wd93 hw) (wd95 hw) (wd94 hw) (wd96 hw) (wd10 hw) E_a1 eJ 0 [] (rm20 l Z a0 hw [] a1 (i - (1 : Int32)) w_b k_b bs w_n wC w_S hJ n0 Z0 E_a1 F_a1_v F_a1_c V_b SC SI hcs hrS (own_jib hp0 hj)) pd9 (mkF m 153 #[vr a1, vi p2, vi st, vi pa, vi pa, vi ((w_n - st) - (1 : Int32)), vi fi, vi i, us] [(.int (i - (1 : Int32))), (.ref a1)]) (D d6_153)
   refine Go.tr st53 ?_
   obtain ⟨rfl, N53q, e53⟩ := hQ53
   have N53 := Fr.app NJ N53q
   refine G (fun t k => XS.bipush X53.here hx rfl (D d6_156) k) ?_
   by_cases hc54 : (chr (own_at bs (i - (1 : Int32)))) = (48 : Int32)
   ·refine G (fun t k => XS.icmpNo X53.here hx rfl (D d6_158) rfl (teq hc54).2 (XS.iinc X53.here hx rfl (D d6_161) rfl (l' := #[vr a1, vi p2, vi st, vi pa, vi pa, vi ((w_n - st) - (1 : Int32)), vi fi, vi (i + (Int32.ofInt (-1))), us]) rfl (XS.goto X53.here hx rfl (pc0 := 164) (pc' := 139) rfl (D d6_164) (by decide) (by decide) k))) ?_
    refine sG T53 (mkF m 139 #[vr a1, vi p2, vi st, vi pa, vi pa, vi ((w_n - st) - (1 : Int32)), vi fi, vi (i + (Int32.ofInt (-1))), us] []) ?_
    exact ih _ _ (i + (Int32.ofInt (-1))) X53 e53 N53 (own_jnx hp0 hj) (Zer.back hz (own_im1 (own_jpos hp0 hj)) (own_ip1 (own_jpos hp0 hj)) hc54)
   ·refine G (fun t k => XS.icmpYes X53.here hx rfl (pc0 := 158) (pc' := 167) rfl (D d6_158) rfl (feq hc54).2 (by decide) (by decide) k) ?_
    refine sG T53 (mkF m 167 #[vr a1, vi p2, vi st, vi pa, vi pa, vi ((w_n - st) - (1 : Int32)), vi fi, vi i, us] []) ?_
    exact TJ6_42 l Z a0 hw ws a1 p2 w_b k_b bs w_n wC w_S w_EMPTY h0 n0 Bd hml0 hZ hown hh X53 e53 N53 K0 Z0 hS hk hCr E_a1 F_a1_v F_a1_c V_b SC SI S_EMPTY E_w_EMPTY hc3 hst hpa hA1 hdz hA2 hfi hcs hrS hn0 hn4 hbl (Lst.stop hj hz hc54)
 exact J50 (w_n.toInt - (pa.toInt + 1)).toNat _ _ w_n X41 e41 N41 ⟨by have := hpl.2; omega, Int.le_refl _⟩ (Zer.nil (Int.le_refl _))
theorem TJ6_29 (l : Launch) (Z : State) (a0 : Array Value) (hw : HW a0 Z) (ws : List Jvm.Cond) (a1 : Addr) (p2 : Int32) (w_b : Addr) (k_b : ClassId) (bs : List Int32) (w_n : Int32) (wC : Int32) (w_S : Value) (w_EMPTY : Addr) (h0 : Heap) (n0 : Nat) {p : Program} {e : Env} {s : State} {m : MethodId} {below : List Frame} {meth : Method} {c : Code} {s₁ : State} (Bd : BodyLoose p l y_47 (head1 (Cond.code y_47 cB6 9 (some (.object OP)) :: ws) (Rm 5 12 44 83)) cB6 9 (some (.object OP)) e s m #[(.ref a1), (.int p2)] below meth c s₁) (hml0 : c.maxLocals = 9) {VM : Vm} {kS : Nat} (hZ : Z.Warmed39 (s.setVm VM).vm) (hown : (s.setVm VM).vm.findClass NU = some m.cls) (hh : s.heap = h0) {TJ : State} {locsJ : List Loc} {hJ : Heap} {st : Int32} {pa : Int32} (XJ : Stand p l e (Rm 5 12 44 83) (s.setVm VM) m #[(.ref a1), (.int p2)] below meth c TJ locsJ 4 16) (eJ : TJ.heap = hJ) (NJ : Fr n0 locsJ) (K0 : Keep h0 hJ []) (Z0 : n0 ≤ hJ.size) (hS : s.Since VM kS) (hk : kS ≤ hJ.size) (hCr : CHr Z consts_1 s.vm h0 VM hJ) (E_a1 : Exa Z hJ a1 SN) (F_a1_v : Fld Z hJ a1 SN "value" "[B" (.ref w_b)) (F_a1_c : Fld Z hJ a1 SN "coder" "B" (.int (0 : Int32))) (V_b : Arv Z hJ w_b k_b .byte w_n (List.map Value.int bs) (.int (0 : Int32))) (SC : Sta Z hJ SN "COMPACT_STRINGS" "Z" (.int wC)) (SI : Sta Z hJ PC "SIOOBE_FORMATTER" BF w_S) (S_EMPTY : Sta Z hJ OP "EMPTY" "Ljava/util/Optional;" (.ref w_EMPTY)) (E_w_EMPTY : Exa Z hJ w_EMPTY OP) (hc3 : ¬ (pa < (0 : Int32))) (hst : Stt bs w_n st) (hpa : Pat bs w_n p2 st pa) (hcs : ¬ wC = (0 : Int32)) (hrS : w_S.isRef = true) (hn0 : 0 ≤ w_n.toInt) (hn4 : w_n.toInt ≤ 4) (hbl : bs.length = w_n.toNatClampNeg) :
  Go p.tables e below (TJ.setTop (mkF m 52 #[vr a1, vi p2, vi st, vi pa, us, us, us, us, us] [(.int pa)])) (fun o U' => ∃ v L, o = .returned v ∧ Q6 Z a1 p2 w_b k_b bs w_n wC w_S w_EMPTY h0 n0 v U'.heap L ∧ CHr Z consts_1 s.vm s.heap U'.vm U'.heap ∧ ReturnedEndW s o U' L (Rm 5 12 44 83).cells (Rm 5 12 44 83).slots) := by
 have hx := Bd.exec
 have D := @hb _ _ Bd.bytes
 have hml : c.maxLocals = 9 := hml0
 have hnm := (name_of_methodNamed Bd.named Bd.method).1
 have hsl := own_stle hst hn0
 have hpl := own_pale hst hn0 hpa hc3
 have hft : 0 ≤ st.toInt ∧ st.toInt ≤ pa.toInt := hpl.1
 have htn : pa.toInt ≤ w_n.toInt := Int.le_of_lt hpl.2
 have hp0 : 0 ≤ pa.toInt := Int.le_trans hft.1 hft.2
 have hp1 := own_p1 hp0 hpl.2
 refine G (fun t k => XS.istore XJ.here hx rfl (D d6_52) rfl (l' := #[vr a1, vi p2, vi st, vi pa, vi pa, us, us, us, us]) rfl (XS.aloadN XJ.here hx rfl (D d6_54) rfl rfl k)) ?_
 obtain ⟨_, T30, Lc30, X30, hQ30, st30⟩ := cV XJ hx hZ hown hml (wd56 hw) (wd45 hw) (wd47 hw) (wd46 hw) (wd48 hw) (wd10 hw) E_a1 eJ 0 [] (rm9 l Z a0 hw [] a1 w_b k_b bs w_n wC hJ n0 Z0 E_a1 F_a1_v F_a1_c V_b SC hcs) pd13 (mkF m 55 #[vr a1, vi p2, vi st, vi pa, vi pa, us, us, us, us] [(.ref a1)]) (D d6_55)
 refine Go.tr st30 ?_
 obtain ⟨rfl, N30q, e30⟩ := hQ30
 have N30 := Fr.app NJ N30q
 refine G (fun t k => XS.iloadN X30.here hx rfl (D d6_58) rfl (XS.isub X30.here hx rfl (D d6_59) rfl (XS.iloadN X30.here hx rfl (D d6_60) rfl (XS.ifYes X30.here hx rfl (pc0 := 61) (pc' := 68) rfl (D d6_61) rfl ((if0 _ _).trans (flt hc3).2.1) (by decide) (by decide) k)))) ?_
 refine sG T30 (mkF m 68 #[vr a1, vi p2, vi st, vi pa, vi pa, us, us, us, us] [(.int (w_n - st))]) ?_
 refine G (fun t k => XS.iconst X30.here hx rfl (D d6_68) (XS.isub X30.here hx rfl (D d6_69) rfl (XS.istore X30.here hx rfl (D d6_70) rfl (l' := #[vr a1, vi p2, vi st, vi pa, vi pa, vi ((w_n - st) - (1 : Int32)), us, us, us]) rfl (XS.iload X30.here hx rfl (D d6_72) rfl k)))) ?_
 by_cases hc31 : ((w_n - st) - (1 : Int32)) = (0 : Int32)
 ·refine G (fun t k => XS.ifYes X30.here hx rfl (pc0 := 74) (pc' := 102) rfl (D d6_74) rfl ((if0 _ _).trans (teq hc31).1) (by decide) (by decide) k) ?_
  obtain ⟨_, T32, Lc32, X32, hQ32, st32⟩ := cS X30 hx hZ hown hml (wd57 hw) (wd58 hw) (wd59 hw) (wd60 hw) e30 0 [] (rm11 l Z a0 hw [] w_EMPTY hJ n0 Z0 S_EMPTY E_w_EMPTY) pd25 (mkF m 102 #[vr a1, vi p2, vi st, vi pa, vi pa, vi ((w_n - st) - (1 : Int32)), us, us, us] []) (D d6_102)
  refine G st32 ?_
  obtain ⟨rfl, N32q, e32⟩ := hQ32
  have N32 := Fr.app N30 N32q
  exact lwR (Q := Q6 Z a1 p2 w_b k_b bs w_n wC w_S w_EMPTY h0 n0) Bd X32 e32 hS hk hh hCr hZ (own_EL hw) (D d6_105) rfl rfl rfl ⟨w_EMPTY, rfl, N32, K0, E_w_EMPTY, (Or.inl ⟨rfl, st, pa, hst, hpa, Or.inr ⟨hc3, Or.inl ((own_d1 hsl).mp hc31)⟩⟩)⟩ (by decide) (by decide)
 ·refine G (fun t k => XS.ifNo X30.here hx rfl (D d6_74) rfl ((if0 _ _).trans (feq hc31).1) (XS.aloadN X30.here hx rfl (D d6_77) rfl rfl (XS.iloadN X30.here hx rfl (D d6_78) rfl k))) ?_
  refine sG T30 (mkF m 79 #[vr a1, vi p2, vi st, vi pa, vi pa, vi ((w_n - st) - (1 : Int32)), us, us, us] [(.int st), (.ref a1)]) ?_
  refine G (fun t k => XS.iload X30.here hx rfl (D d6_79) rfl k) ?_
  obtain ⟨_, T33, Lc33, X33, hQ33, st33⟩ := cS X30 hx hZ hown hml (wd89 hw) (wd90 hw) (wd31 hw) (wd91 hw) e30 0 [] (rm19 l Z a0 hw [] a1 st pa w_b k_b bs w_n wC w_S hJ n0 Z0 E_a1 F_a1_v F_a1_c V_b SC SI hcs hrS hft htn) pd26 (mkF m 81 #[vr a1, vi p2, vi st, vi pa, vi pa, vi ((w_n - st) - (1 : Int32)), us, us, us] [(.int pa), (.int st), (.ref a1)]) (D d6_81)
  obtain ⟨rr33, rfl, N33q, e33, raw33⟩ := hQ33
  refine G st33 ?_
  have N33 := Fr.app N30 N33q
  by_cases hc34 : rr33 = (0 : Int32)
  ·refine G (fun t k => XS.ifYes X33.here hx rfl (pc0 := 84) (pc' := 102) rfl (D d6_84) rfl ((if0 _ _).trans (teq hc34).1) (by decide) (by decide) k) ?_
   obtain ⟨_, T35, Lc35, X35, hQ35, st35⟩ := cS X33 hx hZ hown hml (wd57 hw) (wd58 hw) (wd59 hw) (wd60 hw) e33 0 [] (rm11 l Z a0 hw [] w_EMPTY hJ n0 Z0 S_EMPTY E_w_EMPTY) pd25 (mkF m 102 #[vr a1, vi p2, vi st, vi pa, vi pa, vi ((w_n - st) - (1 : Int32)), us, us, us] []) (D d6_102)
   refine G st35 ?_
   obtain ⟨rfl, N35q, e35⟩ := hQ35
   have N35 := Fr.app N33 N35q
   exact lwR (Q := Q6 Z a1 p2 w_b k_b bs w_n wC w_S w_EMPTY h0 n0) Bd X35 e35 hS hk hh hCr hZ (own_EL hw) (D d6_105) rfl rfl rfl ⟨w_EMPTY, rfl, N35, K0, E_w_EMPTY, (Or.inl ⟨rfl, st, pa, hst, hpa, Or.inr ⟨hc3, Or.inr (Or.inl (own_r0 raw33 hc34))⟩⟩)⟩ (by decide) (by decide)
  ·refine G (fun t k => XS.ifNo X33.here hx rfl (D d6_84) rfl ((if0 _ _).trans (feq hc34).1) (XS.aloadN X33.here hx rfl (D d6_87) rfl rfl (XS.iload X33.here hx rfl (D d6_88) rfl (XS.iconst X33.here hx rfl (D d6_90) (XS.iadd X33.here hx rfl (D d6_91) rfl k))))) ?_
   refine sG T33 (mkF m 92 #[vr a1, vi p2, vi st, vi pa, vi pa, vi ((w_n - st) - (1 : Int32)), us, us, us] [(.int (pa + (1 : Int32))), (.ref a1)]) ?_
   refine G (fun t k => XS.aloadN X33.here hx rfl (D d6_92) rfl rfl k) ?_
   obtain ⟨_, T36, Lc36, X36, hQ36, st36⟩ := cV X33 hx hZ hown hml (wd56 hw) (wd45 hw) (wd47 hw) (wd46 hw) (wd48 hw) (wd10 hw) E_a1 e33 2 [(.int (pa + (1 : Int32))), (.ref a1)] (rm9 l Z a0 hw [] a1 w_b k_b bs w_n wC hJ n0 Z0 E_a1 F_a1_v F_a1_c V_b SC hcs) pd13 (mkF m 93 #[vr a1, vi p2, vi st, vi pa, vi pa, vi ((w_n - st) - (1 : Int32)), us, us, us] [(.ref a1), (.int (pa + (1 : Int32))), (.ref a1)]) (D d6_93)
   refine Go.tr st36 ?_
   obtain ⟨rfl, N36q, e36⟩ := hQ36
   have N36 := Fr.app N33 N36q
   obtain ⟨_, T37, Lc37, X37, hQ37, st37⟩ := cS X36 hx hZ hown hml (wd89 hw) (wd90 hw) (wd31 hw) (wd91 hw) e36 0 [] (rm19 l Z a0 hw [] a1 (pa + (1 : Int32)) w_n w_b k_b bs w_n wC w_S hJ n0 Z0 E_a1 F_a1_v F_a1_c V_b SC SI hcs hrS ⟨by rw [hp1]; omega, by rw [hp1]; exact hpl.2⟩ (Int.le_refl _)) pd26 (mkF m 96 #[vr a1, vi p2, vi st, vi pa, vi pa, vi ((w_n - st) - (1 : Int32)), us, us, us] [(.int w_n), (.int (pa + (1 : Int32))), (.ref a1)]) (D d6_96)
   obtain ⟨rr37, rfl, N37q, e37, raw37⟩ := hQ37
   refine G st37 ?_
   have N37 := Fr.app N36 N37q
   obtain ⟨LL37, X37, N37⟩ : ∃ LL, Stand p l e (Rm 5 12 44 83) (s.setVm VM) m #[(.ref a1), (.int p2)] below meth c T37 LL 4 16 ∧ Fr n0 LL := ⟨_, X37, N37⟩
   by_cases hc38 : rr37 = (0 : Int32)
   ·refine G (fun t k => XS.ifNo X37.here hx rfl (D d6_99) rfl ((if0 _ _).trans (teq hc38).2) k) ?_
    obtain ⟨_, T39, Lc39, X39, hQ39, st39⟩ := cS X37 hx hZ hown hml (wd57 hw) (wd58 hw) (wd59 hw) (wd60 hw) e37 0 [] (rm11 l Z a0 hw [] w_EMPTY hJ n0 Z0 S_EMPTY E_w_EMPTY) pd25 (mkF m 102 #[vr a1, vi p2, vi st, vi pa, vi pa, vi ((w_n - st) - (1 : Int32)), us, us, us] []) (D d6_102)
    refine G st39 ?_
    obtain ⟨rfl, N39q, e39⟩ := hQ39
    have N39 := Fr.app N37 N39q
    exact lwR (Q := Q6 Z a1 p2 w_b k_b bs w_n wC w_S w_EMPTY h0 n0) Bd X39 e39 hS hk hh hCr hZ (own_EL hw) (D d6_105) rfl rfl rfl ⟨w_EMPTY, rfl, N39, K0, E_w_EMPTY, (Or.inl ⟨rfl, st, pa, hst, hpa, Or.inr ⟨hc3, Or.inr (Or.inr (by have q := (own_r0 raw37 hc38); rw [hp1] at q; exact q))⟩⟩)⟩ (by decide) (by decide)
   ·refine G (fun t k => XS.ifYes X37.here hx rfl (pc0 := 99) (pc' := 106) rfl (D d6_99) rfl ((if0 _ _).trans (feq hc38).2) (by decide) (by decide) k) ?_
    refine sG T37 (mkF m 106 #[vr a1, vi p2, vi st, vi pa, vi pa, vi ((w_n - st) - (1 : Int32)), us, us, us] []) ?_
    have hA1 : AllD bs st.toInt pa.toInt := own_r1 raw33 hc34
    have hdz : ¬ w_n.toInt - st.toInt - 1 = 0 := fun z => hc31 ((own_d1 hsl).mpr z)
    have hA2 : AllD bs (pa.toInt + 1) w_n.toInt := (by have q := own_r1 raw37 hc38; rw [hp1] at q; exact q)
    refine G (fun t k => XS.iloadN X37.here hx rfl (D d6_106) rfl (XS.istore X37.here hx rfl (D d6_107) rfl (l' := #[vr a1, vi p2, vi st, vi pa, vi pa, vi ((w_n - st) - (1 : Int32)), vi st, us, us]) rfl k)) ?_
    refine sG T37 (mkF m 109 #[vr a1, vi p2, vi st, vi pa, vi pa, vi ((w_n - st) - (1 : Int32)), vi st, us, us] []) ?_
    have J55 : ∀ (dd : Nat) (TJ : State) (locsJ : List Loc) (i : Int32), Stand p l e (Rm 5 12 44 83) (s.setVm VM) m #[(.ref a1), (.int p2)] below meth c TJ locsJ 4 16 → TJ.heap = hJ → Fr n0 locsJ → (0 ≤ i.toInt ∧ i.toInt + (dd : Int) = pa.toInt) → (Zer bs st.toInt i.toInt ∧ st.toInt ≤ i.toInt) → Go p.tables e below (TJ.setTop (mkF m 109 #[vr a1, vi p2, vi st, vi pa, vi pa, vi ((w_n - st) - (1 : Int32)), vi i, us, us] [])) (fun o U' => ∃ v L, o = .returned v ∧ Q6 Z a1 p2 w_b k_b bs w_n wC w_S w_EMPTY h0 n0 v U'.heap L ∧ CHr Z consts_1 s.vm s.heap U'.vm U'.heap ∧ ReturnedEndW s o U' L (Rm 5 12 44 83).cells (Rm 5 12 44 83).slots) := by
     intro dd
     induction dd with
     | zero =>
      intro TJ locsJ i XJ eJ NJ hi hz
      refine G (fun t k => XS.iload XJ.here hx rfl (D d6_109) rfl (XS.iload XJ.here hx rfl (D d6_111) rfl k)) ?_
      have hf56 : ¬ (i < pa) := own_ige hi
      refine G (fun t k => XS.icmpYes XJ.here hx rfl (pc0 := 113) (pc' := 133) rfl (D d6_113) rfl (flt hf56).2.1 (by decide) (by decide) k) ?_
      refine sG TJ (mkF m 133 #[vr a1, vi p2, vi st, vi pa, vi pa, vi ((w_n - st) - (1 : Int32)), vi i, us, us] []) ?_
      exact TJ6_40 l Z a0 hw ws a1 p2 w_b k_b bs w_n wC w_S w_EMPTY h0 n0 Bd hml0 hZ hown hh XJ eJ NJ K0 Z0 hS hk hCr E_a1 F_a1_v F_a1_c V_b SC SI S_EMPTY E_w_EMPTY hc3 hst hpa hA1 hdz hA2 hcs hrS hn0 hn4 hbl (Fst.end hi hz)
     | succ dd ih =>
      intro TJ locsJ i XJ eJ NJ hi hz
      refine G (fun t k => XS.iload XJ.here hx rfl (D d6_109) rfl (XS.iload XJ.here hx rfl (D d6_111) rfl k)) ?_
      have hf57 : i < pa := own_ilt hi
      refine G (fun t k => XS.icmpNo XJ.here hx rfl (D d6_113) rfl (tlt hf57).2.1 (XS.aloadN XJ.here hx rfl (D d6_116) rfl rfl (XS.iload XJ.here hx rfl (D d6_117) rfl k))) ?_
      obtain ⟨_, T58, Lc58, X58, hQ58, st58⟩ := cV XJ hx hZ hown hml (wd92 hw) (wd93 hw) (wd95 hw) (wd94 hw) (wd96 hw) (wd10 hw) E_a1 eJ 0 [] (rm20 l Z a0 hw [] a1 i w_b k_b bs w_n wC w_S hJ n0 Z0 E_a1 F_a1_v F_a1_c V_b SC SI hcs hrS (own_iib hi htn)) pd9 (mkF m 119 #[vr a1, vi p2, vi st, vi pa, vi pa, vi ((w_n - st) - (1 : Int32)), vi i, us, us] [(.int i), (.ref a1)]) (D d6_119)
      refine Go.tr st58 ?_
      obtain ⟨rfl, N58q, e58⟩ := hQ58
      have N58 := Fr.app NJ N58q
      refine G (fun t k => XS.bipush X58.here hx rfl (D d6_122) k) ?_
      refine sG T58 (mkF m 124 #[vr a1, vi p2, vi st, vi pa, vi pa, vi ((w_n - st) - (1 : Int32)), vi i, us, us] [(.int 48), (.int (chr (own_at bs i)))]) ?_
      by_cases hc59 : (chr (own_at bs i)) = (48 : Int32)
      ·refine G (fun t k => XS.icmpNo X58.here hx rfl (D d6_124) rfl (teq hc59).2 (XS.iinc X58.here hx rfl (D d6_127) rfl (l' := #[vr a1, vi p2, vi st, vi pa, vi pa, vi ((w_n - st) - (1 : Int32)), vi (i + (1 : Int32)), us, us]) rfl (XS.goto X58.here hx rfl (pc0 := 130) (pc' := 109) rfl (D d6_130) (by decide) (by decide) k))) ?_
       refine sG T58 (mkF m 109 #[vr a1, vi p2, vi st, vi pa, vi pa, vi ((w_n - st) - (1 : Int32)), vi (i + (1 : Int32)), us, us] []) ?_
       exact ih _ _ (i + (1 : Int32)) X58 e58 N58 ⟨by have := own_inc hi; omega, by have := own_inc hi; have := hi.2; omega⟩ ⟨Zer.step hz.1 (own_inc hi) hc59, by have := own_inc hi; have := hz.2; omega⟩
      ·refine G (fun t k => XS.icmpYes X58.here hx rfl (pc0 := 124) (pc' := 133) rfl (D d6_124) rfl (feq hc59).2 (by decide) (by decide) k) ?_
       refine sG T58 (mkF m 133 #[vr a1, vi p2, vi st, vi pa, vi pa, vi ((w_n - st) - (1 : Int32)), vi i, us, us] []) ?_
       exact TJ6_40 l Z a0 hw ws a1 p2 w_b k_b bs w_n wC w_S w_EMPTY h0 n0 Bd hml0 hZ hown hh X58 e58 N58 K0 Z0 hS hk hCr E_a1 F_a1_v F_a1_c V_b SC SI S_EMPTY E_w_EMPTY hc3 hst hpa hA1 hdz hA2 hcs hrS hn0 hn4 hbl (Fst.stop hi hz hc59)
    exact J55 (pa.toInt - st.toInt).toNat _ _ st X37 e37 N37 ⟨hft.1, by have := hft.2; omega⟩ ⟨Zer.nil (Int.le_refl _), Int.le_refl _⟩
theorem TJ6_1 (l : Launch) (Z : State) (a0 : Array Value) (hw : HW a0 Z) (ws : List Jvm.Cond) (a1 : Addr) (p2 : Int32) (w_b : Addr) (k_b : ClassId) (bs : List Int32) (w_n : Int32) (wC : Int32) (w_S : Value) (w_EMPTY : Addr) (h0 : Heap) (n0 : Nat) {p : Program} {e : Env} {s : State} {m : MethodId} {below : List Frame} {meth : Method} {c : Code} {s₁ : State} (Bd : BodyLoose p l y_47 (head1 (Cond.code y_47 cB6 9 (some (.object OP)) :: ws) (Rm 5 12 44 83)) cB6 9 (some (.object OP)) e s m #[(.ref a1), (.int p2)] below meth c s₁) (hml0 : c.maxLocals = 9) {VM : Vm} {kS : Nat} (hZ : Z.Warmed39 (s.setVm VM).vm) (hown : (s.setVm VM).vm.findClass NU = some m.cls) (hh : s.heap = h0) {TJ : State} {locsJ : List Loc} {hJ : Heap} {st : Int32} (XJ : Stand p l e (Rm 5 12 44 83) (s.setVm VM) m #[(.ref a1), (.int p2)] below meth c TJ locsJ 4 16) (eJ : TJ.heap = hJ) (NJ : Fr n0 locsJ) (K0 : Keep h0 hJ []) (Z0 : n0 ≤ hJ.size) (hS : s.Since VM kS) (hk : kS ≤ hJ.size) (hCr : CHr Z consts_1 s.vm h0 VM hJ) (E_a1 : Exa Z hJ a1 SN) (F_a1_v : Fld Z hJ a1 SN "value" "[B" (.ref w_b)) (F_a1_c : Fld Z hJ a1 SN "coder" "B" (.int (0 : Int32))) (V_b : Arv Z hJ w_b k_b .byte w_n (List.map Value.int bs) (.int (0 : Int32))) (SC : Sta Z hJ SN "COMPACT_STRINGS" "Z" (.int wC)) (SI : Sta Z hJ PC "SIOOBE_FORMATTER" BF w_S) (S_EMPTY : Sta Z hJ OP "EMPTY" "Ljava/util/Optional;" (.ref w_EMPTY)) (E_w_EMPTY : Exa Z hJ w_EMPTY OP) (hcs : ¬ wC = (0 : Int32)) (hrS : w_S.isRef = true) (hn0 : 0 ≤ w_n.toInt) (hn4 : w_n.toInt ≤ 4) (hbl : bs.length = w_n.toNatClampNeg) (hst : Stt bs w_n st) :
  Go p.tables e below (TJ.setTop (mkF m 23 #[vr a1, vi p2, us, us, us, us, us, us, us] [(.int st)])) (fun o U' => ∃ v L, o = .returned v ∧ Q6 Z a1 p2 w_b k_b bs w_n wC w_S w_EMPTY h0 n0 v U'.heap L ∧ CHr Z consts_1 s.vm s.heap U'.vm U'.heap ∧ ReturnedEndW s o U' L (Rm 5 12 44 83).cells (Rm 5 12 44 83).slots) := by
 have hx := Bd.exec
 have D := @hb _ _ Bd.bytes
 have hml : c.maxLocals = 9 := hml0
 have hnm := (name_of_methodNamed Bd.named Bd.method).1
 refine G (fun t k => XS.istoreN XJ.here hx rfl (D d6_23) rfl (l' := #[vr a1, vi p2, vi st, us, us, us, us, us, us]) rfl k) ?_
 refine sG TJ (mkF m 24 #[vr a1, vi p2, vi st, us, us, us, us, us, us] []) ?_
 have J2 : ∀ (TJ : State) (locsJ : List Loc) (pa : Int32), Stand p l e (Rm 5 12 44 83) (s.setVm VM) m #[(.ref a1), (.int p2)] below meth c TJ locsJ 4 16 → TJ.heap = hJ → Fr n0 locsJ → (Pat bs w_n p2 st pa) → Go p.tables e below (TJ.setTop (mkF m 39 #[vr a1, vi p2, vi st, us, us, us, us, us, us] [(.int pa)])) (fun o U' => ∃ v L, o = .returned v ∧ Q6 Z a1 p2 w_b k_b bs w_n wC w_S w_EMPTY h0 n0 v U'.heap L ∧ CHr Z consts_1 s.vm s.heap U'.vm U'.heap ∧ ReturnedEndW s o U' L (Rm 5 12 44 83).cells (Rm 5 12 44 83).slots) := by
  intro TJ locsJ pa XJ eJ NJ hpa
  refine G (fun t k => XS.istoreN XJ.here hx rfl (D d6_39) rfl (l' := #[vr a1, vi p2, vi st, vi pa, us, us, us, us, us]) rfl (XS.iloadN XJ.here hx rfl (D d6_40) rfl k)) ?_
  by_cases hc3 : pa < (0 : Int32)
  ·refine G (fun t k => XS.ifNo XJ.here hx rfl (D d6_41) rfl ((if0 _ _).trans (tlt hc3).2.1) (XS.aloadN XJ.here hx rfl (D d6_44) rfl rfl k)) ?_
   obtain ⟨_, T4, Lc4, X4, hQ4, st4⟩ := cV XJ hx hZ hown hml (wd56 hw) (wd45 hw) (wd47 hw) (wd46 hw) (wd48 hw) (wd10 hw) E_a1 eJ 0 [] (rm9 l Z a0 hw [] a1 w_b k_b bs w_n wC hJ n0 Z0 E_a1 F_a1_v F_a1_c V_b SC hcs) pd13 (mkF m 45 #[vr a1, vi p2, vi st, vi pa, us, us, us, us, us] [(.ref a1)]) (D d6_45)
   refine Go.tr st4 ?_
   obtain ⟨rfl, N4q, e4⟩ := hQ4
   have N4 := Fr.app NJ N4q
   refine G (fun t k => XS.goto X4.here hx rfl (pc0 := 48) (pc' := 52) rfl (D d6_48) (by decide) (by decide) k) ?_
   refine sG T4 (mkF m 52 #[vr a1, vi p2, vi st, vi pa, us, us, us, us, us] [(.int w_n)]) ?_
   exact TJ6_5 l Z a0 hw ws a1 p2 w_b k_b bs w_n wC w_S w_EMPTY h0 n0 Bd hml0 hZ hown hh X4 e4 N4 K0 Z0 hS hk hCr E_a1 F_a1_v F_a1_c V_b SC SI S_EMPTY E_w_EMPTY hc3 hst hpa hcs hrS hn0 hn4 hbl
  ·refine G (fun t k => XS.ifYes XJ.here hx rfl (pc0 := 41) (pc' := 51) rfl (D d6_41) rfl ((if0 _ _).trans (flt hc3).2.1) (by decide) (by decide) (XS.iloadN XJ.here hx rfl (D d6_51) rfl k)) ?_
   refine sG TJ (mkF m 52 #[vr a1, vi p2, vi st, vi pa, us, us, us, us, us] [(.int pa)]) ?_
   exact TJ6_29 l Z a0 hw ws a1 p2 w_b k_b bs w_n wC w_S w_EMPTY h0 n0 Bd hml0 hZ hown hh XJ eJ NJ K0 Z0 hS hk hCr E_a1 F_a1_v F_a1_c V_b SC SI S_EMPTY E_w_EMPTY hc3 hst hpa hcs hrS hn0 hn4 hbl
 refine G (fun t k => XS.iloadN XJ.here hx rfl (D d6_24) rfl k) ?_
 by_cases hc60 : p2 = (0 : Int32)
 ·refine G (fun t k => XS.ifYes XJ.here hx rfl (pc0 := 25) (pc' := 38) rfl (D d6_25) rfl ((if0 _ _).trans (teq hc60).1) (by decide) (by decide) (XS.iconst XJ.here hx rfl (D d6_38) k)) ?_
  refine sG TJ (mkF m 39 #[vr a1, vi p2, vi st, us, us, us, us, us, us] [(.int (-1))]) ?_
  exact J2 _ _ (-1 : Int32) XJ eJ NJ (Or.inr ⟨hc60, rfl⟩)
 ·refine G (fun t k => XS.ifNo XJ.here hx rfl (D d6_25) rfl ((if0 _ _).trans (feq hc60).1) (XS.aloadN XJ.here hx rfl (D d6_28) rfl rfl (XS.bipush XJ.here hx rfl (D d6_29) (XS.iloadN XJ.here hx rfl (D d6_31) rfl k)))) ?_
  obtain ⟨_, T61, Lc61, X61, hQ61, st61⟩ := cV XJ hx hZ hown hml (wd188 hw) (wd189 hw) (wd191 hw) (wd190 hw) (wd192 hw) (wd10 hw) E_a1 eJ 0 [] (rm39 l Z a0 hw [] a1 st w_b k_b bs w_n wC hJ n0 Z0 E_a1 F_a1_v F_a1_c V_b SC hcs (own_stle hst hn0)) pd11 (mkF m 32 #[vr a1, vi p2, vi st, us, us, us, us, us, us] [(.int st), (.int 46), (.ref a1)]) (D d6_32)
  obtain ⟨rr61, rfl, N61q, e61, raw61⟩ := hQ61
  refine Go.tr st61 ?_
  have N61 := Fr.app NJ N61q
  refine G (fun t k => XS.goto X61.here hx rfl (pc0 := 35) (pc' := 39) rfl (D d6_35) (by decide) (by decide) k) ?_
  refine sG T61 (mkF m 39 #[vr a1, vi p2, vi st, us, us, us, us, us, us] [(.int rr61)]) ?_
  exact J2 _ _ rr61 X61 e61 N61 (Or.inl ⟨hc60, raw61⟩)
theorem rm6 (l : Launch) (Z : State) (a0 : Array Value) (hw : HW a0 Z) (ws : List Jvm.Cond) (a1 : Addr) (p2 : Int32) (w_b : Addr) (k_b : ClassId) (bs : List Int32) (w_n : Int32) (wC : Int32) (w_S : Value) (w_EMPTY : Addr) (h0 : Heap) (n0 : Nat) (Z0 : n0 ≤ h0.size) (E_a1 : Exa Z h0 a1 SN) (F_a1_v : Fld Z h0 a1 SN "value" "[B" (.ref w_b)) (F_a1_c : Fld Z h0 a1 SN "coder" "B" (.int (0 : Int32))) (V_b : Arv Z h0 w_b k_b .byte w_n (List.map Value.int bs) (.int (0 : Int32))) (SC : Sta Z h0 SN "COMPACT_STRINGS" "Z" (.int wC)) (SI : Sta Z h0 PC "SIOOBE_FORMATTER" BF w_S) (S_EMPTY : Sta Z h0 OP "EMPTY" "Ljava/util/Optional;" (.ref w_EMPTY)) (E_w_EMPTY : Exa Z h0 w_EMPTY OP) (hcs : ¬ wC = (0 : Int32)) (hrS : w_S.isRef = true) (hn0 : 0 ≤ w_n.toInt) (hn4 : w_n.toInt ≤ 4) (hbl : bs.length = w_n.toNatClampNeg) :
  MetFree l y_47 (head1 (Cond.code y_47 cB6 9 (some (.object OP)) :: ws) (Rm 5 12 44 83)) (fun a U => a = #[(.ref a1), (.int p2)] ∧ Z.Warmed39 U.vm ∧ U.heap = h0 ∧ CHv Z consts_1 U.vm h0) (fun _ _ _ _ _ => True) (fun _ U o U' => ∃ v L, o = .returned v ∧ Q6 Z a1 p2 w_b k_b bs w_n wC w_S w_EMPTY h0 n0 v U'.heap L ∧ CHr Z consts_1 U.vm U.heap U'.vm U'.heap ∧ ReturnedEndW U o U' L (Rm 5 12 44 83).cells (Rm 5 12 44 83).slots) := by
 refine MetFree.of_bodySF (plainFor_of_name pn4) hisR ?_
 intro p e s m args below meth c s₁ Bd hml0 hP hK
 obtain ⟨rfl, hZ, hh, hC0⟩ := hP
 replace hZ : Z.Warmed39 (s.setVm s.vm).vm := hZ
 have hS : s.Since s.vm 0 := (State.WarmedH.refl s).since 0
 have hk : 0 ≤ h0.size := Nat.zero_le _
 have hCr : CHr Z consts_1 s.vm h0 s.vm h0 := CHr.refl hC0
 have hx := Bd.exec
 have D := @hb _ _ Bd.bytes
 have hml : c.maxLocals = 9 := hml0
 have hown : (s.setVm s.vm).vm.findClass NU = some m.cls := findClass_of_methodNamed Bd.named
 have hnm := (name_of_methodNamed Bd.named Bd.method).1
 have X0 : Stand p l e (Rm 5 12 44 83) (s.setVm s.vm) m #[(.ref a1), (.int p2)] below meth c s₁ [] 0 0 := Stand.of_body Bd
 have e0 : s₁.heap = h0 := by rw [← hh, Bd.state]; rfl
 have N0 := Fr.nil n0
 have K0 : Keep h0 h0 [] := Keep.refl h0 _
 refine G (P := fun o U' => ∃ v L, o = .returned v ∧ Q6 Z a1 p2 w_b k_b bs w_n wC w_S w_EMPTY h0 n0 v U'.heap L ∧ CHr Z consts_1 s.vm s.heap U'.vm U'.heap ∧ ReturnedEndW s o U' L (Rm 5 12 44 83).cells (Rm 5 12 44 83).slots) (fun t k => castTop (ef6 m a1 p2) k) ?_
 refine sG s₁ (mkF m 0 #[vr a1, vi p2, us, us, us, us, us, us, us] []) ?_
 refine G (fun t k => XS.aloadN X0.here hx rfl (D d6_0) rfl rfl k) ?_
 obtain ⟨c62, T62, h62, kk62, d62, kb62, X62, e62, E62, hS62, hk62, hZ62, ho62, ES62, FC62, FV62, VA62, -, -, hC62, LL62, hn62, st62⟩ := ldcCH X0 hx hZ hown (wd33 hw) (own_str hw) e0 hS hk (own_EL hw) (by simp [consts_1]) hCr.1 (vs := [(.int (43 : Int32))]) (z := 1) ⟨by decide, by decide⟩ (by decide) (by decide) (g := (mkF m 1 #[vr a1, vi p2, us, us, us, us, us, us, us] [(.ref a1)])) rfl (D d6_1) (n := 4) (by decide) (by decide) (by decide) (by decide)
 refine G st62 ?_
 replace E_a1 := E_a1.ext E62
 replace F_a1_v := F_a1_v.ext E62
 replace F_a1_c := F_a1_c.ext E62
 replace V_b := V_b.ext E62
 replace SC := SC.ext E62
 replace SI := SI.ext E62
 replace S_EMPTY := S_EMPTY.ext E62
 replace E_w_EMPTY := E_w_EMPTY.ext E62
 replace K0 := K0.ext E62
 replace Z0 := Nat.le_trans Z0 E62.1
 replace hCr := hCr.trans hC62
 replace hZ := hZ62
 replace hown := ho62
 replace hS := hS62
 replace hk := hk62
 obtain ⟨_, T63, Lc63, X63, hQ63, st63⟩ := cV X62 hx hZ hown hml (wd34 hw) (wd35 hw) (wd37 hw) (wd36 hw) (wd38 hw) (wd10 hw) E_a1 e62 0 [] (rm7 l Z a0 hw [] a1 c62 w_b k_b bs w_n wC d62 kb62 (43 : Int32) h62 n0 Z0 E_a1 F_a1_v F_a1_c V_b SC ES62 FV62 FC62 VA62 hcs hn0) pd27 (mkF m 3 #[vr a1, vi p2, us, us, us, us, us, us, us] [(.ref c62), (.ref a1)]) (D d6_3)
 refine Go.tr st63 ?_
 obtain ⟨rfl, N63q, e63⟩ := hQ63
 have N63 := Fr.app N0 N63q
 by_cases hc64 : ((f8 bs w_n (43 : Int32)) &&& 1) = (0 : Int32)
 ·refine G (fun t k => XS.ifNo X63.here hx rfl (D d6_6) rfl ((if0 _ _).trans (teq hc64).2) (XS.aloadN X63.here hx rfl (D d6_9) rfl rfl k)) ?_
  obtain ⟨c65, T65, h65, kk65, d65, kb65, X65, e65, E65, hS65, hk65, hZ65, ho65, ES65, FC65, FV65, VA65, -, -, hC65, LL65, hn65, st65⟩ := ldcCH X63 hx hZ hown (wd55 hw) (own_str hw) e63 hS hk (own_EL hw) (by simp [consts_1]) hCr.1 (vs := [(.int (45 : Int32))]) (z := 1) ⟨by decide, by decide⟩ (by decide) (by decide) (g := (mkF m 10 #[vr a1, vi p2, us, us, us, us, us, us, us] [(.ref a1)])) rfl (D d6_10) (n := 4) (by decide) (by decide) (by decide) (by decide)
  refine G st65 ?_
  replace E_a1 := E_a1.ext E65
  replace F_a1_v := F_a1_v.ext E65
  replace F_a1_c := F_a1_c.ext E65
  replace V_b := V_b.ext E65
  replace SC := SC.ext E65
  replace SI := SI.ext E65
  replace S_EMPTY := S_EMPTY.ext E65
  replace E_w_EMPTY := E_w_EMPTY.ext E65
  replace ES62 := ES62.ext E65
  replace FC62 := FC62.ext E65
  replace FV62 := FV62.ext E65
  replace VA62 := VA62.ext E65
  replace K0 := K0.ext E65
  replace Z0 := Nat.le_trans Z0 E65.1
  replace hCr := hCr.trans hC65
  replace hZ := hZ65
  replace hown := ho65
  replace hS := hS65
  replace hk := hk65
  obtain ⟨_, T66, Lc66, X66, hQ66, st66⟩ := cV X65 hx hZ hown hml (wd34 hw) (wd35 hw) (wd37 hw) (wd36 hw) (wd38 hw) (wd10 hw) E_a1 e65 0 [] (rm7 l Z a0 hw [] a1 c65 w_b k_b bs w_n wC d65 kb65 (45 : Int32) h65 n0 Z0 E_a1 F_a1_v F_a1_c V_b SC ES65 FV65 FC65 VA65 hcs hn0) pd27 (mkF m 12 #[vr a1, vi p2, us, us, us, us, us, us, us] [(.ref c65), (.ref a1)]) (D d6_12)
  refine Go.tr st66 ?_
  obtain ⟨rfl, N66q, e66⟩ := hQ66
  have N66 := Fr.app N63 N66q
  refine sG T66 (mkF m 15 #[vr a1, vi p2, us, us, us, us, us, us, us] [(.int ((f8 bs w_n (45 : Int32)) &&& 1))]) ?_
  by_cases hc67 : ((f8 bs w_n (45 : Int32)) &&& 1) = (0 : Int32)
  ·refine G (fun t k => XS.ifYes X66.here hx rfl (pc0 := 15) (pc' := 22) rfl (D d6_15) rfl ((if0 _ _).trans (teq hc67).1) (by decide) (by decide) (XS.iconst X66.here hx rfl (D d6_22) k)) ?_
   refine sG T66 (mkF m 23 #[vr a1, vi p2, us, us, us, us, us, us, us] [(.int 0)]) ?_
   exact TJ6_1 l Z a0 hw ws a1 p2 w_b k_b bs w_n wC w_S w_EMPTY h0 n0 Bd hml0 hZ hown hh X66 e66 N66 K0 Z0 hS hk hCr E_a1 F_a1_v F_a1_c V_b SC SI S_EMPTY E_w_EMPTY hcs hrS hn0 hn4 hbl (Or.inr ⟨rfl, fun z => z.elim ((own_f8 hn0).mp hc64) ((own_f8 hn0).mp hc67)⟩)
  ·refine G (fun t k => XS.ifNo X66.here hx rfl (D d6_15) rfl ((if0 _ _).trans (feq hc67).1) (XS.iconst X66.here hx rfl (D d6_18) (XS.goto X66.here hx rfl (pc0 := 19) (pc' := 23) rfl (D d6_19) (by decide) (by decide) k))) ?_
   refine sG T66 (mkF m 23 #[vr a1, vi p2, us, us, us, us, us, us, us] [(.int 1)]) ?_
   exact TJ6_1 l Z a0 hw ws a1 p2 w_b k_b bs w_n wC w_S w_EMPTY h0 n0 Bd hml0 hZ hown hh X66 e66 N66 K0 Z0 hS hk hCr E_a1 F_a1_v F_a1_c V_b SC SI S_EMPTY E_w_EMPTY hcs hrS hn0 hn4 hbl (Or.inl ⟨rfl, Or.inr (own_f8n hn0 hc67)⟩)
 ·refine G (fun t k => XS.ifYes X63.here hx rfl (pc0 := 6) (pc' := 18) rfl (D d6_6) rfl ((if0 _ _).trans (feq hc64).2) (by decide) (by decide) (XS.iconst X63.here hx rfl (D d6_18) (XS.goto X63.here hx rfl (pc0 := 19) (pc' := 23) rfl (D d6_19) (by decide) (by decide) k))) ?_
  refine sG T63 (mkF m 23 #[vr a1, vi p2, us, us, us, us, us, us, us] [(.int 1)]) ?_
  exact TJ6_1 l Z a0 hw ws a1 p2 w_b k_b bs w_n wC w_S w_EMPTY h0 n0 Bd hml0 hZ hown hh (own_mono X63 (by decide) (by decide)) e63 N63 K0 Z0 hS hk hCr E_a1 F_a1_v F_a1_c V_b SC SI S_EMPTY E_w_EMPTY hcs hrS hn0 hn4 hbl (Or.inl ⟨rfl, Or.inl (own_f8n hn0 hc64)⟩)
def Mk (bs : List Int32) (n c0 c1 c2 c3 : Int32) : Prop := bs.length = n.toNatClampNeg ∧ 0 ≤ n.toInt ∧ n.toInt ≤ 4 ∧ (0 < n.toInt → Ch (own_at bs 0) c0) ∧ (1 < n.toInt → Ch (own_at bs 1) c1) ∧ (2 < n.toInt → Ch (own_at bs 2) c2) ∧ (3 < n.toInt → Ch (own_at bs 3) c3)
def Bit (x : Int32) (q : Prop) : Prop := (x = 1 ∧ q) ∨ (x = 0 ∧ ¬ q)
def S0t (n c0 S0 : Int32) : Prop := (S0 = 1 ∧ 0 < n.toInt ∧ (c0 = 43 ∨ c0 = 45)) ∨ (S0 = 0 ∧ ¬ (0 < n.toInt ∧ (c0 = 43 ∨ c0 = 45)))
def kd (j p2 p3 v : Int32) : Int32 := (if j < p3 then (3 : Int32) else (if j < p2 then (if v < (48 : Int32) then (if v = (46 : Int32) then (1 : Int32) else (2 : Int32)) else (if (57 : Int32) < v then (if v = (46 : Int32) then (1 : Int32) else (2 : Int32)) else (0 : Int32))) else (3 : Int32)))
def KK (n S0 c0 c1 c2 c3 k0 k1 k2 k3 : Int32) : Prop := k0 = kd 0 n S0 c0 ∧ k1 = kd 1 n S0 c1 ∧ k2 = kd 2 n S0 c2 ∧ k3 = kd 3 n S0 c3
def sel (c0 c1 c2 c3 : Int32) (i : Int) : Int32 := if i = 0 then c0 else if i = 1 then c1 else if i = 2 then c2 else c3
def Col (c0 c1 c2 c3 : Int32) (a b : Int) (k o0 o1 o2 o3 : Int32) : Prop := k.toInt = b - a ∧ (0 < b - a → o0 = sel c0 c1 c2 c3 a) ∧ (1 < b - a → o1 = sel c0 c1 c2 c3 (a + 1)) ∧ (2 < b - a → o2 = sel c0 c1 c2 c3 (a + 2)) ∧ (3 < b - a → o3 = sel c0 c1 c2 c3 (a + 3))
theorem own_ofm {v : Int32} (m : Nat) (hm : m < 256) (h : v.toBitVec.toNat ≤ m) : ∃ k : Fin 256, k.val ≤ m ∧ v = Int32.ofNat k.val := by
 refine ⟨⟨v.toBitVec.toNat, by omega⟩, h, ?_⟩
 apply Int32.toBitVec_inj.mp
 apply BitVec.eq_of_toNat_eq
 show v.toBitVec.toNat = (BitVec.ofNat 32 v.toBitVec.toNat).toNat
 rw [BitVec.toNat_ofNat, Nat.mod_eq_of_lt v.toBitVec.isLt]
theorem own_and (x m : Int32) : (x &&& m).toBitVec.toNat ≤ m.toBitVec.toNat := by
 show (x.toBitVec &&& m.toBitVec).toNat ≤ _
 rw [BitVec.toNat_and]
 exact Nat.and_le_right
theorem own_n5 (e : Int32) : 0 ≤ ((e &&& (7 : Int32)) % (5 : Int32)).toInt ∧ ((e &&& (7 : Int32)) % (5 : Int32)).toInt ≤ 4 := by
 obtain ⟨k, hk, q⟩ := own_ofm 7 (by omega) (own_and e 7)
 rw [q]
 exact (show ∀ k : Fin 256, k.val ≤ 7 → 0 ≤ ((Int32.ofNat k.val) % (5 : Int32)).toInt ∧ ((Int32.ofNat k.val) % (5 : Int32)).toInt ≤ 4 from by decide +kernel) k hk
theorem own_pk1 : ∀ k : Fin 256, k.val ≤ 15 → 0 ≤ (((((48 : Int32) + (Int32.ofNat k.val)).toUInt32.toUInt16.toUInt32.toInt32).toUInt32.toUInt16.toUInt32.toInt32).toUInt32.toUInt16.toUInt32.toInt32).toInt ∧ (((((48 : Int32) + (Int32.ofNat k.val)).toUInt32.toUInt16.toUInt32.toInt32).toUInt32.toUInt16.toUInt32.toInt32).toUInt32.toUInt16.toUInt32.toInt32).toInt ≤ 255 := by decide +kernel
theorem own_pk2 : ∀ k : Fin 256, k.val ≤ 255 → 0 ≤ (((((Int32.ofNat k.val)).toUInt32.toUInt16.toUInt32.toInt32).toUInt32.toUInt16.toUInt32.toInt32).toUInt32.toUInt16.toUInt32.toInt32).toInt ∧ (((((Int32.ofNat k.val)).toUInt32.toUInt16.toUInt32.toInt32).toUInt32.toUInt16.toUInt32.toInt32).toUInt32.toUInt16.toUInt32.toInt32).toInt ≤ 255 := by decide +kernel
theorem own_pick (x : Int32) : 0 ≤ ((f1 x).toUInt32.toUInt16.toUInt32.toInt32).toInt ∧ ((f1 x).toUInt32.toUInt16.toUInt32.toInt32).toInt ≤ 255 := by
 obtain ⟨k, hk, q⟩ := own_ofm 15 (by omega) (own_and x 15)
 obtain ⟨k', hk', q'⟩ := own_ofm 255 (by omega) (own_and ((x.toUInt32 >>> ((4 : Int32) &&& 31).toUInt32).toInt32) 255)
 unfold f1
 rw [q']
 split
 ·rw [q]
  exact own_pk1 k hk
 ·split
  ·decide
  ·split
   ·decide
   ·split
    ·decide
    ·exact own_pk2 k' hk'
theorem own_n04 {n : Int32} (h : 0 ≤ n.toInt ∧ n.toInt ≤ 4) : n = 0 ∨ n = 1 ∨ n = 2 ∨ n = 3 ∨ n = 4 := by
 obtain ⟨h1, h2⟩ := h
 rcases (show n.toInt = 0 ∨ n.toInt = 1 ∨ n.toInt = 2 ∨ n.toInt = 3 ∨ n.toInt = 4 by omega) with q | q | q | q | q
 ·exact Or.inl (Int32.toInt_inj.mp q)
 ·exact Or.inr (Or.inl (Int32.toInt_inj.mp q))
 ·exact Or.inr (Or.inr (Or.inl (Int32.toInt_inj.mp q)))
 ·exact Or.inr (Or.inr (Or.inr (Or.inl (Int32.toInt_inj.mp q))))
 ·exact Or.inr (Or.inr (Or.inr (Or.inr (Int32.toInt_inj.mp q))))
theorem own_f2n {n : Int32} (h : 0 ≤ n.toInt ∧ n.toInt ≤ 4) : f2_n n = n := by
 rcases own_n04 h with rfl | rfl | rfl | rfl | rfl <;> decide
theorem own_mk {n c0 c1 c2 c3 : Int32} (h : 0 ≤ n.toInt ∧ n.toInt ≤ 4) (h0 : 0 ≤ c0.toInt ∧ c0.toInt ≤ 255) (h1 : 0 ≤ c1.toInt ∧ c1.toInt ≤ 255) (h2 : 0 ≤ c2.toInt ∧ c2.toInt ≤ 255) (h3 : 0 ≤ c3.toInt ∧ c3.toInt ≤ 255) : Mk (f2_l n c0 c1 c2 c3) n c0 c1 c2 c3 := by
 have b0 := own_byte h0
 have b1 := own_byte h1
 have b2 := own_byte h2
 have b3 := own_byte h3
 rcases own_n04 h with rfl | rfl | rfl | rfl | rfl
 ·exact ⟨rfl, by decide, by decide, fun z => absurd z (by decide), fun z => absurd z (by decide), fun z => absurd z (by decide), fun z => absurd z (by decide)⟩
 ·exact ⟨rfl, by decide, by decide, fun _ => b0, fun z => absurd z (by decide), fun z => absurd z (by decide), fun z => absurd z (by decide)⟩
 ·exact ⟨rfl, by decide, by decide, fun _ => b0, fun _ => b1, fun z => absurd z (by decide), fun z => absurd z (by decide)⟩
 ·exact ⟨rfl, by decide, by decide, fun _ => b0, fun _ => b1, fun _ => b2, fun z => absurd z (by decide)⟩
 ·exact ⟨rfl, by decide, by decide, fun _ => b0, fun _ => b1, fun _ => b2, fun _ => b3⟩
section
variable {bs : List Int32} {n pt c0 c1 c2 c3 S0 st pa ie fi fa la P IE k0 k1 k2 k3 dg dt ot : Int32}
theorem own_ch0 (hM : Mk bs n c0 c1 c2 c3) : (0 : Int32).toInt < n.toInt → Ch (own_at bs 0) c0 := hM.2.2.2.1
theorem own_ch1 (hM : Mk bs n c0 c1 c2 c3) : (1 : Int32).toInt < n.toInt → Ch (own_at bs 1) c1 := hM.2.2.2.2.1
theorem own_ch2 (hM : Mk bs n c0 c1 c2 c3) : (2 : Int32).toInt < n.toInt → Ch (own_at bs 2) c2 := hM.2.2.2.2.2.1
theorem own_ch3 (hM : Mk bs n c0 c1 c2 c3) : (3 : Int32).toInt < n.toInt → Ch (own_at bs 3) c3 := hM.2.2.2.2.2.2
theorem own_sw0 (hM : Mk bs n c0 c1 c2 c3) (k : Int32) (h0 : 0 ≤ k.toInt) (h1 : k.toInt < 128) : sw bs n k ↔ 0 < n.toInt ∧ c0 = k := ⟨fun z => ⟨z.1, ((own_ch0 hM z.1).2 k h0 h1).mp z.2⟩, fun z => ⟨z.1, ((own_ch0 hM z.1).2 k h0 h1).mpr z.2⟩⟩
theorem own_steq (hM : Mk bs n c0 c1 c2 c3) (hst : Stt bs n st) (h : S0t n c0 S0) : S0 = st := by
 have a := own_sw0 hM 43 (by decide) (by decide)
 have b := own_sw0 hM 45 (by decide) (by decide)
 rcases hst with ⟨rfl, h1⟩ | ⟨rfl, h1⟩ <;> rcases h with ⟨rfl, h2, h3⟩ | ⟨rfl, h2⟩
 ·rfl
 ·exact absurd (h1.elim (fun z => ⟨(a.mp z).1, Or.inl (a.mp z).2⟩) fun z => ⟨(b.mp z).1, Or.inr (b.mp z).2⟩) h2
 ·exact absurd (h3.elim (fun z => Or.inl (a.mpr ⟨h2, z⟩)) fun z => Or.inr (b.mpr ⟨h2, z⟩)) h1
 ·rfl
theorem own_dd {c : Int32} : ¬ (c < (48 : Int32)) ∧ ¬ ((57 : Int32) < c) ↔ dig c := by
 rw [Int32.lt_iff_toInt_lt, Int32.lt_iff_toInt_lt, show (48 : Int32).toInt = 48 from rfl, show (57 : Int32).toInt = 57 from rfl]
 unfold dig
 omega
theorem own_kd (j p2 p3 v : Int32) : (kd j p2 p3 v = 3 ∧ ¬ (p3.toInt ≤ j.toInt ∧ j.toInt < p2.toInt)) ∨ ((p3.toInt ≤ j.toInt ∧ j.toInt < p2.toInt) ∧ ((dig v ∧ kd j p2 p3 v = 0) ∨ (v = 46 ∧ kd j p2 p3 v = 1) ∨ (¬ dig v ∧ ¬ v = 46 ∧ kd j p2 p3 v = 2))) := by
 unfold kd
 have e1 := @Int32.lt_iff_toInt_lt j p3
 have e2 := @Int32.lt_iff_toInt_lt j p2
 by_cases q1 : j < p3
 ·rw [if_pos q1]
  exact Or.inl ⟨rfl, by rw [e1] at q1; omega⟩
 ·rw [if_neg q1]
  by_cases q2 : j < p2
  ·rw [if_pos q2]
   refine Or.inr ⟨by rw [e1] at q1; rw [e2] at q2; omega, ?_⟩
   by_cases q3 : v < 48
   ·rw [if_pos q3]
    by_cases q4 : v = 46
    ·rw [if_pos q4]
     exact Or.inr (Or.inl ⟨q4, rfl⟩)
    ·rw [if_neg q4]
     exact Or.inr (Or.inr ⟨fun z => (own_dd.mpr z).1 q3, q4, rfl⟩)
   ·rw [if_neg q3]
    by_cases q5 : (57 : Int32) < v
    ·rw [if_pos q5]
     by_cases q4 : v = 46
     ·rw [if_pos q4]
      exact Or.inr (Or.inl ⟨q4, rfl⟩)
     ·rw [if_neg q4]
      exact Or.inr (Or.inr ⟨fun z => (own_dd.mpr z).2 q5, q4, rfl⟩)
    ·rw [if_neg q5]
     exact Or.inl ⟨own_dd.mp ⟨q3, q5⟩, rfl⟩
  ·rw [if_neg q2]
   exact Or.inl ⟨rfl, by rw [e2] at q2; omega⟩
/-- what k says of place j -/
def Kp (bs : List Int32) (n S0 : Int32) (j k : Int32) : Prop := (k = 3 ∧ ¬ (S0.toInt ≤ j.toInt ∧ j.toInt < n.toInt)) ∨ ((S0.toInt ≤ j.toInt ∧ j.toInt < n.toInt) ∧ ((dig (chr (own_at bs j)) ∧ ¬ own_at bs j = 46 ∧ k = 0) ∨ (¬ dig (chr (own_at bs j)) ∧ own_at bs j = 46 ∧ k = 1) ∨ (¬ dig (chr (own_at bs j)) ∧ ¬ own_at bs j = 46 ∧ k = 2)))
theorem own_kp {j c : Int32} (hc : j.toInt < n.toInt → Ch (own_at bs j) c) : Kp bs n S0 j (kd j n S0 c) := by
 rcases own_kd j n S0 c with h | ⟨h, q⟩
 ·exact Or.inl h
 ·obtain ⟨e, f⟩ := hc h.2
  have f := f 46 (by decide) (by decide)
  refine Or.inr ⟨h, ?_⟩
  rw [e, f]
  have nd : c = 46 → ¬ dig c := fun z => by rw [z]; unfold dig; decide
  rcases q with ⟨q1, q2⟩ | ⟨q1, q2⟩ | ⟨q1, q2, q3⟩
  ·exact Or.inl ⟨q1, fun z => nd z q1, q2⟩
  ·exact Or.inr (Or.inl ⟨nd q1, q1, q2⟩)
  ·exact Or.inr (Or.inr ⟨q1, q2, q3⟩)
def Kat (k0 k1 k2 k3 : Int32) (j k : Int32) : Prop := (j = 0 ∧ k = k0) ∨ (j = 1 ∧ k = k1) ∨ (j = 2 ∧ k = k2) ∨ (j = 3 ∧ k = k3)
theorem own_kat (hM : Mk bs n c0 c1 c2 c3) (hK : KK n S0 c0 c1 c2 c3 k0 k1 k2 k3) {j k : Int32} (h : Kat k0 k1 k2 k3 j k) : Kp bs n S0 j k := by
 obtain ⟨rfl, rfl, rfl, rfl⟩ := hK
 rcases h with ⟨rfl, rfl⟩ | ⟨rfl, rfl⟩ | ⟨rfl, rfl⟩ | ⟨rfl, rfl⟩
 ·exact own_kp (own_ch0 hM)
 ·exact own_kp (own_ch1 hM)
 ·exact own_kp (own_ch2 hM)
 ·exact own_kp (own_ch3 hM)
theorem own_j4 {j : Int32} (h0 : 0 ≤ j.toInt) (h1 : j.toInt < 4) : ∃ k, Kat k0 k1 k2 k3 j k := by
 rcases own_n04 (n := j) ⟨h0, by omega⟩ with rfl | rfl | rfl | rfl | rfl
 ·exact ⟨k0, Or.inl ⟨rfl, rfl⟩⟩
 ·exact ⟨k1, Or.inr (Or.inl ⟨rfl, rfl⟩)⟩
 ·exact ⟨k2, Or.inr (Or.inr (Or.inl ⟨rfl, rfl⟩))⟩
 ·exact ⟨k3, Or.inr (Or.inr (Or.inr ⟨rfl, rfl⟩))⟩
 ·exact absurd h1 (by decide)
/-- the count of v -/
theorem own_cnt (v : Int32) : (cn k0 k1 k2 k3 v < 1 ↔ ∀ j k, Kat k0 k1 k2 k3 j k → ¬ k = v) ∧ (cn k0 k1 k2 k3 v = 0 ↔ ∀ j k, Kat k0 k1 k2 k3 j k → ¬ k = v) ∧ (0 < cn k0 k1 k2 k3 v ↔ ¬ ∀ j k, Kat k0 k1 k2 k3 j k → ¬ k = v) ∧ (¬ 1 < cn k0 k1 k2 k3 v ↔ ∀ i j k k', Kat k0 k1 k2 k3 i k → Kat k0 k1 k2 k3 j k' → k = v → k' = v → i = j) := by
 have e : (∀ j k, Kat k0 k1 k2 k3 j k → ¬ k = v) ↔ (¬ k0 = v ∧ ¬ k1 = v ∧ ¬ k2 = v ∧ ¬ k3 = v) := by
  constructor
  ·intro h
   exact ⟨h 0 _ (Or.inl ⟨rfl, rfl⟩), h 1 _ (Or.inr (Or.inl ⟨rfl, rfl⟩)), h 2 _ (Or.inr (Or.inr (Or.inl ⟨rfl, rfl⟩))), h 3 _ (Or.inr (Or.inr (Or.inr ⟨rfl, rfl⟩)))⟩
  ·rintro ⟨h0, h1, h2, h3⟩ j k (⟨-, rfl⟩ | ⟨-, rfl⟩ | ⟨-, rfl⟩ | ⟨-, rfl⟩) <;> assumption
 have e2 : (∀ i j k k', Kat k0 k1 k2 k3 i k → Kat k0 k1 k2 k3 j k' → k = v → k' = v → i = j) ↔ (¬ (k0 = v ∧ k1 = v) ∧ ¬ (k0 = v ∧ k2 = v) ∧ ¬ (k0 = v ∧ k3 = v) ∧ ¬ (k1 = v ∧ k2 = v) ∧ ¬ (k1 = v ∧ k3 = v) ∧ ¬ (k2 = v ∧ k3 = v)) := by
  constructor
  ·intro h
   refine ⟨fun z => ?_, fun z => ?_, fun z => ?_, fun z => ?_, fun z => ?_, fun z => ?_⟩
   ·exact absurd (h 0 1 _ _ (Or.inl ⟨rfl, rfl⟩) (Or.inr (Or.inl ⟨rfl, rfl⟩)) z.1 z.2) (by decide)
   ·exact absurd (h 0 2 _ _ (Or.inl ⟨rfl, rfl⟩) (Or.inr (Or.inr (Or.inl ⟨rfl, rfl⟩))) z.1 z.2) (by decide)
   ·exact absurd (h 0 3 _ _ (Or.inl ⟨rfl, rfl⟩) (Or.inr (Or.inr (Or.inr ⟨rfl, rfl⟩))) z.1 z.2) (by decide)
   ·exact absurd (h 1 2 _ _ (Or.inr (Or.inl ⟨rfl, rfl⟩)) (Or.inr (Or.inr (Or.inl ⟨rfl, rfl⟩))) z.1 z.2) (by decide)
   ·exact absurd (h 1 3 _ _ (Or.inr (Or.inl ⟨rfl, rfl⟩)) (Or.inr (Or.inr (Or.inr ⟨rfl, rfl⟩))) z.1 z.2) (by decide)
   ·exact absurd (h 2 3 _ _ (Or.inr (Or.inr (Or.inl ⟨rfl, rfl⟩))) (Or.inr (Or.inr (Or.inr ⟨rfl, rfl⟩))) z.1 z.2) (by decide)
  ·rintro ⟨a1, a2, a3, a4, a5, a6⟩ i j k k' (⟨rfl, rfl⟩ | ⟨rfl, rfl⟩ | ⟨rfl, rfl⟩ | ⟨rfl, rfl⟩) (⟨rfl, rfl⟩ | ⟨rfl, rfl⟩ | ⟨rfl, rfl⟩ | ⟨rfl, rfl⟩) h1 h2 <;> first | rfl | exact (a1 ⟨h1, h2⟩).elim | exact (a1 ⟨h2, h1⟩).elim | exact (a2 ⟨h1, h2⟩).elim | exact (a2 ⟨h2, h1⟩).elim | exact (a3 ⟨h1, h2⟩).elim | exact (a3 ⟨h2, h1⟩).elim | exact (a4 ⟨h1, h2⟩).elim | exact (a4 ⟨h2, h1⟩).elim | exact (a5 ⟨h1, h2⟩).elim | exact (a5 ⟨h2, h1⟩).elim | exact (a6 ⟨h1, h2⟩).elim | exact (a6 ⟨h2, h1⟩).elim
 rw [e, e2]
 unfold cn
 by_cases q0 : k0 = v <;> by_cases q1 : k1 = v <;> by_cases q2 : k2 = v <;> by_cases q3 : k3 = v <;> simp only [q0, q1, q2, q3, if_true, if_false, not_true, not_false_iff, and_true, and_false, true_and, iff_true, iff_false] <;> decide
/-- in the ranges -/
theorem own_rg (hM : Mk bs n c0 c1 c2 c3) (hst : Stt bs n st) : 0 ≤ st.toInt ∧ st.toInt ≤ n.toInt ∧ n.toInt ≤ 4 := ⟨(own_stle hst hM.2.1).1, (own_stle hst hM.2.1).2, hM.2.2.1⟩
theorem own_46 {b : Int32} (h : b = 46) : ¬ dig (chr b) := by
 rw [h]
 unfold dig
 decide
theorem own_any (hM : Mk bs n c0 c1 c2 c3) (hS1 : S0 = st) (hst : Stt bs n st) (hK : KK n S0 c0 c1 c2 c3 k0 k1 k2 k3) (h1 : ¬ cn k0 k1 k2 k3 0 < 1) : ∃ j : Int32, st.toInt ≤ j.toInt ∧ j.toInt < n.toInt ∧ dig (chr (own_at bs j)) := by
 subst hS1
 rw [(own_cnt 0).1] at h1
 refine Classical.byContradiction fun h => h1 fun j k hk e => ?_
 subst e
 rcases own_kat hM hK hk with ⟨z, -⟩ | ⟨hr, ⟨z, -⟩ | ⟨-, -, z⟩ | ⟨-, -, z⟩⟩
 ·exact absurd z (by decide)
 ·exact h ⟨j, hr.1, hr.2, z⟩
 ·exact absurd z (by decide)
 ·exact absurd z (by decide)
theorem own_all (hM : Mk bs n c0 c1 c2 c3) (hS1 : S0 = st) (hst : Stt bs n st) (hK : KK n S0 c0 c1 c2 c3 k0 k1 k2 k3) (h2 : cn k0 k1 k2 k3 2 = 0) (j : Int32) (ha : st.toInt ≤ j.toInt) (hb : j.toInt < n.toInt) : dig (chr (own_at bs j)) ∨ own_at bs j = 46 := by
 have hr := own_rg hM hst
 subst hS1
 rw [(own_cnt 2).2.1] at h2
 obtain ⟨k, hk⟩ := own_j4 (k0 := k0) (k1 := k1) (k2 := k2) (k3 := k3) (j := j) (by omega) (by omega)
 rcases own_kat hM hK hk with ⟨-, z⟩ | ⟨-, ⟨z, -⟩ | ⟨-, z, -⟩ | ⟨-, -, z⟩⟩
 ·exact absurd ⟨ha, hb⟩ z
 ·exact Or.inl z
 ·exact Or.inr z
 ·exact absurd z (h2 _ _ hk)
/-- a dot's k is 1 -/
theorem own_dot (hM : Mk bs n c0 c1 c2 c3) (hS1 : S0 = st) (hst : Stt bs n st) (hK : KK n S0 c0 c1 c2 c3 k0 k1 k2 k3) (j : Int32) (ha : st.toInt ≤ j.toInt) (hb : j.toInt < n.toInt) (h : own_at bs j = 46) : Kat k0 k1 k2 k3 j 1 := by
 have hr := own_rg hM hst
 subst hS1
 obtain ⟨k, hk⟩ := own_j4 (k0 := k0) (k1 := k1) (k2 := k2) (k3 := k3) (j := j) (by omega) (by omega)
 rcases own_kat hM hK hk with ⟨-, z⟩ | ⟨-, ⟨-, z, -⟩ | ⟨-, -, z⟩ | ⟨-, z, -⟩⟩
 ·exact absurd ⟨ha, hb⟩ z
 ·exact absurd h z
 ·rw [← z]
  exact hk
 ·exact absurd h z
theorem own_lt0 {x : Int32} : x < 0 ↔ x.toInt < 0 := Int32.lt_iff_toInt_lt
theorem own_Eb (hM : Mk bs n c0 c1 c2 c3) (hS1 : S0 = st) (hst : Stt bs n st) (hK : KK n S0 c0 c1 c2 c3 k0 k1 k2 k3) (h1 : ¬ cn k0 k1 k2 k3 0 < 1) (h2 : cn k0 k1 k2 k3 2 = 0) (hpa : Pat bs n pt st pa) (hPE : (pa < 0 ∧ (n.toInt - st.toInt = 0 ∨ ¬ AllD bs st.toInt n.toInt)) ∨ (¬ pa < 0 ∧ (n.toInt - st.toInt - 1 = 0 ∨ ¬ AllD bs st.toInt pa.toInt ∨ ¬ AllD bs (pa.toInt + 1) n.toInt)))
  (hu : ∀ i j : Int32, st.toInt ≤ i.toInt → i.toInt < n.toInt → own_at bs i = 46 → st.toInt ≤ j.toInt → j.toInt < n.toInt → own_at bs j = 46 → i = j) (hz : pt = 0 → ∀ j : Int32, st.toInt ≤ j.toInt → j.toInt < n.toInt → ¬ own_at bs j = 46) : False := by
 obtain ⟨j, ja, jb, jd⟩ := own_any hM hS1 hst hK h1
 have hall := own_all hM hS1 hst hK h2
 rcases hPE with ⟨hp, h⟩ | ⟨hp, h⟩
 ·have hno : ∀ j : Int32, st.toInt ≤ j.toInt → j.toInt < n.toInt → ¬ own_at bs j = 46 := by
   rcases hpa with ⟨-, ⟨-, q⟩ | ⟨q, -⟩⟩ | ⟨q, -⟩
   ·exact q
   ·have := own_stle hst hM.2.1
    rw [own_lt0] at hp
    omega
   ·exact hz q
  rcases h with h | h
  ·omega
  ·exact h fun i h1 h2 => (hall i h1 h2).resolve_right (hno i h1 h2)
 ·have hle := own_pale hst hM.2.1 hpa hp
  have hdot : own_at bs pa = 46 := by
   rcases hpa with ⟨-, ⟨rfl, -⟩ | ⟨-, -, q, -⟩⟩ | ⟨-, rfl⟩
   ·exact absurd own_neg1 hp
   ·exact q
   ·exact absurd own_neg1 hp
  have hoth : ∀ i : Int32, st.toInt ≤ i.toInt → i.toInt < n.toInt → i.toInt ≠ pa.toInt → dig (chr (own_at bs i)) := fun i h1 h2 h3 => (hall i h1 h2).resolve_right fun z => h3 (congrArg Int32.toInt (hu i pa h1 h2 z hle.1.2 hle.2 hdot))
  rcases h with h | h | h
  ·have : j = pa := Int32.toInt_inj.mp (by omega)
   rw [this] at jd
   exact own_46 hdot jd
  ·exact h fun i h1 h2 => hoth i h1 (by omega) (by omega)
  ·exact h fun i h1 h2 => hoth i (by omega) h2 (by omega)
theorem own_E0 (hM : Mk bs n c0 c1 c2 c3) (hS1 : S0 = st) (hK : KK n S0 c0 c1 c2 c3 k0 k1 k2 k3) (hdg : dg = cn k0 k1 k2 k3 0) (hdt : dt = cn k0 k1 k2 k3 1) (hot : ot = cn k0 k1 k2 k3 2) (hst : Stt bs n st) (hpa : Pat bs n pt st pa) (hPE : (pa < 0 ∧ (n.toInt - st.toInt = 0 ∨ ¬ AllD bs st.toInt n.toInt)) ∨ (¬ pa < 0 ∧ (n.toInt - st.toInt - 1 = 0 ∨ ¬ AllD bs st.toInt pa.toInt ∨ ¬ AllD bs (pa.toInt + 1) n.toInt))) (h1 : ¬ dg < 1) (h2 : ot = 0) (h3 : pt = 0) : 0 < dt := by
 subst hdg hdt hot
 rw [(own_cnt 1).2.2.1]
 intro h
 have hno : ∀ j : Int32, st.toInt ≤ j.toInt → j.toInt < n.toInt → ¬ own_at bs j = 46 := fun j ha hb z => h _ _ (own_dot hM hS1 hst hK j ha hb z) rfl
 exact own_Eb hM hS1 hst hK h1 h2 hpa hPE (fun i j a1 a2 a3 _ _ _ => absurd a3 (hno i a1 a2)) fun _ => hno
theorem own_E1 (hM : Mk bs n c0 c1 c2 c3) (hS1 : S0 = st) (hK : KK n S0 c0 c1 c2 c3 k0 k1 k2 k3) (hdg : dg = cn k0 k1 k2 k3 0) (hdt : dt = cn k0 k1 k2 k3 1) (hot : ot = cn k0 k1 k2 k3 2) (hst : Stt bs n st) (hpa : Pat bs n pt st pa) (hPE : (pa < 0 ∧ (n.toInt - st.toInt = 0 ∨ ¬ AllD bs st.toInt n.toInt)) ∨ (¬ pa < 0 ∧ (n.toInt - st.toInt - 1 = 0 ∨ ¬ AllD bs st.toInt pa.toInt ∨ ¬ AllD bs (pa.toInt + 1) n.toInt))) (h1 : ¬ dg < 1) (h2 : ot = 0) (h3 : ¬ pt = 0) : 1 < dt := by
 subst hdg hdt hot
 refine Classical.byContradiction fun h => ?_
 rw [(own_cnt 1).2.2.2] at h
 exact own_Eb hM hS1 hst hK h1 h2 hpa hPE (fun i j a1 a2 a3 b1 b2 b3 => h i j _ _ (own_dot hM hS1 hst hK i a1 a2 a3) (own_dot hM hS1 hst hK j b1 b2 b3) rfl rfl) fun z => absurd z h3
/-- where parse gave a numeral -/
theorem own_pn (hM : Mk bs n c0 c1 c2 c3) (hPN : PN bs n pt st pa ie fi fa la) : 0 ≤ st.toInt ∧ st.toInt ≤ fi.toInt ∧ fi.toInt ≤ ie.toInt ∧ ie.toInt ≤ n.toInt ∧ n.toInt ≤ 4 ∧ ((pa.toInt < 0 ∧ ie.toInt = n.toInt ∧ fa.toInt = 0 ∧ la.toInt = 0) ∨ (0 ≤ pa.toInt ∧ pa.toInt < n.toInt ∧ ie.toInt = pa.toInt ∧ fa.toInt = pa.toInt + 1 ∧ fa.toInt ≤ la.toInt ∧ la.toInt ≤ n.toInt)) := by
 obtain ⟨hst, hpa, hf, h⟩ := hPN
 have hr := own_rg hM hst
 have h1 := hf.1
 have h2 := hf.2.1
 rcases h with ⟨hp, rfl, rfl, rfl, -⟩ | ⟨hp, rfl, rfl, -, -, -, hl⟩
 ·rw [own_lt0] at hp
  exact ⟨hr.1, h1, h2, Int.le_refl _, hr.2.2, Or.inl ⟨hp, rfl, rfl, rfl⟩⟩
 ·have hle := own_pale hst hM.2.1 hpa hp
  have e := own_p1 (Int.le_trans hle.1.1 hle.1.2) hle.2
  rw [own_lt0] at hp
  refine ⟨hr.1, h1, h2, Int.le_of_lt hle.2, hr.2.2, Or.inr ⟨by omega, hle.2, rfl, e, ?_, hl.2.1⟩⟩
  rw [e]
  exact hl.1
theorem own_pd (hM : Mk bs n c0 c1 c2 c3) (hPN : PN bs n pt st pa ie fi fa la) (j : Int32) (ha : st.toInt ≤ j.toInt) (hb : j.toInt < n.toInt) (h : j ≠ pa) : dig (chr (own_at bs j)) := by
 have hr := own_pn hM hPN
 obtain ⟨hst, hpa, hf, q⟩ := hPN
 rcases q with ⟨hp, -, -, -, q, -⟩ | ⟨hp, -, -, q1, q2, -, hl⟩
 ·exact q j ha hb
 ·have hn : j.toInt ≠ pa.toInt := fun z => h (Int32.toInt_inj.mp z)
  by_cases hj : j.toInt < pa.toInt
  ·exact q1 j ha hj
  ·exact q2 j (by omega) hb
theorem own_pdot (hPN : PN bs n pt st pa ie fi fa la) (h : ¬ pa < 0) : own_at bs pa = 46 := by
 obtain ⟨hst, hpa, -⟩ := hPN
 rcases hpa with ⟨-, ⟨rfl, -⟩ | ⟨-, -, q, -⟩⟩ | ⟨-, rfl⟩
 ·exact absurd own_neg1 h
 ·exact q
 ·exact absurd own_neg1 h
theorem own_pj (hM : Mk bs n c0 c1 c2 c3) (hS1 : S0 = st) (hK : KK n S0 c0 c1 c2 c3 k0 k1 k2 k3) (hPN : PN bs n pt st pa ie fi fa la) {j k : Int32} (hk : Kat k0 k1 k2 k3 j k) (e : k = 1) : j = pa := by
 subst hS1 e
 rcases own_kat hM hK hk with ⟨z, -⟩ | ⟨hr, ⟨-, -, z⟩ | ⟨z, -⟩ | ⟨-, -, z⟩⟩
 ·exact absurd z (by decide)
 ·exact absurd z (by decide)
 ·exact Classical.byContradiction fun q => z (own_pd hM hPN j hr.1 hr.2 q)
 ·exact absurd z (by decide)
theorem own_N (hM : Mk bs n c0 c1 c2 c3) (hS1 : S0 = st) (hK : KK n S0 c0 c1 c2 c3 k0 k1 k2 k3) (hdg : dg = cn k0 k1 k2 k3 0) (hdt : dt = cn k0 k1 k2 k3 1) (hot : ot = cn k0 k1 k2 k3 2) (hPN : PN bs n pt st pa ie fi fa la) : ¬ dg < 1 ∧ ot = 0 ∧ (pt = 0 → ¬ 0 < dt) ∧ ¬ 1 < dt := by
 subst hdg hdt hot
 have hr := own_pn hM hPN
 refine ⟨?_, ?_, ?_, ?_⟩
 ·rw [(own_cnt 0).1]
  intro h
  obtain ⟨j, ja, jb, jc⟩ : ∃ j : Int32, st.toInt ≤ j.toInt ∧ j.toInt < n.toInt ∧ j ≠ pa := by
   rcases hPN.2.2.2 with ⟨hp, -, -, -, -, q⟩ | ⟨hp, -, -, -, -, q, -⟩
   ·rw [own_lt0] at hp
    exact ⟨st, Int.le_refl _, by omega, fun z => by rw [z] at hr; omega⟩
   ·rw [own_lt0] at hp
    by_cases hs : st = pa
    ·have e := own_p1 (pa := pa) (n := n) (by omega) (by omega)
     refine ⟨pa + 1, by rw [hs]; omega, by rw [hs] at q; omega, fun z => ?_⟩
     have := congrArg Int32.toInt z
     omega
    ·have hn : st.toInt ≠ pa.toInt := fun z => hs (Int32.toInt_inj.mp z)
     exact ⟨st, Int.le_refl _, by omega, hs⟩
  have hd := own_pd hM hPN j ja jb jc
  obtain ⟨k, hk⟩ := own_j4 (k0 := k0) (k1 := k1) (k2 := k2) (k3 := k3) (j := j) (by omega) (by omega)
  rcases own_kat hM hK hk with ⟨-, z⟩ | ⟨-, ⟨-, -, z⟩ | ⟨z, -⟩ | ⟨z, -⟩⟩
  ·rw [hS1] at z
   exact z ⟨ja, jb⟩
  ·exact h _ _ hk z
  ·exact z hd
  ·exact z hd
 ·rw [(own_cnt 2).2.1]
  intro j k hk e
  subst e
  rcases own_kat hM hK hk with ⟨z, -⟩ | ⟨hq, ⟨-, -, z⟩ | ⟨-, -, z⟩ | ⟨z, y, -⟩⟩
  ·exact absurd z (by decide)
  ·exact absurd z (by decide)
  ·exact absurd z (by decide)
  ·rw [hS1] at hq
   by_cases hj : j = pa
   ·rw [hj] at y hq
    exact y (own_pdot hPN (by rw [own_lt0]; omega))
   ·exact z (own_pd hM hPN j hq.1 hq.2 hj)
 ·intro hpt
  rw [(own_cnt 1).2.2.1]
  refine fun h => h fun j k hk e => ?_
  have ej := own_pj hM hS1 hK hPN hk e
  have hneg : pa = -1 := by
   rcases hPN.2.1 with ⟨z, -⟩ | ⟨-, z⟩
   ·exact absurd hpt z
   ·exact z
  subst e
  rcases own_kat hM hK hk with ⟨z, -⟩ | ⟨hq, -⟩
  ·exact absurd z (by decide)
  ·rw [hS1, ej, hneg] at hq
   have := hq.1
   rw [show (-1 : Int32).toInt = -1 from rfl] at this
   omega
 ·rw [(own_cnt 1).2.2.2]
  intro i j k k' hk hk' e e'
  rw [own_pj hM hS1 hK hPN hk e, own_pj hM hS1 hK hPN hk' e']
theorem own_P0 (hM : Mk bs n c0 c1 c2 c3) (hS1 : S0 = st) (hK : KK n S0 c0 c1 c2 c3 k0 k1 k2 k3) (hPN : PN bs n pt st pa ie fi fa la) (h : k0 = 1) : (0 : Int32) = pa := own_pj hM hS1 hK hPN (Or.inl ⟨rfl, rfl⟩) h
theorem own_P1 (hM : Mk bs n c0 c1 c2 c3) (hS1 : S0 = st) (hK : KK n S0 c0 c1 c2 c3 k0 k1 k2 k3) (hPN : PN bs n pt st pa ie fi fa la) (h : k1 = 1) : (1 : Int32) = pa := own_pj hM hS1 hK hPN (Or.inr (Or.inl ⟨rfl, rfl⟩)) h
theorem own_P2 (hM : Mk bs n c0 c1 c2 c3) (hS1 : S0 = st) (hK : KK n S0 c0 c1 c2 c3 k0 k1 k2 k3) (hPN : PN bs n pt st pa ie fi fa la) (h : k2 = 1) : (2 : Int32) = pa := own_pj hM hS1 hK hPN (Or.inr (Or.inr (Or.inl ⟨rfl, rfl⟩))) h
theorem own_P3 (hM : Mk bs n c0 c1 c2 c3) (hS1 : S0 = st) (hK : KK n S0 c0 c1 c2 c3 k0 k1 k2 k3) (hPN : PN bs n pt st pa ie fi fa la) (h : k3 = 1) : (3 : Int32) = pa := own_pj hM hS1 hK hPN (Or.inr (Or.inr (Or.inr ⟨rfl, rfl⟩))) h
theorem own_Pm (hM : Mk bs n c0 c1 c2 c3) (hS1 : S0 = st) (hK : KK n S0 c0 c1 c2 c3 k0 k1 k2 k3) (hPN : PN bs n pt st pa ie fi fa la) (h0 : ¬ k0 = 1) (h1 : ¬ k1 = 1) (h2 : ¬ k2 = 1) (h3 : ¬ k3 = 1) : (-1 : Int32) = pa := by
 have hr := own_pn hM hPN
 by_cases hp : pa < 0
 ·rcases hPN.2.1 with ⟨-, ⟨z, -⟩ | ⟨z, -⟩⟩ | ⟨-, z⟩
  ·exact z.symm
  ·rw [own_lt0] at hp
   omega
  ·exact z.symm
 ·have hd := own_pdot hPN hp
  rw [own_lt0] at hp
  rcases own_dot hM hS1 hPN.1 hK pa (by omega) (by omega) hd with ⟨-, z⟩ | ⟨-, z⟩ | ⟨-, z⟩ | ⟨-, z⟩
  ·exact absurd z.symm h0
  ·exact absurd z.symm h1
  ·exact absurd z.symm h2
  ·exact absurd z.symm h3
theorem own_ie1 (hPN : PN bs n pt st pa ie fi fa la) (hP : P = pa) (h : P < 0) : n = ie := by
 rcases hPN.2.2.2 with ⟨-, z, -⟩ | ⟨z, -⟩
 ·exact z.symm
 ·rw [hP] at h
  exact absurd h z
theorem own_ie0 (hPN : PN bs n pt st pa ie fi fa la) (hP : P = pa) (h : ¬ P < 0) : P = ie := by
 rcases hPN.2.2.2 with ⟨z, -⟩ | ⟨-, z, -⟩
 ·rw [hP] at h
  exact absurd z h
 ·rw [hP, z]
theorem Bit.cg {x : Int32} {p q : Prop} (h : Bit x p) (e : p ↔ q) : Bit x q := by
 rcases h with ⟨a, b⟩ | ⟨a, b⟩
 ·exact Or.inl ⟨a, e.mp b⟩
 ·exact Or.inr ⟨a, fun z => b (e.mpr z)⟩
theorem Bit.and1 {x : Int32} {p : Prop} (h : Bit x p) : Bit (x &&& 1) p := by
 rcases h with ⟨rfl, b⟩ | ⟨rfl, b⟩
 ·exact Or.inl ⟨by decide, b⟩
 ·exact Or.inr ⟨by decide, b⟩
theorem own_bi (hPN : PN bs n pt st pa ie fi fa la) (hM : Mk bs n c0 c1 c2 c3) : Bit 0 (fi.toInt ≤ -1 ∧ fi.toInt < ie.toInt) := Or.inr ⟨rfl, fun z => by have := own_pn hM hPN; omega⟩
theorem own_bf (hPN : PN bs n pt st pa ie fi fa la) (hM : Mk bs n c0 c1 c2 c3) : Bit 0 (fa.toInt < la.toInt ∧ 4 < la.toInt) := Or.inr ⟨rfl, fun z => by have := own_pn hM hPN; omega⟩
theorem own_imS (hM : Mk bs n c0 c1 c2 c3) (hPN : PN bs n pt st pa ie fi fa la) (hS1 : S0 = st) (hIE : IE = ie) (j : Int32) (jj : Int) (hj : j.toInt = jj) {s : Int32} {kk : Int} (hs : Bit s (fi.toInt ≤ kk ∧ fi.toInt < ie.toInt)) (h : j < S0 ∨ ¬ j < IE) (hk : kk + 1 = jj := by decide) : Bit 0 (fi.toInt ≤ jj ∧ jj < ie.toInt) ∧ Bit s (fi.toInt ≤ jj ∧ fi.toInt < ie.toInt) := by
 have hr := own_pn hM hPN
 subst hS1 hIE
 rw [Int32.lt_iff_toInt_lt, Int32.lt_iff_toInt_lt] at h
 exact ⟨Or.inr ⟨rfl, fun z => by omega⟩, hs.cg ⟨fun z => by omega, fun z => by omega⟩⟩
theorem own_im0 (hM : Mk bs n c0 c1 c2 c3) (hPN : PN bs n pt st pa ie fi fa la) (hS1 : S0 = st) (hIE : IE = ie) (j : Int32) (jj : Int) (hj : j.toInt = jj) {s c : Int32} {kk : Int} (hs : Bit s (fi.toInt ≤ kk ∧ fi.toInt < ie.toInt)) (h1 : ¬ j < S0) (h2 : j < IE) (hc : j.toInt < n.toInt → Ch (own_at bs j) c) (h3 : c = 48) (hk : kk + 1 = jj := by decide) : Bit (s &&& 1) (fi.toInt ≤ jj ∧ jj < ie.toInt) ∧ Bit s (fi.toInt ≤ jj ∧ fi.toInt < ie.toInt) := by
 have hr := own_pn hM hPN
 subst hS1 hIE
 rw [Int32.lt_iff_toInt_lt] at h1 h2
 have hf : ¬ fi.toInt = j.toInt := fun z => by
  have e := Int32.toInt_inj.mp z
  have q := hPN.2.2.1.2.2.2 (by omega)
  rw [e, (hc (by omega)).1] at q
  exact q h3
 exact ⟨hs.and1.cg ⟨fun z => by omega, fun z => by omega⟩, hs.cg ⟨fun z => by omega, fun z => by omega⟩⟩
theorem own_im1' (hM : Mk bs n c0 c1 c2 c3) (hPN : PN bs n pt st pa ie fi fa la) (hS1 : S0 = st) (hIE : IE = ie) (j : Int32) (jj : Int) (hj : j.toInt = jj) {s c : Int32} {kk : Int} (hs : Bit s (fi.toInt ≤ kk ∧ fi.toInt < ie.toInt)) (h1 : ¬ j < S0) (h2 : j < IE) (hc : j.toInt < n.toInt → Ch (own_at bs j) c) (h3 : ¬ c = 48) : Bit 1 (fi.toInt ≤ jj ∧ jj < ie.toInt) ∧ Bit 1 (fi.toInt ≤ jj ∧ fi.toInt < ie.toInt) := by
 have hr := own_pn hM hPN
 subst hS1 hIE
 rw [Int32.lt_iff_toInt_lt] at h1 h2
 have hf : ¬ j.toInt < fi.toInt := fun z => by
  have q := hPN.2.2.1.2.2.1 j (by omega) z
  rw [(hc (by omega)).1] at q
  exact h3 q
 exact ⟨Or.inl ⟨rfl, by omega⟩, Or.inl ⟨rfl, by omega⟩⟩
theorem own_fmS (hM : Mk bs n c0 c1 c2 c3) (hPN : PN bs n pt st pa ie fi fa la) (hP : P = pa) (j : Int32) (jj : Int) (hj : j.toInt = jj) {t : Int32} {kk : Int} (ht : Bit t (fa.toInt < la.toInt ∧ kk < la.toInt)) (h : P < 0 ∨ ¬ P < j ∨ ¬ j < n) (hk : kk = jj + 1 := by decide) : Bit 0 (fa.toInt ≤ jj ∧ jj < la.toInt) ∧ Bit t (fa.toInt < la.toInt ∧ jj < la.toInt) := by
 have hr := own_pn hM hPN
 subst hP
 rw [own_lt0, Int32.lt_iff_toInt_lt, Int32.lt_iff_toInt_lt] at h
 exact ⟨Or.inr ⟨rfl, fun z => by omega⟩, ht.cg ⟨fun z => by omega, fun z => by omega⟩⟩
theorem own_lst (hPN : PN bs n pt st pa ie fi fa la) (h : ¬ pa < 0) : Lst bs (pa.toInt + 1) n.toInt la := by
 rcases hPN.2.2.2 with ⟨z, -⟩ | ⟨-, -, -, -, -, -, z⟩
 ·exact absurd z h
 ·exact z
theorem own_fm0 (hM : Mk bs n c0 c1 c2 c3) (hPN : PN bs n pt st pa ie fi fa la) (hP : P = pa) (j : Int32) (jj : Int) (hj : j.toInt = jj) {t c : Int32} {kk : Int} (ht : Bit t (fa.toInt < la.toInt ∧ kk < la.toInt)) (h0 : ¬ P < 0) (h1 : P < j) (h2 : j < n) (hc : j.toInt < n.toInt → Ch (own_at bs j) c) (h3 : c = 48) (hk : kk = jj + 1 := by decide) : Bit (t &&& 1) (fa.toInt ≤ jj ∧ jj < la.toInt) ∧ Bit t (fa.toInt < la.toInt ∧ jj < la.toInt) := by
 have hr := own_pn hM hPN
 subst hP
 have hl := own_lst hPN h0
 rw [own_lt0] at h0
 rw [Int32.lt_iff_toInt_lt] at h1 h2
 have hf : ¬ la.toInt = j.toInt + 1 := fun z => by
  have q := hl.2.2.2 (by omega)
  have e : (la - 1) = j := Int32.toInt_inj.mp (by rw [own_im1 (by omega)]; omega)
  rw [e, (hc h2).1] at q
  exact q h3
 exact ⟨ht.and1.cg ⟨fun z => by omega, fun z => by omega⟩, ht.cg ⟨fun z => by omega, fun z => by omega⟩⟩
theorem own_fm1 (hM : Mk bs n c0 c1 c2 c3) (hPN : PN bs n pt st pa ie fi fa la) (hP : P = pa) (j : Int32) (jj : Int) (hj : j.toInt = jj) {t c : Int32} {kk : Int} (ht : Bit t (fa.toInt < la.toInt ∧ kk < la.toInt)) (h0 : ¬ P < 0) (h1 : P < j) (h2 : j < n) (hc : j.toInt < n.toInt → Ch (own_at bs j) c) (h3 : ¬ c = 48) : Bit 1 (fa.toInt ≤ jj ∧ jj < la.toInt) ∧ Bit 1 (fa.toInt < la.toInt ∧ jj < la.toInt) := by
 have hr := own_pn hM hPN
 subst hP
 have hl := own_lst hPN h0
 rw [own_lt0] at h0
 rw [Int32.lt_iff_toInt_lt] at h1 h2
 have hf : ¬ la.toInt ≤ j.toInt := fun z => by
  have q := hl.2.2.1 j z h2
  rw [(hc h2).1] at q
  exact h3 q
 exact ⟨Or.inl ⟨rfl, by omega⟩, Or.inl ⟨rfl, by omega⟩⟩
theorem own_rI (hM : Mk bs n c0 c1 c2 c3) (hPN : PN bs n pt st pa ie fi fa la) : 0 ≤ fi.toInt ∧ fi.toInt ≤ ie.toInt ∧ ie.toInt ≤ 4 := by
 have := own_pn hM hPN
 omega
theorem own_rF (hM : Mk bs n c0 c1 c2 c3) (hPN : PN bs n pt st pa ie fi fa la) : 0 ≤ fa.toInt ∧ fa.toInt ≤ la.toInt ∧ la.toInt ≤ 4 := by
 have := own_pn hM hPN
 omega
theorem Bit.is {x : Int32} {p : Prop} (h : Bit x p) : (p → x = 1) ∧ (¬ p → x = 0) := by
 rcases h with ⟨a, b⟩ | ⟨a, b⟩
 ·exact ⟨fun _ => a, fun z => absurd b z⟩
 ·exact ⟨fun z => absurd z b, fun _ => a⟩
theorem own_col (h0 : 0 ≤ c0.toInt ∧ c0.toInt ≤ 255) (h1 : 0 ≤ c1.toInt ∧ c1.toInt ≤ 255) (h2 : 0 ≤ c2.toInt ∧ c2.toInt ≤ 255) (h3 : 0 ≤ c3.toInt ∧ c3.toInt ≤ 255) {a b : Int} (hr : 0 ≤ a ∧ a ≤ b ∧ b ≤ 4) {x0 x1 x2 x3 : Int32} (b0 : Bit x0 (a ≤ 0 ∧ 0 < b)) (b1 : Bit x1 (a ≤ 1 ∧ 1 < b)) (b2 : Bit x2 (a ≤ 2 ∧ 2 < b)) (b3 : Bit x3 (a ≤ 3 ∧ 3 < b)) : Col c0 c1 c2 c3 a b (f33 x0 x1 x2 x3) (f33_a3_0 c0 c1 c2 c3 x0 x1 x2 x3) (f33_a3_1 c1 c2 c3 x0 x1 x2 x3) (f33_a3_2 c2 c3 x0 x1 x2 x3) (f33_a3_3 c3 x0 x1 x2 x3) := by
 have b0 := b0.is
 have b1 := b1.is
 have b2 := b2.is
 have b3 := b3.is
 have ha : a = 0 ∨ a = 1 ∨ a = 2 ∨ a = 3 ∨ a = 4 := by omega
 have hb : b = 0 ∨ b = 1 ∨ b = 2 ∨ b = 3 ∨ b = 4 := by omega
 rcases ha with rfl | rfl | rfl | rfl | rfl <;> rcases hb with rfl | rfl | rfl | rfl | rfl
 all_goals first | (exfalso; omega; done) | skip
 all_goals
  simp at b0 b1 b2 b3
  subst b0 b1 b2 b3
  refine ⟨by decide, ?_, ?_, ?_, ?_⟩
  all_goals
   intro z
   first | (exfalso; omega; done) | exact own_nar h0 | exact own_nar h1 | exact own_nar h2 | exact own_nar h3
theorem own_sla {L : List Int32} {p k i : Int32} {q : Int32} (hp : 0 ≤ p.toInt) (h0 : 0 ≤ i.toInt) (h1 : i.toInt < k.toInt) (hq : q.toInt = p.toInt + i.toInt) : own_at (slice L p k) i = own_at L q := by
 unfold own_at slice
 have e : q.toNatClampNeg = p.toNatClampNeg + i.toNatClampNeg := by
  simp only [Int32.toNatClampNeg]
  omega
 have l : i.toNatClampNeg < k.toNatClampNeg := by
  simp only [Int32.toNatClampNeg]
  omega
 rw [e]
 simp [List.getD, l]
theorem own_at4 (hM : Mk bs n c0 c1 c2 c3) {j : Int32} (h0 : 0 ≤ j.toInt) (h1 : j.toInt < n.toInt) : chr (own_at bs j) = sel c0 c1 c2 c3 j.toInt := by
 have := hM.2.2.1
 rcases own_n04 (n := j) ⟨h0, by omega⟩ with rfl | rfl | rfl | rfl | rfl
 ·exact (own_ch0 hM h1).1
 ·exact (own_ch1 hM h1).1
 ·exact (own_ch2 hM h1).1
 ·exact (own_ch3 hM h1).1
 ·rw [show (4 : Int32).toInt = 4 from rfl] at h1
  omega
theorem own_sm (hM : Mk bs n c0 c1 c2 c3) {a b k o0 o1 o2 o3 : Int32} (h0 : 0 ≤ a.toInt ∧ a.toInt ≤ b.toInt) (h1 : b.toInt ≤ n.toInt) (hO : Col c0 c1 c2 c3 a.toInt b.toInt k o0 o1 o2 o3) : ¬ f37 k (slice bs a (b - a)) (b - a) o0 o1 o2 o3 = 0 := by
 have e := own_sub h0
 have hk : (b - a) = k := Int32.toInt_inj.mp (by rw [e, hO.1])
 have hch : ∀ i : Int32, 0 ≤ i.toInt → i.toInt < b.toInt - a.toInt → chr (own_at (slice bs a (b - a)) i) = sel c0 c1 c2 c3 (a.toInt + i.toInt) := fun i hi hj => by
  have := hM.2.2.1
  have eq : (a + i).toInt = a.toInt + i.toInt := by
   rw [Int32.toInt_add, Int.bmod_eq_of_le (by omega) (by omega)]
  rw [own_sla (q := a + i) h0.1 hi (by rw [e]; exact hj) eq, own_at4 hM (by omega) (by omega), eq]
 obtain ⟨-, p0, p1, p2, p3⟩ := hO
 have g0 : (0 : Int32) < k → chr (own_at (slice bs a (b - a)) (0 : Int32)) = o0 := fun z => by
  rw [← hk, Int32.lt_iff_toInt_lt, e, show (0 : Int32).toInt = 0 from rfl] at z
  rw [hch 0 (by decide) z, p0 z, show (0 : Int32).toInt = 0 from rfl, Int.add_zero]
 have g1 : (1 : Int32) < k → chr (own_at (slice bs a (b - a)) (1 : Int32)) = o1 := fun z => by
  rw [← hk, Int32.lt_iff_toInt_lt, e, show (1 : Int32).toInt = 1 from rfl] at z
  rw [hch 1 (by decide) z, p1 z]
  rfl
 have g2 : (2 : Int32) < k → chr (own_at (slice bs a (b - a)) (2 : Int32)) = o2 := fun z => by
  rw [← hk, Int32.lt_iff_toInt_lt, e, show (2 : Int32).toInt = 2 from rfl] at z
  rw [hch 2 (by decide) z, p2 z]
  rfl
 have g3 : (3 : Int32) < k → chr (own_at (slice bs a (b - a)) (3 : Int32)) = o3 := fun z => by
  rw [← hk, Int32.lt_iff_toInt_lt, e, show (3 : Int32).toInt = 3 from rfl] at z
  rw [hch 3 (by decide) z, p3 z]
  rfl
 have l1 : (1 : Int32) < k → (0 : Int32) < k := fun z => Int32.lt_trans (by decide) z
 have l2 : (2 : Int32) < k → (1 : Int32) < k := fun z => Int32.lt_trans (by decide) z
 have l3 : (3 : Int32) < k → (2 : Int32) < k := fun z => Int32.lt_trans (by decide) z
 unfold f37
 rw [if_pos hk]
 by_cases q0 : (0 : Int32) < k
 ·rw [if_pos q0, if_pos (g0 q0)]
  by_cases q1 : (1 : Int32) < k
  ·rw [if_pos q1, if_pos (g1 q1)]
   by_cases q2 : (2 : Int32) < k
   ·rw [if_pos q2, if_pos (g2 q2)]
    by_cases q3 : (3 : Int32) < k
    ·rw [if_pos q3, if_pos (g3 q3)]
     decide
    ·rw [if_neg q3]
     decide
   ·rw [if_neg q2]
    decide
  ·rw [if_neg q1]
   decide
 ·rw [if_neg q0]
  decide
theorem own_smI (hM : Mk bs n c0 c1 c2 c3) (hPN : PN bs n pt st pa ie fi fa la) {ik o0 o1 o2 o3 : Int32} (hO : Col c0 c1 c2 c3 fi.toInt ie.toInt ik o0 o1 o2 o3) : ¬ f37 ik (slice bs fi (ie - fi)) (ie - fi) o0 o1 o2 o3 = 0 := own_sm hM (by have := own_pn hM hPN; omega) (by have := own_pn hM hPN; omega) hO
theorem own_smF (hM : Mk bs n c0 c1 c2 c3) (hPN : PN bs n pt st pa ie fi fa la) {fk q0 q1 q2 q3 : Int32} (hQ : Col c0 c1 c2 c3 fa.toInt la.toInt fk q0 q1 q2 q3) : ¬ f37 fk (slice bs fa (la - fa)) (la - fa) q0 q1 q2 q3 = 0 := own_sm hM (by have := own_pn hM hPN; omega) (by have := own_pn hM hPN; omega) hQ
theorem own_ng0 (hM : Mk bs n c0 c1 c2 c3) (h : ¬ (0 < n.toInt ∧ c0 = 45)) : ((((f8 bs n (45 : Int32)) &&& 1) &&& 1) &&& 1) = 0 := by
 rw [(own_f8 hM.2.1).mpr fun z => h ((own_sw0 hM 45 (by decide) (by decide)).mp z)]
 decide
theorem own_ng1 (hM : Mk bs n c0 c1 c2 c3) (h : 0 < n.toInt ∧ c0 = 45) : ((((f8 bs n (45 : Int32)) &&& 1) &&& 1) &&& 1) = 1 := by
 have q : ¬ ((f8 bs n (45 : Int32)) &&& 1) = 0 := fun z => (own_f8 hM.2.1).mp z ((own_sw0 hM 45 (by decide) (by decide)).mpr h)
 have : f8 bs n 45 = 0 ∨ f8 bs n 45 = 1 := by
  unfold f8
  split
  ·exact Or.inl rfl
  ·split
   ·exact Or.inr rfl
   ·exact Or.inl rfl
 rcases this with e | e
 ·rw [e] at q
  exact absurd (by decide) q
 ·rw [e]
  decide
end
theorem wd1 {Z a0} (hw : HW a0 Z) : (Cond.methodLink LW (20 : Nat) y_33).before a0 Z = true := mw hw 1 rfl
theorem wd4 {Z a0} (hw : HW a0 Z) : (Cond.code y_33 cB1 (2 : Nat) (Option.some FieldType.char)).before a0 Z = true := mw hw 4 rfl
theorem wd3 {Z a0} (hw : HW a0 Z) : (Cond.initialized LW).before a0 Z = true := mw hw 3 rfl
theorem wd2 {Z a0} (hw : HW a0 Z) : (Cond.static y_33).before a0 Z = true := mw hw 2 rfl
theorem wd5 {Z a0} (hw : HW a0 Z) : (Cond.methodLink LW (25 : Nat) y_44).before a0 Z = true := mw hw 5 rfl
theorem wd7 {Z a0} (hw : HW a0 Z) : (Cond.code y_44 cB2 (2 : Nat) (Option.some (FieldType.object SN))).before a0 Z = true := mw hw 7 rfl
theorem pd31 : parseMethodDescriptor "(I[C)Ljava/lang/String;" = some ⟨[.int, (.array .char)], some (.object SN)⟩ := by decide +kernel
theorem wd6 {Z a0} (hw : HW a0 Z) : (Cond.static y_44).before a0 Z = true := mw hw 6 rfl
theorem wd29 {Z a0} (hw : HW a0 Z) : (Cond.methodLink LW (29 : Nat) y_47).before a0 Z = true := mw hw 29 rfl
theorem wd32 {Z a0} (hw : HW a0 Z) : (Cond.code y_47 cB6 (9 : Nat) (Option.some (FieldType.object OP))).before a0 Z = true := mw hw 32 rfl
theorem pd32 : parseMethodDescriptor "(Ljava/lang/String;Z)Ljava/util/Optional;" = some ⟨[(.object SN), .boolean], some (.object OP)⟩ := by decide +kernel
theorem wd30 {Z a0} (hw : HW a0 Z) : (Cond.static y_47).before a0 Z = true := mw hw 30 rfl
theorem wd62 {Z a0} (hw : HW a0 Z) : (Cond.methodLink LW (35 : Nat) y_43).before a0 Z = true := mw hw 62 rfl
theorem wd64 {Z a0} (hw : HW a0 Z) : (Cond.code y_43 cB12 (5 : Nat) (Option.some FieldType.int)).before a0 Z = true := mw hw 64 rfl
theorem pd33 : parseMethodDescriptor "([CIII)I" = some ⟨[(.array .char), .int, .int, .int], some .int⟩ := by decide +kernel
theorem wd63 {Z a0} (hw : HW a0 Z) : (Cond.static y_43).before a0 Z = true := mw hw 63 rfl
theorem wd65 {Z a0} (hw : HW a0 Z) : (Cond.methodLink LW (39 : Nat) y_34).before a0 Z = true := mw hw 65 rfl
theorem wd67 {Z a0} (hw : HW a0 Z) : (Cond.code y_34 cB13 (5 : Nat) (Option.some FieldType.int)).before a0 Z = true := mw hw 67 rfl
theorem pd34 : parseMethodDescriptor "(IIIII)I" = some ⟨[.int, .int, .int, .int, .int], some .int⟩ := by decide +kernel
theorem wd66 {Z a0} (hw : HW a0 Z) : (Cond.static y_34).before a0 Z = true := mw hw 66 rfl
theorem wd68 {Z a0} (hw : HW a0 Z) : (Cond.methodLink LW (43 : Nat) y_31).before a0 Z = true := mw hw 68 rfl
theorem wd72 {Z a0} (hw : HW a0 Z) : (Cond.code y_31 cB14 (1 : Nat) (Option.some FieldType.boolean)).before a0 Z = true := mw hw 72 rfl
theorem wd69 {Z a0} (hw : HW a0 Z) : (Cond.declares y_31).before a0 Z = true := mw hw 69 rfl
theorem wd71 {Z a0} (hw : HW a0 Z) : (Cond.selects OP y_31 y_31).before a0 Z = true := mw hw 71 rfl
theorem wd70 {Z a0} (hw : HW a0 Z) : (Cond.instanceMethod y_31).before a0 Z = true := mw hw 70 rfl
theorem wd157 {Z a0} (hw : HW a0 Z) : (Cond.arrayClass FieldType.boolean).before a0 Z = true := mw hw 157 rfl
theorem wd158 {Z a0} (hw : HW a0 Z) : (Cond.methodLink LW (49 : Nat) y_45).before a0 Z = true := mw hw 158 rfl
theorem wd160 {Z a0} (hw : HW a0 Z) : (Cond.code y_45 cB33 (4 : Nat) (Option.some FieldType.int)).before a0 Z = true := mw hw 160 rfl
theorem pd35 : parseMethodDescriptor "([C[Z[C)I" = some ⟨[(.array .char), (.array .boolean), (.array .char)], some .int⟩ := by decide +kernel
theorem wd159 {Z a0} (hw : HW a0 Z) : (Cond.static y_45).before a0 Z = true := mw hw 159 rfl
theorem wd161 {Z a0} (hw : HW a0 Z) : (Cond.methodLink LW (53 : Nat) y_32).before a0 Z = true := mw hw 161 rfl
theorem wd165 {Z a0} (hw : HW a0 Z) : (Cond.code y_32 cB34 (1 : Nat) (Option.some (FieldType.object "java/lang/Object"))).before a0 Z = true := mw hw 165 rfl
theorem pd36 : parseMethodDescriptor "()Ljava/lang/Object;" = some ⟨[], some (.object "java/lang/Object")⟩ := by decide +kernel
theorem wd162 {Z a0} (hw : HW a0 Z) : (Cond.declares y_32).before a0 Z = true := mw hw 162 rfl
theorem wd164 {Z a0} (hw : HW a0 Z) : (Cond.selects OP y_32 y_32).before a0 Z = true := mw hw 164 rfl
theorem wd163 {Z a0} (hw : HW a0 Z) : (Cond.instanceMethod y_32).before a0 Z = true := mw hw 163 rfl
theorem wd166 {Z a0} (hw : HW a0 Z) : (Cond.classLink LW (30 : Nat) NU).before a0 Z = true := mw hw 166 rfl
theorem wd168 {Z a0} (hw : HW a0 Z) : (Cond.methodLink LW (57 : Nat) y_24).before a0 Z = true := mw hw 168 rfl
theorem wd172 {Z a0} (hw : HW a0 Z) : (Cond.code y_24 cB35 (1 : Nat) (Option.some FieldType.boolean)).before a0 Z = true := mw hw 172 rfl
theorem wd169 {Z a0} (hw : HW a0 Z) : (Cond.declares y_24).before a0 Z = true := mw hw 169 rfl
theorem wd171 {Z a0} (hw : HW a0 Z) : (Cond.selects NU y_24 y_24).before a0 Z = true := mw hw 171 rfl
theorem wd170 {Z a0} (hw : HW a0 Z) : (Cond.instanceMethod y_24).before a0 Z = true := mw hw 170 rfl
theorem wd173 {Z a0} (hw : HW a0 Z) : (Cond.methodLink LW (60 : Nat) y_25).before a0 Z = true := mw hw 173 rfl
theorem wd177 {Z a0} (hw : HW a0 Z) : (Cond.code y_25 cB36 (1 : Nat) (Option.some (FieldType.object SN))).before a0 Z = true := mw hw 177 rfl
theorem pd37 : parseMethodDescriptor "()Ljava/lang/String;" = some ⟨[], some (.object SN)⟩ := by decide +kernel
theorem wd174 {Z a0} (hw : HW a0 Z) : (Cond.declares y_25).before a0 Z = true := mw hw 174 rfl
theorem wd176 {Z a0} (hw : HW a0 Z) : (Cond.selects NU y_25 y_25).before a0 Z = true := mw hw 176 rfl
theorem wd175 {Z a0} (hw : HW a0 Z) : (Cond.instanceMethod y_25).before a0 Z = true := mw hw 175 rfl
theorem wd178 {Z a0} (hw : HW a0 Z) : (Cond.methodLink LW (64 : Nat) y_46).before a0 Z = true := mw hw 178 rfl
theorem wd180 {Z a0} (hw : HW a0 Z) : (Cond.code y_46 cB37 (3 : Nat) (Option.some FieldType.boolean)).before a0 Z = true := mw hw 180 rfl
theorem pd38 : parseMethodDescriptor "(Ljava/lang/String;[CI)Z" = some ⟨[(.object SN), (.array .char), .int], some .boolean⟩ := by decide +kernel
theorem wd179 {Z a0} (hw : HW a0 Z) : (Cond.static y_46).before a0 Z = true := mw hw 179 rfl
theorem wd183 {Z a0} (hw : HW a0 Z) : (Cond.methodLink LW (68 : Nat) y_26).before a0 Z = true := mw hw 183 rfl
theorem wd187 {Z a0} (hw : HW a0 Z) : (Cond.code y_26 cB38 (1 : Nat) (Option.some (FieldType.object SN))).before a0 Z = true := mw hw 187 rfl
theorem wd184 {Z a0} (hw : HW a0 Z) : (Cond.declares y_26).before a0 Z = true := mw hw 184 rfl
theorem wd186 {Z a0} (hw : HW a0 Z) : (Cond.selects NU y_26 y_26).before a0 Z = true := mw hw 186 rfl
theorem wd185 {Z a0} (hw : HW a0 Z) : (Cond.instanceMethod y_26).before a0 Z = true := mw hw 185 rfl
def Q0 (Z : State) (p1 : Int32) (p2 : Int32) (p3 : Int32) (p4 : Int32) (p5 : Int32) (wC : Int32) (w_S : Value) (w_EMPTY : Addr) (h0 : Heap) (n0 : Nat) (v : Option Value) (h : Heap) (L : List Loc) : Prop := v = some (.int (1 : Int32)) ∧ Fr n0 L
theorem ef0 (m : MethodId) (x0 : Int32) (x1 : Int32) (x2 : Int32) (x3 : Int32) (x4 : Int32) : entryFrame m #[(.int x0), (.int x1), (.int x2), (.int x3), (.int x4)] maxLocals = mkF m 0 #[.val (.int x0), .val (.int x1), .val (.int x2), .val (.int x3), .val (.int x4), .unset, .unset, .unset, .unset, .unset, .unset, .unset, .unset, .unset, .unset, .unset, .unset, .unset, .unset, .unset, .unset, .unset, .unset, .unset, .unset, .unset, .unset, .unset, .unset, .unset] [] := by first | (simp [entryFrame, mkF, argsToLocals, Value.category, maxLocals]; done) | rfl
theorem TJ0_54 (l : Launch) (Z : State) (a0 : Array Value) (hw : HW a0 Z) (ws : List Jvm.Cond) (p1 : Int32) (p2 : Int32) (p3 : Int32) (p4 : Int32) (p5 : Int32) (wC : Int32) (w_S : Value) (w_EMPTY : Addr) (h0 : Heap) (n0 : Nat) {p : Program} {e : Env} {s : State} {m : MethodId} {below : List Frame} {meth : Method} {c : Code} {s₁ : State} (Bd : BodyLoose p l x (head1 (Cond.code x code maxLocals ret :: ws) room_1) code maxLocals ret e s m #[(.int p1), (.int p2), (.int p3), (.int p4), (.int p5)] below meth c s₁) (hml0 : c.maxLocals = maxLocals) {VM : Vm} {kS : Nat} (hZ : Z.Warmed39 (s.setVm VM).vm) (hown : (s.setVm VM).vm.findClass LW = some m.cls) (hh : s.heap = h0) {TJ : State} {locsJ : List Loc} {hJ : Heap} {b2 : Addr} {b40 : Addr} {b45 : Addr} {b50 : Addr} {b51 : Addr} {bf : Addr} {bi : Addr} {sf : Addr} {si : Addr} {xn : Addr} {za16 : Addr} {za18 : Addr} {k2 : ClassId} {ki : ClassId} {kf : ClassId} {k50 : ClassId} {k51 : ClassId} {pt : Int32} {n : Int32} {c0 : Int32} {c1 : Int32} {c2 : Int32} {c3 : Int32} {bs : List Int32} {S0 : Int32} {kk0 : Int32} {kk1 : Int32} {kk2 : Int32} {kk3 : Int32} {dg : Int32} {dt : Int32} {ot : Int32} {st : Int32} {pa : Int32} {ie : Int32} {fi : Int32} {fa : Int32} {la : Int32} {P : Int32} {IE : Int32} {s3 : Int32} {t0 : Int32} {ik : Int32} {fk : Int32} {o0 : Int32} {o1 : Int32} {o2 : Int32} {o3 : Int32} {q0 : Int32} {q1 : Int32} {q2 : Int32} {q3 : Int32} (XJ : Stand p l e room_1 (s.setVm VM) m #[(.int p1), (.int p2), (.int p3), (.int p4), (.int p5)] below meth c TJ locsJ 23 76) (eJ : TJ.heap = hJ) (NJ : Fr n0 locsJ) (K0 : Keep h0 hJ []) (Z0 : n0 ≤ hJ.size) (hS : s.Since VM kS) (hk : kS ≤ hJ.size) (hCr : CHr Z consts_1 s.vm h0 VM hJ) (SC : Sta Z hJ SN "COMPACT_STRINGS" "Z" (.int wC)) (SI : Sta Z hJ PC "SIOOBE_FORMATTER" BF w_S) (V_b2 : Arv Z hJ b2 k2 .char (4 : Int32) [(.int c0), (.int c1), (.int c2), (.int c3)] (.int (0 : Int32))) (E_z_6_l0_18 : Exa Z hJ za18 OP) (F_r_v : Fld Z hJ za18 OP "value" "Ljava/lang/Object;" (.ref xn)) (E_xn : Exa Z hJ xn NU) (F_xn_neg : Fld Z hJ xn NU "negative" "Z" (.int (((f8 bs n (45 : Int32)) &&& 1) &&& 1))) (F_xn_int : Fld Z hJ xn NU "integer" LS (.ref si)) (F_xn_fra : Fld Z hJ xn NU "fraction" LS (.ref sf)) (E_si : Exa Z hJ si SN) (F_si_v : Fld Z hJ si SN "value" "[B" (.ref bi)) (F_si_c : Fld Z hJ si SN "coder" "B" (.int (0 : Int32))) (V_bi : Arv Z hJ bi ki .byte (ie - fi) (List.map Value.int (slice bs fi (ie - fi))) (.int (0 : Int32))) (E_sf : Exa Z hJ sf SN) (F_sf_v : Fld Z hJ sf SN "value" "[B" (.ref bf)) (F_sf_c : Fld Z hJ sf SN "coder" "B" (.int (0 : Int32))) (V_bf : Arv Z hJ bf kf .byte (la - fa) (List.map Value.int (slice bs fa (la - fa))) (.int (0 : Int32))) (V_b50 : Arv Z hJ b50 k50 .char (4 : Int32) [(.int o0), (.int o1), (.int o2), (.int o3)] (.int (0 : Int32))) (V_b51 : Arv Z hJ b51 k51 .char (4 : Int32) [(.int q0), (.int q1), (.int q2), (.int q3)] (.int (0 : Int32))) (Sf_b2 : Safe Z consts_1 VM hJ b2) (Sf_b50 : Safe Z consts_1 VM hJ b50) (Sf_b51 : Safe Z consts_1 VM hJ b51) (hM : Mk bs n c0 c1 c2 c3) (hPN : PN bs n pt st pa ie fi fa la) (hcs : ¬ wC = (0 : Int32)) (hrS : w_S.isRef = true) (hO : Col c0 c1 c2 c3 fi.toInt ie.toInt ik o0 o1 o2 o3) (hQ : Col c0 c1 c2 c3 fa.toInt la.toInt fk q0 q1 q2 q3) :
  Go p.tables e below (TJ.setTop (mkF m 621 #[vi p1, vi p2, vi p3, vi p4, vi p5, vi n, vi pt, vr b2, vr za16, vr za18, vi S0, vi kk0, vi kk1, vi kk2, vi kk3, vi dg, vi dt, vi ot, vi 1, vi P, vi IE, vr b40, vi s3, vr b45, vi t0, vr b50, vr b51, vi ik, vi fk, us] [])) (fun o U' => ∃ v L, o = .returned v ∧ Q0 Z p1 p2 p3 p4 p5 wC w_S w_EMPTY h0 n0 v U'.heap L ∧ CHr Z consts_1 s.vm s.heap U'.vm U'.heap ∧ ReturnedEndW s o U' L 48 5312) := by
 have hx := Bd.exec
 have D := @hb _ _ Bd.bytes
 have hml : c.maxLocals = 30 := hml0
 have hnm := (name_of_methodNamed Bd.named Bd.method).1
 refine G (fun t k => XS.aload XJ.here hx rfl (D at_621) rfl rfl k) ?_
 obtain ⟨_, T55, Lc55, X55, hQ55, st55⟩ := cV XJ hx hZ hown hml (wd161 hw) (wd162 hw) (wd164 hw) (wd163 hw) (wd165 hw) (wd59 hw) E_z_6_l0_18 eJ 0 [] (rm34 l Z a0 hw [] za18 xn hJ n0 Z0 F_r_v) pd36 (mkF m 623 #[vi p1, vi p2, vi p3, vi p4, vi p5, vi n, vi pt, vr b2, vr za16, vr za18, vi S0, vi kk0, vi kk1, vi kk2, vi kk3, vi dg, vi dt, vi ot, vi 1, vi P, vi IE, vr b40, vi s3, vr b45, vi t0, vr b50, vr b51, vi ik, vi fk, us] [(.ref za18)]) (D at_623)
 refine Go.tr st55 ?_
 obtain ⟨rfl, N55q, e55⟩ := hQ55
 have N55 := Fr.app NJ N55q
 obtain ⟨T56, X56, e56, st56⟩ := castY X55 hx hZ hown (wd166 hw) e55 (Ins.self E_xn) (g := (mkF m 626 #[vi p1, vi p2, vi p3, vi p4, vi p5, vi n, vi pt, vr b2, vr za16, vr za18, vi S0, vi kk0, vi kk1, vi kk2, vi kk3, vi dg, vi dt, vi ot, vi 1, vi P, vi IE, vr b40, vi s3, vr b45, vi t0, vr b50, vr b51, vi ik, vi fk, us] [(.ref xn)])) rfl rfl (D at_626)
 refine G st56 ?_
 refine G (fun t k => XS.astore X56.here hx rfl (D at_629) rfl rfl (l' := #[vi p1, vi p2, vi p3, vi p4, vi p5, vi n, vi pt, vr b2, vr za16, vr za18, vi S0, vi kk0, vi kk1, vi kk2, vi kk3, vi dg, vi dt, vi ot, vi 1, vi P, vi IE, vr b40, vi s3, vr b45, vi t0, vr b50, vr b51, vi ik, vi fk, vr xn]) rfl (XS.aload X56.here hx rfl (D at_631) rfl rfl k)) ?_
 obtain ⟨_, T57, Lc57, X57, hQ57, st57⟩ := cV X56 hx hZ hown hml (wd168 hw) (wd169 hw) (wd171 hw) (wd170 hw) (wd172 hw) (wd31 hw) E_xn e56 0 [] (rm35 l Z a0 hw [] xn (((f8 bs n (45 : Int32)) &&& 1) &&& 1) hJ n0 Z0 F_xn_neg) pd7 (mkF m 633 #[vi p1, vi p2, vi p3, vi p4, vi p5, vi n, vi pt, vr b2, vr za16, vr za18, vi S0, vi kk0, vi kk1, vi kk2, vi kk3, vi dg, vi dt, vi ot, vi 1, vi P, vi IE, vr b40, vi s3, vr b45, vi t0, vr b50, vr b51, vi ik, vi fk, vr xn] [(.ref xn)]) (D at_633)
 refine Go.tr st57 ?_
 obtain ⟨rfl, N57q, e57⟩ := hQ57
 have N57 := Fr.app N55 N57q
 refine sG T57 (mkF m 636 #[vi p1, vi p2, vi p3, vi p4, vi p5, vi n, vi pt, vr b2, vr za16, vr za18, vi S0, vi kk0, vi kk1, vi kk2, vi kk3, vi dg, vi dt, vi ot, vi 1, vi P, vi IE, vr b40, vi s3, vr b45, vi t0, vr b50, vr b51, vi ik, vi fk, vr xn] [(.int ((((f8 bs n (45 : Int32)) &&& 1) &&& 1) &&& 1))]) ?_
 have J58 : ∀ (TJ : State) (locsJ : List Loc), Stand p l e room_1 (s.setVm VM) m #[(.int p1), (.int p2), (.int p3), (.int p4), (.int p5)] below meth c TJ locsJ 23 76 → TJ.heap = hJ → Fr n0 locsJ → Go p.tables e below (TJ.setTop (mkF m 658 #[vi p1, vi p2, vi p3, vi p4, vi p5, vi n, vi pt, vr b2, vr za16, vr za18, vi S0, vi kk0, vi kk1, vi kk2, vi kk3, vi dg, vi dt, vi ot, vi 1, vi P, vi IE, vr b40, vi s3, vr b45, vi t0, vr b50, vr b51, vi ik, vi fk, vr xn] [])) (fun o U' => ∃ v L, o = .returned v ∧ Q0 Z p1 p2 p3 p4 p5 wC w_S w_EMPTY h0 n0 v U'.heap L ∧ CHr Z consts_1 s.vm s.heap U'.vm U'.heap ∧ ReturnedEndW s o U' L 48 5312) := by
  intro TJ locsJ XJ eJ NJ
  refine G (fun t k => XS.aload XJ.here hx rfl (D at_658) rfl rfl k) ?_
  obtain ⟨_, T59, Lc59, X59, hQ59, st59⟩ := cV XJ hx hZ hown hml (wd173 hw) (wd174 hw) (wd176 hw) (wd175 hw) (wd177 hw) (wd31 hw) E_xn eJ 0 [] (rm36 l Z a0 hw [] xn si hJ n0 Z0 F_xn_int) pd37 (mkF m 660 #[vi p1, vi p2, vi p3, vi p4, vi p5, vi n, vi pt, vr b2, vr za16, vr za18, vi S0, vi kk0, vi kk1, vi kk2, vi kk3, vi dg, vi dt, vi ot, vi 1, vi P, vi IE, vr b40, vi s3, vr b45, vi t0, vr b50, vr b51, vi ik, vi fk, vr xn] [(.ref xn)]) (D at_660)
  refine Go.tr st59 ?_
  obtain ⟨rfl, N59q, e59⟩ := hQ59
  have N59 := Fr.app NJ N59q
  refine G (fun t k => XS.aload X59.here hx rfl (D at_663) rfl rfl (XS.iload X59.here hx rfl (D at_665) rfl k)) ?_
  obtain ⟨_, T60, Lc60, X60, hQ60, st60⟩ := cS X59 hx hZ hown hml (wd178 hw) (wd179 hw) (wd3 hw) (wd180 hw) e59 0 [] (rm37 l Z a0 hw [] si b50 ik bi ki (slice bs fi (ie - fi)) (ie - fi) k50 o0 o1 o2 o3 wC w_S hJ n0 Z0 E_si F_si_v F_si_c V_bi V_b50 SC SI hcs hrS) pd38 (mkF m 667 #[vi p1, vi p2, vi p3, vi p4, vi p5, vi n, vi pt, vr b2, vr za16, vr za18, vi S0, vi kk0, vi kk1, vi kk2, vi kk3, vi dg, vi dt, vi ot, vi 1, vi P, vi IE, vr b40, vi s3, vr b45, vi t0, vr b50, vr b51, vi ik, vi fk, vr xn] [(.int ik), (.ref b50), (.ref si)]) (D at_667)
  refine G st60 ?_
  obtain ⟨rfl, N60q, e60⟩ := hQ60
  have N60 := Fr.app N59 N60q
  obtain ⟨LL60, X60, N60⟩ : ∃ LL, Stand p l e room_1 (s.setVm VM) m #[(.int p1), (.int p2), (.int p3), (.int p4), (.int p5)] below meth c T60 LL 23 76 ∧ Fr n0 LL := ⟨_, X60, N60⟩
  have hf61 : ¬ ((f37 ik (slice bs fi (ie - fi)) (ie - fi) o0 o1 o2 o3) = (0 : Int32)) := (own_smI hM hPN hO)
  refine G (fun t k => XS.ifNo X60.here hx rfl (D at_670) rfl ((if0 _ _).trans (feq hf61).1) (XS.aload X60.here hx rfl (D at_673) rfl rfl k)) ?_
  refine sG T60 (mkF m 675 #[vi p1, vi p2, vi p3, vi p4, vi p5, vi n, vi pt, vr b2, vr za16, vr za18, vi S0, vi kk0, vi kk1, vi kk2, vi kk3, vi dg, vi dt, vi ot, vi 1, vi P, vi IE, vr b40, vi s3, vr b45, vi t0, vr b50, vr b51, vi ik, vi fk, vr xn] [(.ref xn)]) ?_
  obtain ⟨_, T62, Lc62, X62, hQ62, st62⟩ := cV X60 hx hZ hown hml (wd183 hw) (wd184 hw) (wd186 hw) (wd185 hw) (wd187 hw) (wd31 hw) E_xn e60 0 [] (rm38 l Z a0 hw [] xn sf hJ n0 Z0 F_xn_fra) pd37 (mkF m 675 #[vi p1, vi p2, vi p3, vi p4, vi p5, vi n, vi pt, vr b2, vr za16, vr za18, vi S0, vi kk0, vi kk1, vi kk2, vi kk3, vi dg, vi dt, vi ot, vi 1, vi P, vi IE, vr b40, vi s3, vr b45, vi t0, vr b50, vr b51, vi ik, vi fk, vr xn] [(.ref xn)]) (D at_675)
  refine Go.tr st62 ?_
  obtain ⟨rfl, N62q, e62⟩ := hQ62
  have N62 := Fr.app N60 N62q
  refine G (fun t k => XS.aload X62.here hx rfl (D at_678) rfl rfl (XS.iload X62.here hx rfl (D at_680) rfl k)) ?_
  obtain ⟨_, T63, Lc63, X63, hQ63, st63⟩ := cS X62 hx hZ hown hml (wd178 hw) (wd179 hw) (wd3 hw) (wd180 hw) e62 0 [] (rm37 l Z a0 hw [] sf b51 fk bf kf (slice bs fa (la - fa)) (la - fa) k51 q0 q1 q2 q3 wC w_S hJ n0 Z0 E_sf F_sf_v F_sf_c V_bf V_b51 SC SI hcs hrS) pd38 (mkF m 682 #[vi p1, vi p2, vi p3, vi p4, vi p5, vi n, vi pt, vr b2, vr za16, vr za18, vi S0, vi kk0, vi kk1, vi kk2, vi kk3, vi dg, vi dt, vi ot, vi 1, vi P, vi IE, vr b40, vi s3, vr b45, vi t0, vr b50, vr b51, vi ik, vi fk, vr xn] [(.int fk), (.ref b51), (.ref sf)]) (D at_682)
  refine G st63 ?_
  obtain ⟨rfl, N63q, e63⟩ := hQ63
  have N63 := Fr.app N62 N63q
  have hf64 : ¬ ((f37 fk (slice bs fa (la - fa)) (la - fa) q0 q1 q2 q3) = (0 : Int32)) := (own_smF hM hPN hQ)
  refine G (fun t k => XS.ifNo X63.here hx rfl (D at_685) rfl ((if0 _ _).trans (feq hf64).1) (XS.iconst X63.here hx rfl (D at_688) (XS.goto X63.here hx rfl (pc0 := 689) (pc' := 693) rfl (D at_689) (by decide) (by decide) k))) ?_
  refine sG T63 (mkF m 693 #[vi p1, vi p2, vi p3, vi p4, vi p5, vi n, vi pt, vr b2, vr za16, vr za18, vi S0, vi kk0, vi kk1, vi kk2, vi kk3, vi dg, vi dt, vi ot, vi 1, vi P, vi IE, vr b40, vi s3, vr b45, vi t0, vr b50, vr b51, vi ik, vi fk, vr xn] [(.int 1)]) ?_
  exact lwN (Q := Q0 Z p1 p2 p3 p4 p5 wC w_S w_EMPTY h0 n0) Bd X63 e63 hS hk hh hCr hZ (own_EL hw) (D at_693) (by simp) (w := (1 : Int32)) rfl ⟨rfl, N63⟩ (by decide) (by decide)
 refine G (fun t k => XS.iload X57.here hx rfl (D at_636) rfl k) ?_
 by_cases hc65 : (0 : Int32) < n
 ·refine G (fun t k => XS.ifNo X57.here hx rfl (D at_638) rfl ((if0 _ _).trans (tlt hc65).2.2.2) (XS.aload X57.here hx rfl (D at_641) rfl rfl (XS.iconst X57.here hx rfl (D at_643) k))) ?_
  obtain ⟨cl66, Ar66, -, Sz66, Ng66, Hs66, -⟩ := id V_b2
  have hin66 := inb_of (j := (0 : Int32)) (c := cl66) Sz66 ⟨by decide, by decide⟩
  refine G (fun t k => X57.caload hx (j := (0 : Int32)) (v := (.int c0)) (by rw [e57]; exact Ar66.1) (State.isArrayOf_alike hZ.alike Ar66.2.1) Ar66.2.2 hin66 (Has.at Hs66 hin66 rfl) (g := (mkF m 644 #[vi p1, vi p2, vi p3, vi p4, vi p5, vi n, vi pt, vr b2, vr za16, vr za18, vi S0, vi kk0, vi kk1, vi kk2, vi kk3, vi dg, vi dt, vi ot, vi 1, vi P, vi IE, vr b40, vi s3, vr b45, vi t0, vr b50, vr b51, vi ik, vi fk, vr xn] [(.int 0), (.ref b2), (.int ((((f8 bs n (45 : Int32)) &&& 1) &&& 1) &&& 1))])) rfl rfl (D at_644) _ k) ?_
  clear hin66 Hs66 Ng66 Sz66 Ar66 cl66
  refine G (fun t k => XS.bipush X57.here hx rfl (D at_645) k) ?_
  by_cases hc67 : c0 = (45 : Int32)
  ·refine G (fun t k => XS.icmpNo X57.here hx rfl (D at_647) rfl (teq hc67).2 k) ?_
   refine sG T57 (mkF m 650 #[vi p1, vi p2, vi p3, vi p4, vi p5, vi n, vi pt, vr b2, vr za16, vr za18, vi S0, vi kk0, vi kk1, vi kk2, vi kk3, vi dg, vi dt, vi ot, vi 1, vi P, vi IE, vr b40, vi s3, vr b45, vi t0, vr b50, vr b51, vi ik, vi fk, vr xn] [(.int ((((f8 bs n (45 : Int32)) &&& 1) &&& 1) &&& 1))]) ?_
   refine G (fun t k => XS.iconst X57.here hx rfl (D at_650) (XS.goto X57.here hx rfl (pc0 := 651) (pc' := 655) rfl (D at_651) (by decide) (by decide) k)) ?_
   have hf68 : ((((f8 bs n (45 : Int32)) &&& 1) &&& 1) &&& 1) = (1 : Int32) := (own_ng1 hM ⟨Int32.lt_iff_toInt_lt.mp hc65, hc67⟩)
   refine G (fun t k => XS.icmpNo X57.here hx rfl (D at_655) rfl (teq hf68).2 k) ?_
   refine sG T57 (mkF m 658 #[vi p1, vi p2, vi p3, vi p4, vi p5, vi n, vi pt, vr b2, vr za16, vr za18, vi S0, vi kk0, vi kk1, vi kk2, vi kk3, vi dg, vi dt, vi ot, vi 1, vi P, vi IE, vr b40, vi s3, vr b45, vi t0, vr b50, vr b51, vi ik, vi fk, vr xn] []) ?_
   exact J58 _ _ X57 e57 N57
  ·refine G (fun t k => XS.icmpYes X57.here hx rfl (pc0 := 647) (pc' := 654) rfl (D at_647) rfl (feq hc67).2 (by decide) (by decide) k) ?_
   refine sG T57 (mkF m 654 #[vi p1, vi p2, vi p3, vi p4, vi p5, vi n, vi pt, vr b2, vr za16, vr za18, vi S0, vi kk0, vi kk1, vi kk2, vi kk3, vi dg, vi dt, vi ot, vi 1, vi P, vi IE, vr b40, vi s3, vr b45, vi t0, vr b50, vr b51, vi ik, vi fk, vr xn] [(.int ((((f8 bs n (45 : Int32)) &&& 1) &&& 1) &&& 1))]) ?_
   refine G (fun t k => XS.iconst X57.here hx rfl (D at_654) k) ?_
   have hf69 : ((((f8 bs n (45 : Int32)) &&& 1) &&& 1) &&& 1) = (0 : Int32) := (own_ng0 hM (fun q => hc67 q.2))
   refine G (fun t k => XS.icmpNo X57.here hx rfl (D at_655) rfl (teq hf69).2 k) ?_
   refine sG T57 (mkF m 658 #[vi p1, vi p2, vi p3, vi p4, vi p5, vi n, vi pt, vr b2, vr za16, vr za18, vi S0, vi kk0, vi kk1, vi kk2, vi kk3, vi dg, vi dt, vi ot, vi 1, vi P, vi IE, vr b40, vi s3, vr b45, vi t0, vr b50, vr b51, vi ik, vi fk, vr xn] []) ?_
   exact J58 _ _ X57 e57 N57
 ·refine G (fun t k => XS.ifYes X57.here hx rfl (pc0 := 638) (pc' := 654) rfl (D at_638) rfl ((if0 _ _).trans (flt hc65).2.2.2) (by decide) (by decide) (XS.iconst X57.here hx rfl (D at_654) k)) ?_
  have hf70 : ((((f8 bs n (45 : Int32)) &&& 1) &&& 1) &&& 1) = (0 : Int32) := (own_ng0 hM (fun q => hc65 (Int32.lt_iff_toInt_lt.mpr q.1)))
  refine G (fun t k => XS.icmpNo X57.here hx rfl (D at_655) rfl (teq hf70).2 k) ?_
  refine sG T57 (mkF m 658 #[vi p1, vi p2, vi p3, vi p4, vi p5, vi n, vi pt, vr b2, vr za16, vr za18, vi S0, vi kk0, vi kk1, vi kk2, vi kk3, vi dg, vi dt, vi ot, vi 1, vi P, vi IE, vr b40, vi s3, vr b45, vi t0, vr b50, vr b51, vi ik, vi fk, vr xn] []) ?_
  exact J58 _ _ X57 e57 N57
theorem TJ0_49 (l : Launch) (Z : State) (a0 : Array Value) (hw : HW a0 Z) (ws : List Jvm.Cond) (p1 : Int32) (p2 : Int32) (p3 : Int32) (p4 : Int32) (p5 : Int32) (wC : Int32) (w_S : Value) (w_EMPTY : Addr) (h0 : Heap) (n0 : Nat) {p : Program} {e : Env} {s : State} {m : MethodId} {below : List Frame} {meth : Method} {c : Code} {s₁ : State} (Bd : BodyLoose p l x (head1 (Cond.code x code maxLocals ret :: ws) room_1) code maxLocals ret e s m #[(.int p1), (.int p2), (.int p3), (.int p4), (.int p5)] below meth c s₁) (hml0 : c.maxLocals = maxLocals) {VM : Vm} {kS : Nat} (hZ : Z.Warmed39 (s.setVm VM).vm) (hown : (s.setVm VM).vm.findClass LW = some m.cls) (hh : s.heap = h0) {TJ : State} {locsJ : List Loc} {hJ : Heap} {b2 : Addr} {b40 : Addr} {b45 : Addr} {bf : Addr} {bi : Addr} {sf : Addr} {si : Addr} {xn : Addr} {za16 : Addr} {za18 : Addr} {k2 : ClassId} {ki : ClassId} {kf : ClassId} {k40 : ClassId} {k45 : ClassId} {pt : Int32} {n : Int32} {c0 : Int32} {c1 : Int32} {c2 : Int32} {c3 : Int32} {bs : List Int32} {S0 : Int32} {kk0 : Int32} {kk1 : Int32} {kk2 : Int32} {kk3 : Int32} {dg : Int32} {dt : Int32} {ot : Int32} {st : Int32} {pa : Int32} {ie : Int32} {fi : Int32} {fa : Int32} {la : Int32} {P : Int32} {IE : Int32} {x0 : Int32} {x1 : Int32} {x2 : Int32} {s3 : Int32} {x3 : Int32} {y3 : Int32} {y2 : Int32} {y1 : Int32} {t0 : Int32} {y0 : Int32} (XJ : Stand p l e room_1 (s.setVm VM) m #[(.int p1), (.int p2), (.int p3), (.int p4), (.int p5)] below meth c TJ locsJ 21 68) (eJ : TJ.heap = hJ) (NJ : Fr n0 locsJ) (K0 : Keep h0 hJ []) (Z0 : n0 ≤ hJ.size) (hS : s.Since VM kS) (hk : kS ≤ hJ.size) (hCr : CHr Z consts_1 s.vm h0 VM hJ) (SC : Sta Z hJ SN "COMPACT_STRINGS" "Z" (.int wC)) (SI : Sta Z hJ PC "SIOOBE_FORMATTER" BF w_S) (V_b2 : Arv Z hJ b2 k2 .char (4 : Int32) [(.int c0), (.int c1), (.int c2), (.int c3)] (.int (0 : Int32))) (E_z_6_l0_18 : Exa Z hJ za18 OP) (F_r_v : Fld Z hJ za18 OP "value" "Ljava/lang/Object;" (.ref xn)) (E_xn : Exa Z hJ xn NU) (F_xn_neg : Fld Z hJ xn NU "negative" "Z" (.int (((f8 bs n (45 : Int32)) &&& 1) &&& 1))) (F_xn_int : Fld Z hJ xn NU "integer" LS (.ref si)) (F_xn_fra : Fld Z hJ xn NU "fraction" LS (.ref sf)) (E_si : Exa Z hJ si SN) (F_si_v : Fld Z hJ si SN "value" "[B" (.ref bi)) (F_si_c : Fld Z hJ si SN "coder" "B" (.int (0 : Int32))) (V_bi : Arv Z hJ bi ki .byte (ie - fi) (List.map Value.int (slice bs fi (ie - fi))) (.int (0 : Int32))) (E_sf : Exa Z hJ sf SN) (F_sf_v : Fld Z hJ sf SN "value" "[B" (.ref bf)) (F_sf_c : Fld Z hJ sf SN "coder" "B" (.int (0 : Int32))) (V_bf : Arv Z hJ bf kf .byte (la - fa) (List.map Value.int (slice bs fa (la - fa))) (.int (0 : Int32))) (V_b40 : Arv Z hJ b40 k40 .boolean (4 : Int32) [(.int x0), (.int x1), (.int x2), (.int x3)] (.int (0 : Int32))) (V_b45 : Arv Z hJ b45 k45 .boolean (4 : Int32) [(.int y0), (.int y1), (.int y2), (.int y3)] (.int (0 : Int32))) (Sf_b2 : Safe Z consts_1 VM hJ b2) (Sf_b40 : Safe Z consts_1 VM hJ b40) (Sf_b45 : Safe Z consts_1 VM hJ b45) (hM : Mk bs n c0 c1 c2 c3) (hPN : PN bs n pt st pa ie fi fa la) (hc0 : 0 ≤ c0.toInt ∧ c0.toInt ≤ 255) (hc1 : 0 ≤ c1.toInt ∧ c1.toInt ≤ 255) (hc2 : 0 ≤ c2.toInt ∧ c2.toInt ≤ 255) (hc3 : 0 ≤ c3.toInt ∧ c3.toInt ≤ 255) (hx0 : Bit x0 (fi.toInt ≤ 0 ∧ 0 < ie.toInt)) (hx1 : Bit x1 (fi.toInt ≤ 1 ∧ 1 < ie.toInt)) (hx2 : Bit x2 (fi.toInt ≤ 2 ∧ 2 < ie.toInt)) (hx3 : Bit x3 (fi.toInt ≤ 3 ∧ 3 < ie.toInt)) (hy1 : Bit y1 (fa.toInt ≤ 1 ∧ 1 < la.toInt)) (hy2 : Bit y2 (fa.toInt ≤ 2 ∧ 2 < la.toInt)) (hy3 : Bit y3 (fa.toInt ≤ 3 ∧ 3 < la.toInt)) (hcs : ¬ wC = (0 : Int32)) (hrS : w_S.isRef = true) (hy0 : Bit y0 (fa.toInt ≤ 0 ∧ 0 < la.toInt)) (ht0 : Bit t0 (fa.toInt < la.toInt ∧ 0 < la.toInt)) :
  Go p.tables e below (TJ.setTop (mkF m 589 #[vi p1, vi p2, vi p3, vi p4, vi p5, vi n, vi pt, vr b2, vr za16, vr za18, vi S0, vi kk0, vi kk1, vi kk2, vi kk3, vi dg, vi dt, vi ot, vi 1, vi P, vi IE, vr b40, vi s3, vr b45, vi t0, us, us, us, us, us] [])) (fun o U' => ∃ v L, o = .returned v ∧ Q0 Z p1 p2 p3 p4 p5 wC w_S w_EMPTY h0 n0 v U'.heap L ∧ CHr Z consts_1 s.vm s.heap U'.vm U'.heap ∧ ReturnedEndW s o U' L 48 5312) := by
 have hx := Bd.exec
 have D := @hb _ _ Bd.bytes
 have hml : c.maxLocals = 30 := hml0
 have hnm := (name_of_methodNamed Bd.named Bd.method).1
 refine G (fun t k => XS.iconst XJ.here hx rfl (D at_589) k) ?_
 obtain ⟨T50, h50, k50, X50, e50, E50, A50, st50⟩ := newP XJ hx hZ (aty := .char) (wd0 hw) eJ (g := (mkF m 590 #[vi p1, vi p2, vi p3, vi p4, vi p5, vi n, vi pt, vr b2, vr za16, vr za18, vi S0, vi kk0, vi kk1, vi kk2, vi kk3, vi dg, vi dt, vi ot, vi 1, vi P, vi IE, vr b40, vi s3, vr b45, vi t0, us, us, us, us, us] [(.int 4)])) rfl (D at_590) rfl (by decide) (cap := 4) (by decide) (by decide) (by decide) (by decide)
 obtain ⟨b50, g50⟩ : ∃ z, z = hJ.size := ⟨_, rfl⟩
 rw [← g50] at A50 st50
 refine G st50 ?_
 have ne_b2_b50 : b2 ≠ b50 := Nat.ne_of_lt (Nat.lt_of_lt_of_le V_b2.lt (Nat.le_of_eq g50.symm))
 have ne_z_6_l0_18_b50 : za18 ≠ b50 := Nat.ne_of_lt (Nat.lt_of_lt_of_le E_z_6_l0_18.lt (Nat.le_of_eq g50.symm))
 have ne_xn_b50 : xn ≠ b50 := Nat.ne_of_lt (Nat.lt_of_lt_of_le E_xn.lt (Nat.le_of_eq g50.symm))
 have ne_si_b50 : si ≠ b50 := Nat.ne_of_lt (Nat.lt_of_lt_of_le E_si.lt (Nat.le_of_eq g50.symm))
 have ne_bi_b50 : bi ≠ b50 := Nat.ne_of_lt (Nat.lt_of_lt_of_le V_bi.lt (Nat.le_of_eq g50.symm))
 have ne_sf_b50 : sf ≠ b50 := Nat.ne_of_lt (Nat.lt_of_lt_of_le E_sf.lt (Nat.le_of_eq g50.symm))
 have ne_bf_b50 : bf ≠ b50 := Nat.ne_of_lt (Nat.lt_of_lt_of_le V_bf.lt (Nat.le_of_eq g50.symm))
 have ne_b40_b50 : b40 ≠ b50 := Nat.ne_of_lt (Nat.lt_of_lt_of_le V_b40.lt (Nat.le_of_eq g50.symm))
 have ne_b45_b50 : b45 ≠ b50 := Nat.ne_of_lt (Nat.lt_of_lt_of_le V_b45.lt (Nat.le_of_eq g50.symm))
 have g_b50 : n0 ≤ b50 := Nat.le_trans Z0 (Nat.le_of_eq g50.symm)
 have sz_b50 : h0.size ≤ b50 := Nat.le_trans K0.1 (Nat.le_of_eq g50.symm)
 have Sf_b50 : Safe Z consts_1 VM hJ b50 := Safe.new (Nat.le_of_eq g50.symm)
 replace SC := SC.ext E50
 replace SI := SI.ext E50
 replace V_b2 := V_b2.ext E50
 replace E_z_6_l0_18 := E_z_6_l0_18.ext E50
 replace F_r_v := F_r_v.ext E50
 replace E_xn := E_xn.ext E50
 replace F_xn_neg := F_xn_neg.ext E50
 replace F_xn_int := F_xn_int.ext E50
 replace F_xn_fra := F_xn_fra.ext E50
 replace E_si := E_si.ext E50
 replace F_si_v := F_si_v.ext E50
 replace F_si_c := F_si_c.ext E50
 replace V_bi := V_bi.ext E50
 replace E_sf := E_sf.ext E50
 replace F_sf_v := F_sf_v.ext E50
 replace F_sf_c := F_sf_c.ext E50
 replace V_bf := V_bf.ext E50
 replace V_b40 := V_b40.ext E50
 replace V_b45 := V_b45.ext E50
 replace K0 := K0.ext E50
 replace Z0 := Nat.le_trans Z0 E50.1
 replace Sf_b2 := Safe.ext E50 hCr.1 Sf_b2
 replace Sf_b40 := Safe.ext E50 hCr.1 Sf_b40
 replace Sf_b45 := Safe.ext E50 hCr.1 Sf_b45
 replace Sf_b50 := Safe.ext E50 hCr.1 Sf_b50
 replace hk := Nat.le_trans hk E50.1
 replace hCr := hCr.trans (CHr.ext E50 hCr.1)
 have V_b50 : Arv Z h50 b50 k50 .char (4 : Int32) [(.int (0 : Int32)), (.int (0 : Int32)), (.int (0 : Int32)), (.int (0 : Int32))] (.int (0 : Int32)) := (Arv.new A50 (by decide)).pad (pad_rep [] (.int (0 : Int32)) 4)
 refine G (fun t k => XS.astore X50.here hx rfl (D at_592) rfl rfl (l' := #[vi p1, vi p2, vi p3, vi p4, vi p5, vi n, vi pt, vr b2, vr za16, vr za18, vi S0, vi kk0, vi kk1, vi kk2, vi kk3, vi dg, vi dt, vi ot, vi 1, vi P, vi IE, vr b40, vi s3, vr b45, vi t0, vr b50, us, us, us, us]) rfl (XS.iconst X50.here hx rfl (D at_594) k)) ?_
 obtain ⟨T51, h51, k51, X51, e51, E51, A51, st51⟩ := newP X50 hx hZ (aty := .char) (wd0 hw) e50 (g := (mkF m 595 #[vi p1, vi p2, vi p3, vi p4, vi p5, vi n, vi pt, vr b2, vr za16, vr za18, vi S0, vi kk0, vi kk1, vi kk2, vi kk3, vi dg, vi dt, vi ot, vi 1, vi P, vi IE, vr b40, vi s3, vr b45, vi t0, vr b50, us, us, us, us] [(.int 4)])) rfl (D at_595) rfl (by decide) (cap := 4) (by decide) (by decide) (by decide) (by decide)
 obtain ⟨b51, g51⟩ : ∃ z, z = h50.size := ⟨_, rfl⟩
 rw [← g51] at A51 st51
 refine G st51 ?_
 have ne_b2_b51 : b2 ≠ b51 := Nat.ne_of_lt (Nat.lt_of_lt_of_le V_b2.lt (Nat.le_of_eq g51.symm))
 have ne_z_6_l0_18_b51 : za18 ≠ b51 := Nat.ne_of_lt (Nat.lt_of_lt_of_le E_z_6_l0_18.lt (Nat.le_of_eq g51.symm))
 have ne_xn_b51 : xn ≠ b51 := Nat.ne_of_lt (Nat.lt_of_lt_of_le E_xn.lt (Nat.le_of_eq g51.symm))
 have ne_si_b51 : si ≠ b51 := Nat.ne_of_lt (Nat.lt_of_lt_of_le E_si.lt (Nat.le_of_eq g51.symm))
 have ne_bi_b51 : bi ≠ b51 := Nat.ne_of_lt (Nat.lt_of_lt_of_le V_bi.lt (Nat.le_of_eq g51.symm))
 have ne_sf_b51 : sf ≠ b51 := Nat.ne_of_lt (Nat.lt_of_lt_of_le E_sf.lt (Nat.le_of_eq g51.symm))
 have ne_bf_b51 : bf ≠ b51 := Nat.ne_of_lt (Nat.lt_of_lt_of_le V_bf.lt (Nat.le_of_eq g51.symm))
 have ne_b40_b51 : b40 ≠ b51 := Nat.ne_of_lt (Nat.lt_of_lt_of_le V_b40.lt (Nat.le_of_eq g51.symm))
 have ne_b45_b51 : b45 ≠ b51 := Nat.ne_of_lt (Nat.lt_of_lt_of_le V_b45.lt (Nat.le_of_eq g51.symm))
 have ne_b50_b51 : b50 ≠ b51 := Nat.ne_of_lt (Nat.lt_of_lt_of_le V_b50.lt (Nat.le_of_eq g51.symm))
 have g_b51 : n0 ≤ b51 := Nat.le_trans Z0 (Nat.le_of_eq g51.symm)
 have sz_b51 : h0.size ≤ b51 := Nat.le_trans K0.1 (Nat.le_of_eq g51.symm)
 have Sf_b51 : Safe Z consts_1 VM h50 b51 := Safe.new (Nat.le_of_eq g51.symm)
 replace SC := SC.ext E51
 replace SI := SI.ext E51
 replace V_b2 := V_b2.ext E51
 replace E_z_6_l0_18 := E_z_6_l0_18.ext E51
 replace F_r_v := F_r_v.ext E51
 replace E_xn := E_xn.ext E51
 replace F_xn_neg := F_xn_neg.ext E51
 replace F_xn_int := F_xn_int.ext E51
 replace F_xn_fra := F_xn_fra.ext E51
 replace E_si := E_si.ext E51
 replace F_si_v := F_si_v.ext E51
 replace F_si_c := F_si_c.ext E51
 replace V_bi := V_bi.ext E51
 replace E_sf := E_sf.ext E51
 replace F_sf_v := F_sf_v.ext E51
 replace F_sf_c := F_sf_c.ext E51
 replace V_bf := V_bf.ext E51
 replace V_b40 := V_b40.ext E51
 replace V_b45 := V_b45.ext E51
 replace V_b50 := V_b50.ext E51
 replace K0 := K0.ext E51
 replace Z0 := Nat.le_trans Z0 E51.1
 replace Sf_b2 := Safe.ext E51 hCr.1 Sf_b2
 replace Sf_b40 := Safe.ext E51 hCr.1 Sf_b40
 replace Sf_b45 := Safe.ext E51 hCr.1 Sf_b45
 replace Sf_b50 := Safe.ext E51 hCr.1 Sf_b50
 replace Sf_b51 := Safe.ext E51 hCr.1 Sf_b51
 replace hk := Nat.le_trans hk E51.1
 replace hCr := hCr.trans (CHr.ext E51 hCr.1)
 have V_b51 : Arv Z h51 b51 k51 .char (4 : Int32) [(.int (0 : Int32)), (.int (0 : Int32)), (.int (0 : Int32)), (.int (0 : Int32))] (.int (0 : Int32)) := (Arv.new A51 (by decide)).pad (pad_rep [] (.int (0 : Int32)) 4)
 refine G (fun t k => XS.astore X51.here hx rfl (D at_597) rfl rfl (l' := #[vi p1, vi p2, vi p3, vi p4, vi p5, vi n, vi pt, vr b2, vr za16, vr za18, vi S0, vi kk0, vi kk1, vi kk2, vi kk3, vi dg, vi dt, vi ot, vi 1, vi P, vi IE, vr b40, vi s3, vr b45, vi t0, vr b50, vr b51, us, us, us]) rfl (XS.aload X51.here hx rfl (D at_599) rfl rfl k)) ?_
 refine sG T51 (mkF m 601 #[vi p1, vi p2, vi p3, vi p4, vi p5, vi n, vi pt, vr b2, vr za16, vr za18, vi S0, vi kk0, vi kk1, vi kk2, vi kk3, vi dg, vi dt, vi ot, vi 1, vi P, vi IE, vr b40, vi s3, vr b45, vi t0, vr b50, vr b51, us, us, us] [(.ref b2)]) ?_
 refine G (fun t k => XS.aload X51.here hx rfl (D at_601) rfl rfl (XS.aload X51.here hx rfl (D at_603) rfl rfl k)) ?_
 obtain ⟨_, T52, Lc52, X52, hQ52, st52⟩ := cS X51 hx hZ hown hml (wd158 hw) (wd159 hw) (wd3 hw) (wd160 hw) e51 0 [] (rm33 l Z a0 hw [] b2 b40 b50 k2 c0 c1 c2 c3 k40 x0 x1 x2 x3 k50 h51 n0 Z0 V_b2 V_b40 V_b50 ne_b2_b50 ne_b40_b50 g_b50) pd35 (mkF m 605 #[vi p1, vi p2, vi p3, vi p4, vi p5, vi n, vi pt, vr b2, vr za16, vr za18, vi S0, vi kk0, vi kk1, vi kk2, vi kk3, vi dg, vi dt, vi ot, vi 1, vi P, vi IE, vr b40, vi s3, vr b45, vi t0, vr b50, vr b51, us, us, us] [(.ref b50), (.ref b40), (.ref b2)]) (D at_605)
 refine G st52 ?_
 have V_b50_pre := V_b50
 obtain ⟨h52, e52⟩ : ∃ z, T52.heap = z := ⟨_, rfl⟩
 rw [e52] at hQ52
 obtain ⟨rfl, N52q, K52, Q52_0⟩ := hQ52
 replace SC := sta_keep SC K52 (allS (arv_ns V_b50_pre) all0)
 replace SI := sta_keep SI K52 (allS (arv_ns V_b50_pre) all0)
 replace V_b2 := V_b2.keep K52 (ninS ne_b2_b50 nin0)
 replace E_z_6_l0_18 := E_z_6_l0_18.keep K52
 replace F_r_v := F_r_v.keep K52 (ninS ne_z_6_l0_18_b50 nin0)
 replace E_xn := E_xn.keep K52
 replace F_xn_neg := F_xn_neg.keep K52 (ninS ne_xn_b50 nin0)
 replace F_xn_int := F_xn_int.keep K52 (ninS ne_xn_b50 nin0)
 replace F_xn_fra := F_xn_fra.keep K52 (ninS ne_xn_b50 nin0)
 replace E_si := E_si.keep K52
 replace F_si_v := F_si_v.keep K52 (ninS ne_si_b50 nin0)
 replace F_si_c := F_si_c.keep K52 (ninS ne_si_b50 nin0)
 replace V_bi := V_bi.keep K52 (ninS ne_bi_b50 nin0)
 replace E_sf := E_sf.keep K52
 replace F_sf_v := F_sf_v.keep K52 (ninS ne_sf_b50 nin0)
 replace F_sf_c := F_sf_c.keep K52 (ninS ne_sf_b50 nin0)
 replace V_bf := V_bf.keep K52 (ninS ne_bf_b50 nin0)
 replace V_b40 := V_b40.keep K52 (ninS ne_b40_b50 nin0)
 replace V_b45 := V_b45.keep K52 (ninS ne_b45_b50 nin0)
 replace V_b51 := V_b51.keep K52 (ninS (Ne.symm ne_b50_b51) nin0)
 have hCo := hCr.1
 have Sf_b50_o := Sf_b50
 replace Sf_b2 := Safe.keep K52 (allS Sf_b50_o all0) hCo Sf_b2
 replace Sf_b40 := Safe.keep K52 (allS Sf_b50_o all0) hCo Sf_b40
 replace Sf_b45 := Safe.keep K52 (allS Sf_b50_o all0) hCo Sf_b45
 replace Sf_b50 := Safe.keep K52 (allS Sf_b50_o all0) hCo Sf_b50
 replace Sf_b51 := Safe.keep K52 (allS Sf_b50_o all0) hCo Sf_b51
 replace hk := Nat.le_trans hk K52.1
 replace hCr := hCr.trans (CHr.keep K52 (allS Sf_b50_o all0) hCo)
 clear hCo Sf_b50_o
 replace Z0 := Nat.le_trans Z0 K52.1
 replace K0 := K0.trans K52 (allS (Or.inr sz_b50) all0)
 clear V_b50_pre
 have V_b50 := Q52_0
 have N52 := Fr.app NJ N52q
 refine G (fun t k => XS.istore X52.here hx rfl (D at_608) rfl (l' := #[vi p1, vi p2, vi p3, vi p4, vi p5, vi n, vi pt, vr b2, vr za16, vr za18, vi S0, vi kk0, vi kk1, vi kk2, vi kk3, vi dg, vi dt, vi ot, vi 1, vi P, vi IE, vr b40, vi s3, vr b45, vi t0, vr b50, vr b51, vi (f33 x0 x1 x2 x3), us, us]) rfl (XS.aload X52.here hx rfl (D at_610) rfl rfl (XS.aload X52.here hx rfl (D at_612) rfl rfl (XS.aload X52.here hx rfl (D at_614) rfl rfl k)))) ?_
 refine sG T52 (mkF m 616 #[vi p1, vi p2, vi p3, vi p4, vi p5, vi n, vi pt, vr b2, vr za16, vr za18, vi S0, vi kk0, vi kk1, vi kk2, vi kk3, vi dg, vi dt, vi ot, vi 1, vi P, vi IE, vr b40, vi s3, vr b45, vi t0, vr b50, vr b51, vi (f33 x0 x1 x2 x3), us, us] [(.ref b51), (.ref b45), (.ref b2)]) ?_
 obtain ⟨_, T53, Lc53, X53, hQ53, st53⟩ := cS X52 hx hZ hown hml (wd158 hw) (wd159 hw) (wd3 hw) (wd160 hw) e52 0 [] (rm33 l Z a0 hw [] b2 b45 b51 k2 c0 c1 c2 c3 k45 y0 y1 y2 y3 k51 h52 n0 Z0 V_b2 V_b45 V_b51 ne_b2_b51 ne_b45_b51 g_b51) pd35 (mkF m 616 #[vi p1, vi p2, vi p3, vi p4, vi p5, vi n, vi pt, vr b2, vr za16, vr za18, vi S0, vi kk0, vi kk1, vi kk2, vi kk3, vi dg, vi dt, vi ot, vi 1, vi P, vi IE, vr b40, vi s3, vr b45, vi t0, vr b50, vr b51, vi (f33 x0 x1 x2 x3), us, us] [(.ref b51), (.ref b45), (.ref b2)]) (D at_616)
 refine G st53 ?_
 have V_b51_pre := V_b51
 obtain ⟨h53, e53⟩ : ∃ z, T53.heap = z := ⟨_, rfl⟩
 rw [e53] at hQ53
 obtain ⟨rfl, N53q, K53, Q53_0⟩ := hQ53
 replace SC := sta_keep SC K53 (allS (arv_ns V_b51_pre) all0)
 replace SI := sta_keep SI K53 (allS (arv_ns V_b51_pre) all0)
 replace V_b2 := V_b2.keep K53 (ninS ne_b2_b51 nin0)
 replace E_z_6_l0_18 := E_z_6_l0_18.keep K53
 replace F_r_v := F_r_v.keep K53 (ninS ne_z_6_l0_18_b51 nin0)
 replace E_xn := E_xn.keep K53
 replace F_xn_neg := F_xn_neg.keep K53 (ninS ne_xn_b51 nin0)
 replace F_xn_int := F_xn_int.keep K53 (ninS ne_xn_b51 nin0)
 replace F_xn_fra := F_xn_fra.keep K53 (ninS ne_xn_b51 nin0)
 replace E_si := E_si.keep K53
 replace F_si_v := F_si_v.keep K53 (ninS ne_si_b51 nin0)
 replace F_si_c := F_si_c.keep K53 (ninS ne_si_b51 nin0)
 replace V_bi := V_bi.keep K53 (ninS ne_bi_b51 nin0)
 replace E_sf := E_sf.keep K53
 replace F_sf_v := F_sf_v.keep K53 (ninS ne_sf_b51 nin0)
 replace F_sf_c := F_sf_c.keep K53 (ninS ne_sf_b51 nin0)
 replace V_bf := V_bf.keep K53 (ninS ne_bf_b51 nin0)
 replace V_b40 := V_b40.keep K53 (ninS ne_b40_b51 nin0)
 replace V_b45 := V_b45.keep K53 (ninS ne_b45_b51 nin0)
 replace V_b50 := V_b50.keep K53 (ninS ne_b50_b51 nin0)
 have hCo := hCr.1
 have Sf_b51_o := Sf_b51
 replace Sf_b2 := Safe.keep K53 (allS Sf_b51_o all0) hCo Sf_b2
 replace Sf_b40 := Safe.keep K53 (allS Sf_b51_o all0) hCo Sf_b40
 replace Sf_b45 := Safe.keep K53 (allS Sf_b51_o all0) hCo Sf_b45
 replace Sf_b50 := Safe.keep K53 (allS Sf_b51_o all0) hCo Sf_b50
 replace Sf_b51 := Safe.keep K53 (allS Sf_b51_o all0) hCo Sf_b51
 replace hk := Nat.le_trans hk K53.1
 replace hCr := hCr.trans (CHr.keep K53 (allS Sf_b51_o all0) hCo)
 clear hCo Sf_b51_o
 replace Z0 := Nat.le_trans Z0 K53.1
 replace K0 := K0.trans K53 (allS (Or.inr sz_b51) all0)
 clear V_b51_pre
 have V_b51 := Q53_0
 have N53 := Fr.app N52 N53q
 refine G (fun t k => XS.istore X53.here hx rfl (D at_619) rfl (l' := #[vi p1, vi p2, vi p3, vi p4, vi p5, vi n, vi pt, vr b2, vr za16, vr za18, vi S0, vi kk0, vi kk1, vi kk2, vi kk3, vi dg, vi dt, vi ot, vi 1, vi P, vi IE, vr b40, vi s3, vr b45, vi t0, vr b50, vr b51, vi (f33 x0 x1 x2 x3), vi (f33 y0 y1 y2 y3), us]) rfl k) ?_
 refine sG T53 (mkF m 621 #[vi p1, vi p2, vi p3, vi p4, vi p5, vi n, vi pt, vr b2, vr za16, vr za18, vi S0, vi kk0, vi kk1, vi kk2, vi kk3, vi dg, vi dt, vi ot, vi 1, vi P, vi IE, vr b40, vi s3, vr b45, vi t0, vr b50, vr b51, vi (f33 x0 x1 x2 x3), vi (f33 y0 y1 y2 y3), us] []) ?_
 exact TJ0_54 l Z a0 hw ws p1 p2 p3 p4 p5 wC w_S w_EMPTY h0 n0 Bd hml0 hZ hown hh X53 e53 N53 K0 Z0 hS hk hCr SC SI V_b2 E_z_6_l0_18 F_r_v E_xn F_xn_neg F_xn_int F_xn_fra E_si F_si_v F_si_c V_bi E_sf F_sf_v F_sf_c V_bf V_b50 V_b51 Sf_b2 Sf_b50 Sf_b51 hM hPN hcs hrS (own_col hc0 hc1 hc2 hc3 (own_rI hM hPN) hx0 hx1 hx2 hx3) (own_col hc0 hc1 hc2 hc3 (own_rF hM hPN) hy0 hy1 hy2 hy3)
theorem TJ0_48 (l : Launch) (Z : State) (a0 : Array Value) (hw : HW a0 Z) (ws : List Jvm.Cond) (p1 : Int32) (p2 : Int32) (p3 : Int32) (p4 : Int32) (p5 : Int32) (wC : Int32) (w_S : Value) (w_EMPTY : Addr) (h0 : Heap) (n0 : Nat) {p : Program} {e : Env} {s : State} {m : MethodId} {below : List Frame} {meth : Method} {c : Code} {s₁ : State} (Bd : BodyLoose p l x (head1 (Cond.code x code maxLocals ret :: ws) room_1) code maxLocals ret e s m #[(.int p1), (.int p2), (.int p3), (.int p4), (.int p5)] below meth c s₁) (hml0 : c.maxLocals = maxLocals) {VM : Vm} {kS : Nat} (hZ : Z.Warmed39 (s.setVm VM).vm) (hown : (s.setVm VM).vm.findClass LW = some m.cls) (hh : s.heap = h0) {TJ : State} {locsJ : List Loc} {hJ : Heap} {b2 : Addr} {b40 : Addr} {b45 : Addr} {bf : Addr} {bi : Addr} {sf : Addr} {si : Addr} {xn : Addr} {za16 : Addr} {za18 : Addr} {k2 : ClassId} {ki : ClassId} {kf : ClassId} {k40 : ClassId} {k45 : ClassId} {pt : Int32} {n : Int32} {c0 : Int32} {c1 : Int32} {c2 : Int32} {c3 : Int32} {bs : List Int32} {S0 : Int32} {kk0 : Int32} {kk1 : Int32} {kk2 : Int32} {kk3 : Int32} {dg : Int32} {dt : Int32} {ot : Int32} {st : Int32} {pa : Int32} {ie : Int32} {fi : Int32} {fa : Int32} {la : Int32} {P : Int32} {IE : Int32} {x0 : Int32} {x1 : Int32} {x2 : Int32} {s3 : Int32} {x3 : Int32} {y3 : Int32} {y2 : Int32} {t1 : Int32} {y1 : Int32} (XJ : Stand p l e room_1 (s.setVm VM) m #[(.int p1), (.int p2), (.int p3), (.int p4), (.int p5)] below meth c TJ locsJ 21 68) (eJ : TJ.heap = hJ) (NJ : Fr n0 locsJ) (K0 : Keep h0 hJ []) (Z0 : n0 ≤ hJ.size) (hS : s.Since VM kS) (hk : kS ≤ hJ.size) (hCr : CHr Z consts_1 s.vm h0 VM hJ) (SC : Sta Z hJ SN "COMPACT_STRINGS" "Z" (.int wC)) (SI : Sta Z hJ PC "SIOOBE_FORMATTER" BF w_S) (V_b2 : Arv Z hJ b2 k2 .char (4 : Int32) [(.int c0), (.int c1), (.int c2), (.int c3)] (.int (0 : Int32))) (E_z_6_l0_18 : Exa Z hJ za18 OP) (F_r_v : Fld Z hJ za18 OP "value" "Ljava/lang/Object;" (.ref xn)) (E_xn : Exa Z hJ xn NU) (F_xn_neg : Fld Z hJ xn NU "negative" "Z" (.int (((f8 bs n (45 : Int32)) &&& 1) &&& 1))) (F_xn_int : Fld Z hJ xn NU "integer" LS (.ref si)) (F_xn_fra : Fld Z hJ xn NU "fraction" LS (.ref sf)) (E_si : Exa Z hJ si SN) (F_si_v : Fld Z hJ si SN "value" "[B" (.ref bi)) (F_si_c : Fld Z hJ si SN "coder" "B" (.int (0 : Int32))) (V_bi : Arv Z hJ bi ki .byte (ie - fi) (List.map Value.int (slice bs fi (ie - fi))) (.int (0 : Int32))) (E_sf : Exa Z hJ sf SN) (F_sf_v : Fld Z hJ sf SN "value" "[B" (.ref bf)) (F_sf_c : Fld Z hJ sf SN "coder" "B" (.int (0 : Int32))) (V_bf : Arv Z hJ bf kf .byte (la - fa) (List.map Value.int (slice bs fa (la - fa))) (.int (0 : Int32))) (V_b40 : Arv Z hJ b40 k40 .boolean (4 : Int32) [(.int x0), (.int x1), (.int x2), (.int x3)] (.int (0 : Int32))) (V_b45 : Arv Z hJ b45 k45 .boolean (4 : Int32) [(.int (0 : Int32)), (.int y1), (.int y2), (.int y3)] (.int (0 : Int32))) (Sf_b2 : Safe Z consts_1 VM hJ b2) (Sf_b40 : Safe Z consts_1 VM hJ b40) (Sf_b45 : Safe Z consts_1 VM hJ b45) (hM : Mk bs n c0 c1 c2 c3) (hPN : PN bs n pt st pa ie fi fa la) (hc0 : 0 ≤ c0.toInt ∧ c0.toInt ≤ 255) (hc1 : 0 ≤ c1.toInt ∧ c1.toInt ≤ 255) (hc2 : 0 ≤ c2.toInt ∧ c2.toInt ≤ 255) (hc3 : 0 ≤ c3.toInt ∧ c3.toInt ≤ 255) (hx0 : Bit x0 (fi.toInt ≤ 0 ∧ 0 < ie.toInt)) (hx1 : Bit x1 (fi.toInt ≤ 1 ∧ 1 < ie.toInt)) (hx2 : Bit x2 (fi.toInt ≤ 2 ∧ 2 < ie.toInt)) (hx3 : Bit x3 (fi.toInt ≤ 3 ∧ 3 < ie.toInt)) (hy2 : Bit y2 (fa.toInt ≤ 2 ∧ 2 < la.toInt)) (hy3 : Bit y3 (fa.toInt ≤ 3 ∧ 3 < la.toInt)) (hP : P = pa) (hcs : ¬ wC = (0 : Int32)) (hrS : w_S.isRef = true) (hy1 : Bit y1 (fa.toInt ≤ 1 ∧ 1 < la.toInt)) (ht1 : Bit t1 (fa.toInt < la.toInt ∧ 1 < la.toInt)) :
  Go p.tables e below (TJ.setTop (mkF m 554 #[vi p1, vi p2, vi p3, vi p4, vi p5, vi n, vi pt, vr b2, vr za16, vr za18, vi S0, vi kk0, vi kk1, vi kk2, vi kk3, vi dg, vi dt, vi ot, vi 1, vi P, vi IE, vr b40, vi s3, vr b45, vi t1, us, us, us, us, us] [])) (fun o U' => ∃ v L, o = .returned v ∧ Q0 Z p1 p2 p3 p4 p5 wC w_S w_EMPTY h0 n0 v U'.heap L ∧ CHr Z consts_1 s.vm s.heap U'.vm U'.heap ∧ ReturnedEndW s o U' L 48 5312) := by
 have hx := Bd.exec
 have D := @hb _ _ Bd.bytes
 have hml : c.maxLocals = 30 := hml0
 have hnm := (name_of_methodNamed Bd.named Bd.method).1
 refine G (fun t k => XS.iload XJ.here hx rfl (D at_554) rfl k) ?_
 by_cases hc71 : P < (0 : Int32)
 ·refine G (fun t k => XS.ifYes XJ.here hx rfl (pc0 := 556) (pc' := 589) rfl (D at_556) rfl ((if0 _ _).trans (tlt hc71).1) (by decide) (by decide) k) ?_
  refine sG TJ (mkF m 589 #[vi p1, vi p2, vi p3, vi p4, vi p5, vi n, vi pt, vr b2, vr za16, vr za18, vi S0, vi kk0, vi kk1, vi kk2, vi kk3, vi dg, vi dt, vi ot, vi 1, vi P, vi IE, vr b40, vi s3, vr b45, vi t1, us, us, us, us, us] []) ?_
  have hz72 := (own_fmS hM hPN hP (0 : Int32) 0 rfl ht1 (Or.inl hc71))
  exact TJ0_49 l Z a0 hw ws p1 p2 p3 p4 p5 wC w_S w_EMPTY h0 n0 Bd hml0 hZ hown hh XJ eJ NJ K0 Z0 hS hk hCr SC SI V_b2 E_z_6_l0_18 F_r_v E_xn F_xn_neg F_xn_int F_xn_fra E_si F_si_v F_si_c V_bi E_sf F_sf_v F_sf_c V_bf V_b40 V_b45 Sf_b2 Sf_b40 Sf_b45 hM hPN hc0 hc1 hc2 hc3 hx0 hx1 hx2 hx3 hy1 hy2 hy3 hcs hrS hz72.1 hz72.2
 ·refine G (fun t k => XS.ifNo XJ.here hx rfl (D at_556) rfl ((if0 _ _).trans (flt hc71).1) (XS.iconst XJ.here hx rfl (D at_559) (XS.iload XJ.here hx rfl (D at_560) rfl (XS.icmpYes XJ.here hx rfl (pc0 := 562) (pc' := 589) rfl (D at_562) rfl (flt hc71).2.2.2 (by decide) (by decide) k)))) ?_
  refine sG TJ (mkF m 589 #[vi p1, vi p2, vi p3, vi p4, vi p5, vi n, vi pt, vr b2, vr za16, vr za18, vi S0, vi kk0, vi kk1, vi kk2, vi kk3, vi dg, vi dt, vi ot, vi 1, vi P, vi IE, vr b40, vi s3, vr b45, vi t1, us, us, us, us, us] []) ?_
  have hz73 := (own_fmS hM hPN hP (0 : Int32) 0 rfl ht1 (Or.inr (Or.inl hc71)))
  exact TJ0_49 l Z a0 hw ws p1 p2 p3 p4 p5 wC w_S w_EMPTY h0 n0 Bd hml0 hZ hown hh XJ eJ NJ K0 Z0 hS hk hCr SC SI V_b2 E_z_6_l0_18 F_r_v E_xn F_xn_neg F_xn_int F_xn_fra E_si F_si_v F_si_c V_bi E_sf F_sf_v F_sf_c V_bf V_b40 V_b45 Sf_b2 Sf_b40 Sf_b45 hM hPN hc0 hc1 hc2 hc3 hx0 hx1 hx2 hx3 hy1 hy2 hy3 hcs hrS hz73.1 hz73.2
theorem TJ0_47 (l : Launch) (Z : State) (a0 : Array Value) (hw : HW a0 Z) (ws : List Jvm.Cond) (p1 : Int32) (p2 : Int32) (p3 : Int32) (p4 : Int32) (p5 : Int32) (wC : Int32) (w_S : Value) (w_EMPTY : Addr) (h0 : Heap) (n0 : Nat) {p : Program} {e : Env} {s : State} {m : MethodId} {below : List Frame} {meth : Method} {c : Code} {s₁ : State} (Bd : BodyLoose p l x (head1 (Cond.code x code maxLocals ret :: ws) room_1) code maxLocals ret e s m #[(.int p1), (.int p2), (.int p3), (.int p4), (.int p5)] below meth c s₁) (hml0 : c.maxLocals = maxLocals) {VM : Vm} {kS : Nat} (hZ : Z.Warmed39 (s.setVm VM).vm) (hown : (s.setVm VM).vm.findClass LW = some m.cls) (hh : s.heap = h0) {TJ : State} {locsJ : List Loc} {hJ : Heap} {b2 : Addr} {b40 : Addr} {b45 : Addr} {bf : Addr} {bi : Addr} {sf : Addr} {si : Addr} {xn : Addr} {za16 : Addr} {za18 : Addr} {k2 : ClassId} {ki : ClassId} {kf : ClassId} {k40 : ClassId} {k45 : ClassId} {pt : Int32} {n : Int32} {c0 : Int32} {c1 : Int32} {c2 : Int32} {c3 : Int32} {bs : List Int32} {S0 : Int32} {kk0 : Int32} {kk1 : Int32} {kk2 : Int32} {kk3 : Int32} {dg : Int32} {dt : Int32} {ot : Int32} {st : Int32} {pa : Int32} {ie : Int32} {fi : Int32} {fa : Int32} {la : Int32} {P : Int32} {IE : Int32} {x0 : Int32} {x1 : Int32} {x2 : Int32} {s3 : Int32} {x3 : Int32} {y3 : Int32} {t2 : Int32} {y2 : Int32} (XJ : Stand p l e room_1 (s.setVm VM) m #[(.int p1), (.int p2), (.int p3), (.int p4), (.int p5)] below meth c TJ locsJ 21 68) (eJ : TJ.heap = hJ) (NJ : Fr n0 locsJ) (K0 : Keep h0 hJ []) (Z0 : n0 ≤ hJ.size) (hS : s.Since VM kS) (hk : kS ≤ hJ.size) (hCr : CHr Z consts_1 s.vm h0 VM hJ) (SC : Sta Z hJ SN "COMPACT_STRINGS" "Z" (.int wC)) (SI : Sta Z hJ PC "SIOOBE_FORMATTER" BF w_S) (V_b2 : Arv Z hJ b2 k2 .char (4 : Int32) [(.int c0), (.int c1), (.int c2), (.int c3)] (.int (0 : Int32))) (E_z_6_l0_18 : Exa Z hJ za18 OP) (F_r_v : Fld Z hJ za18 OP "value" "Ljava/lang/Object;" (.ref xn)) (E_xn : Exa Z hJ xn NU) (F_xn_neg : Fld Z hJ xn NU "negative" "Z" (.int (((f8 bs n (45 : Int32)) &&& 1) &&& 1))) (F_xn_int : Fld Z hJ xn NU "integer" LS (.ref si)) (F_xn_fra : Fld Z hJ xn NU "fraction" LS (.ref sf)) (E_si : Exa Z hJ si SN) (F_si_v : Fld Z hJ si SN "value" "[B" (.ref bi)) (F_si_c : Fld Z hJ si SN "coder" "B" (.int (0 : Int32))) (V_bi : Arv Z hJ bi ki .byte (ie - fi) (List.map Value.int (slice bs fi (ie - fi))) (.int (0 : Int32))) (E_sf : Exa Z hJ sf SN) (F_sf_v : Fld Z hJ sf SN "value" "[B" (.ref bf)) (F_sf_c : Fld Z hJ sf SN "coder" "B" (.int (0 : Int32))) (V_bf : Arv Z hJ bf kf .byte (la - fa) (List.map Value.int (slice bs fa (la - fa))) (.int (0 : Int32))) (V_b40 : Arv Z hJ b40 k40 .boolean (4 : Int32) [(.int x0), (.int x1), (.int x2), (.int x3)] (.int (0 : Int32))) (V_b45 : Arv Z hJ b45 k45 .boolean (4 : Int32) [(.int (0 : Int32)), (.int (0 : Int32)), (.int y2), (.int y3)] (.int (0 : Int32))) (Sf_b2 : Safe Z consts_1 VM hJ b2) (Sf_b40 : Safe Z consts_1 VM hJ b40) (Sf_b45 : Safe Z consts_1 VM hJ b45) (ne_b2_b45 : b2 ≠ b45) (ne_z_6_l0_18_b45 : za18 ≠ b45) (ne_xn_b45 : xn ≠ b45) (ne_si_b45 : si ≠ b45) (ne_bi_b45 : bi ≠ b45) (ne_sf_b45 : sf ≠ b45) (ne_bf_b45 : bf ≠ b45) (ne_b40_b45 : b40 ≠ b45) (g_b45 : n0 ≤ b45) (sz_b45 : h0.size ≤ b45) (hM : Mk bs n c0 c1 c2 c3) (hPN : PN bs n pt st pa ie fi fa la) (hc0 : 0 ≤ c0.toInt ∧ c0.toInt ≤ 255) (hc1 : 0 ≤ c1.toInt ∧ c1.toInt ≤ 255) (hc2 : 0 ≤ c2.toInt ∧ c2.toInt ≤ 255) (hc3 : 0 ≤ c3.toInt ∧ c3.toInt ≤ 255) (hx0 : Bit x0 (fi.toInt ≤ 0 ∧ 0 < ie.toInt)) (hx1 : Bit x1 (fi.toInt ≤ 1 ∧ 1 < ie.toInt)) (hx2 : Bit x2 (fi.toInt ≤ 2 ∧ 2 < ie.toInt)) (hx3 : Bit x3 (fi.toInt ≤ 3 ∧ 3 < ie.toInt)) (hy3 : Bit y3 (fa.toInt ≤ 3 ∧ 3 < la.toInt)) (hP : P = pa) (hcs : ¬ wC = (0 : Int32)) (hrS : w_S.isRef = true) (hy2 : Bit y2 (fa.toInt ≤ 2 ∧ 2 < la.toInt)) (ht2 : Bit t2 (fa.toInt < la.toInt ∧ 2 < la.toInt)) :
  Go p.tables e below (TJ.setTop (mkF m 519 #[vi p1, vi p2, vi p3, vi p4, vi p5, vi n, vi pt, vr b2, vr za16, vr za18, vi S0, vi kk0, vi kk1, vi kk2, vi kk3, vi dg, vi dt, vi ot, vi 1, vi P, vi IE, vr b40, vi s3, vr b45, vi t2, us, us, us, us, us] [])) (fun o U' => ∃ v L, o = .returned v ∧ Q0 Z p1 p2 p3 p4 p5 wC w_S w_EMPTY h0 n0 v U'.heap L ∧ CHr Z consts_1 s.vm s.heap U'.vm U'.heap ∧ ReturnedEndW s o U' L 48 5312) := by
 have hx := Bd.exec
 have D := @hb _ _ Bd.bytes
 have hml : c.maxLocals = 30 := hml0
 have hnm := (name_of_methodNamed Bd.named Bd.method).1
 have J74 : ∀ (TJ : State) (locsJ : List Loc) (zz : Int32), Stand p l e room_1 (s.setVm VM) m #[(.int p1), (.int p2), (.int p3), (.int p4), (.int p5)] below meth c TJ locsJ 21 68 → TJ.heap = hJ → Fr n0 locsJ → (Bit (zz &&& 1) (fa.toInt ≤ 1 ∧ 1 < la.toInt) ∧ Bit zz (fa.toInt < la.toInt ∧ 1 < la.toInt)) → Go p.tables e below (TJ.setTop (mkF m 548 #[vi p1, vi p2, vi p3, vi p4, vi p5, vi n, vi pt, vr b2, vr za16, vr za18, vi S0, vi kk0, vi kk1, vi kk2, vi kk3, vi dg, vi dt, vi ot, vi 1, vi P, vi IE, vr b40, vi s3, vr b45, vi zz, us, us, us, us, us] [])) (fun o U' => ∃ v L, o = .returned v ∧ Q0 Z p1 p2 p3 p4 p5 wC w_S w_EMPTY h0 n0 v U'.heap L ∧ CHr Z consts_1 s.vm s.heap U'.vm U'.heap ∧ ReturnedEndW s o U' L 48 5312) := by
  intro TJ locsJ zz XJ eJ NJ hz
  refine G (fun t k => XS.aload XJ.here hx rfl (D at_548) rfl rfl (XS.iconst XJ.here hx rfl (D at_550) (XS.iload XJ.here hx rfl (D at_551) rfl k))) ?_
  obtain ⟨cl75, Ar75, qq75, Sz75, Ng75, Hs75, Gs75⟩ := id V_b45
  have hin75 := inb_of (j := (1 : Int32)) (c := cl75) Sz75 ⟨by decide, by decide⟩
  obtain ⟨T76, h76, X76, e76, W76, st76⟩ := stZ XJ hx hZ eJ Ar75 (j := (1 : Int32)) hin75 (g := (mkF m 553 #[vi p1, vi p2, vi p3, vi p4, vi p5, vi n, vi pt, vr b2, vr za16, vr za18, vi S0, vi kk0, vi kk1, vi kk2, vi kk3, vi dg, vi dt, vi ot, vi 1, vi P, vi IE, vr b40, vi s3, vr b45, vi zz, us, us, us, us, us] [(.int zz), (.int 1), (.ref b45)])) rfl rfl (D at_553)
  refine G st76 ?_
  have N76 := Fr.snoc X76 NJ g_b45
  have hCo := hCr.1
  have Sfo := Sf_b45
  replace Sf_b2 := Safe.wr W76 Sfo hCo Sf_b2
  replace Sf_b40 := Safe.wr W76 Sfo hCo Sf_b40
  replace Sf_b45 := Safe.wr W76 Sfo hCo Sf_b45
  replace hk := Nat.le_trans hk (Nat.le_of_eq W76.size.symm)
  replace hCr := hCr.trans (CHr.wr W76 Sfo hCo)
  clear hCo Sfo
  replace SC := SC.wr W76
  replace SI := SI.wr W76
  replace V_b2 := V_b2.other W76 ne_b2_b45
  replace E_z_6_l0_18 := E_z_6_l0_18.wr W76
  replace F_r_v := F_r_v.other W76 (Or.inl ne_z_6_l0_18_b45)
  replace E_xn := E_xn.wr W76
  replace F_xn_neg := F_xn_neg.other W76 (Or.inl ne_xn_b45)
  replace F_xn_int := F_xn_int.other W76 (Or.inl ne_xn_b45)
  replace F_xn_fra := F_xn_fra.other W76 (Or.inl ne_xn_b45)
  replace E_si := E_si.wr W76
  replace F_si_v := F_si_v.other W76 (Or.inl ne_si_b45)
  replace F_si_c := F_si_c.other W76 (Or.inl ne_si_b45)
  replace V_bi := V_bi.other W76 ne_bi_b45
  replace E_sf := E_sf.wr W76
  replace F_sf_v := F_sf_v.other W76 (Or.inl ne_sf_b45)
  replace F_sf_c := F_sf_c.other W76 (Or.inl ne_sf_b45)
  replace V_bf := V_bf.other W76 ne_bf_b45
  replace V_b40 := V_b40.other W76 ne_b40_b45
  replace Z0 := Nat.le_trans Z0 (Nat.le_of_eq W76.size.symm)
  replace K0 := K0.wr W76 (Or.inr sz_b45)
  replace V_b45 : Arv Z h76 b45 k45 .boolean (4 : Int32) [(.int (0 : Int32)), (.int (zz &&& 1)), (.int y2), (.int y3)] (.int (0 : Int32)) := Arv.set Ar75 qq75 Sz75 Ng75 Hs75 Gs75 (fits_nar_bool _) W76 1 rfl (Nat.le_of_ble_eq_true rfl)
  clear hin75 Gs75 Hs75 Ng75 Sz75 qq75 Ar75 cl75
  refine sG T76 (mkF m 554 #[vi p1, vi p2, vi p3, vi p4, vi p5, vi n, vi pt, vr b2, vr za16, vr za18, vi S0, vi kk0, vi kk1, vi kk2, vi kk3, vi dg, vi dt, vi ot, vi 1, vi P, vi IE, vr b40, vi s3, vr b45, vi zz, us, us, us, us, us] []) ?_
  exact TJ0_48 l Z a0 hw ws p1 p2 p3 p4 p5 wC w_S w_EMPTY h0 n0 Bd hml0 hZ hown hh X76 e76 N76 K0 Z0 hS hk hCr SC SI V_b2 E_z_6_l0_18 F_r_v E_xn F_xn_neg F_xn_int F_xn_fra E_si F_si_v F_si_c V_bi E_sf F_sf_v F_sf_c V_bf V_b40 V_b45 Sf_b2 Sf_b40 Sf_b45 hM hPN hc0 hc1 hc2 hc3 hx0 hx1 hx2 hx3 hy2 hy3 hP hcs hrS hz.1 hz.2
 refine G (fun t k => XS.iload XJ.here hx rfl (D at_519) rfl k) ?_
 by_cases hc77 : P < (0 : Int32)
 ·refine G (fun t k => XS.ifYes XJ.here hx rfl (pc0 := 521) (pc' := 554) rfl (D at_521) rfl ((if0 _ _).trans (tlt hc77).1) (by decide) (by decide) k) ?_
  refine sG TJ (mkF m 554 #[vi p1, vi p2, vi p3, vi p4, vi p5, vi n, vi pt, vr b2, vr za16, vr za18, vi S0, vi kk0, vi kk1, vi kk2, vi kk3, vi dg, vi dt, vi ot, vi 1, vi P, vi IE, vr b40, vi s3, vr b45, vi t2, us, us, us, us, us] []) ?_
  have hz78 := (own_fmS hM hPN hP (1 : Int32) 1 rfl ht2 (Or.inl hc77))
  exact TJ0_48 l Z a0 hw ws p1 p2 p3 p4 p5 wC w_S w_EMPTY h0 n0 Bd hml0 hZ hown hh XJ eJ NJ K0 Z0 hS hk hCr SC SI V_b2 E_z_6_l0_18 F_r_v E_xn F_xn_neg F_xn_int F_xn_fra E_si F_si_v F_si_c V_bi E_sf F_sf_v F_sf_c V_bf V_b40 V_b45 Sf_b2 Sf_b40 Sf_b45 hM hPN hc0 hc1 hc2 hc3 hx0 hx1 hx2 hx3 hy2 hy3 hP hcs hrS hz78.1 hz78.2
 ·refine G (fun t k => XS.ifNo XJ.here hx rfl (D at_521) rfl ((if0 _ _).trans (flt hc77).1) (XS.iconst XJ.here hx rfl (D at_524) (XS.iload XJ.here hx rfl (D at_525) rfl k))) ?_
  by_cases hc79 : P < (1 : Int32)
  ·refine G (fun t k => XS.icmpNo XJ.here hx rfl (D at_527) rfl (tlt hc79).2.2.2 (XS.iconst XJ.here hx rfl (D at_530) (XS.iload XJ.here hx rfl (D at_531) rfl k))) ?_
   refine sG TJ (mkF m 533 #[vi p1, vi p2, vi p3, vi p4, vi p5, vi n, vi pt, vr b2, vr za16, vr za18, vi S0, vi kk0, vi kk1, vi kk2, vi kk3, vi dg, vi dt, vi ot, vi 1, vi P, vi IE, vr b40, vi s3, vr b45, vi t2, us, us, us, us, us] [(.int n), (.int 1)]) ?_
   by_cases hc80 : (1 : Int32) < n
   ·refine G (fun t k => XS.icmpNo XJ.here hx rfl (D at_533) rfl (tlt hc80).2.1 (XS.aload XJ.here hx rfl (D at_536) rfl rfl (XS.iconst XJ.here hx rfl (D at_538) k))) ?_
    obtain ⟨cl81, Ar81, -, Sz81, Ng81, Hs81, -⟩ := id V_b2
    have hin81 := inb_of (j := (1 : Int32)) (c := cl81) Sz81 ⟨by decide, by decide⟩
    refine G (fun t k => XJ.caload hx (j := (1 : Int32)) (v := (.int c1)) (by rw [eJ]; exact Ar81.1) (State.isArrayOf_alike hZ.alike Ar81.2.1) Ar81.2.2 hin81 (Has.at Hs81 hin81 rfl) (g := (mkF m 539 #[vi p1, vi p2, vi p3, vi p4, vi p5, vi n, vi pt, vr b2, vr za16, vr za18, vi S0, vi kk0, vi kk1, vi kk2, vi kk3, vi dg, vi dt, vi ot, vi 1, vi P, vi IE, vr b40, vi s3, vr b45, vi t2, us, us, us, us, us] [(.int 1), (.ref b2)])) rfl rfl (D at_539) _ k) ?_
    clear hin81 Hs81 Ng81 Sz81 Ar81 cl81
    refine G (fun t k => XS.bipush XJ.here hx rfl (D at_540) k) ?_
    by_cases hc82 : c1 = (48 : Int32)
    ·refine G (fun t k => XS.icmpYes XJ.here hx rfl (pc0 := 542) (pc' := 548) rfl (D at_542) rfl (teq hc82).1 (by decide) (by decide) k) ?_
     refine sG TJ (mkF m 548 #[vi p1, vi p2, vi p3, vi p4, vi p5, vi n, vi pt, vr b2, vr za16, vr za18, vi S0, vi kk0, vi kk1, vi kk2, vi kk3, vi dg, vi dt, vi ot, vi 1, vi P, vi IE, vr b40, vi s3, vr b45, vi t2, us, us, us, us, us] []) ?_
     exact J74 _ _ t2 XJ eJ NJ (own_fm0 hM hPN hP (1 : Int32) 1 rfl ht2 hc77 hc79 hc80 (own_ch1 hM) hc82)
    ·refine G (fun t k => XS.icmpNo XJ.here hx rfl (D at_542) rfl (feq hc82).1 (XS.iconst XJ.here hx rfl (D at_545) k)) ?_
     refine sG TJ (mkF m 546 #[vi p1, vi p2, vi p3, vi p4, vi p5, vi n, vi pt, vr b2, vr za16, vr za18, vi S0, vi kk0, vi kk1, vi kk2, vi kk3, vi dg, vi dt, vi ot, vi 1, vi P, vi IE, vr b40, vi s3, vr b45, vi t2, us, us, us, us, us] [(.int 1)]) ?_
     refine G (fun t k => XS.istore XJ.here hx rfl (D at_546) rfl (l' := #[vi p1, vi p2, vi p3, vi p4, vi p5, vi n, vi pt, vr b2, vr za16, vr za18, vi S0, vi kk0, vi kk1, vi kk2, vi kk3, vi dg, vi dt, vi ot, vi 1, vi P, vi IE, vr b40, vi s3, vr b45, vi 1, us, us, us, us, us]) rfl k) ?_
     refine sG TJ (mkF m 548 #[vi p1, vi p2, vi p3, vi p4, vi p5, vi n, vi pt, vr b2, vr za16, vr za18, vi S0, vi kk0, vi kk1, vi kk2, vi kk3, vi dg, vi dt, vi ot, vi 1, vi P, vi IE, vr b40, vi s3, vr b45, vi 1, us, us, us, us, us] []) ?_
     exact J74 _ _ (1 : Int32) XJ eJ NJ (own_fm1 hM hPN hP (1 : Int32) 1 rfl ht2 hc77 hc79 hc80 (own_ch1 hM) hc82)
   ·refine G (fun t k => XS.icmpYes XJ.here hx rfl (pc0 := 533) (pc' := 554) rfl (D at_533) rfl (flt hc80).2.1 (by decide) (by decide) k) ?_
    refine sG TJ (mkF m 554 #[vi p1, vi p2, vi p3, vi p4, vi p5, vi n, vi pt, vr b2, vr za16, vr za18, vi S0, vi kk0, vi kk1, vi kk2, vi kk3, vi dg, vi dt, vi ot, vi 1, vi P, vi IE, vr b40, vi s3, vr b45, vi t2, us, us, us, us, us] []) ?_
    have hz83 := (own_fmS hM hPN hP (1 : Int32) 1 rfl ht2 (Or.inr (Or.inr hc80)))
    exact TJ0_48 l Z a0 hw ws p1 p2 p3 p4 p5 wC w_S w_EMPTY h0 n0 Bd hml0 hZ hown hh XJ eJ NJ K0 Z0 hS hk hCr SC SI V_b2 E_z_6_l0_18 F_r_v E_xn F_xn_neg F_xn_int F_xn_fra E_si F_si_v F_si_c V_bi E_sf F_sf_v F_sf_c V_bf V_b40 V_b45 Sf_b2 Sf_b40 Sf_b45 hM hPN hc0 hc1 hc2 hc3 hx0 hx1 hx2 hx3 hy2 hy3 hP hcs hrS hz83.1 hz83.2
  ·refine G (fun t k => XS.icmpYes XJ.here hx rfl (pc0 := 527) (pc' := 554) rfl (D at_527) rfl (flt hc79).2.2.2 (by decide) (by decide) k) ?_
   refine sG TJ (mkF m 554 #[vi p1, vi p2, vi p3, vi p4, vi p5, vi n, vi pt, vr b2, vr za16, vr za18, vi S0, vi kk0, vi kk1, vi kk2, vi kk3, vi dg, vi dt, vi ot, vi 1, vi P, vi IE, vr b40, vi s3, vr b45, vi t2, us, us, us, us, us] []) ?_
   have hz84 := (own_fmS hM hPN hP (1 : Int32) 1 rfl ht2 (Or.inr (Or.inl hc79)))
   exact TJ0_48 l Z a0 hw ws p1 p2 p3 p4 p5 wC w_S w_EMPTY h0 n0 Bd hml0 hZ hown hh XJ eJ NJ K0 Z0 hS hk hCr SC SI V_b2 E_z_6_l0_18 F_r_v E_xn F_xn_neg F_xn_int F_xn_fra E_si F_si_v F_si_c V_bi E_sf F_sf_v F_sf_c V_bf V_b40 V_b45 Sf_b2 Sf_b40 Sf_b45 hM hPN hc0 hc1 hc2 hc3 hx0 hx1 hx2 hx3 hy2 hy3 hP hcs hrS hz84.1 hz84.2
theorem TJ0_46 (l : Launch) (Z : State) (a0 : Array Value) (hw : HW a0 Z) (ws : List Jvm.Cond) (p1 : Int32) (p2 : Int32) (p3 : Int32) (p4 : Int32) (p5 : Int32) (wC : Int32) (w_S : Value) (w_EMPTY : Addr) (h0 : Heap) (n0 : Nat) {p : Program} {e : Env} {s : State} {m : MethodId} {below : List Frame} {meth : Method} {c : Code} {s₁ : State} (Bd : BodyLoose p l x (head1 (Cond.code x code maxLocals ret :: ws) room_1) code maxLocals ret e s m #[(.int p1), (.int p2), (.int p3), (.int p4), (.int p5)] below meth c s₁) (hml0 : c.maxLocals = maxLocals) {VM : Vm} {kS : Nat} (hZ : Z.Warmed39 (s.setVm VM).vm) (hown : (s.setVm VM).vm.findClass LW = some m.cls) (hh : s.heap = h0) {TJ : State} {locsJ : List Loc} {hJ : Heap} {b2 : Addr} {b40 : Addr} {b45 : Addr} {bf : Addr} {bi : Addr} {sf : Addr} {si : Addr} {xn : Addr} {za16 : Addr} {za18 : Addr} {k2 : ClassId} {ki : ClassId} {kf : ClassId} {k40 : ClassId} {k45 : ClassId} {pt : Int32} {n : Int32} {c0 : Int32} {c1 : Int32} {c2 : Int32} {c3 : Int32} {bs : List Int32} {S0 : Int32} {kk0 : Int32} {kk1 : Int32} {kk2 : Int32} {kk3 : Int32} {dg : Int32} {dt : Int32} {ot : Int32} {st : Int32} {pa : Int32} {ie : Int32} {fi : Int32} {fa : Int32} {la : Int32} {P : Int32} {IE : Int32} {x0 : Int32} {x1 : Int32} {x2 : Int32} {s3 : Int32} {x3 : Int32} {t3 : Int32} {y3 : Int32} (XJ : Stand p l e room_1 (s.setVm VM) m #[(.int p1), (.int p2), (.int p3), (.int p4), (.int p5)] below meth c TJ locsJ 21 68) (eJ : TJ.heap = hJ) (NJ : Fr n0 locsJ) (K0 : Keep h0 hJ []) (Z0 : n0 ≤ hJ.size) (hS : s.Since VM kS) (hk : kS ≤ hJ.size) (hCr : CHr Z consts_1 s.vm h0 VM hJ) (SC : Sta Z hJ SN "COMPACT_STRINGS" "Z" (.int wC)) (SI : Sta Z hJ PC "SIOOBE_FORMATTER" BF w_S) (V_b2 : Arv Z hJ b2 k2 .char (4 : Int32) [(.int c0), (.int c1), (.int c2), (.int c3)] (.int (0 : Int32))) (E_z_6_l0_18 : Exa Z hJ za18 OP) (F_r_v : Fld Z hJ za18 OP "value" "Ljava/lang/Object;" (.ref xn)) (E_xn : Exa Z hJ xn NU) (F_xn_neg : Fld Z hJ xn NU "negative" "Z" (.int (((f8 bs n (45 : Int32)) &&& 1) &&& 1))) (F_xn_int : Fld Z hJ xn NU "integer" LS (.ref si)) (F_xn_fra : Fld Z hJ xn NU "fraction" LS (.ref sf)) (E_si : Exa Z hJ si SN) (F_si_v : Fld Z hJ si SN "value" "[B" (.ref bi)) (F_si_c : Fld Z hJ si SN "coder" "B" (.int (0 : Int32))) (V_bi : Arv Z hJ bi ki .byte (ie - fi) (List.map Value.int (slice bs fi (ie - fi))) (.int (0 : Int32))) (E_sf : Exa Z hJ sf SN) (F_sf_v : Fld Z hJ sf SN "value" "[B" (.ref bf)) (F_sf_c : Fld Z hJ sf SN "coder" "B" (.int (0 : Int32))) (V_bf : Arv Z hJ bf kf .byte (la - fa) (List.map Value.int (slice bs fa (la - fa))) (.int (0 : Int32))) (V_b40 : Arv Z hJ b40 k40 .boolean (4 : Int32) [(.int x0), (.int x1), (.int x2), (.int x3)] (.int (0 : Int32))) (V_b45 : Arv Z hJ b45 k45 .boolean (4 : Int32) [(.int (0 : Int32)), (.int (0 : Int32)), (.int (0 : Int32)), (.int y3)] (.int (0 : Int32))) (Sf_b2 : Safe Z consts_1 VM hJ b2) (Sf_b40 : Safe Z consts_1 VM hJ b40) (Sf_b45 : Safe Z consts_1 VM hJ b45) (ne_b2_b45 : b2 ≠ b45) (ne_z_6_l0_18_b45 : za18 ≠ b45) (ne_xn_b45 : xn ≠ b45) (ne_si_b45 : si ≠ b45) (ne_bi_b45 : bi ≠ b45) (ne_sf_b45 : sf ≠ b45) (ne_bf_b45 : bf ≠ b45) (ne_b40_b45 : b40 ≠ b45) (g_b45 : n0 ≤ b45) (sz_b45 : h0.size ≤ b45) (hM : Mk bs n c0 c1 c2 c3) (hPN : PN bs n pt st pa ie fi fa la) (hc0 : 0 ≤ c0.toInt ∧ c0.toInt ≤ 255) (hc1 : 0 ≤ c1.toInt ∧ c1.toInt ≤ 255) (hc2 : 0 ≤ c2.toInt ∧ c2.toInt ≤ 255) (hc3 : 0 ≤ c3.toInt ∧ c3.toInt ≤ 255) (hx0 : Bit x0 (fi.toInt ≤ 0 ∧ 0 < ie.toInt)) (hx1 : Bit x1 (fi.toInt ≤ 1 ∧ 1 < ie.toInt)) (hx2 : Bit x2 (fi.toInt ≤ 2 ∧ 2 < ie.toInt)) (hx3 : Bit x3 (fi.toInt ≤ 3 ∧ 3 < ie.toInt)) (hP : P = pa) (hcs : ¬ wC = (0 : Int32)) (hrS : w_S.isRef = true) (hy3 : Bit y3 (fa.toInt ≤ 3 ∧ 3 < la.toInt)) (ht3 : Bit t3 (fa.toInt < la.toInt ∧ 3 < la.toInt)) :
  Go p.tables e below (TJ.setTop (mkF m 484 #[vi p1, vi p2, vi p3, vi p4, vi p5, vi n, vi pt, vr b2, vr za16, vr za18, vi S0, vi kk0, vi kk1, vi kk2, vi kk3, vi dg, vi dt, vi ot, vi 1, vi P, vi IE, vr b40, vi s3, vr b45, vi t3, us, us, us, us, us] [])) (fun o U' => ∃ v L, o = .returned v ∧ Q0 Z p1 p2 p3 p4 p5 wC w_S w_EMPTY h0 n0 v U'.heap L ∧ CHr Z consts_1 s.vm s.heap U'.vm U'.heap ∧ ReturnedEndW s o U' L 48 5312) := by
 have hx := Bd.exec
 have D := @hb _ _ Bd.bytes
 have hml : c.maxLocals = 30 := hml0
 have hnm := (name_of_methodNamed Bd.named Bd.method).1
 have J85 : ∀ (TJ : State) (locsJ : List Loc) (zz : Int32), Stand p l e room_1 (s.setVm VM) m #[(.int p1), (.int p2), (.int p3), (.int p4), (.int p5)] below meth c TJ locsJ 21 68 → TJ.heap = hJ → Fr n0 locsJ → (Bit (zz &&& 1) (fa.toInt ≤ 2 ∧ 2 < la.toInt) ∧ Bit zz (fa.toInt < la.toInt ∧ 2 < la.toInt)) → Go p.tables e below (TJ.setTop (mkF m 513 #[vi p1, vi p2, vi p3, vi p4, vi p5, vi n, vi pt, vr b2, vr za16, vr za18, vi S0, vi kk0, vi kk1, vi kk2, vi kk3, vi dg, vi dt, vi ot, vi 1, vi P, vi IE, vr b40, vi s3, vr b45, vi zz, us, us, us, us, us] [])) (fun o U' => ∃ v L, o = .returned v ∧ Q0 Z p1 p2 p3 p4 p5 wC w_S w_EMPTY h0 n0 v U'.heap L ∧ CHr Z consts_1 s.vm s.heap U'.vm U'.heap ∧ ReturnedEndW s o U' L 48 5312) := by
  intro TJ locsJ zz XJ eJ NJ hz
  refine G (fun t k => XS.aload XJ.here hx rfl (D at_513) rfl rfl (XS.iconst XJ.here hx rfl (D at_515) (XS.iload XJ.here hx rfl (D at_516) rfl k))) ?_
  obtain ⟨cl86, Ar86, qq86, Sz86, Ng86, Hs86, Gs86⟩ := id V_b45
  have hin86 := inb_of (j := (2 : Int32)) (c := cl86) Sz86 ⟨by decide, by decide⟩
  obtain ⟨T87, h87, X87, e87, W87, st87⟩ := stZ XJ hx hZ eJ Ar86 (j := (2 : Int32)) hin86 (g := (mkF m 518 #[vi p1, vi p2, vi p3, vi p4, vi p5, vi n, vi pt, vr b2, vr za16, vr za18, vi S0, vi kk0, vi kk1, vi kk2, vi kk3, vi dg, vi dt, vi ot, vi 1, vi P, vi IE, vr b40, vi s3, vr b45, vi zz, us, us, us, us, us] [(.int zz), (.int 2), (.ref b45)])) rfl rfl (D at_518)
  refine G st87 ?_
  have N87 := Fr.snoc X87 NJ g_b45
  have hCo := hCr.1
  have Sfo := Sf_b45
  replace Sf_b2 := Safe.wr W87 Sfo hCo Sf_b2
  replace Sf_b40 := Safe.wr W87 Sfo hCo Sf_b40
  replace Sf_b45 := Safe.wr W87 Sfo hCo Sf_b45
  replace hk := Nat.le_trans hk (Nat.le_of_eq W87.size.symm)
  replace hCr := hCr.trans (CHr.wr W87 Sfo hCo)
  clear hCo Sfo
  replace SC := SC.wr W87
  replace SI := SI.wr W87
  replace V_b2 := V_b2.other W87 ne_b2_b45
  replace E_z_6_l0_18 := E_z_6_l0_18.wr W87
  replace F_r_v := F_r_v.other W87 (Or.inl ne_z_6_l0_18_b45)
  replace E_xn := E_xn.wr W87
  replace F_xn_neg := F_xn_neg.other W87 (Or.inl ne_xn_b45)
  replace F_xn_int := F_xn_int.other W87 (Or.inl ne_xn_b45)
  replace F_xn_fra := F_xn_fra.other W87 (Or.inl ne_xn_b45)
  replace E_si := E_si.wr W87
  replace F_si_v := F_si_v.other W87 (Or.inl ne_si_b45)
  replace F_si_c := F_si_c.other W87 (Or.inl ne_si_b45)
  replace V_bi := V_bi.other W87 ne_bi_b45
  replace E_sf := E_sf.wr W87
  replace F_sf_v := F_sf_v.other W87 (Or.inl ne_sf_b45)
  replace F_sf_c := F_sf_c.other W87 (Or.inl ne_sf_b45)
  replace V_bf := V_bf.other W87 ne_bf_b45
  replace V_b40 := V_b40.other W87 ne_b40_b45
  replace Z0 := Nat.le_trans Z0 (Nat.le_of_eq W87.size.symm)
  replace K0 := K0.wr W87 (Or.inr sz_b45)
  replace V_b45 : Arv Z h87 b45 k45 .boolean (4 : Int32) [(.int (0 : Int32)), (.int (0 : Int32)), (.int (zz &&& 1)), (.int y3)] (.int (0 : Int32)) := Arv.set Ar86 qq86 Sz86 Ng86 Hs86 Gs86 (fits_nar_bool _) W87 2 rfl (Nat.le_of_ble_eq_true rfl)
  clear hin86 Gs86 Hs86 Ng86 Sz86 qq86 Ar86 cl86
  refine sG T87 (mkF m 519 #[vi p1, vi p2, vi p3, vi p4, vi p5, vi n, vi pt, vr b2, vr za16, vr za18, vi S0, vi kk0, vi kk1, vi kk2, vi kk3, vi dg, vi dt, vi ot, vi 1, vi P, vi IE, vr b40, vi s3, vr b45, vi zz, us, us, us, us, us] []) ?_
  exact TJ0_47 l Z a0 hw ws p1 p2 p3 p4 p5 wC w_S w_EMPTY h0 n0 Bd hml0 hZ hown hh X87 e87 N87 K0 Z0 hS hk hCr SC SI V_b2 E_z_6_l0_18 F_r_v E_xn F_xn_neg F_xn_int F_xn_fra E_si F_si_v F_si_c V_bi E_sf F_sf_v F_sf_c V_bf V_b40 V_b45 Sf_b2 Sf_b40 Sf_b45 ne_b2_b45 ne_z_6_l0_18_b45 ne_xn_b45 ne_si_b45 ne_bi_b45 ne_sf_b45 ne_bf_b45 ne_b40_b45 g_b45 sz_b45 hM hPN hc0 hc1 hc2 hc3 hx0 hx1 hx2 hx3 hy3 hP hcs hrS hz.1 hz.2
 refine G (fun t k => XS.iload XJ.here hx rfl (D at_484) rfl k) ?_
 by_cases hc88 : P < (0 : Int32)
 ·refine G (fun t k => XS.ifYes XJ.here hx rfl (pc0 := 486) (pc' := 519) rfl (D at_486) rfl ((if0 _ _).trans (tlt hc88).1) (by decide) (by decide) k) ?_
  refine sG TJ (mkF m 519 #[vi p1, vi p2, vi p3, vi p4, vi p5, vi n, vi pt, vr b2, vr za16, vr za18, vi S0, vi kk0, vi kk1, vi kk2, vi kk3, vi dg, vi dt, vi ot, vi 1, vi P, vi IE, vr b40, vi s3, vr b45, vi t3, us, us, us, us, us] []) ?_
  have hz89 := (own_fmS hM hPN hP (2 : Int32) 2 rfl ht3 (Or.inl hc88))
  exact TJ0_47 l Z a0 hw ws p1 p2 p3 p4 p5 wC w_S w_EMPTY h0 n0 Bd hml0 hZ hown hh XJ eJ NJ K0 Z0 hS hk hCr SC SI V_b2 E_z_6_l0_18 F_r_v E_xn F_xn_neg F_xn_int F_xn_fra E_si F_si_v F_si_c V_bi E_sf F_sf_v F_sf_c V_bf V_b40 V_b45 Sf_b2 Sf_b40 Sf_b45 ne_b2_b45 ne_z_6_l0_18_b45 ne_xn_b45 ne_si_b45 ne_bi_b45 ne_sf_b45 ne_bf_b45 ne_b40_b45 g_b45 sz_b45 hM hPN hc0 hc1 hc2 hc3 hx0 hx1 hx2 hx3 hy3 hP hcs hrS hz89.1 hz89.2
 ·refine G (fun t k => XS.ifNo XJ.here hx rfl (D at_486) rfl ((if0 _ _).trans (flt hc88).1) (XS.iconst XJ.here hx rfl (D at_489) (XS.iload XJ.here hx rfl (D at_490) rfl k))) ?_
  by_cases hc90 : P < (2 : Int32)
  ·refine G (fun t k => XS.icmpNo XJ.here hx rfl (D at_492) rfl (tlt hc90).2.2.2 (XS.iconst XJ.here hx rfl (D at_495) (XS.iload XJ.here hx rfl (D at_496) rfl k))) ?_
   refine sG TJ (mkF m 498 #[vi p1, vi p2, vi p3, vi p4, vi p5, vi n, vi pt, vr b2, vr za16, vr za18, vi S0, vi kk0, vi kk1, vi kk2, vi kk3, vi dg, vi dt, vi ot, vi 1, vi P, vi IE, vr b40, vi s3, vr b45, vi t3, us, us, us, us, us] [(.int n), (.int 2)]) ?_
   by_cases hc91 : (2 : Int32) < n
   ·refine G (fun t k => XS.icmpNo XJ.here hx rfl (D at_498) rfl (tlt hc91).2.1 (XS.aload XJ.here hx rfl (D at_501) rfl rfl (XS.iconst XJ.here hx rfl (D at_503) k))) ?_
    obtain ⟨cl92, Ar92, -, Sz92, Ng92, Hs92, -⟩ := id V_b2
    have hin92 := inb_of (j := (2 : Int32)) (c := cl92) Sz92 ⟨by decide, by decide⟩
    refine G (fun t k => XJ.caload hx (j := (2 : Int32)) (v := (.int c2)) (by rw [eJ]; exact Ar92.1) (State.isArrayOf_alike hZ.alike Ar92.2.1) Ar92.2.2 hin92 (Has.at Hs92 hin92 rfl) (g := (mkF m 504 #[vi p1, vi p2, vi p3, vi p4, vi p5, vi n, vi pt, vr b2, vr za16, vr za18, vi S0, vi kk0, vi kk1, vi kk2, vi kk3, vi dg, vi dt, vi ot, vi 1, vi P, vi IE, vr b40, vi s3, vr b45, vi t3, us, us, us, us, us] [(.int 2), (.ref b2)])) rfl rfl (D at_504) _ k) ?_
    clear hin92 Hs92 Ng92 Sz92 Ar92 cl92
    refine G (fun t k => XS.bipush XJ.here hx rfl (D at_505) k) ?_
    by_cases hc93 : c2 = (48 : Int32)
    ·refine G (fun t k => XS.icmpYes XJ.here hx rfl (pc0 := 507) (pc' := 513) rfl (D at_507) rfl (teq hc93).1 (by decide) (by decide) k) ?_
     refine sG TJ (mkF m 513 #[vi p1, vi p2, vi p3, vi p4, vi p5, vi n, vi pt, vr b2, vr za16, vr za18, vi S0, vi kk0, vi kk1, vi kk2, vi kk3, vi dg, vi dt, vi ot, vi 1, vi P, vi IE, vr b40, vi s3, vr b45, vi t3, us, us, us, us, us] []) ?_
     exact J85 _ _ t3 XJ eJ NJ (own_fm0 hM hPN hP (2 : Int32) 2 rfl ht3 hc88 hc90 hc91 (own_ch2 hM) hc93)
    ·refine G (fun t k => XS.icmpNo XJ.here hx rfl (D at_507) rfl (feq hc93).1 (XS.iconst XJ.here hx rfl (D at_510) k)) ?_
     refine sG TJ (mkF m 511 #[vi p1, vi p2, vi p3, vi p4, vi p5, vi n, vi pt, vr b2, vr za16, vr za18, vi S0, vi kk0, vi kk1, vi kk2, vi kk3, vi dg, vi dt, vi ot, vi 1, vi P, vi IE, vr b40, vi s3, vr b45, vi t3, us, us, us, us, us] [(.int 1)]) ?_
     refine G (fun t k => XS.istore XJ.here hx rfl (D at_511) rfl (l' := #[vi p1, vi p2, vi p3, vi p4, vi p5, vi n, vi pt, vr b2, vr za16, vr za18, vi S0, vi kk0, vi kk1, vi kk2, vi kk3, vi dg, vi dt, vi ot, vi 1, vi P, vi IE, vr b40, vi s3, vr b45, vi 1, us, us, us, us, us]) rfl k) ?_
     refine sG TJ (mkF m 513 #[vi p1, vi p2, vi p3, vi p4, vi p5, vi n, vi pt, vr b2, vr za16, vr za18, vi S0, vi kk0, vi kk1, vi kk2, vi kk3, vi dg, vi dt, vi ot, vi 1, vi P, vi IE, vr b40, vi s3, vr b45, vi 1, us, us, us, us, us] []) ?_
     exact J85 _ _ (1 : Int32) XJ eJ NJ (own_fm1 hM hPN hP (2 : Int32) 2 rfl ht3 hc88 hc90 hc91 (own_ch2 hM) hc93)
   ·refine G (fun t k => XS.icmpYes XJ.here hx rfl (pc0 := 498) (pc' := 519) rfl (D at_498) rfl (flt hc91).2.1 (by decide) (by decide) k) ?_
    refine sG TJ (mkF m 519 #[vi p1, vi p2, vi p3, vi p4, vi p5, vi n, vi pt, vr b2, vr za16, vr za18, vi S0, vi kk0, vi kk1, vi kk2, vi kk3, vi dg, vi dt, vi ot, vi 1, vi P, vi IE, vr b40, vi s3, vr b45, vi t3, us, us, us, us, us] []) ?_
    have hz94 := (own_fmS hM hPN hP (2 : Int32) 2 rfl ht3 (Or.inr (Or.inr hc91)))
    exact TJ0_47 l Z a0 hw ws p1 p2 p3 p4 p5 wC w_S w_EMPTY h0 n0 Bd hml0 hZ hown hh XJ eJ NJ K0 Z0 hS hk hCr SC SI V_b2 E_z_6_l0_18 F_r_v E_xn F_xn_neg F_xn_int F_xn_fra E_si F_si_v F_si_c V_bi E_sf F_sf_v F_sf_c V_bf V_b40 V_b45 Sf_b2 Sf_b40 Sf_b45 ne_b2_b45 ne_z_6_l0_18_b45 ne_xn_b45 ne_si_b45 ne_bi_b45 ne_sf_b45 ne_bf_b45 ne_b40_b45 g_b45 sz_b45 hM hPN hc0 hc1 hc2 hc3 hx0 hx1 hx2 hx3 hy3 hP hcs hrS hz94.1 hz94.2
  ·refine G (fun t k => XS.icmpYes XJ.here hx rfl (pc0 := 492) (pc' := 519) rfl (D at_492) rfl (flt hc90).2.2.2 (by decide) (by decide) k) ?_
   refine sG TJ (mkF m 519 #[vi p1, vi p2, vi p3, vi p4, vi p5, vi n, vi pt, vr b2, vr za16, vr za18, vi S0, vi kk0, vi kk1, vi kk2, vi kk3, vi dg, vi dt, vi ot, vi 1, vi P, vi IE, vr b40, vi s3, vr b45, vi t3, us, us, us, us, us] []) ?_
   have hz95 := (own_fmS hM hPN hP (2 : Int32) 2 rfl ht3 (Or.inr (Or.inl hc90)))
   exact TJ0_47 l Z a0 hw ws p1 p2 p3 p4 p5 wC w_S w_EMPTY h0 n0 Bd hml0 hZ hown hh XJ eJ NJ K0 Z0 hS hk hCr SC SI V_b2 E_z_6_l0_18 F_r_v E_xn F_xn_neg F_xn_int F_xn_fra E_si F_si_v F_si_c V_bi E_sf F_sf_v F_sf_c V_bf V_b40 V_b45 Sf_b2 Sf_b40 Sf_b45 ne_b2_b45 ne_z_6_l0_18_b45 ne_xn_b45 ne_si_b45 ne_bi_b45 ne_sf_b45 ne_bf_b45 ne_b40_b45 g_b45 sz_b45 hM hPN hc0 hc1 hc2 hc3 hx0 hx1 hx2 hx3 hy3 hP hcs hrS hz95.1 hz95.2
theorem TJ0_44 (l : Launch) (Z : State) (a0 : Array Value) (hw : HW a0 Z) (ws : List Jvm.Cond) (p1 : Int32) (p2 : Int32) (p3 : Int32) (p4 : Int32) (p5 : Int32) (wC : Int32) (w_S : Value) (w_EMPTY : Addr) (h0 : Heap) (n0 : Nat) {p : Program} {e : Env} {s : State} {m : MethodId} {below : List Frame} {meth : Method} {c : Code} {s₁ : State} (Bd : BodyLoose p l x (head1 (Cond.code x code maxLocals ret :: ws) room_1) code maxLocals ret e s m #[(.int p1), (.int p2), (.int p3), (.int p4), (.int p5)] below meth c s₁) (hml0 : c.maxLocals = maxLocals) {VM : Vm} {kS : Nat} (hZ : Z.Warmed39 (s.setVm VM).vm) (hown : (s.setVm VM).vm.findClass LW = some m.cls) (hh : s.heap = h0) {TJ : State} {locsJ : List Loc} {hJ : Heap} {b2 : Addr} {b40 : Addr} {bf : Addr} {bi : Addr} {sf : Addr} {si : Addr} {xn : Addr} {za16 : Addr} {za18 : Addr} {k2 : ClassId} {ki : ClassId} {kf : ClassId} {k40 : ClassId} {pt : Int32} {n : Int32} {c0 : Int32} {c1 : Int32} {c2 : Int32} {c3 : Int32} {bs : List Int32} {S0 : Int32} {kk0 : Int32} {kk1 : Int32} {kk2 : Int32} {kk3 : Int32} {dg : Int32} {dt : Int32} {ot : Int32} {st : Int32} {pa : Int32} {ie : Int32} {fi : Int32} {fa : Int32} {la : Int32} {P : Int32} {IE : Int32} {x0 : Int32} {x1 : Int32} {x2 : Int32} {s3 : Int32} {x3 : Int32} (XJ : Stand p l e room_1 (s.setVm VM) m #[(.int p1), (.int p2), (.int p3), (.int p4), (.int p5)] below meth c TJ locsJ 20 64) (eJ : TJ.heap = hJ) (NJ : Fr n0 locsJ) (K0 : Keep h0 hJ []) (Z0 : n0 ≤ hJ.size) (hS : s.Since VM kS) (hk : kS ≤ hJ.size) (hCr : CHr Z consts_1 s.vm h0 VM hJ) (SC : Sta Z hJ SN "COMPACT_STRINGS" "Z" (.int wC)) (SI : Sta Z hJ PC "SIOOBE_FORMATTER" BF w_S) (V_b2 : Arv Z hJ b2 k2 .char (4 : Int32) [(.int c0), (.int c1), (.int c2), (.int c3)] (.int (0 : Int32))) (E_z_6_l0_18 : Exa Z hJ za18 OP) (F_r_v : Fld Z hJ za18 OP "value" "Ljava/lang/Object;" (.ref xn)) (E_xn : Exa Z hJ xn NU) (F_xn_neg : Fld Z hJ xn NU "negative" "Z" (.int (((f8 bs n (45 : Int32)) &&& 1) &&& 1))) (F_xn_int : Fld Z hJ xn NU "integer" LS (.ref si)) (F_xn_fra : Fld Z hJ xn NU "fraction" LS (.ref sf)) (E_si : Exa Z hJ si SN) (F_si_v : Fld Z hJ si SN "value" "[B" (.ref bi)) (F_si_c : Fld Z hJ si SN "coder" "B" (.int (0 : Int32))) (V_bi : Arv Z hJ bi ki .byte (ie - fi) (List.map Value.int (slice bs fi (ie - fi))) (.int (0 : Int32))) (E_sf : Exa Z hJ sf SN) (F_sf_v : Fld Z hJ sf SN "value" "[B" (.ref bf)) (F_sf_c : Fld Z hJ sf SN "coder" "B" (.int (0 : Int32))) (V_bf : Arv Z hJ bf kf .byte (la - fa) (List.map Value.int (slice bs fa (la - fa))) (.int (0 : Int32))) (V_b40 : Arv Z hJ b40 k40 .boolean (4 : Int32) [(.int x0), (.int x1), (.int x2), (.int x3)] (.int (0 : Int32))) (Sf_b2 : Safe Z consts_1 VM hJ b2) (Sf_b40 : Safe Z consts_1 VM hJ b40) (hM : Mk bs n c0 c1 c2 c3) (hPN : PN bs n pt st pa ie fi fa la) (hc0 : 0 ≤ c0.toInt ∧ c0.toInt ≤ 255) (hc1 : 0 ≤ c1.toInt ∧ c1.toInt ≤ 255) (hc2 : 0 ≤ c2.toInt ∧ c2.toInt ≤ 255) (hc3 : 0 ≤ c3.toInt ∧ c3.toInt ≤ 255) (hx0 : Bit x0 (fi.toInt ≤ 0 ∧ 0 < ie.toInt)) (hx1 : Bit x1 (fi.toInt ≤ 1 ∧ 1 < ie.toInt)) (hx2 : Bit x2 (fi.toInt ≤ 2 ∧ 2 < ie.toInt)) (hP : P = pa) (hcs : ¬ wC = (0 : Int32)) (hrS : w_S.isRef = true) (hx3 : Bit x3 (fi.toInt ≤ 3 ∧ 3 < ie.toInt)) (hs3 : Bit s3 (fi.toInt ≤ 3 ∧ fi.toInt < ie.toInt)) :
  Go p.tables e below (TJ.setTop (mkF m 441 #[vi p1, vi p2, vi p3, vi p4, vi p5, vi n, vi pt, vr b2, vr za16, vr za18, vi S0, vi kk0, vi kk1, vi kk2, vi kk3, vi dg, vi dt, vi ot, vi 1, vi P, vi IE, vr b40, vi s3, us, us, us, us, us, us, us] [])) (fun o U' => ∃ v L, o = .returned v ∧ Q0 Z p1 p2 p3 p4 p5 wC w_S w_EMPTY h0 n0 v U'.heap L ∧ CHr Z consts_1 s.vm s.heap U'.vm U'.heap ∧ ReturnedEndW s o U' L 48 5312) := by
 have hx := Bd.exec
 have D := @hb _ _ Bd.bytes
 have hml : c.maxLocals = 30 := hml0
 have hnm := (name_of_methodNamed Bd.named Bd.method).1
 refine G (fun t k => XS.iconst XJ.here hx rfl (D at_441) k) ?_
 obtain ⟨T45, h45, k45, X45, e45, E45, A45, st45⟩ := newP XJ hx hZ (aty := .boolean) (wd157 hw) eJ (g := (mkF m 442 #[vi p1, vi p2, vi p3, vi p4, vi p5, vi n, vi pt, vr b2, vr za16, vr za18, vi S0, vi kk0, vi kk1, vi kk2, vi kk3, vi dg, vi dt, vi ot, vi 1, vi P, vi IE, vr b40, vi s3, us, us, us, us, us, us, us] [(.int 4)])) rfl (D at_442) rfl (by decide) (cap := 4) (by decide) (by decide) (by decide) (by decide)
 obtain ⟨b45, g45⟩ : ∃ z, z = hJ.size := ⟨_, rfl⟩
 rw [← g45] at A45 st45
 refine G st45 ?_
 have ne_b2_b45 : b2 ≠ b45 := Nat.ne_of_lt (Nat.lt_of_lt_of_le V_b2.lt (Nat.le_of_eq g45.symm))
 have ne_z_6_l0_18_b45 : za18 ≠ b45 := Nat.ne_of_lt (Nat.lt_of_lt_of_le E_z_6_l0_18.lt (Nat.le_of_eq g45.symm))
 have ne_xn_b45 : xn ≠ b45 := Nat.ne_of_lt (Nat.lt_of_lt_of_le E_xn.lt (Nat.le_of_eq g45.symm))
 have ne_si_b45 : si ≠ b45 := Nat.ne_of_lt (Nat.lt_of_lt_of_le E_si.lt (Nat.le_of_eq g45.symm))
 have ne_bi_b45 : bi ≠ b45 := Nat.ne_of_lt (Nat.lt_of_lt_of_le V_bi.lt (Nat.le_of_eq g45.symm))
 have ne_sf_b45 : sf ≠ b45 := Nat.ne_of_lt (Nat.lt_of_lt_of_le E_sf.lt (Nat.le_of_eq g45.symm))
 have ne_bf_b45 : bf ≠ b45 := Nat.ne_of_lt (Nat.lt_of_lt_of_le V_bf.lt (Nat.le_of_eq g45.symm))
 have ne_b40_b45 : b40 ≠ b45 := Nat.ne_of_lt (Nat.lt_of_lt_of_le V_b40.lt (Nat.le_of_eq g45.symm))
 have g_b45 : n0 ≤ b45 := Nat.le_trans Z0 (Nat.le_of_eq g45.symm)
 have sz_b45 : h0.size ≤ b45 := Nat.le_trans K0.1 (Nat.le_of_eq g45.symm)
 have Sf_b45 : Safe Z consts_1 VM hJ b45 := Safe.new (Nat.le_of_eq g45.symm)
 replace SC := SC.ext E45
 replace SI := SI.ext E45
 replace V_b2 := V_b2.ext E45
 replace E_z_6_l0_18 := E_z_6_l0_18.ext E45
 replace F_r_v := F_r_v.ext E45
 replace E_xn := E_xn.ext E45
 replace F_xn_neg := F_xn_neg.ext E45
 replace F_xn_int := F_xn_int.ext E45
 replace F_xn_fra := F_xn_fra.ext E45
 replace E_si := E_si.ext E45
 replace F_si_v := F_si_v.ext E45
 replace F_si_c := F_si_c.ext E45
 replace V_bi := V_bi.ext E45
 replace E_sf := E_sf.ext E45
 replace F_sf_v := F_sf_v.ext E45
 replace F_sf_c := F_sf_c.ext E45
 replace V_bf := V_bf.ext E45
 replace V_b40 := V_b40.ext E45
 replace K0 := K0.ext E45
 replace Z0 := Nat.le_trans Z0 E45.1
 replace Sf_b2 := Safe.ext E45 hCr.1 Sf_b2
 replace Sf_b40 := Safe.ext E45 hCr.1 Sf_b40
 replace Sf_b45 := Safe.ext E45 hCr.1 Sf_b45
 replace hk := Nat.le_trans hk E45.1
 replace hCr := hCr.trans (CHr.ext E45 hCr.1)
 have V_b45 : Arv Z h45 b45 k45 .boolean (4 : Int32) [(.int (0 : Int32)), (.int (0 : Int32)), (.int (0 : Int32)), (.int (0 : Int32))] (.int (0 : Int32)) := (Arv.new A45 (by decide)).pad (pad_rep [] (.int (0 : Int32)) 4)
 refine G (fun t k => XS.astore X45.here hx rfl (D at_444) rfl rfl (l' := #[vi p1, vi p2, vi p3, vi p4, vi p5, vi n, vi pt, vr b2, vr za16, vr za18, vi S0, vi kk0, vi kk1, vi kk2, vi kk3, vi dg, vi dt, vi ot, vi 1, vi P, vi IE, vr b40, vi s3, vr b45, us, us, us, us, us, us]) rfl (XS.iconst X45.here hx rfl (D at_446) (XS.istore X45.here hx rfl (D at_447) rfl (l' := #[vi p1, vi p2, vi p3, vi p4, vi p5, vi n, vi pt, vr b2, vr za16, vr za18, vi S0, vi kk0, vi kk1, vi kk2, vi kk3, vi dg, vi dt, vi ot, vi 1, vi P, vi IE, vr b40, vi s3, vr b45, vi 0, us, us, us, us, us]) rfl k))) ?_
 refine sG T45 (mkF m 449 #[vi p1, vi p2, vi p3, vi p4, vi p5, vi n, vi pt, vr b2, vr za16, vr za18, vi S0, vi kk0, vi kk1, vi kk2, vi kk3, vi dg, vi dt, vi ot, vi 1, vi P, vi IE, vr b40, vi s3, vr b45, vi 0, us, us, us, us, us] []) ?_
 have J96 : ∀ (TJ : State) (locsJ : List Loc) (zz : Int32), Stand p l e room_1 (s.setVm VM) m #[(.int p1), (.int p2), (.int p3), (.int p4), (.int p5)] below meth c TJ locsJ 21 68 → TJ.heap = h45 → Fr n0 locsJ → (Bit (zz &&& 1) (fa.toInt ≤ 3 ∧ 3 < la.toInt) ∧ Bit zz (fa.toInt < la.toInt ∧ 3 < la.toInt)) → Go p.tables e below (TJ.setTop (mkF m 478 #[vi p1, vi p2, vi p3, vi p4, vi p5, vi n, vi pt, vr b2, vr za16, vr za18, vi S0, vi kk0, vi kk1, vi kk2, vi kk3, vi dg, vi dt, vi ot, vi 1, vi P, vi IE, vr b40, vi s3, vr b45, vi zz, us, us, us, us, us] [])) (fun o U' => ∃ v L, o = .returned v ∧ Q0 Z p1 p2 p3 p4 p5 wC w_S w_EMPTY h0 n0 v U'.heap L ∧ CHr Z consts_1 s.vm s.heap U'.vm U'.heap ∧ ReturnedEndW s o U' L 48 5312) := by
  intro TJ locsJ zz XJ eJ NJ hz
  refine G (fun t k => XS.aload XJ.here hx rfl (D at_478) rfl rfl (XS.iconst XJ.here hx rfl (D at_480) (XS.iload XJ.here hx rfl (D at_481) rfl k))) ?_
  obtain ⟨cl97, Ar97, qq97, Sz97, Ng97, Hs97, Gs97⟩ := id V_b45
  have hin97 := inb_of (j := (3 : Int32)) (c := cl97) Sz97 ⟨by decide, by decide⟩
  obtain ⟨T98, h98, X98, e98, W98, st98⟩ := stZ XJ hx hZ eJ Ar97 (j := (3 : Int32)) hin97 (g := (mkF m 483 #[vi p1, vi p2, vi p3, vi p4, vi p5, vi n, vi pt, vr b2, vr za16, vr za18, vi S0, vi kk0, vi kk1, vi kk2, vi kk3, vi dg, vi dt, vi ot, vi 1, vi P, vi IE, vr b40, vi s3, vr b45, vi zz, us, us, us, us, us] [(.int zz), (.int 3), (.ref b45)])) rfl rfl (D at_483)
  refine G st98 ?_
  have N98 := Fr.snoc X98 NJ g_b45
  have hCo := hCr.1
  have Sfo := Sf_b45
  replace Sf_b2 := Safe.wr W98 Sfo hCo Sf_b2
  replace Sf_b40 := Safe.wr W98 Sfo hCo Sf_b40
  replace Sf_b45 := Safe.wr W98 Sfo hCo Sf_b45
  replace hk := Nat.le_trans hk (Nat.le_of_eq W98.size.symm)
  replace hCr := hCr.trans (CHr.wr W98 Sfo hCo)
  clear hCo Sfo
  replace SC := SC.wr W98
  replace SI := SI.wr W98
  replace V_b2 := V_b2.other W98 ne_b2_b45
  replace E_z_6_l0_18 := E_z_6_l0_18.wr W98
  replace F_r_v := F_r_v.other W98 (Or.inl ne_z_6_l0_18_b45)
  replace E_xn := E_xn.wr W98
  replace F_xn_neg := F_xn_neg.other W98 (Or.inl ne_xn_b45)
  replace F_xn_int := F_xn_int.other W98 (Or.inl ne_xn_b45)
  replace F_xn_fra := F_xn_fra.other W98 (Or.inl ne_xn_b45)
  replace E_si := E_si.wr W98
  replace F_si_v := F_si_v.other W98 (Or.inl ne_si_b45)
  replace F_si_c := F_si_c.other W98 (Or.inl ne_si_b45)
  replace V_bi := V_bi.other W98 ne_bi_b45
  replace E_sf := E_sf.wr W98
  replace F_sf_v := F_sf_v.other W98 (Or.inl ne_sf_b45)
  replace F_sf_c := F_sf_c.other W98 (Or.inl ne_sf_b45)
  replace V_bf := V_bf.other W98 ne_bf_b45
  replace V_b40 := V_b40.other W98 ne_b40_b45
  replace Z0 := Nat.le_trans Z0 (Nat.le_of_eq W98.size.symm)
  replace K0 := K0.wr W98 (Or.inr sz_b45)
  replace V_b45 : Arv Z h98 b45 k45 .boolean (4 : Int32) [(.int (0 : Int32)), (.int (0 : Int32)), (.int (0 : Int32)), (.int (zz &&& 1))] (.int (0 : Int32)) := Arv.set Ar97 qq97 Sz97 Ng97 Hs97 Gs97 (fits_nar_bool _) W98 3 rfl (Nat.le_of_ble_eq_true rfl)
  clear hin97 Gs97 Hs97 Ng97 Sz97 qq97 Ar97 cl97
  refine sG T98 (mkF m 484 #[vi p1, vi p2, vi p3, vi p4, vi p5, vi n, vi pt, vr b2, vr za16, vr za18, vi S0, vi kk0, vi kk1, vi kk2, vi kk3, vi dg, vi dt, vi ot, vi 1, vi P, vi IE, vr b40, vi s3, vr b45, vi zz, us, us, us, us, us] []) ?_
  exact TJ0_46 l Z a0 hw ws p1 p2 p3 p4 p5 wC w_S w_EMPTY h0 n0 Bd hml0 hZ hown hh X98 e98 N98 K0 Z0 hS hk hCr SC SI V_b2 E_z_6_l0_18 F_r_v E_xn F_xn_neg F_xn_int F_xn_fra E_si F_si_v F_si_c V_bi E_sf F_sf_v F_sf_c V_bf V_b40 V_b45 Sf_b2 Sf_b40 Sf_b45 ne_b2_b45 ne_z_6_l0_18_b45 ne_xn_b45 ne_si_b45 ne_bi_b45 ne_sf_b45 ne_bf_b45 ne_b40_b45 g_b45 sz_b45 hM hPN hc0 hc1 hc2 hc3 hx0 hx1 hx2 hx3 hP hcs hrS hz.1 hz.2
 refine G (fun t k => XS.iload X45.here hx rfl (D at_449) rfl k) ?_
 by_cases hc99 : P < (0 : Int32)
 ·refine G (fun t k => XS.ifYes X45.here hx rfl (pc0 := 451) (pc' := 484) rfl (D at_451) rfl ((if0 _ _).trans (tlt hc99).1) (by decide) (by decide) k) ?_
  refine sG T45 (mkF m 484 #[vi p1, vi p2, vi p3, vi p4, vi p5, vi n, vi pt, vr b2, vr za16, vr za18, vi S0, vi kk0, vi kk1, vi kk2, vi kk3, vi dg, vi dt, vi ot, vi 1, vi P, vi IE, vr b40, vi s3, vr b45, vi 0, us, us, us, us, us] []) ?_
  have hz100 := (own_fmS hM hPN hP (3 : Int32) 3 rfl (own_bf hPN hM) (Or.inl hc99))
  exact TJ0_46 l Z a0 hw ws p1 p2 p3 p4 p5 wC w_S w_EMPTY h0 n0 Bd hml0 hZ hown hh X45 e45 NJ K0 Z0 hS hk hCr SC SI V_b2 E_z_6_l0_18 F_r_v E_xn F_xn_neg F_xn_int F_xn_fra E_si F_si_v F_si_c V_bi E_sf F_sf_v F_sf_c V_bf V_b40 V_b45 Sf_b2 Sf_b40 Sf_b45 ne_b2_b45 ne_z_6_l0_18_b45 ne_xn_b45 ne_si_b45 ne_bi_b45 ne_sf_b45 ne_bf_b45 ne_b40_b45 g_b45 sz_b45 hM hPN hc0 hc1 hc2 hc3 hx0 hx1 hx2 hx3 hP hcs hrS hz100.1 hz100.2
 ·refine G (fun t k => XS.ifNo X45.here hx rfl (D at_451) rfl ((if0 _ _).trans (flt hc99).1) (XS.iconst X45.here hx rfl (D at_454) (XS.iload X45.here hx rfl (D at_455) rfl k))) ?_
  by_cases hc101 : P < (3 : Int32)
  ·refine G (fun t k => XS.icmpNo X45.here hx rfl (D at_457) rfl (tlt hc101).2.2.2 (XS.iconst X45.here hx rfl (D at_460) (XS.iload X45.here hx rfl (D at_461) rfl k))) ?_
   refine sG T45 (mkF m 463 #[vi p1, vi p2, vi p3, vi p4, vi p5, vi n, vi pt, vr b2, vr za16, vr za18, vi S0, vi kk0, vi kk1, vi kk2, vi kk3, vi dg, vi dt, vi ot, vi 1, vi P, vi IE, vr b40, vi s3, vr b45, vi 0, us, us, us, us, us] [(.int n), (.int 3)]) ?_
   by_cases hc102 : (3 : Int32) < n
   ·refine G (fun t k => XS.icmpNo X45.here hx rfl (D at_463) rfl (tlt hc102).2.1 (XS.aload X45.here hx rfl (D at_466) rfl rfl (XS.iconst X45.here hx rfl (D at_468) k))) ?_
    obtain ⟨cl103, Ar103, -, Sz103, Ng103, Hs103, -⟩ := id V_b2
    have hin103 := inb_of (j := (3 : Int32)) (c := cl103) Sz103 ⟨by decide, by decide⟩
    refine G (fun t k => X45.caload hx (j := (3 : Int32)) (v := (.int c3)) (by rw [e45]; exact Ar103.1) (State.isArrayOf_alike hZ.alike Ar103.2.1) Ar103.2.2 hin103 (Has.at Hs103 hin103 rfl) (g := (mkF m 469 #[vi p1, vi p2, vi p3, vi p4, vi p5, vi n, vi pt, vr b2, vr za16, vr za18, vi S0, vi kk0, vi kk1, vi kk2, vi kk3, vi dg, vi dt, vi ot, vi 1, vi P, vi IE, vr b40, vi s3, vr b45, vi 0, us, us, us, us, us] [(.int 3), (.ref b2)])) rfl rfl (D at_469) _ k) ?_
    clear hin103 Hs103 Ng103 Sz103 Ar103 cl103
    refine G (fun t k => XS.bipush X45.here hx rfl (D at_470) k) ?_
    by_cases hc104 : c3 = (48 : Int32)
    ·refine G (fun t k => XS.icmpYes X45.here hx rfl (pc0 := 472) (pc' := 478) rfl (D at_472) rfl (teq hc104).1 (by decide) (by decide) k) ?_
     refine sG T45 (mkF m 478 #[vi p1, vi p2, vi p3, vi p4, vi p5, vi n, vi pt, vr b2, vr za16, vr za18, vi S0, vi kk0, vi kk1, vi kk2, vi kk3, vi dg, vi dt, vi ot, vi 1, vi P, vi IE, vr b40, vi s3, vr b45, vi 0, us, us, us, us, us] []) ?_
     exact J96 _ _ (0 : Int32) X45 e45 NJ (own_fm0 hM hPN hP (3 : Int32) 3 rfl (own_bf hPN hM) hc99 hc101 hc102 (own_ch3 hM) hc104)
    ·refine G (fun t k => XS.icmpNo X45.here hx rfl (D at_472) rfl (feq hc104).1 (XS.iconst X45.here hx rfl (D at_475) k)) ?_
     refine sG T45 (mkF m 476 #[vi p1, vi p2, vi p3, vi p4, vi p5, vi n, vi pt, vr b2, vr za16, vr za18, vi S0, vi kk0, vi kk1, vi kk2, vi kk3, vi dg, vi dt, vi ot, vi 1, vi P, vi IE, vr b40, vi s3, vr b45, vi 0, us, us, us, us, us] [(.int 1)]) ?_
     refine G (fun t k => XS.istore X45.here hx rfl (D at_476) rfl (l' := #[vi p1, vi p2, vi p3, vi p4, vi p5, vi n, vi pt, vr b2, vr za16, vr za18, vi S0, vi kk0, vi kk1, vi kk2, vi kk3, vi dg, vi dt, vi ot, vi 1, vi P, vi IE, vr b40, vi s3, vr b45, vi 1, us, us, us, us, us]) rfl k) ?_
     refine sG T45 (mkF m 478 #[vi p1, vi p2, vi p3, vi p4, vi p5, vi n, vi pt, vr b2, vr za16, vr za18, vi S0, vi kk0, vi kk1, vi kk2, vi kk3, vi dg, vi dt, vi ot, vi 1, vi P, vi IE, vr b40, vi s3, vr b45, vi 1, us, us, us, us, us] []) ?_
     exact J96 _ _ (1 : Int32) X45 e45 NJ (own_fm1 hM hPN hP (3 : Int32) 3 rfl (own_bf hPN hM) hc99 hc101 hc102 (own_ch3 hM) hc104)
   ·refine G (fun t k => XS.icmpYes X45.here hx rfl (pc0 := 463) (pc' := 484) rfl (D at_463) rfl (flt hc102).2.1 (by decide) (by decide) k) ?_
    refine sG T45 (mkF m 484 #[vi p1, vi p2, vi p3, vi p4, vi p5, vi n, vi pt, vr b2, vr za16, vr za18, vi S0, vi kk0, vi kk1, vi kk2, vi kk3, vi dg, vi dt, vi ot, vi 1, vi P, vi IE, vr b40, vi s3, vr b45, vi 0, us, us, us, us, us] []) ?_
    have hz105 := (own_fmS hM hPN hP (3 : Int32) 3 rfl (own_bf hPN hM) (Or.inr (Or.inr hc102)))
    exact TJ0_46 l Z a0 hw ws p1 p2 p3 p4 p5 wC w_S w_EMPTY h0 n0 Bd hml0 hZ hown hh X45 e45 NJ K0 Z0 hS hk hCr SC SI V_b2 E_z_6_l0_18 F_r_v E_xn F_xn_neg F_xn_int F_xn_fra E_si F_si_v F_si_c V_bi E_sf F_sf_v F_sf_c V_bf V_b40 V_b45 Sf_b2 Sf_b40 Sf_b45 ne_b2_b45 ne_z_6_l0_18_b45 ne_xn_b45 ne_si_b45 ne_bi_b45 ne_sf_b45 ne_bf_b45 ne_b40_b45 g_b45 sz_b45 hM hPN hc0 hc1 hc2 hc3 hx0 hx1 hx2 hx3 hP hcs hrS hz105.1 hz105.2
  ·refine G (fun t k => XS.icmpYes X45.here hx rfl (pc0 := 457) (pc' := 484) rfl (D at_457) rfl (flt hc101).2.2.2 (by decide) (by decide) k) ?_
   refine sG T45 (mkF m 484 #[vi p1, vi p2, vi p3, vi p4, vi p5, vi n, vi pt, vr b2, vr za16, vr za18, vi S0, vi kk0, vi kk1, vi kk2, vi kk3, vi dg, vi dt, vi ot, vi 1, vi P, vi IE, vr b40, vi s3, vr b45, vi 0, us, us, us, us, us] []) ?_
   have hz106 := (own_fmS hM hPN hP (3 : Int32) 3 rfl (own_bf hPN hM) (Or.inr (Or.inl hc101)))
   exact TJ0_46 l Z a0 hw ws p1 p2 p3 p4 p5 wC w_S w_EMPTY h0 n0 Bd hml0 hZ hown hh X45 e45 NJ K0 Z0 hS hk hCr SC SI V_b2 E_z_6_l0_18 F_r_v E_xn F_xn_neg F_xn_int F_xn_fra E_si F_si_v F_si_c V_bi E_sf F_sf_v F_sf_c V_bf V_b40 V_b45 Sf_b2 Sf_b40 Sf_b45 ne_b2_b45 ne_z_6_l0_18_b45 ne_xn_b45 ne_si_b45 ne_bi_b45 ne_sf_b45 ne_bf_b45 ne_b40_b45 g_b45 sz_b45 hM hPN hc0 hc1 hc2 hc3 hx0 hx1 hx2 hx3 hP hcs hrS hz106.1 hz106.2
theorem TJ0_43 (l : Launch) (Z : State) (a0 : Array Value) (hw : HW a0 Z) (ws : List Jvm.Cond) (p1 : Int32) (p2 : Int32) (p3 : Int32) (p4 : Int32) (p5 : Int32) (wC : Int32) (w_S : Value) (w_EMPTY : Addr) (h0 : Heap) (n0 : Nat) {p : Program} {e : Env} {s : State} {m : MethodId} {below : List Frame} {meth : Method} {c : Code} {s₁ : State} (Bd : BodyLoose p l x (head1 (Cond.code x code maxLocals ret :: ws) room_1) code maxLocals ret e s m #[(.int p1), (.int p2), (.int p3), (.int p4), (.int p5)] below meth c s₁) (hml0 : c.maxLocals = maxLocals) {VM : Vm} {kS : Nat} (hZ : Z.Warmed39 (s.setVm VM).vm) (hown : (s.setVm VM).vm.findClass LW = some m.cls) (hh : s.heap = h0) {TJ : State} {locsJ : List Loc} {hJ : Heap} {b2 : Addr} {b40 : Addr} {bf : Addr} {bi : Addr} {sf : Addr} {si : Addr} {xn : Addr} {za16 : Addr} {za18 : Addr} {k2 : ClassId} {ki : ClassId} {kf : ClassId} {k40 : ClassId} {pt : Int32} {n : Int32} {c0 : Int32} {c1 : Int32} {c2 : Int32} {c3 : Int32} {bs : List Int32} {S0 : Int32} {kk0 : Int32} {kk1 : Int32} {kk2 : Int32} {kk3 : Int32} {dg : Int32} {dt : Int32} {ot : Int32} {st : Int32} {pa : Int32} {ie : Int32} {fi : Int32} {fa : Int32} {la : Int32} {P : Int32} {IE : Int32} {x0 : Int32} {x1 : Int32} {s2 : Int32} {x2 : Int32} (XJ : Stand p l e room_1 (s.setVm VM) m #[(.int p1), (.int p2), (.int p3), (.int p4), (.int p5)] below meth c TJ locsJ 20 64) (eJ : TJ.heap = hJ) (NJ : Fr n0 locsJ) (K0 : Keep h0 hJ []) (Z0 : n0 ≤ hJ.size) (hS : s.Since VM kS) (hk : kS ≤ hJ.size) (hCr : CHr Z consts_1 s.vm h0 VM hJ) (SC : Sta Z hJ SN "COMPACT_STRINGS" "Z" (.int wC)) (SI : Sta Z hJ PC "SIOOBE_FORMATTER" BF w_S) (V_b2 : Arv Z hJ b2 k2 .char (4 : Int32) [(.int c0), (.int c1), (.int c2), (.int c3)] (.int (0 : Int32))) (E_z_6_l0_18 : Exa Z hJ za18 OP) (F_r_v : Fld Z hJ za18 OP "value" "Ljava/lang/Object;" (.ref xn)) (E_xn : Exa Z hJ xn NU) (F_xn_neg : Fld Z hJ xn NU "negative" "Z" (.int (((f8 bs n (45 : Int32)) &&& 1) &&& 1))) (F_xn_int : Fld Z hJ xn NU "integer" LS (.ref si)) (F_xn_fra : Fld Z hJ xn NU "fraction" LS (.ref sf)) (E_si : Exa Z hJ si SN) (F_si_v : Fld Z hJ si SN "value" "[B" (.ref bi)) (F_si_c : Fld Z hJ si SN "coder" "B" (.int (0 : Int32))) (V_bi : Arv Z hJ bi ki .byte (ie - fi) (List.map Value.int (slice bs fi (ie - fi))) (.int (0 : Int32))) (E_sf : Exa Z hJ sf SN) (F_sf_v : Fld Z hJ sf SN "value" "[B" (.ref bf)) (F_sf_c : Fld Z hJ sf SN "coder" "B" (.int (0 : Int32))) (V_bf : Arv Z hJ bf kf .byte (la - fa) (List.map Value.int (slice bs fa (la - fa))) (.int (0 : Int32))) (V_b40 : Arv Z hJ b40 k40 .boolean (4 : Int32) [(.int x0), (.int x1), (.int x2), (.int (0 : Int32))] (.int (0 : Int32))) (Sf_b2 : Safe Z consts_1 VM hJ b2) (Sf_b40 : Safe Z consts_1 VM hJ b40) (ne_b2_b40 : b2 ≠ b40) (ne_z_6_l0_18_b40 : za18 ≠ b40) (ne_xn_b40 : xn ≠ b40) (ne_si_b40 : si ≠ b40) (ne_bi_b40 : bi ≠ b40) (ne_sf_b40 : sf ≠ b40) (ne_bf_b40 : bf ≠ b40) (g_b40 : n0 ≤ b40) (sz_b40 : h0.size ≤ b40) (hM : Mk bs n c0 c1 c2 c3) (hS1 : S0 = st) (hPN : PN bs n pt st pa ie fi fa la) (hc0 : 0 ≤ c0.toInt ∧ c0.toInt ≤ 255) (hc1 : 0 ≤ c1.toInt ∧ c1.toInt ≤ 255) (hc2 : 0 ≤ c2.toInt ∧ c2.toInt ≤ 255) (hc3 : 0 ≤ c3.toInt ∧ c3.toInt ≤ 255) (hx0 : Bit x0 (fi.toInt ≤ 0 ∧ 0 < ie.toInt)) (hx1 : Bit x1 (fi.toInt ≤ 1 ∧ 1 < ie.toInt)) (hP : P = pa) (hIE : IE = ie) (hcs : ¬ wC = (0 : Int32)) (hrS : w_S.isRef = true) (hx2 : Bit x2 (fi.toInt ≤ 2 ∧ 2 < ie.toInt)) (hs2 : Bit s2 (fi.toInt ≤ 2 ∧ fi.toInt < ie.toInt)) :
  Go p.tables e below (TJ.setTop (mkF m 411 #[vi p1, vi p2, vi p3, vi p4, vi p5, vi n, vi pt, vr b2, vr za16, vr za18, vi S0, vi kk0, vi kk1, vi kk2, vi kk3, vi dg, vi dt, vi ot, vi 1, vi P, vi IE, vr b40, vi s2, us, us, us, us, us, us, us] [])) (fun o U' => ∃ v L, o = .returned v ∧ Q0 Z p1 p2 p3 p4 p5 wC w_S w_EMPTY h0 n0 v U'.heap L ∧ CHr Z consts_1 s.vm s.heap U'.vm U'.heap ∧ ReturnedEndW s o U' L 48 5312) := by
 have hx := Bd.exec
 have D := @hb _ _ Bd.bytes
 have hml : c.maxLocals = 30 := hml0
 have hnm := (name_of_methodNamed Bd.named Bd.method).1
 have J107 : ∀ (TJ : State) (locsJ : List Loc) (zz : Int32), Stand p l e room_1 (s.setVm VM) m #[(.int p1), (.int p2), (.int p3), (.int p4), (.int p5)] below meth c TJ locsJ 20 64 → TJ.heap = hJ → Fr n0 locsJ → (Bit (zz &&& 1) (fi.toInt ≤ 3 ∧ 3 < ie.toInt) ∧ Bit zz (fi.toInt ≤ 3 ∧ fi.toInt < ie.toInt)) → Go p.tables e below (TJ.setTop (mkF m 435 #[vi p1, vi p2, vi p3, vi p4, vi p5, vi n, vi pt, vr b2, vr za16, vr za18, vi S0, vi kk0, vi kk1, vi kk2, vi kk3, vi dg, vi dt, vi ot, vi 1, vi P, vi IE, vr b40, vi zz, us, us, us, us, us, us, us] [])) (fun o U' => ∃ v L, o = .returned v ∧ Q0 Z p1 p2 p3 p4 p5 wC w_S w_EMPTY h0 n0 v U'.heap L ∧ CHr Z consts_1 s.vm s.heap U'.vm U'.heap ∧ ReturnedEndW s o U' L 48 5312) := by
  intro TJ locsJ zz XJ eJ NJ hz
  refine G (fun t k => XS.aload XJ.here hx rfl (D at_435) rfl rfl (XS.iconst XJ.here hx rfl (D at_437) (XS.iload XJ.here hx rfl (D at_438) rfl k))) ?_
  obtain ⟨cl108, Ar108, qq108, Sz108, Ng108, Hs108, Gs108⟩ := id V_b40
  have hin108 := inb_of (j := (3 : Int32)) (c := cl108) Sz108 ⟨by decide, by decide⟩
  obtain ⟨T109, h109, X109, e109, W109, st109⟩ := stZ XJ hx hZ eJ Ar108 (j := (3 : Int32)) hin108 (g := (mkF m 440 #[vi p1, vi p2, vi p3, vi p4, vi p5, vi n, vi pt, vr b2, vr za16, vr za18, vi S0, vi kk0, vi kk1, vi kk2, vi kk3, vi dg, vi dt, vi ot, vi 1, vi P, vi IE, vr b40, vi zz, us, us, us, us, us, us, us] [(.int zz), (.int 3), (.ref b40)])) rfl rfl (D at_440)
  refine G st109 ?_
  have N109 := Fr.snoc X109 NJ g_b40
  have hCo := hCr.1
  have Sfo := Sf_b40
  replace Sf_b2 := Safe.wr W109 Sfo hCo Sf_b2
  replace Sf_b40 := Safe.wr W109 Sfo hCo Sf_b40
  replace hk := Nat.le_trans hk (Nat.le_of_eq W109.size.symm)
  replace hCr := hCr.trans (CHr.wr W109 Sfo hCo)
  clear hCo Sfo
  replace SC := SC.wr W109
  replace SI := SI.wr W109
  replace V_b2 := V_b2.other W109 ne_b2_b40
  replace E_z_6_l0_18 := E_z_6_l0_18.wr W109
  replace F_r_v := F_r_v.other W109 (Or.inl ne_z_6_l0_18_b40)
  replace E_xn := E_xn.wr W109
  replace F_xn_neg := F_xn_neg.other W109 (Or.inl ne_xn_b40)
  replace F_xn_int := F_xn_int.other W109 (Or.inl ne_xn_b40)
  replace F_xn_fra := F_xn_fra.other W109 (Or.inl ne_xn_b40)
  replace E_si := E_si.wr W109
  replace F_si_v := F_si_v.other W109 (Or.inl ne_si_b40)
  replace F_si_c := F_si_c.other W109 (Or.inl ne_si_b40)
  replace V_bi := V_bi.other W109 ne_bi_b40
  replace E_sf := E_sf.wr W109
  replace F_sf_v := F_sf_v.other W109 (Or.inl ne_sf_b40)
  replace F_sf_c := F_sf_c.other W109 (Or.inl ne_sf_b40)
  replace V_bf := V_bf.other W109 ne_bf_b40
  replace Z0 := Nat.le_trans Z0 (Nat.le_of_eq W109.size.symm)
  replace K0 := K0.wr W109 (Or.inr sz_b40)
  replace V_b40 : Arv Z h109 b40 k40 .boolean (4 : Int32) [(.int x0), (.int x1), (.int x2), (.int (zz &&& 1))] (.int (0 : Int32)) := Arv.set Ar108 qq108 Sz108 Ng108 Hs108 Gs108 (fits_nar_bool _) W109 3 rfl (Nat.le_of_ble_eq_true rfl)
  clear hin108 Gs108 Hs108 Ng108 Sz108 qq108 Ar108 cl108
  refine sG T109 (mkF m 441 #[vi p1, vi p2, vi p3, vi p4, vi p5, vi n, vi pt, vr b2, vr za16, vr za18, vi S0, vi kk0, vi kk1, vi kk2, vi kk3, vi dg, vi dt, vi ot, vi 1, vi P, vi IE, vr b40, vi zz, us, us, us, us, us, us, us] []) ?_
  exact TJ0_44 l Z a0 hw ws p1 p2 p3 p4 p5 wC w_S w_EMPTY h0 n0 Bd hml0 hZ hown hh X109 e109 N109 K0 Z0 hS hk hCr SC SI V_b2 E_z_6_l0_18 F_r_v E_xn F_xn_neg F_xn_int F_xn_fra E_si F_si_v F_si_c V_bi E_sf F_sf_v F_sf_c V_bf V_b40 Sf_b2 Sf_b40 hM hPN hc0 hc1 hc2 hc3 hx0 hx1 hx2 hP hcs hrS hz.1 hz.2
 refine G (fun t k => XS.iload XJ.here hx rfl (D at_411) rfl (XS.iconst XJ.here hx rfl (D at_413) k)) ?_
 by_cases hc110 : (3 : Int32) < S0
 ·refine G (fun t k => XS.icmpYes XJ.here hx rfl (pc0 := 414) (pc' := 441) rfl (D at_414) rfl (tlt hc110).2.2.1 (by decide) (by decide) k) ?_
  refine sG TJ (mkF m 441 #[vi p1, vi p2, vi p3, vi p4, vi p5, vi n, vi pt, vr b2, vr za16, vr za18, vi S0, vi kk0, vi kk1, vi kk2, vi kk3, vi dg, vi dt, vi ot, vi 1, vi P, vi IE, vr b40, vi s2, us, us, us, us, us, us, us] []) ?_
  have hz111 := (own_imS hM hPN hS1 hIE (3 : Int32) 3 rfl hs2 (Or.inl hc110))
  exact TJ0_44 l Z a0 hw ws p1 p2 p3 p4 p5 wC w_S w_EMPTY h0 n0 Bd hml0 hZ hown hh XJ eJ NJ K0 Z0 hS hk hCr SC SI V_b2 E_z_6_l0_18 F_r_v E_xn F_xn_neg F_xn_int F_xn_fra E_si F_si_v F_si_c V_bi E_sf F_sf_v F_sf_c V_bf V_b40 Sf_b2 Sf_b40 hM hPN hc0 hc1 hc2 hc3 hx0 hx1 hx2 hP hcs hrS hz111.1 hz111.2
 ·refine G (fun t k => XS.icmpNo XJ.here hx rfl (D at_414) rfl (flt hc110).2.2.1 (XS.iconst XJ.here hx rfl (D at_417) (XS.iload XJ.here hx rfl (D at_418) rfl k))) ?_
  by_cases hc112 : (3 : Int32) < IE
  ·refine G (fun t k => XS.icmpNo XJ.here hx rfl (D at_420) rfl (tlt hc112).2.1 (XS.aload XJ.here hx rfl (D at_423) rfl rfl k)) ?_
   refine sG TJ (mkF m 425 #[vi p1, vi p2, vi p3, vi p4, vi p5, vi n, vi pt, vr b2, vr za16, vr za18, vi S0, vi kk0, vi kk1, vi kk2, vi kk3, vi dg, vi dt, vi ot, vi 1, vi P, vi IE, vr b40, vi s2, us, us, us, us, us, us, us] [(.ref b2)]) ?_
   refine G (fun t k => XS.iconst XJ.here hx rfl (D at_425) k) ?_
   obtain ⟨cl113, Ar113, -, Sz113, Ng113, Hs113, -⟩ := id V_b2
   have hin113 := inb_of (j := (3 : Int32)) (c := cl113) Sz113 ⟨by decide, by decide⟩
   refine G (fun t k => XJ.caload hx (j := (3 : Int32)) (v := (.int c3)) (by rw [eJ]; exact Ar113.1) (State.isArrayOf_alike hZ.alike Ar113.2.1) Ar113.2.2 hin113 (Has.at Hs113 hin113 rfl) (g := (mkF m 426 #[vi p1, vi p2, vi p3, vi p4, vi p5, vi n, vi pt, vr b2, vr za16, vr za18, vi S0, vi kk0, vi kk1, vi kk2, vi kk3, vi dg, vi dt, vi ot, vi 1, vi P, vi IE, vr b40, vi s2, us, us, us, us, us, us, us] [(.int 3), (.ref b2)])) rfl rfl (D at_426) _ k) ?_
   clear hin113 Hs113 Ng113 Sz113 Ar113 cl113
   refine G (fun t k => XS.bipush XJ.here hx rfl (D at_427) k) ?_
   by_cases hc114 : c3 = (48 : Int32)
   ·refine G (fun t k => XS.icmpYes XJ.here hx rfl (pc0 := 429) (pc' := 435) rfl (D at_429) rfl (teq hc114).1 (by decide) (by decide) k) ?_
    refine sG TJ (mkF m 435 #[vi p1, vi p2, vi p3, vi p4, vi p5, vi n, vi pt, vr b2, vr za16, vr za18, vi S0, vi kk0, vi kk1, vi kk2, vi kk3, vi dg, vi dt, vi ot, vi 1, vi P, vi IE, vr b40, vi s2, us, us, us, us, us, us, us] []) ?_
    exact J107 _ _ s2 XJ eJ NJ (own_im0 hM hPN hS1 hIE (3 : Int32) 3 rfl hs2 hc110 hc112 (own_ch3 hM) hc114)
   ·refine G (fun t k => XS.icmpNo XJ.here hx rfl (D at_429) rfl (feq hc114).1 (XS.iconst XJ.here hx rfl (D at_432) (XS.istore XJ.here hx rfl (D at_433) rfl (l' := #[vi p1, vi p2, vi p3, vi p4, vi p5, vi n, vi pt, vr b2, vr za16, vr za18, vi S0, vi kk0, vi kk1, vi kk2, vi kk3, vi dg, vi dt, vi ot, vi 1, vi P, vi IE, vr b40, vi 1, us, us, us, us, us, us, us]) rfl k))) ?_
    refine sG TJ (mkF m 435 #[vi p1, vi p2, vi p3, vi p4, vi p5, vi n, vi pt, vr b2, vr za16, vr za18, vi S0, vi kk0, vi kk1, vi kk2, vi kk3, vi dg, vi dt, vi ot, vi 1, vi P, vi IE, vr b40, vi 1, us, us, us, us, us, us, us] []) ?_
    exact J107 _ _ (1 : Int32) XJ eJ NJ (own_im1' hM hPN hS1 hIE (3 : Int32) 3 rfl hs2 hc110 hc112 (own_ch3 hM) hc114)
  ·refine G (fun t k => XS.icmpYes XJ.here hx rfl (pc0 := 420) (pc' := 441) rfl (D at_420) rfl (flt hc112).2.1 (by decide) (by decide) k) ?_
   refine sG TJ (mkF m 441 #[vi p1, vi p2, vi p3, vi p4, vi p5, vi n, vi pt, vr b2, vr za16, vr za18, vi S0, vi kk0, vi kk1, vi kk2, vi kk3, vi dg, vi dt, vi ot, vi 1, vi P, vi IE, vr b40, vi s2, us, us, us, us, us, us, us] []) ?_
   have hz115 := (own_imS hM hPN hS1 hIE (3 : Int32) 3 rfl hs2 (Or.inr hc112))
   exact TJ0_44 l Z a0 hw ws p1 p2 p3 p4 p5 wC w_S w_EMPTY h0 n0 Bd hml0 hZ hown hh XJ eJ NJ K0 Z0 hS hk hCr SC SI V_b2 E_z_6_l0_18 F_r_v E_xn F_xn_neg F_xn_int F_xn_fra E_si F_si_v F_si_c V_bi E_sf F_sf_v F_sf_c V_bf V_b40 Sf_b2 Sf_b40 hM hPN hc0 hc1 hc2 hc3 hx0 hx1 hx2 hP hcs hrS hz115.1 hz115.2
theorem TJ0_42 (l : Launch) (Z : State) (a0 : Array Value) (hw : HW a0 Z) (ws : List Jvm.Cond) (p1 : Int32) (p2 : Int32) (p3 : Int32) (p4 : Int32) (p5 : Int32) (wC : Int32) (w_S : Value) (w_EMPTY : Addr) (h0 : Heap) (n0 : Nat) {p : Program} {e : Env} {s : State} {m : MethodId} {below : List Frame} {meth : Method} {c : Code} {s₁ : State} (Bd : BodyLoose p l x (head1 (Cond.code x code maxLocals ret :: ws) room_1) code maxLocals ret e s m #[(.int p1), (.int p2), (.int p3), (.int p4), (.int p5)] below meth c s₁) (hml0 : c.maxLocals = maxLocals) {VM : Vm} {kS : Nat} (hZ : Z.Warmed39 (s.setVm VM).vm) (hown : (s.setVm VM).vm.findClass LW = some m.cls) (hh : s.heap = h0) {TJ : State} {locsJ : List Loc} {hJ : Heap} {b2 : Addr} {b40 : Addr} {bf : Addr} {bi : Addr} {sf : Addr} {si : Addr} {xn : Addr} {za16 : Addr} {za18 : Addr} {k2 : ClassId} {ki : ClassId} {kf : ClassId} {k40 : ClassId} {pt : Int32} {n : Int32} {c0 : Int32} {c1 : Int32} {c2 : Int32} {c3 : Int32} {bs : List Int32} {S0 : Int32} {kk0 : Int32} {kk1 : Int32} {kk2 : Int32} {kk3 : Int32} {dg : Int32} {dt : Int32} {ot : Int32} {st : Int32} {pa : Int32} {ie : Int32} {fi : Int32} {fa : Int32} {la : Int32} {P : Int32} {IE : Int32} {x0 : Int32} {s1 : Int32} {x1 : Int32} (XJ : Stand p l e room_1 (s.setVm VM) m #[(.int p1), (.int p2), (.int p3), (.int p4), (.int p5)] below meth c TJ locsJ 20 64) (eJ : TJ.heap = hJ) (NJ : Fr n0 locsJ) (K0 : Keep h0 hJ []) (Z0 : n0 ≤ hJ.size) (hS : s.Since VM kS) (hk : kS ≤ hJ.size) (hCr : CHr Z consts_1 s.vm h0 VM hJ) (SC : Sta Z hJ SN "COMPACT_STRINGS" "Z" (.int wC)) (SI : Sta Z hJ PC "SIOOBE_FORMATTER" BF w_S) (V_b2 : Arv Z hJ b2 k2 .char (4 : Int32) [(.int c0), (.int c1), (.int c2), (.int c3)] (.int (0 : Int32))) (E_z_6_l0_18 : Exa Z hJ za18 OP) (F_r_v : Fld Z hJ za18 OP "value" "Ljava/lang/Object;" (.ref xn)) (E_xn : Exa Z hJ xn NU) (F_xn_neg : Fld Z hJ xn NU "negative" "Z" (.int (((f8 bs n (45 : Int32)) &&& 1) &&& 1))) (F_xn_int : Fld Z hJ xn NU "integer" LS (.ref si)) (F_xn_fra : Fld Z hJ xn NU "fraction" LS (.ref sf)) (E_si : Exa Z hJ si SN) (F_si_v : Fld Z hJ si SN "value" "[B" (.ref bi)) (F_si_c : Fld Z hJ si SN "coder" "B" (.int (0 : Int32))) (V_bi : Arv Z hJ bi ki .byte (ie - fi) (List.map Value.int (slice bs fi (ie - fi))) (.int (0 : Int32))) (E_sf : Exa Z hJ sf SN) (F_sf_v : Fld Z hJ sf SN "value" "[B" (.ref bf)) (F_sf_c : Fld Z hJ sf SN "coder" "B" (.int (0 : Int32))) (V_bf : Arv Z hJ bf kf .byte (la - fa) (List.map Value.int (slice bs fa (la - fa))) (.int (0 : Int32))) (V_b40 : Arv Z hJ b40 k40 .boolean (4 : Int32) [(.int x0), (.int x1), (.int (0 : Int32)), (.int (0 : Int32))] (.int (0 : Int32))) (Sf_b2 : Safe Z consts_1 VM hJ b2) (Sf_b40 : Safe Z consts_1 VM hJ b40) (ne_b2_b40 : b2 ≠ b40) (ne_z_6_l0_18_b40 : za18 ≠ b40) (ne_xn_b40 : xn ≠ b40) (ne_si_b40 : si ≠ b40) (ne_bi_b40 : bi ≠ b40) (ne_sf_b40 : sf ≠ b40) (ne_bf_b40 : bf ≠ b40) (g_b40 : n0 ≤ b40) (sz_b40 : h0.size ≤ b40) (hM : Mk bs n c0 c1 c2 c3) (hS1 : S0 = st) (hPN : PN bs n pt st pa ie fi fa la) (hc0 : 0 ≤ c0.toInt ∧ c0.toInt ≤ 255) (hc1 : 0 ≤ c1.toInt ∧ c1.toInt ≤ 255) (hc2 : 0 ≤ c2.toInt ∧ c2.toInt ≤ 255) (hc3 : 0 ≤ c3.toInt ∧ c3.toInt ≤ 255) (hx0 : Bit x0 (fi.toInt ≤ 0 ∧ 0 < ie.toInt)) (hP : P = pa) (hIE : IE = ie) (hcs : ¬ wC = (0 : Int32)) (hrS : w_S.isRef = true) (hx1 : Bit x1 (fi.toInt ≤ 1 ∧ 1 < ie.toInt)) (hs1 : Bit s1 (fi.toInt ≤ 1 ∧ fi.toInt < ie.toInt)) :
  Go p.tables e below (TJ.setTop (mkF m 381 #[vi p1, vi p2, vi p3, vi p4, vi p5, vi n, vi pt, vr b2, vr za16, vr za18, vi S0, vi kk0, vi kk1, vi kk2, vi kk3, vi dg, vi dt, vi ot, vi 1, vi P, vi IE, vr b40, vi s1, us, us, us, us, us, us, us] [])) (fun o U' => ∃ v L, o = .returned v ∧ Q0 Z p1 p2 p3 p4 p5 wC w_S w_EMPTY h0 n0 v U'.heap L ∧ CHr Z consts_1 s.vm s.heap U'.vm U'.heap ∧ ReturnedEndW s o U' L 48 5312) := by
 have hx := Bd.exec
 have D := @hb _ _ Bd.bytes
 have hml : c.maxLocals = 30 := hml0
 have hnm := (name_of_methodNamed Bd.named Bd.method).1
 have J116 : ∀ (TJ : State) (locsJ : List Loc) (zz : Int32), Stand p l e room_1 (s.setVm VM) m #[(.int p1), (.int p2), (.int p3), (.int p4), (.int p5)] below meth c TJ locsJ 20 64 → TJ.heap = hJ → Fr n0 locsJ → (Bit (zz &&& 1) (fi.toInt ≤ 2 ∧ 2 < ie.toInt) ∧ Bit zz (fi.toInt ≤ 2 ∧ fi.toInt < ie.toInt)) → Go p.tables e below (TJ.setTop (mkF m 405 #[vi p1, vi p2, vi p3, vi p4, vi p5, vi n, vi pt, vr b2, vr za16, vr za18, vi S0, vi kk0, vi kk1, vi kk2, vi kk3, vi dg, vi dt, vi ot, vi 1, vi P, vi IE, vr b40, vi zz, us, us, us, us, us, us, us] [])) (fun o U' => ∃ v L, o = .returned v ∧ Q0 Z p1 p2 p3 p4 p5 wC w_S w_EMPTY h0 n0 v U'.heap L ∧ CHr Z consts_1 s.vm s.heap U'.vm U'.heap ∧ ReturnedEndW s o U' L 48 5312) := by
  intro TJ locsJ zz XJ eJ NJ hz
  refine G (fun t k => XS.aload XJ.here hx rfl (D at_405) rfl rfl (XS.iconst XJ.here hx rfl (D at_407) (XS.iload XJ.here hx rfl (D at_408) rfl k))) ?_
  obtain ⟨cl117, Ar117, qq117, Sz117, Ng117, Hs117, Gs117⟩ := id V_b40
  have hin117 := inb_of (j := (2 : Int32)) (c := cl117) Sz117 ⟨by decide, by decide⟩
  obtain ⟨T118, h118, X118, e118, W118, st118⟩ := stZ XJ hx hZ eJ Ar117 (j := (2 : Int32)) hin117 (g := (mkF m 410 #[vi p1, vi p2, vi p3, vi p4, vi p5, vi n, vi pt, vr b2, vr za16, vr za18, vi S0, vi kk0, vi kk1, vi kk2, vi kk3, vi dg, vi dt, vi ot, vi 1, vi P, vi IE, vr b40, vi zz, us, us, us, us, us, us, us] [(.int zz), (.int 2), (.ref b40)])) rfl rfl (D at_410)
  refine G st118 ?_
  have N118 := Fr.snoc X118 NJ g_b40
  have hCo := hCr.1
  have Sfo := Sf_b40
  replace Sf_b2 := Safe.wr W118 Sfo hCo Sf_b2
  replace Sf_b40 := Safe.wr W118 Sfo hCo Sf_b40
  replace hk := Nat.le_trans hk (Nat.le_of_eq W118.size.symm)
  replace hCr := hCr.trans (CHr.wr W118 Sfo hCo)
  clear hCo Sfo
  replace SC := SC.wr W118
  replace SI := SI.wr W118
  replace V_b2 := V_b2.other W118 ne_b2_b40
  replace E_z_6_l0_18 := E_z_6_l0_18.wr W118
  replace F_r_v := F_r_v.other W118 (Or.inl ne_z_6_l0_18_b40)
  replace E_xn := E_xn.wr W118
  replace F_xn_neg := F_xn_neg.other W118 (Or.inl ne_xn_b40)
  replace F_xn_int := F_xn_int.other W118 (Or.inl ne_xn_b40)
  replace F_xn_fra := F_xn_fra.other W118 (Or.inl ne_xn_b40)
  replace E_si := E_si.wr W118
  replace F_si_v := F_si_v.other W118 (Or.inl ne_si_b40)
  replace F_si_c := F_si_c.other W118 (Or.inl ne_si_b40)
  replace V_bi := V_bi.other W118 ne_bi_b40
  replace E_sf := E_sf.wr W118
  replace F_sf_v := F_sf_v.other W118 (Or.inl ne_sf_b40)
  replace F_sf_c := F_sf_c.other W118 (Or.inl ne_sf_b40)
  replace V_bf := V_bf.other W118 ne_bf_b40
  replace Z0 := Nat.le_trans Z0 (Nat.le_of_eq W118.size.symm)
  replace K0 := K0.wr W118 (Or.inr sz_b40)
  replace V_b40 : Arv Z h118 b40 k40 .boolean (4 : Int32) [(.int x0), (.int x1), (.int (zz &&& 1)), (.int (0 : Int32))] (.int (0 : Int32)) := Arv.set Ar117 qq117 Sz117 Ng117 Hs117 Gs117 (fits_nar_bool _) W118 2 rfl (Nat.le_of_ble_eq_true rfl)
  clear hin117 Gs117 Hs117 Ng117 Sz117 qq117 Ar117 cl117
  refine sG T118 (mkF m 411 #[vi p1, vi p2, vi p3, vi p4, vi p5, vi n, vi pt, vr b2, vr za16, vr za18, vi S0, vi kk0, vi kk1, vi kk2, vi kk3, vi dg, vi dt, vi ot, vi 1, vi P, vi IE, vr b40, vi zz, us, us, us, us, us, us, us] []) ?_
  exact TJ0_43 l Z a0 hw ws p1 p2 p3 p4 p5 wC w_S w_EMPTY h0 n0 Bd hml0 hZ hown hh X118 e118 N118 K0 Z0 hS hk hCr SC SI V_b2 E_z_6_l0_18 F_r_v E_xn F_xn_neg F_xn_int F_xn_fra E_si F_si_v F_si_c V_bi E_sf F_sf_v F_sf_c V_bf V_b40 Sf_b2 Sf_b40 ne_b2_b40 ne_z_6_l0_18_b40 ne_xn_b40 ne_si_b40 ne_bi_b40 ne_sf_b40 ne_bf_b40 g_b40 sz_b40 hM hS1 hPN hc0 hc1 hc2 hc3 hx0 hx1 hP hIE hcs hrS hz.1 hz.2
 refine G (fun t k => XS.iload XJ.here hx rfl (D at_381) rfl (XS.iconst XJ.here hx rfl (D at_383) k)) ?_
 by_cases hc119 : (2 : Int32) < S0
 ·refine G (fun t k => XS.icmpYes XJ.here hx rfl (pc0 := 384) (pc' := 411) rfl (D at_384) rfl (tlt hc119).2.2.1 (by decide) (by decide) k) ?_
  refine sG TJ (mkF m 411 #[vi p1, vi p2, vi p3, vi p4, vi p5, vi n, vi pt, vr b2, vr za16, vr za18, vi S0, vi kk0, vi kk1, vi kk2, vi kk3, vi dg, vi dt, vi ot, vi 1, vi P, vi IE, vr b40, vi s1, us, us, us, us, us, us, us] []) ?_
  have hz120 := (own_imS hM hPN hS1 hIE (2 : Int32) 2 rfl hs1 (Or.inl hc119))
  exact TJ0_43 l Z a0 hw ws p1 p2 p3 p4 p5 wC w_S w_EMPTY h0 n0 Bd hml0 hZ hown hh XJ eJ NJ K0 Z0 hS hk hCr SC SI V_b2 E_z_6_l0_18 F_r_v E_xn F_xn_neg F_xn_int F_xn_fra E_si F_si_v F_si_c V_bi E_sf F_sf_v F_sf_c V_bf V_b40 Sf_b2 Sf_b40 ne_b2_b40 ne_z_6_l0_18_b40 ne_xn_b40 ne_si_b40 ne_bi_b40 ne_sf_b40 ne_bf_b40 g_b40 sz_b40 hM hS1 hPN hc0 hc1 hc2 hc3 hx0 hx1 hP hIE hcs hrS hz120.1 hz120.2
 ·refine G (fun t k => XS.icmpNo XJ.here hx rfl (D at_384) rfl (flt hc119).2.2.1 (XS.iconst XJ.here hx rfl (D at_387) (XS.iload XJ.here hx rfl (D at_388) rfl k))) ?_
  by_cases hc121 : (2 : Int32) < IE
  ·refine G (fun t k => XS.icmpNo XJ.here hx rfl (D at_390) rfl (tlt hc121).2.1 (XS.aload XJ.here hx rfl (D at_393) rfl rfl k)) ?_
   refine sG TJ (mkF m 395 #[vi p1, vi p2, vi p3, vi p4, vi p5, vi n, vi pt, vr b2, vr za16, vr za18, vi S0, vi kk0, vi kk1, vi kk2, vi kk3, vi dg, vi dt, vi ot, vi 1, vi P, vi IE, vr b40, vi s1, us, us, us, us, us, us, us] [(.ref b2)]) ?_
   refine G (fun t k => XS.iconst XJ.here hx rfl (D at_395) k) ?_
   obtain ⟨cl122, Ar122, -, Sz122, Ng122, Hs122, -⟩ := id V_b2
   have hin122 := inb_of (j := (2 : Int32)) (c := cl122) Sz122 ⟨by decide, by decide⟩
   refine G (fun t k => XJ.caload hx (j := (2 : Int32)) (v := (.int c2)) (by rw [eJ]; exact Ar122.1) (State.isArrayOf_alike hZ.alike Ar122.2.1) Ar122.2.2 hin122 (Has.at Hs122 hin122 rfl) (g := (mkF m 396 #[vi p1, vi p2, vi p3, vi p4, vi p5, vi n, vi pt, vr b2, vr za16, vr za18, vi S0, vi kk0, vi kk1, vi kk2, vi kk3, vi dg, vi dt, vi ot, vi 1, vi P, vi IE, vr b40, vi s1, us, us, us, us, us, us, us] [(.int 2), (.ref b2)])) rfl rfl (D at_396) _ k) ?_
   clear hin122 Hs122 Ng122 Sz122 Ar122 cl122
   refine G (fun t k => XS.bipush XJ.here hx rfl (D at_397) k) ?_
   by_cases hc123 : c2 = (48 : Int32)
   ·refine G (fun t k => XS.icmpYes XJ.here hx rfl (pc0 := 399) (pc' := 405) rfl (D at_399) rfl (teq hc123).1 (by decide) (by decide) k) ?_
    refine sG TJ (mkF m 405 #[vi p1, vi p2, vi p3, vi p4, vi p5, vi n, vi pt, vr b2, vr za16, vr za18, vi S0, vi kk0, vi kk1, vi kk2, vi kk3, vi dg, vi dt, vi ot, vi 1, vi P, vi IE, vr b40, vi s1, us, us, us, us, us, us, us] []) ?_
    exact J116 _ _ s1 XJ eJ NJ (own_im0 hM hPN hS1 hIE (2 : Int32) 2 rfl hs1 hc119 hc121 (own_ch2 hM) hc123)
   ·refine G (fun t k => XS.icmpNo XJ.here hx rfl (D at_399) rfl (feq hc123).1 (XS.iconst XJ.here hx rfl (D at_402) (XS.istore XJ.here hx rfl (D at_403) rfl (l' := #[vi p1, vi p2, vi p3, vi p4, vi p5, vi n, vi pt, vr b2, vr za16, vr za18, vi S0, vi kk0, vi kk1, vi kk2, vi kk3, vi dg, vi dt, vi ot, vi 1, vi P, vi IE, vr b40, vi 1, us, us, us, us, us, us, us]) rfl k))) ?_
    refine sG TJ (mkF m 405 #[vi p1, vi p2, vi p3, vi p4, vi p5, vi n, vi pt, vr b2, vr za16, vr za18, vi S0, vi kk0, vi kk1, vi kk2, vi kk3, vi dg, vi dt, vi ot, vi 1, vi P, vi IE, vr b40, vi 1, us, us, us, us, us, us, us] []) ?_
    exact J116 _ _ (1 : Int32) XJ eJ NJ (own_im1' hM hPN hS1 hIE (2 : Int32) 2 rfl hs1 hc119 hc121 (own_ch2 hM) hc123)
  ·refine G (fun t k => XS.icmpYes XJ.here hx rfl (pc0 := 390) (pc' := 411) rfl (D at_390) rfl (flt hc121).2.1 (by decide) (by decide) k) ?_
   refine sG TJ (mkF m 411 #[vi p1, vi p2, vi p3, vi p4, vi p5, vi n, vi pt, vr b2, vr za16, vr za18, vi S0, vi kk0, vi kk1, vi kk2, vi kk3, vi dg, vi dt, vi ot, vi 1, vi P, vi IE, vr b40, vi s1, us, us, us, us, us, us, us] []) ?_
   have hz124 := (own_imS hM hPN hS1 hIE (2 : Int32) 2 rfl hs1 (Or.inr hc121))
   exact TJ0_43 l Z a0 hw ws p1 p2 p3 p4 p5 wC w_S w_EMPTY h0 n0 Bd hml0 hZ hown hh XJ eJ NJ K0 Z0 hS hk hCr SC SI V_b2 E_z_6_l0_18 F_r_v E_xn F_xn_neg F_xn_int F_xn_fra E_si F_si_v F_si_c V_bi E_sf F_sf_v F_sf_c V_bf V_b40 Sf_b2 Sf_b40 ne_b2_b40 ne_z_6_l0_18_b40 ne_xn_b40 ne_si_b40 ne_bi_b40 ne_sf_b40 ne_bf_b40 g_b40 sz_b40 hM hS1 hPN hc0 hc1 hc2 hc3 hx0 hx1 hP hIE hcs hrS hz124.1 hz124.2
theorem TJ0_41 (l : Launch) (Z : State) (a0 : Array Value) (hw : HW a0 Z) (ws : List Jvm.Cond) (p1 : Int32) (p2 : Int32) (p3 : Int32) (p4 : Int32) (p5 : Int32) (wC : Int32) (w_S : Value) (w_EMPTY : Addr) (h0 : Heap) (n0 : Nat) {p : Program} {e : Env} {s : State} {m : MethodId} {below : List Frame} {meth : Method} {c : Code} {s₁ : State} (Bd : BodyLoose p l x (head1 (Cond.code x code maxLocals ret :: ws) room_1) code maxLocals ret e s m #[(.int p1), (.int p2), (.int p3), (.int p4), (.int p5)] below meth c s₁) (hml0 : c.maxLocals = maxLocals) {VM : Vm} {kS : Nat} (hZ : Z.Warmed39 (s.setVm VM).vm) (hown : (s.setVm VM).vm.findClass LW = some m.cls) (hh : s.heap = h0) {TJ : State} {locsJ : List Loc} {hJ : Heap} {b2 : Addr} {b40 : Addr} {bf : Addr} {bi : Addr} {sf : Addr} {si : Addr} {xn : Addr} {za16 : Addr} {za18 : Addr} {k2 : ClassId} {ki : ClassId} {kf : ClassId} {k40 : ClassId} {pt : Int32} {n : Int32} {c0 : Int32} {c1 : Int32} {c2 : Int32} {c3 : Int32} {bs : List Int32} {S0 : Int32} {kk0 : Int32} {kk1 : Int32} {kk2 : Int32} {kk3 : Int32} {dg : Int32} {dt : Int32} {ot : Int32} {st : Int32} {pa : Int32} {ie : Int32} {fi : Int32} {fa : Int32} {la : Int32} {P : Int32} {IE : Int32} {s0 : Int32} {x0 : Int32} (XJ : Stand p l e room_1 (s.setVm VM) m #[(.int p1), (.int p2), (.int p3), (.int p4), (.int p5)] below meth c TJ locsJ 20 64) (eJ : TJ.heap = hJ) (NJ : Fr n0 locsJ) (K0 : Keep h0 hJ []) (Z0 : n0 ≤ hJ.size) (hS : s.Since VM kS) (hk : kS ≤ hJ.size) (hCr : CHr Z consts_1 s.vm h0 VM hJ) (SC : Sta Z hJ SN "COMPACT_STRINGS" "Z" (.int wC)) (SI : Sta Z hJ PC "SIOOBE_FORMATTER" BF w_S) (V_b2 : Arv Z hJ b2 k2 .char (4 : Int32) [(.int c0), (.int c1), (.int c2), (.int c3)] (.int (0 : Int32))) (E_z_6_l0_18 : Exa Z hJ za18 OP) (F_r_v : Fld Z hJ za18 OP "value" "Ljava/lang/Object;" (.ref xn)) (E_xn : Exa Z hJ xn NU) (F_xn_neg : Fld Z hJ xn NU "negative" "Z" (.int (((f8 bs n (45 : Int32)) &&& 1) &&& 1))) (F_xn_int : Fld Z hJ xn NU "integer" LS (.ref si)) (F_xn_fra : Fld Z hJ xn NU "fraction" LS (.ref sf)) (E_si : Exa Z hJ si SN) (F_si_v : Fld Z hJ si SN "value" "[B" (.ref bi)) (F_si_c : Fld Z hJ si SN "coder" "B" (.int (0 : Int32))) (V_bi : Arv Z hJ bi ki .byte (ie - fi) (List.map Value.int (slice bs fi (ie - fi))) (.int (0 : Int32))) (E_sf : Exa Z hJ sf SN) (F_sf_v : Fld Z hJ sf SN "value" "[B" (.ref bf)) (F_sf_c : Fld Z hJ sf SN "coder" "B" (.int (0 : Int32))) (V_bf : Arv Z hJ bf kf .byte (la - fa) (List.map Value.int (slice bs fa (la - fa))) (.int (0 : Int32))) (V_b40 : Arv Z hJ b40 k40 .boolean (4 : Int32) [(.int x0), (.int (0 : Int32)), (.int (0 : Int32)), (.int (0 : Int32))] (.int (0 : Int32))) (Sf_b2 : Safe Z consts_1 VM hJ b2) (Sf_b40 : Safe Z consts_1 VM hJ b40) (ne_b2_b40 : b2 ≠ b40) (ne_z_6_l0_18_b40 : za18 ≠ b40) (ne_xn_b40 : xn ≠ b40) (ne_si_b40 : si ≠ b40) (ne_bi_b40 : bi ≠ b40) (ne_sf_b40 : sf ≠ b40) (ne_bf_b40 : bf ≠ b40) (g_b40 : n0 ≤ b40) (sz_b40 : h0.size ≤ b40) (hM : Mk bs n c0 c1 c2 c3) (hS1 : S0 = st) (hPN : PN bs n pt st pa ie fi fa la) (hc0 : 0 ≤ c0.toInt ∧ c0.toInt ≤ 255) (hc1 : 0 ≤ c1.toInt ∧ c1.toInt ≤ 255) (hc2 : 0 ≤ c2.toInt ∧ c2.toInt ≤ 255) (hc3 : 0 ≤ c3.toInt ∧ c3.toInt ≤ 255) (hP : P = pa) (hIE : IE = ie) (hcs : ¬ wC = (0 : Int32)) (hrS : w_S.isRef = true) (hx0 : Bit x0 (fi.toInt ≤ 0 ∧ 0 < ie.toInt)) (hs0 : Bit s0 (fi.toInt ≤ 0 ∧ fi.toInt < ie.toInt)) :
  Go p.tables e below (TJ.setTop (mkF m 351 #[vi p1, vi p2, vi p3, vi p4, vi p5, vi n, vi pt, vr b2, vr za16, vr za18, vi S0, vi kk0, vi kk1, vi kk2, vi kk3, vi dg, vi dt, vi ot, vi 1, vi P, vi IE, vr b40, vi s0, us, us, us, us, us, us, us] [])) (fun o U' => ∃ v L, o = .returned v ∧ Q0 Z p1 p2 p3 p4 p5 wC w_S w_EMPTY h0 n0 v U'.heap L ∧ CHr Z consts_1 s.vm s.heap U'.vm U'.heap ∧ ReturnedEndW s o U' L 48 5312) := by
 have hx := Bd.exec
 have D := @hb _ _ Bd.bytes
 have hml : c.maxLocals = 30 := hml0
 have hnm := (name_of_methodNamed Bd.named Bd.method).1
 have J125 : ∀ (TJ : State) (locsJ : List Loc) (zz : Int32), Stand p l e room_1 (s.setVm VM) m #[(.int p1), (.int p2), (.int p3), (.int p4), (.int p5)] below meth c TJ locsJ 20 64 → TJ.heap = hJ → Fr n0 locsJ → (Bit (zz &&& 1) (fi.toInt ≤ 1 ∧ 1 < ie.toInt) ∧ Bit zz (fi.toInt ≤ 1 ∧ fi.toInt < ie.toInt)) → Go p.tables e below (TJ.setTop (mkF m 375 #[vi p1, vi p2, vi p3, vi p4, vi p5, vi n, vi pt, vr b2, vr za16, vr za18, vi S0, vi kk0, vi kk1, vi kk2, vi kk3, vi dg, vi dt, vi ot, vi 1, vi P, vi IE, vr b40, vi zz, us, us, us, us, us, us, us] [])) (fun o U' => ∃ v L, o = .returned v ∧ Q0 Z p1 p2 p3 p4 p5 wC w_S w_EMPTY h0 n0 v U'.heap L ∧ CHr Z consts_1 s.vm s.heap U'.vm U'.heap ∧ ReturnedEndW s o U' L 48 5312) := by
  intro TJ locsJ zz XJ eJ NJ hz
  refine G (fun t k => XS.aload XJ.here hx rfl (D at_375) rfl rfl (XS.iconst XJ.here hx rfl (D at_377) (XS.iload XJ.here hx rfl (D at_378) rfl k))) ?_
  obtain ⟨cl126, Ar126, qq126, Sz126, Ng126, Hs126, Gs126⟩ := id V_b40
  have hin126 := inb_of (j := (1 : Int32)) (c := cl126) Sz126 ⟨by decide, by decide⟩
  obtain ⟨T127, h127, X127, e127, W127, st127⟩ := stZ XJ hx hZ eJ Ar126 (j := (1 : Int32)) hin126 (g := (mkF m 380 #[vi p1, vi p2, vi p3, vi p4, vi p5, vi n, vi pt, vr b2, vr za16, vr za18, vi S0, vi kk0, vi kk1, vi kk2, vi kk3, vi dg, vi dt, vi ot, vi 1, vi P, vi IE, vr b40, vi zz, us, us, us, us, us, us, us] [(.int zz), (.int 1), (.ref b40)])) rfl rfl (D at_380)
  refine G st127 ?_
  have N127 := Fr.snoc X127 NJ g_b40
  have hCo := hCr.1
  have Sfo := Sf_b40
  replace Sf_b2 := Safe.wr W127 Sfo hCo Sf_b2
  replace Sf_b40 := Safe.wr W127 Sfo hCo Sf_b40
  replace hk := Nat.le_trans hk (Nat.le_of_eq W127.size.symm)
  replace hCr := hCr.trans (CHr.wr W127 Sfo hCo)
  clear hCo Sfo
  replace SC := SC.wr W127
  replace SI := SI.wr W127
  replace V_b2 := V_b2.other W127 ne_b2_b40
  replace E_z_6_l0_18 := E_z_6_l0_18.wr W127
  replace F_r_v := F_r_v.other W127 (Or.inl ne_z_6_l0_18_b40)
  replace E_xn := E_xn.wr W127
  replace F_xn_neg := F_xn_neg.other W127 (Or.inl ne_xn_b40)
  replace F_xn_int := F_xn_int.other W127 (Or.inl ne_xn_b40)
  replace F_xn_fra := F_xn_fra.other W127 (Or.inl ne_xn_b40)
  replace E_si := E_si.wr W127
  replace F_si_v := F_si_v.other W127 (Or.inl ne_si_b40)
  replace F_si_c := F_si_c.other W127 (Or.inl ne_si_b40)
  replace V_bi := V_bi.other W127 ne_bi_b40
  replace E_sf := E_sf.wr W127
  replace F_sf_v := F_sf_v.other W127 (Or.inl ne_sf_b40)
  replace F_sf_c := F_sf_c.other W127 (Or.inl ne_sf_b40)
  replace V_bf := V_bf.other W127 ne_bf_b40
  replace Z0 := Nat.le_trans Z0 (Nat.le_of_eq W127.size.symm)
  replace K0 := K0.wr W127 (Or.inr sz_b40)
  replace V_b40 : Arv Z h127 b40 k40 .boolean (4 : Int32) [(.int x0), (.int (zz &&& 1)), (.int (0 : Int32)), (.int (0 : Int32))] (.int (0 : Int32)) := Arv.set Ar126 qq126 Sz126 Ng126 Hs126 Gs126 (fits_nar_bool _) W127 1 rfl (Nat.le_of_ble_eq_true rfl)
  clear hin126 Gs126 Hs126 Ng126 Sz126 qq126 Ar126 cl126
  refine sG T127 (mkF m 381 #[vi p1, vi p2, vi p3, vi p4, vi p5, vi n, vi pt, vr b2, vr za16, vr za18, vi S0, vi kk0, vi kk1, vi kk2, vi kk3, vi dg, vi dt, vi ot, vi 1, vi P, vi IE, vr b40, vi zz, us, us, us, us, us, us, us] []) ?_
  exact TJ0_42 l Z a0 hw ws p1 p2 p3 p4 p5 wC w_S w_EMPTY h0 n0 Bd hml0 hZ hown hh X127 e127 N127 K0 Z0 hS hk hCr SC SI V_b2 E_z_6_l0_18 F_r_v E_xn F_xn_neg F_xn_int F_xn_fra E_si F_si_v F_si_c V_bi E_sf F_sf_v F_sf_c V_bf V_b40 Sf_b2 Sf_b40 ne_b2_b40 ne_z_6_l0_18_b40 ne_xn_b40 ne_si_b40 ne_bi_b40 ne_sf_b40 ne_bf_b40 g_b40 sz_b40 hM hS1 hPN hc0 hc1 hc2 hc3 hx0 hP hIE hcs hrS hz.1 hz.2
 refine G (fun t k => XS.iload XJ.here hx rfl (D at_351) rfl (XS.iconst XJ.here hx rfl (D at_353) k)) ?_
 by_cases hc128 : (1 : Int32) < S0
 ·refine G (fun t k => XS.icmpYes XJ.here hx rfl (pc0 := 354) (pc' := 381) rfl (D at_354) rfl (tlt hc128).2.2.1 (by decide) (by decide) k) ?_
  refine sG TJ (mkF m 381 #[vi p1, vi p2, vi p3, vi p4, vi p5, vi n, vi pt, vr b2, vr za16, vr za18, vi S0, vi kk0, vi kk1, vi kk2, vi kk3, vi dg, vi dt, vi ot, vi 1, vi P, vi IE, vr b40, vi s0, us, us, us, us, us, us, us] []) ?_
  have hz129 := (own_imS hM hPN hS1 hIE (1 : Int32) 1 rfl hs0 (Or.inl hc128))
  exact TJ0_42 l Z a0 hw ws p1 p2 p3 p4 p5 wC w_S w_EMPTY h0 n0 Bd hml0 hZ hown hh XJ eJ NJ K0 Z0 hS hk hCr SC SI V_b2 E_z_6_l0_18 F_r_v E_xn F_xn_neg F_xn_int F_xn_fra E_si F_si_v F_si_c V_bi E_sf F_sf_v F_sf_c V_bf V_b40 Sf_b2 Sf_b40 ne_b2_b40 ne_z_6_l0_18_b40 ne_xn_b40 ne_si_b40 ne_bi_b40 ne_sf_b40 ne_bf_b40 g_b40 sz_b40 hM hS1 hPN hc0 hc1 hc2 hc3 hx0 hP hIE hcs hrS hz129.1 hz129.2
 ·refine G (fun t k => XS.icmpNo XJ.here hx rfl (D at_354) rfl (flt hc128).2.2.1 (XS.iconst XJ.here hx rfl (D at_357) (XS.iload XJ.here hx rfl (D at_358) rfl k))) ?_
  by_cases hc130 : (1 : Int32) < IE
  ·refine G (fun t k => XS.icmpNo XJ.here hx rfl (D at_360) rfl (tlt hc130).2.1 (XS.aload XJ.here hx rfl (D at_363) rfl rfl k)) ?_
   refine sG TJ (mkF m 365 #[vi p1, vi p2, vi p3, vi p4, vi p5, vi n, vi pt, vr b2, vr za16, vr za18, vi S0, vi kk0, vi kk1, vi kk2, vi kk3, vi dg, vi dt, vi ot, vi 1, vi P, vi IE, vr b40, vi s0, us, us, us, us, us, us, us] [(.ref b2)]) ?_
   refine G (fun t k => XS.iconst XJ.here hx rfl (D at_365) k) ?_
   obtain ⟨cl131, Ar131, -, Sz131, Ng131, Hs131, -⟩ := id V_b2
   have hin131 := inb_of (j := (1 : Int32)) (c := cl131) Sz131 ⟨by decide, by decide⟩
   refine G (fun t k => XJ.caload hx (j := (1 : Int32)) (v := (.int c1)) (by rw [eJ]; exact Ar131.1) (State.isArrayOf_alike hZ.alike Ar131.2.1) Ar131.2.2 hin131 (Has.at Hs131 hin131 rfl) (g := (mkF m 366 #[vi p1, vi p2, vi p3, vi p4, vi p5, vi n, vi pt, vr b2, vr za16, vr za18, vi S0, vi kk0, vi kk1, vi kk2, vi kk3, vi dg, vi dt, vi ot, vi 1, vi P, vi IE, vr b40, vi s0, us, us, us, us, us, us, us] [(.int 1), (.ref b2)])) rfl rfl (D at_366) _ k) ?_
   clear hin131 Hs131 Ng131 Sz131 Ar131 cl131
   refine G (fun t k => XS.bipush XJ.here hx rfl (D at_367) k) ?_
   by_cases hc132 : c1 = (48 : Int32)
   ·refine G (fun t k => XS.icmpYes XJ.here hx rfl (pc0 := 369) (pc' := 375) rfl (D at_369) rfl (teq hc132).1 (by decide) (by decide) k) ?_
    refine sG TJ (mkF m 375 #[vi p1, vi p2, vi p3, vi p4, vi p5, vi n, vi pt, vr b2, vr za16, vr za18, vi S0, vi kk0, vi kk1, vi kk2, vi kk3, vi dg, vi dt, vi ot, vi 1, vi P, vi IE, vr b40, vi s0, us, us, us, us, us, us, us] []) ?_
    exact J125 _ _ s0 XJ eJ NJ (own_im0 hM hPN hS1 hIE (1 : Int32) 1 rfl hs0 hc128 hc130 (own_ch1 hM) hc132)
   ·refine G (fun t k => XS.icmpNo XJ.here hx rfl (D at_369) rfl (feq hc132).1 (XS.iconst XJ.here hx rfl (D at_372) (XS.istore XJ.here hx rfl (D at_373) rfl (l' := #[vi p1, vi p2, vi p3, vi p4, vi p5, vi n, vi pt, vr b2, vr za16, vr za18, vi S0, vi kk0, vi kk1, vi kk2, vi kk3, vi dg, vi dt, vi ot, vi 1, vi P, vi IE, vr b40, vi 1, us, us, us, us, us, us, us]) rfl k))) ?_
    refine sG TJ (mkF m 375 #[vi p1, vi p2, vi p3, vi p4, vi p5, vi n, vi pt, vr b2, vr za16, vr za18, vi S0, vi kk0, vi kk1, vi kk2, vi kk3, vi dg, vi dt, vi ot, vi 1, vi P, vi IE, vr b40, vi 1, us, us, us, us, us, us, us] []) ?_
    exact J125 _ _ (1 : Int32) XJ eJ NJ (own_im1' hM hPN hS1 hIE (1 : Int32) 1 rfl hs0 hc128 hc130 (own_ch1 hM) hc132)
  ·refine G (fun t k => XS.icmpYes XJ.here hx rfl (pc0 := 360) (pc' := 381) rfl (D at_360) rfl (flt hc130).2.1 (by decide) (by decide) k) ?_
   refine sG TJ (mkF m 381 #[vi p1, vi p2, vi p3, vi p4, vi p5, vi n, vi pt, vr b2, vr za16, vr za18, vi S0, vi kk0, vi kk1, vi kk2, vi kk3, vi dg, vi dt, vi ot, vi 1, vi P, vi IE, vr b40, vi s0, us, us, us, us, us, us, us] []) ?_
   have hz133 := (own_imS hM hPN hS1 hIE (1 : Int32) 1 rfl hs0 (Or.inr hc130))
   exact TJ0_42 l Z a0 hw ws p1 p2 p3 p4 p5 wC w_S w_EMPTY h0 n0 Bd hml0 hZ hown hh XJ eJ NJ K0 Z0 hS hk hCr SC SI V_b2 E_z_6_l0_18 F_r_v E_xn F_xn_neg F_xn_int F_xn_fra E_si F_si_v F_si_c V_bi E_sf F_sf_v F_sf_c V_bf V_b40 Sf_b2 Sf_b40 ne_b2_b40 ne_z_6_l0_18_b40 ne_xn_b40 ne_si_b40 ne_bi_b40 ne_sf_b40 ne_bf_b40 g_b40 sz_b40 hM hS1 hPN hc0 hc1 hc2 hc3 hx0 hP hIE hcs hrS hz133.1 hz133.2
theorem TJ0_38 (l : Launch) (Z : State) (a0 : Array Value) (hw : HW a0 Z) (ws : List Jvm.Cond) (p1 : Int32) (p2 : Int32) (p3 : Int32) (p4 : Int32) (p5 : Int32) (wC : Int32) (w_S : Value) (w_EMPTY : Addr) (h0 : Heap) (n0 : Nat) {p : Program} {e : Env} {s : State} {m : MethodId} {below : List Frame} {meth : Method} {c : Code} {s₁ : State} (Bd : BodyLoose p l x (head1 (Cond.code x code maxLocals ret :: ws) room_1) code maxLocals ret e s m #[(.int p1), (.int p2), (.int p3), (.int p4), (.int p5)] below meth c s₁) (hml0 : c.maxLocals = maxLocals) {VM : Vm} {kS : Nat} (hZ : Z.Warmed39 (s.setVm VM).vm) (hown : (s.setVm VM).vm.findClass LW = some m.cls) (hh : s.heap = h0) {TJ : State} {locsJ : List Loc} {hJ : Heap} {b2 : Addr} {bf : Addr} {bi : Addr} {sf : Addr} {si : Addr} {xn : Addr} {za16 : Addr} {za18 : Addr} {k2 : ClassId} {ki : ClassId} {kf : ClassId} {pt : Int32} {n : Int32} {c0 : Int32} {c1 : Int32} {c2 : Int32} {c3 : Int32} {bs : List Int32} {S0 : Int32} {kk0 : Int32} {kk1 : Int32} {kk2 : Int32} {kk3 : Int32} {dg : Int32} {dt : Int32} {ot : Int32} {st : Int32} {pa : Int32} {ie : Int32} {fi : Int32} {fa : Int32} {la : Int32} {P : Int32} (XJ : Stand p l e room_1 (s.setVm VM) m #[(.int p1), (.int p2), (.int p3), (.int p4), (.int p5)] below meth c TJ locsJ 19 60) (eJ : TJ.heap = hJ) (NJ : Fr n0 locsJ) (K0 : Keep h0 hJ []) (Z0 : n0 ≤ hJ.size) (hS : s.Since VM kS) (hk : kS ≤ hJ.size) (hCr : CHr Z consts_1 s.vm h0 VM hJ) (SC : Sta Z hJ SN "COMPACT_STRINGS" "Z" (.int wC)) (SI : Sta Z hJ PC "SIOOBE_FORMATTER" BF w_S) (V_b2 : Arv Z hJ b2 k2 .char (4 : Int32) [(.int c0), (.int c1), (.int c2), (.int c3)] (.int (0 : Int32))) (E_z_6_l0_18 : Exa Z hJ za18 OP) (F_r_v : Fld Z hJ za18 OP "value" "Ljava/lang/Object;" (.ref xn)) (E_xn : Exa Z hJ xn NU) (F_xn_neg : Fld Z hJ xn NU "negative" "Z" (.int (((f8 bs n (45 : Int32)) &&& 1) &&& 1))) (F_xn_int : Fld Z hJ xn NU "integer" LS (.ref si)) (F_xn_fra : Fld Z hJ xn NU "fraction" LS (.ref sf)) (E_si : Exa Z hJ si SN) (F_si_v : Fld Z hJ si SN "value" "[B" (.ref bi)) (F_si_c : Fld Z hJ si SN "coder" "B" (.int (0 : Int32))) (V_bi : Arv Z hJ bi ki .byte (ie - fi) (List.map Value.int (slice bs fi (ie - fi))) (.int (0 : Int32))) (E_sf : Exa Z hJ sf SN) (F_sf_v : Fld Z hJ sf SN "value" "[B" (.ref bf)) (F_sf_c : Fld Z hJ sf SN "coder" "B" (.int (0 : Int32))) (V_bf : Arv Z hJ bf kf .byte (la - fa) (List.map Value.int (slice bs fa (la - fa))) (.int (0 : Int32))) (Sf_b2 : Safe Z consts_1 VM hJ b2) (hM : Mk bs n c0 c1 c2 c3) (hS1 : S0 = st) (hPN : PN bs n pt st pa ie fi fa la) (hc0 : 0 ≤ c0.toInt ∧ c0.toInt ≤ 255) (hc1 : 0 ≤ c1.toInt ∧ c1.toInt ≤ 255) (hc2 : 0 ≤ c2.toInt ∧ c2.toInt ≤ 255) (hc3 : 0 ≤ c3.toInt ∧ c3.toInt ≤ 255) (hcs : ¬ wC = (0 : Int32)) (hrS : w_S.isRef = true) (hP : P = pa) :
  Go p.tables e below (TJ.setTop (mkF m 298 #[vi p1, vi p2, vi p3, vi p4, vi p5, vi n, vi pt, vr b2, vr za16, vr za18, vi S0, vi kk0, vi kk1, vi kk2, vi kk3, vi dg, vi dt, vi ot, vi 1, us, us, us, us, us, us, us, us, us, us, us] [(.int P)])) (fun o U' => ∃ v L, o = .returned v ∧ Q0 Z p1 p2 p3 p4 p5 wC w_S w_EMPTY h0 n0 v U'.heap L ∧ CHr Z consts_1 s.vm s.heap U'.vm U'.heap ∧ ReturnedEndW s o U' L 48 5312) := by
 have hx := Bd.exec
 have D := @hb _ _ Bd.bytes
 have hml : c.maxLocals = 30 := hml0
 have hnm := (name_of_methodNamed Bd.named Bd.method).1
 refine G (fun t k => XS.istore XJ.here hx rfl (D at_298) rfl (l' := #[vi p1, vi p2, vi p3, vi p4, vi p5, vi n, vi pt, vr b2, vr za16, vr za18, vi S0, vi kk0, vi kk1, vi kk2, vi kk3, vi dg, vi dt, vi ot, vi 1, vi P, us, us, us, us, us, us, us, us, us, us]) rfl k) ?_
 refine sG TJ (mkF m 300 #[vi p1, vi p2, vi p3, vi p4, vi p5, vi n, vi pt, vr b2, vr za16, vr za18, vi S0, vi kk0, vi kk1, vi kk2, vi kk3, vi dg, vi dt, vi ot, vi 1, vi P, us, us, us, us, us, us, us, us, us, us] []) ?_
 have J39 : ∀ (TJ : State) (locsJ : List Loc) (IE : Int32), Stand p l e room_1 (s.setVm VM) m #[(.int p1), (.int p2), (.int p3), (.int p4), (.int p5)] below meth c TJ locsJ 19 60 → TJ.heap = hJ → Fr n0 locsJ → (IE = ie) → Go p.tables e below (TJ.setTop (mkF m 312 #[vi p1, vi p2, vi p3, vi p4, vi p5, vi n, vi pt, vr b2, vr za16, vr za18, vi S0, vi kk0, vi kk1, vi kk2, vi kk3, vi dg, vi dt, vi ot, vi 1, vi P, us, us, us, us, us, us, us, us, us, us] [(.int IE)])) (fun o U' => ∃ v L, o = .returned v ∧ Q0 Z p1 p2 p3 p4 p5 wC w_S w_EMPTY h0 n0 v U'.heap L ∧ CHr Z consts_1 s.vm s.heap U'.vm U'.heap ∧ ReturnedEndW s o U' L 48 5312) := by
  intro TJ locsJ IE XJ eJ NJ hIE
  refine G (fun t k => XS.istore XJ.here hx rfl (D at_312) rfl (l' := #[vi p1, vi p2, vi p3, vi p4, vi p5, vi n, vi pt, vr b2, vr za16, vr za18, vi S0, vi kk0, vi kk1, vi kk2, vi kk3, vi dg, vi dt, vi ot, vi 1, vi P, vi IE, us, us, us, us, us, us, us, us, us]) rfl (XS.iconst XJ.here hx rfl (D at_314) k)) ?_
  obtain ⟨T40, h40, k40, X40, e40, E40, A40, st40⟩ := newP XJ hx hZ (aty := .boolean) (wd157 hw) eJ (g := (mkF m 315 #[vi p1, vi p2, vi p3, vi p4, vi p5, vi n, vi pt, vr b2, vr za16, vr za18, vi S0, vi kk0, vi kk1, vi kk2, vi kk3, vi dg, vi dt, vi ot, vi 1, vi P, vi IE, us, us, us, us, us, us, us, us, us] [(.int 4)])) rfl (D at_315) rfl (by decide) (cap := 4) (by decide) (by decide) (by decide) (by decide)
  obtain ⟨b40, g40⟩ : ∃ z, z = hJ.size := ⟨_, rfl⟩
  rw [← g40] at A40 st40
  refine G st40 ?_
  have ne_b2_b40 : b2 ≠ b40 := Nat.ne_of_lt (Nat.lt_of_lt_of_le V_b2.lt (Nat.le_of_eq g40.symm))
  have ne_z_6_l0_18_b40 : za18 ≠ b40 := Nat.ne_of_lt (Nat.lt_of_lt_of_le E_z_6_l0_18.lt (Nat.le_of_eq g40.symm))
  have ne_xn_b40 : xn ≠ b40 := Nat.ne_of_lt (Nat.lt_of_lt_of_le E_xn.lt (Nat.le_of_eq g40.symm))
  have ne_si_b40 : si ≠ b40 := Nat.ne_of_lt (Nat.lt_of_lt_of_le E_si.lt (Nat.le_of_eq g40.symm))
  have ne_bi_b40 : bi ≠ b40 := Nat.ne_of_lt (Nat.lt_of_lt_of_le V_bi.lt (Nat.le_of_eq g40.symm))
  have ne_sf_b40 : sf ≠ b40 := Nat.ne_of_lt (Nat.lt_of_lt_of_le E_sf.lt (Nat.le_of_eq g40.symm))
  have ne_bf_b40 : bf ≠ b40 := Nat.ne_of_lt (Nat.lt_of_lt_of_le V_bf.lt (Nat.le_of_eq g40.symm))
  have g_b40 : n0 ≤ b40 := Nat.le_trans Z0 (Nat.le_of_eq g40.symm)
  have sz_b40 : h0.size ≤ b40 := Nat.le_trans K0.1 (Nat.le_of_eq g40.symm)
  have Sf_b40 : Safe Z consts_1 VM hJ b40 := Safe.new (Nat.le_of_eq g40.symm)
  replace SC := SC.ext E40
  replace SI := SI.ext E40
  replace V_b2 := V_b2.ext E40
  replace E_z_6_l0_18 := E_z_6_l0_18.ext E40
  replace F_r_v := F_r_v.ext E40
  replace E_xn := E_xn.ext E40
  replace F_xn_neg := F_xn_neg.ext E40
  replace F_xn_int := F_xn_int.ext E40
  replace F_xn_fra := F_xn_fra.ext E40
  replace E_si := E_si.ext E40
  replace F_si_v := F_si_v.ext E40
  replace F_si_c := F_si_c.ext E40
  replace V_bi := V_bi.ext E40
  replace E_sf := E_sf.ext E40
  replace F_sf_v := F_sf_v.ext E40
  replace F_sf_c := F_sf_c.ext E40
  replace V_bf := V_bf.ext E40
  replace K0 := K0.ext E40
  replace Z0 := Nat.le_trans Z0 E40.1
  replace Sf_b2 := Safe.ext E40 hCr.1 Sf_b2
  replace Sf_b40 := Safe.ext E40 hCr.1 Sf_b40
  replace hk := Nat.le_trans hk E40.1
  replace hCr := hCr.trans (CHr.ext E40 hCr.1)
  have V_b40 : Arv Z h40 b40 k40 .boolean (4 : Int32) [(.int (0 : Int32)), (.int (0 : Int32)), (.int (0 : Int32)), (.int (0 : Int32))] (.int (0 : Int32)) := (Arv.new A40 (by decide)).pad (pad_rep [] (.int (0 : Int32)) 4)
  refine G (fun t k => XS.astore X40.here hx rfl (D at_317) rfl rfl (l' := #[vi p1, vi p2, vi p3, vi p4, vi p5, vi n, vi pt, vr b2, vr za16, vr za18, vi S0, vi kk0, vi kk1, vi kk2, vi kk3, vi dg, vi dt, vi ot, vi 1, vi P, vi IE, vr b40, us, us, us, us, us, us, us, us]) rfl (XS.iconst X40.here hx rfl (D at_319) (XS.istore X40.here hx rfl (D at_320) rfl (l' := #[vi p1, vi p2, vi p3, vi p4, vi p5, vi n, vi pt, vr b2, vr za16, vr za18, vi S0, vi kk0, vi kk1, vi kk2, vi kk3, vi dg, vi dt, vi ot, vi 1, vi P, vi IE, vr b40, vi 0, us, us, us, us, us, us, us]) rfl k))) ?_
  refine sG T40 (mkF m 322 #[vi p1, vi p2, vi p3, vi p4, vi p5, vi n, vi pt, vr b2, vr za16, vr za18, vi S0, vi kk0, vi kk1, vi kk2, vi kk3, vi dg, vi dt, vi ot, vi 1, vi P, vi IE, vr b40, vi 0, us, us, us, us, us, us, us] []) ?_
  have J134 : ∀ (TJ : State) (locsJ : List Loc) (zz : Int32), Stand p l e room_1 (s.setVm VM) m #[(.int p1), (.int p2), (.int p3), (.int p4), (.int p5)] below meth c TJ locsJ 20 64 → TJ.heap = h40 → Fr n0 locsJ → (Bit (zz &&& 1) (fi.toInt ≤ 0 ∧ 0 < ie.toInt) ∧ Bit zz (fi.toInt ≤ 0 ∧ fi.toInt < ie.toInt)) → Go p.tables e below (TJ.setTop (mkF m 345 #[vi p1, vi p2, vi p3, vi p4, vi p5, vi n, vi pt, vr b2, vr za16, vr za18, vi S0, vi kk0, vi kk1, vi kk2, vi kk3, vi dg, vi dt, vi ot, vi 1, vi P, vi IE, vr b40, vi zz, us, us, us, us, us, us, us] [])) (fun o U' => ∃ v L, o = .returned v ∧ Q0 Z p1 p2 p3 p4 p5 wC w_S w_EMPTY h0 n0 v U'.heap L ∧ CHr Z consts_1 s.vm s.heap U'.vm U'.heap ∧ ReturnedEndW s o U' L 48 5312) := by
   intro TJ locsJ zz XJ eJ NJ hz
   refine G (fun t k => XS.aload XJ.here hx rfl (D at_345) rfl rfl (XS.iconst XJ.here hx rfl (D at_347) (XS.iload XJ.here hx rfl (D at_348) rfl k))) ?_
   obtain ⟨cl135, Ar135, qq135, Sz135, Ng135, Hs135, Gs135⟩ := id V_b40
   have hin135 := inb_of (j := (0 : Int32)) (c := cl135) Sz135 ⟨by decide, by decide⟩
   obtain ⟨T136, h136, X136, e136, W136, st136⟩ := stZ XJ hx hZ eJ Ar135 (j := (0 : Int32)) hin135 (g := (mkF m 350 #[vi p1, vi p2, vi p3, vi p4, vi p5, vi n, vi pt, vr b2, vr za16, vr za18, vi S0, vi kk0, vi kk1, vi kk2, vi kk3, vi dg, vi dt, vi ot, vi 1, vi P, vi IE, vr b40, vi zz, us, us, us, us, us, us, us] [(.int zz), (.int 0), (.ref b40)])) rfl rfl (D at_350)
   refine G st136 ?_
   have N136 := Fr.snoc X136 NJ g_b40
   have hCo := hCr.1
   have Sfo := Sf_b40
   replace Sf_b2 := Safe.wr W136 Sfo hCo Sf_b2
   replace Sf_b40 := Safe.wr W136 Sfo hCo Sf_b40
   replace hk := Nat.le_trans hk (Nat.le_of_eq W136.size.symm)
   replace hCr := hCr.trans (CHr.wr W136 Sfo hCo)
   clear hCo Sfo
   replace SC := SC.wr W136
   replace SI := SI.wr W136
   replace V_b2 := V_b2.other W136 ne_b2_b40
   replace E_z_6_l0_18 := E_z_6_l0_18.wr W136
   replace F_r_v := F_r_v.other W136 (Or.inl ne_z_6_l0_18_b40)
   replace E_xn := E_xn.wr W136
   replace F_xn_neg := F_xn_neg.other W136 (Or.inl ne_xn_b40)
   replace F_xn_int := F_xn_int.other W136 (Or.inl ne_xn_b40)
   replace F_xn_fra := F_xn_fra.other W136 (Or.inl ne_xn_b40)
   replace E_si := E_si.wr W136
   replace F_si_v := F_si_v.other W136 (Or.inl ne_si_b40)
   replace F_si_c := F_si_c.other W136 (Or.inl ne_si_b40)
   replace V_bi := V_bi.other W136 ne_bi_b40
   replace E_sf := E_sf.wr W136
   replace F_sf_v := F_sf_v.other W136 (Or.inl ne_sf_b40)
   replace F_sf_c := F_sf_c.other W136 (Or.inl ne_sf_b40)
   replace V_bf := V_bf.other W136 ne_bf_b40
   replace Z0 := Nat.le_trans Z0 (Nat.le_of_eq W136.size.symm)
   replace K0 := K0.wr W136 (Or.inr sz_b40)
   replace V_b40 : Arv Z h136 b40 k40 .boolean (4 : Int32) [(.int (zz &&& 1)), (.int (0 : Int32)), (.int (0 : Int32)), (.int (0 : Int32))] (.int (0 : Int32)) := Arv.set Ar135 qq135 Sz135 Ng135 Hs135 Gs135 (fits_nar_bool _) W136 0 rfl (Nat.le_of_ble_eq_true rfl)
   clear hin135 Gs135 Hs135 Ng135 Sz135 qq135 Ar135 cl135
   refine sG T136 (mkF m 351 #[vi p1, vi p2, vi p3, vi p4, vi p5, vi n, vi pt, vr b2, vr za16, vr za18, vi S0, vi kk0, vi kk1, vi kk2, vi kk3, vi dg, vi dt, vi ot, vi 1, vi P, vi IE, vr b40, vi zz, us, us, us, us, us, us, us] []) ?_
   exact TJ0_41 l Z a0 hw ws p1 p2 p3 p4 p5 wC w_S w_EMPTY h0 n0 Bd hml0 hZ hown hh X136 e136 N136 K0 Z0 hS hk hCr SC SI V_b2 E_z_6_l0_18 F_r_v E_xn F_xn_neg F_xn_int F_xn_fra E_si F_si_v F_si_c V_bi E_sf F_sf_v F_sf_c V_bf V_b40 Sf_b2 Sf_b40 ne_b2_b40 ne_z_6_l0_18_b40 ne_xn_b40 ne_si_b40 ne_bi_b40 ne_sf_b40 ne_bf_b40 g_b40 sz_b40 hM hS1 hPN hc0 hc1 hc2 hc3 hP hIE hcs hrS hz.1 hz.2
  refine G (fun t k => XS.iload X40.here hx rfl (D at_322) rfl k) ?_
  by_cases hc137 : (0 : Int32) < S0
  ·refine G (fun t k => XS.ifYes X40.here hx rfl (pc0 := 324) (pc' := 351) rfl (D at_324) rfl ((if0 _ _).trans (tlt hc137).2.2.1) (by decide) (by decide) k) ?_
   refine sG T40 (mkF m 351 #[vi p1, vi p2, vi p3, vi p4, vi p5, vi n, vi pt, vr b2, vr za16, vr za18, vi S0, vi kk0, vi kk1, vi kk2, vi kk3, vi dg, vi dt, vi ot, vi 1, vi P, vi IE, vr b40, vi 0, us, us, us, us, us, us, us] []) ?_
   have hz138 := (own_imS hM hPN hS1 hIE (0 : Int32) 0 rfl (own_bi hPN hM) (Or.inl hc137))
   exact TJ0_41 l Z a0 hw ws p1 p2 p3 p4 p5 wC w_S w_EMPTY h0 n0 Bd hml0 hZ hown hh X40 e40 NJ K0 Z0 hS hk hCr SC SI V_b2 E_z_6_l0_18 F_r_v E_xn F_xn_neg F_xn_int F_xn_fra E_si F_si_v F_si_c V_bi E_sf F_sf_v F_sf_c V_bf V_b40 Sf_b2 Sf_b40 ne_b2_b40 ne_z_6_l0_18_b40 ne_xn_b40 ne_si_b40 ne_bi_b40 ne_sf_b40 ne_bf_b40 g_b40 sz_b40 hM hS1 hPN hc0 hc1 hc2 hc3 hP hIE hcs hrS hz138.1 hz138.2
  ·refine G (fun t k => XS.ifNo X40.here hx rfl (D at_324) rfl ((if0 _ _).trans (flt hc137).2.2.1) (XS.iconst X40.here hx rfl (D at_327) (XS.iload X40.here hx rfl (D at_328) rfl k))) ?_
   by_cases hc139 : (0 : Int32) < IE
   ·refine G (fun t k => XS.icmpNo X40.here hx rfl (D at_330) rfl (tlt hc139).2.1 (XS.aload X40.here hx rfl (D at_333) rfl rfl (XS.iconst X40.here hx rfl (D at_335) k))) ?_
    refine sG T40 (mkF m 336 #[vi p1, vi p2, vi p3, vi p4, vi p5, vi n, vi pt, vr b2, vr za16, vr za18, vi S0, vi kk0, vi kk1, vi kk2, vi kk3, vi dg, vi dt, vi ot, vi 1, vi P, vi IE, vr b40, vi 0, us, us, us, us, us, us, us] [(.int 0), (.ref b2)]) ?_
    obtain ⟨cl140, Ar140, -, Sz140, Ng140, Hs140, -⟩ := id V_b2
    have hin140 := inb_of (j := (0 : Int32)) (c := cl140) Sz140 ⟨by decide, by decide⟩
    refine G (fun t k => X40.caload hx (j := (0 : Int32)) (v := (.int c0)) (by rw [e40]; exact Ar140.1) (State.isArrayOf_alike hZ.alike Ar140.2.1) Ar140.2.2 hin140 (Has.at Hs140 hin140 rfl) (g := (mkF m 336 #[vi p1, vi p2, vi p3, vi p4, vi p5, vi n, vi pt, vr b2, vr za16, vr za18, vi S0, vi kk0, vi kk1, vi kk2, vi kk3, vi dg, vi dt, vi ot, vi 1, vi P, vi IE, vr b40, vi 0, us, us, us, us, us, us, us] [(.int 0), (.ref b2)])) rfl rfl (D at_336) _ k) ?_
    clear hin140 Hs140 Ng140 Sz140 Ar140 cl140
    refine G (fun t k => XS.bipush X40.here hx rfl (D at_337) k) ?_
    by_cases hc141 : c0 = (48 : Int32)
    ·refine G (fun t k => XS.icmpYes X40.here hx rfl (pc0 := 339) (pc' := 345) rfl (D at_339) rfl (teq hc141).1 (by decide) (by decide) k) ?_
     refine sG T40 (mkF m 345 #[vi p1, vi p2, vi p3, vi p4, vi p5, vi n, vi pt, vr b2, vr za16, vr za18, vi S0, vi kk0, vi kk1, vi kk2, vi kk3, vi dg, vi dt, vi ot, vi 1, vi P, vi IE, vr b40, vi 0, us, us, us, us, us, us, us] []) ?_
     exact J134 _ _ (0 : Int32) X40 e40 NJ (own_im0 hM hPN hS1 hIE (0 : Int32) 0 rfl (own_bi hPN hM) hc137 hc139 (own_ch0 hM) hc141)
    ·refine G (fun t k => XS.icmpNo X40.here hx rfl (D at_339) rfl (feq hc141).1 (XS.iconst X40.here hx rfl (D at_342) (XS.istore X40.here hx rfl (D at_343) rfl (l' := #[vi p1, vi p2, vi p3, vi p4, vi p5, vi n, vi pt, vr b2, vr za16, vr za18, vi S0, vi kk0, vi kk1, vi kk2, vi kk3, vi dg, vi dt, vi ot, vi 1, vi P, vi IE, vr b40, vi 1, us, us, us, us, us, us, us]) rfl k))) ?_
     refine sG T40 (mkF m 345 #[vi p1, vi p2, vi p3, vi p4, vi p5, vi n, vi pt, vr b2, vr za16, vr za18, vi S0, vi kk0, vi kk1, vi kk2, vi kk3, vi dg, vi dt, vi ot, vi 1, vi P, vi IE, vr b40, vi 1, us, us, us, us, us, us, us] []) ?_
     exact J134 _ _ (1 : Int32) X40 e40 NJ (own_im1' hM hPN hS1 hIE (0 : Int32) 0 rfl (own_bi hPN hM) hc137 hc139 (own_ch0 hM) hc141)
   ·refine G (fun t k => XS.icmpYes X40.here hx rfl (pc0 := 330) (pc' := 351) rfl (D at_330) rfl (flt hc139).2.1 (by decide) (by decide) k) ?_
    refine sG T40 (mkF m 351 #[vi p1, vi p2, vi p3, vi p4, vi p5, vi n, vi pt, vr b2, vr za16, vr za18, vi S0, vi kk0, vi kk1, vi kk2, vi kk3, vi dg, vi dt, vi ot, vi 1, vi P, vi IE, vr b40, vi 0, us, us, us, us, us, us, us] []) ?_
    have hz142 := (own_imS hM hPN hS1 hIE (0 : Int32) 0 rfl (own_bi hPN hM) (Or.inr hc139))
    exact TJ0_41 l Z a0 hw ws p1 p2 p3 p4 p5 wC w_S w_EMPTY h0 n0 Bd hml0 hZ hown hh X40 e40 NJ K0 Z0 hS hk hCr SC SI V_b2 E_z_6_l0_18 F_r_v E_xn F_xn_neg F_xn_int F_xn_fra E_si F_si_v F_si_c V_bi E_sf F_sf_v F_sf_c V_bf V_b40 Sf_b2 Sf_b40 ne_b2_b40 ne_z_6_l0_18_b40 ne_xn_b40 ne_si_b40 ne_bi_b40 ne_sf_b40 ne_bf_b40 g_b40 sz_b40 hM hS1 hPN hc0 hc1 hc2 hc3 hP hIE hcs hrS hz142.1 hz142.2
 refine G (fun t k => XS.iload XJ.here hx rfl (D at_300) rfl k) ?_
 by_cases hc143 : P < (0 : Int32)
 ·refine G (fun t k => XS.ifNo XJ.here hx rfl (D at_302) rfl ((if0 _ _).trans (tlt hc143).2.1) (XS.iload XJ.here hx rfl (D at_305) rfl (XS.goto XJ.here hx rfl (pc0 := 307) (pc' := 312) rfl (D at_307) (by decide) (by decide) k))) ?_
  refine sG TJ (mkF m 312 #[vi p1, vi p2, vi p3, vi p4, vi p5, vi n, vi pt, vr b2, vr za16, vr za18, vi S0, vi kk0, vi kk1, vi kk2, vi kk3, vi dg, vi dt, vi ot, vi 1, vi P, us, us, us, us, us, us, us, us, us, us] [(.int n)]) ?_
  exact J39 _ _ n XJ eJ NJ (own_ie1 hPN hP hc143)
 ·refine G (fun t k => XS.ifYes XJ.here hx rfl (pc0 := 302) (pc' := 310) rfl (D at_302) rfl ((if0 _ _).trans (flt hc143).2.1) (by decide) (by decide) (XS.iload XJ.here hx rfl (D at_310) rfl k)) ?_
  refine sG TJ (mkF m 312 #[vi p1, vi p2, vi p3, vi p4, vi p5, vi n, vi pt, vr b2, vr za16, vr za18, vi S0, vi kk0, vi kk1, vi kk2, vi kk3, vi dg, vi dt, vi ot, vi 1, vi P, us, us, us, us, us, us, us, us, us, us] [(.int P)]) ?_
  exact J39 _ _ P XJ eJ NJ (own_ie0 hPN hP hc143)
theorem TJ0_28 (l : Launch) (Z : State) (a0 : Array Value) (hw : HW a0 Z) (ws : List Jvm.Cond) (p1 : Int32) (p2 : Int32) (p3 : Int32) (p4 : Int32) (p5 : Int32) (wC : Int32) (w_S : Value) (w_EMPTY : Addr) (h0 : Heap) (n0 : Nat) {p : Program} {e : Env} {s : State} {m : MethodId} {below : List Frame} {meth : Method} {c : Code} {s₁ : State} (Bd : BodyLoose p l x (head1 (Cond.code x code maxLocals ret :: ws) room_1) code maxLocals ret e s m #[(.int p1), (.int p2), (.int p3), (.int p4), (.int p5)] below meth c s₁) (hml0 : c.maxLocals = maxLocals) {VM : Vm} {kS : Nat} (hZ : Z.Warmed39 (s.setVm VM).vm) (hown : (s.setVm VM).vm.findClass LW = some m.cls) (hh : s.heap = h0) {TJ : State} {locsJ : List Loc} {hJ : Heap} {b2 : Addr} {za16 : Addr} {za18 : Addr} {k2 : ClassId} {pt : Int32} {n : Int32} {c0 : Int32} {c1 : Int32} {c2 : Int32} {c3 : Int32} {bs : List Int32} {S0 : Int32} {kk0 : Int32} {kk1 : Int32} {kk2 : Int32} {kk3 : Int32} {dg : Int32} {dt : Int32} {ot : Int32} (XJ : Stand p l e room_1 (s.setVm VM) m #[(.int p1), (.int p2), (.int p3), (.int p4), (.int p5)] below meth c TJ locsJ 19 60) (eJ : TJ.heap = hJ) (NJ : Fr n0 locsJ) (K0 : Keep h0 hJ []) (Z0 : n0 ≤ hJ.size) (hS : s.Since VM kS) (hk : kS ≤ hJ.size) (hCr : CHr Z consts_1 s.vm h0 VM hJ) (SC : Sta Z hJ SN "COMPACT_STRINGS" "Z" (.int wC)) (SI : Sta Z hJ PC "SIOOBE_FORMATTER" BF w_S) (S_EMPTY : Sta Z hJ OP "EMPTY" "Ljava/util/Optional;" (.ref w_EMPTY)) (E_EMPTY : Exa Z hJ w_EMPTY OP) (F_w_EMPTY_v : Fld Z hJ w_EMPTY OP "value" "Ljava/lang/Object;" .null) (V_b2 : Arv Z hJ b2 k2 .char (4 : Int32) [(.int c0), (.int c1), (.int c2), (.int c3)] (.int (0 : Int32))) (E_z_6_l0_18 : Exa Z hJ za18 OP) (Sf_b2 : Safe Z consts_1 VM hJ b2) (hD : PR Z hJ bs n pt w_EMPTY za18) (hM : Mk bs n c0 c1 c2 c3) (hS0 : S0t n c0 S0) (hc0 : 0 ≤ c0.toInt ∧ c0.toInt ≤ 255) (hc1 : 0 ≤ c1.toInt ∧ c1.toInt ≤ 255) (hc2 : 0 ≤ c2.toInt ∧ c2.toInt ≤ 255) (hc3 : 0 ≤ c3.toInt ∧ c3.toInt ≤ 255) (hcs : ¬ wC = (0 : Int32)) (hrS : w_S.isRef = true) (hK : KK n S0 c0 c1 c2 c3 kk0 kk1 kk2 kk3) (hdg : dg = cn kk0 kk1 kk2 kk3 0) (hdt : dt = cn kk0 kk1 kk2 kk3 1) (hot : ot = cn kk0 kk1 kk2 kk3 2) :
  Go p.tables e below (TJ.setTop (mkF m 195 #[vi p1, vi p2, vi p3, vi p4, vi p5, vi n, vi pt, vr b2, vr za16, vr za18, vi S0, vi kk0, vi kk1, vi kk2, vi kk3, vi dg, vi dt, vi ot, us, us, us, us, us, us, us, us, us, us, us, us] [])) (fun o U' => ∃ v L, o = .returned v ∧ Q0 Z p1 p2 p3 p4 p5 wC w_S w_EMPTY h0 n0 v U'.heap L ∧ CHr Z consts_1 s.vm s.heap U'.vm U'.heap ∧ ReturnedEndW s o U' L 48 5312) := by
 have hx := Bd.exec
 have D := @hb _ _ Bd.bytes
 have hml : c.maxLocals = 30 := hml0
 have hnm := (name_of_methodNamed Bd.named Bd.method).1
 rcases hD with ⟨hr, st, pa, hst, hpa, hPE⟩ | ⟨xn, si, sf, bi, bf, ki, kf, st, pa, ie, fi, fa, la, F_r_v, E_xn, F_xn_neg, F_xn_int, F_xn_fra, E_si, F_si_v, F_si_c, V_bi, E_sf, F_sf_v, F_sf_c, V_bf, hPN⟩
 ·have hS1 := own_steq hM hst hS0
  have F_r_v : Fld Z hJ za18 OP "value" "Ljava/lang/Object;" .null := by rw [hr]; exact F_w_EMPTY_v
  have J29 : ∀ (TJ : State) (locsJ : List Loc), Stand p l e room_1 (s.setVm VM) m #[(.int p1), (.int p2), (.int p3), (.int p4), (.int p5)] below meth c TJ locsJ 19 60 → TJ.heap = hJ → Fr n0 locsJ → Go p.tables e below (TJ.setTop (mkF m 226 #[vi p1, vi p2, vi p3, vi p4, vi p5, vi n, vi pt, vr b2, vr za16, vr za18, vi S0, vi kk0, vi kk1, vi kk2, vi kk3, vi dg, vi dt, vi ot, us, us, us, us, us, us, us, us, us, us, us, us] [(.int 0)])) (fun o U' => ∃ v L, o = .returned v ∧ Q0 Z p1 p2 p3 p4 p5 wC w_S w_EMPTY h0 n0 v U'.heap L ∧ CHr Z consts_1 s.vm s.heap U'.vm U'.heap ∧ ReturnedEndW s o U' L 48 5312) := by
   intro TJ locsJ XJ eJ NJ
   refine G (fun t k => XS.istore XJ.here hx rfl (D at_226) rfl (l' := #[vi p1, vi p2, vi p3, vi p4, vi p5, vi n, vi pt, vr b2, vr za16, vr za18, vi S0, vi kk0, vi kk1, vi kk2, vi kk3, vi dg, vi dt, vi ot, vi 0, us, us, us, us, us, us, us, us, us, us, us]) rfl (XS.iload XJ.here hx rfl (D at_228) rfl (XS.ifNo XJ.here hx rfl (D at_230) rfl ((if0 _ _).trans (teq (by decide : (0 : Int32) = (0 : Int32))).2) (XS.aload XJ.here hx rfl (D at_233) rfl rfl k)))) ?_
   obtain ⟨_, T30, Lc30, X30, hQ30, st30⟩ := cV XJ hx hZ hown hml (wd68 hw) (wd69 hw) (wd71 hw) (wd70 hw) (wd72 hw) (wd59 hw) E_z_6_l0_18 eJ 0 [] (rmipN l Z a0 hw [] za18 hJ n0 Z0 F_r_v) pd7 (mkF m 235 #[vi p1, vi p2, vi p3, vi p4, vi p5, vi n, vi pt, vr b2, vr za16, vr za18, vi S0, vi kk0, vi kk1, vi kk2, vi kk3, vi dg, vi dt, vi ot, vi 0, us, us, us, us, us, us, us, us, us, us, us] [(.ref za18)]) (D at_235)
   refine Go.tr st30 ?_
   obtain ⟨rfl, N30q, e30⟩ := hQ30
   have N30 := Fr.app NJ N30q
   refine G (fun t k => XS.ifNo X30.here hx rfl (D at_238) rfl ((if0 _ _).trans (teq (by decide : (0 : Int32) = (0 : Int32))).2) (XS.iconst X30.here hx rfl (D at_241) k)) ?_
   refine sG T30 (mkF m 242 #[vi p1, vi p2, vi p3, vi p4, vi p5, vi n, vi pt, vr b2, vr za16, vr za18, vi S0, vi kk0, vi kk1, vi kk2, vi kk3, vi dg, vi dt, vi ot, vi 0, us, us, us, us, us, us, us, us, us, us, us] [(.int 1)]) ?_
   refine G (fun t k => XS.goto X30.here hx rfl (pc0 := 242) (pc' := 246) rfl (D at_242) (by decide) (by decide) k) ?_
   exact lwN (Q := Q0 Z p1 p2 p3 p4 p5 wC w_S w_EMPTY h0 n0) Bd X30 e30 hS hk hh hCr hZ (own_EL hw) (D at_246) (by simp) (w := (1 : Int32)) rfl ⟨rfl, N30⟩ (by decide) (by decide)
  refine G (fun t k => XS.iload XJ.here hx rfl (D at_195) rfl (XS.iconst XJ.here hx rfl (D at_197) k)) ?_
  by_cases hc31 : dg < (1 : Int32)
  ·refine G (fun t k => XS.icmpYes XJ.here hx rfl (pc0 := 198) (pc' := 225) rfl (D at_198) rfl (tlt hc31).1 (by decide) (by decide) (XS.iconst XJ.here hx rfl (D at_225) k)) ?_
   refine sG TJ (mkF m 226 #[vi p1, vi p2, vi p3, vi p4, vi p5, vi n, vi pt, vr b2, vr za16, vr za18, vi S0, vi kk0, vi kk1, vi kk2, vi kk3, vi dg, vi dt, vi ot, us, us, us, us, us, us, us, us, us, us, us, us] [(.int 0)]) ?_
   exact J29 _ _ XJ eJ NJ
  ·refine G (fun t k => XS.icmpNo XJ.here hx rfl (D at_198) rfl (flt hc31).1 (XS.iload XJ.here hx rfl (D at_201) rfl k)) ?_
   by_cases hc32 : ot = (0 : Int32)
   ·refine G (fun t k => XS.ifNo XJ.here hx rfl (D at_203) rfl ((if0 _ _).trans (teq hc32).2) (XS.iload XJ.here hx rfl (D at_206) rfl (XS.iload XJ.here hx rfl (D at_208) rfl k))) ?_
    refine sG TJ (mkF m 210 #[vi p1, vi p2, vi p3, vi p4, vi p5, vi n, vi pt, vr b2, vr za16, vr za18, vi S0, vi kk0, vi kk1, vi kk2, vi kk3, vi dg, vi dt, vi ot, us, us, us, us, us, us, us, us, us, us, us, us] [(.int pt), (.int dt)]) ?_
    by_cases hc33 : pt = (0 : Int32)
    ·refine G (fun t k => XS.ifYes XJ.here hx rfl (pc0 := 210) (pc' := 217) rfl (D at_210) rfl ((if0 _ _).trans (teq hc33).1) (by decide) (by decide) (XS.iconst XJ.here hx rfl (D at_217) k)) ?_
     have hf34 : (0 : Int32) < dt := (own_E0 hM hS1 hK hdg hdt hot hst hpa hPE hc31 hc32 hc33)
     refine G (fun t k => XS.icmpYes XJ.here hx rfl (pc0 := 218) (pc' := 225) rfl (D at_218) rfl (tlt hf34).2.2.1 (by decide) (by decide) (XS.iconst XJ.here hx rfl (D at_225) k)) ?_
     refine sG TJ (mkF m 226 #[vi p1, vi p2, vi p3, vi p4, vi p5, vi n, vi pt, vr b2, vr za16, vr za18, vi S0, vi kk0, vi kk1, vi kk2, vi kk3, vi dg, vi dt, vi ot, us, us, us, us, us, us, us, us, us, us, us, us] [(.int 0)]) ?_
     exact J29 _ _ XJ eJ NJ
    ·refine G (fun t k => XS.ifNo XJ.here hx rfl (D at_210) rfl ((if0 _ _).trans (feq hc33).1) (XS.iconst XJ.here hx rfl (D at_213) (XS.goto XJ.here hx rfl (pc0 := 214) (pc' := 218) rfl (D at_214) (by decide) (by decide) k))) ?_
     have hf35 : (1 : Int32) < dt := (own_E1 hM hS1 hK hdg hdt hot hst hpa hPE hc31 hc32 hc33)
     refine G (fun t k => XS.icmpYes XJ.here hx rfl (pc0 := 218) (pc' := 225) rfl (D at_218) rfl (tlt hf35).2.2.1 (by decide) (by decide) (XS.iconst XJ.here hx rfl (D at_225) k)) ?_
     refine sG TJ (mkF m 226 #[vi p1, vi p2, vi p3, vi p4, vi p5, vi n, vi pt, vr b2, vr za16, vr za18, vi S0, vi kk0, vi kk1, vi kk2, vi kk3, vi dg, vi dt, vi ot, us, us, us, us, us, us, us, us, us, us, us, us] [(.int 0)]) ?_
     exact J29 _ _ XJ eJ NJ
   ·refine G (fun t k => XS.ifYes XJ.here hx rfl (pc0 := 203) (pc' := 225) rfl (D at_203) rfl ((if0 _ _).trans (feq hc32).2) (by decide) (by decide) (XS.iconst XJ.here hx rfl (D at_225) k)) ?_
    refine sG TJ (mkF m 226 #[vi p1, vi p2, vi p3, vi p4, vi p5, vi n, vi pt, vr b2, vr za16, vr za18, vi S0, vi kk0, vi kk1, vi kk2, vi kk3, vi dg, vi dt, vi ot, us, us, us, us, us, us, us, us, us, us, us, us] [(.int 0)]) ?_
    exact J29 _ _ XJ eJ NJ
 ·have hS1 := own_steq hM hPN.1 hS0
  have J36 : ∀ (TJ : State) (locsJ : List Loc), Stand p l e room_1 (s.setVm VM) m #[(.int p1), (.int p2), (.int p3), (.int p4), (.int p5)] below meth c TJ locsJ 19 60 → TJ.heap = hJ → Fr n0 locsJ → Go p.tables e below (TJ.setTop (mkF m 226 #[vi p1, vi p2, vi p3, vi p4, vi p5, vi n, vi pt, vr b2, vr za16, vr za18, vi S0, vi kk0, vi kk1, vi kk2, vi kk3, vi dg, vi dt, vi ot, us, us, us, us, us, us, us, us, us, us, us, us] [(.int 1)])) (fun o U' => ∃ v L, o = .returned v ∧ Q0 Z p1 p2 p3 p4 p5 wC w_S w_EMPTY h0 n0 v U'.heap L ∧ CHr Z consts_1 s.vm s.heap U'.vm U'.heap ∧ ReturnedEndW s o U' L 48 5312) := by
   intro TJ locsJ XJ eJ NJ
   refine G (fun t k => XS.istore XJ.here hx rfl (D at_226) rfl (l' := #[vi p1, vi p2, vi p3, vi p4, vi p5, vi n, vi pt, vr b2, vr za16, vr za18, vi S0, vi kk0, vi kk1, vi kk2, vi kk3, vi dg, vi dt, vi ot, vi 1, us, us, us, us, us, us, us, us, us, us, us]) rfl (XS.iload XJ.here hx rfl (D at_228) rfl (XS.ifYes XJ.here hx rfl (pc0 := 230) (pc' := 247) rfl (D at_230) rfl ((if0 _ _).trans (feq (by decide : ¬ ((1 : Int32) = (0 : Int32)))).2) (by decide) (by decide) (XS.aload XJ.here hx rfl (D at_247) rfl rfl k)))) ?_
   obtain ⟨_, T37, Lc37, X37, hQ37, st37⟩ := cV XJ hx hZ hown hml (wd68 hw) (wd69 hw) (wd71 hw) (wd70 hw) (wd72 hw) (wd59 hw) E_z_6_l0_18 eJ 0 [] (rmipR l Z a0 hw [] za18 xn hJ n0 Z0 F_r_v) pd7 (mkF m 249 #[vi p1, vi p2, vi p3, vi p4, vi p5, vi n, vi pt, vr b2, vr za16, vr za18, vi S0, vi kk0, vi kk1, vi kk2, vi kk3, vi dg, vi dt, vi ot, vi 1, us, us, us, us, us, us, us, us, us, us, us] [(.ref za18)]) (D at_249)
   refine Go.tr st37 ?_
   obtain ⟨rfl, N37q, e37⟩ := hQ37
   have N37 := Fr.app NJ N37q
   refine G (fun t k => XS.ifYes X37.here hx rfl (pc0 := 252) (pc' := 257) rfl (D at_252) rfl ((if0 _ _).trans (feq (by decide : ¬ ((1 : Int32) = (0 : Int32)))).2) (by decide) (by decide) k) ?_
   refine sG T37 (mkF m 257 #[vi p1, vi p2, vi p3, vi p4, vi p5, vi n, vi pt, vr b2, vr za16, vr za18, vi S0, vi kk0, vi kk1, vi kk2, vi kk3, vi dg, vi dt, vi ot, vi 1, us, us, us, us, us, us, us, us, us, us, us] []) ?_
   refine G (fun t k => XS.iload X37.here hx rfl (D at_257) rfl (XS.iconst X37.here hx rfl (D at_259) k)) ?_
   by_cases hc144 : kk0 = (1 : Int32)
   ·refine G (fun t k => XS.icmpNo X37.here hx rfl (D at_260) rfl (teq hc144).2 (XS.iconst X37.here hx rfl (D at_263) (XS.goto X37.here hx rfl (pc0 := 264) (pc' := 298) rfl (D at_264) (by decide) (by decide) k))) ?_
    refine sG T37 (mkF m 298 #[vi p1, vi p2, vi p3, vi p4, vi p5, vi n, vi pt, vr b2, vr za16, vr za18, vi S0, vi kk0, vi kk1, vi kk2, vi kk3, vi dg, vi dt, vi ot, vi 1, us, us, us, us, us, us, us, us, us, us, us] [(.int 0)]) ?_
    exact TJ0_38 l Z a0 hw ws p1 p2 p3 p4 p5 wC w_S w_EMPTY h0 n0 Bd hml0 hZ hown hh X37 e37 N37 K0 Z0 hS hk hCr SC SI V_b2 E_z_6_l0_18 F_r_v E_xn F_xn_neg F_xn_int F_xn_fra E_si F_si_v F_si_c V_bi E_sf F_sf_v F_sf_c V_bf Sf_b2 hM hS1 hPN hc0 hc1 hc2 hc3 hcs hrS (own_P0 hM hS1 hK hPN hc144)
   ·refine G (fun t k => XS.icmpYes X37.here hx rfl (pc0 := 260) (pc' := 267) rfl (D at_260) rfl (feq hc144).2 (by decide) (by decide) (XS.iload X37.here hx rfl (D at_267) rfl (XS.iconst X37.here hx rfl (D at_269) k))) ?_
    by_cases hc145 : kk1 = (1 : Int32)
    ·refine G (fun t k => XS.icmpNo X37.here hx rfl (D at_270) rfl (teq hc145).2 (XS.iconst X37.here hx rfl (D at_273) k)) ?_
     refine sG T37 (mkF m 274 #[vi p1, vi p2, vi p3, vi p4, vi p5, vi n, vi pt, vr b2, vr za16, vr za18, vi S0, vi kk0, vi kk1, vi kk2, vi kk3, vi dg, vi dt, vi ot, vi 1, us, us, us, us, us, us, us, us, us, us, us] [(.int 1)]) ?_
     refine G (fun t k => XS.goto X37.here hx rfl (pc0 := 274) (pc' := 298) rfl (D at_274) (by decide) (by decide) k) ?_
     refine sG T37 (mkF m 298 #[vi p1, vi p2, vi p3, vi p4, vi p5, vi n, vi pt, vr b2, vr za16, vr za18, vi S0, vi kk0, vi kk1, vi kk2, vi kk3, vi dg, vi dt, vi ot, vi 1, us, us, us, us, us, us, us, us, us, us, us] [(.int 1)]) ?_
     exact TJ0_38 l Z a0 hw ws p1 p2 p3 p4 p5 wC w_S w_EMPTY h0 n0 Bd hml0 hZ hown hh X37 e37 N37 K0 Z0 hS hk hCr SC SI V_b2 E_z_6_l0_18 F_r_v E_xn F_xn_neg F_xn_int F_xn_fra E_si F_si_v F_si_c V_bi E_sf F_sf_v F_sf_c V_bf Sf_b2 hM hS1 hPN hc0 hc1 hc2 hc3 hcs hrS (own_P1 hM hS1 hK hPN hc145)
    ·refine G (fun t k => XS.icmpYes X37.here hx rfl (pc0 := 270) (pc' := 277) rfl (D at_270) rfl (feq hc145).2 (by decide) (by decide) (XS.iload X37.here hx rfl (D at_277) rfl k)) ?_
     refine sG T37 (mkF m 279 #[vi p1, vi p2, vi p3, vi p4, vi p5, vi n, vi pt, vr b2, vr za16, vr za18, vi S0, vi kk0, vi kk1, vi kk2, vi kk3, vi dg, vi dt, vi ot, vi 1, us, us, us, us, us, us, us, us, us, us, us] [(.int kk2)]) ?_
     refine G (fun t k => XS.iconst X37.here hx rfl (D at_279) k) ?_
     by_cases hc146 : kk2 = (1 : Int32)
     ·refine G (fun t k => XS.icmpNo X37.here hx rfl (D at_280) rfl (teq hc146).2 (XS.iconst X37.here hx rfl (D at_283) (XS.goto X37.here hx rfl (pc0 := 284) (pc' := 298) rfl (D at_284) (by decide) (by decide) k))) ?_
      refine sG T37 (mkF m 298 #[vi p1, vi p2, vi p3, vi p4, vi p5, vi n, vi pt, vr b2, vr za16, vr za18, vi S0, vi kk0, vi kk1, vi kk2, vi kk3, vi dg, vi dt, vi ot, vi 1, us, us, us, us, us, us, us, us, us, us, us] [(.int 2)]) ?_
      exact TJ0_38 l Z a0 hw ws p1 p2 p3 p4 p5 wC w_S w_EMPTY h0 n0 Bd hml0 hZ hown hh X37 e37 N37 K0 Z0 hS hk hCr SC SI V_b2 E_z_6_l0_18 F_r_v E_xn F_xn_neg F_xn_int F_xn_fra E_si F_si_v F_si_c V_bi E_sf F_sf_v F_sf_c V_bf Sf_b2 hM hS1 hPN hc0 hc1 hc2 hc3 hcs hrS (own_P2 hM hS1 hK hPN hc146)
     ·refine G (fun t k => XS.icmpYes X37.here hx rfl (pc0 := 280) (pc' := 287) rfl (D at_280) rfl (feq hc146).2 (by decide) (by decide) (XS.iload X37.here hx rfl (D at_287) rfl (XS.iconst X37.here hx rfl (D at_289) k))) ?_
      by_cases hc147 : kk3 = (1 : Int32)
      ·refine G (fun t k => XS.icmpNo X37.here hx rfl (D at_290) rfl (teq hc147).2 (XS.iconst X37.here hx rfl (D at_293) (XS.goto X37.here hx rfl (pc0 := 294) (pc' := 298) rfl (D at_294) (by decide) (by decide) k))) ?_
       refine sG T37 (mkF m 298 #[vi p1, vi p2, vi p3, vi p4, vi p5, vi n, vi pt, vr b2, vr za16, vr za18, vi S0, vi kk0, vi kk1, vi kk2, vi kk3, vi dg, vi dt, vi ot, vi 1, us, us, us, us, us, us, us, us, us, us, us] [(.int 3)]) ?_
       exact TJ0_38 l Z a0 hw ws p1 p2 p3 p4 p5 wC w_S w_EMPTY h0 n0 Bd hml0 hZ hown hh X37 e37 N37 K0 Z0 hS hk hCr SC SI V_b2 E_z_6_l0_18 F_r_v E_xn F_xn_neg F_xn_int F_xn_fra E_si F_si_v F_si_c V_bi E_sf F_sf_v F_sf_c V_bf Sf_b2 hM hS1 hPN hc0 hc1 hc2 hc3 hcs hrS (own_P3 hM hS1 hK hPN hc147)
      ·refine G (fun t k => XS.icmpYes X37.here hx rfl (pc0 := 290) (pc' := 297) rfl (D at_290) rfl (feq hc147).2 (by decide) (by decide) (XS.iconst X37.here hx rfl (D at_297) k)) ?_
       refine sG T37 (mkF m 298 #[vi p1, vi p2, vi p3, vi p4, vi p5, vi n, vi pt, vr b2, vr za16, vr za18, vi S0, vi kk0, vi kk1, vi kk2, vi kk3, vi dg, vi dt, vi ot, vi 1, us, us, us, us, us, us, us, us, us, us, us] [(.int (-1))]) ?_
       exact TJ0_38 l Z a0 hw ws p1 p2 p3 p4 p5 wC w_S w_EMPTY h0 n0 Bd hml0 hZ hown hh X37 e37 N37 K0 Z0 hS hk hCr SC SI V_b2 E_z_6_l0_18 F_r_v E_xn F_xn_neg F_xn_int F_xn_fra E_si F_si_v F_si_c V_bi E_sf F_sf_v F_sf_c V_bf Sf_b2 hM hS1 hPN hc0 hc1 hc2 hc3 hcs hrS (own_Pm hM hS1 hK hPN hc144 hc145 hc146 hc147)
  refine G (fun t k => XS.iload XJ.here hx rfl (D at_195) rfl (XS.iconst XJ.here hx rfl (D at_197) k)) ?_
  have hf148 : ¬ (dg < (1 : Int32)) := (own_N hM hS1 hK hdg hdt hot hPN).1
  refine G (fun t k => XS.icmpNo XJ.here hx rfl (D at_198) rfl (flt hf148).1 (XS.iload XJ.here hx rfl (D at_201) rfl k)) ?_
  have hf149 : ot = (0 : Int32) := (own_N hM hS1 hK hdg hdt hot hPN).2.1
  refine G (fun t k => XS.ifNo XJ.here hx rfl (D at_203) rfl ((if0 _ _).trans (teq hf149).2) (XS.iload XJ.here hx rfl (D at_206) rfl (XS.iload XJ.here hx rfl (D at_208) rfl k))) ?_
  refine sG TJ (mkF m 210 #[vi p1, vi p2, vi p3, vi p4, vi p5, vi n, vi pt, vr b2, vr za16, vr za18, vi S0, vi kk0, vi kk1, vi kk2, vi kk3, vi dg, vi dt, vi ot, us, us, us, us, us, us, us, us, us, us, us, us] [(.int pt), (.int dt)]) ?_
  by_cases hc150 : pt = (0 : Int32)
  ·refine G (fun t k => XS.ifYes XJ.here hx rfl (pc0 := 210) (pc' := 217) rfl (D at_210) rfl ((if0 _ _).trans (teq hc150).1) (by decide) (by decide) (XS.iconst XJ.here hx rfl (D at_217) k)) ?_
   have hf151 : ¬ ((0 : Int32) < dt) := ((own_N hM hS1 hK hdg hdt hot hPN).2.2.1 hc150)
   refine G (fun t k => XS.icmpNo XJ.here hx rfl (D at_218) rfl (flt hf151).2.2.1 (XS.iconst XJ.here hx rfl (D at_221) (XS.goto XJ.here hx rfl (pc0 := 222) (pc' := 226) rfl (D at_222) (by decide) (by decide) k))) ?_
   refine sG TJ (mkF m 226 #[vi p1, vi p2, vi p3, vi p4, vi p5, vi n, vi pt, vr b2, vr za16, vr za18, vi S0, vi kk0, vi kk1, vi kk2, vi kk3, vi dg, vi dt, vi ot, us, us, us, us, us, us, us, us, us, us, us, us] [(.int 1)]) ?_
   exact J36 _ _ XJ eJ NJ
  ·refine G (fun t k => XS.ifNo XJ.here hx rfl (D at_210) rfl ((if0 _ _).trans (feq hc150).1) (XS.iconst XJ.here hx rfl (D at_213) (XS.goto XJ.here hx rfl (pc0 := 214) (pc' := 218) rfl (D at_214) (by decide) (by decide) k))) ?_
   have hf152 : ¬ ((1 : Int32) < dt) := (own_N hM hS1 hK hdg hdt hot hPN).2.2.2
   refine G (fun t k => XS.icmpNo XJ.here hx rfl (D at_218) rfl (flt hf152).2.2.1 (XS.iconst XJ.here hx rfl (D at_221) (XS.goto XJ.here hx rfl (pc0 := 222) (pc' := 226) rfl (D at_222) (by decide) (by decide) k))) ?_
   refine sG TJ (mkF m 226 #[vi p1, vi p2, vi p3, vi p4, vi p5, vi n, vi pt, vr b2, vr za16, vr za18, vi S0, vi kk0, vi kk1, vi kk2, vi kk3, vi dg, vi dt, vi ot, us, us, us, us, us, us, us, us, us, us, us, us] [(.int 1)]) ?_
   exact J36 _ _ XJ eJ NJ
theorem TJ0_19 (l : Launch) (Z : State) (a0 : Array Value) (hw : HW a0 Z) (ws : List Jvm.Cond) (p1 : Int32) (p2 : Int32) (p3 : Int32) (p4 : Int32) (p5 : Int32) (wC : Int32) (w_S : Value) (w_EMPTY : Addr) (h0 : Heap) (n0 : Nat) {p : Program} {e : Env} {s : State} {m : MethodId} {below : List Frame} {meth : Method} {c : Code} {s₁ : State} (Bd : BodyLoose p l x (head1 (Cond.code x code maxLocals ret :: ws) room_1) code maxLocals ret e s m #[(.int p1), (.int p2), (.int p3), (.int p4), (.int p5)] below meth c s₁) (hml0 : c.maxLocals = maxLocals) {VM : Vm} {kS : Nat} (hZ : Z.Warmed39 (s.setVm VM).vm) (hown : (s.setVm VM).vm.findClass LW = some m.cls) (hh : s.heap = h0) {TJ : State} {locsJ : List Loc} {hJ : Heap} {b2 : Addr} {za16 : Addr} {za18 : Addr} {k2 : ClassId} {pt : Int32} {n : Int32} {c0 : Int32} {c1 : Int32} {c2 : Int32} {c3 : Int32} {bs : List Int32} (XJ : Stand p l e room_1 (s.setVm VM) m #[(.int p1), (.int p2), (.int p3), (.int p4), (.int p5)] below meth c TJ locsJ 19 60) (eJ : TJ.heap = hJ) (NJ : Fr n0 locsJ) (K0 : Keep h0 hJ []) (Z0 : n0 ≤ hJ.size) (hS : s.Since VM kS) (hk : kS ≤ hJ.size) (hCr : CHr Z consts_1 s.vm h0 VM hJ) (SC : Sta Z hJ SN "COMPACT_STRINGS" "Z" (.int wC)) (SI : Sta Z hJ PC "SIOOBE_FORMATTER" BF w_S) (S_EMPTY : Sta Z hJ OP "EMPTY" "Ljava/util/Optional;" (.ref w_EMPTY)) (E_EMPTY : Exa Z hJ w_EMPTY OP) (F_w_EMPTY_v : Fld Z hJ w_EMPTY OP "value" "Ljava/lang/Object;" .null) (V_b2 : Arv Z hJ b2 k2 .char (4 : Int32) [(.int c0), (.int c1), (.int c2), (.int c3)] (.int (0 : Int32))) (E_z_6_l0_18 : Exa Z hJ za18 OP) (Sf_b2 : Safe Z consts_1 VM hJ b2) (hM : Mk bs n c0 c1 c2 c3) (hc0 : 0 ≤ c0.toInt ∧ c0.toInt ≤ 255) (hc1 : 0 ≤ c1.toInt ∧ c1.toInt ≤ 255) (hc2 : 0 ≤ c2.toInt ∧ c2.toInt ≤ 255) (hc3 : 0 ≤ c3.toInt ∧ c3.toInt ≤ 255) (hcs : ¬ wC = (0 : Int32)) (hrS : w_S.isRef = true) (hD : PR Z hJ bs n pt w_EMPTY za18) :
  Go p.tables e below (TJ.setTop (mkF m 75 #[vi p1, vi p2, vi p3, vi p4, vi p5, vi n, vi pt, vr b2, vr za16, vr za18, us, us, us, us, us, us, us, us, us, us, us, us, us, us, us, us, us, us, us, us] [])) (fun o U' => ∃ v L, o = .returned v ∧ Q0 Z p1 p2 p3 p4 p5 wC w_S w_EMPTY h0 n0 v U'.heap L ∧ CHr Z consts_1 s.vm s.heap U'.vm U'.heap ∧ ReturnedEndW s o U' L 48 5312) := by
 have hx := Bd.exec
 have D := @hb _ _ Bd.bytes
 have hml : c.maxLocals = 30 := hml0
 have hnm := (name_of_methodNamed Bd.named Bd.method).1
 have J20 : ∀ (TJ : State) (locsJ : List Loc) (S0 : Int32), Stand p l e room_1 (s.setVm VM) m #[(.int p1), (.int p2), (.int p3), (.int p4), (.int p5)] below meth c TJ locsJ 19 60 → TJ.heap = hJ → Fr n0 locsJ → (S0t n c0 S0) → Go p.tables e below (TJ.setTop (mkF m 103 #[vi p1, vi p2, vi p3, vi p4, vi p5, vi n, vi pt, vr b2, vr za16, vr za18, us, us, us, us, us, us, us, us, us, us, us, us, us, us, us, us, us, us, us, us] [(.int S0)])) (fun o U' => ∃ v L, o = .returned v ∧ Q0 Z p1 p2 p3 p4 p5 wC w_S w_EMPTY h0 n0 v U'.heap L ∧ CHr Z consts_1 s.vm s.heap U'.vm U'.heap ∧ ReturnedEndW s o U' L 48 5312) := by
  intro TJ locsJ S0 XJ eJ NJ hS0
  refine G (fun t k => XS.istore XJ.here hx rfl (D at_103) rfl (l' := #[vi p1, vi p2, vi p3, vi p4, vi p5, vi n, vi pt, vr b2, vr za16, vr za18, vi S0, us, us, us, us, us, us, us, us, us, us, us, us, us, us, us, us, us, us, us]) rfl (XS.aload XJ.here hx rfl (D at_105) rfl rfl (XS.iload XJ.here hx rfl (D at_107) rfl (XS.iload XJ.here hx rfl (D at_109) rfl (XS.iconst XJ.here hx rfl (D at_111) k))))) ?_
  obtain ⟨_, T21, Lc21, X21, hQ21, st21⟩ := cS XJ hx hZ hown hml (wd62 hw) (wd63 hw) (wd3 hw) (wd64 hw) eJ 0 [] (rm12 l Z a0 hw [] b2 n S0 (0 : Int32) k2 [c0, c1, c2, c3] hJ n0 Z0 V_b2 ⟨by decide, by decide⟩) pd33 (mkF m 112 #[vi p1, vi p2, vi p3, vi p4, vi p5, vi n, vi pt, vr b2, vr za16, vr za18, vi S0, us, us, us, us, us, us, us, us, us, us, us, us, us, us, us, us, us, us, us] [(.int 0), (.int S0), (.int n), (.ref b2)]) (D at_112)
  refine G st21 ?_
  obtain ⟨rfl, N21q, e21⟩ := hQ21
  have N21 := Fr.app NJ N21q
  refine G (fun t k => XS.istore X21.here hx rfl (D at_115) rfl (l' := #[vi p1, vi p2, vi p3, vi p4, vi p5, vi n, vi pt, vr b2, vr za16, vr za18, vi S0, vi (f12 n S0 (0 : Int32) [c0, c1, c2, c3]), us, us, us, us, us, us, us, us, us, us, us, us, us, us, us, us, us, us]) rfl k) ?_
  refine sG T21 (mkF m 117 #[vi p1, vi p2, vi p3, vi p4, vi p5, vi n, vi pt, vr b2, vr za16, vr za18, vi S0, vi (f12 n S0 (0 : Int32) [c0, c1, c2, c3]), us, us, us, us, us, us, us, us, us, us, us, us, us, us, us, us, us, us] []) ?_
  refine G (fun t k => XS.aload X21.here hx rfl (D at_117) rfl rfl (XS.iload X21.here hx rfl (D at_119) rfl (XS.iload X21.here hx rfl (D at_121) rfl (XS.iconst X21.here hx rfl (D at_123) k)))) ?_
  obtain ⟨_, T22, Lc22, X22, hQ22, st22⟩ := cS X21 hx hZ hown hml (wd62 hw) (wd63 hw) (wd3 hw) (wd64 hw) e21 0 [] (rm12 l Z a0 hw [] b2 n S0 (1 : Int32) k2 [c0, c1, c2, c3] hJ n0 Z0 V_b2 ⟨by decide, by decide⟩) pd33 (mkF m 124 #[vi p1, vi p2, vi p3, vi p4, vi p5, vi n, vi pt, vr b2, vr za16, vr za18, vi S0, vi (f12 n S0 (0 : Int32) [c0, c1, c2, c3]), us, us, us, us, us, us, us, us, us, us, us, us, us, us, us, us, us, us] [(.int 1), (.int S0), (.int n), (.ref b2)]) (D at_124)
  refine G st22 ?_
  obtain ⟨rfl, N22q, e22⟩ := hQ22
  have N22 := Fr.app N21 N22q
  refine G (fun t k => XS.istore X22.here hx rfl (D at_127) rfl (l' := #[vi p1, vi p2, vi p3, vi p4, vi p5, vi n, vi pt, vr b2, vr za16, vr za18, vi S0, vi (f12 n S0 (0 : Int32) [c0, c1, c2, c3]), vi (f12 n S0 (1 : Int32) [c0, c1, c2, c3]), us, us, us, us, us, us, us, us, us, us, us, us, us, us, us, us, us]) rfl (XS.aload X22.here hx rfl (D at_129) rfl rfl k)) ?_
  refine sG T22 (mkF m 131 #[vi p1, vi p2, vi p3, vi p4, vi p5, vi n, vi pt, vr b2, vr za16, vr za18, vi S0, vi (f12 n S0 (0 : Int32) [c0, c1, c2, c3]), vi (f12 n S0 (1 : Int32) [c0, c1, c2, c3]), us, us, us, us, us, us, us, us, us, us, us, us, us, us, us, us, us] [(.ref b2)]) ?_
  refine G (fun t k => XS.iload X22.here hx rfl (D at_131) rfl (XS.iload X22.here hx rfl (D at_133) rfl (XS.iconst X22.here hx rfl (D at_135) k))) ?_
  obtain ⟨_, T23, Lc23, X23, hQ23, st23⟩ := cS X22 hx hZ hown hml (wd62 hw) (wd63 hw) (wd3 hw) (wd64 hw) e22 0 [] (rm12 l Z a0 hw [] b2 n S0 (2 : Int32) k2 [c0, c1, c2, c3] hJ n0 Z0 V_b2 ⟨by decide, by decide⟩) pd33 (mkF m 136 #[vi p1, vi p2, vi p3, vi p4, vi p5, vi n, vi pt, vr b2, vr za16, vr za18, vi S0, vi (f12 n S0 (0 : Int32) [c0, c1, c2, c3]), vi (f12 n S0 (1 : Int32) [c0, c1, c2, c3]), us, us, us, us, us, us, us, us, us, us, us, us, us, us, us, us, us] [(.int 2), (.int S0), (.int n), (.ref b2)]) (D at_136)
  refine G st23 ?_
  obtain ⟨rfl, N23q, e23⟩ := hQ23
  have N23 := Fr.app N22 N23q
  refine G (fun t k => XS.istore X23.here hx rfl (D at_139) rfl (l' := #[vi p1, vi p2, vi p3, vi p4, vi p5, vi n, vi pt, vr b2, vr za16, vr za18, vi S0, vi (f12 n S0 (0 : Int32) [c0, c1, c2, c3]), vi (f12 n S0 (1 : Int32) [c0, c1, c2, c3]), vi (f12 n S0 (2 : Int32) [c0, c1, c2, c3]), us, us, us, us, us, us, us, us, us, us, us, us, us, us, us, us]) rfl (XS.aload X23.here hx rfl (D at_141) rfl rfl (XS.iload X23.here hx rfl (D at_143) rfl k))) ?_
  refine sG T23 (mkF m 145 #[vi p1, vi p2, vi p3, vi p4, vi p5, vi n, vi pt, vr b2, vr za16, vr za18, vi S0, vi (f12 n S0 (0 : Int32) [c0, c1, c2, c3]), vi (f12 n S0 (1 : Int32) [c0, c1, c2, c3]), vi (f12 n S0 (2 : Int32) [c0, c1, c2, c3]), us, us, us, us, us, us, us, us, us, us, us, us, us, us, us, us] [(.int n), (.ref b2)]) ?_
  refine G (fun t k => XS.iload X23.here hx rfl (D at_145) rfl (XS.iconst X23.here hx rfl (D at_147) k)) ?_
  obtain ⟨_, T24, Lc24, X24, hQ24, st24⟩ := cS X23 hx hZ hown hml (wd62 hw) (wd63 hw) (wd3 hw) (wd64 hw) e23 0 [] (rm12 l Z a0 hw [] b2 n S0 (3 : Int32) k2 [c0, c1, c2, c3] hJ n0 Z0 V_b2 ⟨by decide, by decide⟩) pd33 (mkF m 148 #[vi p1, vi p2, vi p3, vi p4, vi p5, vi n, vi pt, vr b2, vr za16, vr za18, vi S0, vi (f12 n S0 (0 : Int32) [c0, c1, c2, c3]), vi (f12 n S0 (1 : Int32) [c0, c1, c2, c3]), vi (f12 n S0 (2 : Int32) [c0, c1, c2, c3]), us, us, us, us, us, us, us, us, us, us, us, us, us, us, us, us] [(.int 3), (.int S0), (.int n), (.ref b2)]) (D at_148)
  refine G st24 ?_
  obtain ⟨rfl, N24q, e24⟩ := hQ24
  have N24 := Fr.app N23 N24q
  obtain ⟨LL24, X24, N24⟩ : ∃ LL, Stand p l e room_1 (s.setVm VM) m #[(.int p1), (.int p2), (.int p3), (.int p4), (.int p5)] below meth c T24 LL 19 60 ∧ Fr n0 LL := ⟨_, X24, N24⟩
  refine G (fun t k => XS.istore X24.here hx rfl (D at_151) rfl (l' := #[vi p1, vi p2, vi p3, vi p4, vi p5, vi n, vi pt, vr b2, vr za16, vr za18, vi S0, vi (f12 n S0 (0 : Int32) [c0, c1, c2, c3]), vi (f12 n S0 (1 : Int32) [c0, c1, c2, c3]), vi (f12 n S0 (2 : Int32) [c0, c1, c2, c3]), vi (f12 n S0 (3 : Int32) [c0, c1, c2, c3]), us, us, us, us, us, us, us, us, us, us, us, us, us, us, us]) rfl (XS.iload X24.here hx rfl (D at_153) rfl (XS.iload X24.here hx rfl (D at_155) rfl (XS.iload X24.here hx rfl (D at_157) rfl k)))) ?_
  refine sG T24 (mkF m 159 #[vi p1, vi p2, vi p3, vi p4, vi p5, vi n, vi pt, vr b2, vr za16, vr za18, vi S0, vi (f12 n S0 (0 : Int32) [c0, c1, c2, c3]), vi (f12 n S0 (1 : Int32) [c0, c1, c2, c3]), vi (f12 n S0 (2 : Int32) [c0, c1, c2, c3]), vi (f12 n S0 (3 : Int32) [c0, c1, c2, c3]), us, us, us, us, us, us, us, us, us, us, us, us, us, us, us] [(.int (f12 n S0 (2 : Int32) [c0, c1, c2, c3])), (.int (f12 n S0 (1 : Int32) [c0, c1, c2, c3])), (.int (f12 n S0 (0 : Int32) [c0, c1, c2, c3]))]) ?_
  refine G (fun t k => XS.iload X24.here hx rfl (D at_159) rfl (XS.iconst X24.here hx rfl (D at_161) k)) ?_
  obtain ⟨_, T25, Lc25, X25, hQ25, st25⟩ := cS X24 hx hZ hown hml (wd65 hw) (wd66 hw) (wd3 hw) (wd67 hw) e24 0 [] (rm13 l Z a0 hw [] (f12 n S0 (0 : Int32) [c0, c1, c2, c3]) (f12 n S0 (1 : Int32) [c0, c1, c2, c3]) (f12 n S0 (2 : Int32) [c0, c1, c2, c3]) (f12 n S0 (3 : Int32) [c0, c1, c2, c3]) (0 : Int32) hJ n0 Z0) pd34 (mkF m 162 #[vi p1, vi p2, vi p3, vi p4, vi p5, vi n, vi pt, vr b2, vr za16, vr za18, vi S0, vi (f12 n S0 (0 : Int32) [c0, c1, c2, c3]), vi (f12 n S0 (1 : Int32) [c0, c1, c2, c3]), vi (f12 n S0 (2 : Int32) [c0, c1, c2, c3]), vi (f12 n S0 (3 : Int32) [c0, c1, c2, c3]), us, us, us, us, us, us, us, us, us, us, us, us, us, us, us] [(.int 0), (.int (f12 n S0 (3 : Int32) [c0, c1, c2, c3])), (.int (f12 n S0 (2 : Int32) [c0, c1, c2, c3])), (.int (f12 n S0 (1 : Int32) [c0, c1, c2, c3])), (.int (f12 n S0 (0 : Int32) [c0, c1, c2, c3]))]) (D at_162)
  obtain ⟨rr25, rfl, N25q, e25, raw25⟩ := hQ25
  refine G st25 ?_
  have N25 := Fr.app N24 N25q
  refine G (fun t k => XS.istore X25.here hx rfl (D at_165) rfl (l' := #[vi p1, vi p2, vi p3, vi p4, vi p5, vi n, vi pt, vr b2, vr za16, vr za18, vi S0, vi (f12 n S0 (0 : Int32) [c0, c1, c2, c3]), vi (f12 n S0 (1 : Int32) [c0, c1, c2, c3]), vi (f12 n S0 (2 : Int32) [c0, c1, c2, c3]), vi (f12 n S0 (3 : Int32) [c0, c1, c2, c3]), vi rr25, us, us, us, us, us, us, us, us, us, us, us, us, us, us]) rfl (XS.iload X25.here hx rfl (D at_167) rfl (XS.iload X25.here hx rfl (D at_169) rfl (XS.iload X25.here hx rfl (D at_171) rfl k)))) ?_
  refine sG T25 (mkF m 173 #[vi p1, vi p2, vi p3, vi p4, vi p5, vi n, vi pt, vr b2, vr za16, vr za18, vi S0, vi (f12 n S0 (0 : Int32) [c0, c1, c2, c3]), vi (f12 n S0 (1 : Int32) [c0, c1, c2, c3]), vi (f12 n S0 (2 : Int32) [c0, c1, c2, c3]), vi (f12 n S0 (3 : Int32) [c0, c1, c2, c3]), vi rr25, us, us, us, us, us, us, us, us, us, us, us, us, us, us] [(.int (f12 n S0 (2 : Int32) [c0, c1, c2, c3])), (.int (f12 n S0 (1 : Int32) [c0, c1, c2, c3])), (.int (f12 n S0 (0 : Int32) [c0, c1, c2, c3]))]) ?_
  refine G (fun t k => XS.iload X25.here hx rfl (D at_173) rfl (XS.iconst X25.here hx rfl (D at_175) k)) ?_
  obtain ⟨_, T26, Lc26, X26, hQ26, st26⟩ := cS X25 hx hZ hown hml (wd65 hw) (wd66 hw) (wd3 hw) (wd67 hw) e25 0 [] (rm13 l Z a0 hw [] (f12 n S0 (0 : Int32) [c0, c1, c2, c3]) (f12 n S0 (1 : Int32) [c0, c1, c2, c3]) (f12 n S0 (2 : Int32) [c0, c1, c2, c3]) (f12 n S0 (3 : Int32) [c0, c1, c2, c3]) (1 : Int32) hJ n0 Z0) pd34 (mkF m 176 #[vi p1, vi p2, vi p3, vi p4, vi p5, vi n, vi pt, vr b2, vr za16, vr za18, vi S0, vi (f12 n S0 (0 : Int32) [c0, c1, c2, c3]), vi (f12 n S0 (1 : Int32) [c0, c1, c2, c3]), vi (f12 n S0 (2 : Int32) [c0, c1, c2, c3]), vi (f12 n S0 (3 : Int32) [c0, c1, c2, c3]), vi rr25, us, us, us, us, us, us, us, us, us, us, us, us, us, us] [(.int 1), (.int (f12 n S0 (3 : Int32) [c0, c1, c2, c3])), (.int (f12 n S0 (2 : Int32) [c0, c1, c2, c3])), (.int (f12 n S0 (1 : Int32) [c0, c1, c2, c3])), (.int (f12 n S0 (0 : Int32) [c0, c1, c2, c3]))]) (D at_176)
  obtain ⟨rr26, rfl, N26q, e26, raw26⟩ := hQ26
  refine G st26 ?_
  have N26 := Fr.app N25 N26q
  refine G (fun t k => XS.istore X26.here hx rfl (D at_179) rfl (l' := #[vi p1, vi p2, vi p3, vi p4, vi p5, vi n, vi pt, vr b2, vr za16, vr za18, vi S0, vi (f12 n S0 (0 : Int32) [c0, c1, c2, c3]), vi (f12 n S0 (1 : Int32) [c0, c1, c2, c3]), vi (f12 n S0 (2 : Int32) [c0, c1, c2, c3]), vi (f12 n S0 (3 : Int32) [c0, c1, c2, c3]), vi rr25, vi rr26, us, us, us, us, us, us, us, us, us, us, us, us, us]) rfl (XS.iload X26.here hx rfl (D at_181) rfl (XS.iload X26.here hx rfl (D at_183) rfl (XS.iload X26.here hx rfl (D at_185) rfl k)))) ?_
  refine sG T26 (mkF m 187 #[vi p1, vi p2, vi p3, vi p4, vi p5, vi n, vi pt, vr b2, vr za16, vr za18, vi S0, vi (f12 n S0 (0 : Int32) [c0, c1, c2, c3]), vi (f12 n S0 (1 : Int32) [c0, c1, c2, c3]), vi (f12 n S0 (2 : Int32) [c0, c1, c2, c3]), vi (f12 n S0 (3 : Int32) [c0, c1, c2, c3]), vi rr25, vi rr26, us, us, us, us, us, us, us, us, us, us, us, us, us] [(.int (f12 n S0 (2 : Int32) [c0, c1, c2, c3])), (.int (f12 n S0 (1 : Int32) [c0, c1, c2, c3])), (.int (f12 n S0 (0 : Int32) [c0, c1, c2, c3]))]) ?_
  refine G (fun t k => XS.iload X26.here hx rfl (D at_187) rfl (XS.iconst X26.here hx rfl (D at_189) k)) ?_
  obtain ⟨_, T27, Lc27, X27, hQ27, st27⟩ := cS X26 hx hZ hown hml (wd65 hw) (wd66 hw) (wd3 hw) (wd67 hw) e26 0 [] (rm13 l Z a0 hw [] (f12 n S0 (0 : Int32) [c0, c1, c2, c3]) (f12 n S0 (1 : Int32) [c0, c1, c2, c3]) (f12 n S0 (2 : Int32) [c0, c1, c2, c3]) (f12 n S0 (3 : Int32) [c0, c1, c2, c3]) (2 : Int32) hJ n0 Z0) pd34 (mkF m 190 #[vi p1, vi p2, vi p3, vi p4, vi p5, vi n, vi pt, vr b2, vr za16, vr za18, vi S0, vi (f12 n S0 (0 : Int32) [c0, c1, c2, c3]), vi (f12 n S0 (1 : Int32) [c0, c1, c2, c3]), vi (f12 n S0 (2 : Int32) [c0, c1, c2, c3]), vi (f12 n S0 (3 : Int32) [c0, c1, c2, c3]), vi rr25, vi rr26, us, us, us, us, us, us, us, us, us, us, us, us, us] [(.int 2), (.int (f12 n S0 (3 : Int32) [c0, c1, c2, c3])), (.int (f12 n S0 (2 : Int32) [c0, c1, c2, c3])), (.int (f12 n S0 (1 : Int32) [c0, c1, c2, c3])), (.int (f12 n S0 (0 : Int32) [c0, c1, c2, c3]))]) (D at_190)
  obtain ⟨rr27, rfl, N27q, e27, raw27⟩ := hQ27
  refine G st27 ?_
  have N27 := Fr.app N26 N27q
  refine G (fun t k => XS.istore X27.here hx rfl (D at_193) rfl (l' := #[vi p1, vi p2, vi p3, vi p4, vi p5, vi n, vi pt, vr b2, vr za16, vr za18, vi S0, vi (f12 n S0 (0 : Int32) [c0, c1, c2, c3]), vi (f12 n S0 (1 : Int32) [c0, c1, c2, c3]), vi (f12 n S0 (2 : Int32) [c0, c1, c2, c3]), vi (f12 n S0 (3 : Int32) [c0, c1, c2, c3]), vi rr25, vi rr26, vi rr27, us, us, us, us, us, us, us, us, us, us, us, us]) rfl k) ?_
  refine sG T27 (mkF m 195 #[vi p1, vi p2, vi p3, vi p4, vi p5, vi n, vi pt, vr b2, vr za16, vr za18, vi S0, vi (f12 n S0 (0 : Int32) [c0, c1, c2, c3]), vi (f12 n S0 (1 : Int32) [c0, c1, c2, c3]), vi (f12 n S0 (2 : Int32) [c0, c1, c2, c3]), vi (f12 n S0 (3 : Int32) [c0, c1, c2, c3]), vi rr25, vi rr26, vi rr27, us, us, us, us, us, us, us, us, us, us, us, us] []) ?_
  exact TJ0_28 l Z a0 hw ws p1 p2 p3 p4 p5 wC w_S w_EMPTY h0 n0 Bd hml0 hZ hown hh X27 e27 N27 K0 Z0 hS hk hCr SC SI S_EMPTY E_EMPTY F_w_EMPTY_v V_b2 E_z_6_l0_18 Sf_b2 hD hM hS0 hc0 hc1 hc2 hc3 hcs hrS ⟨rfl, rfl, rfl, rfl⟩ raw25 raw26 raw27
 refine G (fun t k => XS.iload XJ.here hx rfl (D at_75) rfl k) ?_
 by_cases hc153 : (0 : Int32) < n
 ·refine G (fun t k => XS.ifNo XJ.here hx rfl (D at_77) rfl ((if0 _ _).trans (tlt hc153).2.2.2) (XS.aload XJ.here hx rfl (D at_80) rfl rfl (XS.iconst XJ.here hx rfl (D at_82) k))) ?_
  obtain ⟨cl154, Ar154, -, Sz154, Ng154, Hs154, -⟩ := id V_b2
  have hin154 := inb_of (j := (0 : Int32)) (c := cl154) Sz154 ⟨by decide, by decide⟩
  refine G (fun t k => XJ.caload hx (j := (0 : Int32)) (v := (.int c0)) (by rw [eJ]; exact Ar154.1) (State.isArrayOf_alike hZ.alike Ar154.2.1) Ar154.2.2 hin154 (Has.at Hs154 hin154 rfl) (g := (mkF m 83 #[vi p1, vi p2, vi p3, vi p4, vi p5, vi n, vi pt, vr b2, vr za16, vr za18, us, us, us, us, us, us, us, us, us, us, us, us, us, us, us, us, us, us, us, us] [(.int 0), (.ref b2)])) rfl rfl (D at_83) _ k) ?_
  clear hin154 Hs154 Ng154 Sz154 Ar154 cl154
  refine G (fun t k => XS.bipush XJ.here hx rfl (D at_84) k) ?_
  by_cases hc155 : c0 = (43 : Int32)
  ·refine G (fun t k => XS.icmpYes XJ.here hx rfl (pc0 := 86) (pc' := 98) rfl (D at_86) rfl (teq hc155).1 (by decide) (by decide) k) ?_
   refine sG TJ (mkF m 98 #[vi p1, vi p2, vi p3, vi p4, vi p5, vi n, vi pt, vr b2, vr za16, vr za18, us, us, us, us, us, us, us, us, us, us, us, us, us, us, us, us, us, us, us, us] []) ?_
   refine G (fun t k => XS.iconst XJ.here hx rfl (D at_98) (XS.goto XJ.here hx rfl (pc0 := 99) (pc' := 103) rfl (D at_99) (by decide) (by decide) k)) ?_
   refine sG TJ (mkF m 103 #[vi p1, vi p2, vi p3, vi p4, vi p5, vi n, vi pt, vr b2, vr za16, vr za18, us, us, us, us, us, us, us, us, us, us, us, us, us, us, us, us, us, us, us, us] [(.int 1)]) ?_
   exact J20 _ _ (1 : Int32) XJ eJ NJ (Or.inl ⟨rfl, Int32.lt_iff_toInt_lt.mp hc153, Or.inl hc155⟩)
  ·refine G (fun t k => XS.icmpNo XJ.here hx rfl (D at_86) rfl (feq hc155).1 k) ?_
   refine sG TJ (mkF m 89 #[vi p1, vi p2, vi p3, vi p4, vi p5, vi n, vi pt, vr b2, vr za16, vr za18, us, us, us, us, us, us, us, us, us, us, us, us, us, us, us, us, us, us, us, us] []) ?_
   refine G (fun t k => XS.aload XJ.here hx rfl (D at_89) rfl rfl (XS.iconst XJ.here hx rfl (D at_91) k)) ?_
   obtain ⟨cl156, Ar156, -, Sz156, Ng156, Hs156, -⟩ := id V_b2
   have hin156 := inb_of (j := (0 : Int32)) (c := cl156) Sz156 ⟨by decide, by decide⟩
   refine G (fun t k => XJ.caload hx (j := (0 : Int32)) (v := (.int c0)) (by rw [eJ]; exact Ar156.1) (State.isArrayOf_alike hZ.alike Ar156.2.1) Ar156.2.2 hin156 (Has.at Hs156 hin156 rfl) (g := (mkF m 92 #[vi p1, vi p2, vi p3, vi p4, vi p5, vi n, vi pt, vr b2, vr za16, vr za18, us, us, us, us, us, us, us, us, us, us, us, us, us, us, us, us, us, us, us, us] [(.int 0), (.ref b2)])) rfl rfl (D at_92) _ k) ?_
   clear hin156 Hs156 Ng156 Sz156 Ar156 cl156
   refine G (fun t k => XS.bipush XJ.here hx rfl (D at_93) k) ?_
   by_cases hc157 : c0 = (45 : Int32)
   ·refine G (fun t k => XS.icmpNo XJ.here hx rfl (D at_95) rfl (teq hc157).2 (XS.iconst XJ.here hx rfl (D at_98) (XS.goto XJ.here hx rfl (pc0 := 99) (pc' := 103) rfl (D at_99) (by decide) (by decide) k))) ?_
    refine sG TJ (mkF m 103 #[vi p1, vi p2, vi p3, vi p4, vi p5, vi n, vi pt, vr b2, vr za16, vr za18, us, us, us, us, us, us, us, us, us, us, us, us, us, us, us, us, us, us, us, us] [(.int 1)]) ?_
    exact J20 _ _ (1 : Int32) XJ eJ NJ (Or.inl ⟨rfl, Int32.lt_iff_toInt_lt.mp hc153, Or.inr hc157⟩)
   ·refine G (fun t k => XS.icmpYes XJ.here hx rfl (pc0 := 95) (pc' := 102) rfl (D at_95) rfl (feq hc157).2 (by decide) (by decide) (XS.iconst XJ.here hx rfl (D at_102) k)) ?_
    refine sG TJ (mkF m 103 #[vi p1, vi p2, vi p3, vi p4, vi p5, vi n, vi pt, vr b2, vr za16, vr za18, us, us, us, us, us, us, us, us, us, us, us, us, us, us, us, us, us, us, us, us] [(.int 0)]) ?_
    exact J20 _ _ (0 : Int32) XJ eJ NJ (Or.inr ⟨rfl, fun q => q.2.elim hc155 hc157⟩)
 ·refine G (fun t k => XS.ifYes XJ.here hx rfl (pc0 := 77) (pc' := 102) rfl (D at_77) rfl ((if0 _ _).trans (flt hc153).2.2.2) (by decide) (by decide) (XS.iconst XJ.here hx rfl (D at_102) k)) ?_
  refine sG TJ (mkF m 103 #[vi p1, vi p2, vi p3, vi p4, vi p5, vi n, vi pt, vr b2, vr za16, vr za18, us, us, us, us, us, us, us, us, us, us, us, us, us, us, us, us, us, us, us, us] [(.int 0)]) ?_
  exact J20 _ _ (0 : Int32) XJ eJ NJ (Or.inr ⟨rfl, fun q => hc153 (Int32.lt_iff_toInt_lt.mpr q.1)⟩)
theorem TJ0_17 (l : Launch) (Z : State) (a0 : Array Value) (hw : HW a0 Z) (ws : List Jvm.Cond) (p1 : Int32) (p2 : Int32) (p3 : Int32) (p4 : Int32) (p5 : Int32) (wC : Int32) (w_S : Value) (w_EMPTY : Addr) (h0 : Heap) (n0 : Nat) {p : Program} {e : Env} {s : State} {m : MethodId} {below : List Frame} {meth : Method} {c : Code} {s₁ : State} (Bd : BodyLoose p l x (head1 (Cond.code x code maxLocals ret :: ws) room_1) code maxLocals ret e s m #[(.int p1), (.int p2), (.int p3), (.int p4), (.int p5)] below meth c s₁) (hml0 : c.maxLocals = maxLocals) {VM : Vm} {kS : Nat} (hZ : Z.Warmed39 (s.setVm VM).vm) (hown : (s.setVm VM).vm.findClass LW = some m.cls) (hh : s.heap = h0) {TJ : State} {locsJ : List Loc} {hJ : Heap} {b2 : Addr} {za16 : Addr} {zb16 : Addr} {k2 : ClassId} {k_z_2_l1_16 : ClassId} {pt : Int32} {n : Int32} {c0 : Int32} {c1 : Int32} {c2 : Int32} {c3 : Int32} {bs : List Int32} (XJ : Stand p l e room_1 (s.setVm VM) m #[(.int p1), (.int p2), (.int p3), (.int p4), (.int p5)] below meth c TJ locsJ 7 16) (eJ : TJ.heap = hJ) (NJ : Fr n0 locsJ) (K0 : Keep h0 hJ []) (Z0 : n0 ≤ hJ.size) (hS : s.Since VM kS) (hk : kS ≤ hJ.size) (hCr : CHr Z consts_1 s.vm h0 VM hJ) (SC : Sta Z hJ SN "COMPACT_STRINGS" "Z" (.int wC)) (SI : Sta Z hJ PC "SIOOBE_FORMATTER" BF w_S) (S_EMPTY : Sta Z hJ OP "EMPTY" "Ljava/util/Optional;" (.ref w_EMPTY)) (E_EMPTY : Exa Z hJ w_EMPTY OP) (F_w_EMPTY_v : Fld Z hJ w_EMPTY OP "value" "Ljava/lang/Object;" .null) (V_b2 : Arv Z hJ b2 k2 .char (4 : Int32) [(.int c0), (.int c1), (.int c2), (.int c3)] (.int (0 : Int32))) (E_z_2_l0_16 : Exa Z hJ za16 SN) (F_z_2_l0_16_v : Fld Z hJ za16 SN "value" "[B" (.ref zb16)) (F_z_2_l0_16_c : Fld Z hJ za16 SN "coder" "B" (.int (0 : Int32))) (V_z_2_l1_16 : Arv Z hJ zb16 k_z_2_l1_16 .byte n (List.map Value.int bs) (.int (0 : Int32))) (Sf_b2 : Safe Z consts_1 VM hJ b2) (hc0 : 0 ≤ c0.toInt ∧ c0.toInt ≤ 255) (hc1 : 0 ≤ c1.toInt ∧ c1.toInt ≤ 255) (hc2 : 0 ≤ c2.toInt ∧ c2.toInt ≤ 255) (hc3 : 0 ≤ c3.toInt ∧ c3.toInt ≤ 255) (hcs : ¬ wC = (0 : Int32)) (hrS : w_S.isRef = true) (hM : Mk bs n c0 c1 c2 c3) :
  Go p.tables e below (TJ.setTop (mkF m 66 #[vi p1, vi p2, vi p3, vi p4, vi p5, vi n, vi pt, vr b2, vr za16, us, us, us, us, us, us, us, us, us, us, us, us, us, us, us, us, us, us, us, us, us] [])) (fun o U' => ∃ v L, o = .returned v ∧ Q0 Z p1 p2 p3 p4 p5 wC w_S w_EMPTY h0 n0 v U'.heap L ∧ CHr Z consts_1 s.vm s.heap U'.vm U'.heap ∧ ReturnedEndW s o U' L 48 5312) := by
 have hx := Bd.exec
 have D := @hb _ _ Bd.bytes
 have hml : c.maxLocals = 30 := hml0
 have hnm := (name_of_methodNamed Bd.named Bd.method).1
 refine G (fun t k => XS.aload XJ.here hx rfl (D at_66) rfl rfl (XS.iload XJ.here hx rfl (D at_68) rfl k)) ?_
 obtain ⟨_, _, ⟨T18, L18, k18, n18⟩, -, X18, hSi18, hgz18, ⟨Lc18, hQ18, l18, y18, z18, hC18⟩, st18⟩ := callSS XJ hx (y := y_47) hown (mvT hZ (wd29 hw)) (mvT hZ (wd30 hw)) (mvT hZ (wd31 hw)) (mvT hZ (wd32 hw)) (by decide) (backOfSH (W := 0) (rm6 l Z a0 hw [] za16 pt zb16 k_z_2_l1_16 bs n wC w_S w_EMPTY hJ n0 Z0 E_z_2_l0_16 F_z_2_l0_16_v F_z_2_l0_16_c V_z_2_l1_16 SC SI S_EMPTY E_EMPTY hcs hrS hM.2.1 hM.2.2.1 hM.1) hZ (wd32 hw) (wd31 hw) (by decide) (by decide) (own_EL hw) hCr.1) (g := (mkF m 70 #[vi p1, vi p2, vi p3, vi p4, vi p5, vi n, vi pt, vr b2, vr za16, us, us, us, us, us, us, us, us, us, us, us, us, us, us, us, us, us, us, us, us, us] [(.int pt), (.ref za16)])) rfl (by rw [hml]; rfl) (argsL := [(.ref za16), (.int pt)]) (rest := []) (lenOf pd32 rfl) rfl (by show 2 * 0 + _ ≤ _; exact Nat.le_of_eq rfl) (D at_70) (fun _ _ => ⟨rfl, eJ, (by decide : 7 + 12 ≤ room_1.cells), (by decide : 16 + 44 ≤ room_1.slots)⟩)
 dsimp only [Pt.U, Pt.locs, Pt.cells, Pt.slots] at X18 l18 y18 z18 st18 hQ18 hSi18 hgz18 hC18
 subst l18 y18 z18
 obtain ⟨X18, hS, hZ, hown⟩ := rebS hS (show _ ≤ TJ.heap.size by rw [eJ]; exact hk) X18 hSi18 hgz18 hZ hown
 obtain ⟨h18, e18⟩ : ∃ z, T18.heap = z := ⟨_, rfl⟩
 rw [e18] at hQ18
 obtain ⟨za18, rfl, N18q, K18, Q18_0, hD18⟩ := hQ18
 refine Go.tr st18 ?_
 have lt_b2 := V_b2.lt
 replace SC := sta_keep SC K18 all0
 replace SI := sta_keep SI K18 all0
 replace S_EMPTY := sta_keep S_EMPTY K18 all0
 replace E_EMPTY := E_EMPTY.keep K18
 replace F_w_EMPTY_v := F_w_EMPTY_v.keep K18 nin0
 replace V_b2 := V_b2.keep K18 nin0
 replace E_z_2_l0_16 := E_z_2_l0_16.keep K18
 replace F_z_2_l0_16_v := F_z_2_l0_16_v.keep K18 nin0
 replace F_z_2_l0_16_c := F_z_2_l0_16_c.keep K18 nin0
 replace V_z_2_l1_16 := V_z_2_l1_16.keep K18 nin0
 rw [e18] at hC18 hS
 have hk := Nat.le_refl h18.size
 replace Sf_b2 := CHr.safe hC18 lt_b2 Sf_b2
 replace hCr := hCr.trans hC18
 replace Z0 := Nat.le_trans Z0 K18.1
 replace K0 := K0.trans K18 all0
 have E_z_6_l0_18 := Q18_0
 have N18 := Fr.app NJ N18q
 refine G (fun t k => XS.astore X18.here hx rfl (D at_73) rfl rfl (l' := #[vi p1, vi p2, vi p3, vi p4, vi p5, vi n, vi pt, vr b2, vr za16, vr za18, us, us, us, us, us, us, us, us, us, us, us, us, us, us, us, us, us, us, us, us]) rfl k) ?_
 refine sG T18 (mkF m 75 #[vi p1, vi p2, vi p3, vi p4, vi p5, vi n, vi pt, vr b2, vr za16, vr za18, us, us, us, us, us, us, us, us, us, us, us, us, us, us, us, us, us, us, us, us] []) ?_
 exact TJ0_19 l Z a0 hw ws p1 p2 p3 p4 p5 wC w_S w_EMPTY h0 n0 Bd hml0 hZ hown hh X18 e18 N18 K0 Z0 hS hk hCr SC SI S_EMPTY E_EMPTY F_w_EMPTY_v V_b2 E_z_6_l0_18 Sf_b2 hM hc0 hc1 hc2 hc3 hcs hrS hD18
theorem TJ0_15 (l : Launch) (Z : State) (a0 : Array Value) (hw : HW a0 Z) (ws : List Jvm.Cond) (p1 : Int32) (p2 : Int32) (p3 : Int32) (p4 : Int32) (p5 : Int32) (wC : Int32) (w_S : Value) (w_EMPTY : Addr) (h0 : Heap) (n0 : Nat) {p : Program} {e : Env} {s : State} {m : MethodId} {below : List Frame} {meth : Method} {c : Code} {s₁ : State} (Bd : BodyLoose p l x (head1 (Cond.code x code maxLocals ret :: ws) room_1) code maxLocals ret e s m #[(.int p1), (.int p2), (.int p3), (.int p4), (.int p5)] below meth c s₁) (hml0 : c.maxLocals = maxLocals) {VM : Vm} {kS : Nat} (hZ : Z.Warmed39 (s.setVm VM).vm) (hown : (s.setVm VM).vm.findClass LW = some m.cls) (hh : s.heap = h0) {TJ : State} {locsJ : List Loc} {hJ : Heap} {b2 : Addr} {k2 : ClassId} {pt : Int32} {n : Int32} {c0 : Int32} {c1 : Int32} {c2 : Int32} {c3 : Int32} (XJ : Stand p l e room_1 (s.setVm VM) m #[(.int p1), (.int p2), (.int p3), (.int p4), (.int p5)] below meth c TJ locsJ 1 4) (eJ : TJ.heap = hJ) (NJ : Fr n0 locsJ) (K0 : Keep h0 hJ []) (Z0 : n0 ≤ hJ.size) (hS : s.Since VM kS) (hk : kS ≤ hJ.size) (hCr : CHr Z consts_1 s.vm h0 VM hJ) (SC : Sta Z hJ SN "COMPACT_STRINGS" "Z" (.int wC)) (SI : Sta Z hJ PC "SIOOBE_FORMATTER" BF w_S) (S_EMPTY : Sta Z hJ OP "EMPTY" "Ljava/util/Optional;" (.ref w_EMPTY)) (E_EMPTY : Exa Z hJ w_EMPTY OP) (F_w_EMPTY_v : Fld Z hJ w_EMPTY OP "value" "Ljava/lang/Object;" .null) (V_b2 : Arv Z hJ b2 k2 .char (4 : Int32) [(.int c0), (.int c1), (.int c2), (.int c3)] (.int (0 : Int32))) (Sf_b2 : Safe Z consts_1 VM hJ b2) (hcs : ¬ wC = (0 : Int32)) (hrS : w_S.isRef = true) (hn : 0 ≤ n.toInt ∧ n.toInt ≤ 4) (hc0 : 0 ≤ c0.toInt ∧ c0.toInt ≤ 255) (hc1 : 0 ≤ c1.toInt ∧ c1.toInt ≤ 255) (hc2 : 0 ≤ c2.toInt ∧ c2.toInt ≤ 255) (hc3 : 0 ≤ c3.toInt ∧ c3.toInt ≤ 255) :
  Go p.tables e below (TJ.setTop (mkF m 57 #[vi p1, vi p2, vi p3, vi p4, vi p5, vi n, vi pt, vr b2, us, us, us, us, us, us, us, us, us, us, us, us, us, us, us, us, us, us, us, us, us, us] [])) (fun o U' => ∃ v L, o = .returned v ∧ Q0 Z p1 p2 p3 p4 p5 wC w_S w_EMPTY h0 n0 v U'.heap L ∧ CHr Z consts_1 s.vm s.heap U'.vm U'.heap ∧ ReturnedEndW s o U' L 48 5312) := by
 have hx := Bd.exec
 have D := @hb _ _ Bd.bytes
 have hml : c.maxLocals = 30 := hml0
 have hnm := (name_of_methodNamed Bd.named Bd.method).1
 refine G (fun t k => XS.iload XJ.here hx rfl (D at_57) rfl (XS.aload XJ.here hx rfl (D at_59) rfl rfl k)) ?_
 obtain ⟨_, _, ⟨T16, L16, k16, n16⟩, -, X16, hSi16, hgz16, ⟨Lc16, hQ16, l16, y16, z16, hC16⟩, st16⟩ := callSS XJ hx (y := y_44) hown (mvT hZ (wd5 hw)) (mvT hZ (wd6 hw)) (mvT hZ (wd3 hw)) (mvT hZ (wd7 hw)) (by decide) (backOfSH (W := 0) (rm2 l Z a0 hw [] n b2 k2 c0 c1 c2 c3 wC hJ n0 Z0 V_b2 SC hcs hc0 hc1 hc2 hc3) hZ (wd7 hw) (wd3 hw) (by decide) (by decide) (own_EL hw) hCr.1) (g := (mkF m 61 #[vi p1, vi p2, vi p3, vi p4, vi p5, vi n, vi pt, vr b2, us, us, us, us, us, us, us, us, us, us, us, us, us, us, us, us, us, us, us, us, us, us] [(.ref b2), (.int n)])) rfl (by rw [hml]; rfl) (argsL := [(.int n), (.ref b2)]) (rest := []) (lenOf pd31 rfl) rfl (by show 2 * 0 + _ ≤ _; exact Nat.le_of_eq rfl) (D at_61) (fun _ _ => ⟨rfl, eJ, (by decide : 1 + 6 ≤ room_1.cells), (by decide : 4 + 12 ≤ room_1.slots)⟩)
 dsimp only [Pt.U, Pt.locs, Pt.cells, Pt.slots] at X16 l16 y16 z16 st16 hQ16 hSi16 hgz16 hC16
 subst l16 y16 z16
 obtain ⟨X16, hS, hZ, hown⟩ := rebS hS (show _ ≤ TJ.heap.size by rw [eJ]; exact hk) X16 hSi16 hgz16 hZ hown
 obtain ⟨h16, e16⟩ : ∃ z, T16.heap = z := ⟨_, rfl⟩
 rw [e16] at hQ16
 obtain ⟨za16, zb16, k_z_2_l1_16, rfl, N16q, K16, Q16_0, Q16_1, Q16_2, Q16_3⟩ := hQ16
 refine Go.tr st16 ?_
 have lt_b2 := V_b2.lt
 replace SC := sta_keep SC K16 all0
 replace SI := sta_keep SI K16 all0
 replace S_EMPTY := sta_keep S_EMPTY K16 all0
 replace E_EMPTY := E_EMPTY.keep K16
 replace F_w_EMPTY_v := F_w_EMPTY_v.keep K16 nin0
 replace V_b2 := V_b2.keep K16 nin0
 rw [e16] at hC16 hS
 have hk := Nat.le_refl h16.size
 replace Sf_b2 := CHr.safe hC16 lt_b2 Sf_b2
 replace hCr := hCr.trans hC16
 replace Z0 := Nat.le_trans Z0 K16.1
 replace K0 := K0.trans K16 all0
 have E_z_2_l0_16 := Q16_0
 have F_z_2_l0_16_v := Q16_1
 have F_z_2_l0_16_c := Q16_2
 have V_z_2_l1_16 := Q16_3
 have N16 := Fr.app NJ N16q
 refine G (fun t k => XS.astore X16.here hx rfl (D at_64) rfl rfl (l' := #[vi p1, vi p2, vi p3, vi p4, vi p5, vi n, vi pt, vr b2, vr za16, us, us, us, us, us, us, us, us, us, us, us, us, us, us, us, us, us, us, us, us, us]) rfl k) ?_
 refine sG T16 (mkF m 66 #[vi p1, vi p2, vi p3, vi p4, vi p5, vi n, vi pt, vr b2, vr za16, us, us, us, us, us, us, us, us, us, us, us, us, us, us, us, us, us, us, us, us, us] []) ?_
 rw [own_f2n hn] at V_z_2_l1_16
 exact TJ0_17 l Z a0 hw ws p1 p2 p3 p4 p5 wC w_S w_EMPTY h0 n0 Bd hml0 hZ hown hh X16 e16 N16 K0 Z0 hS hk hCr SC SI S_EMPTY E_EMPTY F_w_EMPTY_v V_b2 E_z_2_l0_16 F_z_2_l0_16_v F_z_2_l0_16_c V_z_2_l1_16 Sf_b2 hc0 hc1 hc2 hc3 hcs hrS (own_mk hn hc0 hc1 hc2 hc3)
theorem rm0 (l : Launch) (Z : State) (a0 : Array Value) (hw : HW a0 Z) (ws : List Jvm.Cond) (p1 : Int32) (p2 : Int32) (p3 : Int32) (p4 : Int32) (p5 : Int32) (wC : Int32) (w_S : Value) (w_EMPTY : Addr) (h0 : Heap) (n0 : Nat) (Z0 : n0 ≤ h0.size) (SC : Sta Z h0 SN "COMPACT_STRINGS" "Z" (.int wC)) (SI : Sta Z h0 PC "SIOOBE_FORMATTER" BF w_S) (S_EMPTY : Sta Z h0 OP "EMPTY" "Ljava/util/Optional;" (.ref w_EMPTY)) (E_EMPTY : Exa Z h0 w_EMPTY OP) (F_w_EMPTY_v : Fld Z h0 w_EMPTY OP "value" "Ljava/lang/Object;" .null) (hcs : ¬ wC = (0 : Int32)) (hrS : w_S.isRef = true) :
  MetFree l x (head1 (Cond.code x code maxLocals ret :: ws) room_1) (fun a U => a = #[(.int p1), (.int p2), (.int p3), (.int p4), (.int p5)] ∧ Z.Warmed39 U.vm ∧ U.heap = h0 ∧ CHv Z consts_1 U.vm h0) (fun _ _ _ _ _ => True) (fun _ U o U' => ∃ v L, o = .returned v ∧ Q0 Z p1 p2 p3 p4 p5 wC w_S w_EMPTY h0 n0 v U'.heap L ∧ CHr Z consts_1 U.vm U.heap U'.vm U'.heap ∧ ReturnedEndW U o U' L 48 5312) := by
 refine MetFree.of_bodySF (plainFor_of_name pn11) hisR ?_
 intro p e s m args below meth c s₁ Bd hml0 hP hK
 obtain ⟨rfl, hZ, hh, hC0⟩ := hP
 replace hZ : Z.Warmed39 (s.setVm s.vm).vm := hZ
 have hS : s.Since s.vm 0 := (State.WarmedH.refl s).since 0
 have hk : 0 ≤ h0.size := Nat.zero_le _
 have hCr : CHr Z consts_1 s.vm h0 s.vm h0 := CHr.refl hC0
 have hx := Bd.exec
 have D := @hb _ _ Bd.bytes
 have hml : c.maxLocals = 30 := hml0
 have hown : (s.setVm s.vm).vm.findClass LW = some m.cls := findClass_of_methodNamed Bd.named
 have hnm := (name_of_methodNamed Bd.named Bd.method).1
 have X0 : Stand p l e room_1 (s.setVm s.vm) m #[(.int p1), (.int p2), (.int p3), (.int p4), (.int p5)] below meth c s₁ [] 0 0 := Stand.of_body Bd
 have e0 : s₁.heap = h0 := by rw [← hh, Bd.state]; rfl
 have N0 := Fr.nil n0
 have K0 : Keep h0 h0 [] := Keep.refl h0 _
 refine G (P := fun o U' => ∃ v L, o = .returned v ∧ Q0 Z p1 p2 p3 p4 p5 wC w_S w_EMPTY h0 n0 v U'.heap L ∧ CHr Z consts_1 s.vm s.heap U'.vm U'.heap ∧ ReturnedEndW s o U' L 48 5312) (fun t k => castTop (ef0 m p1 p2 p3 p4 p5) k) ?_
 refine sG s₁ (mkF m 0 #[vi p1, vi p2, vi p3, vi p4, vi p5, us, us, us, us, us, us, us, us, us, us, us, us, us, us, us, us, us, us, us, us, us, us, us, us, us] []) ?_
 refine G (fun t k => XS.iload X0.here hx rfl (D at_0) rfl (XS.bipush X0.here hx rfl (D at_2) (XS.iand X0.here hx rfl (D at_4) rfl (XS.iconst X0.here hx rfl (D at_5) (iremM X0 hx rfl (D at_6) rfl (by decide) (XS.istore X0.here hx rfl (D at_7) rfl (l' := #[vi p1, vi p2, vi p3, vi p4, vi p5, vi ((p5 &&& (7 : Int32)) % (5 : Int32)), us, us, us, us, us, us, us, us, us, us, us, us, us, us, us, us, us, us, us, us, us, us, us, us]) rfl k)))))) ?_
 refine sG s₁ (mkF m 9 #[vi p1, vi p2, vi p3, vi p4, vi p5, vi ((p5 &&& (7 : Int32)) % (5 : Int32)), us, us, us, us, us, us, us, us, us, us, us, us, us, us, us, us, us, us, us, us, us, us, us, us] []) ?_
 have J1 : ∀ (TJ : State) (locsJ : List Loc) (pt : Int32), Stand p l e room_1 (s.setVm s.vm) m #[(.int p1), (.int p2), (.int p3), (.int p4), (.int p5)] below meth c TJ locsJ 0 0 → TJ.heap = h0 → Fr n0 locsJ → Go p.tables e below (TJ.setTop (mkF m 22 #[vi p1, vi p2, vi p3, vi p4, vi p5, vi ((p5 &&& (7 : Int32)) % (5 : Int32)), us, us, us, us, us, us, us, us, us, us, us, us, us, us, us, us, us, us, us, us, us, us, us, us] [(.int pt)])) (fun o U' => ∃ v L, o = .returned v ∧ Q0 Z p1 p2 p3 p4 p5 wC w_S w_EMPTY h0 n0 v U'.heap L ∧ CHr Z consts_1 s.vm s.heap U'.vm U'.heap ∧ ReturnedEndW s o U' L 48 5312) := by
  intro TJ locsJ pt XJ eJ NJ
  refine G (fun t k => XS.istore XJ.here hx rfl (D at_22) rfl (l' := #[vi p1, vi p2, vi p3, vi p4, vi p5, vi ((p5 &&& (7 : Int32)) % (5 : Int32)), vi pt, us, us, us, us, us, us, us, us, us, us, us, us, us, us, us, us, us, us, us, us, us, us, us]) rfl (XS.iconst XJ.here hx rfl (D at_24) k)) ?_
  obtain ⟨T2, h2, k2, X2, e2, E2, A2, st2⟩ := newP XJ hx hZ (aty := .char) (wd0 hw) eJ (g := (mkF m 25 #[vi p1, vi p2, vi p3, vi p4, vi p5, vi ((p5 &&& (7 : Int32)) % (5 : Int32)), vi pt, us, us, us, us, us, us, us, us, us, us, us, us, us, us, us, us, us, us, us, us, us, us, us] [(.int 4)])) rfl (D at_25) rfl (by decide) (cap := 4) (by decide) (by decide) (by decide) (by decide)
  obtain ⟨b2, g2⟩ : ∃ z, z = h0.size := ⟨_, rfl⟩
  rw [← g2] at A2 st2
  refine G st2 ?_
  have ne_w_EMPTY_b2 : w_EMPTY ≠ b2 := Nat.ne_of_lt (Nat.lt_of_lt_of_le E_EMPTY.lt (Nat.le_of_eq g2.symm))
  have g_b2 : n0 ≤ b2 := Nat.le_trans Z0 (Nat.le_of_eq g2.symm)
  have sz_b2 : h0.size ≤ b2 := Nat.le_trans K0.1 (Nat.le_of_eq g2.symm)
  have Sf_b2 : Safe Z consts_1 s.vm h0 b2 := Safe.new (Nat.le_of_eq g2.symm)
  replace SC := SC.ext E2
  replace SI := SI.ext E2
  replace S_EMPTY := S_EMPTY.ext E2
  replace E_EMPTY := E_EMPTY.ext E2
  replace F_w_EMPTY_v := F_w_EMPTY_v.ext E2
  replace K0 := K0.ext E2
  replace Z0 := Nat.le_trans Z0 E2.1
  replace Sf_b2 := Safe.ext E2 hCr.1 Sf_b2
  replace hk := Nat.le_trans hk E2.1
  replace hCr := hCr.trans (CHr.ext E2 hCr.1)
  have V_b2 : Arv Z h2 b2 k2 .char (4 : Int32) [(.int (0 : Int32)), (.int (0 : Int32)), (.int (0 : Int32)), (.int (0 : Int32))] (.int (0 : Int32)) := (Arv.new A2 (by decide)).pad (pad_rep [] (.int (0 : Int32)) 4)
  refine G (fun t k => XS.dup X2.here hx rfl (D at_27) rfl rfl (XS.iconst X2.here hx rfl (D at_28) (XS.iloadN X2.here hx rfl (D at_29) rfl k))) ?_
  obtain ⟨_, T3, Lc3, X3, hQ3, st3⟩ := cS X2 hx hZ hown hml (wd1 hw) (wd2 hw) (wd3 hw) (wd4 hw) e2 3 [(.int (0 : Int32)), (.ref b2), (.ref b2)] (rm1 l Z a0 hw [] p1 h2 n0 Z0) pd9 (mkF m 30 #[vi p1, vi p2, vi p3, vi p4, vi p5, vi ((p5 &&& (7 : Int32)) % (5 : Int32)), vi pt, us, us, us, us, us, us, us, us, us, us, us, us, us, us, us, us, us, us, us, us, us, us, us] [(.int p1), (.int 0), (.ref b2), (.ref b2)]) (D at_30)
  refine G st3 ?_
  obtain ⟨rfl, N3q, e3⟩ := hQ3
  have N3 := Fr.app NJ N3q
  refine sG T3 (mkF m 33 #[vi p1, vi p2, vi p3, vi p4, vi p5, vi ((p5 &&& (7 : Int32)) % (5 : Int32)), vi pt, us, us, us, us, us, us, us, us, us, us, us, us, us, us, us, us, us, us, us, us, us, us, us] [(.int (f1 p1)), (.int 0), (.ref b2), (.ref b2)]) ?_
  obtain ⟨cl4, Ar4, qq4, Sz4, Ng4, Hs4, Gs4⟩ := id V_b2
  have hin4 := inb_of (j := (0 : Int32)) (c := cl4) Sz4 ⟨by decide, by decide⟩
  obtain ⟨T5, h5, X5, e5, W5, st5⟩ := stC X3 hx hZ e3 Ar4 (j := (0 : Int32)) hin4 (g := (mkF m 33 #[vi p1, vi p2, vi p3, vi p4, vi p5, vi ((p5 &&& (7 : Int32)) % (5 : Int32)), vi pt, us, us, us, us, us, us, us, us, us, us, us, us, us, us, us, us, us, us, us, us, us, us, us] [(.int (f1 p1)), (.int 0), (.ref b2), (.ref b2)])) rfl rfl (D at_33)
  refine G st5 ?_
  have N5 := Fr.snoc X5 N3 g_b2
  have hCo := hCr.1
  have Sfo := Sf_b2
  replace Sf_b2 := Safe.wr W5 Sfo hCo Sf_b2
  replace hk := Nat.le_trans hk (Nat.le_of_eq W5.size.symm)
  replace hCr := hCr.trans (CHr.wr W5 Sfo hCo)
  clear hCo Sfo
  replace SC := SC.wr W5
  replace SI := SI.wr W5
  replace S_EMPTY := S_EMPTY.wr W5
  replace E_EMPTY := E_EMPTY.wr W5
  replace F_w_EMPTY_v := F_w_EMPTY_v.other W5 (Or.inl ne_w_EMPTY_b2)
  replace Z0 := Nat.le_trans Z0 (Nat.le_of_eq W5.size.symm)
  replace K0 := K0.wr W5 (Or.inr sz_b2)
  replace V_b2 : Arv Z h5 b2 k2 .char (4 : Int32) [(.int ((f1 p1).toUInt32.toUInt16.toUInt32.toInt32)), (.int (0 : Int32)), (.int (0 : Int32)), (.int (0 : Int32))] (.int (0 : Int32)) := Arv.set Ar4 qq4 Sz4 Ng4 Hs4 Gs4 (fits_nar_char _) W5 0 rfl (Nat.le_of_ble_eq_true rfl)
  clear hin4 Gs4 Hs4 Ng4 Sz4 qq4 Ar4 cl4
  refine G (fun t k => XS.dup X5.here hx rfl (D at_34) rfl rfl (XS.iconst X5.here hx rfl (D at_35) (XS.iloadN X5.here hx rfl (D at_36) rfl k))) ?_
  obtain ⟨_, T6, Lc6, X6, hQ6, st6⟩ := cS X5 hx hZ hown hml (wd1 hw) (wd2 hw) (wd3 hw) (wd4 hw) e5 3 [(.int (1 : Int32)), (.ref b2), (.ref b2)] (rm1 l Z a0 hw [] p2 h5 n0 Z0) pd9 (mkF m 37 #[vi p1, vi p2, vi p3, vi p4, vi p5, vi ((p5 &&& (7 : Int32)) % (5 : Int32)), vi pt, us, us, us, us, us, us, us, us, us, us, us, us, us, us, us, us, us, us, us, us, us, us, us] [(.int p2), (.int 1), (.ref b2), (.ref b2)]) (D at_37)
  refine G st6 ?_
  obtain ⟨rfl, N6q, e6⟩ := hQ6
  have N6 := Fr.app N5 N6q
  obtain ⟨cl7, Ar7, qq7, Sz7, Ng7, Hs7, Gs7⟩ := id V_b2
  have hin7 := inb_of (j := (1 : Int32)) (c := cl7) Sz7 ⟨by decide, by decide⟩
  obtain ⟨T8, h8, X8, e8, W8, st8⟩ := stC X6 hx hZ e6 Ar7 (j := (1 : Int32)) hin7 (g := (mkF m 40 #[vi p1, vi p2, vi p3, vi p4, vi p5, vi ((p5 &&& (7 : Int32)) % (5 : Int32)), vi pt, us, us, us, us, us, us, us, us, us, us, us, us, us, us, us, us, us, us, us, us, us, us, us] [(.int (f1 p2)), (.int 1), (.ref b2), (.ref b2)])) rfl rfl (D at_40)
  refine G st8 ?_
  have N8 := Fr.snoc X8 N6 g_b2
  obtain ⟨LL8, X8, N8⟩ : ∃ LL, Stand p l e room_1 (s.setVm s.vm) m #[(.int p1), (.int p2), (.int p3), (.int p4), (.int p5)] below meth c T8 LL 1 4 ∧ Fr n0 LL := ⟨_, X8, N8⟩
  have hCo := hCr.1
  have Sfo := Sf_b2
  replace Sf_b2 := Safe.wr W8 Sfo hCo Sf_b2
  replace hk := Nat.le_trans hk (Nat.le_of_eq W8.size.symm)
  replace hCr := hCr.trans (CHr.wr W8 Sfo hCo)
  clear hCo Sfo
  replace SC := SC.wr W8
  replace SI := SI.wr W8
  replace S_EMPTY := S_EMPTY.wr W8
  replace E_EMPTY := E_EMPTY.wr W8
  replace F_w_EMPTY_v := F_w_EMPTY_v.other W8 (Or.inl ne_w_EMPTY_b2)
  replace Z0 := Nat.le_trans Z0 (Nat.le_of_eq W8.size.symm)
  replace K0 := K0.wr W8 (Or.inr sz_b2)
  replace V_b2 : Arv Z h8 b2 k2 .char (4 : Int32) [(.int ((f1 p1).toUInt32.toUInt16.toUInt32.toInt32)), (.int ((f1 p2).toUInt32.toUInt16.toUInt32.toInt32)), (.int (0 : Int32)), (.int (0 : Int32))] (.int (0 : Int32)) := Arv.set Ar7 qq7 Sz7 Ng7 Hs7 Gs7 (fits_nar_char _) W8 1 rfl (Nat.le_of_ble_eq_true rfl)
  clear hin7 Gs7 Hs7 Ng7 Sz7 qq7 Ar7 cl7
  refine G (fun t k => XS.dup X8.here hx rfl (D at_41) rfl rfl k) ?_
  refine sG T8 (mkF m 42 #[vi p1, vi p2, vi p3, vi p4, vi p5, vi ((p5 &&& (7 : Int32)) % (5 : Int32)), vi pt, us, us, us, us, us, us, us, us, us, us, us, us, us, us, us, us, us, us, us, us, us, us, us] [(.ref b2), (.ref b2)]) ?_
  refine G (fun t k => XS.iconst X8.here hx rfl (D at_42) (XS.iloadN X8.here hx rfl (D at_43) rfl k)) ?_
  obtain ⟨_, T9, Lc9, X9, hQ9, st9⟩ := cS X8 hx hZ hown hml (wd1 hw) (wd2 hw) (wd3 hw) (wd4 hw) e8 3 [(.int (2 : Int32)), (.ref b2), (.ref b2)] (rm1 l Z a0 hw [] p3 h8 n0 Z0) pd9 (mkF m 44 #[vi p1, vi p2, vi p3, vi p4, vi p5, vi ((p5 &&& (7 : Int32)) % (5 : Int32)), vi pt, us, us, us, us, us, us, us, us, us, us, us, us, us, us, us, us, us, us, us, us, us, us, us] [(.int p3), (.int 2), (.ref b2), (.ref b2)]) (D at_44)
  refine G st9 ?_
  obtain ⟨rfl, N9q, e9⟩ := hQ9
  have N9 := Fr.app N8 N9q
  obtain ⟨cl10, Ar10, qq10, Sz10, Ng10, Hs10, Gs10⟩ := id V_b2
  have hin10 := inb_of (j := (2 : Int32)) (c := cl10) Sz10 ⟨by decide, by decide⟩
  obtain ⟨T11, h11, X11, e11, W11, st11⟩ := stC X9 hx hZ e9 Ar10 (j := (2 : Int32)) hin10 (g := (mkF m 47 #[vi p1, vi p2, vi p3, vi p4, vi p5, vi ((p5 &&& (7 : Int32)) % (5 : Int32)), vi pt, us, us, us, us, us, us, us, us, us, us, us, us, us, us, us, us, us, us, us, us, us, us, us] [(.int (f1 p3)), (.int 2), (.ref b2), (.ref b2)])) rfl rfl (D at_47)
  refine G st11 ?_
  have N11 := Fr.snoc X11 N9 g_b2
  have hCo := hCr.1
  have Sfo := Sf_b2
  replace Sf_b2 := Safe.wr W11 Sfo hCo Sf_b2
  replace hk := Nat.le_trans hk (Nat.le_of_eq W11.size.symm)
  replace hCr := hCr.trans (CHr.wr W11 Sfo hCo)
  clear hCo Sfo
  replace SC := SC.wr W11
  replace SI := SI.wr W11
  replace S_EMPTY := S_EMPTY.wr W11
  replace E_EMPTY := E_EMPTY.wr W11
  replace F_w_EMPTY_v := F_w_EMPTY_v.other W11 (Or.inl ne_w_EMPTY_b2)
  replace Z0 := Nat.le_trans Z0 (Nat.le_of_eq W11.size.symm)
  replace K0 := K0.wr W11 (Or.inr sz_b2)
  replace V_b2 : Arv Z h11 b2 k2 .char (4 : Int32) [(.int ((f1 p1).toUInt32.toUInt16.toUInt32.toInt32)), (.int ((f1 p2).toUInt32.toUInt16.toUInt32.toInt32)), (.int ((f1 p3).toUInt32.toUInt16.toUInt32.toInt32)), (.int (0 : Int32))] (.int (0 : Int32)) := Arv.set Ar10 qq10 Sz10 Ng10 Hs10 Gs10 (fits_nar_char _) W11 2 rfl (Nat.le_of_ble_eq_true rfl)
  clear hin10 Gs10 Hs10 Ng10 Sz10 qq10 Ar10 cl10
  refine G (fun t k => XS.dup X11.here hx rfl (D at_48) rfl rfl (XS.iconst X11.here hx rfl (D at_49) (XS.iloadN X11.here hx rfl (D at_50) rfl k))) ?_
  refine sG T11 (mkF m 51 #[vi p1, vi p2, vi p3, vi p4, vi p5, vi ((p5 &&& (7 : Int32)) % (5 : Int32)), vi pt, us, us, us, us, us, us, us, us, us, us, us, us, us, us, us, us, us, us, us, us, us, us, us] [(.int p4), (.int 3), (.ref b2), (.ref b2)]) ?_
  obtain ⟨_, T12, Lc12, X12, hQ12, st12⟩ := cS X11 hx hZ hown hml (wd1 hw) (wd2 hw) (wd3 hw) (wd4 hw) e11 3 [(.int (3 : Int32)), (.ref b2), (.ref b2)] (rm1 l Z a0 hw [] p4 h11 n0 Z0) pd9 (mkF m 51 #[vi p1, vi p2, vi p3, vi p4, vi p5, vi ((p5 &&& (7 : Int32)) % (5 : Int32)), vi pt, us, us, us, us, us, us, us, us, us, us, us, us, us, us, us, us, us, us, us, us, us, us, us] [(.int p4), (.int 3), (.ref b2), (.ref b2)]) (D at_51)
  refine G st12 ?_
  obtain ⟨rfl, N12q, e12⟩ := hQ12
  have N12 := Fr.app N11 N12q
  obtain ⟨cl13, Ar13, qq13, Sz13, Ng13, Hs13, Gs13⟩ := id V_b2
  have hin13 := inb_of (j := (3 : Int32)) (c := cl13) Sz13 ⟨by decide, by decide⟩
  obtain ⟨T14, h14, X14, e14, W14, st14⟩ := stC X12 hx hZ e12 Ar13 (j := (3 : Int32)) hin13 (g := (mkF m 54 #[vi p1, vi p2, vi p3, vi p4, vi p5, vi ((p5 &&& (7 : Int32)) % (5 : Int32)), vi pt, us, us, us, us, us, us, us, us, us, us, us, us, us, us, us, us, us, us, us, us, us, us, us] [(.int (f1 p4)), (.int 3), (.ref b2), (.ref b2)])) rfl rfl (D at_54)
  refine G st14 ?_
  have N14 := Fr.snoc X14 N12 g_b2
  obtain ⟨LL14, X14, N14⟩ : ∃ LL, Stand p l e room_1 (s.setVm s.vm) m #[(.int p1), (.int p2), (.int p3), (.int p4), (.int p5)] below meth c T14 LL 1 4 ∧ Fr n0 LL := ⟨_, X14, N14⟩
  have hCo := hCr.1
  have Sfo := Sf_b2
  replace Sf_b2 := Safe.wr W14 Sfo hCo Sf_b2
  replace hk := Nat.le_trans hk (Nat.le_of_eq W14.size.symm)
  replace hCr := hCr.trans (CHr.wr W14 Sfo hCo)
  clear hCo Sfo
  replace SC := SC.wr W14
  replace SI := SI.wr W14
  replace S_EMPTY := S_EMPTY.wr W14
  replace E_EMPTY := E_EMPTY.wr W14
  replace F_w_EMPTY_v := F_w_EMPTY_v.other W14 (Or.inl ne_w_EMPTY_b2)
  replace Z0 := Nat.le_trans Z0 (Nat.le_of_eq W14.size.symm)
  replace K0 := K0.wr W14 (Or.inr sz_b2)
  replace V_b2 : Arv Z h14 b2 k2 .char (4 : Int32) [(.int ((f1 p1).toUInt32.toUInt16.toUInt32.toInt32)), (.int ((f1 p2).toUInt32.toUInt16.toUInt32.toInt32)), (.int ((f1 p3).toUInt32.toUInt16.toUInt32.toInt32)), (.int ((f1 p4).toUInt32.toUInt16.toUInt32.toInt32))] (.int (0 : Int32)) := Arv.set Ar13 qq13 Sz13 Ng13 Hs13 Gs13 (fits_nar_char _) W14 3 rfl (Nat.le_of_ble_eq_true rfl)
  clear hin13 Gs13 Hs13 Ng13 Sz13 qq13 Ar13 cl13
  refine G (fun t k => XS.astore X14.here hx rfl (D at_55) rfl rfl (l' := #[vi p1, vi p2, vi p3, vi p4, vi p5, vi ((p5 &&& (7 : Int32)) % (5 : Int32)), vi pt, vr b2, us, us, us, us, us, us, us, us, us, us, us, us, us, us, us, us, us, us, us, us, us, us]) rfl k) ?_
  refine sG T14 (mkF m 57 #[vi p1, vi p2, vi p3, vi p4, vi p5, vi ((p5 &&& (7 : Int32)) % (5 : Int32)), vi pt, vr b2, us, us, us, us, us, us, us, us, us, us, us, us, us, us, us, us, us, us, us, us, us, us] []) ?_
  exact TJ0_15 l Z a0 hw ws p1 p2 p3 p4 p5 wC w_S w_EMPTY h0 n0 Bd hml0 hZ hown hh X14 e14 N14 K0 Z0 hS hk hCr SC SI S_EMPTY E_EMPTY F_w_EMPTY_v V_b2 Sf_b2 hcs hrS (own_n5 p5) (own_pick p1) (own_pick p2) (own_pick p3) (own_pick p4)
 refine G (fun t k => XS.iload X0.here hx rfl (D at_9) rfl (XS.bipush X0.here hx rfl (D at_11) (XS.iand X0.here hx rfl (D at_13) rfl k))) ?_
 by_cases hc158 : (p5 &&& (8 : Int32)) = (0 : Int32)
 ·refine G (fun t k => XS.ifYes X0.here hx rfl (pc0 := 14) (pc' := 21) rfl (D at_14) rfl ((if0 _ _).trans (teq hc158).1) (by decide) (by decide) (XS.iconst X0.here hx rfl (D at_21) k)) ?_
  refine sG s₁ (mkF m 22 #[vi p1, vi p2, vi p3, vi p4, vi p5, vi ((p5 &&& (7 : Int32)) % (5 : Int32)), us, us, us, us, us, us, us, us, us, us, us, us, us, us, us, us, us, us, us, us, us, us, us, us] [(.int 0)]) ?_
  exact J1 _ _ (0 : Int32) X0 e0 N0
 ·refine G (fun t k => XS.ifNo X0.here hx rfl (D at_14) rfl ((if0 _ _).trans (feq hc158).1) (XS.iconst X0.here hx rfl (D at_17) (XS.goto X0.here hx rfl (pc0 := 18) (pc' := 22) rfl (D at_18) (by decide) (by decide) k))) ?_
  refine sG s₁ (mkF m 22 #[vi p1, vi p2, vi p3, vi p4, vi p5, vi ((p5 &&& (7 : Int32)) % (5 : Int32)), us, us, us, us, us, us, us, us, us, us, us, us, us, us, us, us, us, us, us, us, us, us, us, us] [(.int 1)]) ?_
  exact J1 _ _ (1 : Int32) X0 e0 N0
theorem own_eqn {args : Array Value} {s : State} {t : Term} (h : (Cond.eq t .null).value args s none s [] = some true) : t.eval args s none [] s = some .null := by
 simp only [Cond.value, Term.eval] at h
 cases ht : t.eval args s none [] s with
 | none => simp [ht] at h
 | some x => cases x <;> simp_all
theorem own_notv {args : Array Value} {s : State} {d : Jvm.Cond} (h : (Cond.not d).value args s none s [] = some true) (q : d.value args s none s [] = some true) : False := by
 simp only [Cond.value, q] at h
 cases h
theorem comes_1 {Post : Tables → Env → Array Value → State → Outcome → State → Prop} (hpost : ∀ tb e args s v u, (limb_1_1.after args s (.returned v) u = true ∧ limb_1_2.after args s (.returned v) u = true ∧ True) → FramedW s (.returned v) u (Jvm.fieldLocs frame_1_writes args s ++ Jvm.arrayLocs frame_1_arrays args s ++ Jvm.staticLocs frame_1_statics s) 48 5312 → Post tb e args s (.returned v) u) :
  ArmFor flags0 classFile x code maxLocals ret World_1 tables_1 room_1 Calls_1 rest_1 Pre_1 Post := by
 intro l hfl _ _ p e ha hc hk s m args below hf hA hF happ hP
 obtain ⟨hcalls, hrest, hpre⟩ := hP
 obtain ⟨-, -, -, hnamed, -, -, -, hat⟩ := (Spec.applies_iff hf).mp happ
 obtain ⟨hg, hn⟩ := and_e (Cond.before_iff.mp (show (Cond.and given_1 narrow_1).before args s = true from hpre))
 obtain ⟨g1, g2⟩ := and_e hg
 obtain ⟨k0, g3⟩ := and_e g2
 obtain ⟨k1, g4⟩ := and_e g3
 obtain ⟨k2, g5⟩ := and_e g4
 obtain ⟨k3, g6⟩ := and_e g5
 obtain ⟨w0, w1, w2, w3, w4, rfl⟩ : ∃ w0 w1 w2 w3 w4 : Value, args = #[w0, w1, w2, w3, w4] := by
  have hs : args.size = 5 := by simpa [Cond.value, given_1] using g1
  obtain ⟨L⟩ := args
  match L, hs with
  | [w0, w1, w2, w3, w4], _ => exact ⟨w0, w1, w2, w3, w4, rfl⟩
 have hw := fun d (hd : d ∈ tables_1) => atoms_spec (ws := Cond.code x code maxLocals ret :: tables_1) hat d (List.mem_cons_of_mem _ hd)
 obtain ⟨hsets, -⟩ := atoms_of _ (rest_1_c_eq ▸ (show rest_1_c.before _ s = true from hrest))
 obtain ⟨i0, ei0⟩ := is_v k0
 obtain rfl : w0 = (.int i0) := Option.some.inj ei0
 obtain ⟨i1, ei1⟩ := is_v k1
 obtain rfl : w1 = (.int i1) := Option.some.inj ei1
 obtain ⟨i2, ei2⟩ := is_v k2
 obtain rfl : w2 = (.int i2) := Option.some.inj ei2
 obtain ⟨i3, ei3⟩ := is_v k3
 obtain rfl : w3 = (.int i3) := Option.some.inj ei3
 obtain ⟨i4, ei4⟩ := is_v g6
 obtain rfl : w4 = (.int i4) := Option.some.inj ei4
 obtain ⟨zC, eC⟩ := is_v (Cond.before_iff.mp (hsets _ (List.mem_of_getElem? (i := 1) rfl)))
 have S1 := Sta.start eC (Or.inl (hsets _ (List.mem_of_getElem? (i := 0) rfl)))
 have hcs : ¬ zC = (0 : Int32) := fun z => own_notv (Cond.before_iff.mp (hsets _ (List.mem_of_getElem? (i := 2) rfl))) (eq_i eC (Term.int_eval (0)) (by rw [z]))
 obtain ⟨zS, eS, hrS⟩ := isR_v (Cond.before_iff.mp (hsets _ (List.mem_of_getElem? (i := 8) rfl)))
 have S2 := Sta.start eS (Or.inl (hsets _ (List.mem_of_getElem? (i := 7) rfl)))
 obtain ⟨zE, eE⟩ := exa_v (Cond.before_iff.mp (hsets _ (List.mem_of_getElem? (i := 11) rfl)))
 have E1 := Exa.start eE (Cond.before_iff.mp (hsets _ (List.mem_of_getElem? (i := 11) rfl)))
 have S3 := Sta.start eE (Or.inl (hsets _ (List.mem_of_getElem? (i := 10) rfl)))
 have F1 := Fld.start ((fld_at eE).symm.trans (own_eqn (Cond.before_iff.mp (hsets _ (List.mem_of_getElem? (i := 12) rfl)))))
 have hC := CHv.start (own_EL hw) (fun q hq => hcalls.1 q hq) (hsets _ (List.mem_of_getElem? (i := 2) rfl)) (wd22 hw) (wd9 hw)
 obtain ⟨n, o, h1, h2, h3, _, L, rfl, ⟨rfl, N⟩, hCr, hq⟩ := rm0 l s _ hw tables_1 i0 i1 i2 i3 i4 zC zS zE s.heap s.heap.size (Nat.le_refl _) S1 S2 S3 E1 F1 hcs hrS p e ha hc hk s m _ below hf ((Spec.applies_iff_loose hf).mp happ).1 ⟨rfl, State.Warmed39.refl s, rfl, hC⟩ trivial
 refine ⟨n, _, h1, h2, h3, hpost _ _ _ _ _ _ ⟨Cond.after_iff.mpr rfl, Cond.after_iff.mpr (eq_i res_at (Term.int_eval (1)) rfl), trivial⟩ ⟨hq.1, hq.2.1, hq.2.2.1, (hq.2.2.2.sift fun y hy => Or.inr (N y hy)).mono (by decide) (by decide)⟩⟩
theorem main_1_1 : Claimed_1_1 := comes_1 fun _ _ _ _ _ _ h hF => ⟨h.1, hF⟩
theorem main_1_2 : Claimed_1_2 := comes_1 fun _ _ _ _ _ _ h hF => ⟨h.2.1, hF⟩
end Jvm.Pilot.@@N@@
namespace Jvm.Pilot.@@N@@
set_option maxRecDepth 65536
open Jvm Jvm.ClassFile Sem Op Lib Jvm.Free Jvm.Stand Jvm.Pilot.@@N@@.Jvm.D
/-! MADE BY PROGRAM (witnessworld.py) out of the Statement's table words and the real class files: 28 classes; the members and pool entries that the words name. The judged class is class 1, her method 7. -/
namespace start1
open Jvm.ClassFile
def u (s : String) : CpInfo := .utf8 (stringToUtf16 s)
/-- a pool by its gaps: so many unusable entries, then the entry; so many at the end -/
def gap : Nat → List CpInfo → List CpInfo
  | 0, r => r
  | n + 1, r => .unusable :: gap n r
def poolList (es : List (Nat × CpInfo)) (last : Nat) : List CpInfo := es.foldr (fun e r => gap e.1 (e.2 :: r)) (gap last [])
def pool (es : List (Nat × CpInfo)) (last : Nat) : Array CpInfo := ⟨poolList es last⟩
def fileOf (pool : Array CpInfo) (this : Nat) (attrs : Array Attribute := #[]) (ms : Array MethodInfo := #[]) (fl : Nat := 33) (sup : Nat := 0) (ifs : Array Nat := #[]) (fds : Array FieldInfo := #[]) : ClassFile where
  minorVersion := 0
  majorVersion := 65
  constantPool := pool
  accessFlags := fl
  thisClass := this
  superClass := sup
  interfaces := ifs
  fields := fds
  methods := ms
  attributes := attrs
def plain (name : String) (sup : Option ClassId) : Class where
  name := name
  kind := .ordinary
  loader := none
  accessFlags := 33
  super := sup
  interfaces := #[]
  cf := none
  fields := #[]
  methods := #[]
  instanceTypes := #[]
  staticTypes := #[]
  resolved := #[]
  callSites := []
  init := .initialized
  statics := none
  mirror := none
def pool0 : Array CpInfo := pool [(5, u "<init>"), (0, u "()V"), (1, .class_ 10), (1, u "java/lang/Object")] 113
def k0c0 : Code := ⟨0, 1, object_method_1_code, #[], #[]⟩
def k0m0 : Method := ⟨"<init>", "()V", ⟨[], none⟩, 1, some k0c0⟩
def k0 : Class := { plain "java/lang/Object" none with
  accessFlags := 33
  interfaces := #[]
  cf := some (fileOf pool0 8 #[] #[⟨1, 5, 6, #[]⟩] 33 0 #[] #[])
  fields := #[]
  methods := #[k0m0]
  instanceTypes := #[]
  staticTypes := #[]
  resolved := Array.replicate 124 none
  statics := none }
def pool1 : Array CpInfo := pool [(2, .class_ 4), (1, u "java/lang/Object"), (0, u "<init>"), (0, u "()V"), (0, .class_ 8), (0, u "java/lang/String"), (0, .methodref 7 10), (0, .nameAndType 5 11), (0, u "([C)V"), (0, .methodref 7 13), (0, .nameAndType 14 15), (0, u "length"), (0, u "()I"), (0, .methodref 7 17), (0, .nameAndType 18 19), (0, u "charAt"), (0, u "(I)C"), (0, .methodref 21 22), (0, .class_ 23), (0, .nameAndType 24 19), (0, u "com/example/tripletype/tripletype/NumeralParsePinLaw"), (0, u "pick"), (0, .methodref 21 26), (0, .nameAndType 27 28), (0, u "make"), (0, u "(I[C)Ljava/lang/String;"), (0, .methodref 30 31), (0, .class_ 32), (0, .nameAndType 33 34), (0, u "com/example/tripletype/tripletype/Numeral"), (0, u "parse"), (0, u "(Ljava/lang/String;Z)Ljava/util/Optional;"), (0, .methodref 21 36), (0, .nameAndType 37 38), (0, u "kind"), (0, u "([CIII)I"), (0, .methodref 21 40), (0, .nameAndType 41 42), (0, u "count"), (0, u "(IIIII)I"), (0, .methodref 44 45), (0, .class_ 46), (0, .nameAndType 47 48), (0, u "java/util/Optional"), (0, u "isPresent"), (0, u "()Z"), (0, .methodref 21 50), (0, .nameAndType 51 52), (0, u "collect"), (0, u "([C[Z[C)I"), (0, .methodref 44 54), (0, .nameAndType 55 56), (0, u "get"), (0, u "()Ljava/lang/Object;"), (0, .methodref 30 58), (0, .nameAndType 59 48), (0, u "negative"), (0, .methodref 30 61), (0, .nameAndType 62 63), (0, u "integer"), (0, u "()Ljava/lang/String;"), (0, .methodref 21 65), (0, .nameAndType 66 67), (0, u "same"), (0, u "(Ljava/lang/String;[CI)Z"), (0, .methodref 30 69), (0, .nameAndType 70 63), (0, u "fraction"), (3, u "law"), (0, u "(IIIII)Z")] 6
def k1m0 : Method := ⟨"<init>", "()V", ⟨[], none⟩, 1, none⟩
def k1c1 : Code := ⟨2, 2, method_2_code, #[], #[]⟩
def k1m1 : Method := ⟨"pick", "(I)C", ⟨[.int], some .char⟩, 10, some k1c1⟩
def k1c2 : Code := ⟨7, 2, method_3_code, #[], #[]⟩
def k1m2 : Method := ⟨"make", "(I[C)Ljava/lang/String;", ⟨[.int, (.array .char)], some (.object "java/lang/String")⟩, 10, some k1c2⟩
def k1c3 : Code := ⟨2, 5, method_4_code, #[], #[]⟩
def k1m3 : Method := ⟨"kind", "([CIII)I", ⟨[(.array .char), .int, .int, .int], some .int⟩, 10, some k1c3⟩
def k1c4 : Code := ⟨3, 5, method_5_code, #[], #[]⟩
def k1m4 : Method := ⟨"count", "(IIIII)I", ⟨[.int, .int, .int, .int, .int], some .int⟩, 10, some k1c4⟩
def k1c5 : Code := ⟨4, 4, method_6_code, #[], #[]⟩
def k1m5 : Method := ⟨"collect", "([C[Z[C)I", ⟨[(.array .char), (.array .boolean), (.array .char)], some .int⟩, 10, some k1c5⟩
def k1c6 : Code := ⟨3, 3, method_7_code, #[], #[]⟩
def k1m6 : Method := ⟨"same", "(Ljava/lang/String;[CI)Z", ⟨[(.object "java/lang/String"), (.array .char), .int], some .boolean⟩, 10, some k1c6⟩
def k1c7 : Code := ⟨5, 30, code, #[], #[]⟩
def k1m7 : Method := ⟨"law", "(IIIII)Z", ⟨[.int, .int, .int, .int, .int], some .boolean⟩, 9, some k1c7⟩
def k1 : Class := { plain "com/example/tripletype/tripletype/NumeralParsePinLaw" (some 0) with
  accessFlags := 49
  interfaces := #[]
  cf := some (fileOf pool1 21 #[] #[⟨1, 5, 6, #[]⟩, ⟨10, 24, 19, #[]⟩, ⟨10, 27, 28, #[]⟩, ⟨10, 37, 38, #[]⟩, ⟨10, 41, 42, #[]⟩, ⟨10, 51, 52, #[]⟩, ⟨10, 66, 67, #[]⟩, ⟨9, 74, 75, #[]⟩] 49 2 #[] #[])
  fields := #[]
  methods := #[k1m0, k1m1, k1m2, k1m3, k1m4, k1m5, k1m6, k1m7]
  instanceTypes := #[]
  staticTypes := #[]
  resolved := Array.replicate 82 none
  statics := none }
def pool2 : Array CpInfo := pool [(1, .class_ 2), (0, u "java/io/Serializable"), (0, .class_ 4), (0, u "java/lang/Object")] 2
def k2 : Class := { plain "java/io/Serializable" (some 0) with
  accessFlags := 1537
  interfaces := #[]
  cf := some (fileOf pool2 1 #[] #[] 1537 3 #[] #[])
  fields := #[]
  methods := #[]
  instanceTypes := #[]
  staticTypes := #[]
  resolved := Array.replicate 7 none
  statics := none }
def pool3 : Array CpInfo := pool [(1, .class_ 2), (0, u "java/lang/Comparable"), (0, .class_ 4), (0, u "java/lang/Object")] 7
def k3 : Class := { plain "java/lang/Comparable" (some 0) with
  accessFlags := 1537
  interfaces := #[]
  cf := some (fileOf pool3 1 #[] #[] 1537 3 #[] #[])
  fields := #[]
  methods := #[]
  instanceTypes := #[]
  staticTypes := #[]
  resolved := Array.replicate 12 none
  statics := none }
def pool4 : Array CpInfo := pool [(2, .class_ 4), (1, u "java/lang/CharSequence"), (42, .class_ 48), (0, u "java/lang/CharSequence$1CodePointIterator"), (10, .class_ 60), (0, u "java/lang/CharSequence$1CharIterator"), (5, .class_ 67), (0, u "java/lang/Object")] 63
def k4 : Class := { plain "java/lang/CharSequence" (some 0) with
  accessFlags := 1537
  interfaces := #[]
  cf := some (fileOf pool4 2 #[.nestMembers #[47, 59]] #[] 1537 66 #[] #[])
  fields := #[]
  methods := #[]
  instanceTypes := #[]
  staticTypes := #[]
  resolved := Array.replicate 131 none
  statics := none }
def pool5 : Array CpInfo := pool [(1, .class_ 2), (0, u "java/lang/constant/Constable"), (0, .class_ 4), (0, u "java/lang/Object")] 6
def k5 : Class := { plain "java/lang/constant/Constable" (some 0) with
  accessFlags := 1537
  interfaces := #[]
  cf := some (fileOf pool5 1 #[] #[] 1537 3 #[] #[])
  fields := #[]
  methods := #[]
  instanceTypes := #[]
  staticTypes := #[]
  resolved := Array.replicate 11 none
  statics := none }
def pool6 : Array CpInfo := pool [(1, .class_ 2), (0, u "java/lang/constant/ConstantDesc"), (0, .class_ 4), (0, u "java/lang/Object")] 32
def k6 : Class := { plain "java/lang/constant/ConstantDesc" (some 0) with
  accessFlags := 1537
  interfaces := #[]
  cf := some (fileOf pool6 1 #[] #[] 1537 3 #[] #[])
  fields := #[]
  methods := #[]
  instanceTypes := #[]
  staticTypes := #[]
  resolved := Array.replicate 37 none
  statics := none }
def pool7 : Array CpInfo := pool [(1, .methodref 2 3), (0, .class_ 4), (0, .nameAndType 5 6), (0, u "java/lang/Object"), (0, u "<init>"), (0, u "()V"), (0, .string 8), (0, u ""), (0, .fieldref 10 11), (0, .class_ 12), (0, .nameAndType 13 14), (0, u "java/lang/String"), (0, u "value"), (0, u "[B"), (0, .fieldref 10 16), (0, .nameAndType 17 18), (0, u "coder"), (0, u "B"), (2, u "hash"), (0, u "I"), (2, u "hashIsZero"), (0, u "Z"), (0, .methodref 10 28), (0, .nameAndType 5 29), (0, u "([CIILjava/lang/Void;)V"), (8, .fieldref 10 39), (0, .nameAndType 40 26), (0, u "COMPACT_STRINGS"), (1, .class_ 44), (1, u "java/lang/StringUTF16"), (0, u "compress"), (1, .methodref 42 48), (0, .nameAndType 49 50), (0, u "coderFromArrayLen"), (0, u "([BI)B"), (56, .class_ 109), (1, u "java/lang/StringLatin1"), (32, u "()Z"), (34, .methodref 42 178), (0, .nameAndType 45 179), (0, u "([CII)[B"), (31, u "([BB)V"), (122, u "()I"), (0, .methodref 10 336), (0, .nameAndType 17 337), (0, u "()B"), (25, u "([BI)C"), (12, u "([BI[BII)I"), (14, u "(II)V"), (35, u "(I)C"), (64, .methodref 10 493), (0, .nameAndType 494 142), (0, u "isLatin1"), (0, .methodref 107 496), (0, .nameAndType 497 363), (0, u "charAt"), (3, u "checkIndex"), (3, .methodref 10 506), (0, .nameAndType 507 334), (0, u "length"), (5, u "checkFromToIndex"), (7, .methodref 10 522), (0, .nameAndType 523 524), (0, u "checkBoundsBeginEnd"), (0, u "(III)V"), (34, .class_ 561), (1, u "jdk/internal/util/ArraysSupport"), (0, u "mismatch"), (12, .class_ 576), (0, u "java/lang/CharSequence"), (22, u "CASE_INSENSITIVE_ORDER"), (0, u "Ljava/util/Comparator;"), (6, .methodref 559 608), (0, .nameAndType 562 376), (15, .methodref 10 625), (0, .nameAndType 626 627), (0, u "startsWith"), (0, u "(Ljava/lang/String;I)Z"), (7, u "indexOf"), (0, u "(II)I"), (0, .methodref 107 638), (0, .nameAndType 635 639), (0, u "([BIII)I"), (43, u "substring"), (0, u "(II)Ljava/lang/String;"), (0, .methodref 107 686), (0, .nameAndType 687 688), (0, u "newString"), (0, u "([BII)Ljava/lang/String;"), (321, u "([C)V"), (42, .fieldref 1054 1055), (0, .class_ 1056), (0, .nameAndType 1057 1058), (0, u "jdk/internal/util/Preconditions"), (0, u "SIOOBE_FORMATTER"), (0, u "Ljava/util/function/BiFunction;"), (0, .methodref 1054 1060), (0, .nameAndType 501 1061), (0, u "(IILjava/util/function/BiFunction;)I"), (0, .methodref 1054 1063), (0, .nameAndType 513 1064), (0, u "(IIILjava/util/function/BiFunction;)I"), (36, u "serialPersistentFields"), (0, u "[Ljava/io/ObjectStreamField;"), (0, .class_ 1104), (0, u "java/lang/String$CaseInsensitiveComparator"), (1, .class_ 1107), (0, u "java/io/Serializable"), (0, .class_ 1109), (0, u "java/lang/Comparable"), (0, .class_ 1111), (0, u "java/lang/constant/Constable"), (0, .class_ 1113), (0, u "java/lang/constant/ConstantDesc"), (2, u "serialVersionUID"), (0, u "J"), (3, u "REPL"), (0, u "C"), (2, u "LATIN1"), (1, u "UTF16"), (129, u "(Ljava/lang/String;)Z")] 193
def k7m0 : Method := ⟨"<init>", "()V", ⟨[], none⟩, 1, none⟩
def k7c1 : Code := ⟨5, 2, jdk_42_method_3_code, #[], #[]⟩
def k7m1 : Method := ⟨"<init>", "([C)V", ⟨[(.array .char)], none⟩, 1, some k7c1⟩
def k7c2 : Code := ⟨2, 1, jdk_42_method_54_code, #[], #[]⟩
def k7m2 : Method := ⟨"length", "()I", ⟨[], some .int⟩, 1, some k7c2⟩
def k7c3 : Code := ⟨2, 2, jdk_42_method_56_code, #[], #[]⟩
def k7m3 : Method := ⟨"charAt", "(I)C", ⟨[.int], some .char⟩, 1, some k7c3⟩
def k7c4 : Code := ⟨5, 8, jdk_42_method_75_code, #[], #[]⟩
def k7m4 : Method := ⟨"startsWith", "(Ljava/lang/String;I)Z", ⟨[(.object "java/lang/String"), .int], some .boolean⟩, 1, some k7c4⟩
def k7c5 : Code := ⟨3, 2, jdk_42_method_76_code, #[], #[]⟩
def k7m5 : Method := ⟨"startsWith", "(Ljava/lang/String;)Z", ⟨[(.object "java/lang/String")], some .boolean⟩, 1, some k7c5⟩
def k7c6 : Code := ⟨4, 3, jdk_42_method_80_code, #[], #[]⟩
def k7m6 : Method := ⟨"indexOf", "(II)I", ⟨[.int, .int], some .int⟩, 1, some k7c6⟩
def k7c7 : Code := ⟨3, 5, jdk_42_method_92_code, #[], #[]⟩
def k7m7 : Method := ⟨"substring", "(II)Ljava/lang/String;", ⟨[.int, .int], some (.object "java/lang/String")⟩, 1, some k7c7⟩
def k7c8 : Code := ⟨4, 6, jdk_42_method_149_code, #[], #[]⟩
def k7m8 : Method := ⟨"<init>", "([CIILjava/lang/Void;)V", ⟨[(.array .char), .int, .int, (.object "java/lang/Void")], none⟩, 2, some k7c8⟩
def k7c9 : Code := ⟨2, 3, jdk_42_method_151_code, #[], #[]⟩
def k7m9 : Method := ⟨"<init>", "([BB)V", ⟨[(.array .byte), .byte], none⟩, 0, some k7c9⟩
def k7c10 : Code := ⟨1, 1, jdk_42_method_152_code, #[], #[]⟩
def k7m10 : Method := ⟨"coder", "()B", ⟨[], some .byte⟩, 0, some k7c10⟩
def k7c11 : Code := ⟨1, 1, jdk_42_method_154_code, #[], #[]⟩
def k7m11 : Method := ⟨"isLatin1", "()Z", ⟨[], some .boolean⟩, 0, some k7c11⟩
def k7c12 : Code := ⟨3, 2, jdk_42_method_155_code, #[], #[]⟩
def k7m12 : Method := ⟨"checkIndex", "(II)V", ⟨[.int, .int], none⟩, 8, some k7c12⟩
def k7c13 : Code := ⟨4, 3, jdk_42_method_158_code, #[], #[]⟩
def k7m13 : Method := ⟨"checkBoundsBeginEnd", "(III)V", ⟨[.int, .int, .int], none⟩, 8, some k7c13⟩
def k7 : Class := { plain "java/lang/String" (some 0) with
  accessFlags := 49
  interfaces := #[2, 3, 4, 5, 6]
  cf := some (fileOf pool7 10 #[.nestMembers #[1103]] #[⟨1, 5, 6, #[]⟩, ⟨1, 5, 1010, #[]⟩, ⟨1, 507, 334, #[]⟩, ⟨1, 497, 427, #[]⟩, ⟨1, 626, 627, #[]⟩, ⟨1, 626, 1257, #[]⟩, ⟨1, 635, 636, #[]⟩, ⟨1, 683, 684, #[]⟩, ⟨2, 5, 29, #[]⟩, ⟨0, 5, 211, #[]⟩, ⟨0, 17, 337, #[]⟩, ⟨0, 494, 142, #[]⟩, ⟨8, 501, 391, #[]⟩, ⟨8, 523, 524, #[]⟩] 49 2 #[1106, 1108, 575, 1110, 1112] #[⟨18, 13, 14, #[]⟩, ⟨18, 17, 18, #[]⟩, ⟨2, 21, 22, #[]⟩, ⟨2, 25, 26, #[]⟩, ⟨26, 1116, 1117, #[]⟩, ⟨24, 40, 26, #[]⟩, ⟨26, 1101, 1102, #[]⟩, ⟨26, 1121, 1122, #[]⟩, ⟨25, 599, 600, #[]⟩, ⟨24, 1125, 18, #[]⟩, ⟨24, 1127, 18, #[]⟩])
  fields := #[⟨"value", (.array .byte), 18, 0, 0⟩, ⟨"coder", .byte, 18, 1, 0⟩, ⟨"hash", .int, 2, 2, 0⟩, ⟨"hashIsZero", .boolean, 2, 3, 0⟩, ⟨"serialVersionUID", .long, 26, 0, 0⟩, ⟨"COMPACT_STRINGS", .boolean, 24, 1, 0⟩, ⟨"serialPersistentFields", (.array (.object "java/io/ObjectStreamField")), 26, 2, 0⟩, ⟨"REPL", .char, 26, 3, 0⟩, ⟨"CASE_INSENSITIVE_ORDER", (.object "java/util/Comparator"), 25, 4, 0⟩, ⟨"LATIN1", .byte, 24, 5, 0⟩, ⟨"UTF16", .byte, 24, 6, 0⟩]
  methods := #[k7m0, k7m1, k7m2, k7m3, k7m4, k7m5, k7m6, k7m7, k7m8, k7m9, k7m10, k7m11, k7m12, k7m13]
  instanceTypes := #[(.array .byte), .byte, .int, .boolean]
  staticTypes := #[.long, .boolean, (.array (.object "java/io/ObjectStreamField")), .char, (.object "java/util/Comparator"), .byte, .byte]
  resolved := Array.replicate 1451 none
  statics := some 0 }
def pool8 : Array CpInfo := pool [(1, .methodref 2 3), (0, .class_ 4), (0, .nameAndType 5 6), (0, u "java/lang/Object"), (0, u "<init>"), (0, u "()V"), (0, .class_ 8), (0, u "java/lang/Record")] 13
def k8c0 : Code := ⟨1, 1, jdk_30_method_1_code, #[], #[]⟩
def k8m0 : Method := ⟨"<init>", "()V", ⟨[], none⟩, 4, some k8c0⟩
def k8 : Class := { plain "java/lang/Record" (some 0) with
  accessFlags := 1057
  interfaces := #[]
  cf := some (fileOf pool8 7 #[] #[⟨4, 5, 6, #[]⟩] 1057 2 #[] #[])
  fields := #[]
  methods := #[k8m0]
  instanceTypes := #[]
  staticTypes := #[]
  resolved := Array.replicate 22 none
  statics := none }
def pool9 : Array CpInfo := pool [(1, .methodref 2 3), (0, .class_ 4), (0, .nameAndType 5 6), (0, u "java/lang/Record"), (0, u "<init>"), (0, u "()V"), (0, .fieldref 8 9), (0, .class_ 10), (0, .nameAndType 11 12), (0, u "com/example/tripletype/tripletype/Numeral"), (0, u "negative"), (0, u "Z"), (0, .fieldref 8 14), (0, .nameAndType 15 16), (0, u "integer"), (0, u "Ljava/lang/String;"), (0, .fieldref 8 18), (0, .nameAndType 19 16), (0, u "fraction"), (0, .string 21), (0, u "+"), (0, .methodref 23 24), (0, .class_ 25), (0, .nameAndType 26 27), (0, u "java/lang/String"), (0, u "startsWith"), (0, u "(Ljava/lang/String;)Z"), (0, .string 29), (0, u "-"), (0, .methodref 23 31), (0, .nameAndType 32 33), (0, u "indexOf"), (0, u "(II)I"), (0, .methodref 23 35), (0, .nameAndType 36 37), (0, u "length"), (0, u "()I"), (0, .methodref 8 39), (0, .nameAndType 40 41), (0, u "isDigits"), (0, u "(Ljava/lang/String;II)Z"), (0, .methodref 43 44), (0, .class_ 45), (0, .nameAndType 46 47), (0, u "java/util/Optional"), (0, u "empty"), (0, u "()Ljava/util/Optional;"), (0, .methodref 23 49), (0, .nameAndType 50 51), (0, u "charAt"), (0, u "(I)C"), (0, .string 53), (0, u ""), (0, .methodref 23 55), (0, .nameAndType 56 57), (0, u "substring"), (0, u "(II)Ljava/lang/String;"), (0, .methodref 8 59), (0, .nameAndType 5 60), (0, u "(ZLjava/lang/String;Ljava/lang/String;)V"), (0, .methodref 43 62), (0, .nameAndType 63 64), (0, u "of"), (0, u "(Ljava/lang/Object;)Ljava/util/Optional;"), (27, u "()Z"), (47, u "BLOCK_DIGITS"), (0, u "I"), (5, u "parse"), (0, u "(Ljava/lang/String;Z)Ljava/util/Optional;"), (5, u "()Ljava/lang/String;")] 30
def k9c0 : Code := ⟨2, 4, prog_2_method_1_code, #[], #[]⟩
def k9m0 : Method := ⟨"<init>", "(ZLjava/lang/String;Ljava/lang/String;)V", ⟨[.boolean, (.object "java/lang/String"), (.object "java/lang/String")], none⟩, 0, some k9c0⟩
def k9c1 : Code := ⟨6, 9, prog_2_method_2_code, #[], #[]⟩
def k9m1 : Method := ⟨"parse", "(Ljava/lang/String;Z)Ljava/util/Optional;", ⟨[(.object "java/lang/String"), .boolean], some (.object "java/util/Optional")⟩, 8, some k9c1⟩
def k9c2 : Code := ⟨2, 5, prog_2_method_3_code, #[], #[]⟩
def k9m2 : Method := ⟨"isDigits", "(Ljava/lang/String;II)Z", ⟨[(.object "java/lang/String"), .int, .int], some .boolean⟩, 10, some k9c2⟩
def k9c3 : Code := ⟨1, 1, prog_2_method_10_code, #[], #[]⟩
def k9m3 : Method := ⟨"negative", "()Z", ⟨[], some .boolean⟩, 1, some k9c3⟩
def k9c4 : Code := ⟨1, 1, prog_2_method_11_code, #[], #[]⟩
def k9m4 : Method := ⟨"integer", "()Ljava/lang/String;", ⟨[], some (.object "java/lang/String")⟩, 1, some k9c4⟩
def k9c5 : Code := ⟨1, 1, prog_2_method_12_code, #[], #[]⟩
def k9m5 : Method := ⟨"fraction", "()Ljava/lang/String;", ⟨[], some (.object "java/lang/String")⟩, 1, some k9c5⟩
def k9 : Class := { plain "com/example/tripletype/tripletype/Numeral" (some 8) with
  accessFlags := 48
  interfaces := #[]
  cf := some (fileOf pool9 8 #[] #[⟨0, 5, 60, #[]⟩, ⟨8, 147, 148, #[]⟩, ⟨10, 40, 41, #[]⟩, ⟨1, 11, 92, #[]⟩, ⟨1, 15, 154, #[]⟩, ⟨1, 19, 154, #[]⟩] 48 2 #[] #[⟨18, 11, 12, #[]⟩, ⟨18, 15, 16, #[]⟩, ⟨18, 19, 16, #[]⟩, ⟨26, 140, 141, #[]⟩])
  fields := #[⟨"negative", .boolean, 18, 0, 0⟩, ⟨"integer", (.object "java/lang/String"), 18, 1, 0⟩, ⟨"fraction", (.object "java/lang/String"), 18, 2, 0⟩, ⟨"BLOCK_DIGITS", .int, 26, 0, 0⟩]
  methods := #[k9m0, k9m1, k9m2, k9m3, k9m4, k9m5]
  instanceTypes := #[.boolean, (.object "java/lang/String"), (.object "java/lang/String")]
  staticTypes := #[.int]
  resolved := Array.replicate 185 none
  statics := none }
def pool10 : Array CpInfo := pool [(1, .fieldref 2 3), (0, .class_ 4), (0, .nameAndType 5 6), (0, u "java/util/Optional"), (0, u "EMPTY"), (0, u "Ljava/util/Optional;"), (0, .methodref 8 9), (0, .class_ 10), (0, .nameAndType 11 12), (0, u "java/lang/Object"), (0, u "<init>"), (0, u "()V"), (0, .fieldref 2 14), (0, .nameAndType 15 16), (0, u "value"), (0, u "Ljava/lang/Object;"), (0, .methodref 18 19), (0, .class_ 20), (0, .nameAndType 21 22), (0, u "java/util/Objects"), (0, u "requireNonNull"), (0, u "(Ljava/lang/Object;)Ljava/lang/Object;"), (0, .methodref 2 24), (0, .nameAndType 11 25), (0, u "(Ljava/lang/Object;)V"), (20, u "()Z"), (8, u "empty"), (0, u "()Ljava/util/Optional;"), (8, u "(Ljava/lang/Object;)Ljava/util/Optional;"), (2, u "isPresent"), (4, u "get"), (0, u "()Ljava/lang/Object;"), (7, u "of")] 104
def k10c0 : Code := ⟨1, 1, jdk_32_method_1_code, #[], #[]⟩
def k10m0 : Method := ⟨"empty", "()Ljava/util/Optional;", ⟨[], some (.object "java/util/Optional")⟩, 9, some k10c0⟩
def k10c1 : Code := ⟨2, 2, jdk_32_method_2_code, #[], #[]⟩
def k10m1 : Method := ⟨"<init>", "(Ljava/lang/Object;)V", ⟨[(.object "java/lang/Object")], none⟩, 2, some k10c1⟩
def k10c2 : Code := ⟨3, 1, jdk_32_method_3_code, #[], #[]⟩
def k10m2 : Method := ⟨"of", "(Ljava/lang/Object;)Ljava/util/Optional;", ⟨[(.object "java/lang/Object")], some (.object "java/util/Optional")⟩, 9, some k10c2⟩
def k10c3 : Code := ⟨3, 1, jdk_32_method_5_code, #[], #[]⟩
def k10m3 : Method := ⟨"get", "()Ljava/lang/Object;", ⟨[], some (.object "java/lang/Object")⟩, 1, some k10c3⟩
def k10c4 : Code := ⟨1, 1, jdk_32_method_6_code, #[], #[]⟩
def k10m4 : Method := ⟨"isPresent", "()Z", ⟨[], some .boolean⟩, 1, some k10c4⟩
def k10 : Class := { plain "java/util/Optional" (some 0) with
  accessFlags := 49
  interfaces := #[]
  cf := some (fileOf pool10 2 #[] #[⟨9, 55, 56, #[]⟩, ⟨2, 11, 25, #[]⟩, ⟨9, 82, 65, #[]⟩, ⟨1, 73, 74, #[]⟩, ⟨1, 68, 46, #[]⟩] 49 8 #[] #[⟨26, 5, 6, #[]⟩, ⟨18, 15, 16, #[]⟩])
  fields := #[⟨"EMPTY", (.object "java/util/Optional"), 26, 0, 0⟩, ⟨"value", (.object "java/lang/Object"), 18, 0, 0⟩]
  methods := #[k10m0, k10m1, k10m2, k10m3, k10m4]
  instanceTypes := #[(.object "java/lang/Object")]
  staticTypes := #[(.object "java/util/Optional")]
  resolved := Array.replicate 187 none
  statics := some 1 }
def pool11 : Array CpInfo := pool [(6, .class_ 8), (1, u "java/lang/Object"), (0, u "<init>"), (0, u "()V"), (1, .class_ 14), (1, u "java/lang/StringUTF16"), (31, u "$assertionsDisabled"), (0, u "Z"), (13, u "HI_BYTE_SHIFT"), (0, u "I"), (2, u "LO_BYTE_SHIFT"), (49, .methodref 12 116), (0, .nameAndType 117 118), (0, u "compress"), (0, u "([CI[BII)I"), (3, u "([CII)[B"), (138, u "coderFromArrayLen"), (0, u "([BI)B"), (106, .class_ 371), (1, u "java/lang/StringUTF16$LinesSpliterator"), (58, u "MAX_LENGTH"), (196, .class_ 628), (0, u "java/lang/StringUTF16$CodePointsSpliterator"), (0, .class_ 630), (0, u "java/lang/StringUTF16$CharsSpliterator")] 4
def k11m0 : Method := ⟨"<init>", "()V", ⟨[], none⟩, 0, none⟩
def k11c1 : Code := ⟨2, 2, jdk_52_method_15_code, #[], #[]⟩
def k11m1 : Method := ⟨"coderFromArrayLen", "([BI)B", ⟨[(.array .byte), .int], some .byte⟩, 8, some k11c1⟩
def k11c2 : Code := ⟨5, 6, jdk_52_method_16_code, #[], #[]⟩
def k11m2 : Method := ⟨"compress", "([CII)[B", ⟨[(.array .char), .int, .int], some (.array .byte)⟩, 9, some k11c2⟩
def k11c3 : Code := ⟨3, 7, jdk_52_method_21_code, #[], #[]⟩
def k11m3 : Method := ⟨"compress", "([CI[BII)I", ⟨[(.array .char), .int, (.array .byte), .int, .int], some .int⟩, 9, some k11c3⟩
def k11 : Class := { plain "java/lang/StringUTF16" (some 0) with
  accessFlags := 48
  interfaces := #[]
  cf := some (fileOf pool11 12 #[.nestMembers #[627, 629, 369]] #[⟨0, 9, 10, #[]⟩, ⟨8, 261, 262, #[]⟩, ⟨9, 117, 122, #[]⟩, ⟨9, 117, 118, #[]⟩] 48 6 #[] #[⟨26, 61, 62, #[]⟩, ⟨26, 65, 62, #[]⟩, ⟨24, 430, 62, #[]⟩, ⟨4120, 46, 47, #[]⟩])
  fields := #[⟨"HI_BYTE_SHIFT", .int, 26, 0, 0⟩, ⟨"LO_BYTE_SHIFT", .int, 26, 1, 0⟩, ⟨"MAX_LENGTH", .int, 24, 2, 0⟩, ⟨"$assertionsDisabled", .boolean, 4120, 3, 0⟩]
  methods := #[k11m0, k11m1, k11m2, k11m3]
  instanceTypes := #[]
  staticTypes := #[.int, .int, .int, .boolean]
  resolved := Array.replicate 635 none
  statics := none }
def pool12 : Array CpInfo := pool [(9, u "<init>"), (6, .class_ 18), (1, u "java/lang/Object"), (0, u "()V"), (1, .class_ 23), (1, u "jdk/internal/util/ArraysSupport"), (0, u "LOG2_ARRAY_LONG_INDEX_SCALE"), (0, u "I"), (2, u "U"), (0, u "Ljdk/internal/misc/Unsafe;"), (8, u "BIG_ENDIAN"), (0, u "Z"), (8, u "LOG2_BYTE_BIT_SIZE"), (4, u "LOG2_ARRAY_INT_INDEX_SCALE"), (54, u "JLA"), (0, u "Ljdk/internal/access/JavaLangAccess;"), (11, u "LOG2_ARRAY_BOOLEAN_INDEX_SCALE"), (9, u "LOG2_ARRAY_BYTE_INDEX_SCALE"), (5, u "LOG2_ARRAY_CHAR_INDEX_SCALE"), (5, u "LOG2_ARRAY_SHORT_INDEX_SCALE"), (5, u "mismatch"), (12, u "LOG2_ARRAY_FLOAT_INDEX_SCALE"), (24, u "LOG2_ARRAY_DOUBLE_INDEX_SCALE"), (89, u "T_BOOLEAN"), (2, u "T_CHAR"), (1, u "T_FLOAT"), (1, u "T_DOUBLE"), (1, u "T_BYTE"), (1, u "T_SHORT"), (1, u "T_INT"), (1, u "T_LONG"), (1, u "SOFT_MAX_ARRAY_LENGTH"), (42, u "([BI[BII)I")] 40
def k12m0 : Method := ⟨"<init>", "()V", ⟨[], none⟩, 2, none⟩
def k12c1 : Code := ⟨8, 8, jdk_48_method_14_code, #[], #[]⟩
def k12m1 : Method := ⟨"mismatch", "([BI[BII)I", ⟨[(.array .byte), .int, (.array .byte), .int, .int], some .int⟩, 9, some k12c1⟩
def k12 : Class := { plain "jdk/internal/util/ArraysSupport" (some 0) with
  accessFlags := 33
  interfaces := #[]
  cf := some (fileOf pool12 21 #[] #[⟨2, 9, 19, #[]⟩, ⟨9, 149, 337, #[]⟩] 33 16 #[] #[⟨24, 28, 29, #[]⟩, ⟨26, 38, 39, #[]⟩, ⟨25, 121, 25, #[]⟩, ⟨25, 131, 25, #[]⟩, ⟨25, 137, 25, #[]⟩, ⟨25, 143, 25, #[]⟩, ⟨25, 53, 25, #[]⟩, ⟨25, 24, 25, #[]⟩, ⟨25, 162, 25, #[]⟩, ⟨25, 187, 25, #[]⟩, ⟨26, 48, 25, #[]⟩, ⟨25, 277, 25, #[]⟩, ⟨25, 280, 25, #[]⟩, ⟨25, 282, 25, #[]⟩, ⟨25, 284, 25, #[]⟩, ⟨25, 286, 25, #[]⟩, ⟨25, 288, 25, #[]⟩, ⟨25, 290, 25, #[]⟩, ⟨25, 292, 25, #[]⟩, ⟨26, 108, 109, #[]⟩, ⟨25, 294, 25, #[]⟩])
  fields := #[⟨"U", (.object "jdk/internal/misc/Unsafe"), 24, 0, 0⟩, ⟨"BIG_ENDIAN", .boolean, 26, 1, 0⟩, ⟨"LOG2_ARRAY_BOOLEAN_INDEX_SCALE", .int, 25, 2, 0⟩, ⟨"LOG2_ARRAY_BYTE_INDEX_SCALE", .int, 25, 3, 0⟩, ⟨"LOG2_ARRAY_CHAR_INDEX_SCALE", .int, 25, 4, 0⟩, ⟨"LOG2_ARRAY_SHORT_INDEX_SCALE", .int, 25, 5, 0⟩, ⟨"LOG2_ARRAY_INT_INDEX_SCALE", .int, 25, 6, 0⟩, ⟨"LOG2_ARRAY_LONG_INDEX_SCALE", .int, 25, 7, 0⟩, ⟨"LOG2_ARRAY_FLOAT_INDEX_SCALE", .int, 25, 8, 0⟩, ⟨"LOG2_ARRAY_DOUBLE_INDEX_SCALE", .int, 25, 9, 0⟩, ⟨"LOG2_BYTE_BIT_SIZE", .int, 26, 10, 0⟩, ⟨"T_BOOLEAN", .int, 25, 11, 0⟩, ⟨"T_CHAR", .int, 25, 12, 0⟩, ⟨"T_FLOAT", .int, 25, 13, 0⟩, ⟨"T_DOUBLE", .int, 25, 14, 0⟩, ⟨"T_BYTE", .int, 25, 15, 0⟩, ⟨"T_SHORT", .int, 25, 16, 0⟩, ⟨"T_INT", .int, 25, 17, 0⟩, ⟨"T_LONG", .int, 25, 18, 0⟩, ⟨"JLA", (.object "jdk/internal/access/JavaLangAccess"), 26, 19, 0⟩, ⟨"SOFT_MAX_ARRAY_LENGTH", .int, 25, 20, 0⟩]
  methods := #[k12m0, k12m1]
  instanceTypes := #[]
  staticTypes := #[(.object "jdk/internal/misc/Unsafe"), .boolean, .int, .int, .int, .int, .int, .int, .int, .int, .int, .int, .int, .int, .int, .int, .int, .int, .int, (.object "jdk/internal/access/JavaLangAccess"), .int]
  resolved := Array.replicate 378 none
  statics := none }
def pool13 : Array CpInfo := pool [(1, .class_ 2), (0, u "java/lang/String"), (1, .class_ 6), (1, u "java/lang/Object"), (0, u "<init>"), (0, u "()V"), (0, .methodref 1 10), (0, .nameAndType 11 12), (0, u "checkIndex"), (0, u "(II)V"), (1, .class_ 16), (1, u "java/lang/StringLatin1"), (21, .methodref 39 40), (0, .class_ 41), (0, .nameAndType 42 43), (0, u "java/lang/Math"), (0, u "min"), (0, u "(II)I"), (9, u "([BI)C"), (34, .methodref 14 89), (0, .nameAndType 90 91), (0, u "canEncode"), (0, u "(I)Z"), (0, .methodref 39 93), (0, .nameAndType 94 43), (0, u "max"), (0, .methodref 14 96), (0, .nameAndType 97 98), (0, u "indexOfChar"), (0, u "([BIII)I"), (2, u "indexOf"), (10, .methodref 1 113), (0, .nameAndType 7 114), (0, u "([BB)V"), (6, u "$assertionsDisabled"), (0, u "Z"), (8, .class_ 133), (1, u "java/util/Arrays"), (17, .string 152), (0, u ""), (43, u "newString"), (0, u "([BII)Ljava/lang/String;"), (23, .class_ 223), (1, u "java/lang/StringLatin1$LinesSpliterator"), (8, .methodref 131 233), (0, .nameAndType 234 235), (0, u "copyOfRange"), (0, u "([BII)[B"), (16, u "charAt"), (137, .class_ 391), (0, u "java/lang/StringLatin1$CharsSpliterator")] 3
def k13m0 : Method := ⟨"<init>", "()V", ⟨[], none⟩, 0, none⟩
def k13c1 : Code := ⟨2, 2, jdk_43_method_2_code, #[], #[]⟩
def k13m1 : Method := ⟨"charAt", "([BI)C", ⟨[(.array .byte), .int], some .char⟩, 9, some k13c1⟩
def k13c2 : Code := ⟨2, 1, jdk_43_method_4_code, #[], #[]⟩
def k13m2 : Method := ⟨"canEncode", "(I)Z", ⟨[.int], some .boolean⟩, 9, some k13c2⟩
def k13c3 : Code := ⟨4, 4, jdk_43_method_22_code, #[], #[]⟩
def k13m3 : Method := ⟨"indexOf", "([BIII)I", ⟨[(.array .byte), .int, .int, .int], some .int⟩, 9, some k13c3⟩
def k13c4 : Code := ⟨2, 6, jdk_43_method_23_code, #[], #[]⟩
def k13m4 : Method := ⟨"indexOfChar", "([BIII)I", ⟨[(.array .byte), .int, .int, .int], some .int⟩, 10, some k13c4⟩
def k13c5 : Code := ⟨6, 3, jdk_43_method_47_code, #[], #[]⟩
def k13m5 : Method := ⟨"newString", "([BII)Ljava/lang/String;", ⟨[(.array .byte), .int, .int], some (.object "java/lang/String")⟩, 9, some k13c5⟩
def k13 : Class := { plain "java/lang/StringLatin1" (some 0) with
  accessFlags := 48
  interfaces := #[]
  cf := some (fileOf pool13 14 #[.nestMembers #[390, 221]] #[⟨0, 7, 8, #[]⟩, ⟨9, 252, 53, #[]⟩, ⟨9, 90, 91, #[]⟩, ⟨9, 101, 98, #[]⟩, ⟨10, 97, 98, #[]⟩, ⟨9, 196, 197, #[]⟩] 48 4 #[] #[⟨4120, 121, 122, #[]⟩])
  fields := #[⟨"$assertionsDisabled", .boolean, 4120, 0, 0⟩]
  methods := #[k13m0, k13m1, k13m2, k13m3, k13m4, k13m5]
  instanceTypes := #[]
  staticTypes := #[.boolean]
  resolved := Array.replicate 395 none
  statics := none }
def pool14 : Array CpInfo := pool [(2, .class_ 4), (1, u "java/lang/Object"), (0, u "<init>"), (0, u "()V"), (17, .class_ 26), (1, u "jdk/internal/util/Preconditions"), (6, u "checkIndex"), (13, u "checkFromToIndex"), (7, .class_ 56), (0, u "jdk/internal/util/Preconditions$4"), (57, .class_ 115), (0, u "jdk/internal/util/Preconditions$1"), (7, u "SIOOBE_FORMATTER"), (0, u "Ljava/util/function/BiFunction;"), (0, .class_ 126), (0, u "jdk/internal/util/Preconditions$2"), (3, u "AIOOBE_FORMATTER"), (0, .class_ 132), (0, u "jdk/internal/util/Preconditions$3"), (3, u "IOOBE_FORMATTER"), (41, u "(IILjava/util/function/BiFunction;)I"), (4, u "(IIILjava/util/function/BiFunction;)I")] 10
def k14m0 : Method := ⟨"<init>", "()V", ⟨[], none⟩, 1, none⟩
def k14c1 : Code := ⟨3, 3, jdk_41_method_11_code, #[], #[]⟩
def k14m1 : Method := ⟨"checkIndex", "(IILjava/util/function/BiFunction;)I", ⟨[.int, .int, (.object "java/util/function/BiFunction")], some .int⟩, 9, some k14c1⟩
def k14c2 : Code := ⟨4, 4, jdk_41_method_12_code, #[], #[]⟩
def k14m2 : Method := ⟨"checkFromToIndex", "(IIILjava/util/function/BiFunction;)I", ⟨[.int, .int, .int, (.object "java/util/function/BiFunction")], some .int⟩, 9, some k14c2⟩
def k14 : Class := { plain "jdk/internal/util/Preconditions" (some 0) with
  accessFlags := 33
  interfaces := #[]
  cf := some (fileOf pool14 24 #[.nestMembers #[55, 131, 125, 114]] #[⟨1, 5, 6, #[]⟩, ⟨9, 33, 178, #[]⟩, ⟨9, 47, 183, #[]⟩] 33 2 #[] #[⟨25, 123, 124, #[]⟩, ⟨25, 130, 124, #[]⟩, ⟨25, 136, 124, #[]⟩])
  fields := #[⟨"SIOOBE_FORMATTER", (.object "java/util/function/BiFunction"), 25, 0, 0⟩, ⟨"AIOOBE_FORMATTER", (.object "java/util/function/BiFunction"), 25, 1, 0⟩, ⟨"IOOBE_FORMATTER", (.object "java/util/function/BiFunction"), 25, 2, 0⟩]
  methods := #[k14m0, k14m1, k14m2]
  instanceTypes := #[]
  staticTypes := #[(.object "java/util/function/BiFunction"), (.object "java/util/function/BiFunction"), (.object "java/util/function/BiFunction")]
  resolved := Array.replicate 194 none
  statics := some 2 }
def pool15 : Array CpInfo := pool [(2, .class_ 4), (1, u "java/lang/Object"), (0, u "<init>"), (0, u "()V"), (35, .class_ 44), (1, u "java/util/Objects"), (0, u "requireNonNull"), (0, u "(Ljava/lang/Object;)Ljava/lang/Object;")] 137
def k15m0 : Method := ⟨"<init>", "()V", ⟨[], none⟩, 2, none⟩
def k15c1 : Code := ⟨2, 1, jdk_31_method_10_code, #[], #[]⟩
def k15m1 : Method := ⟨"requireNonNull", "(Ljava/lang/Object;)Ljava/lang/Object;", ⟨[(.object "java/lang/Object")], some (.object "java/lang/Object")⟩, 9, some k15c1⟩
def k15 : Class := { plain "java/util/Objects" (some 0) with
  accessFlags := 49
  interfaces := #[]
  cf := some (fileOf pool15 42 #[] #[⟨2, 5, 6, #[]⟩, ⟨9, 45, 46, #[]⟩] 49 2 #[] #[])
  fields := #[]
  methods := #[k15m0, k15m1]
  instanceTypes := #[]
  staticTypes := #[]
  resolved := Array.replicate 184 none
  statics := none }
def pool16 : Array CpInfo := pool [(1, .class_ 2), (0, u "java/lang/Math"), (1, .class_ 6), (1, u "java/lang/Object"), (0, u "<init>"), (0, u "()V"), (89, .class_ 100), (1, u "java/lang/Math$RandomNumberGeneratorHolder"), (71, u "negativeZeroFloatBits"), (0, u "J"), (2, u "negativeZeroDoubleBits"), (21, u "max"), (2, u "min"), (43, u "$assertionsDisabled"), (0, u "Z"), (88, u "(II)I"), (2, u "twoToTheDoubleScaleDown"), (0, u "D"), (4, u "twoToTheDoubleScaleUp"), (9, u "E"), (3, u "PI"), (2, u "TAU"), (2, u "DEGREES_TO_RADIANS"), (0, u "RADIANS_TO_DEGREES")] 94
def k16m0 : Method := ⟨"<init>", "()V", ⟨[], none⟩, 2, none⟩
def k16c1 : Code := ⟨2, 2, jdk_29_method_65_code, #[], #[]⟩
def k16m1 : Method := ⟨"max", "(II)I", ⟨[.int, .int], some .int⟩, 9, some k16c1⟩
def k16c2 : Code := ⟨2, 2, jdk_29_method_69_code, #[], #[]⟩
def k16m2 : Method := ⟨"min", "(II)I", ⟨[.int, .int], some .int⟩, 9, some k16c2⟩
def k16 : Class := { plain "java/lang/Math" (some 0) with
  accessFlags := 49
  interfaces := #[]
  cf := some (fileOf pool16 1 #[.nestMembers #[98]] #[⟨2, 7, 8, #[]⟩, ⟨9, 198, 335, #[]⟩, ⟨9, 201, 335, #[]⟩] 49 4 #[] #[⟨25, 354, 339, #[]⟩, ⟨25, 358, 339, #[]⟩, ⟨25, 361, 339, #[]⟩, ⟨26, 364, 339, #[]⟩, ⟨26, 365, 339, #[]⟩, ⟨26, 172, 173, #[]⟩, ⟨26, 176, 173, #[]⟩, ⟨8, 344, 339, #[]⟩, ⟨8, 338, 339, #[]⟩, ⟨4120, 245, 246, #[]⟩])
  fields := #[⟨"E", .double, 25, 0, 0⟩, ⟨"PI", .double, 25, 1, 0⟩, ⟨"TAU", .double, 25, 2, 0⟩, ⟨"DEGREES_TO_RADIANS", .double, 26, 3, 0⟩, ⟨"RADIANS_TO_DEGREES", .double, 26, 4, 0⟩, ⟨"negativeZeroFloatBits", .long, 26, 5, 0⟩, ⟨"negativeZeroDoubleBits", .long, 26, 6, 0⟩, ⟨"twoToTheDoubleScaleUp", .double, 8, 7, 0⟩, ⟨"twoToTheDoubleScaleDown", .double, 8, 8, 0⟩, ⟨"$assertionsDisabled", .boolean, 4120, 9, 0⟩]
  methods := #[k16m0, k16m1, k16m2]
  instanceTypes := #[]
  staticTypes := #[.double, .double, .double, .double, .double, .long, .long, .double, .double, .boolean]
  resolved := Array.replicate 460 none
  statics := none }
def pool17 : Array CpInfo := pool [(2, .class_ 4), (1, u "java/lang/Object"), (0, u "<init>"), (0, u "()V"), (7, .class_ 16), (1, u "java/util/Arrays"), (57, .class_ 76), (1, u "java/util/Arrays$NaturalOrder"), (36, .class_ 115), (1, u "java/util/Arrays$LegacyMergeSort"), (1, u "Z"), (21, u "copyOfRange"), (10, .methodref 151 152), (0, .class_ 153), (0, .nameAndType 154 155), (0, u "java/lang/System"), (0, u "arraycopy"), (0, u "(Ljava/lang/Object;ILjava/lang/Object;II)V"), (148, .methodref 305 306), (0, .class_ 307), (0, .nameAndType 308 309), (0, u "java/lang/Math"), (0, u "min"), (0, u "(II)I"), (29, .methodref 14 340), (0, .nameAndType 341 342), (0, u "copyOfRangeByte"), (0, u "([BII)[B"), (0, .methodref 14 344), (0, .nameAndType 345 346), (0, u "checkLength"), (0, u "(II)V"), (28, .class_ 376), (0, u "java/util/Arrays$ArrayList"), (68, u "$assertionsDisabled"), (269, u "MIN_ARRAY_SORT_GRAN"), (0, u "I"), (2, u "INSERTIONSORT_THRESHOLD"), (255, .class_ 976), (0, u "java/util/Arrays$ArrayItr")] 52
def k17m0 : Method := ⟨"<init>", "()V", ⟨[], none⟩, 2, none⟩
def k17c1 : Code := ⟨4, 2, jdk_65_method_131_code, #[], #[]⟩
def k17m1 : Method := ⟨"checkLength", "(II)V", ⟨[.int, .int], none⟩, 10, some k17c1⟩
def k17c2 : Code := ⟨3, 3, jdk_65_method_132_code, #[], #[]⟩
def k17m2 : Method := ⟨"copyOfRange", "([BII)[B", ⟨[(.array .byte), .int, .int], some (.array .byte)⟩, 9, some k17c2⟩
def k17c3 : Code := ⟨6, 5, jdk_65_method_133_code, #[], #[]⟩
def k17m3 : Method := ⟨"copyOfRangeByte", "([BII)[B", ⟨[(.array .byte), .int, .int], some (.array .byte)⟩, 10, some k17c3⟩
def k17 : Class := { plain "java/util/Arrays" (some 0) with
  accessFlags := 49
  interfaces := #[]
  cf := some (fileOf pool17 14 #[.nestMembers #[975, 375, 113, 74]] #[⟨2, 5, 6, #[]⟩, ⟨10, 345, 346, #[]⟩, ⟨9, 139, 342, #[]⟩, ⟨10, 341, 342, #[]⟩] 49 2 #[] #[⟨26, 715, 716, #[]⟩, ⟨26, 719, 716, #[]⟩, ⟨4120, 445, 117, #[]⟩])
  fields := #[⟨"MIN_ARRAY_SORT_GRAN", .int, 26, 0, 0⟩, ⟨"INSERTIONSORT_THRESHOLD", .int, 26, 1, 0⟩, ⟨"$assertionsDisabled", .boolean, 4120, 2, 0⟩]
  methods := #[k17m0, k17m1, k17m2, k17m3]
  instanceTypes := #[]
  staticTypes := #[.int, .int, .boolean]
  resolved := Array.replicate 1029 none
  statics := none }
def pool18 : Array CpInfo := pool [(2, .class_ 4), (1, u "java/lang/Object"), (0, u "<init>"), (0, u "()V"), (1, .class_ 10), (1, u "java/lang/System"), (0, u "allowSecurityManager"), (0, u "I"), (16, u "cons"), (0, u "Ljava/io/Console;"), (77, .class_ 110), (1, u "java/lang/System$CallersHolder"), (43, u "initialErrStream"), (0, u "Ljava/io/PrintStream;"), (19, u "security"), (0, u "Ljava/lang/SecurityManager;"), (31, .class_ 209), (0, u "java/lang/System$1"), (7, u "props"), (0, u "Ljava/util/Properties;"), (2, u "lineSeparator"), (0, u "Ljava/lang/String;"), (96, .class_ 321), (1, u "java/lang/System$LoggerFinder"), (5, .class_ 328), (0, u "java/lang/System$Logger"), (67, u "err"), (2, u "out"), (91, u "notSupportedJnuEncoding"), (15, u "in"), (17, u "initialIn"), (0, u "Ljava/io/InputStream;"), (35, u "bootLayer"), (0, u "Ljava/lang/ModuleLayer;"), (99, .class_ 664), (0, u "java/lang/System$2"), (9, u "NEVER"), (2, u "MAYBE"), (49, u "arraycopy"), (0, u "(Ljava/lang/Object;ILjava/lang/Object;II)V"), (72, .class_ 802), (0, u "java/lang/System$Logger$Level")] 31
def k18m0 : Method := ⟨"<init>", "()V", ⟨[], none⟩, 2, none⟩
def k18m1 : Method := ⟨"arraycopy", "(Ljava/lang/Object;ILjava/lang/Object;II)V", ⟨[(.object "java/lang/Object"), .int, (.object "java/lang/Object"), .int, .int], none⟩, 265, none⟩
def k18 : Class := { plain "java/lang/System" (some 0) with
  accessFlags := 49
  interfaces := #[]
  cf := some (fileOf pool18 8 #[.nestMembers #[319, 327, 801, 108, 663, 208]] #[⟨2, 5, 6, #[]⟩, ⟨265, 727, 728, #[]⟩] 49 2 #[] #[⟨25, 507, 526, #[]⟩, ⟨25, 399, 155, #[]⟩, ⟨25, 396, 155, #[]⟩, ⟨10, 525, 526, #[]⟩, ⟨26, 674, 12, #[]⟩, ⟨26, 677, 12, #[]⟩, ⟨10, 11, 12, #[]⟩, ⟨74, 175, 176, #[]⟩, ⟨10, 491, 222, #[]⟩, ⟨74, 29, 30, #[]⟩, ⟨74, 154, 155, #[]⟩, ⟨10, 217, 218, #[]⟩, ⟨10, 221, 222, #[]⟩, ⟨8, 562, 563, #[]⟩])
  fields := #[⟨"in", (.object "java/io/InputStream"), 25, 0, 0⟩, ⟨"out", (.object "java/io/PrintStream"), 25, 1, 0⟩, ⟨"err", (.object "java/io/PrintStream"), 25, 2, 0⟩, ⟨"initialIn", (.object "java/io/InputStream"), 10, 3, 0⟩, ⟨"NEVER", .int, 26, 4, 0⟩, ⟨"MAYBE", .int, 26, 5, 0⟩, ⟨"allowSecurityManager", .int, 10, 6, 0⟩, ⟨"security", (.object "java/lang/SecurityManager"), 74, 7, 0⟩, ⟨"notSupportedJnuEncoding", (.object "java/lang/String"), 10, 8, 0⟩, ⟨"cons", (.object "java/io/Console"), 74, 9, 0⟩, ⟨"initialErrStream", (.object "java/io/PrintStream"), 74, 10, 0⟩, ⟨"props", (.object "java/util/Properties"), 10, 11, 0⟩, ⟨"lineSeparator", (.object "java/lang/String"), 10, 12, 0⟩, ⟨"bootLayer", (.object "java/lang/ModuleLayer"), 8, 13, 0⟩]
  methods := #[k18m0, k18m1]
  instanceTypes := #[]
  staticTypes := #[(.object "java/io/InputStream"), (.object "java/io/PrintStream"), (.object "java/io/PrintStream"), (.object "java/io/InputStream"), .int, .int, .int, (.object "java/lang/SecurityManager"), (.object "java/lang/String"), (.object "java/io/Console"), (.object "java/io/PrintStream"), (.object "java/util/Properties"), (.object "java/lang/String"), (.object "java/lang/ModuleLayer")]
  resolved := Array.replicate 834 none
  statics := none }
def pool19 : Array CpInfo := pool [(1, u "java/lang/Cloneable"), (0, .class_ 1), (0, u "java/lang/Object"), (0, .class_ 3)] 3
def k19 : Class := { plain "java/lang/Cloneable" (some 0) with
  accessFlags := 1537
  interfaces := #[]
  cf := some (fileOf pool19 2 #[] #[] 1537 4 #[] #[])
  fields := #[]
  methods := #[]
  instanceTypes := #[]
  staticTypes := #[]
  resolved := Array.replicate 8 none
  statics := none }
/-- the primitive boolean -/
def k20 : Class := { plain "boolean" none with kind := .primitive 'Z', accessFlags := 0x411 }
def k21 : Class := { plain "[Z" (some 0) with kind := .array 20 .boolean, interfaces := #[19, 2], accessFlags := 1041 }
/-- the primitive byte -/
def k22 : Class := { plain "byte" none with kind := .primitive 'B', accessFlags := 0x411 }
def k23 : Class := { plain "[B" (some 0) with kind := .array 22 .byte, interfaces := #[19, 2], accessFlags := 1041 }
/-- the primitive char -/
def k24 : Class := { plain "char" none with kind := .primitive 'C', accessFlags := 0x411 }
def k25 : Class := { plain "[C" (some 0) with kind := .array 24 .char, interfaces := #[19, 2], accessFlags := 1041 }
/-- the primitive int -/
def k26 : Class := { plain "int" none with kind := .primitive 'I', accessFlags := 0x411 }
def k27 : Class := { plain "[I" (some 0) with kind := .array 26 .int, interfaces := #[19, 2], accessFlags := 1041 }
def heap : Heap := #[{ cls := 7, slots := #[.long 0, .int 1, .null, .int 0, .null, .int 0, .int 0], vm := .statics 7 },
  { cls := 10, slots := #[.ref 3], vm := .statics 10 },
  { cls := 14, slots := #[.null, .null, .null], vm := .statics 14 },
  { cls := 10, slots := #[.null], vm := .none }]
def classes : Array Class := #[k0, k1, k2, k3, k4, k5, k6, k7, k8, k9, k10, k11, k12, k13, k14, k15, k16, k17, k18, k19, k20, k21, k22, k23, k24, k25, k26, k27]
def interned : List (Array UInt16 × Addr) := []
def slotsUsed : Nat := 12
def theMethod : MethodId := ⟨1, 7⟩
def args0 : Array Value := #[.int 1, .int 2, .int 3, .int 4, .int 5]
def aboutOver (below : List Frame) : State where
  vm := { classes := classes, interned := interned.toArray }
  heap := heap
  slotsUsed := slotsUsed
  threads := #[{ frames := .invoking theMethod args0 :: below }]
def below0 : List Frame := [.native { method := ⟨0, 0⟩, args := #[] }]
def about1 : State := aboutOver below0
def p0 : Program := .bare "" "" ""
def e0 : Env := launch0.env 0 0 0
theorem w_frames : about1.frames = Frame.invoking theMethod args0 :: below0 := rfl
theorem w_args : argsFit about1.vm theMethod args0 = true := by decide +kernel
theorem w_heap : heapFits about1 = true := by decide +kernel
theorem w_runnable : about1.curStatus? = some .runnable := by decide +kernel
theorem w_alone : about1.alone = true := by decide +kernel
theorem w_named : about1.methodNamed? x = some theMethod := by decide +kernel
theorem w_hears : about1.hears theMethod below0 = true := by decide +kernel
theorem w_ripe : about1.ripe theMethod args0 below0 = true := by decide +kernel
theorem w_running : about1.status = .running := rfl
theorem w_room : about1.hasRoom e0.platform room_1 = true :=
  launch0.hasRoom_least _ room_1 (by decide +kernel) (by decide +kernel) (by decide +kernel) (by decide +kernel) (by decide +kernel) (by decide +kernel)
theorem allAtoms_all (ts : List Jvm.Cond) (a : Array Jvm.Value) (st : Jvm.State) : (allAtoms ts).before a st = ts.all (fun c => c.before a st) := by
  induction ts with
  | nil => rfl
  | cons c t ih =>
    show (Cond.and c (allAtoms t)).before a st = _
    rw [Cond.before_and, ih, List.all_cons]
def words1 : List Jvm.Cond := Cond.code x code maxLocals ret :: tables_1
/-- a 'code' word, met by the world's own term for the bytes: nothing is compared byte by byte -/
theorem code_word {y : MethodName} {bytes : ByteArray} {mx : Nat} {rt : Option FieldType} {a : Array Value} {s : State} {m : MethodId} {meth : Method} {c : Code} (h1 : s.methodNamed? y = some m) (h2 : s.vm.method? m = some meth) (h3 : meth.code = some c) (h4 : c.code = bytes)
    (h5 : (c.maxLocals == mx && c.exceptionTable.isEmpty && decide (c.maxStack ≤ mostOperands) && decide (meth.sig.returnType = rt) && !meth.locks && decide (parseMethodDescriptor y.desc = some meth.sig)) = true) : (Cond.code y bytes mx rt).before a s = true := by
  simp only [Bool.and_eq_true, beq_iff_eq, Bool.not_eq_true', decide_eq_true_eq] at h5
  obtain ⟨⟨⟨⟨⟨g1, g2⟩, g3⟩, g4⟩, g5⟩, g6⟩ := h5
  simp [Cond.before, Cond.holds, Cond.value, h1, h2, h3, h4, g1, g2, g3, g4, g5, g6]
def isCode : Jvm.Cond → Bool
  | .code _ _ _ _ => true
  | _ => false
theorem all_split {L : List Jvm.Cond} {P : Jvm.Cond → Bool} (h1 : L.all (fun c => isCode c || P c) = true) (h2 : ∀ c ∈ L.filter isCode, P c = true) : L.all P = true := by
  refine List.all_eq_true.mpr fun c hc => ?_
  have h := List.all_eq_true.mp h1 c hc
  rcases Bool.eq_false_or_eq_true (isCode c) with hi | hi
  · exact h2 c (List.mem_filter.mpr ⟨hc, hi⟩)
  · simpa [hi] using h
theorem w_c0 : (Cond.code x code maxLocals ret).before args0 about1 = true := code_word (m := ⟨1, 7⟩) (meth := k1m7) (c := k1c7) (by decide +kernel) rfl rfl rfl (by decide +kernel)
theorem w_c1 : (Cond.code y_33 method_2_code (2 : Nat) (Option.some FieldType.char)).before args0 about1 = true := code_word (m := ⟨1, 1⟩) (meth := k1m1) (c := k1c1) (by decide +kernel) rfl rfl rfl (by decide +kernel)
theorem w_c2 : (Cond.code y_44 method_3_code (2 : Nat) (Option.some (FieldType.object "java/lang/String"))).before args0 about1 = true := code_word (m := ⟨1, 2⟩) (meth := k1m2) (c := k1c2) (by decide +kernel) rfl rfl rfl (by decide +kernel)
theorem w_c3 : (Cond.code y_4 jdk_42_method_3_code (2 : Nat) (Option.none : Option FieldType)).before args0 about1 = true := code_word (m := ⟨7, 1⟩) (meth := k7m1) (c := k7c1) (by decide +kernel) rfl rfl rfl (by decide +kernel)
theorem w_c4 : (Cond.code y_3 jdk_42_method_149_code (6 : Nat) (Option.none : Option FieldType)).before args0 about1 = true := code_word (m := ⟨7, 8⟩) (meth := k7m8) (c := k7c8) (by decide +kernel) rfl rfl rfl (by decide +kernel)
theorem w_c5 : (Cond.code (⟨"java/lang/Object", "<init>", "()V"⟩ : MethodName) object_method_1_code (1 : Nat) (Option.none : Option FieldType)).before args0 about1 = true := code_word (m := ⟨0, 0⟩) (meth := k0m0) (c := k0c0) (by decide +kernel) rfl rfl rfl (by decide +kernel)
theorem w_c6 : (Cond.code y_47 prog_2_method_2_code (9 : Nat) (Option.some (FieldType.object "java/util/Optional"))).before args0 about1 = true := code_word (m := ⟨9, 1⟩) (meth := k9m1) (c := k9c1) (by decide +kernel) rfl rfl rfl (by decide +kernel)
theorem w_c7 : (Cond.code y_21 jdk_42_method_76_code (2 : Nat) (Option.some FieldType.boolean)).before args0 about1 = true := code_word (m := ⟨7, 5⟩) (meth := k7m5) (c := k7c5) (by decide +kernel) rfl rfl rfl (by decide +kernel)
theorem w_c8 : (Cond.code y_20 jdk_42_method_75_code (8 : Nat) (Option.some FieldType.boolean)).before args0 about1 = true := code_word (m := ⟨7, 4⟩) (meth := k7m4) (c := k7c4) (by decide +kernel) rfl rfl rfl (by decide +kernel)
theorem w_c9 : (Cond.code y_7 jdk_42_method_54_code (1 : Nat) (Option.some FieldType.int)).before args0 about1 = true := code_word (m := ⟨7, 2⟩) (meth := k7m2) (c := k7c2) (by decide +kernel) rfl rfl rfl (by decide +kernel)
theorem w_c10 : (Cond.code y_5 jdk_42_method_152_code (1 : Nat) (Option.some FieldType.byte)).before args0 about1 = true := code_word (m := ⟨7, 10⟩) (meth := k7m10) (c := k7c10) (by decide +kernel) rfl rfl rfl (by decide +kernel)
theorem w_c11 : (Cond.code y_30 jdk_32_method_1_code (1 : Nat) (Option.some (FieldType.object "java/util/Optional"))).before args0 about1 = true := code_word (m := ⟨10, 0⟩) (meth := k10m0) (c := k10c0) (by decide +kernel) rfl rfl rfl (by decide +kernel)
theorem w_c12 : (Cond.code y_43 method_4_code (5 : Nat) (Option.some FieldType.int)).before args0 about1 = true := code_word (m := ⟨1, 3⟩) (meth := k1m3) (c := k1c3) (by decide +kernel) rfl rfl rfl (by decide +kernel)
theorem w_c13 : (Cond.code y_34 method_5_code (5 : Nat) (Option.some FieldType.int)).before args0 about1 = true := code_word (m := ⟨1, 4⟩) (meth := k1m4) (c := k1c4) (by decide +kernel) rfl rfl rfl (by decide +kernel)
theorem w_c14 : (Cond.code y_31 jdk_32_method_6_code (1 : Nat) (Option.some FieldType.boolean)).before args0 about1 = true := code_word (m := ⟨10, 4⟩) (meth := k10m4) (c := k10c4) (by decide +kernel) rfl rfl rfl (by decide +kernel)
theorem w_c15 : (Cond.code y_1 jdk_52_method_16_code (6 : Nat) (Option.some (FieldType.array FieldType.byte))).before args0 about1 = true := code_word (m := ⟨11, 2⟩) (meth := k11m2) (c := k11c2) (by decide +kernel) rfl rfl rfl (by decide +kernel)
theorem w_c16 : (Cond.code y_0 jdk_52_method_21_code (7 : Nat) (Option.some FieldType.int)).before args0 about1 = true := code_word (m := ⟨11, 3⟩) (meth := k11m3) (c := k11c3) (by decide +kernel) rfl rfl rfl (by decide +kernel)
theorem w_c17 : (Cond.code y_2 jdk_52_method_15_code (2 : Nat) (Option.some FieldType.byte)).before args0 about1 = true := code_word (m := ⟨11, 1⟩) (meth := k11m1) (c := k11c1) (by decide +kernel) rfl rfl rfl (by decide +kernel)
theorem w_c18 : (Cond.code y_19 jdk_48_method_14_code (8 : Nat) (Option.some FieldType.int)).before args0 about1 = true := code_word (m := ⟨12, 1⟩) (meth := k12m1) (c := k12c1) (by decide +kernel) rfl rfl rfl (by decide +kernel)
theorem w_c19 : (Cond.code y_12 prog_2_method_3_code (5 : Nat) (Option.some FieldType.boolean)).before args0 about1 = true := code_word (m := ⟨9, 2⟩) (meth := k9m2) (c := k9c2) (by decide +kernel) rfl rfl rfl (by decide +kernel)
theorem w_c20 : (Cond.code y_11 jdk_42_method_56_code (2 : Nat) (Option.some FieldType.char)).before args0 about1 = true := code_word (m := ⟨7, 3⟩) (meth := k7m3) (c := k7c3) (by decide +kernel) rfl rfl rfl (by decide +kernel)
theorem w_c21 : (Cond.code y_6 jdk_42_method_154_code (1 : Nat) (Option.some FieldType.boolean)).before args0 about1 = true := code_word (m := ⟨7, 11⟩) (meth := k7m11) (c := k7c11) (by decide +kernel) rfl rfl rfl (by decide +kernel)
theorem w_c22 : (Cond.code y_10 jdk_43_method_2_code (2 : Nat) (Option.some FieldType.char)).before args0 about1 = true := code_word (m := ⟨13, 1⟩) (meth := k13m1) (c := k13c1) (by decide +kernel) rfl rfl rfl (by decide +kernel)
theorem w_c23 : (Cond.code y_9 jdk_42_method_155_code (2 : Nat) (Option.none : Option FieldType)).before args0 about1 = true := code_word (m := ⟨7, 12⟩) (meth := k7m12) (c := k7c12) (by decide +kernel) rfl rfl rfl (by decide +kernel)
theorem w_c24 : (Cond.code y_8 jdk_41_method_11_code (3 : Nat) (Option.some FieldType.int)).before args0 about1 = true := code_word (m := ⟨14, 1⟩) (meth := k14m1) (c := k14c1) (by decide +kernel) rfl rfl rfl (by decide +kernel)
theorem w_c25 : (Cond.code y_42 jdk_42_method_92_code (5 : Nat) (Option.some (FieldType.object "java/lang/String"))).before args0 about1 = true := code_word (m := ⟨7, 7⟩) (meth := k7m7) (c := k7c7) (by decide +kernel) rfl rfl rfl (by decide +kernel)
theorem w_c26 : (Cond.code y_41 jdk_42_method_158_code (3 : Nat) (Option.none : Option FieldType)).before args0 about1 = true := code_word (m := ⟨7, 13⟩) (meth := k7m13) (c := k7c13) (by decide +kernel) rfl rfl rfl (by decide +kernel)
theorem w_c27 : (Cond.code y_40 jdk_41_method_12_code (4 : Nat) (Option.some FieldType.int)).before args0 about1 = true := code_word (m := ⟨14, 2⟩) (meth := k14m2) (c := k14c2) (by decide +kernel) rfl rfl rfl (by decide +kernel)
theorem w_c28 : (Cond.code y_23 prog_2_method_1_code (4 : Nat) (Option.none : Option FieldType)).before args0 about1 = true := code_word (m := ⟨9, 0⟩) (meth := k9m0) (c := k9c0) (by decide +kernel) rfl rfl rfl (by decide +kernel)
theorem w_c29 : (Cond.code y_22 jdk_30_method_1_code (1 : Nat) (Option.none : Option FieldType)).before args0 about1 = true := code_word (m := ⟨8, 0⟩) (meth := k8m0) (c := k8c0) (by decide +kernel) rfl rfl rfl (by decide +kernel)
theorem w_c30 : (Cond.code y_29 jdk_32_method_3_code (1 : Nat) (Option.some (FieldType.object "java/util/Optional"))).before args0 about1 = true := code_word (m := ⟨10, 2⟩) (meth := k10m2) (c := k10c2) (by decide +kernel) rfl rfl rfl (by decide +kernel)
theorem w_c31 : (Cond.code y_27 jdk_31_method_10_code (1 : Nat) (Option.some (FieldType.object "java/lang/Object"))).before args0 about1 = true := code_word (m := ⟨15, 1⟩) (meth := k15m1) (c := k15c1) (by decide +kernel) rfl rfl rfl (by decide +kernel)
theorem w_c32 : (Cond.code y_28 jdk_32_method_2_code (2 : Nat) (Option.none : Option FieldType)).before args0 about1 = true := code_word (m := ⟨10, 1⟩) (meth := k10m1) (c := k10c1) (by decide +kernel) rfl rfl rfl (by decide +kernel)
theorem w_c33 : (Cond.code y_45 method_6_code (4 : Nat) (Option.some FieldType.int)).before args0 about1 = true := code_word (m := ⟨1, 5⟩) (meth := k1m5) (c := k1c5) (by decide +kernel) rfl rfl rfl (by decide +kernel)
theorem w_c34 : (Cond.code y_32 jdk_32_method_5_code (1 : Nat) (Option.some (FieldType.object "java/lang/Object"))).before args0 about1 = true := code_word (m := ⟨10, 3⟩) (meth := k10m3) (c := k10c3) (by decide +kernel) rfl rfl rfl (by decide +kernel)
theorem w_c35 : (Cond.code y_24 prog_2_method_10_code (1 : Nat) (Option.some FieldType.boolean)).before args0 about1 = true := code_word (m := ⟨9, 3⟩) (meth := k9m3) (c := k9c3) (by decide +kernel) rfl rfl rfl (by decide +kernel)
theorem w_c36 : (Cond.code y_25 prog_2_method_11_code (1 : Nat) (Option.some (FieldType.object "java/lang/String"))).before args0 about1 = true := code_word (m := ⟨9, 4⟩) (meth := k9m4) (c := k9c4) (by decide +kernel) rfl rfl rfl (by decide +kernel)
theorem w_c37 : (Cond.code y_46 method_7_code (3 : Nat) (Option.some FieldType.boolean)).before args0 about1 = true := code_word (m := ⟨1, 6⟩) (meth := k1m6) (c := k1c6) (by decide +kernel) rfl rfl rfl (by decide +kernel)
theorem w_c38 : (Cond.code y_26 prog_2_method_12_code (1 : Nat) (Option.some (FieldType.object "java/lang/String"))).before args0 about1 = true := code_word (m := ⟨9, 5⟩) (meth := k9m5) (c := k9c5) (by decide +kernel) rfl rfl rfl (by decide +kernel)
theorem w_c39 : (Cond.code y_18 jdk_42_method_80_code (3 : Nat) (Option.some FieldType.int)).before args0 about1 = true := code_word (m := ⟨7, 6⟩) (meth := k7m6) (c := k7c6) (by decide +kernel) rfl rfl rfl (by decide +kernel)
theorem w_c40 : (Cond.code y_17 jdk_43_method_22_code (4 : Nat) (Option.some FieldType.int)).before args0 about1 = true := code_word (m := ⟨13, 3⟩) (meth := k13m3) (c := k13c3) (by decide +kernel) rfl rfl rfl (by decide +kernel)
theorem w_c41 : (Cond.code y_15 jdk_43_method_4_code (1 : Nat) (Option.some FieldType.boolean)).before args0 about1 = true := code_word (m := ⟨13, 2⟩) (meth := k13m2) (c := k13c2) (by decide +kernel) rfl rfl rfl (by decide +kernel)
theorem w_c42 : (Cond.code y_14 jdk_29_method_65_code (2 : Nat) (Option.some FieldType.int)).before args0 about1 = true := code_word (m := ⟨16, 1⟩) (meth := k16m1) (c := k16c1) (by decide +kernel) rfl rfl rfl (by decide +kernel)
theorem w_c43 : (Cond.code y_13 jdk_29_method_69_code (2 : Nat) (Option.some FieldType.int)).before args0 about1 = true := code_word (m := ⟨16, 2⟩) (meth := k16m2) (c := k16c2) (by decide +kernel) rfl rfl rfl (by decide +kernel)
theorem w_c44 : (Cond.code y_16 jdk_43_method_23_code (6 : Nat) (Option.some FieldType.int)).before args0 about1 = true := code_word (m := ⟨13, 4⟩) (meth := k13m4) (c := k13c4) (by decide +kernel) rfl rfl rfl (by decide +kernel)
theorem w_c45 : (Cond.code y_39 jdk_43_method_47_code (3 : Nat) (Option.some (FieldType.object "java/lang/String"))).before args0 about1 = true := code_word (m := ⟨13, 5⟩) (meth := k13m5) (c := k13c5) (by decide +kernel) rfl rfl rfl (by decide +kernel)
theorem w_c46 : (Cond.code y_37 jdk_65_method_132_code (3 : Nat) (Option.some (FieldType.array FieldType.byte))).before args0 about1 = true := code_word (m := ⟨17, 2⟩) (meth := k17m2) (c := k17c2) (by decide +kernel) rfl rfl rfl (by decide +kernel)
theorem w_c47 : (Cond.code y_36 jdk_65_method_133_code (5 : Nat) (Option.some (FieldType.array FieldType.byte))).before args0 about1 = true := code_word (m := ⟨17, 3⟩) (meth := k17m3) (c := k17c3) (by decide +kernel) rfl rfl rfl (by decide +kernel)
theorem w_c48 : (Cond.code y_35 jdk_65_method_131_code (2 : Nat) (Option.none : Option FieldType)).before args0 about1 = true := code_word (m := ⟨17, 1⟩) (meth := k17m1) (c := k17c1) (by decide +kernel) rfl rfl rfl (by decide +kernel)
theorem w_c49 : (Cond.code y_38 jdk_42_method_151_code (3 : Nat) (Option.none : Option FieldType)).before args0 about1 = true := code_word (m := ⟨7, 9⟩) (meth := k7m9) (c := k7c9) (by decide +kernel) rfl rfl rfl (by decide +kernel)
def codes1 : List Jvm.Cond := [Cond.code x code maxLocals ret, Cond.code y_33 method_2_code (2 : Nat) (Option.some FieldType.char), Cond.code y_44 method_3_code (2 : Nat) (Option.some (FieldType.object "java/lang/String")), Cond.code y_4 jdk_42_method_3_code (2 : Nat) (Option.none : Option FieldType), Cond.code y_3 jdk_42_method_149_code (6 : Nat) (Option.none : Option FieldType), Cond.code (⟨"java/lang/Object", "<init>", "()V"⟩ : MethodName) object_method_1_code (1 : Nat) (Option.none : Option FieldType), Cond.code y_47 prog_2_method_2_code (9 : Nat) (Option.some (FieldType.object "java/util/Optional")), Cond.code y_21 jdk_42_method_76_code (2 : Nat) (Option.some FieldType.boolean), Cond.code y_20 jdk_42_method_75_code (8 : Nat) (Option.some FieldType.boolean), Cond.code y_7 jdk_42_method_54_code (1 : Nat) (Option.some FieldType.int), Cond.code y_5 jdk_42_method_152_code (1 : Nat) (Option.some FieldType.byte), Cond.code y_30 jdk_32_method_1_code (1 : Nat) (Option.some (FieldType.object "java/util/Optional")), Cond.code y_43 method_4_code (5 : Nat) (Option.some FieldType.int), Cond.code y_34 method_5_code (5 : Nat) (Option.some FieldType.int), Cond.code y_31 jdk_32_method_6_code (1 : Nat) (Option.some FieldType.boolean), Cond.code y_1 jdk_52_method_16_code (6 : Nat) (Option.some (FieldType.array FieldType.byte)), Cond.code y_0 jdk_52_method_21_code (7 : Nat) (Option.some FieldType.int), Cond.code y_2 jdk_52_method_15_code (2 : Nat) (Option.some FieldType.byte), Cond.code y_19 jdk_48_method_14_code (8 : Nat) (Option.some FieldType.int), Cond.code y_12 prog_2_method_3_code (5 : Nat) (Option.some FieldType.boolean), Cond.code y_11 jdk_42_method_56_code (2 : Nat) (Option.some FieldType.char), Cond.code y_6 jdk_42_method_154_code (1 : Nat) (Option.some FieldType.boolean), Cond.code y_10 jdk_43_method_2_code (2 : Nat) (Option.some FieldType.char), Cond.code y_9 jdk_42_method_155_code (2 : Nat) (Option.none : Option FieldType), Cond.code y_8 jdk_41_method_11_code (3 : Nat) (Option.some FieldType.int), Cond.code y_42 jdk_42_method_92_code (5 : Nat) (Option.some (FieldType.object "java/lang/String")), Cond.code y_41 jdk_42_method_158_code (3 : Nat) (Option.none : Option FieldType), Cond.code y_40 jdk_41_method_12_code (4 : Nat) (Option.some FieldType.int), Cond.code y_23 prog_2_method_1_code (4 : Nat) (Option.none : Option FieldType), Cond.code y_22 jdk_30_method_1_code (1 : Nat) (Option.none : Option FieldType), Cond.code y_29 jdk_32_method_3_code (1 : Nat) (Option.some (FieldType.object "java/util/Optional")), Cond.code y_27 jdk_31_method_10_code (1 : Nat) (Option.some (FieldType.object "java/lang/Object")), Cond.code y_28 jdk_32_method_2_code (2 : Nat) (Option.none : Option FieldType), Cond.code y_45 method_6_code (4 : Nat) (Option.some FieldType.int), Cond.code y_32 jdk_32_method_5_code (1 : Nat) (Option.some (FieldType.object "java/lang/Object")), Cond.code y_24 prog_2_method_10_code (1 : Nat) (Option.some FieldType.boolean), Cond.code y_25 prog_2_method_11_code (1 : Nat) (Option.some (FieldType.object "java/lang/String")), Cond.code y_46 method_7_code (3 : Nat) (Option.some FieldType.boolean), Cond.code y_26 prog_2_method_12_code (1 : Nat) (Option.some (FieldType.object "java/lang/String")), Cond.code y_18 jdk_42_method_80_code (3 : Nat) (Option.some FieldType.int), Cond.code y_17 jdk_43_method_22_code (4 : Nat) (Option.some FieldType.int), Cond.code y_15 jdk_43_method_4_code (1 : Nat) (Option.some FieldType.boolean), Cond.code y_14 jdk_29_method_65_code (2 : Nat) (Option.some FieldType.int), Cond.code y_13 jdk_29_method_69_code (2 : Nat) (Option.some FieldType.int), Cond.code y_16 jdk_43_method_23_code (6 : Nat) (Option.some FieldType.int), Cond.code y_39 jdk_43_method_47_code (3 : Nat) (Option.some (FieldType.object "java/lang/String")), Cond.code y_37 jdk_65_method_132_code (3 : Nat) (Option.some (FieldType.array FieldType.byte)), Cond.code y_36 jdk_65_method_133_code (5 : Nat) (Option.some (FieldType.array FieldType.byte)), Cond.code y_35 jdk_65_method_131_code (2 : Nat) (Option.none : Option FieldType), Cond.code y_38 jdk_42_method_151_code (3 : Nat) (Option.none : Option FieldType)]
theorem codes_eq : words1.filter isCode = codes1 := rfl
theorem w_codes : ∀ c ∈ words1.filter isCode, c.before args0 about1 = true := by
  rw [codes_eq]
  intro c hc
  simp only [codes1, List.mem_cons, List.not_mem_nil, or_false] at hc
  rcases hc with rfl | rfl | rfl | rfl | rfl | rfl | rfl | rfl | rfl | rfl | rfl | rfl | rfl | rfl | rfl | rfl | rfl | rfl | rfl | rfl | rfl | rfl | rfl | rfl | rfl | rfl | rfl | rfl | rfl | rfl | rfl | rfl | rfl | rfl | rfl | rfl | rfl | rfl | rfl | rfl | rfl | rfl | rfl | rfl | rfl | rfl | rfl | rfl | rfl | rfl
  · exact w_c0
  · exact w_c1
  · exact w_c2
  · exact w_c3
  · exact w_c4
  · exact w_c5
  · exact w_c6
  · exact w_c7
  · exact w_c8
  · exact w_c9
  · exact w_c10
  · exact w_c11
  · exact w_c12
  · exact w_c13
  · exact w_c14
  · exact w_c15
  · exact w_c16
  · exact w_c17
  · exact w_c18
  · exact w_c19
  · exact w_c20
  · exact w_c21
  · exact w_c22
  · exact w_c23
  · exact w_c24
  · exact w_c25
  · exact w_c26
  · exact w_c27
  · exact w_c28
  · exact w_c29
  · exact w_c30
  · exact w_c31
  · exact w_c32
  · exact w_c33
  · exact w_c34
  · exact w_c35
  · exact w_c36
  · exact w_c37
  · exact w_c38
  · exact w_c39
  · exact w_c40
  · exact w_c41
  · exact w_c42
  · exact w_c43
  · exact w_c44
  · exact w_c45
  · exact w_c46
  · exact w_c47
  · exact w_c48
  · exact w_c49
theorem w_t1 : (words1.take 24).all (fun c => isCode c || c.before args0 about1) = true := by decide +kernel
theorem w_t2 : ((words1.drop 24).take 24).all (fun c => isCode c || c.before args0 about1) = true := by decide +kernel
theorem w_t3 : (((words1.drop 24).drop 24).take 24).all (fun c => isCode c || c.before args0 about1) = true := by decide +kernel
theorem w_t4 : ((((words1.drop 24).drop 24).drop 24).take 24).all (fun c => isCode c || c.before args0 about1) = true := by decide +kernel
theorem w_t5 : (((((words1.drop 24).drop 24).drop 24).drop 24).take 24).all (fun c => isCode c || c.before args0 about1) = true := by decide +kernel
theorem w_t6 : ((((((words1.drop 24).drop 24).drop 24).drop 24).drop 24).take 24).all (fun c => isCode c || c.before args0 about1) = true := by decide +kernel
theorem w_t7 : (((((((words1.drop 24).drop 24).drop 24).drop 24).drop 24).drop 24).take 24).all (fun c => isCode c || c.before args0 about1) = true := by decide +kernel
theorem w_t8 : ((((((((words1.drop 24).drop 24).drop 24).drop 24).drop 24).drop 24).drop 24).take 24).all (fun c => isCode c || c.before args0 about1) = true := by decide +kernel
theorem w_t9 : (((((((((words1.drop 24).drop 24).drop 24).drop 24).drop 24).drop 24).drop 24).drop 24).take 24).all (fun c => isCode c || c.before args0 about1) = true := by decide +kernel
theorem w_t10 : (((((((((words1.drop 24).drop 24).drop 24).drop 24).drop 24).drop 24).drop 24).drop 24).drop 24).all (fun c => isCode c || c.before args0 about1) = true := by decide +kernel
theorem w_tables : (allAtoms (Cond.code x code maxLocals ret :: tables_1)).before args0 about1 = true := by
  rw [allAtoms_all]
  show words1.all (fun c => c.before args0 about1) = true
  refine all_split ?_ w_codes
  rw [← List.take_append_drop 24 words1, List.all_append, w_t1, ← List.take_append_drop 24 (words1.drop 24), List.all_append, w_t2, ← List.take_append_drop 24 ((words1.drop 24).drop 24), List.all_append, w_t3, ← List.take_append_drop 24 (((words1.drop 24).drop 24).drop 24), List.all_append, w_t4, ← List.take_append_drop 24 ((((words1.drop 24).drop 24).drop 24).drop 24), List.all_append, w_t5, ← List.take_append_drop 24 (((((words1.drop 24).drop 24).drop 24).drop 24).drop 24), List.all_append, w_t6, ← List.take_append_drop 24 ((((((words1.drop 24).drop 24).drop 24).drop 24).drop 24).drop 24), List.all_append, w_t7, ← List.take_append_drop 24 (((((((words1.drop 24).drop 24).drop 24).drop 24).drop 24).drop 24).drop 24), List.all_append, w_t8, ← List.take_append_drop 24 ((((((((words1.drop 24).drop 24).drop 24).drop 24).drop 24).drop 24).drop 24).drop 24), List.all_append, w_t9, w_t10]
  rfl
theorem w_rest : rest_1_c.before args0 about1 = true := by decide +kernel
theorem w_case : (Cond.and given_1 narrow_1).before args0 about1 = true := by decide +kernel
theorem w_consts : constsHeld consts_1 about1 := Jvm.Lit.constsHeldB_iff.mp (by decide +kernel)
theorem w_applies : (headSpec (Cond.code x code maxLocals ret :: tables_1) room_1).applies x e0.platform about1 = true :=
  (Spec.applies_iff w_frames).mpr ⟨w_running, w_runnable, w_alone, w_named, w_hears, w_ripe, w_room, w_tables⟩
theorem atStart : AtStart classFile x code maxLocals ret World_1 tables_1 room_1 Calls_1 rest_1 Pre_1 launch0 p0 e0 about1 theMethod args0 below0 :=
  ⟨lists_1, trivial, launch0.admits_env _ _ _, launch0.least_env, fairChoices_fair.cas, fairChoices_fair.clock, w_frames, w_args, w_heap, w_applies, ⟨w_consts, trivial⟩, w_rest, w_case⟩
end start1
theorem witness_1 : WitnessClaimed_1 := ⟨start1.p0, start1.e0, start1.about1, start1.theMethod, start1.args0, start1.below0, start1.atStart⟩
end Jvm.Pilot.@@N@@
