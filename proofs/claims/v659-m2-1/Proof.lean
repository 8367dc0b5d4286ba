import JvmDerived
import JvmDerived.Pilot.@@N@@Statement
import JvmDerived.Pilot.@@N@@Code
set_option linter.unusedVariables false
set_option linter.unusedSimpArgs false
namespace Jvm.Pilot.@@N@@
open Jvm Jvm.ClassFile Sem Op Lib Jvm.Free Jvm.Stand Jvm.LawKit Jvm.RoadKit Bundle Jvm.Pilot.@@N@@.Jvm.D

def Go (tb : Tables) (e : Env) (below : List Frame) (a : State) (P : Outcome → State → Prop) : Prop := ∃ s₂ o, Steps tb e below a s₂ ∧ s₂.status = .running ∧ Ended s₂ below o ∧ P o s₂
theorem Go.st {tb : Tables} {e : Env} {below : List Frame} {a b : State} {P : Outcome → State → Prop} (h : ∀ t, Steps tb e below b t → Steps tb e below a t) (k : Go tb e below b P) : Go tb e below a P := by
  obtain ⟨s, o, h1, h2⟩ := k
  exact ⟨s, o, h _ h1, h2⟩
theorem Go.tr {tb : Tables} {e : Env} {below : List Frame} {a b : State} {P : Outcome → State → Prop} (h : Steps tb e below a b) (k : Go tb e below b P) : Go tb e below a P := Go.st (fun _ q => h.trans q) k
theorem Go.fr {tb : Tables} {e : Env} {below : List Frame} {T : State} {g g' : JFrame} {P : Outcome → State → Prop} (q : g = g') (k : Go tb e below (T.setTop g') P) : Go tb e below (T.setTop g) P := q ▸ k
theorem Go.fin {tb : Tables} {e : Env} {below : List Frame} {a s₂ : State} {o : Outcome} {P : Outcome → State → Prop} (hs : Steps tb e below a s₂) (hr : s₂.status = .running) (he : Ended s₂ below o) (hP : P o s₂) : Go tb e below a P := ⟨_, _, hs, hr, he, hP⟩
theorem exa_ns {Z : State} {h : Heap} {a : Addr} {C : String} (F : Exa Z h a C) : ∃ c : Cell, h[a]? = some c ∧ c.vm.isStatics = false := by
  obtain ⟨c, _, h1, -, -, h4, -⟩ := F
  exact ⟨c, h1, h4⟩
theorem fld_ns {Z : State} {h : Heap} {a : Addr} {C n d : String} {v : Value} (F : Fld Z h a C n d v) : ∃ c : Cell, h[a]? = some c ∧ c.vm.isStatics = false := by
  obtain ⟨c, _, _, _, _, h1, -, -, -, h4, -⟩ := F
  exact ⟨c, h1, h4⟩
theorem arv_ns {Z : State} {h : Heap} {a : Addr} {k : ClassId} {ty : FieldType} {n : Int32} {vs : List Value} {d : Value} (F : Arv Z h a k ty n vs d) : ∃ c : Cell, h[a]? = some c ∧ c.vm.isStatics = false := by
  obtain ⟨c, A, -⟩ := F
  exact ⟨c, A.1, A.plain⟩
theorem sta_keep {Z : State} {h h' : Heap} {C n d : String} {v : Value} {ws : List Addr} (F : Sta Z h C n d v) (K : Keep h h' ws) (q : ∀ x ∈ ws, ∃ c : Cell, h[x]? = some c ∧ c.vm.isStatics = false) : Sta Z h' C n d v := by
  obtain ⟨cf, i, k, f, st, cell, h1, h2, h3, h4, h5, h6, h7⟩ := F
  refine ⟨cf, i, k, f, st, cell, h1, h2, h3, h4, K.2.1 st cell h5 fun z => ?_, h6, h7⟩
  obtain ⟨c, q1, q2⟩ := q st z
  cases q1.symm.trans h5
  rw [q2] at h6
  cases h6
theorem own_mvM {Z s : State} {a0 args : Array Value} {own host : String} {index : Nat} {y : MethodName} (hZ : Z.Warmed39 s.vm) (w : (Cond.methodLinkNest own index y host).before a0 Z = true) : (Cond.methodLinkNest own index y host).before args s = true := by
  have h1 := (Cond.methodLinkNest_wide hZ w :)
  exact h1
theorem own_selp {s : State} {args : Array Value} {y : MethodName} {n : Nat} (wi : (Cond.instantiable y.cls n).before args s = true) (hp : s.PrivateAt y) (hi : (Cond.instanceMethod y).before args s = true) (hy : y.cls ≠ "java/lang/invoke/MethodHandle" ∧ y.cls ≠ "java/lang/invoke/VarHandle") : (Cond.selects y.cls y y).before args s = true := by
  obtain ⟨c, k, h1, h2, -, h4, -⟩ := Cond.instantiable_spec wi
  simp only [Bool.or_eq_false_iff] at h4
  exact selects_self_of_private h1 h2 h4.1 hp hi hy
theorem own_ne32 {x k : Int32} {a : Int} (ha : k.toInt = a) (h : ¬ x = k) : a ≠ x.toInt := fun e => h (Int32.toInt_inj.mp (e.symm.trans ha.symm))
theorem own_nn (x : Int32) : 0 ≤ (x &&& (2147483647 : Int32)).toInt := (c_andS x 2147483647).2.2 (by decide)
theorem own_rem (x : Int32) (k : Int32) (d : Int) (hd : k.toInt = d) (h0 : 0 < d) : 0 ≤ ((x &&& (2147483647 : Int32)) % k).toInt ∧ ((x &&& (2147483647 : Int32)) % k).toInt < d := by
  have h := own_nn x
  rw [Int32.toInt_mod, hd]
  exact ⟨Int.tmod_nonneg _ h, Int.tmod_lt_of_pos _ h0⟩
theorem own_remb (x : Int32) (k : Int32) (d : Int) (hd : k.toInt = d) (h0 : 0 < d) : ¬ ((x &&& (2147483647 : Int32)) % k) < 0 ∧ ((x &&& (2147483647 : Int32)) % k) < k := by
  obtain ⟨h1, h2⟩ := own_rem x k d hd h0
  rw [Int32.lt_iff_toInt_lt, Int32.lt_iff_toInt_lt, hd]
  exact ⟨Int.not_lt.mpr h1, h2⟩
def own_at (xs : List Int32) (j : Int32) : Int32 := xs.getD j.toNatClampNeg 0
theorem own_atv (xs : List Int32) (j : Int32) : (xs.map Value.int).getD j.toNatClampNeg (.int 0) = .int (own_at xs j) := by
  unfold own_at
  generalize j.toNatClampNeg = n
  induction xs generalizing n with
  | nil => rfl
  | cons a r ih => cases n with
    | zero => rfl
    | succ n => simpa using ih n
theorem own_setl {l : List Value} {k n : Nat} {v : Value} (h : l.length = n) : (l.set k v).length = n := by rw [List.length_set]; exact h
theorem own_setg {l : List Value} {k : Nat} {v d : Value} (h : k < l.length) : (l.set k v).getD k d = v := by simp [List.getD, List.getElem?_set, h]
theorem own_setn {l : List Value} {k i : Nat} {v d : Value} (h : i ≠ k) : (l.set k v).getD i d = l.getD i d := by simp [List.getD, List.getElem?_set, Ne.symm h]
theorem own_lt_of {l : List Value} {n : Nat} {j z : Int32} (h : l.length = n) (q : ¬ j < 0 ∧ j < z) (hz : z.toNatClampNeg = n := by decide) : j.toNatClampNeg < l.length := by
  rw [h, ← hz]
  obtain ⟨q1, q2⟩ := q
  rw [Int32.lt_iff_toInt_lt] at q1 q2
  have : (0 : Int32).toInt = 0 := rfl
  simp only [Int32.toNatClampNeg]
  omega
theorem own_eqi {args : Array Value} {s : State} {t : Term} {k : Int32} (h : (Jvm.Cond.eq t (.int k)).value args s none s [] = some true) : t.eval args s none [] s = some (.int k) := by
  simp only [Cond.value, Term.eval] at h
  cases ht : t.eval args s none [] s with
  | none => simp [ht] at h
  | some x => cases x <;> simp_all
set_option maxRecDepth 65536
set_option maxHeartbeats 16000000
abbrev Pr (Z : State) (h0 : Heap) (A : Array Value) : Array Value → State → Prop := fun a U => a = A ∧ Z.Warmed39 U.vm ∧ U.heap = h0
abbrev Tr : Program → Env → List Frame → State → Array Value → Prop := fun _ _ _ _ _ => True
def HW (a0 : Array Value) (Z : State) : Prop := ∀ d ∈ tables_1, d.before a0 Z = true
theorem mw {Z : State} {a0 : Array Value} (hw : HW a0 Z) (i : Nat) {d : Jvm.Cond} (h : tables_1[i]? = some d) : d.before a0 Z = true := hw _ (List.mem_of_getElem? h)
theorem G {tb : Tables} {e : Env} {below : List Frame} {a b : State} {P : Outcome → State → Prop} (h : ∀ t, Steps tb e below b t → Steps tb e below a t) (k : Go tb e below b P) : Go tb e below a P := Go.st h k
abbrev us : Slot := .unset
abbrev vi (x : Int32) : Slot := .val (.int x)
abbrev vj (x : Int64) : Slot := .val (.long x)
abbrev vr (x : Addr) : Slot := .val (.ref x)
abbrev Rm (a b c d : Nat) : Room := { frames := a, cells := b, slots := c, locals := d }
abbrev TC : String := "com/example/tripletype/tripletype/TripleTable"
abbrev cB1 : ByteArray := prog_9_method_1_code
abbrev cB2 : ByteArray := object_method_1_code
abbrev cB3 : ByteArray := prog_9_method_2_code
abbrev cB4 : ByteArray := prog_9_method_8_code
abbrev cB5 : ByteArray := prog_9_method_3_code
abbrev cB6 : ByteArray := prog_9_method_4_code
abbrev cB7 : ByteArray := prog_9_method_5_code
abbrev cB8 : ByteArray := prog_9_method_6_code
theorem d4_0 : decode cB4 0 = .ok (.iload_n 0, 1) := by decide +kernel
theorem d4_1 : decode cB4 1 = .ok (.i2l, 1) := by decide +kernel
theorem d4_2 : decode cB4 2 = .ok (.ldc2_w 44, 3) := by decide +kernel
theorem wd22 {Z a0} (hw : HW a0 Z) : (Jvm.Cond.constantLong TC (44 : Nat) (-7046029254386353131 : Int64)).before a0 Z = true := mw hw 22 rfl
theorem d4_5 : decode cB4 5 = .ok (.lmul, 1) := by decide +kernel
theorem d4_6 : decode cB4 6 = .ok (.iload_n 1, 1) := by decide +kernel
theorem d4_7 : decode cB4 7 = .ok (.i2l, 1) := by decide +kernel
theorem d4_8 : decode cB4 8 = .ok (.ladd, 1) := by decide +kernel
theorem d4_9 : decode cB4 9 = .ok (.ldc2_w 46, 3) := by decide +kernel
theorem wd23 {Z a0} (hw : HW a0 Z) : (Jvm.Cond.constantLong TC (46 : Nat) (-4417276706812531889 : Int64)).before a0 Z = true := mw hw 23 rfl
theorem d4_12 : decode cB4 12 = .ok (.lmul, 1) := by decide +kernel
theorem d4_13 : decode cB4 13 = .ok (.iload_n 2, 1) := by decide +kernel
theorem d4_14 : decode cB4 14 = .ok (.i2l, 1) := by decide +kernel
theorem d4_15 : decode cB4 15 = .ok (.ladd, 1) := by decide +kernel
theorem d4_16 : decode cB4 16 = .ok (.lstore_n 3, 1) := by decide +kernel
def t4_0 (p1 : Int32) (p2 : Int32) (p3 : Int32) : Int64 := (((((p1.toInt64) * (-7046029254386353131 : Int64)) + (p2.toInt64)) * (-4417276706812531889 : Int64)) + (p3.toInt64))
theorem d4_17 : decode cB4 17 = .ok (.lload_n 3, 1) := by decide +kernel
theorem d4_18 : decode cB4 18 = .ok (.ldc2_w 48, 3) := by decide +kernel
theorem wd24 {Z a0} (hw : HW a0 Z) : (Jvm.Cond.constantLong TC (48 : Nat) (1609587929392839161 : Int64)).before a0 Z = true := mw hw 24 rfl
theorem d4_21 : decode cB4 21 = .ok (.lmul, 1) := by decide +kernel
theorem d4_22 : decode cB4 22 = .ok (.lstore_n 3, 1) := by decide +kernel
theorem d4_23 : decode cB4 23 = .ok (.lload_n 3, 1) := by decide +kernel
theorem d4_24 : decode cB4 24 = .ok (.lload_n 3, 1) := by decide +kernel
theorem d4_25 : decode cB4 25 = .ok (.bipush 32, 2) := by decide +kernel
theorem d4_27 : decode cB4 27 = .ok (.lushr, 1) := by decide +kernel
theorem d4_28 : decode cB4 28 = .ok (.lxor, 1) := by decide +kernel
theorem d4_29 : decode cB4 29 = .ok (.l2i, 1) := by decide +kernel
theorem d4_30 : decode cB4 30 = .ok (.ireturn, 1) := by decide +kernel
theorem pn0 : plainName TC = true := by first | (simp [plainName, overriddenIn]; done) | decide +kernel
def f4 (p1 : Int32) (p2 : Int32) (p3 : Int32) : Int32 := ((((t4_0 p1 p2 p3) * (1609587929392839161 : Int64)) ^^^ ((((t4_0 p1 p2 p3) * (1609587929392839161 : Int64)).toUInt64 >>> ((32 : Int32) &&& 0x3f).toInt64.toUInt64).toInt64)).toInt32)
def Q4 (Z : State) (p1 : Int32) (p2 : Int32) (p3 : Int32) (h0 : Heap) (n0 : Nat) (v : Option Value) (h : Heap) (L : List Loc) : Prop := v = some (.int (f4 p1 p2 p3)) ∧ Fr n0 L ∧ h = h0
theorem ef4 (m : MethodId) (x0 : Int32) (x1 : Int32) (x2 : Int32) : entryFrame m #[(.int x0), (.int x1), (.int x2)] 5 = mkF m 0 #[.val (.int x0), .val (.int x1), .val (.int x2), .unset, .unset] [] := by first | (simp [entryFrame, mkF, argsToLocals, Value.category]; done) | rfl
theorem rm4 (l : Launch) (Z : State) (a0 : Array Value) (hw : HW a0 Z) (ws : List Jvm.Cond) (p1 : Int32) (p2 : Int32) (p3 : Int32) (h0 : Heap) (n0 : Nat) (Z0 : n0 ≤ h0.size) :
  MetFree l (⟨TC, "hash", "(III)I"⟩ : MethodName) (head1 (Jvm.Cond.code (⟨TC, "hash", "(III)I"⟩ : MethodName) cB4 5 (some .int) :: ws) (Rm 0 0 0 0)) (Pr Z h0 #[(.int p1), (.int p2), (.int p3)]) Tr (fun _ U o U' => ∃ v L, o = .returned v ∧ Q4 Z p1 p2 p3 h0 n0 v U'.heap L ∧ FrameEnd U o U' L (Rm 0 0 0 0).cells (Rm 0 0 0 0).slots) := by
 refine MetFree.of_bodySF (plainFor_of_name pn0) hisR ?_
 intro p e s m args below meth c s₁ Bd hml0 hP hK
 obtain ⟨rfl, hZ, hh⟩ := hP
 have hx := Bd.exec
 have hby := Bd.bytes
 have hml : c.maxLocals = 5 := hml0
 have hown : s.vm.findClass TC = some m.cls := findClass_of_methodNamed Bd.named
 have hnm := (name_of_methodNamed Bd.named Bd.method).1
 have X0 : Stand p l e (Rm 0 0 0 0) s m #[(.int p1), (.int p2), (.int p3)] below meth c s₁ [] 0 0 := Stand.of_body Bd
 have e0 : s₁.heap = h0 := by rw [← hh, Bd.state]; rfl
 have N0 := Fr.nil n0
 have K0 : Keep h0 h0 [] := Keep.refl h0 _
 refine G (P := fun o U' => ∃ v L, o = .returned v ∧ Q4 Z p1 p2 p3 h0 n0 v U'.heap L ∧ FrameEnd s o U' L (Rm 0 0 0 0).cells (Rm 0 0 0 0).slots) (fun t k => castTop (ef4 m p1 p2 p3) k) ?_
 show Go _ _ _ (s₁.setTop (mkF m 0 #[vi p1, vi p2, vi p3, us, us] [])) _
 refine G (fun t k => XS.iloadN X0.here hx rfl (hb hby d4_0) rfl (XS.i2l X0.here hx rfl (hb hby d4_1) rfl (X0.ldc2Long hx hown (mvT hZ (wd22 hw)) (g := (mkF m 2 #[vi p1, vi p2, vi p3, us, us] [(.long (p1.toInt64))])) rfl (hb hby d4_2) _ (XS.lmul X0.here hx rfl (hb hby d4_5) rfl (XS.iloadN X0.here hx rfl (hb hby d4_6) rfl (XS.i2l X0.here hx rfl (hb hby d4_7) rfl k)))))) ?_
 refine G (fun t k => XS.ladd X0.here hx rfl (hb hby d4_8) rfl k) ?_
 show Go _ _ _ (s₁.setTop (mkF m 9 #[vi p1, vi p2, vi p3, us, us] [(.long (((p1.toInt64) * (-7046029254386353131 : Int64)) + (p2.toInt64)))])) _
 refine G (fun t k => X0.ldc2Long hx hown (mvT hZ (wd23 hw)) (g := (mkF m 9 #[vi p1, vi p2, vi p3, us, us] [(.long (((p1.toInt64) * (-7046029254386353131 : Int64)) + (p2.toInt64)))])) rfl (hb hby d4_9) _ (XS.lmul X0.here hx rfl (hb hby d4_12) rfl (XS.iloadN X0.here hx rfl (hb hby d4_13) rfl (XS.i2l X0.here hx rfl (hb hby d4_14) rfl (XS.ladd X0.here hx rfl (hb hby d4_15) rfl (XS.lstoreN X0.here hx rfl (hb hby d4_16) rfl (l' := #[vi p1, vi p2, vi p3, vj (t4_0 p1 p2 p3), .second]) rfl k)))))) ?_
 refine G (fun t k => XS.lloadN X0.here hx rfl (hb hby d4_17) rfl k) ?_
 show Go _ _ _ (s₁.setTop (mkF m 18 #[vi p1, vi p2, vi p3, vj (t4_0 p1 p2 p3), .second] [(.long (t4_0 p1 p2 p3))])) _
 refine G (fun t k => X0.ldc2Long hx hown (mvT hZ (wd24 hw)) (g := (mkF m 18 #[vi p1, vi p2, vi p3, vj (t4_0 p1 p2 p3), .second] [(.long (t4_0 p1 p2 p3))])) rfl (hb hby d4_18) _ (XS.lmul X0.here hx rfl (hb hby d4_21) rfl (XS.lstoreN X0.here hx rfl (hb hby d4_22) rfl (l' := #[vi p1, vi p2, vi p3, vj ((t4_0 p1 p2 p3) * (1609587929392839161 : Int64)), .second]) rfl (XS.lloadN X0.here hx rfl (hb hby d4_23) rfl (XS.lloadN X0.here hx rfl (hb hby d4_24) rfl (XS.bipush X0.here hx rfl (hb hby d4_25) k)))))) ?_
 refine G (fun t k => XS.lushr X0.here hx rfl (hb hby d4_27) rfl k) ?_
 show Go _ _ _ (s₁.setTop (mkF m 28 #[vi p1, vi p2, vi p3, vj ((t4_0 p1 p2 p3) * (1609587929392839161 : Int64)), .second] [(.long ((((t4_0 p1 p2 p3) * (1609587929392839161 : Int64)).toUInt64 >>> ((32 : Int32) &&& 0x3f).toInt64.toUInt64).toInt64)), (.long ((t4_0 p1 p2 p3) * (1609587929392839161 : Int64)))])) _
 refine G (fun t k => XS.lxor X0.here hx rfl (hb hby d4_28) rfl (XS.l2i X0.here hx rfl (hb hby d4_29) rfl k)) ?_
 obtain ⟨fs, hr, hrun, hended, hW, hsame⟩ := X0.leave (v := some (.int ((((t4_0 p1 p2 p3) * (1609587929392839161 : Int64)) ^^^ ((((t4_0 p1 p2 p3) * (1609587929392839161 : Int64)).toUInt64 >>> ((32 : Int32) &&& 0x3f).toInt64.toUInt64).toInt64)).toInt32))) (fun h => by rw [Bd.returns] at h; cases h)
 refine Go.fin (retOut X0 hx Bd.returns rfl (Or.inl ⟨rfl, Or.inl rfl, _, rfl⟩) (hb hby d4_30) hr) hrun hended ⟨_, _, rfl, ?_, ⟨_, rfl⟩, hW, hsame.mono (by decide) (by decide)⟩
 show Q4 Z p1 p2 p3 h0 n0 _ s₁.heap _
 rw [e0]
 exact ⟨rfl, N0, rfl⟩
theorem d1_0 : decode cB1 0 = .ok (.aload_n 0, 1) := by decide +kernel
theorem d1_1 : decode cB1 1 = .ok (.invokespecial 1, 3) := by decide +kernel
theorem wd7 {Z a0} (hw : HW a0 Z) : (Jvm.Cond.methodLink TC (1 : Nat) ⟨"java/lang/Object", "<init>", "()V"⟩).before a0 Z = true := mw hw 7 rfl
theorem wd9 {Z a0} (hw : HW a0 Z) : (Jvm.Cond.code ⟨"java/lang/Object", "<init>", "()V"⟩ cB2 (1 : Nat) (Option.none : Option Jvm.ClassFile.FieldType)).before a0 Z = true := mw hw 9 rfl
theorem wd8 {Z a0} (hw : HW a0 Z) : (Jvm.Cond.instanceMethod ⟨"java/lang/Object", "<init>", "()V"⟩).before a0 Z = true := mw hw 8 rfl
theorem d1_4 : decode cB1 4 = .ok (.aload_n 0, 1) := by decide +kernel
theorem d1_5 : decode cB1 5 = .ok (.sipush 192, 3) := by decide +kernel
theorem d1_8 : decode cB1 8 = .ok (.newarray .int, 2) := by decide +kernel
theorem wd0 {Z a0} (hw : HW a0 Z) : (Jvm.Cond.arrayClass Jvm.ClassFile.FieldType.int).before a0 Z = true := mw hw 0 rfl
theorem d1_10 : decode cB1 10 = .ok (.putfield 7, 3) := by decide +kernel
theorem wd10 {Z a0} (hw : HW a0 Z) : (Jvm.Cond.fieldLink TC (7 : Nat) TC "terms" "[I").before a0 Z = true := mw hw 10 rfl
theorem wd11 {Z a0} (hw : HW a0 Z) : (Jvm.Cond.lays TC TC "terms" "[I").before a0 Z = true := mw hw 11 rfl
theorem wd2 {Z a0} (hw : HW a0 Z) : (Jvm.Cond.instantiable TC (3 : Nat)).before a0 Z = true := mw hw 2 rfl
theorem wd26 {Z a0} (hw : HW a0 Z) : (Jvm.Cond.lays TC TC "size" "I").before a0 Z = true := mw hw 26 rfl
theorem wd13 {Z a0} (hw : HW a0 Z) : (Jvm.Cond.lays TC TC "slots" "[I").before a0 Z = true := mw hw 13 rfl
theorem d1_13 : decode cB1 13 = .ok (.aload_n 0, 1) := by decide +kernel
theorem d1_14 : decode cB1 14 = .ok (.sipush 128, 3) := by decide +kernel
theorem d1_17 : decode cB1 17 = .ok (.newarray .int, 2) := by decide +kernel
theorem d1_19 : decode cB1 19 = .ok (.putfield 13, 3) := by decide +kernel
theorem wd12 {Z a0} (hw : HW a0 Z) : (Jvm.Cond.fieldLink TC (13 : Nat) TC "slots" "[I").before a0 Z = true := mw hw 12 rfl
theorem d1_22 : decode cB1 22 = .ok (.return_, 1) := by decide +kernel
def Q1 (Z : State) (a1 : Addr) (u1 : Value) (u2 : Value) (h0 : Heap) (n0 : Nat) (v : Option Value) (h : Heap) (L : List Loc) : Prop := ∃ x1_0 : Addr, ∃ x1_1 : Addr, ∃ k_x1_0 : ClassId, ∃ k_x1_1 : ClassId, v = none ∧ Fr n0 L ∧ Keep h0 h [a1] ∧ n0 ≤ x1_0 ∧ h0.size ≤ x1_0 ∧ n0 ≤ x1_1 ∧ h0.size ≤ x1_1 ∧ x1_0 ≠ x1_1 ∧ Exa Z h a1 TC ∧ Fld Z h a1 TC "size" "I" (.int (0 : Int32)) ∧ Fld Z h a1 TC "terms" "[I" (.ref x1_0) ∧ Fld Z h a1 TC "slots" "[I" (.ref x1_1) ∧ Arv Z h x1_0 k_x1_0 .int (192 : Int32) [] (.int (0 : Int32)) ∧ Arv Z h x1_1 k_x1_1 .int (128 : Int32) [] (.int (0 : Int32))
theorem ef1 (m : MethodId) (x0 : Addr) : entryFrame m #[(.ref x0)] 1 = mkF m 0 #[.val (.ref x0)] [] := by first | (simp [entryFrame, mkF, argsToLocals, Value.category]; done) | rfl
theorem sn0 {Z a0} (hw : HW a0 Z) {b a : Addr} : b ≠ a ∨ RoadKit.slotOf Z TC "size" "I" ≠ RoadKit.slotOf Z TC "terms" "[I" := Or.inr (slot_ne (Or.inl (wd26 hw)) (Or.inl (wd11 hw)) (by decide) (t := .int) (t' := (.array .int)) (by decide) (by decide))
theorem sn1 {Z a0} (hw : HW a0 Z) {b a : Addr} : b ≠ a ∨ RoadKit.slotOf Z TC "slots" "[I" ≠ RoadKit.slotOf Z TC "terms" "[I" := Or.inr (slot_ne (Or.inl (wd13 hw)) (Or.inl (wd11 hw)) (by decide) (t := (.array .int)) (t' := (.array .int)) (by decide) (by decide))
theorem sn2 {Z a0} (hw : HW a0 Z) {b a : Addr} : b ≠ a ∨ RoadKit.slotOf Z TC "size" "I" ≠ RoadKit.slotOf Z TC "slots" "[I" := Or.inr (slot_ne (Or.inl (wd26 hw)) (Or.inl (wd13 hw)) (by decide) (t := .int) (t' := (.array .int)) (by decide) (by decide))
theorem sn3 {Z a0} (hw : HW a0 Z) {b a : Addr} : b ≠ a ∨ RoadKit.slotOf Z TC "terms" "[I" ≠ RoadKit.slotOf Z TC "slots" "[I" := Or.inr (slot_ne (Or.inl (wd11 hw)) (Or.inl (wd13 hw)) (by decide) (t := (.array .int)) (t' := (.array .int)) (by decide) (by decide))
theorem rm1 (l : Launch) (Z : State) (a0 : Array Value) (hw : HW a0 Z) (ws : List Jvm.Cond) (a1 : Addr) (u1 : Value) (u2 : Value) (h0 : Heap) (n0 : Nat) (Z0 : n0 ≤ h0.size) (E_a1 : Exa Z h0 a1 TC) (F_a1_size : Fld Z h0 a1 TC "size" "I" (.int (0 : Int32))) (F_a1_terms : Fld Z h0 a1 TC "terms" "[I" u1) (F_a1_slots : Fld Z h0 a1 TC "slots" "[I" u2) (g_a1 : n0 ≤ a1) :
  MetFree l (⟨TC, "<init>", "()V"⟩ : MethodName) (head1 (Jvm.Cond.code (⟨TC, "<init>", "()V"⟩ : MethodName) cB1 1 none :: ws) (Rm 1 2 320 12)) (Pr Z h0 #[(.ref a1)]) Tr (fun _ U o U' => ∃ v L, o = .returned v ∧ Q1 Z a1 u1 u2 h0 n0 v U'.heap L ∧ FrameEnd U o U' L (Rm 1 2 320 12).cells (Rm 1 2 320 12).slots) := by
 refine MetFree.of_bodySF (plainFor_of_name pn0) hisR ?_
 intro p e s m args below meth c s₁ Bd hml0 hP hK
 obtain ⟨rfl, hZ, hh⟩ := hP
 have hx := Bd.exec
 have hby := Bd.bytes
 have hml : c.maxLocals = 1 := hml0
 have hown : s.vm.findClass TC = some m.cls := findClass_of_methodNamed Bd.named
 have hnm := (name_of_methodNamed Bd.named Bd.method).1
 have X0 : Stand p l e (Rm 1 2 320 12) s m #[(.ref a1)] below meth c s₁ [] 0 0 := Stand.of_body Bd
 have e0 : s₁.heap = h0 := by rw [← hh, Bd.state]; rfl
 have N0 := Fr.nil n0
 have K0 : Keep h0 h0 [a1] := Keep.refl h0 _
 refine G (P := fun o U' => ∃ v L, o = .returned v ∧ Q1 Z a1 u1 u2 h0 n0 v U'.heap L ∧ FrameEnd s o U' L (Rm 1 2 320 12).cells (Rm 1 2 320 12).slots) (fun t k => castTop (ef1 m a1) k) ?_
 show Go _ _ _ (s₁.setTop (mkF m 0 #[vr a1] [])) _
 refine G (fun t k => XS.aloadN X0.here hx rfl (hb hby d1_0) rfl rfl k) ?_
 obtain ⟨T1, X1, e1, st1⟩ := initO X0 hx hZ hown (wd7 hw) (wd8 hw) (wd9 hw) e0 (g := (mkF m 1 #[vr a1] [(.ref a1)])) rfl (by rw [hml]; rfl) rfl (hb hby d1_1) (by decide) (W := 0) (by show 2 * 0 + _ ≤ _; exact Nat.le_of_eq rfl) (by decide)
 refine G st1 ?_
 refine G (fun t k => XS.aloadN X1.here hx rfl (hb hby d1_4) rfl rfl (XS.sipush X1.here hx rfl (hb hby d1_5) k)) ?_
 obtain ⟨T2, h2, k2, X2, e2, E2, A2, st2⟩ := newP X1 hx hZ (aty := .int) (wd0 hw) e1 (g := (mkF m 8 #[vr a1] [(.int 192), (.ref a1)])) rfl (hb hby d1_8) rfl (by decide) (cap := 192) (by decide) (by decide) (by decide) (by decide)
 obtain ⟨b2, g2⟩ : ∃ z, z = h0.size := ⟨_, rfl⟩
 rw [← g2] at A2 st2
 refine G st2 ?_
 have ne_a1_b2 : a1 ≠ b2 := Nat.ne_of_lt (Nat.lt_of_lt_of_le E_a1.lt (Nat.le_of_eq g2.symm))
 have g_b2 : n0 ≤ b2 := Nat.le_trans Z0 (Nat.le_of_eq g2.symm)
 have sz_b2 : h0.size ≤ b2 := Nat.le_trans K0.1 (Nat.le_of_eq g2.symm)
 replace E_a1 := E_a1.ext E2
 replace F_a1_size := F_a1_size.ext E2
 replace F_a1_terms := F_a1_terms.ext E2
 replace F_a1_slots := F_a1_slots.ext E2
 replace K0 := K0.ext E2
 replace Z0 := Nat.le_trans Z0 E2.1
 have V_b2 : Arv Z h2 b2 k2 .int (192 : Int32) [] (.int (0 : Int32)) := Arv.new A2 (by decide)
 obtain ⟨T3, h3, X3, e3, W3, st3⟩ := putF X2 hx hZ hown (host := "") (Or.inl (wd10 hw)) Via.refl e2 F_a1_terms E_a1 (Or.inl (wd11 hw)) (wd2 hw) (ty := (.array .int)) (by decide) rfl rfl (g := (mkF m 10 #[vr a1] [(.ref b2), (.ref a1)])) rfl rfl (hb hby d1_10)
 refine G st3 ?_
 have N3 := Fr.snoc X3 N0 g_a1
 replace E_a1 := E_a1.wr W3
 replace F_a1_size := F_a1_size.other W3 (sn0 hw)
 replace F_a1_terms := F_a1_terms.same W3
 replace F_a1_slots := F_a1_slots.other W3 (sn1 hw)
 replace V_b2 := V_b2.other W3 (Ne.symm ne_a1_b2)
 replace Z0 := Nat.le_trans Z0 (Nat.le_of_eq W3.size.symm)
 replace K0 := K0.wr W3 (Or.inl (by simp))
 refine G (fun t k => XS.aloadN X3.here hx rfl (hb hby d1_13) rfl rfl k) ?_
 show Go _ _ _ (T3.setTop (mkF m 14 #[vr a1] [(.ref a1)])) _
 refine G (fun t k => XS.sipush X3.here hx rfl (hb hby d1_14) k) ?_
 obtain ⟨T4, h4, k4, X4, e4, E4, A4, st4⟩ := newP X3 hx hZ (aty := .int) (wd0 hw) e3 (g := (mkF m 17 #[vr a1] [(.int 128), (.ref a1)])) rfl (hb hby d1_17) rfl (by decide) (cap := 128) (by decide) (by decide) (by decide) (by decide)
 obtain ⟨b4, g4⟩ : ∃ z, z = h3.size := ⟨_, rfl⟩
 rw [← g4] at A4 st4
 refine G st4 ?_
 have ne_a1_b4 : a1 ≠ b4 := Nat.ne_of_lt (Nat.lt_of_lt_of_le E_a1.lt (Nat.le_of_eq g4.symm))
 have ne_b2_b4 : b2 ≠ b4 := Nat.ne_of_lt (Nat.lt_of_lt_of_le V_b2.lt (Nat.le_of_eq g4.symm))
 have g_b4 : n0 ≤ b4 := Nat.le_trans Z0 (Nat.le_of_eq g4.symm)
 have sz_b4 : h0.size ≤ b4 := Nat.le_trans K0.1 (Nat.le_of_eq g4.symm)
 replace E_a1 := E_a1.ext E4
 replace F_a1_size := F_a1_size.ext E4
 replace F_a1_terms := F_a1_terms.ext E4
 replace F_a1_slots := F_a1_slots.ext E4
 replace V_b2 := V_b2.ext E4
 replace K0 := K0.ext E4
 replace Z0 := Nat.le_trans Z0 E4.1
 have V_b4 : Arv Z h4 b4 k4 .int (128 : Int32) [] (.int (0 : Int32)) := Arv.new A4 (by decide)
 obtain ⟨T5, h5, X5, e5, W5, st5⟩ := putF X4 hx hZ hown (host := "") (Or.inl (wd12 hw)) Via.refl e4 F_a1_slots E_a1 (Or.inl (wd13 hw)) (wd2 hw) (ty := (.array .int)) (by decide) rfl rfl (g := (mkF m 19 #[vr a1] [(.ref b4), (.ref a1)])) rfl rfl (hb hby d1_19)
 refine G st5 ?_
 have N5 := Fr.snoc X5 N3 g_a1
 replace E_a1 := E_a1.wr W5
 replace F_a1_size := F_a1_size.other W5 (sn2 hw)
 replace F_a1_terms := F_a1_terms.other W5 (sn3 hw)
 replace F_a1_slots := F_a1_slots.same W5
 replace V_b2 := V_b2.other W5 (Ne.symm ne_a1_b2)
 replace V_b4 := V_b4.other W5 (Ne.symm ne_a1_b4)
 replace Z0 := Nat.le_trans Z0 (Nat.le_of_eq W5.size.symm)
 replace K0 := K0.wr W5 (Or.inl (by simp))
 obtain ⟨fs, hr, hrun, hended, hW, hsame⟩ := X5.leave (v := none) (fun _ => rfl)
 refine Go.fin (X5.returnOut hx Bd.returns (hb hby d1_22) hr) hrun hended ⟨_, _, rfl, ?_, ⟨_, rfl⟩, hW, hsame.mono (by decide) (by decide)⟩
 show Q1 Z a1 u1 u2 h0 n0 _ T5.heap _
 rw [e5]
 exact ⟨b2, b4, k2, k4, rfl, N5, K0, g_b2, sz_b2, g_b4, sz_b4, ne_b2_b4, E_a1, F_a1_size, F_a1_terms, F_a1_slots, V_b2, V_b4⟩
theorem own_127 (x : Int32) : ¬ (x &&& (127 : Int32)) < 0 ∧ (x &&& (127 : Int32)) < (128 : Int32) := by
 have e : (x &&& (127 : Int32)).toBitVec = x.toBitVec &&& 127#32 := rfl
 have b : (x.toBitVec &&& 127#32).toNat ≤ 127 := by
  rw [BitVec.toNat_and]
  exact Nat.and_le_right
 have t : (x &&& (127 : Int32)).toInt = ((x.toBitVec &&& 127#32).toNat : Int) := by
  show (x &&& (127 : Int32)).toBitVec.toInt = _
  rw [e, BitVec.toInt_eq_toNat_of_lt (by omega)]
 rw [Int32.lt_iff_toInt_lt, Int32.lt_iff_toInt_lt, t, show (0 : Int32).toInt = 0 from rfl, show (128 : Int32).toInt = 128 from rfl]
 omega
theorem own_all128 (P : Int32 → Prop) (hP : ∀ j : Fin 128, P (Int32.ofInt (j.1 : Int))) (x : Int32) : P (x &&& (127 : Int32)) := by
 obtain ⟨h1, h2⟩ := own_127 x
 rw [Int32.lt_iff_toInt_lt, show (0 : Int32).toInt = 0 from rfl] at h1
 rw [Int32.lt_iff_toInt_lt, show (128 : Int32).toInt = 128 from rfl] at h2
 have := hP ⟨(x &&& (127 : Int32)).toInt.toNat, by omega⟩
 rw [Int.toNat_of_nonneg (by omega), Int32.ofInt_toInt] at this
 exact this
theorem own_n1 (x : Int32) : ¬ (((x &&& (127 : Int32)) + (1 : Int32)) &&& (127 : Int32)) = (x &&& (127 : Int32)) := own_all128 (fun y => ¬ ((y + (1 : Int32)) &&& (127 : Int32)) = y) (by decide +kernel) x
theorem own_n2 (x : Int32) : ¬ ((((((x &&& (127 : Int32)) + (1 : Int32)) &&& (127 : Int32)) + (1 : Int32)) &&& (127 : Int32)) = (x &&& (127 : Int32))) := own_all128 (fun y => ¬ ((((y + (1 : Int32)) &&& (127 : Int32)) + (1 : Int32)) &&& (127 : Int32)) = y) (by decide +kernel) x
theorem d3_0 : decode cB3 0 = .ok (.aload_n 0, 1) := by decide +kernel
theorem d3_1 : decode cB3 1 = .ok (.getfield 13, 3) := by decide +kernel
theorem d3_4 : decode cB3 4 = .ok (.arraylength, 1) := by decide +kernel
theorem d3_5 : decode cB3 5 = .ok (.iconst 1, 1) := by decide +kernel
theorem d3_6 : decode cB3 6 = .ok (.isub, 1) := by decide +kernel
theorem d3_7 : decode cB3 7 = .ok (.istore 4, 2) := by decide +kernel
theorem d3_9 : decode cB3 9 = .ok (.iload_n 1, 1) := by decide +kernel
theorem d3_10 : decode cB3 10 = .ok (.iload_n 2, 1) := by decide +kernel
theorem d3_11 : decode cB3 11 = .ok (.iload_n 3, 1) := by decide +kernel
theorem d3_12 : decode cB3 12 = .ok (.invokestatic 16, 3) := by decide +kernel
theorem wd19 {Z a0} (hw : HW a0 Z) : (Jvm.Cond.methodLink TC (16 : Nat) ⟨TC, "hash", "(III)I"⟩).before a0 Z = true := mw hw 19 rfl
theorem wd21 {Z a0} (hw : HW a0 Z) : (Jvm.Cond.code ⟨TC, "hash", "(III)I"⟩ cB4 (5 : Nat) (Option.some Jvm.ClassFile.FieldType.int)).before a0 Z = true := mw hw 21 rfl
theorem wd3 {Z a0} (hw : HW a0 Z) : (Jvm.Cond.initialized TC).before a0 Z = true := mw hw 3 rfl
theorem pd0 : parseMethodDescriptor "(III)I" = some ⟨[.int, .int, .int], some .int⟩ := by decide +kernel
theorem wd20 {Z a0} (hw : HW a0 Z) : (Jvm.Cond.static ⟨TC, "hash", "(III)I"⟩).before a0 Z = true := mw hw 20 rfl
theorem d3_15 : decode cB3 15 = .ok (.iload 4, 2) := by decide +kernel
theorem d3_17 : decode cB3 17 = .ok (.iand, 1) := by decide +kernel
theorem d3_18 : decode cB3 18 = .ok (.istore 5, 2) := by decide +kernel
theorem d3_20 : decode cB3 20 = .ok (.aload_n 0, 1) := by decide +kernel
theorem d3_21 : decode cB3 21 = .ok (.getfield 13, 3) := by decide +kernel
theorem d3_24 : decode cB3 24 = .ok (.iload 5, 2) := by decide +kernel
theorem d3_26 : decode cB3 26 = .ok (.iaload, 1) := by decide +kernel
theorem d3_27 : decode cB3 27 = .ok (.iconst 1, 1) := by decide +kernel
theorem d3_28 : decode cB3 28 = .ok (.isub, 1) := by decide +kernel
theorem d3_29 : decode cB3 29 = .ok (.istore 6, 2) := by decide +kernel
theorem d3_31 : decode cB3 31 = .ok (.iload 6, 2) := by decide +kernel
theorem d3_33 : decode cB3 33 = .ok (.ifCond .ge 120, 3) := by decide +kernel
theorem d3_36 : decode cB3 36 = .ok (.aload_n 0, 1) := by decide +kernel
theorem d3_37 : decode cB3 37 = .ok (.getfield 20, 3) := by decide +kernel
theorem wd25 {Z a0} (hw : HW a0 Z) : (Jvm.Cond.fieldLink TC (20 : Nat) TC "size" "I").before a0 Z = true := mw hw 25 rfl
theorem d3_40 : decode cB3 40 = .ok (.aload_n 0, 1) := by decide +kernel
theorem d3_41 : decode cB3 41 = .ok (.getfield 7, 3) := by decide +kernel
theorem d3_44 : decode cB3 44 = .ok (.arraylength, 1) := by decide +kernel
theorem d3_45 : decode cB3 45 = .ok (.iconst 3, 1) := by decide +kernel
theorem d3_46 : decode cB3 46 = .ok (.idiv, 1) := by decide +kernel
theorem d3_47 : decode cB3 47 = .ok (.if_icmp .ne 21, 3) := by decide +kernel
theorem d3_68 : decode cB3 68 = .ok (.aload_n 0, 1) := by decide +kernel
theorem d3_69 : decode cB3 69 = .ok (.getfield 7, 3) := by decide +kernel
theorem d3_72 : decode cB3 72 = .ok (.iconst 3, 1) := by decide +kernel
theorem d3_73 : decode cB3 73 = .ok (.aload_n 0, 1) := by decide +kernel
theorem d3_74 : decode cB3 74 = .ok (.getfield 20, 3) := by decide +kernel
theorem d3_77 : decode cB3 77 = .ok (.imul, 1) := by decide +kernel
theorem d3_78 : decode cB3 78 = .ok (.iload_n 1, 1) := by decide +kernel
theorem d3_79 : decode cB3 79 = .ok (.iastore, 1) := by decide +kernel
theorem d3_80 : decode cB3 80 = .ok (.aload_n 0, 1) := by decide +kernel
theorem d3_81 : decode cB3 81 = .ok (.getfield 7, 3) := by decide +kernel
theorem d3_84 : decode cB3 84 = .ok (.iconst 3, 1) := by decide +kernel
theorem d3_85 : decode cB3 85 = .ok (.aload_n 0, 1) := by decide +kernel
theorem d3_86 : decode cB3 86 = .ok (.getfield 20, 3) := by decide +kernel
theorem d3_89 : decode cB3 89 = .ok (.imul, 1) := by decide +kernel
theorem d3_90 : decode cB3 90 = .ok (.iconst 1, 1) := by decide +kernel
theorem d3_91 : decode cB3 91 = .ok (.iadd, 1) := by decide +kernel
theorem d3_92 : decode cB3 92 = .ok (.iload_n 2, 1) := by decide +kernel
theorem d3_93 : decode cB3 93 = .ok (.iastore, 1) := by decide +kernel
theorem d3_94 : decode cB3 94 = .ok (.aload_n 0, 1) := by decide +kernel
theorem d3_95 : decode cB3 95 = .ok (.getfield 7, 3) := by decide +kernel
theorem d3_98 : decode cB3 98 = .ok (.iconst 3, 1) := by decide +kernel
theorem d3_99 : decode cB3 99 = .ok (.aload_n 0, 1) := by decide +kernel
theorem d3_100 : decode cB3 100 = .ok (.getfield 20, 3) := by decide +kernel
theorem d3_103 : decode cB3 103 = .ok (.imul, 1) := by decide +kernel
theorem d3_104 : decode cB3 104 = .ok (.iconst 2, 1) := by decide +kernel
theorem d3_105 : decode cB3 105 = .ok (.iadd, 1) := by decide +kernel
theorem d3_106 : decode cB3 106 = .ok (.iload_n 3, 1) := by decide +kernel
theorem d3_107 : decode cB3 107 = .ok (.iastore, 1) := by decide +kernel
theorem d3_108 : decode cB3 108 = .ok (.aload_n 0, 1) := by decide +kernel
theorem d3_109 : decode cB3 109 = .ok (.getfield 13, 3) := by decide +kernel
theorem d3_112 : decode cB3 112 = .ok (.iload 5, 2) := by decide +kernel
theorem d3_114 : decode cB3 114 = .ok (.aload_n 0, 1) := by decide +kernel
theorem d3_115 : decode cB3 115 = .ok (.dup, 1) := by decide +kernel
theorem d3_116 : decode cB3 116 = .ok (.getfield 20, 3) := by decide +kernel
theorem d3_119 : decode cB3 119 = .ok (.iconst 1, 1) := by decide +kernel
theorem d3_120 : decode cB3 120 = .ok (.iadd, 1) := by decide +kernel
theorem d3_121 : decode cB3 121 = .ok (.dup_x1, 1) := by decide +kernel
theorem d3_122 : decode cB3 122 = .ok (.putfield 20, 3) := by decide +kernel
theorem d3_125 : decode cB3 125 = .ok (.iastore, 1) := by decide +kernel
theorem d3_126 : decode cB3 126 = .ok (.iconst 2, 1) := by decide +kernel
theorem d3_127 : decode cB3 127 = .ok (.aload_n 0, 1) := by decide +kernel
theorem d3_128 : decode cB3 128 = .ok (.getfield 20, 3) := by decide +kernel
theorem d3_131 : decode cB3 131 = .ok (.imul, 1) := by decide +kernel
theorem d3_132 : decode cB3 132 = .ok (.aload_n 0, 1) := by decide +kernel
theorem d3_133 : decode cB3 133 = .ok (.getfield 13, 3) := by decide +kernel
theorem d3_136 : decode cB3 136 = .ok (.arraylength, 1) := by decide +kernel
theorem d3_137 : decode cB3 137 = .ok (.if_icmp .le 14, 3) := by decide +kernel
theorem d3_151 : decode cB3 151 = .ok (.iconst 1, 1) := by decide +kernel
theorem d3_152 : decode cB3 152 = .ok (.ireturn, 1) := by decide +kernel
def Q3n0 (Z : State) (a1 : Addr) (p2 : Int32) (p3 : Int32) (p4 : Int32) (w_T : Addr) (w_S : Addr) (k_T : ClassId) (k_S : ClassId) (h0 : Heap) (n0 : Nat) (v : Option Value) (h : Heap) (L : List Loc) : Prop := v = some (.int (1 : Int32)) ∧ Fr n0 L ∧ Keep h0 h [w_T, a1, w_S] ∧ Exa Z h a1 TC ∧ Fld Z h a1 TC "size" "I" (.int (1 : Int32)) ∧ Fld Z h a1 TC "terms" "[I" (.ref w_T) ∧ Fld Z h a1 TC "slots" "[I" (.ref w_S) ∧ Arv Z h w_T k_T .int (192 : Int32) [(.int p2), (.int p3), (.int p4)] (.int (0 : Int32)) ∧ Arh Z h w_S k_S .int (128 : Int32) [(((f4 p2 p3 p4) &&& (127 : Int32)), (.int (1 : Int32)))] [] (.int (0 : Int32))
theorem ef3n0 (m : MethodId) (x0 : Addr) (x1 : Int32) (x2 : Int32) (x3 : Int32) : entryFrame m #[(.ref x0), (.int x1), (.int x2), (.int x3)] 7 = mkF m 0 #[.val (.ref x0), .val (.int x1), .val (.int x2), .val (.int x3), .unset, .unset, .unset] [] := by first | (simp [entryFrame, mkF, argsToLocals, Value.category]; done) | rfl
theorem sn4 {Z a0} (hw : HW a0 Z) {b a : Addr} : b ≠ a ∨ RoadKit.slotOf Z TC "terms" "[I" ≠ RoadKit.slotOf Z TC "size" "I" := Or.inr (slot_ne (Or.inl (wd11 hw)) (Or.inl (wd26 hw)) (by decide) (t := (.array .int)) (t' := .int) (by decide) (by decide))
theorem sn5 {Z a0} (hw : HW a0 Z) {b a : Addr} : b ≠ a ∨ RoadKit.slotOf Z TC "slots" "[I" ≠ RoadKit.slotOf Z TC "size" "I" := Or.inr (slot_ne (Or.inl (wd13 hw)) (Or.inl (wd26 hw)) (by decide) (t := (.array .int)) (t' := .int) (by decide) (by decide))
theorem rm3n0 (l : Launch) (Z : State) (a0 : Array Value) (hw : HW a0 Z) (ws : List Jvm.Cond) (a1 : Addr) (p2 : Int32) (p3 : Int32) (p4 : Int32) (w_T : Addr) (w_S : Addr) (k_T : ClassId) (k_S : ClassId) (h0 : Heap) (n0 : Nat) (Z0 : n0 ≤ h0.size) (E_a1 : Exa Z h0 a1 TC) (F_a1_size : Fld Z h0 a1 TC "size" "I" (.int (0 : Int32))) (F_a1_terms : Fld Z h0 a1 TC "terms" "[I" (.ref w_T)) (F_a1_slots : Fld Z h0 a1 TC "slots" "[I" (.ref w_S)) (V_T : Arv Z h0 w_T k_T .int (192 : Int32) [] (.int (0 : Int32))) (V_S : Arh Z h0 w_S k_S .int (128 : Int32) [] [] (.int (0 : Int32))) (ne_w_T_a1 : w_T ≠ a1) (ne_w_S_a1 : w_S ≠ a1) (ne_w_T_w_S : w_T ≠ w_S) (g_w_T : n0 ≤ w_T) (g_a1 : n0 ≤ a1) (g_w_S : n0 ≤ w_S) :
  MetFree l (⟨TC, "add", "(III)Z"⟩ : MethodName) (head1 (Jvm.Cond.code (⟨TC, "add", "(III)Z"⟩ : MethodName) cB3 7 (some .boolean) :: ws) (Rm 1 0 0 16)) (Pr Z h0 #[(.ref a1), (.int p2), (.int p3), (.int p4)]) Tr (fun _ U o U' => ∃ v L, o = .returned v ∧ Q3n0 Z a1 p2 p3 p4 w_T w_S k_T k_S h0 n0 v U'.heap L ∧ FrameEnd U o U' L (Rm 1 0 0 16).cells (Rm 1 0 0 16).slots) := by
 refine MetFree.of_bodySF (plainFor_of_name pn0) hisR ?_
 intro p e s m args below meth c s₁ Bd hml0 hP hK
 obtain ⟨rfl, hZ, hh⟩ := hP
 have hx := Bd.exec
 have hby := Bd.bytes
 have hml : c.maxLocals = 7 := hml0
 have hown : s.vm.findClass TC = some m.cls := findClass_of_methodNamed Bd.named
 have hnm := (name_of_methodNamed Bd.named Bd.method).1
 have X0 : Stand p l e (Rm 1 0 0 16) s m #[(.ref a1), (.int p2), (.int p3), (.int p4)] below meth c s₁ [] 0 0 := Stand.of_body Bd
 have e0 : s₁.heap = h0 := by rw [← hh, Bd.state]; rfl
 have N0 := Fr.nil n0
 have K0 : Keep h0 h0 [w_T, a1, w_S] := Keep.refl h0 _
 refine G (P := fun o U' => ∃ v L, o = .returned v ∧ Q3n0 Z a1 p2 p3 p4 w_T w_S k_T k_S h0 n0 v U'.heap L ∧ FrameEnd s o U' L (Rm 1 0 0 16).cells (Rm 1 0 0 16).slots) (fun t k => castTop (ef3n0 m a1 p2 p3 p4) k) ?_
 show Go _ _ _ (s₁.setTop (mkF m 0 #[vr a1, vi p2, vi p3, vi p4, us, us, us] [])) _
 refine G (fun t k => XS.aloadN X0.here hx rfl (hb hby d3_0) rfl rfl k) ?_
 obtain ⟨T1, X1, e1, st1⟩ := getF X0 hx hZ hown (host := "") (Or.inl (wd12 hw)) Via.refl e0 F_a1_slots (g := (mkF m 1 #[vr a1, vi p2, vi p3, vi p4, us, us, us] [(.ref a1)])) rfl rfl (hb hby d3_1)
 refine G st1 ?_
 obtain ⟨cl2, Ar2, -, Sz2, Ng2, -, -⟩ := id V_S
 refine G (fun t k => X1.arraylength hx (by rw [e1]; exact Ar2.1) (State.isArrayOf_alike hZ.alike Ar2.2.1) (g := (mkF m 4 #[vr a1, vi p2, vi p3, vi p4, us, us, us] [(.ref w_S)])) rfl rfl (hb hby d3_4) _ k) ?_
 rw [len_of Sz2 Ng2]
 clear Ng2 Sz2 Ar2 cl2
 refine G (fun t k => XS.iconst X1.here hx rfl (hb hby d3_5) (XS.isub X1.here hx rfl (hb hby d3_6) rfl (XS.istore X1.here hx rfl (hb hby d3_7) rfl (l' := #[vr a1, vi p2, vi p3, vi p4, vi 127, us, us]) rfl (XS.iloadN X1.here hx rfl (hb hby d3_9) rfl k)))) ?_
 show Go _ _ _ (T1.setTop (mkF m 10 #[vr a1, vi p2, vi p3, vi p4, vi 127, us, us] [(.int p2)])) _
 refine G (fun t k => XS.iloadN X1.here hx rfl (hb hby d3_10) rfl (XS.iloadN X1.here hx rfl (hb hby d3_11) rfl k)) ?_
 obtain ⟨_, _, ⟨T3, L3, k3, n3⟩, -, X3, ⟨Lc3, hQ3, l3, y3, z3⟩, st3⟩ := Jvm.LawKit.callS X1 hx (y := (⟨TC, "hash", "(III)I"⟩ : MethodName)) hown (mvT hZ (wd19 hw)) (mvT hZ (wd20 hw)) (mvT hZ (wd3 hw)) (mvT hZ (wd21 hw)) (by decide) (backOf (W := 0) (rm4 l Z a0 hw [] p2 p3 p4 h0 n0 Z0) hZ (wd21 hw) (wd3 hw) (by decide) (by decide)) (g := (mkF m 12 #[vr a1, vi p2, vi p3, vi p4, vi 127, us, us] [(.int p4), (.int p3), (.int p2)])) rfl (by rw [hml]; rfl) (argsL := [(.int p2), (.int p3), (.int p4)]) (rest := []) (lenOf pd0 rfl) rfl (by show 2 * 0 + _ ≤ _; exact Nat.le_of_eq rfl) (hb hby d3_12) (fun _ _ => ⟨rfl, e1, (by decide : 0 + 0 ≤ _), (by decide : 0 + 0 ≤ _)⟩)
 dsimp only [Pt.U, Pt.locs, Pt.cells, Pt.slots] at X3 l3 y3 z3 st3 hQ3
 subst l3 y3 z3
 refine G st3 ?_
 obtain ⟨rfl, N3q, e3⟩ := hQ3
 have N3 := Fr.app N0 N3q
 refine G (fun t k => XS.iload X3.here hx rfl (hb hby d3_15) rfl (XS.iand X3.here hx rfl (hb hby d3_17) rfl (XS.istore X3.here hx rfl (hb hby d3_18) rfl (l' := #[vr a1, vi p2, vi p3, vi p4, vi 127, vi ((f4 p2 p3 p4) &&& (127 : Int32)), us]) rfl (XS.aloadN X3.here hx rfl (hb hby d3_20) rfl rfl k)))) ?_
 show Go _ _ _ (T3.setTop (mkF m 21 #[vr a1, vi p2, vi p3, vi p4, vi 127, vi ((f4 p2 p3 p4) &&& (127 : Int32)), us] [(.ref a1)])) _
 obtain ⟨T4, X4, e4, st4⟩ := getF X3 hx hZ hown (host := "") (Or.inl (wd12 hw)) Via.refl e3 F_a1_slots (g := (mkF m 21 #[vr a1, vi p2, vi p3, vi p4, vi 127, vi ((f4 p2 p3 p4) &&& (127 : Int32)), us] [(.ref a1)])) rfl rfl (hb hby d3_21)
 refine G st4 ?_
 refine G (fun t k => XS.iload X4.here hx rfl (hb hby d3_24) rfl k) ?_
 obtain ⟨cl6, Ar6, -, Sz6, Ng6, Hs6, -⟩ := id V_S
 have hin6 : ¬ (((f4 p2 p3 p4) &&& (127 : Int32)) < 0 ∨ cl6.slots.size ≤ (((f4 p2 p3 p4) &&& (127 : Int32))).toNatClampNeg) := inb_of Sz6 (own_127 (f4 p2 p3 p4))
 refine G (fun t k => X4.iaload hx (j := ((f4 p2 p3 p4) &&& (127 : Int32))) (v := (.int (0 : Int32))) (by rw [e4]; exact Ar6.1) (State.isArrayOf_alike hZ.alike Ar6.2.1) Ar6.2.2 hin6 (atH Hs6 hin6 rfl) (g := (mkF m 26 #[vr a1, vi p2, vi p3, vi p4, vi 127, vi ((f4 p2 p3 p4) &&& (127 : Int32)), us] [(.int ((f4 p2 p3 p4) &&& (127 : Int32))), (.ref w_S)])) rfl rfl (hb hby d3_26) _ k) ?_
 show Go _ _ _ (T4.setTop (mkF m 27 #[vr a1, vi p2, vi p3, vi p4, vi 127, vi ((f4 p2 p3 p4) &&& (127 : Int32)), us] [(.int 0)])) _
 refine G (fun t k => XS.iconst X4.here hx rfl (hb hby d3_27) (XS.isub X4.here hx rfl (hb hby d3_28) rfl (XS.istore X4.here hx rfl (hb hby d3_29) rfl (l' := #[vr a1, vi p2, vi p3, vi p4, vi 127, vi ((f4 p2 p3 p4) &&& (127 : Int32)), vi (-1)]) rfl (XS.iload X4.here hx rfl (hb hby d3_31) rfl (XS.ifNo X4.here hx rfl (hb hby d3_33) rfl ((if0 _ _).trans (tlt (by decide : (-1 : Int32) < (0 : Int32))).2.1) (XS.aloadN X4.here hx rfl (hb hby d3_36) rfl rfl k)))))) ?_
 obtain ⟨T7, X7, e7, st7⟩ := getF X4 hx hZ hown (host := "") (Or.inl (wd25 hw)) Via.refl e4 F_a1_size (g := (mkF m 37 #[vr a1, vi p2, vi p3, vi p4, vi 127, vi ((f4 p2 p3 p4) &&& (127 : Int32)), vi (-1)] [(.ref a1)])) rfl rfl (hb hby d3_37)
 refine G st7 ?_
 show Go _ _ _ (T7.setTop (mkF m 40 #[vr a1, vi p2, vi p3, vi p4, vi 127, vi ((f4 p2 p3 p4) &&& (127 : Int32)), vi (-1)] [(.int 0)])) _
 refine G (fun t k => XS.aloadN X7.here hx rfl (hb hby d3_40) rfl rfl k) ?_
 obtain ⟨T8, X8, e8, st8⟩ := getF X7 hx hZ hown (host := "") (Or.inl (wd10 hw)) Via.refl e7 F_a1_terms (g := (mkF m 41 #[vr a1, vi p2, vi p3, vi p4, vi 127, vi ((f4 p2 p3 p4) &&& (127 : Int32)), vi (-1)] [(.ref a1), (.int 0)])) rfl rfl (hb hby d3_41)
 refine G st8 ?_
 obtain ⟨cl9, Ar9, -, Sz9, Ng9, -, -⟩ := id V_T
 refine G (fun t k => X8.arraylength hx (by rw [e8]; exact Ar9.1) (State.isArrayOf_alike hZ.alike Ar9.2.1) (g := (mkF m 44 #[vr a1, vi p2, vi p3, vi p4, vi 127, vi ((f4 p2 p3 p4) &&& (127 : Int32)), vi (-1)] [(.ref w_T), (.int 0)])) rfl rfl (hb hby d3_44) _ k) ?_
 rw [len_of Sz9 Ng9]
 clear Ng9 Sz9 Ar9 cl9
 refine G (fun t k => XS.iconst X8.here hx rfl (hb hby d3_45) (XS.idiv X8.here hx rfl (hb hby d3_46) rfl (by decide) (XS.icmpYes X8.here hx rfl (pc0 := 47) (pc' := 68) rfl (hb hby d3_47) rfl (feq (by decide : ¬ ((0 : Int32) = (64 : Int32)))).2 (by decide) (by decide) (XS.aloadN X8.here hx rfl (hb hby d3_68) rfl rfl k)))) ?_
 show Go _ _ _ (T8.setTop (mkF m 69 #[vr a1, vi p2, vi p3, vi p4, vi 127, vi ((f4 p2 p3 p4) &&& (127 : Int32)), vi (-1)] [(.ref a1)])) _
 obtain ⟨T10, X10, e10, st10⟩ := getF X8 hx hZ hown (host := "") (Or.inl (wd10 hw)) Via.refl e8 F_a1_terms (g := (mkF m 69 #[vr a1, vi p2, vi p3, vi p4, vi 127, vi ((f4 p2 p3 p4) &&& (127 : Int32)), vi (-1)] [(.ref a1)])) rfl rfl (hb hby d3_69)
 refine G st10 ?_
 refine G (fun t k => XS.iconst X10.here hx rfl (hb hby d3_72) (XS.aloadN X10.here hx rfl (hb hby d3_73) rfl rfl k)) ?_
 obtain ⟨T11, X11, e11, st11⟩ := getF X10 hx hZ hown (host := "") (Or.inl (wd25 hw)) Via.refl e10 F_a1_size (g := (mkF m 74 #[vr a1, vi p2, vi p3, vi p4, vi 127, vi ((f4 p2 p3 p4) &&& (127 : Int32)), vi (-1)] [(.ref a1), (.int 3), (.ref w_T)])) rfl rfl (hb hby d3_74)
 refine G st11 ?_
 refine G (fun t k => XS.imul X11.here hx rfl (hb hby d3_77) rfl (XS.iloadN X11.here hx rfl (hb hby d3_78) rfl k)) ?_
 replace V_T : Arv Z h0 w_T k_T .int (192 : Int32) [(.int (0 : Int32))] (.int (0 : Int32)) := V_T.pad (pad_rep [] (.int (0 : Int32)) 1)
 obtain ⟨cl12, Ar12, qq12, Sz12, Ng12, Hs12, Gs12⟩ := id V_T
 have hin12 : ¬ ((0 : Int32) < 0 ∨ cl12.slots.size ≤ ((0 : Int32)).toNatClampNeg) := inb_of Sz12 ⟨by decide, by decide⟩
 obtain ⟨T13, h13, X13, e13, W13, st13⟩ := stI X11 hx hZ e11 Ar12 (j := (0 : Int32)) hin12 (g := (mkF m 79 #[vr a1, vi p2, vi p3, vi p4, vi 127, vi ((f4 p2 p3 p4) &&& (127 : Int32)), vi (-1)] [(.int p2), (.int 0), (.ref w_T)])) rfl rfl (hb hby d3_79)
 refine G st13 ?_
 have N13 := Fr.snoc X13 N3 g_w_T
 replace E_a1 := E_a1.wr W13
 replace F_a1_size := F_a1_size.other W13 (Or.inl (Ne.symm ne_w_T_a1))
 replace F_a1_terms := F_a1_terms.other W13 (Or.inl (Ne.symm ne_w_T_a1))
 replace F_a1_slots := F_a1_slots.other W13 (Or.inl (Ne.symm ne_w_T_a1))
 replace V_S := V_S.other W13 (Ne.symm ne_w_T_w_S)
 replace Z0 := Nat.le_trans Z0 (Nat.le_of_eq W13.size.symm)
 replace K0 := K0.wr W13 (Or.inl (by simp))
 replace V_T : Arv Z h13 w_T k_T .int (192 : Int32) [(.int p2)] (.int (0 : Int32)) := Arv.set Ar12 qq12 Sz12 Ng12 Hs12 Gs12 rfl W13 0 rfl (Nat.le_of_ble_eq_true rfl)
 clear hin12 Gs12 Hs12 Ng12 Sz12 qq12 Ar12 cl12
 show Go _ _ _ (T13.setTop (mkF m 80 #[vr a1, vi p2, vi p3, vi p4, vi 127, vi ((f4 p2 p3 p4) &&& (127 : Int32)), vi (-1)] [])) _
 refine G (fun t k => XS.aloadN X13.here hx rfl (hb hby d3_80) rfl rfl k) ?_
 obtain ⟨T14, X14, e14, st14⟩ := getF X13 hx hZ hown (host := "") (Or.inl (wd10 hw)) Via.refl e13 F_a1_terms (g := (mkF m 81 #[vr a1, vi p2, vi p3, vi p4, vi 127, vi ((f4 p2 p3 p4) &&& (127 : Int32)), vi (-1)] [(.ref a1)])) rfl rfl (hb hby d3_81)
 refine G st14 ?_
 refine G (fun t k => XS.iconst X14.here hx rfl (hb hby d3_84) (XS.aloadN X14.here hx rfl (hb hby d3_85) rfl rfl k)) ?_
 obtain ⟨T15, X15, e15, st15⟩ := getF X14 hx hZ hown (host := "") (Or.inl (wd25 hw)) Via.refl e14 F_a1_size (g := (mkF m 86 #[vr a1, vi p2, vi p3, vi p4, vi 127, vi ((f4 p2 p3 p4) &&& (127 : Int32)), vi (-1)] [(.ref a1), (.int 3), (.ref w_T)])) rfl rfl (hb hby d3_86)
 refine G st15 ?_
 refine G (fun t k => XS.imul X15.here hx rfl (hb hby d3_89) rfl (XS.iconst X15.here hx rfl (hb hby d3_90) k)) ?_
 show Go _ _ _ (T15.setTop (mkF m 91 #[vr a1, vi p2, vi p3, vi p4, vi 127, vi ((f4 p2 p3 p4) &&& (127 : Int32)), vi (-1)] [(.int 1), (.int 0), (.ref w_T)])) _
 refine G (fun t k => XS.iadd X15.here hx rfl (hb hby d3_91) rfl (XS.iloadN X15.here hx rfl (hb hby d3_92) rfl k)) ?_
 replace V_T : Arv Z h13 w_T k_T .int (192 : Int32) [(.int p2), (.int (0 : Int32))] (.int (0 : Int32)) := V_T.pad (pad_rep [(.int p2)] (.int (0 : Int32)) 1)
 obtain ⟨cl16, Ar16, qq16, Sz16, Ng16, Hs16, Gs16⟩ := id V_T
 have hin16 : ¬ ((1 : Int32) < 0 ∨ cl16.slots.size ≤ ((1 : Int32)).toNatClampNeg) := inb_of Sz16 ⟨by decide, by decide⟩
 obtain ⟨T17, h17, X17, e17, W17, st17⟩ := stI X15 hx hZ e15 Ar16 (j := (1 : Int32)) hin16 (g := (mkF m 93 #[vr a1, vi p2, vi p3, vi p4, vi 127, vi ((f4 p2 p3 p4) &&& (127 : Int32)), vi (-1)] [(.int p3), (.int 1), (.ref w_T)])) rfl rfl (hb hby d3_93)
 refine G st17 ?_
 have N17 := Fr.snoc X17 N13 g_w_T
 replace E_a1 := E_a1.wr W17
 replace F_a1_size := F_a1_size.other W17 (Or.inl (Ne.symm ne_w_T_a1))
 replace F_a1_terms := F_a1_terms.other W17 (Or.inl (Ne.symm ne_w_T_a1))
 replace F_a1_slots := F_a1_slots.other W17 (Or.inl (Ne.symm ne_w_T_a1))
 replace V_S := V_S.other W17 (Ne.symm ne_w_T_w_S)
 replace Z0 := Nat.le_trans Z0 (Nat.le_of_eq W17.size.symm)
 replace K0 := K0.wr W17 (Or.inl (by simp))
 replace V_T : Arv Z h17 w_T k_T .int (192 : Int32) [(.int p2), (.int p3)] (.int (0 : Int32)) := Arv.set Ar16 qq16 Sz16 Ng16 Hs16 Gs16 rfl W17 1 rfl (Nat.le_of_ble_eq_true rfl)
 clear hin16 Gs16 Hs16 Ng16 Sz16 qq16 Ar16 cl16
 refine G (fun t k => XS.aloadN X17.here hx rfl (hb hby d3_94) rfl rfl k) ?_
 obtain ⟨T18, X18, e18, st18⟩ := getF X17 hx hZ hown (host := "") (Or.inl (wd10 hw)) Via.refl e17 F_a1_terms (g := (mkF m 95 #[vr a1, vi p2, vi p3, vi p4, vi 127, vi ((f4 p2 p3 p4) &&& (127 : Int32)), vi (-1)] [(.ref a1)])) rfl rfl (hb hby d3_95)
 refine G st18 ?_
 refine G (fun t k => XS.iconst X18.here hx rfl (hb hby d3_98) (XS.aloadN X18.here hx rfl (hb hby d3_99) rfl rfl k)) ?_
 show Go _ _ _ (T18.setTop (mkF m 100 #[vr a1, vi p2, vi p3, vi p4, vi 127, vi ((f4 p2 p3 p4) &&& (127 : Int32)), vi (-1)] [(.ref a1), (.int 3), (.ref w_T)])) _
 obtain ⟨T19, X19, e19, st19⟩ := getF X18 hx hZ hown (host := "") (Or.inl (wd25 hw)) Via.refl e18 F_a1_size (g := (mkF m 100 #[vr a1, vi p2, vi p3, vi p4, vi 127, vi ((f4 p2 p3 p4) &&& (127 : Int32)), vi (-1)] [(.ref a1), (.int 3), (.ref w_T)])) rfl rfl (hb hby d3_100)
 refine G st19 ?_
 refine G (fun t k => XS.imul X19.here hx rfl (hb hby d3_103) rfl (XS.iconst X19.here hx rfl (hb hby d3_104) (XS.iadd X19.here hx rfl (hb hby d3_105) rfl (XS.iloadN X19.here hx rfl (hb hby d3_106) rfl k)))) ?_
 replace V_T : Arv Z h17 w_T k_T .int (192 : Int32) [(.int p2), (.int p3), (.int (0 : Int32))] (.int (0 : Int32)) := V_T.pad (pad_rep [(.int p2), (.int p3)] (.int (0 : Int32)) 1)
 obtain ⟨cl20, Ar20, qq20, Sz20, Ng20, Hs20, Gs20⟩ := id V_T
 have hin20 : ¬ ((2 : Int32) < 0 ∨ cl20.slots.size ≤ ((2 : Int32)).toNatClampNeg) := inb_of Sz20 ⟨by decide, by decide⟩
 obtain ⟨T21, h21, X21, e21, W21, st21⟩ := stI X19 hx hZ e19 Ar20 (j := (2 : Int32)) hin20 (g := (mkF m 107 #[vr a1, vi p2, vi p3, vi p4, vi 127, vi ((f4 p2 p3 p4) &&& (127 : Int32)), vi (-1)] [(.int p4), (.int 2), (.ref w_T)])) rfl rfl (hb hby d3_107)
 refine G st21 ?_
 have N21 := Fr.snoc X21 N17 g_w_T
 obtain ⟨LL21, X21, N21⟩ : ∃ LL, Stand p l e (Rm 1 0 0 16) s m #[(.ref a1), (.int p2), (.int p3), (.int p4)] below meth c T21 LL 0 0 ∧ Fr n0 LL := ⟨_, X21, N21⟩
 replace E_a1 := E_a1.wr W21
 replace F_a1_size := F_a1_size.other W21 (Or.inl (Ne.symm ne_w_T_a1))
 replace F_a1_terms := F_a1_terms.other W21 (Or.inl (Ne.symm ne_w_T_a1))
 replace F_a1_slots := F_a1_slots.other W21 (Or.inl (Ne.symm ne_w_T_a1))
 replace V_S := V_S.other W21 (Ne.symm ne_w_T_w_S)
 replace Z0 := Nat.le_trans Z0 (Nat.le_of_eq W21.size.symm)
 replace K0 := K0.wr W21 (Or.inl (by simp))
 replace V_T : Arv Z h21 w_T k_T .int (192 : Int32) [(.int p2), (.int p3), (.int p4)] (.int (0 : Int32)) := Arv.set Ar20 qq20 Sz20 Ng20 Hs20 Gs20 rfl W21 2 rfl (Nat.le_of_ble_eq_true rfl)
 clear hin20 Gs20 Hs20 Ng20 Sz20 qq20 Ar20 cl20
 refine G (fun t k => XS.aloadN X21.here hx rfl (hb hby d3_108) rfl rfl k) ?_
 show Go _ _ _ (T21.setTop (mkF m 109 #[vr a1, vi p2, vi p3, vi p4, vi 127, vi ((f4 p2 p3 p4) &&& (127 : Int32)), vi (-1)] [(.ref a1)])) _
 obtain ⟨T22, X22, e22, st22⟩ := getF X21 hx hZ hown (host := "") (Or.inl (wd12 hw)) Via.refl e21 F_a1_slots (g := (mkF m 109 #[vr a1, vi p2, vi p3, vi p4, vi 127, vi ((f4 p2 p3 p4) &&& (127 : Int32)), vi (-1)] [(.ref a1)])) rfl rfl (hb hby d3_109)
 refine G st22 ?_
 refine G (fun t k => XS.iload X22.here hx rfl (hb hby d3_112) rfl (XS.aloadN X22.here hx rfl (hb hby d3_114) rfl rfl (XS.dup X22.here hx rfl (hb hby d3_115) rfl rfl k))) ?_
 obtain ⟨T23, X23, e23, st23⟩ := getF X22 hx hZ hown (host := "") (Or.inl (wd25 hw)) Via.refl e22 F_a1_size (g := (mkF m 116 #[vr a1, vi p2, vi p3, vi p4, vi 127, vi ((f4 p2 p3 p4) &&& (127 : Int32)), vi (-1)] [(.ref a1), (.ref a1), (.int ((f4 p2 p3 p4) &&& (127 : Int32))), (.ref w_S)])) rfl rfl (hb hby d3_116)
 refine G st23 ?_
 refine G (fun t k => XS.iconst X23.here hx rfl (hb hby d3_119) (XS.iadd X23.here hx rfl (hb hby d3_120) rfl k)) ?_
 show Go _ _ _ (T23.setTop (mkF m 121 #[vr a1, vi p2, vi p3, vi p4, vi 127, vi ((f4 p2 p3 p4) &&& (127 : Int32)), vi (-1)] [(.int 1), (.ref a1), (.int ((f4 p2 p3 p4) &&& (127 : Int32))), (.ref w_S)])) _
 refine G (fun t k => XS.dupX1 X23.here hx rfl (hb hby d3_121) rfl rfl rfl k) ?_
 obtain ⟨T24, h24, X24, e24, W24, st24⟩ := putF X23 hx hZ hown (host := "") (Or.inl (wd25 hw)) Via.refl e23 F_a1_size E_a1 (Or.inl (wd26 hw)) (wd2 hw) (ty := .int) (by decide) rfl rfl (g := (mkF m 122 #[vr a1, vi p2, vi p3, vi p4, vi 127, vi ((f4 p2 p3 p4) &&& (127 : Int32)), vi (-1)] [(.int 1), (.ref a1), (.int 1), (.int ((f4 p2 p3 p4) &&& (127 : Int32))), (.ref w_S)])) rfl rfl (hb hby d3_122)
 refine G st24 ?_
 have N24 := Fr.snoc X24 N21 g_a1
 replace E_a1 := E_a1.wr W24
 replace F_a1_size := F_a1_size.same W24
 replace F_a1_terms := F_a1_terms.other W24 (sn4 hw)
 replace F_a1_slots := F_a1_slots.other W24 (sn5 hw)
 replace V_T := V_T.other W24 ne_w_T_a1
 replace V_S := V_S.other W24 ne_w_S_a1
 replace Z0 := Nat.le_trans Z0 (Nat.le_of_eq W24.size.symm)
 replace K0 := K0.wr W24 (Or.inl (by simp))
 obtain ⟨cl25, Ar25, qq25, Sz25, Ng25, Hs25, Gs25⟩ := id V_S
 have hin25 : ¬ (((f4 p2 p3 p4) &&& (127 : Int32)) < 0 ∨ cl25.slots.size ≤ (((f4 p2 p3 p4) &&& (127 : Int32))).toNatClampNeg) := inb_of Sz25 (own_127 (f4 p2 p3 p4))
 obtain ⟨T26, h26, X26, e26, W26, st26⟩ := stI X24 hx hZ e24 Ar25 (j := ((f4 p2 p3 p4) &&& (127 : Int32))) hin25 (g := (mkF m 125 #[vr a1, vi p2, vi p3, vi p4, vi 127, vi ((f4 p2 p3 p4) &&& (127 : Int32)), vi (-1)] [(.int 1), (.int ((f4 p2 p3 p4) &&& (127 : Int32))), (.ref w_S)])) rfl rfl (hb hby d3_125)
 refine G st26 ?_
 have N26 := Fr.snoc X26 N24 g_w_S
 replace E_a1 := E_a1.wr W26
 replace F_a1_size := F_a1_size.other W26 (Or.inl (Ne.symm ne_w_S_a1))
 replace F_a1_terms := F_a1_terms.other W26 (Or.inl (Ne.symm ne_w_S_a1))
 replace F_a1_slots := F_a1_slots.other W26 (Or.inl (Ne.symm ne_w_S_a1))
 replace V_T := V_T.other W26 ne_w_T_w_S
 replace Z0 := Nat.le_trans Z0 (Nat.le_of_eq W26.size.symm)
 replace K0 := K0.wr W26 (Or.inl (by simp))
 replace V_S : Arh Z h26 w_S k_S .int (128 : Int32) [(((f4 p2 p3 p4) &&& (127 : Int32)), (.int (1 : Int32)))] [] (.int (0 : Int32)) := Arh.push Ar25 qq25 Sz25 Ng25 Hs25 Gs25 rfl W26 hin25
 show Go _ _ _ (T26.setTop (mkF m 126 #[vr a1, vi p2, vi p3, vi p4, vi 127, vi ((f4 p2 p3 p4) &&& (127 : Int32)), vi (-1)] [])) _
 refine G (fun t k => XS.iconst X26.here hx rfl (hb hby d3_126) (XS.aloadN X26.here hx rfl (hb hby d3_127) rfl rfl k)) ?_
 obtain ⟨T27, X27, e27, st27⟩ := getF X26 hx hZ hown (host := "") (Or.inl (wd25 hw)) Via.refl e26 F_a1_size (g := (mkF m 128 #[vr a1, vi p2, vi p3, vi p4, vi 127, vi ((f4 p2 p3 p4) &&& (127 : Int32)), vi (-1)] [(.ref a1), (.int 2)])) rfl rfl (hb hby d3_128)
 refine G st27 ?_
 refine G (fun t k => XS.imul X27.here hx rfl (hb hby d3_131) rfl (XS.aloadN X27.here hx rfl (hb hby d3_132) rfl rfl k)) ?_
 obtain ⟨T28, X28, e28, st28⟩ := getF X27 hx hZ hown (host := "") (Or.inl (wd12 hw)) Via.refl e27 F_a1_slots (g := (mkF m 133 #[vr a1, vi p2, vi p3, vi p4, vi 127, vi ((f4 p2 p3 p4) &&& (127 : Int32)), vi (-1)] [(.ref a1), (.int 2)])) rfl rfl (hb hby d3_133)
 refine G st28 ?_
 obtain ⟨cl29, Ar29, -, Sz29, Ng29, -, -⟩ := id V_S
 refine G (fun t k => X28.arraylength hx (by rw [e28]; exact Ar29.1) (State.isArrayOf_alike hZ.alike Ar29.2.1) (g := (mkF m 136 #[vr a1, vi p2, vi p3, vi p4, vi 127, vi ((f4 p2 p3 p4) &&& (127 : Int32)), vi (-1)] [(.ref w_S), (.int 2)])) rfl rfl (hb hby d3_136) _ k) ?_
 rw [len_of Sz29 Ng29]
 clear Ng29 Sz29 Ar29 cl29
 show Go _ _ _ (T28.setTop (mkF m 137 #[vr a1, vi p2, vi p3, vi p4, vi 127, vi ((f4 p2 p3 p4) &&& (127 : Int32)), vi (-1)] [(.int 128), (.int 2)])) _
 refine G (fun t k => XS.icmpYes X28.here hx rfl (pc0 := 137) (pc' := 151) rfl (hb hby d3_137) rfl (flt (by decide : ¬ ((128 : Int32) < (2 : Int32)))).2.2.2 (by decide) (by decide) (XS.iconst X28.here hx rfl (hb hby d3_151) k)) ?_
 obtain ⟨fs, hr, hrun, hended, hW, hsame⟩ := X28.leave (v := some (.int (1 : Int32))) (fun h => by rw [Bd.returns] at h; cases h)
 refine Go.fin (retN X28 hx (t := .boolean) Bd.returns (by simp) (hb hby d3_152) hr) hrun hended ⟨_, _, rfl, ?_, ⟨_, rfl⟩, hW, hsame.mono (by decide) (by decide)⟩
 show Q3n0 Z a1 p2 p3 p4 w_T w_S k_T k_S h0 n0 _ T28.heap _
 rw [e28]
 exact ⟨rfl, N26, K0, E_a1, F_a1_size, F_a1_terms, F_a1_slots, V_T, V_S⟩
theorem d3_198 : decode cB3 198 = .ok (.iload 5, 2) := by decide +kernel
theorem d3_200 : decode cB3 200 = .ok (.iconst 1, 1) := by decide +kernel
theorem d3_201 : decode cB3 201 = .ok (.iadd, 1) := by decide +kernel
theorem d3_202 : decode cB3 202 = .ok (.iload 4, 2) := by decide +kernel
theorem d3_204 : decode cB3 204 = .ok (.iand, 1) := by decide +kernel
theorem d3_205 : decode cB3 205 = .ok (.istore 5, 2) := by decide +kernel
theorem d3_207 : decode cB3 207 = .ok (.goto (-187), 3) := by decide +kernel
theorem d3_153 : decode cB3 153 = .ok (.aload_n 0, 1) := by decide +kernel
theorem d3_154 : decode cB3 154 = .ok (.getfield 7, 3) := by decide +kernel
theorem d3_157 : decode cB3 157 = .ok (.iconst 3, 1) := by decide +kernel
theorem d3_158 : decode cB3 158 = .ok (.iload 6, 2) := by decide +kernel
theorem d3_160 : decode cB3 160 = .ok (.imul, 1) := by decide +kernel
theorem d3_161 : decode cB3 161 = .ok (.iaload, 1) := by decide +kernel
theorem d3_162 : decode cB3 162 = .ok (.iload_n 1, 1) := by decide +kernel
theorem d3_163 : decode cB3 163 = .ok (.if_icmp .ne 35, 3) := by decide +kernel
theorem d3_166 : decode cB3 166 = .ok (.aload_n 0, 1) := by decide +kernel
theorem d3_167 : decode cB3 167 = .ok (.getfield 7, 3) := by decide +kernel
theorem d3_170 : decode cB3 170 = .ok (.iconst 3, 1) := by decide +kernel
theorem d3_171 : decode cB3 171 = .ok (.iload 6, 2) := by decide +kernel
theorem d3_173 : decode cB3 173 = .ok (.imul, 1) := by decide +kernel
theorem d3_174 : decode cB3 174 = .ok (.iconst 1, 1) := by decide +kernel
theorem d3_175 : decode cB3 175 = .ok (.iadd, 1) := by decide +kernel
theorem d3_176 : decode cB3 176 = .ok (.iaload, 1) := by decide +kernel
theorem d3_177 : decode cB3 177 = .ok (.iload_n 2, 1) := by decide +kernel
theorem d3_178 : decode cB3 178 = .ok (.if_icmp .ne 20, 3) := by decide +kernel
theorem d3_181 : decode cB3 181 = .ok (.aload_n 0, 1) := by decide +kernel
theorem d3_182 : decode cB3 182 = .ok (.getfield 7, 3) := by decide +kernel
theorem d3_185 : decode cB3 185 = .ok (.iconst 3, 1) := by decide +kernel
theorem d3_186 : decode cB3 186 = .ok (.iload 6, 2) := by decide +kernel
theorem d3_188 : decode cB3 188 = .ok (.imul, 1) := by decide +kernel
theorem d3_189 : decode cB3 189 = .ok (.iconst 2, 1) := by decide +kernel
theorem d3_190 : decode cB3 190 = .ok (.iadd, 1) := by decide +kernel
theorem d3_191 : decode cB3 191 = .ok (.iaload, 1) := by decide +kernel
theorem d3_192 : decode cB3 192 = .ok (.iload_n 3, 1) := by decide +kernel
theorem d3_193 : decode cB3 193 = .ok (.if_icmp .ne 5, 3) := by decide +kernel
def f3n1_w_S_i0 (p2 : Int32) (p3 : Int32) (p4 : Int32) (i1 : Int32) : Int32 := (if ((f4 p2 p3 p4) &&& (127 : Int32)) = i1 then ((((f4 p2 p3 p4) &&& (127 : Int32)) + (1 : Int32)) &&& (127 : Int32)) else ((f4 p2 p3 p4) &&& (127 : Int32)))
def Q3n1 (Z : State) (a1 : Addr) (p2 : Int32) (p3 : Int32) (p4 : Int32) (w_T : Addr) (w_S : Addr) (k_T : ClassId) (k_S : ClassId) (t0 : Int32) (t1 : Int32) (t2 : Int32) (i1 : Int32) (h0 : Heap) (n0 : Nat) (v : Option Value) (h : Heap) (L : List Loc) : Prop := v = some (.int (1 : Int32)) ∧ Fr n0 L ∧ Keep h0 h [w_T, a1, w_S] ∧ Exa Z h a1 TC ∧ Fld Z h a1 TC "size" "I" (.int (2 : Int32)) ∧ Fld Z h a1 TC "terms" "[I" (.ref w_T) ∧ Fld Z h a1 TC "slots" "[I" (.ref w_S) ∧ Arv Z h w_T k_T .int (192 : Int32) [(.int t0), (.int t1), (.int t2), (.int p2), (.int p3), (.int p4)] (.int (0 : Int32)) ∧ Arh Z h w_S k_S .int (128 : Int32) [((f3n1_w_S_i0 p2 p3 p4 i1), (.int (2 : Int32))), (i1, (.int (1 : Int32)))] [] (.int (0 : Int32))
theorem ef3n1 (m : MethodId) (x0 : Addr) (x1 : Int32) (x2 : Int32) (x3 : Int32) : entryFrame m #[(.ref x0), (.int x1), (.int x2), (.int x3)] 7 = mkF m 0 #[.val (.ref x0), .val (.int x1), .val (.int x2), .val (.int x3), .unset, .unset, .unset] [] := by first | (simp [entryFrame, mkF, argsToLocals, Value.category]; done) | rfl
theorem rm3n1 (l : Launch) (Z : State) (a0 : Array Value) (hw : HW a0 Z) (ws : List Jvm.Cond) (a1 : Addr) (p2 : Int32) (p3 : Int32) (p4 : Int32) (w_T : Addr) (w_S : Addr) (k_T : ClassId) (k_S : ClassId) (t0 : Int32) (t1 : Int32) (t2 : Int32) (i1 : Int32) (h0 : Heap) (n0 : Nat) (Z0 : n0 ≤ h0.size) (E_a1 : Exa Z h0 a1 TC) (F_a1_size : Fld Z h0 a1 TC "size" "I" (.int (1 : Int32))) (F_a1_terms : Fld Z h0 a1 TC "terms" "[I" (.ref w_T)) (F_a1_slots : Fld Z h0 a1 TC "slots" "[I" (.ref w_S)) (V_T : Arv Z h0 w_T k_T .int (192 : Int32) [(.int t0), (.int t1), (.int t2)] (.int (0 : Int32))) (V_S : Arh Z h0 w_S k_S .int (128 : Int32) [(i1, (.int (1 : Int32)))] [] (.int (0 : Int32))) (ne_w_T_a1 : w_T ≠ a1) (ne_w_S_a1 : w_S ≠ a1) (ne_w_T_w_S : w_T ≠ w_S) (hne1 : ¬ (t0 = p2 ∧ t1 = p3 ∧ t2 = p4)) (g_w_T : n0 ≤ w_T) (g_a1 : n0 ≤ a1) (g_w_S : n0 ≤ w_S) :
  MetFree l (⟨TC, "add", "(III)Z"⟩ : MethodName) (head1 (Jvm.Cond.code (⟨TC, "add", "(III)Z"⟩ : MethodName) cB3 7 (some .boolean) :: ws) (Rm 1 0 0 16)) (Pr Z h0 #[(.ref a1), (.int p2), (.int p3), (.int p4)]) Tr (fun _ U o U' => ∃ v L, o = .returned v ∧ Q3n1 Z a1 p2 p3 p4 w_T w_S k_T k_S t0 t1 t2 i1 h0 n0 v U'.heap L ∧ FrameEnd U o U' L (Rm 1 0 0 16).cells (Rm 1 0 0 16).slots) := by
 refine MetFree.of_bodySF (plainFor_of_name pn0) hisR ?_
 intro p e s m args below meth c s₁ Bd hml0 hP hK
 obtain ⟨rfl, hZ, hh⟩ := hP
 have hx := Bd.exec
 have hby := Bd.bytes
 have hml : c.maxLocals = 7 := hml0
 have hown : s.vm.findClass TC = some m.cls := findClass_of_methodNamed Bd.named
 have hnm := (name_of_methodNamed Bd.named Bd.method).1
 have X0 : Stand p l e (Rm 1 0 0 16) s m #[(.ref a1), (.int p2), (.int p3), (.int p4)] below meth c s₁ [] 0 0 := Stand.of_body Bd
 have e0 : s₁.heap = h0 := by rw [← hh, Bd.state]; rfl
 have N0 := Fr.nil n0
 have K0 : Keep h0 h0 [w_T, a1, w_S] := Keep.refl h0 _
 refine G (P := fun o U' => ∃ v L, o = .returned v ∧ Q3n1 Z a1 p2 p3 p4 w_T w_S k_T k_S t0 t1 t2 i1 h0 n0 v U'.heap L ∧ FrameEnd s o U' L (Rm 1 0 0 16).cells (Rm 1 0 0 16).slots) (fun t k => castTop (ef3n1 m a1 p2 p3 p4) k) ?_
 show Go _ _ _ (s₁.setTop (mkF m 0 #[vr a1, vi p2, vi p3, vi p4, us, us, us] [])) _
 refine G (fun t k => XS.aloadN X0.here hx rfl (hb hby d3_0) rfl rfl k) ?_
 obtain ⟨T1, X1, e1, st1⟩ := getF X0 hx hZ hown (host := "") (Or.inl (wd12 hw)) Via.refl e0 F_a1_slots (g := (mkF m 1 #[vr a1, vi p2, vi p3, vi p4, us, us, us] [(.ref a1)])) rfl rfl (hb hby d3_1)
 refine G st1 ?_
 obtain ⟨cl2, Ar2, -, Sz2, Ng2, -, -⟩ := id V_S
 refine G (fun t k => X1.arraylength hx (by rw [e1]; exact Ar2.1) (State.isArrayOf_alike hZ.alike Ar2.2.1) (g := (mkF m 4 #[vr a1, vi p2, vi p3, vi p4, us, us, us] [(.ref w_S)])) rfl rfl (hb hby d3_4) _ k) ?_
 rw [len_of Sz2 Ng2]
 clear Ng2 Sz2 Ar2 cl2
 refine G (fun t k => XS.iconst X1.here hx rfl (hb hby d3_5) (XS.isub X1.here hx rfl (hb hby d3_6) rfl (XS.istore X1.here hx rfl (hb hby d3_7) rfl (l' := #[vr a1, vi p2, vi p3, vi p4, vi 127, us, us]) rfl (XS.iloadN X1.here hx rfl (hb hby d3_9) rfl k)))) ?_
 show Go _ _ _ (T1.setTop (mkF m 10 #[vr a1, vi p2, vi p3, vi p4, vi 127, us, us] [(.int p2)])) _
 refine G (fun t k => XS.iloadN X1.here hx rfl (hb hby d3_10) rfl (XS.iloadN X1.here hx rfl (hb hby d3_11) rfl k)) ?_
 obtain ⟨_, _, ⟨T3, L3, k3, n3⟩, -, X3, ⟨Lc3, hQ3, l3, y3, z3⟩, st3⟩ := Jvm.LawKit.callS X1 hx (y := (⟨TC, "hash", "(III)I"⟩ : MethodName)) hown (mvT hZ (wd19 hw)) (mvT hZ (wd20 hw)) (mvT hZ (wd3 hw)) (mvT hZ (wd21 hw)) (by decide) (backOf (W := 0) (rm4 l Z a0 hw [] p2 p3 p4 h0 n0 Z0) hZ (wd21 hw) (wd3 hw) (by decide) (by decide)) (g := (mkF m 12 #[vr a1, vi p2, vi p3, vi p4, vi 127, us, us] [(.int p4), (.int p3), (.int p2)])) rfl (by rw [hml]; rfl) (argsL := [(.int p2), (.int p3), (.int p4)]) (rest := []) (lenOf pd0 rfl) rfl (by show 2 * 0 + _ ≤ _; exact Nat.le_of_eq rfl) (hb hby d3_12) (fun _ _ => ⟨rfl, e1, (by decide : 0 + 0 ≤ _), (by decide : 0 + 0 ≤ _)⟩)
 dsimp only [Pt.U, Pt.locs, Pt.cells, Pt.slots] at X3 l3 y3 z3 st3 hQ3
 subst l3 y3 z3
 refine G st3 ?_
 obtain ⟨rfl, N3q, e3⟩ := hQ3
 have N3 := Fr.app N0 N3q
 refine G (fun t k => XS.iload X3.here hx rfl (hb hby d3_15) rfl (XS.iand X3.here hx rfl (hb hby d3_17) rfl (XS.istore X3.here hx rfl (hb hby d3_18) rfl (l' := #[vr a1, vi p2, vi p3, vi p4, vi 127, vi ((f4 p2 p3 p4) &&& (127 : Int32)), us]) rfl (XS.aloadN X3.here hx rfl (hb hby d3_20) rfl rfl k)))) ?_
 show Go _ _ _ (T3.setTop (mkF m 21 #[vr a1, vi p2, vi p3, vi p4, vi 127, vi ((f4 p2 p3 p4) &&& (127 : Int32)), us] [(.ref a1)])) _
 obtain ⟨T4, X4, e4, st4⟩ := getF X3 hx hZ hown (host := "") (Or.inl (wd12 hw)) Via.refl e3 F_a1_slots (g := (mkF m 21 #[vr a1, vi p2, vi p3, vi p4, vi 127, vi ((f4 p2 p3 p4) &&& (127 : Int32)), us] [(.ref a1)])) rfl rfl (hb hby d3_21)
 refine G st4 ?_
 refine G (fun t k => XS.iload X4.here hx rfl (hb hby d3_24) rfl k) ?_
 by_cases hc6 : ((f4 p2 p3 p4) &&& (127 : Int32)) = i1
 ·obtain ⟨cl7, Ar7, -, Sz7, Ng7, Hs7, -⟩ := id V_S
  have hin7 : ¬ (((f4 p2 p3 p4) &&& (127 : Int32)) < 0 ∨ cl7.slots.size ≤ (((f4 p2 p3 p4) &&& (127 : Int32))).toNatClampNeg) := inb_of Sz7 (own_127 (f4 p2 p3 p4))
  refine G (fun t k => X4.iaload hx (j := ((f4 p2 p3 p4) &&& (127 : Int32))) (v := (.int (1 : Int32))) (by rw [e4]; exact Ar7.1) (State.isArrayOf_alike hZ.alike Ar7.2.1) Ar7.2.2 hin7 (atH Hs7 hin7 (getH_hit ((own_127 (f4 p2 p3 p4))).1 hc6)) (g := (mkF m 26 #[vr a1, vi p2, vi p3, vi p4, vi 127, vi ((f4 p2 p3 p4) &&& (127 : Int32)), us] [(.int ((f4 p2 p3 p4) &&& (127 : Int32))), (.ref w_S)])) rfl rfl (hb hby d3_26) _ k) ?_
  show Go _ _ _ (T4.setTop (mkF m 27 #[vr a1, vi p2, vi p3, vi p4, vi 127, vi ((f4 p2 p3 p4) &&& (127 : Int32)), us] [(.int 1)])) _
  refine G (fun t k => XS.iconst X4.here hx rfl (hb hby d3_27) (XS.isub X4.here hx rfl (hb hby d3_28) rfl (XS.istore X4.here hx rfl (hb hby d3_29) rfl (l' := #[vr a1, vi p2, vi p3, vi p4, vi 127, vi ((f4 p2 p3 p4) &&& (127 : Int32)), vi 0]) rfl (XS.iload X4.here hx rfl (hb hby d3_31) rfl (XS.ifYes X4.here hx rfl (pc0 := 33) (pc' := 153) rfl (hb hby d3_33) rfl ((if0 _ _).trans (flt (by decide : ¬ ((0 : Int32) < (0 : Int32)))).2.1) (by decide) (by decide) k))))) ?_
  show Go _ _ _ (T4.setTop (mkF m 153 #[vr a1, vi p2, vi p3, vi p4, vi 127, vi ((f4 p2 p3 p4) &&& (127 : Int32)), vi 0] [])) _
  have J8 : ∀ (TJ : State) (locsJ : List Loc), Stand p l e (Rm 1 0 0 16) s m #[(.ref a1), (.int p2), (.int p3), (.int p4)] below meth c TJ locsJ 0 0 → TJ.heap = h0 → Fr n0 locsJ → Go p.tables e below (TJ.setTop (mkF m 198 #[vr a1, vi p2, vi p3, vi p4, vi 127, vi ((f4 p2 p3 p4) &&& (127 : Int32)), vi 0] [])) (fun o U' => ∃ v L, o = .returned v ∧ Q3n1 Z a1 p2 p3 p4 w_T w_S k_T k_S t0 t1 t2 i1 h0 n0 v U'.heap L ∧ FrameEnd s o U' L (Rm 1 0 0 16).cells (Rm 1 0 0 16).slots) := by
   intro TJ locsJ XJ eJ NJ
   refine G (fun t k => XS.iload XJ.here hx rfl (hb hby d3_198) rfl (XS.iconst XJ.here hx rfl (hb hby d3_200) (XS.iadd XJ.here hx rfl (hb hby d3_201) rfl (XS.iload XJ.here hx rfl (hb hby d3_202) rfl (XS.iand XJ.here hx rfl (hb hby d3_204) rfl (XS.istore XJ.here hx rfl (hb hby d3_205) rfl (l' := #[vr a1, vi p2, vi p3, vi p4, vi 127, vi ((((f4 p2 p3 p4) &&& (127 : Int32)) + (1 : Int32)) &&& (127 : Int32)), vi 0]) rfl k)))))) ?_
   refine G (fun t k => XS.goto XJ.here hx rfl (pc0 := 207) (pc' := 20) rfl (hb hby d3_207) (by decide) (by decide) k) ?_
   show Go _ _ _ (TJ.setTop (mkF m 20 #[vr a1, vi p2, vi p3, vi p4, vi 127, vi ((((f4 p2 p3 p4) &&& (127 : Int32)) + (1 : Int32)) &&& (127 : Int32)), vi 0] [])) _
   refine G (fun t k => XS.aloadN XJ.here hx rfl (hb hby d3_20) rfl rfl k) ?_
   obtain ⟨T9, X9, e9, st9⟩ := getF XJ hx hZ hown (host := "") (Or.inl (wd12 hw)) Via.refl eJ F_a1_slots (g := (mkF m 21 #[vr a1, vi p2, vi p3, vi p4, vi 127, vi ((((f4 p2 p3 p4) &&& (127 : Int32)) + (1 : Int32)) &&& (127 : Int32)), vi 0] [(.ref a1)])) rfl rfl (hb hby d3_21)
   refine G st9 ?_
   refine G (fun t k => XS.iload X9.here hx rfl (hb hby d3_24) rfl k) ?_
   have hf11 : ¬ (((((f4 p2 p3 p4) &&& (127 : Int32)) + (1 : Int32)) &&& (127 : Int32)) = i1) := fun z => own_n1 _ (z.trans hc6.symm)
   obtain ⟨cl12, Ar12, -, Sz12, Ng12, Hs12, -⟩ := id V_S
   have hin12 : ¬ (((((f4 p2 p3 p4) &&& (127 : Int32)) + (1 : Int32)) &&& (127 : Int32)) < 0 ∨ cl12.slots.size ≤ (((((f4 p2 p3 p4) &&& (127 : Int32)) + (1 : Int32)) &&& (127 : Int32))).toNatClampNeg) := inb_of Sz12 (own_127 (((f4 p2 p3 p4) &&& (127 : Int32)) + (1 : Int32)))
   refine G (fun t k => X9.iaload hx (j := ((((f4 p2 p3 p4) &&& (127 : Int32)) + (1 : Int32)) &&& (127 : Int32))) (v := (.int (0 : Int32))) (by rw [e9]; exact Ar12.1) (State.isArrayOf_alike hZ.alike Ar12.2.1) Ar12.2.2 hin12 (atH Hs12 hin12 (getH_miss ((own_127 (((f4 p2 p3 p4) &&& (127 : Int32)) + (1 : Int32)))).1 hf11 rfl)) (g := (mkF m 26 #[vr a1, vi p2, vi p3, vi p4, vi 127, vi ((((f4 p2 p3 p4) &&& (127 : Int32)) + (1 : Int32)) &&& (127 : Int32)), vi 0] [(.int ((((f4 p2 p3 p4) &&& (127 : Int32)) + (1 : Int32)) &&& (127 : Int32))), (.ref w_S)])) rfl rfl (hb hby d3_26) _ k) ?_
   show Go _ _ _ (T9.setTop (mkF m 27 #[vr a1, vi p2, vi p3, vi p4, vi 127, vi ((((f4 p2 p3 p4) &&& (127 : Int32)) + (1 : Int32)) &&& (127 : Int32)), vi 0] [(.int 0)])) _
   refine G (fun t k => XS.iconst X9.here hx rfl (hb hby d3_27) (XS.isub X9.here hx rfl (hb hby d3_28) rfl (XS.istore X9.here hx rfl (hb hby d3_29) rfl (l' := #[vr a1, vi p2, vi p3, vi p4, vi 127, vi ((((f4 p2 p3 p4) &&& (127 : Int32)) + (1 : Int32)) &&& (127 : Int32)), vi (-1)]) rfl (XS.iload X9.here hx rfl (hb hby d3_31) rfl (XS.ifNo X9.here hx rfl (hb hby d3_33) rfl ((if0 _ _).trans (tlt (by decide : (-1 : Int32) < (0 : Int32))).2.1) (XS.aloadN X9.here hx rfl (hb hby d3_36) rfl rfl k)))))) ?_
   obtain ⟨T13, X13, e13, st13⟩ := getF X9 hx hZ hown (host := "") (Or.inl (wd25 hw)) Via.refl e9 F_a1_size (g := (mkF m 37 #[vr a1, vi p2, vi p3, vi p4, vi 127, vi ((((f4 p2 p3 p4) &&& (127 : Int32)) + (1 : Int32)) &&& (127 : Int32)), vi (-1)] [(.ref a1)])) rfl rfl (hb hby d3_37)
   refine G st13 ?_
   show Go _ _ _ (T13.setTop (mkF m 40 #[vr a1, vi p2, vi p3, vi p4, vi 127, vi ((((f4 p2 p3 p4) &&& (127 : Int32)) + (1 : Int32)) &&& (127 : Int32)), vi (-1)] [(.int 1)])) _
   refine G (fun t k => XS.aloadN X13.here hx rfl (hb hby d3_40) rfl rfl k) ?_
   obtain ⟨T14, X14, e14, st14⟩ := getF X13 hx hZ hown (host := "") (Or.inl (wd10 hw)) Via.refl e13 F_a1_terms (g := (mkF m 41 #[vr a1, vi p2, vi p3, vi p4, vi 127, vi ((((f4 p2 p3 p4) &&& (127 : Int32)) + (1 : Int32)) &&& (127 : Int32)), vi (-1)] [(.ref a1), (.int 1)])) rfl rfl (hb hby d3_41)
   refine G st14 ?_
   obtain ⟨cl15, Ar15, -, Sz15, Ng15, -, -⟩ := id V_T
   refine G (fun t k => X14.arraylength hx (by rw [e14]; exact Ar15.1) (State.isArrayOf_alike hZ.alike Ar15.2.1) (g := (mkF m 44 #[vr a1, vi p2, vi p3, vi p4, vi 127, vi ((((f4 p2 p3 p4) &&& (127 : Int32)) + (1 : Int32)) &&& (127 : Int32)), vi (-1)] [(.ref w_T), (.int 1)])) rfl rfl (hb hby d3_44) _ k) ?_
   rw [len_of Sz15 Ng15]
   clear Ng15 Sz15 Ar15 cl15
   refine G (fun t k => XS.iconst X14.here hx rfl (hb hby d3_45) (XS.idiv X14.here hx rfl (hb hby d3_46) rfl (by decide) (XS.icmpYes X14.here hx rfl (pc0 := 47) (pc' := 68) rfl (hb hby d3_47) rfl (feq (by decide : ¬ ((1 : Int32) = (64 : Int32)))).2 (by decide) (by decide) (XS.aloadN X14.here hx rfl (hb hby d3_68) rfl rfl k)))) ?_
   show Go _ _ _ (T14.setTop (mkF m 69 #[vr a1, vi p2, vi p3, vi p4, vi 127, vi ((((f4 p2 p3 p4) &&& (127 : Int32)) + (1 : Int32)) &&& (127 : Int32)), vi (-1)] [(.ref a1)])) _
   obtain ⟨T16, X16, e16, st16⟩ := getF X14 hx hZ hown (host := "") (Or.inl (wd10 hw)) Via.refl e14 F_a1_terms (g := (mkF m 69 #[vr a1, vi p2, vi p3, vi p4, vi 127, vi ((((f4 p2 p3 p4) &&& (127 : Int32)) + (1 : Int32)) &&& (127 : Int32)), vi (-1)] [(.ref a1)])) rfl rfl (hb hby d3_69)
   refine G st16 ?_
   refine G (fun t k => XS.iconst X16.here hx rfl (hb hby d3_72) (XS.aloadN X16.here hx rfl (hb hby d3_73) rfl rfl k)) ?_
   obtain ⟨T17, X17, e17, st17⟩ := getF X16 hx hZ hown (host := "") (Or.inl (wd25 hw)) Via.refl e16 F_a1_size (g := (mkF m 74 #[vr a1, vi p2, vi p3, vi p4, vi 127, vi ((((f4 p2 p3 p4) &&& (127 : Int32)) + (1 : Int32)) &&& (127 : Int32)), vi (-1)] [(.ref a1), (.int 3), (.ref w_T)])) rfl rfl (hb hby d3_74)
   refine G st17 ?_
   refine G (fun t k => XS.imul X17.here hx rfl (hb hby d3_77) rfl (XS.iloadN X17.here hx rfl (hb hby d3_78) rfl k)) ?_
   replace V_T : Arv Z h0 w_T k_T .int (192 : Int32) [(.int t0), (.int t1), (.int t2), (.int (0 : Int32))] (.int (0 : Int32)) := V_T.pad (pad_rep [(.int t0), (.int t1), (.int t2)] (.int (0 : Int32)) 1)
   obtain ⟨cl18, Ar18, qq18, Sz18, Ng18, Hs18, Gs18⟩ := id V_T
   have hin18 : ¬ ((3 : Int32) < 0 ∨ cl18.slots.size ≤ ((3 : Int32)).toNatClampNeg) := inb_of Sz18 ⟨by decide, by decide⟩
   obtain ⟨T19, h19, X19, e19, W19, st19⟩ := stI X17 hx hZ e17 Ar18 (j := (3 : Int32)) hin18 (g := (mkF m 79 #[vr a1, vi p2, vi p3, vi p4, vi 127, vi ((((f4 p2 p3 p4) &&& (127 : Int32)) + (1 : Int32)) &&& (127 : Int32)), vi (-1)] [(.int p2), (.int 3), (.ref w_T)])) rfl rfl (hb hby d3_79)
   refine G st19 ?_
   have N19 := Fr.snoc X19 NJ g_w_T
   replace E_a1 := E_a1.wr W19
   replace F_a1_size := F_a1_size.other W19 (Or.inl (Ne.symm ne_w_T_a1))
   replace F_a1_terms := F_a1_terms.other W19 (Or.inl (Ne.symm ne_w_T_a1))
   replace F_a1_slots := F_a1_slots.other W19 (Or.inl (Ne.symm ne_w_T_a1))
   replace V_S := V_S.other W19 (Ne.symm ne_w_T_w_S)
   replace Z0 := Nat.le_trans Z0 (Nat.le_of_eq W19.size.symm)
   replace K0 := K0.wr W19 (Or.inl (by simp))
   replace V_T : Arv Z h19 w_T k_T .int (192 : Int32) [(.int t0), (.int t1), (.int t2), (.int p2)] (.int (0 : Int32)) := Arv.set Ar18 qq18 Sz18 Ng18 Hs18 Gs18 rfl W19 3 rfl (Nat.le_of_ble_eq_true rfl)
   clear hin18 Gs18 Hs18 Ng18 Sz18 qq18 Ar18 cl18
   show Go _ _ _ (T19.setTop (mkF m 80 #[vr a1, vi p2, vi p3, vi p4, vi 127, vi ((((f4 p2 p3 p4) &&& (127 : Int32)) + (1 : Int32)) &&& (127 : Int32)), vi (-1)] [])) _
   refine G (fun t k => XS.aloadN X19.here hx rfl (hb hby d3_80) rfl rfl k) ?_
   obtain ⟨T20, X20, e20, st20⟩ := getF X19 hx hZ hown (host := "") (Or.inl (wd10 hw)) Via.refl e19 F_a1_terms (g := (mkF m 81 #[vr a1, vi p2, vi p3, vi p4, vi 127, vi ((((f4 p2 p3 p4) &&& (127 : Int32)) + (1 : Int32)) &&& (127 : Int32)), vi (-1)] [(.ref a1)])) rfl rfl (hb hby d3_81)
   refine G st20 ?_
   refine G (fun t k => XS.iconst X20.here hx rfl (hb hby d3_84) (XS.aloadN X20.here hx rfl (hb hby d3_85) rfl rfl k)) ?_
   obtain ⟨T21, X21, e21, st21⟩ := getF X20 hx hZ hown (host := "") (Or.inl (wd25 hw)) Via.refl e20 F_a1_size (g := (mkF m 86 #[vr a1, vi p2, vi p3, vi p4, vi 127, vi ((((f4 p2 p3 p4) &&& (127 : Int32)) + (1 : Int32)) &&& (127 : Int32)), vi (-1)] [(.ref a1), (.int 3), (.ref w_T)])) rfl rfl (hb hby d3_86)
   refine G st21 ?_
   refine G (fun t k => XS.imul X21.here hx rfl (hb hby d3_89) rfl (XS.iconst X21.here hx rfl (hb hby d3_90) k)) ?_
   show Go _ _ _ (T21.setTop (mkF m 91 #[vr a1, vi p2, vi p3, vi p4, vi 127, vi ((((f4 p2 p3 p4) &&& (127 : Int32)) + (1 : Int32)) &&& (127 : Int32)), vi (-1)] [(.int 1), (.int 3), (.ref w_T)])) _
   refine G (fun t k => XS.iadd X21.here hx rfl (hb hby d3_91) rfl (XS.iloadN X21.here hx rfl (hb hby d3_92) rfl k)) ?_
   replace V_T : Arv Z h19 w_T k_T .int (192 : Int32) [(.int t0), (.int t1), (.int t2), (.int p2), (.int (0 : Int32))] (.int (0 : Int32)) := V_T.pad (pad_rep [(.int t0), (.int t1), (.int t2), (.int p2)] (.int (0 : Int32)) 1)
   obtain ⟨cl22, Ar22, qq22, Sz22, Ng22, Hs22, Gs22⟩ := id V_T
   have hin22 : ¬ ((4 : Int32) < 0 ∨ cl22.slots.size ≤ ((4 : Int32)).toNatClampNeg) := inb_of Sz22 ⟨by decide, by decide⟩
   obtain ⟨T23, h23, X23, e23, W23, st23⟩ := stI X21 hx hZ e21 Ar22 (j := (4 : Int32)) hin22 (g := (mkF m 93 #[vr a1, vi p2, vi p3, vi p4, vi 127, vi ((((f4 p2 p3 p4) &&& (127 : Int32)) + (1 : Int32)) &&& (127 : Int32)), vi (-1)] [(.int p3), (.int 4), (.ref w_T)])) rfl rfl (hb hby d3_93)
   refine G st23 ?_
   have N23 := Fr.snoc X23 N19 g_w_T
   replace E_a1 := E_a1.wr W23
   replace F_a1_size := F_a1_size.other W23 (Or.inl (Ne.symm ne_w_T_a1))
   replace F_a1_terms := F_a1_terms.other W23 (Or.inl (Ne.symm ne_w_T_a1))
   replace F_a1_slots := F_a1_slots.other W23 (Or.inl (Ne.symm ne_w_T_a1))
   replace V_S := V_S.other W23 (Ne.symm ne_w_T_w_S)
   replace Z0 := Nat.le_trans Z0 (Nat.le_of_eq W23.size.symm)
   replace K0 := K0.wr W23 (Or.inl (by simp))
   replace V_T : Arv Z h23 w_T k_T .int (192 : Int32) [(.int t0), (.int t1), (.int t2), (.int p2), (.int p3)] (.int (0 : Int32)) := Arv.set Ar22 qq22 Sz22 Ng22 Hs22 Gs22 rfl W23 4 rfl (Nat.le_of_ble_eq_true rfl)
   clear hin22 Gs22 Hs22 Ng22 Sz22 qq22 Ar22 cl22
   refine G (fun t k => XS.aloadN X23.here hx rfl (hb hby d3_94) rfl rfl k) ?_
   obtain ⟨T24, X24, e24, st24⟩ := getF X23 hx hZ hown (host := "") (Or.inl (wd10 hw)) Via.refl e23 F_a1_terms (g := (mkF m 95 #[vr a1, vi p2, vi p3, vi p4, vi 127, vi ((((f4 p2 p3 p4) &&& (127 : Int32)) + (1 : Int32)) &&& (127 : Int32)), vi (-1)] [(.ref a1)])) rfl rfl (hb hby d3_95)
   refine G st24 ?_
   refine G (fun t k => XS.iconst X24.here hx rfl (hb hby d3_98) (XS.aloadN X24.here hx rfl (hb hby d3_99) rfl rfl k)) ?_
   show Go _ _ _ (T24.setTop (mkF m 100 #[vr a1, vi p2, vi p3, vi p4, vi 127, vi ((((f4 p2 p3 p4) &&& (127 : Int32)) + (1 : Int32)) &&& (127 : Int32)), vi (-1)] [(.ref a1), (.int 3), (.ref w_T)])) _
   obtain ⟨T25, X25, e25, st25⟩ := getF X24 hx hZ hown (host := "") (Or.inl (wd25 hw)) Via.refl e24 F_a1_size (g := (mkF m 100 #[vr a1, vi p2, vi p3, vi p4, vi 127, vi ((((f4 p2 p3 p4) &&& (127 : Int32)) + (1 : Int32)) &&& (127 : Int32)), vi (-1)] [(.ref a1), (.int 3), (.ref w_T)])) rfl rfl (hb hby d3_100)
   refine G st25 ?_
   refine G (fun t k => XS.imul X25.here hx rfl (hb hby d3_103) rfl (XS.iconst X25.here hx rfl (hb hby d3_104) (XS.iadd X25.here hx rfl (hb hby d3_105) rfl (XS.iloadN X25.here hx rfl (hb hby d3_106) rfl k)))) ?_
   replace V_T : Arv Z h23 w_T k_T .int (192 : Int32) [(.int t0), (.int t1), (.int t2), (.int p2), (.int p3), (.int (0 : Int32))] (.int (0 : Int32)) := V_T.pad (pad_rep [(.int t0), (.int t1), (.int t2), (.int p2), (.int p3)] (.int (0 : Int32)) 1)
   obtain ⟨cl26, Ar26, qq26, Sz26, Ng26, Hs26, Gs26⟩ := id V_T
   have hin26 : ¬ ((5 : Int32) < 0 ∨ cl26.slots.size ≤ ((5 : Int32)).toNatClampNeg) := inb_of Sz26 ⟨by decide, by decide⟩
   obtain ⟨T27, h27, X27, e27, W27, st27⟩ := stI X25 hx hZ e25 Ar26 (j := (5 : Int32)) hin26 (g := (mkF m 107 #[vr a1, vi p2, vi p3, vi p4, vi 127, vi ((((f4 p2 p3 p4) &&& (127 : Int32)) + (1 : Int32)) &&& (127 : Int32)), vi (-1)] [(.int p4), (.int 5), (.ref w_T)])) rfl rfl (hb hby d3_107)
   refine G st27 ?_
   have N27 := Fr.snoc X27 N23 g_w_T
   obtain ⟨LL27, X27, N27⟩ : ∃ LL, Stand p l e (Rm 1 0 0 16) s m #[(.ref a1), (.int p2), (.int p3), (.int p4)] below meth c T27 LL 0 0 ∧ Fr n0 LL := ⟨_, X27, N27⟩
   replace E_a1 := E_a1.wr W27
   replace F_a1_size := F_a1_size.other W27 (Or.inl (Ne.symm ne_w_T_a1))
   replace F_a1_terms := F_a1_terms.other W27 (Or.inl (Ne.symm ne_w_T_a1))
   replace F_a1_slots := F_a1_slots.other W27 (Or.inl (Ne.symm ne_w_T_a1))
   replace V_S := V_S.other W27 (Ne.symm ne_w_T_w_S)
   replace Z0 := Nat.le_trans Z0 (Nat.le_of_eq W27.size.symm)
   replace K0 := K0.wr W27 (Or.inl (by simp))
   replace V_T : Arv Z h27 w_T k_T .int (192 : Int32) [(.int t0), (.int t1), (.int t2), (.int p2), (.int p3), (.int p4)] (.int (0 : Int32)) := Arv.set Ar26 qq26 Sz26 Ng26 Hs26 Gs26 rfl W27 5 rfl (Nat.le_of_ble_eq_true rfl)
   clear hin26 Gs26 Hs26 Ng26 Sz26 qq26 Ar26 cl26
   refine G (fun t k => XS.aloadN X27.here hx rfl (hb hby d3_108) rfl rfl k) ?_
   show Go _ _ _ (T27.setTop (mkF m 109 #[vr a1, vi p2, vi p3, vi p4, vi 127, vi ((((f4 p2 p3 p4) &&& (127 : Int32)) + (1 : Int32)) &&& (127 : Int32)), vi (-1)] [(.ref a1)])) _
   obtain ⟨T28, X28, e28, st28⟩ := getF X27 hx hZ hown (host := "") (Or.inl (wd12 hw)) Via.refl e27 F_a1_slots (g := (mkF m 109 #[vr a1, vi p2, vi p3, vi p4, vi 127, vi ((((f4 p2 p3 p4) &&& (127 : Int32)) + (1 : Int32)) &&& (127 : Int32)), vi (-1)] [(.ref a1)])) rfl rfl (hb hby d3_109)
   refine G st28 ?_
   refine G (fun t k => XS.iload X28.here hx rfl (hb hby d3_112) rfl (XS.aloadN X28.here hx rfl (hb hby d3_114) rfl rfl (XS.dup X28.here hx rfl (hb hby d3_115) rfl rfl k))) ?_
   obtain ⟨T29, X29, e29, st29⟩ := getF X28 hx hZ hown (host := "") (Or.inl (wd25 hw)) Via.refl e28 F_a1_size (g := (mkF m 116 #[vr a1, vi p2, vi p3, vi p4, vi 127, vi ((((f4 p2 p3 p4) &&& (127 : Int32)) + (1 : Int32)) &&& (127 : Int32)), vi (-1)] [(.ref a1), (.ref a1), (.int ((((f4 p2 p3 p4) &&& (127 : Int32)) + (1 : Int32)) &&& (127 : Int32))), (.ref w_S)])) rfl rfl (hb hby d3_116)
   refine G st29 ?_
   refine G (fun t k => XS.iconst X29.here hx rfl (hb hby d3_119) (XS.iadd X29.here hx rfl (hb hby d3_120) rfl k)) ?_
   show Go _ _ _ (T29.setTop (mkF m 121 #[vr a1, vi p2, vi p3, vi p4, vi 127, vi ((((f4 p2 p3 p4) &&& (127 : Int32)) + (1 : Int32)) &&& (127 : Int32)), vi (-1)] [(.int 2), (.ref a1), (.int ((((f4 p2 p3 p4) &&& (127 : Int32)) + (1 : Int32)) &&& (127 : Int32))), (.ref w_S)])) _
   refine G (fun t k => XS.dupX1 X29.here hx rfl (hb hby d3_121) rfl rfl rfl k) ?_
   obtain ⟨T30, h30, X30, e30, W30, st30⟩ := putF X29 hx hZ hown (host := "") (Or.inl (wd25 hw)) Via.refl e29 F_a1_size E_a1 (Or.inl (wd26 hw)) (wd2 hw) (ty := .int) (by decide) rfl rfl (g := (mkF m 122 #[vr a1, vi p2, vi p3, vi p4, vi 127, vi ((((f4 p2 p3 p4) &&& (127 : Int32)) + (1 : Int32)) &&& (127 : Int32)), vi (-1)] [(.int 2), (.ref a1), (.int 2), (.int ((((f4 p2 p3 p4) &&& (127 : Int32)) + (1 : Int32)) &&& (127 : Int32))), (.ref w_S)])) rfl rfl (hb hby d3_122)
   refine G st30 ?_
   have N30 := Fr.snoc X30 N27 g_a1
   replace E_a1 := E_a1.wr W30
   replace F_a1_size := F_a1_size.same W30
   replace F_a1_terms := F_a1_terms.other W30 (sn4 hw)
   replace F_a1_slots := F_a1_slots.other W30 (sn5 hw)
   replace V_T := V_T.other W30 ne_w_T_a1
   replace V_S := V_S.other W30 ne_w_S_a1
   replace Z0 := Nat.le_trans Z0 (Nat.le_of_eq W30.size.symm)
   replace K0 := K0.wr W30 (Or.inl (by simp))
   obtain ⟨cl31, Ar31, qq31, Sz31, Ng31, Hs31, Gs31⟩ := id V_S
   have hin31 : ¬ (((((f4 p2 p3 p4) &&& (127 : Int32)) + (1 : Int32)) &&& (127 : Int32)) < 0 ∨ cl31.slots.size ≤ (((((f4 p2 p3 p4) &&& (127 : Int32)) + (1 : Int32)) &&& (127 : Int32))).toNatClampNeg) := inb_of Sz31 (own_127 (((f4 p2 p3 p4) &&& (127 : Int32)) + (1 : Int32)))
   obtain ⟨T32, h32, X32, e32, W32, st32⟩ := stI X30 hx hZ e30 Ar31 (j := ((((f4 p2 p3 p4) &&& (127 : Int32)) + (1 : Int32)) &&& (127 : Int32))) hin31 (g := (mkF m 125 #[vr a1, vi p2, vi p3, vi p4, vi 127, vi ((((f4 p2 p3 p4) &&& (127 : Int32)) + (1 : Int32)) &&& (127 : Int32)), vi (-1)] [(.int 2), (.int ((((f4 p2 p3 p4) &&& (127 : Int32)) + (1 : Int32)) &&& (127 : Int32))), (.ref w_S)])) rfl rfl (hb hby d3_125)
   refine G st32 ?_
   have N32 := Fr.snoc X32 N30 g_w_S
   replace E_a1 := E_a1.wr W32
   replace F_a1_size := F_a1_size.other W32 (Or.inl (Ne.symm ne_w_S_a1))
   replace F_a1_terms := F_a1_terms.other W32 (Or.inl (Ne.symm ne_w_S_a1))
   replace F_a1_slots := F_a1_slots.other W32 (Or.inl (Ne.symm ne_w_S_a1))
   replace V_T := V_T.other W32 ne_w_T_w_S
   replace Z0 := Nat.le_trans Z0 (Nat.le_of_eq W32.size.symm)
   replace K0 := K0.wr W32 (Or.inl (by simp))
   replace V_S : Arh Z h32 w_S k_S .int (128 : Int32) [(((((f4 p2 p3 p4) &&& (127 : Int32)) + (1 : Int32)) &&& (127 : Int32)), (.int (2 : Int32))), (i1, (.int (1 : Int32)))] [] (.int (0 : Int32)) := Arh.push Ar31 qq31 Sz31 Ng31 Hs31 Gs31 rfl W32 hin31
   show Go _ _ _ (T32.setTop (mkF m 126 #[vr a1, vi p2, vi p3, vi p4, vi 127, vi ((((f4 p2 p3 p4) &&& (127 : Int32)) + (1 : Int32)) &&& (127 : Int32)), vi (-1)] [])) _
   refine G (fun t k => XS.iconst X32.here hx rfl (hb hby d3_126) (XS.aloadN X32.here hx rfl (hb hby d3_127) rfl rfl k)) ?_
   obtain ⟨T33, X33, e33, st33⟩ := getF X32 hx hZ hown (host := "") (Or.inl (wd25 hw)) Via.refl e32 F_a1_size (g := (mkF m 128 #[vr a1, vi p2, vi p3, vi p4, vi 127, vi ((((f4 p2 p3 p4) &&& (127 : Int32)) + (1 : Int32)) &&& (127 : Int32)), vi (-1)] [(.ref a1), (.int 2)])) rfl rfl (hb hby d3_128)
   refine G st33 ?_
   refine G (fun t k => XS.imul X33.here hx rfl (hb hby d3_131) rfl (XS.aloadN X33.here hx rfl (hb hby d3_132) rfl rfl k)) ?_
   obtain ⟨T34, X34, e34, st34⟩ := getF X33 hx hZ hown (host := "") (Or.inl (wd12 hw)) Via.refl e33 F_a1_slots (g := (mkF m 133 #[vr a1, vi p2, vi p3, vi p4, vi 127, vi ((((f4 p2 p3 p4) &&& (127 : Int32)) + (1 : Int32)) &&& (127 : Int32)), vi (-1)] [(.ref a1), (.int 4)])) rfl rfl (hb hby d3_133)
   refine G st34 ?_
   obtain ⟨cl35, Ar35, -, Sz35, Ng35, -, -⟩ := id V_S
   refine G (fun t k => X34.arraylength hx (by rw [e34]; exact Ar35.1) (State.isArrayOf_alike hZ.alike Ar35.2.1) (g := (mkF m 136 #[vr a1, vi p2, vi p3, vi p4, vi 127, vi ((((f4 p2 p3 p4) &&& (127 : Int32)) + (1 : Int32)) &&& (127 : Int32)), vi (-1)] [(.ref w_S), (.int 4)])) rfl rfl (hb hby d3_136) _ k) ?_
   rw [len_of Sz35 Ng35]
   clear Ng35 Sz35 Ar35 cl35
   show Go _ _ _ (T34.setTop (mkF m 137 #[vr a1, vi p2, vi p3, vi p4, vi 127, vi ((((f4 p2 p3 p4) &&& (127 : Int32)) + (1 : Int32)) &&& (127 : Int32)), vi (-1)] [(.int 128), (.int 4)])) _
   refine G (fun t k => XS.icmpYes X34.here hx rfl (pc0 := 137) (pc' := 151) rfl (hb hby d3_137) rfl (flt (by decide : ¬ ((128 : Int32) < (4 : Int32)))).2.2.2 (by decide) (by decide) (XS.iconst X34.here hx rfl (hb hby d3_151) k)) ?_
   obtain ⟨fs, hr, hrun, hended, hW, hsame⟩ := X34.leave (v := some (.int (1 : Int32))) (fun h => by rw [Bd.returns] at h; cases h)
   refine Go.fin (retN X34 hx (t := .boolean) Bd.returns (by simp) (hb hby d3_152) hr) hrun hended ⟨_, _, rfl, ?_, ⟨_, rfl⟩, hW, hsame.mono (by decide) (by decide)⟩
   show Q3n1 Z a1 p2 p3 p4 w_T w_S k_T k_S t0 t1 t2 i1 h0 n0 _ T34.heap _
   rw [e34]
   exact ⟨rfl, N32, K0, E_a1, F_a1_size, F_a1_terms, F_a1_slots, V_T, (by unfold f3n1_w_S_i0; simp only [if_pos hc6]; exact V_S)⟩
  refine G (fun t k => XS.aloadN X4.here hx rfl (hb hby d3_153) rfl rfl k) ?_
  obtain ⟨T36, X36, e36, st36⟩ := getF X4 hx hZ hown (host := "") (Or.inl (wd10 hw)) Via.refl e4 F_a1_terms (g := (mkF m 154 #[vr a1, vi p2, vi p3, vi p4, vi 127, vi ((f4 p2 p3 p4) &&& (127 : Int32)), vi 0] [(.ref a1)])) rfl rfl (hb hby d3_154)
  refine G st36 ?_
  refine G (fun t k => XS.iconst X36.here hx rfl (hb hby d3_157) (XS.iload X36.here hx rfl (hb hby d3_158) rfl (XS.imul X36.here hx rfl (hb hby d3_160) rfl k))) ?_
  obtain ⟨cl37, Ar37, -, Sz37, Ng37, Hs37, -⟩ := id V_T
  have hin37 : ¬ ((0 : Int32) < 0 ∨ cl37.slots.size ≤ ((0 : Int32)).toNatClampNeg) := inb_of Sz37 ⟨by decide, by decide⟩
  refine G (fun t k => X36.iaload hx (j := (0 : Int32)) (v := (.int t0)) (by rw [e36]; exact Ar37.1) (State.isArrayOf_alike hZ.alike Ar37.2.1) Ar37.2.2 hin37 (Has.at Hs37 hin37 rfl) (g := (mkF m 161 #[vr a1, vi p2, vi p3, vi p4, vi 127, vi ((f4 p2 p3 p4) &&& (127 : Int32)), vi 0] [(.int 0), (.ref w_T)])) rfl rfl (hb hby d3_161) _ k) ?_
  clear hin37 Hs37 Ng37 Sz37 Ar37 cl37
  refine G (fun t k => XS.iloadN X36.here hx rfl (hb hby d3_162) rfl k) ?_
  show Go _ _ _ (T36.setTop (mkF m 163 #[vr a1, vi p2, vi p3, vi p4, vi 127, vi ((f4 p2 p3 p4) &&& (127 : Int32)), vi 0] [(.int p2), (.int t0)])) _
  by_cases hc38 : t0 = p2
  ·refine G (fun t k => XS.icmpNo X36.here hx rfl (hb hby d3_163) rfl (teq hc38).2 (XS.aloadN X36.here hx rfl (hb hby d3_166) rfl rfl k)) ?_
   obtain ⟨T39, X39, e39, st39⟩ := getF X36 hx hZ hown (host := "") (Or.inl (wd10 hw)) Via.refl e36 F_a1_terms (g := (mkF m 167 #[vr a1, vi p2, vi p3, vi p4, vi 127, vi ((f4 p2 p3 p4) &&& (127 : Int32)), vi 0] [(.ref a1)])) rfl rfl (hb hby d3_167)
   refine G st39 ?_
   refine G (fun t k => XS.iconst X39.here hx rfl (hb hby d3_170) (XS.iload X39.here hx rfl (hb hby d3_171) rfl (XS.imul X39.here hx rfl (hb hby d3_173) rfl (XS.iconst X39.here hx rfl (hb hby d3_174) k)))) ?_
   show Go _ _ _ (T39.setTop (mkF m 175 #[vr a1, vi p2, vi p3, vi p4, vi 127, vi ((f4 p2 p3 p4) &&& (127 : Int32)), vi 0] [(.int 1), (.int 0), (.ref w_T)])) _
   refine G (fun t k => XS.iadd X39.here hx rfl (hb hby d3_175) rfl k) ?_
   obtain ⟨cl40, Ar40, -, Sz40, Ng40, Hs40, -⟩ := id V_T
   have hin40 : ¬ ((1 : Int32) < 0 ∨ cl40.slots.size ≤ ((1 : Int32)).toNatClampNeg) := inb_of Sz40 ⟨by decide, by decide⟩
   refine G (fun t k => X39.iaload hx (j := (1 : Int32)) (v := (.int t1)) (by rw [e39]; exact Ar40.1) (State.isArrayOf_alike hZ.alike Ar40.2.1) Ar40.2.2 hin40 (Has.at Hs40 hin40 rfl) (g := (mkF m 176 #[vr a1, vi p2, vi p3, vi p4, vi 127, vi ((f4 p2 p3 p4) &&& (127 : Int32)), vi 0] [(.int 1), (.ref w_T)])) rfl rfl (hb hby d3_176) _ k) ?_
   clear hin40 Hs40 Ng40 Sz40 Ar40 cl40
   refine G (fun t k => XS.iloadN X39.here hx rfl (hb hby d3_177) rfl k) ?_
   by_cases hc41 : t1 = p3
   ·refine G (fun t k => XS.icmpNo X39.here hx rfl (hb hby d3_178) rfl (teq hc41).2 (XS.aloadN X39.here hx rfl (hb hby d3_181) rfl rfl k)) ?_
    obtain ⟨T42, X42, e42, st42⟩ := getF X39 hx hZ hown (host := "") (Or.inl (wd10 hw)) Via.refl e39 F_a1_terms (g := (mkF m 182 #[vr a1, vi p2, vi p3, vi p4, vi 127, vi ((f4 p2 p3 p4) &&& (127 : Int32)), vi 0] [(.ref a1)])) rfl rfl (hb hby d3_182)
    refine G st42 ?_
    refine G (fun t k => XS.iconst X42.here hx rfl (hb hby d3_185) k) ?_
    show Go _ _ _ (T42.setTop (mkF m 186 #[vr a1, vi p2, vi p3, vi p4, vi 127, vi ((f4 p2 p3 p4) &&& (127 : Int32)), vi 0] [(.int 3), (.ref w_T)])) _
    refine G (fun t k => XS.iload X42.here hx rfl (hb hby d3_186) rfl (XS.imul X42.here hx rfl (hb hby d3_188) rfl (XS.iconst X42.here hx rfl (hb hby d3_189) (XS.iadd X42.here hx rfl (hb hby d3_190) rfl k)))) ?_
    obtain ⟨cl43, Ar43, -, Sz43, Ng43, Hs43, -⟩ := id V_T
    have hin43 : ¬ ((2 : Int32) < 0 ∨ cl43.slots.size ≤ ((2 : Int32)).toNatClampNeg) := inb_of Sz43 ⟨by decide, by decide⟩
    refine G (fun t k => X42.iaload hx (j := (2 : Int32)) (v := (.int t2)) (by rw [e42]; exact Ar43.1) (State.isArrayOf_alike hZ.alike Ar43.2.1) Ar43.2.2 hin43 (Has.at Hs43 hin43 rfl) (g := (mkF m 191 #[vr a1, vi p2, vi p3, vi p4, vi 127, vi ((f4 p2 p3 p4) &&& (127 : Int32)), vi 0] [(.int 2), (.ref w_T)])) rfl rfl (hb hby d3_191) _ k) ?_
    clear hin43 Hs43 Ng43 Sz43 Ar43 cl43
    refine G (fun t k => XS.iloadN X42.here hx rfl (hb hby d3_192) rfl k) ?_
    have hf44 : ¬ (t2 = p4) := fun z => hne1 ⟨hc38, hc41, z⟩
    refine G (fun t k => XS.icmpYes X42.here hx rfl (pc0 := 193) (pc' := 198) rfl (hb hby d3_193) rfl (feq hf44).2 (by decide) (by decide) k) ?_
    show Go _ _ _ (T42.setTop (mkF m 198 #[vr a1, vi p2, vi p3, vi p4, vi 127, vi ((f4 p2 p3 p4) &&& (127 : Int32)), vi 0] [])) _
    exact J8 _ _ X42 e42 N3
   ·refine G (fun t k => XS.icmpYes X39.here hx rfl (pc0 := 178) (pc' := 198) rfl (hb hby d3_178) rfl (feq hc41).2 (by decide) (by decide) k) ?_
    show Go _ _ _ (T39.setTop (mkF m 198 #[vr a1, vi p2, vi p3, vi p4, vi 127, vi ((f4 p2 p3 p4) &&& (127 : Int32)), vi 0] [])) _
    exact J8 _ _ X39 e39 N3
  ·refine G (fun t k => XS.icmpYes X36.here hx rfl (pc0 := 163) (pc' := 198) rfl (hb hby d3_163) rfl (feq hc38).2 (by decide) (by decide) k) ?_
   show Go _ _ _ (T36.setTop (mkF m 198 #[vr a1, vi p2, vi p3, vi p4, vi 127, vi ((f4 p2 p3 p4) &&& (127 : Int32)), vi 0] [])) _
   exact J8 _ _ X36 e36 N3
 ·obtain ⟨cl45, Ar45, -, Sz45, Ng45, Hs45, -⟩ := id V_S
  have hin45 : ¬ (((f4 p2 p3 p4) &&& (127 : Int32)) < 0 ∨ cl45.slots.size ≤ (((f4 p2 p3 p4) &&& (127 : Int32))).toNatClampNeg) := inb_of Sz45 (own_127 (f4 p2 p3 p4))
  refine G (fun t k => X4.iaload hx (j := ((f4 p2 p3 p4) &&& (127 : Int32))) (v := (.int (0 : Int32))) (by rw [e4]; exact Ar45.1) (State.isArrayOf_alike hZ.alike Ar45.2.1) Ar45.2.2 hin45 (atH Hs45 hin45 (getH_miss ((own_127 (f4 p2 p3 p4))).1 hc6 rfl)) (g := (mkF m 26 #[vr a1, vi p2, vi p3, vi p4, vi 127, vi ((f4 p2 p3 p4) &&& (127 : Int32)), us] [(.int ((f4 p2 p3 p4) &&& (127 : Int32))), (.ref w_S)])) rfl rfl (hb hby d3_26) _ k) ?_
  show Go _ _ _ (T4.setTop (mkF m 27 #[vr a1, vi p2, vi p3, vi p4, vi 127, vi ((f4 p2 p3 p4) &&& (127 : Int32)), us] [(.int 0)])) _
  refine G (fun t k => XS.iconst X4.here hx rfl (hb hby d3_27) (XS.isub X4.here hx rfl (hb hby d3_28) rfl (XS.istore X4.here hx rfl (hb hby d3_29) rfl (l' := #[vr a1, vi p2, vi p3, vi p4, vi 127, vi ((f4 p2 p3 p4) &&& (127 : Int32)), vi (-1)]) rfl (XS.iload X4.here hx rfl (hb hby d3_31) rfl (XS.ifNo X4.here hx rfl (hb hby d3_33) rfl ((if0 _ _).trans (tlt (by decide : (-1 : Int32) < (0 : Int32))).2.1) (XS.aloadN X4.here hx rfl (hb hby d3_36) rfl rfl k)))))) ?_
  obtain ⟨T46, X46, e46, st46⟩ := getF X4 hx hZ hown (host := "") (Or.inl (wd25 hw)) Via.refl e4 F_a1_size (g := (mkF m 37 #[vr a1, vi p2, vi p3, vi p4, vi 127, vi ((f4 p2 p3 p4) &&& (127 : Int32)), vi (-1)] [(.ref a1)])) rfl rfl (hb hby d3_37)
  refine G st46 ?_
  show Go _ _ _ (T46.setTop (mkF m 40 #[vr a1, vi p2, vi p3, vi p4, vi 127, vi ((f4 p2 p3 p4) &&& (127 : Int32)), vi (-1)] [(.int 1)])) _
  refine G (fun t k => XS.aloadN X46.here hx rfl (hb hby d3_40) rfl rfl k) ?_
  obtain ⟨T47, X47, e47, st47⟩ := getF X46 hx hZ hown (host := "") (Or.inl (wd10 hw)) Via.refl e46 F_a1_terms (g := (mkF m 41 #[vr a1, vi p2, vi p3, vi p4, vi 127, vi ((f4 p2 p3 p4) &&& (127 : Int32)), vi (-1)] [(.ref a1), (.int 1)])) rfl rfl (hb hby d3_41)
  refine G st47 ?_
  obtain ⟨cl48, Ar48, -, Sz48, Ng48, -, -⟩ := id V_T
  refine G (fun t k => X47.arraylength hx (by rw [e47]; exact Ar48.1) (State.isArrayOf_alike hZ.alike Ar48.2.1) (g := (mkF m 44 #[vr a1, vi p2, vi p3, vi p4, vi 127, vi ((f4 p2 p3 p4) &&& (127 : Int32)), vi (-1)] [(.ref w_T), (.int 1)])) rfl rfl (hb hby d3_44) _ k) ?_
  rw [len_of Sz48 Ng48]
  clear Ng48 Sz48 Ar48 cl48
  refine G (fun t k => XS.iconst X47.here hx rfl (hb hby d3_45) (XS.idiv X47.here hx rfl (hb hby d3_46) rfl (by decide) (XS.icmpYes X47.here hx rfl (pc0 := 47) (pc' := 68) rfl (hb hby d3_47) rfl (feq (by decide : ¬ ((1 : Int32) = (64 : Int32)))).2 (by decide) (by decide) (XS.aloadN X47.here hx rfl (hb hby d3_68) rfl rfl k)))) ?_
  show Go _ _ _ (T47.setTop (mkF m 69 #[vr a1, vi p2, vi p3, vi p4, vi 127, vi ((f4 p2 p3 p4) &&& (127 : Int32)), vi (-1)] [(.ref a1)])) _
  obtain ⟨T49, X49, e49, st49⟩ := getF X47 hx hZ hown (host := "") (Or.inl (wd10 hw)) Via.refl e47 F_a1_terms (g := (mkF m 69 #[vr a1, vi p2, vi p3, vi p4, vi 127, vi ((f4 p2 p3 p4) &&& (127 : Int32)), vi (-1)] [(.ref a1)])) rfl rfl (hb hby d3_69)
  refine G st49 ?_
  refine G (fun t k => XS.iconst X49.here hx rfl (hb hby d3_72) (XS.aloadN X49.here hx rfl (hb hby d3_73) rfl rfl k)) ?_
  obtain ⟨T50, X50, e50, st50⟩ := getF X49 hx hZ hown (host := "") (Or.inl (wd25 hw)) Via.refl e49 F_a1_size (g := (mkF m 74 #[vr a1, vi p2, vi p3, vi p4, vi 127, vi ((f4 p2 p3 p4) &&& (127 : Int32)), vi (-1)] [(.ref a1), (.int 3), (.ref w_T)])) rfl rfl (hb hby d3_74)
  refine G st50 ?_
  refine G (fun t k => XS.imul X50.here hx rfl (hb hby d3_77) rfl (XS.iloadN X50.here hx rfl (hb hby d3_78) rfl k)) ?_
  replace V_T : Arv Z h0 w_T k_T .int (192 : Int32) [(.int t0), (.int t1), (.int t2), (.int (0 : Int32))] (.int (0 : Int32)) := V_T.pad (pad_rep [(.int t0), (.int t1), (.int t2)] (.int (0 : Int32)) 1)
  obtain ⟨cl51, Ar51, qq51, Sz51, Ng51, Hs51, Gs51⟩ := id V_T
  have hin51 : ¬ ((3 : Int32) < 0 ∨ cl51.slots.size ≤ ((3 : Int32)).toNatClampNeg) := inb_of Sz51 ⟨by decide, by decide⟩
  obtain ⟨T52, h52, X52, e52, W52, st52⟩ := stI X50 hx hZ e50 Ar51 (j := (3 : Int32)) hin51 (g := (mkF m 79 #[vr a1, vi p2, vi p3, vi p4, vi 127, vi ((f4 p2 p3 p4) &&& (127 : Int32)), vi (-1)] [(.int p2), (.int 3), (.ref w_T)])) rfl rfl (hb hby d3_79)
  refine G st52 ?_
  have N52 := Fr.snoc X52 N3 g_w_T
  replace E_a1 := E_a1.wr W52
  replace F_a1_size := F_a1_size.other W52 (Or.inl (Ne.symm ne_w_T_a1))
  replace F_a1_terms := F_a1_terms.other W52 (Or.inl (Ne.symm ne_w_T_a1))
  replace F_a1_slots := F_a1_slots.other W52 (Or.inl (Ne.symm ne_w_T_a1))
  replace V_S := V_S.other W52 (Ne.symm ne_w_T_w_S)
  replace Z0 := Nat.le_trans Z0 (Nat.le_of_eq W52.size.symm)
  replace K0 := K0.wr W52 (Or.inl (by simp))
  replace V_T : Arv Z h52 w_T k_T .int (192 : Int32) [(.int t0), (.int t1), (.int t2), (.int p2)] (.int (0 : Int32)) := Arv.set Ar51 qq51 Sz51 Ng51 Hs51 Gs51 rfl W52 3 rfl (Nat.le_of_ble_eq_true rfl)
  clear hin51 Gs51 Hs51 Ng51 Sz51 qq51 Ar51 cl51
  show Go _ _ _ (T52.setTop (mkF m 80 #[vr a1, vi p2, vi p3, vi p4, vi 127, vi ((f4 p2 p3 p4) &&& (127 : Int32)), vi (-1)] [])) _
  refine G (fun t k => XS.aloadN X52.here hx rfl (hb hby d3_80) rfl rfl k) ?_
  obtain ⟨T53, X53, e53, st53⟩ := getF X52 hx hZ hown (host := "") (Or.inl (wd10 hw)) Via.refl e52 F_a1_terms (g := (mkF m 81 #[vr a1, vi p2, vi p3, vi p4, vi 127, vi ((f4 p2 p3 p4) &&& (127 : Int32)), vi (-1)] [(.ref a1)])) rfl rfl (hb hby d3_81)
  refine G st53 ?_
  refine G (fun t k => XS.iconst X53.here hx rfl (hb hby d3_84) (XS.aloadN X53.here hx rfl (hb hby d3_85) rfl rfl k)) ?_
  obtain ⟨T54, X54, e54, st54⟩ := getF X53 hx hZ hown (host := "") (Or.inl (wd25 hw)) Via.refl e53 F_a1_size (g := (mkF m 86 #[vr a1, vi p2, vi p3, vi p4, vi 127, vi ((f4 p2 p3 p4) &&& (127 : Int32)), vi (-1)] [(.ref a1), (.int 3), (.ref w_T)])) rfl rfl (hb hby d3_86)
  refine G st54 ?_
  refine G (fun t k => XS.imul X54.here hx rfl (hb hby d3_89) rfl (XS.iconst X54.here hx rfl (hb hby d3_90) k)) ?_
  show Go _ _ _ (T54.setTop (mkF m 91 #[vr a1, vi p2, vi p3, vi p4, vi 127, vi ((f4 p2 p3 p4) &&& (127 : Int32)), vi (-1)] [(.int 1), (.int 3), (.ref w_T)])) _
  refine G (fun t k => XS.iadd X54.here hx rfl (hb hby d3_91) rfl (XS.iloadN X54.here hx rfl (hb hby d3_92) rfl k)) ?_
  replace V_T : Arv Z h52 w_T k_T .int (192 : Int32) [(.int t0), (.int t1), (.int t2), (.int p2), (.int (0 : Int32))] (.int (0 : Int32)) := V_T.pad (pad_rep [(.int t0), (.int t1), (.int t2), (.int p2)] (.int (0 : Int32)) 1)
  obtain ⟨cl55, Ar55, qq55, Sz55, Ng55, Hs55, Gs55⟩ := id V_T
  have hin55 : ¬ ((4 : Int32) < 0 ∨ cl55.slots.size ≤ ((4 : Int32)).toNatClampNeg) := inb_of Sz55 ⟨by decide, by decide⟩
  obtain ⟨T56, h56, X56, e56, W56, st56⟩ := stI X54 hx hZ e54 Ar55 (j := (4 : Int32)) hin55 (g := (mkF m 93 #[vr a1, vi p2, vi p3, vi p4, vi 127, vi ((f4 p2 p3 p4) &&& (127 : Int32)), vi (-1)] [(.int p3), (.int 4), (.ref w_T)])) rfl rfl (hb hby d3_93)
  refine G st56 ?_
  have N56 := Fr.snoc X56 N52 g_w_T
  replace E_a1 := E_a1.wr W56
  replace F_a1_size := F_a1_size.other W56 (Or.inl (Ne.symm ne_w_T_a1))
  replace F_a1_terms := F_a1_terms.other W56 (Or.inl (Ne.symm ne_w_T_a1))
  replace F_a1_slots := F_a1_slots.other W56 (Or.inl (Ne.symm ne_w_T_a1))
  replace V_S := V_S.other W56 (Ne.symm ne_w_T_w_S)
  replace Z0 := Nat.le_trans Z0 (Nat.le_of_eq W56.size.symm)
  replace K0 := K0.wr W56 (Or.inl (by simp))
  replace V_T : Arv Z h56 w_T k_T .int (192 : Int32) [(.int t0), (.int t1), (.int t2), (.int p2), (.int p3)] (.int (0 : Int32)) := Arv.set Ar55 qq55 Sz55 Ng55 Hs55 Gs55 rfl W56 4 rfl (Nat.le_of_ble_eq_true rfl)
  clear hin55 Gs55 Hs55 Ng55 Sz55 qq55 Ar55 cl55
  refine G (fun t k => XS.aloadN X56.here hx rfl (hb hby d3_94) rfl rfl k) ?_
  obtain ⟨T57, X57, e57, st57⟩ := getF X56 hx hZ hown (host := "") (Or.inl (wd10 hw)) Via.refl e56 F_a1_terms (g := (mkF m 95 #[vr a1, vi p2, vi p3, vi p4, vi 127, vi ((f4 p2 p3 p4) &&& (127 : Int32)), vi (-1)] [(.ref a1)])) rfl rfl (hb hby d3_95)
  refine G st57 ?_
  refine G (fun t k => XS.iconst X57.here hx rfl (hb hby d3_98) (XS.aloadN X57.here hx rfl (hb hby d3_99) rfl rfl k)) ?_
  show Go _ _ _ (T57.setTop (mkF m 100 #[vr a1, vi p2, vi p3, vi p4, vi 127, vi ((f4 p2 p3 p4) &&& (127 : Int32)), vi (-1)] [(.ref a1), (.int 3), (.ref w_T)])) _
  obtain ⟨T58, X58, e58, st58⟩ := getF X57 hx hZ hown (host := "") (Or.inl (wd25 hw)) Via.refl e57 F_a1_size (g := (mkF m 100 #[vr a1, vi p2, vi p3, vi p4, vi 127, vi ((f4 p2 p3 p4) &&& (127 : Int32)), vi (-1)] [(.ref a1), (.int 3), (.ref w_T)])) rfl rfl (hb hby d3_100)
  refine G st58 ?_
  refine G (fun t k => XS.imul X58.here hx rfl (hb hby d3_103) rfl (XS.iconst X58.here hx rfl (hb hby d3_104) (XS.iadd X58.here hx rfl (hb hby d3_105) rfl (XS.iloadN X58.here hx rfl (hb hby d3_106) rfl k)))) ?_
  replace V_T : Arv Z h56 w_T k_T .int (192 : Int32) [(.int t0), (.int t1), (.int t2), (.int p2), (.int p3), (.int (0 : Int32))] (.int (0 : Int32)) := V_T.pad (pad_rep [(.int t0), (.int t1), (.int t2), (.int p2), (.int p3)] (.int (0 : Int32)) 1)
  obtain ⟨cl59, Ar59, qq59, Sz59, Ng59, Hs59, Gs59⟩ := id V_T
  have hin59 : ¬ ((5 : Int32) < 0 ∨ cl59.slots.size ≤ ((5 : Int32)).toNatClampNeg) := inb_of Sz59 ⟨by decide, by decide⟩
  obtain ⟨T60, h60, X60, e60, W60, st60⟩ := stI X58 hx hZ e58 Ar59 (j := (5 : Int32)) hin59 (g := (mkF m 107 #[vr a1, vi p2, vi p3, vi p4, vi 127, vi ((f4 p2 p3 p4) &&& (127 : Int32)), vi (-1)] [(.int p4), (.int 5), (.ref w_T)])) rfl rfl (hb hby d3_107)
  refine G st60 ?_
  have N60 := Fr.snoc X60 N56 g_w_T
  obtain ⟨LL60, X60, N60⟩ : ∃ LL, Stand p l e (Rm 1 0 0 16) s m #[(.ref a1), (.int p2), (.int p3), (.int p4)] below meth c T60 LL 0 0 ∧ Fr n0 LL := ⟨_, X60, N60⟩
  replace E_a1 := E_a1.wr W60
  replace F_a1_size := F_a1_size.other W60 (Or.inl (Ne.symm ne_w_T_a1))
  replace F_a1_terms := F_a1_terms.other W60 (Or.inl (Ne.symm ne_w_T_a1))
  replace F_a1_slots := F_a1_slots.other W60 (Or.inl (Ne.symm ne_w_T_a1))
  replace V_S := V_S.other W60 (Ne.symm ne_w_T_w_S)
  replace Z0 := Nat.le_trans Z0 (Nat.le_of_eq W60.size.symm)
  replace K0 := K0.wr W60 (Or.inl (by simp))
  replace V_T : Arv Z h60 w_T k_T .int (192 : Int32) [(.int t0), (.int t1), (.int t2), (.int p2), (.int p3), (.int p4)] (.int (0 : Int32)) := Arv.set Ar59 qq59 Sz59 Ng59 Hs59 Gs59 rfl W60 5 rfl (Nat.le_of_ble_eq_true rfl)
  clear hin59 Gs59 Hs59 Ng59 Sz59 qq59 Ar59 cl59
  refine G (fun t k => XS.aloadN X60.here hx rfl (hb hby d3_108) rfl rfl k) ?_
  show Go _ _ _ (T60.setTop (mkF m 109 #[vr a1, vi p2, vi p3, vi p4, vi 127, vi ((f4 p2 p3 p4) &&& (127 : Int32)), vi (-1)] [(.ref a1)])) _
  obtain ⟨T61, X61, e61, st61⟩ := getF X60 hx hZ hown (host := "") (Or.inl (wd12 hw)) Via.refl e60 F_a1_slots (g := (mkF m 109 #[vr a1, vi p2, vi p3, vi p4, vi 127, vi ((f4 p2 p3 p4) &&& (127 : Int32)), vi (-1)] [(.ref a1)])) rfl rfl (hb hby d3_109)
  refine G st61 ?_
  refine G (fun t k => XS.iload X61.here hx rfl (hb hby d3_112) rfl (XS.aloadN X61.here hx rfl (hb hby d3_114) rfl rfl (XS.dup X61.here hx rfl (hb hby d3_115) rfl rfl k))) ?_
  obtain ⟨T62, X62, e62, st62⟩ := getF X61 hx hZ hown (host := "") (Or.inl (wd25 hw)) Via.refl e61 F_a1_size (g := (mkF m 116 #[vr a1, vi p2, vi p3, vi p4, vi 127, vi ((f4 p2 p3 p4) &&& (127 : Int32)), vi (-1)] [(.ref a1), (.ref a1), (.int ((f4 p2 p3 p4) &&& (127 : Int32))), (.ref w_S)])) rfl rfl (hb hby d3_116)
  refine G st62 ?_
  refine G (fun t k => XS.iconst X62.here hx rfl (hb hby d3_119) (XS.iadd X62.here hx rfl (hb hby d3_120) rfl k)) ?_
  show Go _ _ _ (T62.setTop (mkF m 121 #[vr a1, vi p2, vi p3, vi p4, vi 127, vi ((f4 p2 p3 p4) &&& (127 : Int32)), vi (-1)] [(.int 2), (.ref a1), (.int ((f4 p2 p3 p4) &&& (127 : Int32))), (.ref w_S)])) _
  refine G (fun t k => XS.dupX1 X62.here hx rfl (hb hby d3_121) rfl rfl rfl k) ?_
  obtain ⟨T63, h63, X63, e63, W63, st63⟩ := putF X62 hx hZ hown (host := "") (Or.inl (wd25 hw)) Via.refl e62 F_a1_size E_a1 (Or.inl (wd26 hw)) (wd2 hw) (ty := .int) (by decide) rfl rfl (g := (mkF m 122 #[vr a1, vi p2, vi p3, vi p4, vi 127, vi ((f4 p2 p3 p4) &&& (127 : Int32)), vi (-1)] [(.int 2), (.ref a1), (.int 2), (.int ((f4 p2 p3 p4) &&& (127 : Int32))), (.ref w_S)])) rfl rfl (hb hby d3_122)
  refine G st63 ?_
  have N63 := Fr.snoc X63 N60 g_a1
  replace E_a1 := E_a1.wr W63
  replace F_a1_size := F_a1_size.same W63
  replace F_a1_terms := F_a1_terms.other W63 (sn4 hw)
  replace F_a1_slots := F_a1_slots.other W63 (sn5 hw)
  replace V_T := V_T.other W63 ne_w_T_a1
  replace V_S := V_S.other W63 ne_w_S_a1
  replace Z0 := Nat.le_trans Z0 (Nat.le_of_eq W63.size.symm)
  replace K0 := K0.wr W63 (Or.inl (by simp))
  obtain ⟨cl64, Ar64, qq64, Sz64, Ng64, Hs64, Gs64⟩ := id V_S
  have hin64 : ¬ (((f4 p2 p3 p4) &&& (127 : Int32)) < 0 ∨ cl64.slots.size ≤ (((f4 p2 p3 p4) &&& (127 : Int32))).toNatClampNeg) := inb_of Sz64 (own_127 (f4 p2 p3 p4))
  obtain ⟨T65, h65, X65, e65, W65, st65⟩ := stI X63 hx hZ e63 Ar64 (j := ((f4 p2 p3 p4) &&& (127 : Int32))) hin64 (g := (mkF m 125 #[vr a1, vi p2, vi p3, vi p4, vi 127, vi ((f4 p2 p3 p4) &&& (127 : Int32)), vi (-1)] [(.int 2), (.int ((f4 p2 p3 p4) &&& (127 : Int32))), (.ref w_S)])) rfl rfl (hb hby d3_125)
  refine G st65 ?_
  have N65 := Fr.snoc X65 N63 g_w_S
  replace E_a1 := E_a1.wr W65
  replace F_a1_size := F_a1_size.other W65 (Or.inl (Ne.symm ne_w_S_a1))
  replace F_a1_terms := F_a1_terms.other W65 (Or.inl (Ne.symm ne_w_S_a1))
  replace F_a1_slots := F_a1_slots.other W65 (Or.inl (Ne.symm ne_w_S_a1))
  replace V_T := V_T.other W65 ne_w_T_w_S
  replace Z0 := Nat.le_trans Z0 (Nat.le_of_eq W65.size.symm)
  replace K0 := K0.wr W65 (Or.inl (by simp))
  replace V_S : Arh Z h65 w_S k_S .int (128 : Int32) [(((f4 p2 p3 p4) &&& (127 : Int32)), (.int (2 : Int32))), (i1, (.int (1 : Int32)))] [] (.int (0 : Int32)) := Arh.push Ar64 qq64 Sz64 Ng64 Hs64 Gs64 rfl W65 hin64
  show Go _ _ _ (T65.setTop (mkF m 126 #[vr a1, vi p2, vi p3, vi p4, vi 127, vi ((f4 p2 p3 p4) &&& (127 : Int32)), vi (-1)] [])) _
  refine G (fun t k => XS.iconst X65.here hx rfl (hb hby d3_126) (XS.aloadN X65.here hx rfl (hb hby d3_127) rfl rfl k)) ?_
  obtain ⟨T66, X66, e66, st66⟩ := getF X65 hx hZ hown (host := "") (Or.inl (wd25 hw)) Via.refl e65 F_a1_size (g := (mkF m 128 #[vr a1, vi p2, vi p3, vi p4, vi 127, vi ((f4 p2 p3 p4) &&& (127 : Int32)), vi (-1)] [(.ref a1), (.int 2)])) rfl rfl (hb hby d3_128)
  refine G st66 ?_
  refine G (fun t k => XS.imul X66.here hx rfl (hb hby d3_131) rfl (XS.aloadN X66.here hx rfl (hb hby d3_132) rfl rfl k)) ?_
  obtain ⟨T67, X67, e67, st67⟩ := getF X66 hx hZ hown (host := "") (Or.inl (wd12 hw)) Via.refl e66 F_a1_slots (g := (mkF m 133 #[vr a1, vi p2, vi p3, vi p4, vi 127, vi ((f4 p2 p3 p4) &&& (127 : Int32)), vi (-1)] [(.ref a1), (.int 4)])) rfl rfl (hb hby d3_133)
  refine G st67 ?_
  obtain ⟨cl68, Ar68, -, Sz68, Ng68, -, -⟩ := id V_S
  refine G (fun t k => X67.arraylength hx (by rw [e67]; exact Ar68.1) (State.isArrayOf_alike hZ.alike Ar68.2.1) (g := (mkF m 136 #[vr a1, vi p2, vi p3, vi p4, vi 127, vi ((f4 p2 p3 p4) &&& (127 : Int32)), vi (-1)] [(.ref w_S), (.int 4)])) rfl rfl (hb hby d3_136) _ k) ?_
  rw [len_of Sz68 Ng68]
  clear Ng68 Sz68 Ar68 cl68
  show Go _ _ _ (T67.setTop (mkF m 137 #[vr a1, vi p2, vi p3, vi p4, vi 127, vi ((f4 p2 p3 p4) &&& (127 : Int32)), vi (-1)] [(.int 128), (.int 4)])) _
  refine G (fun t k => XS.icmpYes X67.here hx rfl (pc0 := 137) (pc' := 151) rfl (hb hby d3_137) rfl (flt (by decide : ¬ ((128 : Int32) < (4 : Int32)))).2.2.2 (by decide) (by decide) (XS.iconst X67.here hx rfl (hb hby d3_151) k)) ?_
  obtain ⟨fs, hr, hrun, hended, hW, hsame⟩ := X67.leave (v := some (.int (1 : Int32))) (fun h => by rw [Bd.returns] at h; cases h)
  refine Go.fin (retN X67 hx (t := .boolean) Bd.returns (by simp) (hb hby d3_152) hr) hrun hended ⟨_, _, rfl, ?_, ⟨_, rfl⟩, hW, hsame.mono (by decide) (by decide)⟩
  show Q3n1 Z a1 p2 p3 p4 w_T w_S k_T k_S t0 t1 t2 i1 h0 n0 _ T67.heap _
  rw [e67]
  exact ⟨rfl, N65, K0, E_a1, F_a1_size, F_a1_terms, F_a1_slots, V_T, (by unfold f3n1_w_S_i0; simp only [if_neg hc6]; exact V_S)⟩
theorem d3_196 : decode cB3 196 = .ok (.iconst 0, 1) := by decide +kernel
theorem d3_197 : decode cB3 197 = .ok (.ireturn, 1) := by decide +kernel
def Q3d11 (Z : State) (a1 : Addr) (p2 : Int32) (p3 : Int32) (p4 : Int32) (w_T : Addr) (w_S : Addr) (k_T : ClassId) (k_S : ClassId) (t0 : Int32) (t1 : Int32) (t2 : Int32) (i1 : Int32) (h0 : Heap) (n0 : Nat) (v : Option Value) (h : Heap) (L : List Loc) : Prop := v = some (.int (0 : Int32)) ∧ Fr n0 L ∧ h = h0
theorem ef3d11 (m : MethodId) (x0 : Addr) (x1 : Int32) (x2 : Int32) (x3 : Int32) : entryFrame m #[(.ref x0), (.int x1), (.int x2), (.int x3)] 7 = mkF m 0 #[.val (.ref x0), .val (.int x1), .val (.int x2), .val (.int x3), .unset, .unset, .unset] [] := by first | (simp [entryFrame, mkF, argsToLocals, Value.category]; done) | rfl
theorem rm3d11 (l : Launch) (Z : State) (a0 : Array Value) (hw : HW a0 Z) (ws : List Jvm.Cond) (a1 : Addr) (p2 : Int32) (p3 : Int32) (p4 : Int32) (w_T : Addr) (w_S : Addr) (k_T : ClassId) (k_S : ClassId) (t0 : Int32) (t1 : Int32) (t2 : Int32) (i1 : Int32) (h0 : Heap) (n0 : Nat) (Z0 : n0 ≤ h0.size) (E_a1 : Exa Z h0 a1 TC) (F_a1_size : Fld Z h0 a1 TC "size" "I" (.int (1 : Int32))) (F_a1_terms : Fld Z h0 a1 TC "terms" "[I" (.ref w_T)) (F_a1_slots : Fld Z h0 a1 TC "slots" "[I" (.ref w_S)) (V_T : Arv Z h0 w_T k_T .int (192 : Int32) [(.int t0), (.int t1), (.int t2)] (.int (0 : Int32))) (V_S : Arh Z h0 w_S k_S .int (128 : Int32) [(i1, (.int (1 : Int32)))] [] (.int (0 : Int32))) (ne_w_T_a1 : w_T ≠ a1) (ne_w_S_a1 : w_S ≠ a1) (ne_w_T_w_S : w_T ≠ w_S) (heq1 : t0 = p2 ∧ t1 = p3 ∧ t2 = p4) (hr : ((f4 p2 p3 p4) &&& (127 : Int32)) = i1) :
  MetFree l (⟨TC, "add", "(III)Z"⟩ : MethodName) (head1 (Jvm.Cond.code (⟨TC, "add", "(III)Z"⟩ : MethodName) cB3 7 (some .boolean) :: ws) (Rm 1 0 0 16)) (Pr Z h0 #[(.ref a1), (.int p2), (.int p3), (.int p4)]) Tr (fun _ U o U' => ∃ v L, o = .returned v ∧ Q3d11 Z a1 p2 p3 p4 w_T w_S k_T k_S t0 t1 t2 i1 h0 n0 v U'.heap L ∧ FrameEnd U o U' L (Rm 1 0 0 16).cells (Rm 1 0 0 16).slots) := by
 refine MetFree.of_bodySF (plainFor_of_name pn0) hisR ?_
 intro p e s m args below meth c s₁ Bd hml0 hP hK
 obtain ⟨rfl, hZ, hh⟩ := hP
 have hx := Bd.exec
 have hby := Bd.bytes
 have hml : c.maxLocals = 7 := hml0
 have hown : s.vm.findClass TC = some m.cls := findClass_of_methodNamed Bd.named
 have hnm := (name_of_methodNamed Bd.named Bd.method).1
 have X0 : Stand p l e (Rm 1 0 0 16) s m #[(.ref a1), (.int p2), (.int p3), (.int p4)] below meth c s₁ [] 0 0 := Stand.of_body Bd
 have e0 : s₁.heap = h0 := by rw [← hh, Bd.state]; rfl
 have N0 := Fr.nil n0
 have K0 : Keep h0 h0 [] := Keep.refl h0 _
 refine G (P := fun o U' => ∃ v L, o = .returned v ∧ Q3d11 Z a1 p2 p3 p4 w_T w_S k_T k_S t0 t1 t2 i1 h0 n0 v U'.heap L ∧ FrameEnd s o U' L (Rm 1 0 0 16).cells (Rm 1 0 0 16).slots) (fun t k => castTop (ef3d11 m a1 p2 p3 p4) k) ?_
 show Go _ _ _ (s₁.setTop (mkF m 0 #[vr a1, vi p2, vi p3, vi p4, us, us, us] [])) _
 refine G (fun t k => XS.aloadN X0.here hx rfl (hb hby d3_0) rfl rfl k) ?_
 obtain ⟨T1, X1, e1, st1⟩ := getF X0 hx hZ hown (host := "") (Or.inl (wd12 hw)) Via.refl e0 F_a1_slots (g := (mkF m 1 #[vr a1, vi p2, vi p3, vi p4, us, us, us] [(.ref a1)])) rfl rfl (hb hby d3_1)
 refine G st1 ?_
 obtain ⟨cl2, Ar2, -, Sz2, Ng2, -, -⟩ := id V_S
 refine G (fun t k => X1.arraylength hx (by rw [e1]; exact Ar2.1) (State.isArrayOf_alike hZ.alike Ar2.2.1) (g := (mkF m 4 #[vr a1, vi p2, vi p3, vi p4, us, us, us] [(.ref w_S)])) rfl rfl (hb hby d3_4) _ k) ?_
 rw [len_of Sz2 Ng2]
 clear Ng2 Sz2 Ar2 cl2
 refine G (fun t k => XS.iconst X1.here hx rfl (hb hby d3_5) (XS.isub X1.here hx rfl (hb hby d3_6) rfl (XS.istore X1.here hx rfl (hb hby d3_7) rfl (l' := #[vr a1, vi p2, vi p3, vi p4, vi 127, us, us]) rfl (XS.iloadN X1.here hx rfl (hb hby d3_9) rfl k)))) ?_
 show Go _ _ _ (T1.setTop (mkF m 10 #[vr a1, vi p2, vi p3, vi p4, vi 127, us, us] [(.int p2)])) _
 refine G (fun t k => XS.iloadN X1.here hx rfl (hb hby d3_10) rfl (XS.iloadN X1.here hx rfl (hb hby d3_11) rfl k)) ?_
 obtain ⟨_, _, ⟨T3, L3, k3, n3⟩, -, X3, ⟨Lc3, hQ3, l3, y3, z3⟩, st3⟩ := Jvm.LawKit.callS X1 hx (y := (⟨TC, "hash", "(III)I"⟩ : MethodName)) hown (mvT hZ (wd19 hw)) (mvT hZ (wd20 hw)) (mvT hZ (wd3 hw)) (mvT hZ (wd21 hw)) (by decide) (backOf (W := 0) (rm4 l Z a0 hw [] p2 p3 p4 h0 n0 Z0) hZ (wd21 hw) (wd3 hw) (by decide) (by decide)) (g := (mkF m 12 #[vr a1, vi p2, vi p3, vi p4, vi 127, us, us] [(.int p4), (.int p3), (.int p2)])) rfl (by rw [hml]; rfl) (argsL := [(.int p2), (.int p3), (.int p4)]) (rest := []) (lenOf pd0 rfl) rfl (by show 2 * 0 + _ ≤ _; exact Nat.le_of_eq rfl) (hb hby d3_12) (fun _ _ => ⟨rfl, e1, (by decide : 0 + 0 ≤ _), (by decide : 0 + 0 ≤ _)⟩)
 dsimp only [Pt.U, Pt.locs, Pt.cells, Pt.slots] at X3 l3 y3 z3 st3 hQ3
 subst l3 y3 z3
 refine G st3 ?_
 obtain ⟨rfl, N3q, e3⟩ := hQ3
 have N3 := Fr.app N0 N3q
 refine G (fun t k => XS.iload X3.here hx rfl (hb hby d3_15) rfl (XS.iand X3.here hx rfl (hb hby d3_17) rfl (XS.istore X3.here hx rfl (hb hby d3_18) rfl (l' := #[vr a1, vi p2, vi p3, vi p4, vi 127, vi ((f4 p2 p3 p4) &&& (127 : Int32)), us]) rfl k))) ?_
 show Go _ _ _ (T3.setTop (mkF m 20 #[vr a1, vi p2, vi p3, vi p4, vi 127, vi ((f4 p2 p3 p4) &&& (127 : Int32)), us] [])) _
 refine G (fun t k => XS.aloadN X3.here hx rfl (hb hby d3_20) rfl rfl k) ?_
 obtain ⟨T4, X4, e4, st4⟩ := getF X3 hx hZ hown (host := "") (Or.inl (wd12 hw)) Via.refl e3 F_a1_slots (g := (mkF m 21 #[vr a1, vi p2, vi p3, vi p4, vi 127, vi ((f4 p2 p3 p4) &&& (127 : Int32)), us] [(.ref a1)])) rfl rfl (hb hby d3_21)
 refine G st4 ?_
 refine G (fun t k => XS.iload X4.here hx rfl (hb hby d3_24) rfl k) ?_
 have hf6 : ((f4 p2 p3 p4) &&& (127 : Int32)) = i1 := hr
 obtain ⟨cl7, Ar7, -, Sz7, Ng7, Hs7, -⟩ := id V_S
 have hin7 : ¬ (((f4 p2 p3 p4) &&& (127 : Int32)) < 0 ∨ cl7.slots.size ≤ (((f4 p2 p3 p4) &&& (127 : Int32))).toNatClampNeg) := inb_of Sz7 (own_127 (f4 p2 p3 p4))
 refine G (fun t k => X4.iaload hx (j := ((f4 p2 p3 p4) &&& (127 : Int32))) (v := (.int (1 : Int32))) (by rw [e4]; exact Ar7.1) (State.isArrayOf_alike hZ.alike Ar7.2.1) Ar7.2.2 hin7 (atH Hs7 hin7 (getH_hit ((own_127 (f4 p2 p3 p4))).1 hf6)) (g := (mkF m 26 #[vr a1, vi p2, vi p3, vi p4, vi 127, vi ((f4 p2 p3 p4) &&& (127 : Int32)), us] [(.int ((f4 p2 p3 p4) &&& (127 : Int32))), (.ref w_S)])) rfl rfl (hb hby d3_26) _ k) ?_
 show Go _ _ _ (T4.setTop (mkF m 27 #[vr a1, vi p2, vi p3, vi p4, vi 127, vi ((f4 p2 p3 p4) &&& (127 : Int32)), us] [(.int 1)])) _
 refine G (fun t k => XS.iconst X4.here hx rfl (hb hby d3_27) (XS.isub X4.here hx rfl (hb hby d3_28) rfl (XS.istore X4.here hx rfl (hb hby d3_29) rfl (l' := #[vr a1, vi p2, vi p3, vi p4, vi 127, vi ((f4 p2 p3 p4) &&& (127 : Int32)), vi 0]) rfl (XS.iload X4.here hx rfl (hb hby d3_31) rfl (XS.ifYes X4.here hx rfl (pc0 := 33) (pc' := 153) rfl (hb hby d3_33) rfl ((if0 _ _).trans (flt (by decide : ¬ ((0 : Int32) < (0 : Int32)))).2.1) (by decide) (by decide) k))))) ?_
 show Go _ _ _ (T4.setTop (mkF m 153 #[vr a1, vi p2, vi p3, vi p4, vi 127, vi ((f4 p2 p3 p4) &&& (127 : Int32)), vi 0] [])) _
 refine G (fun t k => XS.aloadN X4.here hx rfl (hb hby d3_153) rfl rfl k) ?_
 obtain ⟨T8, X8, e8, st8⟩ := getF X4 hx hZ hown (host := "") (Or.inl (wd10 hw)) Via.refl e4 F_a1_terms (g := (mkF m 154 #[vr a1, vi p2, vi p3, vi p4, vi 127, vi ((f4 p2 p3 p4) &&& (127 : Int32)), vi 0] [(.ref a1)])) rfl rfl (hb hby d3_154)
 refine G st8 ?_
 refine G (fun t k => XS.iconst X8.here hx rfl (hb hby d3_157) (XS.iload X8.here hx rfl (hb hby d3_158) rfl (XS.imul X8.here hx rfl (hb hby d3_160) rfl k))) ?_
 obtain ⟨cl9, Ar9, -, Sz9, Ng9, Hs9, -⟩ := id V_T
 have hin9 : ¬ ((0 : Int32) < 0 ∨ cl9.slots.size ≤ ((0 : Int32)).toNatClampNeg) := inb_of Sz9 ⟨by decide, by decide⟩
 refine G (fun t k => X8.iaload hx (j := (0 : Int32)) (v := (.int t0)) (by rw [e8]; exact Ar9.1) (State.isArrayOf_alike hZ.alike Ar9.2.1) Ar9.2.2 hin9 (Has.at Hs9 hin9 rfl) (g := (mkF m 161 #[vr a1, vi p2, vi p3, vi p4, vi 127, vi ((f4 p2 p3 p4) &&& (127 : Int32)), vi 0] [(.int 0), (.ref w_T)])) rfl rfl (hb hby d3_161) _ k) ?_
 clear hin9 Hs9 Ng9 Sz9 Ar9 cl9
 refine G (fun t k => XS.iloadN X8.here hx rfl (hb hby d3_162) rfl k) ?_
 show Go _ _ _ (T8.setTop (mkF m 163 #[vr a1, vi p2, vi p3, vi p4, vi 127, vi ((f4 p2 p3 p4) &&& (127 : Int32)), vi 0] [(.int p2), (.int t0)])) _
 have hf10 : t0 = p2 := heq1.1
 refine G (fun t k => XS.icmpNo X8.here hx rfl (hb hby d3_163) rfl (teq hf10).2 (XS.aloadN X8.here hx rfl (hb hby d3_166) rfl rfl k)) ?_
 obtain ⟨T11, X11, e11, st11⟩ := getF X8 hx hZ hown (host := "") (Or.inl (wd10 hw)) Via.refl e8 F_a1_terms (g := (mkF m 167 #[vr a1, vi p2, vi p3, vi p4, vi 127, vi ((f4 p2 p3 p4) &&& (127 : Int32)), vi 0] [(.ref a1)])) rfl rfl (hb hby d3_167)
 refine G st11 ?_
 refine G (fun t k => XS.iconst X11.here hx rfl (hb hby d3_170) (XS.iload X11.here hx rfl (hb hby d3_171) rfl (XS.imul X11.here hx rfl (hb hby d3_173) rfl (XS.iconst X11.here hx rfl (hb hby d3_174) k)))) ?_
 show Go _ _ _ (T11.setTop (mkF m 175 #[vr a1, vi p2, vi p3, vi p4, vi 127, vi ((f4 p2 p3 p4) &&& (127 : Int32)), vi 0] [(.int 1), (.int 0), (.ref w_T)])) _
 refine G (fun t k => XS.iadd X11.here hx rfl (hb hby d3_175) rfl k) ?_
 obtain ⟨cl12, Ar12, -, Sz12, Ng12, Hs12, -⟩ := id V_T
 have hin12 : ¬ ((1 : Int32) < 0 ∨ cl12.slots.size ≤ ((1 : Int32)).toNatClampNeg) := inb_of Sz12 ⟨by decide, by decide⟩
 refine G (fun t k => X11.iaload hx (j := (1 : Int32)) (v := (.int t1)) (by rw [e11]; exact Ar12.1) (State.isArrayOf_alike hZ.alike Ar12.2.1) Ar12.2.2 hin12 (Has.at Hs12 hin12 rfl) (g := (mkF m 176 #[vr a1, vi p2, vi p3, vi p4, vi 127, vi ((f4 p2 p3 p4) &&& (127 : Int32)), vi 0] [(.int 1), (.ref w_T)])) rfl rfl (hb hby d3_176) _ k) ?_
 clear hin12 Hs12 Ng12 Sz12 Ar12 cl12
 refine G (fun t k => XS.iloadN X11.here hx rfl (hb hby d3_177) rfl k) ?_
 have hf13 : t1 = p3 := heq1.2.1
 refine G (fun t k => XS.icmpNo X11.here hx rfl (hb hby d3_178) rfl (teq hf13).2 (XS.aloadN X11.here hx rfl (hb hby d3_181) rfl rfl k)) ?_
 obtain ⟨T14, X14, e14, st14⟩ := getF X11 hx hZ hown (host := "") (Or.inl (wd10 hw)) Via.refl e11 F_a1_terms (g := (mkF m 182 #[vr a1, vi p2, vi p3, vi p4, vi 127, vi ((f4 p2 p3 p4) &&& (127 : Int32)), vi 0] [(.ref a1)])) rfl rfl (hb hby d3_182)
 refine G st14 ?_
 refine G (fun t k => XS.iconst X14.here hx rfl (hb hby d3_185) k) ?_
 show Go _ _ _ (T14.setTop (mkF m 186 #[vr a1, vi p2, vi p3, vi p4, vi 127, vi ((f4 p2 p3 p4) &&& (127 : Int32)), vi 0] [(.int 3), (.ref w_T)])) _
 refine G (fun t k => XS.iload X14.here hx rfl (hb hby d3_186) rfl (XS.imul X14.here hx rfl (hb hby d3_188) rfl (XS.iconst X14.here hx rfl (hb hby d3_189) (XS.iadd X14.here hx rfl (hb hby d3_190) rfl k)))) ?_
 obtain ⟨cl15, Ar15, -, Sz15, Ng15, Hs15, -⟩ := id V_T
 have hin15 : ¬ ((2 : Int32) < 0 ∨ cl15.slots.size ≤ ((2 : Int32)).toNatClampNeg) := inb_of Sz15 ⟨by decide, by decide⟩
 refine G (fun t k => X14.iaload hx (j := (2 : Int32)) (v := (.int t2)) (by rw [e14]; exact Ar15.1) (State.isArrayOf_alike hZ.alike Ar15.2.1) Ar15.2.2 hin15 (Has.at Hs15 hin15 rfl) (g := (mkF m 191 #[vr a1, vi p2, vi p3, vi p4, vi 127, vi ((f4 p2 p3 p4) &&& (127 : Int32)), vi 0] [(.int 2), (.ref w_T)])) rfl rfl (hb hby d3_191) _ k) ?_
 clear hin15 Hs15 Ng15 Sz15 Ar15 cl15
 refine G (fun t k => XS.iloadN X14.here hx rfl (hb hby d3_192) rfl k) ?_
 have hf16 : t2 = p4 := heq1.2.2
 refine G (fun t k => XS.icmpNo X14.here hx rfl (hb hby d3_193) rfl (teq hf16).2 k) ?_
 show Go _ _ _ (T14.setTop (mkF m 196 #[vr a1, vi p2, vi p3, vi p4, vi 127, vi ((f4 p2 p3 p4) &&& (127 : Int32)), vi 0] [])) _
 refine G (fun t k => XS.iconst X14.here hx rfl (hb hby d3_196) k) ?_
 obtain ⟨fs, hr, hrun, hended, hW, hsame⟩ := X14.leave (v := some (.int (0 : Int32))) (fun h => by rw [Bd.returns] at h; cases h)
 refine Go.fin (retN X14 hx (t := .boolean) Bd.returns (by simp) (hb hby d3_197) hr) hrun hended ⟨_, _, rfl, ?_, ⟨_, rfl⟩, hW, hsame.mono (by decide) (by decide)⟩
 show Q3d11 Z a1 p2 p3 p4 w_T w_S k_T k_S t0 t1 t2 i1 h0 n0 _ T14.heap _
 rw [e14]
 exact ⟨rfl, N3, rfl⟩
def f3n2_w_S_i0 (p2 : Int32) (p3 : Int32) (p4 : Int32) (i1 : Int32) (i2 : Int32) : Int32 := (if ((f4 p2 p3 p4) &&& (127 : Int32)) = i2 then (if ((((f4 p2 p3 p4) &&& (127 : Int32)) + (1 : Int32)) &&& (127 : Int32)) = i1 then ((((((f4 p2 p3 p4) &&& (127 : Int32)) + (1 : Int32)) &&& (127 : Int32)) + (1 : Int32)) &&& (127 : Int32)) else ((((f4 p2 p3 p4) &&& (127 : Int32)) + (1 : Int32)) &&& (127 : Int32))) else (if ((f4 p2 p3 p4) &&& (127 : Int32)) = i1 then (if ((((f4 p2 p3 p4) &&& (127 : Int32)) + (1 : Int32)) &&& (127 : Int32)) = i2 then ((((((f4 p2 p3 p4) &&& (127 : Int32)) + (1 : Int32)) &&& (127 : Int32)) + (1 : Int32)) &&& (127 : Int32)) else ((((f4 p2 p3 p4) &&& (127 : Int32)) + (1 : Int32)) &&& (127 : Int32))) else ((f4 p2 p3 p4) &&& (127 : Int32))))
def Q3n2 (Z : State) (a1 : Addr) (p2 : Int32) (p3 : Int32) (p4 : Int32) (w_T : Addr) (w_S : Addr) (k_T : ClassId) (k_S : ClassId) (t0 : Int32) (t1 : Int32) (t2 : Int32) (t3 : Int32) (t4 : Int32) (t5 : Int32) (i1 : Int32) (i2 : Int32) (h0 : Heap) (n0 : Nat) (v : Option Value) (h : Heap) (L : List Loc) : Prop := v = some (.int (1 : Int32)) ∧ Fr n0 L ∧ Keep h0 h [w_T, a1, w_S] ∧ Exa Z h a1 TC ∧ Fld Z h a1 TC "size" "I" (.int (3 : Int32)) ∧ Fld Z h a1 TC "terms" "[I" (.ref w_T) ∧ Fld Z h a1 TC "slots" "[I" (.ref w_S) ∧ Arv Z h w_T k_T .int (192 : Int32) [(.int t0), (.int t1), (.int t2), (.int t3), (.int t4), (.int t5), (.int p2), (.int p3), (.int p4)] (.int (0 : Int32)) ∧ Arh Z h w_S k_S .int (128 : Int32) [((f3n2_w_S_i0 p2 p3 p4 i1 i2), (.int (3 : Int32))), (i2, (.int (2 : Int32))), (i1, (.int (1 : Int32)))] [] (.int (0 : Int32))
theorem ef3n2 (m : MethodId) (x0 : Addr) (x1 : Int32) (x2 : Int32) (x3 : Int32) : entryFrame m #[(.ref x0), (.int x1), (.int x2), (.int x3)] 7 = mkF m 0 #[.val (.ref x0), .val (.int x1), .val (.int x2), .val (.int x3), .unset, .unset, .unset] [] := by first | (simp [entryFrame, mkF, argsToLocals, Value.category]; done) | rfl
theorem rm3n2 (l : Launch) (Z : State) (a0 : Array Value) (hw : HW a0 Z) (ws : List Jvm.Cond) (a1 : Addr) (p2 : Int32) (p3 : Int32) (p4 : Int32) (w_T : Addr) (w_S : Addr) (k_T : ClassId) (k_S : ClassId) (t0 : Int32) (t1 : Int32) (t2 : Int32) (t3 : Int32) (t4 : Int32) (t5 : Int32) (i1 : Int32) (i2 : Int32) (h0 : Heap) (n0 : Nat) (Z0 : n0 ≤ h0.size) (E_a1 : Exa Z h0 a1 TC) (F_a1_size : Fld Z h0 a1 TC "size" "I" (.int (2 : Int32))) (F_a1_terms : Fld Z h0 a1 TC "terms" "[I" (.ref w_T)) (F_a1_slots : Fld Z h0 a1 TC "slots" "[I" (.ref w_S)) (V_T : Arv Z h0 w_T k_T .int (192 : Int32) [(.int t0), (.int t1), (.int t2), (.int t3), (.int t4), (.int t5)] (.int (0 : Int32))) (V_S : Arh Z h0 w_S k_S .int (128 : Int32) [(i2, (.int (2 : Int32))), (i1, (.int (1 : Int32)))] [] (.int (0 : Int32))) (ne_w_T_a1 : w_T ≠ a1) (ne_w_S_a1 : w_S ≠ a1) (ne_w_T_w_S : w_T ≠ w_S) (hne1 : ¬ (t0 = p2 ∧ t1 = p3 ∧ t2 = p4)) (hne2 : ¬ (t3 = p2 ∧ t4 = p3 ∧ t5 = p4)) (hd : ¬ i2 = i1) (g_w_T : n0 ≤ w_T) (g_a1 : n0 ≤ a1) (g_w_S : n0 ≤ w_S) :
  MetFree l (⟨TC, "add", "(III)Z"⟩ : MethodName) (head1 (Jvm.Cond.code (⟨TC, "add", "(III)Z"⟩ : MethodName) cB3 7 (some .boolean) :: ws) (Rm 1 0 0 16)) (Pr Z h0 #[(.ref a1), (.int p2), (.int p3), (.int p4)]) Tr (fun _ U o U' => ∃ v L, o = .returned v ∧ Q3n2 Z a1 p2 p3 p4 w_T w_S k_T k_S t0 t1 t2 t3 t4 t5 i1 i2 h0 n0 v U'.heap L ∧ FrameEnd U o U' L (Rm 1 0 0 16).cells (Rm 1 0 0 16).slots) := by
 refine MetFree.of_bodySF (plainFor_of_name pn0) hisR ?_
 intro p e s m args below meth c s₁ Bd hml0 hP hK
 obtain ⟨rfl, hZ, hh⟩ := hP
 have hx := Bd.exec
 have hby := Bd.bytes
 have hml : c.maxLocals = 7 := hml0
 have hown : s.vm.findClass TC = some m.cls := findClass_of_methodNamed Bd.named
 have hnm := (name_of_methodNamed Bd.named Bd.method).1
 have X0 : Stand p l e (Rm 1 0 0 16) s m #[(.ref a1), (.int p2), (.int p3), (.int p4)] below meth c s₁ [] 0 0 := Stand.of_body Bd
 have e0 : s₁.heap = h0 := by rw [← hh, Bd.state]; rfl
 have N0 := Fr.nil n0
 have K0 : Keep h0 h0 [w_T, a1, w_S] := Keep.refl h0 _
 refine G (P := fun o U' => ∃ v L, o = .returned v ∧ Q3n2 Z a1 p2 p3 p4 w_T w_S k_T k_S t0 t1 t2 t3 t4 t5 i1 i2 h0 n0 v U'.heap L ∧ FrameEnd s o U' L (Rm 1 0 0 16).cells (Rm 1 0 0 16).slots) (fun t k => castTop (ef3n2 m a1 p2 p3 p4) k) ?_
 show Go _ _ _ (s₁.setTop (mkF m 0 #[vr a1, vi p2, vi p3, vi p4, us, us, us] [])) _
 refine G (fun t k => XS.aloadN X0.here hx rfl (hb hby d3_0) rfl rfl k) ?_
 obtain ⟨T1, X1, e1, st1⟩ := getF X0 hx hZ hown (host := "") (Or.inl (wd12 hw)) Via.refl e0 F_a1_slots (g := (mkF m 1 #[vr a1, vi p2, vi p3, vi p4, us, us, us] [(.ref a1)])) rfl rfl (hb hby d3_1)
 refine G st1 ?_
 obtain ⟨cl2, Ar2, -, Sz2, Ng2, -, -⟩ := id V_S
 refine G (fun t k => X1.arraylength hx (by rw [e1]; exact Ar2.1) (State.isArrayOf_alike hZ.alike Ar2.2.1) (g := (mkF m 4 #[vr a1, vi p2, vi p3, vi p4, us, us, us] [(.ref w_S)])) rfl rfl (hb hby d3_4) _ k) ?_
 rw [len_of Sz2 Ng2]
 clear Ng2 Sz2 Ar2 cl2
 refine G (fun t k => XS.iconst X1.here hx rfl (hb hby d3_5) (XS.isub X1.here hx rfl (hb hby d3_6) rfl (XS.istore X1.here hx rfl (hb hby d3_7) rfl (l' := #[vr a1, vi p2, vi p3, vi p4, vi 127, us, us]) rfl (XS.iloadN X1.here hx rfl (hb hby d3_9) rfl k)))) ?_
 show Go _ _ _ (T1.setTop (mkF m 10 #[vr a1, vi p2, vi p3, vi p4, vi 127, us, us] [(.int p2)])) _
 refine G (fun t k => XS.iloadN X1.here hx rfl (hb hby d3_10) rfl (XS.iloadN X1.here hx rfl (hb hby d3_11) rfl k)) ?_
 obtain ⟨_, _, ⟨T3, L3, k3, n3⟩, -, X3, ⟨Lc3, hQ3, l3, y3, z3⟩, st3⟩ := Jvm.LawKit.callS X1 hx (y := (⟨TC, "hash", "(III)I"⟩ : MethodName)) hown (mvT hZ (wd19 hw)) (mvT hZ (wd20 hw)) (mvT hZ (wd3 hw)) (mvT hZ (wd21 hw)) (by decide) (backOf (W := 0) (rm4 l Z a0 hw [] p2 p3 p4 h0 n0 Z0) hZ (wd21 hw) (wd3 hw) (by decide) (by decide)) (g := (mkF m 12 #[vr a1, vi p2, vi p3, vi p4, vi 127, us, us] [(.int p4), (.int p3), (.int p2)])) rfl (by rw [hml]; rfl) (argsL := [(.int p2), (.int p3), (.int p4)]) (rest := []) (lenOf pd0 rfl) rfl (by show 2 * 0 + _ ≤ _; exact Nat.le_of_eq rfl) (hb hby d3_12) (fun _ _ => ⟨rfl, e1, (by decide : 0 + 0 ≤ _), (by decide : 0 + 0 ≤ _)⟩)
 dsimp only [Pt.U, Pt.locs, Pt.cells, Pt.slots] at X3 l3 y3 z3 st3 hQ3
 subst l3 y3 z3
 refine G st3 ?_
 obtain ⟨rfl, N3q, e3⟩ := hQ3
 have N3 := Fr.app N0 N3q
 refine G (fun t k => XS.iload X3.here hx rfl (hb hby d3_15) rfl (XS.iand X3.here hx rfl (hb hby d3_17) rfl (XS.istore X3.here hx rfl (hb hby d3_18) rfl (l' := #[vr a1, vi p2, vi p3, vi p4, vi 127, vi ((f4 p2 p3 p4) &&& (127 : Int32)), us]) rfl (XS.aloadN X3.here hx rfl (hb hby d3_20) rfl rfl k)))) ?_
 show Go _ _ _ (T3.setTop (mkF m 21 #[vr a1, vi p2, vi p3, vi p4, vi 127, vi ((f4 p2 p3 p4) &&& (127 : Int32)), us] [(.ref a1)])) _
 obtain ⟨T4, X4, e4, st4⟩ := getF X3 hx hZ hown (host := "") (Or.inl (wd12 hw)) Via.refl e3 F_a1_slots (g := (mkF m 21 #[vr a1, vi p2, vi p3, vi p4, vi 127, vi ((f4 p2 p3 p4) &&& (127 : Int32)), us] [(.ref a1)])) rfl rfl (hb hby d3_21)
 refine G st4 ?_
 refine G (fun t k => XS.iload X4.here hx rfl (hb hby d3_24) rfl k) ?_
 by_cases hc6 : ((f4 p2 p3 p4) &&& (127 : Int32)) = i2
 ·obtain ⟨cl7, Ar7, -, Sz7, Ng7, Hs7, -⟩ := id V_S
  have hin7 : ¬ (((f4 p2 p3 p4) &&& (127 : Int32)) < 0 ∨ cl7.slots.size ≤ (((f4 p2 p3 p4) &&& (127 : Int32))).toNatClampNeg) := inb_of Sz7 (own_127 (f4 p2 p3 p4))
  refine G (fun t k => X4.iaload hx (j := ((f4 p2 p3 p4) &&& (127 : Int32))) (v := (.int (2 : Int32))) (by rw [e4]; exact Ar7.1) (State.isArrayOf_alike hZ.alike Ar7.2.1) Ar7.2.2 hin7 (atH Hs7 hin7 (getH_hit ((own_127 (f4 p2 p3 p4))).1 hc6)) (g := (mkF m 26 #[vr a1, vi p2, vi p3, vi p4, vi 127, vi ((f4 p2 p3 p4) &&& (127 : Int32)), us] [(.int ((f4 p2 p3 p4) &&& (127 : Int32))), (.ref w_S)])) rfl rfl (hb hby d3_26) _ k) ?_
  show Go _ _ _ (T4.setTop (mkF m 27 #[vr a1, vi p2, vi p3, vi p4, vi 127, vi ((f4 p2 p3 p4) &&& (127 : Int32)), us] [(.int 2)])) _
  refine G (fun t k => XS.iconst X4.here hx rfl (hb hby d3_27) (XS.isub X4.here hx rfl (hb hby d3_28) rfl (XS.istore X4.here hx rfl (hb hby d3_29) rfl (l' := #[vr a1, vi p2, vi p3, vi p4, vi 127, vi ((f4 p2 p3 p4) &&& (127 : Int32)), vi 1]) rfl (XS.iload X4.here hx rfl (hb hby d3_31) rfl (XS.ifYes X4.here hx rfl (pc0 := 33) (pc' := 153) rfl (hb hby d3_33) rfl ((if0 _ _).trans (flt (by decide : ¬ ((1 : Int32) < (0 : Int32)))).2.1) (by decide) (by decide) k))))) ?_
  show Go _ _ _ (T4.setTop (mkF m 153 #[vr a1, vi p2, vi p3, vi p4, vi 127, vi ((f4 p2 p3 p4) &&& (127 : Int32)), vi 1] [])) _
  have J8 : ∀ (TJ : State) (locsJ : List Loc), Stand p l e (Rm 1 0 0 16) s m #[(.ref a1), (.int p2), (.int p3), (.int p4)] below meth c TJ locsJ 0 0 → TJ.heap = h0 → Fr n0 locsJ → Go p.tables e below (TJ.setTop (mkF m 198 #[vr a1, vi p2, vi p3, vi p4, vi 127, vi ((f4 p2 p3 p4) &&& (127 : Int32)), vi 1] [])) (fun o U' => ∃ v L, o = .returned v ∧ Q3n2 Z a1 p2 p3 p4 w_T w_S k_T k_S t0 t1 t2 t3 t4 t5 i1 i2 h0 n0 v U'.heap L ∧ FrameEnd s o U' L (Rm 1 0 0 16).cells (Rm 1 0 0 16).slots) := by
   intro TJ locsJ XJ eJ NJ
   refine G (fun t k => XS.iload XJ.here hx rfl (hb hby d3_198) rfl (XS.iconst XJ.here hx rfl (hb hby d3_200) (XS.iadd XJ.here hx rfl (hb hby d3_201) rfl (XS.iload XJ.here hx rfl (hb hby d3_202) rfl (XS.iand XJ.here hx rfl (hb hby d3_204) rfl (XS.istore XJ.here hx rfl (hb hby d3_205) rfl (l' := #[vr a1, vi p2, vi p3, vi p4, vi 127, vi ((((f4 p2 p3 p4) &&& (127 : Int32)) + (1 : Int32)) &&& (127 : Int32)), vi 1]) rfl k)))))) ?_
   refine G (fun t k => XS.goto XJ.here hx rfl (pc0 := 207) (pc' := 20) rfl (hb hby d3_207) (by decide) (by decide) k) ?_
   show Go _ _ _ (TJ.setTop (mkF m 20 #[vr a1, vi p2, vi p3, vi p4, vi 127, vi ((((f4 p2 p3 p4) &&& (127 : Int32)) + (1 : Int32)) &&& (127 : Int32)), vi 1] [])) _
   refine G (fun t k => XS.aloadN XJ.here hx rfl (hb hby d3_20) rfl rfl k) ?_
   obtain ⟨T9, X9, e9, st9⟩ := getF XJ hx hZ hown (host := "") (Or.inl (wd12 hw)) Via.refl eJ F_a1_slots (g := (mkF m 21 #[vr a1, vi p2, vi p3, vi p4, vi 127, vi ((((f4 p2 p3 p4) &&& (127 : Int32)) + (1 : Int32)) &&& (127 : Int32)), vi 1] [(.ref a1)])) rfl rfl (hb hby d3_21)
   refine G st9 ?_
   refine G (fun t k => XS.iload X9.here hx rfl (hb hby d3_24) rfl k) ?_
   have hf11 : ¬ (((((f4 p2 p3 p4) &&& (127 : Int32)) + (1 : Int32)) &&& (127 : Int32)) = i2) := fun z => own_n1 _ (z.trans hc6.symm)
   by_cases hc12 : ((((f4 p2 p3 p4) &&& (127 : Int32)) + (1 : Int32)) &&& (127 : Int32)) = i1
   ·obtain ⟨cl13, Ar13, -, Sz13, Ng13, Hs13, -⟩ := id V_S
    have hin13 : ¬ (((((f4 p2 p3 p4) &&& (127 : Int32)) + (1 : Int32)) &&& (127 : Int32)) < 0 ∨ cl13.slots.size ≤ (((((f4 p2 p3 p4) &&& (127 : Int32)) + (1 : Int32)) &&& (127 : Int32))).toNatClampNeg) := inb_of Sz13 (own_127 (((f4 p2 p3 p4) &&& (127 : Int32)) + (1 : Int32)))
    refine G (fun t k => X9.iaload hx (j := ((((f4 p2 p3 p4) &&& (127 : Int32)) + (1 : Int32)) &&& (127 : Int32))) (v := (.int (1 : Int32))) (by rw [e9]; exact Ar13.1) (State.isArrayOf_alike hZ.alike Ar13.2.1) Ar13.2.2 hin13 (atH Hs13 hin13 (getH_miss ((own_127 (((f4 p2 p3 p4) &&& (127 : Int32)) + (1 : Int32)))).1 hf11 (getH_hit ((own_127 (((f4 p2 p3 p4) &&& (127 : Int32)) + (1 : Int32)))).1 hc12))) (g := (mkF m 26 #[vr a1, vi p2, vi p3, vi p4, vi 127, vi ((((f4 p2 p3 p4) &&& (127 : Int32)) + (1 : Int32)) &&& (127 : Int32)), vi 1] [(.int ((((f4 p2 p3 p4) &&& (127 : Int32)) + (1 : Int32)) &&& (127 : Int32))), (.ref w_S)])) rfl rfl (hb hby d3_26) _ k) ?_
    show Go _ _ _ (T9.setTop (mkF m 27 #[vr a1, vi p2, vi p3, vi p4, vi 127, vi ((((f4 p2 p3 p4) &&& (127 : Int32)) + (1 : Int32)) &&& (127 : Int32)), vi 1] [(.int 1)])) _
    refine G (fun t k => XS.iconst X9.here hx rfl (hb hby d3_27) (XS.isub X9.here hx rfl (hb hby d3_28) rfl (XS.istore X9.here hx rfl (hb hby d3_29) rfl (l' := #[vr a1, vi p2, vi p3, vi p4, vi 127, vi ((((f4 p2 p3 p4) &&& (127 : Int32)) + (1 : Int32)) &&& (127 : Int32)), vi 0]) rfl (XS.iload X9.here hx rfl (hb hby d3_31) rfl (XS.ifYes X9.here hx rfl (pc0 := 33) (pc' := 153) rfl (hb hby d3_33) rfl ((if0 _ _).trans (flt (by decide : ¬ ((0 : Int32) < (0 : Int32)))).2.1) (by decide) (by decide) k))))) ?_
    show Go _ _ _ (T9.setTop (mkF m 153 #[vr a1, vi p2, vi p3, vi p4, vi 127, vi ((((f4 p2 p3 p4) &&& (127 : Int32)) + (1 : Int32)) &&& (127 : Int32)), vi 0] [])) _
    have J14 : ∀ (TJ : State) (locsJ : List Loc), Stand p l e (Rm 1 0 0 16) s m #[(.ref a1), (.int p2), (.int p3), (.int p4)] below meth c TJ locsJ 0 0 → TJ.heap = h0 → Fr n0 locsJ → Go p.tables e below (TJ.setTop (mkF m 198 #[vr a1, vi p2, vi p3, vi p4, vi 127, vi ((((f4 p2 p3 p4) &&& (127 : Int32)) + (1 : Int32)) &&& (127 : Int32)), vi 0] [])) (fun o U' => ∃ v L, o = .returned v ∧ Q3n2 Z a1 p2 p3 p4 w_T w_S k_T k_S t0 t1 t2 t3 t4 t5 i1 i2 h0 n0 v U'.heap L ∧ FrameEnd s o U' L (Rm 1 0 0 16).cells (Rm 1 0 0 16).slots) := by
     intro TJ locsJ XJ eJ NJ
     refine G (fun t k => XS.iload XJ.here hx rfl (hb hby d3_198) rfl (XS.iconst XJ.here hx rfl (hb hby d3_200) (XS.iadd XJ.here hx rfl (hb hby d3_201) rfl (XS.iload XJ.here hx rfl (hb hby d3_202) rfl (XS.iand XJ.here hx rfl (hb hby d3_204) rfl (XS.istore XJ.here hx rfl (hb hby d3_205) rfl (l' := #[vr a1, vi p2, vi p3, vi p4, vi 127, vi ((((((f4 p2 p3 p4) &&& (127 : Int32)) + (1 : Int32)) &&& (127 : Int32)) + (1 : Int32)) &&& (127 : Int32)), vi 0]) rfl k)))))) ?_
     refine G (fun t k => XS.goto XJ.here hx rfl (pc0 := 207) (pc' := 20) rfl (hb hby d3_207) (by decide) (by decide) k) ?_
     show Go _ _ _ (TJ.setTop (mkF m 20 #[vr a1, vi p2, vi p3, vi p4, vi 127, vi ((((((f4 p2 p3 p4) &&& (127 : Int32)) + (1 : Int32)) &&& (127 : Int32)) + (1 : Int32)) &&& (127 : Int32)), vi 0] [])) _
     refine G (fun t k => XS.aloadN XJ.here hx rfl (hb hby d3_20) rfl rfl k) ?_
     obtain ⟨T15, X15, e15, st15⟩ := getF XJ hx hZ hown (host := "") (Or.inl (wd12 hw)) Via.refl eJ F_a1_slots (g := (mkF m 21 #[vr a1, vi p2, vi p3, vi p4, vi 127, vi ((((((f4 p2 p3 p4) &&& (127 : Int32)) + (1 : Int32)) &&& (127 : Int32)) + (1 : Int32)) &&& (127 : Int32)), vi 0] [(.ref a1)])) rfl rfl (hb hby d3_21)
     refine G st15 ?_
     refine G (fun t k => XS.iload X15.here hx rfl (hb hby d3_24) rfl k) ?_
     have hf17 : ¬ (((((((f4 p2 p3 p4) &&& (127 : Int32)) + (1 : Int32)) &&& (127 : Int32)) + (1 : Int32)) &&& (127 : Int32)) = i2) := fun z => own_n2 _ (z.trans hc6.symm)
     have hf18 : ¬ (((((((f4 p2 p3 p4) &&& (127 : Int32)) + (1 : Int32)) &&& (127 : Int32)) + (1 : Int32)) &&& (127 : Int32)) = i1) := fun z => own_n1 _ (z.trans hc12.symm)
     obtain ⟨cl19, Ar19, -, Sz19, Ng19, Hs19, -⟩ := id V_S
     have hin19 : ¬ (((((((f4 p2 p3 p4) &&& (127 : Int32)) + (1 : Int32)) &&& (127 : Int32)) + (1 : Int32)) &&& (127 : Int32)) < 0 ∨ cl19.slots.size ≤ (((((((f4 p2 p3 p4) &&& (127 : Int32)) + (1 : Int32)) &&& (127 : Int32)) + (1 : Int32)) &&& (127 : Int32))).toNatClampNeg) := inb_of Sz19 (own_127 (((((f4 p2 p3 p4) &&& (127 : Int32)) + (1 : Int32)) &&& (127 : Int32)) + (1 : Int32)))
     refine G (fun t k => X15.iaload hx (j := ((((((f4 p2 p3 p4) &&& (127 : Int32)) + (1 : Int32)) &&& (127 : Int32)) + (1 : Int32)) &&& (127 : Int32))) (v := (.int (0 : Int32))) (by rw [e15]; exact Ar19.1) (State.isArrayOf_alike hZ.alike Ar19.2.1) Ar19.2.2 hin19 (atH Hs19 hin19 (getH_miss ((own_127 (((((f4 p2 p3 p4) &&& (127 : Int32)) + (1 : Int32)) &&& (127 : Int32)) + (1 : Int32)))).1 hf17 (getH_miss ((own_127 (((((f4 p2 p3 p4) &&& (127 : Int32)) + (1 : Int32)) &&& (127 : Int32)) + (1 : Int32)))).1 hf18 rfl))) (g := (mkF m 26 #[vr a1, vi p2, vi p3, vi p4, vi 127, vi ((((((f4 p2 p3 p4) &&& (127 : Int32)) + (1 : Int32)) &&& (127 : Int32)) + (1 : Int32)) &&& (127 : Int32)), vi 0] [(.int ((((((f4 p2 p3 p4) &&& (127 : Int32)) + (1 : Int32)) &&& (127 : Int32)) + (1 : Int32)) &&& (127 : Int32))), (.ref w_S)])) rfl rfl (hb hby d3_26) _ k) ?_
     show Go _ _ _ (T15.setTop (mkF m 27 #[vr a1, vi p2, vi p3, vi p4, vi 127, vi ((((((f4 p2 p3 p4) &&& (127 : Int32)) + (1 : Int32)) &&& (127 : Int32)) + (1 : Int32)) &&& (127 : Int32)), vi 0] [(.int 0)])) _
     refine G (fun t k => XS.iconst X15.here hx rfl (hb hby d3_27) (XS.isub X15.here hx rfl (hb hby d3_28) rfl (XS.istore X15.here hx rfl (hb hby d3_29) rfl (l' := #[vr a1, vi p2, vi p3, vi p4, vi 127, vi ((((((f4 p2 p3 p4) &&& (127 : Int32)) + (1 : Int32)) &&& (127 : Int32)) + (1 : Int32)) &&& (127 : Int32)), vi (-1)]) rfl (XS.iload X15.here hx rfl (hb hby d3_31) rfl (XS.ifNo X15.here hx rfl (hb hby d3_33) rfl ((if0 _ _).trans (tlt (by decide : (-1 : Int32) < (0 : Int32))).2.1) (XS.aloadN X15.here hx rfl (hb hby d3_36) rfl rfl k)))))) ?_
     obtain ⟨T20, X20, e20, st20⟩ := getF X15 hx hZ hown (host := "") (Or.inl (wd25 hw)) Via.refl e15 F_a1_size (g := (mkF m 37 #[vr a1, vi p2, vi p3, vi p4, vi 127, vi ((((((f4 p2 p3 p4) &&& (127 : Int32)) + (1 : Int32)) &&& (127 : Int32)) + (1 : Int32)) &&& (127 : Int32)), vi (-1)] [(.ref a1)])) rfl rfl (hb hby d3_37)
     refine G st20 ?_
     show Go _ _ _ (T20.setTop (mkF m 40 #[vr a1, vi p2, vi p3, vi p4, vi 127, vi ((((((f4 p2 p3 p4) &&& (127 : Int32)) + (1 : Int32)) &&& (127 : Int32)) + (1 : Int32)) &&& (127 : Int32)), vi (-1)] [(.int 2)])) _
     refine G (fun t k => XS.aloadN X20.here hx rfl (hb hby d3_40) rfl rfl k) ?_
     obtain ⟨T21, X21, e21, st21⟩ := getF X20 hx hZ hown (host := "") (Or.inl (wd10 hw)) Via.refl e20 F_a1_terms (g := (mkF m 41 #[vr a1, vi p2, vi p3, vi p4, vi 127, vi ((((((f4 p2 p3 p4) &&& (127 : Int32)) + (1 : Int32)) &&& (127 : Int32)) + (1 : Int32)) &&& (127 : Int32)), vi (-1)] [(.ref a1), (.int 2)])) rfl rfl (hb hby d3_41)
     refine G st21 ?_
     obtain ⟨cl22, Ar22, -, Sz22, Ng22, -, -⟩ := id V_T
     refine G (fun t k => X21.arraylength hx (by rw [e21]; exact Ar22.1) (State.isArrayOf_alike hZ.alike Ar22.2.1) (g := (mkF m 44 #[vr a1, vi p2, vi p3, vi p4, vi 127, vi ((((((f4 p2 p3 p4) &&& (127 : Int32)) + (1 : Int32)) &&& (127 : Int32)) + (1 : Int32)) &&& (127 : Int32)), vi (-1)] [(.ref w_T), (.int 2)])) rfl rfl (hb hby d3_44) _ k) ?_
     rw [len_of Sz22 Ng22]
     clear Ng22 Sz22 Ar22 cl22
     refine G (fun t k => XS.iconst X21.here hx rfl (hb hby d3_45) (XS.idiv X21.here hx rfl (hb hby d3_46) rfl (by decide) (XS.icmpYes X21.here hx rfl (pc0 := 47) (pc' := 68) rfl (hb hby d3_47) rfl (feq (by decide : ¬ ((2 : Int32) = (64 : Int32)))).2 (by decide) (by decide) (XS.aloadN X21.here hx rfl (hb hby d3_68) rfl rfl k)))) ?_
     show Go _ _ _ (T21.setTop (mkF m 69 #[vr a1, vi p2, vi p3, vi p4, vi 127, vi ((((((f4 p2 p3 p4) &&& (127 : Int32)) + (1 : Int32)) &&& (127 : Int32)) + (1 : Int32)) &&& (127 : Int32)), vi (-1)] [(.ref a1)])) _
     obtain ⟨T23, X23, e23, st23⟩ := getF X21 hx hZ hown (host := "") (Or.inl (wd10 hw)) Via.refl e21 F_a1_terms (g := (mkF m 69 #[vr a1, vi p2, vi p3, vi p4, vi 127, vi ((((((f4 p2 p3 p4) &&& (127 : Int32)) + (1 : Int32)) &&& (127 : Int32)) + (1 : Int32)) &&& (127 : Int32)), vi (-1)] [(.ref a1)])) rfl rfl (hb hby d3_69)
     refine G st23 ?_
     refine G (fun t k => XS.iconst X23.here hx rfl (hb hby d3_72) (XS.aloadN X23.here hx rfl (hb hby d3_73) rfl rfl k)) ?_
     obtain ⟨T24, X24, e24, st24⟩ := getF X23 hx hZ hown (host := "") (Or.inl (wd25 hw)) Via.refl e23 F_a1_size (g := (mkF m 74 #[vr a1, vi p2, vi p3, vi p4, vi 127, vi ((((((f4 p2 p3 p4) &&& (127 : Int32)) + (1 : Int32)) &&& (127 : Int32)) + (1 : Int32)) &&& (127 : Int32)), vi (-1)] [(.ref a1), (.int 3), (.ref w_T)])) rfl rfl (hb hby d3_74)
     refine G st24 ?_
     refine G (fun t k => XS.imul X24.here hx rfl (hb hby d3_77) rfl (XS.iloadN X24.here hx rfl (hb hby d3_78) rfl k)) ?_
     replace V_T : Arv Z h0 w_T k_T .int (192 : Int32) [(.int t0), (.int t1), (.int t2), (.int t3), (.int t4), (.int t5), (.int (0 : Int32))] (.int (0 : Int32)) := V_T.pad (pad_rep [(.int t0), (.int t1), (.int t2), (.int t3), (.int t4), (.int t5)] (.int (0 : Int32)) 1)
     obtain ⟨cl25, Ar25, qq25, Sz25, Ng25, Hs25, Gs25⟩ := id V_T
     have hin25 : ¬ ((6 : Int32) < 0 ∨ cl25.slots.size ≤ ((6 : Int32)).toNatClampNeg) := inb_of Sz25 ⟨by decide, by decide⟩
     obtain ⟨T26, h26, X26, e26, W26, st26⟩ := stI X24 hx hZ e24 Ar25 (j := (6 : Int32)) hin25 (g := (mkF m 79 #[vr a1, vi p2, vi p3, vi p4, vi 127, vi ((((((f4 p2 p3 p4) &&& (127 : Int32)) + (1 : Int32)) &&& (127 : Int32)) + (1 : Int32)) &&& (127 : Int32)), vi (-1)] [(.int p2), (.int 6), (.ref w_T)])) rfl rfl (hb hby d3_79)
     refine G st26 ?_
     have N26 := Fr.snoc X26 NJ g_w_T
     replace E_a1 := E_a1.wr W26
     replace F_a1_size := F_a1_size.other W26 (Or.inl (Ne.symm ne_w_T_a1))
     replace F_a1_terms := F_a1_terms.other W26 (Or.inl (Ne.symm ne_w_T_a1))
     replace F_a1_slots := F_a1_slots.other W26 (Or.inl (Ne.symm ne_w_T_a1))
     replace V_S := V_S.other W26 (Ne.symm ne_w_T_w_S)
     replace Z0 := Nat.le_trans Z0 (Nat.le_of_eq W26.size.symm)
     replace K0 := K0.wr W26 (Or.inl (by simp))
     replace V_T : Arv Z h26 w_T k_T .int (192 : Int32) [(.int t0), (.int t1), (.int t2), (.int t3), (.int t4), (.int t5), (.int p2)] (.int (0 : Int32)) := Arv.set Ar25 qq25 Sz25 Ng25 Hs25 Gs25 rfl W26 6 rfl (Nat.le_of_ble_eq_true rfl)
     clear hin25 Gs25 Hs25 Ng25 Sz25 qq25 Ar25 cl25
     show Go _ _ _ (T26.setTop (mkF m 80 #[vr a1, vi p2, vi p3, vi p4, vi 127, vi ((((((f4 p2 p3 p4) &&& (127 : Int32)) + (1 : Int32)) &&& (127 : Int32)) + (1 : Int32)) &&& (127 : Int32)), vi (-1)] [])) _
     refine G (fun t k => XS.aloadN X26.here hx rfl (hb hby d3_80) rfl rfl k) ?_
     obtain ⟨T27, X27, e27, st27⟩ := getF X26 hx hZ hown (host := "") (Or.inl (wd10 hw)) Via.refl e26 F_a1_terms (g := (mkF m 81 #[vr a1, vi p2, vi p3, vi p4, vi 127, vi ((((((f4 p2 p3 p4) &&& (127 : Int32)) + (1 : Int32)) &&& (127 : Int32)) + (1 : Int32)) &&& (127 : Int32)), vi (-1)] [(.ref a1)])) rfl rfl (hb hby d3_81)
     refine G st27 ?_
     refine G (fun t k => XS.iconst X27.here hx rfl (hb hby d3_84) (XS.aloadN X27.here hx rfl (hb hby d3_85) rfl rfl k)) ?_
     obtain ⟨T28, X28, e28, st28⟩ := getF X27 hx hZ hown (host := "") (Or.inl (wd25 hw)) Via.refl e27 F_a1_size (g := (mkF m 86 #[vr a1, vi p2, vi p3, vi p4, vi 127, vi ((((((f4 p2 p3 p4) &&& (127 : Int32)) + (1 : Int32)) &&& (127 : Int32)) + (1 : Int32)) &&& (127 : Int32)), vi (-1)] [(.ref a1), (.int 3), (.ref w_T)])) rfl rfl (hb hby d3_86)
     refine G st28 ?_
     refine G (fun t k => XS.imul X28.here hx rfl (hb hby d3_89) rfl (XS.iconst X28.here hx rfl (hb hby d3_90) k)) ?_
     show Go _ _ _ (T28.setTop (mkF m 91 #[vr a1, vi p2, vi p3, vi p4, vi 127, vi ((((((f4 p2 p3 p4) &&& (127 : Int32)) + (1 : Int32)) &&& (127 : Int32)) + (1 : Int32)) &&& (127 : Int32)), vi (-1)] [(.int 1), (.int 6), (.ref w_T)])) _
     refine G (fun t k => XS.iadd X28.here hx rfl (hb hby d3_91) rfl (XS.iloadN X28.here hx rfl (hb hby d3_92) rfl k)) ?_
     replace V_T : Arv Z h26 w_T k_T .int (192 : Int32) [(.int t0), (.int t1), (.int t2), (.int t3), (.int t4), (.int t5), (.int p2), (.int (0 : Int32))] (.int (0 : Int32)) := V_T.pad (pad_rep [(.int t0), (.int t1), (.int t2), (.int t3), (.int t4), (.int t5), (.int p2)] (.int (0 : Int32)) 1)
     obtain ⟨cl29, Ar29, qq29, Sz29, Ng29, Hs29, Gs29⟩ := id V_T
     have hin29 : ¬ ((7 : Int32) < 0 ∨ cl29.slots.size ≤ ((7 : Int32)).toNatClampNeg) := inb_of Sz29 ⟨by decide, by decide⟩
     obtain ⟨T30, h30, X30, e30, W30, st30⟩ := stI X28 hx hZ e28 Ar29 (j := (7 : Int32)) hin29 (g := (mkF m 93 #[vr a1, vi p2, vi p3, vi p4, vi 127, vi ((((((f4 p2 p3 p4) &&& (127 : Int32)) + (1 : Int32)) &&& (127 : Int32)) + (1 : Int32)) &&& (127 : Int32)), vi (-1)] [(.int p3), (.int 7), (.ref w_T)])) rfl rfl (hb hby d3_93)
     refine G st30 ?_
     have N30 := Fr.snoc X30 N26 g_w_T
     replace E_a1 := E_a1.wr W30
     replace F_a1_size := F_a1_size.other W30 (Or.inl (Ne.symm ne_w_T_a1))
     replace F_a1_terms := F_a1_terms.other W30 (Or.inl (Ne.symm ne_w_T_a1))
     replace F_a1_slots := F_a1_slots.other W30 (Or.inl (Ne.symm ne_w_T_a1))
     replace V_S := V_S.other W30 (Ne.symm ne_w_T_w_S)
     replace Z0 := Nat.le_trans Z0 (Nat.le_of_eq W30.size.symm)
     replace K0 := K0.wr W30 (Or.inl (by simp))
     replace V_T : Arv Z h30 w_T k_T .int (192 : Int32) [(.int t0), (.int t1), (.int t2), (.int t3), (.int t4), (.int t5), (.int p2), (.int p3)] (.int (0 : Int32)) := Arv.set Ar29 qq29 Sz29 Ng29 Hs29 Gs29 rfl W30 7 rfl (Nat.le_of_ble_eq_true rfl)
     clear hin29 Gs29 Hs29 Ng29 Sz29 qq29 Ar29 cl29
     refine G (fun t k => XS.aloadN X30.here hx rfl (hb hby d3_94) rfl rfl k) ?_
     obtain ⟨T31, X31, e31, st31⟩ := getF X30 hx hZ hown (host := "") (Or.inl (wd10 hw)) Via.refl e30 F_a1_terms (g := (mkF m 95 #[vr a1, vi p2, vi p3, vi p4, vi 127, vi ((((((f4 p2 p3 p4) &&& (127 : Int32)) + (1 : Int32)) &&& (127 : Int32)) + (1 : Int32)) &&& (127 : Int32)), vi (-1)] [(.ref a1)])) rfl rfl (hb hby d3_95)
     refine G st31 ?_
     refine G (fun t k => XS.iconst X31.here hx rfl (hb hby d3_98) (XS.aloadN X31.here hx rfl (hb hby d3_99) rfl rfl k)) ?_
     show Go _ _ _ (T31.setTop (mkF m 100 #[vr a1, vi p2, vi p3, vi p4, vi 127, vi ((((((f4 p2 p3 p4) &&& (127 : Int32)) + (1 : Int32)) &&& (127 : Int32)) + (1 : Int32)) &&& (127 : Int32)), vi (-1)] [(.ref a1), (.int 3), (.ref w_T)])) _
     obtain ⟨T32, X32, e32, st32⟩ := getF X31 hx hZ hown (host := "") (Or.inl (wd25 hw)) Via.refl e31 F_a1_size (g := (mkF m 100 #[vr a1, vi p2, vi p3, vi p4, vi 127, vi ((((((f4 p2 p3 p4) &&& (127 : Int32)) + (1 : Int32)) &&& (127 : Int32)) + (1 : Int32)) &&& (127 : Int32)), vi (-1)] [(.ref a1), (.int 3), (.ref w_T)])) rfl rfl (hb hby d3_100)
     refine G st32 ?_
     refine G (fun t k => XS.imul X32.here hx rfl (hb hby d3_103) rfl (XS.iconst X32.here hx rfl (hb hby d3_104) (XS.iadd X32.here hx rfl (hb hby d3_105) rfl (XS.iloadN X32.here hx rfl (hb hby d3_106) rfl k)))) ?_
     replace V_T : Arv Z h30 w_T k_T .int (192 : Int32) [(.int t0), (.int t1), (.int t2), (.int t3), (.int t4), (.int t5), (.int p2), (.int p3), (.int (0 : Int32))] (.int (0 : Int32)) := V_T.pad (pad_rep [(.int t0), (.int t1), (.int t2), (.int t3), (.int t4), (.int t5), (.int p2), (.int p3)] (.int (0 : Int32)) 1)
     obtain ⟨cl33, Ar33, qq33, Sz33, Ng33, Hs33, Gs33⟩ := id V_T
     have hin33 : ¬ ((8 : Int32) < 0 ∨ cl33.slots.size ≤ ((8 : Int32)).toNatClampNeg) := inb_of Sz33 ⟨by decide, by decide⟩
     obtain ⟨T34, h34, X34, e34, W34, st34⟩ := stI X32 hx hZ e32 Ar33 (j := (8 : Int32)) hin33 (g := (mkF m 107 #[vr a1, vi p2, vi p3, vi p4, vi 127, vi ((((((f4 p2 p3 p4) &&& (127 : Int32)) + (1 : Int32)) &&& (127 : Int32)) + (1 : Int32)) &&& (127 : Int32)), vi (-1)] [(.int p4), (.int 8), (.ref w_T)])) rfl rfl (hb hby d3_107)
     refine G st34 ?_
     have N34 := Fr.snoc X34 N30 g_w_T
     obtain ⟨LL34, X34, N34⟩ : ∃ LL, Stand p l e (Rm 1 0 0 16) s m #[(.ref a1), (.int p2), (.int p3), (.int p4)] below meth c T34 LL 0 0 ∧ Fr n0 LL := ⟨_, X34, N34⟩
     replace E_a1 := E_a1.wr W34
     replace F_a1_size := F_a1_size.other W34 (Or.inl (Ne.symm ne_w_T_a1))
     replace F_a1_terms := F_a1_terms.other W34 (Or.inl (Ne.symm ne_w_T_a1))
     replace F_a1_slots := F_a1_slots.other W34 (Or.inl (Ne.symm ne_w_T_a1))
     replace V_S := V_S.other W34 (Ne.symm ne_w_T_w_S)
     replace Z0 := Nat.le_trans Z0 (Nat.le_of_eq W34.size.symm)
     replace K0 := K0.wr W34 (Or.inl (by simp))
     replace V_T : Arv Z h34 w_T k_T .int (192 : Int32) [(.int t0), (.int t1), (.int t2), (.int t3), (.int t4), (.int t5), (.int p2), (.int p3), (.int p4)] (.int (0 : Int32)) := Arv.set Ar33 qq33 Sz33 Ng33 Hs33 Gs33 rfl W34 8 rfl (Nat.le_of_ble_eq_true rfl)
     clear hin33 Gs33 Hs33 Ng33 Sz33 qq33 Ar33 cl33
     refine G (fun t k => XS.aloadN X34.here hx rfl (hb hby d3_108) rfl rfl k) ?_
     show Go _ _ _ (T34.setTop (mkF m 109 #[vr a1, vi p2, vi p3, vi p4, vi 127, vi ((((((f4 p2 p3 p4) &&& (127 : Int32)) + (1 : Int32)) &&& (127 : Int32)) + (1 : Int32)) &&& (127 : Int32)), vi (-1)] [(.ref a1)])) _
     obtain ⟨T35, X35, e35, st35⟩ := getF X34 hx hZ hown (host := "") (Or.inl (wd12 hw)) Via.refl e34 F_a1_slots (g := (mkF m 109 #[vr a1, vi p2, vi p3, vi p4, vi 127, vi ((((((f4 p2 p3 p4) &&& (127 : Int32)) + (1 : Int32)) &&& (127 : Int32)) + (1 : Int32)) &&& (127 : Int32)), vi (-1)] [(.ref a1)])) rfl rfl (hb hby d3_109)
     refine G st35 ?_
     refine G (fun t k => XS.iload X35.here hx rfl (hb hby d3_112) rfl (XS.aloadN X35.here hx rfl (hb hby d3_114) rfl rfl (XS.dup X35.here hx rfl (hb hby d3_115) rfl rfl k))) ?_
     obtain ⟨T36, X36, e36, st36⟩ := getF X35 hx hZ hown (host := "") (Or.inl (wd25 hw)) Via.refl e35 F_a1_size (g := (mkF m 116 #[vr a1, vi p2, vi p3, vi p4, vi 127, vi ((((((f4 p2 p3 p4) &&& (127 : Int32)) + (1 : Int32)) &&& (127 : Int32)) + (1 : Int32)) &&& (127 : Int32)), vi (-1)] [(.ref a1), (.ref a1), (.int ((((((f4 p2 p3 p4) &&& (127 : Int32)) + (1 : Int32)) &&& (127 : Int32)) + (1 : Int32)) &&& (127 : Int32))), (.ref w_S)])) rfl rfl (hb hby d3_116)
     refine G st36 ?_
     refine G (fun t k => XS.iconst X36.here hx rfl (hb hby d3_119) (XS.iadd X36.here hx rfl (hb hby d3_120) rfl k)) ?_
     show Go _ _ _ (T36.setTop (mkF m 121 #[vr a1, vi p2, vi p3, vi p4, vi 127, vi ((((((f4 p2 p3 p4) &&& (127 : Int32)) + (1 : Int32)) &&& (127 : Int32)) + (1 : Int32)) &&& (127 : Int32)), vi (-1)] [(.int 3), (.ref a1), (.int ((((((f4 p2 p3 p4) &&& (127 : Int32)) + (1 : Int32)) &&& (127 : Int32)) + (1 : Int32)) &&& (127 : Int32))), (.ref w_S)])) _
     refine G (fun t k => XS.dupX1 X36.here hx rfl (hb hby d3_121) rfl rfl rfl k) ?_
     obtain ⟨T37, h37, X37, e37, W37, st37⟩ := putF X36 hx hZ hown (host := "") (Or.inl (wd25 hw)) Via.refl e36 F_a1_size E_a1 (Or.inl (wd26 hw)) (wd2 hw) (ty := .int) (by decide) rfl rfl (g := (mkF m 122 #[vr a1, vi p2, vi p3, vi p4, vi 127, vi ((((((f4 p2 p3 p4) &&& (127 : Int32)) + (1 : Int32)) &&& (127 : Int32)) + (1 : Int32)) &&& (127 : Int32)), vi (-1)] [(.int 3), (.ref a1), (.int 3), (.int ((((((f4 p2 p3 p4) &&& (127 : Int32)) + (1 : Int32)) &&& (127 : Int32)) + (1 : Int32)) &&& (127 : Int32))), (.ref w_S)])) rfl rfl (hb hby d3_122)
     refine G st37 ?_
     have N37 := Fr.snoc X37 N34 g_a1
     replace E_a1 := E_a1.wr W37
     replace F_a1_size := F_a1_size.same W37
     replace F_a1_terms := F_a1_terms.other W37 (sn4 hw)
     replace F_a1_slots := F_a1_slots.other W37 (sn5 hw)
     replace V_T := V_T.other W37 ne_w_T_a1
     replace V_S := V_S.other W37 ne_w_S_a1
     replace Z0 := Nat.le_trans Z0 (Nat.le_of_eq W37.size.symm)
     replace K0 := K0.wr W37 (Or.inl (by simp))
     obtain ⟨cl38, Ar38, qq38, Sz38, Ng38, Hs38, Gs38⟩ := id V_S
     have hin38 : ¬ (((((((f4 p2 p3 p4) &&& (127 : Int32)) + (1 : Int32)) &&& (127 : Int32)) + (1 : Int32)) &&& (127 : Int32)) < 0 ∨ cl38.slots.size ≤ (((((((f4 p2 p3 p4) &&& (127 : Int32)) + (1 : Int32)) &&& (127 : Int32)) + (1 : Int32)) &&& (127 : Int32))).toNatClampNeg) := inb_of Sz38 (own_127 (((((f4 p2 p3 p4) &&& (127 : Int32)) + (1 : Int32)) &&& (127 : Int32)) + (1 : Int32)))
     obtain ⟨T39, h39, X39, e39, W39, st39⟩ := stI X37 hx hZ e37 Ar38 (j := ((((((f4 p2 p3 p4) &&& (127 : Int32)) + (1 : Int32)) &&& (127 : Int32)) + (1 : Int32)) &&& (127 : Int32))) hin38 (g := (mkF m 125 #[vr a1, vi p2, vi p3, vi p4, vi 127, vi ((((((f4 p2 p3 p4) &&& (127 : Int32)) + (1 : Int32)) &&& (127 : Int32)) + (1 : Int32)) &&& (127 : Int32)), vi (-1)] [(.int 3), (.int ((((((f4 p2 p3 p4) &&& (127 : Int32)) + (1 : Int32)) &&& (127 : Int32)) + (1 : Int32)) &&& (127 : Int32))), (.ref w_S)])) rfl rfl (hb hby d3_125)
     refine G st39 ?_
     have N39 := Fr.snoc X39 N37 g_w_S
     replace E_a1 := E_a1.wr W39
     replace F_a1_size := F_a1_size.other W39 (Or.inl (Ne.symm ne_w_S_a1))
     replace F_a1_terms := F_a1_terms.other W39 (Or.inl (Ne.symm ne_w_S_a1))
     replace F_a1_slots := F_a1_slots.other W39 (Or.inl (Ne.symm ne_w_S_a1))
     replace V_T := V_T.other W39 ne_w_T_w_S
     replace Z0 := Nat.le_trans Z0 (Nat.le_of_eq W39.size.symm)
     replace K0 := K0.wr W39 (Or.inl (by simp))
     replace V_S : Arh Z h39 w_S k_S .int (128 : Int32) [(((((((f4 p2 p3 p4) &&& (127 : Int32)) + (1 : Int32)) &&& (127 : Int32)) + (1 : Int32)) &&& (127 : Int32)), (.int (3 : Int32))), (i2, (.int (2 : Int32))), (i1, (.int (1 : Int32)))] [] (.int (0 : Int32)) := Arh.push Ar38 qq38 Sz38 Ng38 Hs38 Gs38 rfl W39 hin38
     show Go _ _ _ (T39.setTop (mkF m 126 #[vr a1, vi p2, vi p3, vi p4, vi 127, vi ((((((f4 p2 p3 p4) &&& (127 : Int32)) + (1 : Int32)) &&& (127 : Int32)) + (1 : Int32)) &&& (127 : Int32)), vi (-1)] [])) _
     refine G (fun t k => XS.iconst X39.here hx rfl (hb hby d3_126) (XS.aloadN X39.here hx rfl (hb hby d3_127) rfl rfl k)) ?_
     obtain ⟨T40, X40, e40, st40⟩ := getF X39 hx hZ hown (host := "") (Or.inl (wd25 hw)) Via.refl e39 F_a1_size (g := (mkF m 128 #[vr a1, vi p2, vi p3, vi p4, vi 127, vi ((((((f4 p2 p3 p4) &&& (127 : Int32)) + (1 : Int32)) &&& (127 : Int32)) + (1 : Int32)) &&& (127 : Int32)), vi (-1)] [(.ref a1), (.int 2)])) rfl rfl (hb hby d3_128)
     refine G st40 ?_
     refine G (fun t k => XS.imul X40.here hx rfl (hb hby d3_131) rfl (XS.aloadN X40.here hx rfl (hb hby d3_132) rfl rfl k)) ?_
     obtain ⟨T41, X41, e41, st41⟩ := getF X40 hx hZ hown (host := "") (Or.inl (wd12 hw)) Via.refl e40 F_a1_slots (g := (mkF m 133 #[vr a1, vi p2, vi p3, vi p4, vi 127, vi ((((((f4 p2 p3 p4) &&& (127 : Int32)) + (1 : Int32)) &&& (127 : Int32)) + (1 : Int32)) &&& (127 : Int32)), vi (-1)] [(.ref a1), (.int 6)])) rfl rfl (hb hby d3_133)
     refine G st41 ?_
     obtain ⟨cl42, Ar42, -, Sz42, Ng42, -, -⟩ := id V_S
     refine G (fun t k => X41.arraylength hx (by rw [e41]; exact Ar42.1) (State.isArrayOf_alike hZ.alike Ar42.2.1) (g := (mkF m 136 #[vr a1, vi p2, vi p3, vi p4, vi 127, vi ((((((f4 p2 p3 p4) &&& (127 : Int32)) + (1 : Int32)) &&& (127 : Int32)) + (1 : Int32)) &&& (127 : Int32)), vi (-1)] [(.ref w_S), (.int 6)])) rfl rfl (hb hby d3_136) _ k) ?_
     rw [len_of Sz42 Ng42]
     clear Ng42 Sz42 Ar42 cl42
     show Go _ _ _ (T41.setTop (mkF m 137 #[vr a1, vi p2, vi p3, vi p4, vi 127, vi ((((((f4 p2 p3 p4) &&& (127 : Int32)) + (1 : Int32)) &&& (127 : Int32)) + (1 : Int32)) &&& (127 : Int32)), vi (-1)] [(.int 128), (.int 6)])) _
     refine G (fun t k => XS.icmpYes X41.here hx rfl (pc0 := 137) (pc' := 151) rfl (hb hby d3_137) rfl (flt (by decide : ¬ ((128 : Int32) < (6 : Int32)))).2.2.2 (by decide) (by decide) (XS.iconst X41.here hx rfl (hb hby d3_151) k)) ?_
     obtain ⟨fs, hr, hrun, hended, hW, hsame⟩ := X41.leave (v := some (.int (1 : Int32))) (fun h => by rw [Bd.returns] at h; cases h)
     refine Go.fin (retN X41 hx (t := .boolean) Bd.returns (by simp) (hb hby d3_152) hr) hrun hended ⟨_, _, rfl, ?_, ⟨_, rfl⟩, hW, hsame.mono (by decide) (by decide)⟩
     show Q3n2 Z a1 p2 p3 p4 w_T w_S k_T k_S t0 t1 t2 t3 t4 t5 i1 i2 h0 n0 _ T41.heap _
     rw [e41]
     exact ⟨rfl, N39, K0, E_a1, F_a1_size, F_a1_terms, F_a1_slots, V_T, (by unfold f3n2_w_S_i0; simp only [if_pos hc6, if_pos hc12]; exact V_S)⟩
    refine G (fun t k => XS.aloadN X9.here hx rfl (hb hby d3_153) rfl rfl k) ?_
    obtain ⟨T43, X43, e43, st43⟩ := getF X9 hx hZ hown (host := "") (Or.inl (wd10 hw)) Via.refl e9 F_a1_terms (g := (mkF m 154 #[vr a1, vi p2, vi p3, vi p4, vi 127, vi ((((f4 p2 p3 p4) &&& (127 : Int32)) + (1 : Int32)) &&& (127 : Int32)), vi 0] [(.ref a1)])) rfl rfl (hb hby d3_154)
    refine G st43 ?_
    refine G (fun t k => XS.iconst X43.here hx rfl (hb hby d3_157) (XS.iload X43.here hx rfl (hb hby d3_158) rfl (XS.imul X43.here hx rfl (hb hby d3_160) rfl k))) ?_
    obtain ⟨cl44, Ar44, -, Sz44, Ng44, Hs44, -⟩ := id V_T
    have hin44 : ¬ ((0 : Int32) < 0 ∨ cl44.slots.size ≤ ((0 : Int32)).toNatClampNeg) := inb_of Sz44 ⟨by decide, by decide⟩
    refine G (fun t k => X43.iaload hx (j := (0 : Int32)) (v := (.int t0)) (by rw [e43]; exact Ar44.1) (State.isArrayOf_alike hZ.alike Ar44.2.1) Ar44.2.2 hin44 (Has.at Hs44 hin44 rfl) (g := (mkF m 161 #[vr a1, vi p2, vi p3, vi p4, vi 127, vi ((((f4 p2 p3 p4) &&& (127 : Int32)) + (1 : Int32)) &&& (127 : Int32)), vi 0] [(.int 0), (.ref w_T)])) rfl rfl (hb hby d3_161) _ k) ?_
    clear hin44 Hs44 Ng44 Sz44 Ar44 cl44
    refine G (fun t k => XS.iloadN X43.here hx rfl (hb hby d3_162) rfl k) ?_
    show Go _ _ _ (T43.setTop (mkF m 163 #[vr a1, vi p2, vi p3, vi p4, vi 127, vi ((((f4 p2 p3 p4) &&& (127 : Int32)) + (1 : Int32)) &&& (127 : Int32)), vi 0] [(.int p2), (.int t0)])) _
    by_cases hc45 : t0 = p2
    ·refine G (fun t k => XS.icmpNo X43.here hx rfl (hb hby d3_163) rfl (teq hc45).2 (XS.aloadN X43.here hx rfl (hb hby d3_166) rfl rfl k)) ?_
     obtain ⟨T46, X46, e46, st46⟩ := getF X43 hx hZ hown (host := "") (Or.inl (wd10 hw)) Via.refl e43 F_a1_terms (g := (mkF m 167 #[vr a1, vi p2, vi p3, vi p4, vi 127, vi ((((f4 p2 p3 p4) &&& (127 : Int32)) + (1 : Int32)) &&& (127 : Int32)), vi 0] [(.ref a1)])) rfl rfl (hb hby d3_167)
     refine G st46 ?_
     refine G (fun t k => XS.iconst X46.here hx rfl (hb hby d3_170) (XS.iload X46.here hx rfl (hb hby d3_171) rfl (XS.imul X46.here hx rfl (hb hby d3_173) rfl (XS.iconst X46.here hx rfl (hb hby d3_174) k)))) ?_
     show Go _ _ _ (T46.setTop (mkF m 175 #[vr a1, vi p2, vi p3, vi p4, vi 127, vi ((((f4 p2 p3 p4) &&& (127 : Int32)) + (1 : Int32)) &&& (127 : Int32)), vi 0] [(.int 1), (.int 0), (.ref w_T)])) _
     refine G (fun t k => XS.iadd X46.here hx rfl (hb hby d3_175) rfl k) ?_
     obtain ⟨cl47, Ar47, -, Sz47, Ng47, Hs47, -⟩ := id V_T
     have hin47 : ¬ ((1 : Int32) < 0 ∨ cl47.slots.size ≤ ((1 : Int32)).toNatClampNeg) := inb_of Sz47 ⟨by decide, by decide⟩
     refine G (fun t k => X46.iaload hx (j := (1 : Int32)) (v := (.int t1)) (by rw [e46]; exact Ar47.1) (State.isArrayOf_alike hZ.alike Ar47.2.1) Ar47.2.2 hin47 (Has.at Hs47 hin47 rfl) (g := (mkF m 176 #[vr a1, vi p2, vi p3, vi p4, vi 127, vi ((((f4 p2 p3 p4) &&& (127 : Int32)) + (1 : Int32)) &&& (127 : Int32)), vi 0] [(.int 1), (.ref w_T)])) rfl rfl (hb hby d3_176) _ k) ?_
     clear hin47 Hs47 Ng47 Sz47 Ar47 cl47
     refine G (fun t k => XS.iloadN X46.here hx rfl (hb hby d3_177) rfl k) ?_
     by_cases hc48 : t1 = p3
     ·refine G (fun t k => XS.icmpNo X46.here hx rfl (hb hby d3_178) rfl (teq hc48).2 (XS.aloadN X46.here hx rfl (hb hby d3_181) rfl rfl k)) ?_
      obtain ⟨T49, X49, e49, st49⟩ := getF X46 hx hZ hown (host := "") (Or.inl (wd10 hw)) Via.refl e46 F_a1_terms (g := (mkF m 182 #[vr a1, vi p2, vi p3, vi p4, vi 127, vi ((((f4 p2 p3 p4) &&& (127 : Int32)) + (1 : Int32)) &&& (127 : Int32)), vi 0] [(.ref a1)])) rfl rfl (hb hby d3_182)
      refine G st49 ?_
      refine G (fun t k => XS.iconst X49.here hx rfl (hb hby d3_185) k) ?_
      show Go _ _ _ (T49.setTop (mkF m 186 #[vr a1, vi p2, vi p3, vi p4, vi 127, vi ((((f4 p2 p3 p4) &&& (127 : Int32)) + (1 : Int32)) &&& (127 : Int32)), vi 0] [(.int 3), (.ref w_T)])) _
      refine G (fun t k => XS.iload X49.here hx rfl (hb hby d3_186) rfl (XS.imul X49.here hx rfl (hb hby d3_188) rfl (XS.iconst X49.here hx rfl (hb hby d3_189) (XS.iadd X49.here hx rfl (hb hby d3_190) rfl k)))) ?_
      obtain ⟨cl50, Ar50, -, Sz50, Ng50, Hs50, -⟩ := id V_T
      have hin50 : ¬ ((2 : Int32) < 0 ∨ cl50.slots.size ≤ ((2 : Int32)).toNatClampNeg) := inb_of Sz50 ⟨by decide, by decide⟩
      refine G (fun t k => X49.iaload hx (j := (2 : Int32)) (v := (.int t2)) (by rw [e49]; exact Ar50.1) (State.isArrayOf_alike hZ.alike Ar50.2.1) Ar50.2.2 hin50 (Has.at Hs50 hin50 rfl) (g := (mkF m 191 #[vr a1, vi p2, vi p3, vi p4, vi 127, vi ((((f4 p2 p3 p4) &&& (127 : Int32)) + (1 : Int32)) &&& (127 : Int32)), vi 0] [(.int 2), (.ref w_T)])) rfl rfl (hb hby d3_191) _ k) ?_
      clear hin50 Hs50 Ng50 Sz50 Ar50 cl50
      refine G (fun t k => XS.iloadN X49.here hx rfl (hb hby d3_192) rfl k) ?_
      have hf51 : ¬ (t2 = p4) := fun z => hne1 ⟨hc45, hc48, z⟩
      refine G (fun t k => XS.icmpYes X49.here hx rfl (pc0 := 193) (pc' := 198) rfl (hb hby d3_193) rfl (feq hf51).2 (by decide) (by decide) k) ?_
      show Go _ _ _ (T49.setTop (mkF m 198 #[vr a1, vi p2, vi p3, vi p4, vi 127, vi ((((f4 p2 p3 p4) &&& (127 : Int32)) + (1 : Int32)) &&& (127 : Int32)), vi 0] [])) _
      exact J14 _ _ X49 e49 NJ
     ·refine G (fun t k => XS.icmpYes X46.here hx rfl (pc0 := 178) (pc' := 198) rfl (hb hby d3_178) rfl (feq hc48).2 (by decide) (by decide) k) ?_
      show Go _ _ _ (T46.setTop (mkF m 198 #[vr a1, vi p2, vi p3, vi p4, vi 127, vi ((((f4 p2 p3 p4) &&& (127 : Int32)) + (1 : Int32)) &&& (127 : Int32)), vi 0] [])) _
      exact J14 _ _ X46 e46 NJ
    ·refine G (fun t k => XS.icmpYes X43.here hx rfl (pc0 := 163) (pc' := 198) rfl (hb hby d3_163) rfl (feq hc45).2 (by decide) (by decide) k) ?_
     show Go _ _ _ (T43.setTop (mkF m 198 #[vr a1, vi p2, vi p3, vi p4, vi 127, vi ((((f4 p2 p3 p4) &&& (127 : Int32)) + (1 : Int32)) &&& (127 : Int32)), vi 0] [])) _
     exact J14 _ _ X43 e43 NJ
   ·obtain ⟨cl52, Ar52, -, Sz52, Ng52, Hs52, -⟩ := id V_S
    have hin52 : ¬ (((((f4 p2 p3 p4) &&& (127 : Int32)) + (1 : Int32)) &&& (127 : Int32)) < 0 ∨ cl52.slots.size ≤ (((((f4 p2 p3 p4) &&& (127 : Int32)) + (1 : Int32)) &&& (127 : Int32))).toNatClampNeg) := inb_of Sz52 (own_127 (((f4 p2 p3 p4) &&& (127 : Int32)) + (1 : Int32)))
    refine G (fun t k => X9.iaload hx (j := ((((f4 p2 p3 p4) &&& (127 : Int32)) + (1 : Int32)) &&& (127 : Int32))) (v := (.int (0 : Int32))) (by rw [e9]; exact Ar52.1) (State.isArrayOf_alike hZ.alike Ar52.2.1) Ar52.2.2 hin52 (atH Hs52 hin52 (getH_miss ((own_127 (((f4 p2 p3 p4) &&& (127 : Int32)) + (1 : Int32)))).1 hf11 (getH_miss ((own_127 (((f4 p2 p3 p4) &&& (127 : Int32)) + (1 : Int32)))).1 hc12 rfl))) (g := (mkF m 26 #[vr a1, vi p2, vi p3, vi p4, vi 127, vi ((((f4 p2 p3 p4) &&& (127 : Int32)) + (1 : Int32)) &&& (127 : Int32)), vi 1] [(.int ((((f4 p2 p3 p4) &&& (127 : Int32)) + (1 : Int32)) &&& (127 : Int32))), (.ref w_S)])) rfl rfl (hb hby d3_26) _ k) ?_
    show Go _ _ _ (T9.setTop (mkF m 27 #[vr a1, vi p2, vi p3, vi p4, vi 127, vi ((((f4 p2 p3 p4) &&& (127 : Int32)) + (1 : Int32)) &&& (127 : Int32)), vi 1] [(.int 0)])) _
    refine G (fun t k => XS.iconst X9.here hx rfl (hb hby d3_27) (XS.isub X9.here hx rfl (hb hby d3_28) rfl (XS.istore X9.here hx rfl (hb hby d3_29) rfl (l' := #[vr a1, vi p2, vi p3, vi p4, vi 127, vi ((((f4 p2 p3 p4) &&& (127 : Int32)) + (1 : Int32)) &&& (127 : Int32)), vi (-1)]) rfl (XS.iload X9.here hx rfl (hb hby d3_31) rfl (XS.ifNo X9.here hx rfl (hb hby d3_33) rfl ((if0 _ _).trans (tlt (by decide : (-1 : Int32) < (0 : Int32))).2.1) (XS.aloadN X9.here hx rfl (hb hby d3_36) rfl rfl k)))))) ?_
    obtain ⟨T53, X53, e53, st53⟩ := getF X9 hx hZ hown (host := "") (Or.inl (wd25 hw)) Via.refl e9 F_a1_size (g := (mkF m 37 #[vr a1, vi p2, vi p3, vi p4, vi 127, vi ((((f4 p2 p3 p4) &&& (127 : Int32)) + (1 : Int32)) &&& (127 : Int32)), vi (-1)] [(.ref a1)])) rfl rfl (hb hby d3_37)
    refine G st53 ?_
    show Go _ _ _ (T53.setTop (mkF m 40 #[vr a1, vi p2, vi p3, vi p4, vi 127, vi ((((f4 p2 p3 p4) &&& (127 : Int32)) + (1 : Int32)) &&& (127 : Int32)), vi (-1)] [(.int 2)])) _
    refine G (fun t k => XS.aloadN X53.here hx rfl (hb hby d3_40) rfl rfl k) ?_
    obtain ⟨T54, X54, e54, st54⟩ := getF X53 hx hZ hown (host := "") (Or.inl (wd10 hw)) Via.refl e53 F_a1_terms (g := (mkF m 41 #[vr a1, vi p2, vi p3, vi p4, vi 127, vi ((((f4 p2 p3 p4) &&& (127 : Int32)) + (1 : Int32)) &&& (127 : Int32)), vi (-1)] [(.ref a1), (.int 2)])) rfl rfl (hb hby d3_41)
    refine G st54 ?_
    obtain ⟨cl55, Ar55, -, Sz55, Ng55, -, -⟩ := id V_T
    refine G (fun t k => X54.arraylength hx (by rw [e54]; exact Ar55.1) (State.isArrayOf_alike hZ.alike Ar55.2.1) (g := (mkF m 44 #[vr a1, vi p2, vi p3, vi p4, vi 127, vi ((((f4 p2 p3 p4) &&& (127 : Int32)) + (1 : Int32)) &&& (127 : Int32)), vi (-1)] [(.ref w_T), (.int 2)])) rfl rfl (hb hby d3_44) _ k) ?_
    rw [len_of Sz55 Ng55]
    clear Ng55 Sz55 Ar55 cl55
    refine G (fun t k => XS.iconst X54.here hx rfl (hb hby d3_45) (XS.idiv X54.here hx rfl (hb hby d3_46) rfl (by decide) (XS.icmpYes X54.here hx rfl (pc0 := 47) (pc' := 68) rfl (hb hby d3_47) rfl (feq (by decide : ¬ ((2 : Int32) = (64 : Int32)))).2 (by decide) (by decide) (XS.aloadN X54.here hx rfl (hb hby d3_68) rfl rfl k)))) ?_
    show Go _ _ _ (T54.setTop (mkF m 69 #[vr a1, vi p2, vi p3, vi p4, vi 127, vi ((((f4 p2 p3 p4) &&& (127 : Int32)) + (1 : Int32)) &&& (127 : Int32)), vi (-1)] [(.ref a1)])) _
    obtain ⟨T56, X56, e56, st56⟩ := getF X54 hx hZ hown (host := "") (Or.inl (wd10 hw)) Via.refl e54 F_a1_terms (g := (mkF m 69 #[vr a1, vi p2, vi p3, vi p4, vi 127, vi ((((f4 p2 p3 p4) &&& (127 : Int32)) + (1 : Int32)) &&& (127 : Int32)), vi (-1)] [(.ref a1)])) rfl rfl (hb hby d3_69)
    refine G st56 ?_
    refine G (fun t k => XS.iconst X56.here hx rfl (hb hby d3_72) (XS.aloadN X56.here hx rfl (hb hby d3_73) rfl rfl k)) ?_
    obtain ⟨T57, X57, e57, st57⟩ := getF X56 hx hZ hown (host := "") (Or.inl (wd25 hw)) Via.refl e56 F_a1_size (g := (mkF m 74 #[vr a1, vi p2, vi p3, vi p4, vi 127, vi ((((f4 p2 p3 p4) &&& (127 : Int32)) + (1 : Int32)) &&& (127 : Int32)), vi (-1)] [(.ref a1), (.int 3), (.ref w_T)])) rfl rfl (hb hby d3_74)
    refine G st57 ?_
    refine G (fun t k => XS.imul X57.here hx rfl (hb hby d3_77) rfl (XS.iloadN X57.here hx rfl (hb hby d3_78) rfl k)) ?_
    replace V_T : Arv Z h0 w_T k_T .int (192 : Int32) [(.int t0), (.int t1), (.int t2), (.int t3), (.int t4), (.int t5), (.int (0 : Int32))] (.int (0 : Int32)) := V_T.pad (pad_rep [(.int t0), (.int t1), (.int t2), (.int t3), (.int t4), (.int t5)] (.int (0 : Int32)) 1)
    obtain ⟨cl58, Ar58, qq58, Sz58, Ng58, Hs58, Gs58⟩ := id V_T
    have hin58 : ¬ ((6 : Int32) < 0 ∨ cl58.slots.size ≤ ((6 : Int32)).toNatClampNeg) := inb_of Sz58 ⟨by decide, by decide⟩
    obtain ⟨T59, h59, X59, e59, W59, st59⟩ := stI X57 hx hZ e57 Ar58 (j := (6 : Int32)) hin58 (g := (mkF m 79 #[vr a1, vi p2, vi p3, vi p4, vi 127, vi ((((f4 p2 p3 p4) &&& (127 : Int32)) + (1 : Int32)) &&& (127 : Int32)), vi (-1)] [(.int p2), (.int 6), (.ref w_T)])) rfl rfl (hb hby d3_79)
    refine G st59 ?_
    have N59 := Fr.snoc X59 NJ g_w_T
    replace E_a1 := E_a1.wr W59
    replace F_a1_size := F_a1_size.other W59 (Or.inl (Ne.symm ne_w_T_a1))
    replace F_a1_terms := F_a1_terms.other W59 (Or.inl (Ne.symm ne_w_T_a1))
    replace F_a1_slots := F_a1_slots.other W59 (Or.inl (Ne.symm ne_w_T_a1))
    replace V_S := V_S.other W59 (Ne.symm ne_w_T_w_S)
    replace Z0 := Nat.le_trans Z0 (Nat.le_of_eq W59.size.symm)
    replace K0 := K0.wr W59 (Or.inl (by simp))
    replace V_T : Arv Z h59 w_T k_T .int (192 : Int32) [(.int t0), (.int t1), (.int t2), (.int t3), (.int t4), (.int t5), (.int p2)] (.int (0 : Int32)) := Arv.set Ar58 qq58 Sz58 Ng58 Hs58 Gs58 rfl W59 6 rfl (Nat.le_of_ble_eq_true rfl)
    clear hin58 Gs58 Hs58 Ng58 Sz58 qq58 Ar58 cl58
    show Go _ _ _ (T59.setTop (mkF m 80 #[vr a1, vi p2, vi p3, vi p4, vi 127, vi ((((f4 p2 p3 p4) &&& (127 : Int32)) + (1 : Int32)) &&& (127 : Int32)), vi (-1)] [])) _
    refine G (fun t k => XS.aloadN X59.here hx rfl (hb hby d3_80) rfl rfl k) ?_
    obtain ⟨T60, X60, e60, st60⟩ := getF X59 hx hZ hown (host := "") (Or.inl (wd10 hw)) Via.refl e59 F_a1_terms (g := (mkF m 81 #[vr a1, vi p2, vi p3, vi p4, vi 127, vi ((((f4 p2 p3 p4) &&& (127 : Int32)) + (1 : Int32)) &&& (127 : Int32)), vi (-1)] [(.ref a1)])) rfl rfl (hb hby d3_81)
    refine G st60 ?_
    refine G (fun t k => XS.iconst X60.here hx rfl (hb hby d3_84) (XS.aloadN X60.here hx rfl (hb hby d3_85) rfl rfl k)) ?_
    obtain ⟨T61, X61, e61, st61⟩ := getF X60 hx hZ hown (host := "") (Or.inl (wd25 hw)) Via.refl e60 F_a1_size (g := (mkF m 86 #[vr a1, vi p2, vi p3, vi p4, vi 127, vi ((((f4 p2 p3 p4) &&& (127 : Int32)) + (1 : Int32)) &&& (127 : Int32)), vi (-1)] [(.ref a1), (.int 3), (.ref w_T)])) rfl rfl (hb hby d3_86)
    refine G st61 ?_
    refine G (fun t k => XS.imul X61.here hx rfl (hb hby d3_89) rfl (XS.iconst X61.here hx rfl (hb hby d3_90) k)) ?_
    show Go _ _ _ (T61.setTop (mkF m 91 #[vr a1, vi p2, vi p3, vi p4, vi 127, vi ((((f4 p2 p3 p4) &&& (127 : Int32)) + (1 : Int32)) &&& (127 : Int32)), vi (-1)] [(.int 1), (.int 6), (.ref w_T)])) _
    refine G (fun t k => XS.iadd X61.here hx rfl (hb hby d3_91) rfl (XS.iloadN X61.here hx rfl (hb hby d3_92) rfl k)) ?_
    replace V_T : Arv Z h59 w_T k_T .int (192 : Int32) [(.int t0), (.int t1), (.int t2), (.int t3), (.int t4), (.int t5), (.int p2), (.int (0 : Int32))] (.int (0 : Int32)) := V_T.pad (pad_rep [(.int t0), (.int t1), (.int t2), (.int t3), (.int t4), (.int t5), (.int p2)] (.int (0 : Int32)) 1)
    obtain ⟨cl62, Ar62, qq62, Sz62, Ng62, Hs62, Gs62⟩ := id V_T
    have hin62 : ¬ ((7 : Int32) < 0 ∨ cl62.slots.size ≤ ((7 : Int32)).toNatClampNeg) := inb_of Sz62 ⟨by decide, by decide⟩
    obtain ⟨T63, h63, X63, e63, W63, st63⟩ := stI X61 hx hZ e61 Ar62 (j := (7 : Int32)) hin62 (g := (mkF m 93 #[vr a1, vi p2, vi p3, vi p4, vi 127, vi ((((f4 p2 p3 p4) &&& (127 : Int32)) + (1 : Int32)) &&& (127 : Int32)), vi (-1)] [(.int p3), (.int 7), (.ref w_T)])) rfl rfl (hb hby d3_93)
    refine G st63 ?_
    have N63 := Fr.snoc X63 N59 g_w_T
    replace E_a1 := E_a1.wr W63
    replace F_a1_size := F_a1_size.other W63 (Or.inl (Ne.symm ne_w_T_a1))
    replace F_a1_terms := F_a1_terms.other W63 (Or.inl (Ne.symm ne_w_T_a1))
    replace F_a1_slots := F_a1_slots.other W63 (Or.inl (Ne.symm ne_w_T_a1))
    replace V_S := V_S.other W63 (Ne.symm ne_w_T_w_S)
    replace Z0 := Nat.le_trans Z0 (Nat.le_of_eq W63.size.symm)
    replace K0 := K0.wr W63 (Or.inl (by simp))
    replace V_T : Arv Z h63 w_T k_T .int (192 : Int32) [(.int t0), (.int t1), (.int t2), (.int t3), (.int t4), (.int t5), (.int p2), (.int p3)] (.int (0 : Int32)) := Arv.set Ar62 qq62 Sz62 Ng62 Hs62 Gs62 rfl W63 7 rfl (Nat.le_of_ble_eq_true rfl)
    clear hin62 Gs62 Hs62 Ng62 Sz62 qq62 Ar62 cl62
    refine G (fun t k => XS.aloadN X63.here hx rfl (hb hby d3_94) rfl rfl k) ?_
    obtain ⟨T64, X64, e64, st64⟩ := getF X63 hx hZ hown (host := "") (Or.inl (wd10 hw)) Via.refl e63 F_a1_terms (g := (mkF m 95 #[vr a1, vi p2, vi p3, vi p4, vi 127, vi ((((f4 p2 p3 p4) &&& (127 : Int32)) + (1 : Int32)) &&& (127 : Int32)), vi (-1)] [(.ref a1)])) rfl rfl (hb hby d3_95)
    refine G st64 ?_
    refine G (fun t k => XS.iconst X64.here hx rfl (hb hby d3_98) (XS.aloadN X64.here hx rfl (hb hby d3_99) rfl rfl k)) ?_
    show Go _ _ _ (T64.setTop (mkF m 100 #[vr a1, vi p2, vi p3, vi p4, vi 127, vi ((((f4 p2 p3 p4) &&& (127 : Int32)) + (1 : Int32)) &&& (127 : Int32)), vi (-1)] [(.ref a1), (.int 3), (.ref w_T)])) _
    obtain ⟨T65, X65, e65, st65⟩ := getF X64 hx hZ hown (host := "") (Or.inl (wd25 hw)) Via.refl e64 F_a1_size (g := (mkF m 100 #[vr a1, vi p2, vi p3, vi p4, vi 127, vi ((((f4 p2 p3 p4) &&& (127 : Int32)) + (1 : Int32)) &&& (127 : Int32)), vi (-1)] [(.ref a1), (.int 3), (.ref w_T)])) rfl rfl (hb hby d3_100)
    refine G st65 ?_
    refine G (fun t k => XS.imul X65.here hx rfl (hb hby d3_103) rfl (XS.iconst X65.here hx rfl (hb hby d3_104) (XS.iadd X65.here hx rfl (hb hby d3_105) rfl (XS.iloadN X65.here hx rfl (hb hby d3_106) rfl k)))) ?_
    replace V_T : Arv Z h63 w_T k_T .int (192 : Int32) [(.int t0), (.int t1), (.int t2), (.int t3), (.int t4), (.int t5), (.int p2), (.int p3), (.int (0 : Int32))] (.int (0 : Int32)) := V_T.pad (pad_rep [(.int t0), (.int t1), (.int t2), (.int t3), (.int t4), (.int t5), (.int p2), (.int p3)] (.int (0 : Int32)) 1)
    obtain ⟨cl66, Ar66, qq66, Sz66, Ng66, Hs66, Gs66⟩ := id V_T
    have hin66 : ¬ ((8 : Int32) < 0 ∨ cl66.slots.size ≤ ((8 : Int32)).toNatClampNeg) := inb_of Sz66 ⟨by decide, by decide⟩
    obtain ⟨T67, h67, X67, e67, W67, st67⟩ := stI X65 hx hZ e65 Ar66 (j := (8 : Int32)) hin66 (g := (mkF m 107 #[vr a1, vi p2, vi p3, vi p4, vi 127, vi ((((f4 p2 p3 p4) &&& (127 : Int32)) + (1 : Int32)) &&& (127 : Int32)), vi (-1)] [(.int p4), (.int 8), (.ref w_T)])) rfl rfl (hb hby d3_107)
    refine G st67 ?_
    have N67 := Fr.snoc X67 N63 g_w_T
    obtain ⟨LL67, X67, N67⟩ : ∃ LL, Stand p l e (Rm 1 0 0 16) s m #[(.ref a1), (.int p2), (.int p3), (.int p4)] below meth c T67 LL 0 0 ∧ Fr n0 LL := ⟨_, X67, N67⟩
    replace E_a1 := E_a1.wr W67
    replace F_a1_size := F_a1_size.other W67 (Or.inl (Ne.symm ne_w_T_a1))
    replace F_a1_terms := F_a1_terms.other W67 (Or.inl (Ne.symm ne_w_T_a1))
    replace F_a1_slots := F_a1_slots.other W67 (Or.inl (Ne.symm ne_w_T_a1))
    replace V_S := V_S.other W67 (Ne.symm ne_w_T_w_S)
    replace Z0 := Nat.le_trans Z0 (Nat.le_of_eq W67.size.symm)
    replace K0 := K0.wr W67 (Or.inl (by simp))
    replace V_T : Arv Z h67 w_T k_T .int (192 : Int32) [(.int t0), (.int t1), (.int t2), (.int t3), (.int t4), (.int t5), (.int p2), (.int p3), (.int p4)] (.int (0 : Int32)) := Arv.set Ar66 qq66 Sz66 Ng66 Hs66 Gs66 rfl W67 8 rfl (Nat.le_of_ble_eq_true rfl)
    clear hin66 Gs66 Hs66 Ng66 Sz66 qq66 Ar66 cl66
    refine G (fun t k => XS.aloadN X67.here hx rfl (hb hby d3_108) rfl rfl k) ?_
    show Go _ _ _ (T67.setTop (mkF m 109 #[vr a1, vi p2, vi p3, vi p4, vi 127, vi ((((f4 p2 p3 p4) &&& (127 : Int32)) + (1 : Int32)) &&& (127 : Int32)), vi (-1)] [(.ref a1)])) _
    obtain ⟨T68, X68, e68, st68⟩ := getF X67 hx hZ hown (host := "") (Or.inl (wd12 hw)) Via.refl e67 F_a1_slots (g := (mkF m 109 #[vr a1, vi p2, vi p3, vi p4, vi 127, vi ((((f4 p2 p3 p4) &&& (127 : Int32)) + (1 : Int32)) &&& (127 : Int32)), vi (-1)] [(.ref a1)])) rfl rfl (hb hby d3_109)
    refine G st68 ?_
    refine G (fun t k => XS.iload X68.here hx rfl (hb hby d3_112) rfl (XS.aloadN X68.here hx rfl (hb hby d3_114) rfl rfl (XS.dup X68.here hx rfl (hb hby d3_115) rfl rfl k))) ?_
    obtain ⟨T69, X69, e69, st69⟩ := getF X68 hx hZ hown (host := "") (Or.inl (wd25 hw)) Via.refl e68 F_a1_size (g := (mkF m 116 #[vr a1, vi p2, vi p3, vi p4, vi 127, vi ((((f4 p2 p3 p4) &&& (127 : Int32)) + (1 : Int32)) &&& (127 : Int32)), vi (-1)] [(.ref a1), (.ref a1), (.int ((((f4 p2 p3 p4) &&& (127 : Int32)) + (1 : Int32)) &&& (127 : Int32))), (.ref w_S)])) rfl rfl (hb hby d3_116)
    refine G st69 ?_
    refine G (fun t k => XS.iconst X69.here hx rfl (hb hby d3_119) (XS.iadd X69.here hx rfl (hb hby d3_120) rfl k)) ?_
    show Go _ _ _ (T69.setTop (mkF m 121 #[vr a1, vi p2, vi p3, vi p4, vi 127, vi ((((f4 p2 p3 p4) &&& (127 : Int32)) + (1 : Int32)) &&& (127 : Int32)), vi (-1)] [(.int 3), (.ref a1), (.int ((((f4 p2 p3 p4) &&& (127 : Int32)) + (1 : Int32)) &&& (127 : Int32))), (.ref w_S)])) _
    refine G (fun t k => XS.dupX1 X69.here hx rfl (hb hby d3_121) rfl rfl rfl k) ?_
    obtain ⟨T70, h70, X70, e70, W70, st70⟩ := putF X69 hx hZ hown (host := "") (Or.inl (wd25 hw)) Via.refl e69 F_a1_size E_a1 (Or.inl (wd26 hw)) (wd2 hw) (ty := .int) (by decide) rfl rfl (g := (mkF m 122 #[vr a1, vi p2, vi p3, vi p4, vi 127, vi ((((f4 p2 p3 p4) &&& (127 : Int32)) + (1 : Int32)) &&& (127 : Int32)), vi (-1)] [(.int 3), (.ref a1), (.int 3), (.int ((((f4 p2 p3 p4) &&& (127 : Int32)) + (1 : Int32)) &&& (127 : Int32))), (.ref w_S)])) rfl rfl (hb hby d3_122)
    refine G st70 ?_
    have N70 := Fr.snoc X70 N67 g_a1
    replace E_a1 := E_a1.wr W70
    replace F_a1_size := F_a1_size.same W70
    replace F_a1_terms := F_a1_terms.other W70 (sn4 hw)
    replace F_a1_slots := F_a1_slots.other W70 (sn5 hw)
    replace V_T := V_T.other W70 ne_w_T_a1
    replace V_S := V_S.other W70 ne_w_S_a1
    replace Z0 := Nat.le_trans Z0 (Nat.le_of_eq W70.size.symm)
    replace K0 := K0.wr W70 (Or.inl (by simp))
    obtain ⟨cl71, Ar71, qq71, Sz71, Ng71, Hs71, Gs71⟩ := id V_S
    have hin71 : ¬ (((((f4 p2 p3 p4) &&& (127 : Int32)) + (1 : Int32)) &&& (127 : Int32)) < 0 ∨ cl71.slots.size ≤ (((((f4 p2 p3 p4) &&& (127 : Int32)) + (1 : Int32)) &&& (127 : Int32))).toNatClampNeg) := inb_of Sz71 (own_127 (((f4 p2 p3 p4) &&& (127 : Int32)) + (1 : Int32)))
    obtain ⟨T72, h72, X72, e72, W72, st72⟩ := stI X70 hx hZ e70 Ar71 (j := ((((f4 p2 p3 p4) &&& (127 : Int32)) + (1 : Int32)) &&& (127 : Int32))) hin71 (g := (mkF m 125 #[vr a1, vi p2, vi p3, vi p4, vi 127, vi ((((f4 p2 p3 p4) &&& (127 : Int32)) + (1 : Int32)) &&& (127 : Int32)), vi (-1)] [(.int 3), (.int ((((f4 p2 p3 p4) &&& (127 : Int32)) + (1 : Int32)) &&& (127 : Int32))), (.ref w_S)])) rfl rfl (hb hby d3_125)
    refine G st72 ?_
    have N72 := Fr.snoc X72 N70 g_w_S
    replace E_a1 := E_a1.wr W72
    replace F_a1_size := F_a1_size.other W72 (Or.inl (Ne.symm ne_w_S_a1))
    replace F_a1_terms := F_a1_terms.other W72 (Or.inl (Ne.symm ne_w_S_a1))
    replace F_a1_slots := F_a1_slots.other W72 (Or.inl (Ne.symm ne_w_S_a1))
    replace V_T := V_T.other W72 ne_w_T_w_S
    replace Z0 := Nat.le_trans Z0 (Nat.le_of_eq W72.size.symm)
    replace K0 := K0.wr W72 (Or.inl (by simp))
    replace V_S : Arh Z h72 w_S k_S .int (128 : Int32) [(((((f4 p2 p3 p4) &&& (127 : Int32)) + (1 : Int32)) &&& (127 : Int32)), (.int (3 : Int32))), (i2, (.int (2 : Int32))), (i1, (.int (1 : Int32)))] [] (.int (0 : Int32)) := Arh.push Ar71 qq71 Sz71 Ng71 Hs71 Gs71 rfl W72 hin71
    show Go _ _ _ (T72.setTop (mkF m 126 #[vr a1, vi p2, vi p3, vi p4, vi 127, vi ((((f4 p2 p3 p4) &&& (127 : Int32)) + (1 : Int32)) &&& (127 : Int32)), vi (-1)] [])) _
    refine G (fun t k => XS.iconst X72.here hx rfl (hb hby d3_126) (XS.aloadN X72.here hx rfl (hb hby d3_127) rfl rfl k)) ?_
    obtain ⟨T73, X73, e73, st73⟩ := getF X72 hx hZ hown (host := "") (Or.inl (wd25 hw)) Via.refl e72 F_a1_size (g := (mkF m 128 #[vr a1, vi p2, vi p3, vi p4, vi 127, vi ((((f4 p2 p3 p4) &&& (127 : Int32)) + (1 : Int32)) &&& (127 : Int32)), vi (-1)] [(.ref a1), (.int 2)])) rfl rfl (hb hby d3_128)
    refine G st73 ?_
    refine G (fun t k => XS.imul X73.here hx rfl (hb hby d3_131) rfl (XS.aloadN X73.here hx rfl (hb hby d3_132) rfl rfl k)) ?_
    obtain ⟨T74, X74, e74, st74⟩ := getF X73 hx hZ hown (host := "") (Or.inl (wd12 hw)) Via.refl e73 F_a1_slots (g := (mkF m 133 #[vr a1, vi p2, vi p3, vi p4, vi 127, vi ((((f4 p2 p3 p4) &&& (127 : Int32)) + (1 : Int32)) &&& (127 : Int32)), vi (-1)] [(.ref a1), (.int 6)])) rfl rfl (hb hby d3_133)
    refine G st74 ?_
    obtain ⟨cl75, Ar75, -, Sz75, Ng75, -, -⟩ := id V_S
    refine G (fun t k => X74.arraylength hx (by rw [e74]; exact Ar75.1) (State.isArrayOf_alike hZ.alike Ar75.2.1) (g := (mkF m 136 #[vr a1, vi p2, vi p3, vi p4, vi 127, vi ((((f4 p2 p3 p4) &&& (127 : Int32)) + (1 : Int32)) &&& (127 : Int32)), vi (-1)] [(.ref w_S), (.int 6)])) rfl rfl (hb hby d3_136) _ k) ?_
    rw [len_of Sz75 Ng75]
    clear Ng75 Sz75 Ar75 cl75
    show Go _ _ _ (T74.setTop (mkF m 137 #[vr a1, vi p2, vi p3, vi p4, vi 127, vi ((((f4 p2 p3 p4) &&& (127 : Int32)) + (1 : Int32)) &&& (127 : Int32)), vi (-1)] [(.int 128), (.int 6)])) _
    refine G (fun t k => XS.icmpYes X74.here hx rfl (pc0 := 137) (pc' := 151) rfl (hb hby d3_137) rfl (flt (by decide : ¬ ((128 : Int32) < (6 : Int32)))).2.2.2 (by decide) (by decide) (XS.iconst X74.here hx rfl (hb hby d3_151) k)) ?_
    obtain ⟨fs, hr, hrun, hended, hW, hsame⟩ := X74.leave (v := some (.int (1 : Int32))) (fun h => by rw [Bd.returns] at h; cases h)
    refine Go.fin (retN X74 hx (t := .boolean) Bd.returns (by simp) (hb hby d3_152) hr) hrun hended ⟨_, _, rfl, ?_, ⟨_, rfl⟩, hW, hsame.mono (by decide) (by decide)⟩
    show Q3n2 Z a1 p2 p3 p4 w_T w_S k_T k_S t0 t1 t2 t3 t4 t5 i1 i2 h0 n0 _ T74.heap _
    rw [e74]
    exact ⟨rfl, N72, K0, E_a1, F_a1_size, F_a1_terms, F_a1_slots, V_T, (by unfold f3n2_w_S_i0; simp only [if_pos hc6, if_neg hc12]; exact V_S)⟩
  refine G (fun t k => XS.aloadN X4.here hx rfl (hb hby d3_153) rfl rfl k) ?_
  obtain ⟨T76, X76, e76, st76⟩ := getF X4 hx hZ hown (host := "") (Or.inl (wd10 hw)) Via.refl e4 F_a1_terms (g := (mkF m 154 #[vr a1, vi p2, vi p3, vi p4, vi 127, vi ((f4 p2 p3 p4) &&& (127 : Int32)), vi 1] [(.ref a1)])) rfl rfl (hb hby d3_154)
  refine G st76 ?_
  refine G (fun t k => XS.iconst X76.here hx rfl (hb hby d3_157) (XS.iload X76.here hx rfl (hb hby d3_158) rfl (XS.imul X76.here hx rfl (hb hby d3_160) rfl k))) ?_
  obtain ⟨cl77, Ar77, -, Sz77, Ng77, Hs77, -⟩ := id V_T
  have hin77 : ¬ ((3 : Int32) < 0 ∨ cl77.slots.size ≤ ((3 : Int32)).toNatClampNeg) := inb_of Sz77 ⟨by decide, by decide⟩
  refine G (fun t k => X76.iaload hx (j := (3 : Int32)) (v := (.int t3)) (by rw [e76]; exact Ar77.1) (State.isArrayOf_alike hZ.alike Ar77.2.1) Ar77.2.2 hin77 (Has.at Hs77 hin77 rfl) (g := (mkF m 161 #[vr a1, vi p2, vi p3, vi p4, vi 127, vi ((f4 p2 p3 p4) &&& (127 : Int32)), vi 1] [(.int 3), (.ref w_T)])) rfl rfl (hb hby d3_161) _ k) ?_
  clear hin77 Hs77 Ng77 Sz77 Ar77 cl77
  refine G (fun t k => XS.iloadN X76.here hx rfl (hb hby d3_162) rfl k) ?_
  show Go _ _ _ (T76.setTop (mkF m 163 #[vr a1, vi p2, vi p3, vi p4, vi 127, vi ((f4 p2 p3 p4) &&& (127 : Int32)), vi 1] [(.int p2), (.int t3)])) _
  by_cases hc78 : t3 = p2
  ·refine G (fun t k => XS.icmpNo X76.here hx rfl (hb hby d3_163) rfl (teq hc78).2 (XS.aloadN X76.here hx rfl (hb hby d3_166) rfl rfl k)) ?_
   obtain ⟨T79, X79, e79, st79⟩ := getF X76 hx hZ hown (host := "") (Or.inl (wd10 hw)) Via.refl e76 F_a1_terms (g := (mkF m 167 #[vr a1, vi p2, vi p3, vi p4, vi 127, vi ((f4 p2 p3 p4) &&& (127 : Int32)), vi 1] [(.ref a1)])) rfl rfl (hb hby d3_167)
   refine G st79 ?_
   refine G (fun t k => XS.iconst X79.here hx rfl (hb hby d3_170) (XS.iload X79.here hx rfl (hb hby d3_171) rfl (XS.imul X79.here hx rfl (hb hby d3_173) rfl (XS.iconst X79.here hx rfl (hb hby d3_174) k)))) ?_
   show Go _ _ _ (T79.setTop (mkF m 175 #[vr a1, vi p2, vi p3, vi p4, vi 127, vi ((f4 p2 p3 p4) &&& (127 : Int32)), vi 1] [(.int 1), (.int 3), (.ref w_T)])) _
   refine G (fun t k => XS.iadd X79.here hx rfl (hb hby d3_175) rfl k) ?_
   obtain ⟨cl80, Ar80, -, Sz80, Ng80, Hs80, -⟩ := id V_T
   have hin80 : ¬ ((4 : Int32) < 0 ∨ cl80.slots.size ≤ ((4 : Int32)).toNatClampNeg) := inb_of Sz80 ⟨by decide, by decide⟩
   refine G (fun t k => X79.iaload hx (j := (4 : Int32)) (v := (.int t4)) (by rw [e79]; exact Ar80.1) (State.isArrayOf_alike hZ.alike Ar80.2.1) Ar80.2.2 hin80 (Has.at Hs80 hin80 rfl) (g := (mkF m 176 #[vr a1, vi p2, vi p3, vi p4, vi 127, vi ((f4 p2 p3 p4) &&& (127 : Int32)), vi 1] [(.int 4), (.ref w_T)])) rfl rfl (hb hby d3_176) _ k) ?_
   clear hin80 Hs80 Ng80 Sz80 Ar80 cl80
   refine G (fun t k => XS.iloadN X79.here hx rfl (hb hby d3_177) rfl k) ?_
   by_cases hc81 : t4 = p3
   ·refine G (fun t k => XS.icmpNo X79.here hx rfl (hb hby d3_178) rfl (teq hc81).2 (XS.aloadN X79.here hx rfl (hb hby d3_181) rfl rfl k)) ?_
    obtain ⟨T82, X82, e82, st82⟩ := getF X79 hx hZ hown (host := "") (Or.inl (wd10 hw)) Via.refl e79 F_a1_terms (g := (mkF m 182 #[vr a1, vi p2, vi p3, vi p4, vi 127, vi ((f4 p2 p3 p4) &&& (127 : Int32)), vi 1] [(.ref a1)])) rfl rfl (hb hby d3_182)
    refine G st82 ?_
    refine G (fun t k => XS.iconst X82.here hx rfl (hb hby d3_185) k) ?_
    show Go _ _ _ (T82.setTop (mkF m 186 #[vr a1, vi p2, vi p3, vi p4, vi 127, vi ((f4 p2 p3 p4) &&& (127 : Int32)), vi 1] [(.int 3), (.ref w_T)])) _
    refine G (fun t k => XS.iload X82.here hx rfl (hb hby d3_186) rfl (XS.imul X82.here hx rfl (hb hby d3_188) rfl (XS.iconst X82.here hx rfl (hb hby d3_189) (XS.iadd X82.here hx rfl (hb hby d3_190) rfl k)))) ?_
    obtain ⟨cl83, Ar83, -, Sz83, Ng83, Hs83, -⟩ := id V_T
    have hin83 : ¬ ((5 : Int32) < 0 ∨ cl83.slots.size ≤ ((5 : Int32)).toNatClampNeg) := inb_of Sz83 ⟨by decide, by decide⟩
    refine G (fun t k => X82.iaload hx (j := (5 : Int32)) (v := (.int t5)) (by rw [e82]; exact Ar83.1) (State.isArrayOf_alike hZ.alike Ar83.2.1) Ar83.2.2 hin83 (Has.at Hs83 hin83 rfl) (g := (mkF m 191 #[vr a1, vi p2, vi p3, vi p4, vi 127, vi ((f4 p2 p3 p4) &&& (127 : Int32)), vi 1] [(.int 5), (.ref w_T)])) rfl rfl (hb hby d3_191) _ k) ?_
    clear hin83 Hs83 Ng83 Sz83 Ar83 cl83
    refine G (fun t k => XS.iloadN X82.here hx rfl (hb hby d3_192) rfl k) ?_
    have hf84 : ¬ (t5 = p4) := fun z => hne2 ⟨hc78, hc81, z⟩
    refine G (fun t k => XS.icmpYes X82.here hx rfl (pc0 := 193) (pc' := 198) rfl (hb hby d3_193) rfl (feq hf84).2 (by decide) (by decide) k) ?_
    show Go _ _ _ (T82.setTop (mkF m 198 #[vr a1, vi p2, vi p3, vi p4, vi 127, vi ((f4 p2 p3 p4) &&& (127 : Int32)), vi 1] [])) _
    exact J8 _ _ X82 e82 N3
   ·refine G (fun t k => XS.icmpYes X79.here hx rfl (pc0 := 178) (pc' := 198) rfl (hb hby d3_178) rfl (feq hc81).2 (by decide) (by decide) k) ?_
    show Go _ _ _ (T79.setTop (mkF m 198 #[vr a1, vi p2, vi p3, vi p4, vi 127, vi ((f4 p2 p3 p4) &&& (127 : Int32)), vi 1] [])) _
    exact J8 _ _ X79 e79 N3
  ·refine G (fun t k => XS.icmpYes X76.here hx rfl (pc0 := 163) (pc' := 198) rfl (hb hby d3_163) rfl (feq hc78).2 (by decide) (by decide) k) ?_
   show Go _ _ _ (T76.setTop (mkF m 198 #[vr a1, vi p2, vi p3, vi p4, vi 127, vi ((f4 p2 p3 p4) &&& (127 : Int32)), vi 1] [])) _
   exact J8 _ _ X76 e76 N3
 ·by_cases hc85 : ((f4 p2 p3 p4) &&& (127 : Int32)) = i1
  ·obtain ⟨cl86, Ar86, -, Sz86, Ng86, Hs86, -⟩ := id V_S
   have hin86 : ¬ (((f4 p2 p3 p4) &&& (127 : Int32)) < 0 ∨ cl86.slots.size ≤ (((f4 p2 p3 p4) &&& (127 : Int32))).toNatClampNeg) := inb_of Sz86 (own_127 (f4 p2 p3 p4))
   refine G (fun t k => X4.iaload hx (j := ((f4 p2 p3 p4) &&& (127 : Int32))) (v := (.int (1 : Int32))) (by rw [e4]; exact Ar86.1) (State.isArrayOf_alike hZ.alike Ar86.2.1) Ar86.2.2 hin86 (atH Hs86 hin86 (getH_miss ((own_127 (f4 p2 p3 p4))).1 hc6 (getH_hit ((own_127 (f4 p2 p3 p4))).1 hc85))) (g := (mkF m 26 #[vr a1, vi p2, vi p3, vi p4, vi 127, vi ((f4 p2 p3 p4) &&& (127 : Int32)), us] [(.int ((f4 p2 p3 p4) &&& (127 : Int32))), (.ref w_S)])) rfl rfl (hb hby d3_26) _ k) ?_
   show Go _ _ _ (T4.setTop (mkF m 27 #[vr a1, vi p2, vi p3, vi p4, vi 127, vi ((f4 p2 p3 p4) &&& (127 : Int32)), us] [(.int 1)])) _
   refine G (fun t k => XS.iconst X4.here hx rfl (hb hby d3_27) (XS.isub X4.here hx rfl (hb hby d3_28) rfl (XS.istore X4.here hx rfl (hb hby d3_29) rfl (l' := #[vr a1, vi p2, vi p3, vi p4, vi 127, vi ((f4 p2 p3 p4) &&& (127 : Int32)), vi 0]) rfl (XS.iload X4.here hx rfl (hb hby d3_31) rfl (XS.ifYes X4.here hx rfl (pc0 := 33) (pc' := 153) rfl (hb hby d3_33) rfl ((if0 _ _).trans (flt (by decide : ¬ ((0 : Int32) < (0 : Int32)))).2.1) (by decide) (by decide) k))))) ?_
   show Go _ _ _ (T4.setTop (mkF m 153 #[vr a1, vi p2, vi p3, vi p4, vi 127, vi ((f4 p2 p3 p4) &&& (127 : Int32)), vi 0] [])) _
   have J87 : ∀ (TJ : State) (locsJ : List Loc), Stand p l e (Rm 1 0 0 16) s m #[(.ref a1), (.int p2), (.int p3), (.int p4)] below meth c TJ locsJ 0 0 → TJ.heap = h0 → Fr n0 locsJ → Go p.tables e below (TJ.setTop (mkF m 198 #[vr a1, vi p2, vi p3, vi p4, vi 127, vi ((f4 p2 p3 p4) &&& (127 : Int32)), vi 0] [])) (fun o U' => ∃ v L, o = .returned v ∧ Q3n2 Z a1 p2 p3 p4 w_T w_S k_T k_S t0 t1 t2 t3 t4 t5 i1 i2 h0 n0 v U'.heap L ∧ FrameEnd s o U' L (Rm 1 0 0 16).cells (Rm 1 0 0 16).slots) := by
    intro TJ locsJ XJ eJ NJ
    refine G (fun t k => XS.iload XJ.here hx rfl (hb hby d3_198) rfl (XS.iconst XJ.here hx rfl (hb hby d3_200) (XS.iadd XJ.here hx rfl (hb hby d3_201) rfl (XS.iload XJ.here hx rfl (hb hby d3_202) rfl (XS.iand XJ.here hx rfl (hb hby d3_204) rfl (XS.istore XJ.here hx rfl (hb hby d3_205) rfl (l' := #[vr a1, vi p2, vi p3, vi p4, vi 127, vi ((((f4 p2 p3 p4) &&& (127 : Int32)) + (1 : Int32)) &&& (127 : Int32)), vi 0]) rfl k)))))) ?_
    refine G (fun t k => XS.goto XJ.here hx rfl (pc0 := 207) (pc' := 20) rfl (hb hby d3_207) (by decide) (by decide) k) ?_
    show Go _ _ _ (TJ.setTop (mkF m 20 #[vr a1, vi p2, vi p3, vi p4, vi 127, vi ((((f4 p2 p3 p4) &&& (127 : Int32)) + (1 : Int32)) &&& (127 : Int32)), vi 0] [])) _
    refine G (fun t k => XS.aloadN XJ.here hx rfl (hb hby d3_20) rfl rfl k) ?_
    obtain ⟨T88, X88, e88, st88⟩ := getF XJ hx hZ hown (host := "") (Or.inl (wd12 hw)) Via.refl eJ F_a1_slots (g := (mkF m 21 #[vr a1, vi p2, vi p3, vi p4, vi 127, vi ((((f4 p2 p3 p4) &&& (127 : Int32)) + (1 : Int32)) &&& (127 : Int32)), vi 0] [(.ref a1)])) rfl rfl (hb hby d3_21)
    refine G st88 ?_
    refine G (fun t k => XS.iload X88.here hx rfl (hb hby d3_24) rfl k) ?_
    by_cases hc90 : ((((f4 p2 p3 p4) &&& (127 : Int32)) + (1 : Int32)) &&& (127 : Int32)) = i2
    ·obtain ⟨cl91, Ar91, -, Sz91, Ng91, Hs91, -⟩ := id V_S
     have hin91 : ¬ (((((f4 p2 p3 p4) &&& (127 : Int32)) + (1 : Int32)) &&& (127 : Int32)) < 0 ∨ cl91.slots.size ≤ (((((f4 p2 p3 p4) &&& (127 : Int32)) + (1 : Int32)) &&& (127 : Int32))).toNatClampNeg) := inb_of Sz91 (own_127 (((f4 p2 p3 p4) &&& (127 : Int32)) + (1 : Int32)))
     refine G (fun t k => X88.iaload hx (j := ((((f4 p2 p3 p4) &&& (127 : Int32)) + (1 : Int32)) &&& (127 : Int32))) (v := (.int (2 : Int32))) (by rw [e88]; exact Ar91.1) (State.isArrayOf_alike hZ.alike Ar91.2.1) Ar91.2.2 hin91 (atH Hs91 hin91 (getH_hit ((own_127 (((f4 p2 p3 p4) &&& (127 : Int32)) + (1 : Int32)))).1 hc90)) (g := (mkF m 26 #[vr a1, vi p2, vi p3, vi p4, vi 127, vi ((((f4 p2 p3 p4) &&& (127 : Int32)) + (1 : Int32)) &&& (127 : Int32)), vi 0] [(.int ((((f4 p2 p3 p4) &&& (127 : Int32)) + (1 : Int32)) &&& (127 : Int32))), (.ref w_S)])) rfl rfl (hb hby d3_26) _ k) ?_
     show Go _ _ _ (T88.setTop (mkF m 27 #[vr a1, vi p2, vi p3, vi p4, vi 127, vi ((((f4 p2 p3 p4) &&& (127 : Int32)) + (1 : Int32)) &&& (127 : Int32)), vi 0] [(.int 2)])) _
     refine G (fun t k => XS.iconst X88.here hx rfl (hb hby d3_27) (XS.isub X88.here hx rfl (hb hby d3_28) rfl (XS.istore X88.here hx rfl (hb hby d3_29) rfl (l' := #[vr a1, vi p2, vi p3, vi p4, vi 127, vi ((((f4 p2 p3 p4) &&& (127 : Int32)) + (1 : Int32)) &&& (127 : Int32)), vi 1]) rfl (XS.iload X88.here hx rfl (hb hby d3_31) rfl (XS.ifYes X88.here hx rfl (pc0 := 33) (pc' := 153) rfl (hb hby d3_33) rfl ((if0 _ _).trans (flt (by decide : ¬ ((1 : Int32) < (0 : Int32)))).2.1) (by decide) (by decide) k))))) ?_
     show Go _ _ _ (T88.setTop (mkF m 153 #[vr a1, vi p2, vi p3, vi p4, vi 127, vi ((((f4 p2 p3 p4) &&& (127 : Int32)) + (1 : Int32)) &&& (127 : Int32)), vi 1] [])) _
     have J92 : ∀ (TJ : State) (locsJ : List Loc), Stand p l e (Rm 1 0 0 16) s m #[(.ref a1), (.int p2), (.int p3), (.int p4)] below meth c TJ locsJ 0 0 → TJ.heap = h0 → Fr n0 locsJ → Go p.tables e below (TJ.setTop (mkF m 198 #[vr a1, vi p2, vi p3, vi p4, vi 127, vi ((((f4 p2 p3 p4) &&& (127 : Int32)) + (1 : Int32)) &&& (127 : Int32)), vi 1] [])) (fun o U' => ∃ v L, o = .returned v ∧ Q3n2 Z a1 p2 p3 p4 w_T w_S k_T k_S t0 t1 t2 t3 t4 t5 i1 i2 h0 n0 v U'.heap L ∧ FrameEnd s o U' L (Rm 1 0 0 16).cells (Rm 1 0 0 16).slots) := by
      intro TJ locsJ XJ eJ NJ
      refine G (fun t k => XS.iload XJ.here hx rfl (hb hby d3_198) rfl (XS.iconst XJ.here hx rfl (hb hby d3_200) (XS.iadd XJ.here hx rfl (hb hby d3_201) rfl (XS.iload XJ.here hx rfl (hb hby d3_202) rfl (XS.iand XJ.here hx rfl (hb hby d3_204) rfl (XS.istore XJ.here hx rfl (hb hby d3_205) rfl (l' := #[vr a1, vi p2, vi p3, vi p4, vi 127, vi ((((((f4 p2 p3 p4) &&& (127 : Int32)) + (1 : Int32)) &&& (127 : Int32)) + (1 : Int32)) &&& (127 : Int32)), vi 1]) rfl k)))))) ?_
      refine G (fun t k => XS.goto XJ.here hx rfl (pc0 := 207) (pc' := 20) rfl (hb hby d3_207) (by decide) (by decide) k) ?_
      show Go _ _ _ (TJ.setTop (mkF m 20 #[vr a1, vi p2, vi p3, vi p4, vi 127, vi ((((((f4 p2 p3 p4) &&& (127 : Int32)) + (1 : Int32)) &&& (127 : Int32)) + (1 : Int32)) &&& (127 : Int32)), vi 1] [])) _
      refine G (fun t k => XS.aloadN XJ.here hx rfl (hb hby d3_20) rfl rfl k) ?_
      obtain ⟨T93, X93, e93, st93⟩ := getF XJ hx hZ hown (host := "") (Or.inl (wd12 hw)) Via.refl eJ F_a1_slots (g := (mkF m 21 #[vr a1, vi p2, vi p3, vi p4, vi 127, vi ((((((f4 p2 p3 p4) &&& (127 : Int32)) + (1 : Int32)) &&& (127 : Int32)) + (1 : Int32)) &&& (127 : Int32)), vi 1] [(.ref a1)])) rfl rfl (hb hby d3_21)
      refine G st93 ?_
      refine G (fun t k => XS.iload X93.here hx rfl (hb hby d3_24) rfl k) ?_
      have hf95 : ¬ (((((((f4 p2 p3 p4) &&& (127 : Int32)) + (1 : Int32)) &&& (127 : Int32)) + (1 : Int32)) &&& (127 : Int32)) = i2) := fun z => own_n1 _ (z.trans hc90.symm)
      have hf96 : ¬ (((((((f4 p2 p3 p4) &&& (127 : Int32)) + (1 : Int32)) &&& (127 : Int32)) + (1 : Int32)) &&& (127 : Int32)) = i1) := fun z => own_n2 _ (z.trans hc85.symm)
      obtain ⟨cl97, Ar97, -, Sz97, Ng97, Hs97, -⟩ := id V_S
      have hin97 : ¬ (((((((f4 p2 p3 p4) &&& (127 : Int32)) + (1 : Int32)) &&& (127 : Int32)) + (1 : Int32)) &&& (127 : Int32)) < 0 ∨ cl97.slots.size ≤ (((((((f4 p2 p3 p4) &&& (127 : Int32)) + (1 : Int32)) &&& (127 : Int32)) + (1 : Int32)) &&& (127 : Int32))).toNatClampNeg) := inb_of Sz97 (own_127 (((((f4 p2 p3 p4) &&& (127 : Int32)) + (1 : Int32)) &&& (127 : Int32)) + (1 : Int32)))
      refine G (fun t k => X93.iaload hx (j := ((((((f4 p2 p3 p4) &&& (127 : Int32)) + (1 : Int32)) &&& (127 : Int32)) + (1 : Int32)) &&& (127 : Int32))) (v := (.int (0 : Int32))) (by rw [e93]; exact Ar97.1) (State.isArrayOf_alike hZ.alike Ar97.2.1) Ar97.2.2 hin97 (atH Hs97 hin97 (getH_miss ((own_127 (((((f4 p2 p3 p4) &&& (127 : Int32)) + (1 : Int32)) &&& (127 : Int32)) + (1 : Int32)))).1 hf95 (getH_miss ((own_127 (((((f4 p2 p3 p4) &&& (127 : Int32)) + (1 : Int32)) &&& (127 : Int32)) + (1 : Int32)))).1 hf96 rfl))) (g := (mkF m 26 #[vr a1, vi p2, vi p3, vi p4, vi 127, vi ((((((f4 p2 p3 p4) &&& (127 : Int32)) + (1 : Int32)) &&& (127 : Int32)) + (1 : Int32)) &&& (127 : Int32)), vi 1] [(.int ((((((f4 p2 p3 p4) &&& (127 : Int32)) + (1 : Int32)) &&& (127 : Int32)) + (1 : Int32)) &&& (127 : Int32))), (.ref w_S)])) rfl rfl (hb hby d3_26) _ k) ?_
      show Go _ _ _ (T93.setTop (mkF m 27 #[vr a1, vi p2, vi p3, vi p4, vi 127, vi ((((((f4 p2 p3 p4) &&& (127 : Int32)) + (1 : Int32)) &&& (127 : Int32)) + (1 : Int32)) &&& (127 : Int32)), vi 1] [(.int 0)])) _
      refine G (fun t k => XS.iconst X93.here hx rfl (hb hby d3_27) (XS.isub X93.here hx rfl (hb hby d3_28) rfl (XS.istore X93.here hx rfl (hb hby d3_29) rfl (l' := #[vr a1, vi p2, vi p3, vi p4, vi 127, vi ((((((f4 p2 p3 p4) &&& (127 : Int32)) + (1 : Int32)) &&& (127 : Int32)) + (1 : Int32)) &&& (127 : Int32)), vi (-1)]) rfl (XS.iload X93.here hx rfl (hb hby d3_31) rfl (XS.ifNo X93.here hx rfl (hb hby d3_33) rfl ((if0 _ _).trans (tlt (by decide : (-1 : Int32) < (0 : Int32))).2.1) (XS.aloadN X93.here hx rfl (hb hby d3_36) rfl rfl k)))))) ?_
      obtain ⟨T98, X98, e98, st98⟩ := getF X93 hx hZ hown (host := "") (Or.inl (wd25 hw)) Via.refl e93 F_a1_size (g := (mkF m 37 #[vr a1, vi p2, vi p3, vi p4, vi 127, vi ((((((f4 p2 p3 p4) &&& (127 : Int32)) + (1 : Int32)) &&& (127 : Int32)) + (1 : Int32)) &&& (127 : Int32)), vi (-1)] [(.ref a1)])) rfl rfl (hb hby d3_37)
      refine G st98 ?_
      show Go _ _ _ (T98.setTop (mkF m 40 #[vr a1, vi p2, vi p3, vi p4, vi 127, vi ((((((f4 p2 p3 p4) &&& (127 : Int32)) + (1 : Int32)) &&& (127 : Int32)) + (1 : Int32)) &&& (127 : Int32)), vi (-1)] [(.int 2)])) _
      refine G (fun t k => XS.aloadN X98.here hx rfl (hb hby d3_40) rfl rfl k) ?_
      obtain ⟨T99, X99, e99, st99⟩ := getF X98 hx hZ hown (host := "") (Or.inl (wd10 hw)) Via.refl e98 F_a1_terms (g := (mkF m 41 #[vr a1, vi p2, vi p3, vi p4, vi 127, vi ((((((f4 p2 p3 p4) &&& (127 : Int32)) + (1 : Int32)) &&& (127 : Int32)) + (1 : Int32)) &&& (127 : Int32)), vi (-1)] [(.ref a1), (.int 2)])) rfl rfl (hb hby d3_41)
      refine G st99 ?_
      obtain ⟨cl100, Ar100, -, Sz100, Ng100, -, -⟩ := id V_T
      refine G (fun t k => X99.arraylength hx (by rw [e99]; exact Ar100.1) (State.isArrayOf_alike hZ.alike Ar100.2.1) (g := (mkF m 44 #[vr a1, vi p2, vi p3, vi p4, vi 127, vi ((((((f4 p2 p3 p4) &&& (127 : Int32)) + (1 : Int32)) &&& (127 : Int32)) + (1 : Int32)) &&& (127 : Int32)), vi (-1)] [(.ref w_T), (.int 2)])) rfl rfl (hb hby d3_44) _ k) ?_
      rw [len_of Sz100 Ng100]
      clear Ng100 Sz100 Ar100 cl100
      refine G (fun t k => XS.iconst X99.here hx rfl (hb hby d3_45) (XS.idiv X99.here hx rfl (hb hby d3_46) rfl (by decide) (XS.icmpYes X99.here hx rfl (pc0 := 47) (pc' := 68) rfl (hb hby d3_47) rfl (feq (by decide : ¬ ((2 : Int32) = (64 : Int32)))).2 (by decide) (by decide) (XS.aloadN X99.here hx rfl (hb hby d3_68) rfl rfl k)))) ?_
      show Go _ _ _ (T99.setTop (mkF m 69 #[vr a1, vi p2, vi p3, vi p4, vi 127, vi ((((((f4 p2 p3 p4) &&& (127 : Int32)) + (1 : Int32)) &&& (127 : Int32)) + (1 : Int32)) &&& (127 : Int32)), vi (-1)] [(.ref a1)])) _
      obtain ⟨T101, X101, e101, st101⟩ := getF X99 hx hZ hown (host := "") (Or.inl (wd10 hw)) Via.refl e99 F_a1_terms (g := (mkF m 69 #[vr a1, vi p2, vi p3, vi p4, vi 127, vi ((((((f4 p2 p3 p4) &&& (127 : Int32)) + (1 : Int32)) &&& (127 : Int32)) + (1 : Int32)) &&& (127 : Int32)), vi (-1)] [(.ref a1)])) rfl rfl (hb hby d3_69)
      refine G st101 ?_
      refine G (fun t k => XS.iconst X101.here hx rfl (hb hby d3_72) (XS.aloadN X101.here hx rfl (hb hby d3_73) rfl rfl k)) ?_
      obtain ⟨T102, X102, e102, st102⟩ := getF X101 hx hZ hown (host := "") (Or.inl (wd25 hw)) Via.refl e101 F_a1_size (g := (mkF m 74 #[vr a1, vi p2, vi p3, vi p4, vi 127, vi ((((((f4 p2 p3 p4) &&& (127 : Int32)) + (1 : Int32)) &&& (127 : Int32)) + (1 : Int32)) &&& (127 : Int32)), vi (-1)] [(.ref a1), (.int 3), (.ref w_T)])) rfl rfl (hb hby d3_74)
      refine G st102 ?_
      refine G (fun t k => XS.imul X102.here hx rfl (hb hby d3_77) rfl (XS.iloadN X102.here hx rfl (hb hby d3_78) rfl k)) ?_
      replace V_T : Arv Z h0 w_T k_T .int (192 : Int32) [(.int t0), (.int t1), (.int t2), (.int t3), (.int t4), (.int t5), (.int (0 : Int32))] (.int (0 : Int32)) := V_T.pad (pad_rep [(.int t0), (.int t1), (.int t2), (.int t3), (.int t4), (.int t5)] (.int (0 : Int32)) 1)
      obtain ⟨cl103, Ar103, qq103, Sz103, Ng103, Hs103, Gs103⟩ := id V_T
      have hin103 : ¬ ((6 : Int32) < 0 ∨ cl103.slots.size ≤ ((6 : Int32)).toNatClampNeg) := inb_of Sz103 ⟨by decide, by decide⟩
      obtain ⟨T104, h104, X104, e104, W104, st104⟩ := stI X102 hx hZ e102 Ar103 (j := (6 : Int32)) hin103 (g := (mkF m 79 #[vr a1, vi p2, vi p3, vi p4, vi 127, vi ((((((f4 p2 p3 p4) &&& (127 : Int32)) + (1 : Int32)) &&& (127 : Int32)) + (1 : Int32)) &&& (127 : Int32)), vi (-1)] [(.int p2), (.int 6), (.ref w_T)])) rfl rfl (hb hby d3_79)
      refine G st104 ?_
      have N104 := Fr.snoc X104 NJ g_w_T
      replace E_a1 := E_a1.wr W104
      replace F_a1_size := F_a1_size.other W104 (Or.inl (Ne.symm ne_w_T_a1))
      replace F_a1_terms := F_a1_terms.other W104 (Or.inl (Ne.symm ne_w_T_a1))
      replace F_a1_slots := F_a1_slots.other W104 (Or.inl (Ne.symm ne_w_T_a1))
      replace V_S := V_S.other W104 (Ne.symm ne_w_T_w_S)
      replace Z0 := Nat.le_trans Z0 (Nat.le_of_eq W104.size.symm)
      replace K0 := K0.wr W104 (Or.inl (by simp))
      replace V_T : Arv Z h104 w_T k_T .int (192 : Int32) [(.int t0), (.int t1), (.int t2), (.int t3), (.int t4), (.int t5), (.int p2)] (.int (0 : Int32)) := Arv.set Ar103 qq103 Sz103 Ng103 Hs103 Gs103 rfl W104 6 rfl (Nat.le_of_ble_eq_true rfl)
      clear hin103 Gs103 Hs103 Ng103 Sz103 qq103 Ar103 cl103
      show Go _ _ _ (T104.setTop (mkF m 80 #[vr a1, vi p2, vi p3, vi p4, vi 127, vi ((((((f4 p2 p3 p4) &&& (127 : Int32)) + (1 : Int32)) &&& (127 : Int32)) + (1 : Int32)) &&& (127 : Int32)), vi (-1)] [])) _
      refine G (fun t k => XS.aloadN X104.here hx rfl (hb hby d3_80) rfl rfl k) ?_
      obtain ⟨T105, X105, e105, st105⟩ := getF X104 hx hZ hown (host := "") (Or.inl (wd10 hw)) Via.refl e104 F_a1_terms (g := (mkF m 81 #[vr a1, vi p2, vi p3, vi p4, vi 127, vi ((((((f4 p2 p3 p4) &&& (127 : Int32)) + (1 : Int32)) &&& (127 : Int32)) + (1 : Int32)) &&& (127 : Int32)), vi (-1)] [(.ref a1)])) rfl rfl (hb hby d3_81)
      refine G st105 ?_
      refine G (fun t k => XS.iconst X105.here hx rfl (hb hby d3_84) (XS.aloadN X105.here hx rfl (hb hby d3_85) rfl rfl k)) ?_
      obtain ⟨T106, X106, e106, st106⟩ := getF X105 hx hZ hown (host := "") (Or.inl (wd25 hw)) Via.refl e105 F_a1_size (g := (mkF m 86 #[vr a1, vi p2, vi p3, vi p4, vi 127, vi ((((((f4 p2 p3 p4) &&& (127 : Int32)) + (1 : Int32)) &&& (127 : Int32)) + (1 : Int32)) &&& (127 : Int32)), vi (-1)] [(.ref a1), (.int 3), (.ref w_T)])) rfl rfl (hb hby d3_86)
      refine G st106 ?_
      refine G (fun t k => XS.imul X106.here hx rfl (hb hby d3_89) rfl (XS.iconst X106.here hx rfl (hb hby d3_90) k)) ?_
      show Go _ _ _ (T106.setTop (mkF m 91 #[vr a1, vi p2, vi p3, vi p4, vi 127, vi ((((((f4 p2 p3 p4) &&& (127 : Int32)) + (1 : Int32)) &&& (127 : Int32)) + (1 : Int32)) &&& (127 : Int32)), vi (-1)] [(.int 1), (.int 6), (.ref w_T)])) _
      refine G (fun t k => XS.iadd X106.here hx rfl (hb hby d3_91) rfl (XS.iloadN X106.here hx rfl (hb hby d3_92) rfl k)) ?_
      replace V_T : Arv Z h104 w_T k_T .int (192 : Int32) [(.int t0), (.int t1), (.int t2), (.int t3), (.int t4), (.int t5), (.int p2), (.int (0 : Int32))] (.int (0 : Int32)) := V_T.pad (pad_rep [(.int t0), (.int t1), (.int t2), (.int t3), (.int t4), (.int t5), (.int p2)] (.int (0 : Int32)) 1)
      obtain ⟨cl107, Ar107, qq107, Sz107, Ng107, Hs107, Gs107⟩ := id V_T
      have hin107 : ¬ ((7 : Int32) < 0 ∨ cl107.slots.size ≤ ((7 : Int32)).toNatClampNeg) := inb_of Sz107 ⟨by decide, by decide⟩
      obtain ⟨T108, h108, X108, e108, W108, st108⟩ := stI X106 hx hZ e106 Ar107 (j := (7 : Int32)) hin107 (g := (mkF m 93 #[vr a1, vi p2, vi p3, vi p4, vi 127, vi ((((((f4 p2 p3 p4) &&& (127 : Int32)) + (1 : Int32)) &&& (127 : Int32)) + (1 : Int32)) &&& (127 : Int32)), vi (-1)] [(.int p3), (.int 7), (.ref w_T)])) rfl rfl (hb hby d3_93)
      refine G st108 ?_
      have N108 := Fr.snoc X108 N104 g_w_T
      replace E_a1 := E_a1.wr W108
      replace F_a1_size := F_a1_size.other W108 (Or.inl (Ne.symm ne_w_T_a1))
      replace F_a1_terms := F_a1_terms.other W108 (Or.inl (Ne.symm ne_w_T_a1))
      replace F_a1_slots := F_a1_slots.other W108 (Or.inl (Ne.symm ne_w_T_a1))
      replace V_S := V_S.other W108 (Ne.symm ne_w_T_w_S)
      replace Z0 := Nat.le_trans Z0 (Nat.le_of_eq W108.size.symm)
      replace K0 := K0.wr W108 (Or.inl (by simp))
      replace V_T : Arv Z h108 w_T k_T .int (192 : Int32) [(.int t0), (.int t1), (.int t2), (.int t3), (.int t4), (.int t5), (.int p2), (.int p3)] (.int (0 : Int32)) := Arv.set Ar107 qq107 Sz107 Ng107 Hs107 Gs107 rfl W108 7 rfl (Nat.le_of_ble_eq_true rfl)
      clear hin107 Gs107 Hs107 Ng107 Sz107 qq107 Ar107 cl107
      refine G (fun t k => XS.aloadN X108.here hx rfl (hb hby d3_94) rfl rfl k) ?_
      obtain ⟨T109, X109, e109, st109⟩ := getF X108 hx hZ hown (host := "") (Or.inl (wd10 hw)) Via.refl e108 F_a1_terms (g := (mkF m 95 #[vr a1, vi p2, vi p3, vi p4, vi 127, vi ((((((f4 p2 p3 p4) &&& (127 : Int32)) + (1 : Int32)) &&& (127 : Int32)) + (1 : Int32)) &&& (127 : Int32)), vi (-1)] [(.ref a1)])) rfl rfl (hb hby d3_95)
      refine G st109 ?_
      refine G (fun t k => XS.iconst X109.here hx rfl (hb hby d3_98) (XS.aloadN X109.here hx rfl (hb hby d3_99) rfl rfl k)) ?_
      show Go _ _ _ (T109.setTop (mkF m 100 #[vr a1, vi p2, vi p3, vi p4, vi 127, vi ((((((f4 p2 p3 p4) &&& (127 : Int32)) + (1 : Int32)) &&& (127 : Int32)) + (1 : Int32)) &&& (127 : Int32)), vi (-1)] [(.ref a1), (.int 3), (.ref w_T)])) _
      obtain ⟨T110, X110, e110, st110⟩ := getF X109 hx hZ hown (host := "") (Or.inl (wd25 hw)) Via.refl e109 F_a1_size (g := (mkF m 100 #[vr a1, vi p2, vi p3, vi p4, vi 127, vi ((((((f4 p2 p3 p4) &&& (127 : Int32)) + (1 : Int32)) &&& (127 : Int32)) + (1 : Int32)) &&& (127 : Int32)), vi (-1)] [(.ref a1), (.int 3), (.ref w_T)])) rfl rfl (hb hby d3_100)
      refine G st110 ?_
      refine G (fun t k => XS.imul X110.here hx rfl (hb hby d3_103) rfl (XS.iconst X110.here hx rfl (hb hby d3_104) (XS.iadd X110.here hx rfl (hb hby d3_105) rfl (XS.iloadN X110.here hx rfl (hb hby d3_106) rfl k)))) ?_
      replace V_T : Arv Z h108 w_T k_T .int (192 : Int32) [(.int t0), (.int t1), (.int t2), (.int t3), (.int t4), (.int t5), (.int p2), (.int p3), (.int (0 : Int32))] (.int (0 : Int32)) := V_T.pad (pad_rep [(.int t0), (.int t1), (.int t2), (.int t3), (.int t4), (.int t5), (.int p2), (.int p3)] (.int (0 : Int32)) 1)
      obtain ⟨cl111, Ar111, qq111, Sz111, Ng111, Hs111, Gs111⟩ := id V_T
      have hin111 : ¬ ((8 : Int32) < 0 ∨ cl111.slots.size ≤ ((8 : Int32)).toNatClampNeg) := inb_of Sz111 ⟨by decide, by decide⟩
      obtain ⟨T112, h112, X112, e112, W112, st112⟩ := stI X110 hx hZ e110 Ar111 (j := (8 : Int32)) hin111 (g := (mkF m 107 #[vr a1, vi p2, vi p3, vi p4, vi 127, vi ((((((f4 p2 p3 p4) &&& (127 : Int32)) + (1 : Int32)) &&& (127 : Int32)) + (1 : Int32)) &&& (127 : Int32)), vi (-1)] [(.int p4), (.int 8), (.ref w_T)])) rfl rfl (hb hby d3_107)
      refine G st112 ?_
      have N112 := Fr.snoc X112 N108 g_w_T
      obtain ⟨LL112, X112, N112⟩ : ∃ LL, Stand p l e (Rm 1 0 0 16) s m #[(.ref a1), (.int p2), (.int p3), (.int p4)] below meth c T112 LL 0 0 ∧ Fr n0 LL := ⟨_, X112, N112⟩
      replace E_a1 := E_a1.wr W112
      replace F_a1_size := F_a1_size.other W112 (Or.inl (Ne.symm ne_w_T_a1))
      replace F_a1_terms := F_a1_terms.other W112 (Or.inl (Ne.symm ne_w_T_a1))
      replace F_a1_slots := F_a1_slots.other W112 (Or.inl (Ne.symm ne_w_T_a1))
      replace V_S := V_S.other W112 (Ne.symm ne_w_T_w_S)
      replace Z0 := Nat.le_trans Z0 (Nat.le_of_eq W112.size.symm)
      replace K0 := K0.wr W112 (Or.inl (by simp))
      replace V_T : Arv Z h112 w_T k_T .int (192 : Int32) [(.int t0), (.int t1), (.int t2), (.int t3), (.int t4), (.int t5), (.int p2), (.int p3), (.int p4)] (.int (0 : Int32)) := Arv.set Ar111 qq111 Sz111 Ng111 Hs111 Gs111 rfl W112 8 rfl (Nat.le_of_ble_eq_true rfl)
      clear hin111 Gs111 Hs111 Ng111 Sz111 qq111 Ar111 cl111
      refine G (fun t k => XS.aloadN X112.here hx rfl (hb hby d3_108) rfl rfl k) ?_
      show Go _ _ _ (T112.setTop (mkF m 109 #[vr a1, vi p2, vi p3, vi p4, vi 127, vi ((((((f4 p2 p3 p4) &&& (127 : Int32)) + (1 : Int32)) &&& (127 : Int32)) + (1 : Int32)) &&& (127 : Int32)), vi (-1)] [(.ref a1)])) _
      obtain ⟨T113, X113, e113, st113⟩ := getF X112 hx hZ hown (host := "") (Or.inl (wd12 hw)) Via.refl e112 F_a1_slots (g := (mkF m 109 #[vr a1, vi p2, vi p3, vi p4, vi 127, vi ((((((f4 p2 p3 p4) &&& (127 : Int32)) + (1 : Int32)) &&& (127 : Int32)) + (1 : Int32)) &&& (127 : Int32)), vi (-1)] [(.ref a1)])) rfl rfl (hb hby d3_109)
      refine G st113 ?_
      refine G (fun t k => XS.iload X113.here hx rfl (hb hby d3_112) rfl (XS.aloadN X113.here hx rfl (hb hby d3_114) rfl rfl (XS.dup X113.here hx rfl (hb hby d3_115) rfl rfl k))) ?_
      obtain ⟨T114, X114, e114, st114⟩ := getF X113 hx hZ hown (host := "") (Or.inl (wd25 hw)) Via.refl e113 F_a1_size (g := (mkF m 116 #[vr a1, vi p2, vi p3, vi p4, vi 127, vi ((((((f4 p2 p3 p4) &&& (127 : Int32)) + (1 : Int32)) &&& (127 : Int32)) + (1 : Int32)) &&& (127 : Int32)), vi (-1)] [(.ref a1), (.ref a1), (.int ((((((f4 p2 p3 p4) &&& (127 : Int32)) + (1 : Int32)) &&& (127 : Int32)) + (1 : Int32)) &&& (127 : Int32))), (.ref w_S)])) rfl rfl (hb hby d3_116)
      refine G st114 ?_
      refine G (fun t k => XS.iconst X114.here hx rfl (hb hby d3_119) (XS.iadd X114.here hx rfl (hb hby d3_120) rfl k)) ?_
      show Go _ _ _ (T114.setTop (mkF m 121 #[vr a1, vi p2, vi p3, vi p4, vi 127, vi ((((((f4 p2 p3 p4) &&& (127 : Int32)) + (1 : Int32)) &&& (127 : Int32)) + (1 : Int32)) &&& (127 : Int32)), vi (-1)] [(.int 3), (.ref a1), (.int ((((((f4 p2 p3 p4) &&& (127 : Int32)) + (1 : Int32)) &&& (127 : Int32)) + (1 : Int32)) &&& (127 : Int32))), (.ref w_S)])) _
      refine G (fun t k => XS.dupX1 X114.here hx rfl (hb hby d3_121) rfl rfl rfl k) ?_
      obtain ⟨T115, h115, X115, e115, W115, st115⟩ := putF X114 hx hZ hown (host := "") (Or.inl (wd25 hw)) Via.refl e114 F_a1_size E_a1 (Or.inl (wd26 hw)) (wd2 hw) (ty := .int) (by decide) rfl rfl (g := (mkF m 122 #[vr a1, vi p2, vi p3, vi p4, vi 127, vi ((((((f4 p2 p3 p4) &&& (127 : Int32)) + (1 : Int32)) &&& (127 : Int32)) + (1 : Int32)) &&& (127 : Int32)), vi (-1)] [(.int 3), (.ref a1), (.int 3), (.int ((((((f4 p2 p3 p4) &&& (127 : Int32)) + (1 : Int32)) &&& (127 : Int32)) + (1 : Int32)) &&& (127 : Int32))), (.ref w_S)])) rfl rfl (hb hby d3_122)
      refine G st115 ?_
      have N115 := Fr.snoc X115 N112 g_a1
      replace E_a1 := E_a1.wr W115
      replace F_a1_size := F_a1_size.same W115
      replace F_a1_terms := F_a1_terms.other W115 (sn4 hw)
      replace F_a1_slots := F_a1_slots.other W115 (sn5 hw)
      replace V_T := V_T.other W115 ne_w_T_a1
      replace V_S := V_S.other W115 ne_w_S_a1
      replace Z0 := Nat.le_trans Z0 (Nat.le_of_eq W115.size.symm)
      replace K0 := K0.wr W115 (Or.inl (by simp))
      obtain ⟨cl116, Ar116, qq116, Sz116, Ng116, Hs116, Gs116⟩ := id V_S
      have hin116 : ¬ (((((((f4 p2 p3 p4) &&& (127 : Int32)) + (1 : Int32)) &&& (127 : Int32)) + (1 : Int32)) &&& (127 : Int32)) < 0 ∨ cl116.slots.size ≤ (((((((f4 p2 p3 p4) &&& (127 : Int32)) + (1 : Int32)) &&& (127 : Int32)) + (1 : Int32)) &&& (127 : Int32))).toNatClampNeg) := inb_of Sz116 (own_127 (((((f4 p2 p3 p4) &&& (127 : Int32)) + (1 : Int32)) &&& (127 : Int32)) + (1 : Int32)))
      obtain ⟨T117, h117, X117, e117, W117, st117⟩ := stI X115 hx hZ e115 Ar116 (j := ((((((f4 p2 p3 p4) &&& (127 : Int32)) + (1 : Int32)) &&& (127 : Int32)) + (1 : Int32)) &&& (127 : Int32))) hin116 (g := (mkF m 125 #[vr a1, vi p2, vi p3, vi p4, vi 127, vi ((((((f4 p2 p3 p4) &&& (127 : Int32)) + (1 : Int32)) &&& (127 : Int32)) + (1 : Int32)) &&& (127 : Int32)), vi (-1)] [(.int 3), (.int ((((((f4 p2 p3 p4) &&& (127 : Int32)) + (1 : Int32)) &&& (127 : Int32)) + (1 : Int32)) &&& (127 : Int32))), (.ref w_S)])) rfl rfl (hb hby d3_125)
      refine G st117 ?_
      have N117 := Fr.snoc X117 N115 g_w_S
      replace E_a1 := E_a1.wr W117
      replace F_a1_size := F_a1_size.other W117 (Or.inl (Ne.symm ne_w_S_a1))
      replace F_a1_terms := F_a1_terms.other W117 (Or.inl (Ne.symm ne_w_S_a1))
      replace F_a1_slots := F_a1_slots.other W117 (Or.inl (Ne.symm ne_w_S_a1))
      replace V_T := V_T.other W117 ne_w_T_w_S
      replace Z0 := Nat.le_trans Z0 (Nat.le_of_eq W117.size.symm)
      replace K0 := K0.wr W117 (Or.inl (by simp))
      replace V_S : Arh Z h117 w_S k_S .int (128 : Int32) [(((((((f4 p2 p3 p4) &&& (127 : Int32)) + (1 : Int32)) &&& (127 : Int32)) + (1 : Int32)) &&& (127 : Int32)), (.int (3 : Int32))), (i2, (.int (2 : Int32))), (i1, (.int (1 : Int32)))] [] (.int (0 : Int32)) := Arh.push Ar116 qq116 Sz116 Ng116 Hs116 Gs116 rfl W117 hin116
      show Go _ _ _ (T117.setTop (mkF m 126 #[vr a1, vi p2, vi p3, vi p4, vi 127, vi ((((((f4 p2 p3 p4) &&& (127 : Int32)) + (1 : Int32)) &&& (127 : Int32)) + (1 : Int32)) &&& (127 : Int32)), vi (-1)] [])) _
      refine G (fun t k => XS.iconst X117.here hx rfl (hb hby d3_126) (XS.aloadN X117.here hx rfl (hb hby d3_127) rfl rfl k)) ?_
      obtain ⟨T118, X118, e118, st118⟩ := getF X117 hx hZ hown (host := "") (Or.inl (wd25 hw)) Via.refl e117 F_a1_size (g := (mkF m 128 #[vr a1, vi p2, vi p3, vi p4, vi 127, vi ((((((f4 p2 p3 p4) &&& (127 : Int32)) + (1 : Int32)) &&& (127 : Int32)) + (1 : Int32)) &&& (127 : Int32)), vi (-1)] [(.ref a1), (.int 2)])) rfl rfl (hb hby d3_128)
      refine G st118 ?_
      refine G (fun t k => XS.imul X118.here hx rfl (hb hby d3_131) rfl (XS.aloadN X118.here hx rfl (hb hby d3_132) rfl rfl k)) ?_
      obtain ⟨T119, X119, e119, st119⟩ := getF X118 hx hZ hown (host := "") (Or.inl (wd12 hw)) Via.refl e118 F_a1_slots (g := (mkF m 133 #[vr a1, vi p2, vi p3, vi p4, vi 127, vi ((((((f4 p2 p3 p4) &&& (127 : Int32)) + (1 : Int32)) &&& (127 : Int32)) + (1 : Int32)) &&& (127 : Int32)), vi (-1)] [(.ref a1), (.int 6)])) rfl rfl (hb hby d3_133)
      refine G st119 ?_
      obtain ⟨cl120, Ar120, -, Sz120, Ng120, -, -⟩ := id V_S
      refine G (fun t k => X119.arraylength hx (by rw [e119]; exact Ar120.1) (State.isArrayOf_alike hZ.alike Ar120.2.1) (g := (mkF m 136 #[vr a1, vi p2, vi p3, vi p4, vi 127, vi ((((((f4 p2 p3 p4) &&& (127 : Int32)) + (1 : Int32)) &&& (127 : Int32)) + (1 : Int32)) &&& (127 : Int32)), vi (-1)] [(.ref w_S), (.int 6)])) rfl rfl (hb hby d3_136) _ k) ?_
      rw [len_of Sz120 Ng120]
      clear Ng120 Sz120 Ar120 cl120
      show Go _ _ _ (T119.setTop (mkF m 137 #[vr a1, vi p2, vi p3, vi p4, vi 127, vi ((((((f4 p2 p3 p4) &&& (127 : Int32)) + (1 : Int32)) &&& (127 : Int32)) + (1 : Int32)) &&& (127 : Int32)), vi (-1)] [(.int 128), (.int 6)])) _
      refine G (fun t k => XS.icmpYes X119.here hx rfl (pc0 := 137) (pc' := 151) rfl (hb hby d3_137) rfl (flt (by decide : ¬ ((128 : Int32) < (6 : Int32)))).2.2.2 (by decide) (by decide) (XS.iconst X119.here hx rfl (hb hby d3_151) k)) ?_
      obtain ⟨fs, hr, hrun, hended, hW, hsame⟩ := X119.leave (v := some (.int (1 : Int32))) (fun h => by rw [Bd.returns] at h; cases h)
      refine Go.fin (retN X119 hx (t := .boolean) Bd.returns (by simp) (hb hby d3_152) hr) hrun hended ⟨_, _, rfl, ?_, ⟨_, rfl⟩, hW, hsame.mono (by decide) (by decide)⟩
      show Q3n2 Z a1 p2 p3 p4 w_T w_S k_T k_S t0 t1 t2 t3 t4 t5 i1 i2 h0 n0 _ T119.heap _
      rw [e119]
      exact ⟨rfl, N117, K0, E_a1, F_a1_size, F_a1_terms, F_a1_slots, V_T, (by unfold f3n2_w_S_i0; simp only [if_neg hc6, if_pos hc85, if_pos hc90]; exact V_S)⟩
     refine G (fun t k => XS.aloadN X88.here hx rfl (hb hby d3_153) rfl rfl k) ?_
     obtain ⟨T121, X121, e121, st121⟩ := getF X88 hx hZ hown (host := "") (Or.inl (wd10 hw)) Via.refl e88 F_a1_terms (g := (mkF m 154 #[vr a1, vi p2, vi p3, vi p4, vi 127, vi ((((f4 p2 p3 p4) &&& (127 : Int32)) + (1 : Int32)) &&& (127 : Int32)), vi 1] [(.ref a1)])) rfl rfl (hb hby d3_154)
     refine G st121 ?_
     refine G (fun t k => XS.iconst X121.here hx rfl (hb hby d3_157) (XS.iload X121.here hx rfl (hb hby d3_158) rfl (XS.imul X121.here hx rfl (hb hby d3_160) rfl k))) ?_
     obtain ⟨cl122, Ar122, -, Sz122, Ng122, Hs122, -⟩ := id V_T
     have hin122 : ¬ ((3 : Int32) < 0 ∨ cl122.slots.size ≤ ((3 : Int32)).toNatClampNeg) := inb_of Sz122 ⟨by decide, by decide⟩
     refine G (fun t k => X121.iaload hx (j := (3 : Int32)) (v := (.int t3)) (by rw [e121]; exact Ar122.1) (State.isArrayOf_alike hZ.alike Ar122.2.1) Ar122.2.2 hin122 (Has.at Hs122 hin122 rfl) (g := (mkF m 161 #[vr a1, vi p2, vi p3, vi p4, vi 127, vi ((((f4 p2 p3 p4) &&& (127 : Int32)) + (1 : Int32)) &&& (127 : Int32)), vi 1] [(.int 3), (.ref w_T)])) rfl rfl (hb hby d3_161) _ k) ?_
     clear hin122 Hs122 Ng122 Sz122 Ar122 cl122
     refine G (fun t k => XS.iloadN X121.here hx rfl (hb hby d3_162) rfl k) ?_
     show Go _ _ _ (T121.setTop (mkF m 163 #[vr a1, vi p2, vi p3, vi p4, vi 127, vi ((((f4 p2 p3 p4) &&& (127 : Int32)) + (1 : Int32)) &&& (127 : Int32)), vi 1] [(.int p2), (.int t3)])) _
     by_cases hc123 : t3 = p2
     ·refine G (fun t k => XS.icmpNo X121.here hx rfl (hb hby d3_163) rfl (teq hc123).2 (XS.aloadN X121.here hx rfl (hb hby d3_166) rfl rfl k)) ?_
      obtain ⟨T124, X124, e124, st124⟩ := getF X121 hx hZ hown (host := "") (Or.inl (wd10 hw)) Via.refl e121 F_a1_terms (g := (mkF m 167 #[vr a1, vi p2, vi p3, vi p4, vi 127, vi ((((f4 p2 p3 p4) &&& (127 : Int32)) + (1 : Int32)) &&& (127 : Int32)), vi 1] [(.ref a1)])) rfl rfl (hb hby d3_167)
      refine G st124 ?_
      refine G (fun t k => XS.iconst X124.here hx rfl (hb hby d3_170) (XS.iload X124.here hx rfl (hb hby d3_171) rfl (XS.imul X124.here hx rfl (hb hby d3_173) rfl (XS.iconst X124.here hx rfl (hb hby d3_174) k)))) ?_
      show Go _ _ _ (T124.setTop (mkF m 175 #[vr a1, vi p2, vi p3, vi p4, vi 127, vi ((((f4 p2 p3 p4) &&& (127 : Int32)) + (1 : Int32)) &&& (127 : Int32)), vi 1] [(.int 1), (.int 3), (.ref w_T)])) _
      refine G (fun t k => XS.iadd X124.here hx rfl (hb hby d3_175) rfl k) ?_
      obtain ⟨cl125, Ar125, -, Sz125, Ng125, Hs125, -⟩ := id V_T
      have hin125 : ¬ ((4 : Int32) < 0 ∨ cl125.slots.size ≤ ((4 : Int32)).toNatClampNeg) := inb_of Sz125 ⟨by decide, by decide⟩
      refine G (fun t k => X124.iaload hx (j := (4 : Int32)) (v := (.int t4)) (by rw [e124]; exact Ar125.1) (State.isArrayOf_alike hZ.alike Ar125.2.1) Ar125.2.2 hin125 (Has.at Hs125 hin125 rfl) (g := (mkF m 176 #[vr a1, vi p2, vi p3, vi p4, vi 127, vi ((((f4 p2 p3 p4) &&& (127 : Int32)) + (1 : Int32)) &&& (127 : Int32)), vi 1] [(.int 4), (.ref w_T)])) rfl rfl (hb hby d3_176) _ k) ?_
      clear hin125 Hs125 Ng125 Sz125 Ar125 cl125
      refine G (fun t k => XS.iloadN X124.here hx rfl (hb hby d3_177) rfl k) ?_
      by_cases hc126 : t4 = p3
      ·refine G (fun t k => XS.icmpNo X124.here hx rfl (hb hby d3_178) rfl (teq hc126).2 (XS.aloadN X124.here hx rfl (hb hby d3_181) rfl rfl k)) ?_
       obtain ⟨T127, X127, e127, st127⟩ := getF X124 hx hZ hown (host := "") (Or.inl (wd10 hw)) Via.refl e124 F_a1_terms (g := (mkF m 182 #[vr a1, vi p2, vi p3, vi p4, vi 127, vi ((((f4 p2 p3 p4) &&& (127 : Int32)) + (1 : Int32)) &&& (127 : Int32)), vi 1] [(.ref a1)])) rfl rfl (hb hby d3_182)
       refine G st127 ?_
       refine G (fun t k => XS.iconst X127.here hx rfl (hb hby d3_185) k) ?_
       show Go _ _ _ (T127.setTop (mkF m 186 #[vr a1, vi p2, vi p3, vi p4, vi 127, vi ((((f4 p2 p3 p4) &&& (127 : Int32)) + (1 : Int32)) &&& (127 : Int32)), vi 1] [(.int 3), (.ref w_T)])) _
       refine G (fun t k => XS.iload X127.here hx rfl (hb hby d3_186) rfl (XS.imul X127.here hx rfl (hb hby d3_188) rfl (XS.iconst X127.here hx rfl (hb hby d3_189) (XS.iadd X127.here hx rfl (hb hby d3_190) rfl k)))) ?_
       obtain ⟨cl128, Ar128, -, Sz128, Ng128, Hs128, -⟩ := id V_T
       have hin128 : ¬ ((5 : Int32) < 0 ∨ cl128.slots.size ≤ ((5 : Int32)).toNatClampNeg) := inb_of Sz128 ⟨by decide, by decide⟩
       refine G (fun t k => X127.iaload hx (j := (5 : Int32)) (v := (.int t5)) (by rw [e127]; exact Ar128.1) (State.isArrayOf_alike hZ.alike Ar128.2.1) Ar128.2.2 hin128 (Has.at Hs128 hin128 rfl) (g := (mkF m 191 #[vr a1, vi p2, vi p3, vi p4, vi 127, vi ((((f4 p2 p3 p4) &&& (127 : Int32)) + (1 : Int32)) &&& (127 : Int32)), vi 1] [(.int 5), (.ref w_T)])) rfl rfl (hb hby d3_191) _ k) ?_
       clear hin128 Hs128 Ng128 Sz128 Ar128 cl128
       refine G (fun t k => XS.iloadN X127.here hx rfl (hb hby d3_192) rfl k) ?_
       have hf129 : ¬ (t5 = p4) := fun z => hne2 ⟨hc123, hc126, z⟩
       refine G (fun t k => XS.icmpYes X127.here hx rfl (pc0 := 193) (pc' := 198) rfl (hb hby d3_193) rfl (feq hf129).2 (by decide) (by decide) k) ?_
       show Go _ _ _ (T127.setTop (mkF m 198 #[vr a1, vi p2, vi p3, vi p4, vi 127, vi ((((f4 p2 p3 p4) &&& (127 : Int32)) + (1 : Int32)) &&& (127 : Int32)), vi 1] [])) _
       exact J92 _ _ X127 e127 NJ
      ·refine G (fun t k => XS.icmpYes X124.here hx rfl (pc0 := 178) (pc' := 198) rfl (hb hby d3_178) rfl (feq hc126).2 (by decide) (by decide) k) ?_
       show Go _ _ _ (T124.setTop (mkF m 198 #[vr a1, vi p2, vi p3, vi p4, vi 127, vi ((((f4 p2 p3 p4) &&& (127 : Int32)) + (1 : Int32)) &&& (127 : Int32)), vi 1] [])) _
       exact J92 _ _ X124 e124 NJ
     ·refine G (fun t k => XS.icmpYes X121.here hx rfl (pc0 := 163) (pc' := 198) rfl (hb hby d3_163) rfl (feq hc123).2 (by decide) (by decide) k) ?_
      show Go _ _ _ (T121.setTop (mkF m 198 #[vr a1, vi p2, vi p3, vi p4, vi 127, vi ((((f4 p2 p3 p4) &&& (127 : Int32)) + (1 : Int32)) &&& (127 : Int32)), vi 1] [])) _
      exact J92 _ _ X121 e121 NJ
    ·have hf130 : ¬ (((((f4 p2 p3 p4) &&& (127 : Int32)) + (1 : Int32)) &&& (127 : Int32)) = i1) := fun z => own_n1 _ (z.trans hc85.symm)
     obtain ⟨cl131, Ar131, -, Sz131, Ng131, Hs131, -⟩ := id V_S
     have hin131 : ¬ (((((f4 p2 p3 p4) &&& (127 : Int32)) + (1 : Int32)) &&& (127 : Int32)) < 0 ∨ cl131.slots.size ≤ (((((f4 p2 p3 p4) &&& (127 : Int32)) + (1 : Int32)) &&& (127 : Int32))).toNatClampNeg) := inb_of Sz131 (own_127 (((f4 p2 p3 p4) &&& (127 : Int32)) + (1 : Int32)))
     refine G (fun t k => X88.iaload hx (j := ((((f4 p2 p3 p4) &&& (127 : Int32)) + (1 : Int32)) &&& (127 : Int32))) (v := (.int (0 : Int32))) (by rw [e88]; exact Ar131.1) (State.isArrayOf_alike hZ.alike Ar131.2.1) Ar131.2.2 hin131 (atH Hs131 hin131 (getH_miss ((own_127 (((f4 p2 p3 p4) &&& (127 : Int32)) + (1 : Int32)))).1 hc90 (getH_miss ((own_127 (((f4 p2 p3 p4) &&& (127 : Int32)) + (1 : Int32)))).1 hf130 rfl))) (g := (mkF m 26 #[vr a1, vi p2, vi p3, vi p4, vi 127, vi ((((f4 p2 p3 p4) &&& (127 : Int32)) + (1 : Int32)) &&& (127 : Int32)), vi 0] [(.int ((((f4 p2 p3 p4) &&& (127 : Int32)) + (1 : Int32)) &&& (127 : Int32))), (.ref w_S)])) rfl rfl (hb hby d3_26) _ k) ?_
     show Go _ _ _ (T88.setTop (mkF m 27 #[vr a1, vi p2, vi p3, vi p4, vi 127, vi ((((f4 p2 p3 p4) &&& (127 : Int32)) + (1 : Int32)) &&& (127 : Int32)), vi 0] [(.int 0)])) _
     refine G (fun t k => XS.iconst X88.here hx rfl (hb hby d3_27) (XS.isub X88.here hx rfl (hb hby d3_28) rfl (XS.istore X88.here hx rfl (hb hby d3_29) rfl (l' := #[vr a1, vi p2, vi p3, vi p4, vi 127, vi ((((f4 p2 p3 p4) &&& (127 : Int32)) + (1 : Int32)) &&& (127 : Int32)), vi (-1)]) rfl (XS.iload X88.here hx rfl (hb hby d3_31) rfl (XS.ifNo X88.here hx rfl (hb hby d3_33) rfl ((if0 _ _).trans (tlt (by decide : (-1 : Int32) < (0 : Int32))).2.1) (XS.aloadN X88.here hx rfl (hb hby d3_36) rfl rfl k)))))) ?_
     obtain ⟨T132, X132, e132, st132⟩ := getF X88 hx hZ hown (host := "") (Or.inl (wd25 hw)) Via.refl e88 F_a1_size (g := (mkF m 37 #[vr a1, vi p2, vi p3, vi p4, vi 127, vi ((((f4 p2 p3 p4) &&& (127 : Int32)) + (1 : Int32)) &&& (127 : Int32)), vi (-1)] [(.ref a1)])) rfl rfl (hb hby d3_37)
     refine G st132 ?_
     show Go _ _ _ (T132.setTop (mkF m 40 #[vr a1, vi p2, vi p3, vi p4, vi 127, vi ((((f4 p2 p3 p4) &&& (127 : Int32)) + (1 : Int32)) &&& (127 : Int32)), vi (-1)] [(.int 2)])) _
     refine G (fun t k => XS.aloadN X132.here hx rfl (hb hby d3_40) rfl rfl k) ?_
     obtain ⟨T133, X133, e133, st133⟩ := getF X132 hx hZ hown (host := "") (Or.inl (wd10 hw)) Via.refl e132 F_a1_terms (g := (mkF m 41 #[vr a1, vi p2, vi p3, vi p4, vi 127, vi ((((f4 p2 p3 p4) &&& (127 : Int32)) + (1 : Int32)) &&& (127 : Int32)), vi (-1)] [(.ref a1), (.int 2)])) rfl rfl (hb hby d3_41)
     refine G st133 ?_
     obtain ⟨cl134, Ar134, -, Sz134, Ng134, -, -⟩ := id V_T
     refine G (fun t k => X133.arraylength hx (by rw [e133]; exact Ar134.1) (State.isArrayOf_alike hZ.alike Ar134.2.1) (g := (mkF m 44 #[vr a1, vi p2, vi p3, vi p4, vi 127, vi ((((f4 p2 p3 p4) &&& (127 : Int32)) + (1 : Int32)) &&& (127 : Int32)), vi (-1)] [(.ref w_T), (.int 2)])) rfl rfl (hb hby d3_44) _ k) ?_
     rw [len_of Sz134 Ng134]
     clear Ng134 Sz134 Ar134 cl134
     refine G (fun t k => XS.iconst X133.here hx rfl (hb hby d3_45) (XS.idiv X133.here hx rfl (hb hby d3_46) rfl (by decide) (XS.icmpYes X133.here hx rfl (pc0 := 47) (pc' := 68) rfl (hb hby d3_47) rfl (feq (by decide : ¬ ((2 : Int32) = (64 : Int32)))).2 (by decide) (by decide) (XS.aloadN X133.here hx rfl (hb hby d3_68) rfl rfl k)))) ?_
     show Go _ _ _ (T133.setTop (mkF m 69 #[vr a1, vi p2, vi p3, vi p4, vi 127, vi ((((f4 p2 p3 p4) &&& (127 : Int32)) + (1 : Int32)) &&& (127 : Int32)), vi (-1)] [(.ref a1)])) _
     obtain ⟨T135, X135, e135, st135⟩ := getF X133 hx hZ hown (host := "") (Or.inl (wd10 hw)) Via.refl e133 F_a1_terms (g := (mkF m 69 #[vr a1, vi p2, vi p3, vi p4, vi 127, vi ((((f4 p2 p3 p4) &&& (127 : Int32)) + (1 : Int32)) &&& (127 : Int32)), vi (-1)] [(.ref a1)])) rfl rfl (hb hby d3_69)
     refine G st135 ?_
     refine G (fun t k => XS.iconst X135.here hx rfl (hb hby d3_72) (XS.aloadN X135.here hx rfl (hb hby d3_73) rfl rfl k)) ?_
     obtain ⟨T136, X136, e136, st136⟩ := getF X135 hx hZ hown (host := "") (Or.inl (wd25 hw)) Via.refl e135 F_a1_size (g := (mkF m 74 #[vr a1, vi p2, vi p3, vi p4, vi 127, vi ((((f4 p2 p3 p4) &&& (127 : Int32)) + (1 : Int32)) &&& (127 : Int32)), vi (-1)] [(.ref a1), (.int 3), (.ref w_T)])) rfl rfl (hb hby d3_74)
     refine G st136 ?_
     refine G (fun t k => XS.imul X136.here hx rfl (hb hby d3_77) rfl (XS.iloadN X136.here hx rfl (hb hby d3_78) rfl k)) ?_
     replace V_T : Arv Z h0 w_T k_T .int (192 : Int32) [(.int t0), (.int t1), (.int t2), (.int t3), (.int t4), (.int t5), (.int (0 : Int32))] (.int (0 : Int32)) := V_T.pad (pad_rep [(.int t0), (.int t1), (.int t2), (.int t3), (.int t4), (.int t5)] (.int (0 : Int32)) 1)
     obtain ⟨cl137, Ar137, qq137, Sz137, Ng137, Hs137, Gs137⟩ := id V_T
     have hin137 : ¬ ((6 : Int32) < 0 ∨ cl137.slots.size ≤ ((6 : Int32)).toNatClampNeg) := inb_of Sz137 ⟨by decide, by decide⟩
     obtain ⟨T138, h138, X138, e138, W138, st138⟩ := stI X136 hx hZ e136 Ar137 (j := (6 : Int32)) hin137 (g := (mkF m 79 #[vr a1, vi p2, vi p3, vi p4, vi 127, vi ((((f4 p2 p3 p4) &&& (127 : Int32)) + (1 : Int32)) &&& (127 : Int32)), vi (-1)] [(.int p2), (.int 6), (.ref w_T)])) rfl rfl (hb hby d3_79)
     refine G st138 ?_
     have N138 := Fr.snoc X138 NJ g_w_T
     replace E_a1 := E_a1.wr W138
     replace F_a1_size := F_a1_size.other W138 (Or.inl (Ne.symm ne_w_T_a1))
     replace F_a1_terms := F_a1_terms.other W138 (Or.inl (Ne.symm ne_w_T_a1))
     replace F_a1_slots := F_a1_slots.other W138 (Or.inl (Ne.symm ne_w_T_a1))
     replace V_S := V_S.other W138 (Ne.symm ne_w_T_w_S)
     replace Z0 := Nat.le_trans Z0 (Nat.le_of_eq W138.size.symm)
     replace K0 := K0.wr W138 (Or.inl (by simp))
     replace V_T : Arv Z h138 w_T k_T .int (192 : Int32) [(.int t0), (.int t1), (.int t2), (.int t3), (.int t4), (.int t5), (.int p2)] (.int (0 : Int32)) := Arv.set Ar137 qq137 Sz137 Ng137 Hs137 Gs137 rfl W138 6 rfl (Nat.le_of_ble_eq_true rfl)
     clear hin137 Gs137 Hs137 Ng137 Sz137 qq137 Ar137 cl137
     show Go _ _ _ (T138.setTop (mkF m 80 #[vr a1, vi p2, vi p3, vi p4, vi 127, vi ((((f4 p2 p3 p4) &&& (127 : Int32)) + (1 : Int32)) &&& (127 : Int32)), vi (-1)] [])) _
     refine G (fun t k => XS.aloadN X138.here hx rfl (hb hby d3_80) rfl rfl k) ?_
     obtain ⟨T139, X139, e139, st139⟩ := getF X138 hx hZ hown (host := "") (Or.inl (wd10 hw)) Via.refl e138 F_a1_terms (g := (mkF m 81 #[vr a1, vi p2, vi p3, vi p4, vi 127, vi ((((f4 p2 p3 p4) &&& (127 : Int32)) + (1 : Int32)) &&& (127 : Int32)), vi (-1)] [(.ref a1)])) rfl rfl (hb hby d3_81)
     refine G st139 ?_
     refine G (fun t k => XS.iconst X139.here hx rfl (hb hby d3_84) (XS.aloadN X139.here hx rfl (hb hby d3_85) rfl rfl k)) ?_
     obtain ⟨T140, X140, e140, st140⟩ := getF X139 hx hZ hown (host := "") (Or.inl (wd25 hw)) Via.refl e139 F_a1_size (g := (mkF m 86 #[vr a1, vi p2, vi p3, vi p4, vi 127, vi ((((f4 p2 p3 p4) &&& (127 : Int32)) + (1 : Int32)) &&& (127 : Int32)), vi (-1)] [(.ref a1), (.int 3), (.ref w_T)])) rfl rfl (hb hby d3_86)
     refine G st140 ?_
     refine G (fun t k => XS.imul X140.here hx rfl (hb hby d3_89) rfl (XS.iconst X140.here hx rfl (hb hby d3_90) k)) ?_
     show Go _ _ _ (T140.setTop (mkF m 91 #[vr a1, vi p2, vi p3, vi p4, vi 127, vi ((((f4 p2 p3 p4) &&& (127 : Int32)) + (1 : Int32)) &&& (127 : Int32)), vi (-1)] [(.int 1), (.int 6), (.ref w_T)])) _
     refine G (fun t k => XS.iadd X140.here hx rfl (hb hby d3_91) rfl (XS.iloadN X140.here hx rfl (hb hby d3_92) rfl k)) ?_
     replace V_T : Arv Z h138 w_T k_T .int (192 : Int32) [(.int t0), (.int t1), (.int t2), (.int t3), (.int t4), (.int t5), (.int p2), (.int (0 : Int32))] (.int (0 : Int32)) := V_T.pad (pad_rep [(.int t0), (.int t1), (.int t2), (.int t3), (.int t4), (.int t5), (.int p2)] (.int (0 : Int32)) 1)
     obtain ⟨cl141, Ar141, qq141, Sz141, Ng141, Hs141, Gs141⟩ := id V_T
     have hin141 : ¬ ((7 : Int32) < 0 ∨ cl141.slots.size ≤ ((7 : Int32)).toNatClampNeg) := inb_of Sz141 ⟨by decide, by decide⟩
     obtain ⟨T142, h142, X142, e142, W142, st142⟩ := stI X140 hx hZ e140 Ar141 (j := (7 : Int32)) hin141 (g := (mkF m 93 #[vr a1, vi p2, vi p3, vi p4, vi 127, vi ((((f4 p2 p3 p4) &&& (127 : Int32)) + (1 : Int32)) &&& (127 : Int32)), vi (-1)] [(.int p3), (.int 7), (.ref w_T)])) rfl rfl (hb hby d3_93)
     refine G st142 ?_
     have N142 := Fr.snoc X142 N138 g_w_T
     replace E_a1 := E_a1.wr W142
     replace F_a1_size := F_a1_size.other W142 (Or.inl (Ne.symm ne_w_T_a1))
     replace F_a1_terms := F_a1_terms.other W142 (Or.inl (Ne.symm ne_w_T_a1))
     replace F_a1_slots := F_a1_slots.other W142 (Or.inl (Ne.symm ne_w_T_a1))
     replace V_S := V_S.other W142 (Ne.symm ne_w_T_w_S)
     replace Z0 := Nat.le_trans Z0 (Nat.le_of_eq W142.size.symm)
     replace K0 := K0.wr W142 (Or.inl (by simp))
     replace V_T : Arv Z h142 w_T k_T .int (192 : Int32) [(.int t0), (.int t1), (.int t2), (.int t3), (.int t4), (.int t5), (.int p2), (.int p3)] (.int (0 : Int32)) := Arv.set Ar141 qq141 Sz141 Ng141 Hs141 Gs141 rfl W142 7 rfl (Nat.le_of_ble_eq_true rfl)
     clear hin141 Gs141 Hs141 Ng141 Sz141 qq141 Ar141 cl141
     refine G (fun t k => XS.aloadN X142.here hx rfl (hb hby d3_94) rfl rfl k) ?_
     obtain ⟨T143, X143, e143, st143⟩ := getF X142 hx hZ hown (host := "") (Or.inl (wd10 hw)) Via.refl e142 F_a1_terms (g := (mkF m 95 #[vr a1, vi p2, vi p3, vi p4, vi 127, vi ((((f4 p2 p3 p4) &&& (127 : Int32)) + (1 : Int32)) &&& (127 : Int32)), vi (-1)] [(.ref a1)])) rfl rfl (hb hby d3_95)
     refine G st143 ?_
     refine G (fun t k => XS.iconst X143.here hx rfl (hb hby d3_98) (XS.aloadN X143.here hx rfl (hb hby d3_99) rfl rfl k)) ?_
     show Go _ _ _ (T143.setTop (mkF m 100 #[vr a1, vi p2, vi p3, vi p4, vi 127, vi ((((f4 p2 p3 p4) &&& (127 : Int32)) + (1 : Int32)) &&& (127 : Int32)), vi (-1)] [(.ref a1), (.int 3), (.ref w_T)])) _
     obtain ⟨T144, X144, e144, st144⟩ := getF X143 hx hZ hown (host := "") (Or.inl (wd25 hw)) Via.refl e143 F_a1_size (g := (mkF m 100 #[vr a1, vi p2, vi p3, vi p4, vi 127, vi ((((f4 p2 p3 p4) &&& (127 : Int32)) + (1 : Int32)) &&& (127 : Int32)), vi (-1)] [(.ref a1), (.int 3), (.ref w_T)])) rfl rfl (hb hby d3_100)
     refine G st144 ?_
     refine G (fun t k => XS.imul X144.here hx rfl (hb hby d3_103) rfl (XS.iconst X144.here hx rfl (hb hby d3_104) (XS.iadd X144.here hx rfl (hb hby d3_105) rfl (XS.iloadN X144.here hx rfl (hb hby d3_106) rfl k)))) ?_
     replace V_T : Arv Z h142 w_T k_T .int (192 : Int32) [(.int t0), (.int t1), (.int t2), (.int t3), (.int t4), (.int t5), (.int p2), (.int p3), (.int (0 : Int32))] (.int (0 : Int32)) := V_T.pad (pad_rep [(.int t0), (.int t1), (.int t2), (.int t3), (.int t4), (.int t5), (.int p2), (.int p3)] (.int (0 : Int32)) 1)
     obtain ⟨cl145, Ar145, qq145, Sz145, Ng145, Hs145, Gs145⟩ := id V_T
     have hin145 : ¬ ((8 : Int32) < 0 ∨ cl145.slots.size ≤ ((8 : Int32)).toNatClampNeg) := inb_of Sz145 ⟨by decide, by decide⟩
     obtain ⟨T146, h146, X146, e146, W146, st146⟩ := stI X144 hx hZ e144 Ar145 (j := (8 : Int32)) hin145 (g := (mkF m 107 #[vr a1, vi p2, vi p3, vi p4, vi 127, vi ((((f4 p2 p3 p4) &&& (127 : Int32)) + (1 : Int32)) &&& (127 : Int32)), vi (-1)] [(.int p4), (.int 8), (.ref w_T)])) rfl rfl (hb hby d3_107)
     refine G st146 ?_
     have N146 := Fr.snoc X146 N142 g_w_T
     obtain ⟨LL146, X146, N146⟩ : ∃ LL, Stand p l e (Rm 1 0 0 16) s m #[(.ref a1), (.int p2), (.int p3), (.int p4)] below meth c T146 LL 0 0 ∧ Fr n0 LL := ⟨_, X146, N146⟩
     replace E_a1 := E_a1.wr W146
     replace F_a1_size := F_a1_size.other W146 (Or.inl (Ne.symm ne_w_T_a1))
     replace F_a1_terms := F_a1_terms.other W146 (Or.inl (Ne.symm ne_w_T_a1))
     replace F_a1_slots := F_a1_slots.other W146 (Or.inl (Ne.symm ne_w_T_a1))
     replace V_S := V_S.other W146 (Ne.symm ne_w_T_w_S)
     replace Z0 := Nat.le_trans Z0 (Nat.le_of_eq W146.size.symm)
     replace K0 := K0.wr W146 (Or.inl (by simp))
     replace V_T : Arv Z h146 w_T k_T .int (192 : Int32) [(.int t0), (.int t1), (.int t2), (.int t3), (.int t4), (.int t5), (.int p2), (.int p3), (.int p4)] (.int (0 : Int32)) := Arv.set Ar145 qq145 Sz145 Ng145 Hs145 Gs145 rfl W146 8 rfl (Nat.le_of_ble_eq_true rfl)
     clear hin145 Gs145 Hs145 Ng145 Sz145 qq145 Ar145 cl145
     refine G (fun t k => XS.aloadN X146.here hx rfl (hb hby d3_108) rfl rfl k) ?_
     show Go _ _ _ (T146.setTop (mkF m 109 #[vr a1, vi p2, vi p3, vi p4, vi 127, vi ((((f4 p2 p3 p4) &&& (127 : Int32)) + (1 : Int32)) &&& (127 : Int32)), vi (-1)] [(.ref a1)])) _
     obtain ⟨T147, X147, e147, st147⟩ := getF X146 hx hZ hown (host := "") (Or.inl (wd12 hw)) Via.refl e146 F_a1_slots (g := (mkF m 109 #[vr a1, vi p2, vi p3, vi p4, vi 127, vi ((((f4 p2 p3 p4) &&& (127 : Int32)) + (1 : Int32)) &&& (127 : Int32)), vi (-1)] [(.ref a1)])) rfl rfl (hb hby d3_109)
     refine G st147 ?_
     refine G (fun t k => XS.iload X147.here hx rfl (hb hby d3_112) rfl (XS.aloadN X147.here hx rfl (hb hby d3_114) rfl rfl (XS.dup X147.here hx rfl (hb hby d3_115) rfl rfl k))) ?_
     obtain ⟨T148, X148, e148, st148⟩ := getF X147 hx hZ hown (host := "") (Or.inl (wd25 hw)) Via.refl e147 F_a1_size (g := (mkF m 116 #[vr a1, vi p2, vi p3, vi p4, vi 127, vi ((((f4 p2 p3 p4) &&& (127 : Int32)) + (1 : Int32)) &&& (127 : Int32)), vi (-1)] [(.ref a1), (.ref a1), (.int ((((f4 p2 p3 p4) &&& (127 : Int32)) + (1 : Int32)) &&& (127 : Int32))), (.ref w_S)])) rfl rfl (hb hby d3_116)
     refine G st148 ?_
     refine G (fun t k => XS.iconst X148.here hx rfl (hb hby d3_119) (XS.iadd X148.here hx rfl (hb hby d3_120) rfl k)) ?_
     show Go _ _ _ (T148.setTop (mkF m 121 #[vr a1, vi p2, vi p3, vi p4, vi 127, vi ((((f4 p2 p3 p4) &&& (127 : Int32)) + (1 : Int32)) &&& (127 : Int32)), vi (-1)] [(.int 3), (.ref a1), (.int ((((f4 p2 p3 p4) &&& (127 : Int32)) + (1 : Int32)) &&& (127 : Int32))), (.ref w_S)])) _
     refine G (fun t k => XS.dupX1 X148.here hx rfl (hb hby d3_121) rfl rfl rfl k) ?_
     obtain ⟨T149, h149, X149, e149, W149, st149⟩ := putF X148 hx hZ hown (host := "") (Or.inl (wd25 hw)) Via.refl e148 F_a1_size E_a1 (Or.inl (wd26 hw)) (wd2 hw) (ty := .int) (by decide) rfl rfl (g := (mkF m 122 #[vr a1, vi p2, vi p3, vi p4, vi 127, vi ((((f4 p2 p3 p4) &&& (127 : Int32)) + (1 : Int32)) &&& (127 : Int32)), vi (-1)] [(.int 3), (.ref a1), (.int 3), (.int ((((f4 p2 p3 p4) &&& (127 : Int32)) + (1 : Int32)) &&& (127 : Int32))), (.ref w_S)])) rfl rfl (hb hby d3_122)
     refine G st149 ?_
     have N149 := Fr.snoc X149 N146 g_a1
     replace E_a1 := E_a1.wr W149
     replace F_a1_size := F_a1_size.same W149
     replace F_a1_terms := F_a1_terms.other W149 (sn4 hw)
     replace F_a1_slots := F_a1_slots.other W149 (sn5 hw)
     replace V_T := V_T.other W149 ne_w_T_a1
     replace V_S := V_S.other W149 ne_w_S_a1
     replace Z0 := Nat.le_trans Z0 (Nat.le_of_eq W149.size.symm)
     replace K0 := K0.wr W149 (Or.inl (by simp))
     obtain ⟨cl150, Ar150, qq150, Sz150, Ng150, Hs150, Gs150⟩ := id V_S
     have hin150 : ¬ (((((f4 p2 p3 p4) &&& (127 : Int32)) + (1 : Int32)) &&& (127 : Int32)) < 0 ∨ cl150.slots.size ≤ (((((f4 p2 p3 p4) &&& (127 : Int32)) + (1 : Int32)) &&& (127 : Int32))).toNatClampNeg) := inb_of Sz150 (own_127 (((f4 p2 p3 p4) &&& (127 : Int32)) + (1 : Int32)))
     obtain ⟨T151, h151, X151, e151, W151, st151⟩ := stI X149 hx hZ e149 Ar150 (j := ((((f4 p2 p3 p4) &&& (127 : Int32)) + (1 : Int32)) &&& (127 : Int32))) hin150 (g := (mkF m 125 #[vr a1, vi p2, vi p3, vi p4, vi 127, vi ((((f4 p2 p3 p4) &&& (127 : Int32)) + (1 : Int32)) &&& (127 : Int32)), vi (-1)] [(.int 3), (.int ((((f4 p2 p3 p4) &&& (127 : Int32)) + (1 : Int32)) &&& (127 : Int32))), (.ref w_S)])) rfl rfl (hb hby d3_125)
     refine G st151 ?_
     have N151 := Fr.snoc X151 N149 g_w_S
     replace E_a1 := E_a1.wr W151
     replace F_a1_size := F_a1_size.other W151 (Or.inl (Ne.symm ne_w_S_a1))
     replace F_a1_terms := F_a1_terms.other W151 (Or.inl (Ne.symm ne_w_S_a1))
     replace F_a1_slots := F_a1_slots.other W151 (Or.inl (Ne.symm ne_w_S_a1))
     replace V_T := V_T.other W151 ne_w_T_w_S
     replace Z0 := Nat.le_trans Z0 (Nat.le_of_eq W151.size.symm)
     replace K0 := K0.wr W151 (Or.inl (by simp))
     replace V_S : Arh Z h151 w_S k_S .int (128 : Int32) [(((((f4 p2 p3 p4) &&& (127 : Int32)) + (1 : Int32)) &&& (127 : Int32)), (.int (3 : Int32))), (i2, (.int (2 : Int32))), (i1, (.int (1 : Int32)))] [] (.int (0 : Int32)) := Arh.push Ar150 qq150 Sz150 Ng150 Hs150 Gs150 rfl W151 hin150
     show Go _ _ _ (T151.setTop (mkF m 126 #[vr a1, vi p2, vi p3, vi p4, vi 127, vi ((((f4 p2 p3 p4) &&& (127 : Int32)) + (1 : Int32)) &&& (127 : Int32)), vi (-1)] [])) _
     refine G (fun t k => XS.iconst X151.here hx rfl (hb hby d3_126) (XS.aloadN X151.here hx rfl (hb hby d3_127) rfl rfl k)) ?_
     obtain ⟨T152, X152, e152, st152⟩ := getF X151 hx hZ hown (host := "") (Or.inl (wd25 hw)) Via.refl e151 F_a1_size (g := (mkF m 128 #[vr a1, vi p2, vi p3, vi p4, vi 127, vi ((((f4 p2 p3 p4) &&& (127 : Int32)) + (1 : Int32)) &&& (127 : Int32)), vi (-1)] [(.ref a1), (.int 2)])) rfl rfl (hb hby d3_128)
     refine G st152 ?_
     refine G (fun t k => XS.imul X152.here hx rfl (hb hby d3_131) rfl (XS.aloadN X152.here hx rfl (hb hby d3_132) rfl rfl k)) ?_
     obtain ⟨T153, X153, e153, st153⟩ := getF X152 hx hZ hown (host := "") (Or.inl (wd12 hw)) Via.refl e152 F_a1_slots (g := (mkF m 133 #[vr a1, vi p2, vi p3, vi p4, vi 127, vi ((((f4 p2 p3 p4) &&& (127 : Int32)) + (1 : Int32)) &&& (127 : Int32)), vi (-1)] [(.ref a1), (.int 6)])) rfl rfl (hb hby d3_133)
     refine G st153 ?_
     obtain ⟨cl154, Ar154, -, Sz154, Ng154, -, -⟩ := id V_S
     refine G (fun t k => X153.arraylength hx (by rw [e153]; exact Ar154.1) (State.isArrayOf_alike hZ.alike Ar154.2.1) (g := (mkF m 136 #[vr a1, vi p2, vi p3, vi p4, vi 127, vi ((((f4 p2 p3 p4) &&& (127 : Int32)) + (1 : Int32)) &&& (127 : Int32)), vi (-1)] [(.ref w_S), (.int 6)])) rfl rfl (hb hby d3_136) _ k) ?_
     rw [len_of Sz154 Ng154]
     clear Ng154 Sz154 Ar154 cl154
     show Go _ _ _ (T153.setTop (mkF m 137 #[vr a1, vi p2, vi p3, vi p4, vi 127, vi ((((f4 p2 p3 p4) &&& (127 : Int32)) + (1 : Int32)) &&& (127 : Int32)), vi (-1)] [(.int 128), (.int 6)])) _
     refine G (fun t k => XS.icmpYes X153.here hx rfl (pc0 := 137) (pc' := 151) rfl (hb hby d3_137) rfl (flt (by decide : ¬ ((128 : Int32) < (6 : Int32)))).2.2.2 (by decide) (by decide) (XS.iconst X153.here hx rfl (hb hby d3_151) k)) ?_
     obtain ⟨fs, hr, hrun, hended, hW, hsame⟩ := X153.leave (v := some (.int (1 : Int32))) (fun h => by rw [Bd.returns] at h; cases h)
     refine Go.fin (retN X153 hx (t := .boolean) Bd.returns (by simp) (hb hby d3_152) hr) hrun hended ⟨_, _, rfl, ?_, ⟨_, rfl⟩, hW, hsame.mono (by decide) (by decide)⟩
     show Q3n2 Z a1 p2 p3 p4 w_T w_S k_T k_S t0 t1 t2 t3 t4 t5 i1 i2 h0 n0 _ T153.heap _
     rw [e153]
     exact ⟨rfl, N151, K0, E_a1, F_a1_size, F_a1_terms, F_a1_slots, V_T, (by unfold f3n2_w_S_i0; simp only [if_neg hc6, if_pos hc85, if_neg hc90]; exact V_S)⟩
   refine G (fun t k => XS.aloadN X4.here hx rfl (hb hby d3_153) rfl rfl k) ?_
   obtain ⟨T155, X155, e155, st155⟩ := getF X4 hx hZ hown (host := "") (Or.inl (wd10 hw)) Via.refl e4 F_a1_terms (g := (mkF m 154 #[vr a1, vi p2, vi p3, vi p4, vi 127, vi ((f4 p2 p3 p4) &&& (127 : Int32)), vi 0] [(.ref a1)])) rfl rfl (hb hby d3_154)
   refine G st155 ?_
   refine G (fun t k => XS.iconst X155.here hx rfl (hb hby d3_157) (XS.iload X155.here hx rfl (hb hby d3_158) rfl (XS.imul X155.here hx rfl (hb hby d3_160) rfl k))) ?_
   obtain ⟨cl156, Ar156, -, Sz156, Ng156, Hs156, -⟩ := id V_T
   have hin156 : ¬ ((0 : Int32) < 0 ∨ cl156.slots.size ≤ ((0 : Int32)).toNatClampNeg) := inb_of Sz156 ⟨by decide, by decide⟩
   refine G (fun t k => X155.iaload hx (j := (0 : Int32)) (v := (.int t0)) (by rw [e155]; exact Ar156.1) (State.isArrayOf_alike hZ.alike Ar156.2.1) Ar156.2.2 hin156 (Has.at Hs156 hin156 rfl) (g := (mkF m 161 #[vr a1, vi p2, vi p3, vi p4, vi 127, vi ((f4 p2 p3 p4) &&& (127 : Int32)), vi 0] [(.int 0), (.ref w_T)])) rfl rfl (hb hby d3_161) _ k) ?_
   clear hin156 Hs156 Ng156 Sz156 Ar156 cl156
   refine G (fun t k => XS.iloadN X155.here hx rfl (hb hby d3_162) rfl k) ?_
   show Go _ _ _ (T155.setTop (mkF m 163 #[vr a1, vi p2, vi p3, vi p4, vi 127, vi ((f4 p2 p3 p4) &&& (127 : Int32)), vi 0] [(.int p2), (.int t0)])) _
   by_cases hc157 : t0 = p2
   ·refine G (fun t k => XS.icmpNo X155.here hx rfl (hb hby d3_163) rfl (teq hc157).2 (XS.aloadN X155.here hx rfl (hb hby d3_166) rfl rfl k)) ?_
    obtain ⟨T158, X158, e158, st158⟩ := getF X155 hx hZ hown (host := "") (Or.inl (wd10 hw)) Via.refl e155 F_a1_terms (g := (mkF m 167 #[vr a1, vi p2, vi p3, vi p4, vi 127, vi ((f4 p2 p3 p4) &&& (127 : Int32)), vi 0] [(.ref a1)])) rfl rfl (hb hby d3_167)
    refine G st158 ?_
    refine G (fun t k => XS.iconst X158.here hx rfl (hb hby d3_170) (XS.iload X158.here hx rfl (hb hby d3_171) rfl (XS.imul X158.here hx rfl (hb hby d3_173) rfl (XS.iconst X158.here hx rfl (hb hby d3_174) k)))) ?_
    show Go _ _ _ (T158.setTop (mkF m 175 #[vr a1, vi p2, vi p3, vi p4, vi 127, vi ((f4 p2 p3 p4) &&& (127 : Int32)), vi 0] [(.int 1), (.int 0), (.ref w_T)])) _
    refine G (fun t k => XS.iadd X158.here hx rfl (hb hby d3_175) rfl k) ?_
    obtain ⟨cl159, Ar159, -, Sz159, Ng159, Hs159, -⟩ := id V_T
    have hin159 : ¬ ((1 : Int32) < 0 ∨ cl159.slots.size ≤ ((1 : Int32)).toNatClampNeg) := inb_of Sz159 ⟨by decide, by decide⟩
    refine G (fun t k => X158.iaload hx (j := (1 : Int32)) (v := (.int t1)) (by rw [e158]; exact Ar159.1) (State.isArrayOf_alike hZ.alike Ar159.2.1) Ar159.2.2 hin159 (Has.at Hs159 hin159 rfl) (g := (mkF m 176 #[vr a1, vi p2, vi p3, vi p4, vi 127, vi ((f4 p2 p3 p4) &&& (127 : Int32)), vi 0] [(.int 1), (.ref w_T)])) rfl rfl (hb hby d3_176) _ k) ?_
    clear hin159 Hs159 Ng159 Sz159 Ar159 cl159
    refine G (fun t k => XS.iloadN X158.here hx rfl (hb hby d3_177) rfl k) ?_
    by_cases hc160 : t1 = p3
    ·refine G (fun t k => XS.icmpNo X158.here hx rfl (hb hby d3_178) rfl (teq hc160).2 (XS.aloadN X158.here hx rfl (hb hby d3_181) rfl rfl k)) ?_
     obtain ⟨T161, X161, e161, st161⟩ := getF X158 hx hZ hown (host := "") (Or.inl (wd10 hw)) Via.refl e158 F_a1_terms (g := (mkF m 182 #[vr a1, vi p2, vi p3, vi p4, vi 127, vi ((f4 p2 p3 p4) &&& (127 : Int32)), vi 0] [(.ref a1)])) rfl rfl (hb hby d3_182)
     refine G st161 ?_
     refine G (fun t k => XS.iconst X161.here hx rfl (hb hby d3_185) k) ?_
     show Go _ _ _ (T161.setTop (mkF m 186 #[vr a1, vi p2, vi p3, vi p4, vi 127, vi ((f4 p2 p3 p4) &&& (127 : Int32)), vi 0] [(.int 3), (.ref w_T)])) _
     refine G (fun t k => XS.iload X161.here hx rfl (hb hby d3_186) rfl (XS.imul X161.here hx rfl (hb hby d3_188) rfl (XS.iconst X161.here hx rfl (hb hby d3_189) (XS.iadd X161.here hx rfl (hb hby d3_190) rfl k)))) ?_
     obtain ⟨cl162, Ar162, -, Sz162, Ng162, Hs162, -⟩ := id V_T
     have hin162 : ¬ ((2 : Int32) < 0 ∨ cl162.slots.size ≤ ((2 : Int32)).toNatClampNeg) := inb_of Sz162 ⟨by decide, by decide⟩
     refine G (fun t k => X161.iaload hx (j := (2 : Int32)) (v := (.int t2)) (by rw [e161]; exact Ar162.1) (State.isArrayOf_alike hZ.alike Ar162.2.1) Ar162.2.2 hin162 (Has.at Hs162 hin162 rfl) (g := (mkF m 191 #[vr a1, vi p2, vi p3, vi p4, vi 127, vi ((f4 p2 p3 p4) &&& (127 : Int32)), vi 0] [(.int 2), (.ref w_T)])) rfl rfl (hb hby d3_191) _ k) ?_
     clear hin162 Hs162 Ng162 Sz162 Ar162 cl162
     refine G (fun t k => XS.iloadN X161.here hx rfl (hb hby d3_192) rfl k) ?_
     have hf163 : ¬ (t2 = p4) := fun z => hne1 ⟨hc157, hc160, z⟩
     refine G (fun t k => XS.icmpYes X161.here hx rfl (pc0 := 193) (pc' := 198) rfl (hb hby d3_193) rfl (feq hf163).2 (by decide) (by decide) k) ?_
     show Go _ _ _ (T161.setTop (mkF m 198 #[vr a1, vi p2, vi p3, vi p4, vi 127, vi ((f4 p2 p3 p4) &&& (127 : Int32)), vi 0] [])) _
     exact J87 _ _ X161 e161 N3
    ·refine G (fun t k => XS.icmpYes X158.here hx rfl (pc0 := 178) (pc' := 198) rfl (hb hby d3_178) rfl (feq hc160).2 (by decide) (by decide) k) ?_
     show Go _ _ _ (T158.setTop (mkF m 198 #[vr a1, vi p2, vi p3, vi p4, vi 127, vi ((f4 p2 p3 p4) &&& (127 : Int32)), vi 0] [])) _
     exact J87 _ _ X158 e158 N3
   ·refine G (fun t k => XS.icmpYes X155.here hx rfl (pc0 := 163) (pc' := 198) rfl (hb hby d3_163) rfl (feq hc157).2 (by decide) (by decide) k) ?_
    show Go _ _ _ (T155.setTop (mkF m 198 #[vr a1, vi p2, vi p3, vi p4, vi 127, vi ((f4 p2 p3 p4) &&& (127 : Int32)), vi 0] [])) _
    exact J87 _ _ X155 e155 N3
  ·obtain ⟨cl164, Ar164, -, Sz164, Ng164, Hs164, -⟩ := id V_S
   have hin164 : ¬ (((f4 p2 p3 p4) &&& (127 : Int32)) < 0 ∨ cl164.slots.size ≤ (((f4 p2 p3 p4) &&& (127 : Int32))).toNatClampNeg) := inb_of Sz164 (own_127 (f4 p2 p3 p4))
   refine G (fun t k => X4.iaload hx (j := ((f4 p2 p3 p4) &&& (127 : Int32))) (v := (.int (0 : Int32))) (by rw [e4]; exact Ar164.1) (State.isArrayOf_alike hZ.alike Ar164.2.1) Ar164.2.2 hin164 (atH Hs164 hin164 (getH_miss ((own_127 (f4 p2 p3 p4))).1 hc6 (getH_miss ((own_127 (f4 p2 p3 p4))).1 hc85 rfl))) (g := (mkF m 26 #[vr a1, vi p2, vi p3, vi p4, vi 127, vi ((f4 p2 p3 p4) &&& (127 : Int32)), us] [(.int ((f4 p2 p3 p4) &&& (127 : Int32))), (.ref w_S)])) rfl rfl (hb hby d3_26) _ k) ?_
   show Go _ _ _ (T4.setTop (mkF m 27 #[vr a1, vi p2, vi p3, vi p4, vi 127, vi ((f4 p2 p3 p4) &&& (127 : Int32)), us] [(.int 0)])) _
   refine G (fun t k => XS.iconst X4.here hx rfl (hb hby d3_27) (XS.isub X4.here hx rfl (hb hby d3_28) rfl (XS.istore X4.here hx rfl (hb hby d3_29) rfl (l' := #[vr a1, vi p2, vi p3, vi p4, vi 127, vi ((f4 p2 p3 p4) &&& (127 : Int32)), vi (-1)]) rfl (XS.iload X4.here hx rfl (hb hby d3_31) rfl (XS.ifNo X4.here hx rfl (hb hby d3_33) rfl ((if0 _ _).trans (tlt (by decide : (-1 : Int32) < (0 : Int32))).2.1) (XS.aloadN X4.here hx rfl (hb hby d3_36) rfl rfl k)))))) ?_
   obtain ⟨T165, X165, e165, st165⟩ := getF X4 hx hZ hown (host := "") (Or.inl (wd25 hw)) Via.refl e4 F_a1_size (g := (mkF m 37 #[vr a1, vi p2, vi p3, vi p4, vi 127, vi ((f4 p2 p3 p4) &&& (127 : Int32)), vi (-1)] [(.ref a1)])) rfl rfl (hb hby d3_37)
   refine G st165 ?_
   show Go _ _ _ (T165.setTop (mkF m 40 #[vr a1, vi p2, vi p3, vi p4, vi 127, vi ((f4 p2 p3 p4) &&& (127 : Int32)), vi (-1)] [(.int 2)])) _
   refine G (fun t k => XS.aloadN X165.here hx rfl (hb hby d3_40) rfl rfl k) ?_
   obtain ⟨T166, X166, e166, st166⟩ := getF X165 hx hZ hown (host := "") (Or.inl (wd10 hw)) Via.refl e165 F_a1_terms (g := (mkF m 41 #[vr a1, vi p2, vi p3, vi p4, vi 127, vi ((f4 p2 p3 p4) &&& (127 : Int32)), vi (-1)] [(.ref a1), (.int 2)])) rfl rfl (hb hby d3_41)
   refine G st166 ?_
   obtain ⟨cl167, Ar167, -, Sz167, Ng167, -, -⟩ := id V_T
   refine G (fun t k => X166.arraylength hx (by rw [e166]; exact Ar167.1) (State.isArrayOf_alike hZ.alike Ar167.2.1) (g := (mkF m 44 #[vr a1, vi p2, vi p3, vi p4, vi 127, vi ((f4 p2 p3 p4) &&& (127 : Int32)), vi (-1)] [(.ref w_T), (.int 2)])) rfl rfl (hb hby d3_44) _ k) ?_
   rw [len_of Sz167 Ng167]
   clear Ng167 Sz167 Ar167 cl167
   refine G (fun t k => XS.iconst X166.here hx rfl (hb hby d3_45) (XS.idiv X166.here hx rfl (hb hby d3_46) rfl (by decide) (XS.icmpYes X166.here hx rfl (pc0 := 47) (pc' := 68) rfl (hb hby d3_47) rfl (feq (by decide : ¬ ((2 : Int32) = (64 : Int32)))).2 (by decide) (by decide) (XS.aloadN X166.here hx rfl (hb hby d3_68) rfl rfl k)))) ?_
   show Go _ _ _ (T166.setTop (mkF m 69 #[vr a1, vi p2, vi p3, vi p4, vi 127, vi ((f4 p2 p3 p4) &&& (127 : Int32)), vi (-1)] [(.ref a1)])) _
   obtain ⟨T168, X168, e168, st168⟩ := getF X166 hx hZ hown (host := "") (Or.inl (wd10 hw)) Via.refl e166 F_a1_terms (g := (mkF m 69 #[vr a1, vi p2, vi p3, vi p4, vi 127, vi ((f4 p2 p3 p4) &&& (127 : Int32)), vi (-1)] [(.ref a1)])) rfl rfl (hb hby d3_69)
   refine G st168 ?_
   refine G (fun t k => XS.iconst X168.here hx rfl (hb hby d3_72) (XS.aloadN X168.here hx rfl (hb hby d3_73) rfl rfl k)) ?_
   obtain ⟨T169, X169, e169, st169⟩ := getF X168 hx hZ hown (host := "") (Or.inl (wd25 hw)) Via.refl e168 F_a1_size (g := (mkF m 74 #[vr a1, vi p2, vi p3, vi p4, vi 127, vi ((f4 p2 p3 p4) &&& (127 : Int32)), vi (-1)] [(.ref a1), (.int 3), (.ref w_T)])) rfl rfl (hb hby d3_74)
   refine G st169 ?_
   refine G (fun t k => XS.imul X169.here hx rfl (hb hby d3_77) rfl (XS.iloadN X169.here hx rfl (hb hby d3_78) rfl k)) ?_
   replace V_T : Arv Z h0 w_T k_T .int (192 : Int32) [(.int t0), (.int t1), (.int t2), (.int t3), (.int t4), (.int t5), (.int (0 : Int32))] (.int (0 : Int32)) := V_T.pad (pad_rep [(.int t0), (.int t1), (.int t2), (.int t3), (.int t4), (.int t5)] (.int (0 : Int32)) 1)
   obtain ⟨cl170, Ar170, qq170, Sz170, Ng170, Hs170, Gs170⟩ := id V_T
   have hin170 : ¬ ((6 : Int32) < 0 ∨ cl170.slots.size ≤ ((6 : Int32)).toNatClampNeg) := inb_of Sz170 ⟨by decide, by decide⟩
   obtain ⟨T171, h171, X171, e171, W171, st171⟩ := stI X169 hx hZ e169 Ar170 (j := (6 : Int32)) hin170 (g := (mkF m 79 #[vr a1, vi p2, vi p3, vi p4, vi 127, vi ((f4 p2 p3 p4) &&& (127 : Int32)), vi (-1)] [(.int p2), (.int 6), (.ref w_T)])) rfl rfl (hb hby d3_79)
   refine G st171 ?_
   have N171 := Fr.snoc X171 N3 g_w_T
   replace E_a1 := E_a1.wr W171
   replace F_a1_size := F_a1_size.other W171 (Or.inl (Ne.symm ne_w_T_a1))
   replace F_a1_terms := F_a1_terms.other W171 (Or.inl (Ne.symm ne_w_T_a1))
   replace F_a1_slots := F_a1_slots.other W171 (Or.inl (Ne.symm ne_w_T_a1))
   replace V_S := V_S.other W171 (Ne.symm ne_w_T_w_S)
   replace Z0 := Nat.le_trans Z0 (Nat.le_of_eq W171.size.symm)
   replace K0 := K0.wr W171 (Or.inl (by simp))
   replace V_T : Arv Z h171 w_T k_T .int (192 : Int32) [(.int t0), (.int t1), (.int t2), (.int t3), (.int t4), (.int t5), (.int p2)] (.int (0 : Int32)) := Arv.set Ar170 qq170 Sz170 Ng170 Hs170 Gs170 rfl W171 6 rfl (Nat.le_of_ble_eq_true rfl)
   clear hin170 Gs170 Hs170 Ng170 Sz170 qq170 Ar170 cl170
   show Go _ _ _ (T171.setTop (mkF m 80 #[vr a1, vi p2, vi p3, vi p4, vi 127, vi ((f4 p2 p3 p4) &&& (127 : Int32)), vi (-1)] [])) _
   refine G (fun t k => XS.aloadN X171.here hx rfl (hb hby d3_80) rfl rfl k) ?_
   obtain ⟨T172, X172, e172, st172⟩ := getF X171 hx hZ hown (host := "") (Or.inl (wd10 hw)) Via.refl e171 F_a1_terms (g := (mkF m 81 #[vr a1, vi p2, vi p3, vi p4, vi 127, vi ((f4 p2 p3 p4) &&& (127 : Int32)), vi (-1)] [(.ref a1)])) rfl rfl (hb hby d3_81)
   refine G st172 ?_
   refine G (fun t k => XS.iconst X172.here hx rfl (hb hby d3_84) (XS.aloadN X172.here hx rfl (hb hby d3_85) rfl rfl k)) ?_
   obtain ⟨T173, X173, e173, st173⟩ := getF X172 hx hZ hown (host := "") (Or.inl (wd25 hw)) Via.refl e172 F_a1_size (g := (mkF m 86 #[vr a1, vi p2, vi p3, vi p4, vi 127, vi ((f4 p2 p3 p4) &&& (127 : Int32)), vi (-1)] [(.ref a1), (.int 3), (.ref w_T)])) rfl rfl (hb hby d3_86)
   refine G st173 ?_
   refine G (fun t k => XS.imul X173.here hx rfl (hb hby d3_89) rfl (XS.iconst X173.here hx rfl (hb hby d3_90) k)) ?_
   show Go _ _ _ (T173.setTop (mkF m 91 #[vr a1, vi p2, vi p3, vi p4, vi 127, vi ((f4 p2 p3 p4) &&& (127 : Int32)), vi (-1)] [(.int 1), (.int 6), (.ref w_T)])) _
   refine G (fun t k => XS.iadd X173.here hx rfl (hb hby d3_91) rfl (XS.iloadN X173.here hx rfl (hb hby d3_92) rfl k)) ?_
   replace V_T : Arv Z h171 w_T k_T .int (192 : Int32) [(.int t0), (.int t1), (.int t2), (.int t3), (.int t4), (.int t5), (.int p2), (.int (0 : Int32))] (.int (0 : Int32)) := V_T.pad (pad_rep [(.int t0), (.int t1), (.int t2), (.int t3), (.int t4), (.int t5), (.int p2)] (.int (0 : Int32)) 1)
   obtain ⟨cl174, Ar174, qq174, Sz174, Ng174, Hs174, Gs174⟩ := id V_T
   have hin174 : ¬ ((7 : Int32) < 0 ∨ cl174.slots.size ≤ ((7 : Int32)).toNatClampNeg) := inb_of Sz174 ⟨by decide, by decide⟩
   obtain ⟨T175, h175, X175, e175, W175, st175⟩ := stI X173 hx hZ e173 Ar174 (j := (7 : Int32)) hin174 (g := (mkF m 93 #[vr a1, vi p2, vi p3, vi p4, vi 127, vi ((f4 p2 p3 p4) &&& (127 : Int32)), vi (-1)] [(.int p3), (.int 7), (.ref w_T)])) rfl rfl (hb hby d3_93)
   refine G st175 ?_
   have N175 := Fr.snoc X175 N171 g_w_T
   replace E_a1 := E_a1.wr W175
   replace F_a1_size := F_a1_size.other W175 (Or.inl (Ne.symm ne_w_T_a1))
   replace F_a1_terms := F_a1_terms.other W175 (Or.inl (Ne.symm ne_w_T_a1))
   replace F_a1_slots := F_a1_slots.other W175 (Or.inl (Ne.symm ne_w_T_a1))
   replace V_S := V_S.other W175 (Ne.symm ne_w_T_w_S)
   replace Z0 := Nat.le_trans Z0 (Nat.le_of_eq W175.size.symm)
   replace K0 := K0.wr W175 (Or.inl (by simp))
   replace V_T : Arv Z h175 w_T k_T .int (192 : Int32) [(.int t0), (.int t1), (.int t2), (.int t3), (.int t4), (.int t5), (.int p2), (.int p3)] (.int (0 : Int32)) := Arv.set Ar174 qq174 Sz174 Ng174 Hs174 Gs174 rfl W175 7 rfl (Nat.le_of_ble_eq_true rfl)
   clear hin174 Gs174 Hs174 Ng174 Sz174 qq174 Ar174 cl174
   refine G (fun t k => XS.aloadN X175.here hx rfl (hb hby d3_94) rfl rfl k) ?_
   obtain ⟨T176, X176, e176, st176⟩ := getF X175 hx hZ hown (host := "") (Or.inl (wd10 hw)) Via.refl e175 F_a1_terms (g := (mkF m 95 #[vr a1, vi p2, vi p3, vi p4, vi 127, vi ((f4 p2 p3 p4) &&& (127 : Int32)), vi (-1)] [(.ref a1)])) rfl rfl (hb hby d3_95)
   refine G st176 ?_
   refine G (fun t k => XS.iconst X176.here hx rfl (hb hby d3_98) (XS.aloadN X176.here hx rfl (hb hby d3_99) rfl rfl k)) ?_
   show Go _ _ _ (T176.setTop (mkF m 100 #[vr a1, vi p2, vi p3, vi p4, vi 127, vi ((f4 p2 p3 p4) &&& (127 : Int32)), vi (-1)] [(.ref a1), (.int 3), (.ref w_T)])) _
   obtain ⟨T177, X177, e177, st177⟩ := getF X176 hx hZ hown (host := "") (Or.inl (wd25 hw)) Via.refl e176 F_a1_size (g := (mkF m 100 #[vr a1, vi p2, vi p3, vi p4, vi 127, vi ((f4 p2 p3 p4) &&& (127 : Int32)), vi (-1)] [(.ref a1), (.int 3), (.ref w_T)])) rfl rfl (hb hby d3_100)
   refine G st177 ?_
   refine G (fun t k => XS.imul X177.here hx rfl (hb hby d3_103) rfl (XS.iconst X177.here hx rfl (hb hby d3_104) (XS.iadd X177.here hx rfl (hb hby d3_105) rfl (XS.iloadN X177.here hx rfl (hb hby d3_106) rfl k)))) ?_
   replace V_T : Arv Z h175 w_T k_T .int (192 : Int32) [(.int t0), (.int t1), (.int t2), (.int t3), (.int t4), (.int t5), (.int p2), (.int p3), (.int (0 : Int32))] (.int (0 : Int32)) := V_T.pad (pad_rep [(.int t0), (.int t1), (.int t2), (.int t3), (.int t4), (.int t5), (.int p2), (.int p3)] (.int (0 : Int32)) 1)
   obtain ⟨cl178, Ar178, qq178, Sz178, Ng178, Hs178, Gs178⟩ := id V_T
   have hin178 : ¬ ((8 : Int32) < 0 ∨ cl178.slots.size ≤ ((8 : Int32)).toNatClampNeg) := inb_of Sz178 ⟨by decide, by decide⟩
   obtain ⟨T179, h179, X179, e179, W179, st179⟩ := stI X177 hx hZ e177 Ar178 (j := (8 : Int32)) hin178 (g := (mkF m 107 #[vr a1, vi p2, vi p3, vi p4, vi 127, vi ((f4 p2 p3 p4) &&& (127 : Int32)), vi (-1)] [(.int p4), (.int 8), (.ref w_T)])) rfl rfl (hb hby d3_107)
   refine G st179 ?_
   have N179 := Fr.snoc X179 N175 g_w_T
   obtain ⟨LL179, X179, N179⟩ : ∃ LL, Stand p l e (Rm 1 0 0 16) s m #[(.ref a1), (.int p2), (.int p3), (.int p4)] below meth c T179 LL 0 0 ∧ Fr n0 LL := ⟨_, X179, N179⟩
   replace E_a1 := E_a1.wr W179
   replace F_a1_size := F_a1_size.other W179 (Or.inl (Ne.symm ne_w_T_a1))
   replace F_a1_terms := F_a1_terms.other W179 (Or.inl (Ne.symm ne_w_T_a1))
   replace F_a1_slots := F_a1_slots.other W179 (Or.inl (Ne.symm ne_w_T_a1))
   replace V_S := V_S.other W179 (Ne.symm ne_w_T_w_S)
   replace Z0 := Nat.le_trans Z0 (Nat.le_of_eq W179.size.symm)
   replace K0 := K0.wr W179 (Or.inl (by simp))
   replace V_T : Arv Z h179 w_T k_T .int (192 : Int32) [(.int t0), (.int t1), (.int t2), (.int t3), (.int t4), (.int t5), (.int p2), (.int p3), (.int p4)] (.int (0 : Int32)) := Arv.set Ar178 qq178 Sz178 Ng178 Hs178 Gs178 rfl W179 8 rfl (Nat.le_of_ble_eq_true rfl)
   clear hin178 Gs178 Hs178 Ng178 Sz178 qq178 Ar178 cl178
   refine G (fun t k => XS.aloadN X179.here hx rfl (hb hby d3_108) rfl rfl k) ?_
   show Go _ _ _ (T179.setTop (mkF m 109 #[vr a1, vi p2, vi p3, vi p4, vi 127, vi ((f4 p2 p3 p4) &&& (127 : Int32)), vi (-1)] [(.ref a1)])) _
   obtain ⟨T180, X180, e180, st180⟩ := getF X179 hx hZ hown (host := "") (Or.inl (wd12 hw)) Via.refl e179 F_a1_slots (g := (mkF m 109 #[vr a1, vi p2, vi p3, vi p4, vi 127, vi ((f4 p2 p3 p4) &&& (127 : Int32)), vi (-1)] [(.ref a1)])) rfl rfl (hb hby d3_109)
   refine G st180 ?_
   refine G (fun t k => XS.iload X180.here hx rfl (hb hby d3_112) rfl (XS.aloadN X180.here hx rfl (hb hby d3_114) rfl rfl (XS.dup X180.here hx rfl (hb hby d3_115) rfl rfl k))) ?_
   obtain ⟨T181, X181, e181, st181⟩ := getF X180 hx hZ hown (host := "") (Or.inl (wd25 hw)) Via.refl e180 F_a1_size (g := (mkF m 116 #[vr a1, vi p2, vi p3, vi p4, vi 127, vi ((f4 p2 p3 p4) &&& (127 : Int32)), vi (-1)] [(.ref a1), (.ref a1), (.int ((f4 p2 p3 p4) &&& (127 : Int32))), (.ref w_S)])) rfl rfl (hb hby d3_116)
   refine G st181 ?_
   refine G (fun t k => XS.iconst X181.here hx rfl (hb hby d3_119) (XS.iadd X181.here hx rfl (hb hby d3_120) rfl k)) ?_
   show Go _ _ _ (T181.setTop (mkF m 121 #[vr a1, vi p2, vi p3, vi p4, vi 127, vi ((f4 p2 p3 p4) &&& (127 : Int32)), vi (-1)] [(.int 3), (.ref a1), (.int ((f4 p2 p3 p4) &&& (127 : Int32))), (.ref w_S)])) _
   refine G (fun t k => XS.dupX1 X181.here hx rfl (hb hby d3_121) rfl rfl rfl k) ?_
   obtain ⟨T182, h182, X182, e182, W182, st182⟩ := putF X181 hx hZ hown (host := "") (Or.inl (wd25 hw)) Via.refl e181 F_a1_size E_a1 (Or.inl (wd26 hw)) (wd2 hw) (ty := .int) (by decide) rfl rfl (g := (mkF m 122 #[vr a1, vi p2, vi p3, vi p4, vi 127, vi ((f4 p2 p3 p4) &&& (127 : Int32)), vi (-1)] [(.int 3), (.ref a1), (.int 3), (.int ((f4 p2 p3 p4) &&& (127 : Int32))), (.ref w_S)])) rfl rfl (hb hby d3_122)
   refine G st182 ?_
   have N182 := Fr.snoc X182 N179 g_a1
   replace E_a1 := E_a1.wr W182
   replace F_a1_size := F_a1_size.same W182
   replace F_a1_terms := F_a1_terms.other W182 (sn4 hw)
   replace F_a1_slots := F_a1_slots.other W182 (sn5 hw)
   replace V_T := V_T.other W182 ne_w_T_a1
   replace V_S := V_S.other W182 ne_w_S_a1
   replace Z0 := Nat.le_trans Z0 (Nat.le_of_eq W182.size.symm)
   replace K0 := K0.wr W182 (Or.inl (by simp))
   obtain ⟨cl183, Ar183, qq183, Sz183, Ng183, Hs183, Gs183⟩ := id V_S
   have hin183 : ¬ (((f4 p2 p3 p4) &&& (127 : Int32)) < 0 ∨ cl183.slots.size ≤ (((f4 p2 p3 p4) &&& (127 : Int32))).toNatClampNeg) := inb_of Sz183 (own_127 (f4 p2 p3 p4))
   obtain ⟨T184, h184, X184, e184, W184, st184⟩ := stI X182 hx hZ e182 Ar183 (j := ((f4 p2 p3 p4) &&& (127 : Int32))) hin183 (g := (mkF m 125 #[vr a1, vi p2, vi p3, vi p4, vi 127, vi ((f4 p2 p3 p4) &&& (127 : Int32)), vi (-1)] [(.int 3), (.int ((f4 p2 p3 p4) &&& (127 : Int32))), (.ref w_S)])) rfl rfl (hb hby d3_125)
   refine G st184 ?_
   have N184 := Fr.snoc X184 N182 g_w_S
   replace E_a1 := E_a1.wr W184
   replace F_a1_size := F_a1_size.other W184 (Or.inl (Ne.symm ne_w_S_a1))
   replace F_a1_terms := F_a1_terms.other W184 (Or.inl (Ne.symm ne_w_S_a1))
   replace F_a1_slots := F_a1_slots.other W184 (Or.inl (Ne.symm ne_w_S_a1))
   replace V_T := V_T.other W184 ne_w_T_w_S
   replace Z0 := Nat.le_trans Z0 (Nat.le_of_eq W184.size.symm)
   replace K0 := K0.wr W184 (Or.inl (by simp))
   replace V_S : Arh Z h184 w_S k_S .int (128 : Int32) [(((f4 p2 p3 p4) &&& (127 : Int32)), (.int (3 : Int32))), (i2, (.int (2 : Int32))), (i1, (.int (1 : Int32)))] [] (.int (0 : Int32)) := Arh.push Ar183 qq183 Sz183 Ng183 Hs183 Gs183 rfl W184 hin183
   show Go _ _ _ (T184.setTop (mkF m 126 #[vr a1, vi p2, vi p3, vi p4, vi 127, vi ((f4 p2 p3 p4) &&& (127 : Int32)), vi (-1)] [])) _
   refine G (fun t k => XS.iconst X184.here hx rfl (hb hby d3_126) (XS.aloadN X184.here hx rfl (hb hby d3_127) rfl rfl k)) ?_
   obtain ⟨T185, X185, e185, st185⟩ := getF X184 hx hZ hown (host := "") (Or.inl (wd25 hw)) Via.refl e184 F_a1_size (g := (mkF m 128 #[vr a1, vi p2, vi p3, vi p4, vi 127, vi ((f4 p2 p3 p4) &&& (127 : Int32)), vi (-1)] [(.ref a1), (.int 2)])) rfl rfl (hb hby d3_128)
   refine G st185 ?_
   refine G (fun t k => XS.imul X185.here hx rfl (hb hby d3_131) rfl (XS.aloadN X185.here hx rfl (hb hby d3_132) rfl rfl k)) ?_
   obtain ⟨T186, X186, e186, st186⟩ := getF X185 hx hZ hown (host := "") (Or.inl (wd12 hw)) Via.refl e185 F_a1_slots (g := (mkF m 133 #[vr a1, vi p2, vi p3, vi p4, vi 127, vi ((f4 p2 p3 p4) &&& (127 : Int32)), vi (-1)] [(.ref a1), (.int 6)])) rfl rfl (hb hby d3_133)
   refine G st186 ?_
   obtain ⟨cl187, Ar187, -, Sz187, Ng187, -, -⟩ := id V_S
   refine G (fun t k => X186.arraylength hx (by rw [e186]; exact Ar187.1) (State.isArrayOf_alike hZ.alike Ar187.2.1) (g := (mkF m 136 #[vr a1, vi p2, vi p3, vi p4, vi 127, vi ((f4 p2 p3 p4) &&& (127 : Int32)), vi (-1)] [(.ref w_S), (.int 6)])) rfl rfl (hb hby d3_136) _ k) ?_
   rw [len_of Sz187 Ng187]
   clear Ng187 Sz187 Ar187 cl187
   show Go _ _ _ (T186.setTop (mkF m 137 #[vr a1, vi p2, vi p3, vi p4, vi 127, vi ((f4 p2 p3 p4) &&& (127 : Int32)), vi (-1)] [(.int 128), (.int 6)])) _
   refine G (fun t k => XS.icmpYes X186.here hx rfl (pc0 := 137) (pc' := 151) rfl (hb hby d3_137) rfl (flt (by decide : ¬ ((128 : Int32) < (6 : Int32)))).2.2.2 (by decide) (by decide) (XS.iconst X186.here hx rfl (hb hby d3_151) k)) ?_
   obtain ⟨fs, hr, hrun, hended, hW, hsame⟩ := X186.leave (v := some (.int (1 : Int32))) (fun h => by rw [Bd.returns] at h; cases h)
   refine Go.fin (retN X186 hx (t := .boolean) Bd.returns (by simp) (hb hby d3_152) hr) hrun hended ⟨_, _, rfl, ?_, ⟨_, rfl⟩, hW, hsame.mono (by decide) (by decide)⟩
   show Q3n2 Z a1 p2 p3 p4 w_T w_S k_T k_S t0 t1 t2 t3 t4 t5 i1 i2 h0 n0 _ T186.heap _
   rw [e186]
   exact ⟨rfl, N184, K0, E_a1, F_a1_size, F_a1_terms, F_a1_slots, V_T, (by unfold f3n2_w_S_i0; simp only [if_neg hc6, if_neg hc85]; exact V_S)⟩
def Q3d21 (Z : State) (a1 : Addr) (p2 : Int32) (p3 : Int32) (p4 : Int32) (w_T : Addr) (w_S : Addr) (k_T : ClassId) (k_S : ClassId) (t0 : Int32) (t1 : Int32) (t2 : Int32) (t3 : Int32) (t4 : Int32) (t5 : Int32) (i1 : Int32) (i2 : Int32) (h0 : Heap) (n0 : Nat) (v : Option Value) (h : Heap) (L : List Loc) : Prop := v = some (.int (0 : Int32)) ∧ Fr n0 L ∧ h = h0
theorem ef3d21 (m : MethodId) (x0 : Addr) (x1 : Int32) (x2 : Int32) (x3 : Int32) : entryFrame m #[(.ref x0), (.int x1), (.int x2), (.int x3)] 7 = mkF m 0 #[.val (.ref x0), .val (.int x1), .val (.int x2), .val (.int x3), .unset, .unset, .unset] [] := by first | (simp [entryFrame, mkF, argsToLocals, Value.category]; done) | rfl
theorem rm3d21 (l : Launch) (Z : State) (a0 : Array Value) (hw : HW a0 Z) (ws : List Jvm.Cond) (a1 : Addr) (p2 : Int32) (p3 : Int32) (p4 : Int32) (w_T : Addr) (w_S : Addr) (k_T : ClassId) (k_S : ClassId) (t0 : Int32) (t1 : Int32) (t2 : Int32) (t3 : Int32) (t4 : Int32) (t5 : Int32) (i1 : Int32) (i2 : Int32) (h0 : Heap) (n0 : Nat) (Z0 : n0 ≤ h0.size) (E_a1 : Exa Z h0 a1 TC) (F_a1_size : Fld Z h0 a1 TC "size" "I" (.int (2 : Int32))) (F_a1_terms : Fld Z h0 a1 TC "terms" "[I" (.ref w_T)) (F_a1_slots : Fld Z h0 a1 TC "slots" "[I" (.ref w_S)) (V_T : Arv Z h0 w_T k_T .int (192 : Int32) [(.int t0), (.int t1), (.int t2), (.int t3), (.int t4), (.int t5)] (.int (0 : Int32))) (V_S : Arh Z h0 w_S k_S .int (128 : Int32) [(i2, (.int (2 : Int32))), (i1, (.int (1 : Int32)))] [] (.int (0 : Int32))) (ne_w_T_a1 : w_T ≠ a1) (ne_w_S_a1 : w_S ≠ a1) (ne_w_T_w_S : w_T ≠ w_S) (heq1 : t0 = p2 ∧ t1 = p3 ∧ t2 = p4) (hd : ¬ i2 = i1) (hr : ((f4 p2 p3 p4) &&& (127 : Int32)) = i1) :
  MetFree l (⟨TC, "add", "(III)Z"⟩ : MethodName) (head1 (Jvm.Cond.code (⟨TC, "add", "(III)Z"⟩ : MethodName) cB3 7 (some .boolean) :: ws) (Rm 1 0 0 16)) (Pr Z h0 #[(.ref a1), (.int p2), (.int p3), (.int p4)]) Tr (fun _ U o U' => ∃ v L, o = .returned v ∧ Q3d21 Z a1 p2 p3 p4 w_T w_S k_T k_S t0 t1 t2 t3 t4 t5 i1 i2 h0 n0 v U'.heap L ∧ FrameEnd U o U' L (Rm 1 0 0 16).cells (Rm 1 0 0 16).slots) := by
 refine MetFree.of_bodySF (plainFor_of_name pn0) hisR ?_
 intro p e s m args below meth c s₁ Bd hml0 hP hK
 obtain ⟨rfl, hZ, hh⟩ := hP
 have hx := Bd.exec
 have hby := Bd.bytes
 have hml : c.maxLocals = 7 := hml0
 have hown : s.vm.findClass TC = some m.cls := findClass_of_methodNamed Bd.named
 have hnm := (name_of_methodNamed Bd.named Bd.method).1
 have X0 : Stand p l e (Rm 1 0 0 16) s m #[(.ref a1), (.int p2), (.int p3), (.int p4)] below meth c s₁ [] 0 0 := Stand.of_body Bd
 have e0 : s₁.heap = h0 := by rw [← hh, Bd.state]; rfl
 have N0 := Fr.nil n0
 have K0 : Keep h0 h0 [] := Keep.refl h0 _
 refine G (P := fun o U' => ∃ v L, o = .returned v ∧ Q3d21 Z a1 p2 p3 p4 w_T w_S k_T k_S t0 t1 t2 t3 t4 t5 i1 i2 h0 n0 v U'.heap L ∧ FrameEnd s o U' L (Rm 1 0 0 16).cells (Rm 1 0 0 16).slots) (fun t k => castTop (ef3d21 m a1 p2 p3 p4) k) ?_
 show Go _ _ _ (s₁.setTop (mkF m 0 #[vr a1, vi p2, vi p3, vi p4, us, us, us] [])) _
 refine G (fun t k => XS.aloadN X0.here hx rfl (hb hby d3_0) rfl rfl k) ?_
 obtain ⟨T1, X1, e1, st1⟩ := getF X0 hx hZ hown (host := "") (Or.inl (wd12 hw)) Via.refl e0 F_a1_slots (g := (mkF m 1 #[vr a1, vi p2, vi p3, vi p4, us, us, us] [(.ref a1)])) rfl rfl (hb hby d3_1)
 refine G st1 ?_
 obtain ⟨cl2, Ar2, -, Sz2, Ng2, -, -⟩ := id V_S
 refine G (fun t k => X1.arraylength hx (by rw [e1]; exact Ar2.1) (State.isArrayOf_alike hZ.alike Ar2.2.1) (g := (mkF m 4 #[vr a1, vi p2, vi p3, vi p4, us, us, us] [(.ref w_S)])) rfl rfl (hb hby d3_4) _ k) ?_
 rw [len_of Sz2 Ng2]
 clear Ng2 Sz2 Ar2 cl2
 refine G (fun t k => XS.iconst X1.here hx rfl (hb hby d3_5) (XS.isub X1.here hx rfl (hb hby d3_6) rfl (XS.istore X1.here hx rfl (hb hby d3_7) rfl (l' := #[vr a1, vi p2, vi p3, vi p4, vi 127, us, us]) rfl (XS.iloadN X1.here hx rfl (hb hby d3_9) rfl k)))) ?_
 show Go _ _ _ (T1.setTop (mkF m 10 #[vr a1, vi p2, vi p3, vi p4, vi 127, us, us] [(.int p2)])) _
 refine G (fun t k => XS.iloadN X1.here hx rfl (hb hby d3_10) rfl (XS.iloadN X1.here hx rfl (hb hby d3_11) rfl k)) ?_
 obtain ⟨_, _, ⟨T3, L3, k3, n3⟩, -, X3, ⟨Lc3, hQ3, l3, y3, z3⟩, st3⟩ := Jvm.LawKit.callS X1 hx (y := (⟨TC, "hash", "(III)I"⟩ : MethodName)) hown (mvT hZ (wd19 hw)) (mvT hZ (wd20 hw)) (mvT hZ (wd3 hw)) (mvT hZ (wd21 hw)) (by decide) (backOf (W := 0) (rm4 l Z a0 hw [] p2 p3 p4 h0 n0 Z0) hZ (wd21 hw) (wd3 hw) (by decide) (by decide)) (g := (mkF m 12 #[vr a1, vi p2, vi p3, vi p4, vi 127, us, us] [(.int p4), (.int p3), (.int p2)])) rfl (by rw [hml]; rfl) (argsL := [(.int p2), (.int p3), (.int p4)]) (rest := []) (lenOf pd0 rfl) rfl (by show 2 * 0 + _ ≤ _; exact Nat.le_of_eq rfl) (hb hby d3_12) (fun _ _ => ⟨rfl, e1, (by decide : 0 + 0 ≤ _), (by decide : 0 + 0 ≤ _)⟩)
 dsimp only [Pt.U, Pt.locs, Pt.cells, Pt.slots] at X3 l3 y3 z3 st3 hQ3
 subst l3 y3 z3
 refine G st3 ?_
 obtain ⟨rfl, N3q, e3⟩ := hQ3
 have N3 := Fr.app N0 N3q
 refine G (fun t k => XS.iload X3.here hx rfl (hb hby d3_15) rfl (XS.iand X3.here hx rfl (hb hby d3_17) rfl (XS.istore X3.here hx rfl (hb hby d3_18) rfl (l' := #[vr a1, vi p2, vi p3, vi p4, vi 127, vi ((f4 p2 p3 p4) &&& (127 : Int32)), us]) rfl k))) ?_
 show Go _ _ _ (T3.setTop (mkF m 20 #[vr a1, vi p2, vi p3, vi p4, vi 127, vi ((f4 p2 p3 p4) &&& (127 : Int32)), us] [])) _
 refine G (fun t k => XS.aloadN X3.here hx rfl (hb hby d3_20) rfl rfl k) ?_
 obtain ⟨T4, X4, e4, st4⟩ := getF X3 hx hZ hown (host := "") (Or.inl (wd12 hw)) Via.refl e3 F_a1_slots (g := (mkF m 21 #[vr a1, vi p2, vi p3, vi p4, vi 127, vi ((f4 p2 p3 p4) &&& (127 : Int32)), us] [(.ref a1)])) rfl rfl (hb hby d3_21)
 refine G st4 ?_
 refine G (fun t k => XS.iload X4.here hx rfl (hb hby d3_24) rfl k) ?_
 have hf6 : ¬ (((f4 p2 p3 p4) &&& (127 : Int32)) = i2) := fun z => hd (z.symm.trans hr)
 have hf7 : ((f4 p2 p3 p4) &&& (127 : Int32)) = i1 := hr
 obtain ⟨cl8, Ar8, -, Sz8, Ng8, Hs8, -⟩ := id V_S
 have hin8 : ¬ (((f4 p2 p3 p4) &&& (127 : Int32)) < 0 ∨ cl8.slots.size ≤ (((f4 p2 p3 p4) &&& (127 : Int32))).toNatClampNeg) := inb_of Sz8 (own_127 (f4 p2 p3 p4))
 refine G (fun t k => X4.iaload hx (j := ((f4 p2 p3 p4) &&& (127 : Int32))) (v := (.int (1 : Int32))) (by rw [e4]; exact Ar8.1) (State.isArrayOf_alike hZ.alike Ar8.2.1) Ar8.2.2 hin8 (atH Hs8 hin8 (getH_miss ((own_127 (f4 p2 p3 p4))).1 hf6 (getH_hit ((own_127 (f4 p2 p3 p4))).1 hf7))) (g := (mkF m 26 #[vr a1, vi p2, vi p3, vi p4, vi 127, vi ((f4 p2 p3 p4) &&& (127 : Int32)), us] [(.int ((f4 p2 p3 p4) &&& (127 : Int32))), (.ref w_S)])) rfl rfl (hb hby d3_26) _ k) ?_
 show Go _ _ _ (T4.setTop (mkF m 27 #[vr a1, vi p2, vi p3, vi p4, vi 127, vi ((f4 p2 p3 p4) &&& (127 : Int32)), us] [(.int 1)])) _
 refine G (fun t k => XS.iconst X4.here hx rfl (hb hby d3_27) (XS.isub X4.here hx rfl (hb hby d3_28) rfl (XS.istore X4.here hx rfl (hb hby d3_29) rfl (l' := #[vr a1, vi p2, vi p3, vi p4, vi 127, vi ((f4 p2 p3 p4) &&& (127 : Int32)), vi 0]) rfl (XS.iload X4.here hx rfl (hb hby d3_31) rfl (XS.ifYes X4.here hx rfl (pc0 := 33) (pc' := 153) rfl (hb hby d3_33) rfl ((if0 _ _).trans (flt (by decide : ¬ ((0 : Int32) < (0 : Int32)))).2.1) (by decide) (by decide) k))))) ?_
 show Go _ _ _ (T4.setTop (mkF m 153 #[vr a1, vi p2, vi p3, vi p4, vi 127, vi ((f4 p2 p3 p4) &&& (127 : Int32)), vi 0] [])) _
 refine G (fun t k => XS.aloadN X4.here hx rfl (hb hby d3_153) rfl rfl k) ?_
 obtain ⟨T9, X9, e9, st9⟩ := getF X4 hx hZ hown (host := "") (Or.inl (wd10 hw)) Via.refl e4 F_a1_terms (g := (mkF m 154 #[vr a1, vi p2, vi p3, vi p4, vi 127, vi ((f4 p2 p3 p4) &&& (127 : Int32)), vi 0] [(.ref a1)])) rfl rfl (hb hby d3_154)
 refine G st9 ?_
 refine G (fun t k => XS.iconst X9.here hx rfl (hb hby d3_157) (XS.iload X9.here hx rfl (hb hby d3_158) rfl (XS.imul X9.here hx rfl (hb hby d3_160) rfl k))) ?_
 obtain ⟨cl10, Ar10, -, Sz10, Ng10, Hs10, -⟩ := id V_T
 have hin10 : ¬ ((0 : Int32) < 0 ∨ cl10.slots.size ≤ ((0 : Int32)).toNatClampNeg) := inb_of Sz10 ⟨by decide, by decide⟩
 refine G (fun t k => X9.iaload hx (j := (0 : Int32)) (v := (.int t0)) (by rw [e9]; exact Ar10.1) (State.isArrayOf_alike hZ.alike Ar10.2.1) Ar10.2.2 hin10 (Has.at Hs10 hin10 rfl) (g := (mkF m 161 #[vr a1, vi p2, vi p3, vi p4, vi 127, vi ((f4 p2 p3 p4) &&& (127 : Int32)), vi 0] [(.int 0), (.ref w_T)])) rfl rfl (hb hby d3_161) _ k) ?_
 clear hin10 Hs10 Ng10 Sz10 Ar10 cl10
 refine G (fun t k => XS.iloadN X9.here hx rfl (hb hby d3_162) rfl k) ?_
 show Go _ _ _ (T9.setTop (mkF m 163 #[vr a1, vi p2, vi p3, vi p4, vi 127, vi ((f4 p2 p3 p4) &&& (127 : Int32)), vi 0] [(.int p2), (.int t0)])) _
 have hf11 : t0 = p2 := heq1.1
 refine G (fun t k => XS.icmpNo X9.here hx rfl (hb hby d3_163) rfl (teq hf11).2 (XS.aloadN X9.here hx rfl (hb hby d3_166) rfl rfl k)) ?_
 obtain ⟨T12, X12, e12, st12⟩ := getF X9 hx hZ hown (host := "") (Or.inl (wd10 hw)) Via.refl e9 F_a1_terms (g := (mkF m 167 #[vr a1, vi p2, vi p3, vi p4, vi 127, vi ((f4 p2 p3 p4) &&& (127 : Int32)), vi 0] [(.ref a1)])) rfl rfl (hb hby d3_167)
 refine G st12 ?_
 refine G (fun t k => XS.iconst X12.here hx rfl (hb hby d3_170) (XS.iload X12.here hx rfl (hb hby d3_171) rfl (XS.imul X12.here hx rfl (hb hby d3_173) rfl (XS.iconst X12.here hx rfl (hb hby d3_174) k)))) ?_
 show Go _ _ _ (T12.setTop (mkF m 175 #[vr a1, vi p2, vi p3, vi p4, vi 127, vi ((f4 p2 p3 p4) &&& (127 : Int32)), vi 0] [(.int 1), (.int 0), (.ref w_T)])) _
 refine G (fun t k => XS.iadd X12.here hx rfl (hb hby d3_175) rfl k) ?_
 obtain ⟨cl13, Ar13, -, Sz13, Ng13, Hs13, -⟩ := id V_T
 have hin13 : ¬ ((1 : Int32) < 0 ∨ cl13.slots.size ≤ ((1 : Int32)).toNatClampNeg) := inb_of Sz13 ⟨by decide, by decide⟩
 refine G (fun t k => X12.iaload hx (j := (1 : Int32)) (v := (.int t1)) (by rw [e12]; exact Ar13.1) (State.isArrayOf_alike hZ.alike Ar13.2.1) Ar13.2.2 hin13 (Has.at Hs13 hin13 rfl) (g := (mkF m 176 #[vr a1, vi p2, vi p3, vi p4, vi 127, vi ((f4 p2 p3 p4) &&& (127 : Int32)), vi 0] [(.int 1), (.ref w_T)])) rfl rfl (hb hby d3_176) _ k) ?_
 clear hin13 Hs13 Ng13 Sz13 Ar13 cl13
 refine G (fun t k => XS.iloadN X12.here hx rfl (hb hby d3_177) rfl k) ?_
 have hf14 : t1 = p3 := heq1.2.1
 refine G (fun t k => XS.icmpNo X12.here hx rfl (hb hby d3_178) rfl (teq hf14).2 (XS.aloadN X12.here hx rfl (hb hby d3_181) rfl rfl k)) ?_
 obtain ⟨T15, X15, e15, st15⟩ := getF X12 hx hZ hown (host := "") (Or.inl (wd10 hw)) Via.refl e12 F_a1_terms (g := (mkF m 182 #[vr a1, vi p2, vi p3, vi p4, vi 127, vi ((f4 p2 p3 p4) &&& (127 : Int32)), vi 0] [(.ref a1)])) rfl rfl (hb hby d3_182)
 refine G st15 ?_
 refine G (fun t k => XS.iconst X15.here hx rfl (hb hby d3_185) k) ?_
 show Go _ _ _ (T15.setTop (mkF m 186 #[vr a1, vi p2, vi p3, vi p4, vi 127, vi ((f4 p2 p3 p4) &&& (127 : Int32)), vi 0] [(.int 3), (.ref w_T)])) _
 refine G (fun t k => XS.iload X15.here hx rfl (hb hby d3_186) rfl (XS.imul X15.here hx rfl (hb hby d3_188) rfl (XS.iconst X15.here hx rfl (hb hby d3_189) (XS.iadd X15.here hx rfl (hb hby d3_190) rfl k)))) ?_
 obtain ⟨cl16, Ar16, -, Sz16, Ng16, Hs16, -⟩ := id V_T
 have hin16 : ¬ ((2 : Int32) < 0 ∨ cl16.slots.size ≤ ((2 : Int32)).toNatClampNeg) := inb_of Sz16 ⟨by decide, by decide⟩
 refine G (fun t k => X15.iaload hx (j := (2 : Int32)) (v := (.int t2)) (by rw [e15]; exact Ar16.1) (State.isArrayOf_alike hZ.alike Ar16.2.1) Ar16.2.2 hin16 (Has.at Hs16 hin16 rfl) (g := (mkF m 191 #[vr a1, vi p2, vi p3, vi p4, vi 127, vi ((f4 p2 p3 p4) &&& (127 : Int32)), vi 0] [(.int 2), (.ref w_T)])) rfl rfl (hb hby d3_191) _ k) ?_
 clear hin16 Hs16 Ng16 Sz16 Ar16 cl16
 refine G (fun t k => XS.iloadN X15.here hx rfl (hb hby d3_192) rfl k) ?_
 have hf17 : t2 = p4 := heq1.2.2
 refine G (fun t k => XS.icmpNo X15.here hx rfl (hb hby d3_193) rfl (teq hf17).2 k) ?_
 show Go _ _ _ (T15.setTop (mkF m 196 #[vr a1, vi p2, vi p3, vi p4, vi 127, vi ((f4 p2 p3 p4) &&& (127 : Int32)), vi 0] [])) _
 refine G (fun t k => XS.iconst X15.here hx rfl (hb hby d3_196) k) ?_
 obtain ⟨fs, hr, hrun, hended, hW, hsame⟩ := X15.leave (v := some (.int (0 : Int32))) (fun h => by rw [Bd.returns] at h; cases h)
 refine Go.fin (retN X15 hx (t := .boolean) Bd.returns (by simp) (hb hby d3_197) hr) hrun hended ⟨_, _, rfl, ?_, ⟨_, rfl⟩, hW, hsame.mono (by decide) (by decide)⟩
 show Q3d21 Z a1 p2 p3 p4 w_T w_S k_T k_S t0 t1 t2 t3 t4 t5 i1 i2 h0 n0 _ T15.heap _
 rw [e15]
 exact ⟨rfl, N3, rfl⟩
def Q3d22 (Z : State) (a1 : Addr) (p2 : Int32) (p3 : Int32) (p4 : Int32) (w_T : Addr) (w_S : Addr) (k_T : ClassId) (k_S : ClassId) (t0 : Int32) (t1 : Int32) (t2 : Int32) (t3 : Int32) (t4 : Int32) (t5 : Int32) (i1 : Int32) (i2 : Int32) (h0 : Heap) (n0 : Nat) (v : Option Value) (h : Heap) (L : List Loc) : Prop := v = some (.int (0 : Int32)) ∧ Fr n0 L ∧ h = h0
theorem ef3d22 (m : MethodId) (x0 : Addr) (x1 : Int32) (x2 : Int32) (x3 : Int32) : entryFrame m #[(.ref x0), (.int x1), (.int x2), (.int x3)] 7 = mkF m 0 #[.val (.ref x0), .val (.int x1), .val (.int x2), .val (.int x3), .unset, .unset, .unset] [] := by first | (simp [entryFrame, mkF, argsToLocals, Value.category]; done) | rfl
theorem rm3d22 (l : Launch) (Z : State) (a0 : Array Value) (hw : HW a0 Z) (ws : List Jvm.Cond) (a1 : Addr) (p2 : Int32) (p3 : Int32) (p4 : Int32) (w_T : Addr) (w_S : Addr) (k_T : ClassId) (k_S : ClassId) (t0 : Int32) (t1 : Int32) (t2 : Int32) (t3 : Int32) (t4 : Int32) (t5 : Int32) (i1 : Int32) (i2 : Int32) (h0 : Heap) (n0 : Nat) (Z0 : n0 ≤ h0.size) (E_a1 : Exa Z h0 a1 TC) (F_a1_size : Fld Z h0 a1 TC "size" "I" (.int (2 : Int32))) (F_a1_terms : Fld Z h0 a1 TC "terms" "[I" (.ref w_T)) (F_a1_slots : Fld Z h0 a1 TC "slots" "[I" (.ref w_S)) (V_T : Arv Z h0 w_T k_T .int (192 : Int32) [(.int t0), (.int t1), (.int t2), (.int t3), (.int t4), (.int t5)] (.int (0 : Int32))) (V_S : Arh Z h0 w_S k_S .int (128 : Int32) [(i2, (.int (2 : Int32))), (i1, (.int (1 : Int32)))] [] (.int (0 : Int32))) (ne_w_T_a1 : w_T ≠ a1) (ne_w_S_a1 : w_S ≠ a1) (ne_w_T_w_S : w_T ≠ w_S) (heq2 : t3 = p2 ∧ t4 = p3 ∧ t5 = p4) (hd : ¬ i2 = i1) (hne1 : ¬ (t0 = p2 ∧ t1 = p3 ∧ t2 = p4)) (hr1 : ((f4 p2 p3 p4) &&& (127 : Int32)) = i1 → i2 = ((((f4 p2 p3 p4) &&& (127 : Int32)) + (1 : Int32)) &&& (127 : Int32))) (hr0 : ¬ ((f4 p2 p3 p4) &&& (127 : Int32)) = i1 → i2 = ((f4 p2 p3 p4) &&& (127 : Int32))) :
  MetFree l (⟨TC, "add", "(III)Z"⟩ : MethodName) (head1 (Jvm.Cond.code (⟨TC, "add", "(III)Z"⟩ : MethodName) cB3 7 (some .boolean) :: ws) (Rm 1 0 0 16)) (Pr Z h0 #[(.ref a1), (.int p2), (.int p3), (.int p4)]) Tr (fun _ U o U' => ∃ v L, o = .returned v ∧ Q3d22 Z a1 p2 p3 p4 w_T w_S k_T k_S t0 t1 t2 t3 t4 t5 i1 i2 h0 n0 v U'.heap L ∧ FrameEnd U o U' L (Rm 1 0 0 16).cells (Rm 1 0 0 16).slots) := by
 refine MetFree.of_bodySF (plainFor_of_name pn0) hisR ?_
 intro p e s m args below meth c s₁ Bd hml0 hP hK
 obtain ⟨rfl, hZ, hh⟩ := hP
 have hx := Bd.exec
 have hby := Bd.bytes
 have hml : c.maxLocals = 7 := hml0
 have hown : s.vm.findClass TC = some m.cls := findClass_of_methodNamed Bd.named
 have hnm := (name_of_methodNamed Bd.named Bd.method).1
 have X0 : Stand p l e (Rm 1 0 0 16) s m #[(.ref a1), (.int p2), (.int p3), (.int p4)] below meth c s₁ [] 0 0 := Stand.of_body Bd
 have e0 : s₁.heap = h0 := by rw [← hh, Bd.state]; rfl
 have N0 := Fr.nil n0
 have K0 : Keep h0 h0 [] := Keep.refl h0 _
 refine G (P := fun o U' => ∃ v L, o = .returned v ∧ Q3d22 Z a1 p2 p3 p4 w_T w_S k_T k_S t0 t1 t2 t3 t4 t5 i1 i2 h0 n0 v U'.heap L ∧ FrameEnd s o U' L (Rm 1 0 0 16).cells (Rm 1 0 0 16).slots) (fun t k => castTop (ef3d22 m a1 p2 p3 p4) k) ?_
 show Go _ _ _ (s₁.setTop (mkF m 0 #[vr a1, vi p2, vi p3, vi p4, us, us, us] [])) _
 refine G (fun t k => XS.aloadN X0.here hx rfl (hb hby d3_0) rfl rfl k) ?_
 obtain ⟨T1, X1, e1, st1⟩ := getF X0 hx hZ hown (host := "") (Or.inl (wd12 hw)) Via.refl e0 F_a1_slots (g := (mkF m 1 #[vr a1, vi p2, vi p3, vi p4, us, us, us] [(.ref a1)])) rfl rfl (hb hby d3_1)
 refine G st1 ?_
 obtain ⟨cl2, Ar2, -, Sz2, Ng2, -, -⟩ := id V_S
 refine G (fun t k => X1.arraylength hx (by rw [e1]; exact Ar2.1) (State.isArrayOf_alike hZ.alike Ar2.2.1) (g := (mkF m 4 #[vr a1, vi p2, vi p3, vi p4, us, us, us] [(.ref w_S)])) rfl rfl (hb hby d3_4) _ k) ?_
 rw [len_of Sz2 Ng2]
 clear Ng2 Sz2 Ar2 cl2
 refine G (fun t k => XS.iconst X1.here hx rfl (hb hby d3_5) (XS.isub X1.here hx rfl (hb hby d3_6) rfl (XS.istore X1.here hx rfl (hb hby d3_7) rfl (l' := #[vr a1, vi p2, vi p3, vi p4, vi 127, us, us]) rfl (XS.iloadN X1.here hx rfl (hb hby d3_9) rfl k)))) ?_
 show Go _ _ _ (T1.setTop (mkF m 10 #[vr a1, vi p2, vi p3, vi p4, vi 127, us, us] [(.int p2)])) _
 refine G (fun t k => XS.iloadN X1.here hx rfl (hb hby d3_10) rfl (XS.iloadN X1.here hx rfl (hb hby d3_11) rfl k)) ?_
 obtain ⟨_, _, ⟨T3, L3, k3, n3⟩, -, X3, ⟨Lc3, hQ3, l3, y3, z3⟩, st3⟩ := Jvm.LawKit.callS X1 hx (y := (⟨TC, "hash", "(III)I"⟩ : MethodName)) hown (mvT hZ (wd19 hw)) (mvT hZ (wd20 hw)) (mvT hZ (wd3 hw)) (mvT hZ (wd21 hw)) (by decide) (backOf (W := 0) (rm4 l Z a0 hw [] p2 p3 p4 h0 n0 Z0) hZ (wd21 hw) (wd3 hw) (by decide) (by decide)) (g := (mkF m 12 #[vr a1, vi p2, vi p3, vi p4, vi 127, us, us] [(.int p4), (.int p3), (.int p2)])) rfl (by rw [hml]; rfl) (argsL := [(.int p2), (.int p3), (.int p4)]) (rest := []) (lenOf pd0 rfl) rfl (by show 2 * 0 + _ ≤ _; exact Nat.le_of_eq rfl) (hb hby d3_12) (fun _ _ => ⟨rfl, e1, (by decide : 0 + 0 ≤ _), (by decide : 0 + 0 ≤ _)⟩)
 dsimp only [Pt.U, Pt.locs, Pt.cells, Pt.slots] at X3 l3 y3 z3 st3 hQ3
 subst l3 y3 z3
 refine G st3 ?_
 obtain ⟨rfl, N3q, e3⟩ := hQ3
 have N3 := Fr.app N0 N3q
 refine G (fun t k => XS.iload X3.here hx rfl (hb hby d3_15) rfl (XS.iand X3.here hx rfl (hb hby d3_17) rfl (XS.istore X3.here hx rfl (hb hby d3_18) rfl (l' := #[vr a1, vi p2, vi p3, vi p4, vi 127, vi ((f4 p2 p3 p4) &&& (127 : Int32)), us]) rfl k))) ?_
 show Go _ _ _ (T3.setTop (mkF m 20 #[vr a1, vi p2, vi p3, vi p4, vi 127, vi ((f4 p2 p3 p4) &&& (127 : Int32)), us] [])) _
 by_cases hc4 : ((f4 p2 p3 p4) &&& (127 : Int32)) = i1
 ·show Go _ _ _ (T3.setTop (mkF m 20 #[vr a1, vi p2, vi p3, vi p4, vi 127, vi ((f4 p2 p3 p4) &&& (127 : Int32)), us] [])) _
  refine G (fun t k => XS.aloadN X3.here hx rfl (hb hby d3_20) rfl rfl k) ?_
  obtain ⟨T5, X5, e5, st5⟩ := getF X3 hx hZ hown (host := "") (Or.inl (wd12 hw)) Via.refl e3 F_a1_slots (g := (mkF m 21 #[vr a1, vi p2, vi p3, vi p4, vi 127, vi ((f4 p2 p3 p4) &&& (127 : Int32)), us] [(.ref a1)])) rfl rfl (hb hby d3_21)
  refine G st5 ?_
  refine G (fun t k => XS.iload X5.here hx rfl (hb hby d3_24) rfl k) ?_
  have hf7 : ¬ (((f4 p2 p3 p4) &&& (127 : Int32)) = i2) := fun z => own_n1 _ ((hr1 hc4).symm.trans z.symm)
  obtain ⟨cl8, Ar8, -, Sz8, Ng8, Hs8, -⟩ := id V_S
  have hin8 : ¬ (((f4 p2 p3 p4) &&& (127 : Int32)) < 0 ∨ cl8.slots.size ≤ (((f4 p2 p3 p4) &&& (127 : Int32))).toNatClampNeg) := inb_of Sz8 (own_127 (f4 p2 p3 p4))
  refine G (fun t k => X5.iaload hx (j := ((f4 p2 p3 p4) &&& (127 : Int32))) (v := (.int (1 : Int32))) (by rw [e5]; exact Ar8.1) (State.isArrayOf_alike hZ.alike Ar8.2.1) Ar8.2.2 hin8 (atH Hs8 hin8 (getH_miss ((own_127 (f4 p2 p3 p4))).1 hf7 (getH_hit ((own_127 (f4 p2 p3 p4))).1 hc4))) (g := (mkF m 26 #[vr a1, vi p2, vi p3, vi p4, vi 127, vi ((f4 p2 p3 p4) &&& (127 : Int32)), us] [(.int ((f4 p2 p3 p4) &&& (127 : Int32))), (.ref w_S)])) rfl rfl (hb hby d3_26) _ k) ?_
  show Go _ _ _ (T5.setTop (mkF m 27 #[vr a1, vi p2, vi p3, vi p4, vi 127, vi ((f4 p2 p3 p4) &&& (127 : Int32)), us] [(.int 1)])) _
  refine G (fun t k => XS.iconst X5.here hx rfl (hb hby d3_27) (XS.isub X5.here hx rfl (hb hby d3_28) rfl (XS.istore X5.here hx rfl (hb hby d3_29) rfl (l' := #[vr a1, vi p2, vi p3, vi p4, vi 127, vi ((f4 p2 p3 p4) &&& (127 : Int32)), vi 0]) rfl (XS.iload X5.here hx rfl (hb hby d3_31) rfl (XS.ifYes X5.here hx rfl (pc0 := 33) (pc' := 153) rfl (hb hby d3_33) rfl ((if0 _ _).trans (flt (by decide : ¬ ((0 : Int32) < (0 : Int32)))).2.1) (by decide) (by decide) k))))) ?_
  show Go _ _ _ (T5.setTop (mkF m 153 #[vr a1, vi p2, vi p3, vi p4, vi 127, vi ((f4 p2 p3 p4) &&& (127 : Int32)), vi 0] [])) _
  have J9 : ∀ (TJ : State) (locsJ : List Loc), Stand p l e (Rm 1 0 0 16) s m #[(.ref a1), (.int p2), (.int p3), (.int p4)] below meth c TJ locsJ 0 0 → TJ.heap = h0 → Fr n0 locsJ → Go p.tables e below (TJ.setTop (mkF m 198 #[vr a1, vi p2, vi p3, vi p4, vi 127, vi ((f4 p2 p3 p4) &&& (127 : Int32)), vi 0] [])) (fun o U' => ∃ v L, o = .returned v ∧ Q3d22 Z a1 p2 p3 p4 w_T w_S k_T k_S t0 t1 t2 t3 t4 t5 i1 i2 h0 n0 v U'.heap L ∧ FrameEnd s o U' L (Rm 1 0 0 16).cells (Rm 1 0 0 16).slots) := by
   intro TJ locsJ XJ eJ NJ
   refine G (fun t k => XS.iload XJ.here hx rfl (hb hby d3_198) rfl (XS.iconst XJ.here hx rfl (hb hby d3_200) (XS.iadd XJ.here hx rfl (hb hby d3_201) rfl (XS.iload XJ.here hx rfl (hb hby d3_202) rfl (XS.iand XJ.here hx rfl (hb hby d3_204) rfl (XS.istore XJ.here hx rfl (hb hby d3_205) rfl (l' := #[vr a1, vi p2, vi p3, vi p4, vi 127, vi ((((f4 p2 p3 p4) &&& (127 : Int32)) + (1 : Int32)) &&& (127 : Int32)), vi 0]) rfl k)))))) ?_
   refine G (fun t k => XS.goto XJ.here hx rfl (pc0 := 207) (pc' := 20) rfl (hb hby d3_207) (by decide) (by decide) k) ?_
   show Go _ _ _ (TJ.setTop (mkF m 20 #[vr a1, vi p2, vi p3, vi p4, vi 127, vi ((((f4 p2 p3 p4) &&& (127 : Int32)) + (1 : Int32)) &&& (127 : Int32)), vi 0] [])) _
   refine G (fun t k => XS.aloadN XJ.here hx rfl (hb hby d3_20) rfl rfl k) ?_
   obtain ⟨T10, X10, e10, st10⟩ := getF XJ hx hZ hown (host := "") (Or.inl (wd12 hw)) Via.refl eJ F_a1_slots (g := (mkF m 21 #[vr a1, vi p2, vi p3, vi p4, vi 127, vi ((((f4 p2 p3 p4) &&& (127 : Int32)) + (1 : Int32)) &&& (127 : Int32)), vi 0] [(.ref a1)])) rfl rfl (hb hby d3_21)
   refine G st10 ?_
   refine G (fun t k => XS.iload X10.here hx rfl (hb hby d3_24) rfl k) ?_
   have hf12 : ((((f4 p2 p3 p4) &&& (127 : Int32)) + (1 : Int32)) &&& (127 : Int32)) = i2 := (hr1 hc4).symm
   obtain ⟨cl13, Ar13, -, Sz13, Ng13, Hs13, -⟩ := id V_S
   have hin13 : ¬ (((((f4 p2 p3 p4) &&& (127 : Int32)) + (1 : Int32)) &&& (127 : Int32)) < 0 ∨ cl13.slots.size ≤ (((((f4 p2 p3 p4) &&& (127 : Int32)) + (1 : Int32)) &&& (127 : Int32))).toNatClampNeg) := inb_of Sz13 (own_127 (((f4 p2 p3 p4) &&& (127 : Int32)) + (1 : Int32)))
   refine G (fun t k => X10.iaload hx (j := ((((f4 p2 p3 p4) &&& (127 : Int32)) + (1 : Int32)) &&& (127 : Int32))) (v := (.int (2 : Int32))) (by rw [e10]; exact Ar13.1) (State.isArrayOf_alike hZ.alike Ar13.2.1) Ar13.2.2 hin13 (atH Hs13 hin13 (getH_hit ((own_127 (((f4 p2 p3 p4) &&& (127 : Int32)) + (1 : Int32)))).1 hf12)) (g := (mkF m 26 #[vr a1, vi p2, vi p3, vi p4, vi 127, vi ((((f4 p2 p3 p4) &&& (127 : Int32)) + (1 : Int32)) &&& (127 : Int32)), vi 0] [(.int ((((f4 p2 p3 p4) &&& (127 : Int32)) + (1 : Int32)) &&& (127 : Int32))), (.ref w_S)])) rfl rfl (hb hby d3_26) _ k) ?_
   show Go _ _ _ (T10.setTop (mkF m 27 #[vr a1, vi p2, vi p3, vi p4, vi 127, vi ((((f4 p2 p3 p4) &&& (127 : Int32)) + (1 : Int32)) &&& (127 : Int32)), vi 0] [(.int 2)])) _
   refine G (fun t k => XS.iconst X10.here hx rfl (hb hby d3_27) (XS.isub X10.here hx rfl (hb hby d3_28) rfl (XS.istore X10.here hx rfl (hb hby d3_29) rfl (l' := #[vr a1, vi p2, vi p3, vi p4, vi 127, vi ((((f4 p2 p3 p4) &&& (127 : Int32)) + (1 : Int32)) &&& (127 : Int32)), vi 1]) rfl (XS.iload X10.here hx rfl (hb hby d3_31) rfl (XS.ifYes X10.here hx rfl (pc0 := 33) (pc' := 153) rfl (hb hby d3_33) rfl ((if0 _ _).trans (flt (by decide : ¬ ((1 : Int32) < (0 : Int32)))).2.1) (by decide) (by decide) k))))) ?_
   show Go _ _ _ (T10.setTop (mkF m 153 #[vr a1, vi p2, vi p3, vi p4, vi 127, vi ((((f4 p2 p3 p4) &&& (127 : Int32)) + (1 : Int32)) &&& (127 : Int32)), vi 1] [])) _
   refine G (fun t k => XS.aloadN X10.here hx rfl (hb hby d3_153) rfl rfl k) ?_
   obtain ⟨T14, X14, e14, st14⟩ := getF X10 hx hZ hown (host := "") (Or.inl (wd10 hw)) Via.refl e10 F_a1_terms (g := (mkF m 154 #[vr a1, vi p2, vi p3, vi p4, vi 127, vi ((((f4 p2 p3 p4) &&& (127 : Int32)) + (1 : Int32)) &&& (127 : Int32)), vi 1] [(.ref a1)])) rfl rfl (hb hby d3_154)
   refine G st14 ?_
   refine G (fun t k => XS.iconst X14.here hx rfl (hb hby d3_157) (XS.iload X14.here hx rfl (hb hby d3_158) rfl (XS.imul X14.here hx rfl (hb hby d3_160) rfl k))) ?_
   obtain ⟨cl15, Ar15, -, Sz15, Ng15, Hs15, -⟩ := id V_T
   have hin15 : ¬ ((3 : Int32) < 0 ∨ cl15.slots.size ≤ ((3 : Int32)).toNatClampNeg) := inb_of Sz15 ⟨by decide, by decide⟩
   refine G (fun t k => X14.iaload hx (j := (3 : Int32)) (v := (.int t3)) (by rw [e14]; exact Ar15.1) (State.isArrayOf_alike hZ.alike Ar15.2.1) Ar15.2.2 hin15 (Has.at Hs15 hin15 rfl) (g := (mkF m 161 #[vr a1, vi p2, vi p3, vi p4, vi 127, vi ((((f4 p2 p3 p4) &&& (127 : Int32)) + (1 : Int32)) &&& (127 : Int32)), vi 1] [(.int 3), (.ref w_T)])) rfl rfl (hb hby d3_161) _ k) ?_
   clear hin15 Hs15 Ng15 Sz15 Ar15 cl15
   refine G (fun t k => XS.iloadN X14.here hx rfl (hb hby d3_162) rfl k) ?_
   show Go _ _ _ (T14.setTop (mkF m 163 #[vr a1, vi p2, vi p3, vi p4, vi 127, vi ((((f4 p2 p3 p4) &&& (127 : Int32)) + (1 : Int32)) &&& (127 : Int32)), vi 1] [(.int p2), (.int t3)])) _
   have hf16 : t3 = p2 := heq2.1
   refine G (fun t k => XS.icmpNo X14.here hx rfl (hb hby d3_163) rfl (teq hf16).2 (XS.aloadN X14.here hx rfl (hb hby d3_166) rfl rfl k)) ?_
   obtain ⟨T17, X17, e17, st17⟩ := getF X14 hx hZ hown (host := "") (Or.inl (wd10 hw)) Via.refl e14 F_a1_terms (g := (mkF m 167 #[vr a1, vi p2, vi p3, vi p4, vi 127, vi ((((f4 p2 p3 p4) &&& (127 : Int32)) + (1 : Int32)) &&& (127 : Int32)), vi 1] [(.ref a1)])) rfl rfl (hb hby d3_167)
   refine G st17 ?_
   refine G (fun t k => XS.iconst X17.here hx rfl (hb hby d3_170) (XS.iload X17.here hx rfl (hb hby d3_171) rfl (XS.imul X17.here hx rfl (hb hby d3_173) rfl (XS.iconst X17.here hx rfl (hb hby d3_174) k)))) ?_
   show Go _ _ _ (T17.setTop (mkF m 175 #[vr a1, vi p2, vi p3, vi p4, vi 127, vi ((((f4 p2 p3 p4) &&& (127 : Int32)) + (1 : Int32)) &&& (127 : Int32)), vi 1] [(.int 1), (.int 3), (.ref w_T)])) _
   refine G (fun t k => XS.iadd X17.here hx rfl (hb hby d3_175) rfl k) ?_
   obtain ⟨cl18, Ar18, -, Sz18, Ng18, Hs18, -⟩ := id V_T
   have hin18 : ¬ ((4 : Int32) < 0 ∨ cl18.slots.size ≤ ((4 : Int32)).toNatClampNeg) := inb_of Sz18 ⟨by decide, by decide⟩
   refine G (fun t k => X17.iaload hx (j := (4 : Int32)) (v := (.int t4)) (by rw [e17]; exact Ar18.1) (State.isArrayOf_alike hZ.alike Ar18.2.1) Ar18.2.2 hin18 (Has.at Hs18 hin18 rfl) (g := (mkF m 176 #[vr a1, vi p2, vi p3, vi p4, vi 127, vi ((((f4 p2 p3 p4) &&& (127 : Int32)) + (1 : Int32)) &&& (127 : Int32)), vi 1] [(.int 4), (.ref w_T)])) rfl rfl (hb hby d3_176) _ k) ?_
   clear hin18 Hs18 Ng18 Sz18 Ar18 cl18
   refine G (fun t k => XS.iloadN X17.here hx rfl (hb hby d3_177) rfl k) ?_
   have hf19 : t4 = p3 := heq2.2.1
   refine G (fun t k => XS.icmpNo X17.here hx rfl (hb hby d3_178) rfl (teq hf19).2 (XS.aloadN X17.here hx rfl (hb hby d3_181) rfl rfl k)) ?_
   obtain ⟨T20, X20, e20, st20⟩ := getF X17 hx hZ hown (host := "") (Or.inl (wd10 hw)) Via.refl e17 F_a1_terms (g := (mkF m 182 #[vr a1, vi p2, vi p3, vi p4, vi 127, vi ((((f4 p2 p3 p4) &&& (127 : Int32)) + (1 : Int32)) &&& (127 : Int32)), vi 1] [(.ref a1)])) rfl rfl (hb hby d3_182)
   refine G st20 ?_
   refine G (fun t k => XS.iconst X20.here hx rfl (hb hby d3_185) k) ?_
   show Go _ _ _ (T20.setTop (mkF m 186 #[vr a1, vi p2, vi p3, vi p4, vi 127, vi ((((f4 p2 p3 p4) &&& (127 : Int32)) + (1 : Int32)) &&& (127 : Int32)), vi 1] [(.int 3), (.ref w_T)])) _
   refine G (fun t k => XS.iload X20.here hx rfl (hb hby d3_186) rfl (XS.imul X20.here hx rfl (hb hby d3_188) rfl (XS.iconst X20.here hx rfl (hb hby d3_189) (XS.iadd X20.here hx rfl (hb hby d3_190) rfl k)))) ?_
   obtain ⟨cl21, Ar21, -, Sz21, Ng21, Hs21, -⟩ := id V_T
   have hin21 : ¬ ((5 : Int32) < 0 ∨ cl21.slots.size ≤ ((5 : Int32)).toNatClampNeg) := inb_of Sz21 ⟨by decide, by decide⟩
   refine G (fun t k => X20.iaload hx (j := (5 : Int32)) (v := (.int t5)) (by rw [e20]; exact Ar21.1) (State.isArrayOf_alike hZ.alike Ar21.2.1) Ar21.2.2 hin21 (Has.at Hs21 hin21 rfl) (g := (mkF m 191 #[vr a1, vi p2, vi p3, vi p4, vi 127, vi ((((f4 p2 p3 p4) &&& (127 : Int32)) + (1 : Int32)) &&& (127 : Int32)), vi 1] [(.int 5), (.ref w_T)])) rfl rfl (hb hby d3_191) _ k) ?_
   clear hin21 Hs21 Ng21 Sz21 Ar21 cl21
   refine G (fun t k => XS.iloadN X20.here hx rfl (hb hby d3_192) rfl k) ?_
   have hf22 : t5 = p4 := heq2.2.2
   refine G (fun t k => XS.icmpNo X20.here hx rfl (hb hby d3_193) rfl (teq hf22).2 k) ?_
   show Go _ _ _ (T20.setTop (mkF m 196 #[vr a1, vi p2, vi p3, vi p4, vi 127, vi ((((f4 p2 p3 p4) &&& (127 : Int32)) + (1 : Int32)) &&& (127 : Int32)), vi 1] [])) _
   refine G (fun t k => XS.iconst X20.here hx rfl (hb hby d3_196) k) ?_
   obtain ⟨fs, hr, hrun, hended, hW, hsame⟩ := X20.leave (v := some (.int (0 : Int32))) (fun h => by rw [Bd.returns] at h; cases h)
   refine Go.fin (retN X20 hx (t := .boolean) Bd.returns (by simp) (hb hby d3_197) hr) hrun hended ⟨_, _, rfl, ?_, ⟨_, rfl⟩, hW, hsame.mono (by decide) (by decide)⟩
   show Q3d22 Z a1 p2 p3 p4 w_T w_S k_T k_S t0 t1 t2 t3 t4 t5 i1 i2 h0 n0 _ T20.heap _
   rw [e20]
   exact ⟨rfl, NJ, rfl⟩
  refine G (fun t k => XS.aloadN X5.here hx rfl (hb hby d3_153) rfl rfl k) ?_
  obtain ⟨T23, X23, e23, st23⟩ := getF X5 hx hZ hown (host := "") (Or.inl (wd10 hw)) Via.refl e5 F_a1_terms (g := (mkF m 154 #[vr a1, vi p2, vi p3, vi p4, vi 127, vi ((f4 p2 p3 p4) &&& (127 : Int32)), vi 0] [(.ref a1)])) rfl rfl (hb hby d3_154)
  refine G st23 ?_
  refine G (fun t k => XS.iconst X23.here hx rfl (hb hby d3_157) (XS.iload X23.here hx rfl (hb hby d3_158) rfl (XS.imul X23.here hx rfl (hb hby d3_160) rfl k))) ?_
  obtain ⟨cl24, Ar24, -, Sz24, Ng24, Hs24, -⟩ := id V_T
  have hin24 : ¬ ((0 : Int32) < 0 ∨ cl24.slots.size ≤ ((0 : Int32)).toNatClampNeg) := inb_of Sz24 ⟨by decide, by decide⟩
  refine G (fun t k => X23.iaload hx (j := (0 : Int32)) (v := (.int t0)) (by rw [e23]; exact Ar24.1) (State.isArrayOf_alike hZ.alike Ar24.2.1) Ar24.2.2 hin24 (Has.at Hs24 hin24 rfl) (g := (mkF m 161 #[vr a1, vi p2, vi p3, vi p4, vi 127, vi ((f4 p2 p3 p4) &&& (127 : Int32)), vi 0] [(.int 0), (.ref w_T)])) rfl rfl (hb hby d3_161) _ k) ?_
  clear hin24 Hs24 Ng24 Sz24 Ar24 cl24
  refine G (fun t k => XS.iloadN X23.here hx rfl (hb hby d3_162) rfl k) ?_
  show Go _ _ _ (T23.setTop (mkF m 163 #[vr a1, vi p2, vi p3, vi p4, vi 127, vi ((f4 p2 p3 p4) &&& (127 : Int32)), vi 0] [(.int p2), (.int t0)])) _
  by_cases hc25 : t0 = p2
  ·refine G (fun t k => XS.icmpNo X23.here hx rfl (hb hby d3_163) rfl (teq hc25).2 (XS.aloadN X23.here hx rfl (hb hby d3_166) rfl rfl k)) ?_
   obtain ⟨T26, X26, e26, st26⟩ := getF X23 hx hZ hown (host := "") (Or.inl (wd10 hw)) Via.refl e23 F_a1_terms (g := (mkF m 167 #[vr a1, vi p2, vi p3, vi p4, vi 127, vi ((f4 p2 p3 p4) &&& (127 : Int32)), vi 0] [(.ref a1)])) rfl rfl (hb hby d3_167)
   refine G st26 ?_
   refine G (fun t k => XS.iconst X26.here hx rfl (hb hby d3_170) (XS.iload X26.here hx rfl (hb hby d3_171) rfl (XS.imul X26.here hx rfl (hb hby d3_173) rfl (XS.iconst X26.here hx rfl (hb hby d3_174) k)))) ?_
   show Go _ _ _ (T26.setTop (mkF m 175 #[vr a1, vi p2, vi p3, vi p4, vi 127, vi ((f4 p2 p3 p4) &&& (127 : Int32)), vi 0] [(.int 1), (.int 0), (.ref w_T)])) _
   refine G (fun t k => XS.iadd X26.here hx rfl (hb hby d3_175) rfl k) ?_
   obtain ⟨cl27, Ar27, -, Sz27, Ng27, Hs27, -⟩ := id V_T
   have hin27 : ¬ ((1 : Int32) < 0 ∨ cl27.slots.size ≤ ((1 : Int32)).toNatClampNeg) := inb_of Sz27 ⟨by decide, by decide⟩
   refine G (fun t k => X26.iaload hx (j := (1 : Int32)) (v := (.int t1)) (by rw [e26]; exact Ar27.1) (State.isArrayOf_alike hZ.alike Ar27.2.1) Ar27.2.2 hin27 (Has.at Hs27 hin27 rfl) (g := (mkF m 176 #[vr a1, vi p2, vi p3, vi p4, vi 127, vi ((f4 p2 p3 p4) &&& (127 : Int32)), vi 0] [(.int 1), (.ref w_T)])) rfl rfl (hb hby d3_176) _ k) ?_
   clear hin27 Hs27 Ng27 Sz27 Ar27 cl27
   refine G (fun t k => XS.iloadN X26.here hx rfl (hb hby d3_177) rfl k) ?_
   by_cases hc28 : t1 = p3
   ·refine G (fun t k => XS.icmpNo X26.here hx rfl (hb hby d3_178) rfl (teq hc28).2 (XS.aloadN X26.here hx rfl (hb hby d3_181) rfl rfl k)) ?_
    obtain ⟨T29, X29, e29, st29⟩ := getF X26 hx hZ hown (host := "") (Or.inl (wd10 hw)) Via.refl e26 F_a1_terms (g := (mkF m 182 #[vr a1, vi p2, vi p3, vi p4, vi 127, vi ((f4 p2 p3 p4) &&& (127 : Int32)), vi 0] [(.ref a1)])) rfl rfl (hb hby d3_182)
    refine G st29 ?_
    refine G (fun t k => XS.iconst X29.here hx rfl (hb hby d3_185) k) ?_
    show Go _ _ _ (T29.setTop (mkF m 186 #[vr a1, vi p2, vi p3, vi p4, vi 127, vi ((f4 p2 p3 p4) &&& (127 : Int32)), vi 0] [(.int 3), (.ref w_T)])) _
    refine G (fun t k => XS.iload X29.here hx rfl (hb hby d3_186) rfl (XS.imul X29.here hx rfl (hb hby d3_188) rfl (XS.iconst X29.here hx rfl (hb hby d3_189) (XS.iadd X29.here hx rfl (hb hby d3_190) rfl k)))) ?_
    obtain ⟨cl30, Ar30, -, Sz30, Ng30, Hs30, -⟩ := id V_T
    have hin30 : ¬ ((2 : Int32) < 0 ∨ cl30.slots.size ≤ ((2 : Int32)).toNatClampNeg) := inb_of Sz30 ⟨by decide, by decide⟩
    refine G (fun t k => X29.iaload hx (j := (2 : Int32)) (v := (.int t2)) (by rw [e29]; exact Ar30.1) (State.isArrayOf_alike hZ.alike Ar30.2.1) Ar30.2.2 hin30 (Has.at Hs30 hin30 rfl) (g := (mkF m 191 #[vr a1, vi p2, vi p3, vi p4, vi 127, vi ((f4 p2 p3 p4) &&& (127 : Int32)), vi 0] [(.int 2), (.ref w_T)])) rfl rfl (hb hby d3_191) _ k) ?_
    clear hin30 Hs30 Ng30 Sz30 Ar30 cl30
    refine G (fun t k => XS.iloadN X29.here hx rfl (hb hby d3_192) rfl k) ?_
    have hf31 : ¬ (t2 = p4) := fun z => hne1 ⟨hc25, hc28, z⟩
    refine G (fun t k => XS.icmpYes X29.here hx rfl (pc0 := 193) (pc' := 198) rfl (hb hby d3_193) rfl (feq hf31).2 (by decide) (by decide) k) ?_
    show Go _ _ _ (T29.setTop (mkF m 198 #[vr a1, vi p2, vi p3, vi p4, vi 127, vi ((f4 p2 p3 p4) &&& (127 : Int32)), vi 0] [])) _
    exact J9 _ _ X29 e29 N3
   ·refine G (fun t k => XS.icmpYes X26.here hx rfl (pc0 := 178) (pc' := 198) rfl (hb hby d3_178) rfl (feq hc28).2 (by decide) (by decide) k) ?_
    show Go _ _ _ (T26.setTop (mkF m 198 #[vr a1, vi p2, vi p3, vi p4, vi 127, vi ((f4 p2 p3 p4) &&& (127 : Int32)), vi 0] [])) _
    exact J9 _ _ X26 e26 N3
  ·refine G (fun t k => XS.icmpYes X23.here hx rfl (pc0 := 163) (pc' := 198) rfl (hb hby d3_163) rfl (feq hc25).2 (by decide) (by decide) k) ?_
   show Go _ _ _ (T23.setTop (mkF m 198 #[vr a1, vi p2, vi p3, vi p4, vi 127, vi ((f4 p2 p3 p4) &&& (127 : Int32)), vi 0] [])) _
   exact J9 _ _ X23 e23 N3
 ·show Go _ _ _ (T3.setTop (mkF m 20 #[vr a1, vi p2, vi p3, vi p4, vi 127, vi ((f4 p2 p3 p4) &&& (127 : Int32)), us] [])) _
  refine G (fun t k => XS.aloadN X3.here hx rfl (hb hby d3_20) rfl rfl k) ?_
  obtain ⟨T32, X32, e32, st32⟩ := getF X3 hx hZ hown (host := "") (Or.inl (wd12 hw)) Via.refl e3 F_a1_slots (g := (mkF m 21 #[vr a1, vi p2, vi p3, vi p4, vi 127, vi ((f4 p2 p3 p4) &&& (127 : Int32)), us] [(.ref a1)])) rfl rfl (hb hby d3_21)
  refine G st32 ?_
  refine G (fun t k => XS.iload X32.here hx rfl (hb hby d3_24) rfl k) ?_
  have hf34 : ((f4 p2 p3 p4) &&& (127 : Int32)) = i2 := (hr0 hc4).symm
  obtain ⟨cl35, Ar35, -, Sz35, Ng35, Hs35, -⟩ := id V_S
  have hin35 : ¬ (((f4 p2 p3 p4) &&& (127 : Int32)) < 0 ∨ cl35.slots.size ≤ (((f4 p2 p3 p4) &&& (127 : Int32))).toNatClampNeg) := inb_of Sz35 (own_127 (f4 p2 p3 p4))
  refine G (fun t k => X32.iaload hx (j := ((f4 p2 p3 p4) &&& (127 : Int32))) (v := (.int (2 : Int32))) (by rw [e32]; exact Ar35.1) (State.isArrayOf_alike hZ.alike Ar35.2.1) Ar35.2.2 hin35 (atH Hs35 hin35 (getH_hit ((own_127 (f4 p2 p3 p4))).1 hf34)) (g := (mkF m 26 #[vr a1, vi p2, vi p3, vi p4, vi 127, vi ((f4 p2 p3 p4) &&& (127 : Int32)), us] [(.int ((f4 p2 p3 p4) &&& (127 : Int32))), (.ref w_S)])) rfl rfl (hb hby d3_26) _ k) ?_
  show Go _ _ _ (T32.setTop (mkF m 27 #[vr a1, vi p2, vi p3, vi p4, vi 127, vi ((f4 p2 p3 p4) &&& (127 : Int32)), us] [(.int 2)])) _
  refine G (fun t k => XS.iconst X32.here hx rfl (hb hby d3_27) (XS.isub X32.here hx rfl (hb hby d3_28) rfl (XS.istore X32.here hx rfl (hb hby d3_29) rfl (l' := #[vr a1, vi p2, vi p3, vi p4, vi 127, vi ((f4 p2 p3 p4) &&& (127 : Int32)), vi 1]) rfl (XS.iload X32.here hx rfl (hb hby d3_31) rfl (XS.ifYes X32.here hx rfl (pc0 := 33) (pc' := 153) rfl (hb hby d3_33) rfl ((if0 _ _).trans (flt (by decide : ¬ ((1 : Int32) < (0 : Int32)))).2.1) (by decide) (by decide) k))))) ?_
  show Go _ _ _ (T32.setTop (mkF m 153 #[vr a1, vi p2, vi p3, vi p4, vi 127, vi ((f4 p2 p3 p4) &&& (127 : Int32)), vi 1] [])) _
  refine G (fun t k => XS.aloadN X32.here hx rfl (hb hby d3_153) rfl rfl k) ?_
  obtain ⟨T36, X36, e36, st36⟩ := getF X32 hx hZ hown (host := "") (Or.inl (wd10 hw)) Via.refl e32 F_a1_terms (g := (mkF m 154 #[vr a1, vi p2, vi p3, vi p4, vi 127, vi ((f4 p2 p3 p4) &&& (127 : Int32)), vi 1] [(.ref a1)])) rfl rfl (hb hby d3_154)
  refine G st36 ?_
  refine G (fun t k => XS.iconst X36.here hx rfl (hb hby d3_157) (XS.iload X36.here hx rfl (hb hby d3_158) rfl (XS.imul X36.here hx rfl (hb hby d3_160) rfl k))) ?_
  obtain ⟨cl37, Ar37, -, Sz37, Ng37, Hs37, -⟩ := id V_T
  have hin37 : ¬ ((3 : Int32) < 0 ∨ cl37.slots.size ≤ ((3 : Int32)).toNatClampNeg) := inb_of Sz37 ⟨by decide, by decide⟩
  refine G (fun t k => X36.iaload hx (j := (3 : Int32)) (v := (.int t3)) (by rw [e36]; exact Ar37.1) (State.isArrayOf_alike hZ.alike Ar37.2.1) Ar37.2.2 hin37 (Has.at Hs37 hin37 rfl) (g := (mkF m 161 #[vr a1, vi p2, vi p3, vi p4, vi 127, vi ((f4 p2 p3 p4) &&& (127 : Int32)), vi 1] [(.int 3), (.ref w_T)])) rfl rfl (hb hby d3_161) _ k) ?_
  clear hin37 Hs37 Ng37 Sz37 Ar37 cl37
  refine G (fun t k => XS.iloadN X36.here hx rfl (hb hby d3_162) rfl k) ?_
  show Go _ _ _ (T36.setTop (mkF m 163 #[vr a1, vi p2, vi p3, vi p4, vi 127, vi ((f4 p2 p3 p4) &&& (127 : Int32)), vi 1] [(.int p2), (.int t3)])) _
  have hf38 : t3 = p2 := heq2.1
  refine G (fun t k => XS.icmpNo X36.here hx rfl (hb hby d3_163) rfl (teq hf38).2 (XS.aloadN X36.here hx rfl (hb hby d3_166) rfl rfl k)) ?_
  obtain ⟨T39, X39, e39, st39⟩ := getF X36 hx hZ hown (host := "") (Or.inl (wd10 hw)) Via.refl e36 F_a1_terms (g := (mkF m 167 #[vr a1, vi p2, vi p3, vi p4, vi 127, vi ((f4 p2 p3 p4) &&& (127 : Int32)), vi 1] [(.ref a1)])) rfl rfl (hb hby d3_167)
  refine G st39 ?_
  refine G (fun t k => XS.iconst X39.here hx rfl (hb hby d3_170) (XS.iload X39.here hx rfl (hb hby d3_171) rfl (XS.imul X39.here hx rfl (hb hby d3_173) rfl (XS.iconst X39.here hx rfl (hb hby d3_174) k)))) ?_
  show Go _ _ _ (T39.setTop (mkF m 175 #[vr a1, vi p2, vi p3, vi p4, vi 127, vi ((f4 p2 p3 p4) &&& (127 : Int32)), vi 1] [(.int 1), (.int 3), (.ref w_T)])) _
  refine G (fun t k => XS.iadd X39.here hx rfl (hb hby d3_175) rfl k) ?_
  obtain ⟨cl40, Ar40, -, Sz40, Ng40, Hs40, -⟩ := id V_T
  have hin40 : ¬ ((4 : Int32) < 0 ∨ cl40.slots.size ≤ ((4 : Int32)).toNatClampNeg) := inb_of Sz40 ⟨by decide, by decide⟩
  refine G (fun t k => X39.iaload hx (j := (4 : Int32)) (v := (.int t4)) (by rw [e39]; exact Ar40.1) (State.isArrayOf_alike hZ.alike Ar40.2.1) Ar40.2.2 hin40 (Has.at Hs40 hin40 rfl) (g := (mkF m 176 #[vr a1, vi p2, vi p3, vi p4, vi 127, vi ((f4 p2 p3 p4) &&& (127 : Int32)), vi 1] [(.int 4), (.ref w_T)])) rfl rfl (hb hby d3_176) _ k) ?_
  clear hin40 Hs40 Ng40 Sz40 Ar40 cl40
  refine G (fun t k => XS.iloadN X39.here hx rfl (hb hby d3_177) rfl k) ?_
  have hf41 : t4 = p3 := heq2.2.1
  refine G (fun t k => XS.icmpNo X39.here hx rfl (hb hby d3_178) rfl (teq hf41).2 (XS.aloadN X39.here hx rfl (hb hby d3_181) rfl rfl k)) ?_
  obtain ⟨T42, X42, e42, st42⟩ := getF X39 hx hZ hown (host := "") (Or.inl (wd10 hw)) Via.refl e39 F_a1_terms (g := (mkF m 182 #[vr a1, vi p2, vi p3, vi p4, vi 127, vi ((f4 p2 p3 p4) &&& (127 : Int32)), vi 1] [(.ref a1)])) rfl rfl (hb hby d3_182)
  refine G st42 ?_
  refine G (fun t k => XS.iconst X42.here hx rfl (hb hby d3_185) k) ?_
  show Go _ _ _ (T42.setTop (mkF m 186 #[vr a1, vi p2, vi p3, vi p4, vi 127, vi ((f4 p2 p3 p4) &&& (127 : Int32)), vi 1] [(.int 3), (.ref w_T)])) _
  refine G (fun t k => XS.iload X42.here hx rfl (hb hby d3_186) rfl (XS.imul X42.here hx rfl (hb hby d3_188) rfl (XS.iconst X42.here hx rfl (hb hby d3_189) (XS.iadd X42.here hx rfl (hb hby d3_190) rfl k)))) ?_
  obtain ⟨cl43, Ar43, -, Sz43, Ng43, Hs43, -⟩ := id V_T
  have hin43 : ¬ ((5 : Int32) < 0 ∨ cl43.slots.size ≤ ((5 : Int32)).toNatClampNeg) := inb_of Sz43 ⟨by decide, by decide⟩
  refine G (fun t k => X42.iaload hx (j := (5 : Int32)) (v := (.int t5)) (by rw [e42]; exact Ar43.1) (State.isArrayOf_alike hZ.alike Ar43.2.1) Ar43.2.2 hin43 (Has.at Hs43 hin43 rfl) (g := (mkF m 191 #[vr a1, vi p2, vi p3, vi p4, vi 127, vi ((f4 p2 p3 p4) &&& (127 : Int32)), vi 1] [(.int 5), (.ref w_T)])) rfl rfl (hb hby d3_191) _ k) ?_
  clear hin43 Hs43 Ng43 Sz43 Ar43 cl43
  refine G (fun t k => XS.iloadN X42.here hx rfl (hb hby d3_192) rfl k) ?_
  have hf44 : t5 = p4 := heq2.2.2
  refine G (fun t k => XS.icmpNo X42.here hx rfl (hb hby d3_193) rfl (teq hf44).2 k) ?_
  show Go _ _ _ (T42.setTop (mkF m 196 #[vr a1, vi p2, vi p3, vi p4, vi 127, vi ((f4 p2 p3 p4) &&& (127 : Int32)), vi 1] [])) _
  refine G (fun t k => XS.iconst X42.here hx rfl (hb hby d3_196) k) ?_
  obtain ⟨fs, hr, hrun, hended, hW, hsame⟩ := X42.leave (v := some (.int (0 : Int32))) (fun h => by rw [Bd.returns] at h; cases h)
  refine Go.fin (retN X42 hx (t := .boolean) Bd.returns (by simp) (hb hby d3_197) hr) hrun hended ⟨_, _, rfl, ?_, ⟨_, rfl⟩, hW, hsame.mono (by decide) (by decide)⟩
  show Q3d22 Z a1 p2 p3 p4 w_T w_S k_T k_S t0 t1 t2 t3 t4 t5 i1 i2 h0 n0 _ T42.heap _
  rw [e42]
  exact ⟨rfl, N3, rfl⟩
theorem d5_0 : decode cB5 0 = .ok (.aload_n 0, 1) := by decide +kernel
theorem d5_1 : decode cB5 1 = .ok (.getfield 20, 3) := by decide +kernel
theorem d5_4 : decode cB5 4 = .ok (.ireturn, 1) := by decide +kernel
def Q5 (Z : State) (a1 : Addr) (w_a1_size : Int32) (h0 : Heap) (n0 : Nat) (v : Option Value) (h : Heap) (L : List Loc) : Prop := v = some (.int w_a1_size) ∧ Fr n0 L ∧ h = h0
theorem ef5 (m : MethodId) (x0 : Addr) : entryFrame m #[(.ref x0)] 1 = mkF m 0 #[.val (.ref x0)] [] := by first | (simp [entryFrame, mkF, argsToLocals, Value.category]; done) | rfl
theorem rm5 (l : Launch) (Z : State) (a0 : Array Value) (hw : HW a0 Z) (ws : List Jvm.Cond) (a1 : Addr) (w_a1_size : Int32) (h0 : Heap) (n0 : Nat) (Z0 : n0 ≤ h0.size) (F_a1_size : Fld Z h0 a1 TC "size" "I" (.int w_a1_size)) :
  MetFree l (⟨TC, "size", "()I"⟩ : MethodName) (head1 (Jvm.Cond.code (⟨TC, "size", "()I"⟩ : MethodName) cB5 1 (some .int) :: ws) (Rm 0 0 0 0)) (Pr Z h0 #[(.ref a1)]) Tr (fun _ U o U' => ∃ v L, o = .returned v ∧ Q5 Z a1 w_a1_size h0 n0 v U'.heap L ∧ FrameEnd U o U' L (Rm 0 0 0 0).cells (Rm 0 0 0 0).slots) := by
 refine MetFree.of_bodySF (plainFor_of_name pn0) hisR ?_
 intro p e s m args below meth c s₁ Bd hml0 hP hK
 obtain ⟨rfl, hZ, hh⟩ := hP
 have hx := Bd.exec
 have hby := Bd.bytes
 have hml : c.maxLocals = 1 := hml0
 have hown : s.vm.findClass TC = some m.cls := findClass_of_methodNamed Bd.named
 have hnm := (name_of_methodNamed Bd.named Bd.method).1
 have X0 : Stand p l e (Rm 0 0 0 0) s m #[(.ref a1)] below meth c s₁ [] 0 0 := Stand.of_body Bd
 have e0 : s₁.heap = h0 := by rw [← hh, Bd.state]; rfl
 have N0 := Fr.nil n0
 have K0 : Keep h0 h0 [] := Keep.refl h0 _
 refine G (P := fun o U' => ∃ v L, o = .returned v ∧ Q5 Z a1 w_a1_size h0 n0 v U'.heap L ∧ FrameEnd s o U' L (Rm 0 0 0 0).cells (Rm 0 0 0 0).slots) (fun t k => castTop (ef5 m a1) k) ?_
 show Go _ _ _ (s₁.setTop (mkF m 0 #[vr a1] [])) _
 refine G (fun t k => XS.aloadN X0.here hx rfl (hb hby d5_0) rfl rfl k) ?_
 obtain ⟨T1, X1, e1, st1⟩ := getF X0 hx hZ hown (host := "") (Or.inl (wd25 hw)) Via.refl e0 F_a1_size (g := (mkF m 1 #[vr a1] [(.ref a1)])) rfl rfl (hb hby d5_1)
 refine G st1 ?_
 obtain ⟨fs, hr, hrun, hended, hW, hsame⟩ := X1.leave (v := some (.int w_a1_size)) (fun h => by rw [Bd.returns] at h; cases h)
 refine Go.fin (retOut X1 hx Bd.returns rfl (Or.inl ⟨rfl, Or.inl rfl, _, rfl⟩) (hb hby d5_4) hr) hrun hended ⟨_, _, rfl, ?_, ⟨_, rfl⟩, hW, hsame.mono (by decide) (by decide)⟩
 show Q5 Z a1 w_a1_size h0 n0 _ T1.heap _
 rw [e1]
 exact ⟨rfl, N0, rfl⟩
theorem d6_0 : decode cB6 0 = .ok (.aload_n 0, 1) := by decide +kernel
theorem d6_1 : decode cB6 1 = .ok (.getfield 7, 3) := by decide +kernel
theorem d6_4 : decode cB6 4 = .ok (.iconst 3, 1) := by decide +kernel
theorem d6_5 : decode cB6 5 = .ok (.iload_n 1, 1) := by decide +kernel
theorem d6_6 : decode cB6 6 = .ok (.imul, 1) := by decide +kernel
theorem d6_7 : decode cB6 7 = .ok (.iaload, 1) := by decide +kernel
theorem d6_8 : decode cB6 8 = .ok (.ireturn, 1) := by decide +kernel
def Q6 (Z : State) (a1 : Addr) (p2 : Int32) (w_T : Addr) (k_T : ClassId) (vs : List Value) (gx : Int32) (h0 : Heap) (n0 : Nat) (v : Option Value) (h : Heap) (L : List Loc) : Prop := v = some (.int gx) ∧ Fr n0 L ∧ h = h0
theorem ef6 (m : MethodId) (x0 : Addr) (x1 : Int32) : entryFrame m #[(.ref x0), (.int x1)] 2 = mkF m 0 #[.val (.ref x0), .val (.int x1)] [] := by first | (simp [entryFrame, mkF, argsToLocals, Value.category]; done) | rfl
theorem rm6 (l : Launch) (Z : State) (a0 : Array Value) (hw : HW a0 Z) (ws : List Jvm.Cond) (a1 : Addr) (p2 : Int32) (w_T : Addr) (k_T : ClassId) (vs : List Value) (gx : Int32) (h0 : Heap) (n0 : Nat) (Z0 : n0 ≤ h0.size) (F_a1_terms : Fld Z h0 a1 TC "terms" "[I" (.ref w_T)) (V_T : Arv Z h0 w_T k_T .int (192 : Int32) vs (.int (0 : Int32))) (hib : ¬ ((3 : Int32) * p2) < 0 ∧ ((3 : Int32) * p2) < (192 : Int32)) (hat : vs.getD ((3 : Int32) * p2).toNatClampNeg (.int (0 : Int32)) = .int gx) :
  MetFree l (⟨TC, "subject", "(I)I"⟩ : MethodName) (head1 (Jvm.Cond.code (⟨TC, "subject", "(I)I"⟩ : MethodName) cB6 2 (some .int) :: ws) (Rm 0 0 0 0)) (Pr Z h0 #[(.ref a1), (.int p2)]) Tr (fun _ U o U' => ∃ v L, o = .returned v ∧ Q6 Z a1 p2 w_T k_T vs gx h0 n0 v U'.heap L ∧ FrameEnd U o U' L (Rm 0 0 0 0).cells (Rm 0 0 0 0).slots) := by
 refine MetFree.of_bodySF (plainFor_of_name pn0) hisR ?_
 intro p e s m args below meth c s₁ Bd hml0 hP hK
 obtain ⟨rfl, hZ, hh⟩ := hP
 have hx := Bd.exec
 have hby := Bd.bytes
 have hml : c.maxLocals = 2 := hml0
 have hown : s.vm.findClass TC = some m.cls := findClass_of_methodNamed Bd.named
 have hnm := (name_of_methodNamed Bd.named Bd.method).1
 have X0 : Stand p l e (Rm 0 0 0 0) s m #[(.ref a1), (.int p2)] below meth c s₁ [] 0 0 := Stand.of_body Bd
 have e0 : s₁.heap = h0 := by rw [← hh, Bd.state]; rfl
 have N0 := Fr.nil n0
 have K0 : Keep h0 h0 [] := Keep.refl h0 _
 refine G (P := fun o U' => ∃ v L, o = .returned v ∧ Q6 Z a1 p2 w_T k_T vs gx h0 n0 v U'.heap L ∧ FrameEnd s o U' L (Rm 0 0 0 0).cells (Rm 0 0 0 0).slots) (fun t k => castTop (ef6 m a1 p2) k) ?_
 show Go _ _ _ (s₁.setTop (mkF m 0 #[vr a1, vi p2] [])) _
 refine G (fun t k => XS.aloadN X0.here hx rfl (hb hby d6_0) rfl rfl k) ?_
 obtain ⟨T1, X1, e1, st1⟩ := getF X0 hx hZ hown (host := "") (Or.inl (wd10 hw)) Via.refl e0 F_a1_terms (g := (mkF m 1 #[vr a1, vi p2] [(.ref a1)])) rfl rfl (hb hby d6_1)
 refine G st1 ?_
 refine G (fun t k => XS.iconst X1.here hx rfl (hb hby d6_4) (XS.iloadN X1.here hx rfl (hb hby d6_5) rfl (XS.imul X1.here hx rfl (hb hby d6_6) rfl k))) ?_
 obtain ⟨cl2, Ar2, -, Sz2, Ng2, Hs2, -⟩ := id V_T
 have hin2 : ¬ (((3 : Int32) * p2) < 0 ∨ cl2.slots.size ≤ (((3 : Int32) * p2)).toNatClampNeg) := inb_of Sz2 hib
 refine G (fun t k => X1.iaload hx (j := ((3 : Int32) * p2)) (v := (.int gx)) (by rw [e1]; exact Ar2.1) (State.isArrayOf_alike hZ.alike Ar2.2.1) Ar2.2.2 hin2 (Has.at Hs2 hin2 hat) (g := (mkF m 7 #[vr a1, vi p2] [(.int ((3 : Int32) * p2)), (.ref w_T)])) rfl rfl (hb hby d6_7) _ k) ?_
 clear hin2 Hs2 Ng2 Sz2 Ar2 cl2
 obtain ⟨fs, hr, hrun, hended, hW, hsame⟩ := X1.leave (v := some (.int gx)) (fun h => by rw [Bd.returns] at h; cases h)
 refine Go.fin (retOut X1 hx Bd.returns rfl (Or.inl ⟨rfl, Or.inl rfl, _, rfl⟩) (hb hby d6_8) hr) hrun hended ⟨_, _, rfl, ?_, ⟨_, rfl⟩, hW, hsame.mono (by decide) (by decide)⟩
 show Q6 Z a1 p2 w_T k_T vs gx h0 n0 _ T1.heap _
 rw [e1]
 exact ⟨rfl, N0, rfl⟩
theorem d7_0 : decode cB7 0 = .ok (.aload_n 0, 1) := by decide +kernel
theorem d7_1 : decode cB7 1 = .ok (.getfield 7, 3) := by decide +kernel
theorem d7_4 : decode cB7 4 = .ok (.iconst 3, 1) := by decide +kernel
theorem d7_5 : decode cB7 5 = .ok (.iload_n 1, 1) := by decide +kernel
theorem d7_6 : decode cB7 6 = .ok (.imul, 1) := by decide +kernel
theorem d7_7 : decode cB7 7 = .ok (.iconst 1, 1) := by decide +kernel
theorem d7_8 : decode cB7 8 = .ok (.iadd, 1) := by decide +kernel
theorem d7_9 : decode cB7 9 = .ok (.iaload, 1) := by decide +kernel
theorem d7_10 : decode cB7 10 = .ok (.ireturn, 1) := by decide +kernel
def Q7 (Z : State) (a1 : Addr) (p2 : Int32) (w_T : Addr) (k_T : ClassId) (vs : List Value) (gx : Int32) (h0 : Heap) (n0 : Nat) (v : Option Value) (h : Heap) (L : List Loc) : Prop := v = some (.int gx) ∧ Fr n0 L ∧ h = h0
theorem ef7 (m : MethodId) (x0 : Addr) (x1 : Int32) : entryFrame m #[(.ref x0), (.int x1)] 2 = mkF m 0 #[.val (.ref x0), .val (.int x1)] [] := by first | (simp [entryFrame, mkF, argsToLocals, Value.category]; done) | rfl
theorem rm7 (l : Launch) (Z : State) (a0 : Array Value) (hw : HW a0 Z) (ws : List Jvm.Cond) (a1 : Addr) (p2 : Int32) (w_T : Addr) (k_T : ClassId) (vs : List Value) (gx : Int32) (h0 : Heap) (n0 : Nat) (Z0 : n0 ≤ h0.size) (F_a1_terms : Fld Z h0 a1 TC "terms" "[I" (.ref w_T)) (V_T : Arv Z h0 w_T k_T .int (192 : Int32) vs (.int (0 : Int32))) (hib : ¬ (((3 : Int32) * p2) + (1 : Int32)) < 0 ∧ (((3 : Int32) * p2) + (1 : Int32)) < (192 : Int32)) (hat : vs.getD (((3 : Int32) * p2) + (1 : Int32)).toNatClampNeg (.int (0 : Int32)) = .int gx) :
  MetFree l (⟨TC, "predicate", "(I)I"⟩ : MethodName) (head1 (Jvm.Cond.code (⟨TC, "predicate", "(I)I"⟩ : MethodName) cB7 2 (some .int) :: ws) (Rm 0 0 0 0)) (Pr Z h0 #[(.ref a1), (.int p2)]) Tr (fun _ U o U' => ∃ v L, o = .returned v ∧ Q7 Z a1 p2 w_T k_T vs gx h0 n0 v U'.heap L ∧ FrameEnd U o U' L (Rm 0 0 0 0).cells (Rm 0 0 0 0).slots) := by
 refine MetFree.of_bodySF (plainFor_of_name pn0) hisR ?_
 intro p e s m args below meth c s₁ Bd hml0 hP hK
 obtain ⟨rfl, hZ, hh⟩ := hP
 have hx := Bd.exec
 have hby := Bd.bytes
 have hml : c.maxLocals = 2 := hml0
 have hown : s.vm.findClass TC = some m.cls := findClass_of_methodNamed Bd.named
 have hnm := (name_of_methodNamed Bd.named Bd.method).1
 have X0 : Stand p l e (Rm 0 0 0 0) s m #[(.ref a1), (.int p2)] below meth c s₁ [] 0 0 := Stand.of_body Bd
 have e0 : s₁.heap = h0 := by rw [← hh, Bd.state]; rfl
 have N0 := Fr.nil n0
 have K0 : Keep h0 h0 [] := Keep.refl h0 _
 refine G (P := fun o U' => ∃ v L, o = .returned v ∧ Q7 Z a1 p2 w_T k_T vs gx h0 n0 v U'.heap L ∧ FrameEnd s o U' L (Rm 0 0 0 0).cells (Rm 0 0 0 0).slots) (fun t k => castTop (ef7 m a1 p2) k) ?_
 show Go _ _ _ (s₁.setTop (mkF m 0 #[vr a1, vi p2] [])) _
 refine G (fun t k => XS.aloadN X0.here hx rfl (hb hby d7_0) rfl rfl k) ?_
 obtain ⟨T1, X1, e1, st1⟩ := getF X0 hx hZ hown (host := "") (Or.inl (wd10 hw)) Via.refl e0 F_a1_terms (g := (mkF m 1 #[vr a1, vi p2] [(.ref a1)])) rfl rfl (hb hby d7_1)
 refine G st1 ?_
 refine G (fun t k => XS.iconst X1.here hx rfl (hb hby d7_4) (XS.iloadN X1.here hx rfl (hb hby d7_5) rfl (XS.imul X1.here hx rfl (hb hby d7_6) rfl (XS.iconst X1.here hx rfl (hb hby d7_7) (XS.iadd X1.here hx rfl (hb hby d7_8) rfl k))))) ?_
 show Go _ _ _ (T1.setTop (mkF m 9 #[vr a1, vi p2] [(.int (((3 : Int32) * p2) + (1 : Int32))), (.ref w_T)])) _
 obtain ⟨cl2, Ar2, -, Sz2, Ng2, Hs2, -⟩ := id V_T
 have hin2 : ¬ ((((3 : Int32) * p2) + (1 : Int32)) < 0 ∨ cl2.slots.size ≤ ((((3 : Int32) * p2) + (1 : Int32))).toNatClampNeg) := inb_of Sz2 hib
 refine G (fun t k => X1.iaload hx (j := (((3 : Int32) * p2) + (1 : Int32))) (v := (.int gx)) (by rw [e1]; exact Ar2.1) (State.isArrayOf_alike hZ.alike Ar2.2.1) Ar2.2.2 hin2 (Has.at Hs2 hin2 hat) (g := (mkF m 9 #[vr a1, vi p2] [(.int (((3 : Int32) * p2) + (1 : Int32))), (.ref w_T)])) rfl rfl (hb hby d7_9) _ k) ?_
 clear hin2 Hs2 Ng2 Sz2 Ar2 cl2
 obtain ⟨fs, hr, hrun, hended, hW, hsame⟩ := X1.leave (v := some (.int gx)) (fun h => by rw [Bd.returns] at h; cases h)
 refine Go.fin (retOut X1 hx Bd.returns rfl (Or.inl ⟨rfl, Or.inl rfl, _, rfl⟩) (hb hby d7_10) hr) hrun hended ⟨_, _, rfl, ?_, ⟨_, rfl⟩, hW, hsame.mono (by decide) (by decide)⟩
 show Q7 Z a1 p2 w_T k_T vs gx h0 n0 _ T1.heap _
 rw [e1]
 exact ⟨rfl, N0, rfl⟩
theorem d8_0 : decode cB8 0 = .ok (.aload_n 0, 1) := by decide +kernel
theorem d8_1 : decode cB8 1 = .ok (.getfield 7, 3) := by decide +kernel
theorem d8_4 : decode cB8 4 = .ok (.iconst 3, 1) := by decide +kernel
theorem d8_5 : decode cB8 5 = .ok (.iload_n 1, 1) := by decide +kernel
theorem d8_6 : decode cB8 6 = .ok (.imul, 1) := by decide +kernel
theorem d8_7 : decode cB8 7 = .ok (.iconst 2, 1) := by decide +kernel
theorem d8_8 : decode cB8 8 = .ok (.iadd, 1) := by decide +kernel
theorem d8_9 : decode cB8 9 = .ok (.iaload, 1) := by decide +kernel
theorem d8_10 : decode cB8 10 = .ok (.ireturn, 1) := by decide +kernel
def Q8 (Z : State) (a1 : Addr) (p2 : Int32) (w_T : Addr) (k_T : ClassId) (vs : List Value) (gx : Int32) (h0 : Heap) (n0 : Nat) (v : Option Value) (h : Heap) (L : List Loc) : Prop := v = some (.int gx) ∧ Fr n0 L ∧ h = h0
theorem ef8 (m : MethodId) (x0 : Addr) (x1 : Int32) : entryFrame m #[(.ref x0), (.int x1)] 2 = mkF m 0 #[.val (.ref x0), .val (.int x1)] [] := by first | (simp [entryFrame, mkF, argsToLocals, Value.category]; done) | rfl
theorem rm8 (l : Launch) (Z : State) (a0 : Array Value) (hw : HW a0 Z) (ws : List Jvm.Cond) (a1 : Addr) (p2 : Int32) (w_T : Addr) (k_T : ClassId) (vs : List Value) (gx : Int32) (h0 : Heap) (n0 : Nat) (Z0 : n0 ≤ h0.size) (F_a1_terms : Fld Z h0 a1 TC "terms" "[I" (.ref w_T)) (V_T : Arv Z h0 w_T k_T .int (192 : Int32) vs (.int (0 : Int32))) (hib : ¬ (((3 : Int32) * p2) + (2 : Int32)) < 0 ∧ (((3 : Int32) * p2) + (2 : Int32)) < (192 : Int32)) (hat : vs.getD (((3 : Int32) * p2) + (2 : Int32)).toNatClampNeg (.int (0 : Int32)) = .int gx) :
  MetFree l (⟨TC, "object", "(I)I"⟩ : MethodName) (head1 (Jvm.Cond.code (⟨TC, "object", "(I)I"⟩ : MethodName) cB8 2 (some .int) :: ws) (Rm 0 0 0 0)) (Pr Z h0 #[(.ref a1), (.int p2)]) Tr (fun _ U o U' => ∃ v L, o = .returned v ∧ Q8 Z a1 p2 w_T k_T vs gx h0 n0 v U'.heap L ∧ FrameEnd U o U' L (Rm 0 0 0 0).cells (Rm 0 0 0 0).slots) := by
 refine MetFree.of_bodySF (plainFor_of_name pn0) hisR ?_
 intro p e s m args below meth c s₁ Bd hml0 hP hK
 obtain ⟨rfl, hZ, hh⟩ := hP
 have hx := Bd.exec
 have hby := Bd.bytes
 have hml : c.maxLocals = 2 := hml0
 have hown : s.vm.findClass TC = some m.cls := findClass_of_methodNamed Bd.named
 have hnm := (name_of_methodNamed Bd.named Bd.method).1
 have X0 : Stand p l e (Rm 0 0 0 0) s m #[(.ref a1), (.int p2)] below meth c s₁ [] 0 0 := Stand.of_body Bd
 have e0 : s₁.heap = h0 := by rw [← hh, Bd.state]; rfl
 have N0 := Fr.nil n0
 have K0 : Keep h0 h0 [] := Keep.refl h0 _
 refine G (P := fun o U' => ∃ v L, o = .returned v ∧ Q8 Z a1 p2 w_T k_T vs gx h0 n0 v U'.heap L ∧ FrameEnd s o U' L (Rm 0 0 0 0).cells (Rm 0 0 0 0).slots) (fun t k => castTop (ef8 m a1 p2) k) ?_
 show Go _ _ _ (s₁.setTop (mkF m 0 #[vr a1, vi p2] [])) _
 refine G (fun t k => XS.aloadN X0.here hx rfl (hb hby d8_0) rfl rfl k) ?_
 obtain ⟨T1, X1, e1, st1⟩ := getF X0 hx hZ hown (host := "") (Or.inl (wd10 hw)) Via.refl e0 F_a1_terms (g := (mkF m 1 #[vr a1, vi p2] [(.ref a1)])) rfl rfl (hb hby d8_1)
 refine G st1 ?_
 refine G (fun t k => XS.iconst X1.here hx rfl (hb hby d8_4) (XS.iloadN X1.here hx rfl (hb hby d8_5) rfl (XS.imul X1.here hx rfl (hb hby d8_6) rfl (XS.iconst X1.here hx rfl (hb hby d8_7) (XS.iadd X1.here hx rfl (hb hby d8_8) rfl k))))) ?_
 show Go _ _ _ (T1.setTop (mkF m 9 #[vr a1, vi p2] [(.int (((3 : Int32) * p2) + (2 : Int32))), (.ref w_T)])) _
 obtain ⟨cl2, Ar2, -, Sz2, Ng2, Hs2, -⟩ := id V_T
 have hin2 : ¬ ((((3 : Int32) * p2) + (2 : Int32)) < 0 ∨ cl2.slots.size ≤ ((((3 : Int32) * p2) + (2 : Int32))).toNatClampNeg) := inb_of Sz2 hib
 refine G (fun t k => X1.iaload hx (j := (((3 : Int32) * p2) + (2 : Int32))) (v := (.int gx)) (by rw [e1]; exact Ar2.1) (State.isArrayOf_alike hZ.alike Ar2.2.1) Ar2.2.2 hin2 (Has.at Hs2 hin2 hat) (g := (mkF m 9 #[vr a1, vi p2] [(.int (((3 : Int32) * p2) + (2 : Int32))), (.ref w_T)])) rfl rfl (hb hby d8_9) _ k) ?_
 clear hin2 Hs2 Ng2 Sz2 Ar2 cl2
 obtain ⟨fs, hr, hrun, hended, hW, hsame⟩ := X1.leave (v := some (.int gx)) (fun h => by rw [Bd.returns] at h; cases h)
 refine Go.fin (retOut X1 hx Bd.returns rfl (Or.inl ⟨rfl, Or.inl rfl, _, rfl⟩) (hb hby d8_10) hr) hrun hended ⟨_, _, rfl, ?_, ⟨_, rfl⟩, hW, hsame.mono (by decide) (by decide)⟩
 show Q8 Z a1 p2 w_T k_T vs gx h0 n0 _ T1.heap _
 rw [e1]
 exact ⟨rfl, N0, rfl⟩
theorem own_pos_ne (a b d i : Int32) : ¬ f3n1_w_S_i0 a b d i = i := by
 unfold f3n1_w_S_i0
 by_cases h : ((f4 a b d) &&& (127 : Int32)) = i
 ·rw [if_pos h]
  exact fun z => own_n1 _ (z.trans h.symm)
 ·rw [if_neg h]
  exact h
theorem own_pos1 (a b d i : Int32) (h : ((f4 a b d) &&& (127 : Int32)) = i) : f3n1_w_S_i0 a b d i = ((((f4 a b d) &&& (127 : Int32)) + (1 : Int32)) &&& (127 : Int32)) := by unfold f3n1_w_S_i0; rw [if_pos h]
theorem own_pos0 (a b d i : Int32) (h : ¬ ((f4 a b d) &&& (127 : Int32)) = i) : f3n1_w_S_i0 a b d i = ((f4 a b d) &&& (127 : Int32)) := by unfold f3n1_w_S_i0; rw [if_neg h]
theorem own_r3 (x : Int32) (k : Int32) (d : Int) (hd : k.toInt = d) (h0 : 0 < d) : 0 ≤ ((x &&& (3 : Int32)) % k).toInt ∧ ((x &&& (3 : Int32)) % k).toInt < d := by
 have h : 0 ≤ (x &&& (3 : Int32)).toInt := (c_andS x 3).2.2 (by decide)
 rw [Int32.toInt_mod, hd]
 exact ⟨Int.tmod_nonneg _ h, Int.tmod_lt_of_pos _ h0⟩
theorem own_j1 (x : Int32) : ((x &&& (3 : Int32)) % (1 : Int32)) = 0 := by
 have h := own_r3 x 1 1 rfl (by decide)
 exact Int32.toInt_inj.mp (show _ = (0 : Int) by omega)
theorem own_j2 (x : Int32) (h0 : ¬ ((x &&& (3 : Int32)) % (2 : Int32)) = 0) : ((x &&& (3 : Int32)) % (2 : Int32)) = 1 := by
 have h := own_r3 x 2 2 rfl (by decide)
 have e0 := own_ne32 (a := 0) rfl h0
 exact Int32.toInt_inj.mp (show _ = (1 : Int) by omega)
theorem own_j3 (x : Int32) (h0 : ¬ ((x &&& (3 : Int32)) % (3 : Int32)) = 0) (h1 : ¬ ((x &&& (3 : Int32)) % (3 : Int32)) = 1) : ((x &&& (3 : Int32)) % (3 : Int32)) = 2 := by
 have h := own_r3 x 3 3 rfl (by decide)
 have e0 := own_ne32 (a := 0) rfl h0; have e1 := own_ne32 (a := 1) rfl h1
 exact Int32.toInt_inj.mp (show _ = (2 : Int) by omega)
theorem wd1 {Z a0} (hw : HW a0 Z) : (Jvm.Cond.classLink "com/example/tripletype/tripletype/TripleTableAddPinLaw" (7 : Nat) TC).before a0 Z = true := mw hw 1 rfl
theorem wd4 {Z a0} (hw : HW a0 Z) : (Jvm.Cond.methodLink "com/example/tripletype/tripletype/TripleTableAddPinLaw" (9 : Nat) ⟨TC, "<init>", "()V"⟩).before a0 Z = true := mw hw 4 rfl
theorem wd6 {Z a0} (hw : HW a0 Z) : (Jvm.Cond.code ⟨TC, "<init>", "()V"⟩ cB1 (1 : Nat) (Option.none : Option Jvm.ClassFile.FieldType)).before a0 Z = true := mw hw 6 rfl
theorem pd1 : parseMethodDescriptor "()V" = some ⟨[], none⟩ := by decide +kernel
theorem wd5 {Z a0} (hw : HW a0 Z) : (Jvm.Cond.instanceMethod ⟨TC, "<init>", "()V"⟩).before a0 Z = true := mw hw 5 rfl
theorem wd14 {Z a0} (hw : HW a0 Z) : (Jvm.Cond.methodLink "com/example/tripletype/tripletype/TripleTableAddPinLaw" (10 : Nat) ⟨TC, "add", "(III)Z"⟩).before a0 Z = true := mw hw 14 rfl
theorem wd18 {Z a0} (hw : HW a0 Z) : (Jvm.Cond.code ⟨TC, "add", "(III)Z"⟩ cB3 (7 : Nat) (Option.some Jvm.ClassFile.FieldType.boolean)).before a0 Z = true := mw hw 18 rfl
theorem pd2 : parseMethodDescriptor "(III)Z" = some ⟨[.int, .int, .int], some .boolean⟩ := by decide +kernel
theorem wd17 {Z a0} (hw : HW a0 Z) : (Jvm.Cond.selects TC ⟨TC, "add", "(III)Z"⟩ ⟨TC, "add", "(III)Z"⟩).before a0 Z = true := mw hw 17 rfl
theorem wd15 {Z a0} (hw : HW a0 Z) : (Jvm.Cond.declares ⟨TC, "add", "(III)Z"⟩).before a0 Z = true := mw hw 15 rfl
theorem wd16 {Z a0} (hw : HW a0 Z) : (Jvm.Cond.instanceMethod ⟨TC, "add", "(III)Z"⟩).before a0 Z = true := mw hw 16 rfl
theorem wd27 {Z a0} (hw : HW a0 Z) : (Jvm.Cond.methodLink "com/example/tripletype/tripletype/TripleTableAddPinLaw" (14 : Nat) ⟨TC, "size", "()I"⟩).before a0 Z = true := mw hw 27 rfl
theorem wd31 {Z a0} (hw : HW a0 Z) : (Jvm.Cond.code ⟨TC, "size", "()I"⟩ cB5 (1 : Nat) (Option.some Jvm.ClassFile.FieldType.int)).before a0 Z = true := mw hw 31 rfl
theorem pd3 : parseMethodDescriptor "()I" = some ⟨[], some .int⟩ := by decide +kernel
theorem wd30 {Z a0} (hw : HW a0 Z) : (Jvm.Cond.selects TC ⟨TC, "size", "()I"⟩ ⟨TC, "size", "()I"⟩).before a0 Z = true := mw hw 30 rfl
theorem wd28 {Z a0} (hw : HW a0 Z) : (Jvm.Cond.declares ⟨TC, "size", "()I"⟩).before a0 Z = true := mw hw 28 rfl
theorem wd29 {Z a0} (hw : HW a0 Z) : (Jvm.Cond.instanceMethod ⟨TC, "size", "()I"⟩).before a0 Z = true := mw hw 29 rfl
theorem wd32 {Z a0} (hw : HW a0 Z) : (Jvm.Cond.methodLink "com/example/tripletype/tripletype/TripleTableAddPinLaw" (18 : Nat) ⟨TC, "subject", "(I)I"⟩).before a0 Z = true := mw hw 32 rfl
theorem wd36 {Z a0} (hw : HW a0 Z) : (Jvm.Cond.code ⟨TC, "subject", "(I)I"⟩ cB6 (2 : Nat) (Option.some Jvm.ClassFile.FieldType.int)).before a0 Z = true := mw hw 36 rfl
theorem pd4 : parseMethodDescriptor "(I)I" = some ⟨[.int], some .int⟩ := by decide +kernel
theorem wd35 {Z a0} (hw : HW a0 Z) : (Jvm.Cond.selects TC ⟨TC, "subject", "(I)I"⟩ ⟨TC, "subject", "(I)I"⟩).before a0 Z = true := mw hw 35 rfl
theorem wd33 {Z a0} (hw : HW a0 Z) : (Jvm.Cond.declares ⟨TC, "subject", "(I)I"⟩).before a0 Z = true := mw hw 33 rfl
theorem wd34 {Z a0} (hw : HW a0 Z) : (Jvm.Cond.instanceMethod ⟨TC, "subject", "(I)I"⟩).before a0 Z = true := mw hw 34 rfl
theorem wd37 {Z a0} (hw : HW a0 Z) : (Jvm.Cond.methodLink "com/example/tripletype/tripletype/TripleTableAddPinLaw" (22 : Nat) ⟨TC, "predicate", "(I)I"⟩).before a0 Z = true := mw hw 37 rfl
theorem wd41 {Z a0} (hw : HW a0 Z) : (Jvm.Cond.code ⟨TC, "predicate", "(I)I"⟩ cB7 (2 : Nat) (Option.some Jvm.ClassFile.FieldType.int)).before a0 Z = true := mw hw 41 rfl
theorem wd40 {Z a0} (hw : HW a0 Z) : (Jvm.Cond.selects TC ⟨TC, "predicate", "(I)I"⟩ ⟨TC, "predicate", "(I)I"⟩).before a0 Z = true := mw hw 40 rfl
theorem wd38 {Z a0} (hw : HW a0 Z) : (Jvm.Cond.declares ⟨TC, "predicate", "(I)I"⟩).before a0 Z = true := mw hw 38 rfl
theorem wd39 {Z a0} (hw : HW a0 Z) : (Jvm.Cond.instanceMethod ⟨TC, "predicate", "(I)I"⟩).before a0 Z = true := mw hw 39 rfl
theorem wd42 {Z a0} (hw : HW a0 Z) : (Jvm.Cond.methodLink "com/example/tripletype/tripletype/TripleTableAddPinLaw" (25 : Nat) ⟨TC, "object", "(I)I"⟩).before a0 Z = true := mw hw 42 rfl
theorem wd46 {Z a0} (hw : HW a0 Z) : (Jvm.Cond.code ⟨TC, "object", "(I)I"⟩ cB8 (2 : Nat) (Option.some Jvm.ClassFile.FieldType.int)).before a0 Z = true := mw hw 46 rfl
theorem wd45 {Z a0} (hw : HW a0 Z) : (Jvm.Cond.selects TC ⟨TC, "object", "(I)I"⟩ ⟨TC, "object", "(I)I"⟩).before a0 Z = true := mw hw 45 rfl
theorem wd43 {Z a0} (hw : HW a0 Z) : (Jvm.Cond.declares ⟨TC, "object", "(I)I"⟩).before a0 Z = true := mw hw 43 rfl
theorem wd44 {Z a0} (hw : HW a0 Z) : (Jvm.Cond.instanceMethod ⟨TC, "object", "(I)I"⟩).before a0 Z = true := mw hw 44 rfl
theorem pn1 : plainName "com/example/tripletype/tripletype/TripleTableAddPinLaw" = true := by first | (simp [plainName, overriddenIn]; done) | decide +kernel
def Q0 (Z : State) (p1 : Int32) (p2 : Int32) (p3 : Int32) (p4 : Int32) (p5 : Int32) (p6 : Int32) (h0 : Heap) (n0 : Nat) (v : Option Value) (h : Heap) (L : List Loc) : Prop := v = some (.int (1 : Int32)) ∧ Fr n0 L
theorem ef0 (m : MethodId) (x0 : Int32) (x1 : Int32) (x2 : Int32) (x3 : Int32) (x4 : Int32) (x5 : Int32) : entryFrame m #[(.int x0), (.int x1), (.int x2), (.int x3), (.int x4), (.int x5)] maxLocals = mkF m 0 #[.val (.int x0), .val (.int x1), .val (.int x2), .val (.int x3), .val (.int x4), .val (.int x5), .unset, .unset, .unset, .unset, .unset, .unset, .unset, .unset, .unset, .unset, .unset, .unset, .unset, .unset, .unset, .unset, .unset, .unset] [] := by first | (simp [entryFrame, mkF, argsToLocals, Value.category, maxLocals]; done) | rfl
theorem TJ0_31 (l : Launch) (Z : State) (a0 : Array Value) (hw : HW a0 Z) (ws : List Jvm.Cond) (p1 : Int32) (p2 : Int32) (p3 : Int32) (p4 : Int32) (p5 : Int32) (p6 : Int32) (h0 : Heap) (n0 : Nat) {p : Program} {e : Env} {s : State} {m : MethodId} {below : List Frame} {meth : Method} {c : Code} {s₁ : State} (Bd : BodyLoose p l x (head1 (Jvm.Cond.code x code maxLocals ret :: ws) room_1) code maxLocals ret e s m #[(.int p1), (.int p2), (.int p3), (.int p4), (.int p5), (.int p6)] below meth c s₁) (hml0 : c.maxLocals = maxLocals) (hZ : Z.Warmed39 s.vm) {TJ : State} {locsJ : List Loc} {hJ : Heap} {b2 : Addr} {b24 : Addr} {y25 : Addr} {k2 : ClassId} {k_y25 : ClassId} {sa : Int32} {sb : Int32} {sc : Int32} {ta : Int32} {tb : Int32} {tc : Int32} {ka : Int32} {kb : Int32} (XJ : Stand p l e room_1 s m #[(.int p1), (.int p2), (.int p3), (.int p4), (.int p5), (.int p6)] below meth c TJ locsJ 4 332) (eJ : TJ.heap = hJ) (NJ : Fr n0 locsJ) (K0 : Keep h0 hJ []) (Z0 : n0 ≤ hJ.size) (V_b2 : Arv Z hJ b2 k2 .int (9 : Int32) [(.int p1), (.int p2), (.int p3), (.int sa), (.int sb), (.int sc), (.int ta), (.int tb), (.int tc)] (.int (0 : Int32))) (E_b24 : Exa Z hJ b24 TC) (F_b24_size : Fld Z hJ b24 TC "size" "I" (.int (3 : Int32))) (F_b24_terms : Fld Z hJ b24 TC "terms" "[I" (.ref y25)) (V_y25 : Arv Z hJ y25 k_y25 .int (192 : Int32) [(.int p1), (.int p2), (.int p3), (.int sa), (.int sb), (.int sc), (.int ta), (.int tb), (.int tc)] (.int (0 : Int32))) :
  Go p.tables e below (TJ.setTop (mkF m 394 #[vi p1, vi p2, vi p3, vi p4, vi p5, vi p6, vi ka, vi sa, vi sb, vi sc, vi kb, vi ta, vi tb, vi tc, vr b2, vi 3, vi 1, vi 1, vr b24, vi 1, vi 1, vi 1, vi 3, vi 0] [])) (fun o U' => ∃ v L, o = .returned v ∧ Q0 Z p1 p2 p3 p4 p5 p6 h0 n0 v U'.heap L ∧ FrameEnd s o U' L 16 768) := by
 have hx := Bd.exec
 have hby := Bd.bytes
 have hml : c.maxLocals = 24 := hml0
 have hown : s.vm.findClass "com/example/tripletype/tripletype/TripleTableAddPinLaw" = some m.cls := findClass_of_methodNamed Bd.named
 have hnm := (name_of_methodNamed Bd.named Bd.method).1
 refine G (fun t k => XS.aload XJ.here hx rfl (hb hby at_394) rfl rfl (XS.iload XJ.here hx rfl (hb hby at_396) rfl k)) ?_
 obtain ⟨cq32, kq32, q32a, q32b, q32c⟩ := isOf hZ eJ E_b24
 obtain ⟨_, _, ⟨T32, L32, k32, n32⟩, -, X32, ⟨Lc32, hQ32, l32, y32, z32⟩, st32⟩ := XJ.virtualBack hx (y := (⟨TC, "subject", "(I)I"⟩ : MethodName)) (z := (⟨TC, "subject", "(I)I"⟩ : MethodName)) hown (mvT hZ (wd32 hw)) (mvT hZ (wd33 hw)) (notFace_of_selects (args := #[]) (mvT hZ (wd35 hw))) (mvT hZ (wd35 hw)) (mvT hZ (wd34 hw)) (by decide) (backOf (W := 0) (rm6 l Z a0 hw [] b24 (0 : Int32) y25 k_y25 [(.int p1), (.int p2), (.int p3), (.int sa), (.int sb), (.int sc), (.int ta), (.int tb), (.int tc)] p1 hJ n0 Z0 F_b24_terms V_y25 (by decide) rfl) hZ (wd36 hw) (wd3 hw) (by decide) (by decide)) q32a q32c (g := (mkF m 398 #[vi p1, vi p2, vi p3, vi p4, vi p5, vi p6, vi ka, vi sa, vi sb, vi sc, vi kb, vi ta, vi tb, vi tc, vr b2, vi 3, vi 1, vi 1, vr b24, vi 1, vi 1, vi 1, vi 3, vi 0] [(.int 0), (.ref b24)])) rfl (by rw [hml]; rfl) (Steps.refl _) (argsL := [(.int (0 : Int32))]) (rest := []) (lenOf pd4 rfl) rfl (by show 2 * 0 + _ ≤ _; exact Nat.le_of_eq rfl) (hb hby at_398) (fun _ _ => ⟨rfl, eJ, (by decide : 4 + 0 ≤ _), (by decide : 332 + 0 ≤ _)⟩)
 dsimp only [Pt.U, Pt.locs, Pt.cells, Pt.slots] at X32 l32 y32 z32 st32 hQ32
 subst l32 y32 z32
 refine Go.tr st32 ?_
 obtain ⟨rfl, N32q, e32⟩ := hQ32
 have N32 := Fr.app NJ N32q
 refine G (fun t k => XS.aload X32.here hx rfl (hb hby at_401) rfl rfl (XS.iconst X32.here hx rfl (hb hby at_403) (XS.iload X32.here hx rfl (hb hby at_404) rfl (XS.imul X32.here hx rfl (hb hby at_406) rfl k)))) ?_
 show Go _ _ _ (T32.setTop (mkF m 407 #[vi p1, vi p2, vi p3, vi p4, vi p5, vi p6, vi ka, vi sa, vi sb, vi sc, vi kb, vi ta, vi tb, vi tc, vr b2, vi 3, vi 1, vi 1, vr b24, vi 1, vi 1, vi 1, vi 3, vi 0] [(.int 0), (.ref b2), (.int p1)])) _
 obtain ⟨cl33, Ar33, -, Sz33, Ng33, Hs33, -⟩ := id V_b2
 have hin33 : ¬ ((0 : Int32) < 0 ∨ cl33.slots.size ≤ ((0 : Int32)).toNatClampNeg) := inb_of Sz33 ⟨by decide, by decide⟩
 refine G (fun t k => X32.iaload hx (j := (0 : Int32)) (v := (.int p1)) (by rw [e32]; exact Ar33.1) (State.isArrayOf_alike hZ.alike Ar33.2.1) Ar33.2.2 hin33 (Has.at Hs33 hin33 rfl) (g := (mkF m 407 #[vi p1, vi p2, vi p3, vi p4, vi p5, vi p6, vi ka, vi sa, vi sb, vi sc, vi kb, vi ta, vi tb, vi tc, vr b2, vi 3, vi 1, vi 1, vr b24, vi 1, vi 1, vi 1, vi 3, vi 0] [(.int 0), (.ref b2), (.int p1)])) rfl rfl (hb hby at_407) _ k) ?_
 clear hin33 Hs33 Ng33 Sz33 Ar33 cl33
 refine G (fun t k => XS.icmpNo X32.here hx rfl (hb hby at_408) rfl (teq (rfl : p1 = p1)).2 (XS.aload X32.here hx rfl (hb hby at_411) rfl rfl (XS.iload X32.here hx rfl (hb hby at_413) rfl k))) ?_
 obtain ⟨cq34, kq34, q34a, q34b, q34c⟩ := isOf hZ e32 E_b24
 obtain ⟨_, _, ⟨T34, L34, k34, n34⟩, -, X34, ⟨Lc34, hQ34, l34, y34, z34⟩, st34⟩ := X32.virtualBack hx (y := (⟨TC, "predicate", "(I)I"⟩ : MethodName)) (z := (⟨TC, "predicate", "(I)I"⟩ : MethodName)) hown (mvT hZ (wd37 hw)) (mvT hZ (wd38 hw)) (notFace_of_selects (args := #[]) (mvT hZ (wd40 hw))) (mvT hZ (wd40 hw)) (mvT hZ (wd39 hw)) (by decide) (backOf (W := 0) (rm7 l Z a0 hw [] b24 (0 : Int32) y25 k_y25 [(.int p1), (.int p2), (.int p3), (.int sa), (.int sb), (.int sc), (.int ta), (.int tb), (.int tc)] p2 hJ n0 Z0 F_b24_terms V_y25 (by decide) rfl) hZ (wd41 hw) (wd3 hw) (by decide) (by decide)) q34a q34c (g := (mkF m 415 #[vi p1, vi p2, vi p3, vi p4, vi p5, vi p6, vi ka, vi sa, vi sb, vi sc, vi kb, vi ta, vi tb, vi tc, vr b2, vi 3, vi 1, vi 1, vr b24, vi 1, vi 1, vi 1, vi 3, vi 0] [(.int 0), (.ref b24)])) rfl (by rw [hml]; rfl) (Steps.refl _) (argsL := [(.int (0 : Int32))]) (rest := []) (lenOf pd4 rfl) rfl (by show 2 * 0 + _ ≤ _; exact Nat.le_of_eq rfl) (hb hby at_415) (fun _ _ => ⟨rfl, e32, (by decide : 4 + 0 ≤ _), (by decide : 332 + 0 ≤ _)⟩)
 dsimp only [Pt.U, Pt.locs, Pt.cells, Pt.slots] at X34 l34 y34 z34 st34 hQ34
 subst l34 y34 z34
 refine Go.tr st34 ?_
 obtain ⟨rfl, N34q, e34⟩ := hQ34
 have N34 := Fr.app N32 N34q
 refine G (fun t k => XS.aload X34.here hx rfl (hb hby at_418) rfl rfl (XS.iconst X34.here hx rfl (hb hby at_420) k)) ?_
 show Go _ _ _ (T34.setTop (mkF m 421 #[vi p1, vi p2, vi p3, vi p4, vi p5, vi p6, vi ka, vi sa, vi sb, vi sc, vi kb, vi ta, vi tb, vi tc, vr b2, vi 3, vi 1, vi 1, vr b24, vi 1, vi 1, vi 1, vi 3, vi 0] [(.int 3), (.ref b2), (.int p2)])) _
 refine G (fun t k => XS.iload X34.here hx rfl (hb hby at_421) rfl (XS.imul X34.here hx rfl (hb hby at_423) rfl (XS.iconst X34.here hx rfl (hb hby at_424) (XS.iadd X34.here hx rfl (hb hby at_425) rfl k)))) ?_
 obtain ⟨cl35, Ar35, -, Sz35, Ng35, Hs35, -⟩ := id V_b2
 have hin35 : ¬ ((1 : Int32) < 0 ∨ cl35.slots.size ≤ ((1 : Int32)).toNatClampNeg) := inb_of Sz35 ⟨by decide, by decide⟩
 refine G (fun t k => X34.iaload hx (j := (1 : Int32)) (v := (.int p2)) (by rw [e34]; exact Ar35.1) (State.isArrayOf_alike hZ.alike Ar35.2.1) Ar35.2.2 hin35 (Has.at Hs35 hin35 rfl) (g := (mkF m 426 #[vi p1, vi p2, vi p3, vi p4, vi p5, vi p6, vi ka, vi sa, vi sb, vi sc, vi kb, vi ta, vi tb, vi tc, vr b2, vi 3, vi 1, vi 1, vr b24, vi 1, vi 1, vi 1, vi 3, vi 0] [(.int 1), (.ref b2), (.int p2)])) rfl rfl (hb hby at_426) _ k) ?_
 clear hin35 Hs35 Ng35 Sz35 Ar35 cl35
 refine G (fun t k => XS.icmpNo X34.here hx rfl (hb hby at_427) rfl (teq (rfl : p2 = p2)).2 (XS.aload X34.here hx rfl (hb hby at_430) rfl rfl k)) ?_
 show Go _ _ _ (T34.setTop (mkF m 432 #[vi p1, vi p2, vi p3, vi p4, vi p5, vi p6, vi ka, vi sa, vi sb, vi sc, vi kb, vi ta, vi tb, vi tc, vr b2, vi 3, vi 1, vi 1, vr b24, vi 1, vi 1, vi 1, vi 3, vi 0] [(.ref b24)])) _
 refine G (fun t k => XS.iload X34.here hx rfl (hb hby at_432) rfl k) ?_
 obtain ⟨cq36, kq36, q36a, q36b, q36c⟩ := isOf hZ e34 E_b24
 obtain ⟨_, _, ⟨T36, L36, k36, n36⟩, -, X36, ⟨Lc36, hQ36, l36, y36, z36⟩, st36⟩ := X34.virtualBack hx (y := (⟨TC, "object", "(I)I"⟩ : MethodName)) (z := (⟨TC, "object", "(I)I"⟩ : MethodName)) hown (mvT hZ (wd42 hw)) (mvT hZ (wd43 hw)) (notFace_of_selects (args := #[]) (mvT hZ (wd45 hw))) (mvT hZ (wd45 hw)) (mvT hZ (wd44 hw)) (by decide) (backOf (W := 0) (rm8 l Z a0 hw [] b24 (0 : Int32) y25 k_y25 [(.int p1), (.int p2), (.int p3), (.int sa), (.int sb), (.int sc), (.int ta), (.int tb), (.int tc)] p3 hJ n0 Z0 F_b24_terms V_y25 (by decide) rfl) hZ (wd46 hw) (wd3 hw) (by decide) (by decide)) q36a q36c (g := (mkF m 434 #[vi p1, vi p2, vi p3, vi p4, vi p5, vi p6, vi ka, vi sa, vi sb, vi sc, vi kb, vi ta, vi tb, vi tc, vr b2, vi 3, vi 1, vi 1, vr b24, vi 1, vi 1, vi 1, vi 3, vi 0] [(.int 0), (.ref b24)])) rfl (by rw [hml]; rfl) (Steps.refl _) (argsL := [(.int (0 : Int32))]) (rest := []) (lenOf pd4 rfl) rfl (by show 2 * 0 + _ ≤ _; exact Nat.le_of_eq rfl) (hb hby at_434) (fun _ _ => ⟨rfl, e34, (by decide : 4 + 0 ≤ _), (by decide : 332 + 0 ≤ _)⟩)
 dsimp only [Pt.U, Pt.locs, Pt.cells, Pt.slots] at X36 l36 y36 z36 st36 hQ36
 subst l36 y36 z36
 refine Go.tr st36 ?_
 obtain ⟨rfl, N36q, e36⟩ := hQ36
 have N36 := Fr.app N34 N36q
 refine G (fun t k => XS.aload X36.here hx rfl (hb hby at_437) rfl rfl (XS.iconst X36.here hx rfl (hb hby at_439) (XS.iload X36.here hx rfl (hb hby at_440) rfl (XS.imul X36.here hx rfl (hb hby at_442) rfl (XS.iconst X36.here hx rfl (hb hby at_443) k))))) ?_
 show Go _ _ _ (T36.setTop (mkF m 444 #[vi p1, vi p2, vi p3, vi p4, vi p5, vi p6, vi ka, vi sa, vi sb, vi sc, vi kb, vi ta, vi tb, vi tc, vr b2, vi 3, vi 1, vi 1, vr b24, vi 1, vi 1, vi 1, vi 3, vi 0] [(.int 2), (.int 0), (.ref b2), (.int p3)])) _
 refine G (fun t k => XS.iadd X36.here hx rfl (hb hby at_444) rfl k) ?_
 obtain ⟨cl37, Ar37, -, Sz37, Ng37, Hs37, -⟩ := id V_b2
 have hin37 : ¬ ((2 : Int32) < 0 ∨ cl37.slots.size ≤ ((2 : Int32)).toNatClampNeg) := inb_of Sz37 ⟨by decide, by decide⟩
 refine G (fun t k => X36.iaload hx (j := (2 : Int32)) (v := (.int p3)) (by rw [e36]; exact Ar37.1) (State.isArrayOf_alike hZ.alike Ar37.2.1) Ar37.2.2 hin37 (Has.at Hs37 hin37 rfl) (g := (mkF m 445 #[vi p1, vi p2, vi p3, vi p4, vi p5, vi p6, vi ka, vi sa, vi sb, vi sc, vi kb, vi ta, vi tb, vi tc, vr b2, vi 3, vi 1, vi 1, vr b24, vi 1, vi 1, vi 1, vi 3, vi 0] [(.int 2), (.ref b2), (.int p3)])) rfl rfl (hb hby at_445) _ k) ?_
 clear hin37 Hs37 Ng37 Sz37 Ar37 cl37
 refine G (fun t k => XS.icmpNo X36.here hx rfl (hb hby at_446) rfl (teq (rfl : p3 = p3)).2 (XS.iconst X36.here hx rfl (hb hby at_449) (XS.goto X36.here hx rfl (pc0 := 450) (pc' := 454) rfl (hb hby at_450) (by decide) (by decide) k))) ?_
 obtain ⟨fs, hr, hrun, hended, hW, hsame⟩ := X36.leave (v := some (.int (1 : Int32))) (fun h => by rw [Bd.returns] at h; cases h)
 refine Go.fin (retN X36 hx (t := .boolean) Bd.returns (by simp) (hb hby at_454) hr) hrun hended ⟨_, _, rfl, ?_, ⟨_, rfl⟩, hW, hsame.mono (by decide) (by decide)⟩
 show Q0 Z p1 p2 p3 p4 p5 p6 h0 n0 _ T36.heap _
 rw [e36]
 exact ⟨rfl, N36⟩
theorem TJ0_39 (l : Launch) (Z : State) (a0 : Array Value) (hw : HW a0 Z) (ws : List Jvm.Cond) (p1 : Int32) (p2 : Int32) (p3 : Int32) (p4 : Int32) (p5 : Int32) (p6 : Int32) (h0 : Heap) (n0 : Nat) {p : Program} {e : Env} {s : State} {m : MethodId} {below : List Frame} {meth : Method} {c : Code} {s₁ : State} (Bd : BodyLoose p l x (head1 (Jvm.Cond.code x code maxLocals ret :: ws) room_1) code maxLocals ret e s m #[(.int p1), (.int p2), (.int p3), (.int p4), (.int p5), (.int p6)] below meth c s₁) (hml0 : c.maxLocals = maxLocals) (hZ : Z.Warmed39 s.vm) {TJ : State} {locsJ : List Loc} {hJ : Heap} {b2 : Addr} {b24 : Addr} {y25 : Addr} {k2 : ClassId} {k_y25 : ClassId} {sa : Int32} {sb : Int32} {sc : Int32} {ta : Int32} {tb : Int32} {tc : Int32} {ka : Int32} {kb : Int32} (XJ : Stand p l e room_1 s m #[(.int p1), (.int p2), (.int p3), (.int p4), (.int p5), (.int p6)] below meth c TJ locsJ 4 332) (eJ : TJ.heap = hJ) (NJ : Fr n0 locsJ) (K0 : Keep h0 hJ []) (Z0 : n0 ≤ hJ.size) (V_b2 : Arv Z hJ b2 k2 .int (9 : Int32) [(.int p1), (.int p2), (.int p3), (.int sa), (.int sb), (.int sc), (.int ta), (.int tb), (.int tc)] (.int (0 : Int32))) (E_b24 : Exa Z hJ b24 TC) (F_b24_size : Fld Z hJ b24 TC "size" "I" (.int (3 : Int32))) (F_b24_terms : Fld Z hJ b24 TC "terms" "[I" (.ref y25)) (V_y25 : Arv Z hJ y25 k_y25 .int (192 : Int32) [(.int p1), (.int p2), (.int p3), (.int sa), (.int sb), (.int sc), (.int ta), (.int tb), (.int tc)] (.int (0 : Int32))) :
  Go p.tables e below (TJ.setTop (mkF m 394 #[vi p1, vi p2, vi p3, vi p4, vi p5, vi p6, vi ka, vi sa, vi sb, vi sc, vi kb, vi ta, vi tb, vi tc, vr b2, vi 3, vi 1, vi 1, vr b24, vi 1, vi 1, vi 1, vi 3, vi 1] [])) (fun o U' => ∃ v L, o = .returned v ∧ Q0 Z p1 p2 p3 p4 p5 p6 h0 n0 v U'.heap L ∧ FrameEnd s o U' L 16 768) := by
 have hx := Bd.exec
 have hby := Bd.bytes
 have hml : c.maxLocals = 24 := hml0
 have hown : s.vm.findClass "com/example/tripletype/tripletype/TripleTableAddPinLaw" = some m.cls := findClass_of_methodNamed Bd.named
 have hnm := (name_of_methodNamed Bd.named Bd.method).1
 refine G (fun t k => XS.aload XJ.here hx rfl (hb hby at_394) rfl rfl (XS.iload XJ.here hx rfl (hb hby at_396) rfl k)) ?_
 obtain ⟨cq40, kq40, q40a, q40b, q40c⟩ := isOf hZ eJ E_b24
 obtain ⟨_, _, ⟨T40, L40, k40, n40⟩, -, X40, ⟨Lc40, hQ40, l40, y40, z40⟩, st40⟩ := XJ.virtualBack hx (y := (⟨TC, "subject", "(I)I"⟩ : MethodName)) (z := (⟨TC, "subject", "(I)I"⟩ : MethodName)) hown (mvT hZ (wd32 hw)) (mvT hZ (wd33 hw)) (notFace_of_selects (args := #[]) (mvT hZ (wd35 hw))) (mvT hZ (wd35 hw)) (mvT hZ (wd34 hw)) (by decide) (backOf (W := 0) (rm6 l Z a0 hw [] b24 (1 : Int32) y25 k_y25 [(.int p1), (.int p2), (.int p3), (.int sa), (.int sb), (.int sc), (.int ta), (.int tb), (.int tc)] sa hJ n0 Z0 F_b24_terms V_y25 (by decide) rfl) hZ (wd36 hw) (wd3 hw) (by decide) (by decide)) q40a q40c (g := (mkF m 398 #[vi p1, vi p2, vi p3, vi p4, vi p5, vi p6, vi ka, vi sa, vi sb, vi sc, vi kb, vi ta, vi tb, vi tc, vr b2, vi 3, vi 1, vi 1, vr b24, vi 1, vi 1, vi 1, vi 3, vi 1] [(.int 1), (.ref b24)])) rfl (by rw [hml]; rfl) (Steps.refl _) (argsL := [(.int (1 : Int32))]) (rest := []) (lenOf pd4 rfl) rfl (by show 2 * 0 + _ ≤ _; exact Nat.le_of_eq rfl) (hb hby at_398) (fun _ _ => ⟨rfl, eJ, (by decide : 4 + 0 ≤ _), (by decide : 332 + 0 ≤ _)⟩)
 dsimp only [Pt.U, Pt.locs, Pt.cells, Pt.slots] at X40 l40 y40 z40 st40 hQ40
 subst l40 y40 z40
 refine Go.tr st40 ?_
 obtain ⟨rfl, N40q, e40⟩ := hQ40
 have N40 := Fr.app NJ N40q
 refine G (fun t k => XS.aload X40.here hx rfl (hb hby at_401) rfl rfl (XS.iconst X40.here hx rfl (hb hby at_403) (XS.iload X40.here hx rfl (hb hby at_404) rfl (XS.imul X40.here hx rfl (hb hby at_406) rfl k)))) ?_
 show Go _ _ _ (T40.setTop (mkF m 407 #[vi p1, vi p2, vi p3, vi p4, vi p5, vi p6, vi ka, vi sa, vi sb, vi sc, vi kb, vi ta, vi tb, vi tc, vr b2, vi 3, vi 1, vi 1, vr b24, vi 1, vi 1, vi 1, vi 3, vi 1] [(.int 3), (.ref b2), (.int sa)])) _
 obtain ⟨cl41, Ar41, -, Sz41, Ng41, Hs41, -⟩ := id V_b2
 have hin41 : ¬ ((3 : Int32) < 0 ∨ cl41.slots.size ≤ ((3 : Int32)).toNatClampNeg) := inb_of Sz41 ⟨by decide, by decide⟩
 refine G (fun t k => X40.iaload hx (j := (3 : Int32)) (v := (.int sa)) (by rw [e40]; exact Ar41.1) (State.isArrayOf_alike hZ.alike Ar41.2.1) Ar41.2.2 hin41 (Has.at Hs41 hin41 rfl) (g := (mkF m 407 #[vi p1, vi p2, vi p3, vi p4, vi p5, vi p6, vi ka, vi sa, vi sb, vi sc, vi kb, vi ta, vi tb, vi tc, vr b2, vi 3, vi 1, vi 1, vr b24, vi 1, vi 1, vi 1, vi 3, vi 1] [(.int 3), (.ref b2), (.int sa)])) rfl rfl (hb hby at_407) _ k) ?_
 clear hin41 Hs41 Ng41 Sz41 Ar41 cl41
 refine G (fun t k => XS.icmpNo X40.here hx rfl (hb hby at_408) rfl (teq (rfl : sa = sa)).2 (XS.aload X40.here hx rfl (hb hby at_411) rfl rfl (XS.iload X40.here hx rfl (hb hby at_413) rfl k))) ?_
 obtain ⟨cq42, kq42, q42a, q42b, q42c⟩ := isOf hZ e40 E_b24
 obtain ⟨_, _, ⟨T42, L42, k42, n42⟩, -, X42, ⟨Lc42, hQ42, l42, y42, z42⟩, st42⟩ := X40.virtualBack hx (y := (⟨TC, "predicate", "(I)I"⟩ : MethodName)) (z := (⟨TC, "predicate", "(I)I"⟩ : MethodName)) hown (mvT hZ (wd37 hw)) (mvT hZ (wd38 hw)) (notFace_of_selects (args := #[]) (mvT hZ (wd40 hw))) (mvT hZ (wd40 hw)) (mvT hZ (wd39 hw)) (by decide) (backOf (W := 0) (rm7 l Z a0 hw [] b24 (1 : Int32) y25 k_y25 [(.int p1), (.int p2), (.int p3), (.int sa), (.int sb), (.int sc), (.int ta), (.int tb), (.int tc)] sb hJ n0 Z0 F_b24_terms V_y25 (by decide) rfl) hZ (wd41 hw) (wd3 hw) (by decide) (by decide)) q42a q42c (g := (mkF m 415 #[vi p1, vi p2, vi p3, vi p4, vi p5, vi p6, vi ka, vi sa, vi sb, vi sc, vi kb, vi ta, vi tb, vi tc, vr b2, vi 3, vi 1, vi 1, vr b24, vi 1, vi 1, vi 1, vi 3, vi 1] [(.int 1), (.ref b24)])) rfl (by rw [hml]; rfl) (Steps.refl _) (argsL := [(.int (1 : Int32))]) (rest := []) (lenOf pd4 rfl) rfl (by show 2 * 0 + _ ≤ _; exact Nat.le_of_eq rfl) (hb hby at_415) (fun _ _ => ⟨rfl, e40, (by decide : 4 + 0 ≤ _), (by decide : 332 + 0 ≤ _)⟩)
 dsimp only [Pt.U, Pt.locs, Pt.cells, Pt.slots] at X42 l42 y42 z42 st42 hQ42
 subst l42 y42 z42
 refine Go.tr st42 ?_
 obtain ⟨rfl, N42q, e42⟩ := hQ42
 have N42 := Fr.app N40 N42q
 refine G (fun t k => XS.aload X42.here hx rfl (hb hby at_418) rfl rfl (XS.iconst X42.here hx rfl (hb hby at_420) k)) ?_
 show Go _ _ _ (T42.setTop (mkF m 421 #[vi p1, vi p2, vi p3, vi p4, vi p5, vi p6, vi ka, vi sa, vi sb, vi sc, vi kb, vi ta, vi tb, vi tc, vr b2, vi 3, vi 1, vi 1, vr b24, vi 1, vi 1, vi 1, vi 3, vi 1] [(.int 3), (.ref b2), (.int sb)])) _
 refine G (fun t k => XS.iload X42.here hx rfl (hb hby at_421) rfl (XS.imul X42.here hx rfl (hb hby at_423) rfl (XS.iconst X42.here hx rfl (hb hby at_424) (XS.iadd X42.here hx rfl (hb hby at_425) rfl k)))) ?_
 obtain ⟨cl43, Ar43, -, Sz43, Ng43, Hs43, -⟩ := id V_b2
 have hin43 : ¬ ((4 : Int32) < 0 ∨ cl43.slots.size ≤ ((4 : Int32)).toNatClampNeg) := inb_of Sz43 ⟨by decide, by decide⟩
 refine G (fun t k => X42.iaload hx (j := (4 : Int32)) (v := (.int sb)) (by rw [e42]; exact Ar43.1) (State.isArrayOf_alike hZ.alike Ar43.2.1) Ar43.2.2 hin43 (Has.at Hs43 hin43 rfl) (g := (mkF m 426 #[vi p1, vi p2, vi p3, vi p4, vi p5, vi p6, vi ka, vi sa, vi sb, vi sc, vi kb, vi ta, vi tb, vi tc, vr b2, vi 3, vi 1, vi 1, vr b24, vi 1, vi 1, vi 1, vi 3, vi 1] [(.int 4), (.ref b2), (.int sb)])) rfl rfl (hb hby at_426) _ k) ?_
 clear hin43 Hs43 Ng43 Sz43 Ar43 cl43
 refine G (fun t k => XS.icmpNo X42.here hx rfl (hb hby at_427) rfl (teq (rfl : sb = sb)).2 (XS.aload X42.here hx rfl (hb hby at_430) rfl rfl k)) ?_
 show Go _ _ _ (T42.setTop (mkF m 432 #[vi p1, vi p2, vi p3, vi p4, vi p5, vi p6, vi ka, vi sa, vi sb, vi sc, vi kb, vi ta, vi tb, vi tc, vr b2, vi 3, vi 1, vi 1, vr b24, vi 1, vi 1, vi 1, vi 3, vi 1] [(.ref b24)])) _
 refine G (fun t k => XS.iload X42.here hx rfl (hb hby at_432) rfl k) ?_
 obtain ⟨cq44, kq44, q44a, q44b, q44c⟩ := isOf hZ e42 E_b24
 obtain ⟨_, _, ⟨T44, L44, k44, n44⟩, -, X44, ⟨Lc44, hQ44, l44, y44, z44⟩, st44⟩ := X42.virtualBack hx (y := (⟨TC, "object", "(I)I"⟩ : MethodName)) (z := (⟨TC, "object", "(I)I"⟩ : MethodName)) hown (mvT hZ (wd42 hw)) (mvT hZ (wd43 hw)) (notFace_of_selects (args := #[]) (mvT hZ (wd45 hw))) (mvT hZ (wd45 hw)) (mvT hZ (wd44 hw)) (by decide) (backOf (W := 0) (rm8 l Z a0 hw [] b24 (1 : Int32) y25 k_y25 [(.int p1), (.int p2), (.int p3), (.int sa), (.int sb), (.int sc), (.int ta), (.int tb), (.int tc)] sc hJ n0 Z0 F_b24_terms V_y25 (by decide) rfl) hZ (wd46 hw) (wd3 hw) (by decide) (by decide)) q44a q44c (g := (mkF m 434 #[vi p1, vi p2, vi p3, vi p4, vi p5, vi p6, vi ka, vi sa, vi sb, vi sc, vi kb, vi ta, vi tb, vi tc, vr b2, vi 3, vi 1, vi 1, vr b24, vi 1, vi 1, vi 1, vi 3, vi 1] [(.int 1), (.ref b24)])) rfl (by rw [hml]; rfl) (Steps.refl _) (argsL := [(.int (1 : Int32))]) (rest := []) (lenOf pd4 rfl) rfl (by show 2 * 0 + _ ≤ _; exact Nat.le_of_eq rfl) (hb hby at_434) (fun _ _ => ⟨rfl, e42, (by decide : 4 + 0 ≤ _), (by decide : 332 + 0 ≤ _)⟩)
 dsimp only [Pt.U, Pt.locs, Pt.cells, Pt.slots] at X44 l44 y44 z44 st44 hQ44
 subst l44 y44 z44
 refine Go.tr st44 ?_
 obtain ⟨rfl, N44q, e44⟩ := hQ44
 have N44 := Fr.app N42 N44q
 refine G (fun t k => XS.aload X44.here hx rfl (hb hby at_437) rfl rfl (XS.iconst X44.here hx rfl (hb hby at_439) (XS.iload X44.here hx rfl (hb hby at_440) rfl (XS.imul X44.here hx rfl (hb hby at_442) rfl (XS.iconst X44.here hx rfl (hb hby at_443) k))))) ?_
 show Go _ _ _ (T44.setTop (mkF m 444 #[vi p1, vi p2, vi p3, vi p4, vi p5, vi p6, vi ka, vi sa, vi sb, vi sc, vi kb, vi ta, vi tb, vi tc, vr b2, vi 3, vi 1, vi 1, vr b24, vi 1, vi 1, vi 1, vi 3, vi 1] [(.int 2), (.int 3), (.ref b2), (.int sc)])) _
 refine G (fun t k => XS.iadd X44.here hx rfl (hb hby at_444) rfl k) ?_
 obtain ⟨cl45, Ar45, -, Sz45, Ng45, Hs45, -⟩ := id V_b2
 have hin45 : ¬ ((5 : Int32) < 0 ∨ cl45.slots.size ≤ ((5 : Int32)).toNatClampNeg) := inb_of Sz45 ⟨by decide, by decide⟩
 refine G (fun t k => X44.iaload hx (j := (5 : Int32)) (v := (.int sc)) (by rw [e44]; exact Ar45.1) (State.isArrayOf_alike hZ.alike Ar45.2.1) Ar45.2.2 hin45 (Has.at Hs45 hin45 rfl) (g := (mkF m 445 #[vi p1, vi p2, vi p3, vi p4, vi p5, vi p6, vi ka, vi sa, vi sb, vi sc, vi kb, vi ta, vi tb, vi tc, vr b2, vi 3, vi 1, vi 1, vr b24, vi 1, vi 1, vi 1, vi 3, vi 1] [(.int 5), (.ref b2), (.int sc)])) rfl rfl (hb hby at_445) _ k) ?_
 clear hin45 Hs45 Ng45 Sz45 Ar45 cl45
 refine G (fun t k => XS.icmpNo X44.here hx rfl (hb hby at_446) rfl (teq (rfl : sc = sc)).2 (XS.iconst X44.here hx rfl (hb hby at_449) (XS.goto X44.here hx rfl (pc0 := 450) (pc' := 454) rfl (hb hby at_450) (by decide) (by decide) k))) ?_
 obtain ⟨fs, hr, hrun, hended, hW, hsame⟩ := X44.leave (v := some (.int (1 : Int32))) (fun h => by rw [Bd.returns] at h; cases h)
 refine Go.fin (retN X44 hx (t := .boolean) Bd.returns (by simp) (hb hby at_454) hr) hrun hended ⟨_, _, rfl, ?_, ⟨_, rfl⟩, hW, hsame.mono (by decide) (by decide)⟩
 show Q0 Z p1 p2 p3 p4 p5 p6 h0 n0 _ T44.heap _
 rw [e44]
 exact ⟨rfl, N44⟩
theorem TJ0_46 (l : Launch) (Z : State) (a0 : Array Value) (hw : HW a0 Z) (ws : List Jvm.Cond) (p1 : Int32) (p2 : Int32) (p3 : Int32) (p4 : Int32) (p5 : Int32) (p6 : Int32) (h0 : Heap) (n0 : Nat) {p : Program} {e : Env} {s : State} {m : MethodId} {below : List Frame} {meth : Method} {c : Code} {s₁ : State} (Bd : BodyLoose p l x (head1 (Jvm.Cond.code x code maxLocals ret :: ws) room_1) code maxLocals ret e s m #[(.int p1), (.int p2), (.int p3), (.int p4), (.int p5), (.int p6)] below meth c s₁) (hml0 : c.maxLocals = maxLocals) (hZ : Z.Warmed39 s.vm) {TJ : State} {locsJ : List Loc} {hJ : Heap} {b2 : Addr} {b24 : Addr} {y25 : Addr} {k2 : ClassId} {k_y25 : ClassId} {sa : Int32} {sb : Int32} {sc : Int32} {ta : Int32} {tb : Int32} {tc : Int32} {ka : Int32} {kb : Int32} (XJ : Stand p l e room_1 s m #[(.int p1), (.int p2), (.int p3), (.int p4), (.int p5), (.int p6)] below meth c TJ locsJ 4 332) (eJ : TJ.heap = hJ) (NJ : Fr n0 locsJ) (K0 : Keep h0 hJ []) (Z0 : n0 ≤ hJ.size) (V_b2 : Arv Z hJ b2 k2 .int (9 : Int32) [(.int p1), (.int p2), (.int p3), (.int sa), (.int sb), (.int sc), (.int ta), (.int tb), (.int tc)] (.int (0 : Int32))) (E_b24 : Exa Z hJ b24 TC) (F_b24_size : Fld Z hJ b24 TC "size" "I" (.int (3 : Int32))) (F_b24_terms : Fld Z hJ b24 TC "terms" "[I" (.ref y25)) (V_y25 : Arv Z hJ y25 k_y25 .int (192 : Int32) [(.int p1), (.int p2), (.int p3), (.int sa), (.int sb), (.int sc), (.int ta), (.int tb), (.int tc)] (.int (0 : Int32))) :
  Go p.tables e below (TJ.setTop (mkF m 394 #[vi p1, vi p2, vi p3, vi p4, vi p5, vi p6, vi ka, vi sa, vi sb, vi sc, vi kb, vi ta, vi tb, vi tc, vr b2, vi 3, vi 1, vi 1, vr b24, vi 1, vi 1, vi 1, vi 3, vi 2] [])) (fun o U' => ∃ v L, o = .returned v ∧ Q0 Z p1 p2 p3 p4 p5 p6 h0 n0 v U'.heap L ∧ FrameEnd s o U' L 16 768) := by
 have hx := Bd.exec
 have hby := Bd.bytes
 have hml : c.maxLocals = 24 := hml0
 have hown : s.vm.findClass "com/example/tripletype/tripletype/TripleTableAddPinLaw" = some m.cls := findClass_of_methodNamed Bd.named
 have hnm := (name_of_methodNamed Bd.named Bd.method).1
 refine G (fun t k => XS.aload XJ.here hx rfl (hb hby at_394) rfl rfl (XS.iload XJ.here hx rfl (hb hby at_396) rfl k)) ?_
 obtain ⟨cq47, kq47, q47a, q47b, q47c⟩ := isOf hZ eJ E_b24
 obtain ⟨_, _, ⟨T47, L47, k47, n47⟩, -, X47, ⟨Lc47, hQ47, l47, y47, z47⟩, st47⟩ := XJ.virtualBack hx (y := (⟨TC, "subject", "(I)I"⟩ : MethodName)) (z := (⟨TC, "subject", "(I)I"⟩ : MethodName)) hown (mvT hZ (wd32 hw)) (mvT hZ (wd33 hw)) (notFace_of_selects (args := #[]) (mvT hZ (wd35 hw))) (mvT hZ (wd35 hw)) (mvT hZ (wd34 hw)) (by decide) (backOf (W := 0) (rm6 l Z a0 hw [] b24 (2 : Int32) y25 k_y25 [(.int p1), (.int p2), (.int p3), (.int sa), (.int sb), (.int sc), (.int ta), (.int tb), (.int tc)] ta hJ n0 Z0 F_b24_terms V_y25 (by decide) rfl) hZ (wd36 hw) (wd3 hw) (by decide) (by decide)) q47a q47c (g := (mkF m 398 #[vi p1, vi p2, vi p3, vi p4, vi p5, vi p6, vi ka, vi sa, vi sb, vi sc, vi kb, vi ta, vi tb, vi tc, vr b2, vi 3, vi 1, vi 1, vr b24, vi 1, vi 1, vi 1, vi 3, vi 2] [(.int 2), (.ref b24)])) rfl (by rw [hml]; rfl) (Steps.refl _) (argsL := [(.int (2 : Int32))]) (rest := []) (lenOf pd4 rfl) rfl (by show 2 * 0 + _ ≤ _; exact Nat.le_of_eq rfl) (hb hby at_398) (fun _ _ => ⟨rfl, eJ, (by decide : 4 + 0 ≤ _), (by decide : 332 + 0 ≤ _)⟩)
 dsimp only [Pt.U, Pt.locs, Pt.cells, Pt.slots] at X47 l47 y47 z47 st47 hQ47
 subst l47 y47 z47
 refine Go.tr st47 ?_
 obtain ⟨rfl, N47q, e47⟩ := hQ47
 have N47 := Fr.app NJ N47q
 refine G (fun t k => XS.aload X47.here hx rfl (hb hby at_401) rfl rfl (XS.iconst X47.here hx rfl (hb hby at_403) (XS.iload X47.here hx rfl (hb hby at_404) rfl (XS.imul X47.here hx rfl (hb hby at_406) rfl k)))) ?_
 show Go _ _ _ (T47.setTop (mkF m 407 #[vi p1, vi p2, vi p3, vi p4, vi p5, vi p6, vi ka, vi sa, vi sb, vi sc, vi kb, vi ta, vi tb, vi tc, vr b2, vi 3, vi 1, vi 1, vr b24, vi 1, vi 1, vi 1, vi 3, vi 2] [(.int 6), (.ref b2), (.int ta)])) _
 obtain ⟨cl48, Ar48, -, Sz48, Ng48, Hs48, -⟩ := id V_b2
 have hin48 : ¬ ((6 : Int32) < 0 ∨ cl48.slots.size ≤ ((6 : Int32)).toNatClampNeg) := inb_of Sz48 ⟨by decide, by decide⟩
 refine G (fun t k => X47.iaload hx (j := (6 : Int32)) (v := (.int ta)) (by rw [e47]; exact Ar48.1) (State.isArrayOf_alike hZ.alike Ar48.2.1) Ar48.2.2 hin48 (Has.at Hs48 hin48 rfl) (g := (mkF m 407 #[vi p1, vi p2, vi p3, vi p4, vi p5, vi p6, vi ka, vi sa, vi sb, vi sc, vi kb, vi ta, vi tb, vi tc, vr b2, vi 3, vi 1, vi 1, vr b24, vi 1, vi 1, vi 1, vi 3, vi 2] [(.int 6), (.ref b2), (.int ta)])) rfl rfl (hb hby at_407) _ k) ?_
 clear hin48 Hs48 Ng48 Sz48 Ar48 cl48
 refine G (fun t k => XS.icmpNo X47.here hx rfl (hb hby at_408) rfl (teq (rfl : ta = ta)).2 (XS.aload X47.here hx rfl (hb hby at_411) rfl rfl (XS.iload X47.here hx rfl (hb hby at_413) rfl k))) ?_
 obtain ⟨cq49, kq49, q49a, q49b, q49c⟩ := isOf hZ e47 E_b24
 obtain ⟨_, _, ⟨T49, L49, k49, n49⟩, -, X49, ⟨Lc49, hQ49, l49, y49, z49⟩, st49⟩ := X47.virtualBack hx (y := (⟨TC, "predicate", "(I)I"⟩ : MethodName)) (z := (⟨TC, "predicate", "(I)I"⟩ : MethodName)) hown (mvT hZ (wd37 hw)) (mvT hZ (wd38 hw)) (notFace_of_selects (args := #[]) (mvT hZ (wd40 hw))) (mvT hZ (wd40 hw)) (mvT hZ (wd39 hw)) (by decide) (backOf (W := 0) (rm7 l Z a0 hw [] b24 (2 : Int32) y25 k_y25 [(.int p1), (.int p2), (.int p3), (.int sa), (.int sb), (.int sc), (.int ta), (.int tb), (.int tc)] tb hJ n0 Z0 F_b24_terms V_y25 (by decide) rfl) hZ (wd41 hw) (wd3 hw) (by decide) (by decide)) q49a q49c (g := (mkF m 415 #[vi p1, vi p2, vi p3, vi p4, vi p5, vi p6, vi ka, vi sa, vi sb, vi sc, vi kb, vi ta, vi tb, vi tc, vr b2, vi 3, vi 1, vi 1, vr b24, vi 1, vi 1, vi 1, vi 3, vi 2] [(.int 2), (.ref b24)])) rfl (by rw [hml]; rfl) (Steps.refl _) (argsL := [(.int (2 : Int32))]) (rest := []) (lenOf pd4 rfl) rfl (by show 2 * 0 + _ ≤ _; exact Nat.le_of_eq rfl) (hb hby at_415) (fun _ _ => ⟨rfl, e47, (by decide : 4 + 0 ≤ _), (by decide : 332 + 0 ≤ _)⟩)
 dsimp only [Pt.U, Pt.locs, Pt.cells, Pt.slots] at X49 l49 y49 z49 st49 hQ49
 subst l49 y49 z49
 refine Go.tr st49 ?_
 obtain ⟨rfl, N49q, e49⟩ := hQ49
 have N49 := Fr.app N47 N49q
 refine G (fun t k => XS.aload X49.here hx rfl (hb hby at_418) rfl rfl (XS.iconst X49.here hx rfl (hb hby at_420) k)) ?_
 show Go _ _ _ (T49.setTop (mkF m 421 #[vi p1, vi p2, vi p3, vi p4, vi p5, vi p6, vi ka, vi sa, vi sb, vi sc, vi kb, vi ta, vi tb, vi tc, vr b2, vi 3, vi 1, vi 1, vr b24, vi 1, vi 1, vi 1, vi 3, vi 2] [(.int 3), (.ref b2), (.int tb)])) _
 refine G (fun t k => XS.iload X49.here hx rfl (hb hby at_421) rfl (XS.imul X49.here hx rfl (hb hby at_423) rfl (XS.iconst X49.here hx rfl (hb hby at_424) (XS.iadd X49.here hx rfl (hb hby at_425) rfl k)))) ?_
 obtain ⟨cl50, Ar50, -, Sz50, Ng50, Hs50, -⟩ := id V_b2
 have hin50 : ¬ ((7 : Int32) < 0 ∨ cl50.slots.size ≤ ((7 : Int32)).toNatClampNeg) := inb_of Sz50 ⟨by decide, by decide⟩
 refine G (fun t k => X49.iaload hx (j := (7 : Int32)) (v := (.int tb)) (by rw [e49]; exact Ar50.1) (State.isArrayOf_alike hZ.alike Ar50.2.1) Ar50.2.2 hin50 (Has.at Hs50 hin50 rfl) (g := (mkF m 426 #[vi p1, vi p2, vi p3, vi p4, vi p5, vi p6, vi ka, vi sa, vi sb, vi sc, vi kb, vi ta, vi tb, vi tc, vr b2, vi 3, vi 1, vi 1, vr b24, vi 1, vi 1, vi 1, vi 3, vi 2] [(.int 7), (.ref b2), (.int tb)])) rfl rfl (hb hby at_426) _ k) ?_
 clear hin50 Hs50 Ng50 Sz50 Ar50 cl50
 refine G (fun t k => XS.icmpNo X49.here hx rfl (hb hby at_427) rfl (teq (rfl : tb = tb)).2 (XS.aload X49.here hx rfl (hb hby at_430) rfl rfl k)) ?_
 show Go _ _ _ (T49.setTop (mkF m 432 #[vi p1, vi p2, vi p3, vi p4, vi p5, vi p6, vi ka, vi sa, vi sb, vi sc, vi kb, vi ta, vi tb, vi tc, vr b2, vi 3, vi 1, vi 1, vr b24, vi 1, vi 1, vi 1, vi 3, vi 2] [(.ref b24)])) _
 refine G (fun t k => XS.iload X49.here hx rfl (hb hby at_432) rfl k) ?_
 obtain ⟨cq51, kq51, q51a, q51b, q51c⟩ := isOf hZ e49 E_b24
 obtain ⟨_, _, ⟨T51, L51, k51, n51⟩, -, X51, ⟨Lc51, hQ51, l51, y51, z51⟩, st51⟩ := X49.virtualBack hx (y := (⟨TC, "object", "(I)I"⟩ : MethodName)) (z := (⟨TC, "object", "(I)I"⟩ : MethodName)) hown (mvT hZ (wd42 hw)) (mvT hZ (wd43 hw)) (notFace_of_selects (args := #[]) (mvT hZ (wd45 hw))) (mvT hZ (wd45 hw)) (mvT hZ (wd44 hw)) (by decide) (backOf (W := 0) (rm8 l Z a0 hw [] b24 (2 : Int32) y25 k_y25 [(.int p1), (.int p2), (.int p3), (.int sa), (.int sb), (.int sc), (.int ta), (.int tb), (.int tc)] tc hJ n0 Z0 F_b24_terms V_y25 (by decide) rfl) hZ (wd46 hw) (wd3 hw) (by decide) (by decide)) q51a q51c (g := (mkF m 434 #[vi p1, vi p2, vi p3, vi p4, vi p5, vi p6, vi ka, vi sa, vi sb, vi sc, vi kb, vi ta, vi tb, vi tc, vr b2, vi 3, vi 1, vi 1, vr b24, vi 1, vi 1, vi 1, vi 3, vi 2] [(.int 2), (.ref b24)])) rfl (by rw [hml]; rfl) (Steps.refl _) (argsL := [(.int (2 : Int32))]) (rest := []) (lenOf pd4 rfl) rfl (by show 2 * 0 + _ ≤ _; exact Nat.le_of_eq rfl) (hb hby at_434) (fun _ _ => ⟨rfl, e49, (by decide : 4 + 0 ≤ _), (by decide : 332 + 0 ≤ _)⟩)
 dsimp only [Pt.U, Pt.locs, Pt.cells, Pt.slots] at X51 l51 y51 z51 st51 hQ51
 subst l51 y51 z51
 refine Go.tr st51 ?_
 obtain ⟨rfl, N51q, e51⟩ := hQ51
 have N51 := Fr.app N49 N51q
 refine G (fun t k => XS.aload X51.here hx rfl (hb hby at_437) rfl rfl (XS.iconst X51.here hx rfl (hb hby at_439) (XS.iload X51.here hx rfl (hb hby at_440) rfl (XS.imul X51.here hx rfl (hb hby at_442) rfl (XS.iconst X51.here hx rfl (hb hby at_443) k))))) ?_
 show Go _ _ _ (T51.setTop (mkF m 444 #[vi p1, vi p2, vi p3, vi p4, vi p5, vi p6, vi ka, vi sa, vi sb, vi sc, vi kb, vi ta, vi tb, vi tc, vr b2, vi 3, vi 1, vi 1, vr b24, vi 1, vi 1, vi 1, vi 3, vi 2] [(.int 2), (.int 6), (.ref b2), (.int tc)])) _
 refine G (fun t k => XS.iadd X51.here hx rfl (hb hby at_444) rfl k) ?_
 obtain ⟨cl52, Ar52, -, Sz52, Ng52, Hs52, -⟩ := id V_b2
 have hin52 : ¬ ((8 : Int32) < 0 ∨ cl52.slots.size ≤ ((8 : Int32)).toNatClampNeg) := inb_of Sz52 ⟨by decide, by decide⟩
 refine G (fun t k => X51.iaload hx (j := (8 : Int32)) (v := (.int tc)) (by rw [e51]; exact Ar52.1) (State.isArrayOf_alike hZ.alike Ar52.2.1) Ar52.2.2 hin52 (Has.at Hs52 hin52 rfl) (g := (mkF m 445 #[vi p1, vi p2, vi p3, vi p4, vi p5, vi p6, vi ka, vi sa, vi sb, vi sc, vi kb, vi ta, vi tb, vi tc, vr b2, vi 3, vi 1, vi 1, vr b24, vi 1, vi 1, vi 1, vi 3, vi 2] [(.int 8), (.ref b2), (.int tc)])) rfl rfl (hb hby at_445) _ k) ?_
 clear hin52 Hs52 Ng52 Sz52 Ar52 cl52
 refine G (fun t k => XS.icmpNo X51.here hx rfl (hb hby at_446) rfl (teq (rfl : tc = tc)).2 (XS.iconst X51.here hx rfl (hb hby at_449) (XS.goto X51.here hx rfl (pc0 := 450) (pc' := 454) rfl (hb hby at_450) (by decide) (by decide) k))) ?_
 obtain ⟨fs, hr, hrun, hended, hW, hsame⟩ := X51.leave (v := some (.int (1 : Int32))) (fun h => by rw [Bd.returns] at h; cases h)
 refine Go.fin (retN X51 hx (t := .boolean) Bd.returns (by simp) (hb hby at_454) hr) hrun hended ⟨_, _, rfl, ?_, ⟨_, rfl⟩, hW, hsame.mono (by decide) (by decide)⟩
 show Q0 Z p1 p2 p3 p4 p5 p6 h0 n0 _ T51.heap _
 rw [e51]
 exact ⟨rfl, N51⟩
theorem TJ0_17 (l : Launch) (Z : State) (a0 : Array Value) (hw : HW a0 Z) (ws : List Jvm.Cond) (p1 : Int32) (p2 : Int32) (p3 : Int32) (p4 : Int32) (p5 : Int32) (p6 : Int32) (h0 : Heap) (n0 : Nat) {p : Program} {e : Env} {s : State} {m : MethodId} {below : List Frame} {meth : Method} {c : Code} {s₁ : State} (Bd : BodyLoose p l x (head1 (Jvm.Cond.code x code maxLocals ret :: ws) room_1) code maxLocals ret e s m #[(.int p1), (.int p2), (.int p3), (.int p4), (.int p5), (.int p6)] below meth c s₁) (hml0 : c.maxLocals = maxLocals) (hZ : Z.Warmed39 s.vm) {TJ : State} {locsJ : List Loc} {hJ : Heap} {b2 : Addr} {k2 : ClassId} {sa : Int32} {sb : Int32} {sc : Int32} {ta : Int32} {tb : Int32} {tc : Int32} {ka : Int32} {kb : Int32} (XJ : Stand p l e room_1 s m #[(.int p1), (.int p2), (.int p3), (.int p4), (.int p5), (.int p6)] below meth c TJ locsJ 1 9) (eJ : TJ.heap = hJ) (NJ : Fr n0 locsJ) (K0 : Keep h0 hJ []) (Z0 : n0 ≤ hJ.size) (V_b2 : Arv Z hJ b2 k2 .int (9 : Int32) [(.int p1), (.int p2), (.int p3), (.int sa), (.int sb), (.int sc), (.int (0 : Int32)), (.int (0 : Int32)), (.int (0 : Int32))] (.int (0 : Int32))) (g_b2 : n0 ≤ b2) (sz_b2 : h0.size ≤ b2) (hn2 : ¬ (sa = p1 ∧ sb = p2 ∧ sc = p3)) (hna : ¬ (ta = p1 ∧ tb = p2 ∧ tc = p3)) (hns : ¬ (ta = sa ∧ tb = sb ∧ tc = sc)) :
  Go p.tables e below (TJ.setTop (mkF m 259 #[vi p1, vi p2, vi p3, vi p4, vi p5, vi p6, vi ka, vi sa, vi sb, vi sc, vi kb, vi ta, vi tb, vi tc, vr b2, vi 2, vi 1, vi 1, us, us, us, us, us, us] [])) (fun o U' => ∃ v L, o = .returned v ∧ Q0 Z p1 p2 p3 p4 p5 p6 h0 n0 v U'.heap L ∧ FrameEnd s o U' L 16 768) := by
 have hx := Bd.exec
 have hby := Bd.bytes
 have hml : c.maxLocals = 24 := hml0
 have hown : s.vm.findClass "com/example/tripletype/tripletype/TripleTableAddPinLaw" = some m.cls := findClass_of_methodNamed Bd.named
 have hnm := (name_of_methodNamed Bd.named Bd.method).1
 refine G (fun t k => XS.iload XJ.here hx rfl (hb hby at_259) rfl (XS.ifNo XJ.here hx rfl (hb hby at_261) rfl ((if0 _ _).trans (feq (by decide : ¬ ((1 : Int32) = (0 : Int32)))).1) (XS.aload XJ.here hx rfl (hb hby at_264) rfl rfl (XS.iconst XJ.here hx rfl (hb hby at_266) (XS.iload XJ.here hx rfl (hb hby at_267) rfl (XS.imul XJ.here hx rfl (hb hby at_269) rfl k)))))) ?_
 refine G (fun t k => XS.iload XJ.here hx rfl (hb hby at_270) rfl k) ?_
 show Go _ _ _ (TJ.setTop (mkF m 272 #[vi p1, vi p2, vi p3, vi p4, vi p5, vi p6, vi ka, vi sa, vi sb, vi sc, vi kb, vi ta, vi tb, vi tc, vr b2, vi 2, vi 1, vi 1, us, us, us, us, us, us] [(.int ta), (.int 6), (.ref b2)])) _
 obtain ⟨cl18, Ar18, qq18, Sz18, Ng18, Hs18, Gs18⟩ := id V_b2
 have hin18 : ¬ ((6 : Int32) < 0 ∨ cl18.slots.size ≤ ((6 : Int32)).toNatClampNeg) := inb_of Sz18 ⟨by decide, by decide⟩
 obtain ⟨T19, h19, X19, e19, W19, st19⟩ := stI XJ hx hZ eJ Ar18 (j := (6 : Int32)) hin18 (g := (mkF m 272 #[vi p1, vi p2, vi p3, vi p4, vi p5, vi p6, vi ka, vi sa, vi sb, vi sc, vi kb, vi ta, vi tb, vi tc, vr b2, vi 2, vi 1, vi 1, us, us, us, us, us, us] [(.int ta), (.int 6), (.ref b2)])) rfl rfl (hb hby at_272)
 refine G st19 ?_
 have N19 := Fr.snoc X19 NJ g_b2
 replace Z0 := Nat.le_trans Z0 (Nat.le_of_eq W19.size.symm)
 replace K0 := K0.wr W19 (Or.inr sz_b2)
 replace V_b2 : Arv Z h19 b2 k2 .int (9 : Int32) [(.int p1), (.int p2), (.int p3), (.int sa), (.int sb), (.int sc), (.int ta), (.int (0 : Int32)), (.int (0 : Int32))] (.int (0 : Int32)) := Arv.set Ar18 qq18 Sz18 Ng18 Hs18 Gs18 rfl W19 6 rfl (Nat.le_of_ble_eq_true rfl)
 clear hin18 Gs18 Hs18 Ng18 Sz18 qq18 Ar18 cl18
 refine G (fun t k => XS.aload X19.here hx rfl (hb hby at_273) rfl rfl (XS.iconst X19.here hx rfl (hb hby at_275) (XS.iload X19.here hx rfl (hb hby at_276) rfl (XS.imul X19.here hx rfl (hb hby at_278) rfl (XS.iconst X19.here hx rfl (hb hby at_279) (XS.iadd X19.here hx rfl (hb hby at_280) rfl k)))))) ?_
 show Go _ _ _ (T19.setTop (mkF m 281 #[vi p1, vi p2, vi p3, vi p4, vi p5, vi p6, vi ka, vi sa, vi sb, vi sc, vi kb, vi ta, vi tb, vi tc, vr b2, vi 2, vi 1, vi 1, us, us, us, us, us, us] [(.int 7), (.ref b2)])) _
 refine G (fun t k => XS.iload X19.here hx rfl (hb hby at_281) rfl k) ?_
 obtain ⟨cl20, Ar20, qq20, Sz20, Ng20, Hs20, Gs20⟩ := id V_b2
 have hin20 : ¬ ((7 : Int32) < 0 ∨ cl20.slots.size ≤ ((7 : Int32)).toNatClampNeg) := inb_of Sz20 ⟨by decide, by decide⟩
 obtain ⟨T21, h21, X21, e21, W21, st21⟩ := stI X19 hx hZ e19 Ar20 (j := (7 : Int32)) hin20 (g := (mkF m 283 #[vi p1, vi p2, vi p3, vi p4, vi p5, vi p6, vi ka, vi sa, vi sb, vi sc, vi kb, vi ta, vi tb, vi tc, vr b2, vi 2, vi 1, vi 1, us, us, us, us, us, us] [(.int tb), (.int 7), (.ref b2)])) rfl rfl (hb hby at_283)
 refine G st21 ?_
 have N21 := Fr.snoc X21 N19 g_b2
 replace Z0 := Nat.le_trans Z0 (Nat.le_of_eq W21.size.symm)
 replace K0 := K0.wr W21 (Or.inr sz_b2)
 replace V_b2 : Arv Z h21 b2 k2 .int (9 : Int32) [(.int p1), (.int p2), (.int p3), (.int sa), (.int sb), (.int sc), (.int ta), (.int tb), (.int (0 : Int32))] (.int (0 : Int32)) := Arv.set Ar20 qq20 Sz20 Ng20 Hs20 Gs20 rfl W21 7 rfl (Nat.le_of_ble_eq_true rfl)
 clear hin20 Gs20 Hs20 Ng20 Sz20 qq20 Ar20 cl20
 refine G (fun t k => XS.aload X21.here hx rfl (hb hby at_284) rfl rfl (XS.iconst X21.here hx rfl (hb hby at_286) (XS.iload X21.here hx rfl (hb hby at_287) rfl (XS.imul X21.here hx rfl (hb hby at_289) rfl (XS.iconst X21.here hx rfl (hb hby at_290) k))))) ?_
 show Go _ _ _ (T21.setTop (mkF m 291 #[vi p1, vi p2, vi p3, vi p4, vi p5, vi p6, vi ka, vi sa, vi sb, vi sc, vi kb, vi ta, vi tb, vi tc, vr b2, vi 2, vi 1, vi 1, us, us, us, us, us, us] [(.int 2), (.int 6), (.ref b2)])) _
 refine G (fun t k => XS.iadd X21.here hx rfl (hb hby at_291) rfl (XS.iload X21.here hx rfl (hb hby at_292) rfl k)) ?_
 obtain ⟨cl22, Ar22, qq22, Sz22, Ng22, Hs22, Gs22⟩ := id V_b2
 have hin22 : ¬ ((8 : Int32) < 0 ∨ cl22.slots.size ≤ ((8 : Int32)).toNatClampNeg) := inb_of Sz22 ⟨by decide, by decide⟩
 obtain ⟨T23, h23, X23, e23, W23, st23⟩ := stI X21 hx hZ e21 Ar22 (j := (8 : Int32)) hin22 (g := (mkF m 294 #[vi p1, vi p2, vi p3, vi p4, vi p5, vi p6, vi ka, vi sa, vi sb, vi sc, vi kb, vi ta, vi tb, vi tc, vr b2, vi 2, vi 1, vi 1, us, us, us, us, us, us] [(.int tc), (.int 8), (.ref b2)])) rfl rfl (hb hby at_294)
 refine G st23 ?_
 have N23 := Fr.snoc X23 N21 g_b2
 replace Z0 := Nat.le_trans Z0 (Nat.le_of_eq W23.size.symm)
 replace K0 := K0.wr W23 (Or.inr sz_b2)
 replace V_b2 : Arv Z h23 b2 k2 .int (9 : Int32) [(.int p1), (.int p2), (.int p3), (.int sa), (.int sb), (.int sc), (.int ta), (.int tb), (.int tc)] (.int (0 : Int32)) := Arv.set Ar22 qq22 Sz22 Ng22 Hs22 Gs22 rfl W23 8 rfl (Nat.le_of_ble_eq_true rfl)
 clear hin22 Gs22 Hs22 Ng22 Sz22 qq22 Ar22 cl22
 refine G (fun t k => XS.iload X23.here hx rfl (hb hby at_295) rfl (XS.iconst X23.here hx rfl (hb hby at_297) (XS.iadd X23.here hx rfl (hb hby at_298) rfl (XS.istore X23.here hx rfl (hb hby at_299) rfl (l' := #[vi p1, vi p2, vi p3, vi p4, vi p5, vi p6, vi ka, vi sa, vi sb, vi sc, vi kb, vi ta, vi tb, vi tc, vr b2, vi 3, vi 1, vi 1, us, us, us, us, us, us]) rfl k)))) ?_
 show Go _ _ _ (T23.setTop (mkF m 301 #[vi p1, vi p2, vi p3, vi p4, vi p5, vi p6, vi ka, vi sa, vi sb, vi sc, vi kb, vi ta, vi tb, vi tc, vr b2, vi 3, vi 1, vi 1, us, us, us, us, us, us] [])) _
 obtain ⟨T24, h24, X24, e24, E24, A24, D24, -, st24⟩ := newO X23 hx hZ hown (wd1 hw) (wd2 hw) (wd3 hw) e23 (g := (mkF m 301 #[vi p1, vi p2, vi p3, vi p4, vi p5, vi p6, vi ka, vi sa, vi sb, vi sc, vi kb, vi ta, vi tb, vi tc, vr b2, vi 3, vi 1, vi 1, us, us, us, us, us, us] [])) rfl (hb hby at_301) (by decide) (by decide)
 obtain ⟨b24, g24⟩ : ∃ z, z = h23.size := ⟨_, rfl⟩
 rw [← g24] at A24 D24 st24
 refine G st24 ?_
 have ne_b2_b24 : b2 ≠ b24 := Nat.ne_of_lt (Nat.lt_of_lt_of_le V_b2.lt (Nat.le_of_eq g24.symm))
 have g_b24 : n0 ≤ b24 := Nat.le_trans Z0 (Nat.le_of_eq g24.symm)
 have sz_b24 : h0.size ≤ b24 := Nat.le_trans K0.1 (Nat.le_of_eq g24.symm)
 replace V_b2 := V_b2.ext E24
 replace K0 := K0.ext E24
 replace Z0 := Nat.le_trans Z0 E24.1
 have E_b24 := A24
 have F_b24_terms : Fld Z h24 b24 TC "terms" "[I" .null := D24 (Or.inl (wd11 hw)) (ty := (.array .int)) (by decide)
 have F_b24_slots : Fld Z h24 b24 TC "slots" "[I" .null := D24 (Or.inl (wd13 hw)) (ty := (.array .int)) (by decide)
 have F_b24_size : Fld Z h24 b24 TC "size" "I" (.int (0 : Int32)) := D24 (Or.inl (wd26 hw)) (ty := .int) (by decide)
 refine G (fun t k => XS.dup X24.here hx rfl (hb hby at_304) rfl rfl k) ?_
 obtain ⟨_, _, ⟨T25, L25, k25, n25⟩, -, X25, ⟨Lc25, hQ25, l25, y25, z25⟩, st25⟩ := X24.specialBack hx (y := (⟨TC, "<init>", "()V"⟩ : MethodName)) rfl hown (mvT hZ (wd4 hw)) (mvT hZ (wd5 hw)) (mvT hZ (wd6 hw)) (by decide) (backOf (W := 1) (rm1 l Z a0 hw [] b24 (.null : Value) (.null : Value) h24 n0 Z0 E_b24 F_b24_size F_b24_terms F_b24_slots g_b24) hZ (wd6 hw) (wd3 hw) (by decide) (by decide)) (g := (mkF m 305 #[vi p1, vi p2, vi p3, vi p4, vi p5, vi p6, vi ka, vi sa, vi sb, vi sc, vi kb, vi ta, vi tb, vi tc, vr b2, vi 3, vi 1, vi 1, us, us, us, us, us, us] [(.ref b24), (.ref b24)])) rfl (by rw [hml]; rfl) (Steps.refl _) (a := b24) (argsL := []) (rest := [(.ref b24)]) (lenOf pd1 rfl) rfl (by show 2 * 0 + _ ≤ _; exact Nat.le_of_eq rfl) (hb hby at_305) (fun _ _ => ⟨rfl, e24, (by decide : 2 + 2 ≤ _), (by decide : 12 + 320 ≤ _)⟩)
 dsimp only [Pt.U, Pt.locs, Pt.cells, Pt.slots] at X25 l25 y25 z25 st25 hQ25
 subst l25 y25 z25
 have E_b24_pre := E_b24
 have F_b24_terms_pre := F_b24_terms
 have F_b24_slots_pre := F_b24_slots
 have F_b24_size_pre := F_b24_size
 obtain ⟨h25, e25⟩ : ∃ z, T25.heap = z := ⟨_, rfl⟩
 rw [e25] at hQ25
 obtain ⟨y25, y25a, k_y25, k_y25a, rfl, N25q, K25, ng_y25, sz0_y25, ng_y25a, sz0_y25a, nef_y25_y25a, Q25_0, Q25_1, Q25_2, Q25_3, Q25_4, Q25_5⟩ := hQ25
 refine Go.tr st25 ?_
 have ne_b2_y25 : b2 ≠ y25 := Nat.ne_of_lt (Nat.lt_of_lt_of_le V_b2.lt sz0_y25)
 have ne_b24_y25 : b24 ≠ y25 := Nat.ne_of_lt (Nat.lt_of_lt_of_le E_b24.lt sz0_y25)
 have g_y25 : n0 ≤ y25 := ng_y25
 have sz_y25 : h0.size ≤ y25 := Nat.le_trans K0.1 sz0_y25
 have ne_b2_y25a : b2 ≠ y25a := Nat.ne_of_lt (Nat.lt_of_lt_of_le V_b2.lt sz0_y25a)
 have ne_b24_y25a : b24 ≠ y25a := Nat.ne_of_lt (Nat.lt_of_lt_of_le E_b24.lt sz0_y25a)
 have g_y25a : n0 ≤ y25a := ng_y25a
 have sz_y25a : h0.size ≤ y25a := Nat.le_trans K0.1 sz0_y25a
 replace V_b2 := V_b2.keep K25 (ninS ne_b2_b24 nin0)
 replace E_b24 := E_b24.keep K25
 replace Z0 := Nat.le_trans Z0 K25.1
 replace K0 := K0.trans K25 (allS (Or.inr sz_b24) all0)
 clear E_b24_pre F_b24_terms_pre F_b24_slots_pre F_b24_size_pre
 have E_b24 := Q25_0
 have F_b24_size := Q25_1
 have F_b24_terms := Q25_2
 have F_b24_slots := Q25_3
 have V_y25 := Q25_4
 have V_y25a := Q25_5
 have N25 := Fr.app N23 N25q
 obtain ⟨LL25, X25, N25⟩ : ∃ LL, Stand p l e room_1 s m #[(.int p1), (.int p2), (.int p3), (.int p4), (.int p5), (.int p6)] below meth c T25 LL 4 332 ∧ Fr n0 LL := ⟨_, X25, N25⟩
 refine G (fun t k => XS.astore X25.here hx rfl (hb hby at_308) rfl rfl (l' := #[vi p1, vi p2, vi p3, vi p4, vi p5, vi p6, vi ka, vi sa, vi sb, vi sc, vi kb, vi ta, vi tb, vi tc, vr b2, vi 3, vi 1, vi 1, vr b24, us, us, us, us, us]) rfl (XS.aload X25.here hx rfl (hb hby at_310) rfl rfl (XS.iloadN X25.here hx rfl (hb hby at_312) rfl (XS.iloadN X25.here hx rfl (hb hby at_313) rfl k)))) ?_
 show Go _ _ _ (T25.setTop (mkF m 314 #[vi p1, vi p2, vi p3, vi p4, vi p5, vi p6, vi ka, vi sa, vi sb, vi sc, vi kb, vi ta, vi tb, vi tc, vr b2, vi 3, vi 1, vi 1, vr b24, us, us, us, us, us] [(.int p2), (.int p1), (.ref b24)])) _
 refine G (fun t k => XS.iloadN X25.here hx rfl (hb hby at_314) rfl k) ?_
 obtain ⟨cq26, kq26, q26a, q26b, q26c⟩ := isOf hZ e25 E_b24
 obtain ⟨_, _, ⟨T26, L26, k26, n26⟩, -, X26, ⟨Lc26, hQ26, l26, y26, z26⟩, st26⟩ := X25.virtualBack hx (y := (⟨TC, "add", "(III)Z"⟩ : MethodName)) (z := (⟨TC, "add", "(III)Z"⟩ : MethodName)) hown (mvT hZ (wd14 hw)) (mvT hZ (wd15 hw)) (notFace_of_selects (args := #[]) (mvT hZ (wd17 hw))) (mvT hZ (wd17 hw)) (mvT hZ (wd16 hw)) (by decide) (backOf (W := 0) (rm3n0 l Z a0 hw [] b24 p1 p2 p3 y25 y25a k_y25 k_y25a h25 n0 Z0 E_b24 F_b24_size F_b24_terms F_b24_slots V_y25 V_y25a (Ne.symm ne_b24_y25) (Ne.symm ne_b24_y25a) nef_y25_y25a g_y25 g_b24 g_y25a) hZ (wd18 hw) (wd3 hw) (by decide) (by decide)) q26a q26c (g := (mkF m 315 #[vi p1, vi p2, vi p3, vi p4, vi p5, vi p6, vi ka, vi sa, vi sb, vi sc, vi kb, vi ta, vi tb, vi tc, vr b2, vi 3, vi 1, vi 1, vr b24, us, us, us, us, us] [(.int p3), (.int p2), (.int p1), (.ref b24)])) rfl (by rw [hml]; rfl) (Steps.refl _) (argsL := [(.int p1), (.int p2), (.int p3)]) (rest := []) (lenOf pd2 rfl) rfl (by show 2 * 0 + _ ≤ _; exact Nat.le_of_eq rfl) (hb hby at_315) (fun _ _ => ⟨rfl, e25, (by decide : 4 + 0 ≤ _), (by decide : 332 + 0 ≤ _)⟩)
 dsimp only [Pt.U, Pt.locs, Pt.cells, Pt.slots] at X26 l26 y26 z26 st26 hQ26
 subst l26 y26 z26
 refine Go.tr st26 ?_
 have E_b24_pre := E_b24
 have F_b24_size_pre := F_b24_size
 have F_b24_terms_pre := F_b24_terms
 have F_b24_slots_pre := F_b24_slots
 have V_y25_pre := V_y25
 have V_y25a_pre := V_y25a
 obtain ⟨h26, e26⟩ : ∃ z, T26.heap = z := ⟨_, rfl⟩
 rw [e26] at hQ26
 obtain ⟨rfl, N26q, K26, Q26_0, Q26_1, Q26_2, Q26_3, Q26_4, Q26_5⟩ := hQ26
 replace V_b2 := V_b2.keep K26 (ninS ne_b2_y25 (ninS ne_b2_b24 (ninS ne_b2_y25a nin0)))
 replace E_b24 := E_b24.keep K26
 replace Z0 := Nat.le_trans Z0 K26.1
 replace K0 := K0.trans K26 (allS (Or.inr sz_y25) (allS (Or.inr sz_b24) (allS (Or.inr sz_y25a) all0)))
 clear E_b24_pre F_b24_size_pre F_b24_terms_pre F_b24_slots_pre V_y25_pre V_y25a_pre
 have E_b24 := Q26_0
 have F_b24_size := Q26_1
 have F_b24_terms := Q26_2
 have F_b24_slots := Q26_3
 have V_y25 := Q26_4
 have V_y25a := Q26_5
 have N26 := Fr.app N25 N26q
 refine G (fun t k => XS.istore X26.here hx rfl (hb hby at_318) rfl (l' := #[vi p1, vi p2, vi p3, vi p4, vi p5, vi p6, vi ka, vi sa, vi sb, vi sc, vi kb, vi ta, vi tb, vi tc, vr b2, vi 3, vi 1, vi 1, vr b24, vi 1, us, us, us, us]) rfl (XS.aload X26.here hx rfl (hb hby at_320) rfl rfl (XS.iload X26.here hx rfl (hb hby at_322) rfl (XS.iload X26.here hx rfl (hb hby at_324) rfl (XS.iload X26.here hx rfl (hb hby at_326) rfl k))))) ?_
 show Go _ _ _ (T26.setTop (mkF m 328 #[vi p1, vi p2, vi p3, vi p4, vi p5, vi p6, vi ka, vi sa, vi sb, vi sc, vi kb, vi ta, vi tb, vi tc, vr b2, vi 3, vi 1, vi 1, vr b24, vi 1, us, us, us, us] [(.int sc), (.int sb), (.int sa), (.ref b24)])) _
 obtain ⟨cq27, kq27, q27a, q27b, q27c⟩ := isOf hZ e26 E_b24
 obtain ⟨_, _, ⟨T27, L27, k27, n27⟩, -, X27, ⟨Lc27, hQ27, l27, y27, z27⟩, st27⟩ := X26.virtualBack hx (y := (⟨TC, "add", "(III)Z"⟩ : MethodName)) (z := (⟨TC, "add", "(III)Z"⟩ : MethodName)) hown (mvT hZ (wd14 hw)) (mvT hZ (wd15 hw)) (notFace_of_selects (args := #[]) (mvT hZ (wd17 hw))) (mvT hZ (wd17 hw)) (mvT hZ (wd16 hw)) (by decide) (backOf (W := 0) (rm3n1 l Z a0 hw [] b24 sa sb sc y25 y25a k_y25 k_y25a p1 p2 p3 ((f4 p1 p2 p3) &&& (127 : Int32)) h26 n0 Z0 E_b24 F_b24_size F_b24_terms F_b24_slots V_y25 V_y25a (Ne.symm ne_b24_y25) (Ne.symm ne_b24_y25a) nef_y25_y25a (fun z => hn2 ⟨z.1.symm, z.2.1.symm, z.2.2.symm⟩) g_y25 g_b24 g_y25a) hZ (wd18 hw) (wd3 hw) (by decide) (by decide)) q27a q27c (g := (mkF m 328 #[vi p1, vi p2, vi p3, vi p4, vi p5, vi p6, vi ka, vi sa, vi sb, vi sc, vi kb, vi ta, vi tb, vi tc, vr b2, vi 3, vi 1, vi 1, vr b24, vi 1, us, us, us, us] [(.int sc), (.int sb), (.int sa), (.ref b24)])) rfl (by rw [hml]; rfl) (Steps.refl _) (argsL := [(.int sa), (.int sb), (.int sc)]) (rest := []) (lenOf pd2 rfl) rfl (by show 2 * 0 + _ ≤ _; exact Nat.le_of_eq rfl) (hb hby at_328) (fun _ _ => ⟨rfl, e26, (by decide : 4 + 0 ≤ _), (by decide : 332 + 0 ≤ _)⟩)
 dsimp only [Pt.U, Pt.locs, Pt.cells, Pt.slots] at X27 l27 y27 z27 st27 hQ27
 subst l27 y27 z27
 refine Go.tr st27 ?_
 have E_b24_pre := E_b24
 have F_b24_size_pre := F_b24_size
 have F_b24_terms_pre := F_b24_terms
 have F_b24_slots_pre := F_b24_slots
 have V_y25_pre := V_y25
 have V_y25a_pre := V_y25a
 obtain ⟨h27, e27⟩ : ∃ z, T27.heap = z := ⟨_, rfl⟩
 rw [e27] at hQ27
 obtain ⟨rfl, N27q, K27, Q27_0, Q27_1, Q27_2, Q27_3, Q27_4, Q27_5⟩ := hQ27
 replace V_b2 := V_b2.keep K27 (ninS ne_b2_y25 (ninS ne_b2_b24 (ninS ne_b2_y25a nin0)))
 replace E_b24 := E_b24.keep K27
 replace Z0 := Nat.le_trans Z0 K27.1
 replace K0 := K0.trans K27 (allS (Or.inr sz_y25) (allS (Or.inr sz_b24) (allS (Or.inr sz_y25a) all0)))
 clear E_b24_pre F_b24_size_pre F_b24_terms_pre F_b24_slots_pre V_y25_pre V_y25a_pre
 have E_b24 := Q27_0
 have F_b24_size := Q27_1
 have F_b24_terms := Q27_2
 have F_b24_slots := Q27_3
 have V_y25 := Q27_4
 have V_y25a := Q27_5
 have N27 := Fr.app N26 N27q
 refine G (fun t k => XS.istore X27.here hx rfl (hb hby at_331) rfl (l' := #[vi p1, vi p2, vi p3, vi p4, vi p5, vi p6, vi ka, vi sa, vi sb, vi sc, vi kb, vi ta, vi tb, vi tc, vr b2, vi 3, vi 1, vi 1, vr b24, vi 1, vi 1, us, us, us]) rfl (XS.aload X27.here hx rfl (hb hby at_333) rfl rfl (XS.iload X27.here hx rfl (hb hby at_335) rfl (XS.iload X27.here hx rfl (hb hby at_337) rfl (XS.iload X27.here hx rfl (hb hby at_339) rfl k))))) ?_
 obtain ⟨cq28, kq28, q28a, q28b, q28c⟩ := isOf hZ e27 E_b24
 obtain ⟨_, _, ⟨T28, L28, k28, n28⟩, -, X28, ⟨Lc28, hQ28, l28, y28, z28⟩, st28⟩ := X27.virtualBack hx (y := (⟨TC, "add", "(III)Z"⟩ : MethodName)) (z := (⟨TC, "add", "(III)Z"⟩ : MethodName)) hown (mvT hZ (wd14 hw)) (mvT hZ (wd15 hw)) (notFace_of_selects (args := #[]) (mvT hZ (wd17 hw))) (mvT hZ (wd17 hw)) (mvT hZ (wd16 hw)) (by decide) (backOf (W := 0) (rm3n2 l Z a0 hw [] b24 ta tb tc y25 y25a k_y25 k_y25a p1 p2 p3 sa sb sc ((f4 p1 p2 p3) &&& (127 : Int32)) (f3n1_w_S_i0 sa sb sc ((f4 p1 p2 p3) &&& (127 : Int32))) h27 n0 Z0 E_b24 F_b24_size F_b24_terms F_b24_slots V_y25 V_y25a (Ne.symm ne_b24_y25) (Ne.symm ne_b24_y25a) nef_y25_y25a (fun z => hna ⟨z.1.symm, z.2.1.symm, z.2.2.symm⟩) (fun z => hns ⟨z.1.symm, z.2.1.symm, z.2.2.symm⟩) (own_pos_ne _ _ _ _) g_y25 g_b24 g_y25a) hZ (wd18 hw) (wd3 hw) (by decide) (by decide)) q28a q28c (g := (mkF m 341 #[vi p1, vi p2, vi p3, vi p4, vi p5, vi p6, vi ka, vi sa, vi sb, vi sc, vi kb, vi ta, vi tb, vi tc, vr b2, vi 3, vi 1, vi 1, vr b24, vi 1, vi 1, us, us, us] [(.int tc), (.int tb), (.int ta), (.ref b24)])) rfl (by rw [hml]; rfl) (Steps.refl _) (argsL := [(.int ta), (.int tb), (.int tc)]) (rest := []) (lenOf pd2 rfl) rfl (by show 2 * 0 + _ ≤ _; exact Nat.le_of_eq rfl) (hb hby at_341) (fun _ _ => ⟨rfl, e27, (by decide : 4 + 0 ≤ _), (by decide : 332 + 0 ≤ _)⟩)
 dsimp only [Pt.U, Pt.locs, Pt.cells, Pt.slots] at X28 l28 y28 z28 st28 hQ28
 subst l28 y28 z28
 refine Go.tr st28 ?_
 have E_b24_pre := E_b24
 have F_b24_size_pre := F_b24_size
 have F_b24_terms_pre := F_b24_terms
 have F_b24_slots_pre := F_b24_slots
 have V_y25_pre := V_y25
 have V_y25a_pre := V_y25a
 obtain ⟨h28, e28⟩ : ∃ z, T28.heap = z := ⟨_, rfl⟩
 rw [e28] at hQ28
 obtain ⟨rfl, N28q, K28, Q28_0, Q28_1, Q28_2, Q28_3, Q28_4, Q28_5⟩ := hQ28
 replace V_b2 := V_b2.keep K28 (ninS ne_b2_y25 (ninS ne_b2_b24 (ninS ne_b2_y25a nin0)))
 replace E_b24 := E_b24.keep K28
 replace Z0 := Nat.le_trans Z0 K28.1
 replace K0 := K0.trans K28 (allS (Or.inr sz_y25) (allS (Or.inr sz_b24) (allS (Or.inr sz_y25a) all0)))
 clear E_b24_pre F_b24_size_pre F_b24_terms_pre F_b24_slots_pre V_y25_pre V_y25a_pre
 have E_b24 := Q28_0
 have F_b24_size := Q28_1
 have F_b24_terms := Q28_2
 have F_b24_slots := Q28_3
 have V_y25 := Q28_4
 have V_y25a := Q28_5
 have N28 := Fr.app N27 N28q
 show Go _ _ _ (T28.setTop (mkF m 344 #[vi p1, vi p2, vi p3, vi p4, vi p5, vi p6, vi ka, vi sa, vi sb, vi sc, vi kb, vi ta, vi tb, vi tc, vr b2, vi 3, vi 1, vi 1, vr b24, vi 1, vi 1, us, us, us] [(.int 1)])) _
 clear F_b24_slots V_y25a
 refine G (fun t k => XS.istore X28.here hx rfl (hb hby at_344) rfl (l' := #[vi p1, vi p2, vi p3, vi p4, vi p5, vi p6, vi ka, vi sa, vi sb, vi sc, vi kb, vi ta, vi tb, vi tc, vr b2, vi 3, vi 1, vi 1, vr b24, vi 1, vi 1, vi 1, us, us]) rfl (XS.aload X28.here hx rfl (hb hby at_346) rfl rfl k)) ?_
 obtain ⟨cq29, kq29, q29a, q29b, q29c⟩ := isOf hZ e28 E_b24
 obtain ⟨_, _, ⟨T29, L29, k29, n29⟩, -, X29, ⟨Lc29, hQ29, l29, y29, z29⟩, st29⟩ := X28.virtualBack hx (y := (⟨TC, "size", "()I"⟩ : MethodName)) (z := (⟨TC, "size", "()I"⟩ : MethodName)) hown (mvT hZ (wd27 hw)) (mvT hZ (wd28 hw)) (notFace_of_selects (args := #[]) (mvT hZ (wd30 hw))) (mvT hZ (wd30 hw)) (mvT hZ (wd29 hw)) (by decide) (backOf (W := 0) (rm5 l Z a0 hw [] b24 (3 : Int32) h28 n0 Z0 F_b24_size) hZ (wd31 hw) (wd3 hw) (by decide) (by decide)) q29a q29c (g := (mkF m 348 #[vi p1, vi p2, vi p3, vi p4, vi p5, vi p6, vi ka, vi sa, vi sb, vi sc, vi kb, vi ta, vi tb, vi tc, vr b2, vi 3, vi 1, vi 1, vr b24, vi 1, vi 1, vi 1, us, us] [(.ref b24)])) rfl (by rw [hml]; rfl) (Steps.refl _) (argsL := []) (rest := []) (lenOf pd3 rfl) rfl (by show 2 * 0 + _ ≤ _; exact Nat.le_of_eq rfl) (hb hby at_348) (fun _ _ => ⟨rfl, e28, (by decide : 4 + 0 ≤ _), (by decide : 332 + 0 ≤ _)⟩)
 dsimp only [Pt.U, Pt.locs, Pt.cells, Pt.slots] at X29 l29 y29 z29 st29 hQ29
 subst l29 y29 z29
 refine Go.tr st29 ?_
 obtain ⟨rfl, N29q, e29⟩ := hQ29
 have N29 := Fr.app N28 N29q
 obtain ⟨LL29, X29, N29⟩ : ∃ LL, Stand p l e room_1 s m #[(.int p1), (.int p2), (.int p3), (.int p4), (.int p5), (.int p6)] below meth c T29 LL 4 332 ∧ Fr n0 LL := ⟨_, X29, N29⟩
 refine G (fun t k => XS.istore X29.here hx rfl (hb hby at_351) rfl (l' := #[vi p1, vi p2, vi p3, vi p4, vi p5, vi p6, vi ka, vi sa, vi sb, vi sc, vi kb, vi ta, vi tb, vi tc, vr b2, vi 3, vi 1, vi 1, vr b24, vi 1, vi 1, vi 1, vi 3, us]) rfl (XS.iload X29.here hx rfl (hb hby at_353) rfl (XS.iload X29.here hx rfl (hb hby at_355) rfl (XS.icmpYes X29.here hx rfl (pc0 := 357) (pc' := 362) rfl (hb hby at_357) rfl (teq (by decide : (3 : Int32) = (3 : Int32))).1 (by decide) (by decide) k)))) ?_
 show Go _ _ _ (T29.setTop (mkF m 362 #[vi p1, vi p2, vi p3, vi p4, vi p5, vi p6, vi ka, vi sa, vi sb, vi sc, vi kb, vi ta, vi tb, vi tc, vr b2, vi 3, vi 1, vi 1, vr b24, vi 1, vi 1, vi 1, vi 3, us] [])) _
 refine G (fun t k => XS.iload X29.here hx rfl (hb hby at_362) rfl (XS.ifNo X29.here hx rfl (hb hby at_364) rfl ((if0 _ _).trans (feq (by decide : ¬ ((1 : Int32) = (0 : Int32)))).1) (XS.iload X29.here hx rfl (hb hby at_367) rfl (XS.iload X29.here hx rfl (hb hby at_369) rfl (XS.icmpNo X29.here hx rfl (hb hby at_371) rfl (teq (by decide : (1 : Int32) = (1 : Int32))).2 (XS.iload X29.here hx rfl (hb hby at_374) rfl k)))))) ?_
 refine G (fun t k => XS.iload X29.here hx rfl (hb hby at_376) rfl k) ?_
 show Go _ _ _ (T29.setTop (mkF m 378 #[vi p1, vi p2, vi p3, vi p4, vi p5, vi p6, vi ka, vi sa, vi sb, vi sc, vi kb, vi ta, vi tb, vi tc, vr b2, vi 3, vi 1, vi 1, vr b24, vi 1, vi 1, vi 1, vi 3, us] [(.int 1), (.int 1)])) _
 refine G (fun t k => XS.icmpYes X29.here hx rfl (pc0 := 378) (pc' := 383) rfl (hb hby at_378) rfl (teq (by decide : (1 : Int32) = (1 : Int32))).1 (by decide) (by decide) (XS.iload X29.here hx rfl (hb hby at_383) rfl (XS.iconst X29.here hx rfl (hb hby at_385) (XS.iushr X29.here hx rfl (hb hby at_386) rfl (XS.iconst X29.here hx rfl (hb hby at_387) (XS.iand X29.here hx rfl (hb hby at_388) rfl k)))))) ?_
 refine G (fun t k => XS.iload X29.here hx rfl (hb hby at_389) rfl k) ?_
 show Go _ _ _ (T29.setTop (mkF m 391 #[vi p1, vi p2, vi p3, vi p4, vi p5, vi p6, vi ka, vi sa, vi sb, vi sc, vi kb, vi ta, vi tb, vi tc, vr b2, vi 3, vi 1, vi 1, vr b24, vi 1, vi 1, vi 1, vi 3, us] [(.int 3), (.int (((p6.toUInt32 >>> ((4 : Int32) &&& 31).toUInt32).toInt32) &&& (3 : Int32)))])) _
 refine G (fun t k => iremM X29 hx rfl (hb hby at_391) rfl (by decide) (XS.istore X29.here hx rfl (hb hby at_392) rfl (l' := #[vi p1, vi p2, vi p3, vi p4, vi p5, vi p6, vi ka, vi sa, vi sb, vi sc, vi kb, vi ta, vi tb, vi tc, vr b2, vi 3, vi 1, vi 1, vr b24, vi 1, vi 1, vi 1, vi 3, vi ((((p6.toUInt32 >>> ((4 : Int32) &&& 31).toUInt32).toInt32) &&& (3 : Int32)) % (3 : Int32))]) rfl k)) ?_
 show Go _ _ _ (T29.setTop (mkF m 394 #[vi p1, vi p2, vi p3, vi p4, vi p5, vi p6, vi ka, vi sa, vi sb, vi sc, vi kb, vi ta, vi tb, vi tc, vr b2, vi 3, vi 1, vi 1, vr b24, vi 1, vi 1, vi 1, vi 3, vi ((((p6.toUInt32 >>> ((4 : Int32) &&& 31).toUInt32).toInt32) &&& (3 : Int32)) % (3 : Int32))] [])) _
 by_cases hc30 : ((((p6.toUInt32 >>> ((4 : Int32) &&& 31).toUInt32).toInt32) &&& (3 : Int32)) % (3 : Int32)) = (0 : Int32)
 ·rw [hc30]
  show Go _ _ _ (T29.setTop (mkF m 394 #[vi p1, vi p2, vi p3, vi p4, vi p5, vi p6, vi ka, vi sa, vi sb, vi sc, vi kb, vi ta, vi tb, vi tc, vr b2, vi 3, vi 1, vi 1, vr b24, vi 1, vi 1, vi 1, vi 3, vi 0] [])) _
  exact TJ0_31 l Z a0 hw ws p1 p2 p3 p4 p5 p6 h0 n0 Bd hml0 hZ X29 e29 N29 K0 Z0 V_b2 E_b24 F_b24_size F_b24_terms V_y25
 ·by_cases hc38 : ((((p6.toUInt32 >>> ((4 : Int32) &&& 31).toUInt32).toInt32) &&& (3 : Int32)) % (3 : Int32)) = (1 : Int32)
  ·rw [hc38]
   show Go _ _ _ (T29.setTop (mkF m 394 #[vi p1, vi p2, vi p3, vi p4, vi p5, vi p6, vi ka, vi sa, vi sb, vi sc, vi kb, vi ta, vi tb, vi tc, vr b2, vi 3, vi 1, vi 1, vr b24, vi 1, vi 1, vi 1, vi 3, vi 1] [])) _
   exact TJ0_39 l Z a0 hw ws p1 p2 p3 p4 p5 p6 h0 n0 Bd hml0 hZ X29 e29 N29 K0 Z0 V_b2 E_b24 F_b24_size F_b24_terms V_y25
  ·rw [own_j3 ((p6.toUInt32 >>> ((4 : Int32) &&& 31).toUInt32).toInt32) hc30 hc38]
   show Go _ _ _ (T29.setTop (mkF m 394 #[vi p1, vi p2, vi p3, vi p4, vi p5, vi p6, vi ka, vi sa, vi sb, vi sc, vi kb, vi ta, vi tb, vi tc, vr b2, vi 3, vi 1, vi 1, vr b24, vi 1, vi 1, vi 1, vi 3, vi 2] [])) _
   exact TJ0_46 l Z a0 hw ws p1 p2 p3 p4 p5 p6 h0 n0 Bd hml0 hZ X29 e29 N29 K0 Z0 V_b2 E_b24 F_b24_size F_b24_terms V_y25
theorem TJ0_62 (l : Launch) (Z : State) (a0 : Array Value) (hw : HW a0 Z) (ws : List Jvm.Cond) (p1 : Int32) (p2 : Int32) (p3 : Int32) (p4 : Int32) (p5 : Int32) (p6 : Int32) (h0 : Heap) (n0 : Nat) {p : Program} {e : Env} {s : State} {m : MethodId} {below : List Frame} {meth : Method} {c : Code} {s₁ : State} (Bd : BodyLoose p l x (head1 (Jvm.Cond.code x code maxLocals ret :: ws) room_1) code maxLocals ret e s m #[(.int p1), (.int p2), (.int p3), (.int p4), (.int p5), (.int p6)] below meth c s₁) (hml0 : c.maxLocals = maxLocals) (hZ : Z.Warmed39 s.vm) {TJ : State} {locsJ : List Loc} {hJ : Heap} {b2 : Addr} {b55 : Addr} {y56 : Addr} {k2 : ClassId} {k_y56 : ClassId} {sa : Int32} {sb : Int32} {sc : Int32} {ta : Int32} {tb : Int32} {tc : Int32} {ka : Int32} {kb : Int32} (XJ : Stand p l e room_1 s m #[(.int p1), (.int p2), (.int p3), (.int p4), (.int p5), (.int p6)] below meth c TJ locsJ 4 332) (eJ : TJ.heap = hJ) (NJ : Fr n0 locsJ) (K0 : Keep h0 hJ []) (Z0 : n0 ≤ hJ.size) (V_b2 : Arv Z hJ b2 k2 .int (9 : Int32) [(.int p1), (.int p2), (.int p3), (.int sa), (.int sb), (.int sc), (.int (0 : Int32)), (.int (0 : Int32)), (.int (0 : Int32))] (.int (0 : Int32))) (E_b55 : Exa Z hJ b55 TC) (F_b55_size : Fld Z hJ b55 TC "size" "I" (.int (2 : Int32))) (F_b55_terms : Fld Z hJ b55 TC "terms" "[I" (.ref y56)) (V_y56 : Arv Z hJ y56 k_y56 .int (192 : Int32) [(.int p1), (.int p2), (.int p3), (.int sa), (.int sb), (.int sc)] (.int (0 : Int32))) :
  Go p.tables e below (TJ.setTop (mkF m 394 #[vi p1, vi p2, vi p3, vi p4, vi p5, vi p6, vi ka, vi sa, vi sb, vi sc, vi kb, vi ta, vi tb, vi tc, vr b2, vi 2, vi 1, vi 0, vr b55, vi 1, vi 1, vi 0, vi 2, vi 0] [])) (fun o U' => ∃ v L, o = .returned v ∧ Q0 Z p1 p2 p3 p4 p5 p6 h0 n0 v U'.heap L ∧ FrameEnd s o U' L 16 768) := by
 have hx := Bd.exec
 have hby := Bd.bytes
 have hml : c.maxLocals = 24 := hml0
 have hown : s.vm.findClass "com/example/tripletype/tripletype/TripleTableAddPinLaw" = some m.cls := findClass_of_methodNamed Bd.named
 have hnm := (name_of_methodNamed Bd.named Bd.method).1
 refine G (fun t k => XS.aload XJ.here hx rfl (hb hby at_394) rfl rfl (XS.iload XJ.here hx rfl (hb hby at_396) rfl k)) ?_
 obtain ⟨cq63, kq63, q63a, q63b, q63c⟩ := isOf hZ eJ E_b55
 obtain ⟨_, _, ⟨T63, L63, k63, n63⟩, -, X63, ⟨Lc63, hQ63, l63, y63, z63⟩, st63⟩ := XJ.virtualBack hx (y := (⟨TC, "subject", "(I)I"⟩ : MethodName)) (z := (⟨TC, "subject", "(I)I"⟩ : MethodName)) hown (mvT hZ (wd32 hw)) (mvT hZ (wd33 hw)) (notFace_of_selects (args := #[]) (mvT hZ (wd35 hw))) (mvT hZ (wd35 hw)) (mvT hZ (wd34 hw)) (by decide) (backOf (W := 0) (rm6 l Z a0 hw [] b55 (0 : Int32) y56 k_y56 [(.int p1), (.int p2), (.int p3), (.int sa), (.int sb), (.int sc)] p1 hJ n0 Z0 F_b55_terms V_y56 (by decide) rfl) hZ (wd36 hw) (wd3 hw) (by decide) (by decide)) q63a q63c (g := (mkF m 398 #[vi p1, vi p2, vi p3, vi p4, vi p5, vi p6, vi ka, vi sa, vi sb, vi sc, vi kb, vi ta, vi tb, vi tc, vr b2, vi 2, vi 1, vi 0, vr b55, vi 1, vi 1, vi 0, vi 2, vi 0] [(.int 0), (.ref b55)])) rfl (by rw [hml]; rfl) (Steps.refl _) (argsL := [(.int (0 : Int32))]) (rest := []) (lenOf pd4 rfl) rfl (by show 2 * 0 + _ ≤ _; exact Nat.le_of_eq rfl) (hb hby at_398) (fun _ _ => ⟨rfl, eJ, (by decide : 4 + 0 ≤ _), (by decide : 332 + 0 ≤ _)⟩)
 dsimp only [Pt.U, Pt.locs, Pt.cells, Pt.slots] at X63 l63 y63 z63 st63 hQ63
 subst l63 y63 z63
 refine Go.tr st63 ?_
 obtain ⟨rfl, N63q, e63⟩ := hQ63
 have N63 := Fr.app NJ N63q
 refine G (fun t k => XS.aload X63.here hx rfl (hb hby at_401) rfl rfl (XS.iconst X63.here hx rfl (hb hby at_403) (XS.iload X63.here hx rfl (hb hby at_404) rfl (XS.imul X63.here hx rfl (hb hby at_406) rfl k)))) ?_
 show Go _ _ _ (T63.setTop (mkF m 407 #[vi p1, vi p2, vi p3, vi p4, vi p5, vi p6, vi ka, vi sa, vi sb, vi sc, vi kb, vi ta, vi tb, vi tc, vr b2, vi 2, vi 1, vi 0, vr b55, vi 1, vi 1, vi 0, vi 2, vi 0] [(.int 0), (.ref b2), (.int p1)])) _
 obtain ⟨cl64, Ar64, -, Sz64, Ng64, Hs64, -⟩ := id V_b2
 have hin64 : ¬ ((0 : Int32) < 0 ∨ cl64.slots.size ≤ ((0 : Int32)).toNatClampNeg) := inb_of Sz64 ⟨by decide, by decide⟩
 refine G (fun t k => X63.iaload hx (j := (0 : Int32)) (v := (.int p1)) (by rw [e63]; exact Ar64.1) (State.isArrayOf_alike hZ.alike Ar64.2.1) Ar64.2.2 hin64 (Has.at Hs64 hin64 rfl) (g := (mkF m 407 #[vi p1, vi p2, vi p3, vi p4, vi p5, vi p6, vi ka, vi sa, vi sb, vi sc, vi kb, vi ta, vi tb, vi tc, vr b2, vi 2, vi 1, vi 0, vr b55, vi 1, vi 1, vi 0, vi 2, vi 0] [(.int 0), (.ref b2), (.int p1)])) rfl rfl (hb hby at_407) _ k) ?_
 clear hin64 Hs64 Ng64 Sz64 Ar64 cl64
 refine G (fun t k => XS.icmpNo X63.here hx rfl (hb hby at_408) rfl (teq (rfl : p1 = p1)).2 (XS.aload X63.here hx rfl (hb hby at_411) rfl rfl (XS.iload X63.here hx rfl (hb hby at_413) rfl k))) ?_
 obtain ⟨cq65, kq65, q65a, q65b, q65c⟩ := isOf hZ e63 E_b55
 obtain ⟨_, _, ⟨T65, L65, k65, n65⟩, -, X65, ⟨Lc65, hQ65, l65, y65, z65⟩, st65⟩ := X63.virtualBack hx (y := (⟨TC, "predicate", "(I)I"⟩ : MethodName)) (z := (⟨TC, "predicate", "(I)I"⟩ : MethodName)) hown (mvT hZ (wd37 hw)) (mvT hZ (wd38 hw)) (notFace_of_selects (args := #[]) (mvT hZ (wd40 hw))) (mvT hZ (wd40 hw)) (mvT hZ (wd39 hw)) (by decide) (backOf (W := 0) (rm7 l Z a0 hw [] b55 (0 : Int32) y56 k_y56 [(.int p1), (.int p2), (.int p3), (.int sa), (.int sb), (.int sc)] p2 hJ n0 Z0 F_b55_terms V_y56 (by decide) rfl) hZ (wd41 hw) (wd3 hw) (by decide) (by decide)) q65a q65c (g := (mkF m 415 #[vi p1, vi p2, vi p3, vi p4, vi p5, vi p6, vi ka, vi sa, vi sb, vi sc, vi kb, vi ta, vi tb, vi tc, vr b2, vi 2, vi 1, vi 0, vr b55, vi 1, vi 1, vi 0, vi 2, vi 0] [(.int 0), (.ref b55)])) rfl (by rw [hml]; rfl) (Steps.refl _) (argsL := [(.int (0 : Int32))]) (rest := []) (lenOf pd4 rfl) rfl (by show 2 * 0 + _ ≤ _; exact Nat.le_of_eq rfl) (hb hby at_415) (fun _ _ => ⟨rfl, e63, (by decide : 4 + 0 ≤ _), (by decide : 332 + 0 ≤ _)⟩)
 dsimp only [Pt.U, Pt.locs, Pt.cells, Pt.slots] at X65 l65 y65 z65 st65 hQ65
 subst l65 y65 z65
 refine Go.tr st65 ?_
 obtain ⟨rfl, N65q, e65⟩ := hQ65
 have N65 := Fr.app N63 N65q
 refine G (fun t k => XS.aload X65.here hx rfl (hb hby at_418) rfl rfl (XS.iconst X65.here hx rfl (hb hby at_420) k)) ?_
 show Go _ _ _ (T65.setTop (mkF m 421 #[vi p1, vi p2, vi p3, vi p4, vi p5, vi p6, vi ka, vi sa, vi sb, vi sc, vi kb, vi ta, vi tb, vi tc, vr b2, vi 2, vi 1, vi 0, vr b55, vi 1, vi 1, vi 0, vi 2, vi 0] [(.int 3), (.ref b2), (.int p2)])) _
 refine G (fun t k => XS.iload X65.here hx rfl (hb hby at_421) rfl (XS.imul X65.here hx rfl (hb hby at_423) rfl (XS.iconst X65.here hx rfl (hb hby at_424) (XS.iadd X65.here hx rfl (hb hby at_425) rfl k)))) ?_
 obtain ⟨cl66, Ar66, -, Sz66, Ng66, Hs66, -⟩ := id V_b2
 have hin66 : ¬ ((1 : Int32) < 0 ∨ cl66.slots.size ≤ ((1 : Int32)).toNatClampNeg) := inb_of Sz66 ⟨by decide, by decide⟩
 refine G (fun t k => X65.iaload hx (j := (1 : Int32)) (v := (.int p2)) (by rw [e65]; exact Ar66.1) (State.isArrayOf_alike hZ.alike Ar66.2.1) Ar66.2.2 hin66 (Has.at Hs66 hin66 rfl) (g := (mkF m 426 #[vi p1, vi p2, vi p3, vi p4, vi p5, vi p6, vi ka, vi sa, vi sb, vi sc, vi kb, vi ta, vi tb, vi tc, vr b2, vi 2, vi 1, vi 0, vr b55, vi 1, vi 1, vi 0, vi 2, vi 0] [(.int 1), (.ref b2), (.int p2)])) rfl rfl (hb hby at_426) _ k) ?_
 clear hin66 Hs66 Ng66 Sz66 Ar66 cl66
 refine G (fun t k => XS.icmpNo X65.here hx rfl (hb hby at_427) rfl (teq (rfl : p2 = p2)).2 (XS.aload X65.here hx rfl (hb hby at_430) rfl rfl k)) ?_
 show Go _ _ _ (T65.setTop (mkF m 432 #[vi p1, vi p2, vi p3, vi p4, vi p5, vi p6, vi ka, vi sa, vi sb, vi sc, vi kb, vi ta, vi tb, vi tc, vr b2, vi 2, vi 1, vi 0, vr b55, vi 1, vi 1, vi 0, vi 2, vi 0] [(.ref b55)])) _
 refine G (fun t k => XS.iload X65.here hx rfl (hb hby at_432) rfl k) ?_
 obtain ⟨cq67, kq67, q67a, q67b, q67c⟩ := isOf hZ e65 E_b55
 obtain ⟨_, _, ⟨T67, L67, k67, n67⟩, -, X67, ⟨Lc67, hQ67, l67, y67, z67⟩, st67⟩ := X65.virtualBack hx (y := (⟨TC, "object", "(I)I"⟩ : MethodName)) (z := (⟨TC, "object", "(I)I"⟩ : MethodName)) hown (mvT hZ (wd42 hw)) (mvT hZ (wd43 hw)) (notFace_of_selects (args := #[]) (mvT hZ (wd45 hw))) (mvT hZ (wd45 hw)) (mvT hZ (wd44 hw)) (by decide) (backOf (W := 0) (rm8 l Z a0 hw [] b55 (0 : Int32) y56 k_y56 [(.int p1), (.int p2), (.int p3), (.int sa), (.int sb), (.int sc)] p3 hJ n0 Z0 F_b55_terms V_y56 (by decide) rfl) hZ (wd46 hw) (wd3 hw) (by decide) (by decide)) q67a q67c (g := (mkF m 434 #[vi p1, vi p2, vi p3, vi p4, vi p5, vi p6, vi ka, vi sa, vi sb, vi sc, vi kb, vi ta, vi tb, vi tc, vr b2, vi 2, vi 1, vi 0, vr b55, vi 1, vi 1, vi 0, vi 2, vi 0] [(.int 0), (.ref b55)])) rfl (by rw [hml]; rfl) (Steps.refl _) (argsL := [(.int (0 : Int32))]) (rest := []) (lenOf pd4 rfl) rfl (by show 2 * 0 + _ ≤ _; exact Nat.le_of_eq rfl) (hb hby at_434) (fun _ _ => ⟨rfl, e65, (by decide : 4 + 0 ≤ _), (by decide : 332 + 0 ≤ _)⟩)
 dsimp only [Pt.U, Pt.locs, Pt.cells, Pt.slots] at X67 l67 y67 z67 st67 hQ67
 subst l67 y67 z67
 refine Go.tr st67 ?_
 obtain ⟨rfl, N67q, e67⟩ := hQ67
 have N67 := Fr.app N65 N67q
 refine G (fun t k => XS.aload X67.here hx rfl (hb hby at_437) rfl rfl (XS.iconst X67.here hx rfl (hb hby at_439) (XS.iload X67.here hx rfl (hb hby at_440) rfl (XS.imul X67.here hx rfl (hb hby at_442) rfl (XS.iconst X67.here hx rfl (hb hby at_443) k))))) ?_
 show Go _ _ _ (T67.setTop (mkF m 444 #[vi p1, vi p2, vi p3, vi p4, vi p5, vi p6, vi ka, vi sa, vi sb, vi sc, vi kb, vi ta, vi tb, vi tc, vr b2, vi 2, vi 1, vi 0, vr b55, vi 1, vi 1, vi 0, vi 2, vi 0] [(.int 2), (.int 0), (.ref b2), (.int p3)])) _
 refine G (fun t k => XS.iadd X67.here hx rfl (hb hby at_444) rfl k) ?_
 obtain ⟨cl68, Ar68, -, Sz68, Ng68, Hs68, -⟩ := id V_b2
 have hin68 : ¬ ((2 : Int32) < 0 ∨ cl68.slots.size ≤ ((2 : Int32)).toNatClampNeg) := inb_of Sz68 ⟨by decide, by decide⟩
 refine G (fun t k => X67.iaload hx (j := (2 : Int32)) (v := (.int p3)) (by rw [e67]; exact Ar68.1) (State.isArrayOf_alike hZ.alike Ar68.2.1) Ar68.2.2 hin68 (Has.at Hs68 hin68 rfl) (g := (mkF m 445 #[vi p1, vi p2, vi p3, vi p4, vi p5, vi p6, vi ka, vi sa, vi sb, vi sc, vi kb, vi ta, vi tb, vi tc, vr b2, vi 2, vi 1, vi 0, vr b55, vi 1, vi 1, vi 0, vi 2, vi 0] [(.int 2), (.ref b2), (.int p3)])) rfl rfl (hb hby at_445) _ k) ?_
 clear hin68 Hs68 Ng68 Sz68 Ar68 cl68
 refine G (fun t k => XS.icmpNo X67.here hx rfl (hb hby at_446) rfl (teq (rfl : p3 = p3)).2 (XS.iconst X67.here hx rfl (hb hby at_449) (XS.goto X67.here hx rfl (pc0 := 450) (pc' := 454) rfl (hb hby at_450) (by decide) (by decide) k))) ?_
 obtain ⟨fs, hr, hrun, hended, hW, hsame⟩ := X67.leave (v := some (.int (1 : Int32))) (fun h => by rw [Bd.returns] at h; cases h)
 refine Go.fin (retN X67 hx (t := .boolean) Bd.returns (by simp) (hb hby at_454) hr) hrun hended ⟨_, _, rfl, ?_, ⟨_, rfl⟩, hW, hsame.mono (by decide) (by decide)⟩
 show Q0 Z p1 p2 p3 p4 p5 p6 h0 n0 _ T67.heap _
 rw [e67]
 exact ⟨rfl, N67⟩
theorem TJ0_69 (l : Launch) (Z : State) (a0 : Array Value) (hw : HW a0 Z) (ws : List Jvm.Cond) (p1 : Int32) (p2 : Int32) (p3 : Int32) (p4 : Int32) (p5 : Int32) (p6 : Int32) (h0 : Heap) (n0 : Nat) {p : Program} {e : Env} {s : State} {m : MethodId} {below : List Frame} {meth : Method} {c : Code} {s₁ : State} (Bd : BodyLoose p l x (head1 (Jvm.Cond.code x code maxLocals ret :: ws) room_1) code maxLocals ret e s m #[(.int p1), (.int p2), (.int p3), (.int p4), (.int p5), (.int p6)] below meth c s₁) (hml0 : c.maxLocals = maxLocals) (hZ : Z.Warmed39 s.vm) {TJ : State} {locsJ : List Loc} {hJ : Heap} {b2 : Addr} {b55 : Addr} {y56 : Addr} {k2 : ClassId} {k_y56 : ClassId} {sa : Int32} {sb : Int32} {sc : Int32} {ta : Int32} {tb : Int32} {tc : Int32} {ka : Int32} {kb : Int32} (XJ : Stand p l e room_1 s m #[(.int p1), (.int p2), (.int p3), (.int p4), (.int p5), (.int p6)] below meth c TJ locsJ 4 332) (eJ : TJ.heap = hJ) (NJ : Fr n0 locsJ) (K0 : Keep h0 hJ []) (Z0 : n0 ≤ hJ.size) (V_b2 : Arv Z hJ b2 k2 .int (9 : Int32) [(.int p1), (.int p2), (.int p3), (.int sa), (.int sb), (.int sc), (.int (0 : Int32)), (.int (0 : Int32)), (.int (0 : Int32))] (.int (0 : Int32))) (E_b55 : Exa Z hJ b55 TC) (F_b55_size : Fld Z hJ b55 TC "size" "I" (.int (2 : Int32))) (F_b55_terms : Fld Z hJ b55 TC "terms" "[I" (.ref y56)) (V_y56 : Arv Z hJ y56 k_y56 .int (192 : Int32) [(.int p1), (.int p2), (.int p3), (.int sa), (.int sb), (.int sc)] (.int (0 : Int32))) :
  Go p.tables e below (TJ.setTop (mkF m 394 #[vi p1, vi p2, vi p3, vi p4, vi p5, vi p6, vi ka, vi sa, vi sb, vi sc, vi kb, vi ta, vi tb, vi tc, vr b2, vi 2, vi 1, vi 0, vr b55, vi 1, vi 1, vi 0, vi 2, vi 1] [])) (fun o U' => ∃ v L, o = .returned v ∧ Q0 Z p1 p2 p3 p4 p5 p6 h0 n0 v U'.heap L ∧ FrameEnd s o U' L 16 768) := by
 have hx := Bd.exec
 have hby := Bd.bytes
 have hml : c.maxLocals = 24 := hml0
 have hown : s.vm.findClass "com/example/tripletype/tripletype/TripleTableAddPinLaw" = some m.cls := findClass_of_methodNamed Bd.named
 have hnm := (name_of_methodNamed Bd.named Bd.method).1
 refine G (fun t k => XS.aload XJ.here hx rfl (hb hby at_394) rfl rfl (XS.iload XJ.here hx rfl (hb hby at_396) rfl k)) ?_
 obtain ⟨cq70, kq70, q70a, q70b, q70c⟩ := isOf hZ eJ E_b55
 obtain ⟨_, _, ⟨T70, L70, k70, n70⟩, -, X70, ⟨Lc70, hQ70, l70, y70, z70⟩, st70⟩ := XJ.virtualBack hx (y := (⟨TC, "subject", "(I)I"⟩ : MethodName)) (z := (⟨TC, "subject", "(I)I"⟩ : MethodName)) hown (mvT hZ (wd32 hw)) (mvT hZ (wd33 hw)) (notFace_of_selects (args := #[]) (mvT hZ (wd35 hw))) (mvT hZ (wd35 hw)) (mvT hZ (wd34 hw)) (by decide) (backOf (W := 0) (rm6 l Z a0 hw [] b55 (1 : Int32) y56 k_y56 [(.int p1), (.int p2), (.int p3), (.int sa), (.int sb), (.int sc)] sa hJ n0 Z0 F_b55_terms V_y56 (by decide) rfl) hZ (wd36 hw) (wd3 hw) (by decide) (by decide)) q70a q70c (g := (mkF m 398 #[vi p1, vi p2, vi p3, vi p4, vi p5, vi p6, vi ka, vi sa, vi sb, vi sc, vi kb, vi ta, vi tb, vi tc, vr b2, vi 2, vi 1, vi 0, vr b55, vi 1, vi 1, vi 0, vi 2, vi 1] [(.int 1), (.ref b55)])) rfl (by rw [hml]; rfl) (Steps.refl _) (argsL := [(.int (1 : Int32))]) (rest := []) (lenOf pd4 rfl) rfl (by show 2 * 0 + _ ≤ _; exact Nat.le_of_eq rfl) (hb hby at_398) (fun _ _ => ⟨rfl, eJ, (by decide : 4 + 0 ≤ _), (by decide : 332 + 0 ≤ _)⟩)
 dsimp only [Pt.U, Pt.locs, Pt.cells, Pt.slots] at X70 l70 y70 z70 st70 hQ70
 subst l70 y70 z70
 refine Go.tr st70 ?_
 obtain ⟨rfl, N70q, e70⟩ := hQ70
 have N70 := Fr.app NJ N70q
 refine G (fun t k => XS.aload X70.here hx rfl (hb hby at_401) rfl rfl (XS.iconst X70.here hx rfl (hb hby at_403) (XS.iload X70.here hx rfl (hb hby at_404) rfl (XS.imul X70.here hx rfl (hb hby at_406) rfl k)))) ?_
 show Go _ _ _ (T70.setTop (mkF m 407 #[vi p1, vi p2, vi p3, vi p4, vi p5, vi p6, vi ka, vi sa, vi sb, vi sc, vi kb, vi ta, vi tb, vi tc, vr b2, vi 2, vi 1, vi 0, vr b55, vi 1, vi 1, vi 0, vi 2, vi 1] [(.int 3), (.ref b2), (.int sa)])) _
 obtain ⟨cl71, Ar71, -, Sz71, Ng71, Hs71, -⟩ := id V_b2
 have hin71 : ¬ ((3 : Int32) < 0 ∨ cl71.slots.size ≤ ((3 : Int32)).toNatClampNeg) := inb_of Sz71 ⟨by decide, by decide⟩
 refine G (fun t k => X70.iaload hx (j := (3 : Int32)) (v := (.int sa)) (by rw [e70]; exact Ar71.1) (State.isArrayOf_alike hZ.alike Ar71.2.1) Ar71.2.2 hin71 (Has.at Hs71 hin71 rfl) (g := (mkF m 407 #[vi p1, vi p2, vi p3, vi p4, vi p5, vi p6, vi ka, vi sa, vi sb, vi sc, vi kb, vi ta, vi tb, vi tc, vr b2, vi 2, vi 1, vi 0, vr b55, vi 1, vi 1, vi 0, vi 2, vi 1] [(.int 3), (.ref b2), (.int sa)])) rfl rfl (hb hby at_407) _ k) ?_
 clear hin71 Hs71 Ng71 Sz71 Ar71 cl71
 refine G (fun t k => XS.icmpNo X70.here hx rfl (hb hby at_408) rfl (teq (rfl : sa = sa)).2 (XS.aload X70.here hx rfl (hb hby at_411) rfl rfl (XS.iload X70.here hx rfl (hb hby at_413) rfl k))) ?_
 obtain ⟨cq72, kq72, q72a, q72b, q72c⟩ := isOf hZ e70 E_b55
 obtain ⟨_, _, ⟨T72, L72, k72, n72⟩, -, X72, ⟨Lc72, hQ72, l72, y72, z72⟩, st72⟩ := X70.virtualBack hx (y := (⟨TC, "predicate", "(I)I"⟩ : MethodName)) (z := (⟨TC, "predicate", "(I)I"⟩ : MethodName)) hown (mvT hZ (wd37 hw)) (mvT hZ (wd38 hw)) (notFace_of_selects (args := #[]) (mvT hZ (wd40 hw))) (mvT hZ (wd40 hw)) (mvT hZ (wd39 hw)) (by decide) (backOf (W := 0) (rm7 l Z a0 hw [] b55 (1 : Int32) y56 k_y56 [(.int p1), (.int p2), (.int p3), (.int sa), (.int sb), (.int sc)] sb hJ n0 Z0 F_b55_terms V_y56 (by decide) rfl) hZ (wd41 hw) (wd3 hw) (by decide) (by decide)) q72a q72c (g := (mkF m 415 #[vi p1, vi p2, vi p3, vi p4, vi p5, vi p6, vi ka, vi sa, vi sb, vi sc, vi kb, vi ta, vi tb, vi tc, vr b2, vi 2, vi 1, vi 0, vr b55, vi 1, vi 1, vi 0, vi 2, vi 1] [(.int 1), (.ref b55)])) rfl (by rw [hml]; rfl) (Steps.refl _) (argsL := [(.int (1 : Int32))]) (rest := []) (lenOf pd4 rfl) rfl (by show 2 * 0 + _ ≤ _; exact Nat.le_of_eq rfl) (hb hby at_415) (fun _ _ => ⟨rfl, e70, (by decide : 4 + 0 ≤ _), (by decide : 332 + 0 ≤ _)⟩)
 dsimp only [Pt.U, Pt.locs, Pt.cells, Pt.slots] at X72 l72 y72 z72 st72 hQ72
 subst l72 y72 z72
 refine Go.tr st72 ?_
 obtain ⟨rfl, N72q, e72⟩ := hQ72
 have N72 := Fr.app N70 N72q
 refine G (fun t k => XS.aload X72.here hx rfl (hb hby at_418) rfl rfl (XS.iconst X72.here hx rfl (hb hby at_420) k)) ?_
 show Go _ _ _ (T72.setTop (mkF m 421 #[vi p1, vi p2, vi p3, vi p4, vi p5, vi p6, vi ka, vi sa, vi sb, vi sc, vi kb, vi ta, vi tb, vi tc, vr b2, vi 2, vi 1, vi 0, vr b55, vi 1, vi 1, vi 0, vi 2, vi 1] [(.int 3), (.ref b2), (.int sb)])) _
 refine G (fun t k => XS.iload X72.here hx rfl (hb hby at_421) rfl (XS.imul X72.here hx rfl (hb hby at_423) rfl (XS.iconst X72.here hx rfl (hb hby at_424) (XS.iadd X72.here hx rfl (hb hby at_425) rfl k)))) ?_
 obtain ⟨cl73, Ar73, -, Sz73, Ng73, Hs73, -⟩ := id V_b2
 have hin73 : ¬ ((4 : Int32) < 0 ∨ cl73.slots.size ≤ ((4 : Int32)).toNatClampNeg) := inb_of Sz73 ⟨by decide, by decide⟩
 refine G (fun t k => X72.iaload hx (j := (4 : Int32)) (v := (.int sb)) (by rw [e72]; exact Ar73.1) (State.isArrayOf_alike hZ.alike Ar73.2.1) Ar73.2.2 hin73 (Has.at Hs73 hin73 rfl) (g := (mkF m 426 #[vi p1, vi p2, vi p3, vi p4, vi p5, vi p6, vi ka, vi sa, vi sb, vi sc, vi kb, vi ta, vi tb, vi tc, vr b2, vi 2, vi 1, vi 0, vr b55, vi 1, vi 1, vi 0, vi 2, vi 1] [(.int 4), (.ref b2), (.int sb)])) rfl rfl (hb hby at_426) _ k) ?_
 clear hin73 Hs73 Ng73 Sz73 Ar73 cl73
 refine G (fun t k => XS.icmpNo X72.here hx rfl (hb hby at_427) rfl (teq (rfl : sb = sb)).2 (XS.aload X72.here hx rfl (hb hby at_430) rfl rfl k)) ?_
 show Go _ _ _ (T72.setTop (mkF m 432 #[vi p1, vi p2, vi p3, vi p4, vi p5, vi p6, vi ka, vi sa, vi sb, vi sc, vi kb, vi ta, vi tb, vi tc, vr b2, vi 2, vi 1, vi 0, vr b55, vi 1, vi 1, vi 0, vi 2, vi 1] [(.ref b55)])) _
 refine G (fun t k => XS.iload X72.here hx rfl (hb hby at_432) rfl k) ?_
 obtain ⟨cq74, kq74, q74a, q74b, q74c⟩ := isOf hZ e72 E_b55
 obtain ⟨_, _, ⟨T74, L74, k74, n74⟩, -, X74, ⟨Lc74, hQ74, l74, y74, z74⟩, st74⟩ := X72.virtualBack hx (y := (⟨TC, "object", "(I)I"⟩ : MethodName)) (z := (⟨TC, "object", "(I)I"⟩ : MethodName)) hown (mvT hZ (wd42 hw)) (mvT hZ (wd43 hw)) (notFace_of_selects (args := #[]) (mvT hZ (wd45 hw))) (mvT hZ (wd45 hw)) (mvT hZ (wd44 hw)) (by decide) (backOf (W := 0) (rm8 l Z a0 hw [] b55 (1 : Int32) y56 k_y56 [(.int p1), (.int p2), (.int p3), (.int sa), (.int sb), (.int sc)] sc hJ n0 Z0 F_b55_terms V_y56 (by decide) rfl) hZ (wd46 hw) (wd3 hw) (by decide) (by decide)) q74a q74c (g := (mkF m 434 #[vi p1, vi p2, vi p3, vi p4, vi p5, vi p6, vi ka, vi sa, vi sb, vi sc, vi kb, vi ta, vi tb, vi tc, vr b2, vi 2, vi 1, vi 0, vr b55, vi 1, vi 1, vi 0, vi 2, vi 1] [(.int 1), (.ref b55)])) rfl (by rw [hml]; rfl) (Steps.refl _) (argsL := [(.int (1 : Int32))]) (rest := []) (lenOf pd4 rfl) rfl (by show 2 * 0 + _ ≤ _; exact Nat.le_of_eq rfl) (hb hby at_434) (fun _ _ => ⟨rfl, e72, (by decide : 4 + 0 ≤ _), (by decide : 332 + 0 ≤ _)⟩)
 dsimp only [Pt.U, Pt.locs, Pt.cells, Pt.slots] at X74 l74 y74 z74 st74 hQ74
 subst l74 y74 z74
 refine Go.tr st74 ?_
 obtain ⟨rfl, N74q, e74⟩ := hQ74
 have N74 := Fr.app N72 N74q
 refine G (fun t k => XS.aload X74.here hx rfl (hb hby at_437) rfl rfl (XS.iconst X74.here hx rfl (hb hby at_439) (XS.iload X74.here hx rfl (hb hby at_440) rfl (XS.imul X74.here hx rfl (hb hby at_442) rfl (XS.iconst X74.here hx rfl (hb hby at_443) k))))) ?_
 show Go _ _ _ (T74.setTop (mkF m 444 #[vi p1, vi p2, vi p3, vi p4, vi p5, vi p6, vi ka, vi sa, vi sb, vi sc, vi kb, vi ta, vi tb, vi tc, vr b2, vi 2, vi 1, vi 0, vr b55, vi 1, vi 1, vi 0, vi 2, vi 1] [(.int 2), (.int 3), (.ref b2), (.int sc)])) _
 refine G (fun t k => XS.iadd X74.here hx rfl (hb hby at_444) rfl k) ?_
 obtain ⟨cl75, Ar75, -, Sz75, Ng75, Hs75, -⟩ := id V_b2
 have hin75 : ¬ ((5 : Int32) < 0 ∨ cl75.slots.size ≤ ((5 : Int32)).toNatClampNeg) := inb_of Sz75 ⟨by decide, by decide⟩
 refine G (fun t k => X74.iaload hx (j := (5 : Int32)) (v := (.int sc)) (by rw [e74]; exact Ar75.1) (State.isArrayOf_alike hZ.alike Ar75.2.1) Ar75.2.2 hin75 (Has.at Hs75 hin75 rfl) (g := (mkF m 445 #[vi p1, vi p2, vi p3, vi p4, vi p5, vi p6, vi ka, vi sa, vi sb, vi sc, vi kb, vi ta, vi tb, vi tc, vr b2, vi 2, vi 1, vi 0, vr b55, vi 1, vi 1, vi 0, vi 2, vi 1] [(.int 5), (.ref b2), (.int sc)])) rfl rfl (hb hby at_445) _ k) ?_
 clear hin75 Hs75 Ng75 Sz75 Ar75 cl75
 refine G (fun t k => XS.icmpNo X74.here hx rfl (hb hby at_446) rfl (teq (rfl : sc = sc)).2 (XS.iconst X74.here hx rfl (hb hby at_449) (XS.goto X74.here hx rfl (pc0 := 450) (pc' := 454) rfl (hb hby at_450) (by decide) (by decide) k))) ?_
 obtain ⟨fs, hr, hrun, hended, hW, hsame⟩ := X74.leave (v := some (.int (1 : Int32))) (fun h => by rw [Bd.returns] at h; cases h)
 refine Go.fin (retN X74 hx (t := .boolean) Bd.returns (by simp) (hb hby at_454) hr) hrun hended ⟨_, _, rfl, ?_, ⟨_, rfl⟩, hW, hsame.mono (by decide) (by decide)⟩
 show Q0 Z p1 p2 p3 p4 p5 p6 h0 n0 _ T74.heap _
 rw [e74]
 exact ⟨rfl, N74⟩
theorem TJ0_54 (l : Launch) (Z : State) (a0 : Array Value) (hw : HW a0 Z) (ws : List Jvm.Cond) (p1 : Int32) (p2 : Int32) (p3 : Int32) (p4 : Int32) (p5 : Int32) (p6 : Int32) (h0 : Heap) (n0 : Nat) {p : Program} {e : Env} {s : State} {m : MethodId} {below : List Frame} {meth : Method} {c : Code} {s₁ : State} (Bd : BodyLoose p l x (head1 (Jvm.Cond.code x code maxLocals ret :: ws) room_1) code maxLocals ret e s m #[(.int p1), (.int p2), (.int p3), (.int p4), (.int p5), (.int p6)] below meth c s₁) (hml0 : c.maxLocals = maxLocals) (hZ : Z.Warmed39 s.vm) {TJ : State} {locsJ : List Loc} {hJ : Heap} {b2 : Addr} {k2 : ClassId} {sa : Int32} {sb : Int32} {sc : Int32} {ta : Int32} {tb : Int32} {tc : Int32} {ka : Int32} {kb : Int32} (XJ : Stand p l e room_1 s m #[(.int p1), (.int p2), (.int p3), (.int p4), (.int p5), (.int p6)] below meth c TJ locsJ 1 9) (eJ : TJ.heap = hJ) (NJ : Fr n0 locsJ) (K0 : Keep h0 hJ []) (Z0 : n0 ≤ hJ.size) (V_b2 : Arv Z hJ b2 k2 .int (9 : Int32) [(.int p1), (.int p2), (.int p3), (.int sa), (.int sb), (.int sc), (.int (0 : Int32)), (.int (0 : Int32)), (.int (0 : Int32))] (.int (0 : Int32))) (hn2 : ¬ (sa = p1 ∧ sb = p2 ∧ sc = p3)) (hna : ¬ (ta = p1 ∧ tb = p2 ∧ tc = p3)) (hes : ta = sa ∧ tb = sb ∧ tc = sc) :
  Go p.tables e below (TJ.setTop (mkF m 259 #[vi p1, vi p2, vi p3, vi p4, vi p5, vi p6, vi ka, vi sa, vi sb, vi sc, vi kb, vi ta, vi tb, vi tc, vr b2, vi 2, vi 1, vi 0, us, us, us, us, us, us] [])) (fun o U' => ∃ v L, o = .returned v ∧ Q0 Z p1 p2 p3 p4 p5 p6 h0 n0 v U'.heap L ∧ FrameEnd s o U' L 16 768) := by
 have hx := Bd.exec
 have hby := Bd.bytes
 have hml : c.maxLocals = 24 := hml0
 have hown : s.vm.findClass "com/example/tripletype/tripletype/TripleTableAddPinLaw" = some m.cls := findClass_of_methodNamed Bd.named
 have hnm := (name_of_methodNamed Bd.named Bd.method).1
 refine G (fun t k => XS.iload XJ.here hx rfl (hb hby at_259) rfl (XS.ifYes XJ.here hx rfl (pc0 := 261) (pc' := 301) rfl (hb hby at_261) rfl ((if0 _ _).trans (teq (by decide : (0 : Int32) = (0 : Int32))).1) (by decide) (by decide) k)) ?_
 obtain ⟨T55, h55, X55, e55, E55, A55, D55, -, st55⟩ := newO XJ hx hZ hown (wd1 hw) (wd2 hw) (wd3 hw) eJ (g := (mkF m 301 #[vi p1, vi p2, vi p3, vi p4, vi p5, vi p6, vi ka, vi sa, vi sb, vi sc, vi kb, vi ta, vi tb, vi tc, vr b2, vi 2, vi 1, vi 0, us, us, us, us, us, us] [])) rfl (hb hby at_301) (by decide) (by decide)
 obtain ⟨b55, g55⟩ : ∃ z, z = hJ.size := ⟨_, rfl⟩
 rw [← g55] at A55 D55 st55
 refine G st55 ?_
 have ne_b2_b55 : b2 ≠ b55 := Nat.ne_of_lt (Nat.lt_of_lt_of_le V_b2.lt (Nat.le_of_eq g55.symm))
 have g_b55 : n0 ≤ b55 := Nat.le_trans Z0 (Nat.le_of_eq g55.symm)
 have sz_b55 : h0.size ≤ b55 := Nat.le_trans K0.1 (Nat.le_of_eq g55.symm)
 replace V_b2 := V_b2.ext E55
 replace K0 := K0.ext E55
 replace Z0 := Nat.le_trans Z0 E55.1
 have E_b55 := A55
 have F_b55_terms : Fld Z h55 b55 TC "terms" "[I" .null := D55 (Or.inl (wd11 hw)) (ty := (.array .int)) (by decide)
 have F_b55_slots : Fld Z h55 b55 TC "slots" "[I" .null := D55 (Or.inl (wd13 hw)) (ty := (.array .int)) (by decide)
 have F_b55_size : Fld Z h55 b55 TC "size" "I" (.int (0 : Int32)) := D55 (Or.inl (wd26 hw)) (ty := .int) (by decide)
 refine G (fun t k => XS.dup X55.here hx rfl (hb hby at_304) rfl rfl k) ?_
 obtain ⟨_, _, ⟨T56, L56, k56, n56⟩, -, X56, ⟨Lc56, hQ56, l56, y56, z56⟩, st56⟩ := X55.specialBack hx (y := (⟨TC, "<init>", "()V"⟩ : MethodName)) rfl hown (mvT hZ (wd4 hw)) (mvT hZ (wd5 hw)) (mvT hZ (wd6 hw)) (by decide) (backOf (W := 1) (rm1 l Z a0 hw [] b55 (.null : Value) (.null : Value) h55 n0 Z0 E_b55 F_b55_size F_b55_terms F_b55_slots g_b55) hZ (wd6 hw) (wd3 hw) (by decide) (by decide)) (g := (mkF m 305 #[vi p1, vi p2, vi p3, vi p4, vi p5, vi p6, vi ka, vi sa, vi sb, vi sc, vi kb, vi ta, vi tb, vi tc, vr b2, vi 2, vi 1, vi 0, us, us, us, us, us, us] [(.ref b55), (.ref b55)])) rfl (by rw [hml]; rfl) (Steps.refl _) (a := b55) (argsL := []) (rest := [(.ref b55)]) (lenOf pd1 rfl) rfl (by show 2 * 0 + _ ≤ _; exact Nat.le_of_eq rfl) (hb hby at_305) (fun _ _ => ⟨rfl, e55, (by decide : 2 + 2 ≤ _), (by decide : 12 + 320 ≤ _)⟩)
 dsimp only [Pt.U, Pt.locs, Pt.cells, Pt.slots] at X56 l56 y56 z56 st56 hQ56
 subst l56 y56 z56
 have E_b55_pre := E_b55
 have F_b55_terms_pre := F_b55_terms
 have F_b55_slots_pre := F_b55_slots
 have F_b55_size_pre := F_b55_size
 obtain ⟨h56, e56⟩ : ∃ z, T56.heap = z := ⟨_, rfl⟩
 rw [e56] at hQ56
 obtain ⟨y56, y56a, k_y56, k_y56a, rfl, N56q, K56, ng_y56, sz0_y56, ng_y56a, sz0_y56a, nef_y56_y56a, Q56_0, Q56_1, Q56_2, Q56_3, Q56_4, Q56_5⟩ := hQ56
 refine Go.tr st56 ?_
 have ne_b2_y56 : b2 ≠ y56 := Nat.ne_of_lt (Nat.lt_of_lt_of_le V_b2.lt sz0_y56)
 have ne_b55_y56 : b55 ≠ y56 := Nat.ne_of_lt (Nat.lt_of_lt_of_le E_b55.lt sz0_y56)
 have g_y56 : n0 ≤ y56 := ng_y56
 have sz_y56 : h0.size ≤ y56 := Nat.le_trans K0.1 sz0_y56
 have ne_b2_y56a : b2 ≠ y56a := Nat.ne_of_lt (Nat.lt_of_lt_of_le V_b2.lt sz0_y56a)
 have ne_b55_y56a : b55 ≠ y56a := Nat.ne_of_lt (Nat.lt_of_lt_of_le E_b55.lt sz0_y56a)
 have g_y56a : n0 ≤ y56a := ng_y56a
 have sz_y56a : h0.size ≤ y56a := Nat.le_trans K0.1 sz0_y56a
 replace V_b2 := V_b2.keep K56 (ninS ne_b2_b55 nin0)
 replace E_b55 := E_b55.keep K56
 replace Z0 := Nat.le_trans Z0 K56.1
 replace K0 := K0.trans K56 (allS (Or.inr sz_b55) all0)
 clear E_b55_pre F_b55_terms_pre F_b55_slots_pre F_b55_size_pre
 have E_b55 := Q56_0
 have F_b55_size := Q56_1
 have F_b55_terms := Q56_2
 have F_b55_slots := Q56_3
 have V_y56 := Q56_4
 have V_y56a := Q56_5
 have N56 := Fr.app NJ N56q
 refine G (fun t k => XS.astore X56.here hx rfl (hb hby at_308) rfl rfl (l' := #[vi p1, vi p2, vi p3, vi p4, vi p5, vi p6, vi ka, vi sa, vi sb, vi sc, vi kb, vi ta, vi tb, vi tc, vr b2, vi 2, vi 1, vi 0, vr b55, us, us, us, us, us]) rfl (XS.aload X56.here hx rfl (hb hby at_310) rfl rfl k)) ?_
 show Go _ _ _ (T56.setTop (mkF m 312 #[vi p1, vi p2, vi p3, vi p4, vi p5, vi p6, vi ka, vi sa, vi sb, vi sc, vi kb, vi ta, vi tb, vi tc, vr b2, vi 2, vi 1, vi 0, vr b55, us, us, us, us, us] [(.ref b55)])) _
 refine G (fun t k => XS.iloadN X56.here hx rfl (hb hby at_312) rfl (XS.iloadN X56.here hx rfl (hb hby at_313) rfl (XS.iloadN X56.here hx rfl (hb hby at_314) rfl k))) ?_
 obtain ⟨cq57, kq57, q57a, q57b, q57c⟩ := isOf hZ e56 E_b55
 obtain ⟨_, _, ⟨T57, L57, k57, n57⟩, -, X57, ⟨Lc57, hQ57, l57, y57, z57⟩, st57⟩ := X56.virtualBack hx (y := (⟨TC, "add", "(III)Z"⟩ : MethodName)) (z := (⟨TC, "add", "(III)Z"⟩ : MethodName)) hown (mvT hZ (wd14 hw)) (mvT hZ (wd15 hw)) (notFace_of_selects (args := #[]) (mvT hZ (wd17 hw))) (mvT hZ (wd17 hw)) (mvT hZ (wd16 hw)) (by decide) (backOf (W := 0) (rm3n0 l Z a0 hw [] b55 p1 p2 p3 y56 y56a k_y56 k_y56a h56 n0 Z0 E_b55 F_b55_size F_b55_terms F_b55_slots V_y56 V_y56a (Ne.symm ne_b55_y56) (Ne.symm ne_b55_y56a) nef_y56_y56a g_y56 g_b55 g_y56a) hZ (wd18 hw) (wd3 hw) (by decide) (by decide)) q57a q57c (g := (mkF m 315 #[vi p1, vi p2, vi p3, vi p4, vi p5, vi p6, vi ka, vi sa, vi sb, vi sc, vi kb, vi ta, vi tb, vi tc, vr b2, vi 2, vi 1, vi 0, vr b55, us, us, us, us, us] [(.int p3), (.int p2), (.int p1), (.ref b55)])) rfl (by rw [hml]; rfl) (Steps.refl _) (argsL := [(.int p1), (.int p2), (.int p3)]) (rest := []) (lenOf pd2 rfl) rfl (by show 2 * 0 + _ ≤ _; exact Nat.le_of_eq rfl) (hb hby at_315) (fun _ _ => ⟨rfl, e56, (by decide : 4 + 0 ≤ _), (by decide : 332 + 0 ≤ _)⟩)
 dsimp only [Pt.U, Pt.locs, Pt.cells, Pt.slots] at X57 l57 y57 z57 st57 hQ57
 subst l57 y57 z57
 refine Go.tr st57 ?_
 have E_b55_pre := E_b55
 have F_b55_size_pre := F_b55_size
 have F_b55_terms_pre := F_b55_terms
 have F_b55_slots_pre := F_b55_slots
 have V_y56_pre := V_y56
 have V_y56a_pre := V_y56a
 obtain ⟨h57, e57⟩ : ∃ z, T57.heap = z := ⟨_, rfl⟩
 rw [e57] at hQ57
 obtain ⟨rfl, N57q, K57, Q57_0, Q57_1, Q57_2, Q57_3, Q57_4, Q57_5⟩ := hQ57
 replace V_b2 := V_b2.keep K57 (ninS ne_b2_y56 (ninS ne_b2_b55 (ninS ne_b2_y56a nin0)))
 replace E_b55 := E_b55.keep K57
 replace Z0 := Nat.le_trans Z0 K57.1
 replace K0 := K0.trans K57 (allS (Or.inr sz_y56) (allS (Or.inr sz_b55) (allS (Or.inr sz_y56a) all0)))
 clear E_b55_pre F_b55_size_pre F_b55_terms_pre F_b55_slots_pre V_y56_pre V_y56a_pre
 have E_b55 := Q57_0
 have F_b55_size := Q57_1
 have F_b55_terms := Q57_2
 have F_b55_slots := Q57_3
 have V_y56 := Q57_4
 have V_y56a := Q57_5
 have N57 := Fr.app N56 N57q
 refine G (fun t k => XS.istore X57.here hx rfl (hb hby at_318) rfl (l' := #[vi p1, vi p2, vi p3, vi p4, vi p5, vi p6, vi ka, vi sa, vi sb, vi sc, vi kb, vi ta, vi tb, vi tc, vr b2, vi 2, vi 1, vi 0, vr b55, vi 1, us, us, us, us]) rfl (XS.aload X57.here hx rfl (hb hby at_320) rfl rfl (XS.iload X57.here hx rfl (hb hby at_322) rfl k))) ?_
 show Go _ _ _ (T57.setTop (mkF m 324 #[vi p1, vi p2, vi p3, vi p4, vi p5, vi p6, vi ka, vi sa, vi sb, vi sc, vi kb, vi ta, vi tb, vi tc, vr b2, vi 2, vi 1, vi 0, vr b55, vi 1, us, us, us, us] [(.int sa), (.ref b55)])) _
 refine G (fun t k => XS.iload X57.here hx rfl (hb hby at_324) rfl (XS.iload X57.here hx rfl (hb hby at_326) rfl k)) ?_
 obtain ⟨cq58, kq58, q58a, q58b, q58c⟩ := isOf hZ e57 E_b55
 obtain ⟨_, _, ⟨T58, L58, k58, n58⟩, -, X58, ⟨Lc58, hQ58, l58, y58, z58⟩, st58⟩ := X57.virtualBack hx (y := (⟨TC, "add", "(III)Z"⟩ : MethodName)) (z := (⟨TC, "add", "(III)Z"⟩ : MethodName)) hown (mvT hZ (wd14 hw)) (mvT hZ (wd15 hw)) (notFace_of_selects (args := #[]) (mvT hZ (wd17 hw))) (mvT hZ (wd17 hw)) (mvT hZ (wd16 hw)) (by decide) (backOf (W := 0) (rm3n1 l Z a0 hw [] b55 sa sb sc y56 y56a k_y56 k_y56a p1 p2 p3 ((f4 p1 p2 p3) &&& (127 : Int32)) h57 n0 Z0 E_b55 F_b55_size F_b55_terms F_b55_slots V_y56 V_y56a (Ne.symm ne_b55_y56) (Ne.symm ne_b55_y56a) nef_y56_y56a (fun z => hn2 ⟨z.1.symm, z.2.1.symm, z.2.2.symm⟩) g_y56 g_b55 g_y56a) hZ (wd18 hw) (wd3 hw) (by decide) (by decide)) q58a q58c (g := (mkF m 328 #[vi p1, vi p2, vi p3, vi p4, vi p5, vi p6, vi ka, vi sa, vi sb, vi sc, vi kb, vi ta, vi tb, vi tc, vr b2, vi 2, vi 1, vi 0, vr b55, vi 1, us, us, us, us] [(.int sc), (.int sb), (.int sa), (.ref b55)])) rfl (by rw [hml]; rfl) (Steps.refl _) (argsL := [(.int sa), (.int sb), (.int sc)]) (rest := []) (lenOf pd2 rfl) rfl (by show 2 * 0 + _ ≤ _; exact Nat.le_of_eq rfl) (hb hby at_328) (fun _ _ => ⟨rfl, e57, (by decide : 4 + 0 ≤ _), (by decide : 332 + 0 ≤ _)⟩)
 dsimp only [Pt.U, Pt.locs, Pt.cells, Pt.slots] at X58 l58 y58 z58 st58 hQ58
 subst l58 y58 z58
 refine Go.tr st58 ?_
 have E_b55_pre := E_b55
 have F_b55_size_pre := F_b55_size
 have F_b55_terms_pre := F_b55_terms
 have F_b55_slots_pre := F_b55_slots
 have V_y56_pre := V_y56
 have V_y56a_pre := V_y56a
 obtain ⟨h58, e58⟩ : ∃ z, T58.heap = z := ⟨_, rfl⟩
 rw [e58] at hQ58
 obtain ⟨rfl, N58q, K58, Q58_0, Q58_1, Q58_2, Q58_3, Q58_4, Q58_5⟩ := hQ58
 replace V_b2 := V_b2.keep K58 (ninS ne_b2_y56 (ninS ne_b2_b55 (ninS ne_b2_y56a nin0)))
 replace E_b55 := E_b55.keep K58
 replace Z0 := Nat.le_trans Z0 K58.1
 replace K0 := K0.trans K58 (allS (Or.inr sz_y56) (allS (Or.inr sz_b55) (allS (Or.inr sz_y56a) all0)))
 clear E_b55_pre F_b55_size_pre F_b55_terms_pre F_b55_slots_pre V_y56_pre V_y56a_pre
 have E_b55 := Q58_0
 have F_b55_size := Q58_1
 have F_b55_terms := Q58_2
 have F_b55_slots := Q58_3
 have V_y56 := Q58_4
 have V_y56a := Q58_5
 have N58 := Fr.app N57 N58q
 refine G (fun t k => XS.istore X58.here hx rfl (hb hby at_331) rfl (l' := #[vi p1, vi p2, vi p3, vi p4, vi p5, vi p6, vi ka, vi sa, vi sb, vi sc, vi kb, vi ta, vi tb, vi tc, vr b2, vi 2, vi 1, vi 0, vr b55, vi 1, vi 1, us, us, us]) rfl (XS.aload X58.here hx rfl (hb hby at_333) rfl rfl (XS.iload X58.here hx rfl (hb hby at_335) rfl (XS.iload X58.here hx rfl (hb hby at_337) rfl k)))) ?_
 show Go _ _ _ (T58.setTop (mkF m 339 #[vi p1, vi p2, vi p3, vi p4, vi p5, vi p6, vi ka, vi sa, vi sb, vi sc, vi kb, vi ta, vi tb, vi tc, vr b2, vi 2, vi 1, vi 0, vr b55, vi 1, vi 1, us, us, us] [(.int tb), (.int ta), (.ref b55)])) _
 refine G (fun t k => XS.iload X58.here hx rfl (hb hby at_339) rfl k) ?_
 obtain ⟨cq59, kq59, q59a, q59b, q59c⟩ := isOf hZ e58 E_b55
 obtain ⟨_, _, ⟨T59, L59, k59, n59⟩, -, X59, ⟨Lc59, hQ59, l59, y59, z59⟩, st59⟩ := X58.virtualBack hx (y := (⟨TC, "add", "(III)Z"⟩ : MethodName)) (z := (⟨TC, "add", "(III)Z"⟩ : MethodName)) hown (mvT hZ (wd14 hw)) (mvT hZ (wd15 hw)) (notFace_of_selects (args := #[]) (mvT hZ (wd17 hw))) (mvT hZ (wd17 hw)) (mvT hZ (wd16 hw)) (by decide) (backOf (W := 0) (rm3d22 l Z a0 hw [] b55 ta tb tc y56 y56a k_y56 k_y56a p1 p2 p3 sa sb sc ((f4 p1 p2 p3) &&& (127 : Int32)) (f3n1_w_S_i0 sa sb sc ((f4 p1 p2 p3) &&& (127 : Int32))) h58 n0 Z0 E_b55 F_b55_size F_b55_terms F_b55_slots V_y56 V_y56a (Ne.symm ne_b55_y56) (Ne.symm ne_b55_y56a) nef_y56_y56a ⟨hes.1.symm, hes.2.1.symm, hes.2.2.symm⟩ (own_pos_ne _ _ _ _) (fun z => hna ⟨z.1.symm, z.2.1.symm, z.2.2.symm⟩) (by rw [hes.1, hes.2.1, hes.2.2]; exact fun z => own_pos1 _ _ _ _ z) (by rw [hes.1, hes.2.1, hes.2.2]; exact fun z => own_pos0 _ _ _ _ z)) hZ (wd18 hw) (wd3 hw) (by decide) (by decide)) q59a q59c (g := (mkF m 341 #[vi p1, vi p2, vi p3, vi p4, vi p5, vi p6, vi ka, vi sa, vi sb, vi sc, vi kb, vi ta, vi tb, vi tc, vr b2, vi 2, vi 1, vi 0, vr b55, vi 1, vi 1, us, us, us] [(.int tc), (.int tb), (.int ta), (.ref b55)])) rfl (by rw [hml]; rfl) (Steps.refl _) (argsL := [(.int ta), (.int tb), (.int tc)]) (rest := []) (lenOf pd2 rfl) rfl (by show 2 * 0 + _ ≤ _; exact Nat.le_of_eq rfl) (hb hby at_341) (fun _ _ => ⟨rfl, e58, (by decide : 4 + 0 ≤ _), (by decide : 332 + 0 ≤ _)⟩)
 dsimp only [Pt.U, Pt.locs, Pt.cells, Pt.slots] at X59 l59 y59 z59 st59 hQ59
 subst l59 y59 z59
 refine Go.tr st59 ?_
 obtain ⟨rfl, N59q, e59⟩ := hQ59
 have N59 := Fr.app N58 N59q
 obtain ⟨LL59, X59, N59⟩ : ∃ LL, Stand p l e room_1 s m #[(.int p1), (.int p2), (.int p3), (.int p4), (.int p5), (.int p6)] below meth c T59 LL 4 332 ∧ Fr n0 LL := ⟨_, X59, N59⟩
 show Go _ _ _ (T59.setTop (mkF m 344 #[vi p1, vi p2, vi p3, vi p4, vi p5, vi p6, vi ka, vi sa, vi sb, vi sc, vi kb, vi ta, vi tb, vi tc, vr b2, vi 2, vi 1, vi 0, vr b55, vi 1, vi 1, us, us, us] [(.int 0)])) _
 clear F_b55_slots V_y56a
 refine G (fun t k => XS.istore X59.here hx rfl (hb hby at_344) rfl (l' := #[vi p1, vi p2, vi p3, vi p4, vi p5, vi p6, vi ka, vi sa, vi sb, vi sc, vi kb, vi ta, vi tb, vi tc, vr b2, vi 2, vi 1, vi 0, vr b55, vi 1, vi 1, vi 0, us, us]) rfl (XS.aload X59.here hx rfl (hb hby at_346) rfl rfl k)) ?_
 obtain ⟨cq60, kq60, q60a, q60b, q60c⟩ := isOf hZ e59 E_b55
 obtain ⟨_, _, ⟨T60, L60, k60, n60⟩, -, X60, ⟨Lc60, hQ60, l60, y60, z60⟩, st60⟩ := X59.virtualBack hx (y := (⟨TC, "size", "()I"⟩ : MethodName)) (z := (⟨TC, "size", "()I"⟩ : MethodName)) hown (mvT hZ (wd27 hw)) (mvT hZ (wd28 hw)) (notFace_of_selects (args := #[]) (mvT hZ (wd30 hw))) (mvT hZ (wd30 hw)) (mvT hZ (wd29 hw)) (by decide) (backOf (W := 0) (rm5 l Z a0 hw [] b55 (2 : Int32) h58 n0 Z0 F_b55_size) hZ (wd31 hw) (wd3 hw) (by decide) (by decide)) q60a q60c (g := (mkF m 348 #[vi p1, vi p2, vi p3, vi p4, vi p5, vi p6, vi ka, vi sa, vi sb, vi sc, vi kb, vi ta, vi tb, vi tc, vr b2, vi 2, vi 1, vi 0, vr b55, vi 1, vi 1, vi 0, us, us] [(.ref b55)])) rfl (by rw [hml]; rfl) (Steps.refl _) (argsL := []) (rest := []) (lenOf pd3 rfl) rfl (by show 2 * 0 + _ ≤ _; exact Nat.le_of_eq rfl) (hb hby at_348) (fun _ _ => ⟨rfl, e59, (by decide : 4 + 0 ≤ _), (by decide : 332 + 0 ≤ _)⟩)
 dsimp only [Pt.U, Pt.locs, Pt.cells, Pt.slots] at X60 l60 y60 z60 st60 hQ60
 subst l60 y60 z60
 refine Go.tr st60 ?_
 obtain ⟨rfl, N60q, e60⟩ := hQ60
 have N60 := Fr.app N59 N60q
 refine G (fun t k => XS.istore X60.here hx rfl (hb hby at_351) rfl (l' := #[vi p1, vi p2, vi p3, vi p4, vi p5, vi p6, vi ka, vi sa, vi sb, vi sc, vi kb, vi ta, vi tb, vi tc, vr b2, vi 2, vi 1, vi 0, vr b55, vi 1, vi 1, vi 0, vi 2, us]) rfl (XS.iload X60.here hx rfl (hb hby at_353) rfl (XS.iload X60.here hx rfl (hb hby at_355) rfl (XS.icmpYes X60.here hx rfl (pc0 := 357) (pc' := 362) rfl (hb hby at_357) rfl (teq (by decide : (2 : Int32) = (2 : Int32))).1 (by decide) (by decide) k)))) ?_
 show Go _ _ _ (T60.setTop (mkF m 362 #[vi p1, vi p2, vi p3, vi p4, vi p5, vi p6, vi ka, vi sa, vi sb, vi sc, vi kb, vi ta, vi tb, vi tc, vr b2, vi 2, vi 1, vi 0, vr b55, vi 1, vi 1, vi 0, vi 2, us] [])) _
 refine G (fun t k => XS.iload X60.here hx rfl (hb hby at_362) rfl (XS.ifNo X60.here hx rfl (hb hby at_364) rfl ((if0 _ _).trans (feq (by decide : ¬ ((1 : Int32) = (0 : Int32)))).1) (XS.iload X60.here hx rfl (hb hby at_367) rfl (XS.iload X60.here hx rfl (hb hby at_369) rfl (XS.icmpNo X60.here hx rfl (hb hby at_371) rfl (teq (by decide : (1 : Int32) = (1 : Int32))).2 (XS.iload X60.here hx rfl (hb hby at_374) rfl k)))))) ?_
 refine G (fun t k => XS.iload X60.here hx rfl (hb hby at_376) rfl k) ?_
 show Go _ _ _ (T60.setTop (mkF m 378 #[vi p1, vi p2, vi p3, vi p4, vi p5, vi p6, vi ka, vi sa, vi sb, vi sc, vi kb, vi ta, vi tb, vi tc, vr b2, vi 2, vi 1, vi 0, vr b55, vi 1, vi 1, vi 0, vi 2, us] [(.int 0), (.int 0)])) _
 refine G (fun t k => XS.icmpYes X60.here hx rfl (pc0 := 378) (pc' := 383) rfl (hb hby at_378) rfl (teq (by decide : (0 : Int32) = (0 : Int32))).1 (by decide) (by decide) (XS.iload X60.here hx rfl (hb hby at_383) rfl (XS.iconst X60.here hx rfl (hb hby at_385) (XS.iushr X60.here hx rfl (hb hby at_386) rfl (XS.iconst X60.here hx rfl (hb hby at_387) (XS.iand X60.here hx rfl (hb hby at_388) rfl k)))))) ?_
 refine G (fun t k => XS.iload X60.here hx rfl (hb hby at_389) rfl k) ?_
 show Go _ _ _ (T60.setTop (mkF m 391 #[vi p1, vi p2, vi p3, vi p4, vi p5, vi p6, vi ka, vi sa, vi sb, vi sc, vi kb, vi ta, vi tb, vi tc, vr b2, vi 2, vi 1, vi 0, vr b55, vi 1, vi 1, vi 0, vi 2, us] [(.int 2), (.int (((p6.toUInt32 >>> ((4 : Int32) &&& 31).toUInt32).toInt32) &&& (3 : Int32)))])) _
 refine G (fun t k => iremM X60 hx rfl (hb hby at_391) rfl (by decide) (XS.istore X60.here hx rfl (hb hby at_392) rfl (l' := #[vi p1, vi p2, vi p3, vi p4, vi p5, vi p6, vi ka, vi sa, vi sb, vi sc, vi kb, vi ta, vi tb, vi tc, vr b2, vi 2, vi 1, vi 0, vr b55, vi 1, vi 1, vi 0, vi 2, vi ((((p6.toUInt32 >>> ((4 : Int32) &&& 31).toUInt32).toInt32) &&& (3 : Int32)) % (2 : Int32))]) rfl k)) ?_
 show Go _ _ _ (T60.setTop (mkF m 394 #[vi p1, vi p2, vi p3, vi p4, vi p5, vi p6, vi ka, vi sa, vi sb, vi sc, vi kb, vi ta, vi tb, vi tc, vr b2, vi 2, vi 1, vi 0, vr b55, vi 1, vi 1, vi 0, vi 2, vi ((((p6.toUInt32 >>> ((4 : Int32) &&& 31).toUInt32).toInt32) &&& (3 : Int32)) % (2 : Int32))] [])) _
 by_cases hc61 : ((((p6.toUInt32 >>> ((4 : Int32) &&& 31).toUInt32).toInt32) &&& (3 : Int32)) % (2 : Int32)) = (0 : Int32)
 ·rw [hc61]
  show Go _ _ _ (T60.setTop (mkF m 394 #[vi p1, vi p2, vi p3, vi p4, vi p5, vi p6, vi ka, vi sa, vi sb, vi sc, vi kb, vi ta, vi tb, vi tc, vr b2, vi 2, vi 1, vi 0, vr b55, vi 1, vi 1, vi 0, vi 2, vi 0] [])) _
  exact TJ0_62 l Z a0 hw ws p1 p2 p3 p4 p5 p6 h0 n0 Bd hml0 hZ X60 e60 N60 K0 Z0 V_b2 E_b55 F_b55_size F_b55_terms V_y56
 ·rw [own_j2 ((p6.toUInt32 >>> ((4 : Int32) &&& 31).toUInt32).toInt32) hc61]
  show Go _ _ _ (T60.setTop (mkF m 394 #[vi p1, vi p2, vi p3, vi p4, vi p5, vi p6, vi ka, vi sa, vi sb, vi sc, vi kb, vi ta, vi tb, vi tc, vr b2, vi 2, vi 1, vi 0, vr b55, vi 1, vi 1, vi 0, vi 2, vi 1] [])) _
  exact TJ0_69 l Z a0 hw ws p1 p2 p3 p4 p5 p6 h0 n0 Bd hml0 hZ X60 e60 N60 K0 Z0 V_b2 E_b55 F_b55_size F_b55_terms V_y56
theorem TJ0_87 (l : Launch) (Z : State) (a0 : Array Value) (hw : HW a0 Z) (ws : List Jvm.Cond) (p1 : Int32) (p2 : Int32) (p3 : Int32) (p4 : Int32) (p5 : Int32) (p6 : Int32) (h0 : Heap) (n0 : Nat) {p : Program} {e : Env} {s : State} {m : MethodId} {below : List Frame} {meth : Method} {c : Code} {s₁ : State} (Bd : BodyLoose p l x (head1 (Jvm.Cond.code x code maxLocals ret :: ws) room_1) code maxLocals ret e s m #[(.int p1), (.int p2), (.int p3), (.int p4), (.int p5), (.int p6)] below meth c s₁) (hml0 : c.maxLocals = maxLocals) (hZ : Z.Warmed39 s.vm) {TJ : State} {locsJ : List Loc} {hJ : Heap} {b2 : Addr} {b80 : Addr} {y81 : Addr} {k2 : ClassId} {k_y81 : ClassId} {sa : Int32} {sb : Int32} {sc : Int32} {ta : Int32} {tb : Int32} {tc : Int32} {ka : Int32} {kb : Int32} (XJ : Stand p l e room_1 s m #[(.int p1), (.int p2), (.int p3), (.int p4), (.int p5), (.int p6)] below meth c TJ locsJ 4 332) (eJ : TJ.heap = hJ) (NJ : Fr n0 locsJ) (K0 : Keep h0 hJ []) (Z0 : n0 ≤ hJ.size) (V_b2 : Arv Z hJ b2 k2 .int (9 : Int32) [(.int p1), (.int p2), (.int p3), (.int sa), (.int sb), (.int sc), (.int (0 : Int32)), (.int (0 : Int32)), (.int (0 : Int32))] (.int (0 : Int32))) (E_b80 : Exa Z hJ b80 TC) (F_b80_size : Fld Z hJ b80 TC "size" "I" (.int (2 : Int32))) (F_b80_terms : Fld Z hJ b80 TC "terms" "[I" (.ref y81)) (V_y81 : Arv Z hJ y81 k_y81 .int (192 : Int32) [(.int p1), (.int p2), (.int p3), (.int sa), (.int sb), (.int sc)] (.int (0 : Int32))) :
  Go p.tables e below (TJ.setTop (mkF m 394 #[vi p1, vi p2, vi p3, vi p4, vi p5, vi p6, vi ka, vi sa, vi sb, vi sc, vi kb, vi ta, vi tb, vi tc, vr b2, vi 2, vi 1, vi 0, vr b80, vi 1, vi 1, vi 0, vi 2, vi 0] [])) (fun o U' => ∃ v L, o = .returned v ∧ Q0 Z p1 p2 p3 p4 p5 p6 h0 n0 v U'.heap L ∧ FrameEnd s o U' L 16 768) := by
 have hx := Bd.exec
 have hby := Bd.bytes
 have hml : c.maxLocals = 24 := hml0
 have hown : s.vm.findClass "com/example/tripletype/tripletype/TripleTableAddPinLaw" = some m.cls := findClass_of_methodNamed Bd.named
 have hnm := (name_of_methodNamed Bd.named Bd.method).1
 refine G (fun t k => XS.aload XJ.here hx rfl (hb hby at_394) rfl rfl (XS.iload XJ.here hx rfl (hb hby at_396) rfl k)) ?_
 obtain ⟨cq88, kq88, q88a, q88b, q88c⟩ := isOf hZ eJ E_b80
 obtain ⟨_, _, ⟨T88, L88, k88, n88⟩, -, X88, ⟨Lc88, hQ88, l88, y88, z88⟩, st88⟩ := XJ.virtualBack hx (y := (⟨TC, "subject", "(I)I"⟩ : MethodName)) (z := (⟨TC, "subject", "(I)I"⟩ : MethodName)) hown (mvT hZ (wd32 hw)) (mvT hZ (wd33 hw)) (notFace_of_selects (args := #[]) (mvT hZ (wd35 hw))) (mvT hZ (wd35 hw)) (mvT hZ (wd34 hw)) (by decide) (backOf (W := 0) (rm6 l Z a0 hw [] b80 (0 : Int32) y81 k_y81 [(.int p1), (.int p2), (.int p3), (.int sa), (.int sb), (.int sc)] p1 hJ n0 Z0 F_b80_terms V_y81 (by decide) rfl) hZ (wd36 hw) (wd3 hw) (by decide) (by decide)) q88a q88c (g := (mkF m 398 #[vi p1, vi p2, vi p3, vi p4, vi p5, vi p6, vi ka, vi sa, vi sb, vi sc, vi kb, vi ta, vi tb, vi tc, vr b2, vi 2, vi 1, vi 0, vr b80, vi 1, vi 1, vi 0, vi 2, vi 0] [(.int 0), (.ref b80)])) rfl (by rw [hml]; rfl) (Steps.refl _) (argsL := [(.int (0 : Int32))]) (rest := []) (lenOf pd4 rfl) rfl (by show 2 * 0 + _ ≤ _; exact Nat.le_of_eq rfl) (hb hby at_398) (fun _ _ => ⟨rfl, eJ, (by decide : 4 + 0 ≤ _), (by decide : 332 + 0 ≤ _)⟩)
 dsimp only [Pt.U, Pt.locs, Pt.cells, Pt.slots] at X88 l88 y88 z88 st88 hQ88
 subst l88 y88 z88
 refine Go.tr st88 ?_
 obtain ⟨rfl, N88q, e88⟩ := hQ88
 have N88 := Fr.app NJ N88q
 refine G (fun t k => XS.aload X88.here hx rfl (hb hby at_401) rfl rfl (XS.iconst X88.here hx rfl (hb hby at_403) (XS.iload X88.here hx rfl (hb hby at_404) rfl (XS.imul X88.here hx rfl (hb hby at_406) rfl k)))) ?_
 show Go _ _ _ (T88.setTop (mkF m 407 #[vi p1, vi p2, vi p3, vi p4, vi p5, vi p6, vi ka, vi sa, vi sb, vi sc, vi kb, vi ta, vi tb, vi tc, vr b2, vi 2, vi 1, vi 0, vr b80, vi 1, vi 1, vi 0, vi 2, vi 0] [(.int 0), (.ref b2), (.int p1)])) _
 obtain ⟨cl89, Ar89, -, Sz89, Ng89, Hs89, -⟩ := id V_b2
 have hin89 : ¬ ((0 : Int32) < 0 ∨ cl89.slots.size ≤ ((0 : Int32)).toNatClampNeg) := inb_of Sz89 ⟨by decide, by decide⟩
 refine G (fun t k => X88.iaload hx (j := (0 : Int32)) (v := (.int p1)) (by rw [e88]; exact Ar89.1) (State.isArrayOf_alike hZ.alike Ar89.2.1) Ar89.2.2 hin89 (Has.at Hs89 hin89 rfl) (g := (mkF m 407 #[vi p1, vi p2, vi p3, vi p4, vi p5, vi p6, vi ka, vi sa, vi sb, vi sc, vi kb, vi ta, vi tb, vi tc, vr b2, vi 2, vi 1, vi 0, vr b80, vi 1, vi 1, vi 0, vi 2, vi 0] [(.int 0), (.ref b2), (.int p1)])) rfl rfl (hb hby at_407) _ k) ?_
 clear hin89 Hs89 Ng89 Sz89 Ar89 cl89
 refine G (fun t k => XS.icmpNo X88.here hx rfl (hb hby at_408) rfl (teq (rfl : p1 = p1)).2 (XS.aload X88.here hx rfl (hb hby at_411) rfl rfl (XS.iload X88.here hx rfl (hb hby at_413) rfl k))) ?_
 obtain ⟨cq90, kq90, q90a, q90b, q90c⟩ := isOf hZ e88 E_b80
 obtain ⟨_, _, ⟨T90, L90, k90, n90⟩, -, X90, ⟨Lc90, hQ90, l90, y90, z90⟩, st90⟩ := X88.virtualBack hx (y := (⟨TC, "predicate", "(I)I"⟩ : MethodName)) (z := (⟨TC, "predicate", "(I)I"⟩ : MethodName)) hown (mvT hZ (wd37 hw)) (mvT hZ (wd38 hw)) (notFace_of_selects (args := #[]) (mvT hZ (wd40 hw))) (mvT hZ (wd40 hw)) (mvT hZ (wd39 hw)) (by decide) (backOf (W := 0) (rm7 l Z a0 hw [] b80 (0 : Int32) y81 k_y81 [(.int p1), (.int p2), (.int p3), (.int sa), (.int sb), (.int sc)] p2 hJ n0 Z0 F_b80_terms V_y81 (by decide) rfl) hZ (wd41 hw) (wd3 hw) (by decide) (by decide)) q90a q90c (g := (mkF m 415 #[vi p1, vi p2, vi p3, vi p4, vi p5, vi p6, vi ka, vi sa, vi sb, vi sc, vi kb, vi ta, vi tb, vi tc, vr b2, vi 2, vi 1, vi 0, vr b80, vi 1, vi 1, vi 0, vi 2, vi 0] [(.int 0), (.ref b80)])) rfl (by rw [hml]; rfl) (Steps.refl _) (argsL := [(.int (0 : Int32))]) (rest := []) (lenOf pd4 rfl) rfl (by show 2 * 0 + _ ≤ _; exact Nat.le_of_eq rfl) (hb hby at_415) (fun _ _ => ⟨rfl, e88, (by decide : 4 + 0 ≤ _), (by decide : 332 + 0 ≤ _)⟩)
 dsimp only [Pt.U, Pt.locs, Pt.cells, Pt.slots] at X90 l90 y90 z90 st90 hQ90
 subst l90 y90 z90
 refine Go.tr st90 ?_
 obtain ⟨rfl, N90q, e90⟩ := hQ90
 have N90 := Fr.app N88 N90q
 refine G (fun t k => XS.aload X90.here hx rfl (hb hby at_418) rfl rfl (XS.iconst X90.here hx rfl (hb hby at_420) k)) ?_
 show Go _ _ _ (T90.setTop (mkF m 421 #[vi p1, vi p2, vi p3, vi p4, vi p5, vi p6, vi ka, vi sa, vi sb, vi sc, vi kb, vi ta, vi tb, vi tc, vr b2, vi 2, vi 1, vi 0, vr b80, vi 1, vi 1, vi 0, vi 2, vi 0] [(.int 3), (.ref b2), (.int p2)])) _
 refine G (fun t k => XS.iload X90.here hx rfl (hb hby at_421) rfl (XS.imul X90.here hx rfl (hb hby at_423) rfl (XS.iconst X90.here hx rfl (hb hby at_424) (XS.iadd X90.here hx rfl (hb hby at_425) rfl k)))) ?_
 obtain ⟨cl91, Ar91, -, Sz91, Ng91, Hs91, -⟩ := id V_b2
 have hin91 : ¬ ((1 : Int32) < 0 ∨ cl91.slots.size ≤ ((1 : Int32)).toNatClampNeg) := inb_of Sz91 ⟨by decide, by decide⟩
 refine G (fun t k => X90.iaload hx (j := (1 : Int32)) (v := (.int p2)) (by rw [e90]; exact Ar91.1) (State.isArrayOf_alike hZ.alike Ar91.2.1) Ar91.2.2 hin91 (Has.at Hs91 hin91 rfl) (g := (mkF m 426 #[vi p1, vi p2, vi p3, vi p4, vi p5, vi p6, vi ka, vi sa, vi sb, vi sc, vi kb, vi ta, vi tb, vi tc, vr b2, vi 2, vi 1, vi 0, vr b80, vi 1, vi 1, vi 0, vi 2, vi 0] [(.int 1), (.ref b2), (.int p2)])) rfl rfl (hb hby at_426) _ k) ?_
 clear hin91 Hs91 Ng91 Sz91 Ar91 cl91
 refine G (fun t k => XS.icmpNo X90.here hx rfl (hb hby at_427) rfl (teq (rfl : p2 = p2)).2 (XS.aload X90.here hx rfl (hb hby at_430) rfl rfl k)) ?_
 show Go _ _ _ (T90.setTop (mkF m 432 #[vi p1, vi p2, vi p3, vi p4, vi p5, vi p6, vi ka, vi sa, vi sb, vi sc, vi kb, vi ta, vi tb, vi tc, vr b2, vi 2, vi 1, vi 0, vr b80, vi 1, vi 1, vi 0, vi 2, vi 0] [(.ref b80)])) _
 refine G (fun t k => XS.iload X90.here hx rfl (hb hby at_432) rfl k) ?_
 obtain ⟨cq92, kq92, q92a, q92b, q92c⟩ := isOf hZ e90 E_b80
 obtain ⟨_, _, ⟨T92, L92, k92, n92⟩, -, X92, ⟨Lc92, hQ92, l92, y92, z92⟩, st92⟩ := X90.virtualBack hx (y := (⟨TC, "object", "(I)I"⟩ : MethodName)) (z := (⟨TC, "object", "(I)I"⟩ : MethodName)) hown (mvT hZ (wd42 hw)) (mvT hZ (wd43 hw)) (notFace_of_selects (args := #[]) (mvT hZ (wd45 hw))) (mvT hZ (wd45 hw)) (mvT hZ (wd44 hw)) (by decide) (backOf (W := 0) (rm8 l Z a0 hw [] b80 (0 : Int32) y81 k_y81 [(.int p1), (.int p2), (.int p3), (.int sa), (.int sb), (.int sc)] p3 hJ n0 Z0 F_b80_terms V_y81 (by decide) rfl) hZ (wd46 hw) (wd3 hw) (by decide) (by decide)) q92a q92c (g := (mkF m 434 #[vi p1, vi p2, vi p3, vi p4, vi p5, vi p6, vi ka, vi sa, vi sb, vi sc, vi kb, vi ta, vi tb, vi tc, vr b2, vi 2, vi 1, vi 0, vr b80, vi 1, vi 1, vi 0, vi 2, vi 0] [(.int 0), (.ref b80)])) rfl (by rw [hml]; rfl) (Steps.refl _) (argsL := [(.int (0 : Int32))]) (rest := []) (lenOf pd4 rfl) rfl (by show 2 * 0 + _ ≤ _; exact Nat.le_of_eq rfl) (hb hby at_434) (fun _ _ => ⟨rfl, e90, (by decide : 4 + 0 ≤ _), (by decide : 332 + 0 ≤ _)⟩)
 dsimp only [Pt.U, Pt.locs, Pt.cells, Pt.slots] at X92 l92 y92 z92 st92 hQ92
 subst l92 y92 z92
 refine Go.tr st92 ?_
 obtain ⟨rfl, N92q, e92⟩ := hQ92
 have N92 := Fr.app N90 N92q
 refine G (fun t k => XS.aload X92.here hx rfl (hb hby at_437) rfl rfl (XS.iconst X92.here hx rfl (hb hby at_439) (XS.iload X92.here hx rfl (hb hby at_440) rfl (XS.imul X92.here hx rfl (hb hby at_442) rfl (XS.iconst X92.here hx rfl (hb hby at_443) k))))) ?_
 show Go _ _ _ (T92.setTop (mkF m 444 #[vi p1, vi p2, vi p3, vi p4, vi p5, vi p6, vi ka, vi sa, vi sb, vi sc, vi kb, vi ta, vi tb, vi tc, vr b2, vi 2, vi 1, vi 0, vr b80, vi 1, vi 1, vi 0, vi 2, vi 0] [(.int 2), (.int 0), (.ref b2), (.int p3)])) _
 refine G (fun t k => XS.iadd X92.here hx rfl (hb hby at_444) rfl k) ?_
 obtain ⟨cl93, Ar93, -, Sz93, Ng93, Hs93, -⟩ := id V_b2
 have hin93 : ¬ ((2 : Int32) < 0 ∨ cl93.slots.size ≤ ((2 : Int32)).toNatClampNeg) := inb_of Sz93 ⟨by decide, by decide⟩
 refine G (fun t k => X92.iaload hx (j := (2 : Int32)) (v := (.int p3)) (by rw [e92]; exact Ar93.1) (State.isArrayOf_alike hZ.alike Ar93.2.1) Ar93.2.2 hin93 (Has.at Hs93 hin93 rfl) (g := (mkF m 445 #[vi p1, vi p2, vi p3, vi p4, vi p5, vi p6, vi ka, vi sa, vi sb, vi sc, vi kb, vi ta, vi tb, vi tc, vr b2, vi 2, vi 1, vi 0, vr b80, vi 1, vi 1, vi 0, vi 2, vi 0] [(.int 2), (.ref b2), (.int p3)])) rfl rfl (hb hby at_445) _ k) ?_
 clear hin93 Hs93 Ng93 Sz93 Ar93 cl93
 refine G (fun t k => XS.icmpNo X92.here hx rfl (hb hby at_446) rfl (teq (rfl : p3 = p3)).2 (XS.iconst X92.here hx rfl (hb hby at_449) (XS.goto X92.here hx rfl (pc0 := 450) (pc' := 454) rfl (hb hby at_450) (by decide) (by decide) k))) ?_
 obtain ⟨fs, hr, hrun, hended, hW, hsame⟩ := X92.leave (v := some (.int (1 : Int32))) (fun h => by rw [Bd.returns] at h; cases h)
 refine Go.fin (retN X92 hx (t := .boolean) Bd.returns (by simp) (hb hby at_454) hr) hrun hended ⟨_, _, rfl, ?_, ⟨_, rfl⟩, hW, hsame.mono (by decide) (by decide)⟩
 show Q0 Z p1 p2 p3 p4 p5 p6 h0 n0 _ T92.heap _
 rw [e92]
 exact ⟨rfl, N92⟩
theorem TJ0_94 (l : Launch) (Z : State) (a0 : Array Value) (hw : HW a0 Z) (ws : List Jvm.Cond) (p1 : Int32) (p2 : Int32) (p3 : Int32) (p4 : Int32) (p5 : Int32) (p6 : Int32) (h0 : Heap) (n0 : Nat) {p : Program} {e : Env} {s : State} {m : MethodId} {below : List Frame} {meth : Method} {c : Code} {s₁ : State} (Bd : BodyLoose p l x (head1 (Jvm.Cond.code x code maxLocals ret :: ws) room_1) code maxLocals ret e s m #[(.int p1), (.int p2), (.int p3), (.int p4), (.int p5), (.int p6)] below meth c s₁) (hml0 : c.maxLocals = maxLocals) (hZ : Z.Warmed39 s.vm) {TJ : State} {locsJ : List Loc} {hJ : Heap} {b2 : Addr} {b80 : Addr} {y81 : Addr} {k2 : ClassId} {k_y81 : ClassId} {sa : Int32} {sb : Int32} {sc : Int32} {ta : Int32} {tb : Int32} {tc : Int32} {ka : Int32} {kb : Int32} (XJ : Stand p l e room_1 s m #[(.int p1), (.int p2), (.int p3), (.int p4), (.int p5), (.int p6)] below meth c TJ locsJ 4 332) (eJ : TJ.heap = hJ) (NJ : Fr n0 locsJ) (K0 : Keep h0 hJ []) (Z0 : n0 ≤ hJ.size) (V_b2 : Arv Z hJ b2 k2 .int (9 : Int32) [(.int p1), (.int p2), (.int p3), (.int sa), (.int sb), (.int sc), (.int (0 : Int32)), (.int (0 : Int32)), (.int (0 : Int32))] (.int (0 : Int32))) (E_b80 : Exa Z hJ b80 TC) (F_b80_size : Fld Z hJ b80 TC "size" "I" (.int (2 : Int32))) (F_b80_terms : Fld Z hJ b80 TC "terms" "[I" (.ref y81)) (V_y81 : Arv Z hJ y81 k_y81 .int (192 : Int32) [(.int p1), (.int p2), (.int p3), (.int sa), (.int sb), (.int sc)] (.int (0 : Int32))) :
  Go p.tables e below (TJ.setTop (mkF m 394 #[vi p1, vi p2, vi p3, vi p4, vi p5, vi p6, vi ka, vi sa, vi sb, vi sc, vi kb, vi ta, vi tb, vi tc, vr b2, vi 2, vi 1, vi 0, vr b80, vi 1, vi 1, vi 0, vi 2, vi 1] [])) (fun o U' => ∃ v L, o = .returned v ∧ Q0 Z p1 p2 p3 p4 p5 p6 h0 n0 v U'.heap L ∧ FrameEnd s o U' L 16 768) := by
 have hx := Bd.exec
 have hby := Bd.bytes
 have hml : c.maxLocals = 24 := hml0
 have hown : s.vm.findClass "com/example/tripletype/tripletype/TripleTableAddPinLaw" = some m.cls := findClass_of_methodNamed Bd.named
 have hnm := (name_of_methodNamed Bd.named Bd.method).1
 refine G (fun t k => XS.aload XJ.here hx rfl (hb hby at_394) rfl rfl (XS.iload XJ.here hx rfl (hb hby at_396) rfl k)) ?_
 obtain ⟨cq95, kq95, q95a, q95b, q95c⟩ := isOf hZ eJ E_b80
 obtain ⟨_, _, ⟨T95, L95, k95, n95⟩, -, X95, ⟨Lc95, hQ95, l95, y95, z95⟩, st95⟩ := XJ.virtualBack hx (y := (⟨TC, "subject", "(I)I"⟩ : MethodName)) (z := (⟨TC, "subject", "(I)I"⟩ : MethodName)) hown (mvT hZ (wd32 hw)) (mvT hZ (wd33 hw)) (notFace_of_selects (args := #[]) (mvT hZ (wd35 hw))) (mvT hZ (wd35 hw)) (mvT hZ (wd34 hw)) (by decide) (backOf (W := 0) (rm6 l Z a0 hw [] b80 (1 : Int32) y81 k_y81 [(.int p1), (.int p2), (.int p3), (.int sa), (.int sb), (.int sc)] sa hJ n0 Z0 F_b80_terms V_y81 (by decide) rfl) hZ (wd36 hw) (wd3 hw) (by decide) (by decide)) q95a q95c (g := (mkF m 398 #[vi p1, vi p2, vi p3, vi p4, vi p5, vi p6, vi ka, vi sa, vi sb, vi sc, vi kb, vi ta, vi tb, vi tc, vr b2, vi 2, vi 1, vi 0, vr b80, vi 1, vi 1, vi 0, vi 2, vi 1] [(.int 1), (.ref b80)])) rfl (by rw [hml]; rfl) (Steps.refl _) (argsL := [(.int (1 : Int32))]) (rest := []) (lenOf pd4 rfl) rfl (by show 2 * 0 + _ ≤ _; exact Nat.le_of_eq rfl) (hb hby at_398) (fun _ _ => ⟨rfl, eJ, (by decide : 4 + 0 ≤ _), (by decide : 332 + 0 ≤ _)⟩)
 dsimp only [Pt.U, Pt.locs, Pt.cells, Pt.slots] at X95 l95 y95 z95 st95 hQ95
 subst l95 y95 z95
 refine Go.tr st95 ?_
 obtain ⟨rfl, N95q, e95⟩ := hQ95
 have N95 := Fr.app NJ N95q
 refine G (fun t k => XS.aload X95.here hx rfl (hb hby at_401) rfl rfl (XS.iconst X95.here hx rfl (hb hby at_403) (XS.iload X95.here hx rfl (hb hby at_404) rfl (XS.imul X95.here hx rfl (hb hby at_406) rfl k)))) ?_
 show Go _ _ _ (T95.setTop (mkF m 407 #[vi p1, vi p2, vi p3, vi p4, vi p5, vi p6, vi ka, vi sa, vi sb, vi sc, vi kb, vi ta, vi tb, vi tc, vr b2, vi 2, vi 1, vi 0, vr b80, vi 1, vi 1, vi 0, vi 2, vi 1] [(.int 3), (.ref b2), (.int sa)])) _
 obtain ⟨cl96, Ar96, -, Sz96, Ng96, Hs96, -⟩ := id V_b2
 have hin96 : ¬ ((3 : Int32) < 0 ∨ cl96.slots.size ≤ ((3 : Int32)).toNatClampNeg) := inb_of Sz96 ⟨by decide, by decide⟩
 refine G (fun t k => X95.iaload hx (j := (3 : Int32)) (v := (.int sa)) (by rw [e95]; exact Ar96.1) (State.isArrayOf_alike hZ.alike Ar96.2.1) Ar96.2.2 hin96 (Has.at Hs96 hin96 rfl) (g := (mkF m 407 #[vi p1, vi p2, vi p3, vi p4, vi p5, vi p6, vi ka, vi sa, vi sb, vi sc, vi kb, vi ta, vi tb, vi tc, vr b2, vi 2, vi 1, vi 0, vr b80, vi 1, vi 1, vi 0, vi 2, vi 1] [(.int 3), (.ref b2), (.int sa)])) rfl rfl (hb hby at_407) _ k) ?_
 clear hin96 Hs96 Ng96 Sz96 Ar96 cl96
 refine G (fun t k => XS.icmpNo X95.here hx rfl (hb hby at_408) rfl (teq (rfl : sa = sa)).2 (XS.aload X95.here hx rfl (hb hby at_411) rfl rfl (XS.iload X95.here hx rfl (hb hby at_413) rfl k))) ?_
 obtain ⟨cq97, kq97, q97a, q97b, q97c⟩ := isOf hZ e95 E_b80
 obtain ⟨_, _, ⟨T97, L97, k97, n97⟩, -, X97, ⟨Lc97, hQ97, l97, y97, z97⟩, st97⟩ := X95.virtualBack hx (y := (⟨TC, "predicate", "(I)I"⟩ : MethodName)) (z := (⟨TC, "predicate", "(I)I"⟩ : MethodName)) hown (mvT hZ (wd37 hw)) (mvT hZ (wd38 hw)) (notFace_of_selects (args := #[]) (mvT hZ (wd40 hw))) (mvT hZ (wd40 hw)) (mvT hZ (wd39 hw)) (by decide) (backOf (W := 0) (rm7 l Z a0 hw [] b80 (1 : Int32) y81 k_y81 [(.int p1), (.int p2), (.int p3), (.int sa), (.int sb), (.int sc)] sb hJ n0 Z0 F_b80_terms V_y81 (by decide) rfl) hZ (wd41 hw) (wd3 hw) (by decide) (by decide)) q97a q97c (g := (mkF m 415 #[vi p1, vi p2, vi p3, vi p4, vi p5, vi p6, vi ka, vi sa, vi sb, vi sc, vi kb, vi ta, vi tb, vi tc, vr b2, vi 2, vi 1, vi 0, vr b80, vi 1, vi 1, vi 0, vi 2, vi 1] [(.int 1), (.ref b80)])) rfl (by rw [hml]; rfl) (Steps.refl _) (argsL := [(.int (1 : Int32))]) (rest := []) (lenOf pd4 rfl) rfl (by show 2 * 0 + _ ≤ _; exact Nat.le_of_eq rfl) (hb hby at_415) (fun _ _ => ⟨rfl, e95, (by decide : 4 + 0 ≤ _), (by decide : 332 + 0 ≤ _)⟩)
 dsimp only [Pt.U, Pt.locs, Pt.cells, Pt.slots] at X97 l97 y97 z97 st97 hQ97
 subst l97 y97 z97
 refine Go.tr st97 ?_
 obtain ⟨rfl, N97q, e97⟩ := hQ97
 have N97 := Fr.app N95 N97q
 refine G (fun t k => XS.aload X97.here hx rfl (hb hby at_418) rfl rfl (XS.iconst X97.here hx rfl (hb hby at_420) k)) ?_
 show Go _ _ _ (T97.setTop (mkF m 421 #[vi p1, vi p2, vi p3, vi p4, vi p5, vi p6, vi ka, vi sa, vi sb, vi sc, vi kb, vi ta, vi tb, vi tc, vr b2, vi 2, vi 1, vi 0, vr b80, vi 1, vi 1, vi 0, vi 2, vi 1] [(.int 3), (.ref b2), (.int sb)])) _
 refine G (fun t k => XS.iload X97.here hx rfl (hb hby at_421) rfl (XS.imul X97.here hx rfl (hb hby at_423) rfl (XS.iconst X97.here hx rfl (hb hby at_424) (XS.iadd X97.here hx rfl (hb hby at_425) rfl k)))) ?_
 obtain ⟨cl98, Ar98, -, Sz98, Ng98, Hs98, -⟩ := id V_b2
 have hin98 : ¬ ((4 : Int32) < 0 ∨ cl98.slots.size ≤ ((4 : Int32)).toNatClampNeg) := inb_of Sz98 ⟨by decide, by decide⟩
 refine G (fun t k => X97.iaload hx (j := (4 : Int32)) (v := (.int sb)) (by rw [e97]; exact Ar98.1) (State.isArrayOf_alike hZ.alike Ar98.2.1) Ar98.2.2 hin98 (Has.at Hs98 hin98 rfl) (g := (mkF m 426 #[vi p1, vi p2, vi p3, vi p4, vi p5, vi p6, vi ka, vi sa, vi sb, vi sc, vi kb, vi ta, vi tb, vi tc, vr b2, vi 2, vi 1, vi 0, vr b80, vi 1, vi 1, vi 0, vi 2, vi 1] [(.int 4), (.ref b2), (.int sb)])) rfl rfl (hb hby at_426) _ k) ?_
 clear hin98 Hs98 Ng98 Sz98 Ar98 cl98
 refine G (fun t k => XS.icmpNo X97.here hx rfl (hb hby at_427) rfl (teq (rfl : sb = sb)).2 (XS.aload X97.here hx rfl (hb hby at_430) rfl rfl k)) ?_
 show Go _ _ _ (T97.setTop (mkF m 432 #[vi p1, vi p2, vi p3, vi p4, vi p5, vi p6, vi ka, vi sa, vi sb, vi sc, vi kb, vi ta, vi tb, vi tc, vr b2, vi 2, vi 1, vi 0, vr b80, vi 1, vi 1, vi 0, vi 2, vi 1] [(.ref b80)])) _
 refine G (fun t k => XS.iload X97.here hx rfl (hb hby at_432) rfl k) ?_
 obtain ⟨cq99, kq99, q99a, q99b, q99c⟩ := isOf hZ e97 E_b80
 obtain ⟨_, _, ⟨T99, L99, k99, n99⟩, -, X99, ⟨Lc99, hQ99, l99, y99, z99⟩, st99⟩ := X97.virtualBack hx (y := (⟨TC, "object", "(I)I"⟩ : MethodName)) (z := (⟨TC, "object", "(I)I"⟩ : MethodName)) hown (mvT hZ (wd42 hw)) (mvT hZ (wd43 hw)) (notFace_of_selects (args := #[]) (mvT hZ (wd45 hw))) (mvT hZ (wd45 hw)) (mvT hZ (wd44 hw)) (by decide) (backOf (W := 0) (rm8 l Z a0 hw [] b80 (1 : Int32) y81 k_y81 [(.int p1), (.int p2), (.int p3), (.int sa), (.int sb), (.int sc)] sc hJ n0 Z0 F_b80_terms V_y81 (by decide) rfl) hZ (wd46 hw) (wd3 hw) (by decide) (by decide)) q99a q99c (g := (mkF m 434 #[vi p1, vi p2, vi p3, vi p4, vi p5, vi p6, vi ka, vi sa, vi sb, vi sc, vi kb, vi ta, vi tb, vi tc, vr b2, vi 2, vi 1, vi 0, vr b80, vi 1, vi 1, vi 0, vi 2, vi 1] [(.int 1), (.ref b80)])) rfl (by rw [hml]; rfl) (Steps.refl _) (argsL := [(.int (1 : Int32))]) (rest := []) (lenOf pd4 rfl) rfl (by show 2 * 0 + _ ≤ _; exact Nat.le_of_eq rfl) (hb hby at_434) (fun _ _ => ⟨rfl, e97, (by decide : 4 + 0 ≤ _), (by decide : 332 + 0 ≤ _)⟩)
 dsimp only [Pt.U, Pt.locs, Pt.cells, Pt.slots] at X99 l99 y99 z99 st99 hQ99
 subst l99 y99 z99
 refine Go.tr st99 ?_
 obtain ⟨rfl, N99q, e99⟩ := hQ99
 have N99 := Fr.app N97 N99q
 refine G (fun t k => XS.aload X99.here hx rfl (hb hby at_437) rfl rfl (XS.iconst X99.here hx rfl (hb hby at_439) (XS.iload X99.here hx rfl (hb hby at_440) rfl (XS.imul X99.here hx rfl (hb hby at_442) rfl (XS.iconst X99.here hx rfl (hb hby at_443) k))))) ?_
 show Go _ _ _ (T99.setTop (mkF m 444 #[vi p1, vi p2, vi p3, vi p4, vi p5, vi p6, vi ka, vi sa, vi sb, vi sc, vi kb, vi ta, vi tb, vi tc, vr b2, vi 2, vi 1, vi 0, vr b80, vi 1, vi 1, vi 0, vi 2, vi 1] [(.int 2), (.int 3), (.ref b2), (.int sc)])) _
 refine G (fun t k => XS.iadd X99.here hx rfl (hb hby at_444) rfl k) ?_
 obtain ⟨cl100, Ar100, -, Sz100, Ng100, Hs100, -⟩ := id V_b2
 have hin100 : ¬ ((5 : Int32) < 0 ∨ cl100.slots.size ≤ ((5 : Int32)).toNatClampNeg) := inb_of Sz100 ⟨by decide, by decide⟩
 refine G (fun t k => X99.iaload hx (j := (5 : Int32)) (v := (.int sc)) (by rw [e99]; exact Ar100.1) (State.isArrayOf_alike hZ.alike Ar100.2.1) Ar100.2.2 hin100 (Has.at Hs100 hin100 rfl) (g := (mkF m 445 #[vi p1, vi p2, vi p3, vi p4, vi p5, vi p6, vi ka, vi sa, vi sb, vi sc, vi kb, vi ta, vi tb, vi tc, vr b2, vi 2, vi 1, vi 0, vr b80, vi 1, vi 1, vi 0, vi 2, vi 1] [(.int 5), (.ref b2), (.int sc)])) rfl rfl (hb hby at_445) _ k) ?_
 clear hin100 Hs100 Ng100 Sz100 Ar100 cl100
 refine G (fun t k => XS.icmpNo X99.here hx rfl (hb hby at_446) rfl (teq (rfl : sc = sc)).2 (XS.iconst X99.here hx rfl (hb hby at_449) (XS.goto X99.here hx rfl (pc0 := 450) (pc' := 454) rfl (hb hby at_450) (by decide) (by decide) k))) ?_
 obtain ⟨fs, hr, hrun, hended, hW, hsame⟩ := X99.leave (v := some (.int (1 : Int32))) (fun h => by rw [Bd.returns] at h; cases h)
 refine Go.fin (retN X99 hx (t := .boolean) Bd.returns (by simp) (hb hby at_454) hr) hrun hended ⟨_, _, rfl, ?_, ⟨_, rfl⟩, hW, hsame.mono (by decide) (by decide)⟩
 show Q0 Z p1 p2 p3 p4 p5 p6 h0 n0 _ T99.heap _
 rw [e99]
 exact ⟨rfl, N99⟩
theorem TJ0_79 (l : Launch) (Z : State) (a0 : Array Value) (hw : HW a0 Z) (ws : List Jvm.Cond) (p1 : Int32) (p2 : Int32) (p3 : Int32) (p4 : Int32) (p5 : Int32) (p6 : Int32) (h0 : Heap) (n0 : Nat) {p : Program} {e : Env} {s : State} {m : MethodId} {below : List Frame} {meth : Method} {c : Code} {s₁ : State} (Bd : BodyLoose p l x (head1 (Jvm.Cond.code x code maxLocals ret :: ws) room_1) code maxLocals ret e s m #[(.int p1), (.int p2), (.int p3), (.int p4), (.int p5), (.int p6)] below meth c s₁) (hml0 : c.maxLocals = maxLocals) (hZ : Z.Warmed39 s.vm) {TJ : State} {locsJ : List Loc} {hJ : Heap} {b2 : Addr} {k2 : ClassId} {sa : Int32} {sb : Int32} {sc : Int32} {ta : Int32} {tb : Int32} {tc : Int32} {ka : Int32} {kb : Int32} (XJ : Stand p l e room_1 s m #[(.int p1), (.int p2), (.int p3), (.int p4), (.int p5), (.int p6)] below meth c TJ locsJ 1 9) (eJ : TJ.heap = hJ) (NJ : Fr n0 locsJ) (K0 : Keep h0 hJ []) (Z0 : n0 ≤ hJ.size) (V_b2 : Arv Z hJ b2 k2 .int (9 : Int32) [(.int p1), (.int p2), (.int p3), (.int sa), (.int sb), (.int sc), (.int (0 : Int32)), (.int (0 : Int32)), (.int (0 : Int32))] (.int (0 : Int32))) (hc76 : ta = p1) (hc77 : tb = p2) (hc78 : tc = p3) (hn2 : ¬ (sa = p1 ∧ sb = p2 ∧ sc = p3)) :
  Go p.tables e below (TJ.setTop (mkF m 259 #[vi p1, vi p2, vi p3, vi p4, vi p5, vi p6, vi ka, vi sa, vi sb, vi sc, vi kb, vi ta, vi tb, vi tc, vr b2, vi 2, vi 1, vi 0, us, us, us, us, us, us] [])) (fun o U' => ∃ v L, o = .returned v ∧ Q0 Z p1 p2 p3 p4 p5 p6 h0 n0 v U'.heap L ∧ FrameEnd s o U' L 16 768) := by
 have hx := Bd.exec
 have hby := Bd.bytes
 have hml : c.maxLocals = 24 := hml0
 have hown : s.vm.findClass "com/example/tripletype/tripletype/TripleTableAddPinLaw" = some m.cls := findClass_of_methodNamed Bd.named
 have hnm := (name_of_methodNamed Bd.named Bd.method).1
 refine G (fun t k => XS.iload XJ.here hx rfl (hb hby at_259) rfl (XS.ifYes XJ.here hx rfl (pc0 := 261) (pc' := 301) rfl (hb hby at_261) rfl ((if0 _ _).trans (teq (by decide : (0 : Int32) = (0 : Int32))).1) (by decide) (by decide) k)) ?_
 obtain ⟨T80, h80, X80, e80, E80, A80, D80, -, st80⟩ := newO XJ hx hZ hown (wd1 hw) (wd2 hw) (wd3 hw) eJ (g := (mkF m 301 #[vi p1, vi p2, vi p3, vi p4, vi p5, vi p6, vi ka, vi sa, vi sb, vi sc, vi kb, vi ta, vi tb, vi tc, vr b2, vi 2, vi 1, vi 0, us, us, us, us, us, us] [])) rfl (hb hby at_301) (by decide) (by decide)
 obtain ⟨b80, g80⟩ : ∃ z, z = hJ.size := ⟨_, rfl⟩
 rw [← g80] at A80 D80 st80
 refine G st80 ?_
 have ne_b2_b80 : b2 ≠ b80 := Nat.ne_of_lt (Nat.lt_of_lt_of_le V_b2.lt (Nat.le_of_eq g80.symm))
 have g_b80 : n0 ≤ b80 := Nat.le_trans Z0 (Nat.le_of_eq g80.symm)
 have sz_b80 : h0.size ≤ b80 := Nat.le_trans K0.1 (Nat.le_of_eq g80.symm)
 replace V_b2 := V_b2.ext E80
 replace K0 := K0.ext E80
 replace Z0 := Nat.le_trans Z0 E80.1
 have E_b80 := A80
 have F_b80_terms : Fld Z h80 b80 TC "terms" "[I" .null := D80 (Or.inl (wd11 hw)) (ty := (.array .int)) (by decide)
 have F_b80_slots : Fld Z h80 b80 TC "slots" "[I" .null := D80 (Or.inl (wd13 hw)) (ty := (.array .int)) (by decide)
 have F_b80_size : Fld Z h80 b80 TC "size" "I" (.int (0 : Int32)) := D80 (Or.inl (wd26 hw)) (ty := .int) (by decide)
 refine G (fun t k => XS.dup X80.here hx rfl (hb hby at_304) rfl rfl k) ?_
 obtain ⟨_, _, ⟨T81, L81, k81, n81⟩, -, X81, ⟨Lc81, hQ81, l81, y81, z81⟩, st81⟩ := X80.specialBack hx (y := (⟨TC, "<init>", "()V"⟩ : MethodName)) rfl hown (mvT hZ (wd4 hw)) (mvT hZ (wd5 hw)) (mvT hZ (wd6 hw)) (by decide) (backOf (W := 1) (rm1 l Z a0 hw [] b80 (.null : Value) (.null : Value) h80 n0 Z0 E_b80 F_b80_size F_b80_terms F_b80_slots g_b80) hZ (wd6 hw) (wd3 hw) (by decide) (by decide)) (g := (mkF m 305 #[vi p1, vi p2, vi p3, vi p4, vi p5, vi p6, vi ka, vi sa, vi sb, vi sc, vi kb, vi ta, vi tb, vi tc, vr b2, vi 2, vi 1, vi 0, us, us, us, us, us, us] [(.ref b80), (.ref b80)])) rfl (by rw [hml]; rfl) (Steps.refl _) (a := b80) (argsL := []) (rest := [(.ref b80)]) (lenOf pd1 rfl) rfl (by show 2 * 0 + _ ≤ _; exact Nat.le_of_eq rfl) (hb hby at_305) (fun _ _ => ⟨rfl, e80, (by decide : 2 + 2 ≤ _), (by decide : 12 + 320 ≤ _)⟩)
 dsimp only [Pt.U, Pt.locs, Pt.cells, Pt.slots] at X81 l81 y81 z81 st81 hQ81
 subst l81 y81 z81
 have E_b80_pre := E_b80
 have F_b80_terms_pre := F_b80_terms
 have F_b80_slots_pre := F_b80_slots
 have F_b80_size_pre := F_b80_size
 obtain ⟨h81, e81⟩ : ∃ z, T81.heap = z := ⟨_, rfl⟩
 rw [e81] at hQ81
 obtain ⟨y81, y81a, k_y81, k_y81a, rfl, N81q, K81, ng_y81, sz0_y81, ng_y81a, sz0_y81a, nef_y81_y81a, Q81_0, Q81_1, Q81_2, Q81_3, Q81_4, Q81_5⟩ := hQ81
 refine Go.tr st81 ?_
 have ne_b2_y81 : b2 ≠ y81 := Nat.ne_of_lt (Nat.lt_of_lt_of_le V_b2.lt sz0_y81)
 have ne_b80_y81 : b80 ≠ y81 := Nat.ne_of_lt (Nat.lt_of_lt_of_le E_b80.lt sz0_y81)
 have g_y81 : n0 ≤ y81 := ng_y81
 have sz_y81 : h0.size ≤ y81 := Nat.le_trans K0.1 sz0_y81
 have ne_b2_y81a : b2 ≠ y81a := Nat.ne_of_lt (Nat.lt_of_lt_of_le V_b2.lt sz0_y81a)
 have ne_b80_y81a : b80 ≠ y81a := Nat.ne_of_lt (Nat.lt_of_lt_of_le E_b80.lt sz0_y81a)
 have g_y81a : n0 ≤ y81a := ng_y81a
 have sz_y81a : h0.size ≤ y81a := Nat.le_trans K0.1 sz0_y81a
 replace V_b2 := V_b2.keep K81 (ninS ne_b2_b80 nin0)
 replace E_b80 := E_b80.keep K81
 replace Z0 := Nat.le_trans Z0 K81.1
 replace K0 := K0.trans K81 (allS (Or.inr sz_b80) all0)
 clear E_b80_pre F_b80_terms_pre F_b80_slots_pre F_b80_size_pre
 have E_b80 := Q81_0
 have F_b80_size := Q81_1
 have F_b80_terms := Q81_2
 have F_b80_slots := Q81_3
 have V_y81 := Q81_4
 have V_y81a := Q81_5
 have N81 := Fr.app NJ N81q
 refine G (fun t k => XS.astore X81.here hx rfl (hb hby at_308) rfl rfl (l' := #[vi p1, vi p2, vi p3, vi p4, vi p5, vi p6, vi ka, vi sa, vi sb, vi sc, vi kb, vi ta, vi tb, vi tc, vr b2, vi 2, vi 1, vi 0, vr b80, us, us, us, us, us]) rfl (XS.aload X81.here hx rfl (hb hby at_310) rfl rfl k)) ?_
 show Go _ _ _ (T81.setTop (mkF m 312 #[vi p1, vi p2, vi p3, vi p4, vi p5, vi p6, vi ka, vi sa, vi sb, vi sc, vi kb, vi ta, vi tb, vi tc, vr b2, vi 2, vi 1, vi 0, vr b80, us, us, us, us, us] [(.ref b80)])) _
 refine G (fun t k => XS.iloadN X81.here hx rfl (hb hby at_312) rfl (XS.iloadN X81.here hx rfl (hb hby at_313) rfl (XS.iloadN X81.here hx rfl (hb hby at_314) rfl k))) ?_
 obtain ⟨cq82, kq82, q82a, q82b, q82c⟩ := isOf hZ e81 E_b80
 obtain ⟨_, _, ⟨T82, L82, k82, n82⟩, -, X82, ⟨Lc82, hQ82, l82, y82, z82⟩, st82⟩ := X81.virtualBack hx (y := (⟨TC, "add", "(III)Z"⟩ : MethodName)) (z := (⟨TC, "add", "(III)Z"⟩ : MethodName)) hown (mvT hZ (wd14 hw)) (mvT hZ (wd15 hw)) (notFace_of_selects (args := #[]) (mvT hZ (wd17 hw))) (mvT hZ (wd17 hw)) (mvT hZ (wd16 hw)) (by decide) (backOf (W := 0) (rm3n0 l Z a0 hw [] b80 p1 p2 p3 y81 y81a k_y81 k_y81a h81 n0 Z0 E_b80 F_b80_size F_b80_terms F_b80_slots V_y81 V_y81a (Ne.symm ne_b80_y81) (Ne.symm ne_b80_y81a) nef_y81_y81a g_y81 g_b80 g_y81a) hZ (wd18 hw) (wd3 hw) (by decide) (by decide)) q82a q82c (g := (mkF m 315 #[vi p1, vi p2, vi p3, vi p4, vi p5, vi p6, vi ka, vi sa, vi sb, vi sc, vi kb, vi ta, vi tb, vi tc, vr b2, vi 2, vi 1, vi 0, vr b80, us, us, us, us, us] [(.int p3), (.int p2), (.int p1), (.ref b80)])) rfl (by rw [hml]; rfl) (Steps.refl _) (argsL := [(.int p1), (.int p2), (.int p3)]) (rest := []) (lenOf pd2 rfl) rfl (by show 2 * 0 + _ ≤ _; exact Nat.le_of_eq rfl) (hb hby at_315) (fun _ _ => ⟨rfl, e81, (by decide : 4 + 0 ≤ _), (by decide : 332 + 0 ≤ _)⟩)
 dsimp only [Pt.U, Pt.locs, Pt.cells, Pt.slots] at X82 l82 y82 z82 st82 hQ82
 subst l82 y82 z82
 refine Go.tr st82 ?_
 have E_b80_pre := E_b80
 have F_b80_size_pre := F_b80_size
 have F_b80_terms_pre := F_b80_terms
 have F_b80_slots_pre := F_b80_slots
 have V_y81_pre := V_y81
 have V_y81a_pre := V_y81a
 obtain ⟨h82, e82⟩ : ∃ z, T82.heap = z := ⟨_, rfl⟩
 rw [e82] at hQ82
 obtain ⟨rfl, N82q, K82, Q82_0, Q82_1, Q82_2, Q82_3, Q82_4, Q82_5⟩ := hQ82
 replace V_b2 := V_b2.keep K82 (ninS ne_b2_y81 (ninS ne_b2_b80 (ninS ne_b2_y81a nin0)))
 replace E_b80 := E_b80.keep K82
 replace Z0 := Nat.le_trans Z0 K82.1
 replace K0 := K0.trans K82 (allS (Or.inr sz_y81) (allS (Or.inr sz_b80) (allS (Or.inr sz_y81a) all0)))
 clear E_b80_pre F_b80_size_pre F_b80_terms_pre F_b80_slots_pre V_y81_pre V_y81a_pre
 have E_b80 := Q82_0
 have F_b80_size := Q82_1
 have F_b80_terms := Q82_2
 have F_b80_slots := Q82_3
 have V_y81 := Q82_4
 have V_y81a := Q82_5
 have N82 := Fr.app N81 N82q
 refine G (fun t k => XS.istore X82.here hx rfl (hb hby at_318) rfl (l' := #[vi p1, vi p2, vi p3, vi p4, vi p5, vi p6, vi ka, vi sa, vi sb, vi sc, vi kb, vi ta, vi tb, vi tc, vr b2, vi 2, vi 1, vi 0, vr b80, vi 1, us, us, us, us]) rfl (XS.aload X82.here hx rfl (hb hby at_320) rfl rfl (XS.iload X82.here hx rfl (hb hby at_322) rfl k))) ?_
 show Go _ _ _ (T82.setTop (mkF m 324 #[vi p1, vi p2, vi p3, vi p4, vi p5, vi p6, vi ka, vi sa, vi sb, vi sc, vi kb, vi ta, vi tb, vi tc, vr b2, vi 2, vi 1, vi 0, vr b80, vi 1, us, us, us, us] [(.int sa), (.ref b80)])) _
 refine G (fun t k => XS.iload X82.here hx rfl (hb hby at_324) rfl (XS.iload X82.here hx rfl (hb hby at_326) rfl k)) ?_
 obtain ⟨cq83, kq83, q83a, q83b, q83c⟩ := isOf hZ e82 E_b80
 obtain ⟨_, _, ⟨T83, L83, k83, n83⟩, -, X83, ⟨Lc83, hQ83, l83, y83, z83⟩, st83⟩ := X82.virtualBack hx (y := (⟨TC, "add", "(III)Z"⟩ : MethodName)) (z := (⟨TC, "add", "(III)Z"⟩ : MethodName)) hown (mvT hZ (wd14 hw)) (mvT hZ (wd15 hw)) (notFace_of_selects (args := #[]) (mvT hZ (wd17 hw))) (mvT hZ (wd17 hw)) (mvT hZ (wd16 hw)) (by decide) (backOf (W := 0) (rm3n1 l Z a0 hw [] b80 sa sb sc y81 y81a k_y81 k_y81a p1 p2 p3 ((f4 p1 p2 p3) &&& (127 : Int32)) h82 n0 Z0 E_b80 F_b80_size F_b80_terms F_b80_slots V_y81 V_y81a (Ne.symm ne_b80_y81) (Ne.symm ne_b80_y81a) nef_y81_y81a (fun z => hn2 ⟨z.1.symm, z.2.1.symm, z.2.2.symm⟩) g_y81 g_b80 g_y81a) hZ (wd18 hw) (wd3 hw) (by decide) (by decide)) q83a q83c (g := (mkF m 328 #[vi p1, vi p2, vi p3, vi p4, vi p5, vi p6, vi ka, vi sa, vi sb, vi sc, vi kb, vi ta, vi tb, vi tc, vr b2, vi 2, vi 1, vi 0, vr b80, vi 1, us, us, us, us] [(.int sc), (.int sb), (.int sa), (.ref b80)])) rfl (by rw [hml]; rfl) (Steps.refl _) (argsL := [(.int sa), (.int sb), (.int sc)]) (rest := []) (lenOf pd2 rfl) rfl (by show 2 * 0 + _ ≤ _; exact Nat.le_of_eq rfl) (hb hby at_328) (fun _ _ => ⟨rfl, e82, (by decide : 4 + 0 ≤ _), (by decide : 332 + 0 ≤ _)⟩)
 dsimp only [Pt.U, Pt.locs, Pt.cells, Pt.slots] at X83 l83 y83 z83 st83 hQ83
 subst l83 y83 z83
 refine Go.tr st83 ?_
 have E_b80_pre := E_b80
 have F_b80_size_pre := F_b80_size
 have F_b80_terms_pre := F_b80_terms
 have F_b80_slots_pre := F_b80_slots
 have V_y81_pre := V_y81
 have V_y81a_pre := V_y81a
 obtain ⟨h83, e83⟩ : ∃ z, T83.heap = z := ⟨_, rfl⟩
 rw [e83] at hQ83
 obtain ⟨rfl, N83q, K83, Q83_0, Q83_1, Q83_2, Q83_3, Q83_4, Q83_5⟩ := hQ83
 replace V_b2 := V_b2.keep K83 (ninS ne_b2_y81 (ninS ne_b2_b80 (ninS ne_b2_y81a nin0)))
 replace E_b80 := E_b80.keep K83
 replace Z0 := Nat.le_trans Z0 K83.1
 replace K0 := K0.trans K83 (allS (Or.inr sz_y81) (allS (Or.inr sz_b80) (allS (Or.inr sz_y81a) all0)))
 clear E_b80_pre F_b80_size_pre F_b80_terms_pre F_b80_slots_pre V_y81_pre V_y81a_pre
 have E_b80 := Q83_0
 have F_b80_size := Q83_1
 have F_b80_terms := Q83_2
 have F_b80_slots := Q83_3
 have V_y81 := Q83_4
 have V_y81a := Q83_5
 have N83 := Fr.app N82 N83q
 refine G (fun t k => XS.istore X83.here hx rfl (hb hby at_331) rfl (l' := #[vi p1, vi p2, vi p3, vi p4, vi p5, vi p6, vi ka, vi sa, vi sb, vi sc, vi kb, vi ta, vi tb, vi tc, vr b2, vi 2, vi 1, vi 0, vr b80, vi 1, vi 1, us, us, us]) rfl (XS.aload X83.here hx rfl (hb hby at_333) rfl rfl (XS.iload X83.here hx rfl (hb hby at_335) rfl (XS.iload X83.here hx rfl (hb hby at_337) rfl k)))) ?_
 show Go _ _ _ (T83.setTop (mkF m 339 #[vi p1, vi p2, vi p3, vi p4, vi p5, vi p6, vi ka, vi sa, vi sb, vi sc, vi kb, vi ta, vi tb, vi tc, vr b2, vi 2, vi 1, vi 0, vr b80, vi 1, vi 1, us, us, us] [(.int tb), (.int ta), (.ref b80)])) _
 refine G (fun t k => XS.iload X83.here hx rfl (hb hby at_339) rfl k) ?_
 obtain ⟨cq84, kq84, q84a, q84b, q84c⟩ := isOf hZ e83 E_b80
 obtain ⟨_, _, ⟨T84, L84, k84, n84⟩, -, X84, ⟨Lc84, hQ84, l84, y84, z84⟩, st84⟩ := X83.virtualBack hx (y := (⟨TC, "add", "(III)Z"⟩ : MethodName)) (z := (⟨TC, "add", "(III)Z"⟩ : MethodName)) hown (mvT hZ (wd14 hw)) (mvT hZ (wd15 hw)) (notFace_of_selects (args := #[]) (mvT hZ (wd17 hw))) (mvT hZ (wd17 hw)) (mvT hZ (wd16 hw)) (by decide) (backOf (W := 0) (rm3d21 l Z a0 hw [] b80 ta tb tc y81 y81a k_y81 k_y81a p1 p2 p3 sa sb sc ((f4 p1 p2 p3) &&& (127 : Int32)) (f3n1_w_S_i0 sa sb sc ((f4 p1 p2 p3) &&& (127 : Int32))) h83 n0 Z0 E_b80 F_b80_size F_b80_terms F_b80_slots V_y81 V_y81a (Ne.symm ne_b80_y81) (Ne.symm ne_b80_y81a) nef_y81_y81a ⟨hc76.symm, hc77.symm, hc78.symm⟩ (own_pos_ne _ _ _ _) (by rw [hc76, hc77, hc78])) hZ (wd18 hw) (wd3 hw) (by decide) (by decide)) q84a q84c (g := (mkF m 341 #[vi p1, vi p2, vi p3, vi p4, vi p5, vi p6, vi ka, vi sa, vi sb, vi sc, vi kb, vi ta, vi tb, vi tc, vr b2, vi 2, vi 1, vi 0, vr b80, vi 1, vi 1, us, us, us] [(.int tc), (.int tb), (.int ta), (.ref b80)])) rfl (by rw [hml]; rfl) (Steps.refl _) (argsL := [(.int ta), (.int tb), (.int tc)]) (rest := []) (lenOf pd2 rfl) rfl (by show 2 * 0 + _ ≤ _; exact Nat.le_of_eq rfl) (hb hby at_341) (fun _ _ => ⟨rfl, e83, (by decide : 4 + 0 ≤ _), (by decide : 332 + 0 ≤ _)⟩)
 dsimp only [Pt.U, Pt.locs, Pt.cells, Pt.slots] at X84 l84 y84 z84 st84 hQ84
 subst l84 y84 z84
 refine Go.tr st84 ?_
 obtain ⟨rfl, N84q, e84⟩ := hQ84
 have N84 := Fr.app N83 N84q
 obtain ⟨LL84, X84, N84⟩ : ∃ LL, Stand p l e room_1 s m #[(.int p1), (.int p2), (.int p3), (.int p4), (.int p5), (.int p6)] below meth c T84 LL 4 332 ∧ Fr n0 LL := ⟨_, X84, N84⟩
 show Go _ _ _ (T84.setTop (mkF m 344 #[vi p1, vi p2, vi p3, vi p4, vi p5, vi p6, vi ka, vi sa, vi sb, vi sc, vi kb, vi ta, vi tb, vi tc, vr b2, vi 2, vi 1, vi 0, vr b80, vi 1, vi 1, us, us, us] [(.int 0)])) _
 clear F_b80_slots V_y81a
 refine G (fun t k => XS.istore X84.here hx rfl (hb hby at_344) rfl (l' := #[vi p1, vi p2, vi p3, vi p4, vi p5, vi p6, vi ka, vi sa, vi sb, vi sc, vi kb, vi ta, vi tb, vi tc, vr b2, vi 2, vi 1, vi 0, vr b80, vi 1, vi 1, vi 0, us, us]) rfl (XS.aload X84.here hx rfl (hb hby at_346) rfl rfl k)) ?_
 obtain ⟨cq85, kq85, q85a, q85b, q85c⟩ := isOf hZ e84 E_b80
 obtain ⟨_, _, ⟨T85, L85, k85, n85⟩, -, X85, ⟨Lc85, hQ85, l85, y85, z85⟩, st85⟩ := X84.virtualBack hx (y := (⟨TC, "size", "()I"⟩ : MethodName)) (z := (⟨TC, "size", "()I"⟩ : MethodName)) hown (mvT hZ (wd27 hw)) (mvT hZ (wd28 hw)) (notFace_of_selects (args := #[]) (mvT hZ (wd30 hw))) (mvT hZ (wd30 hw)) (mvT hZ (wd29 hw)) (by decide) (backOf (W := 0) (rm5 l Z a0 hw [] b80 (2 : Int32) h83 n0 Z0 F_b80_size) hZ (wd31 hw) (wd3 hw) (by decide) (by decide)) q85a q85c (g := (mkF m 348 #[vi p1, vi p2, vi p3, vi p4, vi p5, vi p6, vi ka, vi sa, vi sb, vi sc, vi kb, vi ta, vi tb, vi tc, vr b2, vi 2, vi 1, vi 0, vr b80, vi 1, vi 1, vi 0, us, us] [(.ref b80)])) rfl (by rw [hml]; rfl) (Steps.refl _) (argsL := []) (rest := []) (lenOf pd3 rfl) rfl (by show 2 * 0 + _ ≤ _; exact Nat.le_of_eq rfl) (hb hby at_348) (fun _ _ => ⟨rfl, e84, (by decide : 4 + 0 ≤ _), (by decide : 332 + 0 ≤ _)⟩)
 dsimp only [Pt.U, Pt.locs, Pt.cells, Pt.slots] at X85 l85 y85 z85 st85 hQ85
 subst l85 y85 z85
 refine Go.tr st85 ?_
 obtain ⟨rfl, N85q, e85⟩ := hQ85
 have N85 := Fr.app N84 N85q
 refine G (fun t k => XS.istore X85.here hx rfl (hb hby at_351) rfl (l' := #[vi p1, vi p2, vi p3, vi p4, vi p5, vi p6, vi ka, vi sa, vi sb, vi sc, vi kb, vi ta, vi tb, vi tc, vr b2, vi 2, vi 1, vi 0, vr b80, vi 1, vi 1, vi 0, vi 2, us]) rfl (XS.iload X85.here hx rfl (hb hby at_353) rfl (XS.iload X85.here hx rfl (hb hby at_355) rfl (XS.icmpYes X85.here hx rfl (pc0 := 357) (pc' := 362) rfl (hb hby at_357) rfl (teq (by decide : (2 : Int32) = (2 : Int32))).1 (by decide) (by decide) k)))) ?_
 show Go _ _ _ (T85.setTop (mkF m 362 #[vi p1, vi p2, vi p3, vi p4, vi p5, vi p6, vi ka, vi sa, vi sb, vi sc, vi kb, vi ta, vi tb, vi tc, vr b2, vi 2, vi 1, vi 0, vr b80, vi 1, vi 1, vi 0, vi 2, us] [])) _
 refine G (fun t k => XS.iload X85.here hx rfl (hb hby at_362) rfl (XS.ifNo X85.here hx rfl (hb hby at_364) rfl ((if0 _ _).trans (feq (by decide : ¬ ((1 : Int32) = (0 : Int32)))).1) (XS.iload X85.here hx rfl (hb hby at_367) rfl (XS.iload X85.here hx rfl (hb hby at_369) rfl (XS.icmpNo X85.here hx rfl (hb hby at_371) rfl (teq (by decide : (1 : Int32) = (1 : Int32))).2 (XS.iload X85.here hx rfl (hb hby at_374) rfl k)))))) ?_
 refine G (fun t k => XS.iload X85.here hx rfl (hb hby at_376) rfl k) ?_
 show Go _ _ _ (T85.setTop (mkF m 378 #[vi p1, vi p2, vi p3, vi p4, vi p5, vi p6, vi ka, vi sa, vi sb, vi sc, vi kb, vi ta, vi tb, vi tc, vr b2, vi 2, vi 1, vi 0, vr b80, vi 1, vi 1, vi 0, vi 2, us] [(.int 0), (.int 0)])) _
 refine G (fun t k => XS.icmpYes X85.here hx rfl (pc0 := 378) (pc' := 383) rfl (hb hby at_378) rfl (teq (by decide : (0 : Int32) = (0 : Int32))).1 (by decide) (by decide) (XS.iload X85.here hx rfl (hb hby at_383) rfl (XS.iconst X85.here hx rfl (hb hby at_385) (XS.iushr X85.here hx rfl (hb hby at_386) rfl (XS.iconst X85.here hx rfl (hb hby at_387) (XS.iand X85.here hx rfl (hb hby at_388) rfl k)))))) ?_
 refine G (fun t k => XS.iload X85.here hx rfl (hb hby at_389) rfl k) ?_
 show Go _ _ _ (T85.setTop (mkF m 391 #[vi p1, vi p2, vi p3, vi p4, vi p5, vi p6, vi ka, vi sa, vi sb, vi sc, vi kb, vi ta, vi tb, vi tc, vr b2, vi 2, vi 1, vi 0, vr b80, vi 1, vi 1, vi 0, vi 2, us] [(.int 2), (.int (((p6.toUInt32 >>> ((4 : Int32) &&& 31).toUInt32).toInt32) &&& (3 : Int32)))])) _
 refine G (fun t k => iremM X85 hx rfl (hb hby at_391) rfl (by decide) (XS.istore X85.here hx rfl (hb hby at_392) rfl (l' := #[vi p1, vi p2, vi p3, vi p4, vi p5, vi p6, vi ka, vi sa, vi sb, vi sc, vi kb, vi ta, vi tb, vi tc, vr b2, vi 2, vi 1, vi 0, vr b80, vi 1, vi 1, vi 0, vi 2, vi ((((p6.toUInt32 >>> ((4 : Int32) &&& 31).toUInt32).toInt32) &&& (3 : Int32)) % (2 : Int32))]) rfl k)) ?_
 show Go _ _ _ (T85.setTop (mkF m 394 #[vi p1, vi p2, vi p3, vi p4, vi p5, vi p6, vi ka, vi sa, vi sb, vi sc, vi kb, vi ta, vi tb, vi tc, vr b2, vi 2, vi 1, vi 0, vr b80, vi 1, vi 1, vi 0, vi 2, vi ((((p6.toUInt32 >>> ((4 : Int32) &&& 31).toUInt32).toInt32) &&& (3 : Int32)) % (2 : Int32))] [])) _
 by_cases hc86 : ((((p6.toUInt32 >>> ((4 : Int32) &&& 31).toUInt32).toInt32) &&& (3 : Int32)) % (2 : Int32)) = (0 : Int32)
 ·rw [hc86]
  show Go _ _ _ (T85.setTop (mkF m 394 #[vi p1, vi p2, vi p3, vi p4, vi p5, vi p6, vi ka, vi sa, vi sb, vi sc, vi kb, vi ta, vi tb, vi tc, vr b2, vi 2, vi 1, vi 0, vr b80, vi 1, vi 1, vi 0, vi 2, vi 0] [])) _
  exact TJ0_87 l Z a0 hw ws p1 p2 p3 p4 p5 p6 h0 n0 Bd hml0 hZ X85 e85 N85 K0 Z0 V_b2 E_b80 F_b80_size F_b80_terms V_y81
 ·rw [own_j2 ((p6.toUInt32 >>> ((4 : Int32) &&& 31).toUInt32).toInt32) hc86]
  show Go _ _ _ (T85.setTop (mkF m 394 #[vi p1, vi p2, vi p3, vi p4, vi p5, vi p6, vi ka, vi sa, vi sb, vi sc, vi kb, vi ta, vi tb, vi tc, vr b2, vi 2, vi 1, vi 0, vr b80, vi 1, vi 1, vi 0, vi 2, vi 1] [])) _
  exact TJ0_94 l Z a0 hw ws p1 p2 p3 p4 p5 p6 h0 n0 Bd hml0 hZ X85 e85 N85 K0 Z0 V_b2 E_b80 F_b80_size F_b80_terms V_y81
theorem TJ0_128 (l : Launch) (Z : State) (a0 : Array Value) (hw : HW a0 Z) (ws : List Jvm.Cond) (p1 : Int32) (p2 : Int32) (p3 : Int32) (p4 : Int32) (p5 : Int32) (p6 : Int32) (h0 : Heap) (n0 : Nat) {p : Program} {e : Env} {s : State} {m : MethodId} {below : List Frame} {meth : Method} {c : Code} {s₁ : State} (Bd : BodyLoose p l x (head1 (Jvm.Cond.code x code maxLocals ret :: ws) room_1) code maxLocals ret e s m #[(.int p1), (.int p2), (.int p3), (.int p4), (.int p5), (.int p6)] below meth c s₁) (hml0 : c.maxLocals = maxLocals) (hZ : Z.Warmed39 s.vm) {TJ : State} {locsJ : List Loc} {hJ : Heap} {b121 : Addr} {b2 : Addr} {y122 : Addr} {k2 : ClassId} {k_y122 : ClassId} {sa : Int32} {sb : Int32} {sc : Int32} {ta : Int32} {tb : Int32} {tc : Int32} {ka : Int32} {kb : Int32} (XJ : Stand p l e room_1 s m #[(.int p1), (.int p2), (.int p3), (.int p4), (.int p5), (.int p6)] below meth c TJ locsJ 4 332) (eJ : TJ.heap = hJ) (NJ : Fr n0 locsJ) (K0 : Keep h0 hJ []) (Z0 : n0 ≤ hJ.size) (V_b2 : Arv Z hJ b2 k2 .int (9 : Int32) [(.int p1), (.int p2), (.int p3), (.int ta), (.int tb), (.int tc), (.int (0 : Int32)), (.int (0 : Int32)), (.int (0 : Int32))] (.int (0 : Int32))) (E_b121 : Exa Z hJ b121 TC) (F_b121_size : Fld Z hJ b121 TC "size" "I" (.int (2 : Int32))) (F_b121_terms : Fld Z hJ b121 TC "terms" "[I" (.ref y122)) (V_y122 : Arv Z hJ y122 k_y122 .int (192 : Int32) [(.int p1), (.int p2), (.int p3), (.int ta), (.int tb), (.int tc)] (.int (0 : Int32))) :
  Go p.tables e below (TJ.setTop (mkF m 394 #[vi p1, vi p2, vi p3, vi p4, vi p5, vi p6, vi ka, vi sa, vi sb, vi sc, vi kb, vi ta, vi tb, vi tc, vr b2, vi 2, vi 0, vi 1, vr b121, vi 1, vi 0, vi 1, vi 2, vi 0] [])) (fun o U' => ∃ v L, o = .returned v ∧ Q0 Z p1 p2 p3 p4 p5 p6 h0 n0 v U'.heap L ∧ FrameEnd s o U' L 16 768) := by
 have hx := Bd.exec
 have hby := Bd.bytes
 have hml : c.maxLocals = 24 := hml0
 have hown : s.vm.findClass "com/example/tripletype/tripletype/TripleTableAddPinLaw" = some m.cls := findClass_of_methodNamed Bd.named
 have hnm := (name_of_methodNamed Bd.named Bd.method).1
 refine G (fun t k => XS.aload XJ.here hx rfl (hb hby at_394) rfl rfl (XS.iload XJ.here hx rfl (hb hby at_396) rfl k)) ?_
 obtain ⟨cq129, kq129, q129a, q129b, q129c⟩ := isOf hZ eJ E_b121
 obtain ⟨_, _, ⟨T129, L129, k129, n129⟩, -, X129, ⟨Lc129, hQ129, l129, y129, z129⟩, st129⟩ := XJ.virtualBack hx (y := (⟨TC, "subject", "(I)I"⟩ : MethodName)) (z := (⟨TC, "subject", "(I)I"⟩ : MethodName)) hown (mvT hZ (wd32 hw)) (mvT hZ (wd33 hw)) (notFace_of_selects (args := #[]) (mvT hZ (wd35 hw))) (mvT hZ (wd35 hw)) (mvT hZ (wd34 hw)) (by decide) (backOf (W := 0) (rm6 l Z a0 hw [] b121 (0 : Int32) y122 k_y122 [(.int p1), (.int p2), (.int p3), (.int ta), (.int tb), (.int tc)] p1 hJ n0 Z0 F_b121_terms V_y122 (by decide) rfl) hZ (wd36 hw) (wd3 hw) (by decide) (by decide)) q129a q129c (g := (mkF m 398 #[vi p1, vi p2, vi p3, vi p4, vi p5, vi p6, vi ka, vi sa, vi sb, vi sc, vi kb, vi ta, vi tb, vi tc, vr b2, vi 2, vi 0, vi 1, vr b121, vi 1, vi 0, vi 1, vi 2, vi 0] [(.int 0), (.ref b121)])) rfl (by rw [hml]; rfl) (Steps.refl _) (argsL := [(.int (0 : Int32))]) (rest := []) (lenOf pd4 rfl) rfl (by show 2 * 0 + _ ≤ _; exact Nat.le_of_eq rfl) (hb hby at_398) (fun _ _ => ⟨rfl, eJ, (by decide : 4 + 0 ≤ _), (by decide : 332 + 0 ≤ _)⟩)
 dsimp only [Pt.U, Pt.locs, Pt.cells, Pt.slots] at X129 l129 y129 z129 st129 hQ129
 subst l129 y129 z129
 refine Go.tr st129 ?_
 obtain ⟨rfl, N129q, e129⟩ := hQ129
 have N129 := Fr.app NJ N129q
 refine G (fun t k => XS.aload X129.here hx rfl (hb hby at_401) rfl rfl (XS.iconst X129.here hx rfl (hb hby at_403) (XS.iload X129.here hx rfl (hb hby at_404) rfl (XS.imul X129.here hx rfl (hb hby at_406) rfl k)))) ?_
 show Go _ _ _ (T129.setTop (mkF m 407 #[vi p1, vi p2, vi p3, vi p4, vi p5, vi p6, vi ka, vi sa, vi sb, vi sc, vi kb, vi ta, vi tb, vi tc, vr b2, vi 2, vi 0, vi 1, vr b121, vi 1, vi 0, vi 1, vi 2, vi 0] [(.int 0), (.ref b2), (.int p1)])) _
 obtain ⟨cl130, Ar130, -, Sz130, Ng130, Hs130, -⟩ := id V_b2
 have hin130 : ¬ ((0 : Int32) < 0 ∨ cl130.slots.size ≤ ((0 : Int32)).toNatClampNeg) := inb_of Sz130 ⟨by decide, by decide⟩
 refine G (fun t k => X129.iaload hx (j := (0 : Int32)) (v := (.int p1)) (by rw [e129]; exact Ar130.1) (State.isArrayOf_alike hZ.alike Ar130.2.1) Ar130.2.2 hin130 (Has.at Hs130 hin130 rfl) (g := (mkF m 407 #[vi p1, vi p2, vi p3, vi p4, vi p5, vi p6, vi ka, vi sa, vi sb, vi sc, vi kb, vi ta, vi tb, vi tc, vr b2, vi 2, vi 0, vi 1, vr b121, vi 1, vi 0, vi 1, vi 2, vi 0] [(.int 0), (.ref b2), (.int p1)])) rfl rfl (hb hby at_407) _ k) ?_
 clear hin130 Hs130 Ng130 Sz130 Ar130 cl130
 refine G (fun t k => XS.icmpNo X129.here hx rfl (hb hby at_408) rfl (teq (rfl : p1 = p1)).2 (XS.aload X129.here hx rfl (hb hby at_411) rfl rfl (XS.iload X129.here hx rfl (hb hby at_413) rfl k))) ?_
 obtain ⟨cq131, kq131, q131a, q131b, q131c⟩ := isOf hZ e129 E_b121
 obtain ⟨_, _, ⟨T131, L131, k131, n131⟩, -, X131, ⟨Lc131, hQ131, l131, y131, z131⟩, st131⟩ := X129.virtualBack hx (y := (⟨TC, "predicate", "(I)I"⟩ : MethodName)) (z := (⟨TC, "predicate", "(I)I"⟩ : MethodName)) hown (mvT hZ (wd37 hw)) (mvT hZ (wd38 hw)) (notFace_of_selects (args := #[]) (mvT hZ (wd40 hw))) (mvT hZ (wd40 hw)) (mvT hZ (wd39 hw)) (by decide) (backOf (W := 0) (rm7 l Z a0 hw [] b121 (0 : Int32) y122 k_y122 [(.int p1), (.int p2), (.int p3), (.int ta), (.int tb), (.int tc)] p2 hJ n0 Z0 F_b121_terms V_y122 (by decide) rfl) hZ (wd41 hw) (wd3 hw) (by decide) (by decide)) q131a q131c (g := (mkF m 415 #[vi p1, vi p2, vi p3, vi p4, vi p5, vi p6, vi ka, vi sa, vi sb, vi sc, vi kb, vi ta, vi tb, vi tc, vr b2, vi 2, vi 0, vi 1, vr b121, vi 1, vi 0, vi 1, vi 2, vi 0] [(.int 0), (.ref b121)])) rfl (by rw [hml]; rfl) (Steps.refl _) (argsL := [(.int (0 : Int32))]) (rest := []) (lenOf pd4 rfl) rfl (by show 2 * 0 + _ ≤ _; exact Nat.le_of_eq rfl) (hb hby at_415) (fun _ _ => ⟨rfl, e129, (by decide : 4 + 0 ≤ _), (by decide : 332 + 0 ≤ _)⟩)
 dsimp only [Pt.U, Pt.locs, Pt.cells, Pt.slots] at X131 l131 y131 z131 st131 hQ131
 subst l131 y131 z131
 refine Go.tr st131 ?_
 obtain ⟨rfl, N131q, e131⟩ := hQ131
 have N131 := Fr.app N129 N131q
 refine G (fun t k => XS.aload X131.here hx rfl (hb hby at_418) rfl rfl (XS.iconst X131.here hx rfl (hb hby at_420) k)) ?_
 show Go _ _ _ (T131.setTop (mkF m 421 #[vi p1, vi p2, vi p3, vi p4, vi p5, vi p6, vi ka, vi sa, vi sb, vi sc, vi kb, vi ta, vi tb, vi tc, vr b2, vi 2, vi 0, vi 1, vr b121, vi 1, vi 0, vi 1, vi 2, vi 0] [(.int 3), (.ref b2), (.int p2)])) _
 refine G (fun t k => XS.iload X131.here hx rfl (hb hby at_421) rfl (XS.imul X131.here hx rfl (hb hby at_423) rfl (XS.iconst X131.here hx rfl (hb hby at_424) (XS.iadd X131.here hx rfl (hb hby at_425) rfl k)))) ?_
 obtain ⟨cl132, Ar132, -, Sz132, Ng132, Hs132, -⟩ := id V_b2
 have hin132 : ¬ ((1 : Int32) < 0 ∨ cl132.slots.size ≤ ((1 : Int32)).toNatClampNeg) := inb_of Sz132 ⟨by decide, by decide⟩
 refine G (fun t k => X131.iaload hx (j := (1 : Int32)) (v := (.int p2)) (by rw [e131]; exact Ar132.1) (State.isArrayOf_alike hZ.alike Ar132.2.1) Ar132.2.2 hin132 (Has.at Hs132 hin132 rfl) (g := (mkF m 426 #[vi p1, vi p2, vi p3, vi p4, vi p5, vi p6, vi ka, vi sa, vi sb, vi sc, vi kb, vi ta, vi tb, vi tc, vr b2, vi 2, vi 0, vi 1, vr b121, vi 1, vi 0, vi 1, vi 2, vi 0] [(.int 1), (.ref b2), (.int p2)])) rfl rfl (hb hby at_426) _ k) ?_
 clear hin132 Hs132 Ng132 Sz132 Ar132 cl132
 refine G (fun t k => XS.icmpNo X131.here hx rfl (hb hby at_427) rfl (teq (rfl : p2 = p2)).2 (XS.aload X131.here hx rfl (hb hby at_430) rfl rfl k)) ?_
 show Go _ _ _ (T131.setTop (mkF m 432 #[vi p1, vi p2, vi p3, vi p4, vi p5, vi p6, vi ka, vi sa, vi sb, vi sc, vi kb, vi ta, vi tb, vi tc, vr b2, vi 2, vi 0, vi 1, vr b121, vi 1, vi 0, vi 1, vi 2, vi 0] [(.ref b121)])) _
 refine G (fun t k => XS.iload X131.here hx rfl (hb hby at_432) rfl k) ?_
 obtain ⟨cq133, kq133, q133a, q133b, q133c⟩ := isOf hZ e131 E_b121
 obtain ⟨_, _, ⟨T133, L133, k133, n133⟩, -, X133, ⟨Lc133, hQ133, l133, y133, z133⟩, st133⟩ := X131.virtualBack hx (y := (⟨TC, "object", "(I)I"⟩ : MethodName)) (z := (⟨TC, "object", "(I)I"⟩ : MethodName)) hown (mvT hZ (wd42 hw)) (mvT hZ (wd43 hw)) (notFace_of_selects (args := #[]) (mvT hZ (wd45 hw))) (mvT hZ (wd45 hw)) (mvT hZ (wd44 hw)) (by decide) (backOf (W := 0) (rm8 l Z a0 hw [] b121 (0 : Int32) y122 k_y122 [(.int p1), (.int p2), (.int p3), (.int ta), (.int tb), (.int tc)] p3 hJ n0 Z0 F_b121_terms V_y122 (by decide) rfl) hZ (wd46 hw) (wd3 hw) (by decide) (by decide)) q133a q133c (g := (mkF m 434 #[vi p1, vi p2, vi p3, vi p4, vi p5, vi p6, vi ka, vi sa, vi sb, vi sc, vi kb, vi ta, vi tb, vi tc, vr b2, vi 2, vi 0, vi 1, vr b121, vi 1, vi 0, vi 1, vi 2, vi 0] [(.int 0), (.ref b121)])) rfl (by rw [hml]; rfl) (Steps.refl _) (argsL := [(.int (0 : Int32))]) (rest := []) (lenOf pd4 rfl) rfl (by show 2 * 0 + _ ≤ _; exact Nat.le_of_eq rfl) (hb hby at_434) (fun _ _ => ⟨rfl, e131, (by decide : 4 + 0 ≤ _), (by decide : 332 + 0 ≤ _)⟩)
 dsimp only [Pt.U, Pt.locs, Pt.cells, Pt.slots] at X133 l133 y133 z133 st133 hQ133
 subst l133 y133 z133
 refine Go.tr st133 ?_
 obtain ⟨rfl, N133q, e133⟩ := hQ133
 have N133 := Fr.app N131 N133q
 refine G (fun t k => XS.aload X133.here hx rfl (hb hby at_437) rfl rfl (XS.iconst X133.here hx rfl (hb hby at_439) (XS.iload X133.here hx rfl (hb hby at_440) rfl (XS.imul X133.here hx rfl (hb hby at_442) rfl (XS.iconst X133.here hx rfl (hb hby at_443) k))))) ?_
 show Go _ _ _ (T133.setTop (mkF m 444 #[vi p1, vi p2, vi p3, vi p4, vi p5, vi p6, vi ka, vi sa, vi sb, vi sc, vi kb, vi ta, vi tb, vi tc, vr b2, vi 2, vi 0, vi 1, vr b121, vi 1, vi 0, vi 1, vi 2, vi 0] [(.int 2), (.int 0), (.ref b2), (.int p3)])) _
 refine G (fun t k => XS.iadd X133.here hx rfl (hb hby at_444) rfl k) ?_
 obtain ⟨cl134, Ar134, -, Sz134, Ng134, Hs134, -⟩ := id V_b2
 have hin134 : ¬ ((2 : Int32) < 0 ∨ cl134.slots.size ≤ ((2 : Int32)).toNatClampNeg) := inb_of Sz134 ⟨by decide, by decide⟩
 refine G (fun t k => X133.iaload hx (j := (2 : Int32)) (v := (.int p3)) (by rw [e133]; exact Ar134.1) (State.isArrayOf_alike hZ.alike Ar134.2.1) Ar134.2.2 hin134 (Has.at Hs134 hin134 rfl) (g := (mkF m 445 #[vi p1, vi p2, vi p3, vi p4, vi p5, vi p6, vi ka, vi sa, vi sb, vi sc, vi kb, vi ta, vi tb, vi tc, vr b2, vi 2, vi 0, vi 1, vr b121, vi 1, vi 0, vi 1, vi 2, vi 0] [(.int 2), (.ref b2), (.int p3)])) rfl rfl (hb hby at_445) _ k) ?_
 clear hin134 Hs134 Ng134 Sz134 Ar134 cl134
 refine G (fun t k => XS.icmpNo X133.here hx rfl (hb hby at_446) rfl (teq (rfl : p3 = p3)).2 (XS.iconst X133.here hx rfl (hb hby at_449) (XS.goto X133.here hx rfl (pc0 := 450) (pc' := 454) rfl (hb hby at_450) (by decide) (by decide) k))) ?_
 obtain ⟨fs, hr, hrun, hended, hW, hsame⟩ := X133.leave (v := some (.int (1 : Int32))) (fun h => by rw [Bd.returns] at h; cases h)
 refine Go.fin (retN X133 hx (t := .boolean) Bd.returns (by simp) (hb hby at_454) hr) hrun hended ⟨_, _, rfl, ?_, ⟨_, rfl⟩, hW, hsame.mono (by decide) (by decide)⟩
 show Q0 Z p1 p2 p3 p4 p5 p6 h0 n0 _ T133.heap _
 rw [e133]
 exact ⟨rfl, N133⟩
theorem TJ0_135 (l : Launch) (Z : State) (a0 : Array Value) (hw : HW a0 Z) (ws : List Jvm.Cond) (p1 : Int32) (p2 : Int32) (p3 : Int32) (p4 : Int32) (p5 : Int32) (p6 : Int32) (h0 : Heap) (n0 : Nat) {p : Program} {e : Env} {s : State} {m : MethodId} {below : List Frame} {meth : Method} {c : Code} {s₁ : State} (Bd : BodyLoose p l x (head1 (Jvm.Cond.code x code maxLocals ret :: ws) room_1) code maxLocals ret e s m #[(.int p1), (.int p2), (.int p3), (.int p4), (.int p5), (.int p6)] below meth c s₁) (hml0 : c.maxLocals = maxLocals) (hZ : Z.Warmed39 s.vm) {TJ : State} {locsJ : List Loc} {hJ : Heap} {b121 : Addr} {b2 : Addr} {y122 : Addr} {k2 : ClassId} {k_y122 : ClassId} {sa : Int32} {sb : Int32} {sc : Int32} {ta : Int32} {tb : Int32} {tc : Int32} {ka : Int32} {kb : Int32} (XJ : Stand p l e room_1 s m #[(.int p1), (.int p2), (.int p3), (.int p4), (.int p5), (.int p6)] below meth c TJ locsJ 4 332) (eJ : TJ.heap = hJ) (NJ : Fr n0 locsJ) (K0 : Keep h0 hJ []) (Z0 : n0 ≤ hJ.size) (V_b2 : Arv Z hJ b2 k2 .int (9 : Int32) [(.int p1), (.int p2), (.int p3), (.int ta), (.int tb), (.int tc), (.int (0 : Int32)), (.int (0 : Int32)), (.int (0 : Int32))] (.int (0 : Int32))) (E_b121 : Exa Z hJ b121 TC) (F_b121_size : Fld Z hJ b121 TC "size" "I" (.int (2 : Int32))) (F_b121_terms : Fld Z hJ b121 TC "terms" "[I" (.ref y122)) (V_y122 : Arv Z hJ y122 k_y122 .int (192 : Int32) [(.int p1), (.int p2), (.int p3), (.int ta), (.int tb), (.int tc)] (.int (0 : Int32))) :
  Go p.tables e below (TJ.setTop (mkF m 394 #[vi p1, vi p2, vi p3, vi p4, vi p5, vi p6, vi ka, vi sa, vi sb, vi sc, vi kb, vi ta, vi tb, vi tc, vr b2, vi 2, vi 0, vi 1, vr b121, vi 1, vi 0, vi 1, vi 2, vi 1] [])) (fun o U' => ∃ v L, o = .returned v ∧ Q0 Z p1 p2 p3 p4 p5 p6 h0 n0 v U'.heap L ∧ FrameEnd s o U' L 16 768) := by
 have hx := Bd.exec
 have hby := Bd.bytes
 have hml : c.maxLocals = 24 := hml0
 have hown : s.vm.findClass "com/example/tripletype/tripletype/TripleTableAddPinLaw" = some m.cls := findClass_of_methodNamed Bd.named
 have hnm := (name_of_methodNamed Bd.named Bd.method).1
 refine G (fun t k => XS.aload XJ.here hx rfl (hb hby at_394) rfl rfl (XS.iload XJ.here hx rfl (hb hby at_396) rfl k)) ?_
 obtain ⟨cq136, kq136, q136a, q136b, q136c⟩ := isOf hZ eJ E_b121
 obtain ⟨_, _, ⟨T136, L136, k136, n136⟩, -, X136, ⟨Lc136, hQ136, l136, y136, z136⟩, st136⟩ := XJ.virtualBack hx (y := (⟨TC, "subject", "(I)I"⟩ : MethodName)) (z := (⟨TC, "subject", "(I)I"⟩ : MethodName)) hown (mvT hZ (wd32 hw)) (mvT hZ (wd33 hw)) (notFace_of_selects (args := #[]) (mvT hZ (wd35 hw))) (mvT hZ (wd35 hw)) (mvT hZ (wd34 hw)) (by decide) (backOf (W := 0) (rm6 l Z a0 hw [] b121 (1 : Int32) y122 k_y122 [(.int p1), (.int p2), (.int p3), (.int ta), (.int tb), (.int tc)] ta hJ n0 Z0 F_b121_terms V_y122 (by decide) rfl) hZ (wd36 hw) (wd3 hw) (by decide) (by decide)) q136a q136c (g := (mkF m 398 #[vi p1, vi p2, vi p3, vi p4, vi p5, vi p6, vi ka, vi sa, vi sb, vi sc, vi kb, vi ta, vi tb, vi tc, vr b2, vi 2, vi 0, vi 1, vr b121, vi 1, vi 0, vi 1, vi 2, vi 1] [(.int 1), (.ref b121)])) rfl (by rw [hml]; rfl) (Steps.refl _) (argsL := [(.int (1 : Int32))]) (rest := []) (lenOf pd4 rfl) rfl (by show 2 * 0 + _ ≤ _; exact Nat.le_of_eq rfl) (hb hby at_398) (fun _ _ => ⟨rfl, eJ, (by decide : 4 + 0 ≤ _), (by decide : 332 + 0 ≤ _)⟩)
 dsimp only [Pt.U, Pt.locs, Pt.cells, Pt.slots] at X136 l136 y136 z136 st136 hQ136
 subst l136 y136 z136
 refine Go.tr st136 ?_
 obtain ⟨rfl, N136q, e136⟩ := hQ136
 have N136 := Fr.app NJ N136q
 refine G (fun t k => XS.aload X136.here hx rfl (hb hby at_401) rfl rfl (XS.iconst X136.here hx rfl (hb hby at_403) (XS.iload X136.here hx rfl (hb hby at_404) rfl (XS.imul X136.here hx rfl (hb hby at_406) rfl k)))) ?_
 show Go _ _ _ (T136.setTop (mkF m 407 #[vi p1, vi p2, vi p3, vi p4, vi p5, vi p6, vi ka, vi sa, vi sb, vi sc, vi kb, vi ta, vi tb, vi tc, vr b2, vi 2, vi 0, vi 1, vr b121, vi 1, vi 0, vi 1, vi 2, vi 1] [(.int 3), (.ref b2), (.int ta)])) _
 obtain ⟨cl137, Ar137, -, Sz137, Ng137, Hs137, -⟩ := id V_b2
 have hin137 : ¬ ((3 : Int32) < 0 ∨ cl137.slots.size ≤ ((3 : Int32)).toNatClampNeg) := inb_of Sz137 ⟨by decide, by decide⟩
 refine G (fun t k => X136.iaload hx (j := (3 : Int32)) (v := (.int ta)) (by rw [e136]; exact Ar137.1) (State.isArrayOf_alike hZ.alike Ar137.2.1) Ar137.2.2 hin137 (Has.at Hs137 hin137 rfl) (g := (mkF m 407 #[vi p1, vi p2, vi p3, vi p4, vi p5, vi p6, vi ka, vi sa, vi sb, vi sc, vi kb, vi ta, vi tb, vi tc, vr b2, vi 2, vi 0, vi 1, vr b121, vi 1, vi 0, vi 1, vi 2, vi 1] [(.int 3), (.ref b2), (.int ta)])) rfl rfl (hb hby at_407) _ k) ?_
 clear hin137 Hs137 Ng137 Sz137 Ar137 cl137
 refine G (fun t k => XS.icmpNo X136.here hx rfl (hb hby at_408) rfl (teq (rfl : ta = ta)).2 (XS.aload X136.here hx rfl (hb hby at_411) rfl rfl (XS.iload X136.here hx rfl (hb hby at_413) rfl k))) ?_
 obtain ⟨cq138, kq138, q138a, q138b, q138c⟩ := isOf hZ e136 E_b121
 obtain ⟨_, _, ⟨T138, L138, k138, n138⟩, -, X138, ⟨Lc138, hQ138, l138, y138, z138⟩, st138⟩ := X136.virtualBack hx (y := (⟨TC, "predicate", "(I)I"⟩ : MethodName)) (z := (⟨TC, "predicate", "(I)I"⟩ : MethodName)) hown (mvT hZ (wd37 hw)) (mvT hZ (wd38 hw)) (notFace_of_selects (args := #[]) (mvT hZ (wd40 hw))) (mvT hZ (wd40 hw)) (mvT hZ (wd39 hw)) (by decide) (backOf (W := 0) (rm7 l Z a0 hw [] b121 (1 : Int32) y122 k_y122 [(.int p1), (.int p2), (.int p3), (.int ta), (.int tb), (.int tc)] tb hJ n0 Z0 F_b121_terms V_y122 (by decide) rfl) hZ (wd41 hw) (wd3 hw) (by decide) (by decide)) q138a q138c (g := (mkF m 415 #[vi p1, vi p2, vi p3, vi p4, vi p5, vi p6, vi ka, vi sa, vi sb, vi sc, vi kb, vi ta, vi tb, vi tc, vr b2, vi 2, vi 0, vi 1, vr b121, vi 1, vi 0, vi 1, vi 2, vi 1] [(.int 1), (.ref b121)])) rfl (by rw [hml]; rfl) (Steps.refl _) (argsL := [(.int (1 : Int32))]) (rest := []) (lenOf pd4 rfl) rfl (by show 2 * 0 + _ ≤ _; exact Nat.le_of_eq rfl) (hb hby at_415) (fun _ _ => ⟨rfl, e136, (by decide : 4 + 0 ≤ _), (by decide : 332 + 0 ≤ _)⟩)
 dsimp only [Pt.U, Pt.locs, Pt.cells, Pt.slots] at X138 l138 y138 z138 st138 hQ138
 subst l138 y138 z138
 refine Go.tr st138 ?_
 obtain ⟨rfl, N138q, e138⟩ := hQ138
 have N138 := Fr.app N136 N138q
 refine G (fun t k => XS.aload X138.here hx rfl (hb hby at_418) rfl rfl (XS.iconst X138.here hx rfl (hb hby at_420) k)) ?_
 show Go _ _ _ (T138.setTop (mkF m 421 #[vi p1, vi p2, vi p3, vi p4, vi p5, vi p6, vi ka, vi sa, vi sb, vi sc, vi kb, vi ta, vi tb, vi tc, vr b2, vi 2, vi 0, vi 1, vr b121, vi 1, vi 0, vi 1, vi 2, vi 1] [(.int 3), (.ref b2), (.int tb)])) _
 refine G (fun t k => XS.iload X138.here hx rfl (hb hby at_421) rfl (XS.imul X138.here hx rfl (hb hby at_423) rfl (XS.iconst X138.here hx rfl (hb hby at_424) (XS.iadd X138.here hx rfl (hb hby at_425) rfl k)))) ?_
 obtain ⟨cl139, Ar139, -, Sz139, Ng139, Hs139, -⟩ := id V_b2
 have hin139 : ¬ ((4 : Int32) < 0 ∨ cl139.slots.size ≤ ((4 : Int32)).toNatClampNeg) := inb_of Sz139 ⟨by decide, by decide⟩
 refine G (fun t k => X138.iaload hx (j := (4 : Int32)) (v := (.int tb)) (by rw [e138]; exact Ar139.1) (State.isArrayOf_alike hZ.alike Ar139.2.1) Ar139.2.2 hin139 (Has.at Hs139 hin139 rfl) (g := (mkF m 426 #[vi p1, vi p2, vi p3, vi p4, vi p5, vi p6, vi ka, vi sa, vi sb, vi sc, vi kb, vi ta, vi tb, vi tc, vr b2, vi 2, vi 0, vi 1, vr b121, vi 1, vi 0, vi 1, vi 2, vi 1] [(.int 4), (.ref b2), (.int tb)])) rfl rfl (hb hby at_426) _ k) ?_
 clear hin139 Hs139 Ng139 Sz139 Ar139 cl139
 refine G (fun t k => XS.icmpNo X138.here hx rfl (hb hby at_427) rfl (teq (rfl : tb = tb)).2 (XS.aload X138.here hx rfl (hb hby at_430) rfl rfl k)) ?_
 show Go _ _ _ (T138.setTop (mkF m 432 #[vi p1, vi p2, vi p3, vi p4, vi p5, vi p6, vi ka, vi sa, vi sb, vi sc, vi kb, vi ta, vi tb, vi tc, vr b2, vi 2, vi 0, vi 1, vr b121, vi 1, vi 0, vi 1, vi 2, vi 1] [(.ref b121)])) _
 refine G (fun t k => XS.iload X138.here hx rfl (hb hby at_432) rfl k) ?_
 obtain ⟨cq140, kq140, q140a, q140b, q140c⟩ := isOf hZ e138 E_b121
 obtain ⟨_, _, ⟨T140, L140, k140, n140⟩, -, X140, ⟨Lc140, hQ140, l140, y140, z140⟩, st140⟩ := X138.virtualBack hx (y := (⟨TC, "object", "(I)I"⟩ : MethodName)) (z := (⟨TC, "object", "(I)I"⟩ : MethodName)) hown (mvT hZ (wd42 hw)) (mvT hZ (wd43 hw)) (notFace_of_selects (args := #[]) (mvT hZ (wd45 hw))) (mvT hZ (wd45 hw)) (mvT hZ (wd44 hw)) (by decide) (backOf (W := 0) (rm8 l Z a0 hw [] b121 (1 : Int32) y122 k_y122 [(.int p1), (.int p2), (.int p3), (.int ta), (.int tb), (.int tc)] tc hJ n0 Z0 F_b121_terms V_y122 (by decide) rfl) hZ (wd46 hw) (wd3 hw) (by decide) (by decide)) q140a q140c (g := (mkF m 434 #[vi p1, vi p2, vi p3, vi p4, vi p5, vi p6, vi ka, vi sa, vi sb, vi sc, vi kb, vi ta, vi tb, vi tc, vr b2, vi 2, vi 0, vi 1, vr b121, vi 1, vi 0, vi 1, vi 2, vi 1] [(.int 1), (.ref b121)])) rfl (by rw [hml]; rfl) (Steps.refl _) (argsL := [(.int (1 : Int32))]) (rest := []) (lenOf pd4 rfl) rfl (by show 2 * 0 + _ ≤ _; exact Nat.le_of_eq rfl) (hb hby at_434) (fun _ _ => ⟨rfl, e138, (by decide : 4 + 0 ≤ _), (by decide : 332 + 0 ≤ _)⟩)
 dsimp only [Pt.U, Pt.locs, Pt.cells, Pt.slots] at X140 l140 y140 z140 st140 hQ140
 subst l140 y140 z140
 refine Go.tr st140 ?_
 obtain ⟨rfl, N140q, e140⟩ := hQ140
 have N140 := Fr.app N138 N140q
 refine G (fun t k => XS.aload X140.here hx rfl (hb hby at_437) rfl rfl (XS.iconst X140.here hx rfl (hb hby at_439) (XS.iload X140.here hx rfl (hb hby at_440) rfl (XS.imul X140.here hx rfl (hb hby at_442) rfl (XS.iconst X140.here hx rfl (hb hby at_443) k))))) ?_
 show Go _ _ _ (T140.setTop (mkF m 444 #[vi p1, vi p2, vi p3, vi p4, vi p5, vi p6, vi ka, vi sa, vi sb, vi sc, vi kb, vi ta, vi tb, vi tc, vr b2, vi 2, vi 0, vi 1, vr b121, vi 1, vi 0, vi 1, vi 2, vi 1] [(.int 2), (.int 3), (.ref b2), (.int tc)])) _
 refine G (fun t k => XS.iadd X140.here hx rfl (hb hby at_444) rfl k) ?_
 obtain ⟨cl141, Ar141, -, Sz141, Ng141, Hs141, -⟩ := id V_b2
 have hin141 : ¬ ((5 : Int32) < 0 ∨ cl141.slots.size ≤ ((5 : Int32)).toNatClampNeg) := inb_of Sz141 ⟨by decide, by decide⟩
 refine G (fun t k => X140.iaload hx (j := (5 : Int32)) (v := (.int tc)) (by rw [e140]; exact Ar141.1) (State.isArrayOf_alike hZ.alike Ar141.2.1) Ar141.2.2 hin141 (Has.at Hs141 hin141 rfl) (g := (mkF m 445 #[vi p1, vi p2, vi p3, vi p4, vi p5, vi p6, vi ka, vi sa, vi sb, vi sc, vi kb, vi ta, vi tb, vi tc, vr b2, vi 2, vi 0, vi 1, vr b121, vi 1, vi 0, vi 1, vi 2, vi 1] [(.int 5), (.ref b2), (.int tc)])) rfl rfl (hb hby at_445) _ k) ?_
 clear hin141 Hs141 Ng141 Sz141 Ar141 cl141
 refine G (fun t k => XS.icmpNo X140.here hx rfl (hb hby at_446) rfl (teq (rfl : tc = tc)).2 (XS.iconst X140.here hx rfl (hb hby at_449) (XS.goto X140.here hx rfl (pc0 := 450) (pc' := 454) rfl (hb hby at_450) (by decide) (by decide) k))) ?_
 obtain ⟨fs, hr, hrun, hended, hW, hsame⟩ := X140.leave (v := some (.int (1 : Int32))) (fun h => by rw [Bd.returns] at h; cases h)
 refine Go.fin (retN X140 hx (t := .boolean) Bd.returns (by simp) (hb hby at_454) hr) hrun hended ⟨_, _, rfl, ?_, ⟨_, rfl⟩, hW, hsame.mono (by decide) (by decide)⟩
 show Q0 Z p1 p2 p3 p4 p5 p6 h0 n0 _ T140.heap _
 rw [e140]
 exact ⟨rfl, N140⟩
theorem TJ0_114 (l : Launch) (Z : State) (a0 : Array Value) (hw : HW a0 Z) (ws : List Jvm.Cond) (p1 : Int32) (p2 : Int32) (p3 : Int32) (p4 : Int32) (p5 : Int32) (p6 : Int32) (h0 : Heap) (n0 : Nat) {p : Program} {e : Env} {s : State} {m : MethodId} {below : List Frame} {meth : Method} {c : Code} {s₁ : State} (Bd : BodyLoose p l x (head1 (Jvm.Cond.code x code maxLocals ret :: ws) room_1) code maxLocals ret e s m #[(.int p1), (.int p2), (.int p3), (.int p4), (.int p5), (.int p6)] below meth c s₁) (hml0 : c.maxLocals = maxLocals) (hZ : Z.Warmed39 s.vm) {TJ : State} {locsJ : List Loc} {hJ : Heap} {b2 : Addr} {k2 : ClassId} {sa : Int32} {sb : Int32} {sc : Int32} {ta : Int32} {tb : Int32} {tc : Int32} {ka : Int32} {kb : Int32} (XJ : Stand p l e room_1 s m #[(.int p1), (.int p2), (.int p3), (.int p4), (.int p5), (.int p6)] below meth c TJ locsJ 1 9) (eJ : TJ.heap = hJ) (NJ : Fr n0 locsJ) (K0 : Keep h0 hJ []) (Z0 : n0 ≤ hJ.size) (V_b2 : Arv Z hJ b2 k2 .int (9 : Int32) [(.int p1), (.int p2), (.int p3), (.int (0 : Int32)), (.int (0 : Int32)), (.int (0 : Int32)), (.int (0 : Int32)), (.int (0 : Int32)), (.int (0 : Int32))] (.int (0 : Int32))) (g_b2 : n0 ≤ b2) (sz_b2 : h0.size ≤ b2) (hc110 : sa = p1) (hc111 : sb = p2) (hc112 : sc = p3) (hna : ¬ (ta = p1 ∧ tb = p2 ∧ tc = p3)) :
  Go p.tables e below (TJ.setTop (mkF m 259 #[vi p1, vi p2, vi p3, vi p4, vi p5, vi p6, vi ka, vi sa, vi sb, vi sc, vi kb, vi ta, vi tb, vi tc, vr b2, vi 1, vi 0, vi 1, us, us, us, us, us, us] [])) (fun o U' => ∃ v L, o = .returned v ∧ Q0 Z p1 p2 p3 p4 p5 p6 h0 n0 v U'.heap L ∧ FrameEnd s o U' L 16 768) := by
 have hx := Bd.exec
 have hby := Bd.bytes
 have hml : c.maxLocals = 24 := hml0
 have hown : s.vm.findClass "com/example/tripletype/tripletype/TripleTableAddPinLaw" = some m.cls := findClass_of_methodNamed Bd.named
 have hnm := (name_of_methodNamed Bd.named Bd.method).1
 refine G (fun t k => XS.iload XJ.here hx rfl (hb hby at_259) rfl (XS.ifNo XJ.here hx rfl (hb hby at_261) rfl ((if0 _ _).trans (feq (by decide : ¬ ((1 : Int32) = (0 : Int32)))).1) (XS.aload XJ.here hx rfl (hb hby at_264) rfl rfl (XS.iconst XJ.here hx rfl (hb hby at_266) (XS.iload XJ.here hx rfl (hb hby at_267) rfl (XS.imul XJ.here hx rfl (hb hby at_269) rfl k)))))) ?_
 refine G (fun t k => XS.iload XJ.here hx rfl (hb hby at_270) rfl k) ?_
 show Go _ _ _ (TJ.setTop (mkF m 272 #[vi p1, vi p2, vi p3, vi p4, vi p5, vi p6, vi ka, vi sa, vi sb, vi sc, vi kb, vi ta, vi tb, vi tc, vr b2, vi 1, vi 0, vi 1, us, us, us, us, us, us] [(.int ta), (.int 3), (.ref b2)])) _
 obtain ⟨cl115, Ar115, qq115, Sz115, Ng115, Hs115, Gs115⟩ := id V_b2
 have hin115 : ¬ ((3 : Int32) < 0 ∨ cl115.slots.size ≤ ((3 : Int32)).toNatClampNeg) := inb_of Sz115 ⟨by decide, by decide⟩
 obtain ⟨T116, h116, X116, e116, W116, st116⟩ := stI XJ hx hZ eJ Ar115 (j := (3 : Int32)) hin115 (g := (mkF m 272 #[vi p1, vi p2, vi p3, vi p4, vi p5, vi p6, vi ka, vi sa, vi sb, vi sc, vi kb, vi ta, vi tb, vi tc, vr b2, vi 1, vi 0, vi 1, us, us, us, us, us, us] [(.int ta), (.int 3), (.ref b2)])) rfl rfl (hb hby at_272)
 refine G st116 ?_
 have N116 := Fr.snoc X116 NJ g_b2
 replace Z0 := Nat.le_trans Z0 (Nat.le_of_eq W116.size.symm)
 replace K0 := K0.wr W116 (Or.inr sz_b2)
 replace V_b2 : Arv Z h116 b2 k2 .int (9 : Int32) [(.int p1), (.int p2), (.int p3), (.int ta), (.int (0 : Int32)), (.int (0 : Int32)), (.int (0 : Int32)), (.int (0 : Int32)), (.int (0 : Int32))] (.int (0 : Int32)) := Arv.set Ar115 qq115 Sz115 Ng115 Hs115 Gs115 rfl W116 3 rfl (Nat.le_of_ble_eq_true rfl)
 clear hin115 Gs115 Hs115 Ng115 Sz115 qq115 Ar115 cl115
 refine G (fun t k => XS.aload X116.here hx rfl (hb hby at_273) rfl rfl (XS.iconst X116.here hx rfl (hb hby at_275) (XS.iload X116.here hx rfl (hb hby at_276) rfl (XS.imul X116.here hx rfl (hb hby at_278) rfl (XS.iconst X116.here hx rfl (hb hby at_279) (XS.iadd X116.here hx rfl (hb hby at_280) rfl k)))))) ?_
 show Go _ _ _ (T116.setTop (mkF m 281 #[vi p1, vi p2, vi p3, vi p4, vi p5, vi p6, vi ka, vi sa, vi sb, vi sc, vi kb, vi ta, vi tb, vi tc, vr b2, vi 1, vi 0, vi 1, us, us, us, us, us, us] [(.int 4), (.ref b2)])) _
 refine G (fun t k => XS.iload X116.here hx rfl (hb hby at_281) rfl k) ?_
 obtain ⟨cl117, Ar117, qq117, Sz117, Ng117, Hs117, Gs117⟩ := id V_b2
 have hin117 : ¬ ((4 : Int32) < 0 ∨ cl117.slots.size ≤ ((4 : Int32)).toNatClampNeg) := inb_of Sz117 ⟨by decide, by decide⟩
 obtain ⟨T118, h118, X118, e118, W118, st118⟩ := stI X116 hx hZ e116 Ar117 (j := (4 : Int32)) hin117 (g := (mkF m 283 #[vi p1, vi p2, vi p3, vi p4, vi p5, vi p6, vi ka, vi sa, vi sb, vi sc, vi kb, vi ta, vi tb, vi tc, vr b2, vi 1, vi 0, vi 1, us, us, us, us, us, us] [(.int tb), (.int 4), (.ref b2)])) rfl rfl (hb hby at_283)
 refine G st118 ?_
 have N118 := Fr.snoc X118 N116 g_b2
 replace Z0 := Nat.le_trans Z0 (Nat.le_of_eq W118.size.symm)
 replace K0 := K0.wr W118 (Or.inr sz_b2)
 replace V_b2 : Arv Z h118 b2 k2 .int (9 : Int32) [(.int p1), (.int p2), (.int p3), (.int ta), (.int tb), (.int (0 : Int32)), (.int (0 : Int32)), (.int (0 : Int32)), (.int (0 : Int32))] (.int (0 : Int32)) := Arv.set Ar117 qq117 Sz117 Ng117 Hs117 Gs117 rfl W118 4 rfl (Nat.le_of_ble_eq_true rfl)
 clear hin117 Gs117 Hs117 Ng117 Sz117 qq117 Ar117 cl117
 refine G (fun t k => XS.aload X118.here hx rfl (hb hby at_284) rfl rfl (XS.iconst X118.here hx rfl (hb hby at_286) (XS.iload X118.here hx rfl (hb hby at_287) rfl (XS.imul X118.here hx rfl (hb hby at_289) rfl (XS.iconst X118.here hx rfl (hb hby at_290) k))))) ?_
 show Go _ _ _ (T118.setTop (mkF m 291 #[vi p1, vi p2, vi p3, vi p4, vi p5, vi p6, vi ka, vi sa, vi sb, vi sc, vi kb, vi ta, vi tb, vi tc, vr b2, vi 1, vi 0, vi 1, us, us, us, us, us, us] [(.int 2), (.int 3), (.ref b2)])) _
 refine G (fun t k => XS.iadd X118.here hx rfl (hb hby at_291) rfl (XS.iload X118.here hx rfl (hb hby at_292) rfl k)) ?_
 obtain ⟨cl119, Ar119, qq119, Sz119, Ng119, Hs119, Gs119⟩ := id V_b2
 have hin119 : ¬ ((5 : Int32) < 0 ∨ cl119.slots.size ≤ ((5 : Int32)).toNatClampNeg) := inb_of Sz119 ⟨by decide, by decide⟩
 obtain ⟨T120, h120, X120, e120, W120, st120⟩ := stI X118 hx hZ e118 Ar119 (j := (5 : Int32)) hin119 (g := (mkF m 294 #[vi p1, vi p2, vi p3, vi p4, vi p5, vi p6, vi ka, vi sa, vi sb, vi sc, vi kb, vi ta, vi tb, vi tc, vr b2, vi 1, vi 0, vi 1, us, us, us, us, us, us] [(.int tc), (.int 5), (.ref b2)])) rfl rfl (hb hby at_294)
 refine G st120 ?_
 have N120 := Fr.snoc X120 N118 g_b2
 replace Z0 := Nat.le_trans Z0 (Nat.le_of_eq W120.size.symm)
 replace K0 := K0.wr W120 (Or.inr sz_b2)
 replace V_b2 : Arv Z h120 b2 k2 .int (9 : Int32) [(.int p1), (.int p2), (.int p3), (.int ta), (.int tb), (.int tc), (.int (0 : Int32)), (.int (0 : Int32)), (.int (0 : Int32))] (.int (0 : Int32)) := Arv.set Ar119 qq119 Sz119 Ng119 Hs119 Gs119 rfl W120 5 rfl (Nat.le_of_ble_eq_true rfl)
 clear hin119 Gs119 Hs119 Ng119 Sz119 qq119 Ar119 cl119
 refine G (fun t k => XS.iload X120.here hx rfl (hb hby at_295) rfl (XS.iconst X120.here hx rfl (hb hby at_297) (XS.iadd X120.here hx rfl (hb hby at_298) rfl (XS.istore X120.here hx rfl (hb hby at_299) rfl (l' := #[vi p1, vi p2, vi p3, vi p4, vi p5, vi p6, vi ka, vi sa, vi sb, vi sc, vi kb, vi ta, vi tb, vi tc, vr b2, vi 2, vi 0, vi 1, us, us, us, us, us, us]) rfl k)))) ?_
 show Go _ _ _ (T120.setTop (mkF m 301 #[vi p1, vi p2, vi p3, vi p4, vi p5, vi p6, vi ka, vi sa, vi sb, vi sc, vi kb, vi ta, vi tb, vi tc, vr b2, vi 2, vi 0, vi 1, us, us, us, us, us, us] [])) _
 obtain ⟨T121, h121, X121, e121, E121, A121, D121, -, st121⟩ := newO X120 hx hZ hown (wd1 hw) (wd2 hw) (wd3 hw) e120 (g := (mkF m 301 #[vi p1, vi p2, vi p3, vi p4, vi p5, vi p6, vi ka, vi sa, vi sb, vi sc, vi kb, vi ta, vi tb, vi tc, vr b2, vi 2, vi 0, vi 1, us, us, us, us, us, us] [])) rfl (hb hby at_301) (by decide) (by decide)
 obtain ⟨b121, g121⟩ : ∃ z, z = h120.size := ⟨_, rfl⟩
 rw [← g121] at A121 D121 st121
 refine G st121 ?_
 have ne_b2_b121 : b2 ≠ b121 := Nat.ne_of_lt (Nat.lt_of_lt_of_le V_b2.lt (Nat.le_of_eq g121.symm))
 have g_b121 : n0 ≤ b121 := Nat.le_trans Z0 (Nat.le_of_eq g121.symm)
 have sz_b121 : h0.size ≤ b121 := Nat.le_trans K0.1 (Nat.le_of_eq g121.symm)
 replace V_b2 := V_b2.ext E121
 replace K0 := K0.ext E121
 replace Z0 := Nat.le_trans Z0 E121.1
 have E_b121 := A121
 have F_b121_terms : Fld Z h121 b121 TC "terms" "[I" .null := D121 (Or.inl (wd11 hw)) (ty := (.array .int)) (by decide)
 have F_b121_slots : Fld Z h121 b121 TC "slots" "[I" .null := D121 (Or.inl (wd13 hw)) (ty := (.array .int)) (by decide)
 have F_b121_size : Fld Z h121 b121 TC "size" "I" (.int (0 : Int32)) := D121 (Or.inl (wd26 hw)) (ty := .int) (by decide)
 refine G (fun t k => XS.dup X121.here hx rfl (hb hby at_304) rfl rfl k) ?_
 obtain ⟨_, _, ⟨T122, L122, k122, n122⟩, -, X122, ⟨Lc122, hQ122, l122, y122, z122⟩, st122⟩ := X121.specialBack hx (y := (⟨TC, "<init>", "()V"⟩ : MethodName)) rfl hown (mvT hZ (wd4 hw)) (mvT hZ (wd5 hw)) (mvT hZ (wd6 hw)) (by decide) (backOf (W := 1) (rm1 l Z a0 hw [] b121 (.null : Value) (.null : Value) h121 n0 Z0 E_b121 F_b121_size F_b121_terms F_b121_slots g_b121) hZ (wd6 hw) (wd3 hw) (by decide) (by decide)) (g := (mkF m 305 #[vi p1, vi p2, vi p3, vi p4, vi p5, vi p6, vi ka, vi sa, vi sb, vi sc, vi kb, vi ta, vi tb, vi tc, vr b2, vi 2, vi 0, vi 1, us, us, us, us, us, us] [(.ref b121), (.ref b121)])) rfl (by rw [hml]; rfl) (Steps.refl _) (a := b121) (argsL := []) (rest := [(.ref b121)]) (lenOf pd1 rfl) rfl (by show 2 * 0 + _ ≤ _; exact Nat.le_of_eq rfl) (hb hby at_305) (fun _ _ => ⟨rfl, e121, (by decide : 2 + 2 ≤ _), (by decide : 12 + 320 ≤ _)⟩)
 dsimp only [Pt.U, Pt.locs, Pt.cells, Pt.slots] at X122 l122 y122 z122 st122 hQ122
 subst l122 y122 z122
 have E_b121_pre := E_b121
 have F_b121_terms_pre := F_b121_terms
 have F_b121_slots_pre := F_b121_slots
 have F_b121_size_pre := F_b121_size
 obtain ⟨h122, e122⟩ : ∃ z, T122.heap = z := ⟨_, rfl⟩
 rw [e122] at hQ122
 obtain ⟨y122, y122a, k_y122, k_y122a, rfl, N122q, K122, ng_y122, sz0_y122, ng_y122a, sz0_y122a, nef_y122_y122a, Q122_0, Q122_1, Q122_2, Q122_3, Q122_4, Q122_5⟩ := hQ122
 refine Go.tr st122 ?_
 have ne_b2_y122 : b2 ≠ y122 := Nat.ne_of_lt (Nat.lt_of_lt_of_le V_b2.lt sz0_y122)
 have ne_b121_y122 : b121 ≠ y122 := Nat.ne_of_lt (Nat.lt_of_lt_of_le E_b121.lt sz0_y122)
 have g_y122 : n0 ≤ y122 := ng_y122
 have sz_y122 : h0.size ≤ y122 := Nat.le_trans K0.1 sz0_y122
 have ne_b2_y122a : b2 ≠ y122a := Nat.ne_of_lt (Nat.lt_of_lt_of_le V_b2.lt sz0_y122a)
 have ne_b121_y122a : b121 ≠ y122a := Nat.ne_of_lt (Nat.lt_of_lt_of_le E_b121.lt sz0_y122a)
 have g_y122a : n0 ≤ y122a := ng_y122a
 have sz_y122a : h0.size ≤ y122a := Nat.le_trans K0.1 sz0_y122a
 replace V_b2 := V_b2.keep K122 (ninS ne_b2_b121 nin0)
 replace E_b121 := E_b121.keep K122
 replace Z0 := Nat.le_trans Z0 K122.1
 replace K0 := K0.trans K122 (allS (Or.inr sz_b121) all0)
 clear E_b121_pre F_b121_terms_pre F_b121_slots_pre F_b121_size_pre
 have E_b121 := Q122_0
 have F_b121_size := Q122_1
 have F_b121_terms := Q122_2
 have F_b121_slots := Q122_3
 have V_y122 := Q122_4
 have V_y122a := Q122_5
 have N122 := Fr.app N120 N122q
 obtain ⟨LL122, X122, N122⟩ : ∃ LL, Stand p l e room_1 s m #[(.int p1), (.int p2), (.int p3), (.int p4), (.int p5), (.int p6)] below meth c T122 LL 4 332 ∧ Fr n0 LL := ⟨_, X122, N122⟩
 refine G (fun t k => XS.astore X122.here hx rfl (hb hby at_308) rfl rfl (l' := #[vi p1, vi p2, vi p3, vi p4, vi p5, vi p6, vi ka, vi sa, vi sb, vi sc, vi kb, vi ta, vi tb, vi tc, vr b2, vi 2, vi 0, vi 1, vr b121, us, us, us, us, us]) rfl (XS.aload X122.here hx rfl (hb hby at_310) rfl rfl (XS.iloadN X122.here hx rfl (hb hby at_312) rfl (XS.iloadN X122.here hx rfl (hb hby at_313) rfl k)))) ?_
 show Go _ _ _ (T122.setTop (mkF m 314 #[vi p1, vi p2, vi p3, vi p4, vi p5, vi p6, vi ka, vi sa, vi sb, vi sc, vi kb, vi ta, vi tb, vi tc, vr b2, vi 2, vi 0, vi 1, vr b121, us, us, us, us, us] [(.int p2), (.int p1), (.ref b121)])) _
 refine G (fun t k => XS.iloadN X122.here hx rfl (hb hby at_314) rfl k) ?_
 obtain ⟨cq123, kq123, q123a, q123b, q123c⟩ := isOf hZ e122 E_b121
 obtain ⟨_, _, ⟨T123, L123, k123, n123⟩, -, X123, ⟨Lc123, hQ123, l123, y123, z123⟩, st123⟩ := X122.virtualBack hx (y := (⟨TC, "add", "(III)Z"⟩ : MethodName)) (z := (⟨TC, "add", "(III)Z"⟩ : MethodName)) hown (mvT hZ (wd14 hw)) (mvT hZ (wd15 hw)) (notFace_of_selects (args := #[]) (mvT hZ (wd17 hw))) (mvT hZ (wd17 hw)) (mvT hZ (wd16 hw)) (by decide) (backOf (W := 0) (rm3n0 l Z a0 hw [] b121 p1 p2 p3 y122 y122a k_y122 k_y122a h122 n0 Z0 E_b121 F_b121_size F_b121_terms F_b121_slots V_y122 V_y122a (Ne.symm ne_b121_y122) (Ne.symm ne_b121_y122a) nef_y122_y122a g_y122 g_b121 g_y122a) hZ (wd18 hw) (wd3 hw) (by decide) (by decide)) q123a q123c (g := (mkF m 315 #[vi p1, vi p2, vi p3, vi p4, vi p5, vi p6, vi ka, vi sa, vi sb, vi sc, vi kb, vi ta, vi tb, vi tc, vr b2, vi 2, vi 0, vi 1, vr b121, us, us, us, us, us] [(.int p3), (.int p2), (.int p1), (.ref b121)])) rfl (by rw [hml]; rfl) (Steps.refl _) (argsL := [(.int p1), (.int p2), (.int p3)]) (rest := []) (lenOf pd2 rfl) rfl (by show 2 * 0 + _ ≤ _; exact Nat.le_of_eq rfl) (hb hby at_315) (fun _ _ => ⟨rfl, e122, (by decide : 4 + 0 ≤ _), (by decide : 332 + 0 ≤ _)⟩)
 dsimp only [Pt.U, Pt.locs, Pt.cells, Pt.slots] at X123 l123 y123 z123 st123 hQ123
 subst l123 y123 z123
 refine Go.tr st123 ?_
 have E_b121_pre := E_b121
 have F_b121_size_pre := F_b121_size
 have F_b121_terms_pre := F_b121_terms
 have F_b121_slots_pre := F_b121_slots
 have V_y122_pre := V_y122
 have V_y122a_pre := V_y122a
 obtain ⟨h123, e123⟩ : ∃ z, T123.heap = z := ⟨_, rfl⟩
 rw [e123] at hQ123
 obtain ⟨rfl, N123q, K123, Q123_0, Q123_1, Q123_2, Q123_3, Q123_4, Q123_5⟩ := hQ123
 replace V_b2 := V_b2.keep K123 (ninS ne_b2_y122 (ninS ne_b2_b121 (ninS ne_b2_y122a nin0)))
 replace E_b121 := E_b121.keep K123
 replace Z0 := Nat.le_trans Z0 K123.1
 replace K0 := K0.trans K123 (allS (Or.inr sz_y122) (allS (Or.inr sz_b121) (allS (Or.inr sz_y122a) all0)))
 clear E_b121_pre F_b121_size_pre F_b121_terms_pre F_b121_slots_pre V_y122_pre V_y122a_pre
 have E_b121 := Q123_0
 have F_b121_size := Q123_1
 have F_b121_terms := Q123_2
 have F_b121_slots := Q123_3
 have V_y122 := Q123_4
 have V_y122a := Q123_5
 have N123 := Fr.app N122 N123q
 refine G (fun t k => XS.istore X123.here hx rfl (hb hby at_318) rfl (l' := #[vi p1, vi p2, vi p3, vi p4, vi p5, vi p6, vi ka, vi sa, vi sb, vi sc, vi kb, vi ta, vi tb, vi tc, vr b2, vi 2, vi 0, vi 1, vr b121, vi 1, us, us, us, us]) rfl (XS.aload X123.here hx rfl (hb hby at_320) rfl rfl (XS.iload X123.here hx rfl (hb hby at_322) rfl (XS.iload X123.here hx rfl (hb hby at_324) rfl (XS.iload X123.here hx rfl (hb hby at_326) rfl k))))) ?_
 show Go _ _ _ (T123.setTop (mkF m 328 #[vi p1, vi p2, vi p3, vi p4, vi p5, vi p6, vi ka, vi sa, vi sb, vi sc, vi kb, vi ta, vi tb, vi tc, vr b2, vi 2, vi 0, vi 1, vr b121, vi 1, us, us, us, us] [(.int sc), (.int sb), (.int sa), (.ref b121)])) _
 obtain ⟨cq124, kq124, q124a, q124b, q124c⟩ := isOf hZ e123 E_b121
 obtain ⟨_, _, ⟨T124, L124, k124, n124⟩, -, X124, ⟨Lc124, hQ124, l124, y124, z124⟩, st124⟩ := X123.virtualBack hx (y := (⟨TC, "add", "(III)Z"⟩ : MethodName)) (z := (⟨TC, "add", "(III)Z"⟩ : MethodName)) hown (mvT hZ (wd14 hw)) (mvT hZ (wd15 hw)) (notFace_of_selects (args := #[]) (mvT hZ (wd17 hw))) (mvT hZ (wd17 hw)) (mvT hZ (wd16 hw)) (by decide) (backOf (W := 0) (rm3d11 l Z a0 hw [] b121 sa sb sc y122 y122a k_y122 k_y122a p1 p2 p3 ((f4 p1 p2 p3) &&& (127 : Int32)) h123 n0 Z0 E_b121 F_b121_size F_b121_terms F_b121_slots V_y122 V_y122a (Ne.symm ne_b121_y122) (Ne.symm ne_b121_y122a) nef_y122_y122a ⟨hc110.symm, hc111.symm, hc112.symm⟩ (by rw [hc110, hc111, hc112])) hZ (wd18 hw) (wd3 hw) (by decide) (by decide)) q124a q124c (g := (mkF m 328 #[vi p1, vi p2, vi p3, vi p4, vi p5, vi p6, vi ka, vi sa, vi sb, vi sc, vi kb, vi ta, vi tb, vi tc, vr b2, vi 2, vi 0, vi 1, vr b121, vi 1, us, us, us, us] [(.int sc), (.int sb), (.int sa), (.ref b121)])) rfl (by rw [hml]; rfl) (Steps.refl _) (argsL := [(.int sa), (.int sb), (.int sc)]) (rest := []) (lenOf pd2 rfl) rfl (by show 2 * 0 + _ ≤ _; exact Nat.le_of_eq rfl) (hb hby at_328) (fun _ _ => ⟨rfl, e123, (by decide : 4 + 0 ≤ _), (by decide : 332 + 0 ≤ _)⟩)
 dsimp only [Pt.U, Pt.locs, Pt.cells, Pt.slots] at X124 l124 y124 z124 st124 hQ124
 subst l124 y124 z124
 refine Go.tr st124 ?_
 obtain ⟨rfl, N124q, e124⟩ := hQ124
 have N124 := Fr.app N123 N124q
 refine G (fun t k => XS.istore X124.here hx rfl (hb hby at_331) rfl (l' := #[vi p1, vi p2, vi p3, vi p4, vi p5, vi p6, vi ka, vi sa, vi sb, vi sc, vi kb, vi ta, vi tb, vi tc, vr b2, vi 2, vi 0, vi 1, vr b121, vi 1, vi 0, us, us, us]) rfl (XS.aload X124.here hx rfl (hb hby at_333) rfl rfl (XS.iload X124.here hx rfl (hb hby at_335) rfl (XS.iload X124.here hx rfl (hb hby at_337) rfl (XS.iload X124.here hx rfl (hb hby at_339) rfl k))))) ?_
 obtain ⟨cq125, kq125, q125a, q125b, q125c⟩ := isOf hZ e124 E_b121
 obtain ⟨_, _, ⟨T125, L125, k125, n125⟩, -, X125, ⟨Lc125, hQ125, l125, y125, z125⟩, st125⟩ := X124.virtualBack hx (y := (⟨TC, "add", "(III)Z"⟩ : MethodName)) (z := (⟨TC, "add", "(III)Z"⟩ : MethodName)) hown (mvT hZ (wd14 hw)) (mvT hZ (wd15 hw)) (notFace_of_selects (args := #[]) (mvT hZ (wd17 hw))) (mvT hZ (wd17 hw)) (mvT hZ (wd16 hw)) (by decide) (backOf (W := 0) (rm3n1 l Z a0 hw [] b121 ta tb tc y122 y122a k_y122 k_y122a p1 p2 p3 ((f4 p1 p2 p3) &&& (127 : Int32)) h123 n0 Z0 E_b121 F_b121_size F_b121_terms F_b121_slots V_y122 V_y122a (Ne.symm ne_b121_y122) (Ne.symm ne_b121_y122a) nef_y122_y122a (fun z => hna ⟨z.1.symm, z.2.1.symm, z.2.2.symm⟩) g_y122 g_b121 g_y122a) hZ (wd18 hw) (wd3 hw) (by decide) (by decide)) q125a q125c (g := (mkF m 341 #[vi p1, vi p2, vi p3, vi p4, vi p5, vi p6, vi ka, vi sa, vi sb, vi sc, vi kb, vi ta, vi tb, vi tc, vr b2, vi 2, vi 0, vi 1, vr b121, vi 1, vi 0, us, us, us] [(.int tc), (.int tb), (.int ta), (.ref b121)])) rfl (by rw [hml]; rfl) (Steps.refl _) (argsL := [(.int ta), (.int tb), (.int tc)]) (rest := []) (lenOf pd2 rfl) rfl (by show 2 * 0 + _ ≤ _; exact Nat.le_of_eq rfl) (hb hby at_341) (fun _ _ => ⟨rfl, e124, (by decide : 4 + 0 ≤ _), (by decide : 332 + 0 ≤ _)⟩)
 dsimp only [Pt.U, Pt.locs, Pt.cells, Pt.slots] at X125 l125 y125 z125 st125 hQ125
 subst l125 y125 z125
 refine Go.tr st125 ?_
 have E_b121_pre := E_b121
 have F_b121_size_pre := F_b121_size
 have F_b121_terms_pre := F_b121_terms
 have F_b121_slots_pre := F_b121_slots
 have V_y122_pre := V_y122
 have V_y122a_pre := V_y122a
 obtain ⟨h125, e125⟩ : ∃ z, T125.heap = z := ⟨_, rfl⟩
 rw [e125] at hQ125
 obtain ⟨rfl, N125q, K125, Q125_0, Q125_1, Q125_2, Q125_3, Q125_4, Q125_5⟩ := hQ125
 replace V_b2 := V_b2.keep K125 (ninS ne_b2_y122 (ninS ne_b2_b121 (ninS ne_b2_y122a nin0)))
 replace E_b121 := E_b121.keep K125
 replace Z0 := Nat.le_trans Z0 K125.1
 replace K0 := K0.trans K125 (allS (Or.inr sz_y122) (allS (Or.inr sz_b121) (allS (Or.inr sz_y122a) all0)))
 clear E_b121_pre F_b121_size_pre F_b121_terms_pre F_b121_slots_pre V_y122_pre V_y122a_pre
 have E_b121 := Q125_0
 have F_b121_size := Q125_1
 have F_b121_terms := Q125_2
 have F_b121_slots := Q125_3
 have V_y122 := Q125_4
 have V_y122a := Q125_5
 have N125 := Fr.app N124 N125q
 show Go _ _ _ (T125.setTop (mkF m 344 #[vi p1, vi p2, vi p3, vi p4, vi p5, vi p6, vi ka, vi sa, vi sb, vi sc, vi kb, vi ta, vi tb, vi tc, vr b2, vi 2, vi 0, vi 1, vr b121, vi 1, vi 0, us, us, us] [(.int 1)])) _
 clear F_b121_slots V_y122a
 refine G (fun t k => XS.istore X125.here hx rfl (hb hby at_344) rfl (l' := #[vi p1, vi p2, vi p3, vi p4, vi p5, vi p6, vi ka, vi sa, vi sb, vi sc, vi kb, vi ta, vi tb, vi tc, vr b2, vi 2, vi 0, vi 1, vr b121, vi 1, vi 0, vi 1, us, us]) rfl (XS.aload X125.here hx rfl (hb hby at_346) rfl rfl k)) ?_
 obtain ⟨cq126, kq126, q126a, q126b, q126c⟩ := isOf hZ e125 E_b121
 obtain ⟨_, _, ⟨T126, L126, k126, n126⟩, -, X126, ⟨Lc126, hQ126, l126, y126, z126⟩, st126⟩ := X125.virtualBack hx (y := (⟨TC, "size", "()I"⟩ : MethodName)) (z := (⟨TC, "size", "()I"⟩ : MethodName)) hown (mvT hZ (wd27 hw)) (mvT hZ (wd28 hw)) (notFace_of_selects (args := #[]) (mvT hZ (wd30 hw))) (mvT hZ (wd30 hw)) (mvT hZ (wd29 hw)) (by decide) (backOf (W := 0) (rm5 l Z a0 hw [] b121 (2 : Int32) h125 n0 Z0 F_b121_size) hZ (wd31 hw) (wd3 hw) (by decide) (by decide)) q126a q126c (g := (mkF m 348 #[vi p1, vi p2, vi p3, vi p4, vi p5, vi p6, vi ka, vi sa, vi sb, vi sc, vi kb, vi ta, vi tb, vi tc, vr b2, vi 2, vi 0, vi 1, vr b121, vi 1, vi 0, vi 1, us, us] [(.ref b121)])) rfl (by rw [hml]; rfl) (Steps.refl _) (argsL := []) (rest := []) (lenOf pd3 rfl) rfl (by show 2 * 0 + _ ≤ _; exact Nat.le_of_eq rfl) (hb hby at_348) (fun _ _ => ⟨rfl, e125, (by decide : 4 + 0 ≤ _), (by decide : 332 + 0 ≤ _)⟩)
 dsimp only [Pt.U, Pt.locs, Pt.cells, Pt.slots] at X126 l126 y126 z126 st126 hQ126
 subst l126 y126 z126
 refine Go.tr st126 ?_
 obtain ⟨rfl, N126q, e126⟩ := hQ126
 have N126 := Fr.app N125 N126q
 obtain ⟨LL126, X126, N126⟩ : ∃ LL, Stand p l e room_1 s m #[(.int p1), (.int p2), (.int p3), (.int p4), (.int p5), (.int p6)] below meth c T126 LL 4 332 ∧ Fr n0 LL := ⟨_, X126, N126⟩
 refine G (fun t k => XS.istore X126.here hx rfl (hb hby at_351) rfl (l' := #[vi p1, vi p2, vi p3, vi p4, vi p5, vi p6, vi ka, vi sa, vi sb, vi sc, vi kb, vi ta, vi tb, vi tc, vr b2, vi 2, vi 0, vi 1, vr b121, vi 1, vi 0, vi 1, vi 2, us]) rfl (XS.iload X126.here hx rfl (hb hby at_353) rfl (XS.iload X126.here hx rfl (hb hby at_355) rfl (XS.icmpYes X126.here hx rfl (pc0 := 357) (pc' := 362) rfl (hb hby at_357) rfl (teq (by decide : (2 : Int32) = (2 : Int32))).1 (by decide) (by decide) k)))) ?_
 show Go _ _ _ (T126.setTop (mkF m 362 #[vi p1, vi p2, vi p3, vi p4, vi p5, vi p6, vi ka, vi sa, vi sb, vi sc, vi kb, vi ta, vi tb, vi tc, vr b2, vi 2, vi 0, vi 1, vr b121, vi 1, vi 0, vi 1, vi 2, us] [])) _
 refine G (fun t k => XS.iload X126.here hx rfl (hb hby at_362) rfl (XS.ifNo X126.here hx rfl (hb hby at_364) rfl ((if0 _ _).trans (feq (by decide : ¬ ((1 : Int32) = (0 : Int32)))).1) (XS.iload X126.here hx rfl (hb hby at_367) rfl (XS.iload X126.here hx rfl (hb hby at_369) rfl (XS.icmpNo X126.here hx rfl (hb hby at_371) rfl (teq (by decide : (0 : Int32) = (0 : Int32))).2 (XS.iload X126.here hx rfl (hb hby at_374) rfl k)))))) ?_
 refine G (fun t k => XS.iload X126.here hx rfl (hb hby at_376) rfl k) ?_
 show Go _ _ _ (T126.setTop (mkF m 378 #[vi p1, vi p2, vi p3, vi p4, vi p5, vi p6, vi ka, vi sa, vi sb, vi sc, vi kb, vi ta, vi tb, vi tc, vr b2, vi 2, vi 0, vi 1, vr b121, vi 1, vi 0, vi 1, vi 2, us] [(.int 1), (.int 1)])) _
 refine G (fun t k => XS.icmpYes X126.here hx rfl (pc0 := 378) (pc' := 383) rfl (hb hby at_378) rfl (teq (by decide : (1 : Int32) = (1 : Int32))).1 (by decide) (by decide) (XS.iload X126.here hx rfl (hb hby at_383) rfl (XS.iconst X126.here hx rfl (hb hby at_385) (XS.iushr X126.here hx rfl (hb hby at_386) rfl (XS.iconst X126.here hx rfl (hb hby at_387) (XS.iand X126.here hx rfl (hb hby at_388) rfl k)))))) ?_
 refine G (fun t k => XS.iload X126.here hx rfl (hb hby at_389) rfl k) ?_
 show Go _ _ _ (T126.setTop (mkF m 391 #[vi p1, vi p2, vi p3, vi p4, vi p5, vi p6, vi ka, vi sa, vi sb, vi sc, vi kb, vi ta, vi tb, vi tc, vr b2, vi 2, vi 0, vi 1, vr b121, vi 1, vi 0, vi 1, vi 2, us] [(.int 2), (.int (((p6.toUInt32 >>> ((4 : Int32) &&& 31).toUInt32).toInt32) &&& (3 : Int32)))])) _
 refine G (fun t k => iremM X126 hx rfl (hb hby at_391) rfl (by decide) (XS.istore X126.here hx rfl (hb hby at_392) rfl (l' := #[vi p1, vi p2, vi p3, vi p4, vi p5, vi p6, vi ka, vi sa, vi sb, vi sc, vi kb, vi ta, vi tb, vi tc, vr b2, vi 2, vi 0, vi 1, vr b121, vi 1, vi 0, vi 1, vi 2, vi ((((p6.toUInt32 >>> ((4 : Int32) &&& 31).toUInt32).toInt32) &&& (3 : Int32)) % (2 : Int32))]) rfl k)) ?_
 show Go _ _ _ (T126.setTop (mkF m 394 #[vi p1, vi p2, vi p3, vi p4, vi p5, vi p6, vi ka, vi sa, vi sb, vi sc, vi kb, vi ta, vi tb, vi tc, vr b2, vi 2, vi 0, vi 1, vr b121, vi 1, vi 0, vi 1, vi 2, vi ((((p6.toUInt32 >>> ((4 : Int32) &&& 31).toUInt32).toInt32) &&& (3 : Int32)) % (2 : Int32))] [])) _
 by_cases hc127 : ((((p6.toUInt32 >>> ((4 : Int32) &&& 31).toUInt32).toInt32) &&& (3 : Int32)) % (2 : Int32)) = (0 : Int32)
 ·rw [hc127]
  show Go _ _ _ (T126.setTop (mkF m 394 #[vi p1, vi p2, vi p3, vi p4, vi p5, vi p6, vi ka, vi sa, vi sb, vi sc, vi kb, vi ta, vi tb, vi tc, vr b2, vi 2, vi 0, vi 1, vr b121, vi 1, vi 0, vi 1, vi 2, vi 0] [])) _
  exact TJ0_128 l Z a0 hw ws p1 p2 p3 p4 p5 p6 h0 n0 Bd hml0 hZ X126 e126 N126 K0 Z0 V_b2 E_b121 F_b121_size F_b121_terms V_y122
 ·rw [own_j2 ((p6.toUInt32 >>> ((4 : Int32) &&& 31).toUInt32).toInt32) hc127]
  show Go _ _ _ (T126.setTop (mkF m 394 #[vi p1, vi p2, vi p3, vi p4, vi p5, vi p6, vi ka, vi sa, vi sb, vi sc, vi kb, vi ta, vi tb, vi tc, vr b2, vi 2, vi 0, vi 1, vr b121, vi 1, vi 0, vi 1, vi 2, vi 1] [])) _
  exact TJ0_135 l Z a0 hw ws p1 p2 p3 p4 p5 p6 h0 n0 Bd hml0 hZ X126 e126 N126 K0 Z0 V_b2 E_b121 F_b121_size F_b121_terms V_y122
theorem TJ0_152 (l : Launch) (Z : State) (a0 : Array Value) (hw : HW a0 Z) (ws : List Jvm.Cond) (p1 : Int32) (p2 : Int32) (p3 : Int32) (p4 : Int32) (p5 : Int32) (p6 : Int32) (h0 : Heap) (n0 : Nat) {p : Program} {e : Env} {s : State} {m : MethodId} {below : List Frame} {meth : Method} {c : Code} {s₁ : State} (Bd : BodyLoose p l x (head1 (Jvm.Cond.code x code maxLocals ret :: ws) room_1) code maxLocals ret e s m #[(.int p1), (.int p2), (.int p3), (.int p4), (.int p5), (.int p6)] below meth c s₁) (hml0 : c.maxLocals = maxLocals) (hZ : Z.Warmed39 s.vm) {TJ : State} {locsJ : List Loc} {hJ : Heap} {b146 : Addr} {b2 : Addr} {y147 : Addr} {k2 : ClassId} {k_y147 : ClassId} {sa : Int32} {sb : Int32} {sc : Int32} {ta : Int32} {tb : Int32} {tc : Int32} {ka : Int32} {kb : Int32} (XJ : Stand p l e room_1 s m #[(.int p1), (.int p2), (.int p3), (.int p4), (.int p5), (.int p6)] below meth c TJ locsJ 4 332) (eJ : TJ.heap = hJ) (NJ : Fr n0 locsJ) (K0 : Keep h0 hJ []) (Z0 : n0 ≤ hJ.size) (V_b2 : Arv Z hJ b2 k2 .int (9 : Int32) [(.int p1), (.int p2), (.int p3), (.int (0 : Int32)), (.int (0 : Int32)), (.int (0 : Int32)), (.int (0 : Int32)), (.int (0 : Int32)), (.int (0 : Int32))] (.int (0 : Int32))) (E_b146 : Exa Z hJ b146 TC) (F_b146_size : Fld Z hJ b146 TC "size" "I" (.int (1 : Int32))) (F_b146_terms : Fld Z hJ b146 TC "terms" "[I" (.ref y147)) (V_y147 : Arv Z hJ y147 k_y147 .int (192 : Int32) [(.int p1), (.int p2), (.int p3)] (.int (0 : Int32))) :
  Go p.tables e below (TJ.setTop (mkF m 394 #[vi p1, vi p2, vi p3, vi p4, vi p5, vi p6, vi ka, vi sa, vi sb, vi sc, vi kb, vi ta, vi tb, vi tc, vr b2, vi 1, vi 0, vi 0, vr b146, vi 1, vi 0, vi 0, vi 1, vi 0] [])) (fun o U' => ∃ v L, o = .returned v ∧ Q0 Z p1 p2 p3 p4 p5 p6 h0 n0 v U'.heap L ∧ FrameEnd s o U' L 16 768) := by
 have hx := Bd.exec
 have hby := Bd.bytes
 have hml : c.maxLocals = 24 := hml0
 have hown : s.vm.findClass "com/example/tripletype/tripletype/TripleTableAddPinLaw" = some m.cls := findClass_of_methodNamed Bd.named
 have hnm := (name_of_methodNamed Bd.named Bd.method).1
 refine G (fun t k => XS.aload XJ.here hx rfl (hb hby at_394) rfl rfl (XS.iload XJ.here hx rfl (hb hby at_396) rfl k)) ?_
 obtain ⟨cq153, kq153, q153a, q153b, q153c⟩ := isOf hZ eJ E_b146
 obtain ⟨_, _, ⟨T153, L153, k153, n153⟩, -, X153, ⟨Lc153, hQ153, l153, y153, z153⟩, st153⟩ := XJ.virtualBack hx (y := (⟨TC, "subject", "(I)I"⟩ : MethodName)) (z := (⟨TC, "subject", "(I)I"⟩ : MethodName)) hown (mvT hZ (wd32 hw)) (mvT hZ (wd33 hw)) (notFace_of_selects (args := #[]) (mvT hZ (wd35 hw))) (mvT hZ (wd35 hw)) (mvT hZ (wd34 hw)) (by decide) (backOf (W := 0) (rm6 l Z a0 hw [] b146 (0 : Int32) y147 k_y147 [(.int p1), (.int p2), (.int p3)] p1 hJ n0 Z0 F_b146_terms V_y147 (by decide) rfl) hZ (wd36 hw) (wd3 hw) (by decide) (by decide)) q153a q153c (g := (mkF m 398 #[vi p1, vi p2, vi p3, vi p4, vi p5, vi p6, vi ka, vi sa, vi sb, vi sc, vi kb, vi ta, vi tb, vi tc, vr b2, vi 1, vi 0, vi 0, vr b146, vi 1, vi 0, vi 0, vi 1, vi 0] [(.int 0), (.ref b146)])) rfl (by rw [hml]; rfl) (Steps.refl _) (argsL := [(.int (0 : Int32))]) (rest := []) (lenOf pd4 rfl) rfl (by show 2 * 0 + _ ≤ _; exact Nat.le_of_eq rfl) (hb hby at_398) (fun _ _ => ⟨rfl, eJ, (by decide : 4 + 0 ≤ _), (by decide : 332 + 0 ≤ _)⟩)
 dsimp only [Pt.U, Pt.locs, Pt.cells, Pt.slots] at X153 l153 y153 z153 st153 hQ153
 subst l153 y153 z153
 refine Go.tr st153 ?_
 obtain ⟨rfl, N153q, e153⟩ := hQ153
 have N153 := Fr.app NJ N153q
 refine G (fun t k => XS.aload X153.here hx rfl (hb hby at_401) rfl rfl (XS.iconst X153.here hx rfl (hb hby at_403) (XS.iload X153.here hx rfl (hb hby at_404) rfl (XS.imul X153.here hx rfl (hb hby at_406) rfl k)))) ?_
 show Go _ _ _ (T153.setTop (mkF m 407 #[vi p1, vi p2, vi p3, vi p4, vi p5, vi p6, vi ka, vi sa, vi sb, vi sc, vi kb, vi ta, vi tb, vi tc, vr b2, vi 1, vi 0, vi 0, vr b146, vi 1, vi 0, vi 0, vi 1, vi 0] [(.int 0), (.ref b2), (.int p1)])) _
 obtain ⟨cl154, Ar154, -, Sz154, Ng154, Hs154, -⟩ := id V_b2
 have hin154 : ¬ ((0 : Int32) < 0 ∨ cl154.slots.size ≤ ((0 : Int32)).toNatClampNeg) := inb_of Sz154 ⟨by decide, by decide⟩
 refine G (fun t k => X153.iaload hx (j := (0 : Int32)) (v := (.int p1)) (by rw [e153]; exact Ar154.1) (State.isArrayOf_alike hZ.alike Ar154.2.1) Ar154.2.2 hin154 (Has.at Hs154 hin154 rfl) (g := (mkF m 407 #[vi p1, vi p2, vi p3, vi p4, vi p5, vi p6, vi ka, vi sa, vi sb, vi sc, vi kb, vi ta, vi tb, vi tc, vr b2, vi 1, vi 0, vi 0, vr b146, vi 1, vi 0, vi 0, vi 1, vi 0] [(.int 0), (.ref b2), (.int p1)])) rfl rfl (hb hby at_407) _ k) ?_
 clear hin154 Hs154 Ng154 Sz154 Ar154 cl154
 refine G (fun t k => XS.icmpNo X153.here hx rfl (hb hby at_408) rfl (teq (rfl : p1 = p1)).2 (XS.aload X153.here hx rfl (hb hby at_411) rfl rfl (XS.iload X153.here hx rfl (hb hby at_413) rfl k))) ?_
 obtain ⟨cq155, kq155, q155a, q155b, q155c⟩ := isOf hZ e153 E_b146
 obtain ⟨_, _, ⟨T155, L155, k155, n155⟩, -, X155, ⟨Lc155, hQ155, l155, y155, z155⟩, st155⟩ := X153.virtualBack hx (y := (⟨TC, "predicate", "(I)I"⟩ : MethodName)) (z := (⟨TC, "predicate", "(I)I"⟩ : MethodName)) hown (mvT hZ (wd37 hw)) (mvT hZ (wd38 hw)) (notFace_of_selects (args := #[]) (mvT hZ (wd40 hw))) (mvT hZ (wd40 hw)) (mvT hZ (wd39 hw)) (by decide) (backOf (W := 0) (rm7 l Z a0 hw [] b146 (0 : Int32) y147 k_y147 [(.int p1), (.int p2), (.int p3)] p2 hJ n0 Z0 F_b146_terms V_y147 (by decide) rfl) hZ (wd41 hw) (wd3 hw) (by decide) (by decide)) q155a q155c (g := (mkF m 415 #[vi p1, vi p2, vi p3, vi p4, vi p5, vi p6, vi ka, vi sa, vi sb, vi sc, vi kb, vi ta, vi tb, vi tc, vr b2, vi 1, vi 0, vi 0, vr b146, vi 1, vi 0, vi 0, vi 1, vi 0] [(.int 0), (.ref b146)])) rfl (by rw [hml]; rfl) (Steps.refl _) (argsL := [(.int (0 : Int32))]) (rest := []) (lenOf pd4 rfl) rfl (by show 2 * 0 + _ ≤ _; exact Nat.le_of_eq rfl) (hb hby at_415) (fun _ _ => ⟨rfl, e153, (by decide : 4 + 0 ≤ _), (by decide : 332 + 0 ≤ _)⟩)
 dsimp only [Pt.U, Pt.locs, Pt.cells, Pt.slots] at X155 l155 y155 z155 st155 hQ155
 subst l155 y155 z155
 refine Go.tr st155 ?_
 obtain ⟨rfl, N155q, e155⟩ := hQ155
 have N155 := Fr.app N153 N155q
 refine G (fun t k => XS.aload X155.here hx rfl (hb hby at_418) rfl rfl (XS.iconst X155.here hx rfl (hb hby at_420) k)) ?_
 show Go _ _ _ (T155.setTop (mkF m 421 #[vi p1, vi p2, vi p3, vi p4, vi p5, vi p6, vi ka, vi sa, vi sb, vi sc, vi kb, vi ta, vi tb, vi tc, vr b2, vi 1, vi 0, vi 0, vr b146, vi 1, vi 0, vi 0, vi 1, vi 0] [(.int 3), (.ref b2), (.int p2)])) _
 refine G (fun t k => XS.iload X155.here hx rfl (hb hby at_421) rfl (XS.imul X155.here hx rfl (hb hby at_423) rfl (XS.iconst X155.here hx rfl (hb hby at_424) (XS.iadd X155.here hx rfl (hb hby at_425) rfl k)))) ?_
 obtain ⟨cl156, Ar156, -, Sz156, Ng156, Hs156, -⟩ := id V_b2
 have hin156 : ¬ ((1 : Int32) < 0 ∨ cl156.slots.size ≤ ((1 : Int32)).toNatClampNeg) := inb_of Sz156 ⟨by decide, by decide⟩
 refine G (fun t k => X155.iaload hx (j := (1 : Int32)) (v := (.int p2)) (by rw [e155]; exact Ar156.1) (State.isArrayOf_alike hZ.alike Ar156.2.1) Ar156.2.2 hin156 (Has.at Hs156 hin156 rfl) (g := (mkF m 426 #[vi p1, vi p2, vi p3, vi p4, vi p5, vi p6, vi ka, vi sa, vi sb, vi sc, vi kb, vi ta, vi tb, vi tc, vr b2, vi 1, vi 0, vi 0, vr b146, vi 1, vi 0, vi 0, vi 1, vi 0] [(.int 1), (.ref b2), (.int p2)])) rfl rfl (hb hby at_426) _ k) ?_
 clear hin156 Hs156 Ng156 Sz156 Ar156 cl156
 refine G (fun t k => XS.icmpNo X155.here hx rfl (hb hby at_427) rfl (teq (rfl : p2 = p2)).2 (XS.aload X155.here hx rfl (hb hby at_430) rfl rfl k)) ?_
 show Go _ _ _ (T155.setTop (mkF m 432 #[vi p1, vi p2, vi p3, vi p4, vi p5, vi p6, vi ka, vi sa, vi sb, vi sc, vi kb, vi ta, vi tb, vi tc, vr b2, vi 1, vi 0, vi 0, vr b146, vi 1, vi 0, vi 0, vi 1, vi 0] [(.ref b146)])) _
 refine G (fun t k => XS.iload X155.here hx rfl (hb hby at_432) rfl k) ?_
 obtain ⟨cq157, kq157, q157a, q157b, q157c⟩ := isOf hZ e155 E_b146
 obtain ⟨_, _, ⟨T157, L157, k157, n157⟩, -, X157, ⟨Lc157, hQ157, l157, y157, z157⟩, st157⟩ := X155.virtualBack hx (y := (⟨TC, "object", "(I)I"⟩ : MethodName)) (z := (⟨TC, "object", "(I)I"⟩ : MethodName)) hown (mvT hZ (wd42 hw)) (mvT hZ (wd43 hw)) (notFace_of_selects (args := #[]) (mvT hZ (wd45 hw))) (mvT hZ (wd45 hw)) (mvT hZ (wd44 hw)) (by decide) (backOf (W := 0) (rm8 l Z a0 hw [] b146 (0 : Int32) y147 k_y147 [(.int p1), (.int p2), (.int p3)] p3 hJ n0 Z0 F_b146_terms V_y147 (by decide) rfl) hZ (wd46 hw) (wd3 hw) (by decide) (by decide)) q157a q157c (g := (mkF m 434 #[vi p1, vi p2, vi p3, vi p4, vi p5, vi p6, vi ka, vi sa, vi sb, vi sc, vi kb, vi ta, vi tb, vi tc, vr b2, vi 1, vi 0, vi 0, vr b146, vi 1, vi 0, vi 0, vi 1, vi 0] [(.int 0), (.ref b146)])) rfl (by rw [hml]; rfl) (Steps.refl _) (argsL := [(.int (0 : Int32))]) (rest := []) (lenOf pd4 rfl) rfl (by show 2 * 0 + _ ≤ _; exact Nat.le_of_eq rfl) (hb hby at_434) (fun _ _ => ⟨rfl, e155, (by decide : 4 + 0 ≤ _), (by decide : 332 + 0 ≤ _)⟩)
 dsimp only [Pt.U, Pt.locs, Pt.cells, Pt.slots] at X157 l157 y157 z157 st157 hQ157
 subst l157 y157 z157
 refine Go.tr st157 ?_
 obtain ⟨rfl, N157q, e157⟩ := hQ157
 have N157 := Fr.app N155 N157q
 refine G (fun t k => XS.aload X157.here hx rfl (hb hby at_437) rfl rfl (XS.iconst X157.here hx rfl (hb hby at_439) (XS.iload X157.here hx rfl (hb hby at_440) rfl (XS.imul X157.here hx rfl (hb hby at_442) rfl (XS.iconst X157.here hx rfl (hb hby at_443) k))))) ?_
 show Go _ _ _ (T157.setTop (mkF m 444 #[vi p1, vi p2, vi p3, vi p4, vi p5, vi p6, vi ka, vi sa, vi sb, vi sc, vi kb, vi ta, vi tb, vi tc, vr b2, vi 1, vi 0, vi 0, vr b146, vi 1, vi 0, vi 0, vi 1, vi 0] [(.int 2), (.int 0), (.ref b2), (.int p3)])) _
 refine G (fun t k => XS.iadd X157.here hx rfl (hb hby at_444) rfl k) ?_
 obtain ⟨cl158, Ar158, -, Sz158, Ng158, Hs158, -⟩ := id V_b2
 have hin158 : ¬ ((2 : Int32) < 0 ∨ cl158.slots.size ≤ ((2 : Int32)).toNatClampNeg) := inb_of Sz158 ⟨by decide, by decide⟩
 refine G (fun t k => X157.iaload hx (j := (2 : Int32)) (v := (.int p3)) (by rw [e157]; exact Ar158.1) (State.isArrayOf_alike hZ.alike Ar158.2.1) Ar158.2.2 hin158 (Has.at Hs158 hin158 rfl) (g := (mkF m 445 #[vi p1, vi p2, vi p3, vi p4, vi p5, vi p6, vi ka, vi sa, vi sb, vi sc, vi kb, vi ta, vi tb, vi tc, vr b2, vi 1, vi 0, vi 0, vr b146, vi 1, vi 0, vi 0, vi 1, vi 0] [(.int 2), (.ref b2), (.int p3)])) rfl rfl (hb hby at_445) _ k) ?_
 clear hin158 Hs158 Ng158 Sz158 Ar158 cl158
 refine G (fun t k => XS.icmpNo X157.here hx rfl (hb hby at_446) rfl (teq (rfl : p3 = p3)).2 (XS.iconst X157.here hx rfl (hb hby at_449) (XS.goto X157.here hx rfl (pc0 := 450) (pc' := 454) rfl (hb hby at_450) (by decide) (by decide) k))) ?_
 obtain ⟨fs, hr, hrun, hended, hW, hsame⟩ := X157.leave (v := some (.int (1 : Int32))) (fun h => by rw [Bd.returns] at h; cases h)
 refine Go.fin (retN X157 hx (t := .boolean) Bd.returns (by simp) (hb hby at_454) hr) hrun hended ⟨_, _, rfl, ?_, ⟨_, rfl⟩, hW, hsame.mono (by decide) (by decide)⟩
 show Q0 Z p1 p2 p3 p4 p5 p6 h0 n0 _ T157.heap _
 rw [e157]
 exact ⟨rfl, N157⟩
theorem TJ0_145 (l : Launch) (Z : State) (a0 : Array Value) (hw : HW a0 Z) (ws : List Jvm.Cond) (p1 : Int32) (p2 : Int32) (p3 : Int32) (p4 : Int32) (p5 : Int32) (p6 : Int32) (h0 : Heap) (n0 : Nat) {p : Program} {e : Env} {s : State} {m : MethodId} {below : List Frame} {meth : Method} {c : Code} {s₁ : State} (Bd : BodyLoose p l x (head1 (Jvm.Cond.code x code maxLocals ret :: ws) room_1) code maxLocals ret e s m #[(.int p1), (.int p2), (.int p3), (.int p4), (.int p5), (.int p6)] below meth c s₁) (hml0 : c.maxLocals = maxLocals) (hZ : Z.Warmed39 s.vm) {TJ : State} {locsJ : List Loc} {hJ : Heap} {b2 : Addr} {k2 : ClassId} {sa : Int32} {sb : Int32} {sc : Int32} {ta : Int32} {tb : Int32} {tc : Int32} {ka : Int32} {kb : Int32} (XJ : Stand p l e room_1 s m #[(.int p1), (.int p2), (.int p3), (.int p4), (.int p5), (.int p6)] below meth c TJ locsJ 1 9) (eJ : TJ.heap = hJ) (NJ : Fr n0 locsJ) (K0 : Keep h0 hJ []) (Z0 : n0 ≤ hJ.size) (V_b2 : Arv Z hJ b2 k2 .int (9 : Int32) [(.int p1), (.int p2), (.int p3), (.int (0 : Int32)), (.int (0 : Int32)), (.int (0 : Int32)), (.int (0 : Int32)), (.int (0 : Int32)), (.int (0 : Int32))] (.int (0 : Int32))) (hc110 : sa = p1) (hc111 : sb = p2) (hc112 : sc = p3) (hc142 : ta = p1) (hc143 : tb = p2) (hc144 : tc = p3) :
  Go p.tables e below (TJ.setTop (mkF m 259 #[vi p1, vi p2, vi p3, vi p4, vi p5, vi p6, vi ka, vi sa, vi sb, vi sc, vi kb, vi ta, vi tb, vi tc, vr b2, vi 1, vi 0, vi 0, us, us, us, us, us, us] [])) (fun o U' => ∃ v L, o = .returned v ∧ Q0 Z p1 p2 p3 p4 p5 p6 h0 n0 v U'.heap L ∧ FrameEnd s o U' L 16 768) := by
 have hx := Bd.exec
 have hby := Bd.bytes
 have hml : c.maxLocals = 24 := hml0
 have hown : s.vm.findClass "com/example/tripletype/tripletype/TripleTableAddPinLaw" = some m.cls := findClass_of_methodNamed Bd.named
 have hnm := (name_of_methodNamed Bd.named Bd.method).1
 refine G (fun t k => XS.iload XJ.here hx rfl (hb hby at_259) rfl (XS.ifYes XJ.here hx rfl (pc0 := 261) (pc' := 301) rfl (hb hby at_261) rfl ((if0 _ _).trans (teq (by decide : (0 : Int32) = (0 : Int32))).1) (by decide) (by decide) k)) ?_
 obtain ⟨T146, h146, X146, e146, E146, A146, D146, -, st146⟩ := newO XJ hx hZ hown (wd1 hw) (wd2 hw) (wd3 hw) eJ (g := (mkF m 301 #[vi p1, vi p2, vi p3, vi p4, vi p5, vi p6, vi ka, vi sa, vi sb, vi sc, vi kb, vi ta, vi tb, vi tc, vr b2, vi 1, vi 0, vi 0, us, us, us, us, us, us] [])) rfl (hb hby at_301) (by decide) (by decide)
 obtain ⟨b146, g146⟩ : ∃ z, z = hJ.size := ⟨_, rfl⟩
 rw [← g146] at A146 D146 st146
 refine G st146 ?_
 have ne_b2_b146 : b2 ≠ b146 := Nat.ne_of_lt (Nat.lt_of_lt_of_le V_b2.lt (Nat.le_of_eq g146.symm))
 have g_b146 : n0 ≤ b146 := Nat.le_trans Z0 (Nat.le_of_eq g146.symm)
 have sz_b146 : h0.size ≤ b146 := Nat.le_trans K0.1 (Nat.le_of_eq g146.symm)
 replace V_b2 := V_b2.ext E146
 replace K0 := K0.ext E146
 replace Z0 := Nat.le_trans Z0 E146.1
 have E_b146 := A146
 have F_b146_terms : Fld Z h146 b146 TC "terms" "[I" .null := D146 (Or.inl (wd11 hw)) (ty := (.array .int)) (by decide)
 have F_b146_slots : Fld Z h146 b146 TC "slots" "[I" .null := D146 (Or.inl (wd13 hw)) (ty := (.array .int)) (by decide)
 have F_b146_size : Fld Z h146 b146 TC "size" "I" (.int (0 : Int32)) := D146 (Or.inl (wd26 hw)) (ty := .int) (by decide)
 refine G (fun t k => XS.dup X146.here hx rfl (hb hby at_304) rfl rfl k) ?_
 obtain ⟨_, _, ⟨T147, L147, k147, n147⟩, -, X147, ⟨Lc147, hQ147, l147, y147, z147⟩, st147⟩ := X146.specialBack hx (y := (⟨TC, "<init>", "()V"⟩ : MethodName)) rfl hown (mvT hZ (wd4 hw)) (mvT hZ (wd5 hw)) (mvT hZ (wd6 hw)) (by decide) (backOf (W := 1) (rm1 l Z a0 hw [] b146 (.null : Value) (.null : Value) h146 n0 Z0 E_b146 F_b146_size F_b146_terms F_b146_slots g_b146) hZ (wd6 hw) (wd3 hw) (by decide) (by decide)) (g := (mkF m 305 #[vi p1, vi p2, vi p3, vi p4, vi p5, vi p6, vi ka, vi sa, vi sb, vi sc, vi kb, vi ta, vi tb, vi tc, vr b2, vi 1, vi 0, vi 0, us, us, us, us, us, us] [(.ref b146), (.ref b146)])) rfl (by rw [hml]; rfl) (Steps.refl _) (a := b146) (argsL := []) (rest := [(.ref b146)]) (lenOf pd1 rfl) rfl (by show 2 * 0 + _ ≤ _; exact Nat.le_of_eq rfl) (hb hby at_305) (fun _ _ => ⟨rfl, e146, (by decide : 2 + 2 ≤ _), (by decide : 12 + 320 ≤ _)⟩)
 dsimp only [Pt.U, Pt.locs, Pt.cells, Pt.slots] at X147 l147 y147 z147 st147 hQ147
 subst l147 y147 z147
 have E_b146_pre := E_b146
 have F_b146_terms_pre := F_b146_terms
 have F_b146_slots_pre := F_b146_slots
 have F_b146_size_pre := F_b146_size
 obtain ⟨h147, e147⟩ : ∃ z, T147.heap = z := ⟨_, rfl⟩
 rw [e147] at hQ147
 obtain ⟨y147, y147a, k_y147, k_y147a, rfl, N147q, K147, ng_y147, sz0_y147, ng_y147a, sz0_y147a, nef_y147_y147a, Q147_0, Q147_1, Q147_2, Q147_3, Q147_4, Q147_5⟩ := hQ147
 refine Go.tr st147 ?_
 have ne_b2_y147 : b2 ≠ y147 := Nat.ne_of_lt (Nat.lt_of_lt_of_le V_b2.lt sz0_y147)
 have ne_b146_y147 : b146 ≠ y147 := Nat.ne_of_lt (Nat.lt_of_lt_of_le E_b146.lt sz0_y147)
 have g_y147 : n0 ≤ y147 := ng_y147
 have sz_y147 : h0.size ≤ y147 := Nat.le_trans K0.1 sz0_y147
 have ne_b2_y147a : b2 ≠ y147a := Nat.ne_of_lt (Nat.lt_of_lt_of_le V_b2.lt sz0_y147a)
 have ne_b146_y147a : b146 ≠ y147a := Nat.ne_of_lt (Nat.lt_of_lt_of_le E_b146.lt sz0_y147a)
 have g_y147a : n0 ≤ y147a := ng_y147a
 have sz_y147a : h0.size ≤ y147a := Nat.le_trans K0.1 sz0_y147a
 replace V_b2 := V_b2.keep K147 (ninS ne_b2_b146 nin0)
 replace E_b146 := E_b146.keep K147
 replace Z0 := Nat.le_trans Z0 K147.1
 replace K0 := K0.trans K147 (allS (Or.inr sz_b146) all0)
 clear E_b146_pre F_b146_terms_pre F_b146_slots_pre F_b146_size_pre
 have E_b146 := Q147_0
 have F_b146_size := Q147_1
 have F_b146_terms := Q147_2
 have F_b146_slots := Q147_3
 have V_y147 := Q147_4
 have V_y147a := Q147_5
 have N147 := Fr.app NJ N147q
 refine G (fun t k => XS.astore X147.here hx rfl (hb hby at_308) rfl rfl (l' := #[vi p1, vi p2, vi p3, vi p4, vi p5, vi p6, vi ka, vi sa, vi sb, vi sc, vi kb, vi ta, vi tb, vi tc, vr b2, vi 1, vi 0, vi 0, vr b146, us, us, us, us, us]) rfl (XS.aload X147.here hx rfl (hb hby at_310) rfl rfl k)) ?_
 show Go _ _ _ (T147.setTop (mkF m 312 #[vi p1, vi p2, vi p3, vi p4, vi p5, vi p6, vi ka, vi sa, vi sb, vi sc, vi kb, vi ta, vi tb, vi tc, vr b2, vi 1, vi 0, vi 0, vr b146, us, us, us, us, us] [(.ref b146)])) _
 refine G (fun t k => XS.iloadN X147.here hx rfl (hb hby at_312) rfl (XS.iloadN X147.here hx rfl (hb hby at_313) rfl (XS.iloadN X147.here hx rfl (hb hby at_314) rfl k))) ?_
 obtain ⟨cq148, kq148, q148a, q148b, q148c⟩ := isOf hZ e147 E_b146
 obtain ⟨_, _, ⟨T148, L148, k148, n148⟩, -, X148, ⟨Lc148, hQ148, l148, y148, z148⟩, st148⟩ := X147.virtualBack hx (y := (⟨TC, "add", "(III)Z"⟩ : MethodName)) (z := (⟨TC, "add", "(III)Z"⟩ : MethodName)) hown (mvT hZ (wd14 hw)) (mvT hZ (wd15 hw)) (notFace_of_selects (args := #[]) (mvT hZ (wd17 hw))) (mvT hZ (wd17 hw)) (mvT hZ (wd16 hw)) (by decide) (backOf (W := 0) (rm3n0 l Z a0 hw [] b146 p1 p2 p3 y147 y147a k_y147 k_y147a h147 n0 Z0 E_b146 F_b146_size F_b146_terms F_b146_slots V_y147 V_y147a (Ne.symm ne_b146_y147) (Ne.symm ne_b146_y147a) nef_y147_y147a g_y147 g_b146 g_y147a) hZ (wd18 hw) (wd3 hw) (by decide) (by decide)) q148a q148c (g := (mkF m 315 #[vi p1, vi p2, vi p3, vi p4, vi p5, vi p6, vi ka, vi sa, vi sb, vi sc, vi kb, vi ta, vi tb, vi tc, vr b2, vi 1, vi 0, vi 0, vr b146, us, us, us, us, us] [(.int p3), (.int p2), (.int p1), (.ref b146)])) rfl (by rw [hml]; rfl) (Steps.refl _) (argsL := [(.int p1), (.int p2), (.int p3)]) (rest := []) (lenOf pd2 rfl) rfl (by show 2 * 0 + _ ≤ _; exact Nat.le_of_eq rfl) (hb hby at_315) (fun _ _ => ⟨rfl, e147, (by decide : 4 + 0 ≤ _), (by decide : 332 + 0 ≤ _)⟩)
 dsimp only [Pt.U, Pt.locs, Pt.cells, Pt.slots] at X148 l148 y148 z148 st148 hQ148
 subst l148 y148 z148
 refine Go.tr st148 ?_
 have E_b146_pre := E_b146
 have F_b146_size_pre := F_b146_size
 have F_b146_terms_pre := F_b146_terms
 have F_b146_slots_pre := F_b146_slots
 have V_y147_pre := V_y147
 have V_y147a_pre := V_y147a
 obtain ⟨h148, e148⟩ : ∃ z, T148.heap = z := ⟨_, rfl⟩
 rw [e148] at hQ148
 obtain ⟨rfl, N148q, K148, Q148_0, Q148_1, Q148_2, Q148_3, Q148_4, Q148_5⟩ := hQ148
 replace V_b2 := V_b2.keep K148 (ninS ne_b2_y147 (ninS ne_b2_b146 (ninS ne_b2_y147a nin0)))
 replace E_b146 := E_b146.keep K148
 replace Z0 := Nat.le_trans Z0 K148.1
 replace K0 := K0.trans K148 (allS (Or.inr sz_y147) (allS (Or.inr sz_b146) (allS (Or.inr sz_y147a) all0)))
 clear E_b146_pre F_b146_size_pre F_b146_terms_pre F_b146_slots_pre V_y147_pre V_y147a_pre
 have E_b146 := Q148_0
 have F_b146_size := Q148_1
 have F_b146_terms := Q148_2
 have F_b146_slots := Q148_3
 have V_y147 := Q148_4
 have V_y147a := Q148_5
 have N148 := Fr.app N147 N148q
 refine G (fun t k => XS.istore X148.here hx rfl (hb hby at_318) rfl (l' := #[vi p1, vi p2, vi p3, vi p4, vi p5, vi p6, vi ka, vi sa, vi sb, vi sc, vi kb, vi ta, vi tb, vi tc, vr b2, vi 1, vi 0, vi 0, vr b146, vi 1, us, us, us, us]) rfl (XS.aload X148.here hx rfl (hb hby at_320) rfl rfl (XS.iload X148.here hx rfl (hb hby at_322) rfl k))) ?_
 show Go _ _ _ (T148.setTop (mkF m 324 #[vi p1, vi p2, vi p3, vi p4, vi p5, vi p6, vi ka, vi sa, vi sb, vi sc, vi kb, vi ta, vi tb, vi tc, vr b2, vi 1, vi 0, vi 0, vr b146, vi 1, us, us, us, us] [(.int sa), (.ref b146)])) _
 refine G (fun t k => XS.iload X148.here hx rfl (hb hby at_324) rfl (XS.iload X148.here hx rfl (hb hby at_326) rfl k)) ?_
 obtain ⟨cq149, kq149, q149a, q149b, q149c⟩ := isOf hZ e148 E_b146
 obtain ⟨_, _, ⟨T149, L149, k149, n149⟩, -, X149, ⟨Lc149, hQ149, l149, y149, z149⟩, st149⟩ := X148.virtualBack hx (y := (⟨TC, "add", "(III)Z"⟩ : MethodName)) (z := (⟨TC, "add", "(III)Z"⟩ : MethodName)) hown (mvT hZ (wd14 hw)) (mvT hZ (wd15 hw)) (notFace_of_selects (args := #[]) (mvT hZ (wd17 hw))) (mvT hZ (wd17 hw)) (mvT hZ (wd16 hw)) (by decide) (backOf (W := 0) (rm3d11 l Z a0 hw [] b146 sa sb sc y147 y147a k_y147 k_y147a p1 p2 p3 ((f4 p1 p2 p3) &&& (127 : Int32)) h148 n0 Z0 E_b146 F_b146_size F_b146_terms F_b146_slots V_y147 V_y147a (Ne.symm ne_b146_y147) (Ne.symm ne_b146_y147a) nef_y147_y147a ⟨hc110.symm, hc111.symm, hc112.symm⟩ (by rw [hc110, hc111, hc112])) hZ (wd18 hw) (wd3 hw) (by decide) (by decide)) q149a q149c (g := (mkF m 328 #[vi p1, vi p2, vi p3, vi p4, vi p5, vi p6, vi ka, vi sa, vi sb, vi sc, vi kb, vi ta, vi tb, vi tc, vr b2, vi 1, vi 0, vi 0, vr b146, vi 1, us, us, us, us] [(.int sc), (.int sb), (.int sa), (.ref b146)])) rfl (by rw [hml]; rfl) (Steps.refl _) (argsL := [(.int sa), (.int sb), (.int sc)]) (rest := []) (lenOf pd2 rfl) rfl (by show 2 * 0 + _ ≤ _; exact Nat.le_of_eq rfl) (hb hby at_328) (fun _ _ => ⟨rfl, e148, (by decide : 4 + 0 ≤ _), (by decide : 332 + 0 ≤ _)⟩)
 dsimp only [Pt.U, Pt.locs, Pt.cells, Pt.slots] at X149 l149 y149 z149 st149 hQ149
 subst l149 y149 z149
 refine Go.tr st149 ?_
 obtain ⟨rfl, N149q, e149⟩ := hQ149
 have N149 := Fr.app N148 N149q
 refine G (fun t k => XS.istore X149.here hx rfl (hb hby at_331) rfl (l' := #[vi p1, vi p2, vi p3, vi p4, vi p5, vi p6, vi ka, vi sa, vi sb, vi sc, vi kb, vi ta, vi tb, vi tc, vr b2, vi 1, vi 0, vi 0, vr b146, vi 1, vi 0, us, us, us]) rfl (XS.aload X149.here hx rfl (hb hby at_333) rfl rfl (XS.iload X149.here hx rfl (hb hby at_335) rfl (XS.iload X149.here hx rfl (hb hby at_337) rfl k)))) ?_
 show Go _ _ _ (T149.setTop (mkF m 339 #[vi p1, vi p2, vi p3, vi p4, vi p5, vi p6, vi ka, vi sa, vi sb, vi sc, vi kb, vi ta, vi tb, vi tc, vr b2, vi 1, vi 0, vi 0, vr b146, vi 1, vi 0, us, us, us] [(.int tb), (.int ta), (.ref b146)])) _
 refine G (fun t k => XS.iload X149.here hx rfl (hb hby at_339) rfl k) ?_
 obtain ⟨cq150, kq150, q150a, q150b, q150c⟩ := isOf hZ e149 E_b146
 obtain ⟨_, _, ⟨T150, L150, k150, n150⟩, -, X150, ⟨Lc150, hQ150, l150, y150, z150⟩, st150⟩ := X149.virtualBack hx (y := (⟨TC, "add", "(III)Z"⟩ : MethodName)) (z := (⟨TC, "add", "(III)Z"⟩ : MethodName)) hown (mvT hZ (wd14 hw)) (mvT hZ (wd15 hw)) (notFace_of_selects (args := #[]) (mvT hZ (wd17 hw))) (mvT hZ (wd17 hw)) (mvT hZ (wd16 hw)) (by decide) (backOf (W := 0) (rm3d11 l Z a0 hw [] b146 ta tb tc y147 y147a k_y147 k_y147a p1 p2 p3 ((f4 p1 p2 p3) &&& (127 : Int32)) h148 n0 Z0 E_b146 F_b146_size F_b146_terms F_b146_slots V_y147 V_y147a (Ne.symm ne_b146_y147) (Ne.symm ne_b146_y147a) nef_y147_y147a ⟨hc142.symm, hc143.symm, hc144.symm⟩ (by rw [hc142, hc143, hc144])) hZ (wd18 hw) (wd3 hw) (by decide) (by decide)) q150a q150c (g := (mkF m 341 #[vi p1, vi p2, vi p3, vi p4, vi p5, vi p6, vi ka, vi sa, vi sb, vi sc, vi kb, vi ta, vi tb, vi tc, vr b2, vi 1, vi 0, vi 0, vr b146, vi 1, vi 0, us, us, us] [(.int tc), (.int tb), (.int ta), (.ref b146)])) rfl (by rw [hml]; rfl) (Steps.refl _) (argsL := [(.int ta), (.int tb), (.int tc)]) (rest := []) (lenOf pd2 rfl) rfl (by show 2 * 0 + _ ≤ _; exact Nat.le_of_eq rfl) (hb hby at_341) (fun _ _ => ⟨rfl, e149, (by decide : 4 + 0 ≤ _), (by decide : 332 + 0 ≤ _)⟩)
 dsimp only [Pt.U, Pt.locs, Pt.cells, Pt.slots] at X150 l150 y150 z150 st150 hQ150
 subst l150 y150 z150
 refine Go.tr st150 ?_
 obtain ⟨rfl, N150q, e150⟩ := hQ150
 have N150 := Fr.app N149 N150q
 obtain ⟨LL150, X150, N150⟩ : ∃ LL, Stand p l e room_1 s m #[(.int p1), (.int p2), (.int p3), (.int p4), (.int p5), (.int p6)] below meth c T150 LL 4 332 ∧ Fr n0 LL := ⟨_, X150, N150⟩
 show Go _ _ _ (T150.setTop (mkF m 344 #[vi p1, vi p2, vi p3, vi p4, vi p5, vi p6, vi ka, vi sa, vi sb, vi sc, vi kb, vi ta, vi tb, vi tc, vr b2, vi 1, vi 0, vi 0, vr b146, vi 1, vi 0, us, us, us] [(.int 0)])) _
 clear F_b146_slots V_y147a
 refine G (fun t k => XS.istore X150.here hx rfl (hb hby at_344) rfl (l' := #[vi p1, vi p2, vi p3, vi p4, vi p5, vi p6, vi ka, vi sa, vi sb, vi sc, vi kb, vi ta, vi tb, vi tc, vr b2, vi 1, vi 0, vi 0, vr b146, vi 1, vi 0, vi 0, us, us]) rfl (XS.aload X150.here hx rfl (hb hby at_346) rfl rfl k)) ?_
 obtain ⟨cq151, kq151, q151a, q151b, q151c⟩ := isOf hZ e150 E_b146
 obtain ⟨_, _, ⟨T151, L151, k151, n151⟩, -, X151, ⟨Lc151, hQ151, l151, y151, z151⟩, st151⟩ := X150.virtualBack hx (y := (⟨TC, "size", "()I"⟩ : MethodName)) (z := (⟨TC, "size", "()I"⟩ : MethodName)) hown (mvT hZ (wd27 hw)) (mvT hZ (wd28 hw)) (notFace_of_selects (args := #[]) (mvT hZ (wd30 hw))) (mvT hZ (wd30 hw)) (mvT hZ (wd29 hw)) (by decide) (backOf (W := 0) (rm5 l Z a0 hw [] b146 (1 : Int32) h148 n0 Z0 F_b146_size) hZ (wd31 hw) (wd3 hw) (by decide) (by decide)) q151a q151c (g := (mkF m 348 #[vi p1, vi p2, vi p3, vi p4, vi p5, vi p6, vi ka, vi sa, vi sb, vi sc, vi kb, vi ta, vi tb, vi tc, vr b2, vi 1, vi 0, vi 0, vr b146, vi 1, vi 0, vi 0, us, us] [(.ref b146)])) rfl (by rw [hml]; rfl) (Steps.refl _) (argsL := []) (rest := []) (lenOf pd3 rfl) rfl (by show 2 * 0 + _ ≤ _; exact Nat.le_of_eq rfl) (hb hby at_348) (fun _ _ => ⟨rfl, e150, (by decide : 4 + 0 ≤ _), (by decide : 332 + 0 ≤ _)⟩)
 dsimp only [Pt.U, Pt.locs, Pt.cells, Pt.slots] at X151 l151 y151 z151 st151 hQ151
 subst l151 y151 z151
 refine Go.tr st151 ?_
 obtain ⟨rfl, N151q, e151⟩ := hQ151
 have N151 := Fr.app N150 N151q
 refine G (fun t k => XS.istore X151.here hx rfl (hb hby at_351) rfl (l' := #[vi p1, vi p2, vi p3, vi p4, vi p5, vi p6, vi ka, vi sa, vi sb, vi sc, vi kb, vi ta, vi tb, vi tc, vr b2, vi 1, vi 0, vi 0, vr b146, vi 1, vi 0, vi 0, vi 1, us]) rfl (XS.iload X151.here hx rfl (hb hby at_353) rfl (XS.iload X151.here hx rfl (hb hby at_355) rfl (XS.icmpYes X151.here hx rfl (pc0 := 357) (pc' := 362) rfl (hb hby at_357) rfl (teq (by decide : (1 : Int32) = (1 : Int32))).1 (by decide) (by decide) k)))) ?_
 show Go _ _ _ (T151.setTop (mkF m 362 #[vi p1, vi p2, vi p3, vi p4, vi p5, vi p6, vi ka, vi sa, vi sb, vi sc, vi kb, vi ta, vi tb, vi tc, vr b2, vi 1, vi 0, vi 0, vr b146, vi 1, vi 0, vi 0, vi 1, us] [])) _
 refine G (fun t k => XS.iload X151.here hx rfl (hb hby at_362) rfl (XS.ifNo X151.here hx rfl (hb hby at_364) rfl ((if0 _ _).trans (feq (by decide : ¬ ((1 : Int32) = (0 : Int32)))).1) (XS.iload X151.here hx rfl (hb hby at_367) rfl (XS.iload X151.here hx rfl (hb hby at_369) rfl (XS.icmpNo X151.here hx rfl (hb hby at_371) rfl (teq (by decide : (0 : Int32) = (0 : Int32))).2 (XS.iload X151.here hx rfl (hb hby at_374) rfl k)))))) ?_
 refine G (fun t k => XS.iload X151.here hx rfl (hb hby at_376) rfl k) ?_
 show Go _ _ _ (T151.setTop (mkF m 378 #[vi p1, vi p2, vi p3, vi p4, vi p5, vi p6, vi ka, vi sa, vi sb, vi sc, vi kb, vi ta, vi tb, vi tc, vr b2, vi 1, vi 0, vi 0, vr b146, vi 1, vi 0, vi 0, vi 1, us] [(.int 0), (.int 0)])) _
 refine G (fun t k => XS.icmpYes X151.here hx rfl (pc0 := 378) (pc' := 383) rfl (hb hby at_378) rfl (teq (by decide : (0 : Int32) = (0 : Int32))).1 (by decide) (by decide) (XS.iload X151.here hx rfl (hb hby at_383) rfl (XS.iconst X151.here hx rfl (hb hby at_385) (XS.iushr X151.here hx rfl (hb hby at_386) rfl (XS.iconst X151.here hx rfl (hb hby at_387) (XS.iand X151.here hx rfl (hb hby at_388) rfl k)))))) ?_
 refine G (fun t k => XS.iload X151.here hx rfl (hb hby at_389) rfl k) ?_
 show Go _ _ _ (T151.setTop (mkF m 391 #[vi p1, vi p2, vi p3, vi p4, vi p5, vi p6, vi ka, vi sa, vi sb, vi sc, vi kb, vi ta, vi tb, vi tc, vr b2, vi 1, vi 0, vi 0, vr b146, vi 1, vi 0, vi 0, vi 1, us] [(.int 1), (.int (((p6.toUInt32 >>> ((4 : Int32) &&& 31).toUInt32).toInt32) &&& (3 : Int32)))])) _
 refine G (fun t k => iremM X151 hx rfl (hb hby at_391) rfl (by decide) (XS.istore X151.here hx rfl (hb hby at_392) rfl (l' := #[vi p1, vi p2, vi p3, vi p4, vi p5, vi p6, vi ka, vi sa, vi sb, vi sc, vi kb, vi ta, vi tb, vi tc, vr b2, vi 1, vi 0, vi 0, vr b146, vi 1, vi 0, vi 0, vi 1, vi ((((p6.toUInt32 >>> ((4 : Int32) &&& 31).toUInt32).toInt32) &&& (3 : Int32)) % (1 : Int32))]) rfl k)) ?_
 show Go _ _ _ (T151.setTop (mkF m 394 #[vi p1, vi p2, vi p3, vi p4, vi p5, vi p6, vi ka, vi sa, vi sb, vi sc, vi kb, vi ta, vi tb, vi tc, vr b2, vi 1, vi 0, vi 0, vr b146, vi 1, vi 0, vi 0, vi 1, vi ((((p6.toUInt32 >>> ((4 : Int32) &&& 31).toUInt32).toInt32) &&& (3 : Int32)) % (1 : Int32))] [])) _
 rw [own_j1 ((p6.toUInt32 >>> ((4 : Int32) &&& 31).toUInt32).toInt32)]
 show Go _ _ _ (T151.setTop (mkF m 394 #[vi p1, vi p2, vi p3, vi p4, vi p5, vi p6, vi ka, vi sa, vi sb, vi sc, vi kb, vi ta, vi tb, vi tc, vr b2, vi 1, vi 0, vi 0, vr b146, vi 1, vi 0, vi 0, vi 1, vi 0] [])) _
 exact TJ0_152 l Z a0 hw ws p1 p2 p3 p4 p5 p6 h0 n0 Bd hml0 hZ X151 e151 N151 K0 Z0 V_b2 E_b146 F_b146_size F_b146_terms V_y147
theorem rm0 (l : Launch) (Z : State) (a0 : Array Value) (hw : HW a0 Z) (ws : List Jvm.Cond) (p1 : Int32) (p2 : Int32) (p3 : Int32) (p4 : Int32) (p5 : Int32) (p6 : Int32) (h0 : Heap) (n0 : Nat) (Z0 : n0 ≤ h0.size) :
  MetFree l x (head1 (Jvm.Cond.code x code maxLocals ret :: ws) room_1) (Pr Z h0 #[(.int p1), (.int p2), (.int p3), (.int p4), (.int p5), (.int p6)]) Tr (fun _ U o U' => ∃ v L, o = .returned v ∧ Q0 Z p1 p2 p3 p4 p5 p6 h0 n0 v U'.heap L ∧ FrameEnd U o U' L 16 768) := by
 refine MetFree.of_bodySF (plainFor_of_name pn1) hisR ?_
 intro p e s m args below meth c s₁ Bd hml0 hP hK
 obtain ⟨rfl, hZ, hh⟩ := hP
 have hx := Bd.exec
 have hby := Bd.bytes
 have hml : c.maxLocals = 24 := hml0
 have hown : s.vm.findClass "com/example/tripletype/tripletype/TripleTableAddPinLaw" = some m.cls := findClass_of_methodNamed Bd.named
 have hnm := (name_of_methodNamed Bd.named Bd.method).1
 have X0 : Stand p l e room_1 s m #[(.int p1), (.int p2), (.int p3), (.int p4), (.int p5), (.int p6)] below meth c s₁ [] 0 0 := Stand.of_body Bd
 have e0 : s₁.heap = h0 := by rw [← hh, Bd.state]; rfl
 have N0 := Fr.nil n0
 have K0 : Keep h0 h0 [] := Keep.refl h0 _
 refine G (P := fun o U' => ∃ v L, o = .returned v ∧ Q0 Z p1 p2 p3 p4 p5 p6 h0 n0 v U'.heap L ∧ FrameEnd s o U' L 16 768) (fun t k => castTop (ef0 m p1 p2 p3 p4 p5 p6) k) ?_
 show Go _ _ _ (s₁.setTop (mkF m 0 #[vi p1, vi p2, vi p3, vi p4, vi p5, vi p6, us, us, us, us, us, us, us, us, us, us, us, us, us, us, us, us, us, us] [])) _
 refine G (fun t k => XS.iload X0.here hx rfl (hb hby at_0) rfl (XS.iconst X0.here hx rfl (hb hby at_2) (XS.iand X0.here hx rfl (hb hby at_3) rfl (XS.istore X0.here hx rfl (hb hby at_4) rfl (l' := #[vi p1, vi p2, vi p3, vi p4, vi p5, vi p6, vi (p6 &&& (3 : Int32)), us, us, us, us, us, us, us, us, us, us, us, us, us, us, us, us, us]) rfl (XS.iloadN X0.here hx rfl (hb hby at_6) rfl (XS.istore X0.here hx rfl (hb hby at_7) rfl (l' := #[vi p1, vi p2, vi p3, vi p4, vi p5, vi p6, vi (p6 &&& (3 : Int32)), vi p1, us, us, us, us, us, us, us, us, us, us, us, us, us, us, us, us]) rfl k)))))) ?_
 refine G (fun t k => XS.iloadN X0.here hx rfl (hb hby at_9) rfl k) ?_
 show Go _ _ _ (s₁.setTop (mkF m 10 #[vi p1, vi p2, vi p3, vi p4, vi p5, vi p6, vi (p6 &&& (3 : Int32)), vi p1, us, us, us, us, us, us, us, us, us, us, us, us, us, us, us, us] [(.int p2)])) _
 refine G (fun t k => XS.istore X0.here hx rfl (hb hby at_10) rfl (l' := #[vi p1, vi p2, vi p3, vi p4, vi p5, vi p6, vi (p6 &&& (3 : Int32)), vi p1, vi p2, us, us, us, us, us, us, us, us, us, us, us, us, us, us, us]) rfl (XS.iloadN X0.here hx rfl (hb hby at_12) rfl (XS.istore X0.here hx rfl (hb hby at_13) rfl (l' := #[vi p1, vi p2, vi p3, vi p4, vi p5, vi p6, vi (p6 &&& (3 : Int32)), vi p1, vi p2, vi p3, us, us, us, us, us, us, us, us, us, us, us, us, us, us]) rfl k))) ?_
 show Go _ _ _ (s₁.setTop (mkF m 15 #[vi p1, vi p2, vi p3, vi p4, vi p5, vi p6, vi (p6 &&& (3 : Int32)), vi p1, vi p2, vi p3, us, us, us, us, us, us, us, us, us, us, us, us, us, us] [])) _
 have J1 : ∀ (TJ : State) (locsJ : List Loc) (sa : Int32) (sb : Int32) (sc : Int32) (ta : Int32) (tb : Int32) (tc : Int32) (ka : Int32) (kb : Int32), Stand p l e room_1 s m #[(.int p1), (.int p2), (.int p3), (.int p4), (.int p5), (.int p6)] below meth c TJ locsJ 0 0 → TJ.heap = h0 → Fr n0 locsJ → Go p.tables e below (TJ.setTop (mkF m 122 #[vi p1, vi p2, vi p3, vi p4, vi p5, vi p6, vi ka, vi sa, vi sb, vi sc, vi kb, vi ta, vi tb, vi tc, us, us, us, us, us, us, us, us, us, us] [])) (fun o U' => ∃ v L, o = .returned v ∧ Q0 Z p1 p2 p3 p4 p5 p6 h0 n0 v U'.heap L ∧ FrameEnd s o U' L 16 768) := by
  intro TJ locsJ sa sb sc ta tb tc ka kb XJ eJ NJ
  refine G (fun t k => XS.bipush XJ.here hx rfl (hb hby at_122) k) ?_
  obtain ⟨T2, h2, k2, X2, e2, E2, A2, st2⟩ := newP XJ hx hZ (aty := .int) (wd0 hw) eJ (g := (mkF m 124 #[vi p1, vi p2, vi p3, vi p4, vi p5, vi p6, vi ka, vi sa, vi sb, vi sc, vi kb, vi ta, vi tb, vi tc, us, us, us, us, us, us, us, us, us, us] [(.int 9)])) rfl (hb hby at_124) rfl (by decide) (cap := 9) (by decide) (by decide) (by decide) (by decide)
  obtain ⟨b2, g2⟩ : ∃ z, z = h0.size := ⟨_, rfl⟩
  rw [← g2] at A2 st2
  refine G st2 ?_
  have g_b2 : n0 ≤ b2 := Nat.le_trans Z0 (Nat.le_of_eq g2.symm)
  have sz_b2 : h0.size ≤ b2 := Nat.le_trans K0.1 (Nat.le_of_eq g2.symm)
  replace K0 := K0.ext E2
  replace Z0 := Nat.le_trans Z0 E2.1
  have V_b2 : Arv Z h2 b2 k2 .int (9 : Int32) [(.int (0 : Int32)), (.int (0 : Int32)), (.int (0 : Int32)), (.int (0 : Int32)), (.int (0 : Int32)), (.int (0 : Int32)), (.int (0 : Int32)), (.int (0 : Int32)), (.int (0 : Int32))] (.int (0 : Int32)) := (Arv.new A2 (by decide)).pad (pad_rep [] (.int (0 : Int32)) 9)
  refine G (fun t k => XS.astore X2.here hx rfl (hb hby at_126) rfl rfl (l' := #[vi p1, vi p2, vi p3, vi p4, vi p5, vi p6, vi ka, vi sa, vi sb, vi sc, vi kb, vi ta, vi tb, vi tc, vr b2, us, us, us, us, us, us, us, us, us]) rfl (XS.aload X2.here hx rfl (hb hby at_128) rfl rfl (XS.iconst X2.here hx rfl (hb hby at_130) (XS.iloadN X2.here hx rfl (hb hby at_131) rfl k)))) ?_
  obtain ⟨cl3, Ar3, qq3, Sz3, Ng3, Hs3, Gs3⟩ := id V_b2
  have hin3 : ¬ ((0 : Int32) < 0 ∨ cl3.slots.size ≤ ((0 : Int32)).toNatClampNeg) := inb_of Sz3 ⟨by decide, by decide⟩
  obtain ⟨T4, h4, X4, e4, W4, st4⟩ := stI X2 hx hZ e2 Ar3 (j := (0 : Int32)) hin3 (g := (mkF m 132 #[vi p1, vi p2, vi p3, vi p4, vi p5, vi p6, vi ka, vi sa, vi sb, vi sc, vi kb, vi ta, vi tb, vi tc, vr b2, us, us, us, us, us, us, us, us, us] [(.int p1), (.int 0), (.ref b2)])) rfl rfl (hb hby at_132)
  refine G st4 ?_
  have N4 := Fr.snoc X4 NJ g_b2
  replace Z0 := Nat.le_trans Z0 (Nat.le_of_eq W4.size.symm)
  replace K0 := K0.wr W4 (Or.inr sz_b2)
  replace V_b2 : Arv Z h4 b2 k2 .int (9 : Int32) [(.int p1), (.int (0 : Int32)), (.int (0 : Int32)), (.int (0 : Int32)), (.int (0 : Int32)), (.int (0 : Int32)), (.int (0 : Int32)), (.int (0 : Int32)), (.int (0 : Int32))] (.int (0 : Int32)) := Arv.set Ar3 qq3 Sz3 Ng3 Hs3 Gs3 rfl W4 0 rfl (Nat.le_of_ble_eq_true rfl)
  clear hin3 Gs3 Hs3 Ng3 Sz3 qq3 Ar3 cl3
  show Go _ _ _ (T4.setTop (mkF m 133 #[vi p1, vi p2, vi p3, vi p4, vi p5, vi p6, vi ka, vi sa, vi sb, vi sc, vi kb, vi ta, vi tb, vi tc, vr b2, us, us, us, us, us, us, us, us, us] [])) _
  refine G (fun t k => XS.aload X4.here hx rfl (hb hby at_133) rfl rfl (XS.iconst X4.here hx rfl (hb hby at_135) (XS.iloadN X4.here hx rfl (hb hby at_136) rfl k))) ?_
  obtain ⟨cl5, Ar5, qq5, Sz5, Ng5, Hs5, Gs5⟩ := id V_b2
  have hin5 : ¬ ((1 : Int32) < 0 ∨ cl5.slots.size ≤ ((1 : Int32)).toNatClampNeg) := inb_of Sz5 ⟨by decide, by decide⟩
  obtain ⟨T6, h6, X6, e6, W6, st6⟩ := stI X4 hx hZ e4 Ar5 (j := (1 : Int32)) hin5 (g := (mkF m 137 #[vi p1, vi p2, vi p3, vi p4, vi p5, vi p6, vi ka, vi sa, vi sb, vi sc, vi kb, vi ta, vi tb, vi tc, vr b2, us, us, us, us, us, us, us, us, us] [(.int p2), (.int 1), (.ref b2)])) rfl rfl (hb hby at_137)
  refine G st6 ?_
  have N6 := Fr.snoc X6 N4 g_b2
  replace Z0 := Nat.le_trans Z0 (Nat.le_of_eq W6.size.symm)
  replace K0 := K0.wr W6 (Or.inr sz_b2)
  replace V_b2 : Arv Z h6 b2 k2 .int (9 : Int32) [(.int p1), (.int p2), (.int (0 : Int32)), (.int (0 : Int32)), (.int (0 : Int32)), (.int (0 : Int32)), (.int (0 : Int32)), (.int (0 : Int32)), (.int (0 : Int32))] (.int (0 : Int32)) := Arv.set Ar5 qq5 Sz5 Ng5 Hs5 Gs5 rfl W6 1 rfl (Nat.le_of_ble_eq_true rfl)
  clear hin5 Gs5 Hs5 Ng5 Sz5 qq5 Ar5 cl5
  refine G (fun t k => XS.aload X6.here hx rfl (hb hby at_138) rfl rfl (XS.iconst X6.here hx rfl (hb hby at_140) (XS.iloadN X6.here hx rfl (hb hby at_141) rfl k))) ?_
  show Go _ _ _ (T6.setTop (mkF m 142 #[vi p1, vi p2, vi p3, vi p4, vi p5, vi p6, vi ka, vi sa, vi sb, vi sc, vi kb, vi ta, vi tb, vi tc, vr b2, us, us, us, us, us, us, us, us, us] [(.int p3), (.int 2), (.ref b2)])) _
  obtain ⟨cl7, Ar7, qq7, Sz7, Ng7, Hs7, Gs7⟩ := id V_b2
  have hin7 : ¬ ((2 : Int32) < 0 ∨ cl7.slots.size ≤ ((2 : Int32)).toNatClampNeg) := inb_of Sz7 ⟨by decide, by decide⟩
  obtain ⟨T8, h8, X8, e8, W8, st8⟩ := stI X6 hx hZ e6 Ar7 (j := (2 : Int32)) hin7 (g := (mkF m 142 #[vi p1, vi p2, vi p3, vi p4, vi p5, vi p6, vi ka, vi sa, vi sb, vi sc, vi kb, vi ta, vi tb, vi tc, vr b2, us, us, us, us, us, us, us, us, us] [(.int p3), (.int 2), (.ref b2)])) rfl rfl (hb hby at_142)
  refine G st8 ?_
  have N8 := Fr.snoc X8 N6 g_b2
  replace Z0 := Nat.le_trans Z0 (Nat.le_of_eq W8.size.symm)
  replace K0 := K0.wr W8 (Or.inr sz_b2)
  replace V_b2 : Arv Z h8 b2 k2 .int (9 : Int32) [(.int p1), (.int p2), (.int p3), (.int (0 : Int32)), (.int (0 : Int32)), (.int (0 : Int32)), (.int (0 : Int32)), (.int (0 : Int32)), (.int (0 : Int32))] (.int (0 : Int32)) := Arv.set Ar7 qq7 Sz7 Ng7 Hs7 Gs7 rfl W8 2 rfl (Nat.le_of_ble_eq_true rfl)
  clear hin7 Gs7 Hs7 Ng7 Sz7 qq7 Ar7 cl7
  refine G (fun t k => XS.iconst X8.here hx rfl (hb hby at_143) (XS.istore X8.here hx rfl (hb hby at_144) rfl (l' := #[vi p1, vi p2, vi p3, vi p4, vi p5, vi p6, vi ka, vi sa, vi sb, vi sc, vi kb, vi ta, vi tb, vi tc, vr b2, vi 1, us, us, us, us, us, us, us, us]) rfl k)) ?_
  show Go _ _ _ (T8.setTop (mkF m 146 #[vi p1, vi p2, vi p3, vi p4, vi p5, vi p6, vi ka, vi sa, vi sb, vi sc, vi kb, vi ta, vi tb, vi tc, vr b2, vi 1, us, us, us, us, us, us, us, us] [])) _
  have J9 : ∀ (TJ : State) (locsJ : List Loc), Stand p l e room_1 s m #[(.int p1), (.int p2), (.int p3), (.int p4), (.int p5), (.int p6)] below meth c TJ locsJ 1 9 → TJ.heap = h8 → Fr n0 locsJ → (¬ (sa = p1 ∧ sb = p2 ∧ sc = p3)) → Go p.tables e below (TJ.setTop (mkF m 171 #[vi p1, vi p2, vi p3, vi p4, vi p5, vi p6, vi ka, vi sa, vi sb, vi sc, vi kb, vi ta, vi tb, vi tc, vr b2, vi 1, vi 1, us, us, us, us, us, us, us] [])) (fun o U' => ∃ v L, o = .returned v ∧ Q0 Z p1 p2 p3 p4 p5 p6 h0 n0 v U'.heap L ∧ FrameEnd s o U' L 16 768) := by
   intro TJ locsJ XJ eJ NJ hn2
   refine G (fun t k => XS.iload XJ.here hx rfl (hb hby at_171) rfl (XS.ifNo XJ.here hx rfl (hb hby at_173) rfl ((if0 _ _).trans (feq (by decide : ¬ ((1 : Int32) = (0 : Int32)))).1) (XS.aload XJ.here hx rfl (hb hby at_176) rfl rfl (XS.iconst XJ.here hx rfl (hb hby at_178) (XS.iload XJ.here hx rfl (hb hby at_179) rfl (XS.imul XJ.here hx rfl (hb hby at_181) rfl k)))))) ?_
   refine G (fun t k => XS.iload XJ.here hx rfl (hb hby at_182) rfl k) ?_
   show Go _ _ _ (TJ.setTop (mkF m 184 #[vi p1, vi p2, vi p3, vi p4, vi p5, vi p6, vi ka, vi sa, vi sb, vi sc, vi kb, vi ta, vi tb, vi tc, vr b2, vi 1, vi 1, us, us, us, us, us, us, us] [(.int sa), (.int 3), (.ref b2)])) _
   obtain ⟨cl10, Ar10, qq10, Sz10, Ng10, Hs10, Gs10⟩ := id V_b2
   have hin10 : ¬ ((3 : Int32) < 0 ∨ cl10.slots.size ≤ ((3 : Int32)).toNatClampNeg) := inb_of Sz10 ⟨by decide, by decide⟩
   obtain ⟨T11, h11, X11, e11, W11, st11⟩ := stI XJ hx hZ eJ Ar10 (j := (3 : Int32)) hin10 (g := (mkF m 184 #[vi p1, vi p2, vi p3, vi p4, vi p5, vi p6, vi ka, vi sa, vi sb, vi sc, vi kb, vi ta, vi tb, vi tc, vr b2, vi 1, vi 1, us, us, us, us, us, us, us] [(.int sa), (.int 3), (.ref b2)])) rfl rfl (hb hby at_184)
   refine G st11 ?_
   have N11 := Fr.snoc X11 NJ g_b2
   obtain ⟨LL11, X11, N11⟩ : ∃ LL, Stand p l e room_1 s m #[(.int p1), (.int p2), (.int p3), (.int p4), (.int p5), (.int p6)] below meth c T11 LL 1 9 ∧ Fr n0 LL := ⟨_, X11, N11⟩
   replace Z0 := Nat.le_trans Z0 (Nat.le_of_eq W11.size.symm)
   replace K0 := K0.wr W11 (Or.inr sz_b2)
   replace V_b2 : Arv Z h11 b2 k2 .int (9 : Int32) [(.int p1), (.int p2), (.int p3), (.int sa), (.int (0 : Int32)), (.int (0 : Int32)), (.int (0 : Int32)), (.int (0 : Int32)), (.int (0 : Int32))] (.int (0 : Int32)) := Arv.set Ar10 qq10 Sz10 Ng10 Hs10 Gs10 rfl W11 3 rfl (Nat.le_of_ble_eq_true rfl)
   clear hin10 Gs10 Hs10 Ng10 Sz10 qq10 Ar10 cl10
   refine G (fun t k => XS.aload X11.here hx rfl (hb hby at_185) rfl rfl (XS.iconst X11.here hx rfl (hb hby at_187) (XS.iload X11.here hx rfl (hb hby at_188) rfl (XS.imul X11.here hx rfl (hb hby at_190) rfl (XS.iconst X11.here hx rfl (hb hby at_191) (XS.iadd X11.here hx rfl (hb hby at_192) rfl k)))))) ?_
   show Go _ _ _ (T11.setTop (mkF m 193 #[vi p1, vi p2, vi p3, vi p4, vi p5, vi p6, vi ka, vi sa, vi sb, vi sc, vi kb, vi ta, vi tb, vi tc, vr b2, vi 1, vi 1, us, us, us, us, us, us, us] [(.int 4), (.ref b2)])) _
   refine G (fun t k => XS.iload X11.here hx rfl (hb hby at_193) rfl k) ?_
   obtain ⟨cl12, Ar12, qq12, Sz12, Ng12, Hs12, Gs12⟩ := id V_b2
   have hin12 : ¬ ((4 : Int32) < 0 ∨ cl12.slots.size ≤ ((4 : Int32)).toNatClampNeg) := inb_of Sz12 ⟨by decide, by decide⟩
   obtain ⟨T13, h13, X13, e13, W13, st13⟩ := stI X11 hx hZ e11 Ar12 (j := (4 : Int32)) hin12 (g := (mkF m 195 #[vi p1, vi p2, vi p3, vi p4, vi p5, vi p6, vi ka, vi sa, vi sb, vi sc, vi kb, vi ta, vi tb, vi tc, vr b2, vi 1, vi 1, us, us, us, us, us, us, us] [(.int sb), (.int 4), (.ref b2)])) rfl rfl (hb hby at_195)
   refine G st13 ?_
   have N13 := Fr.snoc X13 N11 g_b2
   replace Z0 := Nat.le_trans Z0 (Nat.le_of_eq W13.size.symm)
   replace K0 := K0.wr W13 (Or.inr sz_b2)
   replace V_b2 : Arv Z h13 b2 k2 .int (9 : Int32) [(.int p1), (.int p2), (.int p3), (.int sa), (.int sb), (.int (0 : Int32)), (.int (0 : Int32)), (.int (0 : Int32)), (.int (0 : Int32))] (.int (0 : Int32)) := Arv.set Ar12 qq12 Sz12 Ng12 Hs12 Gs12 rfl W13 4 rfl (Nat.le_of_ble_eq_true rfl)
   clear hin12 Gs12 Hs12 Ng12 Sz12 qq12 Ar12 cl12
   refine G (fun t k => XS.aload X13.here hx rfl (hb hby at_196) rfl rfl (XS.iconst X13.here hx rfl (hb hby at_198) (XS.iload X13.here hx rfl (hb hby at_199) rfl (XS.imul X13.here hx rfl (hb hby at_201) rfl (XS.iconst X13.here hx rfl (hb hby at_202) k))))) ?_
   show Go _ _ _ (T13.setTop (mkF m 203 #[vi p1, vi p2, vi p3, vi p4, vi p5, vi p6, vi ka, vi sa, vi sb, vi sc, vi kb, vi ta, vi tb, vi tc, vr b2, vi 1, vi 1, us, us, us, us, us, us, us] [(.int 2), (.int 3), (.ref b2)])) _
   refine G (fun t k => XS.iadd X13.here hx rfl (hb hby at_203) rfl (XS.iload X13.here hx rfl (hb hby at_204) rfl k)) ?_
   obtain ⟨cl14, Ar14, qq14, Sz14, Ng14, Hs14, Gs14⟩ := id V_b2
   have hin14 : ¬ ((5 : Int32) < 0 ∨ cl14.slots.size ≤ ((5 : Int32)).toNatClampNeg) := inb_of Sz14 ⟨by decide, by decide⟩
   obtain ⟨T15, h15, X15, e15, W15, st15⟩ := stI X13 hx hZ e13 Ar14 (j := (5 : Int32)) hin14 (g := (mkF m 206 #[vi p1, vi p2, vi p3, vi p4, vi p5, vi p6, vi ka, vi sa, vi sb, vi sc, vi kb, vi ta, vi tb, vi tc, vr b2, vi 1, vi 1, us, us, us, us, us, us, us] [(.int sc), (.int 5), (.ref b2)])) rfl rfl (hb hby at_206)
   refine G st15 ?_
   have N15 := Fr.snoc X15 N13 g_b2
   replace Z0 := Nat.le_trans Z0 (Nat.le_of_eq W15.size.symm)
   replace K0 := K0.wr W15 (Or.inr sz_b2)
   replace V_b2 : Arv Z h15 b2 k2 .int (9 : Int32) [(.int p1), (.int p2), (.int p3), (.int sa), (.int sb), (.int sc), (.int (0 : Int32)), (.int (0 : Int32)), (.int (0 : Int32))] (.int (0 : Int32)) := Arv.set Ar14 qq14 Sz14 Ng14 Hs14 Gs14 rfl W15 5 rfl (Nat.le_of_ble_eq_true rfl)
   clear hin14 Gs14 Hs14 Ng14 Sz14 qq14 Ar14 cl14
   refine G (fun t k => XS.iload X15.here hx rfl (hb hby at_207) rfl (XS.iconst X15.here hx rfl (hb hby at_209) (XS.iadd X15.here hx rfl (hb hby at_210) rfl (XS.istore X15.here hx rfl (hb hby at_211) rfl (l' := #[vi p1, vi p2, vi p3, vi p4, vi p5, vi p6, vi ka, vi sa, vi sb, vi sc, vi kb, vi ta, vi tb, vi tc, vr b2, vi 2, vi 1, us, us, us, us, us, us, us]) rfl k)))) ?_
   show Go _ _ _ (T15.setTop (mkF m 213 #[vi p1, vi p2, vi p3, vi p4, vi p5, vi p6, vi ka, vi sa, vi sb, vi sc, vi kb, vi ta, vi tb, vi tc, vr b2, vi 2, vi 1, us, us, us, us, us, us, us] [])) _
   have J16 : ∀ (TJ : State) (locsJ : List Loc), Stand p l e room_1 s m #[(.int p1), (.int p2), (.int p3), (.int p4), (.int p5), (.int p6)] below meth c TJ locsJ 1 9 → TJ.heap = h15 → Fr n0 locsJ → (¬ (ta = p1 ∧ tb = p2 ∧ tc = p3)) → (¬ (ta = sa ∧ tb = sb ∧ tc = sc)) → Go p.tables e below (TJ.setTop (mkF m 259 #[vi p1, vi p2, vi p3, vi p4, vi p5, vi p6, vi ka, vi sa, vi sb, vi sc, vi kb, vi ta, vi tb, vi tc, vr b2, vi 2, vi 1, vi 1, us, us, us, us, us, us] [])) (fun o U' => ∃ v L, o = .returned v ∧ Q0 Z p1 p2 p3 p4 p5 p6 h0 n0 v U'.heap L ∧ FrameEnd s o U' L 16 768) := by
    intro TJ locsJ XJ eJ NJ hna hns
    exact TJ0_17 l Z a0 hw ws p1 p2 p3 p4 p5 p6 h0 n0 Bd hml0 hZ XJ eJ NJ K0 Z0 V_b2 g_b2 sz_b2 hn2 hna hns
   have J53 : ∀ (TJ : State) (locsJ : List Loc), Stand p l e room_1 s m #[(.int p1), (.int p2), (.int p3), (.int p4), (.int p5), (.int p6)] below meth c TJ locsJ 1 9 → TJ.heap = h15 → Fr n0 locsJ → (¬ (ta = p1 ∧ tb = p2 ∧ tc = p3)) → (ta = sa ∧ tb = sb ∧ tc = sc) → Go p.tables e below (TJ.setTop (mkF m 259 #[vi p1, vi p2, vi p3, vi p4, vi p5, vi p6, vi ka, vi sa, vi sb, vi sc, vi kb, vi ta, vi tb, vi tc, vr b2, vi 2, vi 1, vi 0, us, us, us, us, us, us] [])) (fun o U' => ∃ v L, o = .returned v ∧ Q0 Z p1 p2 p3 p4 p5 p6 h0 n0 v U'.heap L ∧ FrameEnd s o U' L 16 768) := by
    intro TJ locsJ XJ eJ NJ hna hes
    exact TJ0_54 l Z a0 hw ws p1 p2 p3 p4 p5 p6 h0 n0 Bd hml0 hZ XJ eJ NJ K0 Z0 V_b2 hn2 hna hes
   show Go _ _ _ (T15.setTop (mkF m 213 #[vi p1, vi p2, vi p3, vi p4, vi p5, vi p6, vi ka, vi sa, vi sb, vi sc, vi kb, vi ta, vi tb, vi tc, vr b2, vi 2, vi 1, us, us, us, us, us, us, us] [])) _
   refine G (fun t k => XS.iload X15.here hx rfl (hb hby at_213) rfl (XS.iloadN X15.here hx rfl (hb hby at_215) rfl k)) ?_
   by_cases hc76 : ta = p1
   ·refine G (fun t k => XS.icmpNo X15.here hx rfl (hb hby at_216) rfl (teq hc76).2 (XS.iload X15.here hx rfl (hb hby at_219) rfl (XS.iloadN X15.here hx rfl (hb hby at_221) rfl k))) ?_
    by_cases hc77 : tb = p2
    ·refine G (fun t k => XS.icmpNo X15.here hx rfl (hb hby at_222) rfl (teq hc77).2 (XS.iload X15.here hx rfl (hb hby at_225) rfl k)) ?_
     show Go _ _ _ (T15.setTop (mkF m 227 #[vi p1, vi p2, vi p3, vi p4, vi p5, vi p6, vi ka, vi sa, vi sb, vi sc, vi kb, vi ta, vi tb, vi tc, vr b2, vi 2, vi 1, us, us, us, us, us, us, us] [(.int tc)])) _
     refine G (fun t k => XS.iloadN X15.here hx rfl (hb hby at_227) rfl k) ?_
     by_cases hc78 : tc = p3
     ·refine G (fun t k => XS.icmpYes X15.here hx rfl (pc0 := 228) (pc' := 256) rfl (hb hby at_228) rfl (teq hc78).1 (by decide) (by decide) (XS.iconst X15.here hx rfl (hb hby at_256) (XS.istore X15.here hx rfl (hb hby at_257) rfl (l' := #[vi p1, vi p2, vi p3, vi p4, vi p5, vi p6, vi ka, vi sa, vi sb, vi sc, vi kb, vi ta, vi tb, vi tc, vr b2, vi 2, vi 1, vi 0, us, us, us, us, us, us]) rfl k))) ?_
      show Go _ _ _ (T15.setTop (mkF m 259 #[vi p1, vi p2, vi p3, vi p4, vi p5, vi p6, vi ka, vi sa, vi sb, vi sc, vi kb, vi ta, vi tb, vi tc, vr b2, vi 2, vi 1, vi 0, us, us, us, us, us, us] [])) _
      exact TJ0_79 l Z a0 hw ws p1 p2 p3 p4 p5 p6 h0 n0 Bd hml0 hZ X15 e15 N15 K0 Z0 V_b2 hc76 hc77 hc78 hn2
     ·refine G (fun t k => XS.icmpNo X15.here hx rfl (hb hby at_228) rfl (feq hc78).1 (XS.iload X15.here hx rfl (hb hby at_231) rfl (XS.iload X15.here hx rfl (hb hby at_233) rfl k))) ?_
      by_cases hc101 : ta = sa
      ·refine G (fun t k => XS.icmpNo X15.here hx rfl (hb hby at_235) rfl (teq hc101).2 (XS.iload X15.here hx rfl (hb hby at_238) rfl (XS.iload X15.here hx rfl (hb hby at_240) rfl k))) ?_
       show Go _ _ _ (T15.setTop (mkF m 242 #[vi p1, vi p2, vi p3, vi p4, vi p5, vi p6, vi ka, vi sa, vi sb, vi sc, vi kb, vi ta, vi tb, vi tc, vr b2, vi 2, vi 1, us, us, us, us, us, us, us] [(.int sb), (.int tb)])) _
       by_cases hc102 : tb = sb
       ·refine G (fun t k => XS.icmpNo X15.here hx rfl (hb hby at_242) rfl (teq hc102).2 (XS.iload X15.here hx rfl (hb hby at_245) rfl (XS.iload X15.here hx rfl (hb hby at_247) rfl k))) ?_
        by_cases hc103 : tc = sc
        ·refine G (fun t k => XS.icmpYes X15.here hx rfl (pc0 := 249) (pc' := 256) rfl (hb hby at_249) rfl (teq hc103).1 (by decide) (by decide) (XS.iconst X15.here hx rfl (hb hby at_256) (XS.istore X15.here hx rfl (hb hby at_257) rfl (l' := #[vi p1, vi p2, vi p3, vi p4, vi p5, vi p6, vi ka, vi sa, vi sb, vi sc, vi kb, vi ta, vi tb, vi tc, vr b2, vi 2, vi 1, vi 0, us, us, us, us, us, us]) rfl k))) ?_
         show Go _ _ _ (T15.setTop (mkF m 259 #[vi p1, vi p2, vi p3, vi p4, vi p5, vi p6, vi ka, vi sa, vi sb, vi sc, vi kb, vi ta, vi tb, vi tc, vr b2, vi 2, vi 1, vi 0, us, us, us, us, us, us] [])) _
         exact J53 _ _ X15 e15 N15 (fun z => hc78 z.2.2) ⟨hc101, hc102, hc103⟩
        ·refine G (fun t k => XS.icmpNo X15.here hx rfl (hb hby at_249) rfl (feq hc103).1 (XS.iconst X15.here hx rfl (hb hby at_252) (XS.goto X15.here hx rfl (pc0 := 253) (pc' := 257) rfl (hb hby at_253) (by decide) (by decide) (XS.istore X15.here hx rfl (hb hby at_257) rfl (l' := #[vi p1, vi p2, vi p3, vi p4, vi p5, vi p6, vi ka, vi sa, vi sb, vi sc, vi kb, vi ta, vi tb, vi tc, vr b2, vi 2, vi 1, vi 1, us, us, us, us, us, us]) rfl k)))) ?_
         show Go _ _ _ (T15.setTop (mkF m 259 #[vi p1, vi p2, vi p3, vi p4, vi p5, vi p6, vi ka, vi sa, vi sb, vi sc, vi kb, vi ta, vi tb, vi tc, vr b2, vi 2, vi 1, vi 1, us, us, us, us, us, us] [])) _
         exact J16 _ _ X15 e15 N15 (fun z => hc78 z.2.2) (fun z => hc103 z.2.2)
       ·refine G (fun t k => XS.icmpYes X15.here hx rfl (pc0 := 242) (pc' := 252) rfl (hb hby at_242) rfl (feq hc102).2 (by decide) (by decide) (XS.iconst X15.here hx rfl (hb hby at_252) (XS.goto X15.here hx rfl (pc0 := 253) (pc' := 257) rfl (hb hby at_253) (by decide) (by decide) (XS.istore X15.here hx rfl (hb hby at_257) rfl (l' := #[vi p1, vi p2, vi p3, vi p4, vi p5, vi p6, vi ka, vi sa, vi sb, vi sc, vi kb, vi ta, vi tb, vi tc, vr b2, vi 2, vi 1, vi 1, us, us, us, us, us, us]) rfl k)))) ?_
        show Go _ _ _ (T15.setTop (mkF m 259 #[vi p1, vi p2, vi p3, vi p4, vi p5, vi p6, vi ka, vi sa, vi sb, vi sc, vi kb, vi ta, vi tb, vi tc, vr b2, vi 2, vi 1, vi 1, us, us, us, us, us, us] [])) _
        exact J16 _ _ X15 e15 N15 (fun z => hc78 z.2.2) (fun z => hc102 z.2.1)
      ·refine G (fun t k => XS.icmpYes X15.here hx rfl (pc0 := 235) (pc' := 252) rfl (hb hby at_235) rfl (feq hc101).2 (by decide) (by decide) (XS.iconst X15.here hx rfl (hb hby at_252) (XS.goto X15.here hx rfl (pc0 := 253) (pc' := 257) rfl (hb hby at_253) (by decide) (by decide) k))) ?_
       show Go _ _ _ (T15.setTop (mkF m 257 #[vi p1, vi p2, vi p3, vi p4, vi p5, vi p6, vi ka, vi sa, vi sb, vi sc, vi kb, vi ta, vi tb, vi tc, vr b2, vi 2, vi 1, us, us, us, us, us, us, us] [(.int 1)])) _
       refine G (fun t k => XS.istore X15.here hx rfl (hb hby at_257) rfl (l' := #[vi p1, vi p2, vi p3, vi p4, vi p5, vi p6, vi ka, vi sa, vi sb, vi sc, vi kb, vi ta, vi tb, vi tc, vr b2, vi 2, vi 1, vi 1, us, us, us, us, us, us]) rfl k) ?_
       show Go _ _ _ (T15.setTop (mkF m 259 #[vi p1, vi p2, vi p3, vi p4, vi p5, vi p6, vi ka, vi sa, vi sb, vi sc, vi kb, vi ta, vi tb, vi tc, vr b2, vi 2, vi 1, vi 1, us, us, us, us, us, us] [])) _
       exact J16 _ _ X15 e15 N15 (fun z => hc78 z.2.2) (fun z => hc101 z.1)
    ·refine G (fun t k => XS.icmpYes X15.here hx rfl (pc0 := 222) (pc' := 231) rfl (hb hby at_222) rfl (feq hc77).2 (by decide) (by decide) (XS.iload X15.here hx rfl (hb hby at_231) rfl k)) ?_
     show Go _ _ _ (T15.setTop (mkF m 233 #[vi p1, vi p2, vi p3, vi p4, vi p5, vi p6, vi ka, vi sa, vi sb, vi sc, vi kb, vi ta, vi tb, vi tc, vr b2, vi 2, vi 1, us, us, us, us, us, us, us] [(.int ta)])) _
     refine G (fun t k => XS.iload X15.here hx rfl (hb hby at_233) rfl k) ?_
     by_cases hc104 : ta = sa
     ·refine G (fun t k => XS.icmpNo X15.here hx rfl (hb hby at_235) rfl (teq hc104).2 (XS.iload X15.here hx rfl (hb hby at_238) rfl (XS.iload X15.here hx rfl (hb hby at_240) rfl k))) ?_
      by_cases hc105 : tb = sb
      ·refine G (fun t k => XS.icmpNo X15.here hx rfl (hb hby at_242) rfl (teq hc105).2 (XS.iload X15.here hx rfl (hb hby at_245) rfl (XS.iload X15.here hx rfl (hb hby at_247) rfl k))) ?_
       show Go _ _ _ (T15.setTop (mkF m 249 #[vi p1, vi p2, vi p3, vi p4, vi p5, vi p6, vi ka, vi sa, vi sb, vi sc, vi kb, vi ta, vi tb, vi tc, vr b2, vi 2, vi 1, us, us, us, us, us, us, us] [(.int sc), (.int tc)])) _
       by_cases hc106 : tc = sc
       ·refine G (fun t k => XS.icmpYes X15.here hx rfl (pc0 := 249) (pc' := 256) rfl (hb hby at_249) rfl (teq hc106).1 (by decide) (by decide) (XS.iconst X15.here hx rfl (hb hby at_256) (XS.istore X15.here hx rfl (hb hby at_257) rfl (l' := #[vi p1, vi p2, vi p3, vi p4, vi p5, vi p6, vi ka, vi sa, vi sb, vi sc, vi kb, vi ta, vi tb, vi tc, vr b2, vi 2, vi 1, vi 0, us, us, us, us, us, us]) rfl k))) ?_
        show Go _ _ _ (T15.setTop (mkF m 259 #[vi p1, vi p2, vi p3, vi p4, vi p5, vi p6, vi ka, vi sa, vi sb, vi sc, vi kb, vi ta, vi tb, vi tc, vr b2, vi 2, vi 1, vi 0, us, us, us, us, us, us] [])) _
        exact J53 _ _ X15 e15 N15 (fun z => hc77 z.2.1) ⟨hc104, hc105, hc106⟩
       ·refine G (fun t k => XS.icmpNo X15.here hx rfl (hb hby at_249) rfl (feq hc106).1 (XS.iconst X15.here hx rfl (hb hby at_252) (XS.goto X15.here hx rfl (pc0 := 253) (pc' := 257) rfl (hb hby at_253) (by decide) (by decide) (XS.istore X15.here hx rfl (hb hby at_257) rfl (l' := #[vi p1, vi p2, vi p3, vi p4, vi p5, vi p6, vi ka, vi sa, vi sb, vi sc, vi kb, vi ta, vi tb, vi tc, vr b2, vi 2, vi 1, vi 1, us, us, us, us, us, us]) rfl k)))) ?_
        show Go _ _ _ (T15.setTop (mkF m 259 #[vi p1, vi p2, vi p3, vi p4, vi p5, vi p6, vi ka, vi sa, vi sb, vi sc, vi kb, vi ta, vi tb, vi tc, vr b2, vi 2, vi 1, vi 1, us, us, us, us, us, us] [])) _
        exact J16 _ _ X15 e15 N15 (fun z => hc77 z.2.1) (fun z => hc106 z.2.2)
      ·refine G (fun t k => XS.icmpYes X15.here hx rfl (pc0 := 242) (pc' := 252) rfl (hb hby at_242) rfl (feq hc105).2 (by decide) (by decide) (XS.iconst X15.here hx rfl (hb hby at_252) (XS.goto X15.here hx rfl (pc0 := 253) (pc' := 257) rfl (hb hby at_253) (by decide) (by decide) k))) ?_
       show Go _ _ _ (T15.setTop (mkF m 257 #[vi p1, vi p2, vi p3, vi p4, vi p5, vi p6, vi ka, vi sa, vi sb, vi sc, vi kb, vi ta, vi tb, vi tc, vr b2, vi 2, vi 1, us, us, us, us, us, us, us] [(.int 1)])) _
       refine G (fun t k => XS.istore X15.here hx rfl (hb hby at_257) rfl (l' := #[vi p1, vi p2, vi p3, vi p4, vi p5, vi p6, vi ka, vi sa, vi sb, vi sc, vi kb, vi ta, vi tb, vi tc, vr b2, vi 2, vi 1, vi 1, us, us, us, us, us, us]) rfl k) ?_
       show Go _ _ _ (T15.setTop (mkF m 259 #[vi p1, vi p2, vi p3, vi p4, vi p5, vi p6, vi ka, vi sa, vi sb, vi sc, vi kb, vi ta, vi tb, vi tc, vr b2, vi 2, vi 1, vi 1, us, us, us, us, us, us] [])) _
       exact J16 _ _ X15 e15 N15 (fun z => hc77 z.2.1) (fun z => hc105 z.2.1)
     ·refine G (fun t k => XS.icmpYes X15.here hx rfl (pc0 := 235) (pc' := 252) rfl (hb hby at_235) rfl (feq hc104).2 (by decide) (by decide) (XS.iconst X15.here hx rfl (hb hby at_252) (XS.goto X15.here hx rfl (pc0 := 253) (pc' := 257) rfl (hb hby at_253) (by decide) (by decide) (XS.istore X15.here hx rfl (hb hby at_257) rfl (l' := #[vi p1, vi p2, vi p3, vi p4, vi p5, vi p6, vi ka, vi sa, vi sb, vi sc, vi kb, vi ta, vi tb, vi tc, vr b2, vi 2, vi 1, vi 1, us, us, us, us, us, us]) rfl k)))) ?_
      show Go _ _ _ (T15.setTop (mkF m 259 #[vi p1, vi p2, vi p3, vi p4, vi p5, vi p6, vi ka, vi sa, vi sb, vi sc, vi kb, vi ta, vi tb, vi tc, vr b2, vi 2, vi 1, vi 1, us, us, us, us, us, us] [])) _
      exact J16 _ _ X15 e15 N15 (fun z => hc77 z.2.1) (fun z => hc104 z.1)
   ·refine G (fun t k => XS.icmpYes X15.here hx rfl (pc0 := 216) (pc' := 231) rfl (hb hby at_216) rfl (feq hc76).2 (by decide) (by decide) (XS.iload X15.here hx rfl (hb hby at_231) rfl (XS.iload X15.here hx rfl (hb hby at_233) rfl k))) ?_
    by_cases hc107 : ta = sa
    ·refine G (fun t k => XS.icmpNo X15.here hx rfl (hb hby at_235) rfl (teq hc107).2 (XS.iload X15.here hx rfl (hb hby at_238) rfl k)) ?_
     show Go _ _ _ (T15.setTop (mkF m 240 #[vi p1, vi p2, vi p3, vi p4, vi p5, vi p6, vi ka, vi sa, vi sb, vi sc, vi kb, vi ta, vi tb, vi tc, vr b2, vi 2, vi 1, us, us, us, us, us, us, us] [(.int tb)])) _
     refine G (fun t k => XS.iload X15.here hx rfl (hb hby at_240) rfl k) ?_
     by_cases hc108 : tb = sb
     ·refine G (fun t k => XS.icmpNo X15.here hx rfl (hb hby at_242) rfl (teq hc108).2 (XS.iload X15.here hx rfl (hb hby at_245) rfl (XS.iload X15.here hx rfl (hb hby at_247) rfl k))) ?_
      by_cases hc109 : tc = sc
      ·refine G (fun t k => XS.icmpYes X15.here hx rfl (pc0 := 249) (pc' := 256) rfl (hb hby at_249) rfl (teq hc109).1 (by decide) (by decide) (XS.iconst X15.here hx rfl (hb hby at_256) (XS.istore X15.here hx rfl (hb hby at_257) rfl (l' := #[vi p1, vi p2, vi p3, vi p4, vi p5, vi p6, vi ka, vi sa, vi sb, vi sc, vi kb, vi ta, vi tb, vi tc, vr b2, vi 2, vi 1, vi 0, us, us, us, us, us, us]) rfl k))) ?_
       show Go _ _ _ (T15.setTop (mkF m 259 #[vi p1, vi p2, vi p3, vi p4, vi p5, vi p6, vi ka, vi sa, vi sb, vi sc, vi kb, vi ta, vi tb, vi tc, vr b2, vi 2, vi 1, vi 0, us, us, us, us, us, us] [])) _
       exact J53 _ _ X15 e15 N15 (fun z => hc76 z.1) ⟨hc107, hc108, hc109⟩
      ·refine G (fun t k => XS.icmpNo X15.here hx rfl (hb hby at_249) rfl (feq hc109).1 (XS.iconst X15.here hx rfl (hb hby at_252) (XS.goto X15.here hx rfl (pc0 := 253) (pc' := 257) rfl (hb hby at_253) (by decide) (by decide) k))) ?_
       show Go _ _ _ (T15.setTop (mkF m 257 #[vi p1, vi p2, vi p3, vi p4, vi p5, vi p6, vi ka, vi sa, vi sb, vi sc, vi kb, vi ta, vi tb, vi tc, vr b2, vi 2, vi 1, us, us, us, us, us, us, us] [(.int 1)])) _
       refine G (fun t k => XS.istore X15.here hx rfl (hb hby at_257) rfl (l' := #[vi p1, vi p2, vi p3, vi p4, vi p5, vi p6, vi ka, vi sa, vi sb, vi sc, vi kb, vi ta, vi tb, vi tc, vr b2, vi 2, vi 1, vi 1, us, us, us, us, us, us]) rfl k) ?_
       show Go _ _ _ (T15.setTop (mkF m 259 #[vi p1, vi p2, vi p3, vi p4, vi p5, vi p6, vi ka, vi sa, vi sb, vi sc, vi kb, vi ta, vi tb, vi tc, vr b2, vi 2, vi 1, vi 1, us, us, us, us, us, us] [])) _
       exact J16 _ _ X15 e15 N15 (fun z => hc76 z.1) (fun z => hc109 z.2.2)
     ·refine G (fun t k => XS.icmpYes X15.here hx rfl (pc0 := 242) (pc' := 252) rfl (hb hby at_242) rfl (feq hc108).2 (by decide) (by decide) (XS.iconst X15.here hx rfl (hb hby at_252) (XS.goto X15.here hx rfl (pc0 := 253) (pc' := 257) rfl (hb hby at_253) (by decide) (by decide) (XS.istore X15.here hx rfl (hb hby at_257) rfl (l' := #[vi p1, vi p2, vi p3, vi p4, vi p5, vi p6, vi ka, vi sa, vi sb, vi sc, vi kb, vi ta, vi tb, vi tc, vr b2, vi 2, vi 1, vi 1, us, us, us, us, us, us]) rfl k)))) ?_
      show Go _ _ _ (T15.setTop (mkF m 259 #[vi p1, vi p2, vi p3, vi p4, vi p5, vi p6, vi ka, vi sa, vi sb, vi sc, vi kb, vi ta, vi tb, vi tc, vr b2, vi 2, vi 1, vi 1, us, us, us, us, us, us] [])) _
      exact J16 _ _ X15 e15 N15 (fun z => hc76 z.1) (fun z => hc108 z.2.1)
    ·refine G (fun t k => XS.icmpYes X15.here hx rfl (pc0 := 235) (pc' := 252) rfl (hb hby at_235) rfl (feq hc107).2 (by decide) (by decide) (XS.iconst X15.here hx rfl (hb hby at_252) k)) ?_
     show Go _ _ _ (T15.setTop (mkF m 253 #[vi p1, vi p2, vi p3, vi p4, vi p5, vi p6, vi ka, vi sa, vi sb, vi sc, vi kb, vi ta, vi tb, vi tc, vr b2, vi 2, vi 1, us, us, us, us, us, us, us] [(.int 1)])) _
     refine G (fun t k => XS.goto X15.here hx rfl (pc0 := 253) (pc' := 257) rfl (hb hby at_253) (by decide) (by decide) (XS.istore X15.here hx rfl (hb hby at_257) rfl (l' := #[vi p1, vi p2, vi p3, vi p4, vi p5, vi p6, vi ka, vi sa, vi sb, vi sc, vi kb, vi ta, vi tb, vi tc, vr b2, vi 2, vi 1, vi 1, us, us, us, us, us, us]) rfl k)) ?_
     show Go _ _ _ (T15.setTop (mkF m 259 #[vi p1, vi p2, vi p3, vi p4, vi p5, vi p6, vi ka, vi sa, vi sb, vi sc, vi kb, vi ta, vi tb, vi tc, vr b2, vi 2, vi 1, vi 1, us, us, us, us, us, us] [])) _
     exact J16 _ _ X15 e15 N15 (fun z => hc76 z.1) (fun z => hc107 z.1)
  show Go _ _ _ (T8.setTop (mkF m 146 #[vi p1, vi p2, vi p3, vi p4, vi p5, vi p6, vi ka, vi sa, vi sb, vi sc, vi kb, vi ta, vi tb, vi tc, vr b2, vi 1, us, us, us, us, us, us, us, us] [])) _
  refine G (fun t k => XS.iload X8.here hx rfl (hb hby at_146) rfl (XS.iloadN X8.here hx rfl (hb hby at_148) rfl k)) ?_
  by_cases hc110 : sa = p1
  ·refine G (fun t k => XS.icmpNo X8.here hx rfl (hb hby at_149) rfl (teq hc110).2 (XS.iload X8.here hx rfl (hb hby at_152) rfl (XS.iloadN X8.here hx rfl (hb hby at_154) rfl k))) ?_
   by_cases hc111 : sb = p2
   ·refine G (fun t k => XS.icmpNo X8.here hx rfl (hb hby at_155) rfl (teq hc111).2 (XS.iload X8.here hx rfl (hb hby at_158) rfl k)) ?_
    show Go _ _ _ (T8.setTop (mkF m 160 #[vi p1, vi p2, vi p3, vi p4, vi p5, vi p6, vi ka, vi sa, vi sb, vi sc, vi kb, vi ta, vi tb, vi tc, vr b2, vi 1, us, us, us, us, us, us, us, us] [(.int sc)])) _
    refine G (fun t k => XS.iloadN X8.here hx rfl (hb hby at_160) rfl k) ?_
    by_cases hc112 : sc = p3
    ·refine G (fun t k => XS.icmpYes X8.here hx rfl (pc0 := 161) (pc' := 168) rfl (hb hby at_161) rfl (teq hc112).1 (by decide) (by decide) (XS.iconst X8.here hx rfl (hb hby at_168) (XS.istore X8.here hx rfl (hb hby at_169) rfl (l' := #[vi p1, vi p2, vi p3, vi p4, vi p5, vi p6, vi ka, vi sa, vi sb, vi sc, vi kb, vi ta, vi tb, vi tc, vr b2, vi 1, vi 0, us, us, us, us, us, us, us]) rfl k))) ?_
     show Go _ _ _ (T8.setTop (mkF m 171 #[vi p1, vi p2, vi p3, vi p4, vi p5, vi p6, vi ka, vi sa, vi sb, vi sc, vi kb, vi ta, vi tb, vi tc, vr b2, vi 1, vi 0, us, us, us, us, us, us, us] [])) _
     refine G (fun t k => XS.iload X8.here hx rfl (hb hby at_171) rfl (XS.ifYes X8.here hx rfl (pc0 := 173) (pc' := 213) rfl (hb hby at_173) rfl ((if0 _ _).trans (teq (by decide : (0 : Int32) = (0 : Int32))).1) (by decide) (by decide) k)) ?_
     show Go _ _ _ (T8.setTop (mkF m 213 #[vi p1, vi p2, vi p3, vi p4, vi p5, vi p6, vi ka, vi sa, vi sb, vi sc, vi kb, vi ta, vi tb, vi tc, vr b2, vi 1, vi 0, us, us, us, us, us, us, us] [])) _
     have J113 : ∀ (TJ : State) (locsJ : List Loc), Stand p l e room_1 s m #[(.int p1), (.int p2), (.int p3), (.int p4), (.int p5), (.int p6)] below meth c TJ locsJ 1 9 → TJ.heap = h8 → Fr n0 locsJ → (¬ (ta = p1 ∧ tb = p2 ∧ tc = p3)) → Go p.tables e below (TJ.setTop (mkF m 259 #[vi p1, vi p2, vi p3, vi p4, vi p5, vi p6, vi ka, vi sa, vi sb, vi sc, vi kb, vi ta, vi tb, vi tc, vr b2, vi 1, vi 0, vi 1, us, us, us, us, us, us] [])) (fun o U' => ∃ v L, o = .returned v ∧ Q0 Z p1 p2 p3 p4 p5 p6 h0 n0 v U'.heap L ∧ FrameEnd s o U' L 16 768) := by
      intro TJ locsJ XJ eJ NJ hna
      exact TJ0_114 l Z a0 hw ws p1 p2 p3 p4 p5 p6 h0 n0 Bd hml0 hZ XJ eJ NJ K0 Z0 V_b2 g_b2 sz_b2 hc110 hc111 hc112 hna
     show Go _ _ _ (T8.setTop (mkF m 213 #[vi p1, vi p2, vi p3, vi p4, vi p5, vi p6, vi ka, vi sa, vi sb, vi sc, vi kb, vi ta, vi tb, vi tc, vr b2, vi 1, vi 0, us, us, us, us, us, us, us] [])) _
     refine G (fun t k => XS.iload X8.here hx rfl (hb hby at_213) rfl (XS.iloadN X8.here hx rfl (hb hby at_215) rfl k)) ?_
     by_cases hc142 : ta = p1
     ·refine G (fun t k => XS.icmpNo X8.here hx rfl (hb hby at_216) rfl (teq hc142).2 (XS.iload X8.here hx rfl (hb hby at_219) rfl (XS.iloadN X8.here hx rfl (hb hby at_221) rfl k))) ?_
      by_cases hc143 : tb = p2
      ·refine G (fun t k => XS.icmpNo X8.here hx rfl (hb hby at_222) rfl (teq hc143).2 (XS.iload X8.here hx rfl (hb hby at_225) rfl k)) ?_
       show Go _ _ _ (T8.setTop (mkF m 227 #[vi p1, vi p2, vi p3, vi p4, vi p5, vi p6, vi ka, vi sa, vi sb, vi sc, vi kb, vi ta, vi tb, vi tc, vr b2, vi 1, vi 0, us, us, us, us, us, us, us] [(.int tc)])) _
       refine G (fun t k => XS.iloadN X8.here hx rfl (hb hby at_227) rfl k) ?_
       by_cases hc144 : tc = p3
       ·refine G (fun t k => XS.icmpYes X8.here hx rfl (pc0 := 228) (pc' := 256) rfl (hb hby at_228) rfl (teq hc144).1 (by decide) (by decide) (XS.iconst X8.here hx rfl (hb hby at_256) (XS.istore X8.here hx rfl (hb hby at_257) rfl (l' := #[vi p1, vi p2, vi p3, vi p4, vi p5, vi p6, vi ka, vi sa, vi sb, vi sc, vi kb, vi ta, vi tb, vi tc, vr b2, vi 1, vi 0, vi 0, us, us, us, us, us, us]) rfl k))) ?_
        show Go _ _ _ (T8.setTop (mkF m 259 #[vi p1, vi p2, vi p3, vi p4, vi p5, vi p6, vi ka, vi sa, vi sb, vi sc, vi kb, vi ta, vi tb, vi tc, vr b2, vi 1, vi 0, vi 0, us, us, us, us, us, us] [])) _
        exact TJ0_145 l Z a0 hw ws p1 p2 p3 p4 p5 p6 h0 n0 Bd hml0 hZ X8 e8 N8 K0 Z0 V_b2 hc110 hc111 hc112 hc142 hc143 hc144
       ·refine G (fun t k => XS.icmpNo X8.here hx rfl (hb hby at_228) rfl (feq hc144).1 (XS.iload X8.here hx rfl (hb hby at_231) rfl (XS.iload X8.here hx rfl (hb hby at_233) rfl k))) ?_
        have hf159 : ta = sa := hc142.trans hc110.symm
        refine G (fun t k => XS.icmpNo X8.here hx rfl (hb hby at_235) rfl (teq hf159).2 (XS.iload X8.here hx rfl (hb hby at_238) rfl (XS.iload X8.here hx rfl (hb hby at_240) rfl k))) ?_
        show Go _ _ _ (T8.setTop (mkF m 242 #[vi p1, vi p2, vi p3, vi p4, vi p5, vi p6, vi ka, vi sa, vi sb, vi sc, vi kb, vi ta, vi tb, vi tc, vr b2, vi 1, vi 0, us, us, us, us, us, us, us] [(.int sb), (.int tb)])) _
        have hf160 : tb = sb := hc143.trans hc111.symm
        refine G (fun t k => XS.icmpNo X8.here hx rfl (hb hby at_242) rfl (teq hf160).2 (XS.iload X8.here hx rfl (hb hby at_245) rfl (XS.iload X8.here hx rfl (hb hby at_247) rfl k))) ?_
        have hf161 : ¬ (tc = sc) := fun z => hc144 (z.trans hc112)
        refine G (fun t k => XS.icmpNo X8.here hx rfl (hb hby at_249) rfl (feq hf161).1 (XS.iconst X8.here hx rfl (hb hby at_252) (XS.goto X8.here hx rfl (pc0 := 253) (pc' := 257) rfl (hb hby at_253) (by decide) (by decide) (XS.istore X8.here hx rfl (hb hby at_257) rfl (l' := #[vi p1, vi p2, vi p3, vi p4, vi p5, vi p6, vi ka, vi sa, vi sb, vi sc, vi kb, vi ta, vi tb, vi tc, vr b2, vi 1, vi 0, vi 1, us, us, us, us, us, us]) rfl k)))) ?_
        show Go _ _ _ (T8.setTop (mkF m 259 #[vi p1, vi p2, vi p3, vi p4, vi p5, vi p6, vi ka, vi sa, vi sb, vi sc, vi kb, vi ta, vi tb, vi tc, vr b2, vi 1, vi 0, vi 1, us, us, us, us, us, us] [])) _
        exact J113 _ _ X8 e8 N8 (fun z => hc144 z.2.2)
      ·refine G (fun t k => XS.icmpYes X8.here hx rfl (pc0 := 222) (pc' := 231) rfl (hb hby at_222) rfl (feq hc143).2 (by decide) (by decide) (XS.iload X8.here hx rfl (hb hby at_231) rfl k)) ?_
       show Go _ _ _ (T8.setTop (mkF m 233 #[vi p1, vi p2, vi p3, vi p4, vi p5, vi p6, vi ka, vi sa, vi sb, vi sc, vi kb, vi ta, vi tb, vi tc, vr b2, vi 1, vi 0, us, us, us, us, us, us, us] [(.int ta)])) _
       refine G (fun t k => XS.iload X8.here hx rfl (hb hby at_233) rfl k) ?_
       have hf162 : ta = sa := hc142.trans hc110.symm
       refine G (fun t k => XS.icmpNo X8.here hx rfl (hb hby at_235) rfl (teq hf162).2 (XS.iload X8.here hx rfl (hb hby at_238) rfl (XS.iload X8.here hx rfl (hb hby at_240) rfl k))) ?_
       have hf163 : ¬ (tb = sb) := fun z => hc143 (z.trans hc111)
       refine G (fun t k => XS.icmpYes X8.here hx rfl (pc0 := 242) (pc' := 252) rfl (hb hby at_242) rfl (feq hf163).2 (by decide) (by decide) (XS.iconst X8.here hx rfl (hb hby at_252) (XS.goto X8.here hx rfl (pc0 := 253) (pc' := 257) rfl (hb hby at_253) (by decide) (by decide) k))) ?_
       show Go _ _ _ (T8.setTop (mkF m 257 #[vi p1, vi p2, vi p3, vi p4, vi p5, vi p6, vi ka, vi sa, vi sb, vi sc, vi kb, vi ta, vi tb, vi tc, vr b2, vi 1, vi 0, us, us, us, us, us, us, us] [(.int 1)])) _
       refine G (fun t k => XS.istore X8.here hx rfl (hb hby at_257) rfl (l' := #[vi p1, vi p2, vi p3, vi p4, vi p5, vi p6, vi ka, vi sa, vi sb, vi sc, vi kb, vi ta, vi tb, vi tc, vr b2, vi 1, vi 0, vi 1, us, us, us, us, us, us]) rfl k) ?_
       show Go _ _ _ (T8.setTop (mkF m 259 #[vi p1, vi p2, vi p3, vi p4, vi p5, vi p6, vi ka, vi sa, vi sb, vi sc, vi kb, vi ta, vi tb, vi tc, vr b2, vi 1, vi 0, vi 1, us, us, us, us, us, us] [])) _
       exact J113 _ _ X8 e8 N8 (fun z => hc143 z.2.1)
     ·refine G (fun t k => XS.icmpYes X8.here hx rfl (pc0 := 216) (pc' := 231) rfl (hb hby at_216) rfl (feq hc142).2 (by decide) (by decide) (XS.iload X8.here hx rfl (hb hby at_231) rfl (XS.iload X8.here hx rfl (hb hby at_233) rfl k))) ?_
      have hf164 : ¬ (ta = sa) := fun z => hc142 (z.trans hc110)
      refine G (fun t k => XS.icmpYes X8.here hx rfl (pc0 := 235) (pc' := 252) rfl (hb hby at_235) rfl (feq hf164).2 (by decide) (by decide) (XS.iconst X8.here hx rfl (hb hby at_252) k)) ?_
      show Go _ _ _ (T8.setTop (mkF m 253 #[vi p1, vi p2, vi p3, vi p4, vi p5, vi p6, vi ka, vi sa, vi sb, vi sc, vi kb, vi ta, vi tb, vi tc, vr b2, vi 1, vi 0, us, us, us, us, us, us, us] [(.int 1)])) _
      refine G (fun t k => XS.goto X8.here hx rfl (pc0 := 253) (pc' := 257) rfl (hb hby at_253) (by decide) (by decide) (XS.istore X8.here hx rfl (hb hby at_257) rfl (l' := #[vi p1, vi p2, vi p3, vi p4, vi p5, vi p6, vi ka, vi sa, vi sb, vi sc, vi kb, vi ta, vi tb, vi tc, vr b2, vi 1, vi 0, vi 1, us, us, us, us, us, us]) rfl k)) ?_
      show Go _ _ _ (T8.setTop (mkF m 259 #[vi p1, vi p2, vi p3, vi p4, vi p5, vi p6, vi ka, vi sa, vi sb, vi sc, vi kb, vi ta, vi tb, vi tc, vr b2, vi 1, vi 0, vi 1, us, us, us, us, us, us] [])) _
      exact J113 _ _ X8 e8 N8 (fun z => hc142 z.1)
    ·refine G (fun t k => XS.icmpNo X8.here hx rfl (hb hby at_161) rfl (feq hc112).1 (XS.iconst X8.here hx rfl (hb hby at_164) (XS.goto X8.here hx rfl (pc0 := 165) (pc' := 169) rfl (hb hby at_165) (by decide) (by decide) (XS.istore X8.here hx rfl (hb hby at_169) rfl (l' := #[vi p1, vi p2, vi p3, vi p4, vi p5, vi p6, vi ka, vi sa, vi sb, vi sc, vi kb, vi ta, vi tb, vi tc, vr b2, vi 1, vi 1, us, us, us, us, us, us, us]) rfl k)))) ?_
     show Go _ _ _ (T8.setTop (mkF m 171 #[vi p1, vi p2, vi p3, vi p4, vi p5, vi p6, vi ka, vi sa, vi sb, vi sc, vi kb, vi ta, vi tb, vi tc, vr b2, vi 1, vi 1, us, us, us, us, us, us, us] [])) _
     exact J9 _ _ X8 e8 N8 (fun z => hc112 z.2.2)
   ·refine G (fun t k => XS.icmpYes X8.here hx rfl (pc0 := 155) (pc' := 164) rfl (hb hby at_155) rfl (feq hc111).2 (by decide) (by decide) (XS.iconst X8.here hx rfl (hb hby at_164) k)) ?_
    show Go _ _ _ (T8.setTop (mkF m 165 #[vi p1, vi p2, vi p3, vi p4, vi p5, vi p6, vi ka, vi sa, vi sb, vi sc, vi kb, vi ta, vi tb, vi tc, vr b2, vi 1, us, us, us, us, us, us, us, us] [(.int 1)])) _
    refine G (fun t k => XS.goto X8.here hx rfl (pc0 := 165) (pc' := 169) rfl (hb hby at_165) (by decide) (by decide) (XS.istore X8.here hx rfl (hb hby at_169) rfl (l' := #[vi p1, vi p2, vi p3, vi p4, vi p5, vi p6, vi ka, vi sa, vi sb, vi sc, vi kb, vi ta, vi tb, vi tc, vr b2, vi 1, vi 1, us, us, us, us, us, us, us]) rfl k)) ?_
    show Go _ _ _ (T8.setTop (mkF m 171 #[vi p1, vi p2, vi p3, vi p4, vi p5, vi p6, vi ka, vi sa, vi sb, vi sc, vi kb, vi ta, vi tb, vi tc, vr b2, vi 1, vi 1, us, us, us, us, us, us, us] [])) _
    exact J9 _ _ X8 e8 N8 (fun z => hc111 z.2.1)
  ·refine G (fun t k => XS.icmpYes X8.here hx rfl (pc0 := 149) (pc' := 164) rfl (hb hby at_149) rfl (feq hc110).2 (by decide) (by decide) (XS.iconst X8.here hx rfl (hb hby at_164) (XS.goto X8.here hx rfl (pc0 := 165) (pc' := 169) rfl (hb hby at_165) (by decide) (by decide) (XS.istore X8.here hx rfl (hb hby at_169) rfl (l' := #[vi p1, vi p2, vi p3, vi p4, vi p5, vi p6, vi ka, vi sa, vi sb, vi sc, vi kb, vi ta, vi tb, vi tc, vr b2, vi 1, vi 1, us, us, us, us, us, us, us]) rfl k)))) ?_
   show Go _ _ _ (T8.setTop (mkF m 171 #[vi p1, vi p2, vi p3, vi p4, vi p5, vi p6, vi ka, vi sa, vi sb, vi sc, vi kb, vi ta, vi tb, vi tc, vr b2, vi 1, vi 1, us, us, us, us, us, us, us] [])) _
   exact J9 _ _ X8 e8 N8 (fun z => hc110 z.1)
 show Go _ _ _ (s₁.setTop (mkF m 15 #[vi p1, vi p2, vi p3, vi p4, vi p5, vi p6, vi (p6 &&& (3 : Int32)), vi p1, vi p2, vi p3, us, us, us, us, us, us, us, us, us, us, us, us, us, us] [])) _
 refine G (fun t k => XS.iload X0.here hx rfl (hb hby at_15) rfl (XS.iconst X0.here hx rfl (hb hby at_17) k)) ?_
 by_cases hc165 : (p6 &&& (3 : Int32)) = (1 : Int32)
 ·refine G (fun t k => XS.icmpNo X0.here hx rfl (hb hby at_18) rfl (teq hc165).2 (XS.iloadN X0.here hx rfl (hb hby at_21) rfl (XS.istore X0.here hx rfl (hb hby at_22) rfl (l' := #[vi p1, vi p2, vi p3, vi p4, vi p5, vi p6, vi (p6 &&& (3 : Int32)), vi p4, vi p2, vi p3, us, us, us, us, us, us, us, us, us, us, us, us, us, us]) rfl (XS.goto X0.here hx rfl (pc0 := 24) (pc' := 48) rfl (hb hby at_24) (by decide) (by decide) (XS.iload X0.here hx rfl (hb hby at_48) rfl k))))) ?_
  show Go _ _ _ (s₁.setTop (mkF m 50 #[vi p1, vi p2, vi p3, vi p4, vi p5, vi p6, vi (p6 &&& (3 : Int32)), vi p4, vi p2, vi p3, us, us, us, us, us, us, us, us, us, us, us, us, us, us] [(.int p6)])) _
  refine G (fun t k => XS.iconst X0.here hx rfl (hb hby at_50) (XS.iushr X0.here hx rfl (hb hby at_51) rfl (XS.iconst X0.here hx rfl (hb hby at_52) (XS.iand X0.here hx rfl (hb hby at_53) rfl (XS.istore X0.here hx rfl (hb hby at_54) rfl (l' := #[vi p1, vi p2, vi p3, vi p4, vi p5, vi p6, vi (p6 &&& (3 : Int32)), vi p4, vi p2, vi p3, vi (((p6.toUInt32 >>> ((2 : Int32) &&& 31).toUInt32).toInt32) &&& (3 : Int32)), us, us, us, us, us, us, us, us, us, us, us, us, us]) rfl (XS.iload X0.here hx rfl (hb hby at_56) rfl k)))))) ?_
  by_cases hc166 : (((p6.toUInt32 >>> ((2 : Int32) &&& 31).toUInt32).toInt32) &&& (3 : Int32)) = (0 : Int32)
  ·refine G (fun t k => XS.ifNo X0.here hx rfl (hb hby at_58) rfl ((if0 _ _).trans (teq hc166).2) k) ?_
   show Go _ _ _ (s₁.setTop (mkF m 61 #[vi p1, vi p2, vi p3, vi p4, vi p5, vi p6, vi (p6 &&& (3 : Int32)), vi p4, vi p2, vi p3, vi (((p6.toUInt32 >>> ((2 : Int32) &&& 31).toUInt32).toInt32) &&& (3 : Int32)), us, us, us, us, us, us, us, us, us, us, us, us, us] [])) _
   refine G (fun t k => XS.iloadN X0.here hx rfl (hb hby at_61) rfl (XS.istore X0.here hx rfl (hb hby at_62) rfl (l' := #[vi p1, vi p2, vi p3, vi p4, vi p5, vi p6, vi (p6 &&& (3 : Int32)), vi p4, vi p2, vi p3, vi (((p6.toUInt32 >>> ((2 : Int32) &&& 31).toUInt32).toInt32) &&& (3 : Int32)), vi p1, us, us, us, us, us, us, us, us, us, us, us, us]) rfl (XS.iloadN X0.here hx rfl (hb hby at_64) rfl (XS.istore X0.here hx rfl (hb hby at_65) rfl (l' := #[vi p1, vi p2, vi p3, vi p4, vi p5, vi p6, vi (p6 &&& (3 : Int32)), vi p4, vi p2, vi p3, vi (((p6.toUInt32 >>> ((2 : Int32) &&& 31).toUInt32).toInt32) &&& (3 : Int32)), vi p1, vi p2, us, us, us, us, us, us, us, us, us, us, us]) rfl (XS.iloadN X0.here hx rfl (hb hby at_67) rfl (XS.istore X0.here hx rfl (hb hby at_68) rfl (l' := #[vi p1, vi p2, vi p3, vi p4, vi p5, vi p6, vi (p6 &&& (3 : Int32)), vi p4, vi p2, vi p3, vi (((p6.toUInt32 >>> ((2 : Int32) &&& 31).toUInt32).toInt32) &&& (3 : Int32)), vi p1, vi p2, vi p3, us, us, us, us, us, us, us, us, us, us]) rfl k)))))) ?_
   refine G (fun t k => XS.goto X0.here hx rfl (pc0 := 70) (pc' := 122) rfl (hb hby at_70) (by decide) (by decide) k) ?_
   show Go _ _ _ (s₁.setTop (mkF m 122 #[vi p1, vi p2, vi p3, vi p4, vi p5, vi p6, vi (p6 &&& (3 : Int32)), vi p4, vi p2, vi p3, vi (((p6.toUInt32 >>> ((2 : Int32) &&& 31).toUInt32).toInt32) &&& (3 : Int32)), vi p1, vi p2, vi p3, us, us, us, us, us, us, us, us, us, us] [])) _
   exact J1 _ _ p4 p2 p3 p1 p2 p3 (p6 &&& (3 : Int32)) (((p6.toUInt32 >>> ((2 : Int32) &&& 31).toUInt32).toInt32) &&& (3 : Int32)) X0 e0 N0
  ·refine G (fun t k => XS.ifYes X0.here hx rfl (pc0 := 58) (pc' := 73) rfl (hb hby at_58) rfl ((if0 _ _).trans (feq hc166).2) (by decide) (by decide) k) ?_
   show Go _ _ _ (s₁.setTop (mkF m 73 #[vi p1, vi p2, vi p3, vi p4, vi p5, vi p6, vi (p6 &&& (3 : Int32)), vi p4, vi p2, vi p3, vi (((p6.toUInt32 >>> ((2 : Int32) &&& 31).toUInt32).toInt32) &&& (3 : Int32)), us, us, us, us, us, us, us, us, us, us, us, us, us] [])) _
   refine G (fun t k => XS.iload X0.here hx rfl (hb hby at_73) rfl (XS.iconst X0.here hx rfl (hb hby at_75) k)) ?_
   by_cases hc167 : (((p6.toUInt32 >>> ((2 : Int32) &&& 31).toUInt32).toInt32) &&& (3 : Int32)) = (1 : Int32)
   ·refine G (fun t k => XS.icmpNo X0.here hx rfl (hb hby at_76) rfl (teq hc167).2 (XS.iload X0.here hx rfl (hb hby at_79) rfl (XS.istore X0.here hx rfl (hb hby at_81) rfl (l' := #[vi p1, vi p2, vi p3, vi p4, vi p5, vi p6, vi (p6 &&& (3 : Int32)), vi p4, vi p2, vi p3, vi (((p6.toUInt32 >>> ((2 : Int32) &&& 31).toUInt32).toInt32) &&& (3 : Int32)), vi p4, us, us, us, us, us, us, us, us, us, us, us, us]) rfl (XS.iload X0.here hx rfl (hb hby at_83) rfl (XS.istore X0.here hx rfl (hb hby at_85) rfl (l' := #[vi p1, vi p2, vi p3, vi p4, vi p5, vi p6, vi (p6 &&& (3 : Int32)), vi p4, vi p2, vi p3, vi (((p6.toUInt32 >>> ((2 : Int32) &&& 31).toUInt32).toInt32) &&& (3 : Int32)), vi p4, vi p2, us, us, us, us, us, us, us, us, us, us, us]) rfl k))))) ?_
    show Go _ _ _ (s₁.setTop (mkF m 87 #[vi p1, vi p2, vi p3, vi p4, vi p5, vi p6, vi (p6 &&& (3 : Int32)), vi p4, vi p2, vi p3, vi (((p6.toUInt32 >>> ((2 : Int32) &&& 31).toUInt32).toInt32) &&& (3 : Int32)), vi p4, vi p2, us, us, us, us, us, us, us, us, us, us, us] [])) _
    refine G (fun t k => XS.iload X0.here hx rfl (hb hby at_87) rfl (XS.istore X0.here hx rfl (hb hby at_89) rfl (l' := #[vi p1, vi p2, vi p3, vi p4, vi p5, vi p6, vi (p6 &&& (3 : Int32)), vi p4, vi p2, vi p3, vi (((p6.toUInt32 >>> ((2 : Int32) &&& 31).toUInt32).toInt32) &&& (3 : Int32)), vi p4, vi p2, vi p3, us, us, us, us, us, us, us, us, us, us]) rfl (XS.goto X0.here hx rfl (pc0 := 91) (pc' := 122) rfl (hb hby at_91) (by decide) (by decide) k))) ?_
    show Go _ _ _ (s₁.setTop (mkF m 122 #[vi p1, vi p2, vi p3, vi p4, vi p5, vi p6, vi (p6 &&& (3 : Int32)), vi p4, vi p2, vi p3, vi (((p6.toUInt32 >>> ((2 : Int32) &&& 31).toUInt32).toInt32) &&& (3 : Int32)), vi p4, vi p2, vi p3, us, us, us, us, us, us, us, us, us, us] [])) _
    exact J1 _ _ p4 p2 p3 p4 p2 p3 (p6 &&& (3 : Int32)) (((p6.toUInt32 >>> ((2 : Int32) &&& 31).toUInt32).toInt32) &&& (3 : Int32)) X0 e0 N0
   ·refine G (fun t k => XS.icmpYes X0.here hx rfl (pc0 := 76) (pc' := 94) rfl (hb hby at_76) rfl (feq hc167).2 (by decide) (by decide) (XS.iload X0.here hx rfl (hb hby at_94) rfl (XS.iconst X0.here hx rfl (hb hby at_96) k))) ?_
    by_cases hc168 : (((p6.toUInt32 >>> ((2 : Int32) &&& 31).toUInt32).toInt32) &&& (3 : Int32)) = (2 : Int32)
    ·refine G (fun t k => XS.icmpNo X0.here hx rfl (hb hby at_97) rfl (teq hc168).2 (XS.iloadN X0.here hx rfl (hb hby at_100) rfl k)) ?_
     show Go _ _ _ (s₁.setTop (mkF m 101 #[vi p1, vi p2, vi p3, vi p4, vi p5, vi p6, vi (p6 &&& (3 : Int32)), vi p4, vi p2, vi p3, vi (((p6.toUInt32 >>> ((2 : Int32) &&& 31).toUInt32).toInt32) &&& (3 : Int32)), us, us, us, us, us, us, us, us, us, us, us, us, us] [(.int p3)])) _
     refine G (fun t k => XS.istore X0.here hx rfl (hb hby at_101) rfl (l' := #[vi p1, vi p2, vi p3, vi p4, vi p5, vi p6, vi (p6 &&& (3 : Int32)), vi p4, vi p2, vi p3, vi (((p6.toUInt32 >>> ((2 : Int32) &&& 31).toUInt32).toInt32) &&& (3 : Int32)), vi p3, us, us, us, us, us, us, us, us, us, us, us, us]) rfl (XS.iloadN X0.here hx rfl (hb hby at_103) rfl (XS.istore X0.here hx rfl (hb hby at_104) rfl (l' := #[vi p1, vi p2, vi p3, vi p4, vi p5, vi p6, vi (p6 &&& (3 : Int32)), vi p4, vi p2, vi p3, vi (((p6.toUInt32 >>> ((2 : Int32) &&& 31).toUInt32).toInt32) &&& (3 : Int32)), vi p3, vi p2, us, us, us, us, us, us, us, us, us, us, us]) rfl (XS.iloadN X0.here hx rfl (hb hby at_106) rfl (XS.istore X0.here hx rfl (hb hby at_107) rfl (l' := #[vi p1, vi p2, vi p3, vi p4, vi p5, vi p6, vi (p6 &&& (3 : Int32)), vi p4, vi p2, vi p3, vi (((p6.toUInt32 >>> ((2 : Int32) &&& 31).toUInt32).toInt32) &&& (3 : Int32)), vi p3, vi p2, vi p1, us, us, us, us, us, us, us, us, us, us]) rfl (XS.goto X0.here hx rfl (pc0 := 109) (pc' := 122) rfl (hb hby at_109) (by decide) (by decide) k)))))) ?_
     show Go _ _ _ (s₁.setTop (mkF m 122 #[vi p1, vi p2, vi p3, vi p4, vi p5, vi p6, vi (p6 &&& (3 : Int32)), vi p4, vi p2, vi p3, vi (((p6.toUInt32 >>> ((2 : Int32) &&& 31).toUInt32).toInt32) &&& (3 : Int32)), vi p3, vi p2, vi p1, us, us, us, us, us, us, us, us, us, us] [])) _
     exact J1 _ _ p4 p2 p3 p3 p2 p1 (p6 &&& (3 : Int32)) (((p6.toUInt32 >>> ((2 : Int32) &&& 31).toUInt32).toInt32) &&& (3 : Int32)) X0 e0 N0
    ·refine G (fun t k => XS.icmpYes X0.here hx rfl (pc0 := 97) (pc' := 112) rfl (hb hby at_97) rfl (feq hc168).2 (by decide) (by decide) (XS.iload X0.here hx rfl (hb hby at_112) rfl k)) ?_
     show Go _ _ _ (s₁.setTop (mkF m 114 #[vi p1, vi p2, vi p3, vi p4, vi p5, vi p6, vi (p6 &&& (3 : Int32)), vi p4, vi p2, vi p3, vi (((p6.toUInt32 >>> ((2 : Int32) &&& 31).toUInt32).toInt32) &&& (3 : Int32)), us, us, us, us, us, us, us, us, us, us, us, us, us] [(.int p5)])) _
     refine G (fun t k => XS.istore X0.here hx rfl (hb hby at_114) rfl (l' := #[vi p1, vi p2, vi p3, vi p4, vi p5, vi p6, vi (p6 &&& (3 : Int32)), vi p4, vi p2, vi p3, vi (((p6.toUInt32 >>> ((2 : Int32) &&& 31).toUInt32).toInt32) &&& (3 : Int32)), vi p5, us, us, us, us, us, us, us, us, us, us, us, us]) rfl (XS.iloadN X0.here hx rfl (hb hby at_116) rfl (XS.istore X0.here hx rfl (hb hby at_117) rfl (l' := #[vi p1, vi p2, vi p3, vi p4, vi p5, vi p6, vi (p6 &&& (3 : Int32)), vi p4, vi p2, vi p3, vi (((p6.toUInt32 >>> ((2 : Int32) &&& 31).toUInt32).toInt32) &&& (3 : Int32)), vi p5, vi p2, us, us, us, us, us, us, us, us, us, us, us]) rfl (XS.iloadN X0.here hx rfl (hb hby at_119) rfl (XS.istore X0.here hx rfl (hb hby at_120) rfl (l' := #[vi p1, vi p2, vi p3, vi p4, vi p5, vi p6, vi (p6 &&& (3 : Int32)), vi p4, vi p2, vi p3, vi (((p6.toUInt32 >>> ((2 : Int32) &&& 31).toUInt32).toInt32) &&& (3 : Int32)), vi p5, vi p2, vi p4, us, us, us, us, us, us, us, us, us, us]) rfl k))))) ?_
     show Go _ _ _ (s₁.setTop (mkF m 122 #[vi p1, vi p2, vi p3, vi p4, vi p5, vi p6, vi (p6 &&& (3 : Int32)), vi p4, vi p2, vi p3, vi (((p6.toUInt32 >>> ((2 : Int32) &&& 31).toUInt32).toInt32) &&& (3 : Int32)), vi p5, vi p2, vi p4, us, us, us, us, us, us, us, us, us, us] [])) _
     exact J1 _ _ p4 p2 p3 p5 p2 p4 (p6 &&& (3 : Int32)) (((p6.toUInt32 >>> ((2 : Int32) &&& 31).toUInt32).toInt32) &&& (3 : Int32)) X0 e0 N0
 ·refine G (fun t k => XS.icmpYes X0.here hx rfl (pc0 := 18) (pc' := 27) rfl (hb hby at_18) rfl (feq hc165).2 (by decide) (by decide) (XS.iload X0.here hx rfl (hb hby at_27) rfl (XS.iconst X0.here hx rfl (hb hby at_29) k))) ?_
  by_cases hc169 : (p6 &&& (3 : Int32)) = (2 : Int32)
  ·refine G (fun t k => XS.icmpNo X0.here hx rfl (hb hby at_30) rfl (teq hc169).2 (XS.iloadN X0.here hx rfl (hb hby at_33) rfl k)) ?_
   show Go _ _ _ (s₁.setTop (mkF m 34 #[vi p1, vi p2, vi p3, vi p4, vi p5, vi p6, vi (p6 &&& (3 : Int32)), vi p1, vi p2, vi p3, us, us, us, us, us, us, us, us, us, us, us, us, us, us] [(.int p4)])) _
   refine G (fun t k => XS.istore X0.here hx rfl (hb hby at_34) rfl (l' := #[vi p1, vi p2, vi p3, vi p4, vi p5, vi p6, vi (p6 &&& (3 : Int32)), vi p1, vi p4, vi p3, us, us, us, us, us, us, us, us, us, us, us, us, us, us]) rfl (XS.goto X0.here hx rfl (pc0 := 36) (pc' := 48) rfl (hb hby at_36) (by decide) (by decide) (XS.iload X0.here hx rfl (hb hby at_48) rfl (XS.iconst X0.here hx rfl (hb hby at_50) (XS.iushr X0.here hx rfl (hb hby at_51) rfl (XS.iconst X0.here hx rfl (hb hby at_52) k)))))) ?_
   refine G (fun t k => XS.iand X0.here hx rfl (hb hby at_53) rfl k) ?_
   show Go _ _ _ (s₁.setTop (mkF m 54 #[vi p1, vi p2, vi p3, vi p4, vi p5, vi p6, vi (p6 &&& (3 : Int32)), vi p1, vi p4, vi p3, us, us, us, us, us, us, us, us, us, us, us, us, us, us] [(.int (((p6.toUInt32 >>> ((2 : Int32) &&& 31).toUInt32).toInt32) &&& (3 : Int32)))])) _
   refine G (fun t k => XS.istore X0.here hx rfl (hb hby at_54) rfl (l' := #[vi p1, vi p2, vi p3, vi p4, vi p5, vi p6, vi (p6 &&& (3 : Int32)), vi p1, vi p4, vi p3, vi (((p6.toUInt32 >>> ((2 : Int32) &&& 31).toUInt32).toInt32) &&& (3 : Int32)), us, us, us, us, us, us, us, us, us, us, us, us, us]) rfl (XS.iload X0.here hx rfl (hb hby at_56) rfl k)) ?_
   by_cases hc170 : (((p6.toUInt32 >>> ((2 : Int32) &&& 31).toUInt32).toInt32) &&& (3 : Int32)) = (0 : Int32)
   ·refine G (fun t k => XS.ifNo X0.here hx rfl (hb hby at_58) rfl ((if0 _ _).trans (teq hc170).2) (XS.iloadN X0.here hx rfl (hb hby at_61) rfl (XS.istore X0.here hx rfl (hb hby at_62) rfl (l' := #[vi p1, vi p2, vi p3, vi p4, vi p5, vi p6, vi (p6 &&& (3 : Int32)), vi p1, vi p4, vi p3, vi (((p6.toUInt32 >>> ((2 : Int32) &&& 31).toUInt32).toInt32) &&& (3 : Int32)), vi p1, us, us, us, us, us, us, us, us, us, us, us, us]) rfl (XS.iloadN X0.here hx rfl (hb hby at_64) rfl (XS.istore X0.here hx rfl (hb hby at_65) rfl (l' := #[vi p1, vi p2, vi p3, vi p4, vi p5, vi p6, vi (p6 &&& (3 : Int32)), vi p1, vi p4, vi p3, vi (((p6.toUInt32 >>> ((2 : Int32) &&& 31).toUInt32).toInt32) &&& (3 : Int32)), vi p1, vi p2, us, us, us, us, us, us, us, us, us, us, us]) rfl k))))) ?_
    show Go _ _ _ (s₁.setTop (mkF m 67 #[vi p1, vi p2, vi p3, vi p4, vi p5, vi p6, vi (p6 &&& (3 : Int32)), vi p1, vi p4, vi p3, vi (((p6.toUInt32 >>> ((2 : Int32) &&& 31).toUInt32).toInt32) &&& (3 : Int32)), vi p1, vi p2, us, us, us, us, us, us, us, us, us, us, us] [])) _
    refine G (fun t k => XS.iloadN X0.here hx rfl (hb hby at_67) rfl (XS.istore X0.here hx rfl (hb hby at_68) rfl (l' := #[vi p1, vi p2, vi p3, vi p4, vi p5, vi p6, vi (p6 &&& (3 : Int32)), vi p1, vi p4, vi p3, vi (((p6.toUInt32 >>> ((2 : Int32) &&& 31).toUInt32).toInt32) &&& (3 : Int32)), vi p1, vi p2, vi p3, us, us, us, us, us, us, us, us, us, us]) rfl (XS.goto X0.here hx rfl (pc0 := 70) (pc' := 122) rfl (hb hby at_70) (by decide) (by decide) k))) ?_
    show Go _ _ _ (s₁.setTop (mkF m 122 #[vi p1, vi p2, vi p3, vi p4, vi p5, vi p6, vi (p6 &&& (3 : Int32)), vi p1, vi p4, vi p3, vi (((p6.toUInt32 >>> ((2 : Int32) &&& 31).toUInt32).toInt32) &&& (3 : Int32)), vi p1, vi p2, vi p3, us, us, us, us, us, us, us, us, us, us] [])) _
    exact J1 _ _ p1 p4 p3 p1 p2 p3 (p6 &&& (3 : Int32)) (((p6.toUInt32 >>> ((2 : Int32) &&& 31).toUInt32).toInt32) &&& (3 : Int32)) X0 e0 N0
   ·refine G (fun t k => XS.ifYes X0.here hx rfl (pc0 := 58) (pc' := 73) rfl (hb hby at_58) rfl ((if0 _ _).trans (feq hc170).2) (by decide) (by decide) (XS.iload X0.here hx rfl (hb hby at_73) rfl (XS.iconst X0.here hx rfl (hb hby at_75) k))) ?_
    by_cases hc171 : (((p6.toUInt32 >>> ((2 : Int32) &&& 31).toUInt32).toInt32) &&& (3 : Int32)) = (1 : Int32)
    ·refine G (fun t k => XS.icmpNo X0.here hx rfl (hb hby at_76) rfl (teq hc171).2 (XS.iload X0.here hx rfl (hb hby at_79) rfl k)) ?_
     show Go _ _ _ (s₁.setTop (mkF m 81 #[vi p1, vi p2, vi p3, vi p4, vi p5, vi p6, vi (p6 &&& (3 : Int32)), vi p1, vi p4, vi p3, vi (((p6.toUInt32 >>> ((2 : Int32) &&& 31).toUInt32).toInt32) &&& (3 : Int32)), us, us, us, us, us, us, us, us, us, us, us, us, us] [(.int p1)])) _
     refine G (fun t k => XS.istore X0.here hx rfl (hb hby at_81) rfl (l' := #[vi p1, vi p2, vi p3, vi p4, vi p5, vi p6, vi (p6 &&& (3 : Int32)), vi p1, vi p4, vi p3, vi (((p6.toUInt32 >>> ((2 : Int32) &&& 31).toUInt32).toInt32) &&& (3 : Int32)), vi p1, us, us, us, us, us, us, us, us, us, us, us, us]) rfl (XS.iload X0.here hx rfl (hb hby at_83) rfl (XS.istore X0.here hx rfl (hb hby at_85) rfl (l' := #[vi p1, vi p2, vi p3, vi p4, vi p5, vi p6, vi (p6 &&& (3 : Int32)), vi p1, vi p4, vi p3, vi (((p6.toUInt32 >>> ((2 : Int32) &&& 31).toUInt32).toInt32) &&& (3 : Int32)), vi p1, vi p4, us, us, us, us, us, us, us, us, us, us, us]) rfl (XS.iload X0.here hx rfl (hb hby at_87) rfl (XS.istore X0.here hx rfl (hb hby at_89) rfl (l' := #[vi p1, vi p2, vi p3, vi p4, vi p5, vi p6, vi (p6 &&& (3 : Int32)), vi p1, vi p4, vi p3, vi (((p6.toUInt32 >>> ((2 : Int32) &&& 31).toUInt32).toInt32) &&& (3 : Int32)), vi p1, vi p4, vi p3, us, us, us, us, us, us, us, us, us, us]) rfl (XS.goto X0.here hx rfl (pc0 := 91) (pc' := 122) rfl (hb hby at_91) (by decide) (by decide) k)))))) ?_
     show Go _ _ _ (s₁.setTop (mkF m 122 #[vi p1, vi p2, vi p3, vi p4, vi p5, vi p6, vi (p6 &&& (3 : Int32)), vi p1, vi p4, vi p3, vi (((p6.toUInt32 >>> ((2 : Int32) &&& 31).toUInt32).toInt32) &&& (3 : Int32)), vi p1, vi p4, vi p3, us, us, us, us, us, us, us, us, us, us] [])) _
     exact J1 _ _ p1 p4 p3 p1 p4 p3 (p6 &&& (3 : Int32)) (((p6.toUInt32 >>> ((2 : Int32) &&& 31).toUInt32).toInt32) &&& (3 : Int32)) X0 e0 N0
    ·refine G (fun t k => XS.icmpYes X0.here hx rfl (pc0 := 76) (pc' := 94) rfl (hb hby at_76) rfl (feq hc171).2 (by decide) (by decide) (XS.iload X0.here hx rfl (hb hby at_94) rfl k)) ?_
     show Go _ _ _ (s₁.setTop (mkF m 96 #[vi p1, vi p2, vi p3, vi p4, vi p5, vi p6, vi (p6 &&& (3 : Int32)), vi p1, vi p4, vi p3, vi (((p6.toUInt32 >>> ((2 : Int32) &&& 31).toUInt32).toInt32) &&& (3 : Int32)), us, us, us, us, us, us, us, us, us, us, us, us, us] [(.int (((p6.toUInt32 >>> ((2 : Int32) &&& 31).toUInt32).toInt32) &&& (3 : Int32)))])) _
     refine G (fun t k => XS.iconst X0.here hx rfl (hb hby at_96) k) ?_
     by_cases hc172 : (((p6.toUInt32 >>> ((2 : Int32) &&& 31).toUInt32).toInt32) &&& (3 : Int32)) = (2 : Int32)
     ·refine G (fun t k => XS.icmpNo X0.here hx rfl (hb hby at_97) rfl (teq hc172).2 (XS.iloadN X0.here hx rfl (hb hby at_100) rfl (XS.istore X0.here hx rfl (hb hby at_101) rfl (l' := #[vi p1, vi p2, vi p3, vi p4, vi p5, vi p6, vi (p6 &&& (3 : Int32)), vi p1, vi p4, vi p3, vi (((p6.toUInt32 >>> ((2 : Int32) &&& 31).toUInt32).toInt32) &&& (3 : Int32)), vi p3, us, us, us, us, us, us, us, us, us, us, us, us]) rfl (XS.iloadN X0.here hx rfl (hb hby at_103) rfl (XS.istore X0.here hx rfl (hb hby at_104) rfl (l' := #[vi p1, vi p2, vi p3, vi p4, vi p5, vi p6, vi (p6 &&& (3 : Int32)), vi p1, vi p4, vi p3, vi (((p6.toUInt32 >>> ((2 : Int32) &&& 31).toUInt32).toInt32) &&& (3 : Int32)), vi p3, vi p2, us, us, us, us, us, us, us, us, us, us, us]) rfl (XS.iloadN X0.here hx rfl (hb hby at_106) rfl k)))))) ?_
      show Go _ _ _ (s₁.setTop (mkF m 107 #[vi p1, vi p2, vi p3, vi p4, vi p5, vi p6, vi (p6 &&& (3 : Int32)), vi p1, vi p4, vi p3, vi (((p6.toUInt32 >>> ((2 : Int32) &&& 31).toUInt32).toInt32) &&& (3 : Int32)), vi p3, vi p2, us, us, us, us, us, us, us, us, us, us, us] [(.int p1)])) _
      refine G (fun t k => XS.istore X0.here hx rfl (hb hby at_107) rfl (l' := #[vi p1, vi p2, vi p3, vi p4, vi p5, vi p6, vi (p6 &&& (3 : Int32)), vi p1, vi p4, vi p3, vi (((p6.toUInt32 >>> ((2 : Int32) &&& 31).toUInt32).toInt32) &&& (3 : Int32)), vi p3, vi p2, vi p1, us, us, us, us, us, us, us, us, us, us]) rfl (XS.goto X0.here hx rfl (pc0 := 109) (pc' := 122) rfl (hb hby at_109) (by decide) (by decide) k)) ?_
      show Go _ _ _ (s₁.setTop (mkF m 122 #[vi p1, vi p2, vi p3, vi p4, vi p5, vi p6, vi (p6 &&& (3 : Int32)), vi p1, vi p4, vi p3, vi (((p6.toUInt32 >>> ((2 : Int32) &&& 31).toUInt32).toInt32) &&& (3 : Int32)), vi p3, vi p2, vi p1, us, us, us, us, us, us, us, us, us, us] [])) _
      exact J1 _ _ p1 p4 p3 p3 p2 p1 (p6 &&& (3 : Int32)) (((p6.toUInt32 >>> ((2 : Int32) &&& 31).toUInt32).toInt32) &&& (3 : Int32)) X0 e0 N0
     ·refine G (fun t k => XS.icmpYes X0.here hx rfl (pc0 := 97) (pc' := 112) rfl (hb hby at_97) rfl (feq hc172).2 (by decide) (by decide) (XS.iload X0.here hx rfl (hb hby at_112) rfl (XS.istore X0.here hx rfl (hb hby at_114) rfl (l' := #[vi p1, vi p2, vi p3, vi p4, vi p5, vi p6, vi (p6 &&& (3 : Int32)), vi p1, vi p4, vi p3, vi (((p6.toUInt32 >>> ((2 : Int32) &&& 31).toUInt32).toInt32) &&& (3 : Int32)), vi p5, us, us, us, us, us, us, us, us, us, us, us, us]) rfl (XS.iloadN X0.here hx rfl (hb hby at_116) rfl (XS.istore X0.here hx rfl (hb hby at_117) rfl (l' := #[vi p1, vi p2, vi p3, vi p4, vi p5, vi p6, vi (p6 &&& (3 : Int32)), vi p1, vi p4, vi p3, vi (((p6.toUInt32 >>> ((2 : Int32) &&& 31).toUInt32).toInt32) &&& (3 : Int32)), vi p5, vi p2, us, us, us, us, us, us, us, us, us, us, us]) rfl (XS.iloadN X0.here hx rfl (hb hby at_119) rfl k)))))) ?_
      show Go _ _ _ (s₁.setTop (mkF m 120 #[vi p1, vi p2, vi p3, vi p4, vi p5, vi p6, vi (p6 &&& (3 : Int32)), vi p1, vi p4, vi p3, vi (((p6.toUInt32 >>> ((2 : Int32) &&& 31).toUInt32).toInt32) &&& (3 : Int32)), vi p5, vi p2, us, us, us, us, us, us, us, us, us, us, us] [(.int p4)])) _
      refine G (fun t k => XS.istore X0.here hx rfl (hb hby at_120) rfl (l' := #[vi p1, vi p2, vi p3, vi p4, vi p5, vi p6, vi (p6 &&& (3 : Int32)), vi p1, vi p4, vi p3, vi (((p6.toUInt32 >>> ((2 : Int32) &&& 31).toUInt32).toInt32) &&& (3 : Int32)), vi p5, vi p2, vi p4, us, us, us, us, us, us, us, us, us, us]) rfl k) ?_
      show Go _ _ _ (s₁.setTop (mkF m 122 #[vi p1, vi p2, vi p3, vi p4, vi p5, vi p6, vi (p6 &&& (3 : Int32)), vi p1, vi p4, vi p3, vi (((p6.toUInt32 >>> ((2 : Int32) &&& 31).toUInt32).toInt32) &&& (3 : Int32)), vi p5, vi p2, vi p4, us, us, us, us, us, us, us, us, us, us] [])) _
      exact J1 _ _ p1 p4 p3 p5 p2 p4 (p6 &&& (3 : Int32)) (((p6.toUInt32 >>> ((2 : Int32) &&& 31).toUInt32).toInt32) &&& (3 : Int32)) X0 e0 N0
  ·refine G (fun t k => XS.icmpYes X0.here hx rfl (pc0 := 30) (pc' := 39) rfl (hb hby at_30) rfl (feq hc169).2 (by decide) (by decide) (XS.iload X0.here hx rfl (hb hby at_39) rfl k)) ?_
   show Go _ _ _ (s₁.setTop (mkF m 41 #[vi p1, vi p2, vi p3, vi p4, vi p5, vi p6, vi (p6 &&& (3 : Int32)), vi p1, vi p2, vi p3, us, us, us, us, us, us, us, us, us, us, us, us, us, us] [(.int (p6 &&& (3 : Int32)))])) _
   refine G (fun t k => XS.iconst X0.here hx rfl (hb hby at_41) k) ?_
   by_cases hc173 : (p6 &&& (3 : Int32)) = (3 : Int32)
   ·refine G (fun t k => XS.icmpNo X0.here hx rfl (hb hby at_42) rfl (teq hc173).2 (XS.iloadN X0.here hx rfl (hb hby at_45) rfl (XS.istore X0.here hx rfl (hb hby at_46) rfl (l' := #[vi p1, vi p2, vi p3, vi p4, vi p5, vi p6, vi (p6 &&& (3 : Int32)), vi p1, vi p2, vi p4, us, us, us, us, us, us, us, us, us, us, us, us, us, us]) rfl (XS.iload X0.here hx rfl (hb hby at_48) rfl (XS.iconst X0.here hx rfl (hb hby at_50) (XS.iushr X0.here hx rfl (hb hby at_51) rfl k)))))) ?_
    show Go _ _ _ (s₁.setTop (mkF m 52 #[vi p1, vi p2, vi p3, vi p4, vi p5, vi p6, vi (p6 &&& (3 : Int32)), vi p1, vi p2, vi p4, us, us, us, us, us, us, us, us, us, us, us, us, us, us] [(.int ((p6.toUInt32 >>> ((2 : Int32) &&& 31).toUInt32).toInt32))])) _
    refine G (fun t k => XS.iconst X0.here hx rfl (hb hby at_52) (XS.iand X0.here hx rfl (hb hby at_53) rfl (XS.istore X0.here hx rfl (hb hby at_54) rfl (l' := #[vi p1, vi p2, vi p3, vi p4, vi p5, vi p6, vi (p6 &&& (3 : Int32)), vi p1, vi p2, vi p4, vi (((p6.toUInt32 >>> ((2 : Int32) &&& 31).toUInt32).toInt32) &&& (3 : Int32)), us, us, us, us, us, us, us, us, us, us, us, us, us]) rfl (XS.iload X0.here hx rfl (hb hby at_56) rfl k)))) ?_
    by_cases hc174 : (((p6.toUInt32 >>> ((2 : Int32) &&& 31).toUInt32).toInt32) &&& (3 : Int32)) = (0 : Int32)
    ·refine G (fun t k => XS.ifNo X0.here hx rfl (hb hby at_58) rfl ((if0 _ _).trans (teq hc174).2) (XS.iloadN X0.here hx rfl (hb hby at_61) rfl (XS.istore X0.here hx rfl (hb hby at_62) rfl (l' := #[vi p1, vi p2, vi p3, vi p4, vi p5, vi p6, vi (p6 &&& (3 : Int32)), vi p1, vi p2, vi p4, vi (((p6.toUInt32 >>> ((2 : Int32) &&& 31).toUInt32).toInt32) &&& (3 : Int32)), vi p1, us, us, us, us, us, us, us, us, us, us, us, us]) rfl k))) ?_
     show Go _ _ _ (s₁.setTop (mkF m 64 #[vi p1, vi p2, vi p3, vi p4, vi p5, vi p6, vi (p6 &&& (3 : Int32)), vi p1, vi p2, vi p4, vi (((p6.toUInt32 >>> ((2 : Int32) &&& 31).toUInt32).toInt32) &&& (3 : Int32)), vi p1, us, us, us, us, us, us, us, us, us, us, us, us] [])) _
     refine G (fun t k => XS.iloadN X0.here hx rfl (hb hby at_64) rfl (XS.istore X0.here hx rfl (hb hby at_65) rfl (l' := #[vi p1, vi p2, vi p3, vi p4, vi p5, vi p6, vi (p6 &&& (3 : Int32)), vi p1, vi p2, vi p4, vi (((p6.toUInt32 >>> ((2 : Int32) &&& 31).toUInt32).toInt32) &&& (3 : Int32)), vi p1, vi p2, us, us, us, us, us, us, us, us, us, us, us]) rfl (XS.iloadN X0.here hx rfl (hb hby at_67) rfl (XS.istore X0.here hx rfl (hb hby at_68) rfl (l' := #[vi p1, vi p2, vi p3, vi p4, vi p5, vi p6, vi (p6 &&& (3 : Int32)), vi p1, vi p2, vi p4, vi (((p6.toUInt32 >>> ((2 : Int32) &&& 31).toUInt32).toInt32) &&& (3 : Int32)), vi p1, vi p2, vi p3, us, us, us, us, us, us, us, us, us, us]) rfl (XS.goto X0.here hx rfl (pc0 := 70) (pc' := 122) rfl (hb hby at_70) (by decide) (by decide) k))))) ?_
     show Go _ _ _ (s₁.setTop (mkF m 122 #[vi p1, vi p2, vi p3, vi p4, vi p5, vi p6, vi (p6 &&& (3 : Int32)), vi p1, vi p2, vi p4, vi (((p6.toUInt32 >>> ((2 : Int32) &&& 31).toUInt32).toInt32) &&& (3 : Int32)), vi p1, vi p2, vi p3, us, us, us, us, us, us, us, us, us, us] [])) _
     exact J1 _ _ p1 p2 p4 p1 p2 p3 (p6 &&& (3 : Int32)) (((p6.toUInt32 >>> ((2 : Int32) &&& 31).toUInt32).toInt32) &&& (3 : Int32)) X0 e0 N0
    ·refine G (fun t k => XS.ifYes X0.here hx rfl (pc0 := 58) (pc' := 73) rfl (hb hby at_58) rfl ((if0 _ _).trans (feq hc174).2) (by decide) (by decide) (XS.iload X0.here hx rfl (hb hby at_73) rfl (XS.iconst X0.here hx rfl (hb hby at_75) k))) ?_
     show Go _ _ _ (s₁.setTop (mkF m 76 #[vi p1, vi p2, vi p3, vi p4, vi p5, vi p6, vi (p6 &&& (3 : Int32)), vi p1, vi p2, vi p4, vi (((p6.toUInt32 >>> ((2 : Int32) &&& 31).toUInt32).toInt32) &&& (3 : Int32)), us, us, us, us, us, us, us, us, us, us, us, us, us] [(.int 1), (.int (((p6.toUInt32 >>> ((2 : Int32) &&& 31).toUInt32).toInt32) &&& (3 : Int32)))])) _
     by_cases hc175 : (((p6.toUInt32 >>> ((2 : Int32) &&& 31).toUInt32).toInt32) &&& (3 : Int32)) = (1 : Int32)
     ·refine G (fun t k => XS.icmpNo X0.here hx rfl (hb hby at_76) rfl (teq hc175).2 (XS.iload X0.here hx rfl (hb hby at_79) rfl (XS.istore X0.here hx rfl (hb hby at_81) rfl (l' := #[vi p1, vi p2, vi p3, vi p4, vi p5, vi p6, vi (p6 &&& (3 : Int32)), vi p1, vi p2, vi p4, vi (((p6.toUInt32 >>> ((2 : Int32) &&& 31).toUInt32).toInt32) &&& (3 : Int32)), vi p1, us, us, us, us, us, us, us, us, us, us, us, us]) rfl (XS.iload X0.here hx rfl (hb hby at_83) rfl (XS.istore X0.here hx rfl (hb hby at_85) rfl (l' := #[vi p1, vi p2, vi p3, vi p4, vi p5, vi p6, vi (p6 &&& (3 : Int32)), vi p1, vi p2, vi p4, vi (((p6.toUInt32 >>> ((2 : Int32) &&& 31).toUInt32).toInt32) &&& (3 : Int32)), vi p1, vi p2, us, us, us, us, us, us, us, us, us, us, us]) rfl (XS.iload X0.here hx rfl (hb hby at_87) rfl k)))))) ?_
      refine G (fun t k => XS.istore X0.here hx rfl (hb hby at_89) rfl (l' := #[vi p1, vi p2, vi p3, vi p4, vi p5, vi p6, vi (p6 &&& (3 : Int32)), vi p1, vi p2, vi p4, vi (((p6.toUInt32 >>> ((2 : Int32) &&& 31).toUInt32).toInt32) &&& (3 : Int32)), vi p1, vi p2, vi p4, us, us, us, us, us, us, us, us, us, us]) rfl k) ?_
      show Go _ _ _ (s₁.setTop (mkF m 91 #[vi p1, vi p2, vi p3, vi p4, vi p5, vi p6, vi (p6 &&& (3 : Int32)), vi p1, vi p2, vi p4, vi (((p6.toUInt32 >>> ((2 : Int32) &&& 31).toUInt32).toInt32) &&& (3 : Int32)), vi p1, vi p2, vi p4, us, us, us, us, us, us, us, us, us, us] [])) _
      refine G (fun t k => XS.goto X0.here hx rfl (pc0 := 91) (pc' := 122) rfl (hb hby at_91) (by decide) (by decide) k) ?_
      show Go _ _ _ (s₁.setTop (mkF m 122 #[vi p1, vi p2, vi p3, vi p4, vi p5, vi p6, vi (p6 &&& (3 : Int32)), vi p1, vi p2, vi p4, vi (((p6.toUInt32 >>> ((2 : Int32) &&& 31).toUInt32).toInt32) &&& (3 : Int32)), vi p1, vi p2, vi p4, us, us, us, us, us, us, us, us, us, us] [])) _
      exact J1 _ _ p1 p2 p4 p1 p2 p4 (p6 &&& (3 : Int32)) (((p6.toUInt32 >>> ((2 : Int32) &&& 31).toUInt32).toInt32) &&& (3 : Int32)) X0 e0 N0
     ·refine G (fun t k => XS.icmpYes X0.here hx rfl (pc0 := 76) (pc' := 94) rfl (hb hby at_76) rfl (feq hc175).2 (by decide) (by decide) (XS.iload X0.here hx rfl (hb hby at_94) rfl (XS.iconst X0.here hx rfl (hb hby at_96) k))) ?_
      by_cases hc176 : (((p6.toUInt32 >>> ((2 : Int32) &&& 31).toUInt32).toInt32) &&& (3 : Int32)) = (2 : Int32)
      ·refine G (fun t k => XS.icmpNo X0.here hx rfl (hb hby at_97) rfl (teq hc176).2 (XS.iloadN X0.here hx rfl (hb hby at_100) rfl (XS.istore X0.here hx rfl (hb hby at_101) rfl (l' := #[vi p1, vi p2, vi p3, vi p4, vi p5, vi p6, vi (p6 &&& (3 : Int32)), vi p1, vi p2, vi p4, vi (((p6.toUInt32 >>> ((2 : Int32) &&& 31).toUInt32).toInt32) &&& (3 : Int32)), vi p3, us, us, us, us, us, us, us, us, us, us, us, us]) rfl (XS.iloadN X0.here hx rfl (hb hby at_103) rfl k)))) ?_
       show Go _ _ _ (s₁.setTop (mkF m 104 #[vi p1, vi p2, vi p3, vi p4, vi p5, vi p6, vi (p6 &&& (3 : Int32)), vi p1, vi p2, vi p4, vi (((p6.toUInt32 >>> ((2 : Int32) &&& 31).toUInt32).toInt32) &&& (3 : Int32)), vi p3, us, us, us, us, us, us, us, us, us, us, us, us] [(.int p2)])) _
       refine G (fun t k => XS.istore X0.here hx rfl (hb hby at_104) rfl (l' := #[vi p1, vi p2, vi p3, vi p4, vi p5, vi p6, vi (p6 &&& (3 : Int32)), vi p1, vi p2, vi p4, vi (((p6.toUInt32 >>> ((2 : Int32) &&& 31).toUInt32).toInt32) &&& (3 : Int32)), vi p3, vi p2, us, us, us, us, us, us, us, us, us, us, us]) rfl (XS.iloadN X0.here hx rfl (hb hby at_106) rfl (XS.istore X0.here hx rfl (hb hby at_107) rfl (l' := #[vi p1, vi p2, vi p3, vi p4, vi p5, vi p6, vi (p6 &&& (3 : Int32)), vi p1, vi p2, vi p4, vi (((p6.toUInt32 >>> ((2 : Int32) &&& 31).toUInt32).toInt32) &&& (3 : Int32)), vi p3, vi p2, vi p1, us, us, us, us, us, us, us, us, us, us]) rfl (XS.goto X0.here hx rfl (pc0 := 109) (pc' := 122) rfl (hb hby at_109) (by decide) (by decide) k)))) ?_
       show Go _ _ _ (s₁.setTop (mkF m 122 #[vi p1, vi p2, vi p3, vi p4, vi p5, vi p6, vi (p6 &&& (3 : Int32)), vi p1, vi p2, vi p4, vi (((p6.toUInt32 >>> ((2 : Int32) &&& 31).toUInt32).toInt32) &&& (3 : Int32)), vi p3, vi p2, vi p1, us, us, us, us, us, us, us, us, us, us] [])) _
       exact J1 _ _ p1 p2 p4 p3 p2 p1 (p6 &&& (3 : Int32)) (((p6.toUInt32 >>> ((2 : Int32) &&& 31).toUInt32).toInt32) &&& (3 : Int32)) X0 e0 N0
      ·refine G (fun t k => XS.icmpYes X0.here hx rfl (pc0 := 97) (pc' := 112) rfl (hb hby at_97) rfl (feq hc176).2 (by decide) (by decide) (XS.iload X0.here hx rfl (hb hby at_112) rfl (XS.istore X0.here hx rfl (hb hby at_114) rfl (l' := #[vi p1, vi p2, vi p3, vi p4, vi p5, vi p6, vi (p6 &&& (3 : Int32)), vi p1, vi p2, vi p4, vi (((p6.toUInt32 >>> ((2 : Int32) &&& 31).toUInt32).toInt32) &&& (3 : Int32)), vi p5, us, us, us, us, us, us, us, us, us, us, us, us]) rfl (XS.iloadN X0.here hx rfl (hb hby at_116) rfl k)))) ?_
       show Go _ _ _ (s₁.setTop (mkF m 117 #[vi p1, vi p2, vi p3, vi p4, vi p5, vi p6, vi (p6 &&& (3 : Int32)), vi p1, vi p2, vi p4, vi (((p6.toUInt32 >>> ((2 : Int32) &&& 31).toUInt32).toInt32) &&& (3 : Int32)), vi p5, us, us, us, us, us, us, us, us, us, us, us, us] [(.int p2)])) _
       refine G (fun t k => XS.istore X0.here hx rfl (hb hby at_117) rfl (l' := #[vi p1, vi p2, vi p3, vi p4, vi p5, vi p6, vi (p6 &&& (3 : Int32)), vi p1, vi p2, vi p4, vi (((p6.toUInt32 >>> ((2 : Int32) &&& 31).toUInt32).toInt32) &&& (3 : Int32)), vi p5, vi p2, us, us, us, us, us, us, us, us, us, us, us]) rfl (XS.iloadN X0.here hx rfl (hb hby at_119) rfl (XS.istore X0.here hx rfl (hb hby at_120) rfl (l' := #[vi p1, vi p2, vi p3, vi p4, vi p5, vi p6, vi (p6 &&& (3 : Int32)), vi p1, vi p2, vi p4, vi (((p6.toUInt32 >>> ((2 : Int32) &&& 31).toUInt32).toInt32) &&& (3 : Int32)), vi p5, vi p2, vi p4, us, us, us, us, us, us, us, us, us, us]) rfl k))) ?_
       show Go _ _ _ (s₁.setTop (mkF m 122 #[vi p1, vi p2, vi p3, vi p4, vi p5, vi p6, vi (p6 &&& (3 : Int32)), vi p1, vi p2, vi p4, vi (((p6.toUInt32 >>> ((2 : Int32) &&& 31).toUInt32).toInt32) &&& (3 : Int32)), vi p5, vi p2, vi p4, us, us, us, us, us, us, us, us, us, us] [])) _
       exact J1 _ _ p1 p2 p4 p5 p2 p4 (p6 &&& (3 : Int32)) (((p6.toUInt32 >>> ((2 : Int32) &&& 31).toUInt32).toInt32) &&& (3 : Int32)) X0 e0 N0
   ·refine G (fun t k => XS.icmpYes X0.here hx rfl (pc0 := 42) (pc' := 48) rfl (hb hby at_42) rfl (feq hc173).2 (by decide) (by decide) (XS.iload X0.here hx rfl (hb hby at_48) rfl (XS.iconst X0.here hx rfl (hb hby at_50) (XS.iushr X0.here hx rfl (hb hby at_51) rfl (XS.iconst X0.here hx rfl (hb hby at_52) (XS.iand X0.here hx rfl (hb hby at_53) rfl k)))))) ?_
    show Go _ _ _ (s₁.setTop (mkF m 54 #[vi p1, vi p2, vi p3, vi p4, vi p5, vi p6, vi (p6 &&& (3 : Int32)), vi p1, vi p2, vi p3, us, us, us, us, us, us, us, us, us, us, us, us, us, us] [(.int (((p6.toUInt32 >>> ((2 : Int32) &&& 31).toUInt32).toInt32) &&& (3 : Int32)))])) _
    refine G (fun t k => XS.istore X0.here hx rfl (hb hby at_54) rfl (l' := #[vi p1, vi p2, vi p3, vi p4, vi p5, vi p6, vi (p6 &&& (3 : Int32)), vi p1, vi p2, vi p3, vi (((p6.toUInt32 >>> ((2 : Int32) &&& 31).toUInt32).toInt32) &&& (3 : Int32)), us, us, us, us, us, us, us, us, us, us, us, us, us]) rfl (XS.iload X0.here hx rfl (hb hby at_56) rfl k)) ?_
    by_cases hc177 : (((p6.toUInt32 >>> ((2 : Int32) &&& 31).toUInt32).toInt32) &&& (3 : Int32)) = (0 : Int32)
    ·refine G (fun t k => XS.ifNo X0.here hx rfl (hb hby at_58) rfl ((if0 _ _).trans (teq hc177).2) (XS.iloadN X0.here hx rfl (hb hby at_61) rfl (XS.istore X0.here hx rfl (hb hby at_62) rfl (l' := #[vi p1, vi p2, vi p3, vi p4, vi p5, vi p6, vi (p6 &&& (3 : Int32)), vi p1, vi p2, vi p3, vi (((p6.toUInt32 >>> ((2 : Int32) &&& 31).toUInt32).toInt32) &&& (3 : Int32)), vi p1, us, us, us, us, us, us, us, us, us, us, us, us]) rfl (XS.iloadN X0.here hx rfl (hb hby at_64) rfl (XS.istore X0.here hx rfl (hb hby at_65) rfl (l' := #[vi p1, vi p2, vi p3, vi p4, vi p5, vi p6, vi (p6 &&& (3 : Int32)), vi p1, vi p2, vi p3, vi (((p6.toUInt32 >>> ((2 : Int32) &&& 31).toUInt32).toInt32) &&& (3 : Int32)), vi p1, vi p2, us, us, us, us, us, us, us, us, us, us, us]) rfl k))))) ?_
     show Go _ _ _ (s₁.setTop (mkF m 67 #[vi p1, vi p2, vi p3, vi p4, vi p5, vi p6, vi (p6 &&& (3 : Int32)), vi p1, vi p2, vi p3, vi (((p6.toUInt32 >>> ((2 : Int32) &&& 31).toUInt32).toInt32) &&& (3 : Int32)), vi p1, vi p2, us, us, us, us, us, us, us, us, us, us, us] [])) _
     refine G (fun t k => XS.iloadN X0.here hx rfl (hb hby at_67) rfl (XS.istore X0.here hx rfl (hb hby at_68) rfl (l' := #[vi p1, vi p2, vi p3, vi p4, vi p5, vi p6, vi (p6 &&& (3 : Int32)), vi p1, vi p2, vi p3, vi (((p6.toUInt32 >>> ((2 : Int32) &&& 31).toUInt32).toInt32) &&& (3 : Int32)), vi p1, vi p2, vi p3, us, us, us, us, us, us, us, us, us, us]) rfl (XS.goto X0.here hx rfl (pc0 := 70) (pc' := 122) rfl (hb hby at_70) (by decide) (by decide) k))) ?_
     show Go _ _ _ (s₁.setTop (mkF m 122 #[vi p1, vi p2, vi p3, vi p4, vi p5, vi p6, vi (p6 &&& (3 : Int32)), vi p1, vi p2, vi p3, vi (((p6.toUInt32 >>> ((2 : Int32) &&& 31).toUInt32).toInt32) &&& (3 : Int32)), vi p1, vi p2, vi p3, us, us, us, us, us, us, us, us, us, us] [])) _
     exact J1 _ _ p1 p2 p3 p1 p2 p3 (p6 &&& (3 : Int32)) (((p6.toUInt32 >>> ((2 : Int32) &&& 31).toUInt32).toInt32) &&& (3 : Int32)) X0 e0 N0
    ·refine G (fun t k => XS.ifYes X0.here hx rfl (pc0 := 58) (pc' := 73) rfl (hb hby at_58) rfl ((if0 _ _).trans (feq hc177).2) (by decide) (by decide) (XS.iload X0.here hx rfl (hb hby at_73) rfl (XS.iconst X0.here hx rfl (hb hby at_75) k))) ?_
     by_cases hc178 : (((p6.toUInt32 >>> ((2 : Int32) &&& 31).toUInt32).toInt32) &&& (3 : Int32)) = (1 : Int32)
     ·refine G (fun t k => XS.icmpNo X0.here hx rfl (hb hby at_76) rfl (teq hc178).2 (XS.iload X0.here hx rfl (hb hby at_79) rfl k)) ?_
      show Go _ _ _ (s₁.setTop (mkF m 81 #[vi p1, vi p2, vi p3, vi p4, vi p5, vi p6, vi (p6 &&& (3 : Int32)), vi p1, vi p2, vi p3, vi (((p6.toUInt32 >>> ((2 : Int32) &&& 31).toUInt32).toInt32) &&& (3 : Int32)), us, us, us, us, us, us, us, us, us, us, us, us, us] [(.int p1)])) _
      refine G (fun t k => XS.istore X0.here hx rfl (hb hby at_81) rfl (l' := #[vi p1, vi p2, vi p3, vi p4, vi p5, vi p6, vi (p6 &&& (3 : Int32)), vi p1, vi p2, vi p3, vi (((p6.toUInt32 >>> ((2 : Int32) &&& 31).toUInt32).toInt32) &&& (3 : Int32)), vi p1, us, us, us, us, us, us, us, us, us, us, us, us]) rfl (XS.iload X0.here hx rfl (hb hby at_83) rfl (XS.istore X0.here hx rfl (hb hby at_85) rfl (l' := #[vi p1, vi p2, vi p3, vi p4, vi p5, vi p6, vi (p6 &&& (3 : Int32)), vi p1, vi p2, vi p3, vi (((p6.toUInt32 >>> ((2 : Int32) &&& 31).toUInt32).toInt32) &&& (3 : Int32)), vi p1, vi p2, us, us, us, us, us, us, us, us, us, us, us]) rfl (XS.iload X0.here hx rfl (hb hby at_87) rfl (XS.istore X0.here hx rfl (hb hby at_89) rfl (l' := #[vi p1, vi p2, vi p3, vi p4, vi p5, vi p6, vi (p6 &&& (3 : Int32)), vi p1, vi p2, vi p3, vi (((p6.toUInt32 >>> ((2 : Int32) &&& 31).toUInt32).toInt32) &&& (3 : Int32)), vi p1, vi p2, vi p3, us, us, us, us, us, us, us, us, us, us]) rfl (XS.goto X0.here hx rfl (pc0 := 91) (pc' := 122) rfl (hb hby at_91) (by decide) (by decide) k)))))) ?_
      show Go _ _ _ (s₁.setTop (mkF m 122 #[vi p1, vi p2, vi p3, vi p4, vi p5, vi p6, vi (p6 &&& (3 : Int32)), vi p1, vi p2, vi p3, vi (((p6.toUInt32 >>> ((2 : Int32) &&& 31).toUInt32).toInt32) &&& (3 : Int32)), vi p1, vi p2, vi p3, us, us, us, us, us, us, us, us, us, us] [])) _
      exact J1 _ _ p1 p2 p3 p1 p2 p3 (p6 &&& (3 : Int32)) (((p6.toUInt32 >>> ((2 : Int32) &&& 31).toUInt32).toInt32) &&& (3 : Int32)) X0 e0 N0
     ·refine G (fun t k => XS.icmpYes X0.here hx rfl (pc0 := 76) (pc' := 94) rfl (hb hby at_76) rfl (feq hc178).2 (by decide) (by decide) (XS.iload X0.here hx rfl (hb hby at_94) rfl k)) ?_
      show Go _ _ _ (s₁.setTop (mkF m 96 #[vi p1, vi p2, vi p3, vi p4, vi p5, vi p6, vi (p6 &&& (3 : Int32)), vi p1, vi p2, vi p3, vi (((p6.toUInt32 >>> ((2 : Int32) &&& 31).toUInt32).toInt32) &&& (3 : Int32)), us, us, us, us, us, us, us, us, us, us, us, us, us] [(.int (((p6.toUInt32 >>> ((2 : Int32) &&& 31).toUInt32).toInt32) &&& (3 : Int32)))])) _
      refine G (fun t k => XS.iconst X0.here hx rfl (hb hby at_96) k) ?_
      by_cases hc179 : (((p6.toUInt32 >>> ((2 : Int32) &&& 31).toUInt32).toInt32) &&& (3 : Int32)) = (2 : Int32)
      ·refine G (fun t k => XS.icmpNo X0.here hx rfl (hb hby at_97) rfl (teq hc179).2 (XS.iloadN X0.here hx rfl (hb hby at_100) rfl (XS.istore X0.here hx rfl (hb hby at_101) rfl (l' := #[vi p1, vi p2, vi p3, vi p4, vi p5, vi p6, vi (p6 &&& (3 : Int32)), vi p1, vi p2, vi p3, vi (((p6.toUInt32 >>> ((2 : Int32) &&& 31).toUInt32).toInt32) &&& (3 : Int32)), vi p3, us, us, us, us, us, us, us, us, us, us, us, us]) rfl (XS.iloadN X0.here hx rfl (hb hby at_103) rfl (XS.istore X0.here hx rfl (hb hby at_104) rfl (l' := #[vi p1, vi p2, vi p3, vi p4, vi p5, vi p6, vi (p6 &&& (3 : Int32)), vi p1, vi p2, vi p3, vi (((p6.toUInt32 >>> ((2 : Int32) &&& 31).toUInt32).toInt32) &&& (3 : Int32)), vi p3, vi p2, us, us, us, us, us, us, us, us, us, us, us]) rfl (XS.iloadN X0.here hx rfl (hb hby at_106) rfl k)))))) ?_
       show Go _ _ _ (s₁.setTop (mkF m 107 #[vi p1, vi p2, vi p3, vi p4, vi p5, vi p6, vi (p6 &&& (3 : Int32)), vi p1, vi p2, vi p3, vi (((p6.toUInt32 >>> ((2 : Int32) &&& 31).toUInt32).toInt32) &&& (3 : Int32)), vi p3, vi p2, us, us, us, us, us, us, us, us, us, us, us] [(.int p1)])) _
       refine G (fun t k => XS.istore X0.here hx rfl (hb hby at_107) rfl (l' := #[vi p1, vi p2, vi p3, vi p4, vi p5, vi p6, vi (p6 &&& (3 : Int32)), vi p1, vi p2, vi p3, vi (((p6.toUInt32 >>> ((2 : Int32) &&& 31).toUInt32).toInt32) &&& (3 : Int32)), vi p3, vi p2, vi p1, us, us, us, us, us, us, us, us, us, us]) rfl (XS.goto X0.here hx rfl (pc0 := 109) (pc' := 122) rfl (hb hby at_109) (by decide) (by decide) k)) ?_
       show Go _ _ _ (s₁.setTop (mkF m 122 #[vi p1, vi p2, vi p3, vi p4, vi p5, vi p6, vi (p6 &&& (3 : Int32)), vi p1, vi p2, vi p3, vi (((p6.toUInt32 >>> ((2 : Int32) &&& 31).toUInt32).toInt32) &&& (3 : Int32)), vi p3, vi p2, vi p1, us, us, us, us, us, us, us, us, us, us] [])) _
       exact J1 _ _ p1 p2 p3 p3 p2 p1 (p6 &&& (3 : Int32)) (((p6.toUInt32 >>> ((2 : Int32) &&& 31).toUInt32).toInt32) &&& (3 : Int32)) X0 e0 N0
      ·refine G (fun t k => XS.icmpYes X0.here hx rfl (pc0 := 97) (pc' := 112) rfl (hb hby at_97) rfl (feq hc179).2 (by decide) (by decide) (XS.iload X0.here hx rfl (hb hby at_112) rfl (XS.istore X0.here hx rfl (hb hby at_114) rfl (l' := #[vi p1, vi p2, vi p3, vi p4, vi p5, vi p6, vi (p6 &&& (3 : Int32)), vi p1, vi p2, vi p3, vi (((p6.toUInt32 >>> ((2 : Int32) &&& 31).toUInt32).toInt32) &&& (3 : Int32)), vi p5, us, us, us, us, us, us, us, us, us, us, us, us]) rfl (XS.iloadN X0.here hx rfl (hb hby at_116) rfl (XS.istore X0.here hx rfl (hb hby at_117) rfl (l' := #[vi p1, vi p2, vi p3, vi p4, vi p5, vi p6, vi (p6 &&& (3 : Int32)), vi p1, vi p2, vi p3, vi (((p6.toUInt32 >>> ((2 : Int32) &&& 31).toUInt32).toInt32) &&& (3 : Int32)), vi p5, vi p2, us, us, us, us, us, us, us, us, us, us, us]) rfl (XS.iloadN X0.here hx rfl (hb hby at_119) rfl k)))))) ?_
       show Go _ _ _ (s₁.setTop (mkF m 120 #[vi p1, vi p2, vi p3, vi p4, vi p5, vi p6, vi (p6 &&& (3 : Int32)), vi p1, vi p2, vi p3, vi (((p6.toUInt32 >>> ((2 : Int32) &&& 31).toUInt32).toInt32) &&& (3 : Int32)), vi p5, vi p2, us, us, us, us, us, us, us, us, us, us, us] [(.int p4)])) _
       refine G (fun t k => XS.istore X0.here hx rfl (hb hby at_120) rfl (l' := #[vi p1, vi p2, vi p3, vi p4, vi p5, vi p6, vi (p6 &&& (3 : Int32)), vi p1, vi p2, vi p3, vi (((p6.toUInt32 >>> ((2 : Int32) &&& 31).toUInt32).toInt32) &&& (3 : Int32)), vi p5, vi p2, vi p4, us, us, us, us, us, us, us, us, us, us]) rfl k) ?_
       show Go _ _ _ (s₁.setTop (mkF m 122 #[vi p1, vi p2, vi p3, vi p4, vi p5, vi p6, vi (p6 &&& (3 : Int32)), vi p1, vi p2, vi p3, vi (((p6.toUInt32 >>> ((2 : Int32) &&& 31).toUInt32).toInt32) &&& (3 : Int32)), vi p5, vi p2, vi p4, us, us, us, us, us, us, us, us, us, us] [])) _
       exact J1 _ _ p1 p2 p3 p5 p2 p4 (p6 &&& (3 : Int32)) (((p6.toUInt32 >>> ((2 : Int32) &&& 31).toUInt32).toInt32) &&& (3 : Int32)) X0 e0 N0
theorem comes_1 {Post : Tables → Env → Array Value → State → Outcome → State → Prop} (hpost : ∀ tb e args s v u, (limb_1_1.after args s (.returned v) u = true ∧ limb_1_2.after args s (.returned v) u = true ∧ True) → FrameEnd s (.returned v) u (Jvm.fieldLocs frame_1_writes args s ++ Jvm.arrayLocs frame_1_arrays args s ++ Jvm.staticLocs frame_1_statics s) 16 768 → Post tb e args s (.returned v) u) :
  ArmFor flags0 classFile x code maxLocals ret World_1 tables_1 room_1 Calls_1 rest_1 Pre_1 Post := by
 intro l hfl _ _ p e ha hc hk s m args below hf hA hF happ hP
 obtain ⟨hcalls, hrest, hpre⟩ := hP
 obtain ⟨-, -, -, hnamed, -, -, -, hat⟩ := (Spec.applies_iff hf).mp happ
 obtain ⟨hg, hn⟩ := and_e (Cond.before_iff.mp (show (Jvm.Cond.and given_1 narrow_1).before args s = true from hpre))
 obtain ⟨g1, g2⟩ := and_e hg
 obtain ⟨g3, g4⟩ := and_e g2
 obtain ⟨g5, g6⟩ := and_e g4
 obtain ⟨g7, g8⟩ := and_e g6
 obtain ⟨g9, g10⟩ := and_e g8
 obtain ⟨g11, g12⟩ := and_e g10
 obtain ⟨w0, w1, w2, w3, w4, w5, rfl⟩ : ∃ w0 w1 w2 w3 w4 w5 : Value, args = #[w0, w1, w2, w3, w4, w5] := by
  have hs : args.size = 6 := by simpa [Cond.value, given_1] using g1
  obtain ⟨L⟩ := args
  match L, hs with
  | [w0, w1, w2, w3, w4, w5], _ => exact ⟨w0, w1, w2, w3, w4, w5, rfl⟩
 have hw := fun d (hd : d ∈ tables_1) => atoms_spec (ws := Jvm.Cond.code x code maxLocals ret :: tables_1) hat d (List.mem_cons_of_mem _ hd)
 have hfit : Fit s := fun {y c} hc i hi => by
  obtain ⟨ha, rfl⟩ := Array.getElem?_eq_some_iff.mp hc
  have q := List.all_eq_true.mp ((Array.all_eq_true_iff_forall_mem.mp hF) _ (Array.getElem_mem ha)) i (List.mem_range.mpr hi)
  simpa [Array.getElem?_eq_getElem hi] using q
 obtain ⟨i0, ei0⟩ := is_v g3
 obtain rfl : w0 = (.int i0) := Option.some.inj ei0
 obtain ⟨i1, ei1⟩ := is_v g5
 obtain rfl : w1 = (.int i1) := Option.some.inj ei1
 obtain ⟨i2, ei2⟩ := is_v g7
 obtain rfl : w2 = (.int i2) := Option.some.inj ei2
 obtain ⟨i3, ei3⟩ := is_v g9
 obtain rfl : w3 = (.int i3) := Option.some.inj ei3
 obtain ⟨i4, ei4⟩ := is_v g11
 obtain rfl : w4 = (.int i4) := Option.some.inj ei4
 obtain ⟨i5, ei5⟩ := is_v g12
 obtain rfl : w5 = (.int i5) := Option.some.inj ei5
 have hplain := trivial
 obtain ⟨n, o, h1, h2, h3, _, L, rfl, ⟨rfl, N⟩, hq⟩ := rm0 l s _ hw tables_1 i0 i1 i2 i3 i4 i5 s.heap s.heap.size (Nat.le_refl _)  p e ha hc hk s m _ below hf ((Spec.applies_iff_loose hf).mp happ).1 ⟨rfl, State.Warmed39.refl s, rfl⟩ trivial
 refine ⟨n, _, h1, h2, h3, hpost _ _ _ _ _ _ ⟨Cond.after_iff.mpr rfl, Cond.after_iff.mpr (eq_i res_at (Term.int_eval (1)) rfl), trivial⟩ ⟨hq.1, hq.2.1, (hq.2.2.sift fun y hy => Or.inr (N y hy)).mono (by decide) (by decide)⟩⟩
theorem main_1_1 : Claimed_1_1 := comes_1 fun _ _ _ _ _ _ h hF => ⟨h.1, hF⟩
theorem main_1_2 : Claimed_1_2 := comes_1 fun _ _ _ _ _ _ h hF => ⟨h.2.1, hF⟩
end Jvm.Pilot.@@N@@
namespace Jvm.Pilot.@@N@@
open Jvm Jvm.ClassFile Sem Op Lib Jvm.Free Jvm.Stand Jvm.Pilot.@@N@@.Jvm.D
/-! MADE BY PROGRAM (witnessworld.py) out of the Statement's table words and the real class files: 9 classes; the members and pool entries that the words name. The judged class is class 1, her method 1. -/
namespace start1
open Jvm.ClassFile
def u (s : String) : CpInfo := .utf8 (stringToUtf16 s)
/-- a pool by its gaps: so many unusable entries, then the entry; so many at the end -/
def gap : Nat → List CpInfo → List CpInfo
  | 0, r => r
  | n + 1, r => .unusable :: gap n r
def poolList (es : List (Nat × CpInfo)) (last : Nat) : List CpInfo := es.foldr (fun e r => gap e.1 (e.2 :: r)) (gap last [])
def pool (es : List (Nat × CpInfo)) (last : Nat) : Array CpInfo := ⟨poolList es last⟩
def fileOf (pool : Array CpInfo) (this : Nat) (attrs : Array Attribute := #[]) (ms : Array MethodInfo := #[]) (fl : Nat := 33) (sup : Nat := 0) (ifs : Array Nat := #[]) (fds : Array FieldInfo := #[]) : ClassFile where
  minorVersion := 0
  majorVersion := 65
  constantPool := pool
  accessFlags := fl
  thisClass := this
  superClass := sup
  interfaces := ifs
  fields := fds
  methods := ms
  attributes := attrs
def plain (name : String) (sup : Option ClassId) : Class where
  name := name
  kind := .ordinary
  loader := none
  accessFlags := 33
  super := sup
  interfaces := #[]
  cf := none
  fields := #[]
  methods := #[]
  instanceTypes := #[]
  staticTypes := #[]
  resolved := #[]
  callSites := []
  init := .initialized
  statics := none
  mirror := none

def pool0 : Array CpInfo := pool [(5, u "<init>"), (0, u "()V"), (1, .class_ 10), (1, u "java/lang/Object")] 113

def k0c0 : Code := { maxStack := 0, maxLocals := 1, code := object_method_1_code, exceptionTable := #[], attributes := #[] }
def k0m0 : Method := { name := "<init>", desc := "()V", sig := { parameters := [], returnType := none }, accessFlags := 1, code := some k0c0 }
/-- java/lang/Object -/
def k0 : Class := { plain "java/lang/Object" none with
  accessFlags := 33
  interfaces := #[]
  cf := some (fileOf pool0 8 #[] #[{ accessFlags := 1, nameIndex := 5, descriptorIndex := 6, attributes := #[] }] 33 0 #[] #[])
  fields := #[]
  methods := #[k0m0]
  instanceTypes := #[]
  staticTypes := #[]
  resolved := Array.replicate 124 none
  statics := none }

def pool1 : Array CpInfo := pool [(2, .class_ 4), (0, .nameAndType 5 6), (0, u "java/lang/Object"), (0, u "<init>"), (0, u "()V"), (0, .class_ 8), (0, u "com/example/tripletype/tripletype/TripleTable"), (0, .methodref 7 3), (0, .methodref 7 11), (0, .nameAndType 12 13), (0, u "add"), (0, u "(III)Z"), (0, .methodref 7 15), (0, .nameAndType 16 17), (0, u "size"), (0, u "()I"), (0, .methodref 7 19), (0, .nameAndType 20 21), (0, u "subject"), (0, u "(I)I"), (0, .methodref 7 23), (0, .nameAndType 24 21), (0, u "predicate"), (0, .methodref 7 26), (0, .nameAndType 27 21), (0, u "object"), (0, .class_ 29), (0, u "com/example/tripletype/tripletype/TripleTableAddPinLaw"), (2, u "law"), (0, u "(IIIIII)Z")] 5

def k1m0 : Method := { name := "<init>", desc := "()V", sig := { parameters := [], returnType := none }, accessFlags := 1, code := none }
def k1c1 : Code := { maxStack := 4, maxLocals := 24, code := code, exceptionTable := #[], attributes := #[] }
def k1m1 : Method := { name := "law", desc := "(IIIIII)Z", sig := { parameters := [.int, .int, .int, .int, .int, .int], returnType := some .boolean }, accessFlags := 9, code := some k1c1 }
/-- com/example/tripletype/tripletype/TripleTableAddPinLaw -/
def k1 : Class := { plain "com/example/tripletype/tripletype/TripleTableAddPinLaw" (some 0) with
  accessFlags := 49
  interfaces := #[]
  cf := some (fileOf pool1 28 #[] #[{ accessFlags := 1, nameIndex := 5, descriptorIndex := 6, attributes := #[] }, { accessFlags := 9, nameIndex := 32, descriptorIndex := 33, attributes := #[] }] 49 2 #[] #[])
  fields := #[]
  methods := #[k1m0, k1m1]
  instanceTypes := #[]
  staticTypes := #[]
  resolved := Array.replicate 39 none
  statics := none }

def pool2 : Array CpInfo := pool [(1, .methodref 2 3), (0, .class_ 4), (0, .nameAndType 5 6), (0, u "java/lang/Object"), (0, u "<init>"), (0, u "()V"), (0, .fieldref 8 9), (0, .class_ 10), (0, .nameAndType 11 12), (0, u "com/example/tripletype/tripletype/TripleTable"), (0, u "terms"), (0, u "[I"), (0, .fieldref 8 14), (0, .nameAndType 15 12), (0, u "slots"), (0, .methodref 8 17), (0, .nameAndType 18 19), (0, u "hash"), (0, u "(III)I"), (0, .fieldref 8 21), (0, .nameAndType 22 23), (0, u "size"), (0, u "I"), (12, u "subject"), (0, u "(I)I"), (2, u "predicate"), (2, u "object"), (0, .long 11400714819323198485), (1, .long 14029467366897019727), (1, .long 1609587929392839161), (3, u "add"), (0, u "(III)Z"), (1, u "()I")] 2

def k2c0 : Code := { maxStack := 2, maxLocals := 1, code := prog_9_method_1_code, exceptionTable := #[], attributes := #[] }
def k2m0 : Method := { name := "<init>", desc := "()V", sig := { parameters := [], returnType := none }, accessFlags := 0, code := some k2c0 }
def k2c1 : Code := { maxStack := 5, maxLocals := 7, code := prog_9_method_2_code, exceptionTable := #[], attributes := #[] }
def k2m1 : Method := { name := "add", desc := "(III)Z", sig := { parameters := [.int, .int, .int], returnType := some .boolean }, accessFlags := 0, code := some k2c1 }
def k2c2 : Code := { maxStack := 1, maxLocals := 1, code := prog_9_method_3_code, exceptionTable := #[], attributes := #[] }
def k2m2 : Method := { name := "size", desc := "()I", sig := { parameters := [], returnType := some .int }, accessFlags := 0, code := some k2c2 }
def k2c3 : Code := { maxStack := 3, maxLocals := 2, code := prog_9_method_4_code, exceptionTable := #[], attributes := #[] }
def k2m3 : Method := { name := "subject", desc := "(I)I", sig := { parameters := [.int], returnType := some .int }, accessFlags := 0, code := some k2c3 }
def k2c4 : Code := { maxStack := 3, maxLocals := 2, code := prog_9_method_5_code, exceptionTable := #[], attributes := #[] }
def k2m4 : Method := { name := "predicate", desc := "(I)I", sig := { parameters := [.int], returnType := some .int }, accessFlags := 0, code := some k2c4 }
def k2c5 : Code := { maxStack := 3, maxLocals := 2, code := prog_9_method_6_code, exceptionTable := #[], attributes := #[] }
def k2m5 : Method := { name := "object", desc := "(I)I", sig := { parameters := [.int], returnType := some .int }, accessFlags := 0, code := some k2c5 }
def k2c6 : Code := { maxStack := 5, maxLocals := 5, code := prog_9_method_8_code, exceptionTable := #[], attributes := #[] }
def k2m6 : Method := { name := "hash", desc := "(III)I", sig := { parameters := [.int, .int, .int], returnType := some .int }, accessFlags := 10, code := some k2c6 }
/-- com/example/tripletype/tripletype/TripleTable -/
def k2 : Class := { plain "com/example/tripletype/tripletype/TripleTable" (some 0) with
  accessFlags := 48
  interfaces := #[]
  cf := some (fileOf pool2 8 #[] #[{ accessFlags := 0, nameIndex := 5, descriptorIndex := 6, attributes := #[] }, { accessFlags := 0, nameIndex := 52, descriptorIndex := 53, attributes := #[] }, { accessFlags := 0, nameIndex := 22, descriptorIndex := 55, attributes := #[] }, { accessFlags := 0, nameIndex := 36, descriptorIndex := 37, attributes := #[] }, { accessFlags := 0, nameIndex := 40, descriptorIndex := 37, attributes := #[] }, { accessFlags := 0, nameIndex := 43, descriptorIndex := 37, attributes := #[] }, { accessFlags := 10, nameIndex := 18, descriptorIndex := 19, attributes := #[] }] 48 2 #[] #[{ accessFlags := 2, nameIndex := 11, descriptorIndex := 12, attributes := #[] }, { accessFlags := 2, nameIndex := 22, descriptorIndex := 23, attributes := #[] }, { accessFlags := 2, nameIndex := 15, descriptorIndex := 12, attributes := #[] }])
  fields := #[{ name := "terms", type := (.array .int), accessFlags := 2, slot := 0, constantValue := 0 }, { name := "size", type := .int, accessFlags := 2, slot := 1, constantValue := 0 }, { name := "slots", type := (.array .int), accessFlags := 2, slot := 2, constantValue := 0 }]
  methods := #[k2m0, k2m1, k2m2, k2m3, k2m4, k2m5, k2m6]
  instanceTypes := #[(.array .int), .int, (.array .int)]
  staticTypes := #[]
  resolved := Array.replicate 58 none
  statics := none }

def pool3 : Array CpInfo := pool [(1, u "java/lang/Cloneable"), (0, .class_ 1), (0, u "java/lang/Object"), (0, .class_ 3)] 3

/-- java/lang/Cloneable -/
def k3 : Class := { plain "java/lang/Cloneable" (some 0) with
  accessFlags := 1537
  interfaces := #[]
  cf := some (fileOf pool3 2 #[] #[] 1537 4 #[] #[])
  fields := #[]
  methods := #[]
  instanceTypes := #[]
  staticTypes := #[]
  resolved := Array.replicate 8 none
  statics := none }

def pool4 : Array CpInfo := pool [(1, u "java/io/Serializable"), (0, .class_ 1), (0, u "java/lang/Object"), (0, .class_ 3)] 3

/-- java/io/Serializable -/
def k4 : Class := { plain "java/io/Serializable" (some 0) with
  accessFlags := 1537
  interfaces := #[]
  cf := some (fileOf pool4 2 #[] #[] 1537 4 #[] #[])
  fields := #[]
  methods := #[]
  instanceTypes := #[]
  staticTypes := #[]
  resolved := Array.replicate 8 none
  statics := none }

/-- the primitive byte -/
def k5 : Class := { plain "byte" none with kind := .primitive 'B', accessFlags := 0x411 }
/-- [B -/
def k6 : Class := { plain "[B" (some 0) with kind := .array 5 .byte, interfaces := #[3, 4], accessFlags := 1041 }

/-- the primitive int -/
def k7 : Class := { plain "int" none with kind := .primitive 'I', accessFlags := 0x411 }
/-- [I -/
def k8 : Class := { plain "[I" (some 0) with kind := .array 7 .int, interfaces := #[3, 4], accessFlags := 1041 }

def heap : Heap := #[]
def classes : Array Class := #[k0, k1, k2, k3, k4, k5, k6, k7, k8]
def interned : List (Array UInt16 × Addr) := []
def slotsUsed : Nat := 0
def theMethod : MethodId := ⟨1, 1⟩
def args0 : Array Value := #[.int 1, .int 2, .int 3, .int 4, .int 5, .int 6]
def aboutOver (below : List Frame) : State where
  vm := { classes := classes, interned := interned.toArray }
  heap := heap
  slotsUsed := slotsUsed
  threads := #[{ frames := .invoking theMethod args0 :: below }]
def below0 : List Frame := [.native { method := ⟨0, 0⟩, args := #[] }]
def about1 : State := aboutOver below0
def p0 : Program := .bare "" "" ""
def e0 : Env := launch0.env 0 0 0
theorem w_frames : about1.frames = Frame.invoking theMethod args0 :: below0 := rfl
set_option maxRecDepth 65536 in
theorem w_args : argsFit about1.vm theMethod args0 = true := by decide +kernel
set_option maxRecDepth 65536 in
theorem w_heap : heapFits about1 = true := by decide +kernel
set_option maxRecDepth 65536 in
theorem w_runnable : about1.curStatus? = some .runnable := by decide +kernel
set_option maxRecDepth 65536 in
theorem w_alone : about1.alone = true := by decide +kernel
set_option maxRecDepth 65536 in
theorem w_named : about1.methodNamed? x = some theMethod := by decide +kernel
set_option maxRecDepth 65536 in
theorem w_hears : about1.hears theMethod below0 = true := by decide +kernel
set_option maxRecDepth 65536 in
theorem w_ripe : about1.ripe theMethod args0 below0 = true := by decide +kernel
theorem w_running : about1.status = .running := rfl
set_option maxRecDepth 65536 in
theorem w_room : about1.hasRoom e0.platform room_1 = true :=
  launch0.hasRoom_least _ room_1 (by decide +kernel) (by decide +kernel) (by decide +kernel) (by decide +kernel) (by decide +kernel) (by decide +kernel)
theorem allAtoms_all (ts : List Jvm.Cond) (a : Array Jvm.Value) (st : Jvm.State) : (allAtoms ts).before a st = ts.all (fun c => c.before a st) := by
  induction ts with
  | nil => rfl
  | cons c t ih =>
    show (Jvm.Cond.and c (allAtoms t)).before a st = _
    rw [Jvm.Cond.before_and, ih, List.all_cons]
def words1 : List Jvm.Cond := Jvm.Cond.code x code maxLocals ret :: tables_1
/-- a 'code' word, met by the world's own term for the bytes: nothing is compared byte by byte -/
theorem code_word {y : MethodName} {bytes : ByteArray} {mx : Nat} {rt : Option FieldType} {a : Array Value} {s : State} {m : MethodId} {meth : Method} {c : Code} (h1 : s.methodNamed? y = some m) (h2 : s.vm.method? m = some meth) (h3 : meth.code = some c) (h4 : c.code = bytes)
    (h5 : (c.maxLocals == mx && c.exceptionTable.isEmpty && decide (c.maxStack ≤ mostOperands) && decide (meth.sig.returnType = rt) && !meth.locks && decide (parseMethodDescriptor y.desc = some meth.sig)) = true) : (Jvm.Cond.code y bytes mx rt).before a s = true := by
  simp only [Bool.and_eq_true, beq_iff_eq, Bool.not_eq_true', decide_eq_true_eq] at h5
  obtain ⟨⟨⟨⟨⟨g1, g2⟩, g3⟩, g4⟩, g5⟩, g6⟩ := h5
  simp [Cond.before, Cond.holds, Cond.value, h1, h2, h3, h4, g1, g2, g3, g4, g5, g6]
def isCode : Jvm.Cond → Bool
  | .code _ _ _ _ => true
  | _ => false
theorem all_split {L : List Jvm.Cond} {P : Jvm.Cond → Bool} (h1 : L.all (fun c => isCode c || P c) = true) (h2 : ∀ c ∈ L.filter isCode, P c = true) : L.all P = true := by
  refine List.all_eq_true.mpr fun c hc => ?_
  have h := List.all_eq_true.mp h1 c hc
  rcases Bool.eq_false_or_eq_true (isCode c) with hi | hi
  · exact h2 c (List.mem_filter.mpr ⟨hc, hi⟩)
  · simpa [hi] using h
set_option maxRecDepth 65536 in
theorem w_c0 : (Jvm.Cond.code x code maxLocals ret).before args0 about1 = true := code_word (m := ⟨1, 1⟩) (meth := k1m1) (c := k1c1) (by decide +kernel) rfl rfl rfl (by decide +kernel)
set_option maxRecDepth 65536 in
theorem w_c1 : (Jvm.Cond.code ({ cls := "com/example/tripletype/tripletype/TripleTable", name := "<init>", desc := "()V" } : Jvm.MethodName) prog_9_method_1_code (1 : Nat) (Option.none : Option Jvm.ClassFile.FieldType)).before args0 about1 = true := code_word (m := ⟨2, 0⟩) (meth := k2m0) (c := k2c0) (by decide +kernel) rfl rfl rfl (by decide +kernel)
set_option maxRecDepth 65536 in
theorem w_c2 : (Jvm.Cond.code ({ cls := "java/lang/Object", name := "<init>", desc := "()V" } : Jvm.MethodName) object_method_1_code (1 : Nat) (Option.none : Option Jvm.ClassFile.FieldType)).before args0 about1 = true := code_word (m := ⟨0, 0⟩) (meth := k0m0) (c := k0c0) (by decide +kernel) rfl rfl rfl (by decide +kernel)
set_option maxRecDepth 65536 in
theorem w_c3 : (Jvm.Cond.code ({ cls := "com/example/tripletype/tripletype/TripleTable", name := "add", desc := "(III)Z" } : Jvm.MethodName) prog_9_method_2_code (7 : Nat) (Option.some Jvm.ClassFile.FieldType.boolean)).before args0 about1 = true := code_word (m := ⟨2, 1⟩) (meth := k2m1) (c := k2c1) (by decide +kernel) rfl rfl rfl (by decide +kernel)
set_option maxRecDepth 65536 in
theorem w_c4 : (Jvm.Cond.code ({ cls := "com/example/tripletype/tripletype/TripleTable", name := "hash", desc := "(III)I" } : Jvm.MethodName) prog_9_method_8_code (5 : Nat) (Option.some Jvm.ClassFile.FieldType.int)).before args0 about1 = true := code_word (m := ⟨2, 6⟩) (meth := k2m6) (c := k2c6) (by decide +kernel) rfl rfl rfl (by decide +kernel)
set_option maxRecDepth 65536 in
theorem w_c5 : (Jvm.Cond.code ({ cls := "com/example/tripletype/tripletype/TripleTable", name := "size", desc := "()I" } : Jvm.MethodName) prog_9_method_3_code (1 : Nat) (Option.some Jvm.ClassFile.FieldType.int)).before args0 about1 = true := code_word (m := ⟨2, 2⟩) (meth := k2m2) (c := k2c2) (by decide +kernel) rfl rfl rfl (by decide +kernel)
set_option maxRecDepth 65536 in
theorem w_c6 : (Jvm.Cond.code ({ cls := "com/example/tripletype/tripletype/TripleTable", name := "subject", desc := "(I)I" } : Jvm.MethodName) prog_9_method_4_code (2 : Nat) (Option.some Jvm.ClassFile.FieldType.int)).before args0 about1 = true := code_word (m := ⟨2, 3⟩) (meth := k2m3) (c := k2c3) (by decide +kernel) rfl rfl rfl (by decide +kernel)
set_option maxRecDepth 65536 in
theorem w_c7 : (Jvm.Cond.code ({ cls := "com/example/tripletype/tripletype/TripleTable", name := "predicate", desc := "(I)I" } : Jvm.MethodName) prog_9_method_5_code (2 : Nat) (Option.some Jvm.ClassFile.FieldType.int)).before args0 about1 = true := code_word (m := ⟨2, 4⟩) (meth := k2m4) (c := k2c4) (by decide +kernel) rfl rfl rfl (by decide +kernel)
set_option maxRecDepth 65536 in
theorem w_c8 : (Jvm.Cond.code ({ cls := "com/example/tripletype/tripletype/TripleTable", name := "object", desc := "(I)I" } : Jvm.MethodName) prog_9_method_6_code (2 : Nat) (Option.some Jvm.ClassFile.FieldType.int)).before args0 about1 = true := code_word (m := ⟨2, 5⟩) (meth := k2m5) (c := k2c5) (by decide +kernel) rfl rfl rfl (by decide +kernel)
def codes1 : List Jvm.Cond := [Jvm.Cond.code x code maxLocals ret, Jvm.Cond.code ({ cls := "com/example/tripletype/tripletype/TripleTable", name := "<init>", desc := "()V" } : Jvm.MethodName) prog_9_method_1_code (1 : Nat) (Option.none : Option Jvm.ClassFile.FieldType), Jvm.Cond.code ({ cls := "java/lang/Object", name := "<init>", desc := "()V" } : Jvm.MethodName) object_method_1_code (1 : Nat) (Option.none : Option Jvm.ClassFile.FieldType), Jvm.Cond.code ({ cls := "com/example/tripletype/tripletype/TripleTable", name := "add", desc := "(III)Z" } : Jvm.MethodName) prog_9_method_2_code (7 : Nat) (Option.some Jvm.ClassFile.FieldType.boolean), Jvm.Cond.code ({ cls := "com/example/tripletype/tripletype/TripleTable", name := "hash", desc := "(III)I" } : Jvm.MethodName) prog_9_method_8_code (5 : Nat) (Option.some Jvm.ClassFile.FieldType.int), Jvm.Cond.code ({ cls := "com/example/tripletype/tripletype/TripleTable", name := "size", desc := "()I" } : Jvm.MethodName) prog_9_method_3_code (1 : Nat) (Option.some Jvm.ClassFile.FieldType.int), Jvm.Cond.code ({ cls := "com/example/tripletype/tripletype/TripleTable", name := "subject", desc := "(I)I" } : Jvm.MethodName) prog_9_method_4_code (2 : Nat) (Option.some Jvm.ClassFile.FieldType.int), Jvm.Cond.code ({ cls := "com/example/tripletype/tripletype/TripleTable", name := "predicate", desc := "(I)I" } : Jvm.MethodName) prog_9_method_5_code (2 : Nat) (Option.some Jvm.ClassFile.FieldType.int), Jvm.Cond.code ({ cls := "com/example/tripletype/tripletype/TripleTable", name := "object", desc := "(I)I" } : Jvm.MethodName) prog_9_method_6_code (2 : Nat) (Option.some Jvm.ClassFile.FieldType.int)]
set_option maxRecDepth 65536 in
theorem codes_eq : words1.filter isCode = codes1 := rfl
theorem w_codes : ∀ c ∈ words1.filter isCode, c.before args0 about1 = true := by
  rw [codes_eq]
  intro c hc
  simp only [codes1, List.mem_cons, List.not_mem_nil, or_false] at hc
  rcases hc with rfl | rfl | rfl | rfl | rfl | rfl | rfl | rfl | rfl
  · exact w_c0
  · exact w_c1
  · exact w_c2
  · exact w_c3
  · exact w_c4
  · exact w_c5
  · exact w_c6
  · exact w_c7
  · exact w_c8
set_option maxRecDepth 65536 in
theorem w_t1 : (words1.take 24).all (fun c => isCode c || c.before args0 about1) = true := by decide +kernel
set_option maxRecDepth 65536 in
theorem w_t2 : (words1.drop 24).all (fun c => isCode c || c.before args0 about1) = true := by decide +kernel
theorem w_tables : (allAtoms (Jvm.Cond.code x code maxLocals ret :: tables_1)).before args0 about1 = true := by
  rw [allAtoms_all]
  show words1.all (fun c => c.before args0 about1) = true
  refine all_split ?_ w_codes
  rw [← List.take_append_drop 24 words1, List.all_append, w_t1, w_t2]
  rfl
set_option maxRecDepth 65536 in
theorem w_case : (Jvm.Cond.and given_1 narrow_1).before args0 about1 = true := by decide +kernel
theorem w_applies : (headSpec (Jvm.Cond.code x code maxLocals ret :: tables_1) room_1).applies x e0.platform about1 = true :=
  (Spec.applies_iff w_frames).mpr ⟨w_running, w_runnable, w_alone, w_named, w_hears, w_ripe, w_room, w_tables⟩
theorem atStart : AtStart classFile x code maxLocals ret World_1 tables_1 room_1 Calls_1 rest_1 Pre_1 launch0 p0 e0 about1 theMethod args0 below0 :=
  ⟨lists_1, trivial, launch0.admits_env _ _ _, launch0.least_env, fairChoices_fair.cas, fairChoices_fair.clock, w_frames, w_args, w_heap, w_applies, trivial, trivial, w_case⟩
end start1
theorem witness_1 : WitnessClaimed_1 := ⟨start1.p0, start1.e0, start1.about1, start1.theMethod, start1.args0, start1.below0, start1.atStart⟩
end Jvm.Pilot.@@N@@
