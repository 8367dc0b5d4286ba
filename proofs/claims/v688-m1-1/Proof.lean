import JvmDerived
import JvmDerived.Pilot.@@N@@Statement
import JvmDerived.Pilot.@@N@@Code
set_option linter.unusedVariables false
set_option linter.unusedSimpArgs false
namespace Jvm.Pilot.@@N@@
open Jvm Jvm.ClassFile Sem Op Lib Jvm.Free Jvm.Stand Jvm.LawKit Jvm.RoadKit Bundle Jvm.Pilot.@@N@@.Jvm.D

def Go (tb : Tables) (e : Env) (below : List Frame) (a : State) (P : Outcome → State → Prop) : Prop := ∃ s₂ o, Steps tb e below a s₂ ∧ s₂.status = .running ∧ Ended s₂ below o ∧ P o s₂
theorem Go.st {tb : Tables} {e : Env} {below : List Frame} {a b : State} {P : Outcome → State → Prop} (h : ∀ t, Steps tb e below b t → Steps tb e below a t) (k : Go tb e below b P) : Go tb e below a P := by
  obtain ⟨s, o, h1, h2⟩ := k
  exact ⟨s, o, h _ h1, h2⟩
theorem Go.tr {tb : Tables} {e : Env} {below : List Frame} {a b : State} {P : Outcome → State → Prop} (h : Steps tb e below a b) (k : Go tb e below b P) : Go tb e below a P := Go.st (fun _ q => h.trans q) k
theorem Go.fin {tb : Tables} {e : Env} {below : List Frame} {a s₂ : State} {o : Outcome} {P : Outcome → State → Prop} (hs : Steps tb e below a s₂) (hr : s₂.status = .running) (he : Ended s₂ below o) (hP : P o s₂) : Go tb e below a P := ⟨_, _, hs, hr, he, hP⟩
theorem exa_ns {Z : State} {h : Heap} {a : Addr} {C : String} (F : Exa Z h a C) : ∃ c : Cell, h[a]? = some c ∧ c.vm.isStatics = false := by
  obtain ⟨c, _, h1, -, -, h4, -⟩ := F
  exact ⟨c, h1, h4⟩
theorem fld_ns {Z : State} {h : Heap} {a : Addr} {C n d : String} {v : Value} (F : Fld Z h a C n d v) : ∃ c : Cell, h[a]? = some c ∧ c.vm.isStatics = false := by
  obtain ⟨c, _, _, _, _, h1, -, -, -, h4, -⟩ := F
  exact ⟨c, h1, h4⟩
theorem arv_ns {Z : State} {h : Heap} {a : Addr} {k : ClassId} {ty : FieldType} {n : Int32} {vs : List Value} {d : Value} (F : Arv Z h a k ty n vs d) : ∃ c : Cell, h[a]? = some c ∧ c.vm.isStatics = false := by
  obtain ⟨c, A, -⟩ := F
  exact ⟨c, A.1, A.plain⟩
theorem sta_keep {Z : State} {h h' : Heap} {C n d : String} {v : Value} {ws : List Addr} (F : Sta Z h C n d v) (K : Keep h h' ws) (q : ∀ x ∈ ws, ∃ c : Cell, h[x]? = some c ∧ c.vm.isStatics = false) : Sta Z h' C n d v := by
  obtain ⟨cf, i, k, f, st, cell, h1, h2, h3, h4, h5, h6, h7⟩ := F
  refine ⟨cf, i, k, f, st, cell, h1, h2, h3, h4, K.2.1 st cell h5 fun z => ?_, h6, h7⟩
  obtain ⟨c, q1, q2⟩ := q st z
  cases q1.symm.trans h5
  rw [q2] at h6
  cases h6
theorem own_selp {s : State} {args : Array Value} {y : MethodName} {n : Nat} (wi : (Cond.instantiable y.cls n).before args s = true) (hp : s.PrivateAt y) (hi : (Cond.instanceMethod y).before args s = true) (hy : y.cls ≠ "java/lang/invoke/MethodHandle" ∧ y.cls ≠ "java/lang/invoke/VarHandle") : (Cond.selects y.cls y y).before args s = true := by
  obtain ⟨c, k, h1, h2, -, h4, -⟩ := Cond.instantiable_spec wi
  simp only [Bool.or_eq_false_iff] at h4
  exact selects_self_of_private h1 h2 h4.1 hp hi hy
theorem own_ne32 {x k : Int32} {a : Int} (ha : k.toInt = a) (h : ¬ x = k) : a ≠ x.toInt := fun e => h (Int32.toInt_inj.mp (e.symm.trans ha.symm))
theorem own_nn (x : Int32) : 0 ≤ (x &&& (2147483647 : Int32)).toInt := (c_andS x 2147483647).2.2 (by decide)
theorem own_rem (x : Int32) (k : Int32) (d : Int) (hd : k.toInt = d) (h0 : 0 < d) : 0 ≤ ((x &&& (2147483647 : Int32)) % k).toInt ∧ ((x &&& (2147483647 : Int32)) % k).toInt < d := by
  have h := own_nn x
  rw [Int32.toInt_mod, hd]
  exact ⟨Int.tmod_nonneg _ h, Int.tmod_lt_of_pos _ h0⟩
theorem own_remb (x : Int32) (k : Int32) (d : Int) (hd : k.toInt = d) (h0 : 0 < d) : ¬ ((x &&& (2147483647 : Int32)) % k) < 0 ∧ ((x &&& (2147483647 : Int32)) % k) < k := by
  obtain ⟨h1, h2⟩ := own_rem x k d hd h0
  rw [Int32.lt_iff_toInt_lt, Int32.lt_iff_toInt_lt, hd]
  exact ⟨Int.not_lt.mpr h1, h2⟩
def own_at (xs : List Int32) (j : Int32) : Int32 := xs.getD j.toNatClampNeg 0
theorem own_atv (xs : List Int32) (j : Int32) : (xs.map Value.int).getD j.toNatClampNeg (.int 0) = .int (own_at xs j) := by
  unfold own_at
  generalize j.toNatClampNeg = n
  induction xs generalizing n with
  | nil => rfl
  | cons a r ih => cases n with
    | zero => rfl
    | succ n => simpa using ih n
theorem own_setl {l : List Value} {k n : Nat} {v : Value} (h : l.length = n) : (l.set k v).length = n := by rw [List.length_set]; exact h
theorem own_setg {l : List Value} {k : Nat} {v d : Value} (h : k < l.length) : (l.set k v).getD k d = v := by simp [List.getD, List.getElem?_set, h]
theorem own_setn {l : List Value} {k i : Nat} {v d : Value} (h : i ≠ k) : (l.set k v).getD i d = l.getD i d := by simp [List.getD, List.getElem?_set, Ne.symm h]
theorem own_lt_of {l : List Value} {n : Nat} {j z : Int32} (h : l.length = n) (q : ¬ j < 0 ∧ j < z) (hz : z.toNatClampNeg = n := by decide) : j.toNatClampNeg < l.length := by
  rw [h, ← hz]
  obtain ⟨q1, q2⟩ := q
  rw [Int32.lt_iff_toInt_lt] at q1 q2
  have : (0 : Int32).toInt = 0 := rfl
  simp only [Int32.toNatClampNeg]
  omega
theorem own_eqi {args : Array Value} {s : State} {t : Term} {k : Int32} (h : (Jvm.Cond.eq t (.int k)).value args s none s [] = some true) : t.eval args s none [] s = some (.int k) := by
  simp only [Cond.value, Term.eval] at h
  cases ht : t.eval args s none [] s with
  | none => simp [ht] at h
  | some x => cases x <;> simp_all
theorem d1_0 : decode prog_40_method_9_code 0 = .ok (.iload_n 0, 1) := by decide +kernel
theorem d1_1 : decode prog_40_method_9_code 1 = .ok (.lookupswitch 55 #[(0, 27), (1, 41)], 27) := by decide +kernel
theorem d1_28 : decode prog_40_method_9_code 28 = .ok (.iconst 2, 1) := by decide +kernel
theorem d1_29 : decode prog_40_method_9_code 29 = .ok (.newarray .int, 2) := by decide +kernel
theorem wd5 {Z : State} {a0 : Array Value} (hw : ∀ d ∈ tables_1, d.before a0 Z = true) : (Jvm.Cond.arrayClass Jvm.ClassFile.FieldType.int).before a0 Z = true := hw _ (List.mem_of_getElem? (i := 5) rfl)
theorem d1_31 : decode prog_40_method_9_code 31 = .ok (.dup, 1) := by decide +kernel
theorem d1_32 : decode prog_40_method_9_code 32 = .ok (.iconst 0, 1) := by decide +kernel
theorem d1_33 : decode prog_40_method_9_code 33 = .ok (.iconst 1, 1) := by decide +kernel
theorem d1_34 : decode prog_40_method_9_code 34 = .ok (.iastore, 1) := by decide +kernel
theorem d1_35 : decode prog_40_method_9_code 35 = .ok (.dup, 1) := by decide +kernel
theorem d1_36 : decode prog_40_method_9_code 36 = .ok (.iconst 1, 1) := by decide +kernel
theorem d1_37 : decode prog_40_method_9_code 37 = .ok (.iconst 2, 1) := by decide +kernel
theorem d1_38 : decode prog_40_method_9_code 38 = .ok (.iastore, 1) := by decide +kernel
theorem d1_39 : decode prog_40_method_9_code 39 = .ok (.goto 28, 3) := by decide +kernel
theorem d1_67 : decode prog_40_method_9_code 67 = .ok (.areturn, 1) := by decide +kernel
theorem d1_42 : decode prog_40_method_9_code 42 = .ok (.iconst 2, 1) := by decide +kernel
theorem d1_43 : decode prog_40_method_9_code 43 = .ok (.newarray .int, 2) := by decide +kernel
theorem d1_45 : decode prog_40_method_9_code 45 = .ok (.dup, 1) := by decide +kernel
theorem d1_46 : decode prog_40_method_9_code 46 = .ok (.iconst 0, 1) := by decide +kernel
theorem d1_47 : decode prog_40_method_9_code 47 = .ok (.iconst 0, 1) := by decide +kernel
theorem d1_48 : decode prog_40_method_9_code 48 = .ok (.iastore, 1) := by decide +kernel
theorem d1_49 : decode prog_40_method_9_code 49 = .ok (.dup, 1) := by decide +kernel
theorem d1_50 : decode prog_40_method_9_code 50 = .ok (.iconst 1, 1) := by decide +kernel
theorem d1_51 : decode prog_40_method_9_code 51 = .ok (.iconst 2, 1) := by decide +kernel
theorem d1_52 : decode prog_40_method_9_code 52 = .ok (.iastore, 1) := by decide +kernel
theorem d1_53 : decode prog_40_method_9_code 53 = .ok (.goto 14, 3) := by decide +kernel
theorem d1_56 : decode prog_40_method_9_code 56 = .ok (.iconst 2, 1) := by decide +kernel
theorem d1_57 : decode prog_40_method_9_code 57 = .ok (.newarray .int, 2) := by decide +kernel
theorem d1_59 : decode prog_40_method_9_code 59 = .ok (.dup, 1) := by decide +kernel
theorem d1_60 : decode prog_40_method_9_code 60 = .ok (.iconst 0, 1) := by decide +kernel
theorem d1_61 : decode prog_40_method_9_code 61 = .ok (.iconst 0, 1) := by decide +kernel
theorem d1_62 : decode prog_40_method_9_code 62 = .ok (.iastore, 1) := by decide +kernel
theorem d1_63 : decode prog_40_method_9_code 63 = .ok (.dup, 1) := by decide +kernel
theorem d1_64 : decode prog_40_method_9_code 64 = .ok (.iconst 1, 1) := by decide +kernel
theorem d1_65 : decode prog_40_method_9_code 65 = .ok (.iconst 1, 1) := by decide +kernel
theorem d1_66 : decode prog_40_method_9_code 66 = .ok (.iastore, 1) := by decide +kernel
theorem pn0 : plainName "com/example/bitlattice/bitlattice/eval/RuleIndex" = true := by first | (simp [plainName, overriddenIn]; done) | decide +kernel
def f1_x1_0_0 (p1 : Int32) : Int32 := (if p1 = (0 : Int32) then (1 : Int32) else (0 : Int32))
def f1_x1_0_1 (p1 : Int32) : Int32 := (if p1 = (0 : Int32) then (2 : Int32) else (if p1 = (1 : Int32) then (2 : Int32) else (1 : Int32)))
def Q1 (Z : State) (p1 : Int32) (h0 : Heap) (n0 : Nat) (v : Option Value) (h : Heap) (L : List Loc) : Prop := ∃ x1_0 : Addr, ∃ k_x1_0 : ClassId, v = some (.ref x1_0) ∧ Fr n0 L ∧ Keep h0 h [] ∧ n0 ≤ x1_0 ∧ h0.size ≤ x1_0 ∧ Arv Z h x1_0 k_x1_0 .int (2 : Int32) [(.int (f1_x1_0_0 p1)), (.int (f1_x1_0_1 p1))] (.int (0 : Int32))
theorem ef1 (m : MethodId) (x0 : Int32) : entryFrame m #[(.int x0)] 1 = mkF m 0 #[.val (.int x0)] [] := by first | (simp [entryFrame, mkF, argsToLocals, Value.category]; done) | rfl
set_option maxRecDepth 65536 in
set_option maxHeartbeats 16000000 in
theorem rm1 (l : Launch) (Z : State) (a0 : Array Value) (hw : ∀ d ∈ tables_1, d.before a0 Z = true) (ws : List Jvm.Cond) (p1 : Int32) (h0 : Heap) (n0 : Nat) (Z0 : n0 ≤ h0.size) :
    MetFree l (⟨"com/example/bitlattice/bitlattice/eval/RuleIndex", "otherPlaces", "(I)[I"⟩ : MethodName) (head1 (Jvm.Cond.code (⟨"com/example/bitlattice/bitlattice/eval/RuleIndex", "otherPlaces", "(I)[I"⟩ : MethodName) prog_40_method_9_code 1 (some (.array .int)) :: ws) ({ frames := 0, cells := 1, slots := 2, locals := 0 } : Room)) (fun a U => a = #[(.int p1)] ∧ Z.Warmed39 U.vm ∧ U.heap = h0) (fun _ _ _ _ _ => True) (fun _ U o U' => ∃ v L, o = .returned v ∧ Q1 Z p1 h0 n0 v U'.heap L ∧ FrameEnd U o U' L ({ frames := 0, cells := 1, slots := 2, locals := 0 } : Room).cells ({ frames := 0, cells := 1, slots := 2, locals := 0 } : Room).slots) := by
  refine MetFree.of_bodySF (plainFor_of_name pn0) hisR ?_
  intro p e s m args below meth c s₁ Bd hml0 hP hK
  obtain ⟨rfl, hZ, hh⟩ := hP
  have hx := Bd.exec
  have hby := Bd.bytes
  have hml : c.maxLocals = 1 := hml0
  have hown : s.vm.findClass "com/example/bitlattice/bitlattice/eval/RuleIndex" = some m.cls := findClass_of_methodNamed Bd.named
  have hnm := (name_of_methodNamed Bd.named Bd.method).1
  have X0 : Stand p l e ({ frames := 0, cells := 1, slots := 2, locals := 0 } : Room) s m #[(.int p1)] below meth c s₁ [] 0 0 := Stand.of_body Bd
  have e0 : s₁.heap = h0 := by rw [← hh, Bd.state]; rfl
  have N0 := Fr.nil n0
  have K0 : Keep h0 h0 [] := Keep.refl h0 _
  refine Go.st (P := fun o U' => ∃ v L, o = .returned v ∧ Q1 Z p1 h0 n0 v U'.heap L ∧ FrameEnd s o U' L ({ frames := 0, cells := 1, slots := 2, locals := 0 } : Room).cells ({ frames := 0, cells := 1, slots := 2, locals := 0 } : Room).slots) (fun t k => castTop (ef1 m p1) k) ?_
  show Go _ _ _ (s₁.setTop (mkF m 0 #[.val (.int p1)] [])) _
  refine Go.st (fun t k => XS.iloadN X0.here hx rfl (hb hby d1_0) rfl k) ?_
  by_cases hc1 : p1 = (0 : Int32)
  · refine Go.st (fun t k => X0.lookupswitchHit hx (g := (mkF m 1 #[.val (.int p1)] [(.int p1)])) rfl rfl (hb hby d1_1) (by decide) (a := 0) (off := 27) (by rw [hc1]; rfl) (show 0 ≤ ((1 : Nat) : Int) + 27 from by decide) _ k) ?_
    show Go _ _ _ (s₁.setTop (mkF m 28 #[.val (.int p1)] [])) _
    refine Go.st (fun t k => XS.iconst X0.here hx rfl (hb hby d1_28) k) ?_
    obtain ⟨T2, h2, k2, X2, e2, E2, A2, st2⟩ := newP X0 hx hZ (aty := .int) (wd5 hw) e0 (g := (mkF m 29 #[.val (.int p1)] [(.int 2)])) rfl (hb hby d1_29) rfl (by decide) (cap := 2) (by decide) (by decide) (by decide) (by decide)
    obtain ⟨b2, g2⟩ : ∃ z, z = h0.size := ⟨_, rfl⟩
    rw [← g2] at A2 st2
    refine Go.st st2 ?_
    have g_b2 : n0 ≤ b2 := Nat.le_trans Z0 (Nat.le_of_eq g2.symm)
    have sz_b2 : h0.size ≤ b2 := Nat.le_trans K0.1 (Nat.le_of_eq g2.symm)
    replace K0 := K0.ext E2
    replace Z0 := Nat.le_trans Z0 E2.1
    have V_b2 : Arv Z h2 b2 k2 .int (2 : Int32) [(.int (0 : Int32)), (.int (0 : Int32))] (.int (0 : Int32)) := (Arv.new A2 (by decide)).pad (pad_rep [] (.int (0 : Int32)) 2)
    show Go _ _ _ (T2.setTop (mkF m 31 #[.val (.int p1)] [(.ref b2)])) _
    refine Go.st (fun t k => XS.dup X2.here hx rfl (hb hby d1_31) rfl rfl k) ?_
    refine Go.st (fun t k => XS.iconst X2.here hx rfl (hb hby d1_32) k) ?_
    refine Go.st (fun t k => XS.iconst X2.here hx rfl (hb hby d1_33) k) ?_
    obtain ⟨cl3, Ar3, qq3, Sz3, Ng3, Hs3, Gs3⟩ := id V_b2
    have hin3 : ¬ ((0 : Int32) < 0 ∨ cl3.slots.size ≤ ((0 : Int32)).toNatClampNeg) := inb_of Sz3 ⟨by decide, by decide⟩
    obtain ⟨T4, h4, X4, e4, W4, st4⟩ := stI X2 hx hZ e2 Ar3 (j := (0 : Int32)) hin3 (g := (mkF m 34 #[.val (.int p1)] [(.int 1), (.int 0), (.ref b2), (.ref b2)])) rfl rfl (hb hby d1_34)
    refine Go.st st4 ?_
    have N4 := Fr.snoc X4 N0 g_b2
    replace Z0 := Nat.le_trans Z0 (Nat.le_of_eq W4.size.symm)
    replace K0 := K0.wr W4 (Or.inr sz_b2)
    replace V_b2 : Arv Z h4 b2 k2 .int (2 : Int32) [(.int (1 : Int32)), (.int (0 : Int32))] (.int (0 : Int32)) := Arv.set Ar3 qq3 Sz3 Ng3 Hs3 Gs3 rfl W4 0 rfl (Nat.le_of_ble_eq_true rfl)
    show Go _ _ _ (T4.setTop (mkF m 35 #[.val (.int p1)] [(.ref b2)])) _
    refine Go.st (fun t k => XS.dup X4.here hx rfl (hb hby d1_35) rfl rfl k) ?_
    refine Go.st (fun t k => XS.iconst X4.here hx rfl (hb hby d1_36) k) ?_
    refine Go.st (fun t k => XS.iconst X4.here hx rfl (hb hby d1_37) k) ?_
    obtain ⟨cl5, Ar5, qq5, Sz5, Ng5, Hs5, Gs5⟩ := id V_b2
    have hin5 : ¬ ((1 : Int32) < 0 ∨ cl5.slots.size ≤ ((1 : Int32)).toNatClampNeg) := inb_of Sz5 ⟨by decide, by decide⟩
    obtain ⟨T6, h6, X6, e6, W6, st6⟩ := stI X4 hx hZ e4 Ar5 (j := (1 : Int32)) hin5 (g := (mkF m 38 #[.val (.int p1)] [(.int 2), (.int 1), (.ref b2), (.ref b2)])) rfl rfl (hb hby d1_38)
    refine Go.st st6 ?_
    have N6 := Fr.snoc X6 N4 g_b2
    replace Z0 := Nat.le_trans Z0 (Nat.le_of_eq W6.size.symm)
    replace K0 := K0.wr W6 (Or.inr sz_b2)
    replace V_b2 : Arv Z h6 b2 k2 .int (2 : Int32) [(.int (1 : Int32)), (.int (2 : Int32))] (.int (0 : Int32)) := Arv.set Ar5 qq5 Sz5 Ng5 Hs5 Gs5 rfl W6 1 rfl (Nat.le_of_ble_eq_true rfl)
    show Go _ _ _ (T6.setTop (mkF m 39 #[.val (.int p1)] [(.ref b2)])) _
    refine Go.st (fun t k => XS.goto X6.here hx rfl (pc0 := 39) (pc' := 67) rfl (hb hby d1_39) (by decide) (by decide) k) ?_
    obtain ⟨fs, hr, hrun, hended, hW, hsame⟩ := X6.leave (v := some (.ref b2)) (fun h => by rw [Bd.returns] at h; cases h)
    refine Go.fin (retOut X6 hx Bd.returns rfl (Or.inr (Or.inr (Or.inr (Or.inr ⟨rfl, rfl, rfl⟩)))) (hb hby d1_67) hr) hrun hended ⟨_, _, rfl, ?_, ⟨_, rfl⟩, hW, hsame.mono (by decide) (by decide)⟩
    show Q1 Z p1 h0 n0 _ T6.heap _
    rw [e6]
    exact ⟨b2, k2, rfl, N6, K0, g_b2, sz_b2, (by unfold f1_x1_0_0 f1_x1_0_1; simp only [if_pos hc1]; exact V_b2)⟩
  · by_cases hc7 : p1 = (1 : Int32)
    · refine Go.st (fun t k => X0.lookupswitchHit hx (g := (mkF m 1 #[.val (.int p1)] [(.int p1)])) rfl rfl (hb hby d1_1) (by decide) (a := 1) (off := 41) (by rw [hc7]; rfl) (show 0 ≤ ((1 : Nat) : Int) + 41 from by decide) _ k) ?_
      show Go _ _ _ (s₁.setTop (mkF m 42 #[.val (.int p1)] [])) _
      refine Go.st (fun t k => XS.iconst X0.here hx rfl (hb hby d1_42) k) ?_
      obtain ⟨T8, h8, k8, X8, e8, E8, A8, st8⟩ := newP X0 hx hZ (aty := .int) (wd5 hw) e0 (g := (mkF m 43 #[.val (.int p1)] [(.int 2)])) rfl (hb hby d1_43) rfl (by decide) (cap := 2) (by decide) (by decide) (by decide) (by decide)
      obtain ⟨b8, g8⟩ : ∃ z, z = h0.size := ⟨_, rfl⟩
      rw [← g8] at A8 st8
      refine Go.st st8 ?_
      have g_b8 : n0 ≤ b8 := Nat.le_trans Z0 (Nat.le_of_eq g8.symm)
      have sz_b8 : h0.size ≤ b8 := Nat.le_trans K0.1 (Nat.le_of_eq g8.symm)
      replace K0 := K0.ext E8
      replace Z0 := Nat.le_trans Z0 E8.1
      have V_b8 : Arv Z h8 b8 k8 .int (2 : Int32) [(.int (0 : Int32)), (.int (0 : Int32))] (.int (0 : Int32)) := (Arv.new A8 (by decide)).pad (pad_rep [] (.int (0 : Int32)) 2)
      show Go _ _ _ (T8.setTop (mkF m 45 #[.val (.int p1)] [(.ref b8)])) _
      refine Go.st (fun t k => XS.dup X8.here hx rfl (hb hby d1_45) rfl rfl k) ?_
      refine Go.st (fun t k => XS.iconst X8.here hx rfl (hb hby d1_46) k) ?_
      refine Go.st (fun t k => XS.iconst X8.here hx rfl (hb hby d1_47) k) ?_
      obtain ⟨cl9, Ar9, qq9, Sz9, Ng9, Hs9, Gs9⟩ := id V_b8
      have hin9 : ¬ ((0 : Int32) < 0 ∨ cl9.slots.size ≤ ((0 : Int32)).toNatClampNeg) := inb_of Sz9 ⟨by decide, by decide⟩
      obtain ⟨T10, h10, X10, e10, W10, st10⟩ := stI X8 hx hZ e8 Ar9 (j := (0 : Int32)) hin9 (g := (mkF m 48 #[.val (.int p1)] [(.int 0), (.int 0), (.ref b8), (.ref b8)])) rfl rfl (hb hby d1_48)
      refine Go.st st10 ?_
      have N10 := Fr.snoc X10 N0 g_b8
      replace Z0 := Nat.le_trans Z0 (Nat.le_of_eq W10.size.symm)
      replace K0 := K0.wr W10 (Or.inr sz_b8)
      replace V_b8 : Arv Z h10 b8 k8 .int (2 : Int32) [(.int (0 : Int32)), (.int (0 : Int32))] (.int (0 : Int32)) := Arv.set Ar9 qq9 Sz9 Ng9 Hs9 Gs9 rfl W10 0 rfl (Nat.le_of_ble_eq_true rfl)
      show Go _ _ _ (T10.setTop (mkF m 49 #[.val (.int p1)] [(.ref b8)])) _
      refine Go.st (fun t k => XS.dup X10.here hx rfl (hb hby d1_49) rfl rfl k) ?_
      refine Go.st (fun t k => XS.iconst X10.here hx rfl (hb hby d1_50) k) ?_
      refine Go.st (fun t k => XS.iconst X10.here hx rfl (hb hby d1_51) k) ?_
      obtain ⟨cl11, Ar11, qq11, Sz11, Ng11, Hs11, Gs11⟩ := id V_b8
      have hin11 : ¬ ((1 : Int32) < 0 ∨ cl11.slots.size ≤ ((1 : Int32)).toNatClampNeg) := inb_of Sz11 ⟨by decide, by decide⟩
      obtain ⟨T12, h12, X12, e12, W12, st12⟩ := stI X10 hx hZ e10 Ar11 (j := (1 : Int32)) hin11 (g := (mkF m 52 #[.val (.int p1)] [(.int 2), (.int 1), (.ref b8), (.ref b8)])) rfl rfl (hb hby d1_52)
      refine Go.st st12 ?_
      have N12 := Fr.snoc X12 N10 g_b8
      replace Z0 := Nat.le_trans Z0 (Nat.le_of_eq W12.size.symm)
      replace K0 := K0.wr W12 (Or.inr sz_b8)
      replace V_b8 : Arv Z h12 b8 k8 .int (2 : Int32) [(.int (0 : Int32)), (.int (2 : Int32))] (.int (0 : Int32)) := Arv.set Ar11 qq11 Sz11 Ng11 Hs11 Gs11 rfl W12 1 rfl (Nat.le_of_ble_eq_true rfl)
      show Go _ _ _ (T12.setTop (mkF m 53 #[.val (.int p1)] [(.ref b8)])) _
      refine Go.st (fun t k => XS.goto X12.here hx rfl (pc0 := 53) (pc' := 67) rfl (hb hby d1_53) (by decide) (by decide) k) ?_
      obtain ⟨fs, hr, hrun, hended, hW, hsame⟩ := X12.leave (v := some (.ref b8)) (fun h => by rw [Bd.returns] at h; cases h)
      refine Go.fin (retOut X12 hx Bd.returns rfl (Or.inr (Or.inr (Or.inr (Or.inr ⟨rfl, rfl, rfl⟩)))) (hb hby d1_67) hr) hrun hended ⟨_, _, rfl, ?_, ⟨_, rfl⟩, hW, hsame.mono (by decide) (by decide)⟩
      show Q1 Z p1 h0 n0 _ T12.heap _
      rw [e12]
      exact ⟨b8, k8, rfl, N12, K0, g_b8, sz_b8, (by unfold f1_x1_0_0 f1_x1_0_1; simp only [if_neg hc1, if_pos hc7]; exact V_b8)⟩
    · refine Go.st (fun t k => X0.lookupswitchMiss hx (g := (mkF m 1 #[.val (.int p1)] [(.int p1)])) rfl rfl (hb hby d1_1) (by decide) (find_miss (fun p hp => by rcases (by simpa using hp : p = (0, 27) ∨ p = (1, 41)) with rfl | rfl <;> first | exact own_ne32 (k := (0 : Int32)) rfl hc1 | exact own_ne32 (k := (1 : Int32)) rfl hc7)) (show 0 ≤ ((1 : Nat) : Int) + 55 from by decide) _ k) ?_
      show Go _ _ _ (s₁.setTop (mkF m 56 #[.val (.int p1)] [])) _
      refine Go.st (fun t k => XS.iconst X0.here hx rfl (hb hby d1_56) k) ?_
      obtain ⟨T13, h13, k13, X13, e13, E13, A13, st13⟩ := newP X0 hx hZ (aty := .int) (wd5 hw) e0 (g := (mkF m 57 #[.val (.int p1)] [(.int 2)])) rfl (hb hby d1_57) rfl (by decide) (cap := 2) (by decide) (by decide) (by decide) (by decide)
      obtain ⟨b13, g13⟩ : ∃ z, z = h0.size := ⟨_, rfl⟩
      rw [← g13] at A13 st13
      refine Go.st st13 ?_
      have g_b13 : n0 ≤ b13 := Nat.le_trans Z0 (Nat.le_of_eq g13.symm)
      have sz_b13 : h0.size ≤ b13 := Nat.le_trans K0.1 (Nat.le_of_eq g13.symm)
      replace K0 := K0.ext E13
      replace Z0 := Nat.le_trans Z0 E13.1
      have V_b13 : Arv Z h13 b13 k13 .int (2 : Int32) [(.int (0 : Int32)), (.int (0 : Int32))] (.int (0 : Int32)) := (Arv.new A13 (by decide)).pad (pad_rep [] (.int (0 : Int32)) 2)
      show Go _ _ _ (T13.setTop (mkF m 59 #[.val (.int p1)] [(.ref b13)])) _
      refine Go.st (fun t k => XS.dup X13.here hx rfl (hb hby d1_59) rfl rfl k) ?_
      refine Go.st (fun t k => XS.iconst X13.here hx rfl (hb hby d1_60) k) ?_
      refine Go.st (fun t k => XS.iconst X13.here hx rfl (hb hby d1_61) k) ?_
      obtain ⟨cl14, Ar14, qq14, Sz14, Ng14, Hs14, Gs14⟩ := id V_b13
      have hin14 : ¬ ((0 : Int32) < 0 ∨ cl14.slots.size ≤ ((0 : Int32)).toNatClampNeg) := inb_of Sz14 ⟨by decide, by decide⟩
      obtain ⟨T15, h15, X15, e15, W15, st15⟩ := stI X13 hx hZ e13 Ar14 (j := (0 : Int32)) hin14 (g := (mkF m 62 #[.val (.int p1)] [(.int 0), (.int 0), (.ref b13), (.ref b13)])) rfl rfl (hb hby d1_62)
      refine Go.st st15 ?_
      have N15 := Fr.snoc X15 N0 g_b13
      replace Z0 := Nat.le_trans Z0 (Nat.le_of_eq W15.size.symm)
      replace K0 := K0.wr W15 (Or.inr sz_b13)
      replace V_b13 : Arv Z h15 b13 k13 .int (2 : Int32) [(.int (0 : Int32)), (.int (0 : Int32))] (.int (0 : Int32)) := Arv.set Ar14 qq14 Sz14 Ng14 Hs14 Gs14 rfl W15 0 rfl (Nat.le_of_ble_eq_true rfl)
      show Go _ _ _ (T15.setTop (mkF m 63 #[.val (.int p1)] [(.ref b13)])) _
      refine Go.st (fun t k => XS.dup X15.here hx rfl (hb hby d1_63) rfl rfl k) ?_
      refine Go.st (fun t k => XS.iconst X15.here hx rfl (hb hby d1_64) k) ?_
      refine Go.st (fun t k => XS.iconst X15.here hx rfl (hb hby d1_65) k) ?_
      obtain ⟨cl16, Ar16, qq16, Sz16, Ng16, Hs16, Gs16⟩ := id V_b13
      have hin16 : ¬ ((1 : Int32) < 0 ∨ cl16.slots.size ≤ ((1 : Int32)).toNatClampNeg) := inb_of Sz16 ⟨by decide, by decide⟩
      obtain ⟨T17, h17, X17, e17, W17, st17⟩ := stI X15 hx hZ e15 Ar16 (j := (1 : Int32)) hin16 (g := (mkF m 66 #[.val (.int p1)] [(.int 1), (.int 1), (.ref b13), (.ref b13)])) rfl rfl (hb hby d1_66)
      refine Go.st st17 ?_
      have N17 := Fr.snoc X17 N15 g_b13
      replace Z0 := Nat.le_trans Z0 (Nat.le_of_eq W17.size.symm)
      replace K0 := K0.wr W17 (Or.inr sz_b13)
      replace V_b13 : Arv Z h17 b13 k13 .int (2 : Int32) [(.int (0 : Int32)), (.int (1 : Int32))] (.int (0 : Int32)) := Arv.set Ar16 qq16 Sz16 Ng16 Hs16 Gs16 rfl W17 1 rfl (Nat.le_of_ble_eq_true rfl)
      show Go _ _ _ (T17.setTop (mkF m 67 #[.val (.int p1)] [(.ref b13)])) _
      obtain ⟨fs, hr, hrun, hended, hW, hsame⟩ := X17.leave (v := some (.ref b13)) (fun h => by rw [Bd.returns] at h; cases h)
      refine Go.fin (retOut X17 hx Bd.returns rfl (Or.inr (Or.inr (Or.inr (Or.inr ⟨rfl, rfl, rfl⟩)))) (hb hby d1_67) hr) hrun hended ⟨_, _, rfl, ?_, ⟨_, rfl⟩, hW, hsame.mono (by decide) (by decide)⟩
      show Q1 Z p1 h0 n0 _ T17.heap _
      rw [e17]
      exact ⟨b13, k13, rfl, N17, K0, g_b13, sz_b13, (by unfold f1_x1_0_0 f1_x1_0_1; simp only [if_neg hc1, if_neg hc7]; exact V_b13)⟩
theorem wd0 {Z : State} {a0 : Array Value} (hw : ∀ d ∈ tables_1, d.before a0 Z = true) : (Jvm.Cond.constant "com/example/bitlattice/bitlattice/eval/RuleIndexOtherPlacesPinLaw" (7 : Nat) (2147483647 : Int32)).before a0 Z = true := hw _ (List.mem_of_getElem? (i := 0) rfl)
theorem wd1 {Z : State} {a0 : Array Value} (hw : ∀ d ∈ tables_1, d.before a0 Z = true) : (Jvm.Cond.methodLink "com/example/bitlattice/bitlattice/eval/RuleIndexOtherPlacesPinLaw" (8 : Nat) ({ cls := "com/example/bitlattice/bitlattice/eval/RuleIndex", name := "otherPlaces", desc := "(I)[I" } : Jvm.MethodName)).before a0 Z = true := hw _ (List.mem_of_getElem? (i := 1) rfl)
theorem wd4 {Z : State} {a0 : Array Value} (hw : ∀ d ∈ tables_1, d.before a0 Z = true) : (Jvm.Cond.code ({ cls := "com/example/bitlattice/bitlattice/eval/RuleIndex", name := "otherPlaces", desc := "(I)[I" } : Jvm.MethodName) prog_40_method_9_code (1 : Nat) (Option.some (Jvm.ClassFile.FieldType.array Jvm.ClassFile.FieldType.int))).before a0 Z = true := hw _ (List.mem_of_getElem? (i := 4) rfl)
theorem wd3 {Z : State} {a0 : Array Value} (hw : ∀ d ∈ tables_1, d.before a0 Z = true) : (Jvm.Cond.initialized "com/example/bitlattice/bitlattice/eval/RuleIndex").before a0 Z = true := hw _ (List.mem_of_getElem? (i := 3) rfl)
theorem pd0 : parseMethodDescriptor "(I)[I" = some ⟨[.int], some (.array .int)⟩ := by decide +kernel
theorem wd2 {Z : State} {a0 : Array Value} (hw : ∀ d ∈ tables_1, d.before a0 Z = true) : (Jvm.Cond.static ({ cls := "com/example/bitlattice/bitlattice/eval/RuleIndex", name := "otherPlaces", desc := "(I)[I" } : Jvm.MethodName)).before a0 Z = true := hw _ (List.mem_of_getElem? (i := 2) rfl)
theorem pn1 : plainName "com/example/bitlattice/bitlattice/eval/RuleIndexOtherPlacesPinLaw" = true := by first | (simp [plainName, overriddenIn]; done) | decide +kernel
def f0 (p1 : Int32) : Int32 := (if (f1_x1_0_0 ((p1 &&& (2147483647 : Int32)) % (3 : Int32))) < (0 : Int32) then (0 : Int32) else (if (f1_x1_0_0 ((p1 &&& (2147483647 : Int32)) % (3 : Int32))) < (f1_x1_0_1 ((p1 &&& (2147483647 : Int32)) % (3 : Int32))) then (if (2 : Int32) < (f1_x1_0_1 ((p1 &&& (2147483647 : Int32)) % (3 : Int32))) then (0 : Int32) else (if (f1_x1_0_0 ((p1 &&& (2147483647 : Int32)) % (3 : Int32))) = ((p1 &&& (2147483647 : Int32)) % (3 : Int32)) then (0 : Int32) else (if (f1_x1_0_1 ((p1 &&& (2147483647 : Int32)) % (3 : Int32))) = ((p1 &&& (2147483647 : Int32)) % (3 : Int32)) then (0 : Int32) else (1 : Int32)))) else (0 : Int32)))
def Q0 (Z : State) (p1 : Int32) (h0 : Heap) (n0 : Nat) (v : Option Value) (h : Heap) (L : List Loc) : Prop := v = some (.int (f0 p1)) ∧ Fr n0 L
theorem ef0 (m : MethodId) (x0 : Int32) : entryFrame m #[(.int x0)] maxLocals = mkF m 0 #[.val (.int x0), .unset, .unset] [] := by first | (simp [entryFrame, mkF, argsToLocals, Value.category, maxLocals]; done) | rfl
set_option maxRecDepth 65536 in
set_option maxHeartbeats 16000000 in
theorem rm0 (l : Launch) (Z : State) (a0 : Array Value) (hw : ∀ d ∈ tables_1, d.before a0 Z = true) (ws : List Jvm.Cond) (p1 : Int32) (h0 : Heap) (n0 : Nat) (Z0 : n0 ≤ h0.size) :
    MetFree l x (head1 (Jvm.Cond.code x code maxLocals ret :: ws) room_1) (fun a U => a = #[(.int p1)] ∧ Z.Warmed39 U.vm ∧ U.heap = h0) (fun _ _ _ _ _ => True) (fun _ U o U' => ∃ v L, o = .returned v ∧ Q0 Z p1 h0 n0 v U'.heap L ∧ FrameEnd U o U' L 16 128) := by
  refine MetFree.of_bodySF (plainFor_of_name pn1) hisR ?_
  intro p e s m args below meth c s₁ Bd hml0 hP hK
  obtain ⟨rfl, hZ, hh⟩ := hP
  have hx := Bd.exec
  have hby := Bd.bytes
  have hml : c.maxLocals = 3 := hml0
  have hown : s.vm.findClass "com/example/bitlattice/bitlattice/eval/RuleIndexOtherPlacesPinLaw" = some m.cls := findClass_of_methodNamed Bd.named
  have hnm := (name_of_methodNamed Bd.named Bd.method).1
  have X0 : Stand p l e room_1 s m #[(.int p1)] below meth c s₁ [] 0 0 := Stand.of_body Bd
  have e0 : s₁.heap = h0 := by rw [← hh, Bd.state]; rfl
  have N0 := Fr.nil n0
  have K0 : Keep h0 h0 [] := Keep.refl h0 _
  refine Go.st (P := fun o U' => ∃ v L, o = .returned v ∧ Q0 Z p1 h0 n0 v U'.heap L ∧ FrameEnd s o U' L 16 128) (fun t k => castTop (ef0 m p1) k) ?_
  show Go _ _ _ (s₁.setTop (mkF m 0 #[.val (.int p1), .unset, .unset] [])) _
  refine Go.st (fun t k => XS.iloadN X0.here hx rfl (hb hby at_0) rfl k) ?_
  refine Go.st (fun t k => X0.ldcInt hx hown (mvT hZ (wd0 hw)) (g := (mkF m 1 #[.val (.int p1), .unset, .unset] [(.int p1)])) rfl (hb hby at_1) _ k) ?_
  show Go _ _ _ (s₁.setTop (mkF m 3 #[.val (.int p1), .unset, .unset] [(.int 2147483647), (.int p1)])) _
  refine Go.st (fun t k => XS.iand X0.here hx rfl (hb hby at_3) rfl k) ?_
  show Go _ _ _ (s₁.setTop (mkF m 4 #[.val (.int p1), .unset, .unset] [(.int (p1 &&& (2147483647 : Int32)))])) _
  refine Go.st (fun t k => XS.iconst X0.here hx rfl (hb hby at_4) k) ?_
  refine Go.st (fun t k => iremM X0 hx rfl (hb hby at_5) rfl (by decide) k) ?_
  show Go _ _ _ (s₁.setTop (mkF m 6 #[.val (.int p1), .unset, .unset] [(.int ((p1 &&& (2147483647 : Int32)) % (3 : Int32)))])) _
  refine Go.st (fun t k => XS.istoreN X0.here hx rfl (hb hby at_6) rfl (l' := #[.val (.int p1), .val (.int ((p1 &&& (2147483647 : Int32)) % (3 : Int32))), .unset]) rfl k) ?_
  refine Go.st (fun t k => XS.iloadN X0.here hx rfl (hb hby at_7) rfl k) ?_
  obtain ⟨_, _, ⟨T1, L1, k1, n1⟩, -, X1, ⟨Lc1, hQ1, l1, y1, z1⟩, st1⟩ := Jvm.LawKit.callS X0 hx (y := (⟨"com/example/bitlattice/bitlattice/eval/RuleIndex", "otherPlaces", "(I)[I"⟩ : MethodName)) hown (mvT hZ (wd1 hw)) (mvT hZ (wd2 hw)) (mvT hZ (wd3 hw)) (mvT hZ (wd4 hw)) (by decide) (backOf (W := 0) (rm1 l Z a0 hw [] ((p1 &&& (2147483647 : Int32)) % (3 : Int32)) h0 n0 Z0) hZ (wd4 hw) (wd3 hw) (by decide) (by decide)) (g := (mkF m 8 #[.val (.int p1), .val (.int ((p1 &&& (2147483647 : Int32)) % (3 : Int32))), .unset] [(.int ((p1 &&& (2147483647 : Int32)) % (3 : Int32)))])) rfl (by rw [hml]; rfl) (argsL := [(.int ((p1 &&& (2147483647 : Int32)) % (3 : Int32)))]) (rest := []) (lenOf pd0 rfl) rfl (by show 2 * 0 + _ ≤ _; exact Nat.le_of_eq rfl) (hb hby at_8) (fun _ _ => ⟨rfl, e0, (by decide : 0 + 1 ≤ _), (by decide : 0 + 2 ≤ _)⟩)
  dsimp only [Pt.U, Pt.locs, Pt.cells, Pt.slots] at X1 l1 y1 z1 st1 hQ1
  subst l1 y1 z1
  obtain ⟨h1, e1⟩ : ∃ z, T1.heap = z := ⟨_, rfl⟩
  rw [e1] at hQ1
  obtain ⟨x1_0_1, k_x1_0_1, rfl, N1q, K1, ng_x1_0_1, sz0_x1_0_1, Q1_0⟩ := hQ1
  refine Go.st st1 ?_
  have g_x1_0_1 : n0 ≤ x1_0_1 := ng_x1_0_1
  have sz_x1_0_1 : h0.size ≤ x1_0_1 := Nat.le_trans K0.1 sz0_x1_0_1
  replace Z0 := Nat.le_trans Z0 K1.1
  replace K0 := K0.trans K1 all0
  have V_x1_0_1 := Q1_0
  have N1 := Fr.app N0 N1q
  show Go _ _ _ (T1.setTop (mkF m 11 #[.val (.int p1), .val (.int ((p1 &&& (2147483647 : Int32)) % (3 : Int32))), .unset] [(.ref x1_0_1)])) _
  refine Go.st (fun t k => XS.astoreN X1.here hx rfl (hb hby at_11) rfl rfl (l' := #[.val (.int p1), .val (.int ((p1 &&& (2147483647 : Int32)) % (3 : Int32))), .val (.ref x1_0_1)]) rfl k) ?_
  refine Go.st (fun t k => XS.aloadN X1.here hx rfl (hb hby at_12) rfl rfl k) ?_
  refine Go.st (fun t k => XS.ifnullNo X1.here hx rfl (hb hby at_13) rfl k) ?_
  show Go _ _ _ (T1.setTop (mkF m 16 #[.val (.int p1), .val (.int ((p1 &&& (2147483647 : Int32)) % (3 : Int32))), .val (.ref x1_0_1)] [])) _
  refine Go.st (fun t k => XS.aloadN X1.here hx rfl (hb hby at_16) rfl rfl k) ?_
  obtain ⟨cl2, Ar2, -, Sz2, Ng2, -, -⟩ := id V_x1_0_1
  refine Go.st (fun t k => X1.arraylength hx (by rw [e1]; exact Ar2.1) (State.isArrayOf_alike hZ.alike Ar2.2.1) (g := (mkF m 17 #[.val (.int p1), .val (.int ((p1 &&& (2147483647 : Int32)) % (3 : Int32))), .val (.ref x1_0_1)] [(.ref x1_0_1)])) rfl rfl (hb hby at_17) _ k) ?_
  rw [len_of Sz2 Ng2]
  show Go _ _ _ (T1.setTop (mkF m 18 #[.val (.int p1), .val (.int ((p1 &&& (2147483647 : Int32)) % (3 : Int32))), .val (.ref x1_0_1)] [(.int 2)])) _
  refine Go.st (fun t k => XS.iconst X1.here hx rfl (hb hby at_18) k) ?_
  refine Go.st (fun t k => XS.icmpYes X1.here hx rfl (pc0 := 19) (pc' := 24) rfl (hb hby at_19) rfl (teq (by decide : (2 : Int32) = (2 : Int32))).1 (by decide) (by decide) k) ?_
  show Go _ _ _ (T1.setTop (mkF m 24 #[.val (.int p1), .val (.int ((p1 &&& (2147483647 : Int32)) % (3 : Int32))), .val (.ref x1_0_1)] [])) _
  refine Go.st (fun t k => XS.iconst X1.here hx rfl (hb hby at_24) k) ?_
  refine Go.st (fun t k => XS.aloadN X1.here hx rfl (hb hby at_25) rfl rfl k) ?_
  refine Go.st (fun t k => XS.iconst X1.here hx rfl (hb hby at_26) k) ?_
  obtain ⟨cl3, Ar3, -, Sz3, Ng3, Hs3, -⟩ := id V_x1_0_1
  have hin3 : ¬ ((0 : Int32) < 0 ∨ cl3.slots.size ≤ ((0 : Int32)).toNatClampNeg) := inb_of Sz3 ⟨by decide, by decide⟩
  refine Go.st (fun t k => X1.iaload hx (j := (0 : Int32)) (v := (.int (f1_x1_0_0 ((p1 &&& (2147483647 : Int32)) % (3 : Int32))))) (by rw [e1]; exact Ar3.1) (State.isArrayOf_alike hZ.alike Ar3.2.1) Ar3.2.2 hin3 (Has.at Hs3 hin3 rfl) (g := (mkF m 27 #[.val (.int p1), .val (.int ((p1 &&& (2147483647 : Int32)) % (3 : Int32))), .val (.ref x1_0_1)] [(.int 0), (.ref x1_0_1), (.int 0)])) rfl rfl (hb hby at_27) _ k) ?_
  show Go _ _ _ (T1.setTop (mkF m 28 #[.val (.int p1), .val (.int ((p1 &&& (2147483647 : Int32)) % (3 : Int32))), .val (.ref x1_0_1)] [(.int (f1_x1_0_0 ((p1 &&& (2147483647 : Int32)) % (3 : Int32)))), (.int 0)])) _
  by_cases hc4 : (f1_x1_0_0 ((p1 &&& (2147483647 : Int32)) % (3 : Int32))) < (0 : Int32)
  · refine Go.st (fun t k => XS.icmpYes X1.here hx rfl (pc0 := 28) (pc' := 65) rfl (hb hby at_28) rfl (tlt hc4).2.2.1 (by decide) (by decide) k) ?_
    show Go _ _ _ (T1.setTop (mkF m 65 #[.val (.int p1), .val (.int ((p1 &&& (2147483647 : Int32)) % (3 : Int32))), .val (.ref x1_0_1)] [])) _
    refine Go.st (fun t k => XS.iconst X1.here hx rfl (hb hby at_65) k) ?_
    obtain ⟨fs, hr, hrun, hended, hW, hsame⟩ := X1.leave (v := some (.int (0 : Int32))) (fun h => by rw [Bd.returns] at h; cases h)
    refine Go.fin (retN X1 hx (t := .boolean) Bd.returns (by simp) (hb hby at_66) hr) hrun hended ⟨_, _, rfl, ?_, ⟨_, rfl⟩, hW, hsame.mono (by decide) (by decide)⟩
    show Q0 Z p1 h0 n0 _ T1.heap _
    rw [e1]
    exact ⟨(by unfold f0; simp only [if_pos hc4]), N1⟩
  · refine Go.st (fun t k => XS.icmpNo X1.here hx rfl (hb hby at_28) rfl (flt hc4).2.2.1 k) ?_
    show Go _ _ _ (T1.setTop (mkF m 31 #[.val (.int p1), .val (.int ((p1 &&& (2147483647 : Int32)) % (3 : Int32))), .val (.ref x1_0_1)] [])) _
    refine Go.st (fun t k => XS.aloadN X1.here hx rfl (hb hby at_31) rfl rfl k) ?_
    refine Go.st (fun t k => XS.iconst X1.here hx rfl (hb hby at_32) k) ?_
    obtain ⟨cl5, Ar5, -, Sz5, Ng5, Hs5, -⟩ := id V_x1_0_1
    have hin5 : ¬ ((0 : Int32) < 0 ∨ cl5.slots.size ≤ ((0 : Int32)).toNatClampNeg) := inb_of Sz5 ⟨by decide, by decide⟩
    refine Go.st (fun t k => X1.iaload hx (j := (0 : Int32)) (v := (.int (f1_x1_0_0 ((p1 &&& (2147483647 : Int32)) % (3 : Int32))))) (by rw [e1]; exact Ar5.1) (State.isArrayOf_alike hZ.alike Ar5.2.1) Ar5.2.2 hin5 (Has.at Hs5 hin5 rfl) (g := (mkF m 33 #[.val (.int p1), .val (.int ((p1 &&& (2147483647 : Int32)) % (3 : Int32))), .val (.ref x1_0_1)] [(.int 0), (.ref x1_0_1)])) rfl rfl (hb hby at_33) _ k) ?_
    show Go _ _ _ (T1.setTop (mkF m 34 #[.val (.int p1), .val (.int ((p1 &&& (2147483647 : Int32)) % (3 : Int32))), .val (.ref x1_0_1)] [(.int (f1_x1_0_0 ((p1 &&& (2147483647 : Int32)) % (3 : Int32))))])) _
    refine Go.st (fun t k => XS.aloadN X1.here hx rfl (hb hby at_34) rfl rfl k) ?_
    refine Go.st (fun t k => XS.iconst X1.here hx rfl (hb hby at_35) k) ?_
    obtain ⟨cl6, Ar6, -, Sz6, Ng6, Hs6, -⟩ := id V_x1_0_1
    have hin6 : ¬ ((1 : Int32) < 0 ∨ cl6.slots.size ≤ ((1 : Int32)).toNatClampNeg) := inb_of Sz6 ⟨by decide, by decide⟩
    refine Go.st (fun t k => X1.iaload hx (j := (1 : Int32)) (v := (.int (f1_x1_0_1 ((p1 &&& (2147483647 : Int32)) % (3 : Int32))))) (by rw [e1]; exact Ar6.1) (State.isArrayOf_alike hZ.alike Ar6.2.1) Ar6.2.2 hin6 (Has.at Hs6 hin6 rfl) (g := (mkF m 36 #[.val (.int p1), .val (.int ((p1 &&& (2147483647 : Int32)) % (3 : Int32))), .val (.ref x1_0_1)] [(.int 1), (.ref x1_0_1), (.int (f1_x1_0_0 ((p1 &&& (2147483647 : Int32)) % (3 : Int32))))])) rfl rfl (hb hby at_36) _ k) ?_
    show Go _ _ _ (T1.setTop (mkF m 37 #[.val (.int p1), .val (.int ((p1 &&& (2147483647 : Int32)) % (3 : Int32))), .val (.ref x1_0_1)] [(.int (f1_x1_0_1 ((p1 &&& (2147483647 : Int32)) % (3 : Int32)))), (.int (f1_x1_0_0 ((p1 &&& (2147483647 : Int32)) % (3 : Int32))))])) _
    by_cases hc7 : (f1_x1_0_0 ((p1 &&& (2147483647 : Int32)) % (3 : Int32))) < (f1_x1_0_1 ((p1 &&& (2147483647 : Int32)) % (3 : Int32)))
    · refine Go.st (fun t k => XS.icmpNo X1.here hx rfl (hb hby at_37) rfl (tlt hc7).2.1 k) ?_
      show Go _ _ _ (T1.setTop (mkF m 40 #[.val (.int p1), .val (.int ((p1 &&& (2147483647 : Int32)) % (3 : Int32))), .val (.ref x1_0_1)] [])) _
      refine Go.st (fun t k => XS.aloadN X1.here hx rfl (hb hby at_40) rfl rfl k) ?_
      refine Go.st (fun t k => XS.iconst X1.here hx rfl (hb hby at_41) k) ?_
      obtain ⟨cl8, Ar8, -, Sz8, Ng8, Hs8, -⟩ := id V_x1_0_1
      have hin8 : ¬ ((1 : Int32) < 0 ∨ cl8.slots.size ≤ ((1 : Int32)).toNatClampNeg) := inb_of Sz8 ⟨by decide, by decide⟩
      refine Go.st (fun t k => X1.iaload hx (j := (1 : Int32)) (v := (.int (f1_x1_0_1 ((p1 &&& (2147483647 : Int32)) % (3 : Int32))))) (by rw [e1]; exact Ar8.1) (State.isArrayOf_alike hZ.alike Ar8.2.1) Ar8.2.2 hin8 (Has.at Hs8 hin8 rfl) (g := (mkF m 42 #[.val (.int p1), .val (.int ((p1 &&& (2147483647 : Int32)) % (3 : Int32))), .val (.ref x1_0_1)] [(.int 1), (.ref x1_0_1)])) rfl rfl (hb hby at_42) _ k) ?_
      show Go _ _ _ (T1.setTop (mkF m 43 #[.val (.int p1), .val (.int ((p1 &&& (2147483647 : Int32)) % (3 : Int32))), .val (.ref x1_0_1)] [(.int (f1_x1_0_1 ((p1 &&& (2147483647 : Int32)) % (3 : Int32))))])) _
      refine Go.st (fun t k => XS.iconst X1.here hx rfl (hb hby at_43) k) ?_
      by_cases hc9 : (2 : Int32) < (f1_x1_0_1 ((p1 &&& (2147483647 : Int32)) % (3 : Int32)))
      · refine Go.st (fun t k => XS.icmpYes X1.here hx rfl (pc0 := 44) (pc' := 65) rfl (hb hby at_44) rfl (tlt hc9).2.2.1 (by decide) (by decide) k) ?_
        show Go _ _ _ (T1.setTop (mkF m 65 #[.val (.int p1), .val (.int ((p1 &&& (2147483647 : Int32)) % (3 : Int32))), .val (.ref x1_0_1)] [])) _
        refine Go.st (fun t k => XS.iconst X1.here hx rfl (hb hby at_65) k) ?_
        obtain ⟨fs, hr, hrun, hended, hW, hsame⟩ := X1.leave (v := some (.int (0 : Int32))) (fun h => by rw [Bd.returns] at h; cases h)
        refine Go.fin (retN X1 hx (t := .boolean) Bd.returns (by simp) (hb hby at_66) hr) hrun hended ⟨_, _, rfl, ?_, ⟨_, rfl⟩, hW, hsame.mono (by decide) (by decide)⟩
        show Q0 Z p1 h0 n0 _ T1.heap _
        rw [e1]
        exact ⟨(by unfold f0; simp only [if_neg hc4, if_pos hc7, if_pos hc9]), N1⟩
      · refine Go.st (fun t k => XS.icmpNo X1.here hx rfl (hb hby at_44) rfl (flt hc9).2.2.1 k) ?_
        show Go _ _ _ (T1.setTop (mkF m 47 #[.val (.int p1), .val (.int ((p1 &&& (2147483647 : Int32)) % (3 : Int32))), .val (.ref x1_0_1)] [])) _
        refine Go.st (fun t k => XS.aloadN X1.here hx rfl (hb hby at_47) rfl rfl k) ?_
        refine Go.st (fun t k => XS.iconst X1.here hx rfl (hb hby at_48) k) ?_
        obtain ⟨cl10, Ar10, -, Sz10, Ng10, Hs10, -⟩ := id V_x1_0_1
        have hin10 : ¬ ((0 : Int32) < 0 ∨ cl10.slots.size ≤ ((0 : Int32)).toNatClampNeg) := inb_of Sz10 ⟨by decide, by decide⟩
        refine Go.st (fun t k => X1.iaload hx (j := (0 : Int32)) (v := (.int (f1_x1_0_0 ((p1 &&& (2147483647 : Int32)) % (3 : Int32))))) (by rw [e1]; exact Ar10.1) (State.isArrayOf_alike hZ.alike Ar10.2.1) Ar10.2.2 hin10 (Has.at Hs10 hin10 rfl) (g := (mkF m 49 #[.val (.int p1), .val (.int ((p1 &&& (2147483647 : Int32)) % (3 : Int32))), .val (.ref x1_0_1)] [(.int 0), (.ref x1_0_1)])) rfl rfl (hb hby at_49) _ k) ?_
        show Go _ _ _ (T1.setTop (mkF m 50 #[.val (.int p1), .val (.int ((p1 &&& (2147483647 : Int32)) % (3 : Int32))), .val (.ref x1_0_1)] [(.int (f1_x1_0_0 ((p1 &&& (2147483647 : Int32)) % (3 : Int32))))])) _
        refine Go.st (fun t k => XS.iloadN X1.here hx rfl (hb hby at_50) rfl k) ?_
        by_cases hc11 : (f1_x1_0_0 ((p1 &&& (2147483647 : Int32)) % (3 : Int32))) = ((p1 &&& (2147483647 : Int32)) % (3 : Int32))
        · refine Go.st (fun t k => XS.icmpYes X1.here hx rfl (pc0 := 51) (pc' := 65) rfl (hb hby at_51) rfl (teq hc11).1 (by decide) (by decide) k) ?_
          show Go _ _ _ (T1.setTop (mkF m 65 #[.val (.int p1), .val (.int ((p1 &&& (2147483647 : Int32)) % (3 : Int32))), .val (.ref x1_0_1)] [])) _
          refine Go.st (fun t k => XS.iconst X1.here hx rfl (hb hby at_65) k) ?_
          obtain ⟨fs, hr, hrun, hended, hW, hsame⟩ := X1.leave (v := some (.int (0 : Int32))) (fun h => by rw [Bd.returns] at h; cases h)
          refine Go.fin (retN X1 hx (t := .boolean) Bd.returns (by simp) (hb hby at_66) hr) hrun hended ⟨_, _, rfl, ?_, ⟨_, rfl⟩, hW, hsame.mono (by decide) (by decide)⟩
          show Q0 Z p1 h0 n0 _ T1.heap _
          rw [e1]
          exact ⟨(by unfold f0; simp only [if_neg hc4, if_pos hc7, if_neg hc9, if_pos hc11]), N1⟩
        · refine Go.st (fun t k => XS.icmpNo X1.here hx rfl (hb hby at_51) rfl (feq hc11).1 k) ?_
          show Go _ _ _ (T1.setTop (mkF m 54 #[.val (.int p1), .val (.int ((p1 &&& (2147483647 : Int32)) % (3 : Int32))), .val (.ref x1_0_1)] [])) _
          refine Go.st (fun t k => XS.aloadN X1.here hx rfl (hb hby at_54) rfl rfl k) ?_
          refine Go.st (fun t k => XS.iconst X1.here hx rfl (hb hby at_55) k) ?_
          obtain ⟨cl12, Ar12, -, Sz12, Ng12, Hs12, -⟩ := id V_x1_0_1
          have hin12 : ¬ ((1 : Int32) < 0 ∨ cl12.slots.size ≤ ((1 : Int32)).toNatClampNeg) := inb_of Sz12 ⟨by decide, by decide⟩
          refine Go.st (fun t k => X1.iaload hx (j := (1 : Int32)) (v := (.int (f1_x1_0_1 ((p1 &&& (2147483647 : Int32)) % (3 : Int32))))) (by rw [e1]; exact Ar12.1) (State.isArrayOf_alike hZ.alike Ar12.2.1) Ar12.2.2 hin12 (Has.at Hs12 hin12 rfl) (g := (mkF m 56 #[.val (.int p1), .val (.int ((p1 &&& (2147483647 : Int32)) % (3 : Int32))), .val (.ref x1_0_1)] [(.int 1), (.ref x1_0_1)])) rfl rfl (hb hby at_56) _ k) ?_
          show Go _ _ _ (T1.setTop (mkF m 57 #[.val (.int p1), .val (.int ((p1 &&& (2147483647 : Int32)) % (3 : Int32))), .val (.ref x1_0_1)] [(.int (f1_x1_0_1 ((p1 &&& (2147483647 : Int32)) % (3 : Int32))))])) _
          refine Go.st (fun t k => XS.iloadN X1.here hx rfl (hb hby at_57) rfl k) ?_
          by_cases hc13 : (f1_x1_0_1 ((p1 &&& (2147483647 : Int32)) % (3 : Int32))) = ((p1 &&& (2147483647 : Int32)) % (3 : Int32))
          · refine Go.st (fun t k => XS.icmpYes X1.here hx rfl (pc0 := 58) (pc' := 65) rfl (hb hby at_58) rfl (teq hc13).1 (by decide) (by decide) k) ?_
            show Go _ _ _ (T1.setTop (mkF m 65 #[.val (.int p1), .val (.int ((p1 &&& (2147483647 : Int32)) % (3 : Int32))), .val (.ref x1_0_1)] [])) _
            refine Go.st (fun t k => XS.iconst X1.here hx rfl (hb hby at_65) k) ?_
            obtain ⟨fs, hr, hrun, hended, hW, hsame⟩ := X1.leave (v := some (.int (0 : Int32))) (fun h => by rw [Bd.returns] at h; cases h)
            refine Go.fin (retN X1 hx (t := .boolean) Bd.returns (by simp) (hb hby at_66) hr) hrun hended ⟨_, _, rfl, ?_, ⟨_, rfl⟩, hW, hsame.mono (by decide) (by decide)⟩
            show Q0 Z p1 h0 n0 _ T1.heap _
            rw [e1]
            exact ⟨(by unfold f0; simp only [if_neg hc4, if_pos hc7, if_neg hc9, if_neg hc11, if_pos hc13]), N1⟩
          · refine Go.st (fun t k => XS.icmpNo X1.here hx rfl (hb hby at_58) rfl (feq hc13).1 k) ?_
            show Go _ _ _ (T1.setTop (mkF m 61 #[.val (.int p1), .val (.int ((p1 &&& (2147483647 : Int32)) % (3 : Int32))), .val (.ref x1_0_1)] [])) _
            refine Go.st (fun t k => XS.iconst X1.here hx rfl (hb hby at_61) k) ?_
            refine Go.st (fun t k => XS.goto X1.here hx rfl (pc0 := 62) (pc' := 66) rfl (hb hby at_62) (by decide) (by decide) k) ?_
            obtain ⟨fs, hr, hrun, hended, hW, hsame⟩ := X1.leave (v := some (.int (1 : Int32))) (fun h => by rw [Bd.returns] at h; cases h)
            refine Go.fin (retN X1 hx (t := .boolean) Bd.returns (by simp) (hb hby at_66) hr) hrun hended ⟨_, _, rfl, ?_, ⟨_, rfl⟩, hW, hsame.mono (by decide) (by decide)⟩
            show Q0 Z p1 h0 n0 _ T1.heap _
            rw [e1]
            exact ⟨(by unfold f0; simp only [if_neg hc4, if_pos hc7, if_neg hc9, if_neg hc11, if_neg hc13]), N1⟩
    · refine Go.st (fun t k => XS.icmpYes X1.here hx rfl (pc0 := 37) (pc' := 65) rfl (hb hby at_37) rfl (flt hc7).2.1 (by decide) (by decide) k) ?_
      show Go _ _ _ (T1.setTop (mkF m 65 #[.val (.int p1), .val (.int ((p1 &&& (2147483647 : Int32)) % (3 : Int32))), .val (.ref x1_0_1)] [])) _
      refine Go.st (fun t k => XS.iconst X1.here hx rfl (hb hby at_65) k) ?_
      obtain ⟨fs, hr, hrun, hended, hW, hsame⟩ := X1.leave (v := some (.int (0 : Int32))) (fun h => by rw [Bd.returns] at h; cases h)
      refine Go.fin (retN X1 hx (t := .boolean) Bd.returns (by simp) (hb hby at_66) hr) hrun hended ⟨_, _, rfl, ?_, ⟨_, rfl⟩, hW, hsame.mono (by decide) (by decide)⟩
      show Q0 Z p1 h0 n0 _ T1.heap _
      rw [e1]
      exact ⟨(by unfold f0; simp only [if_neg hc4, if_neg hc7]), N1⟩

theorem own_plain (a : Int32) : f0 a = 1 := by
  unfold f0
  obtain ⟨h1, h2⟩ := own_rem a 3 3 rfl (by decide)
  generalize ((a &&& (2147483647 : Int32)) % (3 : Int32)) = i at *
  have h : i.toInt = 0 ∨ i.toInt = 1 ∨ i.toInt = 2 := by omega
  rcases h with h | h | h
  · obtain rfl : i = 0 := Int32.toInt_inj.mp h
    decide
  · obtain rfl : i = 1 := Int32.toInt_inj.mp h
    decide
  · obtain rfl : i = 2 := Int32.toInt_inj.mp h
    decide

set_option maxRecDepth 65536 in
set_option maxHeartbeats 16000000 in
theorem comes_1 {Post : Tables → Env → Array Value → State → Outcome → State → Prop} (hpost : ∀ tb e args s v u, (limb_1_1.after args s (.returned v) u = true ∧ limb_1_2.after args s (.returned v) u = true ∧ True) → FrameEnd s (.returned v) u (Jvm.fieldLocs frame_1_writes args s ++ Jvm.arrayLocs frame_1_arrays args s ++ Jvm.staticLocs frame_1_statics s) 16 128 → Post tb e args s (.returned v) u) :
    ArmFor flags0 classFile x code maxLocals ret World_1 tables_1 room_1 Calls_1 rest_1 Pre_1 Post := by
  intro l hfl _ _ p e ha hc hk s m args below hf hA hF happ hP
  obtain ⟨hcalls, hrest, hpre⟩ := hP
  obtain ⟨-, -, -, hnamed, -, -, -, hat⟩ := (Spec.applies_iff hf).mp happ
  obtain ⟨hg, hn⟩ := and_e (Cond.before_iff.mp (show (Jvm.Cond.and given_1 narrow_1).before args s = true from hpre))
  obtain ⟨g1, g2⟩ := and_e hg
  obtain ⟨w0, rfl⟩ : ∃ w0 : Value, args = #[w0] := by
    have hs : args.size = 1 := by simpa [Cond.value, given_1] using g1
    obtain ⟨L⟩ := args
    match L, hs with
    | [w0], _ => exact ⟨w0, rfl⟩
  have hw := fun d (hd : d ∈ tables_1) => atoms_spec (ws := Jvm.Cond.code x code maxLocals ret :: tables_1) hat d (List.mem_cons_of_mem _ hd)
  have hfit : Fit s := fun {y c} hc i hi => by
    obtain ⟨ha, rfl⟩ := Array.getElem?_eq_some_iff.mp hc
    have q := List.all_eq_true.mp ((Array.all_eq_true_iff_forall_mem.mp hF) _ (Array.getElem_mem ha)) i (List.mem_range.mpr hi)
    simpa [Array.getElem?_eq_getElem hi] using q
  obtain ⟨i0, ei0⟩ := is_v g2
  obtain rfl : w0 = (.int i0) := Option.some.inj ei0
  have hplain := own_plain i0
  obtain ⟨n, o, h1, h2, h3, _, L, rfl, ⟨rfl, N⟩, hq⟩ := rm0 l s _ hw tables_1 i0 s.heap s.heap.size (Nat.le_refl _)  p e ha hc hk s m _ below hf ((Spec.applies_iff_loose hf).mp happ).1 ⟨rfl, State.Warmed39.refl s, rfl⟩ trivial
  rw [hplain] at *
  refine ⟨n, _, h1, h2, h3, hpost _ _ _ _ _ _ ⟨Cond.after_iff.mpr rfl, Cond.after_iff.mpr (eq_i res_at (Term.int_eval (1)) rfl), trivial⟩ ⟨hq.1, hq.2.1, (hq.2.2.sift fun y hy => Or.inr (N y hy)).mono (by decide) (by decide)⟩⟩
theorem main_1_1 : Claimed_1_1 := comes_1 fun _ _ _ _ _ _ h hF => ⟨h.1, hF⟩
theorem main_1_2 : Claimed_1_2 := comes_1 fun _ _ _ _ _ _ h hF => ⟨h.2.1, hF⟩
end Jvm.Pilot.@@N@@
namespace Jvm.Pilot.@@N@@
open Jvm Jvm.ClassFile Sem Op Lib Jvm.Free Jvm.Stand Jvm.Pilot.@@N@@.Jvm.D
/-! MADE BY PROGRAM (witnessworld.py) out of the Statement's table words and the real class files: 9 classes; the members and pool entries that the words name. The judged class is class 1, her method 1. -/
namespace start1
open Jvm.ClassFile
def u (s : String) : CpInfo := .utf8 (stringToUtf16 s)
/-- a pool by its gaps: so many unusable entries, then the entry; so many at the end -/
def gap : Nat → List CpInfo → List CpInfo
  | 0, r => r
  | n + 1, r => .unusable :: gap n r
def poolList (es : List (Nat × CpInfo)) (last : Nat) : List CpInfo := es.foldr (fun e r => gap e.1 (e.2 :: r)) (gap last [])
def pool (es : List (Nat × CpInfo)) (last : Nat) : Array CpInfo := ⟨poolList es last⟩
def fileOf (pool : Array CpInfo) (this : Nat) (attrs : Array Attribute := #[]) (ms : Array MethodInfo := #[]) (fl : Nat := 33) (sup : Nat := 0) (ifs : Array Nat := #[]) (fds : Array FieldInfo := #[]) : ClassFile where
  minorVersion := 0
  majorVersion := 65
  constantPool := pool
  accessFlags := fl
  thisClass := this
  superClass := sup
  interfaces := ifs
  fields := fds
  methods := ms
  attributes := attrs
def plain (name : String) (sup : Option ClassId) : Class where
  name := name
  kind := .ordinary
  loader := none
  accessFlags := 33
  super := sup
  interfaces := #[]
  cf := none
  fields := #[]
  methods := #[]
  instanceTypes := #[]
  staticTypes := #[]
  resolved := #[]
  callSites := []
  init := .initialized
  statics := none
  mirror := none

def pool0 : Array CpInfo := pool [(5, u "<init>"), (0, u "()V"), (1, .class_ 10), (1, u "java/lang/Object")] 113

def k0m0 : Method := { name := "<init>", desc := "()V", sig := { parameters := [], returnType := none }, accessFlags := 1, code := none }
/-- java/lang/Object -/
def k0 : Class := { plain "java/lang/Object" none with
  accessFlags := 33
  interfaces := #[]
  cf := some (fileOf pool0 8 #[] #[{ accessFlags := 1, nameIndex := 5, descriptorIndex := 6, attributes := #[] }] 33 0 #[] #[])
  fields := #[]
  methods := #[k0m0]
  instanceTypes := #[]
  staticTypes := #[]
  resolved := Array.replicate 124 none
  statics := none }

def pool1 : Array CpInfo := pool [(2, .class_ 4), (1, u "java/lang/Object"), (0, u "<init>"), (0, u "()V"), (0, .integer 2147483647), (0, .methodref 9 10), (0, .class_ 11), (0, .nameAndType 12 13), (0, u "com/example/bitlattice/bitlattice/eval/RuleIndex"), (0, u "otherPlaces"), (0, u "(I)[I"), (0, .class_ 15), (0, u "com/example/bitlattice/bitlattice/eval/RuleIndexOtherPlacesPinLaw"), (2, u "law"), (0, u "(I)Z")] 5

def k1m0 : Method := { name := "<init>", desc := "()V", sig := { parameters := [], returnType := none }, accessFlags := 1, code := none }
def k1c1 : Code := { maxStack := 3, maxLocals := 3, code := code, exceptionTable := #[], attributes := #[] }
def k1m1 : Method := { name := "law", desc := "(I)Z", sig := { parameters := [.int], returnType := some .boolean }, accessFlags := 9, code := some k1c1 }
/-- com/example/bitlattice/bitlattice/eval/RuleIndexOtherPlacesPinLaw -/
def k1 : Class := { plain "com/example/bitlattice/bitlattice/eval/RuleIndexOtherPlacesPinLaw" (some 0) with
  accessFlags := 49
  interfaces := #[]
  cf := some (fileOf pool1 14 #[] #[{ accessFlags := 1, nameIndex := 5, descriptorIndex := 6, attributes := #[] }, { accessFlags := 9, nameIndex := 18, descriptorIndex := 19, attributes := #[] }] 49 2 #[] #[])
  fields := #[]
  methods := #[k1m0, k1m1]
  instanceTypes := #[]
  staticTypes := #[]
  resolved := Array.replicate 25 none
  statics := none }

def pool2 : Array CpInfo := pool [(2, .class_ 4), (1, u "java/lang/Object"), (8, .class_ 15), (1, u "com/example/bitlattice/bitlattice/eval/RuleIndex"), (0, u "grants"), (0, u "Lcom/example/bitlattice/bitlattice/eval/Relation;"), (2, u "constantCount"), (0, u "I"), (2, u "resources"), (0, u "Ljava/util/Map;"), (2, u "everyResource"), (0, u "Lcom/example/bitlattice/bitlattice/eval/RuleSet;"), (2, u "unknownResources"), (2, u "actions"), (2, u "everyAction"), (8, u "otherResourceRules"), (0, u "Lcom/example/bitlattice/bitlattice/eval/RuleVector;"), (2, u "byResource"), (0, u "[Lcom/example/bitlattice/bitlattice/eval/RuleVector;"), (43, u "unknownResourceRules"), (2, u "otherActionRules"), (40, u "grantRules"), (2, u "byAction"), (2, u "ungrantedByAction"), (4, u "includingByAction"), (0, u "[[I"), (20, u "otherSubjectRules"), (11, u "bySubject"), (18, u "otherPlaces"), (0, u "(I)[I"), (23, u "SUBJECT"), (2, u "ACTION"), (1, u "RESOURCE")] 26

def k2c0 : Code := { maxStack := 4, maxLocals := 1, code := prog_40_method_9_code, exceptionTable := #[], attributes := #[] }
def k2m0 : Method := { name := "otherPlaces", desc := "(I)[I", sig := { parameters := [.int], returnType := some (.array .int) }, accessFlags := 8, code := some k2c0 }
/-- com/example/bitlattice/bitlattice/eval/RuleIndex -/
def k2 : Class := { plain "com/example/bitlattice/bitlattice/eval/RuleIndex" (some 0) with
  accessFlags := 32
  interfaces := #[]
  cf := some (fileOf pool2 13 #[] #[{ accessFlags := 8, nameIndex := 204, descriptorIndex := 205, attributes := #[] }] 32 2 #[] #[{ accessFlags := 24, nameIndex := 229, descriptorIndex := 21, attributes := #[] }, { accessFlags := 24, nameIndex := 232, descriptorIndex := 21, attributes := #[] }, { accessFlags := 24, nameIndex := 234, descriptorIndex := 21, attributes := #[] }, { accessFlags := 18, nameIndex := 20, descriptorIndex := 21, attributes := #[] }, { accessFlags := 18, nameIndex := 24, descriptorIndex := 25, attributes := #[] }, { accessFlags := 18, nameIndex := 28, descriptorIndex := 29, attributes := #[] }, { accessFlags := 18, nameIndex := 32, descriptorIndex := 29, attributes := #[] }, { accessFlags := 18, nameIndex := 35, descriptorIndex := 25, attributes := #[] }, { accessFlags := 18, nameIndex := 38, descriptorIndex := 29, attributes := #[] }, { accessFlags := 18, nameIndex := 51, descriptorIndex := 52, attributes := #[] }, { accessFlags := 18, nameIndex := 47, descriptorIndex := 48, attributes := #[] }, { accessFlags := 18, nameIndex := 96, descriptorIndex := 48, attributes := #[] }, { accessFlags := 18, nameIndex := 143, descriptorIndex := 52, attributes := #[] }, { accessFlags := 18, nameIndex := 99, descriptorIndex := 48, attributes := #[] }, { accessFlags := 18, nameIndex := 151, descriptorIndex := 152, attributes := #[] }, { accessFlags := 18, nameIndex := 16, descriptorIndex := 17, attributes := #[] }, { accessFlags := 18, nameIndex := 140, descriptorIndex := 29, attributes := #[] }, { accessFlags := 18, nameIndex := 185, descriptorIndex := 52, attributes := #[] }, { accessFlags := 18, nameIndex := 173, descriptorIndex := 48, attributes := #[] }, { accessFlags := 18, nameIndex := 146, descriptorIndex := 52, attributes := #[] }])
  fields := #[{ name := "SUBJECT", type := .int, accessFlags := 24, slot := 0, constantValue := 0 }, { name := "ACTION", type := .int, accessFlags := 24, slot := 1, constantValue := 0 }, { name := "RESOURCE", type := .int, accessFlags := 24, slot := 2, constantValue := 0 }, { name := "constantCount", type := .int, accessFlags := 18, slot := 0, constantValue := 0 }, { name := "resources", type := (.object "java/util/Map"), accessFlags := 18, slot := 1, constantValue := 0 }, { name := "everyResource", type := (.object "com/example/bitlattice/bitlattice/eval/RuleSet"), accessFlags := 18, slot := 2, constantValue := 0 }, { name := "unknownResources", type := (.object "com/example/bitlattice/bitlattice/eval/RuleSet"), accessFlags := 18, slot := 3, constantValue := 0 }, { name := "actions", type := (.object "java/util/Map"), accessFlags := 18, slot := 4, constantValue := 0 }, { name := "everyAction", type := (.object "com/example/bitlattice/bitlattice/eval/RuleSet"), accessFlags := 18, slot := 5, constantValue := 0 }, { name := "byResource", type := (.array (.object "com/example/bitlattice/bitlattice/eval/RuleVector")), accessFlags := 18, slot := 6, constantValue := 0 }, { name := "otherResourceRules", type := (.object "com/example/bitlattice/bitlattice/eval/RuleVector"), accessFlags := 18, slot := 7, constantValue := 0 }, { name := "unknownResourceRules", type := (.object "com/example/bitlattice/bitlattice/eval/RuleVector"), accessFlags := 18, slot := 8, constantValue := 0 }, { name := "byAction", type := (.array (.object "com/example/bitlattice/bitlattice/eval/RuleVector")), accessFlags := 18, slot := 9, constantValue := 0 }, { name := "otherActionRules", type := (.object "com/example/bitlattice/bitlattice/eval/RuleVector"), accessFlags := 18, slot := 10, constantValue := 0 }, { name := "includingByAction", type := (.array (.array .int)), accessFlags := 18, slot := 11, constantValue := 0 }, { name := "grants", type := (.object "com/example/bitlattice/bitlattice/eval/Relation"), accessFlags := 18, slot := 12, constantValue := 0 }, { name := "grantRules", type := (.object "com/example/bitlattice/bitlattice/eval/RuleSet"), accessFlags := 18, slot := 13, constantValue := 0 }, { name := "bySubject", type := (.array (.object "com/example/bitlattice/bitlattice/eval/RuleVector")), accessFlags := 18, slot := 14, constantValue := 0 }, { name := "otherSubjectRules", type := (.object "com/example/bitlattice/bitlattice/eval/RuleVector"), accessFlags := 18, slot := 15, constantValue := 0 }, { name := "ungrantedByAction", type := (.array (.object "com/example/bitlattice/bitlattice/eval/RuleVector")), accessFlags := 18, slot := 16, constantValue := 0 }]
  methods := #[k2m0]
  instanceTypes := #[.int, (.object "java/util/Map"), (.object "com/example/bitlattice/bitlattice/eval/RuleSet"), (.object "com/example/bitlattice/bitlattice/eval/RuleSet"), (.object "java/util/Map"), (.object "com/example/bitlattice/bitlattice/eval/RuleSet"), (.array (.object "com/example/bitlattice/bitlattice/eval/RuleVector")), (.object "com/example/bitlattice/bitlattice/eval/RuleVector"), (.object "com/example/bitlattice/bitlattice/eval/RuleVector"), (.array (.object "com/example/bitlattice/bitlattice/eval/RuleVector")), (.object "com/example/bitlattice/bitlattice/eval/RuleVector"), (.array (.array .int)), (.object "com/example/bitlattice/bitlattice/eval/Relation"), (.object "com/example/bitlattice/bitlattice/eval/RuleSet"), (.array (.object "com/example/bitlattice/bitlattice/eval/RuleVector")), (.object "com/example/bitlattice/bitlattice/eval/RuleVector"), (.array (.object "com/example/bitlattice/bitlattice/eval/RuleVector"))]
  staticTypes := #[.int, .int, .int]
  resolved := Array.replicate 261 none
  statics := none }

def pool3 : Array CpInfo := pool [(1, u "java/lang/Cloneable"), (0, .class_ 1), (0, u "java/lang/Object"), (0, .class_ 3)] 3

/-- java/lang/Cloneable -/
def k3 : Class := { plain "java/lang/Cloneable" (some 0) with
  accessFlags := 1537
  interfaces := #[]
  cf := some (fileOf pool3 2 #[] #[] 1537 4 #[] #[])
  fields := #[]
  methods := #[]
  instanceTypes := #[]
  staticTypes := #[]
  resolved := Array.replicate 8 none
  statics := none }

def pool4 : Array CpInfo := pool [(1, u "java/io/Serializable"), (0, .class_ 1), (0, u "java/lang/Object"), (0, .class_ 3)] 3

/-- java/io/Serializable -/
def k4 : Class := { plain "java/io/Serializable" (some 0) with
  accessFlags := 1537
  interfaces := #[]
  cf := some (fileOf pool4 2 #[] #[] 1537 4 #[] #[])
  fields := #[]
  methods := #[]
  instanceTypes := #[]
  staticTypes := #[]
  resolved := Array.replicate 8 none
  statics := none }

/-- the primitive byte -/
def k5 : Class := { plain "byte" none with kind := .primitive 'B', accessFlags := 0x411 }
/-- [B -/
def k6 : Class := { plain "[B" (some 0) with kind := .array 5 .byte, interfaces := #[3, 4], accessFlags := 1041 }

/-- the primitive int -/
def k7 : Class := { plain "int" none with kind := .primitive 'I', accessFlags := 0x411 }
/-- [I -/
def k8 : Class := { plain "[I" (some 0) with kind := .array 7 .int, interfaces := #[3, 4], accessFlags := 1041 }

def heap : Heap := #[]
def classes : Array Class := #[k0, k1, k2, k3, k4, k5, k6, k7, k8]
def interned : List (Array UInt16 × Addr) := []
def slotsUsed : Nat := 0
def theMethod : MethodId := ⟨1, 1⟩
def args0 : Array Value := #[.int 5]
def aboutOver (below : List Frame) : State where
  vm := { classes := classes, interned := interned.toArray }
  heap := heap
  slotsUsed := slotsUsed
  threads := #[{ frames := .invoking theMethod args0 :: below }]
def below0 : List Frame := [.native { method := ⟨0, 0⟩, args := #[] }]
def about1 : State := aboutOver below0
def p0 : Program := .bare "" "" ""
def e0 : Env := launch0.env 0 0 0
theorem w_frames : about1.frames = Frame.invoking theMethod args0 :: below0 := rfl
set_option maxRecDepth 65536 in
theorem w_args : argsFit about1.vm theMethod args0 = true := by decide +kernel
set_option maxRecDepth 65536 in
theorem w_heap : heapFits about1 = true := by decide +kernel
set_option maxRecDepth 65536 in
theorem w_runnable : about1.curStatus? = some .runnable := by decide +kernel
set_option maxRecDepth 65536 in
theorem w_alone : about1.alone = true := by decide +kernel
set_option maxRecDepth 65536 in
theorem w_named : about1.methodNamed? x = some theMethod := by decide +kernel
set_option maxRecDepth 65536 in
theorem w_hears : about1.hears theMethod below0 = true := by decide +kernel
set_option maxRecDepth 65536 in
theorem w_ripe : about1.ripe theMethod args0 below0 = true := by decide +kernel
theorem w_running : about1.status = .running := rfl
set_option maxRecDepth 65536 in
theorem w_room : about1.hasRoom e0.platform room_1 = true :=
  launch0.hasRoom_least _ room_1 (by decide +kernel) (by decide +kernel) (by decide +kernel) (by decide +kernel) (by decide +kernel) (by decide +kernel)
theorem allAtoms_all (ts : List Jvm.Cond) (a : Array Jvm.Value) (st : Jvm.State) : (allAtoms ts).before a st = ts.all (fun c => c.before a st) := by
  induction ts with
  | nil => rfl
  | cons c t ih =>
    show (Jvm.Cond.and c (allAtoms t)).before a st = _
    rw [Jvm.Cond.before_and, ih, List.all_cons]
def words1 : List Jvm.Cond := Jvm.Cond.code x code maxLocals ret :: tables_1
/-- a 'code' word, met by the world's own term for the bytes: nothing is compared byte by byte -/
theorem code_word {y : MethodName} {bytes : ByteArray} {mx : Nat} {rt : Option FieldType} {a : Array Value} {s : State} {m : MethodId} {meth : Method} {c : Code} (h1 : s.methodNamed? y = some m) (h2 : s.vm.method? m = some meth) (h3 : meth.code = some c) (h4 : c.code = bytes)
    (h5 : (c.maxLocals == mx && c.exceptionTable.isEmpty && decide (c.maxStack ≤ mostOperands) && decide (meth.sig.returnType = rt) && !meth.locks && decide (parseMethodDescriptor y.desc = some meth.sig)) = true) : (Jvm.Cond.code y bytes mx rt).before a s = true := by
  simp only [Bool.and_eq_true, beq_iff_eq, Bool.not_eq_true', decide_eq_true_eq] at h5
  obtain ⟨⟨⟨⟨⟨g1, g2⟩, g3⟩, g4⟩, g5⟩, g6⟩ := h5
  simp [Cond.before, Cond.holds, Cond.value, h1, h2, h3, h4, g1, g2, g3, g4, g5, g6]
def isCode : Jvm.Cond → Bool
  | .code _ _ _ _ => true
  | _ => false
theorem all_split {L : List Jvm.Cond} {P : Jvm.Cond → Bool} (h1 : L.all (fun c => isCode c || P c) = true) (h2 : ∀ c ∈ L.filter isCode, P c = true) : L.all P = true := by
  refine List.all_eq_true.mpr fun c hc => ?_
  have h := List.all_eq_true.mp h1 c hc
  rcases Bool.eq_false_or_eq_true (isCode c) with hi | hi
  · exact h2 c (List.mem_filter.mpr ⟨hc, hi⟩)
  · simpa [hi] using h
set_option maxRecDepth 65536 in
theorem w_c0 : (Jvm.Cond.code x code maxLocals ret).before args0 about1 = true := code_word (m := ⟨1, 1⟩) (meth := k1m1) (c := k1c1) (by decide +kernel) rfl rfl rfl (by decide +kernel)
set_option maxRecDepth 65536 in
theorem w_c1 : (Jvm.Cond.code ({ cls := "com/example/bitlattice/bitlattice/eval/RuleIndex", name := "otherPlaces", desc := "(I)[I" } : Jvm.MethodName) prog_40_method_9_code (1 : Nat) (Option.some (Jvm.ClassFile.FieldType.array Jvm.ClassFile.FieldType.int))).before args0 about1 = true := code_word (m := ⟨2, 0⟩) (meth := k2m0) (c := k2c0) (by decide +kernel) rfl rfl rfl (by decide +kernel)
def codes1 : List Jvm.Cond := [Jvm.Cond.code x code maxLocals ret, Jvm.Cond.code ({ cls := "com/example/bitlattice/bitlattice/eval/RuleIndex", name := "otherPlaces", desc := "(I)[I" } : Jvm.MethodName) prog_40_method_9_code (1 : Nat) (Option.some (Jvm.ClassFile.FieldType.array Jvm.ClassFile.FieldType.int))]
set_option maxRecDepth 65536 in
theorem codes_eq : words1.filter isCode = codes1 := rfl
theorem w_codes : ∀ c ∈ words1.filter isCode, c.before args0 about1 = true := by
  rw [codes_eq]
  intro c hc
  simp only [codes1, List.mem_cons, List.not_mem_nil, or_false] at hc
  rcases hc with rfl | rfl
  · exact w_c0
  · exact w_c1
set_option maxRecDepth 65536 in
theorem w_t1 : words1.all (fun c => isCode c || c.before args0 about1) = true := by decide +kernel
theorem w_tables : (allAtoms (Jvm.Cond.code x code maxLocals ret :: tables_1)).before args0 about1 = true := by
  rw [allAtoms_all]
  show words1.all (fun c => c.before args0 about1) = true
  refine all_split ?_ w_codes
  rw [w_t1]
set_option maxRecDepth 65536 in
theorem w_case : (Jvm.Cond.and given_1 narrow_1).before args0 about1 = true := by decide +kernel
theorem w_applies : (headSpec (Jvm.Cond.code x code maxLocals ret :: tables_1) room_1).applies x e0.platform about1 = true :=
  (Spec.applies_iff w_frames).mpr ⟨w_running, w_runnable, w_alone, w_named, w_hears, w_ripe, w_room, w_tables⟩
theorem atStart : AtStart classFile x code maxLocals ret World_1 tables_1 room_1 Calls_1 rest_1 Pre_1 launch0 p0 e0 about1 theMethod args0 below0 :=
  ⟨lists_1, trivial, launch0.admits_env _ _ _, launch0.least_env, fairChoices_fair.cas, fairChoices_fair.clock, w_frames, w_args, w_heap, w_applies, trivial, trivial, w_case⟩
end start1
theorem witness_1 : WitnessClaimed_1 := ⟨start1.p0, start1.e0, start1.about1, start1.theMethod, start1.args0, start1.below0, start1.atStart⟩
end Jvm.Pilot.@@N@@
