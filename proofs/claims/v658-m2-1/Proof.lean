import JvmDerived
import JvmDerived.Pilot.@@N@@Statement
import JvmDerived.Pilot.@@N@@Code
set_option linter.unusedVariables false
set_option linter.unusedSimpArgs false
namespace Jvm.Pilot.@@N@@
open Jvm Jvm.ClassFile Sem Op Lib Jvm.Free Jvm.Stand Jvm.LawKit Jvm.RoadKit Bundle Jvm.Pilot.@@N@@.Jvm.D

def Go (tb : Tables) (e : Env) (below : List Frame) (a : State) (P : Outcome → State → Prop) : Prop := ∃ s₂ o, Steps tb e below a s₂ ∧ s₂.status = .running ∧ Ended s₂ below o ∧ P o s₂
theorem Go.st {tb : Tables} {e : Env} {below : List Frame} {a b : State} {P : Outcome → State → Prop} (h : ∀ t, Steps tb e below b t → Steps tb e below a t) (k : Go tb e below b P) : Go tb e below a P := by
  obtain ⟨s, o, h1, h2⟩ := k
  exact ⟨s, o, h _ h1, h2⟩
theorem Go.tr {tb : Tables} {e : Env} {below : List Frame} {a b : State} {P : Outcome → State → Prop} (h : Steps tb e below a b) (k : Go tb e below b P) : Go tb e below a P := Go.st (fun _ q => h.trans q) k
theorem Go.fr {tb : Tables} {e : Env} {below : List Frame} {T : State} {g g' : JFrame} {P : Outcome → State → Prop} (q : g = g') (k : Go tb e below (T.setTop g') P) : Go tb e below (T.setTop g) P := q ▸ k
theorem Go.fin {tb : Tables} {e : Env} {below : List Frame} {a s₂ : State} {o : Outcome} {P : Outcome → State → Prop} (hs : Steps tb e below a s₂) (hr : s₂.status = .running) (he : Ended s₂ below o) (hP : P o s₂) : Go tb e below a P := ⟨_, _, hs, hr, he, hP⟩
theorem exa_ns {Z : State} {h : Heap} {a : Addr} {C : String} (F : Exa Z h a C) : ∃ c : Cell, h[a]? = some c ∧ c.vm.isStatics = false := by
  obtain ⟨c, _, h1, -, -, h4, -⟩ := F
  exact ⟨c, h1, h4⟩
theorem fld_ns {Z : State} {h : Heap} {a : Addr} {C n d : String} {v : Value} (F : Fld Z h a C n d v) : ∃ c : Cell, h[a]? = some c ∧ c.vm.isStatics = false := by
  obtain ⟨c, _, _, _, _, h1, -, -, -, h4, -⟩ := F
  exact ⟨c, h1, h4⟩
theorem arv_ns {Z : State} {h : Heap} {a : Addr} {k : ClassId} {ty : FieldType} {n : Int32} {vs : List Value} {d : Value} (F : Arv Z h a k ty n vs d) : ∃ c : Cell, h[a]? = some c ∧ c.vm.isStatics = false := by
  obtain ⟨c, A, -⟩ := F
  exact ⟨c, A.1, A.plain⟩
theorem sta_keep {Z : State} {h h' : Heap} {C n d : String} {v : Value} {ws : List Addr} (F : Sta Z h C n d v) (K : Keep h h' ws) (q : ∀ x ∈ ws, ∃ c : Cell, h[x]? = some c ∧ c.vm.isStatics = false) : Sta Z h' C n d v := by
  obtain ⟨cf, i, k, f, st, cell, h1, h2, h3, h4, h5, h6, h7⟩ := F
  refine ⟨cf, i, k, f, st, cell, h1, h2, h3, h4, K.2.1 st cell h5 fun z => ?_, h6, h7⟩
  obtain ⟨c, q1, q2⟩ := q st z
  cases q1.symm.trans h5
  rw [q2] at h6
  cases h6
theorem own_selp {s : State} {args : Array Value} {y : MethodName} {n : Nat} (wi : (Cond.instantiable y.cls n).before args s = true) (hp : s.PrivateAt y) (hi : (Cond.instanceMethod y).before args s = true) (hy : y.cls ≠ "java/lang/invoke/MethodHandle" ∧ y.cls ≠ "java/lang/invoke/VarHandle") : (Cond.selects y.cls y y).before args s = true := by
  obtain ⟨c, k, h1, h2, -, h4, -⟩ := Cond.instantiable_spec wi
  simp only [Bool.or_eq_false_iff] at h4
  exact selects_self_of_private h1 h2 h4.1 hp hi hy
theorem own_ne32 {x k : Int32} {a : Int} (ha : k.toInt = a) (h : ¬ x = k) : a ≠ x.toInt := fun e => h (Int32.toInt_inj.mp (e.symm.trans ha.symm))
theorem own_nn (x : Int32) : 0 ≤ (x &&& (2147483647 : Int32)).toInt := (c_andS x 2147483647).2.2 (by decide)
theorem own_rem (x : Int32) (k : Int32) (d : Int) (hd : k.toInt = d) (h0 : 0 < d) : 0 ≤ ((x &&& (2147483647 : Int32)) % k).toInt ∧ ((x &&& (2147483647 : Int32)) % k).toInt < d := by
  have h := own_nn x
  rw [Int32.toInt_mod, hd]
  exact ⟨Int.tmod_nonneg _ h, Int.tmod_lt_of_pos _ h0⟩
theorem own_remb (x : Int32) (k : Int32) (d : Int) (hd : k.toInt = d) (h0 : 0 < d) : ¬ ((x &&& (2147483647 : Int32)) % k) < 0 ∧ ((x &&& (2147483647 : Int32)) % k) < k := by
  obtain ⟨h1, h2⟩ := own_rem x k d hd h0
  rw [Int32.lt_iff_toInt_lt, Int32.lt_iff_toInt_lt, hd]
  exact ⟨Int.not_lt.mpr h1, h2⟩
def own_at (xs : List Int32) (j : Int32) : Int32 := xs.getD j.toNatClampNeg 0
theorem own_atv (xs : List Int32) (j : Int32) : (xs.map Value.int).getD j.toNatClampNeg (.int 0) = .int (own_at xs j) := by
  unfold own_at
  generalize j.toNatClampNeg = n
  induction xs generalizing n with
  | nil => rfl
  | cons a r ih => cases n with
    | zero => rfl
    | succ n => simpa using ih n
theorem own_setl {l : List Value} {k n : Nat} {v : Value} (h : l.length = n) : (l.set k v).length = n := by rw [List.length_set]; exact h
theorem own_setg {l : List Value} {k : Nat} {v d : Value} (h : k < l.length) : (l.set k v).getD k d = v := by simp [List.getD, List.getElem?_set, h]
theorem own_setn {l : List Value} {k i : Nat} {v d : Value} (h : i ≠ k) : (l.set k v).getD i d = l.getD i d := by simp [List.getD, List.getElem?_set, Ne.symm h]
theorem own_lt_of {l : List Value} {n : Nat} {j z : Int32} (h : l.length = n) (q : ¬ j < 0 ∧ j < z) (hz : z.toNatClampNeg = n := by decide) : j.toNatClampNeg < l.length := by
  rw [h, ← hz]
  obtain ⟨q1, q2⟩ := q
  rw [Int32.lt_iff_toInt_lt] at q1 q2
  have : (0 : Int32).toInt = 0 := rfl
  simp only [Int32.toNatClampNeg]
  omega
theorem own_eqi {args : Array Value} {s : State} {t : Term} {k : Int32} (h : (Jvm.Cond.eq t (.int k)).value args s none s [] = some true) : t.eval args s none [] s = some (.int k) := by
  simp only [Cond.value, Term.eval] at h
  cases ht : t.eval args s none [] s with
  | none => simp [ht] at h
  | some x => cases x <;> simp_all
theorem d1_0 : decode method_2_code 0 = .ok (.iload_n 0, 1) := by decide +kernel
theorem d1_1 : decode method_2_code 1 = .ok (.ifCond .ne 7, 3) := by decide +kernel
theorem d1_4 : decode method_2_code 4 = .ok (.getstatic 7, 3) := by decide +kernel
theorem wd5 {Z : State} {a0 : Array Value} (hw : ∀ d ∈ tables_1, d.before a0 Z = true) : (Jvm.Cond.fieldLink "com/example/tariffwire/tariffwire/g2b/ServiceCodeIsReceiverFaultPinLaw" (7 : Nat) "com/example/tariffwire/tariffwire/g2b/ServiceCode" "W001" "Lcom/example/tariffwire/tariffwire/g2b/ServiceCode;").before a0 Z = true := hw _ (List.mem_of_getElem? (i := 5) rfl)
theorem d1_7 : decode method_2_code 7 = .ok (.areturn, 1) := by decide +kernel
theorem d1_8 : decode method_2_code 8 = .ok (.iload_n 0, 1) := by decide +kernel
theorem d1_9 : decode method_2_code 9 = .ok (.iconst 1, 1) := by decide +kernel
theorem d1_10 : decode method_2_code 10 = .ok (.if_icmp .ne 7, 3) := by decide +kernel
theorem d1_13 : decode method_2_code 13 = .ok (.getstatic 13, 3) := by decide +kernel
theorem wd16 {Z : State} {a0 : Array Value} (hw : ∀ d ∈ tables_1, d.before a0 Z = true) : (Jvm.Cond.fieldLink "com/example/tariffwire/tariffwire/g2b/ServiceCodeIsReceiverFaultPinLaw" (13 : Nat) "com/example/tariffwire/tariffwire/g2b/ServiceCode" "W002" "Lcom/example/tariffwire/tariffwire/g2b/ServiceCode;").before a0 Z = true := hw _ (List.mem_of_getElem? (i := 16) rfl)
theorem d1_16 : decode method_2_code 16 = .ok (.areturn, 1) := by decide +kernel
theorem d1_17 : decode method_2_code 17 = .ok (.iload_n 0, 1) := by decide +kernel
theorem d1_18 : decode method_2_code 18 = .ok (.iconst 2, 1) := by decide +kernel
theorem d1_19 : decode method_2_code 19 = .ok (.if_icmp .ne 7, 3) := by decide +kernel
theorem d1_22 : decode method_2_code 22 = .ok (.getstatic 16, 3) := by decide +kernel
theorem wd22 {Z : State} {a0 : Array Value} (hw : ∀ d ∈ tables_1, d.before a0 Z = true) : (Jvm.Cond.fieldLink "com/example/tariffwire/tariffwire/g2b/ServiceCodeIsReceiverFaultPinLaw" (16 : Nat) "com/example/tariffwire/tariffwire/g2b/ServiceCode" "W003" "Lcom/example/tariffwire/tariffwire/g2b/ServiceCode;").before a0 Z = true := hw _ (List.mem_of_getElem? (i := 22) rfl)
theorem d1_25 : decode method_2_code 25 = .ok (.areturn, 1) := by decide +kernel
theorem d1_26 : decode method_2_code 26 = .ok (.iload_n 0, 1) := by decide +kernel
theorem d1_27 : decode method_2_code 27 = .ok (.iconst 3, 1) := by decide +kernel
theorem d1_28 : decode method_2_code 28 = .ok (.if_icmp .ne 7, 3) := by decide +kernel
theorem d1_31 : decode method_2_code 31 = .ok (.getstatic 19, 3) := by decide +kernel
theorem wd15 {Z : State} {a0 : Array Value} (hw : ∀ d ∈ tables_1, d.before a0 Z = true) : (Jvm.Cond.fieldLink "com/example/tariffwire/tariffwire/g2b/ServiceCodeIsReceiverFaultPinLaw" (19 : Nat) "com/example/tariffwire/tariffwire/g2b/ServiceCode" "E001" "Lcom/example/tariffwire/tariffwire/g2b/ServiceCode;").before a0 Z = true := hw _ (List.mem_of_getElem? (i := 15) rfl)
theorem d1_34 : decode method_2_code 34 = .ok (.areturn, 1) := by decide +kernel
theorem d1_35 : decode method_2_code 35 = .ok (.iload_n 0, 1) := by decide +kernel
theorem d1_36 : decode method_2_code 36 = .ok (.iconst 4, 1) := by decide +kernel
theorem d1_37 : decode method_2_code 37 = .ok (.if_icmp .ne 7, 3) := by decide +kernel
theorem d1_40 : decode method_2_code 40 = .ok (.getstatic 22, 3) := by decide +kernel
theorem wd18 {Z : State} {a0 : Array Value} (hw : ∀ d ∈ tables_1, d.before a0 Z = true) : (Jvm.Cond.fieldLink "com/example/tariffwire/tariffwire/g2b/ServiceCodeIsReceiverFaultPinLaw" (22 : Nat) "com/example/tariffwire/tariffwire/g2b/ServiceCode" "E002" "Lcom/example/tariffwire/tariffwire/g2b/ServiceCode;").before a0 Z = true := hw _ (List.mem_of_getElem? (i := 18) rfl)
theorem d1_43 : decode method_2_code 43 = .ok (.areturn, 1) := by decide +kernel
theorem d1_44 : decode method_2_code 44 = .ok (.iload_n 0, 1) := by decide +kernel
theorem d1_45 : decode method_2_code 45 = .ok (.iconst 5, 1) := by decide +kernel
theorem d1_46 : decode method_2_code 46 = .ok (.if_icmp .ne 7, 3) := by decide +kernel
theorem d1_49 : decode method_2_code 49 = .ok (.getstatic 25, 3) := by decide +kernel
theorem wd28 {Z : State} {a0 : Array Value} (hw : ∀ d ∈ tables_1, d.before a0 Z = true) : (Jvm.Cond.fieldLink "com/example/tariffwire/tariffwire/g2b/ServiceCodeIsReceiverFaultPinLaw" (25 : Nat) "com/example/tariffwire/tariffwire/g2b/ServiceCode" "E003" "Lcom/example/tariffwire/tariffwire/g2b/ServiceCode;").before a0 Z = true := hw _ (List.mem_of_getElem? (i := 28) rfl)
theorem d1_52 : decode method_2_code 52 = .ok (.areturn, 1) := by decide +kernel
theorem d1_53 : decode method_2_code 53 = .ok (.iload_n 0, 1) := by decide +kernel
theorem d1_54 : decode method_2_code 54 = .ok (.bipush 6, 2) := by decide +kernel
theorem d1_56 : decode method_2_code 56 = .ok (.if_icmp .ne 7, 3) := by decide +kernel
theorem d1_59 : decode method_2_code 59 = .ok (.getstatic 28, 3) := by decide +kernel
theorem wd30 {Z : State} {a0 : Array Value} (hw : ∀ d ∈ tables_1, d.before a0 Z = true) : (Jvm.Cond.fieldLink "com/example/tariffwire/tariffwire/g2b/ServiceCodeIsReceiverFaultPinLaw" (28 : Nat) "com/example/tariffwire/tariffwire/g2b/ServiceCode" "E004" "Lcom/example/tariffwire/tariffwire/g2b/ServiceCode;").before a0 Z = true := hw _ (List.mem_of_getElem? (i := 30) rfl)
theorem d1_62 : decode method_2_code 62 = .ok (.areturn, 1) := by decide +kernel
theorem d1_63 : decode method_2_code 63 = .ok (.iload_n 0, 1) := by decide +kernel
theorem d1_64 : decode method_2_code 64 = .ok (.bipush 7, 2) := by decide +kernel
theorem d1_66 : decode method_2_code 66 = .ok (.if_icmp .ne 7, 3) := by decide +kernel
theorem d1_69 : decode method_2_code 69 = .ok (.getstatic 31, 3) := by decide +kernel
theorem wd20 {Z : State} {a0 : Array Value} (hw : ∀ d ∈ tables_1, d.before a0 Z = true) : (Jvm.Cond.fieldLink "com/example/tariffwire/tariffwire/g2b/ServiceCodeIsReceiverFaultPinLaw" (31 : Nat) "com/example/tariffwire/tariffwire/g2b/ServiceCode" "E005" "Lcom/example/tariffwire/tariffwire/g2b/ServiceCode;").before a0 Z = true := hw _ (List.mem_of_getElem? (i := 20) rfl)
theorem d1_72 : decode method_2_code 72 = .ok (.areturn, 1) := by decide +kernel
theorem d1_73 : decode method_2_code 73 = .ok (.iload_n 0, 1) := by decide +kernel
theorem d1_74 : decode method_2_code 74 = .ok (.bipush 8, 2) := by decide +kernel
theorem d1_76 : decode method_2_code 76 = .ok (.if_icmp .ne 7, 3) := by decide +kernel
theorem d1_79 : decode method_2_code 79 = .ok (.getstatic 34, 3) := by decide +kernel
theorem wd24 {Z : State} {a0 : Array Value} (hw : ∀ d ∈ tables_1, d.before a0 Z = true) : (Jvm.Cond.fieldLink "com/example/tariffwire/tariffwire/g2b/ServiceCodeIsReceiverFaultPinLaw" (34 : Nat) "com/example/tariffwire/tariffwire/g2b/ServiceCode" "E006" "Lcom/example/tariffwire/tariffwire/g2b/ServiceCode;").before a0 Z = true := hw _ (List.mem_of_getElem? (i := 24) rfl)
theorem d1_82 : decode method_2_code 82 = .ok (.areturn, 1) := by decide +kernel
theorem d1_83 : decode method_2_code 83 = .ok (.getstatic 37, 3) := by decide +kernel
theorem wd26 {Z : State} {a0 : Array Value} (hw : ∀ d ∈ tables_1, d.before a0 Z = true) : (Jvm.Cond.fieldLink "com/example/tariffwire/tariffwire/g2b/ServiceCodeIsReceiverFaultPinLaw" (37 : Nat) "com/example/tariffwire/tariffwire/g2b/ServiceCode" "E007" "Lcom/example/tariffwire/tariffwire/g2b/ServiceCode;").before a0 Z = true := hw _ (List.mem_of_getElem? (i := 26) rfl)
theorem d1_86 : decode method_2_code 86 = .ok (.areturn, 1) := by decide +kernel
theorem pn0 : plainName "com/example/tariffwire/tariffwire/g2b/ServiceCodeIsReceiverFaultPinLaw" = true := by first | (simp [plainName, overriddenIn]; done) | decide +kernel
def f1 (p1 : Int32) (w_W001 : Addr) (w_W002 : Addr) (w_W003 : Addr) (w_E001 : Addr) (w_E002 : Addr) (w_E003 : Addr) (w_E004 : Addr) (w_E005 : Addr) (w_E006 : Addr) (w_E007 : Addr) : Addr := (if p1 = (0 : Int32) then w_W001 else (if p1 = (1 : Int32) then w_W002 else (if p1 = (2 : Int32) then w_W003 else (if p1 = (3 : Int32) then w_E001 else (if p1 = (4 : Int32) then w_E002 else (if p1 = (5 : Int32) then w_E003 else (if p1 = (6 : Int32) then w_E004 else (if p1 = (7 : Int32) then w_E005 else (if p1 = (8 : Int32) then w_E006 else w_E007)))))))))
def Q1 (Z : State) (p1 : Int32) (w_W001 : Addr) (w_W002 : Addr) (w_W003 : Addr) (w_E001 : Addr) (w_E002 : Addr) (w_E003 : Addr) (w_E004 : Addr) (w_E005 : Addr) (w_E006 : Addr) (w_E007 : Addr) (h0 : Heap) (n0 : Nat) (v : Option Value) (h : Heap) (L : List Loc) : Prop := v = some (.ref (f1 p1 w_W001 w_W002 w_W003 w_E001 w_E002 w_E003 w_E004 w_E005 w_E006 w_E007)) ∧ Fr n0 L ∧ h = h0 ∧ Exa Z h (f1 p1 w_W001 w_W002 w_W003 w_E001 w_E002 w_E003 w_E004 w_E005 w_E006 w_E007) "com/example/tariffwire/tariffwire/g2b/ServiceCode"
theorem ef1 (m : MethodId) (x0 : Int32) : entryFrame m #[(.int x0)] 1 = mkF m 0 #[.val (.int x0)] [] := by first | (simp [entryFrame, mkF, argsToLocals, Value.category]; done) | rfl
set_option maxRecDepth 65536 in
set_option maxHeartbeats 16000000 in
theorem rm1 (l : Launch) (Z : State) (a0 : Array Value) (hw : ∀ d ∈ tables_1, d.before a0 Z = true) (ws : List Jvm.Cond) (p1 : Int32) (w_W001 : Addr) (w_W002 : Addr) (w_W003 : Addr) (w_E001 : Addr) (w_E002 : Addr) (w_E003 : Addr) (w_E004 : Addr) (w_E005 : Addr) (w_E006 : Addr) (w_E007 : Addr) (h0 : Heap) (n0 : Nat) (Z0 : n0 ≤ h0.size) (S_W001 : Sta Z h0 "com/example/tariffwire/tariffwire/g2b/ServiceCode" "W001" "Lcom/example/tariffwire/tariffwire/g2b/ServiceCode;" (.ref w_W001)) (E_w_W001 : Exa Z h0 w_W001 "com/example/tariffwire/tariffwire/g2b/ServiceCode") (S_W002 : Sta Z h0 "com/example/tariffwire/tariffwire/g2b/ServiceCode" "W002" "Lcom/example/tariffwire/tariffwire/g2b/ServiceCode;" (.ref w_W002)) (E_w_W002 : Exa Z h0 w_W002 "com/example/tariffwire/tariffwire/g2b/ServiceCode") (S_W003 : Sta Z h0 "com/example/tariffwire/tariffwire/g2b/ServiceCode" "W003" "Lcom/example/tariffwire/tariffwire/g2b/ServiceCode;" (.ref w_W003)) (E_w_W003 : Exa Z h0 w_W003 "com/example/tariffwire/tariffwire/g2b/ServiceCode") (S_E001 : Sta Z h0 "com/example/tariffwire/tariffwire/g2b/ServiceCode" "E001" "Lcom/example/tariffwire/tariffwire/g2b/ServiceCode;" (.ref w_E001)) (E_w_E001 : Exa Z h0 w_E001 "com/example/tariffwire/tariffwire/g2b/ServiceCode") (S_E002 : Sta Z h0 "com/example/tariffwire/tariffwire/g2b/ServiceCode" "E002" "Lcom/example/tariffwire/tariffwire/g2b/ServiceCode;" (.ref w_E002)) (E_w_E002 : Exa Z h0 w_E002 "com/example/tariffwire/tariffwire/g2b/ServiceCode") (S_E003 : Sta Z h0 "com/example/tariffwire/tariffwire/g2b/ServiceCode" "E003" "Lcom/example/tariffwire/tariffwire/g2b/ServiceCode;" (.ref w_E003)) (E_w_E003 : Exa Z h0 w_E003 "com/example/tariffwire/tariffwire/g2b/ServiceCode") (S_E004 : Sta Z h0 "com/example/tariffwire/tariffwire/g2b/ServiceCode" "E004" "Lcom/example/tariffwire/tariffwire/g2b/ServiceCode;" (.ref w_E004)) (E_w_E004 : Exa Z h0 w_E004 "com/example/tariffwire/tariffwire/g2b/ServiceCode") (S_E005 : Sta Z h0 "com/example/tariffwire/tariffwire/g2b/ServiceCode" "E005" "Lcom/example/tariffwire/tariffwire/g2b/ServiceCode;" (.ref w_E005)) (E_w_E005 : Exa Z h0 w_E005 "com/example/tariffwire/tariffwire/g2b/ServiceCode") (S_E006 : Sta Z h0 "com/example/tariffwire/tariffwire/g2b/ServiceCode" "E006" "Lcom/example/tariffwire/tariffwire/g2b/ServiceCode;" (.ref w_E006)) (E_w_E006 : Exa Z h0 w_E006 "com/example/tariffwire/tariffwire/g2b/ServiceCode") (S_E007 : Sta Z h0 "com/example/tariffwire/tariffwire/g2b/ServiceCode" "E007" "Lcom/example/tariffwire/tariffwire/g2b/ServiceCode;" (.ref w_E007)) (E_w_E007 : Exa Z h0 w_E007 "com/example/tariffwire/tariffwire/g2b/ServiceCode") :
    MetFree l (⟨"com/example/tariffwire/tariffwire/g2b/ServiceCodeIsReceiverFaultPinLaw", "pick", "(I)Lcom/example/tariffwire/tariffwire/g2b/ServiceCode;"⟩ : MethodName) (head1 (Jvm.Cond.code (⟨"com/example/tariffwire/tariffwire/g2b/ServiceCodeIsReceiverFaultPinLaw", "pick", "(I)Lcom/example/tariffwire/tariffwire/g2b/ServiceCode;"⟩ : MethodName) method_2_code 1 (some (.object "com/example/tariffwire/tariffwire/g2b/ServiceCode")) :: ws) ({ frames := 0, cells := 0, slots := 0, locals := 0 } : Room)) (fun a U => a = #[(.int p1)] ∧ Z.Warmed39 U.vm ∧ U.heap = h0) (fun _ _ _ _ _ => True) (fun _ U o U' => ∃ v L, o = .returned v ∧ Q1 Z p1 w_W001 w_W002 w_W003 w_E001 w_E002 w_E003 w_E004 w_E005 w_E006 w_E007 h0 n0 v U'.heap L ∧ FrameEnd U o U' L ({ frames := 0, cells := 0, slots := 0, locals := 0 } : Room).cells ({ frames := 0, cells := 0, slots := 0, locals := 0 } : Room).slots) := by
  refine MetFree.of_bodySF (plainFor_of_name pn0) hisR ?_
  intro p e s m args below meth c s₁ Bd hml0 hP hK
  obtain ⟨rfl, hZ, hh⟩ := hP
  have hx := Bd.exec
  have hby := Bd.bytes
  have hml : c.maxLocals = 1 := hml0
  have hown : s.vm.findClass "com/example/tariffwire/tariffwire/g2b/ServiceCodeIsReceiverFaultPinLaw" = some m.cls := findClass_of_methodNamed Bd.named
  have hnm := (name_of_methodNamed Bd.named Bd.method).1
  have X0 : Stand p l e ({ frames := 0, cells := 0, slots := 0, locals := 0 } : Room) s m #[(.int p1)] below meth c s₁ [] 0 0 := Stand.of_body Bd
  have e0 : s₁.heap = h0 := by rw [← hh, Bd.state]; rfl
  have N0 := Fr.nil n0
  have K0 : Keep h0 h0 [] := Keep.refl h0 _
  refine Go.st (P := fun o U' => ∃ v L, o = .returned v ∧ Q1 Z p1 w_W001 w_W002 w_W003 w_E001 w_E002 w_E003 w_E004 w_E005 w_E006 w_E007 h0 n0 v U'.heap L ∧ FrameEnd s o U' L ({ frames := 0, cells := 0, slots := 0, locals := 0 } : Room).cells ({ frames := 0, cells := 0, slots := 0, locals := 0 } : Room).slots) (fun t k => castTop (ef1 m p1) k) ?_
  show Go _ _ _ (s₁.setTop (mkF m 0 #[.val (.int p1)] [])) _
  refine Go.st (fun t k => XS.iloadN X0.here hx rfl (hb hby d1_0) rfl k) ?_
  by_cases hc1 : p1 = (0 : Int32)
  · refine Go.st (fun t k => XS.ifNo X0.here hx rfl (hb hby d1_1) rfl ((if0 _ _).trans (teq hc1).2) k) ?_
    show Go _ _ _ (s₁.setTop (mkF m 4 #[.val (.int p1)] [])) _
    obtain ⟨T2, X2, e2, st2⟩ := getS2 X0 hx hZ hown (host := "") (Or.inl (wd5 hw)) Via.refl e0 S_W001 (g := (mkF m 4 #[.val (.int p1)] [])) rfl (hb hby d1_4)
    refine Go.st st2 ?_
    show Go _ _ _ (T2.setTop (mkF m 7 #[.val (.int p1)] [(.ref w_W001)])) _
    obtain ⟨fs, hr, hrun, hended, hW, hsame⟩ := X2.leave (v := some (.ref w_W001)) (fun h => by rw [Bd.returns] at h; cases h)
    refine Go.fin (retOut X2 hx Bd.returns rfl (Or.inr (Or.inr (Or.inr (Or.inr ⟨rfl, rfl, rfl⟩)))) (hb hby d1_7) hr) hrun hended ⟨_, _, rfl, ?_, ⟨_, rfl⟩, hW, hsame.mono (by decide) (by decide)⟩
    show Q1 Z p1 w_W001 w_W002 w_W003 w_E001 w_E002 w_E003 w_E004 w_E005 w_E006 w_E007 h0 n0 _ T2.heap _
    rw [e2]
    exact ⟨(by unfold f1; simp only [if_pos hc1]), N0, rfl, (by unfold f1; simp only [if_pos hc1]; exact E_w_W001)⟩
  · refine Go.st (fun t k => XS.ifYes X0.here hx rfl (pc0 := 1) (pc' := 8) rfl (hb hby d1_1) rfl ((if0 _ _).trans (feq hc1).2) (by decide) (by decide) k) ?_
    show Go _ _ _ (s₁.setTop (mkF m 8 #[.val (.int p1)] [])) _
    refine Go.st (fun t k => XS.iloadN X0.here hx rfl (hb hby d1_8) rfl k) ?_
    refine Go.st (fun t k => XS.iconst X0.here hx rfl (hb hby d1_9) k) ?_
    by_cases hc3 : p1 = (1 : Int32)
    · refine Go.st (fun t k => XS.icmpNo X0.here hx rfl (hb hby d1_10) rfl (teq hc3).2 k) ?_
      show Go _ _ _ (s₁.setTop (mkF m 13 #[.val (.int p1)] [])) _
      obtain ⟨T4, X4, e4, st4⟩ := getS2 X0 hx hZ hown (host := "") (Or.inl (wd16 hw)) Via.refl e0 S_W002 (g := (mkF m 13 #[.val (.int p1)] [])) rfl (hb hby d1_13)
      refine Go.st st4 ?_
      show Go _ _ _ (T4.setTop (mkF m 16 #[.val (.int p1)] [(.ref w_W002)])) _
      obtain ⟨fs, hr, hrun, hended, hW, hsame⟩ := X4.leave (v := some (.ref w_W002)) (fun h => by rw [Bd.returns] at h; cases h)
      refine Go.fin (retOut X4 hx Bd.returns rfl (Or.inr (Or.inr (Or.inr (Or.inr ⟨rfl, rfl, rfl⟩)))) (hb hby d1_16) hr) hrun hended ⟨_, _, rfl, ?_, ⟨_, rfl⟩, hW, hsame.mono (by decide) (by decide)⟩
      show Q1 Z p1 w_W001 w_W002 w_W003 w_E001 w_E002 w_E003 w_E004 w_E005 w_E006 w_E007 h0 n0 _ T4.heap _
      rw [e4]
      exact ⟨(by unfold f1; simp only [if_neg hc1, if_pos hc3]), N0, rfl, (by unfold f1; simp only [if_neg hc1, if_pos hc3]; exact E_w_W002)⟩
    · refine Go.st (fun t k => XS.icmpYes X0.here hx rfl (pc0 := 10) (pc' := 17) rfl (hb hby d1_10) rfl (feq hc3).2 (by decide) (by decide) k) ?_
      show Go _ _ _ (s₁.setTop (mkF m 17 #[.val (.int p1)] [])) _
      refine Go.st (fun t k => XS.iloadN X0.here hx rfl (hb hby d1_17) rfl k) ?_
      refine Go.st (fun t k => XS.iconst X0.here hx rfl (hb hby d1_18) k) ?_
      by_cases hc5 : p1 = (2 : Int32)
      · refine Go.st (fun t k => XS.icmpNo X0.here hx rfl (hb hby d1_19) rfl (teq hc5).2 k) ?_
        show Go _ _ _ (s₁.setTop (mkF m 22 #[.val (.int p1)] [])) _
        obtain ⟨T6, X6, e6, st6⟩ := getS2 X0 hx hZ hown (host := "") (Or.inl (wd22 hw)) Via.refl e0 S_W003 (g := (mkF m 22 #[.val (.int p1)] [])) rfl (hb hby d1_22)
        refine Go.st st6 ?_
        show Go _ _ _ (T6.setTop (mkF m 25 #[.val (.int p1)] [(.ref w_W003)])) _
        obtain ⟨fs, hr, hrun, hended, hW, hsame⟩ := X6.leave (v := some (.ref w_W003)) (fun h => by rw [Bd.returns] at h; cases h)
        refine Go.fin (retOut X6 hx Bd.returns rfl (Or.inr (Or.inr (Or.inr (Or.inr ⟨rfl, rfl, rfl⟩)))) (hb hby d1_25) hr) hrun hended ⟨_, _, rfl, ?_, ⟨_, rfl⟩, hW, hsame.mono (by decide) (by decide)⟩
        show Q1 Z p1 w_W001 w_W002 w_W003 w_E001 w_E002 w_E003 w_E004 w_E005 w_E006 w_E007 h0 n0 _ T6.heap _
        rw [e6]
        exact ⟨(by unfold f1; simp only [if_neg hc1, if_neg hc3, if_pos hc5]), N0, rfl, (by unfold f1; simp only [if_neg hc1, if_neg hc3, if_pos hc5]; exact E_w_W003)⟩
      · refine Go.st (fun t k => XS.icmpYes X0.here hx rfl (pc0 := 19) (pc' := 26) rfl (hb hby d1_19) rfl (feq hc5).2 (by decide) (by decide) k) ?_
        show Go _ _ _ (s₁.setTop (mkF m 26 #[.val (.int p1)] [])) _
        refine Go.st (fun t k => XS.iloadN X0.here hx rfl (hb hby d1_26) rfl k) ?_
        refine Go.st (fun t k => XS.iconst X0.here hx rfl (hb hby d1_27) k) ?_
        by_cases hc7 : p1 = (3 : Int32)
        · refine Go.st (fun t k => XS.icmpNo X0.here hx rfl (hb hby d1_28) rfl (teq hc7).2 k) ?_
          show Go _ _ _ (s₁.setTop (mkF m 31 #[.val (.int p1)] [])) _
          obtain ⟨T8, X8, e8, st8⟩ := getS2 X0 hx hZ hown (host := "") (Or.inl (wd15 hw)) Via.refl e0 S_E001 (g := (mkF m 31 #[.val (.int p1)] [])) rfl (hb hby d1_31)
          refine Go.st st8 ?_
          show Go _ _ _ (T8.setTop (mkF m 34 #[.val (.int p1)] [(.ref w_E001)])) _
          obtain ⟨fs, hr, hrun, hended, hW, hsame⟩ := X8.leave (v := some (.ref w_E001)) (fun h => by rw [Bd.returns] at h; cases h)
          refine Go.fin (retOut X8 hx Bd.returns rfl (Or.inr (Or.inr (Or.inr (Or.inr ⟨rfl, rfl, rfl⟩)))) (hb hby d1_34) hr) hrun hended ⟨_, _, rfl, ?_, ⟨_, rfl⟩, hW, hsame.mono (by decide) (by decide)⟩
          show Q1 Z p1 w_W001 w_W002 w_W003 w_E001 w_E002 w_E003 w_E004 w_E005 w_E006 w_E007 h0 n0 _ T8.heap _
          rw [e8]
          exact ⟨(by unfold f1; simp only [if_neg hc1, if_neg hc3, if_neg hc5, if_pos hc7]), N0, rfl, (by unfold f1; simp only [if_neg hc1, if_neg hc3, if_neg hc5, if_pos hc7]; exact E_w_E001)⟩
        · refine Go.st (fun t k => XS.icmpYes X0.here hx rfl (pc0 := 28) (pc' := 35) rfl (hb hby d1_28) rfl (feq hc7).2 (by decide) (by decide) k) ?_
          show Go _ _ _ (s₁.setTop (mkF m 35 #[.val (.int p1)] [])) _
          refine Go.st (fun t k => XS.iloadN X0.here hx rfl (hb hby d1_35) rfl k) ?_
          refine Go.st (fun t k => XS.iconst X0.here hx rfl (hb hby d1_36) k) ?_
          by_cases hc9 : p1 = (4 : Int32)
          · refine Go.st (fun t k => XS.icmpNo X0.here hx rfl (hb hby d1_37) rfl (teq hc9).2 k) ?_
            show Go _ _ _ (s₁.setTop (mkF m 40 #[.val (.int p1)] [])) _
            obtain ⟨T10, X10, e10, st10⟩ := getS2 X0 hx hZ hown (host := "") (Or.inl (wd18 hw)) Via.refl e0 S_E002 (g := (mkF m 40 #[.val (.int p1)] [])) rfl (hb hby d1_40)
            refine Go.st st10 ?_
            show Go _ _ _ (T10.setTop (mkF m 43 #[.val (.int p1)] [(.ref w_E002)])) _
            obtain ⟨fs, hr, hrun, hended, hW, hsame⟩ := X10.leave (v := some (.ref w_E002)) (fun h => by rw [Bd.returns] at h; cases h)
            refine Go.fin (retOut X10 hx Bd.returns rfl (Or.inr (Or.inr (Or.inr (Or.inr ⟨rfl, rfl, rfl⟩)))) (hb hby d1_43) hr) hrun hended ⟨_, _, rfl, ?_, ⟨_, rfl⟩, hW, hsame.mono (by decide) (by decide)⟩
            show Q1 Z p1 w_W001 w_W002 w_W003 w_E001 w_E002 w_E003 w_E004 w_E005 w_E006 w_E007 h0 n0 _ T10.heap _
            rw [e10]
            exact ⟨(by unfold f1; simp only [if_neg hc1, if_neg hc3, if_neg hc5, if_neg hc7, if_pos hc9]), N0, rfl, (by unfold f1; simp only [if_neg hc1, if_neg hc3, if_neg hc5, if_neg hc7, if_pos hc9]; exact E_w_E002)⟩
          · refine Go.st (fun t k => XS.icmpYes X0.here hx rfl (pc0 := 37) (pc' := 44) rfl (hb hby d1_37) rfl (feq hc9).2 (by decide) (by decide) k) ?_
            show Go _ _ _ (s₁.setTop (mkF m 44 #[.val (.int p1)] [])) _
            refine Go.st (fun t k => XS.iloadN X0.here hx rfl (hb hby d1_44) rfl k) ?_
            refine Go.st (fun t k => XS.iconst X0.here hx rfl (hb hby d1_45) k) ?_
            by_cases hc11 : p1 = (5 : Int32)
            · refine Go.st (fun t k => XS.icmpNo X0.here hx rfl (hb hby d1_46) rfl (teq hc11).2 k) ?_
              show Go _ _ _ (s₁.setTop (mkF m 49 #[.val (.int p1)] [])) _
              obtain ⟨T12, X12, e12, st12⟩ := getS2 X0 hx hZ hown (host := "") (Or.inl (wd28 hw)) Via.refl e0 S_E003 (g := (mkF m 49 #[.val (.int p1)] [])) rfl (hb hby d1_49)
              refine Go.st st12 ?_
              show Go _ _ _ (T12.setTop (mkF m 52 #[.val (.int p1)] [(.ref w_E003)])) _
              obtain ⟨fs, hr, hrun, hended, hW, hsame⟩ := X12.leave (v := some (.ref w_E003)) (fun h => by rw [Bd.returns] at h; cases h)
              refine Go.fin (retOut X12 hx Bd.returns rfl (Or.inr (Or.inr (Or.inr (Or.inr ⟨rfl, rfl, rfl⟩)))) (hb hby d1_52) hr) hrun hended ⟨_, _, rfl, ?_, ⟨_, rfl⟩, hW, hsame.mono (by decide) (by decide)⟩
              show Q1 Z p1 w_W001 w_W002 w_W003 w_E001 w_E002 w_E003 w_E004 w_E005 w_E006 w_E007 h0 n0 _ T12.heap _
              rw [e12]
              exact ⟨(by unfold f1; simp only [if_neg hc1, if_neg hc3, if_neg hc5, if_neg hc7, if_neg hc9, if_pos hc11]), N0, rfl, (by unfold f1; simp only [if_neg hc1, if_neg hc3, if_neg hc5, if_neg hc7, if_neg hc9, if_pos hc11]; exact E_w_E003)⟩
            · refine Go.st (fun t k => XS.icmpYes X0.here hx rfl (pc0 := 46) (pc' := 53) rfl (hb hby d1_46) rfl (feq hc11).2 (by decide) (by decide) k) ?_
              show Go _ _ _ (s₁.setTop (mkF m 53 #[.val (.int p1)] [])) _
              refine Go.st (fun t k => XS.iloadN X0.here hx rfl (hb hby d1_53) rfl k) ?_
              refine Go.st (fun t k => XS.bipush X0.here hx rfl (hb hby d1_54) k) ?_
              by_cases hc13 : p1 = (6 : Int32)
              · refine Go.st (fun t k => XS.icmpNo X0.here hx rfl (hb hby d1_56) rfl (teq hc13).2 k) ?_
                show Go _ _ _ (s₁.setTop (mkF m 59 #[.val (.int p1)] [])) _
                obtain ⟨T14, X14, e14, st14⟩ := getS2 X0 hx hZ hown (host := "") (Or.inl (wd30 hw)) Via.refl e0 S_E004 (g := (mkF m 59 #[.val (.int p1)] [])) rfl (hb hby d1_59)
                refine Go.st st14 ?_
                show Go _ _ _ (T14.setTop (mkF m 62 #[.val (.int p1)] [(.ref w_E004)])) _
                obtain ⟨fs, hr, hrun, hended, hW, hsame⟩ := X14.leave (v := some (.ref w_E004)) (fun h => by rw [Bd.returns] at h; cases h)
                refine Go.fin (retOut X14 hx Bd.returns rfl (Or.inr (Or.inr (Or.inr (Or.inr ⟨rfl, rfl, rfl⟩)))) (hb hby d1_62) hr) hrun hended ⟨_, _, rfl, ?_, ⟨_, rfl⟩, hW, hsame.mono (by decide) (by decide)⟩
                show Q1 Z p1 w_W001 w_W002 w_W003 w_E001 w_E002 w_E003 w_E004 w_E005 w_E006 w_E007 h0 n0 _ T14.heap _
                rw [e14]
                exact ⟨(by unfold f1; simp only [if_neg hc1, if_neg hc3, if_neg hc5, if_neg hc7, if_neg hc9, if_neg hc11, if_pos hc13]), N0, rfl, (by unfold f1; simp only [if_neg hc1, if_neg hc3, if_neg hc5, if_neg hc7, if_neg hc9, if_neg hc11, if_pos hc13]; exact E_w_E004)⟩
              · refine Go.st (fun t k => XS.icmpYes X0.here hx rfl (pc0 := 56) (pc' := 63) rfl (hb hby d1_56) rfl (feq hc13).2 (by decide) (by decide) k) ?_
                show Go _ _ _ (s₁.setTop (mkF m 63 #[.val (.int p1)] [])) _
                refine Go.st (fun t k => XS.iloadN X0.here hx rfl (hb hby d1_63) rfl k) ?_
                refine Go.st (fun t k => XS.bipush X0.here hx rfl (hb hby d1_64) k) ?_
                by_cases hc15 : p1 = (7 : Int32)
                · refine Go.st (fun t k => XS.icmpNo X0.here hx rfl (hb hby d1_66) rfl (teq hc15).2 k) ?_
                  show Go _ _ _ (s₁.setTop (mkF m 69 #[.val (.int p1)] [])) _
                  obtain ⟨T16, X16, e16, st16⟩ := getS2 X0 hx hZ hown (host := "") (Or.inl (wd20 hw)) Via.refl e0 S_E005 (g := (mkF m 69 #[.val (.int p1)] [])) rfl (hb hby d1_69)
                  refine Go.st st16 ?_
                  show Go _ _ _ (T16.setTop (mkF m 72 #[.val (.int p1)] [(.ref w_E005)])) _
                  obtain ⟨fs, hr, hrun, hended, hW, hsame⟩ := X16.leave (v := some (.ref w_E005)) (fun h => by rw [Bd.returns] at h; cases h)
                  refine Go.fin (retOut X16 hx Bd.returns rfl (Or.inr (Or.inr (Or.inr (Or.inr ⟨rfl, rfl, rfl⟩)))) (hb hby d1_72) hr) hrun hended ⟨_, _, rfl, ?_, ⟨_, rfl⟩, hW, hsame.mono (by decide) (by decide)⟩
                  show Q1 Z p1 w_W001 w_W002 w_W003 w_E001 w_E002 w_E003 w_E004 w_E005 w_E006 w_E007 h0 n0 _ T16.heap _
                  rw [e16]
                  exact ⟨(by unfold f1; simp only [if_neg hc1, if_neg hc3, if_neg hc5, if_neg hc7, if_neg hc9, if_neg hc11, if_neg hc13, if_pos hc15]), N0, rfl, (by unfold f1; simp only [if_neg hc1, if_neg hc3, if_neg hc5, if_neg hc7, if_neg hc9, if_neg hc11, if_neg hc13, if_pos hc15]; exact E_w_E005)⟩
                · refine Go.st (fun t k => XS.icmpYes X0.here hx rfl (pc0 := 66) (pc' := 73) rfl (hb hby d1_66) rfl (feq hc15).2 (by decide) (by decide) k) ?_
                  show Go _ _ _ (s₁.setTop (mkF m 73 #[.val (.int p1)] [])) _
                  refine Go.st (fun t k => XS.iloadN X0.here hx rfl (hb hby d1_73) rfl k) ?_
                  refine Go.st (fun t k => XS.bipush X0.here hx rfl (hb hby d1_74) k) ?_
                  by_cases hc17 : p1 = (8 : Int32)
                  · refine Go.st (fun t k => XS.icmpNo X0.here hx rfl (hb hby d1_76) rfl (teq hc17).2 k) ?_
                    show Go _ _ _ (s₁.setTop (mkF m 79 #[.val (.int p1)] [])) _
                    obtain ⟨T18, X18, e18, st18⟩ := getS2 X0 hx hZ hown (host := "") (Or.inl (wd24 hw)) Via.refl e0 S_E006 (g := (mkF m 79 #[.val (.int p1)] [])) rfl (hb hby d1_79)
                    refine Go.st st18 ?_
                    show Go _ _ _ (T18.setTop (mkF m 82 #[.val (.int p1)] [(.ref w_E006)])) _
                    obtain ⟨fs, hr, hrun, hended, hW, hsame⟩ := X18.leave (v := some (.ref w_E006)) (fun h => by rw [Bd.returns] at h; cases h)
                    refine Go.fin (retOut X18 hx Bd.returns rfl (Or.inr (Or.inr (Or.inr (Or.inr ⟨rfl, rfl, rfl⟩)))) (hb hby d1_82) hr) hrun hended ⟨_, _, rfl, ?_, ⟨_, rfl⟩, hW, hsame.mono (by decide) (by decide)⟩
                    show Q1 Z p1 w_W001 w_W002 w_W003 w_E001 w_E002 w_E003 w_E004 w_E005 w_E006 w_E007 h0 n0 _ T18.heap _
                    rw [e18]
                    exact ⟨(by unfold f1; simp only [if_neg hc1, if_neg hc3, if_neg hc5, if_neg hc7, if_neg hc9, if_neg hc11, if_neg hc13, if_neg hc15, if_pos hc17]), N0, rfl, (by unfold f1; simp only [if_neg hc1, if_neg hc3, if_neg hc5, if_neg hc7, if_neg hc9, if_neg hc11, if_neg hc13, if_neg hc15, if_pos hc17]; exact E_w_E006)⟩
                  · refine Go.st (fun t k => XS.icmpYes X0.here hx rfl (pc0 := 76) (pc' := 83) rfl (hb hby d1_76) rfl (feq hc17).2 (by decide) (by decide) k) ?_
                    show Go _ _ _ (s₁.setTop (mkF m 83 #[.val (.int p1)] [])) _
                    obtain ⟨T19, X19, e19, st19⟩ := getS2 X0 hx hZ hown (host := "") (Or.inl (wd26 hw)) Via.refl e0 S_E007 (g := (mkF m 83 #[.val (.int p1)] [])) rfl (hb hby d1_83)
                    refine Go.st st19 ?_
                    show Go _ _ _ (T19.setTop (mkF m 86 #[.val (.int p1)] [(.ref w_E007)])) _
                    obtain ⟨fs, hr, hrun, hended, hW, hsame⟩ := X19.leave (v := some (.ref w_E007)) (fun h => by rw [Bd.returns] at h; cases h)
                    refine Go.fin (retOut X19 hx Bd.returns rfl (Or.inr (Or.inr (Or.inr (Or.inr ⟨rfl, rfl, rfl⟩)))) (hb hby d1_86) hr) hrun hended ⟨_, _, rfl, ?_, ⟨_, rfl⟩, hW, hsame.mono (by decide) (by decide)⟩
                    show Q1 Z p1 w_W001 w_W002 w_W003 w_E001 w_E002 w_E003 w_E004 w_E005 w_E006 w_E007 h0 n0 _ T19.heap _
                    rw [e19]
                    exact ⟨(by unfold f1; simp only [if_neg hc1, if_neg hc3, if_neg hc5, if_neg hc7, if_neg hc9, if_neg hc11, if_neg hc13, if_neg hc15, if_neg hc17]), N0, rfl, (by unfold f1; simp only [if_neg hc1, if_neg hc3, if_neg hc5, if_neg hc7, if_neg hc9, if_neg hc11, if_neg hc13, if_neg hc15, if_neg hc17]; exact E_w_E007)⟩
theorem d2_0 : decode prog_31_method_4_code 0 = .ok (.aload_n 0, 1) := by decide +kernel
theorem d2_1 : decode prog_31_method_4_code 1 = .ok (.getstatic 13, 3) := by decide +kernel
theorem wd13 {Z : State} {a0 : Array Value} (hw : ∀ d ∈ tables_1, d.before a0 Z = true) : (Jvm.Cond.fieldLink "com/example/tariffwire/tariffwire/g2b/ServiceCode" (13 : Nat) "com/example/tariffwire/tariffwire/g2b/ServiceCode" "E001" "Lcom/example/tariffwire/tariffwire/g2b/ServiceCode;").before a0 Z = true := hw _ (List.mem_of_getElem? (i := 13) rfl)
theorem d2_4 : decode prog_31_method_4_code 4 = .ok (.if_acmp .ne 7, 3) := by decide +kernel
theorem d2_7 : decode prog_31_method_4_code 7 = .ok (.iconst 1, 1) := by decide +kernel
theorem d2_8 : decode prog_31_method_4_code 8 = .ok (.goto 4, 3) := by decide +kernel
theorem d2_12 : decode prog_31_method_4_code 12 = .ok (.ireturn, 1) := by decide +kernel
theorem d2_11 : decode prog_31_method_4_code 11 = .ok (.iconst 0, 1) := by decide +kernel
theorem pn1 : plainName "com/example/tariffwire/tariffwire/g2b/ServiceCode" = true := by first | (simp [plainName, overriddenIn]; done) | decide +kernel
def f2 (a1 : Addr) (w_E001 : Addr) : Int32 := (if a1 = w_E001 then (1 : Int32) else (0 : Int32))
def Q2 (Z : State) (a1 : Addr) (w_E001 : Addr) (h0 : Heap) (n0 : Nat) (v : Option Value) (h : Heap) (L : List Loc) : Prop := v = some (.int (f2 a1 w_E001)) ∧ Fr n0 L ∧ h = h0
theorem ef2 (m : MethodId) (x0 : Addr) : entryFrame m #[(.ref x0)] 1 = mkF m 0 #[.val (.ref x0)] [] := by first | (simp [entryFrame, mkF, argsToLocals, Value.category]; done) | rfl
set_option maxRecDepth 65536 in
set_option maxHeartbeats 16000000 in
theorem rm2 (l : Launch) (Z : State) (a0 : Array Value) (hw : ∀ d ∈ tables_1, d.before a0 Z = true) (ws : List Jvm.Cond) (a1 : Addr) (w_E001 : Addr) (h0 : Heap) (n0 : Nat) (Z0 : n0 ≤ h0.size) (S_E001 : Sta Z h0 "com/example/tariffwire/tariffwire/g2b/ServiceCode" "E001" "Lcom/example/tariffwire/tariffwire/g2b/ServiceCode;" (.ref w_E001)) (E_w_E001 : Exa Z h0 w_E001 "com/example/tariffwire/tariffwire/g2b/ServiceCode") :
    MetFree l (⟨"com/example/tariffwire/tariffwire/g2b/ServiceCode", "isReceiverFault", "()Z"⟩ : MethodName) (head1 (Jvm.Cond.code (⟨"com/example/tariffwire/tariffwire/g2b/ServiceCode", "isReceiverFault", "()Z"⟩ : MethodName) prog_31_method_4_code 1 (some .boolean) :: ws) ({ frames := 0, cells := 0, slots := 0, locals := 0 } : Room)) (fun a U => a = #[(.ref a1)] ∧ Z.Warmed39 U.vm ∧ U.heap = h0) (fun _ _ _ _ _ => True) (fun _ U o U' => ∃ v L, o = .returned v ∧ Q2 Z a1 w_E001 h0 n0 v U'.heap L ∧ FrameEnd U o U' L ({ frames := 0, cells := 0, slots := 0, locals := 0 } : Room).cells ({ frames := 0, cells := 0, slots := 0, locals := 0 } : Room).slots) := by
  refine MetFree.of_bodySF (plainFor_of_name pn1) hisR ?_
  intro p e s m args below meth c s₁ Bd hml0 hP hK
  obtain ⟨rfl, hZ, hh⟩ := hP
  have hx := Bd.exec
  have hby := Bd.bytes
  have hml : c.maxLocals = 1 := hml0
  have hown : s.vm.findClass "com/example/tariffwire/tariffwire/g2b/ServiceCode" = some m.cls := findClass_of_methodNamed Bd.named
  have hnm := (name_of_methodNamed Bd.named Bd.method).1
  have X0 : Stand p l e ({ frames := 0, cells := 0, slots := 0, locals := 0 } : Room) s m #[(.ref a1)] below meth c s₁ [] 0 0 := Stand.of_body Bd
  have e0 : s₁.heap = h0 := by rw [← hh, Bd.state]; rfl
  have N0 := Fr.nil n0
  have K0 : Keep h0 h0 [] := Keep.refl h0 _
  refine Go.st (P := fun o U' => ∃ v L, o = .returned v ∧ Q2 Z a1 w_E001 h0 n0 v U'.heap L ∧ FrameEnd s o U' L ({ frames := 0, cells := 0, slots := 0, locals := 0 } : Room).cells ({ frames := 0, cells := 0, slots := 0, locals := 0 } : Room).slots) (fun t k => castTop (ef2 m a1) k) ?_
  show Go _ _ _ (s₁.setTop (mkF m 0 #[.val (.ref a1)] [])) _
  refine Go.st (fun t k => XS.aloadN X0.here hx rfl (hb hby d2_0) rfl rfl k) ?_
  obtain ⟨T1, X1, e1, st1⟩ := getS2 X0 hx hZ hown (host := "") (Or.inl (wd13 hw)) Via.refl e0 S_E001 (g := (mkF m 1 #[.val (.ref a1)] [(.ref a1)])) rfl (hb hby d2_1)
  refine Go.st st1 ?_
  show Go _ _ _ (T1.setTop (mkF m 4 #[.val (.ref a1)] [(.ref w_E001), (.ref a1)])) _
  by_cases hc2 : a1 = w_E001
  · refine Go.st (fun t k => Jvm.RoadKit.acmp (g := (mkF m 4 #[.val (.ref a1)] [(.ref w_E001), (.ref a1)])) X1 hx rfl rfl rfl (pc0 := 4) (pc' := 7) (same := true) rfl (hb hby d2_4) rfl (decide_eq_true (congrArg Value.ref hc2)) (by decide) (by decide) k) ?_
    show Go _ _ _ (T1.setTop (mkF m 7 #[.val (.ref a1)] [])) _
    refine Go.st (fun t k => XS.iconst X1.here hx rfl (hb hby d2_7) k) ?_
    refine Go.st (fun t k => XS.goto X1.here hx rfl (pc0 := 8) (pc' := 12) rfl (hb hby d2_8) (by decide) (by decide) k) ?_
    obtain ⟨fs, hr, hrun, hended, hW, hsame⟩ := X1.leave (v := some (.int (1 : Int32))) (fun h => by rw [Bd.returns] at h; cases h)
    refine Go.fin (retN X1 hx (t := .boolean) Bd.returns (by simp) (hb hby d2_12) hr) hrun hended ⟨_, _, rfl, ?_, ⟨_, rfl⟩, hW, hsame.mono (by decide) (by decide)⟩
    show Q2 Z a1 w_E001 h0 n0 _ T1.heap _
    rw [e1]
    exact ⟨(by unfold f2; simp only [if_pos hc2]), N0, rfl⟩
  · refine Go.st (fun t k => Jvm.RoadKit.acmp (g := (mkF m 4 #[.val (.ref a1)] [(.ref w_E001), (.ref a1)])) X1 hx rfl rfl rfl (pc0 := 4) (pc' := 11) (same := false) rfl (hb hby d2_4) rfl (decide_eq_false fun q => hc2 (Value.ref.inj q)) (by decide) (by decide) k) ?_
    show Go _ _ _ (T1.setTop (mkF m 11 #[.val (.ref a1)] [])) _
    refine Go.st (fun t k => XS.iconst X1.here hx rfl (hb hby d2_11) k) ?_
    obtain ⟨fs, hr, hrun, hended, hW, hsame⟩ := X1.leave (v := some (.int (0 : Int32))) (fun h => by rw [Bd.returns] at h; cases h)
    refine Go.fin (retN X1 hx (t := .boolean) Bd.returns (by simp) (hb hby d2_12) hr) hrun hended ⟨_, _, rfl, ?_, ⟨_, rfl⟩, hW, hsame.mono (by decide) (by decide)⟩
    show Q2 Z a1 w_E001 h0 n0 _ T1.heap _
    rw [e1]
    exact ⟨(by unfold f2; simp only [if_neg hc2]), N0, rfl⟩
theorem wd0 {Z : State} {a0 : Array Value} (hw : ∀ d ∈ tables_1, d.before a0 Z = true) : (Jvm.Cond.constant "com/example/tariffwire/tariffwire/g2b/ServiceCodeIsReceiverFaultPinLaw" (40 : Nat) (2147483647 : Int32)).before a0 Z = true := hw _ (List.mem_of_getElem? (i := 0) rfl)
theorem wd1 {Z : State} {a0 : Array Value} (hw : ∀ d ∈ tables_1, d.before a0 Z = true) : (Jvm.Cond.methodLink "com/example/tariffwire/tariffwire/g2b/ServiceCodeIsReceiverFaultPinLaw" (41 : Nat) ({ cls := "com/example/tariffwire/tariffwire/g2b/ServiceCodeIsReceiverFaultPinLaw", name := "pick", desc := "(I)Lcom/example/tariffwire/tariffwire/g2b/ServiceCode;" } : Jvm.MethodName)).before a0 Z = true := hw _ (List.mem_of_getElem? (i := 1) rfl)
theorem wd4 {Z : State} {a0 : Array Value} (hw : ∀ d ∈ tables_1, d.before a0 Z = true) : (Jvm.Cond.code ({ cls := "com/example/tariffwire/tariffwire/g2b/ServiceCodeIsReceiverFaultPinLaw", name := "pick", desc := "(I)Lcom/example/tariffwire/tariffwire/g2b/ServiceCode;" } : Jvm.MethodName) method_2_code (1 : Nat) (Option.some (Jvm.ClassFile.FieldType.object "com/example/tariffwire/tariffwire/g2b/ServiceCode"))).before a0 Z = true := hw _ (List.mem_of_getElem? (i := 4) rfl)
theorem wd3 {Z : State} {a0 : Array Value} (hw : ∀ d ∈ tables_1, d.before a0 Z = true) : (Jvm.Cond.initialized "com/example/tariffwire/tariffwire/g2b/ServiceCodeIsReceiverFaultPinLaw").before a0 Z = true := hw _ (List.mem_of_getElem? (i := 3) rfl)
theorem pd0 : parseMethodDescriptor "(I)Lcom/example/tariffwire/tariffwire/g2b/ServiceCode;" = some ⟨[.int], some (.object "com/example/tariffwire/tariffwire/g2b/ServiceCode")⟩ := by decide +kernel
theorem wd2 {Z : State} {a0 : Array Value} (hw : ∀ d ∈ tables_1, d.before a0 Z = true) : (Jvm.Cond.static ({ cls := "com/example/tariffwire/tariffwire/g2b/ServiceCodeIsReceiverFaultPinLaw", name := "pick", desc := "(I)Lcom/example/tariffwire/tariffwire/g2b/ServiceCode;" } : Jvm.MethodName)).before a0 Z = true := hw _ (List.mem_of_getElem? (i := 2) rfl)
theorem wd8 {Z : State} {a0 : Array Value} (hw : ∀ d ∈ tables_1, d.before a0 Z = true) : (Jvm.Cond.methodLink "com/example/tariffwire/tariffwire/g2b/ServiceCodeIsReceiverFaultPinLaw" (47 : Nat) ({ cls := "com/example/tariffwire/tariffwire/g2b/ServiceCode", name := "isReceiverFault", desc := "()Z" } : Jvm.MethodName)).before a0 Z = true := hw _ (List.mem_of_getElem? (i := 8) rfl)
theorem wd12 {Z : State} {a0 : Array Value} (hw : ∀ d ∈ tables_1, d.before a0 Z = true) : (Jvm.Cond.code ({ cls := "com/example/tariffwire/tariffwire/g2b/ServiceCode", name := "isReceiverFault", desc := "()Z" } : Jvm.MethodName) prog_31_method_4_code (1 : Nat) (Option.some Jvm.ClassFile.FieldType.boolean)).before a0 Z = true := hw _ (List.mem_of_getElem? (i := 12) rfl)
theorem wd6 {Z : State} {a0 : Array Value} (hw : ∀ d ∈ tables_1, d.before a0 Z = true) : (Jvm.Cond.initialized "com/example/tariffwire/tariffwire/g2b/ServiceCode").before a0 Z = true := hw _ (List.mem_of_getElem? (i := 6) rfl)
theorem pd1 : parseMethodDescriptor "()Z" = some ⟨[], some .boolean⟩ := by decide +kernel
theorem wd11 {Z : State} {a0 : Array Value} (hw : ∀ d ∈ tables_1, d.before a0 Z = true) : (Jvm.Cond.selects "com/example/tariffwire/tariffwire/g2b/ServiceCode" ({ cls := "com/example/tariffwire/tariffwire/g2b/ServiceCode", name := "isReceiverFault", desc := "()Z" } : Jvm.MethodName) ({ cls := "com/example/tariffwire/tariffwire/g2b/ServiceCode", name := "isReceiverFault", desc := "()Z" } : Jvm.MethodName)).before a0 Z = true := hw _ (List.mem_of_getElem? (i := 11) rfl)
theorem wd9 {Z : State} {a0 : Array Value} (hw : ∀ d ∈ tables_1, d.before a0 Z = true) : (Jvm.Cond.declares ({ cls := "com/example/tariffwire/tariffwire/g2b/ServiceCode", name := "isReceiverFault", desc := "()Z" } : Jvm.MethodName)).before a0 Z = true := hw _ (List.mem_of_getElem? (i := 9) rfl)
theorem wd10 {Z : State} {a0 : Array Value} (hw : ∀ d ∈ tables_1, d.before a0 Z = true) : (Jvm.Cond.instanceMethod ({ cls := "com/example/tariffwire/tariffwire/g2b/ServiceCode", name := "isReceiverFault", desc := "()Z" } : Jvm.MethodName)).before a0 Z = true := hw _ (List.mem_of_getElem? (i := 10) rfl)
def f0 (p1 : Int32) (w_W001 : Addr) (w_W002 : Addr) (w_W003 : Addr) (w_E001 : Addr) (w_E002 : Addr) (w_E003 : Addr) (w_E004 : Addr) (w_E005 : Addr) (w_E006 : Addr) (w_E007 : Addr) : Int32 := (if ((p1 &&& (2147483647 : Int32)) % (10 : Int32)) = (3 : Int32) then (if (f2 (f1 ((p1 &&& (2147483647 : Int32)) % (10 : Int32)) w_W001 w_W002 w_W003 w_E001 w_E002 w_E003 w_E004 w_E005 w_E006 w_E007) w_E001) = (1 : Int32) then (1 : Int32) else (0 : Int32)) else (if (f2 (f1 ((p1 &&& (2147483647 : Int32)) % (10 : Int32)) w_W001 w_W002 w_W003 w_E001 w_E002 w_E003 w_E004 w_E005 w_E006 w_E007) w_E001) = (0 : Int32) then (1 : Int32) else (0 : Int32)))
def Q0 (Z : State) (p1 : Int32) (w_W001 : Addr) (w_W002 : Addr) (w_W003 : Addr) (w_E001 : Addr) (w_E002 : Addr) (w_E003 : Addr) (w_E004 : Addr) (w_E005 : Addr) (w_E006 : Addr) (w_E007 : Addr) (h0 : Heap) (n0 : Nat) (v : Option Value) (h : Heap) (L : List Loc) : Prop := v = some (.int (f0 p1 w_W001 w_W002 w_W003 w_E001 w_E002 w_E003 w_E004 w_E005 w_E006 w_E007)) ∧ Fr n0 L
theorem ef0 (m : MethodId) (x0 : Int32) : entryFrame m #[(.int x0)] maxLocals = mkF m 0 #[.val (.int x0), .unset, .unset, .unset] [] := by first | (simp [entryFrame, mkF, argsToLocals, Value.category, maxLocals]; done) | rfl
set_option maxRecDepth 65536 in
set_option maxHeartbeats 16000000 in
theorem rm0 (l : Launch) (Z : State) (a0 : Array Value) (hw : ∀ d ∈ tables_1, d.before a0 Z = true) (ws : List Jvm.Cond) (p1 : Int32) (w_W001 : Addr) (w_W002 : Addr) (w_W003 : Addr) (w_E001 : Addr) (w_E002 : Addr) (w_E003 : Addr) (w_E004 : Addr) (w_E005 : Addr) (w_E006 : Addr) (w_E007 : Addr) (h0 : Heap) (n0 : Nat) (Z0 : n0 ≤ h0.size) (S_W001 : Sta Z h0 "com/example/tariffwire/tariffwire/g2b/ServiceCode" "W001" "Lcom/example/tariffwire/tariffwire/g2b/ServiceCode;" (.ref w_W001)) (E_w_W001 : Exa Z h0 w_W001 "com/example/tariffwire/tariffwire/g2b/ServiceCode") (S_W002 : Sta Z h0 "com/example/tariffwire/tariffwire/g2b/ServiceCode" "W002" "Lcom/example/tariffwire/tariffwire/g2b/ServiceCode;" (.ref w_W002)) (E_w_W002 : Exa Z h0 w_W002 "com/example/tariffwire/tariffwire/g2b/ServiceCode") (S_W003 : Sta Z h0 "com/example/tariffwire/tariffwire/g2b/ServiceCode" "W003" "Lcom/example/tariffwire/tariffwire/g2b/ServiceCode;" (.ref w_W003)) (E_w_W003 : Exa Z h0 w_W003 "com/example/tariffwire/tariffwire/g2b/ServiceCode") (S_E001 : Sta Z h0 "com/example/tariffwire/tariffwire/g2b/ServiceCode" "E001" "Lcom/example/tariffwire/tariffwire/g2b/ServiceCode;" (.ref w_E001)) (E_w_E001 : Exa Z h0 w_E001 "com/example/tariffwire/tariffwire/g2b/ServiceCode") (S_E002 : Sta Z h0 "com/example/tariffwire/tariffwire/g2b/ServiceCode" "E002" "Lcom/example/tariffwire/tariffwire/g2b/ServiceCode;" (.ref w_E002)) (E_w_E002 : Exa Z h0 w_E002 "com/example/tariffwire/tariffwire/g2b/ServiceCode") (S_E003 : Sta Z h0 "com/example/tariffwire/tariffwire/g2b/ServiceCode" "E003" "Lcom/example/tariffwire/tariffwire/g2b/ServiceCode;" (.ref w_E003)) (E_w_E003 : Exa Z h0 w_E003 "com/example/tariffwire/tariffwire/g2b/ServiceCode") (S_E004 : Sta Z h0 "com/example/tariffwire/tariffwire/g2b/ServiceCode" "E004" "Lcom/example/tariffwire/tariffwire/g2b/ServiceCode;" (.ref w_E004)) (E_w_E004 : Exa Z h0 w_E004 "com/example/tariffwire/tariffwire/g2b/ServiceCode") (S_E005 : Sta Z h0 "com/example/tariffwire/tariffwire/g2b/ServiceCode" "E005" "Lcom/example/tariffwire/tariffwire/g2b/ServiceCode;" (.ref w_E005)) (E_w_E005 : Exa Z h0 w_E005 "com/example/tariffwire/tariffwire/g2b/ServiceCode") (S_E006 : Sta Z h0 "com/example/tariffwire/tariffwire/g2b/ServiceCode" "E006" "Lcom/example/tariffwire/tariffwire/g2b/ServiceCode;" (.ref w_E006)) (E_w_E006 : Exa Z h0 w_E006 "com/example/tariffwire/tariffwire/g2b/ServiceCode") (S_E007 : Sta Z h0 "com/example/tariffwire/tariffwire/g2b/ServiceCode" "E007" "Lcom/example/tariffwire/tariffwire/g2b/ServiceCode;" (.ref w_E007)) (E_w_E007 : Exa Z h0 w_E007 "com/example/tariffwire/tariffwire/g2b/ServiceCode") :
    MetFree l x (head1 (Jvm.Cond.code x code maxLocals ret :: ws) room_1) (fun a U => a = #[(.int p1)] ∧ Z.Warmed39 U.vm ∧ U.heap = h0) (fun _ _ _ _ _ => True) (fun _ U o U' => ∃ v L, o = .returned v ∧ Q0 Z p1 w_W001 w_W002 w_W003 w_E001 w_E002 w_E003 w_E004 w_E005 w_E006 w_E007 h0 n0 v U'.heap L ∧ FrameEnd U o U' L 0 0) := by
  refine MetFree.of_bodySF (plainFor_of_name pn0) hisR ?_
  intro p e s m args below meth c s₁ Bd hml0 hP hK
  obtain ⟨rfl, hZ, hh⟩ := hP
  have hx := Bd.exec
  have hby := Bd.bytes
  have hml : c.maxLocals = 4 := hml0
  have hown : s.vm.findClass "com/example/tariffwire/tariffwire/g2b/ServiceCodeIsReceiverFaultPinLaw" = some m.cls := findClass_of_methodNamed Bd.named
  have hnm := (name_of_methodNamed Bd.named Bd.method).1
  have X0 : Stand p l e room_1 s m #[(.int p1)] below meth c s₁ [] 0 0 := Stand.of_body Bd
  have e0 : s₁.heap = h0 := by rw [← hh, Bd.state]; rfl
  have N0 := Fr.nil n0
  have K0 : Keep h0 h0 [] := Keep.refl h0 _
  refine Go.st (P := fun o U' => ∃ v L, o = .returned v ∧ Q0 Z p1 w_W001 w_W002 w_W003 w_E001 w_E002 w_E003 w_E004 w_E005 w_E006 w_E007 h0 n0 v U'.heap L ∧ FrameEnd s o U' L 0 0) (fun t k => castTop (ef0 m p1) k) ?_
  show Go _ _ _ (s₁.setTop (mkF m 0 #[.val (.int p1), .unset, .unset, .unset] [])) _
  refine Go.st (fun t k => XS.iloadN X0.here hx rfl (hb hby at_0) rfl k) ?_
  refine Go.st (fun t k => X0.ldcInt hx hown (mvT hZ (wd0 hw)) (g := (mkF m 1 #[.val (.int p1), .unset, .unset, .unset] [(.int p1)])) rfl (hb hby at_1) _ k) ?_
  show Go _ _ _ (s₁.setTop (mkF m 3 #[.val (.int p1), .unset, .unset, .unset] [(.int 2147483647), (.int p1)])) _
  refine Go.st (fun t k => XS.iand X0.here hx rfl (hb hby at_3) rfl k) ?_
  show Go _ _ _ (s₁.setTop (mkF m 4 #[.val (.int p1), .unset, .unset, .unset] [(.int (p1 &&& (2147483647 : Int32)))])) _
  refine Go.st (fun t k => XS.bipush X0.here hx rfl (hb hby at_4) k) ?_
  refine Go.st (fun t k => iremM X0 hx rfl (hb hby at_6) rfl (by decide) k) ?_
  show Go _ _ _ (s₁.setTop (mkF m 7 #[.val (.int p1), .unset, .unset, .unset] [(.int ((p1 &&& (2147483647 : Int32)) % (10 : Int32)))])) _
  refine Go.st (fun t k => XS.istoreN X0.here hx rfl (hb hby at_7) rfl (l' := #[.val (.int p1), .val (.int ((p1 &&& (2147483647 : Int32)) % (10 : Int32))), .unset, .unset]) rfl k) ?_
  refine Go.st (fun t k => XS.iloadN X0.here hx rfl (hb hby at_8) rfl k) ?_
  obtain ⟨_, _, ⟨T1, L1, k1, n1⟩, -, X1, ⟨Lc1, hQ1, l1, y1, z1⟩, st1⟩ := Jvm.LawKit.callS X0 hx (y := (⟨"com/example/tariffwire/tariffwire/g2b/ServiceCodeIsReceiverFaultPinLaw", "pick", "(I)Lcom/example/tariffwire/tariffwire/g2b/ServiceCode;"⟩ : MethodName)) hown (mvT hZ (wd1 hw)) (mvT hZ (wd2 hw)) (mvT hZ (wd3 hw)) (mvT hZ (wd4 hw)) (by decide) (backOf (W := 0) (rm1 l Z a0 hw [] ((p1 &&& (2147483647 : Int32)) % (10 : Int32)) w_W001 w_W002 w_W003 w_E001 w_E002 w_E003 w_E004 w_E005 w_E006 w_E007 h0 n0 Z0 S_W001 E_w_W001 S_W002 E_w_W002 S_W003 E_w_W003 S_E001 E_w_E001 S_E002 E_w_E002 S_E003 E_w_E003 S_E004 E_w_E004 S_E005 E_w_E005 S_E006 E_w_E006 S_E007 E_w_E007) hZ (wd4 hw) (wd3 hw) (by decide) (by decide)) (g := (mkF m 9 #[.val (.int p1), .val (.int ((p1 &&& (2147483647 : Int32)) % (10 : Int32))), .unset, .unset] [(.int ((p1 &&& (2147483647 : Int32)) % (10 : Int32)))])) rfl (by rw [hml]; rfl) (argsL := [(.int ((p1 &&& (2147483647 : Int32)) % (10 : Int32)))]) (rest := []) (lenOf pd0 rfl) rfl (by show 2 * 0 + _ ≤ _; exact Nat.le_of_eq rfl) (hb hby at_9) (fun _ _ => ⟨rfl, e0, (by decide : 0 + 0 ≤ _), (by decide : 0 + 0 ≤ _)⟩)
  dsimp only [Pt.U, Pt.locs, Pt.cells, Pt.slots] at X1 l1 y1 z1 st1 hQ1
  subst l1 y1 z1
  refine Go.st st1 ?_
  obtain ⟨rfl, N1q, e1, E1_r⟩ := hQ1
  have N1 := Fr.app N0 N1q
  rw [e1] at E1_r
  show Go _ _ _ (T1.setTop (mkF m 12 #[.val (.int p1), .val (.int ((p1 &&& (2147483647 : Int32)) % (10 : Int32))), .unset, .unset] [(.ref (f1 ((p1 &&& (2147483647 : Int32)) % (10 : Int32)) w_W001 w_W002 w_W003 w_E001 w_E002 w_E003 w_E004 w_E005 w_E006 w_E007))])) _
  refine Go.st (fun t k => XS.astoreN X1.here hx rfl (hb hby at_12) rfl rfl (l' := #[.val (.int p1), .val (.int ((p1 &&& (2147483647 : Int32)) % (10 : Int32))), .val (.ref (f1 ((p1 &&& (2147483647 : Int32)) % (10 : Int32)) w_W001 w_W002 w_W003 w_E001 w_E002 w_E003 w_E004 w_E005 w_E006 w_E007)), .unset]) rfl k) ?_
  refine Go.st (fun t k => XS.iloadN X1.here hx rfl (hb hby at_13) rfl k) ?_
  refine Go.st (fun t k => XS.iconst X1.here hx rfl (hb hby at_14) k) ?_
  by_cases hc2 : ((p1 &&& (2147483647 : Int32)) % (10 : Int32)) = (3 : Int32)
  · refine Go.st (fun t k => XS.icmpNo X1.here hx rfl (hb hby at_15) rfl (teq hc2).2 k) ?_
    show Go _ _ _ (T1.setTop (mkF m 18 #[.val (.int p1), .val (.int ((p1 &&& (2147483647 : Int32)) % (10 : Int32))), .val (.ref (f1 ((p1 &&& (2147483647 : Int32)) % (10 : Int32)) w_W001 w_W002 w_W003 w_E001 w_E002 w_E003 w_E004 w_E005 w_E006 w_E007)), .unset] [])) _
    refine Go.st (fun t k => XS.iconst X1.here hx rfl (hb hby at_18) k) ?_
    refine Go.st (fun t k => XS.goto X1.here hx rfl (pc0 := 19) (pc' := 23) rfl (hb hby at_19) (by decide) (by decide) k) ?_
    refine Go.st (fun t k => XS.istoreN X1.here hx rfl (hb hby at_23) rfl (l' := #[.val (.int p1), .val (.int ((p1 &&& (2147483647 : Int32)) % (10 : Int32))), .val (.ref (f1 ((p1 &&& (2147483647 : Int32)) % (10 : Int32)) w_W001 w_W002 w_W003 w_E001 w_E002 w_E003 w_E004 w_E005 w_E006 w_E007)), .val (.int 1)]) rfl k) ?_
    refine Go.st (fun t k => XS.aloadN X1.here hx rfl (hb hby at_24) rfl rfl k) ?_
    obtain ⟨cq3, kq3, q3a, q3b, q3c⟩ := isOf hZ e1 E1_r
    obtain ⟨_, _, ⟨T3, L3, k3, n3⟩, -, X3, ⟨Lc3, hQ3, l3, y3, z3⟩, st3⟩ := X1.virtualBack hx (y := (⟨"com/example/tariffwire/tariffwire/g2b/ServiceCode", "isReceiverFault", "()Z"⟩ : MethodName)) (z := (⟨"com/example/tariffwire/tariffwire/g2b/ServiceCode", "isReceiverFault", "()Z"⟩ : MethodName)) hown (mvT hZ (wd8 hw)) (mvT hZ (wd9 hw)) (notFace_of_selects (args := #[]) (mvT hZ (wd11 hw))) (mvT hZ (wd11 hw)) (mvT hZ (wd10 hw)) (by decide) (backOf (W := 0) (rm2 l Z a0 hw [] (f1 ((p1 &&& (2147483647 : Int32)) % (10 : Int32)) w_W001 w_W002 w_W003 w_E001 w_E002 w_E003 w_E004 w_E005 w_E006 w_E007) w_E001 h0 n0 Z0 S_E001 E_w_E001) hZ (wd12 hw) (wd6 hw) (by decide) (by decide)) q3a q3c (g := (mkF m 25 #[.val (.int p1), .val (.int ((p1 &&& (2147483647 : Int32)) % (10 : Int32))), .val (.ref (f1 ((p1 &&& (2147483647 : Int32)) % (10 : Int32)) w_W001 w_W002 w_W003 w_E001 w_E002 w_E003 w_E004 w_E005 w_E006 w_E007)), .val (.int 1)] [(.ref (f1 ((p1 &&& (2147483647 : Int32)) % (10 : Int32)) w_W001 w_W002 w_W003 w_E001 w_E002 w_E003 w_E004 w_E005 w_E006 w_E007))])) rfl (by rw [hml]; rfl) (Steps.refl _) (argsL := []) (rest := []) (lenOf pd1 rfl) rfl (by show 2 * 0 + _ ≤ _; exact Nat.le_of_eq rfl) (hb hby at_25) (fun _ _ => ⟨rfl, e1, (by decide : 0 + 0 ≤ _), (by decide : 0 + 0 ≤ _)⟩)
    dsimp only [Pt.U, Pt.locs, Pt.cells, Pt.slots] at X3 l3 y3 z3 st3 hQ3
    subst l3 y3 z3
    refine Go.tr st3 ?_
    obtain ⟨rfl, N3q, e3⟩ := hQ3
    have N3 := Fr.app N1 N3q
    show Go _ _ _ (T3.setTop (mkF m 28 #[.val (.int p1), .val (.int ((p1 &&& (2147483647 : Int32)) % (10 : Int32))), .val (.ref (f1 ((p1 &&& (2147483647 : Int32)) % (10 : Int32)) w_W001 w_W002 w_W003 w_E001 w_E002 w_E003 w_E004 w_E005 w_E006 w_E007)), .val (.int 1)] [(.int (f2 (f1 ((p1 &&& (2147483647 : Int32)) % (10 : Int32)) w_W001 w_W002 w_W003 w_E001 w_E002 w_E003 w_E004 w_E005 w_E006 w_E007) w_E001))])) _
    refine Go.st (fun t k => XS.iloadN X3.here hx rfl (hb hby at_28) rfl k) ?_
    by_cases hc4 : (f2 (f1 ((p1 &&& (2147483647 : Int32)) % (10 : Int32)) w_W001 w_W002 w_W003 w_E001 w_E002 w_E003 w_E004 w_E005 w_E006 w_E007) w_E001) = (1 : Int32)
    · refine Go.st (fun t k => XS.icmpNo X3.here hx rfl (hb hby at_29) rfl (teq hc4).2 k) ?_
      show Go _ _ _ (T3.setTop (mkF m 32 #[.val (.int p1), .val (.int ((p1 &&& (2147483647 : Int32)) % (10 : Int32))), .val (.ref (f1 ((p1 &&& (2147483647 : Int32)) % (10 : Int32)) w_W001 w_W002 w_W003 w_E001 w_E002 w_E003 w_E004 w_E005 w_E006 w_E007)), .val (.int 1)] [])) _
      refine Go.st (fun t k => XS.iconst X3.here hx rfl (hb hby at_32) k) ?_
      refine Go.st (fun t k => XS.goto X3.here hx rfl (pc0 := 33) (pc' := 37) rfl (hb hby at_33) (by decide) (by decide) k) ?_
      obtain ⟨fs, hr, hrun, hended, hW, hsame⟩ := X3.leave (v := some (.int (1 : Int32))) (fun h => by rw [Bd.returns] at h; cases h)
      refine Go.fin (retN X3 hx (t := .boolean) Bd.returns (by simp) (hb hby at_37) hr) hrun hended ⟨_, _, rfl, ?_, ⟨_, rfl⟩, hW, hsame.mono (by decide) (by decide)⟩
      show Q0 Z p1 w_W001 w_W002 w_W003 w_E001 w_E002 w_E003 w_E004 w_E005 w_E006 w_E007 h0 n0 _ T3.heap _
      rw [e3]
      exact ⟨(by unfold f0; simp only [if_pos hc2, if_pos hc4]), N3⟩
    · refine Go.st (fun t k => XS.icmpYes X3.here hx rfl (pc0 := 29) (pc' := 36) rfl (hb hby at_29) rfl (feq hc4).2 (by decide) (by decide) k) ?_
      show Go _ _ _ (T3.setTop (mkF m 36 #[.val (.int p1), .val (.int ((p1 &&& (2147483647 : Int32)) % (10 : Int32))), .val (.ref (f1 ((p1 &&& (2147483647 : Int32)) % (10 : Int32)) w_W001 w_W002 w_W003 w_E001 w_E002 w_E003 w_E004 w_E005 w_E006 w_E007)), .val (.int 1)] [])) _
      refine Go.st (fun t k => XS.iconst X3.here hx rfl (hb hby at_36) k) ?_
      obtain ⟨fs, hr, hrun, hended, hW, hsame⟩ := X3.leave (v := some (.int (0 : Int32))) (fun h => by rw [Bd.returns] at h; cases h)
      refine Go.fin (retN X3 hx (t := .boolean) Bd.returns (by simp) (hb hby at_37) hr) hrun hended ⟨_, _, rfl, ?_, ⟨_, rfl⟩, hW, hsame.mono (by decide) (by decide)⟩
      show Q0 Z p1 w_W001 w_W002 w_W003 w_E001 w_E002 w_E003 w_E004 w_E005 w_E006 w_E007 h0 n0 _ T3.heap _
      rw [e3]
      exact ⟨(by unfold f0; simp only [if_pos hc2, if_neg hc4]), N3⟩
  · refine Go.st (fun t k => XS.icmpYes X1.here hx rfl (pc0 := 15) (pc' := 22) rfl (hb hby at_15) rfl (feq hc2).2 (by decide) (by decide) k) ?_
    show Go _ _ _ (T1.setTop (mkF m 22 #[.val (.int p1), .val (.int ((p1 &&& (2147483647 : Int32)) % (10 : Int32))), .val (.ref (f1 ((p1 &&& (2147483647 : Int32)) % (10 : Int32)) w_W001 w_W002 w_W003 w_E001 w_E002 w_E003 w_E004 w_E005 w_E006 w_E007)), .unset] [])) _
    refine Go.st (fun t k => XS.iconst X1.here hx rfl (hb hby at_22) k) ?_
    refine Go.st (fun t k => XS.istoreN X1.here hx rfl (hb hby at_23) rfl (l' := #[.val (.int p1), .val (.int ((p1 &&& (2147483647 : Int32)) % (10 : Int32))), .val (.ref (f1 ((p1 &&& (2147483647 : Int32)) % (10 : Int32)) w_W001 w_W002 w_W003 w_E001 w_E002 w_E003 w_E004 w_E005 w_E006 w_E007)), .val (.int 0)]) rfl k) ?_
    refine Go.st (fun t k => XS.aloadN X1.here hx rfl (hb hby at_24) rfl rfl k) ?_
    obtain ⟨cq5, kq5, q5a, q5b, q5c⟩ := isOf hZ e1 E1_r
    obtain ⟨_, _, ⟨T5, L5, k5, n5⟩, -, X5, ⟨Lc5, hQ5, l5, y5, z5⟩, st5⟩ := X1.virtualBack hx (y := (⟨"com/example/tariffwire/tariffwire/g2b/ServiceCode", "isReceiverFault", "()Z"⟩ : MethodName)) (z := (⟨"com/example/tariffwire/tariffwire/g2b/ServiceCode", "isReceiverFault", "()Z"⟩ : MethodName)) hown (mvT hZ (wd8 hw)) (mvT hZ (wd9 hw)) (notFace_of_selects (args := #[]) (mvT hZ (wd11 hw))) (mvT hZ (wd11 hw)) (mvT hZ (wd10 hw)) (by decide) (backOf (W := 0) (rm2 l Z a0 hw [] (f1 ((p1 &&& (2147483647 : Int32)) % (10 : Int32)) w_W001 w_W002 w_W003 w_E001 w_E002 w_E003 w_E004 w_E005 w_E006 w_E007) w_E001 h0 n0 Z0 S_E001 E_w_E001) hZ (wd12 hw) (wd6 hw) (by decide) (by decide)) q5a q5c (g := (mkF m 25 #[.val (.int p1), .val (.int ((p1 &&& (2147483647 : Int32)) % (10 : Int32))), .val (.ref (f1 ((p1 &&& (2147483647 : Int32)) % (10 : Int32)) w_W001 w_W002 w_W003 w_E001 w_E002 w_E003 w_E004 w_E005 w_E006 w_E007)), .val (.int 0)] [(.ref (f1 ((p1 &&& (2147483647 : Int32)) % (10 : Int32)) w_W001 w_W002 w_W003 w_E001 w_E002 w_E003 w_E004 w_E005 w_E006 w_E007))])) rfl (by rw [hml]; rfl) (Steps.refl _) (argsL := []) (rest := []) (lenOf pd1 rfl) rfl (by show 2 * 0 + _ ≤ _; exact Nat.le_of_eq rfl) (hb hby at_25) (fun _ _ => ⟨rfl, e1, (by decide : 0 + 0 ≤ _), (by decide : 0 + 0 ≤ _)⟩)
    dsimp only [Pt.U, Pt.locs, Pt.cells, Pt.slots] at X5 l5 y5 z5 st5 hQ5
    subst l5 y5 z5
    refine Go.tr st5 ?_
    obtain ⟨rfl, N5q, e5⟩ := hQ5
    have N5 := Fr.app N1 N5q
    show Go _ _ _ (T5.setTop (mkF m 28 #[.val (.int p1), .val (.int ((p1 &&& (2147483647 : Int32)) % (10 : Int32))), .val (.ref (f1 ((p1 &&& (2147483647 : Int32)) % (10 : Int32)) w_W001 w_W002 w_W003 w_E001 w_E002 w_E003 w_E004 w_E005 w_E006 w_E007)), .val (.int 0)] [(.int (f2 (f1 ((p1 &&& (2147483647 : Int32)) % (10 : Int32)) w_W001 w_W002 w_W003 w_E001 w_E002 w_E003 w_E004 w_E005 w_E006 w_E007) w_E001))])) _
    refine Go.st (fun t k => XS.iloadN X5.here hx rfl (hb hby at_28) rfl k) ?_
    by_cases hc6 : (f2 (f1 ((p1 &&& (2147483647 : Int32)) % (10 : Int32)) w_W001 w_W002 w_W003 w_E001 w_E002 w_E003 w_E004 w_E005 w_E006 w_E007) w_E001) = (0 : Int32)
    · refine Go.st (fun t k => XS.icmpNo X5.here hx rfl (hb hby at_29) rfl (teq hc6).2 k) ?_
      show Go _ _ _ (T5.setTop (mkF m 32 #[.val (.int p1), .val (.int ((p1 &&& (2147483647 : Int32)) % (10 : Int32))), .val (.ref (f1 ((p1 &&& (2147483647 : Int32)) % (10 : Int32)) w_W001 w_W002 w_W003 w_E001 w_E002 w_E003 w_E004 w_E005 w_E006 w_E007)), .val (.int 0)] [])) _
      refine Go.st (fun t k => XS.iconst X5.here hx rfl (hb hby at_32) k) ?_
      refine Go.st (fun t k => XS.goto X5.here hx rfl (pc0 := 33) (pc' := 37) rfl (hb hby at_33) (by decide) (by decide) k) ?_
      obtain ⟨fs, hr, hrun, hended, hW, hsame⟩ := X5.leave (v := some (.int (1 : Int32))) (fun h => by rw [Bd.returns] at h; cases h)
      refine Go.fin (retN X5 hx (t := .boolean) Bd.returns (by simp) (hb hby at_37) hr) hrun hended ⟨_, _, rfl, ?_, ⟨_, rfl⟩, hW, hsame.mono (by decide) (by decide)⟩
      show Q0 Z p1 w_W001 w_W002 w_W003 w_E001 w_E002 w_E003 w_E004 w_E005 w_E006 w_E007 h0 n0 _ T5.heap _
      rw [e5]
      exact ⟨(by unfold f0; simp only [if_neg hc2, if_pos hc6]), N5⟩
    · refine Go.st (fun t k => XS.icmpYes X5.here hx rfl (pc0 := 29) (pc' := 36) rfl (hb hby at_29) rfl (feq hc6).2 (by decide) (by decide) k) ?_
      show Go _ _ _ (T5.setTop (mkF m 36 #[.val (.int p1), .val (.int ((p1 &&& (2147483647 : Int32)) % (10 : Int32))), .val (.ref (f1 ((p1 &&& (2147483647 : Int32)) % (10 : Int32)) w_W001 w_W002 w_W003 w_E001 w_E002 w_E003 w_E004 w_E005 w_E006 w_E007)), .val (.int 0)] [])) _
      refine Go.st (fun t k => XS.iconst X5.here hx rfl (hb hby at_36) k) ?_
      obtain ⟨fs, hr, hrun, hended, hW, hsame⟩ := X5.leave (v := some (.int (0 : Int32))) (fun h => by rw [Bd.returns] at h; cases h)
      refine Go.fin (retN X5 hx (t := .boolean) Bd.returns (by simp) (hb hby at_37) hr) hrun hended ⟨_, _, rfl, ?_, ⟨_, rfl⟩, hW, hsame.mono (by decide) (by decide)⟩
      show Q0 Z p1 w_W001 w_W002 w_W003 w_E001 w_E002 w_E003 w_E004 w_E005 w_E006 w_E007 h0 n0 _ T5.heap _
      rw [e5]
      exact ⟨(by unfold f0; simp only [if_neg hc2, if_neg hc6]), N5⟩
theorem own_plain (p1 : Int32) (a0 a1 a2 a3 a4 a5 a6 a7 a8 a9 : Addr) (n0 : a0 ≠ a3) (n1 : a1 ≠ a3) (n2 : a2 ≠ a3) (n4 : a4 ≠ a3) (n5 : a5 ≠ a3) (n6 : a6 ≠ a3) (n7 : a7 ≠ a3) (n8 : a8 ≠ a3) (n9 : a9 ≠ a3) : f0 p1 a0 a1 a2 a3 a4 a5 a6 a7 a8 a9 = 1 := by
  unfold f0
  generalize ((p1 &&& (2147483647 : Int32)) % (10 : Int32)) = i
  by_cases h3 : i = 3
  · subst h3
    have e : f1 3 a0 a1 a2 a3 a4 a5 a6 a7 a8 a9 = a3 := rfl
    simp [e, f2]
  · have e : f1 i a0 a1 a2 a3 a4 a5 a6 a7 a8 a9 ≠ a3 := by
      unfold f1
      rw [if_neg h3]
      repeat' split
      all_goals assumption
    rw [if_neg h3, if_pos]
    unfold f2
    rw [if_neg e]

theorem wd7 {Z : State} {a0 : Array Value} (hw : ∀ d ∈ tables_1, d.before a0 Z = true) : (Jvm.Cond.laysStatic "com/example/tariffwire/tariffwire/g2b/ServiceCode" "W001" "Lcom/example/tariffwire/tariffwire/g2b/ServiceCode;").before a0 Z = true := hw _ (List.mem_of_getElem? (i := 7) rfl)
theorem wd14 {Z : State} {a0 : Array Value} (hw : ∀ d ∈ tables_1, d.before a0 Z = true) : (Jvm.Cond.laysStatic "com/example/tariffwire/tariffwire/g2b/ServiceCode" "E001" "Lcom/example/tariffwire/tariffwire/g2b/ServiceCode;").before a0 Z = true := hw _ (List.mem_of_getElem? (i := 14) rfl)
theorem wd17 {Z : State} {a0 : Array Value} (hw : ∀ d ∈ tables_1, d.before a0 Z = true) : (Jvm.Cond.laysStatic "com/example/tariffwire/tariffwire/g2b/ServiceCode" "W002" "Lcom/example/tariffwire/tariffwire/g2b/ServiceCode;").before a0 Z = true := hw _ (List.mem_of_getElem? (i := 17) rfl)
theorem wd19 {Z : State} {a0 : Array Value} (hw : ∀ d ∈ tables_1, d.before a0 Z = true) : (Jvm.Cond.laysStatic "com/example/tariffwire/tariffwire/g2b/ServiceCode" "E002" "Lcom/example/tariffwire/tariffwire/g2b/ServiceCode;").before a0 Z = true := hw _ (List.mem_of_getElem? (i := 19) rfl)
theorem wd21 {Z : State} {a0 : Array Value} (hw : ∀ d ∈ tables_1, d.before a0 Z = true) : (Jvm.Cond.laysStatic "com/example/tariffwire/tariffwire/g2b/ServiceCode" "E005" "Lcom/example/tariffwire/tariffwire/g2b/ServiceCode;").before a0 Z = true := hw _ (List.mem_of_getElem? (i := 21) rfl)
theorem wd23 {Z : State} {a0 : Array Value} (hw : ∀ d ∈ tables_1, d.before a0 Z = true) : (Jvm.Cond.laysStatic "com/example/tariffwire/tariffwire/g2b/ServiceCode" "W003" "Lcom/example/tariffwire/tariffwire/g2b/ServiceCode;").before a0 Z = true := hw _ (List.mem_of_getElem? (i := 23) rfl)
theorem wd25 {Z : State} {a0 : Array Value} (hw : ∀ d ∈ tables_1, d.before a0 Z = true) : (Jvm.Cond.laysStatic "com/example/tariffwire/tariffwire/g2b/ServiceCode" "E006" "Lcom/example/tariffwire/tariffwire/g2b/ServiceCode;").before a0 Z = true := hw _ (List.mem_of_getElem? (i := 25) rfl)
theorem wd27 {Z : State} {a0 : Array Value} (hw : ∀ d ∈ tables_1, d.before a0 Z = true) : (Jvm.Cond.laysStatic "com/example/tariffwire/tariffwire/g2b/ServiceCode" "E007" "Lcom/example/tariffwire/tariffwire/g2b/ServiceCode;").before a0 Z = true := hw _ (List.mem_of_getElem? (i := 27) rfl)
theorem wd29 {Z : State} {a0 : Array Value} (hw : ∀ d ∈ tables_1, d.before a0 Z = true) : (Jvm.Cond.laysStatic "com/example/tariffwire/tariffwire/g2b/ServiceCode" "E003" "Lcom/example/tariffwire/tariffwire/g2b/ServiceCode;").before a0 Z = true := hw _ (List.mem_of_getElem? (i := 29) rfl)
theorem wd31 {Z : State} {a0 : Array Value} (hw : ∀ d ∈ tables_1, d.before a0 Z = true) : (Jvm.Cond.laysStatic "com/example/tariffwire/tariffwire/g2b/ServiceCode" "E004" "Lcom/example/tariffwire/tariffwire/g2b/ServiceCode;").before a0 Z = true := hw _ (List.mem_of_getElem? (i := 31) rfl)
set_option maxRecDepth 65536 in
set_option maxHeartbeats 16000000 in
theorem comes_1 {Post : Tables → Env → Array Value → State → Outcome → State → Prop} (hpost : ∀ tb e args s v u, (limb_1_1.after args s (.returned v) u = true ∧ limb_1_2.after args s (.returned v) u = true ∧ True) → FrameEnd s (.returned v) u (Jvm.fieldLocs frame_1_writes args s ++ Jvm.arrayLocs frame_1_arrays args s ++ Jvm.staticLocs frame_1_statics s) 0 0 → Post tb e args s (.returned v) u) :
    ArmFor flags0 classFile x code maxLocals ret World_1 tables_1 room_1 Calls_1 rest_1 Pre_1 Post := by
  intro l hfl _ _ p e ha hc hk s m args below hf hA hF happ hP
  obtain ⟨hcalls, hrest, hpre⟩ := hP
  obtain ⟨-, -, -, hnamed, -, -, -, hat⟩ := (Spec.applies_iff hf).mp happ
  obtain ⟨hg, hn⟩ := and_e (Cond.before_iff.mp (show (Jvm.Cond.and given_1 narrow_1).before args s = true from hpre))
  obtain ⟨g1, g2⟩ := and_e hg
  obtain ⟨g3, g4⟩ := and_e hn
  obtain ⟨g5, g6⟩ := and_e g4
  obtain ⟨g7, g8⟩ := and_e g6
  obtain ⟨g9, g10⟩ := and_e g8
  obtain ⟨g11, g12⟩ := and_e g10
  obtain ⟨g13, g14⟩ := and_e g12
  obtain ⟨g15, g16⟩ := and_e g14
  obtain ⟨g17, g18⟩ := and_e g16
  obtain ⟨g19, g20⟩ := and_e g18
  obtain ⟨g21, g22⟩ := and_e g20
  obtain ⟨g23, g24⟩ := and_e g22
  obtain ⟨g25, g26⟩ := and_e g24
  obtain ⟨g27, g28⟩ := and_e g26
  obtain ⟨g29, g30⟩ := and_e g28
  obtain ⟨g31, g32⟩ := and_e g30
  obtain ⟨g33, g34⟩ := and_e g32
  obtain ⟨g35, g36⟩ := and_e g34
  obtain ⟨g37, g38⟩ := and_e g36
  obtain ⟨g39, g40⟩ := and_e g38
  obtain ⟨w0, rfl⟩ : ∃ w0 : Value, args = #[w0] := by
    have hs : args.size = 1 := by simpa [Cond.value, given_1] using g1
    obtain ⟨L⟩ := args
    match L, hs with
    | [w0], _ => exact ⟨w0, rfl⟩
  have hw := fun d (hd : d ∈ tables_1) => atoms_spec (ws := Jvm.Cond.code x code maxLocals ret :: tables_1) hat d (List.mem_cons_of_mem _ hd)
  have hfit : Fit s := fun {y c} hc i hi => by
    obtain ⟨ha, rfl⟩ := Array.getElem?_eq_some_iff.mp hc
    have q := List.all_eq_true.mp ((Array.all_eq_true_iff_forall_mem.mp hF) _ (Array.getElem_mem ha)) i (List.mem_range.mpr hi)
    simpa [Array.getElem?_eq_getElem hi] using q
  obtain ⟨i0, ei0⟩ := is_v g2
  obtain rfl : w0 = (.int i0) := Option.some.inj ei0
  obtain ⟨v_W001, ev_v_W001⟩ := exa_v g3
  have E_v_W001 := Exa.start ev_v_W001 g3
  have S_v_W001 := Sta.start ev_v_W001 (Or.inr ⟨(wd6 hw), (wd7 hw)⟩)
  obtain ⟨v_E001, ev_v_E001⟩ := exa_v g5
  have E_v_E001 := Exa.start ev_v_E001 g5
  have S_v_E001 := Sta.start ev_v_E001 (Or.inr ⟨(wd6 hw), (wd14 hw)⟩)
  have F_v_W001_ordinal := Fld.start ((fld_at ev_v_W001).symm.trans (own_eqi g7))
  have F_v_E001_ordinal := Fld.start ((fld_at ev_v_E001).symm.trans (own_eqi g9))
  obtain ⟨v_W002, ev_v_W002⟩ := exa_v g11
  have E_v_W002 := Exa.start ev_v_W002 g11
  have S_v_W002 := Sta.start ev_v_W002 (Or.inr ⟨(wd6 hw), (wd17 hw)⟩)
  have F_v_W002_ordinal := Fld.start ((fld_at ev_v_W002).symm.trans (own_eqi g13))
  obtain ⟨v_E002, ev_v_E002⟩ := exa_v g15
  have E_v_E002 := Exa.start ev_v_E002 g15
  have S_v_E002 := Sta.start ev_v_E002 (Or.inr ⟨(wd6 hw), (wd19 hw)⟩)
  have F_v_E002_ordinal := Fld.start ((fld_at ev_v_E002).symm.trans (own_eqi g17))
  obtain ⟨v_E005, ev_v_E005⟩ := exa_v g19
  have E_v_E005 := Exa.start ev_v_E005 g19
  have S_v_E005 := Sta.start ev_v_E005 (Or.inr ⟨(wd6 hw), (wd21 hw)⟩)
  have F_v_E005_ordinal := Fld.start ((fld_at ev_v_E005).symm.trans (own_eqi g21))
  obtain ⟨v_W003, ev_v_W003⟩ := exa_v g23
  have E_v_W003 := Exa.start ev_v_W003 g23
  have S_v_W003 := Sta.start ev_v_W003 (Or.inr ⟨(wd6 hw), (wd23 hw)⟩)
  have F_v_W003_ordinal := Fld.start ((fld_at ev_v_W003).symm.trans (own_eqi g25))
  obtain ⟨v_E006, ev_v_E006⟩ := exa_v g27
  have E_v_E006 := Exa.start ev_v_E006 g27
  have S_v_E006 := Sta.start ev_v_E006 (Or.inr ⟨(wd6 hw), (wd25 hw)⟩)
  have F_v_E006_ordinal := Fld.start ((fld_at ev_v_E006).symm.trans (own_eqi g29))
  obtain ⟨v_E007, ev_v_E007⟩ := exa_v g31
  have E_v_E007 := Exa.start ev_v_E007 g31
  have S_v_E007 := Sta.start ev_v_E007 (Or.inr ⟨(wd6 hw), (wd27 hw)⟩)
  have F_v_E007_ordinal := Fld.start ((fld_at ev_v_E007).symm.trans (own_eqi g33))
  obtain ⟨v_E003, ev_v_E003⟩ := exa_v g35
  have E_v_E003 := Exa.start ev_v_E003 g35
  have S_v_E003 := Sta.start ev_v_E003 (Or.inr ⟨(wd6 hw), (wd29 hw)⟩)
  have F_v_E003_ordinal := Fld.start ((fld_at ev_v_E003).symm.trans (own_eqi g37))
  obtain ⟨v_E004, ev_v_E004⟩ := exa_v g39
  have E_v_E004 := Exa.start ev_v_E004 g39
  have S_v_E004 := Sta.start ev_v_E004 (Or.inr ⟨(wd6 hw), (wd31 hw)⟩)
  have F_v_E004_ordinal := Fld.start ((fld_at ev_v_E004).symm.trans (own_eqi g40))
  have hplain := own_plain i0 v_W001 v_W002 v_W003 v_E001 v_E002 v_E003 v_E004 v_E005 v_E006 v_E007 (Fld.ne F_v_W001_ordinal F_v_E001_ordinal (fun hq => absurd (Value.int.inj hq) (by decide))) (Fld.ne F_v_W002_ordinal F_v_E001_ordinal (fun hq => absurd (Value.int.inj hq) (by decide))) (Fld.ne F_v_W003_ordinal F_v_E001_ordinal (fun hq => absurd (Value.int.inj hq) (by decide))) (Fld.ne F_v_E002_ordinal F_v_E001_ordinal (fun hq => absurd (Value.int.inj hq) (by decide))) (Fld.ne F_v_E003_ordinal F_v_E001_ordinal (fun hq => absurd (Value.int.inj hq) (by decide))) (Fld.ne F_v_E004_ordinal F_v_E001_ordinal (fun hq => absurd (Value.int.inj hq) (by decide))) (Fld.ne F_v_E005_ordinal F_v_E001_ordinal (fun hq => absurd (Value.int.inj hq) (by decide))) (Fld.ne F_v_E006_ordinal F_v_E001_ordinal (fun hq => absurd (Value.int.inj hq) (by decide))) (Fld.ne F_v_E007_ordinal F_v_E001_ordinal (fun hq => absurd (Value.int.inj hq) (by decide)))
  obtain ⟨n, o, h1, h2, h3, _, L, rfl, ⟨rfl, N⟩, hq⟩ := rm0 l s _ hw tables_1 i0 v_W001 v_W002 v_W003 v_E001 v_E002 v_E003 v_E004 v_E005 v_E006 v_E007 s.heap s.heap.size (Nat.le_refl _) S_v_W001 E_v_W001 S_v_W002 E_v_W002 S_v_W003 E_v_W003 S_v_E001 E_v_E001 S_v_E002 E_v_E002 S_v_E003 E_v_E003 S_v_E004 E_v_E004 S_v_E005 E_v_E005 S_v_E006 E_v_E006 S_v_E007 E_v_E007 p e ha hc hk s m _ below hf ((Spec.applies_iff_loose hf).mp happ).1 ⟨rfl, State.Warmed39.refl s, rfl⟩ trivial
  rw [hplain] at *
  refine ⟨n, _, h1, h2, h3, hpost _ _ _ _ _ _ ⟨Cond.after_iff.mpr rfl, Cond.after_iff.mpr (eq_i res_at (Term.int_eval (1)) rfl), trivial⟩ ⟨hq.1, hq.2.1, (hq.2.2.sift fun y hy => Or.inr (N y hy)).mono (by decide) (by decide)⟩⟩
theorem main_1_1 : Claimed_1_1 := comes_1 fun _ _ _ _ _ _ h hF => ⟨h.1, hF⟩
theorem main_1_2 : Claimed_1_2 := comes_1 fun _ _ _ _ _ _ h hF => ⟨h.2.1, hF⟩
end Jvm.Pilot.@@N@@
namespace Jvm.Pilot.@@N@@
open Jvm Jvm.ClassFile Sem Op Lib Jvm.Free Jvm.Stand Jvm.Pilot.@@N@@.Jvm.D
/-! MADE BY PROGRAM (witnessworld.py) out of the Statement's table words and the real class files: 12 classes; the members and pool entries that the words name. The judged class is class 1, her method 2. -/
namespace start1
open Jvm.ClassFile
def u (s : String) : CpInfo := .utf8 (stringToUtf16 s)
/-- a pool by its gaps: so many unusable entries, then the entry; so many at the end -/
def gap : Nat → List CpInfo → List CpInfo
  | 0, r => r
  | n + 1, r => .unusable :: gap n r
def poolList (es : List (Nat × CpInfo)) (last : Nat) : List CpInfo := es.foldr (fun e r => gap e.1 (e.2 :: r)) (gap last [])
def pool (es : List (Nat × CpInfo)) (last : Nat) : Array CpInfo := ⟨poolList es last⟩
def fileOf (pool : Array CpInfo) (this : Nat) (attrs : Array Attribute := #[]) (ms : Array MethodInfo := #[]) (fl : Nat := 33) (sup : Nat := 0) (ifs : Array Nat := #[]) (fds : Array FieldInfo := #[]) : ClassFile where
  minorVersion := 0
  majorVersion := 65
  constantPool := pool
  accessFlags := fl
  thisClass := this
  superClass := sup
  interfaces := ifs
  fields := fds
  methods := ms
  attributes := attrs
def plain (name : String) (sup : Option ClassId) : Class where
  name := name
  kind := .ordinary
  loader := none
  accessFlags := 33
  super := sup
  interfaces := #[]
  cf := none
  fields := #[]
  methods := #[]
  instanceTypes := #[]
  staticTypes := #[]
  resolved := #[]
  callSites := []
  init := .initialized
  statics := none
  mirror := none

def pool0 : Array CpInfo := pool [(5, u "<init>"), (0, u "()V"), (1, .class_ 10), (1, u "java/lang/Object")] 113

def k0m0 : Method := { name := "<init>", desc := "()V", sig := { parameters := [], returnType := none }, accessFlags := 1, code := none }
/-- java/lang/Object -/
def k0 : Class := { plain "java/lang/Object" none with
  accessFlags := 33
  interfaces := #[]
  cf := some (fileOf pool0 8 #[] #[{ accessFlags := 1, nameIndex := 5, descriptorIndex := 6, attributes := #[] }] 33 0 #[] #[])
  fields := #[]
  methods := #[k0m0]
  instanceTypes := #[]
  staticTypes := #[]
  resolved := Array.replicate 124 none
  statics := none }

def pool1 : Array CpInfo := pool [(2, .class_ 4), (1, u "java/lang/Object"), (0, u "<init>"), (0, u "()V"), (0, .fieldref 8 9), (0, .class_ 10), (0, .nameAndType 11 12), (0, u "com/example/tariffwire/tariffwire/g2b/ServiceCode"), (0, u "W001"), (0, u "Lcom/example/tariffwire/tariffwire/g2b/ServiceCode;"), (0, .fieldref 8 14), (0, .nameAndType 15 12), (0, u "W002"), (0, .fieldref 8 17), (0, .nameAndType 18 12), (0, u "W003"), (0, .fieldref 8 20), (0, .nameAndType 21 12), (0, u "E001"), (0, .fieldref 8 23), (0, .nameAndType 24 12), (0, u "E002"), (0, .fieldref 8 26), (0, .nameAndType 27 12), (0, u "E003"), (0, .fieldref 8 29), (0, .nameAndType 30 12), (0, u "E004"), (0, .fieldref 8 32), (0, .nameAndType 33 12), (0, u "E005"), (0, .fieldref 8 35), (0, .nameAndType 36 12), (0, u "E006"), (0, .fieldref 8 38), (0, .nameAndType 39 12), (0, u "E007"), (0, .integer 2147483647), (0, .methodref 42 43), (0, .class_ 44), (0, .nameAndType 45 46), (0, u "com/example/tariffwire/tariffwire/g2b/ServiceCodeIsReceiverFaultPinLaw"), (0, u "pick"), (0, u "(I)Lcom/example/tariffwire/tariffwire/g2b/ServiceCode;"), (0, .methodref 8 48), (0, .nameAndType 49 50), (0, u "isReceiverFault"), (0, u "()Z"), (3, u "law"), (0, u "(I)Z")] 2

def k1m0 : Method := { name := "<init>", desc := "()V", sig := { parameters := [], returnType := none }, accessFlags := 2, code := none }
def k1c1 : Code := { maxStack := 2, maxLocals := 1, code := method_2_code, exceptionTable := #[], attributes := #[] }
def k1m1 : Method := { name := "pick", desc := "(I)Lcom/example/tariffwire/tariffwire/g2b/ServiceCode;", sig := { parameters := [.int], returnType := some (.object "com/example/tariffwire/tariffwire/g2b/ServiceCode") }, accessFlags := 10, code := some k1c1 }
def k1c2 : Code := { maxStack := 2, maxLocals := 4, code := code, exceptionTable := #[], attributes := #[] }
def k1m2 : Method := { name := "law", desc := "(I)Z", sig := { parameters := [.int], returnType := some .boolean }, accessFlags := 9, code := some k1c2 }
/-- com/example/tariffwire/tariffwire/g2b/ServiceCodeIsReceiverFaultPinLaw -/
def k1 : Class := { plain "com/example/tariffwire/tariffwire/g2b/ServiceCodeIsReceiverFaultPinLaw" (some 0) with
  accessFlags := 49
  interfaces := #[]
  cf := some (fileOf pool1 42 #[] #[{ accessFlags := 2, nameIndex := 5, descriptorIndex := 6, attributes := #[] }, { accessFlags := 10, nameIndex := 45, descriptorIndex := 46, attributes := #[] }, { accessFlags := 9, nameIndex := 54, descriptorIndex := 55, attributes := #[] }] 49 2 #[] #[])
  fields := #[]
  methods := #[k1m0, k1m1, k1m2]
  instanceTypes := #[]
  staticTypes := #[]
  resolved := Array.replicate 58 none
  statics := none }

def pool2 : Array CpInfo := pool [(1, .class_ 2), (0, u "java/lang/constant/Constable"), (0, .class_ 4), (0, u "java/lang/Object")] 6

/-- java/lang/constant/Constable -/
def k2 : Class := { plain "java/lang/constant/Constable" (some 0) with
  accessFlags := 1537
  interfaces := #[]
  cf := some (fileOf pool2 1 #[] #[] 1537 3 #[] #[])
  fields := #[]
  methods := #[]
  instanceTypes := #[]
  staticTypes := #[]
  resolved := Array.replicate 11 none
  statics := none }

def pool3 : Array CpInfo := pool [(1, .class_ 2), (0, u "java/lang/Comparable"), (0, .class_ 4), (0, u "java/lang/Object")] 7

/-- java/lang/Comparable -/
def k3 : Class := { plain "java/lang/Comparable" (some 0) with
  accessFlags := 1537
  interfaces := #[]
  cf := some (fileOf pool3 1 #[] #[] 1537 3 #[] #[])
  fields := #[]
  methods := #[]
  instanceTypes := #[]
  staticTypes := #[]
  resolved := Array.replicate 12 none
  statics := none }

def pool4 : Array CpInfo := pool [(1, .class_ 2), (0, u "java/io/Serializable"), (0, .class_ 4), (0, u "java/lang/Object")] 2

/-- java/io/Serializable -/
def k4 : Class := { plain "java/io/Serializable" (some 0) with
  accessFlags := 1537
  interfaces := #[]
  cf := some (fileOf pool4 1 #[] #[] 1537 3 #[] #[])
  fields := #[]
  methods := #[]
  instanceTypes := #[]
  staticTypes := #[]
  resolved := Array.replicate 7 none
  statics := none }

def pool5 : Array CpInfo := pool [(2, .class_ 4), (1, u "java/lang/Enum"), (0, u "name"), (0, u "Ljava/lang/String;"), (2, u "ordinal"), (0, u "I"), (1, .class_ 14), (1, u "java/lang/Object"), (4, u "hash"), (86, .class_ 108), (1, u "java/lang/Enum$EnumDesc"), (2, .class_ 112), (0, u "java/lang/constant/Constable"), (0, .class_ 114), (0, u "java/lang/Comparable"), (0, .class_ 116), (0, u "java/io/Serializable")] 87

/-- java/lang/Enum -/
def k5 : Class := { plain "java/lang/Enum" (some 0) with
  accessFlags := 1057
  interfaces := #[2, 3, 4]
  cf := some (fileOf pool5 2 #[.nestMembers #[106]] #[] 1057 12 #[111, 113, 115] #[{ accessFlags := 18, nameIndex := 5, descriptorIndex := 6, attributes := #[] }, { accessFlags := 18, nameIndex := 9, descriptorIndex := 10, attributes := #[] }, { accessFlags := 2, nameIndex := 19, descriptorIndex := 10, attributes := #[] }])
  fields := #[{ name := "name", type := (.object "java/lang/String"), accessFlags := 18, slot := 0, constantValue := 0 }, { name := "ordinal", type := .int, accessFlags := 18, slot := 1, constantValue := 0 }, { name := "hash", type := .int, accessFlags := 2, slot := 2, constantValue := 0 }]
  methods := #[]
  instanceTypes := #[(.object "java/lang/String"), .int, .int]
  staticTypes := #[]
  resolved := Array.replicate 204 none
  statics := none }

def pool6 : Array CpInfo := pool [(1, .class_ 2), (0, u "com/example/tariffwire/tariffwire/g2b/ServiceCode"), (2, u "W001"), (0, u "Lcom/example/tariffwire/tariffwire/g2b/ServiceCode;"), (2, u "W002"), (2, u "W003"), (0, .fieldref 1 14), (0, .nameAndType 15 6), (0, u "E001"), (2, u "E002"), (2, u "E003"), (2, u "E004"), (2, u "E005"), (2, u "E006"), (2, u "E007"), (2, u "$VALUES"), (0, u "[Lcom/example/tariffwire/tariffwire/g2b/ServiceCode;"), (6, .class_ 46), (1, u "java/lang/Enum"), (12, u "isReceiverFault"), (0, u "()Z"), (15, u "SENDER_STATUS"), (0, u "I"), (2, u "RECEIVER_STATUS")] 15

def k6c0 : Code := { maxStack := 2, maxLocals := 1, code := prog_31_method_4_code, exceptionTable := #[], attributes := #[] }
def k6m0 : Method := { name := "isReceiverFault", desc := "()Z", sig := { parameters := [], returnType := some .boolean }, accessFlags := 0, code := some k6c0 }
/-- com/example/tariffwire/tariffwire/g2b/ServiceCode -/
def k6 : Class := { plain "com/example/tariffwire/tariffwire/g2b/ServiceCode" (some 5) with
  accessFlags := 16432
  interfaces := #[]
  cf := some (fileOf pool6 1 #[] #[{ accessFlags := 0, nameIndex := 59, descriptorIndex := 60, attributes := #[] }] 16432 44 #[] #[{ accessFlags := 16409, nameIndex := 5, descriptorIndex := 6, attributes := #[] }, { accessFlags := 16409, nameIndex := 9, descriptorIndex := 6, attributes := #[] }, { accessFlags := 16409, nameIndex := 12, descriptorIndex := 6, attributes := #[] }, { accessFlags := 16409, nameIndex := 15, descriptorIndex := 6, attributes := #[] }, { accessFlags := 16409, nameIndex := 18, descriptorIndex := 6, attributes := #[] }, { accessFlags := 16409, nameIndex := 21, descriptorIndex := 6, attributes := #[] }, { accessFlags := 16409, nameIndex := 24, descriptorIndex := 6, attributes := #[] }, { accessFlags := 16409, nameIndex := 27, descriptorIndex := 6, attributes := #[] }, { accessFlags := 16409, nameIndex := 30, descriptorIndex := 6, attributes := #[] }, { accessFlags := 16409, nameIndex := 33, descriptorIndex := 6, attributes := #[] }, { accessFlags := 26, nameIndex := 76, descriptorIndex := 77, attributes := #[] }, { accessFlags := 26, nameIndex := 80, descriptorIndex := 77, attributes := #[] }, { accessFlags := 4122, nameIndex := 36, descriptorIndex := 37, attributes := #[] }])
  fields := #[{ name := "W001", type := (.object "com/example/tariffwire/tariffwire/g2b/ServiceCode"), accessFlags := 16409, slot := 0, constantValue := 0 }, { name := "W002", type := (.object "com/example/tariffwire/tariffwire/g2b/ServiceCode"), accessFlags := 16409, slot := 1, constantValue := 0 }, { name := "W003", type := (.object "com/example/tariffwire/tariffwire/g2b/ServiceCode"), accessFlags := 16409, slot := 2, constantValue := 0 }, { name := "E001", type := (.object "com/example/tariffwire/tariffwire/g2b/ServiceCode"), accessFlags := 16409, slot := 3, constantValue := 0 }, { name := "E002", type := (.object "com/example/tariffwire/tariffwire/g2b/ServiceCode"), accessFlags := 16409, slot := 4, constantValue := 0 }, { name := "E003", type := (.object "com/example/tariffwire/tariffwire/g2b/ServiceCode"), accessFlags := 16409, slot := 5, constantValue := 0 }, { name := "E004", type := (.object "com/example/tariffwire/tariffwire/g2b/ServiceCode"), accessFlags := 16409, slot := 6, constantValue := 0 }, { name := "E005", type := (.object "com/example/tariffwire/tariffwire/g2b/ServiceCode"), accessFlags := 16409, slot := 7, constantValue := 0 }, { name := "E006", type := (.object "com/example/tariffwire/tariffwire/g2b/ServiceCode"), accessFlags := 16409, slot := 8, constantValue := 0 }, { name := "E007", type := (.object "com/example/tariffwire/tariffwire/g2b/ServiceCode"), accessFlags := 16409, slot := 9, constantValue := 0 }, { name := "SENDER_STATUS", type := .int, accessFlags := 26, slot := 10, constantValue := 0 }, { name := "RECEIVER_STATUS", type := .int, accessFlags := 26, slot := 11, constantValue := 0 }, { name := "$VALUES", type := (.array (.object "com/example/tariffwire/tariffwire/g2b/ServiceCode")), accessFlags := 4122, slot := 12, constantValue := 0 }]
  methods := #[k6m0]
  instanceTypes := #[(.object "java/lang/String"), .int, .int]
  staticTypes := #[(.object "com/example/tariffwire/tariffwire/g2b/ServiceCode"), (.object "com/example/tariffwire/tariffwire/g2b/ServiceCode"), (.object "com/example/tariffwire/tariffwire/g2b/ServiceCode"), (.object "com/example/tariffwire/tariffwire/g2b/ServiceCode"), (.object "com/example/tariffwire/tariffwire/g2b/ServiceCode"), (.object "com/example/tariffwire/tariffwire/g2b/ServiceCode"), (.object "com/example/tariffwire/tariffwire/g2b/ServiceCode"), (.object "com/example/tariffwire/tariffwire/g2b/ServiceCode"), (.object "com/example/tariffwire/tariffwire/g2b/ServiceCode"), (.object "com/example/tariffwire/tariffwire/g2b/ServiceCode"), .int, .int, (.array (.object "com/example/tariffwire/tariffwire/g2b/ServiceCode"))]
  resolved := Array.replicate 96 none
  statics := some 0 }

def pool7 : Array CpInfo := pool [(1, u "java/lang/Cloneable"), (0, .class_ 1), (0, u "java/lang/Object"), (0, .class_ 3)] 3

/-- java/lang/Cloneable -/
def k7 : Class := { plain "java/lang/Cloneable" (some 0) with
  accessFlags := 1537
  interfaces := #[]
  cf := some (fileOf pool7 2 #[] #[] 1537 4 #[] #[])
  fields := #[]
  methods := #[]
  instanceTypes := #[]
  staticTypes := #[]
  resolved := Array.replicate 8 none
  statics := none }

/-- the primitive byte -/
def k8 : Class := { plain "byte" none with kind := .primitive 'B', accessFlags := 0x411 }
/-- [B -/
def k9 : Class := { plain "[B" (some 0) with kind := .array 8 .byte, interfaces := #[7, 4], accessFlags := 1041 }

/-- the primitive int -/
def k10 : Class := { plain "int" none with kind := .primitive 'I', accessFlags := 0x411 }
/-- [I -/
def k11 : Class := { plain "[I" (some 0) with kind := .array 10 .int, interfaces := #[7, 4], accessFlags := 1041 }

def heap : Heap := #[{ cls := 6, slots := #[.ref 1, .ref 2, .ref 3, .ref 4, .ref 5, .ref 6, .ref 7, .ref 8, .ref 9, .ref 10, .int 0, .int 0, .null], vm := .statics 6 },
  { cls := 6, slots := #[.null, .int 0, .int 0], vm := .none },
  { cls := 6, slots := #[.null, .int 1, .int 0], vm := .none },
  { cls := 6, slots := #[.null, .int 2, .int 0], vm := .none },
  { cls := 6, slots := #[.null, .int 3, .int 0], vm := .none },
  { cls := 6, slots := #[.null, .int 4, .int 0], vm := .none },
  { cls := 6, slots := #[.null, .int 5, .int 0], vm := .none },
  { cls := 6, slots := #[.null, .int 6, .int 0], vm := .none },
  { cls := 6, slots := #[.null, .int 7, .int 0], vm := .none },
  { cls := 6, slots := #[.null, .int 8, .int 0], vm := .none },
  { cls := 6, slots := #[.null, .int 9, .int 0], vm := .none }]
def classes : Array Class := #[k0, k1, k2, k3, k4, k5, k6, k7, k8, k9, k10, k11]
def interned : List (Array UInt16 × Addr) := []
def slotsUsed : Nat := 43
def theMethod : MethodId := ⟨1, 2⟩
def args0 : Array Value := #[.int 5]
def aboutOver (below : List Frame) : State where
  vm := { classes := classes, interned := interned.toArray }
  heap := heap
  slotsUsed := slotsUsed
  threads := #[{ frames := .invoking theMethod args0 :: below }]
def below0 : List Frame := [.native { method := ⟨0, 0⟩, args := #[] }]
def about1 : State := aboutOver below0
def p0 : Program := .bare "" "" ""
def e0 : Env := launch0.env 0 0 0
theorem w_frames : about1.frames = Frame.invoking theMethod args0 :: below0 := rfl
set_option maxRecDepth 65536 in
theorem w_args : argsFit about1.vm theMethod args0 = true := by decide +kernel
set_option maxRecDepth 65536 in
theorem w_heap : heapFits about1 = true := by decide +kernel
set_option maxRecDepth 65536 in
theorem w_runnable : about1.curStatus? = some .runnable := by decide +kernel
set_option maxRecDepth 65536 in
theorem w_alone : about1.alone = true := by decide +kernel
set_option maxRecDepth 65536 in
theorem w_named : about1.methodNamed? x = some theMethod := by decide +kernel
set_option maxRecDepth 65536 in
theorem w_hears : about1.hears theMethod below0 = true := by decide +kernel
set_option maxRecDepth 65536 in
theorem w_ripe : about1.ripe theMethod args0 below0 = true := by decide +kernel
theorem w_running : about1.status = .running := rfl
set_option maxRecDepth 65536 in
theorem w_room : about1.hasRoom e0.platform room_1 = true :=
  launch0.hasRoom_least _ room_1 (by decide +kernel) (by decide +kernel) (by decide +kernel) (by decide +kernel) (by decide +kernel) (by decide +kernel)
theorem allAtoms_all (ts : List Jvm.Cond) (a : Array Jvm.Value) (st : Jvm.State) : (allAtoms ts).before a st = ts.all (fun c => c.before a st) := by
  induction ts with
  | nil => rfl
  | cons c t ih =>
    show (Jvm.Cond.and c (allAtoms t)).before a st = _
    rw [Jvm.Cond.before_and, ih, List.all_cons]
def words1 : List Jvm.Cond := Jvm.Cond.code x code maxLocals ret :: tables_1
/-- a 'code' word, met by the world's own term for the bytes: nothing is compared byte by byte -/
theorem code_word {y : MethodName} {bytes : ByteArray} {mx : Nat} {rt : Option FieldType} {a : Array Value} {s : State} {m : MethodId} {meth : Method} {c : Code} (h1 : s.methodNamed? y = some m) (h2 : s.vm.method? m = some meth) (h3 : meth.code = some c) (h4 : c.code = bytes)
    (h5 : (c.maxLocals == mx && c.exceptionTable.isEmpty && decide (c.maxStack ≤ mostOperands) && decide (meth.sig.returnType = rt) && !meth.locks && decide (parseMethodDescriptor y.desc = some meth.sig)) = true) : (Jvm.Cond.code y bytes mx rt).before a s = true := by
  simp only [Bool.and_eq_true, beq_iff_eq, Bool.not_eq_true', decide_eq_true_eq] at h5
  obtain ⟨⟨⟨⟨⟨g1, g2⟩, g3⟩, g4⟩, g5⟩, g6⟩ := h5
  simp [Cond.before, Cond.holds, Cond.value, h1, h2, h3, h4, g1, g2, g3, g4, g5, g6]
def isCode : Jvm.Cond → Bool
  | .code _ _ _ _ => true
  | _ => false
theorem all_split {L : List Jvm.Cond} {P : Jvm.Cond → Bool} (h1 : L.all (fun c => isCode c || P c) = true) (h2 : ∀ c ∈ L.filter isCode, P c = true) : L.all P = true := by
  refine List.all_eq_true.mpr fun c hc => ?_
  have h := List.all_eq_true.mp h1 c hc
  rcases Bool.eq_false_or_eq_true (isCode c) with hi | hi
  · exact h2 c (List.mem_filter.mpr ⟨hc, hi⟩)
  · simpa [hi] using h
set_option maxRecDepth 65536 in
theorem w_c0 : (Jvm.Cond.code x code maxLocals ret).before args0 about1 = true := code_word (m := ⟨1, 2⟩) (meth := k1m2) (c := k1c2) (by decide +kernel) rfl rfl rfl (by decide +kernel)
set_option maxRecDepth 65536 in
theorem w_c1 : (Jvm.Cond.code ({ cls := "com/example/tariffwire/tariffwire/g2b/ServiceCodeIsReceiverFaultPinLaw", name := "pick", desc := "(I)Lcom/example/tariffwire/tariffwire/g2b/ServiceCode;" } : Jvm.MethodName) method_2_code (1 : Nat) (Option.some (Jvm.ClassFile.FieldType.object "com/example/tariffwire/tariffwire/g2b/ServiceCode"))).before args0 about1 = true := code_word (m := ⟨1, 1⟩) (meth := k1m1) (c := k1c1) (by decide +kernel) rfl rfl rfl (by decide +kernel)
set_option maxRecDepth 65536 in
theorem w_c2 : (Jvm.Cond.code ({ cls := "com/example/tariffwire/tariffwire/g2b/ServiceCode", name := "isReceiverFault", desc := "()Z" } : Jvm.MethodName) prog_31_method_4_code (1 : Nat) (Option.some Jvm.ClassFile.FieldType.boolean)).before args0 about1 = true := code_word (m := ⟨6, 0⟩) (meth := k6m0) (c := k6c0) (by decide +kernel) rfl rfl rfl (by decide +kernel)
def codes1 : List Jvm.Cond := [Jvm.Cond.code x code maxLocals ret, Jvm.Cond.code ({ cls := "com/example/tariffwire/tariffwire/g2b/ServiceCodeIsReceiverFaultPinLaw", name := "pick", desc := "(I)Lcom/example/tariffwire/tariffwire/g2b/ServiceCode;" } : Jvm.MethodName) method_2_code (1 : Nat) (Option.some (Jvm.ClassFile.FieldType.object "com/example/tariffwire/tariffwire/g2b/ServiceCode")), Jvm.Cond.code ({ cls := "com/example/tariffwire/tariffwire/g2b/ServiceCode", name := "isReceiverFault", desc := "()Z" } : Jvm.MethodName) prog_31_method_4_code (1 : Nat) (Option.some Jvm.ClassFile.FieldType.boolean)]
set_option maxRecDepth 65536 in
theorem codes_eq : words1.filter isCode = codes1 := rfl
theorem w_codes : ∀ c ∈ words1.filter isCode, c.before args0 about1 = true := by
  rw [codes_eq]
  intro c hc
  simp only [codes1, List.mem_cons, List.not_mem_nil, or_false] at hc
  rcases hc with rfl | rfl | rfl
  · exact w_c0
  · exact w_c1
  · exact w_c2
set_option maxRecDepth 65536 in
theorem w_t1 : (words1.take 24).all (fun c => isCode c || c.before args0 about1) = true := by decide +kernel
set_option maxRecDepth 65536 in
theorem w_t2 : (words1.drop 24).all (fun c => isCode c || c.before args0 about1) = true := by decide +kernel
theorem w_tables : (allAtoms (Jvm.Cond.code x code maxLocals ret :: tables_1)).before args0 about1 = true := by
  rw [allAtoms_all]
  show words1.all (fun c => c.before args0 about1) = true
  refine all_split ?_ w_codes
  rw [← List.take_append_drop 24 words1, List.all_append, w_t1, w_t2]
  rfl
set_option maxRecDepth 65536 in
theorem w_case : (Jvm.Cond.and given_1 narrow_1).before args0 about1 = true := by decide +kernel
theorem w_applies : (headSpec (Jvm.Cond.code x code maxLocals ret :: tables_1) room_1).applies x e0.platform about1 = true :=
  (Spec.applies_iff w_frames).mpr ⟨w_running, w_runnable, w_alone, w_named, w_hears, w_ripe, w_room, w_tables⟩
theorem atStart : AtStart classFile x code maxLocals ret World_1 tables_1 room_1 Calls_1 rest_1 Pre_1 launch0 p0 e0 about1 theMethod args0 below0 :=
  ⟨lists_1, trivial, launch0.admits_env _ _ _, launch0.least_env, fairChoices_fair.cas, fairChoices_fair.clock, w_frames, w_args, w_heap, w_applies, trivial, trivial, w_case⟩
end start1
theorem witness_1 : WitnessClaimed_1 := ⟨start1.p0, start1.e0, start1.about1, start1.theMethod, start1.args0, start1.below0, start1.atStart⟩
end Jvm.Pilot.@@N@@
