import JvmDerived
import JvmDerived.Pilot.@@N@@Statement
import JvmDerived.Pilot.@@N@@Code
set_option linter.unusedVariables false
set_option linter.unusedSimpArgs false
namespace Jvm.Pilot.@@N@@
open Jvm Jvm.ClassFile Sem Op Lib Jvm.Free Jvm.Stand Jvm.LawKit Jvm.RoadKit Bundle Jvm.Pilot.@@N@@.Jvm.D
/-- what runs on to t from B runs on to t from A -/
def own_Rch (tb : Tables) (e : Env) (below : List Frame) (A B : State) : Prop := ∀ t, Steps tb e below B t → Steps tb e below A t
theorem own_lct1 {a b : Int64} (h : a < b) : ifCond.holds .lt (lcmpW a b) = true ∧ ifCond.holds .ge (lcmpW a b) = false := by
  have h1 : ¬ b < a := fun q => by rw [Int64.lt_iff_toInt_lt] at h q; omega
  have h2 : ¬ a = b := fun q => by subst q; exact h1 h
  simp only [lcmpW, gt_iff_lt, h1, h2, if_false]; exact ⟨rfl, rfl⟩
theorem own_lcf1 {a b : Int64} (h : ¬ a < b) : ifCond.holds .lt (lcmpW a b) = false ∧ ifCond.holds .ge (lcmpW a b) = true := by
  by_cases h1 : b < a
  · simp only [lcmpW, gt_iff_lt, h1, if_true]; exact ⟨rfl, rfl⟩
  · have h2 : a = b := by rw [Int64.lt_iff_toInt_lt] at h h1; exact Int64.toInt_inj.mp (by omega)
    simp only [lcmpW, gt_iff_lt, h1, h2, if_false, if_true]; subst h2; simp only [Int64.lt_irrefl, if_false]; exact ⟨rfl, rfl⟩
theorem own_lct2 {a b : Int64} (h : b < a) : ifCond.holds .gt (lcmpW a b) = true ∧ ifCond.holds .le (lcmpW a b) = false := by
  simp only [lcmpW, gt_iff_lt, h, if_true]; exact ⟨rfl, rfl⟩
theorem own_lcf2 {a b : Int64} (h : ¬ b < a) : ifCond.holds .gt (lcmpW a b) = false ∧ ifCond.holds .le (lcmpW a b) = true := by
  by_cases h2 : a = b
  · simp only [lcmpW, gt_iff_lt, h, if_pos h2, if_false]; exact ⟨rfl, rfl⟩
  · simp only [lcmpW, gt_iff_lt, h, if_neg h2, if_false]; exact ⟨rfl, rfl⟩
theorem own_lct3 {a b : Int64} (h : a = b) : ifCond.holds .eq (lcmpW a b) = true ∧ ifCond.holds .ne (lcmpW a b) = false := by
  have h1 : ¬ b < a := fun q => by subst h; exact absurd q (Int64.lt_irrefl)
  simp only [lcmpW, gt_iff_lt, h1, if_pos h, if_false]; exact ⟨rfl, rfl⟩
theorem own_lcf3 {a b : Int64} (h : ¬ a = b) : ifCond.holds .eq (lcmpW a b) = false ∧ ifCond.holds .ne (lcmpW a b) = true := by
  by_cases h1 : b < a
  · simp only [lcmpW, gt_iff_lt, h1, if_true]; exact ⟨rfl, rfl⟩
  · simp only [lcmpW, gt_iff_lt, h1, if_neg h, if_false]; exact ⟨rfl, rfl⟩
theorem own_remI (x y : Int32) : x - x / y * y = x % y := by
  apply Int32.toInt_inj.mp
  have l := Int32.toInt_lt (x % y)
  have g := Int32.le_toInt (x % y)
  rw [Int32.toInt_sub, Int32.toInt_mul, Int32.toInt_div]
  simp only [Int.sub_bmod_bmod, Int.bmod_mul_bmod]
  rw [Int.mul_comm, ← Int.tmod_def, ← Int32.toInt_mod, Int.bmod_eq_of_le] <;> omega
theorem own_remL (x y : Int64) : x - x / y * y = x % y := by
  apply Int64.toInt_inj.mp
  have l := Int64.toInt_lt (x % y)
  have g := Int64.le_toInt (x % y)
  rw [Int64.toInt_sub, Int64.toInt_mul, Int64.toInt_div]
  simp only [Int.sub_bmod_bmod, Int.bmod_mul_bmod]
  rw [Int.mul_comm, ← Int.tmod_def, ← Int64.toInt_mod, Int.bmod_eq_of_le] <;> omega
theorem d2_0 : decode jdk_30_method_1_code 0 = .ok (.aload_n 0, 1) := by decide +kernel
theorem d2_1 : decode jdk_30_method_1_code 1 = .ok (.invokespecial 1, 3) := by decide +kernel
theorem d2_4 : decode jdk_30_method_1_code 4 = .ok (.return_, 1) := by decide +kernel
theorem pn_0 : plainName "java/lang/Record" = true := by first | (simp [plainName, overriddenIn]; done) | decide +kernel
theorem ef_2 (m : MethodId) (a : Addr) : entryFrame m #[(.ref a)] 1 = mkF m 0 #[.val (.ref a)] [] := by first | (simp [entryFrame, mkF, argsToLocals, Value.category]; done) | rfl
def Q2 (Z : State) (a : Addr) (h0 : Heap) (n0 : Nat) (v : Option Value) (h : Heap) (L : List Loc) : Prop := v = none ∧ Fr n0 L ∧ h = h0
set_option maxRecDepth 65536 in
set_option maxHeartbeats 40000000 in
theorem rm2 (l : Launch) (Z : State) (a0 : Array Value) (hw : ∀ d ∈ tables_1, d.before a0 Z = true) (ws : List Jvm.Cond) (a : Addr) (h0 : Heap) (n0 : Nat) (Z0 : n0 ≤ h0.size) :
    MetFree l (⟨"java/lang/Record", "<init>", "()V"⟩ : MethodName) (head1 (Jvm.Cond.code (⟨"java/lang/Record", "<init>", "()V"⟩ : MethodName) jdk_30_method_1_code 1 none :: ws) ({ frames := 1, cells := 0, slots := 0, locals := 12 } : Room)) (fun a' U => a' = #[(.ref a)] ∧ Z.Warmed39 U.vm ∧ U.heap = h0) (fun _ _ _ _ _ => True) (fun _ U o U' => ∃ v L, o = .returned v ∧ Q2 Z a h0 n0 v U'.heap L ∧ FrameEnd U o U' L ({ frames := 1, cells := 0, slots := 0, locals := 12 } : Room).cells ({ frames := 1, cells := 0, slots := 0, locals := 12 } : Room).slots) := by
  refine MetFree.of_bodySF (plainFor_of_name pn_0) hisR ?_
  intro p e s m args' below meth c s₁ Bd hml0 hP hK
  obtain ⟨hargs, hZ, hh⟩ := hP
  have hx := Bd.exec
  have hby := Bd.bytes
  have hml : c.maxLocals = 1 := hml0
  have hown : s.vm.findClass "java/lang/Record" = some m.cls := findClass_of_methodNamed Bd.named
  have hnm := (name_of_methodNamed Bd.named Bd.method).1
  have X0 : Stand p l e ({ frames := 1, cells := 0, slots := 0, locals := 12 } : Room) s m args' below meth c s₁ [] 0 0 := Stand.of_body Bd
  have e0 : s₁.heap = h0 := by rw [← hh, Bd.state]; rfl
  have N0 := Fr.nil n0
  obtain ⟨A0, hA0⟩ : ∃ A, A = s₁.setTop (mkF m 0 #[.val (.ref a)] []) := ⟨_, rfl⟩
  have P0 : own_Rch p.tables e below A0 (s₁.setTop (mkF m 0 #[.val (.ref a)] [])) := fun t k => hA0 ▸ k
  have P00 : own_Rch p.tables e below (s₁.setTop (entryFrame m args' 1)) A0 := fun t k => by rw [hargs]; exact castTop (ef_2 m a) (hA0 ▸ k)
  have P1 : own_Rch p.tables e below A0 (s₁.setTop (mkF m 1 #[.val (.ref a)] [(.ref a)])) := fun t k => P0 t (by
    show Steps p.tables e below (s₁.setTop (mkF m 0 #[.val (.ref a)] [])) _
    refine XS.aloadN X0.here hx rfl (hb hby d2_0) rfl rfl ?_
    exact k)
  obtain ⟨T2, X2, e2, st2⟩ := initO X0 hx hZ hown (hw _ (List.mem_of_getElem? (i := 12) rfl)) (hw _ (List.mem_of_getElem? (i := 13) rfl)) (hw _ (List.mem_of_getElem? (i := 14) rfl)) e0 (g := (mkF m 1 #[.val (.ref a)] [(.ref a)])) rfl (by rw [hml]; rfl) rfl (hb hby d2_1) (by decide) (W := 0) (by show 2 * 0 + _ ≤ _; exact Nat.le_of_eq rfl) (by decide)
  have P3 : own_Rch p.tables e below A0 (T2.setTop (mkF m 4 #[.val (.ref a)] [])) := fun t k => P1 t (st2 t k)
  obtain ⟨fs, hr, hrun, hended, hW, hsame⟩ := X2.leave (v := none) (fun _ => rfl)
  refine ⟨_, _, P00 _ (P3 _ ?_), hrun, hended, _, _, rfl, ?_, ⟨_, rfl⟩, hW, hsame.mono (by decide) (by decide)⟩
  · exact X2.returnOut hx Bd.returns (hb hby d2_4) hr
  · show Q2 Z a h0 n0 _ T2.heap _
    rw [e2]
    refine ⟨?_, N0, rfl⟩
    rfl
theorem d1_0 : decode prog_85_method_1_code 0 = .ok (.aload_n 0, 1) := by decide +kernel
theorem d1_1 : decode prog_85_method_1_code 1 = .ok (.invokespecial 1, 3) := by decide +kernel
theorem d1_4 : decode prog_85_method_1_code 4 = .ok (.aload_n 0, 1) := by decide +kernel
theorem d1_5 : decode prog_85_method_1_code 5 = .ok (.lload_n 1, 1) := by decide +kernel
theorem d1_6 : decode prog_85_method_1_code 6 = .ok (.putfield 7, 3) := by decide +kernel
theorem d1_9 : decode prog_85_method_1_code 9 = .ok (.aload_n 0, 1) := by decide +kernel
theorem d1_10 : decode prog_85_method_1_code 10 = .ok (.lload_n 3, 1) := by decide +kernel
theorem d1_11 : decode prog_85_method_1_code 11 = .ok (.putfield 13, 3) := by decide +kernel
theorem d1_14 : decode prog_85_method_1_code 14 = .ok (.aload_n 0, 1) := by decide +kernel
theorem d1_15 : decode prog_85_method_1_code 15 = .ok (.lload 5, 2) := by decide +kernel
theorem d1_17 : decode prog_85_method_1_code 17 = .ok (.putfield 16, 3) := by decide +kernel
theorem d1_20 : decode prog_85_method_1_code 20 = .ok (.aload_n 0, 1) := by decide +kernel
theorem d1_21 : decode prog_85_method_1_code 21 = .ok (.lload 7, 2) := by decide +kernel
theorem d1_23 : decode prog_85_method_1_code 23 = .ok (.putfield 19, 3) := by decide +kernel
theorem d1_26 : decode prog_85_method_1_code 26 = .ok (.aload_n 0, 1) := by decide +kernel
theorem d1_27 : decode prog_85_method_1_code 27 = .ok (.lload 9, 2) := by decide +kernel
theorem d1_29 : decode prog_85_method_1_code 29 = .ok (.putfield 22, 3) := by decide +kernel
theorem d1_32 : decode prog_85_method_1_code 32 = .ok (.aload_n 0, 1) := by decide +kernel
theorem d1_33 : decode prog_85_method_1_code 33 = .ok (.lload 11, 2) := by decide +kernel
theorem d1_35 : decode prog_85_method_1_code 35 = .ok (.putfield 25, 3) := by decide +kernel
theorem d1_38 : decode prog_85_method_1_code 38 = .ok (.aload_n 0, 1) := by decide +kernel
theorem d1_39 : decode prog_85_method_1_code 39 = .ok (.lload 13, 2) := by decide +kernel
theorem d1_41 : decode prog_85_method_1_code 41 = .ok (.putfield 28, 3) := by decide +kernel
theorem d1_44 : decode prog_85_method_1_code 44 = .ok (.aload_n 0, 1) := by decide +kernel
theorem d1_45 : decode prog_85_method_1_code 45 = .ok (.lload 15, 2) := by decide +kernel
theorem d1_47 : decode prog_85_method_1_code 47 = .ok (.putfield 31, 3) := by decide +kernel
theorem d1_50 : decode prog_85_method_1_code 50 = .ok (.aload_n 0, 1) := by decide +kernel
theorem d1_51 : decode prog_85_method_1_code 51 = .ok (.lload 17, 2) := by decide +kernel
theorem d1_53 : decode prog_85_method_1_code 53 = .ok (.putfield 34, 3) := by decide +kernel
theorem d1_56 : decode prog_85_method_1_code 56 = .ok (.aload_n 0, 1) := by decide +kernel
theorem d1_57 : decode prog_85_method_1_code 57 = .ok (.iload 19, 2) := by decide +kernel
theorem d1_59 : decode prog_85_method_1_code 59 = .ok (.putfield 37, 3) := by decide +kernel
theorem d1_62 : decode prog_85_method_1_code 62 = .ok (.return_, 1) := by decide +kernel
theorem pd_0 : parseMethodDescriptor "()V" = some ⟨[], none⟩ := by decide +kernel
theorem pn_1 : plainName "com/example/commitlog/commitlog/store/VerifyResult" = true := by first | (simp [plainName, overriddenIn]; done) | decide +kernel
theorem ef_1 (m : MethodId) (a : Addr) (q1 : Int64) (q2 : Int64) (q3 : Int64) (q4 : Int64) (q5 : Int64) (q6 : Int64) (q7 : Int64) (q8 : Int64) (q9 : Int64) (q10 : Int32) : entryFrame m #[(.ref a), (.long q1), (.long q2), (.long q3), (.long q4), (.long q5), (.long q6), (.long q7), (.long q8), (.long q9), (.int q10)] 20 = mkF m 0 #[.val (.ref a), .val (.long q1), .second, .val (.long q2), .second, .val (.long q3), .second, .val (.long q4), .second, .val (.long q5), .second, .val (.long q6), .second, .val (.long q7), .second, .val (.long q8), .second, .val (.long q9), .second, .val (.int q10)] [] := by first | (simp [entryFrame, mkF, argsToLocals, Value.category]; done) | rfl
def Q1 (Z : State) (a : Addr) (q1 : Int64) (q2 : Int64) (q3 : Int64) (q4 : Int64) (q5 : Int64) (q6 : Int64) (q7 : Int64) (q8 : Int64) (q9 : Int64) (q10 : Int32) (h0 : Heap) (n0 : Nat) (v : Option Value) (h : Heap) (L : List Loc) : Prop := v = none ∧ Fr n0 L ∧ Keep h0 h [a] ∧ Exa Z h a "com/example/commitlog/commitlog/store/VerifyResult" ∧ Fld Z h a "com/example/commitlog/commitlog/store/VerifyResult" "logEnd" "J" (.long q2) ∧ Fld Z h a "com/example/commitlog/commitlog/store/VerifyResult" "recoveryEnd" "J" (.long q3) ∧ Fld Z h a "com/example/commitlog/commitlog/store/VerifyResult" "damaged" "J" (.long q5) ∧ Fld Z h a "com/example/commitlog/commitlog/store/VerifyResult" "badUnits" "J" (.long q7) ∧ Fld Z h a "com/example/commitlog/commitlog/store/VerifyResult" "badEntries" "J" (.long q9)
set_option maxRecDepth 65536 in
set_option maxHeartbeats 40000000 in
theorem rm1 (l : Launch) (Z : State) (a0 : Array Value) (hw : ∀ d ∈ tables_1, d.before a0 Z = true) (ws : List Jvm.Cond) (a : Addr) (q1 : Int64) (q2 : Int64) (q3 : Int64) (q4 : Int64) (q5 : Int64) (q6 : Int64) (q7 : Int64) (q8 : Int64) (q9 : Int64) (q10 : Int32) (h0 : Heap) (n0 : Nat) (Z0 : n0 ≤ h0.size) (E_a : Exa Z h0 a "com/example/commitlog/commitlog/store/VerifyResult") (F_a_logStart : Fld Z h0 a "com/example/commitlog/commitlog/store/VerifyResult" "logStart" "J" (.long (0 : Int64))) (F_a_logEnd : Fld Z h0 a "com/example/commitlog/commitlog/store/VerifyResult" "logEnd" "J" (.long (0 : Int64))) (F_a_recoveryEnd : Fld Z h0 a "com/example/commitlog/commitlog/store/VerifyResult" "recoveryEnd" "J" (.long (0 : Int64))) (F_a_records : Fld Z h0 a "com/example/commitlog/commitlog/store/VerifyResult" "records" "J" (.long (0 : Int64))) (F_a_damaged : Fld Z h0 a "com/example/commitlog/commitlog/store/VerifyResult" "damaged" "J" (.long (0 : Int64))) (F_a_units : Fld Z h0 a "com/example/commitlog/commitlog/store/VerifyResult" "units" "J" (.long (0 : Int64))) (F_a_badUnits : Fld Z h0 a "com/example/commitlog/commitlog/store/VerifyResult" "badUnits" "J" (.long (0 : Int64))) (F_a_entries : Fld Z h0 a "com/example/commitlog/commitlog/store/VerifyResult" "entries" "J" (.long (0 : Int64))) (F_a_badEntries : Fld Z h0 a "com/example/commitlog/commitlog/store/VerifyResult" "badEntries" "J" (.long (0 : Int64))) (F_a_closedCleanly : Fld Z h0 a "com/example/commitlog/commitlog/store/VerifyResult" "closedCleanly" "Z" (.int (0 : Int32))) (g_a : n0 ≤ a) :
    MetFree l (⟨"com/example/commitlog/commitlog/store/VerifyResult", "<init>", "(JJJJJJJJJZ)V"⟩ : MethodName) (head1 (Jvm.Cond.code (⟨"com/example/commitlog/commitlog/store/VerifyResult", "<init>", "(JJJJJJJJJZ)V"⟩ : MethodName) prog_85_method_1_code 20 none :: ws) ({ frames := 2, cells := 0, slots := 0, locals := 24 } : Room)) (fun a' U => a' = #[(.ref a), (.long q1), (.long q2), (.long q3), (.long q4), (.long q5), (.long q6), (.long q7), (.long q8), (.long q9), (.int q10)] ∧ Z.Warmed39 U.vm ∧ U.heap = h0) (fun _ _ _ _ _ => True) (fun _ U o U' => ∃ v L, o = .returned v ∧ Q1 Z a q1 q2 q3 q4 q5 q6 q7 q8 q9 q10 h0 n0 v U'.heap L ∧ FrameEnd U o U' L ({ frames := 2, cells := 0, slots := 0, locals := 24 } : Room).cells ({ frames := 2, cells := 0, slots := 0, locals := 24 } : Room).slots) := by
  refine MetFree.of_bodySF (plainFor_of_name pn_1) hisR ?_
  intro p e s m args' below meth c s₁ Bd hml0 hP hK
  obtain ⟨hargs, hZ, hh⟩ := hP
  have hx := Bd.exec
  have hby := Bd.bytes
  have hml : c.maxLocals = 20 := hml0
  have hown : s.vm.findClass "com/example/commitlog/commitlog/store/VerifyResult" = some m.cls := findClass_of_methodNamed Bd.named
  have hnm := (name_of_methodNamed Bd.named Bd.method).1
  have X0 : Stand p l e ({ frames := 2, cells := 0, slots := 0, locals := 24 } : Room) s m args' below meth c s₁ [] 0 0 := Stand.of_body Bd
  have e0 : s₁.heap = h0 := by rw [← hh, Bd.state]; rfl
  have N0 := Fr.nil n0
  obtain ⟨A0, hA0⟩ : ∃ A, A = s₁.setTop (mkF m 0 #[.val (.ref a), .val (.long q1), .second, .val (.long q2), .second, .val (.long q3), .second, .val (.long q4), .second, .val (.long q5), .second, .val (.long q6), .second, .val (.long q7), .second, .val (.long q8), .second, .val (.long q9), .second, .val (.int q10)] []) := ⟨_, rfl⟩
  have P0 : own_Rch p.tables e below A0 (s₁.setTop (mkF m 0 #[.val (.ref a), .val (.long q1), .second, .val (.long q2), .second, .val (.long q3), .second, .val (.long q4), .second, .val (.long q5), .second, .val (.long q6), .second, .val (.long q7), .second, .val (.long q8), .second, .val (.long q9), .second, .val (.int q10)] [])) := fun t k => hA0 ▸ k
  have P00 : own_Rch p.tables e below (s₁.setTop (entryFrame m args' 20)) A0 := fun t k => by rw [hargs]; exact castTop (ef_1 m a q1 q2 q3 q4 q5 q6 q7 q8 q9 q10) (hA0 ▸ k)
  have K0 : Keep h0 h0 [a] := Keep.refl _ _
  have P1 : own_Rch p.tables e below A0 (s₁.setTop (mkF m 1 #[.val (.ref a), .val (.long q1), .second, .val (.long q2), .second, .val (.long q3), .second, .val (.long q4), .second, .val (.long q5), .second, .val (.long q6), .second, .val (.long q7), .second, .val (.long q8), .second, .val (.long q9), .second, .val (.int q10)] [(.ref a)])) := fun t k => P0 t (by
    show Steps p.tables e below (s₁.setTop (mkF m 0 #[.val (.ref a), .val (.long q1), .second, .val (.long q2), .second, .val (.long q3), .second, .val (.long q4), .second, .val (.long q5), .second, .val (.long q6), .second, .val (.long q7), .second, .val (.long q8), .second, .val (.long q9), .second, .val (.int q10)] [])) _
    refine XS.aloadN X0.here hx rfl (hb hby d1_0) rfl rfl ?_
    exact k)
  obtain ⟨_, _, ⟨T2, L2, k2, n2⟩, -, X2, ⟨Lc2, hQ2, l2, y2, z2⟩, st2⟩ := X0.specialBack hx (y := (⟨"java/lang/Record", "<init>", "()V"⟩ : MethodName)) rfl hown (mvT hZ (hw _ (List.mem_of_getElem? (i := 7) rfl))) (mvT hZ (hw _ (List.mem_of_getElem? (i := 8) rfl))) (mvT hZ (hw _ (List.mem_of_getElem? (i := 11) rfl))) (by decide) (backOf (W := 0) (rm2 l Z a0 hw [] a h0 n0 Z0 ) hZ (hw _ (List.mem_of_getElem? (i := 11) rfl)) (hw _ (List.mem_of_getElem? (i := 10) rfl)) (by decide) (by decide)) (g := (mkF m 1 #[.val (.ref a), .val (.long q1), .second, .val (.long q2), .second, .val (.long q3), .second, .val (.long q4), .second, .val (.long q5), .second, .val (.long q6), .second, .val (.long q7), .second, .val (.long q8), .second, .val (.long q9), .second, .val (.int q10)] [(.ref a)])) rfl (by rw [hml]; rfl) (Steps.refl _) (a := a) (argsL := []) (rest := []) (lenOf pd_0 rfl) rfl (by show 2 * 0 + _ ≤ _; exact Nat.le_of_eq rfl) (hb hby d1_1) (fun _ _ => ⟨rfl, e0, (by decide : (0) + 0 ≤ _), (by decide : (0) + 0 ≤ _)⟩)
  dsimp only [Pt.U, Pt.locs, Pt.cells, Pt.slots] at X2 l2 y2 z2 st2 hQ2
  subst l2 y2 z2
  obtain ⟨rfl, N2q, e2⟩ := hQ2
  have N2 := Fr.app N0 N2q
  have P3 : own_Rch p.tables e below A0 (T2.setTop (mkF m 4 #[.val (.ref a), .val (.long q1), .second, .val (.long q2), .second, .val (.long q3), .second, .val (.long q4), .second, .val (.long q5), .second, .val (.long q6), .second, .val (.long q7), .second, .val (.long q8), .second, .val (.long q9), .second, .val (.int q10)] [])) := fun t k => P1 t (st2.trans k)
  have P4 : own_Rch p.tables e below A0 (T2.setTop (mkF m 6 #[.val (.ref a), .val (.long q1), .second, .val (.long q2), .second, .val (.long q3), .second, .val (.long q4), .second, .val (.long q5), .second, .val (.long q6), .second, .val (.long q7), .second, .val (.long q8), .second, .val (.long q9), .second, .val (.int q10)] [(.long q1), (.ref a)])) := fun t k => P3 t (by
    show Steps p.tables e below (T2.setTop (mkF m 4 #[.val (.ref a), .val (.long q1), .second, .val (.long q2), .second, .val (.long q3), .second, .val (.long q4), .second, .val (.long q5), .second, .val (.long q6), .second, .val (.long q7), .second, .val (.long q8), .second, .val (.long q9), .second, .val (.int q10)] [])) _
    refine XS.aloadN X2.here hx rfl (hb hby d1_4) rfl rfl ?_
    show Steps p.tables e below (T2.setTop (mkF m 5 #[.val (.ref a), .val (.long q1), .second, .val (.long q2), .second, .val (.long q3), .second, .val (.long q4), .second, .val (.long q5), .second, .val (.long q6), .second, .val (.long q7), .second, .val (.long q8), .second, .val (.long q9), .second, .val (.int q10)] [(.ref a)])) _
    refine XS.lloadN X2.here hx rfl (hb hby d1_5) rfl ?_
    exact k)
  obtain ⟨T5, h5, X5, e5, W5, st5⟩ := putF X2 hx hZ hown (host := "") (Or.inl (hw _ (List.mem_of_getElem? (i := 15) rfl))) Via.refl e2 F_a_logStart E_a (Or.inr ⟨(hw _ (List.mem_of_getElem? (i := 16) rfl)), rfl, hnm⟩) (hw _ (List.mem_of_getElem? (i := 2) rfl)) (ty := .long) (by decide) rfl rfl (g := (mkF m 6 #[.val (.ref a), .val (.long q1), .second, .val (.long q2), .second, .val (.long q3), .second, .val (.long q4), .second, .val (.long q5), .second, .val (.long q6), .second, .val (.long q7), .second, .val (.long q8), .second, .val (.long q9), .second, .val (.int q10)] [(.long q1), (.ref a)])) rfl rfl (hb hby d1_6)
  have N5 := Fr.snoc X5 N2 g_a
  have Z_6 : n0 ≤ h5.size := Nat.le_trans Z0 (Keep.of_wr W5).1
  have E_7 : Exa Z h5 a "com/example/commitlog/commitlog/store/VerifyResult" := E_a.wr W5
  have F_8 : Fld Z h5 a "com/example/commitlog/commitlog/store/VerifyResult" "logStart" "J" (.long q1) := F_a_logStart.same W5
  have F_9 : Fld Z h5 a "com/example/commitlog/commitlog/store/VerifyResult" "logEnd" "J" (.long (0 : Int64)) := F_a_logEnd.other W5 (Or.inr (slot_ne (Or.inr (hw _ (List.mem_of_getElem? (i := 18) rfl))) (Or.inr (hw _ (List.mem_of_getElem? (i := 16) rfl))) (by decide) (t := .long) (t' := .long) (by decide) (by decide)))
  have F_10 : Fld Z h5 a "com/example/commitlog/commitlog/store/VerifyResult" "recoveryEnd" "J" (.long (0 : Int64)) := F_a_recoveryEnd.other W5 (Or.inr (slot_ne (Or.inr (hw _ (List.mem_of_getElem? (i := 20) rfl))) (Or.inr (hw _ (List.mem_of_getElem? (i := 16) rfl))) (by decide) (t := .long) (t' := .long) (by decide) (by decide)))
  have F_11 : Fld Z h5 a "com/example/commitlog/commitlog/store/VerifyResult" "records" "J" (.long (0 : Int64)) := F_a_records.other W5 (Or.inr (slot_ne (Or.inr (hw _ (List.mem_of_getElem? (i := 22) rfl))) (Or.inr (hw _ (List.mem_of_getElem? (i := 16) rfl))) (by decide) (t := .long) (t' := .long) (by decide) (by decide)))
  have F_12 : Fld Z h5 a "com/example/commitlog/commitlog/store/VerifyResult" "damaged" "J" (.long (0 : Int64)) := F_a_damaged.other W5 (Or.inr (slot_ne (Or.inr (hw _ (List.mem_of_getElem? (i := 24) rfl))) (Or.inr (hw _ (List.mem_of_getElem? (i := 16) rfl))) (by decide) (t := .long) (t' := .long) (by decide) (by decide)))
  have F_13 : Fld Z h5 a "com/example/commitlog/commitlog/store/VerifyResult" "units" "J" (.long (0 : Int64)) := F_a_units.other W5 (Or.inr (slot_ne (Or.inr (hw _ (List.mem_of_getElem? (i := 26) rfl))) (Or.inr (hw _ (List.mem_of_getElem? (i := 16) rfl))) (by decide) (t := .long) (t' := .long) (by decide) (by decide)))
  have F_14 : Fld Z h5 a "com/example/commitlog/commitlog/store/VerifyResult" "badUnits" "J" (.long (0 : Int64)) := F_a_badUnits.other W5 (Or.inr (slot_ne (Or.inr (hw _ (List.mem_of_getElem? (i := 28) rfl))) (Or.inr (hw _ (List.mem_of_getElem? (i := 16) rfl))) (by decide) (t := .long) (t' := .long) (by decide) (by decide)))
  have F_15 : Fld Z h5 a "com/example/commitlog/commitlog/store/VerifyResult" "entries" "J" (.long (0 : Int64)) := F_a_entries.other W5 (Or.inr (slot_ne (Or.inr (hw _ (List.mem_of_getElem? (i := 30) rfl))) (Or.inr (hw _ (List.mem_of_getElem? (i := 16) rfl))) (by decide) (t := .long) (t' := .long) (by decide) (by decide)))
  have F_16 : Fld Z h5 a "com/example/commitlog/commitlog/store/VerifyResult" "badEntries" "J" (.long (0 : Int64)) := F_a_badEntries.other W5 (Or.inr (slot_ne (Or.inr (hw _ (List.mem_of_getElem? (i := 32) rfl))) (Or.inr (hw _ (List.mem_of_getElem? (i := 16) rfl))) (by decide) (t := .long) (t' := .long) (by decide) (by decide)))
  have F_17 : Fld Z h5 a "com/example/commitlog/commitlog/store/VerifyResult" "closedCleanly" "Z" (.int (0 : Int32)) := F_a_closedCleanly.other W5 (Or.inr (slot_ne (Or.inr (hw _ (List.mem_of_getElem? (i := 34) rfl))) (Or.inr (hw _ (List.mem_of_getElem? (i := 16) rfl))) (by decide) (t := .boolean) (t' := .long) (by decide) (by decide)))
  have K_18 : Keep h0 h5 [a] := K0.wr W5 (Or.inl (List.mem_of_getElem? (i := 0) rfl))
  have P19 : own_Rch p.tables e below A0 (T5.setTop (mkF m 9 #[.val (.ref a), .val (.long q1), .second, .val (.long q2), .second, .val (.long q3), .second, .val (.long q4), .second, .val (.long q5), .second, .val (.long q6), .second, .val (.long q7), .second, .val (.long q8), .second, .val (.long q9), .second, .val (.int q10)] [])) := fun t k => P4 t (st5 t k)
  have P20 : own_Rch p.tables e below A0 (T5.setTop (mkF m 11 #[.val (.ref a), .val (.long q1), .second, .val (.long q2), .second, .val (.long q3), .second, .val (.long q4), .second, .val (.long q5), .second, .val (.long q6), .second, .val (.long q7), .second, .val (.long q8), .second, .val (.long q9), .second, .val (.int q10)] [(.long q2), (.ref a)])) := fun t k => P19 t (by
    show Steps p.tables e below (T5.setTop (mkF m 9 #[.val (.ref a), .val (.long q1), .second, .val (.long q2), .second, .val (.long q3), .second, .val (.long q4), .second, .val (.long q5), .second, .val (.long q6), .second, .val (.long q7), .second, .val (.long q8), .second, .val (.long q9), .second, .val (.int q10)] [])) _
    refine XS.aloadN X5.here hx rfl (hb hby d1_9) rfl rfl ?_
    show Steps p.tables e below (T5.setTop (mkF m 10 #[.val (.ref a), .val (.long q1), .second, .val (.long q2), .second, .val (.long q3), .second, .val (.long q4), .second, .val (.long q5), .second, .val (.long q6), .second, .val (.long q7), .second, .val (.long q8), .second, .val (.long q9), .second, .val (.int q10)] [(.ref a)])) _
    refine XS.lloadN X5.here hx rfl (hb hby d1_10) rfl ?_
    exact k)
  obtain ⟨T21, h21, X21, e21, W21, st21⟩ := putF X5 hx hZ hown (host := "") (Or.inl (hw _ (List.mem_of_getElem? (i := 17) rfl))) Via.refl e5 F_9 E_7 (Or.inr ⟨(hw _ (List.mem_of_getElem? (i := 18) rfl)), rfl, hnm⟩) (hw _ (List.mem_of_getElem? (i := 2) rfl)) (ty := .long) (by decide) rfl rfl (g := (mkF m 11 #[.val (.ref a), .val (.long q1), .second, .val (.long q2), .second, .val (.long q3), .second, .val (.long q4), .second, .val (.long q5), .second, .val (.long q6), .second, .val (.long q7), .second, .val (.long q8), .second, .val (.long q9), .second, .val (.int q10)] [(.long q2), (.ref a)])) rfl rfl (hb hby d1_11)
  have N21 := Fr.snoc X21 N5 g_a
  have Z_22 : n0 ≤ h21.size := Nat.le_trans Z_6 (Keep.of_wr W21).1
  have E_23 : Exa Z h21 a "com/example/commitlog/commitlog/store/VerifyResult" := E_7.wr W21
  have F_24 : Fld Z h21 a "com/example/commitlog/commitlog/store/VerifyResult" "logStart" "J" (.long q1) := F_8.other W21 (Or.inr (slot_ne (Or.inr (hw _ (List.mem_of_getElem? (i := 16) rfl))) (Or.inr (hw _ (List.mem_of_getElem? (i := 18) rfl))) (by decide) (t := .long) (t' := .long) (by decide) (by decide)))
  have F_25 : Fld Z h21 a "com/example/commitlog/commitlog/store/VerifyResult" "logEnd" "J" (.long q2) := F_9.same W21
  have F_26 : Fld Z h21 a "com/example/commitlog/commitlog/store/VerifyResult" "recoveryEnd" "J" (.long (0 : Int64)) := F_10.other W21 (Or.inr (slot_ne (Or.inr (hw _ (List.mem_of_getElem? (i := 20) rfl))) (Or.inr (hw _ (List.mem_of_getElem? (i := 18) rfl))) (by decide) (t := .long) (t' := .long) (by decide) (by decide)))
  have F_27 : Fld Z h21 a "com/example/commitlog/commitlog/store/VerifyResult" "records" "J" (.long (0 : Int64)) := F_11.other W21 (Or.inr (slot_ne (Or.inr (hw _ (List.mem_of_getElem? (i := 22) rfl))) (Or.inr (hw _ (List.mem_of_getElem? (i := 18) rfl))) (by decide) (t := .long) (t' := .long) (by decide) (by decide)))
  have F_28 : Fld Z h21 a "com/example/commitlog/commitlog/store/VerifyResult" "damaged" "J" (.long (0 : Int64)) := F_12.other W21 (Or.inr (slot_ne (Or.inr (hw _ (List.mem_of_getElem? (i := 24) rfl))) (Or.inr (hw _ (List.mem_of_getElem? (i := 18) rfl))) (by decide) (t := .long) (t' := .long) (by decide) (by decide)))
  have F_29 : Fld Z h21 a "com/example/commitlog/commitlog/store/VerifyResult" "units" "J" (.long (0 : Int64)) := F_13.other W21 (Or.inr (slot_ne (Or.inr (hw _ (List.mem_of_getElem? (i := 26) rfl))) (Or.inr (hw _ (List.mem_of_getElem? (i := 18) rfl))) (by decide) (t := .long) (t' := .long) (by decide) (by decide)))
  have F_30 : Fld Z h21 a "com/example/commitlog/commitlog/store/VerifyResult" "badUnits" "J" (.long (0 : Int64)) := F_14.other W21 (Or.inr (slot_ne (Or.inr (hw _ (List.mem_of_getElem? (i := 28) rfl))) (Or.inr (hw _ (List.mem_of_getElem? (i := 18) rfl))) (by decide) (t := .long) (t' := .long) (by decide) (by decide)))
  have F_31 : Fld Z h21 a "com/example/commitlog/commitlog/store/VerifyResult" "entries" "J" (.long (0 : Int64)) := F_15.other W21 (Or.inr (slot_ne (Or.inr (hw _ (List.mem_of_getElem? (i := 30) rfl))) (Or.inr (hw _ (List.mem_of_getElem? (i := 18) rfl))) (by decide) (t := .long) (t' := .long) (by decide) (by decide)))
  have F_32 : Fld Z h21 a "com/example/commitlog/commitlog/store/VerifyResult" "badEntries" "J" (.long (0 : Int64)) := F_16.other W21 (Or.inr (slot_ne (Or.inr (hw _ (List.mem_of_getElem? (i := 32) rfl))) (Or.inr (hw _ (List.mem_of_getElem? (i := 18) rfl))) (by decide) (t := .long) (t' := .long) (by decide) (by decide)))
  have F_33 : Fld Z h21 a "com/example/commitlog/commitlog/store/VerifyResult" "closedCleanly" "Z" (.int (0 : Int32)) := F_17.other W21 (Or.inr (slot_ne (Or.inr (hw _ (List.mem_of_getElem? (i := 34) rfl))) (Or.inr (hw _ (List.mem_of_getElem? (i := 18) rfl))) (by decide) (t := .boolean) (t' := .long) (by decide) (by decide)))
  have K_34 : Keep h0 h21 [a] := K_18.wr W21 (Or.inl (List.mem_of_getElem? (i := 0) rfl))
  have P35 : own_Rch p.tables e below A0 (T21.setTop (mkF m 14 #[.val (.ref a), .val (.long q1), .second, .val (.long q2), .second, .val (.long q3), .second, .val (.long q4), .second, .val (.long q5), .second, .val (.long q6), .second, .val (.long q7), .second, .val (.long q8), .second, .val (.long q9), .second, .val (.int q10)] [])) := fun t k => P20 t (st21 t k)
  have P36 : own_Rch p.tables e below A0 (T21.setTop (mkF m 17 #[.val (.ref a), .val (.long q1), .second, .val (.long q2), .second, .val (.long q3), .second, .val (.long q4), .second, .val (.long q5), .second, .val (.long q6), .second, .val (.long q7), .second, .val (.long q8), .second, .val (.long q9), .second, .val (.int q10)] [(.long q3), (.ref a)])) := fun t k => P35 t (by
    show Steps p.tables e below (T21.setTop (mkF m 14 #[.val (.ref a), .val (.long q1), .second, .val (.long q2), .second, .val (.long q3), .second, .val (.long q4), .second, .val (.long q5), .second, .val (.long q6), .second, .val (.long q7), .second, .val (.long q8), .second, .val (.long q9), .second, .val (.int q10)] [])) _
    refine XS.aloadN X21.here hx rfl (hb hby d1_14) rfl rfl ?_
    show Steps p.tables e below (T21.setTop (mkF m 15 #[.val (.ref a), .val (.long q1), .second, .val (.long q2), .second, .val (.long q3), .second, .val (.long q4), .second, .val (.long q5), .second, .val (.long q6), .second, .val (.long q7), .second, .val (.long q8), .second, .val (.long q9), .second, .val (.int q10)] [(.ref a)])) _
    refine XS.lload X21.here hx rfl (hb hby d1_15) rfl ?_
    exact k)
  obtain ⟨T37, h37, X37, e37, W37, st37⟩ := putF X21 hx hZ hown (host := "") (Or.inl (hw _ (List.mem_of_getElem? (i := 19) rfl))) Via.refl e21 F_26 E_23 (Or.inr ⟨(hw _ (List.mem_of_getElem? (i := 20) rfl)), rfl, hnm⟩) (hw _ (List.mem_of_getElem? (i := 2) rfl)) (ty := .long) (by decide) rfl rfl (g := (mkF m 17 #[.val (.ref a), .val (.long q1), .second, .val (.long q2), .second, .val (.long q3), .second, .val (.long q4), .second, .val (.long q5), .second, .val (.long q6), .second, .val (.long q7), .second, .val (.long q8), .second, .val (.long q9), .second, .val (.int q10)] [(.long q3), (.ref a)])) rfl rfl (hb hby d1_17)
  have N37 := Fr.snoc X37 N21 g_a
  have Z_38 : n0 ≤ h37.size := Nat.le_trans Z_22 (Keep.of_wr W37).1
  have E_39 : Exa Z h37 a "com/example/commitlog/commitlog/store/VerifyResult" := E_23.wr W37
  have F_40 : Fld Z h37 a "com/example/commitlog/commitlog/store/VerifyResult" "logStart" "J" (.long q1) := F_24.other W37 (Or.inr (slot_ne (Or.inr (hw _ (List.mem_of_getElem? (i := 16) rfl))) (Or.inr (hw _ (List.mem_of_getElem? (i := 20) rfl))) (by decide) (t := .long) (t' := .long) (by decide) (by decide)))
  have F_41 : Fld Z h37 a "com/example/commitlog/commitlog/store/VerifyResult" "logEnd" "J" (.long q2) := F_25.other W37 (Or.inr (slot_ne (Or.inr (hw _ (List.mem_of_getElem? (i := 18) rfl))) (Or.inr (hw _ (List.mem_of_getElem? (i := 20) rfl))) (by decide) (t := .long) (t' := .long) (by decide) (by decide)))
  have F_42 : Fld Z h37 a "com/example/commitlog/commitlog/store/VerifyResult" "recoveryEnd" "J" (.long q3) := F_26.same W37
  have F_43 : Fld Z h37 a "com/example/commitlog/commitlog/store/VerifyResult" "records" "J" (.long (0 : Int64)) := F_27.other W37 (Or.inr (slot_ne (Or.inr (hw _ (List.mem_of_getElem? (i := 22) rfl))) (Or.inr (hw _ (List.mem_of_getElem? (i := 20) rfl))) (by decide) (t := .long) (t' := .long) (by decide) (by decide)))
  have F_44 : Fld Z h37 a "com/example/commitlog/commitlog/store/VerifyResult" "damaged" "J" (.long (0 : Int64)) := F_28.other W37 (Or.inr (slot_ne (Or.inr (hw _ (List.mem_of_getElem? (i := 24) rfl))) (Or.inr (hw _ (List.mem_of_getElem? (i := 20) rfl))) (by decide) (t := .long) (t' := .long) (by decide) (by decide)))
  have F_45 : Fld Z h37 a "com/example/commitlog/commitlog/store/VerifyResult" "units" "J" (.long (0 : Int64)) := F_29.other W37 (Or.inr (slot_ne (Or.inr (hw _ (List.mem_of_getElem? (i := 26) rfl))) (Or.inr (hw _ (List.mem_of_getElem? (i := 20) rfl))) (by decide) (t := .long) (t' := .long) (by decide) (by decide)))
  have F_46 : Fld Z h37 a "com/example/commitlog/commitlog/store/VerifyResult" "badUnits" "J" (.long (0 : Int64)) := F_30.other W37 (Or.inr (slot_ne (Or.inr (hw _ (List.mem_of_getElem? (i := 28) rfl))) (Or.inr (hw _ (List.mem_of_getElem? (i := 20) rfl))) (by decide) (t := .long) (t' := .long) (by decide) (by decide)))
  have F_47 : Fld Z h37 a "com/example/commitlog/commitlog/store/VerifyResult" "entries" "J" (.long (0 : Int64)) := F_31.other W37 (Or.inr (slot_ne (Or.inr (hw _ (List.mem_of_getElem? (i := 30) rfl))) (Or.inr (hw _ (List.mem_of_getElem? (i := 20) rfl))) (by decide) (t := .long) (t' := .long) (by decide) (by decide)))
  have F_48 : Fld Z h37 a "com/example/commitlog/commitlog/store/VerifyResult" "badEntries" "J" (.long (0 : Int64)) := F_32.other W37 (Or.inr (slot_ne (Or.inr (hw _ (List.mem_of_getElem? (i := 32) rfl))) (Or.inr (hw _ (List.mem_of_getElem? (i := 20) rfl))) (by decide) (t := .long) (t' := .long) (by decide) (by decide)))
  have F_49 : Fld Z h37 a "com/example/commitlog/commitlog/store/VerifyResult" "closedCleanly" "Z" (.int (0 : Int32)) := F_33.other W37 (Or.inr (slot_ne (Or.inr (hw _ (List.mem_of_getElem? (i := 34) rfl))) (Or.inr (hw _ (List.mem_of_getElem? (i := 20) rfl))) (by decide) (t := .boolean) (t' := .long) (by decide) (by decide)))
  have K_50 : Keep h0 h37 [a] := K_34.wr W37 (Or.inl (List.mem_of_getElem? (i := 0) rfl))
  have P51 : own_Rch p.tables e below A0 (T37.setTop (mkF m 20 #[.val (.ref a), .val (.long q1), .second, .val (.long q2), .second, .val (.long q3), .second, .val (.long q4), .second, .val (.long q5), .second, .val (.long q6), .second, .val (.long q7), .second, .val (.long q8), .second, .val (.long q9), .second, .val (.int q10)] [])) := fun t k => P36 t (st37 t k)
  have P52 : own_Rch p.tables e below A0 (T37.setTop (mkF m 23 #[.val (.ref a), .val (.long q1), .second, .val (.long q2), .second, .val (.long q3), .second, .val (.long q4), .second, .val (.long q5), .second, .val (.long q6), .second, .val (.long q7), .second, .val (.long q8), .second, .val (.long q9), .second, .val (.int q10)] [(.long q4), (.ref a)])) := fun t k => P51 t (by
    show Steps p.tables e below (T37.setTop (mkF m 20 #[.val (.ref a), .val (.long q1), .second, .val (.long q2), .second, .val (.long q3), .second, .val (.long q4), .second, .val (.long q5), .second, .val (.long q6), .second, .val (.long q7), .second, .val (.long q8), .second, .val (.long q9), .second, .val (.int q10)] [])) _
    refine XS.aloadN X37.here hx rfl (hb hby d1_20) rfl rfl ?_
    show Steps p.tables e below (T37.setTop (mkF m 21 #[.val (.ref a), .val (.long q1), .second, .val (.long q2), .second, .val (.long q3), .second, .val (.long q4), .second, .val (.long q5), .second, .val (.long q6), .second, .val (.long q7), .second, .val (.long q8), .second, .val (.long q9), .second, .val (.int q10)] [(.ref a)])) _
    refine XS.lload X37.here hx rfl (hb hby d1_21) rfl ?_
    exact k)
  obtain ⟨T53, h53, X53, e53, W53, st53⟩ := putF X37 hx hZ hown (host := "") (Or.inl (hw _ (List.mem_of_getElem? (i := 21) rfl))) Via.refl e37 F_43 E_39 (Or.inr ⟨(hw _ (List.mem_of_getElem? (i := 22) rfl)), rfl, hnm⟩) (hw _ (List.mem_of_getElem? (i := 2) rfl)) (ty := .long) (by decide) rfl rfl (g := (mkF m 23 #[.val (.ref a), .val (.long q1), .second, .val (.long q2), .second, .val (.long q3), .second, .val (.long q4), .second, .val (.long q5), .second, .val (.long q6), .second, .val (.long q7), .second, .val (.long q8), .second, .val (.long q9), .second, .val (.int q10)] [(.long q4), (.ref a)])) rfl rfl (hb hby d1_23)
  have N53 := Fr.snoc X53 N37 g_a
  have Z_54 : n0 ≤ h53.size := Nat.le_trans Z_38 (Keep.of_wr W53).1
  have E_55 : Exa Z h53 a "com/example/commitlog/commitlog/store/VerifyResult" := E_39.wr W53
  have F_56 : Fld Z h53 a "com/example/commitlog/commitlog/store/VerifyResult" "logStart" "J" (.long q1) := F_40.other W53 (Or.inr (slot_ne (Or.inr (hw _ (List.mem_of_getElem? (i := 16) rfl))) (Or.inr (hw _ (List.mem_of_getElem? (i := 22) rfl))) (by decide) (t := .long) (t' := .long) (by decide) (by decide)))
  have F_57 : Fld Z h53 a "com/example/commitlog/commitlog/store/VerifyResult" "logEnd" "J" (.long q2) := F_41.other W53 (Or.inr (slot_ne (Or.inr (hw _ (List.mem_of_getElem? (i := 18) rfl))) (Or.inr (hw _ (List.mem_of_getElem? (i := 22) rfl))) (by decide) (t := .long) (t' := .long) (by decide) (by decide)))
  have F_58 : Fld Z h53 a "com/example/commitlog/commitlog/store/VerifyResult" "recoveryEnd" "J" (.long q3) := F_42.other W53 (Or.inr (slot_ne (Or.inr (hw _ (List.mem_of_getElem? (i := 20) rfl))) (Or.inr (hw _ (List.mem_of_getElem? (i := 22) rfl))) (by decide) (t := .long) (t' := .long) (by decide) (by decide)))
  have F_59 : Fld Z h53 a "com/example/commitlog/commitlog/store/VerifyResult" "records" "J" (.long q4) := F_43.same W53
  have F_60 : Fld Z h53 a "com/example/commitlog/commitlog/store/VerifyResult" "damaged" "J" (.long (0 : Int64)) := F_44.other W53 (Or.inr (slot_ne (Or.inr (hw _ (List.mem_of_getElem? (i := 24) rfl))) (Or.inr (hw _ (List.mem_of_getElem? (i := 22) rfl))) (by decide) (t := .long) (t' := .long) (by decide) (by decide)))
  have F_61 : Fld Z h53 a "com/example/commitlog/commitlog/store/VerifyResult" "units" "J" (.long (0 : Int64)) := F_45.other W53 (Or.inr (slot_ne (Or.inr (hw _ (List.mem_of_getElem? (i := 26) rfl))) (Or.inr (hw _ (List.mem_of_getElem? (i := 22) rfl))) (by decide) (t := .long) (t' := .long) (by decide) (by decide)))
  have F_62 : Fld Z h53 a "com/example/commitlog/commitlog/store/VerifyResult" "badUnits" "J" (.long (0 : Int64)) := F_46.other W53 (Or.inr (slot_ne (Or.inr (hw _ (List.mem_of_getElem? (i := 28) rfl))) (Or.inr (hw _ (List.mem_of_getElem? (i := 22) rfl))) (by decide) (t := .long) (t' := .long) (by decide) (by decide)))
  have F_63 : Fld Z h53 a "com/example/commitlog/commitlog/store/VerifyResult" "entries" "J" (.long (0 : Int64)) := F_47.other W53 (Or.inr (slot_ne (Or.inr (hw _ (List.mem_of_getElem? (i := 30) rfl))) (Or.inr (hw _ (List.mem_of_getElem? (i := 22) rfl))) (by decide) (t := .long) (t' := .long) (by decide) (by decide)))
  have F_64 : Fld Z h53 a "com/example/commitlog/commitlog/store/VerifyResult" "badEntries" "J" (.long (0 : Int64)) := F_48.other W53 (Or.inr (slot_ne (Or.inr (hw _ (List.mem_of_getElem? (i := 32) rfl))) (Or.inr (hw _ (List.mem_of_getElem? (i := 22) rfl))) (by decide) (t := .long) (t' := .long) (by decide) (by decide)))
  have F_65 : Fld Z h53 a "com/example/commitlog/commitlog/store/VerifyResult" "closedCleanly" "Z" (.int (0 : Int32)) := F_49.other W53 (Or.inr (slot_ne (Or.inr (hw _ (List.mem_of_getElem? (i := 34) rfl))) (Or.inr (hw _ (List.mem_of_getElem? (i := 22) rfl))) (by decide) (t := .boolean) (t' := .long) (by decide) (by decide)))
  have K_66 : Keep h0 h53 [a] := K_50.wr W53 (Or.inl (List.mem_of_getElem? (i := 0) rfl))
  have P67 : own_Rch p.tables e below A0 (T53.setTop (mkF m 26 #[.val (.ref a), .val (.long q1), .second, .val (.long q2), .second, .val (.long q3), .second, .val (.long q4), .second, .val (.long q5), .second, .val (.long q6), .second, .val (.long q7), .second, .val (.long q8), .second, .val (.long q9), .second, .val (.int q10)] [])) := fun t k => P52 t (st53 t k)
  have P68 : own_Rch p.tables e below A0 (T53.setTop (mkF m 29 #[.val (.ref a), .val (.long q1), .second, .val (.long q2), .second, .val (.long q3), .second, .val (.long q4), .second, .val (.long q5), .second, .val (.long q6), .second, .val (.long q7), .second, .val (.long q8), .second, .val (.long q9), .second, .val (.int q10)] [(.long q5), (.ref a)])) := fun t k => P67 t (by
    show Steps p.tables e below (T53.setTop (mkF m 26 #[.val (.ref a), .val (.long q1), .second, .val (.long q2), .second, .val (.long q3), .second, .val (.long q4), .second, .val (.long q5), .second, .val (.long q6), .second, .val (.long q7), .second, .val (.long q8), .second, .val (.long q9), .second, .val (.int q10)] [])) _
    refine XS.aloadN X53.here hx rfl (hb hby d1_26) rfl rfl ?_
    show Steps p.tables e below (T53.setTop (mkF m 27 #[.val (.ref a), .val (.long q1), .second, .val (.long q2), .second, .val (.long q3), .second, .val (.long q4), .second, .val (.long q5), .second, .val (.long q6), .second, .val (.long q7), .second, .val (.long q8), .second, .val (.long q9), .second, .val (.int q10)] [(.ref a)])) _
    refine XS.lload X53.here hx rfl (hb hby d1_27) rfl ?_
    exact k)
  obtain ⟨T69, h69, X69, e69, W69, st69⟩ := putF X53 hx hZ hown (host := "") (Or.inl (hw _ (List.mem_of_getElem? (i := 23) rfl))) Via.refl e53 F_60 E_55 (Or.inr ⟨(hw _ (List.mem_of_getElem? (i := 24) rfl)), rfl, hnm⟩) (hw _ (List.mem_of_getElem? (i := 2) rfl)) (ty := .long) (by decide) rfl rfl (g := (mkF m 29 #[.val (.ref a), .val (.long q1), .second, .val (.long q2), .second, .val (.long q3), .second, .val (.long q4), .second, .val (.long q5), .second, .val (.long q6), .second, .val (.long q7), .second, .val (.long q8), .second, .val (.long q9), .second, .val (.int q10)] [(.long q5), (.ref a)])) rfl rfl (hb hby d1_29)
  have N69 := Fr.snoc X69 N53 g_a
  have Z_70 : n0 ≤ h69.size := Nat.le_trans Z_54 (Keep.of_wr W69).1
  have E_71 : Exa Z h69 a "com/example/commitlog/commitlog/store/VerifyResult" := E_55.wr W69
  have F_72 : Fld Z h69 a "com/example/commitlog/commitlog/store/VerifyResult" "logStart" "J" (.long q1) := F_56.other W69 (Or.inr (slot_ne (Or.inr (hw _ (List.mem_of_getElem? (i := 16) rfl))) (Or.inr (hw _ (List.mem_of_getElem? (i := 24) rfl))) (by decide) (t := .long) (t' := .long) (by decide) (by decide)))
  have F_73 : Fld Z h69 a "com/example/commitlog/commitlog/store/VerifyResult" "logEnd" "J" (.long q2) := F_57.other W69 (Or.inr (slot_ne (Or.inr (hw _ (List.mem_of_getElem? (i := 18) rfl))) (Or.inr (hw _ (List.mem_of_getElem? (i := 24) rfl))) (by decide) (t := .long) (t' := .long) (by decide) (by decide)))
  have F_74 : Fld Z h69 a "com/example/commitlog/commitlog/store/VerifyResult" "recoveryEnd" "J" (.long q3) := F_58.other W69 (Or.inr (slot_ne (Or.inr (hw _ (List.mem_of_getElem? (i := 20) rfl))) (Or.inr (hw _ (List.mem_of_getElem? (i := 24) rfl))) (by decide) (t := .long) (t' := .long) (by decide) (by decide)))
  have F_75 : Fld Z h69 a "com/example/commitlog/commitlog/store/VerifyResult" "records" "J" (.long q4) := F_59.other W69 (Or.inr (slot_ne (Or.inr (hw _ (List.mem_of_getElem? (i := 22) rfl))) (Or.inr (hw _ (List.mem_of_getElem? (i := 24) rfl))) (by decide) (t := .long) (t' := .long) (by decide) (by decide)))
  have F_76 : Fld Z h69 a "com/example/commitlog/commitlog/store/VerifyResult" "damaged" "J" (.long q5) := F_60.same W69
  have F_77 : Fld Z h69 a "com/example/commitlog/commitlog/store/VerifyResult" "units" "J" (.long (0 : Int64)) := F_61.other W69 (Or.inr (slot_ne (Or.inr (hw _ (List.mem_of_getElem? (i := 26) rfl))) (Or.inr (hw _ (List.mem_of_getElem? (i := 24) rfl))) (by decide) (t := .long) (t' := .long) (by decide) (by decide)))
  have F_78 : Fld Z h69 a "com/example/commitlog/commitlog/store/VerifyResult" "badUnits" "J" (.long (0 : Int64)) := F_62.other W69 (Or.inr (slot_ne (Or.inr (hw _ (List.mem_of_getElem? (i := 28) rfl))) (Or.inr (hw _ (List.mem_of_getElem? (i := 24) rfl))) (by decide) (t := .long) (t' := .long) (by decide) (by decide)))
  have F_79 : Fld Z h69 a "com/example/commitlog/commitlog/store/VerifyResult" "entries" "J" (.long (0 : Int64)) := F_63.other W69 (Or.inr (slot_ne (Or.inr (hw _ (List.mem_of_getElem? (i := 30) rfl))) (Or.inr (hw _ (List.mem_of_getElem? (i := 24) rfl))) (by decide) (t := .long) (t' := .long) (by decide) (by decide)))
  have F_80 : Fld Z h69 a "com/example/commitlog/commitlog/store/VerifyResult" "badEntries" "J" (.long (0 : Int64)) := F_64.other W69 (Or.inr (slot_ne (Or.inr (hw _ (List.mem_of_getElem? (i := 32) rfl))) (Or.inr (hw _ (List.mem_of_getElem? (i := 24) rfl))) (by decide) (t := .long) (t' := .long) (by decide) (by decide)))
  have F_81 : Fld Z h69 a "com/example/commitlog/commitlog/store/VerifyResult" "closedCleanly" "Z" (.int (0 : Int32)) := F_65.other W69 (Or.inr (slot_ne (Or.inr (hw _ (List.mem_of_getElem? (i := 34) rfl))) (Or.inr (hw _ (List.mem_of_getElem? (i := 24) rfl))) (by decide) (t := .boolean) (t' := .long) (by decide) (by decide)))
  have K_82 : Keep h0 h69 [a] := K_66.wr W69 (Or.inl (List.mem_of_getElem? (i := 0) rfl))
  have P83 : own_Rch p.tables e below A0 (T69.setTop (mkF m 32 #[.val (.ref a), .val (.long q1), .second, .val (.long q2), .second, .val (.long q3), .second, .val (.long q4), .second, .val (.long q5), .second, .val (.long q6), .second, .val (.long q7), .second, .val (.long q8), .second, .val (.long q9), .second, .val (.int q10)] [])) := fun t k => P68 t (st69 t k)
  have P84 : own_Rch p.tables e below A0 (T69.setTop (mkF m 35 #[.val (.ref a), .val (.long q1), .second, .val (.long q2), .second, .val (.long q3), .second, .val (.long q4), .second, .val (.long q5), .second, .val (.long q6), .second, .val (.long q7), .second, .val (.long q8), .second, .val (.long q9), .second, .val (.int q10)] [(.long q6), (.ref a)])) := fun t k => P83 t (by
    show Steps p.tables e below (T69.setTop (mkF m 32 #[.val (.ref a), .val (.long q1), .second, .val (.long q2), .second, .val (.long q3), .second, .val (.long q4), .second, .val (.long q5), .second, .val (.long q6), .second, .val (.long q7), .second, .val (.long q8), .second, .val (.long q9), .second, .val (.int q10)] [])) _
    refine XS.aloadN X69.here hx rfl (hb hby d1_32) rfl rfl ?_
    show Steps p.tables e below (T69.setTop (mkF m 33 #[.val (.ref a), .val (.long q1), .second, .val (.long q2), .second, .val (.long q3), .second, .val (.long q4), .second, .val (.long q5), .second, .val (.long q6), .second, .val (.long q7), .second, .val (.long q8), .second, .val (.long q9), .second, .val (.int q10)] [(.ref a)])) _
    refine XS.lload X69.here hx rfl (hb hby d1_33) rfl ?_
    exact k)
  obtain ⟨T85, h85, X85, e85, W85, st85⟩ := putF X69 hx hZ hown (host := "") (Or.inl (hw _ (List.mem_of_getElem? (i := 25) rfl))) Via.refl e69 F_77 E_71 (Or.inr ⟨(hw _ (List.mem_of_getElem? (i := 26) rfl)), rfl, hnm⟩) (hw _ (List.mem_of_getElem? (i := 2) rfl)) (ty := .long) (by decide) rfl rfl (g := (mkF m 35 #[.val (.ref a), .val (.long q1), .second, .val (.long q2), .second, .val (.long q3), .second, .val (.long q4), .second, .val (.long q5), .second, .val (.long q6), .second, .val (.long q7), .second, .val (.long q8), .second, .val (.long q9), .second, .val (.int q10)] [(.long q6), (.ref a)])) rfl rfl (hb hby d1_35)
  have N85 := Fr.snoc X85 N69 g_a
  have Z_86 : n0 ≤ h85.size := Nat.le_trans Z_70 (Keep.of_wr W85).1
  have E_87 : Exa Z h85 a "com/example/commitlog/commitlog/store/VerifyResult" := E_71.wr W85
  have F_88 : Fld Z h85 a "com/example/commitlog/commitlog/store/VerifyResult" "logStart" "J" (.long q1) := F_72.other W85 (Or.inr (slot_ne (Or.inr (hw _ (List.mem_of_getElem? (i := 16) rfl))) (Or.inr (hw _ (List.mem_of_getElem? (i := 26) rfl))) (by decide) (t := .long) (t' := .long) (by decide) (by decide)))
  have F_89 : Fld Z h85 a "com/example/commitlog/commitlog/store/VerifyResult" "logEnd" "J" (.long q2) := F_73.other W85 (Or.inr (slot_ne (Or.inr (hw _ (List.mem_of_getElem? (i := 18) rfl))) (Or.inr (hw _ (List.mem_of_getElem? (i := 26) rfl))) (by decide) (t := .long) (t' := .long) (by decide) (by decide)))
  have F_90 : Fld Z h85 a "com/example/commitlog/commitlog/store/VerifyResult" "recoveryEnd" "J" (.long q3) := F_74.other W85 (Or.inr (slot_ne (Or.inr (hw _ (List.mem_of_getElem? (i := 20) rfl))) (Or.inr (hw _ (List.mem_of_getElem? (i := 26) rfl))) (by decide) (t := .long) (t' := .long) (by decide) (by decide)))
  have F_91 : Fld Z h85 a "com/example/commitlog/commitlog/store/VerifyResult" "records" "J" (.long q4) := F_75.other W85 (Or.inr (slot_ne (Or.inr (hw _ (List.mem_of_getElem? (i := 22) rfl))) (Or.inr (hw _ (List.mem_of_getElem? (i := 26) rfl))) (by decide) (t := .long) (t' := .long) (by decide) (by decide)))
  have F_92 : Fld Z h85 a "com/example/commitlog/commitlog/store/VerifyResult" "damaged" "J" (.long q5) := F_76.other W85 (Or.inr (slot_ne (Or.inr (hw _ (List.mem_of_getElem? (i := 24) rfl))) (Or.inr (hw _ (List.mem_of_getElem? (i := 26) rfl))) (by decide) (t := .long) (t' := .long) (by decide) (by decide)))
  have F_93 : Fld Z h85 a "com/example/commitlog/commitlog/store/VerifyResult" "units" "J" (.long q6) := F_77.same W85
  have F_94 : Fld Z h85 a "com/example/commitlog/commitlog/store/VerifyResult" "badUnits" "J" (.long (0 : Int64)) := F_78.other W85 (Or.inr (slot_ne (Or.inr (hw _ (List.mem_of_getElem? (i := 28) rfl))) (Or.inr (hw _ (List.mem_of_getElem? (i := 26) rfl))) (by decide) (t := .long) (t' := .long) (by decide) (by decide)))
  have F_95 : Fld Z h85 a "com/example/commitlog/commitlog/store/VerifyResult" "entries" "J" (.long (0 : Int64)) := F_79.other W85 (Or.inr (slot_ne (Or.inr (hw _ (List.mem_of_getElem? (i := 30) rfl))) (Or.inr (hw _ (List.mem_of_getElem? (i := 26) rfl))) (by decide) (t := .long) (t' := .long) (by decide) (by decide)))
  have F_96 : Fld Z h85 a "com/example/commitlog/commitlog/store/VerifyResult" "badEntries" "J" (.long (0 : Int64)) := F_80.other W85 (Or.inr (slot_ne (Or.inr (hw _ (List.mem_of_getElem? (i := 32) rfl))) (Or.inr (hw _ (List.mem_of_getElem? (i := 26) rfl))) (by decide) (t := .long) (t' := .long) (by decide) (by decide)))
  have F_97 : Fld Z h85 a "com/example/commitlog/commitlog/store/VerifyResult" "closedCleanly" "Z" (.int (0 : Int32)) := F_81.other W85 (Or.inr (slot_ne (Or.inr (hw _ (List.mem_of_getElem? (i := 34) rfl))) (Or.inr (hw _ (List.mem_of_getElem? (i := 26) rfl))) (by decide) (t := .boolean) (t' := .long) (by decide) (by decide)))
  have K_98 : Keep h0 h85 [a] := K_82.wr W85 (Or.inl (List.mem_of_getElem? (i := 0) rfl))
  have P99 : own_Rch p.tables e below A0 (T85.setTop (mkF m 38 #[.val (.ref a), .val (.long q1), .second, .val (.long q2), .second, .val (.long q3), .second, .val (.long q4), .second, .val (.long q5), .second, .val (.long q6), .second, .val (.long q7), .second, .val (.long q8), .second, .val (.long q9), .second, .val (.int q10)] [])) := fun t k => P84 t (st85 t k)
  have P100 : own_Rch p.tables e below A0 (T85.setTop (mkF m 41 #[.val (.ref a), .val (.long q1), .second, .val (.long q2), .second, .val (.long q3), .second, .val (.long q4), .second, .val (.long q5), .second, .val (.long q6), .second, .val (.long q7), .second, .val (.long q8), .second, .val (.long q9), .second, .val (.int q10)] [(.long q7), (.ref a)])) := fun t k => P99 t (by
    show Steps p.tables e below (T85.setTop (mkF m 38 #[.val (.ref a), .val (.long q1), .second, .val (.long q2), .second, .val (.long q3), .second, .val (.long q4), .second, .val (.long q5), .second, .val (.long q6), .second, .val (.long q7), .second, .val (.long q8), .second, .val (.long q9), .second, .val (.int q10)] [])) _
    refine XS.aloadN X85.here hx rfl (hb hby d1_38) rfl rfl ?_
    show Steps p.tables e below (T85.setTop (mkF m 39 #[.val (.ref a), .val (.long q1), .second, .val (.long q2), .second, .val (.long q3), .second, .val (.long q4), .second, .val (.long q5), .second, .val (.long q6), .second, .val (.long q7), .second, .val (.long q8), .second, .val (.long q9), .second, .val (.int q10)] [(.ref a)])) _
    refine XS.lload X85.here hx rfl (hb hby d1_39) rfl ?_
    exact k)
  obtain ⟨T101, h101, X101, e101, W101, st101⟩ := putF X85 hx hZ hown (host := "") (Or.inl (hw _ (List.mem_of_getElem? (i := 27) rfl))) Via.refl e85 F_94 E_87 (Or.inr ⟨(hw _ (List.mem_of_getElem? (i := 28) rfl)), rfl, hnm⟩) (hw _ (List.mem_of_getElem? (i := 2) rfl)) (ty := .long) (by decide) rfl rfl (g := (mkF m 41 #[.val (.ref a), .val (.long q1), .second, .val (.long q2), .second, .val (.long q3), .second, .val (.long q4), .second, .val (.long q5), .second, .val (.long q6), .second, .val (.long q7), .second, .val (.long q8), .second, .val (.long q9), .second, .val (.int q10)] [(.long q7), (.ref a)])) rfl rfl (hb hby d1_41)
  have N101 := Fr.snoc X101 N85 g_a
  have Z_102 : n0 ≤ h101.size := Nat.le_trans Z_86 (Keep.of_wr W101).1
  have E_103 : Exa Z h101 a "com/example/commitlog/commitlog/store/VerifyResult" := E_87.wr W101
  have F_104 : Fld Z h101 a "com/example/commitlog/commitlog/store/VerifyResult" "logStart" "J" (.long q1) := F_88.other W101 (Or.inr (slot_ne (Or.inr (hw _ (List.mem_of_getElem? (i := 16) rfl))) (Or.inr (hw _ (List.mem_of_getElem? (i := 28) rfl))) (by decide) (t := .long) (t' := .long) (by decide) (by decide)))
  have F_105 : Fld Z h101 a "com/example/commitlog/commitlog/store/VerifyResult" "logEnd" "J" (.long q2) := F_89.other W101 (Or.inr (slot_ne (Or.inr (hw _ (List.mem_of_getElem? (i := 18) rfl))) (Or.inr (hw _ (List.mem_of_getElem? (i := 28) rfl))) (by decide) (t := .long) (t' := .long) (by decide) (by decide)))
  have F_106 : Fld Z h101 a "com/example/commitlog/commitlog/store/VerifyResult" "recoveryEnd" "J" (.long q3) := F_90.other W101 (Or.inr (slot_ne (Or.inr (hw _ (List.mem_of_getElem? (i := 20) rfl))) (Or.inr (hw _ (List.mem_of_getElem? (i := 28) rfl))) (by decide) (t := .long) (t' := .long) (by decide) (by decide)))
  have F_107 : Fld Z h101 a "com/example/commitlog/commitlog/store/VerifyResult" "records" "J" (.long q4) := F_91.other W101 (Or.inr (slot_ne (Or.inr (hw _ (List.mem_of_getElem? (i := 22) rfl))) (Or.inr (hw _ (List.mem_of_getElem? (i := 28) rfl))) (by decide) (t := .long) (t' := .long) (by decide) (by decide)))
  have F_108 : Fld Z h101 a "com/example/commitlog/commitlog/store/VerifyResult" "damaged" "J" (.long q5) := F_92.other W101 (Or.inr (slot_ne (Or.inr (hw _ (List.mem_of_getElem? (i := 24) rfl))) (Or.inr (hw _ (List.mem_of_getElem? (i := 28) rfl))) (by decide) (t := .long) (t' := .long) (by decide) (by decide)))
  have F_109 : Fld Z h101 a "com/example/commitlog/commitlog/store/VerifyResult" "units" "J" (.long q6) := F_93.other W101 (Or.inr (slot_ne (Or.inr (hw _ (List.mem_of_getElem? (i := 26) rfl))) (Or.inr (hw _ (List.mem_of_getElem? (i := 28) rfl))) (by decide) (t := .long) (t' := .long) (by decide) (by decide)))
  have F_110 : Fld Z h101 a "com/example/commitlog/commitlog/store/VerifyResult" "badUnits" "J" (.long q7) := F_94.same W101
  have F_111 : Fld Z h101 a "com/example/commitlog/commitlog/store/VerifyResult" "entries" "J" (.long (0 : Int64)) := F_95.other W101 (Or.inr (slot_ne (Or.inr (hw _ (List.mem_of_getElem? (i := 30) rfl))) (Or.inr (hw _ (List.mem_of_getElem? (i := 28) rfl))) (by decide) (t := .long) (t' := .long) (by decide) (by decide)))
  have F_112 : Fld Z h101 a "com/example/commitlog/commitlog/store/VerifyResult" "badEntries" "J" (.long (0 : Int64)) := F_96.other W101 (Or.inr (slot_ne (Or.inr (hw _ (List.mem_of_getElem? (i := 32) rfl))) (Or.inr (hw _ (List.mem_of_getElem? (i := 28) rfl))) (by decide) (t := .long) (t' := .long) (by decide) (by decide)))
  have F_113 : Fld Z h101 a "com/example/commitlog/commitlog/store/VerifyResult" "closedCleanly" "Z" (.int (0 : Int32)) := F_97.other W101 (Or.inr (slot_ne (Or.inr (hw _ (List.mem_of_getElem? (i := 34) rfl))) (Or.inr (hw _ (List.mem_of_getElem? (i := 28) rfl))) (by decide) (t := .boolean) (t' := .long) (by decide) (by decide)))
  have K_114 : Keep h0 h101 [a] := K_98.wr W101 (Or.inl (List.mem_of_getElem? (i := 0) rfl))
  have P115 : own_Rch p.tables e below A0 (T101.setTop (mkF m 44 #[.val (.ref a), .val (.long q1), .second, .val (.long q2), .second, .val (.long q3), .second, .val (.long q4), .second, .val (.long q5), .second, .val (.long q6), .second, .val (.long q7), .second, .val (.long q8), .second, .val (.long q9), .second, .val (.int q10)] [])) := fun t k => P100 t (st101 t k)
  have P116 : own_Rch p.tables e below A0 (T101.setTop (mkF m 47 #[.val (.ref a), .val (.long q1), .second, .val (.long q2), .second, .val (.long q3), .second, .val (.long q4), .second, .val (.long q5), .second, .val (.long q6), .second, .val (.long q7), .second, .val (.long q8), .second, .val (.long q9), .second, .val (.int q10)] [(.long q8), (.ref a)])) := fun t k => P115 t (by
    show Steps p.tables e below (T101.setTop (mkF m 44 #[.val (.ref a), .val (.long q1), .second, .val (.long q2), .second, .val (.long q3), .second, .val (.long q4), .second, .val (.long q5), .second, .val (.long q6), .second, .val (.long q7), .second, .val (.long q8), .second, .val (.long q9), .second, .val (.int q10)] [])) _
    refine XS.aloadN X101.here hx rfl (hb hby d1_44) rfl rfl ?_
    show Steps p.tables e below (T101.setTop (mkF m 45 #[.val (.ref a), .val (.long q1), .second, .val (.long q2), .second, .val (.long q3), .second, .val (.long q4), .second, .val (.long q5), .second, .val (.long q6), .second, .val (.long q7), .second, .val (.long q8), .second, .val (.long q9), .second, .val (.int q10)] [(.ref a)])) _
    refine XS.lload X101.here hx rfl (hb hby d1_45) rfl ?_
    exact k)
  obtain ⟨T117, h117, X117, e117, W117, st117⟩ := putF X101 hx hZ hown (host := "") (Or.inl (hw _ (List.mem_of_getElem? (i := 29) rfl))) Via.refl e101 F_111 E_103 (Or.inr ⟨(hw _ (List.mem_of_getElem? (i := 30) rfl)), rfl, hnm⟩) (hw _ (List.mem_of_getElem? (i := 2) rfl)) (ty := .long) (by decide) rfl rfl (g := (mkF m 47 #[.val (.ref a), .val (.long q1), .second, .val (.long q2), .second, .val (.long q3), .second, .val (.long q4), .second, .val (.long q5), .second, .val (.long q6), .second, .val (.long q7), .second, .val (.long q8), .second, .val (.long q9), .second, .val (.int q10)] [(.long q8), (.ref a)])) rfl rfl (hb hby d1_47)
  have N117 := Fr.snoc X117 N101 g_a
  have Z_118 : n0 ≤ h117.size := Nat.le_trans Z_102 (Keep.of_wr W117).1
  have E_119 : Exa Z h117 a "com/example/commitlog/commitlog/store/VerifyResult" := E_103.wr W117
  have F_120 : Fld Z h117 a "com/example/commitlog/commitlog/store/VerifyResult" "logStart" "J" (.long q1) := F_104.other W117 (Or.inr (slot_ne (Or.inr (hw _ (List.mem_of_getElem? (i := 16) rfl))) (Or.inr (hw _ (List.mem_of_getElem? (i := 30) rfl))) (by decide) (t := .long) (t' := .long) (by decide) (by decide)))
  have F_121 : Fld Z h117 a "com/example/commitlog/commitlog/store/VerifyResult" "logEnd" "J" (.long q2) := F_105.other W117 (Or.inr (slot_ne (Or.inr (hw _ (List.mem_of_getElem? (i := 18) rfl))) (Or.inr (hw _ (List.mem_of_getElem? (i := 30) rfl))) (by decide) (t := .long) (t' := .long) (by decide) (by decide)))
  have F_122 : Fld Z h117 a "com/example/commitlog/commitlog/store/VerifyResult" "recoveryEnd" "J" (.long q3) := F_106.other W117 (Or.inr (slot_ne (Or.inr (hw _ (List.mem_of_getElem? (i := 20) rfl))) (Or.inr (hw _ (List.mem_of_getElem? (i := 30) rfl))) (by decide) (t := .long) (t' := .long) (by decide) (by decide)))
  have F_123 : Fld Z h117 a "com/example/commitlog/commitlog/store/VerifyResult" "records" "J" (.long q4) := F_107.other W117 (Or.inr (slot_ne (Or.inr (hw _ (List.mem_of_getElem? (i := 22) rfl))) (Or.inr (hw _ (List.mem_of_getElem? (i := 30) rfl))) (by decide) (t := .long) (t' := .long) (by decide) (by decide)))
  have F_124 : Fld Z h117 a "com/example/commitlog/commitlog/store/VerifyResult" "damaged" "J" (.long q5) := F_108.other W117 (Or.inr (slot_ne (Or.inr (hw _ (List.mem_of_getElem? (i := 24) rfl))) (Or.inr (hw _ (List.mem_of_getElem? (i := 30) rfl))) (by decide) (t := .long) (t' := .long) (by decide) (by decide)))
  have F_125 : Fld Z h117 a "com/example/commitlog/commitlog/store/VerifyResult" "units" "J" (.long q6) := F_109.other W117 (Or.inr (slot_ne (Or.inr (hw _ (List.mem_of_getElem? (i := 26) rfl))) (Or.inr (hw _ (List.mem_of_getElem? (i := 30) rfl))) (by decide) (t := .long) (t' := .long) (by decide) (by decide)))
  have F_126 : Fld Z h117 a "com/example/commitlog/commitlog/store/VerifyResult" "badUnits" "J" (.long q7) := F_110.other W117 (Or.inr (slot_ne (Or.inr (hw _ (List.mem_of_getElem? (i := 28) rfl))) (Or.inr (hw _ (List.mem_of_getElem? (i := 30) rfl))) (by decide) (t := .long) (t' := .long) (by decide) (by decide)))
  have F_127 : Fld Z h117 a "com/example/commitlog/commitlog/store/VerifyResult" "entries" "J" (.long q8) := F_111.same W117
  have F_128 : Fld Z h117 a "com/example/commitlog/commitlog/store/VerifyResult" "badEntries" "J" (.long (0 : Int64)) := F_112.other W117 (Or.inr (slot_ne (Or.inr (hw _ (List.mem_of_getElem? (i := 32) rfl))) (Or.inr (hw _ (List.mem_of_getElem? (i := 30) rfl))) (by decide) (t := .long) (t' := .long) (by decide) (by decide)))
  have F_129 : Fld Z h117 a "com/example/commitlog/commitlog/store/VerifyResult" "closedCleanly" "Z" (.int (0 : Int32)) := F_113.other W117 (Or.inr (slot_ne (Or.inr (hw _ (List.mem_of_getElem? (i := 34) rfl))) (Or.inr (hw _ (List.mem_of_getElem? (i := 30) rfl))) (by decide) (t := .boolean) (t' := .long) (by decide) (by decide)))
  have K_130 : Keep h0 h117 [a] := K_114.wr W117 (Or.inl (List.mem_of_getElem? (i := 0) rfl))
  have P131 : own_Rch p.tables e below A0 (T117.setTop (mkF m 50 #[.val (.ref a), .val (.long q1), .second, .val (.long q2), .second, .val (.long q3), .second, .val (.long q4), .second, .val (.long q5), .second, .val (.long q6), .second, .val (.long q7), .second, .val (.long q8), .second, .val (.long q9), .second, .val (.int q10)] [])) := fun t k => P116 t (st117 t k)
  have P132 : own_Rch p.tables e below A0 (T117.setTop (mkF m 53 #[.val (.ref a), .val (.long q1), .second, .val (.long q2), .second, .val (.long q3), .second, .val (.long q4), .second, .val (.long q5), .second, .val (.long q6), .second, .val (.long q7), .second, .val (.long q8), .second, .val (.long q9), .second, .val (.int q10)] [(.long q9), (.ref a)])) := fun t k => P131 t (by
    show Steps p.tables e below (T117.setTop (mkF m 50 #[.val (.ref a), .val (.long q1), .second, .val (.long q2), .second, .val (.long q3), .second, .val (.long q4), .second, .val (.long q5), .second, .val (.long q6), .second, .val (.long q7), .second, .val (.long q8), .second, .val (.long q9), .second, .val (.int q10)] [])) _
    refine XS.aloadN X117.here hx rfl (hb hby d1_50) rfl rfl ?_
    show Steps p.tables e below (T117.setTop (mkF m 51 #[.val (.ref a), .val (.long q1), .second, .val (.long q2), .second, .val (.long q3), .second, .val (.long q4), .second, .val (.long q5), .second, .val (.long q6), .second, .val (.long q7), .second, .val (.long q8), .second, .val (.long q9), .second, .val (.int q10)] [(.ref a)])) _
    refine XS.lload X117.here hx rfl (hb hby d1_51) rfl ?_
    exact k)
  obtain ⟨T133, h133, X133, e133, W133, st133⟩ := putF X117 hx hZ hown (host := "") (Or.inl (hw _ (List.mem_of_getElem? (i := 31) rfl))) Via.refl e117 F_128 E_119 (Or.inr ⟨(hw _ (List.mem_of_getElem? (i := 32) rfl)), rfl, hnm⟩) (hw _ (List.mem_of_getElem? (i := 2) rfl)) (ty := .long) (by decide) rfl rfl (g := (mkF m 53 #[.val (.ref a), .val (.long q1), .second, .val (.long q2), .second, .val (.long q3), .second, .val (.long q4), .second, .val (.long q5), .second, .val (.long q6), .second, .val (.long q7), .second, .val (.long q8), .second, .val (.long q9), .second, .val (.int q10)] [(.long q9), (.ref a)])) rfl rfl (hb hby d1_53)
  have N133 := Fr.snoc X133 N117 g_a
  have Z_134 : n0 ≤ h133.size := Nat.le_trans Z_118 (Keep.of_wr W133).1
  have E_135 : Exa Z h133 a "com/example/commitlog/commitlog/store/VerifyResult" := E_119.wr W133
  have F_136 : Fld Z h133 a "com/example/commitlog/commitlog/store/VerifyResult" "logStart" "J" (.long q1) := F_120.other W133 (Or.inr (slot_ne (Or.inr (hw _ (List.mem_of_getElem? (i := 16) rfl))) (Or.inr (hw _ (List.mem_of_getElem? (i := 32) rfl))) (by decide) (t := .long) (t' := .long) (by decide) (by decide)))
  have F_137 : Fld Z h133 a "com/example/commitlog/commitlog/store/VerifyResult" "logEnd" "J" (.long q2) := F_121.other W133 (Or.inr (slot_ne (Or.inr (hw _ (List.mem_of_getElem? (i := 18) rfl))) (Or.inr (hw _ (List.mem_of_getElem? (i := 32) rfl))) (by decide) (t := .long) (t' := .long) (by decide) (by decide)))
  have F_138 : Fld Z h133 a "com/example/commitlog/commitlog/store/VerifyResult" "recoveryEnd" "J" (.long q3) := F_122.other W133 (Or.inr (slot_ne (Or.inr (hw _ (List.mem_of_getElem? (i := 20) rfl))) (Or.inr (hw _ (List.mem_of_getElem? (i := 32) rfl))) (by decide) (t := .long) (t' := .long) (by decide) (by decide)))
  have F_139 : Fld Z h133 a "com/example/commitlog/commitlog/store/VerifyResult" "records" "J" (.long q4) := F_123.other W133 (Or.inr (slot_ne (Or.inr (hw _ (List.mem_of_getElem? (i := 22) rfl))) (Or.inr (hw _ (List.mem_of_getElem? (i := 32) rfl))) (by decide) (t := .long) (t' := .long) (by decide) (by decide)))
  have F_140 : Fld Z h133 a "com/example/commitlog/commitlog/store/VerifyResult" "damaged" "J" (.long q5) := F_124.other W133 (Or.inr (slot_ne (Or.inr (hw _ (List.mem_of_getElem? (i := 24) rfl))) (Or.inr (hw _ (List.mem_of_getElem? (i := 32) rfl))) (by decide) (t := .long) (t' := .long) (by decide) (by decide)))
  have F_141 : Fld Z h133 a "com/example/commitlog/commitlog/store/VerifyResult" "units" "J" (.long q6) := F_125.other W133 (Or.inr (slot_ne (Or.inr (hw _ (List.mem_of_getElem? (i := 26) rfl))) (Or.inr (hw _ (List.mem_of_getElem? (i := 32) rfl))) (by decide) (t := .long) (t' := .long) (by decide) (by decide)))
  have F_142 : Fld Z h133 a "com/example/commitlog/commitlog/store/VerifyResult" "badUnits" "J" (.long q7) := F_126.other W133 (Or.inr (slot_ne (Or.inr (hw _ (List.mem_of_getElem? (i := 28) rfl))) (Or.inr (hw _ (List.mem_of_getElem? (i := 32) rfl))) (by decide) (t := .long) (t' := .long) (by decide) (by decide)))
  have F_143 : Fld Z h133 a "com/example/commitlog/commitlog/store/VerifyResult" "entries" "J" (.long q8) := F_127.other W133 (Or.inr (slot_ne (Or.inr (hw _ (List.mem_of_getElem? (i := 30) rfl))) (Or.inr (hw _ (List.mem_of_getElem? (i := 32) rfl))) (by decide) (t := .long) (t' := .long) (by decide) (by decide)))
  have F_144 : Fld Z h133 a "com/example/commitlog/commitlog/store/VerifyResult" "badEntries" "J" (.long q9) := F_128.same W133
  have F_145 : Fld Z h133 a "com/example/commitlog/commitlog/store/VerifyResult" "closedCleanly" "Z" (.int (0 : Int32)) := F_129.other W133 (Or.inr (slot_ne (Or.inr (hw _ (List.mem_of_getElem? (i := 34) rfl))) (Or.inr (hw _ (List.mem_of_getElem? (i := 32) rfl))) (by decide) (t := .boolean) (t' := .long) (by decide) (by decide)))
  have K_146 : Keep h0 h133 [a] := K_130.wr W133 (Or.inl (List.mem_of_getElem? (i := 0) rfl))
  have P147 : own_Rch p.tables e below A0 (T133.setTop (mkF m 56 #[.val (.ref a), .val (.long q1), .second, .val (.long q2), .second, .val (.long q3), .second, .val (.long q4), .second, .val (.long q5), .second, .val (.long q6), .second, .val (.long q7), .second, .val (.long q8), .second, .val (.long q9), .second, .val (.int q10)] [])) := fun t k => P132 t (st133 t k)
  have P148 : own_Rch p.tables e below A0 (T133.setTop (mkF m 59 #[.val (.ref a), .val (.long q1), .second, .val (.long q2), .second, .val (.long q3), .second, .val (.long q4), .second, .val (.long q5), .second, .val (.long q6), .second, .val (.long q7), .second, .val (.long q8), .second, .val (.long q9), .second, .val (.int q10)] [(.int q10), (.ref a)])) := fun t k => P147 t (by
    show Steps p.tables e below (T133.setTop (mkF m 56 #[.val (.ref a), .val (.long q1), .second, .val (.long q2), .second, .val (.long q3), .second, .val (.long q4), .second, .val (.long q5), .second, .val (.long q6), .second, .val (.long q7), .second, .val (.long q8), .second, .val (.long q9), .second, .val (.int q10)] [])) _
    refine XS.aloadN X133.here hx rfl (hb hby d1_56) rfl rfl ?_
    show Steps p.tables e below (T133.setTop (mkF m 57 #[.val (.ref a), .val (.long q1), .second, .val (.long q2), .second, .val (.long q3), .second, .val (.long q4), .second, .val (.long q5), .second, .val (.long q6), .second, .val (.long q7), .second, .val (.long q8), .second, .val (.long q9), .second, .val (.int q10)] [(.ref a)])) _
    refine XS.iload X133.here hx rfl (hb hby d1_57) rfl ?_
    exact k)
  obtain ⟨T149, h149, X149, e149, W149, st149⟩ := putFN X133 hx hZ hown (hw _ (List.mem_of_getElem? (i := 33) rfl)) Via.refl e133 F_145 E_135 (Or.inr ⟨(hw _ (List.mem_of_getElem? (i := 34) rfl)), rfl, hnm⟩) (hw _ (List.mem_of_getElem? (i := 2) rfl)) (ty := .boolean) (v' := (.int (nar .boolean q10))) (by decide) rfl (fits_nar_bool _) (g := (mkF m 59 #[.val (.ref a), .val (.long q1), .second, .val (.long q2), .second, .val (.long q3), .second, .val (.long q4), .second, .val (.long q5), .second, .val (.long q6), .second, .val (.long q7), .second, .val (.long q8), .second, .val (.long q9), .second, .val (.int q10)] [(.int q10), (.ref a)])) rfl rfl (hb hby d1_59)
  have N149 := Fr.snoc X149 N133 g_a
  have Z_150 : n0 ≤ h149.size := Nat.le_trans Z_134 (Keep.of_wr W149).1
  have E_151 : Exa Z h149 a "com/example/commitlog/commitlog/store/VerifyResult" := E_135.wr W149
  have F_152 : Fld Z h149 a "com/example/commitlog/commitlog/store/VerifyResult" "logStart" "J" (.long q1) := F_136.other W149 (Or.inr (slot_ne (Or.inr (hw _ (List.mem_of_getElem? (i := 16) rfl))) (Or.inr (hw _ (List.mem_of_getElem? (i := 34) rfl))) (by decide) (t := .long) (t' := .boolean) (by decide) (by decide)))
  have F_153 : Fld Z h149 a "com/example/commitlog/commitlog/store/VerifyResult" "logEnd" "J" (.long q2) := F_137.other W149 (Or.inr (slot_ne (Or.inr (hw _ (List.mem_of_getElem? (i := 18) rfl))) (Or.inr (hw _ (List.mem_of_getElem? (i := 34) rfl))) (by decide) (t := .long) (t' := .boolean) (by decide) (by decide)))
  have F_154 : Fld Z h149 a "com/example/commitlog/commitlog/store/VerifyResult" "recoveryEnd" "J" (.long q3) := F_138.other W149 (Or.inr (slot_ne (Or.inr (hw _ (List.mem_of_getElem? (i := 20) rfl))) (Or.inr (hw _ (List.mem_of_getElem? (i := 34) rfl))) (by decide) (t := .long) (t' := .boolean) (by decide) (by decide)))
  have F_155 : Fld Z h149 a "com/example/commitlog/commitlog/store/VerifyResult" "records" "J" (.long q4) := F_139.other W149 (Or.inr (slot_ne (Or.inr (hw _ (List.mem_of_getElem? (i := 22) rfl))) (Or.inr (hw _ (List.mem_of_getElem? (i := 34) rfl))) (by decide) (t := .long) (t' := .boolean) (by decide) (by decide)))
  have F_156 : Fld Z h149 a "com/example/commitlog/commitlog/store/VerifyResult" "damaged" "J" (.long q5) := F_140.other W149 (Or.inr (slot_ne (Or.inr (hw _ (List.mem_of_getElem? (i := 24) rfl))) (Or.inr (hw _ (List.mem_of_getElem? (i := 34) rfl))) (by decide) (t := .long) (t' := .boolean) (by decide) (by decide)))
  have F_157 : Fld Z h149 a "com/example/commitlog/commitlog/store/VerifyResult" "units" "J" (.long q6) := F_141.other W149 (Or.inr (slot_ne (Or.inr (hw _ (List.mem_of_getElem? (i := 26) rfl))) (Or.inr (hw _ (List.mem_of_getElem? (i := 34) rfl))) (by decide) (t := .long) (t' := .boolean) (by decide) (by decide)))
  have F_158 : Fld Z h149 a "com/example/commitlog/commitlog/store/VerifyResult" "badUnits" "J" (.long q7) := F_142.other W149 (Or.inr (slot_ne (Or.inr (hw _ (List.mem_of_getElem? (i := 28) rfl))) (Or.inr (hw _ (List.mem_of_getElem? (i := 34) rfl))) (by decide) (t := .long) (t' := .boolean) (by decide) (by decide)))
  have F_159 : Fld Z h149 a "com/example/commitlog/commitlog/store/VerifyResult" "entries" "J" (.long q8) := F_143.other W149 (Or.inr (slot_ne (Or.inr (hw _ (List.mem_of_getElem? (i := 30) rfl))) (Or.inr (hw _ (List.mem_of_getElem? (i := 34) rfl))) (by decide) (t := .long) (t' := .boolean) (by decide) (by decide)))
  have F_160 : Fld Z h149 a "com/example/commitlog/commitlog/store/VerifyResult" "badEntries" "J" (.long q9) := F_144.other W149 (Or.inr (slot_ne (Or.inr (hw _ (List.mem_of_getElem? (i := 32) rfl))) (Or.inr (hw _ (List.mem_of_getElem? (i := 34) rfl))) (by decide) (t := .long) (t' := .boolean) (by decide) (by decide)))
  have F_161 : Fld Z h149 a "com/example/commitlog/commitlog/store/VerifyResult" "closedCleanly" "Z" (.int (nar .boolean q10)) := F_145.same W149
  have K_162 : Keep h0 h149 [a] := K_146.wr W149 (Or.inl (List.mem_of_getElem? (i := 0) rfl))
  have P163 : own_Rch p.tables e below A0 (T149.setTop (mkF m 62 #[.val (.ref a), .val (.long q1), .second, .val (.long q2), .second, .val (.long q3), .second, .val (.long q4), .second, .val (.long q5), .second, .val (.long q6), .second, .val (.long q7), .second, .val (.long q8), .second, .val (.long q9), .second, .val (.int q10)] [])) := fun t k => P148 t (st149 t k)
  obtain ⟨fs, hr, hrun, hended, hW, hsame⟩ := X149.leave (v := none) (fun _ => rfl)
  refine ⟨_, _, P00 _ (P163 _ ?_), hrun, hended, _, _, rfl, ?_, ⟨_, rfl⟩, hW, hsame.mono (by decide) (by decide)⟩
  · exact X149.returnOut hx Bd.returns (hb hby d1_62) hr
  · show Q1 Z a q1 q2 q3 q4 q5 q6 q7 q8 q9 q10 h0 n0 _ T149.heap _
    rw [e149]
    refine ⟨?_, N149, K_162, E_151, F_153, F_154, F_156, F_158, F_160⟩
    rfl
theorem d4_0 : decode prog_85_method_2_code 0 = .ok (.aload_n 0, 1) := by decide +kernel
theorem d4_1 : decode prog_85_method_2_code 1 = .ok (.getfield 22, 3) := by decide +kernel
theorem d4_4 : decode prog_85_method_2_code 4 = .ok (.lconst 0, 1) := by decide +kernel
theorem d4_5 : decode prog_85_method_2_code 5 = .ok (.lcmp, 1) := by decide +kernel
theorem d4_6 : decode prog_85_method_2_code 6 = .ok (.ifCond .ne 37, 3) := by decide +kernel
theorem d4_9 : decode prog_85_method_2_code 9 = .ok (.aload_n 0, 1) := by decide +kernel
theorem d4_10 : decode prog_85_method_2_code 10 = .ok (.getfield 28, 3) := by decide +kernel
theorem d4_13 : decode prog_85_method_2_code 13 = .ok (.lconst 0, 1) := by decide +kernel
theorem d4_14 : decode prog_85_method_2_code 14 = .ok (.lcmp, 1) := by decide +kernel
theorem d4_15 : decode prog_85_method_2_code 15 = .ok (.ifCond .ne 28, 3) := by decide +kernel
theorem d4_18 : decode prog_85_method_2_code 18 = .ok (.aload_n 0, 1) := by decide +kernel
theorem d4_19 : decode prog_85_method_2_code 19 = .ok (.getfield 34, 3) := by decide +kernel
theorem d4_22 : decode prog_85_method_2_code 22 = .ok (.lconst 0, 1) := by decide +kernel
theorem d4_23 : decode prog_85_method_2_code 23 = .ok (.lcmp, 1) := by decide +kernel
theorem d4_24 : decode prog_85_method_2_code 24 = .ok (.ifCond .ne 19, 3) := by decide +kernel
theorem d4_27 : decode prog_85_method_2_code 27 = .ok (.aload_n 0, 1) := by decide +kernel
theorem d4_28 : decode prog_85_method_2_code 28 = .ok (.getfield 16, 3) := by decide +kernel
theorem d4_31 : decode prog_85_method_2_code 31 = .ok (.aload_n 0, 1) := by decide +kernel
theorem d4_32 : decode prog_85_method_2_code 32 = .ok (.getfield 13, 3) := by decide +kernel
theorem d4_35 : decode prog_85_method_2_code 35 = .ok (.lcmp, 1) := by decide +kernel
theorem d4_36 : decode prog_85_method_2_code 36 = .ok (.ifCond .ne 7, 3) := by decide +kernel
theorem d4_39 : decode prog_85_method_2_code 39 = .ok (.iconst 1, 1) := by decide +kernel
theorem d4_40 : decode prog_85_method_2_code 40 = .ok (.goto 4, 3) := by decide +kernel
theorem d4_43 : decode prog_85_method_2_code 43 = .ok (.iconst 0, 1) := by decide +kernel
theorem d4_44 : decode prog_85_method_2_code 44 = .ok (.ireturn, 1) := by decide +kernel
def own_wh (dm : Int64) (bu : Int64) (be : Int64) (re : Int64) (le : Int64) : Int32 := (if dm = (0 : Int64) then (if bu = (0 : Int64) then (if be = (0 : Int64) then (if re = le then (1 : Int32) else (0 : Int32)) else (0 : Int32)) else (0 : Int32)) else (0 : Int32))
theorem ef_4 (m : MethodId) (a : Addr) : entryFrame m #[(.ref a)] 1 = mkF m 0 #[.val (.ref a)] [] := by first | (simp [entryFrame, mkF, argsToLocals, Value.category]; done) | rfl
def Q4 (Z : State) (a : Addr) (dm : Int64) (bu : Int64) (be : Int64) (re : Int64) (le : Int64) (h0 : Heap) (n0 : Nat) (v : Option Value) (h : Heap) (L : List Loc) : Prop := v = some (.int (own_wh dm bu be re le)) ∧ Fr n0 L ∧ h = h0
set_option maxRecDepth 65536 in
set_option maxHeartbeats 40000000 in
theorem rm4 (l : Launch) (Z : State) (a0 : Array Value) (hw : ∀ d ∈ tables_1, d.before a0 Z = true) (ws : List Jvm.Cond) (a : Addr) (dm : Int64) (bu : Int64) (be : Int64) (re : Int64) (le : Int64) (h0 : Heap) (n0 : Nat) (Z0 : n0 ≤ h0.size) (F_damaged : Fld Z h0 a "com/example/commitlog/commitlog/store/VerifyResult" "damaged" "J" (.long dm)) (F_badUnits : Fld Z h0 a "com/example/commitlog/commitlog/store/VerifyResult" "badUnits" "J" (.long bu)) (F_badEntries : Fld Z h0 a "com/example/commitlog/commitlog/store/VerifyResult" "badEntries" "J" (.long be)) (F_recoveryEnd : Fld Z h0 a "com/example/commitlog/commitlog/store/VerifyResult" "recoveryEnd" "J" (.long re)) (F_logEnd : Fld Z h0 a "com/example/commitlog/commitlog/store/VerifyResult" "logEnd" "J" (.long le)) :
    MetFree l (⟨"com/example/commitlog/commitlog/store/VerifyResult", "isWhole", "()Z"⟩ : MethodName) (head1 (Jvm.Cond.code (⟨"com/example/commitlog/commitlog/store/VerifyResult", "isWhole", "()Z"⟩ : MethodName) prog_85_method_2_code 1 (some .boolean) :: ws) ({ frames := 0, cells := 0, slots := 0, locals := 0 } : Room)) (fun a' U => a' = #[(.ref a)] ∧ Z.Warmed39 U.vm ∧ U.heap = h0) (fun _ _ _ _ _ => True) (fun _ U o U' => ∃ v L, o = .returned v ∧ Q4 Z a dm bu be re le h0 n0 v U'.heap L ∧ FrameEnd U o U' L ({ frames := 0, cells := 0, slots := 0, locals := 0 } : Room).cells ({ frames := 0, cells := 0, slots := 0, locals := 0 } : Room).slots) := by
  refine MetFree.of_bodySF (plainFor_of_name pn_1) hisR ?_
  intro p e s m args' below meth c s₁ Bd hml0 hP hK
  obtain ⟨hargs, hZ, hh⟩ := hP
  have hx := Bd.exec
  have hby := Bd.bytes
  have hml : c.maxLocals = 1 := hml0
  have hown : s.vm.findClass "com/example/commitlog/commitlog/store/VerifyResult" = some m.cls := findClass_of_methodNamed Bd.named
  have hnm := (name_of_methodNamed Bd.named Bd.method).1
  have X0 : Stand p l e ({ frames := 0, cells := 0, slots := 0, locals := 0 } : Room) s m args' below meth c s₁ [] 0 0 := Stand.of_body Bd
  have e0 : s₁.heap = h0 := by rw [← hh, Bd.state]; rfl
  have N0 := Fr.nil n0
  obtain ⟨A0, hA0⟩ : ∃ A, A = s₁.setTop (mkF m 0 #[.val (.ref a)] []) := ⟨_, rfl⟩
  have P0 : own_Rch p.tables e below A0 (s₁.setTop (mkF m 0 #[.val (.ref a)] [])) := fun t k => hA0 ▸ k
  have P00 : own_Rch p.tables e below (s₁.setTop (entryFrame m args' 1)) A0 := fun t k => by rw [hargs]; exact castTop (ef_4 m a) (hA0 ▸ k)
  have P1 : own_Rch p.tables e below A0 (s₁.setTop (mkF m 1 #[.val (.ref a)] [(.ref a)])) := fun t k => P0 t (by
    show Steps p.tables e below (s₁.setTop (mkF m 0 #[.val (.ref a)] [])) _
    refine XS.aloadN X0.here hx rfl (hb hby d4_0) rfl rfl ?_
    exact k)
  obtain ⟨T2, X2, e2, st2⟩ := getF X0 hx hZ hown (host := "") (Or.inl (hw _ (List.mem_of_getElem? (i := 23) rfl))) Via.refl e0 F_damaged (g := (mkF m 1 #[.val (.ref a)] [(.ref a)])) rfl rfl (hb hby d4_1)
  have P3 : own_Rch p.tables e below A0 (T2.setTop (mkF m 4 #[.val (.ref a)] [(.long dm)])) := fun t k => P1 t (st2 t k)
  have P5 : own_Rch p.tables e below A0 (T2.setTop (mkF m 6 #[.val (.ref a)] [(.int (lcmpW dm (0 : Int64)))])) := fun t k => P3 t (by
    show Steps p.tables e below (T2.setTop (mkF m 4 #[.val (.ref a)] [(.long dm)])) _
    refine XS.lconst X2.here hx rfl (hb hby d4_4) ?_
    show Steps p.tables e below (T2.setTop (mkF m 5 #[.val (.ref a)] [(.long (0 : Int64)), (.long dm)])) _
    refine XS.lcmp X2.here hx rfl (hb hby d4_5) rfl ?_
    exact k)
  by_cases hc4 : dm = (0 : Int64)
  · -- dm = (0 : Int64)
    have P6 : own_Rch p.tables e below A0 (T2.setTop (mkF m 10 #[.val (.ref a)] [(.ref a)])) := fun t k => P5 t (by
      show Steps p.tables e below (T2.setTop (mkF m 6 #[.val (.ref a)] [(.int (lcmpW dm (0 : Int64)))])) _
      refine XS.ifNo X2.here hx rfl (hb hby d4_6) rfl (own_lct3 hc4).2 ?_
      show Steps p.tables e below (T2.setTop (mkF m 9 #[.val (.ref a)] [])) _
      refine XS.aloadN X2.here hx rfl (hb hby d4_9) rfl rfl ?_
      exact k)
    obtain ⟨T7, X7, e7, st7⟩ := getF X2 hx hZ hown (host := "") (Or.inl (hw _ (List.mem_of_getElem? (i := 27) rfl))) Via.refl e2 F_badUnits (g := (mkF m 10 #[.val (.ref a)] [(.ref a)])) rfl rfl (hb hby d4_10)
    have P8 : own_Rch p.tables e below A0 (T7.setTop (mkF m 13 #[.val (.ref a)] [(.long bu)])) := fun t k => P6 t (st7 t k)
    have P10 : own_Rch p.tables e below A0 (T7.setTop (mkF m 15 #[.val (.ref a)] [(.int (lcmpW bu (0 : Int64)))])) := fun t k => P8 t (by
      show Steps p.tables e below (T7.setTop (mkF m 13 #[.val (.ref a)] [(.long bu)])) _
      refine XS.lconst X7.here hx rfl (hb hby d4_13) ?_
      show Steps p.tables e below (T7.setTop (mkF m 14 #[.val (.ref a)] [(.long (0 : Int64)), (.long bu)])) _
      refine XS.lcmp X7.here hx rfl (hb hby d4_14) rfl ?_
      exact k)
    by_cases hc9 : bu = (0 : Int64)
    · -- bu = (0 : Int64)
      have P11 : own_Rch p.tables e below A0 (T7.setTop (mkF m 19 #[.val (.ref a)] [(.ref a)])) := fun t k => P10 t (by
        show Steps p.tables e below (T7.setTop (mkF m 15 #[.val (.ref a)] [(.int (lcmpW bu (0 : Int64)))])) _
        refine XS.ifNo X7.here hx rfl (hb hby d4_15) rfl (own_lct3 hc9).2 ?_
        show Steps p.tables e below (T7.setTop (mkF m 18 #[.val (.ref a)] [])) _
        refine XS.aloadN X7.here hx rfl (hb hby d4_18) rfl rfl ?_
        exact k)
      obtain ⟨T12, X12, e12, st12⟩ := getF X7 hx hZ hown (host := "") (Or.inl (hw _ (List.mem_of_getElem? (i := 31) rfl))) Via.refl e7 F_badEntries (g := (mkF m 19 #[.val (.ref a)] [(.ref a)])) rfl rfl (hb hby d4_19)
      have P13 : own_Rch p.tables e below A0 (T12.setTop (mkF m 22 #[.val (.ref a)] [(.long be)])) := fun t k => P11 t (st12 t k)
      have P15 : own_Rch p.tables e below A0 (T12.setTop (mkF m 24 #[.val (.ref a)] [(.int (lcmpW be (0 : Int64)))])) := fun t k => P13 t (by
        show Steps p.tables e below (T12.setTop (mkF m 22 #[.val (.ref a)] [(.long be)])) _
        refine XS.lconst X12.here hx rfl (hb hby d4_22) ?_
        show Steps p.tables e below (T12.setTop (mkF m 23 #[.val (.ref a)] [(.long (0 : Int64)), (.long be)])) _
        refine XS.lcmp X12.here hx rfl (hb hby d4_23) rfl ?_
        exact k)
      by_cases hc14 : be = (0 : Int64)
      · -- be = (0 : Int64)
        have P16 : own_Rch p.tables e below A0 (T12.setTop (mkF m 28 #[.val (.ref a)] [(.ref a)])) := fun t k => P15 t (by
          show Steps p.tables e below (T12.setTop (mkF m 24 #[.val (.ref a)] [(.int (lcmpW be (0 : Int64)))])) _
          refine XS.ifNo X12.here hx rfl (hb hby d4_24) rfl (own_lct3 hc14).2 ?_
          show Steps p.tables e below (T12.setTop (mkF m 27 #[.val (.ref a)] [])) _
          refine XS.aloadN X12.here hx rfl (hb hby d4_27) rfl rfl ?_
          exact k)
        obtain ⟨T17, X17, e17, st17⟩ := getF X12 hx hZ hown (host := "") (Or.inl (hw _ (List.mem_of_getElem? (i := 19) rfl))) Via.refl e12 F_recoveryEnd (g := (mkF m 28 #[.val (.ref a)] [(.ref a)])) rfl rfl (hb hby d4_28)
        have P18 : own_Rch p.tables e below A0 (T17.setTop (mkF m 31 #[.val (.ref a)] [(.long re)])) := fun t k => P16 t (st17 t k)
        have P19 : own_Rch p.tables e below A0 (T17.setTop (mkF m 32 #[.val (.ref a)] [(.ref a), (.long re)])) := fun t k => P18 t (by
          show Steps p.tables e below (T17.setTop (mkF m 31 #[.val (.ref a)] [(.long re)])) _
          refine XS.aloadN X17.here hx rfl (hb hby d4_31) rfl rfl ?_
          exact k)
        obtain ⟨T20, X20, e20, st20⟩ := getF X17 hx hZ hown (host := "") (Or.inl (hw _ (List.mem_of_getElem? (i := 17) rfl))) Via.refl e17 F_logEnd (g := (mkF m 32 #[.val (.ref a)] [(.ref a), (.long re)])) rfl rfl (hb hby d4_32)
        have P21 : own_Rch p.tables e below A0 (T20.setTop (mkF m 35 #[.val (.ref a)] [(.long le), (.long re)])) := fun t k => P19 t (st20 t k)
        have P23 : own_Rch p.tables e below A0 (T20.setTop (mkF m 36 #[.val (.ref a)] [(.int (lcmpW re le))])) := fun t k => P21 t (by
          show Steps p.tables e below (T20.setTop (mkF m 35 #[.val (.ref a)] [(.long le), (.long re)])) _
          refine XS.lcmp X20.here hx rfl (hb hby d4_35) rfl ?_
          exact k)
        by_cases hc22 : re = le
        · -- re = le
          have P24 : own_Rch p.tables e below A0 (T20.setTop (mkF m 44 #[.val (.ref a)] [(.int (1 : Int32))])) := fun t k => P23 t (by
            show Steps p.tables e below (T20.setTop (mkF m 36 #[.val (.ref a)] [(.int (lcmpW re le))])) _
            refine XS.ifNo X20.here hx rfl (hb hby d4_36) rfl (own_lct3 hc22).2 ?_
            show Steps p.tables e below (T20.setTop (mkF m 39 #[.val (.ref a)] [])) _
            refine XS.iconst X20.here hx rfl (hb hby d4_39) ?_
            show Steps p.tables e below (T20.setTop (mkF m 40 #[.val (.ref a)] [(.int (1 : Int32))])) _
            refine XS.goto X20.here hx rfl (pc0 := 40) (pc' := 44) rfl (hb hby d4_40) (by decide) (by decide) ?_
            exact k)
          obtain ⟨fs, hr, hrun, hended, hW, hsame⟩ := X20.leave (v := some (.int (nar .boolean (1 : Int32)))) (fun h => by rw [Bd.returns] at h; cases h)
          refine ⟨_, _, P00 _ (P24 _ ?_), hrun, hended, _, _, rfl, ?_, ⟨_, rfl⟩, hW, hsame.mono (by decide) (by decide)⟩
          · exact retN X20 hx (t := .boolean) Bd.returns (by simp) (hb hby d4_44) hr
          · show Q4 Z a dm bu be re le h0 n0 _ T20.heap _
            rw [e20]
            refine ⟨?_, N0, rfl⟩
            skip
            (try simp only [own_wh, if_pos hc4, if_pos hc9, if_pos hc14, if_pos hc22])
            (try rfl)
        · -- not re = le
          have P25 : own_Rch p.tables e below A0 (T20.setTop (mkF m 44 #[.val (.ref a)] [(.int (0 : Int32))])) := fun t k => P23 t (by
            show Steps p.tables e below (T20.setTop (mkF m 36 #[.val (.ref a)] [(.int (lcmpW re le))])) _
            refine XS.ifYes X20.here hx rfl (pc0 := 36) (pc' := 43) rfl (hb hby d4_36) rfl (own_lcf3 hc22).2 (by decide) (by decide) ?_
            show Steps p.tables e below (T20.setTop (mkF m 43 #[.val (.ref a)] [])) _
            refine XS.iconst X20.here hx rfl (hb hby d4_43) ?_
            exact k)
          obtain ⟨fs, hr, hrun, hended, hW, hsame⟩ := X20.leave (v := some (.int (nar .boolean (0 : Int32)))) (fun h => by rw [Bd.returns] at h; cases h)
          refine ⟨_, _, P00 _ (P25 _ ?_), hrun, hended, _, _, rfl, ?_, ⟨_, rfl⟩, hW, hsame.mono (by decide) (by decide)⟩
          · exact retN X20 hx (t := .boolean) Bd.returns (by simp) (hb hby d4_44) hr
          · show Q4 Z a dm bu be re le h0 n0 _ T20.heap _
            rw [e20]
            refine ⟨?_, N0, rfl⟩
            skip
            (try simp only [own_wh, if_pos hc4, if_pos hc9, if_pos hc14, if_neg hc22])
            (try rfl)
      · -- not be = (0 : Int64)
        have P26 : own_Rch p.tables e below A0 (T12.setTop (mkF m 44 #[.val (.ref a)] [(.int (0 : Int32))])) := fun t k => P15 t (by
          show Steps p.tables e below (T12.setTop (mkF m 24 #[.val (.ref a)] [(.int (lcmpW be (0 : Int64)))])) _
          refine XS.ifYes X12.here hx rfl (pc0 := 24) (pc' := 43) rfl (hb hby d4_24) rfl (own_lcf3 hc14).2 (by decide) (by decide) ?_
          show Steps p.tables e below (T12.setTop (mkF m 43 #[.val (.ref a)] [])) _
          refine XS.iconst X12.here hx rfl (hb hby d4_43) ?_
          exact k)
        obtain ⟨fs, hr, hrun, hended, hW, hsame⟩ := X12.leave (v := some (.int (nar .boolean (0 : Int32)))) (fun h => by rw [Bd.returns] at h; cases h)
        refine ⟨_, _, P00 _ (P26 _ ?_), hrun, hended, _, _, rfl, ?_, ⟨_, rfl⟩, hW, hsame.mono (by decide) (by decide)⟩
        · exact retN X12 hx (t := .boolean) Bd.returns (by simp) (hb hby d4_44) hr
        · show Q4 Z a dm bu be re le h0 n0 _ T12.heap _
          rw [e12]
          refine ⟨?_, N0, rfl⟩
          skip
          (try simp only [own_wh, if_pos hc4, if_pos hc9, if_neg hc14])
          (try rfl)
    · -- not bu = (0 : Int64)
      have P27 : own_Rch p.tables e below A0 (T7.setTop (mkF m 44 #[.val (.ref a)] [(.int (0 : Int32))])) := fun t k => P10 t (by
        show Steps p.tables e below (T7.setTop (mkF m 15 #[.val (.ref a)] [(.int (lcmpW bu (0 : Int64)))])) _
        refine XS.ifYes X7.here hx rfl (pc0 := 15) (pc' := 43) rfl (hb hby d4_15) rfl (own_lcf3 hc9).2 (by decide) (by decide) ?_
        show Steps p.tables e below (T7.setTop (mkF m 43 #[.val (.ref a)] [])) _
        refine XS.iconst X7.here hx rfl (hb hby d4_43) ?_
        exact k)
      obtain ⟨fs, hr, hrun, hended, hW, hsame⟩ := X7.leave (v := some (.int (nar .boolean (0 : Int32)))) (fun h => by rw [Bd.returns] at h; cases h)
      refine ⟨_, _, P00 _ (P27 _ ?_), hrun, hended, _, _, rfl, ?_, ⟨_, rfl⟩, hW, hsame.mono (by decide) (by decide)⟩
      · exact retN X7 hx (t := .boolean) Bd.returns (by simp) (hb hby d4_44) hr
      · show Q4 Z a dm bu be re le h0 n0 _ T7.heap _
        rw [e7]
        refine ⟨?_, N0, rfl⟩
        skip
        (try simp only [own_wh, if_pos hc4, if_neg hc9])
        (try rfl)
  · -- not dm = (0 : Int64)
    have P28 : own_Rch p.tables e below A0 (T2.setTop (mkF m 44 #[.val (.ref a)] [(.int (0 : Int32))])) := fun t k => P5 t (by
      show Steps p.tables e below (T2.setTop (mkF m 6 #[.val (.ref a)] [(.int (lcmpW dm (0 : Int64)))])) _
      refine XS.ifYes X2.here hx rfl (pc0 := 6) (pc' := 43) rfl (hb hby d4_6) rfl (own_lcf3 hc4).2 (by decide) (by decide) ?_
      show Steps p.tables e below (T2.setTop (mkF m 43 #[.val (.ref a)] [])) _
      refine XS.iconst X2.here hx rfl (hb hby d4_43) ?_
      exact k)
    obtain ⟨fs, hr, hrun, hended, hW, hsame⟩ := X2.leave (v := some (.int (nar .boolean (0 : Int32)))) (fun h => by rw [Bd.returns] at h; cases h)
    refine ⟨_, _, P00 _ (P28 _ ?_), hrun, hended, _, _, rfl, ?_, ⟨_, rfl⟩, hW, hsame.mono (by decide) (by decide)⟩
    · exact retN X2 hx (t := .boolean) Bd.returns (by simp) (hb hby d4_44) hr
    · show Q4 Z a dm bu be re le h0 n0 _ T2.heap _
      rw [e2]
      refine ⟨?_, N0, rfl⟩
      skip
      (try simp only [own_wh, if_neg hc4])
      (try rfl)
theorem own_or (a b : Int64) : a ||| b = 0 ↔ a = 0 ∧ b = 0 := by
  simp only [← Int64.toBitVec_inj, Int64.toBitVec_or, Int64.toBitVec_zero]
  exact BitVec.or_eq_zero_iff
theorem own_xor (a b : Int64) : a ^^^ b = 0 ↔ a = b := by
  simp only [← Int64.toBitVec_inj, Int64.toBitVec_xor, Int64.toBitVec_zero]
  exact BitVec.xor_eq_zero_iff
theorem own_eq (d b e r l : Int64) : own_wh d b e r l = if ((d ||| b) ||| e) ||| (r ^^^ l) = 0 then 1 else 0 := by
  simp only [own_wh, own_or, own_xor]
  by_cases h1 : d = 0 <;> by_cases h2 : b = 0 <;> by_cases h3 : e = 0 <;> by_cases h4 : r = l <;> simp [h1, h2, h3, h4]
theorem pd_1 : parseMethodDescriptor "(JJJJJJJJJZ)V" = some ⟨[.long, .long, .long, .long, .long, .long, .long, .long, .long, .boolean], none⟩ := by decide +kernel
theorem pd_2 : parseMethodDescriptor "()Z" = some ⟨[], some .boolean⟩ := by decide +kernel
theorem pn_2 : plainName "com/example/commitlog/commitlog/store/VerifyResultIsWholePinLaw" = true := by first | (simp [plainName, overriddenIn]; done) | decide +kernel
theorem ef_0 (m : MethodId) (i0 : Int32) (i1 : Int64) (i2 : Int64) (i3 : Int64) (i4 : Int64) (i5 : Int64) : entryFrame m #[(.int i0), (.long i1), (.long i2), (.long i3), (.long i4), (.long i5)] maxLocals = mkF m 0 #[.val (.int i0), .val (.long i1), .second, .val (.long i2), .second, .val (.long i3), .second, .val (.long i4), .second, .val (.long i5), .second, .unset, .unset, .unset, .unset, .unset, .unset, .unset, .unset, .unset, .unset, .unset, .unset, .unset, .unset, .unset, .unset, .unset, .unset, .unset, .unset, .unset] [] := by first | (simp [entryFrame, mkF, argsToLocals, Value.category, maxLocals]; done) | rfl
def Q0 (Z : State) (i0 : Int32) (i1 : Int64) (i2 : Int64) (i3 : Int64) (i4 : Int64) (i5 : Int64) (h0 : Heap) (n0 : Nat) (v : Option Value) (h : Heap) (L : List Loc) : Prop := v = some (.int 1) ∧ Fr n0 L
set_option maxRecDepth 65536 in
set_option maxHeartbeats 40000000 in
theorem rm0 (l : Launch) (Z : State) (a0 : Array Value) (hw : ∀ d ∈ tables_1, d.before a0 Z = true) (ws : List Jvm.Cond) (i0 : Int32) (i1 : Int64) (i2 : Int64) (i3 : Int64) (i4 : Int64) (i5 : Int64) (h0 : Heap) (n0 : Nat) (Z0 : n0 ≤ h0.size) :
    MetFree l x (head1 (Jvm.Cond.code x code maxLocals ret :: ws) room_1) (fun a' U => a' = #[(.int i0), (.long i1), (.long i2), (.long i3), (.long i4), (.long i5)] ∧ Z.Warmed39 U.vm ∧ U.heap = h0) (fun _ _ _ _ _ => True) (fun _ U o U' => ∃ v L, o = .returned v ∧ Q0 Z i0 i1 i2 i3 i4 i5 h0 n0 v U'.heap L ∧ FrameEnd U o U' L 1 10) := by
  refine MetFree.of_bodySF (plainFor_of_name pn_2) hisR ?_
  intro p e s m args' below meth c s₁ Bd hml0 hP hK
  obtain ⟨hargs, hZ, hh⟩ := hP
  have hx := Bd.exec
  have hby := Bd.bytes
  have hml : c.maxLocals = 32 := hml0
  have hown : s.vm.findClass "com/example/commitlog/commitlog/store/VerifyResultIsWholePinLaw" = some m.cls := findClass_of_methodNamed Bd.named
  have hnm := (name_of_methodNamed Bd.named Bd.method).1
  have X0 : Stand p l e room_1 s m args' below meth c s₁ [] 0 0 := Stand.of_body Bd
  have e0 : s₁.heap = h0 := by rw [← hh, Bd.state]; rfl
  have N0 := Fr.nil n0
  obtain ⟨A0, hA0⟩ : ∃ A, A = s₁.setTop (mkF m 0 #[.val (.int i0), .val (.long i1), .second, .val (.long i2), .second, .val (.long i3), .second, .val (.long i4), .second, .val (.long i5), .second, .unset, .unset, .unset, .unset, .unset, .unset, .unset, .unset, .unset, .unset, .unset, .unset, .unset, .unset, .unset, .unset, .unset, .unset, .unset, .unset, .unset] []) := ⟨_, rfl⟩
  have P0 : own_Rch p.tables e below A0 (s₁.setTop (mkF m 0 #[.val (.int i0), .val (.long i1), .second, .val (.long i2), .second, .val (.long i3), .second, .val (.long i4), .second, .val (.long i5), .second, .unset, .unset, .unset, .unset, .unset, .unset, .unset, .unset, .unset, .unset, .unset, .unset, .unset, .unset, .unset, .unset, .unset, .unset, .unset, .unset, .unset] [])) := fun t k => hA0 ▸ k
  have P00 : own_Rch p.tables e below (s₁.setTop (entryFrame m args' maxLocals)) A0 := fun t k => by rw [hargs]; exact castTop (ef_0 m i0 i1 i2 i3 i4 i5) (hA0 ▸ k)
  have P2 : own_Rch p.tables e below A0 (s₁.setTop (mkF m 3 #[.val (.int i0), .val (.long i1), .second, .val (.long i2), .second, .val (.long i3), .second, .val (.long i4), .second, .val (.long i5), .second, .unset, .unset, .unset, .unset, .unset, .unset, .unset, .unset, .unset, .unset, .unset, .unset, .unset, .unset, .unset, .unset, .unset, .unset, .unset, .unset, .unset] [(.int (i0 &&& (1 : Int32)))])) := fun t k => P0 t (by
    show Steps p.tables e below (s₁.setTop (mkF m 0 #[.val (.int i0), .val (.long i1), .second, .val (.long i2), .second, .val (.long i3), .second, .val (.long i4), .second, .val (.long i5), .second, .unset, .unset, .unset, .unset, .unset, .unset, .unset, .unset, .unset, .unset, .unset, .unset, .unset, .unset, .unset, .unset, .unset, .unset, .unset, .unset, .unset] [])) _
    refine XS.iloadN X0.here hx rfl (hb hby at_0) rfl ?_
    show Steps p.tables e below (s₁.setTop (mkF m 1 #[.val (.int i0), .val (.long i1), .second, .val (.long i2), .second, .val (.long i3), .second, .val (.long i4), .second, .val (.long i5), .second, .unset, .unset, .unset, .unset, .unset, .unset, .unset, .unset, .unset, .unset, .unset, .unset, .unset, .unset, .unset, .unset, .unset, .unset, .unset, .unset, .unset] [(.int i0)])) _
    refine XS.iconst X0.here hx rfl (hb hby at_1) ?_
    show Steps p.tables e below (s₁.setTop (mkF m 2 #[.val (.int i0), .val (.long i1), .second, .val (.long i2), .second, .val (.long i3), .second, .val (.long i4), .second, .val (.long i5), .second, .unset, .unset, .unset, .unset, .unset, .unset, .unset, .unset, .unset, .unset, .unset, .unset, .unset, .unset, .unset, .unset, .unset, .unset, .unset, .unset, .unset] [(.int (1 : Int32)), (.int i0)])) _
    refine XS.iand X0.here hx rfl (hb hby at_2) rfl ?_
    exact k)
  obtain ⟨v4, hv4⟩ : ∃ z : Int64, z = (if (i0 &&& (1 : Int32)) = (0 : Int32) then (0 : Int64) else (i1 &&& (9223372036854775807 : Int64))) := ⟨_, rfl⟩
  have P5 : own_Rch p.tables e below A0 (s₁.setTop (mkF m 15 #[.val (.int i0), .val (.long i1), .second, .val (.long i2), .second, .val (.long i3), .second, .val (.long i4), .second, .val (.long i5), .second, .unset, .unset, .unset, .unset, .unset, .unset, .unset, .unset, .unset, .unset, .unset, .unset, .unset, .unset, .unset, .unset, .unset, .unset, .unset, .unset, .unset] [(.long v4)])) := fun t k => P2 t (by
    by_cases hc3 : (i0 &&& (1 : Int32)) = (0 : Int32)
    · show Steps p.tables e below (s₁.setTop (mkF m 3 #[.val (.int i0), .val (.long i1), .second, .val (.long i2), .second, .val (.long i3), .second, .val (.long i4), .second, .val (.long i5), .second, .unset, .unset, .unset, .unset, .unset, .unset, .unset, .unset, .unset, .unset, .unset, .unset, .unset, .unset, .unset, .unset, .unset, .unset, .unset, .unset, .unset] [(.int (i0 &&& (1 : Int32)))])) _
      refine XS.ifYes X0.here hx rfl (pc0 := 3) (pc' := 14) rfl (hb hby at_3) rfl ((if0 _ _).trans (teq hc3).1) (by decide) (by decide) ?_
      have qv4 : v4 = (0 : Int64) := by rw [hv4]; simp only [if_pos hc3]
      rw [qv4] at k
      show Steps p.tables e below (s₁.setTop (mkF m 14 #[.val (.int i0), .val (.long i1), .second, .val (.long i2), .second, .val (.long i3), .second, .val (.long i4), .second, .val (.long i5), .second, .unset, .unset, .unset, .unset, .unset, .unset, .unset, .unset, .unset, .unset, .unset, .unset, .unset, .unset, .unset, .unset, .unset, .unset, .unset, .unset, .unset] [])) _
      refine XS.lconst X0.here hx rfl (hb hby at_14) ?_
      exact k
    · show Steps p.tables e below (s₁.setTop (mkF m 3 #[.val (.int i0), .val (.long i1), .second, .val (.long i2), .second, .val (.long i3), .second, .val (.long i4), .second, .val (.long i5), .second, .unset, .unset, .unset, .unset, .unset, .unset, .unset, .unset, .unset, .unset, .unset, .unset, .unset, .unset, .unset, .unset, .unset, .unset, .unset, .unset, .unset] [(.int (i0 &&& (1 : Int32)))])) _
      refine XS.ifNo X0.here hx rfl (hb hby at_3) rfl ((if0 _ _).trans (feq hc3).1) ?_
      have qv4 : v4 = (i1 &&& (9223372036854775807 : Int64)) := by rw [hv4]; simp only [if_neg hc3]
      rw [qv4] at k
      show Steps p.tables e below (s₁.setTop (mkF m 6 #[.val (.int i0), .val (.long i1), .second, .val (.long i2), .second, .val (.long i3), .second, .val (.long i4), .second, .val (.long i5), .second, .unset, .unset, .unset, .unset, .unset, .unset, .unset, .unset, .unset, .unset, .unset, .unset, .unset, .unset, .unset, .unset, .unset, .unset, .unset, .unset, .unset] [])) _
      refine XS.lloadN X0.here hx rfl (hb hby at_6) rfl ?_
      show Steps p.tables e below (s₁.setTop (mkF m 7 #[.val (.int i0), .val (.long i1), .second, .val (.long i2), .second, .val (.long i3), .second, .val (.long i4), .second, .val (.long i5), .second, .unset, .unset, .unset, .unset, .unset, .unset, .unset, .unset, .unset, .unset, .unset, .unset, .unset, .unset, .unset, .unset, .unset, .unset, .unset, .unset, .unset] [(.long i1)])) _
      refine X0.ldc2Long hx hown (mvT hZ (hw _ (List.mem_of_getElem? (i := 0) rfl))) (g := (mkF m 7 #[.val (.int i0), .val (.long i1), .second, .val (.long i2), .second, .val (.long i3), .second, .val (.long i4), .second, .val (.long i5), .second, .unset, .unset, .unset, .unset, .unset, .unset, .unset, .unset, .unset, .unset, .unset, .unset, .unset, .unset, .unset, .unset, .unset, .unset, .unset, .unset, .unset] [(.long i1)])) rfl (hb hby at_7) _ ?_
      show Steps p.tables e below (s₁.setTop (mkF m 10 #[.val (.int i0), .val (.long i1), .second, .val (.long i2), .second, .val (.long i3), .second, .val (.long i4), .second, .val (.long i5), .second, .unset, .unset, .unset, .unset, .unset, .unset, .unset, .unset, .unset, .unset, .unset, .unset, .unset, .unset, .unset, .unset, .unset, .unset, .unset, .unset, .unset] [(.long (9223372036854775807 : Int64)), (.long i1)])) _
      refine XS.land X0.here hx rfl (hb hby at_10) rfl ?_
      show Steps p.tables e below (s₁.setTop (mkF m 11 #[.val (.int i0), .val (.long i1), .second, .val (.long i2), .second, .val (.long i3), .second, .val (.long i4), .second, .val (.long i5), .second, .unset, .unset, .unset, .unset, .unset, .unset, .unset, .unset, .unset, .unset, .unset, .unset, .unset, .unset, .unset, .unset, .unset, .unset, .unset, .unset, .unset] [(.long (i1 &&& (9223372036854775807 : Int64)))])) _
      refine XS.goto X0.here hx rfl (pc0 := 11) (pc' := 15) rfl (hb hby at_11) (by decide) (by decide) ?_
      exact k)
  have P7 : own_Rch p.tables e below A0 (s₁.setTop (mkF m 20 #[.val (.int i0), .val (.long i1), .second, .val (.long i2), .second, .val (.long i3), .second, .val (.long i4), .second, .val (.long i5), .second, .val (.long v4), .second, .unset, .unset, .unset, .unset, .unset, .unset, .unset, .unset, .unset, .unset, .unset, .unset, .unset, .unset, .unset, .unset, .unset, .unset, .unset] [(.int (i0 &&& (2 : Int32)))])) := fun t k => P5 t (by
    show Steps p.tables e below (s₁.setTop (mkF m 15 #[.val (.int i0), .val (.long i1), .second, .val (.long i2), .second, .val (.long i3), .second, .val (.long i4), .second, .val (.long i5), .second, .unset, .unset, .unset, .unset, .unset, .unset, .unset, .unset, .unset, .unset, .unset, .unset, .unset, .unset, .unset, .unset, .unset, .unset, .unset, .unset, .unset] [(.long v4)])) _
    refine XS.lstore X0.here hx rfl (hb hby at_15) rfl (l' := #[.val (.int i0), .val (.long i1), .second, .val (.long i2), .second, .val (.long i3), .second, .val (.long i4), .second, .val (.long i5), .second, .val (.long v4), .second, .unset, .unset, .unset, .unset, .unset, .unset, .unset, .unset, .unset, .unset, .unset, .unset, .unset, .unset, .unset, .unset, .unset, .unset, .unset]) rfl ?_
    show Steps p.tables e below (s₁.setTop (mkF m 17 #[.val (.int i0), .val (.long i1), .second, .val (.long i2), .second, .val (.long i3), .second, .val (.long i4), .second, .val (.long i5), .second, .val (.long v4), .second, .unset, .unset, .unset, .unset, .unset, .unset, .unset, .unset, .unset, .unset, .unset, .unset, .unset, .unset, .unset, .unset, .unset, .unset, .unset] [])) _
    refine XS.iloadN X0.here hx rfl (hb hby at_17) rfl ?_
    show Steps p.tables e below (s₁.setTop (mkF m 18 #[.val (.int i0), .val (.long i1), .second, .val (.long i2), .second, .val (.long i3), .second, .val (.long i4), .second, .val (.long i5), .second, .val (.long v4), .second, .unset, .unset, .unset, .unset, .unset, .unset, .unset, .unset, .unset, .unset, .unset, .unset, .unset, .unset, .unset, .unset, .unset, .unset, .unset] [(.int i0)])) _
    refine XS.iconst X0.here hx rfl (hb hby at_18) ?_
    show Steps p.tables e below (s₁.setTop (mkF m 19 #[.val (.int i0), .val (.long i1), .second, .val (.long i2), .second, .val (.long i3), .second, .val (.long i4), .second, .val (.long i5), .second, .val (.long v4), .second, .unset, .unset, .unset, .unset, .unset, .unset, .unset, .unset, .unset, .unset, .unset, .unset, .unset, .unset, .unset, .unset, .unset, .unset, .unset] [(.int (2 : Int32)), (.int i0)])) _
    refine XS.iand X0.here hx rfl (hb hby at_19) rfl ?_
    exact k)
  obtain ⟨v9, hv9⟩ : ∃ z : Int64, z = (if (i0 &&& (2 : Int32)) = (0 : Int32) then (0 : Int64) else (i2 &&& (9223372036854775807 : Int64))) := ⟨_, rfl⟩
  have P10 : own_Rch p.tables e below A0 (s₁.setTop (mkF m 32 #[.val (.int i0), .val (.long i1), .second, .val (.long i2), .second, .val (.long i3), .second, .val (.long i4), .second, .val (.long i5), .second, .val (.long v4), .second, .unset, .unset, .unset, .unset, .unset, .unset, .unset, .unset, .unset, .unset, .unset, .unset, .unset, .unset, .unset, .unset, .unset, .unset, .unset] [(.long v9)])) := fun t k => P7 t (by
    by_cases hc8 : (i0 &&& (2 : Int32)) = (0 : Int32)
    · show Steps p.tables e below (s₁.setTop (mkF m 20 #[.val (.int i0), .val (.long i1), .second, .val (.long i2), .second, .val (.long i3), .second, .val (.long i4), .second, .val (.long i5), .second, .val (.long v4), .second, .unset, .unset, .unset, .unset, .unset, .unset, .unset, .unset, .unset, .unset, .unset, .unset, .unset, .unset, .unset, .unset, .unset, .unset, .unset] [(.int (i0 &&& (2 : Int32)))])) _
      refine XS.ifYes X0.here hx rfl (pc0 := 20) (pc' := 31) rfl (hb hby at_20) rfl ((if0 _ _).trans (teq hc8).1) (by decide) (by decide) ?_
      have qv9 : v9 = (0 : Int64) := by rw [hv9]; simp only [if_pos hc8]
      rw [qv9] at k
      show Steps p.tables e below (s₁.setTop (mkF m 31 #[.val (.int i0), .val (.long i1), .second, .val (.long i2), .second, .val (.long i3), .second, .val (.long i4), .second, .val (.long i5), .second, .val (.long v4), .second, .unset, .unset, .unset, .unset, .unset, .unset, .unset, .unset, .unset, .unset, .unset, .unset, .unset, .unset, .unset, .unset, .unset, .unset, .unset] [])) _
      refine XS.lconst X0.here hx rfl (hb hby at_31) ?_
      exact k
    · show Steps p.tables e below (s₁.setTop (mkF m 20 #[.val (.int i0), .val (.long i1), .second, .val (.long i2), .second, .val (.long i3), .second, .val (.long i4), .second, .val (.long i5), .second, .val (.long v4), .second, .unset, .unset, .unset, .unset, .unset, .unset, .unset, .unset, .unset, .unset, .unset, .unset, .unset, .unset, .unset, .unset, .unset, .unset, .unset] [(.int (i0 &&& (2 : Int32)))])) _
      refine XS.ifNo X0.here hx rfl (hb hby at_20) rfl ((if0 _ _).trans (feq hc8).1) ?_
      have qv9 : v9 = (i2 &&& (9223372036854775807 : Int64)) := by rw [hv9]; simp only [if_neg hc8]
      rw [qv9] at k
      show Steps p.tables e below (s₁.setTop (mkF m 23 #[.val (.int i0), .val (.long i1), .second, .val (.long i2), .second, .val (.long i3), .second, .val (.long i4), .second, .val (.long i5), .second, .val (.long v4), .second, .unset, .unset, .unset, .unset, .unset, .unset, .unset, .unset, .unset, .unset, .unset, .unset, .unset, .unset, .unset, .unset, .unset, .unset, .unset] [])) _
      refine XS.lloadN X0.here hx rfl (hb hby at_23) rfl ?_
      show Steps p.tables e below (s₁.setTop (mkF m 24 #[.val (.int i0), .val (.long i1), .second, .val (.long i2), .second, .val (.long i3), .second, .val (.long i4), .second, .val (.long i5), .second, .val (.long v4), .second, .unset, .unset, .unset, .unset, .unset, .unset, .unset, .unset, .unset, .unset, .unset, .unset, .unset, .unset, .unset, .unset, .unset, .unset, .unset] [(.long i2)])) _
      refine X0.ldc2Long hx hown (mvT hZ (hw _ (List.mem_of_getElem? (i := 0) rfl))) (g := (mkF m 24 #[.val (.int i0), .val (.long i1), .second, .val (.long i2), .second, .val (.long i3), .second, .val (.long i4), .second, .val (.long i5), .second, .val (.long v4), .second, .unset, .unset, .unset, .unset, .unset, .unset, .unset, .unset, .unset, .unset, .unset, .unset, .unset, .unset, .unset, .unset, .unset, .unset, .unset] [(.long i2)])) rfl (hb hby at_24) _ ?_
      show Steps p.tables e below (s₁.setTop (mkF m 27 #[.val (.int i0), .val (.long i1), .second, .val (.long i2), .second, .val (.long i3), .second, .val (.long i4), .second, .val (.long i5), .second, .val (.long v4), .second, .unset, .unset, .unset, .unset, .unset, .unset, .unset, .unset, .unset, .unset, .unset, .unset, .unset, .unset, .unset, .unset, .unset, .unset, .unset] [(.long (9223372036854775807 : Int64)), (.long i2)])) _
      refine XS.land X0.here hx rfl (hb hby at_27) rfl ?_
      show Steps p.tables e below (s₁.setTop (mkF m 28 #[.val (.int i0), .val (.long i1), .second, .val (.long i2), .second, .val (.long i3), .second, .val (.long i4), .second, .val (.long i5), .second, .val (.long v4), .second, .unset, .unset, .unset, .unset, .unset, .unset, .unset, .unset, .unset, .unset, .unset, .unset, .unset, .unset, .unset, .unset, .unset, .unset, .unset] [(.long (i2 &&& (9223372036854775807 : Int64)))])) _
      refine XS.goto X0.here hx rfl (pc0 := 28) (pc' := 32) rfl (hb hby at_28) (by decide) (by decide) ?_
      exact k)
  have P12 : own_Rch p.tables e below A0 (s₁.setTop (mkF m 37 #[.val (.int i0), .val (.long i1), .second, .val (.long i2), .second, .val (.long i3), .second, .val (.long i4), .second, .val (.long i5), .second, .val (.long v4), .second, .val (.long v9), .second, .unset, .unset, .unset, .unset, .unset, .unset, .unset, .unset, .unset, .unset, .unset, .unset, .unset, .unset, .unset, .unset, .unset] [(.int (i0 &&& (4 : Int32)))])) := fun t k => P10 t (by
    show Steps p.tables e below (s₁.setTop (mkF m 32 #[.val (.int i0), .val (.long i1), .second, .val (.long i2), .second, .val (.long i3), .second, .val (.long i4), .second, .val (.long i5), .second, .val (.long v4), .second, .unset, .unset, .unset, .unset, .unset, .unset, .unset, .unset, .unset, .unset, .unset, .unset, .unset, .unset, .unset, .unset, .unset, .unset, .unset] [(.long v9)])) _
    refine XS.lstore X0.here hx rfl (hb hby at_32) rfl (l' := #[.val (.int i0), .val (.long i1), .second, .val (.long i2), .second, .val (.long i3), .second, .val (.long i4), .second, .val (.long i5), .second, .val (.long v4), .second, .val (.long v9), .second, .unset, .unset, .unset, .unset, .unset, .unset, .unset, .unset, .unset, .unset, .unset, .unset, .unset, .unset, .unset, .unset, .unset]) rfl ?_
    show Steps p.tables e below (s₁.setTop (mkF m 34 #[.val (.int i0), .val (.long i1), .second, .val (.long i2), .second, .val (.long i3), .second, .val (.long i4), .second, .val (.long i5), .second, .val (.long v4), .second, .val (.long v9), .second, .unset, .unset, .unset, .unset, .unset, .unset, .unset, .unset, .unset, .unset, .unset, .unset, .unset, .unset, .unset, .unset, .unset] [])) _
    refine XS.iloadN X0.here hx rfl (hb hby at_34) rfl ?_
    show Steps p.tables e below (s₁.setTop (mkF m 35 #[.val (.int i0), .val (.long i1), .second, .val (.long i2), .second, .val (.long i3), .second, .val (.long i4), .second, .val (.long i5), .second, .val (.long v4), .second, .val (.long v9), .second, .unset, .unset, .unset, .unset, .unset, .unset, .unset, .unset, .unset, .unset, .unset, .unset, .unset, .unset, .unset, .unset, .unset] [(.int i0)])) _
    refine XS.iconst X0.here hx rfl (hb hby at_35) ?_
    show Steps p.tables e below (s₁.setTop (mkF m 36 #[.val (.int i0), .val (.long i1), .second, .val (.long i2), .second, .val (.long i3), .second, .val (.long i4), .second, .val (.long i5), .second, .val (.long v4), .second, .val (.long v9), .second, .unset, .unset, .unset, .unset, .unset, .unset, .unset, .unset, .unset, .unset, .unset, .unset, .unset, .unset, .unset, .unset, .unset] [(.int (4 : Int32)), (.int i0)])) _
    refine XS.iand X0.here hx rfl (hb hby at_36) rfl ?_
    exact k)
  obtain ⟨v14, hv14⟩ : ∃ z : Int64, z = (if (i0 &&& (4 : Int32)) = (0 : Int32) then (0 : Int64) else (i3 &&& (9223372036854775807 : Int64))) := ⟨_, rfl⟩
  have P15 : own_Rch p.tables e below A0 (s₁.setTop (mkF m 50 #[.val (.int i0), .val (.long i1), .second, .val (.long i2), .second, .val (.long i3), .second, .val (.long i4), .second, .val (.long i5), .second, .val (.long v4), .second, .val (.long v9), .second, .unset, .unset, .unset, .unset, .unset, .unset, .unset, .unset, .unset, .unset, .unset, .unset, .unset, .unset, .unset, .unset, .unset] [(.long v14)])) := fun t k => P12 t (by
    by_cases hc13 : (i0 &&& (4 : Int32)) = (0 : Int32)
    · show Steps p.tables e below (s₁.setTop (mkF m 37 #[.val (.int i0), .val (.long i1), .second, .val (.long i2), .second, .val (.long i3), .second, .val (.long i4), .second, .val (.long i5), .second, .val (.long v4), .second, .val (.long v9), .second, .unset, .unset, .unset, .unset, .unset, .unset, .unset, .unset, .unset, .unset, .unset, .unset, .unset, .unset, .unset, .unset, .unset] [(.int (i0 &&& (4 : Int32)))])) _
      refine XS.ifYes X0.here hx rfl (pc0 := 37) (pc' := 49) rfl (hb hby at_37) rfl ((if0 _ _).trans (teq hc13).1) (by decide) (by decide) ?_
      have qv14 : v14 = (0 : Int64) := by rw [hv14]; simp only [if_pos hc13]
      rw [qv14] at k
      show Steps p.tables e below (s₁.setTop (mkF m 49 #[.val (.int i0), .val (.long i1), .second, .val (.long i2), .second, .val (.long i3), .second, .val (.long i4), .second, .val (.long i5), .second, .val (.long v4), .second, .val (.long v9), .second, .unset, .unset, .unset, .unset, .unset, .unset, .unset, .unset, .unset, .unset, .unset, .unset, .unset, .unset, .unset, .unset, .unset] [])) _
      refine XS.lconst X0.here hx rfl (hb hby at_49) ?_
      exact k
    · show Steps p.tables e below (s₁.setTop (mkF m 37 #[.val (.int i0), .val (.long i1), .second, .val (.long i2), .second, .val (.long i3), .second, .val (.long i4), .second, .val (.long i5), .second, .val (.long v4), .second, .val (.long v9), .second, .unset, .unset, .unset, .unset, .unset, .unset, .unset, .unset, .unset, .unset, .unset, .unset, .unset, .unset, .unset, .unset, .unset] [(.int (i0 &&& (4 : Int32)))])) _
      refine XS.ifNo X0.here hx rfl (hb hby at_37) rfl ((if0 _ _).trans (feq hc13).1) ?_
      have qv14 : v14 = (i3 &&& (9223372036854775807 : Int64)) := by rw [hv14]; simp only [if_neg hc13]
      rw [qv14] at k
      show Steps p.tables e below (s₁.setTop (mkF m 40 #[.val (.int i0), .val (.long i1), .second, .val (.long i2), .second, .val (.long i3), .second, .val (.long i4), .second, .val (.long i5), .second, .val (.long v4), .second, .val (.long v9), .second, .unset, .unset, .unset, .unset, .unset, .unset, .unset, .unset, .unset, .unset, .unset, .unset, .unset, .unset, .unset, .unset, .unset] [])) _
      refine XS.lload X0.here hx rfl (hb hby at_40) rfl ?_
      show Steps p.tables e below (s₁.setTop (mkF m 42 #[.val (.int i0), .val (.long i1), .second, .val (.long i2), .second, .val (.long i3), .second, .val (.long i4), .second, .val (.long i5), .second, .val (.long v4), .second, .val (.long v9), .second, .unset, .unset, .unset, .unset, .unset, .unset, .unset, .unset, .unset, .unset, .unset, .unset, .unset, .unset, .unset, .unset, .unset] [(.long i3)])) _
      refine X0.ldc2Long hx hown (mvT hZ (hw _ (List.mem_of_getElem? (i := 0) rfl))) (g := (mkF m 42 #[.val (.int i0), .val (.long i1), .second, .val (.long i2), .second, .val (.long i3), .second, .val (.long i4), .second, .val (.long i5), .second, .val (.long v4), .second, .val (.long v9), .second, .unset, .unset, .unset, .unset, .unset, .unset, .unset, .unset, .unset, .unset, .unset, .unset, .unset, .unset, .unset, .unset, .unset] [(.long i3)])) rfl (hb hby at_42) _ ?_
      show Steps p.tables e below (s₁.setTop (mkF m 45 #[.val (.int i0), .val (.long i1), .second, .val (.long i2), .second, .val (.long i3), .second, .val (.long i4), .second, .val (.long i5), .second, .val (.long v4), .second, .val (.long v9), .second, .unset, .unset, .unset, .unset, .unset, .unset, .unset, .unset, .unset, .unset, .unset, .unset, .unset, .unset, .unset, .unset, .unset] [(.long (9223372036854775807 : Int64)), (.long i3)])) _
      refine XS.land X0.here hx rfl (hb hby at_45) rfl ?_
      show Steps p.tables e below (s₁.setTop (mkF m 46 #[.val (.int i0), .val (.long i1), .second, .val (.long i2), .second, .val (.long i3), .second, .val (.long i4), .second, .val (.long i5), .second, .val (.long v4), .second, .val (.long v9), .second, .unset, .unset, .unset, .unset, .unset, .unset, .unset, .unset, .unset, .unset, .unset, .unset, .unset, .unset, .unset, .unset, .unset] [(.long (i3 &&& (9223372036854775807 : Int64)))])) _
      refine XS.goto X0.here hx rfl (pc0 := 46) (pc' := 50) rfl (hb hby at_46) (by decide) (by decide) ?_
      exact k)
  have P17 : own_Rch p.tables e below A0 (s₁.setTop (mkF m 60 #[.val (.int i0), .val (.long i1), .second, .val (.long i2), .second, .val (.long i3), .second, .val (.long i4), .second, .val (.long i5), .second, .val (.long v4), .second, .val (.long v9), .second, .val (.long v14), .second, .val (.long i4), .second, .unset, .unset, .unset, .unset, .unset, .unset, .unset, .unset, .unset, .unset, .unset, .unset, .unset] [(.int (i0 &&& (8 : Int32)))])) := fun t k => P15 t (by
    show Steps p.tables e below (s₁.setTop (mkF m 50 #[.val (.int i0), .val (.long i1), .second, .val (.long i2), .second, .val (.long i3), .second, .val (.long i4), .second, .val (.long i5), .second, .val (.long v4), .second, .val (.long v9), .second, .unset, .unset, .unset, .unset, .unset, .unset, .unset, .unset, .unset, .unset, .unset, .unset, .unset, .unset, .unset, .unset, .unset] [(.long v14)])) _
    refine XS.lstore X0.here hx rfl (hb hby at_50) rfl (l' := #[.val (.int i0), .val (.long i1), .second, .val (.long i2), .second, .val (.long i3), .second, .val (.long i4), .second, .val (.long i5), .second, .val (.long v4), .second, .val (.long v9), .second, .val (.long v14), .second, .unset, .unset, .unset, .unset, .unset, .unset, .unset, .unset, .unset, .unset, .unset, .unset, .unset, .unset, .unset]) rfl ?_
    show Steps p.tables e below (s₁.setTop (mkF m 52 #[.val (.int i0), .val (.long i1), .second, .val (.long i2), .second, .val (.long i3), .second, .val (.long i4), .second, .val (.long i5), .second, .val (.long v4), .second, .val (.long v9), .second, .val (.long v14), .second, .unset, .unset, .unset, .unset, .unset, .unset, .unset, .unset, .unset, .unset, .unset, .unset, .unset, .unset, .unset] [])) _
    refine XS.lload X0.here hx rfl (hb hby at_52) rfl ?_
    show Steps p.tables e below (s₁.setTop (mkF m 54 #[.val (.int i0), .val (.long i1), .second, .val (.long i2), .second, .val (.long i3), .second, .val (.long i4), .second, .val (.long i5), .second, .val (.long v4), .second, .val (.long v9), .second, .val (.long v14), .second, .unset, .unset, .unset, .unset, .unset, .unset, .unset, .unset, .unset, .unset, .unset, .unset, .unset, .unset, .unset] [(.long i4)])) _
    refine XS.lstore X0.here hx rfl (hb hby at_54) rfl (l' := #[.val (.int i0), .val (.long i1), .second, .val (.long i2), .second, .val (.long i3), .second, .val (.long i4), .second, .val (.long i5), .second, .val (.long v4), .second, .val (.long v9), .second, .val (.long v14), .second, .val (.long i4), .second, .unset, .unset, .unset, .unset, .unset, .unset, .unset, .unset, .unset, .unset, .unset, .unset, .unset]) rfl ?_
    show Steps p.tables e below (s₁.setTop (mkF m 56 #[.val (.int i0), .val (.long i1), .second, .val (.long i2), .second, .val (.long i3), .second, .val (.long i4), .second, .val (.long i5), .second, .val (.long v4), .second, .val (.long v9), .second, .val (.long v14), .second, .val (.long i4), .second, .unset, .unset, .unset, .unset, .unset, .unset, .unset, .unset, .unset, .unset, .unset, .unset, .unset] [])) _
    refine XS.iloadN X0.here hx rfl (hb hby at_56) rfl ?_
    show Steps p.tables e below (s₁.setTop (mkF m 57 #[.val (.int i0), .val (.long i1), .second, .val (.long i2), .second, .val (.long i3), .second, .val (.long i4), .second, .val (.long i5), .second, .val (.long v4), .second, .val (.long v9), .second, .val (.long v14), .second, .val (.long i4), .second, .unset, .unset, .unset, .unset, .unset, .unset, .unset, .unset, .unset, .unset, .unset, .unset, .unset] [(.int i0)])) _
    refine XS.bipush X0.here hx rfl (hb hby at_57) ?_
    show Steps p.tables e below (s₁.setTop (mkF m 59 #[.val (.int i0), .val (.long i1), .second, .val (.long i2), .second, .val (.long i3), .second, .val (.long i4), .second, .val (.long i5), .second, .val (.long v4), .second, .val (.long v9), .second, .val (.long v14), .second, .val (.long i4), .second, .unset, .unset, .unset, .unset, .unset, .unset, .unset, .unset, .unset, .unset, .unset, .unset, .unset] [(.int (8 : Int32)), (.int i0)])) _
    refine XS.iand X0.here hx rfl (hb hby at_59) rfl ?_
    exact k)
  obtain ⟨v19, hv19⟩ : ∃ z : Int64, z = (if (i0 &&& (8 : Int32)) = (0 : Int32) then i4 else i5) := ⟨_, rfl⟩
  have P20 : own_Rch p.tables e below A0 (s₁.setTop (mkF m 70 #[.val (.int i0), .val (.long i1), .second, .val (.long i2), .second, .val (.long i3), .second, .val (.long i4), .second, .val (.long i5), .second, .val (.long v4), .second, .val (.long v9), .second, .val (.long v14), .second, .val (.long i4), .second, .unset, .unset, .unset, .unset, .unset, .unset, .unset, .unset, .unset, .unset, .unset, .unset, .unset] [(.long v19)])) := fun t k => P17 t (by
    by_cases hc18 : (i0 &&& (8 : Int32)) = (0 : Int32)
    · show Steps p.tables e below (s₁.setTop (mkF m 60 #[.val (.int i0), .val (.long i1), .second, .val (.long i2), .second, .val (.long i3), .second, .val (.long i4), .second, .val (.long i5), .second, .val (.long v4), .second, .val (.long v9), .second, .val (.long v14), .second, .val (.long i4), .second, .unset, .unset, .unset, .unset, .unset, .unset, .unset, .unset, .unset, .unset, .unset, .unset, .unset] [(.int (i0 &&& (8 : Int32)))])) _
      refine XS.ifYes X0.here hx rfl (pc0 := 60) (pc' := 68) rfl (hb hby at_60) rfl ((if0 _ _).trans (teq hc18).1) (by decide) (by decide) ?_
      have qv19 : v19 = i4 := by rw [hv19]; simp only [if_pos hc18]
      rw [qv19] at k
      show Steps p.tables e below (s₁.setTop (mkF m 68 #[.val (.int i0), .val (.long i1), .second, .val (.long i2), .second, .val (.long i3), .second, .val (.long i4), .second, .val (.long i5), .second, .val (.long v4), .second, .val (.long v9), .second, .val (.long v14), .second, .val (.long i4), .second, .unset, .unset, .unset, .unset, .unset, .unset, .unset, .unset, .unset, .unset, .unset, .unset, .unset] [])) _
      refine XS.lload X0.here hx rfl (hb hby at_68) rfl ?_
      exact k
    · show Steps p.tables e below (s₁.setTop (mkF m 60 #[.val (.int i0), .val (.long i1), .second, .val (.long i2), .second, .val (.long i3), .second, .val (.long i4), .second, .val (.long i5), .second, .val (.long v4), .second, .val (.long v9), .second, .val (.long v14), .second, .val (.long i4), .second, .unset, .unset, .unset, .unset, .unset, .unset, .unset, .unset, .unset, .unset, .unset, .unset, .unset] [(.int (i0 &&& (8 : Int32)))])) _
      refine XS.ifNo X0.here hx rfl (hb hby at_60) rfl ((if0 _ _).trans (feq hc18).1) ?_
      have qv19 : v19 = i5 := by rw [hv19]; simp only [if_neg hc18]
      rw [qv19] at k
      show Steps p.tables e below (s₁.setTop (mkF m 63 #[.val (.int i0), .val (.long i1), .second, .val (.long i2), .second, .val (.long i3), .second, .val (.long i4), .second, .val (.long i5), .second, .val (.long v4), .second, .val (.long v9), .second, .val (.long v14), .second, .val (.long i4), .second, .unset, .unset, .unset, .unset, .unset, .unset, .unset, .unset, .unset, .unset, .unset, .unset, .unset] [])) _
      refine XS.lload X0.here hx rfl (hb hby at_63) rfl ?_
      show Steps p.tables e below (s₁.setTop (mkF m 65 #[.val (.int i0), .val (.long i1), .second, .val (.long i2), .second, .val (.long i3), .second, .val (.long i4), .second, .val (.long i5), .second, .val (.long v4), .second, .val (.long v9), .second, .val (.long v14), .second, .val (.long i4), .second, .unset, .unset, .unset, .unset, .unset, .unset, .unset, .unset, .unset, .unset, .unset, .unset, .unset] [(.long i5)])) _
      refine XS.goto X0.here hx rfl (pc0 := 65) (pc' := 70) rfl (hb hby at_65) (by decide) (by decide) ?_
      exact k)
  have P22 : own_Rch p.tables e below A0 (s₁.setTop (mkF m 76 #[.val (.int i0), .val (.long i1), .second, .val (.long i2), .second, .val (.long i3), .second, .val (.long i4), .second, .val (.long i5), .second, .val (.long v4), .second, .val (.long v9), .second, .val (.long v14), .second, .val (.long i4), .second, .val (.long v19), .second, .unset, .unset, .unset, .unset, .unset, .unset, .unset, .unset, .unset, .unset, .unset] [(.int (i0 &&& (16 : Int32)))])) := fun t k => P20 t (by
    show Steps p.tables e below (s₁.setTop (mkF m 70 #[.val (.int i0), .val (.long i1), .second, .val (.long i2), .second, .val (.long i3), .second, .val (.long i4), .second, .val (.long i5), .second, .val (.long v4), .second, .val (.long v9), .second, .val (.long v14), .second, .val (.long i4), .second, .unset, .unset, .unset, .unset, .unset, .unset, .unset, .unset, .unset, .unset, .unset, .unset, .unset] [(.long v19)])) _
    refine XS.lstore X0.here hx rfl (hb hby at_70) rfl (l' := #[.val (.int i0), .val (.long i1), .second, .val (.long i2), .second, .val (.long i3), .second, .val (.long i4), .second, .val (.long i5), .second, .val (.long v4), .second, .val (.long v9), .second, .val (.long v14), .second, .val (.long i4), .second, .val (.long v19), .second, .unset, .unset, .unset, .unset, .unset, .unset, .unset, .unset, .unset, .unset, .unset]) rfl ?_
    show Steps p.tables e below (s₁.setTop (mkF m 72 #[.val (.int i0), .val (.long i1), .second, .val (.long i2), .second, .val (.long i3), .second, .val (.long i4), .second, .val (.long i5), .second, .val (.long v4), .second, .val (.long v9), .second, .val (.long v14), .second, .val (.long i4), .second, .val (.long v19), .second, .unset, .unset, .unset, .unset, .unset, .unset, .unset, .unset, .unset, .unset, .unset] [])) _
    refine XS.iloadN X0.here hx rfl (hb hby at_72) rfl ?_
    show Steps p.tables e below (s₁.setTop (mkF m 73 #[.val (.int i0), .val (.long i1), .second, .val (.long i2), .second, .val (.long i3), .second, .val (.long i4), .second, .val (.long i5), .second, .val (.long v4), .second, .val (.long v9), .second, .val (.long v14), .second, .val (.long i4), .second, .val (.long v19), .second, .unset, .unset, .unset, .unset, .unset, .unset, .unset, .unset, .unset, .unset, .unset] [(.int i0)])) _
    refine XS.bipush X0.here hx rfl (hb hby at_73) ?_
    show Steps p.tables e below (s₁.setTop (mkF m 75 #[.val (.int i0), .val (.long i1), .second, .val (.long i2), .second, .val (.long i3), .second, .val (.long i4), .second, .val (.long i5), .second, .val (.long v4), .second, .val (.long v9), .second, .val (.long v14), .second, .val (.long i4), .second, .val (.long v19), .second, .unset, .unset, .unset, .unset, .unset, .unset, .unset, .unset, .unset, .unset, .unset] [(.int (16 : Int32)), (.int i0)])) _
    refine XS.iand X0.here hx rfl (hb hby at_75) rfl ?_
    exact k)
  obtain ⟨v24, hv24⟩ : ∃ z : Int32, z = (if (i0 &&& (16 : Int32)) = (0 : Int32) then (0 : Int32) else (1 : Int32)) := ⟨_, rfl⟩
  have P25 : own_Rch p.tables e below A0 (s₁.setTop (mkF m 84 #[.val (.int i0), .val (.long i1), .second, .val (.long i2), .second, .val (.long i3), .second, .val (.long i4), .second, .val (.long i5), .second, .val (.long v4), .second, .val (.long v9), .second, .val (.long v14), .second, .val (.long i4), .second, .val (.long v19), .second, .unset, .unset, .unset, .unset, .unset, .unset, .unset, .unset, .unset, .unset, .unset] [(.int v24)])) := fun t k => P22 t (by
    by_cases hc23 : (i0 &&& (16 : Int32)) = (0 : Int32)
    · show Steps p.tables e below (s₁.setTop (mkF m 76 #[.val (.int i0), .val (.long i1), .second, .val (.long i2), .second, .val (.long i3), .second, .val (.long i4), .second, .val (.long i5), .second, .val (.long v4), .second, .val (.long v9), .second, .val (.long v14), .second, .val (.long i4), .second, .val (.long v19), .second, .unset, .unset, .unset, .unset, .unset, .unset, .unset, .unset, .unset, .unset, .unset] [(.int (i0 &&& (16 : Int32)))])) _
      refine XS.ifYes X0.here hx rfl (pc0 := 76) (pc' := 83) rfl (hb hby at_76) rfl ((if0 _ _).trans (teq hc23).1) (by decide) (by decide) ?_
      have qv24 : v24 = (0 : Int32) := by rw [hv24]; simp only [if_pos hc23]
      rw [qv24] at k
      show Steps p.tables e below (s₁.setTop (mkF m 83 #[.val (.int i0), .val (.long i1), .second, .val (.long i2), .second, .val (.long i3), .second, .val (.long i4), .second, .val (.long i5), .second, .val (.long v4), .second, .val (.long v9), .second, .val (.long v14), .second, .val (.long i4), .second, .val (.long v19), .second, .unset, .unset, .unset, .unset, .unset, .unset, .unset, .unset, .unset, .unset, .unset] [])) _
      refine XS.iconst X0.here hx rfl (hb hby at_83) ?_
      exact k
    · show Steps p.tables e below (s₁.setTop (mkF m 76 #[.val (.int i0), .val (.long i1), .second, .val (.long i2), .second, .val (.long i3), .second, .val (.long i4), .second, .val (.long i5), .second, .val (.long v4), .second, .val (.long v9), .second, .val (.long v14), .second, .val (.long i4), .second, .val (.long v19), .second, .unset, .unset, .unset, .unset, .unset, .unset, .unset, .unset, .unset, .unset, .unset] [(.int (i0 &&& (16 : Int32)))])) _
      refine XS.ifNo X0.here hx rfl (hb hby at_76) rfl ((if0 _ _).trans (feq hc23).1) ?_
      have qv24 : v24 = (1 : Int32) := by rw [hv24]; simp only [if_neg hc23]
      rw [qv24] at k
      show Steps p.tables e below (s₁.setTop (mkF m 79 #[.val (.int i0), .val (.long i1), .second, .val (.long i2), .second, .val (.long i3), .second, .val (.long i4), .second, .val (.long i5), .second, .val (.long v4), .second, .val (.long v9), .second, .val (.long v14), .second, .val (.long i4), .second, .val (.long v19), .second, .unset, .unset, .unset, .unset, .unset, .unset, .unset, .unset, .unset, .unset, .unset] [])) _
      refine XS.iconst X0.here hx rfl (hb hby at_79) ?_
      show Steps p.tables e below (s₁.setTop (mkF m 80 #[.val (.int i0), .val (.long i1), .second, .val (.long i2), .second, .val (.long i3), .second, .val (.long i4), .second, .val (.long i5), .second, .val (.long v4), .second, .val (.long v9), .second, .val (.long v14), .second, .val (.long i4), .second, .val (.long v19), .second, .unset, .unset, .unset, .unset, .unset, .unset, .unset, .unset, .unset, .unset, .unset] [(.int (1 : Int32))])) _
      refine XS.goto X0.here hx rfl (pc0 := 80) (pc' := 84) rfl (hb hby at_80) (by decide) (by decide) ?_
      exact k)
  have P26 : own_Rch p.tables e below A0 (s₁.setTop (mkF m 92 #[.val (.int i0), .val (.long i1), .second, .val (.long i2), .second, .val (.long i3), .second, .val (.long i4), .second, .val (.long i5), .second, .val (.long v4), .second, .val (.long v9), .second, .val (.long v14), .second, .val (.long i4), .second, .val (.long v19), .second, .val (.int v24), .val (.long (i1 ^^^ i5)), .second, .unset, .unset, .unset, .unset, .unset, .unset, .unset, .unset] [])) := fun t k => P25 t (by
    show Steps p.tables e below (s₁.setTop (mkF m 84 #[.val (.int i0), .val (.long i1), .second, .val (.long i2), .second, .val (.long i3), .second, .val (.long i4), .second, .val (.long i5), .second, .val (.long v4), .second, .val (.long v9), .second, .val (.long v14), .second, .val (.long i4), .second, .val (.long v19), .second, .unset, .unset, .unset, .unset, .unset, .unset, .unset, .unset, .unset, .unset, .unset] [(.int v24)])) _
    refine XS.istore X0.here hx rfl (hb hby at_84) rfl (l' := #[.val (.int i0), .val (.long i1), .second, .val (.long i2), .second, .val (.long i3), .second, .val (.long i4), .second, .val (.long i5), .second, .val (.long v4), .second, .val (.long v9), .second, .val (.long v14), .second, .val (.long i4), .second, .val (.long v19), .second, .val (.int v24), .unset, .unset, .unset, .unset, .unset, .unset, .unset, .unset, .unset, .unset]) rfl ?_
    show Steps p.tables e below (s₁.setTop (mkF m 86 #[.val (.int i0), .val (.long i1), .second, .val (.long i2), .second, .val (.long i3), .second, .val (.long i4), .second, .val (.long i5), .second, .val (.long v4), .second, .val (.long v9), .second, .val (.long v14), .second, .val (.long i4), .second, .val (.long v19), .second, .val (.int v24), .unset, .unset, .unset, .unset, .unset, .unset, .unset, .unset, .unset, .unset] [])) _
    refine XS.lloadN X0.here hx rfl (hb hby at_86) rfl ?_
    show Steps p.tables e below (s₁.setTop (mkF m 87 #[.val (.int i0), .val (.long i1), .second, .val (.long i2), .second, .val (.long i3), .second, .val (.long i4), .second, .val (.long i5), .second, .val (.long v4), .second, .val (.long v9), .second, .val (.long v14), .second, .val (.long i4), .second, .val (.long v19), .second, .val (.int v24), .unset, .unset, .unset, .unset, .unset, .unset, .unset, .unset, .unset, .unset] [(.long i1)])) _
    refine XS.lload X0.here hx rfl (hb hby at_87) rfl ?_
    show Steps p.tables e below (s₁.setTop (mkF m 89 #[.val (.int i0), .val (.long i1), .second, .val (.long i2), .second, .val (.long i3), .second, .val (.long i4), .second, .val (.long i5), .second, .val (.long v4), .second, .val (.long v9), .second, .val (.long v14), .second, .val (.long i4), .second, .val (.long v19), .second, .val (.int v24), .unset, .unset, .unset, .unset, .unset, .unset, .unset, .unset, .unset, .unset] [(.long i5), (.long i1)])) _
    refine XS.lxor X0.here hx rfl (hb hby at_89) rfl ?_
    show Steps p.tables e below (s₁.setTop (mkF m 90 #[.val (.int i0), .val (.long i1), .second, .val (.long i2), .second, .val (.long i3), .second, .val (.long i4), .second, .val (.long i5), .second, .val (.long v4), .second, .val (.long v9), .second, .val (.long v14), .second, .val (.long i4), .second, .val (.long v19), .second, .val (.int v24), .unset, .unset, .unset, .unset, .unset, .unset, .unset, .unset, .unset, .unset] [(.long (i1 ^^^ i5))])) _
    refine XS.lstore X0.here hx rfl (hb hby at_90) rfl (l' := #[.val (.int i0), .val (.long i1), .second, .val (.long i2), .second, .val (.long i3), .second, .val (.long i4), .second, .val (.long i5), .second, .val (.long v4), .second, .val (.long v9), .second, .val (.long v14), .second, .val (.long i4), .second, .val (.long v19), .second, .val (.int v24), .val (.long (i1 ^^^ i5)), .second, .unset, .unset, .unset, .unset, .unset, .unset, .unset, .unset]) rfl ?_
    exact k)
  obtain ⟨v27, hv27, P28⟩ : ∃ z : Int64, z = (i1 ^^^ i5) ∧ own_Rch p.tables e below A0 (s₁.setTop (mkF m 92 #[.val (.int i0), .val (.long i1), .second, .val (.long i2), .second, .val (.long i3), .second, .val (.long i4), .second, .val (.long i5), .second, .val (.long v4), .second, .val (.long v9), .second, .val (.long v14), .second, .val (.long i4), .second, .val (.long v19), .second, .val (.int v24), .val (.long z), .second, .unset, .unset, .unset, .unset, .unset, .unset, .unset, .unset] [])) := ⟨_, rfl, P26⟩
  have P29 : own_Rch p.tables e below A0 (s₁.setTop (mkF m 99 #[.val (.int i0), .val (.long i1), .second, .val (.long i2), .second, .val (.long i3), .second, .val (.long i4), .second, .val (.long i5), .second, .val (.long v4), .second, .val (.long v9), .second, .val (.long v14), .second, .val (.long i4), .second, .val (.long v19), .second, .val (.int v24), .val (.long v27), .second, .val (.long (i2 &&& (9223372036854775807 : Int64))), .second, .unset, .unset, .unset, .unset, .unset, .unset] [])) := fun t k => P28 t (by
    show Steps p.tables e below (s₁.setTop (mkF m 92 #[.val (.int i0), .val (.long i1), .second, .val (.long i2), .second, .val (.long i3), .second, .val (.long i4), .second, .val (.long i5), .second, .val (.long v4), .second, .val (.long v9), .second, .val (.long v14), .second, .val (.long i4), .second, .val (.long v19), .second, .val (.int v24), .val (.long v27), .second, .unset, .unset, .unset, .unset, .unset, .unset, .unset, .unset] [])) _
    refine XS.lloadN X0.here hx rfl (hb hby at_92) rfl ?_
    show Steps p.tables e below (s₁.setTop (mkF m 93 #[.val (.int i0), .val (.long i1), .second, .val (.long i2), .second, .val (.long i3), .second, .val (.long i4), .second, .val (.long i5), .second, .val (.long v4), .second, .val (.long v9), .second, .val (.long v14), .second, .val (.long i4), .second, .val (.long v19), .second, .val (.int v24), .val (.long v27), .second, .unset, .unset, .unset, .unset, .unset, .unset, .unset, .unset] [(.long i2)])) _
    refine X0.ldc2Long hx hown (mvT hZ (hw _ (List.mem_of_getElem? (i := 0) rfl))) (g := (mkF m 93 #[.val (.int i0), .val (.long i1), .second, .val (.long i2), .second, .val (.long i3), .second, .val (.long i4), .second, .val (.long i5), .second, .val (.long v4), .second, .val (.long v9), .second, .val (.long v14), .second, .val (.long i4), .second, .val (.long v19), .second, .val (.int v24), .val (.long v27), .second, .unset, .unset, .unset, .unset, .unset, .unset, .unset, .unset] [(.long i2)])) rfl (hb hby at_93) _ ?_
    show Steps p.tables e below (s₁.setTop (mkF m 96 #[.val (.int i0), .val (.long i1), .second, .val (.long i2), .second, .val (.long i3), .second, .val (.long i4), .second, .val (.long i5), .second, .val (.long v4), .second, .val (.long v9), .second, .val (.long v14), .second, .val (.long i4), .second, .val (.long v19), .second, .val (.int v24), .val (.long v27), .second, .unset, .unset, .unset, .unset, .unset, .unset, .unset, .unset] [(.long (9223372036854775807 : Int64)), (.long i2)])) _
    refine XS.land X0.here hx rfl (hb hby at_96) rfl ?_
    show Steps p.tables e below (s₁.setTop (mkF m 97 #[.val (.int i0), .val (.long i1), .second, .val (.long i2), .second, .val (.long i3), .second, .val (.long i4), .second, .val (.long i5), .second, .val (.long v4), .second, .val (.long v9), .second, .val (.long v14), .second, .val (.long i4), .second, .val (.long v19), .second, .val (.int v24), .val (.long v27), .second, .unset, .unset, .unset, .unset, .unset, .unset, .unset, .unset] [(.long (i2 &&& (9223372036854775807 : Int64)))])) _
    refine XS.lstore X0.here hx rfl (hb hby at_97) rfl (l' := #[.val (.int i0), .val (.long i1), .second, .val (.long i2), .second, .val (.long i3), .second, .val (.long i4), .second, .val (.long i5), .second, .val (.long v4), .second, .val (.long v9), .second, .val (.long v14), .second, .val (.long i4), .second, .val (.long v19), .second, .val (.int v24), .val (.long v27), .second, .val (.long (i2 &&& (9223372036854775807 : Int64))), .second, .unset, .unset, .unset, .unset, .unset, .unset]) rfl ?_
    exact k)
  obtain ⟨v30, hv30, P31⟩ : ∃ z : Int64, z = (i2 &&& (9223372036854775807 : Int64)) ∧ own_Rch p.tables e below A0 (s₁.setTop (mkF m 99 #[.val (.int i0), .val (.long i1), .second, .val (.long i2), .second, .val (.long i3), .second, .val (.long i4), .second, .val (.long i5), .second, .val (.long v4), .second, .val (.long v9), .second, .val (.long v14), .second, .val (.long i4), .second, .val (.long v19), .second, .val (.int v24), .val (.long v27), .second, .val (.long z), .second, .unset, .unset, .unset, .unset, .unset, .unset] [])) := ⟨_, rfl, P29⟩
  have P32 : own_Rch p.tables e below A0 (s₁.setTop (mkF m 107 #[.val (.int i0), .val (.long i1), .second, .val (.long i2), .second, .val (.long i3), .second, .val (.long i4), .second, .val (.long i5), .second, .val (.long v4), .second, .val (.long v9), .second, .val (.long v14), .second, .val (.long i4), .second, .val (.long v19), .second, .val (.int v24), .val (.long v27), .second, .val (.long v30), .second, .val (.long (i3 &&& (9223372036854775807 : Int64))), .second, .unset, .unset, .unset, .unset] [])) := fun t k => P31 t (by
    show Steps p.tables e below (s₁.setTop (mkF m 99 #[.val (.int i0), .val (.long i1), .second, .val (.long i2), .second, .val (.long i3), .second, .val (.long i4), .second, .val (.long i5), .second, .val (.long v4), .second, .val (.long v9), .second, .val (.long v14), .second, .val (.long i4), .second, .val (.long v19), .second, .val (.int v24), .val (.long v27), .second, .val (.long v30), .second, .unset, .unset, .unset, .unset, .unset, .unset] [])) _
    refine XS.lload X0.here hx rfl (hb hby at_99) rfl ?_
    show Steps p.tables e below (s₁.setTop (mkF m 101 #[.val (.int i0), .val (.long i1), .second, .val (.long i2), .second, .val (.long i3), .second, .val (.long i4), .second, .val (.long i5), .second, .val (.long v4), .second, .val (.long v9), .second, .val (.long v14), .second, .val (.long i4), .second, .val (.long v19), .second, .val (.int v24), .val (.long v27), .second, .val (.long v30), .second, .unset, .unset, .unset, .unset, .unset, .unset] [(.long i3)])) _
    refine X0.ldc2Long hx hown (mvT hZ (hw _ (List.mem_of_getElem? (i := 0) rfl))) (g := (mkF m 101 #[.val (.int i0), .val (.long i1), .second, .val (.long i2), .second, .val (.long i3), .second, .val (.long i4), .second, .val (.long i5), .second, .val (.long v4), .second, .val (.long v9), .second, .val (.long v14), .second, .val (.long i4), .second, .val (.long v19), .second, .val (.int v24), .val (.long v27), .second, .val (.long v30), .second, .unset, .unset, .unset, .unset, .unset, .unset] [(.long i3)])) rfl (hb hby at_101) _ ?_
    show Steps p.tables e below (s₁.setTop (mkF m 104 #[.val (.int i0), .val (.long i1), .second, .val (.long i2), .second, .val (.long i3), .second, .val (.long i4), .second, .val (.long i5), .second, .val (.long v4), .second, .val (.long v9), .second, .val (.long v14), .second, .val (.long i4), .second, .val (.long v19), .second, .val (.int v24), .val (.long v27), .second, .val (.long v30), .second, .unset, .unset, .unset, .unset, .unset, .unset] [(.long (9223372036854775807 : Int64)), (.long i3)])) _
    refine XS.land X0.here hx rfl (hb hby at_104) rfl ?_
    show Steps p.tables e below (s₁.setTop (mkF m 105 #[.val (.int i0), .val (.long i1), .second, .val (.long i2), .second, .val (.long i3), .second, .val (.long i4), .second, .val (.long i5), .second, .val (.long v4), .second, .val (.long v9), .second, .val (.long v14), .second, .val (.long i4), .second, .val (.long v19), .second, .val (.int v24), .val (.long v27), .second, .val (.long v30), .second, .unset, .unset, .unset, .unset, .unset, .unset] [(.long (i3 &&& (9223372036854775807 : Int64)))])) _
    refine XS.lstore X0.here hx rfl (hb hby at_105) rfl (l' := #[.val (.int i0), .val (.long i1), .second, .val (.long i2), .second, .val (.long i3), .second, .val (.long i4), .second, .val (.long i5), .second, .val (.long v4), .second, .val (.long v9), .second, .val (.long v14), .second, .val (.long i4), .second, .val (.long v19), .second, .val (.int v24), .val (.long v27), .second, .val (.long v30), .second, .val (.long (i3 &&& (9223372036854775807 : Int64))), .second, .unset, .unset, .unset, .unset]) rfl ?_
    exact k)
  obtain ⟨v33, hv33, P34⟩ : ∃ z : Int64, z = (i3 &&& (9223372036854775807 : Int64)) ∧ own_Rch p.tables e below A0 (s₁.setTop (mkF m 107 #[.val (.int i0), .val (.long i1), .second, .val (.long i2), .second, .val (.long i3), .second, .val (.long i4), .second, .val (.long i5), .second, .val (.long v4), .second, .val (.long v9), .second, .val (.long v14), .second, .val (.long i4), .second, .val (.long v19), .second, .val (.int v24), .val (.long v27), .second, .val (.long v30), .second, .val (.long z), .second, .unset, .unset, .unset, .unset] [])) := ⟨_, rfl, P32⟩
  have P35 : own_Rch p.tables e below A0 (s₁.setTop (mkF m 116 #[.val (.int i0), .val (.long i1), .second, .val (.long i2), .second, .val (.long i3), .second, .val (.long i4), .second, .val (.long i5), .second, .val (.long v4), .second, .val (.long v9), .second, .val (.long v14), .second, .val (.long i4), .second, .val (.long v19), .second, .val (.int v24), .val (.long v27), .second, .val (.long v30), .second, .val (.long v33), .second, .val (.long ((i1 ^^^ i2) &&& (9223372036854775807 : Int64))), .second, .unset, .unset] [])) := fun t k => P34 t (by
    show Steps p.tables e below (s₁.setTop (mkF m 107 #[.val (.int i0), .val (.long i1), .second, .val (.long i2), .second, .val (.long i3), .second, .val (.long i4), .second, .val (.long i5), .second, .val (.long v4), .second, .val (.long v9), .second, .val (.long v14), .second, .val (.long i4), .second, .val (.long v19), .second, .val (.int v24), .val (.long v27), .second, .val (.long v30), .second, .val (.long v33), .second, .unset, .unset, .unset, .unset] [])) _
    refine XS.lloadN X0.here hx rfl (hb hby at_107) rfl ?_
    show Steps p.tables e below (s₁.setTop (mkF m 108 #[.val (.int i0), .val (.long i1), .second, .val (.long i2), .second, .val (.long i3), .second, .val (.long i4), .second, .val (.long i5), .second, .val (.long v4), .second, .val (.long v9), .second, .val (.long v14), .second, .val (.long i4), .second, .val (.long v19), .second, .val (.int v24), .val (.long v27), .second, .val (.long v30), .second, .val (.long v33), .second, .unset, .unset, .unset, .unset] [(.long i1)])) _
    refine XS.lloadN X0.here hx rfl (hb hby at_108) rfl ?_
    show Steps p.tables e below (s₁.setTop (mkF m 109 #[.val (.int i0), .val (.long i1), .second, .val (.long i2), .second, .val (.long i3), .second, .val (.long i4), .second, .val (.long i5), .second, .val (.long v4), .second, .val (.long v9), .second, .val (.long v14), .second, .val (.long i4), .second, .val (.long v19), .second, .val (.int v24), .val (.long v27), .second, .val (.long v30), .second, .val (.long v33), .second, .unset, .unset, .unset, .unset] [(.long i2), (.long i1)])) _
    refine XS.lxor X0.here hx rfl (hb hby at_109) rfl ?_
    show Steps p.tables e below (s₁.setTop (mkF m 110 #[.val (.int i0), .val (.long i1), .second, .val (.long i2), .second, .val (.long i3), .second, .val (.long i4), .second, .val (.long i5), .second, .val (.long v4), .second, .val (.long v9), .second, .val (.long v14), .second, .val (.long i4), .second, .val (.long v19), .second, .val (.int v24), .val (.long v27), .second, .val (.long v30), .second, .val (.long v33), .second, .unset, .unset, .unset, .unset] [(.long (i1 ^^^ i2))])) _
    refine X0.ldc2Long hx hown (mvT hZ (hw _ (List.mem_of_getElem? (i := 0) rfl))) (g := (mkF m 110 #[.val (.int i0), .val (.long i1), .second, .val (.long i2), .second, .val (.long i3), .second, .val (.long i4), .second, .val (.long i5), .second, .val (.long v4), .second, .val (.long v9), .second, .val (.long v14), .second, .val (.long i4), .second, .val (.long v19), .second, .val (.int v24), .val (.long v27), .second, .val (.long v30), .second, .val (.long v33), .second, .unset, .unset, .unset, .unset] [(.long (i1 ^^^ i2))])) rfl (hb hby at_110) _ ?_
    show Steps p.tables e below (s₁.setTop (mkF m 113 #[.val (.int i0), .val (.long i1), .second, .val (.long i2), .second, .val (.long i3), .second, .val (.long i4), .second, .val (.long i5), .second, .val (.long v4), .second, .val (.long v9), .second, .val (.long v14), .second, .val (.long i4), .second, .val (.long v19), .second, .val (.int v24), .val (.long v27), .second, .val (.long v30), .second, .val (.long v33), .second, .unset, .unset, .unset, .unset] [(.long (9223372036854775807 : Int64)), (.long (i1 ^^^ i2))])) _
    refine XS.land X0.here hx rfl (hb hby at_113) rfl ?_
    show Steps p.tables e below (s₁.setTop (mkF m 114 #[.val (.int i0), .val (.long i1), .second, .val (.long i2), .second, .val (.long i3), .second, .val (.long i4), .second, .val (.long i5), .second, .val (.long v4), .second, .val (.long v9), .second, .val (.long v14), .second, .val (.long i4), .second, .val (.long v19), .second, .val (.int v24), .val (.long v27), .second, .val (.long v30), .second, .val (.long v33), .second, .unset, .unset, .unset, .unset] [(.long ((i1 ^^^ i2) &&& (9223372036854775807 : Int64)))])) _
    refine XS.lstore X0.here hx rfl (hb hby at_114) rfl (l' := #[.val (.int i0), .val (.long i1), .second, .val (.long i2), .second, .val (.long i3), .second, .val (.long i4), .second, .val (.long i5), .second, .val (.long v4), .second, .val (.long v9), .second, .val (.long v14), .second, .val (.long i4), .second, .val (.long v19), .second, .val (.int v24), .val (.long v27), .second, .val (.long v30), .second, .val (.long v33), .second, .val (.long ((i1 ^^^ i2) &&& (9223372036854775807 : Int64))), .second, .unset, .unset]) rfl ?_
    exact k)
  obtain ⟨v36, hv36, P37⟩ : ∃ z : Int64, z = ((i1 ^^^ i2) &&& (9223372036854775807 : Int64)) ∧ own_Rch p.tables e below A0 (s₁.setTop (mkF m 116 #[.val (.int i0), .val (.long i1), .second, .val (.long i2), .second, .val (.long i3), .second, .val (.long i4), .second, .val (.long i5), .second, .val (.long v4), .second, .val (.long v9), .second, .val (.long v14), .second, .val (.long i4), .second, .val (.long v19), .second, .val (.int v24), .val (.long v27), .second, .val (.long v30), .second, .val (.long v33), .second, .val (.long z), .second, .unset, .unset] [])) := ⟨_, rfl, P35⟩
  obtain ⟨T38, h38, X38, e38, E38, A38, D38, -, st38⟩ := newO X0 hx hZ hown (hw _ (List.mem_of_getElem? (i := 1) rfl)) (hw _ (List.mem_of_getElem? (i := 2) rfl)) (hw _ (List.mem_of_getElem? (i := 3) rfl)) e0 (g := (mkF m 116 #[.val (.int i0), .val (.long i1), .second, .val (.long i2), .second, .val (.long i3), .second, .val (.long i4), .second, .val (.long i5), .second, .val (.long v4), .second, .val (.long v9), .second, .val (.long v14), .second, .val (.long i4), .second, .val (.long v19), .second, .val (.int v24), .val (.long v27), .second, .val (.long v30), .second, .val (.long v33), .second, .val (.long v36), .second, .unset, .unset] [])) rfl (hb hby at_116) (by decide) (by decide)
  obtain ⟨b38, g38⟩ : ∃ z, z = h0.size := ⟨_, rfl⟩
  rw [← g38] at A38 D38 st38
  have g_b38 : n0 ≤ b38 := Nat.le_trans Z0 (Nat.le_of_eq g38.symm)
  have Z_39 : n0 ≤ h38.size := Nat.le_trans Z0 E38.1
  have F_40 : Fld Z h38 b38 "com/example/commitlog/commitlog/store/VerifyResult" "logStart" "J" (.long (0 : Int64)) := D38 (Or.inr (hw _ (List.mem_of_getElem? (i := 16) rfl))) (ty := .long) (by decide)
  have F_41 : Fld Z h38 b38 "com/example/commitlog/commitlog/store/VerifyResult" "logEnd" "J" (.long (0 : Int64)) := D38 (Or.inr (hw _ (List.mem_of_getElem? (i := 18) rfl))) (ty := .long) (by decide)
  have F_42 : Fld Z h38 b38 "com/example/commitlog/commitlog/store/VerifyResult" "recoveryEnd" "J" (.long (0 : Int64)) := D38 (Or.inr (hw _ (List.mem_of_getElem? (i := 20) rfl))) (ty := .long) (by decide)
  have F_43 : Fld Z h38 b38 "com/example/commitlog/commitlog/store/VerifyResult" "records" "J" (.long (0 : Int64)) := D38 (Or.inr (hw _ (List.mem_of_getElem? (i := 22) rfl))) (ty := .long) (by decide)
  have F_44 : Fld Z h38 b38 "com/example/commitlog/commitlog/store/VerifyResult" "damaged" "J" (.long (0 : Int64)) := D38 (Or.inr (hw _ (List.mem_of_getElem? (i := 24) rfl))) (ty := .long) (by decide)
  have F_45 : Fld Z h38 b38 "com/example/commitlog/commitlog/store/VerifyResult" "units" "J" (.long (0 : Int64)) := D38 (Or.inr (hw _ (List.mem_of_getElem? (i := 26) rfl))) (ty := .long) (by decide)
  have F_46 : Fld Z h38 b38 "com/example/commitlog/commitlog/store/VerifyResult" "badUnits" "J" (.long (0 : Int64)) := D38 (Or.inr (hw _ (List.mem_of_getElem? (i := 28) rfl))) (ty := .long) (by decide)
  have F_47 : Fld Z h38 b38 "com/example/commitlog/commitlog/store/VerifyResult" "entries" "J" (.long (0 : Int64)) := D38 (Or.inr (hw _ (List.mem_of_getElem? (i := 30) rfl))) (ty := .long) (by decide)
  have F_48 : Fld Z h38 b38 "com/example/commitlog/commitlog/store/VerifyResult" "badEntries" "J" (.long (0 : Int64)) := D38 (Or.inr (hw _ (List.mem_of_getElem? (i := 32) rfl))) (ty := .long) (by decide)
  have F_49 : Fld Z h38 b38 "com/example/commitlog/commitlog/store/VerifyResult" "closedCleanly" "Z" (.int (0 : Int32)) := D38 (Or.inr (hw _ (List.mem_of_getElem? (i := 34) rfl))) (ty := .boolean) (by decide)
  have P50 : own_Rch p.tables e below A0 (T38.setTop (mkF m 119 #[.val (.int i0), .val (.long i1), .second, .val (.long i2), .second, .val (.long i3), .second, .val (.long i4), .second, .val (.long i5), .second, .val (.long v4), .second, .val (.long v9), .second, .val (.long v14), .second, .val (.long i4), .second, .val (.long v19), .second, .val (.int v24), .val (.long v27), .second, .val (.long v30), .second, .val (.long v33), .second, .val (.long v36), .second, .unset, .unset] [(.ref b38)])) := fun t k => P37 t (st38 t k)
  have P51 : own_Rch p.tables e below A0 (T38.setTop (mkF m 140 #[.val (.int i0), .val (.long i1), .second, .val (.long i2), .second, .val (.long i3), .second, .val (.long i4), .second, .val (.long i5), .second, .val (.long v4), .second, .val (.long v9), .second, .val (.long v14), .second, .val (.long i4), .second, .val (.long v19), .second, .val (.int v24), .val (.long v27), .second, .val (.long v30), .second, .val (.long v33), .second, .val (.long v36), .second, .unset, .unset] [(.int v24), (.long v14), (.long v36), (.long v9), (.long v33), (.long v4), (.long v30), (.long v19), (.long i4), (.long v27), (.ref b38), (.ref b38)])) := fun t k => P50 t (by
    show Steps p.tables e below (T38.setTop (mkF m 119 #[.val (.int i0), .val (.long i1), .second, .val (.long i2), .second, .val (.long i3), .second, .val (.long i4), .second, .val (.long i5), .second, .val (.long v4), .second, .val (.long v9), .second, .val (.long v14), .second, .val (.long i4), .second, .val (.long v19), .second, .val (.int v24), .val (.long v27), .second, .val (.long v30), .second, .val (.long v33), .second, .val (.long v36), .second, .unset, .unset] [(.ref b38)])) _
    refine XS.dup X38.here hx rfl (hb hby at_119) rfl rfl ?_
    show Steps p.tables e below (T38.setTop (mkF m 120 #[.val (.int i0), .val (.long i1), .second, .val (.long i2), .second, .val (.long i3), .second, .val (.long i4), .second, .val (.long i5), .second, .val (.long v4), .second, .val (.long v9), .second, .val (.long v14), .second, .val (.long i4), .second, .val (.long v19), .second, .val (.int v24), .val (.long v27), .second, .val (.long v30), .second, .val (.long v33), .second, .val (.long v36), .second, .unset, .unset] [(.ref b38), (.ref b38)])) _
    refine XS.lload X38.here hx rfl (hb hby at_120) rfl ?_
    show Steps p.tables e below (T38.setTop (mkF m 122 #[.val (.int i0), .val (.long i1), .second, .val (.long i2), .second, .val (.long i3), .second, .val (.long i4), .second, .val (.long i5), .second, .val (.long v4), .second, .val (.long v9), .second, .val (.long v14), .second, .val (.long i4), .second, .val (.long v19), .second, .val (.int v24), .val (.long v27), .second, .val (.long v30), .second, .val (.long v33), .second, .val (.long v36), .second, .unset, .unset] [(.long v27), (.ref b38), (.ref b38)])) _
    refine XS.lload X38.here hx rfl (hb hby at_122) rfl ?_
    show Steps p.tables e below (T38.setTop (mkF m 124 #[.val (.int i0), .val (.long i1), .second, .val (.long i2), .second, .val (.long i3), .second, .val (.long i4), .second, .val (.long i5), .second, .val (.long v4), .second, .val (.long v9), .second, .val (.long v14), .second, .val (.long i4), .second, .val (.long v19), .second, .val (.int v24), .val (.long v27), .second, .val (.long v30), .second, .val (.long v33), .second, .val (.long v36), .second, .unset, .unset] [(.long i4), (.long v27), (.ref b38), (.ref b38)])) _
    refine XS.lload X38.here hx rfl (hb hby at_124) rfl ?_
    show Steps p.tables e below (T38.setTop (mkF m 126 #[.val (.int i0), .val (.long i1), .second, .val (.long i2), .second, .val (.long i3), .second, .val (.long i4), .second, .val (.long i5), .second, .val (.long v4), .second, .val (.long v9), .second, .val (.long v14), .second, .val (.long i4), .second, .val (.long v19), .second, .val (.int v24), .val (.long v27), .second, .val (.long v30), .second, .val (.long v33), .second, .val (.long v36), .second, .unset, .unset] [(.long v19), (.long i4), (.long v27), (.ref b38), (.ref b38)])) _
    refine XS.lload X38.here hx rfl (hb hby at_126) rfl ?_
    show Steps p.tables e below (T38.setTop (mkF m 128 #[.val (.int i0), .val (.long i1), .second, .val (.long i2), .second, .val (.long i3), .second, .val (.long i4), .second, .val (.long i5), .second, .val (.long v4), .second, .val (.long v9), .second, .val (.long v14), .second, .val (.long i4), .second, .val (.long v19), .second, .val (.int v24), .val (.long v27), .second, .val (.long v30), .second, .val (.long v33), .second, .val (.long v36), .second, .unset, .unset] [(.long v30), (.long v19), (.long i4), (.long v27), (.ref b38), (.ref b38)])) _
    refine XS.lload X38.here hx rfl (hb hby at_128) rfl ?_
    show Steps p.tables e below (T38.setTop (mkF m 130 #[.val (.int i0), .val (.long i1), .second, .val (.long i2), .second, .val (.long i3), .second, .val (.long i4), .second, .val (.long i5), .second, .val (.long v4), .second, .val (.long v9), .second, .val (.long v14), .second, .val (.long i4), .second, .val (.long v19), .second, .val (.int v24), .val (.long v27), .second, .val (.long v30), .second, .val (.long v33), .second, .val (.long v36), .second, .unset, .unset] [(.long v4), (.long v30), (.long v19), (.long i4), (.long v27), (.ref b38), (.ref b38)])) _
    refine XS.lload X38.here hx rfl (hb hby at_130) rfl ?_
    show Steps p.tables e below (T38.setTop (mkF m 132 #[.val (.int i0), .val (.long i1), .second, .val (.long i2), .second, .val (.long i3), .second, .val (.long i4), .second, .val (.long i5), .second, .val (.long v4), .second, .val (.long v9), .second, .val (.long v14), .second, .val (.long i4), .second, .val (.long v19), .second, .val (.int v24), .val (.long v27), .second, .val (.long v30), .second, .val (.long v33), .second, .val (.long v36), .second, .unset, .unset] [(.long v33), (.long v4), (.long v30), (.long v19), (.long i4), (.long v27), (.ref b38), (.ref b38)])) _
    refine XS.lload X38.here hx rfl (hb hby at_132) rfl ?_
    show Steps p.tables e below (T38.setTop (mkF m 134 #[.val (.int i0), .val (.long i1), .second, .val (.long i2), .second, .val (.long i3), .second, .val (.long i4), .second, .val (.long i5), .second, .val (.long v4), .second, .val (.long v9), .second, .val (.long v14), .second, .val (.long i4), .second, .val (.long v19), .second, .val (.int v24), .val (.long v27), .second, .val (.long v30), .second, .val (.long v33), .second, .val (.long v36), .second, .unset, .unset] [(.long v9), (.long v33), (.long v4), (.long v30), (.long v19), (.long i4), (.long v27), (.ref b38), (.ref b38)])) _
    refine XS.lload X38.here hx rfl (hb hby at_134) rfl ?_
    show Steps p.tables e below (T38.setTop (mkF m 136 #[.val (.int i0), .val (.long i1), .second, .val (.long i2), .second, .val (.long i3), .second, .val (.long i4), .second, .val (.long i5), .second, .val (.long v4), .second, .val (.long v9), .second, .val (.long v14), .second, .val (.long i4), .second, .val (.long v19), .second, .val (.int v24), .val (.long v27), .second, .val (.long v30), .second, .val (.long v33), .second, .val (.long v36), .second, .unset, .unset] [(.long v36), (.long v9), (.long v33), (.long v4), (.long v30), (.long v19), (.long i4), (.long v27), (.ref b38), (.ref b38)])) _
    refine XS.lload X38.here hx rfl (hb hby at_136) rfl ?_
    show Steps p.tables e below (T38.setTop (mkF m 138 #[.val (.int i0), .val (.long i1), .second, .val (.long i2), .second, .val (.long i3), .second, .val (.long i4), .second, .val (.long i5), .second, .val (.long v4), .second, .val (.long v9), .second, .val (.long v14), .second, .val (.long i4), .second, .val (.long v19), .second, .val (.int v24), .val (.long v27), .second, .val (.long v30), .second, .val (.long v33), .second, .val (.long v36), .second, .unset, .unset] [(.long v14), (.long v36), (.long v9), (.long v33), (.long v4), (.long v30), (.long v19), (.long i4), (.long v27), (.ref b38), (.ref b38)])) _
    refine XS.iload X38.here hx rfl (hb hby at_138) rfl ?_
    exact k)
  obtain ⟨_, _, ⟨T52, L52, k52, n52⟩, -, X52, ⟨Lc52, hQ52, l52, y52, z52⟩, st52⟩ := X38.specialBack hx (y := (⟨"com/example/commitlog/commitlog/store/VerifyResult", "<init>", "(JJJJJJJJJZ)V"⟩ : MethodName)) rfl hown (mvT hZ (hw _ (List.mem_of_getElem? (i := 4) rfl))) (mvT hZ (hw _ (List.mem_of_getElem? (i := 5) rfl))) (mvT hZ (hw _ (List.mem_of_getElem? (i := 6) rfl))) (by decide) (backOf (W := 1) (rm1 l Z a0 hw [] b38 v27 i4 v19 v30 v4 v33 v9 v36 v14 v24 h38 n0 Z_39 A38 F_40 F_41 F_42 F_43 F_44 F_45 F_46 F_47 F_48 F_49 g_b38) hZ (hw _ (List.mem_of_getElem? (i := 6) rfl)) (hw _ (List.mem_of_getElem? (i := 3) rfl)) (by decide) (by decide)) (g := (mkF m 140 #[.val (.int i0), .val (.long i1), .second, .val (.long i2), .second, .val (.long i3), .second, .val (.long i4), .second, .val (.long i5), .second, .val (.long v4), .second, .val (.long v9), .second, .val (.long v14), .second, .val (.long i4), .second, .val (.long v19), .second, .val (.int v24), .val (.long v27), .second, .val (.long v30), .second, .val (.long v33), .second, .val (.long v36), .second, .unset, .unset] [(.int v24), (.long v14), (.long v36), (.long v9), (.long v33), (.long v4), (.long v30), (.long v19), (.long i4), (.long v27), (.ref b38), (.ref b38)])) rfl (by rw [hml]; rfl) (Steps.refl _) (a := b38) (argsL := [(.long v27), (.long i4), (.long v19), (.long v30), (.long v4), (.long v33), (.long v9), (.long v36), (.long v14), (.int v24)]) (rest := [(.ref b38)]) (lenOf pd_1 rfl) rfl (by show 2 * 0 + _ ≤ _; exact Nat.le_of_eq rfl) (hb hby at_140) (fun _ _ => ⟨rfl, e38, (by decide : (0 + 1) + 0 ≤ _), (by decide : (0 + 10) + 0 ≤ _)⟩)
  dsimp only [Pt.U, Pt.locs, Pt.cells, Pt.slots] at X52 l52 y52 z52 st52 hQ52
  subst l52 y52 z52
  obtain ⟨rfl, N52q, K52q, E52q, F52q0, F52q1, F52q2, F52q3, F52q4⟩ := hQ52
  have N52 := Fr.app N0 N52q
  have Z_53 : n0 ≤ T52.heap.size := Nat.le_trans Z_39 K52q.1
  have E_54 : Exa Z T52.heap b38 "com/example/commitlog/commitlog/store/VerifyResult" := A38.keep K52q
  have P55 : own_Rch p.tables e below A0 (T52.setTop (mkF m 143 #[.val (.int i0), .val (.long i1), .second, .val (.long i2), .second, .val (.long i3), .second, .val (.long i4), .second, .val (.long i5), .second, .val (.long v4), .second, .val (.long v9), .second, .val (.long v14), .second, .val (.long i4), .second, .val (.long v19), .second, .val (.int v24), .val (.long v27), .second, .val (.long v30), .second, .val (.long v33), .second, .val (.long v36), .second, .unset, .unset] [(.ref b38)])) := fun t k => P51 t (st52.trans k)
  have P57 : own_Rch p.tables e below A0 (T52.setTop (mkF m 161 #[.val (.int i0), .val (.long i1), .second, .val (.long i2), .second, .val (.long i3), .second, .val (.long i4), .second, .val (.long i5), .second, .val (.long v4), .second, .val (.long v9), .second, .val (.long v14), .second, .val (.long i4), .second, .val (.long v19), .second, .val (.int v24), .val (.long v27), .second, .val (.long v30), .second, .val (.long v33), .second, .val (.long v36), .second, .val (.ref b38), .unset] [(.int (lcmpW (((v4 ||| v9) ||| v14) ||| (v19 ^^^ i4)) (0 : Int64)))])) := fun t k => P55 t (by
    show Steps p.tables e below (T52.setTop (mkF m 143 #[.val (.int i0), .val (.long i1), .second, .val (.long i2), .second, .val (.long i3), .second, .val (.long i4), .second, .val (.long i5), .second, .val (.long v4), .second, .val (.long v9), .second, .val (.long v14), .second, .val (.long i4), .second, .val (.long v19), .second, .val (.int v24), .val (.long v27), .second, .val (.long v30), .second, .val (.long v33), .second, .val (.long v36), .second, .unset, .unset] [(.ref b38)])) _
    refine XS.astore X52.here hx rfl (hb hby at_143) rfl rfl (l' := #[.val (.int i0), .val (.long i1), .second, .val (.long i2), .second, .val (.long i3), .second, .val (.long i4), .second, .val (.long i5), .second, .val (.long v4), .second, .val (.long v9), .second, .val (.long v14), .second, .val (.long i4), .second, .val (.long v19), .second, .val (.int v24), .val (.long v27), .second, .val (.long v30), .second, .val (.long v33), .second, .val (.long v36), .second, .val (.ref b38), .unset]) rfl ?_
    show Steps p.tables e below (T52.setTop (mkF m 145 #[.val (.int i0), .val (.long i1), .second, .val (.long i2), .second, .val (.long i3), .second, .val (.long i4), .second, .val (.long i5), .second, .val (.long v4), .second, .val (.long v9), .second, .val (.long v14), .second, .val (.long i4), .second, .val (.long v19), .second, .val (.int v24), .val (.long v27), .second, .val (.long v30), .second, .val (.long v33), .second, .val (.long v36), .second, .val (.ref b38), .unset] [])) _
    refine XS.lload X52.here hx rfl (hb hby at_145) rfl ?_
    show Steps p.tables e below (T52.setTop (mkF m 147 #[.val (.int i0), .val (.long i1), .second, .val (.long i2), .second, .val (.long i3), .second, .val (.long i4), .second, .val (.long i5), .second, .val (.long v4), .second, .val (.long v9), .second, .val (.long v14), .second, .val (.long i4), .second, .val (.long v19), .second, .val (.int v24), .val (.long v27), .second, .val (.long v30), .second, .val (.long v33), .second, .val (.long v36), .second, .val (.ref b38), .unset] [(.long v4)])) _
    refine XS.lload X52.here hx rfl (hb hby at_147) rfl ?_
    show Steps p.tables e below (T52.setTop (mkF m 149 #[.val (.int i0), .val (.long i1), .second, .val (.long i2), .second, .val (.long i3), .second, .val (.long i4), .second, .val (.long i5), .second, .val (.long v4), .second, .val (.long v9), .second, .val (.long v14), .second, .val (.long i4), .second, .val (.long v19), .second, .val (.int v24), .val (.long v27), .second, .val (.long v30), .second, .val (.long v33), .second, .val (.long v36), .second, .val (.ref b38), .unset] [(.long v9), (.long v4)])) _
    refine XS.lor X52.here hx rfl (hb hby at_149) rfl ?_
    show Steps p.tables e below (T52.setTop (mkF m 150 #[.val (.int i0), .val (.long i1), .second, .val (.long i2), .second, .val (.long i3), .second, .val (.long i4), .second, .val (.long i5), .second, .val (.long v4), .second, .val (.long v9), .second, .val (.long v14), .second, .val (.long i4), .second, .val (.long v19), .second, .val (.int v24), .val (.long v27), .second, .val (.long v30), .second, .val (.long v33), .second, .val (.long v36), .second, .val (.ref b38), .unset] [(.long (v4 ||| v9))])) _
    refine XS.lload X52.here hx rfl (hb hby at_150) rfl ?_
    show Steps p.tables e below (T52.setTop (mkF m 152 #[.val (.int i0), .val (.long i1), .second, .val (.long i2), .second, .val (.long i3), .second, .val (.long i4), .second, .val (.long i5), .second, .val (.long v4), .second, .val (.long v9), .second, .val (.long v14), .second, .val (.long i4), .second, .val (.long v19), .second, .val (.int v24), .val (.long v27), .second, .val (.long v30), .second, .val (.long v33), .second, .val (.long v36), .second, .val (.ref b38), .unset] [(.long v14), (.long (v4 ||| v9))])) _
    refine XS.lor X52.here hx rfl (hb hby at_152) rfl ?_
    show Steps p.tables e below (T52.setTop (mkF m 153 #[.val (.int i0), .val (.long i1), .second, .val (.long i2), .second, .val (.long i3), .second, .val (.long i4), .second, .val (.long i5), .second, .val (.long v4), .second, .val (.long v9), .second, .val (.long v14), .second, .val (.long i4), .second, .val (.long v19), .second, .val (.int v24), .val (.long v27), .second, .val (.long v30), .second, .val (.long v33), .second, .val (.long v36), .second, .val (.ref b38), .unset] [(.long ((v4 ||| v9) ||| v14))])) _
    refine XS.lload X52.here hx rfl (hb hby at_153) rfl ?_
    show Steps p.tables e below (T52.setTop (mkF m 155 #[.val (.int i0), .val (.long i1), .second, .val (.long i2), .second, .val (.long i3), .second, .val (.long i4), .second, .val (.long i5), .second, .val (.long v4), .second, .val (.long v9), .second, .val (.long v14), .second, .val (.long i4), .second, .val (.long v19), .second, .val (.int v24), .val (.long v27), .second, .val (.long v30), .second, .val (.long v33), .second, .val (.long v36), .second, .val (.ref b38), .unset] [(.long v19), (.long ((v4 ||| v9) ||| v14))])) _
    refine XS.lload X52.here hx rfl (hb hby at_155) rfl ?_
    show Steps p.tables e below (T52.setTop (mkF m 157 #[.val (.int i0), .val (.long i1), .second, .val (.long i2), .second, .val (.long i3), .second, .val (.long i4), .second, .val (.long i5), .second, .val (.long v4), .second, .val (.long v9), .second, .val (.long v14), .second, .val (.long i4), .second, .val (.long v19), .second, .val (.int v24), .val (.long v27), .second, .val (.long v30), .second, .val (.long v33), .second, .val (.long v36), .second, .val (.ref b38), .unset] [(.long i4), (.long v19), (.long ((v4 ||| v9) ||| v14))])) _
    refine XS.lxor X52.here hx rfl (hb hby at_157) rfl ?_
    show Steps p.tables e below (T52.setTop (mkF m 158 #[.val (.int i0), .val (.long i1), .second, .val (.long i2), .second, .val (.long i3), .second, .val (.long i4), .second, .val (.long i5), .second, .val (.long v4), .second, .val (.long v9), .second, .val (.long v14), .second, .val (.long i4), .second, .val (.long v19), .second, .val (.int v24), .val (.long v27), .second, .val (.long v30), .second, .val (.long v33), .second, .val (.long v36), .second, .val (.ref b38), .unset] [(.long (v19 ^^^ i4)), (.long ((v4 ||| v9) ||| v14))])) _
    refine XS.lor X52.here hx rfl (hb hby at_158) rfl ?_
    show Steps p.tables e below (T52.setTop (mkF m 159 #[.val (.int i0), .val (.long i1), .second, .val (.long i2), .second, .val (.long i3), .second, .val (.long i4), .second, .val (.long i5), .second, .val (.long v4), .second, .val (.long v9), .second, .val (.long v14), .second, .val (.long i4), .second, .val (.long v19), .second, .val (.int v24), .val (.long v27), .second, .val (.long v30), .second, .val (.long v33), .second, .val (.long v36), .second, .val (.ref b38), .unset] [(.long (((v4 ||| v9) ||| v14) ||| (v19 ^^^ i4)))])) _
    refine XS.lconst X52.here hx rfl (hb hby at_159) ?_
    show Steps p.tables e below (T52.setTop (mkF m 160 #[.val (.int i0), .val (.long i1), .second, .val (.long i2), .second, .val (.long i3), .second, .val (.long i4), .second, .val (.long i5), .second, .val (.long v4), .second, .val (.long v9), .second, .val (.long v14), .second, .val (.long i4), .second, .val (.long v19), .second, .val (.int v24), .val (.long v27), .second, .val (.long v30), .second, .val (.long v33), .second, .val (.long v36), .second, .val (.ref b38), .unset] [(.long (0 : Int64)), (.long (((v4 ||| v9) ||| v14) ||| (v19 ^^^ i4)))])) _
    refine XS.lcmp X52.here hx rfl (hb hby at_160) rfl ?_
    exact k)
  obtain ⟨v59, hv59⟩ : ∃ z : Int32, z = (if (((v4 ||| v9) ||| v14) ||| (v19 ^^^ i4)) = (0 : Int64) then (1 : Int32) else (0 : Int32)) := ⟨_, rfl⟩
  have P60 : own_Rch p.tables e below A0 (T52.setTop (mkF m 169 #[.val (.int i0), .val (.long i1), .second, .val (.long i2), .second, .val (.long i3), .second, .val (.long i4), .second, .val (.long i5), .second, .val (.long v4), .second, .val (.long v9), .second, .val (.long v14), .second, .val (.long i4), .second, .val (.long v19), .second, .val (.int v24), .val (.long v27), .second, .val (.long v30), .second, .val (.long v33), .second, .val (.long v36), .second, .val (.ref b38), .unset] [(.int v59)])) := fun t k => P57 t (by
    by_cases hc58 : (((v4 ||| v9) ||| v14) ||| (v19 ^^^ i4)) = (0 : Int64)
    · show Steps p.tables e below (T52.setTop (mkF m 161 #[.val (.int i0), .val (.long i1), .second, .val (.long i2), .second, .val (.long i3), .second, .val (.long i4), .second, .val (.long i5), .second, .val (.long v4), .second, .val (.long v9), .second, .val (.long v14), .second, .val (.long i4), .second, .val (.long v19), .second, .val (.int v24), .val (.long v27), .second, .val (.long v30), .second, .val (.long v33), .second, .val (.long v36), .second, .val (.ref b38), .unset] [(.int (lcmpW (((v4 ||| v9) ||| v14) ||| (v19 ^^^ i4)) (0 : Int64)))])) _
      refine XS.ifNo X52.here hx rfl (hb hby at_161) rfl (own_lct3 hc58).2 ?_
      have qv59 : v59 = (1 : Int32) := by rw [hv59]; simp only [if_pos hc58]
      rw [qv59] at k
      show Steps p.tables e below (T52.setTop (mkF m 164 #[.val (.int i0), .val (.long i1), .second, .val (.long i2), .second, .val (.long i3), .second, .val (.long i4), .second, .val (.long i5), .second, .val (.long v4), .second, .val (.long v9), .second, .val (.long v14), .second, .val (.long i4), .second, .val (.long v19), .second, .val (.int v24), .val (.long v27), .second, .val (.long v30), .second, .val (.long v33), .second, .val (.long v36), .second, .val (.ref b38), .unset] [])) _
      refine XS.iconst X52.here hx rfl (hb hby at_164) ?_
      show Steps p.tables e below (T52.setTop (mkF m 165 #[.val (.int i0), .val (.long i1), .second, .val (.long i2), .second, .val (.long i3), .second, .val (.long i4), .second, .val (.long i5), .second, .val (.long v4), .second, .val (.long v9), .second, .val (.long v14), .second, .val (.long i4), .second, .val (.long v19), .second, .val (.int v24), .val (.long v27), .second, .val (.long v30), .second, .val (.long v33), .second, .val (.long v36), .second, .val (.ref b38), .unset] [(.int (1 : Int32))])) _
      refine XS.goto X52.here hx rfl (pc0 := 165) (pc' := 169) rfl (hb hby at_165) (by decide) (by decide) ?_
      exact k
    · show Steps p.tables e below (T52.setTop (mkF m 161 #[.val (.int i0), .val (.long i1), .second, .val (.long i2), .second, .val (.long i3), .second, .val (.long i4), .second, .val (.long i5), .second, .val (.long v4), .second, .val (.long v9), .second, .val (.long v14), .second, .val (.long i4), .second, .val (.long v19), .second, .val (.int v24), .val (.long v27), .second, .val (.long v30), .second, .val (.long v33), .second, .val (.long v36), .second, .val (.ref b38), .unset] [(.int (lcmpW (((v4 ||| v9) ||| v14) ||| (v19 ^^^ i4)) (0 : Int64)))])) _
      refine XS.ifYes X52.here hx rfl (pc0 := 161) (pc' := 168) rfl (hb hby at_161) rfl (own_lcf3 hc58).2 (by decide) (by decide) ?_
      have qv59 : v59 = (0 : Int32) := by rw [hv59]; simp only [if_neg hc58]
      rw [qv59] at k
      show Steps p.tables e below (T52.setTop (mkF m 168 #[.val (.int i0), .val (.long i1), .second, .val (.long i2), .second, .val (.long i3), .second, .val (.long i4), .second, .val (.long i5), .second, .val (.long v4), .second, .val (.long v9), .second, .val (.long v14), .second, .val (.long i4), .second, .val (.long v19), .second, .val (.int v24), .val (.long v27), .second, .val (.long v30), .second, .val (.long v33), .second, .val (.long v36), .second, .val (.ref b38), .unset] [])) _
      refine XS.iconst X52.here hx rfl (hb hby at_168) ?_
      exact k)
  have P61 : own_Rch p.tables e below A0 (T52.setTop (mkF m 173 #[.val (.int i0), .val (.long i1), .second, .val (.long i2), .second, .val (.long i3), .second, .val (.long i4), .second, .val (.long i5), .second, .val (.long v4), .second, .val (.long v9), .second, .val (.long v14), .second, .val (.long i4), .second, .val (.long v19), .second, .val (.int v24), .val (.long v27), .second, .val (.long v30), .second, .val (.long v33), .second, .val (.long v36), .second, .val (.ref b38), .val (.int v59)] [(.ref b38)])) := fun t k => P60 t (by
    show Steps p.tables e below (T52.setTop (mkF m 169 #[.val (.int i0), .val (.long i1), .second, .val (.long i2), .second, .val (.long i3), .second, .val (.long i4), .second, .val (.long i5), .second, .val (.long v4), .second, .val (.long v9), .second, .val (.long v14), .second, .val (.long i4), .second, .val (.long v19), .second, .val (.int v24), .val (.long v27), .second, .val (.long v30), .second, .val (.long v33), .second, .val (.long v36), .second, .val (.ref b38), .unset] [(.int v59)])) _
    refine XS.istore X52.here hx rfl (hb hby at_169) rfl (l' := #[.val (.int i0), .val (.long i1), .second, .val (.long i2), .second, .val (.long i3), .second, .val (.long i4), .second, .val (.long i5), .second, .val (.long v4), .second, .val (.long v9), .second, .val (.long v14), .second, .val (.long i4), .second, .val (.long v19), .second, .val (.int v24), .val (.long v27), .second, .val (.long v30), .second, .val (.long v33), .second, .val (.long v36), .second, .val (.ref b38), .val (.int v59)]) rfl ?_
    show Steps p.tables e below (T52.setTop (mkF m 171 #[.val (.int i0), .val (.long i1), .second, .val (.long i2), .second, .val (.long i3), .second, .val (.long i4), .second, .val (.long i5), .second, .val (.long v4), .second, .val (.long v9), .second, .val (.long v14), .second, .val (.long i4), .second, .val (.long v19), .second, .val (.int v24), .val (.long v27), .second, .val (.long v30), .second, .val (.long v33), .second, .val (.long v36), .second, .val (.ref b38), .val (.int v59)] [])) _
    refine XS.aload X52.here hx rfl (hb hby at_171) rfl rfl ?_
    exact k)
  obtain ⟨cq62, kq62, q62a, q62b, q62c⟩ := isOf hZ rfl E_54
  obtain ⟨_, _, ⟨T62, L62, k62, n62⟩, -, X62, ⟨Lc62, hQ62, l62, y62, z62⟩, st62⟩ := X52.virtualBack hx (y := (⟨"com/example/commitlog/commitlog/store/VerifyResult", "isWhole", "()Z"⟩ : MethodName)) (z := (⟨"com/example/commitlog/commitlog/store/VerifyResult", "isWhole", "()Z"⟩ : MethodName)) hown (mvT hZ (hw _ (List.mem_of_getElem? (i := 35) rfl))) (mvT hZ (hw _ (List.mem_of_getElem? (i := 36) rfl))) (notFace_of_selects (args := #[]) (mvT hZ (hw _ (List.mem_of_getElem? (i := 38) rfl)))) (mvT hZ (hw _ (List.mem_of_getElem? (i := 38) rfl))) (mvT hZ (hw _ (List.mem_of_getElem? (i := 37) rfl))) (by decide) (backOf (W := 0) (rm4 l Z a0 hw [] b38 v4 v9 v14 v19 i4 T52.heap n0 Z_53 F52q2 F52q3 F52q4 F52q1 F52q0) hZ (hw _ (List.mem_of_getElem? (i := 39) rfl)) (hw _ (List.mem_of_getElem? (i := 3) rfl)) (by decide) (by decide)) q62a q62c (g := (mkF m 173 #[.val (.int i0), .val (.long i1), .second, .val (.long i2), .second, .val (.long i3), .second, .val (.long i4), .second, .val (.long i5), .second, .val (.long v4), .second, .val (.long v9), .second, .val (.long v14), .second, .val (.long i4), .second, .val (.long v19), .second, .val (.int v24), .val (.long v27), .second, .val (.long v30), .second, .val (.long v33), .second, .val (.long v36), .second, .val (.ref b38), .val (.int v59)] [(.ref b38)])) rfl (by rw [hml]; rfl) (Steps.refl _) (argsL := []) (rest := []) (lenOf pd_2 rfl) rfl (by show 2 * 0 + _ ≤ _; exact Nat.le_of_eq rfl) (hb hby at_173) (fun _ _ => ⟨rfl, rfl, (by decide : (0 + 1 + 0) + 0 ≤ _), (by decide : (0 + 10 + 0) + 0 ≤ _)⟩)
  dsimp only [Pt.U, Pt.locs, Pt.cells, Pt.slots] at X62 l62 y62 z62 st62 hQ62
  subst l62 y62 z62
  obtain ⟨rfl, N62q, e62⟩ := hQ62
  have N62 := Fr.app N52 N62q
  have P63 : own_Rch p.tables e below A0 (T62.setTop (mkF m 176 #[.val (.int i0), .val (.long i1), .second, .val (.long i2), .second, .val (.long i3), .second, .val (.long i4), .second, .val (.long i5), .second, .val (.long v4), .second, .val (.long v9), .second, .val (.long v14), .second, .val (.long i4), .second, .val (.long v19), .second, .val (.int v24), .val (.long v27), .second, .val (.long v30), .second, .val (.long v33), .second, .val (.long v36), .second, .val (.ref b38), .val (.int v59)] [(.int (own_wh v4 v9 v14 v19 i4))])) := fun t k => P61 t (st62.trans k)
  have P65 : own_Rch p.tables e below A0 (T62.setTop (mkF m 178 #[.val (.int i0), .val (.long i1), .second, .val (.long i2), .second, .val (.long i3), .second, .val (.long i4), .second, .val (.long i5), .second, .val (.long v4), .second, .val (.long v9), .second, .val (.long v14), .second, .val (.long i4), .second, .val (.long v19), .second, .val (.int v24), .val (.long v27), .second, .val (.long v30), .second, .val (.long v33), .second, .val (.long v36), .second, .val (.ref b38), .val (.int v59)] [(.int v59), (.int (own_wh v4 v9 v14 v19 i4))])) := fun t k => P63 t (by
    show Steps p.tables e below (T62.setTop (mkF m 176 #[.val (.int i0), .val (.long i1), .second, .val (.long i2), .second, .val (.long i3), .second, .val (.long i4), .second, .val (.long i5), .second, .val (.long v4), .second, .val (.long v9), .second, .val (.long v14), .second, .val (.long i4), .second, .val (.long v19), .second, .val (.int v24), .val (.long v27), .second, .val (.long v30), .second, .val (.long v33), .second, .val (.long v36), .second, .val (.ref b38), .val (.int v59)] [(.int (own_wh v4 v9 v14 v19 i4))])) _
    refine XS.iload X62.here hx rfl (hb hby at_176) rfl ?_
    exact k)
  by_cases hc64 : (own_wh v4 v9 v14 v19 i4) = v59
  · -- (own_wh v4 v9 v14 v19 i4) = v59
    have P66 : own_Rch p.tables e below A0 (T62.setTop (mkF m 186 #[.val (.int i0), .val (.long i1), .second, .val (.long i2), .second, .val (.long i3), .second, .val (.long i4), .second, .val (.long i5), .second, .val (.long v4), .second, .val (.long v9), .second, .val (.long v14), .second, .val (.long i4), .second, .val (.long v19), .second, .val (.int v24), .val (.long v27), .second, .val (.long v30), .second, .val (.long v33), .second, .val (.long v36), .second, .val (.ref b38), .val (.int v59)] [(.int (1 : Int32))])) := fun t k => P65 t (by
      show Steps p.tables e below (T62.setTop (mkF m 178 #[.val (.int i0), .val (.long i1), .second, .val (.long i2), .second, .val (.long i3), .second, .val (.long i4), .second, .val (.long i5), .second, .val (.long v4), .second, .val (.long v9), .second, .val (.long v14), .second, .val (.long i4), .second, .val (.long v19), .second, .val (.int v24), .val (.long v27), .second, .val (.long v30), .second, .val (.long v33), .second, .val (.long v36), .second, .val (.ref b38), .val (.int v59)] [(.int v59), (.int (own_wh v4 v9 v14 v19 i4))])) _
      refine XS.icmpNo X62.here hx rfl (hb hby at_178) rfl (teq hc64).2 ?_
      show Steps p.tables e below (T62.setTop (mkF m 181 #[.val (.int i0), .val (.long i1), .second, .val (.long i2), .second, .val (.long i3), .second, .val (.long i4), .second, .val (.long i5), .second, .val (.long v4), .second, .val (.long v9), .second, .val (.long v14), .second, .val (.long i4), .second, .val (.long v19), .second, .val (.int v24), .val (.long v27), .second, .val (.long v30), .second, .val (.long v33), .second, .val (.long v36), .second, .val (.ref b38), .val (.int v59)] [])) _
      refine XS.iconst X62.here hx rfl (hb hby at_181) ?_
      show Steps p.tables e below (T62.setTop (mkF m 182 #[.val (.int i0), .val (.long i1), .second, .val (.long i2), .second, .val (.long i3), .second, .val (.long i4), .second, .val (.long i5), .second, .val (.long v4), .second, .val (.long v9), .second, .val (.long v14), .second, .val (.long i4), .second, .val (.long v19), .second, .val (.int v24), .val (.long v27), .second, .val (.long v30), .second, .val (.long v33), .second, .val (.long v36), .second, .val (.ref b38), .val (.int v59)] [(.int (1 : Int32))])) _
      refine XS.goto X62.here hx rfl (pc0 := 182) (pc' := 186) rfl (hb hby at_182) (by decide) (by decide) ?_
      exact k)
    obtain ⟨fs, hr, hrun, hended, hW, hsame⟩ := X62.leave (v := some (.int (nar .boolean (1 : Int32)))) (fun h => by rw [Bd.returns] at h; cases h)
    refine ⟨_, _, P00 _ (P66 _ ?_), hrun, hended, _, _, rfl, ?_, ⟨_, rfl⟩, hW, hsame.mono (by decide) (by decide)⟩
    · exact retN X62 hx (t := .boolean) Bd.returns (by simp) (hb hby at_186) hr
    · show Q0 Z i0 i1 i2 i3 i4 i5 h0 n0 _ T62.heap _
      rw [e62]
      refine ⟨?_, N62⟩
      rfl
  · -- not (own_wh v4 v9 v14 v19 i4) = v59
    have P67 : own_Rch p.tables e below A0 (T62.setTop (mkF m 186 #[.val (.int i0), .val (.long i1), .second, .val (.long i2), .second, .val (.long i3), .second, .val (.long i4), .second, .val (.long i5), .second, .val (.long v4), .second, .val (.long v9), .second, .val (.long v14), .second, .val (.long i4), .second, .val (.long v19), .second, .val (.int v24), .val (.long v27), .second, .val (.long v30), .second, .val (.long v33), .second, .val (.long v36), .second, .val (.ref b38), .val (.int v59)] [(.int (0 : Int32))])) := fun t k => P65 t (by
      show Steps p.tables e below (T62.setTop (mkF m 178 #[.val (.int i0), .val (.long i1), .second, .val (.long i2), .second, .val (.long i3), .second, .val (.long i4), .second, .val (.long i5), .second, .val (.long v4), .second, .val (.long v9), .second, .val (.long v14), .second, .val (.long i4), .second, .val (.long v19), .second, .val (.int v24), .val (.long v27), .second, .val (.long v30), .second, .val (.long v33), .second, .val (.long v36), .second, .val (.ref b38), .val (.int v59)] [(.int v59), (.int (own_wh v4 v9 v14 v19 i4))])) _
      refine XS.icmpYes X62.here hx rfl (pc0 := 178) (pc' := 185) rfl (hb hby at_178) rfl (feq hc64).2 (by decide) (by decide) ?_
      show Steps p.tables e below (T62.setTop (mkF m 185 #[.val (.int i0), .val (.long i1), .second, .val (.long i2), .second, .val (.long i3), .second, .val (.long i4), .second, .val (.long i5), .second, .val (.long v4), .second, .val (.long v9), .second, .val (.long v14), .second, .val (.long i4), .second, .val (.long v19), .second, .val (.int v24), .val (.long v27), .second, .val (.long v30), .second, .val (.long v33), .second, .val (.long v36), .second, .val (.ref b38), .val (.int v59)] [])) _
      refine XS.iconst X62.here hx rfl (hb hby at_185) ?_
      exact k)
    obtain ⟨fs, hr, hrun, hended, hW, hsame⟩ := X62.leave (v := some (.int (nar .boolean (0 : Int32)))) (fun h => by rw [Bd.returns] at h; cases h)
    refine ⟨_, _, P00 _ (P67 _ ?_), hrun, hended, _, _, rfl, ?_, ⟨_, rfl⟩, hW, hsame.mono (by decide) (by decide)⟩
    · exact retN X62 hx (t := .boolean) Bd.returns (by simp) (hb hby at_186) hr
    · show Q0 Z i0 i1 i2 i3 i4 i5 h0 n0 _ T62.heap _
      rw [e62]
      refine ⟨?_, N62⟩
      exact absurd (by rw [own_eq, hv59]) hc64
set_option maxRecDepth 65536 in
set_option maxHeartbeats 40000000 in
theorem comes_1 {Post : Tables → Env → Array Value → State → Outcome → State → Prop} (hpost : ∀ tb e args s v u, (limb_1_1.after args s (.returned v) u = true ∧ limb_1_2.after args s (.returned v) u = true ∧ True) → FrameEnd s (.returned v) u (Jvm.fieldLocs frame_1_writes args s ++ Jvm.arrayLocs frame_1_arrays args s ++ Jvm.staticLocs frame_1_statics s) 16 128 → Post tb e args s (.returned v) u) :
    ArmFor flags0 classFile x code maxLocals ret World_1 tables_1 room_1 Calls_1 rest_1 Pre_1 Post := by
  intro l hfl _ _ p e ha hc hk s m args below hf hA hF happ hP
  obtain ⟨hcalls, hrest, hpre⟩ := hP
  obtain ⟨-, -, -, hnamed, -, -, -, hat⟩ := (Spec.applies_iff hf).mp happ
  obtain ⟨hg, hn⟩ := and_e (Cond.before_iff.mp (show (Jvm.Cond.and given_1 narrow_1).before args s = true from hpre))
  obtain ⟨ga0, gb0⟩ := and_e hg
  obtain ⟨ga1, gb1⟩ := and_e gb0
  obtain ⟨ga2, gb2⟩ := and_e gb1
  obtain ⟨ga3, gb3⟩ := and_e gb2
  obtain ⟨ga4, gb4⟩ := and_e gb3
  obtain ⟨ga5, gb5⟩ := and_e gb4
  obtain ⟨w0, w1, w2, w3, w4, w5, rfl⟩ : ∃ w0 w1 w2 w3 w4 w5 : Value, args = #[w0, w1, w2, w3, w4, w5] := by
    have hs : args.size = 6 := by simpa [Cond.value, given_1] using ga0
    obtain ⟨L⟩ := args
    match L, hs with
    | [w0, w1, w2, w3, w4, w5], _ => exact ⟨w0, w1, w2, w3, w4, w5, rfl⟩
  have hw := fun d (hd : d ∈ tables_1) => atoms_spec (ws := Jvm.Cond.code x code maxLocals ret :: tables_1) hat d (List.mem_cons_of_mem _ hd)
  have hfit : Fit s := fun {y c} hc i hi => by
    obtain ⟨ha, rfl⟩ := Array.getElem?_eq_some_iff.mp hc
    have q := List.all_eq_true.mp ((Array.all_eq_true_iff_forall_mem.mp hF) _ (Array.getElem_mem ha)) i (List.mem_range.mpr hi)
    simpa [Array.getElem?_eq_getElem hi] using q
  obtain ⟨i0, ei0⟩ := is_v ga1
  obtain rfl : w0 = (.int i0) := Option.some.inj ei0
  obtain ⟨i1, ei1⟩ := isL_v ga2
  obtain rfl : w1 = (.long i1) := Option.some.inj ei1
  obtain ⟨i2, ei2⟩ := isL_v ga3
  obtain rfl : w2 = (.long i2) := Option.some.inj ei2
  obtain ⟨i3, ei3⟩ := isL_v ga4
  obtain rfl : w3 = (.long i3) := Option.some.inj ei3
  obtain ⟨i4, ei4⟩ := isL_v ga5
  obtain rfl : w4 = (.long i4) := Option.some.inj ei4
  obtain ⟨i5, ei5⟩ := isL_v gb5
  obtain rfl : w5 = (.long i5) := Option.some.inj ei5
  obtain ⟨n, o, h1, h2, h3, _, L, rfl, ⟨rfl, N⟩, hq⟩ := rm0 l s _ hw tables_1 i0 i1 i2 i3 i4 i5  s.heap s.heap.size (Nat.le_refl _)  p e ha hc hk s m _ below hf ((Spec.applies_iff_loose hf).mp happ).1 ⟨rfl, State.Warmed39.refl s, rfl⟩ trivial
  refine ⟨n, _, h1, h2, h3, hpost _ _ _ _ _ _ ⟨Cond.after_iff.mpr rfl, Cond.after_iff.mpr (eq_i res_at (Term.int_eval (1)) rfl), trivial⟩ ⟨hq.1, hq.2.1, (hq.2.2.sift fun y hy => Or.inr (N y hy)).mono (by decide) (by decide)⟩⟩
theorem main_1_1 : Claimed_1_1 := comes_1 fun _ _ _ _ _ _ h hF => ⟨h.1, hF⟩
theorem main_1_2 : Claimed_1_2 := comes_1 fun _ _ _ _ _ _ h hF => ⟨h.2.1, hF⟩
end Jvm.Pilot.@@N@@
namespace Jvm.Pilot.@@N@@
open Jvm Jvm.ClassFile Sem Op Lib Jvm.Free Jvm.Stand Jvm.Pilot.@@N@@.Jvm.D
/-! MADE BY PROGRAM (witnessworld.py) out of the Statement's table words and the real class files: 10 classes; the members and pool entries that the words name. The judged class is class 1, her method 1. -/
namespace start1
open Jvm.ClassFile
def u (s : String) : CpInfo := .utf8 (stringToUtf16 s)
/-- a pool by its gaps: so many unusable entries, then the entry; so many at the end -/
def gap : Nat → List CpInfo → List CpInfo
  | 0, r => r
  | n + 1, r => .unusable :: gap n r
def poolList (es : List (Nat × CpInfo)) (last : Nat) : List CpInfo := es.foldr (fun e r => gap e.1 (e.2 :: r)) (gap last [])
def pool (es : List (Nat × CpInfo)) (last : Nat) : Array CpInfo := ⟨poolList es last⟩
def fileOf (pool : Array CpInfo) (this : Nat) (attrs : Array Attribute := #[]) (ms : Array MethodInfo := #[]) (fl : Nat := 33) (sup : Nat := 0) (ifs : Array Nat := #[]) (fds : Array FieldInfo := #[]) : ClassFile where
  minorVersion := 0
  majorVersion := 65
  constantPool := pool
  accessFlags := fl
  thisClass := this
  superClass := sup
  interfaces := ifs
  fields := fds
  methods := ms
  attributes := attrs
def plain (name : String) (sup : Option ClassId) : Class where
  name := name
  kind := .ordinary
  loader := none
  accessFlags := 33
  super := sup
  interfaces := #[]
  cf := none
  fields := #[]
  methods := #[]
  instanceTypes := #[]
  staticTypes := #[]
  resolved := #[]
  callSites := []
  init := .initialized
  statics := none
  mirror := none

def pool0 : Array CpInfo := pool [(5, u "<init>"), (0, u "()V"), (1, .class_ 10), (1, u "java/lang/Object")] 113

def k0c0 : Code := { maxStack := 0, maxLocals := 1, code := object_method_1_code, exceptionTable := #[], attributes := #[] }
def k0m0 : Method := { name := "<init>", desc := "()V", sig := { parameters := [], returnType := none }, accessFlags := 1, code := some k0c0 }
/-- java/lang/Object -/
def k0 : Class := { plain "java/lang/Object" none with
  accessFlags := 33
  interfaces := #[]
  cf := some (fileOf pool0 8 #[] #[{ accessFlags := 1, nameIndex := 5, descriptorIndex := 6, attributes := #[] }] 33 0 #[] #[])
  fields := #[]
  methods := #[k0m0]
  instanceTypes := #[]
  staticTypes := #[]
  resolved := Array.replicate 124 none
  statics := none }

def pool1 : Array CpInfo := pool [(2, .class_ 4), (1, u "java/lang/Object"), (0, u "<init>"), (0, u "()V"), (2, .long 9223372036854775807), (1, .class_ 12), (0, u "com/example/commitlog/commitlog/store/VerifyResult"), (0, .methodref 11 14), (0, .nameAndType 5 15), (0, u "(JJJJJJJJJZ)V"), (0, .methodref 11 17), (0, .nameAndType 18 19), (0, u "isWhole"), (0, u "()Z"), (0, .class_ 21), (0, u "com/example/commitlog/commitlog/store/VerifyResultIsWholePinLaw"), (2, u "law"), (0, u "(IJJJJJ)Z")] 3

def k1m0 : Method := { name := "<init>", desc := "()V", sig := { parameters := [], returnType := none }, accessFlags := 1, code := none }
def k1c1 : Code := { maxStack := 21, maxLocals := 32, code := code, exceptionTable := #[], attributes := #[] }
def k1m1 : Method := { name := "law", desc := "(IJJJJJ)Z", sig := { parameters := [.int, .long, .long, .long, .long, .long], returnType := some .boolean }, accessFlags := 9, code := some k1c1 }
/-- com/example/commitlog/commitlog/store/VerifyResultIsWholePinLaw -/
def k1 : Class := { plain "com/example/commitlog/commitlog/store/VerifyResultIsWholePinLaw" (some 0) with
  accessFlags := 49
  interfaces := #[]
  cf := some (fileOf pool1 20 #[] #[{ accessFlags := 1, nameIndex := 5, descriptorIndex := 6, attributes := #[] }, { accessFlags := 9, nameIndex := 24, descriptorIndex := 25, attributes := #[] }] 49 2 #[] #[])
  fields := #[]
  methods := #[k1m0, k1m1]
  instanceTypes := #[]
  staticTypes := #[]
  resolved := Array.replicate 29 none
  statics := none }

def pool2 : Array CpInfo := pool [(1, .methodref 2 3), (0, .class_ 4), (0, .nameAndType 5 6), (0, u "java/lang/Object"), (0, u "<init>"), (0, u "()V"), (0, .class_ 8), (0, u "java/lang/Record")] 13

def k2c0 : Code := { maxStack := 1, maxLocals := 1, code := jdk_30_method_1_code, exceptionTable := #[], attributes := #[] }
def k2m0 : Method := { name := "<init>", desc := "()V", sig := { parameters := [], returnType := none }, accessFlags := 4, code := some k2c0 }
/-- java/lang/Record -/
def k2 : Class := { plain "java/lang/Record" (some 0) with
  accessFlags := 1057
  interfaces := #[]
  cf := some (fileOf pool2 7 #[] #[{ accessFlags := 4, nameIndex := 5, descriptorIndex := 6, attributes := #[] }] 1057 2 #[] #[])
  fields := #[]
  methods := #[k2m0]
  instanceTypes := #[]
  staticTypes := #[]
  resolved := Array.replicate 22 none
  statics := none }

def pool3 : Array CpInfo := pool [(1, .methodref 2 3), (0, .class_ 4), (0, .nameAndType 5 6), (0, u "java/lang/Record"), (0, u "<init>"), (0, u "()V"), (0, .fieldref 8 9), (0, .class_ 10), (0, .nameAndType 11 12), (0, u "com/example/commitlog/commitlog/store/VerifyResult"), (0, u "logStart"), (0, u "J"), (0, .fieldref 8 14), (0, .nameAndType 15 12), (0, u "logEnd"), (0, .fieldref 8 17), (0, .nameAndType 18 12), (0, u "recoveryEnd"), (0, .fieldref 8 20), (0, .nameAndType 21 12), (0, u "records"), (0, .fieldref 8 23), (0, .nameAndType 24 12), (0, u "damaged"), (0, .fieldref 8 26), (0, .nameAndType 27 12), (0, u "units"), (0, .fieldref 8 29), (0, .nameAndType 30 12), (0, u "badUnits"), (0, .fieldref 8 32), (0, .nameAndType 33 12), (0, u "entries"), (0, .fieldref 8 35), (0, .nameAndType 36 12), (0, u "badEntries"), (0, .fieldref 8 38), (0, .nameAndType 39 40), (0, u "closedCleanly"), (0, u "Z"), (12, u "(JJJJJJJJJZ)V"), (3, u "isWhole"), (0, u "()Z")] 34

def k3c0 : Code := { maxStack := 3, maxLocals := 20, code := prog_85_method_1_code, exceptionTable := #[], attributes := #[] }
def k3m0 : Method := { name := "<init>", desc := "(JJJJJJJJJZ)V", sig := { parameters := [.long, .long, .long, .long, .long, .long, .long, .long, .long, .boolean], returnType := none }, accessFlags := 1, code := some k3c0 }
def k3c1 : Code := { maxStack := 4, maxLocals := 1, code := prog_85_method_2_code, exceptionTable := #[], attributes := #[] }
def k3m1 : Method := { name := "isWhole", desc := "()Z", sig := { parameters := [], returnType := some .boolean }, accessFlags := 1, code := some k3c1 }
/-- com/example/commitlog/commitlog/store/VerifyResult -/
def k3 : Class := { plain "com/example/commitlog/commitlog/store/VerifyResult" (some 2) with
  accessFlags := 49
  interfaces := #[]
  cf := some (fileOf pool3 8 #[] #[{ accessFlags := 1, nameIndex := 5, descriptorIndex := 53, attributes := #[] }, { accessFlags := 1, nameIndex := 57, descriptorIndex := 58, attributes := #[] }] 49 2 #[] #[{ accessFlags := 18, nameIndex := 11, descriptorIndex := 12, attributes := #[] }, { accessFlags := 18, nameIndex := 15, descriptorIndex := 12, attributes := #[] }, { accessFlags := 18, nameIndex := 18, descriptorIndex := 12, attributes := #[] }, { accessFlags := 18, nameIndex := 21, descriptorIndex := 12, attributes := #[] }, { accessFlags := 18, nameIndex := 24, descriptorIndex := 12, attributes := #[] }, { accessFlags := 18, nameIndex := 27, descriptorIndex := 12, attributes := #[] }, { accessFlags := 18, nameIndex := 30, descriptorIndex := 12, attributes := #[] }, { accessFlags := 18, nameIndex := 33, descriptorIndex := 12, attributes := #[] }, { accessFlags := 18, nameIndex := 36, descriptorIndex := 12, attributes := #[] }, { accessFlags := 18, nameIndex := 39, descriptorIndex := 40, attributes := #[] }])
  fields := #[{ name := "logStart", type := .long, accessFlags := 18, slot := 0, constantValue := 0 }, { name := "logEnd", type := .long, accessFlags := 18, slot := 1, constantValue := 0 }, { name := "recoveryEnd", type := .long, accessFlags := 18, slot := 2, constantValue := 0 }, { name := "records", type := .long, accessFlags := 18, slot := 3, constantValue := 0 }, { name := "damaged", type := .long, accessFlags := 18, slot := 4, constantValue := 0 }, { name := "units", type := .long, accessFlags := 18, slot := 5, constantValue := 0 }, { name := "badUnits", type := .long, accessFlags := 18, slot := 6, constantValue := 0 }, { name := "entries", type := .long, accessFlags := 18, slot := 7, constantValue := 0 }, { name := "badEntries", type := .long, accessFlags := 18, slot := 8, constantValue := 0 }, { name := "closedCleanly", type := .boolean, accessFlags := 18, slot := 9, constantValue := 0 }]
  methods := #[k3m0, k3m1]
  instanceTypes := #[.long, .long, .long, .long, .long, .long, .long, .long, .long, .boolean]
  staticTypes := #[]
  resolved := Array.replicate 93 none
  statics := none }

def pool4 : Array CpInfo := pool [(1, u "java/lang/Cloneable"), (0, .class_ 1), (0, u "java/lang/Object"), (0, .class_ 3)] 3

/-- java/lang/Cloneable -/
def k4 : Class := { plain "java/lang/Cloneable" (some 0) with
  accessFlags := 1537
  interfaces := #[]
  cf := some (fileOf pool4 2 #[] #[] 1537 4 #[] #[])
  fields := #[]
  methods := #[]
  instanceTypes := #[]
  staticTypes := #[]
  resolved := Array.replicate 8 none
  statics := none }

def pool5 : Array CpInfo := pool [(1, u "java/io/Serializable"), (0, .class_ 1), (0, u "java/lang/Object"), (0, .class_ 3)] 3

/-- java/io/Serializable -/
def k5 : Class := { plain "java/io/Serializable" (some 0) with
  accessFlags := 1537
  interfaces := #[]
  cf := some (fileOf pool5 2 #[] #[] 1537 4 #[] #[])
  fields := #[]
  methods := #[]
  instanceTypes := #[]
  staticTypes := #[]
  resolved := Array.replicate 8 none
  statics := none }

/-- the primitive byte -/
def k6 : Class := { plain "byte" none with kind := .primitive 'B', accessFlags := 0x411 }
/-- [B -/
def k7 : Class := { plain "[B" (some 0) with kind := .array 6 .byte, interfaces := #[4, 5], accessFlags := 1041 }

/-- the primitive int -/
def k8 : Class := { plain "int" none with kind := .primitive 'I', accessFlags := 0x411 }
/-- [I -/
def k9 : Class := { plain "[I" (some 0) with kind := .array 8 .int, interfaces := #[4, 5], accessFlags := 1041 }

def heap : Heap := #[]
def classes : Array Class := #[k0, k1, k2, k3, k4, k5, k6, k7, k8, k9]
def interned : List (Array UInt16 × Addr) := []
def slotsUsed : Nat := 0
def theMethod : MethodId := ⟨1, 1⟩
def args0 : Array Value := #[.int 5, .long 6, .long 7, .long 8, .long 9, .long 5]
def aboutOver (below : List Frame) : State where
  vm := { classes := classes, interned := interned.toArray }
  heap := heap
  slotsUsed := slotsUsed
  threads := #[{ frames := .invoking theMethod args0 :: below }]
def below0 : List Frame := [.native { method := ⟨0, 0⟩, args := #[] }]
def about1 : State := aboutOver below0
def p0 : Program := .bare "" "" ""
def e0 : Env := launch0.env 0 0 0
theorem w_frames : about1.frames = Frame.invoking theMethod args0 :: below0 := rfl
set_option maxRecDepth 65536 in
theorem w_args : argsFit about1.vm theMethod args0 = true := by decide +kernel
set_option maxRecDepth 65536 in
theorem w_heap : heapFits about1 = true := by decide +kernel
set_option maxRecDepth 65536 in
theorem w_runnable : about1.curStatus? = some .runnable := by decide +kernel
set_option maxRecDepth 65536 in
theorem w_alone : about1.alone = true := by decide +kernel
set_option maxRecDepth 65536 in
theorem w_named : about1.methodNamed? x = some theMethod := by decide +kernel
set_option maxRecDepth 65536 in
theorem w_hears : about1.hears theMethod below0 = true := by decide +kernel
set_option maxRecDepth 65536 in
theorem w_ripe : about1.ripe theMethod args0 below0 = true := by decide +kernel
theorem w_running : about1.status = .running := rfl
set_option maxRecDepth 65536 in
theorem w_room : about1.hasRoom e0.platform room_1 = true :=
  launch0.hasRoom_least _ room_1 (by decide +kernel) (by decide +kernel) (by decide +kernel) (by decide +kernel) (by decide +kernel) (by decide +kernel)
theorem allAtoms_all (ts : List Jvm.Cond) (a : Array Jvm.Value) (st : Jvm.State) : (allAtoms ts).before a st = ts.all (fun c => c.before a st) := by
  induction ts with
  | nil => rfl
  | cons c t ih =>
    show (Jvm.Cond.and c (allAtoms t)).before a st = _
    rw [Jvm.Cond.before_and, ih, List.all_cons]
def words1 : List Jvm.Cond := Jvm.Cond.code x code maxLocals ret :: tables_1
/-- a 'code' word, met by the world's own term for the bytes: nothing is compared byte by byte -/
theorem code_word {y : MethodName} {bytes : ByteArray} {mx : Nat} {rt : Option FieldType} {a : Array Value} {s : State} {m : MethodId} {meth : Method} {c : Code} (h1 : s.methodNamed? y = some m) (h2 : s.vm.method? m = some meth) (h3 : meth.code = some c) (h4 : c.code = bytes)
    (h5 : (c.maxLocals == mx && c.exceptionTable.isEmpty && decide (c.maxStack ≤ mostOperands) && decide (meth.sig.returnType = rt) && !meth.locks && decide (parseMethodDescriptor y.desc = some meth.sig)) = true) : (Jvm.Cond.code y bytes mx rt).before a s = true := by
  simp only [Bool.and_eq_true, beq_iff_eq, Bool.not_eq_true', decide_eq_true_eq] at h5
  obtain ⟨⟨⟨⟨⟨g1, g2⟩, g3⟩, g4⟩, g5⟩, g6⟩ := h5
  simp [Cond.before, Cond.holds, Cond.value, h1, h2, h3, h4, g1, g2, g3, g4, g5, g6]
def isCode : Jvm.Cond → Bool
  | .code _ _ _ _ => true
  | _ => false
theorem all_split {L : List Jvm.Cond} {P : Jvm.Cond → Bool} (h1 : L.all (fun c => isCode c || P c) = true) (h2 : ∀ c ∈ L.filter isCode, P c = true) : L.all P = true := by
  refine List.all_eq_true.mpr fun c hc => ?_
  have h := List.all_eq_true.mp h1 c hc
  rcases Bool.eq_false_or_eq_true (isCode c) with hi | hi
  · exact h2 c (List.mem_filter.mpr ⟨hc, hi⟩)
  · simpa [hi] using h
set_option maxRecDepth 65536 in
theorem w_c0 : (Jvm.Cond.code x code maxLocals ret).before args0 about1 = true := code_word (m := ⟨1, 1⟩) (meth := k1m1) (c := k1c1) (by decide +kernel) rfl rfl rfl (by decide +kernel)
set_option maxRecDepth 65536 in
theorem w_c1 : (Jvm.Cond.code ({ cls := "com/example/commitlog/commitlog/store/VerifyResult", name := "<init>", desc := "(JJJJJJJJJZ)V" } : Jvm.MethodName) prog_85_method_1_code (20 : Nat) (Option.none : Option Jvm.ClassFile.FieldType)).before args0 about1 = true := code_word (m := ⟨3, 0⟩) (meth := k3m0) (c := k3c0) (by decide +kernel) rfl rfl rfl (by decide +kernel)
set_option maxRecDepth 65536 in
theorem w_c2 : (Jvm.Cond.code ({ cls := "java/lang/Record", name := "<init>", desc := "()V" } : Jvm.MethodName) jdk_30_method_1_code (1 : Nat) (Option.none : Option Jvm.ClassFile.FieldType)).before args0 about1 = true := code_word (m := ⟨2, 0⟩) (meth := k2m0) (c := k2c0) (by decide +kernel) rfl rfl rfl (by decide +kernel)
set_option maxRecDepth 65536 in
theorem w_c3 : (Jvm.Cond.code ({ cls := "java/lang/Object", name := "<init>", desc := "()V" } : Jvm.MethodName) object_method_1_code (1 : Nat) (Option.none : Option Jvm.ClassFile.FieldType)).before args0 about1 = true := code_word (m := ⟨0, 0⟩) (meth := k0m0) (c := k0c0) (by decide +kernel) rfl rfl rfl (by decide +kernel)
set_option maxRecDepth 65536 in
theorem w_c4 : (Jvm.Cond.code ({ cls := "com/example/commitlog/commitlog/store/VerifyResult", name := "isWhole", desc := "()Z" } : Jvm.MethodName) prog_85_method_2_code (1 : Nat) (Option.some Jvm.ClassFile.FieldType.boolean)).before args0 about1 = true := code_word (m := ⟨3, 1⟩) (meth := k3m1) (c := k3c1) (by decide +kernel) rfl rfl rfl (by decide +kernel)
def codes1 : List Jvm.Cond := [Jvm.Cond.code x code maxLocals ret, Jvm.Cond.code ({ cls := "com/example/commitlog/commitlog/store/VerifyResult", name := "<init>", desc := "(JJJJJJJJJZ)V" } : Jvm.MethodName) prog_85_method_1_code (20 : Nat) (Option.none : Option Jvm.ClassFile.FieldType), Jvm.Cond.code ({ cls := "java/lang/Record", name := "<init>", desc := "()V" } : Jvm.MethodName) jdk_30_method_1_code (1 : Nat) (Option.none : Option Jvm.ClassFile.FieldType), Jvm.Cond.code ({ cls := "java/lang/Object", name := "<init>", desc := "()V" } : Jvm.MethodName) object_method_1_code (1 : Nat) (Option.none : Option Jvm.ClassFile.FieldType), Jvm.Cond.code ({ cls := "com/example/commitlog/commitlog/store/VerifyResult", name := "isWhole", desc := "()Z" } : Jvm.MethodName) prog_85_method_2_code (1 : Nat) (Option.some Jvm.ClassFile.FieldType.boolean)]
set_option maxRecDepth 65536 in
theorem codes_eq : words1.filter isCode = codes1 := rfl
theorem w_codes : ∀ c ∈ words1.filter isCode, c.before args0 about1 = true := by
  rw [codes_eq]
  intro c hc
  simp only [codes1, List.mem_cons, List.not_mem_nil, or_false] at hc
  rcases hc with rfl | rfl | rfl | rfl | rfl
  · exact w_c0
  · exact w_c1
  · exact w_c2
  · exact w_c3
  · exact w_c4
set_option maxRecDepth 65536 in
theorem w_t1 : (words1.take 24).all (fun c => isCode c || c.before args0 about1) = true := by decide +kernel
set_option maxRecDepth 65536 in
theorem w_t2 : (words1.drop 24).all (fun c => isCode c || c.before args0 about1) = true := by decide +kernel
theorem w_tables : (allAtoms (Jvm.Cond.code x code maxLocals ret :: tables_1)).before args0 about1 = true := by
  rw [allAtoms_all]
  show words1.all (fun c => c.before args0 about1) = true
  refine all_split ?_ w_codes
  rw [← List.take_append_drop 24 words1, List.all_append, w_t1, w_t2]
  rfl
set_option maxRecDepth 65536 in
theorem w_case : (Jvm.Cond.and given_1 narrow_1).before args0 about1 = true := by decide +kernel
theorem w_applies : (headSpec (Jvm.Cond.code x code maxLocals ret :: tables_1) room_1).applies x e0.platform about1 = true :=
  (Spec.applies_iff w_frames).mpr ⟨w_running, w_runnable, w_alone, w_named, w_hears, w_ripe, w_room, w_tables⟩
theorem atStart : AtStart classFile x code maxLocals ret World_1 tables_1 room_1 Calls_1 rest_1 Pre_1 launch0 p0 e0 about1 theMethod args0 below0 :=
  ⟨lists_1, trivial, launch0.admits_env _ _ _, launch0.least_env, fairChoices_fair.cas, fairChoices_fair.clock, w_frames, w_args, w_heap, w_applies, trivial, trivial, w_case⟩
end start1
theorem witness_1 : WitnessClaimed_1 := ⟨start1.p0, start1.e0, start1.about1, start1.theMethod, start1.args0, start1.below0, start1.atStart⟩
end Jvm.Pilot.@@N@@
