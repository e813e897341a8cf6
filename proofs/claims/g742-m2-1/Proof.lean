import JvmDerived
import JvmDerived.Pilot.@@N@@Statement
import JvmDerived.Pilot.@@N@@Code
set_option linter.unusedVariables false
set_option linter.unusedSimpArgs false
namespace Jvm.Pilot.@@N@@
open Jvm Jvm.ClassFile Sem Op Lib Jvm.Free Jvm.Stand Jvm.LawKit Jvm.RoadKit Bundle Jvm.Pilot.@@N@@.Jvm.D
/-- what runs on to t from B runs on to t from A -/
def own_Rch (tb : Tables) (e : Env) (below : List Frame) (A B : State) : Prop := ∀ t, Steps tb e below B t → Steps tb e below A t
theorem own_lct1 {a b : Int64} (h : a < b) : ifCond.holds .lt (lcmpW a b) = true ∧ ifCond.holds .ge (lcmpW a b) = false := by
  have h1 : ¬ b < a := fun q => by rw [Int64.lt_iff_toInt_lt] at h q; omega
  have h2 : ¬ a = b := fun q => by subst q; exact h1 h
  simp only [lcmpW, gt_iff_lt, h1, h2, if_false]; exact ⟨rfl, rfl⟩
theorem own_lcf1 {a b : Int64} (h : ¬ a < b) : ifCond.holds .lt (lcmpW a b) = false ∧ ifCond.holds .ge (lcmpW a b) = true := by
  by_cases h1 : b < a
  · simp only [lcmpW, gt_iff_lt, h1, if_true]; exact ⟨rfl, rfl⟩
  · have h2 : a = b := by rw [Int64.lt_iff_toInt_lt] at h h1; exact Int64.toInt_inj.mp (by omega)
    simp only [lcmpW, gt_iff_lt, h1, h2, if_false, if_true]; subst h2; simp only [Int64.lt_irrefl, if_false]; exact ⟨rfl, rfl⟩
theorem own_lct2 {a b : Int64} (h : b < a) : ifCond.holds .gt (lcmpW a b) = true ∧ ifCond.holds .le (lcmpW a b) = false := by
  simp only [lcmpW, gt_iff_lt, h, if_true]; exact ⟨rfl, rfl⟩
theorem own_lcf2 {a b : Int64} (h : ¬ b < a) : ifCond.holds .gt (lcmpW a b) = false ∧ ifCond.holds .le (lcmpW a b) = true := by
  by_cases h2 : a = b
  · simp only [lcmpW, gt_iff_lt, h, if_pos h2, if_false]; exact ⟨rfl, rfl⟩
  · simp only [lcmpW, gt_iff_lt, h, if_neg h2, if_false]; exact ⟨rfl, rfl⟩
theorem own_lct3 {a b : Int64} (h : a = b) : ifCond.holds .eq (lcmpW a b) = true ∧ ifCond.holds .ne (lcmpW a b) = false := by
  have h1 : ¬ b < a := fun q => by subst h; exact absurd q (Int64.lt_irrefl)
  simp only [lcmpW, gt_iff_lt, h1, if_pos h, if_false]; exact ⟨rfl, rfl⟩
theorem own_lcf3 {a b : Int64} (h : ¬ a = b) : ifCond.holds .eq (lcmpW a b) = false ∧ ifCond.holds .ne (lcmpW a b) = true := by
  by_cases h1 : b < a
  · simp only [lcmpW, gt_iff_lt, h1, if_true]; exact ⟨rfl, rfl⟩
  · simp only [lcmpW, gt_iff_lt, h1, if_neg h, if_false]; exact ⟨rfl, rfl⟩
theorem own_remI (x y : Int32) : x - x / y * y = x % y := by
  apply Int32.toInt_inj.mp
  have l := Int32.toInt_lt (x % y)
  have g := Int32.le_toInt (x % y)
  rw [Int32.toInt_sub, Int32.toInt_mul, Int32.toInt_div]
  simp only [Int.sub_bmod_bmod, Int.bmod_mul_bmod]
  rw [Int.mul_comm, ← Int.tmod_def, ← Int32.toInt_mod, Int.bmod_eq_of_le] <;> omega
theorem own_remL (x y : Int64) : x - x / y * y = x % y := by
  apply Int64.toInt_inj.mp
  have l := Int64.toInt_lt (x % y)
  have g := Int64.le_toInt (x % y)
  rw [Int64.toInt_sub, Int64.toInt_mul, Int64.toInt_div]
  simp only [Int.sub_bmod_bmod, Int.bmod_mul_bmod]
  rw [Int.mul_comm, ← Int.tmod_def, ← Int64.toInt_mod, Int.bmod_eq_of_le] <;> omega
theorem d2_0 : decode jdk_30_method_1_code 0 = .ok (.aload_n 0, 1) := by decide +kernel
theorem d2_1 : decode jdk_30_method_1_code 1 = .ok (.invokespecial 1, 3) := by decide +kernel
theorem d2_4 : decode jdk_30_method_1_code 4 = .ok (.return_, 1) := by decide +kernel
theorem pn_0 : plainName "java/lang/Record" = true := by first | (simp [plainName, overriddenIn]; done) | decide +kernel
theorem ef_2 (m : MethodId) (a : Addr) : entryFrame m #[(.ref a)] 1 = mkF m 0 #[.val (.ref a)] [] := by first | (simp [entryFrame, mkF, argsToLocals, Value.category]; done) | rfl
def Q2 (Z : State) (a : Addr) (h0 : Heap) (n0 : Nat) (v : Option Value) (h : Heap) (L : List Loc) : Prop := v = none ∧ Fr n0 L ∧ h = h0
set_option maxRecDepth 65536 in
set_option maxHeartbeats 40000000 in
theorem rm2 (l : Launch) (Z : State) (a0 : Array Value) (hw : ∀ d ∈ tables_1, d.before a0 Z = true) (ws : List Jvm.Cond) (a : Addr) (h0 : Heap) (n0 : Nat) (Z0 : n0 ≤ h0.size) :
    MetFree l (⟨"java/lang/Record", "<init>", "()V"⟩ : MethodName) (head1 (Jvm.Cond.code (⟨"java/lang/Record", "<init>", "()V"⟩ : MethodName) jdk_30_method_1_code 1 none :: ws) ({ frames := 1, cells := 0, slots := 0, locals := 12 } : Room)) (fun a' U => a' = #[(.ref a)] ∧ Z.Warmed39 U.vm ∧ U.heap = h0) (fun _ _ _ _ _ => True) (fun _ U o U' => ∃ v L, o = .returned v ∧ Q2 Z a h0 n0 v U'.heap L ∧ FrameEnd U o U' L ({ frames := 1, cells := 0, slots := 0, locals := 12 } : Room).cells ({ frames := 1, cells := 0, slots := 0, locals := 12 } : Room).slots) := by
  refine MetFree.of_bodySF (plainFor_of_name pn_0) hisR ?_
  intro p e s m args' below meth c s₁ Bd hml0 hP hK
  obtain ⟨hargs, hZ, hh⟩ := hP
  have hx := Bd.exec
  have hby := Bd.bytes
  have hml : c.maxLocals = 1 := hml0
  have hown : s.vm.findClass "java/lang/Record" = some m.cls := findClass_of_methodNamed Bd.named
  have hnm := (name_of_methodNamed Bd.named Bd.method).1
  have X0 : Stand p l e ({ frames := 1, cells := 0, slots := 0, locals := 12 } : Room) s m args' below meth c s₁ [] 0 0 := Stand.of_body Bd
  have e0 : s₁.heap = h0 := by rw [← hh, Bd.state]; rfl
  have N0 := Fr.nil n0
  obtain ⟨A0, hA0⟩ : ∃ A, A = s₁.setTop (mkF m 0 #[.val (.ref a)] []) := ⟨_, rfl⟩
  have P0 : own_Rch p.tables e below A0 (s₁.setTop (mkF m 0 #[.val (.ref a)] [])) := fun t k => hA0 ▸ k
  have P00 : own_Rch p.tables e below (s₁.setTop (entryFrame m args' 1)) A0 := fun t k => by rw [hargs]; exact castTop (ef_2 m a) (hA0 ▸ k)
  have P1 : own_Rch p.tables e below A0 (s₁.setTop (mkF m 1 #[.val (.ref a)] [(.ref a)])) := fun t k => P0 t (by
    show Steps p.tables e below (s₁.setTop (mkF m 0 #[.val (.ref a)] [])) _
    refine XS.aloadN X0.here hx rfl (hb hby d2_0) rfl rfl ?_
    exact k)
  obtain ⟨T2, X2, e2, st2⟩ := initO X0 hx hZ hown (hw _ (List.mem_of_getElem? (i := 19) rfl)) (hw _ (List.mem_of_getElem? (i := 20) rfl)) (hw _ (List.mem_of_getElem? (i := 21) rfl)) e0 (g := (mkF m 1 #[.val (.ref a)] [(.ref a)])) rfl (by rw [hml]; rfl) rfl (hb hby d2_1) (by decide) (W := 0) (by show 2 * 0 + _ ≤ _; exact Nat.le_of_eq rfl) (by decide)
  have P3 : own_Rch p.tables e below A0 (T2.setTop (mkF m 4 #[.val (.ref a)] [])) := fun t k => P1 t (st2 t k)
  obtain ⟨fs, hr, hrun, hended, hW, hsame⟩ := X2.leave (v := none) (fun _ => rfl)
  refine ⟨_, _, P00 _ (P3 _ ?_), hrun, hended, _, _, rfl, ?_, ⟨_, rfl⟩, hW, hsame.mono (by decide) (by decide)⟩
  · exact X2.returnOut hx Bd.returns (hb hby d2_4) hr
  · show Q2 Z a h0 n0 _ T2.heap _
    rw [e2]
    refine ⟨?_, N0, rfl⟩
    rfl
theorem d1_0 : decode prog_101_method_1_code 0 = .ok (.aload_n 0, 1) := by decide +kernel
theorem d1_1 : decode prog_101_method_1_code 1 = .ok (.invokespecial 1, 3) := by decide +kernel
theorem d1_4 : decode prog_101_method_1_code 4 = .ok (.aload_n 0, 1) := by decide +kernel
theorem d1_5 : decode prog_101_method_1_code 5 = .ok (.aload_n 1, 1) := by decide +kernel
theorem d1_6 : decode prog_101_method_1_code 6 = .ok (.putfield 7, 3) := by decide +kernel
theorem d1_9 : decode prog_101_method_1_code 9 = .ok (.aload_n 0, 1) := by decide +kernel
theorem d1_10 : decode prog_101_method_1_code 10 = .ok (.iload_n 2, 1) := by decide +kernel
theorem d1_11 : decode prog_101_method_1_code 11 = .ok (.putfield 13, 3) := by decide +kernel
theorem d1_14 : decode prog_101_method_1_code 14 = .ok (.aload_n 0, 1) := by decide +kernel
theorem d1_15 : decode prog_101_method_1_code 15 = .ok (.iload_n 3, 1) := by decide +kernel
theorem d1_16 : decode prog_101_method_1_code 16 = .ok (.putfield 17, 3) := by decide +kernel
theorem d1_19 : decode prog_101_method_1_code 19 = .ok (.aload_n 0, 1) := by decide +kernel
theorem d1_20 : decode prog_101_method_1_code 20 = .ok (.iload 4, 2) := by decide +kernel
theorem d1_22 : decode prog_101_method_1_code 22 = .ok (.putfield 20, 3) := by decide +kernel
theorem d1_25 : decode prog_101_method_1_code 25 = .ok (.aload_n 0, 1) := by decide +kernel
theorem d1_26 : decode prog_101_method_1_code 26 = .ok (.lload 5, 2) := by decide +kernel
theorem d1_28 : decode prog_101_method_1_code 28 = .ok (.putfield 23, 3) := by decide +kernel
theorem d1_31 : decode prog_101_method_1_code 31 = .ok (.return_, 1) := by decide +kernel
theorem pd_0 : parseMethodDescriptor "()V" = some ⟨[], none⟩ := by decide +kernel
theorem pn_1 : plainName "com/example/rackline/rackline/cluster/ReplicaEnd" = true := by first | (simp [plainName, overriddenIn]; done) | decide +kernel
theorem ef_1 (m : MethodId) (a : Addr) (b : Addr) (q1 : Int32) (q2 : Int32) (q3 : Int32) (q4 : Int64) : entryFrame m #[(.ref a), (.ref b), (.int q1), (.int q2), (.int q3), (.long q4)] 7 = mkF m 0 #[.val (.ref a), .val (.ref b), .val (.int q1), .val (.int q2), .val (.int q3), .val (.long q4), .second] [] := by first | (simp [entryFrame, mkF, argsToLocals, Value.category]; done) | rfl
def Q1 (Z : State) (a : Addr) (b : Addr) (q1 : Int32) (q2 : Int32) (q3 : Int32) (q4 : Int64) (h0 : Heap) (n0 : Nat) (v : Option Value) (h : Heap) (L : List Loc) : Prop := v = none ∧ Fr n0 L ∧ Keep h0 h [a] ∧ Exa Z h a "com/example/rackline/rackline/cluster/ReplicaEnd" ∧ Fld Z h a "com/example/rackline/rackline/cluster/ReplicaEnd" "latestEpoch" "I" (.int q3) ∧ Fld Z h a "com/example/rackline/rackline/cluster/ReplicaEnd" "endOffset" "J" (.long q4)
set_option maxRecDepth 65536 in
set_option maxHeartbeats 40000000 in
theorem rm1 (l : Launch) (Z : State) (a0 : Array Value) (hw : ∀ d ∈ tables_1, d.before a0 Z = true) (ws : List Jvm.Cond) (a : Addr) (b : Addr) (q1 : Int32) (q2 : Int32) (q3 : Int32) (q4 : Int64) (h0 : Heap) (n0 : Nat) (Z0 : n0 ≤ h0.size) (E_a : Exa Z h0 a "com/example/rackline/rackline/cluster/ReplicaEnd") (F_a_topic : Fld Z h0 a "com/example/rackline/rackline/cluster/ReplicaEnd" "topic" "Ljava/lang/String;" .null) (F_a_partition : Fld Z h0 a "com/example/rackline/rackline/cluster/ReplicaEnd" "partition" "I" (.int (0 : Int32))) (F_a_leaderEpoch : Fld Z h0 a "com/example/rackline/rackline/cluster/ReplicaEnd" "leaderEpoch" "I" (.int (0 : Int32))) (F_a_latestEpoch : Fld Z h0 a "com/example/rackline/rackline/cluster/ReplicaEnd" "latestEpoch" "I" (.int (0 : Int32))) (F_a_endOffset : Fld Z h0 a "com/example/rackline/rackline/cluster/ReplicaEnd" "endOffset" "J" (.long (0 : Int64))) (g_a : n0 ≤ a) :
    MetFree l (⟨"com/example/rackline/rackline/cluster/ReplicaEnd", "<init>", "(Ljava/lang/String;IIIJ)V"⟩ : MethodName) (head1 (Jvm.Cond.code (⟨"com/example/rackline/rackline/cluster/ReplicaEnd", "<init>", "(Ljava/lang/String;IIIJ)V"⟩ : MethodName) prog_101_method_1_code 7 none :: ws) ({ frames := 2, cells := 0, slots := 0, locals := 24 } : Room)) (fun a' U => a' = #[(.ref a), (.ref b), (.int q1), (.int q2), (.int q3), (.long q4)] ∧ Z.Warmed39 U.vm ∧ U.heap = h0) (fun _ _ _ _ _ => True) (fun _ U o U' => ∃ v L, o = .returned v ∧ Q1 Z a b q1 q2 q3 q4 h0 n0 v U'.heap L ∧ FrameEnd U o U' L ({ frames := 2, cells := 0, slots := 0, locals := 24 } : Room).cells ({ frames := 2, cells := 0, slots := 0, locals := 24 } : Room).slots) := by
  refine MetFree.of_bodySF (plainFor_of_name pn_1) hisR ?_
  intro p e s m args' below meth c s₁ Bd hml0 hP hK
  obtain ⟨hargs, hZ, hh⟩ := hP
  have hx := Bd.exec
  have hby := Bd.bytes
  have hml : c.maxLocals = 7 := hml0
  have hown : s.vm.findClass "com/example/rackline/rackline/cluster/ReplicaEnd" = some m.cls := findClass_of_methodNamed Bd.named
  have hnm := (name_of_methodNamed Bd.named Bd.method).1
  have X0 : Stand p l e ({ frames := 2, cells := 0, slots := 0, locals := 24 } : Room) s m args' below meth c s₁ [] 0 0 := Stand.of_body Bd
  have e0 : s₁.heap = h0 := by rw [← hh, Bd.state]; rfl
  have N0 := Fr.nil n0
  obtain ⟨A0, hA0⟩ : ∃ A, A = s₁.setTop (mkF m 0 #[.val (.ref a), .val (.ref b), .val (.int q1), .val (.int q2), .val (.int q3), .val (.long q4), .second] []) := ⟨_, rfl⟩
  have P0 : own_Rch p.tables e below A0 (s₁.setTop (mkF m 0 #[.val (.ref a), .val (.ref b), .val (.int q1), .val (.int q2), .val (.int q3), .val (.long q4), .second] [])) := fun t k => hA0 ▸ k
  have P00 : own_Rch p.tables e below (s₁.setTop (entryFrame m args' 7)) A0 := fun t k => by rw [hargs]; exact castTop (ef_1 m a b q1 q2 q3 q4) (hA0 ▸ k)
  have K0 : Keep h0 h0 [a] := Keep.refl _ _
  have P1 : own_Rch p.tables e below A0 (s₁.setTop (mkF m 1 #[.val (.ref a), .val (.ref b), .val (.int q1), .val (.int q2), .val (.int q3), .val (.long q4), .second] [(.ref a)])) := fun t k => P0 t (by
    show Steps p.tables e below (s₁.setTop (mkF m 0 #[.val (.ref a), .val (.ref b), .val (.int q1), .val (.int q2), .val (.int q3), .val (.long q4), .second] [])) _
    refine XS.aloadN X0.here hx rfl (hb hby d1_0) rfl rfl ?_
    exact k)
  obtain ⟨_, _, ⟨T2, L2, k2, n2⟩, -, X2, ⟨Lc2, hQ2, l2, y2, z2⟩, st2⟩ := X0.specialBack hx (y := (⟨"java/lang/Record", "<init>", "()V"⟩ : MethodName)) rfl hown (mvT hZ (hw _ (List.mem_of_getElem? (i := 14) rfl))) (mvT hZ (hw _ (List.mem_of_getElem? (i := 15) rfl))) (mvT hZ (hw _ (List.mem_of_getElem? (i := 18) rfl))) (by decide) (backOf (W := 0) (rm2 l Z a0 hw [] a h0 n0 Z0 ) hZ (hw _ (List.mem_of_getElem? (i := 18) rfl)) (hw _ (List.mem_of_getElem? (i := 17) rfl)) (by decide) (by decide)) (g := (mkF m 1 #[.val (.ref a), .val (.ref b), .val (.int q1), .val (.int q2), .val (.int q3), .val (.long q4), .second] [(.ref a)])) rfl (by rw [hml]; rfl) (Steps.refl _) (a := a) (argsL := []) (rest := []) (lenOf pd_0 rfl) rfl (by show 2 * 0 + _ ≤ _; exact Nat.le_of_eq rfl) (hb hby d1_1) (fun _ _ => ⟨rfl, e0, (by decide : (0) + 0 ≤ _), (by decide : (0) + 0 ≤ _)⟩)
  dsimp only [Pt.U, Pt.locs, Pt.cells, Pt.slots] at X2 l2 y2 z2 st2 hQ2
  subst l2 y2 z2
  obtain ⟨rfl, N2q, e2⟩ := hQ2
  have N2 := Fr.app N0 N2q
  have P3 : own_Rch p.tables e below A0 (T2.setTop (mkF m 4 #[.val (.ref a), .val (.ref b), .val (.int q1), .val (.int q2), .val (.int q3), .val (.long q4), .second] [])) := fun t k => P1 t (st2.trans k)
  have P4 : own_Rch p.tables e below A0 (T2.setTop (mkF m 6 #[.val (.ref a), .val (.ref b), .val (.int q1), .val (.int q2), .val (.int q3), .val (.long q4), .second] [(.ref b), (.ref a)])) := fun t k => P3 t (by
    show Steps p.tables e below (T2.setTop (mkF m 4 #[.val (.ref a), .val (.ref b), .val (.int q1), .val (.int q2), .val (.int q3), .val (.long q4), .second] [])) _
    refine XS.aloadN X2.here hx rfl (hb hby d1_4) rfl rfl ?_
    show Steps p.tables e below (T2.setTop (mkF m 5 #[.val (.ref a), .val (.ref b), .val (.int q1), .val (.int q2), .val (.int q3), .val (.long q4), .second] [(.ref a)])) _
    refine XS.aloadN X2.here hx rfl (hb hby d1_5) rfl rfl ?_
    exact k)
  obtain ⟨T5, h5, X5, e5, W5, st5⟩ := putF X2 hx hZ hown (host := "") (Or.inl (hw _ (List.mem_of_getElem? (i := 22) rfl))) Via.refl e2 F_a_topic E_a (Or.inr ⟨(hw _ (List.mem_of_getElem? (i := 23) rfl)), rfl, hnm⟩) (hw _ (List.mem_of_getElem? (i := 1) rfl)) (ty := (.object "java/lang/String")) (by decide) rfl rfl (g := (mkF m 6 #[.val (.ref a), .val (.ref b), .val (.int q1), .val (.int q2), .val (.int q3), .val (.long q4), .second] [(.ref b), (.ref a)])) rfl rfl (hb hby d1_6)
  have N5 := Fr.snoc X5 N2 g_a
  have Z_6 : n0 ≤ h5.size := Nat.le_trans Z0 (Keep.of_wr W5).1
  have E_7 : Exa Z h5 a "com/example/rackline/rackline/cluster/ReplicaEnd" := E_a.wr W5
  have F_8 : Fld Z h5 a "com/example/rackline/rackline/cluster/ReplicaEnd" "topic" "Ljava/lang/String;" (.ref b) := F_a_topic.same W5
  have F_9 : Fld Z h5 a "com/example/rackline/rackline/cluster/ReplicaEnd" "partition" "I" (.int (0 : Int32)) := F_a_partition.other W5 (Or.inr (slot_ne (Or.inr (hw _ (List.mem_of_getElem? (i := 25) rfl))) (Or.inr (hw _ (List.mem_of_getElem? (i := 23) rfl))) (by decide) (t := .int) (t' := (.object "java/lang/String")) (by decide) (by decide)))
  have F_10 : Fld Z h5 a "com/example/rackline/rackline/cluster/ReplicaEnd" "leaderEpoch" "I" (.int (0 : Int32)) := F_a_leaderEpoch.other W5 (Or.inr (slot_ne (Or.inr (hw _ (List.mem_of_getElem? (i := 27) rfl))) (Or.inr (hw _ (List.mem_of_getElem? (i := 23) rfl))) (by decide) (t := .int) (t' := (.object "java/lang/String")) (by decide) (by decide)))
  have F_11 : Fld Z h5 a "com/example/rackline/rackline/cluster/ReplicaEnd" "latestEpoch" "I" (.int (0 : Int32)) := F_a_latestEpoch.other W5 (Or.inr (slot_ne (Or.inr (hw _ (List.mem_of_getElem? (i := 29) rfl))) (Or.inr (hw _ (List.mem_of_getElem? (i := 23) rfl))) (by decide) (t := .int) (t' := (.object "java/lang/String")) (by decide) (by decide)))
  have F_12 : Fld Z h5 a "com/example/rackline/rackline/cluster/ReplicaEnd" "endOffset" "J" (.long (0 : Int64)) := F_a_endOffset.other W5 (Or.inr (slot_ne (Or.inr (hw _ (List.mem_of_getElem? (i := 31) rfl))) (Or.inr (hw _ (List.mem_of_getElem? (i := 23) rfl))) (by decide) (t := .long) (t' := (.object "java/lang/String")) (by decide) (by decide)))
  have K_13 : Keep h0 h5 [a] := K0.wr W5 (Or.inl (List.mem_of_getElem? (i := 0) rfl))
  have P14 : own_Rch p.tables e below A0 (T5.setTop (mkF m 9 #[.val (.ref a), .val (.ref b), .val (.int q1), .val (.int q2), .val (.int q3), .val (.long q4), .second] [])) := fun t k => P4 t (st5 t k)
  have P15 : own_Rch p.tables e below A0 (T5.setTop (mkF m 11 #[.val (.ref a), .val (.ref b), .val (.int q1), .val (.int q2), .val (.int q3), .val (.long q4), .second] [(.int q1), (.ref a)])) := fun t k => P14 t (by
    show Steps p.tables e below (T5.setTop (mkF m 9 #[.val (.ref a), .val (.ref b), .val (.int q1), .val (.int q2), .val (.int q3), .val (.long q4), .second] [])) _
    refine XS.aloadN X5.here hx rfl (hb hby d1_9) rfl rfl ?_
    show Steps p.tables e below (T5.setTop (mkF m 10 #[.val (.ref a), .val (.ref b), .val (.int q1), .val (.int q2), .val (.int q3), .val (.long q4), .second] [(.ref a)])) _
    refine XS.iloadN X5.here hx rfl (hb hby d1_10) rfl ?_
    exact k)
  obtain ⟨T16, h16, X16, e16, W16, st16⟩ := putF X5 hx hZ hown (host := "") (Or.inl (hw _ (List.mem_of_getElem? (i := 24) rfl))) Via.refl e5 F_9 E_7 (Or.inr ⟨(hw _ (List.mem_of_getElem? (i := 25) rfl)), rfl, hnm⟩) (hw _ (List.mem_of_getElem? (i := 1) rfl)) (ty := .int) (by decide) rfl rfl (g := (mkF m 11 #[.val (.ref a), .val (.ref b), .val (.int q1), .val (.int q2), .val (.int q3), .val (.long q4), .second] [(.int q1), (.ref a)])) rfl rfl (hb hby d1_11)
  have N16 := Fr.snoc X16 N5 g_a
  have Z_17 : n0 ≤ h16.size := Nat.le_trans Z_6 (Keep.of_wr W16).1
  have E_18 : Exa Z h16 a "com/example/rackline/rackline/cluster/ReplicaEnd" := E_7.wr W16
  have F_19 : Fld Z h16 a "com/example/rackline/rackline/cluster/ReplicaEnd" "topic" "Ljava/lang/String;" (.ref b) := F_8.other W16 (Or.inr (slot_ne (Or.inr (hw _ (List.mem_of_getElem? (i := 23) rfl))) (Or.inr (hw _ (List.mem_of_getElem? (i := 25) rfl))) (by decide) (t := (.object "java/lang/String")) (t' := .int) (by decide) (by decide)))
  have F_20 : Fld Z h16 a "com/example/rackline/rackline/cluster/ReplicaEnd" "partition" "I" (.int q1) := F_9.same W16
  have F_21 : Fld Z h16 a "com/example/rackline/rackline/cluster/ReplicaEnd" "leaderEpoch" "I" (.int (0 : Int32)) := F_10.other W16 (Or.inr (slot_ne (Or.inr (hw _ (List.mem_of_getElem? (i := 27) rfl))) (Or.inr (hw _ (List.mem_of_getElem? (i := 25) rfl))) (by decide) (t := .int) (t' := .int) (by decide) (by decide)))
  have F_22 : Fld Z h16 a "com/example/rackline/rackline/cluster/ReplicaEnd" "latestEpoch" "I" (.int (0 : Int32)) := F_11.other W16 (Or.inr (slot_ne (Or.inr (hw _ (List.mem_of_getElem? (i := 29) rfl))) (Or.inr (hw _ (List.mem_of_getElem? (i := 25) rfl))) (by decide) (t := .int) (t' := .int) (by decide) (by decide)))
  have F_23 : Fld Z h16 a "com/example/rackline/rackline/cluster/ReplicaEnd" "endOffset" "J" (.long (0 : Int64)) := F_12.other W16 (Or.inr (slot_ne (Or.inr (hw _ (List.mem_of_getElem? (i := 31) rfl))) (Or.inr (hw _ (List.mem_of_getElem? (i := 25) rfl))) (by decide) (t := .long) (t' := .int) (by decide) (by decide)))
  have K_24 : Keep h0 h16 [a] := K_13.wr W16 (Or.inl (List.mem_of_getElem? (i := 0) rfl))
  have P25 : own_Rch p.tables e below A0 (T16.setTop (mkF m 14 #[.val (.ref a), .val (.ref b), .val (.int q1), .val (.int q2), .val (.int q3), .val (.long q4), .second] [])) := fun t k => P15 t (st16 t k)
  have P26 : own_Rch p.tables e below A0 (T16.setTop (mkF m 16 #[.val (.ref a), .val (.ref b), .val (.int q1), .val (.int q2), .val (.int q3), .val (.long q4), .second] [(.int q2), (.ref a)])) := fun t k => P25 t (by
    show Steps p.tables e below (T16.setTop (mkF m 14 #[.val (.ref a), .val (.ref b), .val (.int q1), .val (.int q2), .val (.int q3), .val (.long q4), .second] [])) _
    refine XS.aloadN X16.here hx rfl (hb hby d1_14) rfl rfl ?_
    show Steps p.tables e below (T16.setTop (mkF m 15 #[.val (.ref a), .val (.ref b), .val (.int q1), .val (.int q2), .val (.int q3), .val (.long q4), .second] [(.ref a)])) _
    refine XS.iloadN X16.here hx rfl (hb hby d1_15) rfl ?_
    exact k)
  obtain ⟨T27, h27, X27, e27, W27, st27⟩ := putF X16 hx hZ hown (host := "") (Or.inl (hw _ (List.mem_of_getElem? (i := 26) rfl))) Via.refl e16 F_21 E_18 (Or.inr ⟨(hw _ (List.mem_of_getElem? (i := 27) rfl)), rfl, hnm⟩) (hw _ (List.mem_of_getElem? (i := 1) rfl)) (ty := .int) (by decide) rfl rfl (g := (mkF m 16 #[.val (.ref a), .val (.ref b), .val (.int q1), .val (.int q2), .val (.int q3), .val (.long q4), .second] [(.int q2), (.ref a)])) rfl rfl (hb hby d1_16)
  have N27 := Fr.snoc X27 N16 g_a
  have Z_28 : n0 ≤ h27.size := Nat.le_trans Z_17 (Keep.of_wr W27).1
  have E_29 : Exa Z h27 a "com/example/rackline/rackline/cluster/ReplicaEnd" := E_18.wr W27
  have F_30 : Fld Z h27 a "com/example/rackline/rackline/cluster/ReplicaEnd" "topic" "Ljava/lang/String;" (.ref b) := F_19.other W27 (Or.inr (slot_ne (Or.inr (hw _ (List.mem_of_getElem? (i := 23) rfl))) (Or.inr (hw _ (List.mem_of_getElem? (i := 27) rfl))) (by decide) (t := (.object "java/lang/String")) (t' := .int) (by decide) (by decide)))
  have F_31 : Fld Z h27 a "com/example/rackline/rackline/cluster/ReplicaEnd" "partition" "I" (.int q1) := F_20.other W27 (Or.inr (slot_ne (Or.inr (hw _ (List.mem_of_getElem? (i := 25) rfl))) (Or.inr (hw _ (List.mem_of_getElem? (i := 27) rfl))) (by decide) (t := .int) (t' := .int) (by decide) (by decide)))
  have F_32 : Fld Z h27 a "com/example/rackline/rackline/cluster/ReplicaEnd" "leaderEpoch" "I" (.int q2) := F_21.same W27
  have F_33 : Fld Z h27 a "com/example/rackline/rackline/cluster/ReplicaEnd" "latestEpoch" "I" (.int (0 : Int32)) := F_22.other W27 (Or.inr (slot_ne (Or.inr (hw _ (List.mem_of_getElem? (i := 29) rfl))) (Or.inr (hw _ (List.mem_of_getElem? (i := 27) rfl))) (by decide) (t := .int) (t' := .int) (by decide) (by decide)))
  have F_34 : Fld Z h27 a "com/example/rackline/rackline/cluster/ReplicaEnd" "endOffset" "J" (.long (0 : Int64)) := F_23.other W27 (Or.inr (slot_ne (Or.inr (hw _ (List.mem_of_getElem? (i := 31) rfl))) (Or.inr (hw _ (List.mem_of_getElem? (i := 27) rfl))) (by decide) (t := .long) (t' := .int) (by decide) (by decide)))
  have K_35 : Keep h0 h27 [a] := K_24.wr W27 (Or.inl (List.mem_of_getElem? (i := 0) rfl))
  have P36 : own_Rch p.tables e below A0 (T27.setTop (mkF m 19 #[.val (.ref a), .val (.ref b), .val (.int q1), .val (.int q2), .val (.int q3), .val (.long q4), .second] [])) := fun t k => P26 t (st27 t k)
  have P37 : own_Rch p.tables e below A0 (T27.setTop (mkF m 22 #[.val (.ref a), .val (.ref b), .val (.int q1), .val (.int q2), .val (.int q3), .val (.long q4), .second] [(.int q3), (.ref a)])) := fun t k => P36 t (by
    show Steps p.tables e below (T27.setTop (mkF m 19 #[.val (.ref a), .val (.ref b), .val (.int q1), .val (.int q2), .val (.int q3), .val (.long q4), .second] [])) _
    refine XS.aloadN X27.here hx rfl (hb hby d1_19) rfl rfl ?_
    show Steps p.tables e below (T27.setTop (mkF m 20 #[.val (.ref a), .val (.ref b), .val (.int q1), .val (.int q2), .val (.int q3), .val (.long q4), .second] [(.ref a)])) _
    refine XS.iload X27.here hx rfl (hb hby d1_20) rfl ?_
    exact k)
  obtain ⟨T38, h38, X38, e38, W38, st38⟩ := putF X27 hx hZ hown (host := "") (Or.inl (hw _ (List.mem_of_getElem? (i := 28) rfl))) Via.refl e27 F_33 E_29 (Or.inr ⟨(hw _ (List.mem_of_getElem? (i := 29) rfl)), rfl, hnm⟩) (hw _ (List.mem_of_getElem? (i := 1) rfl)) (ty := .int) (by decide) rfl rfl (g := (mkF m 22 #[.val (.ref a), .val (.ref b), .val (.int q1), .val (.int q2), .val (.int q3), .val (.long q4), .second] [(.int q3), (.ref a)])) rfl rfl (hb hby d1_22)
  have N38 := Fr.snoc X38 N27 g_a
  have Z_39 : n0 ≤ h38.size := Nat.le_trans Z_28 (Keep.of_wr W38).1
  have E_40 : Exa Z h38 a "com/example/rackline/rackline/cluster/ReplicaEnd" := E_29.wr W38
  have F_41 : Fld Z h38 a "com/example/rackline/rackline/cluster/ReplicaEnd" "topic" "Ljava/lang/String;" (.ref b) := F_30.other W38 (Or.inr (slot_ne (Or.inr (hw _ (List.mem_of_getElem? (i := 23) rfl))) (Or.inr (hw _ (List.mem_of_getElem? (i := 29) rfl))) (by decide) (t := (.object "java/lang/String")) (t' := .int) (by decide) (by decide)))
  have F_42 : Fld Z h38 a "com/example/rackline/rackline/cluster/ReplicaEnd" "partition" "I" (.int q1) := F_31.other W38 (Or.inr (slot_ne (Or.inr (hw _ (List.mem_of_getElem? (i := 25) rfl))) (Or.inr (hw _ (List.mem_of_getElem? (i := 29) rfl))) (by decide) (t := .int) (t' := .int) (by decide) (by decide)))
  have F_43 : Fld Z h38 a "com/example/rackline/rackline/cluster/ReplicaEnd" "leaderEpoch" "I" (.int q2) := F_32.other W38 (Or.inr (slot_ne (Or.inr (hw _ (List.mem_of_getElem? (i := 27) rfl))) (Or.inr (hw _ (List.mem_of_getElem? (i := 29) rfl))) (by decide) (t := .int) (t' := .int) (by decide) (by decide)))
  have F_44 : Fld Z h38 a "com/example/rackline/rackline/cluster/ReplicaEnd" "latestEpoch" "I" (.int q3) := F_33.same W38
  have F_45 : Fld Z h38 a "com/example/rackline/rackline/cluster/ReplicaEnd" "endOffset" "J" (.long (0 : Int64)) := F_34.other W38 (Or.inr (slot_ne (Or.inr (hw _ (List.mem_of_getElem? (i := 31) rfl))) (Or.inr (hw _ (List.mem_of_getElem? (i := 29) rfl))) (by decide) (t := .long) (t' := .int) (by decide) (by decide)))
  have K_46 : Keep h0 h38 [a] := K_35.wr W38 (Or.inl (List.mem_of_getElem? (i := 0) rfl))
  have P47 : own_Rch p.tables e below A0 (T38.setTop (mkF m 25 #[.val (.ref a), .val (.ref b), .val (.int q1), .val (.int q2), .val (.int q3), .val (.long q4), .second] [])) := fun t k => P37 t (st38 t k)
  have P48 : own_Rch p.tables e below A0 (T38.setTop (mkF m 28 #[.val (.ref a), .val (.ref b), .val (.int q1), .val (.int q2), .val (.int q3), .val (.long q4), .second] [(.long q4), (.ref a)])) := fun t k => P47 t (by
    show Steps p.tables e below (T38.setTop (mkF m 25 #[.val (.ref a), .val (.ref b), .val (.int q1), .val (.int q2), .val (.int q3), .val (.long q4), .second] [])) _
    refine XS.aloadN X38.here hx rfl (hb hby d1_25) rfl rfl ?_
    show Steps p.tables e below (T38.setTop (mkF m 26 #[.val (.ref a), .val (.ref b), .val (.int q1), .val (.int q2), .val (.int q3), .val (.long q4), .second] [(.ref a)])) _
    refine XS.lload X38.here hx rfl (hb hby d1_26) rfl ?_
    exact k)
  obtain ⟨T49, h49, X49, e49, W49, st49⟩ := putF X38 hx hZ hown (host := "") (Or.inl (hw _ (List.mem_of_getElem? (i := 30) rfl))) Via.refl e38 F_45 E_40 (Or.inr ⟨(hw _ (List.mem_of_getElem? (i := 31) rfl)), rfl, hnm⟩) (hw _ (List.mem_of_getElem? (i := 1) rfl)) (ty := .long) (by decide) rfl rfl (g := (mkF m 28 #[.val (.ref a), .val (.ref b), .val (.int q1), .val (.int q2), .val (.int q3), .val (.long q4), .second] [(.long q4), (.ref a)])) rfl rfl (hb hby d1_28)
  have N49 := Fr.snoc X49 N38 g_a
  have Z_50 : n0 ≤ h49.size := Nat.le_trans Z_39 (Keep.of_wr W49).1
  have E_51 : Exa Z h49 a "com/example/rackline/rackline/cluster/ReplicaEnd" := E_40.wr W49
  have F_52 : Fld Z h49 a "com/example/rackline/rackline/cluster/ReplicaEnd" "topic" "Ljava/lang/String;" (.ref b) := F_41.other W49 (Or.inr (slot_ne (Or.inr (hw _ (List.mem_of_getElem? (i := 23) rfl))) (Or.inr (hw _ (List.mem_of_getElem? (i := 31) rfl))) (by decide) (t := (.object "java/lang/String")) (t' := .long) (by decide) (by decide)))
  have F_53 : Fld Z h49 a "com/example/rackline/rackline/cluster/ReplicaEnd" "partition" "I" (.int q1) := F_42.other W49 (Or.inr (slot_ne (Or.inr (hw _ (List.mem_of_getElem? (i := 25) rfl))) (Or.inr (hw _ (List.mem_of_getElem? (i := 31) rfl))) (by decide) (t := .int) (t' := .long) (by decide) (by decide)))
  have F_54 : Fld Z h49 a "com/example/rackline/rackline/cluster/ReplicaEnd" "leaderEpoch" "I" (.int q2) := F_43.other W49 (Or.inr (slot_ne (Or.inr (hw _ (List.mem_of_getElem? (i := 27) rfl))) (Or.inr (hw _ (List.mem_of_getElem? (i := 31) rfl))) (by decide) (t := .int) (t' := .long) (by decide) (by decide)))
  have F_55 : Fld Z h49 a "com/example/rackline/rackline/cluster/ReplicaEnd" "latestEpoch" "I" (.int q3) := F_44.other W49 (Or.inr (slot_ne (Or.inr (hw _ (List.mem_of_getElem? (i := 29) rfl))) (Or.inr (hw _ (List.mem_of_getElem? (i := 31) rfl))) (by decide) (t := .int) (t' := .long) (by decide) (by decide)))
  have F_56 : Fld Z h49 a "com/example/rackline/rackline/cluster/ReplicaEnd" "endOffset" "J" (.long q4) := F_45.same W49
  have K_57 : Keep h0 h49 [a] := K_46.wr W49 (Or.inl (List.mem_of_getElem? (i := 0) rfl))
  have P58 : own_Rch p.tables e below A0 (T49.setTop (mkF m 31 #[.val (.ref a), .val (.ref b), .val (.int q1), .val (.int q2), .val (.int q3), .val (.long q4), .second] [])) := fun t k => P48 t (st49 t k)
  obtain ⟨fs, hr, hrun, hended, hW, hsame⟩ := X49.leave (v := none) (fun _ => rfl)
  refine ⟨_, _, P00 _ (P58 _ ?_), hrun, hended, _, _, rfl, ?_, ⟨_, rfl⟩, hW, hsame.mono (by decide) (by decide)⟩
  · exact X49.returnOut hx Bd.returns (hb hby d1_31) hr
  · show Q1 Z a b q1 q2 q3 q4 h0 n0 _ T49.heap _
    rw [e49]
    refine ⟨?_, N49, K_57, E_51, F_55, F_56⟩
    rfl
theorem d4_0 : decode prog_101_method_3_code 0 = .ok (.aload_n 0, 1) := by decide +kernel
theorem d4_1 : decode prog_101_method_3_code 1 = .ok (.getfield 20, 3) := by decide +kernel
theorem d4_4 : decode prog_101_method_3_code 4 = .ok (.aload_n 1, 1) := by decide +kernel
theorem d4_5 : decode prog_101_method_3_code 5 = .ok (.getfield 20, 3) := by decide +kernel
theorem d4_8 : decode prog_101_method_3_code 8 = .ok (.if_icmp .eq 22, 3) := by decide +kernel
theorem d4_11 : decode prog_101_method_3_code 11 = .ok (.aload_n 0, 1) := by decide +kernel
theorem d4_12 : decode prog_101_method_3_code 12 = .ok (.getfield 20, 3) := by decide +kernel
theorem d4_15 : decode prog_101_method_3_code 15 = .ok (.aload_n 1, 1) := by decide +kernel
theorem d4_16 : decode prog_101_method_3_code 16 = .ok (.getfield 20, 3) := by decide +kernel
theorem d4_19 : decode prog_101_method_3_code 19 = .ok (.if_icmp .le 7, 3) := by decide +kernel
theorem d4_22 : decode prog_101_method_3_code 22 = .ok (.iconst 1, 1) := by decide +kernel
theorem d4_23 : decode prog_101_method_3_code 23 = .ok (.goto 24, 3) := by decide +kernel
theorem d4_26 : decode prog_101_method_3_code 26 = .ok (.iconst 0, 1) := by decide +kernel
theorem d4_27 : decode prog_101_method_3_code 27 = .ok (.goto 20, 3) := by decide +kernel
theorem d4_30 : decode prog_101_method_3_code 30 = .ok (.aload_n 0, 1) := by decide +kernel
theorem d4_31 : decode prog_101_method_3_code 31 = .ok (.getfield 23, 3) := by decide +kernel
theorem d4_34 : decode prog_101_method_3_code 34 = .ok (.aload_n 1, 1) := by decide +kernel
theorem d4_35 : decode prog_101_method_3_code 35 = .ok (.getfield 23, 3) := by decide +kernel
theorem d4_38 : decode prog_101_method_3_code 38 = .ok (.lcmp, 1) := by decide +kernel
theorem d4_39 : decode prog_101_method_3_code 39 = .ok (.ifCond .le 7, 3) := by decide +kernel
theorem d4_42 : decode prog_101_method_3_code 42 = .ok (.iconst 1, 1) := by decide +kernel
theorem d4_43 : decode prog_101_method_3_code 43 = .ok (.goto 4, 3) := by decide +kernel
theorem d4_46 : decode prog_101_method_3_code 46 = .ok (.iconst 0, 1) := by decide +kernel
theorem d4_47 : decode prog_101_method_3_code 47 = .ok (.ireturn, 1) := by decide +kernel
def own_ft (la : Int32) (ea : Int64) (lb : Int32) (eb : Int64) : Int32 := (if la = lb then (if eb < ea then (1 : Int32) else (0 : Int32)) else (if lb < la then (1 : Int32) else (0 : Int32)))
theorem ef_4 (m : MethodId) (a : Addr) (b : Addr) : entryFrame m #[(.ref a), (.ref b)] 2 = mkF m 0 #[.val (.ref a), .val (.ref b)] [] := by first | (simp [entryFrame, mkF, argsToLocals, Value.category]; done) | rfl
def Q4 (Z : State) (a : Addr) (b : Addr) (la : Int32) (ea : Int64) (lb : Int32) (eb : Int64) (h0 : Heap) (n0 : Nat) (v : Option Value) (h : Heap) (L : List Loc) : Prop := v = some (.int (own_ft la ea lb eb)) ∧ Fr n0 L ∧ h = h0
set_option maxRecDepth 65536 in
set_option maxHeartbeats 40000000 in
theorem rm4 (l : Launch) (Z : State) (a0 : Array Value) (hw : ∀ d ∈ tables_1, d.before a0 Z = true) (ws : List Jvm.Cond) (a : Addr) (b : Addr) (la : Int32) (ea : Int64) (lb : Int32) (eb : Int64) (h0 : Heap) (n0 : Nat) (Z0 : n0 ≤ h0.size) (F_al : Fld Z h0 a "com/example/rackline/rackline/cluster/ReplicaEnd" "latestEpoch" "I" (.int la)) (F_ae : Fld Z h0 a "com/example/rackline/rackline/cluster/ReplicaEnd" "endOffset" "J" (.long ea)) (F_bl : Fld Z h0 b "com/example/rackline/rackline/cluster/ReplicaEnd" "latestEpoch" "I" (.int lb)) (F_be : Fld Z h0 b "com/example/rackline/rackline/cluster/ReplicaEnd" "endOffset" "J" (.long eb)) :
    MetFree l (⟨"com/example/rackline/rackline/cluster/ReplicaEnd", "endsFurtherThan", "(Lcom/example/rackline/rackline/cluster/ReplicaEnd;)Z"⟩ : MethodName) (head1 (Jvm.Cond.code (⟨"com/example/rackline/rackline/cluster/ReplicaEnd", "endsFurtherThan", "(Lcom/example/rackline/rackline/cluster/ReplicaEnd;)Z"⟩ : MethodName) prog_101_method_3_code 2 (some .boolean) :: ws) ({ frames := 0, cells := 0, slots := 0, locals := 0 } : Room)) (fun a' U => a' = #[(.ref a), (.ref b)] ∧ Z.Warmed39 U.vm ∧ U.heap = h0) (fun _ _ _ _ _ => True) (fun _ U o U' => ∃ v L, o = .returned v ∧ Q4 Z a b la ea lb eb h0 n0 v U'.heap L ∧ FrameEnd U o U' L ({ frames := 0, cells := 0, slots := 0, locals := 0 } : Room).cells ({ frames := 0, cells := 0, slots := 0, locals := 0 } : Room).slots) := by
  refine MetFree.of_bodySF (plainFor_of_name pn_1) hisR ?_
  intro p e s m args' below meth c s₁ Bd hml0 hP hK
  obtain ⟨hargs, hZ, hh⟩ := hP
  have hx := Bd.exec
  have hby := Bd.bytes
  have hml : c.maxLocals = 2 := hml0
  have hown : s.vm.findClass "com/example/rackline/rackline/cluster/ReplicaEnd" = some m.cls := findClass_of_methodNamed Bd.named
  have hnm := (name_of_methodNamed Bd.named Bd.method).1
  have X0 : Stand p l e ({ frames := 0, cells := 0, slots := 0, locals := 0 } : Room) s m args' below meth c s₁ [] 0 0 := Stand.of_body Bd
  have e0 : s₁.heap = h0 := by rw [← hh, Bd.state]; rfl
  have N0 := Fr.nil n0
  obtain ⟨A0, hA0⟩ : ∃ A, A = s₁.setTop (mkF m 0 #[.val (.ref a), .val (.ref b)] []) := ⟨_, rfl⟩
  have P0 : own_Rch p.tables e below A0 (s₁.setTop (mkF m 0 #[.val (.ref a), .val (.ref b)] [])) := fun t k => hA0 ▸ k
  have P00 : own_Rch p.tables e below (s₁.setTop (entryFrame m args' 2)) A0 := fun t k => by rw [hargs]; exact castTop (ef_4 m a b) (hA0 ▸ k)
  have P1 : own_Rch p.tables e below A0 (s₁.setTop (mkF m 1 #[.val (.ref a), .val (.ref b)] [(.ref a)])) := fun t k => P0 t (by
    show Steps p.tables e below (s₁.setTop (mkF m 0 #[.val (.ref a), .val (.ref b)] [])) _
    refine XS.aloadN X0.here hx rfl (hb hby d4_0) rfl rfl ?_
    exact k)
  obtain ⟨T2, X2, e2, st2⟩ := getF X0 hx hZ hown (host := "") (Or.inl (hw _ (List.mem_of_getElem? (i := 28) rfl))) Via.refl e0 F_al (g := (mkF m 1 #[.val (.ref a), .val (.ref b)] [(.ref a)])) rfl rfl (hb hby d4_1)
  have P3 : own_Rch p.tables e below A0 (T2.setTop (mkF m 4 #[.val (.ref a), .val (.ref b)] [(.int la)])) := fun t k => P1 t (st2 t k)
  have P4 : own_Rch p.tables e below A0 (T2.setTop (mkF m 5 #[.val (.ref a), .val (.ref b)] [(.ref b), (.int la)])) := fun t k => P3 t (by
    show Steps p.tables e below (T2.setTop (mkF m 4 #[.val (.ref a), .val (.ref b)] [(.int la)])) _
    refine XS.aloadN X2.here hx rfl (hb hby d4_4) rfl rfl ?_
    exact k)
  obtain ⟨T5, X5, e5, st5⟩ := getF X2 hx hZ hown (host := "") (Or.inl (hw _ (List.mem_of_getElem? (i := 28) rfl))) Via.refl e2 F_bl (g := (mkF m 5 #[.val (.ref a), .val (.ref b)] [(.ref b), (.int la)])) rfl rfl (hb hby d4_5)
  have P6 : own_Rch p.tables e below A0 (T5.setTop (mkF m 8 #[.val (.ref a), .val (.ref b)] [(.int lb), (.int la)])) := fun t k => P4 t (st5 t k)
  by_cases hc7 : la = lb
  · -- la = lb
    have P8 : own_Rch p.tables e below A0 (T5.setTop (mkF m 31 #[.val (.ref a), .val (.ref b)] [(.ref a)])) := fun t k => P6 t (by
      show Steps p.tables e below (T5.setTop (mkF m 8 #[.val (.ref a), .val (.ref b)] [(.int lb), (.int la)])) _
      refine XS.icmpYes X5.here hx rfl (pc0 := 8) (pc' := 30) rfl (hb hby d4_8) rfl (teq hc7).1 (by decide) (by decide) ?_
      show Steps p.tables e below (T5.setTop (mkF m 30 #[.val (.ref a), .val (.ref b)] [])) _
      refine XS.aloadN X5.here hx rfl (hb hby d4_30) rfl rfl ?_
      exact k)
    obtain ⟨T9, X9, e9, st9⟩ := getF X5 hx hZ hown (host := "") (Or.inl (hw _ (List.mem_of_getElem? (i := 30) rfl))) Via.refl e5 F_ae (g := (mkF m 31 #[.val (.ref a), .val (.ref b)] [(.ref a)])) rfl rfl (hb hby d4_31)
    have P10 : own_Rch p.tables e below A0 (T9.setTop (mkF m 34 #[.val (.ref a), .val (.ref b)] [(.long ea)])) := fun t k => P8 t (st9 t k)
    have P11 : own_Rch p.tables e below A0 (T9.setTop (mkF m 35 #[.val (.ref a), .val (.ref b)] [(.ref b), (.long ea)])) := fun t k => P10 t (by
      show Steps p.tables e below (T9.setTop (mkF m 34 #[.val (.ref a), .val (.ref b)] [(.long ea)])) _
      refine XS.aloadN X9.here hx rfl (hb hby d4_34) rfl rfl ?_
      exact k)
    obtain ⟨T12, X12, e12, st12⟩ := getF X9 hx hZ hown (host := "") (Or.inl (hw _ (List.mem_of_getElem? (i := 30) rfl))) Via.refl e9 F_be (g := (mkF m 35 #[.val (.ref a), .val (.ref b)] [(.ref b), (.long ea)])) rfl rfl (hb hby d4_35)
    have P13 : own_Rch p.tables e below A0 (T12.setTop (mkF m 38 #[.val (.ref a), .val (.ref b)] [(.long eb), (.long ea)])) := fun t k => P11 t (st12 t k)
    have P15 : own_Rch p.tables e below A0 (T12.setTop (mkF m 39 #[.val (.ref a), .val (.ref b)] [(.int (lcmpW ea eb))])) := fun t k => P13 t (by
      show Steps p.tables e below (T12.setTop (mkF m 38 #[.val (.ref a), .val (.ref b)] [(.long eb), (.long ea)])) _
      refine XS.lcmp X12.here hx rfl (hb hby d4_38) rfl ?_
      exact k)
    by_cases hc14 : eb < ea
    · -- eb < ea
      have P16 : own_Rch p.tables e below A0 (T12.setTop (mkF m 47 #[.val (.ref a), .val (.ref b)] [(.int (1 : Int32))])) := fun t k => P15 t (by
        show Steps p.tables e below (T12.setTop (mkF m 39 #[.val (.ref a), .val (.ref b)] [(.int (lcmpW ea eb))])) _
        refine XS.ifNo X12.here hx rfl (hb hby d4_39) rfl (own_lct2 hc14).2 ?_
        show Steps p.tables e below (T12.setTop (mkF m 42 #[.val (.ref a), .val (.ref b)] [])) _
        refine XS.iconst X12.here hx rfl (hb hby d4_42) ?_
        show Steps p.tables e below (T12.setTop (mkF m 43 #[.val (.ref a), .val (.ref b)] [(.int (1 : Int32))])) _
        refine XS.goto X12.here hx rfl (pc0 := 43) (pc' := 47) rfl (hb hby d4_43) (by decide) (by decide) ?_
        exact k)
      obtain ⟨fs, hr, hrun, hended, hW, hsame⟩ := X12.leave (v := some (.int (nar .boolean (1 : Int32)))) (fun h => by rw [Bd.returns] at h; cases h)
      refine ⟨_, _, P00 _ (P16 _ ?_), hrun, hended, _, _, rfl, ?_, ⟨_, rfl⟩, hW, hsame.mono (by decide) (by decide)⟩
      · exact retN X12 hx (t := .boolean) Bd.returns (by simp) (hb hby d4_47) hr
      · show Q4 Z a b la ea lb eb h0 n0 _ T12.heap _
        rw [e12]
        refine ⟨?_, N0, rfl⟩
        skip
        (try simp only [own_ft, if_pos hc7, if_pos hc14])
        (try rfl)
    · -- not eb < ea
      have P17 : own_Rch p.tables e below A0 (T12.setTop (mkF m 47 #[.val (.ref a), .val (.ref b)] [(.int (0 : Int32))])) := fun t k => P15 t (by
        show Steps p.tables e below (T12.setTop (mkF m 39 #[.val (.ref a), .val (.ref b)] [(.int (lcmpW ea eb))])) _
        refine XS.ifYes X12.here hx rfl (pc0 := 39) (pc' := 46) rfl (hb hby d4_39) rfl (own_lcf2 hc14).2 (by decide) (by decide) ?_
        show Steps p.tables e below (T12.setTop (mkF m 46 #[.val (.ref a), .val (.ref b)] [])) _
        refine XS.iconst X12.here hx rfl (hb hby d4_46) ?_
        exact k)
      obtain ⟨fs, hr, hrun, hended, hW, hsame⟩ := X12.leave (v := some (.int (nar .boolean (0 : Int32)))) (fun h => by rw [Bd.returns] at h; cases h)
      refine ⟨_, _, P00 _ (P17 _ ?_), hrun, hended, _, _, rfl, ?_, ⟨_, rfl⟩, hW, hsame.mono (by decide) (by decide)⟩
      · exact retN X12 hx (t := .boolean) Bd.returns (by simp) (hb hby d4_47) hr
      · show Q4 Z a b la ea lb eb h0 n0 _ T12.heap _
        rw [e12]
        refine ⟨?_, N0, rfl⟩
        skip
        (try simp only [own_ft, if_pos hc7, if_neg hc14])
        (try rfl)
  · -- not la = lb
    have P18 : own_Rch p.tables e below A0 (T5.setTop (mkF m 12 #[.val (.ref a), .val (.ref b)] [(.ref a)])) := fun t k => P6 t (by
      show Steps p.tables e below (T5.setTop (mkF m 8 #[.val (.ref a), .val (.ref b)] [(.int lb), (.int la)])) _
      refine XS.icmpNo X5.here hx rfl (hb hby d4_8) rfl (feq hc7).1 ?_
      show Steps p.tables e below (T5.setTop (mkF m 11 #[.val (.ref a), .val (.ref b)] [])) _
      refine XS.aloadN X5.here hx rfl (hb hby d4_11) rfl rfl ?_
      exact k)
    obtain ⟨T19, X19, e19, st19⟩ := getF X5 hx hZ hown (host := "") (Or.inl (hw _ (List.mem_of_getElem? (i := 28) rfl))) Via.refl e5 F_al (g := (mkF m 12 #[.val (.ref a), .val (.ref b)] [(.ref a)])) rfl rfl (hb hby d4_12)
    have P20 : own_Rch p.tables e below A0 (T19.setTop (mkF m 15 #[.val (.ref a), .val (.ref b)] [(.int la)])) := fun t k => P18 t (st19 t k)
    have P21 : own_Rch p.tables e below A0 (T19.setTop (mkF m 16 #[.val (.ref a), .val (.ref b)] [(.ref b), (.int la)])) := fun t k => P20 t (by
      show Steps p.tables e below (T19.setTop (mkF m 15 #[.val (.ref a), .val (.ref b)] [(.int la)])) _
      refine XS.aloadN X19.here hx rfl (hb hby d4_15) rfl rfl ?_
      exact k)
    obtain ⟨T22, X22, e22, st22⟩ := getF X19 hx hZ hown (host := "") (Or.inl (hw _ (List.mem_of_getElem? (i := 28) rfl))) Via.refl e19 F_bl (g := (mkF m 16 #[.val (.ref a), .val (.ref b)] [(.ref b), (.int la)])) rfl rfl (hb hby d4_16)
    have P23 : own_Rch p.tables e below A0 (T22.setTop (mkF m 19 #[.val (.ref a), .val (.ref b)] [(.int lb), (.int la)])) := fun t k => P21 t (st22 t k)
    by_cases hc24 : lb < la
    · -- lb < la
      have P25 : own_Rch p.tables e below A0 (T22.setTop (mkF m 47 #[.val (.ref a), .val (.ref b)] [(.int (1 : Int32))])) := fun t k => P23 t (by
        show Steps p.tables e below (T22.setTop (mkF m 19 #[.val (.ref a), .val (.ref b)] [(.int lb), (.int la)])) _
        refine XS.icmpNo X22.here hx rfl (hb hby d4_19) rfl (tlt hc24).2.2.2 ?_
        show Steps p.tables e below (T22.setTop (mkF m 22 #[.val (.ref a), .val (.ref b)] [])) _
        refine XS.iconst X22.here hx rfl (hb hby d4_22) ?_
        show Steps p.tables e below (T22.setTop (mkF m 23 #[.val (.ref a), .val (.ref b)] [(.int (1 : Int32))])) _
        refine XS.goto X22.here hx rfl (pc0 := 23) (pc' := 47) rfl (hb hby d4_23) (by decide) (by decide) ?_
        exact k)
      obtain ⟨fs, hr, hrun, hended, hW, hsame⟩ := X22.leave (v := some (.int (nar .boolean (1 : Int32)))) (fun h => by rw [Bd.returns] at h; cases h)
      refine ⟨_, _, P00 _ (P25 _ ?_), hrun, hended, _, _, rfl, ?_, ⟨_, rfl⟩, hW, hsame.mono (by decide) (by decide)⟩
      · exact retN X22 hx (t := .boolean) Bd.returns (by simp) (hb hby d4_47) hr
      · show Q4 Z a b la ea lb eb h0 n0 _ T22.heap _
        rw [e22]
        refine ⟨?_, N0, rfl⟩
        skip
        (try simp only [own_ft, if_neg hc7, if_pos hc24])
        (try rfl)
    · -- not lb < la
      have P26 : own_Rch p.tables e below A0 (T22.setTop (mkF m 47 #[.val (.ref a), .val (.ref b)] [(.int (0 : Int32))])) := fun t k => P23 t (by
        show Steps p.tables e below (T22.setTop (mkF m 19 #[.val (.ref a), .val (.ref b)] [(.int lb), (.int la)])) _
        refine XS.icmpYes X22.here hx rfl (pc0 := 19) (pc' := 26) rfl (hb hby d4_19) rfl (flt hc24).2.2.2 (by decide) (by decide) ?_
        show Steps p.tables e below (T22.setTop (mkF m 26 #[.val (.ref a), .val (.ref b)] [])) _
        refine XS.iconst X22.here hx rfl (hb hby d4_26) ?_
        show Steps p.tables e below (T22.setTop (mkF m 27 #[.val (.ref a), .val (.ref b)] [(.int (0 : Int32))])) _
        refine XS.goto X22.here hx rfl (pc0 := 27) (pc' := 47) rfl (hb hby d4_27) (by decide) (by decide) ?_
        exact k)
      obtain ⟨fs, hr, hrun, hended, hW, hsame⟩ := X22.leave (v := some (.int (nar .boolean (0 : Int32)))) (fun h => by rw [Bd.returns] at h; cases h)
      refine ⟨_, _, P00 _ (P26 _ ?_), hrun, hended, _, _, rfl, ?_, ⟨_, rfl⟩, hW, hsame.mono (by decide) (by decide)⟩
      · exact retN X22 hx (t := .boolean) Bd.returns (by simp) (hb hby d4_47) hr
      · show Q4 Z a b la ea lb eb h0 n0 _ T22.heap _
        rw [e22]
        refine ⟨?_, N0, rfl⟩
        skip
        (try simp only [own_ft, if_neg hc7, if_neg hc24])
        (try rfl)
theorem own_lt {a b : Int32} (h : a < b) : ¬ b < a := fun q => by rw [Int32.lt_iff_toInt_lt] at h q; omega
theorem own_tri {a b : Int32} (h1 : ¬ a < b) (h2 : ¬ b < a) : a = b := by rw [Int32.lt_iff_toInt_lt] at h1 h2; exact Int32.toInt_inj.mp (by omega)
theorem own_ltL {a b : Int64} (h : a < b) : ¬ b < a := fun q => by rw [Int64.lt_iff_toInt_lt] at h q; omega
theorem own_triL {a b : Int64} (h1 : ¬ a < b) (h2 : ¬ b < a) : a = b := by rw [Int64.lt_iff_toInt_lt] at h1 h2; exact Int64.toInt_inj.mp (by omega)
theorem own_1 (a b : Int32) (x y : Int64) : own_ft a x b y = (if b < a then 1 else (if (if a = b then (1 : Int32) else 0) = 0 then 0 else (if y < x then 1 else 0))) := by
  unfold own_ft
  by_cases h : a = b
  · subst h; simp [Int32.lt_irrefl]
  · simp [h]
theorem own_2 (a b : Int32) (x y : Int64) : own_ft b y a x = (if a < b then 1 else (if (if a = b then (1 : Int32) else 0) = 0 then 0 else (if x < y then 1 else 0))) := by
  unfold own_ft
  by_cases h : a = b
  · subst h; simp [Int32.lt_irrefl]
  · have h' : ¬ b = a := fun q => h q.symm
    simp [h, h']
theorem own_3 (a : Int32) (x : Int64) : own_ft a x a x = 0 := by simp [own_ft, Int64.lt_irrefl]
theorem own_4 (a b : Int32) (x y : Int64) : own_ft a x b y = 0 ∨ own_ft b y a x = 0 := by
  unfold own_ft
  by_cases h : a = b
  · subst h
    by_cases q : x < y
    · exact Or.inl (by rw [if_pos rfl, if_neg (own_ltL q)])
    · exact Or.inr (by rw [if_pos rfl, if_neg q])
  · have h' : ¬ b = a := fun q => h q.symm
    by_cases q : a < b
    · exact Or.inl (by rw [if_neg h, if_neg (own_lt q)])
    · exact Or.inr (by rw [if_neg h', if_neg q])
theorem own_5 (a b : Int32) (x y : Int64) (h1 : own_ft a x b y = 0) (h2 : own_ft b y a x = 0) : ¬ (if (if a = b then (1 : Int32) else 0) = 0 then (0 : Int32) else (if x = y then 1 else 0)) = 0 := by
  unfold own_ft at h1 h2
  by_cases h : a = b
  · subst h
    rw [if_pos rfl] at h1 h2
    have q : x = y := own_triL (fun q => by rw [if_pos q] at h2; exact absurd h2 (by decide)) (fun q => by rw [if_pos q] at h1; exact absurd h1 (by decide))
    simp [q]
  · have h' : ¬ b = a := fun q => h q.symm
    rw [if_neg h] at h1; rw [if_neg h'] at h2
    exact absurd (own_tri (fun q => by rw [if_pos q] at h2; exact absurd h2 (by decide)) (fun q => by rw [if_pos q] at h1; exact absurd h1 (by decide))) h
theorem own_str (Z : State) (a0 : Array Value) (hw : ∀ d ∈ tables_1, d.before a0 Z = true) : ∀ a ∈ Bundle.stringAtoms, a.before a0 Z = true := (fun a ha => by
    simp only [Bundle.stringAtoms, Bundle.sN, List.mem_cons, List.not_mem_nil, or_false] at ha
    rcases ha with rfl | rfl | rfl | rfl | rfl | rfl | rfl
    · exact (hw _ (List.mem_of_getElem? (i := 4) rfl))
    · exact (hw _ (List.mem_of_getElem? (i := 5) rfl))
    · exact (hw _ (List.mem_of_getElem? (i := 6) rfl))
    · exact (hw _ (List.mem_of_getElem? (i := 7) rfl))
    · exact (hw _ (List.mem_of_getElem? (i := 8) rfl))
    · exact (hw _ (List.mem_of_getElem? (i := 9) rfl))
    · exact (hw _ (List.mem_of_getElem? (i := 10) rfl)))
theorem pd_1 : parseMethodDescriptor "(Ljava/lang/String;IIIJ)V" = some ⟨[(.object "java/lang/String"), .int, .int, .int, .long], none⟩ := by decide +kernel
theorem pd_2 : parseMethodDescriptor "(Lcom/example/rackline/rackline/cluster/ReplicaEnd;)Z" = some ⟨[(.object "com/example/rackline/rackline/cluster/ReplicaEnd")], some .boolean⟩ := by decide +kernel
theorem pn_2 : plainName "com/example/rackline/rackline/cluster/ReplicaEndEndsFurtherThanPinLaw" = true := by first | (simp [plainName, overriddenIn]; done) | decide +kernel
theorem ef_0 (m : MethodId) (i0 : Int32) (i1 : Int64) (i2 : Int32) (i3 : Int64) (i4 : Int32) : entryFrame m #[(.int i0), (.long i1), (.int i2), (.long i3), (.int i4)] maxLocals = mkF m 0 #[.val (.int i0), .val (.long i1), .second, .val (.int i2), .val (.long i3), .second, .val (.int i4), .unset, .unset, .unset, .unset, .unset, .unset, .unset, .unset, .unset, .unset, .unset, .unset] [] := by first | (simp [entryFrame, mkF, argsToLocals, Value.category, maxLocals]; done) | rfl
def Q0 (Z : State) (i0 : Int32) (i1 : Int64) (i2 : Int32) (i3 : Int64) (i4 : Int32) (h0 : Heap) (n0 : Nat) (v : Option Value) (h : Heap) (L : List Loc) : Prop := v = some (.int 1) ∧ Fr n0 L
set_option maxRecDepth 65536 in
set_option maxHeartbeats 40000000 in
theorem rm0 (l : Launch) (Z : State) (a0 : Array Value) (hw : ∀ d ∈ tables_1, d.before a0 Z = true) (ws : List Jvm.Cond) (i0 : Int32) (i1 : Int64) (i2 : Int32) (i3 : Int64) (i4 : Int32) (h0 : Heap) (n0 : Nat) (Z0 : n0 ≤ h0.size) :
    MetFree l x (head1 (Jvm.Cond.code x code maxLocals ret :: ws) room_1) (fun a' U => a' = #[(.int i0), (.long i1), (.int i2), (.long i3), (.int i4)] ∧ Z.Warmed39 U.vm ∧ U.heap = h0) (fun _ _ _ _ _ => True) (fun _ U o U' => ∃ v L, o = .returned v ∧ Q0 Z i0 i1 i2 i3 i4 h0 n0 v U'.heap L ∧ ReturnedEndW U o U' L 6 26) := by
  refine MetFree.of_bodySF (plainFor_of_name pn_2) hisR ?_
  intro p e s m args' below meth c s₁ Bd hml0 hP hK
  obtain ⟨hargs, hZ, hh⟩ := hP
  have hx := Bd.exec
  have hby := Bd.bytes
  have hml : c.maxLocals = 19 := hml0
  have hown : s.vm.findClass "com/example/rackline/rackline/cluster/ReplicaEndEndsFurtherThanPinLaw" = some m.cls := findClass_of_methodNamed Bd.named
  have hnm := (name_of_methodNamed Bd.named Bd.method).1
  have X0 : Stand p l e room_1 s m args' below meth c s₁ [] 0 0 := Stand.of_body Bd
  have e0 : s₁.heap = h0 := by rw [← hh, Bd.state]; rfl
  have N0 := Fr.nil n0
  obtain ⟨A0, hA0⟩ : ∃ A, A = s₁.setTop (mkF m 0 #[.val (.int i0), .val (.long i1), .second, .val (.int i2), .val (.long i3), .second, .val (.int i4), .unset, .unset, .unset, .unset, .unset, .unset, .unset, .unset, .unset, .unset, .unset, .unset] []) := ⟨_, rfl⟩
  have P0 : own_Rch p.tables e below A0 (s₁.setTop (mkF m 0 #[.val (.int i0), .val (.long i1), .second, .val (.int i2), .val (.long i3), .second, .val (.int i4), .unset, .unset, .unset, .unset, .unset, .unset, .unset, .unset, .unset, .unset, .unset, .unset] [])) := fun t k => hA0 ▸ k
  have P00 : own_Rch p.tables e below (s₁.setTop (entryFrame m args' maxLocals)) A0 := fun t k => by rw [hargs]; exact castTop (ef_0 m i0 i1 i2 i3 i4) (hA0 ▸ k)
  have P2 : own_Rch p.tables e below A0 (s₁.setTop (mkF m 4 #[.val (.int i0), .val (.long i1), .second, .val (.int i2), .val (.long i3), .second, .val (.int i4), .unset, .unset, .unset, .unset, .unset, .unset, .unset, .unset, .unset, .unset, .unset, .unset] [(.int (i4 &&& (1 : Int32)))])) := fun t k => P0 t (by
    show Steps p.tables e below (s₁.setTop (mkF m 0 #[.val (.int i0), .val (.long i1), .second, .val (.int i2), .val (.long i3), .second, .val (.int i4), .unset, .unset, .unset, .unset, .unset, .unset, .unset, .unset, .unset, .unset, .unset, .unset] [])) _
    refine XS.iload X0.here hx rfl (hb hby at_0) rfl ?_
    show Steps p.tables e below (s₁.setTop (mkF m 2 #[.val (.int i0), .val (.long i1), .second, .val (.int i2), .val (.long i3), .second, .val (.int i4), .unset, .unset, .unset, .unset, .unset, .unset, .unset, .unset, .unset, .unset, .unset, .unset] [(.int i4)])) _
    refine XS.iconst X0.here hx rfl (hb hby at_2) ?_
    show Steps p.tables e below (s₁.setTop (mkF m 3 #[.val (.int i0), .val (.long i1), .second, .val (.int i2), .val (.long i3), .second, .val (.int i4), .unset, .unset, .unset, .unset, .unset, .unset, .unset, .unset, .unset, .unset, .unset, .unset] [(.int (1 : Int32)), (.int i4)])) _
    refine XS.iand X0.here hx rfl (hb hby at_3) rfl ?_
    exact k)
  obtain ⟨v4, hv4⟩ : ∃ z : Int32, z = (if (i4 &&& (1 : Int32)) = (0 : Int32) then i2 else i0) := ⟨_, rfl⟩
  have P5 : own_Rch p.tables e below A0 (s₁.setTop (mkF m 12 #[.val (.int i0), .val (.long i1), .second, .val (.int i2), .val (.long i3), .second, .val (.int i4), .unset, .unset, .unset, .unset, .unset, .unset, .unset, .unset, .unset, .unset, .unset, .unset] [(.int v4)])) := fun t k => P2 t (by
    by_cases hc3 : (i4 &&& (1 : Int32)) = (0 : Int32)
    · show Steps p.tables e below (s₁.setTop (mkF m 4 #[.val (.int i0), .val (.long i1), .second, .val (.int i2), .val (.long i3), .second, .val (.int i4), .unset, .unset, .unset, .unset, .unset, .unset, .unset, .unset, .unset, .unset, .unset, .unset] [(.int (i4 &&& (1 : Int32)))])) _
      refine XS.ifYes X0.here hx rfl (pc0 := 4) (pc' := 11) rfl (hb hby at_4) rfl ((if0 _ _).trans (teq hc3).1) (by decide) (by decide) ?_
      have qv4 : v4 = i2 := by rw [hv4]; simp only [if_pos hc3]
      rw [qv4] at k
      show Steps p.tables e below (s₁.setTop (mkF m 11 #[.val (.int i0), .val (.long i1), .second, .val (.int i2), .val (.long i3), .second, .val (.int i4), .unset, .unset, .unset, .unset, .unset, .unset, .unset, .unset, .unset, .unset, .unset, .unset] [])) _
      refine XS.iloadN X0.here hx rfl (hb hby at_11) rfl ?_
      exact k
    · show Steps p.tables e below (s₁.setTop (mkF m 4 #[.val (.int i0), .val (.long i1), .second, .val (.int i2), .val (.long i3), .second, .val (.int i4), .unset, .unset, .unset, .unset, .unset, .unset, .unset, .unset, .unset, .unset, .unset, .unset] [(.int (i4 &&& (1 : Int32)))])) _
      refine XS.ifNo X0.here hx rfl (hb hby at_4) rfl ((if0 _ _).trans (feq hc3).1) ?_
      have qv4 : v4 = i0 := by rw [hv4]; simp only [if_neg hc3]
      rw [qv4] at k
      show Steps p.tables e below (s₁.setTop (mkF m 7 #[.val (.int i0), .val (.long i1), .second, .val (.int i2), .val (.long i3), .second, .val (.int i4), .unset, .unset, .unset, .unset, .unset, .unset, .unset, .unset, .unset, .unset, .unset, .unset] [])) _
      refine XS.iloadN X0.here hx rfl (hb hby at_7) rfl ?_
      show Steps p.tables e below (s₁.setTop (mkF m 8 #[.val (.int i0), .val (.long i1), .second, .val (.int i2), .val (.long i3), .second, .val (.int i4), .unset, .unset, .unset, .unset, .unset, .unset, .unset, .unset, .unset, .unset, .unset, .unset] [(.int i0)])) _
      refine XS.goto X0.here hx rfl (pc0 := 8) (pc' := 12) rfl (hb hby at_8) (by decide) (by decide) ?_
      exact k)
  have P7 : own_Rch p.tables e below A0 (s₁.setTop (mkF m 18 #[.val (.int i0), .val (.long i1), .second, .val (.int i2), .val (.long i3), .second, .val (.int i4), .val (.int v4), .unset, .unset, .unset, .unset, .unset, .unset, .unset, .unset, .unset, .unset, .unset] [(.int (i4 &&& (2 : Int32)))])) := fun t k => P5 t (by
    show Steps p.tables e below (s₁.setTop (mkF m 12 #[.val (.int i0), .val (.long i1), .second, .val (.int i2), .val (.long i3), .second, .val (.int i4), .unset, .unset, .unset, .unset, .unset, .unset, .unset, .unset, .unset, .unset, .unset, .unset] [(.int v4)])) _
    refine XS.istore X0.here hx rfl (hb hby at_12) rfl (l' := #[.val (.int i0), .val (.long i1), .second, .val (.int i2), .val (.long i3), .second, .val (.int i4), .val (.int v4), .unset, .unset, .unset, .unset, .unset, .unset, .unset, .unset, .unset, .unset, .unset]) rfl ?_
    show Steps p.tables e below (s₁.setTop (mkF m 14 #[.val (.int i0), .val (.long i1), .second, .val (.int i2), .val (.long i3), .second, .val (.int i4), .val (.int v4), .unset, .unset, .unset, .unset, .unset, .unset, .unset, .unset, .unset, .unset, .unset] [])) _
    refine XS.iload X0.here hx rfl (hb hby at_14) rfl ?_
    show Steps p.tables e below (s₁.setTop (mkF m 16 #[.val (.int i0), .val (.long i1), .second, .val (.int i2), .val (.long i3), .second, .val (.int i4), .val (.int v4), .unset, .unset, .unset, .unset, .unset, .unset, .unset, .unset, .unset, .unset, .unset] [(.int i4)])) _
    refine XS.iconst X0.here hx rfl (hb hby at_16) ?_
    show Steps p.tables e below (s₁.setTop (mkF m 17 #[.val (.int i0), .val (.long i1), .second, .val (.int i2), .val (.long i3), .second, .val (.int i4), .val (.int v4), .unset, .unset, .unset, .unset, .unset, .unset, .unset, .unset, .unset, .unset, .unset] [(.int (2 : Int32)), (.int i4)])) _
    refine XS.iand X0.here hx rfl (hb hby at_17) rfl ?_
    exact k)
  obtain ⟨v9, hv9⟩ : ∃ z : Int64, z = (if (i4 &&& (2 : Int32)) = (0 : Int32) then i3 else i1) := ⟨_, rfl⟩
  have P10 : own_Rch p.tables e below A0 (s₁.setTop (mkF m 27 #[.val (.int i0), .val (.long i1), .second, .val (.int i2), .val (.long i3), .second, .val (.int i4), .val (.int v4), .unset, .unset, .unset, .unset, .unset, .unset, .unset, .unset, .unset, .unset, .unset] [(.long v9)])) := fun t k => P7 t (by
    by_cases hc8 : (i4 &&& (2 : Int32)) = (0 : Int32)
    · show Steps p.tables e below (s₁.setTop (mkF m 18 #[.val (.int i0), .val (.long i1), .second, .val (.int i2), .val (.long i3), .second, .val (.int i4), .val (.int v4), .unset, .unset, .unset, .unset, .unset, .unset, .unset, .unset, .unset, .unset, .unset] [(.int (i4 &&& (2 : Int32)))])) _
      refine XS.ifYes X0.here hx rfl (pc0 := 18) (pc' := 25) rfl (hb hby at_18) rfl ((if0 _ _).trans (teq hc8).1) (by decide) (by decide) ?_
      have qv9 : v9 = i3 := by rw [hv9]; simp only [if_pos hc8]
      rw [qv9] at k
      show Steps p.tables e below (s₁.setTop (mkF m 25 #[.val (.int i0), .val (.long i1), .second, .val (.int i2), .val (.long i3), .second, .val (.int i4), .val (.int v4), .unset, .unset, .unset, .unset, .unset, .unset, .unset, .unset, .unset, .unset, .unset] [])) _
      refine XS.lload X0.here hx rfl (hb hby at_25) rfl ?_
      exact k
    · show Steps p.tables e below (s₁.setTop (mkF m 18 #[.val (.int i0), .val (.long i1), .second, .val (.int i2), .val (.long i3), .second, .val (.int i4), .val (.int v4), .unset, .unset, .unset, .unset, .unset, .unset, .unset, .unset, .unset, .unset, .unset] [(.int (i4 &&& (2 : Int32)))])) _
      refine XS.ifNo X0.here hx rfl (hb hby at_18) rfl ((if0 _ _).trans (feq hc8).1) ?_
      have qv9 : v9 = i1 := by rw [hv9]; simp only [if_neg hc8]
      rw [qv9] at k
      show Steps p.tables e below (s₁.setTop (mkF m 21 #[.val (.int i0), .val (.long i1), .second, .val (.int i2), .val (.long i3), .second, .val (.int i4), .val (.int v4), .unset, .unset, .unset, .unset, .unset, .unset, .unset, .unset, .unset, .unset, .unset] [])) _
      refine XS.lloadN X0.here hx rfl (hb hby at_21) rfl ?_
      show Steps p.tables e below (s₁.setTop (mkF m 22 #[.val (.int i0), .val (.long i1), .second, .val (.int i2), .val (.long i3), .second, .val (.int i4), .val (.int v4), .unset, .unset, .unset, .unset, .unset, .unset, .unset, .unset, .unset, .unset, .unset] [(.long i1)])) _
      refine XS.goto X0.here hx rfl (pc0 := 22) (pc' := 27) rfl (hb hby at_22) (by decide) (by decide) ?_
      exact k)
  have P11 : own_Rch p.tables e below A0 (s₁.setTop (mkF m 29 #[.val (.int i0), .val (.long i1), .second, .val (.int i2), .val (.long i3), .second, .val (.int i4), .val (.int v4), .val (.long v9), .second, .unset, .unset, .unset, .unset, .unset, .unset, .unset, .unset, .unset] [])) := fun t k => P10 t (by
    show Steps p.tables e below (s₁.setTop (mkF m 27 #[.val (.int i0), .val (.long i1), .second, .val (.int i2), .val (.long i3), .second, .val (.int i4), .val (.int v4), .unset, .unset, .unset, .unset, .unset, .unset, .unset, .unset, .unset, .unset, .unset] [(.long v9)])) _
    refine XS.lstore X0.here hx rfl (hb hby at_27) rfl (l' := #[.val (.int i0), .val (.long i1), .second, .val (.int i2), .val (.long i3), .second, .val (.int i4), .val (.int v4), .val (.long v9), .second, .unset, .unset, .unset, .unset, .unset, .unset, .unset, .unset, .unset]) rfl ?_
    exact k)
  obtain ⟨T12, h12, X12, e12, E12, A12, D12, -, st12⟩ := newO X0 hx hZ hown (hw _ (List.mem_of_getElem? (i := 0) rfl)) (hw _ (List.mem_of_getElem? (i := 1) rfl)) (hw _ (List.mem_of_getElem? (i := 2) rfl)) e0 (g := (mkF m 29 #[.val (.int i0), .val (.long i1), .second, .val (.int i2), .val (.long i3), .second, .val (.int i4), .val (.int v4), .val (.long v9), .second, .unset, .unset, .unset, .unset, .unset, .unset, .unset, .unset, .unset] [])) rfl (hb hby at_29) (by decide) (by decide)
  obtain ⟨b12, g12⟩ : ∃ z, z = h0.size := ⟨_, rfl⟩
  rw [← g12] at A12 D12 st12
  have g_b12 : n0 ≤ b12 := Nat.le_trans Z0 (Nat.le_of_eq g12.symm)
  have Z_13 : n0 ≤ h12.size := Nat.le_trans Z0 E12.1
  have F_14 : Fld Z h12 b12 "com/example/rackline/rackline/cluster/ReplicaEnd" "topic" "Ljava/lang/String;" .null := D12 (Or.inr (hw _ (List.mem_of_getElem? (i := 23) rfl))) (ty := (.object "java/lang/String")) (by decide)
  have F_15 : Fld Z h12 b12 "com/example/rackline/rackline/cluster/ReplicaEnd" "partition" "I" (.int (0 : Int32)) := D12 (Or.inr (hw _ (List.mem_of_getElem? (i := 25) rfl))) (ty := .int) (by decide)
  have F_16 : Fld Z h12 b12 "com/example/rackline/rackline/cluster/ReplicaEnd" "leaderEpoch" "I" (.int (0 : Int32)) := D12 (Or.inr (hw _ (List.mem_of_getElem? (i := 27) rfl))) (ty := .int) (by decide)
  have F_17 : Fld Z h12 b12 "com/example/rackline/rackline/cluster/ReplicaEnd" "latestEpoch" "I" (.int (0 : Int32)) := D12 (Or.inr (hw _ (List.mem_of_getElem? (i := 29) rfl))) (ty := .int) (by decide)
  have F_18 : Fld Z h12 b12 "com/example/rackline/rackline/cluster/ReplicaEnd" "endOffset" "J" (.long (0 : Int64)) := D12 (Or.inr (hw _ (List.mem_of_getElem? (i := 31) rfl))) (ty := .long) (by decide)
  have P19 : own_Rch p.tables e below A0 (T12.setTop (mkF m 32 #[.val (.int i0), .val (.long i1), .second, .val (.int i2), .val (.long i3), .second, .val (.int i4), .val (.int v4), .val (.long v9), .second, .unset, .unset, .unset, .unset, .unset, .unset, .unset, .unset, .unset] [(.ref b12)])) := fun t k => P11 t (st12 t k)
  have P20 : own_Rch p.tables e below A0 (T12.setTop (mkF m 33 #[.val (.int i0), .val (.long i1), .second, .val (.int i2), .val (.long i3), .second, .val (.int i4), .val (.int v4), .val (.long v9), .second, .unset, .unset, .unset, .unset, .unset, .unset, .unset, .unset, .unset] [(.ref b12), (.ref b12)])) := fun t k => P19 t (by
    show Steps p.tables e below (T12.setTop (mkF m 32 #[.val (.int i0), .val (.long i1), .second, .val (.int i2), .val (.long i3), .second, .val (.int i4), .val (.int v4), .val (.long v9), .second, .unset, .unset, .unset, .unset, .unset, .unset, .unset, .unset, .unset] [(.ref b12)])) _
    refine XS.dup X12.here hx rfl (hb hby at_32) rfl rfl ?_
    exact k)
  obtain ⟨b21, T21, h21, k21, X21, e21, E21, hS21, hk21, hZ, hown, st21⟩ := ldcS (s := s) (vm0 := s.vm) X12 hx hZ hown (hw _ (List.mem_of_getElem? (i := 3) rfl)) (own_str Z a0 hw) e12 ((State.WarmedH.refl s).since 0) (Nat.zero_le _) (g := (mkF m 33 #[.val (.int i0), .val (.long i1), .second, .val (.int i2), .val (.long i3), .second, .val (.int i4), .val (.int v4), .val (.long v9), .second, .unset, .unset, .unset, .unset, .unset, .unset, .unset, .unset, .unset] [(.ref b12), (.ref b12)])) rfl (hb hby at_33) (n := 4) (by decide) (by decide) (by decide) (by decide)
  have Z_22 : n0 ≤ h21.size := Nat.le_trans Z_13 E21.1
  have E_23 : Exa Z h21 b12 "com/example/rackline/rackline/cluster/ReplicaEnd" := A12.ext E21
  have F_24 : Fld Z h21 b12 "com/example/rackline/rackline/cluster/ReplicaEnd" "topic" "Ljava/lang/String;" .null := F_14.ext E21
  have F_25 : Fld Z h21 b12 "com/example/rackline/rackline/cluster/ReplicaEnd" "partition" "I" (.int (0 : Int32)) := F_15.ext E21
  have F_26 : Fld Z h21 b12 "com/example/rackline/rackline/cluster/ReplicaEnd" "leaderEpoch" "I" (.int (0 : Int32)) := F_16.ext E21
  have F_27 : Fld Z h21 b12 "com/example/rackline/rackline/cluster/ReplicaEnd" "latestEpoch" "I" (.int (0 : Int32)) := F_17.ext E21
  have F_28 : Fld Z h21 b12 "com/example/rackline/rackline/cluster/ReplicaEnd" "endOffset" "J" (.long (0 : Int64)) := F_18.ext E21
  have P29 : own_Rch p.tables e below A0 (T21.setTop (mkF m 35 #[.val (.int i0), .val (.long i1), .second, .val (.int i2), .val (.long i3), .second, .val (.int i4), .val (.int v4), .val (.long v9), .second, .unset, .unset, .unset, .unset, .unset, .unset, .unset, .unset, .unset] [(.ref b21), (.ref b12), (.ref b12)])) := fun t k => P20 t (st21 t k)
  have P30 : own_Rch p.tables e below A0 (T21.setTop (mkF m 43 #[.val (.int i0), .val (.long i1), .second, .val (.int i2), .val (.long i3), .second, .val (.int i4), .val (.int v4), .val (.long v9), .second, .unset, .unset, .unset, .unset, .unset, .unset, .unset, .unset, .unset] [(.long i1), (.int i0), (.int ((i4.toUInt32 >>> ((2 : Int32) &&& 31).toUInt32).toInt32)), (.int i4), (.ref b21), (.ref b12), (.ref b12)])) := fun t k => P29 t (by
    show Steps p.tables e below (T21.setTop (mkF m 35 #[.val (.int i0), .val (.long i1), .second, .val (.int i2), .val (.long i3), .second, .val (.int i4), .val (.int v4), .val (.long v9), .second, .unset, .unset, .unset, .unset, .unset, .unset, .unset, .unset, .unset] [(.ref b21), (.ref b12), (.ref b12)])) _
    refine XS.iload X21.here hx rfl (hb hby at_35) rfl ?_
    show Steps p.tables e below (T21.setTop (mkF m 37 #[.val (.int i0), .val (.long i1), .second, .val (.int i2), .val (.long i3), .second, .val (.int i4), .val (.int v4), .val (.long v9), .second, .unset, .unset, .unset, .unset, .unset, .unset, .unset, .unset, .unset] [(.int i4), (.ref b21), (.ref b12), (.ref b12)])) _
    refine XS.iload X21.here hx rfl (hb hby at_37) rfl ?_
    show Steps p.tables e below (T21.setTop (mkF m 39 #[.val (.int i0), .val (.long i1), .second, .val (.int i2), .val (.long i3), .second, .val (.int i4), .val (.int v4), .val (.long v9), .second, .unset, .unset, .unset, .unset, .unset, .unset, .unset, .unset, .unset] [(.int i4), (.int i4), (.ref b21), (.ref b12), (.ref b12)])) _
    refine XS.iconst X21.here hx rfl (hb hby at_39) ?_
    show Steps p.tables e below (T21.setTop (mkF m 40 #[.val (.int i0), .val (.long i1), .second, .val (.int i2), .val (.long i3), .second, .val (.int i4), .val (.int v4), .val (.long v9), .second, .unset, .unset, .unset, .unset, .unset, .unset, .unset, .unset, .unset] [(.int (2 : Int32)), (.int i4), (.int i4), (.ref b21), (.ref b12), (.ref b12)])) _
    refine XS.iushr X21.here hx rfl (hb hby at_40) rfl ?_
    show Steps p.tables e below (T21.setTop (mkF m 41 #[.val (.int i0), .val (.long i1), .second, .val (.int i2), .val (.long i3), .second, .val (.int i4), .val (.int v4), .val (.long v9), .second, .unset, .unset, .unset, .unset, .unset, .unset, .unset, .unset, .unset] [(.int ((i4.toUInt32 >>> ((2 : Int32) &&& 31).toUInt32).toInt32)), (.int i4), (.ref b21), (.ref b12), (.ref b12)])) _
    refine XS.iloadN X21.here hx rfl (hb hby at_41) rfl ?_
    show Steps p.tables e below (T21.setTop (mkF m 42 #[.val (.int i0), .val (.long i1), .second, .val (.int i2), .val (.long i3), .second, .val (.int i4), .val (.int v4), .val (.long v9), .second, .unset, .unset, .unset, .unset, .unset, .unset, .unset, .unset, .unset] [(.int i0), (.int ((i4.toUInt32 >>> ((2 : Int32) &&& 31).toUInt32).toInt32)), (.int i4), (.ref b21), (.ref b12), (.ref b12)])) _
    refine XS.lloadN X21.here hx rfl (hb hby at_42) rfl ?_
    exact k)
  obtain ⟨_, _, ⟨T31, L31, k31, n31⟩, -, X31, ⟨Lc31, hQ31, l31, y31, z31⟩, st31⟩ := X21.specialBack hx (y := (⟨"com/example/rackline/rackline/cluster/ReplicaEnd", "<init>", "(Ljava/lang/String;IIIJ)V"⟩ : MethodName)) rfl hown (mvT hZ (hw _ (List.mem_of_getElem? (i := 11) rfl))) (mvT hZ (hw _ (List.mem_of_getElem? (i := 12) rfl))) (mvT hZ (hw _ (List.mem_of_getElem? (i := 13) rfl))) (by decide) (backOf (W := 1) (rm1 l Z a0 hw [] b12 b21 i4 ((i4.toUInt32 >>> ((2 : Int32) &&& 31).toUInt32).toInt32) i0 i1 h21 n0 Z_22 E_23 F_24 F_25 F_26 F_27 F_28 g_b12) hZ (hw _ (List.mem_of_getElem? (i := 13) rfl)) (hw _ (List.mem_of_getElem? (i := 2) rfl)) (by decide) (by decide)) (g := (mkF m 43 #[.val (.int i0), .val (.long i1), .second, .val (.int i2), .val (.long i3), .second, .val (.int i4), .val (.int v4), .val (.long v9), .second, .unset, .unset, .unset, .unset, .unset, .unset, .unset, .unset, .unset] [(.long i1), (.int i0), (.int ((i4.toUInt32 >>> ((2 : Int32) &&& 31).toUInt32).toInt32)), (.int i4), (.ref b21), (.ref b12), (.ref b12)])) rfl (by rw [hml]; rfl) (Steps.refl _) (a := b12) (argsL := [(.ref b21), (.int i4), (.int ((i4.toUInt32 >>> ((2 : Int32) &&& 31).toUInt32).toInt32)), (.int i0), (.long i1)]) (rest := [(.ref b12)]) (lenOf pd_1 rfl) rfl (by show 2 * 0 + _ ≤ _; exact Nat.le_of_eq rfl) (hb hby at_43) (fun _ _ => ⟨rfl, e21, (by decide : (0 + 1 + 2) + 0 ≤ _), (by decide : (0 + 5 + 8) + 0 ≤ _)⟩)
  dsimp only [Pt.U, Pt.locs, Pt.cells, Pt.slots] at X31 l31 y31 z31 st31 hQ31
  subst l31 y31 z31
  obtain ⟨rfl, N31q, K31q, E31q, F31q0, F31q1⟩ := hQ31
  have N31 := Fr.app N0 N31q
  have Z_32 : n0 ≤ T31.heap.size := Nat.le_trans Z_22 K31q.1
  have E_33 : Exa Z T31.heap b12 "com/example/rackline/rackline/cluster/ReplicaEnd" := E_23.keep K31q
  have Zk_34 : k21 ≤ T31.heap.size := Nat.le_trans hk21 K31q.1
  have P35 : own_Rch p.tables e below A0 (T31.setTop (mkF m 46 #[.val (.int i0), .val (.long i1), .second, .val (.int i2), .val (.long i3), .second, .val (.int i4), .val (.int v4), .val (.long v9), .second, .unset, .unset, .unset, .unset, .unset, .unset, .unset, .unset, .unset] [(.ref b12)])) := fun t k => P30 t (st31.trans k)
  have P36 : own_Rch p.tables e below A0 (T31.setTop (mkF m 48 #[.val (.int i0), .val (.long i1), .second, .val (.int i2), .val (.long i3), .second, .val (.int i4), .val (.int v4), .val (.long v9), .second, .val (.ref b12), .unset, .unset, .unset, .unset, .unset, .unset, .unset, .unset] [])) := fun t k => P35 t (by
    show Steps p.tables e below (T31.setTop (mkF m 46 #[.val (.int i0), .val (.long i1), .second, .val (.int i2), .val (.long i3), .second, .val (.int i4), .val (.int v4), .val (.long v9), .second, .unset, .unset, .unset, .unset, .unset, .unset, .unset, .unset, .unset] [(.ref b12)])) _
    refine XS.astore X31.here hx rfl (hb hby at_46) rfl rfl (l' := #[.val (.int i0), .val (.long i1), .second, .val (.int i2), .val (.long i3), .second, .val (.int i4), .val (.int v4), .val (.long v9), .second, .val (.ref b12), .unset, .unset, .unset, .unset, .unset, .unset, .unset, .unset]) rfl ?_
    exact k)
  obtain ⟨T37, h37, X37, e37, E37, A37, D37, -, st37⟩ := newO X31 hx hZ hown (hw _ (List.mem_of_getElem? (i := 0) rfl)) (hw _ (List.mem_of_getElem? (i := 1) rfl)) (hw _ (List.mem_of_getElem? (i := 2) rfl)) rfl (g := (mkF m 48 #[.val (.int i0), .val (.long i1), .second, .val (.int i2), .val (.long i3), .second, .val (.int i4), .val (.int v4), .val (.long v9), .second, .val (.ref b12), .unset, .unset, .unset, .unset, .unset, .unset, .unset, .unset] [])) rfl (hb hby at_48) (by decide) (by decide)
  obtain ⟨b37, g37⟩ : ∃ z, z = T31.heap.size := ⟨_, rfl⟩
  rw [← g37] at A37 D37 st37
  have g_b37 : n0 ≤ b37 := Nat.le_trans Z_32 (Nat.le_of_eq g37.symm)
  have ne_b12_b37 : b12 ≠ b37 := Nat.ne_of_lt (Nat.lt_of_lt_of_le E_33.lt (Nat.le_of_eq g37.symm))
  have Z_38 : n0 ≤ h37.size := Nat.le_trans Z_32 E37.1
  have E_39 : Exa Z h37 b12 "com/example/rackline/rackline/cluster/ReplicaEnd" := E_33.ext E37
  have Zk_40 : k21 ≤ h37.size := Nat.le_trans Zk_34 E37.1
  have F_41 : Fld Z h37 b12 "com/example/rackline/rackline/cluster/ReplicaEnd" "latestEpoch" "I" (.int i0) := F31q0.ext E37
  have F_42 : Fld Z h37 b12 "com/example/rackline/rackline/cluster/ReplicaEnd" "endOffset" "J" (.long i1) := F31q1.ext E37
  have F_43 : Fld Z h37 b37 "com/example/rackline/rackline/cluster/ReplicaEnd" "topic" "Ljava/lang/String;" .null := D37 (Or.inr (hw _ (List.mem_of_getElem? (i := 23) rfl))) (ty := (.object "java/lang/String")) (by decide)
  have F_44 : Fld Z h37 b37 "com/example/rackline/rackline/cluster/ReplicaEnd" "partition" "I" (.int (0 : Int32)) := D37 (Or.inr (hw _ (List.mem_of_getElem? (i := 25) rfl))) (ty := .int) (by decide)
  have F_45 : Fld Z h37 b37 "com/example/rackline/rackline/cluster/ReplicaEnd" "leaderEpoch" "I" (.int (0 : Int32)) := D37 (Or.inr (hw _ (List.mem_of_getElem? (i := 27) rfl))) (ty := .int) (by decide)
  have F_46 : Fld Z h37 b37 "com/example/rackline/rackline/cluster/ReplicaEnd" "latestEpoch" "I" (.int (0 : Int32)) := D37 (Or.inr (hw _ (List.mem_of_getElem? (i := 29) rfl))) (ty := .int) (by decide)
  have F_47 : Fld Z h37 b37 "com/example/rackline/rackline/cluster/ReplicaEnd" "endOffset" "J" (.long (0 : Int64)) := D37 (Or.inr (hw _ (List.mem_of_getElem? (i := 31) rfl))) (ty := .long) (by decide)
  have P48 : own_Rch p.tables e below A0 (T37.setTop (mkF m 51 #[.val (.int i0), .val (.long i1), .second, .val (.int i2), .val (.long i3), .second, .val (.int i4), .val (.int v4), .val (.long v9), .second, .val (.ref b12), .unset, .unset, .unset, .unset, .unset, .unset, .unset, .unset] [(.ref b37)])) := fun t k => P36 t (st37 t k)
  have P49 : own_Rch p.tables e below A0 (T37.setTop (mkF m 52 #[.val (.int i0), .val (.long i1), .second, .val (.int i2), .val (.long i3), .second, .val (.int i4), .val (.int v4), .val (.long v9), .second, .val (.ref b12), .unset, .unset, .unset, .unset, .unset, .unset, .unset, .unset] [(.ref b37), (.ref b37)])) := fun t k => P48 t (by
    show Steps p.tables e below (T37.setTop (mkF m 51 #[.val (.int i0), .val (.long i1), .second, .val (.int i2), .val (.long i3), .second, .val (.int i4), .val (.int v4), .val (.long v9), .second, .val (.ref b12), .unset, .unset, .unset, .unset, .unset, .unset, .unset, .unset] [(.ref b37)])) _
    refine XS.dup X37.here hx rfl (hb hby at_51) rfl rfl ?_
    exact k)
  obtain ⟨b50, T50, h50, k50, X50, e50, E50, hS50, hk50, hZ, hown, st50⟩ := ldcS (s := s) (vm0 := T21.vm) X37 hx hZ hown (hw _ (List.mem_of_getElem? (i := 32) rfl)) (own_str Z a0 hw) e37 hS21 Zk_40 (g := (mkF m 52 #[.val (.int i0), .val (.long i1), .second, .val (.int i2), .val (.long i3), .second, .val (.int i4), .val (.int v4), .val (.long v9), .second, .val (.ref b12), .unset, .unset, .unset, .unset, .unset, .unset, .unset, .unset] [(.ref b37), (.ref b37)])) rfl (hb hby at_52) (n := 4) (by decide) (by decide) (by decide) (by decide)
  have Z_51 : n0 ≤ h50.size := Nat.le_trans Z_38 E50.1
  have E_52 : Exa Z h50 b12 "com/example/rackline/rackline/cluster/ReplicaEnd" := E_39.ext E50
  have F_53 : Fld Z h50 b12 "com/example/rackline/rackline/cluster/ReplicaEnd" "latestEpoch" "I" (.int i0) := F_41.ext E50
  have F_54 : Fld Z h50 b12 "com/example/rackline/rackline/cluster/ReplicaEnd" "endOffset" "J" (.long i1) := F_42.ext E50
  have E_55 : Exa Z h50 b37 "com/example/rackline/rackline/cluster/ReplicaEnd" := A37.ext E50
  have F_56 : Fld Z h50 b37 "com/example/rackline/rackline/cluster/ReplicaEnd" "topic" "Ljava/lang/String;" .null := F_43.ext E50
  have F_57 : Fld Z h50 b37 "com/example/rackline/rackline/cluster/ReplicaEnd" "partition" "I" (.int (0 : Int32)) := F_44.ext E50
  have F_58 : Fld Z h50 b37 "com/example/rackline/rackline/cluster/ReplicaEnd" "leaderEpoch" "I" (.int (0 : Int32)) := F_45.ext E50
  have F_59 : Fld Z h50 b37 "com/example/rackline/rackline/cluster/ReplicaEnd" "latestEpoch" "I" (.int (0 : Int32)) := F_46.ext E50
  have F_60 : Fld Z h50 b37 "com/example/rackline/rackline/cluster/ReplicaEnd" "endOffset" "J" (.long (0 : Int64)) := F_47.ext E50
  have P61 : own_Rch p.tables e below A0 (T50.setTop (mkF m 54 #[.val (.int i0), .val (.long i1), .second, .val (.int i2), .val (.long i3), .second, .val (.int i4), .val (.int v4), .val (.long v9), .second, .val (.ref b12), .unset, .unset, .unset, .unset, .unset, .unset, .unset, .unset] [(.ref b50), (.ref b37), (.ref b37)])) := fun t k => P49 t (st50 t k)
  have P62 : own_Rch p.tables e below A0 (T50.setTop (mkF m 63 #[.val (.int i0), .val (.long i1), .second, .val (.int i2), .val (.long i3), .second, .val (.int i4), .val (.int v4), .val (.long v9), .second, .val (.ref b12), .unset, .unset, .unset, .unset, .unset, .unset, .unset, .unset] [(.long v9), (.int v4), (.int ((i4.toUInt32 >>> ((3 : Int32) &&& 31).toUInt32).toInt32)), (.int i2), (.ref b50), (.ref b37), (.ref b37)])) := fun t k => P61 t (by
    show Steps p.tables e below (T50.setTop (mkF m 54 #[.val (.int i0), .val (.long i1), .second, .val (.int i2), .val (.long i3), .second, .val (.int i4), .val (.int v4), .val (.long v9), .second, .val (.ref b12), .unset, .unset, .unset, .unset, .unset, .unset, .unset, .unset] [(.ref b50), (.ref b37), (.ref b37)])) _
    refine XS.iloadN X50.here hx rfl (hb hby at_54) rfl ?_
    show Steps p.tables e below (T50.setTop (mkF m 55 #[.val (.int i0), .val (.long i1), .second, .val (.int i2), .val (.long i3), .second, .val (.int i4), .val (.int v4), .val (.long v9), .second, .val (.ref b12), .unset, .unset, .unset, .unset, .unset, .unset, .unset, .unset] [(.int i2), (.ref b50), (.ref b37), (.ref b37)])) _
    refine XS.iload X50.here hx rfl (hb hby at_55) rfl ?_
    show Steps p.tables e below (T50.setTop (mkF m 57 #[.val (.int i0), .val (.long i1), .second, .val (.int i2), .val (.long i3), .second, .val (.int i4), .val (.int v4), .val (.long v9), .second, .val (.ref b12), .unset, .unset, .unset, .unset, .unset, .unset, .unset, .unset] [(.int i4), (.int i2), (.ref b50), (.ref b37), (.ref b37)])) _
    refine XS.iconst X50.here hx rfl (hb hby at_57) ?_
    show Steps p.tables e below (T50.setTop (mkF m 58 #[.val (.int i0), .val (.long i1), .second, .val (.int i2), .val (.long i3), .second, .val (.int i4), .val (.int v4), .val (.long v9), .second, .val (.ref b12), .unset, .unset, .unset, .unset, .unset, .unset, .unset, .unset] [(.int (3 : Int32)), (.int i4), (.int i2), (.ref b50), (.ref b37), (.ref b37)])) _
    refine XS.iushr X50.here hx rfl (hb hby at_58) rfl ?_
    show Steps p.tables e below (T50.setTop (mkF m 59 #[.val (.int i0), .val (.long i1), .second, .val (.int i2), .val (.long i3), .second, .val (.int i4), .val (.int v4), .val (.long v9), .second, .val (.ref b12), .unset, .unset, .unset, .unset, .unset, .unset, .unset, .unset] [(.int ((i4.toUInt32 >>> ((3 : Int32) &&& 31).toUInt32).toInt32)), (.int i2), (.ref b50), (.ref b37), (.ref b37)])) _
    refine XS.iload X50.here hx rfl (hb hby at_59) rfl ?_
    show Steps p.tables e below (T50.setTop (mkF m 61 #[.val (.int i0), .val (.long i1), .second, .val (.int i2), .val (.long i3), .second, .val (.int i4), .val (.int v4), .val (.long v9), .second, .val (.ref b12), .unset, .unset, .unset, .unset, .unset, .unset, .unset, .unset] [(.int v4), (.int ((i4.toUInt32 >>> ((3 : Int32) &&& 31).toUInt32).toInt32)), (.int i2), (.ref b50), (.ref b37), (.ref b37)])) _
    refine XS.lload X50.here hx rfl (hb hby at_61) rfl ?_
    exact k)
  obtain ⟨_, _, ⟨T63, L63, k63, n63⟩, -, X63, ⟨Lc63, hQ63, l63, y63, z63⟩, st63⟩ := X50.specialBack hx (y := (⟨"com/example/rackline/rackline/cluster/ReplicaEnd", "<init>", "(Ljava/lang/String;IIIJ)V"⟩ : MethodName)) rfl hown (mvT hZ (hw _ (List.mem_of_getElem? (i := 11) rfl))) (mvT hZ (hw _ (List.mem_of_getElem? (i := 12) rfl))) (mvT hZ (hw _ (List.mem_of_getElem? (i := 13) rfl))) (by decide) (backOf (W := 1) (rm1 l Z a0 hw [] b37 b50 i2 ((i4.toUInt32 >>> ((3 : Int32) &&& 31).toUInt32).toInt32) v4 v9 h50 n0 Z_51 E_55 F_56 F_57 F_58 F_59 F_60 g_b37) hZ (hw _ (List.mem_of_getElem? (i := 13) rfl)) (hw _ (List.mem_of_getElem? (i := 2) rfl)) (by decide) (by decide)) (g := (mkF m 63 #[.val (.int i0), .val (.long i1), .second, .val (.int i2), .val (.long i3), .second, .val (.int i4), .val (.int v4), .val (.long v9), .second, .val (.ref b12), .unset, .unset, .unset, .unset, .unset, .unset, .unset, .unset] [(.long v9), (.int v4), (.int ((i4.toUInt32 >>> ((3 : Int32) &&& 31).toUInt32).toInt32)), (.int i2), (.ref b50), (.ref b37), (.ref b37)])) rfl (by rw [hml]; rfl) (Steps.refl _) (a := b37) (argsL := [(.ref b50), (.int i2), (.int ((i4.toUInt32 >>> ((3 : Int32) &&& 31).toUInt32).toInt32)), (.int v4), (.long v9)]) (rest := [(.ref b37)]) (lenOf pd_1 rfl) rfl (by show 2 * 0 + _ ≤ _; exact Nat.le_of_eq rfl) (hb hby at_63) (fun _ _ => ⟨rfl, e50, (by decide : (0 + 1 + 2 + 0 + 1 + 2) + 0 ≤ _), (by decide : (0 + 5 + 8 + 0 + 5 + 8) + 0 ≤ _)⟩)
  dsimp only [Pt.U, Pt.locs, Pt.cells, Pt.slots] at X63 l63 y63 z63 st63 hQ63
  subst l63 y63 z63
  obtain ⟨rfl, N63q, K63q, E63q, F63q0, F63q1⟩ := hQ63
  have N63 := Fr.app N31 N63q
  have Z_64 : n0 ≤ T63.heap.size := Nat.le_trans Z_51 K63q.1
  have E_65 : Exa Z T63.heap b12 "com/example/rackline/rackline/cluster/ReplicaEnd" := E_52.keep K63q
  have F_66 : Fld Z T63.heap b12 "com/example/rackline/rackline/cluster/ReplicaEnd" "latestEpoch" "I" (.int i0) := F_53.keep K63q (ninS ne_b12_b37 nin0)
  have F_67 : Fld Z T63.heap b12 "com/example/rackline/rackline/cluster/ReplicaEnd" "endOffset" "J" (.long i1) := F_54.keep K63q (ninS ne_b12_b37 nin0)
  have E_68 : Exa Z T63.heap b37 "com/example/rackline/rackline/cluster/ReplicaEnd" := E_55.keep K63q
  have Zk_69 : k50 ≤ T63.heap.size := Nat.le_trans hk50 K63q.1
  have P70 : own_Rch p.tables e below A0 (T63.setTop (mkF m 66 #[.val (.int i0), .val (.long i1), .second, .val (.int i2), .val (.long i3), .second, .val (.int i4), .val (.int v4), .val (.long v9), .second, .val (.ref b12), .unset, .unset, .unset, .unset, .unset, .unset, .unset, .unset] [(.ref b37)])) := fun t k => P62 t (st63.trans k)
  have P71 : own_Rch p.tables e below A0 (T63.setTop (mkF m 72 #[.val (.int i0), .val (.long i1), .second, .val (.int i2), .val (.long i3), .second, .val (.int i4), .val (.int v4), .val (.long v9), .second, .val (.ref b12), .val (.ref b37), .unset, .unset, .unset, .unset, .unset, .unset, .unset] [(.ref b37), (.ref b12)])) := fun t k => P70 t (by
    show Steps p.tables e below (T63.setTop (mkF m 66 #[.val (.int i0), .val (.long i1), .second, .val (.int i2), .val (.long i3), .second, .val (.int i4), .val (.int v4), .val (.long v9), .second, .val (.ref b12), .unset, .unset, .unset, .unset, .unset, .unset, .unset, .unset] [(.ref b37)])) _
    refine XS.astore X63.here hx rfl (hb hby at_66) rfl rfl (l' := #[.val (.int i0), .val (.long i1), .second, .val (.int i2), .val (.long i3), .second, .val (.int i4), .val (.int v4), .val (.long v9), .second, .val (.ref b12), .val (.ref b37), .unset, .unset, .unset, .unset, .unset, .unset, .unset]) rfl ?_
    show Steps p.tables e below (T63.setTop (mkF m 68 #[.val (.int i0), .val (.long i1), .second, .val (.int i2), .val (.long i3), .second, .val (.int i4), .val (.int v4), .val (.long v9), .second, .val (.ref b12), .val (.ref b37), .unset, .unset, .unset, .unset, .unset, .unset, .unset] [])) _
    refine XS.aload X63.here hx rfl (hb hby at_68) rfl rfl ?_
    show Steps p.tables e below (T63.setTop (mkF m 70 #[.val (.int i0), .val (.long i1), .second, .val (.int i2), .val (.long i3), .second, .val (.int i4), .val (.int v4), .val (.long v9), .second, .val (.ref b12), .val (.ref b37), .unset, .unset, .unset, .unset, .unset, .unset, .unset] [(.ref b12)])) _
    refine XS.aload X63.here hx rfl (hb hby at_70) rfl rfl ?_
    exact k)
  obtain ⟨cq72, kq72, q72a, q72b, q72c⟩ := isOf hZ rfl E_65
  obtain ⟨_, _, ⟨T72, L72, k72, n72⟩, -, X72, ⟨Lc72, hQ72, l72, y72, z72⟩, st72⟩ := X63.virtualBack hx (y := (⟨"com/example/rackline/rackline/cluster/ReplicaEnd", "endsFurtherThan", "(Lcom/example/rackline/rackline/cluster/ReplicaEnd;)Z"⟩ : MethodName)) (z := (⟨"com/example/rackline/rackline/cluster/ReplicaEnd", "endsFurtherThan", "(Lcom/example/rackline/rackline/cluster/ReplicaEnd;)Z"⟩ : MethodName)) hown (mvT hZ (hw _ (List.mem_of_getElem? (i := 33) rfl))) (mvT hZ (hw _ (List.mem_of_getElem? (i := 34) rfl))) (notFace_of_selects (args := #[]) (mvT hZ (hw _ (List.mem_of_getElem? (i := 36) rfl)))) (mvT hZ (hw _ (List.mem_of_getElem? (i := 36) rfl))) (mvT hZ (hw _ (List.mem_of_getElem? (i := 35) rfl))) (by decide) (backOf (W := 0) (rm4 l Z a0 hw [] b12 b37 i0 i1 v4 v9 T63.heap n0 Z_64 F_66 F_67 F63q0 F63q1) hZ (hw _ (List.mem_of_getElem? (i := 37) rfl)) (hw _ (List.mem_of_getElem? (i := 2) rfl)) (by decide) (by decide)) q72a q72c (g := (mkF m 72 #[.val (.int i0), .val (.long i1), .second, .val (.int i2), .val (.long i3), .second, .val (.int i4), .val (.int v4), .val (.long v9), .second, .val (.ref b12), .val (.ref b37), .unset, .unset, .unset, .unset, .unset, .unset, .unset] [(.ref b37), (.ref b12)])) rfl (by rw [hml]; rfl) (Steps.refl _) (argsL := [(.ref b37)]) (rest := []) (lenOf pd_2 rfl) rfl (by show 2 * 0 + _ ≤ _; exact Nat.le_of_eq rfl) (hb hby at_72) (fun _ _ => ⟨rfl, rfl, (by decide : (0 + 1 + 2 + 0 + 1 + 2 + 0) + 0 ≤ _), (by decide : (0 + 5 + 8 + 0 + 5 + 8 + 0) + 0 ≤ _)⟩)
  dsimp only [Pt.U, Pt.locs, Pt.cells, Pt.slots] at X72 l72 y72 z72 st72 hQ72
  subst l72 y72 z72
  obtain ⟨rfl, N72q, e72⟩ := hQ72
  have N72 := Fr.app N63 N72q
  have P73 : own_Rch p.tables e below A0 (T72.setTop (mkF m 75 #[.val (.int i0), .val (.long i1), .second, .val (.int i2), .val (.long i3), .second, .val (.int i4), .val (.int v4), .val (.long v9), .second, .val (.ref b12), .val (.ref b37), .unset, .unset, .unset, .unset, .unset, .unset, .unset] [(.int (own_ft i0 i1 v4 v9))])) := fun t k => P71 t (st72.trans k)
  have P74 : own_Rch p.tables e below A0 (T72.setTop (mkF m 77 #[.val (.int i0), .val (.long i1), .second, .val (.int i2), .val (.long i3), .second, .val (.int i4), .val (.int v4), .val (.long v9), .second, .val (.ref b12), .val (.ref b37), .val (.int (own_ft i0 i1 v4 v9)), .unset, .unset, .unset, .unset, .unset, .unset] [])) := fun t k => P73 t (by
    show Steps p.tables e below (T72.setTop (mkF m 75 #[.val (.int i0), .val (.long i1), .second, .val (.int i2), .val (.long i3), .second, .val (.int i4), .val (.int v4), .val (.long v9), .second, .val (.ref b12), .val (.ref b37), .unset, .unset, .unset, .unset, .unset, .unset, .unset] [(.int (own_ft i0 i1 v4 v9))])) _
    refine XS.istore X72.here hx rfl (hb hby at_75) rfl (l' := #[.val (.int i0), .val (.long i1), .second, .val (.int i2), .val (.long i3), .second, .val (.int i4), .val (.int v4), .val (.long v9), .second, .val (.ref b12), .val (.ref b37), .val (.int (own_ft i0 i1 v4 v9)), .unset, .unset, .unset, .unset, .unset, .unset]) rfl ?_
    exact k)
  obtain ⟨v75, hv75, P76⟩ : ∃ z : Int32, z = (own_ft i0 i1 v4 v9) ∧ own_Rch p.tables e below A0 (T72.setTop (mkF m 77 #[.val (.int i0), .val (.long i1), .second, .val (.int i2), .val (.long i3), .second, .val (.int i4), .val (.int v4), .val (.long v9), .second, .val (.ref b12), .val (.ref b37), .val (.int z), .unset, .unset, .unset, .unset, .unset, .unset] [])) := ⟨_, rfl, P74⟩
  have P77 : own_Rch p.tables e below A0 (T72.setTop (mkF m 81 #[.val (.int i0), .val (.long i1), .second, .val (.int i2), .val (.long i3), .second, .val (.int i4), .val (.int v4), .val (.long v9), .second, .val (.ref b12), .val (.ref b37), .val (.int v75), .unset, .unset, .unset, .unset, .unset, .unset] [(.ref b12), (.ref b37)])) := fun t k => P76 t (by
    show Steps p.tables e below (T72.setTop (mkF m 77 #[.val (.int i0), .val (.long i1), .second, .val (.int i2), .val (.long i3), .second, .val (.int i4), .val (.int v4), .val (.long v9), .second, .val (.ref b12), .val (.ref b37), .val (.int v75), .unset, .unset, .unset, .unset, .unset, .unset] [])) _
    refine XS.aload X72.here hx rfl (hb hby at_77) rfl rfl ?_
    show Steps p.tables e below (T72.setTop (mkF m 79 #[.val (.int i0), .val (.long i1), .second, .val (.int i2), .val (.long i3), .second, .val (.int i4), .val (.int v4), .val (.long v9), .second, .val (.ref b12), .val (.ref b37), .val (.int v75), .unset, .unset, .unset, .unset, .unset, .unset] [(.ref b37)])) _
    refine XS.aload X72.here hx rfl (hb hby at_79) rfl rfl ?_
    exact k)
  obtain ⟨cq78, kq78, q78a, q78b, q78c⟩ := isOf hZ e72 E_68
  obtain ⟨_, _, ⟨T78, L78, k78, n78⟩, -, X78, ⟨Lc78, hQ78, l78, y78, z78⟩, st78⟩ := X72.virtualBack hx (y := (⟨"com/example/rackline/rackline/cluster/ReplicaEnd", "endsFurtherThan", "(Lcom/example/rackline/rackline/cluster/ReplicaEnd;)Z"⟩ : MethodName)) (z := (⟨"com/example/rackline/rackline/cluster/ReplicaEnd", "endsFurtherThan", "(Lcom/example/rackline/rackline/cluster/ReplicaEnd;)Z"⟩ : MethodName)) hown (mvT hZ (hw _ (List.mem_of_getElem? (i := 33) rfl))) (mvT hZ (hw _ (List.mem_of_getElem? (i := 34) rfl))) (notFace_of_selects (args := #[]) (mvT hZ (hw _ (List.mem_of_getElem? (i := 36) rfl)))) (mvT hZ (hw _ (List.mem_of_getElem? (i := 36) rfl))) (mvT hZ (hw _ (List.mem_of_getElem? (i := 35) rfl))) (by decide) (backOf (W := 0) (rm4 l Z a0 hw [] b37 b12 v4 v9 i0 i1 T63.heap n0 Z_64 F63q0 F63q1 F_66 F_67) hZ (hw _ (List.mem_of_getElem? (i := 37) rfl)) (hw _ (List.mem_of_getElem? (i := 2) rfl)) (by decide) (by decide)) q78a q78c (g := (mkF m 81 #[.val (.int i0), .val (.long i1), .second, .val (.int i2), .val (.long i3), .second, .val (.int i4), .val (.int v4), .val (.long v9), .second, .val (.ref b12), .val (.ref b37), .val (.int v75), .unset, .unset, .unset, .unset, .unset, .unset] [(.ref b12), (.ref b37)])) rfl (by rw [hml]; rfl) (Steps.refl _) (argsL := [(.ref b12)]) (rest := []) (lenOf pd_2 rfl) rfl (by show 2 * 0 + _ ≤ _; exact Nat.le_of_eq rfl) (hb hby at_81) (fun _ _ => ⟨rfl, e72, (by decide : (0 + 1 + 2 + 0 + 1 + 2 + 0 + 0) + 0 ≤ _), (by decide : (0 + 5 + 8 + 0 + 5 + 8 + 0 + 0) + 0 ≤ _)⟩)
  dsimp only [Pt.U, Pt.locs, Pt.cells, Pt.slots] at X78 l78 y78 z78 st78 hQ78
  subst l78 y78 z78
  obtain ⟨rfl, N78q, e78⟩ := hQ78
  have N78 := Fr.app N72 N78q
  have P79 : own_Rch p.tables e below A0 (T78.setTop (mkF m 84 #[.val (.int i0), .val (.long i1), .second, .val (.int i2), .val (.long i3), .second, .val (.int i4), .val (.int v4), .val (.long v9), .second, .val (.ref b12), .val (.ref b37), .val (.int v75), .unset, .unset, .unset, .unset, .unset, .unset] [(.int (own_ft v4 v9 i0 i1))])) := fun t k => P77 t (st78.trans k)
  have P80 : own_Rch p.tables e below A0 (T78.setTop (mkF m 86 #[.val (.int i0), .val (.long i1), .second, .val (.int i2), .val (.long i3), .second, .val (.int i4), .val (.int v4), .val (.long v9), .second, .val (.ref b12), .val (.ref b37), .val (.int v75), .val (.int (own_ft v4 v9 i0 i1)), .unset, .unset, .unset, .unset, .unset] [])) := fun t k => P79 t (by
    show Steps p.tables e below (T78.setTop (mkF m 84 #[.val (.int i0), .val (.long i1), .second, .val (.int i2), .val (.long i3), .second, .val (.int i4), .val (.int v4), .val (.long v9), .second, .val (.ref b12), .val (.ref b37), .val (.int v75), .unset, .unset, .unset, .unset, .unset, .unset] [(.int (own_ft v4 v9 i0 i1))])) _
    refine XS.istore X78.here hx rfl (hb hby at_84) rfl (l' := #[.val (.int i0), .val (.long i1), .second, .val (.int i2), .val (.long i3), .second, .val (.int i4), .val (.int v4), .val (.long v9), .second, .val (.ref b12), .val (.ref b37), .val (.int v75), .val (.int (own_ft v4 v9 i0 i1)), .unset, .unset, .unset, .unset, .unset]) rfl ?_
    exact k)
  obtain ⟨v81, hv81, P82⟩ : ∃ z : Int32, z = (own_ft v4 v9 i0 i1) ∧ own_Rch p.tables e below A0 (T78.setTop (mkF m 86 #[.val (.int i0), .val (.long i1), .second, .val (.int i2), .val (.long i3), .second, .val (.int i4), .val (.int v4), .val (.long v9), .second, .val (.ref b12), .val (.ref b37), .val (.int v75), .val (.int z), .unset, .unset, .unset, .unset, .unset] [])) := ⟨_, rfl, P80⟩
  have P83 : own_Rch p.tables e below A0 (T78.setTop (mkF m 90 #[.val (.int i0), .val (.long i1), .second, .val (.int i2), .val (.long i3), .second, .val (.int i4), .val (.int v4), .val (.long v9), .second, .val (.ref b12), .val (.ref b37), .val (.int v75), .val (.int v81), .unset, .unset, .unset, .unset, .unset] [(.ref b12), (.ref b12)])) := fun t k => P82 t (by
    show Steps p.tables e below (T78.setTop (mkF m 86 #[.val (.int i0), .val (.long i1), .second, .val (.int i2), .val (.long i3), .second, .val (.int i4), .val (.int v4), .val (.long v9), .second, .val (.ref b12), .val (.ref b37), .val (.int v75), .val (.int v81), .unset, .unset, .unset, .unset, .unset] [])) _
    refine XS.aload X78.here hx rfl (hb hby at_86) rfl rfl ?_
    show Steps p.tables e below (T78.setTop (mkF m 88 #[.val (.int i0), .val (.long i1), .second, .val (.int i2), .val (.long i3), .second, .val (.int i4), .val (.int v4), .val (.long v9), .second, .val (.ref b12), .val (.ref b37), .val (.int v75), .val (.int v81), .unset, .unset, .unset, .unset, .unset] [(.ref b12)])) _
    refine XS.aload X78.here hx rfl (hb hby at_88) rfl rfl ?_
    exact k)
  obtain ⟨cq84, kq84, q84a, q84b, q84c⟩ := isOf hZ e78 E_65
  obtain ⟨_, _, ⟨T84, L84, k84, n84⟩, -, X84, ⟨Lc84, hQ84, l84, y84, z84⟩, st84⟩ := X78.virtualBack hx (y := (⟨"com/example/rackline/rackline/cluster/ReplicaEnd", "endsFurtherThan", "(Lcom/example/rackline/rackline/cluster/ReplicaEnd;)Z"⟩ : MethodName)) (z := (⟨"com/example/rackline/rackline/cluster/ReplicaEnd", "endsFurtherThan", "(Lcom/example/rackline/rackline/cluster/ReplicaEnd;)Z"⟩ : MethodName)) hown (mvT hZ (hw _ (List.mem_of_getElem? (i := 33) rfl))) (mvT hZ (hw _ (List.mem_of_getElem? (i := 34) rfl))) (notFace_of_selects (args := #[]) (mvT hZ (hw _ (List.mem_of_getElem? (i := 36) rfl)))) (mvT hZ (hw _ (List.mem_of_getElem? (i := 36) rfl))) (mvT hZ (hw _ (List.mem_of_getElem? (i := 35) rfl))) (by decide) (backOf (W := 0) (rm4 l Z a0 hw [] b12 b12 i0 i1 i0 i1 T63.heap n0 Z_64 F_66 F_67 F_66 F_67) hZ (hw _ (List.mem_of_getElem? (i := 37) rfl)) (hw _ (List.mem_of_getElem? (i := 2) rfl)) (by decide) (by decide)) q84a q84c (g := (mkF m 90 #[.val (.int i0), .val (.long i1), .second, .val (.int i2), .val (.long i3), .second, .val (.int i4), .val (.int v4), .val (.long v9), .second, .val (.ref b12), .val (.ref b37), .val (.int v75), .val (.int v81), .unset, .unset, .unset, .unset, .unset] [(.ref b12), (.ref b12)])) rfl (by rw [hml]; rfl) (Steps.refl _) (argsL := [(.ref b12)]) (rest := []) (lenOf pd_2 rfl) rfl (by show 2 * 0 + _ ≤ _; exact Nat.le_of_eq rfl) (hb hby at_90) (fun _ _ => ⟨rfl, e78, (by decide : (0 + 1 + 2 + 0 + 1 + 2 + 0 + 0 + 0) + 0 ≤ _), (by decide : (0 + 5 + 8 + 0 + 5 + 8 + 0 + 0 + 0) + 0 ≤ _)⟩)
  dsimp only [Pt.U, Pt.locs, Pt.cells, Pt.slots] at X84 l84 y84 z84 st84 hQ84
  subst l84 y84 z84
  obtain ⟨rfl, N84q, e84⟩ := hQ84
  have N84 := Fr.app N78 N84q
  have P85 : own_Rch p.tables e below A0 (T84.setTop (mkF m 93 #[.val (.int i0), .val (.long i1), .second, .val (.int i2), .val (.long i3), .second, .val (.int i4), .val (.int v4), .val (.long v9), .second, .val (.ref b12), .val (.ref b37), .val (.int v75), .val (.int v81), .unset, .unset, .unset, .unset, .unset] [(.int (own_ft i0 i1 i0 i1))])) := fun t k => P83 t (st84.trans k)
  have P86 : own_Rch p.tables e below A0 (T84.setTop (mkF m 95 #[.val (.int i0), .val (.long i1), .second, .val (.int i2), .val (.long i3), .second, .val (.int i4), .val (.int v4), .val (.long v9), .second, .val (.ref b12), .val (.ref b37), .val (.int v75), .val (.int v81), .val (.int (own_ft i0 i1 i0 i1)), .unset, .unset, .unset, .unset] [])) := fun t k => P85 t (by
    show Steps p.tables e below (T84.setTop (mkF m 93 #[.val (.int i0), .val (.long i1), .second, .val (.int i2), .val (.long i3), .second, .val (.int i4), .val (.int v4), .val (.long v9), .second, .val (.ref b12), .val (.ref b37), .val (.int v75), .val (.int v81), .unset, .unset, .unset, .unset, .unset] [(.int (own_ft i0 i1 i0 i1))])) _
    refine XS.istore X84.here hx rfl (hb hby at_93) rfl (l' := #[.val (.int i0), .val (.long i1), .second, .val (.int i2), .val (.long i3), .second, .val (.int i4), .val (.int v4), .val (.long v9), .second, .val (.ref b12), .val (.ref b37), .val (.int v75), .val (.int v81), .val (.int (own_ft i0 i1 i0 i1)), .unset, .unset, .unset, .unset]) rfl ?_
    exact k)
  obtain ⟨v87, hv87, P88⟩ : ∃ z : Int32, z = (own_ft i0 i1 i0 i1) ∧ own_Rch p.tables e below A0 (T84.setTop (mkF m 95 #[.val (.int i0), .val (.long i1), .second, .val (.int i2), .val (.long i3), .second, .val (.int i4), .val (.int v4), .val (.long v9), .second, .val (.ref b12), .val (.ref b37), .val (.int v75), .val (.int v81), .val (.int z), .unset, .unset, .unset, .unset] [])) := ⟨_, rfl, P86⟩
  have P90 : own_Rch p.tables e below A0 (T84.setTop (mkF m 98 #[.val (.int i0), .val (.long i1), .second, .val (.int i2), .val (.long i3), .second, .val (.int i4), .val (.int v4), .val (.long v9), .second, .val (.ref b12), .val (.ref b37), .val (.int v75), .val (.int v81), .val (.int v87), .unset, .unset, .unset, .unset] [(.int v4), (.int i0)])) := fun t k => P88 t (by
    show Steps p.tables e below (T84.setTop (mkF m 95 #[.val (.int i0), .val (.long i1), .second, .val (.int i2), .val (.long i3), .second, .val (.int i4), .val (.int v4), .val (.long v9), .second, .val (.ref b12), .val (.ref b37), .val (.int v75), .val (.int v81), .val (.int v87), .unset, .unset, .unset, .unset] [])) _
    refine XS.iloadN X84.here hx rfl (hb hby at_95) rfl ?_
    show Steps p.tables e below (T84.setTop (mkF m 96 #[.val (.int i0), .val (.long i1), .second, .val (.int i2), .val (.long i3), .second, .val (.int i4), .val (.int v4), .val (.long v9), .second, .val (.ref b12), .val (.ref b37), .val (.int v75), .val (.int v81), .val (.int v87), .unset, .unset, .unset, .unset] [(.int i0)])) _
    refine XS.iload X84.here hx rfl (hb hby at_96) rfl ?_
    exact k)
  obtain ⟨v92, hv92⟩ : ∃ z : Int32, z = (if i0 = v4 then (1 : Int32) else (0 : Int32)) := ⟨_, rfl⟩
  have P93 : own_Rch p.tables e below A0 (T84.setTop (mkF m 106 #[.val (.int i0), .val (.long i1), .second, .val (.int i2), .val (.long i3), .second, .val (.int i4), .val (.int v4), .val (.long v9), .second, .val (.ref b12), .val (.ref b37), .val (.int v75), .val (.int v81), .val (.int v87), .unset, .unset, .unset, .unset] [(.int v92)])) := fun t k => P90 t (by
    by_cases hc91 : i0 = v4
    · show Steps p.tables e below (T84.setTop (mkF m 98 #[.val (.int i0), .val (.long i1), .second, .val (.int i2), .val (.long i3), .second, .val (.int i4), .val (.int v4), .val (.long v9), .second, .val (.ref b12), .val (.ref b37), .val (.int v75), .val (.int v81), .val (.int v87), .unset, .unset, .unset, .unset] [(.int v4), (.int i0)])) _
      refine XS.icmpNo X84.here hx rfl (hb hby at_98) rfl (teq hc91).2 ?_
      have qv92 : v92 = (1 : Int32) := by rw [hv92]; simp only [if_pos hc91]
      rw [qv92] at k
      show Steps p.tables e below (T84.setTop (mkF m 101 #[.val (.int i0), .val (.long i1), .second, .val (.int i2), .val (.long i3), .second, .val (.int i4), .val (.int v4), .val (.long v9), .second, .val (.ref b12), .val (.ref b37), .val (.int v75), .val (.int v81), .val (.int v87), .unset, .unset, .unset, .unset] [])) _
      refine XS.iconst X84.here hx rfl (hb hby at_101) ?_
      show Steps p.tables e below (T84.setTop (mkF m 102 #[.val (.int i0), .val (.long i1), .second, .val (.int i2), .val (.long i3), .second, .val (.int i4), .val (.int v4), .val (.long v9), .second, .val (.ref b12), .val (.ref b37), .val (.int v75), .val (.int v81), .val (.int v87), .unset, .unset, .unset, .unset] [(.int (1 : Int32))])) _
      refine XS.goto X84.here hx rfl (pc0 := 102) (pc' := 106) rfl (hb hby at_102) (by decide) (by decide) ?_
      exact k
    · show Steps p.tables e below (T84.setTop (mkF m 98 #[.val (.int i0), .val (.long i1), .second, .val (.int i2), .val (.long i3), .second, .val (.int i4), .val (.int v4), .val (.long v9), .second, .val (.ref b12), .val (.ref b37), .val (.int v75), .val (.int v81), .val (.int v87), .unset, .unset, .unset, .unset] [(.int v4), (.int i0)])) _
      refine XS.icmpYes X84.here hx rfl (pc0 := 98) (pc' := 105) rfl (hb hby at_98) rfl (feq hc91).2 (by decide) (by decide) ?_
      have qv92 : v92 = (0 : Int32) := by rw [hv92]; simp only [if_neg hc91]
      rw [qv92] at k
      show Steps p.tables e below (T84.setTop (mkF m 105 #[.val (.int i0), .val (.long i1), .second, .val (.int i2), .val (.long i3), .second, .val (.int i4), .val (.int v4), .val (.long v9), .second, .val (.ref b12), .val (.ref b37), .val (.int v75), .val (.int v81), .val (.int v87), .unset, .unset, .unset, .unset] [])) _
      refine XS.iconst X84.here hx rfl (hb hby at_105) ?_
      exact k)
  have P95 : own_Rch p.tables e below A0 (T84.setTop (mkF m 111 #[.val (.int i0), .val (.long i1), .second, .val (.int i2), .val (.long i3), .second, .val (.int i4), .val (.int v4), .val (.long v9), .second, .val (.ref b12), .val (.ref b37), .val (.int v75), .val (.int v81), .val (.int v87), .val (.int v92), .unset, .unset, .unset] [(.int v4), (.int i0)])) := fun t k => P93 t (by
    show Steps p.tables e below (T84.setTop (mkF m 106 #[.val (.int i0), .val (.long i1), .second, .val (.int i2), .val (.long i3), .second, .val (.int i4), .val (.int v4), .val (.long v9), .second, .val (.ref b12), .val (.ref b37), .val (.int v75), .val (.int v81), .val (.int v87), .unset, .unset, .unset, .unset] [(.int v92)])) _
    refine XS.istore X84.here hx rfl (hb hby at_106) rfl (l' := #[.val (.int i0), .val (.long i1), .second, .val (.int i2), .val (.long i3), .second, .val (.int i4), .val (.int v4), .val (.long v9), .second, .val (.ref b12), .val (.ref b37), .val (.int v75), .val (.int v81), .val (.int v87), .val (.int v92), .unset, .unset, .unset]) rfl ?_
    show Steps p.tables e below (T84.setTop (mkF m 108 #[.val (.int i0), .val (.long i1), .second, .val (.int i2), .val (.long i3), .second, .val (.int i4), .val (.int v4), .val (.long v9), .second, .val (.ref b12), .val (.ref b37), .val (.int v75), .val (.int v81), .val (.int v87), .val (.int v92), .unset, .unset, .unset] [])) _
    refine XS.iloadN X84.here hx rfl (hb hby at_108) rfl ?_
    show Steps p.tables e below (T84.setTop (mkF m 109 #[.val (.int i0), .val (.long i1), .second, .val (.int i2), .val (.long i3), .second, .val (.int i4), .val (.int v4), .val (.long v9), .second, .val (.ref b12), .val (.ref b37), .val (.int v75), .val (.int v81), .val (.int v87), .val (.int v92), .unset, .unset, .unset] [(.int i0)])) _
    refine XS.iload X84.here hx rfl (hb hby at_109) rfl ?_
    exact k)
  obtain ⟨v99, hv99⟩ : ∃ z : Int32, z = (if v4 < i0 then (1 : Int32) else (if v92 = (0 : Int32) then (0 : Int32) else (if v9 < i1 then (1 : Int32) else (0 : Int32)))) := ⟨_, rfl⟩
  have P100 : own_Rch p.tables e below A0 (T84.setTop (mkF m 131 #[.val (.int i0), .val (.long i1), .second, .val (.int i2), .val (.long i3), .second, .val (.int i4), .val (.int v4), .val (.long v9), .second, .val (.ref b12), .val (.ref b37), .val (.int v75), .val (.int v81), .val (.int v87), .val (.int v92), .unset, .unset, .unset] [(.int v99)])) := fun t k => P95 t (by
    by_cases hc96 : v4 < i0
    · show Steps p.tables e below (T84.setTop (mkF m 111 #[.val (.int i0), .val (.long i1), .second, .val (.int i2), .val (.long i3), .second, .val (.int i4), .val (.int v4), .val (.long v9), .second, .val (.ref b12), .val (.ref b37), .val (.int v75), .val (.int v81), .val (.int v87), .val (.int v92), .unset, .unset, .unset] [(.int v4), (.int i0)])) _
      refine XS.icmpYes X84.here hx rfl (pc0 := 111) (pc' := 126) rfl (hb hby at_111) rfl (tlt hc96).2.2.1 (by decide) (by decide) ?_
      have qv99 : v99 = (1 : Int32) := by rw [hv99]; simp only [if_pos hc96]
      rw [qv99] at k
      show Steps p.tables e below (T84.setTop (mkF m 126 #[.val (.int i0), .val (.long i1), .second, .val (.int i2), .val (.long i3), .second, .val (.int i4), .val (.int v4), .val (.long v9), .second, .val (.ref b12), .val (.ref b37), .val (.int v75), .val (.int v81), .val (.int v87), .val (.int v92), .unset, .unset, .unset] [])) _
      refine XS.iconst X84.here hx rfl (hb hby at_126) ?_
      show Steps p.tables e below (T84.setTop (mkF m 127 #[.val (.int i0), .val (.long i1), .second, .val (.int i2), .val (.long i3), .second, .val (.int i4), .val (.int v4), .val (.long v9), .second, .val (.ref b12), .val (.ref b37), .val (.int v75), .val (.int v81), .val (.int v87), .val (.int v92), .unset, .unset, .unset] [(.int (1 : Int32))])) _
      refine XS.goto X84.here hx rfl (pc0 := 127) (pc' := 131) rfl (hb hby at_127) (by decide) (by decide) ?_
      exact k
    · show Steps p.tables e below (T84.setTop (mkF m 111 #[.val (.int i0), .val (.long i1), .second, .val (.int i2), .val (.long i3), .second, .val (.int i4), .val (.int v4), .val (.long v9), .second, .val (.ref b12), .val (.ref b37), .val (.int v75), .val (.int v81), .val (.int v87), .val (.int v92), .unset, .unset, .unset] [(.int v4), (.int i0)])) _
      refine XS.icmpNo X84.here hx rfl (hb hby at_111) rfl (flt hc96).2.2.1 ?_
      show Steps p.tables e below (T84.setTop (mkF m 114 #[.val (.int i0), .val (.long i1), .second, .val (.int i2), .val (.long i3), .second, .val (.int i4), .val (.int v4), .val (.long v9), .second, .val (.ref b12), .val (.ref b37), .val (.int v75), .val (.int v81), .val (.int v87), .val (.int v92), .unset, .unset, .unset] [])) _
      refine XS.iload X84.here hx rfl (hb hby at_114) rfl ?_
      by_cases hc97 : v92 = (0 : Int32)
      · show Steps p.tables e below (T84.setTop (mkF m 116 #[.val (.int i0), .val (.long i1), .second, .val (.int i2), .val (.long i3), .second, .val (.int i4), .val (.int v4), .val (.long v9), .second, .val (.ref b12), .val (.ref b37), .val (.int v75), .val (.int v81), .val (.int v87), .val (.int v92), .unset, .unset, .unset] [(.int v92)])) _
        refine XS.ifYes X84.here hx rfl (pc0 := 116) (pc' := 130) rfl (hb hby at_116) rfl ((if0 _ _).trans (teq hc97).1) (by decide) (by decide) ?_
        have qv99 : v99 = (0 : Int32) := by rw [hv99]; simp only [if_neg hc96, if_pos hc97]
        rw [qv99] at k
        show Steps p.tables e below (T84.setTop (mkF m 130 #[.val (.int i0), .val (.long i1), .second, .val (.int i2), .val (.long i3), .second, .val (.int i4), .val (.int v4), .val (.long v9), .second, .val (.ref b12), .val (.ref b37), .val (.int v75), .val (.int v81), .val (.int v87), .val (.int v92), .unset, .unset, .unset] [])) _
        refine XS.iconst X84.here hx rfl (hb hby at_130) ?_
        exact k
      · show Steps p.tables e below (T84.setTop (mkF m 116 #[.val (.int i0), .val (.long i1), .second, .val (.int i2), .val (.long i3), .second, .val (.int i4), .val (.int v4), .val (.long v9), .second, .val (.ref b12), .val (.ref b37), .val (.int v75), .val (.int v81), .val (.int v87), .val (.int v92), .unset, .unset, .unset] [(.int v92)])) _
        refine XS.ifNo X84.here hx rfl (hb hby at_116) rfl ((if0 _ _).trans (feq hc97).1) ?_
        show Steps p.tables e below (T84.setTop (mkF m 119 #[.val (.int i0), .val (.long i1), .second, .val (.int i2), .val (.long i3), .second, .val (.int i4), .val (.int v4), .val (.long v9), .second, .val (.ref b12), .val (.ref b37), .val (.int v75), .val (.int v81), .val (.int v87), .val (.int v92), .unset, .unset, .unset] [])) _
        refine XS.lloadN X84.here hx rfl (hb hby at_119) rfl ?_
        show Steps p.tables e below (T84.setTop (mkF m 120 #[.val (.int i0), .val (.long i1), .second, .val (.int i2), .val (.long i3), .second, .val (.int i4), .val (.int v4), .val (.long v9), .second, .val (.ref b12), .val (.ref b37), .val (.int v75), .val (.int v81), .val (.int v87), .val (.int v92), .unset, .unset, .unset] [(.long i1)])) _
        refine XS.lload X84.here hx rfl (hb hby at_120) rfl ?_
        show Steps p.tables e below (T84.setTop (mkF m 122 #[.val (.int i0), .val (.long i1), .second, .val (.int i2), .val (.long i3), .second, .val (.int i4), .val (.int v4), .val (.long v9), .second, .val (.ref b12), .val (.ref b37), .val (.int v75), .val (.int v81), .val (.int v87), .val (.int v92), .unset, .unset, .unset] [(.long v9), (.long i1)])) _
        refine XS.lcmp X84.here hx rfl (hb hby at_122) rfl ?_
        by_cases hc98 : v9 < i1
        · show Steps p.tables e below (T84.setTop (mkF m 123 #[.val (.int i0), .val (.long i1), .second, .val (.int i2), .val (.long i3), .second, .val (.int i4), .val (.int v4), .val (.long v9), .second, .val (.ref b12), .val (.ref b37), .val (.int v75), .val (.int v81), .val (.int v87), .val (.int v92), .unset, .unset, .unset] [(.int (lcmpW i1 v9))])) _
          refine XS.ifNo X84.here hx rfl (hb hby at_123) rfl (own_lct2 hc98).2 ?_
          have qv99 : v99 = (1 : Int32) := by rw [hv99]; simp only [if_neg hc96, if_neg hc97, if_pos hc98]
          rw [qv99] at k
          show Steps p.tables e below (T84.setTop (mkF m 126 #[.val (.int i0), .val (.long i1), .second, .val (.int i2), .val (.long i3), .second, .val (.int i4), .val (.int v4), .val (.long v9), .second, .val (.ref b12), .val (.ref b37), .val (.int v75), .val (.int v81), .val (.int v87), .val (.int v92), .unset, .unset, .unset] [])) _
          refine XS.iconst X84.here hx rfl (hb hby at_126) ?_
          show Steps p.tables e below (T84.setTop (mkF m 127 #[.val (.int i0), .val (.long i1), .second, .val (.int i2), .val (.long i3), .second, .val (.int i4), .val (.int v4), .val (.long v9), .second, .val (.ref b12), .val (.ref b37), .val (.int v75), .val (.int v81), .val (.int v87), .val (.int v92), .unset, .unset, .unset] [(.int (1 : Int32))])) _
          refine XS.goto X84.here hx rfl (pc0 := 127) (pc' := 131) rfl (hb hby at_127) (by decide) (by decide) ?_
          exact k
        · show Steps p.tables e below (T84.setTop (mkF m 123 #[.val (.int i0), .val (.long i1), .second, .val (.int i2), .val (.long i3), .second, .val (.int i4), .val (.int v4), .val (.long v9), .second, .val (.ref b12), .val (.ref b37), .val (.int v75), .val (.int v81), .val (.int v87), .val (.int v92), .unset, .unset, .unset] [(.int (lcmpW i1 v9))])) _
          refine XS.ifYes X84.here hx rfl (pc0 := 123) (pc' := 130) rfl (hb hby at_123) rfl (own_lcf2 hc98).2 (by decide) (by decide) ?_
          have qv99 : v99 = (0 : Int32) := by rw [hv99]; simp only [if_neg hc96, if_neg hc97, if_neg hc98]
          rw [qv99] at k
          show Steps p.tables e below (T84.setTop (mkF m 130 #[.val (.int i0), .val (.long i1), .second, .val (.int i2), .val (.long i3), .second, .val (.int i4), .val (.int v4), .val (.long v9), .second, .val (.ref b12), .val (.ref b37), .val (.int v75), .val (.int v81), .val (.int v87), .val (.int v92), .unset, .unset, .unset] [])) _
          refine XS.iconst X84.here hx rfl (hb hby at_130) ?_
          exact k)
  have P102 : own_Rch p.tables e below A0 (T84.setTop (mkF m 136 #[.val (.int i0), .val (.long i1), .second, .val (.int i2), .val (.long i3), .second, .val (.int i4), .val (.int v4), .val (.long v9), .second, .val (.ref b12), .val (.ref b37), .val (.int v75), .val (.int v81), .val (.int v87), .val (.int v92), .val (.int v99), .unset, .unset] [(.int i0), (.int v4)])) := fun t k => P100 t (by
    show Steps p.tables e below (T84.setTop (mkF m 131 #[.val (.int i0), .val (.long i1), .second, .val (.int i2), .val (.long i3), .second, .val (.int i4), .val (.int v4), .val (.long v9), .second, .val (.ref b12), .val (.ref b37), .val (.int v75), .val (.int v81), .val (.int v87), .val (.int v92), .unset, .unset, .unset] [(.int v99)])) _
    refine XS.istore X84.here hx rfl (hb hby at_131) rfl (l' := #[.val (.int i0), .val (.long i1), .second, .val (.int i2), .val (.long i3), .second, .val (.int i4), .val (.int v4), .val (.long v9), .second, .val (.ref b12), .val (.ref b37), .val (.int v75), .val (.int v81), .val (.int v87), .val (.int v92), .val (.int v99), .unset, .unset]) rfl ?_
    show Steps p.tables e below (T84.setTop (mkF m 133 #[.val (.int i0), .val (.long i1), .second, .val (.int i2), .val (.long i3), .second, .val (.int i4), .val (.int v4), .val (.long v9), .second, .val (.ref b12), .val (.ref b37), .val (.int v75), .val (.int v81), .val (.int v87), .val (.int v92), .val (.int v99), .unset, .unset] [])) _
    refine XS.iload X84.here hx rfl (hb hby at_133) rfl ?_
    show Steps p.tables e below (T84.setTop (mkF m 135 #[.val (.int i0), .val (.long i1), .second, .val (.int i2), .val (.long i3), .second, .val (.int i4), .val (.int v4), .val (.long v9), .second, .val (.ref b12), .val (.ref b37), .val (.int v75), .val (.int v81), .val (.int v87), .val (.int v92), .val (.int v99), .unset, .unset] [(.int v4)])) _
    refine XS.iloadN X84.here hx rfl (hb hby at_135) rfl ?_
    exact k)
  obtain ⟨v106, hv106⟩ : ∃ z : Int32, z = (if i0 < v4 then (1 : Int32) else (if v92 = (0 : Int32) then (0 : Int32) else (if i1 < v9 then (1 : Int32) else (0 : Int32)))) := ⟨_, rfl⟩
  have P107 : own_Rch p.tables e below A0 (T84.setTop (mkF m 156 #[.val (.int i0), .val (.long i1), .second, .val (.int i2), .val (.long i3), .second, .val (.int i4), .val (.int v4), .val (.long v9), .second, .val (.ref b12), .val (.ref b37), .val (.int v75), .val (.int v81), .val (.int v87), .val (.int v92), .val (.int v99), .unset, .unset] [(.int v106)])) := fun t k => P102 t (by
    by_cases hc103 : i0 < v4
    · show Steps p.tables e below (T84.setTop (mkF m 136 #[.val (.int i0), .val (.long i1), .second, .val (.int i2), .val (.long i3), .second, .val (.int i4), .val (.int v4), .val (.long v9), .second, .val (.ref b12), .val (.ref b37), .val (.int v75), .val (.int v81), .val (.int v87), .val (.int v92), .val (.int v99), .unset, .unset] [(.int i0), (.int v4)])) _
      refine XS.icmpYes X84.here hx rfl (pc0 := 136) (pc' := 151) rfl (hb hby at_136) rfl (tlt hc103).2.2.1 (by decide) (by decide) ?_
      have qv106 : v106 = (1 : Int32) := by rw [hv106]; simp only [if_pos hc103]
      rw [qv106] at k
      show Steps p.tables e below (T84.setTop (mkF m 151 #[.val (.int i0), .val (.long i1), .second, .val (.int i2), .val (.long i3), .second, .val (.int i4), .val (.int v4), .val (.long v9), .second, .val (.ref b12), .val (.ref b37), .val (.int v75), .val (.int v81), .val (.int v87), .val (.int v92), .val (.int v99), .unset, .unset] [])) _
      refine XS.iconst X84.here hx rfl (hb hby at_151) ?_
      show Steps p.tables e below (T84.setTop (mkF m 152 #[.val (.int i0), .val (.long i1), .second, .val (.int i2), .val (.long i3), .second, .val (.int i4), .val (.int v4), .val (.long v9), .second, .val (.ref b12), .val (.ref b37), .val (.int v75), .val (.int v81), .val (.int v87), .val (.int v92), .val (.int v99), .unset, .unset] [(.int (1 : Int32))])) _
      refine XS.goto X84.here hx rfl (pc0 := 152) (pc' := 156) rfl (hb hby at_152) (by decide) (by decide) ?_
      exact k
    · show Steps p.tables e below (T84.setTop (mkF m 136 #[.val (.int i0), .val (.long i1), .second, .val (.int i2), .val (.long i3), .second, .val (.int i4), .val (.int v4), .val (.long v9), .second, .val (.ref b12), .val (.ref b37), .val (.int v75), .val (.int v81), .val (.int v87), .val (.int v92), .val (.int v99), .unset, .unset] [(.int i0), (.int v4)])) _
      refine XS.icmpNo X84.here hx rfl (hb hby at_136) rfl (flt hc103).2.2.1 ?_
      show Steps p.tables e below (T84.setTop (mkF m 139 #[.val (.int i0), .val (.long i1), .second, .val (.int i2), .val (.long i3), .second, .val (.int i4), .val (.int v4), .val (.long v9), .second, .val (.ref b12), .val (.ref b37), .val (.int v75), .val (.int v81), .val (.int v87), .val (.int v92), .val (.int v99), .unset, .unset] [])) _
      refine XS.iload X84.here hx rfl (hb hby at_139) rfl ?_
      by_cases hc104 : v92 = (0 : Int32)
      · show Steps p.tables e below (T84.setTop (mkF m 141 #[.val (.int i0), .val (.long i1), .second, .val (.int i2), .val (.long i3), .second, .val (.int i4), .val (.int v4), .val (.long v9), .second, .val (.ref b12), .val (.ref b37), .val (.int v75), .val (.int v81), .val (.int v87), .val (.int v92), .val (.int v99), .unset, .unset] [(.int v92)])) _
        refine XS.ifYes X84.here hx rfl (pc0 := 141) (pc' := 155) rfl (hb hby at_141) rfl ((if0 _ _).trans (teq hc104).1) (by decide) (by decide) ?_
        have qv106 : v106 = (0 : Int32) := by rw [hv106]; simp only [if_neg hc103, if_pos hc104]
        rw [qv106] at k
        show Steps p.tables e below (T84.setTop (mkF m 155 #[.val (.int i0), .val (.long i1), .second, .val (.int i2), .val (.long i3), .second, .val (.int i4), .val (.int v4), .val (.long v9), .second, .val (.ref b12), .val (.ref b37), .val (.int v75), .val (.int v81), .val (.int v87), .val (.int v92), .val (.int v99), .unset, .unset] [])) _
        refine XS.iconst X84.here hx rfl (hb hby at_155) ?_
        exact k
      · show Steps p.tables e below (T84.setTop (mkF m 141 #[.val (.int i0), .val (.long i1), .second, .val (.int i2), .val (.long i3), .second, .val (.int i4), .val (.int v4), .val (.long v9), .second, .val (.ref b12), .val (.ref b37), .val (.int v75), .val (.int v81), .val (.int v87), .val (.int v92), .val (.int v99), .unset, .unset] [(.int v92)])) _
        refine XS.ifNo X84.here hx rfl (hb hby at_141) rfl ((if0 _ _).trans (feq hc104).1) ?_
        show Steps p.tables e below (T84.setTop (mkF m 144 #[.val (.int i0), .val (.long i1), .second, .val (.int i2), .val (.long i3), .second, .val (.int i4), .val (.int v4), .val (.long v9), .second, .val (.ref b12), .val (.ref b37), .val (.int v75), .val (.int v81), .val (.int v87), .val (.int v92), .val (.int v99), .unset, .unset] [])) _
        refine XS.lload X84.here hx rfl (hb hby at_144) rfl ?_
        show Steps p.tables e below (T84.setTop (mkF m 146 #[.val (.int i0), .val (.long i1), .second, .val (.int i2), .val (.long i3), .second, .val (.int i4), .val (.int v4), .val (.long v9), .second, .val (.ref b12), .val (.ref b37), .val (.int v75), .val (.int v81), .val (.int v87), .val (.int v92), .val (.int v99), .unset, .unset] [(.long v9)])) _
        refine XS.lloadN X84.here hx rfl (hb hby at_146) rfl ?_
        show Steps p.tables e below (T84.setTop (mkF m 147 #[.val (.int i0), .val (.long i1), .second, .val (.int i2), .val (.long i3), .second, .val (.int i4), .val (.int v4), .val (.long v9), .second, .val (.ref b12), .val (.ref b37), .val (.int v75), .val (.int v81), .val (.int v87), .val (.int v92), .val (.int v99), .unset, .unset] [(.long i1), (.long v9)])) _
        refine XS.lcmp X84.here hx rfl (hb hby at_147) rfl ?_
        by_cases hc105 : i1 < v9
        · show Steps p.tables e below (T84.setTop (mkF m 148 #[.val (.int i0), .val (.long i1), .second, .val (.int i2), .val (.long i3), .second, .val (.int i4), .val (.int v4), .val (.long v9), .second, .val (.ref b12), .val (.ref b37), .val (.int v75), .val (.int v81), .val (.int v87), .val (.int v92), .val (.int v99), .unset, .unset] [(.int (lcmpW v9 i1))])) _
          refine XS.ifNo X84.here hx rfl (hb hby at_148) rfl (own_lct2 hc105).2 ?_
          have qv106 : v106 = (1 : Int32) := by rw [hv106]; simp only [if_neg hc103, if_neg hc104, if_pos hc105]
          rw [qv106] at k
          show Steps p.tables e below (T84.setTop (mkF m 151 #[.val (.int i0), .val (.long i1), .second, .val (.int i2), .val (.long i3), .second, .val (.int i4), .val (.int v4), .val (.long v9), .second, .val (.ref b12), .val (.ref b37), .val (.int v75), .val (.int v81), .val (.int v87), .val (.int v92), .val (.int v99), .unset, .unset] [])) _
          refine XS.iconst X84.here hx rfl (hb hby at_151) ?_
          show Steps p.tables e below (T84.setTop (mkF m 152 #[.val (.int i0), .val (.long i1), .second, .val (.int i2), .val (.long i3), .second, .val (.int i4), .val (.int v4), .val (.long v9), .second, .val (.ref b12), .val (.ref b37), .val (.int v75), .val (.int v81), .val (.int v87), .val (.int v92), .val (.int v99), .unset, .unset] [(.int (1 : Int32))])) _
          refine XS.goto X84.here hx rfl (pc0 := 152) (pc' := 156) rfl (hb hby at_152) (by decide) (by decide) ?_
          exact k
        · show Steps p.tables e below (T84.setTop (mkF m 148 #[.val (.int i0), .val (.long i1), .second, .val (.int i2), .val (.long i3), .second, .val (.int i4), .val (.int v4), .val (.long v9), .second, .val (.ref b12), .val (.ref b37), .val (.int v75), .val (.int v81), .val (.int v87), .val (.int v92), .val (.int v99), .unset, .unset] [(.int (lcmpW v9 i1))])) _
          refine XS.ifYes X84.here hx rfl (pc0 := 148) (pc' := 155) rfl (hb hby at_148) rfl (own_lcf2 hc105).2 (by decide) (by decide) ?_
          have qv106 : v106 = (0 : Int32) := by rw [hv106]; simp only [if_neg hc103, if_neg hc104, if_neg hc105]
          rw [qv106] at k
          show Steps p.tables e below (T84.setTop (mkF m 155 #[.val (.int i0), .val (.long i1), .second, .val (.int i2), .val (.long i3), .second, .val (.int i4), .val (.int v4), .val (.long v9), .second, .val (.ref b12), .val (.ref b37), .val (.int v75), .val (.int v81), .val (.int v87), .val (.int v92), .val (.int v99), .unset, .unset] [])) _
          refine XS.iconst X84.here hx rfl (hb hby at_155) ?_
          exact k)
  have P109 : own_Rch p.tables e below A0 (T84.setTop (mkF m 160 #[.val (.int i0), .val (.long i1), .second, .val (.int i2), .val (.long i3), .second, .val (.int i4), .val (.int v4), .val (.long v9), .second, .val (.ref b12), .val (.ref b37), .val (.int v75), .val (.int v81), .val (.int v87), .val (.int v92), .val (.int v99), .val (.int v106), .unset] [(.int v92)])) := fun t k => P107 t (by
    show Steps p.tables e below (T84.setTop (mkF m 156 #[.val (.int i0), .val (.long i1), .second, .val (.int i2), .val (.long i3), .second, .val (.int i4), .val (.int v4), .val (.long v9), .second, .val (.ref b12), .val (.ref b37), .val (.int v75), .val (.int v81), .val (.int v87), .val (.int v92), .val (.int v99), .unset, .unset] [(.int v106)])) _
    refine XS.istore X84.here hx rfl (hb hby at_156) rfl (l' := #[.val (.int i0), .val (.long i1), .second, .val (.int i2), .val (.long i3), .second, .val (.int i4), .val (.int v4), .val (.long v9), .second, .val (.ref b12), .val (.ref b37), .val (.int v75), .val (.int v81), .val (.int v87), .val (.int v92), .val (.int v99), .val (.int v106), .unset]) rfl ?_
    show Steps p.tables e below (T84.setTop (mkF m 158 #[.val (.int i0), .val (.long i1), .second, .val (.int i2), .val (.long i3), .second, .val (.int i4), .val (.int v4), .val (.long v9), .second, .val (.ref b12), .val (.ref b37), .val (.int v75), .val (.int v81), .val (.int v87), .val (.int v92), .val (.int v99), .val (.int v106), .unset] [])) _
    refine XS.iload X84.here hx rfl (hb hby at_158) rfl ?_
    exact k)
  obtain ⟨v112, hv112⟩ : ∃ z : Int32, z = (if v92 = (0 : Int32) then (0 : Int32) else (if i1 = v9 then (1 : Int32) else (0 : Int32))) := ⟨_, rfl⟩
  have P113 : own_Rch p.tables e below A0 (T84.setTop (mkF m 175 #[.val (.int i0), .val (.long i1), .second, .val (.int i2), .val (.long i3), .second, .val (.int i4), .val (.int v4), .val (.long v9), .second, .val (.ref b12), .val (.ref b37), .val (.int v75), .val (.int v81), .val (.int v87), .val (.int v92), .val (.int v99), .val (.int v106), .unset] [(.int v112)])) := fun t k => P109 t (by
    by_cases hc110 : v92 = (0 : Int32)
    · show Steps p.tables e below (T84.setTop (mkF m 160 #[.val (.int i0), .val (.long i1), .second, .val (.int i2), .val (.long i3), .second, .val (.int i4), .val (.int v4), .val (.long v9), .second, .val (.ref b12), .val (.ref b37), .val (.int v75), .val (.int v81), .val (.int v87), .val (.int v92), .val (.int v99), .val (.int v106), .unset] [(.int v92)])) _
      refine XS.ifYes X84.here hx rfl (pc0 := 160) (pc' := 174) rfl (hb hby at_160) rfl ((if0 _ _).trans (teq hc110).1) (by decide) (by decide) ?_
      have qv112 : v112 = (0 : Int32) := by rw [hv112]; simp only [if_pos hc110]
      rw [qv112] at k
      show Steps p.tables e below (T84.setTop (mkF m 174 #[.val (.int i0), .val (.long i1), .second, .val (.int i2), .val (.long i3), .second, .val (.int i4), .val (.int v4), .val (.long v9), .second, .val (.ref b12), .val (.ref b37), .val (.int v75), .val (.int v81), .val (.int v87), .val (.int v92), .val (.int v99), .val (.int v106), .unset] [])) _
      refine XS.iconst X84.here hx rfl (hb hby at_174) ?_
      exact k
    · show Steps p.tables e below (T84.setTop (mkF m 160 #[.val (.int i0), .val (.long i1), .second, .val (.int i2), .val (.long i3), .second, .val (.int i4), .val (.int v4), .val (.long v9), .second, .val (.ref b12), .val (.ref b37), .val (.int v75), .val (.int v81), .val (.int v87), .val (.int v92), .val (.int v99), .val (.int v106), .unset] [(.int v92)])) _
      refine XS.ifNo X84.here hx rfl (hb hby at_160) rfl ((if0 _ _).trans (feq hc110).1) ?_
      show Steps p.tables e below (T84.setTop (mkF m 163 #[.val (.int i0), .val (.long i1), .second, .val (.int i2), .val (.long i3), .second, .val (.int i4), .val (.int v4), .val (.long v9), .second, .val (.ref b12), .val (.ref b37), .val (.int v75), .val (.int v81), .val (.int v87), .val (.int v92), .val (.int v99), .val (.int v106), .unset] [])) _
      refine XS.lloadN X84.here hx rfl (hb hby at_163) rfl ?_
      show Steps p.tables e below (T84.setTop (mkF m 164 #[.val (.int i0), .val (.long i1), .second, .val (.int i2), .val (.long i3), .second, .val (.int i4), .val (.int v4), .val (.long v9), .second, .val (.ref b12), .val (.ref b37), .val (.int v75), .val (.int v81), .val (.int v87), .val (.int v92), .val (.int v99), .val (.int v106), .unset] [(.long i1)])) _
      refine XS.lload X84.here hx rfl (hb hby at_164) rfl ?_
      show Steps p.tables e below (T84.setTop (mkF m 166 #[.val (.int i0), .val (.long i1), .second, .val (.int i2), .val (.long i3), .second, .val (.int i4), .val (.int v4), .val (.long v9), .second, .val (.ref b12), .val (.ref b37), .val (.int v75), .val (.int v81), .val (.int v87), .val (.int v92), .val (.int v99), .val (.int v106), .unset] [(.long v9), (.long i1)])) _
      refine XS.lcmp X84.here hx rfl (hb hby at_166) rfl ?_
      by_cases hc111 : i1 = v9
      · show Steps p.tables e below (T84.setTop (mkF m 167 #[.val (.int i0), .val (.long i1), .second, .val (.int i2), .val (.long i3), .second, .val (.int i4), .val (.int v4), .val (.long v9), .second, .val (.ref b12), .val (.ref b37), .val (.int v75), .val (.int v81), .val (.int v87), .val (.int v92), .val (.int v99), .val (.int v106), .unset] [(.int (lcmpW i1 v9))])) _
        refine XS.ifNo X84.here hx rfl (hb hby at_167) rfl (own_lct3 hc111).2 ?_
        have qv112 : v112 = (1 : Int32) := by rw [hv112]; simp only [if_neg hc110, if_pos hc111]
        rw [qv112] at k
        show Steps p.tables e below (T84.setTop (mkF m 170 #[.val (.int i0), .val (.long i1), .second, .val (.int i2), .val (.long i3), .second, .val (.int i4), .val (.int v4), .val (.long v9), .second, .val (.ref b12), .val (.ref b37), .val (.int v75), .val (.int v81), .val (.int v87), .val (.int v92), .val (.int v99), .val (.int v106), .unset] [])) _
        refine XS.iconst X84.here hx rfl (hb hby at_170) ?_
        show Steps p.tables e below (T84.setTop (mkF m 171 #[.val (.int i0), .val (.long i1), .second, .val (.int i2), .val (.long i3), .second, .val (.int i4), .val (.int v4), .val (.long v9), .second, .val (.ref b12), .val (.ref b37), .val (.int v75), .val (.int v81), .val (.int v87), .val (.int v92), .val (.int v99), .val (.int v106), .unset] [(.int (1 : Int32))])) _
        refine XS.goto X84.here hx rfl (pc0 := 171) (pc' := 175) rfl (hb hby at_171) (by decide) (by decide) ?_
        exact k
      · show Steps p.tables e below (T84.setTop (mkF m 167 #[.val (.int i0), .val (.long i1), .second, .val (.int i2), .val (.long i3), .second, .val (.int i4), .val (.int v4), .val (.long v9), .second, .val (.ref b12), .val (.ref b37), .val (.int v75), .val (.int v81), .val (.int v87), .val (.int v92), .val (.int v99), .val (.int v106), .unset] [(.int (lcmpW i1 v9))])) _
        refine XS.ifYes X84.here hx rfl (pc0 := 167) (pc' := 174) rfl (hb hby at_167) rfl (own_lcf3 hc111).2 (by decide) (by decide) ?_
        have qv112 : v112 = (0 : Int32) := by rw [hv112]; simp only [if_neg hc110, if_neg hc111]
        rw [qv112] at k
        show Steps p.tables e below (T84.setTop (mkF m 174 #[.val (.int i0), .val (.long i1), .second, .val (.int i2), .val (.long i3), .second, .val (.int i4), .val (.int v4), .val (.long v9), .second, .val (.ref b12), .val (.ref b37), .val (.int v75), .val (.int v81), .val (.int v87), .val (.int v92), .val (.int v99), .val (.int v106), .unset] [])) _
        refine XS.iconst X84.here hx rfl (hb hby at_174) ?_
        exact k)
  have P115 : own_Rch p.tables e below A0 (T84.setTop (mkF m 181 #[.val (.int i0), .val (.long i1), .second, .val (.int i2), .val (.long i3), .second, .val (.int i4), .val (.int v4), .val (.long v9), .second, .val (.ref b12), .val (.ref b37), .val (.int v75), .val (.int v81), .val (.int v87), .val (.int v92), .val (.int v99), .val (.int v106), .val (.int v112)] [(.int v99), (.int v75)])) := fun t k => P113 t (by
    show Steps p.tables e below (T84.setTop (mkF m 175 #[.val (.int i0), .val (.long i1), .second, .val (.int i2), .val (.long i3), .second, .val (.int i4), .val (.int v4), .val (.long v9), .second, .val (.ref b12), .val (.ref b37), .val (.int v75), .val (.int v81), .val (.int v87), .val (.int v92), .val (.int v99), .val (.int v106), .unset] [(.int v112)])) _
    refine XS.istore X84.here hx rfl (hb hby at_175) rfl (l' := #[.val (.int i0), .val (.long i1), .second, .val (.int i2), .val (.long i3), .second, .val (.int i4), .val (.int v4), .val (.long v9), .second, .val (.ref b12), .val (.ref b37), .val (.int v75), .val (.int v81), .val (.int v87), .val (.int v92), .val (.int v99), .val (.int v106), .val (.int v112)]) rfl ?_
    show Steps p.tables e below (T84.setTop (mkF m 177 #[.val (.int i0), .val (.long i1), .second, .val (.int i2), .val (.long i3), .second, .val (.int i4), .val (.int v4), .val (.long v9), .second, .val (.ref b12), .val (.ref b37), .val (.int v75), .val (.int v81), .val (.int v87), .val (.int v92), .val (.int v99), .val (.int v106), .val (.int v112)] [])) _
    refine XS.iload X84.here hx rfl (hb hby at_177) rfl ?_
    show Steps p.tables e below (T84.setTop (mkF m 179 #[.val (.int i0), .val (.long i1), .second, .val (.int i2), .val (.long i3), .second, .val (.int i4), .val (.int v4), .val (.long v9), .second, .val (.ref b12), .val (.ref b37), .val (.int v75), .val (.int v81), .val (.int v87), .val (.int v92), .val (.int v99), .val (.int v106), .val (.int v112)] [(.int v75)])) _
    refine XS.iload X84.here hx rfl (hb hby at_179) rfl ?_
    exact k)
  by_cases hc114 : v75 = v99
  · -- v75 = v99
    have P117 : own_Rch p.tables e below A0 (T84.setTop (mkF m 188 #[.val (.int i0), .val (.long i1), .second, .val (.int i2), .val (.long i3), .second, .val (.int i4), .val (.int v4), .val (.long v9), .second, .val (.ref b12), .val (.ref b37), .val (.int v75), .val (.int v81), .val (.int v87), .val (.int v92), .val (.int v99), .val (.int v106), .val (.int v112)] [(.int v106), (.int v81)])) := fun t k => P115 t (by
      show Steps p.tables e below (T84.setTop (mkF m 181 #[.val (.int i0), .val (.long i1), .second, .val (.int i2), .val (.long i3), .second, .val (.int i4), .val (.int v4), .val (.long v9), .second, .val (.ref b12), .val (.ref b37), .val (.int v75), .val (.int v81), .val (.int v87), .val (.int v92), .val (.int v99), .val (.int v106), .val (.int v112)] [(.int v99), (.int v75)])) _
      refine XS.icmpNo X84.here hx rfl (hb hby at_181) rfl (teq hc114).2 ?_
      show Steps p.tables e below (T84.setTop (mkF m 184 #[.val (.int i0), .val (.long i1), .second, .val (.int i2), .val (.long i3), .second, .val (.int i4), .val (.int v4), .val (.long v9), .second, .val (.ref b12), .val (.ref b37), .val (.int v75), .val (.int v81), .val (.int v87), .val (.int v92), .val (.int v99), .val (.int v106), .val (.int v112)] [])) _
      refine XS.iload X84.here hx rfl (hb hby at_184) rfl ?_
      show Steps p.tables e below (T84.setTop (mkF m 186 #[.val (.int i0), .val (.long i1), .second, .val (.int i2), .val (.long i3), .second, .val (.int i4), .val (.int v4), .val (.long v9), .second, .val (.ref b12), .val (.ref b37), .val (.int v75), .val (.int v81), .val (.int v87), .val (.int v92), .val (.int v99), .val (.int v106), .val (.int v112)] [(.int v81)])) _
      refine XS.iload X84.here hx rfl (hb hby at_186) rfl ?_
      exact k)
    by_cases hc116 : v81 = v106
    · -- v81 = v106
      have P119 : own_Rch p.tables e below A0 (T84.setTop (mkF m 193 #[.val (.int i0), .val (.long i1), .second, .val (.int i2), .val (.long i3), .second, .val (.int i4), .val (.int v4), .val (.long v9), .second, .val (.ref b12), .val (.ref b37), .val (.int v75), .val (.int v81), .val (.int v87), .val (.int v92), .val (.int v99), .val (.int v106), .val (.int v112)] [(.int v87)])) := fun t k => P117 t (by
        show Steps p.tables e below (T84.setTop (mkF m 188 #[.val (.int i0), .val (.long i1), .second, .val (.int i2), .val (.long i3), .second, .val (.int i4), .val (.int v4), .val (.long v9), .second, .val (.ref b12), .val (.ref b37), .val (.int v75), .val (.int v81), .val (.int v87), .val (.int v92), .val (.int v99), .val (.int v106), .val (.int v112)] [(.int v106), (.int v81)])) _
        refine XS.icmpNo X84.here hx rfl (hb hby at_188) rfl (teq hc116).2 ?_
        show Steps p.tables e below (T84.setTop (mkF m 191 #[.val (.int i0), .val (.long i1), .second, .val (.int i2), .val (.long i3), .second, .val (.int i4), .val (.int v4), .val (.long v9), .second, .val (.ref b12), .val (.ref b37), .val (.int v75), .val (.int v81), .val (.int v87), .val (.int v92), .val (.int v99), .val (.int v106), .val (.int v112)] [])) _
        refine XS.iload X84.here hx rfl (hb hby at_191) rfl ?_
        exact k)
      by_cases hc118 : v87 = (0 : Int32)
      · -- v87 = (0 : Int32)
        have P121 : own_Rch p.tables e below A0 (T84.setTop (mkF m 198 #[.val (.int i0), .val (.long i1), .second, .val (.int i2), .val (.long i3), .second, .val (.int i4), .val (.int v4), .val (.long v9), .second, .val (.ref b12), .val (.ref b37), .val (.int v75), .val (.int v81), .val (.int v87), .val (.int v92), .val (.int v99), .val (.int v106), .val (.int v112)] [(.int v75)])) := fun t k => P119 t (by
          show Steps p.tables e below (T84.setTop (mkF m 193 #[.val (.int i0), .val (.long i1), .second, .val (.int i2), .val (.long i3), .second, .val (.int i4), .val (.int v4), .val (.long v9), .second, .val (.ref b12), .val (.ref b37), .val (.int v75), .val (.int v81), .val (.int v87), .val (.int v92), .val (.int v99), .val (.int v106), .val (.int v112)] [(.int v87)])) _
          refine XS.ifNo X84.here hx rfl (hb hby at_193) rfl ((if0 _ _).trans (teq hc118).2) ?_
          show Steps p.tables e below (T84.setTop (mkF m 196 #[.val (.int i0), .val (.long i1), .second, .val (.int i2), .val (.long i3), .second, .val (.int i4), .val (.int v4), .val (.long v9), .second, .val (.ref b12), .val (.ref b37), .val (.int v75), .val (.int v81), .val (.int v87), .val (.int v92), .val (.int v99), .val (.int v106), .val (.int v112)] [])) _
          refine XS.iload X84.here hx rfl (hb hby at_196) rfl ?_
          exact k)
        by_cases hc120 : v75 = (0 : Int32)
        · -- v75 = (0 : Int32)
          have P123 : own_Rch p.tables e below A0 (T84.setTop (mkF m 213 #[.val (.int i0), .val (.long i1), .second, .val (.int i2), .val (.long i3), .second, .val (.int i4), .val (.int v4), .val (.long v9), .second, .val (.ref b12), .val (.ref b37), .val (.int v75), .val (.int v81), .val (.int v87), .val (.int v92), .val (.int v99), .val (.int v106), .val (.int v112)] [(.int v81)])) := fun t k => P121 t (by
            show Steps p.tables e below (T84.setTop (mkF m 198 #[.val (.int i0), .val (.long i1), .second, .val (.int i2), .val (.long i3), .second, .val (.int i4), .val (.int v4), .val (.long v9), .second, .val (.ref b12), .val (.ref b37), .val (.int v75), .val (.int v81), .val (.int v87), .val (.int v92), .val (.int v99), .val (.int v106), .val (.int v112)] [(.int v75)])) _
            refine XS.ifYes X84.here hx rfl (pc0 := 198) (pc' := 206) rfl (hb hby at_198) rfl ((if0 _ _).trans (teq hc120).1) (by decide) (by decide) ?_
            show Steps p.tables e below (T84.setTop (mkF m 206 #[.val (.int i0), .val (.long i1), .second, .val (.int i2), .val (.long i3), .second, .val (.int i4), .val (.int v4), .val (.long v9), .second, .val (.ref b12), .val (.ref b37), .val (.int v75), .val (.int v81), .val (.int v87), .val (.int v92), .val (.int v99), .val (.int v106), .val (.int v112)] [])) _
            refine XS.iload X84.here hx rfl (hb hby at_206) rfl ?_
            show Steps p.tables e below (T84.setTop (mkF m 208 #[.val (.int i0), .val (.long i1), .second, .val (.int i2), .val (.long i3), .second, .val (.int i4), .val (.int v4), .val (.long v9), .second, .val (.ref b12), .val (.ref b37), .val (.int v75), .val (.int v81), .val (.int v87), .val (.int v92), .val (.int v99), .val (.int v106), .val (.int v112)] [(.int v75)])) _
            refine XS.ifNo X84.here hx rfl (hb hby at_208) rfl ((if0 _ _).trans (teq hc120).2) ?_
            show Steps p.tables e below (T84.setTop (mkF m 211 #[.val (.int i0), .val (.long i1), .second, .val (.int i2), .val (.long i3), .second, .val (.int i4), .val (.int v4), .val (.long v9), .second, .val (.ref b12), .val (.ref b37), .val (.int v75), .val (.int v81), .val (.int v87), .val (.int v92), .val (.int v99), .val (.int v106), .val (.int v112)] [])) _
            refine XS.iload X84.here hx rfl (hb hby at_211) rfl ?_
            exact k)
          by_cases hc122 : v81 = (0 : Int32)
          · -- v81 = (0 : Int32)
            have P125 : own_Rch p.tables e below A0 (T84.setTop (mkF m 218 #[.val (.int i0), .val (.long i1), .second, .val (.int i2), .val (.long i3), .second, .val (.int i4), .val (.int v4), .val (.long v9), .second, .val (.ref b12), .val (.ref b37), .val (.int v75), .val (.int v81), .val (.int v87), .val (.int v92), .val (.int v99), .val (.int v106), .val (.int v112)] [(.int v112)])) := fun t k => P123 t (by
              show Steps p.tables e below (T84.setTop (mkF m 213 #[.val (.int i0), .val (.long i1), .second, .val (.int i2), .val (.long i3), .second, .val (.int i4), .val (.int v4), .val (.long v9), .second, .val (.ref b12), .val (.ref b37), .val (.int v75), .val (.int v81), .val (.int v87), .val (.int v92), .val (.int v99), .val (.int v106), .val (.int v112)] [(.int v81)])) _
              refine XS.ifNo X84.here hx rfl (hb hby at_213) rfl ((if0 _ _).trans (teq hc122).2) ?_
              show Steps p.tables e below (T84.setTop (mkF m 216 #[.val (.int i0), .val (.long i1), .second, .val (.int i2), .val (.long i3), .second, .val (.int i4), .val (.int v4), .val (.long v9), .second, .val (.ref b12), .val (.ref b37), .val (.int v75), .val (.int v81), .val (.int v87), .val (.int v92), .val (.int v99), .val (.int v106), .val (.int v112)] [])) _
              refine XS.iload X84.here hx rfl (hb hby at_216) rfl ?_
              exact k)
            by_cases hc124 : v112 = (0 : Int32)
            · -- v112 = (0 : Int32)
              have P126 : own_Rch p.tables e below A0 (T84.setTop (mkF m 226 #[.val (.int i0), .val (.long i1), .second, .val (.int i2), .val (.long i3), .second, .val (.int i4), .val (.int v4), .val (.long v9), .second, .val (.ref b12), .val (.ref b37), .val (.int v75), .val (.int v81), .val (.int v87), .val (.int v92), .val (.int v99), .val (.int v106), .val (.int v112)] [(.int (0 : Int32))])) := fun t k => P125 t (by
                show Steps p.tables e below (T84.setTop (mkF m 218 #[.val (.int i0), .val (.long i1), .second, .val (.int i2), .val (.long i3), .second, .val (.int i4), .val (.int v4), .val (.long v9), .second, .val (.ref b12), .val (.ref b37), .val (.int v75), .val (.int v81), .val (.int v87), .val (.int v92), .val (.int v99), .val (.int v106), .val (.int v112)] [(.int v112)])) _
                refine XS.ifYes X84.here hx rfl (pc0 := 218) (pc' := 225) rfl (hb hby at_218) rfl ((if0 _ _).trans (teq hc124).1) (by decide) (by decide) ?_
                show Steps p.tables e below (T84.setTop (mkF m 225 #[.val (.int i0), .val (.long i1), .second, .val (.int i2), .val (.long i3), .second, .val (.int i4), .val (.int v4), .val (.long v9), .second, .val (.ref b12), .val (.ref b37), .val (.int v75), .val (.int v81), .val (.int v87), .val (.int v92), .val (.int v99), .val (.int v106), .val (.int v112)] [])) _
                refine XS.iconst X84.here hx rfl (hb hby at_225) ?_
                exact k)
              obtain ⟨fs, hr, hrun, hended, hEnd⟩ := X84.leaveW hS50 (by rw [e84]; exact Zk_69) (v := some (.int (nar .boolean (0 : Int32)))) (fun h => by rw [Bd.returns] at h; cases h)
              refine ⟨_, _, P00 _ (P126 _ ?_), hrun, hended, _, _, rfl, ?_, hEnd.1, hEnd.2.1, hEnd.2.2.1, hEnd.2.2.2.mono (by decide) (by decide)⟩
              · exact retN X84 hx (t := .boolean) Bd.returns (by simp) (hb hby at_226) hr
              · show Q0 Z i0 i1 i2 i3 i4 h0 n0 _ T84.heap _
                rw [e84]
                refine ⟨?_, N84⟩
                subst hv112 hv106 hv99 hv92 hv87 hv81 hv75
                first | exact absurd (own_1 _ _ _ _) hc124 | exact absurd (own_2 _ _ _ _) hc124 | exact absurd (own_3 _ _) hc124 | exact absurd hc124 (own_5 _ _ _ _ hc120 hc122) | exact absurd (own_4 _ _ _ _) (fun q => q.elim hc122 hc124)
            · -- not v112 = (0 : Int32)
              have P127 : own_Rch p.tables e below A0 (T84.setTop (mkF m 226 #[.val (.int i0), .val (.long i1), .second, .val (.int i2), .val (.long i3), .second, .val (.int i4), .val (.int v4), .val (.long v9), .second, .val (.ref b12), .val (.ref b37), .val (.int v75), .val (.int v81), .val (.int v87), .val (.int v92), .val (.int v99), .val (.int v106), .val (.int v112)] [(.int (1 : Int32))])) := fun t k => P125 t (by
                show Steps p.tables e below (T84.setTop (mkF m 218 #[.val (.int i0), .val (.long i1), .second, .val (.int i2), .val (.long i3), .second, .val (.int i4), .val (.int v4), .val (.long v9), .second, .val (.ref b12), .val (.ref b37), .val (.int v75), .val (.int v81), .val (.int v87), .val (.int v92), .val (.int v99), .val (.int v106), .val (.int v112)] [(.int v112)])) _
                refine XS.ifNo X84.here hx rfl (hb hby at_218) rfl ((if0 _ _).trans (feq hc124).1) ?_
                show Steps p.tables e below (T84.setTop (mkF m 221 #[.val (.int i0), .val (.long i1), .second, .val (.int i2), .val (.long i3), .second, .val (.int i4), .val (.int v4), .val (.long v9), .second, .val (.ref b12), .val (.ref b37), .val (.int v75), .val (.int v81), .val (.int v87), .val (.int v92), .val (.int v99), .val (.int v106), .val (.int v112)] [])) _
                refine XS.iconst X84.here hx rfl (hb hby at_221) ?_
                show Steps p.tables e below (T84.setTop (mkF m 222 #[.val (.int i0), .val (.long i1), .second, .val (.int i2), .val (.long i3), .second, .val (.int i4), .val (.int v4), .val (.long v9), .second, .val (.ref b12), .val (.ref b37), .val (.int v75), .val (.int v81), .val (.int v87), .val (.int v92), .val (.int v99), .val (.int v106), .val (.int v112)] [(.int (1 : Int32))])) _
                refine XS.goto X84.here hx rfl (pc0 := 222) (pc' := 226) rfl (hb hby at_222) (by decide) (by decide) ?_
                exact k)
              obtain ⟨fs, hr, hrun, hended, hEnd⟩ := X84.leaveW hS50 (by rw [e84]; exact Zk_69) (v := some (.int (nar .boolean (1 : Int32)))) (fun h => by rw [Bd.returns] at h; cases h)
              refine ⟨_, _, P00 _ (P127 _ ?_), hrun, hended, _, _, rfl, ?_, hEnd.1, hEnd.2.1, hEnd.2.2.1, hEnd.2.2.2.mono (by decide) (by decide)⟩
              · exact retN X84 hx (t := .boolean) Bd.returns (by simp) (hb hby at_226) hr
              · show Q0 Z i0 i1 i2 i3 i4 h0 n0 _ T84.heap _
                rw [e84]
                refine ⟨?_, N84⟩
                rfl
          · -- not v81 = (0 : Int32)
            have P128 : own_Rch p.tables e below A0 (T84.setTop (mkF m 226 #[.val (.int i0), .val (.long i1), .second, .val (.int i2), .val (.long i3), .second, .val (.int i4), .val (.int v4), .val (.long v9), .second, .val (.ref b12), .val (.ref b37), .val (.int v75), .val (.int v81), .val (.int v87), .val (.int v92), .val (.int v99), .val (.int v106), .val (.int v112)] [(.int (1 : Int32))])) := fun t k => P123 t (by
              show Steps p.tables e below (T84.setTop (mkF m 213 #[.val (.int i0), .val (.long i1), .second, .val (.int i2), .val (.long i3), .second, .val (.int i4), .val (.int v4), .val (.long v9), .second, .val (.ref b12), .val (.ref b37), .val (.int v75), .val (.int v81), .val (.int v87), .val (.int v92), .val (.int v99), .val (.int v106), .val (.int v112)] [(.int v81)])) _
              refine XS.ifYes X84.here hx rfl (pc0 := 213) (pc' := 221) rfl (hb hby at_213) rfl ((if0 _ _).trans (feq hc122).2) (by decide) (by decide) ?_
              show Steps p.tables e below (T84.setTop (mkF m 221 #[.val (.int i0), .val (.long i1), .second, .val (.int i2), .val (.long i3), .second, .val (.int i4), .val (.int v4), .val (.long v9), .second, .val (.ref b12), .val (.ref b37), .val (.int v75), .val (.int v81), .val (.int v87), .val (.int v92), .val (.int v99), .val (.int v106), .val (.int v112)] [])) _
              refine XS.iconst X84.here hx rfl (hb hby at_221) ?_
              show Steps p.tables e below (T84.setTop (mkF m 222 #[.val (.int i0), .val (.long i1), .second, .val (.int i2), .val (.long i3), .second, .val (.int i4), .val (.int v4), .val (.long v9), .second, .val (.ref b12), .val (.ref b37), .val (.int v75), .val (.int v81), .val (.int v87), .val (.int v92), .val (.int v99), .val (.int v106), .val (.int v112)] [(.int (1 : Int32))])) _
              refine XS.goto X84.here hx rfl (pc0 := 222) (pc' := 226) rfl (hb hby at_222) (by decide) (by decide) ?_
              exact k)
            obtain ⟨fs, hr, hrun, hended, hEnd⟩ := X84.leaveW hS50 (by rw [e84]; exact Zk_69) (v := some (.int (nar .boolean (1 : Int32)))) (fun h => by rw [Bd.returns] at h; cases h)
            refine ⟨_, _, P00 _ (P128 _ ?_), hrun, hended, _, _, rfl, ?_, hEnd.1, hEnd.2.1, hEnd.2.2.1, hEnd.2.2.2.mono (by decide) (by decide)⟩
            · exact retN X84 hx (t := .boolean) Bd.returns (by simp) (hb hby at_226) hr
            · show Q0 Z i0 i1 i2 i3 i4 h0 n0 _ T84.heap _
              rw [e84]
              refine ⟨?_, N84⟩
              rfl
        · -- not v75 = (0 : Int32)
          have P130 : own_Rch p.tables e below A0 (T84.setTop (mkF m 203 #[.val (.int i0), .val (.long i1), .second, .val (.int i2), .val (.long i3), .second, .val (.int i4), .val (.int v4), .val (.long v9), .second, .val (.ref b12), .val (.ref b37), .val (.int v75), .val (.int v81), .val (.int v87), .val (.int v92), .val (.int v99), .val (.int v106), .val (.int v112)] [(.int v81)])) := fun t k => P121 t (by
            show Steps p.tables e below (T84.setTop (mkF m 198 #[.val (.int i0), .val (.long i1), .second, .val (.int i2), .val (.long i3), .second, .val (.int i4), .val (.int v4), .val (.long v9), .second, .val (.ref b12), .val (.ref b37), .val (.int v75), .val (.int v81), .val (.int v87), .val (.int v92), .val (.int v99), .val (.int v106), .val (.int v112)] [(.int v75)])) _
            refine XS.ifNo X84.here hx rfl (hb hby at_198) rfl ((if0 _ _).trans (feq hc120).1) ?_
            show Steps p.tables e below (T84.setTop (mkF m 201 #[.val (.int i0), .val (.long i1), .second, .val (.int i2), .val (.long i3), .second, .val (.int i4), .val (.int v4), .val (.long v9), .second, .val (.ref b12), .val (.ref b37), .val (.int v75), .val (.int v81), .val (.int v87), .val (.int v92), .val (.int v99), .val (.int v106), .val (.int v112)] [])) _
            refine XS.iload X84.here hx rfl (hb hby at_201) rfl ?_
            exact k)
          by_cases hc129 : v81 = (0 : Int32)
          · -- v81 = (0 : Int32)
            have P131 : own_Rch p.tables e below A0 (T84.setTop (mkF m 226 #[.val (.int i0), .val (.long i1), .second, .val (.int i2), .val (.long i3), .second, .val (.int i4), .val (.int v4), .val (.long v9), .second, .val (.ref b12), .val (.ref b37), .val (.int v75), .val (.int v81), .val (.int v87), .val (.int v92), .val (.int v99), .val (.int v106), .val (.int v112)] [(.int (1 : Int32))])) := fun t k => P130 t (by
              show Steps p.tables e below (T84.setTop (mkF m 203 #[.val (.int i0), .val (.long i1), .second, .val (.int i2), .val (.long i3), .second, .val (.int i4), .val (.int v4), .val (.long v9), .second, .val (.ref b12), .val (.ref b37), .val (.int v75), .val (.int v81), .val (.int v87), .val (.int v92), .val (.int v99), .val (.int v106), .val (.int v112)] [(.int v81)])) _
              refine XS.ifNo X84.here hx rfl (hb hby at_203) rfl ((if0 _ _).trans (teq hc129).2) ?_
              show Steps p.tables e below (T84.setTop (mkF m 206 #[.val (.int i0), .val (.long i1), .second, .val (.int i2), .val (.long i3), .second, .val (.int i4), .val (.int v4), .val (.long v9), .second, .val (.ref b12), .val (.ref b37), .val (.int v75), .val (.int v81), .val (.int v87), .val (.int v92), .val (.int v99), .val (.int v106), .val (.int v112)] [])) _
              refine XS.iload X84.here hx rfl (hb hby at_206) rfl ?_
              show Steps p.tables e below (T84.setTop (mkF m 208 #[.val (.int i0), .val (.long i1), .second, .val (.int i2), .val (.long i3), .second, .val (.int i4), .val (.int v4), .val (.long v9), .second, .val (.ref b12), .val (.ref b37), .val (.int v75), .val (.int v81), .val (.int v87), .val (.int v92), .val (.int v99), .val (.int v106), .val (.int v112)] [(.int v75)])) _
              refine XS.ifYes X84.here hx rfl (pc0 := 208) (pc' := 221) rfl (hb hby at_208) rfl ((if0 _ _).trans (feq hc120).2) (by decide) (by decide) ?_
              show Steps p.tables e below (T84.setTop (mkF m 221 #[.val (.int i0), .val (.long i1), .second, .val (.int i2), .val (.long i3), .second, .val (.int i4), .val (.int v4), .val (.long v9), .second, .val (.ref b12), .val (.ref b37), .val (.int v75), .val (.int v81), .val (.int v87), .val (.int v92), .val (.int v99), .val (.int v106), .val (.int v112)] [])) _
              refine XS.iconst X84.here hx rfl (hb hby at_221) ?_
              show Steps p.tables e below (T84.setTop (mkF m 222 #[.val (.int i0), .val (.long i1), .second, .val (.int i2), .val (.long i3), .second, .val (.int i4), .val (.int v4), .val (.long v9), .second, .val (.ref b12), .val (.ref b37), .val (.int v75), .val (.int v81), .val (.int v87), .val (.int v92), .val (.int v99), .val (.int v106), .val (.int v112)] [(.int (1 : Int32))])) _
              refine XS.goto X84.here hx rfl (pc0 := 222) (pc' := 226) rfl (hb hby at_222) (by decide) (by decide) ?_
              exact k)
            obtain ⟨fs, hr, hrun, hended, hEnd⟩ := X84.leaveW hS50 (by rw [e84]; exact Zk_69) (v := some (.int (nar .boolean (1 : Int32)))) (fun h => by rw [Bd.returns] at h; cases h)
            refine ⟨_, _, P00 _ (P131 _ ?_), hrun, hended, _, _, rfl, ?_, hEnd.1, hEnd.2.1, hEnd.2.2.1, hEnd.2.2.2.mono (by decide) (by decide)⟩
            · exact retN X84 hx (t := .boolean) Bd.returns (by simp) (hb hby at_226) hr
            · show Q0 Z i0 i1 i2 i3 i4 h0 n0 _ T84.heap _
              rw [e84]
              refine ⟨?_, N84⟩
              rfl
          · -- not v81 = (0 : Int32)
            have P132 : own_Rch p.tables e below A0 (T84.setTop (mkF m 226 #[.val (.int i0), .val (.long i1), .second, .val (.int i2), .val (.long i3), .second, .val (.int i4), .val (.int v4), .val (.long v9), .second, .val (.ref b12), .val (.ref b37), .val (.int v75), .val (.int v81), .val (.int v87), .val (.int v92), .val (.int v99), .val (.int v106), .val (.int v112)] [(.int (0 : Int32))])) := fun t k => P130 t (by
              show Steps p.tables e below (T84.setTop (mkF m 203 #[.val (.int i0), .val (.long i1), .second, .val (.int i2), .val (.long i3), .second, .val (.int i4), .val (.int v4), .val (.long v9), .second, .val (.ref b12), .val (.ref b37), .val (.int v75), .val (.int v81), .val (.int v87), .val (.int v92), .val (.int v99), .val (.int v106), .val (.int v112)] [(.int v81)])) _
              refine XS.ifYes X84.here hx rfl (pc0 := 203) (pc' := 225) rfl (hb hby at_203) rfl ((if0 _ _).trans (feq hc129).2) (by decide) (by decide) ?_
              show Steps p.tables e below (T84.setTop (mkF m 225 #[.val (.int i0), .val (.long i1), .second, .val (.int i2), .val (.long i3), .second, .val (.int i4), .val (.int v4), .val (.long v9), .second, .val (.ref b12), .val (.ref b37), .val (.int v75), .val (.int v81), .val (.int v87), .val (.int v92), .val (.int v99), .val (.int v106), .val (.int v112)] [])) _
              refine XS.iconst X84.here hx rfl (hb hby at_225) ?_
              exact k)
            obtain ⟨fs, hr, hrun, hended, hEnd⟩ := X84.leaveW hS50 (by rw [e84]; exact Zk_69) (v := some (.int (nar .boolean (0 : Int32)))) (fun h => by rw [Bd.returns] at h; cases h)
            refine ⟨_, _, P00 _ (P132 _ ?_), hrun, hended, _, _, rfl, ?_, hEnd.1, hEnd.2.1, hEnd.2.2.1, hEnd.2.2.2.mono (by decide) (by decide)⟩
            · exact retN X84 hx (t := .boolean) Bd.returns (by simp) (hb hby at_226) hr
            · show Q0 Z i0 i1 i2 i3 i4 h0 n0 _ T84.heap _
              rw [e84]
              refine ⟨?_, N84⟩
              subst hv112 hv106 hv99 hv92 hv87 hv81 hv75
              first | exact absurd (own_1 _ _ _ _) hc129 | exact absurd (own_2 _ _ _ _) hc129 | exact absurd (own_3 _ _) hc129 | exact absurd hc129 (own_5 _ _ _ _ hc118 hc120) | exact absurd (own_4 _ _ _ _) (fun q => q.elim hc120 hc129)
      · -- not v87 = (0 : Int32)
        have P133 : own_Rch p.tables e below A0 (T84.setTop (mkF m 226 #[.val (.int i0), .val (.long i1), .second, .val (.int i2), .val (.long i3), .second, .val (.int i4), .val (.int v4), .val (.long v9), .second, .val (.ref b12), .val (.ref b37), .val (.int v75), .val (.int v81), .val (.int v87), .val (.int v92), .val (.int v99), .val (.int v106), .val (.int v112)] [(.int (0 : Int32))])) := fun t k => P119 t (by
          show Steps p.tables e below (T84.setTop (mkF m 193 #[.val (.int i0), .val (.long i1), .second, .val (.int i2), .val (.long i3), .second, .val (.int i4), .val (.int v4), .val (.long v9), .second, .val (.ref b12), .val (.ref b37), .val (.int v75), .val (.int v81), .val (.int v87), .val (.int v92), .val (.int v99), .val (.int v106), .val (.int v112)] [(.int v87)])) _
          refine XS.ifYes X84.here hx rfl (pc0 := 193) (pc' := 225) rfl (hb hby at_193) rfl ((if0 _ _).trans (feq hc118).2) (by decide) (by decide) ?_
          show Steps p.tables e below (T84.setTop (mkF m 225 #[.val (.int i0), .val (.long i1), .second, .val (.int i2), .val (.long i3), .second, .val (.int i4), .val (.int v4), .val (.long v9), .second, .val (.ref b12), .val (.ref b37), .val (.int v75), .val (.int v81), .val (.int v87), .val (.int v92), .val (.int v99), .val (.int v106), .val (.int v112)] [])) _
          refine XS.iconst X84.here hx rfl (hb hby at_225) ?_
          exact k)
        obtain ⟨fs, hr, hrun, hended, hEnd⟩ := X84.leaveW hS50 (by rw [e84]; exact Zk_69) (v := some (.int (nar .boolean (0 : Int32)))) (fun h => by rw [Bd.returns] at h; cases h)
        refine ⟨_, _, P00 _ (P133 _ ?_), hrun, hended, _, _, rfl, ?_, hEnd.1, hEnd.2.1, hEnd.2.2.1, hEnd.2.2.2.mono (by decide) (by decide)⟩
        · exact retN X84 hx (t := .boolean) Bd.returns (by simp) (hb hby at_226) hr
        · show Q0 Z i0 i1 i2 i3 i4 h0 n0 _ T84.heap _
          rw [e84]
          refine ⟨?_, N84⟩
          subst hv112 hv106 hv99 hv92 hv87 hv81 hv75
          first | exact absurd (own_1 _ _ _ _) hc118 | exact absurd (own_2 _ _ _ _) hc118 | exact absurd (own_3 _ _) hc118 | exact absurd hc118 (own_5 _ _ _ _ hc114 hc116) | exact absurd (own_4 _ _ _ _) (fun q => q.elim hc116 hc118)
    · -- not v81 = v106
      have P134 : own_Rch p.tables e below A0 (T84.setTop (mkF m 226 #[.val (.int i0), .val (.long i1), .second, .val (.int i2), .val (.long i3), .second, .val (.int i4), .val (.int v4), .val (.long v9), .second, .val (.ref b12), .val (.ref b37), .val (.int v75), .val (.int v81), .val (.int v87), .val (.int v92), .val (.int v99), .val (.int v106), .val (.int v112)] [(.int (0 : Int32))])) := fun t k => P117 t (by
        show Steps p.tables e below (T84.setTop (mkF m 188 #[.val (.int i0), .val (.long i1), .second, .val (.int i2), .val (.long i3), .second, .val (.int i4), .val (.int v4), .val (.long v9), .second, .val (.ref b12), .val (.ref b37), .val (.int v75), .val (.int v81), .val (.int v87), .val (.int v92), .val (.int v99), .val (.int v106), .val (.int v112)] [(.int v106), (.int v81)])) _
        refine XS.icmpYes X84.here hx rfl (pc0 := 188) (pc' := 225) rfl (hb hby at_188) rfl (feq hc116).2 (by decide) (by decide) ?_
        show Steps p.tables e below (T84.setTop (mkF m 225 #[.val (.int i0), .val (.long i1), .second, .val (.int i2), .val (.long i3), .second, .val (.int i4), .val (.int v4), .val (.long v9), .second, .val (.ref b12), .val (.ref b37), .val (.int v75), .val (.int v81), .val (.int v87), .val (.int v92), .val (.int v99), .val (.int v106), .val (.int v112)] [])) _
        refine XS.iconst X84.here hx rfl (hb hby at_225) ?_
        exact k)
      obtain ⟨fs, hr, hrun, hended, hEnd⟩ := X84.leaveW hS50 (by rw [e84]; exact Zk_69) (v := some (.int (nar .boolean (0 : Int32)))) (fun h => by rw [Bd.returns] at h; cases h)
      refine ⟨_, _, P00 _ (P134 _ ?_), hrun, hended, _, _, rfl, ?_, hEnd.1, hEnd.2.1, hEnd.2.2.1, hEnd.2.2.2.mono (by decide) (by decide)⟩
      · exact retN X84 hx (t := .boolean) Bd.returns (by simp) (hb hby at_226) hr
      · show Q0 Z i0 i1 i2 i3 i4 h0 n0 _ T84.heap _
        rw [e84]
        refine ⟨?_, N84⟩
        subst hv112 hv106 hv99 hv92 hv87 hv81 hv75
        first | exact absurd (own_1 _ _ _ _) hc116 | exact absurd (own_2 _ _ _ _) hc116 | exact absurd (own_3 _ _) hc116 | exact absurd hc116 (own_5 _ _ _ _ hc116 hc114) | exact absurd (own_4 _ _ _ _) (fun q => q.elim hc114 hc116)
  · -- not v75 = v99
    have P135 : own_Rch p.tables e below A0 (T84.setTop (mkF m 226 #[.val (.int i0), .val (.long i1), .second, .val (.int i2), .val (.long i3), .second, .val (.int i4), .val (.int v4), .val (.long v9), .second, .val (.ref b12), .val (.ref b37), .val (.int v75), .val (.int v81), .val (.int v87), .val (.int v92), .val (.int v99), .val (.int v106), .val (.int v112)] [(.int (0 : Int32))])) := fun t k => P115 t (by
      show Steps p.tables e below (T84.setTop (mkF m 181 #[.val (.int i0), .val (.long i1), .second, .val (.int i2), .val (.long i3), .second, .val (.int i4), .val (.int v4), .val (.long v9), .second, .val (.ref b12), .val (.ref b37), .val (.int v75), .val (.int v81), .val (.int v87), .val (.int v92), .val (.int v99), .val (.int v106), .val (.int v112)] [(.int v99), (.int v75)])) _
      refine XS.icmpYes X84.here hx rfl (pc0 := 181) (pc' := 225) rfl (hb hby at_181) rfl (feq hc114).2 (by decide) (by decide) ?_
      show Steps p.tables e below (T84.setTop (mkF m 225 #[.val (.int i0), .val (.long i1), .second, .val (.int i2), .val (.long i3), .second, .val (.int i4), .val (.int v4), .val (.long v9), .second, .val (.ref b12), .val (.ref b37), .val (.int v75), .val (.int v81), .val (.int v87), .val (.int v92), .val (.int v99), .val (.int v106), .val (.int v112)] [])) _
      refine XS.iconst X84.here hx rfl (hb hby at_225) ?_
      exact k)
    obtain ⟨fs, hr, hrun, hended, hEnd⟩ := X84.leaveW hS50 (by rw [e84]; exact Zk_69) (v := some (.int (nar .boolean (0 : Int32)))) (fun h => by rw [Bd.returns] at h; cases h)
    refine ⟨_, _, P00 _ (P135 _ ?_), hrun, hended, _, _, rfl, ?_, hEnd.1, hEnd.2.1, hEnd.2.2.1, hEnd.2.2.2.mono (by decide) (by decide)⟩
    · exact retN X84 hx (t := .boolean) Bd.returns (by simp) (hb hby at_226) hr
    · show Q0 Z i0 i1 i2 i3 i4 h0 n0 _ T84.heap _
      rw [e84]
      refine ⟨?_, N84⟩
      subst hv112 hv106 hv99 hv92 hv87 hv81 hv75
      first | exact absurd (own_1 _ _ _ _) hc114 | exact absurd (own_2 _ _ _ _) hc114 | exact absurd (own_3 _ _) hc114 | exact absurd hc114 (own_5 _ _ _ _ hc114 hc114) | exact absurd (own_4 _ _ _ _) (fun q => q.elim hc114 hc114)
set_option maxRecDepth 65536 in
set_option maxHeartbeats 40000000 in
theorem comes_1 {Post : Tables → Env → Array Value → State → Outcome → State → Prop} (hpost : ∀ tb e args s v u, (limb_1_1.after args s (.returned v) u = true ∧ limb_1_2.after args s (.returned v) u = true ∧ True) → ReturnedEndW s (.returned v) u (Jvm.fieldLocs frame_1_writes args s ++ Jvm.arrayLocs frame_1_arrays args s ++ Jvm.staticLocs frame_1_statics s) 16 2176 → Post tb e args s (.returned v) u) :
    ArmFor flags0 classFile x code maxLocals ret World_1 tables_1 room_1 Calls_1 rest_1 Pre_1 Post := by
  intro l hfl _ _ p e ha hc hk s m args below hf hA hF happ hP
  obtain ⟨hcalls, hrest, hpre⟩ := hP
  obtain ⟨-, -, -, hnamed, -, -, -, hat⟩ := (Spec.applies_iff hf).mp happ
  obtain ⟨hg, hn⟩ := and_e (Cond.before_iff.mp (show (Jvm.Cond.and given_1 narrow_1).before args s = true from hpre))
  obtain ⟨ga0, gb0⟩ := and_e hg
  obtain ⟨ga1, gb1⟩ := and_e gb0
  obtain ⟨ga2, gb2⟩ := and_e gb1
  obtain ⟨ga3, gb3⟩ := and_e gb2
  obtain ⟨ga4, gb4⟩ := and_e gb3
  obtain ⟨w0, w1, w2, w3, w4, rfl⟩ : ∃ w0 w1 w2 w3 w4 : Value, args = #[w0, w1, w2, w3, w4] := by
    have hs : args.size = 5 := by simpa [Cond.value, given_1] using ga0
    obtain ⟨L⟩ := args
    match L, hs with
    | [w0, w1, w2, w3, w4], _ => exact ⟨w0, w1, w2, w3, w4, rfl⟩
  have hw := fun d (hd : d ∈ tables_1) => atoms_spec (ws := Jvm.Cond.code x code maxLocals ret :: tables_1) hat d (List.mem_cons_of_mem _ hd)
  have hfit : Fit s := fun {y c} hc i hi => by
    obtain ⟨ha, rfl⟩ := Array.getElem?_eq_some_iff.mp hc
    have q := List.all_eq_true.mp ((Array.all_eq_true_iff_forall_mem.mp hF) _ (Array.getElem_mem ha)) i (List.mem_range.mpr hi)
    simpa [Array.getElem?_eq_getElem hi] using q
  obtain ⟨i0, ei0⟩ := is_v ga1
  obtain rfl : w0 = (.int i0) := Option.some.inj ei0
  obtain ⟨i1, ei1⟩ := isL_v ga2
  obtain rfl : w1 = (.long i1) := Option.some.inj ei1
  obtain ⟨i2, ei2⟩ := is_v ga3
  obtain rfl : w2 = (.int i2) := Option.some.inj ei2
  obtain ⟨i3, ei3⟩ := isL_v ga4
  obtain rfl : w3 = (.long i3) := Option.some.inj ei3
  obtain ⟨i4, ei4⟩ := is_v gb4
  obtain rfl : w4 = (.int i4) := Option.some.inj ei4
  obtain ⟨n, o, h1, h2, h3, _, L, rfl, ⟨rfl, N⟩, hq⟩ := rm0 l s _ hw tables_1 i0 i1 i2 i3 i4  s.heap s.heap.size (Nat.le_refl _)  p e ha hc hk s m _ below hf ((Spec.applies_iff_loose hf).mp happ).1 ⟨rfl, State.Warmed39.refl s, rfl⟩ trivial
  refine ⟨n, _, h1, h2, h3, hpost _ _ _ _ _ _ ⟨Cond.after_iff.mpr rfl, Cond.after_iff.mpr (eq_i res_at (Term.int_eval (1)) rfl), trivial⟩ ⟨hq.1, hq.2.1, hq.2.2.1, (hq.2.2.2.sift fun y hy => Or.inr (N y hy)).mono (by decide) (by decide)⟩⟩
theorem main_1_1 : Claimed_1_1 := comes_1 fun _ _ _ _ _ _ h hF => ⟨h.1, hF⟩
theorem main_1_2 : Claimed_1_2 := comes_1 fun _ _ _ _ _ _ h hF => ⟨h.2.1, hF⟩
end Jvm.Pilot.@@N@@
namespace Jvm.Pilot.@@N@@
open Jvm Jvm.ClassFile Sem Op Lib Jvm.Free Jvm.Stand Jvm.Pilot.@@N@@.Jvm.D
/-! MADE BY PROGRAM (witnessworld.py) out of the Statement's table words and the real class files: 15 classes; the members and pool entries that the words name. The judged class is class 1, her method 1. -/
namespace start1
open Jvm.ClassFile
def u (s : String) : CpInfo := .utf8 (stringToUtf16 s)
/-- a pool by its gaps: so many unusable entries, then the entry; so many at the end -/
def gap : Nat → List CpInfo → List CpInfo
  | 0, r => r
  | n + 1, r => .unusable :: gap n r
def poolList (es : List (Nat × CpInfo)) (last : Nat) : List CpInfo := es.foldr (fun e r => gap e.1 (e.2 :: r)) (gap last [])
def pool (es : List (Nat × CpInfo)) (last : Nat) : Array CpInfo := ⟨poolList es last⟩
def fileOf (pool : Array CpInfo) (this : Nat) (attrs : Array Attribute := #[]) (ms : Array MethodInfo := #[]) (fl : Nat := 33) (sup : Nat := 0) (ifs : Array Nat := #[]) (fds : Array FieldInfo := #[]) : ClassFile where
  minorVersion := 0
  majorVersion := 65
  constantPool := pool
  accessFlags := fl
  thisClass := this
  superClass := sup
  interfaces := ifs
  fields := fds
  methods := ms
  attributes := attrs
def plain (name : String) (sup : Option ClassId) : Class where
  name := name
  kind := .ordinary
  loader := none
  accessFlags := 33
  super := sup
  interfaces := #[]
  cf := none
  fields := #[]
  methods := #[]
  instanceTypes := #[]
  staticTypes := #[]
  resolved := #[]
  callSites := []
  init := .initialized
  statics := none
  mirror := none

def pool0 : Array CpInfo := pool [(5, u "<init>"), (0, u "()V"), (1, .class_ 10), (1, u "java/lang/Object")] 113

def k0c0 : Code := { maxStack := 0, maxLocals := 1, code := object_method_1_code, exceptionTable := #[], attributes := #[] }
def k0m0 : Method := { name := "<init>", desc := "()V", sig := { parameters := [], returnType := none }, accessFlags := 1, code := some k0c0 }
/-- java/lang/Object -/
def k0 : Class := { plain "java/lang/Object" none with
  accessFlags := 33
  interfaces := #[]
  cf := some (fileOf pool0 8 #[] #[{ accessFlags := 1, nameIndex := 5, descriptorIndex := 6, attributes := #[] }] 33 0 #[] #[])
  fields := #[]
  methods := #[k0m0]
  instanceTypes := #[]
  staticTypes := #[]
  resolved := Array.replicate 124 none
  statics := none }

def pool1 : Array CpInfo := pool [(2, .class_ 4), (1, u "java/lang/Object"), (0, u "<init>"), (0, u "()V"), (0, .class_ 8), (0, u "com/example/rackline/rackline/cluster/ReplicaEnd"), (0, .string 10), (0, u "a"), (0, .methodref 7 12), (0, .nameAndType 5 13), (0, u "(Ljava/lang/String;IIIJ)V"), (0, .string 15), (0, u "b"), (0, .methodref 7 17), (0, .nameAndType 18 19), (0, u "endsFurtherThan"), (0, u "(Lcom/example/rackline/rackline/cluster/ReplicaEnd;)Z"), (0, .class_ 21), (0, u "com/example/rackline/rackline/cluster/ReplicaEndEndsFurtherThanPinLaw"), (2, u "law"), (0, u "(IJIJI)Z")] 3

def k1m0 : Method := { name := "<init>", desc := "()V", sig := { parameters := [], returnType := none }, accessFlags := 2, code := none }
def k1c1 : Code := { maxStack := 8, maxLocals := 19, code := code, exceptionTable := #[], attributes := #[] }
def k1m1 : Method := { name := "law", desc := "(IJIJI)Z", sig := { parameters := [.int, .long, .int, .long, .int], returnType := some .boolean }, accessFlags := 9, code := some k1c1 }
/-- com/example/rackline/rackline/cluster/ReplicaEndEndsFurtherThanPinLaw -/
def k1 : Class := { plain "com/example/rackline/rackline/cluster/ReplicaEndEndsFurtherThanPinLaw" (some 0) with
  accessFlags := 49
  interfaces := #[]
  cf := some (fileOf pool1 20 #[] #[{ accessFlags := 2, nameIndex := 5, descriptorIndex := 6, attributes := #[] }, { accessFlags := 9, nameIndex := 24, descriptorIndex := 25, attributes := #[] }] 49 2 #[] #[])
  fields := #[]
  methods := #[k1m0, k1m1]
  instanceTypes := #[]
  staticTypes := #[]
  resolved := Array.replicate 29 none
  statics := none }

def pool2 : Array CpInfo := pool [(1, .methodref 2 3), (0, .class_ 4), (0, .nameAndType 5 6), (0, u "java/lang/Object"), (0, u "<init>"), (0, u "()V"), (0, .class_ 8), (0, u "java/lang/Record")] 13

def k2c0 : Code := { maxStack := 1, maxLocals := 1, code := jdk_30_method_1_code, exceptionTable := #[], attributes := #[] }
def k2m0 : Method := { name := "<init>", desc := "()V", sig := { parameters := [], returnType := none }, accessFlags := 4, code := some k2c0 }
/-- java/lang/Record -/
def k2 : Class := { plain "java/lang/Record" (some 0) with
  accessFlags := 1057
  interfaces := #[]
  cf := some (fileOf pool2 7 #[] #[{ accessFlags := 4, nameIndex := 5, descriptorIndex := 6, attributes := #[] }] 1057 2 #[] #[])
  fields := #[]
  methods := #[k2m0]
  instanceTypes := #[]
  staticTypes := #[]
  resolved := Array.replicate 22 none
  statics := none }

def pool3 : Array CpInfo := pool [(1, .methodref 2 3), (0, .class_ 4), (0, .nameAndType 5 6), (0, u "java/lang/Record"), (0, u "<init>"), (0, u "()V"), (0, .fieldref 8 9), (0, .class_ 10), (0, .nameAndType 11 12), (0, u "com/example/rackline/rackline/cluster/ReplicaEnd"), (0, u "topic"), (0, u "Ljava/lang/String;"), (0, .fieldref 8 14), (0, .nameAndType 15 16), (0, u "partition"), (0, u "I"), (0, .fieldref 8 18), (0, .nameAndType 19 16), (0, u "leaderEpoch"), (0, .fieldref 8 21), (0, .nameAndType 22 16), (0, u "latestEpoch"), (0, .fieldref 8 24), (0, .nameAndType 25 26), (0, u "endOffset"), (0, u "J"), (33, u "(Ljava/lang/String;IIIJ)V"), (16, u "endsFurtherThan"), (0, u "(Lcom/example/rackline/rackline/cluster/ReplicaEnd;)Z")] 30

def k3c0 : Code := { maxStack := 3, maxLocals := 7, code := prog_101_method_1_code, exceptionTable := #[], attributes := #[] }
def k3m0 : Method := { name := "<init>", desc := "(Ljava/lang/String;IIIJ)V", sig := { parameters := [(.object "java/lang/String"), .int, .int, .int, .long], returnType := none }, accessFlags := 1, code := some k3c0 }
def k3c1 : Code := { maxStack := 4, maxLocals := 2, code := prog_101_method_3_code, exceptionTable := #[], attributes := #[] }
def k3m1 : Method := { name := "endsFurtherThan", desc := "(Lcom/example/rackline/rackline/cluster/ReplicaEnd;)Z", sig := { parameters := [(.object "com/example/rackline/rackline/cluster/ReplicaEnd")], returnType := some .boolean }, accessFlags := 1, code := some k3c1 }
/-- com/example/rackline/rackline/cluster/ReplicaEnd -/
def k3 : Class := { plain "com/example/rackline/rackline/cluster/ReplicaEnd" (some 2) with
  accessFlags := 49
  interfaces := #[]
  cf := some (fileOf pool3 8 #[] #[{ accessFlags := 1, nameIndex := 5, descriptorIndex := 60, attributes := #[] }, { accessFlags := 1, nameIndex := 77, descriptorIndex := 78, attributes := #[] }] 49 2 #[] #[{ accessFlags := 18, nameIndex := 11, descriptorIndex := 12, attributes := #[] }, { accessFlags := 18, nameIndex := 15, descriptorIndex := 16, attributes := #[] }, { accessFlags := 18, nameIndex := 19, descriptorIndex := 16, attributes := #[] }, { accessFlags := 18, nameIndex := 22, descriptorIndex := 16, attributes := #[] }, { accessFlags := 18, nameIndex := 25, descriptorIndex := 26, attributes := #[] }])
  fields := #[{ name := "topic", type := (.object "java/lang/String"), accessFlags := 18, slot := 0, constantValue := 0 }, { name := "partition", type := .int, accessFlags := 18, slot := 1, constantValue := 0 }, { name := "leaderEpoch", type := .int, accessFlags := 18, slot := 2, constantValue := 0 }, { name := "latestEpoch", type := .int, accessFlags := 18, slot := 3, constantValue := 0 }, { name := "endOffset", type := .long, accessFlags := 18, slot := 4, constantValue := 0 }]
  methods := #[k3m0, k3m1]
  instanceTypes := #[(.object "java/lang/String"), .int, .int, .int, .long]
  staticTypes := #[]
  resolved := Array.replicate 109 none
  statics := none }

def pool4 : Array CpInfo := pool [(1, .class_ 2), (0, u "java/io/Serializable"), (0, .class_ 4), (0, u "java/lang/Object")] 2

/-- java/io/Serializable -/
def k4 : Class := { plain "java/io/Serializable" (some 0) with
  accessFlags := 1537
  interfaces := #[]
  cf := some (fileOf pool4 1 #[] #[] 1537 3 #[] #[])
  fields := #[]
  methods := #[]
  instanceTypes := #[]
  staticTypes := #[]
  resolved := Array.replicate 7 none
  statics := none }

def pool5 : Array CpInfo := pool [(1, .class_ 2), (0, u "java/lang/Comparable"), (0, .class_ 4), (0, u "java/lang/Object")] 7

/-- java/lang/Comparable -/
def k5 : Class := { plain "java/lang/Comparable" (some 0) with
  accessFlags := 1537
  interfaces := #[]
  cf := some (fileOf pool5 1 #[] #[] 1537 3 #[] #[])
  fields := #[]
  methods := #[]
  instanceTypes := #[]
  staticTypes := #[]
  resolved := Array.replicate 12 none
  statics := none }

def pool6 : Array CpInfo := pool [(2, .class_ 4), (1, u "java/lang/CharSequence"), (42, .class_ 48), (0, u "java/lang/CharSequence$1CodePointIterator"), (10, .class_ 60), (0, u "java/lang/CharSequence$1CharIterator"), (5, .class_ 67), (0, u "java/lang/Object")] 63

/-- java/lang/CharSequence -/
def k6 : Class := { plain "java/lang/CharSequence" (some 0) with
  accessFlags := 1537
  interfaces := #[]
  cf := some (fileOf pool6 2 #[.nestMembers #[47, 59]] #[] 1537 66 #[] #[])
  fields := #[]
  methods := #[]
  instanceTypes := #[]
  staticTypes := #[]
  resolved := Array.replicate 131 none
  statics := none }

def pool7 : Array CpInfo := pool [(1, .class_ 2), (0, u "java/lang/constant/Constable"), (0, .class_ 4), (0, u "java/lang/Object")] 6

/-- java/lang/constant/Constable -/
def k7 : Class := { plain "java/lang/constant/Constable" (some 0) with
  accessFlags := 1537
  interfaces := #[]
  cf := some (fileOf pool7 1 #[] #[] 1537 3 #[] #[])
  fields := #[]
  methods := #[]
  instanceTypes := #[]
  staticTypes := #[]
  resolved := Array.replicate 11 none
  statics := none }

def pool8 : Array CpInfo := pool [(1, .class_ 2), (0, u "java/lang/constant/ConstantDesc"), (0, .class_ 4), (0, u "java/lang/Object")] 32

/-- java/lang/constant/ConstantDesc -/
def k8 : Class := { plain "java/lang/constant/ConstantDesc" (some 0) with
  accessFlags := 1537
  interfaces := #[]
  cf := some (fileOf pool8 1 #[] #[] 1537 3 #[] #[])
  fields := #[]
  methods := #[]
  instanceTypes := #[]
  staticTypes := #[]
  resolved := Array.replicate 37 none
  statics := none }

def pool9 : Array CpInfo := pool [(2, .class_ 4), (1, u "java/lang/Object"), (0, u "<init>"), (0, u "()V"), (3, .class_ 12), (1, u "java/lang/String"), (0, u "value"), (0, u "[B"), (2, u "coder"), (0, u "B"), (2, u "hash"), (0, u "I"), (2, u "hashIsZero"), (0, u "Z"), (13, u "COMPACT_STRINGS"), (534, .class_ 576), (0, u "java/lang/CharSequence"), (22, u "CASE_INSENSITIVE_ORDER"), (0, u "Ljava/util/Comparator;"), (500, u "serialPersistentFields"), (0, u "[Ljava/io/ObjectStreamField;"), (0, .class_ 1104), (0, u "java/lang/String$CaseInsensitiveComparator"), (1, .class_ 1107), (0, u "java/io/Serializable"), (0, .class_ 1109), (0, u "java/lang/Comparable"), (0, .class_ 1111), (0, u "java/lang/constant/Constable"), (0, .class_ 1113), (0, u "java/lang/constant/ConstantDesc"), (2, u "serialVersionUID"), (0, u "J"), (3, u "REPL"), (0, u "C"), (2, u "LATIN1"), (1, u "UTF16")] 323

def k9m0 : Method := { name := "<init>", desc := "()V", sig := { parameters := [], returnType := none }, accessFlags := 1, code := none }
/-- java/lang/String -/
def k9 : Class := { plain "java/lang/String" (some 0) with
  accessFlags := 49
  interfaces := #[4, 5, 6, 7, 8]
  cf := some (fileOf pool9 10 #[.nestMembers #[1103]] #[{ accessFlags := 1, nameIndex := 5, descriptorIndex := 6, attributes := #[] }] 49 2 #[1106, 1108, 575, 1110, 1112] #[{ accessFlags := 18, nameIndex := 13, descriptorIndex := 14, attributes := #[] }, { accessFlags := 18, nameIndex := 17, descriptorIndex := 18, attributes := #[] }, { accessFlags := 2, nameIndex := 21, descriptorIndex := 22, attributes := #[] }, { accessFlags := 2, nameIndex := 25, descriptorIndex := 26, attributes := #[] }, { accessFlags := 26, nameIndex := 1116, descriptorIndex := 1117, attributes := #[] }, { accessFlags := 24, nameIndex := 40, descriptorIndex := 26, attributes := #[] }, { accessFlags := 26, nameIndex := 1101, descriptorIndex := 1102, attributes := #[] }, { accessFlags := 26, nameIndex := 1121, descriptorIndex := 1122, attributes := #[] }, { accessFlags := 25, nameIndex := 599, descriptorIndex := 600, attributes := #[] }, { accessFlags := 24, nameIndex := 1125, descriptorIndex := 18, attributes := #[] }, { accessFlags := 24, nameIndex := 1127, descriptorIndex := 18, attributes := #[] }])
  fields := #[{ name := "value", type := (.array .byte), accessFlags := 18, slot := 0, constantValue := 0 }, { name := "coder", type := .byte, accessFlags := 18, slot := 1, constantValue := 0 }, { name := "hash", type := .int, accessFlags := 2, slot := 2, constantValue := 0 }, { name := "hashIsZero", type := .boolean, accessFlags := 2, slot := 3, constantValue := 0 }, { name := "serialVersionUID", type := .long, accessFlags := 26, slot := 0, constantValue := 0 }, { name := "COMPACT_STRINGS", type := .boolean, accessFlags := 24, slot := 1, constantValue := 0 }, { name := "serialPersistentFields", type := (.array (.object "java/io/ObjectStreamField")), accessFlags := 26, slot := 2, constantValue := 0 }, { name := "REPL", type := .char, accessFlags := 26, slot := 3, constantValue := 0 }, { name := "CASE_INSENSITIVE_ORDER", type := (.object "java/util/Comparator"), accessFlags := 25, slot := 4, constantValue := 0 }, { name := "LATIN1", type := .byte, accessFlags := 24, slot := 5, constantValue := 0 }, { name := "UTF16", type := .byte, accessFlags := 24, slot := 6, constantValue := 0 }]
  methods := #[k9m0]
  instanceTypes := #[(.array .byte), .byte, .int, .boolean]
  staticTypes := #[.long, .boolean, (.array (.object "java/io/ObjectStreamField")), .char, (.object "java/util/Comparator"), .byte, .byte]
  resolved := Array.replicate 1451 none
  statics := none }

def pool10 : Array CpInfo := pool [(1, u "java/lang/Cloneable"), (0, .class_ 1), (0, u "java/lang/Object"), (0, .class_ 3)] 3

/-- java/lang/Cloneable -/
def k10 : Class := { plain "java/lang/Cloneable" (some 0) with
  accessFlags := 1537
  interfaces := #[]
  cf := some (fileOf pool10 2 #[] #[] 1537 4 #[] #[])
  fields := #[]
  methods := #[]
  instanceTypes := #[]
  staticTypes := #[]
  resolved := Array.replicate 8 none
  statics := none }

/-- the primitive byte -/
def k11 : Class := { plain "byte" none with kind := .primitive 'B', accessFlags := 0x411 }
/-- [B -/
def k12 : Class := { plain "[B" (some 0) with kind := .array 11 .byte, interfaces := #[10, 4], accessFlags := 1041 }

/-- the primitive int -/
def k13 : Class := { plain "int" none with kind := .primitive 'I', accessFlags := 0x411 }
/-- [I -/
def k14 : Class := { plain "[I" (some 0) with kind := .array 13 .int, interfaces := #[10, 4], accessFlags := 1041 }

def heap : Heap := #[]
def classes : Array Class := #[k0, k1, k2, k3, k4, k5, k6, k7, k8, k9, k10, k11, k12, k13, k14]
def interned : List (Array UInt16 × Addr) := []
def slotsUsed : Nat := 0
def theMethod : MethodId := ⟨1, 1⟩
def args0 : Array Value := #[.int 5, .long 6, .int 7, .long 8, .int 3]
def aboutOver (below : List Frame) : State where
  vm := { classes := classes, interned := interned.toArray }
  heap := heap
  slotsUsed := slotsUsed
  threads := #[{ frames := .invoking theMethod args0 :: below }]
def below0 : List Frame := [.native { method := ⟨0, 0⟩, args := #[] }]
def about1 : State := aboutOver below0
def p0 : Program := .bare "" "" ""
def e0 : Env := launch0.env 0 0 0
theorem w_frames : about1.frames = Frame.invoking theMethod args0 :: below0 := rfl
set_option maxRecDepth 65536 in
theorem w_args : argsFit about1.vm theMethod args0 = true := by decide +kernel
set_option maxRecDepth 65536 in
theorem w_heap : heapFits about1 = true := by decide +kernel
set_option maxRecDepth 65536 in
theorem w_runnable : about1.curStatus? = some .runnable := by decide +kernel
set_option maxRecDepth 65536 in
theorem w_alone : about1.alone = true := by decide +kernel
set_option maxRecDepth 65536 in
theorem w_named : about1.methodNamed? x = some theMethod := by decide +kernel
set_option maxRecDepth 65536 in
theorem w_hears : about1.hears theMethod below0 = true := by decide +kernel
set_option maxRecDepth 65536 in
theorem w_ripe : about1.ripe theMethod args0 below0 = true := by decide +kernel
theorem w_running : about1.status = .running := rfl
set_option maxRecDepth 65536 in
theorem w_room : about1.hasRoom e0.platform room_1 = true :=
  launch0.hasRoom_least _ room_1 (by decide +kernel) (by decide +kernel) (by decide +kernel) (by decide +kernel) (by decide +kernel) (by decide +kernel)
theorem allAtoms_all (ts : List Jvm.Cond) (a : Array Jvm.Value) (st : Jvm.State) : (allAtoms ts).before a st = ts.all (fun c => c.before a st) := by
  induction ts with
  | nil => rfl
  | cons c t ih =>
    show (Jvm.Cond.and c (allAtoms t)).before a st = _
    rw [Jvm.Cond.before_and, ih, List.all_cons]
def words1 : List Jvm.Cond := Jvm.Cond.code x code maxLocals ret :: tables_1
/-- a 'code' word, met by the world's own term for the bytes: nothing is compared byte by byte -/
theorem code_word {y : MethodName} {bytes : ByteArray} {mx : Nat} {rt : Option FieldType} {a : Array Value} {s : State} {m : MethodId} {meth : Method} {c : Code} (h1 : s.methodNamed? y = some m) (h2 : s.vm.method? m = some meth) (h3 : meth.code = some c) (h4 : c.code = bytes)
    (h5 : (c.maxLocals == mx && c.exceptionTable.isEmpty && decide (c.maxStack ≤ mostOperands) && decide (meth.sig.returnType = rt) && !meth.locks && decide (parseMethodDescriptor y.desc = some meth.sig)) = true) : (Jvm.Cond.code y bytes mx rt).before a s = true := by
  simp only [Bool.and_eq_true, beq_iff_eq, Bool.not_eq_true', decide_eq_true_eq] at h5
  obtain ⟨⟨⟨⟨⟨g1, g2⟩, g3⟩, g4⟩, g5⟩, g6⟩ := h5
  simp [Cond.before, Cond.holds, Cond.value, h1, h2, h3, h4, g1, g2, g3, g4, g5, g6]
def isCode : Jvm.Cond → Bool
  | .code _ _ _ _ => true
  | _ => false
theorem all_split {L : List Jvm.Cond} {P : Jvm.Cond → Bool} (h1 : L.all (fun c => isCode c || P c) = true) (h2 : ∀ c ∈ L.filter isCode, P c = true) : L.all P = true := by
  refine List.all_eq_true.mpr fun c hc => ?_
  have h := List.all_eq_true.mp h1 c hc
  rcases Bool.eq_false_or_eq_true (isCode c) with hi | hi
  · exact h2 c (List.mem_filter.mpr ⟨hc, hi⟩)
  · simpa [hi] using h
set_option maxRecDepth 65536 in
theorem w_c0 : (Jvm.Cond.code x code maxLocals ret).before args0 about1 = true := code_word (m := ⟨1, 1⟩) (meth := k1m1) (c := k1c1) (by decide +kernel) rfl rfl rfl (by decide +kernel)
set_option maxRecDepth 65536 in
theorem w_c1 : (Jvm.Cond.code ({ cls := "com/example/rackline/rackline/cluster/ReplicaEnd", name := "<init>", desc := "(Ljava/lang/String;IIIJ)V" } : Jvm.MethodName) prog_101_method_1_code (7 : Nat) (Option.none : Option Jvm.ClassFile.FieldType)).before args0 about1 = true := code_word (m := ⟨3, 0⟩) (meth := k3m0) (c := k3c0) (by decide +kernel) rfl rfl rfl (by decide +kernel)
set_option maxRecDepth 65536 in
theorem w_c2 : (Jvm.Cond.code ({ cls := "java/lang/Record", name := "<init>", desc := "()V" } : Jvm.MethodName) jdk_30_method_1_code (1 : Nat) (Option.none : Option Jvm.ClassFile.FieldType)).before args0 about1 = true := code_word (m := ⟨2, 0⟩) (meth := k2m0) (c := k2c0) (by decide +kernel) rfl rfl rfl (by decide +kernel)
set_option maxRecDepth 65536 in
theorem w_c3 : (Jvm.Cond.code ({ cls := "java/lang/Object", name := "<init>", desc := "()V" } : Jvm.MethodName) object_method_1_code (1 : Nat) (Option.none : Option Jvm.ClassFile.FieldType)).before args0 about1 = true := code_word (m := ⟨0, 0⟩) (meth := k0m0) (c := k0c0) (by decide +kernel) rfl rfl rfl (by decide +kernel)
set_option maxRecDepth 65536 in
theorem w_c4 : (Jvm.Cond.code ({ cls := "com/example/rackline/rackline/cluster/ReplicaEnd", name := "endsFurtherThan", desc := "(Lcom/example/rackline/rackline/cluster/ReplicaEnd;)Z" } : Jvm.MethodName) prog_101_method_3_code (2 : Nat) (Option.some Jvm.ClassFile.FieldType.boolean)).before args0 about1 = true := code_word (m := ⟨3, 1⟩) (meth := k3m1) (c := k3c1) (by decide +kernel) rfl rfl rfl (by decide +kernel)
def codes1 : List Jvm.Cond := [Jvm.Cond.code x code maxLocals ret, Jvm.Cond.code ({ cls := "com/example/rackline/rackline/cluster/ReplicaEnd", name := "<init>", desc := "(Ljava/lang/String;IIIJ)V" } : Jvm.MethodName) prog_101_method_1_code (7 : Nat) (Option.none : Option Jvm.ClassFile.FieldType), Jvm.Cond.code ({ cls := "java/lang/Record", name := "<init>", desc := "()V" } : Jvm.MethodName) jdk_30_method_1_code (1 : Nat) (Option.none : Option Jvm.ClassFile.FieldType), Jvm.Cond.code ({ cls := "java/lang/Object", name := "<init>", desc := "()V" } : Jvm.MethodName) object_method_1_code (1 : Nat) (Option.none : Option Jvm.ClassFile.FieldType), Jvm.Cond.code ({ cls := "com/example/rackline/rackline/cluster/ReplicaEnd", name := "endsFurtherThan", desc := "(Lcom/example/rackline/rackline/cluster/ReplicaEnd;)Z" } : Jvm.MethodName) prog_101_method_3_code (2 : Nat) (Option.some Jvm.ClassFile.FieldType.boolean)]
set_option maxRecDepth 65536 in
theorem codes_eq : words1.filter isCode = codes1 := rfl
theorem w_codes : ∀ c ∈ words1.filter isCode, c.before args0 about1 = true := by
  rw [codes_eq]
  intro c hc
  simp only [codes1, List.mem_cons, List.not_mem_nil, or_false] at hc
  rcases hc with rfl | rfl | rfl | rfl | rfl
  · exact w_c0
  · exact w_c1
  · exact w_c2
  · exact w_c3
  · exact w_c4
set_option maxRecDepth 65536 in
theorem w_t1 : (words1.take 24).all (fun c => isCode c || c.before args0 about1) = true := by decide +kernel
set_option maxRecDepth 65536 in
theorem w_t2 : (words1.drop 24).all (fun c => isCode c || c.before args0 about1) = true := by decide +kernel
theorem w_tables : (allAtoms (Jvm.Cond.code x code maxLocals ret :: tables_1)).before args0 about1 = true := by
  rw [allAtoms_all]
  show words1.all (fun c => c.before args0 about1) = true
  refine all_split ?_ w_codes
  rw [← List.take_append_drop 24 words1, List.all_append, w_t1, w_t2]
  rfl
set_option maxRecDepth 65536 in
theorem w_case : (Jvm.Cond.and given_1 narrow_1).before args0 about1 = true := by decide +kernel
theorem w_applies : (headSpec (Jvm.Cond.code x code maxLocals ret :: tables_1) room_1).applies x e0.platform about1 = true :=
  (Spec.applies_iff w_frames).mpr ⟨w_running, w_runnable, w_alone, w_named, w_hears, w_ripe, w_room, w_tables⟩
theorem atStart : AtStart classFile x code maxLocals ret World_1 tables_1 room_1 Calls_1 rest_1 Pre_1 launch0 p0 e0 about1 theMethod args0 below0 :=
  ⟨lists_1, trivial, launch0.admits_env _ _ _, launch0.least_env, fairChoices_fair.cas, fairChoices_fair.clock, w_frames, w_args, w_heap, w_applies, trivial, trivial, w_case⟩
end start1
theorem witness_1 : WitnessClaimed_1 := ⟨start1.p0, start1.e0, start1.about1, start1.theMethod, start1.args0, start1.below0, start1.atStart⟩
end Jvm.Pilot.@@N@@
