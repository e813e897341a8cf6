import JvmDerived
import JvmDerived.Pilot.@@N@@Statement
import JvmDerived.Pilot.@@N@@Code
set_option linter.unusedVariables false
set_option linter.unusedSimpArgs false
namespace Jvm.Pilot.@@N@@
open Jvm Jvm.ClassFile Sem Op Lib Jvm.Free Jvm.Stand Jvm.LawKit Jvm.RoadKit Bundle Jvm.Pilot.@@N@@.Jvm.D
/-- what runs on to t from B runs on to t from A -/
def own_Rch (tb : Tables) (e : Env) (below : List Frame) (A B : State) : Prop := ∀ t, Steps tb e below B t → Steps tb e below A t
theorem own_lct1 {a b : Int64} (h : a < b) : ifCond.holds .lt (lcmpW a b) = true ∧ ifCond.holds .ge (lcmpW a b) = false := by
  have h1 : ¬ b < a := fun q => by rw [Int64.lt_iff_toInt_lt] at h q; omega
  have h2 : ¬ a = b := fun q => by subst q; exact h1 h
  simp only [lcmpW, gt_iff_lt, h1, h2, if_false]; exact ⟨rfl, rfl⟩
theorem own_lcf1 {a b : Int64} (h : ¬ a < b) : ifCond.holds .lt (lcmpW a b) = false ∧ ifCond.holds .ge (lcmpW a b) = true := by
  by_cases h1 : b < a
  · simp only [lcmpW, gt_iff_lt, h1, if_true]; exact ⟨rfl, rfl⟩
  · have h2 : a = b := by rw [Int64.lt_iff_toInt_lt] at h h1; exact Int64.toInt_inj.mp (by omega)
    simp only [lcmpW, gt_iff_lt, h1, h2, if_false, if_true]; subst h2; simp only [Int64.lt_irrefl, if_false]; exact ⟨rfl, rfl⟩
theorem own_lct2 {a b : Int64} (h : b < a) : ifCond.holds .gt (lcmpW a b) = true ∧ ifCond.holds .le (lcmpW a b) = false := by
  simp only [lcmpW, gt_iff_lt, h, if_true]; exact ⟨rfl, rfl⟩
theorem own_lcf2 {a b : Int64} (h : ¬ b < a) : ifCond.holds .gt (lcmpW a b) = false ∧ ifCond.holds .le (lcmpW a b) = true := by
  by_cases h2 : a = b
  · simp only [lcmpW, gt_iff_lt, h, if_pos h2, if_false]; exact ⟨rfl, rfl⟩
  · simp only [lcmpW, gt_iff_lt, h, if_neg h2, if_false]; exact ⟨rfl, rfl⟩
theorem own_lct3 {a b : Int64} (h : a = b) : ifCond.holds .eq (lcmpW a b) = true ∧ ifCond.holds .ne (lcmpW a b) = false := by
  have h1 : ¬ b < a := fun q => by subst h; exact absurd q (Int64.lt_irrefl)
  simp only [lcmpW, gt_iff_lt, h1, if_pos h, if_false]; exact ⟨rfl, rfl⟩
theorem own_lcf3 {a b : Int64} (h : ¬ a = b) : ifCond.holds .eq (lcmpW a b) = false ∧ ifCond.holds .ne (lcmpW a b) = true := by
  by_cases h1 : b < a
  · simp only [lcmpW, gt_iff_lt, h1, if_true]; exact ⟨rfl, rfl⟩
  · simp only [lcmpW, gt_iff_lt, h1, if_neg h, if_false]; exact ⟨rfl, rfl⟩
theorem own_remI (x y : Int32) : x - x / y * y = x % y := by
  apply Int32.toInt_inj.mp
  have l := Int32.toInt_lt (x % y)
  have g := Int32.le_toInt (x % y)
  rw [Int32.toInt_sub, Int32.toInt_mul, Int32.toInt_div]
  simp only [Int.sub_bmod_bmod, Int.bmod_mul_bmod]
  rw [Int.mul_comm, ← Int.tmod_def, ← Int32.toInt_mod, Int.bmod_eq_of_le] <;> omega
theorem own_remL (x y : Int64) : x - x / y * y = x % y := by
  apply Int64.toInt_inj.mp
  have l := Int64.toInt_lt (x % y)
  have g := Int64.le_toInt (x % y)
  rw [Int64.toInt_sub, Int64.toInt_mul, Int64.toInt_div]
  simp only [Int.sub_bmod_bmod, Int.bmod_mul_bmod]
  rw [Int.mul_comm, ← Int.tmod_def, ← Int64.toInt_mod, Int.bmod_eq_of_le] <;> omega
theorem d2_0 : decode jdk_30_method_1_code 0 = .ok (.aload_n 0, 1) := by decide +kernel
theorem d2_1 : decode jdk_30_method_1_code 1 = .ok (.invokespecial 1, 3) := by decide +kernel
theorem d2_4 : decode jdk_30_method_1_code 4 = .ok (.return_, 1) := by decide +kernel
theorem pn_0 : plainName "java/lang/Record" = true := by first | (simp [plainName, overriddenIn]; done) | decide +kernel
theorem ef_2 (m : MethodId) (a : Addr) : entryFrame m #[(.ref a)] 1 = mkF m 0 #[.val (.ref a)] [] := by first | (simp [entryFrame, mkF, argsToLocals, Value.category]; done) | rfl
def Q2 (Z : State) (a : Addr) (h0 : Heap) (n0 : Nat) (v : Option Value) (h : Heap) (L : List Loc) : Prop := v = none ∧ Fr n0 L ∧ h = h0
set_option maxRecDepth 65536 in
set_option maxHeartbeats 40000000 in
theorem rm2 (l : Launch) (Z : State) (a0 : Array Value) (hw : ∀ d ∈ tables_1, d.before a0 Z = true) (ws : List Jvm.Cond) (a : Addr) (h0 : Heap) (n0 : Nat) (Z0 : n0 ≤ h0.size) :
    MetFree l (⟨"java/lang/Record", "<init>", "()V"⟩ : MethodName) (head1 (Jvm.Cond.code (⟨"java/lang/Record", "<init>", "()V"⟩ : MethodName) jdk_30_method_1_code 1 none :: ws) ({ frames := 1, cells := 0, slots := 0, locals := 12 } : Room)) (fun a' U => a' = #[(.ref a)] ∧ Z.Warmed39 U.vm ∧ U.heap = h0) (fun _ _ _ _ _ => True) (fun _ U o U' => ∃ v L, o = .returned v ∧ Q2 Z a h0 n0 v U'.heap L ∧ FrameEnd U o U' L ({ frames := 1, cells := 0, slots := 0, locals := 12 } : Room).cells ({ frames := 1, cells := 0, slots := 0, locals := 12 } : Room).slots) := by
  refine MetFree.of_bodySF (plainFor_of_name pn_0) hisR ?_
  intro p e s m args' below meth c s₁ Bd hml0 hP hK
  obtain ⟨hargs, hZ, hh⟩ := hP
  have hx := Bd.exec
  have hby := Bd.bytes
  have hml : c.maxLocals = 1 := hml0
  have hown : s.vm.findClass "java/lang/Record" = some m.cls := findClass_of_methodNamed Bd.named
  have hnm := (name_of_methodNamed Bd.named Bd.method).1
  have X0 : Stand p l e ({ frames := 1, cells := 0, slots := 0, locals := 12 } : Room) s m args' below meth c s₁ [] 0 0 := Stand.of_body Bd
  have e0 : s₁.heap = h0 := by rw [← hh, Bd.state]; rfl
  have N0 := Fr.nil n0
  obtain ⟨A0, hA0⟩ : ∃ A, A = s₁.setTop (mkF m 0 #[.val (.ref a)] []) := ⟨_, rfl⟩
  have P0 : own_Rch p.tables e below A0 (s₁.setTop (mkF m 0 #[.val (.ref a)] [])) := fun t k => hA0 ▸ k
  have P00 : own_Rch p.tables e below (s₁.setTop (entryFrame m args' 1)) A0 := fun t k => by rw [hargs]; exact castTop (ef_2 m a) (hA0 ▸ k)
  have P1 : own_Rch p.tables e below A0 (s₁.setTop (mkF m 1 #[.val (.ref a)] [(.ref a)])) := fun t k => P0 t (by
    show Steps p.tables e below (s₁.setTop (mkF m 0 #[.val (.ref a)] [])) _
    refine XS.aloadN X0.here hx rfl (hb hby d2_0) rfl rfl ?_
    exact k)
  obtain ⟨T2, X2, e2, st2⟩ := initO X0 hx hZ hown (hw _ (List.mem_of_getElem? (i := 11) rfl)) (hw _ (List.mem_of_getElem? (i := 12) rfl)) (hw _ (List.mem_of_getElem? (i := 13) rfl)) e0 (g := (mkF m 1 #[.val (.ref a)] [(.ref a)])) rfl (by rw [hml]; rfl) rfl (hb hby d2_1) (by decide) (W := 0) (by show 2 * 0 + _ ≤ _; exact Nat.le_of_eq rfl) (by decide)
  have P3 : own_Rch p.tables e below A0 (T2.setTop (mkF m 4 #[.val (.ref a)] [])) := fun t k => P1 t (st2 t k)
  obtain ⟨fs, hr, hrun, hended, hW, hsame⟩ := X2.leave (v := none) (fun _ => rfl)
  refine ⟨_, _, P00 _ (P3 _ ?_), hrun, hended, _, _, rfl, ?_, ⟨_, rfl⟩, hW, hsame.mono (by decide) (by decide)⟩
  · exact X2.returnOut hx Bd.returns (hb hby d2_4) hr
  · show Q2 Z a h0 n0 _ T2.heap _
    rw [e2]
    refine ⟨?_, N0, rfl⟩
    rfl
theorem d1_0 : decode prog_25_method_1_code 0 = .ok (.aload_n 0, 1) := by decide +kernel
theorem d1_1 : decode prog_25_method_1_code 1 = .ok (.invokespecial 1, 3) := by decide +kernel
theorem d1_4 : decode prog_25_method_1_code 4 = .ok (.aload_n 0, 1) := by decide +kernel
theorem d1_5 : decode prog_25_method_1_code 5 = .ok (.lload_n 1, 1) := by decide +kernel
theorem d1_6 : decode prog_25_method_1_code 6 = .ok (.putfield 7, 3) := by decide +kernel
theorem d1_9 : decode prog_25_method_1_code 9 = .ok (.aload_n 0, 1) := by decide +kernel
theorem d1_10 : decode prog_25_method_1_code 10 = .ok (.lload_n 3, 1) := by decide +kernel
theorem d1_11 : decode prog_25_method_1_code 11 = .ok (.putfield 13, 3) := by decide +kernel
theorem d1_14 : decode prog_25_method_1_code 14 = .ok (.aload_n 0, 1) := by decide +kernel
theorem d1_15 : decode prog_25_method_1_code 15 = .ok (.lload 5, 2) := by decide +kernel
theorem d1_17 : decode prog_25_method_1_code 17 = .ok (.putfield 16, 3) := by decide +kernel
theorem d1_20 : decode prog_25_method_1_code 20 = .ok (.return_, 1) := by decide +kernel
theorem pd_0 : parseMethodDescriptor "()V" = some ⟨[], none⟩ := by decide +kernel
theorem pn_1 : plainName "com/example/commitlog/commitlog/store/ConsumeQueue$Reach" = true := by first | (simp [plainName, overriddenIn]; done) | decide +kernel
theorem ef_1 (m : MethodId) (a : Addr) (q1 : Int64) (q2 : Int64) (q3 : Int64) : entryFrame m #[(.ref a), (.long q1), (.long q2), (.long q3)] 7 = mkF m 0 #[.val (.ref a), .val (.long q1), .second, .val (.long q2), .second, .val (.long q3), .second] [] := by first | (simp [entryFrame, mkF, argsToLocals, Value.category]; done) | rfl
def Q1 (Z : State) (a : Addr) (q1 : Int64) (q2 : Int64) (q3 : Int64) (h0 : Heap) (n0 : Nat) (v : Option Value) (h : Heap) (L : List Loc) : Prop := v = none ∧ Fr n0 L ∧ Keep h0 h [a] ∧ Exa Z h a "com/example/commitlog/commitlog/store/ConsumeQueue$Reach" ∧ Fld Z h a "com/example/commitlog/commitlog/store/ConsumeQueue$Reach" "first" "J" (.long q1) ∧ Fld Z h a "com/example/commitlog/commitlog/store/ConsumeQueue$Reach" "next" "J" (.long q2) ∧ Fld Z h a "com/example/commitlog/commitlog/store/ConsumeQueue$Reach" "min" "J" (.long q3)
set_option maxRecDepth 65536 in
set_option maxHeartbeats 40000000 in
theorem rm1 (l : Launch) (Z : State) (a0 : Array Value) (hw : ∀ d ∈ tables_1, d.before a0 Z = true) (ws : List Jvm.Cond) (a : Addr) (q1 : Int64) (q2 : Int64) (q3 : Int64) (h0 : Heap) (n0 : Nat) (Z0 : n0 ≤ h0.size) (E_a : Exa Z h0 a "com/example/commitlog/commitlog/store/ConsumeQueue$Reach") (F_a_first : Fld Z h0 a "com/example/commitlog/commitlog/store/ConsumeQueue$Reach" "first" "J" (.long (0 : Int64))) (F_a_next : Fld Z h0 a "com/example/commitlog/commitlog/store/ConsumeQueue$Reach" "next" "J" (.long (0 : Int64))) (F_a_min : Fld Z h0 a "com/example/commitlog/commitlog/store/ConsumeQueue$Reach" "min" "J" (.long (0 : Int64))) (g_a : n0 ≤ a) :
    MetFree l (⟨"com/example/commitlog/commitlog/store/ConsumeQueue$Reach", "<init>", "(JJJ)V"⟩ : MethodName) (head1 (Jvm.Cond.code (⟨"com/example/commitlog/commitlog/store/ConsumeQueue$Reach", "<init>", "(JJJ)V"⟩ : MethodName) prog_25_method_1_code 7 none :: ws) ({ frames := 2, cells := 0, slots := 0, locals := 24 } : Room)) (fun a' U => a' = #[(.ref a), (.long q1), (.long q2), (.long q3)] ∧ Z.Warmed39 U.vm ∧ U.heap = h0) (fun _ _ _ _ _ => True) (fun _ U o U' => ∃ v L, o = .returned v ∧ Q1 Z a q1 q2 q3 h0 n0 v U'.heap L ∧ FrameEnd U o U' L ({ frames := 2, cells := 0, slots := 0, locals := 24 } : Room).cells ({ frames := 2, cells := 0, slots := 0, locals := 24 } : Room).slots) := by
  refine MetFree.of_bodySF (plainFor_of_name pn_1) hisR ?_
  intro p e s m args' below meth c s₁ Bd hml0 hP hK
  obtain ⟨hargs, hZ, hh⟩ := hP
  have hx := Bd.exec
  have hby := Bd.bytes
  have hml : c.maxLocals = 7 := hml0
  have hown : s.vm.findClass "com/example/commitlog/commitlog/store/ConsumeQueue$Reach" = some m.cls := findClass_of_methodNamed Bd.named
  have hnm := (name_of_methodNamed Bd.named Bd.method).1
  have X0 : Stand p l e ({ frames := 2, cells := 0, slots := 0, locals := 24 } : Room) s m args' below meth c s₁ [] 0 0 := Stand.of_body Bd
  have e0 : s₁.heap = h0 := by rw [← hh, Bd.state]; rfl
  have N0 := Fr.nil n0
  obtain ⟨A0, hA0⟩ : ∃ A, A = s₁.setTop (mkF m 0 #[.val (.ref a), .val (.long q1), .second, .val (.long q2), .second, .val (.long q3), .second] []) := ⟨_, rfl⟩
  have P0 : own_Rch p.tables e below A0 (s₁.setTop (mkF m 0 #[.val (.ref a), .val (.long q1), .second, .val (.long q2), .second, .val (.long q3), .second] [])) := fun t k => hA0 ▸ k
  have P00 : own_Rch p.tables e below (s₁.setTop (entryFrame m args' 7)) A0 := fun t k => by rw [hargs]; exact castTop (ef_1 m a q1 q2 q3) (hA0 ▸ k)
  have K0 : Keep h0 h0 [a] := Keep.refl _ _
  have P1 : own_Rch p.tables e below A0 (s₁.setTop (mkF m 1 #[.val (.ref a), .val (.long q1), .second, .val (.long q2), .second, .val (.long q3), .second] [(.ref a)])) := fun t k => P0 t (by
    show Steps p.tables e below (s₁.setTop (mkF m 0 #[.val (.ref a), .val (.long q1), .second, .val (.long q2), .second, .val (.long q3), .second] [])) _
    refine XS.aloadN X0.here hx rfl (hb hby d1_0) rfl rfl ?_
    exact k)
  obtain ⟨_, _, ⟨T2, L2, k2, n2⟩, -, X2, ⟨Lc2, hQ2, l2, y2, z2⟩, st2⟩ := X0.specialBack hx (y := (⟨"java/lang/Record", "<init>", "()V"⟩ : MethodName)) rfl hown (mvT hZ (hw _ (List.mem_of_getElem? (i := 6) rfl))) (mvT hZ (hw _ (List.mem_of_getElem? (i := 7) rfl))) (mvT hZ (hw _ (List.mem_of_getElem? (i := 10) rfl))) (by decide) (backOf (W := 0) (rm2 l Z a0 hw [] a h0 n0 Z0 ) hZ (hw _ (List.mem_of_getElem? (i := 10) rfl)) (hw _ (List.mem_of_getElem? (i := 9) rfl)) (by decide) (by decide)) (g := (mkF m 1 #[.val (.ref a), .val (.long q1), .second, .val (.long q2), .second, .val (.long q3), .second] [(.ref a)])) rfl (by rw [hml]; rfl) (Steps.refl _) (a := a) (argsL := []) (rest := []) (lenOf pd_0 rfl) rfl (by show 2 * 0 + _ ≤ _; exact Nat.le_of_eq rfl) (hb hby d1_1) (fun _ _ => ⟨rfl, e0, (by decide : (0) + 0 ≤ _), (by decide : (0) + 0 ≤ _)⟩)
  dsimp only [Pt.U, Pt.locs, Pt.cells, Pt.slots] at X2 l2 y2 z2 st2 hQ2
  subst l2 y2 z2
  obtain ⟨rfl, N2q, e2⟩ := hQ2
  have N2 := Fr.app N0 N2q
  have P3 : own_Rch p.tables e below A0 (T2.setTop (mkF m 4 #[.val (.ref a), .val (.long q1), .second, .val (.long q2), .second, .val (.long q3), .second] [])) := fun t k => P1 t (st2.trans k)
  have P4 : own_Rch p.tables e below A0 (T2.setTop (mkF m 6 #[.val (.ref a), .val (.long q1), .second, .val (.long q2), .second, .val (.long q3), .second] [(.long q1), (.ref a)])) := fun t k => P3 t (by
    show Steps p.tables e below (T2.setTop (mkF m 4 #[.val (.ref a), .val (.long q1), .second, .val (.long q2), .second, .val (.long q3), .second] [])) _
    refine XS.aloadN X2.here hx rfl (hb hby d1_4) rfl rfl ?_
    show Steps p.tables e below (T2.setTop (mkF m 5 #[.val (.ref a), .val (.long q1), .second, .val (.long q2), .second, .val (.long q3), .second] [(.ref a)])) _
    refine XS.lloadN X2.here hx rfl (hb hby d1_5) rfl ?_
    exact k)
  obtain ⟨T5, h5, X5, e5, W5, st5⟩ := putF X2 hx hZ hown (host := "") (Or.inl (hw _ (List.mem_of_getElem? (i := 14) rfl))) Via.refl e2 F_a_first E_a (Or.inr ⟨(hw _ (List.mem_of_getElem? (i := 15) rfl)), rfl, hnm⟩) (hw _ (List.mem_of_getElem? (i := 1) rfl)) (ty := .long) (by decide) rfl rfl (g := (mkF m 6 #[.val (.ref a), .val (.long q1), .second, .val (.long q2), .second, .val (.long q3), .second] [(.long q1), (.ref a)])) rfl rfl (hb hby d1_6)
  have N5 := Fr.snoc X5 N2 g_a
  have Z_6 : n0 ≤ h5.size := Nat.le_trans Z0 (Keep.of_wr W5).1
  have E_7 : Exa Z h5 a "com/example/commitlog/commitlog/store/ConsumeQueue$Reach" := E_a.wr W5
  have F_8 : Fld Z h5 a "com/example/commitlog/commitlog/store/ConsumeQueue$Reach" "first" "J" (.long q1) := F_a_first.same W5
  have F_9 : Fld Z h5 a "com/example/commitlog/commitlog/store/ConsumeQueue$Reach" "next" "J" (.long (0 : Int64)) := F_a_next.other W5 (Or.inr (slot_ne (Or.inr (hw _ (List.mem_of_getElem? (i := 17) rfl))) (Or.inr (hw _ (List.mem_of_getElem? (i := 15) rfl))) (by decide) (t := .long) (t' := .long) (by decide) (by decide)))
  have F_10 : Fld Z h5 a "com/example/commitlog/commitlog/store/ConsumeQueue$Reach" "min" "J" (.long (0 : Int64)) := F_a_min.other W5 (Or.inr (slot_ne (Or.inr (hw _ (List.mem_of_getElem? (i := 19) rfl))) (Or.inr (hw _ (List.mem_of_getElem? (i := 15) rfl))) (by decide) (t := .long) (t' := .long) (by decide) (by decide)))
  have K_11 : Keep h0 h5 [a] := K0.wr W5 (Or.inl (List.mem_of_getElem? (i := 0) rfl))
  have P12 : own_Rch p.tables e below A0 (T5.setTop (mkF m 9 #[.val (.ref a), .val (.long q1), .second, .val (.long q2), .second, .val (.long q3), .second] [])) := fun t k => P4 t (st5 t k)
  have P13 : own_Rch p.tables e below A0 (T5.setTop (mkF m 11 #[.val (.ref a), .val (.long q1), .second, .val (.long q2), .second, .val (.long q3), .second] [(.long q2), (.ref a)])) := fun t k => P12 t (by
    show Steps p.tables e below (T5.setTop (mkF m 9 #[.val (.ref a), .val (.long q1), .second, .val (.long q2), .second, .val (.long q3), .second] [])) _
    refine XS.aloadN X5.here hx rfl (hb hby d1_9) rfl rfl ?_
    show Steps p.tables e below (T5.setTop (mkF m 10 #[.val (.ref a), .val (.long q1), .second, .val (.long q2), .second, .val (.long q3), .second] [(.ref a)])) _
    refine XS.lloadN X5.here hx rfl (hb hby d1_10) rfl ?_
    exact k)
  obtain ⟨T14, h14, X14, e14, W14, st14⟩ := putF X5 hx hZ hown (host := "") (Or.inl (hw _ (List.mem_of_getElem? (i := 16) rfl))) Via.refl e5 F_9 E_7 (Or.inr ⟨(hw _ (List.mem_of_getElem? (i := 17) rfl)), rfl, hnm⟩) (hw _ (List.mem_of_getElem? (i := 1) rfl)) (ty := .long) (by decide) rfl rfl (g := (mkF m 11 #[.val (.ref a), .val (.long q1), .second, .val (.long q2), .second, .val (.long q3), .second] [(.long q2), (.ref a)])) rfl rfl (hb hby d1_11)
  have N14 := Fr.snoc X14 N5 g_a
  have Z_15 : n0 ≤ h14.size := Nat.le_trans Z_6 (Keep.of_wr W14).1
  have E_16 : Exa Z h14 a "com/example/commitlog/commitlog/store/ConsumeQueue$Reach" := E_7.wr W14
  have F_17 : Fld Z h14 a "com/example/commitlog/commitlog/store/ConsumeQueue$Reach" "first" "J" (.long q1) := F_8.other W14 (Or.inr (slot_ne (Or.inr (hw _ (List.mem_of_getElem? (i := 15) rfl))) (Or.inr (hw _ (List.mem_of_getElem? (i := 17) rfl))) (by decide) (t := .long) (t' := .long) (by decide) (by decide)))
  have F_18 : Fld Z h14 a "com/example/commitlog/commitlog/store/ConsumeQueue$Reach" "next" "J" (.long q2) := F_9.same W14
  have F_19 : Fld Z h14 a "com/example/commitlog/commitlog/store/ConsumeQueue$Reach" "min" "J" (.long (0 : Int64)) := F_10.other W14 (Or.inr (slot_ne (Or.inr (hw _ (List.mem_of_getElem? (i := 19) rfl))) (Or.inr (hw _ (List.mem_of_getElem? (i := 17) rfl))) (by decide) (t := .long) (t' := .long) (by decide) (by decide)))
  have K_20 : Keep h0 h14 [a] := K_11.wr W14 (Or.inl (List.mem_of_getElem? (i := 0) rfl))
  have P21 : own_Rch p.tables e below A0 (T14.setTop (mkF m 14 #[.val (.ref a), .val (.long q1), .second, .val (.long q2), .second, .val (.long q3), .second] [])) := fun t k => P13 t (st14 t k)
  have P22 : own_Rch p.tables e below A0 (T14.setTop (mkF m 17 #[.val (.ref a), .val (.long q1), .second, .val (.long q2), .second, .val (.long q3), .second] [(.long q3), (.ref a)])) := fun t k => P21 t (by
    show Steps p.tables e below (T14.setTop (mkF m 14 #[.val (.ref a), .val (.long q1), .second, .val (.long q2), .second, .val (.long q3), .second] [])) _
    refine XS.aloadN X14.here hx rfl (hb hby d1_14) rfl rfl ?_
    show Steps p.tables e below (T14.setTop (mkF m 15 #[.val (.ref a), .val (.long q1), .second, .val (.long q2), .second, .val (.long q3), .second] [(.ref a)])) _
    refine XS.lload X14.here hx rfl (hb hby d1_15) rfl ?_
    exact k)
  obtain ⟨T23, h23, X23, e23, W23, st23⟩ := putF X14 hx hZ hown (host := "") (Or.inl (hw _ (List.mem_of_getElem? (i := 18) rfl))) Via.refl e14 F_19 E_16 (Or.inr ⟨(hw _ (List.mem_of_getElem? (i := 19) rfl)), rfl, hnm⟩) (hw _ (List.mem_of_getElem? (i := 1) rfl)) (ty := .long) (by decide) rfl rfl (g := (mkF m 17 #[.val (.ref a), .val (.long q1), .second, .val (.long q2), .second, .val (.long q3), .second] [(.long q3), (.ref a)])) rfl rfl (hb hby d1_17)
  have N23 := Fr.snoc X23 N14 g_a
  have Z_24 : n0 ≤ h23.size := Nat.le_trans Z_15 (Keep.of_wr W23).1
  have E_25 : Exa Z h23 a "com/example/commitlog/commitlog/store/ConsumeQueue$Reach" := E_16.wr W23
  have F_26 : Fld Z h23 a "com/example/commitlog/commitlog/store/ConsumeQueue$Reach" "first" "J" (.long q1) := F_17.other W23 (Or.inr (slot_ne (Or.inr (hw _ (List.mem_of_getElem? (i := 15) rfl))) (Or.inr (hw _ (List.mem_of_getElem? (i := 19) rfl))) (by decide) (t := .long) (t' := .long) (by decide) (by decide)))
  have F_27 : Fld Z h23 a "com/example/commitlog/commitlog/store/ConsumeQueue$Reach" "next" "J" (.long q2) := F_18.other W23 (Or.inr (slot_ne (Or.inr (hw _ (List.mem_of_getElem? (i := 17) rfl))) (Or.inr (hw _ (List.mem_of_getElem? (i := 19) rfl))) (by decide) (t := .long) (t' := .long) (by decide) (by decide)))
  have F_28 : Fld Z h23 a "com/example/commitlog/commitlog/store/ConsumeQueue$Reach" "min" "J" (.long q3) := F_19.same W23
  have K_29 : Keep h0 h23 [a] := K_20.wr W23 (Or.inl (List.mem_of_getElem? (i := 0) rfl))
  have P30 : own_Rch p.tables e below A0 (T23.setTop (mkF m 20 #[.val (.ref a), .val (.long q1), .second, .val (.long q2), .second, .val (.long q3), .second] [])) := fun t k => P22 t (st23 t k)
  obtain ⟨fs, hr, hrun, hended, hW, hsame⟩ := X23.leave (v := none) (fun _ => rfl)
  refine ⟨_, _, P00 _ (P30 _ ?_), hrun, hended, _, _, rfl, ?_, ⟨_, rfl⟩, hW, hsame.mono (by decide) (by decide)⟩
  · exact X23.returnOut hx Bd.returns (hb hby d1_20) hr
  · show Q1 Z a q1 q2 q3 h0 n0 _ T23.heap _
    rw [e23]
    refine ⟨?_, N23, K_29, E_25, F_26, F_27, F_28⟩
    rfl
theorem d4_0 : decode prog_25_method_2_code 0 = .ok (.aload_n 1, 1) := by decide +kernel
theorem d4_1 : decode prog_25_method_2_code 1 = .ok (.ifnull 52, 3) := by decide +kernel
theorem d4_4 : decode prog_25_method_2_code 4 = .ok (.aload_n 0, 1) := by decide +kernel
theorem d4_5 : decode prog_25_method_2_code 5 = .ok (.getfield 7, 3) := by decide +kernel
theorem d4_8 : decode prog_25_method_2_code 8 = .ok (.aload_n 1, 1) := by decide +kernel
theorem d4_9 : decode prog_25_method_2_code 9 = .ok (.getfield 7, 3) := by decide +kernel
theorem d4_12 : decode prog_25_method_2_code 12 = .ok (.lcmp, 1) := by decide +kernel
theorem d4_13 : decode prog_25_method_2_code 13 = .ok (.ifCond .ne 40, 3) := by decide +kernel
theorem d4_16 : decode prog_25_method_2_code 16 = .ok (.aload_n 0, 1) := by decide +kernel
theorem d4_17 : decode prog_25_method_2_code 17 = .ok (.getfield 13, 3) := by decide +kernel
theorem d4_20 : decode prog_25_method_2_code 20 = .ok (.aload_n 1, 1) := by decide +kernel
theorem d4_21 : decode prog_25_method_2_code 21 = .ok (.getfield 13, 3) := by decide +kernel
theorem d4_24 : decode prog_25_method_2_code 24 = .ok (.lcmp, 1) := by decide +kernel
theorem d4_25 : decode prog_25_method_2_code 25 = .ok (.ifCond .ne 28, 3) := by decide +kernel
theorem d4_28 : decode prog_25_method_2_code 28 = .ok (.aload_n 1, 1) := by decide +kernel
theorem d4_29 : decode prog_25_method_2_code 29 = .ok (.getfield 16, 3) := by decide +kernel
theorem d4_32 : decode prog_25_method_2_code 32 = .ok (.lconst 0, 1) := by decide +kernel
theorem d4_33 : decode prog_25_method_2_code 33 = .ok (.lcmp, 1) := by decide +kernel
theorem d4_34 : decode prog_25_method_2_code 34 = .ok (.ifCond .lt 15, 3) := by decide +kernel
theorem d4_37 : decode prog_25_method_2_code 37 = .ok (.aload_n 0, 1) := by decide +kernel
theorem d4_38 : decode prog_25_method_2_code 38 = .ok (.getfield 16, 3) := by decide +kernel
theorem d4_41 : decode prog_25_method_2_code 41 = .ok (.aload_n 1, 1) := by decide +kernel
theorem d4_42 : decode prog_25_method_2_code 42 = .ok (.getfield 16, 3) := by decide +kernel
theorem d4_45 : decode prog_25_method_2_code 45 = .ok (.lcmp, 1) := by decide +kernel
theorem d4_46 : decode prog_25_method_2_code 46 = .ok (.ifCond .ne 7, 3) := by decide +kernel
theorem d4_49 : decode prog_25_method_2_code 49 = .ok (.iconst 1, 1) := by decide +kernel
theorem d4_50 : decode prog_25_method_2_code 50 = .ok (.goto 4, 3) := by decide +kernel
theorem d4_53 : decode prog_25_method_2_code 53 = .ok (.iconst 0, 1) := by decide +kernel
theorem d4_54 : decode prog_25_method_2_code 54 = .ok (.ireturn, 1) := by decide +kernel
theorem ef_4n (m : MethodId) (a : Addr) : entryFrame m #[(.ref a), .null] 2 = mkF m 0 #[.val (.ref a), .val .null] [] := by first | (simp [entryFrame, mkF, argsToLocals, Value.category]; done) | rfl
def Q4n (Z : State) (a : Addr) (h0 : Heap) (n0 : Nat) (v : Option Value) (h : Heap) (L : List Loc) : Prop := v = some (.int (0 : Int32)) ∧ Fr n0 L ∧ h = h0
set_option maxRecDepth 65536 in
set_option maxHeartbeats 40000000 in
theorem rm4n (l : Launch) (Z : State) (a0 : Array Value) (hw : ∀ d ∈ tables_1, d.before a0 Z = true) (ws : List Jvm.Cond) (a : Addr) (h0 : Heap) (n0 : Nat) (Z0 : n0 ≤ h0.size) :
    MetFree l (⟨"com/example/commitlog/commitlog/store/ConsumeQueue$Reach", "isAsNoted", "(Lcom/example/commitlog/commitlog/store/ConsumeQueue$Reach;)Z"⟩ : MethodName) (head1 (Jvm.Cond.code (⟨"com/example/commitlog/commitlog/store/ConsumeQueue$Reach", "isAsNoted", "(Lcom/example/commitlog/commitlog/store/ConsumeQueue$Reach;)Z"⟩ : MethodName) prog_25_method_2_code 2 (some .boolean) :: ws) ({ frames := 0, cells := 0, slots := 0, locals := 0 } : Room)) (fun a' U => a' = #[(.ref a), .null] ∧ Z.Warmed39 U.vm ∧ U.heap = h0) (fun _ _ _ _ _ => True) (fun _ U o U' => ∃ v L, o = .returned v ∧ Q4n Z a h0 n0 v U'.heap L ∧ FrameEnd U o U' L ({ frames := 0, cells := 0, slots := 0, locals := 0 } : Room).cells ({ frames := 0, cells := 0, slots := 0, locals := 0 } : Room).slots) := by
  refine MetFree.of_bodySF (plainFor_of_name pn_1) hisR ?_
  intro p e s m args' below meth c s₁ Bd hml0 hP hK
  obtain ⟨hargs, hZ, hh⟩ := hP
  have hx := Bd.exec
  have hby := Bd.bytes
  have hml : c.maxLocals = 2 := hml0
  have hown : s.vm.findClass "com/example/commitlog/commitlog/store/ConsumeQueue$Reach" = some m.cls := findClass_of_methodNamed Bd.named
  have hnm := (name_of_methodNamed Bd.named Bd.method).1
  have X0 : Stand p l e ({ frames := 0, cells := 0, slots := 0, locals := 0 } : Room) s m args' below meth c s₁ [] 0 0 := Stand.of_body Bd
  have e0 : s₁.heap = h0 := by rw [← hh, Bd.state]; rfl
  have N0 := Fr.nil n0
  obtain ⟨A0, hA0⟩ : ∃ A, A = s₁.setTop (mkF m 0 #[.val (.ref a), .val .null] []) := ⟨_, rfl⟩
  have P0 : own_Rch p.tables e below A0 (s₁.setTop (mkF m 0 #[.val (.ref a), .val .null] [])) := fun t k => hA0 ▸ k
  have P00 : own_Rch p.tables e below (s₁.setTop (entryFrame m args' 2)) A0 := fun t k => by rw [hargs]; exact castTop (ef_4n m a) (hA0 ▸ k)
  have P1 : own_Rch p.tables e below A0 (s₁.setTop (mkF m 54 #[.val (.ref a), .val .null] [(.int (0 : Int32))])) := fun t k => P0 t (by
    show Steps p.tables e below (s₁.setTop (mkF m 0 #[.val (.ref a), .val .null] [])) _
    refine XS.aloadN X0.here hx rfl (hb hby d4_0) rfl rfl ?_
    show Steps p.tables e below (s₁.setTop (mkF m 1 #[.val (.ref a), .val .null] [.null])) _
    refine XS.ifnullYes X0.here hx rfl (pc0 := 1) (pc' := 53) rfl (hb hby d4_1) rfl (by decide) (by decide) ?_
    show Steps p.tables e below (s₁.setTop (mkF m 53 #[.val (.ref a), .val .null] [])) _
    refine XS.iconst X0.here hx rfl (hb hby d4_53) ?_
    exact k)
  obtain ⟨fs, hr, hrun, hended, hW, hsame⟩ := X0.leave (v := some (.int (nar .boolean (0 : Int32)))) (fun h => by rw [Bd.returns] at h; cases h)
  refine ⟨_, _, P00 _ (P1 _ ?_), hrun, hended, _, _, rfl, ?_, ⟨_, rfl⟩, hW, hsame.mono (by decide) (by decide)⟩
  · exact retN X0 hx (t := .boolean) Bd.returns (by simp) (hb hby d4_54) hr
  · show Q4n Z a h0 n0 _ s₁.heap _
    rw [e0]
    refine ⟨?_, N0, rfl⟩
    skip
    rfl
def own_as (fa : Int64) (na : Int64) (ma : Int64) (fb : Int64) (nb : Int64) (mb : Int64) : Int32 := (if fa = fb then (if na = nb then (if mb < (0 : Int64) then (1 : Int32) else (if ma = mb then (1 : Int32) else (0 : Int32))) else (0 : Int32)) else (0 : Int32))
theorem ef_4 (m : MethodId) (a : Addr) (b : Addr) : entryFrame m #[(.ref a), (.ref b)] 2 = mkF m 0 #[.val (.ref a), .val (.ref b)] [] := by first | (simp [entryFrame, mkF, argsToLocals, Value.category]; done) | rfl
def Q4 (Z : State) (a : Addr) (b : Addr) (fa : Int64) (na : Int64) (ma : Int64) (fb : Int64) (nb : Int64) (mb : Int64) (h0 : Heap) (n0 : Nat) (v : Option Value) (h : Heap) (L : List Loc) : Prop := v = some (.int (own_as fa na ma fb nb mb)) ∧ Fr n0 L ∧ h = h0
set_option maxRecDepth 65536 in
set_option maxHeartbeats 40000000 in
theorem rm4 (l : Launch) (Z : State) (a0 : Array Value) (hw : ∀ d ∈ tables_1, d.before a0 Z = true) (ws : List Jvm.Cond) (a : Addr) (b : Addr) (fa : Int64) (na : Int64) (ma : Int64) (fb : Int64) (nb : Int64) (mb : Int64) (h0 : Heap) (n0 : Nat) (Z0 : n0 ≤ h0.size) (F_afirst : Fld Z h0 a "com/example/commitlog/commitlog/store/ConsumeQueue$Reach" "first" "J" (.long fa)) (F_anext : Fld Z h0 a "com/example/commitlog/commitlog/store/ConsumeQueue$Reach" "next" "J" (.long na)) (F_amin : Fld Z h0 a "com/example/commitlog/commitlog/store/ConsumeQueue$Reach" "min" "J" (.long ma)) (F_bfirst : Fld Z h0 b "com/example/commitlog/commitlog/store/ConsumeQueue$Reach" "first" "J" (.long fb)) (F_bnext : Fld Z h0 b "com/example/commitlog/commitlog/store/ConsumeQueue$Reach" "next" "J" (.long nb)) (F_bmin : Fld Z h0 b "com/example/commitlog/commitlog/store/ConsumeQueue$Reach" "min" "J" (.long mb)) :
    MetFree l (⟨"com/example/commitlog/commitlog/store/ConsumeQueue$Reach", "isAsNoted", "(Lcom/example/commitlog/commitlog/store/ConsumeQueue$Reach;)Z"⟩ : MethodName) (head1 (Jvm.Cond.code (⟨"com/example/commitlog/commitlog/store/ConsumeQueue$Reach", "isAsNoted", "(Lcom/example/commitlog/commitlog/store/ConsumeQueue$Reach;)Z"⟩ : MethodName) prog_25_method_2_code 2 (some .boolean) :: ws) ({ frames := 0, cells := 0, slots := 0, locals := 0 } : Room)) (fun a' U => a' = #[(.ref a), (.ref b)] ∧ Z.Warmed39 U.vm ∧ U.heap = h0) (fun _ _ _ _ _ => True) (fun _ U o U' => ∃ v L, o = .returned v ∧ Q4 Z a b fa na ma fb nb mb h0 n0 v U'.heap L ∧ FrameEnd U o U' L ({ frames := 0, cells := 0, slots := 0, locals := 0 } : Room).cells ({ frames := 0, cells := 0, slots := 0, locals := 0 } : Room).slots) := by
  refine MetFree.of_bodySF (plainFor_of_name pn_1) hisR ?_
  intro p e s m args' below meth c s₁ Bd hml0 hP hK
  obtain ⟨hargs, hZ, hh⟩ := hP
  have hx := Bd.exec
  have hby := Bd.bytes
  have hml : c.maxLocals = 2 := hml0
  have hown : s.vm.findClass "com/example/commitlog/commitlog/store/ConsumeQueue$Reach" = some m.cls := findClass_of_methodNamed Bd.named
  have hnm := (name_of_methodNamed Bd.named Bd.method).1
  have X0 : Stand p l e ({ frames := 0, cells := 0, slots := 0, locals := 0 } : Room) s m args' below meth c s₁ [] 0 0 := Stand.of_body Bd
  have e0 : s₁.heap = h0 := by rw [← hh, Bd.state]; rfl
  have N0 := Fr.nil n0
  obtain ⟨A0, hA0⟩ : ∃ A, A = s₁.setTop (mkF m 0 #[.val (.ref a), .val (.ref b)] []) := ⟨_, rfl⟩
  have P0 : own_Rch p.tables e below A0 (s₁.setTop (mkF m 0 #[.val (.ref a), .val (.ref b)] [])) := fun t k => hA0 ▸ k
  have P00 : own_Rch p.tables e below (s₁.setTop (entryFrame m args' 2)) A0 := fun t k => by rw [hargs]; exact castTop (ef_4 m a b) (hA0 ▸ k)
  have P1 : own_Rch p.tables e below A0 (s₁.setTop (mkF m 5 #[.val (.ref a), .val (.ref b)] [(.ref a)])) := fun t k => P0 t (by
    show Steps p.tables e below (s₁.setTop (mkF m 0 #[.val (.ref a), .val (.ref b)] [])) _
    refine XS.aloadN X0.here hx rfl (hb hby d4_0) rfl rfl ?_
    show Steps p.tables e below (s₁.setTop (mkF m 1 #[.val (.ref a), .val (.ref b)] [(.ref b)])) _
    refine XS.ifnullNo X0.here hx rfl (hb hby d4_1) rfl ?_
    show Steps p.tables e below (s₁.setTop (mkF m 4 #[.val (.ref a), .val (.ref b)] [])) _
    refine XS.aloadN X0.here hx rfl (hb hby d4_4) rfl rfl ?_
    exact k)
  obtain ⟨T2, X2, e2, st2⟩ := getF X0 hx hZ hown (host := "") (Or.inl (hw _ (List.mem_of_getElem? (i := 14) rfl))) Via.refl e0 F_afirst (g := (mkF m 5 #[.val (.ref a), .val (.ref b)] [(.ref a)])) rfl rfl (hb hby d4_5)
  have P3 : own_Rch p.tables e below A0 (T2.setTop (mkF m 8 #[.val (.ref a), .val (.ref b)] [(.long fa)])) := fun t k => P1 t (st2 t k)
  have P4 : own_Rch p.tables e below A0 (T2.setTop (mkF m 9 #[.val (.ref a), .val (.ref b)] [(.ref b), (.long fa)])) := fun t k => P3 t (by
    show Steps p.tables e below (T2.setTop (mkF m 8 #[.val (.ref a), .val (.ref b)] [(.long fa)])) _
    refine XS.aloadN X2.here hx rfl (hb hby d4_8) rfl rfl ?_
    exact k)
  obtain ⟨T5, X5, e5, st5⟩ := getF X2 hx hZ hown (host := "") (Or.inl (hw _ (List.mem_of_getElem? (i := 14) rfl))) Via.refl e2 F_bfirst (g := (mkF m 9 #[.val (.ref a), .val (.ref b)] [(.ref b), (.long fa)])) rfl rfl (hb hby d4_9)
  have P6 : own_Rch p.tables e below A0 (T5.setTop (mkF m 12 #[.val (.ref a), .val (.ref b)] [(.long fb), (.long fa)])) := fun t k => P4 t (st5 t k)
  have P8 : own_Rch p.tables e below A0 (T5.setTop (mkF m 13 #[.val (.ref a), .val (.ref b)] [(.int (lcmpW fa fb))])) := fun t k => P6 t (by
    show Steps p.tables e below (T5.setTop (mkF m 12 #[.val (.ref a), .val (.ref b)] [(.long fb), (.long fa)])) _
    refine XS.lcmp X5.here hx rfl (hb hby d4_12) rfl ?_
    exact k)
  by_cases hc7 : fa = fb
  · -- fa = fb
    have P9 : own_Rch p.tables e below A0 (T5.setTop (mkF m 17 #[.val (.ref a), .val (.ref b)] [(.ref a)])) := fun t k => P8 t (by
      show Steps p.tables e below (T5.setTop (mkF m 13 #[.val (.ref a), .val (.ref b)] [(.int (lcmpW fa fb))])) _
      refine XS.ifNo X5.here hx rfl (hb hby d4_13) rfl (own_lct3 hc7).2 ?_
      show Steps p.tables e below (T5.setTop (mkF m 16 #[.val (.ref a), .val (.ref b)] [])) _
      refine XS.aloadN X5.here hx rfl (hb hby d4_16) rfl rfl ?_
      exact k)
    obtain ⟨T10, X10, e10, st10⟩ := getF X5 hx hZ hown (host := "") (Or.inl (hw _ (List.mem_of_getElem? (i := 16) rfl))) Via.refl e5 F_anext (g := (mkF m 17 #[.val (.ref a), .val (.ref b)] [(.ref a)])) rfl rfl (hb hby d4_17)
    have P11 : own_Rch p.tables e below A0 (T10.setTop (mkF m 20 #[.val (.ref a), .val (.ref b)] [(.long na)])) := fun t k => P9 t (st10 t k)
    have P12 : own_Rch p.tables e below A0 (T10.setTop (mkF m 21 #[.val (.ref a), .val (.ref b)] [(.ref b), (.long na)])) := fun t k => P11 t (by
      show Steps p.tables e below (T10.setTop (mkF m 20 #[.val (.ref a), .val (.ref b)] [(.long na)])) _
      refine XS.aloadN X10.here hx rfl (hb hby d4_20) rfl rfl ?_
      exact k)
    obtain ⟨T13, X13, e13, st13⟩ := getF X10 hx hZ hown (host := "") (Or.inl (hw _ (List.mem_of_getElem? (i := 16) rfl))) Via.refl e10 F_bnext (g := (mkF m 21 #[.val (.ref a), .val (.ref b)] [(.ref b), (.long na)])) rfl rfl (hb hby d4_21)
    have P14 : own_Rch p.tables e below A0 (T13.setTop (mkF m 24 #[.val (.ref a), .val (.ref b)] [(.long nb), (.long na)])) := fun t k => P12 t (st13 t k)
    have P16 : own_Rch p.tables e below A0 (T13.setTop (mkF m 25 #[.val (.ref a), .val (.ref b)] [(.int (lcmpW na nb))])) := fun t k => P14 t (by
      show Steps p.tables e below (T13.setTop (mkF m 24 #[.val (.ref a), .val (.ref b)] [(.long nb), (.long na)])) _
      refine XS.lcmp X13.here hx rfl (hb hby d4_24) rfl ?_
      exact k)
    by_cases hc15 : na = nb
    · -- na = nb
      have P17 : own_Rch p.tables e below A0 (T13.setTop (mkF m 29 #[.val (.ref a), .val (.ref b)] [(.ref b)])) := fun t k => P16 t (by
        show Steps p.tables e below (T13.setTop (mkF m 25 #[.val (.ref a), .val (.ref b)] [(.int (lcmpW na nb))])) _
        refine XS.ifNo X13.here hx rfl (hb hby d4_25) rfl (own_lct3 hc15).2 ?_
        show Steps p.tables e below (T13.setTop (mkF m 28 #[.val (.ref a), .val (.ref b)] [])) _
        refine XS.aloadN X13.here hx rfl (hb hby d4_28) rfl rfl ?_
        exact k)
      obtain ⟨T18, X18, e18, st18⟩ := getF X13 hx hZ hown (host := "") (Or.inl (hw _ (List.mem_of_getElem? (i := 18) rfl))) Via.refl e13 F_bmin (g := (mkF m 29 #[.val (.ref a), .val (.ref b)] [(.ref b)])) rfl rfl (hb hby d4_29)
      have P19 : own_Rch p.tables e below A0 (T18.setTop (mkF m 32 #[.val (.ref a), .val (.ref b)] [(.long mb)])) := fun t k => P17 t (st18 t k)
      have P21 : own_Rch p.tables e below A0 (T18.setTop (mkF m 34 #[.val (.ref a), .val (.ref b)] [(.int (lcmpW mb (0 : Int64)))])) := fun t k => P19 t (by
        show Steps p.tables e below (T18.setTop (mkF m 32 #[.val (.ref a), .val (.ref b)] [(.long mb)])) _
        refine XS.lconst X18.here hx rfl (hb hby d4_32) ?_
        show Steps p.tables e below (T18.setTop (mkF m 33 #[.val (.ref a), .val (.ref b)] [(.long (0 : Int64)), (.long mb)])) _
        refine XS.lcmp X18.here hx rfl (hb hby d4_33) rfl ?_
        exact k)
      by_cases hc20 : mb < (0 : Int64)
      · -- mb < (0 : Int64)
        have P22 : own_Rch p.tables e below A0 (T18.setTop (mkF m 54 #[.val (.ref a), .val (.ref b)] [(.int (1 : Int32))])) := fun t k => P21 t (by
          show Steps p.tables e below (T18.setTop (mkF m 34 #[.val (.ref a), .val (.ref b)] [(.int (lcmpW mb (0 : Int64)))])) _
          refine XS.ifYes X18.here hx rfl (pc0 := 34) (pc' := 49) rfl (hb hby d4_34) rfl (own_lct1 hc20).1 (by decide) (by decide) ?_
          show Steps p.tables e below (T18.setTop (mkF m 49 #[.val (.ref a), .val (.ref b)] [])) _
          refine XS.iconst X18.here hx rfl (hb hby d4_49) ?_
          show Steps p.tables e below (T18.setTop (mkF m 50 #[.val (.ref a), .val (.ref b)] [(.int (1 : Int32))])) _
          refine XS.goto X18.here hx rfl (pc0 := 50) (pc' := 54) rfl (hb hby d4_50) (by decide) (by decide) ?_
          exact k)
        obtain ⟨fs, hr, hrun, hended, hW, hsame⟩ := X18.leave (v := some (.int (nar .boolean (1 : Int32)))) (fun h => by rw [Bd.returns] at h; cases h)
        refine ⟨_, _, P00 _ (P22 _ ?_), hrun, hended, _, _, rfl, ?_, ⟨_, rfl⟩, hW, hsame.mono (by decide) (by decide)⟩
        · exact retN X18 hx (t := .boolean) Bd.returns (by simp) (hb hby d4_54) hr
        · show Q4 Z a b fa na ma fb nb mb h0 n0 _ T18.heap _
          rw [e18]
          refine ⟨?_, N0, rfl⟩
          skip
          (try simp only [own_as, if_pos hc7, if_pos hc15, if_pos hc20])
          (try rfl)
      · -- not mb < (0 : Int64)
        have P23 : own_Rch p.tables e below A0 (T18.setTop (mkF m 38 #[.val (.ref a), .val (.ref b)] [(.ref a)])) := fun t k => P21 t (by
          show Steps p.tables e below (T18.setTop (mkF m 34 #[.val (.ref a), .val (.ref b)] [(.int (lcmpW mb (0 : Int64)))])) _
          refine XS.ifNo X18.here hx rfl (hb hby d4_34) rfl (own_lcf1 hc20).1 ?_
          show Steps p.tables e below (T18.setTop (mkF m 37 #[.val (.ref a), .val (.ref b)] [])) _
          refine XS.aloadN X18.here hx rfl (hb hby d4_37) rfl rfl ?_
          exact k)
        obtain ⟨T24, X24, e24, st24⟩ := getF X18 hx hZ hown (host := "") (Or.inl (hw _ (List.mem_of_getElem? (i := 18) rfl))) Via.refl e18 F_amin (g := (mkF m 38 #[.val (.ref a), .val (.ref b)] [(.ref a)])) rfl rfl (hb hby d4_38)
        have P25 : own_Rch p.tables e below A0 (T24.setTop (mkF m 41 #[.val (.ref a), .val (.ref b)] [(.long ma)])) := fun t k => P23 t (st24 t k)
        have P26 : own_Rch p.tables e below A0 (T24.setTop (mkF m 42 #[.val (.ref a), .val (.ref b)] [(.ref b), (.long ma)])) := fun t k => P25 t (by
          show Steps p.tables e below (T24.setTop (mkF m 41 #[.val (.ref a), .val (.ref b)] [(.long ma)])) _
          refine XS.aloadN X24.here hx rfl (hb hby d4_41) rfl rfl ?_
          exact k)
        obtain ⟨T27, X27, e27, st27⟩ := getF X24 hx hZ hown (host := "") (Or.inl (hw _ (List.mem_of_getElem? (i := 18) rfl))) Via.refl e24 F_bmin (g := (mkF m 42 #[.val (.ref a), .val (.ref b)] [(.ref b), (.long ma)])) rfl rfl (hb hby d4_42)
        have P28 : own_Rch p.tables e below A0 (T27.setTop (mkF m 45 #[.val (.ref a), .val (.ref b)] [(.long mb), (.long ma)])) := fun t k => P26 t (st27 t k)
        have P30 : own_Rch p.tables e below A0 (T27.setTop (mkF m 46 #[.val (.ref a), .val (.ref b)] [(.int (lcmpW ma mb))])) := fun t k => P28 t (by
          show Steps p.tables e below (T27.setTop (mkF m 45 #[.val (.ref a), .val (.ref b)] [(.long mb), (.long ma)])) _
          refine XS.lcmp X27.here hx rfl (hb hby d4_45) rfl ?_
          exact k)
        by_cases hc29 : ma = mb
        · -- ma = mb
          have P31 : own_Rch p.tables e below A0 (T27.setTop (mkF m 54 #[.val (.ref a), .val (.ref b)] [(.int (1 : Int32))])) := fun t k => P30 t (by
            show Steps p.tables e below (T27.setTop (mkF m 46 #[.val (.ref a), .val (.ref b)] [(.int (lcmpW ma mb))])) _
            refine XS.ifNo X27.here hx rfl (hb hby d4_46) rfl (own_lct3 hc29).2 ?_
            show Steps p.tables e below (T27.setTop (mkF m 49 #[.val (.ref a), .val (.ref b)] [])) _
            refine XS.iconst X27.here hx rfl (hb hby d4_49) ?_
            show Steps p.tables e below (T27.setTop (mkF m 50 #[.val (.ref a), .val (.ref b)] [(.int (1 : Int32))])) _
            refine XS.goto X27.here hx rfl (pc0 := 50) (pc' := 54) rfl (hb hby d4_50) (by decide) (by decide) ?_
            exact k)
          obtain ⟨fs, hr, hrun, hended, hW, hsame⟩ := X27.leave (v := some (.int (nar .boolean (1 : Int32)))) (fun h => by rw [Bd.returns] at h; cases h)
          refine ⟨_, _, P00 _ (P31 _ ?_), hrun, hended, _, _, rfl, ?_, ⟨_, rfl⟩, hW, hsame.mono (by decide) (by decide)⟩
          · exact retN X27 hx (t := .boolean) Bd.returns (by simp) (hb hby d4_54) hr
          · show Q4 Z a b fa na ma fb nb mb h0 n0 _ T27.heap _
            rw [e27]
            refine ⟨?_, N0, rfl⟩
            skip
            (try simp only [own_as, if_pos hc7, if_pos hc15, if_neg hc20, if_pos hc29])
            (try rfl)
        · -- not ma = mb
          have P32 : own_Rch p.tables e below A0 (T27.setTop (mkF m 54 #[.val (.ref a), .val (.ref b)] [(.int (0 : Int32))])) := fun t k => P30 t (by
            show Steps p.tables e below (T27.setTop (mkF m 46 #[.val (.ref a), .val (.ref b)] [(.int (lcmpW ma mb))])) _
            refine XS.ifYes X27.here hx rfl (pc0 := 46) (pc' := 53) rfl (hb hby d4_46) rfl (own_lcf3 hc29).2 (by decide) (by decide) ?_
            show Steps p.tables e below (T27.setTop (mkF m 53 #[.val (.ref a), .val (.ref b)] [])) _
            refine XS.iconst X27.here hx rfl (hb hby d4_53) ?_
            exact k)
          obtain ⟨fs, hr, hrun, hended, hW, hsame⟩ := X27.leave (v := some (.int (nar .boolean (0 : Int32)))) (fun h => by rw [Bd.returns] at h; cases h)
          refine ⟨_, _, P00 _ (P32 _ ?_), hrun, hended, _, _, rfl, ?_, ⟨_, rfl⟩, hW, hsame.mono (by decide) (by decide)⟩
          · exact retN X27 hx (t := .boolean) Bd.returns (by simp) (hb hby d4_54) hr
          · show Q4 Z a b fa na ma fb nb mb h0 n0 _ T27.heap _
            rw [e27]
            refine ⟨?_, N0, rfl⟩
            skip
            (try simp only [own_as, if_pos hc7, if_pos hc15, if_neg hc20, if_neg hc29])
            (try rfl)
    · -- not na = nb
      have P33 : own_Rch p.tables e below A0 (T13.setTop (mkF m 54 #[.val (.ref a), .val (.ref b)] [(.int (0 : Int32))])) := fun t k => P16 t (by
        show Steps p.tables e below (T13.setTop (mkF m 25 #[.val (.ref a), .val (.ref b)] [(.int (lcmpW na nb))])) _
        refine XS.ifYes X13.here hx rfl (pc0 := 25) (pc' := 53) rfl (hb hby d4_25) rfl (own_lcf3 hc15).2 (by decide) (by decide) ?_
        show Steps p.tables e below (T13.setTop (mkF m 53 #[.val (.ref a), .val (.ref b)] [])) _
        refine XS.iconst X13.here hx rfl (hb hby d4_53) ?_
        exact k)
      obtain ⟨fs, hr, hrun, hended, hW, hsame⟩ := X13.leave (v := some (.int (nar .boolean (0 : Int32)))) (fun h => by rw [Bd.returns] at h; cases h)
      refine ⟨_, _, P00 _ (P33 _ ?_), hrun, hended, _, _, rfl, ?_, ⟨_, rfl⟩, hW, hsame.mono (by decide) (by decide)⟩
      · exact retN X13 hx (t := .boolean) Bd.returns (by simp) (hb hby d4_54) hr
      · show Q4 Z a b fa na ma fb nb mb h0 n0 _ T13.heap _
        rw [e13]
        refine ⟨?_, N0, rfl⟩
        skip
        (try simp only [own_as, if_pos hc7, if_neg hc15])
        (try rfl)
  · -- not fa = fb
    have P34 : own_Rch p.tables e below A0 (T5.setTop (mkF m 54 #[.val (.ref a), .val (.ref b)] [(.int (0 : Int32))])) := fun t k => P8 t (by
      show Steps p.tables e below (T5.setTop (mkF m 13 #[.val (.ref a), .val (.ref b)] [(.int (lcmpW fa fb))])) _
      refine XS.ifYes X5.here hx rfl (pc0 := 13) (pc' := 53) rfl (hb hby d4_13) rfl (own_lcf3 hc7).2 (by decide) (by decide) ?_
      show Steps p.tables e below (T5.setTop (mkF m 53 #[.val (.ref a), .val (.ref b)] [])) _
      refine XS.iconst X5.here hx rfl (hb hby d4_53) ?_
      exact k)
    obtain ⟨fs, hr, hrun, hended, hW, hsame⟩ := X5.leave (v := some (.int (nar .boolean (0 : Int32)))) (fun h => by rw [Bd.returns] at h; cases h)
    refine ⟨_, _, P00 _ (P34 _ ?_), hrun, hended, _, _, rfl, ?_, ⟨_, rfl⟩, hW, hsame.mono (by decide) (by decide)⟩
    · exact retN X5 hx (t := .boolean) Bd.returns (by simp) (hb hby d4_54) hr
    · show Q4 Z a b fa na ma fb nb mb h0 n0 _ T5.heap _
      rw [e5]
      refine ⟨?_, N0, rfl⟩
      skip
      (try simp only [own_as, if_neg hc7])
      (try rfl)
theorem own_eq (a b c x y z : Int64) : own_as a b c x y z = if x = a then (if y = b then (if z < 0 then 1 else (if z = c then 1 else 0)) else 0) else 0 := by
  simp only [own_as, @eq_comm _ a x, @eq_comm _ b y, @eq_comm _ c z]
theorem pd_1 : parseMethodDescriptor "(JJJ)V" = some ⟨[.long, .long, .long], none⟩ := by decide +kernel
theorem pd_2 : parseMethodDescriptor "(Lcom/example/commitlog/commitlog/store/ConsumeQueue$Reach;)Z" = some ⟨[(.object "com/example/commitlog/commitlog/store/ConsumeQueue$Reach")], some .boolean⟩ := by decide +kernel
theorem pn_2 : plainName "com/example/commitlog/commitlog/store/ReachIsAsNotedPinLaw" = true := by first | (simp [plainName, overriddenIn]; done) | decide +kernel
theorem ef_0 (m : MethodId) (i0 : Int64) (i1 : Int64) (i2 : Int64) (i3 : Int64) (i4 : Int64) (i5 : Int32) : entryFrame m #[(.long i0), (.long i1), (.long i2), (.long i3), (.long i4), (.int i5)] maxLocals = mkF m 0 #[.val (.long i0), .second, .val (.long i1), .second, .val (.long i2), .second, .val (.long i3), .second, .val (.long i4), .second, .val (.int i5), .unset, .unset, .unset, .unset, .unset, .unset, .unset, .unset, .unset, .unset, .unset, .unset] [] := by first | (simp [entryFrame, mkF, argsToLocals, Value.category, maxLocals]; done) | rfl
def Q0 (Z : State) (i0 : Int64) (i1 : Int64) (i2 : Int64) (i3 : Int64) (i4 : Int64) (i5 : Int32) (h0 : Heap) (n0 : Nat) (v : Option Value) (h : Heap) (L : List Loc) : Prop := v = some (.int 1) ∧ Fr n0 L
set_option maxRecDepth 65536 in
set_option maxHeartbeats 40000000 in
theorem rm0 (l : Launch) (Z : State) (a0 : Array Value) (hw : ∀ d ∈ tables_1, d.before a0 Z = true) (ws : List Jvm.Cond) (i0 : Int64) (i1 : Int64) (i2 : Int64) (i3 : Int64) (i4 : Int64) (i5 : Int32) (h0 : Heap) (n0 : Nat) (Z0 : n0 ≤ h0.size) :
    MetFree l x (head1 (Jvm.Cond.code x code maxLocals ret :: ws) room_1) (fun a' U => a' = #[(.long i0), (.long i1), (.long i2), (.long i3), (.long i4), (.int i5)] ∧ Z.Warmed39 U.vm ∧ U.heap = h0) (fun _ _ _ _ _ => True) (fun _ U o U' => ∃ v L, o = .returned v ∧ Q0 Z i0 i1 i2 i3 i4 i5 h0 n0 v U'.heap L ∧ FrameEnd U o U' L 2 6) := by
  refine MetFree.of_bodySF (plainFor_of_name pn_2) hisR ?_
  intro p e s m args' below meth c s₁ Bd hml0 hP hK
  obtain ⟨hargs, hZ, hh⟩ := hP
  have hx := Bd.exec
  have hby := Bd.bytes
  have hml : c.maxLocals = 23 := hml0
  have hown : s.vm.findClass "com/example/commitlog/commitlog/store/ReachIsAsNotedPinLaw" = some m.cls := findClass_of_methodNamed Bd.named
  have hnm := (name_of_methodNamed Bd.named Bd.method).1
  have X0 : Stand p l e room_1 s m args' below meth c s₁ [] 0 0 := Stand.of_body Bd
  have e0 : s₁.heap = h0 := by rw [← hh, Bd.state]; rfl
  have N0 := Fr.nil n0
  obtain ⟨A0, hA0⟩ : ∃ A, A = s₁.setTop (mkF m 0 #[.val (.long i0), .second, .val (.long i1), .second, .val (.long i2), .second, .val (.long i3), .second, .val (.long i4), .second, .val (.int i5), .unset, .unset, .unset, .unset, .unset, .unset, .unset, .unset, .unset, .unset, .unset, .unset] []) := ⟨_, rfl⟩
  have P0 : own_Rch p.tables e below A0 (s₁.setTop (mkF m 0 #[.val (.long i0), .second, .val (.long i1), .second, .val (.long i2), .second, .val (.long i3), .second, .val (.long i4), .second, .val (.int i5), .unset, .unset, .unset, .unset, .unset, .unset, .unset, .unset, .unset, .unset, .unset, .unset] [])) := fun t k => hA0 ▸ k
  have P00 : own_Rch p.tables e below (s₁.setTop (entryFrame m args' maxLocals)) A0 := fun t k => by rw [hargs]; exact castTop (ef_0 m i0 i1 i2 i3 i4 i5) (hA0 ▸ k)
  obtain ⟨T1, h1, X1, e1, E1, A1, D1, -, st1⟩ := newO X0 hx hZ hown (hw _ (List.mem_of_getElem? (i := 0) rfl)) (hw _ (List.mem_of_getElem? (i := 1) rfl)) (hw _ (List.mem_of_getElem? (i := 2) rfl)) e0 (g := (mkF m 0 #[.val (.long i0), .second, .val (.long i1), .second, .val (.long i2), .second, .val (.long i3), .second, .val (.long i4), .second, .val (.int i5), .unset, .unset, .unset, .unset, .unset, .unset, .unset, .unset, .unset, .unset, .unset, .unset] [])) rfl (hb hby at_0) (by decide) (by decide)
  obtain ⟨b1, g1⟩ : ∃ z, z = h0.size := ⟨_, rfl⟩
  rw [← g1] at A1 D1 st1
  have g_b1 : n0 ≤ b1 := Nat.le_trans Z0 (Nat.le_of_eq g1.symm)
  have Z_2 : n0 ≤ h1.size := Nat.le_trans Z0 E1.1
  have F_3 : Fld Z h1 b1 "com/example/commitlog/commitlog/store/ConsumeQueue$Reach" "first" "J" (.long (0 : Int64)) := D1 (Or.inr (hw _ (List.mem_of_getElem? (i := 15) rfl))) (ty := .long) (by decide)
  have F_4 : Fld Z h1 b1 "com/example/commitlog/commitlog/store/ConsumeQueue$Reach" "next" "J" (.long (0 : Int64)) := D1 (Or.inr (hw _ (List.mem_of_getElem? (i := 17) rfl))) (ty := .long) (by decide)
  have F_5 : Fld Z h1 b1 "com/example/commitlog/commitlog/store/ConsumeQueue$Reach" "min" "J" (.long (0 : Int64)) := D1 (Or.inr (hw _ (List.mem_of_getElem? (i := 19) rfl))) (ty := .long) (by decide)
  have P6 : own_Rch p.tables e below A0 (T1.setTop (mkF m 3 #[.val (.long i0), .second, .val (.long i1), .second, .val (.long i2), .second, .val (.long i3), .second, .val (.long i4), .second, .val (.int i5), .unset, .unset, .unset, .unset, .unset, .unset, .unset, .unset, .unset, .unset, .unset, .unset] [(.ref b1)])) := fun t k => P0 t (st1 t k)
  have P7 : own_Rch p.tables e below A0 (T1.setTop (mkF m 8 #[.val (.long i0), .second, .val (.long i1), .second, .val (.long i2), .second, .val (.long i3), .second, .val (.long i4), .second, .val (.int i5), .unset, .unset, .unset, .unset, .unset, .unset, .unset, .unset, .unset, .unset, .unset, .unset] [(.long i2), (.long i1), (.long i0), (.ref b1), (.ref b1)])) := fun t k => P6 t (by
    show Steps p.tables e below (T1.setTop (mkF m 3 #[.val (.long i0), .second, .val (.long i1), .second, .val (.long i2), .second, .val (.long i3), .second, .val (.long i4), .second, .val (.int i5), .unset, .unset, .unset, .unset, .unset, .unset, .unset, .unset, .unset, .unset, .unset, .unset] [(.ref b1)])) _
    refine XS.dup X1.here hx rfl (hb hby at_3) rfl rfl ?_
    show Steps p.tables e below (T1.setTop (mkF m 4 #[.val (.long i0), .second, .val (.long i1), .second, .val (.long i2), .second, .val (.long i3), .second, .val (.long i4), .second, .val (.int i5), .unset, .unset, .unset, .unset, .unset, .unset, .unset, .unset, .unset, .unset, .unset, .unset] [(.ref b1), (.ref b1)])) _
    refine XS.lloadN X1.here hx rfl (hb hby at_4) rfl ?_
    show Steps p.tables e below (T1.setTop (mkF m 5 #[.val (.long i0), .second, .val (.long i1), .second, .val (.long i2), .second, .val (.long i3), .second, .val (.long i4), .second, .val (.int i5), .unset, .unset, .unset, .unset, .unset, .unset, .unset, .unset, .unset, .unset, .unset, .unset] [(.long i0), (.ref b1), (.ref b1)])) _
    refine XS.lloadN X1.here hx rfl (hb hby at_5) rfl ?_
    show Steps p.tables e below (T1.setTop (mkF m 6 #[.val (.long i0), .second, .val (.long i1), .second, .val (.long i2), .second, .val (.long i3), .second, .val (.long i4), .second, .val (.int i5), .unset, .unset, .unset, .unset, .unset, .unset, .unset, .unset, .unset, .unset, .unset, .unset] [(.long i1), (.long i0), (.ref b1), (.ref b1)])) _
    refine XS.lload X1.here hx rfl (hb hby at_6) rfl ?_
    exact k)
  obtain ⟨_, _, ⟨T8, L8, k8, n8⟩, -, X8, ⟨Lc8, hQ8, l8, y8, z8⟩, st8⟩ := X1.specialBack hx (y := (⟨"com/example/commitlog/commitlog/store/ConsumeQueue$Reach", "<init>", "(JJJ)V"⟩ : MethodName)) rfl hown (mvT hZ (hw _ (List.mem_of_getElem? (i := 3) rfl))) (mvT hZ (hw _ (List.mem_of_getElem? (i := 4) rfl))) (mvT hZ (hw _ (List.mem_of_getElem? (i := 5) rfl))) (by decide) (backOf (W := 1) (rm1 l Z a0 hw [] b1 i0 i1 i2 h1 n0 Z_2 A1 F_3 F_4 F_5 g_b1) hZ (hw _ (List.mem_of_getElem? (i := 5) rfl)) (hw _ (List.mem_of_getElem? (i := 2) rfl)) (by decide) (by decide)) (g := (mkF m 8 #[.val (.long i0), .second, .val (.long i1), .second, .val (.long i2), .second, .val (.long i3), .second, .val (.long i4), .second, .val (.int i5), .unset, .unset, .unset, .unset, .unset, .unset, .unset, .unset, .unset, .unset, .unset, .unset] [(.long i2), (.long i1), (.long i0), (.ref b1), (.ref b1)])) rfl (by rw [hml]; rfl) (Steps.refl _) (a := b1) (argsL := [(.long i0), (.long i1), (.long i2)]) (rest := [(.ref b1)]) (lenOf pd_1 rfl) rfl (by show 2 * 0 + _ ≤ _; exact Nat.le_of_eq rfl) (hb hby at_8) (fun _ _ => ⟨rfl, e1, (by decide : (0 + 1) + 0 ≤ _), (by decide : (0 + 3) + 0 ≤ _)⟩)
  dsimp only [Pt.U, Pt.locs, Pt.cells, Pt.slots] at X8 l8 y8 z8 st8 hQ8
  subst l8 y8 z8
  obtain ⟨rfl, N8q, K8q, E8q, F8q0, F8q1, F8q2⟩ := hQ8
  have N8 := Fr.app N0 N8q
  have Z_9 : n0 ≤ T8.heap.size := Nat.le_trans Z_2 K8q.1
  have E_10 : Exa Z T8.heap b1 "com/example/commitlog/commitlog/store/ConsumeQueue$Reach" := A1.keep K8q
  have P11 : own_Rch p.tables e below A0 (T8.setTop (mkF m 11 #[.val (.long i0), .second, .val (.long i1), .second, .val (.long i2), .second, .val (.long i3), .second, .val (.long i4), .second, .val (.int i5), .unset, .unset, .unset, .unset, .unset, .unset, .unset, .unset, .unset, .unset, .unset, .unset] [(.ref b1)])) := fun t k => P7 t (st8.trans k)
  have P13 : own_Rch p.tables e below A0 (T8.setTop (mkF m 17 #[.val (.long i0), .second, .val (.long i1), .second, .val (.long i2), .second, .val (.long i3), .second, .val (.long i4), .second, .val (.int i5), .val (.ref b1), .unset, .unset, .unset, .unset, .unset, .unset, .unset, .unset, .unset, .unset, .unset] [(.int (i5 &&& (1 : Int32)))])) := fun t k => P11 t (by
    show Steps p.tables e below (T8.setTop (mkF m 11 #[.val (.long i0), .second, .val (.long i1), .second, .val (.long i2), .second, .val (.long i3), .second, .val (.long i4), .second, .val (.int i5), .unset, .unset, .unset, .unset, .unset, .unset, .unset, .unset, .unset, .unset, .unset, .unset] [(.ref b1)])) _
    refine XS.astore X8.here hx rfl (hb hby at_11) rfl rfl (l' := #[.val (.long i0), .second, .val (.long i1), .second, .val (.long i2), .second, .val (.long i3), .second, .val (.long i4), .second, .val (.int i5), .val (.ref b1), .unset, .unset, .unset, .unset, .unset, .unset, .unset, .unset, .unset, .unset, .unset]) rfl ?_
    show Steps p.tables e below (T8.setTop (mkF m 13 #[.val (.long i0), .second, .val (.long i1), .second, .val (.long i2), .second, .val (.long i3), .second, .val (.long i4), .second, .val (.int i5), .val (.ref b1), .unset, .unset, .unset, .unset, .unset, .unset, .unset, .unset, .unset, .unset, .unset] [])) _
    refine XS.iload X8.here hx rfl (hb hby at_13) rfl ?_
    show Steps p.tables e below (T8.setTop (mkF m 15 #[.val (.long i0), .second, .val (.long i1), .second, .val (.long i2), .second, .val (.long i3), .second, .val (.long i4), .second, .val (.int i5), .val (.ref b1), .unset, .unset, .unset, .unset, .unset, .unset, .unset, .unset, .unset, .unset, .unset] [(.int i5)])) _
    refine XS.iconst X8.here hx rfl (hb hby at_15) ?_
    show Steps p.tables e below (T8.setTop (mkF m 16 #[.val (.long i0), .second, .val (.long i1), .second, .val (.long i2), .second, .val (.long i3), .second, .val (.long i4), .second, .val (.int i5), .val (.ref b1), .unset, .unset, .unset, .unset, .unset, .unset, .unset, .unset, .unset, .unset, .unset] [(.int (1 : Int32)), (.int i5)])) _
    refine XS.iand X8.here hx rfl (hb hby at_16) rfl ?_
    exact k)
  obtain ⟨v15, hv15⟩ : ∃ z : Int64, z = (if (i5 &&& (1 : Int32)) = (0 : Int32) then i3 else i0) := ⟨_, rfl⟩
  have P16 : own_Rch p.tables e below A0 (T8.setTop (mkF m 26 #[.val (.long i0), .second, .val (.long i1), .second, .val (.long i2), .second, .val (.long i3), .second, .val (.long i4), .second, .val (.int i5), .val (.ref b1), .unset, .unset, .unset, .unset, .unset, .unset, .unset, .unset, .unset, .unset, .unset] [(.long v15)])) := fun t k => P13 t (by
    by_cases hc14 : (i5 &&& (1 : Int32)) = (0 : Int32)
    · show Steps p.tables e below (T8.setTop (mkF m 17 #[.val (.long i0), .second, .val (.long i1), .second, .val (.long i2), .second, .val (.long i3), .second, .val (.long i4), .second, .val (.int i5), .val (.ref b1), .unset, .unset, .unset, .unset, .unset, .unset, .unset, .unset, .unset, .unset, .unset] [(.int (i5 &&& (1 : Int32)))])) _
      refine XS.ifYes X8.here hx rfl (pc0 := 17) (pc' := 24) rfl (hb hby at_17) rfl ((if0 _ _).trans (teq hc14).1) (by decide) (by decide) ?_
      have qv15 : v15 = i3 := by rw [hv15]; simp only [if_pos hc14]
      rw [qv15] at k
      show Steps p.tables e below (T8.setTop (mkF m 24 #[.val (.long i0), .second, .val (.long i1), .second, .val (.long i2), .second, .val (.long i3), .second, .val (.long i4), .second, .val (.int i5), .val (.ref b1), .unset, .unset, .unset, .unset, .unset, .unset, .unset, .unset, .unset, .unset, .unset] [])) _
      refine XS.lload X8.here hx rfl (hb hby at_24) rfl ?_
      exact k
    · show Steps p.tables e below (T8.setTop (mkF m 17 #[.val (.long i0), .second, .val (.long i1), .second, .val (.long i2), .second, .val (.long i3), .second, .val (.long i4), .second, .val (.int i5), .val (.ref b1), .unset, .unset, .unset, .unset, .unset, .unset, .unset, .unset, .unset, .unset, .unset] [(.int (i5 &&& (1 : Int32)))])) _
      refine XS.ifNo X8.here hx rfl (hb hby at_17) rfl ((if0 _ _).trans (feq hc14).1) ?_
      have qv15 : v15 = i0 := by rw [hv15]; simp only [if_neg hc14]
      rw [qv15] at k
      show Steps p.tables e below (T8.setTop (mkF m 20 #[.val (.long i0), .second, .val (.long i1), .second, .val (.long i2), .second, .val (.long i3), .second, .val (.long i4), .second, .val (.int i5), .val (.ref b1), .unset, .unset, .unset, .unset, .unset, .unset, .unset, .unset, .unset, .unset, .unset] [])) _
      refine XS.lloadN X8.here hx rfl (hb hby at_20) rfl ?_
      show Steps p.tables e below (T8.setTop (mkF m 21 #[.val (.long i0), .second, .val (.long i1), .second, .val (.long i2), .second, .val (.long i3), .second, .val (.long i4), .second, .val (.int i5), .val (.ref b1), .unset, .unset, .unset, .unset, .unset, .unset, .unset, .unset, .unset, .unset, .unset] [(.long i0)])) _
      refine XS.goto X8.here hx rfl (pc0 := 21) (pc' := 26) rfl (hb hby at_21) (by decide) (by decide) ?_
      exact k)
  have P18 : own_Rch p.tables e below A0 (T8.setTop (mkF m 32 #[.val (.long i0), .second, .val (.long i1), .second, .val (.long i2), .second, .val (.long i3), .second, .val (.long i4), .second, .val (.int i5), .val (.ref b1), .val (.long v15), .second, .unset, .unset, .unset, .unset, .unset, .unset, .unset, .unset, .unset] [(.int (i5 &&& (2 : Int32)))])) := fun t k => P16 t (by
    show Steps p.tables e below (T8.setTop (mkF m 26 #[.val (.long i0), .second, .val (.long i1), .second, .val (.long i2), .second, .val (.long i3), .second, .val (.long i4), .second, .val (.int i5), .val (.ref b1), .unset, .unset, .unset, .unset, .unset, .unset, .unset, .unset, .unset, .unset, .unset] [(.long v15)])) _
    refine XS.lstore X8.here hx rfl (hb hby at_26) rfl (l' := #[.val (.long i0), .second, .val (.long i1), .second, .val (.long i2), .second, .val (.long i3), .second, .val (.long i4), .second, .val (.int i5), .val (.ref b1), .val (.long v15), .second, .unset, .unset, .unset, .unset, .unset, .unset, .unset, .unset, .unset]) rfl ?_
    show Steps p.tables e below (T8.setTop (mkF m 28 #[.val (.long i0), .second, .val (.long i1), .second, .val (.long i2), .second, .val (.long i3), .second, .val (.long i4), .second, .val (.int i5), .val (.ref b1), .val (.long v15), .second, .unset, .unset, .unset, .unset, .unset, .unset, .unset, .unset, .unset] [])) _
    refine XS.iload X8.here hx rfl (hb hby at_28) rfl ?_
    show Steps p.tables e below (T8.setTop (mkF m 30 #[.val (.long i0), .second, .val (.long i1), .second, .val (.long i2), .second, .val (.long i3), .second, .val (.long i4), .second, .val (.int i5), .val (.ref b1), .val (.long v15), .second, .unset, .unset, .unset, .unset, .unset, .unset, .unset, .unset, .unset] [(.int i5)])) _
    refine XS.iconst X8.here hx rfl (hb hby at_30) ?_
    show Steps p.tables e below (T8.setTop (mkF m 31 #[.val (.long i0), .second, .val (.long i1), .second, .val (.long i2), .second, .val (.long i3), .second, .val (.long i4), .second, .val (.int i5), .val (.ref b1), .val (.long v15), .second, .unset, .unset, .unset, .unset, .unset, .unset, .unset, .unset, .unset] [(.int (2 : Int32)), (.int i5)])) _
    refine XS.iand X8.here hx rfl (hb hby at_31) rfl ?_
    exact k)
  obtain ⟨v20, hv20⟩ : ∃ z : Int64, z = (if (i5 &&& (2 : Int32)) = (0 : Int32) then i4 else i1) := ⟨_, rfl⟩
  have P21 : own_Rch p.tables e below A0 (T8.setTop (mkF m 41 #[.val (.long i0), .second, .val (.long i1), .second, .val (.long i2), .second, .val (.long i3), .second, .val (.long i4), .second, .val (.int i5), .val (.ref b1), .val (.long v15), .second, .unset, .unset, .unset, .unset, .unset, .unset, .unset, .unset, .unset] [(.long v20)])) := fun t k => P18 t (by
    by_cases hc19 : (i5 &&& (2 : Int32)) = (0 : Int32)
    · show Steps p.tables e below (T8.setTop (mkF m 32 #[.val (.long i0), .second, .val (.long i1), .second, .val (.long i2), .second, .val (.long i3), .second, .val (.long i4), .second, .val (.int i5), .val (.ref b1), .val (.long v15), .second, .unset, .unset, .unset, .unset, .unset, .unset, .unset, .unset, .unset] [(.int (i5 &&& (2 : Int32)))])) _
      refine XS.ifYes X8.here hx rfl (pc0 := 32) (pc' := 39) rfl (hb hby at_32) rfl ((if0 _ _).trans (teq hc19).1) (by decide) (by decide) ?_
      have qv20 : v20 = i4 := by rw [hv20]; simp only [if_pos hc19]
      rw [qv20] at k
      show Steps p.tables e below (T8.setTop (mkF m 39 #[.val (.long i0), .second, .val (.long i1), .second, .val (.long i2), .second, .val (.long i3), .second, .val (.long i4), .second, .val (.int i5), .val (.ref b1), .val (.long v15), .second, .unset, .unset, .unset, .unset, .unset, .unset, .unset, .unset, .unset] [])) _
      refine XS.lload X8.here hx rfl (hb hby at_39) rfl ?_
      exact k
    · show Steps p.tables e below (T8.setTop (mkF m 32 #[.val (.long i0), .second, .val (.long i1), .second, .val (.long i2), .second, .val (.long i3), .second, .val (.long i4), .second, .val (.int i5), .val (.ref b1), .val (.long v15), .second, .unset, .unset, .unset, .unset, .unset, .unset, .unset, .unset, .unset] [(.int (i5 &&& (2 : Int32)))])) _
      refine XS.ifNo X8.here hx rfl (hb hby at_32) rfl ((if0 _ _).trans (feq hc19).1) ?_
      have qv20 : v20 = i1 := by rw [hv20]; simp only [if_neg hc19]
      rw [qv20] at k
      show Steps p.tables e below (T8.setTop (mkF m 35 #[.val (.long i0), .second, .val (.long i1), .second, .val (.long i2), .second, .val (.long i3), .second, .val (.long i4), .second, .val (.int i5), .val (.ref b1), .val (.long v15), .second, .unset, .unset, .unset, .unset, .unset, .unset, .unset, .unset, .unset] [])) _
      refine XS.lloadN X8.here hx rfl (hb hby at_35) rfl ?_
      show Steps p.tables e below (T8.setTop (mkF m 36 #[.val (.long i0), .second, .val (.long i1), .second, .val (.long i2), .second, .val (.long i3), .second, .val (.long i4), .second, .val (.int i5), .val (.ref b1), .val (.long v15), .second, .unset, .unset, .unset, .unset, .unset, .unset, .unset, .unset, .unset] [(.long i1)])) _
      refine XS.goto X8.here hx rfl (pc0 := 36) (pc' := 41) rfl (hb hby at_36) (by decide) (by decide) ?_
      exact k)
  have P22 : own_Rch p.tables e below A0 (T8.setTop (mkF m 51 #[.val (.long i0), .second, .val (.long i1), .second, .val (.long i2), .second, .val (.long i3), .second, .val (.long i4), .second, .val (.int i5), .val (.ref b1), .val (.long v15), .second, .val (.long v20), .second, .val (.int (((i5.toUInt32 >>> ((2 : Int32) &&& 31).toUInt32).toInt32) &&& (3 : Int32))), .unset, .unset, .unset, .unset, .unset, .unset] [])) := fun t k => P21 t (by
    show Steps p.tables e below (T8.setTop (mkF m 41 #[.val (.long i0), .second, .val (.long i1), .second, .val (.long i2), .second, .val (.long i3), .second, .val (.long i4), .second, .val (.int i5), .val (.ref b1), .val (.long v15), .second, .unset, .unset, .unset, .unset, .unset, .unset, .unset, .unset, .unset] [(.long v20)])) _
    refine XS.lstore X8.here hx rfl (hb hby at_41) rfl (l' := #[.val (.long i0), .second, .val (.long i1), .second, .val (.long i2), .second, .val (.long i3), .second, .val (.long i4), .second, .val (.int i5), .val (.ref b1), .val (.long v15), .second, .val (.long v20), .second, .unset, .unset, .unset, .unset, .unset, .unset, .unset]) rfl ?_
    show Steps p.tables e below (T8.setTop (mkF m 43 #[.val (.long i0), .second, .val (.long i1), .second, .val (.long i2), .second, .val (.long i3), .second, .val (.long i4), .second, .val (.int i5), .val (.ref b1), .val (.long v15), .second, .val (.long v20), .second, .unset, .unset, .unset, .unset, .unset, .unset, .unset] [])) _
    refine XS.iload X8.here hx rfl (hb hby at_43) rfl ?_
    show Steps p.tables e below (T8.setTop (mkF m 45 #[.val (.long i0), .second, .val (.long i1), .second, .val (.long i2), .second, .val (.long i3), .second, .val (.long i4), .second, .val (.int i5), .val (.ref b1), .val (.long v15), .second, .val (.long v20), .second, .unset, .unset, .unset, .unset, .unset, .unset, .unset] [(.int i5)])) _
    refine XS.iconst X8.here hx rfl (hb hby at_45) ?_
    show Steps p.tables e below (T8.setTop (mkF m 46 #[.val (.long i0), .second, .val (.long i1), .second, .val (.long i2), .second, .val (.long i3), .second, .val (.long i4), .second, .val (.int i5), .val (.ref b1), .val (.long v15), .second, .val (.long v20), .second, .unset, .unset, .unset, .unset, .unset, .unset, .unset] [(.int (2 : Int32)), (.int i5)])) _
    refine XS.iushr X8.here hx rfl (hb hby at_46) rfl ?_
    show Steps p.tables e below (T8.setTop (mkF m 47 #[.val (.long i0), .second, .val (.long i1), .second, .val (.long i2), .second, .val (.long i3), .second, .val (.long i4), .second, .val (.int i5), .val (.ref b1), .val (.long v15), .second, .val (.long v20), .second, .unset, .unset, .unset, .unset, .unset, .unset, .unset] [(.int ((i5.toUInt32 >>> ((2 : Int32) &&& 31).toUInt32).toInt32))])) _
    refine XS.iconst X8.here hx rfl (hb hby at_47) ?_
    show Steps p.tables e below (T8.setTop (mkF m 48 #[.val (.long i0), .second, .val (.long i1), .second, .val (.long i2), .second, .val (.long i3), .second, .val (.long i4), .second, .val (.int i5), .val (.ref b1), .val (.long v15), .second, .val (.long v20), .second, .unset, .unset, .unset, .unset, .unset, .unset, .unset] [(.int (3 : Int32)), (.int ((i5.toUInt32 >>> ((2 : Int32) &&& 31).toUInt32).toInt32))])) _
    refine XS.iand X8.here hx rfl (hb hby at_48) rfl ?_
    show Steps p.tables e below (T8.setTop (mkF m 49 #[.val (.long i0), .second, .val (.long i1), .second, .val (.long i2), .second, .val (.long i3), .second, .val (.long i4), .second, .val (.int i5), .val (.ref b1), .val (.long v15), .second, .val (.long v20), .second, .unset, .unset, .unset, .unset, .unset, .unset, .unset] [(.int (((i5.toUInt32 >>> ((2 : Int32) &&& 31).toUInt32).toInt32) &&& (3 : Int32)))])) _
    refine XS.istore X8.here hx rfl (hb hby at_49) rfl (l' := #[.val (.long i0), .second, .val (.long i1), .second, .val (.long i2), .second, .val (.long i3), .second, .val (.long i4), .second, .val (.int i5), .val (.ref b1), .val (.long v15), .second, .val (.long v20), .second, .val (.int (((i5.toUInt32 >>> ((2 : Int32) &&& 31).toUInt32).toInt32) &&& (3 : Int32))), .unset, .unset, .unset, .unset, .unset, .unset]) rfl ?_
    exact k)
  obtain ⟨v23, hv23, P24⟩ : ∃ z : Int32, z = (((i5.toUInt32 >>> ((2 : Int32) &&& 31).toUInt32).toInt32) &&& (3 : Int32)) ∧ own_Rch p.tables e below A0 (T8.setTop (mkF m 51 #[.val (.long i0), .second, .val (.long i1), .second, .val (.long i2), .second, .val (.long i3), .second, .val (.long i4), .second, .val (.int i5), .val (.ref b1), .val (.long v15), .second, .val (.long v20), .second, .val (.int z), .unset, .unset, .unset, .unset, .unset, .unset] [])) := ⟨_, rfl, P22⟩
  have P26 : own_Rch p.tables e below A0 (T8.setTop (mkF m 53 #[.val (.long i0), .second, .val (.long i1), .second, .val (.long i2), .second, .val (.long i3), .second, .val (.long i4), .second, .val (.int i5), .val (.ref b1), .val (.long v15), .second, .val (.long v20), .second, .val (.int v23), .unset, .unset, .unset, .unset, .unset, .unset] [(.int v23)])) := fun t k => P24 t (by
    show Steps p.tables e below (T8.setTop (mkF m 51 #[.val (.long i0), .second, .val (.long i1), .second, .val (.long i2), .second, .val (.long i3), .second, .val (.long i4), .second, .val (.int i5), .val (.ref b1), .val (.long v15), .second, .val (.long v20), .second, .val (.int v23), .unset, .unset, .unset, .unset, .unset, .unset] [])) _
    refine XS.iload X8.here hx rfl (hb hby at_51) rfl ?_
    exact k)
  obtain ⟨v30, hv30⟩ : ∃ z : Int64, z = (if v23 = (0 : Int32) then i2 else (if v23 = (1 : Int32) then (i3 ||| (-9223372036854775808 : Int64)) else (if v23 = (2 : Int32) then i4 else (-1 : Int64)))) := ⟨_, rfl⟩
  have P31 : own_Rch p.tables e below A0 (T8.setTop (mkF m 98 #[.val (.long i0), .second, .val (.long i1), .second, .val (.long i2), .second, .val (.long i3), .second, .val (.long i4), .second, .val (.int i5), .val (.ref b1), .val (.long v15), .second, .val (.long v20), .second, .val (.int v23), .val (.long v30), .second, .unset, .unset, .unset, .unset] [])) := fun t k => P26 t (by
    by_cases hc27 : v23 = (0 : Int32)
    · show Steps p.tables e below (T8.setTop (mkF m 53 #[.val (.long i0), .second, .val (.long i1), .second, .val (.long i2), .second, .val (.long i3), .second, .val (.long i4), .second, .val (.int i5), .val (.ref b1), .val (.long v15), .second, .val (.long v20), .second, .val (.int v23), .unset, .unset, .unset, .unset, .unset, .unset] [(.int v23)])) _
      refine XS.ifNo X8.here hx rfl (hb hby at_53) rfl ((if0 _ _).trans (teq hc27).2) ?_
      have qv30 : v30 = i2 := by rw [hv30]; simp only [if_pos hc27]
      rw [qv30] at k
      show Steps p.tables e below (T8.setTop (mkF m 56 #[.val (.long i0), .second, .val (.long i1), .second, .val (.long i2), .second, .val (.long i3), .second, .val (.long i4), .second, .val (.int i5), .val (.ref b1), .val (.long v15), .second, .val (.long v20), .second, .val (.int v23), .unset, .unset, .unset, .unset, .unset, .unset] [])) _
      refine XS.lload X8.here hx rfl (hb hby at_56) rfl ?_
      show Steps p.tables e below (T8.setTop (mkF m 58 #[.val (.long i0), .second, .val (.long i1), .second, .val (.long i2), .second, .val (.long i3), .second, .val (.long i4), .second, .val (.int i5), .val (.ref b1), .val (.long v15), .second, .val (.long v20), .second, .val (.int v23), .unset, .unset, .unset, .unset, .unset, .unset] [(.long i2)])) _
      refine XS.lstore X8.here hx rfl (hb hby at_58) rfl (l' := #[.val (.long i0), .second, .val (.long i1), .second, .val (.long i2), .second, .val (.long i3), .second, .val (.long i4), .second, .val (.int i5), .val (.ref b1), .val (.long v15), .second, .val (.long v20), .second, .val (.int v23), .val (.long i2), .second, .unset, .unset, .unset, .unset]) rfl ?_
      show Steps p.tables e below (T8.setTop (mkF m 60 #[.val (.long i0), .second, .val (.long i1), .second, .val (.long i2), .second, .val (.long i3), .second, .val (.long i4), .second, .val (.int i5), .val (.ref b1), .val (.long v15), .second, .val (.long v20), .second, .val (.int v23), .val (.long i2), .second, .unset, .unset, .unset, .unset] [])) _
      refine XS.goto X8.here hx rfl (pc0 := 60) (pc' := 98) rfl (hb hby at_60) (by decide) (by decide) ?_
      exact k
    · show Steps p.tables e below (T8.setTop (mkF m 53 #[.val (.long i0), .second, .val (.long i1), .second, .val (.long i2), .second, .val (.long i3), .second, .val (.long i4), .second, .val (.int i5), .val (.ref b1), .val (.long v15), .second, .val (.long v20), .second, .val (.int v23), .unset, .unset, .unset, .unset, .unset, .unset] [(.int v23)])) _
      refine XS.ifYes X8.here hx rfl (pc0 := 53) (pc' := 63) rfl (hb hby at_53) rfl ((if0 _ _).trans (feq hc27).2) (by decide) (by decide) ?_
      show Steps p.tables e below (T8.setTop (mkF m 63 #[.val (.long i0), .second, .val (.long i1), .second, .val (.long i2), .second, .val (.long i3), .second, .val (.long i4), .second, .val (.int i5), .val (.ref b1), .val (.long v15), .second, .val (.long v20), .second, .val (.int v23), .unset, .unset, .unset, .unset, .unset, .unset] [])) _
      refine XS.iload X8.here hx rfl (hb hby at_63) rfl ?_
      show Steps p.tables e below (T8.setTop (mkF m 65 #[.val (.long i0), .second, .val (.long i1), .second, .val (.long i2), .second, .val (.long i3), .second, .val (.long i4), .second, .val (.int i5), .val (.ref b1), .val (.long v15), .second, .val (.long v20), .second, .val (.int v23), .unset, .unset, .unset, .unset, .unset, .unset] [(.int v23)])) _
      refine XS.iconst X8.here hx rfl (hb hby at_65) ?_
      by_cases hc28 : v23 = (1 : Int32)
      · show Steps p.tables e below (T8.setTop (mkF m 66 #[.val (.long i0), .second, .val (.long i1), .second, .val (.long i2), .second, .val (.long i3), .second, .val (.long i4), .second, .val (.int i5), .val (.ref b1), .val (.long v15), .second, .val (.long v20), .second, .val (.int v23), .unset, .unset, .unset, .unset, .unset, .unset] [(.int (1 : Int32)), (.int v23)])) _
        refine XS.icmpNo X8.here hx rfl (hb hby at_66) rfl (teq hc28).2 ?_
        have qv30 : v30 = (i3 ||| (-9223372036854775808 : Int64)) := by rw [hv30]; simp only [if_neg hc27, if_pos hc28]
        rw [qv30] at k
        show Steps p.tables e below (T8.setTop (mkF m 69 #[.val (.long i0), .second, .val (.long i1), .second, .val (.long i2), .second, .val (.long i3), .second, .val (.long i4), .second, .val (.int i5), .val (.ref b1), .val (.long v15), .second, .val (.long v20), .second, .val (.int v23), .unset, .unset, .unset, .unset, .unset, .unset] [])) _
        refine XS.lload X8.here hx rfl (hb hby at_69) rfl ?_
        show Steps p.tables e below (T8.setTop (mkF m 71 #[.val (.long i0), .second, .val (.long i1), .second, .val (.long i2), .second, .val (.long i3), .second, .val (.long i4), .second, .val (.int i5), .val (.ref b1), .val (.long v15), .second, .val (.long v20), .second, .val (.int v23), .unset, .unset, .unset, .unset, .unset, .unset] [(.long i3)])) _
        refine X8.ldc2Long hx hown (mvT hZ (hw _ (List.mem_of_getElem? (i := 26) rfl))) (g := (mkF m 71 #[.val (.long i0), .second, .val (.long i1), .second, .val (.long i2), .second, .val (.long i3), .second, .val (.long i4), .second, .val (.int i5), .val (.ref b1), .val (.long v15), .second, .val (.long v20), .second, .val (.int v23), .unset, .unset, .unset, .unset, .unset, .unset] [(.long i3)])) rfl (hb hby at_71) _ ?_
        show Steps p.tables e below (T8.setTop (mkF m 74 #[.val (.long i0), .second, .val (.long i1), .second, .val (.long i2), .second, .val (.long i3), .second, .val (.long i4), .second, .val (.int i5), .val (.ref b1), .val (.long v15), .second, .val (.long v20), .second, .val (.int v23), .unset, .unset, .unset, .unset, .unset, .unset] [(.long (-9223372036854775808 : Int64)), (.long i3)])) _
        refine XS.lor X8.here hx rfl (hb hby at_74) rfl ?_
        show Steps p.tables e below (T8.setTop (mkF m 75 #[.val (.long i0), .second, .val (.long i1), .second, .val (.long i2), .second, .val (.long i3), .second, .val (.long i4), .second, .val (.int i5), .val (.ref b1), .val (.long v15), .second, .val (.long v20), .second, .val (.int v23), .unset, .unset, .unset, .unset, .unset, .unset] [(.long (i3 ||| (-9223372036854775808 : Int64)))])) _
        refine XS.lstore X8.here hx rfl (hb hby at_75) rfl (l' := #[.val (.long i0), .second, .val (.long i1), .second, .val (.long i2), .second, .val (.long i3), .second, .val (.long i4), .second, .val (.int i5), .val (.ref b1), .val (.long v15), .second, .val (.long v20), .second, .val (.int v23), .val (.long (i3 ||| (-9223372036854775808 : Int64))), .second, .unset, .unset, .unset, .unset]) rfl ?_
        show Steps p.tables e below (T8.setTop (mkF m 77 #[.val (.long i0), .second, .val (.long i1), .second, .val (.long i2), .second, .val (.long i3), .second, .val (.long i4), .second, .val (.int i5), .val (.ref b1), .val (.long v15), .second, .val (.long v20), .second, .val (.int v23), .val (.long (i3 ||| (-9223372036854775808 : Int64))), .second, .unset, .unset, .unset, .unset] [])) _
        refine XS.goto X8.here hx rfl (pc0 := 77) (pc' := 98) rfl (hb hby at_77) (by decide) (by decide) ?_
        exact k
      · show Steps p.tables e below (T8.setTop (mkF m 66 #[.val (.long i0), .second, .val (.long i1), .second, .val (.long i2), .second, .val (.long i3), .second, .val (.long i4), .second, .val (.int i5), .val (.ref b1), .val (.long v15), .second, .val (.long v20), .second, .val (.int v23), .unset, .unset, .unset, .unset, .unset, .unset] [(.int (1 : Int32)), (.int v23)])) _
        refine XS.icmpYes X8.here hx rfl (pc0 := 66) (pc' := 80) rfl (hb hby at_66) rfl (feq hc28).2 (by decide) (by decide) ?_
        show Steps p.tables e below (T8.setTop (mkF m 80 #[.val (.long i0), .second, .val (.long i1), .second, .val (.long i2), .second, .val (.long i3), .second, .val (.long i4), .second, .val (.int i5), .val (.ref b1), .val (.long v15), .second, .val (.long v20), .second, .val (.int v23), .unset, .unset, .unset, .unset, .unset, .unset] [])) _
        refine XS.iload X8.here hx rfl (hb hby at_80) rfl ?_
        show Steps p.tables e below (T8.setTop (mkF m 82 #[.val (.long i0), .second, .val (.long i1), .second, .val (.long i2), .second, .val (.long i3), .second, .val (.long i4), .second, .val (.int i5), .val (.ref b1), .val (.long v15), .second, .val (.long v20), .second, .val (.int v23), .unset, .unset, .unset, .unset, .unset, .unset] [(.int v23)])) _
        refine XS.iconst X8.here hx rfl (hb hby at_82) ?_
        by_cases hc29 : v23 = (2 : Int32)
        · show Steps p.tables e below (T8.setTop (mkF m 83 #[.val (.long i0), .second, .val (.long i1), .second, .val (.long i2), .second, .val (.long i3), .second, .val (.long i4), .second, .val (.int i5), .val (.ref b1), .val (.long v15), .second, .val (.long v20), .second, .val (.int v23), .unset, .unset, .unset, .unset, .unset, .unset] [(.int (2 : Int32)), (.int v23)])) _
          refine XS.icmpNo X8.here hx rfl (hb hby at_83) rfl (teq hc29).2 ?_
          have qv30 : v30 = i4 := by rw [hv30]; simp only [if_neg hc27, if_neg hc28, if_pos hc29]
          rw [qv30] at k
          show Steps p.tables e below (T8.setTop (mkF m 86 #[.val (.long i0), .second, .val (.long i1), .second, .val (.long i2), .second, .val (.long i3), .second, .val (.long i4), .second, .val (.int i5), .val (.ref b1), .val (.long v15), .second, .val (.long v20), .second, .val (.int v23), .unset, .unset, .unset, .unset, .unset, .unset] [])) _
          refine XS.lload X8.here hx rfl (hb hby at_86) rfl ?_
          show Steps p.tables e below (T8.setTop (mkF m 88 #[.val (.long i0), .second, .val (.long i1), .second, .val (.long i2), .second, .val (.long i3), .second, .val (.long i4), .second, .val (.int i5), .val (.ref b1), .val (.long v15), .second, .val (.long v20), .second, .val (.int v23), .unset, .unset, .unset, .unset, .unset, .unset] [(.long i4)])) _
          refine XS.lstore X8.here hx rfl (hb hby at_88) rfl (l' := #[.val (.long i0), .second, .val (.long i1), .second, .val (.long i2), .second, .val (.long i3), .second, .val (.long i4), .second, .val (.int i5), .val (.ref b1), .val (.long v15), .second, .val (.long v20), .second, .val (.int v23), .val (.long i4), .second, .unset, .unset, .unset, .unset]) rfl ?_
          show Steps p.tables e below (T8.setTop (mkF m 90 #[.val (.long i0), .second, .val (.long i1), .second, .val (.long i2), .second, .val (.long i3), .second, .val (.long i4), .second, .val (.int i5), .val (.ref b1), .val (.long v15), .second, .val (.long v20), .second, .val (.int v23), .val (.long i4), .second, .unset, .unset, .unset, .unset] [])) _
          refine XS.goto X8.here hx rfl (pc0 := 90) (pc' := 98) rfl (hb hby at_90) (by decide) (by decide) ?_
          exact k
        · show Steps p.tables e below (T8.setTop (mkF m 83 #[.val (.long i0), .second, .val (.long i1), .second, .val (.long i2), .second, .val (.long i3), .second, .val (.long i4), .second, .val (.int i5), .val (.ref b1), .val (.long v15), .second, .val (.long v20), .second, .val (.int v23), .unset, .unset, .unset, .unset, .unset, .unset] [(.int (2 : Int32)), (.int v23)])) _
          refine XS.icmpYes X8.here hx rfl (pc0 := 83) (pc' := 93) rfl (hb hby at_83) rfl (feq hc29).2 (by decide) (by decide) ?_
          have qv30 : v30 = (-1 : Int64) := by rw [hv30]; simp only [if_neg hc27, if_neg hc28, if_neg hc29]
          rw [qv30] at k
          show Steps p.tables e below (T8.setTop (mkF m 93 #[.val (.long i0), .second, .val (.long i1), .second, .val (.long i2), .second, .val (.long i3), .second, .val (.long i4), .second, .val (.int i5), .val (.ref b1), .val (.long v15), .second, .val (.long v20), .second, .val (.int v23), .unset, .unset, .unset, .unset, .unset, .unset] [])) _
          refine X8.ldc2Long hx hown (mvT hZ (hw _ (List.mem_of_getElem? (i := 25) rfl))) (g := (mkF m 93 #[.val (.long i0), .second, .val (.long i1), .second, .val (.long i2), .second, .val (.long i3), .second, .val (.long i4), .second, .val (.int i5), .val (.ref b1), .val (.long v15), .second, .val (.long v20), .second, .val (.int v23), .unset, .unset, .unset, .unset, .unset, .unset] [])) rfl (hb hby at_93) _ ?_
          show Steps p.tables e below (T8.setTop (mkF m 96 #[.val (.long i0), .second, .val (.long i1), .second, .val (.long i2), .second, .val (.long i3), .second, .val (.long i4), .second, .val (.int i5), .val (.ref b1), .val (.long v15), .second, .val (.long v20), .second, .val (.int v23), .unset, .unset, .unset, .unset, .unset, .unset] [(.long (-1 : Int64))])) _
          refine XS.lstore X8.here hx rfl (hb hby at_96) rfl (l' := #[.val (.long i0), .second, .val (.long i1), .second, .val (.long i2), .second, .val (.long i3), .second, .val (.long i4), .second, .val (.int i5), .val (.ref b1), .val (.long v15), .second, .val (.long v20), .second, .val (.int v23), .val (.long (-1 : Int64)), .second, .unset, .unset, .unset, .unset]) rfl ?_
          exact k)
  have P33 : own_Rch p.tables e below A0 (T8.setTop (mkF m 105 #[.val (.long i0), .second, .val (.long i1), .second, .val (.long i2), .second, .val (.long i3), .second, .val (.long i4), .second, .val (.int i5), .val (.ref b1), .val (.long v15), .second, .val (.long v20), .second, .val (.int v23), .val (.long v30), .second, .unset, .unset, .unset, .unset] [(.int (3 : Int32)), (.int (((i5.toUInt32 >>> ((4 : Int32) &&& 31).toUInt32).toInt32) &&& (3 : Int32)))])) := fun t k => P31 t (by
    show Steps p.tables e below (T8.setTop (mkF m 98 #[.val (.long i0), .second, .val (.long i1), .second, .val (.long i2), .second, .val (.long i3), .second, .val (.long i4), .second, .val (.int i5), .val (.ref b1), .val (.long v15), .second, .val (.long v20), .second, .val (.int v23), .val (.long v30), .second, .unset, .unset, .unset, .unset] [])) _
    refine XS.iload X8.here hx rfl (hb hby at_98) rfl ?_
    show Steps p.tables e below (T8.setTop (mkF m 100 #[.val (.long i0), .second, .val (.long i1), .second, .val (.long i2), .second, .val (.long i3), .second, .val (.long i4), .second, .val (.int i5), .val (.ref b1), .val (.long v15), .second, .val (.long v20), .second, .val (.int v23), .val (.long v30), .second, .unset, .unset, .unset, .unset] [(.int i5)])) _
    refine XS.iconst X8.here hx rfl (hb hby at_100) ?_
    show Steps p.tables e below (T8.setTop (mkF m 101 #[.val (.long i0), .second, .val (.long i1), .second, .val (.long i2), .second, .val (.long i3), .second, .val (.long i4), .second, .val (.int i5), .val (.ref b1), .val (.long v15), .second, .val (.long v20), .second, .val (.int v23), .val (.long v30), .second, .unset, .unset, .unset, .unset] [(.int (4 : Int32)), (.int i5)])) _
    refine XS.iushr X8.here hx rfl (hb hby at_101) rfl ?_
    show Steps p.tables e below (T8.setTop (mkF m 102 #[.val (.long i0), .second, .val (.long i1), .second, .val (.long i2), .second, .val (.long i3), .second, .val (.long i4), .second, .val (.int i5), .val (.ref b1), .val (.long v15), .second, .val (.long v20), .second, .val (.int v23), .val (.long v30), .second, .unset, .unset, .unset, .unset] [(.int ((i5.toUInt32 >>> ((4 : Int32) &&& 31).toUInt32).toInt32))])) _
    refine XS.iconst X8.here hx rfl (hb hby at_102) ?_
    show Steps p.tables e below (T8.setTop (mkF m 103 #[.val (.long i0), .second, .val (.long i1), .second, .val (.long i2), .second, .val (.long i3), .second, .val (.long i4), .second, .val (.int i5), .val (.ref b1), .val (.long v15), .second, .val (.long v20), .second, .val (.int v23), .val (.long v30), .second, .unset, .unset, .unset, .unset] [(.int (3 : Int32)), (.int ((i5.toUInt32 >>> ((4 : Int32) &&& 31).toUInt32).toInt32))])) _
    refine XS.iand X8.here hx rfl (hb hby at_103) rfl ?_
    show Steps p.tables e below (T8.setTop (mkF m 104 #[.val (.long i0), .second, .val (.long i1), .second, .val (.long i2), .second, .val (.long i3), .second, .val (.long i4), .second, .val (.int i5), .val (.ref b1), .val (.long v15), .second, .val (.long v20), .second, .val (.int v23), .val (.long v30), .second, .unset, .unset, .unset, .unset] [(.int (((i5.toUInt32 >>> ((4 : Int32) &&& 31).toUInt32).toInt32) &&& (3 : Int32)))])) _
    refine XS.iconst X8.here hx rfl (hb hby at_104) ?_
    exact k)
  obtain ⟨v35, hv35⟩ : ∃ z : Int32, z = (if (((i5.toUInt32 >>> ((4 : Int32) &&& 31).toUInt32).toInt32) &&& (3 : Int32)) = (3 : Int32) then (1 : Int32) else (0 : Int32)) := ⟨_, rfl⟩
  have P36 : own_Rch p.tables e below A0 (T8.setTop (mkF m 113 #[.val (.long i0), .second, .val (.long i1), .second, .val (.long i2), .second, .val (.long i3), .second, .val (.long i4), .second, .val (.int i5), .val (.ref b1), .val (.long v15), .second, .val (.long v20), .second, .val (.int v23), .val (.long v30), .second, .unset, .unset, .unset, .unset] [(.int v35)])) := fun t k => P33 t (by
    by_cases hc34 : (((i5.toUInt32 >>> ((4 : Int32) &&& 31).toUInt32).toInt32) &&& (3 : Int32)) = (3 : Int32)
    · show Steps p.tables e below (T8.setTop (mkF m 105 #[.val (.long i0), .second, .val (.long i1), .second, .val (.long i2), .second, .val (.long i3), .second, .val (.long i4), .second, .val (.int i5), .val (.ref b1), .val (.long v15), .second, .val (.long v20), .second, .val (.int v23), .val (.long v30), .second, .unset, .unset, .unset, .unset] [(.int (3 : Int32)), (.int (((i5.toUInt32 >>> ((4 : Int32) &&& 31).toUInt32).toInt32) &&& (3 : Int32)))])) _
      refine XS.icmpNo X8.here hx rfl (hb hby at_105) rfl (teq hc34).2 ?_
      have qv35 : v35 = (1 : Int32) := by rw [hv35]; simp only [if_pos hc34]
      rw [qv35] at k
      show Steps p.tables e below (T8.setTop (mkF m 108 #[.val (.long i0), .second, .val (.long i1), .second, .val (.long i2), .second, .val (.long i3), .second, .val (.long i4), .second, .val (.int i5), .val (.ref b1), .val (.long v15), .second, .val (.long v20), .second, .val (.int v23), .val (.long v30), .second, .unset, .unset, .unset, .unset] [])) _
      refine XS.iconst X8.here hx rfl (hb hby at_108) ?_
      show Steps p.tables e below (T8.setTop (mkF m 109 #[.val (.long i0), .second, .val (.long i1), .second, .val (.long i2), .second, .val (.long i3), .second, .val (.long i4), .second, .val (.int i5), .val (.ref b1), .val (.long v15), .second, .val (.long v20), .second, .val (.int v23), .val (.long v30), .second, .unset, .unset, .unset, .unset] [(.int (1 : Int32))])) _
      refine XS.goto X8.here hx rfl (pc0 := 109) (pc' := 113) rfl (hb hby at_109) (by decide) (by decide) ?_
      exact k
    · show Steps p.tables e below (T8.setTop (mkF m 105 #[.val (.long i0), .second, .val (.long i1), .second, .val (.long i2), .second, .val (.long i3), .second, .val (.long i4), .second, .val (.int i5), .val (.ref b1), .val (.long v15), .second, .val (.long v20), .second, .val (.int v23), .val (.long v30), .second, .unset, .unset, .unset, .unset] [(.int (3 : Int32)), (.int (((i5.toUInt32 >>> ((4 : Int32) &&& 31).toUInt32).toInt32) &&& (3 : Int32)))])) _
      refine XS.icmpYes X8.here hx rfl (pc0 := 105) (pc' := 112) rfl (hb hby at_105) rfl (feq hc34).2 (by decide) (by decide) ?_
      have qv35 : v35 = (0 : Int32) := by rw [hv35]; simp only [if_neg hc34]
      rw [qv35] at k
      show Steps p.tables e below (T8.setTop (mkF m 112 #[.val (.long i0), .second, .val (.long i1), .second, .val (.long i2), .second, .val (.long i3), .second, .val (.long i4), .second, .val (.int i5), .val (.ref b1), .val (.long v15), .second, .val (.long v20), .second, .val (.int v23), .val (.long v30), .second, .unset, .unset, .unset, .unset] [])) _
      refine XS.iconst X8.here hx rfl (hb hby at_112) ?_
      exact k)
  have P38 : own_Rch p.tables e below A0 (T8.setTop (mkF m 117 #[.val (.long i0), .second, .val (.long i1), .second, .val (.long i2), .second, .val (.long i3), .second, .val (.long i4), .second, .val (.int i5), .val (.ref b1), .val (.long v15), .second, .val (.long v20), .second, .val (.int v23), .val (.long v30), .second, .val (.int v35), .unset, .unset, .unset] [(.int v35)])) := fun t k => P36 t (by
    show Steps p.tables e below (T8.setTop (mkF m 113 #[.val (.long i0), .second, .val (.long i1), .second, .val (.long i2), .second, .val (.long i3), .second, .val (.long i4), .second, .val (.int i5), .val (.ref b1), .val (.long v15), .second, .val (.long v20), .second, .val (.int v23), .val (.long v30), .second, .unset, .unset, .unset, .unset] [(.int v35)])) _
    refine XS.istore X8.here hx rfl (hb hby at_113) rfl (l' := #[.val (.long i0), .second, .val (.long i1), .second, .val (.long i2), .second, .val (.long i3), .second, .val (.long i4), .second, .val (.int i5), .val (.ref b1), .val (.long v15), .second, .val (.long v20), .second, .val (.int v23), .val (.long v30), .second, .val (.int v35), .unset, .unset, .unset]) rfl ?_
    show Steps p.tables e below (T8.setTop (mkF m 115 #[.val (.long i0), .second, .val (.long i1), .second, .val (.long i2), .second, .val (.long i3), .second, .val (.long i4), .second, .val (.int i5), .val (.ref b1), .val (.long v15), .second, .val (.long v20), .second, .val (.int v23), .val (.long v30), .second, .val (.int v35), .unset, .unset, .unset] [])) _
    refine XS.iload X8.here hx rfl (hb hby at_115) rfl ?_
    exact k)
  by_cases hc37 : v35 = (0 : Int32)
  · -- v35 = (0 : Int32)
    have P39 : own_Rch p.tables e below A0 (T8.setTop (mkF m 124 #[.val (.long i0), .second, .val (.long i1), .second, .val (.long i2), .second, .val (.long i3), .second, .val (.long i4), .second, .val (.int i5), .val (.ref b1), .val (.long v15), .second, .val (.long v20), .second, .val (.int v23), .val (.long v30), .second, .val (.int v35), .unset, .unset, .unset] [])) := fun t k => P38 t (by
      show Steps p.tables e below (T8.setTop (mkF m 117 #[.val (.long i0), .second, .val (.long i1), .second, .val (.long i2), .second, .val (.long i3), .second, .val (.long i4), .second, .val (.int i5), .val (.ref b1), .val (.long v15), .second, .val (.long v20), .second, .val (.int v23), .val (.long v30), .second, .val (.int v35), .unset, .unset, .unset] [(.int v35)])) _
      refine XS.ifYes X8.here hx rfl (pc0 := 117) (pc' := 124) rfl (hb hby at_117) rfl ((if0 _ _).trans (teq hc37).1) (by decide) (by decide) ?_
      exact k)
    obtain ⟨T40, h40, X40, e40, E40, A40, D40, -, st40⟩ := newO X8 hx hZ hown (hw _ (List.mem_of_getElem? (i := 0) rfl)) (hw _ (List.mem_of_getElem? (i := 1) rfl)) (hw _ (List.mem_of_getElem? (i := 2) rfl)) rfl (g := (mkF m 124 #[.val (.long i0), .second, .val (.long i1), .second, .val (.long i2), .second, .val (.long i3), .second, .val (.long i4), .second, .val (.int i5), .val (.ref b1), .val (.long v15), .second, .val (.long v20), .second, .val (.int v23), .val (.long v30), .second, .val (.int v35), .unset, .unset, .unset] [])) rfl (hb hby at_124) (by decide) (by decide)
    obtain ⟨b40, g40⟩ : ∃ z, z = T8.heap.size := ⟨_, rfl⟩
    rw [← g40] at A40 D40 st40
    have g_b40 : n0 ≤ b40 := Nat.le_trans Z_9 (Nat.le_of_eq g40.symm)
    have ne_b1_b40 : b1 ≠ b40 := Nat.ne_of_lt (Nat.lt_of_lt_of_le E_10.lt (Nat.le_of_eq g40.symm))
    have Z_41 : n0 ≤ h40.size := Nat.le_trans Z_9 E40.1
    have E_42 : Exa Z h40 b1 "com/example/commitlog/commitlog/store/ConsumeQueue$Reach" := E_10.ext E40
    have F_43 : Fld Z h40 b1 "com/example/commitlog/commitlog/store/ConsumeQueue$Reach" "first" "J" (.long i0) := F8q0.ext E40
    have F_44 : Fld Z h40 b1 "com/example/commitlog/commitlog/store/ConsumeQueue$Reach" "next" "J" (.long i1) := F8q1.ext E40
    have F_45 : Fld Z h40 b1 "com/example/commitlog/commitlog/store/ConsumeQueue$Reach" "min" "J" (.long i2) := F8q2.ext E40
    have F_46 : Fld Z h40 b40 "com/example/commitlog/commitlog/store/ConsumeQueue$Reach" "first" "J" (.long (0 : Int64)) := D40 (Or.inr (hw _ (List.mem_of_getElem? (i := 15) rfl))) (ty := .long) (by decide)
    have F_47 : Fld Z h40 b40 "com/example/commitlog/commitlog/store/ConsumeQueue$Reach" "next" "J" (.long (0 : Int64)) := D40 (Or.inr (hw _ (List.mem_of_getElem? (i := 17) rfl))) (ty := .long) (by decide)
    have F_48 : Fld Z h40 b40 "com/example/commitlog/commitlog/store/ConsumeQueue$Reach" "min" "J" (.long (0 : Int64)) := D40 (Or.inr (hw _ (List.mem_of_getElem? (i := 19) rfl))) (ty := .long) (by decide)
    have P49 : own_Rch p.tables e below A0 (T40.setTop (mkF m 127 #[.val (.long i0), .second, .val (.long i1), .second, .val (.long i2), .second, .val (.long i3), .second, .val (.long i4), .second, .val (.int i5), .val (.ref b1), .val (.long v15), .second, .val (.long v20), .second, .val (.int v23), .val (.long v30), .second, .val (.int v35), .unset, .unset, .unset] [(.ref b40)])) := fun t k => P39 t (st40 t k)
    have P50 : own_Rch p.tables e below A0 (T40.setTop (mkF m 134 #[.val (.long i0), .second, .val (.long i1), .second, .val (.long i2), .second, .val (.long i3), .second, .val (.long i4), .second, .val (.int i5), .val (.ref b1), .val (.long v15), .second, .val (.long v20), .second, .val (.int v23), .val (.long v30), .second, .val (.int v35), .unset, .unset, .unset] [(.long v30), (.long v20), (.long v15), (.ref b40), (.ref b40)])) := fun t k => P49 t (by
      show Steps p.tables e below (T40.setTop (mkF m 127 #[.val (.long i0), .second, .val (.long i1), .second, .val (.long i2), .second, .val (.long i3), .second, .val (.long i4), .second, .val (.int i5), .val (.ref b1), .val (.long v15), .second, .val (.long v20), .second, .val (.int v23), .val (.long v30), .second, .val (.int v35), .unset, .unset, .unset] [(.ref b40)])) _
      refine XS.dup X40.here hx rfl (hb hby at_127) rfl rfl ?_
      show Steps p.tables e below (T40.setTop (mkF m 128 #[.val (.long i0), .second, .val (.long i1), .second, .val (.long i2), .second, .val (.long i3), .second, .val (.long i4), .second, .val (.int i5), .val (.ref b1), .val (.long v15), .second, .val (.long v20), .second, .val (.int v23), .val (.long v30), .second, .val (.int v35), .unset, .unset, .unset] [(.ref b40), (.ref b40)])) _
      refine XS.lload X40.here hx rfl (hb hby at_128) rfl ?_
      show Steps p.tables e below (T40.setTop (mkF m 130 #[.val (.long i0), .second, .val (.long i1), .second, .val (.long i2), .second, .val (.long i3), .second, .val (.long i4), .second, .val (.int i5), .val (.ref b1), .val (.long v15), .second, .val (.long v20), .second, .val (.int v23), .val (.long v30), .second, .val (.int v35), .unset, .unset, .unset] [(.long v15), (.ref b40), (.ref b40)])) _
      refine XS.lload X40.here hx rfl (hb hby at_130) rfl ?_
      show Steps p.tables e below (T40.setTop (mkF m 132 #[.val (.long i0), .second, .val (.long i1), .second, .val (.long i2), .second, .val (.long i3), .second, .val (.long i4), .second, .val (.int i5), .val (.ref b1), .val (.long v15), .second, .val (.long v20), .second, .val (.int v23), .val (.long v30), .second, .val (.int v35), .unset, .unset, .unset] [(.long v20), (.long v15), (.ref b40), (.ref b40)])) _
      refine XS.lload X40.here hx rfl (hb hby at_132) rfl ?_
      exact k)
    obtain ⟨_, _, ⟨T51, L51, k51, n51⟩, -, X51, ⟨Lc51, hQ51, l51, y51, z51⟩, st51⟩ := X40.specialBack hx (y := (⟨"com/example/commitlog/commitlog/store/ConsumeQueue$Reach", "<init>", "(JJJ)V"⟩ : MethodName)) rfl hown (mvT hZ (hw _ (List.mem_of_getElem? (i := 3) rfl))) (mvT hZ (hw _ (List.mem_of_getElem? (i := 4) rfl))) (mvT hZ (hw _ (List.mem_of_getElem? (i := 5) rfl))) (by decide) (backOf (W := 1) (rm1 l Z a0 hw [] b40 v15 v20 v30 h40 n0 Z_41 A40 F_46 F_47 F_48 g_b40) hZ (hw _ (List.mem_of_getElem? (i := 5) rfl)) (hw _ (List.mem_of_getElem? (i := 2) rfl)) (by decide) (by decide)) (g := (mkF m 134 #[.val (.long i0), .second, .val (.long i1), .second, .val (.long i2), .second, .val (.long i3), .second, .val (.long i4), .second, .val (.int i5), .val (.ref b1), .val (.long v15), .second, .val (.long v20), .second, .val (.int v23), .val (.long v30), .second, .val (.int v35), .unset, .unset, .unset] [(.long v30), (.long v20), (.long v15), (.ref b40), (.ref b40)])) rfl (by rw [hml]; rfl) (Steps.refl _) (a := b40) (argsL := [(.long v15), (.long v20), (.long v30)]) (rest := [(.ref b40)]) (lenOf pd_1 rfl) rfl (by show 2 * 0 + _ ≤ _; exact Nat.le_of_eq rfl) (hb hby at_134) (fun _ _ => ⟨rfl, e40, (by decide : (0 + 1 + 0 + 1) + 0 ≤ _), (by decide : (0 + 3 + 0 + 3) + 0 ≤ _)⟩)
    dsimp only [Pt.U, Pt.locs, Pt.cells, Pt.slots] at X51 l51 y51 z51 st51 hQ51
    subst l51 y51 z51
    obtain ⟨rfl, N51q, K51q, E51q, F51q0, F51q1, F51q2⟩ := hQ51
    have N51 := Fr.app N8 N51q
    have Z_52 : n0 ≤ T51.heap.size := Nat.le_trans Z_41 K51q.1
    have E_53 : Exa Z T51.heap b1 "com/example/commitlog/commitlog/store/ConsumeQueue$Reach" := E_42.keep K51q
    have F_54 : Fld Z T51.heap b1 "com/example/commitlog/commitlog/store/ConsumeQueue$Reach" "first" "J" (.long i0) := F_43.keep K51q (ninS ne_b1_b40 nin0)
    have F_55 : Fld Z T51.heap b1 "com/example/commitlog/commitlog/store/ConsumeQueue$Reach" "next" "J" (.long i1) := F_44.keep K51q (ninS ne_b1_b40 nin0)
    have F_56 : Fld Z T51.heap b1 "com/example/commitlog/commitlog/store/ConsumeQueue$Reach" "min" "J" (.long i2) := F_45.keep K51q (ninS ne_b1_b40 nin0)
    have E_57 : Exa Z T51.heap b40 "com/example/commitlog/commitlog/store/ConsumeQueue$Reach" := A40.keep K51q
    have P58 : own_Rch p.tables e below A0 (T51.setTop (mkF m 137 #[.val (.long i0), .second, .val (.long i1), .second, .val (.long i2), .second, .val (.long i3), .second, .val (.long i4), .second, .val (.int i5), .val (.ref b1), .val (.long v15), .second, .val (.long v20), .second, .val (.int v23), .val (.long v30), .second, .val (.int v35), .unset, .unset, .unset] [(.ref b40)])) := fun t k => P50 t (st51.trans k)
    have P59 : own_Rch p.tables e below A0 (T51.setTop (mkF m 143 #[.val (.long i0), .second, .val (.long i1), .second, .val (.long i2), .second, .val (.long i3), .second, .val (.long i4), .second, .val (.int i5), .val (.ref b1), .val (.long v15), .second, .val (.long v20), .second, .val (.int v23), .val (.long v30), .second, .val (.int v35), .val (.ref b40), .unset, .unset] [(.ref b40), (.ref b1)])) := fun t k => P58 t (by
      show Steps p.tables e below (T51.setTop (mkF m 137 #[.val (.long i0), .second, .val (.long i1), .second, .val (.long i2), .second, .val (.long i3), .second, .val (.long i4), .second, .val (.int i5), .val (.ref b1), .val (.long v15), .second, .val (.long v20), .second, .val (.int v23), .val (.long v30), .second, .val (.int v35), .unset, .unset, .unset] [(.ref b40)])) _
      refine XS.astore X51.here hx rfl (hb hby at_137) rfl rfl (l' := #[.val (.long i0), .second, .val (.long i1), .second, .val (.long i2), .second, .val (.long i3), .second, .val (.long i4), .second, .val (.int i5), .val (.ref b1), .val (.long v15), .second, .val (.long v20), .second, .val (.int v23), .val (.long v30), .second, .val (.int v35), .val (.ref b40), .unset, .unset]) rfl ?_
      show Steps p.tables e below (T51.setTop (mkF m 139 #[.val (.long i0), .second, .val (.long i1), .second, .val (.long i2), .second, .val (.long i3), .second, .val (.long i4), .second, .val (.int i5), .val (.ref b1), .val (.long v15), .second, .val (.long v20), .second, .val (.int v23), .val (.long v30), .second, .val (.int v35), .val (.ref b40), .unset, .unset] [])) _
      refine XS.aload X51.here hx rfl (hb hby at_139) rfl rfl ?_
      show Steps p.tables e below (T51.setTop (mkF m 141 #[.val (.long i0), .second, .val (.long i1), .second, .val (.long i2), .second, .val (.long i3), .second, .val (.long i4), .second, .val (.int i5), .val (.ref b1), .val (.long v15), .second, .val (.long v20), .second, .val (.int v23), .val (.long v30), .second, .val (.int v35), .val (.ref b40), .unset, .unset] [(.ref b1)])) _
      refine XS.aload X51.here hx rfl (hb hby at_141) rfl rfl ?_
      exact k)
    obtain ⟨cq60, kq60, q60a, q60b, q60c⟩ := isOf hZ rfl E_53
    obtain ⟨_, _, ⟨T60, L60, k60, n60⟩, -, X60, ⟨Lc60, hQ60, l60, y60, z60⟩, st60⟩ := X51.virtualBack hx (y := (⟨"com/example/commitlog/commitlog/store/ConsumeQueue$Reach", "isAsNoted", "(Lcom/example/commitlog/commitlog/store/ConsumeQueue$Reach;)Z"⟩ : MethodName)) (z := (⟨"com/example/commitlog/commitlog/store/ConsumeQueue$Reach", "isAsNoted", "(Lcom/example/commitlog/commitlog/store/ConsumeQueue$Reach;)Z"⟩ : MethodName)) hown (mvT hZ (hw _ (List.mem_of_getElem? (i := 20) rfl))) (mvT hZ (hw _ (List.mem_of_getElem? (i := 21) rfl))) (notFace_of_selects (args := #[]) (mvT hZ (hw _ (List.mem_of_getElem? (i := 23) rfl)))) (mvT hZ (hw _ (List.mem_of_getElem? (i := 23) rfl))) (mvT hZ (hw _ (List.mem_of_getElem? (i := 22) rfl))) (by decide) (backOf (W := 0) (rm4 l Z a0 hw [] b1 b40 i0 i1 i2 v15 v20 v30 T51.heap n0 Z_52 F_54 F_55 F_56 F51q0 F51q1 F51q2) hZ (hw _ (List.mem_of_getElem? (i := 24) rfl)) (hw _ (List.mem_of_getElem? (i := 2) rfl)) (by decide) (by decide)) q60a q60c (g := (mkF m 143 #[.val (.long i0), .second, .val (.long i1), .second, .val (.long i2), .second, .val (.long i3), .second, .val (.long i4), .second, .val (.int i5), .val (.ref b1), .val (.long v15), .second, .val (.long v20), .second, .val (.int v23), .val (.long v30), .second, .val (.int v35), .val (.ref b40), .unset, .unset] [(.ref b40), (.ref b1)])) rfl (by rw [hml]; rfl) (Steps.refl _) (argsL := [(.ref b40)]) (rest := []) (lenOf pd_2 rfl) rfl (by show 2 * 0 + _ ≤ _; exact Nat.le_of_eq rfl) (hb hby at_143) (fun _ _ => ⟨rfl, rfl, (by decide : (0 + 1 + 0 + 1 + 0) + 0 ≤ _), (by decide : (0 + 3 + 0 + 3 + 0) + 0 ≤ _)⟩)
    dsimp only [Pt.U, Pt.locs, Pt.cells, Pt.slots] at X60 l60 y60 z60 st60 hQ60
    subst l60 y60 z60
    obtain ⟨rfl, N60q, e60⟩ := hQ60
    have N60 := Fr.app N51 N60q
    have P61 : own_Rch p.tables e below A0 (T60.setTop (mkF m 146 #[.val (.long i0), .second, .val (.long i1), .second, .val (.long i2), .second, .val (.long i3), .second, .val (.long i4), .second, .val (.int i5), .val (.ref b1), .val (.long v15), .second, .val (.long v20), .second, .val (.int v23), .val (.long v30), .second, .val (.int v35), .val (.ref b40), .unset, .unset] [(.int (own_as i0 i1 i2 v15 v20 v30))])) := fun t k => P59 t (st60.trans k)
    have P62 : own_Rch p.tables e below A0 (T60.setTop (mkF m 148 #[.val (.long i0), .second, .val (.long i1), .second, .val (.long i2), .second, .val (.long i3), .second, .val (.long i4), .second, .val (.int i5), .val (.ref b1), .val (.long v15), .second, .val (.long v20), .second, .val (.int v23), .val (.long v30), .second, .val (.int v35), .val (.ref b40), .val (.int (own_as i0 i1 i2 v15 v20 v30)), .unset] [])) := fun t k => P61 t (by
      show Steps p.tables e below (T60.setTop (mkF m 146 #[.val (.long i0), .second, .val (.long i1), .second, .val (.long i2), .second, .val (.long i3), .second, .val (.long i4), .second, .val (.int i5), .val (.ref b1), .val (.long v15), .second, .val (.long v20), .second, .val (.int v23), .val (.long v30), .second, .val (.int v35), .val (.ref b40), .unset, .unset] [(.int (own_as i0 i1 i2 v15 v20 v30))])) _
      refine XS.istore X60.here hx rfl (hb hby at_146) rfl (l' := #[.val (.long i0), .second, .val (.long i1), .second, .val (.long i2), .second, .val (.long i3), .second, .val (.long i4), .second, .val (.int i5), .val (.ref b1), .val (.long v15), .second, .val (.long v20), .second, .val (.int v23), .val (.long v30), .second, .val (.int v35), .val (.ref b40), .val (.int (own_as i0 i1 i2 v15 v20 v30)), .unset]) rfl ?_
      exact k)
    obtain ⟨v63, hv63, P64⟩ : ∃ z : Int32, z = (own_as i0 i1 i2 v15 v20 v30) ∧ own_Rch p.tables e below A0 (T60.setTop (mkF m 148 #[.val (.long i0), .second, .val (.long i1), .second, .val (.long i2), .second, .val (.long i3), .second, .val (.long i4), .second, .val (.int i5), .val (.ref b1), .val (.long v15), .second, .val (.long v20), .second, .val (.int v23), .val (.long v30), .second, .val (.int v35), .val (.ref b40), .val (.int z), .unset] [])) := ⟨_, rfl, P62⟩
    have P66 : own_Rch p.tables e below A0 (T60.setTop (mkF m 163 #[.val (.long i0), .second, .val (.long i1), .second, .val (.long i2), .second, .val (.long i3), .second, .val (.long i4), .second, .val (.int i5), .val (.ref b1), .val (.long v15), .second, .val (.long v20), .second, .val (.int v23), .val (.long v30), .second, .val (.int v35), .val (.ref b40), .val (.int v63), .unset] [(.int (lcmpW v15 i0))])) := fun t k => P64 t (by
      show Steps p.tables e below (T60.setTop (mkF m 148 #[.val (.long i0), .second, .val (.long i1), .second, .val (.long i2), .second, .val (.long i3), .second, .val (.long i4), .second, .val (.int i5), .val (.ref b1), .val (.long v15), .second, .val (.long v20), .second, .val (.int v23), .val (.long v30), .second, .val (.int v35), .val (.ref b40), .val (.int v63), .unset] [])) _
      refine XS.iload X60.here hx rfl (hb hby at_148) rfl ?_
      show Steps p.tables e below (T60.setTop (mkF m 150 #[.val (.long i0), .second, .val (.long i1), .second, .val (.long i2), .second, .val (.long i3), .second, .val (.long i4), .second, .val (.int i5), .val (.ref b1), .val (.long v15), .second, .val (.long v20), .second, .val (.int v23), .val (.long v30), .second, .val (.int v35), .val (.ref b40), .val (.int v63), .unset] [(.int v35)])) _
      refine XS.ifYes X60.here hx rfl (pc0 := 150) (pc' := 159) rfl (hb hby at_150) rfl ((if0 _ _).trans (teq hc37).1) (by decide) (by decide) ?_
      show Steps p.tables e below (T60.setTop (mkF m 159 #[.val (.long i0), .second, .val (.long i1), .second, .val (.long i2), .second, .val (.long i3), .second, .val (.long i4), .second, .val (.int i5), .val (.ref b1), .val (.long v15), .second, .val (.long v20), .second, .val (.int v23), .val (.long v30), .second, .val (.int v35), .val (.ref b40), .val (.int v63), .unset] [])) _
      refine XS.lload X60.here hx rfl (hb hby at_159) rfl ?_
      show Steps p.tables e below (T60.setTop (mkF m 161 #[.val (.long i0), .second, .val (.long i1), .second, .val (.long i2), .second, .val (.long i3), .second, .val (.long i4), .second, .val (.int i5), .val (.ref b1), .val (.long v15), .second, .val (.long v20), .second, .val (.int v23), .val (.long v30), .second, .val (.int v35), .val (.ref b40), .val (.int v63), .unset] [(.long v15)])) _
      refine XS.lloadN X60.here hx rfl (hb hby at_161) rfl ?_
      show Steps p.tables e below (T60.setTop (mkF m 162 #[.val (.long i0), .second, .val (.long i1), .second, .val (.long i2), .second, .val (.long i3), .second, .val (.long i4), .second, .val (.int i5), .val (.ref b1), .val (.long v15), .second, .val (.long v20), .second, .val (.int v23), .val (.long v30), .second, .val (.int v35), .val (.ref b40), .val (.int v63), .unset] [(.long i0), (.long v15)])) _
      refine XS.lcmp X60.here hx rfl (hb hby at_162) rfl ?_
      exact k)
    obtain ⟨v71, hv71⟩ : ∃ z : Int32, z = (if v15 = i0 then (if v20 = i1 then (if v30 < (0 : Int64) then (1 : Int32) else (if v30 = i2 then (1 : Int32) else (0 : Int32))) else (0 : Int32)) else (0 : Int32)) := ⟨_, rfl⟩
    have P72 : own_Rch p.tables e below A0 (T60.setTop (mkF m 213 #[.val (.long i0), .second, .val (.long i1), .second, .val (.long i2), .second, .val (.long i3), .second, .val (.long i4), .second, .val (.int i5), .val (.ref b1), .val (.long v15), .second, .val (.long v20), .second, .val (.int v23), .val (.long v30), .second, .val (.int v35), .val (.ref b40), .val (.int v63), .val (.int v71)] [])) := fun t k => P66 t (by
      by_cases hc67 : v15 = i0
      · show Steps p.tables e below (T60.setTop (mkF m 163 #[.val (.long i0), .second, .val (.long i1), .second, .val (.long i2), .second, .val (.long i3), .second, .val (.long i4), .second, .val (.int i5), .val (.ref b1), .val (.long v15), .second, .val (.long v20), .second, .val (.int v23), .val (.long v30), .second, .val (.int v35), .val (.ref b40), .val (.int v63), .unset] [(.int (lcmpW v15 i0))])) _
        refine XS.ifYes X60.here hx rfl (pc0 := 163) (pc' := 172) rfl (hb hby at_163) rfl (own_lct3 hc67).1 (by decide) (by decide) ?_
        show Steps p.tables e below (T60.setTop (mkF m 172 #[.val (.long i0), .second, .val (.long i1), .second, .val (.long i2), .second, .val (.long i3), .second, .val (.long i4), .second, .val (.int i5), .val (.ref b1), .val (.long v15), .second, .val (.long v20), .second, .val (.int v23), .val (.long v30), .second, .val (.int v35), .val (.ref b40), .val (.int v63), .unset] [])) _
        refine XS.lload X60.here hx rfl (hb hby at_172) rfl ?_
        show Steps p.tables e below (T60.setTop (mkF m 174 #[.val (.long i0), .second, .val (.long i1), .second, .val (.long i2), .second, .val (.long i3), .second, .val (.long i4), .second, .val (.int i5), .val (.ref b1), .val (.long v15), .second, .val (.long v20), .second, .val (.int v23), .val (.long v30), .second, .val (.int v35), .val (.ref b40), .val (.int v63), .unset] [(.long v20)])) _
        refine XS.lloadN X60.here hx rfl (hb hby at_174) rfl ?_
        show Steps p.tables e below (T60.setTop (mkF m 175 #[.val (.long i0), .second, .val (.long i1), .second, .val (.long i2), .second, .val (.long i3), .second, .val (.long i4), .second, .val (.int i5), .val (.ref b1), .val (.long v15), .second, .val (.long v20), .second, .val (.int v23), .val (.long v30), .second, .val (.int v35), .val (.ref b40), .val (.int v63), .unset] [(.long i1), (.long v20)])) _
        refine XS.lcmp X60.here hx rfl (hb hby at_175) rfl ?_
        by_cases hc68 : v20 = i1
        · show Steps p.tables e below (T60.setTop (mkF m 176 #[.val (.long i0), .second, .val (.long i1), .second, .val (.long i2), .second, .val (.long i3), .second, .val (.long i4), .second, .val (.int i5), .val (.ref b1), .val (.long v15), .second, .val (.long v20), .second, .val (.int v23), .val (.long v30), .second, .val (.int v35), .val (.ref b40), .val (.int v63), .unset] [(.int (lcmpW v20 i1))])) _
          refine XS.ifYes X60.here hx rfl (pc0 := 176) (pc' := 185) rfl (hb hby at_176) rfl (own_lct3 hc68).1 (by decide) (by decide) ?_
          show Steps p.tables e below (T60.setTop (mkF m 185 #[.val (.long i0), .second, .val (.long i1), .second, .val (.long i2), .second, .val (.long i3), .second, .val (.long i4), .second, .val (.int i5), .val (.ref b1), .val (.long v15), .second, .val (.long v20), .second, .val (.int v23), .val (.long v30), .second, .val (.int v35), .val (.ref b40), .val (.int v63), .unset] [])) _
          refine XS.lload X60.here hx rfl (hb hby at_185) rfl ?_
          show Steps p.tables e below (T60.setTop (mkF m 187 #[.val (.long i0), .second, .val (.long i1), .second, .val (.long i2), .second, .val (.long i3), .second, .val (.long i4), .second, .val (.int i5), .val (.ref b1), .val (.long v15), .second, .val (.long v20), .second, .val (.int v23), .val (.long v30), .second, .val (.int v35), .val (.ref b40), .val (.int v63), .unset] [(.long v30)])) _
          refine XS.lconst X60.here hx rfl (hb hby at_187) ?_
          show Steps p.tables e below (T60.setTop (mkF m 188 #[.val (.long i0), .second, .val (.long i1), .second, .val (.long i2), .second, .val (.long i3), .second, .val (.long i4), .second, .val (.int i5), .val (.ref b1), .val (.long v15), .second, .val (.long v20), .second, .val (.int v23), .val (.long v30), .second, .val (.int v35), .val (.ref b40), .val (.int v63), .unset] [(.long (0 : Int64)), (.long v30)])) _
          refine XS.lcmp X60.here hx rfl (hb hby at_188) rfl ?_
          by_cases hc69 : v30 < (0 : Int64)
          · show Steps p.tables e below (T60.setTop (mkF m 189 #[.val (.long i0), .second, .val (.long i1), .second, .val (.long i2), .second, .val (.long i3), .second, .val (.long i4), .second, .val (.int i5), .val (.ref b1), .val (.long v15), .second, .val (.long v20), .second, .val (.int v23), .val (.long v30), .second, .val (.int v35), .val (.ref b40), .val (.int v63), .unset] [(.int (lcmpW v30 (0 : Int64)))])) _
            refine XS.ifNo X60.here hx rfl (hb hby at_189) rfl (own_lct1 hc69).2 ?_
            have qv71 : v71 = (1 : Int32) := by rw [hv71]; simp only [if_pos hc67, if_pos hc68, if_pos hc69]
            rw [qv71] at k
            show Steps p.tables e below (T60.setTop (mkF m 192 #[.val (.long i0), .second, .val (.long i1), .second, .val (.long i2), .second, .val (.long i3), .second, .val (.long i4), .second, .val (.int i5), .val (.ref b1), .val (.long v15), .second, .val (.long v20), .second, .val (.int v23), .val (.long v30), .second, .val (.int v35), .val (.ref b40), .val (.int v63), .unset] [])) _
            refine XS.iconst X60.here hx rfl (hb hby at_192) ?_
            show Steps p.tables e below (T60.setTop (mkF m 193 #[.val (.long i0), .second, .val (.long i1), .second, .val (.long i2), .second, .val (.long i3), .second, .val (.long i4), .second, .val (.int i5), .val (.ref b1), .val (.long v15), .second, .val (.long v20), .second, .val (.int v23), .val (.long v30), .second, .val (.int v35), .val (.ref b40), .val (.int v63), .unset] [(.int (1 : Int32))])) _
            refine XS.istore X60.here hx rfl (hb hby at_193) rfl (l' := #[.val (.long i0), .second, .val (.long i1), .second, .val (.long i2), .second, .val (.long i3), .second, .val (.long i4), .second, .val (.int i5), .val (.ref b1), .val (.long v15), .second, .val (.long v20), .second, .val (.int v23), .val (.long v30), .second, .val (.int v35), .val (.ref b40), .val (.int v63), .val (.int (1 : Int32))]) rfl ?_
            show Steps p.tables e below (T60.setTop (mkF m 195 #[.val (.long i0), .second, .val (.long i1), .second, .val (.long i2), .second, .val (.long i3), .second, .val (.long i4), .second, .val (.int i5), .val (.ref b1), .val (.long v15), .second, .val (.long v20), .second, .val (.int v23), .val (.long v30), .second, .val (.int v35), .val (.ref b40), .val (.int v63), .val (.int (1 : Int32))] [])) _
            refine XS.goto X60.here hx rfl (pc0 := 195) (pc' := 213) rfl (hb hby at_195) (by decide) (by decide) ?_
            exact k
          · show Steps p.tables e below (T60.setTop (mkF m 189 #[.val (.long i0), .second, .val (.long i1), .second, .val (.long i2), .second, .val (.long i3), .second, .val (.long i4), .second, .val (.int i5), .val (.ref b1), .val (.long v15), .second, .val (.long v20), .second, .val (.int v23), .val (.long v30), .second, .val (.int v35), .val (.ref b40), .val (.int v63), .unset] [(.int (lcmpW v30 (0 : Int64)))])) _
            refine XS.ifYes X60.here hx rfl (pc0 := 189) (pc' := 198) rfl (hb hby at_189) rfl (own_lcf1 hc69).2 (by decide) (by decide) ?_
            show Steps p.tables e below (T60.setTop (mkF m 198 #[.val (.long i0), .second, .val (.long i1), .second, .val (.long i2), .second, .val (.long i3), .second, .val (.long i4), .second, .val (.int i5), .val (.ref b1), .val (.long v15), .second, .val (.long v20), .second, .val (.int v23), .val (.long v30), .second, .val (.int v35), .val (.ref b40), .val (.int v63), .unset] [])) _
            refine XS.lload X60.here hx rfl (hb hby at_198) rfl ?_
            show Steps p.tables e below (T60.setTop (mkF m 200 #[.val (.long i0), .second, .val (.long i1), .second, .val (.long i2), .second, .val (.long i3), .second, .val (.long i4), .second, .val (.int i5), .val (.ref b1), .val (.long v15), .second, .val (.long v20), .second, .val (.int v23), .val (.long v30), .second, .val (.int v35), .val (.ref b40), .val (.int v63), .unset] [(.long v30)])) _
            refine XS.lload X60.here hx rfl (hb hby at_200) rfl ?_
            show Steps p.tables e below (T60.setTop (mkF m 202 #[.val (.long i0), .second, .val (.long i1), .second, .val (.long i2), .second, .val (.long i3), .second, .val (.long i4), .second, .val (.int i5), .val (.ref b1), .val (.long v15), .second, .val (.long v20), .second, .val (.int v23), .val (.long v30), .second, .val (.int v35), .val (.ref b40), .val (.int v63), .unset] [(.long i2), (.long v30)])) _
            refine XS.lcmp X60.here hx rfl (hb hby at_202) rfl ?_
            by_cases hc70 : v30 = i2
            · show Steps p.tables e below (T60.setTop (mkF m 203 #[.val (.long i0), .second, .val (.long i1), .second, .val (.long i2), .second, .val (.long i3), .second, .val (.long i4), .second, .val (.int i5), .val (.ref b1), .val (.long v15), .second, .val (.long v20), .second, .val (.int v23), .val (.long v30), .second, .val (.int v35), .val (.ref b40), .val (.int v63), .unset] [(.int (lcmpW v30 i2))])) _
              refine XS.ifNo X60.here hx rfl (hb hby at_203) rfl (own_lct3 hc70).2 ?_
              have qv71 : v71 = (1 : Int32) := by rw [hv71]; simp only [if_pos hc67, if_pos hc68, if_neg hc69, if_pos hc70]
              rw [qv71] at k
              show Steps p.tables e below (T60.setTop (mkF m 206 #[.val (.long i0), .second, .val (.long i1), .second, .val (.long i2), .second, .val (.long i3), .second, .val (.long i4), .second, .val (.int i5), .val (.ref b1), .val (.long v15), .second, .val (.long v20), .second, .val (.int v23), .val (.long v30), .second, .val (.int v35), .val (.ref b40), .val (.int v63), .unset] [])) _
              refine XS.iconst X60.here hx rfl (hb hby at_206) ?_
              show Steps p.tables e below (T60.setTop (mkF m 207 #[.val (.long i0), .second, .val (.long i1), .second, .val (.long i2), .second, .val (.long i3), .second, .val (.long i4), .second, .val (.int i5), .val (.ref b1), .val (.long v15), .second, .val (.long v20), .second, .val (.int v23), .val (.long v30), .second, .val (.int v35), .val (.ref b40), .val (.int v63), .unset] [(.int (1 : Int32))])) _
              refine XS.goto X60.here hx rfl (pc0 := 207) (pc' := 211) rfl (hb hby at_207) (by decide) (by decide) ?_
              show Steps p.tables e below (T60.setTop (mkF m 211 #[.val (.long i0), .second, .val (.long i1), .second, .val (.long i2), .second, .val (.long i3), .second, .val (.long i4), .second, .val (.int i5), .val (.ref b1), .val (.long v15), .second, .val (.long v20), .second, .val (.int v23), .val (.long v30), .second, .val (.int v35), .val (.ref b40), .val (.int v63), .unset] [(.int (1 : Int32))])) _
              refine XS.istore X60.here hx rfl (hb hby at_211) rfl (l' := #[.val (.long i0), .second, .val (.long i1), .second, .val (.long i2), .second, .val (.long i3), .second, .val (.long i4), .second, .val (.int i5), .val (.ref b1), .val (.long v15), .second, .val (.long v20), .second, .val (.int v23), .val (.long v30), .second, .val (.int v35), .val (.ref b40), .val (.int v63), .val (.int (1 : Int32))]) rfl ?_
              exact k
            · show Steps p.tables e below (T60.setTop (mkF m 203 #[.val (.long i0), .second, .val (.long i1), .second, .val (.long i2), .second, .val (.long i3), .second, .val (.long i4), .second, .val (.int i5), .val (.ref b1), .val (.long v15), .second, .val (.long v20), .second, .val (.int v23), .val (.long v30), .second, .val (.int v35), .val (.ref b40), .val (.int v63), .unset] [(.int (lcmpW v30 i2))])) _
              refine XS.ifYes X60.here hx rfl (pc0 := 203) (pc' := 210) rfl (hb hby at_203) rfl (own_lcf3 hc70).2 (by decide) (by decide) ?_
              have qv71 : v71 = (0 : Int32) := by rw [hv71]; simp only [if_pos hc67, if_pos hc68, if_neg hc69, if_neg hc70]
              rw [qv71] at k
              show Steps p.tables e below (T60.setTop (mkF m 210 #[.val (.long i0), .second, .val (.long i1), .second, .val (.long i2), .second, .val (.long i3), .second, .val (.long i4), .second, .val (.int i5), .val (.ref b1), .val (.long v15), .second, .val (.long v20), .second, .val (.int v23), .val (.long v30), .second, .val (.int v35), .val (.ref b40), .val (.int v63), .unset] [])) _
              refine XS.iconst X60.here hx rfl (hb hby at_210) ?_
              show Steps p.tables e below (T60.setTop (mkF m 211 #[.val (.long i0), .second, .val (.long i1), .second, .val (.long i2), .second, .val (.long i3), .second, .val (.long i4), .second, .val (.int i5), .val (.ref b1), .val (.long v15), .second, .val (.long v20), .second, .val (.int v23), .val (.long v30), .second, .val (.int v35), .val (.ref b40), .val (.int v63), .unset] [(.int (0 : Int32))])) _
              refine XS.istore X60.here hx rfl (hb hby at_211) rfl (l' := #[.val (.long i0), .second, .val (.long i1), .second, .val (.long i2), .second, .val (.long i3), .second, .val (.long i4), .second, .val (.int i5), .val (.ref b1), .val (.long v15), .second, .val (.long v20), .second, .val (.int v23), .val (.long v30), .second, .val (.int v35), .val (.ref b40), .val (.int v63), .val (.int (0 : Int32))]) rfl ?_
              exact k
        · show Steps p.tables e below (T60.setTop (mkF m 176 #[.val (.long i0), .second, .val (.long i1), .second, .val (.long i2), .second, .val (.long i3), .second, .val (.long i4), .second, .val (.int i5), .val (.ref b1), .val (.long v15), .second, .val (.long v20), .second, .val (.int v23), .val (.long v30), .second, .val (.int v35), .val (.ref b40), .val (.int v63), .unset] [(.int (lcmpW v20 i1))])) _
          refine XS.ifNo X60.here hx rfl (hb hby at_176) rfl (own_lcf3 hc68).1 ?_
          have qv71 : v71 = (0 : Int32) := by rw [hv71]; simp only [if_pos hc67, if_neg hc68]
          rw [qv71] at k
          show Steps p.tables e below (T60.setTop (mkF m 179 #[.val (.long i0), .second, .val (.long i1), .second, .val (.long i2), .second, .val (.long i3), .second, .val (.long i4), .second, .val (.int i5), .val (.ref b1), .val (.long v15), .second, .val (.long v20), .second, .val (.int v23), .val (.long v30), .second, .val (.int v35), .val (.ref b40), .val (.int v63), .unset] [])) _
          refine XS.iconst X60.here hx rfl (hb hby at_179) ?_
          show Steps p.tables e below (T60.setTop (mkF m 180 #[.val (.long i0), .second, .val (.long i1), .second, .val (.long i2), .second, .val (.long i3), .second, .val (.long i4), .second, .val (.int i5), .val (.ref b1), .val (.long v15), .second, .val (.long v20), .second, .val (.int v23), .val (.long v30), .second, .val (.int v35), .val (.ref b40), .val (.int v63), .unset] [(.int (0 : Int32))])) _
          refine XS.istore X60.here hx rfl (hb hby at_180) rfl (l' := #[.val (.long i0), .second, .val (.long i1), .second, .val (.long i2), .second, .val (.long i3), .second, .val (.long i4), .second, .val (.int i5), .val (.ref b1), .val (.long v15), .second, .val (.long v20), .second, .val (.int v23), .val (.long v30), .second, .val (.int v35), .val (.ref b40), .val (.int v63), .val (.int (0 : Int32))]) rfl ?_
          show Steps p.tables e below (T60.setTop (mkF m 182 #[.val (.long i0), .second, .val (.long i1), .second, .val (.long i2), .second, .val (.long i3), .second, .val (.long i4), .second, .val (.int i5), .val (.ref b1), .val (.long v15), .second, .val (.long v20), .second, .val (.int v23), .val (.long v30), .second, .val (.int v35), .val (.ref b40), .val (.int v63), .val (.int (0 : Int32))] [])) _
          refine XS.goto X60.here hx rfl (pc0 := 182) (pc' := 213) rfl (hb hby at_182) (by decide) (by decide) ?_
          exact k
      · show Steps p.tables e below (T60.setTop (mkF m 163 #[.val (.long i0), .second, .val (.long i1), .second, .val (.long i2), .second, .val (.long i3), .second, .val (.long i4), .second, .val (.int i5), .val (.ref b1), .val (.long v15), .second, .val (.long v20), .second, .val (.int v23), .val (.long v30), .second, .val (.int v35), .val (.ref b40), .val (.int v63), .unset] [(.int (lcmpW v15 i0))])) _
        refine XS.ifNo X60.here hx rfl (hb hby at_163) rfl (own_lcf3 hc67).1 ?_
        have qv71 : v71 = (0 : Int32) := by rw [hv71]; simp only [if_neg hc67]
        rw [qv71] at k
        show Steps p.tables e below (T60.setTop (mkF m 166 #[.val (.long i0), .second, .val (.long i1), .second, .val (.long i2), .second, .val (.long i3), .second, .val (.long i4), .second, .val (.int i5), .val (.ref b1), .val (.long v15), .second, .val (.long v20), .second, .val (.int v23), .val (.long v30), .second, .val (.int v35), .val (.ref b40), .val (.int v63), .unset] [])) _
        refine XS.iconst X60.here hx rfl (hb hby at_166) ?_
        show Steps p.tables e below (T60.setTop (mkF m 167 #[.val (.long i0), .second, .val (.long i1), .second, .val (.long i2), .second, .val (.long i3), .second, .val (.long i4), .second, .val (.int i5), .val (.ref b1), .val (.long v15), .second, .val (.long v20), .second, .val (.int v23), .val (.long v30), .second, .val (.int v35), .val (.ref b40), .val (.int v63), .unset] [(.int (0 : Int32))])) _
        refine XS.istore X60.here hx rfl (hb hby at_167) rfl (l' := #[.val (.long i0), .second, .val (.long i1), .second, .val (.long i2), .second, .val (.long i3), .second, .val (.long i4), .second, .val (.int i5), .val (.ref b1), .val (.long v15), .second, .val (.long v20), .second, .val (.int v23), .val (.long v30), .second, .val (.int v35), .val (.ref b40), .val (.int v63), .val (.int (0 : Int32))]) rfl ?_
        show Steps p.tables e below (T60.setTop (mkF m 169 #[.val (.long i0), .second, .val (.long i1), .second, .val (.long i2), .second, .val (.long i3), .second, .val (.long i4), .second, .val (.int i5), .val (.ref b1), .val (.long v15), .second, .val (.long v20), .second, .val (.int v23), .val (.long v30), .second, .val (.int v35), .val (.ref b40), .val (.int v63), .val (.int (0 : Int32))] [])) _
        refine XS.goto X60.here hx rfl (pc0 := 169) (pc' := 213) rfl (hb hby at_169) (by decide) (by decide) ?_
        exact k)
    have P74 : own_Rch p.tables e below A0 (T60.setTop (mkF m 217 #[.val (.long i0), .second, .val (.long i1), .second, .val (.long i2), .second, .val (.long i3), .second, .val (.long i4), .second, .val (.int i5), .val (.ref b1), .val (.long v15), .second, .val (.long v20), .second, .val (.int v23), .val (.long v30), .second, .val (.int v35), .val (.ref b40), .val (.int v63), .val (.int v71)] [(.int v71), (.int v63)])) := fun t k => P72 t (by
      show Steps p.tables e below (T60.setTop (mkF m 213 #[.val (.long i0), .second, .val (.long i1), .second, .val (.long i2), .second, .val (.long i3), .second, .val (.long i4), .second, .val (.int i5), .val (.ref b1), .val (.long v15), .second, .val (.long v20), .second, .val (.int v23), .val (.long v30), .second, .val (.int v35), .val (.ref b40), .val (.int v63), .val (.int v71)] [])) _
      refine XS.iload X60.here hx rfl (hb hby at_213) rfl ?_
      show Steps p.tables e below (T60.setTop (mkF m 215 #[.val (.long i0), .second, .val (.long i1), .second, .val (.long i2), .second, .val (.long i3), .second, .val (.long i4), .second, .val (.int i5), .val (.ref b1), .val (.long v15), .second, .val (.long v20), .second, .val (.int v23), .val (.long v30), .second, .val (.int v35), .val (.ref b40), .val (.int v63), .val (.int v71)] [(.int v63)])) _
      refine XS.iload X60.here hx rfl (hb hby at_215) rfl ?_
      exact k)
    by_cases hc73 : v63 = v71
    · -- v63 = v71
      have P75 : own_Rch p.tables e below A0 (T60.setTop (mkF m 225 #[.val (.long i0), .second, .val (.long i1), .second, .val (.long i2), .second, .val (.long i3), .second, .val (.long i4), .second, .val (.int i5), .val (.ref b1), .val (.long v15), .second, .val (.long v20), .second, .val (.int v23), .val (.long v30), .second, .val (.int v35), .val (.ref b40), .val (.int v63), .val (.int v71)] [(.int (1 : Int32))])) := fun t k => P74 t (by
        show Steps p.tables e below (T60.setTop (mkF m 217 #[.val (.long i0), .second, .val (.long i1), .second, .val (.long i2), .second, .val (.long i3), .second, .val (.long i4), .second, .val (.int i5), .val (.ref b1), .val (.long v15), .second, .val (.long v20), .second, .val (.int v23), .val (.long v30), .second, .val (.int v35), .val (.ref b40), .val (.int v63), .val (.int v71)] [(.int v71), (.int v63)])) _
        refine XS.icmpNo X60.here hx rfl (hb hby at_217) rfl (teq hc73).2 ?_
        show Steps p.tables e below (T60.setTop (mkF m 220 #[.val (.long i0), .second, .val (.long i1), .second, .val (.long i2), .second, .val (.long i3), .second, .val (.long i4), .second, .val (.int i5), .val (.ref b1), .val (.long v15), .second, .val (.long v20), .second, .val (.int v23), .val (.long v30), .second, .val (.int v35), .val (.ref b40), .val (.int v63), .val (.int v71)] [])) _
        refine XS.iconst X60.here hx rfl (hb hby at_220) ?_
        show Steps p.tables e below (T60.setTop (mkF m 221 #[.val (.long i0), .second, .val (.long i1), .second, .val (.long i2), .second, .val (.long i3), .second, .val (.long i4), .second, .val (.int i5), .val (.ref b1), .val (.long v15), .second, .val (.long v20), .second, .val (.int v23), .val (.long v30), .second, .val (.int v35), .val (.ref b40), .val (.int v63), .val (.int v71)] [(.int (1 : Int32))])) _
        refine XS.goto X60.here hx rfl (pc0 := 221) (pc' := 225) rfl (hb hby at_221) (by decide) (by decide) ?_
        exact k)
      obtain ⟨fs, hr, hrun, hended, hW, hsame⟩ := X60.leave (v := some (.int (nar .boolean (1 : Int32)))) (fun h => by rw [Bd.returns] at h; cases h)
      refine ⟨_, _, P00 _ (P75 _ ?_), hrun, hended, _, _, rfl, ?_, ⟨_, rfl⟩, hW, hsame.mono (by decide) (by decide)⟩
      · exact retN X60 hx (t := .boolean) Bd.returns (by simp) (hb hby at_225) hr
      · show Q0 Z i0 i1 i2 i3 i4 i5 h0 n0 _ T60.heap _
        rw [e60]
        refine ⟨?_, N60⟩
        rfl
    · -- not v63 = v71
      have P76 : own_Rch p.tables e below A0 (T60.setTop (mkF m 225 #[.val (.long i0), .second, .val (.long i1), .second, .val (.long i2), .second, .val (.long i3), .second, .val (.long i4), .second, .val (.int i5), .val (.ref b1), .val (.long v15), .second, .val (.long v20), .second, .val (.int v23), .val (.long v30), .second, .val (.int v35), .val (.ref b40), .val (.int v63), .val (.int v71)] [(.int (0 : Int32))])) := fun t k => P74 t (by
        show Steps p.tables e below (T60.setTop (mkF m 217 #[.val (.long i0), .second, .val (.long i1), .second, .val (.long i2), .second, .val (.long i3), .second, .val (.long i4), .second, .val (.int i5), .val (.ref b1), .val (.long v15), .second, .val (.long v20), .second, .val (.int v23), .val (.long v30), .second, .val (.int v35), .val (.ref b40), .val (.int v63), .val (.int v71)] [(.int v71), (.int v63)])) _
        refine XS.icmpYes X60.here hx rfl (pc0 := 217) (pc' := 224) rfl (hb hby at_217) rfl (feq hc73).2 (by decide) (by decide) ?_
        show Steps p.tables e below (T60.setTop (mkF m 224 #[.val (.long i0), .second, .val (.long i1), .second, .val (.long i2), .second, .val (.long i3), .second, .val (.long i4), .second, .val (.int i5), .val (.ref b1), .val (.long v15), .second, .val (.long v20), .second, .val (.int v23), .val (.long v30), .second, .val (.int v35), .val (.ref b40), .val (.int v63), .val (.int v71)] [])) _
        refine XS.iconst X60.here hx rfl (hb hby at_224) ?_
        exact k)
      obtain ⟨fs, hr, hrun, hended, hW, hsame⟩ := X60.leave (v := some (.int (nar .boolean (0 : Int32)))) (fun h => by rw [Bd.returns] at h; cases h)
      refine ⟨_, _, P00 _ (P76 _ ?_), hrun, hended, _, _, rfl, ?_, ⟨_, rfl⟩, hW, hsame.mono (by decide) (by decide)⟩
      · exact retN X60 hx (t := .boolean) Bd.returns (by simp) (hb hby at_225) hr
      · show Q0 Z i0 i1 i2 i3 i4 i5 h0 n0 _ T60.heap _
        rw [e60]
        refine ⟨?_, N60⟩
        exact absurd (by rw [hv63, own_eq, hv71]) hc73
  · -- not v35 = (0 : Int32)
    have P77 : own_Rch p.tables e below A0 (T8.setTop (mkF m 143 #[.val (.long i0), .second, .val (.long i1), .second, .val (.long i2), .second, .val (.long i3), .second, .val (.long i4), .second, .val (.int i5), .val (.ref b1), .val (.long v15), .second, .val (.long v20), .second, .val (.int v23), .val (.long v30), .second, .val (.int v35), .val .null, .unset, .unset] [.null, (.ref b1)])) := fun t k => P38 t (by
      show Steps p.tables e below (T8.setTop (mkF m 117 #[.val (.long i0), .second, .val (.long i1), .second, .val (.long i2), .second, .val (.long i3), .second, .val (.long i4), .second, .val (.int i5), .val (.ref b1), .val (.long v15), .second, .val (.long v20), .second, .val (.int v23), .val (.long v30), .second, .val (.int v35), .unset, .unset, .unset] [(.int v35)])) _
      refine XS.ifNo X8.here hx rfl (hb hby at_117) rfl ((if0 _ _).trans (feq hc37).1) ?_
      show Steps p.tables e below (T8.setTop (mkF m 120 #[.val (.long i0), .second, .val (.long i1), .second, .val (.long i2), .second, .val (.long i3), .second, .val (.long i4), .second, .val (.int i5), .val (.ref b1), .val (.long v15), .second, .val (.long v20), .second, .val (.int v23), .val (.long v30), .second, .val (.int v35), .unset, .unset, .unset] [])) _
      refine XS.aconstNull X8.here hx rfl (hb hby at_120) ?_
      show Steps p.tables e below (T8.setTop (mkF m 121 #[.val (.long i0), .second, .val (.long i1), .second, .val (.long i2), .second, .val (.long i3), .second, .val (.long i4), .second, .val (.int i5), .val (.ref b1), .val (.long v15), .second, .val (.long v20), .second, .val (.int v23), .val (.long v30), .second, .val (.int v35), .unset, .unset, .unset] [.null])) _
      refine XS.goto X8.here hx rfl (pc0 := 121) (pc' := 137) rfl (hb hby at_121) (by decide) (by decide) ?_
      show Steps p.tables e below (T8.setTop (mkF m 137 #[.val (.long i0), .second, .val (.long i1), .second, .val (.long i2), .second, .val (.long i3), .second, .val (.long i4), .second, .val (.int i5), .val (.ref b1), .val (.long v15), .second, .val (.long v20), .second, .val (.int v23), .val (.long v30), .second, .val (.int v35), .unset, .unset, .unset] [.null])) _
      refine XS.astore X8.here hx rfl (hb hby at_137) rfl rfl (l' := #[.val (.long i0), .second, .val (.long i1), .second, .val (.long i2), .second, .val (.long i3), .second, .val (.long i4), .second, .val (.int i5), .val (.ref b1), .val (.long v15), .second, .val (.long v20), .second, .val (.int v23), .val (.long v30), .second, .val (.int v35), .val .null, .unset, .unset]) rfl ?_
      show Steps p.tables e below (T8.setTop (mkF m 139 #[.val (.long i0), .second, .val (.long i1), .second, .val (.long i2), .second, .val (.long i3), .second, .val (.long i4), .second, .val (.int i5), .val (.ref b1), .val (.long v15), .second, .val (.long v20), .second, .val (.int v23), .val (.long v30), .second, .val (.int v35), .val .null, .unset, .unset] [])) _
      refine XS.aload X8.here hx rfl (hb hby at_139) rfl rfl ?_
      show Steps p.tables e below (T8.setTop (mkF m 141 #[.val (.long i0), .second, .val (.long i1), .second, .val (.long i2), .second, .val (.long i3), .second, .val (.long i4), .second, .val (.int i5), .val (.ref b1), .val (.long v15), .second, .val (.long v20), .second, .val (.int v23), .val (.long v30), .second, .val (.int v35), .val .null, .unset, .unset] [(.ref b1)])) _
      refine XS.aload X8.here hx rfl (hb hby at_141) rfl rfl ?_
      exact k)
    obtain ⟨cq78, kq78, q78a, q78b, q78c⟩ := isOf hZ rfl E_10
    obtain ⟨_, _, ⟨T78, L78, k78, n78⟩, -, X78, ⟨Lc78, hQ78, l78, y78, z78⟩, st78⟩ := X8.virtualBack hx (y := (⟨"com/example/commitlog/commitlog/store/ConsumeQueue$Reach", "isAsNoted", "(Lcom/example/commitlog/commitlog/store/ConsumeQueue$Reach;)Z"⟩ : MethodName)) (z := (⟨"com/example/commitlog/commitlog/store/ConsumeQueue$Reach", "isAsNoted", "(Lcom/example/commitlog/commitlog/store/ConsumeQueue$Reach;)Z"⟩ : MethodName)) hown (mvT hZ (hw _ (List.mem_of_getElem? (i := 20) rfl))) (mvT hZ (hw _ (List.mem_of_getElem? (i := 21) rfl))) (notFace_of_selects (args := #[]) (mvT hZ (hw _ (List.mem_of_getElem? (i := 23) rfl)))) (mvT hZ (hw _ (List.mem_of_getElem? (i := 23) rfl))) (mvT hZ (hw _ (List.mem_of_getElem? (i := 22) rfl))) (by decide) (backOf (W := 0) (rm4n l Z a0 hw [] b1 T8.heap n0 Z_9 ) hZ (hw _ (List.mem_of_getElem? (i := 24) rfl)) (hw _ (List.mem_of_getElem? (i := 2) rfl)) (by decide) (by decide)) q78a q78c (g := (mkF m 143 #[.val (.long i0), .second, .val (.long i1), .second, .val (.long i2), .second, .val (.long i3), .second, .val (.long i4), .second, .val (.int i5), .val (.ref b1), .val (.long v15), .second, .val (.long v20), .second, .val (.int v23), .val (.long v30), .second, .val (.int v35), .val .null, .unset, .unset] [.null, (.ref b1)])) rfl (by rw [hml]; rfl) (Steps.refl _) (argsL := [.null]) (rest := []) (lenOf pd_2 rfl) rfl (by show 2 * 0 + _ ≤ _; exact Nat.le_of_eq rfl) (hb hby at_143) (fun _ _ => ⟨rfl, rfl, (by decide : (0 + 1 + 0) + 0 ≤ _), (by decide : (0 + 3 + 0) + 0 ≤ _)⟩)
    dsimp only [Pt.U, Pt.locs, Pt.cells, Pt.slots] at X78 l78 y78 z78 st78 hQ78
    subst l78 y78 z78
    obtain ⟨rfl, N78q, e78⟩ := hQ78
    have N78 := Fr.app N8 N78q
    have P79 : own_Rch p.tables e below A0 (T78.setTop (mkF m 146 #[.val (.long i0), .second, .val (.long i1), .second, .val (.long i2), .second, .val (.long i3), .second, .val (.long i4), .second, .val (.int i5), .val (.ref b1), .val (.long v15), .second, .val (.long v20), .second, .val (.int v23), .val (.long v30), .second, .val (.int v35), .val .null, .unset, .unset] [(.int (0 : Int32))])) := fun t k => P77 t (st78.trans k)
    have P80 : own_Rch p.tables e below A0 (T78.setTop (mkF m 225 #[.val (.long i0), .second, .val (.long i1), .second, .val (.long i2), .second, .val (.long i3), .second, .val (.long i4), .second, .val (.int i5), .val (.ref b1), .val (.long v15), .second, .val (.long v20), .second, .val (.int v23), .val (.long v30), .second, .val (.int v35), .val .null, .val (.int (0 : Int32)), .val (.int (0 : Int32))] [(.int (1 : Int32))])) := fun t k => P79 t (by
      show Steps p.tables e below (T78.setTop (mkF m 146 #[.val (.long i0), .second, .val (.long i1), .second, .val (.long i2), .second, .val (.long i3), .second, .val (.long i4), .second, .val (.int i5), .val (.ref b1), .val (.long v15), .second, .val (.long v20), .second, .val (.int v23), .val (.long v30), .second, .val (.int v35), .val .null, .unset, .unset] [(.int (0 : Int32))])) _
      refine XS.istore X78.here hx rfl (hb hby at_146) rfl (l' := #[.val (.long i0), .second, .val (.long i1), .second, .val (.long i2), .second, .val (.long i3), .second, .val (.long i4), .second, .val (.int i5), .val (.ref b1), .val (.long v15), .second, .val (.long v20), .second, .val (.int v23), .val (.long v30), .second, .val (.int v35), .val .null, .val (.int (0 : Int32)), .unset]) rfl ?_
      show Steps p.tables e below (T78.setTop (mkF m 148 #[.val (.long i0), .second, .val (.long i1), .second, .val (.long i2), .second, .val (.long i3), .second, .val (.long i4), .second, .val (.int i5), .val (.ref b1), .val (.long v15), .second, .val (.long v20), .second, .val (.int v23), .val (.long v30), .second, .val (.int v35), .val .null, .val (.int (0 : Int32)), .unset] [])) _
      refine XS.iload X78.here hx rfl (hb hby at_148) rfl ?_
      show Steps p.tables e below (T78.setTop (mkF m 150 #[.val (.long i0), .second, .val (.long i1), .second, .val (.long i2), .second, .val (.long i3), .second, .val (.long i4), .second, .val (.int i5), .val (.ref b1), .val (.long v15), .second, .val (.long v20), .second, .val (.int v23), .val (.long v30), .second, .val (.int v35), .val .null, .val (.int (0 : Int32)), .unset] [(.int v35)])) _
      refine XS.ifNo X78.here hx rfl (hb hby at_150) rfl ((if0 _ _).trans (feq hc37).1) ?_
      show Steps p.tables e below (T78.setTop (mkF m 153 #[.val (.long i0), .second, .val (.long i1), .second, .val (.long i2), .second, .val (.long i3), .second, .val (.long i4), .second, .val (.int i5), .val (.ref b1), .val (.long v15), .second, .val (.long v20), .second, .val (.int v23), .val (.long v30), .second, .val (.int v35), .val .null, .val (.int (0 : Int32)), .unset] [])) _
      refine XS.iconst X78.here hx rfl (hb hby at_153) ?_
      show Steps p.tables e below (T78.setTop (mkF m 154 #[.val (.long i0), .second, .val (.long i1), .second, .val (.long i2), .second, .val (.long i3), .second, .val (.long i4), .second, .val (.int i5), .val (.ref b1), .val (.long v15), .second, .val (.long v20), .second, .val (.int v23), .val (.long v30), .second, .val (.int v35), .val .null, .val (.int (0 : Int32)), .unset] [(.int (0 : Int32))])) _
      refine XS.istore X78.here hx rfl (hb hby at_154) rfl (l' := #[.val (.long i0), .second, .val (.long i1), .second, .val (.long i2), .second, .val (.long i3), .second, .val (.long i4), .second, .val (.int i5), .val (.ref b1), .val (.long v15), .second, .val (.long v20), .second, .val (.int v23), .val (.long v30), .second, .val (.int v35), .val .null, .val (.int (0 : Int32)), .val (.int (0 : Int32))]) rfl ?_
      show Steps p.tables e below (T78.setTop (mkF m 156 #[.val (.long i0), .second, .val (.long i1), .second, .val (.long i2), .second, .val (.long i3), .second, .val (.long i4), .second, .val (.int i5), .val (.ref b1), .val (.long v15), .second, .val (.long v20), .second, .val (.int v23), .val (.long v30), .second, .val (.int v35), .val .null, .val (.int (0 : Int32)), .val (.int (0 : Int32))] [])) _
      refine XS.goto X78.here hx rfl (pc0 := 156) (pc' := 213) rfl (hb hby at_156) (by decide) (by decide) ?_
      show Steps p.tables e below (T78.setTop (mkF m 213 #[.val (.long i0), .second, .val (.long i1), .second, .val (.long i2), .second, .val (.long i3), .second, .val (.long i4), .second, .val (.int i5), .val (.ref b1), .val (.long v15), .second, .val (.long v20), .second, .val (.int v23), .val (.long v30), .second, .val (.int v35), .val .null, .val (.int (0 : Int32)), .val (.int (0 : Int32))] [])) _
      refine XS.iload X78.here hx rfl (hb hby at_213) rfl ?_
      show Steps p.tables e below (T78.setTop (mkF m 215 #[.val (.long i0), .second, .val (.long i1), .second, .val (.long i2), .second, .val (.long i3), .second, .val (.long i4), .second, .val (.int i5), .val (.ref b1), .val (.long v15), .second, .val (.long v20), .second, .val (.int v23), .val (.long v30), .second, .val (.int v35), .val .null, .val (.int (0 : Int32)), .val (.int (0 : Int32))] [(.int (0 : Int32))])) _
      refine XS.iload X78.here hx rfl (hb hby at_215) rfl ?_
      show Steps p.tables e below (T78.setTop (mkF m 217 #[.val (.long i0), .second, .val (.long i1), .second, .val (.long i2), .second, .val (.long i3), .second, .val (.long i4), .second, .val (.int i5), .val (.ref b1), .val (.long v15), .second, .val (.long v20), .second, .val (.int v23), .val (.long v30), .second, .val (.int v35), .val .null, .val (.int (0 : Int32)), .val (.int (0 : Int32))] [(.int (0 : Int32)), (.int (0 : Int32))])) _
      refine XS.icmpNo X78.here hx rfl (hb hby at_217) rfl (teq (rfl : (0 : Int32) = (0 : Int32))).2 ?_
      show Steps p.tables e below (T78.setTop (mkF m 220 #[.val (.long i0), .second, .val (.long i1), .second, .val (.long i2), .second, .val (.long i3), .second, .val (.long i4), .second, .val (.int i5), .val (.ref b1), .val (.long v15), .second, .val (.long v20), .second, .val (.int v23), .val (.long v30), .second, .val (.int v35), .val .null, .val (.int (0 : Int32)), .val (.int (0 : Int32))] [])) _
      refine XS.iconst X78.here hx rfl (hb hby at_220) ?_
      show Steps p.tables e below (T78.setTop (mkF m 221 #[.val (.long i0), .second, .val (.long i1), .second, .val (.long i2), .second, .val (.long i3), .second, .val (.long i4), .second, .val (.int i5), .val (.ref b1), .val (.long v15), .second, .val (.long v20), .second, .val (.int v23), .val (.long v30), .second, .val (.int v35), .val .null, .val (.int (0 : Int32)), .val (.int (0 : Int32))] [(.int (1 : Int32))])) _
      refine XS.goto X78.here hx rfl (pc0 := 221) (pc' := 225) rfl (hb hby at_221) (by decide) (by decide) ?_
      exact k)
    obtain ⟨fs, hr, hrun, hended, hW, hsame⟩ := X78.leave (v := some (.int (nar .boolean (1 : Int32)))) (fun h => by rw [Bd.returns] at h; cases h)
    refine ⟨_, _, P00 _ (P80 _ ?_), hrun, hended, _, _, rfl, ?_, ⟨_, rfl⟩, hW, hsame.mono (by decide) (by decide)⟩
    · exact retN X78 hx (t := .boolean) Bd.returns (by simp) (hb hby at_225) hr
    · show Q0 Z i0 i1 i2 i3 i4 i5 h0 n0 _ T78.heap _
      rw [e78]
      refine ⟨?_, N78⟩
      rfl
set_option maxRecDepth 65536 in
set_option maxHeartbeats 40000000 in
theorem comes_1 {Post : Tables → Env → Array Value → State → Outcome → State → Prop} (hpost : ∀ tb e args s v u, (limb_1_1.after args s (.returned v) u = true ∧ limb_1_2.after args s (.returned v) u = true ∧ True) → FrameEnd s (.returned v) u (Jvm.fieldLocs frame_1_writes args s ++ Jvm.arrayLocs frame_1_arrays args s ++ Jvm.staticLocs frame_1_statics s) 16 128 → Post tb e args s (.returned v) u) :
    ArmFor flags0 classFile x code maxLocals ret World_1 tables_1 room_1 Calls_1 rest_1 Pre_1 Post := by
  intro l hfl _ _ p e ha hc hk s m args below hf hA hF happ hP
  obtain ⟨hcalls, hrest, hpre⟩ := hP
  obtain ⟨-, -, -, hnamed, -, -, -, hat⟩ := (Spec.applies_iff hf).mp happ
  obtain ⟨hg, hn⟩ := and_e (Cond.before_iff.mp (show (Jvm.Cond.and given_1 narrow_1).before args s = true from hpre))
  obtain ⟨ga0, gb0⟩ := and_e hg
  obtain ⟨ga1, gb1⟩ := and_e gb0
  obtain ⟨ga2, gb2⟩ := and_e gb1
  obtain ⟨ga3, gb3⟩ := and_e gb2
  obtain ⟨ga4, gb4⟩ := and_e gb3
  obtain ⟨ga5, gb5⟩ := and_e gb4
  obtain ⟨w0, w1, w2, w3, w4, w5, rfl⟩ : ∃ w0 w1 w2 w3 w4 w5 : Value, args = #[w0, w1, w2, w3, w4, w5] := by
    have hs : args.size = 6 := by simpa [Cond.value, given_1] using ga0
    obtain ⟨L⟩ := args
    match L, hs with
    | [w0, w1, w2, w3, w4, w5], _ => exact ⟨w0, w1, w2, w3, w4, w5, rfl⟩
  have hw := fun d (hd : d ∈ tables_1) => atoms_spec (ws := Jvm.Cond.code x code maxLocals ret :: tables_1) hat d (List.mem_cons_of_mem _ hd)
  have hfit : Fit s := fun {y c} hc i hi => by
    obtain ⟨ha, rfl⟩ := Array.getElem?_eq_some_iff.mp hc
    have q := List.all_eq_true.mp ((Array.all_eq_true_iff_forall_mem.mp hF) _ (Array.getElem_mem ha)) i (List.mem_range.mpr hi)
    simpa [Array.getElem?_eq_getElem hi] using q
  obtain ⟨i0, ei0⟩ := isL_v ga1
  obtain rfl : w0 = (.long i0) := Option.some.inj ei0
  obtain ⟨i1, ei1⟩ := isL_v ga2
  obtain rfl : w1 = (.long i1) := Option.some.inj ei1
  obtain ⟨i2, ei2⟩ := isL_v ga3
  obtain rfl : w2 = (.long i2) := Option.some.inj ei2
  obtain ⟨i3, ei3⟩ := isL_v ga4
  obtain rfl : w3 = (.long i3) := Option.some.inj ei3
  obtain ⟨i4, ei4⟩ := isL_v ga5
  obtain rfl : w4 = (.long i4) := Option.some.inj ei4
  obtain ⟨i5, ei5⟩ := is_v gb5
  obtain rfl : w5 = (.int i5) := Option.some.inj ei5
  obtain ⟨n, o, h1, h2, h3, _, L, rfl, ⟨rfl, N⟩, hq⟩ := rm0 l s _ hw tables_1 i0 i1 i2 i3 i4 i5  s.heap s.heap.size (Nat.le_refl _)  p e ha hc hk s m _ below hf ((Spec.applies_iff_loose hf).mp happ).1 ⟨rfl, State.Warmed39.refl s, rfl⟩ trivial
  refine ⟨n, _, h1, h2, h3, hpost _ _ _ _ _ _ ⟨Cond.after_iff.mpr rfl, Cond.after_iff.mpr (eq_i res_at (Term.int_eval (1)) rfl), trivial⟩ ⟨hq.1, hq.2.1, (hq.2.2.sift fun y hy => Or.inr (N y hy)).mono (by decide) (by decide)⟩⟩
theorem main_1_1 : Claimed_1_1 := comes_1 fun _ _ _ _ _ _ h hF => ⟨h.1, hF⟩
theorem main_1_2 : Claimed_1_2 := comes_1 fun _ _ _ _ _ _ h hF => ⟨h.2.1, hF⟩
end Jvm.Pilot.@@N@@
namespace Jvm.Pilot.@@N@@
open Jvm Jvm.ClassFile Sem Op Lib Jvm.Free Jvm.Stand Jvm.Pilot.@@N@@.Jvm.D
/-! MADE BY PROGRAM (witnessworld.py) out of the Statement's table words and the real class files: 10 classes; the members and pool entries that the words name. The judged class is class 1, her method 1. -/
namespace start1
open Jvm.ClassFile
def u (s : String) : CpInfo := .utf8 (stringToUtf16 s)
/-- a pool by its gaps: so many unusable entries, then the entry; so many at the end -/
def gap : Nat → List CpInfo → List CpInfo
  | 0, r => r
  | n + 1, r => .unusable :: gap n r
def poolList (es : List (Nat × CpInfo)) (last : Nat) : List CpInfo := es.foldr (fun e r => gap e.1 (e.2 :: r)) (gap last [])
def pool (es : List (Nat × CpInfo)) (last : Nat) : Array CpInfo := ⟨poolList es last⟩
def fileOf (pool : Array CpInfo) (this : Nat) (attrs : Array Attribute := #[]) (ms : Array MethodInfo := #[]) (fl : Nat := 33) (sup : Nat := 0) (ifs : Array Nat := #[]) (fds : Array FieldInfo := #[]) : ClassFile where
  minorVersion := 0
  majorVersion := 65
  constantPool := pool
  accessFlags := fl
  thisClass := this
  superClass := sup
  interfaces := ifs
  fields := fds
  methods := ms
  attributes := attrs
def plain (name : String) (sup : Option ClassId) : Class where
  name := name
  kind := .ordinary
  loader := none
  accessFlags := 33
  super := sup
  interfaces := #[]
  cf := none
  fields := #[]
  methods := #[]
  instanceTypes := #[]
  staticTypes := #[]
  resolved := #[]
  callSites := []
  init := .initialized
  statics := none
  mirror := none

def pool0 : Array CpInfo := pool [(5, u "<init>"), (0, u "()V"), (1, .class_ 10), (1, u "java/lang/Object")] 113

def k0c0 : Code := { maxStack := 0, maxLocals := 1, code := object_method_1_code, exceptionTable := #[], attributes := #[] }
def k0m0 : Method := { name := "<init>", desc := "()V", sig := { parameters := [], returnType := none }, accessFlags := 1, code := some k0c0 }
/-- java/lang/Object -/
def k0 : Class := { plain "java/lang/Object" none with
  accessFlags := 33
  interfaces := #[]
  cf := some (fileOf pool0 8 #[] #[{ accessFlags := 1, nameIndex := 5, descriptorIndex := 6, attributes := #[] }] 33 0 #[] #[])
  fields := #[]
  methods := #[k0m0]
  instanceTypes := #[]
  staticTypes := #[]
  resolved := Array.replicate 124 none
  statics := none }

def pool1 : Array CpInfo := pool [(2, .class_ 4), (1, u "java/lang/Object"), (0, u "<init>"), (0, u "()V"), (0, .class_ 8), (0, u "com/example/commitlog/commitlog/store/ConsumeQueue$Reach"), (0, .methodref 7 10), (0, .nameAndType 5 11), (0, u "(JJJ)V"), (2, .long 9223372036854775808), (1, .long 18446744073709551615), (1, .methodref 7 19), (0, .nameAndType 20 21), (0, u "isAsNoted"), (0, u "(Lcom/example/commitlog/commitlog/store/ConsumeQueue$Reach;)Z"), (0, .class_ 23), (0, u "com/example/commitlog/commitlog/store/ReachIsAsNotedPinLaw"), (2, u "law"), (0, u "(JJJJJI)Z")] 7

def k1m0 : Method := { name := "<init>", desc := "()V", sig := { parameters := [], returnType := none }, accessFlags := 1, code := none }
def k1c1 : Code := { maxStack := 8, maxLocals := 23, code := code, exceptionTable := #[], attributes := #[] }
def k1m1 : Method := { name := "law", desc := "(JJJJJI)Z", sig := { parameters := [.long, .long, .long, .long, .long, .int], returnType := some .boolean }, accessFlags := 9, code := some k1c1 }
/-- com/example/commitlog/commitlog/store/ReachIsAsNotedPinLaw -/
def k1 : Class := { plain "com/example/commitlog/commitlog/store/ReachIsAsNotedPinLaw" (some 0) with
  accessFlags := 49
  interfaces := #[]
  cf := some (fileOf pool1 22 #[] #[{ accessFlags := 1, nameIndex := 5, descriptorIndex := 6, attributes := #[] }, { accessFlags := 9, nameIndex := 26, descriptorIndex := 27, attributes := #[] }] 49 2 #[] #[])
  fields := #[]
  methods := #[k1m0, k1m1]
  instanceTypes := #[]
  staticTypes := #[]
  resolved := Array.replicate 35 none
  statics := none }

def pool2 : Array CpInfo := pool [(1, .methodref 2 3), (0, .class_ 4), (0, .nameAndType 5 6), (0, u "java/lang/Object"), (0, u "<init>"), (0, u "()V"), (0, .class_ 8), (0, u "java/lang/Record")] 13

def k2c0 : Code := { maxStack := 1, maxLocals := 1, code := jdk_30_method_1_code, exceptionTable := #[], attributes := #[] }
def k2m0 : Method := { name := "<init>", desc := "()V", sig := { parameters := [], returnType := none }, accessFlags := 4, code := some k2c0 }
/-- java/lang/Record -/
def k2 : Class := { plain "java/lang/Record" (some 0) with
  accessFlags := 1057
  interfaces := #[]
  cf := some (fileOf pool2 7 #[] #[{ accessFlags := 4, nameIndex := 5, descriptorIndex := 6, attributes := #[] }] 1057 2 #[] #[])
  fields := #[]
  methods := #[k2m0]
  instanceTypes := #[]
  staticTypes := #[]
  resolved := Array.replicate 22 none
  statics := none }

def pool3 : Array CpInfo := pool [(1, .methodref 2 3), (0, .class_ 4), (0, .nameAndType 5 6), (0, u "java/lang/Record"), (0, u "<init>"), (0, u "()V"), (0, .fieldref 8 9), (0, .class_ 10), (0, .nameAndType 11 12), (0, u "com/example/commitlog/commitlog/store/ConsumeQueue$Reach"), (0, u "first"), (0, u "J"), (0, .fieldref 8 14), (0, .nameAndType 15 12), (0, u "next"), (0, .fieldref 8 17), (0, .nameAndType 18 12), (0, u "min"), (12, u "(JJJ)V"), (3, u "isAsNoted"), (0, u "(Lcom/example/commitlog/commitlog/store/ConsumeQueue$Reach;)Z"), (8, .class_ 46), (0, u "com/example/commitlog/commitlog/store/ConsumeQueue")] 21

def k3c0 : Code := { maxStack := 3, maxLocals := 7, code := prog_25_method_1_code, exceptionTable := #[], attributes := #[] }
def k3m0 : Method := { name := "<init>", desc := "(JJJ)V", sig := { parameters := [.long, .long, .long], returnType := none }, accessFlags := 0, code := some k3c0 }
def k3c1 : Code := { maxStack := 4, maxLocals := 2, code := prog_25_method_2_code, exceptionTable := #[], attributes := #[] }
def k3m1 : Method := { name := "isAsNoted", desc := "(Lcom/example/commitlog/commitlog/store/ConsumeQueue$Reach;)Z", sig := { parameters := [(.object "com/example/commitlog/commitlog/store/ConsumeQueue$Reach")], returnType := some .boolean }, accessFlags := 0, code := some k3c1 }
/-- com/example/commitlog/commitlog/store/ConsumeQueue$Reach -/
def k3 : Class := { plain "com/example/commitlog/commitlog/store/ConsumeQueue$Reach" (some 2) with
  accessFlags := 48
  interfaces := #[]
  cf := some (fileOf pool3 8 #[.nestHost 45] #[{ accessFlags := 0, nameIndex := 5, descriptorIndex := 31, attributes := #[] }, { accessFlags := 0, nameIndex := 35, descriptorIndex := 36, attributes := #[] }] 48 2 #[] #[{ accessFlags := 18, nameIndex := 11, descriptorIndex := 12, attributes := #[] }, { accessFlags := 18, nameIndex := 15, descriptorIndex := 12, attributes := #[] }, { accessFlags := 18, nameIndex := 18, descriptorIndex := 12, attributes := #[] }])
  fields := #[{ name := "first", type := .long, accessFlags := 18, slot := 0, constantValue := 0 }, { name := "next", type := .long, accessFlags := 18, slot := 1, constantValue := 0 }, { name := "min", type := .long, accessFlags := 18, slot := 2, constantValue := 0 }]
  methods := #[k3m0, k3m1]
  instanceTypes := #[.long, .long, .long]
  staticTypes := #[]
  resolved := Array.replicate 68 none
  statics := none }

def pool4 : Array CpInfo := pool [(1, u "java/lang/Cloneable"), (0, .class_ 1), (0, u "java/lang/Object"), (0, .class_ 3)] 3

/-- java/lang/Cloneable -/
def k4 : Class := { plain "java/lang/Cloneable" (some 0) with
  accessFlags := 1537
  interfaces := #[]
  cf := some (fileOf pool4 2 #[] #[] 1537 4 #[] #[])
  fields := #[]
  methods := #[]
  instanceTypes := #[]
  staticTypes := #[]
  resolved := Array.replicate 8 none
  statics := none }

def pool5 : Array CpInfo := pool [(1, u "java/io/Serializable"), (0, .class_ 1), (0, u "java/lang/Object"), (0, .class_ 3)] 3

/-- java/io/Serializable -/
def k5 : Class := { plain "java/io/Serializable" (some 0) with
  accessFlags := 1537
  interfaces := #[]
  cf := some (fileOf pool5 2 #[] #[] 1537 4 #[] #[])
  fields := #[]
  methods := #[]
  instanceTypes := #[]
  staticTypes := #[]
  resolved := Array.replicate 8 none
  statics := none }

/-- the primitive byte -/
def k6 : Class := { plain "byte" none with kind := .primitive 'B', accessFlags := 0x411 }
/-- [B -/
def k7 : Class := { plain "[B" (some 0) with kind := .array 6 .byte, interfaces := #[4, 5], accessFlags := 1041 }

/-- the primitive int -/
def k8 : Class := { plain "int" none with kind := .primitive 'I', accessFlags := 0x411 }
/-- [I -/
def k9 : Class := { plain "[I" (some 0) with kind := .array 8 .int, interfaces := #[4, 5], accessFlags := 1041 }

def heap : Heap := #[]
def classes : Array Class := #[k0, k1, k2, k3, k4, k5, k6, k7, k8, k9]
def interned : List (Array UInt16 × Addr) := []
def slotsUsed : Nat := 0
def theMethod : MethodId := ⟨1, 1⟩
def args0 : Array Value := #[.long 5, .long 6, .long 7, .long 8, .long 9, .int 5]
def aboutOver (below : List Frame) : State where
  vm := { classes := classes, interned := interned.toArray }
  heap := heap
  slotsUsed := slotsUsed
  threads := #[{ frames := .invoking theMethod args0 :: below }]
def below0 : List Frame := [.native { method := ⟨0, 0⟩, args := #[] }]
def about1 : State := aboutOver below0
def p0 : Program := .bare "" "" ""
def e0 : Env := launch0.env 0 0 0
theorem w_frames : about1.frames = Frame.invoking theMethod args0 :: below0 := rfl
set_option maxRecDepth 65536 in
theorem w_args : argsFit about1.vm theMethod args0 = true := by decide +kernel
set_option maxRecDepth 65536 in
theorem w_heap : heapFits about1 = true := by decide +kernel
set_option maxRecDepth 65536 in
theorem w_runnable : about1.curStatus? = some .runnable := by decide +kernel
set_option maxRecDepth 65536 in
theorem w_alone : about1.alone = true := by decide +kernel
set_option maxRecDepth 65536 in
theorem w_named : about1.methodNamed? x = some theMethod := by decide +kernel
set_option maxRecDepth 65536 in
theorem w_hears : about1.hears theMethod below0 = true := by decide +kernel
set_option maxRecDepth 65536 in
theorem w_ripe : about1.ripe theMethod args0 below0 = true := by decide +kernel
theorem w_running : about1.status = .running := rfl
set_option maxRecDepth 65536 in
theorem w_room : about1.hasRoom e0.platform room_1 = true :=
  launch0.hasRoom_least _ room_1 (by decide +kernel) (by decide +kernel) (by decide +kernel) (by decide +kernel) (by decide +kernel) (by decide +kernel)
theorem allAtoms_all (ts : List Jvm.Cond) (a : Array Jvm.Value) (st : Jvm.State) : (allAtoms ts).before a st = ts.all (fun c => c.before a st) := by
  induction ts with
  | nil => rfl
  | cons c t ih =>
    show (Jvm.Cond.and c (allAtoms t)).before a st = _
    rw [Jvm.Cond.before_and, ih, List.all_cons]
def words1 : List Jvm.Cond := Jvm.Cond.code x code maxLocals ret :: tables_1
/-- a 'code' word, met by the world's own term for the bytes: nothing is compared byte by byte -/
theorem code_word {y : MethodName} {bytes : ByteArray} {mx : Nat} {rt : Option FieldType} {a : Array Value} {s : State} {m : MethodId} {meth : Method} {c : Code} (h1 : s.methodNamed? y = some m) (h2 : s.vm.method? m = some meth) (h3 : meth.code = some c) (h4 : c.code = bytes)
    (h5 : (c.maxLocals == mx && c.exceptionTable.isEmpty && decide (c.maxStack ≤ mostOperands) && decide (meth.sig.returnType = rt) && !meth.locks && decide (parseMethodDescriptor y.desc = some meth.sig)) = true) : (Jvm.Cond.code y bytes mx rt).before a s = true := by
  simp only [Bool.and_eq_true, beq_iff_eq, Bool.not_eq_true', decide_eq_true_eq] at h5
  obtain ⟨⟨⟨⟨⟨g1, g2⟩, g3⟩, g4⟩, g5⟩, g6⟩ := h5
  simp [Cond.before, Cond.holds, Cond.value, h1, h2, h3, h4, g1, g2, g3, g4, g5, g6]
def isCode : Jvm.Cond → Bool
  | .code _ _ _ _ => true
  | _ => false
theorem all_split {L : List Jvm.Cond} {P : Jvm.Cond → Bool} (h1 : L.all (fun c => isCode c || P c) = true) (h2 : ∀ c ∈ L.filter isCode, P c = true) : L.all P = true := by
  refine List.all_eq_true.mpr fun c hc => ?_
  have h := List.all_eq_true.mp h1 c hc
  rcases Bool.eq_false_or_eq_true (isCode c) with hi | hi
  · exact h2 c (List.mem_filter.mpr ⟨hc, hi⟩)
  · simpa [hi] using h
set_option maxRecDepth 65536 in
theorem w_c0 : (Jvm.Cond.code x code maxLocals ret).before args0 about1 = true := code_word (m := ⟨1, 1⟩) (meth := k1m1) (c := k1c1) (by decide +kernel) rfl rfl rfl (by decide +kernel)
set_option maxRecDepth 65536 in
theorem w_c1 : (Jvm.Cond.code ({ cls := "com/example/commitlog/commitlog/store/ConsumeQueue$Reach", name := "<init>", desc := "(JJJ)V" } : Jvm.MethodName) prog_25_method_1_code (7 : Nat) (Option.none : Option Jvm.ClassFile.FieldType)).before args0 about1 = true := code_word (m := ⟨3, 0⟩) (meth := k3m0) (c := k3c0) (by decide +kernel) rfl rfl rfl (by decide +kernel)
set_option maxRecDepth 65536 in
theorem w_c2 : (Jvm.Cond.code ({ cls := "java/lang/Record", name := "<init>", desc := "()V" } : Jvm.MethodName) jdk_30_method_1_code (1 : Nat) (Option.none : Option Jvm.ClassFile.FieldType)).before args0 about1 = true := code_word (m := ⟨2, 0⟩) (meth := k2m0) (c := k2c0) (by decide +kernel) rfl rfl rfl (by decide +kernel)
set_option maxRecDepth 65536 in
theorem w_c3 : (Jvm.Cond.code ({ cls := "java/lang/Object", name := "<init>", desc := "()V" } : Jvm.MethodName) object_method_1_code (1 : Nat) (Option.none : Option Jvm.ClassFile.FieldType)).before args0 about1 = true := code_word (m := ⟨0, 0⟩) (meth := k0m0) (c := k0c0) (by decide +kernel) rfl rfl rfl (by decide +kernel)
set_option maxRecDepth 65536 in
theorem w_c4 : (Jvm.Cond.code ({ cls := "com/example/commitlog/commitlog/store/ConsumeQueue$Reach", name := "isAsNoted", desc := "(Lcom/example/commitlog/commitlog/store/ConsumeQueue$Reach;)Z" } : Jvm.MethodName) prog_25_method_2_code (2 : Nat) (Option.some Jvm.ClassFile.FieldType.boolean)).before args0 about1 = true := code_word (m := ⟨3, 1⟩) (meth := k3m1) (c := k3c1) (by decide +kernel) rfl rfl rfl (by decide +kernel)
def codes1 : List Jvm.Cond := [Jvm.Cond.code x code maxLocals ret, Jvm.Cond.code ({ cls := "com/example/commitlog/commitlog/store/ConsumeQueue$Reach", name := "<init>", desc := "(JJJ)V" } : Jvm.MethodName) prog_25_method_1_code (7 : Nat) (Option.none : Option Jvm.ClassFile.FieldType), Jvm.Cond.code ({ cls := "java/lang/Record", name := "<init>", desc := "()V" } : Jvm.MethodName) jdk_30_method_1_code (1 : Nat) (Option.none : Option Jvm.ClassFile.FieldType), Jvm.Cond.code ({ cls := "java/lang/Object", name := "<init>", desc := "()V" } : Jvm.MethodName) object_method_1_code (1 : Nat) (Option.none : Option Jvm.ClassFile.FieldType), Jvm.Cond.code ({ cls := "com/example/commitlog/commitlog/store/ConsumeQueue$Reach", name := "isAsNoted", desc := "(Lcom/example/commitlog/commitlog/store/ConsumeQueue$Reach;)Z" } : Jvm.MethodName) prog_25_method_2_code (2 : Nat) (Option.some Jvm.ClassFile.FieldType.boolean)]
set_option maxRecDepth 65536 in
theorem codes_eq : words1.filter isCode = codes1 := rfl
theorem w_codes : ∀ c ∈ words1.filter isCode, c.before args0 about1 = true := by
  rw [codes_eq]
  intro c hc
  simp only [codes1, List.mem_cons, List.not_mem_nil, or_false] at hc
  rcases hc with rfl | rfl | rfl | rfl | rfl
  · exact w_c0
  · exact w_c1
  · exact w_c2
  · exact w_c3
  · exact w_c4
set_option maxRecDepth 65536 in
theorem w_t1 : (words1.take 24).all (fun c => isCode c || c.before args0 about1) = true := by decide +kernel
set_option maxRecDepth 65536 in
theorem w_t2 : (words1.drop 24).all (fun c => isCode c || c.before args0 about1) = true := by decide +kernel
theorem w_tables : (allAtoms (Jvm.Cond.code x code maxLocals ret :: tables_1)).before args0 about1 = true := by
  rw [allAtoms_all]
  show words1.all (fun c => c.before args0 about1) = true
  refine all_split ?_ w_codes
  rw [← List.take_append_drop 24 words1, List.all_append, w_t1, w_t2]
  rfl
set_option maxRecDepth 65536 in
theorem w_case : (Jvm.Cond.and given_1 narrow_1).before args0 about1 = true := by decide +kernel
theorem w_applies : (headSpec (Jvm.Cond.code x code maxLocals ret :: tables_1) room_1).applies x e0.platform about1 = true :=
  (Spec.applies_iff w_frames).mpr ⟨w_running, w_runnable, w_alone, w_named, w_hears, w_ripe, w_room, w_tables⟩
theorem atStart : AtStart classFile x code maxLocals ret World_1 tables_1 room_1 Calls_1 rest_1 Pre_1 launch0 p0 e0 about1 theMethod args0 below0 :=
  ⟨lists_1, trivial, launch0.admits_env _ _ _, launch0.least_env, fairChoices_fair.cas, fairChoices_fair.clock, w_frames, w_args, w_heap, w_applies, trivial, trivial, w_case⟩
end start1
theorem witness_1 : WitnessClaimed_1 := ⟨start1.p0, start1.e0, start1.about1, start1.theMethod, start1.args0, start1.below0, start1.atStart⟩
end Jvm.Pilot.@@N@@
