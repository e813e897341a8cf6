import JvmDerived
import JvmDerived.Pilot.@@N@@Statement
import JvmDerived.Pilot.@@N@@Code
set_option linter.unusedVariables false
set_option linter.unusedSimpArgs false
namespace Jvm.Pilot.@@N@@
open Jvm Jvm.ClassFile Sem Op Lib Jvm.Free Jvm.Stand Jvm.LawKit Jvm.RoadKit Bundle Jvm.Pilot.@@N@@.Jvm.D
/-- what runs on to t from B runs on to t from A -/
def own_Rch (tb : Tables) (e : Env) (below : List Frame) (A B : State) : Prop := ∀ t, Steps tb e below B t → Steps tb e below A t
theorem own_lct1 {a b : Int64} (h : a < b) : ifCond.holds .lt (lcmpW a b) = true ∧ ifCond.holds .ge (lcmpW a b) = false := by
  have h1 : ¬ b < a := fun q => by rw [Int64.lt_iff_toInt_lt] at h q; omega
  have h2 : ¬ a = b := fun q => by subst q; exact h1 h
  simp only [lcmpW, gt_iff_lt, h1, h2, if_false]; exact ⟨rfl, rfl⟩
theorem own_lcf1 {a b : Int64} (h : ¬ a < b) : ifCond.holds .lt (lcmpW a b) = false ∧ ifCond.holds .ge (lcmpW a b) = true := by
  by_cases h1 : b < a
  · simp only [lcmpW, gt_iff_lt, h1, if_true]; exact ⟨rfl, rfl⟩
  · have h2 : a = b := by rw [Int64.lt_iff_toInt_lt] at h h1; exact Int64.toInt_inj.mp (by omega)
    simp only [lcmpW, gt_iff_lt, h1, h2, if_false, if_true]; subst h2; simp only [Int64.lt_irrefl, if_false]; exact ⟨rfl, rfl⟩
theorem own_lct2 {a b : Int64} (h : b < a) : ifCond.holds .gt (lcmpW a b) = true ∧ ifCond.holds .le (lcmpW a b) = false := by
  simp only [lcmpW, gt_iff_lt, h, if_true]; exact ⟨rfl, rfl⟩
theorem own_lcf2 {a b : Int64} (h : ¬ b < a) : ifCond.holds .gt (lcmpW a b) = false ∧ ifCond.holds .le (lcmpW a b) = true := by
  by_cases h2 : a = b
  · simp only [lcmpW, gt_iff_lt, h, if_pos h2, if_false]; exact ⟨rfl, rfl⟩
  · simp only [lcmpW, gt_iff_lt, h, if_neg h2, if_false]; exact ⟨rfl, rfl⟩
theorem own_lct3 {a b : Int64} (h : a = b) : ifCond.holds .eq (lcmpW a b) = true ∧ ifCond.holds .ne (lcmpW a b) = false := by
  have h1 : ¬ b < a := fun q => by subst h; exact absurd q (Int64.lt_irrefl)
  simp only [lcmpW, gt_iff_lt, h1, if_pos h, if_false]; exact ⟨rfl, rfl⟩
theorem own_lcf3 {a b : Int64} (h : ¬ a = b) : ifCond.holds .eq (lcmpW a b) = false ∧ ifCond.holds .ne (lcmpW a b) = true := by
  by_cases h1 : b < a
  · simp only [lcmpW, gt_iff_lt, h1, if_true]; exact ⟨rfl, rfl⟩
  · simp only [lcmpW, gt_iff_lt, h1, if_neg h, if_false]; exact ⟨rfl, rfl⟩
theorem own_remI (x y : Int32) : x - x / y * y = x % y := by
  apply Int32.toInt_inj.mp
  have l := Int32.toInt_lt (x % y)
  have g := Int32.le_toInt (x % y)
  rw [Int32.toInt_sub, Int32.toInt_mul, Int32.toInt_div]
  simp only [Int.sub_bmod_bmod, Int.bmod_mul_bmod]
  rw [Int.mul_comm, ← Int.tmod_def, ← Int32.toInt_mod, Int.bmod_eq_of_le] <;> omega
theorem own_remL (x y : Int64) : x - x / y * y = x % y := by
  apply Int64.toInt_inj.mp
  have l := Int64.toInt_lt (x % y)
  have g := Int64.le_toInt (x % y)
  rw [Int64.toInt_sub, Int64.toInt_mul, Int64.toInt_div]
  simp only [Int.sub_bmod_bmod, Int.bmod_mul_bmod]
  rw [Int.mul_comm, ← Int.tmod_def, ← Int64.toInt_mod, Int.bmod_eq_of_le] <;> omega
theorem d1_0 : decode prog_31_method_1_code 0 = .ok (.aload_n 0, 1) := by decide +kernel
theorem d1_1 : decode prog_31_method_1_code 1 = .ok (.invokespecial 3, 3) := by decide +kernel
theorem d1_4 : decode prog_31_method_1_code 4 = .ok (.aload_n 0, 1) := by decide +kernel
theorem d1_5 : decode prog_31_method_1_code 5 = .ok (.iconst 0, 1) := by decide +kernel
theorem d1_6 : decode prog_31_method_1_code 6 = .ok (.putfield 9, 3) := by decide +kernel
theorem d1_9 : decode prog_31_method_1_code 9 = .ok (.aload_n 0, 1) := by decide +kernel
theorem d1_10 : decode prog_31_method_1_code 10 = .ok (.aload_n 1, 1) := by decide +kernel
theorem d1_11 : decode prog_31_method_1_code 11 = .ok (.putfield 13, 3) := by decide +kernel
theorem d1_14 : decode prog_31_method_1_code 14 = .ok (.aload_n 0, 1) := by decide +kernel
theorem d1_15 : decode prog_31_method_1_code 15 = .ok (.aload_n 2, 1) := by decide +kernel
theorem d1_16 : decode prog_31_method_1_code 16 = .ok (.putfield 17, 3) := by decide +kernel
theorem d1_19 : decode prog_31_method_1_code 19 = .ok (.return_, 1) := by decide +kernel
theorem pn_0 : plainName "com/example/tinyward/tinyward/Node" = true := by first | (simp [plainName, overriddenIn]; done) | decide +kernel
theorem ef_1 (m : MethodId) (a : Addr) : entryFrame m #[(.ref a), .null, .null] 3 = mkF m 0 #[.val (.ref a), .val .null, .val .null] [] := by first | (simp [entryFrame, mkF, argsToLocals, Value.category]; done) | rfl
def Q1 (Z : State) (a : Addr) (h0 : Heap) (n0 : Nat) (v : Option Value) (h : Heap) (L : List Loc) : Prop := v = none ∧ Fr n0 L ∧ Keep h0 h [a] ∧ Exa Z h a "com/example/tinyward/tinyward/Node" ∧ Fld Z h a "com/example/tinyward/tinyward/Node" "frequency" "I" (.int (0 : Int32))
set_option maxRecDepth 65536 in
set_option maxHeartbeats 40000000 in
theorem rm1 (l : Launch) (Z : State) (a0 : Array Value) (hw : ∀ d ∈ tables_1, d.before a0 Z = true) (ws : List Jvm.Cond) (a : Addr) (h0 : Heap) (n0 : Nat) (Z0 : n0 ≤ h0.size) (E_a : Exa Z h0 a "com/example/tinyward/tinyward/Node") (F_a_state : Fld Z h0 a "com/example/tinyward/tinyward/Node" "state" "I" (.int (0 : Int32))) (F_a_key : Fld Z h0 a "com/example/tinyward/tinyward/Node" "key" "Ljava/lang/Object;" .null) (F_a_value : Fld Z h0 a "com/example/tinyward/tinyward/Node" "value" "Ljava/lang/Object;" .null) (F_a_frequency : Fld Z h0 a "com/example/tinyward/tinyward/Node" "frequency" "I" (.int (0 : Int32))) (g_a : n0 ≤ a) :
    MetFree l (⟨"com/example/tinyward/tinyward/Node", "<init>", "(Ljava/lang/Object;Ljava/lang/Object;)V"⟩ : MethodName) (head1 (Jvm.Cond.code (⟨"com/example/tinyward/tinyward/Node", "<init>", "(Ljava/lang/Object;Ljava/lang/Object;)V"⟩ : MethodName) prog_31_method_1_code 3 none :: ws) ({ frames := 1, cells := 0, slots := 0, locals := 12 } : Room)) (fun a' U => a' = #[(.ref a), .null, .null] ∧ Z.Warmed39 U.vm ∧ U.heap = h0) (fun _ _ _ _ _ => True) (fun _ U o U' => ∃ v L, o = .returned v ∧ Q1 Z a h0 n0 v U'.heap L ∧ FrameEnd U o U' L ({ frames := 1, cells := 0, slots := 0, locals := 12 } : Room).cells ({ frames := 1, cells := 0, slots := 0, locals := 12 } : Room).slots) := by
  refine MetFree.of_bodySF (plainFor_of_name pn_0) hisR ?_
  intro p e s m args' below meth c s₁ Bd hml0 hP hK
  obtain ⟨hargs, hZ, hh⟩ := hP
  have hx := Bd.exec
  have hby := Bd.bytes
  have hml : c.maxLocals = 3 := hml0
  have hown : s.vm.findClass "com/example/tinyward/tinyward/Node" = some m.cls := findClass_of_methodNamed Bd.named
  have hnm := (name_of_methodNamed Bd.named Bd.method).1
  have X0 : Stand p l e ({ frames := 1, cells := 0, slots := 0, locals := 12 } : Room) s m args' below meth c s₁ [] 0 0 := Stand.of_body Bd
  have e0 : s₁.heap = h0 := by rw [← hh, Bd.state]; rfl
  have N0 := Fr.nil n0
  obtain ⟨A0, hA0⟩ : ∃ A, A = s₁.setTop (mkF m 0 #[.val (.ref a), .val .null, .val .null] []) := ⟨_, rfl⟩
  have P0 : own_Rch p.tables e below A0 (s₁.setTop (mkF m 0 #[.val (.ref a), .val .null, .val .null] [])) := fun t k => hA0 ▸ k
  have P00 : own_Rch p.tables e below (s₁.setTop (entryFrame m args' 3)) A0 := fun t k => by rw [hargs]; exact castTop (ef_1 m a) (hA0 ▸ k)
  have K0 : Keep h0 h0 [a] := Keep.refl _ _
  have P1 : own_Rch p.tables e below A0 (s₁.setTop (mkF m 1 #[.val (.ref a), .val .null, .val .null] [(.ref a)])) := fun t k => P0 t (by
    show Steps p.tables e below (s₁.setTop (mkF m 0 #[.val (.ref a), .val .null, .val .null] [])) _
    refine XS.aloadN X0.here hx rfl (hb hby d1_0) rfl rfl ?_
    exact k)
  obtain ⟨T2, X2, e2, st2⟩ := initO X0 hx hZ hown (hw _ (List.mem_of_getElem? (i := 6) rfl)) (hw _ (List.mem_of_getElem? (i := 7) rfl)) (hw _ (List.mem_of_getElem? (i := 8) rfl)) e0 (g := (mkF m 1 #[.val (.ref a), .val .null, .val .null] [(.ref a)])) rfl (by rw [hml]; rfl) rfl (hb hby d1_1) (by decide) (W := 0) (by show 2 * 0 + _ ≤ _; exact Nat.le_of_eq rfl) (by decide)
  have P3 : own_Rch p.tables e below A0 (T2.setTop (mkF m 4 #[.val (.ref a), .val .null, .val .null] [])) := fun t k => P1 t (st2 t k)
  have P4 : own_Rch p.tables e below A0 (T2.setTop (mkF m 6 #[.val (.ref a), .val .null, .val .null] [(.int (0 : Int32)), (.ref a)])) := fun t k => P3 t (by
    show Steps p.tables e below (T2.setTop (mkF m 4 #[.val (.ref a), .val .null, .val .null] [])) _
    refine XS.aloadN X2.here hx rfl (hb hby d1_4) rfl rfl ?_
    show Steps p.tables e below (T2.setTop (mkF m 5 #[.val (.ref a), .val .null, .val .null] [(.ref a)])) _
    refine XS.iconst X2.here hx rfl (hb hby d1_5) ?_
    exact k)
  obtain ⟨T5, h5, X5, e5, W5, st5⟩ := putF X2 hx hZ hown (host := "") (Or.inl (hw _ (List.mem_of_getElem? (i := 9) rfl))) Via.refl e2 F_a_state E_a (Or.inl (hw _ (List.mem_of_getElem? (i := 10) rfl))) (hw _ (List.mem_of_getElem? (i := 1) rfl)) (ty := .int) (by decide) rfl rfl (g := (mkF m 6 #[.val (.ref a), .val .null, .val .null] [(.int (0 : Int32)), (.ref a)])) rfl rfl (hb hby d1_6)
  have N5 := Fr.snoc X5 N0 g_a
  have Z_6 : n0 ≤ h5.size := Nat.le_trans Z0 (Keep.of_wr W5).1
  have E_7 : Exa Z h5 a "com/example/tinyward/tinyward/Node" := E_a.wr W5
  have F_8 : Fld Z h5 a "com/example/tinyward/tinyward/Node" "state" "I" (.int (0 : Int32)) := F_a_state.same W5
  have F_9 : Fld Z h5 a "com/example/tinyward/tinyward/Node" "key" "Ljava/lang/Object;" .null := F_a_key.other W5 (Or.inr (slot_ne (Or.inr (hw _ (List.mem_of_getElem? (i := 12) rfl))) (Or.inl (hw _ (List.mem_of_getElem? (i := 10) rfl))) (by decide) (t := (.object "java/lang/Object")) (t' := .int) (by decide) (by decide)))
  have F_10 : Fld Z h5 a "com/example/tinyward/tinyward/Node" "value" "Ljava/lang/Object;" .null := F_a_value.other W5 (Or.inr (slot_ne (Or.inl (hw _ (List.mem_of_getElem? (i := 14) rfl))) (Or.inl (hw _ (List.mem_of_getElem? (i := 10) rfl))) (by decide) (t := (.object "java/lang/Object")) (t' := .int) (by decide) (by decide)))
  have F_11 : Fld Z h5 a "com/example/tinyward/tinyward/Node" "frequency" "I" (.int (0 : Int32)) := F_a_frequency.other W5 (Or.inr (slot_ne (Or.inl (hw _ (List.mem_of_getElem? (i := 21) rfl))) (Or.inl (hw _ (List.mem_of_getElem? (i := 10) rfl))) (by decide) (t := .int) (t' := .int) (by decide) (by decide)))
  have K_12 : Keep h0 h5 [a] := K0.wr W5 (Or.inl (List.mem_of_getElem? (i := 0) rfl))
  have P13 : own_Rch p.tables e below A0 (T5.setTop (mkF m 9 #[.val (.ref a), .val .null, .val .null] [])) := fun t k => P4 t (st5 t k)
  have P14 : own_Rch p.tables e below A0 (T5.setTop (mkF m 11 #[.val (.ref a), .val .null, .val .null] [.null, (.ref a)])) := fun t k => P13 t (by
    show Steps p.tables e below (T5.setTop (mkF m 9 #[.val (.ref a), .val .null, .val .null] [])) _
    refine XS.aloadN X5.here hx rfl (hb hby d1_9) rfl rfl ?_
    show Steps p.tables e below (T5.setTop (mkF m 10 #[.val (.ref a), .val .null, .val .null] [(.ref a)])) _
    refine XS.aloadN X5.here hx rfl (hb hby d1_10) rfl rfl ?_
    exact k)
  obtain ⟨T15, h15, X15, e15, W15, st15⟩ := putF X5 hx hZ hown (host := "") (Or.inl (hw _ (List.mem_of_getElem? (i := 11) rfl))) Via.refl e5 F_9 E_7 (Or.inr ⟨(hw _ (List.mem_of_getElem? (i := 12) rfl)), rfl, hnm⟩) (hw _ (List.mem_of_getElem? (i := 1) rfl)) (ty := (.object "java/lang/Object")) (by decide) rfl rfl (g := (mkF m 11 #[.val (.ref a), .val .null, .val .null] [.null, (.ref a)])) rfl rfl (hb hby d1_11)
  have N15 := Fr.snoc X15 N5 g_a
  have Z_16 : n0 ≤ h15.size := Nat.le_trans Z_6 (Keep.of_wr W15).1
  have E_17 : Exa Z h15 a "com/example/tinyward/tinyward/Node" := E_7.wr W15
  have F_18 : Fld Z h15 a "com/example/tinyward/tinyward/Node" "state" "I" (.int (0 : Int32)) := F_8.other W15 (Or.inr (slot_ne (Or.inl (hw _ (List.mem_of_getElem? (i := 10) rfl))) (Or.inr (hw _ (List.mem_of_getElem? (i := 12) rfl))) (by decide) (t := .int) (t' := (.object "java/lang/Object")) (by decide) (by decide)))
  have F_19 : Fld Z h15 a "com/example/tinyward/tinyward/Node" "key" "Ljava/lang/Object;" .null := F_9.same W15
  have F_20 : Fld Z h15 a "com/example/tinyward/tinyward/Node" "value" "Ljava/lang/Object;" .null := F_10.other W15 (Or.inr (slot_ne (Or.inl (hw _ (List.mem_of_getElem? (i := 14) rfl))) (Or.inr (hw _ (List.mem_of_getElem? (i := 12) rfl))) (by decide) (t := (.object "java/lang/Object")) (t' := (.object "java/lang/Object")) (by decide) (by decide)))
  have F_21 : Fld Z h15 a "com/example/tinyward/tinyward/Node" "frequency" "I" (.int (0 : Int32)) := F_11.other W15 (Or.inr (slot_ne (Or.inl (hw _ (List.mem_of_getElem? (i := 21) rfl))) (Or.inr (hw _ (List.mem_of_getElem? (i := 12) rfl))) (by decide) (t := .int) (t' := (.object "java/lang/Object")) (by decide) (by decide)))
  have K_22 : Keep h0 h15 [a] := K_12.wr W15 (Or.inl (List.mem_of_getElem? (i := 0) rfl))
  have P23 : own_Rch p.tables e below A0 (T15.setTop (mkF m 14 #[.val (.ref a), .val .null, .val .null] [])) := fun t k => P14 t (st15 t k)
  have P24 : own_Rch p.tables e below A0 (T15.setTop (mkF m 16 #[.val (.ref a), .val .null, .val .null] [.null, (.ref a)])) := fun t k => P23 t (by
    show Steps p.tables e below (T15.setTop (mkF m 14 #[.val (.ref a), .val .null, .val .null] [])) _
    refine XS.aloadN X15.here hx rfl (hb hby d1_14) rfl rfl ?_
    show Steps p.tables e below (T15.setTop (mkF m 15 #[.val (.ref a), .val .null, .val .null] [(.ref a)])) _
    refine XS.aloadN X15.here hx rfl (hb hby d1_15) rfl rfl ?_
    exact k)
  obtain ⟨T25, h25, X25, e25, W25, st25⟩ := putF X15 hx hZ hown (host := "") (Or.inl (hw _ (List.mem_of_getElem? (i := 13) rfl))) Via.refl e15 F_20 E_17 (Or.inl (hw _ (List.mem_of_getElem? (i := 14) rfl))) (hw _ (List.mem_of_getElem? (i := 1) rfl)) (ty := (.object "java/lang/Object")) (by decide) rfl rfl (g := (mkF m 16 #[.val (.ref a), .val .null, .val .null] [.null, (.ref a)])) rfl rfl (hb hby d1_16)
  have N25 := Fr.snoc X25 N15 g_a
  have Z_26 : n0 ≤ h25.size := Nat.le_trans Z_16 (Keep.of_wr W25).1
  have E_27 : Exa Z h25 a "com/example/tinyward/tinyward/Node" := E_17.wr W25
  have F_28 : Fld Z h25 a "com/example/tinyward/tinyward/Node" "state" "I" (.int (0 : Int32)) := F_18.other W25 (Or.inr (slot_ne (Or.inl (hw _ (List.mem_of_getElem? (i := 10) rfl))) (Or.inl (hw _ (List.mem_of_getElem? (i := 14) rfl))) (by decide) (t := .int) (t' := (.object "java/lang/Object")) (by decide) (by decide)))
  have F_29 : Fld Z h25 a "com/example/tinyward/tinyward/Node" "key" "Ljava/lang/Object;" .null := F_19.other W25 (Or.inr (slot_ne (Or.inr (hw _ (List.mem_of_getElem? (i := 12) rfl))) (Or.inl (hw _ (List.mem_of_getElem? (i := 14) rfl))) (by decide) (t := (.object "java/lang/Object")) (t' := (.object "java/lang/Object")) (by decide) (by decide)))
  have F_30 : Fld Z h25 a "com/example/tinyward/tinyward/Node" "value" "Ljava/lang/Object;" .null := F_20.same W25
  have F_31 : Fld Z h25 a "com/example/tinyward/tinyward/Node" "frequency" "I" (.int (0 : Int32)) := F_21.other W25 (Or.inr (slot_ne (Or.inl (hw _ (List.mem_of_getElem? (i := 21) rfl))) (Or.inl (hw _ (List.mem_of_getElem? (i := 14) rfl))) (by decide) (t := .int) (t' := (.object "java/lang/Object")) (by decide) (by decide)))
  have K_32 : Keep h0 h25 [a] := K_22.wr W25 (Or.inl (List.mem_of_getElem? (i := 0) rfl))
  have P33 : own_Rch p.tables e below A0 (T25.setTop (mkF m 19 #[.val (.ref a), .val .null, .val .null] [])) := fun t k => P24 t (st25 t k)
  obtain ⟨fs, hr, hrun, hended, hW, hsame⟩ := X25.leave (v := none) (fun _ => rfl)
  refine ⟨_, _, P00 _ (P33 _ ?_), hrun, hended, _, _, rfl, ?_, ⟨_, rfl⟩, hW, hsame.mono (by decide) (by decide)⟩
  · exact X25.returnOut hx Bd.returns (hb hby d1_19) hr
  · show Q1 Z a h0 n0 _ T25.heap _
    rw [e25]
    refine ⟨?_, N25, K_32, E_27, F_31⟩
    rfl
theorem d3_0 : decode prog_31_method_6_code 0 = .ok (.aload_n 0, 1) := by decide +kernel
theorem d3_1 : decode prog_31_method_6_code 1 = .ok (.iload_n 2, 1) := by decide +kernel
theorem d3_2 : decode prog_31_method_6_code 2 = .ok (.iconst 5, 1) := by decide +kernel
theorem d3_3 : decode prog_31_method_6_code 3 = .ok (.ishl, 1) := by decide +kernel
theorem d3_4 : decode prog_31_method_6_code 4 = .ok (.iload_n 1, 1) := by decide +kernel
theorem d3_5 : decode prog_31_method_6_code 5 = .ok (.ior, 1) := by decide +kernel
theorem d3_6 : decode prog_31_method_6_code 6 = .ok (.putfield 20, 3) := by decide +kernel
theorem d3_9 : decode prog_31_method_6_code 9 = .ok (.return_, 1) := by decide +kernel
theorem ef_3 (m : MethodId) (a : Addr) (q1 : Int32) (q2 : Int32) : entryFrame m #[(.ref a), (.int q1), (.int q2)] 3 = mkF m 0 #[.val (.ref a), .val (.int q1), .val (.int q2)] [] := by first | (simp [entryFrame, mkF, argsToLocals, Value.category]; done) | rfl
def Q3 (Z : State) (a : Addr) (q1 : Int32) (q2 : Int32) (w1 : Int32) (h0 : Heap) (n0 : Nat) (v : Option Value) (h : Heap) (L : List Loc) : Prop := v = none ∧ Fr n0 L ∧ Keep h0 h [a] ∧ Exa Z h a "com/example/tinyward/tinyward/Node" ∧ Fld Z h a "com/example/tinyward/tinyward/Node" "frequency" "I" (.int ((q2 <<< ((5 : Int32) &&& 31)) ||| q1))
set_option maxRecDepth 65536 in
set_option maxHeartbeats 40000000 in
theorem rm3 (l : Launch) (Z : State) (a0 : Array Value) (hw : ∀ d ∈ tables_1, d.before a0 Z = true) (ws : List Jvm.Cond) (a : Addr) (q1 : Int32) (q2 : Int32) (w1 : Int32) (h0 : Heap) (n0 : Nat) (Z0 : n0 ≤ h0.size) (E_a : Exa Z h0 a "com/example/tinyward/tinyward/Node") (F_a : Fld Z h0 a "com/example/tinyward/tinyward/Node" "frequency" "I" (.int w1)) (g_a : n0 ≤ a) :
    MetFree l (⟨"com/example/tinyward/tinyward/Node", "startFrequency", "(II)V"⟩ : MethodName) (head1 (Jvm.Cond.code (⟨"com/example/tinyward/tinyward/Node", "startFrequency", "(II)V"⟩ : MethodName) prog_31_method_6_code 3 none :: ws) ({ frames := 0, cells := 0, slots := 0, locals := 0 } : Room)) (fun a' U => a' = #[(.ref a), (.int q1), (.int q2)] ∧ Z.Warmed39 U.vm ∧ U.heap = h0) (fun _ _ _ _ _ => True) (fun _ U o U' => ∃ v L, o = .returned v ∧ Q3 Z a q1 q2 w1 h0 n0 v U'.heap L ∧ FrameEnd U o U' L ({ frames := 0, cells := 0, slots := 0, locals := 0 } : Room).cells ({ frames := 0, cells := 0, slots := 0, locals := 0 } : Room).slots) := by
  refine MetFree.of_bodySF (plainFor_of_name pn_0) hisR ?_
  intro p e s m args' below meth c s₁ Bd hml0 hP hK
  obtain ⟨hargs, hZ, hh⟩ := hP
  have hx := Bd.exec
  have hby := Bd.bytes
  have hml : c.maxLocals = 3 := hml0
  have hown : s.vm.findClass "com/example/tinyward/tinyward/Node" = some m.cls := findClass_of_methodNamed Bd.named
  have hnm := (name_of_methodNamed Bd.named Bd.method).1
  have X0 : Stand p l e ({ frames := 0, cells := 0, slots := 0, locals := 0 } : Room) s m args' below meth c s₁ [] 0 0 := Stand.of_body Bd
  have e0 : s₁.heap = h0 := by rw [← hh, Bd.state]; rfl
  have N0 := Fr.nil n0
  obtain ⟨A0, hA0⟩ : ∃ A, A = s₁.setTop (mkF m 0 #[.val (.ref a), .val (.int q1), .val (.int q2)] []) := ⟨_, rfl⟩
  have P0 : own_Rch p.tables e below A0 (s₁.setTop (mkF m 0 #[.val (.ref a), .val (.int q1), .val (.int q2)] [])) := fun t k => hA0 ▸ k
  have P00 : own_Rch p.tables e below (s₁.setTop (entryFrame m args' 3)) A0 := fun t k => by rw [hargs]; exact castTop (ef_3 m a q1 q2) (hA0 ▸ k)
  have K0 : Keep h0 h0 [a] := Keep.refl _ _
  have P1 : own_Rch p.tables e below A0 (s₁.setTop (mkF m 6 #[.val (.ref a), .val (.int q1), .val (.int q2)] [(.int ((q2 <<< ((5 : Int32) &&& 31)) ||| q1)), (.ref a)])) := fun t k => P0 t (by
    show Steps p.tables e below (s₁.setTop (mkF m 0 #[.val (.ref a), .val (.int q1), .val (.int q2)] [])) _
    refine XS.aloadN X0.here hx rfl (hb hby d3_0) rfl rfl ?_
    show Steps p.tables e below (s₁.setTop (mkF m 1 #[.val (.ref a), .val (.int q1), .val (.int q2)] [(.ref a)])) _
    refine XS.iloadN X0.here hx rfl (hb hby d3_1) rfl ?_
    show Steps p.tables e below (s₁.setTop (mkF m 2 #[.val (.ref a), .val (.int q1), .val (.int q2)] [(.int q2), (.ref a)])) _
    refine XS.iconst X0.here hx rfl (hb hby d3_2) ?_
    show Steps p.tables e below (s₁.setTop (mkF m 3 #[.val (.ref a), .val (.int q1), .val (.int q2)] [(.int (5 : Int32)), (.int q2), (.ref a)])) _
    refine XS.ishl X0.here hx rfl (hb hby d3_3) rfl ?_
    show Steps p.tables e below (s₁.setTop (mkF m 4 #[.val (.ref a), .val (.int q1), .val (.int q2)] [(.int (q2 <<< ((5 : Int32) &&& 31))), (.ref a)])) _
    refine XS.iloadN X0.here hx rfl (hb hby d3_4) rfl ?_
    show Steps p.tables e below (s₁.setTop (mkF m 5 #[.val (.ref a), .val (.int q1), .val (.int q2)] [(.int q1), (.int (q2 <<< ((5 : Int32) &&& 31))), (.ref a)])) _
    refine XS.ior X0.here hx rfl (hb hby d3_5) rfl ?_
    exact k)
  obtain ⟨T2, h2, X2, e2, W2, st2⟩ := putF X0 hx hZ hown (host := "") (Or.inl (hw _ (List.mem_of_getElem? (i := 20) rfl))) Via.refl e0 F_a E_a (Or.inl (hw _ (List.mem_of_getElem? (i := 21) rfl))) (hw _ (List.mem_of_getElem? (i := 1) rfl)) (ty := .int) (by decide) rfl rfl (g := (mkF m 6 #[.val (.ref a), .val (.int q1), .val (.int q2)] [(.int ((q2 <<< ((5 : Int32) &&& 31)) ||| q1)), (.ref a)])) rfl rfl (hb hby d3_6)
  have N2 := Fr.snoc X2 N0 g_a
  have Z_3 : n0 ≤ h2.size := Nat.le_trans Z0 (Keep.of_wr W2).1
  have E_4 : Exa Z h2 a "com/example/tinyward/tinyward/Node" := E_a.wr W2
  have F_5 : Fld Z h2 a "com/example/tinyward/tinyward/Node" "frequency" "I" (.int ((q2 <<< ((5 : Int32) &&& 31)) ||| q1)) := F_a.same W2
  have K_6 : Keep h0 h2 [a] := K0.wr W2 (Or.inl (List.mem_of_getElem? (i := 0) rfl))
  have P7 : own_Rch p.tables e below A0 (T2.setTop (mkF m 9 #[.val (.ref a), .val (.int q1), .val (.int q2)] [])) := fun t k => P1 t (st2 t k)
  obtain ⟨fs, hr, hrun, hended, hW, hsame⟩ := X2.leave (v := none) (fun _ => rfl)
  refine ⟨_, _, P00 _ (P7 _ ?_), hrun, hended, _, _, rfl, ?_, ⟨_, rfl⟩, hW, hsame.mono (by decide) (by decide)⟩
  · exact X2.returnOut hx Bd.returns (hb hby d3_9) hr
  · show Q3 Z a q1 q2 w1 h0 n0 _ T2.heap _
    rw [e2]
    refine ⟨?_, N2, K_6, E_4, F_5⟩
    rfl
theorem d5_0 : decode prog_31_method_9_code 0 = .ok (.aload_n 0, 1) := by decide +kernel
theorem d5_1 : decode prog_31_method_9_code 1 = .ok (.getfield 20, 3) := by decide +kernel
theorem d5_4 : decode prog_31_method_9_code 4 = .ok (.bipush 16, 2) := by decide +kernel
theorem d5_6 : decode prog_31_method_9_code 6 = .ok (.iand, 1) := by decide +kernel
theorem d5_7 : decode prog_31_method_9_code 7 = .ok (.ifCond .eq 7, 3) := by decide +kernel
theorem d5_10 : decode prog_31_method_9_code 10 = .ok (.iconst 1, 1) := by decide +kernel
theorem d5_11 : decode prog_31_method_9_code 11 = .ok (.goto 4, 3) := by decide +kernel
theorem d5_14 : decode prog_31_method_9_code 14 = .ok (.iconst 0, 1) := by decide +kernel
theorem d5_15 : decode prog_31_method_9_code 15 = .ok (.ireturn, 1) := by decide +kernel
def own_used (w1 : Int32) : Int32 := (if (w1 &&& (16 : Int32)) = (0 : Int32) then (0 : Int32) else (1 : Int32))
theorem ef_5 (m : MethodId) (a : Addr) : entryFrame m #[(.ref a)] 1 = mkF m 0 #[.val (.ref a)] [] := by first | (simp [entryFrame, mkF, argsToLocals, Value.category]; done) | rfl
def Q5 (Z : State) (a : Addr) (w1 : Int32) (h0 : Heap) (n0 : Nat) (v : Option Value) (h : Heap) (L : List Loc) : Prop := v = some (.int (own_used w1)) ∧ Fr n0 L ∧ h = h0
set_option maxRecDepth 65536 in
set_option maxHeartbeats 40000000 in
theorem rm5 (l : Launch) (Z : State) (a0 : Array Value) (hw : ∀ d ∈ tables_1, d.before a0 Z = true) (ws : List Jvm.Cond) (a : Addr) (w1 : Int32) (h0 : Heap) (n0 : Nat) (Z0 : n0 ≤ h0.size) (F_a : Fld Z h0 a "com/example/tinyward/tinyward/Node" "frequency" "I" (.int w1)) :
    MetFree l (⟨"com/example/tinyward/tinyward/Node", "wasUsed", "()Z"⟩ : MethodName) (head1 (Jvm.Cond.code (⟨"com/example/tinyward/tinyward/Node", "wasUsed", "()Z"⟩ : MethodName) prog_31_method_9_code 1 (some .boolean) :: ws) ({ frames := 0, cells := 0, slots := 0, locals := 0 } : Room)) (fun a' U => a' = #[(.ref a)] ∧ Z.Warmed39 U.vm ∧ U.heap = h0) (fun _ _ _ _ _ => True) (fun _ U o U' => ∃ v L, o = .returned v ∧ Q5 Z a w1 h0 n0 v U'.heap L ∧ FrameEnd U o U' L ({ frames := 0, cells := 0, slots := 0, locals := 0 } : Room).cells ({ frames := 0, cells := 0, slots := 0, locals := 0 } : Room).slots) := by
  refine MetFree.of_bodySF (plainFor_of_name pn_0) hisR ?_
  intro p e s m args' below meth c s₁ Bd hml0 hP hK
  obtain ⟨hargs, hZ, hh⟩ := hP
  have hx := Bd.exec
  have hby := Bd.bytes
  have hml : c.maxLocals = 1 := hml0
  have hown : s.vm.findClass "com/example/tinyward/tinyward/Node" = some m.cls := findClass_of_methodNamed Bd.named
  have hnm := (name_of_methodNamed Bd.named Bd.method).1
  have X0 : Stand p l e ({ frames := 0, cells := 0, slots := 0, locals := 0 } : Room) s m args' below meth c s₁ [] 0 0 := Stand.of_body Bd
  have e0 : s₁.heap = h0 := by rw [← hh, Bd.state]; rfl
  have N0 := Fr.nil n0
  obtain ⟨A0, hA0⟩ : ∃ A, A = s₁.setTop (mkF m 0 #[.val (.ref a)] []) := ⟨_, rfl⟩
  have P0 : own_Rch p.tables e below A0 (s₁.setTop (mkF m 0 #[.val (.ref a)] [])) := fun t k => hA0 ▸ k
  have P00 : own_Rch p.tables e below (s₁.setTop (entryFrame m args' 1)) A0 := fun t k => by rw [hargs]; exact castTop (ef_5 m a) (hA0 ▸ k)
  have P1 : own_Rch p.tables e below A0 (s₁.setTop (mkF m 1 #[.val (.ref a)] [(.ref a)])) := fun t k => P0 t (by
    show Steps p.tables e below (s₁.setTop (mkF m 0 #[.val (.ref a)] [])) _
    refine XS.aloadN X0.here hx rfl (hb hby d5_0) rfl rfl ?_
    exact k)
  obtain ⟨T2, X2, e2, st2⟩ := getF X0 hx hZ hown (host := "") (Or.inl (hw _ (List.mem_of_getElem? (i := 20) rfl))) Via.refl e0 F_a (g := (mkF m 1 #[.val (.ref a)] [(.ref a)])) rfl rfl (hb hby d5_1)
  have P3 : own_Rch p.tables e below A0 (T2.setTop (mkF m 4 #[.val (.ref a)] [(.int w1)])) := fun t k => P1 t (st2 t k)
  have P5 : own_Rch p.tables e below A0 (T2.setTop (mkF m 7 #[.val (.ref a)] [(.int (w1 &&& (16 : Int32)))])) := fun t k => P3 t (by
    show Steps p.tables e below (T2.setTop (mkF m 4 #[.val (.ref a)] [(.int w1)])) _
    refine XS.bipush X2.here hx rfl (hb hby d5_4) ?_
    show Steps p.tables e below (T2.setTop (mkF m 6 #[.val (.ref a)] [(.int (16 : Int32)), (.int w1)])) _
    refine XS.iand X2.here hx rfl (hb hby d5_6) rfl ?_
    exact k)
  by_cases hc4 : (w1 &&& (16 : Int32)) = (0 : Int32)
  · -- (w1 &&& (16 : Int32)) = (0 : Int32)
    have P6 : own_Rch p.tables e below A0 (T2.setTop (mkF m 15 #[.val (.ref a)] [(.int (0 : Int32))])) := fun t k => P5 t (by
      show Steps p.tables e below (T2.setTop (mkF m 7 #[.val (.ref a)] [(.int (w1 &&& (16 : Int32)))])) _
      refine XS.ifYes X2.here hx rfl (pc0 := 7) (pc' := 14) rfl (hb hby d5_7) rfl ((if0 _ _).trans (teq hc4).1) (by decide) (by decide) ?_
      show Steps p.tables e below (T2.setTop (mkF m 14 #[.val (.ref a)] [])) _
      refine XS.iconst X2.here hx rfl (hb hby d5_14) ?_
      exact k)
    obtain ⟨fs, hr, hrun, hended, hW, hsame⟩ := X2.leave (v := some (.int (nar .boolean (0 : Int32)))) (fun h => by rw [Bd.returns] at h; cases h)
    refine ⟨_, _, P00 _ (P6 _ ?_), hrun, hended, _, _, rfl, ?_, ⟨_, rfl⟩, hW, hsame.mono (by decide) (by decide)⟩
    · exact retN X2 hx (t := .boolean) Bd.returns (by simp) (hb hby d5_15) hr
    · show Q5 Z a w1 h0 n0 _ T2.heap _
      rw [e2]
      refine ⟨?_, N0, rfl⟩
      skip
      (try simp only [own_used, if_pos hc4])
      (try rfl)
  · -- not (w1 &&& (16 : Int32)) = (0 : Int32)
    have P7 : own_Rch p.tables e below A0 (T2.setTop (mkF m 15 #[.val (.ref a)] [(.int (1 : Int32))])) := fun t k => P5 t (by
      show Steps p.tables e below (T2.setTop (mkF m 7 #[.val (.ref a)] [(.int (w1 &&& (16 : Int32)))])) _
      refine XS.ifNo X2.here hx rfl (hb hby d5_7) rfl ((if0 _ _).trans (feq hc4).1) ?_
      show Steps p.tables e below (T2.setTop (mkF m 10 #[.val (.ref a)] [])) _
      refine XS.iconst X2.here hx rfl (hb hby d5_10) ?_
      show Steps p.tables e below (T2.setTop (mkF m 11 #[.val (.ref a)] [(.int (1 : Int32))])) _
      refine XS.goto X2.here hx rfl (pc0 := 11) (pc' := 15) rfl (hb hby d5_11) (by decide) (by decide) ?_
      exact k)
    obtain ⟨fs, hr, hrun, hended, hW, hsame⟩ := X2.leave (v := some (.int (nar .boolean (1 : Int32)))) (fun h => by rw [Bd.returns] at h; cases h)
    refine ⟨_, _, P00 _ (P7 _ ?_), hrun, hended, _, _, rfl, ?_, ⟨_, rfl⟩, hW, hsame.mono (by decide) (by decide)⟩
    · exact retN X2 hx (t := .boolean) Bd.returns (by simp) (hb hby d5_15) hr
    · show Q5 Z a w1 h0 n0 _ T2.heap _
      rw [e2]
      refine ⟨?_, N0, rfl⟩
      skip
      (try simp only [own_used, if_neg hc4])
      (try rfl)
theorem d6_0 : decode prog_31_method_7_code 0 = .ok (.iload_n 1, 1) := by decide +kernel
theorem d6_1 : decode prog_31_method_7_code 1 = .ok (.aload_n 0, 1) := by decide +kernel
theorem d6_2 : decode prog_31_method_7_code 2 = .ok (.getfield 20, 3) := by decide +kernel
theorem d6_5 : decode prog_31_method_7_code 5 = .ok (.iconst 5, 1) := by decide +kernel
theorem d6_6 : decode prog_31_method_7_code 6 = .ok (.iushr, 1) := by decide +kernel
theorem d6_7 : decode prog_31_method_7_code 7 = .ok (.isub, 1) := by decide +kernel
theorem d6_8 : decode prog_31_method_7_code 8 = .ok (.iconst 5, 1) := by decide +kernel
theorem d6_9 : decode prog_31_method_7_code 9 = .ok (.ishl, 1) := by decide +kernel
theorem d6_10 : decode prog_31_method_7_code 10 = .ok (.iconst 5, 1) := by decide +kernel
theorem d6_11 : decode prog_31_method_7_code 11 = .ok (.iushr, 1) := by decide +kernel
theorem d6_12 : decode prog_31_method_7_code 12 = .ok (.istore_n 2, 1) := by decide +kernel
theorem d6_13 : decode prog_31_method_7_code 13 = .ok (.iload_n 2, 1) := by decide +kernel
theorem d6_14 : decode prog_31_method_7_code 14 = .ok (.iconst 4, 1) := by decide +kernel
theorem d6_15 : decode prog_31_method_7_code 15 = .ok (.if_icmp .lt 7, 3) := by decide +kernel
theorem d6_18 : decode prog_31_method_7_code 18 = .ok (.iconst 0, 1) := by decide +kernel
theorem d6_19 : decode prog_31_method_7_code 19 = .ok (.goto 12, 3) := by decide +kernel
theorem d6_22 : decode prog_31_method_7_code 22 = .ok (.aload_n 0, 1) := by decide +kernel
theorem d6_23 : decode prog_31_method_7_code 23 = .ok (.getfield 20, 3) := by decide +kernel
theorem d6_26 : decode prog_31_method_7_code 26 = .ok (.bipush 15, 2) := by decide +kernel
theorem d6_28 : decode prog_31_method_7_code 28 = .ok (.iand, 1) := by decide +kernel
theorem d6_29 : decode prog_31_method_7_code 29 = .ok (.iload_n 2, 1) := by decide +kernel
theorem d6_30 : decode prog_31_method_7_code 30 = .ok (.iushr, 1) := by decide +kernel
theorem d6_31 : decode prog_31_method_7_code 31 = .ok (.ireturn, 1) := by decide +kernel
def own_freq (q1 : Int32) (w1 : Int32) : Int32 := (if ((((q1 - ((w1.toUInt32 >>> ((5 : Int32) &&& 31).toUInt32).toInt32)) <<< ((5 : Int32) &&& 31)).toUInt32 >>> ((5 : Int32) &&& 31).toUInt32).toInt32) < (4 : Int32) then (((w1 &&& (15 : Int32)).toUInt32 >>> (((((q1 - ((w1.toUInt32 >>> ((5 : Int32) &&& 31).toUInt32).toInt32)) <<< ((5 : Int32) &&& 31)).toUInt32 >>> ((5 : Int32) &&& 31).toUInt32).toInt32) &&& 31).toUInt32).toInt32) else (0 : Int32))
theorem ef_6 (m : MethodId) (a : Addr) (q1 : Int32) : entryFrame m #[(.ref a), (.int q1)] 3 = mkF m 0 #[.val (.ref a), .val (.int q1), .unset] [] := by first | (simp [entryFrame, mkF, argsToLocals, Value.category]; done) | rfl
def Q6 (Z : State) (a : Addr) (q1 : Int32) (w1 : Int32) (h0 : Heap) (n0 : Nat) (v : Option Value) (h : Heap) (L : List Loc) : Prop := v = some (.int (own_freq q1 w1)) ∧ Fr n0 L ∧ h = h0
set_option maxRecDepth 65536 in
set_option maxHeartbeats 40000000 in
theorem rm6 (l : Launch) (Z : State) (a0 : Array Value) (hw : ∀ d ∈ tables_1, d.before a0 Z = true) (ws : List Jvm.Cond) (a : Addr) (q1 : Int32) (w1 : Int32) (h0 : Heap) (n0 : Nat) (Z0 : n0 ≤ h0.size) (F_a : Fld Z h0 a "com/example/tinyward/tinyward/Node" "frequency" "I" (.int w1)) :
    MetFree l (⟨"com/example/tinyward/tinyward/Node", "frequency", "(I)I"⟩ : MethodName) (head1 (Jvm.Cond.code (⟨"com/example/tinyward/tinyward/Node", "frequency", "(I)I"⟩ : MethodName) prog_31_method_7_code 3 (some .int) :: ws) ({ frames := 0, cells := 0, slots := 0, locals := 0 } : Room)) (fun a' U => a' = #[(.ref a), (.int q1)] ∧ Z.Warmed39 U.vm ∧ U.heap = h0) (fun _ _ _ _ _ => True) (fun _ U o U' => ∃ v L, o = .returned v ∧ Q6 Z a q1 w1 h0 n0 v U'.heap L ∧ FrameEnd U o U' L ({ frames := 0, cells := 0, slots := 0, locals := 0 } : Room).cells ({ frames := 0, cells := 0, slots := 0, locals := 0 } : Room).slots) := by
  refine MetFree.of_bodySF (plainFor_of_name pn_0) hisR ?_
  intro p e s m args' below meth c s₁ Bd hml0 hP hK
  obtain ⟨hargs, hZ, hh⟩ := hP
  have hx := Bd.exec
  have hby := Bd.bytes
  have hml : c.maxLocals = 3 := hml0
  have hown : s.vm.findClass "com/example/tinyward/tinyward/Node" = some m.cls := findClass_of_methodNamed Bd.named
  have hnm := (name_of_methodNamed Bd.named Bd.method).1
  have X0 : Stand p l e ({ frames := 0, cells := 0, slots := 0, locals := 0 } : Room) s m args' below meth c s₁ [] 0 0 := Stand.of_body Bd
  have e0 : s₁.heap = h0 := by rw [← hh, Bd.state]; rfl
  have N0 := Fr.nil n0
  obtain ⟨A0, hA0⟩ : ∃ A, A = s₁.setTop (mkF m 0 #[.val (.ref a), .val (.int q1), .unset] []) := ⟨_, rfl⟩
  have P0 : own_Rch p.tables e below A0 (s₁.setTop (mkF m 0 #[.val (.ref a), .val (.int q1), .unset] [])) := fun t k => hA0 ▸ k
  have P00 : own_Rch p.tables e below (s₁.setTop (entryFrame m args' 3)) A0 := fun t k => by rw [hargs]; exact castTop (ef_6 m a q1) (hA0 ▸ k)
  have P1 : own_Rch p.tables e below A0 (s₁.setTop (mkF m 2 #[.val (.ref a), .val (.int q1), .unset] [(.ref a), (.int q1)])) := fun t k => P0 t (by
    show Steps p.tables e below (s₁.setTop (mkF m 0 #[.val (.ref a), .val (.int q1), .unset] [])) _
    refine XS.iloadN X0.here hx rfl (hb hby d6_0) rfl ?_
    show Steps p.tables e below (s₁.setTop (mkF m 1 #[.val (.ref a), .val (.int q1), .unset] [(.int q1)])) _
    refine XS.aloadN X0.here hx rfl (hb hby d6_1) rfl rfl ?_
    exact k)
  obtain ⟨T2, X2, e2, st2⟩ := getF X0 hx hZ hown (host := "") (Or.inl (hw _ (List.mem_of_getElem? (i := 20) rfl))) Via.refl e0 F_a (g := (mkF m 2 #[.val (.ref a), .val (.int q1), .unset] [(.ref a), (.int q1)])) rfl rfl (hb hby d6_2)
  have P3 : own_Rch p.tables e below A0 (T2.setTop (mkF m 5 #[.val (.ref a), .val (.int q1), .unset] [(.int w1), (.int q1)])) := fun t k => P1 t (st2 t k)
  have P4 : own_Rch p.tables e below A0 (T2.setTop (mkF m 13 #[.val (.ref a), .val (.int q1), .val (.int ((((q1 - ((w1.toUInt32 >>> ((5 : Int32) &&& 31).toUInt32).toInt32)) <<< ((5 : Int32) &&& 31)).toUInt32 >>> ((5 : Int32) &&& 31).toUInt32).toInt32))] [])) := fun t k => P3 t (by
    show Steps p.tables e below (T2.setTop (mkF m 5 #[.val (.ref a), .val (.int q1), .unset] [(.int w1), (.int q1)])) _
    refine XS.iconst X2.here hx rfl (hb hby d6_5) ?_
    show Steps p.tables e below (T2.setTop (mkF m 6 #[.val (.ref a), .val (.int q1), .unset] [(.int (5 : Int32)), (.int w1), (.int q1)])) _
    refine XS.iushr X2.here hx rfl (hb hby d6_6) rfl ?_
    show Steps p.tables e below (T2.setTop (mkF m 7 #[.val (.ref a), .val (.int q1), .unset] [(.int ((w1.toUInt32 >>> ((5 : Int32) &&& 31).toUInt32).toInt32)), (.int q1)])) _
    refine XS.isub X2.here hx rfl (hb hby d6_7) rfl ?_
    show Steps p.tables e below (T2.setTop (mkF m 8 #[.val (.ref a), .val (.int q1), .unset] [(.int (q1 - ((w1.toUInt32 >>> ((5 : Int32) &&& 31).toUInt32).toInt32)))])) _
    refine XS.iconst X2.here hx rfl (hb hby d6_8) ?_
    show Steps p.tables e below (T2.setTop (mkF m 9 #[.val (.ref a), .val (.int q1), .unset] [(.int (5 : Int32)), (.int (q1 - ((w1.toUInt32 >>> ((5 : Int32) &&& 31).toUInt32).toInt32)))])) _
    refine XS.ishl X2.here hx rfl (hb hby d6_9) rfl ?_
    show Steps p.tables e below (T2.setTop (mkF m 10 #[.val (.ref a), .val (.int q1), .unset] [(.int ((q1 - ((w1.toUInt32 >>> ((5 : Int32) &&& 31).toUInt32).toInt32)) <<< ((5 : Int32) &&& 31)))])) _
    refine XS.iconst X2.here hx rfl (hb hby d6_10) ?_
    show Steps p.tables e below (T2.setTop (mkF m 11 #[.val (.ref a), .val (.int q1), .unset] [(.int (5 : Int32)), (.int ((q1 - ((w1.toUInt32 >>> ((5 : Int32) &&& 31).toUInt32).toInt32)) <<< ((5 : Int32) &&& 31)))])) _
    refine XS.iushr X2.here hx rfl (hb hby d6_11) rfl ?_
    show Steps p.tables e below (T2.setTop (mkF m 12 #[.val (.ref a), .val (.int q1), .unset] [(.int ((((q1 - ((w1.toUInt32 >>> ((5 : Int32) &&& 31).toUInt32).toInt32)) <<< ((5 : Int32) &&& 31)).toUInt32 >>> ((5 : Int32) &&& 31).toUInt32).toInt32))])) _
    refine XS.istoreN X2.here hx rfl (hb hby d6_12) rfl (l' := #[.val (.ref a), .val (.int q1), .val (.int ((((q1 - ((w1.toUInt32 >>> ((5 : Int32) &&& 31).toUInt32).toInt32)) <<< ((5 : Int32) &&& 31)).toUInt32 >>> ((5 : Int32) &&& 31).toUInt32).toInt32))]) rfl ?_
    exact k)
  obtain ⟨v5, hv5, P6⟩ : ∃ z : Int32, z = ((((q1 - ((w1.toUInt32 >>> ((5 : Int32) &&& 31).toUInt32).toInt32)) <<< ((5 : Int32) &&& 31)).toUInt32 >>> ((5 : Int32) &&& 31).toUInt32).toInt32) ∧ own_Rch p.tables e below A0 (T2.setTop (mkF m 13 #[.val (.ref a), .val (.int q1), .val (.int z)] [])) := ⟨_, rfl, P4⟩
  have P8 : own_Rch p.tables e below A0 (T2.setTop (mkF m 15 #[.val (.ref a), .val (.int q1), .val (.int v5)] [(.int (4 : Int32)), (.int v5)])) := fun t k => P6 t (by
    show Steps p.tables e below (T2.setTop (mkF m 13 #[.val (.ref a), .val (.int q1), .val (.int v5)] [])) _
    refine XS.iloadN X2.here hx rfl (hb hby d6_13) rfl ?_
    show Steps p.tables e below (T2.setTop (mkF m 14 #[.val (.ref a), .val (.int q1), .val (.int v5)] [(.int v5)])) _
    refine XS.iconst X2.here hx rfl (hb hby d6_14) ?_
    exact k)
  by_cases hc7 : v5 < (4 : Int32)
  · -- v5 < (4 : Int32)
    have P9 : own_Rch p.tables e below A0 (T2.setTop (mkF m 23 #[.val (.ref a), .val (.int q1), .val (.int v5)] [(.ref a)])) := fun t k => P8 t (by
      show Steps p.tables e below (T2.setTop (mkF m 15 #[.val (.ref a), .val (.int q1), .val (.int v5)] [(.int (4 : Int32)), (.int v5)])) _
      refine XS.icmpYes X2.here hx rfl (pc0 := 15) (pc' := 22) rfl (hb hby d6_15) rfl (tlt hc7).1 (by decide) (by decide) ?_
      show Steps p.tables e below (T2.setTop (mkF m 22 #[.val (.ref a), .val (.int q1), .val (.int v5)] [])) _
      refine XS.aloadN X2.here hx rfl (hb hby d6_22) rfl rfl ?_
      exact k)
    obtain ⟨T10, X10, e10, st10⟩ := getF X2 hx hZ hown (host := "") (Or.inl (hw _ (List.mem_of_getElem? (i := 20) rfl))) Via.refl e2 F_a (g := (mkF m 23 #[.val (.ref a), .val (.int q1), .val (.int v5)] [(.ref a)])) rfl rfl (hb hby d6_23)
    have P11 : own_Rch p.tables e below A0 (T10.setTop (mkF m 26 #[.val (.ref a), .val (.int q1), .val (.int v5)] [(.int w1)])) := fun t k => P9 t (st10 t k)
    have P12 : own_Rch p.tables e below A0 (T10.setTop (mkF m 31 #[.val (.ref a), .val (.int q1), .val (.int v5)] [(.int (((w1 &&& (15 : Int32)).toUInt32 >>> (v5 &&& 31).toUInt32).toInt32))])) := fun t k => P11 t (by
      show Steps p.tables e below (T10.setTop (mkF m 26 #[.val (.ref a), .val (.int q1), .val (.int v5)] [(.int w1)])) _
      refine XS.bipush X10.here hx rfl (hb hby d6_26) ?_
      show Steps p.tables e below (T10.setTop (mkF m 28 #[.val (.ref a), .val (.int q1), .val (.int v5)] [(.int (15 : Int32)), (.int w1)])) _
      refine XS.iand X10.here hx rfl (hb hby d6_28) rfl ?_
      show Steps p.tables e below (T10.setTop (mkF m 29 #[.val (.ref a), .val (.int q1), .val (.int v5)] [(.int (w1 &&& (15 : Int32)))])) _
      refine XS.iloadN X10.here hx rfl (hb hby d6_29) rfl ?_
      show Steps p.tables e below (T10.setTop (mkF m 30 #[.val (.ref a), .val (.int q1), .val (.int v5)] [(.int v5), (.int (w1 &&& (15 : Int32)))])) _
      refine XS.iushr X10.here hx rfl (hb hby d6_30) rfl ?_
      exact k)
    obtain ⟨fs, hr, hrun, hended, hW, hsame⟩ := X10.leave (v := some (.int (((w1 &&& (15 : Int32)).toUInt32 >>> (v5 &&& 31).toUInt32).toInt32))) (fun h => by rw [Bd.returns] at h; cases h)
    refine ⟨_, _, P00 _ (P12 _ ?_), hrun, hended, _, _, rfl, ?_, ⟨_, rfl⟩, hW, hsame.mono (by decide) (by decide)⟩
    · exact retOut X10 hx (t := .int) Bd.returns rfl (Or.inl ⟨rfl, Or.inl rfl, _, rfl⟩) (hb hby d6_31) hr
    · show Q6 Z a q1 w1 h0 n0 _ T10.heap _
      rw [e10]
      refine ⟨?_, N0, rfl⟩
      subst hv5
      (try simp only [own_freq, if_pos hc7])
      (try rfl)
  · -- not v5 < (4 : Int32)
    have P13 : own_Rch p.tables e below A0 (T2.setTop (mkF m 31 #[.val (.ref a), .val (.int q1), .val (.int v5)] [(.int (0 : Int32))])) := fun t k => P8 t (by
      show Steps p.tables e below (T2.setTop (mkF m 15 #[.val (.ref a), .val (.int q1), .val (.int v5)] [(.int (4 : Int32)), (.int v5)])) _
      refine XS.icmpNo X2.here hx rfl (hb hby d6_15) rfl (flt hc7).1 ?_
      show Steps p.tables e below (T2.setTop (mkF m 18 #[.val (.ref a), .val (.int q1), .val (.int v5)] [])) _
      refine XS.iconst X2.here hx rfl (hb hby d6_18) ?_
      show Steps p.tables e below (T2.setTop (mkF m 19 #[.val (.ref a), .val (.int q1), .val (.int v5)] [(.int (0 : Int32))])) _
      refine XS.goto X2.here hx rfl (pc0 := 19) (pc' := 31) rfl (hb hby d6_19) (by decide) (by decide) ?_
      exact k)
    obtain ⟨fs, hr, hrun, hended, hW, hsame⟩ := X2.leave (v := some (.int (0 : Int32))) (fun h => by rw [Bd.returns] at h; cases h)
    refine ⟨_, _, P00 _ (P13 _ ?_), hrun, hended, _, _, rfl, ?_, ⟨_, rfl⟩, hW, hsame.mono (by decide) (by decide)⟩
    · exact retOut X2 hx (t := .int) Bd.returns rfl (Or.inl ⟨rfl, Or.inl rfl, _, rfl⟩) (hb hby d6_31) hr
    · show Q6 Z a q1 w1 h0 n0 _ T2.heap _
      rw [e2]
      refine ⟨?_, N0, rfl⟩
      subst hv5
      (try simp only [own_freq, if_neg hc7])
      (try rfl)
theorem d7_0 : decode jdk_29_method_69_code 0 = .ok (.iload_n 0, 1) := by decide +kernel
theorem d7_1 : decode jdk_29_method_69_code 1 = .ok (.iload_n 1, 1) := by decide +kernel
theorem d7_2 : decode jdk_29_method_69_code 2 = .ok (.if_icmp .gt 7, 3) := by decide +kernel
theorem d7_5 : decode jdk_29_method_69_code 5 = .ok (.iload_n 0, 1) := by decide +kernel
theorem d7_6 : decode jdk_29_method_69_code 6 = .ok (.goto 4, 3) := by decide +kernel
theorem d7_9 : decode jdk_29_method_69_code 9 = .ok (.iload_n 1, 1) := by decide +kernel
theorem d7_10 : decode jdk_29_method_69_code 10 = .ok (.ireturn, 1) := by decide +kernel
def own_min (q1 : Int32) (q2 : Int32) : Int32 := (if q2 < q1 then q2 else q1)
theorem ef_7 (m : MethodId) (q1 : Int32) (q2 : Int32) : entryFrame m #[(.int q1), (.int q2)] 2 = mkF m 0 #[.val (.int q1), .val (.int q2)] [] := by first | (simp [entryFrame, mkF, argsToLocals, Value.category]; done) | rfl
def Q7 (Z : State) (q1 : Int32) (q2 : Int32) (h0 : Heap) (n0 : Nat) (v : Option Value) (h : Heap) (L : List Loc) : Prop := v = some (.int (own_min q1 q2)) ∧ Fr n0 L ∧ h = h0
set_option maxRecDepth 65536 in
set_option maxHeartbeats 40000000 in
theorem rm7 (l : Launch) (Z : State) (a0 : Array Value) (hw : ∀ d ∈ tables_1, d.before a0 Z = true) (ws : List Jvm.Cond) (q1 : Int32) (q2 : Int32) (h0 : Heap) (n0 : Nat) (Z0 : n0 ≤ h0.size) :
    MetFree l (⟨"java/lang/Math", "min", "(II)I"⟩ : MethodName) (head1 (Jvm.Cond.code (⟨"java/lang/Math", "min", "(II)I"⟩ : MethodName) jdk_29_method_69_code 2 (some .int) :: ws) ({ frames := 0, cells := 0, slots := 0, locals := 0 } : Room)) (fun a' U => a' = #[(.int q1), (.int q2)] ∧ Z.Warmed39 U.vm ∧ U.heap = h0) (fun _ _ _ _ _ => True) (fun _ U o U' => ∃ v L, o = .returned v ∧ Q7 Z q1 q2 h0 n0 v U'.heap L ∧ FrameEnd U o U' L ({ frames := 0, cells := 0, slots := 0, locals := 0 } : Room).cells ({ frames := 0, cells := 0, slots := 0, locals := 0 } : Room).slots) := by
  refine MetFree.of_bodySF (Jvm.Free.JP.mathPlain rfl (by decide +kernel)) hisR ?_
  intro p e s m args' below meth c s₁ Bd hml0 hP hK
  obtain ⟨hargs, hZ, hh⟩ := hP
  have hx := Bd.exec
  have hby := Bd.bytes
  have hml : c.maxLocals = 2 := hml0
  have hown : s.vm.findClass "java/lang/Math" = some m.cls := findClass_of_methodNamed Bd.named
  have hnm := (name_of_methodNamed Bd.named Bd.method).1
  have X0 : Stand p l e ({ frames := 0, cells := 0, slots := 0, locals := 0 } : Room) s m args' below meth c s₁ [] 0 0 := Stand.of_body Bd
  have e0 : s₁.heap = h0 := by rw [← hh, Bd.state]; rfl
  have N0 := Fr.nil n0
  obtain ⟨A0, hA0⟩ : ∃ A, A = s₁.setTop (mkF m 0 #[.val (.int q1), .val (.int q2)] []) := ⟨_, rfl⟩
  have P0 : own_Rch p.tables e below A0 (s₁.setTop (mkF m 0 #[.val (.int q1), .val (.int q2)] [])) := fun t k => hA0 ▸ k
  have P00 : own_Rch p.tables e below (s₁.setTop (entryFrame m args' 2)) A0 := fun t k => by rw [hargs]; exact castTop (ef_7 m q1 q2) (hA0 ▸ k)
  have P2 : own_Rch p.tables e below A0 (s₁.setTop (mkF m 2 #[.val (.int q1), .val (.int q2)] [(.int q2), (.int q1)])) := fun t k => P0 t (by
    show Steps p.tables e below (s₁.setTop (mkF m 0 #[.val (.int q1), .val (.int q2)] [])) _
    refine XS.iloadN X0.here hx rfl (hb hby d7_0) rfl ?_
    show Steps p.tables e below (s₁.setTop (mkF m 1 #[.val (.int q1), .val (.int q2)] [(.int q1)])) _
    refine XS.iloadN X0.here hx rfl (hb hby d7_1) rfl ?_
    exact k)
  obtain ⟨v4, hv4⟩ : ∃ z : Int32, z = (if q2 < q1 then q2 else q1) := ⟨_, rfl⟩
  have P5 : own_Rch p.tables e below A0 (s₁.setTop (mkF m 10 #[.val (.int q1), .val (.int q2)] [(.int v4)])) := fun t k => P2 t (by
    by_cases hc3 : q2 < q1
    · show Steps p.tables e below (s₁.setTop (mkF m 2 #[.val (.int q1), .val (.int q2)] [(.int q2), (.int q1)])) _
      refine XS.icmpYes X0.here hx rfl (pc0 := 2) (pc' := 9) rfl (hb hby d7_2) rfl (tlt hc3).2.2.1 (by decide) (by decide) ?_
      have qv4 : v4 = q2 := by rw [hv4]; simp only [if_pos hc3]
      rw [qv4] at k
      show Steps p.tables e below (s₁.setTop (mkF m 9 #[.val (.int q1), .val (.int q2)] [])) _
      refine XS.iloadN X0.here hx rfl (hb hby d7_9) rfl ?_
      exact k
    · show Steps p.tables e below (s₁.setTop (mkF m 2 #[.val (.int q1), .val (.int q2)] [(.int q2), (.int q1)])) _
      refine XS.icmpNo X0.here hx rfl (hb hby d7_2) rfl (flt hc3).2.2.1 ?_
      have qv4 : v4 = q1 := by rw [hv4]; simp only [if_neg hc3]
      rw [qv4] at k
      show Steps p.tables e below (s₁.setTop (mkF m 5 #[.val (.int q1), .val (.int q2)] [])) _
      refine XS.iloadN X0.here hx rfl (hb hby d7_5) rfl ?_
      show Steps p.tables e below (s₁.setTop (mkF m 6 #[.val (.int q1), .val (.int q2)] [(.int q1)])) _
      refine XS.goto X0.here hx rfl (pc0 := 6) (pc' := 10) rfl (hb hby d7_6) (by decide) (by decide) ?_
      exact k)
  obtain ⟨fs, hr, hrun, hended, hW, hsame⟩ := X0.leave (v := some (.int v4)) (fun h => by rw [Bd.returns] at h; cases h)
  refine ⟨_, _, P00 _ (P5 _ ?_), hrun, hended, _, _, rfl, ?_, ⟨_, rfl⟩, hW, hsame.mono (by decide) (by decide)⟩
  · exact retOut X0 hx (t := .int) Bd.returns rfl (Or.inl ⟨rfl, Or.inl rfl, _, rfl⟩) (hb hby d7_10) hr
  · show Q7 Z q1 q2 h0 n0 _ s₁.heap _
    rw [e0]
    refine ⟨?_, N0, rfl⟩
    subst hv4
    (try simp only [own_min])
    (try rfl)
theorem d4_0 : decode prog_31_method_8_code 0 = .ok (.aload_n 0, 1) := by decide +kernel
theorem d4_1 : decode prog_31_method_8_code 1 = .ok (.invokevirtual 25, 3) := by decide +kernel
theorem d4_4 : decode prog_31_method_8_code 4 = .ok (.istore_n 2, 1) := by decide +kernel
theorem d4_5 : decode prog_31_method_8_code 5 = .ok (.aload_n 0, 1) := by decide +kernel
theorem d4_6 : decode prog_31_method_8_code 6 = .ok (.bipush 15, 2) := by decide +kernel
theorem d4_8 : decode prog_31_method_8_code 8 = .ok (.aload_n 0, 1) := by decide +kernel
theorem d4_9 : decode prog_31_method_8_code 9 = .ok (.iload_n 1, 1) := by decide +kernel
theorem d4_10 : decode prog_31_method_8_code 10 = .ok (.invokevirtual 29, 3) := by decide +kernel
theorem d4_13 : decode prog_31_method_8_code 13 = .ok (.iconst 1, 1) := by decide +kernel
theorem d4_14 : decode prog_31_method_8_code 14 = .ok (.iadd, 1) := by decide +kernel
theorem d4_15 : decode prog_31_method_8_code 15 = .ok (.invokestatic 32, 3) := by decide +kernel
theorem d4_18 : decode prog_31_method_8_code 18 = .ok (.iload_n 1, 1) := by decide +kernel
theorem d4_19 : decode prog_31_method_8_code 19 = .ok (.invokevirtual 38, 3) := by decide +kernel
theorem d4_22 : decode prog_31_method_8_code 22 = .ok (.aload_n 0, 1) := by decide +kernel
theorem d4_23 : decode prog_31_method_8_code 23 = .ok (.dup, 1) := by decide +kernel
theorem d4_24 : decode prog_31_method_8_code 24 = .ok (.getfield 20, 3) := by decide +kernel
theorem d4_27 : decode prog_31_method_8_code 27 = .ok (.bipush 16, 2) := by decide +kernel
theorem d4_29 : decode prog_31_method_8_code 29 = .ok (.ior, 1) := by decide +kernel
theorem d4_30 : decode prog_31_method_8_code 30 = .ok (.putfield 20, 3) := by decide +kernel
theorem d4_33 : decode prog_31_method_8_code 33 = .ok (.iload_n 2, 1) := by decide +kernel
theorem d4_34 : decode prog_31_method_8_code 34 = .ok (.ireturn, 1) := by decide +kernel
theorem pd_0 : parseMethodDescriptor "()Z" = some ⟨[], some .boolean⟩ := by decide +kernel
theorem pd_1 : parseMethodDescriptor "(I)I" = some ⟨[.int], some .int⟩ := by decide +kernel
theorem pd_2 : parseMethodDescriptor "(II)I" = some ⟨[.int, .int], some .int⟩ := by decide +kernel
theorem pd_3 : parseMethodDescriptor "(II)V" = some ⟨[.int, .int], none⟩ := by decide +kernel
theorem ef_4 (m : MethodId) (a : Addr) (q1 : Int32) : entryFrame m #[(.ref a), (.int q1)] 3 = mkF m 0 #[.val (.ref a), .val (.int q1), .unset] [] := by first | (simp [entryFrame, mkF, argsToLocals, Value.category]; done) | rfl
def Q4 (Z : State) (a : Addr) (q1 : Int32) (w1 : Int32) (h0 : Heap) (n0 : Nat) (v : Option Value) (h : Heap) (L : List Loc) : Prop := v = some (.int (nar .boolean (own_used w1))) ∧ Fr n0 L ∧ Keep h0 h [a] ∧ Exa Z h a "com/example/tinyward/tinyward/Node" ∧ Fld Z h a "com/example/tinyward/tinyward/Node" "frequency" "I" (.int (((q1 <<< ((5 : Int32) &&& 31)) ||| (own_min (15 : Int32) ((own_freq q1 w1) + (1 : Int32)))) ||| (16 : Int32)))
set_option maxRecDepth 65536 in
set_option maxHeartbeats 40000000 in
theorem rm4 (l : Launch) (Z : State) (a0 : Array Value) (hw : ∀ d ∈ tables_1, d.before a0 Z = true) (ws : List Jvm.Cond) (a : Addr) (q1 : Int32) (w1 : Int32) (h0 : Heap) (n0 : Nat) (Z0 : n0 ≤ h0.size) (E_a : Exa Z h0 a "com/example/tinyward/tinyward/Node") (F_a : Fld Z h0 a "com/example/tinyward/tinyward/Node" "frequency" "I" (.int w1)) (g_a : n0 ≤ a) :
    MetFree l (⟨"com/example/tinyward/tinyward/Node", "recordUse", "(I)Z"⟩ : MethodName) (head1 (Jvm.Cond.code (⟨"com/example/tinyward/tinyward/Node", "recordUse", "(I)Z"⟩ : MethodName) prog_31_method_8_code 3 (some .boolean) :: ws) ({ frames := 1, cells := 0, slots := 0, locals := 16 } : Room)) (fun a' U => a' = #[(.ref a), (.int q1)] ∧ Z.Warmed39 U.vm ∧ U.heap = h0) (fun _ _ _ _ _ => True) (fun _ U o U' => ∃ v L, o = .returned v ∧ Q4 Z a q1 w1 h0 n0 v U'.heap L ∧ FrameEnd U o U' L ({ frames := 1, cells := 0, slots := 0, locals := 16 } : Room).cells ({ frames := 1, cells := 0, slots := 0, locals := 16 } : Room).slots) := by
  refine MetFree.of_bodySF (plainFor_of_name pn_0) hisR ?_
  intro p e s m args' below meth c s₁ Bd hml0 hP hK
  obtain ⟨hargs, hZ, hh⟩ := hP
  have hx := Bd.exec
  have hby := Bd.bytes
  have hml : c.maxLocals = 3 := hml0
  have hown : s.vm.findClass "com/example/tinyward/tinyward/Node" = some m.cls := findClass_of_methodNamed Bd.named
  have hnm := (name_of_methodNamed Bd.named Bd.method).1
  have X0 : Stand p l e ({ frames := 1, cells := 0, slots := 0, locals := 16 } : Room) s m args' below meth c s₁ [] 0 0 := Stand.of_body Bd
  have e0 : s₁.heap = h0 := by rw [← hh, Bd.state]; rfl
  have N0 := Fr.nil n0
  obtain ⟨A0, hA0⟩ : ∃ A, A = s₁.setTop (mkF m 0 #[.val (.ref a), .val (.int q1), .unset] []) := ⟨_, rfl⟩
  have P0 : own_Rch p.tables e below A0 (s₁.setTop (mkF m 0 #[.val (.ref a), .val (.int q1), .unset] [])) := fun t k => hA0 ▸ k
  have P00 : own_Rch p.tables e below (s₁.setTop (entryFrame m args' 3)) A0 := fun t k => by rw [hargs]; exact castTop (ef_4 m a q1) (hA0 ▸ k)
  have K0 : Keep h0 h0 [a] := Keep.refl _ _
  have P1 : own_Rch p.tables e below A0 (s₁.setTop (mkF m 1 #[.val (.ref a), .val (.int q1), .unset] [(.ref a)])) := fun t k => P0 t (by
    show Steps p.tables e below (s₁.setTop (mkF m 0 #[.val (.ref a), .val (.int q1), .unset] [])) _
    refine XS.aloadN X0.here hx rfl (hb hby d4_0) rfl rfl ?_
    exact k)
  obtain ⟨cq2, kq2, q2a, q2b, q2c⟩ := isOf hZ e0 E_a
  obtain ⟨_, _, ⟨T2, L2, k2, n2⟩, -, X2, ⟨Lc2, hQ2, l2, y2, z2⟩, st2⟩ := X0.virtualBack hx (y := (⟨"com/example/tinyward/tinyward/Node", "wasUsed", "()Z"⟩ : MethodName)) (z := (⟨"com/example/tinyward/tinyward/Node", "wasUsed", "()Z"⟩ : MethodName)) hown (mvT hZ (hw _ (List.mem_of_getElem? (i := 27) rfl))) (mvT hZ (hw _ (List.mem_of_getElem? (i := 28) rfl))) (notFace_of_selects (args := #[]) (mvT hZ (hw _ (List.mem_of_getElem? (i := 30) rfl)))) (mvT hZ (hw _ (List.mem_of_getElem? (i := 30) rfl))) (mvT hZ (hw _ (List.mem_of_getElem? (i := 29) rfl))) (by decide) (backOf (W := 0) (rm5 l Z a0 hw [] a w1 h0 n0 Z0 F_a) hZ (hw _ (List.mem_of_getElem? (i := 31) rfl)) (hw _ (List.mem_of_getElem? (i := 2) rfl)) (by decide) (by decide)) q2a q2c (g := (mkF m 1 #[.val (.ref a), .val (.int q1), .unset] [(.ref a)])) rfl (by rw [hml]; rfl) (Steps.refl _) (argsL := []) (rest := []) (lenOf pd_0 rfl) rfl (by show 2 * 0 + _ ≤ _; exact Nat.le_of_eq rfl) (hb hby d4_1) (fun _ _ => ⟨rfl, e0, (by decide : (0) + 0 ≤ _), (by decide : (0) + 0 ≤ _)⟩)
  dsimp only [Pt.U, Pt.locs, Pt.cells, Pt.slots] at X2 l2 y2 z2 st2 hQ2
  subst l2 y2 z2
  obtain ⟨rfl, N2q, e2⟩ := hQ2
  have N2 := Fr.app N0 N2q
  have P3 : own_Rch p.tables e below A0 (T2.setTop (mkF m 4 #[.val (.ref a), .val (.int q1), .unset] [(.int (own_used w1))])) := fun t k => P1 t (st2.trans k)
  have P4 : own_Rch p.tables e below A0 (T2.setTop (mkF m 5 #[.val (.ref a), .val (.int q1), .val (.int (own_used w1))] [])) := fun t k => P3 t (by
    show Steps p.tables e below (T2.setTop (mkF m 4 #[.val (.ref a), .val (.int q1), .unset] [(.int (own_used w1))])) _
    refine XS.istoreN X2.here hx rfl (hb hby d4_4) rfl (l' := #[.val (.ref a), .val (.int q1), .val (.int (own_used w1))]) rfl ?_
    exact k)
  obtain ⟨v5, hv5, P6⟩ : ∃ z : Int32, z = (own_used w1) ∧ own_Rch p.tables e below A0 (T2.setTop (mkF m 5 #[.val (.ref a), .val (.int q1), .val (.int z)] [])) := ⟨_, rfl, P4⟩
  have P7 : own_Rch p.tables e below A0 (T2.setTop (mkF m 10 #[.val (.ref a), .val (.int q1), .val (.int v5)] [(.int q1), (.ref a), (.int (15 : Int32)), (.ref a)])) := fun t k => P6 t (by
    show Steps p.tables e below (T2.setTop (mkF m 5 #[.val (.ref a), .val (.int q1), .val (.int v5)] [])) _
    refine XS.aloadN X2.here hx rfl (hb hby d4_5) rfl rfl ?_
    show Steps p.tables e below (T2.setTop (mkF m 6 #[.val (.ref a), .val (.int q1), .val (.int v5)] [(.ref a)])) _
    refine XS.bipush X2.here hx rfl (hb hby d4_6) ?_
    show Steps p.tables e below (T2.setTop (mkF m 8 #[.val (.ref a), .val (.int q1), .val (.int v5)] [(.int (15 : Int32)), (.ref a)])) _
    refine XS.aloadN X2.here hx rfl (hb hby d4_8) rfl rfl ?_
    show Steps p.tables e below (T2.setTop (mkF m 9 #[.val (.ref a), .val (.int q1), .val (.int v5)] [(.ref a), (.int (15 : Int32)), (.ref a)])) _
    refine XS.iloadN X2.here hx rfl (hb hby d4_9) rfl ?_
    exact k)
  obtain ⟨cq8, kq8, q8a, q8b, q8c⟩ := isOf hZ e2 E_a
  obtain ⟨_, _, ⟨T8, L8, k8, n8⟩, -, X8, ⟨Lc8, hQ8, l8, y8, z8⟩, st8⟩ := X2.virtualBack hx (y := (⟨"com/example/tinyward/tinyward/Node", "frequency", "(I)I"⟩ : MethodName)) (z := (⟨"com/example/tinyward/tinyward/Node", "frequency", "(I)I"⟩ : MethodName)) hown (mvT hZ (hw _ (List.mem_of_getElem? (i := 32) rfl))) (mvT hZ (hw _ (List.mem_of_getElem? (i := 33) rfl))) (notFace_of_selects (args := #[]) (mvT hZ (hw _ (List.mem_of_getElem? (i := 35) rfl)))) (mvT hZ (hw _ (List.mem_of_getElem? (i := 35) rfl))) (mvT hZ (hw _ (List.mem_of_getElem? (i := 34) rfl))) (by decide) (backOf (W := 2) (rm6 l Z a0 hw [] a q1 w1 h0 n0 Z0 F_a) hZ (hw _ (List.mem_of_getElem? (i := 36) rfl)) (hw _ (List.mem_of_getElem? (i := 2) rfl)) (by decide) (by decide)) q8a q8c (g := (mkF m 10 #[.val (.ref a), .val (.int q1), .val (.int v5)] [(.int q1), (.ref a), (.int (15 : Int32)), (.ref a)])) rfl (by rw [hml]; rfl) (Steps.refl _) (argsL := [(.int q1)]) (rest := [(.int (15 : Int32)), (.ref a)]) (lenOf pd_1 rfl) rfl (by show 2 * 0 + _ ≤ _; exact Nat.le_of_eq rfl) (hb hby d4_10) (fun _ _ => ⟨rfl, e2, (by decide : (0 + 0) + 0 ≤ _), (by decide : (0 + 0) + 0 ≤ _)⟩)
  dsimp only [Pt.U, Pt.locs, Pt.cells, Pt.slots] at X8 l8 y8 z8 st8 hQ8
  subst l8 y8 z8
  obtain ⟨rfl, N8q, e8⟩ := hQ8
  have N8 := Fr.app N2 N8q
  have P9 : own_Rch p.tables e below A0 (T8.setTop (mkF m 13 #[.val (.ref a), .val (.int q1), .val (.int v5)] [(.int (own_freq q1 w1)), (.int (15 : Int32)), (.ref a)])) := fun t k => P7 t (st8.trans k)
  have P10 : own_Rch p.tables e below A0 (T8.setTop (mkF m 15 #[.val (.ref a), .val (.int q1), .val (.int v5)] [(.int ((own_freq q1 w1) + (1 : Int32))), (.int (15 : Int32)), (.ref a)])) := fun t k => P9 t (by
    show Steps p.tables e below (T8.setTop (mkF m 13 #[.val (.ref a), .val (.int q1), .val (.int v5)] [(.int (own_freq q1 w1)), (.int (15 : Int32)), (.ref a)])) _
    refine XS.iconst X8.here hx rfl (hb hby d4_13) ?_
    show Steps p.tables e below (T8.setTop (mkF m 14 #[.val (.ref a), .val (.int q1), .val (.int v5)] [(.int (1 : Int32)), (.int (own_freq q1 w1)), (.int (15 : Int32)), (.ref a)])) _
    refine XS.iadd X8.here hx rfl (hb hby d4_14) rfl ?_
    exact k)
  obtain ⟨_, _, ⟨T11, L11, k11, n11⟩, -, X11, ⟨Lc11, hQ11, l11, y11, z11⟩, st11⟩ := Jvm.LawKit.callS X8 hx (y := (⟨"java/lang/Math", "min", "(II)I"⟩ : MethodName)) hown (mvT hZ (hw _ (List.mem_of_getElem? (i := 37) rfl))) (mvT hZ (hw _ (List.mem_of_getElem? (i := 38) rfl))) (mvT hZ (hw _ (List.mem_of_getElem? (i := 39) rfl))) (mvT hZ (hw _ (List.mem_of_getElem? (i := 40) rfl))) (by decide) (backOf (W := 1) (rm7 l Z a0 hw [] (15 : Int32) ((own_freq q1 w1) + (1 : Int32)) h0 n0 Z0 ) hZ (hw _ (List.mem_of_getElem? (i := 40) rfl)) (hw _ (List.mem_of_getElem? (i := 39) rfl)) (by decide) (by decide)) (g := (mkF m 15 #[.val (.ref a), .val (.int q1), .val (.int v5)] [(.int ((own_freq q1 w1) + (1 : Int32))), (.int (15 : Int32)), (.ref a)])) rfl (by rw [hml]; rfl) (argsL := [(.int (15 : Int32)), (.int ((own_freq q1 w1) + (1 : Int32)))]) (rest := [(.ref a)]) (lenOf pd_2 rfl) rfl (by show 2 * 0 + _ ≤ _; exact Nat.le_of_eq rfl) (hb hby d4_15) (fun _ _ => ⟨rfl, e8, (by decide : (0 + 0 + 0) + 0 ≤ _), (by decide : (0 + 0 + 0) + 0 ≤ _)⟩)
  dsimp only [Pt.U, Pt.locs, Pt.cells, Pt.slots] at X11 l11 y11 z11 st11 hQ11
  subst l11 y11 z11
  obtain ⟨rfl, N11q, e11⟩ := hQ11
  have N11 := Fr.app N8 N11q
  have P12 : own_Rch p.tables e below A0 (T11.setTop (mkF m 18 #[.val (.ref a), .val (.int q1), .val (.int v5)] [(.int (own_min (15 : Int32) ((own_freq q1 w1) + (1 : Int32)))), (.ref a)])) := fun t k => P10 t (st11 t k)
  have P13 : own_Rch p.tables e below A0 (T11.setTop (mkF m 19 #[.val (.ref a), .val (.int q1), .val (.int v5)] [(.int q1), (.int (own_min (15 : Int32) ((own_freq q1 w1) + (1 : Int32)))), (.ref a)])) := fun t k => P12 t (by
    show Steps p.tables e below (T11.setTop (mkF m 18 #[.val (.ref a), .val (.int q1), .val (.int v5)] [(.int (own_min (15 : Int32) ((own_freq q1 w1) + (1 : Int32)))), (.ref a)])) _
    refine XS.iloadN X11.here hx rfl (hb hby d4_18) rfl ?_
    exact k)
  obtain ⟨cq14, kq14, q14a, q14b, q14c⟩ := isOf hZ e11 E_a
  obtain ⟨_, _, ⟨T14, L14, k14, n14⟩, -, X14, ⟨Lc14, hQ14, l14, y14, z14⟩, st14⟩ := X11.virtualBack hx (y := (⟨"com/example/tinyward/tinyward/Node", "startFrequency", "(II)V"⟩ : MethodName)) (z := (⟨"com/example/tinyward/tinyward/Node", "startFrequency", "(II)V"⟩ : MethodName)) hown (mvT hZ (hw _ (List.mem_of_getElem? (i := 41) rfl))) (mvT hZ (hw _ (List.mem_of_getElem? (i := 16) rfl))) (notFace_of_selects (args := #[]) (mvT hZ (hw _ (List.mem_of_getElem? (i := 18) rfl)))) (mvT hZ (hw _ (List.mem_of_getElem? (i := 18) rfl))) (mvT hZ (hw _ (List.mem_of_getElem? (i := 17) rfl))) (by decide) (backOf (W := 0) (rm3 l Z a0 hw [] a (own_min (15 : Int32) ((own_freq q1 w1) + (1 : Int32))) q1 w1 h0 n0 Z0 E_a F_a g_a) hZ (hw _ (List.mem_of_getElem? (i := 19) rfl)) (hw _ (List.mem_of_getElem? (i := 2) rfl)) (by decide) (by decide)) q14a q14c (g := (mkF m 19 #[.val (.ref a), .val (.int q1), .val (.int v5)] [(.int q1), (.int (own_min (15 : Int32) ((own_freq q1 w1) + (1 : Int32)))), (.ref a)])) rfl (by rw [hml]; rfl) (Steps.refl _) (argsL := [(.int (own_min (15 : Int32) ((own_freq q1 w1) + (1 : Int32)))), (.int q1)]) (rest := []) (lenOf pd_3 rfl) rfl (by show 2 * 0 + _ ≤ _; exact Nat.le_of_eq rfl) (hb hby d4_19) (fun _ _ => ⟨rfl, e11, (by decide : (0 + 0 + 0 + 0) + 0 ≤ _), (by decide : (0 + 0 + 0 + 0) + 0 ≤ _)⟩)
  dsimp only [Pt.U, Pt.locs, Pt.cells, Pt.slots] at X14 l14 y14 z14 st14 hQ14
  subst l14 y14 z14
  obtain ⟨rfl, N14q, K14q, E14q, F14q0⟩ := hQ14
  have N14 := Fr.app N11 N14q
  have Z_15 : n0 ≤ T14.heap.size := Nat.le_trans Z0 K14q.1
  have E_16 : Exa Z T14.heap a "com/example/tinyward/tinyward/Node" := E_a.keep K14q
  have K_17 : Keep h0 T14.heap [a] := K0.trans K14q (allS (Or.inl (List.mem_of_getElem? (i := 0) rfl)) all0)
  have P18 : own_Rch p.tables e below A0 (T14.setTop (mkF m 22 #[.val (.ref a), .val (.int q1), .val (.int v5)] [])) := fun t k => P13 t (st14.trans k)
  have P19 : own_Rch p.tables e below A0 (T14.setTop (mkF m 24 #[.val (.ref a), .val (.int q1), .val (.int v5)] [(.ref a), (.ref a)])) := fun t k => P18 t (by
    show Steps p.tables e below (T14.setTop (mkF m 22 #[.val (.ref a), .val (.int q1), .val (.int v5)] [])) _
    refine XS.aloadN X14.here hx rfl (hb hby d4_22) rfl rfl ?_
    show Steps p.tables e below (T14.setTop (mkF m 23 #[.val (.ref a), .val (.int q1), .val (.int v5)] [(.ref a)])) _
    refine XS.dup X14.here hx rfl (hb hby d4_23) rfl rfl ?_
    exact k)
  obtain ⟨T20, X20, e20, st20⟩ := getF X14 hx hZ hown (host := "") (Or.inl (hw _ (List.mem_of_getElem? (i := 20) rfl))) Via.refl rfl F14q0 (g := (mkF m 24 #[.val (.ref a), .val (.int q1), .val (.int v5)] [(.ref a), (.ref a)])) rfl rfl (hb hby d4_24)
  have P21 : own_Rch p.tables e below A0 (T20.setTop (mkF m 27 #[.val (.ref a), .val (.int q1), .val (.int v5)] [(.int ((q1 <<< ((5 : Int32) &&& 31)) ||| (own_min (15 : Int32) ((own_freq q1 w1) + (1 : Int32))))), (.ref a)])) := fun t k => P19 t (st20 t k)
  have P22 : own_Rch p.tables e below A0 (T20.setTop (mkF m 30 #[.val (.ref a), .val (.int q1), .val (.int v5)] [(.int (((q1 <<< ((5 : Int32) &&& 31)) ||| (own_min (15 : Int32) ((own_freq q1 w1) + (1 : Int32)))) ||| (16 : Int32))), (.ref a)])) := fun t k => P21 t (by
    show Steps p.tables e below (T20.setTop (mkF m 27 #[.val (.ref a), .val (.int q1), .val (.int v5)] [(.int ((q1 <<< ((5 : Int32) &&& 31)) ||| (own_min (15 : Int32) ((own_freq q1 w1) + (1 : Int32))))), (.ref a)])) _
    refine XS.bipush X20.here hx rfl (hb hby d4_27) ?_
    show Steps p.tables e below (T20.setTop (mkF m 29 #[.val (.ref a), .val (.int q1), .val (.int v5)] [(.int (16 : Int32)), (.int ((q1 <<< ((5 : Int32) &&& 31)) ||| (own_min (15 : Int32) ((own_freq q1 w1) + (1 : Int32))))), (.ref a)])) _
    refine XS.ior X20.here hx rfl (hb hby d4_29) rfl ?_
    exact k)
  obtain ⟨T23, h23, X23, e23, W23, st23⟩ := putF X20 hx hZ hown (host := "") (Or.inl (hw _ (List.mem_of_getElem? (i := 20) rfl))) Via.refl e20 F14q0 E_16 (Or.inl (hw _ (List.mem_of_getElem? (i := 21) rfl))) (hw _ (List.mem_of_getElem? (i := 1) rfl)) (ty := .int) (by decide) rfl rfl (g := (mkF m 30 #[.val (.ref a), .val (.int q1), .val (.int v5)] [(.int (((q1 <<< ((5 : Int32) &&& 31)) ||| (own_min (15 : Int32) ((own_freq q1 w1) + (1 : Int32)))) ||| (16 : Int32))), (.ref a)])) rfl rfl (hb hby d4_30)
  have N23 := Fr.snoc X23 N14 g_a
  have Z_24 : n0 ≤ h23.size := Nat.le_trans Z_15 (Keep.of_wr W23).1
  have E_25 : Exa Z h23 a "com/example/tinyward/tinyward/Node" := E_16.wr W23
  have K_26 : Keep h0 h23 [a] := K_17.wr W23 (Or.inl (List.mem_of_getElem? (i := 0) rfl))
  have F_27 : Fld Z h23 a "com/example/tinyward/tinyward/Node" "frequency" "I" (.int (((q1 <<< ((5 : Int32) &&& 31)) ||| (own_min (15 : Int32) ((own_freq q1 w1) + (1 : Int32)))) ||| (16 : Int32))) := F14q0.same W23
  have P28 : own_Rch p.tables e below A0 (T23.setTop (mkF m 33 #[.val (.ref a), .val (.int q1), .val (.int v5)] [])) := fun t k => P22 t (st23 t k)
  have P29 : own_Rch p.tables e below A0 (T23.setTop (mkF m 34 #[.val (.ref a), .val (.int q1), .val (.int v5)] [(.int v5)])) := fun t k => P28 t (by
    show Steps p.tables e below (T23.setTop (mkF m 33 #[.val (.ref a), .val (.int q1), .val (.int v5)] [])) _
    refine XS.iloadN X23.here hx rfl (hb hby d4_33) rfl ?_
    exact k)
  obtain ⟨fs, hr, hrun, hended, hW, hsame⟩ := X23.leave (v := some (.int (nar .boolean v5))) (fun h => by rw [Bd.returns] at h; cases h)
  refine ⟨_, _, P00 _ (P29 _ ?_), hrun, hended, _, _, rfl, ?_, ⟨_, rfl⟩, hW, hsame.mono (by decide) (by decide)⟩
  · exact retN X23 hx (t := .boolean) Bd.returns (by simp) (hb hby d4_34) hr
  · show Q4 Z a q1 w1 h0 n0 _ T23.heap _
    rw [e23]
    refine ⟨?_, N23, K_26, E_25, F_27⟩
    subst hv5
    rfl
theorem d8_0 : decode method_2_code 0 = .ok (.iload_n 1, 1) := by decide +kernel
theorem d8_1 : decode method_2_code 1 = .ok (.ifCond .ne 5, 3) := by decide +kernel
theorem d8_4 : decode method_2_code 4 = .ok (.iload_n 0, 1) := by decide +kernel
theorem d8_5 : decode method_2_code 5 = .ok (.ireturn, 1) := by decide +kernel
theorem d8_6 : decode method_2_code 6 = .ok (.iload_n 1, 1) := by decide +kernel
theorem d8_7 : decode method_2_code 7 = .ok (.iconst 1, 1) := by decide +kernel
theorem d8_8 : decode method_2_code 8 = .ok (.if_icmp .ne 7, 3) := by decide +kernel
theorem d8_11 : decode method_2_code 11 = .ok (.iload_n 0, 1) := by decide +kernel
theorem d8_12 : decode method_2_code 12 = .ok (.iconst 2, 1) := by decide +kernel
theorem d8_13 : decode method_2_code 13 = .ok (.idiv, 1) := by decide +kernel
theorem d8_14 : decode method_2_code 14 = .ok (.ireturn, 1) := by decide +kernel
theorem d8_15 : decode method_2_code 15 = .ok (.iload_n 1, 1) := by decide +kernel
theorem d8_16 : decode method_2_code 16 = .ok (.iconst 2, 1) := by decide +kernel
theorem d8_17 : decode method_2_code 17 = .ok (.if_icmp .ne 7, 3) := by decide +kernel
theorem d8_20 : decode method_2_code 20 = .ok (.iload_n 0, 1) := by decide +kernel
theorem d8_21 : decode method_2_code 21 = .ok (.iconst 4, 1) := by decide +kernel
theorem d8_22 : decode method_2_code 22 = .ok (.idiv, 1) := by decide +kernel
theorem d8_23 : decode method_2_code 23 = .ok (.ireturn, 1) := by decide +kernel
theorem d8_24 : decode method_2_code 24 = .ok (.iload_n 1, 1) := by decide +kernel
theorem d8_25 : decode method_2_code 25 = .ok (.iconst 3, 1) := by decide +kernel
theorem d8_26 : decode method_2_code 26 = .ok (.if_icmp .ne 8, 3) := by decide +kernel
theorem d8_29 : decode method_2_code 29 = .ok (.iload_n 0, 1) := by decide +kernel
theorem d8_30 : decode method_2_code 30 = .ok (.bipush 8, 2) := by decide +kernel
theorem d8_32 : decode method_2_code 32 = .ok (.idiv, 1) := by decide +kernel
theorem d8_33 : decode method_2_code 33 = .ok (.ireturn, 1) := by decide +kernel
theorem d8_34 : decode method_2_code 34 = .ok (.iconst 0, 1) := by decide +kernel
theorem d8_35 : decode method_2_code 35 = .ok (.ireturn, 1) := by decide +kernel
def own_half (q1 : Int32) (q2 : Int32) : Int32 := (if q2 = (0 : Int32) then q1 else (if q2 = (1 : Int32) then (q1 / (2 : Int32)) else (if q2 = (2 : Int32) then (q1 / (4 : Int32)) else (if q2 = (3 : Int32) then (q1 / (8 : Int32)) else (0 : Int32)))))
theorem pn_1 : plainName "com/example/tinyward/tinyward/NodeFrequencyPinLaw" = true := by first | (simp [plainName, overriddenIn]; done) | decide +kernel
theorem ef_8 (m : MethodId) (q1 : Int32) (q2 : Int32) : entryFrame m #[(.int q1), (.int q2)] 2 = mkF m 0 #[.val (.int q1), .val (.int q2)] [] := by first | (simp [entryFrame, mkF, argsToLocals, Value.category]; done) | rfl
def Q8 (Z : State) (q1 : Int32) (q2 : Int32) (h0 : Heap) (n0 : Nat) (v : Option Value) (h : Heap) (L : List Loc) : Prop := v = some (.int (own_half q1 q2)) ∧ Fr n0 L ∧ h = h0
set_option maxRecDepth 65536 in
set_option maxHeartbeats 40000000 in
theorem rm8 (l : Launch) (Z : State) (a0 : Array Value) (hw : ∀ d ∈ tables_1, d.before a0 Z = true) (ws : List Jvm.Cond) (q1 : Int32) (q2 : Int32) (h0 : Heap) (n0 : Nat) (Z0 : n0 ≤ h0.size) :
    MetFree l (⟨"com/example/tinyward/tinyward/NodeFrequencyPinLaw", "halved", "(II)I"⟩ : MethodName) (head1 (Jvm.Cond.code (⟨"com/example/tinyward/tinyward/NodeFrequencyPinLaw", "halved", "(II)I"⟩ : MethodName) method_2_code 2 (some .int) :: ws) ({ frames := 0, cells := 0, slots := 0, locals := 0 } : Room)) (fun a' U => a' = #[(.int q1), (.int q2)] ∧ Z.Warmed39 U.vm ∧ U.heap = h0) (fun _ _ _ _ _ => True) (fun _ U o U' => ∃ v L, o = .returned v ∧ Q8 Z q1 q2 h0 n0 v U'.heap L ∧ FrameEnd U o U' L ({ frames := 0, cells := 0, slots := 0, locals := 0 } : Room).cells ({ frames := 0, cells := 0, slots := 0, locals := 0 } : Room).slots) := by
  refine MetFree.of_bodySF (plainFor_of_name pn_1) hisR ?_
  intro p e s m args' below meth c s₁ Bd hml0 hP hK
  obtain ⟨hargs, hZ, hh⟩ := hP
  have hx := Bd.exec
  have hby := Bd.bytes
  have hml : c.maxLocals = 2 := hml0
  have hown : s.vm.findClass "com/example/tinyward/tinyward/NodeFrequencyPinLaw" = some m.cls := findClass_of_methodNamed Bd.named
  have hnm := (name_of_methodNamed Bd.named Bd.method).1
  have X0 : Stand p l e ({ frames := 0, cells := 0, slots := 0, locals := 0 } : Room) s m args' below meth c s₁ [] 0 0 := Stand.of_body Bd
  have e0 : s₁.heap = h0 := by rw [← hh, Bd.state]; rfl
  have N0 := Fr.nil n0
  obtain ⟨A0, hA0⟩ : ∃ A, A = s₁.setTop (mkF m 0 #[.val (.int q1), .val (.int q2)] []) := ⟨_, rfl⟩
  have P0 : own_Rch p.tables e below A0 (s₁.setTop (mkF m 0 #[.val (.int q1), .val (.int q2)] [])) := fun t k => hA0 ▸ k
  have P00 : own_Rch p.tables e below (s₁.setTop (entryFrame m args' 2)) A0 := fun t k => by rw [hargs]; exact castTop (ef_8 m q1 q2) (hA0 ▸ k)
  have P2 : own_Rch p.tables e below A0 (s₁.setTop (mkF m 1 #[.val (.int q1), .val (.int q2)] [(.int q2)])) := fun t k => P0 t (by
    show Steps p.tables e below (s₁.setTop (mkF m 0 #[.val (.int q1), .val (.int q2)] [])) _
    refine XS.iloadN X0.here hx rfl (hb hby d8_0) rfl ?_
    exact k)
  by_cases hc1 : q2 = (0 : Int32)
  · -- q2 = (0 : Int32)
    have P3 : own_Rch p.tables e below A0 (s₁.setTop (mkF m 5 #[.val (.int q1), .val (.int q2)] [(.int q1)])) := fun t k => P2 t (by
      show Steps p.tables e below (s₁.setTop (mkF m 1 #[.val (.int q1), .val (.int q2)] [(.int q2)])) _
      refine XS.ifNo X0.here hx rfl (hb hby d8_1) rfl ((if0 _ _).trans (teq hc1).2) ?_
      show Steps p.tables e below (s₁.setTop (mkF m 4 #[.val (.int q1), .val (.int q2)] [])) _
      refine XS.iloadN X0.here hx rfl (hb hby d8_4) rfl ?_
      exact k)
    obtain ⟨fs, hr, hrun, hended, hW, hsame⟩ := X0.leave (v := some (.int q1)) (fun h => by rw [Bd.returns] at h; cases h)
    refine ⟨_, _, P00 _ (P3 _ ?_), hrun, hended, _, _, rfl, ?_, ⟨_, rfl⟩, hW, hsame.mono (by decide) (by decide)⟩
    · exact retOut X0 hx (t := .int) Bd.returns rfl (Or.inl ⟨rfl, Or.inl rfl, _, rfl⟩) (hb hby d8_5) hr
    · show Q8 Z q1 q2 h0 n0 _ s₁.heap _
      rw [e0]
      refine ⟨?_, N0, rfl⟩
      skip
      (try simp only [own_half, if_pos hc1])
      (try rfl)
  · -- not q2 = (0 : Int32)
    have P5 : own_Rch p.tables e below A0 (s₁.setTop (mkF m 8 #[.val (.int q1), .val (.int q2)] [(.int (1 : Int32)), (.int q2)])) := fun t k => P2 t (by
      show Steps p.tables e below (s₁.setTop (mkF m 1 #[.val (.int q1), .val (.int q2)] [(.int q2)])) _
      refine XS.ifYes X0.here hx rfl (pc0 := 1) (pc' := 6) rfl (hb hby d8_1) rfl ((if0 _ _).trans (feq hc1).2) (by decide) (by decide) ?_
      show Steps p.tables e below (s₁.setTop (mkF m 6 #[.val (.int q1), .val (.int q2)] [])) _
      refine XS.iloadN X0.here hx rfl (hb hby d8_6) rfl ?_
      show Steps p.tables e below (s₁.setTop (mkF m 7 #[.val (.int q1), .val (.int q2)] [(.int q2)])) _
      refine XS.iconst X0.here hx rfl (hb hby d8_7) ?_
      exact k)
    by_cases hc4 : q2 = (1 : Int32)
    · -- q2 = (1 : Int32)
      have P6 : own_Rch p.tables e below A0 (s₁.setTop (mkF m 14 #[.val (.int q1), .val (.int q2)] [(.int (q1 / (2 : Int32)))])) := fun t k => P5 t (by
        show Steps p.tables e below (s₁.setTop (mkF m 8 #[.val (.int q1), .val (.int q2)] [(.int (1 : Int32)), (.int q2)])) _
        refine XS.icmpNo X0.here hx rfl (hb hby d8_8) rfl (teq hc4).2 ?_
        show Steps p.tables e below (s₁.setTop (mkF m 11 #[.val (.int q1), .val (.int q2)] [])) _
        refine XS.iloadN X0.here hx rfl (hb hby d8_11) rfl ?_
        show Steps p.tables e below (s₁.setTop (mkF m 12 #[.val (.int q1), .val (.int q2)] [(.int q1)])) _
        refine XS.iconst X0.here hx rfl (hb hby d8_12) ?_
        show Steps p.tables e below (s₁.setTop (mkF m 13 #[.val (.int q1), .val (.int q2)] [(.int (2 : Int32)), (.int q1)])) _
        refine XS.idiv X0.here hx rfl (hb hby d8_13) rfl (by decide) ?_
        exact k)
      obtain ⟨fs, hr, hrun, hended, hW, hsame⟩ := X0.leave (v := some (.int (q1 / (2 : Int32)))) (fun h => by rw [Bd.returns] at h; cases h)
      refine ⟨_, _, P00 _ (P6 _ ?_), hrun, hended, _, _, rfl, ?_, ⟨_, rfl⟩, hW, hsame.mono (by decide) (by decide)⟩
      · exact retOut X0 hx (t := .int) Bd.returns rfl (Or.inl ⟨rfl, Or.inl rfl, _, rfl⟩) (hb hby d8_14) hr
      · show Q8 Z q1 q2 h0 n0 _ s₁.heap _
        rw [e0]
        refine ⟨?_, N0, rfl⟩
        skip
        (try simp only [own_half, if_neg hc1, if_pos hc4])
        (try rfl)
    · -- not q2 = (1 : Int32)
      have P8 : own_Rch p.tables e below A0 (s₁.setTop (mkF m 17 #[.val (.int q1), .val (.int q2)] [(.int (2 : Int32)), (.int q2)])) := fun t k => P5 t (by
        show Steps p.tables e below (s₁.setTop (mkF m 8 #[.val (.int q1), .val (.int q2)] [(.int (1 : Int32)), (.int q2)])) _
        refine XS.icmpYes X0.here hx rfl (pc0 := 8) (pc' := 15) rfl (hb hby d8_8) rfl (feq hc4).2 (by decide) (by decide) ?_
        show Steps p.tables e below (s₁.setTop (mkF m 15 #[.val (.int q1), .val (.int q2)] [])) _
        refine XS.iloadN X0.here hx rfl (hb hby d8_15) rfl ?_
        show Steps p.tables e below (s₁.setTop (mkF m 16 #[.val (.int q1), .val (.int q2)] [(.int q2)])) _
        refine XS.iconst X0.here hx rfl (hb hby d8_16) ?_
        exact k)
      by_cases hc7 : q2 = (2 : Int32)
      · -- q2 = (2 : Int32)
        have P9 : own_Rch p.tables e below A0 (s₁.setTop (mkF m 23 #[.val (.int q1), .val (.int q2)] [(.int (q1 / (4 : Int32)))])) := fun t k => P8 t (by
          show Steps p.tables e below (s₁.setTop (mkF m 17 #[.val (.int q1), .val (.int q2)] [(.int (2 : Int32)), (.int q2)])) _
          refine XS.icmpNo X0.here hx rfl (hb hby d8_17) rfl (teq hc7).2 ?_
          show Steps p.tables e below (s₁.setTop (mkF m 20 #[.val (.int q1), .val (.int q2)] [])) _
          refine XS.iloadN X0.here hx rfl (hb hby d8_20) rfl ?_
          show Steps p.tables e below (s₁.setTop (mkF m 21 #[.val (.int q1), .val (.int q2)] [(.int q1)])) _
          refine XS.iconst X0.here hx rfl (hb hby d8_21) ?_
          show Steps p.tables e below (s₁.setTop (mkF m 22 #[.val (.int q1), .val (.int q2)] [(.int (4 : Int32)), (.int q1)])) _
          refine XS.idiv X0.here hx rfl (hb hby d8_22) rfl (by decide) ?_
          exact k)
        obtain ⟨fs, hr, hrun, hended, hW, hsame⟩ := X0.leave (v := some (.int (q1 / (4 : Int32)))) (fun h => by rw [Bd.returns] at h; cases h)
        refine ⟨_, _, P00 _ (P9 _ ?_), hrun, hended, _, _, rfl, ?_, ⟨_, rfl⟩, hW, hsame.mono (by decide) (by decide)⟩
        · exact retOut X0 hx (t := .int) Bd.returns rfl (Or.inl ⟨rfl, Or.inl rfl, _, rfl⟩) (hb hby d8_23) hr
        · show Q8 Z q1 q2 h0 n0 _ s₁.heap _
          rw [e0]
          refine ⟨?_, N0, rfl⟩
          skip
          (try simp only [own_half, if_neg hc1, if_neg hc4, if_pos hc7])
          (try rfl)
      · -- not q2 = (2 : Int32)
        have P11 : own_Rch p.tables e below A0 (s₁.setTop (mkF m 26 #[.val (.int q1), .val (.int q2)] [(.int (3 : Int32)), (.int q2)])) := fun t k => P8 t (by
          show Steps p.tables e below (s₁.setTop (mkF m 17 #[.val (.int q1), .val (.int q2)] [(.int (2 : Int32)), (.int q2)])) _
          refine XS.icmpYes X0.here hx rfl (pc0 := 17) (pc' := 24) rfl (hb hby d8_17) rfl (feq hc7).2 (by decide) (by decide) ?_
          show Steps p.tables e below (s₁.setTop (mkF m 24 #[.val (.int q1), .val (.int q2)] [])) _
          refine XS.iloadN X0.here hx rfl (hb hby d8_24) rfl ?_
          show Steps p.tables e below (s₁.setTop (mkF m 25 #[.val (.int q1), .val (.int q2)] [(.int q2)])) _
          refine XS.iconst X0.here hx rfl (hb hby d8_25) ?_
          exact k)
        by_cases hc10 : q2 = (3 : Int32)
        · -- q2 = (3 : Int32)
          have P12 : own_Rch p.tables e below A0 (s₁.setTop (mkF m 33 #[.val (.int q1), .val (.int q2)] [(.int (q1 / (8 : Int32)))])) := fun t k => P11 t (by
            show Steps p.tables e below (s₁.setTop (mkF m 26 #[.val (.int q1), .val (.int q2)] [(.int (3 : Int32)), (.int q2)])) _
            refine XS.icmpNo X0.here hx rfl (hb hby d8_26) rfl (teq hc10).2 ?_
            show Steps p.tables e below (s₁.setTop (mkF m 29 #[.val (.int q1), .val (.int q2)] [])) _
            refine XS.iloadN X0.here hx rfl (hb hby d8_29) rfl ?_
            show Steps p.tables e below (s₁.setTop (mkF m 30 #[.val (.int q1), .val (.int q2)] [(.int q1)])) _
            refine XS.bipush X0.here hx rfl (hb hby d8_30) ?_
            show Steps p.tables e below (s₁.setTop (mkF m 32 #[.val (.int q1), .val (.int q2)] [(.int (8 : Int32)), (.int q1)])) _
            refine XS.idiv X0.here hx rfl (hb hby d8_32) rfl (by decide) ?_
            exact k)
          obtain ⟨fs, hr, hrun, hended, hW, hsame⟩ := X0.leave (v := some (.int (q1 / (8 : Int32)))) (fun h => by rw [Bd.returns] at h; cases h)
          refine ⟨_, _, P00 _ (P12 _ ?_), hrun, hended, _, _, rfl, ?_, ⟨_, rfl⟩, hW, hsame.mono (by decide) (by decide)⟩
          · exact retOut X0 hx (t := .int) Bd.returns rfl (Or.inl ⟨rfl, Or.inl rfl, _, rfl⟩) (hb hby d8_33) hr
          · show Q8 Z q1 q2 h0 n0 _ s₁.heap _
            rw [e0]
            refine ⟨?_, N0, rfl⟩
            skip
            (try simp only [own_half, if_neg hc1, if_neg hc4, if_neg hc7, if_pos hc10])
            (try rfl)
        · -- not q2 = (3 : Int32)
          have P13 : own_Rch p.tables e below A0 (s₁.setTop (mkF m 35 #[.val (.int q1), .val (.int q2)] [(.int (0 : Int32))])) := fun t k => P11 t (by
            show Steps p.tables e below (s₁.setTop (mkF m 26 #[.val (.int q1), .val (.int q2)] [(.int (3 : Int32)), (.int q2)])) _
            refine XS.icmpYes X0.here hx rfl (pc0 := 26) (pc' := 34) rfl (hb hby d8_26) rfl (feq hc10).2 (by decide) (by decide) ?_
            show Steps p.tables e below (s₁.setTop (mkF m 34 #[.val (.int q1), .val (.int q2)] [])) _
            refine XS.iconst X0.here hx rfl (hb hby d8_34) ?_
            exact k)
          obtain ⟨fs, hr, hrun, hended, hW, hsame⟩ := X0.leave (v := some (.int (0 : Int32))) (fun h => by rw [Bd.returns] at h; cases h)
          refine ⟨_, _, P00 _ (P13 _ ?_), hrun, hended, _, _, rfl, ?_, ⟨_, rfl⟩, hW, hsame.mono (by decide) (by decide)⟩
          · exact retOut X0 hx (t := .int) Bd.returns rfl (Or.inl ⟨rfl, Or.inl rfl, _, rfl⟩) (hb hby d8_35) hr
          · show Q8 Z q1 q2 h0 n0 _ s₁.heap _
            rw [e0]
            refine ⟨?_, N0, rfl⟩
            skip
            (try simp only [own_half, if_neg hc1, if_neg hc4, if_neg hc7, if_neg hc10])
            (try rfl)
/-- the age -/
theorem own_age (e d M : BitVec 32) (hM : M.toNat < 32) : (((e + d) - (((e <<< 5) ||| M) >>> 5)) <<< 5) >>> 5 = d &&& 134217727#32 := by
  have h1 : ((e <<< 5) ||| M).toNat = (e.toNat % 2^27) * 32 + M.toNat := by
    rw [BitVec.toNat_or, BitVec.toNat_shiftLeft]
    have : e.toNat <<< 5 % 2^32 = (e.toNat % 2^27) <<< 5 := by simp only [Nat.shiftLeft_eq]; omega
    rw [this, ← Nat.shiftLeft_add_eq_or_of_lt (by omega), Nat.shiftLeft_eq]
  apply BitVec.eq_of_toNat_eq
  rw [BitVec.toNat_ushiftRight, BitVec.toNat_shiftLeft, BitVec.toNat_sub, BitVec.toNat_ushiftRight, h1, BitVec.toNat_add, BitVec.toNat_and]
  have h2 : d.toNat &&& (134217727#32).toNat = d.toNat % 2^27 := Nat.and_two_pow_sub_one_eq_mod d.toNat 27
  rw [h2, Nat.shiftRight_eq_div_pow, Nat.shiftRight_eq_div_pow, Nat.shiftLeft_eq]
  omega
theorem own_low (e M : BitVec 32) (hM : M.toNat < 32) : ((e <<< 5) ||| M) &&& 15#32 = M &&& 15#32 := by
  have h1 : ((e <<< 5) ||| M).toNat = (e.toNat % 2^27) * 32 + M.toNat := by
    rw [BitVec.toNat_or, BitVec.toNat_shiftLeft]
    have : e.toNat <<< 5 % 2^32 = (e.toNat % 2^27) <<< 5 := by simp only [Nat.shiftLeft_eq]; omega
    rw [this, ← Nat.shiftLeft_add_eq_or_of_lt (by omega), Nat.shiftLeft_eq]
  apply BitVec.eq_of_toNat_eq
  rw [BitVec.toNat_and, BitVec.toNat_and, h1]
  have h2 : ∀ n : Nat, n &&& (15#32).toNat = n % 2^4 := fun n => Nat.and_two_pow_sub_one_eq_mod n 4
  rw [h2, h2]; omega
theorem own_shl5 (e : Int32) : (e <<< ((5 : Int32) &&& 31)).toBitVec = e.toBitVec <<< 5 := rfl
theorem own_shr5 (e : Int32) : ((e.toUInt32 >>> ((5 : Int32) &&& 31).toUInt32).toInt32).toBitVec = e.toBitVec >>> 5 := rfl
theorem own_main (e d M : Int32) (hM : M.toBitVec.toNat < 32) : own_freq (e + d) ((e <<< ((5 : Int32) &&& 31)) ||| M) = own_half (M &&& 15) (d &&& 134217727) := by
  have hA : (((((e + d) - (((((e <<< ((5 : Int32) &&& 31)) ||| M)).toUInt32 >>> ((5 : Int32) &&& 31).toUInt32).toInt32)) <<< ((5 : Int32) &&& 31)).toUInt32 >>> ((5 : Int32) &&& 31).toUInt32).toInt32) = d &&& 134217727 := by
    apply Int32.toBitVec_inj.mp
    rw [own_shr5, own_shl5, Int32.toBitVec_sub, own_shr5, Int32.toBitVec_or, own_shl5, Int32.toBitVec_add, Int32.toBitVec_and]
    exact own_age e.toBitVec d.toBitVec M.toBitVec hM
  have hL : ((e <<< ((5 : Int32) &&& 31)) ||| M) &&& 15 = M &&& 15 := by
    apply Int32.toBitVec_inj.mp
    rw [Int32.toBitVec_and, Int32.toBitVec_or, own_shl5, Int32.toBitVec_and]
    exact own_low e.toBitVec M.toBitVec hM
  simp only [own_freq, hA, hL]
  obtain ⟨n, hn, eA⟩ : ∃ n : Nat, n < 2^27 ∧ d &&& 134217727 = Int32.ofNat n := by
    refine ⟨(d &&& 134217727).toBitVec.toNat, ?_, ?_⟩
    · rw [Int32.toBitVec_and, BitVec.toNat_and]
      exact Nat.lt_of_le_of_lt Nat.and_le_right (by decide)
    · apply Int32.toBitVec_inj.mp; simp
  obtain ⟨m, hm, eM⟩ : ∃ m : Nat, m < 16 ∧ M &&& 15 = Int32.ofNat m := by
    refine ⟨(M &&& 15).toBitVec.toNat, ?_, ?_⟩
    · rw [Int32.toBitVec_and, BitVec.toNat_and]
      exact Nat.lt_of_le_of_lt Nat.and_le_right (by decide)
    · apply Int32.toBitVec_inj.mp; simp
  rw [eA, eM]
  have e1 : (Int32.ofNat n).toInt = n := Int32.toInt_ofNat_of_lt (by omega)
  by_cases q : n < 4
  · have small : ∀ (n : Fin 4) (m : Fin 16), (if Int32.ofNat n.val < 4 then ((Int32.ofNat m.val).toUInt32 >>> (Int32.ofNat n.val &&& 31).toUInt32).toInt32 else 0) = own_half (Int32.ofNat m.val) (Int32.ofNat n.val) := by decide
    exact small ⟨n, q⟩ ⟨m, hm⟩
  · have c : ¬ Int32.ofNat n < 4 := by rw [Int32.lt_iff_toInt_lt, e1]; show ¬ (n : Int) < 4; omega
    have d : ∀ k : Nat, k < 4 → ¬ Int32.ofNat n = Int32.ofNat k := fun k hk h => by
      have := congrArg Int32.toInt h
      rw [e1, Int32.toInt_ofNat_of_lt (by omega)] at this; omega
    rw [if_neg c, own_half, if_neg (show ¬ Int32.ofNat n = 0 from d 0 (by omega)), if_neg (show ¬ Int32.ofNat n = 1 from d 1 (by omega)), if_neg (show ¬ Int32.ofNat n = 2 from d 2 (by omega)), if_neg (show ¬ Int32.ofNat n = 3 from d 3 (by omega))]
theorem own_a (c e d : Int32) : own_freq (e + d) ((e <<< ((5 : Int32) &&& 31)) ||| (c &&& 15)) = own_half (c &&& 15) (d &&& 134217727) := by
  have h : (c &&& 15).toBitVec.toNat < 32 := by
    rw [Int32.toBitVec_and, BitVec.toNat_and]
    exact Nat.lt_of_le_of_lt Nat.and_le_right (by decide)
  rw [own_main e d (c &&& 15) h]
  congr 1
  rw [Int32.and_assoc]; rfl
theorem own_b (c e d : Int32) : own_freq (e + d) (((e <<< ((5 : Int32) &&& 31)) ||| own_min 15 (own_freq e ((e <<< ((5 : Int32) &&& 31)) ||| (c &&& 15)) + 1)) ||| 16) = own_half (own_min 15 ((c &&& 15) + 1)) (d &&& 134217727) := by
  have h0 := own_a c e 0
  have z : (0 : Int32) &&& 134217727 = 0 := by decide
  rw [Int32.add_zero, z] at h0
  have z2 : own_half (c &&& 15) 0 = c &&& 15 := by simp [own_half]
  rw [h0, z2, Int32.or_assoc]
  obtain ⟨m, hm, eM⟩ : ∃ m : Nat, m < 16 ∧ c &&& 15 = Int32.ofNat m := by
    refine ⟨(c &&& 15).toBitVec.toNat, ?_, ?_⟩
    · rw [Int32.toBitVec_and, BitVec.toNat_and]
      exact Nat.lt_of_le_of_lt Nat.and_le_right (by decide)
    · apply Int32.toBitVec_inj.mp; simp
  rw [eM]
  have small : ∀ m : Fin 16, (own_min 15 (Int32.ofNat m.val + 1) ||| 16).toBitVec.toNat < 32 ∧ (own_min 15 (Int32.ofNat m.val + 1) ||| 16) &&& 15 = own_min 15 (Int32.ofNat m.val + 1) := by decide
  obtain ⟨s1, s2⟩ := small ⟨m, hm⟩
  rw [own_main e d _ s1, s2]
theorem pd_4 : parseMethodDescriptor "(Ljava/lang/Object;Ljava/lang/Object;)V" = some ⟨[(.object "java/lang/Object"), (.object "java/lang/Object")], none⟩ := by decide +kernel
theorem pd_5 : parseMethodDescriptor "(I)Z" = some ⟨[.int], some .boolean⟩ := by decide +kernel
theorem ef_0 (m : MethodId) (i0 : Int32) (i1 : Int32) (i2 : Int32) (i3 : Int32) : entryFrame m #[(.int i0), (.int i1), (.int i2), (.int i3)] maxLocals = mkF m 0 #[.val (.int i0), .val (.int i1), .val (.int i2), .val (.int i3), .unset, .unset, .unset, .unset, .unset, .unset, .unset, .unset] [] := by first | (simp [entryFrame, mkF, argsToLocals, Value.category, maxLocals]; done) | rfl
def Q0 (Z : State) (i0 : Int32) (i1 : Int32) (i2 : Int32) (i3 : Int32) (h0 : Heap) (n0 : Nat) (v : Option Value) (h : Heap) (L : List Loc) : Prop := v = some (.int 1) ∧ Fr n0 L
set_option maxRecDepth 65536 in
set_option maxHeartbeats 40000000 in
theorem rm0 (l : Launch) (Z : State) (a0 : Array Value) (hw : ∀ d ∈ tables_1, d.before a0 Z = true) (ws : List Jvm.Cond) (i0 : Int32) (i1 : Int32) (i2 : Int32) (i3 : Int32) (h0 : Heap) (n0 : Nat) (Z0 : n0 ≤ h0.size) :
    MetFree l x (head1 (Jvm.Cond.code x code maxLocals ret :: ws) room_1) (fun a' U => a' = #[(.int i0), (.int i1), (.int i2), (.int i3)] ∧ Z.Warmed39 U.vm ∧ U.heap = h0) (fun _ _ _ _ _ => True) (fun _ U o U' => ∃ v L, o = .returned v ∧ Q0 Z i0 i1 i2 i3 h0 n0 v U'.heap L ∧ FrameEnd U o U' L 1 8) := by
  refine MetFree.of_bodySF (plainFor_of_name pn_1) hisR ?_
  intro p e s m args' below meth c s₁ Bd hml0 hP hK
  obtain ⟨hargs, hZ, hh⟩ := hP
  have hx := Bd.exec
  have hby := Bd.bytes
  have hml : c.maxLocals = 12 := hml0
  have hown : s.vm.findClass "com/example/tinyward/tinyward/NodeFrequencyPinLaw" = some m.cls := findClass_of_methodNamed Bd.named
  have hnm := (name_of_methodNamed Bd.named Bd.method).1
  have X0 : Stand p l e room_1 s m args' below meth c s₁ [] 0 0 := Stand.of_body Bd
  have e0 : s₁.heap = h0 := by rw [← hh, Bd.state]; rfl
  have N0 := Fr.nil n0
  obtain ⟨A0, hA0⟩ : ∃ A, A = s₁.setTop (mkF m 0 #[.val (.int i0), .val (.int i1), .val (.int i2), .val (.int i3), .unset, .unset, .unset, .unset, .unset, .unset, .unset, .unset] []) := ⟨_, rfl⟩
  have P0 : own_Rch p.tables e below A0 (s₁.setTop (mkF m 0 #[.val (.int i0), .val (.int i1), .val (.int i2), .val (.int i3), .unset, .unset, .unset, .unset, .unset, .unset, .unset, .unset] [])) := fun t k => hA0 ▸ k
  have P00 : own_Rch p.tables e below (s₁.setTop (entryFrame m args' maxLocals)) A0 := fun t k => by rw [hargs]; exact castTop (ef_0 m i0 i1 i2 i3) (hA0 ▸ k)
  have P1 : own_Rch p.tables e below A0 (s₁.setTop (mkF m 6 #[.val (.int i0), .val (.int i1), .val (.int i2), .val (.int i3), .val (.int (i0 &&& (15 : Int32))), .unset, .unset, .unset, .unset, .unset, .unset, .unset] [])) := fun t k => P0 t (by
    show Steps p.tables e below (s₁.setTop (mkF m 0 #[.val (.int i0), .val (.int i1), .val (.int i2), .val (.int i3), .unset, .unset, .unset, .unset, .unset, .unset, .unset, .unset] [])) _
    refine XS.iloadN X0.here hx rfl (hb hby at_0) rfl ?_
    show Steps p.tables e below (s₁.setTop (mkF m 1 #[.val (.int i0), .val (.int i1), .val (.int i2), .val (.int i3), .unset, .unset, .unset, .unset, .unset, .unset, .unset, .unset] [(.int i0)])) _
    refine XS.bipush X0.here hx rfl (hb hby at_1) ?_
    show Steps p.tables e below (s₁.setTop (mkF m 3 #[.val (.int i0), .val (.int i1), .val (.int i2), .val (.int i3), .unset, .unset, .unset, .unset, .unset, .unset, .unset, .unset] [(.int (15 : Int32)), (.int i0)])) _
    refine XS.iand X0.here hx rfl (hb hby at_3) rfl ?_
    show Steps p.tables e below (s₁.setTop (mkF m 4 #[.val (.int i0), .val (.int i1), .val (.int i2), .val (.int i3), .unset, .unset, .unset, .unset, .unset, .unset, .unset, .unset] [(.int (i0 &&& (15 : Int32)))])) _
    refine XS.istore X0.here hx rfl (hb hby at_4) rfl (l' := #[.val (.int i0), .val (.int i1), .val (.int i2), .val (.int i3), .val (.int (i0 &&& (15 : Int32))), .unset, .unset, .unset, .unset, .unset, .unset, .unset]) rfl ?_
    exact k)
  obtain ⟨v2, hv2, P3⟩ : ∃ z : Int32, z = (i0 &&& (15 : Int32)) ∧ own_Rch p.tables e below A0 (s₁.setTop (mkF m 6 #[.val (.int i0), .val (.int i1), .val (.int i2), .val (.int i3), .val (.int z), .unset, .unset, .unset, .unset, .unset, .unset, .unset] [])) := ⟨_, rfl, P1⟩
  have P5 : own_Rch p.tables e below A0 (s₁.setTop (mkF m 9 #[.val (.int i0), .val (.int i1), .val (.int i2), .val (.int i3), .val (.int v2), .unset, .unset, .unset, .unset, .unset, .unset, .unset] [(.int (i3 &&& (1 : Int32)))])) := fun t k => P3 t (by
    show Steps p.tables e below (s₁.setTop (mkF m 6 #[.val (.int i0), .val (.int i1), .val (.int i2), .val (.int i3), .val (.int v2), .unset, .unset, .unset, .unset, .unset, .unset, .unset] [])) _
    refine XS.iloadN X0.here hx rfl (hb hby at_6) rfl ?_
    show Steps p.tables e below (s₁.setTop (mkF m 7 #[.val (.int i0), .val (.int i1), .val (.int i2), .val (.int i3), .val (.int v2), .unset, .unset, .unset, .unset, .unset, .unset, .unset] [(.int i3)])) _
    refine XS.iconst X0.here hx rfl (hb hby at_7) ?_
    show Steps p.tables e below (s₁.setTop (mkF m 8 #[.val (.int i0), .val (.int i1), .val (.int i2), .val (.int i3), .val (.int v2), .unset, .unset, .unset, .unset, .unset, .unset, .unset] [(.int (1 : Int32)), (.int i3)])) _
    refine XS.iand X0.here hx rfl (hb hby at_8) rfl ?_
    exact k)
  obtain ⟨v7, hv7⟩ : ∃ z : Int32, z = (if (i3 &&& (1 : Int32)) = (0 : Int32) then (0 : Int32) else (1 : Int32)) := ⟨_, rfl⟩
  have P8 : own_Rch p.tables e below A0 (s₁.setTop (mkF m 17 #[.val (.int i0), .val (.int i1), .val (.int i2), .val (.int i3), .val (.int v2), .unset, .unset, .unset, .unset, .unset, .unset, .unset] [(.int v7)])) := fun t k => P5 t (by
    by_cases hc6 : (i3 &&& (1 : Int32)) = (0 : Int32)
    · show Steps p.tables e below (s₁.setTop (mkF m 9 #[.val (.int i0), .val (.int i1), .val (.int i2), .val (.int i3), .val (.int v2), .unset, .unset, .unset, .unset, .unset, .unset, .unset] [(.int (i3 &&& (1 : Int32)))])) _
      refine XS.ifYes X0.here hx rfl (pc0 := 9) (pc' := 16) rfl (hb hby at_9) rfl ((if0 _ _).trans (teq hc6).1) (by decide) (by decide) ?_
      have qv7 : v7 = (0 : Int32) := by rw [hv7]; simp only [if_pos hc6]
      rw [qv7] at k
      show Steps p.tables e below (s₁.setTop (mkF m 16 #[.val (.int i0), .val (.int i1), .val (.int i2), .val (.int i3), .val (.int v2), .unset, .unset, .unset, .unset, .unset, .unset, .unset] [])) _
      refine XS.iconst X0.here hx rfl (hb hby at_16) ?_
      exact k
    · show Steps p.tables e below (s₁.setTop (mkF m 9 #[.val (.int i0), .val (.int i1), .val (.int i2), .val (.int i3), .val (.int v2), .unset, .unset, .unset, .unset, .unset, .unset, .unset] [(.int (i3 &&& (1 : Int32)))])) _
      refine XS.ifNo X0.here hx rfl (hb hby at_9) rfl ((if0 _ _).trans (feq hc6).1) ?_
      have qv7 : v7 = (1 : Int32) := by rw [hv7]; simp only [if_neg hc6]
      rw [qv7] at k
      show Steps p.tables e below (s₁.setTop (mkF m 12 #[.val (.int i0), .val (.int i1), .val (.int i2), .val (.int i3), .val (.int v2), .unset, .unset, .unset, .unset, .unset, .unset, .unset] [])) _
      refine XS.iconst X0.here hx rfl (hb hby at_12) ?_
      show Steps p.tables e below (s₁.setTop (mkF m 13 #[.val (.int i0), .val (.int i1), .val (.int i2), .val (.int i3), .val (.int v2), .unset, .unset, .unset, .unset, .unset, .unset, .unset] [(.int (1 : Int32))])) _
      refine XS.goto X0.here hx rfl (pc0 := 13) (pc' := 17) rfl (hb hby at_13) (by decide) (by decide) ?_
      exact k)
  have P10 : own_Rch p.tables e below A0 (s₁.setTop (mkF m 22 #[.val (.int i0), .val (.int i1), .val (.int i2), .val (.int i3), .val (.int v2), .val (.int v7), .unset, .unset, .unset, .unset, .unset, .unset] [(.int (i3 &&& (2 : Int32)))])) := fun t k => P8 t (by
    show Steps p.tables e below (s₁.setTop (mkF m 17 #[.val (.int i0), .val (.int i1), .val (.int i2), .val (.int i3), .val (.int v2), .unset, .unset, .unset, .unset, .unset, .unset, .unset] [(.int v7)])) _
    refine XS.istore X0.here hx rfl (hb hby at_17) rfl (l' := #[.val (.int i0), .val (.int i1), .val (.int i2), .val (.int i3), .val (.int v2), .val (.int v7), .unset, .unset, .unset, .unset, .unset, .unset]) rfl ?_
    show Steps p.tables e below (s₁.setTop (mkF m 19 #[.val (.int i0), .val (.int i1), .val (.int i2), .val (.int i3), .val (.int v2), .val (.int v7), .unset, .unset, .unset, .unset, .unset, .unset] [])) _
    refine XS.iloadN X0.here hx rfl (hb hby at_19) rfl ?_
    show Steps p.tables e below (s₁.setTop (mkF m 20 #[.val (.int i0), .val (.int i1), .val (.int i2), .val (.int i3), .val (.int v2), .val (.int v7), .unset, .unset, .unset, .unset, .unset, .unset] [(.int i3)])) _
    refine XS.iconst X0.here hx rfl (hb hby at_20) ?_
    show Steps p.tables e below (s₁.setTop (mkF m 21 #[.val (.int i0), .val (.int i1), .val (.int i2), .val (.int i3), .val (.int v2), .val (.int v7), .unset, .unset, .unset, .unset, .unset, .unset] [(.int (2 : Int32)), (.int i3)])) _
    refine XS.iand X0.here hx rfl (hb hby at_21) rfl ?_
    exact k)
  obtain ⟨v12, hv12⟩ : ∃ z : Int32, z = (if (i3 &&& (2 : Int32)) = (0 : Int32) then (0 : Int32) else (1 : Int32)) := ⟨_, rfl⟩
  have P13 : own_Rch p.tables e below A0 (s₁.setTop (mkF m 30 #[.val (.int i0), .val (.int i1), .val (.int i2), .val (.int i3), .val (.int v2), .val (.int v7), .unset, .unset, .unset, .unset, .unset, .unset] [(.int v12)])) := fun t k => P10 t (by
    by_cases hc11 : (i3 &&& (2 : Int32)) = (0 : Int32)
    · show Steps p.tables e below (s₁.setTop (mkF m 22 #[.val (.int i0), .val (.int i1), .val (.int i2), .val (.int i3), .val (.int v2), .val (.int v7), .unset, .unset, .unset, .unset, .unset, .unset] [(.int (i3 &&& (2 : Int32)))])) _
      refine XS.ifYes X0.here hx rfl (pc0 := 22) (pc' := 29) rfl (hb hby at_22) rfl ((if0 _ _).trans (teq hc11).1) (by decide) (by decide) ?_
      have qv12 : v12 = (0 : Int32) := by rw [hv12]; simp only [if_pos hc11]
      rw [qv12] at k
      show Steps p.tables e below (s₁.setTop (mkF m 29 #[.val (.int i0), .val (.int i1), .val (.int i2), .val (.int i3), .val (.int v2), .val (.int v7), .unset, .unset, .unset, .unset, .unset, .unset] [])) _
      refine XS.iconst X0.here hx rfl (hb hby at_29) ?_
      exact k
    · show Steps p.tables e below (s₁.setTop (mkF m 22 #[.val (.int i0), .val (.int i1), .val (.int i2), .val (.int i3), .val (.int v2), .val (.int v7), .unset, .unset, .unset, .unset, .unset, .unset] [(.int (i3 &&& (2 : Int32)))])) _
      refine XS.ifNo X0.here hx rfl (hb hby at_22) rfl ((if0 _ _).trans (feq hc11).1) ?_
      have qv12 : v12 = (1 : Int32) := by rw [hv12]; simp only [if_neg hc11]
      rw [qv12] at k
      show Steps p.tables e below (s₁.setTop (mkF m 25 #[.val (.int i0), .val (.int i1), .val (.int i2), .val (.int i3), .val (.int v2), .val (.int v7), .unset, .unset, .unset, .unset, .unset, .unset] [])) _
      refine XS.iconst X0.here hx rfl (hb hby at_25) ?_
      show Steps p.tables e below (s₁.setTop (mkF m 26 #[.val (.int i0), .val (.int i1), .val (.int i2), .val (.int i3), .val (.int v2), .val (.int v7), .unset, .unset, .unset, .unset, .unset, .unset] [(.int (1 : Int32))])) _
      refine XS.goto X0.here hx rfl (pc0 := 26) (pc' := 30) rfl (hb hby at_26) (by decide) (by decide) ?_
      exact k)
  have P15 : own_Rch p.tables e below A0 (s₁.setTop (mkF m 34 #[.val (.int i0), .val (.int i1), .val (.int i2), .val (.int i3), .val (.int v2), .val (.int v7), .val (.int v12), .unset, .unset, .unset, .unset, .unset] [(.int v12)])) := fun t k => P13 t (by
    show Steps p.tables e below (s₁.setTop (mkF m 30 #[.val (.int i0), .val (.int i1), .val (.int i2), .val (.int i3), .val (.int v2), .val (.int v7), .unset, .unset, .unset, .unset, .unset, .unset] [(.int v12)])) _
    refine XS.istore X0.here hx rfl (hb hby at_30) rfl (l' := #[.val (.int i0), .val (.int i1), .val (.int i2), .val (.int i3), .val (.int v2), .val (.int v7), .val (.int v12), .unset, .unset, .unset, .unset, .unset]) rfl ?_
    show Steps p.tables e below (s₁.setTop (mkF m 32 #[.val (.int i0), .val (.int i1), .val (.int i2), .val (.int i3), .val (.int v2), .val (.int v7), .val (.int v12), .unset, .unset, .unset, .unset, .unset] [])) _
    refine XS.iload X0.here hx rfl (hb hby at_32) rfl ?_
    exact k)
  obtain ⟨v17, hv17⟩ : ∃ z : Int32, z = (if v12 = (0 : Int32) then (i2 &&& (7 : Int32)) else i2) := ⟨_, rfl⟩
  have P18 : own_Rch p.tables e below A0 (s₁.setTop (mkF m 45 #[.val (.int i0), .val (.int i1), .val (.int i2), .val (.int i3), .val (.int v2), .val (.int v7), .val (.int v12), .unset, .unset, .unset, .unset, .unset] [(.int v17)])) := fun t k => P15 t (by
    by_cases hc16 : v12 = (0 : Int32)
    · show Steps p.tables e below (s₁.setTop (mkF m 34 #[.val (.int i0), .val (.int i1), .val (.int i2), .val (.int i3), .val (.int v2), .val (.int v7), .val (.int v12), .unset, .unset, .unset, .unset, .unset] [(.int v12)])) _
      refine XS.ifYes X0.here hx rfl (pc0 := 34) (pc' := 41) rfl (hb hby at_34) rfl ((if0 _ _).trans (teq hc16).1) (by decide) (by decide) ?_
      have qv17 : v17 = (i2 &&& (7 : Int32)) := by rw [hv17]; simp only [if_pos hc16]
      rw [qv17] at k
      show Steps p.tables e below (s₁.setTop (mkF m 41 #[.val (.int i0), .val (.int i1), .val (.int i2), .val (.int i3), .val (.int v2), .val (.int v7), .val (.int v12), .unset, .unset, .unset, .unset, .unset] [])) _
      refine XS.iloadN X0.here hx rfl (hb hby at_41) rfl ?_
      show Steps p.tables e below (s₁.setTop (mkF m 42 #[.val (.int i0), .val (.int i1), .val (.int i2), .val (.int i3), .val (.int v2), .val (.int v7), .val (.int v12), .unset, .unset, .unset, .unset, .unset] [(.int i2)])) _
      refine XS.bipush X0.here hx rfl (hb hby at_42) ?_
      show Steps p.tables e below (s₁.setTop (mkF m 44 #[.val (.int i0), .val (.int i1), .val (.int i2), .val (.int i3), .val (.int v2), .val (.int v7), .val (.int v12), .unset, .unset, .unset, .unset, .unset] [(.int (7 : Int32)), (.int i2)])) _
      refine XS.iand X0.here hx rfl (hb hby at_44) rfl ?_
      exact k
    · show Steps p.tables e below (s₁.setTop (mkF m 34 #[.val (.int i0), .val (.int i1), .val (.int i2), .val (.int i3), .val (.int v2), .val (.int v7), .val (.int v12), .unset, .unset, .unset, .unset, .unset] [(.int v12)])) _
      refine XS.ifNo X0.here hx rfl (hb hby at_34) rfl ((if0 _ _).trans (feq hc16).1) ?_
      have qv17 : v17 = i2 := by rw [hv17]; simp only [if_neg hc16]
      rw [qv17] at k
      show Steps p.tables e below (s₁.setTop (mkF m 37 #[.val (.int i0), .val (.int i1), .val (.int i2), .val (.int i3), .val (.int v2), .val (.int v7), .val (.int v12), .unset, .unset, .unset, .unset, .unset] [])) _
      refine XS.iloadN X0.here hx rfl (hb hby at_37) rfl ?_
      show Steps p.tables e below (s₁.setTop (mkF m 38 #[.val (.int i0), .val (.int i1), .val (.int i2), .val (.int i3), .val (.int v2), .val (.int v7), .val (.int v12), .unset, .unset, .unset, .unset, .unset] [(.int i2)])) _
      refine XS.goto X0.here hx rfl (pc0 := 38) (pc' := 45) rfl (hb hby at_38) (by decide) (by decide) ?_
      exact k)
  have P19 : own_Rch p.tables e below A0 (s₁.setTop (mkF m 47 #[.val (.int i0), .val (.int i1), .val (.int i2), .val (.int i3), .val (.int v2), .val (.int v7), .val (.int v12), .val (.int v17), .unset, .unset, .unset, .unset] [])) := fun t k => P18 t (by
    show Steps p.tables e below (s₁.setTop (mkF m 45 #[.val (.int i0), .val (.int i1), .val (.int i2), .val (.int i3), .val (.int v2), .val (.int v7), .val (.int v12), .unset, .unset, .unset, .unset, .unset] [(.int v17)])) _
    refine XS.istore X0.here hx rfl (hb hby at_45) rfl (l' := #[.val (.int i0), .val (.int i1), .val (.int i2), .val (.int i3), .val (.int v2), .val (.int v7), .val (.int v12), .val (.int v17), .unset, .unset, .unset, .unset]) rfl ?_
    exact k)
  obtain ⟨T20, h20, X20, e20, E20, A20, D20, -, st20⟩ := newO X0 hx hZ hown (hw _ (List.mem_of_getElem? (i := 0) rfl)) (hw _ (List.mem_of_getElem? (i := 1) rfl)) (hw _ (List.mem_of_getElem? (i := 2) rfl)) e0 (g := (mkF m 47 #[.val (.int i0), .val (.int i1), .val (.int i2), .val (.int i3), .val (.int v2), .val (.int v7), .val (.int v12), .val (.int v17), .unset, .unset, .unset, .unset] [])) rfl (hb hby at_47) (by decide) (by decide)
  obtain ⟨b20, g20⟩ : ∃ z, z = h0.size := ⟨_, rfl⟩
  rw [← g20] at A20 D20 st20
  have g_b20 : n0 ≤ b20 := Nat.le_trans Z0 (Nat.le_of_eq g20.symm)
  have Z_21 : n0 ≤ h20.size := Nat.le_trans Z0 E20.1
  have F_22 : Fld Z h20 b20 "com/example/tinyward/tinyward/Node" "state" "I" (.int (0 : Int32)) := D20 (Or.inl (hw _ (List.mem_of_getElem? (i := 10) rfl))) (ty := .int) (by decide)
  have F_23 : Fld Z h20 b20 "com/example/tinyward/tinyward/Node" "key" "Ljava/lang/Object;" .null := D20 (Or.inr (hw _ (List.mem_of_getElem? (i := 12) rfl))) (ty := (.object "java/lang/Object")) (by decide)
  have F_24 : Fld Z h20 b20 "com/example/tinyward/tinyward/Node" "value" "Ljava/lang/Object;" .null := D20 (Or.inl (hw _ (List.mem_of_getElem? (i := 14) rfl))) (ty := (.object "java/lang/Object")) (by decide)
  have F_25 : Fld Z h20 b20 "com/example/tinyward/tinyward/Node" "frequency" "I" (.int (0 : Int32)) := D20 (Or.inl (hw _ (List.mem_of_getElem? (i := 21) rfl))) (ty := .int) (by decide)
  have P26 : own_Rch p.tables e below A0 (T20.setTop (mkF m 50 #[.val (.int i0), .val (.int i1), .val (.int i2), .val (.int i3), .val (.int v2), .val (.int v7), .val (.int v12), .val (.int v17), .unset, .unset, .unset, .unset] [(.ref b20)])) := fun t k => P19 t (st20 t k)
  have P27 : own_Rch p.tables e below A0 (T20.setTop (mkF m 53 #[.val (.int i0), .val (.int i1), .val (.int i2), .val (.int i3), .val (.int v2), .val (.int v7), .val (.int v12), .val (.int v17), .unset, .unset, .unset, .unset] [.null, .null, (.ref b20), (.ref b20)])) := fun t k => P26 t (by
    show Steps p.tables e below (T20.setTop (mkF m 50 #[.val (.int i0), .val (.int i1), .val (.int i2), .val (.int i3), .val (.int v2), .val (.int v7), .val (.int v12), .val (.int v17), .unset, .unset, .unset, .unset] [(.ref b20)])) _
    refine XS.dup X20.here hx rfl (hb hby at_50) rfl rfl ?_
    show Steps p.tables e below (T20.setTop (mkF m 51 #[.val (.int i0), .val (.int i1), .val (.int i2), .val (.int i3), .val (.int v2), .val (.int v7), .val (.int v12), .val (.int v17), .unset, .unset, .unset, .unset] [(.ref b20), (.ref b20)])) _
    refine XS.aconstNull X20.here hx rfl (hb hby at_51) ?_
    show Steps p.tables e below (T20.setTop (mkF m 52 #[.val (.int i0), .val (.int i1), .val (.int i2), .val (.int i3), .val (.int v2), .val (.int v7), .val (.int v12), .val (.int v17), .unset, .unset, .unset, .unset] [.null, (.ref b20), (.ref b20)])) _
    refine XS.aconstNull X20.here hx rfl (hb hby at_52) ?_
    exact k)
  obtain ⟨_, _, ⟨T28, L28, k28, n28⟩, -, X28, ⟨Lc28, hQ28, l28, y28, z28⟩, st28⟩ := X20.specialBack hx (y := (⟨"com/example/tinyward/tinyward/Node", "<init>", "(Ljava/lang/Object;Ljava/lang/Object;)V"⟩ : MethodName)) rfl hown (mvT hZ (hw _ (List.mem_of_getElem? (i := 3) rfl))) (mvT hZ (hw _ (List.mem_of_getElem? (i := 4) rfl))) (mvT hZ (hw _ (List.mem_of_getElem? (i := 5) rfl))) (by decide) (backOf (W := 1) (rm1 l Z a0 hw [] b20 h20 n0 Z_21 A20 F_22 F_23 F_24 F_25 g_b20) hZ (hw _ (List.mem_of_getElem? (i := 5) rfl)) (hw _ (List.mem_of_getElem? (i := 2) rfl)) (by decide) (by decide)) (g := (mkF m 53 #[.val (.int i0), .val (.int i1), .val (.int i2), .val (.int i3), .val (.int v2), .val (.int v7), .val (.int v12), .val (.int v17), .unset, .unset, .unset, .unset] [.null, .null, (.ref b20), (.ref b20)])) rfl (by rw [hml]; rfl) (Steps.refl _) (a := b20) (argsL := [.null, .null]) (rest := [(.ref b20)]) (lenOf pd_4 rfl) rfl (by show 2 * 0 + _ ≤ _; exact Nat.le_of_eq rfl) (hb hby at_53) (fun _ _ => ⟨rfl, e20, (by decide : (0 + 1) + 0 ≤ _), (by decide : (0 + 8) + 0 ≤ _)⟩)
  dsimp only [Pt.U, Pt.locs, Pt.cells, Pt.slots] at X28 l28 y28 z28 st28 hQ28
  subst l28 y28 z28
  obtain ⟨rfl, N28q, K28q, E28q, F28q0⟩ := hQ28
  have N28 := Fr.app N0 N28q
  have Z_29 : n0 ≤ T28.heap.size := Nat.le_trans Z_21 K28q.1
  have E_30 : Exa Z T28.heap b20 "com/example/tinyward/tinyward/Node" := A20.keep K28q
  have P31 : own_Rch p.tables e below A0 (T28.setTop (mkF m 56 #[.val (.int i0), .val (.int i1), .val (.int i2), .val (.int i3), .val (.int v2), .val (.int v7), .val (.int v12), .val (.int v17), .unset, .unset, .unset, .unset] [(.ref b20)])) := fun t k => P27 t (st28.trans k)
  have P32 : own_Rch p.tables e below A0 (T28.setTop (mkF m 63 #[.val (.int i0), .val (.int i1), .val (.int i2), .val (.int i3), .val (.int v2), .val (.int v7), .val (.int v12), .val (.int v17), .val (.ref b20), .unset, .unset, .unset] [(.int i1), (.int v2), (.ref b20)])) := fun t k => P31 t (by
    show Steps p.tables e below (T28.setTop (mkF m 56 #[.val (.int i0), .val (.int i1), .val (.int i2), .val (.int i3), .val (.int v2), .val (.int v7), .val (.int v12), .val (.int v17), .unset, .unset, .unset, .unset] [(.ref b20)])) _
    refine XS.astore X28.here hx rfl (hb hby at_56) rfl rfl (l' := #[.val (.int i0), .val (.int i1), .val (.int i2), .val (.int i3), .val (.int v2), .val (.int v7), .val (.int v12), .val (.int v17), .val (.ref b20), .unset, .unset, .unset]) rfl ?_
    show Steps p.tables e below (T28.setTop (mkF m 58 #[.val (.int i0), .val (.int i1), .val (.int i2), .val (.int i3), .val (.int v2), .val (.int v7), .val (.int v12), .val (.int v17), .val (.ref b20), .unset, .unset, .unset] [])) _
    refine XS.aload X28.here hx rfl (hb hby at_58) rfl rfl ?_
    show Steps p.tables e below (T28.setTop (mkF m 60 #[.val (.int i0), .val (.int i1), .val (.int i2), .val (.int i3), .val (.int v2), .val (.int v7), .val (.int v12), .val (.int v17), .val (.ref b20), .unset, .unset, .unset] [(.ref b20)])) _
    refine XS.iload X28.here hx rfl (hb hby at_60) rfl ?_
    show Steps p.tables e below (T28.setTop (mkF m 62 #[.val (.int i0), .val (.int i1), .val (.int i2), .val (.int i3), .val (.int v2), .val (.int v7), .val (.int v12), .val (.int v17), .val (.ref b20), .unset, .unset, .unset] [(.int v2), (.ref b20)])) _
    refine XS.iloadN X28.here hx rfl (hb hby at_62) rfl ?_
    exact k)
  obtain ⟨cq33, kq33, q33a, q33b, q33c⟩ := isOf hZ rfl E_30
  obtain ⟨_, _, ⟨T33, L33, k33, n33⟩, -, X33, ⟨Lc33, hQ33, l33, y33, z33⟩, st33⟩ := X28.virtualBack hx (y := (⟨"com/example/tinyward/tinyward/Node", "startFrequency", "(II)V"⟩ : MethodName)) (z := (⟨"com/example/tinyward/tinyward/Node", "startFrequency", "(II)V"⟩ : MethodName)) hown (mvT hZ (hw _ (List.mem_of_getElem? (i := 15) rfl))) (mvT hZ (hw _ (List.mem_of_getElem? (i := 16) rfl))) (notFace_of_selects (args := #[]) (mvT hZ (hw _ (List.mem_of_getElem? (i := 18) rfl)))) (mvT hZ (hw _ (List.mem_of_getElem? (i := 18) rfl))) (mvT hZ (hw _ (List.mem_of_getElem? (i := 17) rfl))) (by decide) (backOf (W := 0) (rm3 l Z a0 hw [] b20 v2 i1 (0 : Int32) T28.heap n0 Z_29 E_30 F28q0 g_b20) hZ (hw _ (List.mem_of_getElem? (i := 19) rfl)) (hw _ (List.mem_of_getElem? (i := 2) rfl)) (by decide) (by decide)) q33a q33c (g := (mkF m 63 #[.val (.int i0), .val (.int i1), .val (.int i2), .val (.int i3), .val (.int v2), .val (.int v7), .val (.int v12), .val (.int v17), .val (.ref b20), .unset, .unset, .unset] [(.int i1), (.int v2), (.ref b20)])) rfl (by rw [hml]; rfl) (Steps.refl _) (argsL := [(.int v2), (.int i1)]) (rest := []) (lenOf pd_3 rfl) rfl (by show 2 * 0 + _ ≤ _; exact Nat.le_of_eq rfl) (hb hby at_63) (fun _ _ => ⟨rfl, rfl, (by decide : (0 + 1 + 0) + 0 ≤ _), (by decide : (0 + 8 + 0) + 0 ≤ _)⟩)
  dsimp only [Pt.U, Pt.locs, Pt.cells, Pt.slots] at X33 l33 y33 z33 st33 hQ33
  subst l33 y33 z33
  obtain ⟨rfl, N33q, K33q, E33q, F33q0⟩ := hQ33
  have N33 := Fr.app N28 N33q
  have Z_34 : n0 ≤ T33.heap.size := Nat.le_trans Z_29 K33q.1
  have E_35 : Exa Z T33.heap b20 "com/example/tinyward/tinyward/Node" := E_30.keep K33q
  have P36 : own_Rch p.tables e below A0 (T33.setTop (mkF m 66 #[.val (.int i0), .val (.int i1), .val (.int i2), .val (.int i3), .val (.int v2), .val (.int v7), .val (.int v12), .val (.int v17), .val (.ref b20), .unset, .unset, .unset] [])) := fun t k => P32 t (st33.trans k)
  have P38 : own_Rch p.tables e below A0 (T33.setTop (mkF m 72 #[.val (.int i0), .val (.int i1), .val (.int i2), .val (.int i3), .val (.int v2), .val (.int v7), .val (.int v12), .val (.int v17), .val (.ref b20), .val (.int v2), .unset, .unset] [(.int v7)])) := fun t k => P36 t (by
    show Steps p.tables e below (T33.setTop (mkF m 66 #[.val (.int i0), .val (.int i1), .val (.int i2), .val (.int i3), .val (.int v2), .val (.int v7), .val (.int v12), .val (.int v17), .val (.ref b20), .unset, .unset, .unset] [])) _
    refine XS.iload X33.here hx rfl (hb hby at_66) rfl ?_
    show Steps p.tables e below (T33.setTop (mkF m 68 #[.val (.int i0), .val (.int i1), .val (.int i2), .val (.int i3), .val (.int v2), .val (.int v7), .val (.int v12), .val (.int v17), .val (.ref b20), .unset, .unset, .unset] [(.int v2)])) _
    refine XS.istore X33.here hx rfl (hb hby at_68) rfl (l' := #[.val (.int i0), .val (.int i1), .val (.int i2), .val (.int i3), .val (.int v2), .val (.int v7), .val (.int v12), .val (.int v17), .val (.ref b20), .val (.int v2), .unset, .unset]) rfl ?_
    show Steps p.tables e below (T33.setTop (mkF m 70 #[.val (.int i0), .val (.int i1), .val (.int i2), .val (.int i3), .val (.int v2), .val (.int v7), .val (.int v12), .val (.int v17), .val (.ref b20), .val (.int v2), .unset, .unset] [])) _
    refine XS.iload X33.here hx rfl (hb hby at_70) rfl ?_
    exact k)
  by_cases hc37 : v7 = (0 : Int32)
  · -- v7 = (0 : Int32)
    have P39 : own_Rch p.tables e below A0 (T33.setTop (mkF m 100 #[.val (.int i0), .val (.int i1), .val (.int i2), .val (.int i3), .val (.int v2), .val (.int v7), .val (.int v12), .val (.int v17), .val (.ref b20), .val (.int v2), .val (.int (v17 &&& (134217727 : Int32))), .unset] [])) := fun t k => P38 t (by
      show Steps p.tables e below (T33.setTop (mkF m 72 #[.val (.int i0), .val (.int i1), .val (.int i2), .val (.int i3), .val (.int v2), .val (.int v7), .val (.int v12), .val (.int v17), .val (.ref b20), .val (.int v2), .unset, .unset] [(.int v7)])) _
      refine XS.ifYes X33.here hx rfl (pc0 := 72) (pc' := 93) rfl (hb hby at_72) rfl ((if0 _ _).trans (teq hc37).1) (by decide) (by decide) ?_
      show Steps p.tables e below (T33.setTop (mkF m 93 #[.val (.int i0), .val (.int i1), .val (.int i2), .val (.int i3), .val (.int v2), .val (.int v7), .val (.int v12), .val (.int v17), .val (.ref b20), .val (.int v2), .unset, .unset] [])) _
      refine XS.iload X33.here hx rfl (hb hby at_93) rfl ?_
      show Steps p.tables e below (T33.setTop (mkF m 95 #[.val (.int i0), .val (.int i1), .val (.int i2), .val (.int i3), .val (.int v2), .val (.int v7), .val (.int v12), .val (.int v17), .val (.ref b20), .val (.int v2), .unset, .unset] [(.int v17)])) _
      refine X33.ldcInt hx hown (mvT hZ (hw _ (List.mem_of_getElem? (i := 43) rfl))) (g := (mkF m 95 #[.val (.int i0), .val (.int i1), .val (.int i2), .val (.int i3), .val (.int v2), .val (.int v7), .val (.int v12), .val (.int v17), .val (.ref b20), .val (.int v2), .unset, .unset] [(.int v17)])) rfl (hb hby at_95) _ ?_
      show Steps p.tables e below (T33.setTop (mkF m 97 #[.val (.int i0), .val (.int i1), .val (.int i2), .val (.int i3), .val (.int v2), .val (.int v7), .val (.int v12), .val (.int v17), .val (.ref b20), .val (.int v2), .unset, .unset] [(.int (134217727 : Int32)), (.int v17)])) _
      refine XS.iand X33.here hx rfl (hb hby at_97) rfl ?_
      show Steps p.tables e below (T33.setTop (mkF m 98 #[.val (.int i0), .val (.int i1), .val (.int i2), .val (.int i3), .val (.int v2), .val (.int v7), .val (.int v12), .val (.int v17), .val (.ref b20), .val (.int v2), .unset, .unset] [(.int (v17 &&& (134217727 : Int32)))])) _
      refine XS.istore X33.here hx rfl (hb hby at_98) rfl (l' := #[.val (.int i0), .val (.int i1), .val (.int i2), .val (.int i3), .val (.int v2), .val (.int v7), .val (.int v12), .val (.int v17), .val (.ref b20), .val (.int v2), .val (.int (v17 &&& (134217727 : Int32))), .unset]) rfl ?_
      exact k)
    obtain ⟨v40, hv40, P41⟩ : ∃ z : Int32, z = (v17 &&& (134217727 : Int32)) ∧ own_Rch p.tables e below A0 (T33.setTop (mkF m 100 #[.val (.int i0), .val (.int i1), .val (.int i2), .val (.int i3), .val (.int v2), .val (.int v7), .val (.int v12), .val (.int v17), .val (.ref b20), .val (.int v2), .val (.int z), .unset] [])) := ⟨_, rfl, P39⟩
    have P42 : own_Rch p.tables e below A0 (T33.setTop (mkF m 104 #[.val (.int i0), .val (.int i1), .val (.int i2), .val (.int i3), .val (.int v2), .val (.int v7), .val (.int v12), .val (.int v17), .val (.ref b20), .val (.int v2), .val (.int v40), .unset] [(.int v40), (.int v2)])) := fun t k => P41 t (by
      show Steps p.tables e below (T33.setTop (mkF m 100 #[.val (.int i0), .val (.int i1), .val (.int i2), .val (.int i3), .val (.int v2), .val (.int v7), .val (.int v12), .val (.int v17), .val (.ref b20), .val (.int v2), .val (.int v40), .unset] [])) _
      refine XS.iload X33.here hx rfl (hb hby at_100) rfl ?_
      show Steps p.tables e below (T33.setTop (mkF m 102 #[.val (.int i0), .val (.int i1), .val (.int i2), .val (.int i3), .val (.int v2), .val (.int v7), .val (.int v12), .val (.int v17), .val (.ref b20), .val (.int v2), .val (.int v40), .unset] [(.int v2)])) _
      refine XS.iload X33.here hx rfl (hb hby at_102) rfl ?_
      exact k)
    obtain ⟨_, _, ⟨T43, L43, k43, n43⟩, -, X43, ⟨Lc43, hQ43, l43, y43, z43⟩, st43⟩ := Jvm.LawKit.callS X33 hx (y := (⟨"com/example/tinyward/tinyward/NodeFrequencyPinLaw", "halved", "(II)I"⟩ : MethodName)) hown (mvT hZ (hw _ (List.mem_of_getElem? (i := 44) rfl))) (mvT hZ (hw _ (List.mem_of_getElem? (i := 45) rfl))) (mvT hZ (hw _ (List.mem_of_getElem? (i := 46) rfl))) (mvT hZ (hw _ (List.mem_of_getElem? (i := 47) rfl))) (by decide) (backOf (W := 0) (rm8 l Z a0 hw [] v2 v40 T33.heap n0 Z_34 ) hZ (hw _ (List.mem_of_getElem? (i := 47) rfl)) (hw _ (List.mem_of_getElem? (i := 46) rfl)) (by decide) (by decide)) (g := (mkF m 104 #[.val (.int i0), .val (.int i1), .val (.int i2), .val (.int i3), .val (.int v2), .val (.int v7), .val (.int v12), .val (.int v17), .val (.ref b20), .val (.int v2), .val (.int v40), .unset] [(.int v40), (.int v2)])) rfl (by rw [hml]; rfl) (argsL := [(.int v2), (.int v40)]) (rest := []) (lenOf pd_2 rfl) rfl (by show 2 * 0 + _ ≤ _; exact Nat.le_of_eq rfl) (hb hby at_104) (fun _ _ => ⟨rfl, rfl, (by decide : (0 + 1 + 0 + 0) + 0 ≤ _), (by decide : (0 + 8 + 0 + 0) + 0 ≤ _)⟩)
    dsimp only [Pt.U, Pt.locs, Pt.cells, Pt.slots] at X43 l43 y43 z43 st43 hQ43
    subst l43 y43 z43
    obtain ⟨rfl, N43q, e43⟩ := hQ43
    have N43 := Fr.app N33 N43q
    have P44 : own_Rch p.tables e below A0 (T43.setTop (mkF m 107 #[.val (.int i0), .val (.int i1), .val (.int i2), .val (.int i3), .val (.int v2), .val (.int v7), .val (.int v12), .val (.int v17), .val (.ref b20), .val (.int v2), .val (.int v40), .unset] [(.int (own_half v2 v40))])) := fun t k => P42 t (st43 t k)
    have P45 : own_Rch p.tables e below A0 (T43.setTop (mkF m 109 #[.val (.int i0), .val (.int i1), .val (.int i2), .val (.int i3), .val (.int v2), .val (.int v7), .val (.int v12), .val (.int v17), .val (.ref b20), .val (.int v2), .val (.int v40), .val (.int (own_half v2 v40))] [])) := fun t k => P44 t (by
      show Steps p.tables e below (T43.setTop (mkF m 107 #[.val (.int i0), .val (.int i1), .val (.int i2), .val (.int i3), .val (.int v2), .val (.int v7), .val (.int v12), .val (.int v17), .val (.ref b20), .val (.int v2), .val (.int v40), .unset] [(.int (own_half v2 v40))])) _
      refine XS.istore X43.here hx rfl (hb hby at_107) rfl (l' := #[.val (.int i0), .val (.int i1), .val (.int i2), .val (.int i3), .val (.int v2), .val (.int v7), .val (.int v12), .val (.int v17), .val (.ref b20), .val (.int v2), .val (.int v40), .val (.int (own_half v2 v40))]) rfl ?_
      exact k)
    obtain ⟨v46, hv46, P47⟩ : ∃ z : Int32, z = (own_half v2 v40) ∧ own_Rch p.tables e below A0 (T43.setTop (mkF m 109 #[.val (.int i0), .val (.int i1), .val (.int i2), .val (.int i3), .val (.int v2), .val (.int v7), .val (.int v12), .val (.int v17), .val (.ref b20), .val (.int v2), .val (.int v40), .val (.int z)] [])) := ⟨_, rfl, P45⟩
    have P48 : own_Rch p.tables e below A0 (T43.setTop (mkF m 115 #[.val (.int i0), .val (.int i1), .val (.int i2), .val (.int i3), .val (.int v2), .val (.int v7), .val (.int v12), .val (.int v17), .val (.ref b20), .val (.int v2), .val (.int v40), .val (.int v46)] [(.int (i1 + v17)), (.ref b20)])) := fun t k => P47 t (by
      show Steps p.tables e below (T43.setTop (mkF m 109 #[.val (.int i0), .val (.int i1), .val (.int i2), .val (.int i3), .val (.int v2), .val (.int v7), .val (.int v12), .val (.int v17), .val (.ref b20), .val (.int v2), .val (.int v40), .val (.int v46)] [])) _
      refine XS.aload X43.here hx rfl (hb hby at_109) rfl rfl ?_
      show Steps p.tables e below (T43.setTop (mkF m 111 #[.val (.int i0), .val (.int i1), .val (.int i2), .val (.int i3), .val (.int v2), .val (.int v7), .val (.int v12), .val (.int v17), .val (.ref b20), .val (.int v2), .val (.int v40), .val (.int v46)] [(.ref b20)])) _
      refine XS.iloadN X43.here hx rfl (hb hby at_111) rfl ?_
      show Steps p.tables e below (T43.setTop (mkF m 112 #[.val (.int i0), .val (.int i1), .val (.int i2), .val (.int i3), .val (.int v2), .val (.int v7), .val (.int v12), .val (.int v17), .val (.ref b20), .val (.int v2), .val (.int v40), .val (.int v46)] [(.int i1), (.ref b20)])) _
      refine XS.iload X43.here hx rfl (hb hby at_112) rfl ?_
      show Steps p.tables e below (T43.setTop (mkF m 114 #[.val (.int i0), .val (.int i1), .val (.int i2), .val (.int i3), .val (.int v2), .val (.int v7), .val (.int v12), .val (.int v17), .val (.ref b20), .val (.int v2), .val (.int v40), .val (.int v46)] [(.int v17), (.int i1), (.ref b20)])) _
      refine XS.iadd X43.here hx rfl (hb hby at_114) rfl ?_
      exact k)
    obtain ⟨cq49, kq49, q49a, q49b, q49c⟩ := isOf hZ e43 E_35
    obtain ⟨_, _, ⟨T49, L49, k49, n49⟩, -, X49, ⟨Lc49, hQ49, l49, y49, z49⟩, st49⟩ := X43.virtualBack hx (y := (⟨"com/example/tinyward/tinyward/Node", "frequency", "(I)I"⟩ : MethodName)) (z := (⟨"com/example/tinyward/tinyward/Node", "frequency", "(I)I"⟩ : MethodName)) hown (mvT hZ (hw _ (List.mem_of_getElem? (i := 48) rfl))) (mvT hZ (hw _ (List.mem_of_getElem? (i := 33) rfl))) (notFace_of_selects (args := #[]) (mvT hZ (hw _ (List.mem_of_getElem? (i := 35) rfl)))) (mvT hZ (hw _ (List.mem_of_getElem? (i := 35) rfl))) (mvT hZ (hw _ (List.mem_of_getElem? (i := 34) rfl))) (by decide) (backOf (W := 0) (rm6 l Z a0 hw [] b20 (i1 + v17) ((i1 <<< ((5 : Int32) &&& 31)) ||| v2) T33.heap n0 Z_34 F33q0) hZ (hw _ (List.mem_of_getElem? (i := 36) rfl)) (hw _ (List.mem_of_getElem? (i := 2) rfl)) (by decide) (by decide)) q49a q49c (g := (mkF m 115 #[.val (.int i0), .val (.int i1), .val (.int i2), .val (.int i3), .val (.int v2), .val (.int v7), .val (.int v12), .val (.int v17), .val (.ref b20), .val (.int v2), .val (.int v40), .val (.int v46)] [(.int (i1 + v17)), (.ref b20)])) rfl (by rw [hml]; rfl) (Steps.refl _) (argsL := [(.int (i1 + v17))]) (rest := []) (lenOf pd_1 rfl) rfl (by show 2 * 0 + _ ≤ _; exact Nat.le_of_eq rfl) (hb hby at_115) (fun _ _ => ⟨rfl, e43, (by decide : (0 + 1 + 0 + 0 + 0) + 0 ≤ _), (by decide : (0 + 8 + 0 + 0 + 0) + 0 ≤ _)⟩)
    dsimp only [Pt.U, Pt.locs, Pt.cells, Pt.slots] at X49 l49 y49 z49 st49 hQ49
    subst l49 y49 z49
    obtain ⟨rfl, N49q, e49⟩ := hQ49
    have N49 := Fr.app N43 N49q
    have P50 : own_Rch p.tables e below A0 (T49.setTop (mkF m 118 #[.val (.int i0), .val (.int i1), .val (.int i2), .val (.int i3), .val (.int v2), .val (.int v7), .val (.int v12), .val (.int v17), .val (.ref b20), .val (.int v2), .val (.int v40), .val (.int v46)] [(.int (own_freq (i1 + v17) ((i1 <<< ((5 : Int32) &&& 31)) ||| v2)))])) := fun t k => P48 t (st49.trans k)
    have P52 : own_Rch p.tables e below A0 (T49.setTop (mkF m 120 #[.val (.int i0), .val (.int i1), .val (.int i2), .val (.int i3), .val (.int v2), .val (.int v7), .val (.int v12), .val (.int v17), .val (.ref b20), .val (.int v2), .val (.int v40), .val (.int v46)] [(.int v46), (.int (own_freq (i1 + v17) ((i1 <<< ((5 : Int32) &&& 31)) ||| v2)))])) := fun t k => P50 t (by
      show Steps p.tables e below (T49.setTop (mkF m 118 #[.val (.int i0), .val (.int i1), .val (.int i2), .val (.int i3), .val (.int v2), .val (.int v7), .val (.int v12), .val (.int v17), .val (.ref b20), .val (.int v2), .val (.int v40), .val (.int v46)] [(.int (own_freq (i1 + v17) ((i1 <<< ((5 : Int32) &&& 31)) ||| v2)))])) _
      refine XS.iload X49.here hx rfl (hb hby at_118) rfl ?_
      exact k)
    by_cases hc51 : (own_freq (i1 + v17) ((i1 <<< ((5 : Int32) &&& 31)) ||| v2)) = v46
    · -- (own_freq (i1 + v17) ((i1 <<< ((5 : Int32) &&& 31)) ||| v2)) = v46
      have P53 : own_Rch p.tables e below A0 (T49.setTop (mkF m 128 #[.val (.int i0), .val (.int i1), .val (.int i2), .val (.int i3), .val (.int v2), .val (.int v7), .val (.int v12), .val (.int v17), .val (.ref b20), .val (.int v2), .val (.int v40), .val (.int v46)] [(.int (1 : Int32))])) := fun t k => P52 t (by
        show Steps p.tables e below (T49.setTop (mkF m 120 #[.val (.int i0), .val (.int i1), .val (.int i2), .val (.int i3), .val (.int v2), .val (.int v7), .val (.int v12), .val (.int v17), .val (.ref b20), .val (.int v2), .val (.int v40), .val (.int v46)] [(.int v46), (.int (own_freq (i1 + v17) ((i1 <<< ((5 : Int32) &&& 31)) ||| v2)))])) _
        refine XS.icmpNo X49.here hx rfl (hb hby at_120) rfl (teq hc51).2 ?_
        show Steps p.tables e below (T49.setTop (mkF m 123 #[.val (.int i0), .val (.int i1), .val (.int i2), .val (.int i3), .val (.int v2), .val (.int v7), .val (.int v12), .val (.int v17), .val (.ref b20), .val (.int v2), .val (.int v40), .val (.int v46)] [])) _
        refine XS.iconst X49.here hx rfl (hb hby at_123) ?_
        show Steps p.tables e below (T49.setTop (mkF m 124 #[.val (.int i0), .val (.int i1), .val (.int i2), .val (.int i3), .val (.int v2), .val (.int v7), .val (.int v12), .val (.int v17), .val (.ref b20), .val (.int v2), .val (.int v40), .val (.int v46)] [(.int (1 : Int32))])) _
        refine XS.goto X49.here hx rfl (pc0 := 124) (pc' := 128) rfl (hb hby at_124) (by decide) (by decide) ?_
        exact k)
      obtain ⟨fs, hr, hrun, hended, hW, hsame⟩ := X49.leave (v := some (.int (nar .boolean (1 : Int32)))) (fun h => by rw [Bd.returns] at h; cases h)
      refine ⟨_, _, P00 _ (P53 _ ?_), hrun, hended, _, _, rfl, ?_, ⟨_, rfl⟩, hW, hsame.mono (by decide) (by decide)⟩
      · exact retN X49 hx (t := .boolean) Bd.returns (by simp) (hb hby at_128) hr
      · show Q0 Z i0 i1 i2 i3 h0 n0 _ T49.heap _
        rw [e49]
        refine ⟨?_, N49⟩
        rfl
    · -- not (own_freq (i1 + v17) ((i1 <<< ((5 : Int32) &&& 31)) ||| v2)) = v46
      have P54 : own_Rch p.tables e below A0 (T49.setTop (mkF m 128 #[.val (.int i0), .val (.int i1), .val (.int i2), .val (.int i3), .val (.int v2), .val (.int v7), .val (.int v12), .val (.int v17), .val (.ref b20), .val (.int v2), .val (.int v40), .val (.int v46)] [(.int (0 : Int32))])) := fun t k => P52 t (by
        show Steps p.tables e below (T49.setTop (mkF m 120 #[.val (.int i0), .val (.int i1), .val (.int i2), .val (.int i3), .val (.int v2), .val (.int v7), .val (.int v12), .val (.int v17), .val (.ref b20), .val (.int v2), .val (.int v40), .val (.int v46)] [(.int v46), (.int (own_freq (i1 + v17) ((i1 <<< ((5 : Int32) &&& 31)) ||| v2)))])) _
        refine XS.icmpYes X49.here hx rfl (pc0 := 120) (pc' := 127) rfl (hb hby at_120) rfl (feq hc51).2 (by decide) (by decide) ?_
        show Steps p.tables e below (T49.setTop (mkF m 127 #[.val (.int i0), .val (.int i1), .val (.int i2), .val (.int i3), .val (.int v2), .val (.int v7), .val (.int v12), .val (.int v17), .val (.ref b20), .val (.int v2), .val (.int v40), .val (.int v46)] [])) _
        refine XS.iconst X49.here hx rfl (hb hby at_127) ?_
        exact k)
      obtain ⟨fs, hr, hrun, hended, hW, hsame⟩ := X49.leave (v := some (.int (nar .boolean (0 : Int32)))) (fun h => by rw [Bd.returns] at h; cases h)
      refine ⟨_, _, P00 _ (P54 _ ?_), hrun, hended, _, _, rfl, ?_, ⟨_, rfl⟩, hW, hsame.mono (by decide) (by decide)⟩
      · exact retN X49 hx (t := .boolean) Bd.returns (by simp) (hb hby at_128) hr
      · show Q0 Z i0 i1 i2 i3 h0 n0 _ T49.heap _
        rw [e49]
        refine ⟨?_, N49⟩
        subst hv46 hv40 hv2
        exact absurd (own_a i0 i1 v17) hc51
  · -- not v7 = (0 : Int32)
    have P55 : own_Rch p.tables e below A0 (T33.setTop (mkF m 78 #[.val (.int i0), .val (.int i1), .val (.int i2), .val (.int i3), .val (.int v2), .val (.int v7), .val (.int v12), .val (.int v17), .val (.ref b20), .val (.int v2), .unset, .unset] [(.int i1), (.ref b20)])) := fun t k => P38 t (by
      show Steps p.tables e below (T33.setTop (mkF m 72 #[.val (.int i0), .val (.int i1), .val (.int i2), .val (.int i3), .val (.int v2), .val (.int v7), .val (.int v12), .val (.int v17), .val (.ref b20), .val (.int v2), .unset, .unset] [(.int v7)])) _
      refine XS.ifNo X33.here hx rfl (hb hby at_72) rfl ((if0 _ _).trans (feq hc37).1) ?_
      show Steps p.tables e below (T33.setTop (mkF m 75 #[.val (.int i0), .val (.int i1), .val (.int i2), .val (.int i3), .val (.int v2), .val (.int v7), .val (.int v12), .val (.int v17), .val (.ref b20), .val (.int v2), .unset, .unset] [])) _
      refine XS.aload X33.here hx rfl (hb hby at_75) rfl rfl ?_
      show Steps p.tables e below (T33.setTop (mkF m 77 #[.val (.int i0), .val (.int i1), .val (.int i2), .val (.int i3), .val (.int v2), .val (.int v7), .val (.int v12), .val (.int v17), .val (.ref b20), .val (.int v2), .unset, .unset] [(.ref b20)])) _
      refine XS.iloadN X33.here hx rfl (hb hby at_77) rfl ?_
      exact k)
    obtain ⟨cq56, kq56, q56a, q56b, q56c⟩ := isOf hZ rfl E_35
    obtain ⟨_, _, ⟨T56, L56, k56, n56⟩, -, X56, ⟨Lc56, hQ56, l56, y56, z56⟩, st56⟩ := X33.virtualBack hx (y := (⟨"com/example/tinyward/tinyward/Node", "recordUse", "(I)Z"⟩ : MethodName)) (z := (⟨"com/example/tinyward/tinyward/Node", "recordUse", "(I)Z"⟩ : MethodName)) hown (mvT hZ (hw _ (List.mem_of_getElem? (i := 22) rfl))) (mvT hZ (hw _ (List.mem_of_getElem? (i := 23) rfl))) (notFace_of_selects (args := #[]) (mvT hZ (hw _ (List.mem_of_getElem? (i := 25) rfl)))) (mvT hZ (hw _ (List.mem_of_getElem? (i := 25) rfl))) (mvT hZ (hw _ (List.mem_of_getElem? (i := 24) rfl))) (by decide) (backOf (W := 0) (rm4 l Z a0 hw [] b20 i1 ((i1 <<< ((5 : Int32) &&& 31)) ||| v2) T33.heap n0 Z_34 E_35 F33q0 g_b20) hZ (hw _ (List.mem_of_getElem? (i := 26) rfl)) (hw _ (List.mem_of_getElem? (i := 2) rfl)) (by decide) (by decide)) q56a q56c (g := (mkF m 78 #[.val (.int i0), .val (.int i1), .val (.int i2), .val (.int i3), .val (.int v2), .val (.int v7), .val (.int v12), .val (.int v17), .val (.ref b20), .val (.int v2), .unset, .unset] [(.int i1), (.ref b20)])) rfl (by rw [hml]; rfl) (Steps.refl _) (argsL := [(.int i1)]) (rest := []) (lenOf pd_5 rfl) rfl (by show 2 * 0 + _ ≤ _; exact Nat.le_of_eq rfl) (hb hby at_78) (fun _ _ => ⟨rfl, rfl, (by decide : (0 + 1 + 0 + 0) + 0 ≤ _), (by decide : (0 + 8 + 0 + 0) + 0 ≤ _)⟩)
    dsimp only [Pt.U, Pt.locs, Pt.cells, Pt.slots] at X56 l56 y56 z56 st56 hQ56
    subst l56 y56 z56
    obtain ⟨rfl, N56q, K56q, E56q, F56q0⟩ := hQ56
    have N56 := Fr.app N33 N56q
    have Z_57 : n0 ≤ T56.heap.size := Nat.le_trans Z_34 K56q.1
    have E_58 : Exa Z T56.heap b20 "com/example/tinyward/tinyward/Node" := E_35.keep K56q
    have P59 : own_Rch p.tables e below A0 (T56.setTop (mkF m 81 #[.val (.int i0), .val (.int i1), .val (.int i2), .val (.int i3), .val (.int v2), .val (.int v7), .val (.int v12), .val (.int v17), .val (.ref b20), .val (.int v2), .unset, .unset] [(.int (nar .boolean (own_used ((i1 <<< ((5 : Int32) &&& 31)) ||| v2))))])) := fun t k => P55 t (st56.trans k)
    have P60 : own_Rch p.tables e below A0 (T56.setTop (mkF m 88 #[.val (.int i0), .val (.int i1), .val (.int i2), .val (.int i3), .val (.int v2), .val (.int v7), .val (.int v12), .val (.int v17), .val (.ref b20), .val (.int v2), .unset, .unset] [(.int (v2 + (1 : Int32))), (.int (15 : Int32))])) := fun t k => P59 t (by
      show Steps p.tables e below (T56.setTop (mkF m 81 #[.val (.int i0), .val (.int i1), .val (.int i2), .val (.int i3), .val (.int v2), .val (.int v7), .val (.int v12), .val (.int v17), .val (.ref b20), .val (.int v2), .unset, .unset] [(.int (nar .boolean (own_used ((i1 <<< ((5 : Int32) &&& 31)) ||| v2))))])) _
      refine XS.pop X56.here hx rfl (hb hby at_81) rfl rfl ?_
      show Steps p.tables e below (T56.setTop (mkF m 82 #[.val (.int i0), .val (.int i1), .val (.int i2), .val (.int i3), .val (.int v2), .val (.int v7), .val (.int v12), .val (.int v17), .val (.ref b20), .val (.int v2), .unset, .unset] [])) _
      refine XS.bipush X56.here hx rfl (hb hby at_82) ?_
      show Steps p.tables e below (T56.setTop (mkF m 84 #[.val (.int i0), .val (.int i1), .val (.int i2), .val (.int i3), .val (.int v2), .val (.int v7), .val (.int v12), .val (.int v17), .val (.ref b20), .val (.int v2), .unset, .unset] [(.int (15 : Int32))])) _
      refine XS.iload X56.here hx rfl (hb hby at_84) rfl ?_
      show Steps p.tables e below (T56.setTop (mkF m 86 #[.val (.int i0), .val (.int i1), .val (.int i2), .val (.int i3), .val (.int v2), .val (.int v7), .val (.int v12), .val (.int v17), .val (.ref b20), .val (.int v2), .unset, .unset] [(.int v2), (.int (15 : Int32))])) _
      refine XS.iconst X56.here hx rfl (hb hby at_86) ?_
      show Steps p.tables e below (T56.setTop (mkF m 87 #[.val (.int i0), .val (.int i1), .val (.int i2), .val (.int i3), .val (.int v2), .val (.int v7), .val (.int v12), .val (.int v17), .val (.ref b20), .val (.int v2), .unset, .unset] [(.int (1 : Int32)), (.int v2), (.int (15 : Int32))])) _
      refine XS.iadd X56.here hx rfl (hb hby at_87) rfl ?_
      exact k)
    obtain ⟨_, _, ⟨T61, L61, k61, n61⟩, -, X61, ⟨Lc61, hQ61, l61, y61, z61⟩, st61⟩ := Jvm.LawKit.callS X56 hx (y := (⟨"java/lang/Math", "min", "(II)I"⟩ : MethodName)) hown (mvT hZ (hw _ (List.mem_of_getElem? (i := 42) rfl))) (mvT hZ (hw _ (List.mem_of_getElem? (i := 38) rfl))) (mvT hZ (hw _ (List.mem_of_getElem? (i := 39) rfl))) (mvT hZ (hw _ (List.mem_of_getElem? (i := 40) rfl))) (by decide) (backOf (W := 0) (rm7 l Z a0 hw [] (15 : Int32) (v2 + (1 : Int32)) T56.heap n0 Z_57 ) hZ (hw _ (List.mem_of_getElem? (i := 40) rfl)) (hw _ (List.mem_of_getElem? (i := 39) rfl)) (by decide) (by decide)) (g := (mkF m 88 #[.val (.int i0), .val (.int i1), .val (.int i2), .val (.int i3), .val (.int v2), .val (.int v7), .val (.int v12), .val (.int v17), .val (.ref b20), .val (.int v2), .unset, .unset] [(.int (v2 + (1 : Int32))), (.int (15 : Int32))])) rfl (by rw [hml]; rfl) (argsL := [(.int (15 : Int32)), (.int (v2 + (1 : Int32)))]) (rest := []) (lenOf pd_2 rfl) rfl (by show 2 * 0 + _ ≤ _; exact Nat.le_of_eq rfl) (hb hby at_88) (fun _ _ => ⟨rfl, rfl, (by decide : (0 + 1 + 0 + 0 + 0) + 0 ≤ _), (by decide : (0 + 8 + 0 + 0 + 0) + 0 ≤ _)⟩)
    dsimp only [Pt.U, Pt.locs, Pt.cells, Pt.slots] at X61 l61 y61 z61 st61 hQ61
    subst l61 y61 z61
    obtain ⟨rfl, N61q, e61⟩ := hQ61
    have N61 := Fr.app N56 N61q
    have P62 : own_Rch p.tables e below A0 (T61.setTop (mkF m 91 #[.val (.int i0), .val (.int i1), .val (.int i2), .val (.int i3), .val (.int v2), .val (.int v7), .val (.int v12), .val (.int v17), .val (.ref b20), .val (.int v2), .unset, .unset] [(.int (own_min (15 : Int32) (v2 + (1 : Int32))))])) := fun t k => P60 t (st61 t k)
    have P63 : own_Rch p.tables e below A0 (T61.setTop (mkF m 93 #[.val (.int i0), .val (.int i1), .val (.int i2), .val (.int i3), .val (.int v2), .val (.int v7), .val (.int v12), .val (.int v17), .val (.ref b20), .val (.int (own_min (15 : Int32) (v2 + (1 : Int32)))), .unset, .unset] [])) := fun t k => P62 t (by
      show Steps p.tables e below (T61.setTop (mkF m 91 #[.val (.int i0), .val (.int i1), .val (.int i2), .val (.int i3), .val (.int v2), .val (.int v7), .val (.int v12), .val (.int v17), .val (.ref b20), .val (.int v2), .unset, .unset] [(.int (own_min (15 : Int32) (v2 + (1 : Int32))))])) _
      refine XS.istore X61.here hx rfl (hb hby at_91) rfl (l' := #[.val (.int i0), .val (.int i1), .val (.int i2), .val (.int i3), .val (.int v2), .val (.int v7), .val (.int v12), .val (.int v17), .val (.ref b20), .val (.int (own_min (15 : Int32) (v2 + (1 : Int32)))), .unset, .unset]) rfl ?_
      exact k)
    obtain ⟨v64, hv64, P65⟩ : ∃ z : Int32, z = (own_min (15 : Int32) (v2 + (1 : Int32))) ∧ own_Rch p.tables e below A0 (T61.setTop (mkF m 93 #[.val (.int i0), .val (.int i1), .val (.int i2), .val (.int i3), .val (.int v2), .val (.int v7), .val (.int v12), .val (.int v17), .val (.ref b20), .val (.int z), .unset, .unset] [])) := ⟨_, rfl, P63⟩
    have P66 : own_Rch p.tables e below A0 (T61.setTop (mkF m 100 #[.val (.int i0), .val (.int i1), .val (.int i2), .val (.int i3), .val (.int v2), .val (.int v7), .val (.int v12), .val (.int v17), .val (.ref b20), .val (.int v64), .val (.int (v17 &&& (134217727 : Int32))), .unset] [])) := fun t k => P65 t (by
      show Steps p.tables e below (T61.setTop (mkF m 93 #[.val (.int i0), .val (.int i1), .val (.int i2), .val (.int i3), .val (.int v2), .val (.int v7), .val (.int v12), .val (.int v17), .val (.ref b20), .val (.int v64), .unset, .unset] [])) _
      refine XS.iload X61.here hx rfl (hb hby at_93) rfl ?_
      show Steps p.tables e below (T61.setTop (mkF m 95 #[.val (.int i0), .val (.int i1), .val (.int i2), .val (.int i3), .val (.int v2), .val (.int v7), .val (.int v12), .val (.int v17), .val (.ref b20), .val (.int v64), .unset, .unset] [(.int v17)])) _
      refine X61.ldcInt hx hown (mvT hZ (hw _ (List.mem_of_getElem? (i := 43) rfl))) (g := (mkF m 95 #[.val (.int i0), .val (.int i1), .val (.int i2), .val (.int i3), .val (.int v2), .val (.int v7), .val (.int v12), .val (.int v17), .val (.ref b20), .val (.int v64), .unset, .unset] [(.int v17)])) rfl (hb hby at_95) _ ?_
      show Steps p.tables e below (T61.setTop (mkF m 97 #[.val (.int i0), .val (.int i1), .val (.int i2), .val (.int i3), .val (.int v2), .val (.int v7), .val (.int v12), .val (.int v17), .val (.ref b20), .val (.int v64), .unset, .unset] [(.int (134217727 : Int32)), (.int v17)])) _
      refine XS.iand X61.here hx rfl (hb hby at_97) rfl ?_
      show Steps p.tables e below (T61.setTop (mkF m 98 #[.val (.int i0), .val (.int i1), .val (.int i2), .val (.int i3), .val (.int v2), .val (.int v7), .val (.int v12), .val (.int v17), .val (.ref b20), .val (.int v64), .unset, .unset] [(.int (v17 &&& (134217727 : Int32)))])) _
      refine XS.istore X61.here hx rfl (hb hby at_98) rfl (l' := #[.val (.int i0), .val (.int i1), .val (.int i2), .val (.int i3), .val (.int v2), .val (.int v7), .val (.int v12), .val (.int v17), .val (.ref b20), .val (.int v64), .val (.int (v17 &&& (134217727 : Int32))), .unset]) rfl ?_
      exact k)
    obtain ⟨v67, hv67, P68⟩ : ∃ z : Int32, z = (v17 &&& (134217727 : Int32)) ∧ own_Rch p.tables e below A0 (T61.setTop (mkF m 100 #[.val (.int i0), .val (.int i1), .val (.int i2), .val (.int i3), .val (.int v2), .val (.int v7), .val (.int v12), .val (.int v17), .val (.ref b20), .val (.int v64), .val (.int z), .unset] [])) := ⟨_, rfl, P66⟩
    have P69 : own_Rch p.tables e below A0 (T61.setTop (mkF m 104 #[.val (.int i0), .val (.int i1), .val (.int i2), .val (.int i3), .val (.int v2), .val (.int v7), .val (.int v12), .val (.int v17), .val (.ref b20), .val (.int v64), .val (.int v67), .unset] [(.int v67), (.int v64)])) := fun t k => P68 t (by
      show Steps p.tables e below (T61.setTop (mkF m 100 #[.val (.int i0), .val (.int i1), .val (.int i2), .val (.int i3), .val (.int v2), .val (.int v7), .val (.int v12), .val (.int v17), .val (.ref b20), .val (.int v64), .val (.int v67), .unset] [])) _
      refine XS.iload X61.here hx rfl (hb hby at_100) rfl ?_
      show Steps p.tables e below (T61.setTop (mkF m 102 #[.val (.int i0), .val (.int i1), .val (.int i2), .val (.int i3), .val (.int v2), .val (.int v7), .val (.int v12), .val (.int v17), .val (.ref b20), .val (.int v64), .val (.int v67), .unset] [(.int v64)])) _
      refine XS.iload X61.here hx rfl (hb hby at_102) rfl ?_
      exact k)
    obtain ⟨_, _, ⟨T70, L70, k70, n70⟩, -, X70, ⟨Lc70, hQ70, l70, y70, z70⟩, st70⟩ := Jvm.LawKit.callS X61 hx (y := (⟨"com/example/tinyward/tinyward/NodeFrequencyPinLaw", "halved", "(II)I"⟩ : MethodName)) hown (mvT hZ (hw _ (List.mem_of_getElem? (i := 44) rfl))) (mvT hZ (hw _ (List.mem_of_getElem? (i := 45) rfl))) (mvT hZ (hw _ (List.mem_of_getElem? (i := 46) rfl))) (mvT hZ (hw _ (List.mem_of_getElem? (i := 47) rfl))) (by decide) (backOf (W := 0) (rm8 l Z a0 hw [] v64 v67 T56.heap n0 Z_57 ) hZ (hw _ (List.mem_of_getElem? (i := 47) rfl)) (hw _ (List.mem_of_getElem? (i := 46) rfl)) (by decide) (by decide)) (g := (mkF m 104 #[.val (.int i0), .val (.int i1), .val (.int i2), .val (.int i3), .val (.int v2), .val (.int v7), .val (.int v12), .val (.int v17), .val (.ref b20), .val (.int v64), .val (.int v67), .unset] [(.int v67), (.int v64)])) rfl (by rw [hml]; rfl) (argsL := [(.int v64), (.int v67)]) (rest := []) (lenOf pd_2 rfl) rfl (by show 2 * 0 + _ ≤ _; exact Nat.le_of_eq rfl) (hb hby at_104) (fun _ _ => ⟨rfl, e61, (by decide : (0 + 1 + 0 + 0 + 0 + 0) + 0 ≤ _), (by decide : (0 + 8 + 0 + 0 + 0 + 0) + 0 ≤ _)⟩)
    dsimp only [Pt.U, Pt.locs, Pt.cells, Pt.slots] at X70 l70 y70 z70 st70 hQ70
    subst l70 y70 z70
    obtain ⟨rfl, N70q, e70⟩ := hQ70
    have N70 := Fr.app N61 N70q
    have P71 : own_Rch p.tables e below A0 (T70.setTop (mkF m 107 #[.val (.int i0), .val (.int i1), .val (.int i2), .val (.int i3), .val (.int v2), .val (.int v7), .val (.int v12), .val (.int v17), .val (.ref b20), .val (.int v64), .val (.int v67), .unset] [(.int (own_half v64 v67))])) := fun t k => P69 t (st70 t k)
    have P72 : own_Rch p.tables e below A0 (T70.setTop (mkF m 109 #[.val (.int i0), .val (.int i1), .val (.int i2), .val (.int i3), .val (.int v2), .val (.int v7), .val (.int v12), .val (.int v17), .val (.ref b20), .val (.int v64), .val (.int v67), .val (.int (own_half v64 v67))] [])) := fun t k => P71 t (by
      show Steps p.tables e below (T70.setTop (mkF m 107 #[.val (.int i0), .val (.int i1), .val (.int i2), .val (.int i3), .val (.int v2), .val (.int v7), .val (.int v12), .val (.int v17), .val (.ref b20), .val (.int v64), .val (.int v67), .unset] [(.int (own_half v64 v67))])) _
      refine XS.istore X70.here hx rfl (hb hby at_107) rfl (l' := #[.val (.int i0), .val (.int i1), .val (.int i2), .val (.int i3), .val (.int v2), .val (.int v7), .val (.int v12), .val (.int v17), .val (.ref b20), .val (.int v64), .val (.int v67), .val (.int (own_half v64 v67))]) rfl ?_
      exact k)
    obtain ⟨v73, hv73, P74⟩ : ∃ z : Int32, z = (own_half v64 v67) ∧ own_Rch p.tables e below A0 (T70.setTop (mkF m 109 #[.val (.int i0), .val (.int i1), .val (.int i2), .val (.int i3), .val (.int v2), .val (.int v7), .val (.int v12), .val (.int v17), .val (.ref b20), .val (.int v64), .val (.int v67), .val (.int z)] [])) := ⟨_, rfl, P72⟩
    have P75 : own_Rch p.tables e below A0 (T70.setTop (mkF m 115 #[.val (.int i0), .val (.int i1), .val (.int i2), .val (.int i3), .val (.int v2), .val (.int v7), .val (.int v12), .val (.int v17), .val (.ref b20), .val (.int v64), .val (.int v67), .val (.int v73)] [(.int (i1 + v17)), (.ref b20)])) := fun t k => P74 t (by
      show Steps p.tables e below (T70.setTop (mkF m 109 #[.val (.int i0), .val (.int i1), .val (.int i2), .val (.int i3), .val (.int v2), .val (.int v7), .val (.int v12), .val (.int v17), .val (.ref b20), .val (.int v64), .val (.int v67), .val (.int v73)] [])) _
      refine XS.aload X70.here hx rfl (hb hby at_109) rfl rfl ?_
      show Steps p.tables e below (T70.setTop (mkF m 111 #[.val (.int i0), .val (.int i1), .val (.int i2), .val (.int i3), .val (.int v2), .val (.int v7), .val (.int v12), .val (.int v17), .val (.ref b20), .val (.int v64), .val (.int v67), .val (.int v73)] [(.ref b20)])) _
      refine XS.iloadN X70.here hx rfl (hb hby at_111) rfl ?_
      show Steps p.tables e below (T70.setTop (mkF m 112 #[.val (.int i0), .val (.int i1), .val (.int i2), .val (.int i3), .val (.int v2), .val (.int v7), .val (.int v12), .val (.int v17), .val (.ref b20), .val (.int v64), .val (.int v67), .val (.int v73)] [(.int i1), (.ref b20)])) _
      refine XS.iload X70.here hx rfl (hb hby at_112) rfl ?_
      show Steps p.tables e below (T70.setTop (mkF m 114 #[.val (.int i0), .val (.int i1), .val (.int i2), .val (.int i3), .val (.int v2), .val (.int v7), .val (.int v12), .val (.int v17), .val (.ref b20), .val (.int v64), .val (.int v67), .val (.int v73)] [(.int v17), (.int i1), (.ref b20)])) _
      refine XS.iadd X70.here hx rfl (hb hby at_114) rfl ?_
      exact k)
    obtain ⟨cq76, kq76, q76a, q76b, q76c⟩ := isOf hZ e70 E_58
    obtain ⟨_, _, ⟨T76, L76, k76, n76⟩, -, X76, ⟨Lc76, hQ76, l76, y76, z76⟩, st76⟩ := X70.virtualBack hx (y := (⟨"com/example/tinyward/tinyward/Node", "frequency", "(I)I"⟩ : MethodName)) (z := (⟨"com/example/tinyward/tinyward/Node", "frequency", "(I)I"⟩ : MethodName)) hown (mvT hZ (hw _ (List.mem_of_getElem? (i := 48) rfl))) (mvT hZ (hw _ (List.mem_of_getElem? (i := 33) rfl))) (notFace_of_selects (args := #[]) (mvT hZ (hw _ (List.mem_of_getElem? (i := 35) rfl)))) (mvT hZ (hw _ (List.mem_of_getElem? (i := 35) rfl))) (mvT hZ (hw _ (List.mem_of_getElem? (i := 34) rfl))) (by decide) (backOf (W := 0) (rm6 l Z a0 hw [] b20 (i1 + v17) (((i1 <<< ((5 : Int32) &&& 31)) ||| (own_min (15 : Int32) ((own_freq i1 ((i1 <<< ((5 : Int32) &&& 31)) ||| v2)) + (1 : Int32)))) ||| (16 : Int32)) T56.heap n0 Z_57 F56q0) hZ (hw _ (List.mem_of_getElem? (i := 36) rfl)) (hw _ (List.mem_of_getElem? (i := 2) rfl)) (by decide) (by decide)) q76a q76c (g := (mkF m 115 #[.val (.int i0), .val (.int i1), .val (.int i2), .val (.int i3), .val (.int v2), .val (.int v7), .val (.int v12), .val (.int v17), .val (.ref b20), .val (.int v64), .val (.int v67), .val (.int v73)] [(.int (i1 + v17)), (.ref b20)])) rfl (by rw [hml]; rfl) (Steps.refl _) (argsL := [(.int (i1 + v17))]) (rest := []) (lenOf pd_1 rfl) rfl (by show 2 * 0 + _ ≤ _; exact Nat.le_of_eq rfl) (hb hby at_115) (fun _ _ => ⟨rfl, e70, (by decide : (0 + 1 + 0 + 0 + 0 + 0 + 0) + 0 ≤ _), (by decide : (0 + 8 + 0 + 0 + 0 + 0 + 0) + 0 ≤ _)⟩)
    dsimp only [Pt.U, Pt.locs, Pt.cells, Pt.slots] at X76 l76 y76 z76 st76 hQ76
    subst l76 y76 z76
    obtain ⟨rfl, N76q, e76⟩ := hQ76
    have N76 := Fr.app N70 N76q
    have P77 : own_Rch p.tables e below A0 (T76.setTop (mkF m 118 #[.val (.int i0), .val (.int i1), .val (.int i2), .val (.int i3), .val (.int v2), .val (.int v7), .val (.int v12), .val (.int v17), .val (.ref b20), .val (.int v64), .val (.int v67), .val (.int v73)] [(.int (own_freq (i1 + v17) (((i1 <<< ((5 : Int32) &&& 31)) ||| (own_min (15 : Int32) ((own_freq i1 ((i1 <<< ((5 : Int32) &&& 31)) ||| v2)) + (1 : Int32)))) ||| (16 : Int32))))])) := fun t k => P75 t (st76.trans k)
    have P79 : own_Rch p.tables e below A0 (T76.setTop (mkF m 120 #[.val (.int i0), .val (.int i1), .val (.int i2), .val (.int i3), .val (.int v2), .val (.int v7), .val (.int v12), .val (.int v17), .val (.ref b20), .val (.int v64), .val (.int v67), .val (.int v73)] [(.int v73), (.int (own_freq (i1 + v17) (((i1 <<< ((5 : Int32) &&& 31)) ||| (own_min (15 : Int32) ((own_freq i1 ((i1 <<< ((5 : Int32) &&& 31)) ||| v2)) + (1 : Int32)))) ||| (16 : Int32))))])) := fun t k => P77 t (by
      show Steps p.tables e below (T76.setTop (mkF m 118 #[.val (.int i0), .val (.int i1), .val (.int i2), .val (.int i3), .val (.int v2), .val (.int v7), .val (.int v12), .val (.int v17), .val (.ref b20), .val (.int v64), .val (.int v67), .val (.int v73)] [(.int (own_freq (i1 + v17) (((i1 <<< ((5 : Int32) &&& 31)) ||| (own_min (15 : Int32) ((own_freq i1 ((i1 <<< ((5 : Int32) &&& 31)) ||| v2)) + (1 : Int32)))) ||| (16 : Int32))))])) _
      refine XS.iload X76.here hx rfl (hb hby at_118) rfl ?_
      exact k)
    by_cases hc78 : (own_freq (i1 + v17) (((i1 <<< ((5 : Int32) &&& 31)) ||| (own_min (15 : Int32) ((own_freq i1 ((i1 <<< ((5 : Int32) &&& 31)) ||| v2)) + (1 : Int32)))) ||| (16 : Int32))) = v73
    · -- (own_freq (i1 + v17) (((i1 <<< ((5 : Int32) &&& 31)) ||| (own_min (15 : Int32) ((own_freq i1 ((i1 <<< ((5 : Int32) &&& 31)) ||| v2)) + (1 : Int32)))) ||| (16 : Int32))) = v73
      have P80 : own_Rch p.tables e below A0 (T76.setTop (mkF m 128 #[.val (.int i0), .val (.int i1), .val (.int i2), .val (.int i3), .val (.int v2), .val (.int v7), .val (.int v12), .val (.int v17), .val (.ref b20), .val (.int v64), .val (.int v67), .val (.int v73)] [(.int (1 : Int32))])) := fun t k => P79 t (by
        show Steps p.tables e below (T76.setTop (mkF m 120 #[.val (.int i0), .val (.int i1), .val (.int i2), .val (.int i3), .val (.int v2), .val (.int v7), .val (.int v12), .val (.int v17), .val (.ref b20), .val (.int v64), .val (.int v67), .val (.int v73)] [(.int v73), (.int (own_freq (i1 + v17) (((i1 <<< ((5 : Int32) &&& 31)) ||| (own_min (15 : Int32) ((own_freq i1 ((i1 <<< ((5 : Int32) &&& 31)) ||| v2)) + (1 : Int32)))) ||| (16 : Int32))))])) _
        refine XS.icmpNo X76.here hx rfl (hb hby at_120) rfl (teq hc78).2 ?_
        show Steps p.tables e below (T76.setTop (mkF m 123 #[.val (.int i0), .val (.int i1), .val (.int i2), .val (.int i3), .val (.int v2), .val (.int v7), .val (.int v12), .val (.int v17), .val (.ref b20), .val (.int v64), .val (.int v67), .val (.int v73)] [])) _
        refine XS.iconst X76.here hx rfl (hb hby at_123) ?_
        show Steps p.tables e below (T76.setTop (mkF m 124 #[.val (.int i0), .val (.int i1), .val (.int i2), .val (.int i3), .val (.int v2), .val (.int v7), .val (.int v12), .val (.int v17), .val (.ref b20), .val (.int v64), .val (.int v67), .val (.int v73)] [(.int (1 : Int32))])) _
        refine XS.goto X76.here hx rfl (pc0 := 124) (pc' := 128) rfl (hb hby at_124) (by decide) (by decide) ?_
        exact k)
      obtain ⟨fs, hr, hrun, hended, hW, hsame⟩ := X76.leave (v := some (.int (nar .boolean (1 : Int32)))) (fun h => by rw [Bd.returns] at h; cases h)
      refine ⟨_, _, P00 _ (P80 _ ?_), hrun, hended, _, _, rfl, ?_, ⟨_, rfl⟩, hW, hsame.mono (by decide) (by decide)⟩
      · exact retN X76 hx (t := .boolean) Bd.returns (by simp) (hb hby at_128) hr
      · show Q0 Z i0 i1 i2 i3 h0 n0 _ T76.heap _
        rw [e76]
        refine ⟨?_, N76⟩
        rfl
    · -- not (own_freq (i1 + v17) (((i1 <<< ((5 : Int32) &&& 31)) ||| (own_min (15 : Int32) ((own_freq i1 ((i1 <<< ((5 : Int32) &&& 31)) ||| v2)) + (1 : Int32)))) ||| (16 : Int32))) = v73
      have P81 : own_Rch p.tables e below A0 (T76.setTop (mkF m 128 #[.val (.int i0), .val (.int i1), .val (.int i2), .val (.int i3), .val (.int v2), .val (.int v7), .val (.int v12), .val (.int v17), .val (.ref b20), .val (.int v64), .val (.int v67), .val (.int v73)] [(.int (0 : Int32))])) := fun t k => P79 t (by
        show Steps p.tables e below (T76.setTop (mkF m 120 #[.val (.int i0), .val (.int i1), .val (.int i2), .val (.int i3), .val (.int v2), .val (.int v7), .val (.int v12), .val (.int v17), .val (.ref b20), .val (.int v64), .val (.int v67), .val (.int v73)] [(.int v73), (.int (own_freq (i1 + v17) (((i1 <<< ((5 : Int32) &&& 31)) ||| (own_min (15 : Int32) ((own_freq i1 ((i1 <<< ((5 : Int32) &&& 31)) ||| v2)) + (1 : Int32)))) ||| (16 : Int32))))])) _
        refine XS.icmpYes X76.here hx rfl (pc0 := 120) (pc' := 127) rfl (hb hby at_120) rfl (feq hc78).2 (by decide) (by decide) ?_
        show Steps p.tables e below (T76.setTop (mkF m 127 #[.val (.int i0), .val (.int i1), .val (.int i2), .val (.int i3), .val (.int v2), .val (.int v7), .val (.int v12), .val (.int v17), .val (.ref b20), .val (.int v64), .val (.int v67), .val (.int v73)] [])) _
        refine XS.iconst X76.here hx rfl (hb hby at_127) ?_
        exact k)
      obtain ⟨fs, hr, hrun, hended, hW, hsame⟩ := X76.leave (v := some (.int (nar .boolean (0 : Int32)))) (fun h => by rw [Bd.returns] at h; cases h)
      refine ⟨_, _, P00 _ (P81 _ ?_), hrun, hended, _, _, rfl, ?_, ⟨_, rfl⟩, hW, hsame.mono (by decide) (by decide)⟩
      · exact retN X76 hx (t := .boolean) Bd.returns (by simp) (hb hby at_128) hr
      · show Q0 Z i0 i1 i2 i3 h0 n0 _ T76.heap _
        rw [e76]
        refine ⟨?_, N76⟩
        subst hv73 hv67 hv64 hv2
        exact absurd (own_b i0 i1 v17) hc78
set_option maxRecDepth 65536 in
set_option maxHeartbeats 40000000 in
theorem comes_1 {Post : Tables → Env → Array Value → State → Outcome → State → Prop} (hpost : ∀ tb e args s v u, (limb_1_1.after args s (.returned v) u = true ∧ limb_1_2.after args s (.returned v) u = true ∧ True) → FrameEnd s (.returned v) u (Jvm.fieldLocs frame_1_writes args s ++ Jvm.arrayLocs frame_1_arrays args s ++ Jvm.staticLocs frame_1_statics s) 16 128 → Post tb e args s (.returned v) u) :
    ArmFor flags0 classFile x code maxLocals ret World_1 tables_1 room_1 Calls_1 rest_1 Pre_1 Post := by
  intro l hfl _ _ p e ha hc hk s m args below hf hA hF happ hP
  obtain ⟨hcalls, hrest, hpre⟩ := hP
  obtain ⟨-, -, -, hnamed, -, -, -, hat⟩ := (Spec.applies_iff hf).mp happ
  obtain ⟨hg, hn⟩ := and_e (Cond.before_iff.mp (show (Jvm.Cond.and given_1 narrow_1).before args s = true from hpre))
  obtain ⟨ga0, gb0⟩ := and_e hg
  obtain ⟨ga1, gb1⟩ := and_e gb0
  obtain ⟨ga2, gb2⟩ := and_e gb1
  obtain ⟨ga3, gb3⟩ := and_e gb2
  obtain ⟨w0, w1, w2, w3, rfl⟩ : ∃ w0 w1 w2 w3 : Value, args = #[w0, w1, w2, w3] := by
    have hs : args.size = 4 := by simpa [Cond.value, given_1] using ga0
    obtain ⟨L⟩ := args
    match L, hs with
    | [w0, w1, w2, w3], _ => exact ⟨w0, w1, w2, w3, rfl⟩
  have hw := fun d (hd : d ∈ tables_1) => atoms_spec (ws := Jvm.Cond.code x code maxLocals ret :: tables_1) hat d (List.mem_cons_of_mem _ hd)
  have hfit : Fit s := fun {y c} hc i hi => by
    obtain ⟨ha, rfl⟩ := Array.getElem?_eq_some_iff.mp hc
    have q := List.all_eq_true.mp ((Array.all_eq_true_iff_forall_mem.mp hF) _ (Array.getElem_mem ha)) i (List.mem_range.mpr hi)
    simpa [Array.getElem?_eq_getElem hi] using q
  obtain ⟨i0, ei0⟩ := is_v ga1
  obtain rfl : w0 = (.int i0) := Option.some.inj ei0
  obtain ⟨i1, ei1⟩ := is_v ga2
  obtain rfl : w1 = (.int i1) := Option.some.inj ei1
  obtain ⟨i2, ei2⟩ := is_v ga3
  obtain rfl : w2 = (.int i2) := Option.some.inj ei2
  obtain ⟨i3, ei3⟩ := is_v gb3
  obtain rfl : w3 = (.int i3) := Option.some.inj ei3
  obtain ⟨n, o, h1, h2, h3, _, L, rfl, ⟨rfl, N⟩, hq⟩ := rm0 l s _ hw tables_1 i0 i1 i2 i3  s.heap s.heap.size (Nat.le_refl _)  p e ha hc hk s m _ below hf ((Spec.applies_iff_loose hf).mp happ).1 ⟨rfl, State.Warmed39.refl s, rfl⟩ trivial
  refine ⟨n, _, h1, h2, h3, hpost _ _ _ _ _ _ ⟨Cond.after_iff.mpr rfl, Cond.after_iff.mpr (eq_i res_at (Term.int_eval (1)) rfl), trivial⟩ ⟨hq.1, hq.2.1, (hq.2.2.sift fun y hy => Or.inr (N y hy)).mono (by decide) (by decide)⟩⟩
theorem main_1_1 : Claimed_1_1 := comes_1 fun _ _ _ _ _ _ h hF => ⟨h.1, hF⟩
theorem main_1_2 : Claimed_1_2 := comes_1 fun _ _ _ _ _ _ h hF => ⟨h.2.1, hF⟩
end Jvm.Pilot.@@N@@
namespace Jvm.Pilot.@@N@@
open Jvm Jvm.ClassFile Sem Op Lib Jvm.Free Jvm.Stand Jvm.Pilot.@@N@@.Jvm.D
/-! MADE BY PROGRAM (witnessworld.py) out of the Statement's table words and the real class files: 10 classes; the members and pool entries that the words name. The judged class is class 1, her method 2. -/
namespace start1
open Jvm.ClassFile
def u (s : String) : CpInfo := .utf8 (stringToUtf16 s)
/-- a pool by its gaps: so many unusable entries, then the entry; so many at the end -/
def gap : Nat → List CpInfo → List CpInfo
  | 0, r => r
  | n + 1, r => .unusable :: gap n r
def poolList (es : List (Nat × CpInfo)) (last : Nat) : List CpInfo := es.foldr (fun e r => gap e.1 (e.2 :: r)) (gap last [])
def pool (es : List (Nat × CpInfo)) (last : Nat) : Array CpInfo := ⟨poolList es last⟩
def fileOf (pool : Array CpInfo) (this : Nat) (attrs : Array Attribute := #[]) (ms : Array MethodInfo := #[]) (fl : Nat := 33) (sup : Nat := 0) (ifs : Array Nat := #[]) (fds : Array FieldInfo := #[]) : ClassFile where
  minorVersion := 0
  majorVersion := 65
  constantPool := pool
  accessFlags := fl
  thisClass := this
  superClass := sup
  interfaces := ifs
  fields := fds
  methods := ms
  attributes := attrs
def plain (name : String) (sup : Option ClassId) : Class where
  name := name
  kind := .ordinary
  loader := none
  accessFlags := 33
  super := sup
  interfaces := #[]
  cf := none
  fields := #[]
  methods := #[]
  instanceTypes := #[]
  staticTypes := #[]
  resolved := #[]
  callSites := []
  init := .initialized
  statics := none
  mirror := none

def pool0 : Array CpInfo := pool [(5, u "<init>"), (0, u "()V"), (1, .class_ 10), (1, u "java/lang/Object")] 113

def k0c0 : Code := { maxStack := 0, maxLocals := 1, code := object_method_1_code, exceptionTable := #[], attributes := #[] }
def k0m0 : Method := { name := "<init>", desc := "()V", sig := { parameters := [], returnType := none }, accessFlags := 1, code := some k0c0 }
/-- java/lang/Object -/
def k0 : Class := { plain "java/lang/Object" none with
  accessFlags := 33
  interfaces := #[]
  cf := some (fileOf pool0 8 #[] #[{ accessFlags := 1, nameIndex := 5, descriptorIndex := 6, attributes := #[] }] 33 0 #[] #[])
  fields := #[]
  methods := #[k0m0]
  instanceTypes := #[]
  staticTypes := #[]
  resolved := Array.replicate 124 none
  statics := none }

def pool1 : Array CpInfo := pool [(2, .class_ 4), (1, u "java/lang/Object"), (0, u "<init>"), (0, u "()V"), (0, .class_ 8), (0, u "com/example/tinyward/tinyward/Node"), (0, .methodref 7 10), (0, .nameAndType 5 11), (0, u "(Ljava/lang/Object;Ljava/lang/Object;)V"), (0, .methodref 7 13), (0, .nameAndType 14 15), (0, u "startFrequency"), (0, u "(II)V"), (0, .methodref 7 17), (0, .nameAndType 18 19), (0, u "recordUse"), (0, u "(I)Z"), (0, .methodref 21 22), (0, .class_ 23), (0, .nameAndType 24 25), (0, u "java/lang/Math"), (0, u "min"), (0, u "(II)I"), (0, .integer 134217727), (0, .methodref 28 29), (0, .class_ 30), (0, .nameAndType 31 25), (0, u "com/example/tinyward/tinyward/NodeFrequencyPinLaw"), (0, u "halved"), (0, .methodref 7 33), (0, .nameAndType 34 35), (0, u "frequency"), (0, u "(I)I"), (3, u "law"), (0, u "(IIII)Z")] 2

def k1m0 : Method := { name := "<init>", desc := "()V", sig := { parameters := [], returnType := none }, accessFlags := 1, code := none }
def k1c1 : Code := { maxStack := 2, maxLocals := 2, code := method_2_code, exceptionTable := #[], attributes := #[] }
def k1m1 : Method := { name := "halved", desc := "(II)I", sig := { parameters := [.int, .int], returnType := some .int }, accessFlags := 10, code := some k1c1 }
def k1c2 : Code := { maxStack := 4, maxLocals := 12, code := code, exceptionTable := #[], attributes := #[] }
def k1m2 : Method := { name := "law", desc := "(IIII)Z", sig := { parameters := [.int, .int, .int, .int], returnType := some .boolean }, accessFlags := 9, code := some k1c2 }
/-- com/example/tinyward/tinyward/NodeFrequencyPinLaw -/
def k1 : Class := { plain "com/example/tinyward/tinyward/NodeFrequencyPinLaw" (some 0) with
  accessFlags := 49
  interfaces := #[]
  cf := some (fileOf pool1 28 #[] #[{ accessFlags := 1, nameIndex := 5, descriptorIndex := 6, attributes := #[] }, { accessFlags := 10, nameIndex := 31, descriptorIndex := 25, attributes := #[] }, { accessFlags := 9, nameIndex := 39, descriptorIndex := 40, attributes := #[] }] 49 2 #[] #[])
  fields := #[]
  methods := #[k1m0, k1m1, k1m2]
  instanceTypes := #[]
  staticTypes := #[]
  resolved := Array.replicate 43 none
  statics := none }

def pool2 : Array CpInfo := pool [(1, .class_ 2), (0, u "com/example/tinyward/tinyward/Node"), (0, .methodref 4 5), (0, .class_ 6), (0, .nameAndType 7 8), (0, u "java/lang/Object"), (0, u "<init>"), (0, u "()V"), (0, .fieldref 1 10), (0, .nameAndType 11 12), (0, u "state"), (0, u "I"), (0, .fieldref 1 14), (0, .nameAndType 15 16), (0, u "key"), (0, u "Ljava/lang/Object;"), (0, .fieldref 1 18), (0, .nameAndType 19 16), (0, u "value"), (0, .fieldref 1 21), (0, .nameAndType 22 12), (0, u "frequency"), (2, .methodref 1 26), (0, .nameAndType 27 28), (0, u "wasUsed"), (0, u "()Z"), (0, .methodref 1 30), (0, .nameAndType 22 31), (0, u "(I)I"), (0, .methodref 33 34), (0, .class_ 35), (0, .nameAndType 36 37), (0, u "java/lang/Math"), (0, u "min"), (0, u "(II)I"), (0, .methodref 1 39), (0, .nameAndType 40 41), (0, u "startFrequency"), (0, u "(II)V"), (0, u "ALIVE"), (2, u "RETIRED"), (1, u "DEAD"), (1, u "COUNT_BITS"), (1, u "USED"), (1, u "EPOCH_SHIFT"), (4, u "order"), (0, u "Lcom/example/tinyward/tinyward/AccessOrder;"), (1, u "prev"), (0, u "Lcom/example/tinyward/tinyward/Node;"), (1, u "next"), (0, u "hash"), (0, u "(Ljava/lang/Object;Ljava/lang/Object;)V"), (8, u "recordUse"), (0, u "(I)Z")] 3

def k2c0 : Code := { maxStack := 2, maxLocals := 3, code := prog_31_method_1_code, exceptionTable := #[], attributes := #[] }
def k2m0 : Method := { name := "<init>", desc := "(Ljava/lang/Object;Ljava/lang/Object;)V", sig := { parameters := [(.object "java/lang/Object"), (.object "java/lang/Object")], returnType := none }, accessFlags := 0, code := some k2c0 }
def k2c1 : Code := { maxStack := 3, maxLocals := 3, code := prog_31_method_6_code, exceptionTable := #[], attributes := #[] }
def k2m1 : Method := { name := "startFrequency", desc := "(II)V", sig := { parameters := [.int, .int], returnType := none }, accessFlags := 0, code := some k2c1 }
def k2c2 : Code := { maxStack := 3, maxLocals := 3, code := prog_31_method_7_code, exceptionTable := #[], attributes := #[] }
def k2m2 : Method := { name := "frequency", desc := "(I)I", sig := { parameters := [.int], returnType := some .int }, accessFlags := 0, code := some k2c2 }
def k2c3 : Code := { maxStack := 4, maxLocals := 3, code := prog_31_method_8_code, exceptionTable := #[], attributes := #[] }
def k2m3 : Method := { name := "recordUse", desc := "(I)Z", sig := { parameters := [.int], returnType := some .boolean }, accessFlags := 0, code := some k2c3 }
def k2c4 : Code := { maxStack := 2, maxLocals := 1, code := prog_31_method_9_code, exceptionTable := #[], attributes := #[] }
def k2m4 : Method := { name := "wasUsed", desc := "()Z", sig := { parameters := [], returnType := some .boolean }, accessFlags := 0, code := some k2c4 }
/-- com/example/tinyward/tinyward/Node -/
def k2 : Class := { plain "com/example/tinyward/tinyward/Node" (some 0) with
  accessFlags := 32
  interfaces := #[]
  cf := some (fileOf pool2 1 #[] #[{ accessFlags := 0, nameIndex := 7, descriptorIndex := 66, attributes := #[] }, { accessFlags := 0, nameIndex := 40, descriptorIndex := 41, attributes := #[] }, { accessFlags := 0, nameIndex := 22, descriptorIndex := 31, attributes := #[] }, { accessFlags := 0, nameIndex := 75, descriptorIndex := 76, attributes := #[] }, { accessFlags := 0, nameIndex := 27, descriptorIndex := 28, attributes := #[] }] 32 4 #[] #[{ accessFlags := 26, nameIndex := 42, descriptorIndex := 12, attributes := #[] }, { accessFlags := 26, nameIndex := 45, descriptorIndex := 12, attributes := #[] }, { accessFlags := 26, nameIndex := 47, descriptorIndex := 12, attributes := #[] }, { accessFlags := 26, nameIndex := 49, descriptorIndex := 12, attributes := #[] }, { accessFlags := 26, nameIndex := 51, descriptorIndex := 12, attributes := #[] }, { accessFlags := 26, nameIndex := 53, descriptorIndex := 12, attributes := #[] }, { accessFlags := 16, nameIndex := 15, descriptorIndex := 16, attributes := #[] }, { accessFlags := 64, nameIndex := 19, descriptorIndex := 16, attributes := #[] }, { accessFlags := 66, nameIndex := 11, descriptorIndex := 12, attributes := #[] }, { accessFlags := 0, nameIndex := 58, descriptorIndex := 59, attributes := #[] }, { accessFlags := 0, nameIndex := 61, descriptorIndex := 62, attributes := #[] }, { accessFlags := 0, nameIndex := 64, descriptorIndex := 62, attributes := #[] }, { accessFlags := 2, nameIndex := 22, descriptorIndex := 12, attributes := #[] }, { accessFlags := 0, nameIndex := 65, descriptorIndex := 12, attributes := #[] }])
  fields := #[{ name := "ALIVE", type := .int, accessFlags := 26, slot := 0, constantValue := 0 }, { name := "RETIRED", type := .int, accessFlags := 26, slot := 1, constantValue := 0 }, { name := "DEAD", type := .int, accessFlags := 26, slot := 2, constantValue := 0 }, { name := "COUNT_BITS", type := .int, accessFlags := 26, slot := 3, constantValue := 0 }, { name := "USED", type := .int, accessFlags := 26, slot := 4, constantValue := 0 }, { name := "EPOCH_SHIFT", type := .int, accessFlags := 26, slot := 5, constantValue := 0 }, { name := "key", type := (.object "java/lang/Object"), accessFlags := 16, slot := 0, constantValue := 0 }, { name := "value", type := (.object "java/lang/Object"), accessFlags := 64, slot := 1, constantValue := 0 }, { name := "state", type := .int, accessFlags := 66, slot := 2, constantValue := 0 }, { name := "order", type := (.object "com/example/tinyward/tinyward/AccessOrder"), accessFlags := 0, slot := 3, constantValue := 0 }, { name := "prev", type := (.object "com/example/tinyward/tinyward/Node"), accessFlags := 0, slot := 4, constantValue := 0 }, { name := "next", type := (.object "com/example/tinyward/tinyward/Node"), accessFlags := 0, slot := 5, constantValue := 0 }, { name := "frequency", type := .int, accessFlags := 2, slot := 6, constantValue := 0 }, { name := "hash", type := .int, accessFlags := 0, slot := 7, constantValue := 0 }]
  methods := #[k2m0, k2m1, k2m2, k2m3, k2m4]
  instanceTypes := #[(.object "java/lang/Object"), (.object "java/lang/Object"), .int, (.object "com/example/tinyward/tinyward/AccessOrder"), (.object "com/example/tinyward/tinyward/Node"), (.object "com/example/tinyward/tinyward/Node"), .int, .int]
  staticTypes := #[.int, .int, .int, .int, .int, .int]
  resolved := Array.replicate 80 none
  statics := none }

def pool3 : Array CpInfo := pool [(1, .class_ 2), (0, u "java/lang/Math"), (1, .class_ 6), (1, u "java/lang/Object"), (0, u "<init>"), (0, u "()V"), (89, .class_ 100), (1, u "java/lang/Math$RandomNumberGeneratorHolder"), (71, u "negativeZeroFloatBits"), (0, u "J"), (2, u "negativeZeroDoubleBits"), (24, u "min"), (43, u "$assertionsDisabled"), (0, u "Z"), (88, u "(II)I"), (2, u "twoToTheDoubleScaleDown"), (0, u "D"), (4, u "twoToTheDoubleScaleUp"), (9, u "E"), (3, u "PI"), (2, u "TAU"), (2, u "DEGREES_TO_RADIANS"), (0, u "RADIANS_TO_DEGREES")] 94

def k3m0 : Method := { name := "<init>", desc := "()V", sig := { parameters := [], returnType := none }, accessFlags := 2, code := none }
def k3c1 : Code := { maxStack := 2, maxLocals := 2, code := jdk_29_method_69_code, exceptionTable := #[], attributes := #[] }
def k3m1 : Method := { name := "min", desc := "(II)I", sig := { parameters := [.int, .int], returnType := some .int }, accessFlags := 9, code := some k3c1 }
/-- java/lang/Math -/
def k3 : Class := { plain "java/lang/Math" (some 0) with
  accessFlags := 49
  interfaces := #[]
  cf := some (fileOf pool3 1 #[.nestMembers #[98]] #[{ accessFlags := 2, nameIndex := 7, descriptorIndex := 8, attributes := #[] }, { accessFlags := 9, nameIndex := 201, descriptorIndex := 335, attributes := #[] }] 49 4 #[] #[{ accessFlags := 25, nameIndex := 354, descriptorIndex := 339, attributes := #[] }, { accessFlags := 25, nameIndex := 358, descriptorIndex := 339, attributes := #[] }, { accessFlags := 25, nameIndex := 361, descriptorIndex := 339, attributes := #[] }, { accessFlags := 26, nameIndex := 364, descriptorIndex := 339, attributes := #[] }, { accessFlags := 26, nameIndex := 365, descriptorIndex := 339, attributes := #[] }, { accessFlags := 26, nameIndex := 172, descriptorIndex := 173, attributes := #[] }, { accessFlags := 26, nameIndex := 176, descriptorIndex := 173, attributes := #[] }, { accessFlags := 8, nameIndex := 344, descriptorIndex := 339, attributes := #[] }, { accessFlags := 8, nameIndex := 338, descriptorIndex := 339, attributes := #[] }, { accessFlags := 4120, nameIndex := 245, descriptorIndex := 246, attributes := #[] }])
  fields := #[{ name := "E", type := .double, accessFlags := 25, slot := 0, constantValue := 0 }, { name := "PI", type := .double, accessFlags := 25, slot := 1, constantValue := 0 }, { name := "TAU", type := .double, accessFlags := 25, slot := 2, constantValue := 0 }, { name := "DEGREES_TO_RADIANS", type := .double, accessFlags := 26, slot := 3, constantValue := 0 }, { name := "RADIANS_TO_DEGREES", type := .double, accessFlags := 26, slot := 4, constantValue := 0 }, { name := "negativeZeroFloatBits", type := .long, accessFlags := 26, slot := 5, constantValue := 0 }, { name := "negativeZeroDoubleBits", type := .long, accessFlags := 26, slot := 6, constantValue := 0 }, { name := "twoToTheDoubleScaleUp", type := .double, accessFlags := 8, slot := 7, constantValue := 0 }, { name := "twoToTheDoubleScaleDown", type := .double, accessFlags := 8, slot := 8, constantValue := 0 }, { name := "$assertionsDisabled", type := .boolean, accessFlags := 4120, slot := 9, constantValue := 0 }]
  methods := #[k3m0, k3m1]
  instanceTypes := #[]
  staticTypes := #[.double, .double, .double, .double, .double, .long, .long, .double, .double, .boolean]
  resolved := Array.replicate 460 none
  statics := none }

def pool4 : Array CpInfo := pool [(1, u "java/lang/Cloneable"), (0, .class_ 1), (0, u "java/lang/Object"), (0, .class_ 3)] 3

/-- java/lang/Cloneable -/
def k4 : Class := { plain "java/lang/Cloneable" (some 0) with
  accessFlags := 1537
  interfaces := #[]
  cf := some (fileOf pool4 2 #[] #[] 1537 4 #[] #[])
  fields := #[]
  methods := #[]
  instanceTypes := #[]
  staticTypes := #[]
  resolved := Array.replicate 8 none
  statics := none }

def pool5 : Array CpInfo := pool [(1, u "java/io/Serializable"), (0, .class_ 1), (0, u "java/lang/Object"), (0, .class_ 3)] 3

/-- java/io/Serializable -/
def k5 : Class := { plain "java/io/Serializable" (some 0) with
  accessFlags := 1537
  interfaces := #[]
  cf := some (fileOf pool5 2 #[] #[] 1537 4 #[] #[])
  fields := #[]
  methods := #[]
  instanceTypes := #[]
  staticTypes := #[]
  resolved := Array.replicate 8 none
  statics := none }

/-- the primitive byte -/
def k6 : Class := { plain "byte" none with kind := .primitive 'B', accessFlags := 0x411 }
/-- [B -/
def k7 : Class := { plain "[B" (some 0) with kind := .array 6 .byte, interfaces := #[4, 5], accessFlags := 1041 }

/-- the primitive int -/
def k8 : Class := { plain "int" none with kind := .primitive 'I', accessFlags := 0x411 }
/-- [I -/
def k9 : Class := { plain "[I" (some 0) with kind := .array 8 .int, interfaces := #[4, 5], accessFlags := 1041 }

def heap : Heap := #[]
def classes : Array Class := #[k0, k1, k2, k3, k4, k5, k6, k7, k8, k9]
def interned : List (Array UInt16 × Addr) := []
def slotsUsed : Nat := 0
def theMethod : MethodId := ⟨1, 2⟩
def args0 : Array Value := #[.int 5, .int 6, .int 7, .int 3]
def aboutOver (below : List Frame) : State where
  vm := { classes := classes, interned := interned.toArray }
  heap := heap
  slotsUsed := slotsUsed
  threads := #[{ frames := .invoking theMethod args0 :: below }]
def below0 : List Frame := [.native { method := ⟨0, 0⟩, args := #[] }]
def about1 : State := aboutOver below0
def p0 : Program := .bare "" "" ""
def e0 : Env := launch0.env 0 0 0
theorem w_frames : about1.frames = Frame.invoking theMethod args0 :: below0 := rfl
set_option maxRecDepth 65536 in
theorem w_args : argsFit about1.vm theMethod args0 = true := by decide +kernel
set_option maxRecDepth 65536 in
theorem w_heap : heapFits about1 = true := by decide +kernel
set_option maxRecDepth 65536 in
theorem w_runnable : about1.curStatus? = some .runnable := by decide +kernel
set_option maxRecDepth 65536 in
theorem w_alone : about1.alone = true := by decide +kernel
set_option maxRecDepth 65536 in
theorem w_named : about1.methodNamed? x = some theMethod := by decide +kernel
set_option maxRecDepth 65536 in
theorem w_hears : about1.hears theMethod below0 = true := by decide +kernel
set_option maxRecDepth 65536 in
theorem w_ripe : about1.ripe theMethod args0 below0 = true := by decide +kernel
theorem w_running : about1.status = .running := rfl
set_option maxRecDepth 65536 in
theorem w_room : about1.hasRoom e0.platform room_1 = true :=
  launch0.hasRoom_least _ room_1 (by decide +kernel) (by decide +kernel) (by decide +kernel) (by decide +kernel) (by decide +kernel) (by decide +kernel)
theorem allAtoms_all (ts : List Jvm.Cond) (a : Array Jvm.Value) (st : Jvm.State) : (allAtoms ts).before a st = ts.all (fun c => c.before a st) := by
  induction ts with
  | nil => rfl
  | cons c t ih =>
    show (Jvm.Cond.and c (allAtoms t)).before a st = _
    rw [Jvm.Cond.before_and, ih, List.all_cons]
def words1 : List Jvm.Cond := Jvm.Cond.code x code maxLocals ret :: tables_1
/-- a 'code' word, met by the world's own term for the bytes: nothing is compared byte by byte -/
theorem code_word {y : MethodName} {bytes : ByteArray} {mx : Nat} {rt : Option FieldType} {a : Array Value} {s : State} {m : MethodId} {meth : Method} {c : Code} (h1 : s.methodNamed? y = some m) (h2 : s.vm.method? m = some meth) (h3 : meth.code = some c) (h4 : c.code = bytes)
    (h5 : (c.maxLocals == mx && c.exceptionTable.isEmpty && decide (c.maxStack ≤ mostOperands) && decide (meth.sig.returnType = rt) && !meth.locks && decide (parseMethodDescriptor y.desc = some meth.sig)) = true) : (Jvm.Cond.code y bytes mx rt).before a s = true := by
  simp only [Bool.and_eq_true, beq_iff_eq, Bool.not_eq_true', decide_eq_true_eq] at h5
  obtain ⟨⟨⟨⟨⟨g1, g2⟩, g3⟩, g4⟩, g5⟩, g6⟩ := h5
  simp [Cond.before, Cond.holds, Cond.value, h1, h2, h3, h4, g1, g2, g3, g4, g5, g6]
def isCode : Jvm.Cond → Bool
  | .code _ _ _ _ => true
  | _ => false
theorem all_split {L : List Jvm.Cond} {P : Jvm.Cond → Bool} (h1 : L.all (fun c => isCode c || P c) = true) (h2 : ∀ c ∈ L.filter isCode, P c = true) : L.all P = true := by
  refine List.all_eq_true.mpr fun c hc => ?_
  have h := List.all_eq_true.mp h1 c hc
  rcases Bool.eq_false_or_eq_true (isCode c) with hi | hi
  · exact h2 c (List.mem_filter.mpr ⟨hc, hi⟩)
  · simpa [hi] using h
set_option maxRecDepth 65536 in
theorem w_c0 : (Jvm.Cond.code x code maxLocals ret).before args0 about1 = true := code_word (m := ⟨1, 2⟩) (meth := k1m2) (c := k1c2) (by decide +kernel) rfl rfl rfl (by decide +kernel)
set_option maxRecDepth 65536 in
theorem w_c1 : (Jvm.Cond.code ({ cls := "com/example/tinyward/tinyward/Node", name := "<init>", desc := "(Ljava/lang/Object;Ljava/lang/Object;)V" } : Jvm.MethodName) prog_31_method_1_code (3 : Nat) (Option.none : Option Jvm.ClassFile.FieldType)).before args0 about1 = true := code_word (m := ⟨2, 0⟩) (meth := k2m0) (c := k2c0) (by decide +kernel) rfl rfl rfl (by decide +kernel)
set_option maxRecDepth 65536 in
theorem w_c2 : (Jvm.Cond.code ({ cls := "java/lang/Object", name := "<init>", desc := "()V" } : Jvm.MethodName) object_method_1_code (1 : Nat) (Option.none : Option Jvm.ClassFile.FieldType)).before args0 about1 = true := code_word (m := ⟨0, 0⟩) (meth := k0m0) (c := k0c0) (by decide +kernel) rfl rfl rfl (by decide +kernel)
set_option maxRecDepth 65536 in
theorem w_c3 : (Jvm.Cond.code ({ cls := "com/example/tinyward/tinyward/Node", name := "startFrequency", desc := "(II)V" } : Jvm.MethodName) prog_31_method_6_code (3 : Nat) (Option.none : Option Jvm.ClassFile.FieldType)).before args0 about1 = true := code_word (m := ⟨2, 1⟩) (meth := k2m1) (c := k2c1) (by decide +kernel) rfl rfl rfl (by decide +kernel)
set_option maxRecDepth 65536 in
theorem w_c4 : (Jvm.Cond.code ({ cls := "com/example/tinyward/tinyward/Node", name := "recordUse", desc := "(I)Z" } : Jvm.MethodName) prog_31_method_8_code (3 : Nat) (Option.some Jvm.ClassFile.FieldType.boolean)).before args0 about1 = true := code_word (m := ⟨2, 3⟩) (meth := k2m3) (c := k2c3) (by decide +kernel) rfl rfl rfl (by decide +kernel)
set_option maxRecDepth 65536 in
theorem w_c5 : (Jvm.Cond.code ({ cls := "com/example/tinyward/tinyward/Node", name := "wasUsed", desc := "()Z" } : Jvm.MethodName) prog_31_method_9_code (1 : Nat) (Option.some Jvm.ClassFile.FieldType.boolean)).before args0 about1 = true := code_word (m := ⟨2, 4⟩) (meth := k2m4) (c := k2c4) (by decide +kernel) rfl rfl rfl (by decide +kernel)
set_option maxRecDepth 65536 in
theorem w_c6 : (Jvm.Cond.code ({ cls := "com/example/tinyward/tinyward/Node", name := "frequency", desc := "(I)I" } : Jvm.MethodName) prog_31_method_7_code (3 : Nat) (Option.some Jvm.ClassFile.FieldType.int)).before args0 about1 = true := code_word (m := ⟨2, 2⟩) (meth := k2m2) (c := k2c2) (by decide +kernel) rfl rfl rfl (by decide +kernel)
set_option maxRecDepth 65536 in
theorem w_c7 : (Jvm.Cond.code ({ cls := "java/lang/Math", name := "min", desc := "(II)I" } : Jvm.MethodName) jdk_29_method_69_code (2 : Nat) (Option.some Jvm.ClassFile.FieldType.int)).before args0 about1 = true := code_word (m := ⟨3, 1⟩) (meth := k3m1) (c := k3c1) (by decide +kernel) rfl rfl rfl (by decide +kernel)
set_option maxRecDepth 65536 in
theorem w_c8 : (Jvm.Cond.code ({ cls := "com/example/tinyward/tinyward/NodeFrequencyPinLaw", name := "halved", desc := "(II)I" } : Jvm.MethodName) method_2_code (2 : Nat) (Option.some Jvm.ClassFile.FieldType.int)).before args0 about1 = true := code_word (m := ⟨1, 1⟩) (meth := k1m1) (c := k1c1) (by decide +kernel) rfl rfl rfl (by decide +kernel)
def codes1 : List Jvm.Cond := [Jvm.Cond.code x code maxLocals ret, Jvm.Cond.code ({ cls := "com/example/tinyward/tinyward/Node", name := "<init>", desc := "(Ljava/lang/Object;Ljava/lang/Object;)V" } : Jvm.MethodName) prog_31_method_1_code (3 : Nat) (Option.none : Option Jvm.ClassFile.FieldType), Jvm.Cond.code ({ cls := "java/lang/Object", name := "<init>", desc := "()V" } : Jvm.MethodName) object_method_1_code (1 : Nat) (Option.none : Option Jvm.ClassFile.FieldType), Jvm.Cond.code ({ cls := "com/example/tinyward/tinyward/Node", name := "startFrequency", desc := "(II)V" } : Jvm.MethodName) prog_31_method_6_code (3 : Nat) (Option.none : Option Jvm.ClassFile.FieldType), Jvm.Cond.code ({ cls := "com/example/tinyward/tinyward/Node", name := "recordUse", desc := "(I)Z" } : Jvm.MethodName) prog_31_method_8_code (3 : Nat) (Option.some Jvm.ClassFile.FieldType.boolean), Jvm.Cond.code ({ cls := "com/example/tinyward/tinyward/Node", name := "wasUsed", desc := "()Z" } : Jvm.MethodName) prog_31_method_9_code (1 : Nat) (Option.some Jvm.ClassFile.FieldType.boolean), Jvm.Cond.code ({ cls := "com/example/tinyward/tinyward/Node", name := "frequency", desc := "(I)I" } : Jvm.MethodName) prog_31_method_7_code (3 : Nat) (Option.some Jvm.ClassFile.FieldType.int), Jvm.Cond.code ({ cls := "java/lang/Math", name := "min", desc := "(II)I" } : Jvm.MethodName) jdk_29_method_69_code (2 : Nat) (Option.some Jvm.ClassFile.FieldType.int), Jvm.Cond.code ({ cls := "com/example/tinyward/tinyward/NodeFrequencyPinLaw", name := "halved", desc := "(II)I" } : Jvm.MethodName) method_2_code (2 : Nat) (Option.some Jvm.ClassFile.FieldType.int)]
set_option maxRecDepth 65536 in
theorem codes_eq : words1.filter isCode = codes1 := rfl
theorem w_codes : ∀ c ∈ words1.filter isCode, c.before args0 about1 = true := by
  rw [codes_eq]
  intro c hc
  simp only [codes1, List.mem_cons, List.not_mem_nil, or_false] at hc
  rcases hc with rfl | rfl | rfl | rfl | rfl | rfl | rfl | rfl | rfl
  · exact w_c0
  · exact w_c1
  · exact w_c2
  · exact w_c3
  · exact w_c4
  · exact w_c5
  · exact w_c6
  · exact w_c7
  · exact w_c8
set_option maxRecDepth 65536 in
theorem w_t1 : (words1.take 24).all (fun c => isCode c || c.before args0 about1) = true := by decide +kernel
set_option maxRecDepth 65536 in
theorem w_t2 : ((words1.drop 24).take 24).all (fun c => isCode c || c.before args0 about1) = true := by decide +kernel
set_option maxRecDepth 65536 in
theorem w_t3 : ((words1.drop 24).drop 24).all (fun c => isCode c || c.before args0 about1) = true := by decide +kernel
theorem w_tables : (allAtoms (Jvm.Cond.code x code maxLocals ret :: tables_1)).before args0 about1 = true := by
  rw [allAtoms_all]
  show words1.all (fun c => c.before args0 about1) = true
  refine all_split ?_ w_codes
  rw [← List.take_append_drop 24 words1, List.all_append, w_t1, ← List.take_append_drop 24 (words1.drop 24), List.all_append, w_t2, w_t3]
  rfl
set_option maxRecDepth 65536 in
theorem w_case : (Jvm.Cond.and given_1 narrow_1).before args0 about1 = true := by decide +kernel
theorem w_applies : (headSpec (Jvm.Cond.code x code maxLocals ret :: tables_1) room_1).applies x e0.platform about1 = true :=
  (Spec.applies_iff w_frames).mpr ⟨w_running, w_runnable, w_alone, w_named, w_hears, w_ripe, w_room, w_tables⟩
theorem atStart : AtStart classFile x code maxLocals ret World_1 tables_1 room_1 Calls_1 rest_1 Pre_1 launch0 p0 e0 about1 theMethod args0 below0 :=
  ⟨lists_1, trivial, launch0.admits_env _ _ _, launch0.least_env, fairChoices_fair.cas, fairChoices_fair.clock, w_frames, w_args, w_heap, w_applies, trivial, trivial, w_case⟩
end start1
theorem witness_1 : WitnessClaimed_1 := ⟨start1.p0, start1.e0, start1.about1, start1.theMethod, start1.args0, start1.below0, start1.atStart⟩
end Jvm.Pilot.@@N@@
