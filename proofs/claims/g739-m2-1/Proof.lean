import JvmDerived
import JvmDerived.Pilot.@@N@@Statement
import JvmDerived.Pilot.@@N@@Code
set_option linter.unusedVariables false
set_option linter.unusedSimpArgs false
namespace Jvm.Pilot.@@N@@
open Jvm Jvm.ClassFile Sem Op Lib Jvm.Free Jvm.Stand Jvm.LawKit Jvm.RoadKit Bundle Jvm.Pilot.@@N@@.Jvm.D
/-- what runs on to t from B runs on to t from A -/
def own_Rch (tb : Tables) (e : Env) (below : List Frame) (A B : State) : Prop := ∀ t, Steps tb e below B t → Steps tb e below A t
theorem own_lct1 {a b : Int64} (h : a < b) : ifCond.holds .lt (lcmpW a b) = true ∧ ifCond.holds .ge (lcmpW a b) = false := by
  have h1 : ¬ b < a := fun q => by rw [Int64.lt_iff_toInt_lt] at h q; omega
  have h2 : ¬ a = b := fun q => by subst q; exact h1 h
  simp only [lcmpW, gt_iff_lt, h1, h2, if_false]; exact ⟨rfl, rfl⟩
theorem own_lcf1 {a b : Int64} (h : ¬ a < b) : ifCond.holds .lt (lcmpW a b) = false ∧ ifCond.holds .ge (lcmpW a b) = true := by
  by_cases h1 : b < a
  · simp only [lcmpW, gt_iff_lt, h1, if_true]; exact ⟨rfl, rfl⟩
  · have h2 : a = b := by rw [Int64.lt_iff_toInt_lt] at h h1; exact Int64.toInt_inj.mp (by omega)
    simp only [lcmpW, gt_iff_lt, h1, h2, if_false, if_true]; subst h2; simp only [Int64.lt_irrefl, if_false]; exact ⟨rfl, rfl⟩
theorem own_lct2 {a b : Int64} (h : b < a) : ifCond.holds .gt (lcmpW a b) = true ∧ ifCond.holds .le (lcmpW a b) = false := by
  simp only [lcmpW, gt_iff_lt, h, if_true]; exact ⟨rfl, rfl⟩
theorem own_lcf2 {a b : Int64} (h : ¬ b < a) : ifCond.holds .gt (lcmpW a b) = false ∧ ifCond.holds .le (lcmpW a b) = true := by
  by_cases h2 : a = b
  · simp only [lcmpW, gt_iff_lt, h, if_pos h2, if_false]; exact ⟨rfl, rfl⟩
  · simp only [lcmpW, gt_iff_lt, h, if_neg h2, if_false]; exact ⟨rfl, rfl⟩
theorem own_lct3 {a b : Int64} (h : a = b) : ifCond.holds .eq (lcmpW a b) = true ∧ ifCond.holds .ne (lcmpW a b) = false := by
  have h1 : ¬ b < a := fun q => by subst h; exact absurd q (Int64.lt_irrefl)
  simp only [lcmpW, gt_iff_lt, h1, if_pos h, if_false]; exact ⟨rfl, rfl⟩
theorem own_lcf3 {a b : Int64} (h : ¬ a = b) : ifCond.holds .eq (lcmpW a b) = false ∧ ifCond.holds .ne (lcmpW a b) = true := by
  by_cases h1 : b < a
  · simp only [lcmpW, gt_iff_lt, h1, if_true]; exact ⟨rfl, rfl⟩
  · simp only [lcmpW, gt_iff_lt, h1, if_neg h, if_false]; exact ⟨rfl, rfl⟩
theorem own_remI (x y : Int32) : x - x / y * y = x % y := by
  apply Int32.toInt_inj.mp
  have l := Int32.toInt_lt (x % y)
  have g := Int32.le_toInt (x % y)
  rw [Int32.toInt_sub, Int32.toInt_mul, Int32.toInt_div]
  simp only [Int.sub_bmod_bmod, Int.bmod_mul_bmod]
  rw [Int.mul_comm, ← Int.tmod_def, ← Int32.toInt_mod, Int.bmod_eq_of_le] <;> omega
theorem own_remL (x y : Int64) : x - x / y * y = x % y := by
  apply Int64.toInt_inj.mp
  have l := Int64.toInt_lt (x % y)
  have g := Int64.le_toInt (x % y)
  rw [Int64.toInt_sub, Int64.toInt_mul, Int64.toInt_div]
  simp only [Int.sub_bmod_bmod, Int.bmod_mul_bmod]
  rw [Int.mul_comm, ← Int.tmod_def, ← Int64.toInt_mod, Int.bmod_eq_of_le] <;> omega
theorem d1_0 : decode prog_25_method_2_code 0 = .ok (.iload_n 0, 1) := by decide +kernel
theorem d1_1 : decode prog_25_method_2_code 1 = .ok (.sipush 192, 3) := by decide +kernel
theorem d1_4 : decode prog_25_method_2_code 4 = .ok (.if_icmp .lt 15, 3) := by decide +kernel
theorem d1_7 : decode prog_25_method_2_code 7 = .ok (.iload_n 0, 1) := by decide +kernel
theorem d1_8 : decode prog_25_method_2_code 8 = .ok (.sipush 224, 3) := by decide +kernel
theorem d1_11 : decode prog_25_method_2_code 11 = .ok (.if_icmp .ge 8, 3) := by decide +kernel
theorem d1_14 : decode prog_25_method_2_code 14 = .ok (.iconst 2, 1) := by decide +kernel
theorem d1_15 : decode prog_25_method_2_code 15 = .ok (.istore_n 1, 1) := by decide +kernel
theorem d1_16 : decode prog_25_method_2_code 16 = .ok (.goto 43, 3) := by decide +kernel
theorem d1_19 : decode prog_25_method_2_code 19 = .ok (.iload_n 0, 1) := by decide +kernel
theorem d1_20 : decode prog_25_method_2_code 20 = .ok (.sipush 224, 3) := by decide +kernel
theorem d1_23 : decode prog_25_method_2_code 23 = .ok (.if_icmp .lt 15, 3) := by decide +kernel
theorem d1_26 : decode prog_25_method_2_code 26 = .ok (.iload_n 0, 1) := by decide +kernel
theorem d1_27 : decode prog_25_method_2_code 27 = .ok (.sipush 240, 3) := by decide +kernel
theorem d1_30 : decode prog_25_method_2_code 30 = .ok (.if_icmp .ge 8, 3) := by decide +kernel
theorem d1_33 : decode prog_25_method_2_code 33 = .ok (.iconst 3, 1) := by decide +kernel
theorem d1_34 : decode prog_25_method_2_code 34 = .ok (.istore_n 1, 1) := by decide +kernel
theorem d1_35 : decode prog_25_method_2_code 35 = .ok (.goto 24, 3) := by decide +kernel
theorem d1_38 : decode prog_25_method_2_code 38 = .ok (.iload_n 0, 1) := by decide +kernel
theorem d1_39 : decode prog_25_method_2_code 39 = .ok (.sipush 240, 3) := by decide +kernel
theorem d1_42 : decode prog_25_method_2_code 42 = .ok (.if_icmp .lt 15, 3) := by decide +kernel
theorem d1_45 : decode prog_25_method_2_code 45 = .ok (.iload_n 0, 1) := by decide +kernel
theorem d1_46 : decode prog_25_method_2_code 46 = .ok (.sipush 248, 3) := by decide +kernel
theorem d1_49 : decode prog_25_method_2_code 49 = .ok (.if_icmp .ge 8, 3) := by decide +kernel
theorem d1_52 : decode prog_25_method_2_code 52 = .ok (.iconst 4, 1) := by decide +kernel
theorem d1_53 : decode prog_25_method_2_code 53 = .ok (.istore_n 1, 1) := by decide +kernel
theorem d1_54 : decode prog_25_method_2_code 54 = .ok (.goto 5, 3) := by decide +kernel
theorem d1_57 : decode prog_25_method_2_code 57 = .ok (.iconst 0, 1) := by decide +kernel
theorem d1_58 : decode prog_25_method_2_code 58 = .ok (.istore_n 1, 1) := by decide +kernel
theorem d1_59 : decode prog_25_method_2_code 59 = .ok (.iload_n 1, 1) := by decide +kernel
theorem d1_60 : decode prog_25_method_2_code 60 = .ok (.ireturn, 1) := by decide +kernel
def own_seq (b : Int32) : Int32 := (if b < (192 : Int32) then (if b < (224 : Int32) then (if b < (240 : Int32) then (0 : Int32) else (if b < (248 : Int32) then (4 : Int32) else (0 : Int32))) else (if b < (240 : Int32) then (3 : Int32) else (if b < (248 : Int32) then (4 : Int32) else (0 : Int32)))) else (if b < (224 : Int32) then (2 : Int32) else (if b < (240 : Int32) then (3 : Int32) else (if b < (248 : Int32) then (4 : Int32) else (0 : Int32)))))
theorem pn_0 : plainName "tidemark/format/Utf8" = true := by first | (simp [plainName, overriddenIn]; done) | decide +kernel
theorem ef_1 (m : MethodId) (b : Int32) : entryFrame m #[(.int b)] 2 = mkF m 0 #[.val (.int b), .unset] [] := by first | (simp [entryFrame, mkF, argsToLocals, Value.category]; done) | rfl
def Q1 (Z : State) (b : Int32) (h0 : Heap) (n0 : Nat) (v : Option Value) (h : Heap) (L : List Loc) : Prop := v = some (.int (own_seq b)) ∧ Fr n0 L ∧ h = h0
set_option maxRecDepth 65536 in
set_option maxHeartbeats 40000000 in
theorem rm1 (l : Launch) (Z : State) (a0 : Array Value) (hw : ∀ d ∈ tables_1, d.before a0 Z = true) (ws : List Jvm.Cond) (b : Int32) (h0 : Heap) (n0 : Nat) (Z0 : n0 ≤ h0.size) :
    MetFree l (⟨"tidemark/format/Utf8", "sequenceLength", "(I)I"⟩ : MethodName) (head1 (Jvm.Cond.code (⟨"tidemark/format/Utf8", "sequenceLength", "(I)I"⟩ : MethodName) prog_25_method_2_code 2 (some .int) :: ws) ({ frames := 0, cells := 0, slots := 0, locals := 0 } : Room)) (fun a' U => a' = #[(.int b)] ∧ Z.Warmed39 U.vm ∧ U.heap = h0) (fun _ _ _ _ _ => True) (fun _ U o U' => ∃ v L, o = .returned v ∧ Q1 Z b h0 n0 v U'.heap L ∧ FrameEnd U o U' L ({ frames := 0, cells := 0, slots := 0, locals := 0 } : Room).cells ({ frames := 0, cells := 0, slots := 0, locals := 0 } : Room).slots) := by
  refine MetFree.of_bodySF (plainFor_of_name pn_0) hisR ?_
  intro p e s m args' below meth c s₁ Bd hml0 hP hK
  obtain ⟨hargs, hZ, hh⟩ := hP
  have hx := Bd.exec
  have hby := Bd.bytes
  have hml : c.maxLocals = 2 := hml0
  have hown : s.vm.findClass "tidemark/format/Utf8" = some m.cls := findClass_of_methodNamed Bd.named
  have hnm := (name_of_methodNamed Bd.named Bd.method).1
  have X0 : Stand p l e ({ frames := 0, cells := 0, slots := 0, locals := 0 } : Room) s m args' below meth c s₁ [] 0 0 := Stand.of_body Bd
  have e0 : s₁.heap = h0 := by rw [← hh, Bd.state]; rfl
  have N0 := Fr.nil n0
  obtain ⟨A0, hA0⟩ : ∃ A, A = s₁.setTop (mkF m 0 #[.val (.int b), .unset] []) := ⟨_, rfl⟩
  have P0 : own_Rch p.tables e below A0 (s₁.setTop (mkF m 0 #[.val (.int b), .unset] [])) := fun t k => hA0 ▸ k
  have P00 : own_Rch p.tables e below (s₁.setTop (entryFrame m args' 2)) A0 := fun t k => by rw [hargs]; exact castTop (ef_1 m b) (hA0 ▸ k)
  have P2 : own_Rch p.tables e below A0 (s₁.setTop (mkF m 4 #[.val (.int b), .unset] [(.int (192 : Int32)), (.int b)])) := fun t k => P0 t (by
    show Steps p.tables e below (s₁.setTop (mkF m 0 #[.val (.int b), .unset] [])) _
    refine XS.iloadN X0.here hx rfl (hb hby d1_0) rfl ?_
    show Steps p.tables e below (s₁.setTop (mkF m 1 #[.val (.int b), .unset] [(.int b)])) _
    refine XS.sipush X0.here hx rfl (hb hby d1_1) ?_
    exact k)
  obtain ⟨v12, hv12⟩ : ∃ z : Int32, z = (if b < (192 : Int32) then (if b < (224 : Int32) then (if b < (240 : Int32) then (0 : Int32) else (if b < (248 : Int32) then (4 : Int32) else (0 : Int32))) else (if b < (240 : Int32) then (3 : Int32) else (if b < (248 : Int32) then (4 : Int32) else (0 : Int32)))) else (if b < (224 : Int32) then (2 : Int32) else (if b < (240 : Int32) then (3 : Int32) else (if b < (248 : Int32) then (4 : Int32) else (0 : Int32))))) := ⟨_, rfl⟩
  have P13 : own_Rch p.tables e below A0 (s₁.setTop (mkF m 59 #[.val (.int b), .val (.int v12)] [])) := fun t k => P2 t (by
    by_cases hc3 : b < (192 : Int32)
    · show Steps p.tables e below (s₁.setTop (mkF m 4 #[.val (.int b), .unset] [(.int (192 : Int32)), (.int b)])) _
      refine XS.icmpYes X0.here hx rfl (pc0 := 4) (pc' := 19) rfl (hb hby d1_4) rfl (tlt hc3).1 (by decide) (by decide) ?_
      show Steps p.tables e below (s₁.setTop (mkF m 19 #[.val (.int b), .unset] [])) _
      refine XS.iloadN X0.here hx rfl (hb hby d1_19) rfl ?_
      show Steps p.tables e below (s₁.setTop (mkF m 20 #[.val (.int b), .unset] [(.int b)])) _
      refine XS.sipush X0.here hx rfl (hb hby d1_20) ?_
      by_cases hc4 : b < (224 : Int32)
      · show Steps p.tables e below (s₁.setTop (mkF m 23 #[.val (.int b), .unset] [(.int (224 : Int32)), (.int b)])) _
        refine XS.icmpYes X0.here hx rfl (pc0 := 23) (pc' := 38) rfl (hb hby d1_23) rfl (tlt hc4).1 (by decide) (by decide) ?_
        show Steps p.tables e below (s₁.setTop (mkF m 38 #[.val (.int b), .unset] [])) _
        refine XS.iloadN X0.here hx rfl (hb hby d1_38) rfl ?_
        show Steps p.tables e below (s₁.setTop (mkF m 39 #[.val (.int b), .unset] [(.int b)])) _
        refine XS.sipush X0.here hx rfl (hb hby d1_39) ?_
        by_cases hc5 : b < (240 : Int32)
        · show Steps p.tables e below (s₁.setTop (mkF m 42 #[.val (.int b), .unset] [(.int (240 : Int32)), (.int b)])) _
          refine XS.icmpYes X0.here hx rfl (pc0 := 42) (pc' := 57) rfl (hb hby d1_42) rfl (tlt hc5).1 (by decide) (by decide) ?_
          have qv12 : v12 = (0 : Int32) := by rw [hv12]; simp only [if_pos hc3, if_pos hc4, if_pos hc5]
          rw [qv12] at k
          show Steps p.tables e below (s₁.setTop (mkF m 57 #[.val (.int b), .unset] [])) _
          refine XS.iconst X0.here hx rfl (hb hby d1_57) ?_
          show Steps p.tables e below (s₁.setTop (mkF m 58 #[.val (.int b), .unset] [(.int (0 : Int32))])) _
          refine XS.istoreN X0.here hx rfl (hb hby d1_58) rfl (l' := #[.val (.int b), .val (.int (0 : Int32))]) rfl ?_
          exact k
        · show Steps p.tables e below (s₁.setTop (mkF m 42 #[.val (.int b), .unset] [(.int (240 : Int32)), (.int b)])) _
          refine XS.icmpNo X0.here hx rfl (hb hby d1_42) rfl (flt hc5).1 ?_
          show Steps p.tables e below (s₁.setTop (mkF m 45 #[.val (.int b), .unset] [])) _
          refine XS.iloadN X0.here hx rfl (hb hby d1_45) rfl ?_
          show Steps p.tables e below (s₁.setTop (mkF m 46 #[.val (.int b), .unset] [(.int b)])) _
          refine XS.sipush X0.here hx rfl (hb hby d1_46) ?_
          by_cases hc6 : b < (248 : Int32)
          · show Steps p.tables e below (s₁.setTop (mkF m 49 #[.val (.int b), .unset] [(.int (248 : Int32)), (.int b)])) _
            refine XS.icmpNo X0.here hx rfl (hb hby d1_49) rfl (tlt hc6).2.1 ?_
            have qv12 : v12 = (4 : Int32) := by rw [hv12]; simp only [if_pos hc3, if_pos hc4, if_neg hc5, if_pos hc6]
            rw [qv12] at k
            show Steps p.tables e below (s₁.setTop (mkF m 52 #[.val (.int b), .unset] [])) _
            refine XS.iconst X0.here hx rfl (hb hby d1_52) ?_
            show Steps p.tables e below (s₁.setTop (mkF m 53 #[.val (.int b), .unset] [(.int (4 : Int32))])) _
            refine XS.istoreN X0.here hx rfl (hb hby d1_53) rfl (l' := #[.val (.int b), .val (.int (4 : Int32))]) rfl ?_
            show Steps p.tables e below (s₁.setTop (mkF m 54 #[.val (.int b), .val (.int (4 : Int32))] [])) _
            refine XS.goto X0.here hx rfl (pc0 := 54) (pc' := 59) rfl (hb hby d1_54) (by decide) (by decide) ?_
            exact k
          · show Steps p.tables e below (s₁.setTop (mkF m 49 #[.val (.int b), .unset] [(.int (248 : Int32)), (.int b)])) _
            refine XS.icmpYes X0.here hx rfl (pc0 := 49) (pc' := 57) rfl (hb hby d1_49) rfl (flt hc6).2.1 (by decide) (by decide) ?_
            have qv12 : v12 = (0 : Int32) := by rw [hv12]; simp only [if_pos hc3, if_pos hc4, if_neg hc5, if_neg hc6]
            rw [qv12] at k
            show Steps p.tables e below (s₁.setTop (mkF m 57 #[.val (.int b), .unset] [])) _
            refine XS.iconst X0.here hx rfl (hb hby d1_57) ?_
            show Steps p.tables e below (s₁.setTop (mkF m 58 #[.val (.int b), .unset] [(.int (0 : Int32))])) _
            refine XS.istoreN X0.here hx rfl (hb hby d1_58) rfl (l' := #[.val (.int b), .val (.int (0 : Int32))]) rfl ?_
            exact k
      · show Steps p.tables e below (s₁.setTop (mkF m 23 #[.val (.int b), .unset] [(.int (224 : Int32)), (.int b)])) _
        refine XS.icmpNo X0.here hx rfl (hb hby d1_23) rfl (flt hc4).1 ?_
        show Steps p.tables e below (s₁.setTop (mkF m 26 #[.val (.int b), .unset] [])) _
        refine XS.iloadN X0.here hx rfl (hb hby d1_26) rfl ?_
        show Steps p.tables e below (s₁.setTop (mkF m 27 #[.val (.int b), .unset] [(.int b)])) _
        refine XS.sipush X0.here hx rfl (hb hby d1_27) ?_
        by_cases hc7 : b < (240 : Int32)
        · show Steps p.tables e below (s₁.setTop (mkF m 30 #[.val (.int b), .unset] [(.int (240 : Int32)), (.int b)])) _
          refine XS.icmpNo X0.here hx rfl (hb hby d1_30) rfl (tlt hc7).2.1 ?_
          have qv12 : v12 = (3 : Int32) := by rw [hv12]; simp only [if_pos hc3, if_neg hc4, if_pos hc7]
          rw [qv12] at k
          show Steps p.tables e below (s₁.setTop (mkF m 33 #[.val (.int b), .unset] [])) _
          refine XS.iconst X0.here hx rfl (hb hby d1_33) ?_
          show Steps p.tables e below (s₁.setTop (mkF m 34 #[.val (.int b), .unset] [(.int (3 : Int32))])) _
          refine XS.istoreN X0.here hx rfl (hb hby d1_34) rfl (l' := #[.val (.int b), .val (.int (3 : Int32))]) rfl ?_
          show Steps p.tables e below (s₁.setTop (mkF m 35 #[.val (.int b), .val (.int (3 : Int32))] [])) _
          refine XS.goto X0.here hx rfl (pc0 := 35) (pc' := 59) rfl (hb hby d1_35) (by decide) (by decide) ?_
          exact k
        · show Steps p.tables e below (s₁.setTop (mkF m 30 #[.val (.int b), .unset] [(.int (240 : Int32)), (.int b)])) _
          refine XS.icmpYes X0.here hx rfl (pc0 := 30) (pc' := 38) rfl (hb hby d1_30) rfl (flt hc7).2.1 (by decide) (by decide) ?_
          show Steps p.tables e below (s₁.setTop (mkF m 38 #[.val (.int b), .unset] [])) _
          refine XS.iloadN X0.here hx rfl (hb hby d1_38) rfl ?_
          show Steps p.tables e below (s₁.setTop (mkF m 39 #[.val (.int b), .unset] [(.int b)])) _
          refine XS.sipush X0.here hx rfl (hb hby d1_39) ?_
          show Steps p.tables e below (s₁.setTop (mkF m 42 #[.val (.int b), .unset] [(.int (240 : Int32)), (.int b)])) _
          refine XS.icmpNo X0.here hx rfl (hb hby d1_42) rfl (flt hc7).1 ?_
          show Steps p.tables e below (s₁.setTop (mkF m 45 #[.val (.int b), .unset] [])) _
          refine XS.iloadN X0.here hx rfl (hb hby d1_45) rfl ?_
          show Steps p.tables e below (s₁.setTop (mkF m 46 #[.val (.int b), .unset] [(.int b)])) _
          refine XS.sipush X0.here hx rfl (hb hby d1_46) ?_
          by_cases hc8 : b < (248 : Int32)
          · show Steps p.tables e below (s₁.setTop (mkF m 49 #[.val (.int b), .unset] [(.int (248 : Int32)), (.int b)])) _
            refine XS.icmpNo X0.here hx rfl (hb hby d1_49) rfl (tlt hc8).2.1 ?_
            have qv12 : v12 = (4 : Int32) := by rw [hv12]; simp only [if_pos hc3, if_neg hc4, if_neg hc7, if_pos hc8]
            rw [qv12] at k
            show Steps p.tables e below (s₁.setTop (mkF m 52 #[.val (.int b), .unset] [])) _
            refine XS.iconst X0.here hx rfl (hb hby d1_52) ?_
            show Steps p.tables e below (s₁.setTop (mkF m 53 #[.val (.int b), .unset] [(.int (4 : Int32))])) _
            refine XS.istoreN X0.here hx rfl (hb hby d1_53) rfl (l' := #[.val (.int b), .val (.int (4 : Int32))]) rfl ?_
            show Steps p.tables e below (s₁.setTop (mkF m 54 #[.val (.int b), .val (.int (4 : Int32))] [])) _
            refine XS.goto X0.here hx rfl (pc0 := 54) (pc' := 59) rfl (hb hby d1_54) (by decide) (by decide) ?_
            exact k
          · show Steps p.tables e below (s₁.setTop (mkF m 49 #[.val (.int b), .unset] [(.int (248 : Int32)), (.int b)])) _
            refine XS.icmpYes X0.here hx rfl (pc0 := 49) (pc' := 57) rfl (hb hby d1_49) rfl (flt hc8).2.1 (by decide) (by decide) ?_
            have qv12 : v12 = (0 : Int32) := by rw [hv12]; simp only [if_pos hc3, if_neg hc4, if_neg hc7, if_neg hc8]
            rw [qv12] at k
            show Steps p.tables e below (s₁.setTop (mkF m 57 #[.val (.int b), .unset] [])) _
            refine XS.iconst X0.here hx rfl (hb hby d1_57) ?_
            show Steps p.tables e below (s₁.setTop (mkF m 58 #[.val (.int b), .unset] [(.int (0 : Int32))])) _
            refine XS.istoreN X0.here hx rfl (hb hby d1_58) rfl (l' := #[.val (.int b), .val (.int (0 : Int32))]) rfl ?_
            exact k
    · show Steps p.tables e below (s₁.setTop (mkF m 4 #[.val (.int b), .unset] [(.int (192 : Int32)), (.int b)])) _
      refine XS.icmpNo X0.here hx rfl (hb hby d1_4) rfl (flt hc3).1 ?_
      show Steps p.tables e below (s₁.setTop (mkF m 7 #[.val (.int b), .unset] [])) _
      refine XS.iloadN X0.here hx rfl (hb hby d1_7) rfl ?_
      show Steps p.tables e below (s₁.setTop (mkF m 8 #[.val (.int b), .unset] [(.int b)])) _
      refine XS.sipush X0.here hx rfl (hb hby d1_8) ?_
      by_cases hc9 : b < (224 : Int32)
      · show Steps p.tables e below (s₁.setTop (mkF m 11 #[.val (.int b), .unset] [(.int (224 : Int32)), (.int b)])) _
        refine XS.icmpNo X0.here hx rfl (hb hby d1_11) rfl (tlt hc9).2.1 ?_
        have qv12 : v12 = (2 : Int32) := by rw [hv12]; simp only [if_neg hc3, if_pos hc9]
        rw [qv12] at k
        show Steps p.tables e below (s₁.setTop (mkF m 14 #[.val (.int b), .unset] [])) _
        refine XS.iconst X0.here hx rfl (hb hby d1_14) ?_
        show Steps p.tables e below (s₁.setTop (mkF m 15 #[.val (.int b), .unset] [(.int (2 : Int32))])) _
        refine XS.istoreN X0.here hx rfl (hb hby d1_15) rfl (l' := #[.val (.int b), .val (.int (2 : Int32))]) rfl ?_
        show Steps p.tables e below (s₁.setTop (mkF m 16 #[.val (.int b), .val (.int (2 : Int32))] [])) _
        refine XS.goto X0.here hx rfl (pc0 := 16) (pc' := 59) rfl (hb hby d1_16) (by decide) (by decide) ?_
        exact k
      · show Steps p.tables e below (s₁.setTop (mkF m 11 #[.val (.int b), .unset] [(.int (224 : Int32)), (.int b)])) _
        refine XS.icmpYes X0.here hx rfl (pc0 := 11) (pc' := 19) rfl (hb hby d1_11) rfl (flt hc9).2.1 (by decide) (by decide) ?_
        show Steps p.tables e below (s₁.setTop (mkF m 19 #[.val (.int b), .unset] [])) _
        refine XS.iloadN X0.here hx rfl (hb hby d1_19) rfl ?_
        show Steps p.tables e below (s₁.setTop (mkF m 20 #[.val (.int b), .unset] [(.int b)])) _
        refine XS.sipush X0.here hx rfl (hb hby d1_20) ?_
        show Steps p.tables e below (s₁.setTop (mkF m 23 #[.val (.int b), .unset] [(.int (224 : Int32)), (.int b)])) _
        refine XS.icmpNo X0.here hx rfl (hb hby d1_23) rfl (flt hc9).1 ?_
        show Steps p.tables e below (s₁.setTop (mkF m 26 #[.val (.int b), .unset] [])) _
        refine XS.iloadN X0.here hx rfl (hb hby d1_26) rfl ?_
        show Steps p.tables e below (s₁.setTop (mkF m 27 #[.val (.int b), .unset] [(.int b)])) _
        refine XS.sipush X0.here hx rfl (hb hby d1_27) ?_
        by_cases hc10 : b < (240 : Int32)
        · show Steps p.tables e below (s₁.setTop (mkF m 30 #[.val (.int b), .unset] [(.int (240 : Int32)), (.int b)])) _
          refine XS.icmpNo X0.here hx rfl (hb hby d1_30) rfl (tlt hc10).2.1 ?_
          have qv12 : v12 = (3 : Int32) := by rw [hv12]; simp only [if_neg hc3, if_neg hc9, if_pos hc10]
          rw [qv12] at k
          show Steps p.tables e below (s₁.setTop (mkF m 33 #[.val (.int b), .unset] [])) _
          refine XS.iconst X0.here hx rfl (hb hby d1_33) ?_
          show Steps p.tables e below (s₁.setTop (mkF m 34 #[.val (.int b), .unset] [(.int (3 : Int32))])) _
          refine XS.istoreN X0.here hx rfl (hb hby d1_34) rfl (l' := #[.val (.int b), .val (.int (3 : Int32))]) rfl ?_
          show Steps p.tables e below (s₁.setTop (mkF m 35 #[.val (.int b), .val (.int (3 : Int32))] [])) _
          refine XS.goto X0.here hx rfl (pc0 := 35) (pc' := 59) rfl (hb hby d1_35) (by decide) (by decide) ?_
          exact k
        · show Steps p.tables e below (s₁.setTop (mkF m 30 #[.val (.int b), .unset] [(.int (240 : Int32)), (.int b)])) _
          refine XS.icmpYes X0.here hx rfl (pc0 := 30) (pc' := 38) rfl (hb hby d1_30) rfl (flt hc10).2.1 (by decide) (by decide) ?_
          show Steps p.tables e below (s₁.setTop (mkF m 38 #[.val (.int b), .unset] [])) _
          refine XS.iloadN X0.here hx rfl (hb hby d1_38) rfl ?_
          show Steps p.tables e below (s₁.setTop (mkF m 39 #[.val (.int b), .unset] [(.int b)])) _
          refine XS.sipush X0.here hx rfl (hb hby d1_39) ?_
          show Steps p.tables e below (s₁.setTop (mkF m 42 #[.val (.int b), .unset] [(.int (240 : Int32)), (.int b)])) _
          refine XS.icmpNo X0.here hx rfl (hb hby d1_42) rfl (flt hc10).1 ?_
          show Steps p.tables e below (s₁.setTop (mkF m 45 #[.val (.int b), .unset] [])) _
          refine XS.iloadN X0.here hx rfl (hb hby d1_45) rfl ?_
          show Steps p.tables e below (s₁.setTop (mkF m 46 #[.val (.int b), .unset] [(.int b)])) _
          refine XS.sipush X0.here hx rfl (hb hby d1_46) ?_
          by_cases hc11 : b < (248 : Int32)
          · show Steps p.tables e below (s₁.setTop (mkF m 49 #[.val (.int b), .unset] [(.int (248 : Int32)), (.int b)])) _
            refine XS.icmpNo X0.here hx rfl (hb hby d1_49) rfl (tlt hc11).2.1 ?_
            have qv12 : v12 = (4 : Int32) := by rw [hv12]; simp only [if_neg hc3, if_neg hc9, if_neg hc10, if_pos hc11]
            rw [qv12] at k
            show Steps p.tables e below (s₁.setTop (mkF m 52 #[.val (.int b), .unset] [])) _
            refine XS.iconst X0.here hx rfl (hb hby d1_52) ?_
            show Steps p.tables e below (s₁.setTop (mkF m 53 #[.val (.int b), .unset] [(.int (4 : Int32))])) _
            refine XS.istoreN X0.here hx rfl (hb hby d1_53) rfl (l' := #[.val (.int b), .val (.int (4 : Int32))]) rfl ?_
            show Steps p.tables e below (s₁.setTop (mkF m 54 #[.val (.int b), .val (.int (4 : Int32))] [])) _
            refine XS.goto X0.here hx rfl (pc0 := 54) (pc' := 59) rfl (hb hby d1_54) (by decide) (by decide) ?_
            exact k
          · show Steps p.tables e below (s₁.setTop (mkF m 49 #[.val (.int b), .unset] [(.int (248 : Int32)), (.int b)])) _
            refine XS.icmpYes X0.here hx rfl (pc0 := 49) (pc' := 57) rfl (hb hby d1_49) rfl (flt hc11).2.1 (by decide) (by decide) ?_
            have qv12 : v12 = (0 : Int32) := by rw [hv12]; simp only [if_neg hc3, if_neg hc9, if_neg hc10, if_neg hc11]
            rw [qv12] at k
            show Steps p.tables e below (s₁.setTop (mkF m 57 #[.val (.int b), .unset] [])) _
            refine XS.iconst X0.here hx rfl (hb hby d1_57) ?_
            show Steps p.tables e below (s₁.setTop (mkF m 58 #[.val (.int b), .unset] [(.int (0 : Int32))])) _
            refine XS.istoreN X0.here hx rfl (hb hby d1_58) rfl (l' := #[.val (.int b), .val (.int (0 : Int32))]) rfl ?_
            exact k)
  have P14 : own_Rch p.tables e below A0 (s₁.setTop (mkF m 60 #[.val (.int b), .val (.int v12)] [(.int v12)])) := fun t k => P13 t (by
    show Steps p.tables e below (s₁.setTop (mkF m 59 #[.val (.int b), .val (.int v12)] [])) _
    refine XS.iloadN X0.here hx rfl (hb hby d1_59) rfl ?_
    exact k)
  obtain ⟨fs, hr, hrun, hended, hW, hsame⟩ := X0.leave (v := some (.int v12)) (fun h => by rw [Bd.returns] at h; cases h)
  refine ⟨_, _, P00 _ (P14 _ ?_), hrun, hended, _, _, rfl, ?_, ⟨_, rfl⟩, hW, hsame.mono (by decide) (by decide)⟩
  · exact retOut X0 hx (t := .int) Bd.returns rfl (Or.inl ⟨rfl, Or.inl rfl, _, rfl⟩) (hb hby d1_60) hr
  · show Q1 Z b h0 n0 _ s₁.heap _
    rw [e0]
    refine ⟨?_, N0, rfl⟩
    subst hv12
    (try simp only [own_seq])
    (try rfl)
theorem d2_0 : decode method_2_code 0 = .ok (.iload_n 0, 1) := by decide +kernel
theorem d2_1 : decode method_2_code 1 = .ok (.sipush 128, 3) := by decide +kernel
theorem d2_4 : decode method_2_code 4 = .ok (.iand, 1) := by decide +kernel
theorem d2_5 : decode method_2_code 5 = .ok (.ifCond .ne 5, 3) := by decide +kernel
theorem d2_8 : decode method_2_code 8 = .ok (.iconst 0, 1) := by decide +kernel
theorem d2_9 : decode method_2_code 9 = .ok (.ireturn, 1) := by decide +kernel
theorem d2_10 : decode method_2_code 10 = .ok (.iload_n 0, 1) := by decide +kernel
theorem d2_11 : decode method_2_code 11 = .ok (.bipush 64, 2) := by decide +kernel
theorem d2_13 : decode method_2_code 13 = .ok (.iand, 1) := by decide +kernel
theorem d2_14 : decode method_2_code 14 = .ok (.ifCond .ne 5, 3) := by decide +kernel
theorem d2_17 : decode method_2_code 17 = .ok (.iconst 0, 1) := by decide +kernel
theorem d2_18 : decode method_2_code 18 = .ok (.ireturn, 1) := by decide +kernel
theorem d2_19 : decode method_2_code 19 = .ok (.iload_n 0, 1) := by decide +kernel
theorem d2_20 : decode method_2_code 20 = .ok (.bipush 32, 2) := by decide +kernel
theorem d2_22 : decode method_2_code 22 = .ok (.iand, 1) := by decide +kernel
theorem d2_23 : decode method_2_code 23 = .ok (.ifCond .ne 5, 3) := by decide +kernel
theorem d2_26 : decode method_2_code 26 = .ok (.iconst 2, 1) := by decide +kernel
theorem d2_27 : decode method_2_code 27 = .ok (.ireturn, 1) := by decide +kernel
theorem d2_28 : decode method_2_code 28 = .ok (.iload_n 0, 1) := by decide +kernel
theorem d2_29 : decode method_2_code 29 = .ok (.bipush 16, 2) := by decide +kernel
theorem d2_31 : decode method_2_code 31 = .ok (.iand, 1) := by decide +kernel
theorem d2_32 : decode method_2_code 32 = .ok (.ifCond .ne 5, 3) := by decide +kernel
theorem d2_35 : decode method_2_code 35 = .ok (.iconst 3, 1) := by decide +kernel
theorem d2_36 : decode method_2_code 36 = .ok (.ireturn, 1) := by decide +kernel
theorem d2_37 : decode method_2_code 37 = .ok (.iload_n 0, 1) := by decide +kernel
theorem d2_38 : decode method_2_code 38 = .ok (.bipush 8, 2) := by decide +kernel
theorem d2_40 : decode method_2_code 40 = .ok (.iand, 1) := by decide +kernel
theorem d2_41 : decode method_2_code 41 = .ok (.ifCond .ne 5, 3) := by decide +kernel
theorem d2_44 : decode method_2_code 44 = .ok (.iconst 4, 1) := by decide +kernel
theorem d2_45 : decode method_2_code 45 = .ok (.ireturn, 1) := by decide +kernel
theorem d2_46 : decode method_2_code 46 = .ok (.iconst 0, 1) := by decide +kernel
theorem d2_47 : decode method_2_code 47 = .ok (.ireturn, 1) := by decide +kernel
def own_ref (b : Int32) : Int32 := (if (b &&& (128 : Int32)) = (0 : Int32) then (0 : Int32) else (if (b &&& (64 : Int32)) = (0 : Int32) then (0 : Int32) else (if (b &&& (32 : Int32)) = (0 : Int32) then (2 : Int32) else (if (b &&& (16 : Int32)) = (0 : Int32) then (3 : Int32) else (if (b &&& (8 : Int32)) = (0 : Int32) then (4 : Int32) else (0 : Int32))))))
theorem pn_1 : plainName "tidemark/format/Utf8SequenceLengthPinLaw" = true := by first | (simp [plainName, overriddenIn]; done) | decide +kernel
theorem ef_2 (m : MethodId) (b : Int32) : entryFrame m #[(.int b)] 1 = mkF m 0 #[.val (.int b)] [] := by first | (simp [entryFrame, mkF, argsToLocals, Value.category]; done) | rfl
def Q2 (Z : State) (b : Int32) (h0 : Heap) (n0 : Nat) (v : Option Value) (h : Heap) (L : List Loc) : Prop := v = some (.int (own_ref b)) ∧ Fr n0 L ∧ h = h0
set_option maxRecDepth 65536 in
set_option maxHeartbeats 40000000 in
theorem rm2 (l : Launch) (Z : State) (a0 : Array Value) (hw : ∀ d ∈ tables_1, d.before a0 Z = true) (ws : List Jvm.Cond) (b : Int32) (h0 : Heap) (n0 : Nat) (Z0 : n0 ≤ h0.size) :
    MetFree l (⟨"tidemark/format/Utf8SequenceLengthPinLaw", "reference", "(I)I"⟩ : MethodName) (head1 (Jvm.Cond.code (⟨"tidemark/format/Utf8SequenceLengthPinLaw", "reference", "(I)I"⟩ : MethodName) method_2_code 1 (some .int) :: ws) ({ frames := 0, cells := 0, slots := 0, locals := 0 } : Room)) (fun a' U => a' = #[(.int b)] ∧ Z.Warmed39 U.vm ∧ U.heap = h0) (fun _ _ _ _ _ => True) (fun _ U o U' => ∃ v L, o = .returned v ∧ Q2 Z b h0 n0 v U'.heap L ∧ FrameEnd U o U' L ({ frames := 0, cells := 0, slots := 0, locals := 0 } : Room).cells ({ frames := 0, cells := 0, slots := 0, locals := 0 } : Room).slots) := by
  refine MetFree.of_bodySF (plainFor_of_name pn_1) hisR ?_
  intro p e s m args' below meth c s₁ Bd hml0 hP hK
  obtain ⟨hargs, hZ, hh⟩ := hP
  have hx := Bd.exec
  have hby := Bd.bytes
  have hml : c.maxLocals = 1 := hml0
  have hown : s.vm.findClass "tidemark/format/Utf8SequenceLengthPinLaw" = some m.cls := findClass_of_methodNamed Bd.named
  have hnm := (name_of_methodNamed Bd.named Bd.method).1
  have X0 : Stand p l e ({ frames := 0, cells := 0, slots := 0, locals := 0 } : Room) s m args' below meth c s₁ [] 0 0 := Stand.of_body Bd
  have e0 : s₁.heap = h0 := by rw [← hh, Bd.state]; rfl
  have N0 := Fr.nil n0
  obtain ⟨A0, hA0⟩ : ∃ A, A = s₁.setTop (mkF m 0 #[.val (.int b)] []) := ⟨_, rfl⟩
  have P0 : own_Rch p.tables e below A0 (s₁.setTop (mkF m 0 #[.val (.int b)] [])) := fun t k => hA0 ▸ k
  have P00 : own_Rch p.tables e below (s₁.setTop (entryFrame m args' 1)) A0 := fun t k => by rw [hargs]; exact castTop (ef_2 m b) (hA0 ▸ k)
  have P2 : own_Rch p.tables e below A0 (s₁.setTop (mkF m 5 #[.val (.int b)] [(.int (b &&& (128 : Int32)))])) := fun t k => P0 t (by
    show Steps p.tables e below (s₁.setTop (mkF m 0 #[.val (.int b)] [])) _
    refine XS.iloadN X0.here hx rfl (hb hby d2_0) rfl ?_
    show Steps p.tables e below (s₁.setTop (mkF m 1 #[.val (.int b)] [(.int b)])) _
    refine XS.sipush X0.here hx rfl (hb hby d2_1) ?_
    show Steps p.tables e below (s₁.setTop (mkF m 4 #[.val (.int b)] [(.int (128 : Int32)), (.int b)])) _
    refine XS.iand X0.here hx rfl (hb hby d2_4) rfl ?_
    exact k)
  by_cases hc1 : (b &&& (128 : Int32)) = (0 : Int32)
  · -- (b &&& (128 : Int32)) = (0 : Int32)
    have P3 : own_Rch p.tables e below A0 (s₁.setTop (mkF m 9 #[.val (.int b)] [(.int (0 : Int32))])) := fun t k => P2 t (by
      show Steps p.tables e below (s₁.setTop (mkF m 5 #[.val (.int b)] [(.int (b &&& (128 : Int32)))])) _
      refine XS.ifNo X0.here hx rfl (hb hby d2_5) rfl ((if0 _ _).trans (teq hc1).2) ?_
      show Steps p.tables e below (s₁.setTop (mkF m 8 #[.val (.int b)] [])) _
      refine XS.iconst X0.here hx rfl (hb hby d2_8) ?_
      exact k)
    obtain ⟨fs, hr, hrun, hended, hW, hsame⟩ := X0.leave (v := some (.int (0 : Int32))) (fun h => by rw [Bd.returns] at h; cases h)
    refine ⟨_, _, P00 _ (P3 _ ?_), hrun, hended, _, _, rfl, ?_, ⟨_, rfl⟩, hW, hsame.mono (by decide) (by decide)⟩
    · exact retOut X0 hx (t := .int) Bd.returns rfl (Or.inl ⟨rfl, Or.inl rfl, _, rfl⟩) (hb hby d2_9) hr
    · show Q2 Z b h0 n0 _ s₁.heap _
      rw [e0]
      refine ⟨?_, N0, rfl⟩
      skip
      (try simp only [own_ref, if_pos hc1])
      (try rfl)
  · -- not (b &&& (128 : Int32)) = (0 : Int32)
    have P5 : own_Rch p.tables e below A0 (s₁.setTop (mkF m 14 #[.val (.int b)] [(.int (b &&& (64 : Int32)))])) := fun t k => P2 t (by
      show Steps p.tables e below (s₁.setTop (mkF m 5 #[.val (.int b)] [(.int (b &&& (128 : Int32)))])) _
      refine XS.ifYes X0.here hx rfl (pc0 := 5) (pc' := 10) rfl (hb hby d2_5) rfl ((if0 _ _).trans (feq hc1).2) (by decide) (by decide) ?_
      show Steps p.tables e below (s₁.setTop (mkF m 10 #[.val (.int b)] [])) _
      refine XS.iloadN X0.here hx rfl (hb hby d2_10) rfl ?_
      show Steps p.tables e below (s₁.setTop (mkF m 11 #[.val (.int b)] [(.int b)])) _
      refine XS.bipush X0.here hx rfl (hb hby d2_11) ?_
      show Steps p.tables e below (s₁.setTop (mkF m 13 #[.val (.int b)] [(.int (64 : Int32)), (.int b)])) _
      refine XS.iand X0.here hx rfl (hb hby d2_13) rfl ?_
      exact k)
    by_cases hc4 : (b &&& (64 : Int32)) = (0 : Int32)
    · -- (b &&& (64 : Int32)) = (0 : Int32)
      have P6 : own_Rch p.tables e below A0 (s₁.setTop (mkF m 18 #[.val (.int b)] [(.int (0 : Int32))])) := fun t k => P5 t (by
        show Steps p.tables e below (s₁.setTop (mkF m 14 #[.val (.int b)] [(.int (b &&& (64 : Int32)))])) _
        refine XS.ifNo X0.here hx rfl (hb hby d2_14) rfl ((if0 _ _).trans (teq hc4).2) ?_
        show Steps p.tables e below (s₁.setTop (mkF m 17 #[.val (.int b)] [])) _
        refine XS.iconst X0.here hx rfl (hb hby d2_17) ?_
        exact k)
      obtain ⟨fs, hr, hrun, hended, hW, hsame⟩ := X0.leave (v := some (.int (0 : Int32))) (fun h => by rw [Bd.returns] at h; cases h)
      refine ⟨_, _, P00 _ (P6 _ ?_), hrun, hended, _, _, rfl, ?_, ⟨_, rfl⟩, hW, hsame.mono (by decide) (by decide)⟩
      · exact retOut X0 hx (t := .int) Bd.returns rfl (Or.inl ⟨rfl, Or.inl rfl, _, rfl⟩) (hb hby d2_18) hr
      · show Q2 Z b h0 n0 _ s₁.heap _
        rw [e0]
        refine ⟨?_, N0, rfl⟩
        skip
        (try simp only [own_ref, if_neg hc1, if_pos hc4])
        (try rfl)
    · -- not (b &&& (64 : Int32)) = (0 : Int32)
      have P8 : own_Rch p.tables e below A0 (s₁.setTop (mkF m 23 #[.val (.int b)] [(.int (b &&& (32 : Int32)))])) := fun t k => P5 t (by
        show Steps p.tables e below (s₁.setTop (mkF m 14 #[.val (.int b)] [(.int (b &&& (64 : Int32)))])) _
        refine XS.ifYes X0.here hx rfl (pc0 := 14) (pc' := 19) rfl (hb hby d2_14) rfl ((if0 _ _).trans (feq hc4).2) (by decide) (by decide) ?_
        show Steps p.tables e below (s₁.setTop (mkF m 19 #[.val (.int b)] [])) _
        refine XS.iloadN X0.here hx rfl (hb hby d2_19) rfl ?_
        show Steps p.tables e below (s₁.setTop (mkF m 20 #[.val (.int b)] [(.int b)])) _
        refine XS.bipush X0.here hx rfl (hb hby d2_20) ?_
        show Steps p.tables e below (s₁.setTop (mkF m 22 #[.val (.int b)] [(.int (32 : Int32)), (.int b)])) _
        refine XS.iand X0.here hx rfl (hb hby d2_22) rfl ?_
        exact k)
      by_cases hc7 : (b &&& (32 : Int32)) = (0 : Int32)
      · -- (b &&& (32 : Int32)) = (0 : Int32)
        have P9 : own_Rch p.tables e below A0 (s₁.setTop (mkF m 27 #[.val (.int b)] [(.int (2 : Int32))])) := fun t k => P8 t (by
          show Steps p.tables e below (s₁.setTop (mkF m 23 #[.val (.int b)] [(.int (b &&& (32 : Int32)))])) _
          refine XS.ifNo X0.here hx rfl (hb hby d2_23) rfl ((if0 _ _).trans (teq hc7).2) ?_
          show Steps p.tables e below (s₁.setTop (mkF m 26 #[.val (.int b)] [])) _
          refine XS.iconst X0.here hx rfl (hb hby d2_26) ?_
          exact k)
        obtain ⟨fs, hr, hrun, hended, hW, hsame⟩ := X0.leave (v := some (.int (2 : Int32))) (fun h => by rw [Bd.returns] at h; cases h)
        refine ⟨_, _, P00 _ (P9 _ ?_), hrun, hended, _, _, rfl, ?_, ⟨_, rfl⟩, hW, hsame.mono (by decide) (by decide)⟩
        · exact retOut X0 hx (t := .int) Bd.returns rfl (Or.inl ⟨rfl, Or.inl rfl, _, rfl⟩) (hb hby d2_27) hr
        · show Q2 Z b h0 n0 _ s₁.heap _
          rw [e0]
          refine ⟨?_, N0, rfl⟩
          skip
          (try simp only [own_ref, if_neg hc1, if_neg hc4, if_pos hc7])
          (try rfl)
      · -- not (b &&& (32 : Int32)) = (0 : Int32)
        have P11 : own_Rch p.tables e below A0 (s₁.setTop (mkF m 32 #[.val (.int b)] [(.int (b &&& (16 : Int32)))])) := fun t k => P8 t (by
          show Steps p.tables e below (s₁.setTop (mkF m 23 #[.val (.int b)] [(.int (b &&& (32 : Int32)))])) _
          refine XS.ifYes X0.here hx rfl (pc0 := 23) (pc' := 28) rfl (hb hby d2_23) rfl ((if0 _ _).trans (feq hc7).2) (by decide) (by decide) ?_
          show Steps p.tables e below (s₁.setTop (mkF m 28 #[.val (.int b)] [])) _
          refine XS.iloadN X0.here hx rfl (hb hby d2_28) rfl ?_
          show Steps p.tables e below (s₁.setTop (mkF m 29 #[.val (.int b)] [(.int b)])) _
          refine XS.bipush X0.here hx rfl (hb hby d2_29) ?_
          show Steps p.tables e below (s₁.setTop (mkF m 31 #[.val (.int b)] [(.int (16 : Int32)), (.int b)])) _
          refine XS.iand X0.here hx rfl (hb hby d2_31) rfl ?_
          exact k)
        by_cases hc10 : (b &&& (16 : Int32)) = (0 : Int32)
        · -- (b &&& (16 : Int32)) = (0 : Int32)
          have P12 : own_Rch p.tables e below A0 (s₁.setTop (mkF m 36 #[.val (.int b)] [(.int (3 : Int32))])) := fun t k => P11 t (by
            show Steps p.tables e below (s₁.setTop (mkF m 32 #[.val (.int b)] [(.int (b &&& (16 : Int32)))])) _
            refine XS.ifNo X0.here hx rfl (hb hby d2_32) rfl ((if0 _ _).trans (teq hc10).2) ?_
            show Steps p.tables e below (s₁.setTop (mkF m 35 #[.val (.int b)] [])) _
            refine XS.iconst X0.here hx rfl (hb hby d2_35) ?_
            exact k)
          obtain ⟨fs, hr, hrun, hended, hW, hsame⟩ := X0.leave (v := some (.int (3 : Int32))) (fun h => by rw [Bd.returns] at h; cases h)
          refine ⟨_, _, P00 _ (P12 _ ?_), hrun, hended, _, _, rfl, ?_, ⟨_, rfl⟩, hW, hsame.mono (by decide) (by decide)⟩
          · exact retOut X0 hx (t := .int) Bd.returns rfl (Or.inl ⟨rfl, Or.inl rfl, _, rfl⟩) (hb hby d2_36) hr
          · show Q2 Z b h0 n0 _ s₁.heap _
            rw [e0]
            refine ⟨?_, N0, rfl⟩
            skip
            (try simp only [own_ref, if_neg hc1, if_neg hc4, if_neg hc7, if_pos hc10])
            (try rfl)
        · -- not (b &&& (16 : Int32)) = (0 : Int32)
          have P14 : own_Rch p.tables e below A0 (s₁.setTop (mkF m 41 #[.val (.int b)] [(.int (b &&& (8 : Int32)))])) := fun t k => P11 t (by
            show Steps p.tables e below (s₁.setTop (mkF m 32 #[.val (.int b)] [(.int (b &&& (16 : Int32)))])) _
            refine XS.ifYes X0.here hx rfl (pc0 := 32) (pc' := 37) rfl (hb hby d2_32) rfl ((if0 _ _).trans (feq hc10).2) (by decide) (by decide) ?_
            show Steps p.tables e below (s₁.setTop (mkF m 37 #[.val (.int b)] [])) _
            refine XS.iloadN X0.here hx rfl (hb hby d2_37) rfl ?_
            show Steps p.tables e below (s₁.setTop (mkF m 38 #[.val (.int b)] [(.int b)])) _
            refine XS.bipush X0.here hx rfl (hb hby d2_38) ?_
            show Steps p.tables e below (s₁.setTop (mkF m 40 #[.val (.int b)] [(.int (8 : Int32)), (.int b)])) _
            refine XS.iand X0.here hx rfl (hb hby d2_40) rfl ?_
            exact k)
          by_cases hc13 : (b &&& (8 : Int32)) = (0 : Int32)
          · -- (b &&& (8 : Int32)) = (0 : Int32)
            have P15 : own_Rch p.tables e below A0 (s₁.setTop (mkF m 45 #[.val (.int b)] [(.int (4 : Int32))])) := fun t k => P14 t (by
              show Steps p.tables e below (s₁.setTop (mkF m 41 #[.val (.int b)] [(.int (b &&& (8 : Int32)))])) _
              refine XS.ifNo X0.here hx rfl (hb hby d2_41) rfl ((if0 _ _).trans (teq hc13).2) ?_
              show Steps p.tables e below (s₁.setTop (mkF m 44 #[.val (.int b)] [])) _
              refine XS.iconst X0.here hx rfl (hb hby d2_44) ?_
              exact k)
            obtain ⟨fs, hr, hrun, hended, hW, hsame⟩ := X0.leave (v := some (.int (4 : Int32))) (fun h => by rw [Bd.returns] at h; cases h)
            refine ⟨_, _, P00 _ (P15 _ ?_), hrun, hended, _, _, rfl, ?_, ⟨_, rfl⟩, hW, hsame.mono (by decide) (by decide)⟩
            · exact retOut X0 hx (t := .int) Bd.returns rfl (Or.inl ⟨rfl, Or.inl rfl, _, rfl⟩) (hb hby d2_45) hr
            · show Q2 Z b h0 n0 _ s₁.heap _
              rw [e0]
              refine ⟨?_, N0, rfl⟩
              skip
              (try simp only [own_ref, if_neg hc1, if_neg hc4, if_neg hc7, if_neg hc10, if_pos hc13])
              (try rfl)
          · -- not (b &&& (8 : Int32)) = (0 : Int32)
            have P16 : own_Rch p.tables e below A0 (s₁.setTop (mkF m 47 #[.val (.int b)] [(.int (0 : Int32))])) := fun t k => P14 t (by
              show Steps p.tables e below (s₁.setTop (mkF m 41 #[.val (.int b)] [(.int (b &&& (8 : Int32)))])) _
              refine XS.ifYes X0.here hx rfl (pc0 := 41) (pc' := 46) rfl (hb hby d2_41) rfl ((if0 _ _).trans (feq hc13).2) (by decide) (by decide) ?_
              show Steps p.tables e below (s₁.setTop (mkF m 46 #[.val (.int b)] [])) _
              refine XS.iconst X0.here hx rfl (hb hby d2_46) ?_
              exact k)
            obtain ⟨fs, hr, hrun, hended, hW, hsame⟩ := X0.leave (v := some (.int (0 : Int32))) (fun h => by rw [Bd.returns] at h; cases h)
            refine ⟨_, _, P00 _ (P16 _ ?_), hrun, hended, _, _, rfl, ?_, ⟨_, rfl⟩, hW, hsame.mono (by decide) (by decide)⟩
            · exact retOut X0 hx (t := .int) Bd.returns rfl (Or.inl ⟨rfl, Or.inl rfl, _, rfl⟩) (hb hby d2_47) hr
            · show Q2 Z b h0 n0 _ s₁.heap _
              rw [e0]
              refine ⟨?_, N0, rfl⟩
              skip
              (try simp only [own_ref, if_neg hc1, if_neg hc4, if_neg hc7, if_neg hc10, if_neg hc13])
              (try rfl)
theorem own_byte (x : Int32) : own_seq (x &&& 255) = own_ref (x &&& 255) := by
  have h : ∀ n : Fin 256, own_seq (Int32.ofNat n.val) = own_ref (Int32.ofNat n.val) := by decide +kernel
  have e : x &&& 255 = Int32.ofNat (x.toBitVec &&& 255#32).toNat := by
    apply Int32.toBitVec_inj.mp
    simp [Int32.toBitVec_and]
  have l : (x.toBitVec &&& 255#32).toNat < 256 := by
    rw [BitVec.toNat_and]; exact Nat.lt_of_le_of_lt Nat.and_le_right (by decide)
  rw [e]; exact h ⟨_, l⟩
theorem pd_0 : parseMethodDescriptor "(I)I" = some ⟨[.int], some .int⟩ := by decide +kernel
theorem ef_0 (m : MethodId) (i0 : Int32) : entryFrame m #[(.int i0)] maxLocals = mkF m 0 #[.val (.int i0), .unset] [] := by first | (simp [entryFrame, mkF, argsToLocals, Value.category, maxLocals]; done) | rfl
def Q0 (Z : State) (i0 : Int32) (h0 : Heap) (n0 : Nat) (v : Option Value) (h : Heap) (L : List Loc) : Prop := v = some (.int 1) ∧ Fr n0 L
set_option maxRecDepth 65536 in
set_option maxHeartbeats 40000000 in
theorem rm0 (l : Launch) (Z : State) (a0 : Array Value) (hw : ∀ d ∈ tables_1, d.before a0 Z = true) (ws : List Jvm.Cond) (i0 : Int32) (h0 : Heap) (n0 : Nat) (Z0 : n0 ≤ h0.size) :
    MetFree l x (head1 (Jvm.Cond.code x code maxLocals ret :: ws) room_1) (fun a' U => a' = #[(.int i0)] ∧ Z.Warmed39 U.vm ∧ U.heap = h0) (fun _ _ _ _ _ => True) (fun _ U o U' => ∃ v L, o = .returned v ∧ Q0 Z i0 h0 n0 v U'.heap L ∧ FrameEnd U o U' L 0 0) := by
  refine MetFree.of_bodySF (plainFor_of_name pn_1) hisR ?_
  intro p e s m args' below meth c s₁ Bd hml0 hP hK
  obtain ⟨hargs, hZ, hh⟩ := hP
  have hx := Bd.exec
  have hby := Bd.bytes
  have hml : c.maxLocals = 2 := hml0
  have hown : s.vm.findClass "tidemark/format/Utf8SequenceLengthPinLaw" = some m.cls := findClass_of_methodNamed Bd.named
  have hnm := (name_of_methodNamed Bd.named Bd.method).1
  have X0 : Stand p l e room_1 s m args' below meth c s₁ [] 0 0 := Stand.of_body Bd
  have e0 : s₁.heap = h0 := by rw [← hh, Bd.state]; rfl
  have N0 := Fr.nil n0
  obtain ⟨A0, hA0⟩ : ∃ A, A = s₁.setTop (mkF m 0 #[.val (.int i0), .unset] []) := ⟨_, rfl⟩
  have P0 : own_Rch p.tables e below A0 (s₁.setTop (mkF m 0 #[.val (.int i0), .unset] [])) := fun t k => hA0 ▸ k
  have P00 : own_Rch p.tables e below (s₁.setTop (entryFrame m args' maxLocals)) A0 := fun t k => by rw [hargs]; exact castTop (ef_0 m i0) (hA0 ▸ k)
  have P1 : own_Rch p.tables e below A0 (s₁.setTop (mkF m 6 #[.val (.int i0), .val (.int (i0 &&& (255 : Int32)))] [])) := fun t k => P0 t (by
    show Steps p.tables e below (s₁.setTop (mkF m 0 #[.val (.int i0), .unset] [])) _
    refine XS.iloadN X0.here hx rfl (hb hby at_0) rfl ?_
    show Steps p.tables e below (s₁.setTop (mkF m 1 #[.val (.int i0), .unset] [(.int i0)])) _
    refine XS.sipush X0.here hx rfl (hb hby at_1) ?_
    show Steps p.tables e below (s₁.setTop (mkF m 4 #[.val (.int i0), .unset] [(.int (255 : Int32)), (.int i0)])) _
    refine XS.iand X0.here hx rfl (hb hby at_4) rfl ?_
    show Steps p.tables e below (s₁.setTop (mkF m 5 #[.val (.int i0), .unset] [(.int (i0 &&& (255 : Int32)))])) _
    refine XS.istoreN X0.here hx rfl (hb hby at_5) rfl (l' := #[.val (.int i0), .val (.int (i0 &&& (255 : Int32)))]) rfl ?_
    exact k)
  obtain ⟨v2, hv2, P3⟩ : ∃ z : Int32, z = (i0 &&& (255 : Int32)) ∧ own_Rch p.tables e below A0 (s₁.setTop (mkF m 6 #[.val (.int i0), .val (.int z)] [])) := ⟨_, rfl, P1⟩
  have P4 : own_Rch p.tables e below A0 (s₁.setTop (mkF m 7 #[.val (.int i0), .val (.int v2)] [(.int v2)])) := fun t k => P3 t (by
    show Steps p.tables e below (s₁.setTop (mkF m 6 #[.val (.int i0), .val (.int v2)] [])) _
    refine XS.iloadN X0.here hx rfl (hb hby at_6) rfl ?_
    exact k)
  obtain ⟨_, _, ⟨T5, L5, k5, n5⟩, -, X5, ⟨Lc5, hQ5, l5, y5, z5⟩, st5⟩ := Jvm.LawKit.callS X0 hx (y := (⟨"tidemark/format/Utf8", "sequenceLength", "(I)I"⟩ : MethodName)) hown (mvT hZ (hw _ (List.mem_of_getElem? (i := 0) rfl))) (mvT hZ (hw _ (List.mem_of_getElem? (i := 1) rfl))) (mvT hZ (hw _ (List.mem_of_getElem? (i := 2) rfl))) (mvT hZ (hw _ (List.mem_of_getElem? (i := 3) rfl))) (by decide) (backOf (W := 0) (rm1 l Z a0 hw [] v2 h0 n0 Z0 ) hZ (hw _ (List.mem_of_getElem? (i := 3) rfl)) (hw _ (List.mem_of_getElem? (i := 2) rfl)) (by decide) (by decide)) (g := (mkF m 7 #[.val (.int i0), .val (.int v2)] [(.int v2)])) rfl (by rw [hml]; rfl) (argsL := [(.int v2)]) (rest := []) (lenOf pd_0 rfl) rfl (by show 2 * 0 + _ ≤ _; exact Nat.le_of_eq rfl) (hb hby at_7) (fun _ _ => ⟨rfl, e0, (by decide : (0) + 0 ≤ _), (by decide : (0) + 0 ≤ _)⟩)
  dsimp only [Pt.U, Pt.locs, Pt.cells, Pt.slots] at X5 l5 y5 z5 st5 hQ5
  subst l5 y5 z5
  obtain ⟨rfl, N5q, e5⟩ := hQ5
  have N5 := Fr.app N0 N5q
  have P6 : own_Rch p.tables e below A0 (T5.setTop (mkF m 10 #[.val (.int i0), .val (.int v2)] [(.int (own_seq v2))])) := fun t k => P4 t (st5 t k)
  have P7 : own_Rch p.tables e below A0 (T5.setTop (mkF m 11 #[.val (.int i0), .val (.int v2)] [(.int v2), (.int (own_seq v2))])) := fun t k => P6 t (by
    show Steps p.tables e below (T5.setTop (mkF m 10 #[.val (.int i0), .val (.int v2)] [(.int (own_seq v2))])) _
    refine XS.iloadN X5.here hx rfl (hb hby at_10) rfl ?_
    exact k)
  obtain ⟨_, _, ⟨T8, L8, k8, n8⟩, -, X8, ⟨Lc8, hQ8, l8, y8, z8⟩, st8⟩ := Jvm.LawKit.callS X5 hx (y := (⟨"tidemark/format/Utf8SequenceLengthPinLaw", "reference", "(I)I"⟩ : MethodName)) hown (mvT hZ (hw _ (List.mem_of_getElem? (i := 4) rfl))) (mvT hZ (hw _ (List.mem_of_getElem? (i := 5) rfl))) (mvT hZ (hw _ (List.mem_of_getElem? (i := 6) rfl))) (mvT hZ (hw _ (List.mem_of_getElem? (i := 7) rfl))) (by decide) (backOf (W := 1) (rm2 l Z a0 hw [] v2 h0 n0 Z0 ) hZ (hw _ (List.mem_of_getElem? (i := 7) rfl)) (hw _ (List.mem_of_getElem? (i := 6) rfl)) (by decide) (by decide)) (g := (mkF m 11 #[.val (.int i0), .val (.int v2)] [(.int v2), (.int (own_seq v2))])) rfl (by rw [hml]; rfl) (argsL := [(.int v2)]) (rest := [(.int (own_seq v2))]) (lenOf pd_0 rfl) rfl (by show 2 * 0 + _ ≤ _; exact Nat.le_of_eq rfl) (hb hby at_11) (fun _ _ => ⟨rfl, e5, (by decide : (0 + 0) + 0 ≤ _), (by decide : (0 + 0) + 0 ≤ _)⟩)
  dsimp only [Pt.U, Pt.locs, Pt.cells, Pt.slots] at X8 l8 y8 z8 st8 hQ8
  subst l8 y8 z8
  obtain ⟨rfl, N8q, e8⟩ := hQ8
  have N8 := Fr.app N5 N8q
  have P9 : own_Rch p.tables e below A0 (T8.setTop (mkF m 14 #[.val (.int i0), .val (.int v2)] [(.int (own_ref v2)), (.int (own_seq v2))])) := fun t k => P7 t (st8 t k)
  by_cases hc10 : (own_seq v2) = (own_ref v2)
  · -- (own_seq v2) = (own_ref v2)
    have P11 : own_Rch p.tables e below A0 (T8.setTop (mkF m 22 #[.val (.int i0), .val (.int v2)] [(.int (1 : Int32))])) := fun t k => P9 t (by
      show Steps p.tables e below (T8.setTop (mkF m 14 #[.val (.int i0), .val (.int v2)] [(.int (own_ref v2)), (.int (own_seq v2))])) _
      refine XS.icmpNo X8.here hx rfl (hb hby at_14) rfl (teq hc10).2 ?_
      show Steps p.tables e below (T8.setTop (mkF m 17 #[.val (.int i0), .val (.int v2)] [])) _
      refine XS.iconst X8.here hx rfl (hb hby at_17) ?_
      show Steps p.tables e below (T8.setTop (mkF m 18 #[.val (.int i0), .val (.int v2)] [(.int (1 : Int32))])) _
      refine XS.goto X8.here hx rfl (pc0 := 18) (pc' := 22) rfl (hb hby at_18) (by decide) (by decide) ?_
      exact k)
    obtain ⟨fs, hr, hrun, hended, hW, hsame⟩ := X8.leave (v := some (.int (nar .boolean (1 : Int32)))) (fun h => by rw [Bd.returns] at h; cases h)
    refine ⟨_, _, P00 _ (P11 _ ?_), hrun, hended, _, _, rfl, ?_, ⟨_, rfl⟩, hW, hsame.mono (by decide) (by decide)⟩
    · exact retN X8 hx (t := .boolean) Bd.returns (by simp) (hb hby at_22) hr
    · show Q0 Z i0 h0 n0 _ T8.heap _
      rw [e8]
      refine ⟨?_, N8⟩
      rfl
  · -- not (own_seq v2) = (own_ref v2)
    have P12 : own_Rch p.tables e below A0 (T8.setTop (mkF m 22 #[.val (.int i0), .val (.int v2)] [(.int (0 : Int32))])) := fun t k => P9 t (by
      show Steps p.tables e below (T8.setTop (mkF m 14 #[.val (.int i0), .val (.int v2)] [(.int (own_ref v2)), (.int (own_seq v2))])) _
      refine XS.icmpYes X8.here hx rfl (pc0 := 14) (pc' := 21) rfl (hb hby at_14) rfl (feq hc10).2 (by decide) (by decide) ?_
      show Steps p.tables e below (T8.setTop (mkF m 21 #[.val (.int i0), .val (.int v2)] [])) _
      refine XS.iconst X8.here hx rfl (hb hby at_21) ?_
      exact k)
    obtain ⟨fs, hr, hrun, hended, hW, hsame⟩ := X8.leave (v := some (.int (nar .boolean (0 : Int32)))) (fun h => by rw [Bd.returns] at h; cases h)
    refine ⟨_, _, P00 _ (P12 _ ?_), hrun, hended, _, _, rfl, ?_, ⟨_, rfl⟩, hW, hsame.mono (by decide) (by decide)⟩
    · exact retN X8 hx (t := .boolean) Bd.returns (by simp) (hb hby at_22) hr
    · show Q0 Z i0 h0 n0 _ T8.heap _
      rw [e8]
      refine ⟨?_, N8⟩
      subst hv2
      exact absurd (own_byte i0) hc10
set_option maxRecDepth 65536 in
set_option maxHeartbeats 40000000 in
theorem comes_1 {Post : Tables → Env → Array Value → State → Outcome → State → Prop} (hpost : ∀ tb e args s v u, (limb_1_1.after args s (.returned v) u = true ∧ limb_1_2.after args s (.returned v) u = true ∧ True) → FrameEnd s (.returned v) u (Jvm.fieldLocs frame_1_writes args s ++ Jvm.arrayLocs frame_1_arrays args s ++ Jvm.staticLocs frame_1_statics s) 0 0 → Post tb e args s (.returned v) u) :
    ArmFor flags0 classFile x code maxLocals ret World_1 tables_1 room_1 Calls_1 rest_1 Pre_1 Post := by
  intro l hfl _ _ p e ha hc hk s m args below hf hA hF happ hP
  obtain ⟨hcalls, hrest, hpre⟩ := hP
  obtain ⟨-, -, -, hnamed, -, -, -, hat⟩ := (Spec.applies_iff hf).mp happ
  obtain ⟨hg, hn⟩ := and_e (Cond.before_iff.mp (show (Jvm.Cond.and given_1 narrow_1).before args s = true from hpre))
  obtain ⟨ga0, gb0⟩ := and_e hg
  obtain ⟨w0, rfl⟩ : ∃ w0 : Value, args = #[w0] := by
    have hs : args.size = 1 := by simpa [Cond.value, given_1] using ga0
    obtain ⟨L⟩ := args
    match L, hs with
    | [w0], _ => exact ⟨w0, rfl⟩
  have hw := fun d (hd : d ∈ tables_1) => atoms_spec (ws := Jvm.Cond.code x code maxLocals ret :: tables_1) hat d (List.mem_cons_of_mem _ hd)
  have hfit : Fit s := fun {y c} hc i hi => by
    obtain ⟨ha, rfl⟩ := Array.getElem?_eq_some_iff.mp hc
    have q := List.all_eq_true.mp ((Array.all_eq_true_iff_forall_mem.mp hF) _ (Array.getElem_mem ha)) i (List.mem_range.mpr hi)
    simpa [Array.getElem?_eq_getElem hi] using q
  obtain ⟨i0, ei0⟩ := is_v gb0
  obtain rfl : w0 = (.int i0) := Option.some.inj ei0
  obtain ⟨n, o, h1, h2, h3, _, L, rfl, ⟨rfl, N⟩, hq⟩ := rm0 l s _ hw tables_1 i0  s.heap s.heap.size (Nat.le_refl _)  p e ha hc hk s m _ below hf ((Spec.applies_iff_loose hf).mp happ).1 ⟨rfl, State.Warmed39.refl s, rfl⟩ trivial
  refine ⟨n, _, h1, h2, h3, hpost _ _ _ _ _ _ ⟨Cond.after_iff.mpr rfl, Cond.after_iff.mpr (eq_i res_at (Term.int_eval (1)) rfl), trivial⟩ ⟨hq.1, hq.2.1, (hq.2.2.sift fun y hy => Or.inr (N y hy)).mono (by decide) (by decide)⟩⟩
theorem main_1_1 : Claimed_1_1 := comes_1 fun _ _ _ _ _ _ h hF => ⟨h.1, hF⟩
theorem main_1_2 : Claimed_1_2 := comes_1 fun _ _ _ _ _ _ h hF => ⟨h.2.1, hF⟩
end Jvm.Pilot.@@N@@
namespace Jvm.Pilot.@@N@@
open Jvm Jvm.ClassFile Sem Op Lib Jvm.Free Jvm.Stand Jvm.Pilot.@@N@@.Jvm.D
/-! MADE BY PROGRAM (witnessworld.py) out of the Statement's table words and the real class files: 9 classes; the members and pool entries that the words name. The judged class is class 1, her method 2. -/
namespace start1
open Jvm.ClassFile
def u (s : String) : CpInfo := .utf8 (stringToUtf16 s)
/-- a pool by its gaps: so many unusable entries, then the entry; so many at the end -/
def gap : Nat → List CpInfo → List CpInfo
  | 0, r => r
  | n + 1, r => .unusable :: gap n r
def poolList (es : List (Nat × CpInfo)) (last : Nat) : List CpInfo := es.foldr (fun e r => gap e.1 (e.2 :: r)) (gap last [])
def pool (es : List (Nat × CpInfo)) (last : Nat) : Array CpInfo := ⟨poolList es last⟩
def fileOf (pool : Array CpInfo) (this : Nat) (attrs : Array Attribute := #[]) (ms : Array MethodInfo := #[]) (fl : Nat := 33) (sup : Nat := 0) (ifs : Array Nat := #[]) (fds : Array FieldInfo := #[]) : ClassFile where
  minorVersion := 0
  majorVersion := 65
  constantPool := pool
  accessFlags := fl
  thisClass := this
  superClass := sup
  interfaces := ifs
  fields := fds
  methods := ms
  attributes := attrs
def plain (name : String) (sup : Option ClassId) : Class where
  name := name
  kind := .ordinary
  loader := none
  accessFlags := 33
  super := sup
  interfaces := #[]
  cf := none
  fields := #[]
  methods := #[]
  instanceTypes := #[]
  staticTypes := #[]
  resolved := #[]
  callSites := []
  init := .initialized
  statics := none
  mirror := none

def pool0 : Array CpInfo := pool [(5, u "<init>"), (0, u "()V"), (1, .class_ 10), (1, u "java/lang/Object")] 113

def k0m0 : Method := { name := "<init>", desc := "()V", sig := { parameters := [], returnType := none }, accessFlags := 1, code := none }
/-- java/lang/Object -/
def k0 : Class := { plain "java/lang/Object" none with
  accessFlags := 33
  interfaces := #[]
  cf := some (fileOf pool0 8 #[] #[{ accessFlags := 1, nameIndex := 5, descriptorIndex := 6, attributes := #[] }] 33 0 #[] #[])
  fields := #[]
  methods := #[k0m0]
  instanceTypes := #[]
  staticTypes := #[]
  resolved := Array.replicate 124 none
  statics := none }

def pool1 : Array CpInfo := pool [(2, .class_ 4), (1, u "java/lang/Object"), (0, u "<init>"), (0, u "()V"), (0, .methodref 8 9), (0, .class_ 10), (0, .nameAndType 11 12), (0, u "tidemark/format/Utf8"), (0, u "sequenceLength"), (0, u "(I)I"), (0, .methodref 14 15), (0, .class_ 16), (0, .nameAndType 17 12), (0, u "tidemark/format/Utf8SequenceLengthPinLaw"), (0, u "reference"), (3, u "law"), (0, u "(I)Z")] 2

def k1m0 : Method := { name := "<init>", desc := "()V", sig := { parameters := [], returnType := none }, accessFlags := 2, code := none }
def k1c1 : Code := { maxStack := 2, maxLocals := 1, code := method_2_code, exceptionTable := #[], attributes := #[] }
def k1m1 : Method := { name := "reference", desc := "(I)I", sig := { parameters := [.int], returnType := some .int }, accessFlags := 10, code := some k1c1 }
def k1c2 : Code := { maxStack := 2, maxLocals := 2, code := code, exceptionTable := #[], attributes := #[] }
def k1m2 : Method := { name := "law", desc := "(I)Z", sig := { parameters := [.int], returnType := some .boolean }, accessFlags := 9, code := some k1c2 }
/-- tidemark/format/Utf8SequenceLengthPinLaw -/
def k1 : Class := { plain "tidemark/format/Utf8SequenceLengthPinLaw" (some 0) with
  accessFlags := 49
  interfaces := #[]
  cf := some (fileOf pool1 14 #[] #[{ accessFlags := 2, nameIndex := 5, descriptorIndex := 6, attributes := #[] }, { accessFlags := 10, nameIndex := 17, descriptorIndex := 12, attributes := #[] }, { accessFlags := 9, nameIndex := 21, descriptorIndex := 22, attributes := #[] }] 49 2 #[] #[])
  fields := #[]
  methods := #[k1m0, k1m1, k1m2]
  instanceTypes := #[]
  staticTypes := #[]
  resolved := Array.replicate 25 none
  statics := none }

def pool2 : Array CpInfo := pool [(2, .class_ 4), (1, u "java/lang/Object"), (0, u "<init>"), (0, u "()V"), (1, .class_ 10), (1, u "tidemark/format/Utf8"), (0, u "sequenceLength"), (0, u "(I)I")] 18

def k2m0 : Method := { name := "<init>", desc := "()V", sig := { parameters := [], returnType := none }, accessFlags := 2, code := none }
def k2c1 : Code := { maxStack := 2, maxLocals := 2, code := prog_25_method_2_code, exceptionTable := #[], attributes := #[] }
def k2m1 : Method := { name := "sequenceLength", desc := "(I)I", sig := { parameters := [.int], returnType := some .int }, accessFlags := 8, code := some k2c1 }
/-- tidemark/format/Utf8 -/
def k2 : Class := { plain "tidemark/format/Utf8" (some 0) with
  accessFlags := 48
  interfaces := #[]
  cf := some (fileOf pool2 8 #[] #[{ accessFlags := 2, nameIndex := 5, descriptorIndex := 6, attributes := #[] }, { accessFlags := 8, nameIndex := 11, descriptorIndex := 12, attributes := #[] }] 48 2 #[] #[])
  fields := #[]
  methods := #[k2m0, k2m1]
  instanceTypes := #[]
  staticTypes := #[]
  resolved := Array.replicate 31 none
  statics := none }

def pool3 : Array CpInfo := pool [(1, u "java/lang/Cloneable"), (0, .class_ 1), (0, u "java/lang/Object"), (0, .class_ 3)] 3

/-- java/lang/Cloneable -/
def k3 : Class := { plain "java/lang/Cloneable" (some 0) with
  accessFlags := 1537
  interfaces := #[]
  cf := some (fileOf pool3 2 #[] #[] 1537 4 #[] #[])
  fields := #[]
  methods := #[]
  instanceTypes := #[]
  staticTypes := #[]
  resolved := Array.replicate 8 none
  statics := none }

def pool4 : Array CpInfo := pool [(1, u "java/io/Serializable"), (0, .class_ 1), (0, u "java/lang/Object"), (0, .class_ 3)] 3

/-- java/io/Serializable -/
def k4 : Class := { plain "java/io/Serializable" (some 0) with
  accessFlags := 1537
  interfaces := #[]
  cf := some (fileOf pool4 2 #[] #[] 1537 4 #[] #[])
  fields := #[]
  methods := #[]
  instanceTypes := #[]
  staticTypes := #[]
  resolved := Array.replicate 8 none
  statics := none }

/-- the primitive byte -/
def k5 : Class := { plain "byte" none with kind := .primitive 'B', accessFlags := 0x411 }
/-- [B -/
def k6 : Class := { plain "[B" (some 0) with kind := .array 5 .byte, interfaces := #[3, 4], accessFlags := 1041 }

/-- the primitive int -/
def k7 : Class := { plain "int" none with kind := .primitive 'I', accessFlags := 0x411 }
/-- [I -/
def k8 : Class := { plain "[I" (some 0) with kind := .array 7 .int, interfaces := #[3, 4], accessFlags := 1041 }

def heap : Heap := #[]
def classes : Array Class := #[k0, k1, k2, k3, k4, k5, k6, k7, k8]
def interned : List (Array UInt16 × Addr) := []
def slotsUsed : Nat := 0
def theMethod : MethodId := ⟨1, 2⟩
def args0 : Array Value := #[.int 5]
def aboutOver (below : List Frame) : State where
  vm := { classes := classes, interned := interned.toArray }
  heap := heap
  slotsUsed := slotsUsed
  threads := #[{ frames := .invoking theMethod args0 :: below }]
def below0 : List Frame := [.native { method := ⟨0, 0⟩, args := #[] }]
def about1 : State := aboutOver below0
def p0 : Program := .bare "" "" ""
def e0 : Env := launch0.env 0 0 0
theorem w_frames : about1.frames = Frame.invoking theMethod args0 :: below0 := rfl
set_option maxRecDepth 65536 in
theorem w_args : argsFit about1.vm theMethod args0 = true := by decide +kernel
set_option maxRecDepth 65536 in
theorem w_heap : heapFits about1 = true := by decide +kernel
set_option maxRecDepth 65536 in
theorem w_runnable : about1.curStatus? = some .runnable := by decide +kernel
set_option maxRecDepth 65536 in
theorem w_alone : about1.alone = true := by decide +kernel
set_option maxRecDepth 65536 in
theorem w_named : about1.methodNamed? x = some theMethod := by decide +kernel
set_option maxRecDepth 65536 in
theorem w_hears : about1.hears theMethod below0 = true := by decide +kernel
set_option maxRecDepth 65536 in
theorem w_ripe : about1.ripe theMethod args0 below0 = true := by decide +kernel
theorem w_running : about1.status = .running := rfl
set_option maxRecDepth 65536 in
theorem w_room : about1.hasRoom e0.platform room_1 = true :=
  launch0.hasRoom_least _ room_1 (by decide +kernel) (by decide +kernel) (by decide +kernel) (by decide +kernel) (by decide +kernel) (by decide +kernel)
theorem allAtoms_all (ts : List Jvm.Cond) (a : Array Jvm.Value) (st : Jvm.State) : (allAtoms ts).before a st = ts.all (fun c => c.before a st) := by
  induction ts with
  | nil => rfl
  | cons c t ih =>
    show (Jvm.Cond.and c (allAtoms t)).before a st = _
    rw [Jvm.Cond.before_and, ih, List.all_cons]
def words1 : List Jvm.Cond := Jvm.Cond.code x code maxLocals ret :: tables_1
/-- a 'code' word, met by the world's own term for the bytes: nothing is compared byte by byte -/
theorem code_word {y : MethodName} {bytes : ByteArray} {mx : Nat} {rt : Option FieldType} {a : Array Value} {s : State} {m : MethodId} {meth : Method} {c : Code} (h1 : s.methodNamed? y = some m) (h2 : s.vm.method? m = some meth) (h3 : meth.code = some c) (h4 : c.code = bytes)
    (h5 : (c.maxLocals == mx && c.exceptionTable.isEmpty && decide (c.maxStack ≤ mostOperands) && decide (meth.sig.returnType = rt) && !meth.locks && decide (parseMethodDescriptor y.desc = some meth.sig)) = true) : (Jvm.Cond.code y bytes mx rt).before a s = true := by
  simp only [Bool.and_eq_true, beq_iff_eq, Bool.not_eq_true', decide_eq_true_eq] at h5
  obtain ⟨⟨⟨⟨⟨g1, g2⟩, g3⟩, g4⟩, g5⟩, g6⟩ := h5
  simp [Cond.before, Cond.holds, Cond.value, h1, h2, h3, h4, g1, g2, g3, g4, g5, g6]
def isCode : Jvm.Cond → Bool
  | .code _ _ _ _ => true
  | _ => false
theorem all_split {L : List Jvm.Cond} {P : Jvm.Cond → Bool} (h1 : L.all (fun c => isCode c || P c) = true) (h2 : ∀ c ∈ L.filter isCode, P c = true) : L.all P = true := by
  refine List.all_eq_true.mpr fun c hc => ?_
  have h := List.all_eq_true.mp h1 c hc
  rcases Bool.eq_false_or_eq_true (isCode c) with hi | hi
  · exact h2 c (List.mem_filter.mpr ⟨hc, hi⟩)
  · simpa [hi] using h
set_option maxRecDepth 65536 in
theorem w_c0 : (Jvm.Cond.code x code maxLocals ret).before args0 about1 = true := code_word (m := ⟨1, 2⟩) (meth := k1m2) (c := k1c2) (by decide +kernel) rfl rfl rfl (by decide +kernel)
set_option maxRecDepth 65536 in
theorem w_c1 : (Jvm.Cond.code ({ cls := "tidemark/format/Utf8", name := "sequenceLength", desc := "(I)I" } : Jvm.MethodName) prog_25_method_2_code (2 : Nat) (Option.some Jvm.ClassFile.FieldType.int)).before args0 about1 = true := code_word (m := ⟨2, 1⟩) (meth := k2m1) (c := k2c1) (by decide +kernel) rfl rfl rfl (by decide +kernel)
set_option maxRecDepth 65536 in
theorem w_c2 : (Jvm.Cond.code ({ cls := "tidemark/format/Utf8SequenceLengthPinLaw", name := "reference", desc := "(I)I" } : Jvm.MethodName) method_2_code (1 : Nat) (Option.some Jvm.ClassFile.FieldType.int)).before args0 about1 = true := code_word (m := ⟨1, 1⟩) (meth := k1m1) (c := k1c1) (by decide +kernel) rfl rfl rfl (by decide +kernel)
def codes1 : List Jvm.Cond := [Jvm.Cond.code x code maxLocals ret, Jvm.Cond.code ({ cls := "tidemark/format/Utf8", name := "sequenceLength", desc := "(I)I" } : Jvm.MethodName) prog_25_method_2_code (2 : Nat) (Option.some Jvm.ClassFile.FieldType.int), Jvm.Cond.code ({ cls := "tidemark/format/Utf8SequenceLengthPinLaw", name := "reference", desc := "(I)I" } : Jvm.MethodName) method_2_code (1 : Nat) (Option.some Jvm.ClassFile.FieldType.int)]
set_option maxRecDepth 65536 in
theorem codes_eq : words1.filter isCode = codes1 := rfl
theorem w_codes : ∀ c ∈ words1.filter isCode, c.before args0 about1 = true := by
  rw [codes_eq]
  intro c hc
  simp only [codes1, List.mem_cons, List.not_mem_nil, or_false] at hc
  rcases hc with rfl | rfl | rfl
  · exact w_c0
  · exact w_c1
  · exact w_c2
set_option maxRecDepth 65536 in
theorem w_t1 : words1.all (fun c => isCode c || c.before args0 about1) = true := by decide +kernel
theorem w_tables : (allAtoms (Jvm.Cond.code x code maxLocals ret :: tables_1)).before args0 about1 = true := by
  rw [allAtoms_all]
  show words1.all (fun c => c.before args0 about1) = true
  refine all_split ?_ w_codes
  rw [w_t1]
set_option maxRecDepth 65536 in
theorem w_case : (Jvm.Cond.and given_1 narrow_1).before args0 about1 = true := by decide +kernel
theorem w_applies : (headSpec (Jvm.Cond.code x code maxLocals ret :: tables_1) room_1).applies x e0.platform about1 = true :=
  (Spec.applies_iff w_frames).mpr ⟨w_running, w_runnable, w_alone, w_named, w_hears, w_ripe, w_room, w_tables⟩
theorem atStart : AtStart classFile x code maxLocals ret World_1 tables_1 room_1 Calls_1 rest_1 Pre_1 launch0 p0 e0 about1 theMethod args0 below0 :=
  ⟨lists_1, trivial, launch0.admits_env _ _ _, launch0.least_env, fairChoices_fair.cas, fairChoices_fair.clock, w_frames, w_args, w_heap, w_applies, trivial, trivial, w_case⟩
end start1
theorem witness_1 : WitnessClaimed_1 := ⟨start1.p0, start1.e0, start1.about1, start1.theMethod, start1.args0, start1.below0, start1.atStart⟩
end Jvm.Pilot.@@N@@
