import JvmDerived
import JvmDerived.Pilot.@@N@@Statement
import JvmDerived.Pilot.@@N@@Code
set_option linter.unusedVariables false
set_option linter.unusedSimpArgs false
namespace Jvm.Pilot.@@N@@
open Jvm Jvm.ClassFile Sem Op Lib Jvm.Free Jvm.Stand Jvm.LawKit Jvm.RoadKit Bundle Jvm.Pilot.@@N@@.Jvm.D
/-- what runs on to t from B runs on to t from A -/
def own_Rch (tb : Tables) (e : Env) (below : List Frame) (A B : State) : Prop := ∀ t, Steps tb e below B t → Steps tb e below A t
theorem own_lct1 {a b : Int64} (h : a < b) : ifCond.holds .lt (lcmpW a b) = true ∧ ifCond.holds .ge (lcmpW a b) = false := by
  have h1 : ¬ b < a := fun q => by rw [Int64.lt_iff_toInt_lt] at h q; omega
  have h2 : ¬ a = b := fun q => by subst q; exact h1 h
  simp only [lcmpW, gt_iff_lt, h1, h2, if_false]; exact ⟨rfl, rfl⟩
theorem own_lcf1 {a b : Int64} (h : ¬ a < b) : ifCond.holds .lt (lcmpW a b) = false ∧ ifCond.holds .ge (lcmpW a b) = true := by
  by_cases h1 : b < a
  · simp only [lcmpW, gt_iff_lt, h1, if_true]; exact ⟨rfl, rfl⟩
  · have h2 : a = b := by rw [Int64.lt_iff_toInt_lt] at h h1; exact Int64.toInt_inj.mp (by omega)
    simp only [lcmpW, gt_iff_lt, h1, h2, if_false, if_true]; subst h2; simp only [Int64.lt_irrefl, if_false]; exact ⟨rfl, rfl⟩
theorem own_lct2 {a b : Int64} (h : b < a) : ifCond.holds .gt (lcmpW a b) = true ∧ ifCond.holds .le (lcmpW a b) = false := by
  simp only [lcmpW, gt_iff_lt, h, if_true]; exact ⟨rfl, rfl⟩
theorem own_lcf2 {a b : Int64} (h : ¬ b < a) : ifCond.holds .gt (lcmpW a b) = false ∧ ifCond.holds .le (lcmpW a b) = true := by
  by_cases h2 : a = b
  · simp only [lcmpW, gt_iff_lt, h, if_pos h2, if_false]; exact ⟨rfl, rfl⟩
  · simp only [lcmpW, gt_iff_lt, h, if_neg h2, if_false]; exact ⟨rfl, rfl⟩
theorem own_lct3 {a b : Int64} (h : a = b) : ifCond.holds .eq (lcmpW a b) = true ∧ ifCond.holds .ne (lcmpW a b) = false := by
  have h1 : ¬ b < a := fun q => by subst h; exact absurd q (Int64.lt_irrefl)
  simp only [lcmpW, gt_iff_lt, h1, if_pos h, if_false]; exact ⟨rfl, rfl⟩
theorem own_lcf3 {a b : Int64} (h : ¬ a = b) : ifCond.holds .eq (lcmpW a b) = false ∧ ifCond.holds .ne (lcmpW a b) = true := by
  by_cases h1 : b < a
  · simp only [lcmpW, gt_iff_lt, h1, if_true]; exact ⟨rfl, rfl⟩
  · simp only [lcmpW, gt_iff_lt, h1, if_neg h, if_false]; exact ⟨rfl, rfl⟩
theorem own_remI (x y : Int32) : x - x / y * y = x % y := by
  apply Int32.toInt_inj.mp
  have l := Int32.toInt_lt (x % y)
  have g := Int32.le_toInt (x % y)
  rw [Int32.toInt_sub, Int32.toInt_mul, Int32.toInt_div]
  simp only [Int.sub_bmod_bmod, Int.bmod_mul_bmod]
  rw [Int.mul_comm, ← Int.tmod_def, ← Int32.toInt_mod, Int.bmod_eq_of_le] <;> omega
theorem own_remL (x y : Int64) : x - x / y * y = x % y := by
  apply Int64.toInt_inj.mp
  have l := Int64.toInt_lt (x % y)
  have g := Int64.le_toInt (x % y)
  rw [Int64.toInt_sub, Int64.toInt_mul, Int64.toInt_div]
  simp only [Int.sub_bmod_bmod, Int.bmod_mul_bmod]
  rw [Int.mul_comm, ← Int.tmod_def, ← Int64.toInt_mod, Int.bmod_eq_of_le] <;> omega
/-! numbers -/
theorem own_shk : ∀ p : Fin 64, (((Int32.ofNat p.val &&& 0x3f).toInt64).toBitVec.smod 64).toNat = p.val ∧ ((Int32.ofNat p.val &&& 0x3f).toInt64.toUInt64).toNat = p.val := by decide
theorem own_ushr (x : Int64) (p : Nat) (hp : p < 64) : ((x.toUInt64 >>> (Int32.ofNat p &&& 0x3f).toInt64.toUInt64).toInt64).toBitVec.toNat = x.toBitVec.toNat / 2 ^ p := by
  have e := (own_shk ⟨p, hp⟩).2
  show (x.toUInt64 >>> (Int32.ofNat p &&& 0x3f).toInt64.toUInt64).toNat = _
  rw [UInt64.toNat_shiftRight, e, Nat.mod_eq_of_lt hp, Nat.shiftRight_eq_div_pow]
  rfl
theorem own_shl (x : Int64) (p : Nat) (hp : p < 64) : (x <<< (Int32.ofNat p &&& 0x3f).toInt64).toBitVec.toNat = x.toBitVec.toNat * 2 ^ p % 2 ^ 64 := by
  have e := (own_shk ⟨p, hp⟩).1
  rw [Int64.toBitVec_shiftLeft, BitVec.shiftLeft_eq', BitVec.toNat_shiftLeft, e, Nat.shiftLeft_eq]
theorem own_mask (w : Nat) (hw : w ≤ 63) : (((1 : Int64) <<< (Int32.ofNat w &&& 0x3f).toInt64) - 1).toBitVec.toNat = 2 ^ w - 1 := by
  have e := own_shl 1 w (by omega)
  have h1 : (1 : Int64).toBitVec.toNat = 1 := rfl
  have h2 : 2 ^ w ≤ 2 ^ 63 := Nat.pow_le_pow_right (by decide) hw
  have h3 : 1 ≤ 2 ^ w := Nat.one_le_two_pow
  rw [h1, Nat.one_mul, Nat.mod_eq_of_lt (by omega)] at e
  rw [Int64.toBitVec_sub, BitVec.toNat_sub, e, h1]
  omega
theorem own_and (x : Int64) (w : Nat) (hw : w ≤ 63) : (x &&& (((1 : Int64) <<< (Int32.ofNat w &&& 0x3f).toInt64) - 1)).toBitVec.toNat = x.toBitVec.toNat % 2 ^ w := by
  rw [Int64.toBitVec_and, BitVec.toNat_and, own_mask w hw, Nat.and_two_pow_sub_one_eq_mod]
def own_N (lo hi : Int64) : Nat := lo.toBitVec.toNat + 2 ^ 64 * hi.toBitVec.toNat
theorem own_disj {a b p : Nat} (h : a < 2 ^ p) : a ||| (b * 2 ^ p) = a + b * 2 ^ p := by
  rw [Nat.or_comm, ← Nat.shiftLeft_eq, ← Nat.shiftLeft_add_eq_or_of_lt h, Nat.add_comm]
theorem d3_0 : decode method_2_code 0 = .ok (.lconst 1, 1) := by decide +kernel
theorem d3_1 : decode method_2_code 1 = .ok (.iload 5, 2) := by decide +kernel
theorem d3_3 : decode method_2_code 3 = .ok (.lshl, 1) := by decide +kernel
theorem d3_4 : decode method_2_code 4 = .ok (.lconst 1, 1) := by decide +kernel
theorem d3_5 : decode method_2_code 5 = .ok (.lsub, 1) := by decide +kernel
theorem d3_6 : decode method_2_code 6 = .ok (.lstore 6, 2) := by decide +kernel
theorem d3_8 : decode method_2_code 8 = .ok (.iload 4, 2) := by decide +kernel
theorem d3_10 : decode method_2_code 10 = .ok (.bipush 64, 2) := by decide +kernel
theorem d3_12 : decode method_2_code 12 = .ok (.if_icmp .lt 14, 3) := by decide +kernel
theorem d3_15 : decode method_2_code 15 = .ok (.lload_n 2, 1) := by decide +kernel
theorem d3_16 : decode method_2_code 16 = .ok (.iload 4, 2) := by decide +kernel
theorem d3_18 : decode method_2_code 18 = .ok (.bipush 64, 2) := by decide +kernel
theorem d3_20 : decode method_2_code 20 = .ok (.isub, 1) := by decide +kernel
theorem d3_21 : decode method_2_code 21 = .ok (.lushr, 1) := by decide +kernel
theorem d3_22 : decode method_2_code 22 = .ok (.lload 6, 2) := by decide +kernel
theorem d3_24 : decode method_2_code 24 = .ok (.land, 1) := by decide +kernel
theorem d3_25 : decode method_2_code 25 = .ok (.lreturn, 1) := by decide +kernel
theorem d3_26 : decode method_2_code 26 = .ok (.iload 4, 2) := by decide +kernel
theorem d3_28 : decode method_2_code 28 = .ok (.iload 5, 2) := by decide +kernel
theorem d3_30 : decode method_2_code 30 = .ok (.iadd, 1) := by decide +kernel
theorem d3_31 : decode method_2_code 31 = .ok (.bipush 64, 2) := by decide +kernel
theorem d3_33 : decode method_2_code 33 = .ok (.if_icmp .gt 11, 3) := by decide +kernel
theorem d3_36 : decode method_2_code 36 = .ok (.lload_n 0, 1) := by decide +kernel
theorem d3_37 : decode method_2_code 37 = .ok (.iload 4, 2) := by decide +kernel
theorem d3_39 : decode method_2_code 39 = .ok (.lushr, 1) := by decide +kernel
theorem d3_40 : decode method_2_code 40 = .ok (.lload 6, 2) := by decide +kernel
theorem d3_42 : decode method_2_code 42 = .ok (.land, 1) := by decide +kernel
theorem d3_43 : decode method_2_code 43 = .ok (.lreturn, 1) := by decide +kernel
theorem d3_44 : decode method_2_code 44 = .ok (.lload_n 0, 1) := by decide +kernel
theorem d3_45 : decode method_2_code 45 = .ok (.iload 4, 2) := by decide +kernel
theorem d3_47 : decode method_2_code 47 = .ok (.lushr, 1) := by decide +kernel
theorem d3_48 : decode method_2_code 48 = .ok (.lload_n 2, 1) := by decide +kernel
theorem d3_49 : decode method_2_code 49 = .ok (.bipush 64, 2) := by decide +kernel
theorem d3_51 : decode method_2_code 51 = .ok (.iload 4, 2) := by decide +kernel
theorem d3_53 : decode method_2_code 53 = .ok (.isub, 1) := by decide +kernel
theorem d3_54 : decode method_2_code 54 = .ok (.lshl, 1) := by decide +kernel
theorem d3_55 : decode method_2_code 55 = .ok (.lor, 1) := by decide +kernel
theorem d3_56 : decode method_2_code 56 = .ok (.lload 6, 2) := by decide +kernel
theorem d3_58 : decode method_2_code 58 = .ok (.land, 1) := by decide +kernel
theorem d3_59 : decode method_2_code 59 = .ok (.lreturn, 1) := by decide +kernel
def own_field (q1 : Int64) (q2 : Int64) (q3 : Int32) (q4 : Int32) : Int64 := (if q3 < (64 : Int32) then (if (64 : Int32) < (q3 + q4) then ((((q1.toUInt64 >>> (q3 &&& 0x3f).toInt64.toUInt64).toInt64) ||| (q2 <<< (((64 : Int32) - q3) &&& 0x3f).toInt64)) &&& (((1 : Int64) <<< (q4 &&& 0x3f).toInt64) - (1 : Int64))) else (((q1.toUInt64 >>> (q3 &&& 0x3f).toInt64.toUInt64).toInt64) &&& (((1 : Int64) <<< (q4 &&& 0x3f).toInt64) - (1 : Int64)))) else (((q2.toUInt64 >>> ((q3 - (64 : Int32)) &&& 0x3f).toInt64.toUInt64).toInt64) &&& (((1 : Int64) <<< (q4 &&& 0x3f).toInt64) - (1 : Int64))))
theorem pn_0 : plainName "tidemark/format/ParquetRunLengthsUnpackPinLaw" = true := by first | (simp [plainName, overriddenIn]; done) | decide +kernel
theorem ef_3 (m : MethodId) (q1 : Int64) (q2 : Int64) (q3 : Int32) (q4 : Int32) : entryFrame m #[(.long q1), (.long q2), (.int q3), (.int q4)] 8 = mkF m 0 #[.val (.long q1), .second, .val (.long q2), .second, .val (.int q3), .val (.int q4), .unset, .unset] [] := by first | (simp [entryFrame, mkF, argsToLocals, Value.category]; done) | rfl
def Q3 (Z : State) (q1 : Int64) (q2 : Int64) (q3 : Int32) (q4 : Int32) (h0 : Heap) (n0 : Nat) (v : Option Value) (h : Heap) (L : List Loc) : Prop := v = some (.long (own_field q1 q2 q3 q4)) ∧ Fr n0 L ∧ h = h0
set_option maxRecDepth 65536 in
set_option maxHeartbeats 40000000 in
theorem rm3 (l : Launch) (Z : State) (a0 : Array Value) (hw : ∀ d ∈ tables_1, d.before a0 Z = true) (ws : List Jvm.Cond) (q1 : Int64) (q2 : Int64) (q3 : Int32) (q4 : Int32) (h0 : Heap) (n0 : Nat) (Z0 : n0 ≤ h0.size) :
    MetFree l (⟨"tidemark/format/ParquetRunLengthsUnpackPinLaw", "field", "(JJII)J"⟩ : MethodName) (head1 (Jvm.Cond.code (⟨"tidemark/format/ParquetRunLengthsUnpackPinLaw", "field", "(JJII)J"⟩ : MethodName) method_2_code 8 (some .long) :: ws) ({ frames := 0, cells := 0, slots := 0, locals := 0 } : Room)) (fun a' U => a' = #[(.long q1), (.long q2), (.int q3), (.int q4)] ∧ Z.Warmed39 U.vm ∧ U.heap = h0) (fun _ _ _ _ _ => True) (fun _ U o' U' => ∃ v L, o' = .returned v ∧ Q3 Z q1 q2 q3 q4 h0 n0 v U'.heap L ∧ FrameEnd U o' U' L ({ frames := 0, cells := 0, slots := 0, locals := 0 } : Room).cells ({ frames := 0, cells := 0, slots := 0, locals := 0 } : Room).slots) := by
  refine MetFree.of_bodySF (plainFor_of_name pn_0) hisR ?_
  intro p e s m args' below meth c s₁ Bd hml0 hP hK
  obtain ⟨hargs, hZ, hh⟩ := hP
  have hx := Bd.exec
  have hby := Bd.bytes
  have hml : c.maxLocals = 8 := hml0
  have hown : s.vm.findClass "tidemark/format/ParquetRunLengthsUnpackPinLaw" = some m.cls := findClass_of_methodNamed Bd.named
  have hnm := (name_of_methodNamed Bd.named Bd.method).1
  have X0 : Stand p l e ({ frames := 0, cells := 0, slots := 0, locals := 0 } : Room) s m args' below meth c s₁ [] 0 0 := Stand.of_body Bd
  have e0 : s₁.heap = h0 := by rw [← hh, Bd.state]; rfl
  have N0 := Fr.nil n0
  obtain ⟨A0, hA0⟩ : ∃ A, A = s₁.setTop (mkF m 0 #[.val (.long q1), .second, .val (.long q2), .second, .val (.int q3), .val (.int q4), .unset, .unset] []) := ⟨_, rfl⟩
  have P0 : own_Rch p.tables e below A0 (s₁.setTop (mkF m 0 #[.val (.long q1), .second, .val (.long q2), .second, .val (.int q3), .val (.int q4), .unset, .unset] [])) := fun t k => hA0 ▸ k
  have P00 : own_Rch p.tables e below (s₁.setTop (entryFrame m args' 8)) A0 := fun t k => by rw [hargs]; exact castTop (ef_3 m q1 q2 q3 q4) (hA0 ▸ k)
  have P1 : own_Rch p.tables e below A0 (s₁.setTop (mkF m 8 #[.val (.long q1), .second, .val (.long q2), .second, .val (.int q3), .val (.int q4), .val (.long (((1 : Int64) <<< (q4 &&& 0x3f).toInt64) - (1 : Int64))), .second] [])) := fun t k => P0 t (by
    show Steps p.tables e below (s₁.setTop (mkF m 0 #[.val (.long q1), .second, .val (.long q2), .second, .val (.int q3), .val (.int q4), .unset, .unset] [])) _
    refine XS.lconst X0.here hx rfl (hb hby d3_0) ?_
    show Steps p.tables e below (s₁.setTop (mkF m 1 #[.val (.long q1), .second, .val (.long q2), .second, .val (.int q3), .val (.int q4), .unset, .unset] [(.long (1 : Int64))])) _
    refine XS.iload X0.here hx rfl (hb hby d3_1) rfl ?_
    show Steps p.tables e below (s₁.setTop (mkF m 3 #[.val (.long q1), .second, .val (.long q2), .second, .val (.int q3), .val (.int q4), .unset, .unset] [(.int q4), (.long (1 : Int64))])) _
    refine XS.lshl X0.here hx rfl (hb hby d3_3) rfl ?_
    show Steps p.tables e below (s₁.setTop (mkF m 4 #[.val (.long q1), .second, .val (.long q2), .second, .val (.int q3), .val (.int q4), .unset, .unset] [(.long ((1 : Int64) <<< (q4 &&& 0x3f).toInt64))])) _
    refine XS.lconst X0.here hx rfl (hb hby d3_4) ?_
    show Steps p.tables e below (s₁.setTop (mkF m 5 #[.val (.long q1), .second, .val (.long q2), .second, .val (.int q3), .val (.int q4), .unset, .unset] [(.long (1 : Int64)), (.long ((1 : Int64) <<< (q4 &&& 0x3f).toInt64))])) _
    refine XS.lsub X0.here hx rfl (hb hby d3_5) rfl ?_
    show Steps p.tables e below (s₁.setTop (mkF m 6 #[.val (.long q1), .second, .val (.long q2), .second, .val (.int q3), .val (.int q4), .unset, .unset] [(.long (((1 : Int64) <<< (q4 &&& 0x3f).toInt64) - (1 : Int64)))])) _
    refine XS.lstore X0.here hx rfl (hb hby d3_6) rfl (l' := #[.val (.long q1), .second, .val (.long q2), .second, .val (.int q3), .val (.int q4), .val (.long (((1 : Int64) <<< (q4 &&& 0x3f).toInt64) - (1 : Int64))), .second]) rfl ?_
    exact k)
  obtain ⟨v2, hv2, P3⟩ : ∃ z : Int64, z = (((1 : Int64) <<< (q4 &&& 0x3f).toInt64) - (1 : Int64)) ∧ own_Rch p.tables e below A0 (s₁.setTop (mkF m 8 #[.val (.long q1), .second, .val (.long q2), .second, .val (.int q3), .val (.int q4), .val (.long z), .second] [])) := ⟨_, rfl, P1⟩
  have P5 : own_Rch p.tables e below A0 (s₁.setTop (mkF m 12 #[.val (.long q1), .second, .val (.long q2), .second, .val (.int q3), .val (.int q4), .val (.long v2), .second] [(.int (64 : Int32)), (.int q3)])) := fun t k => P3 t (by
    show Steps p.tables e below (s₁.setTop (mkF m 8 #[.val (.long q1), .second, .val (.long q2), .second, .val (.int q3), .val (.int q4), .val (.long v2), .second] [])) _
    refine XS.iload X0.here hx rfl (hb hby d3_8) rfl ?_
    show Steps p.tables e below (s₁.setTop (mkF m 10 #[.val (.long q1), .second, .val (.long q2), .second, .val (.int q3), .val (.int q4), .val (.long v2), .second] [(.int q3)])) _
    refine XS.bipush X0.here hx rfl (hb hby d3_10) ?_
    exact k)
  by_cases hc4 : q3 < (64 : Int32)
  · -- q3 < (64 : Int32)
    have P7 : own_Rch p.tables e below A0 (s₁.setTop (mkF m 33 #[.val (.long q1), .second, .val (.long q2), .second, .val (.int q3), .val (.int q4), .val (.long v2), .second] [(.int (64 : Int32)), (.int (q3 + q4))])) := fun t k => P5 t (by
      show Steps p.tables e below (s₁.setTop (mkF m 12 #[.val (.long q1), .second, .val (.long q2), .second, .val (.int q3), .val (.int q4), .val (.long v2), .second] [(.int (64 : Int32)), (.int q3)])) _
      refine XS.icmpYes X0.here hx rfl (pc0 := 12) (pc' := 26) rfl (hb hby d3_12) rfl (tlt hc4).1 (by decide) (by decide) ?_
      show Steps p.tables e below (s₁.setTop (mkF m 26 #[.val (.long q1), .second, .val (.long q2), .second, .val (.int q3), .val (.int q4), .val (.long v2), .second] [])) _
      refine XS.iload X0.here hx rfl (hb hby d3_26) rfl ?_
      show Steps p.tables e below (s₁.setTop (mkF m 28 #[.val (.long q1), .second, .val (.long q2), .second, .val (.int q3), .val (.int q4), .val (.long v2), .second] [(.int q3)])) _
      refine XS.iload X0.here hx rfl (hb hby d3_28) rfl ?_
      show Steps p.tables e below (s₁.setTop (mkF m 30 #[.val (.long q1), .second, .val (.long q2), .second, .val (.int q3), .val (.int q4), .val (.long v2), .second] [(.int q4), (.int q3)])) _
      refine XS.iadd X0.here hx rfl (hb hby d3_30) rfl ?_
      show Steps p.tables e below (s₁.setTop (mkF m 31 #[.val (.long q1), .second, .val (.long q2), .second, .val (.int q3), .val (.int q4), .val (.long v2), .second] [(.int (q3 + q4))])) _
      refine XS.bipush X0.here hx rfl (hb hby d3_31) ?_
      exact k)
    by_cases hc6 : (64 : Int32) < (q3 + q4)
    · -- (64 : Int32) < (q3 + q4)
      have P8 : own_Rch p.tables e below A0 (s₁.setTop (mkF m 59 #[.val (.long q1), .second, .val (.long q2), .second, .val (.int q3), .val (.int q4), .val (.long v2), .second] [(.long ((((q1.toUInt64 >>> (q3 &&& 0x3f).toInt64.toUInt64).toInt64) ||| (q2 <<< (((64 : Int32) - q3) &&& 0x3f).toInt64)) &&& v2))])) := fun t k => P7 t (by
        show Steps p.tables e below (s₁.setTop (mkF m 33 #[.val (.long q1), .second, .val (.long q2), .second, .val (.int q3), .val (.int q4), .val (.long v2), .second] [(.int (64 : Int32)), (.int (q3 + q4))])) _
        refine XS.icmpYes X0.here hx rfl (pc0 := 33) (pc' := 44) rfl (hb hby d3_33) rfl (tlt hc6).2.2.1 (by decide) (by decide) ?_
        show Steps p.tables e below (s₁.setTop (mkF m 44 #[.val (.long q1), .second, .val (.long q2), .second, .val (.int q3), .val (.int q4), .val (.long v2), .second] [])) _
        refine XS.lloadN X0.here hx rfl (hb hby d3_44) rfl ?_
        show Steps p.tables e below (s₁.setTop (mkF m 45 #[.val (.long q1), .second, .val (.long q2), .second, .val (.int q3), .val (.int q4), .val (.long v2), .second] [(.long q1)])) _
        refine XS.iload X0.here hx rfl (hb hby d3_45) rfl ?_
        show Steps p.tables e below (s₁.setTop (mkF m 47 #[.val (.long q1), .second, .val (.long q2), .second, .val (.int q3), .val (.int q4), .val (.long v2), .second] [(.int q3), (.long q1)])) _
        refine XS.lushr X0.here hx rfl (hb hby d3_47) rfl ?_
        show Steps p.tables e below (s₁.setTop (mkF m 48 #[.val (.long q1), .second, .val (.long q2), .second, .val (.int q3), .val (.int q4), .val (.long v2), .second] [(.long ((q1.toUInt64 >>> (q3 &&& 0x3f).toInt64.toUInt64).toInt64))])) _
        refine XS.lloadN X0.here hx rfl (hb hby d3_48) rfl ?_
        show Steps p.tables e below (s₁.setTop (mkF m 49 #[.val (.long q1), .second, .val (.long q2), .second, .val (.int q3), .val (.int q4), .val (.long v2), .second] [(.long q2), (.long ((q1.toUInt64 >>> (q3 &&& 0x3f).toInt64.toUInt64).toInt64))])) _
        refine XS.bipush X0.here hx rfl (hb hby d3_49) ?_
        show Steps p.tables e below (s₁.setTop (mkF m 51 #[.val (.long q1), .second, .val (.long q2), .second, .val (.int q3), .val (.int q4), .val (.long v2), .second] [(.int (64 : Int32)), (.long q2), (.long ((q1.toUInt64 >>> (q3 &&& 0x3f).toInt64.toUInt64).toInt64))])) _
        refine XS.iload X0.here hx rfl (hb hby d3_51) rfl ?_
        show Steps p.tables e below (s₁.setTop (mkF m 53 #[.val (.long q1), .second, .val (.long q2), .second, .val (.int q3), .val (.int q4), .val (.long v2), .second] [(.int q3), (.int (64 : Int32)), (.long q2), (.long ((q1.toUInt64 >>> (q3 &&& 0x3f).toInt64.toUInt64).toInt64))])) _
        refine XS.isub X0.here hx rfl (hb hby d3_53) rfl ?_
        show Steps p.tables e below (s₁.setTop (mkF m 54 #[.val (.long q1), .second, .val (.long q2), .second, .val (.int q3), .val (.int q4), .val (.long v2), .second] [(.int ((64 : Int32) - q3)), (.long q2), (.long ((q1.toUInt64 >>> (q3 &&& 0x3f).toInt64.toUInt64).toInt64))])) _
        refine XS.lshl X0.here hx rfl (hb hby d3_54) rfl ?_
        show Steps p.tables e below (s₁.setTop (mkF m 55 #[.val (.long q1), .second, .val (.long q2), .second, .val (.int q3), .val (.int q4), .val (.long v2), .second] [(.long (q2 <<< (((64 : Int32) - q3) &&& 0x3f).toInt64)), (.long ((q1.toUInt64 >>> (q3 &&& 0x3f).toInt64.toUInt64).toInt64))])) _
        refine XS.lor X0.here hx rfl (hb hby d3_55) rfl ?_
        show Steps p.tables e below (s₁.setTop (mkF m 56 #[.val (.long q1), .second, .val (.long q2), .second, .val (.int q3), .val (.int q4), .val (.long v2), .second] [(.long (((q1.toUInt64 >>> (q3 &&& 0x3f).toInt64.toUInt64).toInt64) ||| (q2 <<< (((64 : Int32) - q3) &&& 0x3f).toInt64)))])) _
        refine XS.lload X0.here hx rfl (hb hby d3_56) rfl ?_
        show Steps p.tables e below (s₁.setTop (mkF m 58 #[.val (.long q1), .second, .val (.long q2), .second, .val (.int q3), .val (.int q4), .val (.long v2), .second] [(.long v2), (.long (((q1.toUInt64 >>> (q3 &&& 0x3f).toInt64.toUInt64).toInt64) ||| (q2 <<< (((64 : Int32) - q3) &&& 0x3f).toInt64)))])) _
        refine XS.land X0.here hx rfl (hb hby d3_58) rfl ?_
        exact k)
      obtain ⟨fs, hr, hrun, hended, hW, hsame⟩ := X0.leave (v := some (.long ((((q1.toUInt64 >>> (q3 &&& 0x3f).toInt64.toUInt64).toInt64) ||| (q2 <<< (((64 : Int32) - q3) &&& 0x3f).toInt64)) &&& v2))) (fun h => by rw [Bd.returns] at h; cases h)
      refine ⟨_, _, P00 _ (P8 _ ?_), hrun, hended, _, _, rfl, ?_, ⟨_, rfl⟩, hW, hsame.mono (by decide) (by decide)⟩
      · exact retOut X0 hx (t := .long) Bd.returns rfl (Or.inr (Or.inl ⟨rfl, rfl, _, rfl⟩)) (hb hby d3_59) hr
      · show Q3 Z q1 q2 q3 q4 h0 n0 _ s₁.heap _
        rw [e0]
        refine ⟨?_, N0, rfl⟩
        subst hv2
        (try simp only [own_field, if_pos hc4, if_pos hc6])
        (try rfl)
    · -- not (64 : Int32) < (q3 + q4)
      have P9 : own_Rch p.tables e below A0 (s₁.setTop (mkF m 43 #[.val (.long q1), .second, .val (.long q2), .second, .val (.int q3), .val (.int q4), .val (.long v2), .second] [(.long (((q1.toUInt64 >>> (q3 &&& 0x3f).toInt64.toUInt64).toInt64) &&& v2))])) := fun t k => P7 t (by
        show Steps p.tables e below (s₁.setTop (mkF m 33 #[.val (.long q1), .second, .val (.long q2), .second, .val (.int q3), .val (.int q4), .val (.long v2), .second] [(.int (64 : Int32)), (.int (q3 + q4))])) _
        refine XS.icmpNo X0.here hx rfl (hb hby d3_33) rfl (flt hc6).2.2.1 ?_
        show Steps p.tables e below (s₁.setTop (mkF m 36 #[.val (.long q1), .second, .val (.long q2), .second, .val (.int q3), .val (.int q4), .val (.long v2), .second] [])) _
        refine XS.lloadN X0.here hx rfl (hb hby d3_36) rfl ?_
        show Steps p.tables e below (s₁.setTop (mkF m 37 #[.val (.long q1), .second, .val (.long q2), .second, .val (.int q3), .val (.int q4), .val (.long v2), .second] [(.long q1)])) _
        refine XS.iload X0.here hx rfl (hb hby d3_37) rfl ?_
        show Steps p.tables e below (s₁.setTop (mkF m 39 #[.val (.long q1), .second, .val (.long q2), .second, .val (.int q3), .val (.int q4), .val (.long v2), .second] [(.int q3), (.long q1)])) _
        refine XS.lushr X0.here hx rfl (hb hby d3_39) rfl ?_
        show Steps p.tables e below (s₁.setTop (mkF m 40 #[.val (.long q1), .second, .val (.long q2), .second, .val (.int q3), .val (.int q4), .val (.long v2), .second] [(.long ((q1.toUInt64 >>> (q3 &&& 0x3f).toInt64.toUInt64).toInt64))])) _
        refine XS.lload X0.here hx rfl (hb hby d3_40) rfl ?_
        show Steps p.tables e below (s₁.setTop (mkF m 42 #[.val (.long q1), .second, .val (.long q2), .second, .val (.int q3), .val (.int q4), .val (.long v2), .second] [(.long v2), (.long ((q1.toUInt64 >>> (q3 &&& 0x3f).toInt64.toUInt64).toInt64))])) _
        refine XS.land X0.here hx rfl (hb hby d3_42) rfl ?_
        exact k)
      obtain ⟨fs, hr, hrun, hended, hW, hsame⟩ := X0.leave (v := some (.long (((q1.toUInt64 >>> (q3 &&& 0x3f).toInt64.toUInt64).toInt64) &&& v2))) (fun h => by rw [Bd.returns] at h; cases h)
      refine ⟨_, _, P00 _ (P9 _ ?_), hrun, hended, _, _, rfl, ?_, ⟨_, rfl⟩, hW, hsame.mono (by decide) (by decide)⟩
      · exact retOut X0 hx (t := .long) Bd.returns rfl (Or.inr (Or.inl ⟨rfl, rfl, _, rfl⟩)) (hb hby d3_43) hr
      · show Q3 Z q1 q2 q3 q4 h0 n0 _ s₁.heap _
        rw [e0]
        refine ⟨?_, N0, rfl⟩
        subst hv2
        (try simp only [own_field, if_pos hc4, if_neg hc6])
        (try rfl)
  · -- not q3 < (64 : Int32)
    have P10 : own_Rch p.tables e below A0 (s₁.setTop (mkF m 25 #[.val (.long q1), .second, .val (.long q2), .second, .val (.int q3), .val (.int q4), .val (.long v2), .second] [(.long (((q2.toUInt64 >>> ((q3 - (64 : Int32)) &&& 0x3f).toInt64.toUInt64).toInt64) &&& v2))])) := fun t k => P5 t (by
      show Steps p.tables e below (s₁.setTop (mkF m 12 #[.val (.long q1), .second, .val (.long q2), .second, .val (.int q3), .val (.int q4), .val (.long v2), .second] [(.int (64 : Int32)), (.int q3)])) _
      refine XS.icmpNo X0.here hx rfl (hb hby d3_12) rfl (flt hc4).1 ?_
      show Steps p.tables e below (s₁.setTop (mkF m 15 #[.val (.long q1), .second, .val (.long q2), .second, .val (.int q3), .val (.int q4), .val (.long v2), .second] [])) _
      refine XS.lloadN X0.here hx rfl (hb hby d3_15) rfl ?_
      show Steps p.tables e below (s₁.setTop (mkF m 16 #[.val (.long q1), .second, .val (.long q2), .second, .val (.int q3), .val (.int q4), .val (.long v2), .second] [(.long q2)])) _
      refine XS.iload X0.here hx rfl (hb hby d3_16) rfl ?_
      show Steps p.tables e below (s₁.setTop (mkF m 18 #[.val (.long q1), .second, .val (.long q2), .second, .val (.int q3), .val (.int q4), .val (.long v2), .second] [(.int q3), (.long q2)])) _
      refine XS.bipush X0.here hx rfl (hb hby d3_18) ?_
      show Steps p.tables e below (s₁.setTop (mkF m 20 #[.val (.long q1), .second, .val (.long q2), .second, .val (.int q3), .val (.int q4), .val (.long v2), .second] [(.int (64 : Int32)), (.int q3), (.long q2)])) _
      refine XS.isub X0.here hx rfl (hb hby d3_20) rfl ?_
      show Steps p.tables e below (s₁.setTop (mkF m 21 #[.val (.long q1), .second, .val (.long q2), .second, .val (.int q3), .val (.int q4), .val (.long v2), .second] [(.int (q3 - (64 : Int32))), (.long q2)])) _
      refine XS.lushr X0.here hx rfl (hb hby d3_21) rfl ?_
      show Steps p.tables e below (s₁.setTop (mkF m 22 #[.val (.long q1), .second, .val (.long q2), .second, .val (.int q3), .val (.int q4), .val (.long v2), .second] [(.long ((q2.toUInt64 >>> ((q3 - (64 : Int32)) &&& 0x3f).toInt64.toUInt64).toInt64))])) _
      refine XS.lload X0.here hx rfl (hb hby d3_22) rfl ?_
      show Steps p.tables e below (s₁.setTop (mkF m 24 #[.val (.long q1), .second, .val (.long q2), .second, .val (.int q3), .val (.int q4), .val (.long v2), .second] [(.long v2), (.long ((q2.toUInt64 >>> ((q3 - (64 : Int32)) &&& 0x3f).toInt64.toUInt64).toInt64))])) _
      refine XS.land X0.here hx rfl (hb hby d3_24) rfl ?_
      exact k)
    obtain ⟨fs, hr, hrun, hended, hW, hsame⟩ := X0.leave (v := some (.long (((q2.toUInt64 >>> ((q3 - (64 : Int32)) &&& 0x3f).toInt64.toUInt64).toInt64) &&& v2))) (fun h => by rw [Bd.returns] at h; cases h)
    refine ⟨_, _, P00 _ (P10 _ ?_), hrun, hended, _, _, rfl, ?_, ⟨_, rfl⟩, hW, hsame.mono (by decide) (by decide)⟩
    · exact retOut X0 hx (t := .long) Bd.returns rfl (Or.inr (Or.inl ⟨rfl, rfl, _, rfl⟩)) (hb hby d3_25) hr
    · show Q3 Z q1 q2 q3 q4 h0 n0 _ s₁.heap _
      rw [e0]
      refine ⟨?_, N0, rfl⟩
      subst hv2
      (try simp only [own_field, if_neg hc4])
      (try rfl)
theorem d2_0 : decode method_3_code 0 = .ok (.iload_n 0, 1) := by decide +kernel
theorem d2_1 : decode method_3_code 1 = .ok (.iload 8, 2) := by decide +kernel
theorem d2_3 : decode method_3_code 3 = .ok (.if_icmp .lt 34, 3) := by decide +kernel
theorem d2_6 : decode method_3_code 6 = .ok (.iload_n 0, 1) := by decide +kernel
theorem d2_7 : decode method_3_code 7 = .ok (.iload 8, 2) := by decide +kernel
theorem d2_9 : decode method_3_code 9 = .ok (.iload 7, 2) := by decide +kernel
theorem d2_11 : decode method_3_code 11 = .ok (.iadd, 1) := by decide +kernel
theorem d2_12 : decode method_3_code 12 = .ok (.if_icmp .ge 25, 3) := by decide +kernel
theorem d2_15 : decode method_3_code 15 = .ok (.lload_n 1, 1) := by decide +kernel
theorem d2_16 : decode method_3_code 16 = .ok (.lload_n 3, 1) := by decide +kernel
theorem d2_17 : decode method_3_code 17 = .ok (.iload 5, 2) := by decide +kernel
theorem d2_19 : decode method_3_code 19 = .ok (.bipush 8, 2) := by decide +kernel
theorem d2_21 : decode method_3_code 21 = .ok (.imul, 1) := by decide +kernel
theorem d2_22 : decode method_3_code 22 = .ok (.iload_n 0, 1) := by decide +kernel
theorem d2_23 : decode method_3_code 23 = .ok (.iload 8, 2) := by decide +kernel
theorem d2_25 : decode method_3_code 25 = .ok (.isub, 1) := by decide +kernel
theorem d2_26 : decode method_3_code 26 = .ok (.iload 6, 2) := by decide +kernel
theorem d2_28 : decode method_3_code 28 = .ok (.imul, 1) := by decide +kernel
theorem d2_29 : decode method_3_code 29 = .ok (.iadd, 1) := by decide +kernel
theorem d2_30 : decode method_3_code 30 = .ok (.iload 6, 2) := by decide +kernel
theorem d2_32 : decode method_3_code 32 = .ok (.invokestatic 7, 3) := by decide +kernel
theorem d2_35 : decode method_3_code 35 = .ok (.l2i, 1) := by decide +kernel
theorem d2_36 : decode method_3_code 36 = .ok (.ireturn, 1) := by decide +kernel
theorem d2_37 : decode method_3_code 37 = .ok (.ldc 13, 2) := by decide +kernel
theorem d2_39 : decode method_3_code 39 = .ok (.ireturn, 1) := by decide +kernel
theorem pd_0 : parseMethodDescriptor "(JJII)J" = some ⟨[.long, .long, .int, .int], some .long⟩ := by decide +kernel
def own_expect (q1 : Int32) (q2 : Int64) (q3 : Int64) (q4 : Int32) (q5 : Int32) (q6 : Int32) (q7 : Int32) : Int32 := (if q1 < q7 then (1515870810 : Int32) else (if q1 < (q7 + q6) then ((own_field q2 q3 ((q4 * (8 : Int32)) + ((q1 - q7) * q5)) q5).toInt32) else (1515870810 : Int32)))
theorem ef_2 (m : MethodId) (q1 : Int32) (q2 : Int64) (q3 : Int64) (q4 : Int32) (q5 : Int32) (q6 : Int32) (q7 : Int32) : entryFrame m #[(.int q1), (.long q2), (.long q3), (.int q4), (.int q5), (.int q6), (.int q7)] 9 = mkF m 0 #[.val (.int q1), .val (.long q2), .second, .val (.long q3), .second, .val (.int q4), .val (.int q5), .val (.int q6), .val (.int q7)] [] := by first | (simp [entryFrame, mkF, argsToLocals, Value.category]; done) | rfl
def Q2 (Z : State) (q1 : Int32) (q2 : Int64) (q3 : Int64) (q4 : Int32) (q5 : Int32) (q6 : Int32) (q7 : Int32) (h0 : Heap) (n0 : Nat) (v : Option Value) (h : Heap) (L : List Loc) : Prop := v = some (.int (own_expect q1 q2 q3 q4 q5 q6 q7)) ∧ Fr n0 L ∧ h = h0
set_option maxRecDepth 65536 in
set_option maxHeartbeats 40000000 in
theorem rm2 (l : Launch) (Z : State) (a0 : Array Value) (hw : ∀ d ∈ tables_1, d.before a0 Z = true) (ws : List Jvm.Cond) (q1 : Int32) (q2 : Int64) (q3 : Int64) (q4 : Int32) (q5 : Int32) (q6 : Int32) (q7 : Int32) (h0 : Heap) (n0 : Nat) (Z0 : n0 ≤ h0.size) :
    MetFree l (⟨"tidemark/format/ParquetRunLengthsUnpackPinLaw", "expect", "(IJJIIII)I"⟩ : MethodName) (head1 (Jvm.Cond.code (⟨"tidemark/format/ParquetRunLengthsUnpackPinLaw", "expect", "(IJJIIII)I"⟩ : MethodName) method_3_code 9 (some .int) :: ws) ({ frames := 1, cells := 0, slots := 0, locals := 19 } : Room)) (fun a' U => a' = #[(.int q1), (.long q2), (.long q3), (.int q4), (.int q5), (.int q6), (.int q7)] ∧ Z.Warmed39 U.vm ∧ U.heap = h0) (fun _ _ _ _ _ => True) (fun _ U o' U' => ∃ v L, o' = .returned v ∧ Q2 Z q1 q2 q3 q4 q5 q6 q7 h0 n0 v U'.heap L ∧ FrameEnd U o' U' L ({ frames := 1, cells := 0, slots := 0, locals := 19 } : Room).cells ({ frames := 1, cells := 0, slots := 0, locals := 19 } : Room).slots) := by
  refine MetFree.of_bodySF (plainFor_of_name pn_0) hisR ?_
  intro p e s m args' below meth c s₁ Bd hml0 hP hK
  obtain ⟨hargs, hZ, hh⟩ := hP
  have hx := Bd.exec
  have hby := Bd.bytes
  have hml : c.maxLocals = 9 := hml0
  have hown : s.vm.findClass "tidemark/format/ParquetRunLengthsUnpackPinLaw" = some m.cls := findClass_of_methodNamed Bd.named
  have hnm := (name_of_methodNamed Bd.named Bd.method).1
  have X0 : Stand p l e ({ frames := 1, cells := 0, slots := 0, locals := 19 } : Room) s m args' below meth c s₁ [] 0 0 := Stand.of_body Bd
  have e0 : s₁.heap = h0 := by rw [← hh, Bd.state]; rfl
  have N0 := Fr.nil n0
  obtain ⟨A0, hA0⟩ : ∃ A, A = s₁.setTop (mkF m 0 #[.val (.int q1), .val (.long q2), .second, .val (.long q3), .second, .val (.int q4), .val (.int q5), .val (.int q6), .val (.int q7)] []) := ⟨_, rfl⟩
  have P0 : own_Rch p.tables e below A0 (s₁.setTop (mkF m 0 #[.val (.int q1), .val (.long q2), .second, .val (.long q3), .second, .val (.int q4), .val (.int q5), .val (.int q6), .val (.int q7)] [])) := fun t k => hA0 ▸ k
  have P00 : own_Rch p.tables e below (s₁.setTop (entryFrame m args' 9)) A0 := fun t k => by rw [hargs]; exact castTop (ef_2 m q1 q2 q3 q4 q5 q6 q7) (hA0 ▸ k)
  have P2 : own_Rch p.tables e below A0 (s₁.setTop (mkF m 3 #[.val (.int q1), .val (.long q2), .second, .val (.long q3), .second, .val (.int q4), .val (.int q5), .val (.int q6), .val (.int q7)] [(.int q7), (.int q1)])) := fun t k => P0 t (by
    show Steps p.tables e below (s₁.setTop (mkF m 0 #[.val (.int q1), .val (.long q2), .second, .val (.long q3), .second, .val (.int q4), .val (.int q5), .val (.int q6), .val (.int q7)] [])) _
    refine XS.iloadN X0.here hx rfl (hb hby d2_0) rfl ?_
    show Steps p.tables e below (s₁.setTop (mkF m 1 #[.val (.int q1), .val (.long q2), .second, .val (.long q3), .second, .val (.int q4), .val (.int q5), .val (.int q6), .val (.int q7)] [(.int q1)])) _
    refine XS.iload X0.here hx rfl (hb hby d2_1) rfl ?_
    exact k)
  by_cases hc1 : q1 < q7
  · -- q1 < q7
    have P3 : own_Rch p.tables e below A0 (s₁.setTop (mkF m 39 #[.val (.int q1), .val (.long q2), .second, .val (.long q3), .second, .val (.int q4), .val (.int q5), .val (.int q6), .val (.int q7)] [(.int (1515870810 : Int32))])) := fun t k => P2 t (by
      show Steps p.tables e below (s₁.setTop (mkF m 3 #[.val (.int q1), .val (.long q2), .second, .val (.long q3), .second, .val (.int q4), .val (.int q5), .val (.int q6), .val (.int q7)] [(.int q7), (.int q1)])) _
      refine XS.icmpYes X0.here hx rfl (pc0 := 3) (pc' := 37) rfl (hb hby d2_3) rfl (tlt hc1).1 (by decide) (by decide) ?_
      show Steps p.tables e below (s₁.setTop (mkF m 37 #[.val (.int q1), .val (.long q2), .second, .val (.long q3), .second, .val (.int q4), .val (.int q5), .val (.int q6), .val (.int q7)] [])) _
      refine X0.ldcInt hx hown (mvT hZ (hw _ (List.mem_of_getElem? (i := 3) rfl))) (g := (mkF m 37 #[.val (.int q1), .val (.long q2), .second, .val (.long q3), .second, .val (.int q4), .val (.int q5), .val (.int q6), .val (.int q7)] [])) rfl (hb hby d2_37) _ ?_
      exact k)
    obtain ⟨fs, hr, hrun, hended, hW, hsame⟩ := X0.leave (v := some (.int (1515870810 : Int32))) (fun h => by rw [Bd.returns] at h; cases h)
    refine ⟨_, _, P00 _ (P3 _ ?_), hrun, hended, _, _, rfl, ?_, ⟨_, rfl⟩, hW, hsame.mono (by decide) (by decide)⟩
    · exact retOut X0 hx (t := .int) Bd.returns rfl (Or.inl ⟨rfl, Or.inl rfl, _, rfl⟩) (hb hby d2_39) hr
    · show Q2 Z q1 q2 q3 q4 q5 q6 q7 h0 n0 _ s₁.heap _
      rw [e0]
      refine ⟨?_, N0, rfl⟩
      skip
      (try simp only [own_expect, if_pos hc1])
      (try rfl)
  · -- not q1 < q7
    have P5 : own_Rch p.tables e below A0 (s₁.setTop (mkF m 12 #[.val (.int q1), .val (.long q2), .second, .val (.long q3), .second, .val (.int q4), .val (.int q5), .val (.int q6), .val (.int q7)] [(.int (q7 + q6)), (.int q1)])) := fun t k => P2 t (by
      show Steps p.tables e below (s₁.setTop (mkF m 3 #[.val (.int q1), .val (.long q2), .second, .val (.long q3), .second, .val (.int q4), .val (.int q5), .val (.int q6), .val (.int q7)] [(.int q7), (.int q1)])) _
      refine XS.icmpNo X0.here hx rfl (hb hby d2_3) rfl (flt hc1).1 ?_
      show Steps p.tables e below (s₁.setTop (mkF m 6 #[.val (.int q1), .val (.long q2), .second, .val (.long q3), .second, .val (.int q4), .val (.int q5), .val (.int q6), .val (.int q7)] [])) _
      refine XS.iloadN X0.here hx rfl (hb hby d2_6) rfl ?_
      show Steps p.tables e below (s₁.setTop (mkF m 7 #[.val (.int q1), .val (.long q2), .second, .val (.long q3), .second, .val (.int q4), .val (.int q5), .val (.int q6), .val (.int q7)] [(.int q1)])) _
      refine XS.iload X0.here hx rfl (hb hby d2_7) rfl ?_
      show Steps p.tables e below (s₁.setTop (mkF m 9 #[.val (.int q1), .val (.long q2), .second, .val (.long q3), .second, .val (.int q4), .val (.int q5), .val (.int q6), .val (.int q7)] [(.int q7), (.int q1)])) _
      refine XS.iload X0.here hx rfl (hb hby d2_9) rfl ?_
      show Steps p.tables e below (s₁.setTop (mkF m 11 #[.val (.int q1), .val (.long q2), .second, .val (.long q3), .second, .val (.int q4), .val (.int q5), .val (.int q6), .val (.int q7)] [(.int q6), (.int q7), (.int q1)])) _
      refine XS.iadd X0.here hx rfl (hb hby d2_11) rfl ?_
      exact k)
    by_cases hc4 : q1 < (q7 + q6)
    · -- q1 < (q7 + q6)
      have P6 : own_Rch p.tables e below A0 (s₁.setTop (mkF m 32 #[.val (.int q1), .val (.long q2), .second, .val (.long q3), .second, .val (.int q4), .val (.int q5), .val (.int q6), .val (.int q7)] [(.int q5), (.int ((q4 * (8 : Int32)) + ((q1 - q7) * q5))), (.long q3), (.long q2)])) := fun t k => P5 t (by
        show Steps p.tables e below (s₁.setTop (mkF m 12 #[.val (.int q1), .val (.long q2), .second, .val (.long q3), .second, .val (.int q4), .val (.int q5), .val (.int q6), .val (.int q7)] [(.int (q7 + q6)), (.int q1)])) _
        refine XS.icmpNo X0.here hx rfl (hb hby d2_12) rfl (tlt hc4).2.1 ?_
        show Steps p.tables e below (s₁.setTop (mkF m 15 #[.val (.int q1), .val (.long q2), .second, .val (.long q3), .second, .val (.int q4), .val (.int q5), .val (.int q6), .val (.int q7)] [])) _
        refine XS.lloadN X0.here hx rfl (hb hby d2_15) rfl ?_
        show Steps p.tables e below (s₁.setTop (mkF m 16 #[.val (.int q1), .val (.long q2), .second, .val (.long q3), .second, .val (.int q4), .val (.int q5), .val (.int q6), .val (.int q7)] [(.long q2)])) _
        refine XS.lloadN X0.here hx rfl (hb hby d2_16) rfl ?_
        show Steps p.tables e below (s₁.setTop (mkF m 17 #[.val (.int q1), .val (.long q2), .second, .val (.long q3), .second, .val (.int q4), .val (.int q5), .val (.int q6), .val (.int q7)] [(.long q3), (.long q2)])) _
        refine XS.iload X0.here hx rfl (hb hby d2_17) rfl ?_
        show Steps p.tables e below (s₁.setTop (mkF m 19 #[.val (.int q1), .val (.long q2), .second, .val (.long q3), .second, .val (.int q4), .val (.int q5), .val (.int q6), .val (.int q7)] [(.int q4), (.long q3), (.long q2)])) _
        refine XS.bipush X0.here hx rfl (hb hby d2_19) ?_
        show Steps p.tables e below (s₁.setTop (mkF m 21 #[.val (.int q1), .val (.long q2), .second, .val (.long q3), .second, .val (.int q4), .val (.int q5), .val (.int q6), .val (.int q7)] [(.int (8 : Int32)), (.int q4), (.long q3), (.long q2)])) _
        refine XS.imul X0.here hx rfl (hb hby d2_21) rfl ?_
        show Steps p.tables e below (s₁.setTop (mkF m 22 #[.val (.int q1), .val (.long q2), .second, .val (.long q3), .second, .val (.int q4), .val (.int q5), .val (.int q6), .val (.int q7)] [(.int (q4 * (8 : Int32))), (.long q3), (.long q2)])) _
        refine XS.iloadN X0.here hx rfl (hb hby d2_22) rfl ?_
        show Steps p.tables e below (s₁.setTop (mkF m 23 #[.val (.int q1), .val (.long q2), .second, .val (.long q3), .second, .val (.int q4), .val (.int q5), .val (.int q6), .val (.int q7)] [(.int q1), (.int (q4 * (8 : Int32))), (.long q3), (.long q2)])) _
        refine XS.iload X0.here hx rfl (hb hby d2_23) rfl ?_
        show Steps p.tables e below (s₁.setTop (mkF m 25 #[.val (.int q1), .val (.long q2), .second, .val (.long q3), .second, .val (.int q4), .val (.int q5), .val (.int q6), .val (.int q7)] [(.int q7), (.int q1), (.int (q4 * (8 : Int32))), (.long q3), (.long q2)])) _
        refine XS.isub X0.here hx rfl (hb hby d2_25) rfl ?_
        show Steps p.tables e below (s₁.setTop (mkF m 26 #[.val (.int q1), .val (.long q2), .second, .val (.long q3), .second, .val (.int q4), .val (.int q5), .val (.int q6), .val (.int q7)] [(.int (q1 - q7)), (.int (q4 * (8 : Int32))), (.long q3), (.long q2)])) _
        refine XS.iload X0.here hx rfl (hb hby d2_26) rfl ?_
        show Steps p.tables e below (s₁.setTop (mkF m 28 #[.val (.int q1), .val (.long q2), .second, .val (.long q3), .second, .val (.int q4), .val (.int q5), .val (.int q6), .val (.int q7)] [(.int q5), (.int (q1 - q7)), (.int (q4 * (8 : Int32))), (.long q3), (.long q2)])) _
        refine XS.imul X0.here hx rfl (hb hby d2_28) rfl ?_
        show Steps p.tables e below (s₁.setTop (mkF m 29 #[.val (.int q1), .val (.long q2), .second, .val (.long q3), .second, .val (.int q4), .val (.int q5), .val (.int q6), .val (.int q7)] [(.int ((q1 - q7) * q5)), (.int (q4 * (8 : Int32))), (.long q3), (.long q2)])) _
        refine XS.iadd X0.here hx rfl (hb hby d2_29) rfl ?_
        show Steps p.tables e below (s₁.setTop (mkF m 30 #[.val (.int q1), .val (.long q2), .second, .val (.long q3), .second, .val (.int q4), .val (.int q5), .val (.int q6), .val (.int q7)] [(.int ((q4 * (8 : Int32)) + ((q1 - q7) * q5))), (.long q3), (.long q2)])) _
        refine XS.iload X0.here hx rfl (hb hby d2_30) rfl ?_
        exact k)
      obtain ⟨_, _, ⟨T7, L7, k7, n7⟩, -, X7, ⟨Lc7, hQ7, l7, y7, z7⟩, st7⟩ := Jvm.LawKit.callS X0 hx (y := (⟨"tidemark/format/ParquetRunLengthsUnpackPinLaw", "field", "(JJII)J"⟩ : MethodName)) hown (mvT hZ (hw _ (List.mem_of_getElem? (i := 12) rfl))) (mvT hZ (hw _ (List.mem_of_getElem? (i := 13) rfl))) (mvT hZ (hw _ (List.mem_of_getElem? (i := 10) rfl))) (mvT hZ (hw _ (List.mem_of_getElem? (i := 14) rfl))) (by decide) (backOf (W := 0) (rm3 l Z a0 hw [] q2 q3 ((q4 * (8 : Int32)) + ((q1 - q7) * q5)) q5 h0 n0 Z0 ) hZ (hw _ (List.mem_of_getElem? (i := 14) rfl)) (hw _ (List.mem_of_getElem? (i := 10) rfl)) (by decide) (by decide)) (g := (mkF m 32 #[.val (.int q1), .val (.long q2), .second, .val (.long q3), .second, .val (.int q4), .val (.int q5), .val (.int q6), .val (.int q7)] [(.int q5), (.int ((q4 * (8 : Int32)) + ((q1 - q7) * q5))), (.long q3), (.long q2)])) rfl (by rw [hml]; rfl) (argsL := [(.long q2), (.long q3), (.int ((q4 * (8 : Int32)) + ((q1 - q7) * q5))), (.int q5)]) (rest := []) (lenOf pd_0 rfl) rfl (by show 2 * 0 + _ ≤ _; exact Nat.le_of_eq rfl) (hb hby d2_32) (fun _ _ => ⟨rfl, e0, (by decide : (0) + 0 ≤ _), (by decide : (0) + 0 ≤ _)⟩)
      dsimp only [Pt.U, Pt.locs, Pt.cells, Pt.slots] at X7 l7 y7 z7 st7 hQ7
      subst l7 y7 z7
      obtain ⟨rfl, N7q, e7⟩ := hQ7
      have N7 := Fr.app N0 N7q
      have P8 : own_Rch p.tables e below A0 (T7.setTop (mkF m 35 #[.val (.int q1), .val (.long q2), .second, .val (.long q3), .second, .val (.int q4), .val (.int q5), .val (.int q6), .val (.int q7)] [(.long (own_field q2 q3 ((q4 * (8 : Int32)) + ((q1 - q7) * q5)) q5))])) := fun t k => P6 t (st7 t k)
      have P9 : own_Rch p.tables e below A0 (T7.setTop (mkF m 36 #[.val (.int q1), .val (.long q2), .second, .val (.long q3), .second, .val (.int q4), .val (.int q5), .val (.int q6), .val (.int q7)] [(.int ((own_field q2 q3 ((q4 * (8 : Int32)) + ((q1 - q7) * q5)) q5).toInt32))])) := fun t k => P8 t (by
        show Steps p.tables e below (T7.setTop (mkF m 35 #[.val (.int q1), .val (.long q2), .second, .val (.long q3), .second, .val (.int q4), .val (.int q5), .val (.int q6), .val (.int q7)] [(.long (own_field q2 q3 ((q4 * (8 : Int32)) + ((q1 - q7) * q5)) q5))])) _
        refine XS.l2i X7.here hx rfl (hb hby d2_35) rfl ?_
        exact k)
      obtain ⟨fs, hr, hrun, hended, hW, hsame⟩ := X7.leave (v := some (.int ((own_field q2 q3 ((q4 * (8 : Int32)) + ((q1 - q7) * q5)) q5).toInt32))) (fun h => by rw [Bd.returns] at h; cases h)
      refine ⟨_, _, P00 _ (P9 _ ?_), hrun, hended, _, _, rfl, ?_, ⟨_, rfl⟩, hW, hsame.mono (by decide) (by decide)⟩
      · exact retOut X7 hx (t := .int) Bd.returns rfl (Or.inl ⟨rfl, Or.inl rfl, _, rfl⟩) (hb hby d2_36) hr
      · show Q2 Z q1 q2 q3 q4 q5 q6 q7 h0 n0 _ T7.heap _
        rw [e7]
        refine ⟨?_, N7, rfl⟩
        skip
        (try simp only [own_expect, if_neg hc1, if_pos hc4])
        (try rfl)
    · -- not q1 < (q7 + q6)
      have P10 : own_Rch p.tables e below A0 (s₁.setTop (mkF m 39 #[.val (.int q1), .val (.long q2), .second, .val (.long q3), .second, .val (.int q4), .val (.int q5), .val (.int q6), .val (.int q7)] [(.int (1515870810 : Int32))])) := fun t k => P5 t (by
        show Steps p.tables e below (s₁.setTop (mkF m 12 #[.val (.int q1), .val (.long q2), .second, .val (.long q3), .second, .val (.int q4), .val (.int q5), .val (.int q6), .val (.int q7)] [(.int (q7 + q6)), (.int q1)])) _
        refine XS.icmpYes X0.here hx rfl (pc0 := 12) (pc' := 37) rfl (hb hby d2_12) rfl (flt hc4).2.1 (by decide) (by decide) ?_
        show Steps p.tables e below (s₁.setTop (mkF m 37 #[.val (.int q1), .val (.long q2), .second, .val (.long q3), .second, .val (.int q4), .val (.int q5), .val (.int q6), .val (.int q7)] [])) _
        refine X0.ldcInt hx hown (mvT hZ (hw _ (List.mem_of_getElem? (i := 3) rfl))) (g := (mkF m 37 #[.val (.int q1), .val (.long q2), .second, .val (.long q3), .second, .val (.int q4), .val (.int q5), .val (.int q6), .val (.int q7)] [])) rfl (hb hby d2_37) _ ?_
        exact k)
      obtain ⟨fs, hr, hrun, hended, hW, hsame⟩ := X0.leave (v := some (.int (1515870810 : Int32))) (fun h => by rw [Bd.returns] at h; cases h)
      refine ⟨_, _, P00 _ (P10 _ ?_), hrun, hended, _, _, rfl, ?_, ⟨_, rfl⟩, hW, hsame.mono (by decide) (by decide)⟩
      · exact retOut X0 hx (t := .int) Bd.returns rfl (Or.inl ⟨rfl, Or.inl rfl, _, rfl⟩) (hb hby d2_39) hr
      · show Q2 Z q1 q2 q3 q4 q5 q6 q7 h0 n0 _ s₁.heap _
        rw [e0]
        refine ⟨?_, N0, rfl⟩
        skip
        (try simp only [own_expect, if_neg hc1, if_neg hc4])
        (try rfl)
def own_bi (lo hi : Int64) : List Int32 := [(nar .byte ((lo.toInt32).toInt8.toInt32)), (nar .byte ((((lo.toUInt64 >>> ((8 : Int32) &&& 0x3f).toInt64.toUInt64).toInt64).toInt32).toInt8.toInt32)), (nar .byte ((((lo.toUInt64 >>> ((16 : Int32) &&& 0x3f).toInt64.toUInt64).toInt64).toInt32).toInt8.toInt32)), (nar .byte ((((lo.toUInt64 >>> ((24 : Int32) &&& 0x3f).toInt64.toUInt64).toInt64).toInt32).toInt8.toInt32)), (nar .byte ((((lo.toUInt64 >>> ((32 : Int32) &&& 0x3f).toInt64.toUInt64).toInt64).toInt32).toInt8.toInt32)), (nar .byte ((((lo.toUInt64 >>> ((40 : Int32) &&& 0x3f).toInt64.toUInt64).toInt64).toInt32).toInt8.toInt32)), (nar .byte ((((lo.toUInt64 >>> ((48 : Int32) &&& 0x3f).toInt64.toUInt64).toInt64).toInt32).toInt8.toInt32)), (nar .byte ((((lo.toUInt64 >>> ((56 : Int32) &&& 0x3f).toInt64.toUInt64).toInt64).toInt32).toInt8.toInt32)), (nar .byte ((hi.toInt32).toInt8.toInt32)), (nar .byte ((((hi.toUInt64 >>> ((8 : Int32) &&& 0x3f).toInt64.toUInt64).toInt64).toInt32).toInt8.toInt32)), (nar .byte ((((hi.toUInt64 >>> ((16 : Int32) &&& 0x3f).toInt64.toUInt64).toInt64).toInt32).toInt8.toInt32)), (nar .byte ((((hi.toUInt64 >>> ((24 : Int32) &&& 0x3f).toInt64.toUInt64).toInt64).toInt32).toInt8.toInt32)), (nar .byte ((((hi.toUInt64 >>> ((32 : Int32) &&& 0x3f).toInt64.toUInt64).toInt64).toInt32).toInt8.toInt32)), (nar .byte ((((hi.toUInt64 >>> ((40 : Int32) &&& 0x3f).toInt64.toUInt64).toInt64).toInt32).toInt8.toInt32)), (nar .byte ((((hi.toUInt64 >>> ((48 : Int32) &&& 0x3f).toInt64.toUInt64).toInt64).toInt32).toInt8.toInt32)), (nar .byte ((((hi.toUInt64 >>> ((56 : Int32) &&& 0x3f).toInt64.toUInt64).toInt64).toInt32).toInt8.toInt32))]
def own_bv (lo hi : Int64) : List Value := [(.int (nar .byte ((lo.toInt32).toInt8.toInt32))), (.int (nar .byte ((((lo.toUInt64 >>> ((8 : Int32) &&& 0x3f).toInt64.toUInt64).toInt64).toInt32).toInt8.toInt32))), (.int (nar .byte ((((lo.toUInt64 >>> ((16 : Int32) &&& 0x3f).toInt64.toUInt64).toInt64).toInt32).toInt8.toInt32))), (.int (nar .byte ((((lo.toUInt64 >>> ((24 : Int32) &&& 0x3f).toInt64.toUInt64).toInt64).toInt32).toInt8.toInt32))), (.int (nar .byte ((((lo.toUInt64 >>> ((32 : Int32) &&& 0x3f).toInt64.toUInt64).toInt64).toInt32).toInt8.toInt32))), (.int (nar .byte ((((lo.toUInt64 >>> ((40 : Int32) &&& 0x3f).toInt64.toUInt64).toInt64).toInt32).toInt8.toInt32))), (.int (nar .byte ((((lo.toUInt64 >>> ((48 : Int32) &&& 0x3f).toInt64.toUInt64).toInt64).toInt32).toInt8.toInt32))), (.int (nar .byte ((((lo.toUInt64 >>> ((56 : Int32) &&& 0x3f).toInt64.toUInt64).toInt64).toInt32).toInt8.toInt32))), (.int (nar .byte ((hi.toInt32).toInt8.toInt32))), (.int (nar .byte ((((hi.toUInt64 >>> ((8 : Int32) &&& 0x3f).toInt64.toUInt64).toInt64).toInt32).toInt8.toInt32))), (.int (nar .byte ((((hi.toUInt64 >>> ((16 : Int32) &&& 0x3f).toInt64.toUInt64).toInt64).toInt32).toInt8.toInt32))), (.int (nar .byte ((((hi.toUInt64 >>> ((24 : Int32) &&& 0x3f).toInt64.toUInt64).toInt64).toInt32).toInt8.toInt32))), (.int (nar .byte ((((hi.toUInt64 >>> ((32 : Int32) &&& 0x3f).toInt64.toUInt64).toInt64).toInt32).toInt8.toInt32))), (.int (nar .byte ((((hi.toUInt64 >>> ((40 : Int32) &&& 0x3f).toInt64.toUInt64).toInt64).toInt32).toInt8.toInt32))), (.int (nar .byte ((((hi.toUInt64 >>> ((48 : Int32) &&& 0x3f).toInt64.toUInt64).toInt64).toInt32).toInt8.toInt32))), (.int (nar .byte ((((hi.toUInt64 >>> ((56 : Int32) &&& 0x3f).toInt64.toUInt64).toInt64).toInt32).toInt8.toInt32)))]
/-! behind own_bi, own_bv -/
theorem own_by1 : ∀ n : Fin 256, (((Int8.ofNat n.val).toInt32.toInt8.toInt32) &&& 255).toInt64.toBitVec.toNat = n.val := by decide +kernel
theorem own_t32 (y : Int64) : y.toInt32.toBitVec.toNat = y.toBitVec.toNat % 2 ^ 32 := by
  rw [Int64.toBitVec_toInt32, BitVec.signExtend_eq_setWidth_of_le _ (by decide), BitVec.toNat_setWidth]
theorem own_t8 (y : Int32) : y.toInt8.toBitVec.toNat = y.toBitVec.toNat % 2 ^ 8 := by
  rw [Int32.toBitVec_toInt8, BitVec.signExtend_eq_setWidth_of_le _ (by decide), BitVec.toNat_setWidth]
theorem own_byte1 (x : Int64) : ((nar .byte ((x.toInt32).toInt8.toInt32)) &&& 255).toInt64.toBitVec.toNat = x.toBitVec.toNat % 256 := by
  have e : x.toInt32.toInt8 = Int8.ofNat (x.toBitVec.toNat % 256) := by
    apply Int8.toBitVec_inj.mp
    apply BitVec.eq_of_toNat_eq
    rw [own_t8, own_t32]
    show _ = (x.toBitVec.toNat % 256) % 2 ^ 8
    omega
  show (((x.toInt32).toInt8.toInt32.toInt8.toInt32) &&& 255).toInt64.toBitVec.toNat = _
  rw [e]
  exact own_by1 ⟨x.toBitVec.toNat % 256, by omega⟩
theorem own_turn {N pos bt : Nat} : N / 2 ^ pos % 2 ^ bt + 2 ^ bt * (N / 2 ^ (pos + bt) % 256) = N / 2 ^ pos % 2 ^ (bt + 8) := by
  rw [Nat.pow_add 2 bt 8, Nat.mod_mul, Nat.pow_add 2 pos bt, Nat.div_div_eq_div_mul]
theorem own_held {N pos bt at_ : Nat} (hb : bt ≤ 31) (h8 : 8 * at_ = pos + bt) {d8 : Int64} (hd : d8.toBitVec.toNat = N / 2 ^ pos % 2 ^ bt) {y : Int64} (hy : y.toBitVec.toNat = N / 2 ^ (8 * at_) % 256) : (d8 ||| (y <<< (Int32.ofNat bt &&& 0x3f).toInt64)).toBitVec.toNat = N / 2 ^ pos % 2 ^ (bt + 8) := by
  have h1 : N / 2 ^ pos % 2 ^ bt < 2 ^ bt := Nat.mod_lt _ (Nat.two_pow_pos bt)
  have h2 : 2 ^ bt ≤ 2 ^ 31 := Nat.pow_le_pow_right (by decide) hb
  have h3 : N / 2 ^ (8 * at_) % 256 * 2 ^ bt < 2 ^ 64 := by
    have q : N / 2 ^ (8 * at_) % 256 ≤ 255 := by omega
    have : N / 2 ^ (8 * at_) % 256 * 2 ^ bt ≤ 255 * 2 ^ 31 := Nat.mul_le_mul q h2
    omega
  rw [Int64.toBitVec_or, BitVec.toNat_or, own_shl _ bt (by omega), hd, hy, Nat.mod_eq_of_lt h3, own_disj h1, h8, Nat.mul_comm _ (2 ^ bt), own_turn]
theorem own_shift {N pos bt w : Nat} (hw : w ≤ bt) (hw2 : w < 64) {d8 : Int64} (hd : d8.toBitVec.toNat = N / 2 ^ pos % 2 ^ bt) : ((d8.toUInt64 >>> (Int32.ofNat w &&& 0x3f).toInt64.toUInt64).toInt64).toBitVec.toNat = N / 2 ^ (pos + w) % 2 ^ (bt - w) := by
  rw [own_ushr d8 w hw2, hd]
  have e : 2 ^ bt = 2 ^ w * 2 ^ (bt - w) := by rw [← Nat.pow_add]; congr 1; omega
  rw [e, Nat.mod_mul_right_div_self, Nat.div_div_eq_div_mul, ← Nat.pow_add]
theorem own_val {N pos bt w : Nat} (hw : w ≤ bt) (hw2 : w ≤ 32) {d8 m6 : Int64} (hd : d8.toBitVec.toNat = N / 2 ^ pos % 2 ^ bt) (hm : m6 = ((1 : Int64) <<< (Int32.ofNat w &&& 0x3f).toInt64) - 1) : (d8 &&& m6).toInt32 = Int32.ofNat (N / 2 ^ pos % 2 ^ w) := by
  apply Int32.toBitVec_inj.mp
  apply BitVec.eq_of_toNat_eq
  have e : (d8 &&& m6).toBitVec.toNat = N / 2 ^ pos % 2 ^ w := by
    rw [hm, own_and d8 w (by omega), hd, Nat.mod_mod_of_dvd _ (Nat.pow_dvd_pow 2 hw)]
  have h2 : (2 : Nat) ^ w ≤ 2 ^ 32 := Nat.pow_le_pow_right (by decide) hw2
  have h3 : N / 2 ^ pos % 2 ^ w < 2 ^ w := Nat.mod_lt _ (Nat.two_pow_pos w)
  have l : (d8 &&& m6).toInt32.toBitVec.toNat = (d8 &&& m6).toBitVec.toNat % 2 ^ 32 := own_t32 _
  have r : (Int32.ofNat (N / 2 ^ pos % 2 ^ w)).toBitVec.toNat = (N / 2 ^ pos % 2 ^ w) % 2 ^ 32 := by simp
  rw [l, r, e]
def own_fill (N fr w cn os : Nat) : List Value := (List.range 6).map fun j => .int (if os ≤ j ∧ j < os + cn then Int32.ofNat (N / 2 ^ (8 * fr + (j - os) * w) % 2 ^ w) else 1515870810)
theorem own_fill0 (N fr w os : Nat) : own_fill N fr w 0 os = [(.int (1515870810 : Int32)), (.int (1515870810 : Int32)), (.int (1515870810 : Int32)), (.int (1515870810 : Int32)), (.int (1515870810 : Int32)), (.int (1515870810 : Int32))] := by
  have h : ∀ j, ¬ (os ≤ j ∧ j < os + 0) := fun j => by omega
  simp only [own_fill, h, if_false]; rfl
theorem own_fillS (N fr w k os : Nat) (_hk : os + k < 6) : (own_fill N fr w k os).set (os + k) (.int (Int32.ofNat (N / 2 ^ (8 * fr + k * w) % 2 ^ w))) = own_fill N fr w (k + 1) os := by
  apply List.ext_getElem
  · simp [own_fill]
  · intro j h1 h2
    have hj : j < 6 := by simpa [own_fill] using h2
    by_cases q : os + k = j
    · subst q
      simp [own_fill]
    · rw [List.getElem_set_ne q]
      simp only [own_fill, List.getElem_map, List.getElem_range]
      have e : (os ≤ j ∧ j < os + k) = (os ≤ j ∧ j < os + (k + 1)) := by
        apply propext; omega
      simp only [e]
theorem own_fillG (N fr w cn os : Nat) (j : Nat) (hj : j < 6) (d : Value) : (own_fill N fr w cn os).getD j d = .int (if os ≤ j ∧ j < os + cn then Int32.ofNat (N / 2 ^ (8 * fr + (j - os) * w) % 2 ^ w) else 1515870810) := by
  simp [own_fill, List.getD_eq_getElem?_getD, hj]
theorem d1_0 : decode prog_21_method_5_code 0 = .ok (.lconst 1, 1) := by decide +kernel
theorem d1_1 : decode prog_21_method_5_code 1 = .ok (.iload_n 2, 1) := by decide +kernel
theorem d1_2 : decode prog_21_method_5_code 2 = .ok (.lshl, 1) := by decide +kernel
theorem d1_3 : decode prog_21_method_5_code 3 = .ok (.lconst 1, 1) := by decide +kernel
theorem d1_4 : decode prog_21_method_5_code 4 = .ok (.lsub, 1) := by decide +kernel
theorem d1_5 : decode prog_21_method_5_code 5 = .ok (.lstore 6, 2) := by decide +kernel
theorem d1_7 : decode prog_21_method_5_code 7 = .ok (.lconst 0, 1) := by decide +kernel
theorem d1_8 : decode prog_21_method_5_code 8 = .ok (.lstore 8, 2) := by decide +kernel
theorem d1_10 : decode prog_21_method_5_code 10 = .ok (.iconst 0, 1) := by decide +kernel
theorem d1_11 : decode prog_21_method_5_code 11 = .ok (.istore 10, 2) := by decide +kernel
theorem d1_13 : decode prog_21_method_5_code 13 = .ok (.iload_n 1, 1) := by decide +kernel
theorem d1_14 : decode prog_21_method_5_code 14 = .ok (.istore 11, 2) := by decide +kernel
theorem d1_16 : decode prog_21_method_5_code 16 = .ok (.iconst 0, 1) := by decide +kernel
theorem d1_17 : decode prog_21_method_5_code 17 = .ok (.istore 12, 2) := by decide +kernel
theorem d1_19 : decode prog_21_method_5_code 19 = .ok (.iload 12, 2) := by decide +kernel
theorem d1_21 : decode prog_21_method_5_code 21 = .ok (.iload_n 3, 1) := by decide +kernel
theorem d1_22 : decode prog_21_method_5_code 22 = .ok (.if_icmp .ge 67, 3) := by decide +kernel
theorem d1_25 : decode prog_21_method_5_code 25 = .ok (.iload 10, 2) := by decide +kernel
theorem d1_27 : decode prog_21_method_5_code 27 = .ok (.iload_n 2, 1) := by decide +kernel
theorem d1_28 : decode prog_21_method_5_code 28 = .ok (.if_icmp .ge 29, 3) := by decide +kernel
theorem d1_31 : decode prog_21_method_5_code 31 = .ok (.lload 8, 2) := by decide +kernel
theorem d1_33 : decode prog_21_method_5_code 33 = .ok (.aload_n 0, 1) := by decide +kernel
theorem d1_34 : decode prog_21_method_5_code 34 = .ok (.iload 11, 2) := by decide +kernel
theorem d1_36 : decode prog_21_method_5_code 36 = .ok (.iinc 11 1, 3) := by decide +kernel
theorem d1_39 : decode prog_21_method_5_code 39 = .ok (.baload, 1) := by decide +kernel
theorem d1_40 : decode prog_21_method_5_code 40 = .ok (.sipush 255, 3) := by decide +kernel
theorem d1_43 : decode prog_21_method_5_code 43 = .ok (.iand, 1) := by decide +kernel
theorem d1_44 : decode prog_21_method_5_code 44 = .ok (.i2l, 1) := by decide +kernel
theorem d1_45 : decode prog_21_method_5_code 45 = .ok (.iload 10, 2) := by decide +kernel
theorem d1_47 : decode prog_21_method_5_code 47 = .ok (.lshl, 1) := by decide +kernel
theorem d1_48 : decode prog_21_method_5_code 48 = .ok (.lor, 1) := by decide +kernel
theorem d1_49 : decode prog_21_method_5_code 49 = .ok (.lstore 8, 2) := by decide +kernel
theorem d1_51 : decode prog_21_method_5_code 51 = .ok (.iinc 10 8, 3) := by decide +kernel
theorem d1_54 : decode prog_21_method_5_code 54 = .ok (.goto (-29), 3) := by decide +kernel
theorem d1_57 : decode prog_21_method_5_code 57 = .ok (.aload 4, 2) := by decide +kernel
theorem d1_59 : decode prog_21_method_5_code 59 = .ok (.iload 5, 2) := by decide +kernel
theorem d1_61 : decode prog_21_method_5_code 61 = .ok (.iload 12, 2) := by decide +kernel
theorem d1_63 : decode prog_21_method_5_code 63 = .ok (.iadd, 1) := by decide +kernel
theorem d1_64 : decode prog_21_method_5_code 64 = .ok (.lload 8, 2) := by decide +kernel
theorem d1_66 : decode prog_21_method_5_code 66 = .ok (.lload 6, 2) := by decide +kernel
theorem d1_68 : decode prog_21_method_5_code 68 = .ok (.land, 1) := by decide +kernel
theorem d1_69 : decode prog_21_method_5_code 69 = .ok (.l2i, 1) := by decide +kernel
theorem d1_70 : decode prog_21_method_5_code 70 = .ok (.iastore, 1) := by decide +kernel
theorem d1_71 : decode prog_21_method_5_code 71 = .ok (.lload 8, 2) := by decide +kernel
theorem d1_73 : decode prog_21_method_5_code 73 = .ok (.iload_n 2, 1) := by decide +kernel
theorem d1_74 : decode prog_21_method_5_code 74 = .ok (.lushr, 1) := by decide +kernel
theorem d1_75 : decode prog_21_method_5_code 75 = .ok (.lstore 8, 2) := by decide +kernel
theorem d1_77 : decode prog_21_method_5_code 77 = .ok (.iload 10, 2) := by decide +kernel
theorem d1_79 : decode prog_21_method_5_code 79 = .ok (.iload_n 2, 1) := by decide +kernel
theorem d1_80 : decode prog_21_method_5_code 80 = .ok (.isub, 1) := by decide +kernel
theorem d1_81 : decode prog_21_method_5_code 81 = .ok (.istore 10, 2) := by decide +kernel
theorem d1_83 : decode prog_21_method_5_code 83 = .ok (.iinc 12 1, 3) := by decide +kernel
theorem d1_86 : decode prog_21_method_5_code 86 = .ok (.goto (-67), 3) := by decide +kernel
theorem d1_89 : decode prog_21_method_5_code 89 = .ok (.return_, 1) := by decide +kernel
set_option maxRecDepth 65536 in
set_option maxHeartbeats 40000000 in
theorem sgA {p : Program} {l : Launch} {e : Env} {R : Room} {s : State} {m : MethodId} {args' : Array Value} {below : List Frame} {meth : Method} {c : Code} {T0 : State} {locs : List Loc} {cells slots : Nat} {Z : State} {h0 : Heap} (X0 : Stand p l e R s m args' below meth c T0 locs cells slots) (hx : p.tables.exec = Jvm.exec) (hZ : Z.Warmed39 s.vm) (hby : c.code = prog_21_method_5_code) (e0 : T0.heap = h0) (a : Addr) (ka : ClassId) (o : Addr) (lo : Int64) (hi : Int64) (r1 : Int32) (r2 : Int32) (r3 : Int32) (r5 : Int32) (m6 : Int64) (d8 : Int64) (t10 : Int32) (t11 : Int32) (t12 : Int32) (h1 : t12 < r3) :
    own_Rch p.tables e below (T0.setTop (mkF m 19 #[.val (.ref a), .val (.int r1), .val (.int r2), .val (.int r3), .val (.ref o), .val (.int r5), .val (.long m6), .second, .val (.long d8), .second, .val (.int t10), .val (.int t11), .val (.int t12)] [])) (T0.setTop (mkF m 25 #[.val (.ref a), .val (.int r1), .val (.int r2), .val (.int r3), .val (.ref o), .val (.int r5), .val (.long m6), .second, .val (.long d8), .second, .val (.int t10), .val (.int t11), .val (.int t12)] [])) := by
  obtain ⟨A0, hA0⟩ : ∃ A, A = T0.setTop (mkF m 19 #[.val (.ref a), .val (.int r1), .val (.int r2), .val (.int r3), .val (.ref o), .val (.int r5), .val (.long m6), .second, .val (.long d8), .second, .val (.int t10), .val (.int t11), .val (.int t12)] []) := ⟨_, rfl⟩
  have P0 : own_Rch p.tables e below A0 (T0.setTop (mkF m 19 #[.val (.ref a), .val (.int r1), .val (.int r2), .val (.int r3), .val (.ref o), .val (.int r5), .val (.long m6), .second, .val (.long d8), .second, .val (.int t10), .val (.int t11), .val (.int t12)] [])) := fun t k => hA0 ▸ k
  rw [← hA0]
  have P1 : own_Rch p.tables e below A0 (T0.setTop (mkF m 25 #[.val (.ref a), .val (.int r1), .val (.int r2), .val (.int r3), .val (.ref o), .val (.int r5), .val (.long m6), .second, .val (.long d8), .second, .val (.int t10), .val (.int t11), .val (.int t12)] [])) := fun t k => P0 t (by
    show Steps p.tables e below (T0.setTop (mkF m 19 #[.val (.ref a), .val (.int r1), .val (.int r2), .val (.int r3), .val (.ref o), .val (.int r5), .val (.long m6), .second, .val (.long d8), .second, .val (.int t10), .val (.int t11), .val (.int t12)] [])) _
    refine XS.iload X0.here hx rfl (hb hby d1_19) rfl ?_
    show Steps p.tables e below (T0.setTop (mkF m 21 #[.val (.ref a), .val (.int r1), .val (.int r2), .val (.int r3), .val (.ref o), .val (.int r5), .val (.long m6), .second, .val (.long d8), .second, .val (.int t10), .val (.int t11), .val (.int t12)] [(.int t12)])) _
    refine XS.iloadN X0.here hx rfl (hb hby d1_21) rfl ?_
    show Steps p.tables e below (T0.setTop (mkF m 22 #[.val (.ref a), .val (.int r1), .val (.int r2), .val (.int r3), .val (.ref o), .val (.int r5), .val (.long m6), .second, .val (.long d8), .second, .val (.int t10), .val (.int t11), .val (.int t12)] [(.int r3), (.int t12)])) _
    refine XS.icmpNo X0.here hx rfl (hb hby d1_22) rfl (tlt h1).2.1 ?_
    exact k)
  exact P1
set_option maxRecDepth 65536 in
set_option maxHeartbeats 40000000 in
theorem sgB {p : Program} {l : Launch} {e : Env} {R : Room} {s : State} {m : MethodId} {args' : Array Value} {below : List Frame} {meth : Method} {c : Code} {T0 : State} {locs : List Loc} {cells slots : Nat} {Z : State} {h0 : Heap} (X0 : Stand p l e R s m args' below meth c T0 locs cells slots) (hx : p.tables.exec = Jvm.exec) (hZ : Z.Warmed39 s.vm) (hby : c.code = prog_21_method_5_code) (e0 : T0.heap = h0) (a : Addr) (ka : ClassId) (o : Addr) (lo : Int64) (hi : Int64) (r1 : Int32) (r2 : Int32) (r3 : Int32) (r5 : Int32) (m6 : Int64) (d8 : Int64) (t10 : Int32) (t11 : Int32) (t12 : Int32) (h1 : ¬ (t12 < r3)) :
    own_Rch p.tables e below (T0.setTop (mkF m 19 #[.val (.ref a), .val (.int r1), .val (.int r2), .val (.int r3), .val (.ref o), .val (.int r5), .val (.long m6), .second, .val (.long d8), .second, .val (.int t10), .val (.int t11), .val (.int t12)] [])) (T0.setTop (mkF m 89 #[.val (.ref a), .val (.int r1), .val (.int r2), .val (.int r3), .val (.ref o), .val (.int r5), .val (.long m6), .second, .val (.long d8), .second, .val (.int t10), .val (.int t11), .val (.int t12)] [])) := by
  obtain ⟨A0, hA0⟩ : ∃ A, A = T0.setTop (mkF m 19 #[.val (.ref a), .val (.int r1), .val (.int r2), .val (.int r3), .val (.ref o), .val (.int r5), .val (.long m6), .second, .val (.long d8), .second, .val (.int t10), .val (.int t11), .val (.int t12)] []) := ⟨_, rfl⟩
  have P0 : own_Rch p.tables e below A0 (T0.setTop (mkF m 19 #[.val (.ref a), .val (.int r1), .val (.int r2), .val (.int r3), .val (.ref o), .val (.int r5), .val (.long m6), .second, .val (.long d8), .second, .val (.int t10), .val (.int t11), .val (.int t12)] [])) := fun t k => hA0 ▸ k
  rw [← hA0]
  have P1 : own_Rch p.tables e below A0 (T0.setTop (mkF m 89 #[.val (.ref a), .val (.int r1), .val (.int r2), .val (.int r3), .val (.ref o), .val (.int r5), .val (.long m6), .second, .val (.long d8), .second, .val (.int t10), .val (.int t11), .val (.int t12)] [])) := fun t k => P0 t (by
    show Steps p.tables e below (T0.setTop (mkF m 19 #[.val (.ref a), .val (.int r1), .val (.int r2), .val (.int r3), .val (.ref o), .val (.int r5), .val (.long m6), .second, .val (.long d8), .second, .val (.int t10), .val (.int t11), .val (.int t12)] [])) _
    refine XS.iload X0.here hx rfl (hb hby d1_19) rfl ?_
    show Steps p.tables e below (T0.setTop (mkF m 21 #[.val (.ref a), .val (.int r1), .val (.int r2), .val (.int r3), .val (.ref o), .val (.int r5), .val (.long m6), .second, .val (.long d8), .second, .val (.int t10), .val (.int t11), .val (.int t12)] [(.int t12)])) _
    refine XS.iloadN X0.here hx rfl (hb hby d1_21) rfl ?_
    show Steps p.tables e below (T0.setTop (mkF m 22 #[.val (.ref a), .val (.int r1), .val (.int r2), .val (.int r3), .val (.ref o), .val (.int r5), .val (.long m6), .second, .val (.long d8), .second, .val (.int t10), .val (.int t11), .val (.int t12)] [(.int r3), (.int t12)])) _
    refine XS.icmpYes X0.here hx rfl (pc0 := 22) (pc' := 89) rfl (hb hby d1_22) rfl (flt h1).2.1 (by decide) (by decide) ?_
    exact k)
  exact P1
set_option maxRecDepth 65536 in
set_option maxHeartbeats 40000000 in
theorem sgC {p : Program} {l : Launch} {e : Env} {R : Room} {s : State} {m : MethodId} {args' : Array Value} {below : List Frame} {meth : Method} {c : Code} {T0 : State} {locs : List Loc} {cells slots : Nat} {Z : State} {h0 : Heap} (X0 : Stand p l e R s m args' below meth c T0 locs cells slots) (hx : p.tables.exec = Jvm.exec) (hZ : Z.Warmed39 s.vm) (hby : c.code = prog_21_method_5_code) (e0 : T0.heap = h0) (a : Addr) (ka : ClassId) (o : Addr) (lo : Int64) (hi : Int64) (r1 : Int32) (r2 : Int32) (r3 : Int32) (r5 : Int32) (m6 : Int64) (d8 : Int64) (t10 : Int32) (t11 : Int32) (t12 : Int32) (h1 : ¬ (t10 < r2)) :
    own_Rch p.tables e below (T0.setTop (mkF m 25 #[.val (.ref a), .val (.int r1), .val (.int r2), .val (.int r3), .val (.ref o), .val (.int r5), .val (.long m6), .second, .val (.long d8), .second, .val (.int t10), .val (.int t11), .val (.int t12)] [])) (T0.setTop (mkF m 57 #[.val (.ref a), .val (.int r1), .val (.int r2), .val (.int r3), .val (.ref o), .val (.int r5), .val (.long m6), .second, .val (.long d8), .second, .val (.int t10), .val (.int t11), .val (.int t12)] [])) := by
  obtain ⟨A0, hA0⟩ : ∃ A, A = T0.setTop (mkF m 25 #[.val (.ref a), .val (.int r1), .val (.int r2), .val (.int r3), .val (.ref o), .val (.int r5), .val (.long m6), .second, .val (.long d8), .second, .val (.int t10), .val (.int t11), .val (.int t12)] []) := ⟨_, rfl⟩
  have P0 : own_Rch p.tables e below A0 (T0.setTop (mkF m 25 #[.val (.ref a), .val (.int r1), .val (.int r2), .val (.int r3), .val (.ref o), .val (.int r5), .val (.long m6), .second, .val (.long d8), .second, .val (.int t10), .val (.int t11), .val (.int t12)] [])) := fun t k => hA0 ▸ k
  rw [← hA0]
  have P1 : own_Rch p.tables e below A0 (T0.setTop (mkF m 57 #[.val (.ref a), .val (.int r1), .val (.int r2), .val (.int r3), .val (.ref o), .val (.int r5), .val (.long m6), .second, .val (.long d8), .second, .val (.int t10), .val (.int t11), .val (.int t12)] [])) := fun t k => P0 t (by
    show Steps p.tables e below (T0.setTop (mkF m 25 #[.val (.ref a), .val (.int r1), .val (.int r2), .val (.int r3), .val (.ref o), .val (.int r5), .val (.long m6), .second, .val (.long d8), .second, .val (.int t10), .val (.int t11), .val (.int t12)] [])) _
    refine XS.iload X0.here hx rfl (hb hby d1_25) rfl ?_
    show Steps p.tables e below (T0.setTop (mkF m 27 #[.val (.ref a), .val (.int r1), .val (.int r2), .val (.int r3), .val (.ref o), .val (.int r5), .val (.long m6), .second, .val (.long d8), .second, .val (.int t10), .val (.int t11), .val (.int t12)] [(.int t10)])) _
    refine XS.iloadN X0.here hx rfl (hb hby d1_27) rfl ?_
    show Steps p.tables e below (T0.setTop (mkF m 28 #[.val (.ref a), .val (.int r1), .val (.int r2), .val (.int r3), .val (.ref o), .val (.int r5), .val (.long m6), .second, .val (.long d8), .second, .val (.int t10), .val (.int t11), .val (.int t12)] [(.int r2), (.int t10)])) _
    refine XS.icmpYes X0.here hx rfl (pc0 := 28) (pc' := 57) rfl (hb hby d1_28) rfl (flt h1).2.1 (by decide) (by decide) ?_
    exact k)
  exact P1
set_option maxRecDepth 65536 in
set_option maxHeartbeats 40000000 in
theorem sgD {p : Program} {l : Launch} {e : Env} {R : Room} {s : State} {m : MethodId} {args' : Array Value} {below : List Frame} {meth : Method} {c : Code} {T0 : State} {locs : List Loc} {cells slots : Nat} {Z : State} {h0 : Heap} (X0 : Stand p l e R s m args' below meth c T0 locs cells slots) (hx : p.tables.exec = Jvm.exec) (hZ : Z.Warmed39 s.vm) (hby : c.code = prog_21_method_5_code) (e0 : T0.heap = h0) (a : Addr) (ka : ClassId) (o : Addr) (lo : Int64) (hi : Int64) (r1 : Int32) (r2 : Int32) (r3 : Int32) (r5 : Int32) (m6 : Int64) (d8 : Int64) (t10 : Int32) (t11 : Int32) (t12 : Int32) (x : Int32) (V_a : Arv Z h0 a ka .byte (16 : Int32) (own_bv lo hi) (.int (0 : Int32))) (hz : ¬ t11 < 0) (hl : t11 < 16) (hu : (own_bv lo hi).getD t11.toNatClampNeg (.int (0 : Int32)) = .int x) (h1 : t10 < r2) :
    own_Rch p.tables e below (T0.setTop (mkF m 25 #[.val (.ref a), .val (.int r1), .val (.int r2), .val (.int r3), .val (.ref o), .val (.int r5), .val (.long m6), .second, .val (.long d8), .second, .val (.int t10), .val (.int t11), .val (.int t12)] [])) (T0.setTop (mkF m 25 #[.val (.ref a), .val (.int r1), .val (.int r2), .val (.int r3), .val (.ref o), .val (.int r5), .val (.long m6), .second, .val (.long (d8 ||| (((x &&& (255 : Int32)).toInt64) <<< (t10 &&& 0x3f).toInt64))), .second, .val (.int (t10 + (8 : Int32))), .val (.int (t11 + (1 : Int32))), .val (.int t12)] [])) := by
  obtain ⟨A0, hA0⟩ : ∃ A, A = T0.setTop (mkF m 25 #[.val (.ref a), .val (.int r1), .val (.int r2), .val (.int r3), .val (.ref o), .val (.int r5), .val (.long m6), .second, .val (.long d8), .second, .val (.int t10), .val (.int t11), .val (.int t12)] []) := ⟨_, rfl⟩
  have P0 : own_Rch p.tables e below A0 (T0.setTop (mkF m 25 #[.val (.ref a), .val (.int r1), .val (.int r2), .val (.int r3), .val (.ref o), .val (.int r5), .val (.long m6), .second, .val (.long d8), .second, .val (.int t10), .val (.int t11), .val (.int t12)] [])) := fun t k => hA0 ▸ k
  rw [← hA0]
  have P2 : own_Rch p.tables e below A0 (T0.setTop (mkF m 25 #[.val (.ref a), .val (.int r1), .val (.int r2), .val (.int r3), .val (.ref o), .val (.int r5), .val (.long m6), .second, .val (.long (d8 ||| (((x &&& (255 : Int32)).toInt64) <<< (t10 &&& 0x3f).toInt64))), .second, .val (.int (t10 + (8 : Int32))), .val (.int (t11 + (1 : Int32))), .val (.int t12)] [])) := fun t k => P0 t (by
    show Steps p.tables e below (T0.setTop (mkF m 25 #[.val (.ref a), .val (.int r1), .val (.int r2), .val (.int r3), .val (.ref o), .val (.int r5), .val (.long m6), .second, .val (.long d8), .second, .val (.int t10), .val (.int t11), .val (.int t12)] [])) _
    refine XS.iload X0.here hx rfl (hb hby d1_25) rfl ?_
    show Steps p.tables e below (T0.setTop (mkF m 27 #[.val (.ref a), .val (.int r1), .val (.int r2), .val (.int r3), .val (.ref o), .val (.int r5), .val (.long m6), .second, .val (.long d8), .second, .val (.int t10), .val (.int t11), .val (.int t12)] [(.int t10)])) _
    refine XS.iloadN X0.here hx rfl (hb hby d1_27) rfl ?_
    show Steps p.tables e below (T0.setTop (mkF m 28 #[.val (.ref a), .val (.int r1), .val (.int r2), .val (.int r3), .val (.ref o), .val (.int r5), .val (.long m6), .second, .val (.long d8), .second, .val (.int t10), .val (.int t11), .val (.int t12)] [(.int r2), (.int t10)])) _
    refine XS.icmpNo X0.here hx rfl (hb hby d1_28) rfl (tlt h1).2.1 ?_
    show Steps p.tables e below (T0.setTop (mkF m 31 #[.val (.ref a), .val (.int r1), .val (.int r2), .val (.int r3), .val (.ref o), .val (.int r5), .val (.long m6), .second, .val (.long d8), .second, .val (.int t10), .val (.int t11), .val (.int t12)] [])) _
    refine XS.lload X0.here hx rfl (hb hby d1_31) rfl ?_
    show Steps p.tables e below (T0.setTop (mkF m 33 #[.val (.ref a), .val (.int r1), .val (.int r2), .val (.int r3), .val (.ref o), .val (.int r5), .val (.long m6), .second, .val (.long d8), .second, .val (.int t10), .val (.int t11), .val (.int t12)] [(.long d8)])) _
    refine XS.aloadN X0.here hx rfl (hb hby d1_33) rfl rfl ?_
    show Steps p.tables e below (T0.setTop (mkF m 34 #[.val (.ref a), .val (.int r1), .val (.int r2), .val (.int r3), .val (.ref o), .val (.int r5), .val (.long m6), .second, .val (.long d8), .second, .val (.int t10), .val (.int t11), .val (.int t12)] [(.ref a), (.long d8)])) _
    refine XS.iload X0.here hx rfl (hb hby d1_34) rfl ?_
    show Steps p.tables e below (T0.setTop (mkF m 36 #[.val (.ref a), .val (.int r1), .val (.int r2), .val (.int r3), .val (.ref o), .val (.int r5), .val (.long m6), .second, .val (.long d8), .second, .val (.int t10), .val (.int t11), .val (.int t12)] [(.int t11), (.ref a), (.long d8)])) _
    refine XS.iinc X0.here hx rfl (hb hby d1_36) rfl (l' := #[.val (.ref a), .val (.int r1), .val (.int r2), .val (.int r3), .val (.ref o), .val (.int r5), .val (.long m6), .second, .val (.long d8), .second, .val (.int t10), .val (.int (t11 + (1 : Int32))), .val (.int t12)]) rfl ?_
    show Steps p.tables e below (T0.setTop (mkF m 39 #[.val (.ref a), .val (.int r1), .val (.int r2), .val (.int r3), .val (.ref o), .val (.int r5), .val (.long m6), .second, .val (.long d8), .second, .val (.int t10), .val (.int (t11 + (1 : Int32))), .val (.int t12)] [(.int t11), (.ref a), (.long d8)])) _
    obtain ⟨cl1, Ar1, -, S1, N1, H1, -⟩ := id V_a
    have hin1 : ¬ (t11 < 0 ∨ cl1.slots.size ≤ (t11).toNatClampNeg) := inb_of S1 ⟨hz, hl⟩
    have hat1 := H1.at hin1 (v := (.int x)) hu
    refine X0.baloadBytes hx (j := t11) (v := (.int x)) (by rw [e0]; exact Ar1.1) (State.isArrayOf_alike hZ.alike Ar1.2.1) Ar1.2.2 hin1 hat1 (g := (mkF m 39 #[.val (.ref a), .val (.int r1), .val (.int r2), .val (.int r3), .val (.ref o), .val (.int r5), .val (.long m6), .second, .val (.long d8), .second, .val (.int t10), .val (.int (t11 + (1 : Int32))), .val (.int t12)] [(.int t11), (.ref a), (.long d8)])) rfl rfl (hb hby d1_39) _ ?_
    show Steps p.tables e below (T0.setTop (mkF m 40 #[.val (.ref a), .val (.int r1), .val (.int r2), .val (.int r3), .val (.ref o), .val (.int r5), .val (.long m6), .second, .val (.long d8), .second, .val (.int t10), .val (.int (t11 + (1 : Int32))), .val (.int t12)] [(.int x), (.long d8)])) _
    refine XS.sipush X0.here hx rfl (hb hby d1_40) ?_
    show Steps p.tables e below (T0.setTop (mkF m 43 #[.val (.ref a), .val (.int r1), .val (.int r2), .val (.int r3), .val (.ref o), .val (.int r5), .val (.long m6), .second, .val (.long d8), .second, .val (.int t10), .val (.int (t11 + (1 : Int32))), .val (.int t12)] [(.int (255 : Int32)), (.int x), (.long d8)])) _
    refine XS.iand X0.here hx rfl (hb hby d1_43) rfl ?_
    show Steps p.tables e below (T0.setTop (mkF m 44 #[.val (.ref a), .val (.int r1), .val (.int r2), .val (.int r3), .val (.ref o), .val (.int r5), .val (.long m6), .second, .val (.long d8), .second, .val (.int t10), .val (.int (t11 + (1 : Int32))), .val (.int t12)] [(.int (x &&& (255 : Int32))), (.long d8)])) _
    refine XS.i2l X0.here hx rfl (hb hby d1_44) rfl ?_
    show Steps p.tables e below (T0.setTop (mkF m 45 #[.val (.ref a), .val (.int r1), .val (.int r2), .val (.int r3), .val (.ref o), .val (.int r5), .val (.long m6), .second, .val (.long d8), .second, .val (.int t10), .val (.int (t11 + (1 : Int32))), .val (.int t12)] [(.long ((x &&& (255 : Int32)).toInt64)), (.long d8)])) _
    refine XS.iload X0.here hx rfl (hb hby d1_45) rfl ?_
    show Steps p.tables e below (T0.setTop (mkF m 47 #[.val (.ref a), .val (.int r1), .val (.int r2), .val (.int r3), .val (.ref o), .val (.int r5), .val (.long m6), .second, .val (.long d8), .second, .val (.int t10), .val (.int (t11 + (1 : Int32))), .val (.int t12)] [(.int t10), (.long ((x &&& (255 : Int32)).toInt64)), (.long d8)])) _
    refine XS.lshl X0.here hx rfl (hb hby d1_47) rfl ?_
    show Steps p.tables e below (T0.setTop (mkF m 48 #[.val (.ref a), .val (.int r1), .val (.int r2), .val (.int r3), .val (.ref o), .val (.int r5), .val (.long m6), .second, .val (.long d8), .second, .val (.int t10), .val (.int (t11 + (1 : Int32))), .val (.int t12)] [(.long (((x &&& (255 : Int32)).toInt64) <<< (t10 &&& 0x3f).toInt64)), (.long d8)])) _
    refine XS.lor X0.here hx rfl (hb hby d1_48) rfl ?_
    show Steps p.tables e below (T0.setTop (mkF m 49 #[.val (.ref a), .val (.int r1), .val (.int r2), .val (.int r3), .val (.ref o), .val (.int r5), .val (.long m6), .second, .val (.long d8), .second, .val (.int t10), .val (.int (t11 + (1 : Int32))), .val (.int t12)] [(.long (d8 ||| (((x &&& (255 : Int32)).toInt64) <<< (t10 &&& 0x3f).toInt64)))])) _
    refine XS.lstore X0.here hx rfl (hb hby d1_49) rfl (l' := #[.val (.ref a), .val (.int r1), .val (.int r2), .val (.int r3), .val (.ref o), .val (.int r5), .val (.long m6), .second, .val (.long (d8 ||| (((x &&& (255 : Int32)).toInt64) <<< (t10 &&& 0x3f).toInt64))), .second, .val (.int t10), .val (.int (t11 + (1 : Int32))), .val (.int t12)]) rfl ?_
    show Steps p.tables e below (T0.setTop (mkF m 51 #[.val (.ref a), .val (.int r1), .val (.int r2), .val (.int r3), .val (.ref o), .val (.int r5), .val (.long m6), .second, .val (.long (d8 ||| (((x &&& (255 : Int32)).toInt64) <<< (t10 &&& 0x3f).toInt64))), .second, .val (.int t10), .val (.int (t11 + (1 : Int32))), .val (.int t12)] [])) _
    refine XS.iinc X0.here hx rfl (hb hby d1_51) rfl (l' := #[.val (.ref a), .val (.int r1), .val (.int r2), .val (.int r3), .val (.ref o), .val (.int r5), .val (.long m6), .second, .val (.long (d8 ||| (((x &&& (255 : Int32)).toInt64) <<< (t10 &&& 0x3f).toInt64))), .second, .val (.int (t10 + (8 : Int32))), .val (.int (t11 + (1 : Int32))), .val (.int t12)]) rfl ?_
    show Steps p.tables e below (T0.setTop (mkF m 54 #[.val (.ref a), .val (.int r1), .val (.int r2), .val (.int r3), .val (.ref o), .val (.int r5), .val (.long m6), .second, .val (.long (d8 ||| (((x &&& (255 : Int32)).toInt64) <<< (t10 &&& 0x3f).toInt64))), .second, .val (.int (t10 + (8 : Int32))), .val (.int (t11 + (1 : Int32))), .val (.int t12)] [])) _
    refine XS.goto X0.here hx rfl (pc0 := 54) (pc' := 25) rfl (hb hby d1_54) (by decide) (by decide) ?_
    exact k)
  exact P2
set_option maxRecDepth 65536 in
set_option maxHeartbeats 40000000 in
theorem sgE {p : Program} {l : Launch} {e : Env} {R : Room} {s : State} {m : MethodId} {args' : Array Value} {below : List Frame} {meth : Method} {c : Code} {T0 : State} {locs : List Loc} {cells slots : Nat} {Z : State} {h0 : Heap} (X0 : Stand p l e R s m args' below meth c T0 locs cells slots) (hx : p.tables.exec = Jvm.exec) (hZ : Z.Warmed39 s.vm) (hby : c.code = prog_21_method_5_code) (e0 : T0.heap = h0) (a : Addr) (ka : ClassId) (o : Addr) (lo : Int64) (hi : Int64) (r1 : Int32) (r2 : Int32) (r3 : Int32) (r5 : Int32) (m6 : Int64) (d8 : Int64) (t10 : Int32) (t11 : Int32) (t12 : Int32) {ko : ClassId} {vs : List Value} {dv : Value} (V_o : Arv Z h0 o ko .int (6 : Int32) vs dv) (hz : ¬ (r5 + t12) < 0) (hl : (r5 + t12) < 6) (ix : Nat) (hix : (r5 + t12).toNatClampNeg = ix) (hlen : ix < vs.length) :
    ∃ (T' : State) (h' : Heap), Stand p l e R s m args' below meth c T' (locs ++ [⟨o, (r5 + t12).toNatClampNeg⟩]) cells slots ∧ T'.heap = h' ∧ Wr h0 h' o (r5 + t12).toNatClampNeg (.int ((d8 &&& m6).toInt32)) ∧ Arv Z h' o ko .int (6 : Int32) (vs.set ix (.int ((d8 &&& m6).toInt32))) dv ∧ own_Rch p.tables e below (T0.setTop (mkF m 57 #[.val (.ref a), .val (.int r1), .val (.int r2), .val (.int r3), .val (.ref o), .val (.int r5), .val (.long m6), .second, .val (.long d8), .second, .val (.int t10), .val (.int t11), .val (.int t12)] [])) (T'.setTop (mkF m 19 #[.val (.ref a), .val (.int r1), .val (.int r2), .val (.int r3), .val (.ref o), .val (.int r5), .val (.long m6), .second, .val (.long ((d8.toUInt64 >>> (r2 &&& 0x3f).toInt64.toUInt64).toInt64)), .second, .val (.int (t10 - r2)), .val (.int t11), .val (.int (t12 + (1 : Int32)))] [])) := by
  obtain ⟨A0, hA0⟩ : ∃ A, A = T0.setTop (mkF m 57 #[.val (.ref a), .val (.int r1), .val (.int r2), .val (.int r3), .val (.ref o), .val (.int r5), .val (.long m6), .second, .val (.long d8), .second, .val (.int t10), .val (.int t11), .val (.int t12)] []) := ⟨_, rfl⟩
  have P0 : own_Rch p.tables e below A0 (T0.setTop (mkF m 57 #[.val (.ref a), .val (.int r1), .val (.int r2), .val (.int r3), .val (.ref o), .val (.int r5), .val (.long m6), .second, .val (.long d8), .second, .val (.int t10), .val (.int t11), .val (.int t12)] [])) := fun t k => hA0 ▸ k
  rw [← hA0]
  have P1 : own_Rch p.tables e below A0 (T0.setTop (mkF m 70 #[.val (.ref a), .val (.int r1), .val (.int r2), .val (.int r3), .val (.ref o), .val (.int r5), .val (.long m6), .second, .val (.long d8), .second, .val (.int t10), .val (.int t11), .val (.int t12)] [(.int ((d8 &&& m6).toInt32)), (.int (r5 + t12)), (.ref o)])) := fun t k => P0 t (by
    show Steps p.tables e below (T0.setTop (mkF m 57 #[.val (.ref a), .val (.int r1), .val (.int r2), .val (.int r3), .val (.ref o), .val (.int r5), .val (.long m6), .second, .val (.long d8), .second, .val (.int t10), .val (.int t11), .val (.int t12)] [])) _
    refine XS.aload X0.here hx rfl (hb hby d1_57) rfl rfl ?_
    show Steps p.tables e below (T0.setTop (mkF m 59 #[.val (.ref a), .val (.int r1), .val (.int r2), .val (.int r3), .val (.ref o), .val (.int r5), .val (.long m6), .second, .val (.long d8), .second, .val (.int t10), .val (.int t11), .val (.int t12)] [(.ref o)])) _
    refine XS.iload X0.here hx rfl (hb hby d1_59) rfl ?_
    show Steps p.tables e below (T0.setTop (mkF m 61 #[.val (.ref a), .val (.int r1), .val (.int r2), .val (.int r3), .val (.ref o), .val (.int r5), .val (.long m6), .second, .val (.long d8), .second, .val (.int t10), .val (.int t11), .val (.int t12)] [(.int r5), (.ref o)])) _
    refine XS.iload X0.here hx rfl (hb hby d1_61) rfl ?_
    show Steps p.tables e below (T0.setTop (mkF m 63 #[.val (.ref a), .val (.int r1), .val (.int r2), .val (.int r3), .val (.ref o), .val (.int r5), .val (.long m6), .second, .val (.long d8), .second, .val (.int t10), .val (.int t11), .val (.int t12)] [(.int t12), (.int r5), (.ref o)])) _
    refine XS.iadd X0.here hx rfl (hb hby d1_63) rfl ?_
    show Steps p.tables e below (T0.setTop (mkF m 64 #[.val (.ref a), .val (.int r1), .val (.int r2), .val (.int r3), .val (.ref o), .val (.int r5), .val (.long m6), .second, .val (.long d8), .second, .val (.int t10), .val (.int t11), .val (.int t12)] [(.int (r5 + t12)), (.ref o)])) _
    refine XS.lload X0.here hx rfl (hb hby d1_64) rfl ?_
    show Steps p.tables e below (T0.setTop (mkF m 66 #[.val (.ref a), .val (.int r1), .val (.int r2), .val (.int r3), .val (.ref o), .val (.int r5), .val (.long m6), .second, .val (.long d8), .second, .val (.int t10), .val (.int t11), .val (.int t12)] [(.long d8), (.int (r5 + t12)), (.ref o)])) _
    refine XS.lload X0.here hx rfl (hb hby d1_66) rfl ?_
    show Steps p.tables e below (T0.setTop (mkF m 68 #[.val (.ref a), .val (.int r1), .val (.int r2), .val (.int r3), .val (.ref o), .val (.int r5), .val (.long m6), .second, .val (.long d8), .second, .val (.int t10), .val (.int t11), .val (.int t12)] [(.long m6), (.long d8), (.int (r5 + t12)), (.ref o)])) _
    refine XS.land X0.here hx rfl (hb hby d1_68) rfl ?_
    show Steps p.tables e below (T0.setTop (mkF m 69 #[.val (.ref a), .val (.int r1), .val (.int r2), .val (.int r3), .val (.ref o), .val (.int r5), .val (.long m6), .second, .val (.long d8), .second, .val (.int t10), .val (.int t11), .val (.int t12)] [(.long (d8 &&& m6)), (.int (r5 + t12)), (.ref o)])) _
    refine XS.l2i X0.here hx rfl (hb hby d1_69) rfl ?_
    exact k)
  obtain ⟨cl, Ar, qc, Sz, Nz, Hs, Gs⟩ := V_o
  have hin : ¬ ((r5 + t12) < 0 ∨ cl.slots.size ≤ ((r5 + t12)).toNatClampNeg) := inb_of Sz ⟨hz, hl⟩
  obtain ⟨T1, h1, X1, e1, W1, st1⟩ := stI X0 hx hZ e0 Ar (j := (r5 + t12)) hin (g := (mkF m 70 #[.val (.ref a), .val (.int r1), .val (.int r2), .val (.int r3), .val (.ref o), .val (.int r5), .val (.long m6), .second, .val (.long d8), .second, .val (.int t10), .val (.int t11), .val (.int t12)] [(.int ((d8 &&& m6).toInt32)), (.int (r5 + t12)), (.ref o)])) rfl rfl (hb hby d1_70)
  have V1 := Arv.set Ar qc Sz Nz Hs Gs rfl W1 ix hix hlen
  have P2 : own_Rch p.tables e below A0 (T1.setTop (mkF m 71 #[.val (.ref a), .val (.int r1), .val (.int r2), .val (.int r3), .val (.ref o), .val (.int r5), .val (.long m6), .second, .val (.long d8), .second, .val (.int t10), .val (.int t11), .val (.int t12)] [])) := fun t k => P1 t (st1 t k)
  have P3 : own_Rch p.tables e below A0 (T1.setTop (mkF m 19 #[.val (.ref a), .val (.int r1), .val (.int r2), .val (.int r3), .val (.ref o), .val (.int r5), .val (.long m6), .second, .val (.long ((d8.toUInt64 >>> (r2 &&& 0x3f).toInt64.toUInt64).toInt64)), .second, .val (.int (t10 - r2)), .val (.int t11), .val (.int (t12 + (1 : Int32)))] [])) := fun t k => P2 t (by
    show Steps p.tables e below (T1.setTop (mkF m 71 #[.val (.ref a), .val (.int r1), .val (.int r2), .val (.int r3), .val (.ref o), .val (.int r5), .val (.long m6), .second, .val (.long d8), .second, .val (.int t10), .val (.int t11), .val (.int t12)] [])) _
    refine XS.lload X1.here hx rfl (hb hby d1_71) rfl ?_
    show Steps p.tables e below (T1.setTop (mkF m 73 #[.val (.ref a), .val (.int r1), .val (.int r2), .val (.int r3), .val (.ref o), .val (.int r5), .val (.long m6), .second, .val (.long d8), .second, .val (.int t10), .val (.int t11), .val (.int t12)] [(.long d8)])) _
    refine XS.iloadN X1.here hx rfl (hb hby d1_73) rfl ?_
    show Steps p.tables e below (T1.setTop (mkF m 74 #[.val (.ref a), .val (.int r1), .val (.int r2), .val (.int r3), .val (.ref o), .val (.int r5), .val (.long m6), .second, .val (.long d8), .second, .val (.int t10), .val (.int t11), .val (.int t12)] [(.int r2), (.long d8)])) _
    refine XS.lushr X1.here hx rfl (hb hby d1_74) rfl ?_
    show Steps p.tables e below (T1.setTop (mkF m 75 #[.val (.ref a), .val (.int r1), .val (.int r2), .val (.int r3), .val (.ref o), .val (.int r5), .val (.long m6), .second, .val (.long d8), .second, .val (.int t10), .val (.int t11), .val (.int t12)] [(.long ((d8.toUInt64 >>> (r2 &&& 0x3f).toInt64.toUInt64).toInt64))])) _
    refine XS.lstore X1.here hx rfl (hb hby d1_75) rfl (l' := #[.val (.ref a), .val (.int r1), .val (.int r2), .val (.int r3), .val (.ref o), .val (.int r5), .val (.long m6), .second, .val (.long ((d8.toUInt64 >>> (r2 &&& 0x3f).toInt64.toUInt64).toInt64)), .second, .val (.int t10), .val (.int t11), .val (.int t12)]) rfl ?_
    show Steps p.tables e below (T1.setTop (mkF m 77 #[.val (.ref a), .val (.int r1), .val (.int r2), .val (.int r3), .val (.ref o), .val (.int r5), .val (.long m6), .second, .val (.long ((d8.toUInt64 >>> (r2 &&& 0x3f).toInt64.toUInt64).toInt64)), .second, .val (.int t10), .val (.int t11), .val (.int t12)] [])) _
    refine XS.iload X1.here hx rfl (hb hby d1_77) rfl ?_
    show Steps p.tables e below (T1.setTop (mkF m 79 #[.val (.ref a), .val (.int r1), .val (.int r2), .val (.int r3), .val (.ref o), .val (.int r5), .val (.long m6), .second, .val (.long ((d8.toUInt64 >>> (r2 &&& 0x3f).toInt64.toUInt64).toInt64)), .second, .val (.int t10), .val (.int t11), .val (.int t12)] [(.int t10)])) _
    refine XS.iloadN X1.here hx rfl (hb hby d1_79) rfl ?_
    show Steps p.tables e below (T1.setTop (mkF m 80 #[.val (.ref a), .val (.int r1), .val (.int r2), .val (.int r3), .val (.ref o), .val (.int r5), .val (.long m6), .second, .val (.long ((d8.toUInt64 >>> (r2 &&& 0x3f).toInt64.toUInt64).toInt64)), .second, .val (.int t10), .val (.int t11), .val (.int t12)] [(.int r2), (.int t10)])) _
    refine XS.isub X1.here hx rfl (hb hby d1_80) rfl ?_
    show Steps p.tables e below (T1.setTop (mkF m 81 #[.val (.ref a), .val (.int r1), .val (.int r2), .val (.int r3), .val (.ref o), .val (.int r5), .val (.long m6), .second, .val (.long ((d8.toUInt64 >>> (r2 &&& 0x3f).toInt64.toUInt64).toInt64)), .second, .val (.int t10), .val (.int t11), .val (.int t12)] [(.int (t10 - r2))])) _
    refine XS.istore X1.here hx rfl (hb hby d1_81) rfl (l' := #[.val (.ref a), .val (.int r1), .val (.int r2), .val (.int r3), .val (.ref o), .val (.int r5), .val (.long m6), .second, .val (.long ((d8.toUInt64 >>> (r2 &&& 0x3f).toInt64.toUInt64).toInt64)), .second, .val (.int (t10 - r2)), .val (.int t11), .val (.int t12)]) rfl ?_
    show Steps p.tables e below (T1.setTop (mkF m 83 #[.val (.ref a), .val (.int r1), .val (.int r2), .val (.int r3), .val (.ref o), .val (.int r5), .val (.long m6), .second, .val (.long ((d8.toUInt64 >>> (r2 &&& 0x3f).toInt64.toUInt64).toInt64)), .second, .val (.int (t10 - r2)), .val (.int t11), .val (.int t12)] [])) _
    refine XS.iinc X1.here hx rfl (hb hby d1_83) rfl (l' := #[.val (.ref a), .val (.int r1), .val (.int r2), .val (.int r3), .val (.ref o), .val (.int r5), .val (.long m6), .second, .val (.long ((d8.toUInt64 >>> (r2 &&& 0x3f).toInt64.toUInt64).toInt64)), .second, .val (.int (t10 - r2)), .val (.int t11), .val (.int (t12 + (1 : Int32)))]) rfl ?_
    show Steps p.tables e below (T1.setTop (mkF m 86 #[.val (.ref a), .val (.int r1), .val (.int r2), .val (.int r3), .val (.ref o), .val (.int r5), .val (.long m6), .second, .val (.long ((d8.toUInt64 >>> (r2 &&& 0x3f).toInt64.toUInt64).toInt64)), .second, .val (.int (t10 - r2)), .val (.int t11), .val (.int (t12 + (1 : Int32)))] [])) _
    refine XS.goto X1.here hx rfl (pc0 := 86) (pc' := 19) rfl (hb hby d1_86) (by decide) (by decide) ?_
    exact k)
  exact ⟨T1, h1, X1, e1, W1, V1, P3⟩
theorem own_of {j k : Nat} (hj : j ≤ 1000) (hk : k ≤ 1000) : (Int32.ofNat j < Int32.ofNat k) = (j < k) := by
  have e1 : (Int32.ofNat j).toInt = j := Int32.toInt_ofNat_of_lt (by omega)
  have e2 : (Int32.ofNat k).toInt = k := Int32.toInt_ofNat_of_lt (by omega)
  rw [Int32.lt_iff_toInt_lt, e1, e2]; simp
theorem own_nn {j : Nat} (hj : j ≤ 1000) : ¬ Int32.ofNat j < 0 := by
  have e1 : (Int32.ofNat j).toInt = j := Int32.toInt_ofNat_of_lt (by omega)
  rw [Int32.lt_iff_toInt_lt, e1]; show ¬ (j : Int) < 0; omega
theorem own_add1 (j : Nat) : Int32.ofNat j + 1 = Int32.ofNat (j + 1) := by rw [Int32.ofNat_add]; rfl
theorem own_add8 (j : Nat) : Int32.ofNat j + 8 = Int32.ofNat (j + 8) := by rw [Int32.ofNat_add]; rfl
theorem own_add2 (j k : Nat) : Int32.ofNat j + Int32.ofNat k = Int32.ofNat (j + k) := by rw [Int32.ofNat_add]
theorem own_sub2 {j k : Nat} (h : k ≤ j) : Int32.ofNat j - Int32.ofNat k = Int32.ofNat (j - k) := by
  have : j = (j - k) + k := by omega
  conv => lhs; rw [this]
  rw [Int32.ofNat_add, Int32.add_sub_cancel]
theorem own_ix {j : Nat} (hj : j ≤ 1000) : (Int32.ofNat j).toNatClampNeg = j := by
  have e1 : (Int32.ofNat j).toInt = j := Int32.toInt_ofNat_of_lt (by omega)
  simp [Int32.toNatClampNeg, e1]
theorem own_bb (lo hi : Int64) : ∀ (k : Nat) (hk : k < 16), (((own_bi lo hi).getD k 0) &&& 255).toInt64.toBitVec.toNat = own_N lo hi / 2 ^ (8 * k) % 256
  | 0, _ => (own_byte1 lo).trans (by show _ = own_N lo hi / 1 % 256; have := hi.toBitVec.isLt; have := lo.toBitVec.isLt; simp only [own_N]; omega)
  | 1, _ => (own_byte1 ((lo.toUInt64 >>> ((8 : Int32) &&& 0x3f).toInt64.toUInt64).toInt64)).trans (by show _ = own_N lo hi / 256 % 256; rw [show (((lo.toUInt64 >>> ((8 : Int32) &&& 0x3f).toInt64.toUInt64).toInt64)).toBitVec.toNat = lo.toBitVec.toNat / 2 ^ 8 from own_ushr lo 8 (by decide)]; have := hi.toBitVec.isLt; have := lo.toBitVec.isLt; simp only [own_N]; omega)
  | 2, _ => (own_byte1 ((lo.toUInt64 >>> ((16 : Int32) &&& 0x3f).toInt64.toUInt64).toInt64)).trans (by show _ = own_N lo hi / 65536 % 256; rw [show (((lo.toUInt64 >>> ((16 : Int32) &&& 0x3f).toInt64.toUInt64).toInt64)).toBitVec.toNat = lo.toBitVec.toNat / 2 ^ 16 from own_ushr lo 16 (by decide)]; have := hi.toBitVec.isLt; have := lo.toBitVec.isLt; simp only [own_N]; omega)
  | 3, _ => (own_byte1 ((lo.toUInt64 >>> ((24 : Int32) &&& 0x3f).toInt64.toUInt64).toInt64)).trans (by show _ = own_N lo hi / 16777216 % 256; rw [show (((lo.toUInt64 >>> ((24 : Int32) &&& 0x3f).toInt64.toUInt64).toInt64)).toBitVec.toNat = lo.toBitVec.toNat / 2 ^ 24 from own_ushr lo 24 (by decide)]; have := hi.toBitVec.isLt; have := lo.toBitVec.isLt; simp only [own_N]; omega)
  | 4, _ => (own_byte1 ((lo.toUInt64 >>> ((32 : Int32) &&& 0x3f).toInt64.toUInt64).toInt64)).trans (by show _ = own_N lo hi / 4294967296 % 256; rw [show (((lo.toUInt64 >>> ((32 : Int32) &&& 0x3f).toInt64.toUInt64).toInt64)).toBitVec.toNat = lo.toBitVec.toNat / 2 ^ 32 from own_ushr lo 32 (by decide)]; have := hi.toBitVec.isLt; have := lo.toBitVec.isLt; simp only [own_N]; omega)
  | 5, _ => (own_byte1 ((lo.toUInt64 >>> ((40 : Int32) &&& 0x3f).toInt64.toUInt64).toInt64)).trans (by show _ = own_N lo hi / 1099511627776 % 256; rw [show (((lo.toUInt64 >>> ((40 : Int32) &&& 0x3f).toInt64.toUInt64).toInt64)).toBitVec.toNat = lo.toBitVec.toNat / 2 ^ 40 from own_ushr lo 40 (by decide)]; have := hi.toBitVec.isLt; have := lo.toBitVec.isLt; simp only [own_N]; omega)
  | 6, _ => (own_byte1 ((lo.toUInt64 >>> ((48 : Int32) &&& 0x3f).toInt64.toUInt64).toInt64)).trans (by show _ = own_N lo hi / 281474976710656 % 256; rw [show (((lo.toUInt64 >>> ((48 : Int32) &&& 0x3f).toInt64.toUInt64).toInt64)).toBitVec.toNat = lo.toBitVec.toNat / 2 ^ 48 from own_ushr lo 48 (by decide)]; have := hi.toBitVec.isLt; have := lo.toBitVec.isLt; simp only [own_N]; omega)
  | 7, _ => (own_byte1 ((lo.toUInt64 >>> ((56 : Int32) &&& 0x3f).toInt64.toUInt64).toInt64)).trans (by show _ = own_N lo hi / 72057594037927936 % 256; rw [show (((lo.toUInt64 >>> ((56 : Int32) &&& 0x3f).toInt64.toUInt64).toInt64)).toBitVec.toNat = lo.toBitVec.toNat / 2 ^ 56 from own_ushr lo 56 (by decide)]; have := hi.toBitVec.isLt; have := lo.toBitVec.isLt; simp only [own_N]; omega)
  | 8, _ => (own_byte1 hi).trans (by show _ = own_N lo hi / 18446744073709551616 % 256; have := hi.toBitVec.isLt; have := lo.toBitVec.isLt; simp only [own_N]; omega)
  | 9, _ => (own_byte1 ((hi.toUInt64 >>> ((8 : Int32) &&& 0x3f).toInt64.toUInt64).toInt64)).trans (by show _ = own_N lo hi / 4722366482869645213696 % 256; rw [show (((hi.toUInt64 >>> ((8 : Int32) &&& 0x3f).toInt64.toUInt64).toInt64)).toBitVec.toNat = hi.toBitVec.toNat / 2 ^ 8 from own_ushr hi 8 (by decide)]; have := hi.toBitVec.isLt; have := lo.toBitVec.isLt; simp only [own_N]; omega)
  | 10, _ => (own_byte1 ((hi.toUInt64 >>> ((16 : Int32) &&& 0x3f).toInt64.toUInt64).toInt64)).trans (by show _ = own_N lo hi / 1208925819614629174706176 % 256; rw [show (((hi.toUInt64 >>> ((16 : Int32) &&& 0x3f).toInt64.toUInt64).toInt64)).toBitVec.toNat = hi.toBitVec.toNat / 2 ^ 16 from own_ushr hi 16 (by decide)]; have := hi.toBitVec.isLt; have := lo.toBitVec.isLt; simp only [own_N]; omega)
  | 11, _ => (own_byte1 ((hi.toUInt64 >>> ((24 : Int32) &&& 0x3f).toInt64.toUInt64).toInt64)).trans (by show _ = own_N lo hi / 309485009821345068724781056 % 256; rw [show (((hi.toUInt64 >>> ((24 : Int32) &&& 0x3f).toInt64.toUInt64).toInt64)).toBitVec.toNat = hi.toBitVec.toNat / 2 ^ 24 from own_ushr hi 24 (by decide)]; have := hi.toBitVec.isLt; have := lo.toBitVec.isLt; simp only [own_N]; omega)
  | 12, _ => (own_byte1 ((hi.toUInt64 >>> ((32 : Int32) &&& 0x3f).toInt64.toUInt64).toInt64)).trans (by show _ = own_N lo hi / 79228162514264337593543950336 % 256; rw [show (((hi.toUInt64 >>> ((32 : Int32) &&& 0x3f).toInt64.toUInt64).toInt64)).toBitVec.toNat = hi.toBitVec.toNat / 2 ^ 32 from own_ushr hi 32 (by decide)]; have := hi.toBitVec.isLt; have := lo.toBitVec.isLt; simp only [own_N]; omega)
  | 13, _ => (own_byte1 ((hi.toUInt64 >>> ((40 : Int32) &&& 0x3f).toInt64.toUInt64).toInt64)).trans (by show _ = own_N lo hi / 20282409603651670423947251286016 % 256; rw [show (((hi.toUInt64 >>> ((40 : Int32) &&& 0x3f).toInt64.toUInt64).toInt64)).toBitVec.toNat = hi.toBitVec.toNat / 2 ^ 40 from own_ushr hi 40 (by decide)]; have := hi.toBitVec.isLt; have := lo.toBitVec.isLt; simp only [own_N]; omega)
  | 14, _ => (own_byte1 ((hi.toUInt64 >>> ((48 : Int32) &&& 0x3f).toInt64.toUInt64).toInt64)).trans (by show _ = own_N lo hi / 5192296858534827628530496329220096 % 256; rw [show (((hi.toUInt64 >>> ((48 : Int32) &&& 0x3f).toInt64.toUInt64).toInt64)).toBitVec.toNat = hi.toBitVec.toNat / 2 ^ 48 from own_ushr hi 48 (by decide)]; have := hi.toBitVec.isLt; have := lo.toBitVec.isLt; simp only [own_N]; omega)
  | 15, _ => (own_byte1 ((hi.toUInt64 >>> ((56 : Int32) &&& 0x3f).toInt64.toUInt64).toInt64)).trans (by show _ = own_N lo hi / 1329227995784915872903807060280344576 % 256; rw [show (((hi.toUInt64 >>> ((56 : Int32) &&& 0x3f).toInt64.toUInt64).toInt64)).toBitVec.toNat = hi.toBitVec.toNat / 2 ^ 56 from own_ushr hi 56 (by decide)]; have := hi.toBitVec.isLt; have := lo.toBitVec.isLt; simp only [own_N]; omega)
  | k + 16, hk => absurd hk (by omega)
theorem own_bg (lo hi : Int64) : ∀ (k : Nat) (hk : k < 16), (own_bv lo hi).getD k (.int (0 : Int32)) = .int ((own_bi lo hi).getD k 0)
  | 0, _ => rfl
  | 1, _ => rfl
  | 2, _ => rfl
  | 3, _ => rfl
  | 4, _ => rfl
  | 5, _ => rfl
  | 6, _ => rfl
  | 7, _ => rfl
  | 8, _ => rfl
  | 9, _ => rfl
  | 10, _ => rfl
  | 11, _ => rfl
  | 12, _ => rfl
  | 13, _ => rfl
  | 14, _ => rfl
  | 15, _ => rfl
  | k + 16, hk => absurd hk (by omega)
theorem own_inner {p : Program} {l : Launch} {e : Env} {R : Room} {s : State} {m : MethodId} {args' : Array Value} {below : List Frame} {meth : Method} {c : Code} {T0 : State} {locs : List Loc} {cells slots : Nat} {Z : State} {h0 : Heap} (X0 : Stand p l e R s m args' below meth c T0 locs cells slots) (hx : p.tables.exec = Jvm.exec) (hZ : Z.Warmed39 s.vm) (hby : c.code = prog_21_method_5_code) (e0 : T0.heap = h0) (a : Addr) (ka : ClassId) (o : Addr) (lo hi : Int64) (m6 : Int64) (fr w cn os : Nat) (hfr : fr ≤ 3) (hw : w ≤ 32) (hcn : cn ≤ 3) (hos : os ≤ 3) (V_a : Arv Z h0 a ka .byte (16 : Int32) (own_bv lo hi) (.int (0 : Int32))) (ii : Nat) (hii : ii < cn) (pos : Nat) (hpos : pos = 8 * fr + ii * w) : ∀ (g : Nat) (d8 : Int64) (bt at_ : Nat), w ≤ bt + g → bt ≤ w + 7 → d8.toBitVec.toNat = own_N lo hi / 2 ^ pos % 2 ^ bt → 8 * at_ = pos + bt →
    ∃ (d8' : Int64) (bt' at' : Nat), w ≤ bt' ∧ bt' ≤ w + 7 ∧ d8'.toBitVec.toNat = own_N lo hi / 2 ^ pos % 2 ^ bt' ∧ 8 * at' = pos + bt' ∧ own_Rch p.tables e below (T0.setTop (mkF m 25 #[.val (.ref a), .val (.int (Int32.ofNat fr)), .val (.int (Int32.ofNat w)), .val (.int (Int32.ofNat cn)), .val (.ref o), .val (.int (Int32.ofNat os)), .val (.long m6), .second, .val (.long d8), .second, .val (.int (Int32.ofNat bt)), .val (.int (Int32.ofNat at_)), .val (.int (Int32.ofNat ii))] [])) (T0.setTop (mkF m 57 #[.val (.ref a), .val (.int (Int32.ofNat fr)), .val (.int (Int32.ofNat w)), .val (.int (Int32.ofNat cn)), .val (.ref o), .val (.int (Int32.ofNat os)), .val (.long m6), .second, .val (.long d8'), .second, .val (.int (Int32.ofNat bt')), .val (.int (Int32.ofNat at')), .val (.int (Int32.ofNat ii))] [])) := by
  intro g
  have hm : ii * w ≤ 2 * 32 := Nat.mul_le_mul (by omega) hw
  have exit : ∀ (d8 : Int64) (bt at_ : Nat), w ≤ bt → bt ≤ w + 7 → d8.toBitVec.toNat = own_N lo hi / 2 ^ pos % 2 ^ bt → 8 * at_ = pos + bt →
      ∃ (d8' : Int64) (bt' at' : Nat), w ≤ bt' ∧ bt' ≤ w + 7 ∧ d8'.toBitVec.toNat = own_N lo hi / 2 ^ pos % 2 ^ bt' ∧ 8 * at' = pos + bt' ∧ own_Rch p.tables e below (T0.setTop (mkF m 25 #[.val (.ref a), .val (.int (Int32.ofNat fr)), .val (.int (Int32.ofNat w)), .val (.int (Int32.ofNat cn)), .val (.ref o), .val (.int (Int32.ofNat os)), .val (.long m6), .second, .val (.long d8), .second, .val (.int (Int32.ofNat bt)), .val (.int (Int32.ofNat at_)), .val (.int (Int32.ofNat ii))] [])) (T0.setTop (mkF m 57 #[.val (.ref a), .val (.int (Int32.ofNat fr)), .val (.int (Int32.ofNat w)), .val (.int (Int32.ofNat cn)), .val (.ref o), .val (.int (Int32.ofNat os)), .val (.long m6), .second, .val (.long d8'), .second, .val (.int (Int32.ofNat bt')), .val (.int (Int32.ofNat at')), .val (.int (Int32.ofNat ii))] [])) := fun d8 bt at_ h1 h2 h3 h4 =>
    ⟨d8, bt, at_, h1, h2, h3, h4, sgC X0 hx hZ hby e0 a ka o lo hi (Int32.ofNat fr) (Int32.ofNat w) (Int32.ofNat cn) (Int32.ofNat os) m6 d8 (Int32.ofNat bt) (Int32.ofNat at_) (Int32.ofNat ii) (by rw [own_of (by omega) (by omega)]; omega)⟩
  induction g with
  | zero => intro d8 bt at_ h1 h2 h3 h4; exact exit d8 bt at_ (by omega) h2 h3 h4
  | succ g ih =>
    intro d8 bt at_ h1 h2 h3 h4
    by_cases q : w ≤ bt
    · exact exit d8 bt at_ q h2 h3 h4
    · have hat : at_ < 16 := by omega
      have hu := own_bg lo hi at_ hat
      have hb := own_bb lo hi at_ hat
      have e8 := own_held (N := own_N lo hi) (pos := pos) (bt := bt) (at_ := at_) (by omega) h4 h3 hb
      obtain ⟨d8', bt', at', k1, k2, k3, k4, K⟩ := ih (d8 ||| ((((own_bi lo hi).getD at_ 0) &&& 255).toInt64 <<< (Int32.ofNat bt &&& 0x3f).toInt64)) (bt + 8) (at_ + 1) (by omega) (by omega) e8 (by omega)
      refine ⟨d8', bt', at', k1, k2, k3, k4, fun t k => ?_⟩
      have D := sgD X0 hx hZ hby e0 a ka o lo hi (Int32.ofNat fr) (Int32.ofNat w) (Int32.ofNat cn) (Int32.ofNat os) m6 d8 (Int32.ofNat bt) (Int32.ofNat at_) (Int32.ofNat ii) ((own_bi lo hi).getD at_ 0) V_a (own_nn (by omega)) (by rw [show (16 : Int32) = Int32.ofNat 16 from rfl, own_of (by omega) (by omega)]; omega) (by rw [own_ix (by omega)]; exact hu) (by rw [own_of (by omega) (by omega)]; omega)
      rw [own_add8, own_add1] at D
      exact D t (K t k)
theorem own_outer {p : Program} {l : Launch} {e : Env} {R : Room} {s : State} {m : MethodId} {args' : Array Value} {below : List Frame} {meth : Method} {c : Code} {cells slots : Nat} {Z : State} {h0 : Heap} {n0 : Nat} (hx : p.tables.exec = Jvm.exec) (hZ : Z.Warmed39 s.vm) (hby : c.code = prog_21_method_5_code) (a : Addr) (ka : ClassId) (o : Addr) (lo hi : Int64) (m6 : Int64) (fr w cn os : Nat) (hfr : fr ≤ 3) (hw : w ≤ 32) (hcn : cn ≤ 3) (hos : os ≤ 3) (ko : ClassId) (hne : a ≠ o) (g_o : n0 ≤ o) (hm6 : m6 = ((1 : Int64) <<< (Int32.ofNat w &&& 0x3f).toInt64) - 1) : ∀ (r ii : Nat), ii + r = cn → ∀ (T0 : State) (locs : List Loc) (h : Heap) (d8 : Int64) (bt at_ : Nat), Stand p l e R s m args' below meth c T0 locs cells slots → T0.heap = h → Arv Z h a ka .byte (16 : Int32) (own_bv lo hi) (.int (0 : Int32)) → Arv Z h o ko .int (6 : Int32) (own_fill (own_N lo hi) fr w ii os) (.int (0 : Int32)) → Fr n0 locs → Keep h0 h [o] → bt ≤ 7 → d8.toBitVec.toNat = own_N lo hi / 2 ^ (8 * fr + ii * w) % 2 ^ bt → 8 * at_ = (8 * fr + ii * w) + bt →
    ∃ (T' : State) (locs' : List Loc) (h' : Heap) (d8' : Int64) (x10 x11 x12 : Int32), Stand p l e R s m args' below meth c T' locs' cells slots ∧ T'.heap = h' ∧ Arv Z h' o ko .int (6 : Int32) (own_fill (own_N lo hi) fr w cn os) (.int (0 : Int32)) ∧ Fr n0 locs' ∧ Keep h0 h' [o] ∧ own_Rch p.tables e below (T0.setTop (mkF m 19 #[.val (.ref a), .val (.int (Int32.ofNat fr)), .val (.int (Int32.ofNat w)), .val (.int (Int32.ofNat cn)), .val (.ref o), .val (.int (Int32.ofNat os)), .val (.long m6), .second, .val (.long d8), .second, .val (.int (Int32.ofNat bt)), .val (.int (Int32.ofNat at_)), .val (.int (Int32.ofNat ii))] [])) (T'.setTop (mkF m 89 #[.val (.ref a), .val (.int (Int32.ofNat fr)), .val (.int (Int32.ofNat w)), .val (.int (Int32.ofNat cn)), .val (.ref o), .val (.int (Int32.ofNat os)), .val (.long m6), .second, .val (.long d8'), .second, .val (.int x10), .val (.int x11), .val (.int x12)] [])) := by
  intro r
  induction r with
  | zero =>
    intro ii hr T0 locs h d8 bt at_ X eh Va Vo N K hb hd h8
    have hi' : cn = ii := by omega
    subst hi'
    exact ⟨T0, locs, h, d8, _, _, _, X, eh, Vo, N, K, sgB X hx hZ hby eh a ka o lo hi (Int32.ofNat fr) (Int32.ofNat w) (Int32.ofNat cn) (Int32.ofNat os) m6 d8 (Int32.ofNat bt) (Int32.ofNat at_) (Int32.ofNat cn) (by rw [own_of (by omega) (by omega)]; omega)⟩
  | succ r ih =>
    intro ii hr T0 locs h d8 bt at_ X eh Va Vo N K hb hd h8
    have A := sgA X hx hZ hby eh a ka o lo hi (Int32.ofNat fr) (Int32.ofNat w) (Int32.ofNat cn) (Int32.ofNat os) m6 d8 (Int32.ofNat bt) (Int32.ofNat at_) (Int32.ofNat ii) (by rw [own_of (by omega) (by omega)]; omega)
    obtain ⟨d1, b1, t1, k1, k2, k3, k4, K1⟩ := own_inner X hx hZ hby eh a ka o lo hi m6 fr w cn os hfr hw hcn hos Va ii (by omega) (8 * fr + ii * w) rfl 40 d8 bt at_ (by omega) (by omega) hd h8
    have hj : Int32.ofNat os + Int32.ofNat ii = Int32.ofNat (os + ii) := own_add2 os ii
    obtain ⟨T1, h1, X1, e1, W1, V1, K2⟩ := sgE X hx hZ hby eh a ka o lo hi (Int32.ofNat fr) (Int32.ofNat w) (Int32.ofNat cn) (Int32.ofNat os) m6 d1 (Int32.ofNat b1) (Int32.ofNat t1) (Int32.ofNat ii) Vo (by rw [hj]; exact own_nn (by omega)) (by rw [hj, show (6 : Int32) = Int32.ofNat 6 from rfl, own_of (by omega) (by omega)]; omega) (os + ii) (by rw [hj, own_ix (by omega)]) (by simp [own_fill]; omega)
    rw [own_val k1 hw k3 hm6, own_fillS _ _ _ _ _ (by omega)] at V1
    have e3 := own_shift k1 (by omega) k3
    have em : 8 * fr + ii * w + w = 8 * fr + (ii + 1) * w := by rw [Nat.add_mul]; omega
    rw [em] at e3
    obtain ⟨T', locs', h', d8', x10, x11, x12, q1, q2, q3, q4, q5, K3⟩ := ih (ii + 1) (by omega) T1 _ h1 _ (b1 - w) t1 X1 e1 (Va.other W1 hne) V1 (Fr.snoc X1 N g_o) (K.wr W1 (Or.inl (List.mem_of_getElem? (i := 0) rfl))) (by omega) e3 (by omega)
    rw [own_sub2 k1, own_add1] at K2
    exact ⟨T', locs', h', d8', x10, x11, x12, q1, q2, q3, q4, q5, fun t k => A t (K1 t (K2 t (K3 t k)))⟩
theorem pn_1 : plainName "tidemark/format/ParquetRunLengths" = true := by first | (simp [plainName, overriddenIn]; done) | decide +kernel
theorem ef_1 (m : MethodId) (a : Addr) (o : Addr) : entryFrame m #[(.ref a), (.int (Int32.ofNat fr)), (.int (Int32.ofNat w)), (.int (Int32.ofNat cn)), (.ref o), (.int (Int32.ofNat os))] 13 = mkF m 0 #[.val (.ref a), .val (.int (Int32.ofNat fr)), .val (.int (Int32.ofNat w)), .val (.int (Int32.ofNat cn)), .val (.ref o), .val (.int (Int32.ofNat os)), .unset, .unset, .unset, .unset, .unset, .unset, .unset] [] := by first | (simp [entryFrame, mkF, argsToLocals, Value.category]; done) | rfl
def Q1 (Z : State) (a : Addr) (ka : ClassId) (o : Addr) (ko : ClassId) (lo : Int64) (hi : Int64) (fr : Nat) (w : Nat) (cn : Nat) (os : Nat) (h0 : Heap) (n0 : Nat) (v : Option Value) (h : Heap) (L : List Loc) : Prop := v = none ∧ Fr n0 L ∧ Keep h0 h [o] ∧ Arv Z h o ko .int (6 : Int32) (own_fill (own_N lo hi) fr w cn os) (.int (0 : Int32))
set_option maxRecDepth 65536 in
set_option maxHeartbeats 40000000 in
theorem rm1 (l : Launch) (Z : State) (a0 : Array Value) (hw : ∀ d ∈ tables_1, d.before a0 Z = true) (ws : List Jvm.Cond) (a : Addr) (ka : ClassId) (o : Addr) (ko : ClassId) (lo : Int64) (hi : Int64) (fr : Nat) (w : Nat) (cn : Nat) (os : Nat) (h0 : Heap) (n0 : Nat) (Z0 : n0 ≤ h0.size) (V_a : Arv Z h0 a ka .byte (16 : Int32) (own_bv lo hi) (.int (0 : Int32))) (V_o : Arv Z h0 o ko .int (6 : Int32) [(.int (1515870810 : Int32)), (.int (1515870810 : Int32)), (.int (1515870810 : Int32)), (.int (1515870810 : Int32)), (.int (1515870810 : Int32)), (.int (1515870810 : Int32))] (.int (0 : Int32))) (hne : a ≠ o) (g_o : n0 ≤ o) (hfr : fr ≤ 3) (h32 : w ≤ 32) (hcn : cn ≤ 3) (hos : os ≤ 3) :
    MetFree l (⟨"tidemark/format/ParquetRunLengths", "unpack", "([BIII[II)V"⟩ : MethodName) (head1 (Jvm.Cond.code (⟨"tidemark/format/ParquetRunLengths", "unpack", "([BIII[II)V"⟩ : MethodName) prog_21_method_5_code 13 none :: ws) ({ frames := 0, cells := 0, slots := 0, locals := 0 } : Room)) (fun a' U => a' = #[(.ref a), (.int (Int32.ofNat fr)), (.int (Int32.ofNat w)), (.int (Int32.ofNat cn)), (.ref o), (.int (Int32.ofNat os))] ∧ Z.Warmed39 U.vm ∧ U.heap = h0) (fun _ _ _ _ _ => True) (fun _ U o' U' => ∃ v L, o' = .returned v ∧ Q1 Z a ka o ko lo hi fr w cn os h0 n0 v U'.heap L ∧ FrameEnd U o' U' L ({ frames := 0, cells := 0, slots := 0, locals := 0 } : Room).cells ({ frames := 0, cells := 0, slots := 0, locals := 0 } : Room).slots) := by
  refine MetFree.of_bodySF (plainFor_of_name pn_1) hisR ?_
  intro p e s m args' below meth c s₁ Bd hml0 hP hK
  obtain ⟨hargs, hZ, hh⟩ := hP
  have hx := Bd.exec
  have hby := Bd.bytes
  have hml : c.maxLocals = 13 := hml0
  have hown : s.vm.findClass "tidemark/format/ParquetRunLengths" = some m.cls := findClass_of_methodNamed Bd.named
  have hnm := (name_of_methodNamed Bd.named Bd.method).1
  have X0 : Stand p l e ({ frames := 0, cells := 0, slots := 0, locals := 0 } : Room) s m args' below meth c s₁ [] 0 0 := Stand.of_body Bd
  have e0 : s₁.heap = h0 := by rw [← hh, Bd.state]; rfl
  have N0 := Fr.nil n0
  obtain ⟨A0, hA0⟩ : ∃ A, A = s₁.setTop (mkF m 0 #[.val (.ref a), .val (.int (Int32.ofNat fr)), .val (.int (Int32.ofNat w)), .val (.int (Int32.ofNat cn)), .val (.ref o), .val (.int (Int32.ofNat os)), .unset, .unset, .unset, .unset, .unset, .unset, .unset] []) := ⟨_, rfl⟩
  have P0 : own_Rch p.tables e below A0 (s₁.setTop (mkF m 0 #[.val (.ref a), .val (.int (Int32.ofNat fr)), .val (.int (Int32.ofNat w)), .val (.int (Int32.ofNat cn)), .val (.ref o), .val (.int (Int32.ofNat os)), .unset, .unset, .unset, .unset, .unset, .unset, .unset] [])) := fun t k => hA0 ▸ k
  have P00 : own_Rch p.tables e below (s₁.setTop (entryFrame m args' 13)) A0 := fun t k => by rw [hargs]; exact castTop (ef_1 m a o) (hA0 ▸ k)
  have P1 : own_Rch p.tables e below A0 (s₁.setTop (mkF m 19 #[.val (.ref a), .val (.int (Int32.ofNat fr)), .val (.int (Int32.ofNat w)), .val (.int (Int32.ofNat cn)), .val (.ref o), .val (.int (Int32.ofNat os)), .val (.long (((1 : Int64) <<< ((Int32.ofNat w) &&& 0x3f).toInt64) - (1 : Int64))), .second, .val (.long (0 : Int64)), .second, .val (.int (0 : Int32)), .val (.int (Int32.ofNat fr)), .val (.int (0 : Int32))] [])) := fun t k => P0 t (by
    show Steps p.tables e below (s₁.setTop (mkF m 0 #[.val (.ref a), .val (.int (Int32.ofNat fr)), .val (.int (Int32.ofNat w)), .val (.int (Int32.ofNat cn)), .val (.ref o), .val (.int (Int32.ofNat os)), .unset, .unset, .unset, .unset, .unset, .unset, .unset] [])) _
    refine XS.lconst X0.here hx rfl (hb hby d1_0) ?_
    show Steps p.tables e below (s₁.setTop (mkF m 1 #[.val (.ref a), .val (.int (Int32.ofNat fr)), .val (.int (Int32.ofNat w)), .val (.int (Int32.ofNat cn)), .val (.ref o), .val (.int (Int32.ofNat os)), .unset, .unset, .unset, .unset, .unset, .unset, .unset] [(.long (1 : Int64))])) _
    refine XS.iloadN X0.here hx rfl (hb hby d1_1) rfl ?_
    show Steps p.tables e below (s₁.setTop (mkF m 2 #[.val (.ref a), .val (.int (Int32.ofNat fr)), .val (.int (Int32.ofNat w)), .val (.int (Int32.ofNat cn)), .val (.ref o), .val (.int (Int32.ofNat os)), .unset, .unset, .unset, .unset, .unset, .unset, .unset] [(.int (Int32.ofNat w)), (.long (1 : Int64))])) _
    refine XS.lshl X0.here hx rfl (hb hby d1_2) rfl ?_
    show Steps p.tables e below (s₁.setTop (mkF m 3 #[.val (.ref a), .val (.int (Int32.ofNat fr)), .val (.int (Int32.ofNat w)), .val (.int (Int32.ofNat cn)), .val (.ref o), .val (.int (Int32.ofNat os)), .unset, .unset, .unset, .unset, .unset, .unset, .unset] [(.long ((1 : Int64) <<< ((Int32.ofNat w) &&& 0x3f).toInt64))])) _
    refine XS.lconst X0.here hx rfl (hb hby d1_3) ?_
    show Steps p.tables e below (s₁.setTop (mkF m 4 #[.val (.ref a), .val (.int (Int32.ofNat fr)), .val (.int (Int32.ofNat w)), .val (.int (Int32.ofNat cn)), .val (.ref o), .val (.int (Int32.ofNat os)), .unset, .unset, .unset, .unset, .unset, .unset, .unset] [(.long (1 : Int64)), (.long ((1 : Int64) <<< ((Int32.ofNat w) &&& 0x3f).toInt64))])) _
    refine XS.lsub X0.here hx rfl (hb hby d1_4) rfl ?_
    show Steps p.tables e below (s₁.setTop (mkF m 5 #[.val (.ref a), .val (.int (Int32.ofNat fr)), .val (.int (Int32.ofNat w)), .val (.int (Int32.ofNat cn)), .val (.ref o), .val (.int (Int32.ofNat os)), .unset, .unset, .unset, .unset, .unset, .unset, .unset] [(.long (((1 : Int64) <<< ((Int32.ofNat w) &&& 0x3f).toInt64) - (1 : Int64)))])) _
    refine XS.lstore X0.here hx rfl (hb hby d1_5) rfl (l' := #[.val (.ref a), .val (.int (Int32.ofNat fr)), .val (.int (Int32.ofNat w)), .val (.int (Int32.ofNat cn)), .val (.ref o), .val (.int (Int32.ofNat os)), .val (.long (((1 : Int64) <<< ((Int32.ofNat w) &&& 0x3f).toInt64) - (1 : Int64))), .second, .unset, .unset, .unset, .unset, .unset]) rfl ?_
    show Steps p.tables e below (s₁.setTop (mkF m 7 #[.val (.ref a), .val (.int (Int32.ofNat fr)), .val (.int (Int32.ofNat w)), .val (.int (Int32.ofNat cn)), .val (.ref o), .val (.int (Int32.ofNat os)), .val (.long (((1 : Int64) <<< ((Int32.ofNat w) &&& 0x3f).toInt64) - (1 : Int64))), .second, .unset, .unset, .unset, .unset, .unset] [])) _
    refine XS.lconst X0.here hx rfl (hb hby d1_7) ?_
    show Steps p.tables e below (s₁.setTop (mkF m 8 #[.val (.ref a), .val (.int (Int32.ofNat fr)), .val (.int (Int32.ofNat w)), .val (.int (Int32.ofNat cn)), .val (.ref o), .val (.int (Int32.ofNat os)), .val (.long (((1 : Int64) <<< ((Int32.ofNat w) &&& 0x3f).toInt64) - (1 : Int64))), .second, .unset, .unset, .unset, .unset, .unset] [(.long (0 : Int64))])) _
    refine XS.lstore X0.here hx rfl (hb hby d1_8) rfl (l' := #[.val (.ref a), .val (.int (Int32.ofNat fr)), .val (.int (Int32.ofNat w)), .val (.int (Int32.ofNat cn)), .val (.ref o), .val (.int (Int32.ofNat os)), .val (.long (((1 : Int64) <<< ((Int32.ofNat w) &&& 0x3f).toInt64) - (1 : Int64))), .second, .val (.long (0 : Int64)), .second, .unset, .unset, .unset]) rfl ?_
    show Steps p.tables e below (s₁.setTop (mkF m 10 #[.val (.ref a), .val (.int (Int32.ofNat fr)), .val (.int (Int32.ofNat w)), .val (.int (Int32.ofNat cn)), .val (.ref o), .val (.int (Int32.ofNat os)), .val (.long (((1 : Int64) <<< ((Int32.ofNat w) &&& 0x3f).toInt64) - (1 : Int64))), .second, .val (.long (0 : Int64)), .second, .unset, .unset, .unset] [])) _
    refine XS.iconst X0.here hx rfl (hb hby d1_10) ?_
    show Steps p.tables e below (s₁.setTop (mkF m 11 #[.val (.ref a), .val (.int (Int32.ofNat fr)), .val (.int (Int32.ofNat w)), .val (.int (Int32.ofNat cn)), .val (.ref o), .val (.int (Int32.ofNat os)), .val (.long (((1 : Int64) <<< ((Int32.ofNat w) &&& 0x3f).toInt64) - (1 : Int64))), .second, .val (.long (0 : Int64)), .second, .unset, .unset, .unset] [(.int (0 : Int32))])) _
    refine XS.istore X0.here hx rfl (hb hby d1_11) rfl (l' := #[.val (.ref a), .val (.int (Int32.ofNat fr)), .val (.int (Int32.ofNat w)), .val (.int (Int32.ofNat cn)), .val (.ref o), .val (.int (Int32.ofNat os)), .val (.long (((1 : Int64) <<< ((Int32.ofNat w) &&& 0x3f).toInt64) - (1 : Int64))), .second, .val (.long (0 : Int64)), .second, .val (.int (0 : Int32)), .unset, .unset]) rfl ?_
    show Steps p.tables e below (s₁.setTop (mkF m 13 #[.val (.ref a), .val (.int (Int32.ofNat fr)), .val (.int (Int32.ofNat w)), .val (.int (Int32.ofNat cn)), .val (.ref o), .val (.int (Int32.ofNat os)), .val (.long (((1 : Int64) <<< ((Int32.ofNat w) &&& 0x3f).toInt64) - (1 : Int64))), .second, .val (.long (0 : Int64)), .second, .val (.int (0 : Int32)), .unset, .unset] [])) _
    refine XS.iloadN X0.here hx rfl (hb hby d1_13) rfl ?_
    show Steps p.tables e below (s₁.setTop (mkF m 14 #[.val (.ref a), .val (.int (Int32.ofNat fr)), .val (.int (Int32.ofNat w)), .val (.int (Int32.ofNat cn)), .val (.ref o), .val (.int (Int32.ofNat os)), .val (.long (((1 : Int64) <<< ((Int32.ofNat w) &&& 0x3f).toInt64) - (1 : Int64))), .second, .val (.long (0 : Int64)), .second, .val (.int (0 : Int32)), .unset, .unset] [(.int (Int32.ofNat fr))])) _
    refine XS.istore X0.here hx rfl (hb hby d1_14) rfl (l' := #[.val (.ref a), .val (.int (Int32.ofNat fr)), .val (.int (Int32.ofNat w)), .val (.int (Int32.ofNat cn)), .val (.ref o), .val (.int (Int32.ofNat os)), .val (.long (((1 : Int64) <<< ((Int32.ofNat w) &&& 0x3f).toInt64) - (1 : Int64))), .second, .val (.long (0 : Int64)), .second, .val (.int (0 : Int32)), .val (.int (Int32.ofNat fr)), .unset]) rfl ?_
    show Steps p.tables e below (s₁.setTop (mkF m 16 #[.val (.ref a), .val (.int (Int32.ofNat fr)), .val (.int (Int32.ofNat w)), .val (.int (Int32.ofNat cn)), .val (.ref o), .val (.int (Int32.ofNat os)), .val (.long (((1 : Int64) <<< ((Int32.ofNat w) &&& 0x3f).toInt64) - (1 : Int64))), .second, .val (.long (0 : Int64)), .second, .val (.int (0 : Int32)), .val (.int (Int32.ofNat fr)), .unset] [])) _
    refine XS.iconst X0.here hx rfl (hb hby d1_16) ?_
    show Steps p.tables e below (s₁.setTop (mkF m 17 #[.val (.ref a), .val (.int (Int32.ofNat fr)), .val (.int (Int32.ofNat w)), .val (.int (Int32.ofNat cn)), .val (.ref o), .val (.int (Int32.ofNat os)), .val (.long (((1 : Int64) <<< ((Int32.ofNat w) &&& 0x3f).toInt64) - (1 : Int64))), .second, .val (.long (0 : Int64)), .second, .val (.int (0 : Int32)), .val (.int (Int32.ofNat fr)), .unset] [(.int (0 : Int32))])) _
    refine XS.istore X0.here hx rfl (hb hby d1_17) rfl (l' := #[.val (.ref a), .val (.int (Int32.ofNat fr)), .val (.int (Int32.ofNat w)), .val (.int (Int32.ofNat cn)), .val (.ref o), .val (.int (Int32.ofNat os)), .val (.long (((1 : Int64) <<< ((Int32.ofNat w) &&& 0x3f).toInt64) - (1 : Int64))), .second, .val (.long (0 : Int64)), .second, .val (.int (0 : Int32)), .val (.int (Int32.ofNat fr)), .val (.int (0 : Int32))]) rfl ?_
    exact k)
  obtain ⟨T', locs', h', d8', x10, x11, x12, X', e', V', N', K', R'⟩ := own_outer hx hZ hby a ka o lo hi _ fr w cn os hfr h32 hcn hos ko hne g_o rfl cn 0 (by omega) s₁ [] h0 0 0 fr X0 e0 V_a (by rw [own_fill0]; exact V_o) N0 (Keep.refl _ _) (by omega) (by simp [Nat.mod_one]) (by omega)
  have P2 : own_Rch p.tables e below A0 (T'.setTop (mkF m 89 #[.val (.ref a), .val (.int (Int32.ofNat fr)), .val (.int (Int32.ofNat w)), .val (.int (Int32.ofNat cn)), .val (.ref o), .val (.int (Int32.ofNat os)), .val (.long (((1 : Int64) <<< ((Int32.ofNat w) &&& 0x3f).toInt64) - (1 : Int64))), .second, .val (.long d8'), .second, .val (.int x10), .val (.int x11), .val (.int x12)] [])) := fun t k => P1 t (R' t k)
  obtain ⟨fs, hr, hrun, hended, hW, hsame⟩ := X'.leave (v := none) (fun _ => rfl)
  refine ⟨_, _, P00 _ (P2 _ ?_), hrun, hended, _, _, rfl, ?_, ⟨_, rfl⟩, hW, hsame.mono (by decide) (by decide)⟩
  · exact X'.returnOut hx Bd.returns (hb hby d1_89) hr
  · show Q1 Z a ka o ko lo hi fr w cn os h0 n0 _ T'.heap _
    rw [e']
    exact ⟨rfl, N', K', V'⟩
def own_rd (N fr w cn os j : Nat) : Int32 := if os ≤ j ∧ j < os + cn then Int32.ofNat (N / 2 ^ (8 * fr + (j - os) * w) % 2 ^ w) else 1515870810
theorem own_N_hi (lo hi : Int64) : own_N lo hi / 2 ^ 64 = hi.toBitVec.toNat := by
  have := lo.toBitVec.isLt
  unfold own_N; omega
theorem own_N_lo (lo hi : Int64) (p : Nat) (hp : p ≤ 64) : own_N lo hi / 2 ^ p = lo.toBitVec.toNat / 2 ^ p + hi.toBitVec.toNat * 2 ^ (64 - p) := by
  have e : 2 ^ 64 * hi.toBitVec.toNat = 2 ^ p * (hi.toBitVec.toNat * 2 ^ (64 - p)) := by
    have : (2 : Nat) ^ 64 = 2 ^ p * 2 ^ (64 - p) := by rw [← Nat.pow_add]; congr 1; omega
    rw [this, Nat.mul_assoc, Nat.mul_comm (2 ^ (64 - p))]
  unfold own_N
  rw [e, Nat.add_mul_div_left _ _ (Nat.two_pow_pos p)]
theorem own_fieldv (lo hi : Int64) (pos w : Nat) (hp : pos ≤ 96) (hw : w ≤ 32) : (own_field lo hi (Int32.ofNat pos) (Int32.ofNat w)).toBitVec.toNat = own_N lo hi / 2 ^ pos % 2 ^ w := by
  have c1 : (Int32.ofNat pos < 64) = (pos < 64) := by rw [show (64 : Int32) = Int32.ofNat 64 from rfl, own_of (by omega) (by omega)]
  have c2 : (64 < Int32.ofNat pos + Int32.ofNat w) = (64 < pos + w) := by rw [own_add2, show (64 : Int32) = Int32.ofNat 64 from rfl, own_of (by omega) (by omega)]
  simp only [own_field, c1, c2]
  by_cases h1 : pos < 64
  · rw [if_pos h1]
    by_cases h2 : 64 < pos + w
    · rw [if_pos h2, own_and _ w (by omega), Int64.toBitVec_or, BitVec.toNat_or, own_ushr lo pos h1]
      have e1 : (64 : Int32) - Int32.ofNat pos = Int32.ofNat (64 - pos) := by rw [show (64 : Int32) = Int32.ofNat 64 from rfl, own_sub2 (by omega)]
      rw [e1, own_shl hi (64 - pos) (by omega), own_N_lo lo hi pos (by omega)]
      have l1 : lo.toBitVec.toNat / 2 ^ pos < 2 ^ (64 - pos) := by
        rw [Nat.div_lt_iff_lt_mul (Nat.two_pow_pos pos), ← Nat.pow_add, show 64 - pos + pos = 64 by omega]; exact lo.toBitVec.isLt
      have e2 : hi.toBitVec.toNat * 2 ^ (64 - pos) % 2 ^ 64 = (hi.toBitVec.toNat % 2 ^ pos) * 2 ^ (64 - pos) := by
        have : (2 : Nat) ^ 64 = 2 ^ pos * 2 ^ (64 - pos) := by rw [← Nat.pow_add]; congr 1; omega
        rw [this, Nat.mul_mod_mul_right]
      rw [e2, own_disj l1, ← e2]
      have d : (2 : Nat) ^ w ∣ 2 ^ 64 := Nat.pow_dvd_pow 2 (by omega)
      rw [Nat.add_mod, Nat.mod_mod_of_dvd _ d, ← Nat.add_mod]
    · rw [if_neg h2, own_and _ w (by omega), own_ushr lo pos h1, own_N_lo lo hi pos (by omega)]
      have e : hi.toBitVec.toNat * 2 ^ (64 - pos) = 2 ^ w * (hi.toBitVec.toNat * 2 ^ (64 - pos - w)) := by
        have : (2 : Nat) ^ (64 - pos) = 2 ^ w * 2 ^ (64 - pos - w) := by rw [← Nat.pow_add]; congr 1; omega
        rw [this, Nat.mul_left_comm]
      rw [e, Nat.add_mul_mod_self_left]
  · rw [if_neg h1, own_and _ w (by omega)]
    have e1 : Int32.ofNat pos - 64 = Int32.ofNat (pos - 64) := by rw [show (64 : Int32) = Int32.ofNat 64 from rfl, own_sub2 (by omega)]
    rw [e1, own_ushr hi (pos - 64) (by omega), ← own_N_hi lo hi, Nat.div_div_eq_div_mul, ← Nat.pow_add, show 64 + (pos - 64) = pos by omega]
theorem own_cmp (lo hi : Int64) (fr w cn os j : Nat) (hfr : fr ≤ 3) (hw : w ≤ 32) (hcn : cn ≤ 3) (hos : os ≤ 3) (hj : j ≤ 5) : own_rd (own_N lo hi) fr w cn os j = own_expect (Int32.ofNat j) lo hi (Int32.ofNat fr) (Int32.ofNat w) (Int32.ofNat cn) (Int32.ofNat os) := by
  have c1 : (Int32.ofNat j < Int32.ofNat os) = (j < os) := own_of (by omega) (by omega)
  have c2 : (Int32.ofNat j < Int32.ofNat os + Int32.ofNat cn) = (j < os + cn) := by rw [own_add2, own_of (by omega) (by omega)]
  simp only [own_expect, own_rd, c1, c2]
  by_cases h1 : j < os
  · rw [if_pos h1, if_neg (by omega)]
  · rw [if_neg h1]
    by_cases h2 : j < os + cn
    · have b : (j - os) * w ≤ 2 * 32 := Nat.mul_le_mul (by omega) hw
      rw [if_pos h2, if_pos ⟨by omega, h2⟩]
      have e : Int32.ofNat fr * 8 + (Int32.ofNat j - Int32.ofNat os) * Int32.ofNat w = Int32.ofNat (8 * fr + (j - os) * w) := by
        rw [own_sub2 (by omega), show (8 : Int32) = Int32.ofNat 8 from rfl, ← Int32.ofNat_mul, ← Int32.ofNat_mul, own_add2, Nat.mul_comm fr 8]
      rw [e]
      apply Int32.toBitVec_inj.mp
      apply BitVec.eq_of_toNat_eq
      have l : (own_field lo hi (Int32.ofNat (8 * fr + (j - os) * w)) (Int32.ofNat w)).toInt32.toBitVec.toNat = (own_field lo hi (Int32.ofNat (8 * fr + (j - os) * w)) (Int32.ofNat w)).toBitVec.toNat % 2 ^ 32 := own_t32 _
      have r : (Int32.ofNat (own_N lo hi / 2 ^ (8 * fr + (j - os) * w) % 2 ^ w)).toBitVec.toNat = (own_N lo hi / 2 ^ (8 * fr + (j - os) * w) % 2 ^ w) % 2 ^ 32 := by simp
      rw [l, r, own_fieldv lo hi _ w (by omega) hw]
    · rw [if_neg h2, if_neg (by omega)]
theorem own_mask32 (s : Int32) : 0 ≤ (s &&& 2147483647).toInt := by
  have h : (s &&& 2147483647).toBitVec.msb = false := by
    rw [Int32.toBitVec_and, BitVec.msb_and]; exact Bool.and_false _
  show 0 ≤ (s &&& 2147483647).toBitVec.toInt
  rw [BitVec.toInt_eq_toNat_of_msb h]; exact Int.natCast_nonneg _
theorem own_rem (s : Int32) (k : Int32) (hk : 0 < k.toInt) : 0 ≤ ((s &&& 2147483647) % k).toInt ∧ ((s &&& 2147483647) % k).toInt < k.toInt := by
  have h0 := own_mask32 s
  rw [Int32.toInt_mod, Int.tmod_eq_emod_of_nonneg h0]
  exact ⟨Int.emod_nonneg _ (by omega), Int.emod_lt_of_pos _ hk⟩
theorem own_small (x k : Int32) (n : Nat) (hk : k.toInt = n + 1) : ∃ j, j ≤ n ∧ (x &&& 2147483647) % k = Int32.ofNat j := by
  have h := own_rem x k (by omega)
  have h2 : k.toInt ≤ 2147483647 := by have := Int32.toInt_lt k; omega
  refine ⟨((x &&& 2147483647) % k).toInt.toNat, by omega, ?_⟩
  apply Int32.toInt_inj.mp
  rw [Int32.toInt_ofNat_of_lt (by omega)]; omega
theorem own_and3 (x : Int32) : ∃ n, n ≤ 3 ∧ x &&& 3 = Int32.ofNat n := by
  refine ⟨(x &&& 3).toBitVec.toNat, ?_, ?_⟩
  · rw [Int32.toBitVec_and, BitVec.toNat_and]
    exact Nat.and_le_right
  · apply Int32.toBitVec_inj.mp; simp
theorem own_len33 (x : Int32) : ∃ n, n ≤ 32 ∧ (x &&& 2147483647) % 33 = Int32.ofNat n := own_small x 33 32 rfl
theorem pd_1 : parseMethodDescriptor "([BIII[II)V" = some ⟨[(.array .byte), .int, .int, .int, (.array .int), .int], none⟩ := by decide +kernel
theorem pd_2 : parseMethodDescriptor "(IJJIIII)I" = some ⟨[.int, .long, .long, .int, .int, .int, .int], some .int⟩ := by decide +kernel
theorem ef_0 (m : MethodId) (i0 : Int64) (i1 : Int64) (i2 : Int32) (i3 : Int32) (i4 : Int32) (i5 : Int32) : entryFrame m #[(.long i0), (.long i1), (.int i2), (.int i3), (.int i4), (.int i5)] maxLocals = mkF m 0 #[.val (.long i0), .second, .val (.long i1), .second, .val (.int i2), .val (.int i3), .val (.int i4), .val (.int i5), .unset, .unset, .unset, .unset, .unset, .unset] [] := by first | (simp [entryFrame, mkF, argsToLocals, Value.category, maxLocals]; done) | rfl
def Q0 (Z : State) (i0 : Int64) (i1 : Int64) (i2 : Int32) (i3 : Int32) (i4 : Int32) (i5 : Int32) (h0 : Heap) (n0 : Nat) (v : Option Value) (h : Heap) (L : List Loc) : Prop := v = some (.int 1) ∧ Fr n0 L
set_option maxRecDepth 65536 in
set_option maxHeartbeats 40000000 in
theorem rm0 (l : Launch) (Z : State) (a0 : Array Value) (hw : ∀ d ∈ tables_1, d.before a0 Z = true) (ws : List Jvm.Cond) (i0 : Int64) (i1 : Int64) (i2 : Int32) (i3 : Int32) (i4 : Int32) (i5 : Int32) (h0 : Heap) (n0 : Nat) (Z0 : n0 ≤ h0.size) :
    MetFree l x (head1 (Jvm.Cond.code x code maxLocals ret :: ws) room_1) (fun a' U => a' = #[(.long i0), (.long i1), (.int i2), (.int i3), (.int i4), (.int i5)] ∧ Z.Warmed39 U.vm ∧ U.heap = h0) (fun _ _ _ _ _ => True) (fun _ U o' U' => ∃ v L, o' = .returned v ∧ Q0 Z i0 i1 i2 i3 i4 i5 h0 n0 v U'.heap L ∧ FrameEnd U o' U' L 2 22) := by
  refine MetFree.of_bodySF (plainFor_of_name pn_0) hisR ?_
  intro p e s m args' below meth c s₁ Bd hml0 hP hK
  obtain ⟨hargs, hZ, hh⟩ := hP
  have hx := Bd.exec
  have hby := Bd.bytes
  have hml : c.maxLocals = 14 := hml0
  have hown : s.vm.findClass "tidemark/format/ParquetRunLengthsUnpackPinLaw" = some m.cls := findClass_of_methodNamed Bd.named
  have hnm := (name_of_methodNamed Bd.named Bd.method).1
  have X0 : Stand p l e room_1 s m args' below meth c s₁ [] 0 0 := Stand.of_body Bd
  have e0 : s₁.heap = h0 := by rw [← hh, Bd.state]; rfl
  have N0 := Fr.nil n0
  obtain ⟨A0, hA0⟩ : ∃ A, A = s₁.setTop (mkF m 0 #[.val (.long i0), .second, .val (.long i1), .second, .val (.int i2), .val (.int i3), .val (.int i4), .val (.int i5), .unset, .unset, .unset, .unset, .unset, .unset] []) := ⟨_, rfl⟩
  have P0 : own_Rch p.tables e below A0 (s₁.setTop (mkF m 0 #[.val (.long i0), .second, .val (.long i1), .second, .val (.int i2), .val (.int i3), .val (.int i4), .val (.int i5), .unset, .unset, .unset, .unset, .unset, .unset] [])) := fun t k => hA0 ▸ k
  have P00 : own_Rch p.tables e below (s₁.setTop (entryFrame m args' maxLocals)) A0 := fun t k => by rw [hargs]; exact castTop (ef_0 m i0 i1 i2 i3 i4 i5) (hA0 ▸ k)
  have P1 : own_Rch p.tables e below A0 (s₁.setTop (mkF m 10 #[.val (.long i0), .second, .val (.long i1), .second, .val (.int i2), .val (.int i3), .val (.int i4), .val (.int i5), .val (.int ((i2 &&& (2147483647 : Int32)) - (i2 &&& (2147483647 : Int32)) / (33 : Int32) * (33 : Int32))), .unset, .unset, .unset, .unset, .unset] [])) := fun t k => P0 t (by
    show Steps p.tables e below (s₁.setTop (mkF m 0 #[.val (.long i0), .second, .val (.long i1), .second, .val (.int i2), .val (.int i3), .val (.int i4), .val (.int i5), .unset, .unset, .unset, .unset, .unset, .unset] [])) _
    refine XS.iload X0.here hx rfl (hb hby at_0) rfl ?_
    show Steps p.tables e below (s₁.setTop (mkF m 2 #[.val (.long i0), .second, .val (.long i1), .second, .val (.int i2), .val (.int i3), .val (.int i4), .val (.int i5), .unset, .unset, .unset, .unset, .unset, .unset] [(.int i2)])) _
    refine X0.ldcInt hx hown (mvT hZ (hw _ (List.mem_of_getElem? (i := 0) rfl))) (g := (mkF m 2 #[.val (.long i0), .second, .val (.long i1), .second, .val (.int i2), .val (.int i3), .val (.int i4), .val (.int i5), .unset, .unset, .unset, .unset, .unset, .unset] [(.int i2)])) rfl (hb hby at_2) _ ?_
    show Steps p.tables e below (s₁.setTop (mkF m 4 #[.val (.long i0), .second, .val (.long i1), .second, .val (.int i2), .val (.int i3), .val (.int i4), .val (.int i5), .unset, .unset, .unset, .unset, .unset, .unset] [(.int (2147483647 : Int32)), (.int i2)])) _
    refine XS.iand X0.here hx rfl (hb hby at_4) rfl ?_
    show Steps p.tables e below (s₁.setTop (mkF m 5 #[.val (.long i0), .second, .val (.long i1), .second, .val (.int i2), .val (.int i3), .val (.int i4), .val (.int i5), .unset, .unset, .unset, .unset, .unset, .unset] [(.int (i2 &&& (2147483647 : Int32)))])) _
    refine XS.bipush X0.here hx rfl (hb hby at_5) ?_
    show Steps p.tables e below (s₁.setTop (mkF m 7 #[.val (.long i0), .second, .val (.long i1), .second, .val (.int i2), .val (.int i3), .val (.int i4), .val (.int i5), .unset, .unset, .unset, .unset, .unset, .unset] [(.int (33 : Int32)), (.int (i2 &&& (2147483647 : Int32)))])) _
    refine XS.irem X0.here hx rfl (hb hby at_7) rfl (by decide) ?_
    show Steps p.tables e below (s₁.setTop (mkF m 8 #[.val (.long i0), .second, .val (.long i1), .second, .val (.int i2), .val (.int i3), .val (.int i4), .val (.int i5), .unset, .unset, .unset, .unset, .unset, .unset] [(.int ((i2 &&& (2147483647 : Int32)) - (i2 &&& (2147483647 : Int32)) / (33 : Int32) * (33 : Int32)))])) _
    refine XS.istore X0.here hx rfl (hb hby at_8) rfl (l' := #[.val (.long i0), .second, .val (.long i1), .second, .val (.int i2), .val (.int i3), .val (.int i4), .val (.int i5), .val (.int ((i2 &&& (2147483647 : Int32)) - (i2 &&& (2147483647 : Int32)) / (33 : Int32) * (33 : Int32))), .unset, .unset, .unset, .unset, .unset]) rfl ?_
    exact k)
  obtain ⟨v2, hv2, P3⟩ : ∃ z : Int32, z = ((i2 &&& (2147483647 : Int32)) - (i2 &&& (2147483647 : Int32)) / (33 : Int32) * (33 : Int32)) ∧ own_Rch p.tables e below A0 (s₁.setTop (mkF m 10 #[.val (.long i0), .second, .val (.long i1), .second, .val (.int i2), .val (.int i3), .val (.int i4), .val (.int i5), .val (.int z), .unset, .unset, .unset, .unset, .unset] [])) := ⟨_, rfl, P1⟩
  have P4 : own_Rch p.tables e below A0 (s₁.setTop (mkF m 16 #[.val (.long i0), .second, .val (.long i1), .second, .val (.int i2), .val (.int i3), .val (.int i4), .val (.int i5), .val (.int v2), .val (.int (i3 &&& (3 : Int32))), .unset, .unset, .unset, .unset] [])) := fun t k => P3 t (by
    show Steps p.tables e below (s₁.setTop (mkF m 10 #[.val (.long i0), .second, .val (.long i1), .second, .val (.int i2), .val (.int i3), .val (.int i4), .val (.int i5), .val (.int v2), .unset, .unset, .unset, .unset, .unset] [])) _
    refine XS.iload X0.here hx rfl (hb hby at_10) rfl ?_
    show Steps p.tables e below (s₁.setTop (mkF m 12 #[.val (.long i0), .second, .val (.long i1), .second, .val (.int i2), .val (.int i3), .val (.int i4), .val (.int i5), .val (.int v2), .unset, .unset, .unset, .unset, .unset] [(.int i3)])) _
    refine XS.iconst X0.here hx rfl (hb hby at_12) ?_
    show Steps p.tables e below (s₁.setTop (mkF m 13 #[.val (.long i0), .second, .val (.long i1), .second, .val (.int i2), .val (.int i3), .val (.int i4), .val (.int i5), .val (.int v2), .unset, .unset, .unset, .unset, .unset] [(.int (3 : Int32)), (.int i3)])) _
    refine XS.iand X0.here hx rfl (hb hby at_13) rfl ?_
    show Steps p.tables e below (s₁.setTop (mkF m 14 #[.val (.long i0), .second, .val (.long i1), .second, .val (.int i2), .val (.int i3), .val (.int i4), .val (.int i5), .val (.int v2), .unset, .unset, .unset, .unset, .unset] [(.int (i3 &&& (3 : Int32)))])) _
    refine XS.istore X0.here hx rfl (hb hby at_14) rfl (l' := #[.val (.long i0), .second, .val (.long i1), .second, .val (.int i2), .val (.int i3), .val (.int i4), .val (.int i5), .val (.int v2), .val (.int (i3 &&& (3 : Int32))), .unset, .unset, .unset, .unset]) rfl ?_
    exact k)
  obtain ⟨v5, hv5, P6⟩ : ∃ z : Int32, z = (i3 &&& (3 : Int32)) ∧ own_Rch p.tables e below A0 (s₁.setTop (mkF m 16 #[.val (.long i0), .second, .val (.long i1), .second, .val (.int i2), .val (.int i3), .val (.int i4), .val (.int i5), .val (.int v2), .val (.int z), .unset, .unset, .unset, .unset] [])) := ⟨_, rfl, P4⟩
  have P7 : own_Rch p.tables e below A0 (s₁.setTop (mkF m 22 #[.val (.long i0), .second, .val (.long i1), .second, .val (.int i2), .val (.int i3), .val (.int i4), .val (.int i5), .val (.int v2), .val (.int v5), .val (.int (i4 &&& (3 : Int32))), .unset, .unset, .unset] [])) := fun t k => P6 t (by
    show Steps p.tables e below (s₁.setTop (mkF m 16 #[.val (.long i0), .second, .val (.long i1), .second, .val (.int i2), .val (.int i3), .val (.int i4), .val (.int i5), .val (.int v2), .val (.int v5), .unset, .unset, .unset, .unset] [])) _
    refine XS.iload X0.here hx rfl (hb hby at_16) rfl ?_
    show Steps p.tables e below (s₁.setTop (mkF m 18 #[.val (.long i0), .second, .val (.long i1), .second, .val (.int i2), .val (.int i3), .val (.int i4), .val (.int i5), .val (.int v2), .val (.int v5), .unset, .unset, .unset, .unset] [(.int i4)])) _
    refine XS.iconst X0.here hx rfl (hb hby at_18) ?_
    show Steps p.tables e below (s₁.setTop (mkF m 19 #[.val (.long i0), .second, .val (.long i1), .second, .val (.int i2), .val (.int i3), .val (.int i4), .val (.int i5), .val (.int v2), .val (.int v5), .unset, .unset, .unset, .unset] [(.int (3 : Int32)), (.int i4)])) _
    refine XS.iand X0.here hx rfl (hb hby at_19) rfl ?_
    show Steps p.tables e below (s₁.setTop (mkF m 20 #[.val (.long i0), .second, .val (.long i1), .second, .val (.int i2), .val (.int i3), .val (.int i4), .val (.int i5), .val (.int v2), .val (.int v5), .unset, .unset, .unset, .unset] [(.int (i4 &&& (3 : Int32)))])) _
    refine XS.istore X0.here hx rfl (hb hby at_20) rfl (l' := #[.val (.long i0), .second, .val (.long i1), .second, .val (.int i2), .val (.int i3), .val (.int i4), .val (.int i5), .val (.int v2), .val (.int v5), .val (.int (i4 &&& (3 : Int32))), .unset, .unset, .unset]) rfl ?_
    exact k)
  obtain ⟨v8, hv8, P9⟩ : ∃ z : Int32, z = (i4 &&& (3 : Int32)) ∧ own_Rch p.tables e below A0 (s₁.setTop (mkF m 22 #[.val (.long i0), .second, .val (.long i1), .second, .val (.int i2), .val (.int i3), .val (.int i4), .val (.int i5), .val (.int v2), .val (.int v5), .val (.int z), .unset, .unset, .unset] [])) := ⟨_, rfl, P7⟩
  have P10 : own_Rch p.tables e below A0 (s₁.setTop (mkF m 28 #[.val (.long i0), .second, .val (.long i1), .second, .val (.int i2), .val (.int i3), .val (.int i4), .val (.int i5), .val (.int v2), .val (.int v5), .val (.int v8), .val (.int (i5 &&& (3 : Int32))), .unset, .unset] [])) := fun t k => P9 t (by
    show Steps p.tables e below (s₁.setTop (mkF m 22 #[.val (.long i0), .second, .val (.long i1), .second, .val (.int i2), .val (.int i3), .val (.int i4), .val (.int i5), .val (.int v2), .val (.int v5), .val (.int v8), .unset, .unset, .unset] [])) _
    refine XS.iload X0.here hx rfl (hb hby at_22) rfl ?_
    show Steps p.tables e below (s₁.setTop (mkF m 24 #[.val (.long i0), .second, .val (.long i1), .second, .val (.int i2), .val (.int i3), .val (.int i4), .val (.int i5), .val (.int v2), .val (.int v5), .val (.int v8), .unset, .unset, .unset] [(.int i5)])) _
    refine XS.iconst X0.here hx rfl (hb hby at_24) ?_
    show Steps p.tables e below (s₁.setTop (mkF m 25 #[.val (.long i0), .second, .val (.long i1), .second, .val (.int i2), .val (.int i3), .val (.int i4), .val (.int i5), .val (.int v2), .val (.int v5), .val (.int v8), .unset, .unset, .unset] [(.int (3 : Int32)), (.int i5)])) _
    refine XS.iand X0.here hx rfl (hb hby at_25) rfl ?_
    show Steps p.tables e below (s₁.setTop (mkF m 26 #[.val (.long i0), .second, .val (.long i1), .second, .val (.int i2), .val (.int i3), .val (.int i4), .val (.int i5), .val (.int v2), .val (.int v5), .val (.int v8), .unset, .unset, .unset] [(.int (i5 &&& (3 : Int32)))])) _
    refine XS.istore X0.here hx rfl (hb hby at_26) rfl (l' := #[.val (.long i0), .second, .val (.long i1), .second, .val (.int i2), .val (.int i3), .val (.int i4), .val (.int i5), .val (.int v2), .val (.int v5), .val (.int v8), .val (.int (i5 &&& (3 : Int32))), .unset, .unset]) rfl ?_
    exact k)
  obtain ⟨v11, hv11, P12⟩ : ∃ z : Int32, z = (i5 &&& (3 : Int32)) ∧ own_Rch p.tables e below A0 (s₁.setTop (mkF m 28 #[.val (.long i0), .second, .val (.long i1), .second, .val (.int i2), .val (.int i3), .val (.int i4), .val (.int i5), .val (.int v2), .val (.int v5), .val (.int v8), .val (.int z), .unset, .unset] [])) := ⟨_, rfl, P10⟩
  obtain ⟨wd, hwd, hq8⟩ := own_len33 i2
  obtain rfl := (hv2.trans (own_remI _ _)).trans hq8
  obtain ⟨cn, hcn, hq9⟩ := own_and3 i3
  obtain rfl := (hv5).trans hq9
  obtain ⟨fr, hfr, hq10⟩ := own_and3 i4
  obtain rfl := (hv8).trans hq10
  obtain ⟨os, hos, hq11⟩ := own_and3 i5
  obtain rfl := (hv11).trans hq11
  have P13 : own_Rch p.tables e below A0 (s₁.setTop (mkF m 30 #[.val (.long i0), .second, .val (.long i1), .second, .val (.int i2), .val (.int i3), .val (.int i4), .val (.int i5), .val (.int (Int32.ofNat wd)), .val (.int (Int32.ofNat cn)), .val (.int (Int32.ofNat fr)), .val (.int (Int32.ofNat os)), .unset, .unset] [(.int (16 : Int32))])) := fun t k => P12 t (by
    show Steps p.tables e below (s₁.setTop (mkF m 28 #[.val (.long i0), .second, .val (.long i1), .second, .val (.int i2), .val (.int i3), .val (.int i4), .val (.int i5), .val (.int (Int32.ofNat wd)), .val (.int (Int32.ofNat cn)), .val (.int (Int32.ofNat fr)), .val (.int (Int32.ofNat os)), .unset, .unset] [])) _
    refine XS.bipush X0.here hx rfl (hb hby at_28) ?_
    exact k)
  obtain ⟨T14, h14, k14, X14, e14, E14, A14, st14⟩ := newP X0 hx hZ (hw _ (List.mem_of_getElem? (i := 1) rfl)) e0 (g := (mkF m 30 #[.val (.long i0), .second, .val (.long i1), .second, .val (.int i2), .val (.int i3), .val (.int i4), .val (.int i5), .val (.int (Int32.ofNat wd)), .val (.int (Int32.ofNat cn)), .val (.int (Int32.ofNat fr)), .val (.int (Int32.ofNat os)), .unset, .unset] [(.int (16 : Int32))])) rfl (hb hby at_30) rfl (by decide) (cap := 16) (by decide) (by decide) (by decide) (by decide)
  obtain ⟨b14, g14⟩ : ∃ z, z = h0.size := ⟨_, rfl⟩
  rw [← g14] at A14 st14
  have g_b14 : n0 ≤ b14 := Nat.le_trans Z0 (Nat.le_of_eq g14.symm)
  have Z_15 : n0 ≤ h14.size := Nat.le_trans Z0 E14.1
  have V_16 : Arv Z h14 b14 k14 .byte (16 : Int32) [(.int (0 : Int32)), (.int (0 : Int32)), (.int (0 : Int32)), (.int (0 : Int32)), (.int (0 : Int32)), (.int (0 : Int32)), (.int (0 : Int32)), (.int (0 : Int32)), (.int (0 : Int32)), (.int (0 : Int32)), (.int (0 : Int32)), (.int (0 : Int32)), (.int (0 : Int32)), (.int (0 : Int32)), (.int (0 : Int32)), (.int (0 : Int32))] (.int (0 : Int32)) := (Arv.new A14 (by decide)).pad (pad_rep [] (.int (0 : Int32)) 16)
  have P17 : own_Rch p.tables e below A0 (T14.setTop (mkF m 32 #[.val (.long i0), .second, .val (.long i1), .second, .val (.int i2), .val (.int i3), .val (.int i4), .val (.int i5), .val (.int (Int32.ofNat wd)), .val (.int (Int32.ofNat cn)), .val (.int (Int32.ofNat fr)), .val (.int (Int32.ofNat os)), .unset, .unset] [(.ref b14)])) := fun t k => P13 t (st14 t k)
  have P18 : own_Rch p.tables e below A0 (T14.setTop (mkF m 40 #[.val (.long i0), .second, .val (.long i1), .second, .val (.int i2), .val (.int i3), .val (.int i4), .val (.int i5), .val (.int (Int32.ofNat wd)), .val (.int (Int32.ofNat cn)), .val (.int (Int32.ofNat fr)), .val (.int (Int32.ofNat os)), .val (.ref b14), .unset] [(.int ((i0.toInt32).toInt8.toInt32)), (.int (0 : Int32)), (.ref b14)])) := fun t k => P17 t (by
    show Steps p.tables e below (T14.setTop (mkF m 32 #[.val (.long i0), .second, .val (.long i1), .second, .val (.int i2), .val (.int i3), .val (.int i4), .val (.int i5), .val (.int (Int32.ofNat wd)), .val (.int (Int32.ofNat cn)), .val (.int (Int32.ofNat fr)), .val (.int (Int32.ofNat os)), .unset, .unset] [(.ref b14)])) _
    refine XS.astore X14.here hx rfl (hb hby at_32) rfl rfl (l' := #[.val (.long i0), .second, .val (.long i1), .second, .val (.int i2), .val (.int i3), .val (.int i4), .val (.int i5), .val (.int (Int32.ofNat wd)), .val (.int (Int32.ofNat cn)), .val (.int (Int32.ofNat fr)), .val (.int (Int32.ofNat os)), .val (.ref b14), .unset]) rfl ?_
    show Steps p.tables e below (T14.setTop (mkF m 34 #[.val (.long i0), .second, .val (.long i1), .second, .val (.int i2), .val (.int i3), .val (.int i4), .val (.int i5), .val (.int (Int32.ofNat wd)), .val (.int (Int32.ofNat cn)), .val (.int (Int32.ofNat fr)), .val (.int (Int32.ofNat os)), .val (.ref b14), .unset] [])) _
    refine XS.aload X14.here hx rfl (hb hby at_34) rfl rfl ?_
    show Steps p.tables e below (T14.setTop (mkF m 36 #[.val (.long i0), .second, .val (.long i1), .second, .val (.int i2), .val (.int i3), .val (.int i4), .val (.int i5), .val (.int (Int32.ofNat wd)), .val (.int (Int32.ofNat cn)), .val (.int (Int32.ofNat fr)), .val (.int (Int32.ofNat os)), .val (.ref b14), .unset] [(.ref b14)])) _
    refine XS.iconst X14.here hx rfl (hb hby at_36) ?_
    show Steps p.tables e below (T14.setTop (mkF m 37 #[.val (.long i0), .second, .val (.long i1), .second, .val (.int i2), .val (.int i3), .val (.int i4), .val (.int i5), .val (.int (Int32.ofNat wd)), .val (.int (Int32.ofNat cn)), .val (.int (Int32.ofNat fr)), .val (.int (Int32.ofNat os)), .val (.ref b14), .unset] [(.int (0 : Int32)), (.ref b14)])) _
    refine XS.lloadN X14.here hx rfl (hb hby at_37) rfl ?_
    show Steps p.tables e below (T14.setTop (mkF m 38 #[.val (.long i0), .second, .val (.long i1), .second, .val (.int i2), .val (.int i3), .val (.int i4), .val (.int i5), .val (.int (Int32.ofNat wd)), .val (.int (Int32.ofNat cn)), .val (.int (Int32.ofNat fr)), .val (.int (Int32.ofNat os)), .val (.ref b14), .unset] [(.long i0), (.int (0 : Int32)), (.ref b14)])) _
    refine XS.l2i X14.here hx rfl (hb hby at_38) rfl ?_
    show Steps p.tables e below (T14.setTop (mkF m 39 #[.val (.long i0), .second, .val (.long i1), .second, .val (.int i2), .val (.int i3), .val (.int i4), .val (.int i5), .val (.int (Int32.ofNat wd)), .val (.int (Int32.ofNat cn)), .val (.int (Int32.ofNat fr)), .val (.int (Int32.ofNat os)), .val (.ref b14), .unset] [(.int (i0.toInt32)), (.int (0 : Int32)), (.ref b14)])) _
    refine XS.i2b X14.here hx rfl (hb hby at_39) rfl ?_
    exact k)
  obtain ⟨cl19, Ar19, qc19, S19, N19_, H19, G19⟩ := V_16
  have hin19 : ¬ ((0 : Int32) < 0 ∨ cl19.slots.size ≤ ((0 : Int32)).toNatClampNeg) := inb_of S19 ⟨by decide, by decide⟩
  obtain ⟨T19, h19, X19, e19, W19, st19⟩ := stB X14 hx hZ e14 Ar19 (j := (0 : Int32)) hin19 (g := (mkF m 40 #[.val (.long i0), .second, .val (.long i1), .second, .val (.int i2), .val (.int i3), .val (.int i4), .val (.int i5), .val (.int (Int32.ofNat wd)), .val (.int (Int32.ofNat cn)), .val (.int (Int32.ofNat fr)), .val (.int (Int32.ofNat os)), .val (.ref b14), .unset] [(.int ((i0.toInt32).toInt8.toInt32)), (.int (0 : Int32)), (.ref b14)])) rfl rfl (hb hby at_40)
  have N19 := Fr.snoc X19 N0 g_b14
  have Z_20 : n0 ≤ h19.size := Nat.le_trans Z_15 (Keep.of_wr W19).1
  have V_21 : Arv Z h19 b14 k14 .byte (16 : Int32) [(.int (nar .byte ((i0.toInt32).toInt8.toInt32))), (.int (0 : Int32)), (.int (0 : Int32)), (.int (0 : Int32)), (.int (0 : Int32)), (.int (0 : Int32)), (.int (0 : Int32)), (.int (0 : Int32)), (.int (0 : Int32)), (.int (0 : Int32)), (.int (0 : Int32)), (.int (0 : Int32)), (.int (0 : Int32)), (.int (0 : Int32)), (.int (0 : Int32)), (.int (0 : Int32))] (.int (0 : Int32)) := Arv.set Ar19 qc19 S19 N19_ H19 G19 (fits_nar_byte _) W19 0 rfl (Nat.le_of_ble_eq_true rfl)
  have P22 : own_Rch p.tables e below A0 (T19.setTop (mkF m 41 #[.val (.long i0), .second, .val (.long i1), .second, .val (.int i2), .val (.int i3), .val (.int i4), .val (.int i5), .val (.int (Int32.ofNat wd)), .val (.int (Int32.ofNat cn)), .val (.int (Int32.ofNat fr)), .val (.int (Int32.ofNat os)), .val (.ref b14), .unset] [])) := fun t k => P18 t (st19 t k)
  have P23 : own_Rch p.tables e below A0 (T19.setTop (mkF m 50 #[.val (.long i0), .second, .val (.long i1), .second, .val (.int i2), .val (.int i3), .val (.int i4), .val (.int i5), .val (.int (Int32.ofNat wd)), .val (.int (Int32.ofNat cn)), .val (.int (Int32.ofNat fr)), .val (.int (Int32.ofNat os)), .val (.ref b14), .unset] [(.int ((((i0.toUInt64 >>> ((8 : Int32) &&& 0x3f).toInt64.toUInt64).toInt64).toInt32).toInt8.toInt32)), (.int (1 : Int32)), (.ref b14)])) := fun t k => P22 t (by
    show Steps p.tables e below (T19.setTop (mkF m 41 #[.val (.long i0), .second, .val (.long i1), .second, .val (.int i2), .val (.int i3), .val (.int i4), .val (.int i5), .val (.int (Int32.ofNat wd)), .val (.int (Int32.ofNat cn)), .val (.int (Int32.ofNat fr)), .val (.int (Int32.ofNat os)), .val (.ref b14), .unset] [])) _
    refine XS.aload X19.here hx rfl (hb hby at_41) rfl rfl ?_
    show Steps p.tables e below (T19.setTop (mkF m 43 #[.val (.long i0), .second, .val (.long i1), .second, .val (.int i2), .val (.int i3), .val (.int i4), .val (.int i5), .val (.int (Int32.ofNat wd)), .val (.int (Int32.ofNat cn)), .val (.int (Int32.ofNat fr)), .val (.int (Int32.ofNat os)), .val (.ref b14), .unset] [(.ref b14)])) _
    refine XS.iconst X19.here hx rfl (hb hby at_43) ?_
    show Steps p.tables e below (T19.setTop (mkF m 44 #[.val (.long i0), .second, .val (.long i1), .second, .val (.int i2), .val (.int i3), .val (.int i4), .val (.int i5), .val (.int (Int32.ofNat wd)), .val (.int (Int32.ofNat cn)), .val (.int (Int32.ofNat fr)), .val (.int (Int32.ofNat os)), .val (.ref b14), .unset] [(.int (1 : Int32)), (.ref b14)])) _
    refine XS.lloadN X19.here hx rfl (hb hby at_44) rfl ?_
    show Steps p.tables e below (T19.setTop (mkF m 45 #[.val (.long i0), .second, .val (.long i1), .second, .val (.int i2), .val (.int i3), .val (.int i4), .val (.int i5), .val (.int (Int32.ofNat wd)), .val (.int (Int32.ofNat cn)), .val (.int (Int32.ofNat fr)), .val (.int (Int32.ofNat os)), .val (.ref b14), .unset] [(.long i0), (.int (1 : Int32)), (.ref b14)])) _
    refine XS.bipush X19.here hx rfl (hb hby at_45) ?_
    show Steps p.tables e below (T19.setTop (mkF m 47 #[.val (.long i0), .second, .val (.long i1), .second, .val (.int i2), .val (.int i3), .val (.int i4), .val (.int i5), .val (.int (Int32.ofNat wd)), .val (.int (Int32.ofNat cn)), .val (.int (Int32.ofNat fr)), .val (.int (Int32.ofNat os)), .val (.ref b14), .unset] [(.int (8 : Int32)), (.long i0), (.int (1 : Int32)), (.ref b14)])) _
    refine XS.lushr X19.here hx rfl (hb hby at_47) rfl ?_
    show Steps p.tables e below (T19.setTop (mkF m 48 #[.val (.long i0), .second, .val (.long i1), .second, .val (.int i2), .val (.int i3), .val (.int i4), .val (.int i5), .val (.int (Int32.ofNat wd)), .val (.int (Int32.ofNat cn)), .val (.int (Int32.ofNat fr)), .val (.int (Int32.ofNat os)), .val (.ref b14), .unset] [(.long ((i0.toUInt64 >>> ((8 : Int32) &&& 0x3f).toInt64.toUInt64).toInt64)), (.int (1 : Int32)), (.ref b14)])) _
    refine XS.l2i X19.here hx rfl (hb hby at_48) rfl ?_
    show Steps p.tables e below (T19.setTop (mkF m 49 #[.val (.long i0), .second, .val (.long i1), .second, .val (.int i2), .val (.int i3), .val (.int i4), .val (.int i5), .val (.int (Int32.ofNat wd)), .val (.int (Int32.ofNat cn)), .val (.int (Int32.ofNat fr)), .val (.int (Int32.ofNat os)), .val (.ref b14), .unset] [(.int (((i0.toUInt64 >>> ((8 : Int32) &&& 0x3f).toInt64.toUInt64).toInt64).toInt32)), (.int (1 : Int32)), (.ref b14)])) _
    refine XS.i2b X19.here hx rfl (hb hby at_49) rfl ?_
    exact k)
  obtain ⟨cl24, Ar24, qc24, S24, N24_, H24, G24⟩ := V_21
  have hin24 : ¬ ((1 : Int32) < 0 ∨ cl24.slots.size ≤ ((1 : Int32)).toNatClampNeg) := inb_of S24 ⟨by decide, by decide⟩
  obtain ⟨T24, h24, X24, e24, W24, st24⟩ := stB X19 hx hZ e19 Ar24 (j := (1 : Int32)) hin24 (g := (mkF m 50 #[.val (.long i0), .second, .val (.long i1), .second, .val (.int i2), .val (.int i3), .val (.int i4), .val (.int i5), .val (.int (Int32.ofNat wd)), .val (.int (Int32.ofNat cn)), .val (.int (Int32.ofNat fr)), .val (.int (Int32.ofNat os)), .val (.ref b14), .unset] [(.int ((((i0.toUInt64 >>> ((8 : Int32) &&& 0x3f).toInt64.toUInt64).toInt64).toInt32).toInt8.toInt32)), (.int (1 : Int32)), (.ref b14)])) rfl rfl (hb hby at_50)
  have N24 := Fr.snoc X24 N19 g_b14
  have Z_25 : n0 ≤ h24.size := Nat.le_trans Z_20 (Keep.of_wr W24).1
  have V_26 : Arv Z h24 b14 k14 .byte (16 : Int32) [(.int (nar .byte ((i0.toInt32).toInt8.toInt32))), (.int (nar .byte ((((i0.toUInt64 >>> ((8 : Int32) &&& 0x3f).toInt64.toUInt64).toInt64).toInt32).toInt8.toInt32))), (.int (0 : Int32)), (.int (0 : Int32)), (.int (0 : Int32)), (.int (0 : Int32)), (.int (0 : Int32)), (.int (0 : Int32)), (.int (0 : Int32)), (.int (0 : Int32)), (.int (0 : Int32)), (.int (0 : Int32)), (.int (0 : Int32)), (.int (0 : Int32)), (.int (0 : Int32)), (.int (0 : Int32))] (.int (0 : Int32)) := Arv.set Ar24 qc24 S24 N24_ H24 G24 (fits_nar_byte _) W24 1 rfl (Nat.le_of_ble_eq_true rfl)
  have P27 : own_Rch p.tables e below A0 (T24.setTop (mkF m 51 #[.val (.long i0), .second, .val (.long i1), .second, .val (.int i2), .val (.int i3), .val (.int i4), .val (.int i5), .val (.int (Int32.ofNat wd)), .val (.int (Int32.ofNat cn)), .val (.int (Int32.ofNat fr)), .val (.int (Int32.ofNat os)), .val (.ref b14), .unset] [])) := fun t k => P23 t (st24 t k)
  have P28 : own_Rch p.tables e below A0 (T24.setTop (mkF m 60 #[.val (.long i0), .second, .val (.long i1), .second, .val (.int i2), .val (.int i3), .val (.int i4), .val (.int i5), .val (.int (Int32.ofNat wd)), .val (.int (Int32.ofNat cn)), .val (.int (Int32.ofNat fr)), .val (.int (Int32.ofNat os)), .val (.ref b14), .unset] [(.int ((((i0.toUInt64 >>> ((16 : Int32) &&& 0x3f).toInt64.toUInt64).toInt64).toInt32).toInt8.toInt32)), (.int (2 : Int32)), (.ref b14)])) := fun t k => P27 t (by
    show Steps p.tables e below (T24.setTop (mkF m 51 #[.val (.long i0), .second, .val (.long i1), .second, .val (.int i2), .val (.int i3), .val (.int i4), .val (.int i5), .val (.int (Int32.ofNat wd)), .val (.int (Int32.ofNat cn)), .val (.int (Int32.ofNat fr)), .val (.int (Int32.ofNat os)), .val (.ref b14), .unset] [])) _
    refine XS.aload X24.here hx rfl (hb hby at_51) rfl rfl ?_
    show Steps p.tables e below (T24.setTop (mkF m 53 #[.val (.long i0), .second, .val (.long i1), .second, .val (.int i2), .val (.int i3), .val (.int i4), .val (.int i5), .val (.int (Int32.ofNat wd)), .val (.int (Int32.ofNat cn)), .val (.int (Int32.ofNat fr)), .val (.int (Int32.ofNat os)), .val (.ref b14), .unset] [(.ref b14)])) _
    refine XS.iconst X24.here hx rfl (hb hby at_53) ?_
    show Steps p.tables e below (T24.setTop (mkF m 54 #[.val (.long i0), .second, .val (.long i1), .second, .val (.int i2), .val (.int i3), .val (.int i4), .val (.int i5), .val (.int (Int32.ofNat wd)), .val (.int (Int32.ofNat cn)), .val (.int (Int32.ofNat fr)), .val (.int (Int32.ofNat os)), .val (.ref b14), .unset] [(.int (2 : Int32)), (.ref b14)])) _
    refine XS.lloadN X24.here hx rfl (hb hby at_54) rfl ?_
    show Steps p.tables e below (T24.setTop (mkF m 55 #[.val (.long i0), .second, .val (.long i1), .second, .val (.int i2), .val (.int i3), .val (.int i4), .val (.int i5), .val (.int (Int32.ofNat wd)), .val (.int (Int32.ofNat cn)), .val (.int (Int32.ofNat fr)), .val (.int (Int32.ofNat os)), .val (.ref b14), .unset] [(.long i0), (.int (2 : Int32)), (.ref b14)])) _
    refine XS.bipush X24.here hx rfl (hb hby at_55) ?_
    show Steps p.tables e below (T24.setTop (mkF m 57 #[.val (.long i0), .second, .val (.long i1), .second, .val (.int i2), .val (.int i3), .val (.int i4), .val (.int i5), .val (.int (Int32.ofNat wd)), .val (.int (Int32.ofNat cn)), .val (.int (Int32.ofNat fr)), .val (.int (Int32.ofNat os)), .val (.ref b14), .unset] [(.int (16 : Int32)), (.long i0), (.int (2 : Int32)), (.ref b14)])) _
    refine XS.lushr X24.here hx rfl (hb hby at_57) rfl ?_
    show Steps p.tables e below (T24.setTop (mkF m 58 #[.val (.long i0), .second, .val (.long i1), .second, .val (.int i2), .val (.int i3), .val (.int i4), .val (.int i5), .val (.int (Int32.ofNat wd)), .val (.int (Int32.ofNat cn)), .val (.int (Int32.ofNat fr)), .val (.int (Int32.ofNat os)), .val (.ref b14), .unset] [(.long ((i0.toUInt64 >>> ((16 : Int32) &&& 0x3f).toInt64.toUInt64).toInt64)), (.int (2 : Int32)), (.ref b14)])) _
    refine XS.l2i X24.here hx rfl (hb hby at_58) rfl ?_
    show Steps p.tables e below (T24.setTop (mkF m 59 #[.val (.long i0), .second, .val (.long i1), .second, .val (.int i2), .val (.int i3), .val (.int i4), .val (.int i5), .val (.int (Int32.ofNat wd)), .val (.int (Int32.ofNat cn)), .val (.int (Int32.ofNat fr)), .val (.int (Int32.ofNat os)), .val (.ref b14), .unset] [(.int (((i0.toUInt64 >>> ((16 : Int32) &&& 0x3f).toInt64.toUInt64).toInt64).toInt32)), (.int (2 : Int32)), (.ref b14)])) _
    refine XS.i2b X24.here hx rfl (hb hby at_59) rfl ?_
    exact k)
  obtain ⟨cl29, Ar29, qc29, S29, N29_, H29, G29⟩ := V_26
  have hin29 : ¬ ((2 : Int32) < 0 ∨ cl29.slots.size ≤ ((2 : Int32)).toNatClampNeg) := inb_of S29 ⟨by decide, by decide⟩
  obtain ⟨T29, h29, X29, e29, W29, st29⟩ := stB X24 hx hZ e24 Ar29 (j := (2 : Int32)) hin29 (g := (mkF m 60 #[.val (.long i0), .second, .val (.long i1), .second, .val (.int i2), .val (.int i3), .val (.int i4), .val (.int i5), .val (.int (Int32.ofNat wd)), .val (.int (Int32.ofNat cn)), .val (.int (Int32.ofNat fr)), .val (.int (Int32.ofNat os)), .val (.ref b14), .unset] [(.int ((((i0.toUInt64 >>> ((16 : Int32) &&& 0x3f).toInt64.toUInt64).toInt64).toInt32).toInt8.toInt32)), (.int (2 : Int32)), (.ref b14)])) rfl rfl (hb hby at_60)
  have N29 := Fr.snoc X29 N24 g_b14
  have Z_30 : n0 ≤ h29.size := Nat.le_trans Z_25 (Keep.of_wr W29).1
  have V_31 : Arv Z h29 b14 k14 .byte (16 : Int32) [(.int (nar .byte ((i0.toInt32).toInt8.toInt32))), (.int (nar .byte ((((i0.toUInt64 >>> ((8 : Int32) &&& 0x3f).toInt64.toUInt64).toInt64).toInt32).toInt8.toInt32))), (.int (nar .byte ((((i0.toUInt64 >>> ((16 : Int32) &&& 0x3f).toInt64.toUInt64).toInt64).toInt32).toInt8.toInt32))), (.int (0 : Int32)), (.int (0 : Int32)), (.int (0 : Int32)), (.int (0 : Int32)), (.int (0 : Int32)), (.int (0 : Int32)), (.int (0 : Int32)), (.int (0 : Int32)), (.int (0 : Int32)), (.int (0 : Int32)), (.int (0 : Int32)), (.int (0 : Int32)), (.int (0 : Int32))] (.int (0 : Int32)) := Arv.set Ar29 qc29 S29 N29_ H29 G29 (fits_nar_byte _) W29 2 rfl (Nat.le_of_ble_eq_true rfl)
  have P32 : own_Rch p.tables e below A0 (T29.setTop (mkF m 61 #[.val (.long i0), .second, .val (.long i1), .second, .val (.int i2), .val (.int i3), .val (.int i4), .val (.int i5), .val (.int (Int32.ofNat wd)), .val (.int (Int32.ofNat cn)), .val (.int (Int32.ofNat fr)), .val (.int (Int32.ofNat os)), .val (.ref b14), .unset] [])) := fun t k => P28 t (st29 t k)
  have P33 : own_Rch p.tables e below A0 (T29.setTop (mkF m 70 #[.val (.long i0), .second, .val (.long i1), .second, .val (.int i2), .val (.int i3), .val (.int i4), .val (.int i5), .val (.int (Int32.ofNat wd)), .val (.int (Int32.ofNat cn)), .val (.int (Int32.ofNat fr)), .val (.int (Int32.ofNat os)), .val (.ref b14), .unset] [(.int ((((i0.toUInt64 >>> ((24 : Int32) &&& 0x3f).toInt64.toUInt64).toInt64).toInt32).toInt8.toInt32)), (.int (3 : Int32)), (.ref b14)])) := fun t k => P32 t (by
    show Steps p.tables e below (T29.setTop (mkF m 61 #[.val (.long i0), .second, .val (.long i1), .second, .val (.int i2), .val (.int i3), .val (.int i4), .val (.int i5), .val (.int (Int32.ofNat wd)), .val (.int (Int32.ofNat cn)), .val (.int (Int32.ofNat fr)), .val (.int (Int32.ofNat os)), .val (.ref b14), .unset] [])) _
    refine XS.aload X29.here hx rfl (hb hby at_61) rfl rfl ?_
    show Steps p.tables e below (T29.setTop (mkF m 63 #[.val (.long i0), .second, .val (.long i1), .second, .val (.int i2), .val (.int i3), .val (.int i4), .val (.int i5), .val (.int (Int32.ofNat wd)), .val (.int (Int32.ofNat cn)), .val (.int (Int32.ofNat fr)), .val (.int (Int32.ofNat os)), .val (.ref b14), .unset] [(.ref b14)])) _
    refine XS.iconst X29.here hx rfl (hb hby at_63) ?_
    show Steps p.tables e below (T29.setTop (mkF m 64 #[.val (.long i0), .second, .val (.long i1), .second, .val (.int i2), .val (.int i3), .val (.int i4), .val (.int i5), .val (.int (Int32.ofNat wd)), .val (.int (Int32.ofNat cn)), .val (.int (Int32.ofNat fr)), .val (.int (Int32.ofNat os)), .val (.ref b14), .unset] [(.int (3 : Int32)), (.ref b14)])) _
    refine XS.lloadN X29.here hx rfl (hb hby at_64) rfl ?_
    show Steps p.tables e below (T29.setTop (mkF m 65 #[.val (.long i0), .second, .val (.long i1), .second, .val (.int i2), .val (.int i3), .val (.int i4), .val (.int i5), .val (.int (Int32.ofNat wd)), .val (.int (Int32.ofNat cn)), .val (.int (Int32.ofNat fr)), .val (.int (Int32.ofNat os)), .val (.ref b14), .unset] [(.long i0), (.int (3 : Int32)), (.ref b14)])) _
    refine XS.bipush X29.here hx rfl (hb hby at_65) ?_
    show Steps p.tables e below (T29.setTop (mkF m 67 #[.val (.long i0), .second, .val (.long i1), .second, .val (.int i2), .val (.int i3), .val (.int i4), .val (.int i5), .val (.int (Int32.ofNat wd)), .val (.int (Int32.ofNat cn)), .val (.int (Int32.ofNat fr)), .val (.int (Int32.ofNat os)), .val (.ref b14), .unset] [(.int (24 : Int32)), (.long i0), (.int (3 : Int32)), (.ref b14)])) _
    refine XS.lushr X29.here hx rfl (hb hby at_67) rfl ?_
    show Steps p.tables e below (T29.setTop (mkF m 68 #[.val (.long i0), .second, .val (.long i1), .second, .val (.int i2), .val (.int i3), .val (.int i4), .val (.int i5), .val (.int (Int32.ofNat wd)), .val (.int (Int32.ofNat cn)), .val (.int (Int32.ofNat fr)), .val (.int (Int32.ofNat os)), .val (.ref b14), .unset] [(.long ((i0.toUInt64 >>> ((24 : Int32) &&& 0x3f).toInt64.toUInt64).toInt64)), (.int (3 : Int32)), (.ref b14)])) _
    refine XS.l2i X29.here hx rfl (hb hby at_68) rfl ?_
    show Steps p.tables e below (T29.setTop (mkF m 69 #[.val (.long i0), .second, .val (.long i1), .second, .val (.int i2), .val (.int i3), .val (.int i4), .val (.int i5), .val (.int (Int32.ofNat wd)), .val (.int (Int32.ofNat cn)), .val (.int (Int32.ofNat fr)), .val (.int (Int32.ofNat os)), .val (.ref b14), .unset] [(.int (((i0.toUInt64 >>> ((24 : Int32) &&& 0x3f).toInt64.toUInt64).toInt64).toInt32)), (.int (3 : Int32)), (.ref b14)])) _
    refine XS.i2b X29.here hx rfl (hb hby at_69) rfl ?_
    exact k)
  obtain ⟨cl34, Ar34, qc34, S34, N34_, H34, G34⟩ := V_31
  have hin34 : ¬ ((3 : Int32) < 0 ∨ cl34.slots.size ≤ ((3 : Int32)).toNatClampNeg) := inb_of S34 ⟨by decide, by decide⟩
  obtain ⟨T34, h34, X34, e34, W34, st34⟩ := stB X29 hx hZ e29 Ar34 (j := (3 : Int32)) hin34 (g := (mkF m 70 #[.val (.long i0), .second, .val (.long i1), .second, .val (.int i2), .val (.int i3), .val (.int i4), .val (.int i5), .val (.int (Int32.ofNat wd)), .val (.int (Int32.ofNat cn)), .val (.int (Int32.ofNat fr)), .val (.int (Int32.ofNat os)), .val (.ref b14), .unset] [(.int ((((i0.toUInt64 >>> ((24 : Int32) &&& 0x3f).toInt64.toUInt64).toInt64).toInt32).toInt8.toInt32)), (.int (3 : Int32)), (.ref b14)])) rfl rfl (hb hby at_70)
  have N34 := Fr.snoc X34 N29 g_b14
  have Z_35 : n0 ≤ h34.size := Nat.le_trans Z_30 (Keep.of_wr W34).1
  have V_36 : Arv Z h34 b14 k14 .byte (16 : Int32) [(.int (nar .byte ((i0.toInt32).toInt8.toInt32))), (.int (nar .byte ((((i0.toUInt64 >>> ((8 : Int32) &&& 0x3f).toInt64.toUInt64).toInt64).toInt32).toInt8.toInt32))), (.int (nar .byte ((((i0.toUInt64 >>> ((16 : Int32) &&& 0x3f).toInt64.toUInt64).toInt64).toInt32).toInt8.toInt32))), (.int (nar .byte ((((i0.toUInt64 >>> ((24 : Int32) &&& 0x3f).toInt64.toUInt64).toInt64).toInt32).toInt8.toInt32))), (.int (0 : Int32)), (.int (0 : Int32)), (.int (0 : Int32)), (.int (0 : Int32)), (.int (0 : Int32)), (.int (0 : Int32)), (.int (0 : Int32)), (.int (0 : Int32)), (.int (0 : Int32)), (.int (0 : Int32)), (.int (0 : Int32)), (.int (0 : Int32))] (.int (0 : Int32)) := Arv.set Ar34 qc34 S34 N34_ H34 G34 (fits_nar_byte _) W34 3 rfl (Nat.le_of_ble_eq_true rfl)
  have P37 : own_Rch p.tables e below A0 (T34.setTop (mkF m 71 #[.val (.long i0), .second, .val (.long i1), .second, .val (.int i2), .val (.int i3), .val (.int i4), .val (.int i5), .val (.int (Int32.ofNat wd)), .val (.int (Int32.ofNat cn)), .val (.int (Int32.ofNat fr)), .val (.int (Int32.ofNat os)), .val (.ref b14), .unset] [])) := fun t k => P33 t (st34 t k)
  have P38 : own_Rch p.tables e below A0 (T34.setTop (mkF m 80 #[.val (.long i0), .second, .val (.long i1), .second, .val (.int i2), .val (.int i3), .val (.int i4), .val (.int i5), .val (.int (Int32.ofNat wd)), .val (.int (Int32.ofNat cn)), .val (.int (Int32.ofNat fr)), .val (.int (Int32.ofNat os)), .val (.ref b14), .unset] [(.int ((((i0.toUInt64 >>> ((32 : Int32) &&& 0x3f).toInt64.toUInt64).toInt64).toInt32).toInt8.toInt32)), (.int (4 : Int32)), (.ref b14)])) := fun t k => P37 t (by
    show Steps p.tables e below (T34.setTop (mkF m 71 #[.val (.long i0), .second, .val (.long i1), .second, .val (.int i2), .val (.int i3), .val (.int i4), .val (.int i5), .val (.int (Int32.ofNat wd)), .val (.int (Int32.ofNat cn)), .val (.int (Int32.ofNat fr)), .val (.int (Int32.ofNat os)), .val (.ref b14), .unset] [])) _
    refine XS.aload X34.here hx rfl (hb hby at_71) rfl rfl ?_
    show Steps p.tables e below (T34.setTop (mkF m 73 #[.val (.long i0), .second, .val (.long i1), .second, .val (.int i2), .val (.int i3), .val (.int i4), .val (.int i5), .val (.int (Int32.ofNat wd)), .val (.int (Int32.ofNat cn)), .val (.int (Int32.ofNat fr)), .val (.int (Int32.ofNat os)), .val (.ref b14), .unset] [(.ref b14)])) _
    refine XS.iconst X34.here hx rfl (hb hby at_73) ?_
    show Steps p.tables e below (T34.setTop (mkF m 74 #[.val (.long i0), .second, .val (.long i1), .second, .val (.int i2), .val (.int i3), .val (.int i4), .val (.int i5), .val (.int (Int32.ofNat wd)), .val (.int (Int32.ofNat cn)), .val (.int (Int32.ofNat fr)), .val (.int (Int32.ofNat os)), .val (.ref b14), .unset] [(.int (4 : Int32)), (.ref b14)])) _
    refine XS.lloadN X34.here hx rfl (hb hby at_74) rfl ?_
    show Steps p.tables e below (T34.setTop (mkF m 75 #[.val (.long i0), .second, .val (.long i1), .second, .val (.int i2), .val (.int i3), .val (.int i4), .val (.int i5), .val (.int (Int32.ofNat wd)), .val (.int (Int32.ofNat cn)), .val (.int (Int32.ofNat fr)), .val (.int (Int32.ofNat os)), .val (.ref b14), .unset] [(.long i0), (.int (4 : Int32)), (.ref b14)])) _
    refine XS.bipush X34.here hx rfl (hb hby at_75) ?_
    show Steps p.tables e below (T34.setTop (mkF m 77 #[.val (.long i0), .second, .val (.long i1), .second, .val (.int i2), .val (.int i3), .val (.int i4), .val (.int i5), .val (.int (Int32.ofNat wd)), .val (.int (Int32.ofNat cn)), .val (.int (Int32.ofNat fr)), .val (.int (Int32.ofNat os)), .val (.ref b14), .unset] [(.int (32 : Int32)), (.long i0), (.int (4 : Int32)), (.ref b14)])) _
    refine XS.lushr X34.here hx rfl (hb hby at_77) rfl ?_
    show Steps p.tables e below (T34.setTop (mkF m 78 #[.val (.long i0), .second, .val (.long i1), .second, .val (.int i2), .val (.int i3), .val (.int i4), .val (.int i5), .val (.int (Int32.ofNat wd)), .val (.int (Int32.ofNat cn)), .val (.int (Int32.ofNat fr)), .val (.int (Int32.ofNat os)), .val (.ref b14), .unset] [(.long ((i0.toUInt64 >>> ((32 : Int32) &&& 0x3f).toInt64.toUInt64).toInt64)), (.int (4 : Int32)), (.ref b14)])) _
    refine XS.l2i X34.here hx rfl (hb hby at_78) rfl ?_
    show Steps p.tables e below (T34.setTop (mkF m 79 #[.val (.long i0), .second, .val (.long i1), .second, .val (.int i2), .val (.int i3), .val (.int i4), .val (.int i5), .val (.int (Int32.ofNat wd)), .val (.int (Int32.ofNat cn)), .val (.int (Int32.ofNat fr)), .val (.int (Int32.ofNat os)), .val (.ref b14), .unset] [(.int (((i0.toUInt64 >>> ((32 : Int32) &&& 0x3f).toInt64.toUInt64).toInt64).toInt32)), (.int (4 : Int32)), (.ref b14)])) _
    refine XS.i2b X34.here hx rfl (hb hby at_79) rfl ?_
    exact k)
  obtain ⟨cl39, Ar39, qc39, S39, N39_, H39, G39⟩ := V_36
  have hin39 : ¬ ((4 : Int32) < 0 ∨ cl39.slots.size ≤ ((4 : Int32)).toNatClampNeg) := inb_of S39 ⟨by decide, by decide⟩
  obtain ⟨T39, h39, X39, e39, W39, st39⟩ := stB X34 hx hZ e34 Ar39 (j := (4 : Int32)) hin39 (g := (mkF m 80 #[.val (.long i0), .second, .val (.long i1), .second, .val (.int i2), .val (.int i3), .val (.int i4), .val (.int i5), .val (.int (Int32.ofNat wd)), .val (.int (Int32.ofNat cn)), .val (.int (Int32.ofNat fr)), .val (.int (Int32.ofNat os)), .val (.ref b14), .unset] [(.int ((((i0.toUInt64 >>> ((32 : Int32) &&& 0x3f).toInt64.toUInt64).toInt64).toInt32).toInt8.toInt32)), (.int (4 : Int32)), (.ref b14)])) rfl rfl (hb hby at_80)
  have N39 := Fr.snoc X39 N34 g_b14
  have Z_40 : n0 ≤ h39.size := Nat.le_trans Z_35 (Keep.of_wr W39).1
  have V_41 : Arv Z h39 b14 k14 .byte (16 : Int32) [(.int (nar .byte ((i0.toInt32).toInt8.toInt32))), (.int (nar .byte ((((i0.toUInt64 >>> ((8 : Int32) &&& 0x3f).toInt64.toUInt64).toInt64).toInt32).toInt8.toInt32))), (.int (nar .byte ((((i0.toUInt64 >>> ((16 : Int32) &&& 0x3f).toInt64.toUInt64).toInt64).toInt32).toInt8.toInt32))), (.int (nar .byte ((((i0.toUInt64 >>> ((24 : Int32) &&& 0x3f).toInt64.toUInt64).toInt64).toInt32).toInt8.toInt32))), (.int (nar .byte ((((i0.toUInt64 >>> ((32 : Int32) &&& 0x3f).toInt64.toUInt64).toInt64).toInt32).toInt8.toInt32))), (.int (0 : Int32)), (.int (0 : Int32)), (.int (0 : Int32)), (.int (0 : Int32)), (.int (0 : Int32)), (.int (0 : Int32)), (.int (0 : Int32)), (.int (0 : Int32)), (.int (0 : Int32)), (.int (0 : Int32)), (.int (0 : Int32))] (.int (0 : Int32)) := Arv.set Ar39 qc39 S39 N39_ H39 G39 (fits_nar_byte _) W39 4 rfl (Nat.le_of_ble_eq_true rfl)
  have P42 : own_Rch p.tables e below A0 (T39.setTop (mkF m 81 #[.val (.long i0), .second, .val (.long i1), .second, .val (.int i2), .val (.int i3), .val (.int i4), .val (.int i5), .val (.int (Int32.ofNat wd)), .val (.int (Int32.ofNat cn)), .val (.int (Int32.ofNat fr)), .val (.int (Int32.ofNat os)), .val (.ref b14), .unset] [])) := fun t k => P38 t (st39 t k)
  obtain ⟨Lp43, X43, N43⟩ : ∃ Lp : List Loc, Stand p l e room_1 s m args' below meth c T39 Lp (0 + 1) (0 + 16) ∧ Fr n0 Lp := ⟨_, X39, N39⟩
  have P44 : own_Rch p.tables e below A0 (T39.setTop (mkF m 90 #[.val (.long i0), .second, .val (.long i1), .second, .val (.int i2), .val (.int i3), .val (.int i4), .val (.int i5), .val (.int (Int32.ofNat wd)), .val (.int (Int32.ofNat cn)), .val (.int (Int32.ofNat fr)), .val (.int (Int32.ofNat os)), .val (.ref b14), .unset] [(.int ((((i0.toUInt64 >>> ((40 : Int32) &&& 0x3f).toInt64.toUInt64).toInt64).toInt32).toInt8.toInt32)), (.int (5 : Int32)), (.ref b14)])) := fun t k => P42 t (by
    show Steps p.tables e below (T39.setTop (mkF m 81 #[.val (.long i0), .second, .val (.long i1), .second, .val (.int i2), .val (.int i3), .val (.int i4), .val (.int i5), .val (.int (Int32.ofNat wd)), .val (.int (Int32.ofNat cn)), .val (.int (Int32.ofNat fr)), .val (.int (Int32.ofNat os)), .val (.ref b14), .unset] [])) _
    refine XS.aload X43.here hx rfl (hb hby at_81) rfl rfl ?_
    show Steps p.tables e below (T39.setTop (mkF m 83 #[.val (.long i0), .second, .val (.long i1), .second, .val (.int i2), .val (.int i3), .val (.int i4), .val (.int i5), .val (.int (Int32.ofNat wd)), .val (.int (Int32.ofNat cn)), .val (.int (Int32.ofNat fr)), .val (.int (Int32.ofNat os)), .val (.ref b14), .unset] [(.ref b14)])) _
    refine XS.iconst X43.here hx rfl (hb hby at_83) ?_
    show Steps p.tables e below (T39.setTop (mkF m 84 #[.val (.long i0), .second, .val (.long i1), .second, .val (.int i2), .val (.int i3), .val (.int i4), .val (.int i5), .val (.int (Int32.ofNat wd)), .val (.int (Int32.ofNat cn)), .val (.int (Int32.ofNat fr)), .val (.int (Int32.ofNat os)), .val (.ref b14), .unset] [(.int (5 : Int32)), (.ref b14)])) _
    refine XS.lloadN X43.here hx rfl (hb hby at_84) rfl ?_
    show Steps p.tables e below (T39.setTop (mkF m 85 #[.val (.long i0), .second, .val (.long i1), .second, .val (.int i2), .val (.int i3), .val (.int i4), .val (.int i5), .val (.int (Int32.ofNat wd)), .val (.int (Int32.ofNat cn)), .val (.int (Int32.ofNat fr)), .val (.int (Int32.ofNat os)), .val (.ref b14), .unset] [(.long i0), (.int (5 : Int32)), (.ref b14)])) _
    refine XS.bipush X43.here hx rfl (hb hby at_85) ?_
    show Steps p.tables e below (T39.setTop (mkF m 87 #[.val (.long i0), .second, .val (.long i1), .second, .val (.int i2), .val (.int i3), .val (.int i4), .val (.int i5), .val (.int (Int32.ofNat wd)), .val (.int (Int32.ofNat cn)), .val (.int (Int32.ofNat fr)), .val (.int (Int32.ofNat os)), .val (.ref b14), .unset] [(.int (40 : Int32)), (.long i0), (.int (5 : Int32)), (.ref b14)])) _
    refine XS.lushr X43.here hx rfl (hb hby at_87) rfl ?_
    show Steps p.tables e below (T39.setTop (mkF m 88 #[.val (.long i0), .second, .val (.long i1), .second, .val (.int i2), .val (.int i3), .val (.int i4), .val (.int i5), .val (.int (Int32.ofNat wd)), .val (.int (Int32.ofNat cn)), .val (.int (Int32.ofNat fr)), .val (.int (Int32.ofNat os)), .val (.ref b14), .unset] [(.long ((i0.toUInt64 >>> ((40 : Int32) &&& 0x3f).toInt64.toUInt64).toInt64)), (.int (5 : Int32)), (.ref b14)])) _
    refine XS.l2i X43.here hx rfl (hb hby at_88) rfl ?_
    show Steps p.tables e below (T39.setTop (mkF m 89 #[.val (.long i0), .second, .val (.long i1), .second, .val (.int i2), .val (.int i3), .val (.int i4), .val (.int i5), .val (.int (Int32.ofNat wd)), .val (.int (Int32.ofNat cn)), .val (.int (Int32.ofNat fr)), .val (.int (Int32.ofNat os)), .val (.ref b14), .unset] [(.int (((i0.toUInt64 >>> ((40 : Int32) &&& 0x3f).toInt64.toUInt64).toInt64).toInt32)), (.int (5 : Int32)), (.ref b14)])) _
    refine XS.i2b X43.here hx rfl (hb hby at_89) rfl ?_
    exact k)
  obtain ⟨cl45, Ar45, qc45, S45, N45_, H45, G45⟩ := V_41
  have hin45 : ¬ ((5 : Int32) < 0 ∨ cl45.slots.size ≤ ((5 : Int32)).toNatClampNeg) := inb_of S45 ⟨by decide, by decide⟩
  obtain ⟨T45, h45, X45, e45, W45, st45⟩ := stB X43 hx hZ e39 Ar45 (j := (5 : Int32)) hin45 (g := (mkF m 90 #[.val (.long i0), .second, .val (.long i1), .second, .val (.int i2), .val (.int i3), .val (.int i4), .val (.int i5), .val (.int (Int32.ofNat wd)), .val (.int (Int32.ofNat cn)), .val (.int (Int32.ofNat fr)), .val (.int (Int32.ofNat os)), .val (.ref b14), .unset] [(.int ((((i0.toUInt64 >>> ((40 : Int32) &&& 0x3f).toInt64.toUInt64).toInt64).toInt32).toInt8.toInt32)), (.int (5 : Int32)), (.ref b14)])) rfl rfl (hb hby at_90)
  have N45 := Fr.snoc X45 N43 g_b14
  have Z_46 : n0 ≤ h45.size := Nat.le_trans Z_40 (Keep.of_wr W45).1
  have V_47 : Arv Z h45 b14 k14 .byte (16 : Int32) [(.int (nar .byte ((i0.toInt32).toInt8.toInt32))), (.int (nar .byte ((((i0.toUInt64 >>> ((8 : Int32) &&& 0x3f).toInt64.toUInt64).toInt64).toInt32).toInt8.toInt32))), (.int (nar .byte ((((i0.toUInt64 >>> ((16 : Int32) &&& 0x3f).toInt64.toUInt64).toInt64).toInt32).toInt8.toInt32))), (.int (nar .byte ((((i0.toUInt64 >>> ((24 : Int32) &&& 0x3f).toInt64.toUInt64).toInt64).toInt32).toInt8.toInt32))), (.int (nar .byte ((((i0.toUInt64 >>> ((32 : Int32) &&& 0x3f).toInt64.toUInt64).toInt64).toInt32).toInt8.toInt32))), (.int (nar .byte ((((i0.toUInt64 >>> ((40 : Int32) &&& 0x3f).toInt64.toUInt64).toInt64).toInt32).toInt8.toInt32))), (.int (0 : Int32)), (.int (0 : Int32)), (.int (0 : Int32)), (.int (0 : Int32)), (.int (0 : Int32)), (.int (0 : Int32)), (.int (0 : Int32)), (.int (0 : Int32)), (.int (0 : Int32)), (.int (0 : Int32))] (.int (0 : Int32)) := Arv.set Ar45 qc45 S45 N45_ H45 G45 (fits_nar_byte _) W45 5 rfl (Nat.le_of_ble_eq_true rfl)
  have P48 : own_Rch p.tables e below A0 (T45.setTop (mkF m 91 #[.val (.long i0), .second, .val (.long i1), .second, .val (.int i2), .val (.int i3), .val (.int i4), .val (.int i5), .val (.int (Int32.ofNat wd)), .val (.int (Int32.ofNat cn)), .val (.int (Int32.ofNat fr)), .val (.int (Int32.ofNat os)), .val (.ref b14), .unset] [])) := fun t k => P44 t (st45 t k)
  have P49 : own_Rch p.tables e below A0 (T45.setTop (mkF m 101 #[.val (.long i0), .second, .val (.long i1), .second, .val (.int i2), .val (.int i3), .val (.int i4), .val (.int i5), .val (.int (Int32.ofNat wd)), .val (.int (Int32.ofNat cn)), .val (.int (Int32.ofNat fr)), .val (.int (Int32.ofNat os)), .val (.ref b14), .unset] [(.int ((((i0.toUInt64 >>> ((48 : Int32) &&& 0x3f).toInt64.toUInt64).toInt64).toInt32).toInt8.toInt32)), (.int (6 : Int32)), (.ref b14)])) := fun t k => P48 t (by
    show Steps p.tables e below (T45.setTop (mkF m 91 #[.val (.long i0), .second, .val (.long i1), .second, .val (.int i2), .val (.int i3), .val (.int i4), .val (.int i5), .val (.int (Int32.ofNat wd)), .val (.int (Int32.ofNat cn)), .val (.int (Int32.ofNat fr)), .val (.int (Int32.ofNat os)), .val (.ref b14), .unset] [])) _
    refine XS.aload X45.here hx rfl (hb hby at_91) rfl rfl ?_
    show Steps p.tables e below (T45.setTop (mkF m 93 #[.val (.long i0), .second, .val (.long i1), .second, .val (.int i2), .val (.int i3), .val (.int i4), .val (.int i5), .val (.int (Int32.ofNat wd)), .val (.int (Int32.ofNat cn)), .val (.int (Int32.ofNat fr)), .val (.int (Int32.ofNat os)), .val (.ref b14), .unset] [(.ref b14)])) _
    refine XS.bipush X45.here hx rfl (hb hby at_93) ?_
    show Steps p.tables e below (T45.setTop (mkF m 95 #[.val (.long i0), .second, .val (.long i1), .second, .val (.int i2), .val (.int i3), .val (.int i4), .val (.int i5), .val (.int (Int32.ofNat wd)), .val (.int (Int32.ofNat cn)), .val (.int (Int32.ofNat fr)), .val (.int (Int32.ofNat os)), .val (.ref b14), .unset] [(.int (6 : Int32)), (.ref b14)])) _
    refine XS.lloadN X45.here hx rfl (hb hby at_95) rfl ?_
    show Steps p.tables e below (T45.setTop (mkF m 96 #[.val (.long i0), .second, .val (.long i1), .second, .val (.int i2), .val (.int i3), .val (.int i4), .val (.int i5), .val (.int (Int32.ofNat wd)), .val (.int (Int32.ofNat cn)), .val (.int (Int32.ofNat fr)), .val (.int (Int32.ofNat os)), .val (.ref b14), .unset] [(.long i0), (.int (6 : Int32)), (.ref b14)])) _
    refine XS.bipush X45.here hx rfl (hb hby at_96) ?_
    show Steps p.tables e below (T45.setTop (mkF m 98 #[.val (.long i0), .second, .val (.long i1), .second, .val (.int i2), .val (.int i3), .val (.int i4), .val (.int i5), .val (.int (Int32.ofNat wd)), .val (.int (Int32.ofNat cn)), .val (.int (Int32.ofNat fr)), .val (.int (Int32.ofNat os)), .val (.ref b14), .unset] [(.int (48 : Int32)), (.long i0), (.int (6 : Int32)), (.ref b14)])) _
    refine XS.lushr X45.here hx rfl (hb hby at_98) rfl ?_
    show Steps p.tables e below (T45.setTop (mkF m 99 #[.val (.long i0), .second, .val (.long i1), .second, .val (.int i2), .val (.int i3), .val (.int i4), .val (.int i5), .val (.int (Int32.ofNat wd)), .val (.int (Int32.ofNat cn)), .val (.int (Int32.ofNat fr)), .val (.int (Int32.ofNat os)), .val (.ref b14), .unset] [(.long ((i0.toUInt64 >>> ((48 : Int32) &&& 0x3f).toInt64.toUInt64).toInt64)), (.int (6 : Int32)), (.ref b14)])) _
    refine XS.l2i X45.here hx rfl (hb hby at_99) rfl ?_
    show Steps p.tables e below (T45.setTop (mkF m 100 #[.val (.long i0), .second, .val (.long i1), .second, .val (.int i2), .val (.int i3), .val (.int i4), .val (.int i5), .val (.int (Int32.ofNat wd)), .val (.int (Int32.ofNat cn)), .val (.int (Int32.ofNat fr)), .val (.int (Int32.ofNat os)), .val (.ref b14), .unset] [(.int (((i0.toUInt64 >>> ((48 : Int32) &&& 0x3f).toInt64.toUInt64).toInt64).toInt32)), (.int (6 : Int32)), (.ref b14)])) _
    refine XS.i2b X45.here hx rfl (hb hby at_100) rfl ?_
    exact k)
  obtain ⟨cl50, Ar50, qc50, S50, N50_, H50, G50⟩ := V_47
  have hin50 : ¬ ((6 : Int32) < 0 ∨ cl50.slots.size ≤ ((6 : Int32)).toNatClampNeg) := inb_of S50 ⟨by decide, by decide⟩
  obtain ⟨T50, h50, X50, e50, W50, st50⟩ := stB X45 hx hZ e45 Ar50 (j := (6 : Int32)) hin50 (g := (mkF m 101 #[.val (.long i0), .second, .val (.long i1), .second, .val (.int i2), .val (.int i3), .val (.int i4), .val (.int i5), .val (.int (Int32.ofNat wd)), .val (.int (Int32.ofNat cn)), .val (.int (Int32.ofNat fr)), .val (.int (Int32.ofNat os)), .val (.ref b14), .unset] [(.int ((((i0.toUInt64 >>> ((48 : Int32) &&& 0x3f).toInt64.toUInt64).toInt64).toInt32).toInt8.toInt32)), (.int (6 : Int32)), (.ref b14)])) rfl rfl (hb hby at_101)
  have N50 := Fr.snoc X50 N45 g_b14
  have Z_51 : n0 ≤ h50.size := Nat.le_trans Z_46 (Keep.of_wr W50).1
  have V_52 : Arv Z h50 b14 k14 .byte (16 : Int32) [(.int (nar .byte ((i0.toInt32).toInt8.toInt32))), (.int (nar .byte ((((i0.toUInt64 >>> ((8 : Int32) &&& 0x3f).toInt64.toUInt64).toInt64).toInt32).toInt8.toInt32))), (.int (nar .byte ((((i0.toUInt64 >>> ((16 : Int32) &&& 0x3f).toInt64.toUInt64).toInt64).toInt32).toInt8.toInt32))), (.int (nar .byte ((((i0.toUInt64 >>> ((24 : Int32) &&& 0x3f).toInt64.toUInt64).toInt64).toInt32).toInt8.toInt32))), (.int (nar .byte ((((i0.toUInt64 >>> ((32 : Int32) &&& 0x3f).toInt64.toUInt64).toInt64).toInt32).toInt8.toInt32))), (.int (nar .byte ((((i0.toUInt64 >>> ((40 : Int32) &&& 0x3f).toInt64.toUInt64).toInt64).toInt32).toInt8.toInt32))), (.int (nar .byte ((((i0.toUInt64 >>> ((48 : Int32) &&& 0x3f).toInt64.toUInt64).toInt64).toInt32).toInt8.toInt32))), (.int (0 : Int32)), (.int (0 : Int32)), (.int (0 : Int32)), (.int (0 : Int32)), (.int (0 : Int32)), (.int (0 : Int32)), (.int (0 : Int32)), (.int (0 : Int32)), (.int (0 : Int32))] (.int (0 : Int32)) := Arv.set Ar50 qc50 S50 N50_ H50 G50 (fits_nar_byte _) W50 6 rfl (Nat.le_of_ble_eq_true rfl)
  have P53 : own_Rch p.tables e below A0 (T50.setTop (mkF m 102 #[.val (.long i0), .second, .val (.long i1), .second, .val (.int i2), .val (.int i3), .val (.int i4), .val (.int i5), .val (.int (Int32.ofNat wd)), .val (.int (Int32.ofNat cn)), .val (.int (Int32.ofNat fr)), .val (.int (Int32.ofNat os)), .val (.ref b14), .unset] [])) := fun t k => P49 t (st50 t k)
  have P54 : own_Rch p.tables e below A0 (T50.setTop (mkF m 112 #[.val (.long i0), .second, .val (.long i1), .second, .val (.int i2), .val (.int i3), .val (.int i4), .val (.int i5), .val (.int (Int32.ofNat wd)), .val (.int (Int32.ofNat cn)), .val (.int (Int32.ofNat fr)), .val (.int (Int32.ofNat os)), .val (.ref b14), .unset] [(.int ((((i0.toUInt64 >>> ((56 : Int32) &&& 0x3f).toInt64.toUInt64).toInt64).toInt32).toInt8.toInt32)), (.int (7 : Int32)), (.ref b14)])) := fun t k => P53 t (by
    show Steps p.tables e below (T50.setTop (mkF m 102 #[.val (.long i0), .second, .val (.long i1), .second, .val (.int i2), .val (.int i3), .val (.int i4), .val (.int i5), .val (.int (Int32.ofNat wd)), .val (.int (Int32.ofNat cn)), .val (.int (Int32.ofNat fr)), .val (.int (Int32.ofNat os)), .val (.ref b14), .unset] [])) _
    refine XS.aload X50.here hx rfl (hb hby at_102) rfl rfl ?_
    show Steps p.tables e below (T50.setTop (mkF m 104 #[.val (.long i0), .second, .val (.long i1), .second, .val (.int i2), .val (.int i3), .val (.int i4), .val (.int i5), .val (.int (Int32.ofNat wd)), .val (.int (Int32.ofNat cn)), .val (.int (Int32.ofNat fr)), .val (.int (Int32.ofNat os)), .val (.ref b14), .unset] [(.ref b14)])) _
    refine XS.bipush X50.here hx rfl (hb hby at_104) ?_
    show Steps p.tables e below (T50.setTop (mkF m 106 #[.val (.long i0), .second, .val (.long i1), .second, .val (.int i2), .val (.int i3), .val (.int i4), .val (.int i5), .val (.int (Int32.ofNat wd)), .val (.int (Int32.ofNat cn)), .val (.int (Int32.ofNat fr)), .val (.int (Int32.ofNat os)), .val (.ref b14), .unset] [(.int (7 : Int32)), (.ref b14)])) _
    refine XS.lloadN X50.here hx rfl (hb hby at_106) rfl ?_
    show Steps p.tables e below (T50.setTop (mkF m 107 #[.val (.long i0), .second, .val (.long i1), .second, .val (.int i2), .val (.int i3), .val (.int i4), .val (.int i5), .val (.int (Int32.ofNat wd)), .val (.int (Int32.ofNat cn)), .val (.int (Int32.ofNat fr)), .val (.int (Int32.ofNat os)), .val (.ref b14), .unset] [(.long i0), (.int (7 : Int32)), (.ref b14)])) _
    refine XS.bipush X50.here hx rfl (hb hby at_107) ?_
    show Steps p.tables e below (T50.setTop (mkF m 109 #[.val (.long i0), .second, .val (.long i1), .second, .val (.int i2), .val (.int i3), .val (.int i4), .val (.int i5), .val (.int (Int32.ofNat wd)), .val (.int (Int32.ofNat cn)), .val (.int (Int32.ofNat fr)), .val (.int (Int32.ofNat os)), .val (.ref b14), .unset] [(.int (56 : Int32)), (.long i0), (.int (7 : Int32)), (.ref b14)])) _
    refine XS.lushr X50.here hx rfl (hb hby at_109) rfl ?_
    show Steps p.tables e below (T50.setTop (mkF m 110 #[.val (.long i0), .second, .val (.long i1), .second, .val (.int i2), .val (.int i3), .val (.int i4), .val (.int i5), .val (.int (Int32.ofNat wd)), .val (.int (Int32.ofNat cn)), .val (.int (Int32.ofNat fr)), .val (.int (Int32.ofNat os)), .val (.ref b14), .unset] [(.long ((i0.toUInt64 >>> ((56 : Int32) &&& 0x3f).toInt64.toUInt64).toInt64)), (.int (7 : Int32)), (.ref b14)])) _
    refine XS.l2i X50.here hx rfl (hb hby at_110) rfl ?_
    show Steps p.tables e below (T50.setTop (mkF m 111 #[.val (.long i0), .second, .val (.long i1), .second, .val (.int i2), .val (.int i3), .val (.int i4), .val (.int i5), .val (.int (Int32.ofNat wd)), .val (.int (Int32.ofNat cn)), .val (.int (Int32.ofNat fr)), .val (.int (Int32.ofNat os)), .val (.ref b14), .unset] [(.int (((i0.toUInt64 >>> ((56 : Int32) &&& 0x3f).toInt64.toUInt64).toInt64).toInt32)), (.int (7 : Int32)), (.ref b14)])) _
    refine XS.i2b X50.here hx rfl (hb hby at_111) rfl ?_
    exact k)
  obtain ⟨cl55, Ar55, qc55, S55, N55_, H55, G55⟩ := V_52
  have hin55 : ¬ ((7 : Int32) < 0 ∨ cl55.slots.size ≤ ((7 : Int32)).toNatClampNeg) := inb_of S55 ⟨by decide, by decide⟩
  obtain ⟨T55, h55, X55, e55, W55, st55⟩ := stB X50 hx hZ e50 Ar55 (j := (7 : Int32)) hin55 (g := (mkF m 112 #[.val (.long i0), .second, .val (.long i1), .second, .val (.int i2), .val (.int i3), .val (.int i4), .val (.int i5), .val (.int (Int32.ofNat wd)), .val (.int (Int32.ofNat cn)), .val (.int (Int32.ofNat fr)), .val (.int (Int32.ofNat os)), .val (.ref b14), .unset] [(.int ((((i0.toUInt64 >>> ((56 : Int32) &&& 0x3f).toInt64.toUInt64).toInt64).toInt32).toInt8.toInt32)), (.int (7 : Int32)), (.ref b14)])) rfl rfl (hb hby at_112)
  have N55 := Fr.snoc X55 N50 g_b14
  have Z_56 : n0 ≤ h55.size := Nat.le_trans Z_51 (Keep.of_wr W55).1
  have V_57 : Arv Z h55 b14 k14 .byte (16 : Int32) [(.int (nar .byte ((i0.toInt32).toInt8.toInt32))), (.int (nar .byte ((((i0.toUInt64 >>> ((8 : Int32) &&& 0x3f).toInt64.toUInt64).toInt64).toInt32).toInt8.toInt32))), (.int (nar .byte ((((i0.toUInt64 >>> ((16 : Int32) &&& 0x3f).toInt64.toUInt64).toInt64).toInt32).toInt8.toInt32))), (.int (nar .byte ((((i0.toUInt64 >>> ((24 : Int32) &&& 0x3f).toInt64.toUInt64).toInt64).toInt32).toInt8.toInt32))), (.int (nar .byte ((((i0.toUInt64 >>> ((32 : Int32) &&& 0x3f).toInt64.toUInt64).toInt64).toInt32).toInt8.toInt32))), (.int (nar .byte ((((i0.toUInt64 >>> ((40 : Int32) &&& 0x3f).toInt64.toUInt64).toInt64).toInt32).toInt8.toInt32))), (.int (nar .byte ((((i0.toUInt64 >>> ((48 : Int32) &&& 0x3f).toInt64.toUInt64).toInt64).toInt32).toInt8.toInt32))), (.int (nar .byte ((((i0.toUInt64 >>> ((56 : Int32) &&& 0x3f).toInt64.toUInt64).toInt64).toInt32).toInt8.toInt32))), (.int (0 : Int32)), (.int (0 : Int32)), (.int (0 : Int32)), (.int (0 : Int32)), (.int (0 : Int32)), (.int (0 : Int32)), (.int (0 : Int32)), (.int (0 : Int32))] (.int (0 : Int32)) := Arv.set Ar55 qc55 S55 N55_ H55 G55 (fits_nar_byte _) W55 7 rfl (Nat.le_of_ble_eq_true rfl)
  have P58 : own_Rch p.tables e below A0 (T55.setTop (mkF m 113 #[.val (.long i0), .second, .val (.long i1), .second, .val (.int i2), .val (.int i3), .val (.int i4), .val (.int i5), .val (.int (Int32.ofNat wd)), .val (.int (Int32.ofNat cn)), .val (.int (Int32.ofNat fr)), .val (.int (Int32.ofNat os)), .val (.ref b14), .unset] [])) := fun t k => P54 t (st55 t k)
  have P59 : own_Rch p.tables e below A0 (T55.setTop (mkF m 120 #[.val (.long i0), .second, .val (.long i1), .second, .val (.int i2), .val (.int i3), .val (.int i4), .val (.int i5), .val (.int (Int32.ofNat wd)), .val (.int (Int32.ofNat cn)), .val (.int (Int32.ofNat fr)), .val (.int (Int32.ofNat os)), .val (.ref b14), .unset] [(.int ((i1.toInt32).toInt8.toInt32)), (.int (8 : Int32)), (.ref b14)])) := fun t k => P58 t (by
    show Steps p.tables e below (T55.setTop (mkF m 113 #[.val (.long i0), .second, .val (.long i1), .second, .val (.int i2), .val (.int i3), .val (.int i4), .val (.int i5), .val (.int (Int32.ofNat wd)), .val (.int (Int32.ofNat cn)), .val (.int (Int32.ofNat fr)), .val (.int (Int32.ofNat os)), .val (.ref b14), .unset] [])) _
    refine XS.aload X55.here hx rfl (hb hby at_113) rfl rfl ?_
    show Steps p.tables e below (T55.setTop (mkF m 115 #[.val (.long i0), .second, .val (.long i1), .second, .val (.int i2), .val (.int i3), .val (.int i4), .val (.int i5), .val (.int (Int32.ofNat wd)), .val (.int (Int32.ofNat cn)), .val (.int (Int32.ofNat fr)), .val (.int (Int32.ofNat os)), .val (.ref b14), .unset] [(.ref b14)])) _
    refine XS.bipush X55.here hx rfl (hb hby at_115) ?_
    show Steps p.tables e below (T55.setTop (mkF m 117 #[.val (.long i0), .second, .val (.long i1), .second, .val (.int i2), .val (.int i3), .val (.int i4), .val (.int i5), .val (.int (Int32.ofNat wd)), .val (.int (Int32.ofNat cn)), .val (.int (Int32.ofNat fr)), .val (.int (Int32.ofNat os)), .val (.ref b14), .unset] [(.int (8 : Int32)), (.ref b14)])) _
    refine XS.lloadN X55.here hx rfl (hb hby at_117) rfl ?_
    show Steps p.tables e below (T55.setTop (mkF m 118 #[.val (.long i0), .second, .val (.long i1), .second, .val (.int i2), .val (.int i3), .val (.int i4), .val (.int i5), .val (.int (Int32.ofNat wd)), .val (.int (Int32.ofNat cn)), .val (.int (Int32.ofNat fr)), .val (.int (Int32.ofNat os)), .val (.ref b14), .unset] [(.long i1), (.int (8 : Int32)), (.ref b14)])) _
    refine XS.l2i X55.here hx rfl (hb hby at_118) rfl ?_
    show Steps p.tables e below (T55.setTop (mkF m 119 #[.val (.long i0), .second, .val (.long i1), .second, .val (.int i2), .val (.int i3), .val (.int i4), .val (.int i5), .val (.int (Int32.ofNat wd)), .val (.int (Int32.ofNat cn)), .val (.int (Int32.ofNat fr)), .val (.int (Int32.ofNat os)), .val (.ref b14), .unset] [(.int (i1.toInt32)), (.int (8 : Int32)), (.ref b14)])) _
    refine XS.i2b X55.here hx rfl (hb hby at_119) rfl ?_
    exact k)
  obtain ⟨cl60, Ar60, qc60, S60, N60_, H60, G60⟩ := V_57
  have hin60 : ¬ ((8 : Int32) < 0 ∨ cl60.slots.size ≤ ((8 : Int32)).toNatClampNeg) := inb_of S60 ⟨by decide, by decide⟩
  obtain ⟨T60, h60, X60, e60, W60, st60⟩ := stB X55 hx hZ e55 Ar60 (j := (8 : Int32)) hin60 (g := (mkF m 120 #[.val (.long i0), .second, .val (.long i1), .second, .val (.int i2), .val (.int i3), .val (.int i4), .val (.int i5), .val (.int (Int32.ofNat wd)), .val (.int (Int32.ofNat cn)), .val (.int (Int32.ofNat fr)), .val (.int (Int32.ofNat os)), .val (.ref b14), .unset] [(.int ((i1.toInt32).toInt8.toInt32)), (.int (8 : Int32)), (.ref b14)])) rfl rfl (hb hby at_120)
  have N60 := Fr.snoc X60 N55 g_b14
  have Z_61 : n0 ≤ h60.size := Nat.le_trans Z_56 (Keep.of_wr W60).1
  have V_62 : Arv Z h60 b14 k14 .byte (16 : Int32) [(.int (nar .byte ((i0.toInt32).toInt8.toInt32))), (.int (nar .byte ((((i0.toUInt64 >>> ((8 : Int32) &&& 0x3f).toInt64.toUInt64).toInt64).toInt32).toInt8.toInt32))), (.int (nar .byte ((((i0.toUInt64 >>> ((16 : Int32) &&& 0x3f).toInt64.toUInt64).toInt64).toInt32).toInt8.toInt32))), (.int (nar .byte ((((i0.toUInt64 >>> ((24 : Int32) &&& 0x3f).toInt64.toUInt64).toInt64).toInt32).toInt8.toInt32))), (.int (nar .byte ((((i0.toUInt64 >>> ((32 : Int32) &&& 0x3f).toInt64.toUInt64).toInt64).toInt32).toInt8.toInt32))), (.int (nar .byte ((((i0.toUInt64 >>> ((40 : Int32) &&& 0x3f).toInt64.toUInt64).toInt64).toInt32).toInt8.toInt32))), (.int (nar .byte ((((i0.toUInt64 >>> ((48 : Int32) &&& 0x3f).toInt64.toUInt64).toInt64).toInt32).toInt8.toInt32))), (.int (nar .byte ((((i0.toUInt64 >>> ((56 : Int32) &&& 0x3f).toInt64.toUInt64).toInt64).toInt32).toInt8.toInt32))), (.int (nar .byte ((i1.toInt32).toInt8.toInt32))), (.int (0 : Int32)), (.int (0 : Int32)), (.int (0 : Int32)), (.int (0 : Int32)), (.int (0 : Int32)), (.int (0 : Int32)), (.int (0 : Int32))] (.int (0 : Int32)) := Arv.set Ar60 qc60 S60 N60_ H60 G60 (fits_nar_byte _) W60 8 rfl (Nat.le_of_ble_eq_true rfl)
  have P63 : own_Rch p.tables e below A0 (T60.setTop (mkF m 121 #[.val (.long i0), .second, .val (.long i1), .second, .val (.int i2), .val (.int i3), .val (.int i4), .val (.int i5), .val (.int (Int32.ofNat wd)), .val (.int (Int32.ofNat cn)), .val (.int (Int32.ofNat fr)), .val (.int (Int32.ofNat os)), .val (.ref b14), .unset] [])) := fun t k => P59 t (st60 t k)
  obtain ⟨Lp64, X64, N64⟩ : ∃ Lp : List Loc, Stand p l e room_1 s m args' below meth c T60 Lp (0 + 1) (0 + 16) ∧ Fr n0 Lp := ⟨_, X60, N60⟩
  have P65 : own_Rch p.tables e below A0 (T60.setTop (mkF m 131 #[.val (.long i0), .second, .val (.long i1), .second, .val (.int i2), .val (.int i3), .val (.int i4), .val (.int i5), .val (.int (Int32.ofNat wd)), .val (.int (Int32.ofNat cn)), .val (.int (Int32.ofNat fr)), .val (.int (Int32.ofNat os)), .val (.ref b14), .unset] [(.int ((((i1.toUInt64 >>> ((8 : Int32) &&& 0x3f).toInt64.toUInt64).toInt64).toInt32).toInt8.toInt32)), (.int (9 : Int32)), (.ref b14)])) := fun t k => P63 t (by
    show Steps p.tables e below (T60.setTop (mkF m 121 #[.val (.long i0), .second, .val (.long i1), .second, .val (.int i2), .val (.int i3), .val (.int i4), .val (.int i5), .val (.int (Int32.ofNat wd)), .val (.int (Int32.ofNat cn)), .val (.int (Int32.ofNat fr)), .val (.int (Int32.ofNat os)), .val (.ref b14), .unset] [])) _
    refine XS.aload X64.here hx rfl (hb hby at_121) rfl rfl ?_
    show Steps p.tables e below (T60.setTop (mkF m 123 #[.val (.long i0), .second, .val (.long i1), .second, .val (.int i2), .val (.int i3), .val (.int i4), .val (.int i5), .val (.int (Int32.ofNat wd)), .val (.int (Int32.ofNat cn)), .val (.int (Int32.ofNat fr)), .val (.int (Int32.ofNat os)), .val (.ref b14), .unset] [(.ref b14)])) _
    refine XS.bipush X64.here hx rfl (hb hby at_123) ?_
    show Steps p.tables e below (T60.setTop (mkF m 125 #[.val (.long i0), .second, .val (.long i1), .second, .val (.int i2), .val (.int i3), .val (.int i4), .val (.int i5), .val (.int (Int32.ofNat wd)), .val (.int (Int32.ofNat cn)), .val (.int (Int32.ofNat fr)), .val (.int (Int32.ofNat os)), .val (.ref b14), .unset] [(.int (9 : Int32)), (.ref b14)])) _
    refine XS.lloadN X64.here hx rfl (hb hby at_125) rfl ?_
    show Steps p.tables e below (T60.setTop (mkF m 126 #[.val (.long i0), .second, .val (.long i1), .second, .val (.int i2), .val (.int i3), .val (.int i4), .val (.int i5), .val (.int (Int32.ofNat wd)), .val (.int (Int32.ofNat cn)), .val (.int (Int32.ofNat fr)), .val (.int (Int32.ofNat os)), .val (.ref b14), .unset] [(.long i1), (.int (9 : Int32)), (.ref b14)])) _
    refine XS.bipush X64.here hx rfl (hb hby at_126) ?_
    show Steps p.tables e below (T60.setTop (mkF m 128 #[.val (.long i0), .second, .val (.long i1), .second, .val (.int i2), .val (.int i3), .val (.int i4), .val (.int i5), .val (.int (Int32.ofNat wd)), .val (.int (Int32.ofNat cn)), .val (.int (Int32.ofNat fr)), .val (.int (Int32.ofNat os)), .val (.ref b14), .unset] [(.int (8 : Int32)), (.long i1), (.int (9 : Int32)), (.ref b14)])) _
    refine XS.lushr X64.here hx rfl (hb hby at_128) rfl ?_
    show Steps p.tables e below (T60.setTop (mkF m 129 #[.val (.long i0), .second, .val (.long i1), .second, .val (.int i2), .val (.int i3), .val (.int i4), .val (.int i5), .val (.int (Int32.ofNat wd)), .val (.int (Int32.ofNat cn)), .val (.int (Int32.ofNat fr)), .val (.int (Int32.ofNat os)), .val (.ref b14), .unset] [(.long ((i1.toUInt64 >>> ((8 : Int32) &&& 0x3f).toInt64.toUInt64).toInt64)), (.int (9 : Int32)), (.ref b14)])) _
    refine XS.l2i X64.here hx rfl (hb hby at_129) rfl ?_
    show Steps p.tables e below (T60.setTop (mkF m 130 #[.val (.long i0), .second, .val (.long i1), .second, .val (.int i2), .val (.int i3), .val (.int i4), .val (.int i5), .val (.int (Int32.ofNat wd)), .val (.int (Int32.ofNat cn)), .val (.int (Int32.ofNat fr)), .val (.int (Int32.ofNat os)), .val (.ref b14), .unset] [(.int (((i1.toUInt64 >>> ((8 : Int32) &&& 0x3f).toInt64.toUInt64).toInt64).toInt32)), (.int (9 : Int32)), (.ref b14)])) _
    refine XS.i2b X64.here hx rfl (hb hby at_130) rfl ?_
    exact k)
  obtain ⟨cl66, Ar66, qc66, S66, N66_, H66, G66⟩ := V_62
  have hin66 : ¬ ((9 : Int32) < 0 ∨ cl66.slots.size ≤ ((9 : Int32)).toNatClampNeg) := inb_of S66 ⟨by decide, by decide⟩
  obtain ⟨T66, h66, X66, e66, W66, st66⟩ := stB X64 hx hZ e60 Ar66 (j := (9 : Int32)) hin66 (g := (mkF m 131 #[.val (.long i0), .second, .val (.long i1), .second, .val (.int i2), .val (.int i3), .val (.int i4), .val (.int i5), .val (.int (Int32.ofNat wd)), .val (.int (Int32.ofNat cn)), .val (.int (Int32.ofNat fr)), .val (.int (Int32.ofNat os)), .val (.ref b14), .unset] [(.int ((((i1.toUInt64 >>> ((8 : Int32) &&& 0x3f).toInt64.toUInt64).toInt64).toInt32).toInt8.toInt32)), (.int (9 : Int32)), (.ref b14)])) rfl rfl (hb hby at_131)
  have N66 := Fr.snoc X66 N64 g_b14
  have Z_67 : n0 ≤ h66.size := Nat.le_trans Z_61 (Keep.of_wr W66).1
  have V_68 : Arv Z h66 b14 k14 .byte (16 : Int32) [(.int (nar .byte ((i0.toInt32).toInt8.toInt32))), (.int (nar .byte ((((i0.toUInt64 >>> ((8 : Int32) &&& 0x3f).toInt64.toUInt64).toInt64).toInt32).toInt8.toInt32))), (.int (nar .byte ((((i0.toUInt64 >>> ((16 : Int32) &&& 0x3f).toInt64.toUInt64).toInt64).toInt32).toInt8.toInt32))), (.int (nar .byte ((((i0.toUInt64 >>> ((24 : Int32) &&& 0x3f).toInt64.toUInt64).toInt64).toInt32).toInt8.toInt32))), (.int (nar .byte ((((i0.toUInt64 >>> ((32 : Int32) &&& 0x3f).toInt64.toUInt64).toInt64).toInt32).toInt8.toInt32))), (.int (nar .byte ((((i0.toUInt64 >>> ((40 : Int32) &&& 0x3f).toInt64.toUInt64).toInt64).toInt32).toInt8.toInt32))), (.int (nar .byte ((((i0.toUInt64 >>> ((48 : Int32) &&& 0x3f).toInt64.toUInt64).toInt64).toInt32).toInt8.toInt32))), (.int (nar .byte ((((i0.toUInt64 >>> ((56 : Int32) &&& 0x3f).toInt64.toUInt64).toInt64).toInt32).toInt8.toInt32))), (.int (nar .byte ((i1.toInt32).toInt8.toInt32))), (.int (nar .byte ((((i1.toUInt64 >>> ((8 : Int32) &&& 0x3f).toInt64.toUInt64).toInt64).toInt32).toInt8.toInt32))), (.int (0 : Int32)), (.int (0 : Int32)), (.int (0 : Int32)), (.int (0 : Int32)), (.int (0 : Int32)), (.int (0 : Int32))] (.int (0 : Int32)) := Arv.set Ar66 qc66 S66 N66_ H66 G66 (fits_nar_byte _) W66 9 rfl (Nat.le_of_ble_eq_true rfl)
  have P69 : own_Rch p.tables e below A0 (T66.setTop (mkF m 132 #[.val (.long i0), .second, .val (.long i1), .second, .val (.int i2), .val (.int i3), .val (.int i4), .val (.int i5), .val (.int (Int32.ofNat wd)), .val (.int (Int32.ofNat cn)), .val (.int (Int32.ofNat fr)), .val (.int (Int32.ofNat os)), .val (.ref b14), .unset] [])) := fun t k => P65 t (st66 t k)
  have P70 : own_Rch p.tables e below A0 (T66.setTop (mkF m 142 #[.val (.long i0), .second, .val (.long i1), .second, .val (.int i2), .val (.int i3), .val (.int i4), .val (.int i5), .val (.int (Int32.ofNat wd)), .val (.int (Int32.ofNat cn)), .val (.int (Int32.ofNat fr)), .val (.int (Int32.ofNat os)), .val (.ref b14), .unset] [(.int ((((i1.toUInt64 >>> ((16 : Int32) &&& 0x3f).toInt64.toUInt64).toInt64).toInt32).toInt8.toInt32)), (.int (10 : Int32)), (.ref b14)])) := fun t k => P69 t (by
    show Steps p.tables e below (T66.setTop (mkF m 132 #[.val (.long i0), .second, .val (.long i1), .second, .val (.int i2), .val (.int i3), .val (.int i4), .val (.int i5), .val (.int (Int32.ofNat wd)), .val (.int (Int32.ofNat cn)), .val (.int (Int32.ofNat fr)), .val (.int (Int32.ofNat os)), .val (.ref b14), .unset] [])) _
    refine XS.aload X66.here hx rfl (hb hby at_132) rfl rfl ?_
    show Steps p.tables e below (T66.setTop (mkF m 134 #[.val (.long i0), .second, .val (.long i1), .second, .val (.int i2), .val (.int i3), .val (.int i4), .val (.int i5), .val (.int (Int32.ofNat wd)), .val (.int (Int32.ofNat cn)), .val (.int (Int32.ofNat fr)), .val (.int (Int32.ofNat os)), .val (.ref b14), .unset] [(.ref b14)])) _
    refine XS.bipush X66.here hx rfl (hb hby at_134) ?_
    show Steps p.tables e below (T66.setTop (mkF m 136 #[.val (.long i0), .second, .val (.long i1), .second, .val (.int i2), .val (.int i3), .val (.int i4), .val (.int i5), .val (.int (Int32.ofNat wd)), .val (.int (Int32.ofNat cn)), .val (.int (Int32.ofNat fr)), .val (.int (Int32.ofNat os)), .val (.ref b14), .unset] [(.int (10 : Int32)), (.ref b14)])) _
    refine XS.lloadN X66.here hx rfl (hb hby at_136) rfl ?_
    show Steps p.tables e below (T66.setTop (mkF m 137 #[.val (.long i0), .second, .val (.long i1), .second, .val (.int i2), .val (.int i3), .val (.int i4), .val (.int i5), .val (.int (Int32.ofNat wd)), .val (.int (Int32.ofNat cn)), .val (.int (Int32.ofNat fr)), .val (.int (Int32.ofNat os)), .val (.ref b14), .unset] [(.long i1), (.int (10 : Int32)), (.ref b14)])) _
    refine XS.bipush X66.here hx rfl (hb hby at_137) ?_
    show Steps p.tables e below (T66.setTop (mkF m 139 #[.val (.long i0), .second, .val (.long i1), .second, .val (.int i2), .val (.int i3), .val (.int i4), .val (.int i5), .val (.int (Int32.ofNat wd)), .val (.int (Int32.ofNat cn)), .val (.int (Int32.ofNat fr)), .val (.int (Int32.ofNat os)), .val (.ref b14), .unset] [(.int (16 : Int32)), (.long i1), (.int (10 : Int32)), (.ref b14)])) _
    refine XS.lushr X66.here hx rfl (hb hby at_139) rfl ?_
    show Steps p.tables e below (T66.setTop (mkF m 140 #[.val (.long i0), .second, .val (.long i1), .second, .val (.int i2), .val (.int i3), .val (.int i4), .val (.int i5), .val (.int (Int32.ofNat wd)), .val (.int (Int32.ofNat cn)), .val (.int (Int32.ofNat fr)), .val (.int (Int32.ofNat os)), .val (.ref b14), .unset] [(.long ((i1.toUInt64 >>> ((16 : Int32) &&& 0x3f).toInt64.toUInt64).toInt64)), (.int (10 : Int32)), (.ref b14)])) _
    refine XS.l2i X66.here hx rfl (hb hby at_140) rfl ?_
    show Steps p.tables e below (T66.setTop (mkF m 141 #[.val (.long i0), .second, .val (.long i1), .second, .val (.int i2), .val (.int i3), .val (.int i4), .val (.int i5), .val (.int (Int32.ofNat wd)), .val (.int (Int32.ofNat cn)), .val (.int (Int32.ofNat fr)), .val (.int (Int32.ofNat os)), .val (.ref b14), .unset] [(.int (((i1.toUInt64 >>> ((16 : Int32) &&& 0x3f).toInt64.toUInt64).toInt64).toInt32)), (.int (10 : Int32)), (.ref b14)])) _
    refine XS.i2b X66.here hx rfl (hb hby at_141) rfl ?_
    exact k)
  obtain ⟨cl71, Ar71, qc71, S71, N71_, H71, G71⟩ := V_68
  have hin71 : ¬ ((10 : Int32) < 0 ∨ cl71.slots.size ≤ ((10 : Int32)).toNatClampNeg) := inb_of S71 ⟨by decide, by decide⟩
  obtain ⟨T71, h71, X71, e71, W71, st71⟩ := stB X66 hx hZ e66 Ar71 (j := (10 : Int32)) hin71 (g := (mkF m 142 #[.val (.long i0), .second, .val (.long i1), .second, .val (.int i2), .val (.int i3), .val (.int i4), .val (.int i5), .val (.int (Int32.ofNat wd)), .val (.int (Int32.ofNat cn)), .val (.int (Int32.ofNat fr)), .val (.int (Int32.ofNat os)), .val (.ref b14), .unset] [(.int ((((i1.toUInt64 >>> ((16 : Int32) &&& 0x3f).toInt64.toUInt64).toInt64).toInt32).toInt8.toInt32)), (.int (10 : Int32)), (.ref b14)])) rfl rfl (hb hby at_142)
  have N71 := Fr.snoc X71 N66 g_b14
  have Z_72 : n0 ≤ h71.size := Nat.le_trans Z_67 (Keep.of_wr W71).1
  have V_73 : Arv Z h71 b14 k14 .byte (16 : Int32) [(.int (nar .byte ((i0.toInt32).toInt8.toInt32))), (.int (nar .byte ((((i0.toUInt64 >>> ((8 : Int32) &&& 0x3f).toInt64.toUInt64).toInt64).toInt32).toInt8.toInt32))), (.int (nar .byte ((((i0.toUInt64 >>> ((16 : Int32) &&& 0x3f).toInt64.toUInt64).toInt64).toInt32).toInt8.toInt32))), (.int (nar .byte ((((i0.toUInt64 >>> ((24 : Int32) &&& 0x3f).toInt64.toUInt64).toInt64).toInt32).toInt8.toInt32))), (.int (nar .byte ((((i0.toUInt64 >>> ((32 : Int32) &&& 0x3f).toInt64.toUInt64).toInt64).toInt32).toInt8.toInt32))), (.int (nar .byte ((((i0.toUInt64 >>> ((40 : Int32) &&& 0x3f).toInt64.toUInt64).toInt64).toInt32).toInt8.toInt32))), (.int (nar .byte ((((i0.toUInt64 >>> ((48 : Int32) &&& 0x3f).toInt64.toUInt64).toInt64).toInt32).toInt8.toInt32))), (.int (nar .byte ((((i0.toUInt64 >>> ((56 : Int32) &&& 0x3f).toInt64.toUInt64).toInt64).toInt32).toInt8.toInt32))), (.int (nar .byte ((i1.toInt32).toInt8.toInt32))), (.int (nar .byte ((((i1.toUInt64 >>> ((8 : Int32) &&& 0x3f).toInt64.toUInt64).toInt64).toInt32).toInt8.toInt32))), (.int (nar .byte ((((i1.toUInt64 >>> ((16 : Int32) &&& 0x3f).toInt64.toUInt64).toInt64).toInt32).toInt8.toInt32))), (.int (0 : Int32)), (.int (0 : Int32)), (.int (0 : Int32)), (.int (0 : Int32)), (.int (0 : Int32))] (.int (0 : Int32)) := Arv.set Ar71 qc71 S71 N71_ H71 G71 (fits_nar_byte _) W71 10 rfl (Nat.le_of_ble_eq_true rfl)
  have P74 : own_Rch p.tables e below A0 (T71.setTop (mkF m 143 #[.val (.long i0), .second, .val (.long i1), .second, .val (.int i2), .val (.int i3), .val (.int i4), .val (.int i5), .val (.int (Int32.ofNat wd)), .val (.int (Int32.ofNat cn)), .val (.int (Int32.ofNat fr)), .val (.int (Int32.ofNat os)), .val (.ref b14), .unset] [])) := fun t k => P70 t (st71 t k)
  have P75 : own_Rch p.tables e below A0 (T71.setTop (mkF m 153 #[.val (.long i0), .second, .val (.long i1), .second, .val (.int i2), .val (.int i3), .val (.int i4), .val (.int i5), .val (.int (Int32.ofNat wd)), .val (.int (Int32.ofNat cn)), .val (.int (Int32.ofNat fr)), .val (.int (Int32.ofNat os)), .val (.ref b14), .unset] [(.int ((((i1.toUInt64 >>> ((24 : Int32) &&& 0x3f).toInt64.toUInt64).toInt64).toInt32).toInt8.toInt32)), (.int (11 : Int32)), (.ref b14)])) := fun t k => P74 t (by
    show Steps p.tables e below (T71.setTop (mkF m 143 #[.val (.long i0), .second, .val (.long i1), .second, .val (.int i2), .val (.int i3), .val (.int i4), .val (.int i5), .val (.int (Int32.ofNat wd)), .val (.int (Int32.ofNat cn)), .val (.int (Int32.ofNat fr)), .val (.int (Int32.ofNat os)), .val (.ref b14), .unset] [])) _
    refine XS.aload X71.here hx rfl (hb hby at_143) rfl rfl ?_
    show Steps p.tables e below (T71.setTop (mkF m 145 #[.val (.long i0), .second, .val (.long i1), .second, .val (.int i2), .val (.int i3), .val (.int i4), .val (.int i5), .val (.int (Int32.ofNat wd)), .val (.int (Int32.ofNat cn)), .val (.int (Int32.ofNat fr)), .val (.int (Int32.ofNat os)), .val (.ref b14), .unset] [(.ref b14)])) _
    refine XS.bipush X71.here hx rfl (hb hby at_145) ?_
    show Steps p.tables e below (T71.setTop (mkF m 147 #[.val (.long i0), .second, .val (.long i1), .second, .val (.int i2), .val (.int i3), .val (.int i4), .val (.int i5), .val (.int (Int32.ofNat wd)), .val (.int (Int32.ofNat cn)), .val (.int (Int32.ofNat fr)), .val (.int (Int32.ofNat os)), .val (.ref b14), .unset] [(.int (11 : Int32)), (.ref b14)])) _
    refine XS.lloadN X71.here hx rfl (hb hby at_147) rfl ?_
    show Steps p.tables e below (T71.setTop (mkF m 148 #[.val (.long i0), .second, .val (.long i1), .second, .val (.int i2), .val (.int i3), .val (.int i4), .val (.int i5), .val (.int (Int32.ofNat wd)), .val (.int (Int32.ofNat cn)), .val (.int (Int32.ofNat fr)), .val (.int (Int32.ofNat os)), .val (.ref b14), .unset] [(.long i1), (.int (11 : Int32)), (.ref b14)])) _
    refine XS.bipush X71.here hx rfl (hb hby at_148) ?_
    show Steps p.tables e below (T71.setTop (mkF m 150 #[.val (.long i0), .second, .val (.long i1), .second, .val (.int i2), .val (.int i3), .val (.int i4), .val (.int i5), .val (.int (Int32.ofNat wd)), .val (.int (Int32.ofNat cn)), .val (.int (Int32.ofNat fr)), .val (.int (Int32.ofNat os)), .val (.ref b14), .unset] [(.int (24 : Int32)), (.long i1), (.int (11 : Int32)), (.ref b14)])) _
    refine XS.lushr X71.here hx rfl (hb hby at_150) rfl ?_
    show Steps p.tables e below (T71.setTop (mkF m 151 #[.val (.long i0), .second, .val (.long i1), .second, .val (.int i2), .val (.int i3), .val (.int i4), .val (.int i5), .val (.int (Int32.ofNat wd)), .val (.int (Int32.ofNat cn)), .val (.int (Int32.ofNat fr)), .val (.int (Int32.ofNat os)), .val (.ref b14), .unset] [(.long ((i1.toUInt64 >>> ((24 : Int32) &&& 0x3f).toInt64.toUInt64).toInt64)), (.int (11 : Int32)), (.ref b14)])) _
    refine XS.l2i X71.here hx rfl (hb hby at_151) rfl ?_
    show Steps p.tables e below (T71.setTop (mkF m 152 #[.val (.long i0), .second, .val (.long i1), .second, .val (.int i2), .val (.int i3), .val (.int i4), .val (.int i5), .val (.int (Int32.ofNat wd)), .val (.int (Int32.ofNat cn)), .val (.int (Int32.ofNat fr)), .val (.int (Int32.ofNat os)), .val (.ref b14), .unset] [(.int (((i1.toUInt64 >>> ((24 : Int32) &&& 0x3f).toInt64.toUInt64).toInt64).toInt32)), (.int (11 : Int32)), (.ref b14)])) _
    refine XS.i2b X71.here hx rfl (hb hby at_152) rfl ?_
    exact k)
  obtain ⟨cl76, Ar76, qc76, S76, N76_, H76, G76⟩ := V_73
  have hin76 : ¬ ((11 : Int32) < 0 ∨ cl76.slots.size ≤ ((11 : Int32)).toNatClampNeg) := inb_of S76 ⟨by decide, by decide⟩
  obtain ⟨T76, h76, X76, e76, W76, st76⟩ := stB X71 hx hZ e71 Ar76 (j := (11 : Int32)) hin76 (g := (mkF m 153 #[.val (.long i0), .second, .val (.long i1), .second, .val (.int i2), .val (.int i3), .val (.int i4), .val (.int i5), .val (.int (Int32.ofNat wd)), .val (.int (Int32.ofNat cn)), .val (.int (Int32.ofNat fr)), .val (.int (Int32.ofNat os)), .val (.ref b14), .unset] [(.int ((((i1.toUInt64 >>> ((24 : Int32) &&& 0x3f).toInt64.toUInt64).toInt64).toInt32).toInt8.toInt32)), (.int (11 : Int32)), (.ref b14)])) rfl rfl (hb hby at_153)
  have N76 := Fr.snoc X76 N71 g_b14
  have Z_77 : n0 ≤ h76.size := Nat.le_trans Z_72 (Keep.of_wr W76).1
  have V_78 : Arv Z h76 b14 k14 .byte (16 : Int32) [(.int (nar .byte ((i0.toInt32).toInt8.toInt32))), (.int (nar .byte ((((i0.toUInt64 >>> ((8 : Int32) &&& 0x3f).toInt64.toUInt64).toInt64).toInt32).toInt8.toInt32))), (.int (nar .byte ((((i0.toUInt64 >>> ((16 : Int32) &&& 0x3f).toInt64.toUInt64).toInt64).toInt32).toInt8.toInt32))), (.int (nar .byte ((((i0.toUInt64 >>> ((24 : Int32) &&& 0x3f).toInt64.toUInt64).toInt64).toInt32).toInt8.toInt32))), (.int (nar .byte ((((i0.toUInt64 >>> ((32 : Int32) &&& 0x3f).toInt64.toUInt64).toInt64).toInt32).toInt8.toInt32))), (.int (nar .byte ((((i0.toUInt64 >>> ((40 : Int32) &&& 0x3f).toInt64.toUInt64).toInt64).toInt32).toInt8.toInt32))), (.int (nar .byte ((((i0.toUInt64 >>> ((48 : Int32) &&& 0x3f).toInt64.toUInt64).toInt64).toInt32).toInt8.toInt32))), (.int (nar .byte ((((i0.toUInt64 >>> ((56 : Int32) &&& 0x3f).toInt64.toUInt64).toInt64).toInt32).toInt8.toInt32))), (.int (nar .byte ((i1.toInt32).toInt8.toInt32))), (.int (nar .byte ((((i1.toUInt64 >>> ((8 : Int32) &&& 0x3f).toInt64.toUInt64).toInt64).toInt32).toInt8.toInt32))), (.int (nar .byte ((((i1.toUInt64 >>> ((16 : Int32) &&& 0x3f).toInt64.toUInt64).toInt64).toInt32).toInt8.toInt32))), (.int (nar .byte ((((i1.toUInt64 >>> ((24 : Int32) &&& 0x3f).toInt64.toUInt64).toInt64).toInt32).toInt8.toInt32))), (.int (0 : Int32)), (.int (0 : Int32)), (.int (0 : Int32)), (.int (0 : Int32))] (.int (0 : Int32)) := Arv.set Ar76 qc76 S76 N76_ H76 G76 (fits_nar_byte _) W76 11 rfl (Nat.le_of_ble_eq_true rfl)
  have P79 : own_Rch p.tables e below A0 (T76.setTop (mkF m 154 #[.val (.long i0), .second, .val (.long i1), .second, .val (.int i2), .val (.int i3), .val (.int i4), .val (.int i5), .val (.int (Int32.ofNat wd)), .val (.int (Int32.ofNat cn)), .val (.int (Int32.ofNat fr)), .val (.int (Int32.ofNat os)), .val (.ref b14), .unset] [])) := fun t k => P75 t (st76 t k)
  obtain ⟨Lp80, X80, N80⟩ : ∃ Lp : List Loc, Stand p l e room_1 s m args' below meth c T76 Lp (0 + 1) (0 + 16) ∧ Fr n0 Lp := ⟨_, X76, N76⟩
  have P81 : own_Rch p.tables e below A0 (T76.setTop (mkF m 164 #[.val (.long i0), .second, .val (.long i1), .second, .val (.int i2), .val (.int i3), .val (.int i4), .val (.int i5), .val (.int (Int32.ofNat wd)), .val (.int (Int32.ofNat cn)), .val (.int (Int32.ofNat fr)), .val (.int (Int32.ofNat os)), .val (.ref b14), .unset] [(.int ((((i1.toUInt64 >>> ((32 : Int32) &&& 0x3f).toInt64.toUInt64).toInt64).toInt32).toInt8.toInt32)), (.int (12 : Int32)), (.ref b14)])) := fun t k => P79 t (by
    show Steps p.tables e below (T76.setTop (mkF m 154 #[.val (.long i0), .second, .val (.long i1), .second, .val (.int i2), .val (.int i3), .val (.int i4), .val (.int i5), .val (.int (Int32.ofNat wd)), .val (.int (Int32.ofNat cn)), .val (.int (Int32.ofNat fr)), .val (.int (Int32.ofNat os)), .val (.ref b14), .unset] [])) _
    refine XS.aload X80.here hx rfl (hb hby at_154) rfl rfl ?_
    show Steps p.tables e below (T76.setTop (mkF m 156 #[.val (.long i0), .second, .val (.long i1), .second, .val (.int i2), .val (.int i3), .val (.int i4), .val (.int i5), .val (.int (Int32.ofNat wd)), .val (.int (Int32.ofNat cn)), .val (.int (Int32.ofNat fr)), .val (.int (Int32.ofNat os)), .val (.ref b14), .unset] [(.ref b14)])) _
    refine XS.bipush X80.here hx rfl (hb hby at_156) ?_
    show Steps p.tables e below (T76.setTop (mkF m 158 #[.val (.long i0), .second, .val (.long i1), .second, .val (.int i2), .val (.int i3), .val (.int i4), .val (.int i5), .val (.int (Int32.ofNat wd)), .val (.int (Int32.ofNat cn)), .val (.int (Int32.ofNat fr)), .val (.int (Int32.ofNat os)), .val (.ref b14), .unset] [(.int (12 : Int32)), (.ref b14)])) _
    refine XS.lloadN X80.here hx rfl (hb hby at_158) rfl ?_
    show Steps p.tables e below (T76.setTop (mkF m 159 #[.val (.long i0), .second, .val (.long i1), .second, .val (.int i2), .val (.int i3), .val (.int i4), .val (.int i5), .val (.int (Int32.ofNat wd)), .val (.int (Int32.ofNat cn)), .val (.int (Int32.ofNat fr)), .val (.int (Int32.ofNat os)), .val (.ref b14), .unset] [(.long i1), (.int (12 : Int32)), (.ref b14)])) _
    refine XS.bipush X80.here hx rfl (hb hby at_159) ?_
    show Steps p.tables e below (T76.setTop (mkF m 161 #[.val (.long i0), .second, .val (.long i1), .second, .val (.int i2), .val (.int i3), .val (.int i4), .val (.int i5), .val (.int (Int32.ofNat wd)), .val (.int (Int32.ofNat cn)), .val (.int (Int32.ofNat fr)), .val (.int (Int32.ofNat os)), .val (.ref b14), .unset] [(.int (32 : Int32)), (.long i1), (.int (12 : Int32)), (.ref b14)])) _
    refine XS.lushr X80.here hx rfl (hb hby at_161) rfl ?_
    show Steps p.tables e below (T76.setTop (mkF m 162 #[.val (.long i0), .second, .val (.long i1), .second, .val (.int i2), .val (.int i3), .val (.int i4), .val (.int i5), .val (.int (Int32.ofNat wd)), .val (.int (Int32.ofNat cn)), .val (.int (Int32.ofNat fr)), .val (.int (Int32.ofNat os)), .val (.ref b14), .unset] [(.long ((i1.toUInt64 >>> ((32 : Int32) &&& 0x3f).toInt64.toUInt64).toInt64)), (.int (12 : Int32)), (.ref b14)])) _
    refine XS.l2i X80.here hx rfl (hb hby at_162) rfl ?_
    show Steps p.tables e below (T76.setTop (mkF m 163 #[.val (.long i0), .second, .val (.long i1), .second, .val (.int i2), .val (.int i3), .val (.int i4), .val (.int i5), .val (.int (Int32.ofNat wd)), .val (.int (Int32.ofNat cn)), .val (.int (Int32.ofNat fr)), .val (.int (Int32.ofNat os)), .val (.ref b14), .unset] [(.int (((i1.toUInt64 >>> ((32 : Int32) &&& 0x3f).toInt64.toUInt64).toInt64).toInt32)), (.int (12 : Int32)), (.ref b14)])) _
    refine XS.i2b X80.here hx rfl (hb hby at_163) rfl ?_
    exact k)
  obtain ⟨cl82, Ar82, qc82, S82, N82_, H82, G82⟩ := V_78
  have hin82 : ¬ ((12 : Int32) < 0 ∨ cl82.slots.size ≤ ((12 : Int32)).toNatClampNeg) := inb_of S82 ⟨by decide, by decide⟩
  obtain ⟨T82, h82, X82, e82, W82, st82⟩ := stB X80 hx hZ e76 Ar82 (j := (12 : Int32)) hin82 (g := (mkF m 164 #[.val (.long i0), .second, .val (.long i1), .second, .val (.int i2), .val (.int i3), .val (.int i4), .val (.int i5), .val (.int (Int32.ofNat wd)), .val (.int (Int32.ofNat cn)), .val (.int (Int32.ofNat fr)), .val (.int (Int32.ofNat os)), .val (.ref b14), .unset] [(.int ((((i1.toUInt64 >>> ((32 : Int32) &&& 0x3f).toInt64.toUInt64).toInt64).toInt32).toInt8.toInt32)), (.int (12 : Int32)), (.ref b14)])) rfl rfl (hb hby at_164)
  have N82 := Fr.snoc X82 N80 g_b14
  have Z_83 : n0 ≤ h82.size := Nat.le_trans Z_77 (Keep.of_wr W82).1
  have V_84 : Arv Z h82 b14 k14 .byte (16 : Int32) [(.int (nar .byte ((i0.toInt32).toInt8.toInt32))), (.int (nar .byte ((((i0.toUInt64 >>> ((8 : Int32) &&& 0x3f).toInt64.toUInt64).toInt64).toInt32).toInt8.toInt32))), (.int (nar .byte ((((i0.toUInt64 >>> ((16 : Int32) &&& 0x3f).toInt64.toUInt64).toInt64).toInt32).toInt8.toInt32))), (.int (nar .byte ((((i0.toUInt64 >>> ((24 : Int32) &&& 0x3f).toInt64.toUInt64).toInt64).toInt32).toInt8.toInt32))), (.int (nar .byte ((((i0.toUInt64 >>> ((32 : Int32) &&& 0x3f).toInt64.toUInt64).toInt64).toInt32).toInt8.toInt32))), (.int (nar .byte ((((i0.toUInt64 >>> ((40 : Int32) &&& 0x3f).toInt64.toUInt64).toInt64).toInt32).toInt8.toInt32))), (.int (nar .byte ((((i0.toUInt64 >>> ((48 : Int32) &&& 0x3f).toInt64.toUInt64).toInt64).toInt32).toInt8.toInt32))), (.int (nar .byte ((((i0.toUInt64 >>> ((56 : Int32) &&& 0x3f).toInt64.toUInt64).toInt64).toInt32).toInt8.toInt32))), (.int (nar .byte ((i1.toInt32).toInt8.toInt32))), (.int (nar .byte ((((i1.toUInt64 >>> ((8 : Int32) &&& 0x3f).toInt64.toUInt64).toInt64).toInt32).toInt8.toInt32))), (.int (nar .byte ((((i1.toUInt64 >>> ((16 : Int32) &&& 0x3f).toInt64.toUInt64).toInt64).toInt32).toInt8.toInt32))), (.int (nar .byte ((((i1.toUInt64 >>> ((24 : Int32) &&& 0x3f).toInt64.toUInt64).toInt64).toInt32).toInt8.toInt32))), (.int (nar .byte ((((i1.toUInt64 >>> ((32 : Int32) &&& 0x3f).toInt64.toUInt64).toInt64).toInt32).toInt8.toInt32))), (.int (0 : Int32)), (.int (0 : Int32)), (.int (0 : Int32))] (.int (0 : Int32)) := Arv.set Ar82 qc82 S82 N82_ H82 G82 (fits_nar_byte _) W82 12 rfl (Nat.le_of_ble_eq_true rfl)
  have P85 : own_Rch p.tables e below A0 (T82.setTop (mkF m 165 #[.val (.long i0), .second, .val (.long i1), .second, .val (.int i2), .val (.int i3), .val (.int i4), .val (.int i5), .val (.int (Int32.ofNat wd)), .val (.int (Int32.ofNat cn)), .val (.int (Int32.ofNat fr)), .val (.int (Int32.ofNat os)), .val (.ref b14), .unset] [])) := fun t k => P81 t (st82 t k)
  have P86 : own_Rch p.tables e below A0 (T82.setTop (mkF m 175 #[.val (.long i0), .second, .val (.long i1), .second, .val (.int i2), .val (.int i3), .val (.int i4), .val (.int i5), .val (.int (Int32.ofNat wd)), .val (.int (Int32.ofNat cn)), .val (.int (Int32.ofNat fr)), .val (.int (Int32.ofNat os)), .val (.ref b14), .unset] [(.int ((((i1.toUInt64 >>> ((40 : Int32) &&& 0x3f).toInt64.toUInt64).toInt64).toInt32).toInt8.toInt32)), (.int (13 : Int32)), (.ref b14)])) := fun t k => P85 t (by
    show Steps p.tables e below (T82.setTop (mkF m 165 #[.val (.long i0), .second, .val (.long i1), .second, .val (.int i2), .val (.int i3), .val (.int i4), .val (.int i5), .val (.int (Int32.ofNat wd)), .val (.int (Int32.ofNat cn)), .val (.int (Int32.ofNat fr)), .val (.int (Int32.ofNat os)), .val (.ref b14), .unset] [])) _
    refine XS.aload X82.here hx rfl (hb hby at_165) rfl rfl ?_
    show Steps p.tables e below (T82.setTop (mkF m 167 #[.val (.long i0), .second, .val (.long i1), .second, .val (.int i2), .val (.int i3), .val (.int i4), .val (.int i5), .val (.int (Int32.ofNat wd)), .val (.int (Int32.ofNat cn)), .val (.int (Int32.ofNat fr)), .val (.int (Int32.ofNat os)), .val (.ref b14), .unset] [(.ref b14)])) _
    refine XS.bipush X82.here hx rfl (hb hby at_167) ?_
    show Steps p.tables e below (T82.setTop (mkF m 169 #[.val (.long i0), .second, .val (.long i1), .second, .val (.int i2), .val (.int i3), .val (.int i4), .val (.int i5), .val (.int (Int32.ofNat wd)), .val (.int (Int32.ofNat cn)), .val (.int (Int32.ofNat fr)), .val (.int (Int32.ofNat os)), .val (.ref b14), .unset] [(.int (13 : Int32)), (.ref b14)])) _
    refine XS.lloadN X82.here hx rfl (hb hby at_169) rfl ?_
    show Steps p.tables e below (T82.setTop (mkF m 170 #[.val (.long i0), .second, .val (.long i1), .second, .val (.int i2), .val (.int i3), .val (.int i4), .val (.int i5), .val (.int (Int32.ofNat wd)), .val (.int (Int32.ofNat cn)), .val (.int (Int32.ofNat fr)), .val (.int (Int32.ofNat os)), .val (.ref b14), .unset] [(.long i1), (.int (13 : Int32)), (.ref b14)])) _
    refine XS.bipush X82.here hx rfl (hb hby at_170) ?_
    show Steps p.tables e below (T82.setTop (mkF m 172 #[.val (.long i0), .second, .val (.long i1), .second, .val (.int i2), .val (.int i3), .val (.int i4), .val (.int i5), .val (.int (Int32.ofNat wd)), .val (.int (Int32.ofNat cn)), .val (.int (Int32.ofNat fr)), .val (.int (Int32.ofNat os)), .val (.ref b14), .unset] [(.int (40 : Int32)), (.long i1), (.int (13 : Int32)), (.ref b14)])) _
    refine XS.lushr X82.here hx rfl (hb hby at_172) rfl ?_
    show Steps p.tables e below (T82.setTop (mkF m 173 #[.val (.long i0), .second, .val (.long i1), .second, .val (.int i2), .val (.int i3), .val (.int i4), .val (.int i5), .val (.int (Int32.ofNat wd)), .val (.int (Int32.ofNat cn)), .val (.int (Int32.ofNat fr)), .val (.int (Int32.ofNat os)), .val (.ref b14), .unset] [(.long ((i1.toUInt64 >>> ((40 : Int32) &&& 0x3f).toInt64.toUInt64).toInt64)), (.int (13 : Int32)), (.ref b14)])) _
    refine XS.l2i X82.here hx rfl (hb hby at_173) rfl ?_
    show Steps p.tables e below (T82.setTop (mkF m 174 #[.val (.long i0), .second, .val (.long i1), .second, .val (.int i2), .val (.int i3), .val (.int i4), .val (.int i5), .val (.int (Int32.ofNat wd)), .val (.int (Int32.ofNat cn)), .val (.int (Int32.ofNat fr)), .val (.int (Int32.ofNat os)), .val (.ref b14), .unset] [(.int (((i1.toUInt64 >>> ((40 : Int32) &&& 0x3f).toInt64.toUInt64).toInt64).toInt32)), (.int (13 : Int32)), (.ref b14)])) _
    refine XS.i2b X82.here hx rfl (hb hby at_174) rfl ?_
    exact k)
  obtain ⟨cl87, Ar87, qc87, S87, N87_, H87, G87⟩ := V_84
  have hin87 : ¬ ((13 : Int32) < 0 ∨ cl87.slots.size ≤ ((13 : Int32)).toNatClampNeg) := inb_of S87 ⟨by decide, by decide⟩
  obtain ⟨T87, h87, X87, e87, W87, st87⟩ := stB X82 hx hZ e82 Ar87 (j := (13 : Int32)) hin87 (g := (mkF m 175 #[.val (.long i0), .second, .val (.long i1), .second, .val (.int i2), .val (.int i3), .val (.int i4), .val (.int i5), .val (.int (Int32.ofNat wd)), .val (.int (Int32.ofNat cn)), .val (.int (Int32.ofNat fr)), .val (.int (Int32.ofNat os)), .val (.ref b14), .unset] [(.int ((((i1.toUInt64 >>> ((40 : Int32) &&& 0x3f).toInt64.toUInt64).toInt64).toInt32).toInt8.toInt32)), (.int (13 : Int32)), (.ref b14)])) rfl rfl (hb hby at_175)
  have N87 := Fr.snoc X87 N82 g_b14
  have Z_88 : n0 ≤ h87.size := Nat.le_trans Z_83 (Keep.of_wr W87).1
  have V_89 : Arv Z h87 b14 k14 .byte (16 : Int32) [(.int (nar .byte ((i0.toInt32).toInt8.toInt32))), (.int (nar .byte ((((i0.toUInt64 >>> ((8 : Int32) &&& 0x3f).toInt64.toUInt64).toInt64).toInt32).toInt8.toInt32))), (.int (nar .byte ((((i0.toUInt64 >>> ((16 : Int32) &&& 0x3f).toInt64.toUInt64).toInt64).toInt32).toInt8.toInt32))), (.int (nar .byte ((((i0.toUInt64 >>> ((24 : Int32) &&& 0x3f).toInt64.toUInt64).toInt64).toInt32).toInt8.toInt32))), (.int (nar .byte ((((i0.toUInt64 >>> ((32 : Int32) &&& 0x3f).toInt64.toUInt64).toInt64).toInt32).toInt8.toInt32))), (.int (nar .byte ((((i0.toUInt64 >>> ((40 : Int32) &&& 0x3f).toInt64.toUInt64).toInt64).toInt32).toInt8.toInt32))), (.int (nar .byte ((((i0.toUInt64 >>> ((48 : Int32) &&& 0x3f).toInt64.toUInt64).toInt64).toInt32).toInt8.toInt32))), (.int (nar .byte ((((i0.toUInt64 >>> ((56 : Int32) &&& 0x3f).toInt64.toUInt64).toInt64).toInt32).toInt8.toInt32))), (.int (nar .byte ((i1.toInt32).toInt8.toInt32))), (.int (nar .byte ((((i1.toUInt64 >>> ((8 : Int32) &&& 0x3f).toInt64.toUInt64).toInt64).toInt32).toInt8.toInt32))), (.int (nar .byte ((((i1.toUInt64 >>> ((16 : Int32) &&& 0x3f).toInt64.toUInt64).toInt64).toInt32).toInt8.toInt32))), (.int (nar .byte ((((i1.toUInt64 >>> ((24 : Int32) &&& 0x3f).toInt64.toUInt64).toInt64).toInt32).toInt8.toInt32))), (.int (nar .byte ((((i1.toUInt64 >>> ((32 : Int32) &&& 0x3f).toInt64.toUInt64).toInt64).toInt32).toInt8.toInt32))), (.int (nar .byte ((((i1.toUInt64 >>> ((40 : Int32) &&& 0x3f).toInt64.toUInt64).toInt64).toInt32).toInt8.toInt32))), (.int (0 : Int32)), (.int (0 : Int32))] (.int (0 : Int32)) := Arv.set Ar87 qc87 S87 N87_ H87 G87 (fits_nar_byte _) W87 13 rfl (Nat.le_of_ble_eq_true rfl)
  have P90 : own_Rch p.tables e below A0 (T87.setTop (mkF m 176 #[.val (.long i0), .second, .val (.long i1), .second, .val (.int i2), .val (.int i3), .val (.int i4), .val (.int i5), .val (.int (Int32.ofNat wd)), .val (.int (Int32.ofNat cn)), .val (.int (Int32.ofNat fr)), .val (.int (Int32.ofNat os)), .val (.ref b14), .unset] [])) := fun t k => P86 t (st87 t k)
  have P91 : own_Rch p.tables e below A0 (T87.setTop (mkF m 186 #[.val (.long i0), .second, .val (.long i1), .second, .val (.int i2), .val (.int i3), .val (.int i4), .val (.int i5), .val (.int (Int32.ofNat wd)), .val (.int (Int32.ofNat cn)), .val (.int (Int32.ofNat fr)), .val (.int (Int32.ofNat os)), .val (.ref b14), .unset] [(.int ((((i1.toUInt64 >>> ((48 : Int32) &&& 0x3f).toInt64.toUInt64).toInt64).toInt32).toInt8.toInt32)), (.int (14 : Int32)), (.ref b14)])) := fun t k => P90 t (by
    show Steps p.tables e below (T87.setTop (mkF m 176 #[.val (.long i0), .second, .val (.long i1), .second, .val (.int i2), .val (.int i3), .val (.int i4), .val (.int i5), .val (.int (Int32.ofNat wd)), .val (.int (Int32.ofNat cn)), .val (.int (Int32.ofNat fr)), .val (.int (Int32.ofNat os)), .val (.ref b14), .unset] [])) _
    refine XS.aload X87.here hx rfl (hb hby at_176) rfl rfl ?_
    show Steps p.tables e below (T87.setTop (mkF m 178 #[.val (.long i0), .second, .val (.long i1), .second, .val (.int i2), .val (.int i3), .val (.int i4), .val (.int i5), .val (.int (Int32.ofNat wd)), .val (.int (Int32.ofNat cn)), .val (.int (Int32.ofNat fr)), .val (.int (Int32.ofNat os)), .val (.ref b14), .unset] [(.ref b14)])) _
    refine XS.bipush X87.here hx rfl (hb hby at_178) ?_
    show Steps p.tables e below (T87.setTop (mkF m 180 #[.val (.long i0), .second, .val (.long i1), .second, .val (.int i2), .val (.int i3), .val (.int i4), .val (.int i5), .val (.int (Int32.ofNat wd)), .val (.int (Int32.ofNat cn)), .val (.int (Int32.ofNat fr)), .val (.int (Int32.ofNat os)), .val (.ref b14), .unset] [(.int (14 : Int32)), (.ref b14)])) _
    refine XS.lloadN X87.here hx rfl (hb hby at_180) rfl ?_
    show Steps p.tables e below (T87.setTop (mkF m 181 #[.val (.long i0), .second, .val (.long i1), .second, .val (.int i2), .val (.int i3), .val (.int i4), .val (.int i5), .val (.int (Int32.ofNat wd)), .val (.int (Int32.ofNat cn)), .val (.int (Int32.ofNat fr)), .val (.int (Int32.ofNat os)), .val (.ref b14), .unset] [(.long i1), (.int (14 : Int32)), (.ref b14)])) _
    refine XS.bipush X87.here hx rfl (hb hby at_181) ?_
    show Steps p.tables e below (T87.setTop (mkF m 183 #[.val (.long i0), .second, .val (.long i1), .second, .val (.int i2), .val (.int i3), .val (.int i4), .val (.int i5), .val (.int (Int32.ofNat wd)), .val (.int (Int32.ofNat cn)), .val (.int (Int32.ofNat fr)), .val (.int (Int32.ofNat os)), .val (.ref b14), .unset] [(.int (48 : Int32)), (.long i1), (.int (14 : Int32)), (.ref b14)])) _
    refine XS.lushr X87.here hx rfl (hb hby at_183) rfl ?_
    show Steps p.tables e below (T87.setTop (mkF m 184 #[.val (.long i0), .second, .val (.long i1), .second, .val (.int i2), .val (.int i3), .val (.int i4), .val (.int i5), .val (.int (Int32.ofNat wd)), .val (.int (Int32.ofNat cn)), .val (.int (Int32.ofNat fr)), .val (.int (Int32.ofNat os)), .val (.ref b14), .unset] [(.long ((i1.toUInt64 >>> ((48 : Int32) &&& 0x3f).toInt64.toUInt64).toInt64)), (.int (14 : Int32)), (.ref b14)])) _
    refine XS.l2i X87.here hx rfl (hb hby at_184) rfl ?_
    show Steps p.tables e below (T87.setTop (mkF m 185 #[.val (.long i0), .second, .val (.long i1), .second, .val (.int i2), .val (.int i3), .val (.int i4), .val (.int i5), .val (.int (Int32.ofNat wd)), .val (.int (Int32.ofNat cn)), .val (.int (Int32.ofNat fr)), .val (.int (Int32.ofNat os)), .val (.ref b14), .unset] [(.int (((i1.toUInt64 >>> ((48 : Int32) &&& 0x3f).toInt64.toUInt64).toInt64).toInt32)), (.int (14 : Int32)), (.ref b14)])) _
    refine XS.i2b X87.here hx rfl (hb hby at_185) rfl ?_
    exact k)
  obtain ⟨cl92, Ar92, qc92, S92, N92_, H92, G92⟩ := V_89
  have hin92 : ¬ ((14 : Int32) < 0 ∨ cl92.slots.size ≤ ((14 : Int32)).toNatClampNeg) := inb_of S92 ⟨by decide, by decide⟩
  obtain ⟨T92, h92, X92, e92, W92, st92⟩ := stB X87 hx hZ e87 Ar92 (j := (14 : Int32)) hin92 (g := (mkF m 186 #[.val (.long i0), .second, .val (.long i1), .second, .val (.int i2), .val (.int i3), .val (.int i4), .val (.int i5), .val (.int (Int32.ofNat wd)), .val (.int (Int32.ofNat cn)), .val (.int (Int32.ofNat fr)), .val (.int (Int32.ofNat os)), .val (.ref b14), .unset] [(.int ((((i1.toUInt64 >>> ((48 : Int32) &&& 0x3f).toInt64.toUInt64).toInt64).toInt32).toInt8.toInt32)), (.int (14 : Int32)), (.ref b14)])) rfl rfl (hb hby at_186)
  have N92 := Fr.snoc X92 N87 g_b14
  have Z_93 : n0 ≤ h92.size := Nat.le_trans Z_88 (Keep.of_wr W92).1
  have V_94 : Arv Z h92 b14 k14 .byte (16 : Int32) [(.int (nar .byte ((i0.toInt32).toInt8.toInt32))), (.int (nar .byte ((((i0.toUInt64 >>> ((8 : Int32) &&& 0x3f).toInt64.toUInt64).toInt64).toInt32).toInt8.toInt32))), (.int (nar .byte ((((i0.toUInt64 >>> ((16 : Int32) &&& 0x3f).toInt64.toUInt64).toInt64).toInt32).toInt8.toInt32))), (.int (nar .byte ((((i0.toUInt64 >>> ((24 : Int32) &&& 0x3f).toInt64.toUInt64).toInt64).toInt32).toInt8.toInt32))), (.int (nar .byte ((((i0.toUInt64 >>> ((32 : Int32) &&& 0x3f).toInt64.toUInt64).toInt64).toInt32).toInt8.toInt32))), (.int (nar .byte ((((i0.toUInt64 >>> ((40 : Int32) &&& 0x3f).toInt64.toUInt64).toInt64).toInt32).toInt8.toInt32))), (.int (nar .byte ((((i0.toUInt64 >>> ((48 : Int32) &&& 0x3f).toInt64.toUInt64).toInt64).toInt32).toInt8.toInt32))), (.int (nar .byte ((((i0.toUInt64 >>> ((56 : Int32) &&& 0x3f).toInt64.toUInt64).toInt64).toInt32).toInt8.toInt32))), (.int (nar .byte ((i1.toInt32).toInt8.toInt32))), (.int (nar .byte ((((i1.toUInt64 >>> ((8 : Int32) &&& 0x3f).toInt64.toUInt64).toInt64).toInt32).toInt8.toInt32))), (.int (nar .byte ((((i1.toUInt64 >>> ((16 : Int32) &&& 0x3f).toInt64.toUInt64).toInt64).toInt32).toInt8.toInt32))), (.int (nar .byte ((((i1.toUInt64 >>> ((24 : Int32) &&& 0x3f).toInt64.toUInt64).toInt64).toInt32).toInt8.toInt32))), (.int (nar .byte ((((i1.toUInt64 >>> ((32 : Int32) &&& 0x3f).toInt64.toUInt64).toInt64).toInt32).toInt8.toInt32))), (.int (nar .byte ((((i1.toUInt64 >>> ((40 : Int32) &&& 0x3f).toInt64.toUInt64).toInt64).toInt32).toInt8.toInt32))), (.int (nar .byte ((((i1.toUInt64 >>> ((48 : Int32) &&& 0x3f).toInt64.toUInt64).toInt64).toInt32).toInt8.toInt32))), (.int (0 : Int32))] (.int (0 : Int32)) := Arv.set Ar92 qc92 S92 N92_ H92 G92 (fits_nar_byte _) W92 14 rfl (Nat.le_of_ble_eq_true rfl)
  have P95 : own_Rch p.tables e below A0 (T92.setTop (mkF m 187 #[.val (.long i0), .second, .val (.long i1), .second, .val (.int i2), .val (.int i3), .val (.int i4), .val (.int i5), .val (.int (Int32.ofNat wd)), .val (.int (Int32.ofNat cn)), .val (.int (Int32.ofNat fr)), .val (.int (Int32.ofNat os)), .val (.ref b14), .unset] [])) := fun t k => P91 t (st92 t k)
  have P96 : own_Rch p.tables e below A0 (T92.setTop (mkF m 197 #[.val (.long i0), .second, .val (.long i1), .second, .val (.int i2), .val (.int i3), .val (.int i4), .val (.int i5), .val (.int (Int32.ofNat wd)), .val (.int (Int32.ofNat cn)), .val (.int (Int32.ofNat fr)), .val (.int (Int32.ofNat os)), .val (.ref b14), .unset] [(.int ((((i1.toUInt64 >>> ((56 : Int32) &&& 0x3f).toInt64.toUInt64).toInt64).toInt32).toInt8.toInt32)), (.int (15 : Int32)), (.ref b14)])) := fun t k => P95 t (by
    show Steps p.tables e below (T92.setTop (mkF m 187 #[.val (.long i0), .second, .val (.long i1), .second, .val (.int i2), .val (.int i3), .val (.int i4), .val (.int i5), .val (.int (Int32.ofNat wd)), .val (.int (Int32.ofNat cn)), .val (.int (Int32.ofNat fr)), .val (.int (Int32.ofNat os)), .val (.ref b14), .unset] [])) _
    refine XS.aload X92.here hx rfl (hb hby at_187) rfl rfl ?_
    show Steps p.tables e below (T92.setTop (mkF m 189 #[.val (.long i0), .second, .val (.long i1), .second, .val (.int i2), .val (.int i3), .val (.int i4), .val (.int i5), .val (.int (Int32.ofNat wd)), .val (.int (Int32.ofNat cn)), .val (.int (Int32.ofNat fr)), .val (.int (Int32.ofNat os)), .val (.ref b14), .unset] [(.ref b14)])) _
    refine XS.bipush X92.here hx rfl (hb hby at_189) ?_
    show Steps p.tables e below (T92.setTop (mkF m 191 #[.val (.long i0), .second, .val (.long i1), .second, .val (.int i2), .val (.int i3), .val (.int i4), .val (.int i5), .val (.int (Int32.ofNat wd)), .val (.int (Int32.ofNat cn)), .val (.int (Int32.ofNat fr)), .val (.int (Int32.ofNat os)), .val (.ref b14), .unset] [(.int (15 : Int32)), (.ref b14)])) _
    refine XS.lloadN X92.here hx rfl (hb hby at_191) rfl ?_
    show Steps p.tables e below (T92.setTop (mkF m 192 #[.val (.long i0), .second, .val (.long i1), .second, .val (.int i2), .val (.int i3), .val (.int i4), .val (.int i5), .val (.int (Int32.ofNat wd)), .val (.int (Int32.ofNat cn)), .val (.int (Int32.ofNat fr)), .val (.int (Int32.ofNat os)), .val (.ref b14), .unset] [(.long i1), (.int (15 : Int32)), (.ref b14)])) _
    refine XS.bipush X92.here hx rfl (hb hby at_192) ?_
    show Steps p.tables e below (T92.setTop (mkF m 194 #[.val (.long i0), .second, .val (.long i1), .second, .val (.int i2), .val (.int i3), .val (.int i4), .val (.int i5), .val (.int (Int32.ofNat wd)), .val (.int (Int32.ofNat cn)), .val (.int (Int32.ofNat fr)), .val (.int (Int32.ofNat os)), .val (.ref b14), .unset] [(.int (56 : Int32)), (.long i1), (.int (15 : Int32)), (.ref b14)])) _
    refine XS.lushr X92.here hx rfl (hb hby at_194) rfl ?_
    show Steps p.tables e below (T92.setTop (mkF m 195 #[.val (.long i0), .second, .val (.long i1), .second, .val (.int i2), .val (.int i3), .val (.int i4), .val (.int i5), .val (.int (Int32.ofNat wd)), .val (.int (Int32.ofNat cn)), .val (.int (Int32.ofNat fr)), .val (.int (Int32.ofNat os)), .val (.ref b14), .unset] [(.long ((i1.toUInt64 >>> ((56 : Int32) &&& 0x3f).toInt64.toUInt64).toInt64)), (.int (15 : Int32)), (.ref b14)])) _
    refine XS.l2i X92.here hx rfl (hb hby at_195) rfl ?_
    show Steps p.tables e below (T92.setTop (mkF m 196 #[.val (.long i0), .second, .val (.long i1), .second, .val (.int i2), .val (.int i3), .val (.int i4), .val (.int i5), .val (.int (Int32.ofNat wd)), .val (.int (Int32.ofNat cn)), .val (.int (Int32.ofNat fr)), .val (.int (Int32.ofNat os)), .val (.ref b14), .unset] [(.int (((i1.toUInt64 >>> ((56 : Int32) &&& 0x3f).toInt64.toUInt64).toInt64).toInt32)), (.int (15 : Int32)), (.ref b14)])) _
    refine XS.i2b X92.here hx rfl (hb hby at_196) rfl ?_
    exact k)
  obtain ⟨cl97, Ar97, qc97, S97, N97_, H97, G97⟩ := V_94
  have hin97 : ¬ ((15 : Int32) < 0 ∨ cl97.slots.size ≤ ((15 : Int32)).toNatClampNeg) := inb_of S97 ⟨by decide, by decide⟩
  obtain ⟨T97, h97, X97, e97, W97, st97⟩ := stB X92 hx hZ e92 Ar97 (j := (15 : Int32)) hin97 (g := (mkF m 197 #[.val (.long i0), .second, .val (.long i1), .second, .val (.int i2), .val (.int i3), .val (.int i4), .val (.int i5), .val (.int (Int32.ofNat wd)), .val (.int (Int32.ofNat cn)), .val (.int (Int32.ofNat fr)), .val (.int (Int32.ofNat os)), .val (.ref b14), .unset] [(.int ((((i1.toUInt64 >>> ((56 : Int32) &&& 0x3f).toInt64.toUInt64).toInt64).toInt32).toInt8.toInt32)), (.int (15 : Int32)), (.ref b14)])) rfl rfl (hb hby at_197)
  have N97 := Fr.snoc X97 N92 g_b14
  have Z_98 : n0 ≤ h97.size := Nat.le_trans Z_93 (Keep.of_wr W97).1
  have V_99 : Arv Z h97 b14 k14 .byte (16 : Int32) [(.int (nar .byte ((i0.toInt32).toInt8.toInt32))), (.int (nar .byte ((((i0.toUInt64 >>> ((8 : Int32) &&& 0x3f).toInt64.toUInt64).toInt64).toInt32).toInt8.toInt32))), (.int (nar .byte ((((i0.toUInt64 >>> ((16 : Int32) &&& 0x3f).toInt64.toUInt64).toInt64).toInt32).toInt8.toInt32))), (.int (nar .byte ((((i0.toUInt64 >>> ((24 : Int32) &&& 0x3f).toInt64.toUInt64).toInt64).toInt32).toInt8.toInt32))), (.int (nar .byte ((((i0.toUInt64 >>> ((32 : Int32) &&& 0x3f).toInt64.toUInt64).toInt64).toInt32).toInt8.toInt32))), (.int (nar .byte ((((i0.toUInt64 >>> ((40 : Int32) &&& 0x3f).toInt64.toUInt64).toInt64).toInt32).toInt8.toInt32))), (.int (nar .byte ((((i0.toUInt64 >>> ((48 : Int32) &&& 0x3f).toInt64.toUInt64).toInt64).toInt32).toInt8.toInt32))), (.int (nar .byte ((((i0.toUInt64 >>> ((56 : Int32) &&& 0x3f).toInt64.toUInt64).toInt64).toInt32).toInt8.toInt32))), (.int (nar .byte ((i1.toInt32).toInt8.toInt32))), (.int (nar .byte ((((i1.toUInt64 >>> ((8 : Int32) &&& 0x3f).toInt64.toUInt64).toInt64).toInt32).toInt8.toInt32))), (.int (nar .byte ((((i1.toUInt64 >>> ((16 : Int32) &&& 0x3f).toInt64.toUInt64).toInt64).toInt32).toInt8.toInt32))), (.int (nar .byte ((((i1.toUInt64 >>> ((24 : Int32) &&& 0x3f).toInt64.toUInt64).toInt64).toInt32).toInt8.toInt32))), (.int (nar .byte ((((i1.toUInt64 >>> ((32 : Int32) &&& 0x3f).toInt64.toUInt64).toInt64).toInt32).toInt8.toInt32))), (.int (nar .byte ((((i1.toUInt64 >>> ((40 : Int32) &&& 0x3f).toInt64.toUInt64).toInt64).toInt32).toInt8.toInt32))), (.int (nar .byte ((((i1.toUInt64 >>> ((48 : Int32) &&& 0x3f).toInt64.toUInt64).toInt64).toInt32).toInt8.toInt32))), (.int (nar .byte ((((i1.toUInt64 >>> ((56 : Int32) &&& 0x3f).toInt64.toUInt64).toInt64).toInt32).toInt8.toInt32)))] (.int (0 : Int32)) := Arv.set Ar97 qc97 S97 N97_ H97 G97 (fits_nar_byte _) W97 15 rfl (Nat.le_of_ble_eq_true rfl)
  have P100 : own_Rch p.tables e below A0 (T97.setTop (mkF m 198 #[.val (.long i0), .second, .val (.long i1), .second, .val (.int i2), .val (.int i3), .val (.int i4), .val (.int i5), .val (.int (Int32.ofNat wd)), .val (.int (Int32.ofNat cn)), .val (.int (Int32.ofNat fr)), .val (.int (Int32.ofNat os)), .val (.ref b14), .unset] [])) := fun t k => P96 t (st97 t k)
  obtain ⟨Lp101, X101, N101⟩ : ∃ Lp : List Loc, Stand p l e room_1 s m args' below meth c T97 Lp (0 + 1) (0 + 16) ∧ Fr n0 Lp := ⟨_, X97, N97⟩
  have P102 : own_Rch p.tables e below A0 (T97.setTop (mkF m 200 #[.val (.long i0), .second, .val (.long i1), .second, .val (.int i2), .val (.int i3), .val (.int i4), .val (.int i5), .val (.int (Int32.ofNat wd)), .val (.int (Int32.ofNat cn)), .val (.int (Int32.ofNat fr)), .val (.int (Int32.ofNat os)), .val (.ref b14), .unset] [(.int (6 : Int32))])) := fun t k => P100 t (by
    show Steps p.tables e below (T97.setTop (mkF m 198 #[.val (.long i0), .second, .val (.long i1), .second, .val (.int i2), .val (.int i3), .val (.int i4), .val (.int i5), .val (.int (Int32.ofNat wd)), .val (.int (Int32.ofNat cn)), .val (.int (Int32.ofNat fr)), .val (.int (Int32.ofNat os)), .val (.ref b14), .unset] [])) _
    refine XS.bipush X101.here hx rfl (hb hby at_198) ?_
    exact k)
  obtain ⟨T103, h103, k103, X103, e103, E103, A103, st103⟩ := newP X101 hx hZ (hw _ (List.mem_of_getElem? (i := 2) rfl)) e97 (g := (mkF m 200 #[.val (.long i0), .second, .val (.long i1), .second, .val (.int i2), .val (.int i3), .val (.int i4), .val (.int i5), .val (.int (Int32.ofNat wd)), .val (.int (Int32.ofNat cn)), .val (.int (Int32.ofNat fr)), .val (.int (Int32.ofNat os)), .val (.ref b14), .unset] [(.int (6 : Int32))])) rfl (hb hby at_200) rfl (by decide) (cap := 6) (by decide) (by decide) (by decide) (by decide)
  obtain ⟨b103, g103⟩ : ∃ z, z = h97.size := ⟨_, rfl⟩
  rw [← g103] at A103 st103
  have g_b103 : n0 ≤ b103 := Nat.le_trans Z_98 (Nat.le_of_eq g103.symm)
  have ne_b14_b103 : b14 ≠ b103 := Nat.ne_of_lt (Nat.lt_of_lt_of_le V_99.lt (Nat.le_of_eq g103.symm))
  have Z_104 : n0 ≤ h103.size := Nat.le_trans Z_98 E103.1
  have V_105 : Arv Z h103 b14 k14 .byte (16 : Int32) [(.int (nar .byte ((i0.toInt32).toInt8.toInt32))), (.int (nar .byte ((((i0.toUInt64 >>> ((8 : Int32) &&& 0x3f).toInt64.toUInt64).toInt64).toInt32).toInt8.toInt32))), (.int (nar .byte ((((i0.toUInt64 >>> ((16 : Int32) &&& 0x3f).toInt64.toUInt64).toInt64).toInt32).toInt8.toInt32))), (.int (nar .byte ((((i0.toUInt64 >>> ((24 : Int32) &&& 0x3f).toInt64.toUInt64).toInt64).toInt32).toInt8.toInt32))), (.int (nar .byte ((((i0.toUInt64 >>> ((32 : Int32) &&& 0x3f).toInt64.toUInt64).toInt64).toInt32).toInt8.toInt32))), (.int (nar .byte ((((i0.toUInt64 >>> ((40 : Int32) &&& 0x3f).toInt64.toUInt64).toInt64).toInt32).toInt8.toInt32))), (.int (nar .byte ((((i0.toUInt64 >>> ((48 : Int32) &&& 0x3f).toInt64.toUInt64).toInt64).toInt32).toInt8.toInt32))), (.int (nar .byte ((((i0.toUInt64 >>> ((56 : Int32) &&& 0x3f).toInt64.toUInt64).toInt64).toInt32).toInt8.toInt32))), (.int (nar .byte ((i1.toInt32).toInt8.toInt32))), (.int (nar .byte ((((i1.toUInt64 >>> ((8 : Int32) &&& 0x3f).toInt64.toUInt64).toInt64).toInt32).toInt8.toInt32))), (.int (nar .byte ((((i1.toUInt64 >>> ((16 : Int32) &&& 0x3f).toInt64.toUInt64).toInt64).toInt32).toInt8.toInt32))), (.int (nar .byte ((((i1.toUInt64 >>> ((24 : Int32) &&& 0x3f).toInt64.toUInt64).toInt64).toInt32).toInt8.toInt32))), (.int (nar .byte ((((i1.toUInt64 >>> ((32 : Int32) &&& 0x3f).toInt64.toUInt64).toInt64).toInt32).toInt8.toInt32))), (.int (nar .byte ((((i1.toUInt64 >>> ((40 : Int32) &&& 0x3f).toInt64.toUInt64).toInt64).toInt32).toInt8.toInt32))), (.int (nar .byte ((((i1.toUInt64 >>> ((48 : Int32) &&& 0x3f).toInt64.toUInt64).toInt64).toInt32).toInt8.toInt32))), (.int (nar .byte ((((i1.toUInt64 >>> ((56 : Int32) &&& 0x3f).toInt64.toUInt64).toInt64).toInt32).toInt8.toInt32)))] (.int (0 : Int32)) := V_99.ext E103
  have V_106 : Arv Z h103 b103 k103 .int (6 : Int32) [(.int (0 : Int32)), (.int (0 : Int32)), (.int (0 : Int32)), (.int (0 : Int32)), (.int (0 : Int32)), (.int (0 : Int32))] (.int (0 : Int32)) := (Arv.new A103 (by decide)).pad (pad_rep [] (.int (0 : Int32)) 6)
  have P107 : own_Rch p.tables e below A0 (T103.setTop (mkF m 202 #[.val (.long i0), .second, .val (.long i1), .second, .val (.int i2), .val (.int i3), .val (.int i4), .val (.int i5), .val (.int (Int32.ofNat wd)), .val (.int (Int32.ofNat cn)), .val (.int (Int32.ofNat fr)), .val (.int (Int32.ofNat os)), .val (.ref b14), .unset] [(.ref b103)])) := fun t k => P102 t (st103 t k)
  have P108 : own_Rch p.tables e below A0 (T103.setTop (mkF m 209 #[.val (.long i0), .second, .val (.long i1), .second, .val (.int i2), .val (.int i3), .val (.int i4), .val (.int i5), .val (.int (Int32.ofNat wd)), .val (.int (Int32.ofNat cn)), .val (.int (Int32.ofNat fr)), .val (.int (Int32.ofNat os)), .val (.ref b14), .val (.ref b103)] [(.int (1515870810 : Int32)), (.int (0 : Int32)), (.ref b103)])) := fun t k => P107 t (by
    show Steps p.tables e below (T103.setTop (mkF m 202 #[.val (.long i0), .second, .val (.long i1), .second, .val (.int i2), .val (.int i3), .val (.int i4), .val (.int i5), .val (.int (Int32.ofNat wd)), .val (.int (Int32.ofNat cn)), .val (.int (Int32.ofNat fr)), .val (.int (Int32.ofNat os)), .val (.ref b14), .unset] [(.ref b103)])) _
    refine XS.astore X103.here hx rfl (hb hby at_202) rfl rfl (l' := #[.val (.long i0), .second, .val (.long i1), .second, .val (.int i2), .val (.int i3), .val (.int i4), .val (.int i5), .val (.int (Int32.ofNat wd)), .val (.int (Int32.ofNat cn)), .val (.int (Int32.ofNat fr)), .val (.int (Int32.ofNat os)), .val (.ref b14), .val (.ref b103)]) rfl ?_
    show Steps p.tables e below (T103.setTop (mkF m 204 #[.val (.long i0), .second, .val (.long i1), .second, .val (.int i2), .val (.int i3), .val (.int i4), .val (.int i5), .val (.int (Int32.ofNat wd)), .val (.int (Int32.ofNat cn)), .val (.int (Int32.ofNat fr)), .val (.int (Int32.ofNat os)), .val (.ref b14), .val (.ref b103)] [])) _
    refine XS.aload X103.here hx rfl (hb hby at_204) rfl rfl ?_
    show Steps p.tables e below (T103.setTop (mkF m 206 #[.val (.long i0), .second, .val (.long i1), .second, .val (.int i2), .val (.int i3), .val (.int i4), .val (.int i5), .val (.int (Int32.ofNat wd)), .val (.int (Int32.ofNat cn)), .val (.int (Int32.ofNat fr)), .val (.int (Int32.ofNat os)), .val (.ref b14), .val (.ref b103)] [(.ref b103)])) _
    refine XS.iconst X103.here hx rfl (hb hby at_206) ?_
    show Steps p.tables e below (T103.setTop (mkF m 207 #[.val (.long i0), .second, .val (.long i1), .second, .val (.int i2), .val (.int i3), .val (.int i4), .val (.int i5), .val (.int (Int32.ofNat wd)), .val (.int (Int32.ofNat cn)), .val (.int (Int32.ofNat fr)), .val (.int (Int32.ofNat os)), .val (.ref b14), .val (.ref b103)] [(.int (0 : Int32)), (.ref b103)])) _
    refine X103.ldcInt hx hown (mvT hZ (hw _ (List.mem_of_getElem? (i := 3) rfl))) (g := (mkF m 207 #[.val (.long i0), .second, .val (.long i1), .second, .val (.int i2), .val (.int i3), .val (.int i4), .val (.int i5), .val (.int (Int32.ofNat wd)), .val (.int (Int32.ofNat cn)), .val (.int (Int32.ofNat fr)), .val (.int (Int32.ofNat os)), .val (.ref b14), .val (.ref b103)] [(.int (0 : Int32)), (.ref b103)])) rfl (hb hby at_207) _ ?_
    exact k)
  obtain ⟨cl109, Ar109, qc109, S109, N109_, H109, G109⟩ := V_106
  have hin109 : ¬ ((0 : Int32) < 0 ∨ cl109.slots.size ≤ ((0 : Int32)).toNatClampNeg) := inb_of S109 ⟨by decide, by decide⟩
  obtain ⟨T109, h109, X109, e109, W109, st109⟩ := stI X103 hx hZ e103 Ar109 (j := (0 : Int32)) hin109 (g := (mkF m 209 #[.val (.long i0), .second, .val (.long i1), .second, .val (.int i2), .val (.int i3), .val (.int i4), .val (.int i5), .val (.int (Int32.ofNat wd)), .val (.int (Int32.ofNat cn)), .val (.int (Int32.ofNat fr)), .val (.int (Int32.ofNat os)), .val (.ref b14), .val (.ref b103)] [(.int (1515870810 : Int32)), (.int (0 : Int32)), (.ref b103)])) rfl rfl (hb hby at_209)
  have N109 := Fr.snoc X109 N101 g_b103
  have Z_110 : n0 ≤ h109.size := Nat.le_trans Z_104 (Keep.of_wr W109).1
  have V_111 : Arv Z h109 b14 k14 .byte (16 : Int32) [(.int (nar .byte ((i0.toInt32).toInt8.toInt32))), (.int (nar .byte ((((i0.toUInt64 >>> ((8 : Int32) &&& 0x3f).toInt64.toUInt64).toInt64).toInt32).toInt8.toInt32))), (.int (nar .byte ((((i0.toUInt64 >>> ((16 : Int32) &&& 0x3f).toInt64.toUInt64).toInt64).toInt32).toInt8.toInt32))), (.int (nar .byte ((((i0.toUInt64 >>> ((24 : Int32) &&& 0x3f).toInt64.toUInt64).toInt64).toInt32).toInt8.toInt32))), (.int (nar .byte ((((i0.toUInt64 >>> ((32 : Int32) &&& 0x3f).toInt64.toUInt64).toInt64).toInt32).toInt8.toInt32))), (.int (nar .byte ((((i0.toUInt64 >>> ((40 : Int32) &&& 0x3f).toInt64.toUInt64).toInt64).toInt32).toInt8.toInt32))), (.int (nar .byte ((((i0.toUInt64 >>> ((48 : Int32) &&& 0x3f).toInt64.toUInt64).toInt64).toInt32).toInt8.toInt32))), (.int (nar .byte ((((i0.toUInt64 >>> ((56 : Int32) &&& 0x3f).toInt64.toUInt64).toInt64).toInt32).toInt8.toInt32))), (.int (nar .byte ((i1.toInt32).toInt8.toInt32))), (.int (nar .byte ((((i1.toUInt64 >>> ((8 : Int32) &&& 0x3f).toInt64.toUInt64).toInt64).toInt32).toInt8.toInt32))), (.int (nar .byte ((((i1.toUInt64 >>> ((16 : Int32) &&& 0x3f).toInt64.toUInt64).toInt64).toInt32).toInt8.toInt32))), (.int (nar .byte ((((i1.toUInt64 >>> ((24 : Int32) &&& 0x3f).toInt64.toUInt64).toInt64).toInt32).toInt8.toInt32))), (.int (nar .byte ((((i1.toUInt64 >>> ((32 : Int32) &&& 0x3f).toInt64.toUInt64).toInt64).toInt32).toInt8.toInt32))), (.int (nar .byte ((((i1.toUInt64 >>> ((40 : Int32) &&& 0x3f).toInt64.toUInt64).toInt64).toInt32).toInt8.toInt32))), (.int (nar .byte ((((i1.toUInt64 >>> ((48 : Int32) &&& 0x3f).toInt64.toUInt64).toInt64).toInt32).toInt8.toInt32))), (.int (nar .byte ((((i1.toUInt64 >>> ((56 : Int32) &&& 0x3f).toInt64.toUInt64).toInt64).toInt32).toInt8.toInt32)))] (.int (0 : Int32)) := V_105.other W109 ne_b14_b103
  have V_112 : Arv Z h109 b103 k103 .int (6 : Int32) [(.int (1515870810 : Int32)), (.int (0 : Int32)), (.int (0 : Int32)), (.int (0 : Int32)), (.int (0 : Int32)), (.int (0 : Int32))] (.int (0 : Int32)) := Arv.set Ar109 qc109 S109 N109_ H109 G109 rfl W109 0 rfl (Nat.le_of_ble_eq_true rfl)
  have P113 : own_Rch p.tables e below A0 (T109.setTop (mkF m 210 #[.val (.long i0), .second, .val (.long i1), .second, .val (.int i2), .val (.int i3), .val (.int i4), .val (.int i5), .val (.int (Int32.ofNat wd)), .val (.int (Int32.ofNat cn)), .val (.int (Int32.ofNat fr)), .val (.int (Int32.ofNat os)), .val (.ref b14), .val (.ref b103)] [])) := fun t k => P108 t (st109 t k)
  have P114 : own_Rch p.tables e below A0 (T109.setTop (mkF m 215 #[.val (.long i0), .second, .val (.long i1), .second, .val (.int i2), .val (.int i3), .val (.int i4), .val (.int i5), .val (.int (Int32.ofNat wd)), .val (.int (Int32.ofNat cn)), .val (.int (Int32.ofNat fr)), .val (.int (Int32.ofNat os)), .val (.ref b14), .val (.ref b103)] [(.int (1515870810 : Int32)), (.int (1 : Int32)), (.ref b103)])) := fun t k => P113 t (by
    show Steps p.tables e below (T109.setTop (mkF m 210 #[.val (.long i0), .second, .val (.long i1), .second, .val (.int i2), .val (.int i3), .val (.int i4), .val (.int i5), .val (.int (Int32.ofNat wd)), .val (.int (Int32.ofNat cn)), .val (.int (Int32.ofNat fr)), .val (.int (Int32.ofNat os)), .val (.ref b14), .val (.ref b103)] [])) _
    refine XS.aload X109.here hx rfl (hb hby at_210) rfl rfl ?_
    show Steps p.tables e below (T109.setTop (mkF m 212 #[.val (.long i0), .second, .val (.long i1), .second, .val (.int i2), .val (.int i3), .val (.int i4), .val (.int i5), .val (.int (Int32.ofNat wd)), .val (.int (Int32.ofNat cn)), .val (.int (Int32.ofNat fr)), .val (.int (Int32.ofNat os)), .val (.ref b14), .val (.ref b103)] [(.ref b103)])) _
    refine XS.iconst X109.here hx rfl (hb hby at_212) ?_
    show Steps p.tables e below (T109.setTop (mkF m 213 #[.val (.long i0), .second, .val (.long i1), .second, .val (.int i2), .val (.int i3), .val (.int i4), .val (.int i5), .val (.int (Int32.ofNat wd)), .val (.int (Int32.ofNat cn)), .val (.int (Int32.ofNat fr)), .val (.int (Int32.ofNat os)), .val (.ref b14), .val (.ref b103)] [(.int (1 : Int32)), (.ref b103)])) _
    refine X109.ldcInt hx hown (mvT hZ (hw _ (List.mem_of_getElem? (i := 3) rfl))) (g := (mkF m 213 #[.val (.long i0), .second, .val (.long i1), .second, .val (.int i2), .val (.int i3), .val (.int i4), .val (.int i5), .val (.int (Int32.ofNat wd)), .val (.int (Int32.ofNat cn)), .val (.int (Int32.ofNat fr)), .val (.int (Int32.ofNat os)), .val (.ref b14), .val (.ref b103)] [(.int (1 : Int32)), (.ref b103)])) rfl (hb hby at_213) _ ?_
    exact k)
  obtain ⟨cl115, Ar115, qc115, S115, N115_, H115, G115⟩ := V_112
  have hin115 : ¬ ((1 : Int32) < 0 ∨ cl115.slots.size ≤ ((1 : Int32)).toNatClampNeg) := inb_of S115 ⟨by decide, by decide⟩
  obtain ⟨T115, h115, X115, e115, W115, st115⟩ := stI X109 hx hZ e109 Ar115 (j := (1 : Int32)) hin115 (g := (mkF m 215 #[.val (.long i0), .second, .val (.long i1), .second, .val (.int i2), .val (.int i3), .val (.int i4), .val (.int i5), .val (.int (Int32.ofNat wd)), .val (.int (Int32.ofNat cn)), .val (.int (Int32.ofNat fr)), .val (.int (Int32.ofNat os)), .val (.ref b14), .val (.ref b103)] [(.int (1515870810 : Int32)), (.int (1 : Int32)), (.ref b103)])) rfl rfl (hb hby at_215)
  have N115 := Fr.snoc X115 N109 g_b103
  have Z_116 : n0 ≤ h115.size := Nat.le_trans Z_110 (Keep.of_wr W115).1
  have V_117 : Arv Z h115 b14 k14 .byte (16 : Int32) [(.int (nar .byte ((i0.toInt32).toInt8.toInt32))), (.int (nar .byte ((((i0.toUInt64 >>> ((8 : Int32) &&& 0x3f).toInt64.toUInt64).toInt64).toInt32).toInt8.toInt32))), (.int (nar .byte ((((i0.toUInt64 >>> ((16 : Int32) &&& 0x3f).toInt64.toUInt64).toInt64).toInt32).toInt8.toInt32))), (.int (nar .byte ((((i0.toUInt64 >>> ((24 : Int32) &&& 0x3f).toInt64.toUInt64).toInt64).toInt32).toInt8.toInt32))), (.int (nar .byte ((((i0.toUInt64 >>> ((32 : Int32) &&& 0x3f).toInt64.toUInt64).toInt64).toInt32).toInt8.toInt32))), (.int (nar .byte ((((i0.toUInt64 >>> ((40 : Int32) &&& 0x3f).toInt64.toUInt64).toInt64).toInt32).toInt8.toInt32))), (.int (nar .byte ((((i0.toUInt64 >>> ((48 : Int32) &&& 0x3f).toInt64.toUInt64).toInt64).toInt32).toInt8.toInt32))), (.int (nar .byte ((((i0.toUInt64 >>> ((56 : Int32) &&& 0x3f).toInt64.toUInt64).toInt64).toInt32).toInt8.toInt32))), (.int (nar .byte ((i1.toInt32).toInt8.toInt32))), (.int (nar .byte ((((i1.toUInt64 >>> ((8 : Int32) &&& 0x3f).toInt64.toUInt64).toInt64).toInt32).toInt8.toInt32))), (.int (nar .byte ((((i1.toUInt64 >>> ((16 : Int32) &&& 0x3f).toInt64.toUInt64).toInt64).toInt32).toInt8.toInt32))), (.int (nar .byte ((((i1.toUInt64 >>> ((24 : Int32) &&& 0x3f).toInt64.toUInt64).toInt64).toInt32).toInt8.toInt32))), (.int (nar .byte ((((i1.toUInt64 >>> ((32 : Int32) &&& 0x3f).toInt64.toUInt64).toInt64).toInt32).toInt8.toInt32))), (.int (nar .byte ((((i1.toUInt64 >>> ((40 : Int32) &&& 0x3f).toInt64.toUInt64).toInt64).toInt32).toInt8.toInt32))), (.int (nar .byte ((((i1.toUInt64 >>> ((48 : Int32) &&& 0x3f).toInt64.toUInt64).toInt64).toInt32).toInt8.toInt32))), (.int (nar .byte ((((i1.toUInt64 >>> ((56 : Int32) &&& 0x3f).toInt64.toUInt64).toInt64).toInt32).toInt8.toInt32)))] (.int (0 : Int32)) := V_111.other W115 ne_b14_b103
  have V_118 : Arv Z h115 b103 k103 .int (6 : Int32) [(.int (1515870810 : Int32)), (.int (1515870810 : Int32)), (.int (0 : Int32)), (.int (0 : Int32)), (.int (0 : Int32)), (.int (0 : Int32))] (.int (0 : Int32)) := Arv.set Ar115 qc115 S115 N115_ H115 G115 rfl W115 1 rfl (Nat.le_of_ble_eq_true rfl)
  have P119 : own_Rch p.tables e below A0 (T115.setTop (mkF m 216 #[.val (.long i0), .second, .val (.long i1), .second, .val (.int i2), .val (.int i3), .val (.int i4), .val (.int i5), .val (.int (Int32.ofNat wd)), .val (.int (Int32.ofNat cn)), .val (.int (Int32.ofNat fr)), .val (.int (Int32.ofNat os)), .val (.ref b14), .val (.ref b103)] [])) := fun t k => P114 t (st115 t k)
  have P120 : own_Rch p.tables e below A0 (T115.setTop (mkF m 221 #[.val (.long i0), .second, .val (.long i1), .second, .val (.int i2), .val (.int i3), .val (.int i4), .val (.int i5), .val (.int (Int32.ofNat wd)), .val (.int (Int32.ofNat cn)), .val (.int (Int32.ofNat fr)), .val (.int (Int32.ofNat os)), .val (.ref b14), .val (.ref b103)] [(.int (1515870810 : Int32)), (.int (2 : Int32)), (.ref b103)])) := fun t k => P119 t (by
    show Steps p.tables e below (T115.setTop (mkF m 216 #[.val (.long i0), .second, .val (.long i1), .second, .val (.int i2), .val (.int i3), .val (.int i4), .val (.int i5), .val (.int (Int32.ofNat wd)), .val (.int (Int32.ofNat cn)), .val (.int (Int32.ofNat fr)), .val (.int (Int32.ofNat os)), .val (.ref b14), .val (.ref b103)] [])) _
    refine XS.aload X115.here hx rfl (hb hby at_216) rfl rfl ?_
    show Steps p.tables e below (T115.setTop (mkF m 218 #[.val (.long i0), .second, .val (.long i1), .second, .val (.int i2), .val (.int i3), .val (.int i4), .val (.int i5), .val (.int (Int32.ofNat wd)), .val (.int (Int32.ofNat cn)), .val (.int (Int32.ofNat fr)), .val (.int (Int32.ofNat os)), .val (.ref b14), .val (.ref b103)] [(.ref b103)])) _
    refine XS.iconst X115.here hx rfl (hb hby at_218) ?_
    show Steps p.tables e below (T115.setTop (mkF m 219 #[.val (.long i0), .second, .val (.long i1), .second, .val (.int i2), .val (.int i3), .val (.int i4), .val (.int i5), .val (.int (Int32.ofNat wd)), .val (.int (Int32.ofNat cn)), .val (.int (Int32.ofNat fr)), .val (.int (Int32.ofNat os)), .val (.ref b14), .val (.ref b103)] [(.int (2 : Int32)), (.ref b103)])) _
    refine X115.ldcInt hx hown (mvT hZ (hw _ (List.mem_of_getElem? (i := 3) rfl))) (g := (mkF m 219 #[.val (.long i0), .second, .val (.long i1), .second, .val (.int i2), .val (.int i3), .val (.int i4), .val (.int i5), .val (.int (Int32.ofNat wd)), .val (.int (Int32.ofNat cn)), .val (.int (Int32.ofNat fr)), .val (.int (Int32.ofNat os)), .val (.ref b14), .val (.ref b103)] [(.int (2 : Int32)), (.ref b103)])) rfl (hb hby at_219) _ ?_
    exact k)
  obtain ⟨cl121, Ar121, qc121, S121, N121_, H121, G121⟩ := V_118
  have hin121 : ¬ ((2 : Int32) < 0 ∨ cl121.slots.size ≤ ((2 : Int32)).toNatClampNeg) := inb_of S121 ⟨by decide, by decide⟩
  obtain ⟨T121, h121, X121, e121, W121, st121⟩ := stI X115 hx hZ e115 Ar121 (j := (2 : Int32)) hin121 (g := (mkF m 221 #[.val (.long i0), .second, .val (.long i1), .second, .val (.int i2), .val (.int i3), .val (.int i4), .val (.int i5), .val (.int (Int32.ofNat wd)), .val (.int (Int32.ofNat cn)), .val (.int (Int32.ofNat fr)), .val (.int (Int32.ofNat os)), .val (.ref b14), .val (.ref b103)] [(.int (1515870810 : Int32)), (.int (2 : Int32)), (.ref b103)])) rfl rfl (hb hby at_221)
  have N121 := Fr.snoc X121 N115 g_b103
  have Z_122 : n0 ≤ h121.size := Nat.le_trans Z_116 (Keep.of_wr W121).1
  have V_123 : Arv Z h121 b14 k14 .byte (16 : Int32) [(.int (nar .byte ((i0.toInt32).toInt8.toInt32))), (.int (nar .byte ((((i0.toUInt64 >>> ((8 : Int32) &&& 0x3f).toInt64.toUInt64).toInt64).toInt32).toInt8.toInt32))), (.int (nar .byte ((((i0.toUInt64 >>> ((16 : Int32) &&& 0x3f).toInt64.toUInt64).toInt64).toInt32).toInt8.toInt32))), (.int (nar .byte ((((i0.toUInt64 >>> ((24 : Int32) &&& 0x3f).toInt64.toUInt64).toInt64).toInt32).toInt8.toInt32))), (.int (nar .byte ((((i0.toUInt64 >>> ((32 : Int32) &&& 0x3f).toInt64.toUInt64).toInt64).toInt32).toInt8.toInt32))), (.int (nar .byte ((((i0.toUInt64 >>> ((40 : Int32) &&& 0x3f).toInt64.toUInt64).toInt64).toInt32).toInt8.toInt32))), (.int (nar .byte ((((i0.toUInt64 >>> ((48 : Int32) &&& 0x3f).toInt64.toUInt64).toInt64).toInt32).toInt8.toInt32))), (.int (nar .byte ((((i0.toUInt64 >>> ((56 : Int32) &&& 0x3f).toInt64.toUInt64).toInt64).toInt32).toInt8.toInt32))), (.int (nar .byte ((i1.toInt32).toInt8.toInt32))), (.int (nar .byte ((((i1.toUInt64 >>> ((8 : Int32) &&& 0x3f).toInt64.toUInt64).toInt64).toInt32).toInt8.toInt32))), (.int (nar .byte ((((i1.toUInt64 >>> ((16 : Int32) &&& 0x3f).toInt64.toUInt64).toInt64).toInt32).toInt8.toInt32))), (.int (nar .byte ((((i1.toUInt64 >>> ((24 : Int32) &&& 0x3f).toInt64.toUInt64).toInt64).toInt32).toInt8.toInt32))), (.int (nar .byte ((((i1.toUInt64 >>> ((32 : Int32) &&& 0x3f).toInt64.toUInt64).toInt64).toInt32).toInt8.toInt32))), (.int (nar .byte ((((i1.toUInt64 >>> ((40 : Int32) &&& 0x3f).toInt64.toUInt64).toInt64).toInt32).toInt8.toInt32))), (.int (nar .byte ((((i1.toUInt64 >>> ((48 : Int32) &&& 0x3f).toInt64.toUInt64).toInt64).toInt32).toInt8.toInt32))), (.int (nar .byte ((((i1.toUInt64 >>> ((56 : Int32) &&& 0x3f).toInt64.toUInt64).toInt64).toInt32).toInt8.toInt32)))] (.int (0 : Int32)) := V_117.other W121 ne_b14_b103
  have V_124 : Arv Z h121 b103 k103 .int (6 : Int32) [(.int (1515870810 : Int32)), (.int (1515870810 : Int32)), (.int (1515870810 : Int32)), (.int (0 : Int32)), (.int (0 : Int32)), (.int (0 : Int32))] (.int (0 : Int32)) := Arv.set Ar121 qc121 S121 N121_ H121 G121 rfl W121 2 rfl (Nat.le_of_ble_eq_true rfl)
  have P125 : own_Rch p.tables e below A0 (T121.setTop (mkF m 222 #[.val (.long i0), .second, .val (.long i1), .second, .val (.int i2), .val (.int i3), .val (.int i4), .val (.int i5), .val (.int (Int32.ofNat wd)), .val (.int (Int32.ofNat cn)), .val (.int (Int32.ofNat fr)), .val (.int (Int32.ofNat os)), .val (.ref b14), .val (.ref b103)] [])) := fun t k => P120 t (st121 t k)
  obtain ⟨Lp126, X126, N126⟩ : ∃ Lp : List Loc, Stand p l e room_1 s m args' below meth c T121 Lp (0 + 1 + 1) (0 + 16 + 6) ∧ Fr n0 Lp := ⟨_, X121, N121⟩
  have P127 : own_Rch p.tables e below A0 (T121.setTop (mkF m 227 #[.val (.long i0), .second, .val (.long i1), .second, .val (.int i2), .val (.int i3), .val (.int i4), .val (.int i5), .val (.int (Int32.ofNat wd)), .val (.int (Int32.ofNat cn)), .val (.int (Int32.ofNat fr)), .val (.int (Int32.ofNat os)), .val (.ref b14), .val (.ref b103)] [(.int (1515870810 : Int32)), (.int (3 : Int32)), (.ref b103)])) := fun t k => P125 t (by
    show Steps p.tables e below (T121.setTop (mkF m 222 #[.val (.long i0), .second, .val (.long i1), .second, .val (.int i2), .val (.int i3), .val (.int i4), .val (.int i5), .val (.int (Int32.ofNat wd)), .val (.int (Int32.ofNat cn)), .val (.int (Int32.ofNat fr)), .val (.int (Int32.ofNat os)), .val (.ref b14), .val (.ref b103)] [])) _
    refine XS.aload X126.here hx rfl (hb hby at_222) rfl rfl ?_
    show Steps p.tables e below (T121.setTop (mkF m 224 #[.val (.long i0), .second, .val (.long i1), .second, .val (.int i2), .val (.int i3), .val (.int i4), .val (.int i5), .val (.int (Int32.ofNat wd)), .val (.int (Int32.ofNat cn)), .val (.int (Int32.ofNat fr)), .val (.int (Int32.ofNat os)), .val (.ref b14), .val (.ref b103)] [(.ref b103)])) _
    refine XS.iconst X126.here hx rfl (hb hby at_224) ?_
    show Steps p.tables e below (T121.setTop (mkF m 225 #[.val (.long i0), .second, .val (.long i1), .second, .val (.int i2), .val (.int i3), .val (.int i4), .val (.int i5), .val (.int (Int32.ofNat wd)), .val (.int (Int32.ofNat cn)), .val (.int (Int32.ofNat fr)), .val (.int (Int32.ofNat os)), .val (.ref b14), .val (.ref b103)] [(.int (3 : Int32)), (.ref b103)])) _
    refine X126.ldcInt hx hown (mvT hZ (hw _ (List.mem_of_getElem? (i := 3) rfl))) (g := (mkF m 225 #[.val (.long i0), .second, .val (.long i1), .second, .val (.int i2), .val (.int i3), .val (.int i4), .val (.int i5), .val (.int (Int32.ofNat wd)), .val (.int (Int32.ofNat cn)), .val (.int (Int32.ofNat fr)), .val (.int (Int32.ofNat os)), .val (.ref b14), .val (.ref b103)] [(.int (3 : Int32)), (.ref b103)])) rfl (hb hby at_225) _ ?_
    exact k)
  obtain ⟨cl128, Ar128, qc128, S128, N128_, H128, G128⟩ := V_124
  have hin128 : ¬ ((3 : Int32) < 0 ∨ cl128.slots.size ≤ ((3 : Int32)).toNatClampNeg) := inb_of S128 ⟨by decide, by decide⟩
  obtain ⟨T128, h128, X128, e128, W128, st128⟩ := stI X126 hx hZ e121 Ar128 (j := (3 : Int32)) hin128 (g := (mkF m 227 #[.val (.long i0), .second, .val (.long i1), .second, .val (.int i2), .val (.int i3), .val (.int i4), .val (.int i5), .val (.int (Int32.ofNat wd)), .val (.int (Int32.ofNat cn)), .val (.int (Int32.ofNat fr)), .val (.int (Int32.ofNat os)), .val (.ref b14), .val (.ref b103)] [(.int (1515870810 : Int32)), (.int (3 : Int32)), (.ref b103)])) rfl rfl (hb hby at_227)
  have N128 := Fr.snoc X128 N126 g_b103
  have Z_129 : n0 ≤ h128.size := Nat.le_trans Z_122 (Keep.of_wr W128).1
  have V_130 : Arv Z h128 b14 k14 .byte (16 : Int32) [(.int (nar .byte ((i0.toInt32).toInt8.toInt32))), (.int (nar .byte ((((i0.toUInt64 >>> ((8 : Int32) &&& 0x3f).toInt64.toUInt64).toInt64).toInt32).toInt8.toInt32))), (.int (nar .byte ((((i0.toUInt64 >>> ((16 : Int32) &&& 0x3f).toInt64.toUInt64).toInt64).toInt32).toInt8.toInt32))), (.int (nar .byte ((((i0.toUInt64 >>> ((24 : Int32) &&& 0x3f).toInt64.toUInt64).toInt64).toInt32).toInt8.toInt32))), (.int (nar .byte ((((i0.toUInt64 >>> ((32 : Int32) &&& 0x3f).toInt64.toUInt64).toInt64).toInt32).toInt8.toInt32))), (.int (nar .byte ((((i0.toUInt64 >>> ((40 : Int32) &&& 0x3f).toInt64.toUInt64).toInt64).toInt32).toInt8.toInt32))), (.int (nar .byte ((((i0.toUInt64 >>> ((48 : Int32) &&& 0x3f).toInt64.toUInt64).toInt64).toInt32).toInt8.toInt32))), (.int (nar .byte ((((i0.toUInt64 >>> ((56 : Int32) &&& 0x3f).toInt64.toUInt64).toInt64).toInt32).toInt8.toInt32))), (.int (nar .byte ((i1.toInt32).toInt8.toInt32))), (.int (nar .byte ((((i1.toUInt64 >>> ((8 : Int32) &&& 0x3f).toInt64.toUInt64).toInt64).toInt32).toInt8.toInt32))), (.int (nar .byte ((((i1.toUInt64 >>> ((16 : Int32) &&& 0x3f).toInt64.toUInt64).toInt64).toInt32).toInt8.toInt32))), (.int (nar .byte ((((i1.toUInt64 >>> ((24 : Int32) &&& 0x3f).toInt64.toUInt64).toInt64).toInt32).toInt8.toInt32))), (.int (nar .byte ((((i1.toUInt64 >>> ((32 : Int32) &&& 0x3f).toInt64.toUInt64).toInt64).toInt32).toInt8.toInt32))), (.int (nar .byte ((((i1.toUInt64 >>> ((40 : Int32) &&& 0x3f).toInt64.toUInt64).toInt64).toInt32).toInt8.toInt32))), (.int (nar .byte ((((i1.toUInt64 >>> ((48 : Int32) &&& 0x3f).toInt64.toUInt64).toInt64).toInt32).toInt8.toInt32))), (.int (nar .byte ((((i1.toUInt64 >>> ((56 : Int32) &&& 0x3f).toInt64.toUInt64).toInt64).toInt32).toInt8.toInt32)))] (.int (0 : Int32)) := V_123.other W128 ne_b14_b103
  have V_131 : Arv Z h128 b103 k103 .int (6 : Int32) [(.int (1515870810 : Int32)), (.int (1515870810 : Int32)), (.int (1515870810 : Int32)), (.int (1515870810 : Int32)), (.int (0 : Int32)), (.int (0 : Int32))] (.int (0 : Int32)) := Arv.set Ar128 qc128 S128 N128_ H128 G128 rfl W128 3 rfl (Nat.le_of_ble_eq_true rfl)
  have P132 : own_Rch p.tables e below A0 (T128.setTop (mkF m 228 #[.val (.long i0), .second, .val (.long i1), .second, .val (.int i2), .val (.int i3), .val (.int i4), .val (.int i5), .val (.int (Int32.ofNat wd)), .val (.int (Int32.ofNat cn)), .val (.int (Int32.ofNat fr)), .val (.int (Int32.ofNat os)), .val (.ref b14), .val (.ref b103)] [])) := fun t k => P127 t (st128 t k)
  have P133 : own_Rch p.tables e below A0 (T128.setTop (mkF m 233 #[.val (.long i0), .second, .val (.long i1), .second, .val (.int i2), .val (.int i3), .val (.int i4), .val (.int i5), .val (.int (Int32.ofNat wd)), .val (.int (Int32.ofNat cn)), .val (.int (Int32.ofNat fr)), .val (.int (Int32.ofNat os)), .val (.ref b14), .val (.ref b103)] [(.int (1515870810 : Int32)), (.int (4 : Int32)), (.ref b103)])) := fun t k => P132 t (by
    show Steps p.tables e below (T128.setTop (mkF m 228 #[.val (.long i0), .second, .val (.long i1), .second, .val (.int i2), .val (.int i3), .val (.int i4), .val (.int i5), .val (.int (Int32.ofNat wd)), .val (.int (Int32.ofNat cn)), .val (.int (Int32.ofNat fr)), .val (.int (Int32.ofNat os)), .val (.ref b14), .val (.ref b103)] [])) _
    refine XS.aload X128.here hx rfl (hb hby at_228) rfl rfl ?_
    show Steps p.tables e below (T128.setTop (mkF m 230 #[.val (.long i0), .second, .val (.long i1), .second, .val (.int i2), .val (.int i3), .val (.int i4), .val (.int i5), .val (.int (Int32.ofNat wd)), .val (.int (Int32.ofNat cn)), .val (.int (Int32.ofNat fr)), .val (.int (Int32.ofNat os)), .val (.ref b14), .val (.ref b103)] [(.ref b103)])) _
    refine XS.iconst X128.here hx rfl (hb hby at_230) ?_
    show Steps p.tables e below (T128.setTop (mkF m 231 #[.val (.long i0), .second, .val (.long i1), .second, .val (.int i2), .val (.int i3), .val (.int i4), .val (.int i5), .val (.int (Int32.ofNat wd)), .val (.int (Int32.ofNat cn)), .val (.int (Int32.ofNat fr)), .val (.int (Int32.ofNat os)), .val (.ref b14), .val (.ref b103)] [(.int (4 : Int32)), (.ref b103)])) _
    refine X128.ldcInt hx hown (mvT hZ (hw _ (List.mem_of_getElem? (i := 3) rfl))) (g := (mkF m 231 #[.val (.long i0), .second, .val (.long i1), .second, .val (.int i2), .val (.int i3), .val (.int i4), .val (.int i5), .val (.int (Int32.ofNat wd)), .val (.int (Int32.ofNat cn)), .val (.int (Int32.ofNat fr)), .val (.int (Int32.ofNat os)), .val (.ref b14), .val (.ref b103)] [(.int (4 : Int32)), (.ref b103)])) rfl (hb hby at_231) _ ?_
    exact k)
  obtain ⟨cl134, Ar134, qc134, S134, N134_, H134, G134⟩ := V_131
  have hin134 : ¬ ((4 : Int32) < 0 ∨ cl134.slots.size ≤ ((4 : Int32)).toNatClampNeg) := inb_of S134 ⟨by decide, by decide⟩
  obtain ⟨T134, h134, X134, e134, W134, st134⟩ := stI X128 hx hZ e128 Ar134 (j := (4 : Int32)) hin134 (g := (mkF m 233 #[.val (.long i0), .second, .val (.long i1), .second, .val (.int i2), .val (.int i3), .val (.int i4), .val (.int i5), .val (.int (Int32.ofNat wd)), .val (.int (Int32.ofNat cn)), .val (.int (Int32.ofNat fr)), .val (.int (Int32.ofNat os)), .val (.ref b14), .val (.ref b103)] [(.int (1515870810 : Int32)), (.int (4 : Int32)), (.ref b103)])) rfl rfl (hb hby at_233)
  have N134 := Fr.snoc X134 N128 g_b103
  have Z_135 : n0 ≤ h134.size := Nat.le_trans Z_129 (Keep.of_wr W134).1
  have V_136 : Arv Z h134 b14 k14 .byte (16 : Int32) [(.int (nar .byte ((i0.toInt32).toInt8.toInt32))), (.int (nar .byte ((((i0.toUInt64 >>> ((8 : Int32) &&& 0x3f).toInt64.toUInt64).toInt64).toInt32).toInt8.toInt32))), (.int (nar .byte ((((i0.toUInt64 >>> ((16 : Int32) &&& 0x3f).toInt64.toUInt64).toInt64).toInt32).toInt8.toInt32))), (.int (nar .byte ((((i0.toUInt64 >>> ((24 : Int32) &&& 0x3f).toInt64.toUInt64).toInt64).toInt32).toInt8.toInt32))), (.int (nar .byte ((((i0.toUInt64 >>> ((32 : Int32) &&& 0x3f).toInt64.toUInt64).toInt64).toInt32).toInt8.toInt32))), (.int (nar .byte ((((i0.toUInt64 >>> ((40 : Int32) &&& 0x3f).toInt64.toUInt64).toInt64).toInt32).toInt8.toInt32))), (.int (nar .byte ((((i0.toUInt64 >>> ((48 : Int32) &&& 0x3f).toInt64.toUInt64).toInt64).toInt32).toInt8.toInt32))), (.int (nar .byte ((((i0.toUInt64 >>> ((56 : Int32) &&& 0x3f).toInt64.toUInt64).toInt64).toInt32).toInt8.toInt32))), (.int (nar .byte ((i1.toInt32).toInt8.toInt32))), (.int (nar .byte ((((i1.toUInt64 >>> ((8 : Int32) &&& 0x3f).toInt64.toUInt64).toInt64).toInt32).toInt8.toInt32))), (.int (nar .byte ((((i1.toUInt64 >>> ((16 : Int32) &&& 0x3f).toInt64.toUInt64).toInt64).toInt32).toInt8.toInt32))), (.int (nar .byte ((((i1.toUInt64 >>> ((24 : Int32) &&& 0x3f).toInt64.toUInt64).toInt64).toInt32).toInt8.toInt32))), (.int (nar .byte ((((i1.toUInt64 >>> ((32 : Int32) &&& 0x3f).toInt64.toUInt64).toInt64).toInt32).toInt8.toInt32))), (.int (nar .byte ((((i1.toUInt64 >>> ((40 : Int32) &&& 0x3f).toInt64.toUInt64).toInt64).toInt32).toInt8.toInt32))), (.int (nar .byte ((((i1.toUInt64 >>> ((48 : Int32) &&& 0x3f).toInt64.toUInt64).toInt64).toInt32).toInt8.toInt32))), (.int (nar .byte ((((i1.toUInt64 >>> ((56 : Int32) &&& 0x3f).toInt64.toUInt64).toInt64).toInt32).toInt8.toInt32)))] (.int (0 : Int32)) := V_130.other W134 ne_b14_b103
  have V_137 : Arv Z h134 b103 k103 .int (6 : Int32) [(.int (1515870810 : Int32)), (.int (1515870810 : Int32)), (.int (1515870810 : Int32)), (.int (1515870810 : Int32)), (.int (1515870810 : Int32)), (.int (0 : Int32))] (.int (0 : Int32)) := Arv.set Ar134 qc134 S134 N134_ H134 G134 rfl W134 4 rfl (Nat.le_of_ble_eq_true rfl)
  have P138 : own_Rch p.tables e below A0 (T134.setTop (mkF m 234 #[.val (.long i0), .second, .val (.long i1), .second, .val (.int i2), .val (.int i3), .val (.int i4), .val (.int i5), .val (.int (Int32.ofNat wd)), .val (.int (Int32.ofNat cn)), .val (.int (Int32.ofNat fr)), .val (.int (Int32.ofNat os)), .val (.ref b14), .val (.ref b103)] [])) := fun t k => P133 t (st134 t k)
  have P139 : own_Rch p.tables e below A0 (T134.setTop (mkF m 239 #[.val (.long i0), .second, .val (.long i1), .second, .val (.int i2), .val (.int i3), .val (.int i4), .val (.int i5), .val (.int (Int32.ofNat wd)), .val (.int (Int32.ofNat cn)), .val (.int (Int32.ofNat fr)), .val (.int (Int32.ofNat os)), .val (.ref b14), .val (.ref b103)] [(.int (1515870810 : Int32)), (.int (5 : Int32)), (.ref b103)])) := fun t k => P138 t (by
    show Steps p.tables e below (T134.setTop (mkF m 234 #[.val (.long i0), .second, .val (.long i1), .second, .val (.int i2), .val (.int i3), .val (.int i4), .val (.int i5), .val (.int (Int32.ofNat wd)), .val (.int (Int32.ofNat cn)), .val (.int (Int32.ofNat fr)), .val (.int (Int32.ofNat os)), .val (.ref b14), .val (.ref b103)] [])) _
    refine XS.aload X134.here hx rfl (hb hby at_234) rfl rfl ?_
    show Steps p.tables e below (T134.setTop (mkF m 236 #[.val (.long i0), .second, .val (.long i1), .second, .val (.int i2), .val (.int i3), .val (.int i4), .val (.int i5), .val (.int (Int32.ofNat wd)), .val (.int (Int32.ofNat cn)), .val (.int (Int32.ofNat fr)), .val (.int (Int32.ofNat os)), .val (.ref b14), .val (.ref b103)] [(.ref b103)])) _
    refine XS.iconst X134.here hx rfl (hb hby at_236) ?_
    show Steps p.tables e below (T134.setTop (mkF m 237 #[.val (.long i0), .second, .val (.long i1), .second, .val (.int i2), .val (.int i3), .val (.int i4), .val (.int i5), .val (.int (Int32.ofNat wd)), .val (.int (Int32.ofNat cn)), .val (.int (Int32.ofNat fr)), .val (.int (Int32.ofNat os)), .val (.ref b14), .val (.ref b103)] [(.int (5 : Int32)), (.ref b103)])) _
    refine X134.ldcInt hx hown (mvT hZ (hw _ (List.mem_of_getElem? (i := 3) rfl))) (g := (mkF m 237 #[.val (.long i0), .second, .val (.long i1), .second, .val (.int i2), .val (.int i3), .val (.int i4), .val (.int i5), .val (.int (Int32.ofNat wd)), .val (.int (Int32.ofNat cn)), .val (.int (Int32.ofNat fr)), .val (.int (Int32.ofNat os)), .val (.ref b14), .val (.ref b103)] [(.int (5 : Int32)), (.ref b103)])) rfl (hb hby at_237) _ ?_
    exact k)
  obtain ⟨cl140, Ar140, qc140, S140, N140_, H140, G140⟩ := V_137
  have hin140 : ¬ ((5 : Int32) < 0 ∨ cl140.slots.size ≤ ((5 : Int32)).toNatClampNeg) := inb_of S140 ⟨by decide, by decide⟩
  obtain ⟨T140, h140, X140, e140, W140, st140⟩ := stI X134 hx hZ e134 Ar140 (j := (5 : Int32)) hin140 (g := (mkF m 239 #[.val (.long i0), .second, .val (.long i1), .second, .val (.int i2), .val (.int i3), .val (.int i4), .val (.int i5), .val (.int (Int32.ofNat wd)), .val (.int (Int32.ofNat cn)), .val (.int (Int32.ofNat fr)), .val (.int (Int32.ofNat os)), .val (.ref b14), .val (.ref b103)] [(.int (1515870810 : Int32)), (.int (5 : Int32)), (.ref b103)])) rfl rfl (hb hby at_239)
  have N140 := Fr.snoc X140 N134 g_b103
  have Z_141 : n0 ≤ h140.size := Nat.le_trans Z_135 (Keep.of_wr W140).1
  have V_142 : Arv Z h140 b14 k14 .byte (16 : Int32) [(.int (nar .byte ((i0.toInt32).toInt8.toInt32))), (.int (nar .byte ((((i0.toUInt64 >>> ((8 : Int32) &&& 0x3f).toInt64.toUInt64).toInt64).toInt32).toInt8.toInt32))), (.int (nar .byte ((((i0.toUInt64 >>> ((16 : Int32) &&& 0x3f).toInt64.toUInt64).toInt64).toInt32).toInt8.toInt32))), (.int (nar .byte ((((i0.toUInt64 >>> ((24 : Int32) &&& 0x3f).toInt64.toUInt64).toInt64).toInt32).toInt8.toInt32))), (.int (nar .byte ((((i0.toUInt64 >>> ((32 : Int32) &&& 0x3f).toInt64.toUInt64).toInt64).toInt32).toInt8.toInt32))), (.int (nar .byte ((((i0.toUInt64 >>> ((40 : Int32) &&& 0x3f).toInt64.toUInt64).toInt64).toInt32).toInt8.toInt32))), (.int (nar .byte ((((i0.toUInt64 >>> ((48 : Int32) &&& 0x3f).toInt64.toUInt64).toInt64).toInt32).toInt8.toInt32))), (.int (nar .byte ((((i0.toUInt64 >>> ((56 : Int32) &&& 0x3f).toInt64.toUInt64).toInt64).toInt32).toInt8.toInt32))), (.int (nar .byte ((i1.toInt32).toInt8.toInt32))), (.int (nar .byte ((((i1.toUInt64 >>> ((8 : Int32) &&& 0x3f).toInt64.toUInt64).toInt64).toInt32).toInt8.toInt32))), (.int (nar .byte ((((i1.toUInt64 >>> ((16 : Int32) &&& 0x3f).toInt64.toUInt64).toInt64).toInt32).toInt8.toInt32))), (.int (nar .byte ((((i1.toUInt64 >>> ((24 : Int32) &&& 0x3f).toInt64.toUInt64).toInt64).toInt32).toInt8.toInt32))), (.int (nar .byte ((((i1.toUInt64 >>> ((32 : Int32) &&& 0x3f).toInt64.toUInt64).toInt64).toInt32).toInt8.toInt32))), (.int (nar .byte ((((i1.toUInt64 >>> ((40 : Int32) &&& 0x3f).toInt64.toUInt64).toInt64).toInt32).toInt8.toInt32))), (.int (nar .byte ((((i1.toUInt64 >>> ((48 : Int32) &&& 0x3f).toInt64.toUInt64).toInt64).toInt32).toInt8.toInt32))), (.int (nar .byte ((((i1.toUInt64 >>> ((56 : Int32) &&& 0x3f).toInt64.toUInt64).toInt64).toInt32).toInt8.toInt32)))] (.int (0 : Int32)) := V_136.other W140 ne_b14_b103
  have V_143 : Arv Z h140 b103 k103 .int (6 : Int32) [(.int (1515870810 : Int32)), (.int (1515870810 : Int32)), (.int (1515870810 : Int32)), (.int (1515870810 : Int32)), (.int (1515870810 : Int32)), (.int (1515870810 : Int32))] (.int (0 : Int32)) := Arv.set Ar140 qc140 S140 N140_ H140 G140 rfl W140 5 rfl (Nat.le_of_ble_eq_true rfl)
  have P144 : own_Rch p.tables e below A0 (T140.setTop (mkF m 240 #[.val (.long i0), .second, .val (.long i1), .second, .val (.int i2), .val (.int i3), .val (.int i4), .val (.int i5), .val (.int (Int32.ofNat wd)), .val (.int (Int32.ofNat cn)), .val (.int (Int32.ofNat fr)), .val (.int (Int32.ofNat os)), .val (.ref b14), .val (.ref b103)] [])) := fun t k => P139 t (st140 t k)
  obtain ⟨Lp145, X145, N145⟩ : ∃ Lp : List Loc, Stand p l e room_1 s m args' below meth c T140 Lp (0 + 1 + 1) (0 + 16 + 6) ∧ Fr n0 Lp := ⟨_, X140, N140⟩
  have P146 : own_Rch p.tables e below A0 (T140.setTop (mkF m 252 #[.val (.long i0), .second, .val (.long i1), .second, .val (.int i2), .val (.int i3), .val (.int i4), .val (.int i5), .val (.int (Int32.ofNat wd)), .val (.int (Int32.ofNat cn)), .val (.int (Int32.ofNat fr)), .val (.int (Int32.ofNat os)), .val (.ref b14), .val (.ref b103)] [(.int (Int32.ofNat os)), (.ref b103), (.int (Int32.ofNat cn)), (.int (Int32.ofNat wd)), (.int (Int32.ofNat fr)), (.ref b14)])) := fun t k => P144 t (by
    show Steps p.tables e below (T140.setTop (mkF m 240 #[.val (.long i0), .second, .val (.long i1), .second, .val (.int i2), .val (.int i3), .val (.int i4), .val (.int i5), .val (.int (Int32.ofNat wd)), .val (.int (Int32.ofNat cn)), .val (.int (Int32.ofNat fr)), .val (.int (Int32.ofNat os)), .val (.ref b14), .val (.ref b103)] [])) _
    refine XS.aload X145.here hx rfl (hb hby at_240) rfl rfl ?_
    show Steps p.tables e below (T140.setTop (mkF m 242 #[.val (.long i0), .second, .val (.long i1), .second, .val (.int i2), .val (.int i3), .val (.int i4), .val (.int i5), .val (.int (Int32.ofNat wd)), .val (.int (Int32.ofNat cn)), .val (.int (Int32.ofNat fr)), .val (.int (Int32.ofNat os)), .val (.ref b14), .val (.ref b103)] [(.ref b14)])) _
    refine XS.iload X145.here hx rfl (hb hby at_242) rfl ?_
    show Steps p.tables e below (T140.setTop (mkF m 244 #[.val (.long i0), .second, .val (.long i1), .second, .val (.int i2), .val (.int i3), .val (.int i4), .val (.int i5), .val (.int (Int32.ofNat wd)), .val (.int (Int32.ofNat cn)), .val (.int (Int32.ofNat fr)), .val (.int (Int32.ofNat os)), .val (.ref b14), .val (.ref b103)] [(.int (Int32.ofNat fr)), (.ref b14)])) _
    refine XS.iload X145.here hx rfl (hb hby at_244) rfl ?_
    show Steps p.tables e below (T140.setTop (mkF m 246 #[.val (.long i0), .second, .val (.long i1), .second, .val (.int i2), .val (.int i3), .val (.int i4), .val (.int i5), .val (.int (Int32.ofNat wd)), .val (.int (Int32.ofNat cn)), .val (.int (Int32.ofNat fr)), .val (.int (Int32.ofNat os)), .val (.ref b14), .val (.ref b103)] [(.int (Int32.ofNat wd)), (.int (Int32.ofNat fr)), (.ref b14)])) _
    refine XS.iload X145.here hx rfl (hb hby at_246) rfl ?_
    show Steps p.tables e below (T140.setTop (mkF m 248 #[.val (.long i0), .second, .val (.long i1), .second, .val (.int i2), .val (.int i3), .val (.int i4), .val (.int i5), .val (.int (Int32.ofNat wd)), .val (.int (Int32.ofNat cn)), .val (.int (Int32.ofNat fr)), .val (.int (Int32.ofNat os)), .val (.ref b14), .val (.ref b103)] [(.int (Int32.ofNat cn)), (.int (Int32.ofNat wd)), (.int (Int32.ofNat fr)), (.ref b14)])) _
    refine XS.aload X145.here hx rfl (hb hby at_248) rfl rfl ?_
    show Steps p.tables e below (T140.setTop (mkF m 250 #[.val (.long i0), .second, .val (.long i1), .second, .val (.int i2), .val (.int i3), .val (.int i4), .val (.int i5), .val (.int (Int32.ofNat wd)), .val (.int (Int32.ofNat cn)), .val (.int (Int32.ofNat fr)), .val (.int (Int32.ofNat os)), .val (.ref b14), .val (.ref b103)] [(.ref b103), (.int (Int32.ofNat cn)), (.int (Int32.ofNat wd)), (.int (Int32.ofNat fr)), (.ref b14)])) _
    refine XS.iload X145.here hx rfl (hb hby at_250) rfl ?_
    exact k)
  obtain ⟨_, _, ⟨T147, L147, k147, n147⟩, -, X147, ⟨Lc147, hQ147, l147, y147, z147⟩, st147⟩ := Jvm.LawKit.callS X145 hx (y := (⟨"tidemark/format/ParquetRunLengths", "unpack", "([BIII[II)V"⟩ : MethodName)) hown (mvT hZ (hw _ (List.mem_of_getElem? (i := 4) rfl))) (mvT hZ (hw _ (List.mem_of_getElem? (i := 5) rfl))) (mvT hZ (hw _ (List.mem_of_getElem? (i := 6) rfl))) (mvT hZ (hw _ (List.mem_of_getElem? (i := 7) rfl))) (by decide) (backOf (W := 0) (rm1 l Z a0 hw [] b14 k14 b103 k103 i0 i1 fr wd cn os h140 n0 Z_141 (show Arv Z h140 b14 k14 .byte (16 : Int32) (own_bv i0 i1) (.int (0 : Int32)) from V_142) V_143 ne_b14_b103 g_b103 hfr hwd hcn hos) hZ (hw _ (List.mem_of_getElem? (i := 7) rfl)) (hw _ (List.mem_of_getElem? (i := 6) rfl)) (by decide) (by decide)) (g := (mkF m 252 #[.val (.long i0), .second, .val (.long i1), .second, .val (.int i2), .val (.int i3), .val (.int i4), .val (.int i5), .val (.int (Int32.ofNat wd)), .val (.int (Int32.ofNat cn)), .val (.int (Int32.ofNat fr)), .val (.int (Int32.ofNat os)), .val (.ref b14), .val (.ref b103)] [(.int (Int32.ofNat os)), (.ref b103), (.int (Int32.ofNat cn)), (.int (Int32.ofNat wd)), (.int (Int32.ofNat fr)), (.ref b14)])) rfl (by rw [hml]; rfl) (argsL := [(.ref b14), (.int (Int32.ofNat fr)), (.int (Int32.ofNat wd)), (.int (Int32.ofNat cn)), (.ref b103), (.int (Int32.ofNat os))]) (rest := []) (lenOf pd_1 rfl) rfl (by show 2 * 0 + _ ≤ _; exact Nat.le_of_eq rfl) (hb hby at_252) (fun _ _ => ⟨rfl, e140, (by decide : (0 + 1 + 1) + 0 ≤ _), (by decide : (0 + 16 + 6) + 0 ≤ _)⟩)
  dsimp only [Pt.U, Pt.locs, Pt.cells, Pt.slots] at X147 l147 y147 z147 st147 hQ147
  subst l147 y147 z147
  obtain ⟨rfl, N147q, K147q, V147q⟩ := hQ147
  have N147 := Fr.app N145 N147q
  have Z_148 : n0 ≤ T147.heap.size := Nat.le_trans Z_141 K147q.1
  have V_149 : Arv Z T147.heap b14 k14 .byte (16 : Int32) [(.int (nar .byte ((i0.toInt32).toInt8.toInt32))), (.int (nar .byte ((((i0.toUInt64 >>> ((8 : Int32) &&& 0x3f).toInt64.toUInt64).toInt64).toInt32).toInt8.toInt32))), (.int (nar .byte ((((i0.toUInt64 >>> ((16 : Int32) &&& 0x3f).toInt64.toUInt64).toInt64).toInt32).toInt8.toInt32))), (.int (nar .byte ((((i0.toUInt64 >>> ((24 : Int32) &&& 0x3f).toInt64.toUInt64).toInt64).toInt32).toInt8.toInt32))), (.int (nar .byte ((((i0.toUInt64 >>> ((32 : Int32) &&& 0x3f).toInt64.toUInt64).toInt64).toInt32).toInt8.toInt32))), (.int (nar .byte ((((i0.toUInt64 >>> ((40 : Int32) &&& 0x3f).toInt64.toUInt64).toInt64).toInt32).toInt8.toInt32))), (.int (nar .byte ((((i0.toUInt64 >>> ((48 : Int32) &&& 0x3f).toInt64.toUInt64).toInt64).toInt32).toInt8.toInt32))), (.int (nar .byte ((((i0.toUInt64 >>> ((56 : Int32) &&& 0x3f).toInt64.toUInt64).toInt64).toInt32).toInt8.toInt32))), (.int (nar .byte ((i1.toInt32).toInt8.toInt32))), (.int (nar .byte ((((i1.toUInt64 >>> ((8 : Int32) &&& 0x3f).toInt64.toUInt64).toInt64).toInt32).toInt8.toInt32))), (.int (nar .byte ((((i1.toUInt64 >>> ((16 : Int32) &&& 0x3f).toInt64.toUInt64).toInt64).toInt32).toInt8.toInt32))), (.int (nar .byte ((((i1.toUInt64 >>> ((24 : Int32) &&& 0x3f).toInt64.toUInt64).toInt64).toInt32).toInt8.toInt32))), (.int (nar .byte ((((i1.toUInt64 >>> ((32 : Int32) &&& 0x3f).toInt64.toUInt64).toInt64).toInt32).toInt8.toInt32))), (.int (nar .byte ((((i1.toUInt64 >>> ((40 : Int32) &&& 0x3f).toInt64.toUInt64).toInt64).toInt32).toInt8.toInt32))), (.int (nar .byte ((((i1.toUInt64 >>> ((48 : Int32) &&& 0x3f).toInt64.toUInt64).toInt64).toInt32).toInt8.toInt32))), (.int (nar .byte ((((i1.toUInt64 >>> ((56 : Int32) &&& 0x3f).toInt64.toUInt64).toInt64).toInt32).toInt8.toInt32)))] (.int (0 : Int32)) := V_142.keep K147q (ninS ne_b14_b103 nin0)
  have P150 : own_Rch p.tables e below A0 (T147.setTop (mkF m 255 #[.val (.long i0), .second, .val (.long i1), .second, .val (.int i2), .val (.int i3), .val (.int i4), .val (.int i5), .val (.int (Int32.ofNat wd)), .val (.int (Int32.ofNat cn)), .val (.int (Int32.ofNat fr)), .val (.int (Int32.ofNat os)), .val (.ref b14), .val (.ref b103)] [])) := fun t k => P146 t (st147 t k)
  have P152 : own_Rch p.tables e below A0 (T147.setTop (mkF m 270 #[.val (.long i0), .second, .val (.long i1), .second, .val (.int i2), .val (.int i3), .val (.int i4), .val (.int i5), .val (.int (Int32.ofNat wd)), .val (.int (Int32.ofNat cn)), .val (.int (Int32.ofNat fr)), .val (.int (Int32.ofNat os)), .val (.ref b14), .val (.ref b103)] [(.int (Int32.ofNat os)), (.int (Int32.ofNat cn)), (.int (Int32.ofNat wd)), (.int (Int32.ofNat fr)), (.long i1), (.long i0), (.int (0 : Int32)), (.int (own_rd (own_N i0 i1) fr wd cn os 0))])) := fun t k => P150 t (by
    show Steps p.tables e below (T147.setTop (mkF m 255 #[.val (.long i0), .second, .val (.long i1), .second, .val (.int i2), .val (.int i3), .val (.int i4), .val (.int i5), .val (.int (Int32.ofNat wd)), .val (.int (Int32.ofNat cn)), .val (.int (Int32.ofNat fr)), .val (.int (Int32.ofNat os)), .val (.ref b14), .val (.ref b103)] [])) _
    refine XS.aload X147.here hx rfl (hb hby at_255) rfl rfl ?_
    show Steps p.tables e below (T147.setTop (mkF m 257 #[.val (.long i0), .second, .val (.long i1), .second, .val (.int i2), .val (.int i3), .val (.int i4), .val (.int i5), .val (.int (Int32.ofNat wd)), .val (.int (Int32.ofNat cn)), .val (.int (Int32.ofNat fr)), .val (.int (Int32.ofNat os)), .val (.ref b14), .val (.ref b103)] [(.ref b103)])) _
    refine XS.iconst X147.here hx rfl (hb hby at_257) ?_
    show Steps p.tables e below (T147.setTop (mkF m 258 #[.val (.long i0), .second, .val (.long i1), .second, .val (.int i2), .val (.int i3), .val (.int i4), .val (.int i5), .val (.int (Int32.ofNat wd)), .val (.int (Int32.ofNat cn)), .val (.int (Int32.ofNat fr)), .val (.int (Int32.ofNat os)), .val (.ref b14), .val (.ref b103)] [(.int (0 : Int32)), (.ref b103)])) _
    obtain ⟨cl151, Ar151, -, S151, N151, H151, -⟩ := id V147q
    have hin151 : ¬ ((0 : Int32) < 0 ∨ cl151.slots.size ≤ ((0 : Int32)).toNatClampNeg) := inb_of S151 ⟨by decide, by decide⟩
    have hat151 := H151.at hin151 (v := (.int (own_rd (own_N i0 i1) fr wd cn os 0))) (own_fillG _ _ _ _ _ 0 (by decide) _)
    refine X147.iaload hx (j := (0 : Int32)) (v := (.int (own_rd (own_N i0 i1) fr wd cn os 0))) Ar151.1 (State.isArrayOf_alike hZ.alike Ar151.2.1) Ar151.2.2 hin151 hat151 (g := (mkF m 258 #[.val (.long i0), .second, .val (.long i1), .second, .val (.int i2), .val (.int i3), .val (.int i4), .val (.int i5), .val (.int (Int32.ofNat wd)), .val (.int (Int32.ofNat cn)), .val (.int (Int32.ofNat fr)), .val (.int (Int32.ofNat os)), .val (.ref b14), .val (.ref b103)] [(.int (0 : Int32)), (.ref b103)])) rfl rfl (hb hby at_258) _ ?_
    show Steps p.tables e below (T147.setTop (mkF m 259 #[.val (.long i0), .second, .val (.long i1), .second, .val (.int i2), .val (.int i3), .val (.int i4), .val (.int i5), .val (.int (Int32.ofNat wd)), .val (.int (Int32.ofNat cn)), .val (.int (Int32.ofNat fr)), .val (.int (Int32.ofNat os)), .val (.ref b14), .val (.ref b103)] [(.int (own_rd (own_N i0 i1) fr wd cn os 0))])) _
    refine XS.iconst X147.here hx rfl (hb hby at_259) ?_
    show Steps p.tables e below (T147.setTop (mkF m 260 #[.val (.long i0), .second, .val (.long i1), .second, .val (.int i2), .val (.int i3), .val (.int i4), .val (.int i5), .val (.int (Int32.ofNat wd)), .val (.int (Int32.ofNat cn)), .val (.int (Int32.ofNat fr)), .val (.int (Int32.ofNat os)), .val (.ref b14), .val (.ref b103)] [(.int (0 : Int32)), (.int (own_rd (own_N i0 i1) fr wd cn os 0))])) _
    refine XS.lloadN X147.here hx rfl (hb hby at_260) rfl ?_
    show Steps p.tables e below (T147.setTop (mkF m 261 #[.val (.long i0), .second, .val (.long i1), .second, .val (.int i2), .val (.int i3), .val (.int i4), .val (.int i5), .val (.int (Int32.ofNat wd)), .val (.int (Int32.ofNat cn)), .val (.int (Int32.ofNat fr)), .val (.int (Int32.ofNat os)), .val (.ref b14), .val (.ref b103)] [(.long i0), (.int (0 : Int32)), (.int (own_rd (own_N i0 i1) fr wd cn os 0))])) _
    refine XS.lloadN X147.here hx rfl (hb hby at_261) rfl ?_
    show Steps p.tables e below (T147.setTop (mkF m 262 #[.val (.long i0), .second, .val (.long i1), .second, .val (.int i2), .val (.int i3), .val (.int i4), .val (.int i5), .val (.int (Int32.ofNat wd)), .val (.int (Int32.ofNat cn)), .val (.int (Int32.ofNat fr)), .val (.int (Int32.ofNat os)), .val (.ref b14), .val (.ref b103)] [(.long i1), (.long i0), (.int (0 : Int32)), (.int (own_rd (own_N i0 i1) fr wd cn os 0))])) _
    refine XS.iload X147.here hx rfl (hb hby at_262) rfl ?_
    show Steps p.tables e below (T147.setTop (mkF m 264 #[.val (.long i0), .second, .val (.long i1), .second, .val (.int i2), .val (.int i3), .val (.int i4), .val (.int i5), .val (.int (Int32.ofNat wd)), .val (.int (Int32.ofNat cn)), .val (.int (Int32.ofNat fr)), .val (.int (Int32.ofNat os)), .val (.ref b14), .val (.ref b103)] [(.int (Int32.ofNat fr)), (.long i1), (.long i0), (.int (0 : Int32)), (.int (own_rd (own_N i0 i1) fr wd cn os 0))])) _
    refine XS.iload X147.here hx rfl (hb hby at_264) rfl ?_
    show Steps p.tables e below (T147.setTop (mkF m 266 #[.val (.long i0), .second, .val (.long i1), .second, .val (.int i2), .val (.int i3), .val (.int i4), .val (.int i5), .val (.int (Int32.ofNat wd)), .val (.int (Int32.ofNat cn)), .val (.int (Int32.ofNat fr)), .val (.int (Int32.ofNat os)), .val (.ref b14), .val (.ref b103)] [(.int (Int32.ofNat wd)), (.int (Int32.ofNat fr)), (.long i1), (.long i0), (.int (0 : Int32)), (.int (own_rd (own_N i0 i1) fr wd cn os 0))])) _
    refine XS.iload X147.here hx rfl (hb hby at_266) rfl ?_
    show Steps p.tables e below (T147.setTop (mkF m 268 #[.val (.long i0), .second, .val (.long i1), .second, .val (.int i2), .val (.int i3), .val (.int i4), .val (.int i5), .val (.int (Int32.ofNat wd)), .val (.int (Int32.ofNat cn)), .val (.int (Int32.ofNat fr)), .val (.int (Int32.ofNat os)), .val (.ref b14), .val (.ref b103)] [(.int (Int32.ofNat cn)), (.int (Int32.ofNat wd)), (.int (Int32.ofNat fr)), (.long i1), (.long i0), (.int (0 : Int32)), (.int (own_rd (own_N i0 i1) fr wd cn os 0))])) _
    refine XS.iload X147.here hx rfl (hb hby at_268) rfl ?_
    exact k)
  obtain ⟨_, _, ⟨T153, L153, k153, n153⟩, -, X153, ⟨Lc153, hQ153, l153, y153, z153⟩, st153⟩ := Jvm.LawKit.callS X147 hx (y := (⟨"tidemark/format/ParquetRunLengthsUnpackPinLaw", "expect", "(IJJIIII)I"⟩ : MethodName)) hown (mvT hZ (hw _ (List.mem_of_getElem? (i := 8) rfl))) (mvT hZ (hw _ (List.mem_of_getElem? (i := 9) rfl))) (mvT hZ (hw _ (List.mem_of_getElem? (i := 10) rfl))) (mvT hZ (hw _ (List.mem_of_getElem? (i := 11) rfl))) (by decide) (backOf (W := 1) (rm2 l Z a0 hw [] (0 : Int32) i0 i1 (Int32.ofNat fr) (Int32.ofNat wd) (Int32.ofNat cn) (Int32.ofNat os) T147.heap n0 Z_148 ) hZ (hw _ (List.mem_of_getElem? (i := 11) rfl)) (hw _ (List.mem_of_getElem? (i := 10) rfl)) (by decide) (by decide)) (g := (mkF m 270 #[.val (.long i0), .second, .val (.long i1), .second, .val (.int i2), .val (.int i3), .val (.int i4), .val (.int i5), .val (.int (Int32.ofNat wd)), .val (.int (Int32.ofNat cn)), .val (.int (Int32.ofNat fr)), .val (.int (Int32.ofNat os)), .val (.ref b14), .val (.ref b103)] [(.int (Int32.ofNat os)), (.int (Int32.ofNat cn)), (.int (Int32.ofNat wd)), (.int (Int32.ofNat fr)), (.long i1), (.long i0), (.int (0 : Int32)), (.int (own_rd (own_N i0 i1) fr wd cn os 0))])) rfl (by rw [hml]; rfl) (argsL := [(.int (0 : Int32)), (.long i0), (.long i1), (.int (Int32.ofNat fr)), (.int (Int32.ofNat wd)), (.int (Int32.ofNat cn)), (.int (Int32.ofNat os))]) (rest := [(.int (own_rd (own_N i0 i1) fr wd cn os 0))]) (lenOf pd_2 rfl) rfl (by show 2 * 0 + _ ≤ _; exact Nat.le_of_eq rfl) (hb hby at_270) (fun _ _ => ⟨rfl, rfl, (by decide : (0 + 1 + 1 + 0) + 0 ≤ _), (by decide : (0 + 16 + 6 + 0) + 0 ≤ _)⟩)
  dsimp only [Pt.U, Pt.locs, Pt.cells, Pt.slots] at X153 l153 y153 z153 st153 hQ153
  subst l153 y153 z153
  obtain ⟨rfl, N153q, e153⟩ := hQ153
  have N153 := Fr.app N147 N153q
  have P154 : own_Rch p.tables e below A0 (T153.setTop (mkF m 273 #[.val (.long i0), .second, .val (.long i1), .second, .val (.int i2), .val (.int i3), .val (.int i4), .val (.int i5), .val (.int (Int32.ofNat wd)), .val (.int (Int32.ofNat cn)), .val (.int (Int32.ofNat fr)), .val (.int (Int32.ofNat os)), .val (.ref b14), .val (.ref b103)] [(.int (own_expect (0 : Int32) i0 i1 (Int32.ofNat fr) (Int32.ofNat wd) (Int32.ofNat cn) (Int32.ofNat os))), (.int (own_rd (own_N i0 i1) fr wd cn os 0))])) := fun t k => P152 t (st153 t k)
  by_cases hc155 : (own_rd (own_N i0 i1) fr wd cn os 0) = (own_expect (0 : Int32) i0 i1 (Int32.ofNat fr) (Int32.ofNat wd) (Int32.ofNat cn) (Int32.ofNat os))
  · -- (own_rd (own_N i0 i1) fr wd cn os 0) = (own_expect (0 : Int32) i0 i1 (Int32.ofNat fr) (Int32.ofNat wd) (Int32.ofNat cn) (Int32.ofNat os))
    have P157 : own_Rch p.tables e below A0 (T153.setTop (mkF m 291 #[.val (.long i0), .second, .val (.long i1), .second, .val (.int i2), .val (.int i3), .val (.int i4), .val (.int i5), .val (.int (Int32.ofNat wd)), .val (.int (Int32.ofNat cn)), .val (.int (Int32.ofNat fr)), .val (.int (Int32.ofNat os)), .val (.ref b14), .val (.ref b103)] [(.int (Int32.ofNat os)), (.int (Int32.ofNat cn)), (.int (Int32.ofNat wd)), (.int (Int32.ofNat fr)), (.long i1), (.long i0), (.int (1 : Int32)), (.int (own_rd (own_N i0 i1) fr wd cn os 1))])) := fun t k => P154 t (by
      show Steps p.tables e below (T153.setTop (mkF m 273 #[.val (.long i0), .second, .val (.long i1), .second, .val (.int i2), .val (.int i3), .val (.int i4), .val (.int i5), .val (.int (Int32.ofNat wd)), .val (.int (Int32.ofNat cn)), .val (.int (Int32.ofNat fr)), .val (.int (Int32.ofNat os)), .val (.ref b14), .val (.ref b103)] [(.int (own_expect (0 : Int32) i0 i1 (Int32.ofNat fr) (Int32.ofNat wd) (Int32.ofNat cn) (Int32.ofNat os))), (.int (own_rd (own_N i0 i1) fr wd cn os 0))])) _
      refine XS.icmpNo X153.here hx rfl (hb hby at_273) rfl (teq hc155).2 ?_
      show Steps p.tables e below (T153.setTop (mkF m 276 #[.val (.long i0), .second, .val (.long i1), .second, .val (.int i2), .val (.int i3), .val (.int i4), .val (.int i5), .val (.int (Int32.ofNat wd)), .val (.int (Int32.ofNat cn)), .val (.int (Int32.ofNat fr)), .val (.int (Int32.ofNat os)), .val (.ref b14), .val (.ref b103)] [])) _
      refine XS.aload X153.here hx rfl (hb hby at_276) rfl rfl ?_
      show Steps p.tables e below (T153.setTop (mkF m 278 #[.val (.long i0), .second, .val (.long i1), .second, .val (.int i2), .val (.int i3), .val (.int i4), .val (.int i5), .val (.int (Int32.ofNat wd)), .val (.int (Int32.ofNat cn)), .val (.int (Int32.ofNat fr)), .val (.int (Int32.ofNat os)), .val (.ref b14), .val (.ref b103)] [(.ref b103)])) _
      refine XS.iconst X153.here hx rfl (hb hby at_278) ?_
      show Steps p.tables e below (T153.setTop (mkF m 279 #[.val (.long i0), .second, .val (.long i1), .second, .val (.int i2), .val (.int i3), .val (.int i4), .val (.int i5), .val (.int (Int32.ofNat wd)), .val (.int (Int32.ofNat cn)), .val (.int (Int32.ofNat fr)), .val (.int (Int32.ofNat os)), .val (.ref b14), .val (.ref b103)] [(.int (1 : Int32)), (.ref b103)])) _
      obtain ⟨cl156, Ar156, -, S156, N156, H156, -⟩ := id V147q
      have hin156 : ¬ ((1 : Int32) < 0 ∨ cl156.slots.size ≤ ((1 : Int32)).toNatClampNeg) := inb_of S156 ⟨by decide, by decide⟩
      have hat156 := H156.at hin156 (v := (.int (own_rd (own_N i0 i1) fr wd cn os 1))) (own_fillG _ _ _ _ _ 1 (by decide) _)
      refine X153.iaload hx (j := (1 : Int32)) (v := (.int (own_rd (own_N i0 i1) fr wd cn os 1))) (by rw [e153]; exact Ar156.1) (State.isArrayOf_alike hZ.alike Ar156.2.1) Ar156.2.2 hin156 hat156 (g := (mkF m 279 #[.val (.long i0), .second, .val (.long i1), .second, .val (.int i2), .val (.int i3), .val (.int i4), .val (.int i5), .val (.int (Int32.ofNat wd)), .val (.int (Int32.ofNat cn)), .val (.int (Int32.ofNat fr)), .val (.int (Int32.ofNat os)), .val (.ref b14), .val (.ref b103)] [(.int (1 : Int32)), (.ref b103)])) rfl rfl (hb hby at_279) _ ?_
      show Steps p.tables e below (T153.setTop (mkF m 280 #[.val (.long i0), .second, .val (.long i1), .second, .val (.int i2), .val (.int i3), .val (.int i4), .val (.int i5), .val (.int (Int32.ofNat wd)), .val (.int (Int32.ofNat cn)), .val (.int (Int32.ofNat fr)), .val (.int (Int32.ofNat os)), .val (.ref b14), .val (.ref b103)] [(.int (own_rd (own_N i0 i1) fr wd cn os 1))])) _
      refine XS.iconst X153.here hx rfl (hb hby at_280) ?_
      show Steps p.tables e below (T153.setTop (mkF m 281 #[.val (.long i0), .second, .val (.long i1), .second, .val (.int i2), .val (.int i3), .val (.int i4), .val (.int i5), .val (.int (Int32.ofNat wd)), .val (.int (Int32.ofNat cn)), .val (.int (Int32.ofNat fr)), .val (.int (Int32.ofNat os)), .val (.ref b14), .val (.ref b103)] [(.int (1 : Int32)), (.int (own_rd (own_N i0 i1) fr wd cn os 1))])) _
      refine XS.lloadN X153.here hx rfl (hb hby at_281) rfl ?_
      show Steps p.tables e below (T153.setTop (mkF m 282 #[.val (.long i0), .second, .val (.long i1), .second, .val (.int i2), .val (.int i3), .val (.int i4), .val (.int i5), .val (.int (Int32.ofNat wd)), .val (.int (Int32.ofNat cn)), .val (.int (Int32.ofNat fr)), .val (.int (Int32.ofNat os)), .val (.ref b14), .val (.ref b103)] [(.long i0), (.int (1 : Int32)), (.int (own_rd (own_N i0 i1) fr wd cn os 1))])) _
      refine XS.lloadN X153.here hx rfl (hb hby at_282) rfl ?_
      show Steps p.tables e below (T153.setTop (mkF m 283 #[.val (.long i0), .second, .val (.long i1), .second, .val (.int i2), .val (.int i3), .val (.int i4), .val (.int i5), .val (.int (Int32.ofNat wd)), .val (.int (Int32.ofNat cn)), .val (.int (Int32.ofNat fr)), .val (.int (Int32.ofNat os)), .val (.ref b14), .val (.ref b103)] [(.long i1), (.long i0), (.int (1 : Int32)), (.int (own_rd (own_N i0 i1) fr wd cn os 1))])) _
      refine XS.iload X153.here hx rfl (hb hby at_283) rfl ?_
      show Steps p.tables e below (T153.setTop (mkF m 285 #[.val (.long i0), .second, .val (.long i1), .second, .val (.int i2), .val (.int i3), .val (.int i4), .val (.int i5), .val (.int (Int32.ofNat wd)), .val (.int (Int32.ofNat cn)), .val (.int (Int32.ofNat fr)), .val (.int (Int32.ofNat os)), .val (.ref b14), .val (.ref b103)] [(.int (Int32.ofNat fr)), (.long i1), (.long i0), (.int (1 : Int32)), (.int (own_rd (own_N i0 i1) fr wd cn os 1))])) _
      refine XS.iload X153.here hx rfl (hb hby at_285) rfl ?_
      show Steps p.tables e below (T153.setTop (mkF m 287 #[.val (.long i0), .second, .val (.long i1), .second, .val (.int i2), .val (.int i3), .val (.int i4), .val (.int i5), .val (.int (Int32.ofNat wd)), .val (.int (Int32.ofNat cn)), .val (.int (Int32.ofNat fr)), .val (.int (Int32.ofNat os)), .val (.ref b14), .val (.ref b103)] [(.int (Int32.ofNat wd)), (.int (Int32.ofNat fr)), (.long i1), (.long i0), (.int (1 : Int32)), (.int (own_rd (own_N i0 i1) fr wd cn os 1))])) _
      refine XS.iload X153.here hx rfl (hb hby at_287) rfl ?_
      show Steps p.tables e below (T153.setTop (mkF m 289 #[.val (.long i0), .second, .val (.long i1), .second, .val (.int i2), .val (.int i3), .val (.int i4), .val (.int i5), .val (.int (Int32.ofNat wd)), .val (.int (Int32.ofNat cn)), .val (.int (Int32.ofNat fr)), .val (.int (Int32.ofNat os)), .val (.ref b14), .val (.ref b103)] [(.int (Int32.ofNat cn)), (.int (Int32.ofNat wd)), (.int (Int32.ofNat fr)), (.long i1), (.long i0), (.int (1 : Int32)), (.int (own_rd (own_N i0 i1) fr wd cn os 1))])) _
      refine XS.iload X153.here hx rfl (hb hby at_289) rfl ?_
      exact k)
    obtain ⟨_, _, ⟨T158, L158, k158, n158⟩, -, X158, ⟨Lc158, hQ158, l158, y158, z158⟩, st158⟩ := Jvm.LawKit.callS X153 hx (y := (⟨"tidemark/format/ParquetRunLengthsUnpackPinLaw", "expect", "(IJJIIII)I"⟩ : MethodName)) hown (mvT hZ (hw _ (List.mem_of_getElem? (i := 8) rfl))) (mvT hZ (hw _ (List.mem_of_getElem? (i := 9) rfl))) (mvT hZ (hw _ (List.mem_of_getElem? (i := 10) rfl))) (mvT hZ (hw _ (List.mem_of_getElem? (i := 11) rfl))) (by decide) (backOf (W := 1) (rm2 l Z a0 hw [] (1 : Int32) i0 i1 (Int32.ofNat fr) (Int32.ofNat wd) (Int32.ofNat cn) (Int32.ofNat os) T147.heap n0 Z_148 ) hZ (hw _ (List.mem_of_getElem? (i := 11) rfl)) (hw _ (List.mem_of_getElem? (i := 10) rfl)) (by decide) (by decide)) (g := (mkF m 291 #[.val (.long i0), .second, .val (.long i1), .second, .val (.int i2), .val (.int i3), .val (.int i4), .val (.int i5), .val (.int (Int32.ofNat wd)), .val (.int (Int32.ofNat cn)), .val (.int (Int32.ofNat fr)), .val (.int (Int32.ofNat os)), .val (.ref b14), .val (.ref b103)] [(.int (Int32.ofNat os)), (.int (Int32.ofNat cn)), (.int (Int32.ofNat wd)), (.int (Int32.ofNat fr)), (.long i1), (.long i0), (.int (1 : Int32)), (.int (own_rd (own_N i0 i1) fr wd cn os 1))])) rfl (by rw [hml]; rfl) (argsL := [(.int (1 : Int32)), (.long i0), (.long i1), (.int (Int32.ofNat fr)), (.int (Int32.ofNat wd)), (.int (Int32.ofNat cn)), (.int (Int32.ofNat os))]) (rest := [(.int (own_rd (own_N i0 i1) fr wd cn os 1))]) (lenOf pd_2 rfl) rfl (by show 2 * 0 + _ ≤ _; exact Nat.le_of_eq rfl) (hb hby at_291) (fun _ _ => ⟨rfl, e153, (by decide : (0 + 1 + 1 + 0 + 0) + 0 ≤ _), (by decide : (0 + 16 + 6 + 0 + 0) + 0 ≤ _)⟩)
    dsimp only [Pt.U, Pt.locs, Pt.cells, Pt.slots] at X158 l158 y158 z158 st158 hQ158
    subst l158 y158 z158
    obtain ⟨rfl, N158q, e158⟩ := hQ158
    have N158 := Fr.app N153 N158q
    have P159 : own_Rch p.tables e below A0 (T158.setTop (mkF m 294 #[.val (.long i0), .second, .val (.long i1), .second, .val (.int i2), .val (.int i3), .val (.int i4), .val (.int i5), .val (.int (Int32.ofNat wd)), .val (.int (Int32.ofNat cn)), .val (.int (Int32.ofNat fr)), .val (.int (Int32.ofNat os)), .val (.ref b14), .val (.ref b103)] [(.int (own_expect (1 : Int32) i0 i1 (Int32.ofNat fr) (Int32.ofNat wd) (Int32.ofNat cn) (Int32.ofNat os))), (.int (own_rd (own_N i0 i1) fr wd cn os 1))])) := fun t k => P157 t (st158 t k)
    by_cases hc160 : (own_rd (own_N i0 i1) fr wd cn os 1) = (own_expect (1 : Int32) i0 i1 (Int32.ofNat fr) (Int32.ofNat wd) (Int32.ofNat cn) (Int32.ofNat os))
    · -- (own_rd (own_N i0 i1) fr wd cn os 1) = (own_expect (1 : Int32) i0 i1 (Int32.ofNat fr) (Int32.ofNat wd) (Int32.ofNat cn) (Int32.ofNat os))
      have P162 : own_Rch p.tables e below A0 (T158.setTop (mkF m 312 #[.val (.long i0), .second, .val (.long i1), .second, .val (.int i2), .val (.int i3), .val (.int i4), .val (.int i5), .val (.int (Int32.ofNat wd)), .val (.int (Int32.ofNat cn)), .val (.int (Int32.ofNat fr)), .val (.int (Int32.ofNat os)), .val (.ref b14), .val (.ref b103)] [(.int (Int32.ofNat os)), (.int (Int32.ofNat cn)), (.int (Int32.ofNat wd)), (.int (Int32.ofNat fr)), (.long i1), (.long i0), (.int (2 : Int32)), (.int (own_rd (own_N i0 i1) fr wd cn os 2))])) := fun t k => P159 t (by
        show Steps p.tables e below (T158.setTop (mkF m 294 #[.val (.long i0), .second, .val (.long i1), .second, .val (.int i2), .val (.int i3), .val (.int i4), .val (.int i5), .val (.int (Int32.ofNat wd)), .val (.int (Int32.ofNat cn)), .val (.int (Int32.ofNat fr)), .val (.int (Int32.ofNat os)), .val (.ref b14), .val (.ref b103)] [(.int (own_expect (1 : Int32) i0 i1 (Int32.ofNat fr) (Int32.ofNat wd) (Int32.ofNat cn) (Int32.ofNat os))), (.int (own_rd (own_N i0 i1) fr wd cn os 1))])) _
        refine XS.icmpNo X158.here hx rfl (hb hby at_294) rfl (teq hc160).2 ?_
        show Steps p.tables e below (T158.setTop (mkF m 297 #[.val (.long i0), .second, .val (.long i1), .second, .val (.int i2), .val (.int i3), .val (.int i4), .val (.int i5), .val (.int (Int32.ofNat wd)), .val (.int (Int32.ofNat cn)), .val (.int (Int32.ofNat fr)), .val (.int (Int32.ofNat os)), .val (.ref b14), .val (.ref b103)] [])) _
        refine XS.aload X158.here hx rfl (hb hby at_297) rfl rfl ?_
        show Steps p.tables e below (T158.setTop (mkF m 299 #[.val (.long i0), .second, .val (.long i1), .second, .val (.int i2), .val (.int i3), .val (.int i4), .val (.int i5), .val (.int (Int32.ofNat wd)), .val (.int (Int32.ofNat cn)), .val (.int (Int32.ofNat fr)), .val (.int (Int32.ofNat os)), .val (.ref b14), .val (.ref b103)] [(.ref b103)])) _
        refine XS.iconst X158.here hx rfl (hb hby at_299) ?_
        show Steps p.tables e below (T158.setTop (mkF m 300 #[.val (.long i0), .second, .val (.long i1), .second, .val (.int i2), .val (.int i3), .val (.int i4), .val (.int i5), .val (.int (Int32.ofNat wd)), .val (.int (Int32.ofNat cn)), .val (.int (Int32.ofNat fr)), .val (.int (Int32.ofNat os)), .val (.ref b14), .val (.ref b103)] [(.int (2 : Int32)), (.ref b103)])) _
        obtain ⟨cl161, Ar161, -, S161, N161, H161, -⟩ := id V147q
        have hin161 : ¬ ((2 : Int32) < 0 ∨ cl161.slots.size ≤ ((2 : Int32)).toNatClampNeg) := inb_of S161 ⟨by decide, by decide⟩
        have hat161 := H161.at hin161 (v := (.int (own_rd (own_N i0 i1) fr wd cn os 2))) (own_fillG _ _ _ _ _ 2 (by decide) _)
        refine X158.iaload hx (j := (2 : Int32)) (v := (.int (own_rd (own_N i0 i1) fr wd cn os 2))) (by rw [e158]; exact Ar161.1) (State.isArrayOf_alike hZ.alike Ar161.2.1) Ar161.2.2 hin161 hat161 (g := (mkF m 300 #[.val (.long i0), .second, .val (.long i1), .second, .val (.int i2), .val (.int i3), .val (.int i4), .val (.int i5), .val (.int (Int32.ofNat wd)), .val (.int (Int32.ofNat cn)), .val (.int (Int32.ofNat fr)), .val (.int (Int32.ofNat os)), .val (.ref b14), .val (.ref b103)] [(.int (2 : Int32)), (.ref b103)])) rfl rfl (hb hby at_300) _ ?_
        show Steps p.tables e below (T158.setTop (mkF m 301 #[.val (.long i0), .second, .val (.long i1), .second, .val (.int i2), .val (.int i3), .val (.int i4), .val (.int i5), .val (.int (Int32.ofNat wd)), .val (.int (Int32.ofNat cn)), .val (.int (Int32.ofNat fr)), .val (.int (Int32.ofNat os)), .val (.ref b14), .val (.ref b103)] [(.int (own_rd (own_N i0 i1) fr wd cn os 2))])) _
        refine XS.iconst X158.here hx rfl (hb hby at_301) ?_
        show Steps p.tables e below (T158.setTop (mkF m 302 #[.val (.long i0), .second, .val (.long i1), .second, .val (.int i2), .val (.int i3), .val (.int i4), .val (.int i5), .val (.int (Int32.ofNat wd)), .val (.int (Int32.ofNat cn)), .val (.int (Int32.ofNat fr)), .val (.int (Int32.ofNat os)), .val (.ref b14), .val (.ref b103)] [(.int (2 : Int32)), (.int (own_rd (own_N i0 i1) fr wd cn os 2))])) _
        refine XS.lloadN X158.here hx rfl (hb hby at_302) rfl ?_
        show Steps p.tables e below (T158.setTop (mkF m 303 #[.val (.long i0), .second, .val (.long i1), .second, .val (.int i2), .val (.int i3), .val (.int i4), .val (.int i5), .val (.int (Int32.ofNat wd)), .val (.int (Int32.ofNat cn)), .val (.int (Int32.ofNat fr)), .val (.int (Int32.ofNat os)), .val (.ref b14), .val (.ref b103)] [(.long i0), (.int (2 : Int32)), (.int (own_rd (own_N i0 i1) fr wd cn os 2))])) _
        refine XS.lloadN X158.here hx rfl (hb hby at_303) rfl ?_
        show Steps p.tables e below (T158.setTop (mkF m 304 #[.val (.long i0), .second, .val (.long i1), .second, .val (.int i2), .val (.int i3), .val (.int i4), .val (.int i5), .val (.int (Int32.ofNat wd)), .val (.int (Int32.ofNat cn)), .val (.int (Int32.ofNat fr)), .val (.int (Int32.ofNat os)), .val (.ref b14), .val (.ref b103)] [(.long i1), (.long i0), (.int (2 : Int32)), (.int (own_rd (own_N i0 i1) fr wd cn os 2))])) _
        refine XS.iload X158.here hx rfl (hb hby at_304) rfl ?_
        show Steps p.tables e below (T158.setTop (mkF m 306 #[.val (.long i0), .second, .val (.long i1), .second, .val (.int i2), .val (.int i3), .val (.int i4), .val (.int i5), .val (.int (Int32.ofNat wd)), .val (.int (Int32.ofNat cn)), .val (.int (Int32.ofNat fr)), .val (.int (Int32.ofNat os)), .val (.ref b14), .val (.ref b103)] [(.int (Int32.ofNat fr)), (.long i1), (.long i0), (.int (2 : Int32)), (.int (own_rd (own_N i0 i1) fr wd cn os 2))])) _
        refine XS.iload X158.here hx rfl (hb hby at_306) rfl ?_
        show Steps p.tables e below (T158.setTop (mkF m 308 #[.val (.long i0), .second, .val (.long i1), .second, .val (.int i2), .val (.int i3), .val (.int i4), .val (.int i5), .val (.int (Int32.ofNat wd)), .val (.int (Int32.ofNat cn)), .val (.int (Int32.ofNat fr)), .val (.int (Int32.ofNat os)), .val (.ref b14), .val (.ref b103)] [(.int (Int32.ofNat wd)), (.int (Int32.ofNat fr)), (.long i1), (.long i0), (.int (2 : Int32)), (.int (own_rd (own_N i0 i1) fr wd cn os 2))])) _
        refine XS.iload X158.here hx rfl (hb hby at_308) rfl ?_
        show Steps p.tables e below (T158.setTop (mkF m 310 #[.val (.long i0), .second, .val (.long i1), .second, .val (.int i2), .val (.int i3), .val (.int i4), .val (.int i5), .val (.int (Int32.ofNat wd)), .val (.int (Int32.ofNat cn)), .val (.int (Int32.ofNat fr)), .val (.int (Int32.ofNat os)), .val (.ref b14), .val (.ref b103)] [(.int (Int32.ofNat cn)), (.int (Int32.ofNat wd)), (.int (Int32.ofNat fr)), (.long i1), (.long i0), (.int (2 : Int32)), (.int (own_rd (own_N i0 i1) fr wd cn os 2))])) _
        refine XS.iload X158.here hx rfl (hb hby at_310) rfl ?_
        exact k)
      obtain ⟨_, _, ⟨T163, L163, k163, n163⟩, -, X163, ⟨Lc163, hQ163, l163, y163, z163⟩, st163⟩ := Jvm.LawKit.callS X158 hx (y := (⟨"tidemark/format/ParquetRunLengthsUnpackPinLaw", "expect", "(IJJIIII)I"⟩ : MethodName)) hown (mvT hZ (hw _ (List.mem_of_getElem? (i := 8) rfl))) (mvT hZ (hw _ (List.mem_of_getElem? (i := 9) rfl))) (mvT hZ (hw _ (List.mem_of_getElem? (i := 10) rfl))) (mvT hZ (hw _ (List.mem_of_getElem? (i := 11) rfl))) (by decide) (backOf (W := 1) (rm2 l Z a0 hw [] (2 : Int32) i0 i1 (Int32.ofNat fr) (Int32.ofNat wd) (Int32.ofNat cn) (Int32.ofNat os) T147.heap n0 Z_148 ) hZ (hw _ (List.mem_of_getElem? (i := 11) rfl)) (hw _ (List.mem_of_getElem? (i := 10) rfl)) (by decide) (by decide)) (g := (mkF m 312 #[.val (.long i0), .second, .val (.long i1), .second, .val (.int i2), .val (.int i3), .val (.int i4), .val (.int i5), .val (.int (Int32.ofNat wd)), .val (.int (Int32.ofNat cn)), .val (.int (Int32.ofNat fr)), .val (.int (Int32.ofNat os)), .val (.ref b14), .val (.ref b103)] [(.int (Int32.ofNat os)), (.int (Int32.ofNat cn)), (.int (Int32.ofNat wd)), (.int (Int32.ofNat fr)), (.long i1), (.long i0), (.int (2 : Int32)), (.int (own_rd (own_N i0 i1) fr wd cn os 2))])) rfl (by rw [hml]; rfl) (argsL := [(.int (2 : Int32)), (.long i0), (.long i1), (.int (Int32.ofNat fr)), (.int (Int32.ofNat wd)), (.int (Int32.ofNat cn)), (.int (Int32.ofNat os))]) (rest := [(.int (own_rd (own_N i0 i1) fr wd cn os 2))]) (lenOf pd_2 rfl) rfl (by show 2 * 0 + _ ≤ _; exact Nat.le_of_eq rfl) (hb hby at_312) (fun _ _ => ⟨rfl, e158, (by decide : (0 + 1 + 1 + 0 + 0 + 0) + 0 ≤ _), (by decide : (0 + 16 + 6 + 0 + 0 + 0) + 0 ≤ _)⟩)
      dsimp only [Pt.U, Pt.locs, Pt.cells, Pt.slots] at X163 l163 y163 z163 st163 hQ163
      subst l163 y163 z163
      obtain ⟨rfl, N163q, e163⟩ := hQ163
      have N163 := Fr.app N158 N163q
      have P164 : own_Rch p.tables e below A0 (T163.setTop (mkF m 315 #[.val (.long i0), .second, .val (.long i1), .second, .val (.int i2), .val (.int i3), .val (.int i4), .val (.int i5), .val (.int (Int32.ofNat wd)), .val (.int (Int32.ofNat cn)), .val (.int (Int32.ofNat fr)), .val (.int (Int32.ofNat os)), .val (.ref b14), .val (.ref b103)] [(.int (own_expect (2 : Int32) i0 i1 (Int32.ofNat fr) (Int32.ofNat wd) (Int32.ofNat cn) (Int32.ofNat os))), (.int (own_rd (own_N i0 i1) fr wd cn os 2))])) := fun t k => P162 t (st163 t k)
      by_cases hc165 : (own_rd (own_N i0 i1) fr wd cn os 2) = (own_expect (2 : Int32) i0 i1 (Int32.ofNat fr) (Int32.ofNat wd) (Int32.ofNat cn) (Int32.ofNat os))
      · -- (own_rd (own_N i0 i1) fr wd cn os 2) = (own_expect (2 : Int32) i0 i1 (Int32.ofNat fr) (Int32.ofNat wd) (Int32.ofNat cn) (Int32.ofNat os))
        have P167 : own_Rch p.tables e below A0 (T163.setTop (mkF m 333 #[.val (.long i0), .second, .val (.long i1), .second, .val (.int i2), .val (.int i3), .val (.int i4), .val (.int i5), .val (.int (Int32.ofNat wd)), .val (.int (Int32.ofNat cn)), .val (.int (Int32.ofNat fr)), .val (.int (Int32.ofNat os)), .val (.ref b14), .val (.ref b103)] [(.int (Int32.ofNat os)), (.int (Int32.ofNat cn)), (.int (Int32.ofNat wd)), (.int (Int32.ofNat fr)), (.long i1), (.long i0), (.int (3 : Int32)), (.int (own_rd (own_N i0 i1) fr wd cn os 3))])) := fun t k => P164 t (by
          show Steps p.tables e below (T163.setTop (mkF m 315 #[.val (.long i0), .second, .val (.long i1), .second, .val (.int i2), .val (.int i3), .val (.int i4), .val (.int i5), .val (.int (Int32.ofNat wd)), .val (.int (Int32.ofNat cn)), .val (.int (Int32.ofNat fr)), .val (.int (Int32.ofNat os)), .val (.ref b14), .val (.ref b103)] [(.int (own_expect (2 : Int32) i0 i1 (Int32.ofNat fr) (Int32.ofNat wd) (Int32.ofNat cn) (Int32.ofNat os))), (.int (own_rd (own_N i0 i1) fr wd cn os 2))])) _
          refine XS.icmpNo X163.here hx rfl (hb hby at_315) rfl (teq hc165).2 ?_
          show Steps p.tables e below (T163.setTop (mkF m 318 #[.val (.long i0), .second, .val (.long i1), .second, .val (.int i2), .val (.int i3), .val (.int i4), .val (.int i5), .val (.int (Int32.ofNat wd)), .val (.int (Int32.ofNat cn)), .val (.int (Int32.ofNat fr)), .val (.int (Int32.ofNat os)), .val (.ref b14), .val (.ref b103)] [])) _
          refine XS.aload X163.here hx rfl (hb hby at_318) rfl rfl ?_
          show Steps p.tables e below (T163.setTop (mkF m 320 #[.val (.long i0), .second, .val (.long i1), .second, .val (.int i2), .val (.int i3), .val (.int i4), .val (.int i5), .val (.int (Int32.ofNat wd)), .val (.int (Int32.ofNat cn)), .val (.int (Int32.ofNat fr)), .val (.int (Int32.ofNat os)), .val (.ref b14), .val (.ref b103)] [(.ref b103)])) _
          refine XS.iconst X163.here hx rfl (hb hby at_320) ?_
          show Steps p.tables e below (T163.setTop (mkF m 321 #[.val (.long i0), .second, .val (.long i1), .second, .val (.int i2), .val (.int i3), .val (.int i4), .val (.int i5), .val (.int (Int32.ofNat wd)), .val (.int (Int32.ofNat cn)), .val (.int (Int32.ofNat fr)), .val (.int (Int32.ofNat os)), .val (.ref b14), .val (.ref b103)] [(.int (3 : Int32)), (.ref b103)])) _
          obtain ⟨cl166, Ar166, -, S166, N166, H166, -⟩ := id V147q
          have hin166 : ¬ ((3 : Int32) < 0 ∨ cl166.slots.size ≤ ((3 : Int32)).toNatClampNeg) := inb_of S166 ⟨by decide, by decide⟩
          have hat166 := H166.at hin166 (v := (.int (own_rd (own_N i0 i1) fr wd cn os 3))) (own_fillG _ _ _ _ _ 3 (by decide) _)
          refine X163.iaload hx (j := (3 : Int32)) (v := (.int (own_rd (own_N i0 i1) fr wd cn os 3))) (by rw [e163]; exact Ar166.1) (State.isArrayOf_alike hZ.alike Ar166.2.1) Ar166.2.2 hin166 hat166 (g := (mkF m 321 #[.val (.long i0), .second, .val (.long i1), .second, .val (.int i2), .val (.int i3), .val (.int i4), .val (.int i5), .val (.int (Int32.ofNat wd)), .val (.int (Int32.ofNat cn)), .val (.int (Int32.ofNat fr)), .val (.int (Int32.ofNat os)), .val (.ref b14), .val (.ref b103)] [(.int (3 : Int32)), (.ref b103)])) rfl rfl (hb hby at_321) _ ?_
          show Steps p.tables e below (T163.setTop (mkF m 322 #[.val (.long i0), .second, .val (.long i1), .second, .val (.int i2), .val (.int i3), .val (.int i4), .val (.int i5), .val (.int (Int32.ofNat wd)), .val (.int (Int32.ofNat cn)), .val (.int (Int32.ofNat fr)), .val (.int (Int32.ofNat os)), .val (.ref b14), .val (.ref b103)] [(.int (own_rd (own_N i0 i1) fr wd cn os 3))])) _
          refine XS.iconst X163.here hx rfl (hb hby at_322) ?_
          show Steps p.tables e below (T163.setTop (mkF m 323 #[.val (.long i0), .second, .val (.long i1), .second, .val (.int i2), .val (.int i3), .val (.int i4), .val (.int i5), .val (.int (Int32.ofNat wd)), .val (.int (Int32.ofNat cn)), .val (.int (Int32.ofNat fr)), .val (.int (Int32.ofNat os)), .val (.ref b14), .val (.ref b103)] [(.int (3 : Int32)), (.int (own_rd (own_N i0 i1) fr wd cn os 3))])) _
          refine XS.lloadN X163.here hx rfl (hb hby at_323) rfl ?_
          show Steps p.tables e below (T163.setTop (mkF m 324 #[.val (.long i0), .second, .val (.long i1), .second, .val (.int i2), .val (.int i3), .val (.int i4), .val (.int i5), .val (.int (Int32.ofNat wd)), .val (.int (Int32.ofNat cn)), .val (.int (Int32.ofNat fr)), .val (.int (Int32.ofNat os)), .val (.ref b14), .val (.ref b103)] [(.long i0), (.int (3 : Int32)), (.int (own_rd (own_N i0 i1) fr wd cn os 3))])) _
          refine XS.lloadN X163.here hx rfl (hb hby at_324) rfl ?_
          show Steps p.tables e below (T163.setTop (mkF m 325 #[.val (.long i0), .second, .val (.long i1), .second, .val (.int i2), .val (.int i3), .val (.int i4), .val (.int i5), .val (.int (Int32.ofNat wd)), .val (.int (Int32.ofNat cn)), .val (.int (Int32.ofNat fr)), .val (.int (Int32.ofNat os)), .val (.ref b14), .val (.ref b103)] [(.long i1), (.long i0), (.int (3 : Int32)), (.int (own_rd (own_N i0 i1) fr wd cn os 3))])) _
          refine XS.iload X163.here hx rfl (hb hby at_325) rfl ?_
          show Steps p.tables e below (T163.setTop (mkF m 327 #[.val (.long i0), .second, .val (.long i1), .second, .val (.int i2), .val (.int i3), .val (.int i4), .val (.int i5), .val (.int (Int32.ofNat wd)), .val (.int (Int32.ofNat cn)), .val (.int (Int32.ofNat fr)), .val (.int (Int32.ofNat os)), .val (.ref b14), .val (.ref b103)] [(.int (Int32.ofNat fr)), (.long i1), (.long i0), (.int (3 : Int32)), (.int (own_rd (own_N i0 i1) fr wd cn os 3))])) _
          refine XS.iload X163.here hx rfl (hb hby at_327) rfl ?_
          show Steps p.tables e below (T163.setTop (mkF m 329 #[.val (.long i0), .second, .val (.long i1), .second, .val (.int i2), .val (.int i3), .val (.int i4), .val (.int i5), .val (.int (Int32.ofNat wd)), .val (.int (Int32.ofNat cn)), .val (.int (Int32.ofNat fr)), .val (.int (Int32.ofNat os)), .val (.ref b14), .val (.ref b103)] [(.int (Int32.ofNat wd)), (.int (Int32.ofNat fr)), (.long i1), (.long i0), (.int (3 : Int32)), (.int (own_rd (own_N i0 i1) fr wd cn os 3))])) _
          refine XS.iload X163.here hx rfl (hb hby at_329) rfl ?_
          show Steps p.tables e below (T163.setTop (mkF m 331 #[.val (.long i0), .second, .val (.long i1), .second, .val (.int i2), .val (.int i3), .val (.int i4), .val (.int i5), .val (.int (Int32.ofNat wd)), .val (.int (Int32.ofNat cn)), .val (.int (Int32.ofNat fr)), .val (.int (Int32.ofNat os)), .val (.ref b14), .val (.ref b103)] [(.int (Int32.ofNat cn)), (.int (Int32.ofNat wd)), (.int (Int32.ofNat fr)), (.long i1), (.long i0), (.int (3 : Int32)), (.int (own_rd (own_N i0 i1) fr wd cn os 3))])) _
          refine XS.iload X163.here hx rfl (hb hby at_331) rfl ?_
          exact k)
        obtain ⟨_, _, ⟨T168, L168, k168, n168⟩, -, X168, ⟨Lc168, hQ168, l168, y168, z168⟩, st168⟩ := Jvm.LawKit.callS X163 hx (y := (⟨"tidemark/format/ParquetRunLengthsUnpackPinLaw", "expect", "(IJJIIII)I"⟩ : MethodName)) hown (mvT hZ (hw _ (List.mem_of_getElem? (i := 8) rfl))) (mvT hZ (hw _ (List.mem_of_getElem? (i := 9) rfl))) (mvT hZ (hw _ (List.mem_of_getElem? (i := 10) rfl))) (mvT hZ (hw _ (List.mem_of_getElem? (i := 11) rfl))) (by decide) (backOf (W := 1) (rm2 l Z a0 hw [] (3 : Int32) i0 i1 (Int32.ofNat fr) (Int32.ofNat wd) (Int32.ofNat cn) (Int32.ofNat os) T147.heap n0 Z_148 ) hZ (hw _ (List.mem_of_getElem? (i := 11) rfl)) (hw _ (List.mem_of_getElem? (i := 10) rfl)) (by decide) (by decide)) (g := (mkF m 333 #[.val (.long i0), .second, .val (.long i1), .second, .val (.int i2), .val (.int i3), .val (.int i4), .val (.int i5), .val (.int (Int32.ofNat wd)), .val (.int (Int32.ofNat cn)), .val (.int (Int32.ofNat fr)), .val (.int (Int32.ofNat os)), .val (.ref b14), .val (.ref b103)] [(.int (Int32.ofNat os)), (.int (Int32.ofNat cn)), (.int (Int32.ofNat wd)), (.int (Int32.ofNat fr)), (.long i1), (.long i0), (.int (3 : Int32)), (.int (own_rd (own_N i0 i1) fr wd cn os 3))])) rfl (by rw [hml]; rfl) (argsL := [(.int (3 : Int32)), (.long i0), (.long i1), (.int (Int32.ofNat fr)), (.int (Int32.ofNat wd)), (.int (Int32.ofNat cn)), (.int (Int32.ofNat os))]) (rest := [(.int (own_rd (own_N i0 i1) fr wd cn os 3))]) (lenOf pd_2 rfl) rfl (by show 2 * 0 + _ ≤ _; exact Nat.le_of_eq rfl) (hb hby at_333) (fun _ _ => ⟨rfl, e163, (by decide : (0 + 1 + 1 + 0 + 0 + 0 + 0) + 0 ≤ _), (by decide : (0 + 16 + 6 + 0 + 0 + 0 + 0) + 0 ≤ _)⟩)
        dsimp only [Pt.U, Pt.locs, Pt.cells, Pt.slots] at X168 l168 y168 z168 st168 hQ168
        subst l168 y168 z168
        obtain ⟨rfl, N168q, e168⟩ := hQ168
        have N168 := Fr.app N163 N168q
        have P169 : own_Rch p.tables e below A0 (T168.setTop (mkF m 336 #[.val (.long i0), .second, .val (.long i1), .second, .val (.int i2), .val (.int i3), .val (.int i4), .val (.int i5), .val (.int (Int32.ofNat wd)), .val (.int (Int32.ofNat cn)), .val (.int (Int32.ofNat fr)), .val (.int (Int32.ofNat os)), .val (.ref b14), .val (.ref b103)] [(.int (own_expect (3 : Int32) i0 i1 (Int32.ofNat fr) (Int32.ofNat wd) (Int32.ofNat cn) (Int32.ofNat os))), (.int (own_rd (own_N i0 i1) fr wd cn os 3))])) := fun t k => P167 t (st168 t k)
        by_cases hc170 : (own_rd (own_N i0 i1) fr wd cn os 3) = (own_expect (3 : Int32) i0 i1 (Int32.ofNat fr) (Int32.ofNat wd) (Int32.ofNat cn) (Int32.ofNat os))
        · -- (own_rd (own_N i0 i1) fr wd cn os 3) = (own_expect (3 : Int32) i0 i1 (Int32.ofNat fr) (Int32.ofNat wd) (Int32.ofNat cn) (Int32.ofNat os))
          have P172 : own_Rch p.tables e below A0 (T168.setTop (mkF m 354 #[.val (.long i0), .second, .val (.long i1), .second, .val (.int i2), .val (.int i3), .val (.int i4), .val (.int i5), .val (.int (Int32.ofNat wd)), .val (.int (Int32.ofNat cn)), .val (.int (Int32.ofNat fr)), .val (.int (Int32.ofNat os)), .val (.ref b14), .val (.ref b103)] [(.int (Int32.ofNat os)), (.int (Int32.ofNat cn)), (.int (Int32.ofNat wd)), (.int (Int32.ofNat fr)), (.long i1), (.long i0), (.int (4 : Int32)), (.int (own_rd (own_N i0 i1) fr wd cn os 4))])) := fun t k => P169 t (by
            show Steps p.tables e below (T168.setTop (mkF m 336 #[.val (.long i0), .second, .val (.long i1), .second, .val (.int i2), .val (.int i3), .val (.int i4), .val (.int i5), .val (.int (Int32.ofNat wd)), .val (.int (Int32.ofNat cn)), .val (.int (Int32.ofNat fr)), .val (.int (Int32.ofNat os)), .val (.ref b14), .val (.ref b103)] [(.int (own_expect (3 : Int32) i0 i1 (Int32.ofNat fr) (Int32.ofNat wd) (Int32.ofNat cn) (Int32.ofNat os))), (.int (own_rd (own_N i0 i1) fr wd cn os 3))])) _
            refine XS.icmpNo X168.here hx rfl (hb hby at_336) rfl (teq hc170).2 ?_
            show Steps p.tables e below (T168.setTop (mkF m 339 #[.val (.long i0), .second, .val (.long i1), .second, .val (.int i2), .val (.int i3), .val (.int i4), .val (.int i5), .val (.int (Int32.ofNat wd)), .val (.int (Int32.ofNat cn)), .val (.int (Int32.ofNat fr)), .val (.int (Int32.ofNat os)), .val (.ref b14), .val (.ref b103)] [])) _
            refine XS.aload X168.here hx rfl (hb hby at_339) rfl rfl ?_
            show Steps p.tables e below (T168.setTop (mkF m 341 #[.val (.long i0), .second, .val (.long i1), .second, .val (.int i2), .val (.int i3), .val (.int i4), .val (.int i5), .val (.int (Int32.ofNat wd)), .val (.int (Int32.ofNat cn)), .val (.int (Int32.ofNat fr)), .val (.int (Int32.ofNat os)), .val (.ref b14), .val (.ref b103)] [(.ref b103)])) _
            refine XS.iconst X168.here hx rfl (hb hby at_341) ?_
            show Steps p.tables e below (T168.setTop (mkF m 342 #[.val (.long i0), .second, .val (.long i1), .second, .val (.int i2), .val (.int i3), .val (.int i4), .val (.int i5), .val (.int (Int32.ofNat wd)), .val (.int (Int32.ofNat cn)), .val (.int (Int32.ofNat fr)), .val (.int (Int32.ofNat os)), .val (.ref b14), .val (.ref b103)] [(.int (4 : Int32)), (.ref b103)])) _
            obtain ⟨cl171, Ar171, -, S171, N171, H171, -⟩ := id V147q
            have hin171 : ¬ ((4 : Int32) < 0 ∨ cl171.slots.size ≤ ((4 : Int32)).toNatClampNeg) := inb_of S171 ⟨by decide, by decide⟩
            have hat171 := H171.at hin171 (v := (.int (own_rd (own_N i0 i1) fr wd cn os 4))) (own_fillG _ _ _ _ _ 4 (by decide) _)
            refine X168.iaload hx (j := (4 : Int32)) (v := (.int (own_rd (own_N i0 i1) fr wd cn os 4))) (by rw [e168]; exact Ar171.1) (State.isArrayOf_alike hZ.alike Ar171.2.1) Ar171.2.2 hin171 hat171 (g := (mkF m 342 #[.val (.long i0), .second, .val (.long i1), .second, .val (.int i2), .val (.int i3), .val (.int i4), .val (.int i5), .val (.int (Int32.ofNat wd)), .val (.int (Int32.ofNat cn)), .val (.int (Int32.ofNat fr)), .val (.int (Int32.ofNat os)), .val (.ref b14), .val (.ref b103)] [(.int (4 : Int32)), (.ref b103)])) rfl rfl (hb hby at_342) _ ?_
            show Steps p.tables e below (T168.setTop (mkF m 343 #[.val (.long i0), .second, .val (.long i1), .second, .val (.int i2), .val (.int i3), .val (.int i4), .val (.int i5), .val (.int (Int32.ofNat wd)), .val (.int (Int32.ofNat cn)), .val (.int (Int32.ofNat fr)), .val (.int (Int32.ofNat os)), .val (.ref b14), .val (.ref b103)] [(.int (own_rd (own_N i0 i1) fr wd cn os 4))])) _
            refine XS.iconst X168.here hx rfl (hb hby at_343) ?_
            show Steps p.tables e below (T168.setTop (mkF m 344 #[.val (.long i0), .second, .val (.long i1), .second, .val (.int i2), .val (.int i3), .val (.int i4), .val (.int i5), .val (.int (Int32.ofNat wd)), .val (.int (Int32.ofNat cn)), .val (.int (Int32.ofNat fr)), .val (.int (Int32.ofNat os)), .val (.ref b14), .val (.ref b103)] [(.int (4 : Int32)), (.int (own_rd (own_N i0 i1) fr wd cn os 4))])) _
            refine XS.lloadN X168.here hx rfl (hb hby at_344) rfl ?_
            show Steps p.tables e below (T168.setTop (mkF m 345 #[.val (.long i0), .second, .val (.long i1), .second, .val (.int i2), .val (.int i3), .val (.int i4), .val (.int i5), .val (.int (Int32.ofNat wd)), .val (.int (Int32.ofNat cn)), .val (.int (Int32.ofNat fr)), .val (.int (Int32.ofNat os)), .val (.ref b14), .val (.ref b103)] [(.long i0), (.int (4 : Int32)), (.int (own_rd (own_N i0 i1) fr wd cn os 4))])) _
            refine XS.lloadN X168.here hx rfl (hb hby at_345) rfl ?_
            show Steps p.tables e below (T168.setTop (mkF m 346 #[.val (.long i0), .second, .val (.long i1), .second, .val (.int i2), .val (.int i3), .val (.int i4), .val (.int i5), .val (.int (Int32.ofNat wd)), .val (.int (Int32.ofNat cn)), .val (.int (Int32.ofNat fr)), .val (.int (Int32.ofNat os)), .val (.ref b14), .val (.ref b103)] [(.long i1), (.long i0), (.int (4 : Int32)), (.int (own_rd (own_N i0 i1) fr wd cn os 4))])) _
            refine XS.iload X168.here hx rfl (hb hby at_346) rfl ?_
            show Steps p.tables e below (T168.setTop (mkF m 348 #[.val (.long i0), .second, .val (.long i1), .second, .val (.int i2), .val (.int i3), .val (.int i4), .val (.int i5), .val (.int (Int32.ofNat wd)), .val (.int (Int32.ofNat cn)), .val (.int (Int32.ofNat fr)), .val (.int (Int32.ofNat os)), .val (.ref b14), .val (.ref b103)] [(.int (Int32.ofNat fr)), (.long i1), (.long i0), (.int (4 : Int32)), (.int (own_rd (own_N i0 i1) fr wd cn os 4))])) _
            refine XS.iload X168.here hx rfl (hb hby at_348) rfl ?_
            show Steps p.tables e below (T168.setTop (mkF m 350 #[.val (.long i0), .second, .val (.long i1), .second, .val (.int i2), .val (.int i3), .val (.int i4), .val (.int i5), .val (.int (Int32.ofNat wd)), .val (.int (Int32.ofNat cn)), .val (.int (Int32.ofNat fr)), .val (.int (Int32.ofNat os)), .val (.ref b14), .val (.ref b103)] [(.int (Int32.ofNat wd)), (.int (Int32.ofNat fr)), (.long i1), (.long i0), (.int (4 : Int32)), (.int (own_rd (own_N i0 i1) fr wd cn os 4))])) _
            refine XS.iload X168.here hx rfl (hb hby at_350) rfl ?_
            show Steps p.tables e below (T168.setTop (mkF m 352 #[.val (.long i0), .second, .val (.long i1), .second, .val (.int i2), .val (.int i3), .val (.int i4), .val (.int i5), .val (.int (Int32.ofNat wd)), .val (.int (Int32.ofNat cn)), .val (.int (Int32.ofNat fr)), .val (.int (Int32.ofNat os)), .val (.ref b14), .val (.ref b103)] [(.int (Int32.ofNat cn)), (.int (Int32.ofNat wd)), (.int (Int32.ofNat fr)), (.long i1), (.long i0), (.int (4 : Int32)), (.int (own_rd (own_N i0 i1) fr wd cn os 4))])) _
            refine XS.iload X168.here hx rfl (hb hby at_352) rfl ?_
            exact k)
          obtain ⟨_, _, ⟨T173, L173, k173, n173⟩, -, X173, ⟨Lc173, hQ173, l173, y173, z173⟩, st173⟩ := Jvm.LawKit.callS X168 hx (y := (⟨"tidemark/format/ParquetRunLengthsUnpackPinLaw", "expect", "(IJJIIII)I"⟩ : MethodName)) hown (mvT hZ (hw _ (List.mem_of_getElem? (i := 8) rfl))) (mvT hZ (hw _ (List.mem_of_getElem? (i := 9) rfl))) (mvT hZ (hw _ (List.mem_of_getElem? (i := 10) rfl))) (mvT hZ (hw _ (List.mem_of_getElem? (i := 11) rfl))) (by decide) (backOf (W := 1) (rm2 l Z a0 hw [] (4 : Int32) i0 i1 (Int32.ofNat fr) (Int32.ofNat wd) (Int32.ofNat cn) (Int32.ofNat os) T147.heap n0 Z_148 ) hZ (hw _ (List.mem_of_getElem? (i := 11) rfl)) (hw _ (List.mem_of_getElem? (i := 10) rfl)) (by decide) (by decide)) (g := (mkF m 354 #[.val (.long i0), .second, .val (.long i1), .second, .val (.int i2), .val (.int i3), .val (.int i4), .val (.int i5), .val (.int (Int32.ofNat wd)), .val (.int (Int32.ofNat cn)), .val (.int (Int32.ofNat fr)), .val (.int (Int32.ofNat os)), .val (.ref b14), .val (.ref b103)] [(.int (Int32.ofNat os)), (.int (Int32.ofNat cn)), (.int (Int32.ofNat wd)), (.int (Int32.ofNat fr)), (.long i1), (.long i0), (.int (4 : Int32)), (.int (own_rd (own_N i0 i1) fr wd cn os 4))])) rfl (by rw [hml]; rfl) (argsL := [(.int (4 : Int32)), (.long i0), (.long i1), (.int (Int32.ofNat fr)), (.int (Int32.ofNat wd)), (.int (Int32.ofNat cn)), (.int (Int32.ofNat os))]) (rest := [(.int (own_rd (own_N i0 i1) fr wd cn os 4))]) (lenOf pd_2 rfl) rfl (by show 2 * 0 + _ ≤ _; exact Nat.le_of_eq rfl) (hb hby at_354) (fun _ _ => ⟨rfl, e168, (by decide : (0 + 1 + 1 + 0 + 0 + 0 + 0 + 0) + 0 ≤ _), (by decide : (0 + 16 + 6 + 0 + 0 + 0 + 0 + 0) + 0 ≤ _)⟩)
          dsimp only [Pt.U, Pt.locs, Pt.cells, Pt.slots] at X173 l173 y173 z173 st173 hQ173
          subst l173 y173 z173
          obtain ⟨rfl, N173q, e173⟩ := hQ173
          have N173 := Fr.app N168 N173q
          have P174 : own_Rch p.tables e below A0 (T173.setTop (mkF m 357 #[.val (.long i0), .second, .val (.long i1), .second, .val (.int i2), .val (.int i3), .val (.int i4), .val (.int i5), .val (.int (Int32.ofNat wd)), .val (.int (Int32.ofNat cn)), .val (.int (Int32.ofNat fr)), .val (.int (Int32.ofNat os)), .val (.ref b14), .val (.ref b103)] [(.int (own_expect (4 : Int32) i0 i1 (Int32.ofNat fr) (Int32.ofNat wd) (Int32.ofNat cn) (Int32.ofNat os))), (.int (own_rd (own_N i0 i1) fr wd cn os 4))])) := fun t k => P172 t (st173 t k)
          by_cases hc175 : (own_rd (own_N i0 i1) fr wd cn os 4) = (own_expect (4 : Int32) i0 i1 (Int32.ofNat fr) (Int32.ofNat wd) (Int32.ofNat cn) (Int32.ofNat os))
          · -- (own_rd (own_N i0 i1) fr wd cn os 4) = (own_expect (4 : Int32) i0 i1 (Int32.ofNat fr) (Int32.ofNat wd) (Int32.ofNat cn) (Int32.ofNat os))
            have P177 : own_Rch p.tables e below A0 (T173.setTop (mkF m 375 #[.val (.long i0), .second, .val (.long i1), .second, .val (.int i2), .val (.int i3), .val (.int i4), .val (.int i5), .val (.int (Int32.ofNat wd)), .val (.int (Int32.ofNat cn)), .val (.int (Int32.ofNat fr)), .val (.int (Int32.ofNat os)), .val (.ref b14), .val (.ref b103)] [(.int (Int32.ofNat os)), (.int (Int32.ofNat cn)), (.int (Int32.ofNat wd)), (.int (Int32.ofNat fr)), (.long i1), (.long i0), (.int (5 : Int32)), (.int (own_rd (own_N i0 i1) fr wd cn os 5))])) := fun t k => P174 t (by
              show Steps p.tables e below (T173.setTop (mkF m 357 #[.val (.long i0), .second, .val (.long i1), .second, .val (.int i2), .val (.int i3), .val (.int i4), .val (.int i5), .val (.int (Int32.ofNat wd)), .val (.int (Int32.ofNat cn)), .val (.int (Int32.ofNat fr)), .val (.int (Int32.ofNat os)), .val (.ref b14), .val (.ref b103)] [(.int (own_expect (4 : Int32) i0 i1 (Int32.ofNat fr) (Int32.ofNat wd) (Int32.ofNat cn) (Int32.ofNat os))), (.int (own_rd (own_N i0 i1) fr wd cn os 4))])) _
              refine XS.icmpNo X173.here hx rfl (hb hby at_357) rfl (teq hc175).2 ?_
              show Steps p.tables e below (T173.setTop (mkF m 360 #[.val (.long i0), .second, .val (.long i1), .second, .val (.int i2), .val (.int i3), .val (.int i4), .val (.int i5), .val (.int (Int32.ofNat wd)), .val (.int (Int32.ofNat cn)), .val (.int (Int32.ofNat fr)), .val (.int (Int32.ofNat os)), .val (.ref b14), .val (.ref b103)] [])) _
              refine XS.aload X173.here hx rfl (hb hby at_360) rfl rfl ?_
              show Steps p.tables e below (T173.setTop (mkF m 362 #[.val (.long i0), .second, .val (.long i1), .second, .val (.int i2), .val (.int i3), .val (.int i4), .val (.int i5), .val (.int (Int32.ofNat wd)), .val (.int (Int32.ofNat cn)), .val (.int (Int32.ofNat fr)), .val (.int (Int32.ofNat os)), .val (.ref b14), .val (.ref b103)] [(.ref b103)])) _
              refine XS.iconst X173.here hx rfl (hb hby at_362) ?_
              show Steps p.tables e below (T173.setTop (mkF m 363 #[.val (.long i0), .second, .val (.long i1), .second, .val (.int i2), .val (.int i3), .val (.int i4), .val (.int i5), .val (.int (Int32.ofNat wd)), .val (.int (Int32.ofNat cn)), .val (.int (Int32.ofNat fr)), .val (.int (Int32.ofNat os)), .val (.ref b14), .val (.ref b103)] [(.int (5 : Int32)), (.ref b103)])) _
              obtain ⟨cl176, Ar176, -, S176, N176, H176, -⟩ := id V147q
              have hin176 : ¬ ((5 : Int32) < 0 ∨ cl176.slots.size ≤ ((5 : Int32)).toNatClampNeg) := inb_of S176 ⟨by decide, by decide⟩
              have hat176 := H176.at hin176 (v := (.int (own_rd (own_N i0 i1) fr wd cn os 5))) (own_fillG _ _ _ _ _ 5 (by decide) _)
              refine X173.iaload hx (j := (5 : Int32)) (v := (.int (own_rd (own_N i0 i1) fr wd cn os 5))) (by rw [e173]; exact Ar176.1) (State.isArrayOf_alike hZ.alike Ar176.2.1) Ar176.2.2 hin176 hat176 (g := (mkF m 363 #[.val (.long i0), .second, .val (.long i1), .second, .val (.int i2), .val (.int i3), .val (.int i4), .val (.int i5), .val (.int (Int32.ofNat wd)), .val (.int (Int32.ofNat cn)), .val (.int (Int32.ofNat fr)), .val (.int (Int32.ofNat os)), .val (.ref b14), .val (.ref b103)] [(.int (5 : Int32)), (.ref b103)])) rfl rfl (hb hby at_363) _ ?_
              show Steps p.tables e below (T173.setTop (mkF m 364 #[.val (.long i0), .second, .val (.long i1), .second, .val (.int i2), .val (.int i3), .val (.int i4), .val (.int i5), .val (.int (Int32.ofNat wd)), .val (.int (Int32.ofNat cn)), .val (.int (Int32.ofNat fr)), .val (.int (Int32.ofNat os)), .val (.ref b14), .val (.ref b103)] [(.int (own_rd (own_N i0 i1) fr wd cn os 5))])) _
              refine XS.iconst X173.here hx rfl (hb hby at_364) ?_
              show Steps p.tables e below (T173.setTop (mkF m 365 #[.val (.long i0), .second, .val (.long i1), .second, .val (.int i2), .val (.int i3), .val (.int i4), .val (.int i5), .val (.int (Int32.ofNat wd)), .val (.int (Int32.ofNat cn)), .val (.int (Int32.ofNat fr)), .val (.int (Int32.ofNat os)), .val (.ref b14), .val (.ref b103)] [(.int (5 : Int32)), (.int (own_rd (own_N i0 i1) fr wd cn os 5))])) _
              refine XS.lloadN X173.here hx rfl (hb hby at_365) rfl ?_
              show Steps p.tables e below (T173.setTop (mkF m 366 #[.val (.long i0), .second, .val (.long i1), .second, .val (.int i2), .val (.int i3), .val (.int i4), .val (.int i5), .val (.int (Int32.ofNat wd)), .val (.int (Int32.ofNat cn)), .val (.int (Int32.ofNat fr)), .val (.int (Int32.ofNat os)), .val (.ref b14), .val (.ref b103)] [(.long i0), (.int (5 : Int32)), (.int (own_rd (own_N i0 i1) fr wd cn os 5))])) _
              refine XS.lloadN X173.here hx rfl (hb hby at_366) rfl ?_
              show Steps p.tables e below (T173.setTop (mkF m 367 #[.val (.long i0), .second, .val (.long i1), .second, .val (.int i2), .val (.int i3), .val (.int i4), .val (.int i5), .val (.int (Int32.ofNat wd)), .val (.int (Int32.ofNat cn)), .val (.int (Int32.ofNat fr)), .val (.int (Int32.ofNat os)), .val (.ref b14), .val (.ref b103)] [(.long i1), (.long i0), (.int (5 : Int32)), (.int (own_rd (own_N i0 i1) fr wd cn os 5))])) _
              refine XS.iload X173.here hx rfl (hb hby at_367) rfl ?_
              show Steps p.tables e below (T173.setTop (mkF m 369 #[.val (.long i0), .second, .val (.long i1), .second, .val (.int i2), .val (.int i3), .val (.int i4), .val (.int i5), .val (.int (Int32.ofNat wd)), .val (.int (Int32.ofNat cn)), .val (.int (Int32.ofNat fr)), .val (.int (Int32.ofNat os)), .val (.ref b14), .val (.ref b103)] [(.int (Int32.ofNat fr)), (.long i1), (.long i0), (.int (5 : Int32)), (.int (own_rd (own_N i0 i1) fr wd cn os 5))])) _
              refine XS.iload X173.here hx rfl (hb hby at_369) rfl ?_
              show Steps p.tables e below (T173.setTop (mkF m 371 #[.val (.long i0), .second, .val (.long i1), .second, .val (.int i2), .val (.int i3), .val (.int i4), .val (.int i5), .val (.int (Int32.ofNat wd)), .val (.int (Int32.ofNat cn)), .val (.int (Int32.ofNat fr)), .val (.int (Int32.ofNat os)), .val (.ref b14), .val (.ref b103)] [(.int (Int32.ofNat wd)), (.int (Int32.ofNat fr)), (.long i1), (.long i0), (.int (5 : Int32)), (.int (own_rd (own_N i0 i1) fr wd cn os 5))])) _
              refine XS.iload X173.here hx rfl (hb hby at_371) rfl ?_
              show Steps p.tables e below (T173.setTop (mkF m 373 #[.val (.long i0), .second, .val (.long i1), .second, .val (.int i2), .val (.int i3), .val (.int i4), .val (.int i5), .val (.int (Int32.ofNat wd)), .val (.int (Int32.ofNat cn)), .val (.int (Int32.ofNat fr)), .val (.int (Int32.ofNat os)), .val (.ref b14), .val (.ref b103)] [(.int (Int32.ofNat cn)), (.int (Int32.ofNat wd)), (.int (Int32.ofNat fr)), (.long i1), (.long i0), (.int (5 : Int32)), (.int (own_rd (own_N i0 i1) fr wd cn os 5))])) _
              refine XS.iload X173.here hx rfl (hb hby at_373) rfl ?_
              exact k)
            obtain ⟨_, _, ⟨T178, L178, k178, n178⟩, -, X178, ⟨Lc178, hQ178, l178, y178, z178⟩, st178⟩ := Jvm.LawKit.callS X173 hx (y := (⟨"tidemark/format/ParquetRunLengthsUnpackPinLaw", "expect", "(IJJIIII)I"⟩ : MethodName)) hown (mvT hZ (hw _ (List.mem_of_getElem? (i := 8) rfl))) (mvT hZ (hw _ (List.mem_of_getElem? (i := 9) rfl))) (mvT hZ (hw _ (List.mem_of_getElem? (i := 10) rfl))) (mvT hZ (hw _ (List.mem_of_getElem? (i := 11) rfl))) (by decide) (backOf (W := 1) (rm2 l Z a0 hw [] (5 : Int32) i0 i1 (Int32.ofNat fr) (Int32.ofNat wd) (Int32.ofNat cn) (Int32.ofNat os) T147.heap n0 Z_148 ) hZ (hw _ (List.mem_of_getElem? (i := 11) rfl)) (hw _ (List.mem_of_getElem? (i := 10) rfl)) (by decide) (by decide)) (g := (mkF m 375 #[.val (.long i0), .second, .val (.long i1), .second, .val (.int i2), .val (.int i3), .val (.int i4), .val (.int i5), .val (.int (Int32.ofNat wd)), .val (.int (Int32.ofNat cn)), .val (.int (Int32.ofNat fr)), .val (.int (Int32.ofNat os)), .val (.ref b14), .val (.ref b103)] [(.int (Int32.ofNat os)), (.int (Int32.ofNat cn)), (.int (Int32.ofNat wd)), (.int (Int32.ofNat fr)), (.long i1), (.long i0), (.int (5 : Int32)), (.int (own_rd (own_N i0 i1) fr wd cn os 5))])) rfl (by rw [hml]; rfl) (argsL := [(.int (5 : Int32)), (.long i0), (.long i1), (.int (Int32.ofNat fr)), (.int (Int32.ofNat wd)), (.int (Int32.ofNat cn)), (.int (Int32.ofNat os))]) (rest := [(.int (own_rd (own_N i0 i1) fr wd cn os 5))]) (lenOf pd_2 rfl) rfl (by show 2 * 0 + _ ≤ _; exact Nat.le_of_eq rfl) (hb hby at_375) (fun _ _ => ⟨rfl, e173, (by decide : (0 + 1 + 1 + 0 + 0 + 0 + 0 + 0 + 0) + 0 ≤ _), (by decide : (0 + 16 + 6 + 0 + 0 + 0 + 0 + 0 + 0) + 0 ≤ _)⟩)
            dsimp only [Pt.U, Pt.locs, Pt.cells, Pt.slots] at X178 l178 y178 z178 st178 hQ178
            subst l178 y178 z178
            obtain ⟨rfl, N178q, e178⟩ := hQ178
            have N178 := Fr.app N173 N178q
            have P179 : own_Rch p.tables e below A0 (T178.setTop (mkF m 378 #[.val (.long i0), .second, .val (.long i1), .second, .val (.int i2), .val (.int i3), .val (.int i4), .val (.int i5), .val (.int (Int32.ofNat wd)), .val (.int (Int32.ofNat cn)), .val (.int (Int32.ofNat fr)), .val (.int (Int32.ofNat os)), .val (.ref b14), .val (.ref b103)] [(.int (own_expect (5 : Int32) i0 i1 (Int32.ofNat fr) (Int32.ofNat wd) (Int32.ofNat cn) (Int32.ofNat os))), (.int (own_rd (own_N i0 i1) fr wd cn os 5))])) := fun t k => P177 t (st178 t k)
            by_cases hc180 : (own_rd (own_N i0 i1) fr wd cn os 5) = (own_expect (5 : Int32) i0 i1 (Int32.ofNat fr) (Int32.ofNat wd) (Int32.ofNat cn) (Int32.ofNat os))
            · -- (own_rd (own_N i0 i1) fr wd cn os 5) = (own_expect (5 : Int32) i0 i1 (Int32.ofNat fr) (Int32.ofNat wd) (Int32.ofNat cn) (Int32.ofNat os))
              have P181 : own_Rch p.tables e below A0 (T178.setTop (mkF m 386 #[.val (.long i0), .second, .val (.long i1), .second, .val (.int i2), .val (.int i3), .val (.int i4), .val (.int i5), .val (.int (Int32.ofNat wd)), .val (.int (Int32.ofNat cn)), .val (.int (Int32.ofNat fr)), .val (.int (Int32.ofNat os)), .val (.ref b14), .val (.ref b103)] [(.int (1 : Int32))])) := fun t k => P179 t (by
                show Steps p.tables e below (T178.setTop (mkF m 378 #[.val (.long i0), .second, .val (.long i1), .second, .val (.int i2), .val (.int i3), .val (.int i4), .val (.int i5), .val (.int (Int32.ofNat wd)), .val (.int (Int32.ofNat cn)), .val (.int (Int32.ofNat fr)), .val (.int (Int32.ofNat os)), .val (.ref b14), .val (.ref b103)] [(.int (own_expect (5 : Int32) i0 i1 (Int32.ofNat fr) (Int32.ofNat wd) (Int32.ofNat cn) (Int32.ofNat os))), (.int (own_rd (own_N i0 i1) fr wd cn os 5))])) _
                refine XS.icmpNo X178.here hx rfl (hb hby at_378) rfl (teq hc180).2 ?_
                show Steps p.tables e below (T178.setTop (mkF m 381 #[.val (.long i0), .second, .val (.long i1), .second, .val (.int i2), .val (.int i3), .val (.int i4), .val (.int i5), .val (.int (Int32.ofNat wd)), .val (.int (Int32.ofNat cn)), .val (.int (Int32.ofNat fr)), .val (.int (Int32.ofNat os)), .val (.ref b14), .val (.ref b103)] [])) _
                refine XS.iconst X178.here hx rfl (hb hby at_381) ?_
                show Steps p.tables e below (T178.setTop (mkF m 382 #[.val (.long i0), .second, .val (.long i1), .second, .val (.int i2), .val (.int i3), .val (.int i4), .val (.int i5), .val (.int (Int32.ofNat wd)), .val (.int (Int32.ofNat cn)), .val (.int (Int32.ofNat fr)), .val (.int (Int32.ofNat os)), .val (.ref b14), .val (.ref b103)] [(.int (1 : Int32))])) _
                refine XS.goto X178.here hx rfl (pc0 := 382) (pc' := 386) rfl (hb hby at_382) (by decide) (by decide) ?_
                exact k)
              obtain ⟨fs, hr, hrun, hended, hW, hsame⟩ := X178.leave (v := some (.int (nar .boolean (1 : Int32)))) (fun h => by rw [Bd.returns] at h; cases h)
              refine ⟨_, _, P00 _ (P181 _ ?_), hrun, hended, _, _, rfl, ?_, ⟨_, rfl⟩, hW, hsame.mono (by decide) (by decide)⟩
              · exact retN X178 hx (t := .boolean) Bd.returns (by simp) (hb hby at_386) hr
              · show Q0 Z i0 i1 i2 i3 i4 i5 h0 n0 _ T178.heap _
                rw [e178]
                refine ⟨?_, N178⟩
                rfl
            · -- not (own_rd (own_N i0 i1) fr wd cn os 5) = (own_expect (5 : Int32) i0 i1 (Int32.ofNat fr) (Int32.ofNat wd) (Int32.ofNat cn) (Int32.ofNat os))
              have P182 : own_Rch p.tables e below A0 (T178.setTop (mkF m 386 #[.val (.long i0), .second, .val (.long i1), .second, .val (.int i2), .val (.int i3), .val (.int i4), .val (.int i5), .val (.int (Int32.ofNat wd)), .val (.int (Int32.ofNat cn)), .val (.int (Int32.ofNat fr)), .val (.int (Int32.ofNat os)), .val (.ref b14), .val (.ref b103)] [(.int (0 : Int32))])) := fun t k => P179 t (by
                show Steps p.tables e below (T178.setTop (mkF m 378 #[.val (.long i0), .second, .val (.long i1), .second, .val (.int i2), .val (.int i3), .val (.int i4), .val (.int i5), .val (.int (Int32.ofNat wd)), .val (.int (Int32.ofNat cn)), .val (.int (Int32.ofNat fr)), .val (.int (Int32.ofNat os)), .val (.ref b14), .val (.ref b103)] [(.int (own_expect (5 : Int32) i0 i1 (Int32.ofNat fr) (Int32.ofNat wd) (Int32.ofNat cn) (Int32.ofNat os))), (.int (own_rd (own_N i0 i1) fr wd cn os 5))])) _
                refine XS.icmpYes X178.here hx rfl (pc0 := 378) (pc' := 385) rfl (hb hby at_378) rfl (feq hc180).2 (by decide) (by decide) ?_
                show Steps p.tables e below (T178.setTop (mkF m 385 #[.val (.long i0), .second, .val (.long i1), .second, .val (.int i2), .val (.int i3), .val (.int i4), .val (.int i5), .val (.int (Int32.ofNat wd)), .val (.int (Int32.ofNat cn)), .val (.int (Int32.ofNat fr)), .val (.int (Int32.ofNat os)), .val (.ref b14), .val (.ref b103)] [])) _
                refine XS.iconst X178.here hx rfl (hb hby at_385) ?_
                exact k)
              obtain ⟨fs, hr, hrun, hended, hW, hsame⟩ := X178.leave (v := some (.int (nar .boolean (0 : Int32)))) (fun h => by rw [Bd.returns] at h; cases h)
              refine ⟨_, _, P00 _ (P182 _ ?_), hrun, hended, _, _, rfl, ?_, ⟨_, rfl⟩, hW, hsame.mono (by decide) (by decide)⟩
              · exact retN X178 hx (t := .boolean) Bd.returns (by simp) (hb hby at_386) hr
              · show Q0 Z i0 i1 i2 i3 i4 i5 h0 n0 _ T178.heap _
                rw [e178]
                refine ⟨?_, N178⟩
                exact absurd (own_cmp i0 i1 fr wd cn os 5 hfr hwd hcn hos (by decide)) hc180
          · -- not (own_rd (own_N i0 i1) fr wd cn os 4) = (own_expect (4 : Int32) i0 i1 (Int32.ofNat fr) (Int32.ofNat wd) (Int32.ofNat cn) (Int32.ofNat os))
            have P183 : own_Rch p.tables e below A0 (T173.setTop (mkF m 386 #[.val (.long i0), .second, .val (.long i1), .second, .val (.int i2), .val (.int i3), .val (.int i4), .val (.int i5), .val (.int (Int32.ofNat wd)), .val (.int (Int32.ofNat cn)), .val (.int (Int32.ofNat fr)), .val (.int (Int32.ofNat os)), .val (.ref b14), .val (.ref b103)] [(.int (0 : Int32))])) := fun t k => P174 t (by
              show Steps p.tables e below (T173.setTop (mkF m 357 #[.val (.long i0), .second, .val (.long i1), .second, .val (.int i2), .val (.int i3), .val (.int i4), .val (.int i5), .val (.int (Int32.ofNat wd)), .val (.int (Int32.ofNat cn)), .val (.int (Int32.ofNat fr)), .val (.int (Int32.ofNat os)), .val (.ref b14), .val (.ref b103)] [(.int (own_expect (4 : Int32) i0 i1 (Int32.ofNat fr) (Int32.ofNat wd) (Int32.ofNat cn) (Int32.ofNat os))), (.int (own_rd (own_N i0 i1) fr wd cn os 4))])) _
              refine XS.icmpYes X173.here hx rfl (pc0 := 357) (pc' := 385) rfl (hb hby at_357) rfl (feq hc175).2 (by decide) (by decide) ?_
              show Steps p.tables e below (T173.setTop (mkF m 385 #[.val (.long i0), .second, .val (.long i1), .second, .val (.int i2), .val (.int i3), .val (.int i4), .val (.int i5), .val (.int (Int32.ofNat wd)), .val (.int (Int32.ofNat cn)), .val (.int (Int32.ofNat fr)), .val (.int (Int32.ofNat os)), .val (.ref b14), .val (.ref b103)] [])) _
              refine XS.iconst X173.here hx rfl (hb hby at_385) ?_
              exact k)
            obtain ⟨fs, hr, hrun, hended, hW, hsame⟩ := X173.leave (v := some (.int (nar .boolean (0 : Int32)))) (fun h => by rw [Bd.returns] at h; cases h)
            refine ⟨_, _, P00 _ (P183 _ ?_), hrun, hended, _, _, rfl, ?_, ⟨_, rfl⟩, hW, hsame.mono (by decide) (by decide)⟩
            · exact retN X173 hx (t := .boolean) Bd.returns (by simp) (hb hby at_386) hr
            · show Q0 Z i0 i1 i2 i3 i4 i5 h0 n0 _ T173.heap _
              rw [e173]
              refine ⟨?_, N173⟩
              exact absurd (own_cmp i0 i1 fr wd cn os 4 hfr hwd hcn hos (by decide)) hc175
        · -- not (own_rd (own_N i0 i1) fr wd cn os 3) = (own_expect (3 : Int32) i0 i1 (Int32.ofNat fr) (Int32.ofNat wd) (Int32.ofNat cn) (Int32.ofNat os))
          have P184 : own_Rch p.tables e below A0 (T168.setTop (mkF m 386 #[.val (.long i0), .second, .val (.long i1), .second, .val (.int i2), .val (.int i3), .val (.int i4), .val (.int i5), .val (.int (Int32.ofNat wd)), .val (.int (Int32.ofNat cn)), .val (.int (Int32.ofNat fr)), .val (.int (Int32.ofNat os)), .val (.ref b14), .val (.ref b103)] [(.int (0 : Int32))])) := fun t k => P169 t (by
            show Steps p.tables e below (T168.setTop (mkF m 336 #[.val (.long i0), .second, .val (.long i1), .second, .val (.int i2), .val (.int i3), .val (.int i4), .val (.int i5), .val (.int (Int32.ofNat wd)), .val (.int (Int32.ofNat cn)), .val (.int (Int32.ofNat fr)), .val (.int (Int32.ofNat os)), .val (.ref b14), .val (.ref b103)] [(.int (own_expect (3 : Int32) i0 i1 (Int32.ofNat fr) (Int32.ofNat wd) (Int32.ofNat cn) (Int32.ofNat os))), (.int (own_rd (own_N i0 i1) fr wd cn os 3))])) _
            refine XS.icmpYes X168.here hx rfl (pc0 := 336) (pc' := 385) rfl (hb hby at_336) rfl (feq hc170).2 (by decide) (by decide) ?_
            show Steps p.tables e below (T168.setTop (mkF m 385 #[.val (.long i0), .second, .val (.long i1), .second, .val (.int i2), .val (.int i3), .val (.int i4), .val (.int i5), .val (.int (Int32.ofNat wd)), .val (.int (Int32.ofNat cn)), .val (.int (Int32.ofNat fr)), .val (.int (Int32.ofNat os)), .val (.ref b14), .val (.ref b103)] [])) _
            refine XS.iconst X168.here hx rfl (hb hby at_385) ?_
            exact k)
          obtain ⟨fs, hr, hrun, hended, hW, hsame⟩ := X168.leave (v := some (.int (nar .boolean (0 : Int32)))) (fun h => by rw [Bd.returns] at h; cases h)
          refine ⟨_, _, P00 _ (P184 _ ?_), hrun, hended, _, _, rfl, ?_, ⟨_, rfl⟩, hW, hsame.mono (by decide) (by decide)⟩
          · exact retN X168 hx (t := .boolean) Bd.returns (by simp) (hb hby at_386) hr
          · show Q0 Z i0 i1 i2 i3 i4 i5 h0 n0 _ T168.heap _
            rw [e168]
            refine ⟨?_, N168⟩
            exact absurd (own_cmp i0 i1 fr wd cn os 3 hfr hwd hcn hos (by decide)) hc170
      · -- not (own_rd (own_N i0 i1) fr wd cn os 2) = (own_expect (2 : Int32) i0 i1 (Int32.ofNat fr) (Int32.ofNat wd) (Int32.ofNat cn) (Int32.ofNat os))
        have P185 : own_Rch p.tables e below A0 (T163.setTop (mkF m 386 #[.val (.long i0), .second, .val (.long i1), .second, .val (.int i2), .val (.int i3), .val (.int i4), .val (.int i5), .val (.int (Int32.ofNat wd)), .val (.int (Int32.ofNat cn)), .val (.int (Int32.ofNat fr)), .val (.int (Int32.ofNat os)), .val (.ref b14), .val (.ref b103)] [(.int (0 : Int32))])) := fun t k => P164 t (by
          show Steps p.tables e below (T163.setTop (mkF m 315 #[.val (.long i0), .second, .val (.long i1), .second, .val (.int i2), .val (.int i3), .val (.int i4), .val (.int i5), .val (.int (Int32.ofNat wd)), .val (.int (Int32.ofNat cn)), .val (.int (Int32.ofNat fr)), .val (.int (Int32.ofNat os)), .val (.ref b14), .val (.ref b103)] [(.int (own_expect (2 : Int32) i0 i1 (Int32.ofNat fr) (Int32.ofNat wd) (Int32.ofNat cn) (Int32.ofNat os))), (.int (own_rd (own_N i0 i1) fr wd cn os 2))])) _
          refine XS.icmpYes X163.here hx rfl (pc0 := 315) (pc' := 385) rfl (hb hby at_315) rfl (feq hc165).2 (by decide) (by decide) ?_
          show Steps p.tables e below (T163.setTop (mkF m 385 #[.val (.long i0), .second, .val (.long i1), .second, .val (.int i2), .val (.int i3), .val (.int i4), .val (.int i5), .val (.int (Int32.ofNat wd)), .val (.int (Int32.ofNat cn)), .val (.int (Int32.ofNat fr)), .val (.int (Int32.ofNat os)), .val (.ref b14), .val (.ref b103)] [])) _
          refine XS.iconst X163.here hx rfl (hb hby at_385) ?_
          exact k)
        obtain ⟨fs, hr, hrun, hended, hW, hsame⟩ := X163.leave (v := some (.int (nar .boolean (0 : Int32)))) (fun h => by rw [Bd.returns] at h; cases h)
        refine ⟨_, _, P00 _ (P185 _ ?_), hrun, hended, _, _, rfl, ?_, ⟨_, rfl⟩, hW, hsame.mono (by decide) (by decide)⟩
        · exact retN X163 hx (t := .boolean) Bd.returns (by simp) (hb hby at_386) hr
        · show Q0 Z i0 i1 i2 i3 i4 i5 h0 n0 _ T163.heap _
          rw [e163]
          refine ⟨?_, N163⟩
          exact absurd (own_cmp i0 i1 fr wd cn os 2 hfr hwd hcn hos (by decide)) hc165
    · -- not (own_rd (own_N i0 i1) fr wd cn os 1) = (own_expect (1 : Int32) i0 i1 (Int32.ofNat fr) (Int32.ofNat wd) (Int32.ofNat cn) (Int32.ofNat os))
      have P186 : own_Rch p.tables e below A0 (T158.setTop (mkF m 386 #[.val (.long i0), .second, .val (.long i1), .second, .val (.int i2), .val (.int i3), .val (.int i4), .val (.int i5), .val (.int (Int32.ofNat wd)), .val (.int (Int32.ofNat cn)), .val (.int (Int32.ofNat fr)), .val (.int (Int32.ofNat os)), .val (.ref b14), .val (.ref b103)] [(.int (0 : Int32))])) := fun t k => P159 t (by
        show Steps p.tables e below (T158.setTop (mkF m 294 #[.val (.long i0), .second, .val (.long i1), .second, .val (.int i2), .val (.int i3), .val (.int i4), .val (.int i5), .val (.int (Int32.ofNat wd)), .val (.int (Int32.ofNat cn)), .val (.int (Int32.ofNat fr)), .val (.int (Int32.ofNat os)), .val (.ref b14), .val (.ref b103)] [(.int (own_expect (1 : Int32) i0 i1 (Int32.ofNat fr) (Int32.ofNat wd) (Int32.ofNat cn) (Int32.ofNat os))), (.int (own_rd (own_N i0 i1) fr wd cn os 1))])) _
        refine XS.icmpYes X158.here hx rfl (pc0 := 294) (pc' := 385) rfl (hb hby at_294) rfl (feq hc160).2 (by decide) (by decide) ?_
        show Steps p.tables e below (T158.setTop (mkF m 385 #[.val (.long i0), .second, .val (.long i1), .second, .val (.int i2), .val (.int i3), .val (.int i4), .val (.int i5), .val (.int (Int32.ofNat wd)), .val (.int (Int32.ofNat cn)), .val (.int (Int32.ofNat fr)), .val (.int (Int32.ofNat os)), .val (.ref b14), .val (.ref b103)] [])) _
        refine XS.iconst X158.here hx rfl (hb hby at_385) ?_
        exact k)
      obtain ⟨fs, hr, hrun, hended, hW, hsame⟩ := X158.leave (v := some (.int (nar .boolean (0 : Int32)))) (fun h => by rw [Bd.returns] at h; cases h)
      refine ⟨_, _, P00 _ (P186 _ ?_), hrun, hended, _, _, rfl, ?_, ⟨_, rfl⟩, hW, hsame.mono (by decide) (by decide)⟩
      · exact retN X158 hx (t := .boolean) Bd.returns (by simp) (hb hby at_386) hr
      · show Q0 Z i0 i1 i2 i3 i4 i5 h0 n0 _ T158.heap _
        rw [e158]
        refine ⟨?_, N158⟩
        exact absurd (own_cmp i0 i1 fr wd cn os 1 hfr hwd hcn hos (by decide)) hc160
  · -- not (own_rd (own_N i0 i1) fr wd cn os 0) = (own_expect (0 : Int32) i0 i1 (Int32.ofNat fr) (Int32.ofNat wd) (Int32.ofNat cn) (Int32.ofNat os))
    have P187 : own_Rch p.tables e below A0 (T153.setTop (mkF m 386 #[.val (.long i0), .second, .val (.long i1), .second, .val (.int i2), .val (.int i3), .val (.int i4), .val (.int i5), .val (.int (Int32.ofNat wd)), .val (.int (Int32.ofNat cn)), .val (.int (Int32.ofNat fr)), .val (.int (Int32.ofNat os)), .val (.ref b14), .val (.ref b103)] [(.int (0 : Int32))])) := fun t k => P154 t (by
      show Steps p.tables e below (T153.setTop (mkF m 273 #[.val (.long i0), .second, .val (.long i1), .second, .val (.int i2), .val (.int i3), .val (.int i4), .val (.int i5), .val (.int (Int32.ofNat wd)), .val (.int (Int32.ofNat cn)), .val (.int (Int32.ofNat fr)), .val (.int (Int32.ofNat os)), .val (.ref b14), .val (.ref b103)] [(.int (own_expect (0 : Int32) i0 i1 (Int32.ofNat fr) (Int32.ofNat wd) (Int32.ofNat cn) (Int32.ofNat os))), (.int (own_rd (own_N i0 i1) fr wd cn os 0))])) _
      refine XS.icmpYes X153.here hx rfl (pc0 := 273) (pc' := 385) rfl (hb hby at_273) rfl (feq hc155).2 (by decide) (by decide) ?_
      show Steps p.tables e below (T153.setTop (mkF m 385 #[.val (.long i0), .second, .val (.long i1), .second, .val (.int i2), .val (.int i3), .val (.int i4), .val (.int i5), .val (.int (Int32.ofNat wd)), .val (.int (Int32.ofNat cn)), .val (.int (Int32.ofNat fr)), .val (.int (Int32.ofNat os)), .val (.ref b14), .val (.ref b103)] [])) _
      refine XS.iconst X153.here hx rfl (hb hby at_385) ?_
      exact k)
    obtain ⟨fs, hr, hrun, hended, hW, hsame⟩ := X153.leave (v := some (.int (nar .boolean (0 : Int32)))) (fun h => by rw [Bd.returns] at h; cases h)
    refine ⟨_, _, P00 _ (P187 _ ?_), hrun, hended, _, _, rfl, ?_, ⟨_, rfl⟩, hW, hsame.mono (by decide) (by decide)⟩
    · exact retN X153 hx (t := .boolean) Bd.returns (by simp) (hb hby at_386) hr
    · show Q0 Z i0 i1 i2 i3 i4 i5 h0 n0 _ T153.heap _
      rw [e153]
      refine ⟨?_, N153⟩
      exact absurd (own_cmp i0 i1 fr wd cn os 0 hfr hwd hcn hos (by decide)) hc155
set_option maxRecDepth 65536 in
set_option maxHeartbeats 40000000 in
theorem comes_1 {Post : Tables → Env → Array Value → State → Outcome → State → Prop} (hpost : ∀ tb e args s v u, (limb_1_1.after args s (.returned v) u = true ∧ limb_1_2.after args s (.returned v) u = true ∧ True) → FrameEnd s (.returned v) u (Jvm.fieldLocs frame_1_writes args s ++ Jvm.arrayLocs frame_1_arrays args s ++ Jvm.staticLocs frame_1_statics s) 16 128 → Post tb e args s (.returned v) u) :
    ArmFor flags0 classFile x code maxLocals ret World_1 tables_1 room_1 Calls_1 rest_1 Pre_1 Post := by
  intro l hfl _ _ p e ha hc hk s m args below hf hA hF happ hP
  obtain ⟨hcalls, hrest, hpre⟩ := hP
  obtain ⟨-, -, -, hnamed, -, -, -, hat⟩ := (Spec.applies_iff hf).mp happ
  obtain ⟨hg, hn⟩ := and_e (Cond.before_iff.mp (show (Jvm.Cond.and given_1 narrow_1).before args s = true from hpre))
  obtain ⟨ga0, gb0⟩ := and_e hg
  obtain ⟨ga1, gb1⟩ := and_e gb0
  obtain ⟨ga2, gb2⟩ := and_e gb1
  obtain ⟨ga3, gb3⟩ := and_e gb2
  obtain ⟨ga4, gb4⟩ := and_e gb3
  obtain ⟨ga5, gb5⟩ := and_e gb4
  obtain ⟨w0, w1, w2, w3, w4, w5, rfl⟩ : ∃ w0 w1 w2 w3 w4 w5 : Value, args = #[w0, w1, w2, w3, w4, w5] := by
    have hs : args.size = 6 := by simpa [Cond.value, given_1] using ga0
    obtain ⟨L⟩ := args
    match L, hs with
    | [w0, w1, w2, w3, w4, w5], _ => exact ⟨w0, w1, w2, w3, w4, w5, rfl⟩
  have hw := fun d (hd : d ∈ tables_1) => atoms_spec (ws := Jvm.Cond.code x code maxLocals ret :: tables_1) hat d (List.mem_cons_of_mem _ hd)
  have hfit : Fit s := fun {y c} hc i hi => by
    obtain ⟨ha, rfl⟩ := Array.getElem?_eq_some_iff.mp hc
    have q := List.all_eq_true.mp ((Array.all_eq_true_iff_forall_mem.mp hF) _ (Array.getElem_mem ha)) i (List.mem_range.mpr hi)
    simpa [Array.getElem?_eq_getElem hi] using q
  obtain ⟨i0, ei0⟩ := isL_v ga1
  obtain rfl : w0 = (.long i0) := Option.some.inj ei0
  obtain ⟨i1, ei1⟩ := isL_v ga2
  obtain rfl : w1 = (.long i1) := Option.some.inj ei1
  obtain ⟨i2, ei2⟩ := is_v ga3
  obtain rfl : w2 = (.int i2) := Option.some.inj ei2
  obtain ⟨i3, ei3⟩ := is_v ga4
  obtain rfl : w3 = (.int i3) := Option.some.inj ei3
  obtain ⟨i4, ei4⟩ := is_v ga5
  obtain rfl : w4 = (.int i4) := Option.some.inj ei4
  obtain ⟨i5, ei5⟩ := is_v gb5
  obtain rfl : w5 = (.int i5) := Option.some.inj ei5
  obtain ⟨n, o, h1, h2, h3, _, L, rfl, ⟨rfl, N⟩, hq⟩ := rm0 l s _ hw tables_1 i0 i1 i2 i3 i4 i5  s.heap s.heap.size (Nat.le_refl _)  p e ha hc hk s m _ below hf ((Spec.applies_iff_loose hf).mp happ).1 ⟨rfl, State.Warmed39.refl s, rfl⟩ trivial
  refine ⟨n, _, h1, h2, h3, hpost _ _ _ _ _ _ ⟨Cond.after_iff.mpr rfl, Cond.after_iff.mpr (eq_i res_at (Term.int_eval (1)) rfl), trivial⟩ ⟨hq.1, hq.2.1, (hq.2.2.sift fun y hy => Or.inr (N y hy)).mono (by decide) (by decide)⟩⟩
theorem main_1_1 : Claimed_1_1 := comes_1 fun _ _ _ _ _ _ h hF => ⟨h.1, hF⟩
theorem main_1_2 : Claimed_1_2 := comes_1 fun _ _ _ _ _ _ h hF => ⟨h.2.1, hF⟩
end Jvm.Pilot.@@N@@
namespace Jvm.Pilot.@@N@@
open Jvm Jvm.ClassFile Sem Op Lib Jvm.Free Jvm.Stand Jvm.Pilot.@@N@@.Jvm.D
/-! MADE BY PROGRAM (witnessworld.py) out of the Statement's table words and the real class files: 9 classes; the members and pool entries that the words name. The judged class is class 1, her method 3. -/
namespace start1
open Jvm.ClassFile
def u (s : String) : CpInfo := .utf8 (stringToUtf16 s)
/-- a pool by its gaps: so many unusable entries, then the entry; so many at the end -/
def gap : Nat → List CpInfo → List CpInfo
  | 0, r => r
  | n + 1, r => .unusable :: gap n r
def poolList (es : List (Nat × CpInfo)) (last : Nat) : List CpInfo := es.foldr (fun e r => gap e.1 (e.2 :: r)) (gap last [])
def pool (es : List (Nat × CpInfo)) (last : Nat) : Array CpInfo := ⟨poolList es last⟩
def fileOf (pool : Array CpInfo) (this : Nat) (attrs : Array Attribute := #[]) (ms : Array MethodInfo := #[]) (fl : Nat := 33) (sup : Nat := 0) (ifs : Array Nat := #[]) (fds : Array FieldInfo := #[]) : ClassFile where
  minorVersion := 0
  majorVersion := 65
  constantPool := pool
  accessFlags := fl
  thisClass := this
  superClass := sup
  interfaces := ifs
  fields := fds
  methods := ms
  attributes := attrs
def plain (name : String) (sup : Option ClassId) : Class where
  name := name
  kind := .ordinary
  loader := none
  accessFlags := 33
  super := sup
  interfaces := #[]
  cf := none
  fields := #[]
  methods := #[]
  instanceTypes := #[]
  staticTypes := #[]
  resolved := #[]
  callSites := []
  init := .initialized
  statics := none
  mirror := none

def pool0 : Array CpInfo := pool [(5, u "<init>"), (0, u "()V"), (1, .class_ 10), (1, u "java/lang/Object")] 113

def k0m0 : Method := { name := "<init>", desc := "()V", sig := { parameters := [], returnType := none }, accessFlags := 1, code := none }
/-- java/lang/Object -/
def k0 : Class := { plain "java/lang/Object" none with
  accessFlags := 33
  interfaces := #[]
  cf := some (fileOf pool0 8 #[] #[{ accessFlags := 1, nameIndex := 5, descriptorIndex := 6, attributes := #[] }] 33 0 #[] #[])
  fields := #[]
  methods := #[k0m0]
  instanceTypes := #[]
  staticTypes := #[]
  resolved := Array.replicate 124 none
  statics := none }

def pool1 : Array CpInfo := pool [(2, .class_ 4), (1, u "java/lang/Object"), (0, u "<init>"), (0, u "()V"), (0, .methodref 8 9), (0, .class_ 10), (0, .nameAndType 11 12), (0, u "tidemark/format/ParquetRunLengthsUnpackPinLaw"), (0, u "field"), (0, u "(JJII)J"), (0, .integer 1515870810), (0, .integer 2147483647), (0, .methodref 16 17), (0, .class_ 18), (0, .nameAndType 19 20), (0, u "tidemark/format/ParquetRunLengths"), (0, u "unpack"), (0, u "([BIII[II)V"), (0, .methodref 8 22), (0, .nameAndType 23 24), (0, u "expect"), (0, u "(IJJIIII)I"), (0, u "SENT"), (0, u "I"), (4, u "law"), (0, u "(JJIIII)Z")] 6

def k1m0 : Method := { name := "<init>", desc := "()V", sig := { parameters := [], returnType := none }, accessFlags := 1, code := none }
def k1c1 : Code := { maxStack := 6, maxLocals := 8, code := method_2_code, exceptionTable := #[], attributes := #[] }
def k1m1 : Method := { name := "field", desc := "(JJII)J", sig := { parameters := [.long, .long, .int, .int], returnType := some .long }, accessFlags := 10, code := some k1c1 }
def k1c2 : Code := { maxStack := 7, maxLocals := 9, code := method_3_code, exceptionTable := #[], attributes := #[] }
def k1m2 : Method := { name := "expect", desc := "(IJJIIII)I", sig := { parameters := [.int, .long, .long, .int, .int, .int, .int], returnType := some .int }, accessFlags := 10, code := some k1c2 }
def k1c3 : Code := { maxStack := 10, maxLocals := 14, code := code, exceptionTable := #[], attributes := #[] }
def k1m3 : Method := { name := "law", desc := "(JJIIII)Z", sig := { parameters := [.long, .long, .int, .int, .int, .int], returnType := some .boolean }, accessFlags := 9, code := some k1c3 }
/-- tidemark/format/ParquetRunLengthsUnpackPinLaw -/
def k1 : Class := { plain "tidemark/format/ParquetRunLengthsUnpackPinLaw" (some 0) with
  accessFlags := 49
  interfaces := #[]
  cf := some (fileOf pool1 8 #[] #[{ accessFlags := 1, nameIndex := 5, descriptorIndex := 6, attributes := #[] }, { accessFlags := 10, nameIndex := 11, descriptorIndex := 12, attributes := #[] }, { accessFlags := 10, nameIndex := 23, descriptorIndex := 24, attributes := #[] }, { accessFlags := 9, nameIndex := 31, descriptorIndex := 32, attributes := #[] }] 49 2 #[] #[{ accessFlags := 26, nameIndex := 25, descriptorIndex := 26, attributes := #[] }])
  fields := #[{ name := "SENT", type := .int, accessFlags := 26, slot := 0, constantValue := 0 }]
  methods := #[k1m0, k1m1, k1m2, k1m3]
  instanceTypes := #[]
  staticTypes := #[.int]
  resolved := Array.replicate 39 none
  statics := none }

def pool2 : Array CpInfo := pool [(1, .class_ 2), (0, u "tidemark/format/ParquetRunLengths"), (1, .class_ 6), (1, u "java/lang/Object"), (0, u "<init>"), (0, u "()V"), (45, u "unpack"), (0, u "([BIII[II)V"), (12, u "GROUP"), (0, u "I"), (2, u "FEWEST_REPEATS")] 29

def k2m0 : Method := { name := "<init>", desc := "()V", sig := { parameters := [], returnType := none }, accessFlags := 2, code := none }
def k2c1 : Code := { maxStack := 6, maxLocals := 13, code := prog_21_method_5_code, exceptionTable := #[], attributes := #[] }
def k2m1 : Method := { name := "unpack", desc := "([BIII[II)V", sig := { parameters := [(.array .byte), .int, .int, .int, (.array .int), .int], returnType := none }, accessFlags := 8, code := some k2c1 }
/-- tidemark/format/ParquetRunLengths -/
def k2 : Class := { plain "tidemark/format/ParquetRunLengths" (some 0) with
  accessFlags := 48
  interfaces := #[]
  cf := some (fileOf pool2 1 #[] #[{ accessFlags := 2, nameIndex := 7, descriptorIndex := 8, attributes := #[] }, { accessFlags := 8, nameIndex := 54, descriptorIndex := 55, attributes := #[] }] 48 4 #[] #[{ accessFlags := 26, nameIndex := 68, descriptorIndex := 69, attributes := #[] }, { accessFlags := 26, nameIndex := 72, descriptorIndex := 69, attributes := #[] }])
  fields := #[{ name := "GROUP", type := .int, accessFlags := 26, slot := 0, constantValue := 0 }, { name := "FEWEST_REPEATS", type := .int, accessFlags := 26, slot := 1, constantValue := 0 }]
  methods := #[k2m0, k2m1]
  instanceTypes := #[]
  staticTypes := #[.int, .int]
  resolved := Array.replicate 102 none
  statics := none }

def pool3 : Array CpInfo := pool [(1, u "java/lang/Cloneable"), (0, .class_ 1), (0, u "java/lang/Object"), (0, .class_ 3)] 3

/-- java/lang/Cloneable -/
def k3 : Class := { plain "java/lang/Cloneable" (some 0) with
  accessFlags := 1537
  interfaces := #[]
  cf := some (fileOf pool3 2 #[] #[] 1537 4 #[] #[])
  fields := #[]
  methods := #[]
  instanceTypes := #[]
  staticTypes := #[]
  resolved := Array.replicate 8 none
  statics := none }

def pool4 : Array CpInfo := pool [(1, u "java/io/Serializable"), (0, .class_ 1), (0, u "java/lang/Object"), (0, .class_ 3)] 3

/-- java/io/Serializable -/
def k4 : Class := { plain "java/io/Serializable" (some 0) with
  accessFlags := 1537
  interfaces := #[]
  cf := some (fileOf pool4 2 #[] #[] 1537 4 #[] #[])
  fields := #[]
  methods := #[]
  instanceTypes := #[]
  staticTypes := #[]
  resolved := Array.replicate 8 none
  statics := none }

/-- the primitive byte -/
def k5 : Class := { plain "byte" none with kind := .primitive 'B', accessFlags := 0x411 }
/-- [B -/
def k6 : Class := { plain "[B" (some 0) with kind := .array 5 .byte, interfaces := #[3, 4], accessFlags := 1041 }

/-- the primitive int -/
def k7 : Class := { plain "int" none with kind := .primitive 'I', accessFlags := 0x411 }
/-- [I -/
def k8 : Class := { plain "[I" (some 0) with kind := .array 7 .int, interfaces := #[3, 4], accessFlags := 1041 }

def heap : Heap := #[]
def classes : Array Class := #[k0, k1, k2, k3, k4, k5, k6, k7, k8]
def interned : List (Array UInt16 × Addr) := []
def slotsUsed : Nat := 0
def theMethod : MethodId := ⟨1, 3⟩
def args0 : Array Value := #[.long 50, .long 51, .int 5, .int 3, .int 2, .int 1]
def aboutOver (below : List Frame) : State where
  vm := { classes := classes, interned := interned.toArray }
  heap := heap
  slotsUsed := slotsUsed
  threads := #[{ frames := .invoking theMethod args0 :: below }]
def below0 : List Frame := [.native { method := ⟨0, 0⟩, args := #[] }]
def about1 : State := aboutOver below0
def p0 : Program := .bare "" "" ""
def e0 : Env := launch0.env 0 0 0
theorem w_frames : about1.frames = Frame.invoking theMethod args0 :: below0 := rfl
set_option maxRecDepth 65536 in
theorem w_args : argsFit about1.vm theMethod args0 = true := by decide +kernel
set_option maxRecDepth 65536 in
theorem w_heap : heapFits about1 = true := by decide +kernel
set_option maxRecDepth 65536 in
theorem w_runnable : about1.curStatus? = some .runnable := by decide +kernel
set_option maxRecDepth 65536 in
theorem w_alone : about1.alone = true := by decide +kernel
set_option maxRecDepth 65536 in
theorem w_named : about1.methodNamed? x = some theMethod := by decide +kernel
set_option maxRecDepth 65536 in
theorem w_hears : about1.hears theMethod below0 = true := by decide +kernel
set_option maxRecDepth 65536 in
theorem w_ripe : about1.ripe theMethod args0 below0 = true := by decide +kernel
theorem w_running : about1.status = .running := rfl
set_option maxRecDepth 65536 in
theorem w_room : about1.hasRoom e0.platform room_1 = true :=
  launch0.hasRoom_least _ room_1 (by decide +kernel) (by decide +kernel) (by decide +kernel) (by decide +kernel) (by decide +kernel) (by decide +kernel)
theorem allAtoms_all (ts : List Jvm.Cond) (a : Array Jvm.Value) (st : Jvm.State) : (allAtoms ts).before a st = ts.all (fun c => c.before a st) := by
  induction ts with
  | nil => rfl
  | cons c t ih =>
    show (Jvm.Cond.and c (allAtoms t)).before a st = _
    rw [Jvm.Cond.before_and, ih, List.all_cons]
def words1 : List Jvm.Cond := Jvm.Cond.code x code maxLocals ret :: tables_1
/-- a 'code' word, met by the world's own term for the bytes: nothing is compared byte by byte -/
theorem code_word {y : MethodName} {bytes : ByteArray} {mx : Nat} {rt : Option FieldType} {a : Array Value} {s : State} {m : MethodId} {meth : Method} {c : Code} (h1 : s.methodNamed? y = some m) (h2 : s.vm.method? m = some meth) (h3 : meth.code = some c) (h4 : c.code = bytes)
    (h5 : (c.maxLocals == mx && c.exceptionTable.isEmpty && decide (c.maxStack ≤ mostOperands) && decide (meth.sig.returnType = rt) && !meth.locks && decide (parseMethodDescriptor y.desc = some meth.sig)) = true) : (Jvm.Cond.code y bytes mx rt).before a s = true := by
  simp only [Bool.and_eq_true, beq_iff_eq, Bool.not_eq_true', decide_eq_true_eq] at h5
  obtain ⟨⟨⟨⟨⟨g1, g2⟩, g3⟩, g4⟩, g5⟩, g6⟩ := h5
  simp [Cond.before, Cond.holds, Cond.value, h1, h2, h3, h4, g1, g2, g3, g4, g5, g6]
def isCode : Jvm.Cond → Bool
  | .code _ _ _ _ => true
  | _ => false
theorem all_split {L : List Jvm.Cond} {P : Jvm.Cond → Bool} (h1 : L.all (fun c => isCode c || P c) = true) (h2 : ∀ c ∈ L.filter isCode, P c = true) : L.all P = true := by
  refine List.all_eq_true.mpr fun c hc => ?_
  have h := List.all_eq_true.mp h1 c hc
  rcases Bool.eq_false_or_eq_true (isCode c) with hi | hi
  · exact h2 c (List.mem_filter.mpr ⟨hc, hi⟩)
  · simpa [hi] using h
set_option maxRecDepth 65536 in
theorem w_c0 : (Jvm.Cond.code x code maxLocals ret).before args0 about1 = true := code_word (m := ⟨1, 3⟩) (meth := k1m3) (c := k1c3) (by decide +kernel) rfl rfl rfl (by decide +kernel)
set_option maxRecDepth 65536 in
theorem w_c1 : (Jvm.Cond.code ({ cls := "tidemark/format/ParquetRunLengths", name := "unpack", desc := "([BIII[II)V" } : Jvm.MethodName) prog_21_method_5_code (13 : Nat) (Option.none : Option Jvm.ClassFile.FieldType)).before args0 about1 = true := code_word (m := ⟨2, 1⟩) (meth := k2m1) (c := k2c1) (by decide +kernel) rfl rfl rfl (by decide +kernel)
set_option maxRecDepth 65536 in
theorem w_c2 : (Jvm.Cond.code ({ cls := "tidemark/format/ParquetRunLengthsUnpackPinLaw", name := "expect", desc := "(IJJIIII)I" } : Jvm.MethodName) method_3_code (9 : Nat) (Option.some Jvm.ClassFile.FieldType.int)).before args0 about1 = true := code_word (m := ⟨1, 2⟩) (meth := k1m2) (c := k1c2) (by decide +kernel) rfl rfl rfl (by decide +kernel)
set_option maxRecDepth 65536 in
theorem w_c3 : (Jvm.Cond.code ({ cls := "tidemark/format/ParquetRunLengthsUnpackPinLaw", name := "field", desc := "(JJII)J" } : Jvm.MethodName) method_2_code (8 : Nat) (Option.some Jvm.ClassFile.FieldType.long)).before args0 about1 = true := code_word (m := ⟨1, 1⟩) (meth := k1m1) (c := k1c1) (by decide +kernel) rfl rfl rfl (by decide +kernel)
def codes1 : List Jvm.Cond := [Jvm.Cond.code x code maxLocals ret, Jvm.Cond.code ({ cls := "tidemark/format/ParquetRunLengths", name := "unpack", desc := "([BIII[II)V" } : Jvm.MethodName) prog_21_method_5_code (13 : Nat) (Option.none : Option Jvm.ClassFile.FieldType), Jvm.Cond.code ({ cls := "tidemark/format/ParquetRunLengthsUnpackPinLaw", name := "expect", desc := "(IJJIIII)I" } : Jvm.MethodName) method_3_code (9 : Nat) (Option.some Jvm.ClassFile.FieldType.int), Jvm.Cond.code ({ cls := "tidemark/format/ParquetRunLengthsUnpackPinLaw", name := "field", desc := "(JJII)J" } : Jvm.MethodName) method_2_code (8 : Nat) (Option.some Jvm.ClassFile.FieldType.long)]
set_option maxRecDepth 65536 in
theorem codes_eq : words1.filter isCode = codes1 := rfl
theorem w_codes : ∀ c ∈ words1.filter isCode, c.before args0 about1 = true := by
  rw [codes_eq]
  intro c hc
  simp only [codes1, List.mem_cons, List.not_mem_nil, or_false] at hc
  rcases hc with rfl | rfl | rfl | rfl
  · exact w_c0
  · exact w_c1
  · exact w_c2
  · exact w_c3
set_option maxRecDepth 65536 in
theorem w_t1 : words1.all (fun c => isCode c || c.before args0 about1) = true := by decide +kernel
theorem w_tables : (allAtoms (Jvm.Cond.code x code maxLocals ret :: tables_1)).before args0 about1 = true := by
  rw [allAtoms_all]
  show words1.all (fun c => c.before args0 about1) = true
  refine all_split ?_ w_codes
  rw [w_t1]
set_option maxRecDepth 65536 in
theorem w_case : (Jvm.Cond.and given_1 narrow_1).before args0 about1 = true := by decide +kernel
theorem w_applies : (headSpec (Jvm.Cond.code x code maxLocals ret :: tables_1) room_1).applies x e0.platform about1 = true :=
  (Spec.applies_iff w_frames).mpr ⟨w_running, w_runnable, w_alone, w_named, w_hears, w_ripe, w_room, w_tables⟩
theorem atStart : AtStart classFile x code maxLocals ret World_1 tables_1 room_1 Calls_1 rest_1 Pre_1 launch0 p0 e0 about1 theMethod args0 below0 :=
  ⟨lists_1, trivial, launch0.admits_env _ _ _, launch0.least_env, fairChoices_fair.cas, fairChoices_fair.clock, w_frames, w_args, w_heap, w_applies, trivial, trivial, w_case⟩
end start1
theorem witness_1 : WitnessClaimed_1 := ⟨start1.p0, start1.e0, start1.about1, start1.theMethod, start1.args0, start1.below0, start1.atStart⟩
end Jvm.Pilot.@@N@@
