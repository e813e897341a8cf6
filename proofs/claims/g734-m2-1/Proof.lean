import JvmDerived
import JvmDerived.Pilot.@@N@@Statement
import JvmDerived.Pilot.@@N@@Code
set_option linter.unusedVariables false
set_option linter.unusedSimpArgs false
namespace Jvm.Pilot.@@N@@
open Jvm Jvm.ClassFile Sem Op Lib Jvm.Free Jvm.Stand Jvm.LawKit Jvm.RoadKit Bundle Jvm.Pilot.@@N@@.Jvm.D
/-- what runs on to t from B runs on to t from A -/
def own_Rch (tb : Tables) (e : Env) (below : List Frame) (A B : State) : Prop := ∀ t, Steps tb e below B t → Steps tb e below A t
theorem own_lct1 {a b : Int64} (h : a < b) : ifCond.holds .lt (lcmpW a b) = true ∧ ifCond.holds .ge (lcmpW a b) = false := by
  have h1 : ¬ b < a := fun q => by rw [Int64.lt_iff_toInt_lt] at h q; omega
  have h2 : ¬ a = b := fun q => by subst q; exact h1 h
  simp only [lcmpW, gt_iff_lt, h1, h2, if_false]; exact ⟨rfl, rfl⟩
theorem own_lcf1 {a b : Int64} (h : ¬ a < b) : ifCond.holds .lt (lcmpW a b) = false ∧ ifCond.holds .ge (lcmpW a b) = true := by
  by_cases h1 : b < a
  · simp only [lcmpW, gt_iff_lt, h1, if_true]; exact ⟨rfl, rfl⟩
  · have h2 : a = b := by rw [Int64.lt_iff_toInt_lt] at h h1; exact Int64.toInt_inj.mp (by omega)
    simp only [lcmpW, gt_iff_lt, h1, h2, if_false, if_true]; subst h2; simp only [Int64.lt_irrefl, if_false]; exact ⟨rfl, rfl⟩
theorem own_lct2 {a b : Int64} (h : b < a) : ifCond.holds .gt (lcmpW a b) = true ∧ ifCond.holds .le (lcmpW a b) = false := by
  simp only [lcmpW, gt_iff_lt, h, if_true]; exact ⟨rfl, rfl⟩
theorem own_lcf2 {a b : Int64} (h : ¬ b < a) : ifCond.holds .gt (lcmpW a b) = false ∧ ifCond.holds .le (lcmpW a b) = true := by
  by_cases h2 : a = b
  · simp only [lcmpW, gt_iff_lt, h, if_pos h2, if_false]; exact ⟨rfl, rfl⟩
  · simp only [lcmpW, gt_iff_lt, h, if_neg h2, if_false]; exact ⟨rfl, rfl⟩
theorem own_lct3 {a b : Int64} (h : a = b) : ifCond.holds .eq (lcmpW a b) = true ∧ ifCond.holds .ne (lcmpW a b) = false := by
  have h1 : ¬ b < a := fun q => by subst h; exact absurd q (Int64.lt_irrefl)
  simp only [lcmpW, gt_iff_lt, h1, if_pos h, if_false]; exact ⟨rfl, rfl⟩
theorem own_lcf3 {a b : Int64} (h : ¬ a = b) : ifCond.holds .eq (lcmpW a b) = false ∧ ifCond.holds .ne (lcmpW a b) = true := by
  by_cases h1 : b < a
  · simp only [lcmpW, gt_iff_lt, h1, if_true]; exact ⟨rfl, rfl⟩
  · simp only [lcmpW, gt_iff_lt, h1, if_neg h, if_false]; exact ⟨rfl, rfl⟩
theorem own_remI (x y : Int32) : x - x / y * y = x % y := by
  apply Int32.toInt_inj.mp
  have l := Int32.toInt_lt (x % y)
  have g := Int32.le_toInt (x % y)
  rw [Int32.toInt_sub, Int32.toInt_mul, Int32.toInt_div]
  simp only [Int.sub_bmod_bmod, Int.bmod_mul_bmod]
  rw [Int.mul_comm, ← Int.tmod_def, ← Int32.toInt_mod, Int.bmod_eq_of_le] <;> omega
theorem own_remL (x y : Int64) : x - x / y * y = x % y := by
  apply Int64.toInt_inj.mp
  have l := Int64.toInt_lt (x % y)
  have g := Int64.le_toInt (x % y)
  rw [Int64.toInt_sub, Int64.toInt_mul, Int64.toInt_div]
  simp only [Int.sub_bmod_bmod, Int.bmod_mul_bmod]
  rw [Int.mul_comm, ← Int.tmod_def, ← Int64.toInt_mod, Int.bmod_eq_of_le] <;> omega
theorem own_cross {A B A' B' : Nat} {e e' e0 : Int} (he : e0 ≤ e) (he' : e0 ≤ e') (h : FP.Core.inUnits A e e0 * B' = FP.Core.inUnits A' e' e0 * B) : A * B' * 2 ^ (e - e').toNat = A' * B * 2 ^ (e' - e).toNat := by
  unfold FP.Core.inUnits at h
  rcases Int.le_total e' e with x | x
  · have e1 : (e - e0).toNat = (e - e').toNat + (e' - e0).toNat := by omega
    have e2 : (e' - e).toNat = 0 := by omega
    rw [e1, Nat.pow_add] at h
    rw [e2, Nat.pow_zero, Nat.mul_one]
    refine Nat.eq_of_mul_eq_mul_right (Nat.two_pow_pos (e' - e0).toNat) ?_
    calc A * B' * 2 ^ (e - e').toNat * 2 ^ (e' - e0).toNat = A * (2 ^ (e - e').toNat * 2 ^ (e' - e0).toNat) * B' := by ac_rfl
      _ = A' * 2 ^ (e' - e0).toNat * B := h
      _ = A' * B * 2 ^ (e' - e0).toNat := by ac_rfl
  · have e1 : (e' - e0).toNat = (e' - e).toNat + (e - e0).toNat := by omega
    have e2 : (e - e').toNat = 0 := by omega
    rw [e1, Nat.pow_add] at h
    rw [e2, Nat.pow_zero, Nat.mul_one]
    refine Nat.eq_of_mul_eq_mul_right (Nat.two_pow_pos (e - e0).toNat) ?_
    calc A * B' * 2 ^ (e - e0).toNat = A * 2 ^ (e - e0).toNat * B' := by ac_rfl
      _ = A' * (2 ^ (e' - e).toNat * 2 ^ (e - e0).toNat) * B := h
      _ = A' * B * 2 ^ (e' - e).toNat * 2 ^ (e - e0).toNat := by ac_rfl
theorem own_mono {A B A' B' : Nat} {e e' e0 : Int} (hB : 0 < B) (hB' : 0 < B') (h0 : e0 ≤ FP.Core.b64.qmin) (he : e0 ≤ e) (he' : e0 ≤ e')
    (h : FP.Core.inUnits A e e0 * B' ≤ FP.Core.inUnits A' e' e0 * B) {c c' : Nat} {q q' : Int} (hU : FP.Core.roundRatio FP.Core.b64 false A B e = .fin false c q) (hV : FP.Core.roundRatio FP.Core.b64 false A' B' e' = .fin false c' q') :
    FP.Core.zmag FP.Core.b64 (.fin false c q) ≤ FP.Core.zmag FP.Core.b64 (.fin false c' q') := by
  have fU := FP.Core.roundRatio_fits FP.Core.good_b64 false A hB e
  have fV := FP.Core.roundRatio_fits FP.Core.good_b64 false A' hB' e'
  rw [hU] at fU; rw [hV] at fV
  refine Nat.le_of_not_lt fun hlt => ?_
  have g1 : ¬ FP.Core.inUnits A e e0 ≤ FP.Core.zmag FP.Core.b64 (.fin false c' q') * 2 ^ (FP.Core.b64.qmin - e0).toNat * B := fun x => by
    have := FP.Core.zmag_roundRatio_le FP.Core.good_b64 (s := false) hB fV (by simp) h0 he x
    rw [hU] at this; omega
  have g2 : ¬ FP.Core.zmag FP.Core.b64 (.fin false c q) * 2 ^ (FP.Core.b64.qmin - e0).toNat * B' ≤ FP.Core.inUnits A' e' e0 := fun x => by
    have := FP.Core.zmag_roundRatio_ge FP.Core.good_b64 (s := false) hB' fU h0 he' x
    rw [hV] at this; omega
  have n1 := FP.Core.roundRatio_nearest FP.Core.good_b64 hB hU fV.1 fV.2.1 h0 he
  have n2 := FP.Core.roundRatio_nearest FP.Core.good_b64 hB' hV fU.1 fU.2.1 h0 he'
  unfold FP.Core.distance at n1 n2
  rw [FP.Core.units_fin fU h0, FP.Core.units_fin fV h0] at n1
  rw [FP.Core.units_fin fU h0, FP.Core.units_fin fV h0] at n2
  generalize FP.Core.zmag FP.Core.b64 (.fin false c q) * 2 ^ (FP.Core.b64.qmin - e0).toNat = u at *
  generalize FP.Core.zmag FP.Core.b64 (.fin false c' q') * 2 ^ (FP.Core.b64.qmin - e0).toNat = v at *
  have m1 : u * B + v * B ≤ 2 * FP.Core.inUnits A e e0 := by
    rw [← Int.natCast_mul, ← Int.natCast_mul] at n1; omega
  have m2 : 2 * FP.Core.inUnits A' e' e0 ≤ u * B' + v * B' := by
    rw [← Int.natCast_mul, ← Int.natCast_mul] at n2; omega
  have k1 := Nat.mul_le_mul_right B' m1
  have k2 := Nat.mul_le_mul_right B m2
  have k3 : (u * B + v * B) * B' = (u * B' + v * B') * B := by
    rw [← Nat.add_mul, ← Nat.add_mul, Nat.mul_assoc, Nat.mul_assoc, Nat.mul_comm B B']
  have k4 : 2 * FP.Core.inUnits A e e0 * B' = 2 * (FP.Core.inUnits A e e0 * B') := Nat.mul_assoc ..
  have k5 : 2 * FP.Core.inUnits A' e' e0 * B = 2 * (FP.Core.inUnits A' e' e0 * B) := Nat.mul_assoc ..
  have k6 : FP.Core.inUnits A e e0 * B' = FP.Core.inUnits A' e' e0 * B := by omega
  have k7 := FP.Core.roundRatio_congr (f := FP.Core.b64) (s := false) hB hB' (own_cross he he' k6)
  rw [hU, hV] at k7
  cases k7
  exact absurd hlt (Nat.lt_irrefl _)
theorem own_v (a : Int64) (h : 0 ≤ a.toInt) : ∃ c q, FP.Core.val64 (FP.l2d a) = .fin false c q ∧ FP.Core.roundRatio FP.Core.b64 false a.toInt.toNat 1 0 = .fin false c q := by
  obtain ⟨c, q, e⟩ := FP.Core.l2d_shape a
  have d : decide (a.toInt < 0) = false := by simp; omega
  have n : a.toInt.natAbs = a.toInt.toNat := by omega
  have h1 : FP.Core.val64 (FP.Core.l2d a) = FP.Core.roundRatio FP.Core.b64 (decide (a.toInt < 0)) a.toInt.natAbs 1 0 := FP.Core.val64_l2d a
  rw [d, n] at h1; rw [d] at e
  exact ⟨c, q, e, h1.symm.trans e⟩
theorem own_z {a : Int64} (ha : a ≠ 0) {c : Nat} {q : Int} (e : FP.Core.val64 (FP.l2d a) = .fin false c q) : 0 < c := by
  refine Nat.pos_of_ne_zero fun h => ?_
  subst h
  exact FP.Core.l2d_ne_zero ha ((FP.Core.zero_bits2 _).mp ⟨_, _, e⟩)
theorem own_fit {x : UInt64} {c : Nat} {q : Int} (e : FP.Core.val64 x = .fin false c q) : FP.Core.fits FP.Core.b64 (.fin false c q) := e ▸ FP.Core.val64_fits x
theorem own_q {x y : UInt64} {c d : Nat} {q p : Int} (hc : FP.Core.val64 x = .fin false c q) (hd : FP.Core.val64 y = .fin false d p) (d0 : 0 < d) : FP.Core.val64 (FP.ddiv x y) = FP.Core.roundRatio FP.Core.b64 false c d (q - p) := by
  have h : FP.Core.val64 (FP.ddiv x y) = FP.Core.quotient FP.Core.b64 (FP.Core.val64 x) (FP.Core.val64 y) := FP.Core.val64_ddiv x y
  rw [h, hc, hd]
  show (if d = 0 then _ else FP.Core.roundRatio FP.Core.b64 false c d (q - p)) = _
  rw [if_neg (by omega)]
theorem own_ord {x y : UInt64} {cx cy : Nat} {qx qy : Int} (hx : FP.Core.val64 x = .fin false cx qx) (hy : FP.Core.val64 y = .fin false cy qy) : FP.dcmp x y = some (compare ((FP.Core.zmag FP.Core.b64 (.fin false cx qx) : Nat) : Int) ((FP.Core.zmag FP.Core.b64 (.fin false cy qy) : Nat) : Int)) := by
  have h := FP.Core.order_zval FP.Core.good_b64 (FP.Core.val64_fits x) (FP.Core.val64_fits y) (by rw [hx]; simp) (by rw [hy]; simp)
  have h2 : FP.dcmp x y = FP.Core.order (FP.Core.val64 x) (FP.Core.val64 y) := rfl
  rw [h2, h, hx, hy]; rfl
theorem own_cg {a b : Int} (h : a ≤ b) : ¬ (0 : Int32) < cmpValue (some (compare a b)) .g := by
  rw [FP.Core.compare_ite]
  by_cases h1 : a < b
  · rw [if_pos h1]; decide
  · rw [if_neg h1, if_pos (by omega)]; decide
theorem own_ce {a b : Int} (h : a = b) : cmpValue (some (compare a b)) .l = 0 := by
  rw [FP.Core.compare_ite, if_neg (by omega), if_pos h]; decide
theorem own_cl {a b : Int} (h : b ≤ a) : ¬ cmpValue (some (compare a b)) .l < (0 : Int32) := by
  rw [FP.Core.compare_ite, if_neg (by omega)]
  by_cases h1 : a = b
  · rw [if_pos h1]; decide
  · rw [if_neg h1]; decide
/-- the quotient's magnitude against 1 -/
theorem own_le1 {c d : Nat} {q p : Int} (hc : FP.Core.fits FP.Core.b64 (.fin false c q)) (hd : FP.Core.fits FP.Core.b64 (.fin false d p)) (d0 : 0 < d) (h : FP.Core.zmag FP.Core.b64 (.fin false c q) ≤ FP.Core.zmag FP.Core.b64 (.fin false d p)) :
    ∃ c' q', FP.Core.roundRatio FP.Core.b64 false c d (q - p) = .fin false c' q' ∧ FP.Core.zmag FP.Core.b64 (.fin false c' q') ≤ FP.Core.zmag FP.Core.b64 (.fin false (2 ^ 52) (-52)) := by
  have hm : FP.Core.b64.qmin = -1074 := by decide
  have f1 : FP.Core.fits FP.Core.b64 (.fin false (2 ^ 52) (-52)) := FP.Core.val64_dconst1 ▸ FP.Core.val64_fits FP.Core.dconst1
  have z1 : FP.Core.zmag FP.Core.b64 (.fin false (2 ^ 52) (-52)) = 2 ^ 1074 := by decide +kernel
  have hq := hc.2.1
  have hp := hd.2.1
  rw [hm] at hq hp
  have key : FP.Core.zmag FP.Core.b64 (FP.Core.roundRatio FP.Core.b64 false c d (q - p)) ≤ FP.Core.zmag FP.Core.b64 (.fin false (2 ^ 52) (-52)) := by
    obtain ⟨e0, he⟩ : ∃ e0 : Int, e0 = min (-1074) (q - p) := ⟨_, rfl⟩
    refine FP.Core.zmag_roundRatio_le FP.Core.good_b64 (e0 := e0) d0 f1 (by simp) (by rw [hm]; omega) (by omega) ?_
    rw [z1, hm, ← Nat.pow_add]
    unfold FP.Core.inUnits
    unfold FP.Core.zmag FP.Core.inUnits at h
    dsimp only at h
    rw [hm] at h
    refine Nat.le_of_mul_le_mul_right ?_ (Nat.two_pow_pos (p - -1074).toNat)
    have e1 : (q - p - e0).toNat + (p - -1074).toNat = (q - -1074).toNat + (-e0).toNat := by omega
    have e2 : 1074 + (-1074 - e0).toNat = (-e0).toNat := by omega
    rw [Nat.mul_assoc, ← Nat.pow_add, e1, e2, Nat.pow_add, ← Nat.mul_assoc]
    calc c * 2 ^ (q - -1074).toNat * 2 ^ (-e0).toNat ≤ d * 2 ^ (p - -1074).toNat * 2 ^ (-e0).toNat := Nat.mul_le_mul_right _ h
      _ = 2 ^ (-e0).toNat * d * 2 ^ (p - -1074).toNat := by ac_rfl
  have hs := FP.Core.sgn_roundRatio FP.Core.b64 false c d (q - p)
  have hn := FP.Core.roundRatio_ne_nan FP.Core.b64 false c d (q - p)
  cases hR : FP.Core.roundRatio FP.Core.b64 false c d (q - p) with
  | nan => exact absurd hR hn
  | inf t =>
    rw [hR, z1] at key
    exact absurd key (by show ¬ FP.Core.b64.tails * 2 ^ (FP.Core.b64.exps - 2) ≤ 2 ^ 1074; decide +kernel)
  | fin t c' q' =>
    rw [hR] at hs key
    cases (show t = false from hs)
    exact ⟨c', q', rfl, key⟩
theorem own_dbl {H : Nat} (hH : 0 < H) (hb : H < 2 ^ 63) {c : Nat} {q : Int} (h : FP.Core.roundRatio FP.Core.b64 false H 1 0 = .fin false c q) : FP.Core.roundRatio FP.Core.b64 false (2 * H) 1 0 = .fin false c (q + 1) := by
  have g : FP.Core.roundRatio FP.Core.b64 false (2 * H) 1 0 = FP.Core.roundRatio FP.Core.b64 false H 1 1 := FP.Core.roundRatio_congr (by decide) (by decide) (by
    show 2 * H * 1 * 1 = H * 1 * 2; omega)
  rw [g]
  unfold FP.Core.roundRatio at h ⊢
  rw [if_neg (by omega)] at h ⊢
  have hm : FP.Core.b64.qmin = -1074 := by decide
  have hx : FP.Core.b64.qmax = 971 := by decide
  have hp : (FP.Core.b64.p : Int) = 53 := by decide
  have hlog : H.log2 < 63 := (Nat.log2_lt (by omega)).mpr hb
  have l1 : -1 ≤ FP.Core.leading H 1 ∧ FP.Core.leading H 1 ≤ 62 := by
    unfold FP.Core.leading
    have : (1 : Nat).log2 = 0 := by decide
    rw [this]
    dsimp only
    split <;> omega
  have q0 : FP.Core.quantum FP.Core.b64 H 1 0 = FP.Core.leading H 1 - 52 := by unfold FP.Core.quantum; rw [hm, hp]; omega
  have q1 : FP.Core.quantum FP.Core.b64 H 1 1 = FP.Core.leading H 1 - 52 + 1 := by unfold FP.Core.quantum; rw [hm, hp]; omega
  rw [q0] at h
  rw [q1]
  have hk : FP.Core.leading H 1 - 52 ≤ 10 := by omega
  generalize FP.Core.leading H 1 - 52 = k at *
  unfold FP.Core.roundAt at h ⊢
  have u1 : FP.Core.unitsNum H 1 (k + 1) = FP.Core.unitsNum H 0 k := by unfold FP.Core.unitsNum; rw [show (1 : Int) - (k + 1) = 0 - k by omega]
  have u2 : FP.Core.unitsDen 1 1 (k + 1) = FP.Core.unitsDen 1 0 k := by unfold FP.Core.unitsDen; rw [show (k + 1) - (1 : Int) = k - 0 by omega]
  rw [u1, u2]
  generalize FP.Core.nearest (FP.Core.unitsNum H 0 k) (FP.Core.unitsDen 1 0 k) = n at *
  unfold FP.Core.settle FP.Core.bound at h ⊢
  rw [hx] at h ⊢
  by_cases hn : n < 2 ^ FP.Core.b64.p
  · rw [if_pos hn, if_pos (by omega)] at h
    rw [if_pos hn, if_pos (by omega)]
    cases h; rfl
  · rw [if_neg hn, if_pos (by omega)] at h
    rw [if_neg hn, if_pos (by omega)]
    cases h; rfl
theorem own_exact {x : Int64} (h0 : 0 ≤ x.toInt) (h1 : x.toInt < 9007199254740992) {c : Nat} {q : Int} (e : FP.Core.val64 (FP.l2d x) = .fin false c q) : c * 2 ^ (q - -1074).toNat = x.toInt.toNat * 2 ^ 1074 := by
  have w : FP.Core.Whole x.toInt (FP.Core.val64 (FP.l2d x)) := FP.Core.l2d_whole ⟨by omega, h1⟩
  have hq := (own_fit e).2.1
  rw [show FP.Core.b64.qmin = -1074 by decide] at hq
  rw [e] at w
  have w' : ((c * 2 ^ q.toNat : Nat) : Int) = x.toInt * ((2 ^ (-q).toNat : Nat) : Int) := w
  obtain ⟨n, hn⟩ : ∃ n : Nat, x.toInt = n := ⟨x.toInt.toNat, by omega⟩
  rw [hn, ← Int.natCast_mul] at w'
  have w2 : c * 2 ^ q.toNat = n * 2 ^ (-q).toNat := Int.ofNat.inj w'
  rw [hn, Int.toNat_natCast]
  rcases Int.le_total 0 q with y | y
  · have a1 : (q - -1074).toNat = q.toNat + 1074 := by omega
    have a2 : (-q).toNat = 0 := by omega
    rw [a2, Nat.pow_zero, Nat.mul_one] at w2
    rw [a1, Nat.pow_add, ← Nat.mul_assoc, w2]
  · have a2 : q.toNat = 0 := by omega
    rw [a2, Nat.pow_zero, Nat.mul_one] at w2
    have a1 : (-q).toNat + (q - -1074).toNat = 1074 := by omega
    rw [w2, Nat.mul_assoc, ← Nat.pow_add, a1]
theorem own_rr {c d A N K : Nat} {q p : Int} (hc : FP.Core.fits FP.Core.b64 (.fin false c q)) (hd : FP.Core.fits FP.Core.b64 (.fin false d p)) (d0 : 0 < d) (N0 : 0 < N) (h1 : c * 2 ^ (q - -1074).toNat = A * K) (h2 : d * 2 ^ (p - -1074).toNat = N * K) :
    FP.Core.roundRatio FP.Core.b64 false c d (q - p) = FP.Core.roundRatio FP.Core.b64 false A N 0 := by
  have hq := hc.2.1
  have hp := hd.2.1
  rw [show FP.Core.b64.qmin = -1074 by decide] at hq hp
  obtain ⟨e0, he⟩ : ∃ e0 : Int, e0 = min 0 (q - p) := ⟨_, rfl⟩
  refine FP.Core.roundRatio_congr d0 N0 (own_cross (e0 := e0) (by omega) (by omega) ?_)
  unfold FP.Core.inUnits
  refine Nat.eq_of_mul_eq_mul_right (Nat.two_pow_pos (p - -1074).toNat) ?_
  have e1 : (q - p - e0).toNat + (p - -1074).toNat = (q - -1074).toNat + (-e0).toNat := by omega
  have e2 : (0 - e0).toNat = (-e0).toNat := by omega
  calc c * 2 ^ (q - p - e0).toNat * N * 2 ^ (p - -1074).toNat = c * 2 ^ ((q - p - e0).toNat + (p - -1074).toNat) * N := by rw [Nat.pow_add]; ac_rfl
    _ = c * 2 ^ (q - -1074).toNat * 2 ^ (-e0).toNat * N := by rw [e1, Nat.pow_add]; ac_rfl
    _ = A * K * 2 ^ (-e0).toNat * N := by rw [h1]
    _ = A * 2 ^ (-e0).toNat * (N * K) := by ac_rfl
    _ = A * 2 ^ (0 - e0).toNat * d * 2 ^ (p - -1074).toNat := by rw [← h2, e2]; ac_rfl
/-- what hitRate gives where there were requests -/
theorem own_r1 {h n : Int64} (h0 : 0 ≤ h.toInt) (hn : h.toInt ≤ n.toInt) (n0 : n ≠ 0) : ∃ c q, FP.Core.val64 (FP.ddiv (FP.l2d h) (FP.l2d n)) = .fin false c q ∧ FP.Core.zmag FP.Core.b64 (.fin false c q) ≤ FP.Core.zmag FP.Core.b64 (.fin false (2 ^ 52) (-52)) := by
  obtain ⟨c, q, e1, r1⟩ := own_v h h0
  obtain ⟨d, p, e2, r2⟩ := own_v n (by omega)
  have d0 := own_z n0 e2
  have hz : FP.Core.zmag FP.Core.b64 (.fin false c q) ≤ FP.Core.zmag FP.Core.b64 (.fin false d p) := own_mono (e0 := FP.Core.b64.qmin) (by decide) (by decide) (Int.le_refl _) (by decide) (by decide) (by
    unfold FP.Core.inUnits
    exact Nat.mul_le_mul_right _ (Nat.mul_le_mul_right _ (by omega))) r1 r2
  obtain ⟨c', q', g1, g2⟩ := own_le1 (own_fit e1) (own_fit e2) d0 hz
  exact ⟨c', q', (own_q e1 e2 d0).trans g1, g2⟩
theorem own_A {h n : Int64} (h0 : 0 ≤ h.toInt) (hn : h.toInt ≤ n.toInt) (n0 : n ≠ 0) : ¬ (0 : Int32) < cmpValue (FP.dcmp FP.dconst0 (FP.ddiv (FP.l2d h) (FP.l2d n))) .g ∧ ¬ (0 : Int32) < cmpValue (FP.dcmp (FP.ddiv (FP.l2d h) (FP.l2d n)) FP.dconst1) .g := by
  obtain ⟨c, q, e, hz⟩ := own_r1 h0 hn n0
  refine ⟨?_, ?_⟩
  · rw [own_ord (x := FP.dconst0) FP.Core.val64_dconst0 e]
    exact own_cg (by
      have : FP.Core.zmag FP.Core.b64 (.fin false 0 FP.Core.b64.qmin) = 0 := by decide
      rw [this]; exact Int.natCast_nonneg _)
  · rw [own_ord (y := FP.dconst1) e FP.Core.val64_dconst1]
    exact own_cg (Int.ofNat_le.mpr hz)
theorem own_B {n : Int64} (hn : 0 ≤ n.toInt) (n0 : n ≠ 0) : cmpValue (FP.dcmp (FP.ddiv (FP.l2d n) (FP.l2d n)) FP.dconst1) .l = 0 := by
  obtain ⟨d, p, e2, r2⟩ := own_v n hn
  have d0 := own_z n0 e2
  have f1 : FP.Core.fits FP.Core.b64 (.fin false (2 ^ 52) (-52)) := FP.Core.val64_dconst1 ▸ FP.Core.val64_fits FP.Core.dconst1
  have g : FP.Core.val64 (FP.ddiv (FP.l2d n) (FP.l2d n)) = .fin false (2 ^ 52) (-52) := (own_q e2 e2 d0).trans (FP.Core.roundRatio_exact FP.Core.good_b64 d0 f1 (by
    rw [show p - p = (0 : Int) by omega]; show d * 2 ^ 52 = 2 ^ 52 * d * 2 ^ 0; rw [Nat.pow_zero, Nat.mul_one, Nat.mul_comm]))
  rw [own_ord (y := FP.dconst1) g FP.Core.val64_dconst1]; exact own_ce rfl
theorem own_C {n : Int64} (hn : 0 ≤ n.toInt) (n0 : n ≠ 0) : cmpValue (FP.dcmp (FP.ddiv (FP.l2d 0) (FP.l2d n)) FP.dconst0) .l = 0 := by
  obtain ⟨d, p, e2, r2⟩ := own_v n hn
  have d0 := own_z n0 e2
  have z : FP.Core.val64 (FP.l2d 0) = .fin false 0 FP.Core.b64.qmin := by
    rw [show FP.l2d 0 = FP.dconst0 from FP.Core.l2d_zero]; exact FP.Core.val64_dconst0
  have g : FP.Core.val64 (FP.ddiv (FP.l2d 0) (FP.l2d n)) = .fin false 0 FP.Core.b64.qmin := (own_q z e2 d0).trans (by unfold FP.Core.roundRatio; rw [if_pos rfl])
  rw [own_ord (y := FP.dconst0) g FP.Core.val64_dconst0]; exact own_ce rfl
theorem own_half' : FP.Core.val64 4602678819172646912 = .fin false (2 ^ 52) (-53) := by decide +kernel
theorem own_D {h : Int64} (h0 : 0 < h.toInt) (h1 : h.toInt < 4611686018427387904) : cmpValue (FP.dcmp (FP.ddiv (FP.l2d h) (FP.l2d (h + h))) 4602678819172646912) .l = 0 := by
  have hs : (h + h).toInt = 2 * h.toInt := by
    rw [Int64.toInt_add, Int.bmod_eq_of_le] <;> omega
  obtain ⟨c, q, e1, r1⟩ := own_v h (by omega)
  obtain ⟨d, p, e2, r2⟩ := own_v (h + h) (by omega)
  have hd := own_dbl (H := h.toInt.toNat) (by omega) (by omega) r1
  rw [hs, show (2 * h.toInt).toNat = 2 * h.toInt.toNat by omega, hd] at r2
  cases r2
  have c0 : 0 < c := own_z (a := h) (fun x => by rw [x] at h0; exact absurd h0 (by decide)) e1
  have f1 : FP.Core.fits FP.Core.b64 (.fin false (2 ^ 52) (-53)) := own_half' ▸ FP.Core.val64_fits _
  have g : FP.Core.val64 (FP.ddiv (FP.l2d h) (FP.l2d (h + h))) = .fin false (2 ^ 52) (-53) := (own_q e1 e2 c0).trans (FP.Core.roundRatio_exact FP.Core.good_b64 c0 f1 (by
    rw [show q - (q + 1) = (-1 : Int) by omega]; show c * 2 ^ 52 = 2 ^ 52 * c * 2 ^ 0; rw [Nat.pow_zero, Nat.mul_one, Nat.mul_comm]))
  rw [own_ord g own_half']; exact own_ce rfl
theorem own_rN {h n : Int64} (h0 : 0 ≤ h.toInt) (hn : h.toInt ≤ n.toInt) (n0 : n ≠ 0) (n1 : n.toInt < 9007199254740992) : FP.Core.val64 (FP.ddiv (FP.l2d h) (FP.l2d n)) = FP.Core.roundRatio FP.Core.b64 false h.toInt.toNat n.toInt.toNat 0 := by
  obtain ⟨c, q, e1, r1⟩ := own_v h h0
  obtain ⟨d, p, e2, r2⟩ := own_v n (by omega)
  have d0 := own_z n0 e2
  have n2 : n.toInt ≠ 0 := FP.Core.int64_ne n0
  exact (own_q e1 e2 d0).trans (own_rr (own_fit e1) (own_fit e2) d0 (by omega) (own_exact h0 (by omega) e1) (own_exact (by omega) n1 e2))
theorem own_F0 {h n h' n' : Int64} (h0 : 0 ≤ h.toInt) (hn : h.toInt ≤ n.toInt) (n0 : n ≠ 0) (n1 : n.toInt < 9007199254740992) (h0' : 0 ≤ h'.toInt) (hn' : h'.toInt ≤ n'.toInt) (n0' : n' ≠ 0) (n1' : n'.toInt < 9007199254740992)
    (hx : h.toInt * n'.toInt ≤ h'.toInt * n.toInt) {c c' : Nat} {q q' : Int} (e : FP.Core.val64 (FP.ddiv (FP.l2d h) (FP.l2d n)) = .fin false c q) (e' : FP.Core.val64 (FP.ddiv (FP.l2d h') (FP.l2d n')) = .fin false c' q') :
    FP.Core.zmag FP.Core.b64 (.fin false c q) ≤ FP.Core.zmag FP.Core.b64 (.fin false c' q') := by
  rw [own_rN h0 hn n0 n1] at e
  rw [own_rN h0' hn' n0' n1'] at e'
  have n2 : n.toInt ≠ 0 := FP.Core.int64_ne n0
  have n2' : n'.toInt ≠ 0 := FP.Core.int64_ne n0'
  refine own_mono (e0 := FP.Core.b64.qmin) (by omega) (by omega) (Int.le_refl _) (by decide) (by decide) ?_ e e'
  unfold FP.Core.inUnits
  have k : h.toInt.toNat * n'.toInt.toNat ≤ h'.toInt.toNat * n.toInt.toNat := by
    apply Int.ofNat_le.mp
    rw [Int.natCast_mul, Int.natCast_mul, Int.toNat_of_nonneg h0, Int.toNat_of_nonneg h0', Int.toNat_of_nonneg (by omega), Int.toNat_of_nonneg (by omega)]
    exact hx
  calc h.toInt.toNat * 2 ^ (0 - FP.Core.b64.qmin).toNat * n'.toInt.toNat = h.toInt.toNat * n'.toInt.toNat * 2 ^ (0 - FP.Core.b64.qmin).toNat := Nat.mul_right_comm ..
    _ ≤ h'.toInt.toNat * n.toInt.toNat * 2 ^ (0 - FP.Core.b64.qmin).toNat := Nat.mul_le_mul_right _ k
    _ = h'.toInt.toNat * 2 ^ (0 - FP.Core.b64.qmin).toNat * n.toInt.toNat := Nat.mul_right_comm ..
theorem own_add64 {a b : Int64} (ha : 0 ≤ a.toInt) (hb : 0 ≤ b.toInt) (ha' : a.toInt < 4611686018427387904) (hb' : b.toInt ≤ 4611686018427387904) : (a + b).toInt = a.toInt + b.toInt := by
  rw [Int64.toInt_add, Int.bmod_eq_of_le] <;> omega
theorem own_F {h m h' m' : Int64} (h0 : 0 ≤ h.toInt) (m0 : 0 ≤ m.toInt) (h1 : h.toInt < 4294967296) (m1 : m.toInt < 4294967296) (h0' : 0 ≤ h'.toInt) (m0' : 0 ≤ m'.toInt) (h1' : h'.toInt < 4294967296) (m1' : m'.toInt < 4294967296) (n0 : h + m ≠ 0) (n0' : h' + m' ≠ 0) :
    (h.toInt * m'.toInt ≤ h'.toInt * m.toInt → ¬ (0 : Int32) < cmpValue (FP.dcmp (FP.ddiv (FP.l2d h) (FP.l2d (h + m))) (FP.ddiv (FP.l2d h') (FP.l2d (h' + m')))) .g) ∧
    (h.toInt * m'.toInt = h'.toInt * m.toInt → cmpValue (FP.dcmp (FP.ddiv (FP.l2d h) (FP.l2d (h + m))) (FP.ddiv (FP.l2d h') (FP.l2d (h' + m')))) .l = 0) ∧
    (h'.toInt * m.toInt ≤ h.toInt * m'.toInt → ¬ cmpValue (FP.dcmp (FP.ddiv (FP.l2d h) (FP.l2d (h + m))) (FP.ddiv (FP.l2d h') (FP.l2d (h' + m')))) .l < 0) := by
  have s1 := own_add64 h0 m0 (by omega) (by omega)
  have s2 := own_add64 h0' m0' (by omega) (by omega)
  obtain ⟨c, q, e, -⟩ := own_r1 (n := h + m) h0 (by omega) n0
  obtain ⟨c', q', e', -⟩ := own_r1 (n := h' + m') h0' (by omega) n0'
  have x1 : h.toInt * (h' + m').toInt = h.toInt * h'.toInt + h.toInt * m'.toInt := by rw [s2, Int.mul_add]
  have x2 : h'.toInt * (h + m).toInt = h.toInt * h'.toInt + h'.toInt * m.toInt := by rw [s1, Int.mul_add, Int.mul_comm h'.toInt h.toInt]
  have up : h.toInt * m'.toInt ≤ h'.toInt * m.toInt → FP.Core.zmag FP.Core.b64 (.fin false c q) ≤ FP.Core.zmag FP.Core.b64 (.fin false c' q') := fun x => own_F0 (n := h + m) (n' := h' + m') h0 (by omega) n0 (by omega) h0' (by omega) n0' (by omega) (by omega) e e'
  have dn : h'.toInt * m.toInt ≤ h.toInt * m'.toInt → FP.Core.zmag FP.Core.b64 (.fin false c' q') ≤ FP.Core.zmag FP.Core.b64 (.fin false c q) := fun x => own_F0 (n := h' + m') (n' := h + m) h0' (by omega) n0' (by omega) h0 (by omega) n0 (by omega) (by omega) e' e
  rw [own_ord e e']
  refine ⟨fun x => own_cg (Int.ofNat_le.mpr (up x)), fun x => own_ce ?_, fun x => own_cl (Int.ofNat_le.mpr (dn x))⟩
  have a1 := up (by omega)
  have a2 := dn (by omega)
  rw [Nat.le_antisymm a1 a2]
theorem own_E {h p : Int64} {j : Nat} (hj : j ≤ 52) (hp : p.toInt = ((2 ^ j : Nat) : Int)) (h0 : 0 ≤ h.toInt) (h1 : h.toInt < p.toInt) : cmpValue (FP.dcmp (FP.dmul (FP.ddiv (FP.l2d h) (FP.l2d p)) (FP.l2d p)) (FP.l2d h)) .l = 0 ∧ Jvm.Free.Fl.NoNaN64 (FP.dmul (FP.ddiv (FP.l2d h) (FP.l2d p)) (FP.l2d p)) := by
  have hj2 : (2 : Nat) ^ j ≤ 2 ^ 52 := Nat.pow_le_pow_right (by decide) hj
  obtain ⟨c, q, e1, r1⟩ := own_v h h0
  obtain ⟨d, r, e2, r2⟩ := own_v p (by omega)
  have p0 : p ≠ 0 := fun x => by rw [x] at h1; have : (0 : Int64).toInt = 0 := rfl; omega
  have d0 := own_z p0 e2
  have hm : FP.Core.b64.qmin = -1074 := by decide
  have hx : FP.Core.b64.qmax = 971 := by decide
  have ht : FP.Core.b64.tails = 2 ^ 52 := by decide
  have hpp : FP.Core.b64.p = 53 := by decide
  have fp : FP.Core.fits FP.Core.b64 (.fin false (2 ^ 52) ((j : Int) - 52)) := ⟨by rw [hpp]; decide, by rw [hm]; omega, by rw [hx]; omega, Or.inr (by rw [ht]; exact Nat.le_refl _)⟩
  have g2 := FP.Core.roundRatio_exact (s := false) (A := 2 ^ j) (B := 1) (e := 0) FP.Core.good_b64 (by decide) fp (by
    rw [show (0 - ((j : Int) - 52)).toNat = 52 - j by omega, show (((j : Int) - 52) - 0).toNat = 0 by omega, ← Nat.pow_add, Nat.pow_zero, show j + (52 - j) = 52 by omega])
  rw [hp, Int.toNat_natCast, g2] at r2
  cases r2
  have key : FP.Core.val64 (FP.dmul (FP.ddiv (FP.l2d h) (FP.l2d p)) (FP.l2d p)) = FP.Core.val64 (FP.l2d h) := by
    have hmul : FP.Core.val64 (FP.dmul (FP.ddiv (FP.l2d h) (FP.l2d p)) (FP.l2d p)) = FP.Core.round FP.Core.b64 (FP.Core.exactProduct (FP.Core.val64 (FP.ddiv (FP.l2d h) (FP.l2d p))) (FP.Core.val64 (FP.l2d p))) := FP.Core.val64_dmul _ _
    by_cases hz : c = 0
    · subst hz
      have q2 := FP.Core.fits_zero_q FP.Core.good_b64 (own_fit e1)
      subst q2
      have v1 : FP.Core.val64 (FP.ddiv (FP.l2d h) (FP.l2d p)) = .fin false 0 FP.Core.b64.qmin := (own_q e1 e2 d0).trans (by unfold FP.Core.roundRatio; rw [if_pos rfl])
      rw [hmul, v1, e2, e1]
      show FP.Core.roundRatio FP.Core.b64 false (0 * 2 ^ 52) 1 _ = _
      unfold FP.Core.roundRatio; rw [if_pos (Nat.zero_mul _)]
    · have hne : h.toInt ≠ 0 := fun x => hz (by
        have : h = 0 := Int64.toInt_inj.mp x
        subst this
        have z : FP.Core.val64 (FP.l2d 0) = .fin false 0 FP.Core.b64.qmin := by
          rw [show FP.l2d 0 = FP.dconst0 from FP.Core.l2d_zero]; exact FP.Core.val64_dconst0
        rw [z] at e1; cases e1; rfl)
      have ex := own_exact h0 (by omega) e1
      have f1 := own_fit e1
      have fc := f1.1
      have fq := f1.2.1
      have fx := f1.2.2.1
      rw [hpp] at fc; rw [hm] at fq; rw [hx] at fx
      have hq : -52 ≤ q := by
        refine Int.not_lt.mp fun y => ?_
        have a1 : c * 2 ^ (q - -1074).toNat < 2 ^ 53 * 2 ^ 1021 := by
          refine Nat.lt_of_lt_of_le (Nat.mul_lt_mul_of_pos_right fc (Nat.two_pow_pos _)) (Nat.mul_le_mul_left _ (Nat.pow_le_pow_right (by decide) (by omega)))
        rw [← Nat.pow_add, ex] at a1
        have a2 : 1 * 2 ^ 1074 ≤ h.toInt.toNat * 2 ^ 1074 := Nat.mul_le_mul_right _ (by omega)
        rw [Nat.one_mul] at a2
        exact absurd a1 (Nat.not_lt.mpr a2)
      have ct : 2 ^ 52 ≤ c := by
        rcases f1.2.2.2 with y | y
        · rw [hm] at y; omega
        · rw [ht] at y; exact y
      have fr : FP.Core.fits FP.Core.b64 (.fin false c (q - j)) := ⟨by rw [hpp]; exact fc, by rw [hm]; omega, by rw [hx]; omega, Or.inr (by rw [ht]; exact ct)⟩
      have v1 : FP.Core.val64 (FP.ddiv (FP.l2d h) (FP.l2d p)) = .fin false c (q - j) := (own_q e1 e2 d0).trans (FP.Core.roundRatio_exact FP.Core.good_b64 d0 fr (by
        rw [show (q - ((j : Int) - 52) - (q - j)).toNat = 52 by omega, show (q - j - (q - ((j : Int) - 52))).toNat = 0 by omega, Nat.pow_zero, Nat.mul_one]))
      rw [hmul, v1, e2, e1]
      show FP.Core.roundRatio FP.Core.b64 false (c * 2 ^ 52) 1 (q - j + ((j : Int) - 52)) = _
      refine FP.Core.roundRatio_exact FP.Core.good_b64 (by decide) f1 ?_
      rw [show (q - j + ((j : Int) - 52) - q).toNat = 0 by omega, show (q - (q - j + ((j : Int) - 52))).toNat = 52 by omega, Nat.pow_zero, Nat.mul_one, Nat.mul_one]
  refine ⟨?_, Jvm.Free.Fl.val64_no.mpr (by rw [key, e1]; simp)⟩
  rw [own_ord (key.trans e1) e1]; exact own_ce rfl
theorem own_nn {h n : Int64} (h0 : 0 ≤ h.toInt) (hn : h.toInt ≤ n.toInt) (n0 : n ≠ 0) : Jvm.Free.Fl.NoNaN64 (FP.ddiv (FP.l2d h) (FP.l2d n)) := by
  obtain ⟨c, q, e, -⟩ := own_r1 h0 hn n0
  exact Jvm.Free.Fl.val64_no.mpr (by rw [e]; simp)
theorem d2_0 : decode jdk_30_method_1_code 0 = .ok (.aload_n 0, 1) := by decide +kernel
theorem d2_1 : decode jdk_30_method_1_code 1 = .ok (.invokespecial 1, 3) := by decide +kernel
theorem d2_4 : decode jdk_30_method_1_code 4 = .ok (.return_, 1) := by decide +kernel
theorem pn_0 : plainName "java/lang/Record" = true := by first | (simp [plainName, overriddenIn]; done) | decide +kernel
theorem ef_2 (m : MethodId) (a : Addr) : entryFrame m #[(.ref a)] 1 = mkF m 0 #[.val (.ref a)] [] := by first | (simp [entryFrame, mkF, argsToLocals, Value.category]; done) | rfl
def Q2 (Z : State) (a : Addr) (h0 : Heap) (n0 : Nat) (v : Option Value) (h : Heap) (L : List Loc) : Prop := v = none ∧ Fr n0 L ∧ h = h0
set_option maxRecDepth 65536 in
set_option maxHeartbeats 40000000 in
theorem rm2 (l : Launch) (Z : State) (a0 : Array Value) (hw : ∀ d ∈ tables_1, d.before a0 Z = true) (ws : List Jvm.Cond) (a : Addr) (h0 : Heap) (n0 : Nat) (Z0 : n0 ≤ h0.size) :
    MetFree l (⟨"java/lang/Record", "<init>", "()V"⟩ : MethodName) (head1 (Jvm.Cond.code (⟨"java/lang/Record", "<init>", "()V"⟩ : MethodName) jdk_30_method_1_code 1 none :: ws) ({ frames := 1, cells := 0, slots := 0, locals := 12 } : Room)) (fun a' U => a' = #[(.ref a)] ∧ Z.Warmed39 U.vm ∧ U.heap = h0) (fun _ _ _ _ _ => True) (fun _ U o' U' => ∃ v L, o' = .returned v ∧ Q2 Z a h0 n0 v U'.heap L ∧ FrameEnd U o' U' L ({ frames := 1, cells := 0, slots := 0, locals := 12 } : Room).cells ({ frames := 1, cells := 0, slots := 0, locals := 12 } : Room).slots) := by
  refine MetFree.of_bodySF (plainFor_of_name pn_0) hisR ?_
  intro p e s m args' below meth c s₁ Bd hml0 hP hK
  obtain ⟨hargs, hZ, hh⟩ := hP
  have hx := Bd.exec
  have hby := Bd.bytes
  have hml : c.maxLocals = 1 := hml0
  have hown : s.vm.findClass "java/lang/Record" = some m.cls := findClass_of_methodNamed Bd.named
  have hnm := (name_of_methodNamed Bd.named Bd.method).1
  have X0 : Stand p l e ({ frames := 1, cells := 0, slots := 0, locals := 12 } : Room) s m args' below meth c s₁ [] 0 0 := Stand.of_body Bd
  have e0 : s₁.heap = h0 := by rw [← hh, Bd.state]; rfl
  have N0 := Fr.nil n0
  obtain ⟨A0, hA0⟩ : ∃ A, A = s₁.setTop (mkF m 0 #[.val (.ref a)] []) := ⟨_, rfl⟩
  have P0 : own_Rch p.tables e below A0 (s₁.setTop (mkF m 0 #[.val (.ref a)] [])) := fun t k => hA0 ▸ k
  have P00 : own_Rch p.tables e below (s₁.setTop (entryFrame m args' 1)) A0 := fun t k => by rw [hargs]; exact castTop (ef_2 m a) (hA0 ▸ k)
  have P1 : own_Rch p.tables e below A0 (s₁.setTop (mkF m 1 #[.val (.ref a)] [(.ref a)])) := fun t k => P0 t (by
    show Steps p.tables e below (s₁.setTop (mkF m 0 #[.val (.ref a)] [])) _
    refine XS.aloadN X0.here hx rfl (hb hby d2_0) rfl rfl ?_
    exact k)
  obtain ⟨T2, X2, e2, st2⟩ := initO X0 hx hZ hown (hw _ (List.mem_of_getElem? (i := 12) rfl)) (hw _ (List.mem_of_getElem? (i := 13) rfl)) (hw _ (List.mem_of_getElem? (i := 14) rfl)) e0 (g := (mkF m 1 #[.val (.ref a)] [(.ref a)])) rfl (by rw [hml]; rfl) rfl (hb hby d2_1) (by decide) (W := 0) (by show 2 * 0 + _ ≤ _; exact Nat.le_of_eq rfl) (by decide)
  have P3 : own_Rch p.tables e below A0 (T2.setTop (mkF m 4 #[.val (.ref a)] [])) := fun t k => P1 t (st2 t k)
  obtain ⟨fs, hr, hrun, hended, hW, hsame⟩ := X2.leave (v := none) (fun _ => rfl)
  refine ⟨_, _, P00 _ (P3 _ ?_), hrun, hended, _, _, rfl, ?_, ⟨_, rfl⟩, hW, hsame.mono (by decide) (by decide)⟩
  · exact X2.returnOut hx Bd.returns (hb hby d2_4) hr
  · show Q2 Z a h0 n0 _ T2.heap _
    rw [e2]
    refine ⟨?_, N0, rfl⟩
    rfl
theorem d1_0 : decode prog_19_method_1_code 0 = .ok (.aload_n 0, 1) := by decide +kernel
theorem d1_1 : decode prog_19_method_1_code 1 = .ok (.invokespecial 1, 3) := by decide +kernel
theorem d1_4 : decode prog_19_method_1_code 4 = .ok (.aload_n 0, 1) := by decide +kernel
theorem d1_5 : decode prog_19_method_1_code 5 = .ok (.lload_n 1, 1) := by decide +kernel
theorem d1_6 : decode prog_19_method_1_code 6 = .ok (.putfield 7, 3) := by decide +kernel
theorem d1_9 : decode prog_19_method_1_code 9 = .ok (.aload_n 0, 1) := by decide +kernel
theorem d1_10 : decode prog_19_method_1_code 10 = .ok (.lload_n 3, 1) := by decide +kernel
theorem d1_11 : decode prog_19_method_1_code 11 = .ok (.putfield 13, 3) := by decide +kernel
theorem d1_14 : decode prog_19_method_1_code 14 = .ok (.aload_n 0, 1) := by decide +kernel
theorem d1_15 : decode prog_19_method_1_code 15 = .ok (.lload 5, 2) := by decide +kernel
theorem d1_17 : decode prog_19_method_1_code 17 = .ok (.putfield 16, 3) := by decide +kernel
theorem d1_20 : decode prog_19_method_1_code 20 = .ok (.aload_n 0, 1) := by decide +kernel
theorem d1_21 : decode prog_19_method_1_code 21 = .ok (.lload 7, 2) := by decide +kernel
theorem d1_23 : decode prog_19_method_1_code 23 = .ok (.putfield 19, 3) := by decide +kernel
theorem d1_26 : decode prog_19_method_1_code 26 = .ok (.aload_n 0, 1) := by decide +kernel
theorem d1_27 : decode prog_19_method_1_code 27 = .ok (.lload 9, 2) := by decide +kernel
theorem d1_29 : decode prog_19_method_1_code 29 = .ok (.putfield 22, 3) := by decide +kernel
theorem d1_32 : decode prog_19_method_1_code 32 = .ok (.aload_n 0, 1) := by decide +kernel
theorem d1_33 : decode prog_19_method_1_code 33 = .ok (.lload 11, 2) := by decide +kernel
theorem d1_35 : decode prog_19_method_1_code 35 = .ok (.putfield 25, 3) := by decide +kernel
theorem d1_38 : decode prog_19_method_1_code 38 = .ok (.return_, 1) := by decide +kernel
def own_L0 (a0 : Addr) (a1 : Int64) (a3 : Int64) (a5 : Int64) (a7 : Int64) (a9 : Int64) (a11 : Int64) : Array Slot := #[.val (.ref a0), .val (.long a1), .second, .val (.long a3), .second, .val (.long a5), .second, .val (.long a7), .second, .val (.long a9), .second, .val (.long a11), .second]
theorem pd_0 : parseMethodDescriptor "()V" = some ⟨[], none⟩ := by decide +kernel
theorem pn_1 : plainName "com/example/tinyward/tinyward/CacheStats" = true := by first | (simp [plainName, overriddenIn]; done) | decide +kernel
theorem ef_1 (m : MethodId) (a : Addr) (q1 : Int64) (q2 : Int64) (q3 : Int64) (q4 : Int64) (q5 : Int64) (q6 : Int64) : entryFrame m #[(.ref a), (.long q1), (.long q2), (.long q3), (.long q4), (.long q5), (.long q6)] 13 = mkF m 0 #[.val (.ref a), .val (.long q1), .second, .val (.long q2), .second, .val (.long q3), .second, .val (.long q4), .second, .val (.long q5), .second, .val (.long q6), .second] [] := by first | (simp [entryFrame, mkF, argsToLocals, Value.category]; done) | rfl
def Q1 (Z : State) (a : Addr) (q1 : Int64) (q2 : Int64) (q3 : Int64) (q4 : Int64) (q5 : Int64) (q6 : Int64) (h0 : Heap) (n0 : Nat) (v : Option Value) (h : Heap) (L : List Loc) : Prop := v = none ∧ Fr n0 L ∧ Keep h0 h [a] ∧ Exa Z h a "com/example/tinyward/tinyward/CacheStats" ∧ Fld Z h a "com/example/tinyward/tinyward/CacheStats" "hitCount" "J" (.long q1) ∧ Fld Z h a "com/example/tinyward/tinyward/CacheStats" "missCount" "J" (.long q2)
set_option maxRecDepth 65536 in
set_option maxHeartbeats 40000000 in
theorem rm1 (l : Launch) (Z : State) (a0 : Array Value) (hw : ∀ d ∈ tables_1, d.before a0 Z = true) (ws : List Jvm.Cond) (a : Addr) (q1 : Int64) (q2 : Int64) (q3 : Int64) (q4 : Int64) (q5 : Int64) (q6 : Int64) (h0 : Heap) (n0 : Nat) (Z0 : n0 ≤ h0.size) (E_a : Exa Z h0 a "com/example/tinyward/tinyward/CacheStats") (F_a_hitCount : Fld Z h0 a "com/example/tinyward/tinyward/CacheStats" "hitCount" "J" (.long (0 : Int64))) (F_a_missCount : Fld Z h0 a "com/example/tinyward/tinyward/CacheStats" "missCount" "J" (.long (0 : Int64))) (F_a_loadSuccessCount : Fld Z h0 a "com/example/tinyward/tinyward/CacheStats" "loadSuccessCount" "J" (.long (0 : Int64))) (F_a_loadFailureCount : Fld Z h0 a "com/example/tinyward/tinyward/CacheStats" "loadFailureCount" "J" (.long (0 : Int64))) (F_a_totalLoadTime : Fld Z h0 a "com/example/tinyward/tinyward/CacheStats" "totalLoadTime" "J" (.long (0 : Int64))) (F_a_evictionCount : Fld Z h0 a "com/example/tinyward/tinyward/CacheStats" "evictionCount" "J" (.long (0 : Int64))) (g_a : n0 ≤ a) :
    MetFree l (⟨"com/example/tinyward/tinyward/CacheStats", "<init>", "(JJJJJJ)V"⟩ : MethodName) (head1 (Jvm.Cond.code (⟨"com/example/tinyward/tinyward/CacheStats", "<init>", "(JJJJJJ)V"⟩ : MethodName) prog_19_method_1_code 13 none :: ws) ({ frames := 2, cells := 0, slots := 0, locals := 24 } : Room)) (fun a' U => a' = #[(.ref a), (.long q1), (.long q2), (.long q3), (.long q4), (.long q5), (.long q6)] ∧ Z.Warmed39 U.vm ∧ U.heap = h0) (fun _ _ _ _ _ => True) (fun _ U o' U' => ∃ v L, o' = .returned v ∧ Q1 Z a q1 q2 q3 q4 q5 q6 h0 n0 v U'.heap L ∧ FrameEnd U o' U' L ({ frames := 2, cells := 0, slots := 0, locals := 24 } : Room).cells ({ frames := 2, cells := 0, slots := 0, locals := 24 } : Room).slots) := by
  refine MetFree.of_bodySF (plainFor_of_name pn_1) hisR ?_
  intro p e s m args' below meth c s₁ Bd hml0 hP hK
  obtain ⟨hargs, hZ, hh⟩ := hP
  have hx := Bd.exec
  have hby := Bd.bytes
  have hml : c.maxLocals = 13 := hml0
  have hown : s.vm.findClass "com/example/tinyward/tinyward/CacheStats" = some m.cls := findClass_of_methodNamed Bd.named
  have hnm := (name_of_methodNamed Bd.named Bd.method).1
  have X0 : Stand p l e ({ frames := 2, cells := 0, slots := 0, locals := 24 } : Room) s m args' below meth c s₁ [] 0 0 := Stand.of_body Bd
  have e0 : s₁.heap = h0 := by rw [← hh, Bd.state]; rfl
  have N0 := Fr.nil n0
  obtain ⟨A0, hA0⟩ : ∃ A, A = s₁.setTop (mkF m 0 #[.val (.ref a), .val (.long q1), .second, .val (.long q2), .second, .val (.long q3), .second, .val (.long q4), .second, .val (.long q5), .second, .val (.long q6), .second] []) := ⟨_, rfl⟩
  have P0 : own_Rch p.tables e below A0 (s₁.setTop (mkF m 0 #[.val (.ref a), .val (.long q1), .second, .val (.long q2), .second, .val (.long q3), .second, .val (.long q4), .second, .val (.long q5), .second, .val (.long q6), .second] [])) := fun t k => hA0 ▸ k
  have P00 : own_Rch p.tables e below (s₁.setTop (entryFrame m args' 13)) A0 := fun t k => by rw [hargs]; exact castTop (ef_1 m a q1 q2 q3 q4 q5 q6) (hA0 ▸ k)
  have K0 : Keep h0 h0 [a] := Keep.refl _ _
  have P1 : own_Rch p.tables e below A0 (s₁.setTop (mkF m 1 (own_L0 a q1 q2 q3 q4 q5 q6) [(.ref a)])) := fun t k => P0 t (by
    show Steps p.tables e below (s₁.setTop (mkF m 0 (own_L0 a q1 q2 q3 q4 q5 q6) [])) _
    refine XS.aloadN X0.here hx rfl (hb hby d1_0) rfl rfl ?_
    exact k)
  obtain ⟨_, _, ⟨T2, L2, k2, n2⟩, -, X2, ⟨Lc2, hQ2, l2, y2, z2⟩, st2⟩ := X0.specialBack hx (y := (⟨"java/lang/Record", "<init>", "()V"⟩ : MethodName)) rfl hown (mvT hZ (hw _ (List.mem_of_getElem? (i := 7) rfl))) (mvT hZ (hw _ (List.mem_of_getElem? (i := 8) rfl))) (mvT hZ (hw _ (List.mem_of_getElem? (i := 11) rfl))) (by decide) (backOf (W := 0) (rm2 l Z a0 hw [] a h0 n0 Z0 ) hZ (hw _ (List.mem_of_getElem? (i := 11) rfl)) (hw _ (List.mem_of_getElem? (i := 10) rfl)) (by decide) (by decide)) (g := (mkF m 1 (own_L0 a q1 q2 q3 q4 q5 q6) [(.ref a)])) rfl (by rw [hml]; rfl) (Steps.refl _) (a := a) (argsL := []) (rest := []) (lenOf pd_0 rfl) rfl (by show 2 * 0 + _ ≤ _; exact Nat.le_of_eq rfl) (hb hby d1_1) (fun _ _ => ⟨rfl, e0, (by decide : (0) + 0 ≤ _), (by decide : (0) + 0 ≤ _)⟩)
  dsimp only [Pt.U, Pt.locs, Pt.cells, Pt.slots] at X2 l2 y2 z2 st2 hQ2
  subst l2 y2 z2
  obtain ⟨rfl, N2q, e2⟩ := hQ2
  have N2 := Fr.app N0 N2q
  have P3 : own_Rch p.tables e below A0 (T2.setTop (mkF m 4 (own_L0 a q1 q2 q3 q4 q5 q6) [])) := fun t k => P1 t (st2.trans k)
  have P4 : own_Rch p.tables e below A0 (T2.setTop (mkF m 6 (own_L0 a q1 q2 q3 q4 q5 q6) [(.long q1), (.ref a)])) := fun t k => P3 t (by
    show Steps p.tables e below (T2.setTop (mkF m 4 (own_L0 a q1 q2 q3 q4 q5 q6) [])) _
    refine XS.aloadN X2.here hx rfl (hb hby d1_4) rfl rfl ?_
    show Steps p.tables e below (T2.setTop (mkF m 5 (own_L0 a q1 q2 q3 q4 q5 q6) [(.ref a)])) _
    refine XS.lloadN X2.here hx rfl (hb hby d1_5) rfl ?_
    exact k)
  obtain ⟨T5, h5, X5, e5, W5, st5⟩ := putF X2 hx hZ hown (host := "") (Or.inl (hw _ (List.mem_of_getElem? (i := 15) rfl))) Via.refl e2 F_a_hitCount E_a (Or.inr ⟨(hw _ (List.mem_of_getElem? (i := 16) rfl)), rfl, hnm⟩) (hw _ (List.mem_of_getElem? (i := 2) rfl)) (ty := .long) (by decide) rfl rfl (g := (mkF m 6 (own_L0 a q1 q2 q3 q4 q5 q6) [(.long q1), (.ref a)])) rfl rfl (hb hby d1_6)
  have N5 := Fr.snoc X5 N2 g_a
  have Z_6 : n0 ≤ h5.size := Nat.le_trans Z0 (Keep.of_wr W5).1
  have E_7 : Exa Z h5 a "com/example/tinyward/tinyward/CacheStats" := E_a.wr W5
  have F_8 : Fld Z h5 a "com/example/tinyward/tinyward/CacheStats" "hitCount" "J" (.long q1) := F_a_hitCount.same W5
  have F_9 : Fld Z h5 a "com/example/tinyward/tinyward/CacheStats" "missCount" "J" (.long (0 : Int64)) := F_a_missCount.other W5 (Or.inr (slot_ne (Or.inr (hw _ (List.mem_of_getElem? (i := 18) rfl))) (Or.inr (hw _ (List.mem_of_getElem? (i := 16) rfl))) (by decide) (t := .long) (t' := .long) (by decide) (by decide)))
  have F_10 : Fld Z h5 a "com/example/tinyward/tinyward/CacheStats" "loadSuccessCount" "J" (.long (0 : Int64)) := F_a_loadSuccessCount.other W5 (Or.inr (slot_ne (Or.inr (hw _ (List.mem_of_getElem? (i := 20) rfl))) (Or.inr (hw _ (List.mem_of_getElem? (i := 16) rfl))) (by decide) (t := .long) (t' := .long) (by decide) (by decide)))
  have F_11 : Fld Z h5 a "com/example/tinyward/tinyward/CacheStats" "loadFailureCount" "J" (.long (0 : Int64)) := F_a_loadFailureCount.other W5 (Or.inr (slot_ne (Or.inr (hw _ (List.mem_of_getElem? (i := 22) rfl))) (Or.inr (hw _ (List.mem_of_getElem? (i := 16) rfl))) (by decide) (t := .long) (t' := .long) (by decide) (by decide)))
  have F_12 : Fld Z h5 a "com/example/tinyward/tinyward/CacheStats" "totalLoadTime" "J" (.long (0 : Int64)) := F_a_totalLoadTime.other W5 (Or.inr (slot_ne (Or.inr (hw _ (List.mem_of_getElem? (i := 24) rfl))) (Or.inr (hw _ (List.mem_of_getElem? (i := 16) rfl))) (by decide) (t := .long) (t' := .long) (by decide) (by decide)))
  have F_13 : Fld Z h5 a "com/example/tinyward/tinyward/CacheStats" "evictionCount" "J" (.long (0 : Int64)) := F_a_evictionCount.other W5 (Or.inr (slot_ne (Or.inr (hw _ (List.mem_of_getElem? (i := 26) rfl))) (Or.inr (hw _ (List.mem_of_getElem? (i := 16) rfl))) (by decide) (t := .long) (t' := .long) (by decide) (by decide)))
  have K_14 : Keep h0 h5 [a] := K0.wr W5 (Or.inl (List.mem_of_getElem? (i := 0) rfl))
  have P15 : own_Rch p.tables e below A0 (T5.setTop (mkF m 9 (own_L0 a q1 q2 q3 q4 q5 q6) [])) := fun t k => P4 t (st5 t k)
  have P16 : own_Rch p.tables e below A0 (T5.setTop (mkF m 11 (own_L0 a q1 q2 q3 q4 q5 q6) [(.long q2), (.ref a)])) := fun t k => P15 t (by
    show Steps p.tables e below (T5.setTop (mkF m 9 (own_L0 a q1 q2 q3 q4 q5 q6) [])) _
    refine XS.aloadN X5.here hx rfl (hb hby d1_9) rfl rfl ?_
    show Steps p.tables e below (T5.setTop (mkF m 10 (own_L0 a q1 q2 q3 q4 q5 q6) [(.ref a)])) _
    refine XS.lloadN X5.here hx rfl (hb hby d1_10) rfl ?_
    exact k)
  obtain ⟨T17, h17, X17, e17, W17, st17⟩ := putF X5 hx hZ hown (host := "") (Or.inl (hw _ (List.mem_of_getElem? (i := 17) rfl))) Via.refl e5 F_9 E_7 (Or.inr ⟨(hw _ (List.mem_of_getElem? (i := 18) rfl)), rfl, hnm⟩) (hw _ (List.mem_of_getElem? (i := 2) rfl)) (ty := .long) (by decide) rfl rfl (g := (mkF m 11 (own_L0 a q1 q2 q3 q4 q5 q6) [(.long q2), (.ref a)])) rfl rfl (hb hby d1_11)
  have N17 := Fr.snoc X17 N5 g_a
  have Z_18 : n0 ≤ h17.size := Nat.le_trans Z_6 (Keep.of_wr W17).1
  have E_19 : Exa Z h17 a "com/example/tinyward/tinyward/CacheStats" := E_7.wr W17
  have F_20 : Fld Z h17 a "com/example/tinyward/tinyward/CacheStats" "hitCount" "J" (.long q1) := F_8.other W17 (Or.inr (slot_ne (Or.inr (hw _ (List.mem_of_getElem? (i := 16) rfl))) (Or.inr (hw _ (List.mem_of_getElem? (i := 18) rfl))) (by decide) (t := .long) (t' := .long) (by decide) (by decide)))
  have F_21 : Fld Z h17 a "com/example/tinyward/tinyward/CacheStats" "missCount" "J" (.long q2) := F_9.same W17
  have F_22 : Fld Z h17 a "com/example/tinyward/tinyward/CacheStats" "loadSuccessCount" "J" (.long (0 : Int64)) := F_10.other W17 (Or.inr (slot_ne (Or.inr (hw _ (List.mem_of_getElem? (i := 20) rfl))) (Or.inr (hw _ (List.mem_of_getElem? (i := 18) rfl))) (by decide) (t := .long) (t' := .long) (by decide) (by decide)))
  have F_23 : Fld Z h17 a "com/example/tinyward/tinyward/CacheStats" "loadFailureCount" "J" (.long (0 : Int64)) := F_11.other W17 (Or.inr (slot_ne (Or.inr (hw _ (List.mem_of_getElem? (i := 22) rfl))) (Or.inr (hw _ (List.mem_of_getElem? (i := 18) rfl))) (by decide) (t := .long) (t' := .long) (by decide) (by decide)))
  have F_24 : Fld Z h17 a "com/example/tinyward/tinyward/CacheStats" "totalLoadTime" "J" (.long (0 : Int64)) := F_12.other W17 (Or.inr (slot_ne (Or.inr (hw _ (List.mem_of_getElem? (i := 24) rfl))) (Or.inr (hw _ (List.mem_of_getElem? (i := 18) rfl))) (by decide) (t := .long) (t' := .long) (by decide) (by decide)))
  have F_25 : Fld Z h17 a "com/example/tinyward/tinyward/CacheStats" "evictionCount" "J" (.long (0 : Int64)) := F_13.other W17 (Or.inr (slot_ne (Or.inr (hw _ (List.mem_of_getElem? (i := 26) rfl))) (Or.inr (hw _ (List.mem_of_getElem? (i := 18) rfl))) (by decide) (t := .long) (t' := .long) (by decide) (by decide)))
  have K_26 : Keep h0 h17 [a] := K_14.wr W17 (Or.inl (List.mem_of_getElem? (i := 0) rfl))
  have P27 : own_Rch p.tables e below A0 (T17.setTop (mkF m 14 (own_L0 a q1 q2 q3 q4 q5 q6) [])) := fun t k => P16 t (st17 t k)
  have P28 : own_Rch p.tables e below A0 (T17.setTop (mkF m 17 (own_L0 a q1 q2 q3 q4 q5 q6) [(.long q3), (.ref a)])) := fun t k => P27 t (by
    show Steps p.tables e below (T17.setTop (mkF m 14 (own_L0 a q1 q2 q3 q4 q5 q6) [])) _
    refine XS.aloadN X17.here hx rfl (hb hby d1_14) rfl rfl ?_
    show Steps p.tables e below (T17.setTop (mkF m 15 (own_L0 a q1 q2 q3 q4 q5 q6) [(.ref a)])) _
    refine XS.lload X17.here hx rfl (hb hby d1_15) rfl ?_
    exact k)
  obtain ⟨T29, h29, X29, e29, W29, st29⟩ := putF X17 hx hZ hown (host := "") (Or.inl (hw _ (List.mem_of_getElem? (i := 19) rfl))) Via.refl e17 F_22 E_19 (Or.inr ⟨(hw _ (List.mem_of_getElem? (i := 20) rfl)), rfl, hnm⟩) (hw _ (List.mem_of_getElem? (i := 2) rfl)) (ty := .long) (by decide) rfl rfl (g := (mkF m 17 (own_L0 a q1 q2 q3 q4 q5 q6) [(.long q3), (.ref a)])) rfl rfl (hb hby d1_17)
  have N29 := Fr.snoc X29 N17 g_a
  have Z_30 : n0 ≤ h29.size := Nat.le_trans Z_18 (Keep.of_wr W29).1
  have E_31 : Exa Z h29 a "com/example/tinyward/tinyward/CacheStats" := E_19.wr W29
  have F_32 : Fld Z h29 a "com/example/tinyward/tinyward/CacheStats" "hitCount" "J" (.long q1) := F_20.other W29 (Or.inr (slot_ne (Or.inr (hw _ (List.mem_of_getElem? (i := 16) rfl))) (Or.inr (hw _ (List.mem_of_getElem? (i := 20) rfl))) (by decide) (t := .long) (t' := .long) (by decide) (by decide)))
  have F_33 : Fld Z h29 a "com/example/tinyward/tinyward/CacheStats" "missCount" "J" (.long q2) := F_21.other W29 (Or.inr (slot_ne (Or.inr (hw _ (List.mem_of_getElem? (i := 18) rfl))) (Or.inr (hw _ (List.mem_of_getElem? (i := 20) rfl))) (by decide) (t := .long) (t' := .long) (by decide) (by decide)))
  have F_34 : Fld Z h29 a "com/example/tinyward/tinyward/CacheStats" "loadSuccessCount" "J" (.long q3) := F_22.same W29
  have F_35 : Fld Z h29 a "com/example/tinyward/tinyward/CacheStats" "loadFailureCount" "J" (.long (0 : Int64)) := F_23.other W29 (Or.inr (slot_ne (Or.inr (hw _ (List.mem_of_getElem? (i := 22) rfl))) (Or.inr (hw _ (List.mem_of_getElem? (i := 20) rfl))) (by decide) (t := .long) (t' := .long) (by decide) (by decide)))
  have F_36 : Fld Z h29 a "com/example/tinyward/tinyward/CacheStats" "totalLoadTime" "J" (.long (0 : Int64)) := F_24.other W29 (Or.inr (slot_ne (Or.inr (hw _ (List.mem_of_getElem? (i := 24) rfl))) (Or.inr (hw _ (List.mem_of_getElem? (i := 20) rfl))) (by decide) (t := .long) (t' := .long) (by decide) (by decide)))
  have F_37 : Fld Z h29 a "com/example/tinyward/tinyward/CacheStats" "evictionCount" "J" (.long (0 : Int64)) := F_25.other W29 (Or.inr (slot_ne (Or.inr (hw _ (List.mem_of_getElem? (i := 26) rfl))) (Or.inr (hw _ (List.mem_of_getElem? (i := 20) rfl))) (by decide) (t := .long) (t' := .long) (by decide) (by decide)))
  have K_38 : Keep h0 h29 [a] := K_26.wr W29 (Or.inl (List.mem_of_getElem? (i := 0) rfl))
  have P39 : own_Rch p.tables e below A0 (T29.setTop (mkF m 20 (own_L0 a q1 q2 q3 q4 q5 q6) [])) := fun t k => P28 t (st29 t k)
  have P40 : own_Rch p.tables e below A0 (T29.setTop (mkF m 23 (own_L0 a q1 q2 q3 q4 q5 q6) [(.long q4), (.ref a)])) := fun t k => P39 t (by
    show Steps p.tables e below (T29.setTop (mkF m 20 (own_L0 a q1 q2 q3 q4 q5 q6) [])) _
    refine XS.aloadN X29.here hx rfl (hb hby d1_20) rfl rfl ?_
    show Steps p.tables e below (T29.setTop (mkF m 21 (own_L0 a q1 q2 q3 q4 q5 q6) [(.ref a)])) _
    refine XS.lload X29.here hx rfl (hb hby d1_21) rfl ?_
    exact k)
  obtain ⟨T41, h41, X41, e41, W41, st41⟩ := putF X29 hx hZ hown (host := "") (Or.inl (hw _ (List.mem_of_getElem? (i := 21) rfl))) Via.refl e29 F_35 E_31 (Or.inr ⟨(hw _ (List.mem_of_getElem? (i := 22) rfl)), rfl, hnm⟩) (hw _ (List.mem_of_getElem? (i := 2) rfl)) (ty := .long) (by decide) rfl rfl (g := (mkF m 23 (own_L0 a q1 q2 q3 q4 q5 q6) [(.long q4), (.ref a)])) rfl rfl (hb hby d1_23)
  have N41 := Fr.snoc X41 N29 g_a
  have Z_42 : n0 ≤ h41.size := Nat.le_trans Z_30 (Keep.of_wr W41).1
  have E_43 : Exa Z h41 a "com/example/tinyward/tinyward/CacheStats" := E_31.wr W41
  have F_44 : Fld Z h41 a "com/example/tinyward/tinyward/CacheStats" "hitCount" "J" (.long q1) := F_32.other W41 (Or.inr (slot_ne (Or.inr (hw _ (List.mem_of_getElem? (i := 16) rfl))) (Or.inr (hw _ (List.mem_of_getElem? (i := 22) rfl))) (by decide) (t := .long) (t' := .long) (by decide) (by decide)))
  have F_45 : Fld Z h41 a "com/example/tinyward/tinyward/CacheStats" "missCount" "J" (.long q2) := F_33.other W41 (Or.inr (slot_ne (Or.inr (hw _ (List.mem_of_getElem? (i := 18) rfl))) (Or.inr (hw _ (List.mem_of_getElem? (i := 22) rfl))) (by decide) (t := .long) (t' := .long) (by decide) (by decide)))
  have F_46 : Fld Z h41 a "com/example/tinyward/tinyward/CacheStats" "loadSuccessCount" "J" (.long q3) := F_34.other W41 (Or.inr (slot_ne (Or.inr (hw _ (List.mem_of_getElem? (i := 20) rfl))) (Or.inr (hw _ (List.mem_of_getElem? (i := 22) rfl))) (by decide) (t := .long) (t' := .long) (by decide) (by decide)))
  have F_47 : Fld Z h41 a "com/example/tinyward/tinyward/CacheStats" "loadFailureCount" "J" (.long q4) := F_35.same W41
  have F_48 : Fld Z h41 a "com/example/tinyward/tinyward/CacheStats" "totalLoadTime" "J" (.long (0 : Int64)) := F_36.other W41 (Or.inr (slot_ne (Or.inr (hw _ (List.mem_of_getElem? (i := 24) rfl))) (Or.inr (hw _ (List.mem_of_getElem? (i := 22) rfl))) (by decide) (t := .long) (t' := .long) (by decide) (by decide)))
  have F_49 : Fld Z h41 a "com/example/tinyward/tinyward/CacheStats" "evictionCount" "J" (.long (0 : Int64)) := F_37.other W41 (Or.inr (slot_ne (Or.inr (hw _ (List.mem_of_getElem? (i := 26) rfl))) (Or.inr (hw _ (List.mem_of_getElem? (i := 22) rfl))) (by decide) (t := .long) (t' := .long) (by decide) (by decide)))
  have K_50 : Keep h0 h41 [a] := K_38.wr W41 (Or.inl (List.mem_of_getElem? (i := 0) rfl))
  have P51 : own_Rch p.tables e below A0 (T41.setTop (mkF m 26 (own_L0 a q1 q2 q3 q4 q5 q6) [])) := fun t k => P40 t (st41 t k)
  have P52 : own_Rch p.tables e below A0 (T41.setTop (mkF m 29 (own_L0 a q1 q2 q3 q4 q5 q6) [(.long q5), (.ref a)])) := fun t k => P51 t (by
    show Steps p.tables e below (T41.setTop (mkF m 26 (own_L0 a q1 q2 q3 q4 q5 q6) [])) _
    refine XS.aloadN X41.here hx rfl (hb hby d1_26) rfl rfl ?_
    show Steps p.tables e below (T41.setTop (mkF m 27 (own_L0 a q1 q2 q3 q4 q5 q6) [(.ref a)])) _
    refine XS.lload X41.here hx rfl (hb hby d1_27) rfl ?_
    exact k)
  obtain ⟨T53, h53, X53, e53, W53, st53⟩ := putF X41 hx hZ hown (host := "") (Or.inl (hw _ (List.mem_of_getElem? (i := 23) rfl))) Via.refl e41 F_48 E_43 (Or.inr ⟨(hw _ (List.mem_of_getElem? (i := 24) rfl)), rfl, hnm⟩) (hw _ (List.mem_of_getElem? (i := 2) rfl)) (ty := .long) (by decide) rfl rfl (g := (mkF m 29 (own_L0 a q1 q2 q3 q4 q5 q6) [(.long q5), (.ref a)])) rfl rfl (hb hby d1_29)
  have N53 := Fr.snoc X53 N41 g_a
  have Z_54 : n0 ≤ h53.size := Nat.le_trans Z_42 (Keep.of_wr W53).1
  have E_55 : Exa Z h53 a "com/example/tinyward/tinyward/CacheStats" := E_43.wr W53
  have F_56 : Fld Z h53 a "com/example/tinyward/tinyward/CacheStats" "hitCount" "J" (.long q1) := F_44.other W53 (Or.inr (slot_ne (Or.inr (hw _ (List.mem_of_getElem? (i := 16) rfl))) (Or.inr (hw _ (List.mem_of_getElem? (i := 24) rfl))) (by decide) (t := .long) (t' := .long) (by decide) (by decide)))
  have F_57 : Fld Z h53 a "com/example/tinyward/tinyward/CacheStats" "missCount" "J" (.long q2) := F_45.other W53 (Or.inr (slot_ne (Or.inr (hw _ (List.mem_of_getElem? (i := 18) rfl))) (Or.inr (hw _ (List.mem_of_getElem? (i := 24) rfl))) (by decide) (t := .long) (t' := .long) (by decide) (by decide)))
  have F_58 : Fld Z h53 a "com/example/tinyward/tinyward/CacheStats" "loadSuccessCount" "J" (.long q3) := F_46.other W53 (Or.inr (slot_ne (Or.inr (hw _ (List.mem_of_getElem? (i := 20) rfl))) (Or.inr (hw _ (List.mem_of_getElem? (i := 24) rfl))) (by decide) (t := .long) (t' := .long) (by decide) (by decide)))
  have F_59 : Fld Z h53 a "com/example/tinyward/tinyward/CacheStats" "loadFailureCount" "J" (.long q4) := F_47.other W53 (Or.inr (slot_ne (Or.inr (hw _ (List.mem_of_getElem? (i := 22) rfl))) (Or.inr (hw _ (List.mem_of_getElem? (i := 24) rfl))) (by decide) (t := .long) (t' := .long) (by decide) (by decide)))
  have F_60 : Fld Z h53 a "com/example/tinyward/tinyward/CacheStats" "totalLoadTime" "J" (.long q5) := F_48.same W53
  have F_61 : Fld Z h53 a "com/example/tinyward/tinyward/CacheStats" "evictionCount" "J" (.long (0 : Int64)) := F_49.other W53 (Or.inr (slot_ne (Or.inr (hw _ (List.mem_of_getElem? (i := 26) rfl))) (Or.inr (hw _ (List.mem_of_getElem? (i := 24) rfl))) (by decide) (t := .long) (t' := .long) (by decide) (by decide)))
  have K_62 : Keep h0 h53 [a] := K_50.wr W53 (Or.inl (List.mem_of_getElem? (i := 0) rfl))
  have P63 : own_Rch p.tables e below A0 (T53.setTop (mkF m 32 (own_L0 a q1 q2 q3 q4 q5 q6) [])) := fun t k => P52 t (st53 t k)
  have P64 : own_Rch p.tables e below A0 (T53.setTop (mkF m 35 (own_L0 a q1 q2 q3 q4 q5 q6) [(.long q6), (.ref a)])) := fun t k => P63 t (by
    show Steps p.tables e below (T53.setTop (mkF m 32 (own_L0 a q1 q2 q3 q4 q5 q6) [])) _
    refine XS.aloadN X53.here hx rfl (hb hby d1_32) rfl rfl ?_
    show Steps p.tables e below (T53.setTop (mkF m 33 (own_L0 a q1 q2 q3 q4 q5 q6) [(.ref a)])) _
    refine XS.lload X53.here hx rfl (hb hby d1_33) rfl ?_
    exact k)
  obtain ⟨T65, h65, X65, e65, W65, st65⟩ := putF X53 hx hZ hown (host := "") (Or.inl (hw _ (List.mem_of_getElem? (i := 25) rfl))) Via.refl e53 F_61 E_55 (Or.inr ⟨(hw _ (List.mem_of_getElem? (i := 26) rfl)), rfl, hnm⟩) (hw _ (List.mem_of_getElem? (i := 2) rfl)) (ty := .long) (by decide) rfl rfl (g := (mkF m 35 (own_L0 a q1 q2 q3 q4 q5 q6) [(.long q6), (.ref a)])) rfl rfl (hb hby d1_35)
  have N65 := Fr.snoc X65 N53 g_a
  have Z_66 : n0 ≤ h65.size := Nat.le_trans Z_54 (Keep.of_wr W65).1
  have E_67 : Exa Z h65 a "com/example/tinyward/tinyward/CacheStats" := E_55.wr W65
  have F_68 : Fld Z h65 a "com/example/tinyward/tinyward/CacheStats" "hitCount" "J" (.long q1) := F_56.other W65 (Or.inr (slot_ne (Or.inr (hw _ (List.mem_of_getElem? (i := 16) rfl))) (Or.inr (hw _ (List.mem_of_getElem? (i := 26) rfl))) (by decide) (t := .long) (t' := .long) (by decide) (by decide)))
  have F_69 : Fld Z h65 a "com/example/tinyward/tinyward/CacheStats" "missCount" "J" (.long q2) := F_57.other W65 (Or.inr (slot_ne (Or.inr (hw _ (List.mem_of_getElem? (i := 18) rfl))) (Or.inr (hw _ (List.mem_of_getElem? (i := 26) rfl))) (by decide) (t := .long) (t' := .long) (by decide) (by decide)))
  have F_70 : Fld Z h65 a "com/example/tinyward/tinyward/CacheStats" "loadSuccessCount" "J" (.long q3) := F_58.other W65 (Or.inr (slot_ne (Or.inr (hw _ (List.mem_of_getElem? (i := 20) rfl))) (Or.inr (hw _ (List.mem_of_getElem? (i := 26) rfl))) (by decide) (t := .long) (t' := .long) (by decide) (by decide)))
  have F_71 : Fld Z h65 a "com/example/tinyward/tinyward/CacheStats" "loadFailureCount" "J" (.long q4) := F_59.other W65 (Or.inr (slot_ne (Or.inr (hw _ (List.mem_of_getElem? (i := 22) rfl))) (Or.inr (hw _ (List.mem_of_getElem? (i := 26) rfl))) (by decide) (t := .long) (t' := .long) (by decide) (by decide)))
  have F_72 : Fld Z h65 a "com/example/tinyward/tinyward/CacheStats" "totalLoadTime" "J" (.long q5) := F_60.other W65 (Or.inr (slot_ne (Or.inr (hw _ (List.mem_of_getElem? (i := 24) rfl))) (Or.inr (hw _ (List.mem_of_getElem? (i := 26) rfl))) (by decide) (t := .long) (t' := .long) (by decide) (by decide)))
  have F_73 : Fld Z h65 a "com/example/tinyward/tinyward/CacheStats" "evictionCount" "J" (.long q6) := F_61.same W65
  have K_74 : Keep h0 h65 [a] := K_62.wr W65 (Or.inl (List.mem_of_getElem? (i := 0) rfl))
  have P75 : own_Rch p.tables e below A0 (T65.setTop (mkF m 38 (own_L0 a q1 q2 q3 q4 q5 q6) [])) := fun t k => P64 t (st65 t k)
  obtain ⟨fs, hr, hrun, hended, hW, hsame⟩ := X65.leave (v := none) (fun _ => rfl)
  refine ⟨_, _, P00 _ (P75 _ ?_), hrun, hended, _, _, rfl, ?_, ⟨_, rfl⟩, hW, hsame.mono (by decide) (by decide)⟩
  · exact X65.returnOut hx Bd.returns (hb hby d1_38) hr
  · show Q1 Z a q1 q2 q3 q4 q5 q6 h0 n0 _ T65.heap _
    rw [e65]
    refine ⟨?_, N65, K_74, E_67, F_68, F_69⟩
    rfl
theorem d4_0 : decode prog_19_method_2_code 0 = .ok (.aload_n 0, 1) := by decide +kernel
theorem d4_1 : decode prog_19_method_2_code 1 = .ok (.getfield 7, 3) := by decide +kernel
theorem d4_4 : decode prog_19_method_2_code 4 = .ok (.aload_n 0, 1) := by decide +kernel
theorem d4_5 : decode prog_19_method_2_code 5 = .ok (.getfield 13, 3) := by decide +kernel
theorem d4_8 : decode prog_19_method_2_code 8 = .ok (.ladd, 1) := by decide +kernel
theorem d4_9 : decode prog_19_method_2_code 9 = .ok (.lstore_n 1, 1) := by decide +kernel
theorem d4_10 : decode prog_19_method_2_code 10 = .ok (.lload_n 1, 1) := by decide +kernel
theorem d4_11 : decode prog_19_method_2_code 11 = .ok (.lconst 0, 1) := by decide +kernel
theorem d4_12 : decode prog_19_method_2_code 12 = .ok (.lcmp, 1) := by decide +kernel
theorem d4_13 : decode prog_19_method_2_code 13 = .ok (.ifCond .ne 7, 3) := by decide +kernel
theorem d4_16 : decode prog_19_method_2_code 16 = .ok (.dconst 1, 1) := by decide +kernel
theorem d4_17 : decode prog_19_method_2_code 17 = .ok (.goto 11, 3) := by decide +kernel
theorem d4_20 : decode prog_19_method_2_code 20 = .ok (.aload_n 0, 1) := by decide +kernel
theorem d4_21 : decode prog_19_method_2_code 21 = .ok (.getfield 7, 3) := by decide +kernel
theorem d4_24 : decode prog_19_method_2_code 24 = .ok (.l2d, 1) := by decide +kernel
theorem d4_25 : decode prog_19_method_2_code 25 = .ok (.lload_n 1, 1) := by decide +kernel
theorem d4_26 : decode prog_19_method_2_code 26 = .ok (.l2d, 1) := by decide +kernel
theorem d4_27 : decode prog_19_method_2_code 27 = .ok (.ddiv, 1) := by decide +kernel
theorem d4_28 : decode prog_19_method_2_code 28 = .ok (.dreturn, 1) := by decide +kernel
def own_hr (wh : Int64) (wm : Int64) : UInt64 := (if (wh + wm) = (0 : Int64) then FP.dconst1 else (FP.ddiv (FP.l2d wh) (FP.l2d (wh + wm))))
theorem ef_4 (m : MethodId) (a : Addr) : entryFrame m #[(.ref a)] 3 = mkF m 0 #[.val (.ref a), .unset, .unset] [] := by first | (simp [entryFrame, mkF, argsToLocals, Value.category]; done) | rfl
def Q4 (Z : State) (a : Addr) (wh : Int64) (wm : Int64) (h0 : Heap) (n0 : Nat) (v : Option Value) (h : Heap) (L : List Loc) : Prop := v = some (.double (own_hr wh wm)) ∧ Fr n0 L ∧ h = h0
set_option maxRecDepth 65536 in
set_option maxHeartbeats 40000000 in
theorem rm4 (l : Launch) (Z : State) (a0 : Array Value) (hw : ∀ d ∈ tables_1, d.before a0 Z = true) (ws : List Jvm.Cond) (a : Addr) (wh : Int64) (wm : Int64) (h0 : Heap) (n0 : Nat) (Z0 : n0 ≤ h0.size) (F_h : Fld Z h0 a "com/example/tinyward/tinyward/CacheStats" "hitCount" "J" (.long wh)) (F_m : Fld Z h0 a "com/example/tinyward/tinyward/CacheStats" "missCount" "J" (.long wm)) (hnn : ¬ (wh + wm) = 0 → Jvm.Free.Fl.NoNaN64 (FP.ddiv (FP.l2d wh) (FP.l2d (wh + wm)))) :
    MetFree l (⟨"com/example/tinyward/tinyward/CacheStats", "hitRate", "()D"⟩ : MethodName) (head1 (Jvm.Cond.code (⟨"com/example/tinyward/tinyward/CacheStats", "hitRate", "()D"⟩ : MethodName) prog_19_method_2_code 3 (some .double) :: ws) ({ frames := 0, cells := 0, slots := 0, locals := 0 } : Room)) (fun a' U => a' = #[(.ref a)] ∧ Z.Warmed39 U.vm ∧ U.heap = h0) (fun _ _ _ _ _ => True) (fun _ U o' U' => ∃ v L, o' = .returned v ∧ Q4 Z a wh wm h0 n0 v U'.heap L ∧ FrameEnd U o' U' L ({ frames := 0, cells := 0, slots := 0, locals := 0 } : Room).cells ({ frames := 0, cells := 0, slots := 0, locals := 0 } : Room).slots) := by
  refine MetFree.of_bodySF (plainFor_of_name pn_1) hisR ?_
  intro p e s m args' below meth c s₁ Bd hml0 hP hK
  obtain ⟨hargs, hZ, hh⟩ := hP
  have hx := Bd.exec
  have hby := Bd.bytes
  have hml : c.maxLocals = 3 := hml0
  have hown : s.vm.findClass "com/example/tinyward/tinyward/CacheStats" = some m.cls := findClass_of_methodNamed Bd.named
  have hnm := (name_of_methodNamed Bd.named Bd.method).1
  have X0 : Stand p l e ({ frames := 0, cells := 0, slots := 0, locals := 0 } : Room) s m args' below meth c s₁ [] 0 0 := Stand.of_body Bd
  have e0 : s₁.heap = h0 := by rw [← hh, Bd.state]; rfl
  have N0 := Fr.nil n0
  obtain ⟨A0, hA0⟩ : ∃ A, A = s₁.setTop (mkF m 0 #[.val (.ref a), .unset, .unset] []) := ⟨_, rfl⟩
  have P0 : own_Rch p.tables e below A0 (s₁.setTop (mkF m 0 #[.val (.ref a), .unset, .unset] [])) := fun t k => hA0 ▸ k
  have P00 : own_Rch p.tables e below (s₁.setTop (entryFrame m args' 3)) A0 := fun t k => by rw [hargs]; exact castTop (ef_4 m a) (hA0 ▸ k)
  have P1 : own_Rch p.tables e below A0 (s₁.setTop (mkF m 1 #[.val (.ref a), .unset, .unset] [(.ref a)])) := fun t k => P0 t (by
    show Steps p.tables e below (s₁.setTop (mkF m 0 #[.val (.ref a), .unset, .unset] [])) _
    refine XS.aloadN X0.here hx rfl (hb hby d4_0) rfl rfl ?_
    exact k)
  obtain ⟨T2, X2, e2, st2⟩ := getF X0 hx hZ hown (host := "") (Or.inl (hw _ (List.mem_of_getElem? (i := 15) rfl))) Via.refl e0 F_h (g := (mkF m 1 #[.val (.ref a), .unset, .unset] [(.ref a)])) rfl rfl (hb hby d4_1)
  have P3 : own_Rch p.tables e below A0 (T2.setTop (mkF m 4 #[.val (.ref a), .unset, .unset] [(.long wh)])) := fun t k => P1 t (st2 t k)
  have P4 : own_Rch p.tables e below A0 (T2.setTop (mkF m 5 #[.val (.ref a), .unset, .unset] [(.ref a), (.long wh)])) := fun t k => P3 t (by
    show Steps p.tables e below (T2.setTop (mkF m 4 #[.val (.ref a), .unset, .unset] [(.long wh)])) _
    refine XS.aloadN X2.here hx rfl (hb hby d4_4) rfl rfl ?_
    exact k)
  obtain ⟨T5, X5, e5, st5⟩ := getF X2 hx hZ hown (host := "") (Or.inl (hw _ (List.mem_of_getElem? (i := 17) rfl))) Via.refl e2 F_m (g := (mkF m 5 #[.val (.ref a), .unset, .unset] [(.ref a), (.long wh)])) rfl rfl (hb hby d4_5)
  have P6 : own_Rch p.tables e below A0 (T5.setTop (mkF m 8 #[.val (.ref a), .unset, .unset] [(.long wm), (.long wh)])) := fun t k => P4 t (st5 t k)
  have P8 : own_Rch p.tables e below A0 (T5.setTop (mkF m 13 #[.val (.ref a), .val (.long (wh + wm)), .second] [(.int (lcmpW (wh + wm) (0 : Int64)))])) := fun t k => P6 t (by
    show Steps p.tables e below (T5.setTop (mkF m 8 #[.val (.ref a), .unset, .unset] [(.long wm), (.long wh)])) _
    refine XS.ladd X5.here hx rfl (hb hby d4_8) rfl ?_
    show Steps p.tables e below (T5.setTop (mkF m 9 #[.val (.ref a), .unset, .unset] [(.long (wh + wm))])) _
    refine XS.lstoreN X5.here hx rfl (hb hby d4_9) rfl (l' := #[.val (.ref a), .val (.long (wh + wm)), .second]) rfl ?_
    show Steps p.tables e below (T5.setTop (mkF m 10 #[.val (.ref a), .val (.long (wh + wm)), .second] [])) _
    refine XS.lloadN X5.here hx rfl (hb hby d4_10) rfl ?_
    show Steps p.tables e below (T5.setTop (mkF m 11 #[.val (.ref a), .val (.long (wh + wm)), .second] [(.long (wh + wm))])) _
    refine XS.lconst X5.here hx rfl (hb hby d4_11) ?_
    show Steps p.tables e below (T5.setTop (mkF m 12 #[.val (.ref a), .val (.long (wh + wm)), .second] [(.long (0 : Int64)), (.long (wh + wm))])) _
    refine XS.lcmp X5.here hx rfl (hb hby d4_12) rfl ?_
    exact k)
  by_cases hc7 : (wh + wm) = (0 : Int64)
  · -- (wh + wm) = (0 : Int64)
    have P9 : own_Rch p.tables e below A0 (T5.setTop (mkF m 28 #[.val (.ref a), .val (.long (wh + wm)), .second] [(.double FP.dconst1)])) := fun t k => P8 t (by
      show Steps p.tables e below (T5.setTop (mkF m 13 #[.val (.ref a), .val (.long (wh + wm)), .second] [(.int (lcmpW (wh + wm) (0 : Int64)))])) _
      refine XS.ifNo X5.here hx rfl (hb hby d4_13) rfl (own_lct3 hc7).2 ?_
      show Steps p.tables e below (T5.setTop (mkF m 16 #[.val (.ref a), .val (.long (wh + wm)), .second] [])) _
      refine XS.dconst1 X5.here hx rfl (hb hby d4_16) rfl ?_
      show Steps p.tables e below (T5.setTop (mkF m 17 #[.val (.ref a), .val (.long (wh + wm)), .second] [(.double FP.dconst1)])) _
      refine XS.goto X5.here hx rfl (pc0 := 17) (pc' := 28) rfl (hb hby d4_17) (by decide) (by decide) ?_
      exact k)
    obtain ⟨fs, hr, hrun, hended, hW, hsame⟩ := X5.leave (v := some (.double FP.dconst1)) (fun h => by rw [Bd.returns] at h; cases h)
    refine ⟨_, _, P00 _ (P9 _ ?_), hrun, hended, _, _, rfl, ?_, ⟨_, rfl⟩, hW, hsame.mono (by decide) (by decide)⟩
    · exact retOut X5 hx (t := .double) Bd.returns rfl (Or.inr (Or.inr (Or.inl ⟨rfl, rfl, _, rfl⟩))) (hb hby d4_28) hr
    · show Q4 Z a wh wm h0 n0 _ T5.heap _
      rw [e5]
      refine ⟨?_, N0, rfl⟩
      skip
      (try simp only [own_hr, if_pos hc7])
      (try rfl)
  · -- not (wh + wm) = (0 : Int64)
    have P10 : own_Rch p.tables e below A0 (T5.setTop (mkF m 21 #[.val (.ref a), .val (.long (wh + wm)), .second] [(.ref a)])) := fun t k => P8 t (by
      show Steps p.tables e below (T5.setTop (mkF m 13 #[.val (.ref a), .val (.long (wh + wm)), .second] [(.int (lcmpW (wh + wm) (0 : Int64)))])) _
      refine XS.ifYes X5.here hx rfl (pc0 := 13) (pc' := 20) rfl (hb hby d4_13) rfl (own_lcf3 hc7).2 (by decide) (by decide) ?_
      show Steps p.tables e below (T5.setTop (mkF m 20 #[.val (.ref a), .val (.long (wh + wm)), .second] [])) _
      refine XS.aloadN X5.here hx rfl (hb hby d4_20) rfl rfl ?_
      exact k)
    obtain ⟨T11, X11, e11, st11⟩ := getF X5 hx hZ hown (host := "") (Or.inl (hw _ (List.mem_of_getElem? (i := 15) rfl))) Via.refl e5 F_h (g := (mkF m 21 #[.val (.ref a), .val (.long (wh + wm)), .second] [(.ref a)])) rfl rfl (hb hby d4_21)
    have P12 : own_Rch p.tables e below A0 (T11.setTop (mkF m 24 #[.val (.ref a), .val (.long (wh + wm)), .second] [(.long wh)])) := fun t k => P10 t (st11 t k)
    have P13 : own_Rch p.tables e below A0 (T11.setTop (mkF m 28 #[.val (.ref a), .val (.long (wh + wm)), .second] [(.double (FP.ddiv (FP.l2d wh) (FP.l2d (wh + wm))))])) := fun t k => P12 t (by
      show Steps p.tables e below (T11.setTop (mkF m 24 #[.val (.ref a), .val (.long (wh + wm)), .second] [(.long wh)])) _
      refine XS.l2dS X11.here hx rfl (hb hby d4_24) rfl rfl ?_
      show Steps p.tables e below (T11.setTop (mkF m 25 #[.val (.ref a), .val (.long (wh + wm)), .second] [(.double (FP.l2d wh))])) _
      refine XS.lloadN X11.here hx rfl (hb hby d4_25) rfl ?_
      show Steps p.tables e below (T11.setTop (mkF m 26 #[.val (.ref a), .val (.long (wh + wm)), .second] [(.long (wh + wm)), (.double (FP.l2d wh))])) _
      refine XS.l2dS X11.here hx rfl (hb hby d4_26) rfl rfl ?_
      show Steps p.tables e below (T11.setTop (mkF m 27 #[.val (.ref a), .val (.long (wh + wm)), .second] [(.double (FP.l2d (wh + wm))), (.double (FP.l2d wh))])) _
      refine XS.ddivS X11.here hx rfl (hb hby d4_27) rfl (hnn hc7) rfl ?_
      exact k)
    obtain ⟨fs, hr, hrun, hended, hW, hsame⟩ := X11.leave (v := some (.double (FP.ddiv (FP.l2d wh) (FP.l2d (wh + wm))))) (fun h => by rw [Bd.returns] at h; cases h)
    refine ⟨_, _, P00 _ (P13 _ ?_), hrun, hended, _, _, rfl, ?_, ⟨_, rfl⟩, hW, hsame.mono (by decide) (by decide)⟩
    · exact retOut X11 hx (t := .double) Bd.returns rfl (Or.inr (Or.inr (Or.inl ⟨rfl, rfl, _, rfl⟩))) (hb hby d4_28) hr
    · show Q4 Z a wh wm h0 n0 _ T11.heap _
      rw [e11]
      refine ⟨?_, N0, rfl⟩
      skip
      (try simp only [own_hr, if_neg hc7])
      (try rfl)
theorem d5_0 : decode jdk_29_method_69_code 0 = .ok (.iload_n 0, 1) := by decide +kernel
theorem d5_1 : decode jdk_29_method_69_code 1 = .ok (.iload_n 1, 1) := by decide +kernel
theorem d5_2 : decode jdk_29_method_69_code 2 = .ok (.if_icmp .gt 7, 3) := by decide +kernel
theorem d5_5 : decode jdk_29_method_69_code 5 = .ok (.iload_n 0, 1) := by decide +kernel
theorem d5_6 : decode jdk_29_method_69_code 6 = .ok (.goto 4, 3) := by decide +kernel
theorem d5_9 : decode jdk_29_method_69_code 9 = .ok (.iload_n 1, 1) := by decide +kernel
theorem d5_10 : decode jdk_29_method_69_code 10 = .ok (.ireturn, 1) := by decide +kernel
def own_min (q1 : Int32) (q2 : Int32) : Int32 := (if q2 < q1 then q2 else q1)
theorem ef_5 (m : MethodId) (q1 : Int32) (q2 : Int32) : entryFrame m #[(.int q1), (.int q2)] 2 = mkF m 0 #[.val (.int q1), .val (.int q2)] [] := by first | (simp [entryFrame, mkF, argsToLocals, Value.category]; done) | rfl
def Q5 (Z : State) (q1 : Int32) (q2 : Int32) (h0 : Heap) (n0 : Nat) (v : Option Value) (h : Heap) (L : List Loc) : Prop := v = some (.int (own_min q1 q2)) ∧ Fr n0 L ∧ h = h0
set_option maxRecDepth 65536 in
set_option maxHeartbeats 40000000 in
theorem rm5 (l : Launch) (Z : State) (a0 : Array Value) (hw : ∀ d ∈ tables_1, d.before a0 Z = true) (ws : List Jvm.Cond) (q1 : Int32) (q2 : Int32) (h0 : Heap) (n0 : Nat) (Z0 : n0 ≤ h0.size) :
    MetFree l (⟨"java/lang/Math", "min", "(II)I"⟩ : MethodName) (head1 (Jvm.Cond.code (⟨"java/lang/Math", "min", "(II)I"⟩ : MethodName) jdk_29_method_69_code 2 (some .int) :: ws) ({ frames := 0, cells := 0, slots := 0, locals := 0 } : Room)) (fun a' U => a' = #[(.int q1), (.int q2)] ∧ Z.Warmed39 U.vm ∧ U.heap = h0) (fun _ _ _ _ _ => True) (fun _ U o' U' => ∃ v L, o' = .returned v ∧ Q5 Z q1 q2 h0 n0 v U'.heap L ∧ FrameEnd U o' U' L ({ frames := 0, cells := 0, slots := 0, locals := 0 } : Room).cells ({ frames := 0, cells := 0, slots := 0, locals := 0 } : Room).slots) := by
  refine MetFree.of_bodySF (Jvm.Free.JP.mathPlain rfl (by decide +kernel)) hisR ?_
  intro p e s m args' below meth c s₁ Bd hml0 hP hK
  obtain ⟨hargs, hZ, hh⟩ := hP
  have hx := Bd.exec
  have hby := Bd.bytes
  have hml : c.maxLocals = 2 := hml0
  have hown : s.vm.findClass "java/lang/Math" = some m.cls := findClass_of_methodNamed Bd.named
  have hnm := (name_of_methodNamed Bd.named Bd.method).1
  have X0 : Stand p l e ({ frames := 0, cells := 0, slots := 0, locals := 0 } : Room) s m args' below meth c s₁ [] 0 0 := Stand.of_body Bd
  have e0 : s₁.heap = h0 := by rw [← hh, Bd.state]; rfl
  have N0 := Fr.nil n0
  obtain ⟨A0, hA0⟩ : ∃ A, A = s₁.setTop (mkF m 0 #[.val (.int q1), .val (.int q2)] []) := ⟨_, rfl⟩
  have P0 : own_Rch p.tables e below A0 (s₁.setTop (mkF m 0 #[.val (.int q1), .val (.int q2)] [])) := fun t k => hA0 ▸ k
  have P00 : own_Rch p.tables e below (s₁.setTop (entryFrame m args' 2)) A0 := fun t k => by rw [hargs]; exact castTop (ef_5 m q1 q2) (hA0 ▸ k)
  have P2 : own_Rch p.tables e below A0 (s₁.setTop (mkF m 2 #[.val (.int q1), .val (.int q2)] [(.int q2), (.int q1)])) := fun t k => P0 t (by
    show Steps p.tables e below (s₁.setTop (mkF m 0 #[.val (.int q1), .val (.int q2)] [])) _
    refine XS.iloadN X0.here hx rfl (hb hby d5_0) rfl ?_
    show Steps p.tables e below (s₁.setTop (mkF m 1 #[.val (.int q1), .val (.int q2)] [(.int q1)])) _
    refine XS.iloadN X0.here hx rfl (hb hby d5_1) rfl ?_
    exact k)
  obtain ⟨v4, hv4⟩ : ∃ z : Int32, z = (if q2 < q1 then q2 else q1) := ⟨_, rfl⟩
  have P5 : own_Rch p.tables e below A0 (s₁.setTop (mkF m 10 #[.val (.int q1), .val (.int q2)] [(.int v4)])) := fun t k => P2 t (by
    by_cases hc3 : q2 < q1
    · show Steps p.tables e below (s₁.setTop (mkF m 2 #[.val (.int q1), .val (.int q2)] [(.int q2), (.int q1)])) _
      refine XS.icmpYes X0.here hx rfl (pc0 := 2) (pc' := 9) rfl (hb hby d5_2) rfl (tlt hc3).2.2.1 (by decide) (by decide) ?_
      have qv4 : v4 = q2 := by rw [hv4]; simp only [if_pos hc3]
      rw [qv4] at k
      show Steps p.tables e below (s₁.setTop (mkF m 9 #[.val (.int q1), .val (.int q2)] [])) _
      refine XS.iloadN X0.here hx rfl (hb hby d5_9) rfl ?_
      exact k
    · show Steps p.tables e below (s₁.setTop (mkF m 2 #[.val (.int q1), .val (.int q2)] [(.int q2), (.int q1)])) _
      refine XS.icmpNo X0.here hx rfl (hb hby d5_2) rfl (flt hc3).2.2.1 ?_
      have qv4 : v4 = q1 := by rw [hv4]; simp only [if_neg hc3]
      rw [qv4] at k
      show Steps p.tables e below (s₁.setTop (mkF m 5 #[.val (.int q1), .val (.int q2)] [])) _
      refine XS.iloadN X0.here hx rfl (hb hby d5_5) rfl ?_
      show Steps p.tables e below (s₁.setTop (mkF m 6 #[.val (.int q1), .val (.int q2)] [(.int q1)])) _
      refine XS.goto X0.here hx rfl (pc0 := 6) (pc' := 10) rfl (hb hby d5_6) (by decide) (by decide) ?_
      exact k)
  obtain ⟨fs, hr, hrun, hended, hW, hsame⟩ := X0.leave (v := some (.int v4)) (fun h => by rw [Bd.returns] at h; cases h)
  refine ⟨_, _, P00 _ (P5 _ ?_), hrun, hended, _, _, rfl, ?_, ⟨_, rfl⟩, hW, hsame.mono (by decide) (by decide)⟩
  · exact retOut X0 hx (t := .int) Bd.returns rfl (Or.inl ⟨rfl, Or.inl rfl, _, rfl⟩) (hb hby d5_10) hr
  · show Q5 Z q1 q2 h0 n0 _ s₁.heap _
    rw [e0]
    refine ⟨?_, N0, rfl⟩
    subst hv4
    (try simp only [own_min])
    (try rfl)
theorem own_nat64 (x : Int64) : x.toInt = (x.toBitVec.toNat : Int) ∨ x.toInt < 0 := by
  by_cases h : x.toBitVec.msb = false
  · exact Or.inl (BitVec.toInt_eq_toNat_of_msb h)
  · refine Or.inr ?_
    have h' : x.toBitVec.msb = true := by simpa using h
    exact BitVec.toInt_neg_of_msb_true h'
theorem own_of64 {x : Int64} {n : Nat} (h : x.toBitVec.toNat = n) (hn : n < 2 ^ 63) : x.toInt = n := by
  have hm : x.toBitVec.msb = false := by rw [BitVec.msb_eq_false_iff_two_mul_lt]; omega
  show x.toBitVec.toInt = _
  rw [BitVec.toInt_eq_toNat_of_msb hm, h]
theorem own_band (x k : Int64) {n : Nat} (hk : k.toBitVec.toNat = n) (hn : n < 2 ^ 63) : 0 ≤ (x &&& k).toInt ∧ (x &&& k).toInt ≤ n := by
  have h : (x &&& k).toBitVec.toNat ≤ n := by rw [Int64.toBitVec_and, BitVec.toNat_and, ← hk]; exact Nat.and_le_right
  rw [own_of64 rfl (by omega)]; omega
theorem own_m62 (x : Int64) : 0 ≤ (x &&& 4611686018427387903).toInt ∧ (x &&& 4611686018427387903).toInt < 4611686018427387904 := by
  have h := own_band x 4611686018427387903 (n := 4611686018427387903) rfl (by decide); omega
theorem own_m24 (x : Int64) : 0 ≤ (x &&& 16777215).toInt ∧ (x &&& 16777215).toInt < 16777216 := by
  have h := own_band x 16777215 (n := 16777215) rfl (by decide); omega
theorem own_shk : ∀ p : Fin 64, (((Int32.ofNat p.val &&& 0x3f).toInt64).toBitVec.smod 64).toNat = p.val := by decide
theorem own_shl1 (j : Nat) (hj : j ≤ 52) : ((1 : Int64) <<< (Int32.ofNat j &&& 0x3f).toInt64).toBitVec.toNat = 2 ^ j := by
  have e := own_shk ⟨j, by omega⟩
  have l : (2 : Nat) ^ j ≤ 2 ^ 52 := Nat.pow_le_pow_right (by decide) hj
  rw [Int64.toBitVec_shiftLeft, BitVec.shiftLeft_eq', BitVec.toNat_shiftLeft, e, Nat.shiftLeft_eq]
  show 1 * 2 ^ j % 2 ^ 64 = _
  rw [Nat.one_mul, Nat.mod_eq_of_lt (by omega)]
/-- the parts of a power of two -/
theorem own_pow (a : Int64) (j : Nat) (hj : j ≤ 52) {p h : Int64} (hp : p = (1 : Int64) <<< (Int32.ofNat j &&& 0x3f).toInt64) (hh : h = a &&& (p - 1)) : p.toInt = ((2 ^ j : Nat) : Int) ∧ 0 ≤ h.toInt ∧ h.toInt < p.toInt ∧ (p - h).toInt = p.toInt - h.toInt := by
  have l : (2 : Nat) ^ j ≤ 2 ^ 52 := Nat.pow_le_pow_right (by decide) hj
  have l0 : 1 ≤ (2 : Nat) ^ j := Nat.one_le_two_pow
  have e1 : p.toBitVec.toNat = 2 ^ j := by rw [hp]; exact own_shl1 j hj
  have e2 : (p - 1).toBitVec.toNat = 2 ^ j - 1 := by
    rw [Int64.toBitVec_sub, BitVec.toNat_sub, e1]
    show (2 ^ 64 - 1 + 2 ^ j) % 2 ^ 64 = _
    omega
  have a1 : p.toInt = ((2 ^ j : Nat) : Int) := own_of64 e1 (by omega)
  have a2 := own_band a (p - 1) e2 (by omega)
  rw [← hh] at a2
  refine ⟨a1, a2.1, by omega, ?_⟩
  rw [Int64.toInt_sub, Int.bmod_eq_of_le] <;> omega
theorem own_j (x : Int32) : ∃ j, j ≤ 52 ∧ own_min (((x.toUInt32 >>> ((13 : Int32) &&& 31).toUInt32).toInt32 &&& 31) + 22) 52 = Int32.ofNat j := by
  generalize (x.toUInt32 >>> ((13 : Int32) &&& 31).toUInt32).toInt32 = y
  obtain ⟨n, hn, e⟩ : ∃ n : Nat, n < 32 ∧ y &&& 31 = Int32.ofNat n := by
    refine ⟨(y &&& 31).toBitVec.toNat, ?_, ?_⟩
    · rw [Int32.toBitVec_and, BitVec.toNat_and]; exact Nat.lt_of_le_of_lt Nat.and_le_right (by decide)
    · apply Int32.toBitVec_inj.mp; simp
  rw [e]
  have small : ∀ n : Fin 32, ∃ j : Fin 53, own_min (Int32.ofNat n.val + 22) 52 = Int32.ofNat j.val := by decide +kernel
  obtain ⟨j, hj⟩ := small ⟨n, hn⟩
  exact ⟨j.val, by omega, hj⟩
theorem own_k (x : Int32) : 1 ≤ (((((x.toUInt32 >>> ((5 : Int32) &&& 31).toUInt32).toInt32) &&& (255 : Int32)) + (1 : Int32)).toInt64).toInt ∧ (((((x.toUInt32 >>> ((5 : Int32) &&& 31).toUInt32).toInt32) &&& (255 : Int32)) + (1 : Int32)).toInt64).toInt ≤ 256 := by
  generalize (x.toUInt32 >>> ((5 : Int32) &&& 31).toUInt32).toInt32 = y
  obtain ⟨n, hn, e⟩ : ∃ n : Nat, n < 256 ∧ y &&& 255 = Int32.ofNat n := by
    refine ⟨(y &&& 255).toBitVec.toNat, ?_, ?_⟩
    · rw [Int32.toBitVec_and, BitVec.toNat_and]; exact Nat.lt_of_le_of_lt Nat.and_le_right (by decide)
    · apply Int32.toBitVec_inj.mp; simp
  rw [e]
  have small : ∀ n : Fin 256, 1 ≤ ((Int32.ofNat n.val + 1).toInt64).toInt ∧ ((Int32.ofNat n.val + 1).toInt64).toInt ≤ 256 := by decide +kernel
  exact small ⟨n, hn⟩
theorem own_mul64 {a b : Int64} {K L : Int} (ha : 0 ≤ a.toInt) (ha' : a.toInt ≤ K) (hb : 0 ≤ b.toInt) (hb' : b.toInt ≤ L) (hKL : K * L < 9223372036854775808) : (a * b).toInt = a.toInt * b.toInt ∧ 0 ≤ a.toInt * b.toInt ∧ a.toInt * b.toInt ≤ K * L := by
  have h1 : 0 ≤ a.toInt * b.toInt := Int.mul_nonneg ha hb
  have h2 : a.toInt * b.toInt ≤ K * L := Int.mul_le_mul ha' hb' hb (by omega)
  refine ⟨?_, h1, h2⟩
  rw [Int64.toInt_mul, Int.bmod_eq_of_le] <;> omega
theorem own_lt_nz {n : Int64} (h : (0 : Int64) < n) : n ≠ 0 := fun x => by subst x; exact absurd h (by decide)
def own_L1 (a0 : Int64) (a2 : Int64) (a4 : Int64) (a6 : Int64) (a8 : Int32) (a9 : Int64) (a11 : Int64) (a13 : Int32) (a14 : Int64) (a16 : UInt64) (a18 : Int32) (a19 : Int64) : Array Slot := #[.val (.long a0), .second, .val (.long a2), .second, .val (.long a4), .second, .val (.long a6), .second, .val (.int a8), .val (.long a9), .second, .val (.long a11), .second, .val (.int a13), .val (.long a14), .second, .val (.double a16), .second, .val (.int a18), .val (.long a19), .second, .unset, .unset, .unset, .unset, .unset, .unset, .unset, .unset, .unset, .unset, .unset, .unset, .unset, .unset, .unset, .unset]
def own_L2 (a0 : Int64) (a2 : Int64) (a4 : Int64) (a6 : Int64) (a8 : Int32) : Array Slot := #[.val (.long a0), .second, .val (.long a2), .second, .val (.long a4), .second, .val (.long a6), .second, .val (.int a8), .unset, .unset, .unset, .unset, .unset, .unset, .unset, .unset, .unset, .unset, .unset, .unset, .unset, .unset, .unset, .unset, .unset, .unset, .unset, .unset, .unset, .unset, .unset, .unset, .unset, .unset, .unset, .unset]
def own_L3 (a0 : Int64) (a2 : Int64) (a4 : Int64) (a6 : Int64) (a8 : Int32) (a9 : Int64) : Array Slot := #[.val (.long a0), .second, .val (.long a2), .second, .val (.long a4), .second, .val (.long a6), .second, .val (.int a8), .val (.long a9), .second, .unset, .unset, .unset, .unset, .unset, .unset, .unset, .unset, .unset, .unset, .unset, .unset, .unset, .unset, .unset, .unset, .unset, .unset, .unset, .unset, .unset, .unset, .unset, .unset, .unset, .unset]
def own_L4 (a0 : Int64) (a2 : Int64) (a4 : Int64) (a6 : Int64) (a8 : Int32) (a9 : Int64) (a11 : Int64) : Array Slot := #[.val (.long a0), .second, .val (.long a2), .second, .val (.long a4), .second, .val (.long a6), .second, .val (.int a8), .val (.long a9), .second, .val (.long a11), .second, .unset, .unset, .unset, .unset, .unset, .unset, .unset, .unset, .unset, .unset, .unset, .unset, .unset, .unset, .unset, .unset, .unset, .unset, .unset, .unset, .unset, .unset, .unset, .unset]
def own_L5 (a0 : Int64) (a2 : Int64) (a4 : Int64) (a6 : Int64) (a8 : Int32) (a9 : Int64) (a11 : Int64) (a13 : Int32) : Array Slot := #[.val (.long a0), .second, .val (.long a2), .second, .val (.long a4), .second, .val (.long a6), .second, .val (.int a8), .val (.long a9), .second, .val (.long a11), .second, .val (.int a13), .unset, .unset, .unset, .unset, .unset, .unset, .unset, .unset, .unset, .unset, .unset, .unset, .unset, .unset, .unset, .unset, .unset, .unset, .unset, .unset, .unset, .unset, .unset]
def own_L6 (a0 : Int64) (a2 : Int64) (a4 : Int64) (a6 : Int64) (a8 : Int32) (a9 : Int64) (a11 : Int64) (a13 : Int32) (a14 : Int64) : Array Slot := #[.val (.long a0), .second, .val (.long a2), .second, .val (.long a4), .second, .val (.long a6), .second, .val (.int a8), .val (.long a9), .second, .val (.long a11), .second, .val (.int a13), .val (.long a14), .second, .unset, .unset, .unset, .unset, .unset, .unset, .unset, .unset, .unset, .unset, .unset, .unset, .unset, .unset, .unset, .unset, .unset, .unset, .unset, .unset, .unset]
theorem pd_1 : parseMethodDescriptor "(JJJJJJ)V" = some ⟨[.long, .long, .long, .long, .long, .long], none⟩ := by decide +kernel
theorem pd_2 : parseMethodDescriptor "()D" = some ⟨[], some .double⟩ := by decide +kernel
def own_L7 (a0 : Int64) (a2 : Int64) (a4 : Int64) (a6 : Int64) (a8 : Int32) (a9 : Int64) (a11 : Int64) (a13 : Int32) (a14 : Int64) (a16 : UInt64) : Array Slot := #[.val (.long a0), .second, .val (.long a2), .second, .val (.long a4), .second, .val (.long a6), .second, .val (.int a8), .val (.long a9), .second, .val (.long a11), .second, .val (.int a13), .val (.long a14), .second, .val (.double a16), .second, .unset, .unset, .unset, .unset, .unset, .unset, .unset, .unset, .unset, .unset, .unset, .unset, .unset, .unset, .unset, .unset, .unset, .unset, .unset]
def own_L8 (a0 : Int64) (a2 : Int64) (a4 : Int64) (a6 : Int64) (a8 : Int32) (a9 : Int64) (a11 : Int64) (a13 : Int32) (a14 : Int64) (a16 : UInt64) (a19 : Int64) : Array Slot := #[.val (.long a0), .second, .val (.long a2), .second, .val (.long a4), .second, .val (.long a6), .second, .val (.int a8), .val (.long a9), .second, .val (.long a11), .second, .val (.int a13), .val (.long a14), .second, .val (.double a16), .second, .unset, .val (.long a19), .second, .unset, .unset, .unset, .unset, .unset, .unset, .unset, .unset, .unset, .unset, .unset, .unset, .unset, .unset, .unset, .unset]
theorem pd_3 : parseMethodDescriptor "(II)I" = some ⟨[.int, .int], some .int⟩ := by decide +kernel
def own_L9 (a0 : Int64) (a2 : Int64) (a4 : Int64) (a6 : Int64) (a8 : Int32) (a9 : Int64) (a11 : Int64) (a13 : Int32) (a14 : Int64) (a16 : Int32) : Array Slot := #[.val (.long a0), .second, .val (.long a2), .second, .val (.long a4), .second, .val (.long a6), .second, .val (.int a8), .val (.long a9), .second, .val (.long a11), .second, .val (.int a13), .val (.long a14), .second, .val (.int a16), .unset, .unset, .unset, .unset, .unset, .unset, .unset, .unset, .unset, .unset, .unset, .unset, .unset, .unset, .unset, .unset, .unset, .unset, .unset, .unset]
def own_L10 (a0 : Int64) (a2 : Int64) (a4 : Int64) (a6 : Int64) (a8 : Int32) (a9 : Int64) (a11 : Int64) (a13 : Int32) (a14 : Int64) (a16 : UInt64) (a18 : Int32) (a19 : Int64) (a21 : Int64) : Array Slot := #[.val (.long a0), .second, .val (.long a2), .second, .val (.long a4), .second, .val (.long a6), .second, .val (.int a8), .val (.long a9), .second, .val (.long a11), .second, .val (.int a13), .val (.long a14), .second, .val (.double a16), .second, .val (.int a18), .val (.long a19), .second, .val (.long a21), .second, .unset, .unset, .unset, .unset, .unset, .unset, .unset, .unset, .unset, .unset, .unset, .unset, .unset, .unset]
def own_L11 (a0 : Int64) (a2 : Int64) (a4 : Int64) (a6 : Int64) (a8 : Int32) (a9 : Int64) (a11 : Int64) (a13 : Int32) (a14 : Int64) (a16 : UInt64) (a18 : Int32) (a19 : Int64) (a21 : Int64) (a23 : Int64) : Array Slot := #[.val (.long a0), .second, .val (.long a2), .second, .val (.long a4), .second, .val (.long a6), .second, .val (.int a8), .val (.long a9), .second, .val (.long a11), .second, .val (.int a13), .val (.long a14), .second, .val (.double a16), .second, .val (.int a18), .val (.long a19), .second, .val (.long a21), .second, .val (.long a23), .second, .unset, .unset, .unset, .unset, .unset, .unset, .unset, .unset, .unset, .unset, .unset, .unset]
def own_L12 (a0 : Int64) (a2 : Int64) (a4 : Int64) (a6 : Int64) (a8 : Int32) (a9 : Int64) (a11 : Int64) (a13 : Int32) (a14 : Int64) (a16 : UInt64) (a18 : Int32) (a19 : Int64) (a21 : Int64) (a23 : Int64) (a25 : Int64) : Array Slot := #[.val (.long a0), .second, .val (.long a2), .second, .val (.long a4), .second, .val (.long a6), .second, .val (.int a8), .val (.long a9), .second, .val (.long a11), .second, .val (.int a13), .val (.long a14), .second, .val (.double a16), .second, .val (.int a18), .val (.long a19), .second, .val (.long a21), .second, .val (.long a23), .second, .val (.long a25), .second, .unset, .unset, .unset, .unset, .unset, .unset, .unset, .unset, .unset, .unset]
def own_L13 (a0 : Int64) (a2 : Int64) (a4 : Int64) (a6 : Int64) (a8 : Int32) (a9 : Int64) (a11 : Int64) (a13 : Int32) (a14 : Int64) (a16 : UInt64) (a18 : Int32) (a19 : Int64) (a21 : Int64) (a23 : Int64) (a25 : Int64) (a27 : Int64) : Array Slot := #[.val (.long a0), .second, .val (.long a2), .second, .val (.long a4), .second, .val (.long a6), .second, .val (.int a8), .val (.long a9), .second, .val (.long a11), .second, .val (.int a13), .val (.long a14), .second, .val (.double a16), .second, .val (.int a18), .val (.long a19), .second, .val (.long a21), .second, .val (.long a23), .second, .val (.long a25), .second, .val (.long a27), .second, .unset, .unset, .unset, .unset, .unset, .unset, .unset, .unset]
def own_L14 (a0 : Int64) (a2 : Int64) (a4 : Int64) (a6 : Int64) (a8 : Int32) (a9 : Int64) (a11 : Int64) (a13 : Int32) (a14 : Int64) (a16 : UInt64) (a18 : Int32) (a19 : Int64) (a21 : Int64) (a23 : Int64) (a25 : Int64) (a27 : Int64) (a29 : UInt64) : Array Slot := #[.val (.long a0), .second, .val (.long a2), .second, .val (.long a4), .second, .val (.long a6), .second, .val (.int a8), .val (.long a9), .second, .val (.long a11), .second, .val (.int a13), .val (.long a14), .second, .val (.double a16), .second, .val (.int a18), .val (.long a19), .second, .val (.long a21), .second, .val (.long a23), .second, .val (.long a25), .second, .val (.long a27), .second, .val (.double a29), .second, .unset, .unset, .unset, .unset, .unset, .unset]
def own_L15 (a0 : Int64) (a2 : Int64) (a4 : Int64) (a6 : Int64) (a8 : Int32) (a9 : Int64) (a11 : Int64) (a13 : Int32) (a14 : Int64) (a16 : UInt64) (a18 : Int32) (a19 : Int64) (a21 : Int64) (a23 : Int64) (a25 : Int64) (a27 : Int64) (a29 : UInt64) (a31 : UInt64) : Array Slot := #[.val (.long a0), .second, .val (.long a2), .second, .val (.long a4), .second, .val (.long a6), .second, .val (.int a8), .val (.long a9), .second, .val (.long a11), .second, .val (.int a13), .val (.long a14), .second, .val (.double a16), .second, .val (.int a18), .val (.long a19), .second, .val (.long a21), .second, .val (.long a23), .second, .val (.long a25), .second, .val (.long a27), .second, .val (.double a29), .second, .val (.double a31), .second, .unset, .unset, .unset, .unset]
def own_L16 (a0 : Int64) (a2 : Int64) (a4 : Int64) (a6 : Int64) (a8 : Int32) (a9 : Int64) (a11 : Int64) (a13 : Int32) (a14 : Int64) (a16 : UInt64) (a18 : Int32) (a19 : Int64) (a21 : Int64) (a23 : Int64) (a25 : Int64) (a27 : Int64) (a29 : UInt64) (a31 : UInt64) (a33 : Int64) : Array Slot := #[.val (.long a0), .second, .val (.long a2), .second, .val (.long a4), .second, .val (.long a6), .second, .val (.int a8), .val (.long a9), .second, .val (.long a11), .second, .val (.int a13), .val (.long a14), .second, .val (.double a16), .second, .val (.int a18), .val (.long a19), .second, .val (.long a21), .second, .val (.long a23), .second, .val (.long a25), .second, .val (.long a27), .second, .val (.double a29), .second, .val (.double a31), .second, .val (.long a33), .second, .unset, .unset]
def own_L17 (a0 : Int64) (a2 : Int64) (a4 : Int64) (a6 : Int64) (a8 : Int32) (a9 : Int64) (a11 : Int64) (a13 : Int32) (a14 : Int64) (a16 : UInt64) (a18 : Int32) (a19 : Int64) (a21 : Int64) (a23 : Int64) (a25 : Int64) (a27 : Int64) (a29 : UInt64) (a31 : UInt64) (a33 : Int64) (a35 : Int64) : Array Slot := #[.val (.long a0), .second, .val (.long a2), .second, .val (.long a4), .second, .val (.long a6), .second, .val (.int a8), .val (.long a9), .second, .val (.long a11), .second, .val (.int a13), .val (.long a14), .second, .val (.double a16), .second, .val (.int a18), .val (.long a19), .second, .val (.long a21), .second, .val (.long a23), .second, .val (.long a25), .second, .val (.long a27), .second, .val (.double a29), .second, .val (.double a31), .second, .val (.long a33), .second, .val (.long a35), .second]
def own_L18 (a0 : Int64) (a2 : Int64) (a4 : Int64) (a6 : Int64) (a8 : Int32) (a9 : Int64) (a11 : Int64) (a13 : Int32) (a14 : Int64) (a16 : UInt64) (a18 : Int32) (a19 : Int64) (a21 : Int64) (a23 : Int64) (a25 : Int64) (a27 : Int64) (a29 : Int64) : Array Slot := #[.val (.long a0), .second, .val (.long a2), .second, .val (.long a4), .second, .val (.long a6), .second, .val (.int a8), .val (.long a9), .second, .val (.long a11), .second, .val (.int a13), .val (.long a14), .second, .val (.double a16), .second, .val (.int a18), .val (.long a19), .second, .val (.long a21), .second, .val (.long a23), .second, .val (.long a25), .second, .val (.long a27), .second, .val (.long a29), .second, .unset, .unset, .unset, .unset, .unset, .unset]
theorem pn_2 : plainName "com/example/tinyward/tinyward/CacheStatsHitRatePinLaw" = true := by first | (simp [plainName, overriddenIn]; done) | decide +kernel
theorem ef_0 (m : MethodId) (i0 : Int64) (i1 : Int64) (i2 : Int64) (i3 : Int64) (i4 : Int32) : entryFrame m #[(.long i0), (.long i1), (.long i2), (.long i3), (.int i4)] maxLocals = mkF m 0 #[.val (.long i0), .second, .val (.long i1), .second, .val (.long i2), .second, .val (.long i3), .second, .val (.int i4), .unset, .unset, .unset, .unset, .unset, .unset, .unset, .unset, .unset, .unset, .unset, .unset, .unset, .unset, .unset, .unset, .unset, .unset, .unset, .unset, .unset, .unset, .unset, .unset, .unset, .unset, .unset, .unset] [] := by first | (simp [entryFrame, mkF, argsToLocals, Value.category, maxLocals]; done) | rfl
def Q0 (Z : State) (i0 : Int64) (i1 : Int64) (i2 : Int64) (i3 : Int64) (i4 : Int32) (h0 : Heap) (n0 : Nat) (v : Option Value) (h : Heap) (L : List Loc) : Prop := v = some (.int 1) ∧ Fr n0 L
set_option maxRecDepth 65536 in
set_option maxHeartbeats 40000000 in
theorem rm0 (l : Launch) (Z : State) (a0 : Array Value) (hw : ∀ d ∈ tables_1, d.before a0 Z = true) (ws : List Jvm.Cond) (i0 : Int64) (i1 : Int64) (i2 : Int64) (i3 : Int64) (i4 : Int32) (h0 : Heap) (n0 : Nat) (Z0 : n0 ≤ h0.size) :
    MetFree l x (head1 (Jvm.Cond.code x code maxLocals ret :: ws) room_1) (fun a' U => a' = #[(.long i0), (.long i1), (.long i2), (.long i3), (.int i4)] ∧ Z.Warmed39 U.vm ∧ U.heap = h0) (fun _ _ _ _ _ => True) (fun _ U o' U' => ∃ v L, o' = .returned v ∧ Q0 Z i0 i1 i2 i3 i4 h0 n0 v U'.heap L ∧ FrameEnd U o' U' L 3 18) := by
  refine MetFree.of_bodySF (plainFor_of_name pn_2) hisR ?_
  intro p e s m args' below meth c s₁ Bd hml0 hP hK
  obtain ⟨hargs, hZ, hh⟩ := hP
  have hx := Bd.exec
  have hby := Bd.bytes
  have hml : c.maxLocals = 37 := hml0
  have hown : s.vm.findClass "com/example/tinyward/tinyward/CacheStatsHitRatePinLaw" = some m.cls := findClass_of_methodNamed Bd.named
  have hnm := (name_of_methodNamed Bd.named Bd.method).1
  have X0 : Stand p l e room_1 s m args' below meth c s₁ [] 0 0 := Stand.of_body Bd
  have e0 : s₁.heap = h0 := by rw [← hh, Bd.state]; rfl
  have N0 := Fr.nil n0
  obtain ⟨A0, hA0⟩ : ∃ A, A = s₁.setTop (mkF m 0 #[.val (.long i0), .second, .val (.long i1), .second, .val (.long i2), .second, .val (.long i3), .second, .val (.int i4), .unset, .unset, .unset, .unset, .unset, .unset, .unset, .unset, .unset, .unset, .unset, .unset, .unset, .unset, .unset, .unset, .unset, .unset, .unset, .unset, .unset, .unset, .unset, .unset, .unset, .unset, .unset, .unset] []) := ⟨_, rfl⟩
  have P0 : own_Rch p.tables e below A0 (s₁.setTop (mkF m 0 #[.val (.long i0), .second, .val (.long i1), .second, .val (.long i2), .second, .val (.long i3), .second, .val (.int i4), .unset, .unset, .unset, .unset, .unset, .unset, .unset, .unset, .unset, .unset, .unset, .unset, .unset, .unset, .unset, .unset, .unset, .unset, .unset, .unset, .unset, .unset, .unset, .unset, .unset, .unset, .unset, .unset] [])) := fun t k => hA0 ▸ k
  have P00 : own_Rch p.tables e below (s₁.setTop (entryFrame m args' maxLocals)) A0 := fun t k => by rw [hargs]; exact castTop (ef_0 m i0 i1 i2 i3 i4) (hA0 ▸ k)
  refine cps (A := ∃ (Tt : State) (Lt : List Loc) (ht : Heap) (x9 x11 : Int64) (x13 : Int32) (x14 : Int64) (x16 : UInt64) (x19 : Int64), Stand p l e room_1 s m args' below meth c Tt Lt (0 + 1 + 0 + 0) (0 + 6 + 0 + 0) ∧ Tt.heap = ht ∧ n0 ≤ ht.size ∧ Fr n0 Lt ∧ own_Rch p.tables e below A0 (Tt.setTop (mkF m 295 (own_L1 i0 i1 i2 i3 i4 x9 x11 x13 x14 x16 (1 : Int32) x19) []))) (fun tail => ?_) ?_
  · -- the first part
    have P1 : own_Rch p.tables e below A0 (s₁.setTop (mkF m 7 (own_L3 i0 i1 i2 i3 i4 (i0 &&& (4611686018427387903 : Int64))) [])) := fun t k => P0 t (by
      show Steps p.tables e below (s₁.setTop (mkF m 0 (own_L2 i0 i1 i2 i3 i4) [])) _
      refine XS.lloadN X0.here hx rfl (hb hby at_0) rfl ?_
      show Steps p.tables e below (s₁.setTop (mkF m 1 (own_L2 i0 i1 i2 i3 i4) [(.long i0)])) _
      refine X0.ldc2Long hx hown (mvT hZ (hw _ (List.mem_of_getElem? (i := 0) rfl))) (g := (mkF m 1 (own_L2 i0 i1 i2 i3 i4) [(.long i0)])) rfl (hb hby at_1) _ ?_
      show Steps p.tables e below (s₁.setTop (mkF m 4 (own_L2 i0 i1 i2 i3 i4) [(.long (4611686018427387903 : Int64)), (.long i0)])) _
      refine XS.land X0.here hx rfl (hb hby at_4) rfl ?_
      show Steps p.tables e below (s₁.setTop (mkF m 5 (own_L2 i0 i1 i2 i3 i4) [(.long (i0 &&& (4611686018427387903 : Int64)))])) _
      refine XS.lstore X0.here hx rfl (hb hby at_5) rfl (l' := (own_L3 i0 i1 i2 i3 i4 (i0 &&& (4611686018427387903 : Int64)))) rfl ?_
      exact k)
    obtain ⟨v2, hv2, P3⟩ : ∃ z : Int64, z = (i0 &&& (4611686018427387903 : Int64)) ∧ own_Rch p.tables e below A0 (s₁.setTop (mkF m 7 (own_L3 i0 i1 i2 i3 i4 z) [])) := ⟨_, rfl, P1⟩
    have P4 : own_Rch p.tables e below A0 (s₁.setTop (mkF m 14 (own_L4 i0 i1 i2 i3 i4 v2 (i1 &&& (4611686018427387903 : Int64))) [])) := fun t k => P3 t (by
      show Steps p.tables e below (s₁.setTop (mkF m 7 (own_L3 i0 i1 i2 i3 i4 v2) [])) _
      refine XS.lloadN X0.here hx rfl (hb hby at_7) rfl ?_
      show Steps p.tables e below (s₁.setTop (mkF m 8 (own_L3 i0 i1 i2 i3 i4 v2) [(.long i1)])) _
      refine X0.ldc2Long hx hown (mvT hZ (hw _ (List.mem_of_getElem? (i := 0) rfl))) (g := (mkF m 8 (own_L3 i0 i1 i2 i3 i4 v2) [(.long i1)])) rfl (hb hby at_8) _ ?_
      show Steps p.tables e below (s₁.setTop (mkF m 11 (own_L3 i0 i1 i2 i3 i4 v2) [(.long (4611686018427387903 : Int64)), (.long i1)])) _
      refine XS.land X0.here hx rfl (hb hby at_11) rfl ?_
      show Steps p.tables e below (s₁.setTop (mkF m 12 (own_L3 i0 i1 i2 i3 i4 v2) [(.long (i1 &&& (4611686018427387903 : Int64)))])) _
      refine XS.lstore X0.here hx rfl (hb hby at_12) rfl (l' := (own_L4 i0 i1 i2 i3 i4 v2 (i1 &&& (4611686018427387903 : Int64)))) rfl ?_
      exact k)
    obtain ⟨v5, hv5, P6⟩ : ∃ z : Int64, z = (i1 &&& (4611686018427387903 : Int64)) ∧ own_Rch p.tables e below A0 (s₁.setTop (mkF m 14 (own_L4 i0 i1 i2 i3 i4 v2 z) [])) := ⟨_, rfl, P4⟩
    have P8 : own_Rch p.tables e below A0 (s₁.setTop (mkF m 19 (own_L4 i0 i1 i2 i3 i4 v2 v5) [(.int (i4 &&& (16 : Int32)))])) := fun t k => P6 t (by
      show Steps p.tables e below (s₁.setTop (mkF m 14 (own_L4 i0 i1 i2 i3 i4 v2 v5) [])) _
      refine XS.iload X0.here hx rfl (hb hby at_14) rfl ?_
      show Steps p.tables e below (s₁.setTop (mkF m 16 (own_L4 i0 i1 i2 i3 i4 v2 v5) [(.int i4)])) _
      refine XS.bipush X0.here hx rfl (hb hby at_16) ?_
      show Steps p.tables e below (s₁.setTop (mkF m 18 (own_L4 i0 i1 i2 i3 i4 v2 v5) [(.int (16 : Int32)), (.int i4)])) _
      refine XS.iand X0.here hx rfl (hb hby at_18) rfl ?_
      exact k)
    obtain ⟨v10, hv10⟩ : ∃ z : Int32, z = (if (i4 &&& (16 : Int32)) = (0 : Int32) then (0 : Int32) else (1 : Int32)) := ⟨_, rfl⟩
    have P11 : own_Rch p.tables e below A0 (s₁.setTop (mkF m 27 (own_L4 i0 i1 i2 i3 i4 v2 v5) [(.int v10)])) := fun t k => P8 t (by
      by_cases hc9 : (i4 &&& (16 : Int32)) = (0 : Int32)
      · show Steps p.tables e below (s₁.setTop (mkF m 19 (own_L4 i0 i1 i2 i3 i4 v2 v5) [(.int (i4 &&& (16 : Int32)))])) _
        refine XS.ifYes X0.here hx rfl (pc0 := 19) (pc' := 26) rfl (hb hby at_19) rfl ((if0 _ _).trans (teq hc9).1) (by decide) (by decide) ?_
        have qv10 : v10 = (0 : Int32) := by rw [hv10]; simp only [if_pos hc9]
        rw [qv10] at k
        show Steps p.tables e below (s₁.setTop (mkF m 26 (own_L4 i0 i1 i2 i3 i4 v2 v5) [])) _
        refine XS.iconst X0.here hx rfl (hb hby at_26) ?_
        exact k
      · show Steps p.tables e below (s₁.setTop (mkF m 19 (own_L4 i0 i1 i2 i3 i4 v2 v5) [(.int (i4 &&& (16 : Int32)))])) _
        refine XS.ifNo X0.here hx rfl (hb hby at_19) rfl ((if0 _ _).trans (feq hc9).1) ?_
        have qv10 : v10 = (1 : Int32) := by rw [hv10]; simp only [if_neg hc9]
        rw [qv10] at k
        show Steps p.tables e below (s₁.setTop (mkF m 22 (own_L4 i0 i1 i2 i3 i4 v2 v5) [])) _
        refine XS.iconst X0.here hx rfl (hb hby at_22) ?_
        show Steps p.tables e below (s₁.setTop (mkF m 23 (own_L4 i0 i1 i2 i3 i4 v2 v5) [(.int (1 : Int32))])) _
        refine XS.goto X0.here hx rfl (pc0 := 23) (pc' := 27) rfl (hb hby at_23) (by decide) (by decide) ?_
        exact k)
    have P12 : own_Rch p.tables e below A0 (s₁.setTop (mkF m 32 (own_L6 i0 i1 i2 i3 i4 v2 v5 v10 (0 : Int64)) [])) := fun t k => P11 t (by
      show Steps p.tables e below (s₁.setTop (mkF m 27 (own_L4 i0 i1 i2 i3 i4 v2 v5) [(.int v10)])) _
      refine XS.istore X0.here hx rfl (hb hby at_27) rfl (l' := (own_L5 i0 i1 i2 i3 i4 v2 v5 v10)) rfl ?_
      show Steps p.tables e below (s₁.setTop (mkF m 29 (own_L5 i0 i1 i2 i3 i4 v2 v5 v10) [])) _
      refine XS.lconst X0.here hx rfl (hb hby at_29) ?_
      show Steps p.tables e below (s₁.setTop (mkF m 30 (own_L5 i0 i1 i2 i3 i4 v2 v5 v10) [(.long (0 : Int64))])) _
      refine XS.lstore X0.here hx rfl (hb hby at_30) rfl (l' := (own_L6 i0 i1 i2 i3 i4 v2 v5 v10 (0 : Int64))) rfl ?_
      exact k)
    have P14 : own_Rch p.tables e below A0 (s₁.setTop (mkF m 34 (own_L6 i0 i1 i2 i3 i4 v2 v5 v10 (0 : Int64)) [(.int v10)])) := fun t k => P12 t (by
      show Steps p.tables e below (s₁.setTop (mkF m 32 (own_L6 i0 i1 i2 i3 i4 v2 v5 v10 (0 : Int64)) [])) _
      refine XS.iload X0.here hx rfl (hb hby at_32) rfl ?_
      exact k)
    by_cases hc13 : v10 = (0 : Int32)
    · -- v10 = (0 : Int32)
      have P16 : own_Rch p.tables e below A0 (s₁.setTop (mkF m 83 (own_L6 i0 i1 i2 i3 i4 v2 v5 v10 (0 : Int64)) [(.int (i4 &&& (1 : Int32)))])) := fun t k => P14 t (by
        show Steps p.tables e below (s₁.setTop (mkF m 34 (own_L6 i0 i1 i2 i3 i4 v2 v5 v10 (0 : Int64)) [(.int v10)])) _
        refine XS.ifYes X0.here hx rfl (pc0 := 34) (pc' := 79) rfl (hb hby at_34) rfl ((if0 _ _).trans (teq hc13).1) (by decide) (by decide) ?_
        show Steps p.tables e below (s₁.setTop (mkF m 79 (own_L6 i0 i1 i2 i3 i4 v2 v5 v10 (0 : Int64)) [])) _
        refine XS.iload X0.here hx rfl (hb hby at_79) rfl ?_
        show Steps p.tables e below (s₁.setTop (mkF m 81 (own_L6 i0 i1 i2 i3 i4 v2 v5 v10 (0 : Int64)) [(.int i4)])) _
        refine XS.iconst X0.here hx rfl (hb hby at_81) ?_
        show Steps p.tables e below (s₁.setTop (mkF m 82 (own_L6 i0 i1 i2 i3 i4 v2 v5 v10 (0 : Int64)) [(.int (1 : Int32)), (.int i4)])) _
        refine XS.iand X0.here hx rfl (hb hby at_82) rfl ?_
        exact k)
      obtain ⟨v18, hv18⟩ : ∃ z : Int64, z = (if (i4 &&& (1 : Int32)) = (0 : Int32) then v5 else (0 : Int64)) := ⟨_, rfl⟩
      have P19 : own_Rch p.tables e below A0 (s₁.setTop (mkF m 89 (own_L6 i0 i1 i2 i3 i4 v2 v18 v10 (0 : Int64)) [])) := fun t k => P16 t (by
        by_cases hc17 : (i4 &&& (1 : Int32)) = (0 : Int32)
        · show Steps p.tables e below (s₁.setTop (mkF m 83 (own_L6 i0 i1 i2 i3 i4 v2 v5 v10 (0 : Int64)) [(.int (i4 &&& (1 : Int32)))])) _
          refine XS.ifYes X0.here hx rfl (pc0 := 83) (pc' := 89) rfl (hb hby at_83) rfl ((if0 _ _).trans (teq hc17).1) (by decide) (by decide) ?_
          have qv18 : v18 = v5 := by rw [hv18]; simp only [if_pos hc17]
          rw [qv18] at k
          exact k
        · show Steps p.tables e below (s₁.setTop (mkF m 83 (own_L6 i0 i1 i2 i3 i4 v2 v5 v10 (0 : Int64)) [(.int (i4 &&& (1 : Int32)))])) _
          refine XS.ifNo X0.here hx rfl (hb hby at_83) rfl ((if0 _ _).trans (feq hc17).1) ?_
          have qv18 : v18 = (0 : Int64) := by rw [hv18]; simp only [if_neg hc17]
          rw [qv18] at k
          show Steps p.tables e below (s₁.setTop (mkF m 86 (own_L6 i0 i1 i2 i3 i4 v2 v5 v10 (0 : Int64)) [])) _
          refine XS.lconst X0.here hx rfl (hb hby at_86) ?_
          show Steps p.tables e below (s₁.setTop (mkF m 87 (own_L6 i0 i1 i2 i3 i4 v2 v5 v10 (0 : Int64)) [(.long (0 : Int64))])) _
          refine XS.lstore X0.here hx rfl (hb hby at_87) rfl (l' := (own_L6 i0 i1 i2 i3 i4 v2 (0 : Int64) v10 (0 : Int64))) rfl ?_
          exact k)
      have P21 : own_Rch p.tables e below A0 (s₁.setTop (mkF m 93 (own_L6 i0 i1 i2 i3 i4 v2 v18 v10 (0 : Int64)) [(.int (i4 &&& (2 : Int32)))])) := fun t k => P19 t (by
        show Steps p.tables e below (s₁.setTop (mkF m 89 (own_L6 i0 i1 i2 i3 i4 v2 v18 v10 (0 : Int64)) [])) _
        refine XS.iload X0.here hx rfl (hb hby at_89) rfl ?_
        show Steps p.tables e below (s₁.setTop (mkF m 91 (own_L6 i0 i1 i2 i3 i4 v2 v18 v10 (0 : Int64)) [(.int i4)])) _
        refine XS.iconst X0.here hx rfl (hb hby at_91) ?_
        show Steps p.tables e below (s₁.setTop (mkF m 92 (own_L6 i0 i1 i2 i3 i4 v2 v18 v10 (0 : Int64)) [(.int (2 : Int32)), (.int i4)])) _
        refine XS.iand X0.here hx rfl (hb hby at_92) rfl ?_
        exact k)
      obtain ⟨v23, hv23⟩ : ∃ z : Int64, z = (if (i4 &&& (2 : Int32)) = (0 : Int32) then v2 else (0 : Int64)) := ⟨_, rfl⟩
      have P24 : own_Rch p.tables e below A0 (s₁.setTop (mkF m 99 (own_L6 i0 i1 i2 i3 i4 v23 v18 v10 (0 : Int64)) [])) := fun t k => P21 t (by
        by_cases hc22 : (i4 &&& (2 : Int32)) = (0 : Int32)
        · show Steps p.tables e below (s₁.setTop (mkF m 93 (own_L6 i0 i1 i2 i3 i4 v2 v18 v10 (0 : Int64)) [(.int (i4 &&& (2 : Int32)))])) _
          refine XS.ifYes X0.here hx rfl (pc0 := 93) (pc' := 99) rfl (hb hby at_93) rfl ((if0 _ _).trans (teq hc22).1) (by decide) (by decide) ?_
          have qv23 : v23 = v2 := by rw [hv23]; simp only [if_pos hc22]
          rw [qv23] at k
          exact k
        · show Steps p.tables e below (s₁.setTop (mkF m 93 (own_L6 i0 i1 i2 i3 i4 v2 v18 v10 (0 : Int64)) [(.int (i4 &&& (2 : Int32)))])) _
          refine XS.ifNo X0.here hx rfl (hb hby at_93) rfl ((if0 _ _).trans (feq hc22).1) ?_
          have qv23 : v23 = (0 : Int64) := by rw [hv23]; simp only [if_neg hc22]
          rw [qv23] at k
          show Steps p.tables e below (s₁.setTop (mkF m 96 (own_L6 i0 i1 i2 i3 i4 v2 v18 v10 (0 : Int64)) [])) _
          refine XS.lconst X0.here hx rfl (hb hby at_96) ?_
          show Steps p.tables e below (s₁.setTop (mkF m 97 (own_L6 i0 i1 i2 i3 i4 v2 v18 v10 (0 : Int64)) [(.long (0 : Int64))])) _
          refine XS.lstore X0.here hx rfl (hb hby at_97) rfl (l' := (own_L6 i0 i1 i2 i3 i4 (0 : Int64) v18 v10 (0 : Int64))) rfl ?_
          exact k)
      have P26 : own_Rch p.tables e below A0 (s₁.setTop (mkF m 103 (own_L6 i0 i1 i2 i3 i4 v23 v18 v10 (0 : Int64)) [(.int (i4 &&& (4 : Int32)))])) := fun t k => P24 t (by
        show Steps p.tables e below (s₁.setTop (mkF m 99 (own_L6 i0 i1 i2 i3 i4 v23 v18 v10 (0 : Int64)) [])) _
        refine XS.iload X0.here hx rfl (hb hby at_99) rfl ?_
        show Steps p.tables e below (s₁.setTop (mkF m 101 (own_L6 i0 i1 i2 i3 i4 v23 v18 v10 (0 : Int64)) [(.int i4)])) _
        refine XS.iconst X0.here hx rfl (hb hby at_101) ?_
        show Steps p.tables e below (s₁.setTop (mkF m 102 (own_L6 i0 i1 i2 i3 i4 v23 v18 v10 (0 : Int64)) [(.int (4 : Int32)), (.int i4)])) _
        refine XS.iand X0.here hx rfl (hb hby at_102) rfl ?_
        exact k)
      obtain ⟨v28, hv28⟩ : ∃ z : Int64, z = (if (i4 &&& (4 : Int32)) = (0 : Int32) then v18 else v23) := ⟨_, rfl⟩
      have P29 : own_Rch p.tables e below A0 (s₁.setTop (mkF m 110 (own_L6 i0 i1 i2 i3 i4 v23 v28 v10 (0 : Int64)) [])) := fun t k => P26 t (by
        by_cases hc27 : (i4 &&& (4 : Int32)) = (0 : Int32)
        · show Steps p.tables e below (s₁.setTop (mkF m 103 (own_L6 i0 i1 i2 i3 i4 v23 v18 v10 (0 : Int64)) [(.int (i4 &&& (4 : Int32)))])) _
          refine XS.ifYes X0.here hx rfl (pc0 := 103) (pc' := 110) rfl (hb hby at_103) rfl ((if0 _ _).trans (teq hc27).1) (by decide) (by decide) ?_
          have qv28 : v28 = v18 := by rw [hv28]; simp only [if_pos hc27]
          rw [qv28] at k
          exact k
        · show Steps p.tables e below (s₁.setTop (mkF m 103 (own_L6 i0 i1 i2 i3 i4 v23 v18 v10 (0 : Int64)) [(.int (i4 &&& (4 : Int32)))])) _
          refine XS.ifNo X0.here hx rfl (hb hby at_103) rfl ((if0 _ _).trans (feq hc27).1) ?_
          have qv28 : v28 = v23 := by rw [hv28]; simp only [if_neg hc27]
          rw [qv28] at k
          show Steps p.tables e below (s₁.setTop (mkF m 106 (own_L6 i0 i1 i2 i3 i4 v23 v18 v10 (0 : Int64)) [])) _
          refine XS.lload X0.here hx rfl (hb hby at_106) rfl ?_
          show Steps p.tables e below (s₁.setTop (mkF m 108 (own_L6 i0 i1 i2 i3 i4 v23 v18 v10 (0 : Int64)) [(.long v23)])) _
          refine XS.lstore X0.here hx rfl (hb hby at_108) rfl (l' := (own_L6 i0 i1 i2 i3 i4 v23 v23 v10 (0 : Int64))) rfl ?_
          exact k)
      have b1 : 0 ≤ v23.toInt ∧ v23.toInt < 4611686018427387904 ∧ 0 ≤ v28.toInt ∧ v28.toInt ≤ 4611686018427387904 := by
        have a0 := own_m62 i0
        have a1 := own_m62 i1
        rw [← hv2] at a0
        rw [← hv5] at a1
        have z0 : (0 : Int64).toInt = 0 := rfl
        have c1 : 0 ≤ v18.toInt ∧ v18.toInt < 4611686018427387904 := by rw [hv18]; split <;> omega
        have c2 : 0 ≤ v23.toInt ∧ v23.toInt < 4611686018427387904 := by rw [hv23]; split <;> omega
        have c3 : 0 ≤ v28.toInt ∧ v28.toInt < 4611686018427387904 := by rw [hv28]; split <;> omega
        omega
      have bs := own_add64 b1.1 b1.2.2.1 b1.2.1 b1.2.2.2
      obtain ⟨T30, h30, X30, e30, E30, A30, D30, -, st30⟩ := newO X0 hx hZ hown (hw _ (List.mem_of_getElem? (i := 1) rfl)) (hw _ (List.mem_of_getElem? (i := 2) rfl)) (hw _ (List.mem_of_getElem? (i := 3) rfl)) e0 (g := (mkF m 110 (own_L6 i0 i1 i2 i3 i4 v23 v28 v10 (0 : Int64)) [])) rfl (hb hby at_110) (by decide) (by decide)
      obtain ⟨b30, g30⟩ : ∃ z, z = h0.size := ⟨_, rfl⟩
      rw [← g30] at A30 D30 st30
      have g_b30 : n0 ≤ b30 := Nat.le_trans Z0 (Nat.le_of_eq g30.symm)
      have Z_31 : n0 ≤ h30.size := Nat.le_trans Z0 E30.1
      have F_32 : Fld Z h30 b30 "com/example/tinyward/tinyward/CacheStats" "hitCount" "J" (.long (0 : Int64)) := D30 (Or.inr (hw _ (List.mem_of_getElem? (i := 16) rfl))) (ty := .long) (by decide)
      have F_33 : Fld Z h30 b30 "com/example/tinyward/tinyward/CacheStats" "missCount" "J" (.long (0 : Int64)) := D30 (Or.inr (hw _ (List.mem_of_getElem? (i := 18) rfl))) (ty := .long) (by decide)
      have F_34 : Fld Z h30 b30 "com/example/tinyward/tinyward/CacheStats" "loadSuccessCount" "J" (.long (0 : Int64)) := D30 (Or.inr (hw _ (List.mem_of_getElem? (i := 20) rfl))) (ty := .long) (by decide)
      have F_35 : Fld Z h30 b30 "com/example/tinyward/tinyward/CacheStats" "loadFailureCount" "J" (.long (0 : Int64)) := D30 (Or.inr (hw _ (List.mem_of_getElem? (i := 22) rfl))) (ty := .long) (by decide)
      have F_36 : Fld Z h30 b30 "com/example/tinyward/tinyward/CacheStats" "totalLoadTime" "J" (.long (0 : Int64)) := D30 (Or.inr (hw _ (List.mem_of_getElem? (i := 24) rfl))) (ty := .long) (by decide)
      have F_37 : Fld Z h30 b30 "com/example/tinyward/tinyward/CacheStats" "evictionCount" "J" (.long (0 : Int64)) := D30 (Or.inr (hw _ (List.mem_of_getElem? (i := 26) rfl))) (ty := .long) (by decide)
      have P38 : own_Rch p.tables e below A0 (T30.setTop (mkF m 113 (own_L6 i0 i1 i2 i3 i4 v23 v28 v10 (0 : Int64)) [(.ref b30)])) := fun t k => P29 t (st30 t k)
      have P39 : own_Rch p.tables e below A0 (T30.setTop (mkF m 124 (own_L6 i0 i1 i2 i3 i4 v23 v28 v10 (0 : Int64)) [(.long i1), (.long i0), (.long i3), (.long i2), (.long v28), (.long v23), (.ref b30), (.ref b30)])) := fun t k => P38 t (by
        show Steps p.tables e below (T30.setTop (mkF m 113 (own_L6 i0 i1 i2 i3 i4 v23 v28 v10 (0 : Int64)) [(.ref b30)])) _
        refine XS.dup X30.here hx rfl (hb hby at_113) rfl rfl ?_
        show Steps p.tables e below (T30.setTop (mkF m 114 (own_L6 i0 i1 i2 i3 i4 v23 v28 v10 (0 : Int64)) [(.ref b30), (.ref b30)])) _
        refine XS.lload X30.here hx rfl (hb hby at_114) rfl ?_
        show Steps p.tables e below (T30.setTop (mkF m 116 (own_L6 i0 i1 i2 i3 i4 v23 v28 v10 (0 : Int64)) [(.long v23), (.ref b30), (.ref b30)])) _
        refine XS.lload X30.here hx rfl (hb hby at_116) rfl ?_
        show Steps p.tables e below (T30.setTop (mkF m 118 (own_L6 i0 i1 i2 i3 i4 v23 v28 v10 (0 : Int64)) [(.long v28), (.long v23), (.ref b30), (.ref b30)])) _
        refine XS.lload X30.here hx rfl (hb hby at_118) rfl ?_
        show Steps p.tables e below (T30.setTop (mkF m 120 (own_L6 i0 i1 i2 i3 i4 v23 v28 v10 (0 : Int64)) [(.long i2), (.long v28), (.long v23), (.ref b30), (.ref b30)])) _
        refine XS.lload X30.here hx rfl (hb hby at_120) rfl ?_
        show Steps p.tables e below (T30.setTop (mkF m 122 (own_L6 i0 i1 i2 i3 i4 v23 v28 v10 (0 : Int64)) [(.long i3), (.long i2), (.long v28), (.long v23), (.ref b30), (.ref b30)])) _
        refine XS.lloadN X30.here hx rfl (hb hby at_122) rfl ?_
        show Steps p.tables e below (T30.setTop (mkF m 123 (own_L6 i0 i1 i2 i3 i4 v23 v28 v10 (0 : Int64)) [(.long i0), (.long i3), (.long i2), (.long v28), (.long v23), (.ref b30), (.ref b30)])) _
        refine XS.lloadN X30.here hx rfl (hb hby at_123) rfl ?_
        exact k)
      obtain ⟨_, _, ⟨T40, L40, k40, n40⟩, -, X40, ⟨Lc40, hQ40, l40, y40, z40⟩, st40⟩ := X30.specialBack hx (y := (⟨"com/example/tinyward/tinyward/CacheStats", "<init>", "(JJJJJJ)V"⟩ : MethodName)) rfl hown (mvT hZ (hw _ (List.mem_of_getElem? (i := 4) rfl))) (mvT hZ (hw _ (List.mem_of_getElem? (i := 5) rfl))) (mvT hZ (hw _ (List.mem_of_getElem? (i := 6) rfl))) (by decide) (backOf (W := 1) (rm1 l Z a0 hw [] b30 v23 v28 i2 i3 i0 i1 h30 n0 Z_31 A30 F_32 F_33 F_34 F_35 F_36 F_37 g_b30) hZ (hw _ (List.mem_of_getElem? (i := 6) rfl)) (hw _ (List.mem_of_getElem? (i := 3) rfl)) (by decide) (by decide)) (g := (mkF m 124 (own_L6 i0 i1 i2 i3 i4 v23 v28 v10 (0 : Int64)) [(.long i1), (.long i0), (.long i3), (.long i2), (.long v28), (.long v23), (.ref b30), (.ref b30)])) rfl (by rw [hml]; rfl) (Steps.refl _) (a := b30) (argsL := [(.long v23), (.long v28), (.long i2), (.long i3), (.long i0), (.long i1)]) (rest := [(.ref b30)]) (lenOf pd_1 rfl) rfl (by show 2 * 0 + _ ≤ _; exact Nat.le_of_eq rfl) (hb hby at_124) (fun _ _ => ⟨rfl, e30, (by decide : (0 + 1) + 0 ≤ _), (by decide : (0 + 6) + 0 ≤ _)⟩)
      dsimp only [Pt.U, Pt.locs, Pt.cells, Pt.slots] at X40 l40 y40 z40 st40 hQ40
      subst l40 y40 z40
      obtain ⟨rfl, N40q, K40q, E40q, F40q0, F40q1⟩ := hQ40
      have N40 := Fr.app N0 N40q
      have Z_41 : n0 ≤ T40.heap.size := Nat.le_trans Z_31 K40q.1
      have E_42 : Exa Z T40.heap b30 "com/example/tinyward/tinyward/CacheStats" := A30.keep K40q
      have P43 : own_Rch p.tables e below A0 (T40.setTop (mkF m 127 (own_L6 i0 i1 i2 i3 i4 v23 v28 v10 (0 : Int64)) [(.ref b30)])) := fun t k => P39 t (st40.trans k)
      obtain ⟨cq44, kq44, q44a, q44b, q44c⟩ := isOf hZ rfl E_42
      obtain ⟨_, _, ⟨T44, L44, k44, n44⟩, -, X44, ⟨Lc44, hQ44, l44, y44, z44⟩, st44⟩ := X40.virtualBack hx (y := (⟨"com/example/tinyward/tinyward/CacheStats", "hitRate", "()D"⟩ : MethodName)) (z := (⟨"com/example/tinyward/tinyward/CacheStats", "hitRate", "()D"⟩ : MethodName)) hown (mvT hZ (hw _ (List.mem_of_getElem? (i := 27) rfl))) (mvT hZ (hw _ (List.mem_of_getElem? (i := 28) rfl))) (notFace_of_selects (args := #[]) (mvT hZ (hw _ (List.mem_of_getElem? (i := 30) rfl)))) (mvT hZ (hw _ (List.mem_of_getElem? (i := 30) rfl))) (mvT hZ (hw _ (List.mem_of_getElem? (i := 29) rfl))) (by decide) (backOf (W := 0) (rm4 l Z a0 hw [] b30 v23 v28 T40.heap n0 Z_41 F40q0 F40q1 (fun z => own_nn (n := v23 + v28) b1.1 (by omega) z)) hZ (hw _ (List.mem_of_getElem? (i := 31) rfl)) (hw _ (List.mem_of_getElem? (i := 3) rfl)) (by decide) (by decide)) q44a q44c (g := (mkF m 127 (own_L6 i0 i1 i2 i3 i4 v23 v28 v10 (0 : Int64)) [(.ref b30)])) rfl (by rw [hml]; rfl) (Steps.refl _) (argsL := []) (rest := []) (lenOf pd_2 rfl) rfl (by show 2 * 0 + _ ≤ _; exact Nat.le_of_eq rfl) (hb hby at_127) (fun _ _ => ⟨rfl, rfl, (by decide : (0 + 1 + 0) + 0 ≤ _), (by decide : (0 + 6 + 0) + 0 ≤ _)⟩)
      dsimp only [Pt.U, Pt.locs, Pt.cells, Pt.slots] at X44 l44 y44 z44 st44 hQ44
      subst l44 y44 z44
      obtain ⟨rfl, N44q, e44⟩ := hQ44
      have N44 := Fr.app N40 N44q
      have P45 : own_Rch p.tables e below A0 (T44.setTop (mkF m 130 (own_L6 i0 i1 i2 i3 i4 v23 v28 v10 (0 : Int64)) [(.double (own_hr v23 v28))])) := fun t k => P43 t (st44.trans k)
      have P46 : own_Rch p.tables e below A0 (T44.setTop (mkF m 139 (own_L8 i0 i1 i2 i3 i4 v23 v28 v10 (0 : Int64) (own_hr v23 v28) (v23 + v28)) [])) := fun t k => P45 t (by
        show Steps p.tables e below (T44.setTop (mkF m 130 (own_L6 i0 i1 i2 i3 i4 v23 v28 v10 (0 : Int64)) [(.double (own_hr v23 v28))])) _
        refine XS.dstore X44.here hx rfl (hb hby at_130) rfl (l' := (own_L7 i0 i1 i2 i3 i4 v23 v28 v10 (0 : Int64) (own_hr v23 v28))) rfl ?_
        show Steps p.tables e below (T44.setTop (mkF m 132 (own_L7 i0 i1 i2 i3 i4 v23 v28 v10 (0 : Int64) (own_hr v23 v28)) [])) _
        refine XS.lload X44.here hx rfl (hb hby at_132) rfl ?_
        show Steps p.tables e below (T44.setTop (mkF m 134 (own_L7 i0 i1 i2 i3 i4 v23 v28 v10 (0 : Int64) (own_hr v23 v28)) [(.long v23)])) _
        refine XS.lload X44.here hx rfl (hb hby at_134) rfl ?_
        show Steps p.tables e below (T44.setTop (mkF m 136 (own_L7 i0 i1 i2 i3 i4 v23 v28 v10 (0 : Int64) (own_hr v23 v28)) [(.long v28), (.long v23)])) _
        refine XS.ladd X44.here hx rfl (hb hby at_136) rfl ?_
        show Steps p.tables e below (T44.setTop (mkF m 137 (own_L7 i0 i1 i2 i3 i4 v23 v28 v10 (0 : Int64) (own_hr v23 v28)) [(.long (v23 + v28))])) _
        refine XS.lstore X44.here hx rfl (hb hby at_137) rfl (l' := (own_L8 i0 i1 i2 i3 i4 v23 v28 v10 (0 : Int64) (own_hr v23 v28) (v23 + v28))) rfl ?_
        exact k)
      obtain ⟨v47, hv47, P48⟩ : ∃ z : Int64, z = (v23 + v28) ∧ own_Rch p.tables e below A0 (T44.setTop (mkF m 139 (own_L8 i0 i1 i2 i3 i4 v23 v28 v10 (0 : Int64) (own_hr v23 v28) z) [])) := ⟨_, rfl, P46⟩
      have P50 : own_Rch p.tables e below A0 (T44.setTop (mkF m 143 (own_L8 i0 i1 i2 i3 i4 v23 v28 v10 (0 : Int64) (own_hr v23 v28) v47) [(.int (lcmpW v47 (0 : Int64)))])) := fun t k => P48 t (by
        show Steps p.tables e below (T44.setTop (mkF m 139 (own_L8 i0 i1 i2 i3 i4 v23 v28 v10 (0 : Int64) (own_hr v23 v28) v47) [])) _
        refine XS.lload X44.here hx rfl (hb hby at_139) rfl ?_
        show Steps p.tables e below (T44.setTop (mkF m 141 (own_L8 i0 i1 i2 i3 i4 v23 v28 v10 (0 : Int64) (own_hr v23 v28) v47) [(.long v47)])) _
        refine XS.lconst X44.here hx rfl (hb hby at_141) ?_
        show Steps p.tables e below (T44.setTop (mkF m 142 (own_L8 i0 i1 i2 i3 i4 v23 v28 v10 (0 : Int64) (own_hr v23 v28) v47) [(.long (0 : Int64)), (.long v47)])) _
        refine XS.lcmp X44.here hx rfl (hb hby at_142) rfl ?_
        exact k)
      by_cases hc49 : v47 = (0 : Int64)
      · -- v47 = (0 : Int64)
        have P52 : own_Rch p.tables e below A0 (T44.setTop (mkF m 150 (own_L8 i0 i1 i2 i3 i4 v23 v28 v10 (0 : Int64) (own_hr v23 v28) v47) [(.int (cmpValue (FP.dcmp (own_hr v23 v28) FP.dconst1) .l))])) := fun t k => P50 t (by
          show Steps p.tables e below (T44.setTop (mkF m 143 (own_L8 i0 i1 i2 i3 i4 v23 v28 v10 (0 : Int64) (own_hr v23 v28) v47) [(.int (lcmpW v47 (0 : Int64)))])) _
          refine XS.ifNo X44.here hx rfl (hb hby at_143) rfl (own_lct3 hc49).2 ?_
          show Steps p.tables e below (T44.setTop (mkF m 146 (own_L8 i0 i1 i2 i3 i4 v23 v28 v10 (0 : Int64) (own_hr v23 v28) v47) [])) _
          refine XS.dload X44.here hx rfl (hb hby at_146) rfl ?_
          show Steps p.tables e below (T44.setTop (mkF m 148 (own_L8 i0 i1 i2 i3 i4 v23 v28 v10 (0 : Int64) (own_hr v23 v28) v47) [(.double (own_hr v23 v28))])) _
          refine XS.dconst1 X44.here hx rfl (hb hby at_148) rfl ?_
          show Steps p.tables e below (T44.setTop (mkF m 149 (own_L8 i0 i1 i2 i3 i4 v23 v28 v10 (0 : Int64) (own_hr v23 v28) v47) [(.double FP.dconst1), (.double (own_hr v23 v28))])) _
          refine XS.dcmpS X44.here hx rfl (hb hby at_149) rfl rfl ?_
          exact k)
        obtain ⟨v54, hv54⟩ : ∃ z : Int32, z = (if (cmpValue (FP.dcmp (own_hr v23 v28) FP.dconst1) .l) = (0 : Int32) then (1 : Int32) else (0 : Int32)) := ⟨_, rfl⟩
        have P55 : own_Rch p.tables e below A0 (T44.setTop (mkF m 158 (own_L8 i0 i1 i2 i3 i4 v23 v28 v10 (0 : Int64) (own_hr v23 v28) v47) [(.int v54)])) := fun t k => P52 t (by
          by_cases hc53 : (cmpValue (FP.dcmp (own_hr v23 v28) FP.dconst1) .l) = (0 : Int32)
          · show Steps p.tables e below (T44.setTop (mkF m 150 (own_L8 i0 i1 i2 i3 i4 v23 v28 v10 (0 : Int64) (own_hr v23 v28) v47) [(.int (cmpValue (FP.dcmp (own_hr v23 v28) FP.dconst1) .l))])) _
            refine XS.ifNo X44.here hx rfl (hb hby at_150) rfl ((if0 _ _).trans (teq hc53).2) ?_
            have qv54 : v54 = (1 : Int32) := by rw [hv54]; simp only [if_pos hc53]
            rw [qv54] at k
            show Steps p.tables e below (T44.setTop (mkF m 153 (own_L8 i0 i1 i2 i3 i4 v23 v28 v10 (0 : Int64) (own_hr v23 v28) v47) [])) _
            refine XS.iconst X44.here hx rfl (hb hby at_153) ?_
            show Steps p.tables e below (T44.setTop (mkF m 154 (own_L8 i0 i1 i2 i3 i4 v23 v28 v10 (0 : Int64) (own_hr v23 v28) v47) [(.int (1 : Int32))])) _
            refine XS.goto X44.here hx rfl (pc0 := 154) (pc' := 158) rfl (hb hby at_154) (by decide) (by decide) ?_
            exact k
          · show Steps p.tables e below (T44.setTop (mkF m 150 (own_L8 i0 i1 i2 i3 i4 v23 v28 v10 (0 : Int64) (own_hr v23 v28) v47) [(.int (cmpValue (FP.dcmp (own_hr v23 v28) FP.dconst1) .l))])) _
            refine XS.ifYes X44.here hx rfl (pc0 := 150) (pc' := 157) rfl (hb hby at_150) rfl ((if0 _ _).trans (feq hc53).2) (by decide) (by decide) ?_
            have qv54 : v54 = (0 : Int32) := by rw [hv54]; simp only [if_neg hc53]
            rw [qv54] at k
            show Steps p.tables e below (T44.setTop (mkF m 157 (own_L8 i0 i1 i2 i3 i4 v23 v28 v10 (0 : Int64) (own_hr v23 v28) v47) [])) _
            refine XS.iconst X44.here hx rfl (hb hby at_157) ?_
            exact k)
        have P56 : own_Rch p.tables e below A0 (T44.setTop (mkF m 295 (own_L1 i0 i1 i2 i3 i4 v23 v28 v10 (0 : Int64) (own_hr v23 v28) v54 v47) [])) := fun t k => P55 t (by
          show Steps p.tables e below (T44.setTop (mkF m 158 (own_L8 i0 i1 i2 i3 i4 v23 v28 v10 (0 : Int64) (own_hr v23 v28) v47) [(.int v54)])) _
          refine XS.istore X44.here hx rfl (hb hby at_158) rfl (l' := (own_L1 i0 i1 i2 i3 i4 v23 v28 v10 (0 : Int64) (own_hr v23 v28) v54 v47)) rfl ?_
          show Steps p.tables e below (T44.setTop (mkF m 160 (own_L1 i0 i1 i2 i3 i4 v23 v28 v10 (0 : Int64) (own_hr v23 v28) v54 v47) [])) _
          refine XS.goto X44.here hx rfl (pc0 := 160) (pc' := 295) rfl (hb hby at_160) (by decide) (by decide) ?_
          exact k)
        have hr : own_hr v23 v28 = FP.dconst1 := by unfold own_hr; rw [← hv47, if_pos hc49]
        have okv54 : v54 = (1 : Int32) := by
          rw [hv54, hr, own_ord (x := FP.dconst1) (y := FP.dconst1) FP.Core.val64_dconst1 FP.Core.val64_dconst1, own_ce rfl, if_pos rfl]
        rw [okv54] at P56
        exact tail ⟨T44, _, _, v23, v28, v10, (0 : Int64), (own_hr v23 v28), v47, X44, e44, Z_41, N44, P56⟩
      · -- not v47 = (0 : Int64)
        have P57 : own_Rch p.tables e below A0 (T44.setTop (mkF m 163 (own_L8 i0 i1 i2 i3 i4 v23 v28 v10 (0 : Int64) (own_hr v23 v28) v47) [])) := fun t k => P50 t (by
          show Steps p.tables e below (T44.setTop (mkF m 143 (own_L8 i0 i1 i2 i3 i4 v23 v28 v10 (0 : Int64) (own_hr v23 v28) v47) [(.int (lcmpW v47 (0 : Int64)))])) _
          refine XS.ifYes X44.here hx rfl (pc0 := 143) (pc' := 163) rfl (hb hby at_143) rfl (own_lcf3 hc49).2 (by decide) (by decide) ?_
          exact k)
        have hr : own_hr v23 v28 = FP.ddiv (FP.l2d v23) (FP.l2d v47) := by unfold own_hr; rw [← hv47, if_neg hc49]
        have bn : v47.toInt = v23.toInt + v28.toInt := by rw [hv47]; exact bs
        have z0 : (0 : Int64).toInt = 0 := rfl
        have FA := own_A (n := v47) b1.1 (by omega) hc49
        rw [← hr] at FA
        have FB : v28 = 0 → cmpValue (FP.dcmp (own_hr v23 v28) FP.dconst1) .l = 0 := fun z => by
          have e : v47 = v23 := by rw [hv47, z, Int64.add_zero]
          rw [hr, ← e]; exact own_B (by omega) hc49
        have FC : v23 = 0 → cmpValue (FP.dcmp (own_hr v23 v28) FP.dconst0) .l = 0 := fun z => by
          rw [hr, z]; exact own_C (by omega) hc49
        have FD : v23 = v28 → cmpValue (FP.dcmp (own_hr v23 v28) 4602678819172646912) .l = 0 := fun z => by
          have hp : 0 < v23.toInt := by
            have q : v47.toInt ≠ 0 := FP.Core.int64_ne hc49
            have z' := congrArg Int64.toInt z
            omega
          rw [hr, hv47, ← z]; exact own_D hp b1.2.1
        have P59 : own_Rch p.tables e below A0 (T44.setTop (mkF m 167 (own_L8 i0 i1 i2 i3 i4 v23 v28 v10 (0 : Int64) (own_hr v23 v28) v47) [(.int (cmpValue (FP.dcmp FP.dconst0 (own_hr v23 v28)) .g))])) := fun t k => P57 t (by
          show Steps p.tables e below (T44.setTop (mkF m 163 (own_L8 i0 i1 i2 i3 i4 v23 v28 v10 (0 : Int64) (own_hr v23 v28) v47) [])) _
          refine XS.dconst0 X44.here hx rfl (hb hby at_163) rfl ?_
          show Steps p.tables e below (T44.setTop (mkF m 164 (own_L8 i0 i1 i2 i3 i4 v23 v28 v10 (0 : Int64) (own_hr v23 v28) v47) [(.double FP.dconst0)])) _
          refine XS.dload X44.here hx rfl (hb hby at_164) rfl ?_
          show Steps p.tables e below (T44.setTop (mkF m 166 (own_L8 i0 i1 i2 i3 i4 v23 v28 v10 (0 : Int64) (own_hr v23 v28) v47) [(.double (own_hr v23 v28)), (.double FP.dconst0)])) _
          refine XS.dcmpS X44.here hx rfl (hb hby at_166) rfl rfl ?_
          exact k)
        obtain ⟨v62, hv62⟩ : ∃ z : Int32, z = (if (0 : Int32) < (cmpValue (FP.dcmp FP.dconst0 (own_hr v23 v28)) .g) then (0 : Int32) else (if (0 : Int32) < (cmpValue (FP.dcmp (own_hr v23 v28) FP.dconst1) .g) then (0 : Int32) else (1 : Int32))) := ⟨_, rfl⟩
        have P63 : own_Rch p.tables e below A0 (T44.setTop (mkF m 182 (own_L8 i0 i1 i2 i3 i4 v23 v28 v10 (0 : Int64) (own_hr v23 v28) v47) [(.int v62)])) := fun t k => P59 t (by
          by_cases hc60 : (0 : Int32) < (cmpValue (FP.dcmp FP.dconst0 (own_hr v23 v28)) .g)
          · show Steps p.tables e below (T44.setTop (mkF m 167 (own_L8 i0 i1 i2 i3 i4 v23 v28 v10 (0 : Int64) (own_hr v23 v28) v47) [(.int (cmpValue (FP.dcmp FP.dconst0 (own_hr v23 v28)) .g))])) _
            refine XS.ifYes X44.here hx rfl (pc0 := 167) (pc' := 181) rfl (hb hby at_167) rfl ((if0 _ _).trans (tlt hc60).2.2.1) (by decide) (by decide) ?_
            have qv62 : v62 = (0 : Int32) := by rw [hv62]; simp only [if_pos hc60]
            rw [qv62] at k
            show Steps p.tables e below (T44.setTop (mkF m 181 (own_L8 i0 i1 i2 i3 i4 v23 v28 v10 (0 : Int64) (own_hr v23 v28) v47) [])) _
            refine XS.iconst X44.here hx rfl (hb hby at_181) ?_
            exact k
          · show Steps p.tables e below (T44.setTop (mkF m 167 (own_L8 i0 i1 i2 i3 i4 v23 v28 v10 (0 : Int64) (own_hr v23 v28) v47) [(.int (cmpValue (FP.dcmp FP.dconst0 (own_hr v23 v28)) .g))])) _
            refine XS.ifNo X44.here hx rfl (hb hby at_167) rfl ((if0 _ _).trans (flt hc60).2.2.1) ?_
            show Steps p.tables e below (T44.setTop (mkF m 170 (own_L8 i0 i1 i2 i3 i4 v23 v28 v10 (0 : Int64) (own_hr v23 v28) v47) [])) _
            refine XS.dload X44.here hx rfl (hb hby at_170) rfl ?_
            show Steps p.tables e below (T44.setTop (mkF m 172 (own_L8 i0 i1 i2 i3 i4 v23 v28 v10 (0 : Int64) (own_hr v23 v28) v47) [(.double (own_hr v23 v28))])) _
            refine XS.dconst1 X44.here hx rfl (hb hby at_172) rfl ?_
            show Steps p.tables e below (T44.setTop (mkF m 173 (own_L8 i0 i1 i2 i3 i4 v23 v28 v10 (0 : Int64) (own_hr v23 v28) v47) [(.double FP.dconst1), (.double (own_hr v23 v28))])) _
            refine XS.dcmpS X44.here hx rfl (hb hby at_173) rfl rfl ?_
            by_cases hc61 : (0 : Int32) < (cmpValue (FP.dcmp (own_hr v23 v28) FP.dconst1) .g)
            · show Steps p.tables e below (T44.setTop (mkF m 174 (own_L8 i0 i1 i2 i3 i4 v23 v28 v10 (0 : Int64) (own_hr v23 v28) v47) [(.int (cmpValue (FP.dcmp (own_hr v23 v28) FP.dconst1) .g))])) _
              refine XS.ifYes X44.here hx rfl (pc0 := 174) (pc' := 181) rfl (hb hby at_174) rfl ((if0 _ _).trans (tlt hc61).2.2.1) (by decide) (by decide) ?_
              have qv62 : v62 = (0 : Int32) := by rw [hv62]; simp only [if_neg hc60, if_pos hc61]
              rw [qv62] at k
              show Steps p.tables e below (T44.setTop (mkF m 181 (own_L8 i0 i1 i2 i3 i4 v23 v28 v10 (0 : Int64) (own_hr v23 v28) v47) [])) _
              refine XS.iconst X44.here hx rfl (hb hby at_181) ?_
              exact k
            · show Steps p.tables e below (T44.setTop (mkF m 174 (own_L8 i0 i1 i2 i3 i4 v23 v28 v10 (0 : Int64) (own_hr v23 v28) v47) [(.int (cmpValue (FP.dcmp (own_hr v23 v28) FP.dconst1) .g))])) _
              refine XS.ifNo X44.here hx rfl (hb hby at_174) rfl ((if0 _ _).trans (flt hc61).2.2.1) ?_
              have qv62 : v62 = (1 : Int32) := by rw [hv62]; simp only [if_neg hc60, if_neg hc61]
              rw [qv62] at k
              show Steps p.tables e below (T44.setTop (mkF m 177 (own_L8 i0 i1 i2 i3 i4 v23 v28 v10 (0 : Int64) (own_hr v23 v28) v47) [])) _
              refine XS.iconst X44.here hx rfl (hb hby at_177) ?_
              show Steps p.tables e below (T44.setTop (mkF m 178 (own_L8 i0 i1 i2 i3 i4 v23 v28 v10 (0 : Int64) (own_hr v23 v28) v47) [(.int (1 : Int32))])) _
              refine XS.goto X44.here hx rfl (pc0 := 178) (pc' := 182) rfl (hb hby at_178) (by decide) (by decide) ?_
              exact k)
        have P64 : own_Rch p.tables e below A0 (T44.setTop (mkF m 184 (own_L1 i0 i1 i2 i3 i4 v23 v28 v10 (0 : Int64) (own_hr v23 v28) v62 v47) [])) := fun t k => P63 t (by
          show Steps p.tables e below (T44.setTop (mkF m 182 (own_L8 i0 i1 i2 i3 i4 v23 v28 v10 (0 : Int64) (own_hr v23 v28) v47) [(.int v62)])) _
          refine XS.istore X44.here hx rfl (hb hby at_182) rfl (l' := (own_L1 i0 i1 i2 i3 i4 v23 v28 v10 (0 : Int64) (own_hr v23 v28) v62 v47)) rfl ?_
          exact k)
        have okv62 : v62 = (1 : Int32) := by
          rw [hv62, if_neg FA.1, if_neg FA.2]
        rw [okv62] at P64
        have P66 : own_Rch p.tables e below A0 (T44.setTop (mkF m 188 (own_L1 i0 i1 i2 i3 i4 v23 v28 v10 (0 : Int64) (own_hr v23 v28) (1 : Int32) v47) [(.int (lcmpW v28 (0 : Int64)))])) := fun t k => P64 t (by
          show Steps p.tables e below (T44.setTop (mkF m 184 (own_L1 i0 i1 i2 i3 i4 v23 v28 v10 (0 : Int64) (own_hr v23 v28) (1 : Int32) v47) [])) _
          refine XS.lload X44.here hx rfl (hb hby at_184) rfl ?_
          show Steps p.tables e below (T44.setTop (mkF m 186 (own_L1 i0 i1 i2 i3 i4 v23 v28 v10 (0 : Int64) (own_hr v23 v28) (1 : Int32) v47) [(.long v28)])) _
          refine XS.lconst X44.here hx rfl (hb hby at_186) ?_
          show Steps p.tables e below (T44.setTop (mkF m 187 (own_L1 i0 i1 i2 i3 i4 v23 v28 v10 (0 : Int64) (own_hr v23 v28) (1 : Int32) v47) [(.long (0 : Int64)), (.long v28)])) _
          refine XS.lcmp X44.here hx rfl (hb hby at_187) rfl ?_
          exact k)
        obtain ⟨v69, hv69⟩ : ∃ z : Int32, z = (if v28 = (0 : Int64) then (if (cmpValue (FP.dcmp (own_hr v23 v28) FP.dconst1) .l) = (0 : Int32) then (1 : Int32) else (0 : Int32)) else (1 : Int32)) := ⟨_, rfl⟩
        have P70 : own_Rch p.tables e below A0 (T44.setTop (mkF m 210 (own_L1 i0 i1 i2 i3 i4 v23 v28 v10 (0 : Int64) (own_hr v23 v28) v69 v47) [])) := fun t k => P66 t (by
          by_cases hc67 : v28 = (0 : Int64)
          · show Steps p.tables e below (T44.setTop (mkF m 188 (own_L1 i0 i1 i2 i3 i4 v23 v28 v10 (0 : Int64) (own_hr v23 v28) (1 : Int32) v47) [(.int (lcmpW v28 (0 : Int64)))])) _
            refine XS.ifNo X44.here hx rfl (hb hby at_188) rfl (own_lct3 hc67).2 ?_
            show Steps p.tables e below (T44.setTop (mkF m 191 (own_L1 i0 i1 i2 i3 i4 v23 v28 v10 (0 : Int64) (own_hr v23 v28) (1 : Int32) v47) [])) _
            refine XS.iload X44.here hx rfl (hb hby at_191) rfl ?_
            show Steps p.tables e below (T44.setTop (mkF m 193 (own_L1 i0 i1 i2 i3 i4 v23 v28 v10 (0 : Int64) (own_hr v23 v28) (1 : Int32) v47) [(.int (1 : Int32))])) _
            refine XS.ifNo X44.here hx rfl (hb hby at_193) rfl ((if0 _ _).trans (feq (by decide : ¬ ((1 : Int32) = (0 : Int32)))).1) ?_
            show Steps p.tables e below (T44.setTop (mkF m 196 (own_L1 i0 i1 i2 i3 i4 v23 v28 v10 (0 : Int64) (own_hr v23 v28) (1 : Int32) v47) [])) _
            refine XS.dload X44.here hx rfl (hb hby at_196) rfl ?_
            show Steps p.tables e below (T44.setTop (mkF m 198 (own_L1 i0 i1 i2 i3 i4 v23 v28 v10 (0 : Int64) (own_hr v23 v28) (1 : Int32) v47) [(.double (own_hr v23 v28))])) _
            refine XS.dconst1 X44.here hx rfl (hb hby at_198) rfl ?_
            show Steps p.tables e below (T44.setTop (mkF m 199 (own_L1 i0 i1 i2 i3 i4 v23 v28 v10 (0 : Int64) (own_hr v23 v28) (1 : Int32) v47) [(.double FP.dconst1), (.double (own_hr v23 v28))])) _
            refine XS.dcmpS X44.here hx rfl (hb hby at_199) rfl rfl ?_
            by_cases hc68 : (cmpValue (FP.dcmp (own_hr v23 v28) FP.dconst1) .l) = (0 : Int32)
            · show Steps p.tables e below (T44.setTop (mkF m 200 (own_L1 i0 i1 i2 i3 i4 v23 v28 v10 (0 : Int64) (own_hr v23 v28) (1 : Int32) v47) [(.int (cmpValue (FP.dcmp (own_hr v23 v28) FP.dconst1) .l))])) _
              refine XS.ifNo X44.here hx rfl (hb hby at_200) rfl ((if0 _ _).trans (teq hc68).2) ?_
              have qv69 : v69 = (1 : Int32) := by rw [hv69]; simp only [if_pos hc67, if_pos hc68]
              rw [qv69] at k
              show Steps p.tables e below (T44.setTop (mkF m 203 (own_L1 i0 i1 i2 i3 i4 v23 v28 v10 (0 : Int64) (own_hr v23 v28) (1 : Int32) v47) [])) _
              refine XS.iconst X44.here hx rfl (hb hby at_203) ?_
              show Steps p.tables e below (T44.setTop (mkF m 204 (own_L1 i0 i1 i2 i3 i4 v23 v28 v10 (0 : Int64) (own_hr v23 v28) (1 : Int32) v47) [(.int (1 : Int32))])) _
              refine XS.goto X44.here hx rfl (pc0 := 204) (pc' := 208) rfl (hb hby at_204) (by decide) (by decide) ?_
              show Steps p.tables e below (T44.setTop (mkF m 208 (own_L1 i0 i1 i2 i3 i4 v23 v28 v10 (0 : Int64) (own_hr v23 v28) (1 : Int32) v47) [(.int (1 : Int32))])) _
              refine XS.istore X44.here hx rfl (hb hby at_208) rfl (l' := (own_L1 i0 i1 i2 i3 i4 v23 v28 v10 (0 : Int64) (own_hr v23 v28) (1 : Int32) v47)) rfl ?_
              exact k
            · show Steps p.tables e below (T44.setTop (mkF m 200 (own_L1 i0 i1 i2 i3 i4 v23 v28 v10 (0 : Int64) (own_hr v23 v28) (1 : Int32) v47) [(.int (cmpValue (FP.dcmp (own_hr v23 v28) FP.dconst1) .l))])) _
              refine XS.ifYes X44.here hx rfl (pc0 := 200) (pc' := 207) rfl (hb hby at_200) rfl ((if0 _ _).trans (feq hc68).2) (by decide) (by decide) ?_
              have qv69 : v69 = (0 : Int32) := by rw [hv69]; simp only [if_pos hc67, if_neg hc68]
              rw [qv69] at k
              show Steps p.tables e below (T44.setTop (mkF m 207 (own_L1 i0 i1 i2 i3 i4 v23 v28 v10 (0 : Int64) (own_hr v23 v28) (1 : Int32) v47) [])) _
              refine XS.iconst X44.here hx rfl (hb hby at_207) ?_
              show Steps p.tables e below (T44.setTop (mkF m 208 (own_L1 i0 i1 i2 i3 i4 v23 v28 v10 (0 : Int64) (own_hr v23 v28) (1 : Int32) v47) [(.int (0 : Int32))])) _
              refine XS.istore X44.here hx rfl (hb hby at_208) rfl (l' := (own_L1 i0 i1 i2 i3 i4 v23 v28 v10 (0 : Int64) (own_hr v23 v28) (0 : Int32) v47)) rfl ?_
              exact k
          · show Steps p.tables e below (T44.setTop (mkF m 188 (own_L1 i0 i1 i2 i3 i4 v23 v28 v10 (0 : Int64) (own_hr v23 v28) (1 : Int32) v47) [(.int (lcmpW v28 (0 : Int64)))])) _
            refine XS.ifYes X44.here hx rfl (pc0 := 188) (pc' := 210) rfl (hb hby at_188) rfl (own_lcf3 hc67).2 (by decide) (by decide) ?_
            have qv69 : v69 = (1 : Int32) := by rw [hv69]; simp only [if_neg hc67]
            rw [qv69] at k
            exact k)
        have okv69 : v69 = (1 : Int32) := by
          rw [hv69]
          by_cases z : v28 = (0 : Int64)
          · rw [if_pos z, if_pos (FB z)]
          · rw [if_neg z]
        rw [okv69] at P70
        have P72 : own_Rch p.tables e below A0 (T44.setTop (mkF m 214 (own_L1 i0 i1 i2 i3 i4 v23 v28 v10 (0 : Int64) (own_hr v23 v28) (1 : Int32) v47) [(.int (lcmpW v23 (0 : Int64)))])) := fun t k => P70 t (by
          show Steps p.tables e below (T44.setTop (mkF m 210 (own_L1 i0 i1 i2 i3 i4 v23 v28 v10 (0 : Int64) (own_hr v23 v28) (1 : Int32) v47) [])) _
          refine XS.lload X44.here hx rfl (hb hby at_210) rfl ?_
          show Steps p.tables e below (T44.setTop (mkF m 212 (own_L1 i0 i1 i2 i3 i4 v23 v28 v10 (0 : Int64) (own_hr v23 v28) (1 : Int32) v47) [(.long v23)])) _
          refine XS.lconst X44.here hx rfl (hb hby at_212) ?_
          show Steps p.tables e below (T44.setTop (mkF m 213 (own_L1 i0 i1 i2 i3 i4 v23 v28 v10 (0 : Int64) (own_hr v23 v28) (1 : Int32) v47) [(.long (0 : Int64)), (.long v23)])) _
          refine XS.lcmp X44.here hx rfl (hb hby at_213) rfl ?_
          exact k)
        obtain ⟨v75, hv75⟩ : ∃ z : Int32, z = (if v23 = (0 : Int64) then (if (cmpValue (FP.dcmp (own_hr v23 v28) FP.dconst0) .l) = (0 : Int32) then (1 : Int32) else (0 : Int32)) else (1 : Int32)) := ⟨_, rfl⟩
        have P76 : own_Rch p.tables e below A0 (T44.setTop (mkF m 236 (own_L1 i0 i1 i2 i3 i4 v23 v28 v10 (0 : Int64) (own_hr v23 v28) v75 v47) [])) := fun t k => P72 t (by
          by_cases hc73 : v23 = (0 : Int64)
          · show Steps p.tables e below (T44.setTop (mkF m 214 (own_L1 i0 i1 i2 i3 i4 v23 v28 v10 (0 : Int64) (own_hr v23 v28) (1 : Int32) v47) [(.int (lcmpW v23 (0 : Int64)))])) _
            refine XS.ifNo X44.here hx rfl (hb hby at_214) rfl (own_lct3 hc73).2 ?_
            show Steps p.tables e below (T44.setTop (mkF m 217 (own_L1 i0 i1 i2 i3 i4 v23 v28 v10 (0 : Int64) (own_hr v23 v28) (1 : Int32) v47) [])) _
            refine XS.iload X44.here hx rfl (hb hby at_217) rfl ?_
            show Steps p.tables e below (T44.setTop (mkF m 219 (own_L1 i0 i1 i2 i3 i4 v23 v28 v10 (0 : Int64) (own_hr v23 v28) (1 : Int32) v47) [(.int (1 : Int32))])) _
            refine XS.ifNo X44.here hx rfl (hb hby at_219) rfl ((if0 _ _).trans (feq (by decide : ¬ ((1 : Int32) = (0 : Int32)))).1) ?_
            show Steps p.tables e below (T44.setTop (mkF m 222 (own_L1 i0 i1 i2 i3 i4 v23 v28 v10 (0 : Int64) (own_hr v23 v28) (1 : Int32) v47) [])) _
            refine XS.dload X44.here hx rfl (hb hby at_222) rfl ?_
            show Steps p.tables e below (T44.setTop (mkF m 224 (own_L1 i0 i1 i2 i3 i4 v23 v28 v10 (0 : Int64) (own_hr v23 v28) (1 : Int32) v47) [(.double (own_hr v23 v28))])) _
            refine XS.dconst0 X44.here hx rfl (hb hby at_224) rfl ?_
            show Steps p.tables e below (T44.setTop (mkF m 225 (own_L1 i0 i1 i2 i3 i4 v23 v28 v10 (0 : Int64) (own_hr v23 v28) (1 : Int32) v47) [(.double FP.dconst0), (.double (own_hr v23 v28))])) _
            refine XS.dcmpS X44.here hx rfl (hb hby at_225) rfl rfl ?_
            by_cases hc74 : (cmpValue (FP.dcmp (own_hr v23 v28) FP.dconst0) .l) = (0 : Int32)
            · show Steps p.tables e below (T44.setTop (mkF m 226 (own_L1 i0 i1 i2 i3 i4 v23 v28 v10 (0 : Int64) (own_hr v23 v28) (1 : Int32) v47) [(.int (cmpValue (FP.dcmp (own_hr v23 v28) FP.dconst0) .l))])) _
              refine XS.ifNo X44.here hx rfl (hb hby at_226) rfl ((if0 _ _).trans (teq hc74).2) ?_
              have qv75 : v75 = (1 : Int32) := by rw [hv75]; simp only [if_pos hc73, if_pos hc74]
              rw [qv75] at k
              show Steps p.tables e below (T44.setTop (mkF m 229 (own_L1 i0 i1 i2 i3 i4 v23 v28 v10 (0 : Int64) (own_hr v23 v28) (1 : Int32) v47) [])) _
              refine XS.iconst X44.here hx rfl (hb hby at_229) ?_
              show Steps p.tables e below (T44.setTop (mkF m 230 (own_L1 i0 i1 i2 i3 i4 v23 v28 v10 (0 : Int64) (own_hr v23 v28) (1 : Int32) v47) [(.int (1 : Int32))])) _
              refine XS.goto X44.here hx rfl (pc0 := 230) (pc' := 234) rfl (hb hby at_230) (by decide) (by decide) ?_
              show Steps p.tables e below (T44.setTop (mkF m 234 (own_L1 i0 i1 i2 i3 i4 v23 v28 v10 (0 : Int64) (own_hr v23 v28) (1 : Int32) v47) [(.int (1 : Int32))])) _
              refine XS.istore X44.here hx rfl (hb hby at_234) rfl (l' := (own_L1 i0 i1 i2 i3 i4 v23 v28 v10 (0 : Int64) (own_hr v23 v28) (1 : Int32) v47)) rfl ?_
              exact k
            · show Steps p.tables e below (T44.setTop (mkF m 226 (own_L1 i0 i1 i2 i3 i4 v23 v28 v10 (0 : Int64) (own_hr v23 v28) (1 : Int32) v47) [(.int (cmpValue (FP.dcmp (own_hr v23 v28) FP.dconst0) .l))])) _
              refine XS.ifYes X44.here hx rfl (pc0 := 226) (pc' := 233) rfl (hb hby at_226) rfl ((if0 _ _).trans (feq hc74).2) (by decide) (by decide) ?_
              have qv75 : v75 = (0 : Int32) := by rw [hv75]; simp only [if_pos hc73, if_neg hc74]
              rw [qv75] at k
              show Steps p.tables e below (T44.setTop (mkF m 233 (own_L1 i0 i1 i2 i3 i4 v23 v28 v10 (0 : Int64) (own_hr v23 v28) (1 : Int32) v47) [])) _
              refine XS.iconst X44.here hx rfl (hb hby at_233) ?_
              show Steps p.tables e below (T44.setTop (mkF m 234 (own_L1 i0 i1 i2 i3 i4 v23 v28 v10 (0 : Int64) (own_hr v23 v28) (1 : Int32) v47) [(.int (0 : Int32))])) _
              refine XS.istore X44.here hx rfl (hb hby at_234) rfl (l' := (own_L1 i0 i1 i2 i3 i4 v23 v28 v10 (0 : Int64) (own_hr v23 v28) (0 : Int32) v47)) rfl ?_
              exact k
          · show Steps p.tables e below (T44.setTop (mkF m 214 (own_L1 i0 i1 i2 i3 i4 v23 v28 v10 (0 : Int64) (own_hr v23 v28) (1 : Int32) v47) [(.int (lcmpW v23 (0 : Int64)))])) _
            refine XS.ifYes X44.here hx rfl (pc0 := 214) (pc' := 236) rfl (hb hby at_214) rfl (own_lcf3 hc73).2 (by decide) (by decide) ?_
            have qv75 : v75 = (1 : Int32) := by rw [hv75]; simp only [if_neg hc73]
            rw [qv75] at k
            exact k)
        have okv75 : v75 = (1 : Int32) := by
          rw [hv75]
          by_cases z : v23 = (0 : Int64)
          · rw [if_pos z, if_pos (FC z)]
          · rw [if_neg z]
        rw [okv75] at P76
        have P78 : own_Rch p.tables e below A0 (T44.setTop (mkF m 241 (own_L1 i0 i1 i2 i3 i4 v23 v28 v10 (0 : Int64) (own_hr v23 v28) (1 : Int32) v47) [(.int (lcmpW v23 v28))])) := fun t k => P76 t (by
          show Steps p.tables e below (T44.setTop (mkF m 236 (own_L1 i0 i1 i2 i3 i4 v23 v28 v10 (0 : Int64) (own_hr v23 v28) (1 : Int32) v47) [])) _
          refine XS.lload X44.here hx rfl (hb hby at_236) rfl ?_
          show Steps p.tables e below (T44.setTop (mkF m 238 (own_L1 i0 i1 i2 i3 i4 v23 v28 v10 (0 : Int64) (own_hr v23 v28) (1 : Int32) v47) [(.long v23)])) _
          refine XS.lload X44.here hx rfl (hb hby at_238) rfl ?_
          show Steps p.tables e below (T44.setTop (mkF m 240 (own_L1 i0 i1 i2 i3 i4 v23 v28 v10 (0 : Int64) (own_hr v23 v28) (1 : Int32) v47) [(.long v28), (.long v23)])) _
          refine XS.lcmp X44.here hx rfl (hb hby at_240) rfl ?_
          exact k)
        obtain ⟨v81, hv81⟩ : ∃ z : Int32, z = (if v23 = v28 then (if (cmpValue (FP.dcmp (own_hr v23 v28) 4602678819172646912) .l) = (0 : Int32) then (1 : Int32) else (0 : Int32)) else (1 : Int32)) := ⟨_, rfl⟩
        have P82 : own_Rch p.tables e below A0 (T44.setTop (mkF m 265 (own_L1 i0 i1 i2 i3 i4 v23 v28 v10 (0 : Int64) (own_hr v23 v28) v81 v47) [])) := fun t k => P78 t (by
          by_cases hc79 : v23 = v28
          · show Steps p.tables e below (T44.setTop (mkF m 241 (own_L1 i0 i1 i2 i3 i4 v23 v28 v10 (0 : Int64) (own_hr v23 v28) (1 : Int32) v47) [(.int (lcmpW v23 v28))])) _
            refine XS.ifNo X44.here hx rfl (hb hby at_241) rfl (own_lct3 hc79).2 ?_
            show Steps p.tables e below (T44.setTop (mkF m 244 (own_L1 i0 i1 i2 i3 i4 v23 v28 v10 (0 : Int64) (own_hr v23 v28) (1 : Int32) v47) [])) _
            refine XS.iload X44.here hx rfl (hb hby at_244) rfl ?_
            show Steps p.tables e below (T44.setTop (mkF m 246 (own_L1 i0 i1 i2 i3 i4 v23 v28 v10 (0 : Int64) (own_hr v23 v28) (1 : Int32) v47) [(.int (1 : Int32))])) _
            refine XS.ifNo X44.here hx rfl (hb hby at_246) rfl ((if0 _ _).trans (feq (by decide : ¬ ((1 : Int32) = (0 : Int32)))).1) ?_
            show Steps p.tables e below (T44.setTop (mkF m 249 (own_L1 i0 i1 i2 i3 i4 v23 v28 v10 (0 : Int64) (own_hr v23 v28) (1 : Int32) v47) [])) _
            refine XS.dload X44.here hx rfl (hb hby at_249) rfl ?_
            show Steps p.tables e below (T44.setTop (mkF m 251 (own_L1 i0 i1 i2 i3 i4 v23 v28 v10 (0 : Int64) (own_hr v23 v28) (1 : Int32) v47) [(.double (own_hr v23 v28))])) _
            refine X44.ldc2DoubleC hx hown (mvT hZ (hw _ (List.mem_of_getElem? (i := 35) rfl))) (g := (mkF m 251 (own_L1 i0 i1 i2 i3 i4 v23 v28 v10 (0 : Int64) (own_hr v23 v28) (1 : Int32) v47) [(.double (own_hr v23 v28))])) rfl (hb hby at_251) _ ?_
            show Steps p.tables e below (T44.setTop (mkF m 254 (own_L1 i0 i1 i2 i3 i4 v23 v28 v10 (0 : Int64) (own_hr v23 v28) (1 : Int32) v47) [(.double 4602678819172646912), (.double (own_hr v23 v28))])) _
            refine XS.dcmpS X44.here hx rfl (hb hby at_254) rfl rfl ?_
            by_cases hc80 : (cmpValue (FP.dcmp (own_hr v23 v28) 4602678819172646912) .l) = (0 : Int32)
            · show Steps p.tables e below (T44.setTop (mkF m 255 (own_L1 i0 i1 i2 i3 i4 v23 v28 v10 (0 : Int64) (own_hr v23 v28) (1 : Int32) v47) [(.int (cmpValue (FP.dcmp (own_hr v23 v28) 4602678819172646912) .l))])) _
              refine XS.ifNo X44.here hx rfl (hb hby at_255) rfl ((if0 _ _).trans (teq hc80).2) ?_
              have qv81 : v81 = (1 : Int32) := by rw [hv81]; simp only [if_pos hc79, if_pos hc80]
              rw [qv81] at k
              show Steps p.tables e below (T44.setTop (mkF m 258 (own_L1 i0 i1 i2 i3 i4 v23 v28 v10 (0 : Int64) (own_hr v23 v28) (1 : Int32) v47) [])) _
              refine XS.iconst X44.here hx rfl (hb hby at_258) ?_
              show Steps p.tables e below (T44.setTop (mkF m 259 (own_L1 i0 i1 i2 i3 i4 v23 v28 v10 (0 : Int64) (own_hr v23 v28) (1 : Int32) v47) [(.int (1 : Int32))])) _
              refine XS.goto X44.here hx rfl (pc0 := 259) (pc' := 263) rfl (hb hby at_259) (by decide) (by decide) ?_
              show Steps p.tables e below (T44.setTop (mkF m 263 (own_L1 i0 i1 i2 i3 i4 v23 v28 v10 (0 : Int64) (own_hr v23 v28) (1 : Int32) v47) [(.int (1 : Int32))])) _
              refine XS.istore X44.here hx rfl (hb hby at_263) rfl (l' := (own_L1 i0 i1 i2 i3 i4 v23 v28 v10 (0 : Int64) (own_hr v23 v28) (1 : Int32) v47)) rfl ?_
              exact k
            · show Steps p.tables e below (T44.setTop (mkF m 255 (own_L1 i0 i1 i2 i3 i4 v23 v28 v10 (0 : Int64) (own_hr v23 v28) (1 : Int32) v47) [(.int (cmpValue (FP.dcmp (own_hr v23 v28) 4602678819172646912) .l))])) _
              refine XS.ifYes X44.here hx rfl (pc0 := 255) (pc' := 262) rfl (hb hby at_255) rfl ((if0 _ _).trans (feq hc80).2) (by decide) (by decide) ?_
              have qv81 : v81 = (0 : Int32) := by rw [hv81]; simp only [if_pos hc79, if_neg hc80]
              rw [qv81] at k
              show Steps p.tables e below (T44.setTop (mkF m 262 (own_L1 i0 i1 i2 i3 i4 v23 v28 v10 (0 : Int64) (own_hr v23 v28) (1 : Int32) v47) [])) _
              refine XS.iconst X44.here hx rfl (hb hby at_262) ?_
              show Steps p.tables e below (T44.setTop (mkF m 263 (own_L1 i0 i1 i2 i3 i4 v23 v28 v10 (0 : Int64) (own_hr v23 v28) (1 : Int32) v47) [(.int (0 : Int32))])) _
              refine XS.istore X44.here hx rfl (hb hby at_263) rfl (l' := (own_L1 i0 i1 i2 i3 i4 v23 v28 v10 (0 : Int64) (own_hr v23 v28) (0 : Int32) v47)) rfl ?_
              exact k
          · show Steps p.tables e below (T44.setTop (mkF m 241 (own_L1 i0 i1 i2 i3 i4 v23 v28 v10 (0 : Int64) (own_hr v23 v28) (1 : Int32) v47) [(.int (lcmpW v23 v28))])) _
            refine XS.ifYes X44.here hx rfl (pc0 := 241) (pc' := 265) rfl (hb hby at_241) rfl (own_lcf3 hc79).2 (by decide) (by decide) ?_
            have qv81 : v81 = (1 : Int32) := by rw [hv81]; simp only [if_neg hc79]
            rw [qv81] at k
            exact k)
        have okv81 : v81 = (1 : Int32) := by
          rw [hv81]
          by_cases z : v23 = v28
          · rw [if_pos z, if_pos (FD z)]
          · rw [if_neg z]
        rw [okv81] at P82
        have P83 : own_Rch p.tables e below A0 (T44.setTop (mkF m 295 (own_L1 i0 i1 i2 i3 i4 v23 v28 v10 (0 : Int64) (own_hr v23 v28) (1 : Int32) v47) [])) := fun t k => P82 t (by
          show Steps p.tables e below (T44.setTop (mkF m 265 (own_L1 i0 i1 i2 i3 i4 v23 v28 v10 (0 : Int64) (own_hr v23 v28) (1 : Int32) v47) [])) _
          refine XS.iload X44.here hx rfl (hb hby at_265) rfl ?_
          show Steps p.tables e below (T44.setTop (mkF m 267 (own_L1 i0 i1 i2 i3 i4 v23 v28 v10 (0 : Int64) (own_hr v23 v28) (1 : Int32) v47) [(.int v10)])) _
          refine XS.ifYes X44.here hx rfl (pc0 := 267) (pc' := 295) rfl (hb hby at_267) rfl ((if0 _ _).trans (teq hc13).1) (by decide) (by decide) ?_
          exact k)
        exact tail ⟨T44, _, _, v23, v28, v10, (0 : Int64), (own_hr v23 v28), v47, X44, e44, Z_41, N44, P83⟩
    · -- not v10 = (0 : Int32)
      have P84 : own_Rch p.tables e below A0 (s₁.setTop (mkF m 50 (own_L6 i0 i1 i2 i3 i4 v2 v5 v10 (0 : Int64)) [(.int (52 : Int32)), (.int ((((i4.toUInt32 >>> ((13 : Int32) &&& 31).toUInt32).toInt32) &&& (31 : Int32)) + (22 : Int32)))])) := fun t k => P14 t (by
        show Steps p.tables e below (s₁.setTop (mkF m 34 (own_L6 i0 i1 i2 i3 i4 v2 v5 v10 (0 : Int64)) [(.int v10)])) _
        refine XS.ifNo X0.here hx rfl (hb hby at_34) rfl ((if0 _ _).trans (feq hc13).1) ?_
        show Steps p.tables e below (s₁.setTop (mkF m 37 (own_L6 i0 i1 i2 i3 i4 v2 v5 v10 (0 : Int64)) [])) _
        refine XS.iload X0.here hx rfl (hb hby at_37) rfl ?_
        show Steps p.tables e below (s₁.setTop (mkF m 39 (own_L6 i0 i1 i2 i3 i4 v2 v5 v10 (0 : Int64)) [(.int i4)])) _
        refine XS.bipush X0.here hx rfl (hb hby at_39) ?_
        show Steps p.tables e below (s₁.setTop (mkF m 41 (own_L6 i0 i1 i2 i3 i4 v2 v5 v10 (0 : Int64)) [(.int (13 : Int32)), (.int i4)])) _
        refine XS.iushr X0.here hx rfl (hb hby at_41) rfl ?_
        show Steps p.tables e below (s₁.setTop (mkF m 42 (own_L6 i0 i1 i2 i3 i4 v2 v5 v10 (0 : Int64)) [(.int ((i4.toUInt32 >>> ((13 : Int32) &&& 31).toUInt32).toInt32))])) _
        refine XS.bipush X0.here hx rfl (hb hby at_42) ?_
        show Steps p.tables e below (s₁.setTop (mkF m 44 (own_L6 i0 i1 i2 i3 i4 v2 v5 v10 (0 : Int64)) [(.int (31 : Int32)), (.int ((i4.toUInt32 >>> ((13 : Int32) &&& 31).toUInt32).toInt32))])) _
        refine XS.iand X0.here hx rfl (hb hby at_44) rfl ?_
        show Steps p.tables e below (s₁.setTop (mkF m 45 (own_L6 i0 i1 i2 i3 i4 v2 v5 v10 (0 : Int64)) [(.int (((i4.toUInt32 >>> ((13 : Int32) &&& 31).toUInt32).toInt32) &&& (31 : Int32)))])) _
        refine XS.bipush X0.here hx rfl (hb hby at_45) ?_
        show Steps p.tables e below (s₁.setTop (mkF m 47 (own_L6 i0 i1 i2 i3 i4 v2 v5 v10 (0 : Int64)) [(.int (22 : Int32)), (.int (((i4.toUInt32 >>> ((13 : Int32) &&& 31).toUInt32).toInt32) &&& (31 : Int32)))])) _
        refine XS.iadd X0.here hx rfl (hb hby at_47) rfl ?_
        show Steps p.tables e below (s₁.setTop (mkF m 48 (own_L6 i0 i1 i2 i3 i4 v2 v5 v10 (0 : Int64)) [(.int ((((i4.toUInt32 >>> ((13 : Int32) &&& 31).toUInt32).toInt32) &&& (31 : Int32)) + (22 : Int32)))])) _
        refine XS.bipush X0.here hx rfl (hb hby at_48) ?_
        exact k)
      obtain ⟨_, _, ⟨T85, L85, k85, n85⟩, -, X85, ⟨Lc85, hQ85, l85, y85, z85⟩, st85⟩ := Jvm.LawKit.callS X0 hx (y := (⟨"java/lang/Math", "min", "(II)I"⟩ : MethodName)) hown (mvT hZ (hw _ (List.mem_of_getElem? (i := 36) rfl))) (mvT hZ (hw _ (List.mem_of_getElem? (i := 37) rfl))) (mvT hZ (hw _ (List.mem_of_getElem? (i := 38) rfl))) (mvT hZ (hw _ (List.mem_of_getElem? (i := 39) rfl))) (by decide) (backOf (W := 0) (rm5 l Z a0 hw [] ((((i4.toUInt32 >>> ((13 : Int32) &&& 31).toUInt32).toInt32) &&& (31 : Int32)) + (22 : Int32)) (52 : Int32) h0 n0 Z0 ) hZ (hw _ (List.mem_of_getElem? (i := 39) rfl)) (hw _ (List.mem_of_getElem? (i := 38) rfl)) (by decide) (by decide)) (g := (mkF m 50 (own_L6 i0 i1 i2 i3 i4 v2 v5 v10 (0 : Int64)) [(.int (52 : Int32)), (.int ((((i4.toUInt32 >>> ((13 : Int32) &&& 31).toUInt32).toInt32) &&& (31 : Int32)) + (22 : Int32)))])) rfl (by rw [hml]; rfl) (argsL := [(.int ((((i4.toUInt32 >>> ((13 : Int32) &&& 31).toUInt32).toInt32) &&& (31 : Int32)) + (22 : Int32))), (.int (52 : Int32))]) (rest := []) (lenOf pd_3 rfl) rfl (by show 2 * 0 + _ ≤ _; exact Nat.le_of_eq rfl) (hb hby at_50) (fun _ _ => ⟨rfl, e0, (by decide : (0) + 0 ≤ _), (by decide : (0) + 0 ≤ _)⟩)
      dsimp only [Pt.U, Pt.locs, Pt.cells, Pt.slots] at X85 l85 y85 z85 st85 hQ85
      subst l85 y85 z85
      obtain ⟨rfl, N85q, e85⟩ := hQ85
      have N85 := Fr.app N0 N85q
      have P86 : own_Rch p.tables e below A0 (T85.setTop (mkF m 53 (own_L6 i0 i1 i2 i3 i4 v2 v5 v10 (0 : Int64)) [(.int (own_min ((((i4.toUInt32 >>> ((13 : Int32) &&& 31).toUInt32).toInt32) &&& (31 : Int32)) + (22 : Int32)) (52 : Int32)))])) := fun t k => P84 t (st85 t k)
      have P87 : own_Rch p.tables e below A0 (T85.setTop (mkF m 55 (own_L9 i0 i1 i2 i3 i4 v2 v5 v10 (0 : Int64) (own_min ((((i4.toUInt32 >>> ((13 : Int32) &&& 31).toUInt32).toInt32) &&& (31 : Int32)) + (22 : Int32)) (52 : Int32))) [])) := fun t k => P86 t (by
        show Steps p.tables e below (T85.setTop (mkF m 53 (own_L6 i0 i1 i2 i3 i4 v2 v5 v10 (0 : Int64)) [(.int (own_min ((((i4.toUInt32 >>> ((13 : Int32) &&& 31).toUInt32).toInt32) &&& (31 : Int32)) + (22 : Int32)) (52 : Int32)))])) _
        refine XS.istore X85.here hx rfl (hb hby at_53) rfl (l' := (own_L9 i0 i1 i2 i3 i4 v2 v5 v10 (0 : Int64) (own_min ((((i4.toUInt32 >>> ((13 : Int32) &&& 31).toUInt32).toInt32) &&& (31 : Int32)) + (22 : Int32)) (52 : Int32)))) rfl ?_
        exact k)
      obtain ⟨v88, hv88, P89⟩ : ∃ z : Int32, z = (own_min ((((i4.toUInt32 >>> ((13 : Int32) &&& 31).toUInt32).toInt32) &&& (31 : Int32)) + (22 : Int32)) (52 : Int32)) ∧ own_Rch p.tables e below A0 (T85.setTop (mkF m 55 (own_L9 i0 i1 i2 i3 i4 v2 v5 v10 (0 : Int64) z) [])) := ⟨_, rfl, P87⟩
      obtain ⟨jn, hjn, ej⟩ := own_j i4
      have ej2 : v88 = Int32.ofNat jn := hv88.trans ej
      rw [ej2] at P89
      have P90 : own_Rch p.tables e below A0 (T85.setTop (mkF m 61 (own_L9 i0 i1 i2 i3 i4 v2 v5 v10 ((1 : Int64) <<< ((Int32.ofNat jn) &&& 0x3f).toInt64) (Int32.ofNat jn)) [])) := fun t k => P89 t (by
        show Steps p.tables e below (T85.setTop (mkF m 55 (own_L9 i0 i1 i2 i3 i4 v2 v5 v10 (0 : Int64) (Int32.ofNat jn)) [])) _
        refine XS.lconst X85.here hx rfl (hb hby at_55) ?_
        show Steps p.tables e below (T85.setTop (mkF m 56 (own_L9 i0 i1 i2 i3 i4 v2 v5 v10 (0 : Int64) (Int32.ofNat jn)) [(.long (1 : Int64))])) _
        refine XS.iload X85.here hx rfl (hb hby at_56) rfl ?_
        show Steps p.tables e below (T85.setTop (mkF m 58 (own_L9 i0 i1 i2 i3 i4 v2 v5 v10 (0 : Int64) (Int32.ofNat jn)) [(.int (Int32.ofNat jn)), (.long (1 : Int64))])) _
        refine XS.lshl X85.here hx rfl (hb hby at_58) rfl ?_
        show Steps p.tables e below (T85.setTop (mkF m 59 (own_L9 i0 i1 i2 i3 i4 v2 v5 v10 (0 : Int64) (Int32.ofNat jn)) [(.long ((1 : Int64) <<< ((Int32.ofNat jn) &&& 0x3f).toInt64))])) _
        refine XS.lstore X85.here hx rfl (hb hby at_59) rfl (l' := (own_L9 i0 i1 i2 i3 i4 v2 v5 v10 ((1 : Int64) <<< ((Int32.ofNat jn) &&& 0x3f).toInt64) (Int32.ofNat jn))) rfl ?_
        exact k)
      obtain ⟨v91, hv91, P92⟩ : ∃ z : Int64, z = ((1 : Int64) <<< ((Int32.ofNat jn) &&& 0x3f).toInt64) ∧ own_Rch p.tables e below A0 (T85.setTop (mkF m 61 (own_L9 i0 i1 i2 i3 i4 v2 v5 v10 z (Int32.ofNat jn)) [])) := ⟨_, rfl, P90⟩
      have P93 : own_Rch p.tables e below A0 (T85.setTop (mkF m 69 (own_L9 i0 i1 i2 i3 i4 (i0 &&& (v91 - (1 : Int64))) v5 v10 v91 (Int32.ofNat jn)) [])) := fun t k => P92 t (by
        show Steps p.tables e below (T85.setTop (mkF m 61 (own_L9 i0 i1 i2 i3 i4 v2 v5 v10 v91 (Int32.ofNat jn)) [])) _
        refine XS.lloadN X85.here hx rfl (hb hby at_61) rfl ?_
        show Steps p.tables e below (T85.setTop (mkF m 62 (own_L9 i0 i1 i2 i3 i4 v2 v5 v10 v91 (Int32.ofNat jn)) [(.long i0)])) _
        refine XS.lload X85.here hx rfl (hb hby at_62) rfl ?_
        show Steps p.tables e below (T85.setTop (mkF m 64 (own_L9 i0 i1 i2 i3 i4 v2 v5 v10 v91 (Int32.ofNat jn)) [(.long v91), (.long i0)])) _
        refine XS.lconst X85.here hx rfl (hb hby at_64) ?_
        show Steps p.tables e below (T85.setTop (mkF m 65 (own_L9 i0 i1 i2 i3 i4 v2 v5 v10 v91 (Int32.ofNat jn)) [(.long (1 : Int64)), (.long v91), (.long i0)])) _
        refine XS.lsub X85.here hx rfl (hb hby at_65) rfl ?_
        show Steps p.tables e below (T85.setTop (mkF m 66 (own_L9 i0 i1 i2 i3 i4 v2 v5 v10 v91 (Int32.ofNat jn)) [(.long (v91 - (1 : Int64))), (.long i0)])) _
        refine XS.land X85.here hx rfl (hb hby at_66) rfl ?_
        show Steps p.tables e below (T85.setTop (mkF m 67 (own_L9 i0 i1 i2 i3 i4 v2 v5 v10 v91 (Int32.ofNat jn)) [(.long (i0 &&& (v91 - (1 : Int64))))])) _
        refine XS.lstore X85.here hx rfl (hb hby at_67) rfl (l' := (own_L9 i0 i1 i2 i3 i4 (i0 &&& (v91 - (1 : Int64))) v5 v10 v91 (Int32.ofNat jn))) rfl ?_
        exact k)
      obtain ⟨v94, hv94, P95⟩ : ∃ z : Int64, z = (i0 &&& (v91 - (1 : Int64))) ∧ own_Rch p.tables e below A0 (T85.setTop (mkF m 69 (own_L9 i0 i1 i2 i3 i4 z v5 v10 v91 (Int32.ofNat jn)) [])) := ⟨_, rfl, P93⟩
      have P96 : own_Rch p.tables e below A0 (T85.setTop (mkF m 76 (own_L9 i0 i1 i2 i3 i4 v94 (v91 - v94) v10 v91 (Int32.ofNat jn)) [])) := fun t k => P95 t (by
        show Steps p.tables e below (T85.setTop (mkF m 69 (own_L9 i0 i1 i2 i3 i4 v94 v5 v10 v91 (Int32.ofNat jn)) [])) _
        refine XS.lload X85.here hx rfl (hb hby at_69) rfl ?_
        show Steps p.tables e below (T85.setTop (mkF m 71 (own_L9 i0 i1 i2 i3 i4 v94 v5 v10 v91 (Int32.ofNat jn)) [(.long v91)])) _
        refine XS.lload X85.here hx rfl (hb hby at_71) rfl ?_
        show Steps p.tables e below (T85.setTop (mkF m 73 (own_L9 i0 i1 i2 i3 i4 v94 v5 v10 v91 (Int32.ofNat jn)) [(.long v94), (.long v91)])) _
        refine XS.lsub X85.here hx rfl (hb hby at_73) rfl ?_
        show Steps p.tables e below (T85.setTop (mkF m 74 (own_L9 i0 i1 i2 i3 i4 v94 v5 v10 v91 (Int32.ofNat jn)) [(.long (v91 - v94))])) _
        refine XS.lstore X85.here hx rfl (hb hby at_74) rfl (l' := (own_L9 i0 i1 i2 i3 i4 v94 (v91 - v94) v10 v91 (Int32.ofNat jn))) rfl ?_
        exact k)
      obtain ⟨v97, hv97, P98⟩ : ∃ z : Int64, z = (v91 - v94) ∧ own_Rch p.tables e below A0 (T85.setTop (mkF m 76 (own_L9 i0 i1 i2 i3 i4 v94 z v10 v91 (Int32.ofNat jn)) [])) := ⟨_, rfl, P96⟩
      have P99 : own_Rch p.tables e below A0 (T85.setTop (mkF m 110 (own_L9 i0 i1 i2 i3 i4 v94 v97 v10 v91 (Int32.ofNat jn)) [])) := fun t k => P98 t (by
        show Steps p.tables e below (T85.setTop (mkF m 76 (own_L9 i0 i1 i2 i3 i4 v94 v97 v10 v91 (Int32.ofNat jn)) [])) _
        refine XS.goto X85.here hx rfl (pc0 := 76) (pc' := 110) rfl (hb hby at_76) (by decide) (by decide) ?_
        exact k)
      obtain ⟨bp, bh0, bh1, bm⟩ := own_pow i0 jn hjn hv91 hv94
      rw [← hv97] at bm
      have hl2 : (2 : Nat) ^ jn ≤ 2 ^ 52 := Nat.pow_le_pow_right (by decide) hjn
      have b1 : 0 ≤ v94.toInt ∧ v94.toInt < 4611686018427387904 ∧ 0 ≤ v97.toInt ∧ v97.toInt ≤ 4611686018427387904 := by omega
      have bs := own_add64 b1.1 b1.2.2.1 b1.2.1 b1.2.2.2
      obtain ⟨T100, h100, X100, e100, E100, A100, D100, -, st100⟩ := newO X85 hx hZ hown (hw _ (List.mem_of_getElem? (i := 1) rfl)) (hw _ (List.mem_of_getElem? (i := 2) rfl)) (hw _ (List.mem_of_getElem? (i := 3) rfl)) e85 (g := (mkF m 110 (own_L9 i0 i1 i2 i3 i4 v94 v97 v10 v91 (Int32.ofNat jn)) [])) rfl (hb hby at_110) (by decide) (by decide)
      obtain ⟨b100, g100⟩ : ∃ z, z = h0.size := ⟨_, rfl⟩
      rw [← g100] at A100 D100 st100
      have g_b100 : n0 ≤ b100 := Nat.le_trans Z0 (Nat.le_of_eq g100.symm)
      have Z_101 : n0 ≤ h100.size := Nat.le_trans Z0 E100.1
      have F_102 : Fld Z h100 b100 "com/example/tinyward/tinyward/CacheStats" "hitCount" "J" (.long (0 : Int64)) := D100 (Or.inr (hw _ (List.mem_of_getElem? (i := 16) rfl))) (ty := .long) (by decide)
      have F_103 : Fld Z h100 b100 "com/example/tinyward/tinyward/CacheStats" "missCount" "J" (.long (0 : Int64)) := D100 (Or.inr (hw _ (List.mem_of_getElem? (i := 18) rfl))) (ty := .long) (by decide)
      have F_104 : Fld Z h100 b100 "com/example/tinyward/tinyward/CacheStats" "loadSuccessCount" "J" (.long (0 : Int64)) := D100 (Or.inr (hw _ (List.mem_of_getElem? (i := 20) rfl))) (ty := .long) (by decide)
      have F_105 : Fld Z h100 b100 "com/example/tinyward/tinyward/CacheStats" "loadFailureCount" "J" (.long (0 : Int64)) := D100 (Or.inr (hw _ (List.mem_of_getElem? (i := 22) rfl))) (ty := .long) (by decide)
      have F_106 : Fld Z h100 b100 "com/example/tinyward/tinyward/CacheStats" "totalLoadTime" "J" (.long (0 : Int64)) := D100 (Or.inr (hw _ (List.mem_of_getElem? (i := 24) rfl))) (ty := .long) (by decide)
      have F_107 : Fld Z h100 b100 "com/example/tinyward/tinyward/CacheStats" "evictionCount" "J" (.long (0 : Int64)) := D100 (Or.inr (hw _ (List.mem_of_getElem? (i := 26) rfl))) (ty := .long) (by decide)
      have P108 : own_Rch p.tables e below A0 (T100.setTop (mkF m 113 (own_L9 i0 i1 i2 i3 i4 v94 v97 v10 v91 (Int32.ofNat jn)) [(.ref b100)])) := fun t k => P99 t (st100 t k)
      have P109 : own_Rch p.tables e below A0 (T100.setTop (mkF m 124 (own_L9 i0 i1 i2 i3 i4 v94 v97 v10 v91 (Int32.ofNat jn)) [(.long i1), (.long i0), (.long i3), (.long i2), (.long v97), (.long v94), (.ref b100), (.ref b100)])) := fun t k => P108 t (by
        show Steps p.tables e below (T100.setTop (mkF m 113 (own_L9 i0 i1 i2 i3 i4 v94 v97 v10 v91 (Int32.ofNat jn)) [(.ref b100)])) _
        refine XS.dup X100.here hx rfl (hb hby at_113) rfl rfl ?_
        show Steps p.tables e below (T100.setTop (mkF m 114 (own_L9 i0 i1 i2 i3 i4 v94 v97 v10 v91 (Int32.ofNat jn)) [(.ref b100), (.ref b100)])) _
        refine XS.lload X100.here hx rfl (hb hby at_114) rfl ?_
        show Steps p.tables e below (T100.setTop (mkF m 116 (own_L9 i0 i1 i2 i3 i4 v94 v97 v10 v91 (Int32.ofNat jn)) [(.long v94), (.ref b100), (.ref b100)])) _
        refine XS.lload X100.here hx rfl (hb hby at_116) rfl ?_
        show Steps p.tables e below (T100.setTop (mkF m 118 (own_L9 i0 i1 i2 i3 i4 v94 v97 v10 v91 (Int32.ofNat jn)) [(.long v97), (.long v94), (.ref b100), (.ref b100)])) _
        refine XS.lload X100.here hx rfl (hb hby at_118) rfl ?_
        show Steps p.tables e below (T100.setTop (mkF m 120 (own_L9 i0 i1 i2 i3 i4 v94 v97 v10 v91 (Int32.ofNat jn)) [(.long i2), (.long v97), (.long v94), (.ref b100), (.ref b100)])) _
        refine XS.lload X100.here hx rfl (hb hby at_120) rfl ?_
        show Steps p.tables e below (T100.setTop (mkF m 122 (own_L9 i0 i1 i2 i3 i4 v94 v97 v10 v91 (Int32.ofNat jn)) [(.long i3), (.long i2), (.long v97), (.long v94), (.ref b100), (.ref b100)])) _
        refine XS.lloadN X100.here hx rfl (hb hby at_122) rfl ?_
        show Steps p.tables e below (T100.setTop (mkF m 123 (own_L9 i0 i1 i2 i3 i4 v94 v97 v10 v91 (Int32.ofNat jn)) [(.long i0), (.long i3), (.long i2), (.long v97), (.long v94), (.ref b100), (.ref b100)])) _
        refine XS.lloadN X100.here hx rfl (hb hby at_123) rfl ?_
        exact k)
      obtain ⟨_, _, ⟨T110, L110, k110, n110⟩, -, X110, ⟨Lc110, hQ110, l110, y110, z110⟩, st110⟩ := X100.specialBack hx (y := (⟨"com/example/tinyward/tinyward/CacheStats", "<init>", "(JJJJJJ)V"⟩ : MethodName)) rfl hown (mvT hZ (hw _ (List.mem_of_getElem? (i := 4) rfl))) (mvT hZ (hw _ (List.mem_of_getElem? (i := 5) rfl))) (mvT hZ (hw _ (List.mem_of_getElem? (i := 6) rfl))) (by decide) (backOf (W := 1) (rm1 l Z a0 hw [] b100 v94 v97 i2 i3 i0 i1 h100 n0 Z_101 A100 F_102 F_103 F_104 F_105 F_106 F_107 g_b100) hZ (hw _ (List.mem_of_getElem? (i := 6) rfl)) (hw _ (List.mem_of_getElem? (i := 3) rfl)) (by decide) (by decide)) (g := (mkF m 124 (own_L9 i0 i1 i2 i3 i4 v94 v97 v10 v91 (Int32.ofNat jn)) [(.long i1), (.long i0), (.long i3), (.long i2), (.long v97), (.long v94), (.ref b100), (.ref b100)])) rfl (by rw [hml]; rfl) (Steps.refl _) (a := b100) (argsL := [(.long v94), (.long v97), (.long i2), (.long i3), (.long i0), (.long i1)]) (rest := [(.ref b100)]) (lenOf pd_1 rfl) rfl (by show 2 * 0 + _ ≤ _; exact Nat.le_of_eq rfl) (hb hby at_124) (fun _ _ => ⟨rfl, e100, (by decide : (0 + 0 + 1) + 0 ≤ _), (by decide : (0 + 0 + 6) + 0 ≤ _)⟩)
      dsimp only [Pt.U, Pt.locs, Pt.cells, Pt.slots] at X110 l110 y110 z110 st110 hQ110
      subst l110 y110 z110
      obtain ⟨rfl, N110q, K110q, E110q, F110q0, F110q1⟩ := hQ110
      have N110 := Fr.app N85 N110q
      have Z_111 : n0 ≤ T110.heap.size := Nat.le_trans Z_101 K110q.1
      have E_112 : Exa Z T110.heap b100 "com/example/tinyward/tinyward/CacheStats" := A100.keep K110q
      have P113 : own_Rch p.tables e below A0 (T110.setTop (mkF m 127 (own_L9 i0 i1 i2 i3 i4 v94 v97 v10 v91 (Int32.ofNat jn)) [(.ref b100)])) := fun t k => P109 t (st110.trans k)
      obtain ⟨cq114, kq114, q114a, q114b, q114c⟩ := isOf hZ rfl E_112
      obtain ⟨_, _, ⟨T114, L114, k114, n114⟩, -, X114, ⟨Lc114, hQ114, l114, y114, z114⟩, st114⟩ := X110.virtualBack hx (y := (⟨"com/example/tinyward/tinyward/CacheStats", "hitRate", "()D"⟩ : MethodName)) (z := (⟨"com/example/tinyward/tinyward/CacheStats", "hitRate", "()D"⟩ : MethodName)) hown (mvT hZ (hw _ (List.mem_of_getElem? (i := 27) rfl))) (mvT hZ (hw _ (List.mem_of_getElem? (i := 28) rfl))) (notFace_of_selects (args := #[]) (mvT hZ (hw _ (List.mem_of_getElem? (i := 30) rfl)))) (mvT hZ (hw _ (List.mem_of_getElem? (i := 30) rfl))) (mvT hZ (hw _ (List.mem_of_getElem? (i := 29) rfl))) (by decide) (backOf (W := 0) (rm4 l Z a0 hw [] b100 v94 v97 T110.heap n0 Z_111 F110q0 F110q1 (fun z => own_nn (n := v94 + v97) b1.1 (by omega) z)) hZ (hw _ (List.mem_of_getElem? (i := 31) rfl)) (hw _ (List.mem_of_getElem? (i := 3) rfl)) (by decide) (by decide)) q114a q114c (g := (mkF m 127 (own_L9 i0 i1 i2 i3 i4 v94 v97 v10 v91 (Int32.ofNat jn)) [(.ref b100)])) rfl (by rw [hml]; rfl) (Steps.refl _) (argsL := []) (rest := []) (lenOf pd_2 rfl) rfl (by show 2 * 0 + _ ≤ _; exact Nat.le_of_eq rfl) (hb hby at_127) (fun _ _ => ⟨rfl, rfl, (by decide : (0 + 0 + 1 + 0) + 0 ≤ _), (by decide : (0 + 0 + 6 + 0) + 0 ≤ _)⟩)
      dsimp only [Pt.U, Pt.locs, Pt.cells, Pt.slots] at X114 l114 y114 z114 st114 hQ114
      subst l114 y114 z114
      obtain ⟨rfl, N114q, e114⟩ := hQ114
      have N114 := Fr.app N110 N114q
      have P115 : own_Rch p.tables e below A0 (T114.setTop (mkF m 130 (own_L9 i0 i1 i2 i3 i4 v94 v97 v10 v91 (Int32.ofNat jn)) [(.double (own_hr v94 v97))])) := fun t k => P113 t (st114.trans k)
      have P116 : own_Rch p.tables e below A0 (T114.setTop (mkF m 139 (own_L8 i0 i1 i2 i3 i4 v94 v97 v10 v91 (own_hr v94 v97) (v94 + v97)) [])) := fun t k => P115 t (by
        show Steps p.tables e below (T114.setTop (mkF m 130 (own_L9 i0 i1 i2 i3 i4 v94 v97 v10 v91 (Int32.ofNat jn)) [(.double (own_hr v94 v97))])) _
        refine XS.dstore X114.here hx rfl (hb hby at_130) rfl (l' := (own_L7 i0 i1 i2 i3 i4 v94 v97 v10 v91 (own_hr v94 v97))) rfl ?_
        show Steps p.tables e below (T114.setTop (mkF m 132 (own_L7 i0 i1 i2 i3 i4 v94 v97 v10 v91 (own_hr v94 v97)) [])) _
        refine XS.lload X114.here hx rfl (hb hby at_132) rfl ?_
        show Steps p.tables e below (T114.setTop (mkF m 134 (own_L7 i0 i1 i2 i3 i4 v94 v97 v10 v91 (own_hr v94 v97)) [(.long v94)])) _
        refine XS.lload X114.here hx rfl (hb hby at_134) rfl ?_
        show Steps p.tables e below (T114.setTop (mkF m 136 (own_L7 i0 i1 i2 i3 i4 v94 v97 v10 v91 (own_hr v94 v97)) [(.long v97), (.long v94)])) _
        refine XS.ladd X114.here hx rfl (hb hby at_136) rfl ?_
        show Steps p.tables e below (T114.setTop (mkF m 137 (own_L7 i0 i1 i2 i3 i4 v94 v97 v10 v91 (own_hr v94 v97)) [(.long (v94 + v97))])) _
        refine XS.lstore X114.here hx rfl (hb hby at_137) rfl (l' := (own_L8 i0 i1 i2 i3 i4 v94 v97 v10 v91 (own_hr v94 v97) (v94 + v97))) rfl ?_
        exact k)
      obtain ⟨v117, hv117, P118⟩ : ∃ z : Int64, z = (v94 + v97) ∧ own_Rch p.tables e below A0 (T114.setTop (mkF m 139 (own_L8 i0 i1 i2 i3 i4 v94 v97 v10 v91 (own_hr v94 v97) z) [])) := ⟨_, rfl, P116⟩
      have hnz : ¬ v117 = (0 : Int64) := fun z => by
        have q : (v94 + v97).toInt = 0 := by rw [← hv117, z]; rfl
        omega
      have P119 : own_Rch p.tables e below A0 (T114.setTop (mkF m 163 (own_L8 i0 i1 i2 i3 i4 v94 v97 v10 v91 (own_hr v94 v97) v117) [])) := fun t k => P118 t (by
        show Steps p.tables e below (T114.setTop (mkF m 139 (own_L8 i0 i1 i2 i3 i4 v94 v97 v10 v91 (own_hr v94 v97) v117) [])) _
        refine XS.lload X114.here hx rfl (hb hby at_139) rfl ?_
        show Steps p.tables e below (T114.setTop (mkF m 141 (own_L8 i0 i1 i2 i3 i4 v94 v97 v10 v91 (own_hr v94 v97) v117) [(.long v117)])) _
        refine XS.lconst X114.here hx rfl (hb hby at_141) ?_
        show Steps p.tables e below (T114.setTop (mkF m 142 (own_L8 i0 i1 i2 i3 i4 v94 v97 v10 v91 (own_hr v94 v97) v117) [(.long (0 : Int64)), (.long v117)])) _
        refine XS.lcmp X114.here hx rfl (hb hby at_142) rfl ?_
        show Steps p.tables e below (T114.setTop (mkF m 143 (own_L8 i0 i1 i2 i3 i4 v94 v97 v10 v91 (own_hr v94 v97) v117) [(.int (lcmpW v117 (0 : Int64)))])) _
        refine XS.ifYes X114.here hx rfl (pc0 := 143) (pc' := 163) rfl (hb hby at_143) rfl (own_lcf3 hnz).2 (by decide) (by decide) ?_
        exact k)
      have hr : own_hr v94 v97 = FP.ddiv (FP.l2d v94) (FP.l2d v117) := by unfold own_hr; rw [← hv117, if_neg hnz]
      have bn : v117.toInt = v94.toInt + v97.toInt := by rw [hv117]; exact bs
      have z0 : (0 : Int64).toInt = 0 := rfl
      have FA := own_A (n := v117) b1.1 (by omega) hnz
      rw [← hr] at FA
      have FB : v97 = 0 → cmpValue (FP.dcmp (own_hr v94 v97) FP.dconst1) .l = 0 := fun z => by
        have e : v117 = v94 := by rw [hv117, z, Int64.add_zero]
        rw [hr, ← e]; exact own_B (by omega) hnz
      have FC : v94 = 0 → cmpValue (FP.dcmp (own_hr v94 v97) FP.dconst0) .l = 0 := fun z => by
        rw [hr, z]; exact own_C (by omega) hnz
      have FD : v94 = v97 → cmpValue (FP.dcmp (own_hr v94 v97) 4602678819172646912) .l = 0 := fun z => by
        have hp : 0 < v94.toInt := by
          have q : v117.toInt ≠ 0 := FP.Core.int64_ne hnz
          have z' := congrArg Int64.toInt z
          omega
        rw [hr, hv117, ← z]; exact own_D hp b1.2.1
      have en : v117 = v91 := by
        apply Int64.toInt_inj.mp; omega
      have FE := own_E hjn bp bh0 bh1
      rw [← en, ← hr, en] at FE
      have P121 : own_Rch p.tables e below A0 (T114.setTop (mkF m 167 (own_L8 i0 i1 i2 i3 i4 v94 v97 v10 v91 (own_hr v94 v97) v117) [(.int (cmpValue (FP.dcmp FP.dconst0 (own_hr v94 v97)) .g))])) := fun t k => P119 t (by
        show Steps p.tables e below (T114.setTop (mkF m 163 (own_L8 i0 i1 i2 i3 i4 v94 v97 v10 v91 (own_hr v94 v97) v117) [])) _
        refine XS.dconst0 X114.here hx rfl (hb hby at_163) rfl ?_
        show Steps p.tables e below (T114.setTop (mkF m 164 (own_L8 i0 i1 i2 i3 i4 v94 v97 v10 v91 (own_hr v94 v97) v117) [(.double FP.dconst0)])) _
        refine XS.dload X114.here hx rfl (hb hby at_164) rfl ?_
        show Steps p.tables e below (T114.setTop (mkF m 166 (own_L8 i0 i1 i2 i3 i4 v94 v97 v10 v91 (own_hr v94 v97) v117) [(.double (own_hr v94 v97)), (.double FP.dconst0)])) _
        refine XS.dcmpS X114.here hx rfl (hb hby at_166) rfl rfl ?_
        exact k)
      obtain ⟨v124, hv124⟩ : ∃ z : Int32, z = (if (0 : Int32) < (cmpValue (FP.dcmp FP.dconst0 (own_hr v94 v97)) .g) then (0 : Int32) else (if (0 : Int32) < (cmpValue (FP.dcmp (own_hr v94 v97) FP.dconst1) .g) then (0 : Int32) else (1 : Int32))) := ⟨_, rfl⟩
      have P125 : own_Rch p.tables e below A0 (T114.setTop (mkF m 182 (own_L8 i0 i1 i2 i3 i4 v94 v97 v10 v91 (own_hr v94 v97) v117) [(.int v124)])) := fun t k => P121 t (by
        by_cases hc122 : (0 : Int32) < (cmpValue (FP.dcmp FP.dconst0 (own_hr v94 v97)) .g)
        · show Steps p.tables e below (T114.setTop (mkF m 167 (own_L8 i0 i1 i2 i3 i4 v94 v97 v10 v91 (own_hr v94 v97) v117) [(.int (cmpValue (FP.dcmp FP.dconst0 (own_hr v94 v97)) .g))])) _
          refine XS.ifYes X114.here hx rfl (pc0 := 167) (pc' := 181) rfl (hb hby at_167) rfl ((if0 _ _).trans (tlt hc122).2.2.1) (by decide) (by decide) ?_
          have qv124 : v124 = (0 : Int32) := by rw [hv124]; simp only [if_pos hc122]
          rw [qv124] at k
          show Steps p.tables e below (T114.setTop (mkF m 181 (own_L8 i0 i1 i2 i3 i4 v94 v97 v10 v91 (own_hr v94 v97) v117) [])) _
          refine XS.iconst X114.here hx rfl (hb hby at_181) ?_
          exact k
        · show Steps p.tables e below (T114.setTop (mkF m 167 (own_L8 i0 i1 i2 i3 i4 v94 v97 v10 v91 (own_hr v94 v97) v117) [(.int (cmpValue (FP.dcmp FP.dconst0 (own_hr v94 v97)) .g))])) _
          refine XS.ifNo X114.here hx rfl (hb hby at_167) rfl ((if0 _ _).trans (flt hc122).2.2.1) ?_
          show Steps p.tables e below (T114.setTop (mkF m 170 (own_L8 i0 i1 i2 i3 i4 v94 v97 v10 v91 (own_hr v94 v97) v117) [])) _
          refine XS.dload X114.here hx rfl (hb hby at_170) rfl ?_
          show Steps p.tables e below (T114.setTop (mkF m 172 (own_L8 i0 i1 i2 i3 i4 v94 v97 v10 v91 (own_hr v94 v97) v117) [(.double (own_hr v94 v97))])) _
          refine XS.dconst1 X114.here hx rfl (hb hby at_172) rfl ?_
          show Steps p.tables e below (T114.setTop (mkF m 173 (own_L8 i0 i1 i2 i3 i4 v94 v97 v10 v91 (own_hr v94 v97) v117) [(.double FP.dconst1), (.double (own_hr v94 v97))])) _
          refine XS.dcmpS X114.here hx rfl (hb hby at_173) rfl rfl ?_
          by_cases hc123 : (0 : Int32) < (cmpValue (FP.dcmp (own_hr v94 v97) FP.dconst1) .g)
          · show Steps p.tables e below (T114.setTop (mkF m 174 (own_L8 i0 i1 i2 i3 i4 v94 v97 v10 v91 (own_hr v94 v97) v117) [(.int (cmpValue (FP.dcmp (own_hr v94 v97) FP.dconst1) .g))])) _
            refine XS.ifYes X114.here hx rfl (pc0 := 174) (pc' := 181) rfl (hb hby at_174) rfl ((if0 _ _).trans (tlt hc123).2.2.1) (by decide) (by decide) ?_
            have qv124 : v124 = (0 : Int32) := by rw [hv124]; simp only [if_neg hc122, if_pos hc123]
            rw [qv124] at k
            show Steps p.tables e below (T114.setTop (mkF m 181 (own_L8 i0 i1 i2 i3 i4 v94 v97 v10 v91 (own_hr v94 v97) v117) [])) _
            refine XS.iconst X114.here hx rfl (hb hby at_181) ?_
            exact k
          · show Steps p.tables e below (T114.setTop (mkF m 174 (own_L8 i0 i1 i2 i3 i4 v94 v97 v10 v91 (own_hr v94 v97) v117) [(.int (cmpValue (FP.dcmp (own_hr v94 v97) FP.dconst1) .g))])) _
            refine XS.ifNo X114.here hx rfl (hb hby at_174) rfl ((if0 _ _).trans (flt hc123).2.2.1) ?_
            have qv124 : v124 = (1 : Int32) := by rw [hv124]; simp only [if_neg hc122, if_neg hc123]
            rw [qv124] at k
            show Steps p.tables e below (T114.setTop (mkF m 177 (own_L8 i0 i1 i2 i3 i4 v94 v97 v10 v91 (own_hr v94 v97) v117) [])) _
            refine XS.iconst X114.here hx rfl (hb hby at_177) ?_
            show Steps p.tables e below (T114.setTop (mkF m 178 (own_L8 i0 i1 i2 i3 i4 v94 v97 v10 v91 (own_hr v94 v97) v117) [(.int (1 : Int32))])) _
            refine XS.goto X114.here hx rfl (pc0 := 178) (pc' := 182) rfl (hb hby at_178) (by decide) (by decide) ?_
            exact k)
      have P126 : own_Rch p.tables e below A0 (T114.setTop (mkF m 184 (own_L1 i0 i1 i2 i3 i4 v94 v97 v10 v91 (own_hr v94 v97) v124 v117) [])) := fun t k => P125 t (by
        show Steps p.tables e below (T114.setTop (mkF m 182 (own_L8 i0 i1 i2 i3 i4 v94 v97 v10 v91 (own_hr v94 v97) v117) [(.int v124)])) _
        refine XS.istore X114.here hx rfl (hb hby at_182) rfl (l' := (own_L1 i0 i1 i2 i3 i4 v94 v97 v10 v91 (own_hr v94 v97) v124 v117)) rfl ?_
        exact k)
      have okv124 : v124 = (1 : Int32) := by
        rw [hv124, if_neg FA.1, if_neg FA.2]
      rw [okv124] at P126
      have P128 : own_Rch p.tables e below A0 (T114.setTop (mkF m 188 (own_L1 i0 i1 i2 i3 i4 v94 v97 v10 v91 (own_hr v94 v97) (1 : Int32) v117) [(.int (lcmpW v97 (0 : Int64)))])) := fun t k => P126 t (by
        show Steps p.tables e below (T114.setTop (mkF m 184 (own_L1 i0 i1 i2 i3 i4 v94 v97 v10 v91 (own_hr v94 v97) (1 : Int32) v117) [])) _
        refine XS.lload X114.here hx rfl (hb hby at_184) rfl ?_
        show Steps p.tables e below (T114.setTop (mkF m 186 (own_L1 i0 i1 i2 i3 i4 v94 v97 v10 v91 (own_hr v94 v97) (1 : Int32) v117) [(.long v97)])) _
        refine XS.lconst X114.here hx rfl (hb hby at_186) ?_
        show Steps p.tables e below (T114.setTop (mkF m 187 (own_L1 i0 i1 i2 i3 i4 v94 v97 v10 v91 (own_hr v94 v97) (1 : Int32) v117) [(.long (0 : Int64)), (.long v97)])) _
        refine XS.lcmp X114.here hx rfl (hb hby at_187) rfl ?_
        exact k)
      obtain ⟨v131, hv131⟩ : ∃ z : Int32, z = (if v97 = (0 : Int64) then (if (cmpValue (FP.dcmp (own_hr v94 v97) FP.dconst1) .l) = (0 : Int32) then (1 : Int32) else (0 : Int32)) else (1 : Int32)) := ⟨_, rfl⟩
      have P132 : own_Rch p.tables e below A0 (T114.setTop (mkF m 210 (own_L1 i0 i1 i2 i3 i4 v94 v97 v10 v91 (own_hr v94 v97) v131 v117) [])) := fun t k => P128 t (by
        by_cases hc129 : v97 = (0 : Int64)
        · show Steps p.tables e below (T114.setTop (mkF m 188 (own_L1 i0 i1 i2 i3 i4 v94 v97 v10 v91 (own_hr v94 v97) (1 : Int32) v117) [(.int (lcmpW v97 (0 : Int64)))])) _
          refine XS.ifNo X114.here hx rfl (hb hby at_188) rfl (own_lct3 hc129).2 ?_
          show Steps p.tables e below (T114.setTop (mkF m 191 (own_L1 i0 i1 i2 i3 i4 v94 v97 v10 v91 (own_hr v94 v97) (1 : Int32) v117) [])) _
          refine XS.iload X114.here hx rfl (hb hby at_191) rfl ?_
          show Steps p.tables e below (T114.setTop (mkF m 193 (own_L1 i0 i1 i2 i3 i4 v94 v97 v10 v91 (own_hr v94 v97) (1 : Int32) v117) [(.int (1 : Int32))])) _
          refine XS.ifNo X114.here hx rfl (hb hby at_193) rfl ((if0 _ _).trans (feq (by decide : ¬ ((1 : Int32) = (0 : Int32)))).1) ?_
          show Steps p.tables e below (T114.setTop (mkF m 196 (own_L1 i0 i1 i2 i3 i4 v94 v97 v10 v91 (own_hr v94 v97) (1 : Int32) v117) [])) _
          refine XS.dload X114.here hx rfl (hb hby at_196) rfl ?_
          show Steps p.tables e below (T114.setTop (mkF m 198 (own_L1 i0 i1 i2 i3 i4 v94 v97 v10 v91 (own_hr v94 v97) (1 : Int32) v117) [(.double (own_hr v94 v97))])) _
          refine XS.dconst1 X114.here hx rfl (hb hby at_198) rfl ?_
          show Steps p.tables e below (T114.setTop (mkF m 199 (own_L1 i0 i1 i2 i3 i4 v94 v97 v10 v91 (own_hr v94 v97) (1 : Int32) v117) [(.double FP.dconst1), (.double (own_hr v94 v97))])) _
          refine XS.dcmpS X114.here hx rfl (hb hby at_199) rfl rfl ?_
          by_cases hc130 : (cmpValue (FP.dcmp (own_hr v94 v97) FP.dconst1) .l) = (0 : Int32)
          · show Steps p.tables e below (T114.setTop (mkF m 200 (own_L1 i0 i1 i2 i3 i4 v94 v97 v10 v91 (own_hr v94 v97) (1 : Int32) v117) [(.int (cmpValue (FP.dcmp (own_hr v94 v97) FP.dconst1) .l))])) _
            refine XS.ifNo X114.here hx rfl (hb hby at_200) rfl ((if0 _ _).trans (teq hc130).2) ?_
            have qv131 : v131 = (1 : Int32) := by rw [hv131]; simp only [if_pos hc129, if_pos hc130]
            rw [qv131] at k
            show Steps p.tables e below (T114.setTop (mkF m 203 (own_L1 i0 i1 i2 i3 i4 v94 v97 v10 v91 (own_hr v94 v97) (1 : Int32) v117) [])) _
            refine XS.iconst X114.here hx rfl (hb hby at_203) ?_
            show Steps p.tables e below (T114.setTop (mkF m 204 (own_L1 i0 i1 i2 i3 i4 v94 v97 v10 v91 (own_hr v94 v97) (1 : Int32) v117) [(.int (1 : Int32))])) _
            refine XS.goto X114.here hx rfl (pc0 := 204) (pc' := 208) rfl (hb hby at_204) (by decide) (by decide) ?_
            show Steps p.tables e below (T114.setTop (mkF m 208 (own_L1 i0 i1 i2 i3 i4 v94 v97 v10 v91 (own_hr v94 v97) (1 : Int32) v117) [(.int (1 : Int32))])) _
            refine XS.istore X114.here hx rfl (hb hby at_208) rfl (l' := (own_L1 i0 i1 i2 i3 i4 v94 v97 v10 v91 (own_hr v94 v97) (1 : Int32) v117)) rfl ?_
            exact k
          · show Steps p.tables e below (T114.setTop (mkF m 200 (own_L1 i0 i1 i2 i3 i4 v94 v97 v10 v91 (own_hr v94 v97) (1 : Int32) v117) [(.int (cmpValue (FP.dcmp (own_hr v94 v97) FP.dconst1) .l))])) _
            refine XS.ifYes X114.here hx rfl (pc0 := 200) (pc' := 207) rfl (hb hby at_200) rfl ((if0 _ _).trans (feq hc130).2) (by decide) (by decide) ?_
            have qv131 : v131 = (0 : Int32) := by rw [hv131]; simp only [if_pos hc129, if_neg hc130]
            rw [qv131] at k
            show Steps p.tables e below (T114.setTop (mkF m 207 (own_L1 i0 i1 i2 i3 i4 v94 v97 v10 v91 (own_hr v94 v97) (1 : Int32) v117) [])) _
            refine XS.iconst X114.here hx rfl (hb hby at_207) ?_
            show Steps p.tables e below (T114.setTop (mkF m 208 (own_L1 i0 i1 i2 i3 i4 v94 v97 v10 v91 (own_hr v94 v97) (1 : Int32) v117) [(.int (0 : Int32))])) _
            refine XS.istore X114.here hx rfl (hb hby at_208) rfl (l' := (own_L1 i0 i1 i2 i3 i4 v94 v97 v10 v91 (own_hr v94 v97) (0 : Int32) v117)) rfl ?_
            exact k
        · show Steps p.tables e below (T114.setTop (mkF m 188 (own_L1 i0 i1 i2 i3 i4 v94 v97 v10 v91 (own_hr v94 v97) (1 : Int32) v117) [(.int (lcmpW v97 (0 : Int64)))])) _
          refine XS.ifYes X114.here hx rfl (pc0 := 188) (pc' := 210) rfl (hb hby at_188) rfl (own_lcf3 hc129).2 (by decide) (by decide) ?_
          have qv131 : v131 = (1 : Int32) := by rw [hv131]; simp only [if_neg hc129]
          rw [qv131] at k
          exact k)
      have okv131 : v131 = (1 : Int32) := by
        rw [hv131]
        by_cases z : v97 = (0 : Int64)
        · rw [if_pos z, if_pos (FB z)]
        · rw [if_neg z]
      rw [okv131] at P132
      have P134 : own_Rch p.tables e below A0 (T114.setTop (mkF m 214 (own_L1 i0 i1 i2 i3 i4 v94 v97 v10 v91 (own_hr v94 v97) (1 : Int32) v117) [(.int (lcmpW v94 (0 : Int64)))])) := fun t k => P132 t (by
        show Steps p.tables e below (T114.setTop (mkF m 210 (own_L1 i0 i1 i2 i3 i4 v94 v97 v10 v91 (own_hr v94 v97) (1 : Int32) v117) [])) _
        refine XS.lload X114.here hx rfl (hb hby at_210) rfl ?_
        show Steps p.tables e below (T114.setTop (mkF m 212 (own_L1 i0 i1 i2 i3 i4 v94 v97 v10 v91 (own_hr v94 v97) (1 : Int32) v117) [(.long v94)])) _
        refine XS.lconst X114.here hx rfl (hb hby at_212) ?_
        show Steps p.tables e below (T114.setTop (mkF m 213 (own_L1 i0 i1 i2 i3 i4 v94 v97 v10 v91 (own_hr v94 v97) (1 : Int32) v117) [(.long (0 : Int64)), (.long v94)])) _
        refine XS.lcmp X114.here hx rfl (hb hby at_213) rfl ?_
        exact k)
      obtain ⟨v137, hv137⟩ : ∃ z : Int32, z = (if v94 = (0 : Int64) then (if (cmpValue (FP.dcmp (own_hr v94 v97) FP.dconst0) .l) = (0 : Int32) then (1 : Int32) else (0 : Int32)) else (1 : Int32)) := ⟨_, rfl⟩
      have P138 : own_Rch p.tables e below A0 (T114.setTop (mkF m 236 (own_L1 i0 i1 i2 i3 i4 v94 v97 v10 v91 (own_hr v94 v97) v137 v117) [])) := fun t k => P134 t (by
        by_cases hc135 : v94 = (0 : Int64)
        · show Steps p.tables e below (T114.setTop (mkF m 214 (own_L1 i0 i1 i2 i3 i4 v94 v97 v10 v91 (own_hr v94 v97) (1 : Int32) v117) [(.int (lcmpW v94 (0 : Int64)))])) _
          refine XS.ifNo X114.here hx rfl (hb hby at_214) rfl (own_lct3 hc135).2 ?_
          show Steps p.tables e below (T114.setTop (mkF m 217 (own_L1 i0 i1 i2 i3 i4 v94 v97 v10 v91 (own_hr v94 v97) (1 : Int32) v117) [])) _
          refine XS.iload X114.here hx rfl (hb hby at_217) rfl ?_
          show Steps p.tables e below (T114.setTop (mkF m 219 (own_L1 i0 i1 i2 i3 i4 v94 v97 v10 v91 (own_hr v94 v97) (1 : Int32) v117) [(.int (1 : Int32))])) _
          refine XS.ifNo X114.here hx rfl (hb hby at_219) rfl ((if0 _ _).trans (feq (by decide : ¬ ((1 : Int32) = (0 : Int32)))).1) ?_
          show Steps p.tables e below (T114.setTop (mkF m 222 (own_L1 i0 i1 i2 i3 i4 v94 v97 v10 v91 (own_hr v94 v97) (1 : Int32) v117) [])) _
          refine XS.dload X114.here hx rfl (hb hby at_222) rfl ?_
          show Steps p.tables e below (T114.setTop (mkF m 224 (own_L1 i0 i1 i2 i3 i4 v94 v97 v10 v91 (own_hr v94 v97) (1 : Int32) v117) [(.double (own_hr v94 v97))])) _
          refine XS.dconst0 X114.here hx rfl (hb hby at_224) rfl ?_
          show Steps p.tables e below (T114.setTop (mkF m 225 (own_L1 i0 i1 i2 i3 i4 v94 v97 v10 v91 (own_hr v94 v97) (1 : Int32) v117) [(.double FP.dconst0), (.double (own_hr v94 v97))])) _
          refine XS.dcmpS X114.here hx rfl (hb hby at_225) rfl rfl ?_
          by_cases hc136 : (cmpValue (FP.dcmp (own_hr v94 v97) FP.dconst0) .l) = (0 : Int32)
          · show Steps p.tables e below (T114.setTop (mkF m 226 (own_L1 i0 i1 i2 i3 i4 v94 v97 v10 v91 (own_hr v94 v97) (1 : Int32) v117) [(.int (cmpValue (FP.dcmp (own_hr v94 v97) FP.dconst0) .l))])) _
            refine XS.ifNo X114.here hx rfl (hb hby at_226) rfl ((if0 _ _).trans (teq hc136).2) ?_
            have qv137 : v137 = (1 : Int32) := by rw [hv137]; simp only [if_pos hc135, if_pos hc136]
            rw [qv137] at k
            show Steps p.tables e below (T114.setTop (mkF m 229 (own_L1 i0 i1 i2 i3 i4 v94 v97 v10 v91 (own_hr v94 v97) (1 : Int32) v117) [])) _
            refine XS.iconst X114.here hx rfl (hb hby at_229) ?_
            show Steps p.tables e below (T114.setTop (mkF m 230 (own_L1 i0 i1 i2 i3 i4 v94 v97 v10 v91 (own_hr v94 v97) (1 : Int32) v117) [(.int (1 : Int32))])) _
            refine XS.goto X114.here hx rfl (pc0 := 230) (pc' := 234) rfl (hb hby at_230) (by decide) (by decide) ?_
            show Steps p.tables e below (T114.setTop (mkF m 234 (own_L1 i0 i1 i2 i3 i4 v94 v97 v10 v91 (own_hr v94 v97) (1 : Int32) v117) [(.int (1 : Int32))])) _
            refine XS.istore X114.here hx rfl (hb hby at_234) rfl (l' := (own_L1 i0 i1 i2 i3 i4 v94 v97 v10 v91 (own_hr v94 v97) (1 : Int32) v117)) rfl ?_
            exact k
          · show Steps p.tables e below (T114.setTop (mkF m 226 (own_L1 i0 i1 i2 i3 i4 v94 v97 v10 v91 (own_hr v94 v97) (1 : Int32) v117) [(.int (cmpValue (FP.dcmp (own_hr v94 v97) FP.dconst0) .l))])) _
            refine XS.ifYes X114.here hx rfl (pc0 := 226) (pc' := 233) rfl (hb hby at_226) rfl ((if0 _ _).trans (feq hc136).2) (by decide) (by decide) ?_
            have qv137 : v137 = (0 : Int32) := by rw [hv137]; simp only [if_pos hc135, if_neg hc136]
            rw [qv137] at k
            show Steps p.tables e below (T114.setTop (mkF m 233 (own_L1 i0 i1 i2 i3 i4 v94 v97 v10 v91 (own_hr v94 v97) (1 : Int32) v117) [])) _
            refine XS.iconst X114.here hx rfl (hb hby at_233) ?_
            show Steps p.tables e below (T114.setTop (mkF m 234 (own_L1 i0 i1 i2 i3 i4 v94 v97 v10 v91 (own_hr v94 v97) (1 : Int32) v117) [(.int (0 : Int32))])) _
            refine XS.istore X114.here hx rfl (hb hby at_234) rfl (l' := (own_L1 i0 i1 i2 i3 i4 v94 v97 v10 v91 (own_hr v94 v97) (0 : Int32) v117)) rfl ?_
            exact k
        · show Steps p.tables e below (T114.setTop (mkF m 214 (own_L1 i0 i1 i2 i3 i4 v94 v97 v10 v91 (own_hr v94 v97) (1 : Int32) v117) [(.int (lcmpW v94 (0 : Int64)))])) _
          refine XS.ifYes X114.here hx rfl (pc0 := 214) (pc' := 236) rfl (hb hby at_214) rfl (own_lcf3 hc135).2 (by decide) (by decide) ?_
          have qv137 : v137 = (1 : Int32) := by rw [hv137]; simp only [if_neg hc135]
          rw [qv137] at k
          exact k)
      have okv137 : v137 = (1 : Int32) := by
        rw [hv137]
        by_cases z : v94 = (0 : Int64)
        · rw [if_pos z, if_pos (FC z)]
        · rw [if_neg z]
      rw [okv137] at P138
      have P140 : own_Rch p.tables e below A0 (T114.setTop (mkF m 241 (own_L1 i0 i1 i2 i3 i4 v94 v97 v10 v91 (own_hr v94 v97) (1 : Int32) v117) [(.int (lcmpW v94 v97))])) := fun t k => P138 t (by
        show Steps p.tables e below (T114.setTop (mkF m 236 (own_L1 i0 i1 i2 i3 i4 v94 v97 v10 v91 (own_hr v94 v97) (1 : Int32) v117) [])) _
        refine XS.lload X114.here hx rfl (hb hby at_236) rfl ?_
        show Steps p.tables e below (T114.setTop (mkF m 238 (own_L1 i0 i1 i2 i3 i4 v94 v97 v10 v91 (own_hr v94 v97) (1 : Int32) v117) [(.long v94)])) _
        refine XS.lload X114.here hx rfl (hb hby at_238) rfl ?_
        show Steps p.tables e below (T114.setTop (mkF m 240 (own_L1 i0 i1 i2 i3 i4 v94 v97 v10 v91 (own_hr v94 v97) (1 : Int32) v117) [(.long v97), (.long v94)])) _
        refine XS.lcmp X114.here hx rfl (hb hby at_240) rfl ?_
        exact k)
      obtain ⟨v143, hv143⟩ : ∃ z : Int32, z = (if v94 = v97 then (if (cmpValue (FP.dcmp (own_hr v94 v97) 4602678819172646912) .l) = (0 : Int32) then (1 : Int32) else (0 : Int32)) else (1 : Int32)) := ⟨_, rfl⟩
      have P144 : own_Rch p.tables e below A0 (T114.setTop (mkF m 265 (own_L1 i0 i1 i2 i3 i4 v94 v97 v10 v91 (own_hr v94 v97) v143 v117) [])) := fun t k => P140 t (by
        by_cases hc141 : v94 = v97
        · show Steps p.tables e below (T114.setTop (mkF m 241 (own_L1 i0 i1 i2 i3 i4 v94 v97 v10 v91 (own_hr v94 v97) (1 : Int32) v117) [(.int (lcmpW v94 v97))])) _
          refine XS.ifNo X114.here hx rfl (hb hby at_241) rfl (own_lct3 hc141).2 ?_
          show Steps p.tables e below (T114.setTop (mkF m 244 (own_L1 i0 i1 i2 i3 i4 v94 v97 v10 v91 (own_hr v94 v97) (1 : Int32) v117) [])) _
          refine XS.iload X114.here hx rfl (hb hby at_244) rfl ?_
          show Steps p.tables e below (T114.setTop (mkF m 246 (own_L1 i0 i1 i2 i3 i4 v94 v97 v10 v91 (own_hr v94 v97) (1 : Int32) v117) [(.int (1 : Int32))])) _
          refine XS.ifNo X114.here hx rfl (hb hby at_246) rfl ((if0 _ _).trans (feq (by decide : ¬ ((1 : Int32) = (0 : Int32)))).1) ?_
          show Steps p.tables e below (T114.setTop (mkF m 249 (own_L1 i0 i1 i2 i3 i4 v94 v97 v10 v91 (own_hr v94 v97) (1 : Int32) v117) [])) _
          refine XS.dload X114.here hx rfl (hb hby at_249) rfl ?_
          show Steps p.tables e below (T114.setTop (mkF m 251 (own_L1 i0 i1 i2 i3 i4 v94 v97 v10 v91 (own_hr v94 v97) (1 : Int32) v117) [(.double (own_hr v94 v97))])) _
          refine X114.ldc2DoubleC hx hown (mvT hZ (hw _ (List.mem_of_getElem? (i := 35) rfl))) (g := (mkF m 251 (own_L1 i0 i1 i2 i3 i4 v94 v97 v10 v91 (own_hr v94 v97) (1 : Int32) v117) [(.double (own_hr v94 v97))])) rfl (hb hby at_251) _ ?_
          show Steps p.tables e below (T114.setTop (mkF m 254 (own_L1 i0 i1 i2 i3 i4 v94 v97 v10 v91 (own_hr v94 v97) (1 : Int32) v117) [(.double 4602678819172646912), (.double (own_hr v94 v97))])) _
          refine XS.dcmpS X114.here hx rfl (hb hby at_254) rfl rfl ?_
          by_cases hc142 : (cmpValue (FP.dcmp (own_hr v94 v97) 4602678819172646912) .l) = (0 : Int32)
          · show Steps p.tables e below (T114.setTop (mkF m 255 (own_L1 i0 i1 i2 i3 i4 v94 v97 v10 v91 (own_hr v94 v97) (1 : Int32) v117) [(.int (cmpValue (FP.dcmp (own_hr v94 v97) 4602678819172646912) .l))])) _
            refine XS.ifNo X114.here hx rfl (hb hby at_255) rfl ((if0 _ _).trans (teq hc142).2) ?_
            have qv143 : v143 = (1 : Int32) := by rw [hv143]; simp only [if_pos hc141, if_pos hc142]
            rw [qv143] at k
            show Steps p.tables e below (T114.setTop (mkF m 258 (own_L1 i0 i1 i2 i3 i4 v94 v97 v10 v91 (own_hr v94 v97) (1 : Int32) v117) [])) _
            refine XS.iconst X114.here hx rfl (hb hby at_258) ?_
            show Steps p.tables e below (T114.setTop (mkF m 259 (own_L1 i0 i1 i2 i3 i4 v94 v97 v10 v91 (own_hr v94 v97) (1 : Int32) v117) [(.int (1 : Int32))])) _
            refine XS.goto X114.here hx rfl (pc0 := 259) (pc' := 263) rfl (hb hby at_259) (by decide) (by decide) ?_
            show Steps p.tables e below (T114.setTop (mkF m 263 (own_L1 i0 i1 i2 i3 i4 v94 v97 v10 v91 (own_hr v94 v97) (1 : Int32) v117) [(.int (1 : Int32))])) _
            refine XS.istore X114.here hx rfl (hb hby at_263) rfl (l' := (own_L1 i0 i1 i2 i3 i4 v94 v97 v10 v91 (own_hr v94 v97) (1 : Int32) v117)) rfl ?_
            exact k
          · show Steps p.tables e below (T114.setTop (mkF m 255 (own_L1 i0 i1 i2 i3 i4 v94 v97 v10 v91 (own_hr v94 v97) (1 : Int32) v117) [(.int (cmpValue (FP.dcmp (own_hr v94 v97) 4602678819172646912) .l))])) _
            refine XS.ifYes X114.here hx rfl (pc0 := 255) (pc' := 262) rfl (hb hby at_255) rfl ((if0 _ _).trans (feq hc142).2) (by decide) (by decide) ?_
            have qv143 : v143 = (0 : Int32) := by rw [hv143]; simp only [if_pos hc141, if_neg hc142]
            rw [qv143] at k
            show Steps p.tables e below (T114.setTop (mkF m 262 (own_L1 i0 i1 i2 i3 i4 v94 v97 v10 v91 (own_hr v94 v97) (1 : Int32) v117) [])) _
            refine XS.iconst X114.here hx rfl (hb hby at_262) ?_
            show Steps p.tables e below (T114.setTop (mkF m 263 (own_L1 i0 i1 i2 i3 i4 v94 v97 v10 v91 (own_hr v94 v97) (1 : Int32) v117) [(.int (0 : Int32))])) _
            refine XS.istore X114.here hx rfl (hb hby at_263) rfl (l' := (own_L1 i0 i1 i2 i3 i4 v94 v97 v10 v91 (own_hr v94 v97) (0 : Int32) v117)) rfl ?_
            exact k
        · show Steps p.tables e below (T114.setTop (mkF m 241 (own_L1 i0 i1 i2 i3 i4 v94 v97 v10 v91 (own_hr v94 v97) (1 : Int32) v117) [(.int (lcmpW v94 v97))])) _
          refine XS.ifYes X114.here hx rfl (pc0 := 241) (pc' := 265) rfl (hb hby at_241) rfl (own_lcf3 hc141).2 (by decide) (by decide) ?_
          have qv143 : v143 = (1 : Int32) := by rw [hv143]; simp only [if_neg hc141]
          rw [qv143] at k
          exact k)
      have okv143 : v143 = (1 : Int32) := by
        rw [hv143]
        by_cases z : v94 = v97
        · rw [if_pos z, if_pos (FD z)]
        · rw [if_neg z]
      rw [okv143] at P144
      have P146 : own_Rch p.tables e below A0 (T114.setTop (mkF m 285 (own_L1 i0 i1 i2 i3 i4 v94 v97 v10 v91 (own_hr v94 v97) (1 : Int32) v117) [(.int (cmpValue (FP.dcmp (FP.dmul (own_hr v94 v97) (FP.l2d v91)) (FP.l2d v94)) .l))])) := fun t k => P144 t (by
        show Steps p.tables e below (T114.setTop (mkF m 265 (own_L1 i0 i1 i2 i3 i4 v94 v97 v10 v91 (own_hr v94 v97) (1 : Int32) v117) [])) _
        refine XS.iload X114.here hx rfl (hb hby at_265) rfl ?_
        show Steps p.tables e below (T114.setTop (mkF m 267 (own_L1 i0 i1 i2 i3 i4 v94 v97 v10 v91 (own_hr v94 v97) (1 : Int32) v117) [(.int v10)])) _
        refine XS.ifNo X114.here hx rfl (hb hby at_267) rfl ((if0 _ _).trans (feq hc13).1) ?_
        show Steps p.tables e below (T114.setTop (mkF m 270 (own_L1 i0 i1 i2 i3 i4 v94 v97 v10 v91 (own_hr v94 v97) (1 : Int32) v117) [])) _
        refine XS.iload X114.here hx rfl (hb hby at_270) rfl ?_
        show Steps p.tables e below (T114.setTop (mkF m 272 (own_L1 i0 i1 i2 i3 i4 v94 v97 v10 v91 (own_hr v94 v97) (1 : Int32) v117) [(.int (1 : Int32))])) _
        refine XS.ifNo X114.here hx rfl (hb hby at_272) rfl ((if0 _ _).trans (feq (by decide : ¬ ((1 : Int32) = (0 : Int32)))).1) ?_
        show Steps p.tables e below (T114.setTop (mkF m 275 (own_L1 i0 i1 i2 i3 i4 v94 v97 v10 v91 (own_hr v94 v97) (1 : Int32) v117) [])) _
        refine XS.dload X114.here hx rfl (hb hby at_275) rfl ?_
        show Steps p.tables e below (T114.setTop (mkF m 277 (own_L1 i0 i1 i2 i3 i4 v94 v97 v10 v91 (own_hr v94 v97) (1 : Int32) v117) [(.double (own_hr v94 v97))])) _
        refine XS.lload X114.here hx rfl (hb hby at_277) rfl ?_
        show Steps p.tables e below (T114.setTop (mkF m 279 (own_L1 i0 i1 i2 i3 i4 v94 v97 v10 v91 (own_hr v94 v97) (1 : Int32) v117) [(.long v91), (.double (own_hr v94 v97))])) _
        refine XS.l2dS X114.here hx rfl (hb hby at_279) rfl rfl ?_
        show Steps p.tables e below (T114.setTop (mkF m 280 (own_L1 i0 i1 i2 i3 i4 v94 v97 v10 v91 (own_hr v94 v97) (1 : Int32) v117) [(.double (FP.l2d v91)), (.double (own_hr v94 v97))])) _
        refine XS.dmulS X114.here hx rfl (hb hby at_280) rfl FE.2 rfl ?_
        show Steps p.tables e below (T114.setTop (mkF m 281 (own_L1 i0 i1 i2 i3 i4 v94 v97 v10 v91 (own_hr v94 v97) (1 : Int32) v117) [(.double (FP.dmul (own_hr v94 v97) (FP.l2d v91)))])) _
        refine XS.lload X114.here hx rfl (hb hby at_281) rfl ?_
        show Steps p.tables e below (T114.setTop (mkF m 283 (own_L1 i0 i1 i2 i3 i4 v94 v97 v10 v91 (own_hr v94 v97) (1 : Int32) v117) [(.long v94), (.double (FP.dmul (own_hr v94 v97) (FP.l2d v91)))])) _
        refine XS.l2dS X114.here hx rfl (hb hby at_283) rfl rfl ?_
        show Steps p.tables e below (T114.setTop (mkF m 284 (own_L1 i0 i1 i2 i3 i4 v94 v97 v10 v91 (own_hr v94 v97) (1 : Int32) v117) [(.double (FP.l2d v94)), (.double (FP.dmul (own_hr v94 v97) (FP.l2d v91)))])) _
        refine XS.dcmpS X114.here hx rfl (hb hby at_284) rfl rfl ?_
        exact k)
      obtain ⟨v148, hv148⟩ : ∃ z : Int32, z = (if (cmpValue (FP.dcmp (FP.dmul (own_hr v94 v97) (FP.l2d v91)) (FP.l2d v94)) .l) = (0 : Int32) then (1 : Int32) else (0 : Int32)) := ⟨_, rfl⟩
      have P149 : own_Rch p.tables e below A0 (T114.setTop (mkF m 293 (own_L1 i0 i1 i2 i3 i4 v94 v97 v10 v91 (own_hr v94 v97) (1 : Int32) v117) [(.int v148)])) := fun t k => P146 t (by
        by_cases hc147 : (cmpValue (FP.dcmp (FP.dmul (own_hr v94 v97) (FP.l2d v91)) (FP.l2d v94)) .l) = (0 : Int32)
        · show Steps p.tables e below (T114.setTop (mkF m 285 (own_L1 i0 i1 i2 i3 i4 v94 v97 v10 v91 (own_hr v94 v97) (1 : Int32) v117) [(.int (cmpValue (FP.dcmp (FP.dmul (own_hr v94 v97) (FP.l2d v91)) (FP.l2d v94)) .l))])) _
          refine XS.ifNo X114.here hx rfl (hb hby at_285) rfl ((if0 _ _).trans (teq hc147).2) ?_
          have qv148 : v148 = (1 : Int32) := by rw [hv148]; simp only [if_pos hc147]
          rw [qv148] at k
          show Steps p.tables e below (T114.setTop (mkF m 288 (own_L1 i0 i1 i2 i3 i4 v94 v97 v10 v91 (own_hr v94 v97) (1 : Int32) v117) [])) _
          refine XS.iconst X114.here hx rfl (hb hby at_288) ?_
          show Steps p.tables e below (T114.setTop (mkF m 289 (own_L1 i0 i1 i2 i3 i4 v94 v97 v10 v91 (own_hr v94 v97) (1 : Int32) v117) [(.int (1 : Int32))])) _
          refine XS.goto X114.here hx rfl (pc0 := 289) (pc' := 293) rfl (hb hby at_289) (by decide) (by decide) ?_
          exact k
        · show Steps p.tables e below (T114.setTop (mkF m 285 (own_L1 i0 i1 i2 i3 i4 v94 v97 v10 v91 (own_hr v94 v97) (1 : Int32) v117) [(.int (cmpValue (FP.dcmp (FP.dmul (own_hr v94 v97) (FP.l2d v91)) (FP.l2d v94)) .l))])) _
          refine XS.ifYes X114.here hx rfl (pc0 := 285) (pc' := 292) rfl (hb hby at_285) rfl ((if0 _ _).trans (feq hc147).2) (by decide) (by decide) ?_
          have qv148 : v148 = (0 : Int32) := by rw [hv148]; simp only [if_neg hc147]
          rw [qv148] at k
          show Steps p.tables e below (T114.setTop (mkF m 292 (own_L1 i0 i1 i2 i3 i4 v94 v97 v10 v91 (own_hr v94 v97) (1 : Int32) v117) [])) _
          refine XS.iconst X114.here hx rfl (hb hby at_292) ?_
          exact k)
      have P150 : own_Rch p.tables e below A0 (T114.setTop (mkF m 295 (own_L1 i0 i1 i2 i3 i4 v94 v97 v10 v91 (own_hr v94 v97) v148 v117) [])) := fun t k => P149 t (by
        show Steps p.tables e below (T114.setTop (mkF m 293 (own_L1 i0 i1 i2 i3 i4 v94 v97 v10 v91 (own_hr v94 v97) (1 : Int32) v117) [(.int v148)])) _
        refine XS.istore X114.here hx rfl (hb hby at_293) rfl (l' := (own_L1 i0 i1 i2 i3 i4 v94 v97 v10 v91 (own_hr v94 v97) v148 v117)) rfl ?_
        exact k)
      have okv148 : v148 = (1 : Int32) := by
        rw [hv148, if_pos FE.1]
      rw [okv148] at P150
      exact tail ⟨T114, _, _, v94, v97, v10, v91, (own_hr v94 v97), v117, X114, e114, Z_111, N114, P150⟩
  · -- from pc 295 on
    rintro ⟨Tt, Lt, ht, x9, x11, x13, x14, x16, x19, Xt, et, Zt, Nt, Pq⟩
    have P151 : own_Rch p.tables e below A0 (Tt.setTop (mkF m 303 (own_L10 i0 i1 i2 i3 i4 x9 x11 x13 x14 x16 (1 : Int32) x19 (i2 &&& (16777215 : Int64))) [])) := fun t k => Pq t (by
      show Steps p.tables e below (Tt.setTop (mkF m 295 (own_L1 i0 i1 i2 i3 i4 x9 x11 x13 x14 x16 (1 : Int32) x19) [])) _
      refine XS.lload Xt.here hx rfl (hb hby at_295) rfl ?_
      show Steps p.tables e below (Tt.setTop (mkF m 297 (own_L1 i0 i1 i2 i3 i4 x9 x11 x13 x14 x16 (1 : Int32) x19) [(.long i2)])) _
      refine Xt.ldc2Long hx hown (mvT hZ (hw _ (List.mem_of_getElem? (i := 32) rfl))) (g := (mkF m 297 (own_L1 i0 i1 i2 i3 i4 x9 x11 x13 x14 x16 (1 : Int32) x19) [(.long i2)])) rfl (hb hby at_297) _ ?_
      show Steps p.tables e below (Tt.setTop (mkF m 300 (own_L1 i0 i1 i2 i3 i4 x9 x11 x13 x14 x16 (1 : Int32) x19) [(.long (16777215 : Int64)), (.long i2)])) _
      refine XS.land Xt.here hx rfl (hb hby at_300) rfl ?_
      show Steps p.tables e below (Tt.setTop (mkF m 301 (own_L1 i0 i1 i2 i3 i4 x9 x11 x13 x14 x16 (1 : Int32) x19) [(.long (i2 &&& (16777215 : Int64)))])) _
      refine XS.lstore Xt.here hx rfl (hb hby at_301) rfl (l' := (own_L10 i0 i1 i2 i3 i4 x9 x11 x13 x14 x16 (1 : Int32) x19 (i2 &&& (16777215 : Int64)))) rfl ?_
      exact k)
    obtain ⟨v152, hv152, P153⟩ : ∃ z : Int64, z = (i2 &&& (16777215 : Int64)) ∧ own_Rch p.tables e below A0 (Tt.setTop (mkF m 303 (own_L10 i0 i1 i2 i3 i4 x9 x11 x13 x14 x16 (1 : Int32) x19 z) [])) := ⟨_, rfl, P151⟩
    have P154 : own_Rch p.tables e below A0 (Tt.setTop (mkF m 311 (own_L11 i0 i1 i2 i3 i4 x9 x11 x13 x14 x16 (1 : Int32) x19 v152 (i3 &&& (16777215 : Int64))) [])) := fun t k => P153 t (by
      show Steps p.tables e below (Tt.setTop (mkF m 303 (own_L10 i0 i1 i2 i3 i4 x9 x11 x13 x14 x16 (1 : Int32) x19 v152) [])) _
      refine XS.lload Xt.here hx rfl (hb hby at_303) rfl ?_
      show Steps p.tables e below (Tt.setTop (mkF m 305 (own_L10 i0 i1 i2 i3 i4 x9 x11 x13 x14 x16 (1 : Int32) x19 v152) [(.long i3)])) _
      refine Xt.ldc2Long hx hown (mvT hZ (hw _ (List.mem_of_getElem? (i := 32) rfl))) (g := (mkF m 305 (own_L10 i0 i1 i2 i3 i4 x9 x11 x13 x14 x16 (1 : Int32) x19 v152) [(.long i3)])) rfl (hb hby at_305) _ ?_
      show Steps p.tables e below (Tt.setTop (mkF m 308 (own_L10 i0 i1 i2 i3 i4 x9 x11 x13 x14 x16 (1 : Int32) x19 v152) [(.long (16777215 : Int64)), (.long i3)])) _
      refine XS.land Xt.here hx rfl (hb hby at_308) rfl ?_
      show Steps p.tables e below (Tt.setTop (mkF m 309 (own_L10 i0 i1 i2 i3 i4 x9 x11 x13 x14 x16 (1 : Int32) x19 v152) [(.long (i3 &&& (16777215 : Int64)))])) _
      refine XS.lstore Xt.here hx rfl (hb hby at_309) rfl (l' := (own_L11 i0 i1 i2 i3 i4 x9 x11 x13 x14 x16 (1 : Int32) x19 v152 (i3 &&& (16777215 : Int64)))) rfl ?_
      exact k)
    obtain ⟨v155, hv155, P156⟩ : ∃ z : Int64, z = (i3 &&& (16777215 : Int64)) ∧ own_Rch p.tables e below A0 (Tt.setTop (mkF m 311 (own_L11 i0 i1 i2 i3 i4 x9 x11 x13 x14 x16 (1 : Int32) x19 v152 z) [])) := ⟨_, rfl, P154⟩
    have P157 : own_Rch p.tables e below A0 (Tt.setTop (mkF m 318 (own_L12 i0 i1 i2 i3 i4 x9 x11 x13 x14 x16 (1 : Int32) x19 v152 v155 (i0 &&& (16777215 : Int64))) [])) := fun t k => P156 t (by
      show Steps p.tables e below (Tt.setTop (mkF m 311 (own_L11 i0 i1 i2 i3 i4 x9 x11 x13 x14 x16 (1 : Int32) x19 v152 v155) [])) _
      refine XS.lloadN Xt.here hx rfl (hb hby at_311) rfl ?_
      show Steps p.tables e below (Tt.setTop (mkF m 312 (own_L11 i0 i1 i2 i3 i4 x9 x11 x13 x14 x16 (1 : Int32) x19 v152 v155) [(.long i0)])) _
      refine Xt.ldc2Long hx hown (mvT hZ (hw _ (List.mem_of_getElem? (i := 32) rfl))) (g := (mkF m 312 (own_L11 i0 i1 i2 i3 i4 x9 x11 x13 x14 x16 (1 : Int32) x19 v152 v155) [(.long i0)])) rfl (hb hby at_312) _ ?_
      show Steps p.tables e below (Tt.setTop (mkF m 315 (own_L11 i0 i1 i2 i3 i4 x9 x11 x13 x14 x16 (1 : Int32) x19 v152 v155) [(.long (16777215 : Int64)), (.long i0)])) _
      refine XS.land Xt.here hx rfl (hb hby at_315) rfl ?_
      show Steps p.tables e below (Tt.setTop (mkF m 316 (own_L11 i0 i1 i2 i3 i4 x9 x11 x13 x14 x16 (1 : Int32) x19 v152 v155) [(.long (i0 &&& (16777215 : Int64)))])) _
      refine XS.lstore Xt.here hx rfl (hb hby at_316) rfl (l' := (own_L12 i0 i1 i2 i3 i4 x9 x11 x13 x14 x16 (1 : Int32) x19 v152 v155 (i0 &&& (16777215 : Int64)))) rfl ?_
      exact k)
    obtain ⟨v158, hv158, P159⟩ : ∃ z : Int64, z = (i0 &&& (16777215 : Int64)) ∧ own_Rch p.tables e below A0 (Tt.setTop (mkF m 318 (own_L12 i0 i1 i2 i3 i4 x9 x11 x13 x14 x16 (1 : Int32) x19 v152 v155 z) [])) := ⟨_, rfl, P157⟩
    have P160 : own_Rch p.tables e below A0 (Tt.setTop (mkF m 325 (own_L13 i0 i1 i2 i3 i4 x9 x11 x13 x14 x16 (1 : Int32) x19 v152 v155 v158 (i1 &&& (16777215 : Int64))) [])) := fun t k => P159 t (by
      show Steps p.tables e below (Tt.setTop (mkF m 318 (own_L12 i0 i1 i2 i3 i4 x9 x11 x13 x14 x16 (1 : Int32) x19 v152 v155 v158) [])) _
      refine XS.lloadN Xt.here hx rfl (hb hby at_318) rfl ?_
      show Steps p.tables e below (Tt.setTop (mkF m 319 (own_L12 i0 i1 i2 i3 i4 x9 x11 x13 x14 x16 (1 : Int32) x19 v152 v155 v158) [(.long i1)])) _
      refine Xt.ldc2Long hx hown (mvT hZ (hw _ (List.mem_of_getElem? (i := 32) rfl))) (g := (mkF m 319 (own_L12 i0 i1 i2 i3 i4 x9 x11 x13 x14 x16 (1 : Int32) x19 v152 v155 v158) [(.long i1)])) rfl (hb hby at_319) _ ?_
      show Steps p.tables e below (Tt.setTop (mkF m 322 (own_L12 i0 i1 i2 i3 i4 x9 x11 x13 x14 x16 (1 : Int32) x19 v152 v155 v158) [(.long (16777215 : Int64)), (.long i1)])) _
      refine XS.land Xt.here hx rfl (hb hby at_322) rfl ?_
      show Steps p.tables e below (Tt.setTop (mkF m 323 (own_L12 i0 i1 i2 i3 i4 x9 x11 x13 x14 x16 (1 : Int32) x19 v152 v155 v158) [(.long (i1 &&& (16777215 : Int64)))])) _
      refine XS.lstore Xt.here hx rfl (hb hby at_323) rfl (l' := (own_L13 i0 i1 i2 i3 i4 x9 x11 x13 x14 x16 (1 : Int32) x19 v152 v155 v158 (i1 &&& (16777215 : Int64)))) rfl ?_
      exact k)
    obtain ⟨v161, hv161, P162⟩ : ∃ z : Int64, z = (i1 &&& (16777215 : Int64)) ∧ own_Rch p.tables e below A0 (Tt.setTop (mkF m 325 (own_L13 i0 i1 i2 i3 i4 x9 x11 x13 x14 x16 (1 : Int32) x19 v152 v155 v158 z) [])) := ⟨_, rfl, P160⟩
    have P164 : own_Rch p.tables e below A0 (Tt.setTop (mkF m 330 (own_L13 i0 i1 i2 i3 i4 x9 x11 x13 x14 x16 (1 : Int32) x19 v152 v155 v158 v161) [(.int (i4 &&& (262144 : Int32)))])) := fun t k => P162 t (by
      show Steps p.tables e below (Tt.setTop (mkF m 325 (own_L13 i0 i1 i2 i3 i4 x9 x11 x13 x14 x16 (1 : Int32) x19 v152 v155 v158 v161) [])) _
      refine XS.iload Xt.here hx rfl (hb hby at_325) rfl ?_
      show Steps p.tables e below (Tt.setTop (mkF m 327 (own_L13 i0 i1 i2 i3 i4 x9 x11 x13 x14 x16 (1 : Int32) x19 v152 v155 v158 v161) [(.int i4)])) _
      refine Xt.ldcInt hx hown (mvT hZ (hw _ (List.mem_of_getElem? (i := 33) rfl))) (g := (mkF m 327 (own_L13 i0 i1 i2 i3 i4 x9 x11 x13 x14 x16 (1 : Int32) x19 v152 v155 v158 v161) [(.int i4)])) rfl (hb hby at_327) _ ?_
      show Steps p.tables e below (Tt.setTop (mkF m 329 (own_L13 i0 i1 i2 i3 i4 x9 x11 x13 x14 x16 (1 : Int32) x19 v152 v155 v158 v161) [(.int (262144 : Int32)), (.int i4)])) _
      refine XS.iand Xt.here hx rfl (hb hby at_329) rfl ?_
      exact k)
    obtain ⟨v166, hv166⟩ : ∃ z : Int64, z = (if (i4 &&& (262144 : Int32)) = (0 : Int32) then v152 else (0 : Int64)) := ⟨_, rfl⟩
    have P167 : own_Rch p.tables e below A0 (Tt.setTop (mkF m 336 (own_L13 i0 i1 i2 i3 i4 x9 x11 x13 x14 x16 (1 : Int32) x19 v166 v155 v158 v161) [])) := fun t k => P164 t (by
      by_cases hc165 : (i4 &&& (262144 : Int32)) = (0 : Int32)
      · show Steps p.tables e below (Tt.setTop (mkF m 330 (own_L13 i0 i1 i2 i3 i4 x9 x11 x13 x14 x16 (1 : Int32) x19 v152 v155 v158 v161) [(.int (i4 &&& (262144 : Int32)))])) _
        refine XS.ifYes Xt.here hx rfl (pc0 := 330) (pc' := 336) rfl (hb hby at_330) rfl ((if0 _ _).trans (teq hc165).1) (by decide) (by decide) ?_
        have qv166 : v166 = v152 := by rw [hv166]; simp only [if_pos hc165]
        rw [qv166] at k
        exact k
      · show Steps p.tables e below (Tt.setTop (mkF m 330 (own_L13 i0 i1 i2 i3 i4 x9 x11 x13 x14 x16 (1 : Int32) x19 v152 v155 v158 v161) [(.int (i4 &&& (262144 : Int32)))])) _
        refine XS.ifNo Xt.here hx rfl (hb hby at_330) rfl ((if0 _ _).trans (feq hc165).1) ?_
        have qv166 : v166 = (0 : Int64) := by rw [hv166]; simp only [if_neg hc165]
        rw [qv166] at k
        show Steps p.tables e below (Tt.setTop (mkF m 333 (own_L13 i0 i1 i2 i3 i4 x9 x11 x13 x14 x16 (1 : Int32) x19 v152 v155 v158 v161) [])) _
        refine XS.lconst Xt.here hx rfl (hb hby at_333) ?_
        show Steps p.tables e below (Tt.setTop (mkF m 334 (own_L13 i0 i1 i2 i3 i4 x9 x11 x13 x14 x16 (1 : Int32) x19 v152 v155 v158 v161) [(.long (0 : Int64))])) _
        refine XS.lstore Xt.here hx rfl (hb hby at_334) rfl (l' := (own_L13 i0 i1 i2 i3 i4 x9 x11 x13 x14 x16 (1 : Int32) x19 (0 : Int64) v155 v158 v161)) rfl ?_
        exact k)
    have P169 : own_Rch p.tables e below A0 (Tt.setTop (mkF m 341 (own_L13 i0 i1 i2 i3 i4 x9 x11 x13 x14 x16 (1 : Int32) x19 v166 v155 v158 v161) [(.int (i4 &&& (8 : Int32)))])) := fun t k => P167 t (by
      show Steps p.tables e below (Tt.setTop (mkF m 336 (own_L13 i0 i1 i2 i3 i4 x9 x11 x13 x14 x16 (1 : Int32) x19 v166 v155 v158 v161) [])) _
      refine XS.iload Xt.here hx rfl (hb hby at_336) rfl ?_
      show Steps p.tables e below (Tt.setTop (mkF m 338 (own_L13 i0 i1 i2 i3 i4 x9 x11 x13 x14 x16 (1 : Int32) x19 v166 v155 v158 v161) [(.int i4)])) _
      refine XS.bipush Xt.here hx rfl (hb hby at_338) ?_
      show Steps p.tables e below (Tt.setTop (mkF m 340 (own_L13 i0 i1 i2 i3 i4 x9 x11 x13 x14 x16 (1 : Int32) x19 v166 v155 v158 v161) [(.int (8 : Int32)), (.int i4)])) _
      refine XS.iand Xt.here hx rfl (hb hby at_340) rfl ?_
      exact k)
    by_cases hc168 : (i4 &&& (8 : Int32)) = (0 : Int32)
    · -- (i4 &&& (8 : Int32)) = (0 : Int32)
      have P171 : own_Rch p.tables e below A0 (Tt.setTop (mkF m 376 (own_L13 i0 i1 i2 i3 i4 x9 x11 x13 x14 x16 (1 : Int32) x19 v166 v155 v158 v161) [(.int (i4 &&& (524288 : Int32)))])) := fun t k => P169 t (by
        show Steps p.tables e below (Tt.setTop (mkF m 341 (own_L13 i0 i1 i2 i3 i4 x9 x11 x13 x14 x16 (1 : Int32) x19 v166 v155 v158 v161) [(.int (i4 &&& (8 : Int32)))])) _
        refine XS.ifYes Xt.here hx rfl (pc0 := 341) (pc' := 371) rfl (hb hby at_341) rfl ((if0 _ _).trans (teq hc168).1) (by decide) (by decide) ?_
        show Steps p.tables e below (Tt.setTop (mkF m 371 (own_L13 i0 i1 i2 i3 i4 x9 x11 x13 x14 x16 (1 : Int32) x19 v166 v155 v158 v161) [])) _
        refine XS.iload Xt.here hx rfl (hb hby at_371) rfl ?_
        show Steps p.tables e below (Tt.setTop (mkF m 373 (own_L13 i0 i1 i2 i3 i4 x9 x11 x13 x14 x16 (1 : Int32) x19 v166 v155 v158 v161) [(.int i4)])) _
        refine Xt.ldcInt hx hown (mvT hZ (hw _ (List.mem_of_getElem? (i := 34) rfl))) (g := (mkF m 373 (own_L13 i0 i1 i2 i3 i4 x9 x11 x13 x14 x16 (1 : Int32) x19 v166 v155 v158 v161) [(.int i4)])) rfl (hb hby at_373) _ ?_
        show Steps p.tables e below (Tt.setTop (mkF m 375 (own_L13 i0 i1 i2 i3 i4 x9 x11 x13 x14 x16 (1 : Int32) x19 v166 v155 v158 v161) [(.int (524288 : Int32)), (.int i4)])) _
        refine XS.iand Xt.here hx rfl (hb hby at_375) rfl ?_
        exact k)
      obtain ⟨v173, hv173⟩ : ∃ z : Int64, z = (if (i4 &&& (524288 : Int32)) = (0 : Int32) then v161 else (0 : Int64)) := ⟨_, rfl⟩
      have P174 : own_Rch p.tables e below A0 (Tt.setTop (mkF m 382 (own_L13 i0 i1 i2 i3 i4 x9 x11 x13 x14 x16 (1 : Int32) x19 v166 v155 v158 v173) [])) := fun t k => P171 t (by
        by_cases hc172 : (i4 &&& (524288 : Int32)) = (0 : Int32)
        · show Steps p.tables e below (Tt.setTop (mkF m 376 (own_L13 i0 i1 i2 i3 i4 x9 x11 x13 x14 x16 (1 : Int32) x19 v166 v155 v158 v161) [(.int (i4 &&& (524288 : Int32)))])) _
          refine XS.ifYes Xt.here hx rfl (pc0 := 376) (pc' := 382) rfl (hb hby at_376) rfl ((if0 _ _).trans (teq hc172).1) (by decide) (by decide) ?_
          have qv173 : v173 = v161 := by rw [hv173]; simp only [if_pos hc172]
          rw [qv173] at k
          exact k
        · show Steps p.tables e below (Tt.setTop (mkF m 376 (own_L13 i0 i1 i2 i3 i4 x9 x11 x13 x14 x16 (1 : Int32) x19 v166 v155 v158 v161) [(.int (i4 &&& (524288 : Int32)))])) _
          refine XS.ifNo Xt.here hx rfl (hb hby at_376) rfl ((if0 _ _).trans (feq hc172).1) ?_
          have qv173 : v173 = (0 : Int64) := by rw [hv173]; simp only [if_neg hc172]
          rw [qv173] at k
          show Steps p.tables e below (Tt.setTop (mkF m 379 (own_L13 i0 i1 i2 i3 i4 x9 x11 x13 x14 x16 (1 : Int32) x19 v166 v155 v158 v161) [])) _
          refine XS.lconst Xt.here hx rfl (hb hby at_379) ?_
          show Steps p.tables e below (Tt.setTop (mkF m 380 (own_L13 i0 i1 i2 i3 i4 x9 x11 x13 x14 x16 (1 : Int32) x19 v166 v155 v158 v161) [(.long (0 : Int64))])) _
          refine XS.lstore Xt.here hx rfl (hb hby at_380) rfl (l' := (own_L13 i0 i1 i2 i3 i4 x9 x11 x13 x14 x16 (1 : Int32) x19 v166 v155 v158 (0 : Int64))) rfl ?_
          exact k)
      have z0 : (0 : Int64).toInt = 0 := rfl
      have b2 := own_m24 i2
      have b3 := own_m24 i3
      have b4 := own_m24 i0
      have b5 := own_m24 i1
      have bb_v155 : 0 ≤ v155.toInt ∧ v155.toInt ≤ 16777215 := by
        rw [hv155]; omega
      have bb_v166 : 0 ≤ v166.toInt ∧ v166.toInt ≤ 16777215 := by
        rw [hv166, hv152]; split <;> omega
      have bb_v158 : 0 ≤ v158.toInt ∧ v158.toInt ≤ 4294967040 := by
        rw [hv158]; omega
      have bb_v173 : 0 ≤ v173.toInt ∧ v173.toInt ≤ 4294967040 := by
        rw [hv173, hv161]; split <;> omega
      have P176 : own_Rch p.tables e below A0 (Tt.setTop (mkF m 389 (own_L13 i0 i1 i2 i3 i4 x9 x11 x13 x14 x16 (1 : Int32) x19 v166 v155 v158 v173) [(.int (lcmpW (v166 + v155) (0 : Int64)))])) := fun t k => P174 t (by
        show Steps p.tables e below (Tt.setTop (mkF m 382 (own_L13 i0 i1 i2 i3 i4 x9 x11 x13 x14 x16 (1 : Int32) x19 v166 v155 v158 v173) [])) _
        refine XS.lload Xt.here hx rfl (hb hby at_382) rfl ?_
        show Steps p.tables e below (Tt.setTop (mkF m 384 (own_L13 i0 i1 i2 i3 i4 x9 x11 x13 x14 x16 (1 : Int32) x19 v166 v155 v158 v173) [(.long v166)])) _
        refine XS.lload Xt.here hx rfl (hb hby at_384) rfl ?_
        show Steps p.tables e below (Tt.setTop (mkF m 386 (own_L13 i0 i1 i2 i3 i4 x9 x11 x13 x14 x16 (1 : Int32) x19 v166 v155 v158 v173) [(.long v155), (.long v166)])) _
        refine XS.ladd Xt.here hx rfl (hb hby at_386) rfl ?_
        show Steps p.tables e below (Tt.setTop (mkF m 387 (own_L13 i0 i1 i2 i3 i4 x9 x11 x13 x14 x16 (1 : Int32) x19 v166 v155 v158 v173) [(.long (v166 + v155))])) _
        refine XS.lconst Xt.here hx rfl (hb hby at_387) ?_
        show Steps p.tables e below (Tt.setTop (mkF m 388 (own_L13 i0 i1 i2 i3 i4 x9 x11 x13 x14 x16 (1 : Int32) x19 v166 v155 v158 v173) [(.long (0 : Int64)), (.long (v166 + v155))])) _
        refine XS.lcmp Xt.here hx rfl (hb hby at_388) rfl ?_
        exact k)
      by_cases hc175 : (0 : Int64) < (v166 + v155)
      · -- (0 : Int64) < (v166 + v155)
        have P178 : own_Rch p.tables e below A0 (Tt.setTop (mkF m 399 (own_L13 i0 i1 i2 i3 i4 x9 x11 x13 x14 x16 (1 : Int32) x19 v166 v155 v158 v173) [(.int (lcmpW (v158 + v173) (0 : Int64)))])) := fun t k => P176 t (by
          show Steps p.tables e below (Tt.setTop (mkF m 389 (own_L13 i0 i1 i2 i3 i4 x9 x11 x13 x14 x16 (1 : Int32) x19 v166 v155 v158 v173) [(.int (lcmpW (v166 + v155) (0 : Int64)))])) _
          refine XS.ifNo Xt.here hx rfl (hb hby at_389) rfl (own_lct2 hc175).2 ?_
          show Steps p.tables e below (Tt.setTop (mkF m 392 (own_L13 i0 i1 i2 i3 i4 x9 x11 x13 x14 x16 (1 : Int32) x19 v166 v155 v158 v173) [])) _
          refine XS.lload Xt.here hx rfl (hb hby at_392) rfl ?_
          show Steps p.tables e below (Tt.setTop (mkF m 394 (own_L13 i0 i1 i2 i3 i4 x9 x11 x13 x14 x16 (1 : Int32) x19 v166 v155 v158 v173) [(.long v158)])) _
          refine XS.lload Xt.here hx rfl (hb hby at_394) rfl ?_
          show Steps p.tables e below (Tt.setTop (mkF m 396 (own_L13 i0 i1 i2 i3 i4 x9 x11 x13 x14 x16 (1 : Int32) x19 v166 v155 v158 v173) [(.long v173), (.long v158)])) _
          refine XS.ladd Xt.here hx rfl (hb hby at_396) rfl ?_
          show Steps p.tables e below (Tt.setTop (mkF m 397 (own_L13 i0 i1 i2 i3 i4 x9 x11 x13 x14 x16 (1 : Int32) x19 v166 v155 v158 v173) [(.long (v158 + v173))])) _
          refine XS.lconst Xt.here hx rfl (hb hby at_397) ?_
          show Steps p.tables e below (Tt.setTop (mkF m 398 (own_L13 i0 i1 i2 i3 i4 x9 x11 x13 x14 x16 (1 : Int32) x19 v166 v155 v158 v173) [(.long (0 : Int64)), (.long (v158 + v173))])) _
          refine XS.lcmp Xt.here hx rfl (hb hby at_398) rfl ?_
          exact k)
        by_cases hc177 : (0 : Int64) < (v158 + v173)
        · -- (0 : Int64) < (v158 + v173)
          have P179 : own_Rch p.tables e below A0 (Tt.setTop (mkF m 402 (own_L13 i0 i1 i2 i3 i4 x9 x11 x13 x14 x16 (1 : Int32) x19 v166 v155 v158 v173) [])) := fun t k => P178 t (by
            show Steps p.tables e below (Tt.setTop (mkF m 399 (own_L13 i0 i1 i2 i3 i4 x9 x11 x13 x14 x16 (1 : Int32) x19 v166 v155 v158 v173) [(.int (lcmpW (v158 + v173) (0 : Int64)))])) _
            refine XS.ifNo Xt.here hx rfl (hb hby at_399) rfl (own_lct2 hc177).2 ?_
            exact k)
          obtain ⟨T180, h180, X180, e180, E180, A180, D180, -, st180⟩ := newO Xt hx hZ hown (hw _ (List.mem_of_getElem? (i := 1) rfl)) (hw _ (List.mem_of_getElem? (i := 2) rfl)) (hw _ (List.mem_of_getElem? (i := 3) rfl)) et (g := (mkF m 402 (own_L13 i0 i1 i2 i3 i4 x9 x11 x13 x14 x16 (1 : Int32) x19 v166 v155 v158 v173) [])) rfl (hb hby at_402) (by decide) (by decide)
          obtain ⟨b180, g180⟩ : ∃ z, z = ht.size := ⟨_, rfl⟩
          rw [← g180] at A180 D180 st180
          have g_b180 : n0 ≤ b180 := Nat.le_trans Zt (Nat.le_of_eq g180.symm)
          have Z_181 : n0 ≤ h180.size := Nat.le_trans Zt E180.1
          have F_182 : Fld Z h180 b180 "com/example/tinyward/tinyward/CacheStats" "hitCount" "J" (.long (0 : Int64)) := D180 (Or.inr (hw _ (List.mem_of_getElem? (i := 16) rfl))) (ty := .long) (by decide)
          have F_183 : Fld Z h180 b180 "com/example/tinyward/tinyward/CacheStats" "missCount" "J" (.long (0 : Int64)) := D180 (Or.inr (hw _ (List.mem_of_getElem? (i := 18) rfl))) (ty := .long) (by decide)
          have F_184 : Fld Z h180 b180 "com/example/tinyward/tinyward/CacheStats" "loadSuccessCount" "J" (.long (0 : Int64)) := D180 (Or.inr (hw _ (List.mem_of_getElem? (i := 20) rfl))) (ty := .long) (by decide)
          have F_185 : Fld Z h180 b180 "com/example/tinyward/tinyward/CacheStats" "loadFailureCount" "J" (.long (0 : Int64)) := D180 (Or.inr (hw _ (List.mem_of_getElem? (i := 22) rfl))) (ty := .long) (by decide)
          have F_186 : Fld Z h180 b180 "com/example/tinyward/tinyward/CacheStats" "totalLoadTime" "J" (.long (0 : Int64)) := D180 (Or.inr (hw _ (List.mem_of_getElem? (i := 24) rfl))) (ty := .long) (by decide)
          have F_187 : Fld Z h180 b180 "com/example/tinyward/tinyward/CacheStats" "evictionCount" "J" (.long (0 : Int64)) := D180 (Or.inr (hw _ (List.mem_of_getElem? (i := 26) rfl))) (ty := .long) (by decide)
          have P188 : own_Rch p.tables e below A0 (T180.setTop (mkF m 405 (own_L13 i0 i1 i2 i3 i4 x9 x11 x13 x14 x16 (1 : Int32) x19 v166 v155 v158 v173) [(.ref b180)])) := fun t k => P179 t (st180 t k)
          have P189 : own_Rch p.tables e below A0 (T180.setTop (mkF m 416 (own_L13 i0 i1 i2 i3 i4 x9 x11 x13 x14 x16 (1 : Int32) x19 v166 v155 v158 v173) [(.long i3), (.long i2), (.long i1), (.long i0), (.long v155), (.long v166), (.ref b180), (.ref b180)])) := fun t k => P188 t (by
            show Steps p.tables e below (T180.setTop (mkF m 405 (own_L13 i0 i1 i2 i3 i4 x9 x11 x13 x14 x16 (1 : Int32) x19 v166 v155 v158 v173) [(.ref b180)])) _
            refine XS.dup X180.here hx rfl (hb hby at_405) rfl rfl ?_
            show Steps p.tables e below (T180.setTop (mkF m 406 (own_L13 i0 i1 i2 i3 i4 x9 x11 x13 x14 x16 (1 : Int32) x19 v166 v155 v158 v173) [(.ref b180), (.ref b180)])) _
            refine XS.lload X180.here hx rfl (hb hby at_406) rfl ?_
            show Steps p.tables e below (T180.setTop (mkF m 408 (own_L13 i0 i1 i2 i3 i4 x9 x11 x13 x14 x16 (1 : Int32) x19 v166 v155 v158 v173) [(.long v166), (.ref b180), (.ref b180)])) _
            refine XS.lload X180.here hx rfl (hb hby at_408) rfl ?_
            show Steps p.tables e below (T180.setTop (mkF m 410 (own_L13 i0 i1 i2 i3 i4 x9 x11 x13 x14 x16 (1 : Int32) x19 v166 v155 v158 v173) [(.long v155), (.long v166), (.ref b180), (.ref b180)])) _
            refine XS.lloadN X180.here hx rfl (hb hby at_410) rfl ?_
            show Steps p.tables e below (T180.setTop (mkF m 411 (own_L13 i0 i1 i2 i3 i4 x9 x11 x13 x14 x16 (1 : Int32) x19 v166 v155 v158 v173) [(.long i0), (.long v155), (.long v166), (.ref b180), (.ref b180)])) _
            refine XS.lloadN X180.here hx rfl (hb hby at_411) rfl ?_
            show Steps p.tables e below (T180.setTop (mkF m 412 (own_L13 i0 i1 i2 i3 i4 x9 x11 x13 x14 x16 (1 : Int32) x19 v166 v155 v158 v173) [(.long i1), (.long i0), (.long v155), (.long v166), (.ref b180), (.ref b180)])) _
            refine XS.lload X180.here hx rfl (hb hby at_412) rfl ?_
            show Steps p.tables e below (T180.setTop (mkF m 414 (own_L13 i0 i1 i2 i3 i4 x9 x11 x13 x14 x16 (1 : Int32) x19 v166 v155 v158 v173) [(.long i2), (.long i1), (.long i0), (.long v155), (.long v166), (.ref b180), (.ref b180)])) _
            refine XS.lload X180.here hx rfl (hb hby at_414) rfl ?_
            exact k)
          obtain ⟨_, _, ⟨T190, L190, k190, n190⟩, -, X190, ⟨Lc190, hQ190, l190, y190, z190⟩, st190⟩ := X180.specialBack hx (y := (⟨"com/example/tinyward/tinyward/CacheStats", "<init>", "(JJJJJJ)V"⟩ : MethodName)) rfl hown (mvT hZ (hw _ (List.mem_of_getElem? (i := 4) rfl))) (mvT hZ (hw _ (List.mem_of_getElem? (i := 5) rfl))) (mvT hZ (hw _ (List.mem_of_getElem? (i := 6) rfl))) (by decide) (backOf (W := 1) (rm1 l Z a0 hw [] b180 v166 v155 i0 i1 i2 i3 h180 n0 Z_181 A180 F_182 F_183 F_184 F_185 F_186 F_187 g_b180) hZ (hw _ (List.mem_of_getElem? (i := 6) rfl)) (hw _ (List.mem_of_getElem? (i := 3) rfl)) (by decide) (by decide)) (g := (mkF m 416 (own_L13 i0 i1 i2 i3 i4 x9 x11 x13 x14 x16 (1 : Int32) x19 v166 v155 v158 v173) [(.long i3), (.long i2), (.long i1), (.long i0), (.long v155), (.long v166), (.ref b180), (.ref b180)])) rfl (by rw [hml]; rfl) (Steps.refl _) (a := b180) (argsL := [(.long v166), (.long v155), (.long i0), (.long i1), (.long i2), (.long i3)]) (rest := [(.ref b180)]) (lenOf pd_1 rfl) rfl (by show 2 * 0 + _ ≤ _; exact Nat.le_of_eq rfl) (hb hby at_416) (fun _ _ => ⟨rfl, e180, (by decide : (0 + 1 + 0 + 0 + 1) + 0 ≤ _), (by decide : (0 + 6 + 0 + 0 + 6) + 0 ≤ _)⟩)
          dsimp only [Pt.U, Pt.locs, Pt.cells, Pt.slots] at X190 l190 y190 z190 st190 hQ190
          subst l190 y190 z190
          obtain ⟨rfl, N190q, K190q, E190q, F190q0, F190q1⟩ := hQ190
          have N190 := Fr.app Nt N190q
          have Z_191 : n0 ≤ T190.heap.size := Nat.le_trans Z_181 K190q.1
          have E_192 : Exa Z T190.heap b180 "com/example/tinyward/tinyward/CacheStats" := A180.keep K190q
          have P193 : own_Rch p.tables e below A0 (T190.setTop (mkF m 419 (own_L13 i0 i1 i2 i3 i4 x9 x11 x13 x14 x16 (1 : Int32) x19 v166 v155 v158 v173) [(.ref b180)])) := fun t k => P189 t (st190.trans k)
          obtain ⟨cq194, kq194, q194a, q194b, q194c⟩ := isOf hZ rfl E_192
          obtain ⟨_, _, ⟨T194, L194, k194, n194⟩, -, X194, ⟨Lc194, hQ194, l194, y194, z194⟩, st194⟩ := X190.virtualBack hx (y := (⟨"com/example/tinyward/tinyward/CacheStats", "hitRate", "()D"⟩ : MethodName)) (z := (⟨"com/example/tinyward/tinyward/CacheStats", "hitRate", "()D"⟩ : MethodName)) hown (mvT hZ (hw _ (List.mem_of_getElem? (i := 27) rfl))) (mvT hZ (hw _ (List.mem_of_getElem? (i := 28) rfl))) (notFace_of_selects (args := #[]) (mvT hZ (hw _ (List.mem_of_getElem? (i := 30) rfl)))) (mvT hZ (hw _ (List.mem_of_getElem? (i := 30) rfl))) (mvT hZ (hw _ (List.mem_of_getElem? (i := 29) rfl))) (by decide) (backOf (W := 0) (rm4 l Z a0 hw [] b180 v166 v155 T190.heap n0 Z_191 F190q0 F190q1 (fun z => own_nn (n := v166 + v155) bb_v166.1 (by have := own_add64 bb_v166.1 bb_v155.1 (by omega) (by omega); omega) z)) hZ (hw _ (List.mem_of_getElem? (i := 31) rfl)) (hw _ (List.mem_of_getElem? (i := 3) rfl)) (by decide) (by decide)) q194a q194c (g := (mkF m 419 (own_L13 i0 i1 i2 i3 i4 x9 x11 x13 x14 x16 (1 : Int32) x19 v166 v155 v158 v173) [(.ref b180)])) rfl (by rw [hml]; rfl) (Steps.refl _) (argsL := []) (rest := []) (lenOf pd_2 rfl) rfl (by show 2 * 0 + _ ≤ _; exact Nat.le_of_eq rfl) (hb hby at_419) (fun _ _ => ⟨rfl, rfl, (by decide : (0 + 1 + 0 + 0 + 1 + 0) + 0 ≤ _), (by decide : (0 + 6 + 0 + 0 + 6 + 0) + 0 ≤ _)⟩)
          dsimp only [Pt.U, Pt.locs, Pt.cells, Pt.slots] at X194 l194 y194 z194 st194 hQ194
          subst l194 y194 z194
          obtain ⟨rfl, N194q, e194⟩ := hQ194
          have N194 := Fr.app N190 N194q
          have P195 : own_Rch p.tables e below A0 (T194.setTop (mkF m 422 (own_L13 i0 i1 i2 i3 i4 x9 x11 x13 x14 x16 (1 : Int32) x19 v166 v155 v158 v173) [(.double (own_hr v166 v155))])) := fun t k => P193 t (st194.trans k)
          have P196 : own_Rch p.tables e below A0 (T194.setTop (mkF m 424 (own_L14 i0 i1 i2 i3 i4 x9 x11 x13 x14 x16 (1 : Int32) x19 v166 v155 v158 v173 (own_hr v166 v155)) [])) := fun t k => P195 t (by
            show Steps p.tables e below (T194.setTop (mkF m 422 (own_L13 i0 i1 i2 i3 i4 x9 x11 x13 x14 x16 (1 : Int32) x19 v166 v155 v158 v173) [(.double (own_hr v166 v155))])) _
            refine XS.dstore X194.here hx rfl (hb hby at_422) rfl (l' := (own_L14 i0 i1 i2 i3 i4 x9 x11 x13 x14 x16 (1 : Int32) x19 v166 v155 v158 v173 (own_hr v166 v155))) rfl ?_
            exact k)
          obtain ⟨T197, h197, X197, e197, E197, A197, D197, -, st197⟩ := newO X194 hx hZ hown (hw _ (List.mem_of_getElem? (i := 1) rfl)) (hw _ (List.mem_of_getElem? (i := 2) rfl)) (hw _ (List.mem_of_getElem? (i := 3) rfl)) e194 (g := (mkF m 424 (own_L14 i0 i1 i2 i3 i4 x9 x11 x13 x14 x16 (1 : Int32) x19 v166 v155 v158 v173 (own_hr v166 v155)) [])) rfl (hb hby at_424) (by decide) (by decide)
          obtain ⟨b197, g197⟩ : ∃ z, z = T190.heap.size := ⟨_, rfl⟩
          rw [← g197] at A197 D197 st197
          have g_b197 : n0 ≤ b197 := Nat.le_trans Z_191 (Nat.le_of_eq g197.symm)
          have ne_b180_b197 : b180 ≠ b197 := Nat.ne_of_lt (Nat.lt_of_lt_of_le E_192.lt (Nat.le_of_eq g197.symm))
          have Z_198 : n0 ≤ h197.size := Nat.le_trans Z_191 E197.1
          have E_199 : Exa Z h197 b180 "com/example/tinyward/tinyward/CacheStats" := E_192.ext E197
          have F_200 : Fld Z h197 b180 "com/example/tinyward/tinyward/CacheStats" "hitCount" "J" (.long v166) := F190q0.ext E197
          have F_201 : Fld Z h197 b180 "com/example/tinyward/tinyward/CacheStats" "missCount" "J" (.long v155) := F190q1.ext E197
          have F_202 : Fld Z h197 b197 "com/example/tinyward/tinyward/CacheStats" "hitCount" "J" (.long (0 : Int64)) := D197 (Or.inr (hw _ (List.mem_of_getElem? (i := 16) rfl))) (ty := .long) (by decide)
          have F_203 : Fld Z h197 b197 "com/example/tinyward/tinyward/CacheStats" "missCount" "J" (.long (0 : Int64)) := D197 (Or.inr (hw _ (List.mem_of_getElem? (i := 18) rfl))) (ty := .long) (by decide)
          have F_204 : Fld Z h197 b197 "com/example/tinyward/tinyward/CacheStats" "loadSuccessCount" "J" (.long (0 : Int64)) := D197 (Or.inr (hw _ (List.mem_of_getElem? (i := 20) rfl))) (ty := .long) (by decide)
          have F_205 : Fld Z h197 b197 "com/example/tinyward/tinyward/CacheStats" "loadFailureCount" "J" (.long (0 : Int64)) := D197 (Or.inr (hw _ (List.mem_of_getElem? (i := 22) rfl))) (ty := .long) (by decide)
          have F_206 : Fld Z h197 b197 "com/example/tinyward/tinyward/CacheStats" "totalLoadTime" "J" (.long (0 : Int64)) := D197 (Or.inr (hw _ (List.mem_of_getElem? (i := 24) rfl))) (ty := .long) (by decide)
          have F_207 : Fld Z h197 b197 "com/example/tinyward/tinyward/CacheStats" "evictionCount" "J" (.long (0 : Int64)) := D197 (Or.inr (hw _ (List.mem_of_getElem? (i := 26) rfl))) (ty := .long) (by decide)
          have P208 : own_Rch p.tables e below A0 (T197.setTop (mkF m 427 (own_L14 i0 i1 i2 i3 i4 x9 x11 x13 x14 x16 (1 : Int32) x19 v166 v155 v158 v173 (own_hr v166 v155)) [(.ref b197)])) := fun t k => P196 t (st197 t k)
          have P209 : own_Rch p.tables e below A0 (T197.setTop (mkF m 438 (own_L14 i0 i1 i2 i3 i4 x9 x11 x13 x14 x16 (1 : Int32) x19 v166 v155 v158 v173 (own_hr v166 v155)) [(.long i0), (.long i1), (.long i2), (.long i3), (.long v173), (.long v158), (.ref b197), (.ref b197)])) := fun t k => P208 t (by
            show Steps p.tables e below (T197.setTop (mkF m 427 (own_L14 i0 i1 i2 i3 i4 x9 x11 x13 x14 x16 (1 : Int32) x19 v166 v155 v158 v173 (own_hr v166 v155)) [(.ref b197)])) _
            refine XS.dup X197.here hx rfl (hb hby at_427) rfl rfl ?_
            show Steps p.tables e below (T197.setTop (mkF m 428 (own_L14 i0 i1 i2 i3 i4 x9 x11 x13 x14 x16 (1 : Int32) x19 v166 v155 v158 v173 (own_hr v166 v155)) [(.ref b197), (.ref b197)])) _
            refine XS.lload X197.here hx rfl (hb hby at_428) rfl ?_
            show Steps p.tables e below (T197.setTop (mkF m 430 (own_L14 i0 i1 i2 i3 i4 x9 x11 x13 x14 x16 (1 : Int32) x19 v166 v155 v158 v173 (own_hr v166 v155)) [(.long v158), (.ref b197), (.ref b197)])) _
            refine XS.lload X197.here hx rfl (hb hby at_430) rfl ?_
            show Steps p.tables e below (T197.setTop (mkF m 432 (own_L14 i0 i1 i2 i3 i4 x9 x11 x13 x14 x16 (1 : Int32) x19 v166 v155 v158 v173 (own_hr v166 v155)) [(.long v173), (.long v158), (.ref b197), (.ref b197)])) _
            refine XS.lload X197.here hx rfl (hb hby at_432) rfl ?_
            show Steps p.tables e below (T197.setTop (mkF m 434 (own_L14 i0 i1 i2 i3 i4 x9 x11 x13 x14 x16 (1 : Int32) x19 v166 v155 v158 v173 (own_hr v166 v155)) [(.long i3), (.long v173), (.long v158), (.ref b197), (.ref b197)])) _
            refine XS.lload X197.here hx rfl (hb hby at_434) rfl ?_
            show Steps p.tables e below (T197.setTop (mkF m 436 (own_L14 i0 i1 i2 i3 i4 x9 x11 x13 x14 x16 (1 : Int32) x19 v166 v155 v158 v173 (own_hr v166 v155)) [(.long i2), (.long i3), (.long v173), (.long v158), (.ref b197), (.ref b197)])) _
            refine XS.lloadN X197.here hx rfl (hb hby at_436) rfl ?_
            show Steps p.tables e below (T197.setTop (mkF m 437 (own_L14 i0 i1 i2 i3 i4 x9 x11 x13 x14 x16 (1 : Int32) x19 v166 v155 v158 v173 (own_hr v166 v155)) [(.long i1), (.long i2), (.long i3), (.long v173), (.long v158), (.ref b197), (.ref b197)])) _
            refine XS.lloadN X197.here hx rfl (hb hby at_437) rfl ?_
            exact k)
          obtain ⟨_, _, ⟨T210, L210, k210, n210⟩, -, X210, ⟨Lc210, hQ210, l210, y210, z210⟩, st210⟩ := X197.specialBack hx (y := (⟨"com/example/tinyward/tinyward/CacheStats", "<init>", "(JJJJJJ)V"⟩ : MethodName)) rfl hown (mvT hZ (hw _ (List.mem_of_getElem? (i := 4) rfl))) (mvT hZ (hw _ (List.mem_of_getElem? (i := 5) rfl))) (mvT hZ (hw _ (List.mem_of_getElem? (i := 6) rfl))) (by decide) (backOf (W := 1) (rm1 l Z a0 hw [] b197 v158 v173 i3 i2 i1 i0 h197 n0 Z_198 A197 F_202 F_203 F_204 F_205 F_206 F_207 g_b197) hZ (hw _ (List.mem_of_getElem? (i := 6) rfl)) (hw _ (List.mem_of_getElem? (i := 3) rfl)) (by decide) (by decide)) (g := (mkF m 438 (own_L14 i0 i1 i2 i3 i4 x9 x11 x13 x14 x16 (1 : Int32) x19 v166 v155 v158 v173 (own_hr v166 v155)) [(.long i0), (.long i1), (.long i2), (.long i3), (.long v173), (.long v158), (.ref b197), (.ref b197)])) rfl (by rw [hml]; rfl) (Steps.refl _) (a := b197) (argsL := [(.long v158), (.long v173), (.long i3), (.long i2), (.long i1), (.long i0)]) (rest := [(.ref b197)]) (lenOf pd_1 rfl) rfl (by show 2 * 0 + _ ≤ _; exact Nat.le_of_eq rfl) (hb hby at_438) (fun _ _ => ⟨rfl, e197, (by decide : (0 + 1 + 0 + 0 + 1 + 0 + 0 + 1) + 0 ≤ _), (by decide : (0 + 6 + 0 + 0 + 6 + 0 + 0 + 6) + 0 ≤ _)⟩)
          dsimp only [Pt.U, Pt.locs, Pt.cells, Pt.slots] at X210 l210 y210 z210 st210 hQ210
          subst l210 y210 z210
          obtain ⟨rfl, N210q, K210q, E210q, F210q0, F210q1⟩ := hQ210
          have N210 := Fr.app N194 N210q
          have Z_211 : n0 ≤ T210.heap.size := Nat.le_trans Z_198 K210q.1
          have E_212 : Exa Z T210.heap b180 "com/example/tinyward/tinyward/CacheStats" := E_199.keep K210q
          have F_213 : Fld Z T210.heap b180 "com/example/tinyward/tinyward/CacheStats" "hitCount" "J" (.long v166) := F_200.keep K210q (ninS ne_b180_b197 nin0)
          have F_214 : Fld Z T210.heap b180 "com/example/tinyward/tinyward/CacheStats" "missCount" "J" (.long v155) := F_201.keep K210q (ninS ne_b180_b197 nin0)
          have E_215 : Exa Z T210.heap b197 "com/example/tinyward/tinyward/CacheStats" := A197.keep K210q
          have P216 : own_Rch p.tables e below A0 (T210.setTop (mkF m 441 (own_L14 i0 i1 i2 i3 i4 x9 x11 x13 x14 x16 (1 : Int32) x19 v166 v155 v158 v173 (own_hr v166 v155)) [(.ref b197)])) := fun t k => P209 t (st210.trans k)
          obtain ⟨cq217, kq217, q217a, q217b, q217c⟩ := isOf hZ rfl E_215
          obtain ⟨_, _, ⟨T217, L217, k217, n217⟩, -, X217, ⟨Lc217, hQ217, l217, y217, z217⟩, st217⟩ := X210.virtualBack hx (y := (⟨"com/example/tinyward/tinyward/CacheStats", "hitRate", "()D"⟩ : MethodName)) (z := (⟨"com/example/tinyward/tinyward/CacheStats", "hitRate", "()D"⟩ : MethodName)) hown (mvT hZ (hw _ (List.mem_of_getElem? (i := 27) rfl))) (mvT hZ (hw _ (List.mem_of_getElem? (i := 28) rfl))) (notFace_of_selects (args := #[]) (mvT hZ (hw _ (List.mem_of_getElem? (i := 30) rfl)))) (mvT hZ (hw _ (List.mem_of_getElem? (i := 30) rfl))) (mvT hZ (hw _ (List.mem_of_getElem? (i := 29) rfl))) (by decide) (backOf (W := 0) (rm4 l Z a0 hw [] b197 v158 v173 T210.heap n0 Z_211 F210q0 F210q1 (fun z => own_nn (n := v158 + v173) bb_v158.1 (by have := own_add64 bb_v158.1 bb_v173.1 (by omega) (by omega); omega) z)) hZ (hw _ (List.mem_of_getElem? (i := 31) rfl)) (hw _ (List.mem_of_getElem? (i := 3) rfl)) (by decide) (by decide)) q217a q217c (g := (mkF m 441 (own_L14 i0 i1 i2 i3 i4 x9 x11 x13 x14 x16 (1 : Int32) x19 v166 v155 v158 v173 (own_hr v166 v155)) [(.ref b197)])) rfl (by rw [hml]; rfl) (Steps.refl _) (argsL := []) (rest := []) (lenOf pd_2 rfl) rfl (by show 2 * 0 + _ ≤ _; exact Nat.le_of_eq rfl) (hb hby at_441) (fun _ _ => ⟨rfl, rfl, (by decide : (0 + 1 + 0 + 0 + 1 + 0 + 0 + 1 + 0) + 0 ≤ _), (by decide : (0 + 6 + 0 + 0 + 6 + 0 + 0 + 6 + 0) + 0 ≤ _)⟩)
          dsimp only [Pt.U, Pt.locs, Pt.cells, Pt.slots] at X217 l217 y217 z217 st217 hQ217
          subst l217 y217 z217
          obtain ⟨rfl, N217q, e217⟩ := hQ217
          have N217 := Fr.app N210 N217q
          have P218 : own_Rch p.tables e below A0 (T217.setTop (mkF m 444 (own_L14 i0 i1 i2 i3 i4 x9 x11 x13 x14 x16 (1 : Int32) x19 v166 v155 v158 v173 (own_hr v166 v155)) [(.double (own_hr v158 v173))])) := fun t k => P216 t (st217.trans k)
          have P219 : own_Rch p.tables e below A0 (T217.setTop (mkF m 453 (own_L16 i0 i1 i2 i3 i4 x9 x11 x13 x14 x16 (1 : Int32) x19 v166 v155 v158 v173 (own_hr v166 v155) (own_hr v158 v173) (v166 * v173)) [])) := fun t k => P218 t (by
            show Steps p.tables e below (T217.setTop (mkF m 444 (own_L14 i0 i1 i2 i3 i4 x9 x11 x13 x14 x16 (1 : Int32) x19 v166 v155 v158 v173 (own_hr v166 v155)) [(.double (own_hr v158 v173))])) _
            refine XS.dstore X217.here hx rfl (hb hby at_444) rfl (l' := (own_L15 i0 i1 i2 i3 i4 x9 x11 x13 x14 x16 (1 : Int32) x19 v166 v155 v158 v173 (own_hr v166 v155) (own_hr v158 v173))) rfl ?_
            show Steps p.tables e below (T217.setTop (mkF m 446 (own_L15 i0 i1 i2 i3 i4 x9 x11 x13 x14 x16 (1 : Int32) x19 v166 v155 v158 v173 (own_hr v166 v155) (own_hr v158 v173)) [])) _
            refine XS.lload X217.here hx rfl (hb hby at_446) rfl ?_
            show Steps p.tables e below (T217.setTop (mkF m 448 (own_L15 i0 i1 i2 i3 i4 x9 x11 x13 x14 x16 (1 : Int32) x19 v166 v155 v158 v173 (own_hr v166 v155) (own_hr v158 v173)) [(.long v166)])) _
            refine XS.lload X217.here hx rfl (hb hby at_448) rfl ?_
            show Steps p.tables e below (T217.setTop (mkF m 450 (own_L15 i0 i1 i2 i3 i4 x9 x11 x13 x14 x16 (1 : Int32) x19 v166 v155 v158 v173 (own_hr v166 v155) (own_hr v158 v173)) [(.long v173), (.long v166)])) _
            refine XS.lmul X217.here hx rfl (hb hby at_450) rfl ?_
            show Steps p.tables e below (T217.setTop (mkF m 451 (own_L15 i0 i1 i2 i3 i4 x9 x11 x13 x14 x16 (1 : Int32) x19 v166 v155 v158 v173 (own_hr v166 v155) (own_hr v158 v173)) [(.long (v166 * v173))])) _
            refine XS.lstore X217.here hx rfl (hb hby at_451) rfl (l' := (own_L16 i0 i1 i2 i3 i4 x9 x11 x13 x14 x16 (1 : Int32) x19 v166 v155 v158 v173 (own_hr v166 v155) (own_hr v158 v173) (v166 * v173))) rfl ?_
            exact k)
          obtain ⟨v220, hv220, P221⟩ : ∃ z : Int64, z = (v166 * v173) ∧ own_Rch p.tables e below A0 (T217.setTop (mkF m 453 (own_L16 i0 i1 i2 i3 i4 x9 x11 x13 x14 x16 (1 : Int32) x19 v166 v155 v158 v173 (own_hr v166 v155) (own_hr v158 v173) z) [])) := ⟨_, rfl, P219⟩
          have P222 : own_Rch p.tables e below A0 (T217.setTop (mkF m 460 (own_L17 i0 i1 i2 i3 i4 x9 x11 x13 x14 x16 (1 : Int32) x19 v166 v155 v158 v173 (own_hr v166 v155) (own_hr v158 v173) v220 (v158 * v155)) [])) := fun t k => P221 t (by
            show Steps p.tables e below (T217.setTop (mkF m 453 (own_L16 i0 i1 i2 i3 i4 x9 x11 x13 x14 x16 (1 : Int32) x19 v166 v155 v158 v173 (own_hr v166 v155) (own_hr v158 v173) v220) [])) _
            refine XS.lload X217.here hx rfl (hb hby at_453) rfl ?_
            show Steps p.tables e below (T217.setTop (mkF m 455 (own_L16 i0 i1 i2 i3 i4 x9 x11 x13 x14 x16 (1 : Int32) x19 v166 v155 v158 v173 (own_hr v166 v155) (own_hr v158 v173) v220) [(.long v158)])) _
            refine XS.lload X217.here hx rfl (hb hby at_455) rfl ?_
            show Steps p.tables e below (T217.setTop (mkF m 457 (own_L16 i0 i1 i2 i3 i4 x9 x11 x13 x14 x16 (1 : Int32) x19 v166 v155 v158 v173 (own_hr v166 v155) (own_hr v158 v173) v220) [(.long v155), (.long v158)])) _
            refine XS.lmul X217.here hx rfl (hb hby at_457) rfl ?_
            show Steps p.tables e below (T217.setTop (mkF m 458 (own_L16 i0 i1 i2 i3 i4 x9 x11 x13 x14 x16 (1 : Int32) x19 v166 v155 v158 v173 (own_hr v166 v155) (own_hr v158 v173) v220) [(.long (v158 * v155))])) _
            refine XS.lstore X217.here hx rfl (hb hby at_458) rfl (l' := (own_L17 i0 i1 i2 i3 i4 x9 x11 x13 x14 x16 (1 : Int32) x19 v166 v155 v158 v173 (own_hr v166 v155) (own_hr v158 v173) v220 (v158 * v155))) rfl ?_
            exact k)
          obtain ⟨v223, hv223, P224⟩ : ∃ z : Int64, z = (v158 * v155) ∧ own_Rch p.tables e below A0 (T217.setTop (mkF m 460 (own_L17 i0 i1 i2 i3 i4 x9 x11 x13 x14 x16 (1 : Int32) x19 v166 v155 v158 v173 (own_hr v166 v155) (own_hr v158 v173) v220 z) [])) := ⟨_, rfl, P222⟩
          have hr2 : own_hr v166 v155 = FP.ddiv (FP.l2d v166) (FP.l2d (v166 + v155)) := by unfold own_hr; rw [if_neg (own_lt_nz hc175)]
          have hr3 : own_hr v158 v173 = FP.ddiv (FP.l2d v158) (FP.l2d (v158 + v173)) := by unfold own_hr; rw [if_neg (own_lt_nz hc177)]
          have FX := own_F bb_v166.1 bb_v155.1 (by omega) (by omega) bb_v158.1 bb_v173.1 (by omega) (by omega) (own_lt_nz hc175) (own_lt_nz hc177)
          rw [← hr2, ← hr3] at FX
          obtain ⟨p1, -, -⟩ := own_mul64 bb_v166.1 bb_v166.2 bb_v173.1 bb_v173.2 (by decide)
          rw [← hv220] at p1
          obtain ⟨p2, -, -⟩ := own_mul64 bb_v158.1 bb_v158.2 bb_v155.1 bb_v155.2 (by decide)
          rw [← hv223] at p2
          have P226 : own_Rch p.tables e below A0 (T217.setTop (mkF m 465 (own_L17 i0 i1 i2 i3 i4 x9 x11 x13 x14 x16 (1 : Int32) x19 v166 v155 v158 v173 (own_hr v166 v155) (own_hr v158 v173) v220 v223) [(.int (lcmpW v220 v223))])) := fun t k => P224 t (by
            show Steps p.tables e below (T217.setTop (mkF m 460 (own_L17 i0 i1 i2 i3 i4 x9 x11 x13 x14 x16 (1 : Int32) x19 v166 v155 v158 v173 (own_hr v166 v155) (own_hr v158 v173) v220 v223) [])) _
            refine XS.lload X217.here hx rfl (hb hby at_460) rfl ?_
            show Steps p.tables e below (T217.setTop (mkF m 462 (own_L17 i0 i1 i2 i3 i4 x9 x11 x13 x14 x16 (1 : Int32) x19 v166 v155 v158 v173 (own_hr v166 v155) (own_hr v158 v173) v220 v223) [(.long v220)])) _
            refine XS.lload X217.here hx rfl (hb hby at_462) rfl ?_
            show Steps p.tables e below (T217.setTop (mkF m 464 (own_L17 i0 i1 i2 i3 i4 x9 x11 x13 x14 x16 (1 : Int32) x19 v166 v155 v158 v173 (own_hr v166 v155) (own_hr v158 v173) v220 v223) [(.long v223), (.long v220)])) _
            refine XS.lcmp X217.here hx rfl (hb hby at_464) rfl ?_
            exact k)
          by_cases hc225 : v220 < v223
          · -- v220 < v223
            have P228 : own_Rch p.tables e below A0 (T217.setTop (mkF m 478 (own_L17 i0 i1 i2 i3 i4 x9 x11 x13 x14 x16 (1 : Int32) x19 v166 v155 v158 v173 (own_hr v166 v155) (own_hr v158 v173) v220 v223) [(.int (cmpValue (FP.dcmp (own_hr v166 v155) (own_hr v158 v173)) .g))])) := fun t k => P226 t (by
              show Steps p.tables e below (T217.setTop (mkF m 465 (own_L17 i0 i1 i2 i3 i4 x9 x11 x13 x14 x16 (1 : Int32) x19 v166 v155 v158 v173 (own_hr v166 v155) (own_hr v158 v173) v220 v223) [(.int (lcmpW v220 v223))])) _
              refine XS.ifNo X217.here hx rfl (hb hby at_465) rfl (own_lct1 hc225).2 ?_
              show Steps p.tables e below (T217.setTop (mkF m 468 (own_L17 i0 i1 i2 i3 i4 x9 x11 x13 x14 x16 (1 : Int32) x19 v166 v155 v158 v173 (own_hr v166 v155) (own_hr v158 v173) v220 v223) [])) _
              refine XS.iload X217.here hx rfl (hb hby at_468) rfl ?_
              show Steps p.tables e below (T217.setTop (mkF m 470 (own_L17 i0 i1 i2 i3 i4 x9 x11 x13 x14 x16 (1 : Int32) x19 v166 v155 v158 v173 (own_hr v166 v155) (own_hr v158 v173) v220 v223) [(.int (1 : Int32))])) _
              refine XS.ifNo X217.here hx rfl (hb hby at_470) rfl ((if0 _ _).trans (feq (by decide : ¬ ((1 : Int32) = (0 : Int32)))).1) ?_
              show Steps p.tables e below (T217.setTop (mkF m 473 (own_L17 i0 i1 i2 i3 i4 x9 x11 x13 x14 x16 (1 : Int32) x19 v166 v155 v158 v173 (own_hr v166 v155) (own_hr v158 v173) v220 v223) [])) _
              refine XS.dload X217.here hx rfl (hb hby at_473) rfl ?_
              show Steps p.tables e below (T217.setTop (mkF m 475 (own_L17 i0 i1 i2 i3 i4 x9 x11 x13 x14 x16 (1 : Int32) x19 v166 v155 v158 v173 (own_hr v166 v155) (own_hr v158 v173) v220 v223) [(.double (own_hr v166 v155))])) _
              refine XS.dload X217.here hx rfl (hb hby at_475) rfl ?_
              show Steps p.tables e below (T217.setTop (mkF m 477 (own_L17 i0 i1 i2 i3 i4 x9 x11 x13 x14 x16 (1 : Int32) x19 v166 v155 v158 v173 (own_hr v166 v155) (own_hr v158 v173) v220 v223) [(.double (own_hr v158 v173)), (.double (own_hr v166 v155))])) _
              refine XS.dcmpS X217.here hx rfl (hb hby at_477) rfl rfl ?_
              exact k)
            by_cases hc227 : (0 : Int32) < (cmpValue (FP.dcmp (own_hr v166 v155) (own_hr v158 v173)) .g)
            · -- (0 : Int32) < (cmpValue (FP.dcmp (own_hr v166 v155) (own_hr v158 v173)) .g)
              have P229 : own_Rch p.tables e below A0 (T217.setTop (mkF m 544 (own_L17 i0 i1 i2 i3 i4 x9 x11 x13 x14 x16 (0 : Int32) x19 v166 v155 v158 v173 (own_hr v166 v155) (own_hr v158 v173) v220 v223) [(.int (0 : Int32))])) := fun t k => P228 t (by
                show Steps p.tables e below (T217.setTop (mkF m 478 (own_L17 i0 i1 i2 i3 i4 x9 x11 x13 x14 x16 (1 : Int32) x19 v166 v155 v158 v173 (own_hr v166 v155) (own_hr v158 v173) v220 v223) [(.int (cmpValue (FP.dcmp (own_hr v166 v155) (own_hr v158 v173)) .g))])) _
                refine XS.ifYes X217.here hx rfl (pc0 := 478) (pc' := 485) rfl (hb hby at_478) rfl ((if0 _ _).trans (tlt hc227).2.2.1) (by decide) (by decide) ?_
                show Steps p.tables e below (T217.setTop (mkF m 485 (own_L17 i0 i1 i2 i3 i4 x9 x11 x13 x14 x16 (1 : Int32) x19 v166 v155 v158 v173 (own_hr v166 v155) (own_hr v158 v173) v220 v223) [])) _
                refine XS.iconst X217.here hx rfl (hb hby at_485) ?_
                show Steps p.tables e below (T217.setTop (mkF m 486 (own_L17 i0 i1 i2 i3 i4 x9 x11 x13 x14 x16 (1 : Int32) x19 v166 v155 v158 v173 (own_hr v166 v155) (own_hr v158 v173) v220 v223) [(.int (0 : Int32))])) _
                refine XS.istore X217.here hx rfl (hb hby at_486) rfl (l' := (own_L17 i0 i1 i2 i3 i4 x9 x11 x13 x14 x16 (0 : Int32) x19 v166 v155 v158 v173 (own_hr v166 v155) (own_hr v158 v173) v220 v223)) rfl ?_
                show Steps p.tables e below (T217.setTop (mkF m 488 (own_L17 i0 i1 i2 i3 i4 x9 x11 x13 x14 x16 (0 : Int32) x19 v166 v155 v158 v173 (own_hr v166 v155) (own_hr v158 v173) v220 v223) [])) _
                refine XS.goto X217.here hx rfl (pc0 := 488) (pc' := 542) rfl (hb hby at_488) (by decide) (by decide) ?_
                show Steps p.tables e below (T217.setTop (mkF m 542 (own_L17 i0 i1 i2 i3 i4 x9 x11 x13 x14 x16 (0 : Int32) x19 v166 v155 v158 v173 (own_hr v166 v155) (own_hr v158 v173) v220 v223) [])) _
                refine XS.iload X217.here hx rfl (hb hby at_542) rfl ?_
                exact k)
              obtain ⟨fs, hr, hrun, hended, hW, hsame⟩ := X217.leave (v := some (.int (nar .boolean (0 : Int32)))) (fun h => by rw [Bd.returns] at h; cases h)
              refine ⟨_, _, P00 _ (P229 _ ?_), hrun, hended, _, _, rfl, ?_, ⟨_, rfl⟩, hW, hsame.mono (by decide) (by decide)⟩
              · exact retN X217 hx (t := .boolean) Bd.returns (by simp) (hb hby at_544) hr
              · show Q0 Z i0 i1 i2 i3 i4 h0 n0 _ T217.heap _
                rw [e217]
                refine ⟨?_, N217⟩
                exact absurd hc227 (FX.1 (by have q := Int64.lt_iff_toInt_lt.mp hc225; omega))
            · -- not (0 : Int32) < (cmpValue (FP.dcmp (own_hr v166 v155) (own_hr v158 v173)) .g)
              have P230 : own_Rch p.tables e below A0 (T217.setTop (mkF m 544 (own_L17 i0 i1 i2 i3 i4 x9 x11 x13 x14 x16 (1 : Int32) x19 v166 v155 v158 v173 (own_hr v166 v155) (own_hr v158 v173) v220 v223) [(.int (1 : Int32))])) := fun t k => P228 t (by
                show Steps p.tables e below (T217.setTop (mkF m 478 (own_L17 i0 i1 i2 i3 i4 x9 x11 x13 x14 x16 (1 : Int32) x19 v166 v155 v158 v173 (own_hr v166 v155) (own_hr v158 v173) v220 v223) [(.int (cmpValue (FP.dcmp (own_hr v166 v155) (own_hr v158 v173)) .g))])) _
                refine XS.ifNo X217.here hx rfl (hb hby at_478) rfl ((if0 _ _).trans (flt hc227).2.2.1) ?_
                show Steps p.tables e below (T217.setTop (mkF m 481 (own_L17 i0 i1 i2 i3 i4 x9 x11 x13 x14 x16 (1 : Int32) x19 v166 v155 v158 v173 (own_hr v166 v155) (own_hr v158 v173) v220 v223) [])) _
                refine XS.iconst X217.here hx rfl (hb hby at_481) ?_
                show Steps p.tables e below (T217.setTop (mkF m 482 (own_L17 i0 i1 i2 i3 i4 x9 x11 x13 x14 x16 (1 : Int32) x19 v166 v155 v158 v173 (own_hr v166 v155) (own_hr v158 v173) v220 v223) [(.int (1 : Int32))])) _
                refine XS.goto X217.here hx rfl (pc0 := 482) (pc' := 486) rfl (hb hby at_482) (by decide) (by decide) ?_
                show Steps p.tables e below (T217.setTop (mkF m 486 (own_L17 i0 i1 i2 i3 i4 x9 x11 x13 x14 x16 (1 : Int32) x19 v166 v155 v158 v173 (own_hr v166 v155) (own_hr v158 v173) v220 v223) [(.int (1 : Int32))])) _
                refine XS.istore X217.here hx rfl (hb hby at_486) rfl (l' := (own_L17 i0 i1 i2 i3 i4 x9 x11 x13 x14 x16 (1 : Int32) x19 v166 v155 v158 v173 (own_hr v166 v155) (own_hr v158 v173) v220 v223)) rfl ?_
                show Steps p.tables e below (T217.setTop (mkF m 488 (own_L17 i0 i1 i2 i3 i4 x9 x11 x13 x14 x16 (1 : Int32) x19 v166 v155 v158 v173 (own_hr v166 v155) (own_hr v158 v173) v220 v223) [])) _
                refine XS.goto X217.here hx rfl (pc0 := 488) (pc' := 542) rfl (hb hby at_488) (by decide) (by decide) ?_
                show Steps p.tables e below (T217.setTop (mkF m 542 (own_L17 i0 i1 i2 i3 i4 x9 x11 x13 x14 x16 (1 : Int32) x19 v166 v155 v158 v173 (own_hr v166 v155) (own_hr v158 v173) v220 v223) [])) _
                refine XS.iload X217.here hx rfl (hb hby at_542) rfl ?_
                exact k)
              obtain ⟨fs, hr, hrun, hended, hW, hsame⟩ := X217.leave (v := some (.int (nar .boolean (1 : Int32)))) (fun h => by rw [Bd.returns] at h; cases h)
              refine ⟨_, _, P00 _ (P230 _ ?_), hrun, hended, _, _, rfl, ?_, ⟨_, rfl⟩, hW, hsame.mono (by decide) (by decide)⟩
              · exact retN X217 hx (t := .boolean) Bd.returns (by simp) (hb hby at_544) hr
              · show Q0 Z i0 i1 i2 i3 i4 h0 n0 _ T217.heap _
                rw [e217]
                refine ⟨?_, N217⟩
                rfl
          · -- not v220 < v223
            have P232 : own_Rch p.tables e below A0 (T217.setTop (mkF m 496 (own_L17 i0 i1 i2 i3 i4 x9 x11 x13 x14 x16 (1 : Int32) x19 v166 v155 v158 v173 (own_hr v166 v155) (own_hr v158 v173) v220 v223) [(.int (lcmpW v220 v223))])) := fun t k => P226 t (by
              show Steps p.tables e below (T217.setTop (mkF m 465 (own_L17 i0 i1 i2 i3 i4 x9 x11 x13 x14 x16 (1 : Int32) x19 v166 v155 v158 v173 (own_hr v166 v155) (own_hr v158 v173) v220 v223) [(.int (lcmpW v220 v223))])) _
              refine XS.ifYes X217.here hx rfl (pc0 := 465) (pc' := 491) rfl (hb hby at_465) rfl (own_lcf1 hc225).2 (by decide) (by decide) ?_
              show Steps p.tables e below (T217.setTop (mkF m 491 (own_L17 i0 i1 i2 i3 i4 x9 x11 x13 x14 x16 (1 : Int32) x19 v166 v155 v158 v173 (own_hr v166 v155) (own_hr v158 v173) v220 v223) [])) _
              refine XS.lload X217.here hx rfl (hb hby at_491) rfl ?_
              show Steps p.tables e below (T217.setTop (mkF m 493 (own_L17 i0 i1 i2 i3 i4 x9 x11 x13 x14 x16 (1 : Int32) x19 v166 v155 v158 v173 (own_hr v166 v155) (own_hr v158 v173) v220 v223) [(.long v220)])) _
              refine XS.lload X217.here hx rfl (hb hby at_493) rfl ?_
              show Steps p.tables e below (T217.setTop (mkF m 495 (own_L17 i0 i1 i2 i3 i4 x9 x11 x13 x14 x16 (1 : Int32) x19 v166 v155 v158 v173 (own_hr v166 v155) (own_hr v158 v173) v220 v223) [(.long v223), (.long v220)])) _
              refine XS.lcmp X217.here hx rfl (hb hby at_495) rfl ?_
              exact k)
            by_cases hc231 : v220 = v223
            · -- v220 = v223
              have P234 : own_Rch p.tables e below A0 (T217.setTop (mkF m 509 (own_L17 i0 i1 i2 i3 i4 x9 x11 x13 x14 x16 (1 : Int32) x19 v166 v155 v158 v173 (own_hr v166 v155) (own_hr v158 v173) v220 v223) [(.int (cmpValue (FP.dcmp (own_hr v166 v155) (own_hr v158 v173)) .l))])) := fun t k => P232 t (by
                show Steps p.tables e below (T217.setTop (mkF m 496 (own_L17 i0 i1 i2 i3 i4 x9 x11 x13 x14 x16 (1 : Int32) x19 v166 v155 v158 v173 (own_hr v166 v155) (own_hr v158 v173) v220 v223) [(.int (lcmpW v220 v223))])) _
                refine XS.ifNo X217.here hx rfl (hb hby at_496) rfl (own_lct3 hc231).2 ?_
                show Steps p.tables e below (T217.setTop (mkF m 499 (own_L17 i0 i1 i2 i3 i4 x9 x11 x13 x14 x16 (1 : Int32) x19 v166 v155 v158 v173 (own_hr v166 v155) (own_hr v158 v173) v220 v223) [])) _
                refine XS.iload X217.here hx rfl (hb hby at_499) rfl ?_
                show Steps p.tables e below (T217.setTop (mkF m 501 (own_L17 i0 i1 i2 i3 i4 x9 x11 x13 x14 x16 (1 : Int32) x19 v166 v155 v158 v173 (own_hr v166 v155) (own_hr v158 v173) v220 v223) [(.int (1 : Int32))])) _
                refine XS.ifNo X217.here hx rfl (hb hby at_501) rfl ((if0 _ _).trans (feq (by decide : ¬ ((1 : Int32) = (0 : Int32)))).1) ?_
                show Steps p.tables e below (T217.setTop (mkF m 504 (own_L17 i0 i1 i2 i3 i4 x9 x11 x13 x14 x16 (1 : Int32) x19 v166 v155 v158 v173 (own_hr v166 v155) (own_hr v158 v173) v220 v223) [])) _
                refine XS.dload X217.here hx rfl (hb hby at_504) rfl ?_
                show Steps p.tables e below (T217.setTop (mkF m 506 (own_L17 i0 i1 i2 i3 i4 x9 x11 x13 x14 x16 (1 : Int32) x19 v166 v155 v158 v173 (own_hr v166 v155) (own_hr v158 v173) v220 v223) [(.double (own_hr v166 v155))])) _
                refine XS.dload X217.here hx rfl (hb hby at_506) rfl ?_
                show Steps p.tables e below (T217.setTop (mkF m 508 (own_L17 i0 i1 i2 i3 i4 x9 x11 x13 x14 x16 (1 : Int32) x19 v166 v155 v158 v173 (own_hr v166 v155) (own_hr v158 v173) v220 v223) [(.double (own_hr v158 v173)), (.double (own_hr v166 v155))])) _
                refine XS.dcmpS X217.here hx rfl (hb hby at_508) rfl rfl ?_
                exact k)
              by_cases hc233 : (cmpValue (FP.dcmp (own_hr v166 v155) (own_hr v158 v173)) .l) = (0 : Int32)
              · -- (cmpValue (FP.dcmp (own_hr v166 v155) (own_hr v158 v173)) .l) = (0 : Int32)
                have P235 : own_Rch p.tables e below A0 (T217.setTop (mkF m 544 (own_L17 i0 i1 i2 i3 i4 x9 x11 x13 x14 x16 (1 : Int32) x19 v166 v155 v158 v173 (own_hr v166 v155) (own_hr v158 v173) v220 v223) [(.int (1 : Int32))])) := fun t k => P234 t (by
                  show Steps p.tables e below (T217.setTop (mkF m 509 (own_L17 i0 i1 i2 i3 i4 x9 x11 x13 x14 x16 (1 : Int32) x19 v166 v155 v158 v173 (own_hr v166 v155) (own_hr v158 v173) v220 v223) [(.int (cmpValue (FP.dcmp (own_hr v166 v155) (own_hr v158 v173)) .l))])) _
                  refine XS.ifNo X217.here hx rfl (hb hby at_509) rfl ((if0 _ _).trans (teq hc233).2) ?_
                  show Steps p.tables e below (T217.setTop (mkF m 512 (own_L17 i0 i1 i2 i3 i4 x9 x11 x13 x14 x16 (1 : Int32) x19 v166 v155 v158 v173 (own_hr v166 v155) (own_hr v158 v173) v220 v223) [])) _
                  refine XS.iconst X217.here hx rfl (hb hby at_512) ?_
                  show Steps p.tables e below (T217.setTop (mkF m 513 (own_L17 i0 i1 i2 i3 i4 x9 x11 x13 x14 x16 (1 : Int32) x19 v166 v155 v158 v173 (own_hr v166 v155) (own_hr v158 v173) v220 v223) [(.int (1 : Int32))])) _
                  refine XS.goto X217.here hx rfl (pc0 := 513) (pc' := 517) rfl (hb hby at_513) (by decide) (by decide) ?_
                  show Steps p.tables e below (T217.setTop (mkF m 517 (own_L17 i0 i1 i2 i3 i4 x9 x11 x13 x14 x16 (1 : Int32) x19 v166 v155 v158 v173 (own_hr v166 v155) (own_hr v158 v173) v220 v223) [(.int (1 : Int32))])) _
                  refine XS.istore X217.here hx rfl (hb hby at_517) rfl (l' := (own_L17 i0 i1 i2 i3 i4 x9 x11 x13 x14 x16 (1 : Int32) x19 v166 v155 v158 v173 (own_hr v166 v155) (own_hr v158 v173) v220 v223)) rfl ?_
                  show Steps p.tables e below (T217.setTop (mkF m 519 (own_L17 i0 i1 i2 i3 i4 x9 x11 x13 x14 x16 (1 : Int32) x19 v166 v155 v158 v173 (own_hr v166 v155) (own_hr v158 v173) v220 v223) [])) _
                  refine XS.goto X217.here hx rfl (pc0 := 519) (pc' := 542) rfl (hb hby at_519) (by decide) (by decide) ?_
                  show Steps p.tables e below (T217.setTop (mkF m 542 (own_L17 i0 i1 i2 i3 i4 x9 x11 x13 x14 x16 (1 : Int32) x19 v166 v155 v158 v173 (own_hr v166 v155) (own_hr v158 v173) v220 v223) [])) _
                  refine XS.iload X217.here hx rfl (hb hby at_542) rfl ?_
                  exact k)
                obtain ⟨fs, hr, hrun, hended, hW, hsame⟩ := X217.leave (v := some (.int (nar .boolean (1 : Int32)))) (fun h => by rw [Bd.returns] at h; cases h)
                refine ⟨_, _, P00 _ (P235 _ ?_), hrun, hended, _, _, rfl, ?_, ⟨_, rfl⟩, hW, hsame.mono (by decide) (by decide)⟩
                · exact retN X217 hx (t := .boolean) Bd.returns (by simp) (hb hby at_544) hr
                · show Q0 Z i0 i1 i2 i3 i4 h0 n0 _ T217.heap _
                  rw [e217]
                  refine ⟨?_, N217⟩
                  rfl
              · -- not (cmpValue (FP.dcmp (own_hr v166 v155) (own_hr v158 v173)) .l) = (0 : Int32)
                have P236 : own_Rch p.tables e below A0 (T217.setTop (mkF m 544 (own_L17 i0 i1 i2 i3 i4 x9 x11 x13 x14 x16 (0 : Int32) x19 v166 v155 v158 v173 (own_hr v166 v155) (own_hr v158 v173) v220 v223) [(.int (0 : Int32))])) := fun t k => P234 t (by
                  show Steps p.tables e below (T217.setTop (mkF m 509 (own_L17 i0 i1 i2 i3 i4 x9 x11 x13 x14 x16 (1 : Int32) x19 v166 v155 v158 v173 (own_hr v166 v155) (own_hr v158 v173) v220 v223) [(.int (cmpValue (FP.dcmp (own_hr v166 v155) (own_hr v158 v173)) .l))])) _
                  refine XS.ifYes X217.here hx rfl (pc0 := 509) (pc' := 516) rfl (hb hby at_509) rfl ((if0 _ _).trans (feq hc233).2) (by decide) (by decide) ?_
                  show Steps p.tables e below (T217.setTop (mkF m 516 (own_L17 i0 i1 i2 i3 i4 x9 x11 x13 x14 x16 (1 : Int32) x19 v166 v155 v158 v173 (own_hr v166 v155) (own_hr v158 v173) v220 v223) [])) _
                  refine XS.iconst X217.here hx rfl (hb hby at_516) ?_
                  show Steps p.tables e below (T217.setTop (mkF m 517 (own_L17 i0 i1 i2 i3 i4 x9 x11 x13 x14 x16 (1 : Int32) x19 v166 v155 v158 v173 (own_hr v166 v155) (own_hr v158 v173) v220 v223) [(.int (0 : Int32))])) _
                  refine XS.istore X217.here hx rfl (hb hby at_517) rfl (l' := (own_L17 i0 i1 i2 i3 i4 x9 x11 x13 x14 x16 (0 : Int32) x19 v166 v155 v158 v173 (own_hr v166 v155) (own_hr v158 v173) v220 v223)) rfl ?_
                  show Steps p.tables e below (T217.setTop (mkF m 519 (own_L17 i0 i1 i2 i3 i4 x9 x11 x13 x14 x16 (0 : Int32) x19 v166 v155 v158 v173 (own_hr v166 v155) (own_hr v158 v173) v220 v223) [])) _
                  refine XS.goto X217.here hx rfl (pc0 := 519) (pc' := 542) rfl (hb hby at_519) (by decide) (by decide) ?_
                  show Steps p.tables e below (T217.setTop (mkF m 542 (own_L17 i0 i1 i2 i3 i4 x9 x11 x13 x14 x16 (0 : Int32) x19 v166 v155 v158 v173 (own_hr v166 v155) (own_hr v158 v173) v220 v223) [])) _
                  refine XS.iload X217.here hx rfl (hb hby at_542) rfl ?_
                  exact k)
                obtain ⟨fs, hr, hrun, hended, hW, hsame⟩ := X217.leave (v := some (.int (nar .boolean (0 : Int32)))) (fun h => by rw [Bd.returns] at h; cases h)
                refine ⟨_, _, P00 _ (P236 _ ?_), hrun, hended, _, _, rfl, ?_, ⟨_, rfl⟩, hW, hsame.mono (by decide) (by decide)⟩
                · exact retN X217 hx (t := .boolean) Bd.returns (by simp) (hb hby at_544) hr
                · show Q0 Z i0 i1 i2 i3 i4 h0 n0 _ T217.heap _
                  rw [e217]
                  refine ⟨?_, N217⟩
                  exact absurd (FX.2.1 (by have q := congrArg Int64.toInt hc231; omega)) hc233
            · -- not v220 = v223
              have P238 : own_Rch p.tables e below A0 (T217.setTop (mkF m 532 (own_L17 i0 i1 i2 i3 i4 x9 x11 x13 x14 x16 (1 : Int32) x19 v166 v155 v158 v173 (own_hr v166 v155) (own_hr v158 v173) v220 v223) [(.int (cmpValue (FP.dcmp (own_hr v166 v155) (own_hr v158 v173)) .l))])) := fun t k => P232 t (by
                show Steps p.tables e below (T217.setTop (mkF m 496 (own_L17 i0 i1 i2 i3 i4 x9 x11 x13 x14 x16 (1 : Int32) x19 v166 v155 v158 v173 (own_hr v166 v155) (own_hr v158 v173) v220 v223) [(.int (lcmpW v220 v223))])) _
                refine XS.ifYes X217.here hx rfl (pc0 := 496) (pc' := 522) rfl (hb hby at_496) rfl (own_lcf3 hc231).2 (by decide) (by decide) ?_
                show Steps p.tables e below (T217.setTop (mkF m 522 (own_L17 i0 i1 i2 i3 i4 x9 x11 x13 x14 x16 (1 : Int32) x19 v166 v155 v158 v173 (own_hr v166 v155) (own_hr v158 v173) v220 v223) [])) _
                refine XS.iload X217.here hx rfl (hb hby at_522) rfl ?_
                show Steps p.tables e below (T217.setTop (mkF m 524 (own_L17 i0 i1 i2 i3 i4 x9 x11 x13 x14 x16 (1 : Int32) x19 v166 v155 v158 v173 (own_hr v166 v155) (own_hr v158 v173) v220 v223) [(.int (1 : Int32))])) _
                refine XS.ifNo X217.here hx rfl (hb hby at_524) rfl ((if0 _ _).trans (feq (by decide : ¬ ((1 : Int32) = (0 : Int32)))).1) ?_
                show Steps p.tables e below (T217.setTop (mkF m 527 (own_L17 i0 i1 i2 i3 i4 x9 x11 x13 x14 x16 (1 : Int32) x19 v166 v155 v158 v173 (own_hr v166 v155) (own_hr v158 v173) v220 v223) [])) _
                refine XS.dload X217.here hx rfl (hb hby at_527) rfl ?_
                show Steps p.tables e below (T217.setTop (mkF m 529 (own_L17 i0 i1 i2 i3 i4 x9 x11 x13 x14 x16 (1 : Int32) x19 v166 v155 v158 v173 (own_hr v166 v155) (own_hr v158 v173) v220 v223) [(.double (own_hr v166 v155))])) _
                refine XS.dload X217.here hx rfl (hb hby at_529) rfl ?_
                show Steps p.tables e below (T217.setTop (mkF m 531 (own_L17 i0 i1 i2 i3 i4 x9 x11 x13 x14 x16 (1 : Int32) x19 v166 v155 v158 v173 (own_hr v166 v155) (own_hr v158 v173) v220 v223) [(.double (own_hr v158 v173)), (.double (own_hr v166 v155))])) _
                refine XS.dcmpS X217.here hx rfl (hb hby at_531) rfl rfl ?_
                exact k)
              by_cases hc237 : (cmpValue (FP.dcmp (own_hr v166 v155) (own_hr v158 v173)) .l) < (0 : Int32)
              · -- (cmpValue (FP.dcmp (own_hr v166 v155) (own_hr v158 v173)) .l) < (0 : Int32)
                have P239 : own_Rch p.tables e below A0 (T217.setTop (mkF m 544 (own_L17 i0 i1 i2 i3 i4 x9 x11 x13 x14 x16 (0 : Int32) x19 v166 v155 v158 v173 (own_hr v166 v155) (own_hr v158 v173) v220 v223) [(.int (0 : Int32))])) := fun t k => P238 t (by
                  show Steps p.tables e below (T217.setTop (mkF m 532 (own_L17 i0 i1 i2 i3 i4 x9 x11 x13 x14 x16 (1 : Int32) x19 v166 v155 v158 v173 (own_hr v166 v155) (own_hr v158 v173) v220 v223) [(.int (cmpValue (FP.dcmp (own_hr v166 v155) (own_hr v158 v173)) .l))])) _
                  refine XS.ifYes X217.here hx rfl (pc0 := 532) (pc' := 539) rfl (hb hby at_532) rfl ((if0 _ _).trans (tlt hc237).1) (by decide) (by decide) ?_
                  show Steps p.tables e below (T217.setTop (mkF m 539 (own_L17 i0 i1 i2 i3 i4 x9 x11 x13 x14 x16 (1 : Int32) x19 v166 v155 v158 v173 (own_hr v166 v155) (own_hr v158 v173) v220 v223) [])) _
                  refine XS.iconst X217.here hx rfl (hb hby at_539) ?_
                  show Steps p.tables e below (T217.setTop (mkF m 540 (own_L17 i0 i1 i2 i3 i4 x9 x11 x13 x14 x16 (1 : Int32) x19 v166 v155 v158 v173 (own_hr v166 v155) (own_hr v158 v173) v220 v223) [(.int (0 : Int32))])) _
                  refine XS.istore X217.here hx rfl (hb hby at_540) rfl (l' := (own_L17 i0 i1 i2 i3 i4 x9 x11 x13 x14 x16 (0 : Int32) x19 v166 v155 v158 v173 (own_hr v166 v155) (own_hr v158 v173) v220 v223)) rfl ?_
                  show Steps p.tables e below (T217.setTop (mkF m 542 (own_L17 i0 i1 i2 i3 i4 x9 x11 x13 x14 x16 (0 : Int32) x19 v166 v155 v158 v173 (own_hr v166 v155) (own_hr v158 v173) v220 v223) [])) _
                  refine XS.iload X217.here hx rfl (hb hby at_542) rfl ?_
                  exact k)
                obtain ⟨fs, hr, hrun, hended, hW, hsame⟩ := X217.leave (v := some (.int (nar .boolean (0 : Int32)))) (fun h => by rw [Bd.returns] at h; cases h)
                refine ⟨_, _, P00 _ (P239 _ ?_), hrun, hended, _, _, rfl, ?_, ⟨_, rfl⟩, hW, hsame.mono (by decide) (by decide)⟩
                · exact retN X217 hx (t := .boolean) Bd.returns (by simp) (hb hby at_544) hr
                · show Q0 Z i0 i1 i2 i3 i4 h0 n0 _ T217.heap _
                  rw [e217]
                  refine ⟨?_, N217⟩
                  exact absurd hc237 (FX.2.2 (by have q : ¬ v220.toInt < v223.toInt := fun q => hc225 (Int64.lt_iff_toInt_lt.mpr q); omega))
              · -- not (cmpValue (FP.dcmp (own_hr v166 v155) (own_hr v158 v173)) .l) < (0 : Int32)
                have P240 : own_Rch p.tables e below A0 (T217.setTop (mkF m 544 (own_L17 i0 i1 i2 i3 i4 x9 x11 x13 x14 x16 (1 : Int32) x19 v166 v155 v158 v173 (own_hr v166 v155) (own_hr v158 v173) v220 v223) [(.int (1 : Int32))])) := fun t k => P238 t (by
                  show Steps p.tables e below (T217.setTop (mkF m 532 (own_L17 i0 i1 i2 i3 i4 x9 x11 x13 x14 x16 (1 : Int32) x19 v166 v155 v158 v173 (own_hr v166 v155) (own_hr v158 v173) v220 v223) [(.int (cmpValue (FP.dcmp (own_hr v166 v155) (own_hr v158 v173)) .l))])) _
                  refine XS.ifNo X217.here hx rfl (hb hby at_532) rfl ((if0 _ _).trans (flt hc237).1) ?_
                  show Steps p.tables e below (T217.setTop (mkF m 535 (own_L17 i0 i1 i2 i3 i4 x9 x11 x13 x14 x16 (1 : Int32) x19 v166 v155 v158 v173 (own_hr v166 v155) (own_hr v158 v173) v220 v223) [])) _
                  refine XS.iconst X217.here hx rfl (hb hby at_535) ?_
                  show Steps p.tables e below (T217.setTop (mkF m 536 (own_L17 i0 i1 i2 i3 i4 x9 x11 x13 x14 x16 (1 : Int32) x19 v166 v155 v158 v173 (own_hr v166 v155) (own_hr v158 v173) v220 v223) [(.int (1 : Int32))])) _
                  refine XS.goto X217.here hx rfl (pc0 := 536) (pc' := 540) rfl (hb hby at_536) (by decide) (by decide) ?_
                  show Steps p.tables e below (T217.setTop (mkF m 540 (own_L17 i0 i1 i2 i3 i4 x9 x11 x13 x14 x16 (1 : Int32) x19 v166 v155 v158 v173 (own_hr v166 v155) (own_hr v158 v173) v220 v223) [(.int (1 : Int32))])) _
                  refine XS.istore X217.here hx rfl (hb hby at_540) rfl (l' := (own_L17 i0 i1 i2 i3 i4 x9 x11 x13 x14 x16 (1 : Int32) x19 v166 v155 v158 v173 (own_hr v166 v155) (own_hr v158 v173) v220 v223)) rfl ?_
                  show Steps p.tables e below (T217.setTop (mkF m 542 (own_L17 i0 i1 i2 i3 i4 x9 x11 x13 x14 x16 (1 : Int32) x19 v166 v155 v158 v173 (own_hr v166 v155) (own_hr v158 v173) v220 v223) [])) _
                  refine XS.iload X217.here hx rfl (hb hby at_542) rfl ?_
                  exact k)
                obtain ⟨fs, hr, hrun, hended, hW, hsame⟩ := X217.leave (v := some (.int (nar .boolean (1 : Int32)))) (fun h => by rw [Bd.returns] at h; cases h)
                refine ⟨_, _, P00 _ (P240 _ ?_), hrun, hended, _, _, rfl, ?_, ⟨_, rfl⟩, hW, hsame.mono (by decide) (by decide)⟩
                · exact retN X217 hx (t := .boolean) Bd.returns (by simp) (hb hby at_544) hr
                · show Q0 Z i0 i1 i2 i3 i4 h0 n0 _ T217.heap _
                  rw [e217]
                  refine ⟨?_, N217⟩
                  rfl
        · -- not (0 : Int64) < (v158 + v173)
          have P241 : own_Rch p.tables e below A0 (Tt.setTop (mkF m 544 (own_L13 i0 i1 i2 i3 i4 x9 x11 x13 x14 x16 (1 : Int32) x19 v166 v155 v158 v173) [(.int (1 : Int32))])) := fun t k => P178 t (by
            show Steps p.tables e below (Tt.setTop (mkF m 399 (own_L13 i0 i1 i2 i3 i4 x9 x11 x13 x14 x16 (1 : Int32) x19 v166 v155 v158 v173) [(.int (lcmpW (v158 + v173) (0 : Int64)))])) _
            refine XS.ifYes Xt.here hx rfl (pc0 := 399) (pc' := 542) rfl (hb hby at_399) rfl (own_lcf2 hc177).2 (by decide) (by decide) ?_
            show Steps p.tables e below (Tt.setTop (mkF m 542 (own_L13 i0 i1 i2 i3 i4 x9 x11 x13 x14 x16 (1 : Int32) x19 v166 v155 v158 v173) [])) _
            refine XS.iload Xt.here hx rfl (hb hby at_542) rfl ?_
            exact k)
          obtain ⟨fs, hr, hrun, hended, hW, hsame⟩ := Xt.leave (v := some (.int (nar .boolean (1 : Int32)))) (fun h => by rw [Bd.returns] at h; cases h)
          refine ⟨_, _, P00 _ (P241 _ ?_), hrun, hended, _, _, rfl, ?_, ⟨_, rfl⟩, hW, hsame.mono (by decide) (by decide)⟩
          · exact retN Xt hx (t := .boolean) Bd.returns (by simp) (hb hby at_544) hr
          · show Q0 Z i0 i1 i2 i3 i4 h0 n0 _ Tt.heap _
            rw [et]
            refine ⟨?_, Nt⟩
            rfl
      · -- not (0 : Int64) < (v166 + v155)
        have P242 : own_Rch p.tables e below A0 (Tt.setTop (mkF m 544 (own_L13 i0 i1 i2 i3 i4 x9 x11 x13 x14 x16 (1 : Int32) x19 v166 v155 v158 v173) [(.int (1 : Int32))])) := fun t k => P176 t (by
          show Steps p.tables e below (Tt.setTop (mkF m 389 (own_L13 i0 i1 i2 i3 i4 x9 x11 x13 x14 x16 (1 : Int32) x19 v166 v155 v158 v173) [(.int (lcmpW (v166 + v155) (0 : Int64)))])) _
          refine XS.ifYes Xt.here hx rfl (pc0 := 389) (pc' := 542) rfl (hb hby at_389) rfl (own_lcf2 hc175).2 (by decide) (by decide) ?_
          show Steps p.tables e below (Tt.setTop (mkF m 542 (own_L13 i0 i1 i2 i3 i4 x9 x11 x13 x14 x16 (1 : Int32) x19 v166 v155 v158 v173) [])) _
          refine XS.iload Xt.here hx rfl (hb hby at_542) rfl ?_
          exact k)
        obtain ⟨fs, hr, hrun, hended, hW, hsame⟩ := Xt.leave (v := some (.int (nar .boolean (1 : Int32)))) (fun h => by rw [Bd.returns] at h; cases h)
        refine ⟨_, _, P00 _ (P242 _ ?_), hrun, hended, _, _, rfl, ?_, ⟨_, rfl⟩, hW, hsame.mono (by decide) (by decide)⟩
        · exact retN Xt hx (t := .boolean) Bd.returns (by simp) (hb hby at_544) hr
        · show Q0 Z i0 i1 i2 i3 i4 h0 n0 _ Tt.heap _
          rw [et]
          refine ⟨?_, Nt⟩
          rfl
    · -- not (i4 &&& (8 : Int32)) = (0 : Int32)
      have P243 : own_Rch p.tables e below A0 (Tt.setTop (mkF m 357 (own_L18 i0 i1 i2 i3 i4 x9 x11 x13 x14 x16 (1 : Int32) x19 v166 v155 v158 v161 (((((i4.toUInt32 >>> ((5 : Int32) &&& 31).toUInt32).toInt32) &&& (255 : Int32)) + (1 : Int32)).toInt64)) [])) := fun t k => P169 t (by
        show Steps p.tables e below (Tt.setTop (mkF m 341 (own_L13 i0 i1 i2 i3 i4 x9 x11 x13 x14 x16 (1 : Int32) x19 v166 v155 v158 v161) [(.int (i4 &&& (8 : Int32)))])) _
        refine XS.ifNo Xt.here hx rfl (hb hby at_341) rfl ((if0 _ _).trans (feq hc168).1) ?_
        show Steps p.tables e below (Tt.setTop (mkF m 344 (own_L13 i0 i1 i2 i3 i4 x9 x11 x13 x14 x16 (1 : Int32) x19 v166 v155 v158 v161) [])) _
        refine XS.iload Xt.here hx rfl (hb hby at_344) rfl ?_
        show Steps p.tables e below (Tt.setTop (mkF m 346 (own_L13 i0 i1 i2 i3 i4 x9 x11 x13 x14 x16 (1 : Int32) x19 v166 v155 v158 v161) [(.int i4)])) _
        refine XS.iconst Xt.here hx rfl (hb hby at_346) ?_
        show Steps p.tables e below (Tt.setTop (mkF m 347 (own_L13 i0 i1 i2 i3 i4 x9 x11 x13 x14 x16 (1 : Int32) x19 v166 v155 v158 v161) [(.int (5 : Int32)), (.int i4)])) _
        refine XS.iushr Xt.here hx rfl (hb hby at_347) rfl ?_
        show Steps p.tables e below (Tt.setTop (mkF m 348 (own_L13 i0 i1 i2 i3 i4 x9 x11 x13 x14 x16 (1 : Int32) x19 v166 v155 v158 v161) [(.int ((i4.toUInt32 >>> ((5 : Int32) &&& 31).toUInt32).toInt32))])) _
        refine XS.sipush Xt.here hx rfl (hb hby at_348) ?_
        show Steps p.tables e below (Tt.setTop (mkF m 351 (own_L13 i0 i1 i2 i3 i4 x9 x11 x13 x14 x16 (1 : Int32) x19 v166 v155 v158 v161) [(.int (255 : Int32)), (.int ((i4.toUInt32 >>> ((5 : Int32) &&& 31).toUInt32).toInt32))])) _
        refine XS.iand Xt.here hx rfl (hb hby at_351) rfl ?_
        show Steps p.tables e below (Tt.setTop (mkF m 352 (own_L13 i0 i1 i2 i3 i4 x9 x11 x13 x14 x16 (1 : Int32) x19 v166 v155 v158 v161) [(.int (((i4.toUInt32 >>> ((5 : Int32) &&& 31).toUInt32).toInt32) &&& (255 : Int32)))])) _
        refine XS.iconst Xt.here hx rfl (hb hby at_352) ?_
        show Steps p.tables e below (Tt.setTop (mkF m 353 (own_L13 i0 i1 i2 i3 i4 x9 x11 x13 x14 x16 (1 : Int32) x19 v166 v155 v158 v161) [(.int (1 : Int32)), (.int (((i4.toUInt32 >>> ((5 : Int32) &&& 31).toUInt32).toInt32) &&& (255 : Int32)))])) _
        refine XS.iadd Xt.here hx rfl (hb hby at_353) rfl ?_
        show Steps p.tables e below (Tt.setTop (mkF m 354 (own_L13 i0 i1 i2 i3 i4 x9 x11 x13 x14 x16 (1 : Int32) x19 v166 v155 v158 v161) [(.int ((((i4.toUInt32 >>> ((5 : Int32) &&& 31).toUInt32).toInt32) &&& (255 : Int32)) + (1 : Int32)))])) _
        refine XS.i2l Xt.here hx rfl (hb hby at_354) rfl ?_
        show Steps p.tables e below (Tt.setTop (mkF m 355 (own_L13 i0 i1 i2 i3 i4 x9 x11 x13 x14 x16 (1 : Int32) x19 v166 v155 v158 v161) [(.long (((((i4.toUInt32 >>> ((5 : Int32) &&& 31).toUInt32).toInt32) &&& (255 : Int32)) + (1 : Int32)).toInt64))])) _
        refine XS.lstore Xt.here hx rfl (hb hby at_355) rfl (l' := (own_L18 i0 i1 i2 i3 i4 x9 x11 x13 x14 x16 (1 : Int32) x19 v166 v155 v158 v161 (((((i4.toUInt32 >>> ((5 : Int32) &&& 31).toUInt32).toInt32) &&& (255 : Int32)) + (1 : Int32)).toInt64))) rfl ?_
        exact k)
      obtain ⟨v244, hv244, P245⟩ : ∃ z : Int64, z = (((((i4.toUInt32 >>> ((5 : Int32) &&& 31).toUInt32).toInt32) &&& (255 : Int32)) + (1 : Int32)).toInt64) ∧ own_Rch p.tables e below A0 (Tt.setTop (mkF m 357 (own_L18 i0 i1 i2 i3 i4 x9 x11 x13 x14 x16 (1 : Int32) x19 v166 v155 v158 v161 z) [])) := ⟨_, rfl, P243⟩
      have P246 : own_Rch p.tables e below A0 (Tt.setTop (mkF m 364 (own_L18 i0 i1 i2 i3 i4 x9 x11 x13 x14 x16 (1 : Int32) x19 v166 v155 (v166 * v244) v161 v244) [])) := fun t k => P245 t (by
        show Steps p.tables e below (Tt.setTop (mkF m 357 (own_L18 i0 i1 i2 i3 i4 x9 x11 x13 x14 x16 (1 : Int32) x19 v166 v155 v158 v161 v244) [])) _
        refine XS.lload Xt.here hx rfl (hb hby at_357) rfl ?_
        show Steps p.tables e below (Tt.setTop (mkF m 359 (own_L18 i0 i1 i2 i3 i4 x9 x11 x13 x14 x16 (1 : Int32) x19 v166 v155 v158 v161 v244) [(.long v166)])) _
        refine XS.lload Xt.here hx rfl (hb hby at_359) rfl ?_
        show Steps p.tables e below (Tt.setTop (mkF m 361 (own_L18 i0 i1 i2 i3 i4 x9 x11 x13 x14 x16 (1 : Int32) x19 v166 v155 v158 v161 v244) [(.long v244), (.long v166)])) _
        refine XS.lmul Xt.here hx rfl (hb hby at_361) rfl ?_
        show Steps p.tables e below (Tt.setTop (mkF m 362 (own_L18 i0 i1 i2 i3 i4 x9 x11 x13 x14 x16 (1 : Int32) x19 v166 v155 v158 v161 v244) [(.long (v166 * v244))])) _
        refine XS.lstore Xt.here hx rfl (hb hby at_362) rfl (l' := (own_L18 i0 i1 i2 i3 i4 x9 x11 x13 x14 x16 (1 : Int32) x19 v166 v155 (v166 * v244) v161 v244)) rfl ?_
        exact k)
      obtain ⟨v247, hv247, P248⟩ : ∃ z : Int64, z = (v166 * v244) ∧ own_Rch p.tables e below A0 (Tt.setTop (mkF m 364 (own_L18 i0 i1 i2 i3 i4 x9 x11 x13 x14 x16 (1 : Int32) x19 v166 v155 z v161 v244) [])) := ⟨_, rfl, P246⟩
      have P249 : own_Rch p.tables e below A0 (Tt.setTop (mkF m 371 (own_L18 i0 i1 i2 i3 i4 x9 x11 x13 x14 x16 (1 : Int32) x19 v166 v155 v247 (v155 * v244) v244) [])) := fun t k => P248 t (by
        show Steps p.tables e below (Tt.setTop (mkF m 364 (own_L18 i0 i1 i2 i3 i4 x9 x11 x13 x14 x16 (1 : Int32) x19 v166 v155 v247 v161 v244) [])) _
        refine XS.lload Xt.here hx rfl (hb hby at_364) rfl ?_
        show Steps p.tables e below (Tt.setTop (mkF m 366 (own_L18 i0 i1 i2 i3 i4 x9 x11 x13 x14 x16 (1 : Int32) x19 v166 v155 v247 v161 v244) [(.long v155)])) _
        refine XS.lload Xt.here hx rfl (hb hby at_366) rfl ?_
        show Steps p.tables e below (Tt.setTop (mkF m 368 (own_L18 i0 i1 i2 i3 i4 x9 x11 x13 x14 x16 (1 : Int32) x19 v166 v155 v247 v161 v244) [(.long v244), (.long v155)])) _
        refine XS.lmul Xt.here hx rfl (hb hby at_368) rfl ?_
        show Steps p.tables e below (Tt.setTop (mkF m 369 (own_L18 i0 i1 i2 i3 i4 x9 x11 x13 x14 x16 (1 : Int32) x19 v166 v155 v247 v161 v244) [(.long (v155 * v244))])) _
        refine XS.lstore Xt.here hx rfl (hb hby at_369) rfl (l' := (own_L18 i0 i1 i2 i3 i4 x9 x11 x13 x14 x16 (1 : Int32) x19 v166 v155 v247 (v155 * v244) v244)) rfl ?_
        exact k)
      obtain ⟨v250, hv250, P251⟩ : ∃ z : Int64, z = (v155 * v244) ∧ own_Rch p.tables e below A0 (Tt.setTop (mkF m 371 (own_L18 i0 i1 i2 i3 i4 x9 x11 x13 x14 x16 (1 : Int32) x19 v166 v155 v247 z v244) [])) := ⟨_, rfl, P249⟩
      have P253 : own_Rch p.tables e below A0 (Tt.setTop (mkF m 376 (own_L18 i0 i1 i2 i3 i4 x9 x11 x13 x14 x16 (1 : Int32) x19 v166 v155 v247 v250 v244) [(.int (i4 &&& (524288 : Int32)))])) := fun t k => P251 t (by
        show Steps p.tables e below (Tt.setTop (mkF m 371 (own_L18 i0 i1 i2 i3 i4 x9 x11 x13 x14 x16 (1 : Int32) x19 v166 v155 v247 v250 v244) [])) _
        refine XS.iload Xt.here hx rfl (hb hby at_371) rfl ?_
        show Steps p.tables e below (Tt.setTop (mkF m 373 (own_L18 i0 i1 i2 i3 i4 x9 x11 x13 x14 x16 (1 : Int32) x19 v166 v155 v247 v250 v244) [(.int i4)])) _
        refine Xt.ldcInt hx hown (mvT hZ (hw _ (List.mem_of_getElem? (i := 34) rfl))) (g := (mkF m 373 (own_L18 i0 i1 i2 i3 i4 x9 x11 x13 x14 x16 (1 : Int32) x19 v166 v155 v247 v250 v244) [(.int i4)])) rfl (hb hby at_373) _ ?_
        show Steps p.tables e below (Tt.setTop (mkF m 375 (own_L18 i0 i1 i2 i3 i4 x9 x11 x13 x14 x16 (1 : Int32) x19 v166 v155 v247 v250 v244) [(.int (524288 : Int32)), (.int i4)])) _
        refine XS.iand Xt.here hx rfl (hb hby at_375) rfl ?_
        exact k)
      obtain ⟨v255, hv255⟩ : ∃ z : Int64, z = (if (i4 &&& (524288 : Int32)) = (0 : Int32) then v250 else (0 : Int64)) := ⟨_, rfl⟩
      have P256 : own_Rch p.tables e below A0 (Tt.setTop (mkF m 382 (own_L18 i0 i1 i2 i3 i4 x9 x11 x13 x14 x16 (1 : Int32) x19 v166 v155 v247 v255 v244) [])) := fun t k => P253 t (by
        by_cases hc254 : (i4 &&& (524288 : Int32)) = (0 : Int32)
        · show Steps p.tables e below (Tt.setTop (mkF m 376 (own_L18 i0 i1 i2 i3 i4 x9 x11 x13 x14 x16 (1 : Int32) x19 v166 v155 v247 v250 v244) [(.int (i4 &&& (524288 : Int32)))])) _
          refine XS.ifYes Xt.here hx rfl (pc0 := 376) (pc' := 382) rfl (hb hby at_376) rfl ((if0 _ _).trans (teq hc254).1) (by decide) (by decide) ?_
          have qv255 : v255 = v250 := by rw [hv255]; simp only [if_pos hc254]
          rw [qv255] at k
          exact k
        · show Steps p.tables e below (Tt.setTop (mkF m 376 (own_L18 i0 i1 i2 i3 i4 x9 x11 x13 x14 x16 (1 : Int32) x19 v166 v155 v247 v250 v244) [(.int (i4 &&& (524288 : Int32)))])) _
          refine XS.ifNo Xt.here hx rfl (hb hby at_376) rfl ((if0 _ _).trans (feq hc254).1) ?_
          have qv255 : v255 = (0 : Int64) := by rw [hv255]; simp only [if_neg hc254]
          rw [qv255] at k
          show Steps p.tables e below (Tt.setTop (mkF m 379 (own_L18 i0 i1 i2 i3 i4 x9 x11 x13 x14 x16 (1 : Int32) x19 v166 v155 v247 v250 v244) [])) _
          refine XS.lconst Xt.here hx rfl (hb hby at_379) ?_
          show Steps p.tables e below (Tt.setTop (mkF m 380 (own_L18 i0 i1 i2 i3 i4 x9 x11 x13 x14 x16 (1 : Int32) x19 v166 v155 v247 v250 v244) [(.long (0 : Int64))])) _
          refine XS.lstore Xt.here hx rfl (hb hby at_380) rfl (l' := (own_L18 i0 i1 i2 i3 i4 x9 x11 x13 x14 x16 (1 : Int32) x19 v166 v155 v247 (0 : Int64) v244)) rfl ?_
          exact k)
      have z0 : (0 : Int64).toInt = 0 := rfl
      have b2 := own_m24 i2
      have b3 := own_m24 i3
      have b4 := own_m24 i0
      have b5 := own_m24 i1
      have bb_v155 : 0 ≤ v155.toInt ∧ v155.toInt ≤ 16777215 := by
        rw [hv155]; omega
      have bb_v166 : 0 ≤ v166.toInt ∧ v166.toInt ≤ 16777215 := by
        rw [hv166, hv152]; split <;> omega
      have bk := own_k i4
      rw [← hv244] at bk
      obtain ⟨u1, u2, u3⟩ := own_mul64 bb_v166.1 bb_v166.2 (by omega : 0 ≤ v244.toInt) bk.2 (by decide)
      rw [← hv247] at u1
      have bb_v247 : 0 ≤ v247.toInt ∧ v247.toInt ≤ 4294967040 := by
        omega
      obtain ⟨u4, u5, u6⟩ := own_mul64 bb_v155.1 bb_v155.2 (by omega : 0 ≤ v244.toInt) bk.2 (by decide)
      rw [← hv250] at u4
      have bb_v255 : 0 ≤ v255.toInt ∧ v255.toInt ≤ 4294967040 := by
        rw [hv255]; split <;> omega
      have P258 : own_Rch p.tables e below A0 (Tt.setTop (mkF m 389 (own_L18 i0 i1 i2 i3 i4 x9 x11 x13 x14 x16 (1 : Int32) x19 v166 v155 v247 v255 v244) [(.int (lcmpW (v166 + v155) (0 : Int64)))])) := fun t k => P256 t (by
        show Steps p.tables e below (Tt.setTop (mkF m 382 (own_L18 i0 i1 i2 i3 i4 x9 x11 x13 x14 x16 (1 : Int32) x19 v166 v155 v247 v255 v244) [])) _
        refine XS.lload Xt.here hx rfl (hb hby at_382) rfl ?_
        show Steps p.tables e below (Tt.setTop (mkF m 384 (own_L18 i0 i1 i2 i3 i4 x9 x11 x13 x14 x16 (1 : Int32) x19 v166 v155 v247 v255 v244) [(.long v166)])) _
        refine XS.lload Xt.here hx rfl (hb hby at_384) rfl ?_
        show Steps p.tables e below (Tt.setTop (mkF m 386 (own_L18 i0 i1 i2 i3 i4 x9 x11 x13 x14 x16 (1 : Int32) x19 v166 v155 v247 v255 v244) [(.long v155), (.long v166)])) _
        refine XS.ladd Xt.here hx rfl (hb hby at_386) rfl ?_
        show Steps p.tables e below (Tt.setTop (mkF m 387 (own_L18 i0 i1 i2 i3 i4 x9 x11 x13 x14 x16 (1 : Int32) x19 v166 v155 v247 v255 v244) [(.long (v166 + v155))])) _
        refine XS.lconst Xt.here hx rfl (hb hby at_387) ?_
        show Steps p.tables e below (Tt.setTop (mkF m 388 (own_L18 i0 i1 i2 i3 i4 x9 x11 x13 x14 x16 (1 : Int32) x19 v166 v155 v247 v255 v244) [(.long (0 : Int64)), (.long (v166 + v155))])) _
        refine XS.lcmp Xt.here hx rfl (hb hby at_388) rfl ?_
        exact k)
      by_cases hc257 : (0 : Int64) < (v166 + v155)
      · -- (0 : Int64) < (v166 + v155)
        have P260 : own_Rch p.tables e below A0 (Tt.setTop (mkF m 399 (own_L18 i0 i1 i2 i3 i4 x9 x11 x13 x14 x16 (1 : Int32) x19 v166 v155 v247 v255 v244) [(.int (lcmpW (v247 + v255) (0 : Int64)))])) := fun t k => P258 t (by
          show Steps p.tables e below (Tt.setTop (mkF m 389 (own_L18 i0 i1 i2 i3 i4 x9 x11 x13 x14 x16 (1 : Int32) x19 v166 v155 v247 v255 v244) [(.int (lcmpW (v166 + v155) (0 : Int64)))])) _
          refine XS.ifNo Xt.here hx rfl (hb hby at_389) rfl (own_lct2 hc257).2 ?_
          show Steps p.tables e below (Tt.setTop (mkF m 392 (own_L18 i0 i1 i2 i3 i4 x9 x11 x13 x14 x16 (1 : Int32) x19 v166 v155 v247 v255 v244) [])) _
          refine XS.lload Xt.here hx rfl (hb hby at_392) rfl ?_
          show Steps p.tables e below (Tt.setTop (mkF m 394 (own_L18 i0 i1 i2 i3 i4 x9 x11 x13 x14 x16 (1 : Int32) x19 v166 v155 v247 v255 v244) [(.long v247)])) _
          refine XS.lload Xt.here hx rfl (hb hby at_394) rfl ?_
          show Steps p.tables e below (Tt.setTop (mkF m 396 (own_L18 i0 i1 i2 i3 i4 x9 x11 x13 x14 x16 (1 : Int32) x19 v166 v155 v247 v255 v244) [(.long v255), (.long v247)])) _
          refine XS.ladd Xt.here hx rfl (hb hby at_396) rfl ?_
          show Steps p.tables e below (Tt.setTop (mkF m 397 (own_L18 i0 i1 i2 i3 i4 x9 x11 x13 x14 x16 (1 : Int32) x19 v166 v155 v247 v255 v244) [(.long (v247 + v255))])) _
          refine XS.lconst Xt.here hx rfl (hb hby at_397) ?_
          show Steps p.tables e below (Tt.setTop (mkF m 398 (own_L18 i0 i1 i2 i3 i4 x9 x11 x13 x14 x16 (1 : Int32) x19 v166 v155 v247 v255 v244) [(.long (0 : Int64)), (.long (v247 + v255))])) _
          refine XS.lcmp Xt.here hx rfl (hb hby at_398) rfl ?_
          exact k)
        by_cases hc259 : (0 : Int64) < (v247 + v255)
        · -- (0 : Int64) < (v247 + v255)
          have P261 : own_Rch p.tables e below A0 (Tt.setTop (mkF m 402 (own_L18 i0 i1 i2 i3 i4 x9 x11 x13 x14 x16 (1 : Int32) x19 v166 v155 v247 v255 v244) [])) := fun t k => P260 t (by
            show Steps p.tables e below (Tt.setTop (mkF m 399 (own_L18 i0 i1 i2 i3 i4 x9 x11 x13 x14 x16 (1 : Int32) x19 v166 v155 v247 v255 v244) [(.int (lcmpW (v247 + v255) (0 : Int64)))])) _
            refine XS.ifNo Xt.here hx rfl (hb hby at_399) rfl (own_lct2 hc259).2 ?_
            exact k)
          obtain ⟨T262, h262, X262, e262, E262, A262, D262, -, st262⟩ := newO Xt hx hZ hown (hw _ (List.mem_of_getElem? (i := 1) rfl)) (hw _ (List.mem_of_getElem? (i := 2) rfl)) (hw _ (List.mem_of_getElem? (i := 3) rfl)) et (g := (mkF m 402 (own_L18 i0 i1 i2 i3 i4 x9 x11 x13 x14 x16 (1 : Int32) x19 v166 v155 v247 v255 v244) [])) rfl (hb hby at_402) (by decide) (by decide)
          obtain ⟨b262, g262⟩ : ∃ z, z = ht.size := ⟨_, rfl⟩
          rw [← g262] at A262 D262 st262
          have g_b262 : n0 ≤ b262 := Nat.le_trans Zt (Nat.le_of_eq g262.symm)
          have Z_263 : n0 ≤ h262.size := Nat.le_trans Zt E262.1
          have F_264 : Fld Z h262 b262 "com/example/tinyward/tinyward/CacheStats" "hitCount" "J" (.long (0 : Int64)) := D262 (Or.inr (hw _ (List.mem_of_getElem? (i := 16) rfl))) (ty := .long) (by decide)
          have F_265 : Fld Z h262 b262 "com/example/tinyward/tinyward/CacheStats" "missCount" "J" (.long (0 : Int64)) := D262 (Or.inr (hw _ (List.mem_of_getElem? (i := 18) rfl))) (ty := .long) (by decide)
          have F_266 : Fld Z h262 b262 "com/example/tinyward/tinyward/CacheStats" "loadSuccessCount" "J" (.long (0 : Int64)) := D262 (Or.inr (hw _ (List.mem_of_getElem? (i := 20) rfl))) (ty := .long) (by decide)
          have F_267 : Fld Z h262 b262 "com/example/tinyward/tinyward/CacheStats" "loadFailureCount" "J" (.long (0 : Int64)) := D262 (Or.inr (hw _ (List.mem_of_getElem? (i := 22) rfl))) (ty := .long) (by decide)
          have F_268 : Fld Z h262 b262 "com/example/tinyward/tinyward/CacheStats" "totalLoadTime" "J" (.long (0 : Int64)) := D262 (Or.inr (hw _ (List.mem_of_getElem? (i := 24) rfl))) (ty := .long) (by decide)
          have F_269 : Fld Z h262 b262 "com/example/tinyward/tinyward/CacheStats" "evictionCount" "J" (.long (0 : Int64)) := D262 (Or.inr (hw _ (List.mem_of_getElem? (i := 26) rfl))) (ty := .long) (by decide)
          have P270 : own_Rch p.tables e below A0 (T262.setTop (mkF m 405 (own_L18 i0 i1 i2 i3 i4 x9 x11 x13 x14 x16 (1 : Int32) x19 v166 v155 v247 v255 v244) [(.ref b262)])) := fun t k => P261 t (st262 t k)
          have P271 : own_Rch p.tables e below A0 (T262.setTop (mkF m 416 (own_L18 i0 i1 i2 i3 i4 x9 x11 x13 x14 x16 (1 : Int32) x19 v166 v155 v247 v255 v244) [(.long i3), (.long i2), (.long i1), (.long i0), (.long v155), (.long v166), (.ref b262), (.ref b262)])) := fun t k => P270 t (by
            show Steps p.tables e below (T262.setTop (mkF m 405 (own_L18 i0 i1 i2 i3 i4 x9 x11 x13 x14 x16 (1 : Int32) x19 v166 v155 v247 v255 v244) [(.ref b262)])) _
            refine XS.dup X262.here hx rfl (hb hby at_405) rfl rfl ?_
            show Steps p.tables e below (T262.setTop (mkF m 406 (own_L18 i0 i1 i2 i3 i4 x9 x11 x13 x14 x16 (1 : Int32) x19 v166 v155 v247 v255 v244) [(.ref b262), (.ref b262)])) _
            refine XS.lload X262.here hx rfl (hb hby at_406) rfl ?_
            show Steps p.tables e below (T262.setTop (mkF m 408 (own_L18 i0 i1 i2 i3 i4 x9 x11 x13 x14 x16 (1 : Int32) x19 v166 v155 v247 v255 v244) [(.long v166), (.ref b262), (.ref b262)])) _
            refine XS.lload X262.here hx rfl (hb hby at_408) rfl ?_
            show Steps p.tables e below (T262.setTop (mkF m 410 (own_L18 i0 i1 i2 i3 i4 x9 x11 x13 x14 x16 (1 : Int32) x19 v166 v155 v247 v255 v244) [(.long v155), (.long v166), (.ref b262), (.ref b262)])) _
            refine XS.lloadN X262.here hx rfl (hb hby at_410) rfl ?_
            show Steps p.tables e below (T262.setTop (mkF m 411 (own_L18 i0 i1 i2 i3 i4 x9 x11 x13 x14 x16 (1 : Int32) x19 v166 v155 v247 v255 v244) [(.long i0), (.long v155), (.long v166), (.ref b262), (.ref b262)])) _
            refine XS.lloadN X262.here hx rfl (hb hby at_411) rfl ?_
            show Steps p.tables e below (T262.setTop (mkF m 412 (own_L18 i0 i1 i2 i3 i4 x9 x11 x13 x14 x16 (1 : Int32) x19 v166 v155 v247 v255 v244) [(.long i1), (.long i0), (.long v155), (.long v166), (.ref b262), (.ref b262)])) _
            refine XS.lload X262.here hx rfl (hb hby at_412) rfl ?_
            show Steps p.tables e below (T262.setTop (mkF m 414 (own_L18 i0 i1 i2 i3 i4 x9 x11 x13 x14 x16 (1 : Int32) x19 v166 v155 v247 v255 v244) [(.long i2), (.long i1), (.long i0), (.long v155), (.long v166), (.ref b262), (.ref b262)])) _
            refine XS.lload X262.here hx rfl (hb hby at_414) rfl ?_
            exact k)
          obtain ⟨_, _, ⟨T272, L272, k272, n272⟩, -, X272, ⟨Lc272, hQ272, l272, y272, z272⟩, st272⟩ := X262.specialBack hx (y := (⟨"com/example/tinyward/tinyward/CacheStats", "<init>", "(JJJJJJ)V"⟩ : MethodName)) rfl hown (mvT hZ (hw _ (List.mem_of_getElem? (i := 4) rfl))) (mvT hZ (hw _ (List.mem_of_getElem? (i := 5) rfl))) (mvT hZ (hw _ (List.mem_of_getElem? (i := 6) rfl))) (by decide) (backOf (W := 1) (rm1 l Z a0 hw [] b262 v166 v155 i0 i1 i2 i3 h262 n0 Z_263 A262 F_264 F_265 F_266 F_267 F_268 F_269 g_b262) hZ (hw _ (List.mem_of_getElem? (i := 6) rfl)) (hw _ (List.mem_of_getElem? (i := 3) rfl)) (by decide) (by decide)) (g := (mkF m 416 (own_L18 i0 i1 i2 i3 i4 x9 x11 x13 x14 x16 (1 : Int32) x19 v166 v155 v247 v255 v244) [(.long i3), (.long i2), (.long i1), (.long i0), (.long v155), (.long v166), (.ref b262), (.ref b262)])) rfl (by rw [hml]; rfl) (Steps.refl _) (a := b262) (argsL := [(.long v166), (.long v155), (.long i0), (.long i1), (.long i2), (.long i3)]) (rest := [(.ref b262)]) (lenOf pd_1 rfl) rfl (by show 2 * 0 + _ ≤ _; exact Nat.le_of_eq rfl) (hb hby at_416) (fun _ _ => ⟨rfl, e262, (by decide : (0 + 1 + 0 + 0 + 1) + 0 ≤ _), (by decide : (0 + 6 + 0 + 0 + 6) + 0 ≤ _)⟩)
          dsimp only [Pt.U, Pt.locs, Pt.cells, Pt.slots] at X272 l272 y272 z272 st272 hQ272
          subst l272 y272 z272
          obtain ⟨rfl, N272q, K272q, E272q, F272q0, F272q1⟩ := hQ272
          have N272 := Fr.app Nt N272q
          have Z_273 : n0 ≤ T272.heap.size := Nat.le_trans Z_263 K272q.1
          have E_274 : Exa Z T272.heap b262 "com/example/tinyward/tinyward/CacheStats" := A262.keep K272q
          have P275 : own_Rch p.tables e below A0 (T272.setTop (mkF m 419 (own_L18 i0 i1 i2 i3 i4 x9 x11 x13 x14 x16 (1 : Int32) x19 v166 v155 v247 v255 v244) [(.ref b262)])) := fun t k => P271 t (st272.trans k)
          obtain ⟨cq276, kq276, q276a, q276b, q276c⟩ := isOf hZ rfl E_274
          obtain ⟨_, _, ⟨T276, L276, k276, n276⟩, -, X276, ⟨Lc276, hQ276, l276, y276, z276⟩, st276⟩ := X272.virtualBack hx (y := (⟨"com/example/tinyward/tinyward/CacheStats", "hitRate", "()D"⟩ : MethodName)) (z := (⟨"com/example/tinyward/tinyward/CacheStats", "hitRate", "()D"⟩ : MethodName)) hown (mvT hZ (hw _ (List.mem_of_getElem? (i := 27) rfl))) (mvT hZ (hw _ (List.mem_of_getElem? (i := 28) rfl))) (notFace_of_selects (args := #[]) (mvT hZ (hw _ (List.mem_of_getElem? (i := 30) rfl)))) (mvT hZ (hw _ (List.mem_of_getElem? (i := 30) rfl))) (mvT hZ (hw _ (List.mem_of_getElem? (i := 29) rfl))) (by decide) (backOf (W := 0) (rm4 l Z a0 hw [] b262 v166 v155 T272.heap n0 Z_273 F272q0 F272q1 (fun z => own_nn (n := v166 + v155) bb_v166.1 (by have := own_add64 bb_v166.1 bb_v155.1 (by omega) (by omega); omega) z)) hZ (hw _ (List.mem_of_getElem? (i := 31) rfl)) (hw _ (List.mem_of_getElem? (i := 3) rfl)) (by decide) (by decide)) q276a q276c (g := (mkF m 419 (own_L18 i0 i1 i2 i3 i4 x9 x11 x13 x14 x16 (1 : Int32) x19 v166 v155 v247 v255 v244) [(.ref b262)])) rfl (by rw [hml]; rfl) (Steps.refl _) (argsL := []) (rest := []) (lenOf pd_2 rfl) rfl (by show 2 * 0 + _ ≤ _; exact Nat.le_of_eq rfl) (hb hby at_419) (fun _ _ => ⟨rfl, rfl, (by decide : (0 + 1 + 0 + 0 + 1 + 0) + 0 ≤ _), (by decide : (0 + 6 + 0 + 0 + 6 + 0) + 0 ≤ _)⟩)
          dsimp only [Pt.U, Pt.locs, Pt.cells, Pt.slots] at X276 l276 y276 z276 st276 hQ276
          subst l276 y276 z276
          obtain ⟨rfl, N276q, e276⟩ := hQ276
          have N276 := Fr.app N272 N276q
          have P277 : own_Rch p.tables e below A0 (T276.setTop (mkF m 422 (own_L18 i0 i1 i2 i3 i4 x9 x11 x13 x14 x16 (1 : Int32) x19 v166 v155 v247 v255 v244) [(.double (own_hr v166 v155))])) := fun t k => P275 t (st276.trans k)
          have P278 : own_Rch p.tables e below A0 (T276.setTop (mkF m 424 (own_L14 i0 i1 i2 i3 i4 x9 x11 x13 x14 x16 (1 : Int32) x19 v166 v155 v247 v255 (own_hr v166 v155)) [])) := fun t k => P277 t (by
            show Steps p.tables e below (T276.setTop (mkF m 422 (own_L18 i0 i1 i2 i3 i4 x9 x11 x13 x14 x16 (1 : Int32) x19 v166 v155 v247 v255 v244) [(.double (own_hr v166 v155))])) _
            refine XS.dstore X276.here hx rfl (hb hby at_422) rfl (l' := (own_L14 i0 i1 i2 i3 i4 x9 x11 x13 x14 x16 (1 : Int32) x19 v166 v155 v247 v255 (own_hr v166 v155))) rfl ?_
            exact k)
          obtain ⟨T279, h279, X279, e279, E279, A279, D279, -, st279⟩ := newO X276 hx hZ hown (hw _ (List.mem_of_getElem? (i := 1) rfl)) (hw _ (List.mem_of_getElem? (i := 2) rfl)) (hw _ (List.mem_of_getElem? (i := 3) rfl)) e276 (g := (mkF m 424 (own_L14 i0 i1 i2 i3 i4 x9 x11 x13 x14 x16 (1 : Int32) x19 v166 v155 v247 v255 (own_hr v166 v155)) [])) rfl (hb hby at_424) (by decide) (by decide)
          obtain ⟨b279, g279⟩ : ∃ z, z = T272.heap.size := ⟨_, rfl⟩
          rw [← g279] at A279 D279 st279
          have g_b279 : n0 ≤ b279 := Nat.le_trans Z_273 (Nat.le_of_eq g279.symm)
          have ne_b262_b279 : b262 ≠ b279 := Nat.ne_of_lt (Nat.lt_of_lt_of_le E_274.lt (Nat.le_of_eq g279.symm))
          have Z_280 : n0 ≤ h279.size := Nat.le_trans Z_273 E279.1
          have E_281 : Exa Z h279 b262 "com/example/tinyward/tinyward/CacheStats" := E_274.ext E279
          have F_282 : Fld Z h279 b262 "com/example/tinyward/tinyward/CacheStats" "hitCount" "J" (.long v166) := F272q0.ext E279
          have F_283 : Fld Z h279 b262 "com/example/tinyward/tinyward/CacheStats" "missCount" "J" (.long v155) := F272q1.ext E279
          have F_284 : Fld Z h279 b279 "com/example/tinyward/tinyward/CacheStats" "hitCount" "J" (.long (0 : Int64)) := D279 (Or.inr (hw _ (List.mem_of_getElem? (i := 16) rfl))) (ty := .long) (by decide)
          have F_285 : Fld Z h279 b279 "com/example/tinyward/tinyward/CacheStats" "missCount" "J" (.long (0 : Int64)) := D279 (Or.inr (hw _ (List.mem_of_getElem? (i := 18) rfl))) (ty := .long) (by decide)
          have F_286 : Fld Z h279 b279 "com/example/tinyward/tinyward/CacheStats" "loadSuccessCount" "J" (.long (0 : Int64)) := D279 (Or.inr (hw _ (List.mem_of_getElem? (i := 20) rfl))) (ty := .long) (by decide)
          have F_287 : Fld Z h279 b279 "com/example/tinyward/tinyward/CacheStats" "loadFailureCount" "J" (.long (0 : Int64)) := D279 (Or.inr (hw _ (List.mem_of_getElem? (i := 22) rfl))) (ty := .long) (by decide)
          have F_288 : Fld Z h279 b279 "com/example/tinyward/tinyward/CacheStats" "totalLoadTime" "J" (.long (0 : Int64)) := D279 (Or.inr (hw _ (List.mem_of_getElem? (i := 24) rfl))) (ty := .long) (by decide)
          have F_289 : Fld Z h279 b279 "com/example/tinyward/tinyward/CacheStats" "evictionCount" "J" (.long (0 : Int64)) := D279 (Or.inr (hw _ (List.mem_of_getElem? (i := 26) rfl))) (ty := .long) (by decide)
          have P290 : own_Rch p.tables e below A0 (T279.setTop (mkF m 427 (own_L14 i0 i1 i2 i3 i4 x9 x11 x13 x14 x16 (1 : Int32) x19 v166 v155 v247 v255 (own_hr v166 v155)) [(.ref b279)])) := fun t k => P278 t (st279 t k)
          have P291 : own_Rch p.tables e below A0 (T279.setTop (mkF m 438 (own_L14 i0 i1 i2 i3 i4 x9 x11 x13 x14 x16 (1 : Int32) x19 v166 v155 v247 v255 (own_hr v166 v155)) [(.long i0), (.long i1), (.long i2), (.long i3), (.long v255), (.long v247), (.ref b279), (.ref b279)])) := fun t k => P290 t (by
            show Steps p.tables e below (T279.setTop (mkF m 427 (own_L14 i0 i1 i2 i3 i4 x9 x11 x13 x14 x16 (1 : Int32) x19 v166 v155 v247 v255 (own_hr v166 v155)) [(.ref b279)])) _
            refine XS.dup X279.here hx rfl (hb hby at_427) rfl rfl ?_
            show Steps p.tables e below (T279.setTop (mkF m 428 (own_L14 i0 i1 i2 i3 i4 x9 x11 x13 x14 x16 (1 : Int32) x19 v166 v155 v247 v255 (own_hr v166 v155)) [(.ref b279), (.ref b279)])) _
            refine XS.lload X279.here hx rfl (hb hby at_428) rfl ?_
            show Steps p.tables e below (T279.setTop (mkF m 430 (own_L14 i0 i1 i2 i3 i4 x9 x11 x13 x14 x16 (1 : Int32) x19 v166 v155 v247 v255 (own_hr v166 v155)) [(.long v247), (.ref b279), (.ref b279)])) _
            refine XS.lload X279.here hx rfl (hb hby at_430) rfl ?_
            show Steps p.tables e below (T279.setTop (mkF m 432 (own_L14 i0 i1 i2 i3 i4 x9 x11 x13 x14 x16 (1 : Int32) x19 v166 v155 v247 v255 (own_hr v166 v155)) [(.long v255), (.long v247), (.ref b279), (.ref b279)])) _
            refine XS.lload X279.here hx rfl (hb hby at_432) rfl ?_
            show Steps p.tables e below (T279.setTop (mkF m 434 (own_L14 i0 i1 i2 i3 i4 x9 x11 x13 x14 x16 (1 : Int32) x19 v166 v155 v247 v255 (own_hr v166 v155)) [(.long i3), (.long v255), (.long v247), (.ref b279), (.ref b279)])) _
            refine XS.lload X279.here hx rfl (hb hby at_434) rfl ?_
            show Steps p.tables e below (T279.setTop (mkF m 436 (own_L14 i0 i1 i2 i3 i4 x9 x11 x13 x14 x16 (1 : Int32) x19 v166 v155 v247 v255 (own_hr v166 v155)) [(.long i2), (.long i3), (.long v255), (.long v247), (.ref b279), (.ref b279)])) _
            refine XS.lloadN X279.here hx rfl (hb hby at_436) rfl ?_
            show Steps p.tables e below (T279.setTop (mkF m 437 (own_L14 i0 i1 i2 i3 i4 x9 x11 x13 x14 x16 (1 : Int32) x19 v166 v155 v247 v255 (own_hr v166 v155)) [(.long i1), (.long i2), (.long i3), (.long v255), (.long v247), (.ref b279), (.ref b279)])) _
            refine XS.lloadN X279.here hx rfl (hb hby at_437) rfl ?_
            exact k)
          obtain ⟨_, _, ⟨T292, L292, k292, n292⟩, -, X292, ⟨Lc292, hQ292, l292, y292, z292⟩, st292⟩ := X279.specialBack hx (y := (⟨"com/example/tinyward/tinyward/CacheStats", "<init>", "(JJJJJJ)V"⟩ : MethodName)) rfl hown (mvT hZ (hw _ (List.mem_of_getElem? (i := 4) rfl))) (mvT hZ (hw _ (List.mem_of_getElem? (i := 5) rfl))) (mvT hZ (hw _ (List.mem_of_getElem? (i := 6) rfl))) (by decide) (backOf (W := 1) (rm1 l Z a0 hw [] b279 v247 v255 i3 i2 i1 i0 h279 n0 Z_280 A279 F_284 F_285 F_286 F_287 F_288 F_289 g_b279) hZ (hw _ (List.mem_of_getElem? (i := 6) rfl)) (hw _ (List.mem_of_getElem? (i := 3) rfl)) (by decide) (by decide)) (g := (mkF m 438 (own_L14 i0 i1 i2 i3 i4 x9 x11 x13 x14 x16 (1 : Int32) x19 v166 v155 v247 v255 (own_hr v166 v155)) [(.long i0), (.long i1), (.long i2), (.long i3), (.long v255), (.long v247), (.ref b279), (.ref b279)])) rfl (by rw [hml]; rfl) (Steps.refl _) (a := b279) (argsL := [(.long v247), (.long v255), (.long i3), (.long i2), (.long i1), (.long i0)]) (rest := [(.ref b279)]) (lenOf pd_1 rfl) rfl (by show 2 * 0 + _ ≤ _; exact Nat.le_of_eq rfl) (hb hby at_438) (fun _ _ => ⟨rfl, e279, (by decide : (0 + 1 + 0 + 0 + 1 + 0 + 0 + 1) + 0 ≤ _), (by decide : (0 + 6 + 0 + 0 + 6 + 0 + 0 + 6) + 0 ≤ _)⟩)
          dsimp only [Pt.U, Pt.locs, Pt.cells, Pt.slots] at X292 l292 y292 z292 st292 hQ292
          subst l292 y292 z292
          obtain ⟨rfl, N292q, K292q, E292q, F292q0, F292q1⟩ := hQ292
          have N292 := Fr.app N276 N292q
          have Z_293 : n0 ≤ T292.heap.size := Nat.le_trans Z_280 K292q.1
          have E_294 : Exa Z T292.heap b262 "com/example/tinyward/tinyward/CacheStats" := E_281.keep K292q
          have F_295 : Fld Z T292.heap b262 "com/example/tinyward/tinyward/CacheStats" "hitCount" "J" (.long v166) := F_282.keep K292q (ninS ne_b262_b279 nin0)
          have F_296 : Fld Z T292.heap b262 "com/example/tinyward/tinyward/CacheStats" "missCount" "J" (.long v155) := F_283.keep K292q (ninS ne_b262_b279 nin0)
          have E_297 : Exa Z T292.heap b279 "com/example/tinyward/tinyward/CacheStats" := A279.keep K292q
          have P298 : own_Rch p.tables e below A0 (T292.setTop (mkF m 441 (own_L14 i0 i1 i2 i3 i4 x9 x11 x13 x14 x16 (1 : Int32) x19 v166 v155 v247 v255 (own_hr v166 v155)) [(.ref b279)])) := fun t k => P291 t (st292.trans k)
          obtain ⟨cq299, kq299, q299a, q299b, q299c⟩ := isOf hZ rfl E_297
          obtain ⟨_, _, ⟨T299, L299, k299, n299⟩, -, X299, ⟨Lc299, hQ299, l299, y299, z299⟩, st299⟩ := X292.virtualBack hx (y := (⟨"com/example/tinyward/tinyward/CacheStats", "hitRate", "()D"⟩ : MethodName)) (z := (⟨"com/example/tinyward/tinyward/CacheStats", "hitRate", "()D"⟩ : MethodName)) hown (mvT hZ (hw _ (List.mem_of_getElem? (i := 27) rfl))) (mvT hZ (hw _ (List.mem_of_getElem? (i := 28) rfl))) (notFace_of_selects (args := #[]) (mvT hZ (hw _ (List.mem_of_getElem? (i := 30) rfl)))) (mvT hZ (hw _ (List.mem_of_getElem? (i := 30) rfl))) (mvT hZ (hw _ (List.mem_of_getElem? (i := 29) rfl))) (by decide) (backOf (W := 0) (rm4 l Z a0 hw [] b279 v247 v255 T292.heap n0 Z_293 F292q0 F292q1 (fun z => own_nn (n := v247 + v255) bb_v247.1 (by have := own_add64 bb_v247.1 bb_v255.1 (by omega) (by omega); omega) z)) hZ (hw _ (List.mem_of_getElem? (i := 31) rfl)) (hw _ (List.mem_of_getElem? (i := 3) rfl)) (by decide) (by decide)) q299a q299c (g := (mkF m 441 (own_L14 i0 i1 i2 i3 i4 x9 x11 x13 x14 x16 (1 : Int32) x19 v166 v155 v247 v255 (own_hr v166 v155)) [(.ref b279)])) rfl (by rw [hml]; rfl) (Steps.refl _) (argsL := []) (rest := []) (lenOf pd_2 rfl) rfl (by show 2 * 0 + _ ≤ _; exact Nat.le_of_eq rfl) (hb hby at_441) (fun _ _ => ⟨rfl, rfl, (by decide : (0 + 1 + 0 + 0 + 1 + 0 + 0 + 1 + 0) + 0 ≤ _), (by decide : (0 + 6 + 0 + 0 + 6 + 0 + 0 + 6 + 0) + 0 ≤ _)⟩)
          dsimp only [Pt.U, Pt.locs, Pt.cells, Pt.slots] at X299 l299 y299 z299 st299 hQ299
          subst l299 y299 z299
          obtain ⟨rfl, N299q, e299⟩ := hQ299
          have N299 := Fr.app N292 N299q
          have P300 : own_Rch p.tables e below A0 (T299.setTop (mkF m 444 (own_L14 i0 i1 i2 i3 i4 x9 x11 x13 x14 x16 (1 : Int32) x19 v166 v155 v247 v255 (own_hr v166 v155)) [(.double (own_hr v247 v255))])) := fun t k => P298 t (st299.trans k)
          have P301 : own_Rch p.tables e below A0 (T299.setTop (mkF m 453 (own_L16 i0 i1 i2 i3 i4 x9 x11 x13 x14 x16 (1 : Int32) x19 v166 v155 v247 v255 (own_hr v166 v155) (own_hr v247 v255) (v166 * v255)) [])) := fun t k => P300 t (by
            show Steps p.tables e below (T299.setTop (mkF m 444 (own_L14 i0 i1 i2 i3 i4 x9 x11 x13 x14 x16 (1 : Int32) x19 v166 v155 v247 v255 (own_hr v166 v155)) [(.double (own_hr v247 v255))])) _
            refine XS.dstore X299.here hx rfl (hb hby at_444) rfl (l' := (own_L15 i0 i1 i2 i3 i4 x9 x11 x13 x14 x16 (1 : Int32) x19 v166 v155 v247 v255 (own_hr v166 v155) (own_hr v247 v255))) rfl ?_
            show Steps p.tables e below (T299.setTop (mkF m 446 (own_L15 i0 i1 i2 i3 i4 x9 x11 x13 x14 x16 (1 : Int32) x19 v166 v155 v247 v255 (own_hr v166 v155) (own_hr v247 v255)) [])) _
            refine XS.lload X299.here hx rfl (hb hby at_446) rfl ?_
            show Steps p.tables e below (T299.setTop (mkF m 448 (own_L15 i0 i1 i2 i3 i4 x9 x11 x13 x14 x16 (1 : Int32) x19 v166 v155 v247 v255 (own_hr v166 v155) (own_hr v247 v255)) [(.long v166)])) _
            refine XS.lload X299.here hx rfl (hb hby at_448) rfl ?_
            show Steps p.tables e below (T299.setTop (mkF m 450 (own_L15 i0 i1 i2 i3 i4 x9 x11 x13 x14 x16 (1 : Int32) x19 v166 v155 v247 v255 (own_hr v166 v155) (own_hr v247 v255)) [(.long v255), (.long v166)])) _
            refine XS.lmul X299.here hx rfl (hb hby at_450) rfl ?_
            show Steps p.tables e below (T299.setTop (mkF m 451 (own_L15 i0 i1 i2 i3 i4 x9 x11 x13 x14 x16 (1 : Int32) x19 v166 v155 v247 v255 (own_hr v166 v155) (own_hr v247 v255)) [(.long (v166 * v255))])) _
            refine XS.lstore X299.here hx rfl (hb hby at_451) rfl (l' := (own_L16 i0 i1 i2 i3 i4 x9 x11 x13 x14 x16 (1 : Int32) x19 v166 v155 v247 v255 (own_hr v166 v155) (own_hr v247 v255) (v166 * v255))) rfl ?_
            exact k)
          obtain ⟨v302, hv302, P303⟩ : ∃ z : Int64, z = (v166 * v255) ∧ own_Rch p.tables e below A0 (T299.setTop (mkF m 453 (own_L16 i0 i1 i2 i3 i4 x9 x11 x13 x14 x16 (1 : Int32) x19 v166 v155 v247 v255 (own_hr v166 v155) (own_hr v247 v255) z) [])) := ⟨_, rfl, P301⟩
          have P304 : own_Rch p.tables e below A0 (T299.setTop (mkF m 460 (own_L17 i0 i1 i2 i3 i4 x9 x11 x13 x14 x16 (1 : Int32) x19 v166 v155 v247 v255 (own_hr v166 v155) (own_hr v247 v255) v302 (v247 * v155)) [])) := fun t k => P303 t (by
            show Steps p.tables e below (T299.setTop (mkF m 453 (own_L16 i0 i1 i2 i3 i4 x9 x11 x13 x14 x16 (1 : Int32) x19 v166 v155 v247 v255 (own_hr v166 v155) (own_hr v247 v255) v302) [])) _
            refine XS.lload X299.here hx rfl (hb hby at_453) rfl ?_
            show Steps p.tables e below (T299.setTop (mkF m 455 (own_L16 i0 i1 i2 i3 i4 x9 x11 x13 x14 x16 (1 : Int32) x19 v166 v155 v247 v255 (own_hr v166 v155) (own_hr v247 v255) v302) [(.long v247)])) _
            refine XS.lload X299.here hx rfl (hb hby at_455) rfl ?_
            show Steps p.tables e below (T299.setTop (mkF m 457 (own_L16 i0 i1 i2 i3 i4 x9 x11 x13 x14 x16 (1 : Int32) x19 v166 v155 v247 v255 (own_hr v166 v155) (own_hr v247 v255) v302) [(.long v155), (.long v247)])) _
            refine XS.lmul X299.here hx rfl (hb hby at_457) rfl ?_
            show Steps p.tables e below (T299.setTop (mkF m 458 (own_L16 i0 i1 i2 i3 i4 x9 x11 x13 x14 x16 (1 : Int32) x19 v166 v155 v247 v255 (own_hr v166 v155) (own_hr v247 v255) v302) [(.long (v247 * v155))])) _
            refine XS.lstore X299.here hx rfl (hb hby at_458) rfl (l' := (own_L17 i0 i1 i2 i3 i4 x9 x11 x13 x14 x16 (1 : Int32) x19 v166 v155 v247 v255 (own_hr v166 v155) (own_hr v247 v255) v302 (v247 * v155))) rfl ?_
            exact k)
          obtain ⟨v305, hv305, P306⟩ : ∃ z : Int64, z = (v247 * v155) ∧ own_Rch p.tables e below A0 (T299.setTop (mkF m 460 (own_L17 i0 i1 i2 i3 i4 x9 x11 x13 x14 x16 (1 : Int32) x19 v166 v155 v247 v255 (own_hr v166 v155) (own_hr v247 v255) v302 z) [])) := ⟨_, rfl, P304⟩
          have hr2 : own_hr v166 v155 = FP.ddiv (FP.l2d v166) (FP.l2d (v166 + v155)) := by unfold own_hr; rw [if_neg (own_lt_nz hc257)]
          have hr3 : own_hr v247 v255 = FP.ddiv (FP.l2d v247) (FP.l2d (v247 + v255)) := by unfold own_hr; rw [if_neg (own_lt_nz hc259)]
          have FX := own_F bb_v166.1 bb_v155.1 (by omega) (by omega) bb_v247.1 bb_v255.1 (by omega) (by omega) (own_lt_nz hc257) (own_lt_nz hc259)
          rw [← hr2, ← hr3] at FX
          obtain ⟨p1, -, -⟩ := own_mul64 bb_v166.1 bb_v166.2 bb_v255.1 bb_v255.2 (by decide)
          rw [← hv302] at p1
          obtain ⟨p2, -, -⟩ := own_mul64 bb_v247.1 bb_v247.2 bb_v155.1 bb_v155.2 (by decide)
          rw [← hv305] at p2
          have P308 : own_Rch p.tables e below A0 (T299.setTop (mkF m 465 (own_L17 i0 i1 i2 i3 i4 x9 x11 x13 x14 x16 (1 : Int32) x19 v166 v155 v247 v255 (own_hr v166 v155) (own_hr v247 v255) v302 v305) [(.int (lcmpW v302 v305))])) := fun t k => P306 t (by
            show Steps p.tables e below (T299.setTop (mkF m 460 (own_L17 i0 i1 i2 i3 i4 x9 x11 x13 x14 x16 (1 : Int32) x19 v166 v155 v247 v255 (own_hr v166 v155) (own_hr v247 v255) v302 v305) [])) _
            refine XS.lload X299.here hx rfl (hb hby at_460) rfl ?_
            show Steps p.tables e below (T299.setTop (mkF m 462 (own_L17 i0 i1 i2 i3 i4 x9 x11 x13 x14 x16 (1 : Int32) x19 v166 v155 v247 v255 (own_hr v166 v155) (own_hr v247 v255) v302 v305) [(.long v302)])) _
            refine XS.lload X299.here hx rfl (hb hby at_462) rfl ?_
            show Steps p.tables e below (T299.setTop (mkF m 464 (own_L17 i0 i1 i2 i3 i4 x9 x11 x13 x14 x16 (1 : Int32) x19 v166 v155 v247 v255 (own_hr v166 v155) (own_hr v247 v255) v302 v305) [(.long v305), (.long v302)])) _
            refine XS.lcmp X299.here hx rfl (hb hby at_464) rfl ?_
            exact k)
          by_cases hc307 : v302 < v305
          · -- v302 < v305
            have P310 : own_Rch p.tables e below A0 (T299.setTop (mkF m 478 (own_L17 i0 i1 i2 i3 i4 x9 x11 x13 x14 x16 (1 : Int32) x19 v166 v155 v247 v255 (own_hr v166 v155) (own_hr v247 v255) v302 v305) [(.int (cmpValue (FP.dcmp (own_hr v166 v155) (own_hr v247 v255)) .g))])) := fun t k => P308 t (by
              show Steps p.tables e below (T299.setTop (mkF m 465 (own_L17 i0 i1 i2 i3 i4 x9 x11 x13 x14 x16 (1 : Int32) x19 v166 v155 v247 v255 (own_hr v166 v155) (own_hr v247 v255) v302 v305) [(.int (lcmpW v302 v305))])) _
              refine XS.ifNo X299.here hx rfl (hb hby at_465) rfl (own_lct1 hc307).2 ?_
              show Steps p.tables e below (T299.setTop (mkF m 468 (own_L17 i0 i1 i2 i3 i4 x9 x11 x13 x14 x16 (1 : Int32) x19 v166 v155 v247 v255 (own_hr v166 v155) (own_hr v247 v255) v302 v305) [])) _
              refine XS.iload X299.here hx rfl (hb hby at_468) rfl ?_
              show Steps p.tables e below (T299.setTop (mkF m 470 (own_L17 i0 i1 i2 i3 i4 x9 x11 x13 x14 x16 (1 : Int32) x19 v166 v155 v247 v255 (own_hr v166 v155) (own_hr v247 v255) v302 v305) [(.int (1 : Int32))])) _
              refine XS.ifNo X299.here hx rfl (hb hby at_470) rfl ((if0 _ _).trans (feq (by decide : ¬ ((1 : Int32) = (0 : Int32)))).1) ?_
              show Steps p.tables e below (T299.setTop (mkF m 473 (own_L17 i0 i1 i2 i3 i4 x9 x11 x13 x14 x16 (1 : Int32) x19 v166 v155 v247 v255 (own_hr v166 v155) (own_hr v247 v255) v302 v305) [])) _
              refine XS.dload X299.here hx rfl (hb hby at_473) rfl ?_
              show Steps p.tables e below (T299.setTop (mkF m 475 (own_L17 i0 i1 i2 i3 i4 x9 x11 x13 x14 x16 (1 : Int32) x19 v166 v155 v247 v255 (own_hr v166 v155) (own_hr v247 v255) v302 v305) [(.double (own_hr v166 v155))])) _
              refine XS.dload X299.here hx rfl (hb hby at_475) rfl ?_
              show Steps p.tables e below (T299.setTop (mkF m 477 (own_L17 i0 i1 i2 i3 i4 x9 x11 x13 x14 x16 (1 : Int32) x19 v166 v155 v247 v255 (own_hr v166 v155) (own_hr v247 v255) v302 v305) [(.double (own_hr v247 v255)), (.double (own_hr v166 v155))])) _
              refine XS.dcmpS X299.here hx rfl (hb hby at_477) rfl rfl ?_
              exact k)
            by_cases hc309 : (0 : Int32) < (cmpValue (FP.dcmp (own_hr v166 v155) (own_hr v247 v255)) .g)
            · -- (0 : Int32) < (cmpValue (FP.dcmp (own_hr v166 v155) (own_hr v247 v255)) .g)
              have P311 : own_Rch p.tables e below A0 (T299.setTop (mkF m 544 (own_L17 i0 i1 i2 i3 i4 x9 x11 x13 x14 x16 (0 : Int32) x19 v166 v155 v247 v255 (own_hr v166 v155) (own_hr v247 v255) v302 v305) [(.int (0 : Int32))])) := fun t k => P310 t (by
                show Steps p.tables e below (T299.setTop (mkF m 478 (own_L17 i0 i1 i2 i3 i4 x9 x11 x13 x14 x16 (1 : Int32) x19 v166 v155 v247 v255 (own_hr v166 v155) (own_hr v247 v255) v302 v305) [(.int (cmpValue (FP.dcmp (own_hr v166 v155) (own_hr v247 v255)) .g))])) _
                refine XS.ifYes X299.here hx rfl (pc0 := 478) (pc' := 485) rfl (hb hby at_478) rfl ((if0 _ _).trans (tlt hc309).2.2.1) (by decide) (by decide) ?_
                show Steps p.tables e below (T299.setTop (mkF m 485 (own_L17 i0 i1 i2 i3 i4 x9 x11 x13 x14 x16 (1 : Int32) x19 v166 v155 v247 v255 (own_hr v166 v155) (own_hr v247 v255) v302 v305) [])) _
                refine XS.iconst X299.here hx rfl (hb hby at_485) ?_
                show Steps p.tables e below (T299.setTop (mkF m 486 (own_L17 i0 i1 i2 i3 i4 x9 x11 x13 x14 x16 (1 : Int32) x19 v166 v155 v247 v255 (own_hr v166 v155) (own_hr v247 v255) v302 v305) [(.int (0 : Int32))])) _
                refine XS.istore X299.here hx rfl (hb hby at_486) rfl (l' := (own_L17 i0 i1 i2 i3 i4 x9 x11 x13 x14 x16 (0 : Int32) x19 v166 v155 v247 v255 (own_hr v166 v155) (own_hr v247 v255) v302 v305)) rfl ?_
                show Steps p.tables e below (T299.setTop (mkF m 488 (own_L17 i0 i1 i2 i3 i4 x9 x11 x13 x14 x16 (0 : Int32) x19 v166 v155 v247 v255 (own_hr v166 v155) (own_hr v247 v255) v302 v305) [])) _
                refine XS.goto X299.here hx rfl (pc0 := 488) (pc' := 542) rfl (hb hby at_488) (by decide) (by decide) ?_
                show Steps p.tables e below (T299.setTop (mkF m 542 (own_L17 i0 i1 i2 i3 i4 x9 x11 x13 x14 x16 (0 : Int32) x19 v166 v155 v247 v255 (own_hr v166 v155) (own_hr v247 v255) v302 v305) [])) _
                refine XS.iload X299.here hx rfl (hb hby at_542) rfl ?_
                exact k)
              obtain ⟨fs, hr, hrun, hended, hW, hsame⟩ := X299.leave (v := some (.int (nar .boolean (0 : Int32)))) (fun h => by rw [Bd.returns] at h; cases h)
              refine ⟨_, _, P00 _ (P311 _ ?_), hrun, hended, _, _, rfl, ?_, ⟨_, rfl⟩, hW, hsame.mono (by decide) (by decide)⟩
              · exact retN X299 hx (t := .boolean) Bd.returns (by simp) (hb hby at_544) hr
              · show Q0 Z i0 i1 i2 i3 i4 h0 n0 _ T299.heap _
                rw [e299]
                refine ⟨?_, N299⟩
                exact absurd hc309 (FX.1 (by have q := Int64.lt_iff_toInt_lt.mp hc307; omega))
            · -- not (0 : Int32) < (cmpValue (FP.dcmp (own_hr v166 v155) (own_hr v247 v255)) .g)
              have P312 : own_Rch p.tables e below A0 (T299.setTop (mkF m 544 (own_L17 i0 i1 i2 i3 i4 x9 x11 x13 x14 x16 (1 : Int32) x19 v166 v155 v247 v255 (own_hr v166 v155) (own_hr v247 v255) v302 v305) [(.int (1 : Int32))])) := fun t k => P310 t (by
                show Steps p.tables e below (T299.setTop (mkF m 478 (own_L17 i0 i1 i2 i3 i4 x9 x11 x13 x14 x16 (1 : Int32) x19 v166 v155 v247 v255 (own_hr v166 v155) (own_hr v247 v255) v302 v305) [(.int (cmpValue (FP.dcmp (own_hr v166 v155) (own_hr v247 v255)) .g))])) _
                refine XS.ifNo X299.here hx rfl (hb hby at_478) rfl ((if0 _ _).trans (flt hc309).2.2.1) ?_
                show Steps p.tables e below (T299.setTop (mkF m 481 (own_L17 i0 i1 i2 i3 i4 x9 x11 x13 x14 x16 (1 : Int32) x19 v166 v155 v247 v255 (own_hr v166 v155) (own_hr v247 v255) v302 v305) [])) _
                refine XS.iconst X299.here hx rfl (hb hby at_481) ?_
                show Steps p.tables e below (T299.setTop (mkF m 482 (own_L17 i0 i1 i2 i3 i4 x9 x11 x13 x14 x16 (1 : Int32) x19 v166 v155 v247 v255 (own_hr v166 v155) (own_hr v247 v255) v302 v305) [(.int (1 : Int32))])) _
                refine XS.goto X299.here hx rfl (pc0 := 482) (pc' := 486) rfl (hb hby at_482) (by decide) (by decide) ?_
                show Steps p.tables e below (T299.setTop (mkF m 486 (own_L17 i0 i1 i2 i3 i4 x9 x11 x13 x14 x16 (1 : Int32) x19 v166 v155 v247 v255 (own_hr v166 v155) (own_hr v247 v255) v302 v305) [(.int (1 : Int32))])) _
                refine XS.istore X299.here hx rfl (hb hby at_486) rfl (l' := (own_L17 i0 i1 i2 i3 i4 x9 x11 x13 x14 x16 (1 : Int32) x19 v166 v155 v247 v255 (own_hr v166 v155) (own_hr v247 v255) v302 v305)) rfl ?_
                show Steps p.tables e below (T299.setTop (mkF m 488 (own_L17 i0 i1 i2 i3 i4 x9 x11 x13 x14 x16 (1 : Int32) x19 v166 v155 v247 v255 (own_hr v166 v155) (own_hr v247 v255) v302 v305) [])) _
                refine XS.goto X299.here hx rfl (pc0 := 488) (pc' := 542) rfl (hb hby at_488) (by decide) (by decide) ?_
                show Steps p.tables e below (T299.setTop (mkF m 542 (own_L17 i0 i1 i2 i3 i4 x9 x11 x13 x14 x16 (1 : Int32) x19 v166 v155 v247 v255 (own_hr v166 v155) (own_hr v247 v255) v302 v305) [])) _
                refine XS.iload X299.here hx rfl (hb hby at_542) rfl ?_
                exact k)
              obtain ⟨fs, hr, hrun, hended, hW, hsame⟩ := X299.leave (v := some (.int (nar .boolean (1 : Int32)))) (fun h => by rw [Bd.returns] at h; cases h)
              refine ⟨_, _, P00 _ (P312 _ ?_), hrun, hended, _, _, rfl, ?_, ⟨_, rfl⟩, hW, hsame.mono (by decide) (by decide)⟩
              · exact retN X299 hx (t := .boolean) Bd.returns (by simp) (hb hby at_544) hr
              · show Q0 Z i0 i1 i2 i3 i4 h0 n0 _ T299.heap _
                rw [e299]
                refine ⟨?_, N299⟩
                rfl
          · -- not v302 < v305
            have P314 : own_Rch p.tables e below A0 (T299.setTop (mkF m 496 (own_L17 i0 i1 i2 i3 i4 x9 x11 x13 x14 x16 (1 : Int32) x19 v166 v155 v247 v255 (own_hr v166 v155) (own_hr v247 v255) v302 v305) [(.int (lcmpW v302 v305))])) := fun t k => P308 t (by
              show Steps p.tables e below (T299.setTop (mkF m 465 (own_L17 i0 i1 i2 i3 i4 x9 x11 x13 x14 x16 (1 : Int32) x19 v166 v155 v247 v255 (own_hr v166 v155) (own_hr v247 v255) v302 v305) [(.int (lcmpW v302 v305))])) _
              refine XS.ifYes X299.here hx rfl (pc0 := 465) (pc' := 491) rfl (hb hby at_465) rfl (own_lcf1 hc307).2 (by decide) (by decide) ?_
              show Steps p.tables e below (T299.setTop (mkF m 491 (own_L17 i0 i1 i2 i3 i4 x9 x11 x13 x14 x16 (1 : Int32) x19 v166 v155 v247 v255 (own_hr v166 v155) (own_hr v247 v255) v302 v305) [])) _
              refine XS.lload X299.here hx rfl (hb hby at_491) rfl ?_
              show Steps p.tables e below (T299.setTop (mkF m 493 (own_L17 i0 i1 i2 i3 i4 x9 x11 x13 x14 x16 (1 : Int32) x19 v166 v155 v247 v255 (own_hr v166 v155) (own_hr v247 v255) v302 v305) [(.long v302)])) _
              refine XS.lload X299.here hx rfl (hb hby at_493) rfl ?_
              show Steps p.tables e below (T299.setTop (mkF m 495 (own_L17 i0 i1 i2 i3 i4 x9 x11 x13 x14 x16 (1 : Int32) x19 v166 v155 v247 v255 (own_hr v166 v155) (own_hr v247 v255) v302 v305) [(.long v305), (.long v302)])) _
              refine XS.lcmp X299.here hx rfl (hb hby at_495) rfl ?_
              exact k)
            by_cases hc313 : v302 = v305
            · -- v302 = v305
              have P316 : own_Rch p.tables e below A0 (T299.setTop (mkF m 509 (own_L17 i0 i1 i2 i3 i4 x9 x11 x13 x14 x16 (1 : Int32) x19 v166 v155 v247 v255 (own_hr v166 v155) (own_hr v247 v255) v302 v305) [(.int (cmpValue (FP.dcmp (own_hr v166 v155) (own_hr v247 v255)) .l))])) := fun t k => P314 t (by
                show Steps p.tables e below (T299.setTop (mkF m 496 (own_L17 i0 i1 i2 i3 i4 x9 x11 x13 x14 x16 (1 : Int32) x19 v166 v155 v247 v255 (own_hr v166 v155) (own_hr v247 v255) v302 v305) [(.int (lcmpW v302 v305))])) _
                refine XS.ifNo X299.here hx rfl (hb hby at_496) rfl (own_lct3 hc313).2 ?_
                show Steps p.tables e below (T299.setTop (mkF m 499 (own_L17 i0 i1 i2 i3 i4 x9 x11 x13 x14 x16 (1 : Int32) x19 v166 v155 v247 v255 (own_hr v166 v155) (own_hr v247 v255) v302 v305) [])) _
                refine XS.iload X299.here hx rfl (hb hby at_499) rfl ?_
                show Steps p.tables e below (T299.setTop (mkF m 501 (own_L17 i0 i1 i2 i3 i4 x9 x11 x13 x14 x16 (1 : Int32) x19 v166 v155 v247 v255 (own_hr v166 v155) (own_hr v247 v255) v302 v305) [(.int (1 : Int32))])) _
                refine XS.ifNo X299.here hx rfl (hb hby at_501) rfl ((if0 _ _).trans (feq (by decide : ¬ ((1 : Int32) = (0 : Int32)))).1) ?_
                show Steps p.tables e below (T299.setTop (mkF m 504 (own_L17 i0 i1 i2 i3 i4 x9 x11 x13 x14 x16 (1 : Int32) x19 v166 v155 v247 v255 (own_hr v166 v155) (own_hr v247 v255) v302 v305) [])) _
                refine XS.dload X299.here hx rfl (hb hby at_504) rfl ?_
                show Steps p.tables e below (T299.setTop (mkF m 506 (own_L17 i0 i1 i2 i3 i4 x9 x11 x13 x14 x16 (1 : Int32) x19 v166 v155 v247 v255 (own_hr v166 v155) (own_hr v247 v255) v302 v305) [(.double (own_hr v166 v155))])) _
                refine XS.dload X299.here hx rfl (hb hby at_506) rfl ?_
                show Steps p.tables e below (T299.setTop (mkF m 508 (own_L17 i0 i1 i2 i3 i4 x9 x11 x13 x14 x16 (1 : Int32) x19 v166 v155 v247 v255 (own_hr v166 v155) (own_hr v247 v255) v302 v305) [(.double (own_hr v247 v255)), (.double (own_hr v166 v155))])) _
                refine XS.dcmpS X299.here hx rfl (hb hby at_508) rfl rfl ?_
                exact k)
              by_cases hc315 : (cmpValue (FP.dcmp (own_hr v166 v155) (own_hr v247 v255)) .l) = (0 : Int32)
              · -- (cmpValue (FP.dcmp (own_hr v166 v155) (own_hr v247 v255)) .l) = (0 : Int32)
                have P317 : own_Rch p.tables e below A0 (T299.setTop (mkF m 544 (own_L17 i0 i1 i2 i3 i4 x9 x11 x13 x14 x16 (1 : Int32) x19 v166 v155 v247 v255 (own_hr v166 v155) (own_hr v247 v255) v302 v305) [(.int (1 : Int32))])) := fun t k => P316 t (by
                  show Steps p.tables e below (T299.setTop (mkF m 509 (own_L17 i0 i1 i2 i3 i4 x9 x11 x13 x14 x16 (1 : Int32) x19 v166 v155 v247 v255 (own_hr v166 v155) (own_hr v247 v255) v302 v305) [(.int (cmpValue (FP.dcmp (own_hr v166 v155) (own_hr v247 v255)) .l))])) _
                  refine XS.ifNo X299.here hx rfl (hb hby at_509) rfl ((if0 _ _).trans (teq hc315).2) ?_
                  show Steps p.tables e below (T299.setTop (mkF m 512 (own_L17 i0 i1 i2 i3 i4 x9 x11 x13 x14 x16 (1 : Int32) x19 v166 v155 v247 v255 (own_hr v166 v155) (own_hr v247 v255) v302 v305) [])) _
                  refine XS.iconst X299.here hx rfl (hb hby at_512) ?_
                  show Steps p.tables e below (T299.setTop (mkF m 513 (own_L17 i0 i1 i2 i3 i4 x9 x11 x13 x14 x16 (1 : Int32) x19 v166 v155 v247 v255 (own_hr v166 v155) (own_hr v247 v255) v302 v305) [(.int (1 : Int32))])) _
                  refine XS.goto X299.here hx rfl (pc0 := 513) (pc' := 517) rfl (hb hby at_513) (by decide) (by decide) ?_
                  show Steps p.tables e below (T299.setTop (mkF m 517 (own_L17 i0 i1 i2 i3 i4 x9 x11 x13 x14 x16 (1 : Int32) x19 v166 v155 v247 v255 (own_hr v166 v155) (own_hr v247 v255) v302 v305) [(.int (1 : Int32))])) _
                  refine XS.istore X299.here hx rfl (hb hby at_517) rfl (l' := (own_L17 i0 i1 i2 i3 i4 x9 x11 x13 x14 x16 (1 : Int32) x19 v166 v155 v247 v255 (own_hr v166 v155) (own_hr v247 v255) v302 v305)) rfl ?_
                  show Steps p.tables e below (T299.setTop (mkF m 519 (own_L17 i0 i1 i2 i3 i4 x9 x11 x13 x14 x16 (1 : Int32) x19 v166 v155 v247 v255 (own_hr v166 v155) (own_hr v247 v255) v302 v305) [])) _
                  refine XS.goto X299.here hx rfl (pc0 := 519) (pc' := 542) rfl (hb hby at_519) (by decide) (by decide) ?_
                  show Steps p.tables e below (T299.setTop (mkF m 542 (own_L17 i0 i1 i2 i3 i4 x9 x11 x13 x14 x16 (1 : Int32) x19 v166 v155 v247 v255 (own_hr v166 v155) (own_hr v247 v255) v302 v305) [])) _
                  refine XS.iload X299.here hx rfl (hb hby at_542) rfl ?_
                  exact k)
                obtain ⟨fs, hr, hrun, hended, hW, hsame⟩ := X299.leave (v := some (.int (nar .boolean (1 : Int32)))) (fun h => by rw [Bd.returns] at h; cases h)
                refine ⟨_, _, P00 _ (P317 _ ?_), hrun, hended, _, _, rfl, ?_, ⟨_, rfl⟩, hW, hsame.mono (by decide) (by decide)⟩
                · exact retN X299 hx (t := .boolean) Bd.returns (by simp) (hb hby at_544) hr
                · show Q0 Z i0 i1 i2 i3 i4 h0 n0 _ T299.heap _
                  rw [e299]
                  refine ⟨?_, N299⟩
                  rfl
              · -- not (cmpValue (FP.dcmp (own_hr v166 v155) (own_hr v247 v255)) .l) = (0 : Int32)
                have P318 : own_Rch p.tables e below A0 (T299.setTop (mkF m 544 (own_L17 i0 i1 i2 i3 i4 x9 x11 x13 x14 x16 (0 : Int32) x19 v166 v155 v247 v255 (own_hr v166 v155) (own_hr v247 v255) v302 v305) [(.int (0 : Int32))])) := fun t k => P316 t (by
                  show Steps p.tables e below (T299.setTop (mkF m 509 (own_L17 i0 i1 i2 i3 i4 x9 x11 x13 x14 x16 (1 : Int32) x19 v166 v155 v247 v255 (own_hr v166 v155) (own_hr v247 v255) v302 v305) [(.int (cmpValue (FP.dcmp (own_hr v166 v155) (own_hr v247 v255)) .l))])) _
                  refine XS.ifYes X299.here hx rfl (pc0 := 509) (pc' := 516) rfl (hb hby at_509) rfl ((if0 _ _).trans (feq hc315).2) (by decide) (by decide) ?_
                  show Steps p.tables e below (T299.setTop (mkF m 516 (own_L17 i0 i1 i2 i3 i4 x9 x11 x13 x14 x16 (1 : Int32) x19 v166 v155 v247 v255 (own_hr v166 v155) (own_hr v247 v255) v302 v305) [])) _
                  refine XS.iconst X299.here hx rfl (hb hby at_516) ?_
                  show Steps p.tables e below (T299.setTop (mkF m 517 (own_L17 i0 i1 i2 i3 i4 x9 x11 x13 x14 x16 (1 : Int32) x19 v166 v155 v247 v255 (own_hr v166 v155) (own_hr v247 v255) v302 v305) [(.int (0 : Int32))])) _
                  refine XS.istore X299.here hx rfl (hb hby at_517) rfl (l' := (own_L17 i0 i1 i2 i3 i4 x9 x11 x13 x14 x16 (0 : Int32) x19 v166 v155 v247 v255 (own_hr v166 v155) (own_hr v247 v255) v302 v305)) rfl ?_
                  show Steps p.tables e below (T299.setTop (mkF m 519 (own_L17 i0 i1 i2 i3 i4 x9 x11 x13 x14 x16 (0 : Int32) x19 v166 v155 v247 v255 (own_hr v166 v155) (own_hr v247 v255) v302 v305) [])) _
                  refine XS.goto X299.here hx rfl (pc0 := 519) (pc' := 542) rfl (hb hby at_519) (by decide) (by decide) ?_
                  show Steps p.tables e below (T299.setTop (mkF m 542 (own_L17 i0 i1 i2 i3 i4 x9 x11 x13 x14 x16 (0 : Int32) x19 v166 v155 v247 v255 (own_hr v166 v155) (own_hr v247 v255) v302 v305) [])) _
                  refine XS.iload X299.here hx rfl (hb hby at_542) rfl ?_
                  exact k)
                obtain ⟨fs, hr, hrun, hended, hW, hsame⟩ := X299.leave (v := some (.int (nar .boolean (0 : Int32)))) (fun h => by rw [Bd.returns] at h; cases h)
                refine ⟨_, _, P00 _ (P318 _ ?_), hrun, hended, _, _, rfl, ?_, ⟨_, rfl⟩, hW, hsame.mono (by decide) (by decide)⟩
                · exact retN X299 hx (t := .boolean) Bd.returns (by simp) (hb hby at_544) hr
                · show Q0 Z i0 i1 i2 i3 i4 h0 n0 _ T299.heap _
                  rw [e299]
                  refine ⟨?_, N299⟩
                  exact absurd (FX.2.1 (by have q := congrArg Int64.toInt hc313; omega)) hc315
            · -- not v302 = v305
              have P320 : own_Rch p.tables e below A0 (T299.setTop (mkF m 532 (own_L17 i0 i1 i2 i3 i4 x9 x11 x13 x14 x16 (1 : Int32) x19 v166 v155 v247 v255 (own_hr v166 v155) (own_hr v247 v255) v302 v305) [(.int (cmpValue (FP.dcmp (own_hr v166 v155) (own_hr v247 v255)) .l))])) := fun t k => P314 t (by
                show Steps p.tables e below (T299.setTop (mkF m 496 (own_L17 i0 i1 i2 i3 i4 x9 x11 x13 x14 x16 (1 : Int32) x19 v166 v155 v247 v255 (own_hr v166 v155) (own_hr v247 v255) v302 v305) [(.int (lcmpW v302 v305))])) _
                refine XS.ifYes X299.here hx rfl (pc0 := 496) (pc' := 522) rfl (hb hby at_496) rfl (own_lcf3 hc313).2 (by decide) (by decide) ?_
                show Steps p.tables e below (T299.setTop (mkF m 522 (own_L17 i0 i1 i2 i3 i4 x9 x11 x13 x14 x16 (1 : Int32) x19 v166 v155 v247 v255 (own_hr v166 v155) (own_hr v247 v255) v302 v305) [])) _
                refine XS.iload X299.here hx rfl (hb hby at_522) rfl ?_
                show Steps p.tables e below (T299.setTop (mkF m 524 (own_L17 i0 i1 i2 i3 i4 x9 x11 x13 x14 x16 (1 : Int32) x19 v166 v155 v247 v255 (own_hr v166 v155) (own_hr v247 v255) v302 v305) [(.int (1 : Int32))])) _
                refine XS.ifNo X299.here hx rfl (hb hby at_524) rfl ((if0 _ _).trans (feq (by decide : ¬ ((1 : Int32) = (0 : Int32)))).1) ?_
                show Steps p.tables e below (T299.setTop (mkF m 527 (own_L17 i0 i1 i2 i3 i4 x9 x11 x13 x14 x16 (1 : Int32) x19 v166 v155 v247 v255 (own_hr v166 v155) (own_hr v247 v255) v302 v305) [])) _
                refine XS.dload X299.here hx rfl (hb hby at_527) rfl ?_
                show Steps p.tables e below (T299.setTop (mkF m 529 (own_L17 i0 i1 i2 i3 i4 x9 x11 x13 x14 x16 (1 : Int32) x19 v166 v155 v247 v255 (own_hr v166 v155) (own_hr v247 v255) v302 v305) [(.double (own_hr v166 v155))])) _
                refine XS.dload X299.here hx rfl (hb hby at_529) rfl ?_
                show Steps p.tables e below (T299.setTop (mkF m 531 (own_L17 i0 i1 i2 i3 i4 x9 x11 x13 x14 x16 (1 : Int32) x19 v166 v155 v247 v255 (own_hr v166 v155) (own_hr v247 v255) v302 v305) [(.double (own_hr v247 v255)), (.double (own_hr v166 v155))])) _
                refine XS.dcmpS X299.here hx rfl (hb hby at_531) rfl rfl ?_
                exact k)
              by_cases hc319 : (cmpValue (FP.dcmp (own_hr v166 v155) (own_hr v247 v255)) .l) < (0 : Int32)
              · -- (cmpValue (FP.dcmp (own_hr v166 v155) (own_hr v247 v255)) .l) < (0 : Int32)
                have P321 : own_Rch p.tables e below A0 (T299.setTop (mkF m 544 (own_L17 i0 i1 i2 i3 i4 x9 x11 x13 x14 x16 (0 : Int32) x19 v166 v155 v247 v255 (own_hr v166 v155) (own_hr v247 v255) v302 v305) [(.int (0 : Int32))])) := fun t k => P320 t (by
                  show Steps p.tables e below (T299.setTop (mkF m 532 (own_L17 i0 i1 i2 i3 i4 x9 x11 x13 x14 x16 (1 : Int32) x19 v166 v155 v247 v255 (own_hr v166 v155) (own_hr v247 v255) v302 v305) [(.int (cmpValue (FP.dcmp (own_hr v166 v155) (own_hr v247 v255)) .l))])) _
                  refine XS.ifYes X299.here hx rfl (pc0 := 532) (pc' := 539) rfl (hb hby at_532) rfl ((if0 _ _).trans (tlt hc319).1) (by decide) (by decide) ?_
                  show Steps p.tables e below (T299.setTop (mkF m 539 (own_L17 i0 i1 i2 i3 i4 x9 x11 x13 x14 x16 (1 : Int32) x19 v166 v155 v247 v255 (own_hr v166 v155) (own_hr v247 v255) v302 v305) [])) _
                  refine XS.iconst X299.here hx rfl (hb hby at_539) ?_
                  show Steps p.tables e below (T299.setTop (mkF m 540 (own_L17 i0 i1 i2 i3 i4 x9 x11 x13 x14 x16 (1 : Int32) x19 v166 v155 v247 v255 (own_hr v166 v155) (own_hr v247 v255) v302 v305) [(.int (0 : Int32))])) _
                  refine XS.istore X299.here hx rfl (hb hby at_540) rfl (l' := (own_L17 i0 i1 i2 i3 i4 x9 x11 x13 x14 x16 (0 : Int32) x19 v166 v155 v247 v255 (own_hr v166 v155) (own_hr v247 v255) v302 v305)) rfl ?_
                  show Steps p.tables e below (T299.setTop (mkF m 542 (own_L17 i0 i1 i2 i3 i4 x9 x11 x13 x14 x16 (0 : Int32) x19 v166 v155 v247 v255 (own_hr v166 v155) (own_hr v247 v255) v302 v305) [])) _
                  refine XS.iload X299.here hx rfl (hb hby at_542) rfl ?_
                  exact k)
                obtain ⟨fs, hr, hrun, hended, hW, hsame⟩ := X299.leave (v := some (.int (nar .boolean (0 : Int32)))) (fun h => by rw [Bd.returns] at h; cases h)
                refine ⟨_, _, P00 _ (P321 _ ?_), hrun, hended, _, _, rfl, ?_, ⟨_, rfl⟩, hW, hsame.mono (by decide) (by decide)⟩
                · exact retN X299 hx (t := .boolean) Bd.returns (by simp) (hb hby at_544) hr
                · show Q0 Z i0 i1 i2 i3 i4 h0 n0 _ T299.heap _
                  rw [e299]
                  refine ⟨?_, N299⟩
                  exact absurd hc319 (FX.2.2 (by have q : ¬ v302.toInt < v305.toInt := fun q => hc307 (Int64.lt_iff_toInt_lt.mpr q); omega))
              · -- not (cmpValue (FP.dcmp (own_hr v166 v155) (own_hr v247 v255)) .l) < (0 : Int32)
                have P322 : own_Rch p.tables e below A0 (T299.setTop (mkF m 544 (own_L17 i0 i1 i2 i3 i4 x9 x11 x13 x14 x16 (1 : Int32) x19 v166 v155 v247 v255 (own_hr v166 v155) (own_hr v247 v255) v302 v305) [(.int (1 : Int32))])) := fun t k => P320 t (by
                  show Steps p.tables e below (T299.setTop (mkF m 532 (own_L17 i0 i1 i2 i3 i4 x9 x11 x13 x14 x16 (1 : Int32) x19 v166 v155 v247 v255 (own_hr v166 v155) (own_hr v247 v255) v302 v305) [(.int (cmpValue (FP.dcmp (own_hr v166 v155) (own_hr v247 v255)) .l))])) _
                  refine XS.ifNo X299.here hx rfl (hb hby at_532) rfl ((if0 _ _).trans (flt hc319).1) ?_
                  show Steps p.tables e below (T299.setTop (mkF m 535 (own_L17 i0 i1 i2 i3 i4 x9 x11 x13 x14 x16 (1 : Int32) x19 v166 v155 v247 v255 (own_hr v166 v155) (own_hr v247 v255) v302 v305) [])) _
                  refine XS.iconst X299.here hx rfl (hb hby at_535) ?_
                  show Steps p.tables e below (T299.setTop (mkF m 536 (own_L17 i0 i1 i2 i3 i4 x9 x11 x13 x14 x16 (1 : Int32) x19 v166 v155 v247 v255 (own_hr v166 v155) (own_hr v247 v255) v302 v305) [(.int (1 : Int32))])) _
                  refine XS.goto X299.here hx rfl (pc0 := 536) (pc' := 540) rfl (hb hby at_536) (by decide) (by decide) ?_
                  show Steps p.tables e below (T299.setTop (mkF m 540 (own_L17 i0 i1 i2 i3 i4 x9 x11 x13 x14 x16 (1 : Int32) x19 v166 v155 v247 v255 (own_hr v166 v155) (own_hr v247 v255) v302 v305) [(.int (1 : Int32))])) _
                  refine XS.istore X299.here hx rfl (hb hby at_540) rfl (l' := (own_L17 i0 i1 i2 i3 i4 x9 x11 x13 x14 x16 (1 : Int32) x19 v166 v155 v247 v255 (own_hr v166 v155) (own_hr v247 v255) v302 v305)) rfl ?_
                  show Steps p.tables e below (T299.setTop (mkF m 542 (own_L17 i0 i1 i2 i3 i4 x9 x11 x13 x14 x16 (1 : Int32) x19 v166 v155 v247 v255 (own_hr v166 v155) (own_hr v247 v255) v302 v305) [])) _
                  refine XS.iload X299.here hx rfl (hb hby at_542) rfl ?_
                  exact k)
                obtain ⟨fs, hr, hrun, hended, hW, hsame⟩ := X299.leave (v := some (.int (nar .boolean (1 : Int32)))) (fun h => by rw [Bd.returns] at h; cases h)
                refine ⟨_, _, P00 _ (P322 _ ?_), hrun, hended, _, _, rfl, ?_, ⟨_, rfl⟩, hW, hsame.mono (by decide) (by decide)⟩
                · exact retN X299 hx (t := .boolean) Bd.returns (by simp) (hb hby at_544) hr
                · show Q0 Z i0 i1 i2 i3 i4 h0 n0 _ T299.heap _
                  rw [e299]
                  refine ⟨?_, N299⟩
                  rfl
        · -- not (0 : Int64) < (v247 + v255)
          have P323 : own_Rch p.tables e below A0 (Tt.setTop (mkF m 544 (own_L18 i0 i1 i2 i3 i4 x9 x11 x13 x14 x16 (1 : Int32) x19 v166 v155 v247 v255 v244) [(.int (1 : Int32))])) := fun t k => P260 t (by
            show Steps p.tables e below (Tt.setTop (mkF m 399 (own_L18 i0 i1 i2 i3 i4 x9 x11 x13 x14 x16 (1 : Int32) x19 v166 v155 v247 v255 v244) [(.int (lcmpW (v247 + v255) (0 : Int64)))])) _
            refine XS.ifYes Xt.here hx rfl (pc0 := 399) (pc' := 542) rfl (hb hby at_399) rfl (own_lcf2 hc259).2 (by decide) (by decide) ?_
            show Steps p.tables e below (Tt.setTop (mkF m 542 (own_L18 i0 i1 i2 i3 i4 x9 x11 x13 x14 x16 (1 : Int32) x19 v166 v155 v247 v255 v244) [])) _
            refine XS.iload Xt.here hx rfl (hb hby at_542) rfl ?_
            exact k)
          obtain ⟨fs, hr, hrun, hended, hW, hsame⟩ := Xt.leave (v := some (.int (nar .boolean (1 : Int32)))) (fun h => by rw [Bd.returns] at h; cases h)
          refine ⟨_, _, P00 _ (P323 _ ?_), hrun, hended, _, _, rfl, ?_, ⟨_, rfl⟩, hW, hsame.mono (by decide) (by decide)⟩
          · exact retN Xt hx (t := .boolean) Bd.returns (by simp) (hb hby at_544) hr
          · show Q0 Z i0 i1 i2 i3 i4 h0 n0 _ Tt.heap _
            rw [et]
            refine ⟨?_, Nt⟩
            rfl
      · -- not (0 : Int64) < (v166 + v155)
        have P324 : own_Rch p.tables e below A0 (Tt.setTop (mkF m 544 (own_L18 i0 i1 i2 i3 i4 x9 x11 x13 x14 x16 (1 : Int32) x19 v166 v155 v247 v255 v244) [(.int (1 : Int32))])) := fun t k => P258 t (by
          show Steps p.tables e below (Tt.setTop (mkF m 389 (own_L18 i0 i1 i2 i3 i4 x9 x11 x13 x14 x16 (1 : Int32) x19 v166 v155 v247 v255 v244) [(.int (lcmpW (v166 + v155) (0 : Int64)))])) _
          refine XS.ifYes Xt.here hx rfl (pc0 := 389) (pc' := 542) rfl (hb hby at_389) rfl (own_lcf2 hc257).2 (by decide) (by decide) ?_
          show Steps p.tables e below (Tt.setTop (mkF m 542 (own_L18 i0 i1 i2 i3 i4 x9 x11 x13 x14 x16 (1 : Int32) x19 v166 v155 v247 v255 v244) [])) _
          refine XS.iload Xt.here hx rfl (hb hby at_542) rfl ?_
          exact k)
        obtain ⟨fs, hr, hrun, hended, hW, hsame⟩ := Xt.leave (v := some (.int (nar .boolean (1 : Int32)))) (fun h => by rw [Bd.returns] at h; cases h)
        refine ⟨_, _, P00 _ (P324 _ ?_), hrun, hended, _, _, rfl, ?_, ⟨_, rfl⟩, hW, hsame.mono (by decide) (by decide)⟩
        · exact retN Xt hx (t := .boolean) Bd.returns (by simp) (hb hby at_544) hr
        · show Q0 Z i0 i1 i2 i3 i4 h0 n0 _ Tt.heap _
          rw [et]
          refine ⟨?_, Nt⟩
          rfl
set_option maxRecDepth 65536 in
set_option maxHeartbeats 40000000 in
theorem comes_1 {Post : Tables → Env → Array Value → State → Outcome → State → Prop} (hpost : ∀ tb e args s v u, (limb_1_1.after args s (.returned v) u = true ∧ limb_1_2.after args s (.returned v) u = true ∧ True) → FrameEnd s (.returned v) u (Jvm.fieldLocs frame_1_writes args s ++ Jvm.arrayLocs frame_1_arrays args s ++ Jvm.staticLocs frame_1_statics s) 16 128 → Post tb e args s (.returned v) u) :
    ArmFor flags0 classFile x code maxLocals ret World_1 tables_1 room_1 Calls_1 rest_1 Pre_1 Post := by
  intro l hfl _ _ p e ha hc hk s m args below hf hA hF happ hP
  obtain ⟨hcalls, hrest, hpre⟩ := hP
  obtain ⟨-, -, -, hnamed, -, -, -, hat⟩ := (Spec.applies_iff hf).mp happ
  obtain ⟨hg, hn⟩ := and_e (Cond.before_iff.mp (show (Jvm.Cond.and given_1 narrow_1).before args s = true from hpre))
  obtain ⟨ga0, gb0⟩ := and_e hg
  obtain ⟨ga1, gb1⟩ := and_e gb0
  obtain ⟨ga2, gb2⟩ := and_e gb1
  obtain ⟨ga3, gb3⟩ := and_e gb2
  obtain ⟨ga4, gb4⟩ := and_e gb3
  obtain ⟨w0, w1, w2, w3, w4, rfl⟩ : ∃ w0 w1 w2 w3 w4 : Value, args = #[w0, w1, w2, w3, w4] := by
    have hs : args.size = 5 := by simpa [Cond.value, given_1] using ga0
    obtain ⟨L⟩ := args
    match L, hs with
    | [w0, w1, w2, w3, w4], _ => exact ⟨w0, w1, w2, w3, w4, rfl⟩
  have hw := fun d (hd : d ∈ tables_1) => atoms_spec (ws := Jvm.Cond.code x code maxLocals ret :: tables_1) hat d (List.mem_cons_of_mem _ hd)
  have hfit : Fit s := fun {y c} hc i hi => by
    obtain ⟨ha, rfl⟩ := Array.getElem?_eq_some_iff.mp hc
    have q := List.all_eq_true.mp ((Array.all_eq_true_iff_forall_mem.mp hF) _ (Array.getElem_mem ha)) i (List.mem_range.mpr hi)
    simpa [Array.getElem?_eq_getElem hi] using q
  obtain ⟨i0, ei0⟩ := isL_v ga1
  obtain rfl : w0 = (.long i0) := Option.some.inj ei0
  obtain ⟨i1, ei1⟩ := isL_v ga2
  obtain rfl : w1 = (.long i1) := Option.some.inj ei1
  obtain ⟨i2, ei2⟩ := isL_v ga3
  obtain rfl : w2 = (.long i2) := Option.some.inj ei2
  obtain ⟨i3, ei3⟩ := isL_v ga4
  obtain rfl : w3 = (.long i3) := Option.some.inj ei3
  obtain ⟨i4, ei4⟩ := is_v gb4
  obtain rfl : w4 = (.int i4) := Option.some.inj ei4
  obtain ⟨n, o, h1, h2, h3, _, L, rfl, ⟨rfl, N⟩, hq⟩ := rm0 l s _ hw tables_1 i0 i1 i2 i3 i4  s.heap s.heap.size (Nat.le_refl _)  p e ha hc hk s m _ below hf ((Spec.applies_iff_loose hf).mp happ).1 ⟨rfl, State.Warmed39.refl s, rfl⟩ trivial
  refine ⟨n, _, h1, h2, h3, hpost _ _ _ _ _ _ ⟨Cond.after_iff.mpr rfl, Cond.after_iff.mpr (eq_i res_at (Term.int_eval (1)) rfl), trivial⟩ ⟨hq.1, hq.2.1, (hq.2.2.sift fun y hy => Or.inr (N y hy)).mono (by decide) (by decide)⟩⟩
theorem main_1_1 : Claimed_1_1 := comes_1 fun _ _ _ _ _ _ h hF => ⟨h.1, hF⟩
theorem main_1_2 : Claimed_1_2 := comes_1 fun _ _ _ _ _ _ h hF => ⟨h.2.1, hF⟩
end Jvm.Pilot.@@N@@
namespace Jvm.Pilot.@@N@@
open Jvm Jvm.ClassFile Sem Op Lib Jvm.Free Jvm.Stand Jvm.Pilot.@@N@@.Jvm.D
/-! MADE BY PROGRAM (witnessworld.py) out of the Statement's table words and the real class files: 11 classes; the members and pool entries that the words name. The judged class is class 1, her method 1. -/
namespace start1
open Jvm.ClassFile
def u (s : String) : CpInfo := .utf8 (stringToUtf16 s)
/-- a pool by its gaps: so many unusable entries, then the entry; so many at the end -/
def gap : Nat → List CpInfo → List CpInfo
  | 0, r => r
  | n + 1, r => .unusable :: gap n r
def poolList (es : List (Nat × CpInfo)) (last : Nat) : List CpInfo := es.foldr (fun e r => gap e.1 (e.2 :: r)) (gap last [])
def pool (es : List (Nat × CpInfo)) (last : Nat) : Array CpInfo := ⟨poolList es last⟩
def fileOf (pool : Array CpInfo) (this : Nat) (attrs : Array Attribute := #[]) (ms : Array MethodInfo := #[]) (fl : Nat := 33) (sup : Nat := 0) (ifs : Array Nat := #[]) (fds : Array FieldInfo := #[]) : ClassFile where
  minorVersion := 0
  majorVersion := 65
  constantPool := pool
  accessFlags := fl
  thisClass := this
  superClass := sup
  interfaces := ifs
  fields := fds
  methods := ms
  attributes := attrs
def plain (name : String) (sup : Option ClassId) : Class where
  name := name
  kind := .ordinary
  loader := none
  accessFlags := 33
  super := sup
  interfaces := #[]
  cf := none
  fields := #[]
  methods := #[]
  instanceTypes := #[]
  staticTypes := #[]
  resolved := #[]
  callSites := []
  init := .initialized
  statics := none
  mirror := none

def pool0 : Array CpInfo := pool [(5, u "<init>"), (0, u "()V"), (1, .class_ 10), (1, u "java/lang/Object")] 113

def k0c0 : Code := { maxStack := 0, maxLocals := 1, code := object_method_1_code, exceptionTable := #[], attributes := #[] }
def k0m0 : Method := { name := "<init>", desc := "()V", sig := { parameters := [], returnType := none }, accessFlags := 1, code := some k0c0 }
/-- java/lang/Object -/
def k0 : Class := { plain "java/lang/Object" none with
  accessFlags := 33
  interfaces := #[]
  cf := some (fileOf pool0 8 #[] #[{ accessFlags := 1, nameIndex := 5, descriptorIndex := 6, attributes := #[] }] 33 0 #[] #[])
  fields := #[]
  methods := #[k0m0]
  instanceTypes := #[]
  staticTypes := #[]
  resolved := Array.replicate 124 none
  statics := none }

def pool1 : Array CpInfo := pool [(2, .class_ 4), (1, u "java/lang/Object"), (0, u "<init>"), (0, u "()V"), (0, .long 4611686018427387903), (1, .methodref 10 11), (0, .class_ 12), (0, .nameAndType 13 14), (0, u "java/lang/Math"), (0, u "min"), (0, u "(II)I"), (0, .class_ 16), (0, u "com/example/tinyward/tinyward/CacheStats"), (0, .methodref 15 18), (0, .nameAndType 5 19), (0, u "(JJJJJJ)V"), (0, .methodref 15 21), (0, .nameAndType 22 23), (0, u "hitRate"), (0, u "()D"), (0, .double 4602678819172646912), (1, .long 16777215), (1, .integer 262144), (0, .integer 524288), (0, .class_ 31), (0, u "com/example/tinyward/tinyward/CacheStatsHitRatePinLaw"), (2, u "law"), (0, u "(JJJJI)Z")] 3

def k1m0 : Method := { name := "<init>", desc := "()V", sig := { parameters := [], returnType := none }, accessFlags := 1, code := none }
def k1c1 : Code := { maxStack := 14, maxLocals := 37, code := code, exceptionTable := #[], attributes := #[] }
def k1m1 : Method := { name := "law", desc := "(JJJJI)Z", sig := { parameters := [.long, .long, .long, .long, .int], returnType := some .boolean }, accessFlags := 9, code := some k1c1 }
/-- com/example/tinyward/tinyward/CacheStatsHitRatePinLaw -/
def k1 : Class := { plain "com/example/tinyward/tinyward/CacheStatsHitRatePinLaw" (some 0) with
  accessFlags := 49
  interfaces := #[]
  cf := some (fileOf pool1 30 #[] #[{ accessFlags := 1, nameIndex := 5, descriptorIndex := 6, attributes := #[] }, { accessFlags := 9, nameIndex := 34, descriptorIndex := 35, attributes := #[] }] 49 2 #[] #[])
  fields := #[]
  methods := #[k1m0, k1m1]
  instanceTypes := #[]
  staticTypes := #[]
  resolved := Array.replicate 39 none
  statics := none }

def pool2 : Array CpInfo := pool [(1, .methodref 2 3), (0, .class_ 4), (0, .nameAndType 5 6), (0, u "java/lang/Object"), (0, u "<init>"), (0, u "()V"), (0, .class_ 8), (0, u "java/lang/Record")] 13

def k2c0 : Code := { maxStack := 1, maxLocals := 1, code := jdk_30_method_1_code, exceptionTable := #[], attributes := #[] }
def k2m0 : Method := { name := "<init>", desc := "()V", sig := { parameters := [], returnType := none }, accessFlags := 4, code := some k2c0 }
/-- java/lang/Record -/
def k2 : Class := { plain "java/lang/Record" (some 0) with
  accessFlags := 1057
  interfaces := #[]
  cf := some (fileOf pool2 7 #[] #[{ accessFlags := 4, nameIndex := 5, descriptorIndex := 6, attributes := #[] }] 1057 2 #[] #[])
  fields := #[]
  methods := #[k2m0]
  instanceTypes := #[]
  staticTypes := #[]
  resolved := Array.replicate 22 none
  statics := none }

def pool3 : Array CpInfo := pool [(1, .methodref 2 3), (0, .class_ 4), (0, .nameAndType 5 6), (0, u "java/lang/Record"), (0, u "<init>"), (0, u "()V"), (0, .fieldref 8 9), (0, .class_ 10), (0, .nameAndType 11 12), (0, u "com/example/tinyward/tinyward/CacheStats"), (0, u "hitCount"), (0, u "J"), (0, .fieldref 8 14), (0, .nameAndType 15 12), (0, u "missCount"), (0, .fieldref 8 17), (0, .nameAndType 18 12), (0, u "loadSuccessCount"), (0, .fieldref 8 20), (0, .nameAndType 21 12), (0, u "loadFailureCount"), (0, .fieldref 8 23), (0, .nameAndType 24 12), (0, u "totalLoadTime"), (0, .fieldref 8 26), (0, .nameAndType 27 12), (0, u "evictionCount"), (12, u "(JJJJJJ)V"), (3, u "hitRate"), (0, u "()D")] 30

def k3c0 : Code := { maxStack := 3, maxLocals := 13, code := prog_19_method_1_code, exceptionTable := #[], attributes := #[] }
def k3m0 : Method := { name := "<init>", desc := "(JJJJJJ)V", sig := { parameters := [.long, .long, .long, .long, .long, .long], returnType := none }, accessFlags := 1, code := some k3c0 }
def k3c1 : Code := { maxStack := 4, maxLocals := 3, code := prog_19_method_2_code, exceptionTable := #[], attributes := #[] }
def k3m1 : Method := { name := "hitRate", desc := "()D", sig := { parameters := [], returnType := some .double }, accessFlags := 1, code := some k3c1 }
/-- com/example/tinyward/tinyward/CacheStats -/
def k3 : Class := { plain "com/example/tinyward/tinyward/CacheStats" (some 2) with
  accessFlags := 49
  interfaces := #[]
  cf := some (fileOf pool3 8 #[] #[{ accessFlags := 1, nameIndex := 5, descriptorIndex := 40, attributes := #[] }, { accessFlags := 1, nameIndex := 44, descriptorIndex := 45, attributes := #[] }] 49 2 #[] #[{ accessFlags := 18, nameIndex := 11, descriptorIndex := 12, attributes := #[] }, { accessFlags := 18, nameIndex := 15, descriptorIndex := 12, attributes := #[] }, { accessFlags := 18, nameIndex := 18, descriptorIndex := 12, attributes := #[] }, { accessFlags := 18, nameIndex := 21, descriptorIndex := 12, attributes := #[] }, { accessFlags := 18, nameIndex := 24, descriptorIndex := 12, attributes := #[] }, { accessFlags := 18, nameIndex := 27, descriptorIndex := 12, attributes := #[] }])
  fields := #[{ name := "hitCount", type := .long, accessFlags := 18, slot := 0, constantValue := 0 }, { name := "missCount", type := .long, accessFlags := 18, slot := 1, constantValue := 0 }, { name := "loadSuccessCount", type := .long, accessFlags := 18, slot := 2, constantValue := 0 }, { name := "loadFailureCount", type := .long, accessFlags := 18, slot := 3, constantValue := 0 }, { name := "totalLoadTime", type := .long, accessFlags := 18, slot := 4, constantValue := 0 }, { name := "evictionCount", type := .long, accessFlags := 18, slot := 5, constantValue := 0 }]
  methods := #[k3m0, k3m1]
  instanceTypes := #[.long, .long, .long, .long, .long, .long]
  staticTypes := #[]
  resolved := Array.replicate 76 none
  statics := none }

def pool4 : Array CpInfo := pool [(1, .class_ 2), (0, u "java/lang/Math"), (1, .class_ 6), (1, u "java/lang/Object"), (0, u "<init>"), (0, u "()V"), (89, .class_ 100), (1, u "java/lang/Math$RandomNumberGeneratorHolder"), (71, u "negativeZeroFloatBits"), (0, u "J"), (2, u "negativeZeroDoubleBits"), (24, u "min"), (43, u "$assertionsDisabled"), (0, u "Z"), (88, u "(II)I"), (2, u "twoToTheDoubleScaleDown"), (0, u "D"), (4, u "twoToTheDoubleScaleUp"), (9, u "E"), (3, u "PI"), (2, u "TAU"), (2, u "DEGREES_TO_RADIANS"), (0, u "RADIANS_TO_DEGREES")] 94

def k4m0 : Method := { name := "<init>", desc := "()V", sig := { parameters := [], returnType := none }, accessFlags := 2, code := none }
def k4c1 : Code := { maxStack := 2, maxLocals := 2, code := jdk_29_method_69_code, exceptionTable := #[], attributes := #[] }
def k4m1 : Method := { name := "min", desc := "(II)I", sig := { parameters := [.int, .int], returnType := some .int }, accessFlags := 9, code := some k4c1 }
/-- java/lang/Math -/
def k4 : Class := { plain "java/lang/Math" (some 0) with
  accessFlags := 49
  interfaces := #[]
  cf := some (fileOf pool4 1 #[.nestMembers #[98]] #[{ accessFlags := 2, nameIndex := 7, descriptorIndex := 8, attributes := #[] }, { accessFlags := 9, nameIndex := 201, descriptorIndex := 335, attributes := #[] }] 49 4 #[] #[{ accessFlags := 25, nameIndex := 354, descriptorIndex := 339, attributes := #[] }, { accessFlags := 25, nameIndex := 358, descriptorIndex := 339, attributes := #[] }, { accessFlags := 25, nameIndex := 361, descriptorIndex := 339, attributes := #[] }, { accessFlags := 26, nameIndex := 364, descriptorIndex := 339, attributes := #[] }, { accessFlags := 26, nameIndex := 365, descriptorIndex := 339, attributes := #[] }, { accessFlags := 26, nameIndex := 172, descriptorIndex := 173, attributes := #[] }, { accessFlags := 26, nameIndex := 176, descriptorIndex := 173, attributes := #[] }, { accessFlags := 8, nameIndex := 344, descriptorIndex := 339, attributes := #[] }, { accessFlags := 8, nameIndex := 338, descriptorIndex := 339, attributes := #[] }, { accessFlags := 4120, nameIndex := 245, descriptorIndex := 246, attributes := #[] }])
  fields := #[{ name := "E", type := .double, accessFlags := 25, slot := 0, constantValue := 0 }, { name := "PI", type := .double, accessFlags := 25, slot := 1, constantValue := 0 }, { name := "TAU", type := .double, accessFlags := 25, slot := 2, constantValue := 0 }, { name := "DEGREES_TO_RADIANS", type := .double, accessFlags := 26, slot := 3, constantValue := 0 }, { name := "RADIANS_TO_DEGREES", type := .double, accessFlags := 26, slot := 4, constantValue := 0 }, { name := "negativeZeroFloatBits", type := .long, accessFlags := 26, slot := 5, constantValue := 0 }, { name := "negativeZeroDoubleBits", type := .long, accessFlags := 26, slot := 6, constantValue := 0 }, { name := "twoToTheDoubleScaleUp", type := .double, accessFlags := 8, slot := 7, constantValue := 0 }, { name := "twoToTheDoubleScaleDown", type := .double, accessFlags := 8, slot := 8, constantValue := 0 }, { name := "$assertionsDisabled", type := .boolean, accessFlags := 4120, slot := 9, constantValue := 0 }]
  methods := #[k4m0, k4m1]
  instanceTypes := #[]
  staticTypes := #[.double, .double, .double, .double, .double, .long, .long, .double, .double, .boolean]
  resolved := Array.replicate 460 none
  statics := none }

def pool5 : Array CpInfo := pool [(1, u "java/lang/Cloneable"), (0, .class_ 1), (0, u "java/lang/Object"), (0, .class_ 3)] 3

/-- java/lang/Cloneable -/
def k5 : Class := { plain "java/lang/Cloneable" (some 0) with
  accessFlags := 1537
  interfaces := #[]
  cf := some (fileOf pool5 2 #[] #[] 1537 4 #[] #[])
  fields := #[]
  methods := #[]
  instanceTypes := #[]
  staticTypes := #[]
  resolved := Array.replicate 8 none
  statics := none }

def pool6 : Array CpInfo := pool [(1, u "java/io/Serializable"), (0, .class_ 1), (0, u "java/lang/Object"), (0, .class_ 3)] 3

/-- java/io/Serializable -/
def k6 : Class := { plain "java/io/Serializable" (some 0) with
  accessFlags := 1537
  interfaces := #[]
  cf := some (fileOf pool6 2 #[] #[] 1537 4 #[] #[])
  fields := #[]
  methods := #[]
  instanceTypes := #[]
  staticTypes := #[]
  resolved := Array.replicate 8 none
  statics := none }

/-- the primitive byte -/
def k7 : Class := { plain "byte" none with kind := .primitive 'B', accessFlags := 0x411 }
/-- [B -/
def k8 : Class := { plain "[B" (some 0) with kind := .array 7 .byte, interfaces := #[5, 6], accessFlags := 1041 }

/-- the primitive int -/
def k9 : Class := { plain "int" none with kind := .primitive 'I', accessFlags := 0x411 }
/-- [I -/
def k10 : Class := { plain "[I" (some 0) with kind := .array 9 .int, interfaces := #[5, 6], accessFlags := 1041 }

def heap : Heap := #[]
def classes : Array Class := #[k0, k1, k2, k3, k4, k5, k6, k7, k8, k9, k10]
def interned : List (Array UInt16 × Addr) := []
def slotsUsed : Nat := 0
def theMethod : MethodId := ⟨1, 1⟩
def args0 : Array Value := #[.long 50, .long 51, .long 52, .long 53, .int 5]
def aboutOver (below : List Frame) : State where
  vm := { classes := classes, interned := interned.toArray }
  heap := heap
  slotsUsed := slotsUsed
  threads := #[{ frames := .invoking theMethod args0 :: below }]
def below0 : List Frame := [.native { method := ⟨0, 0⟩, args := #[] }]
def about1 : State := aboutOver below0
def p0 : Program := .bare "" "" ""
def e0 : Env := launch0.env 0 0 0
theorem w_frames : about1.frames = Frame.invoking theMethod args0 :: below0 := rfl
set_option maxRecDepth 65536 in
theorem w_args : argsFit about1.vm theMethod args0 = true := by decide +kernel
set_option maxRecDepth 65536 in
theorem w_heap : heapFits about1 = true := by decide +kernel
set_option maxRecDepth 65536 in
theorem w_runnable : about1.curStatus? = some .runnable := by decide +kernel
set_option maxRecDepth 65536 in
theorem w_alone : about1.alone = true := by decide +kernel
set_option maxRecDepth 65536 in
theorem w_named : about1.methodNamed? x = some theMethod := by decide +kernel
set_option maxRecDepth 65536 in
theorem w_hears : about1.hears theMethod below0 = true := by decide +kernel
set_option maxRecDepth 65536 in
theorem w_ripe : about1.ripe theMethod args0 below0 = true := by decide +kernel
theorem w_running : about1.status = .running := rfl
set_option maxRecDepth 65536 in
theorem w_room : about1.hasRoom e0.platform room_1 = true :=
  launch0.hasRoom_least _ room_1 (by decide +kernel) (by decide +kernel) (by decide +kernel) (by decide +kernel) (by decide +kernel) (by decide +kernel)
theorem allAtoms_all (ts : List Jvm.Cond) (a : Array Jvm.Value) (st : Jvm.State) : (allAtoms ts).before a st = ts.all (fun c => c.before a st) := by
  induction ts with
  | nil => rfl
  | cons c t ih =>
    show (Jvm.Cond.and c (allAtoms t)).before a st = _
    rw [Jvm.Cond.before_and, ih, List.all_cons]
def words1 : List Jvm.Cond := Jvm.Cond.code x code maxLocals ret :: tables_1
/-- a 'code' word, met by the world's own term for the bytes: nothing is compared byte by byte -/
theorem code_word {y : MethodName} {bytes : ByteArray} {mx : Nat} {rt : Option FieldType} {a : Array Value} {s : State} {m : MethodId} {meth : Method} {c : Code} (h1 : s.methodNamed? y = some m) (h2 : s.vm.method? m = some meth) (h3 : meth.code = some c) (h4 : c.code = bytes)
    (h5 : (c.maxLocals == mx && c.exceptionTable.isEmpty && decide (c.maxStack ≤ mostOperands) && decide (meth.sig.returnType = rt) && !meth.locks && decide (parseMethodDescriptor y.desc = some meth.sig)) = true) : (Jvm.Cond.code y bytes mx rt).before a s = true := by
  simp only [Bool.and_eq_true, beq_iff_eq, Bool.not_eq_true', decide_eq_true_eq] at h5
  obtain ⟨⟨⟨⟨⟨g1, g2⟩, g3⟩, g4⟩, g5⟩, g6⟩ := h5
  simp [Cond.before, Cond.holds, Cond.value, h1, h2, h3, h4, g1, g2, g3, g4, g5, g6]
def isCode : Jvm.Cond → Bool
  | .code _ _ _ _ => true
  | _ => false
theorem all_split {L : List Jvm.Cond} {P : Jvm.Cond → Bool} (h1 : L.all (fun c => isCode c || P c) = true) (h2 : ∀ c ∈ L.filter isCode, P c = true) : L.all P = true := by
  refine List.all_eq_true.mpr fun c hc => ?_
  have h := List.all_eq_true.mp h1 c hc
  rcases Bool.eq_false_or_eq_true (isCode c) with hi | hi
  · exact h2 c (List.mem_filter.mpr ⟨hc, hi⟩)
  · simpa [hi] using h
set_option maxRecDepth 65536 in
theorem w_c0 : (Jvm.Cond.code x code maxLocals ret).before args0 about1 = true := code_word (m := ⟨1, 1⟩) (meth := k1m1) (c := k1c1) (by decide +kernel) rfl rfl rfl (by decide +kernel)
set_option maxRecDepth 65536 in
theorem w_c1 : (Jvm.Cond.code ({ cls := "com/example/tinyward/tinyward/CacheStats", name := "<init>", desc := "(JJJJJJ)V" } : Jvm.MethodName) prog_19_method_1_code (13 : Nat) (Option.none : Option Jvm.ClassFile.FieldType)).before args0 about1 = true := code_word (m := ⟨3, 0⟩) (meth := k3m0) (c := k3c0) (by decide +kernel) rfl rfl rfl (by decide +kernel)
set_option maxRecDepth 65536 in
theorem w_c2 : (Jvm.Cond.code ({ cls := "java/lang/Record", name := "<init>", desc := "()V" } : Jvm.MethodName) jdk_30_method_1_code (1 : Nat) (Option.none : Option Jvm.ClassFile.FieldType)).before args0 about1 = true := code_word (m := ⟨2, 0⟩) (meth := k2m0) (c := k2c0) (by decide +kernel) rfl rfl rfl (by decide +kernel)
set_option maxRecDepth 65536 in
theorem w_c3 : (Jvm.Cond.code ({ cls := "java/lang/Object", name := "<init>", desc := "()V" } : Jvm.MethodName) object_method_1_code (1 : Nat) (Option.none : Option Jvm.ClassFile.FieldType)).before args0 about1 = true := code_word (m := ⟨0, 0⟩) (meth := k0m0) (c := k0c0) (by decide +kernel) rfl rfl rfl (by decide +kernel)
set_option maxRecDepth 65536 in
theorem w_c4 : (Jvm.Cond.code ({ cls := "com/example/tinyward/tinyward/CacheStats", name := "hitRate", desc := "()D" } : Jvm.MethodName) prog_19_method_2_code (3 : Nat) (Option.some Jvm.ClassFile.FieldType.double)).before args0 about1 = true := code_word (m := ⟨3, 1⟩) (meth := k3m1) (c := k3c1) (by decide +kernel) rfl rfl rfl (by decide +kernel)
set_option maxRecDepth 65536 in
theorem w_c5 : (Jvm.Cond.code ({ cls := "java/lang/Math", name := "min", desc := "(II)I" } : Jvm.MethodName) jdk_29_method_69_code (2 : Nat) (Option.some Jvm.ClassFile.FieldType.int)).before args0 about1 = true := code_word (m := ⟨4, 1⟩) (meth := k4m1) (c := k4c1) (by decide +kernel) rfl rfl rfl (by decide +kernel)
def codes1 : List Jvm.Cond := [Jvm.Cond.code x code maxLocals ret, Jvm.Cond.code ({ cls := "com/example/tinyward/tinyward/CacheStats", name := "<init>", desc := "(JJJJJJ)V" } : Jvm.MethodName) prog_19_method_1_code (13 : Nat) (Option.none : Option Jvm.ClassFile.FieldType), Jvm.Cond.code ({ cls := "java/lang/Record", name := "<init>", desc := "()V" } : Jvm.MethodName) jdk_30_method_1_code (1 : Nat) (Option.none : Option Jvm.ClassFile.FieldType), Jvm.Cond.code ({ cls := "java/lang/Object", name := "<init>", desc := "()V" } : Jvm.MethodName) object_method_1_code (1 : Nat) (Option.none : Option Jvm.ClassFile.FieldType), Jvm.Cond.code ({ cls := "com/example/tinyward/tinyward/CacheStats", name := "hitRate", desc := "()D" } : Jvm.MethodName) prog_19_method_2_code (3 : Nat) (Option.some Jvm.ClassFile.FieldType.double), Jvm.Cond.code ({ cls := "java/lang/Math", name := "min", desc := "(II)I" } : Jvm.MethodName) jdk_29_method_69_code (2 : Nat) (Option.some Jvm.ClassFile.FieldType.int)]
set_option maxRecDepth 65536 in
theorem codes_eq : words1.filter isCode = codes1 := rfl
theorem w_codes : ∀ c ∈ words1.filter isCode, c.before args0 about1 = true := by
  rw [codes_eq]
  intro c hc
  simp only [codes1, List.mem_cons, List.not_mem_nil, or_false] at hc
  rcases hc with rfl | rfl | rfl | rfl | rfl | rfl
  · exact w_c0
  · exact w_c1
  · exact w_c2
  · exact w_c3
  · exact w_c4
  · exact w_c5
set_option maxRecDepth 65536 in
theorem w_t1 : (words1.take 24).all (fun c => isCode c || c.before args0 about1) = true := by decide +kernel
set_option maxRecDepth 65536 in
theorem w_t2 : (words1.drop 24).all (fun c => isCode c || c.before args0 about1) = true := by decide +kernel
theorem w_tables : (allAtoms (Jvm.Cond.code x code maxLocals ret :: tables_1)).before args0 about1 = true := by
  rw [allAtoms_all]
  show words1.all (fun c => c.before args0 about1) = true
  refine all_split ?_ w_codes
  rw [← List.take_append_drop 24 words1, List.all_append, w_t1, w_t2]
  rfl
set_option maxRecDepth 65536 in
theorem w_case : (Jvm.Cond.and given_1 narrow_1).before args0 about1 = true := by decide +kernel
theorem w_applies : (headSpec (Jvm.Cond.code x code maxLocals ret :: tables_1) room_1).applies x e0.platform about1 = true :=
  (Spec.applies_iff w_frames).mpr ⟨w_running, w_runnable, w_alone, w_named, w_hears, w_ripe, w_room, w_tables⟩
theorem atStart : AtStart classFile x code maxLocals ret World_1 tables_1 room_1 Calls_1 rest_1 Pre_1 launch0 p0 e0 about1 theMethod args0 below0 :=
  ⟨lists_1, trivial, launch0.admits_env _ _ _, launch0.least_env, fairChoices_fair.cas, fairChoices_fair.clock, w_frames, w_args, w_heap, w_applies, trivial, trivial, w_case⟩
end start1
theorem witness_1 : WitnessClaimed_1 := ⟨start1.p0, start1.e0, start1.about1, start1.theMethod, start1.args0, start1.below0, start1.atStart⟩
end Jvm.Pilot.@@N@@
