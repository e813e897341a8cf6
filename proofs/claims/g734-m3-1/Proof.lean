import JvmDerived
import JvmDerived.Pilot.@@N@@Statement
import JvmDerived.Pilot.@@N@@Code
set_option linter.unusedVariables false
set_option linter.unusedSimpArgs false
namespace Jvm.Pilot.@@N@@
open Jvm Jvm.ClassFile Sem Op Lib Jvm.Free Jvm.Stand Jvm.LawKit Jvm.RoadKit Bundle Jvm.Pilot.@@N@@.Jvm.D
/-- what runs on to t from B runs on to t from A -/
def own_Rch (tb : Tables) (e : Env) (below : List Frame) (A B : State) : Prop := ∀ t, Steps tb e below B t → Steps tb e below A t
theorem own_lct1 {a b : Int64} (h : a < b) : ifCond.holds .lt (lcmpW a b) = true ∧ ifCond.holds .ge (lcmpW a b) = false := by
  have h1 : ¬ b < a := fun q => by rw [Int64.lt_iff_toInt_lt] at h q; omega
  have h2 : ¬ a = b := fun q => by subst q; exact h1 h
  simp only [lcmpW, gt_iff_lt, h1, h2, if_false]; exact ⟨rfl, rfl⟩
theorem own_lcf1 {a b : Int64} (h : ¬ a < b) : ifCond.holds .lt (lcmpW a b) = false ∧ ifCond.holds .ge (lcmpW a b) = true := by
  by_cases h1 : b < a
  · simp only [lcmpW, gt_iff_lt, h1, if_true]; exact ⟨rfl, rfl⟩
  · have h2 : a = b := by rw [Int64.lt_iff_toInt_lt] at h h1; exact Int64.toInt_inj.mp (by omega)
    simp only [lcmpW, gt_iff_lt, h1, h2, if_false, if_true]; subst h2; simp only [Int64.lt_irrefl, if_false]; exact ⟨rfl, rfl⟩
theorem own_lct2 {a b : Int64} (h : b < a) : ifCond.holds .gt (lcmpW a b) = true ∧ ifCond.holds .le (lcmpW a b) = false := by
  simp only [lcmpW, gt_iff_lt, h, if_true]; exact ⟨rfl, rfl⟩
theorem own_lcf2 {a b : Int64} (h : ¬ b < a) : ifCond.holds .gt (lcmpW a b) = false ∧ ifCond.holds .le (lcmpW a b) = true := by
  by_cases h2 : a = b
  · simp only [lcmpW, gt_iff_lt, h, if_pos h2, if_false]; exact ⟨rfl, rfl⟩
  · simp only [lcmpW, gt_iff_lt, h, if_neg h2, if_false]; exact ⟨rfl, rfl⟩
theorem own_lct3 {a b : Int64} (h : a = b) : ifCond.holds .eq (lcmpW a b) = true ∧ ifCond.holds .ne (lcmpW a b) = false := by
  have h1 : ¬ b < a := fun q => by subst h; exact absurd q (Int64.lt_irrefl)
  simp only [lcmpW, gt_iff_lt, h1, if_pos h, if_false]; exact ⟨rfl, rfl⟩
theorem own_lcf3 {a b : Int64} (h : ¬ a = b) : ifCond.holds .eq (lcmpW a b) = false ∧ ifCond.holds .ne (lcmpW a b) = true := by
  by_cases h1 : b < a
  · simp only [lcmpW, gt_iff_lt, h1, if_true]; exact ⟨rfl, rfl⟩
  · simp only [lcmpW, gt_iff_lt, h1, if_neg h, if_false]; exact ⟨rfl, rfl⟩
theorem own_remI (x y : Int32) : x - x / y * y = x % y := by
  apply Int32.toInt_inj.mp
  have l := Int32.toInt_lt (x % y)
  have g := Int32.le_toInt (x % y)
  rw [Int32.toInt_sub, Int32.toInt_mul, Int32.toInt_div]
  simp only [Int.sub_bmod_bmod, Int.bmod_mul_bmod]
  rw [Int.mul_comm, ← Int.tmod_def, ← Int32.toInt_mod, Int.bmod_eq_of_le] <;> omega
theorem own_remL (x y : Int64) : x - x / y * y = x % y := by
  apply Int64.toInt_inj.mp
  have l := Int64.toInt_lt (x % y)
  have g := Int64.le_toInt (x % y)
  rw [Int64.toInt_sub, Int64.toInt_mul, Int64.toInt_div]
  simp only [Int.sub_bmod_bmod, Int.bmod_mul_bmod]
  rw [Int.mul_comm, ← Int.tmod_def, ← Int64.toInt_mod, Int.bmod_eq_of_le] <;> omega
theorem d1_0 : decode prog_35_method_2_code 0 = .ok (.lload_n 0, 1) := by decide +kernel
theorem d1_1 : decode prog_35_method_2_code 1 = .ok (.ldc2_w 73, 3) := by decide +kernel
theorem d1_4 : decode prog_35_method_2_code 4 = .ok (.ldiv, 1) := by decide +kernel
theorem d1_5 : decode prog_35_method_2_code 5 = .ok (.iload_n 2, 1) := by decide +kernel
theorem d1_6 : decode prog_35_method_2_code 6 = .ok (.i2l, 1) := by decide +kernel
theorem d1_7 : decode prog_35_method_2_code 7 = .ok (.lmul, 1) := by decide +kernel
theorem d1_8 : decode prog_35_method_2_code 8 = .ok (.lload_n 0, 1) := by decide +kernel
theorem d1_9 : decode prog_35_method_2_code 9 = .ok (.ldc2_w 73, 3) := by decide +kernel
theorem d1_12 : decode prog_35_method_2_code 12 = .ok (.lrem, 1) := by decide +kernel
theorem d1_13 : decode prog_35_method_2_code 13 = .ok (.iload_n 2, 1) := by decide +kernel
theorem d1_14 : decode prog_35_method_2_code 14 = .ok (.i2l, 1) := by decide +kernel
theorem d1_15 : decode prog_35_method_2_code 15 = .ok (.lmul, 1) := by decide +kernel
theorem d1_16 : decode prog_35_method_2_code 16 = .ok (.ldc2_w 73, 3) := by decide +kernel
theorem d1_19 : decode prog_35_method_2_code 19 = .ok (.ldiv, 1) := by decide +kernel
theorem d1_20 : decode prog_35_method_2_code 20 = .ok (.ladd, 1) := by decide +kernel
theorem d1_21 : decode prog_35_method_2_code 21 = .ok (.lreturn, 1) := by decide +kernel
def own_pct (q1 : Int64) (q2 : Int32) : Int64 := (((q1 / (100 : Int64)) * (q2.toInt64)) + (((q1 - q1 / (100 : Int64) * (100 : Int64)) * (q2.toInt64)) / (100 : Int64)))
theorem pn_0 : plainName "com/example/tinyward/tinyward/Policy" = true := by first | (simp [plainName, overriddenIn]; done) | decide +kernel
theorem ef_1 (m : MethodId) (q1 : Int64) (q2 : Int32) : entryFrame m #[(.long q1), (.int q2)] 3 = mkF m 0 #[.val (.long q1), .second, .val (.int q2)] [] := by first | (simp [entryFrame, mkF, argsToLocals, Value.category]; done) | rfl
def Q1 (Z : State) (q1 : Int64) (q2 : Int32) (h0 : Heap) (n0 : Nat) (v : Option Value) (h : Heap) (L : List Loc) : Prop := v = some (.long (own_pct q1 q2)) ∧ Fr n0 L ∧ h = h0
set_option maxRecDepth 65536 in
set_option maxHeartbeats 40000000 in
theorem rm1 (l : Launch) (Z : State) (a0 : Array Value) (hw : ∀ d ∈ tables_1, d.before a0 Z = true) (ws : List Jvm.Cond) (q1 : Int64) (q2 : Int32) (h0 : Heap) (n0 : Nat) (Z0 : n0 ≤ h0.size) :
    MetFree l (⟨"com/example/tinyward/tinyward/Policy", "percentOf", "(JI)J"⟩ : MethodName) (head1 (Jvm.Cond.code (⟨"com/example/tinyward/tinyward/Policy", "percentOf", "(JI)J"⟩ : MethodName) prog_35_method_2_code 3 (some .long) :: ws) ({ frames := 0, cells := 0, slots := 0, locals := 0 } : Room)) (fun a' U => a' = #[(.long q1), (.int q2)] ∧ Z.Warmed39 U.vm ∧ U.heap = h0) (fun _ _ _ _ _ => True) (fun _ U o U' => ∃ v L, o = .returned v ∧ Q1 Z q1 q2 h0 n0 v U'.heap L ∧ FrameEnd U o U' L ({ frames := 0, cells := 0, slots := 0, locals := 0 } : Room).cells ({ frames := 0, cells := 0, slots := 0, locals := 0 } : Room).slots) := by
  refine MetFree.of_bodySF (plainFor_of_name pn_0) hisR ?_
  intro p e s m args' below meth c s₁ Bd hml0 hP hK
  obtain ⟨hargs, hZ, hh⟩ := hP
  have hx := Bd.exec
  have hby := Bd.bytes
  have hml : c.maxLocals = 3 := hml0
  have hown : s.vm.findClass "com/example/tinyward/tinyward/Policy" = some m.cls := findClass_of_methodNamed Bd.named
  have hnm := (name_of_methodNamed Bd.named Bd.method).1
  have X0 : Stand p l e ({ frames := 0, cells := 0, slots := 0, locals := 0 } : Room) s m args' below meth c s₁ [] 0 0 := Stand.of_body Bd
  have e0 : s₁.heap = h0 := by rw [← hh, Bd.state]; rfl
  have N0 := Fr.nil n0
  obtain ⟨A0, hA0⟩ : ∃ A, A = s₁.setTop (mkF m 0 #[.val (.long q1), .second, .val (.int q2)] []) := ⟨_, rfl⟩
  have P0 : own_Rch p.tables e below A0 (s₁.setTop (mkF m 0 #[.val (.long q1), .second, .val (.int q2)] [])) := fun t k => hA0 ▸ k
  have P00 : own_Rch p.tables e below (s₁.setTop (entryFrame m args' 3)) A0 := fun t k => by rw [hargs]; exact castTop (ef_1 m q1 q2) (hA0 ▸ k)
  have P1 : own_Rch p.tables e below A0 (s₁.setTop (mkF m 21 #[.val (.long q1), .second, .val (.int q2)] [(.long (((q1 / (100 : Int64)) * (q2.toInt64)) + (((q1 - q1 / (100 : Int64) * (100 : Int64)) * (q2.toInt64)) / (100 : Int64))))])) := fun t k => P0 t (by
    show Steps p.tables e below (s₁.setTop (mkF m 0 #[.val (.long q1), .second, .val (.int q2)] [])) _
    refine XS.lloadN X0.here hx rfl (hb hby d1_0) rfl ?_
    show Steps p.tables e below (s₁.setTop (mkF m 1 #[.val (.long q1), .second, .val (.int q2)] [(.long q1)])) _
    refine X0.ldc2Long hx hown (mvT hZ (hw _ (List.mem_of_getElem? (i := 6) rfl))) (g := (mkF m 1 #[.val (.long q1), .second, .val (.int q2)] [(.long q1)])) rfl (hb hby d1_1) _ ?_
    show Steps p.tables e below (s₁.setTop (mkF m 4 #[.val (.long q1), .second, .val (.int q2)] [(.long (100 : Int64)), (.long q1)])) _
    refine XS.ldiv X0.here hx rfl (hb hby d1_4) rfl (by decide) ?_
    show Steps p.tables e below (s₁.setTop (mkF m 5 #[.val (.long q1), .second, .val (.int q2)] [(.long (q1 / (100 : Int64)))])) _
    refine XS.iloadN X0.here hx rfl (hb hby d1_5) rfl ?_
    show Steps p.tables e below (s₁.setTop (mkF m 6 #[.val (.long q1), .second, .val (.int q2)] [(.int q2), (.long (q1 / (100 : Int64)))])) _
    refine XS.i2l X0.here hx rfl (hb hby d1_6) rfl ?_
    show Steps p.tables e below (s₁.setTop (mkF m 7 #[.val (.long q1), .second, .val (.int q2)] [(.long (q2.toInt64)), (.long (q1 / (100 : Int64)))])) _
    refine XS.lmul X0.here hx rfl (hb hby d1_7) rfl ?_
    show Steps p.tables e below (s₁.setTop (mkF m 8 #[.val (.long q1), .second, .val (.int q2)] [(.long ((q1 / (100 : Int64)) * (q2.toInt64)))])) _
    refine XS.lloadN X0.here hx rfl (hb hby d1_8) rfl ?_
    show Steps p.tables e below (s₁.setTop (mkF m 9 #[.val (.long q1), .second, .val (.int q2)] [(.long q1), (.long ((q1 / (100 : Int64)) * (q2.toInt64)))])) _
    refine X0.ldc2Long hx hown (mvT hZ (hw _ (List.mem_of_getElem? (i := 6) rfl))) (g := (mkF m 9 #[.val (.long q1), .second, .val (.int q2)] [(.long q1), (.long ((q1 / (100 : Int64)) * (q2.toInt64)))])) rfl (hb hby d1_9) _ ?_
    show Steps p.tables e below (s₁.setTop (mkF m 12 #[.val (.long q1), .second, .val (.int q2)] [(.long (100 : Int64)), (.long q1), (.long ((q1 / (100 : Int64)) * (q2.toInt64)))])) _
    refine XS.lrem X0.here hx rfl (hb hby d1_12) rfl (by decide) ?_
    show Steps p.tables e below (s₁.setTop (mkF m 13 #[.val (.long q1), .second, .val (.int q2)] [(.long (q1 - q1 / (100 : Int64) * (100 : Int64))), (.long ((q1 / (100 : Int64)) * (q2.toInt64)))])) _
    refine XS.iloadN X0.here hx rfl (hb hby d1_13) rfl ?_
    show Steps p.tables e below (s₁.setTop (mkF m 14 #[.val (.long q1), .second, .val (.int q2)] [(.int q2), (.long (q1 - q1 / (100 : Int64) * (100 : Int64))), (.long ((q1 / (100 : Int64)) * (q2.toInt64)))])) _
    refine XS.i2l X0.here hx rfl (hb hby d1_14) rfl ?_
    show Steps p.tables e below (s₁.setTop (mkF m 15 #[.val (.long q1), .second, .val (.int q2)] [(.long (q2.toInt64)), (.long (q1 - q1 / (100 : Int64) * (100 : Int64))), (.long ((q1 / (100 : Int64)) * (q2.toInt64)))])) _
    refine XS.lmul X0.here hx rfl (hb hby d1_15) rfl ?_
    show Steps p.tables e below (s₁.setTop (mkF m 16 #[.val (.long q1), .second, .val (.int q2)] [(.long ((q1 - q1 / (100 : Int64) * (100 : Int64)) * (q2.toInt64))), (.long ((q1 / (100 : Int64)) * (q2.toInt64)))])) _
    refine X0.ldc2Long hx hown (mvT hZ (hw _ (List.mem_of_getElem? (i := 6) rfl))) (g := (mkF m 16 #[.val (.long q1), .second, .val (.int q2)] [(.long ((q1 - q1 / (100 : Int64) * (100 : Int64)) * (q2.toInt64))), (.long ((q1 / (100 : Int64)) * (q2.toInt64)))])) rfl (hb hby d1_16) _ ?_
    show Steps p.tables e below (s₁.setTop (mkF m 19 #[.val (.long q1), .second, .val (.int q2)] [(.long (100 : Int64)), (.long ((q1 - q1 / (100 : Int64) * (100 : Int64)) * (q2.toInt64))), (.long ((q1 / (100 : Int64)) * (q2.toInt64)))])) _
    refine XS.ldiv X0.here hx rfl (hb hby d1_19) rfl (by decide) ?_
    show Steps p.tables e below (s₁.setTop (mkF m 20 #[.val (.long q1), .second, .val (.int q2)] [(.long (((q1 - q1 / (100 : Int64) * (100 : Int64)) * (q2.toInt64)) / (100 : Int64))), (.long ((q1 / (100 : Int64)) * (q2.toInt64)))])) _
    refine XS.ladd X0.here hx rfl (hb hby d1_20) rfl ?_
    exact k)
  obtain ⟨fs, hr, hrun, hended, hW, hsame⟩ := X0.leave (v := some (.long (((q1 / (100 : Int64)) * (q2.toInt64)) + (((q1 - q1 / (100 : Int64) * (100 : Int64)) * (q2.toInt64)) / (100 : Int64))))) (fun h => by rw [Bd.returns] at h; cases h)
  refine ⟨_, _, P00 _ (P1 _ ?_), hrun, hended, _, _, rfl, ?_, ⟨_, rfl⟩, hW, hsame.mono (by decide) (by decide)⟩
  · exact retOut X0 hx (t := .long) Bd.returns rfl (Or.inr (Or.inl ⟨rfl, rfl, _, rfl⟩)) (hb hby d1_21) hr
  · show Q1 Z q1 q2 h0 n0 _ s₁.heap _
    rw [e0]
    refine ⟨?_, N0, rfl⟩
    skip
    (try simp only [own_pct])
    (try rfl)
theorem own_bm {x : Int} (h1 : -9223372036854775808 ≤ x) (h2 : x < 9223372036854775808) : x.bmod (2^64) = x := by
  rw [Int.bmod_eq_of_le] <;> omega
theorem own_mask64 (s : Int64) : 0 ≤ (s &&& 9223372036854775807).toInt := by
  have h : (s &&& 9223372036854775807).toBitVec.msb = false := by
    rw [Int64.toBitVec_and, BitVec.msb_and]; exact Bool.and_false _
  show 0 ≤ (s &&& 9223372036854775807).toBitVec.toInt
  rw [BitVec.toInt_eq_toNat_of_msb h]; exact Int.natCast_nonneg _
theorem own_ok' (a : Int64) (p : Int32) (ha : 0 ≤ a.toInt) (h0 : 0 ≤ p.toInt) (h1 : p.toInt ≤ 100) :
    ¬ own_pct a p < a / 100 * p.toInt64 ∧ ¬ p.toInt64 < own_pct a p - a / 100 * p.toInt64 ∧ ¬ (a * p.toInt64 - 100 * own_pct a p) < 0 ∧ (a * p.toInt64 - 100 * own_pct a p) < 100 := by
  have hA : a.toInt < 9223372036854775808 := Int64.toInt_lt a
  generalize hP : p.toInt64 = P
  have eP : P.toInt = p.toInt := by rw [← hP]; exact Int32.toInt_toInt64 p
  have h100 : (100 : Int64).toInt = 100 := rfl
  have e1 : (a / 100).toInt = a.toInt / 100 := by
    rw [Int64.toInt_div, h100, Int.tdiv_eq_ediv_of_nonneg ha]; exact own_bm (by omega) (by omega)
  have e2 : (a % 100).toInt = a.toInt % 100 := by
    rw [Int64.toInt_mod, h100, Int.tmod_eq_emod_of_nonneg ha]
  have b1 : 0 ≤ a.toInt / 100 * p.toInt := Int.mul_nonneg (by omega) h0
  have b2 : a.toInt / 100 * p.toInt ≤ a.toInt / 100 * 100 := Int.mul_le_mul_of_nonneg_left h1 (by omega)
  have b3 : 0 ≤ a.toInt % 100 * p.toInt := Int.mul_nonneg (by omega) h0
  have b4 : a.toInt % 100 * p.toInt ≤ a.toInt % 100 * 100 := Int.mul_le_mul_of_nonneg_left h1 (by omega)
  have b5 : a.toInt % 100 * p.toInt ≤ 100 * p.toInt := Int.mul_le_mul_of_nonneg_right (by omega) h0
  have e3 : (a / 100 * P).toInt = a.toInt / 100 * p.toInt := by
    rw [Int64.toInt_mul, e1, eP]; exact own_bm (by omega) (by omega)
  have e4 : (a % 100 * P).toInt = a.toInt % 100 * p.toInt := by
    rw [Int64.toInt_mul, e2, eP]; exact own_bm (by omega) (by omega)
  have e5 : (a % 100 * P / 100).toInt = a.toInt % 100 * p.toInt / 100 := by
    rw [Int64.toInt_div, e4, h100, Int.tdiv_eq_ediv_of_nonneg b3]; exact own_bm (by omega) (by omega)
  have e6 : (own_pct a p).toInt = a.toInt / 100 * p.toInt + a.toInt % 100 * p.toInt / 100 := by
    simp only [own_pct, own_remL, hP]
    rw [Int64.toInt_add, e3, e5]; exact own_bm (by omega) (by omega)
  have e7 : (own_pct a p - a / 100 * P).toInt = a.toInt % 100 * p.toInt / 100 := by
    rw [Int64.toInt_sub, e6, e3, Int.add_comm, Int.add_sub_cancel]; exact own_bm (by omega) (by omega)
  have e8 : (a * P - 100 * own_pct a p).toInt = a.toInt % 100 * p.toInt % 100 := by
    rw [Int64.toInt_sub, Int64.toInt_mul, Int64.toInt_mul, h100, e6, eP, Int.sub_bmod_bmod, Int.bmod_sub_bmod]
    have : a.toInt * p.toInt - 100 * (a.toInt / 100 * p.toInt + a.toInt % 100 * p.toInt / 100) = a.toInt % 100 * p.toInt % 100 := by
      have d : a.toInt * p.toInt = 100 * (a.toInt / 100 * p.toInt) + a.toInt % 100 * p.toInt := by
        conv => lhs; rw [← Int.mul_ediv_add_emod a.toInt 100, Int.add_mul, Int.mul_assoc]
      omega
    rw [this]; exact own_bm (by omega) (by omega)
  simp only [Int64.lt_iff_toInt_lt, e6, e3, e7, e8, eP]
  refine ⟨by omega, by omega, ?_, ?_⟩
  · show ¬ _ < (0 : Int); omega
  · show _ < (100 : Int); omega

theorem own_mask32 (s : Int32) : 0 ≤ (s &&& 2147483647).toInt := by
  have h : (s &&& 2147483647).toBitVec.msb = false := by
    rw [Int32.toBitVec_and, BitVec.msb_and]; exact Bool.and_false _
  show 0 ≤ (s &&& 2147483647).toBitVec.toInt
  rw [BitVec.toInt_eq_toNat_of_msb h]; exact Int.natCast_nonneg _
theorem own_rem (s : Int32) (k : Int32) (hk : 0 < k.toInt) : 0 ≤ ((s &&& 2147483647) % k).toInt ∧ ((s &&& 2147483647) % k).toInt < k.toInt := by
  have h0 := own_mask32 s
  rw [Int32.toInt_mod, Int.tmod_eq_emod_of_nonneg h0]
  exact ⟨Int.emod_nonneg _ (by omega), Int.emod_lt_of_pos _ hk⟩
theorem own_ok (s : Int64) (q : Int32) : ¬ own_pct (s &&& 9223372036854775807) ((q &&& 2147483647) % 101) < (s &&& 9223372036854775807) / 100 * ((q &&& 2147483647) % 101).toInt64 ∧ ¬ ((q &&& 2147483647) % 101).toInt64 < own_pct (s &&& 9223372036854775807) ((q &&& 2147483647) % 101) - (s &&& 9223372036854775807) / 100 * ((q &&& 2147483647) % 101).toInt64 ∧ ¬ ((s &&& 9223372036854775807) * ((q &&& 2147483647) % 101).toInt64 - 100 * own_pct (s &&& 9223372036854775807) ((q &&& 2147483647) % 101)) < 0 ∧ ((s &&& 9223372036854775807) * ((q &&& 2147483647) % 101).toInt64 - 100 * own_pct (s &&& 9223372036854775807) ((q &&& 2147483647) % 101)) < 100 := by
  have h := own_rem q 101 (by decide)
  have e : (101 : Int32).toInt = 101 := rfl
  exact own_ok' _ _ (own_mask64 s) h.1 (by omega)
theorem pd_0 : parseMethodDescriptor "(JI)J" = some ⟨[.long, .int], some .long⟩ := by decide +kernel
theorem pn_1 : plainName "com/example/tinyward/tinyward/PolicyPercentOfPinLaw" = true := by first | (simp [plainName, overriddenIn]; done) | decide +kernel
theorem ef_0 (m : MethodId) (i0 : Int64) (i1 : Int32) : entryFrame m #[(.long i0), (.int i1)] maxLocals = mkF m 0 #[.val (.long i0), .second, .val (.int i1), .unset, .unset, .unset, .unset, .unset, .unset, .unset, .unset, .unset] [] := by first | (simp [entryFrame, mkF, argsToLocals, Value.category, maxLocals]; done) | rfl
def Q0 (Z : State) (i0 : Int64) (i1 : Int32) (h0 : Heap) (n0 : Nat) (v : Option Value) (h : Heap) (L : List Loc) : Prop := v = some (.int 1) ∧ Fr n0 L
set_option maxRecDepth 65536 in
set_option maxHeartbeats 40000000 in
theorem rm0 (l : Launch) (Z : State) (a0 : Array Value) (hw : ∀ d ∈ tables_1, d.before a0 Z = true) (ws : List Jvm.Cond) (i0 : Int64) (i1 : Int32) (h0 : Heap) (n0 : Nat) (Z0 : n0 ≤ h0.size) :
    MetFree l x (head1 (Jvm.Cond.code x code maxLocals ret :: ws) room_1) (fun a' U => a' = #[(.long i0), (.int i1)] ∧ Z.Warmed39 U.vm ∧ U.heap = h0) (fun _ _ _ _ _ => True) (fun _ U o U' => ∃ v L, o = .returned v ∧ Q0 Z i0 i1 h0 n0 v U'.heap L ∧ FrameEnd U o U' L 0 0) := by
  refine MetFree.of_bodySF (plainFor_of_name pn_1) hisR ?_
  intro p e s m args' below meth c s₁ Bd hml0 hP hK
  obtain ⟨hargs, hZ, hh⟩ := hP
  have hx := Bd.exec
  have hby := Bd.bytes
  have hml : c.maxLocals = 12 := hml0
  have hown : s.vm.findClass "com/example/tinyward/tinyward/PolicyPercentOfPinLaw" = some m.cls := findClass_of_methodNamed Bd.named
  have hnm := (name_of_methodNamed Bd.named Bd.method).1
  have X0 : Stand p l e room_1 s m args' below meth c s₁ [] 0 0 := Stand.of_body Bd
  have e0 : s₁.heap = h0 := by rw [← hh, Bd.state]; rfl
  have N0 := Fr.nil n0
  obtain ⟨A0, hA0⟩ : ∃ A, A = s₁.setTop (mkF m 0 #[.val (.long i0), .second, .val (.int i1), .unset, .unset, .unset, .unset, .unset, .unset, .unset, .unset, .unset] []) := ⟨_, rfl⟩
  have P0 : own_Rch p.tables e below A0 (s₁.setTop (mkF m 0 #[.val (.long i0), .second, .val (.int i1), .unset, .unset, .unset, .unset, .unset, .unset, .unset, .unset, .unset] [])) := fun t k => hA0 ▸ k
  have P00 : own_Rch p.tables e below (s₁.setTop (entryFrame m args' maxLocals)) A0 := fun t k => by rw [hargs]; exact castTop (ef_0 m i0 i1) (hA0 ▸ k)
  have P1 : own_Rch p.tables e below A0 (s₁.setTop (mkF m 6 #[.val (.long i0), .second, .val (.int i1), .val (.long (i0 &&& (9223372036854775807 : Int64))), .second, .unset, .unset, .unset, .unset, .unset, .unset, .unset] [])) := fun t k => P0 t (by
    show Steps p.tables e below (s₁.setTop (mkF m 0 #[.val (.long i0), .second, .val (.int i1), .unset, .unset, .unset, .unset, .unset, .unset, .unset, .unset, .unset] [])) _
    refine XS.lloadN X0.here hx rfl (hb hby at_0) rfl ?_
    show Steps p.tables e below (s₁.setTop (mkF m 1 #[.val (.long i0), .second, .val (.int i1), .unset, .unset, .unset, .unset, .unset, .unset, .unset, .unset, .unset] [(.long i0)])) _
    refine X0.ldc2Long hx hown (mvT hZ (hw _ (List.mem_of_getElem? (i := 0) rfl))) (g := (mkF m 1 #[.val (.long i0), .second, .val (.int i1), .unset, .unset, .unset, .unset, .unset, .unset, .unset, .unset, .unset] [(.long i0)])) rfl (hb hby at_1) _ ?_
    show Steps p.tables e below (s₁.setTop (mkF m 4 #[.val (.long i0), .second, .val (.int i1), .unset, .unset, .unset, .unset, .unset, .unset, .unset, .unset, .unset] [(.long (9223372036854775807 : Int64)), (.long i0)])) _
    refine XS.land X0.here hx rfl (hb hby at_4) rfl ?_
    show Steps p.tables e below (s₁.setTop (mkF m 5 #[.val (.long i0), .second, .val (.int i1), .unset, .unset, .unset, .unset, .unset, .unset, .unset, .unset, .unset] [(.long (i0 &&& (9223372036854775807 : Int64)))])) _
    refine XS.lstoreN X0.here hx rfl (hb hby at_5) rfl (l' := #[.val (.long i0), .second, .val (.int i1), .val (.long (i0 &&& (9223372036854775807 : Int64))), .second, .unset, .unset, .unset, .unset, .unset, .unset, .unset]) rfl ?_
    exact k)
  obtain ⟨v2, hv2, P3⟩ : ∃ z : Int64, z = (i0 &&& (9223372036854775807 : Int64)) ∧ own_Rch p.tables e below A0 (s₁.setTop (mkF m 6 #[.val (.long i0), .second, .val (.int i1), .val (.long z), .second, .unset, .unset, .unset, .unset, .unset, .unset, .unset] [])) := ⟨_, rfl, P1⟩
  have P4 : own_Rch p.tables e below A0 (s₁.setTop (mkF m 15 #[.val (.long i0), .second, .val (.int i1), .val (.long v2), .second, .val (.int ((i1 &&& (2147483647 : Int32)) - (i1 &&& (2147483647 : Int32)) / (101 : Int32) * (101 : Int32))), .unset, .unset, .unset, .unset, .unset, .unset] [])) := fun t k => P3 t (by
    show Steps p.tables e below (s₁.setTop (mkF m 6 #[.val (.long i0), .second, .val (.int i1), .val (.long v2), .second, .unset, .unset, .unset, .unset, .unset, .unset, .unset] [])) _
    refine XS.iloadN X0.here hx rfl (hb hby at_6) rfl ?_
    show Steps p.tables e below (s₁.setTop (mkF m 7 #[.val (.long i0), .second, .val (.int i1), .val (.long v2), .second, .unset, .unset, .unset, .unset, .unset, .unset, .unset] [(.int i1)])) _
    refine X0.ldcInt hx hown (mvT hZ (hw _ (List.mem_of_getElem? (i := 1) rfl))) (g := (mkF m 7 #[.val (.long i0), .second, .val (.int i1), .val (.long v2), .second, .unset, .unset, .unset, .unset, .unset, .unset, .unset] [(.int i1)])) rfl (hb hby at_7) _ ?_
    show Steps p.tables e below (s₁.setTop (mkF m 9 #[.val (.long i0), .second, .val (.int i1), .val (.long v2), .second, .unset, .unset, .unset, .unset, .unset, .unset, .unset] [(.int (2147483647 : Int32)), (.int i1)])) _
    refine XS.iand X0.here hx rfl (hb hby at_9) rfl ?_
    show Steps p.tables e below (s₁.setTop (mkF m 10 #[.val (.long i0), .second, .val (.int i1), .val (.long v2), .second, .unset, .unset, .unset, .unset, .unset, .unset, .unset] [(.int (i1 &&& (2147483647 : Int32)))])) _
    refine XS.bipush X0.here hx rfl (hb hby at_10) ?_
    show Steps p.tables e below (s₁.setTop (mkF m 12 #[.val (.long i0), .second, .val (.int i1), .val (.long v2), .second, .unset, .unset, .unset, .unset, .unset, .unset, .unset] [(.int (101 : Int32)), (.int (i1 &&& (2147483647 : Int32)))])) _
    refine XS.irem X0.here hx rfl (hb hby at_12) rfl (by decide) ?_
    show Steps p.tables e below (s₁.setTop (mkF m 13 #[.val (.long i0), .second, .val (.int i1), .val (.long v2), .second, .unset, .unset, .unset, .unset, .unset, .unset, .unset] [(.int ((i1 &&& (2147483647 : Int32)) - (i1 &&& (2147483647 : Int32)) / (101 : Int32) * (101 : Int32)))])) _
    refine XS.istore X0.here hx rfl (hb hby at_13) rfl (l' := #[.val (.long i0), .second, .val (.int i1), .val (.long v2), .second, .val (.int ((i1 &&& (2147483647 : Int32)) - (i1 &&& (2147483647 : Int32)) / (101 : Int32) * (101 : Int32))), .unset, .unset, .unset, .unset, .unset, .unset]) rfl ?_
    exact k)
  obtain ⟨v5, hv5, P6⟩ : ∃ z : Int32, z = ((i1 &&& (2147483647 : Int32)) - (i1 &&& (2147483647 : Int32)) / (101 : Int32) * (101 : Int32)) ∧ own_Rch p.tables e below A0 (s₁.setTop (mkF m 15 #[.val (.long i0), .second, .val (.int i1), .val (.long v2), .second, .val (.int z), .unset, .unset, .unset, .unset, .unset, .unset] [])) := ⟨_, rfl, P4⟩
  have P7 : own_Rch p.tables e below A0 (s₁.setTop (mkF m 18 #[.val (.long i0), .second, .val (.int i1), .val (.long v2), .second, .val (.int v5), .unset, .unset, .unset, .unset, .unset, .unset] [(.int v5), (.long v2)])) := fun t k => P6 t (by
    show Steps p.tables e below (s₁.setTop (mkF m 15 #[.val (.long i0), .second, .val (.int i1), .val (.long v2), .second, .val (.int v5), .unset, .unset, .unset, .unset, .unset, .unset] [])) _
    refine XS.lloadN X0.here hx rfl (hb hby at_15) rfl ?_
    show Steps p.tables e below (s₁.setTop (mkF m 16 #[.val (.long i0), .second, .val (.int i1), .val (.long v2), .second, .val (.int v5), .unset, .unset, .unset, .unset, .unset, .unset] [(.long v2)])) _
    refine XS.iload X0.here hx rfl (hb hby at_16) rfl ?_
    exact k)
  obtain ⟨_, _, ⟨T8, L8, k8, n8⟩, -, X8, ⟨Lc8, hQ8, l8, y8, z8⟩, st8⟩ := Jvm.LawKit.callS X0 hx (y := (⟨"com/example/tinyward/tinyward/Policy", "percentOf", "(JI)J"⟩ : MethodName)) hown (mvT hZ (hw _ (List.mem_of_getElem? (i := 2) rfl))) (mvT hZ (hw _ (List.mem_of_getElem? (i := 3) rfl))) (mvT hZ (hw _ (List.mem_of_getElem? (i := 4) rfl))) (mvT hZ (hw _ (List.mem_of_getElem? (i := 5) rfl))) (by decide) (backOf (W := 0) (rm1 l Z a0 hw [] v2 v5 h0 n0 Z0 ) hZ (hw _ (List.mem_of_getElem? (i := 5) rfl)) (hw _ (List.mem_of_getElem? (i := 4) rfl)) (by decide) (by decide)) (g := (mkF m 18 #[.val (.long i0), .second, .val (.int i1), .val (.long v2), .second, .val (.int v5), .unset, .unset, .unset, .unset, .unset, .unset] [(.int v5), (.long v2)])) rfl (by rw [hml]; rfl) (argsL := [(.long v2), (.int v5)]) (rest := []) (lenOf pd_0 rfl) rfl (by show 2 * 0 + _ ≤ _; exact Nat.le_of_eq rfl) (hb hby at_18) (fun _ _ => ⟨rfl, e0, (by decide : (0) + 0 ≤ _), (by decide : (0) + 0 ≤ _)⟩)
  dsimp only [Pt.U, Pt.locs, Pt.cells, Pt.slots] at X8 l8 y8 z8 st8 hQ8
  subst l8 y8 z8
  obtain ⟨rfl, N8q, e8⟩ := hQ8
  have N8 := Fr.app N0 N8q
  have P9 : own_Rch p.tables e below A0 (T8.setTop (mkF m 21 #[.val (.long i0), .second, .val (.int i1), .val (.long v2), .second, .val (.int v5), .unset, .unset, .unset, .unset, .unset, .unset] [(.long (own_pct v2 v5))])) := fun t k => P7 t (st8 t k)
  have P10 : own_Rch p.tables e below A0 (T8.setTop (mkF m 23 #[.val (.long i0), .second, .val (.int i1), .val (.long v2), .second, .val (.int v5), .val (.long (own_pct v2 v5)), .second, .unset, .unset, .unset, .unset] [])) := fun t k => P9 t (by
    show Steps p.tables e below (T8.setTop (mkF m 21 #[.val (.long i0), .second, .val (.int i1), .val (.long v2), .second, .val (.int v5), .unset, .unset, .unset, .unset, .unset, .unset] [(.long (own_pct v2 v5))])) _
    refine XS.lstore X8.here hx rfl (hb hby at_21) rfl (l' := #[.val (.long i0), .second, .val (.int i1), .val (.long v2), .second, .val (.int v5), .val (.long (own_pct v2 v5)), .second, .unset, .unset, .unset, .unset]) rfl ?_
    exact k)
  obtain ⟨v11, hv11, P12⟩ : ∃ z : Int64, z = (own_pct v2 v5) ∧ own_Rch p.tables e below A0 (T8.setTop (mkF m 23 #[.val (.long i0), .second, .val (.int i1), .val (.long v2), .second, .val (.int v5), .val (.long z), .second, .unset, .unset, .unset, .unset] [])) := ⟨_, rfl, P10⟩
  have P13 : own_Rch p.tables e below A0 (T8.setTop (mkF m 34 #[.val (.long i0), .second, .val (.int i1), .val (.long v2), .second, .val (.int v5), .val (.long v11), .second, .val (.long ((v2 / (100 : Int64)) * (v5.toInt64))), .second, .unset, .unset] [])) := fun t k => P12 t (by
    show Steps p.tables e below (T8.setTop (mkF m 23 #[.val (.long i0), .second, .val (.int i1), .val (.long v2), .second, .val (.int v5), .val (.long v11), .second, .unset, .unset, .unset, .unset] [])) _
    refine XS.lloadN X8.here hx rfl (hb hby at_23) rfl ?_
    show Steps p.tables e below (T8.setTop (mkF m 24 #[.val (.long i0), .second, .val (.int i1), .val (.long v2), .second, .val (.int v5), .val (.long v11), .second, .unset, .unset, .unset, .unset] [(.long v2)])) _
    refine X8.ldc2Long hx hown (mvT hZ (hw _ (List.mem_of_getElem? (i := 7) rfl))) (g := (mkF m 24 #[.val (.long i0), .second, .val (.int i1), .val (.long v2), .second, .val (.int v5), .val (.long v11), .second, .unset, .unset, .unset, .unset] [(.long v2)])) rfl (hb hby at_24) _ ?_
    show Steps p.tables e below (T8.setTop (mkF m 27 #[.val (.long i0), .second, .val (.int i1), .val (.long v2), .second, .val (.int v5), .val (.long v11), .second, .unset, .unset, .unset, .unset] [(.long (100 : Int64)), (.long v2)])) _
    refine XS.ldiv X8.here hx rfl (hb hby at_27) rfl (by decide) ?_
    show Steps p.tables e below (T8.setTop (mkF m 28 #[.val (.long i0), .second, .val (.int i1), .val (.long v2), .second, .val (.int v5), .val (.long v11), .second, .unset, .unset, .unset, .unset] [(.long (v2 / (100 : Int64)))])) _
    refine XS.iload X8.here hx rfl (hb hby at_28) rfl ?_
    show Steps p.tables e below (T8.setTop (mkF m 30 #[.val (.long i0), .second, .val (.int i1), .val (.long v2), .second, .val (.int v5), .val (.long v11), .second, .unset, .unset, .unset, .unset] [(.int v5), (.long (v2 / (100 : Int64)))])) _
    refine XS.i2l X8.here hx rfl (hb hby at_30) rfl ?_
    show Steps p.tables e below (T8.setTop (mkF m 31 #[.val (.long i0), .second, .val (.int i1), .val (.long v2), .second, .val (.int v5), .val (.long v11), .second, .unset, .unset, .unset, .unset] [(.long (v5.toInt64)), (.long (v2 / (100 : Int64)))])) _
    refine XS.lmul X8.here hx rfl (hb hby at_31) rfl ?_
    show Steps p.tables e below (T8.setTop (mkF m 32 #[.val (.long i0), .second, .val (.int i1), .val (.long v2), .second, .val (.int v5), .val (.long v11), .second, .unset, .unset, .unset, .unset] [(.long ((v2 / (100 : Int64)) * (v5.toInt64)))])) _
    refine XS.lstore X8.here hx rfl (hb hby at_32) rfl (l' := #[.val (.long i0), .second, .val (.int i1), .val (.long v2), .second, .val (.int v5), .val (.long v11), .second, .val (.long ((v2 / (100 : Int64)) * (v5.toInt64))), .second, .unset, .unset]) rfl ?_
    exact k)
  obtain ⟨v14, hv14, P15⟩ : ∃ z : Int64, z = ((v2 / (100 : Int64)) * (v5.toInt64)) ∧ own_Rch p.tables e below A0 (T8.setTop (mkF m 34 #[.val (.long i0), .second, .val (.int i1), .val (.long v2), .second, .val (.int v5), .val (.long v11), .second, .val (.long z), .second, .unset, .unset] [])) := ⟨_, rfl, P13⟩
  have P17 : own_Rch p.tables e below A0 (T8.setTop (mkF m 39 #[.val (.long i0), .second, .val (.int i1), .val (.long v2), .second, .val (.int v5), .val (.long v11), .second, .val (.long v14), .second, .unset, .unset] [(.int (lcmpW v11 v14))])) := fun t k => P15 t (by
    show Steps p.tables e below (T8.setTop (mkF m 34 #[.val (.long i0), .second, .val (.int i1), .val (.long v2), .second, .val (.int v5), .val (.long v11), .second, .val (.long v14), .second, .unset, .unset] [])) _
    refine XS.lload X8.here hx rfl (hb hby at_34) rfl ?_
    show Steps p.tables e below (T8.setTop (mkF m 36 #[.val (.long i0), .second, .val (.int i1), .val (.long v2), .second, .val (.int v5), .val (.long v11), .second, .val (.long v14), .second, .unset, .unset] [(.long v11)])) _
    refine XS.lload X8.here hx rfl (hb hby at_36) rfl ?_
    show Steps p.tables e below (T8.setTop (mkF m 38 #[.val (.long i0), .second, .val (.int i1), .val (.long v2), .second, .val (.int v5), .val (.long v11), .second, .val (.long v14), .second, .unset, .unset] [(.long v14), (.long v11)])) _
    refine XS.lcmp X8.here hx rfl (hb hby at_38) rfl ?_
    exact k)
  by_cases hc16 : v11 < v14
  · -- v11 < v14
    have P18 : own_Rch p.tables e below A0 (T8.setTop (mkF m 55 #[.val (.long i0), .second, .val (.int i1), .val (.long v2), .second, .val (.int v5), .val (.long v11), .second, .val (.long v14), .second, .unset, .unset] [(.int (0 : Int32))])) := fun t k => P17 t (by
      show Steps p.tables e below (T8.setTop (mkF m 39 #[.val (.long i0), .second, .val (.int i1), .val (.long v2), .second, .val (.int v5), .val (.long v11), .second, .val (.long v14), .second, .unset, .unset] [(.int (lcmpW v11 v14))])) _
      refine XS.ifYes X8.here hx rfl (pc0 := 39) (pc' := 54) rfl (hb hby at_39) rfl (own_lct1 hc16).1 (by decide) (by decide) ?_
      show Steps p.tables e below (T8.setTop (mkF m 54 #[.val (.long i0), .second, .val (.int i1), .val (.long v2), .second, .val (.int v5), .val (.long v11), .second, .val (.long v14), .second, .unset, .unset] [])) _
      refine XS.iconst X8.here hx rfl (hb hby at_54) ?_
      exact k)
    obtain ⟨fs, hr, hrun, hended, hW, hsame⟩ := X8.leave (v := some (.int (nar .boolean (0 : Int32)))) (fun h => by rw [Bd.returns] at h; cases h)
    refine ⟨_, _, P00 _ (P18 _ ?_), hrun, hended, _, _, rfl, ?_, ⟨_, rfl⟩, hW, hsame.mono (by decide) (by decide)⟩
    · exact retN X8 hx (t := .boolean) Bd.returns (by simp) (hb hby at_55) hr
    · show Q0 Z i0 i1 h0 n0 _ T8.heap _
      rw [e8]
      refine ⟨?_, N8⟩
      subst hv14 hv11 hv5 hv2
      simp only [own_remI] at hc16
      first | exact absurd hc16 (own_ok i0 i1).1 | exact absurd hc16 (own_ok i0 i1).2.1 | exact absurd hc16 (own_ok i0 i1).2.2.1 | exact absurd (own_ok i0 i1).2.2.2 hc16
  · -- not v11 < v14
    have P20 : own_Rch p.tables e below A0 (T8.setTop (mkF m 51 #[.val (.long i0), .second, .val (.int i1), .val (.long v2), .second, .val (.int v5), .val (.long v11), .second, .val (.long v14), .second, .unset, .unset] [(.int (lcmpW (v11 - v14) (v5.toInt64)))])) := fun t k => P17 t (by
      show Steps p.tables e below (T8.setTop (mkF m 39 #[.val (.long i0), .second, .val (.int i1), .val (.long v2), .second, .val (.int v5), .val (.long v11), .second, .val (.long v14), .second, .unset, .unset] [(.int (lcmpW v11 v14))])) _
      refine XS.ifNo X8.here hx rfl (hb hby at_39) rfl (own_lcf1 hc16).1 ?_
      show Steps p.tables e below (T8.setTop (mkF m 42 #[.val (.long i0), .second, .val (.int i1), .val (.long v2), .second, .val (.int v5), .val (.long v11), .second, .val (.long v14), .second, .unset, .unset] [])) _
      refine XS.lload X8.here hx rfl (hb hby at_42) rfl ?_
      show Steps p.tables e below (T8.setTop (mkF m 44 #[.val (.long i0), .second, .val (.int i1), .val (.long v2), .second, .val (.int v5), .val (.long v11), .second, .val (.long v14), .second, .unset, .unset] [(.long v11)])) _
      refine XS.lload X8.here hx rfl (hb hby at_44) rfl ?_
      show Steps p.tables e below (T8.setTop (mkF m 46 #[.val (.long i0), .second, .val (.int i1), .val (.long v2), .second, .val (.int v5), .val (.long v11), .second, .val (.long v14), .second, .unset, .unset] [(.long v14), (.long v11)])) _
      refine XS.lsub X8.here hx rfl (hb hby at_46) rfl ?_
      show Steps p.tables e below (T8.setTop (mkF m 47 #[.val (.long i0), .second, .val (.int i1), .val (.long v2), .second, .val (.int v5), .val (.long v11), .second, .val (.long v14), .second, .unset, .unset] [(.long (v11 - v14))])) _
      refine XS.iload X8.here hx rfl (hb hby at_47) rfl ?_
      show Steps p.tables e below (T8.setTop (mkF m 49 #[.val (.long i0), .second, .val (.int i1), .val (.long v2), .second, .val (.int v5), .val (.long v11), .second, .val (.long v14), .second, .unset, .unset] [(.int v5), (.long (v11 - v14))])) _
      refine XS.i2l X8.here hx rfl (hb hby at_49) rfl ?_
      show Steps p.tables e below (T8.setTop (mkF m 50 #[.val (.long i0), .second, .val (.int i1), .val (.long v2), .second, .val (.int v5), .val (.long v11), .second, .val (.long v14), .second, .unset, .unset] [(.long (v5.toInt64)), (.long (v11 - v14))])) _
      refine XS.lcmp X8.here hx rfl (hb hby at_50) rfl ?_
      exact k)
    by_cases hc19 : (v5.toInt64) < (v11 - v14)
    · -- (v5.toInt64) < (v11 - v14)
      have P21 : own_Rch p.tables e below A0 (T8.setTop (mkF m 55 #[.val (.long i0), .second, .val (.int i1), .val (.long v2), .second, .val (.int v5), .val (.long v11), .second, .val (.long v14), .second, .unset, .unset] [(.int (0 : Int32))])) := fun t k => P20 t (by
        show Steps p.tables e below (T8.setTop (mkF m 51 #[.val (.long i0), .second, .val (.int i1), .val (.long v2), .second, .val (.int v5), .val (.long v11), .second, .val (.long v14), .second, .unset, .unset] [(.int (lcmpW (v11 - v14) (v5.toInt64)))])) _
        refine XS.ifNo X8.here hx rfl (hb hby at_51) rfl (own_lct2 hc19).2 ?_
        show Steps p.tables e below (T8.setTop (mkF m 54 #[.val (.long i0), .second, .val (.int i1), .val (.long v2), .second, .val (.int v5), .val (.long v11), .second, .val (.long v14), .second, .unset, .unset] [])) _
        refine XS.iconst X8.here hx rfl (hb hby at_54) ?_
        exact k)
      obtain ⟨fs, hr, hrun, hended, hW, hsame⟩ := X8.leave (v := some (.int (nar .boolean (0 : Int32)))) (fun h => by rw [Bd.returns] at h; cases h)
      refine ⟨_, _, P00 _ (P21 _ ?_), hrun, hended, _, _, rfl, ?_, ⟨_, rfl⟩, hW, hsame.mono (by decide) (by decide)⟩
      · exact retN X8 hx (t := .boolean) Bd.returns (by simp) (hb hby at_55) hr
      · show Q0 Z i0 i1 h0 n0 _ T8.heap _
        rw [e8]
        refine ⟨?_, N8⟩
        subst hv14 hv11 hv5 hv2
        simp only [own_remI] at hc19
        first | exact absurd hc19 (own_ok i0 i1).1 | exact absurd hc19 (own_ok i0 i1).2.1 | exact absurd hc19 (own_ok i0 i1).2.2.1 | exact absurd (own_ok i0 i1).2.2.2 hc19
    · -- not (v5.toInt64) < (v11 - v14)
      have P22 : own_Rch p.tables e below A0 (T8.setTop (mkF m 70 #[.val (.long i0), .second, .val (.int i1), .val (.long v2), .second, .val (.int v5), .val (.long v11), .second, .val (.long v14), .second, .val (.long ((v2 * (v5.toInt64)) - ((100 : Int64) * v11))), .second] [])) := fun t k => P20 t (by
        show Steps p.tables e below (T8.setTop (mkF m 51 #[.val (.long i0), .second, .val (.int i1), .val (.long v2), .second, .val (.int v5), .val (.long v11), .second, .val (.long v14), .second, .unset, .unset] [(.int (lcmpW (v11 - v14) (v5.toInt64)))])) _
        refine XS.ifYes X8.here hx rfl (pc0 := 51) (pc' := 56) rfl (hb hby at_51) rfl (own_lcf2 hc19).2 (by decide) (by decide) ?_
        show Steps p.tables e below (T8.setTop (mkF m 56 #[.val (.long i0), .second, .val (.int i1), .val (.long v2), .second, .val (.int v5), .val (.long v11), .second, .val (.long v14), .second, .unset, .unset] [])) _
        refine XS.lloadN X8.here hx rfl (hb hby at_56) rfl ?_
        show Steps p.tables e below (T8.setTop (mkF m 57 #[.val (.long i0), .second, .val (.int i1), .val (.long v2), .second, .val (.int v5), .val (.long v11), .second, .val (.long v14), .second, .unset, .unset] [(.long v2)])) _
        refine XS.iload X8.here hx rfl (hb hby at_57) rfl ?_
        show Steps p.tables e below (T8.setTop (mkF m 59 #[.val (.long i0), .second, .val (.int i1), .val (.long v2), .second, .val (.int v5), .val (.long v11), .second, .val (.long v14), .second, .unset, .unset] [(.int v5), (.long v2)])) _
        refine XS.i2l X8.here hx rfl (hb hby at_59) rfl ?_
        show Steps p.tables e below (T8.setTop (mkF m 60 #[.val (.long i0), .second, .val (.int i1), .val (.long v2), .second, .val (.int v5), .val (.long v11), .second, .val (.long v14), .second, .unset, .unset] [(.long (v5.toInt64)), (.long v2)])) _
        refine XS.lmul X8.here hx rfl (hb hby at_60) rfl ?_
        show Steps p.tables e below (T8.setTop (mkF m 61 #[.val (.long i0), .second, .val (.int i1), .val (.long v2), .second, .val (.int v5), .val (.long v11), .second, .val (.long v14), .second, .unset, .unset] [(.long (v2 * (v5.toInt64)))])) _
        refine X8.ldc2Long hx hown (mvT hZ (hw _ (List.mem_of_getElem? (i := 7) rfl))) (g := (mkF m 61 #[.val (.long i0), .second, .val (.int i1), .val (.long v2), .second, .val (.int v5), .val (.long v11), .second, .val (.long v14), .second, .unset, .unset] [(.long (v2 * (v5.toInt64)))])) rfl (hb hby at_61) _ ?_
        show Steps p.tables e below (T8.setTop (mkF m 64 #[.val (.long i0), .second, .val (.int i1), .val (.long v2), .second, .val (.int v5), .val (.long v11), .second, .val (.long v14), .second, .unset, .unset] [(.long (100 : Int64)), (.long (v2 * (v5.toInt64)))])) _
        refine XS.lload X8.here hx rfl (hb hby at_64) rfl ?_
        show Steps p.tables e below (T8.setTop (mkF m 66 #[.val (.long i0), .second, .val (.int i1), .val (.long v2), .second, .val (.int v5), .val (.long v11), .second, .val (.long v14), .second, .unset, .unset] [(.long v11), (.long (100 : Int64)), (.long (v2 * (v5.toInt64)))])) _
        refine XS.lmul X8.here hx rfl (hb hby at_66) rfl ?_
        show Steps p.tables e below (T8.setTop (mkF m 67 #[.val (.long i0), .second, .val (.int i1), .val (.long v2), .second, .val (.int v5), .val (.long v11), .second, .val (.long v14), .second, .unset, .unset] [(.long ((100 : Int64) * v11)), (.long (v2 * (v5.toInt64)))])) _
        refine XS.lsub X8.here hx rfl (hb hby at_67) rfl ?_
        show Steps p.tables e below (T8.setTop (mkF m 68 #[.val (.long i0), .second, .val (.int i1), .val (.long v2), .second, .val (.int v5), .val (.long v11), .second, .val (.long v14), .second, .unset, .unset] [(.long ((v2 * (v5.toInt64)) - ((100 : Int64) * v11)))])) _
        refine XS.lstore X8.here hx rfl (hb hby at_68) rfl (l' := #[.val (.long i0), .second, .val (.int i1), .val (.long v2), .second, .val (.int v5), .val (.long v11), .second, .val (.long v14), .second, .val (.long ((v2 * (v5.toInt64)) - ((100 : Int64) * v11))), .second]) rfl ?_
        exact k)
      obtain ⟨v23, hv23, P24⟩ : ∃ z : Int64, z = ((v2 * (v5.toInt64)) - ((100 : Int64) * v11)) ∧ own_Rch p.tables e below A0 (T8.setTop (mkF m 70 #[.val (.long i0), .second, .val (.int i1), .val (.long v2), .second, .val (.int v5), .val (.long v11), .second, .val (.long v14), .second, .val (.long z), .second] [])) := ⟨_, rfl, P22⟩
      have P26 : own_Rch p.tables e below A0 (T8.setTop (mkF m 74 #[.val (.long i0), .second, .val (.int i1), .val (.long v2), .second, .val (.int v5), .val (.long v11), .second, .val (.long v14), .second, .val (.long v23), .second] [(.int (lcmpW v23 (0 : Int64)))])) := fun t k => P24 t (by
        show Steps p.tables e below (T8.setTop (mkF m 70 #[.val (.long i0), .second, .val (.int i1), .val (.long v2), .second, .val (.int v5), .val (.long v11), .second, .val (.long v14), .second, .val (.long v23), .second] [])) _
        refine XS.lload X8.here hx rfl (hb hby at_70) rfl ?_
        show Steps p.tables e below (T8.setTop (mkF m 72 #[.val (.long i0), .second, .val (.int i1), .val (.long v2), .second, .val (.int v5), .val (.long v11), .second, .val (.long v14), .second, .val (.long v23), .second] [(.long v23)])) _
        refine XS.lconst X8.here hx rfl (hb hby at_72) ?_
        show Steps p.tables e below (T8.setTop (mkF m 73 #[.val (.long i0), .second, .val (.int i1), .val (.long v2), .second, .val (.int v5), .val (.long v11), .second, .val (.long v14), .second, .val (.long v23), .second] [(.long (0 : Int64)), (.long v23)])) _
        refine XS.lcmp X8.here hx rfl (hb hby at_73) rfl ?_
        exact k)
      by_cases hc25 : v23 < (0 : Int64)
      · -- v23 < (0 : Int64)
        have P27 : own_Rch p.tables e below A0 (T8.setTop (mkF m 91 #[.val (.long i0), .second, .val (.int i1), .val (.long v2), .second, .val (.int v5), .val (.long v11), .second, .val (.long v14), .second, .val (.long v23), .second] [(.int (0 : Int32))])) := fun t k => P26 t (by
          show Steps p.tables e below (T8.setTop (mkF m 74 #[.val (.long i0), .second, .val (.int i1), .val (.long v2), .second, .val (.int v5), .val (.long v11), .second, .val (.long v14), .second, .val (.long v23), .second] [(.int (lcmpW v23 (0 : Int64)))])) _
          refine XS.ifYes X8.here hx rfl (pc0 := 74) (pc' := 90) rfl (hb hby at_74) rfl (own_lct1 hc25).1 (by decide) (by decide) ?_
          show Steps p.tables e below (T8.setTop (mkF m 90 #[.val (.long i0), .second, .val (.int i1), .val (.long v2), .second, .val (.int v5), .val (.long v11), .second, .val (.long v14), .second, .val (.long v23), .second] [])) _
          refine XS.iconst X8.here hx rfl (hb hby at_90) ?_
          exact k)
        obtain ⟨fs, hr, hrun, hended, hW, hsame⟩ := X8.leave (v := some (.int (nar .boolean (0 : Int32)))) (fun h => by rw [Bd.returns] at h; cases h)
        refine ⟨_, _, P00 _ (P27 _ ?_), hrun, hended, _, _, rfl, ?_, ⟨_, rfl⟩, hW, hsame.mono (by decide) (by decide)⟩
        · exact retN X8 hx (t := .boolean) Bd.returns (by simp) (hb hby at_91) hr
        · show Q0 Z i0 i1 h0 n0 _ T8.heap _
          rw [e8]
          refine ⟨?_, N8⟩
          subst hv23 hv14 hv11 hv5 hv2
          simp only [own_remI] at hc25
          first | exact absurd hc25 (own_ok i0 i1).1 | exact absurd hc25 (own_ok i0 i1).2.1 | exact absurd hc25 (own_ok i0 i1).2.2.1 | exact absurd (own_ok i0 i1).2.2.2 hc25
      · -- not v23 < (0 : Int64)
        have P29 : own_Rch p.tables e below A0 (T8.setTop (mkF m 83 #[.val (.long i0), .second, .val (.int i1), .val (.long v2), .second, .val (.int v5), .val (.long v11), .second, .val (.long v14), .second, .val (.long v23), .second] [(.int (lcmpW v23 (100 : Int64)))])) := fun t k => P26 t (by
          show Steps p.tables e below (T8.setTop (mkF m 74 #[.val (.long i0), .second, .val (.int i1), .val (.long v2), .second, .val (.int v5), .val (.long v11), .second, .val (.long v14), .second, .val (.long v23), .second] [(.int (lcmpW v23 (0 : Int64)))])) _
          refine XS.ifNo X8.here hx rfl (hb hby at_74) rfl (own_lcf1 hc25).1 ?_
          show Steps p.tables e below (T8.setTop (mkF m 77 #[.val (.long i0), .second, .val (.int i1), .val (.long v2), .second, .val (.int v5), .val (.long v11), .second, .val (.long v14), .second, .val (.long v23), .second] [])) _
          refine XS.lload X8.here hx rfl (hb hby at_77) rfl ?_
          show Steps p.tables e below (T8.setTop (mkF m 79 #[.val (.long i0), .second, .val (.int i1), .val (.long v2), .second, .val (.int v5), .val (.long v11), .second, .val (.long v14), .second, .val (.long v23), .second] [(.long v23)])) _
          refine X8.ldc2Long hx hown (mvT hZ (hw _ (List.mem_of_getElem? (i := 7) rfl))) (g := (mkF m 79 #[.val (.long i0), .second, .val (.int i1), .val (.long v2), .second, .val (.int v5), .val (.long v11), .second, .val (.long v14), .second, .val (.long v23), .second] [(.long v23)])) rfl (hb hby at_79) _ ?_
          show Steps p.tables e below (T8.setTop (mkF m 82 #[.val (.long i0), .second, .val (.int i1), .val (.long v2), .second, .val (.int v5), .val (.long v11), .second, .val (.long v14), .second, .val (.long v23), .second] [(.long (100 : Int64)), (.long v23)])) _
          refine XS.lcmp X8.here hx rfl (hb hby at_82) rfl ?_
          exact k)
        by_cases hc28 : v23 < (100 : Int64)
        · -- v23 < (100 : Int64)
          have P30 : own_Rch p.tables e below A0 (T8.setTop (mkF m 91 #[.val (.long i0), .second, .val (.int i1), .val (.long v2), .second, .val (.int v5), .val (.long v11), .second, .val (.long v14), .second, .val (.long v23), .second] [(.int (1 : Int32))])) := fun t k => P29 t (by
            show Steps p.tables e below (T8.setTop (mkF m 83 #[.val (.long i0), .second, .val (.int i1), .val (.long v2), .second, .val (.int v5), .val (.long v11), .second, .val (.long v14), .second, .val (.long v23), .second] [(.int (lcmpW v23 (100 : Int64)))])) _
            refine XS.ifNo X8.here hx rfl (hb hby at_83) rfl (own_lct1 hc28).2 ?_
            show Steps p.tables e below (T8.setTop (mkF m 86 #[.val (.long i0), .second, .val (.int i1), .val (.long v2), .second, .val (.int v5), .val (.long v11), .second, .val (.long v14), .second, .val (.long v23), .second] [])) _
            refine XS.iconst X8.here hx rfl (hb hby at_86) ?_
            show Steps p.tables e below (T8.setTop (mkF m 87 #[.val (.long i0), .second, .val (.int i1), .val (.long v2), .second, .val (.int v5), .val (.long v11), .second, .val (.long v14), .second, .val (.long v23), .second] [(.int (1 : Int32))])) _
            refine XS.goto X8.here hx rfl (pc0 := 87) (pc' := 91) rfl (hb hby at_87) (by decide) (by decide) ?_
            exact k)
          obtain ⟨fs, hr, hrun, hended, hW, hsame⟩ := X8.leave (v := some (.int (nar .boolean (1 : Int32)))) (fun h => by rw [Bd.returns] at h; cases h)
          refine ⟨_, _, P00 _ (P30 _ ?_), hrun, hended, _, _, rfl, ?_, ⟨_, rfl⟩, hW, hsame.mono (by decide) (by decide)⟩
          · exact retN X8 hx (t := .boolean) Bd.returns (by simp) (hb hby at_91) hr
          · show Q0 Z i0 i1 h0 n0 _ T8.heap _
            rw [e8]
            refine ⟨?_, N8⟩
            rfl
        · -- not v23 < (100 : Int64)
          have P31 : own_Rch p.tables e below A0 (T8.setTop (mkF m 91 #[.val (.long i0), .second, .val (.int i1), .val (.long v2), .second, .val (.int v5), .val (.long v11), .second, .val (.long v14), .second, .val (.long v23), .second] [(.int (0 : Int32))])) := fun t k => P29 t (by
            show Steps p.tables e below (T8.setTop (mkF m 83 #[.val (.long i0), .second, .val (.int i1), .val (.long v2), .second, .val (.int v5), .val (.long v11), .second, .val (.long v14), .second, .val (.long v23), .second] [(.int (lcmpW v23 (100 : Int64)))])) _
            refine XS.ifYes X8.here hx rfl (pc0 := 83) (pc' := 90) rfl (hb hby at_83) rfl (own_lcf1 hc28).2 (by decide) (by decide) ?_
            show Steps p.tables e below (T8.setTop (mkF m 90 #[.val (.long i0), .second, .val (.int i1), .val (.long v2), .second, .val (.int v5), .val (.long v11), .second, .val (.long v14), .second, .val (.long v23), .second] [])) _
            refine XS.iconst X8.here hx rfl (hb hby at_90) ?_
            exact k)
          obtain ⟨fs, hr, hrun, hended, hW, hsame⟩ := X8.leave (v := some (.int (nar .boolean (0 : Int32)))) (fun h => by rw [Bd.returns] at h; cases h)
          refine ⟨_, _, P00 _ (P31 _ ?_), hrun, hended, _, _, rfl, ?_, ⟨_, rfl⟩, hW, hsame.mono (by decide) (by decide)⟩
          · exact retN X8 hx (t := .boolean) Bd.returns (by simp) (hb hby at_91) hr
          · show Q0 Z i0 i1 h0 n0 _ T8.heap _
            rw [e8]
            refine ⟨?_, N8⟩
            subst hv23 hv14 hv11 hv5 hv2
            simp only [own_remI] at hc28
            first | exact absurd hc28 (own_ok i0 i1).1 | exact absurd hc28 (own_ok i0 i1).2.1 | exact absurd hc28 (own_ok i0 i1).2.2.1 | exact absurd (own_ok i0 i1).2.2.2 hc28
set_option maxRecDepth 65536 in
set_option maxHeartbeats 40000000 in
theorem comes_1 {Post : Tables → Env → Array Value → State → Outcome → State → Prop} (hpost : ∀ tb e args s v u, (limb_1_1.after args s (.returned v) u = true ∧ limb_1_2.after args s (.returned v) u = true ∧ True) → FrameEnd s (.returned v) u (Jvm.fieldLocs frame_1_writes args s ++ Jvm.arrayLocs frame_1_arrays args s ++ Jvm.staticLocs frame_1_statics s) 0 0 → Post tb e args s (.returned v) u) :
    ArmFor flags0 classFile x code maxLocals ret World_1 tables_1 room_1 Calls_1 rest_1 Pre_1 Post := by
  intro l hfl _ _ p e ha hc hk s m args below hf hA hF happ hP
  obtain ⟨hcalls, hrest, hpre⟩ := hP
  obtain ⟨-, -, -, hnamed, -, -, -, hat⟩ := (Spec.applies_iff hf).mp happ
  obtain ⟨hg, hn⟩ := and_e (Cond.before_iff.mp (show (Jvm.Cond.and given_1 narrow_1).before args s = true from hpre))
  obtain ⟨ga0, gb0⟩ := and_e hg
  obtain ⟨ga1, gb1⟩ := and_e gb0
  obtain ⟨w0, w1, rfl⟩ : ∃ w0 w1 : Value, args = #[w0, w1] := by
    have hs : args.size = 2 := by simpa [Cond.value, given_1] using ga0
    obtain ⟨L⟩ := args
    match L, hs with
    | [w0, w1], _ => exact ⟨w0, w1, rfl⟩
  have hw := fun d (hd : d ∈ tables_1) => atoms_spec (ws := Jvm.Cond.code x code maxLocals ret :: tables_1) hat d (List.mem_cons_of_mem _ hd)
  have hfit : Fit s := fun {y c} hc i hi => by
    obtain ⟨ha, rfl⟩ := Array.getElem?_eq_some_iff.mp hc
    have q := List.all_eq_true.mp ((Array.all_eq_true_iff_forall_mem.mp hF) _ (Array.getElem_mem ha)) i (List.mem_range.mpr hi)
    simpa [Array.getElem?_eq_getElem hi] using q
  obtain ⟨i0, ei0⟩ := isL_v ga1
  obtain rfl : w0 = (.long i0) := Option.some.inj ei0
  obtain ⟨i1, ei1⟩ := is_v gb1
  obtain rfl : w1 = (.int i1) := Option.some.inj ei1
  obtain ⟨n, o, h1, h2, h3, _, L, rfl, ⟨rfl, N⟩, hq⟩ := rm0 l s _ hw tables_1 i0 i1  s.heap s.heap.size (Nat.le_refl _)  p e ha hc hk s m _ below hf ((Spec.applies_iff_loose hf).mp happ).1 ⟨rfl, State.Warmed39.refl s, rfl⟩ trivial
  refine ⟨n, _, h1, h2, h3, hpost _ _ _ _ _ _ ⟨Cond.after_iff.mpr rfl, Cond.after_iff.mpr (eq_i res_at (Term.int_eval (1)) rfl), trivial⟩ ⟨hq.1, hq.2.1, (hq.2.2.sift fun y hy => Or.inr (N y hy)).mono (by decide) (by decide)⟩⟩
theorem main_1_1 : Claimed_1_1 := comes_1 fun _ _ _ _ _ _ h hF => ⟨h.1, hF⟩
theorem main_1_2 : Claimed_1_2 := comes_1 fun _ _ _ _ _ _ h hF => ⟨h.2.1, hF⟩
end Jvm.Pilot.@@N@@
namespace Jvm.Pilot.@@N@@
open Jvm Jvm.ClassFile Sem Op Lib Jvm.Free Jvm.Stand Jvm.Pilot.@@N@@.Jvm.D
/-! MADE BY PROGRAM (witnessworld.py) out of the Statement's table words and the real class files: 9 classes; the members and pool entries that the words name. The judged class is class 1, her method 1. -/
namespace start1
open Jvm.ClassFile
def u (s : String) : CpInfo := .utf8 (stringToUtf16 s)
/-- a pool by its gaps: so many unusable entries, then the entry; so many at the end -/
def gap : Nat → List CpInfo → List CpInfo
  | 0, r => r
  | n + 1, r => .unusable :: gap n r
def poolList (es : List (Nat × CpInfo)) (last : Nat) : List CpInfo := es.foldr (fun e r => gap e.1 (e.2 :: r)) (gap last [])
def pool (es : List (Nat × CpInfo)) (last : Nat) : Array CpInfo := ⟨poolList es last⟩
def fileOf (pool : Array CpInfo) (this : Nat) (attrs : Array Attribute := #[]) (ms : Array MethodInfo := #[]) (fl : Nat := 33) (sup : Nat := 0) (ifs : Array Nat := #[]) (fds : Array FieldInfo := #[]) : ClassFile where
  minorVersion := 0
  majorVersion := 65
  constantPool := pool
  accessFlags := fl
  thisClass := this
  superClass := sup
  interfaces := ifs
  fields := fds
  methods := ms
  attributes := attrs
def plain (name : String) (sup : Option ClassId) : Class where
  name := name
  kind := .ordinary
  loader := none
  accessFlags := 33
  super := sup
  interfaces := #[]
  cf := none
  fields := #[]
  methods := #[]
  instanceTypes := #[]
  staticTypes := #[]
  resolved := #[]
  callSites := []
  init := .initialized
  statics := none
  mirror := none

def pool0 : Array CpInfo := pool [(5, u "<init>"), (0, u "()V"), (1, .class_ 10), (1, u "java/lang/Object")] 113

def k0m0 : Method := { name := "<init>", desc := "()V", sig := { parameters := [], returnType := none }, accessFlags := 1, code := none }
/-- java/lang/Object -/
def k0 : Class := { plain "java/lang/Object" none with
  accessFlags := 33
  interfaces := #[]
  cf := some (fileOf pool0 8 #[] #[{ accessFlags := 1, nameIndex := 5, descriptorIndex := 6, attributes := #[] }] 33 0 #[] #[])
  fields := #[]
  methods := #[k0m0]
  instanceTypes := #[]
  staticTypes := #[]
  resolved := Array.replicate 124 none
  statics := none }

def pool1 : Array CpInfo := pool [(2, .class_ 4), (1, u "java/lang/Object"), (0, u "<init>"), (0, u "()V"), (2, .long 9223372036854775807), (1, .integer 2147483647), (0, .methodref 13 14), (0, .class_ 15), (0, .nameAndType 16 17), (0, u "com/example/tinyward/tinyward/Policy"), (0, u "percentOf"), (0, u "(JI)J"), (0, .long 100), (1, .class_ 21), (0, u "com/example/tinyward/tinyward/PolicyPercentOfPinLaw"), (2, u "law"), (0, u "(JI)Z")] 3

def k1m0 : Method := { name := "<init>", desc := "()V", sig := { parameters := [], returnType := none }, accessFlags := 1, code := none }
def k1c1 : Code := { maxStack := 6, maxLocals := 12, code := code, exceptionTable := #[], attributes := #[] }
def k1m1 : Method := { name := "law", desc := "(JI)Z", sig := { parameters := [.long, .int], returnType := some .boolean }, accessFlags := 9, code := some k1c1 }
/-- com/example/tinyward/tinyward/PolicyPercentOfPinLaw -/
def k1 : Class := { plain "com/example/tinyward/tinyward/PolicyPercentOfPinLaw" (some 0) with
  accessFlags := 49
  interfaces := #[]
  cf := some (fileOf pool1 20 #[] #[{ accessFlags := 1, nameIndex := 5, descriptorIndex := 6, attributes := #[] }, { accessFlags := 9, nameIndex := 24, descriptorIndex := 25, attributes := #[] }] 49 2 #[] #[])
  fields := #[]
  methods := #[k1m0, k1m1]
  instanceTypes := #[]
  staticTypes := #[]
  resolved := Array.replicate 29 none
  statics := none }

def pool2 : Array CpInfo := pool [(2, .class_ 4), (1, u "java/lang/Object"), (6, .class_ 13), (1, u "com/example/tinyward/tinyward/Policy"), (0, u "window"), (0, u "Lcom/example/tinyward/tinyward/AccessOrder;"), (2, u "probation"), (2, u "protectedSpace"), (4, u "random"), (0, u "J"), (2, u "maximumSize"), (2, u "expiry"), (0, u "Lcom/example/tinyward/tinyward/Expiry;"), (2, u "evictFromMap"), (0, u "Ljava/util/function/Consumer;"), (7, u "sketch"), (0, u "Lcom/example/tinyward/tinyward/FrequencySketch;"), (2, u "percentOf"), (0, u "(JI)J"), (13, u "climber"), (0, u "Lcom/example/tinyward/tinyward/WindowClimber;"), (2, u "mainEarned"), (3, .long 100), (85, u "protectedMaximum"), (9, u "windowMaximum"), (51, u "HOT_CANDIDATE_FREQUENCY"), (0, u "I"), (2, u "HOT_CANDIDATE_ODDS"), (1, u "RANDOM_SEED"), (0, u "EARNED_PER_REUSE")] 43

def k2c0 : Code := { maxStack := 6, maxLocals := 3, code := prog_35_method_2_code, exceptionTable := #[], attributes := #[] }
def k2m0 : Method := { name := "percentOf", desc := "(JI)J", sig := { parameters := [.long, .int], returnType := some .long }, accessFlags := 8, code := some k2c0 }
/-- com/example/tinyward/tinyward/Policy -/
def k2 : Class := { plain "com/example/tinyward/tinyward/Policy" (some 0) with
  accessFlags := 48
  interfaces := #[]
  cf := some (fileOf pool2 11 #[] #[{ accessFlags := 8, nameIndex := 50, descriptorIndex := 51, attributes := #[] }] 48 2 #[] #[{ accessFlags := 26, nameIndex := 221, descriptorIndex := 222, attributes := #[] }, { accessFlags := 26, nameIndex := 225, descriptorIndex := 222, attributes := #[] }, { accessFlags := 26, nameIndex := 227, descriptorIndex := 27, attributes := #[] }, { accessFlags := 24, nameIndex := 228, descriptorIndex := 222, attributes := #[] }, { accessFlags := 18, nameIndex := 30, descriptorIndex := 27, attributes := #[] }, { accessFlags := 18, nameIndex := 33, descriptorIndex := 34, attributes := #[] }, { accessFlags := 18, nameIndex := 37, descriptorIndex := 38, attributes := #[] }, { accessFlags := 18, nameIndex := 14, descriptorIndex := 15, attributes := #[] }, { accessFlags := 18, nameIndex := 18, descriptorIndex := 15, attributes := #[] }, { accessFlags := 18, nameIndex := 21, descriptorIndex := 15, attributes := #[] }, { accessFlags := 18, nameIndex := 46, descriptorIndex := 47, attributes := #[] }, { accessFlags := 18, nameIndex := 65, descriptorIndex := 66, attributes := #[] }, { accessFlags := 2, nameIndex := 169, descriptorIndex := 27, attributes := #[] }, { accessFlags := 2, nameIndex := 159, descriptorIndex := 27, attributes := #[] }, { accessFlags := 2, nameIndex := 69, descriptorIndex := 27, attributes := #[] }, { accessFlags := 2, nameIndex := 26, descriptorIndex := 27, attributes := #[] }])
  fields := #[{ name := "HOT_CANDIDATE_FREQUENCY", type := .int, accessFlags := 26, slot := 0, constantValue := 0 }, { name := "HOT_CANDIDATE_ODDS", type := .int, accessFlags := 26, slot := 1, constantValue := 0 }, { name := "RANDOM_SEED", type := .long, accessFlags := 26, slot := 2, constantValue := 0 }, { name := "EARNED_PER_REUSE", type := .int, accessFlags := 24, slot := 3, constantValue := 0 }, { name := "maximumSize", type := .long, accessFlags := 18, slot := 0, constantValue := 0 }, { name := "expiry", type := (.object "com/example/tinyward/tinyward/Expiry"), accessFlags := 18, slot := 1, constantValue := 0 }, { name := "evictFromMap", type := (.object "java/util/function/Consumer"), accessFlags := 18, slot := 2, constantValue := 0 }, { name := "window", type := (.object "com/example/tinyward/tinyward/AccessOrder"), accessFlags := 18, slot := 3, constantValue := 0 }, { name := "probation", type := (.object "com/example/tinyward/tinyward/AccessOrder"), accessFlags := 18, slot := 4, constantValue := 0 }, { name := "protectedSpace", type := (.object "com/example/tinyward/tinyward/AccessOrder"), accessFlags := 18, slot := 5, constantValue := 0 }, { name := "sketch", type := (.object "com/example/tinyward/tinyward/FrequencySketch"), accessFlags := 18, slot := 6, constantValue := 0 }, { name := "climber", type := (.object "com/example/tinyward/tinyward/WindowClimber"), accessFlags := 18, slot := 7, constantValue := 0 }, { name := "windowMaximum", type := .long, accessFlags := 2, slot := 8, constantValue := 0 }, { name := "protectedMaximum", type := .long, accessFlags := 2, slot := 9, constantValue := 0 }, { name := "mainEarned", type := .long, accessFlags := 2, slot := 10, constantValue := 0 }, { name := "random", type := .long, accessFlags := 2, slot := 11, constantValue := 0 }]
  methods := #[k2m0]
  instanceTypes := #[.long, (.object "com/example/tinyward/tinyward/Expiry"), (.object "java/util/function/Consumer"), (.object "com/example/tinyward/tinyward/AccessOrder"), (.object "com/example/tinyward/tinyward/AccessOrder"), (.object "com/example/tinyward/tinyward/AccessOrder"), (.object "com/example/tinyward/tinyward/FrequencySketch"), (.object "com/example/tinyward/tinyward/WindowClimber"), .long, .long, .long, .long]
  staticTypes := #[.int, .int, .long, .int]
  resolved := Array.replicate 272 none
  statics := none }

def pool3 : Array CpInfo := pool [(1, u "java/lang/Cloneable"), (0, .class_ 1), (0, u "java/lang/Object"), (0, .class_ 3)] 3

/-- java/lang/Cloneable -/
def k3 : Class := { plain "java/lang/Cloneable" (some 0) with
  accessFlags := 1537
  interfaces := #[]
  cf := some (fileOf pool3 2 #[] #[] 1537 4 #[] #[])
  fields := #[]
  methods := #[]
  instanceTypes := #[]
  staticTypes := #[]
  resolved := Array.replicate 8 none
  statics := none }

def pool4 : Array CpInfo := pool [(1, u "java/io/Serializable"), (0, .class_ 1), (0, u "java/lang/Object"), (0, .class_ 3)] 3

/-- java/io/Serializable -/
def k4 : Class := { plain "java/io/Serializable" (some 0) with
  accessFlags := 1537
  interfaces := #[]
  cf := some (fileOf pool4 2 #[] #[] 1537 4 #[] #[])
  fields := #[]
  methods := #[]
  instanceTypes := #[]
  staticTypes := #[]
  resolved := Array.replicate 8 none
  statics := none }

/-- the primitive byte -/
def k5 : Class := { plain "byte" none with kind := .primitive 'B', accessFlags := 0x411 }
/-- [B -/
def k6 : Class := { plain "[B" (some 0) with kind := .array 5 .byte, interfaces := #[3, 4], accessFlags := 1041 }

/-- the primitive int -/
def k7 : Class := { plain "int" none with kind := .primitive 'I', accessFlags := 0x411 }
/-- [I -/
def k8 : Class := { plain "[I" (some 0) with kind := .array 7 .int, interfaces := #[3, 4], accessFlags := 1041 }

def heap : Heap := #[]
def classes : Array Class := #[k0, k1, k2, k3, k4, k5, k6, k7, k8]
def interned : List (Array UInt16 × Addr) := []
def slotsUsed : Nat := 0
def theMethod : MethodId := ⟨1, 1⟩
def args0 : Array Value := #[.long 50, .int 5]
def aboutOver (below : List Frame) : State where
  vm := { classes := classes, interned := interned.toArray }
  heap := heap
  slotsUsed := slotsUsed
  threads := #[{ frames := .invoking theMethod args0 :: below }]
def below0 : List Frame := [.native { method := ⟨0, 0⟩, args := #[] }]
def about1 : State := aboutOver below0
def p0 : Program := .bare "" "" ""
def e0 : Env := launch0.env 0 0 0
theorem w_frames : about1.frames = Frame.invoking theMethod args0 :: below0 := rfl
set_option maxRecDepth 65536 in
theorem w_args : argsFit about1.vm theMethod args0 = true := by decide +kernel
set_option maxRecDepth 65536 in
theorem w_heap : heapFits about1 = true := by decide +kernel
set_option maxRecDepth 65536 in
theorem w_runnable : about1.curStatus? = some .runnable := by decide +kernel
set_option maxRecDepth 65536 in
theorem w_alone : about1.alone = true := by decide +kernel
set_option maxRecDepth 65536 in
theorem w_named : about1.methodNamed? x = some theMethod := by decide +kernel
set_option maxRecDepth 65536 in
theorem w_hears : about1.hears theMethod below0 = true := by decide +kernel
set_option maxRecDepth 65536 in
theorem w_ripe : about1.ripe theMethod args0 below0 = true := by decide +kernel
theorem w_running : about1.status = .running := rfl
set_option maxRecDepth 65536 in
theorem w_room : about1.hasRoom e0.platform room_1 = true :=
  launch0.hasRoom_least _ room_1 (by decide +kernel) (by decide +kernel) (by decide +kernel) (by decide +kernel) (by decide +kernel) (by decide +kernel)
theorem allAtoms_all (ts : List Jvm.Cond) (a : Array Jvm.Value) (st : Jvm.State) : (allAtoms ts).before a st = ts.all (fun c => c.before a st) := by
  induction ts with
  | nil => rfl
  | cons c t ih =>
    show (Jvm.Cond.and c (allAtoms t)).before a st = _
    rw [Jvm.Cond.before_and, ih, List.all_cons]
def words1 : List Jvm.Cond := Jvm.Cond.code x code maxLocals ret :: tables_1
/-- a 'code' word, met by the world's own term for the bytes: nothing is compared byte by byte -/
theorem code_word {y : MethodName} {bytes : ByteArray} {mx : Nat} {rt : Option FieldType} {a : Array Value} {s : State} {m : MethodId} {meth : Method} {c : Code} (h1 : s.methodNamed? y = some m) (h2 : s.vm.method? m = some meth) (h3 : meth.code = some c) (h4 : c.code = bytes)
    (h5 : (c.maxLocals == mx && c.exceptionTable.isEmpty && decide (c.maxStack ≤ mostOperands) && decide (meth.sig.returnType = rt) && !meth.locks && decide (parseMethodDescriptor y.desc = some meth.sig)) = true) : (Jvm.Cond.code y bytes mx rt).before a s = true := by
  simp only [Bool.and_eq_true, beq_iff_eq, Bool.not_eq_true', decide_eq_true_eq] at h5
  obtain ⟨⟨⟨⟨⟨g1, g2⟩, g3⟩, g4⟩, g5⟩, g6⟩ := h5
  simp [Cond.before, Cond.holds, Cond.value, h1, h2, h3, h4, g1, g2, g3, g4, g5, g6]
def isCode : Jvm.Cond → Bool
  | .code _ _ _ _ => true
  | _ => false
theorem all_split {L : List Jvm.Cond} {P : Jvm.Cond → Bool} (h1 : L.all (fun c => isCode c || P c) = true) (h2 : ∀ c ∈ L.filter isCode, P c = true) : L.all P = true := by
  refine List.all_eq_true.mpr fun c hc => ?_
  have h := List.all_eq_true.mp h1 c hc
  rcases Bool.eq_false_or_eq_true (isCode c) with hi | hi
  · exact h2 c (List.mem_filter.mpr ⟨hc, hi⟩)
  · simpa [hi] using h
set_option maxRecDepth 65536 in
theorem w_c0 : (Jvm.Cond.code x code maxLocals ret).before args0 about1 = true := code_word (m := ⟨1, 1⟩) (meth := k1m1) (c := k1c1) (by decide +kernel) rfl rfl rfl (by decide +kernel)
set_option maxRecDepth 65536 in
theorem w_c1 : (Jvm.Cond.code ({ cls := "com/example/tinyward/tinyward/Policy", name := "percentOf", desc := "(JI)J" } : Jvm.MethodName) prog_35_method_2_code (3 : Nat) (Option.some Jvm.ClassFile.FieldType.long)).before args0 about1 = true := code_word (m := ⟨2, 0⟩) (meth := k2m0) (c := k2c0) (by decide +kernel) rfl rfl rfl (by decide +kernel)
def codes1 : List Jvm.Cond := [Jvm.Cond.code x code maxLocals ret, Jvm.Cond.code ({ cls := "com/example/tinyward/tinyward/Policy", name := "percentOf", desc := "(JI)J" } : Jvm.MethodName) prog_35_method_2_code (3 : Nat) (Option.some Jvm.ClassFile.FieldType.long)]
set_option maxRecDepth 65536 in
theorem codes_eq : words1.filter isCode = codes1 := rfl
theorem w_codes : ∀ c ∈ words1.filter isCode, c.before args0 about1 = true := by
  rw [codes_eq]
  intro c hc
  simp only [codes1, List.mem_cons, List.not_mem_nil, or_false] at hc
  rcases hc with rfl | rfl
  · exact w_c0
  · exact w_c1
set_option maxRecDepth 65536 in
theorem w_t1 : words1.all (fun c => isCode c || c.before args0 about1) = true := by decide +kernel
theorem w_tables : (allAtoms (Jvm.Cond.code x code maxLocals ret :: tables_1)).before args0 about1 = true := by
  rw [allAtoms_all]
  show words1.all (fun c => c.before args0 about1) = true
  refine all_split ?_ w_codes
  rw [w_t1]
set_option maxRecDepth 65536 in
theorem w_case : (Jvm.Cond.and given_1 narrow_1).before args0 about1 = true := by decide +kernel
theorem w_applies : (headSpec (Jvm.Cond.code x code maxLocals ret :: tables_1) room_1).applies x e0.platform about1 = true :=
  (Spec.applies_iff w_frames).mpr ⟨w_running, w_runnable, w_alone, w_named, w_hears, w_ripe, w_room, w_tables⟩
theorem atStart : AtStart classFile x code maxLocals ret World_1 tables_1 room_1 Calls_1 rest_1 Pre_1 launch0 p0 e0 about1 theMethod args0 below0 :=
  ⟨lists_1, trivial, launch0.admits_env _ _ _, launch0.least_env, fairChoices_fair.cas, fairChoices_fair.clock, w_frames, w_args, w_heap, w_applies, trivial, trivial, w_case⟩
end start1
theorem witness_1 : WitnessClaimed_1 := ⟨start1.p0, start1.e0, start1.about1, start1.theMethod, start1.args0, start1.below0, start1.atStart⟩
end Jvm.Pilot.@@N@@
