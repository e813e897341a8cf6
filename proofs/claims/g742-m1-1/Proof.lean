import JvmDerived
import JvmDerived.Pilot.@@N@@Statement
import JvmDerived.Pilot.@@N@@Code
set_option linter.unusedVariables false
set_option linter.unusedSimpArgs false
namespace Jvm.Pilot.@@N@@
open Jvm Jvm.ClassFile Sem Op Lib Jvm.Free Jvm.Stand Jvm.LawKit Jvm.RoadKit Bundle Jvm.Pilot.@@N@@.Jvm.D
/-- what runs on to t from B runs on to t from A -/
def own_Rch (tb : Tables) (e : Env) (below : List Frame) (A B : State) : Prop := ∀ t, Steps tb e below B t → Steps tb e below A t
theorem own_lct1 {a b : Int64} (h : a < b) : ifCond.holds .lt (lcmpW a b) = true ∧ ifCond.holds .ge (lcmpW a b) = false := by
  have h1 : ¬ b < a := fun q => by rw [Int64.lt_iff_toInt_lt] at h q; omega
  have h2 : ¬ a = b := fun q => by subst q; exact h1 h
  simp only [lcmpW, gt_iff_lt, h1, h2, if_false]; exact ⟨rfl, rfl⟩
theorem own_lcf1 {a b : Int64} (h : ¬ a < b) : ifCond.holds .lt (lcmpW a b) = false ∧ ifCond.holds .ge (lcmpW a b) = true := by
  by_cases h1 : b < a
  · simp only [lcmpW, gt_iff_lt, h1, if_true]; exact ⟨rfl, rfl⟩
  · have h2 : a = b := by rw [Int64.lt_iff_toInt_lt] at h h1; exact Int64.toInt_inj.mp (by omega)
    simp only [lcmpW, gt_iff_lt, h1, h2, if_false, if_true]; subst h2; simp only [Int64.lt_irrefl, if_false]; exact ⟨rfl, rfl⟩
theorem own_lct2 {a b : Int64} (h : b < a) : ifCond.holds .gt (lcmpW a b) = true ∧ ifCond.holds .le (lcmpW a b) = false := by
  simp only [lcmpW, gt_iff_lt, h, if_true]; exact ⟨rfl, rfl⟩
theorem own_lcf2 {a b : Int64} (h : ¬ b < a) : ifCond.holds .gt (lcmpW a b) = false ∧ ifCond.holds .le (lcmpW a b) = true := by
  by_cases h2 : a = b
  · simp only [lcmpW, gt_iff_lt, h, if_pos h2, if_false]; exact ⟨rfl, rfl⟩
  · simp only [lcmpW, gt_iff_lt, h, if_neg h2, if_false]; exact ⟨rfl, rfl⟩
theorem own_lct3 {a b : Int64} (h : a = b) : ifCond.holds .eq (lcmpW a b) = true ∧ ifCond.holds .ne (lcmpW a b) = false := by
  have h1 : ¬ b < a := fun q => by subst h; exact absurd q (Int64.lt_irrefl)
  simp only [lcmpW, gt_iff_lt, h1, if_pos h, if_false]; exact ⟨rfl, rfl⟩
theorem own_lcf3 {a b : Int64} (h : ¬ a = b) : ifCond.holds .eq (lcmpW a b) = false ∧ ifCond.holds .ne (lcmpW a b) = true := by
  by_cases h1 : b < a
  · simp only [lcmpW, gt_iff_lt, h1, if_true]; exact ⟨rfl, rfl⟩
  · simp only [lcmpW, gt_iff_lt, h1, if_neg h, if_false]; exact ⟨rfl, rfl⟩
theorem own_remI (x y : Int32) : x - x / y * y = x % y := by
  apply Int32.toInt_inj.mp
  have l := Int32.toInt_lt (x % y)
  have g := Int32.le_toInt (x % y)
  rw [Int32.toInt_sub, Int32.toInt_mul, Int32.toInt_div]
  simp only [Int.sub_bmod_bmod, Int.bmod_mul_bmod]
  rw [Int.mul_comm, ← Int.tmod_def, ← Int32.toInt_mod, Int.bmod_eq_of_le] <;> omega
theorem own_remL (x y : Int64) : x - x / y * y = x % y := by
  apply Int64.toInt_inj.mp
  have l := Int64.toInt_lt (x % y)
  have g := Int64.le_toInt (x % y)
  rw [Int64.toInt_sub, Int64.toInt_mul, Int64.toInt_div]
  simp only [Int.sub_bmod_bmod, Int.bmod_mul_bmod]
  rw [Int.mul_comm, ← Int.tmod_def, ← Int64.toInt_mod, Int.bmod_eq_of_le] <;> omega
def own_r (c : Int32) : Int32 := if c = 13 then 13 else if c = 10 then 10 else 0
theorem own_r13 (c : Int32) : (own_r c = 13) = (c = 13) := by
  unfold own_r; split
  · simp_all
  · split
    · rename_i h1 h2; subst h2; decide
    · rename_i h1 h2; simp only [h1, eq_iff_iff, iff_false]; decide
theorem own_r10 (c : Int32) : (own_r c = 10) = (c = 10) := by
  unfold own_r; split
  · rename_i h1; subst h1; decide
  · split
    · simp_all
    · rename_i h1 h2; simp only [h2, eq_iff_iff, iff_false]; decide
theorem own_p13 {c : Int32} (h : c = 13) : own_r c = 13 := by rw [own_r13]; exact h
theorem own_n13 {c : Int32} (h : ¬ c = 13) : ¬ own_r c = 13 := by rw [own_r13]; exact h
theorem own_p10 {c : Int32} (h : c = 10) : own_r c = 10 := by rw [own_r10]; exact h
theorem own_n10 {c : Int32} (h : ¬ c = 10) : ¬ own_r c = 10 := by rw [own_r10]; exact h
theorem own_rc (c : Int32) : own_r c = 13 ∨ own_r c = 10 ∨ own_r c = 0 := by
  unfold own_r; split
  · exact Or.inl rfl
  · split
    · exact Or.inr (Or.inl rfl)
    · exact Or.inr (Or.inr rfl)
theorem d1_0 : decode method_2_code 0 = .ok (.lload_n 0, 1) := by decide +kernel
theorem d1_1 : decode method_2_code 1 = .ok (.bipush 10, 2) := by decide +kernel
theorem d1_3 : decode method_2_code 3 = .ok (.iload_n 2, 1) := by decide +kernel
theorem d1_4 : decode method_2_code 4 = .ok (.imul, 1) := by decide +kernel
theorem d1_5 : decode method_2_code 5 = .ok (.lushr, 1) := by decide +kernel
theorem d1_6 : decode method_2_code 6 = .ok (.ldc2_w 7, 3) := by decide +kernel
theorem d1_9 : decode method_2_code 9 = .ok (.land, 1) := by decide +kernel
theorem d1_10 : decode method_2_code 10 = .ok (.lstore_n 3, 1) := by decide +kernel
theorem d1_11 : decode method_2_code 11 = .ok (.lload_n 3, 1) := by decide +kernel
theorem d1_12 : decode method_2_code 12 = .ok (.ldc2_w 9, 3) := by decide +kernel
theorem d1_15 : decode method_2_code 15 = .ok (.land, 1) := by decide +kernel
theorem d1_16 : decode method_2_code 16 = .ok (.l2i, 1) := by decide +kernel
theorem d1_17 : decode method_2_code 17 = .ok (.istore 5, 2) := by decide +kernel
theorem d1_19 : decode method_2_code 19 = .ok (.iload 5, 2) := by decide +kernel
theorem d1_21 : decode method_2_code 21 = .ok (.ifCond .ne 6, 3) := by decide +kernel
theorem d1_24 : decode method_2_code 24 = .ok (.bipush 13, 2) := by decide +kernel
theorem d1_26 : decode method_2_code 26 = .ok (.ireturn, 1) := by decide +kernel
theorem d1_27 : decode method_2_code 27 = .ok (.iload 5, 2) := by decide +kernel
theorem d1_29 : decode method_2_code 29 = .ok (.iconst 1, 1) := by decide +kernel
theorem d1_30 : decode method_2_code 30 = .ok (.if_icmp .ne 6, 3) := by decide +kernel
theorem d1_33 : decode method_2_code 33 = .ok (.bipush 10, 2) := by decide +kernel
theorem d1_35 : decode method_2_code 35 = .ok (.ireturn, 1) := by decide +kernel
theorem d1_36 : decode method_2_code 36 = .ok (.iload 5, 2) := by decide +kernel
theorem d1_38 : decode method_2_code 38 = .ok (.iconst 2, 1) := by decide +kernel
theorem d1_39 : decode method_2_code 39 = .ok (.if_icmp .ne 6, 3) := by decide +kernel
theorem d1_42 : decode method_2_code 42 = .ok (.bipush 71, 2) := by decide +kernel
theorem d1_44 : decode method_2_code 44 = .ok (.ireturn, 1) := by decide +kernel
theorem d1_45 : decode method_2_code 45 = .ok (.lload_n 3, 1) := by decide +kernel
theorem d1_46 : decode method_2_code 46 = .ok (.iconst 2, 1) := by decide +kernel
theorem d1_47 : decode method_2_code 47 = .ok (.lushr, 1) := by decide +kernel
theorem d1_48 : decode method_2_code 48 = .ok (.l2i, 1) := by decide +kernel
theorem d1_49 : decode method_2_code 49 = .ok (.i2b, 1) := by decide +kernel
theorem d1_50 : decode method_2_code 50 = .ok (.ireturn, 1) := by decide +kernel
def own_pick (q1 : Int64) (q2 : Int32) : Int32 := (if (((((q1.toUInt64 >>> (((10 : Int32) * q2) &&& 0x3f).toInt64.toUInt64).toInt64) &&& (1023 : Int64)) &&& (3 : Int64)).toInt32) = (0 : Int32) then (nar .byte (13 : Int32)) else (if (((((q1.toUInt64 >>> (((10 : Int32) * q2) &&& 0x3f).toInt64.toUInt64).toInt64) &&& (1023 : Int64)) &&& (3 : Int64)).toInt32) = (1 : Int32) then (nar .byte (10 : Int32)) else (if (((((q1.toUInt64 >>> (((10 : Int32) * q2) &&& 0x3f).toInt64.toUInt64).toInt64) &&& (1023 : Int64)) &&& (3 : Int64)).toInt32) = (2 : Int32) then (nar .byte (71 : Int32)) else (nar .byte (((((((q1.toUInt64 >>> (((10 : Int32) * q2) &&& 0x3f).toInt64.toUInt64).toInt64) &&& (1023 : Int64)).toUInt64 >>> ((2 : Int32) &&& 0x3f).toInt64.toUInt64).toInt64).toInt32).toInt8.toInt32)))))
theorem pn_0 : plainName "com/example/rackline/rackline/metrics/RequestHeadEndPinLaw" = true := by first | (simp [plainName, overriddenIn]; done) | decide +kernel
theorem ef_1 (m : MethodId) (q1 : Int64) (q2 : Int32) : entryFrame m #[(.long q1), (.int q2)] 6 = mkF m 0 #[.val (.long q1), .second, .val (.int q2), .unset, .unset, .unset] [] := by first | (simp [entryFrame, mkF, argsToLocals, Value.category]; done) | rfl
def Q1 (Z : State) (q1 : Int64) (q2 : Int32) (h0 : Heap) (n0 : Nat) (v : Option Value) (h : Heap) (L : List Loc) : Prop := v = some (.int (own_pick q1 q2)) ∧ Fr n0 L ∧ h = h0
set_option maxRecDepth 65536 in
set_option maxHeartbeats 40000000 in
theorem rm1 (l : Launch) (Z : State) (a0 : Array Value) (hw : ∀ d ∈ tables_1, d.before a0 Z = true) (ws : List Jvm.Cond) (q1 : Int64) (q2 : Int32) (h0 : Heap) (n0 : Nat) (Z0 : n0 ≤ h0.size) :
    MetFree l (⟨"com/example/rackline/rackline/metrics/RequestHeadEndPinLaw", "pick", "(JI)B"⟩ : MethodName) (head1 (Jvm.Cond.code (⟨"com/example/rackline/rackline/metrics/RequestHeadEndPinLaw", "pick", "(JI)B"⟩ : MethodName) method_2_code 6 (some .byte) :: ws) ({ frames := 0, cells := 0, slots := 0, locals := 0 } : Room)) (fun a' U => a' = #[(.long q1), (.int q2)] ∧ Z.Warmed39 U.vm ∧ U.heap = h0) (fun _ _ _ _ _ => True) (fun _ U o U' => ∃ v L, o = .returned v ∧ Q1 Z q1 q2 h0 n0 v U'.heap L ∧ FrameEnd U o U' L ({ frames := 0, cells := 0, slots := 0, locals := 0 } : Room).cells ({ frames := 0, cells := 0, slots := 0, locals := 0 } : Room).slots) := by
  refine MetFree.of_bodySF (plainFor_of_name pn_0) hisR ?_
  intro p e s m args' below meth c s₁ Bd hml0 hP hK
  obtain ⟨hargs, hZ, hh⟩ := hP
  have hx := Bd.exec
  have hby := Bd.bytes
  have hml : c.maxLocals = 6 := hml0
  have hown : s.vm.findClass "com/example/rackline/rackline/metrics/RequestHeadEndPinLaw" = some m.cls := findClass_of_methodNamed Bd.named
  have hnm := (name_of_methodNamed Bd.named Bd.method).1
  have X0 : Stand p l e ({ frames := 0, cells := 0, slots := 0, locals := 0 } : Room) s m args' below meth c s₁ [] 0 0 := Stand.of_body Bd
  have e0 : s₁.heap = h0 := by rw [← hh, Bd.state]; rfl
  have N0 := Fr.nil n0
  obtain ⟨A0, hA0⟩ : ∃ A, A = s₁.setTop (mkF m 0 #[.val (.long q1), .second, .val (.int q2), .unset, .unset, .unset] []) := ⟨_, rfl⟩
  have P0 : own_Rch p.tables e below A0 (s₁.setTop (mkF m 0 #[.val (.long q1), .second, .val (.int q2), .unset, .unset, .unset] [])) := fun t k => hA0 ▸ k
  have P00 : own_Rch p.tables e below (s₁.setTop (entryFrame m args' 6)) A0 := fun t k => by rw [hargs]; exact castTop (ef_1 m q1 q2) (hA0 ▸ k)
  have P1 : own_Rch p.tables e below A0 (s₁.setTop (mkF m 11 #[.val (.long q1), .second, .val (.int q2), .val (.long (((q1.toUInt64 >>> (((10 : Int32) * q2) &&& 0x3f).toInt64.toUInt64).toInt64) &&& (1023 : Int64))), .second, .unset] [])) := fun t k => P0 t (by
    show Steps p.tables e below (s₁.setTop (mkF m 0 #[.val (.long q1), .second, .val (.int q2), .unset, .unset, .unset] [])) _
    refine XS.lloadN X0.here hx rfl (hb hby d1_0) rfl ?_
    show Steps p.tables e below (s₁.setTop (mkF m 1 #[.val (.long q1), .second, .val (.int q2), .unset, .unset, .unset] [(.long q1)])) _
    refine XS.bipush X0.here hx rfl (hb hby d1_1) ?_
    show Steps p.tables e below (s₁.setTop (mkF m 3 #[.val (.long q1), .second, .val (.int q2), .unset, .unset, .unset] [(.int (10 : Int32)), (.long q1)])) _
    refine XS.iloadN X0.here hx rfl (hb hby d1_3) rfl ?_
    show Steps p.tables e below (s₁.setTop (mkF m 4 #[.val (.long q1), .second, .val (.int q2), .unset, .unset, .unset] [(.int q2), (.int (10 : Int32)), (.long q1)])) _
    refine XS.imul X0.here hx rfl (hb hby d1_4) rfl ?_
    show Steps p.tables e below (s₁.setTop (mkF m 5 #[.val (.long q1), .second, .val (.int q2), .unset, .unset, .unset] [(.int ((10 : Int32) * q2)), (.long q1)])) _
    refine XS.lushr X0.here hx rfl (hb hby d1_5) rfl ?_
    show Steps p.tables e below (s₁.setTop (mkF m 6 #[.val (.long q1), .second, .val (.int q2), .unset, .unset, .unset] [(.long ((q1.toUInt64 >>> (((10 : Int32) * q2) &&& 0x3f).toInt64.toUInt64).toInt64))])) _
    refine X0.ldc2Long hx hown (mvT hZ (hw _ (List.mem_of_getElem? (i := 6) rfl))) (g := (mkF m 6 #[.val (.long q1), .second, .val (.int q2), .unset, .unset, .unset] [(.long ((q1.toUInt64 >>> (((10 : Int32) * q2) &&& 0x3f).toInt64.toUInt64).toInt64))])) rfl (hb hby d1_6) _ ?_
    show Steps p.tables e below (s₁.setTop (mkF m 9 #[.val (.long q1), .second, .val (.int q2), .unset, .unset, .unset] [(.long (1023 : Int64)), (.long ((q1.toUInt64 >>> (((10 : Int32) * q2) &&& 0x3f).toInt64.toUInt64).toInt64))])) _
    refine XS.land X0.here hx rfl (hb hby d1_9) rfl ?_
    show Steps p.tables e below (s₁.setTop (mkF m 10 #[.val (.long q1), .second, .val (.int q2), .unset, .unset, .unset] [(.long (((q1.toUInt64 >>> (((10 : Int32) * q2) &&& 0x3f).toInt64.toUInt64).toInt64) &&& (1023 : Int64)))])) _
    refine XS.lstoreN X0.here hx rfl (hb hby d1_10) rfl (l' := #[.val (.long q1), .second, .val (.int q2), .val (.long (((q1.toUInt64 >>> (((10 : Int32) * q2) &&& 0x3f).toInt64.toUInt64).toInt64) &&& (1023 : Int64))), .second, .unset]) rfl ?_
    exact k)
  obtain ⟨v2, hv2, P3⟩ : ∃ z : Int64, z = (((q1.toUInt64 >>> (((10 : Int32) * q2) &&& 0x3f).toInt64.toUInt64).toInt64) &&& (1023 : Int64)) ∧ own_Rch p.tables e below A0 (s₁.setTop (mkF m 11 #[.val (.long q1), .second, .val (.int q2), .val (.long z), .second, .unset] [])) := ⟨_, rfl, P1⟩
  have P4 : own_Rch p.tables e below A0 (s₁.setTop (mkF m 19 #[.val (.long q1), .second, .val (.int q2), .val (.long v2), .second, .val (.int ((v2 &&& (3 : Int64)).toInt32))] [])) := fun t k => P3 t (by
    show Steps p.tables e below (s₁.setTop (mkF m 11 #[.val (.long q1), .second, .val (.int q2), .val (.long v2), .second, .unset] [])) _
    refine XS.lloadN X0.here hx rfl (hb hby d1_11) rfl ?_
    show Steps p.tables e below (s₁.setTop (mkF m 12 #[.val (.long q1), .second, .val (.int q2), .val (.long v2), .second, .unset] [(.long v2)])) _
    refine X0.ldc2Long hx hown (mvT hZ (hw _ (List.mem_of_getElem? (i := 7) rfl))) (g := (mkF m 12 #[.val (.long q1), .second, .val (.int q2), .val (.long v2), .second, .unset] [(.long v2)])) rfl (hb hby d1_12) _ ?_
    show Steps p.tables e below (s₁.setTop (mkF m 15 #[.val (.long q1), .second, .val (.int q2), .val (.long v2), .second, .unset] [(.long (3 : Int64)), (.long v2)])) _
    refine XS.land X0.here hx rfl (hb hby d1_15) rfl ?_
    show Steps p.tables e below (s₁.setTop (mkF m 16 #[.val (.long q1), .second, .val (.int q2), .val (.long v2), .second, .unset] [(.long (v2 &&& (3 : Int64)))])) _
    refine XS.l2i X0.here hx rfl (hb hby d1_16) rfl ?_
    show Steps p.tables e below (s₁.setTop (mkF m 17 #[.val (.long q1), .second, .val (.int q2), .val (.long v2), .second, .unset] [(.int ((v2 &&& (3 : Int64)).toInt32))])) _
    refine XS.istore X0.here hx rfl (hb hby d1_17) rfl (l' := #[.val (.long q1), .second, .val (.int q2), .val (.long v2), .second, .val (.int ((v2 &&& (3 : Int64)).toInt32))]) rfl ?_
    exact k)
  obtain ⟨v5, hv5, P6⟩ : ∃ z : Int32, z = ((v2 &&& (3 : Int64)).toInt32) ∧ own_Rch p.tables e below A0 (s₁.setTop (mkF m 19 #[.val (.long q1), .second, .val (.int q2), .val (.long v2), .second, .val (.int z)] [])) := ⟨_, rfl, P4⟩
  have P8 : own_Rch p.tables e below A0 (s₁.setTop (mkF m 21 #[.val (.long q1), .second, .val (.int q2), .val (.long v2), .second, .val (.int v5)] [(.int v5)])) := fun t k => P6 t (by
    show Steps p.tables e below (s₁.setTop (mkF m 19 #[.val (.long q1), .second, .val (.int q2), .val (.long v2), .second, .val (.int v5)] [])) _
    refine XS.iload X0.here hx rfl (hb hby d1_19) rfl ?_
    exact k)
  by_cases hc7 : v5 = (0 : Int32)
  · -- v5 = (0 : Int32)
    have P9 : own_Rch p.tables e below A0 (s₁.setTop (mkF m 26 #[.val (.long q1), .second, .val (.int q2), .val (.long v2), .second, .val (.int v5)] [(.int (13 : Int32))])) := fun t k => P8 t (by
      show Steps p.tables e below (s₁.setTop (mkF m 21 #[.val (.long q1), .second, .val (.int q2), .val (.long v2), .second, .val (.int v5)] [(.int v5)])) _
      refine XS.ifNo X0.here hx rfl (hb hby d1_21) rfl ((if0 _ _).trans (teq hc7).2) ?_
      show Steps p.tables e below (s₁.setTop (mkF m 24 #[.val (.long q1), .second, .val (.int q2), .val (.long v2), .second, .val (.int v5)] [])) _
      refine XS.bipush X0.here hx rfl (hb hby d1_24) ?_
      exact k)
    obtain ⟨fs, hr, hrun, hended, hW, hsame⟩ := X0.leave (v := some (.int (nar .byte (13 : Int32)))) (fun h => by rw [Bd.returns] at h; cases h)
    refine ⟨_, _, P00 _ (P9 _ ?_), hrun, hended, _, _, rfl, ?_, ⟨_, rfl⟩, hW, hsame.mono (by decide) (by decide)⟩
    · exact retN X0 hx (t := .byte) Bd.returns (by simp) (hb hby d1_26) hr
    · show Q1 Z q1 q2 h0 n0 _ s₁.heap _
      rw [e0]
      refine ⟨?_, N0, rfl⟩
      subst hv5 hv2
      (try simp only [own_pick, if_pos hc7])
      (try rfl)
  · -- not v5 = (0 : Int32)
    have P11 : own_Rch p.tables e below A0 (s₁.setTop (mkF m 30 #[.val (.long q1), .second, .val (.int q2), .val (.long v2), .second, .val (.int v5)] [(.int (1 : Int32)), (.int v5)])) := fun t k => P8 t (by
      show Steps p.tables e below (s₁.setTop (mkF m 21 #[.val (.long q1), .second, .val (.int q2), .val (.long v2), .second, .val (.int v5)] [(.int v5)])) _
      refine XS.ifYes X0.here hx rfl (pc0 := 21) (pc' := 27) rfl (hb hby d1_21) rfl ((if0 _ _).trans (feq hc7).2) (by decide) (by decide) ?_
      show Steps p.tables e below (s₁.setTop (mkF m 27 #[.val (.long q1), .second, .val (.int q2), .val (.long v2), .second, .val (.int v5)] [])) _
      refine XS.iload X0.here hx rfl (hb hby d1_27) rfl ?_
      show Steps p.tables e below (s₁.setTop (mkF m 29 #[.val (.long q1), .second, .val (.int q2), .val (.long v2), .second, .val (.int v5)] [(.int v5)])) _
      refine XS.iconst X0.here hx rfl (hb hby d1_29) ?_
      exact k)
    by_cases hc10 : v5 = (1 : Int32)
    · -- v5 = (1 : Int32)
      have P12 : own_Rch p.tables e below A0 (s₁.setTop (mkF m 35 #[.val (.long q1), .second, .val (.int q2), .val (.long v2), .second, .val (.int v5)] [(.int (10 : Int32))])) := fun t k => P11 t (by
        show Steps p.tables e below (s₁.setTop (mkF m 30 #[.val (.long q1), .second, .val (.int q2), .val (.long v2), .second, .val (.int v5)] [(.int (1 : Int32)), (.int v5)])) _
        refine XS.icmpNo X0.here hx rfl (hb hby d1_30) rfl (teq hc10).2 ?_
        show Steps p.tables e below (s₁.setTop (mkF m 33 #[.val (.long q1), .second, .val (.int q2), .val (.long v2), .second, .val (.int v5)] [])) _
        refine XS.bipush X0.here hx rfl (hb hby d1_33) ?_
        exact k)
      obtain ⟨fs, hr, hrun, hended, hW, hsame⟩ := X0.leave (v := some (.int (nar .byte (10 : Int32)))) (fun h => by rw [Bd.returns] at h; cases h)
      refine ⟨_, _, P00 _ (P12 _ ?_), hrun, hended, _, _, rfl, ?_, ⟨_, rfl⟩, hW, hsame.mono (by decide) (by decide)⟩
      · exact retN X0 hx (t := .byte) Bd.returns (by simp) (hb hby d1_35) hr
      · show Q1 Z q1 q2 h0 n0 _ s₁.heap _
        rw [e0]
        refine ⟨?_, N0, rfl⟩
        subst hv5 hv2
        (try simp only [own_pick, if_neg hc7, if_pos hc10])
        (try rfl)
    · -- not v5 = (1 : Int32)
      have P14 : own_Rch p.tables e below A0 (s₁.setTop (mkF m 39 #[.val (.long q1), .second, .val (.int q2), .val (.long v2), .second, .val (.int v5)] [(.int (2 : Int32)), (.int v5)])) := fun t k => P11 t (by
        show Steps p.tables e below (s₁.setTop (mkF m 30 #[.val (.long q1), .second, .val (.int q2), .val (.long v2), .second, .val (.int v5)] [(.int (1 : Int32)), (.int v5)])) _
        refine XS.icmpYes X0.here hx rfl (pc0 := 30) (pc' := 36) rfl (hb hby d1_30) rfl (feq hc10).2 (by decide) (by decide) ?_
        show Steps p.tables e below (s₁.setTop (mkF m 36 #[.val (.long q1), .second, .val (.int q2), .val (.long v2), .second, .val (.int v5)] [])) _
        refine XS.iload X0.here hx rfl (hb hby d1_36) rfl ?_
        show Steps p.tables e below (s₁.setTop (mkF m 38 #[.val (.long q1), .second, .val (.int q2), .val (.long v2), .second, .val (.int v5)] [(.int v5)])) _
        refine XS.iconst X0.here hx rfl (hb hby d1_38) ?_
        exact k)
      by_cases hc13 : v5 = (2 : Int32)
      · -- v5 = (2 : Int32)
        have P15 : own_Rch p.tables e below A0 (s₁.setTop (mkF m 44 #[.val (.long q1), .second, .val (.int q2), .val (.long v2), .second, .val (.int v5)] [(.int (71 : Int32))])) := fun t k => P14 t (by
          show Steps p.tables e below (s₁.setTop (mkF m 39 #[.val (.long q1), .second, .val (.int q2), .val (.long v2), .second, .val (.int v5)] [(.int (2 : Int32)), (.int v5)])) _
          refine XS.icmpNo X0.here hx rfl (hb hby d1_39) rfl (teq hc13).2 ?_
          show Steps p.tables e below (s₁.setTop (mkF m 42 #[.val (.long q1), .second, .val (.int q2), .val (.long v2), .second, .val (.int v5)] [])) _
          refine XS.bipush X0.here hx rfl (hb hby d1_42) ?_
          exact k)
        obtain ⟨fs, hr, hrun, hended, hW, hsame⟩ := X0.leave (v := some (.int (nar .byte (71 : Int32)))) (fun h => by rw [Bd.returns] at h; cases h)
        refine ⟨_, _, P00 _ (P15 _ ?_), hrun, hended, _, _, rfl, ?_, ⟨_, rfl⟩, hW, hsame.mono (by decide) (by decide)⟩
        · exact retN X0 hx (t := .byte) Bd.returns (by simp) (hb hby d1_44) hr
        · show Q1 Z q1 q2 h0 n0 _ s₁.heap _
          rw [e0]
          refine ⟨?_, N0, rfl⟩
          subst hv5 hv2
          (try simp only [own_pick, if_neg hc7, if_neg hc10, if_pos hc13])
          (try rfl)
      · -- not v5 = (2 : Int32)
        have P16 : own_Rch p.tables e below A0 (s₁.setTop (mkF m 50 #[.val (.long q1), .second, .val (.int q2), .val (.long v2), .second, .val (.int v5)] [(.int ((((v2.toUInt64 >>> ((2 : Int32) &&& 0x3f).toInt64.toUInt64).toInt64).toInt32).toInt8.toInt32))])) := fun t k => P14 t (by
          show Steps p.tables e below (s₁.setTop (mkF m 39 #[.val (.long q1), .second, .val (.int q2), .val (.long v2), .second, .val (.int v5)] [(.int (2 : Int32)), (.int v5)])) _
          refine XS.icmpYes X0.here hx rfl (pc0 := 39) (pc' := 45) rfl (hb hby d1_39) rfl (feq hc13).2 (by decide) (by decide) ?_
          show Steps p.tables e below (s₁.setTop (mkF m 45 #[.val (.long q1), .second, .val (.int q2), .val (.long v2), .second, .val (.int v5)] [])) _
          refine XS.lloadN X0.here hx rfl (hb hby d1_45) rfl ?_
          show Steps p.tables e below (s₁.setTop (mkF m 46 #[.val (.long q1), .second, .val (.int q2), .val (.long v2), .second, .val (.int v5)] [(.long v2)])) _
          refine XS.iconst X0.here hx rfl (hb hby d1_46) ?_
          show Steps p.tables e below (s₁.setTop (mkF m 47 #[.val (.long q1), .second, .val (.int q2), .val (.long v2), .second, .val (.int v5)] [(.int (2 : Int32)), (.long v2)])) _
          refine XS.lushr X0.here hx rfl (hb hby d1_47) rfl ?_
          show Steps p.tables e below (s₁.setTop (mkF m 48 #[.val (.long q1), .second, .val (.int q2), .val (.long v2), .second, .val (.int v5)] [(.long ((v2.toUInt64 >>> ((2 : Int32) &&& 0x3f).toInt64.toUInt64).toInt64))])) _
          refine XS.l2i X0.here hx rfl (hb hby d1_48) rfl ?_
          show Steps p.tables e below (s₁.setTop (mkF m 49 #[.val (.long q1), .second, .val (.int q2), .val (.long v2), .second, .val (.int v5)] [(.int (((v2.toUInt64 >>> ((2 : Int32) &&& 0x3f).toInt64.toUInt64).toInt64).toInt32))])) _
          refine XS.i2b X0.here hx rfl (hb hby d1_49) rfl ?_
          exact k)
        obtain ⟨fs, hr, hrun, hended, hW, hsame⟩ := X0.leave (v := some (.int (nar .byte ((((v2.toUInt64 >>> ((2 : Int32) &&& 0x3f).toInt64.toUInt64).toInt64).toInt32).toInt8.toInt32)))) (fun h => by rw [Bd.returns] at h; cases h)
        refine ⟨_, _, P00 _ (P16 _ ?_), hrun, hended, _, _, rfl, ?_, ⟨_, rfl⟩, hW, hsame.mono (by decide) (by decide)⟩
        · exact retN X0 hx (t := .byte) Bd.returns (by simp) (hb hby d1_50) hr
        · show Q1 Z q1 q2 h0 n0 _ s₁.heap _
          rw [e0]
          refine ⟨?_, N0, rfl⟩
          subst hv5 hv2
          (try simp only [own_pick, if_neg hc7, if_neg hc10, if_neg hc13])
          (try rfl)
theorem d2_0 : decode method_3_code 0 = .ok (.iload_n 0, 1) := by decide +kernel
theorem d2_1 : decode method_3_code 1 = .ok (.bipush 13, 2) := by decide +kernel
theorem d2_3 : decode method_3_code 3 = .ok (.if_icmp .eq 9, 3) := by decide +kernel
theorem d2_6 : decode method_3_code 6 = .ok (.iload_n 0, 1) := by decide +kernel
theorem d2_7 : decode method_3_code 7 = .ok (.bipush 10, 2) := by decide +kernel
theorem d2_9 : decode method_3_code 9 = .ok (.if_icmp .ne 7, 3) := by decide +kernel
theorem d2_12 : decode method_3_code 12 = .ok (.iconst 1, 1) := by decide +kernel
theorem d2_13 : decode method_3_code 13 = .ok (.goto 4, 3) := by decide +kernel
theorem d2_16 : decode method_3_code 16 = .ok (.iconst 0, 1) := by decide +kernel
theorem d2_17 : decode method_3_code 17 = .ok (.ireturn, 1) := by decide +kernel
def own_brk (q1 : Int32) : Int32 := (if q1 = (13 : Int32) then (1 : Int32) else (if q1 = (10 : Int32) then (1 : Int32) else (0 : Int32)))
theorem ef_2 (m : MethodId) (q1 : Int32) : entryFrame m #[(.int q1)] 1 = mkF m 0 #[.val (.int q1)] [] := by first | (simp [entryFrame, mkF, argsToLocals, Value.category]; done) | rfl
def Q2 (Z : State) (q1 : Int32) (h0 : Heap) (n0 : Nat) (v : Option Value) (h : Heap) (L : List Loc) : Prop := v = some (.int (own_brk q1)) ∧ Fr n0 L ∧ h = h0
set_option maxRecDepth 65536 in
set_option maxHeartbeats 40000000 in
theorem rm2 (l : Launch) (Z : State) (a0 : Array Value) (hw : ∀ d ∈ tables_1, d.before a0 Z = true) (ws : List Jvm.Cond) (q1 : Int32) (h0 : Heap) (n0 : Nat) (Z0 : n0 ≤ h0.size) :
    MetFree l (⟨"com/example/rackline/rackline/metrics/RequestHeadEndPinLaw", "brk", "(B)Z"⟩ : MethodName) (head1 (Jvm.Cond.code (⟨"com/example/rackline/rackline/metrics/RequestHeadEndPinLaw", "brk", "(B)Z"⟩ : MethodName) method_3_code 1 (some .boolean) :: ws) ({ frames := 0, cells := 0, slots := 0, locals := 0 } : Room)) (fun a' U => a' = #[(.int q1)] ∧ Z.Warmed39 U.vm ∧ U.heap = h0) (fun _ _ _ _ _ => True) (fun _ U o U' => ∃ v L, o = .returned v ∧ Q2 Z q1 h0 n0 v U'.heap L ∧ FrameEnd U o U' L ({ frames := 0, cells := 0, slots := 0, locals := 0 } : Room).cells ({ frames := 0, cells := 0, slots := 0, locals := 0 } : Room).slots) := by
  refine MetFree.of_bodySF (plainFor_of_name pn_0) hisR ?_
  intro p e s m args' below meth c s₁ Bd hml0 hP hK
  obtain ⟨hargs, hZ, hh⟩ := hP
  have hx := Bd.exec
  have hby := Bd.bytes
  have hml : c.maxLocals = 1 := hml0
  have hown : s.vm.findClass "com/example/rackline/rackline/metrics/RequestHeadEndPinLaw" = some m.cls := findClass_of_methodNamed Bd.named
  have hnm := (name_of_methodNamed Bd.named Bd.method).1
  have X0 : Stand p l e ({ frames := 0, cells := 0, slots := 0, locals := 0 } : Room) s m args' below meth c s₁ [] 0 0 := Stand.of_body Bd
  have e0 : s₁.heap = h0 := by rw [← hh, Bd.state]; rfl
  have N0 := Fr.nil n0
  obtain ⟨A0, hA0⟩ : ∃ A, A = s₁.setTop (mkF m 0 #[.val (.int q1)] []) := ⟨_, rfl⟩
  have P0 : own_Rch p.tables e below A0 (s₁.setTop (mkF m 0 #[.val (.int q1)] [])) := fun t k => hA0 ▸ k
  have P00 : own_Rch p.tables e below (s₁.setTop (entryFrame m args' 1)) A0 := fun t k => by rw [hargs]; exact castTop (ef_2 m q1) (hA0 ▸ k)
  have P2 : own_Rch p.tables e below A0 (s₁.setTop (mkF m 3 #[.val (.int q1)] [(.int (13 : Int32)), (.int q1)])) := fun t k => P0 t (by
    show Steps p.tables e below (s₁.setTop (mkF m 0 #[.val (.int q1)] [])) _
    refine XS.iloadN X0.here hx rfl (hb hby d2_0) rfl ?_
    show Steps p.tables e below (s₁.setTop (mkF m 1 #[.val (.int q1)] [(.int q1)])) _
    refine XS.bipush X0.here hx rfl (hb hby d2_1) ?_
    exact k)
  by_cases hc1 : q1 = (13 : Int32)
  · -- q1 = (13 : Int32)
    have P3 : own_Rch p.tables e below A0 (s₁.setTop (mkF m 17 #[.val (.int q1)] [(.int (1 : Int32))])) := fun t k => P2 t (by
      show Steps p.tables e below (s₁.setTop (mkF m 3 #[.val (.int q1)] [(.int (13 : Int32)), (.int q1)])) _
      refine XS.icmpYes X0.here hx rfl (pc0 := 3) (pc' := 12) rfl (hb hby d2_3) rfl (teq hc1).1 (by decide) (by decide) ?_
      show Steps p.tables e below (s₁.setTop (mkF m 12 #[.val (.int q1)] [])) _
      refine XS.iconst X0.here hx rfl (hb hby d2_12) ?_
      show Steps p.tables e below (s₁.setTop (mkF m 13 #[.val (.int q1)] [(.int (1 : Int32))])) _
      refine XS.goto X0.here hx rfl (pc0 := 13) (pc' := 17) rfl (hb hby d2_13) (by decide) (by decide) ?_
      exact k)
    obtain ⟨fs, hr, hrun, hended, hW, hsame⟩ := X0.leave (v := some (.int (nar .boolean (1 : Int32)))) (fun h => by rw [Bd.returns] at h; cases h)
    refine ⟨_, _, P00 _ (P3 _ ?_), hrun, hended, _, _, rfl, ?_, ⟨_, rfl⟩, hW, hsame.mono (by decide) (by decide)⟩
    · exact retN X0 hx (t := .boolean) Bd.returns (by simp) (hb hby d2_17) hr
    · show Q2 Z q1 h0 n0 _ s₁.heap _
      rw [e0]
      refine ⟨?_, N0, rfl⟩
      skip
      (try simp only [own_brk, if_pos hc1])
      (try rfl)
  · -- not q1 = (13 : Int32)
    have P5 : own_Rch p.tables e below A0 (s₁.setTop (mkF m 9 #[.val (.int q1)] [(.int (10 : Int32)), (.int q1)])) := fun t k => P2 t (by
      show Steps p.tables e below (s₁.setTop (mkF m 3 #[.val (.int q1)] [(.int (13 : Int32)), (.int q1)])) _
      refine XS.icmpNo X0.here hx rfl (hb hby d2_3) rfl (feq hc1).1 ?_
      show Steps p.tables e below (s₁.setTop (mkF m 6 #[.val (.int q1)] [])) _
      refine XS.iloadN X0.here hx rfl (hb hby d2_6) rfl ?_
      show Steps p.tables e below (s₁.setTop (mkF m 7 #[.val (.int q1)] [(.int q1)])) _
      refine XS.bipush X0.here hx rfl (hb hby d2_7) ?_
      exact k)
    by_cases hc4 : q1 = (10 : Int32)
    · -- q1 = (10 : Int32)
      have P6 : own_Rch p.tables e below A0 (s₁.setTop (mkF m 17 #[.val (.int q1)] [(.int (1 : Int32))])) := fun t k => P5 t (by
        show Steps p.tables e below (s₁.setTop (mkF m 9 #[.val (.int q1)] [(.int (10 : Int32)), (.int q1)])) _
        refine XS.icmpNo X0.here hx rfl (hb hby d2_9) rfl (teq hc4).2 ?_
        show Steps p.tables e below (s₁.setTop (mkF m 12 #[.val (.int q1)] [])) _
        refine XS.iconst X0.here hx rfl (hb hby d2_12) ?_
        show Steps p.tables e below (s₁.setTop (mkF m 13 #[.val (.int q1)] [(.int (1 : Int32))])) _
        refine XS.goto X0.here hx rfl (pc0 := 13) (pc' := 17) rfl (hb hby d2_13) (by decide) (by decide) ?_
        exact k)
      obtain ⟨fs, hr, hrun, hended, hW, hsame⟩ := X0.leave (v := some (.int (nar .boolean (1 : Int32)))) (fun h => by rw [Bd.returns] at h; cases h)
      refine ⟨_, _, P00 _ (P6 _ ?_), hrun, hended, _, _, rfl, ?_, ⟨_, rfl⟩, hW, hsame.mono (by decide) (by decide)⟩
      · exact retN X0 hx (t := .boolean) Bd.returns (by simp) (hb hby d2_17) hr
      · show Q2 Z q1 h0 n0 _ s₁.heap _
        rw [e0]
        refine ⟨?_, N0, rfl⟩
        skip
        (try simp only [own_brk, if_neg hc1, if_pos hc4])
        (try rfl)
    · -- not q1 = (10 : Int32)
      have P7 : own_Rch p.tables e below A0 (s₁.setTop (mkF m 17 #[.val (.int q1)] [(.int (0 : Int32))])) := fun t k => P5 t (by
        show Steps p.tables e below (s₁.setTop (mkF m 9 #[.val (.int q1)] [(.int (10 : Int32)), (.int q1)])) _
        refine XS.icmpYes X0.here hx rfl (pc0 := 9) (pc' := 16) rfl (hb hby d2_9) rfl (feq hc4).2 (by decide) (by decide) ?_
        show Steps p.tables e below (s₁.setTop (mkF m 16 #[.val (.int q1)] [])) _
        refine XS.iconst X0.here hx rfl (hb hby d2_16) ?_
        exact k)
      obtain ⟨fs, hr, hrun, hended, hW, hsame⟩ := X0.leave (v := some (.int (nar .boolean (0 : Int32)))) (fun h => by rw [Bd.returns] at h; cases h)
      refine ⟨_, _, P00 _ (P7 _ ?_), hrun, hended, _, _, rfl, ?_, ⟨_, rfl⟩, hW, hsame.mono (by decide) (by decide)⟩
      · exact retN X0 hx (t := .boolean) Bd.returns (by simp) (hb hby d2_17) hr
      · show Q2 Z q1 h0 n0 _ s₁.heap _
        rw [e0]
        refine ⟨?_, N0, rfl⟩
        skip
        (try simp only [own_brk, if_neg hc1, if_neg hc4])
        (try rfl)
theorem d3_0 : decode method_4_code 0 = .ok (.iload_n 3, 1) := by decide +kernel
theorem d3_1 : decode method_4_code 1 = .ok (.iload_n 1, 1) := by decide +kernel
theorem d3_2 : decode method_4_code 2 = .ok (.if_icmp .le 5, 3) := by decide +kernel
theorem d3_5 : decode method_4_code 5 = .ok (.iconst 0, 1) := by decide +kernel
theorem d3_6 : decode method_4_code 6 = .ok (.ireturn, 1) := by decide +kernel
theorem d3_7 : decode method_4_code 7 = .ok (.aload_n 0, 1) := by decide +kernel
theorem d3_8 : decode method_4_code 8 = .ok (.iload_n 3, 1) := by decide +kernel
theorem d3_9 : decode method_4_code 9 = .ok (.iconst 1, 1) := by decide +kernel
theorem d3_10 : decode method_4_code 10 = .ok (.isub, 1) := by decide +kernel
theorem d3_11 : decode method_4_code 11 = .ok (.baload, 1) := by decide +kernel
theorem d3_12 : decode method_4_code 12 = .ok (.bipush 10, 2) := by decide +kernel
theorem d3_14 : decode method_4_code 14 = .ok (.if_icmp .eq 5, 3) := by decide +kernel
theorem d3_17 : decode method_4_code 17 = .ok (.iconst 0, 1) := by decide +kernel
theorem d3_18 : decode method_4_code 18 = .ok (.ireturn, 1) := by decide +kernel
theorem d3_19 : decode method_4_code 19 = .ok (.iload_n 3, 1) := by decide +kernel
theorem d3_20 : decode method_4_code 20 = .ok (.iconst 2, 1) := by decide +kernel
theorem d3_21 : decode method_4_code 21 = .ok (.isub, 1) := by decide +kernel
theorem d3_22 : decode method_4_code 22 = .ok (.iload_n 2, 1) := by decide +kernel
theorem d3_23 : decode method_4_code 23 = .ok (.if_icmp .le 15, 3) := by decide +kernel
theorem d3_26 : decode method_4_code 26 = .ok (.aload_n 0, 1) := by decide +kernel
theorem d3_27 : decode method_4_code 27 = .ok (.iload_n 3, 1) := by decide +kernel
theorem d3_28 : decode method_4_code 28 = .ok (.iconst 2, 1) := by decide +kernel
theorem d3_29 : decode method_4_code 29 = .ok (.isub, 1) := by decide +kernel
theorem d3_30 : decode method_4_code 30 = .ok (.baload, 1) := by decide +kernel
theorem d3_31 : decode method_4_code 31 = .ok (.bipush 10, 2) := by decide +kernel
theorem d3_33 : decode method_4_code 33 = .ok (.if_icmp .ne 5, 3) := by decide +kernel
theorem d3_36 : decode method_4_code 36 = .ok (.iconst 1, 1) := by decide +kernel
theorem d3_37 : decode method_4_code 37 = .ok (.ireturn, 1) := by decide +kernel
theorem d3_38 : decode method_4_code 38 = .ok (.iload_n 3, 1) := by decide +kernel
theorem d3_39 : decode method_4_code 39 = .ok (.iconst 3, 1) := by decide +kernel
theorem d3_40 : decode method_4_code 40 = .ok (.isub, 1) := by decide +kernel
theorem d3_41 : decode method_4_code 41 = .ok (.iload_n 2, 1) := by decide +kernel
theorem d3_42 : decode method_4_code 42 = .ok (.if_icmp .le 27, 3) := by decide +kernel
theorem d3_45 : decode method_4_code 45 = .ok (.aload_n 0, 1) := by decide +kernel
theorem d3_46 : decode method_4_code 46 = .ok (.iload_n 3, 1) := by decide +kernel
theorem d3_47 : decode method_4_code 47 = .ok (.iconst 2, 1) := by decide +kernel
theorem d3_48 : decode method_4_code 48 = .ok (.isub, 1) := by decide +kernel
theorem d3_49 : decode method_4_code 49 = .ok (.baload, 1) := by decide +kernel
theorem d3_50 : decode method_4_code 50 = .ok (.bipush 13, 2) := by decide +kernel
theorem d3_52 : decode method_4_code 52 = .ok (.if_icmp .ne 17, 3) := by decide +kernel
theorem d3_55 : decode method_4_code 55 = .ok (.aload_n 0, 1) := by decide +kernel
theorem d3_56 : decode method_4_code 56 = .ok (.iload_n 3, 1) := by decide +kernel
theorem d3_57 : decode method_4_code 57 = .ok (.iconst 3, 1) := by decide +kernel
theorem d3_58 : decode method_4_code 58 = .ok (.isub, 1) := by decide +kernel
theorem d3_59 : decode method_4_code 59 = .ok (.baload, 1) := by decide +kernel
theorem d3_60 : decode method_4_code 60 = .ok (.bipush 10, 2) := by decide +kernel
theorem d3_62 : decode method_4_code 62 = .ok (.if_icmp .ne 7, 3) := by decide +kernel
theorem d3_65 : decode method_4_code 65 = .ok (.iconst 1, 1) := by decide +kernel
theorem d3_66 : decode method_4_code 66 = .ok (.goto 4, 3) := by decide +kernel
theorem d3_69 : decode method_4_code 69 = .ok (.iconst 0, 1) := by decide +kernel
theorem d3_70 : decode method_4_code 70 = .ok (.ireturn, 1) := by decide +kernel
def own_e2 (q1 : Int32) (q2 : Int32) (c0 : Int32) (c1 : Int32) (c2 : Int32) (c3 : Int32) (c4 : Int32) (c5 : Int32) : Int32 := (if q1 < (2 : Int32) then (0 : Int32) else (if c1 = (10 : Int32) then (if q2 < (0 : Int32) then (if c0 = (10 : Int32) then (1 : Int32) else (0 : Int32)) else (0 : Int32)) else (0 : Int32)))
theorem ef_3e2 (m : MethodId) (a : Addr) (q1 : Int32) (q2 : Int32) : entryFrame m #[(.ref a), (.int q1), (.int q2), (.int (2 : Int32))] 4 = mkF m 0 #[.val (.ref a), .val (.int q1), .val (.int q2), .val (.int (2 : Int32))] [] := by first | (simp [entryFrame, mkF, argsToLocals, Value.category]; done) | rfl
def Q3e2 (Z : State) (a : Addr) (ka : ClassId) (q1 : Int32) (q2 : Int32) (c0 : Int32) (c1 : Int32) (c2 : Int32) (c3 : Int32) (c4 : Int32) (c5 : Int32) (h0 : Heap) (n0 : Nat) (v : Option Value) (h : Heap) (L : List Loc) : Prop := v = some (.int (own_e2 q1 q2 c0 c1 c2 c3 c4 c5)) ∧ Fr n0 L ∧ h = h0
set_option maxRecDepth 65536 in
set_option maxHeartbeats 40000000 in
theorem rm3e2 (l : Launch) (Z : State) (a0 : Array Value) (hw : ∀ d ∈ tables_1, d.before a0 Z = true) (ws : List Jvm.Cond) (a : Addr) (ka : ClassId) (q1 : Int32) (q2 : Int32) (c0 : Int32) (c1 : Int32) (c2 : Int32) (c3 : Int32) (c4 : Int32) (c5 : Int32) (h0 : Heap) (n0 : Nat) (Z0 : n0 ≤ h0.size) (V_a : Arv Z h0 a ka .byte (6 : Int32) [(.int c0), (.int c1), (.int c2), (.int c3), (.int c4), (.int c5)] (.int (0 : Int32))) (hq2 : ¬ (q2 < (-1 : Int32))) :
    MetFree l (⟨"com/example/rackline/rackline/metrics/RequestHeadEndPinLaw", "endsAt", "([BIII)Z"⟩ : MethodName) (head1 (Jvm.Cond.code (⟨"com/example/rackline/rackline/metrics/RequestHeadEndPinLaw", "endsAt", "([BIII)Z"⟩ : MethodName) method_4_code 4 (some .boolean) :: ws) ({ frames := 0, cells := 0, slots := 0, locals := 0 } : Room)) (fun a' U => a' = #[(.ref a), (.int q1), (.int q2), (.int (2 : Int32))] ∧ Z.Warmed39 U.vm ∧ U.heap = h0) (fun _ _ _ _ _ => True) (fun _ U o U' => ∃ v L, o = .returned v ∧ Q3e2 Z a ka q1 q2 c0 c1 c2 c3 c4 c5 h0 n0 v U'.heap L ∧ FrameEnd U o U' L ({ frames := 0, cells := 0, slots := 0, locals := 0 } : Room).cells ({ frames := 0, cells := 0, slots := 0, locals := 0 } : Room).slots) := by
  refine MetFree.of_bodySF (plainFor_of_name pn_0) hisR ?_
  intro p e s m args' below meth c s₁ Bd hml0 hP hK
  obtain ⟨hargs, hZ, hh⟩ := hP
  have hx := Bd.exec
  have hby := Bd.bytes
  have hml : c.maxLocals = 4 := hml0
  have hown : s.vm.findClass "com/example/rackline/rackline/metrics/RequestHeadEndPinLaw" = some m.cls := findClass_of_methodNamed Bd.named
  have hnm := (name_of_methodNamed Bd.named Bd.method).1
  have X0 : Stand p l e ({ frames := 0, cells := 0, slots := 0, locals := 0 } : Room) s m args' below meth c s₁ [] 0 0 := Stand.of_body Bd
  have e0 : s₁.heap = h0 := by rw [← hh, Bd.state]; rfl
  have N0 := Fr.nil n0
  obtain ⟨A0, hA0⟩ : ∃ A, A = s₁.setTop (mkF m 0 #[.val (.ref a), .val (.int q1), .val (.int q2), .val (.int (2 : Int32))] []) := ⟨_, rfl⟩
  have P0 : own_Rch p.tables e below A0 (s₁.setTop (mkF m 0 #[.val (.ref a), .val (.int q1), .val (.int q2), .val (.int (2 : Int32))] [])) := fun t k => hA0 ▸ k
  have P00 : own_Rch p.tables e below (s₁.setTop (entryFrame m args' 4)) A0 := fun t k => by rw [hargs]; exact castTop (ef_3e2 m a q1 q2) (hA0 ▸ k)
  have P2 : own_Rch p.tables e below A0 (s₁.setTop (mkF m 2 #[.val (.ref a), .val (.int q1), .val (.int q2), .val (.int (2 : Int32))] [(.int q1), (.int (2 : Int32))])) := fun t k => P0 t (by
    show Steps p.tables e below (s₁.setTop (mkF m 0 #[.val (.ref a), .val (.int q1), .val (.int q2), .val (.int (2 : Int32))] [])) _
    refine XS.iloadN X0.here hx rfl (hb hby d3_0) rfl ?_
    show Steps p.tables e below (s₁.setTop (mkF m 1 #[.val (.ref a), .val (.int q1), .val (.int q2), .val (.int (2 : Int32))] [(.int (2 : Int32))])) _
    refine XS.iloadN X0.here hx rfl (hb hby d3_1) rfl ?_
    exact k)
  by_cases hc1 : q1 < (2 : Int32)
  · -- q1 < (2 : Int32)
    have P3 : own_Rch p.tables e below A0 (s₁.setTop (mkF m 6 #[.val (.ref a), .val (.int q1), .val (.int q2), .val (.int (2 : Int32))] [(.int (0 : Int32))])) := fun t k => P2 t (by
      show Steps p.tables e below (s₁.setTop (mkF m 2 #[.val (.ref a), .val (.int q1), .val (.int q2), .val (.int (2 : Int32))] [(.int q1), (.int (2 : Int32))])) _
      refine XS.icmpNo X0.here hx rfl (hb hby d3_2) rfl (tlt hc1).2.2.2 ?_
      show Steps p.tables e below (s₁.setTop (mkF m 5 #[.val (.ref a), .val (.int q1), .val (.int q2), .val (.int (2 : Int32))] [])) _
      refine XS.iconst X0.here hx rfl (hb hby d3_5) ?_
      exact k)
    obtain ⟨fs, hr, hrun, hended, hW, hsame⟩ := X0.leave (v := some (.int (nar .boolean (0 : Int32)))) (fun h => by rw [Bd.returns] at h; cases h)
    refine ⟨_, _, P00 _ (P3 _ ?_), hrun, hended, _, _, rfl, ?_, ⟨_, rfl⟩, hW, hsame.mono (by decide) (by decide)⟩
    · exact retN X0 hx (t := .boolean) Bd.returns (by simp) (hb hby d3_6) hr
    · show Q3e2 Z a ka q1 q2 c0 c1 c2 c3 c4 c5 h0 n0 _ s₁.heap _
      rw [e0]
      refine ⟨?_, N0, rfl⟩
      skip
      (try simp only [own_e2, if_neg hq2, if_pos hc1])
      (try rfl)
  · -- not q1 < (2 : Int32)
    have P6 : own_Rch p.tables e below A0 (s₁.setTop (mkF m 14 #[.val (.ref a), .val (.int q1), .val (.int q2), .val (.int (2 : Int32))] [(.int (10 : Int32)), (.int c1)])) := fun t k => P2 t (by
      show Steps p.tables e below (s₁.setTop (mkF m 2 #[.val (.ref a), .val (.int q1), .val (.int q2), .val (.int (2 : Int32))] [(.int q1), (.int (2 : Int32))])) _
      refine XS.icmpYes X0.here hx rfl (pc0 := 2) (pc' := 7) rfl (hb hby d3_2) rfl (flt hc1).2.2.2 (by decide) (by decide) ?_
      show Steps p.tables e below (s₁.setTop (mkF m 7 #[.val (.ref a), .val (.int q1), .val (.int q2), .val (.int (2 : Int32))] [])) _
      refine XS.aloadN X0.here hx rfl (hb hby d3_7) rfl rfl ?_
      show Steps p.tables e below (s₁.setTop (mkF m 8 #[.val (.ref a), .val (.int q1), .val (.int q2), .val (.int (2 : Int32))] [(.ref a)])) _
      refine XS.iloadN X0.here hx rfl (hb hby d3_8) rfl ?_
      show Steps p.tables e below (s₁.setTop (mkF m 9 #[.val (.ref a), .val (.int q1), .val (.int q2), .val (.int (2 : Int32))] [(.int (2 : Int32)), (.ref a)])) _
      refine XS.iconst X0.here hx rfl (hb hby d3_9) ?_
      show Steps p.tables e below (s₁.setTop (mkF m 10 #[.val (.ref a), .val (.int q1), .val (.int q2), .val (.int (2 : Int32))] [(.int (1 : Int32)), (.int (2 : Int32)), (.ref a)])) _
      refine XS.isub X0.here hx rfl (hb hby d3_10) rfl ?_
      show Steps p.tables e below (s₁.setTop (mkF m 11 #[.val (.ref a), .val (.int q1), .val (.int q2), .val (.int (2 : Int32))] [(.int (1 : Int32)), (.ref a)])) _
      obtain ⟨cl4, Ar4, -, S4, N4, H4, -⟩ := id V_a
      have hin4 : ¬ ((1 : Int32) < 0 ∨ cl4.slots.size ≤ ((1 : Int32)).toNatClampNeg) := inb_of S4 ⟨by decide, by decide⟩
      have hat4 := H4.at hin4 (v := (.int c1)) rfl
      refine X0.baloadBytes hx (j := (1 : Int32)) (v := (.int c1)) (by rw [e0]; exact Ar4.1) (State.isArrayOf_alike hZ.alike Ar4.2.1) Ar4.2.2 hin4 hat4 (g := (mkF m 11 #[.val (.ref a), .val (.int q1), .val (.int q2), .val (.int (2 : Int32))] [(.int (1 : Int32)), (.ref a)])) rfl rfl (hb hby d3_11) _ ?_
      show Steps p.tables e below (s₁.setTop (mkF m 12 #[.val (.ref a), .val (.int q1), .val (.int q2), .val (.int (2 : Int32))] [(.int c1)])) _
      refine XS.bipush X0.here hx rfl (hb hby d3_12) ?_
      exact k)
    by_cases hc5 : c1 = (10 : Int32)
    · -- c1 = (10 : Int32)
      have P8 : own_Rch p.tables e below A0 (s₁.setTop (mkF m 23 #[.val (.ref a), .val (.int q1), .val (.int q2), .val (.int (2 : Int32))] [(.int q2), (.int (0 : Int32))])) := fun t k => P6 t (by
        show Steps p.tables e below (s₁.setTop (mkF m 14 #[.val (.ref a), .val (.int q1), .val (.int q2), .val (.int (2 : Int32))] [(.int (10 : Int32)), (.int c1)])) _
        refine XS.icmpYes X0.here hx rfl (pc0 := 14) (pc' := 19) rfl (hb hby d3_14) rfl (teq hc5).1 (by decide) (by decide) ?_
        show Steps p.tables e below (s₁.setTop (mkF m 19 #[.val (.ref a), .val (.int q1), .val (.int q2), .val (.int (2 : Int32))] [])) _
        refine XS.iloadN X0.here hx rfl (hb hby d3_19) rfl ?_
        show Steps p.tables e below (s₁.setTop (mkF m 20 #[.val (.ref a), .val (.int q1), .val (.int q2), .val (.int (2 : Int32))] [(.int (2 : Int32))])) _
        refine XS.iconst X0.here hx rfl (hb hby d3_20) ?_
        show Steps p.tables e below (s₁.setTop (mkF m 21 #[.val (.ref a), .val (.int q1), .val (.int q2), .val (.int (2 : Int32))] [(.int (2 : Int32)), (.int (2 : Int32))])) _
        refine XS.isub X0.here hx rfl (hb hby d3_21) rfl ?_
        show Steps p.tables e below (s₁.setTop (mkF m 22 #[.val (.ref a), .val (.int q1), .val (.int q2), .val (.int (2 : Int32))] [(.int (0 : Int32))])) _
        refine XS.iloadN X0.here hx rfl (hb hby d3_22) rfl ?_
        exact k)
      by_cases hc7 : q2 < (0 : Int32)
      · -- q2 < (0 : Int32)
        have P11 : own_Rch p.tables e below A0 (s₁.setTop (mkF m 33 #[.val (.ref a), .val (.int q1), .val (.int q2), .val (.int (2 : Int32))] [(.int (10 : Int32)), (.int c0)])) := fun t k => P8 t (by
          show Steps p.tables e below (s₁.setTop (mkF m 23 #[.val (.ref a), .val (.int q1), .val (.int q2), .val (.int (2 : Int32))] [(.int q2), (.int (0 : Int32))])) _
          refine XS.icmpNo X0.here hx rfl (hb hby d3_23) rfl (tlt hc7).2.2.2 ?_
          show Steps p.tables e below (s₁.setTop (mkF m 26 #[.val (.ref a), .val (.int q1), .val (.int q2), .val (.int (2 : Int32))] [])) _
          refine XS.aloadN X0.here hx rfl (hb hby d3_26) rfl rfl ?_
          show Steps p.tables e below (s₁.setTop (mkF m 27 #[.val (.ref a), .val (.int q1), .val (.int q2), .val (.int (2 : Int32))] [(.ref a)])) _
          refine XS.iloadN X0.here hx rfl (hb hby d3_27) rfl ?_
          show Steps p.tables e below (s₁.setTop (mkF m 28 #[.val (.ref a), .val (.int q1), .val (.int q2), .val (.int (2 : Int32))] [(.int (2 : Int32)), (.ref a)])) _
          refine XS.iconst X0.here hx rfl (hb hby d3_28) ?_
          show Steps p.tables e below (s₁.setTop (mkF m 29 #[.val (.ref a), .val (.int q1), .val (.int q2), .val (.int (2 : Int32))] [(.int (2 : Int32)), (.int (2 : Int32)), (.ref a)])) _
          refine XS.isub X0.here hx rfl (hb hby d3_29) rfl ?_
          show Steps p.tables e below (s₁.setTop (mkF m 30 #[.val (.ref a), .val (.int q1), .val (.int q2), .val (.int (2 : Int32))] [(.int (0 : Int32)), (.ref a)])) _
          obtain ⟨cl9, Ar9, -, S9, N9, H9, -⟩ := id V_a
          have hin9 : ¬ ((0 : Int32) < 0 ∨ cl9.slots.size ≤ ((0 : Int32)).toNatClampNeg) := inb_of S9 ⟨by decide, by decide⟩
          have hat9 := H9.at hin9 (v := (.int c0)) rfl
          refine X0.baloadBytes hx (j := (0 : Int32)) (v := (.int c0)) (by rw [e0]; exact Ar9.1) (State.isArrayOf_alike hZ.alike Ar9.2.1) Ar9.2.2 hin9 hat9 (g := (mkF m 30 #[.val (.ref a), .val (.int q1), .val (.int q2), .val (.int (2 : Int32))] [(.int (0 : Int32)), (.ref a)])) rfl rfl (hb hby d3_30) _ ?_
          show Steps p.tables e below (s₁.setTop (mkF m 31 #[.val (.ref a), .val (.int q1), .val (.int q2), .val (.int (2 : Int32))] [(.int c0)])) _
          refine XS.bipush X0.here hx rfl (hb hby d3_31) ?_
          exact k)
        by_cases hc10 : c0 = (10 : Int32)
        · -- c0 = (10 : Int32)
          have P12 : own_Rch p.tables e below A0 (s₁.setTop (mkF m 37 #[.val (.ref a), .val (.int q1), .val (.int q2), .val (.int (2 : Int32))] [(.int (1 : Int32))])) := fun t k => P11 t (by
            show Steps p.tables e below (s₁.setTop (mkF m 33 #[.val (.ref a), .val (.int q1), .val (.int q2), .val (.int (2 : Int32))] [(.int (10 : Int32)), (.int c0)])) _
            refine XS.icmpNo X0.here hx rfl (hb hby d3_33) rfl (teq hc10).2 ?_
            show Steps p.tables e below (s₁.setTop (mkF m 36 #[.val (.ref a), .val (.int q1), .val (.int q2), .val (.int (2 : Int32))] [])) _
            refine XS.iconst X0.here hx rfl (hb hby d3_36) ?_
            exact k)
          obtain ⟨fs, hr, hrun, hended, hW, hsame⟩ := X0.leave (v := some (.int (nar .boolean (1 : Int32)))) (fun h => by rw [Bd.returns] at h; cases h)
          refine ⟨_, _, P00 _ (P12 _ ?_), hrun, hended, _, _, rfl, ?_, ⟨_, rfl⟩, hW, hsame.mono (by decide) (by decide)⟩
          · exact retN X0 hx (t := .boolean) Bd.returns (by simp) (hb hby d3_37) hr
          · show Q3e2 Z a ka q1 q2 c0 c1 c2 c3 c4 c5 h0 n0 _ s₁.heap _
            rw [e0]
            refine ⟨?_, N0, rfl⟩
            skip
            (try simp only [own_e2, if_neg hq2, if_neg hc1, if_pos hc5, if_pos hc7, if_pos hc10])
            (try rfl)
        · -- not c0 = (10 : Int32)
          have P13 : own_Rch p.tables e below A0 (s₁.setTop (mkF m 70 #[.val (.ref a), .val (.int q1), .val (.int q2), .val (.int (2 : Int32))] [(.int (0 : Int32))])) := fun t k => P11 t (by
            show Steps p.tables e below (s₁.setTop (mkF m 33 #[.val (.ref a), .val (.int q1), .val (.int q2), .val (.int (2 : Int32))] [(.int (10 : Int32)), (.int c0)])) _
            refine XS.icmpYes X0.here hx rfl (pc0 := 33) (pc' := 38) rfl (hb hby d3_33) rfl (feq hc10).2 (by decide) (by decide) ?_
            show Steps p.tables e below (s₁.setTop (mkF m 38 #[.val (.ref a), .val (.int q1), .val (.int q2), .val (.int (2 : Int32))] [])) _
            refine XS.iloadN X0.here hx rfl (hb hby d3_38) rfl ?_
            show Steps p.tables e below (s₁.setTop (mkF m 39 #[.val (.ref a), .val (.int q1), .val (.int q2), .val (.int (2 : Int32))] [(.int (2 : Int32))])) _
            refine XS.iconst X0.here hx rfl (hb hby d3_39) ?_
            show Steps p.tables e below (s₁.setTop (mkF m 40 #[.val (.ref a), .val (.int q1), .val (.int q2), .val (.int (2 : Int32))] [(.int (3 : Int32)), (.int (2 : Int32))])) _
            refine XS.isub X0.here hx rfl (hb hby d3_40) rfl ?_
            show Steps p.tables e below (s₁.setTop (mkF m 41 #[.val (.ref a), .val (.int q1), .val (.int q2), .val (.int (2 : Int32))] [(.int (-1 : Int32))])) _
            refine XS.iloadN X0.here hx rfl (hb hby d3_41) rfl ?_
            show Steps p.tables e below (s₁.setTop (mkF m 42 #[.val (.ref a), .val (.int q1), .val (.int q2), .val (.int (2 : Int32))] [(.int q2), (.int (-1 : Int32))])) _
            refine XS.icmpYes X0.here hx rfl (pc0 := 42) (pc' := 69) rfl (hb hby d3_42) rfl (flt hq2).2.2.2 (by decide) (by decide) ?_
            show Steps p.tables e below (s₁.setTop (mkF m 69 #[.val (.ref a), .val (.int q1), .val (.int q2), .val (.int (2 : Int32))] [])) _
            refine XS.iconst X0.here hx rfl (hb hby d3_69) ?_
            exact k)
          obtain ⟨fs, hr, hrun, hended, hW, hsame⟩ := X0.leave (v := some (.int (nar .boolean (0 : Int32)))) (fun h => by rw [Bd.returns] at h; cases h)
          refine ⟨_, _, P00 _ (P13 _ ?_), hrun, hended, _, _, rfl, ?_, ⟨_, rfl⟩, hW, hsame.mono (by decide) (by decide)⟩
          · exact retN X0 hx (t := .boolean) Bd.returns (by simp) (hb hby d3_70) hr
          · show Q3e2 Z a ka q1 q2 c0 c1 c2 c3 c4 c5 h0 n0 _ s₁.heap _
            rw [e0]
            refine ⟨?_, N0, rfl⟩
            skip
            (try simp only [own_e2, if_neg hq2, if_neg hc1, if_pos hc5, if_pos hc7, if_neg hc10])
            (try rfl)
      · -- not q2 < (0 : Int32)
        have P14 : own_Rch p.tables e below A0 (s₁.setTop (mkF m 70 #[.val (.ref a), .val (.int q1), .val (.int q2), .val (.int (2 : Int32))] [(.int (0 : Int32))])) := fun t k => P8 t (by
          show Steps p.tables e below (s₁.setTop (mkF m 23 #[.val (.ref a), .val (.int q1), .val (.int q2), .val (.int (2 : Int32))] [(.int q2), (.int (0 : Int32))])) _
          refine XS.icmpYes X0.here hx rfl (pc0 := 23) (pc' := 38) rfl (hb hby d3_23) rfl (flt hc7).2.2.2 (by decide) (by decide) ?_
          show Steps p.tables e below (s₁.setTop (mkF m 38 #[.val (.ref a), .val (.int q1), .val (.int q2), .val (.int (2 : Int32))] [])) _
          refine XS.iloadN X0.here hx rfl (hb hby d3_38) rfl ?_
          show Steps p.tables e below (s₁.setTop (mkF m 39 #[.val (.ref a), .val (.int q1), .val (.int q2), .val (.int (2 : Int32))] [(.int (2 : Int32))])) _
          refine XS.iconst X0.here hx rfl (hb hby d3_39) ?_
          show Steps p.tables e below (s₁.setTop (mkF m 40 #[.val (.ref a), .val (.int q1), .val (.int q2), .val (.int (2 : Int32))] [(.int (3 : Int32)), (.int (2 : Int32))])) _
          refine XS.isub X0.here hx rfl (hb hby d3_40) rfl ?_
          show Steps p.tables e below (s₁.setTop (mkF m 41 #[.val (.ref a), .val (.int q1), .val (.int q2), .val (.int (2 : Int32))] [(.int (-1 : Int32))])) _
          refine XS.iloadN X0.here hx rfl (hb hby d3_41) rfl ?_
          show Steps p.tables e below (s₁.setTop (mkF m 42 #[.val (.ref a), .val (.int q1), .val (.int q2), .val (.int (2 : Int32))] [(.int q2), (.int (-1 : Int32))])) _
          refine XS.icmpYes X0.here hx rfl (pc0 := 42) (pc' := 69) rfl (hb hby d3_42) rfl (flt hq2).2.2.2 (by decide) (by decide) ?_
          show Steps p.tables e below (s₁.setTop (mkF m 69 #[.val (.ref a), .val (.int q1), .val (.int q2), .val (.int (2 : Int32))] [])) _
          refine XS.iconst X0.here hx rfl (hb hby d3_69) ?_
          exact k)
        obtain ⟨fs, hr, hrun, hended, hW, hsame⟩ := X0.leave (v := some (.int (nar .boolean (0 : Int32)))) (fun h => by rw [Bd.returns] at h; cases h)
        refine ⟨_, _, P00 _ (P14 _ ?_), hrun, hended, _, _, rfl, ?_, ⟨_, rfl⟩, hW, hsame.mono (by decide) (by decide)⟩
        · exact retN X0 hx (t := .boolean) Bd.returns (by simp) (hb hby d3_70) hr
        · show Q3e2 Z a ka q1 q2 c0 c1 c2 c3 c4 c5 h0 n0 _ s₁.heap _
          rw [e0]
          refine ⟨?_, N0, rfl⟩
          skip
          (try simp only [own_e2, if_neg hq2, if_neg hc1, if_pos hc5, if_neg hc7])
          (try rfl)
    · -- not c1 = (10 : Int32)
      have P15 : own_Rch p.tables e below A0 (s₁.setTop (mkF m 18 #[.val (.ref a), .val (.int q1), .val (.int q2), .val (.int (2 : Int32))] [(.int (0 : Int32))])) := fun t k => P6 t (by
        show Steps p.tables e below (s₁.setTop (mkF m 14 #[.val (.ref a), .val (.int q1), .val (.int q2), .val (.int (2 : Int32))] [(.int (10 : Int32)), (.int c1)])) _
        refine XS.icmpNo X0.here hx rfl (hb hby d3_14) rfl (feq hc5).1 ?_
        show Steps p.tables e below (s₁.setTop (mkF m 17 #[.val (.ref a), .val (.int q1), .val (.int q2), .val (.int (2 : Int32))] [])) _
        refine XS.iconst X0.here hx rfl (hb hby d3_17) ?_
        exact k)
      obtain ⟨fs, hr, hrun, hended, hW, hsame⟩ := X0.leave (v := some (.int (nar .boolean (0 : Int32)))) (fun h => by rw [Bd.returns] at h; cases h)
      refine ⟨_, _, P00 _ (P15 _ ?_), hrun, hended, _, _, rfl, ?_, ⟨_, rfl⟩, hW, hsame.mono (by decide) (by decide)⟩
      · exact retN X0 hx (t := .boolean) Bd.returns (by simp) (hb hby d3_18) hr
      · show Q3e2 Z a ka q1 q2 c0 c1 c2 c3 c4 c5 h0 n0 _ s₁.heap _
        rw [e0]
        refine ⟨?_, N0, rfl⟩
        skip
        (try simp only [own_e2, if_neg hq2, if_neg hc1, if_neg hc5])
        (try rfl)
def own_e3 (q1 : Int32) (q2 : Int32) (c0 : Int32) (c1 : Int32) (c2 : Int32) (c3 : Int32) (c4 : Int32) (c5 : Int32) : Int32 := (if q1 < (3 : Int32) then (0 : Int32) else (if c2 = (10 : Int32) then (if q2 < (1 : Int32) then (if c1 = (10 : Int32) then (1 : Int32) else (if q2 < (0 : Int32) then (if c1 = (13 : Int32) then (if c0 = (10 : Int32) then (1 : Int32) else (0 : Int32)) else (0 : Int32)) else (0 : Int32))) else (if q2 < (0 : Int32) then (if c1 = (13 : Int32) then (if c0 = (10 : Int32) then (1 : Int32) else (0 : Int32)) else (0 : Int32)) else (0 : Int32))) else (0 : Int32)))
theorem ef_3e3 (m : MethodId) (a : Addr) (q1 : Int32) (q2 : Int32) : entryFrame m #[(.ref a), (.int q1), (.int q2), (.int (3 : Int32))] 4 = mkF m 0 #[.val (.ref a), .val (.int q1), .val (.int q2), .val (.int (3 : Int32))] [] := by first | (simp [entryFrame, mkF, argsToLocals, Value.category]; done) | rfl
def Q3e3 (Z : State) (a : Addr) (ka : ClassId) (q1 : Int32) (q2 : Int32) (c0 : Int32) (c1 : Int32) (c2 : Int32) (c3 : Int32) (c4 : Int32) (c5 : Int32) (h0 : Heap) (n0 : Nat) (v : Option Value) (h : Heap) (L : List Loc) : Prop := v = some (.int (own_e3 q1 q2 c0 c1 c2 c3 c4 c5)) ∧ Fr n0 L ∧ h = h0
set_option maxRecDepth 65536 in
set_option maxHeartbeats 40000000 in
theorem rm3e3 (l : Launch) (Z : State) (a0 : Array Value) (hw : ∀ d ∈ tables_1, d.before a0 Z = true) (ws : List Jvm.Cond) (a : Addr) (ka : ClassId) (q1 : Int32) (q2 : Int32) (c0 : Int32) (c1 : Int32) (c2 : Int32) (c3 : Int32) (c4 : Int32) (c5 : Int32) (h0 : Heap) (n0 : Nat) (Z0 : n0 ≤ h0.size) (V_a : Arv Z h0 a ka .byte (6 : Int32) [(.int c0), (.int c1), (.int c2), (.int c3), (.int c4), (.int c5)] (.int (0 : Int32))) :
    MetFree l (⟨"com/example/rackline/rackline/metrics/RequestHeadEndPinLaw", "endsAt", "([BIII)Z"⟩ : MethodName) (head1 (Jvm.Cond.code (⟨"com/example/rackline/rackline/metrics/RequestHeadEndPinLaw", "endsAt", "([BIII)Z"⟩ : MethodName) method_4_code 4 (some .boolean) :: ws) ({ frames := 0, cells := 0, slots := 0, locals := 0 } : Room)) (fun a' U => a' = #[(.ref a), (.int q1), (.int q2), (.int (3 : Int32))] ∧ Z.Warmed39 U.vm ∧ U.heap = h0) (fun _ _ _ _ _ => True) (fun _ U o U' => ∃ v L, o = .returned v ∧ Q3e3 Z a ka q1 q2 c0 c1 c2 c3 c4 c5 h0 n0 v U'.heap L ∧ FrameEnd U o U' L ({ frames := 0, cells := 0, slots := 0, locals := 0 } : Room).cells ({ frames := 0, cells := 0, slots := 0, locals := 0 } : Room).slots) := by
  refine MetFree.of_bodySF (plainFor_of_name pn_0) hisR ?_
  intro p e s m args' below meth c s₁ Bd hml0 hP hK
  obtain ⟨hargs, hZ, hh⟩ := hP
  have hx := Bd.exec
  have hby := Bd.bytes
  have hml : c.maxLocals = 4 := hml0
  have hown : s.vm.findClass "com/example/rackline/rackline/metrics/RequestHeadEndPinLaw" = some m.cls := findClass_of_methodNamed Bd.named
  have hnm := (name_of_methodNamed Bd.named Bd.method).1
  have X0 : Stand p l e ({ frames := 0, cells := 0, slots := 0, locals := 0 } : Room) s m args' below meth c s₁ [] 0 0 := Stand.of_body Bd
  have e0 : s₁.heap = h0 := by rw [← hh, Bd.state]; rfl
  have N0 := Fr.nil n0
  obtain ⟨A0, hA0⟩ : ∃ A, A = s₁.setTop (mkF m 0 #[.val (.ref a), .val (.int q1), .val (.int q2), .val (.int (3 : Int32))] []) := ⟨_, rfl⟩
  have P0 : own_Rch p.tables e below A0 (s₁.setTop (mkF m 0 #[.val (.ref a), .val (.int q1), .val (.int q2), .val (.int (3 : Int32))] [])) := fun t k => hA0 ▸ k
  have P00 : own_Rch p.tables e below (s₁.setTop (entryFrame m args' 4)) A0 := fun t k => by rw [hargs]; exact castTop (ef_3e3 m a q1 q2) (hA0 ▸ k)
  have P2 : own_Rch p.tables e below A0 (s₁.setTop (mkF m 2 #[.val (.ref a), .val (.int q1), .val (.int q2), .val (.int (3 : Int32))] [(.int q1), (.int (3 : Int32))])) := fun t k => P0 t (by
    show Steps p.tables e below (s₁.setTop (mkF m 0 #[.val (.ref a), .val (.int q1), .val (.int q2), .val (.int (3 : Int32))] [])) _
    refine XS.iloadN X0.here hx rfl (hb hby d3_0) rfl ?_
    show Steps p.tables e below (s₁.setTop (mkF m 1 #[.val (.ref a), .val (.int q1), .val (.int q2), .val (.int (3 : Int32))] [(.int (3 : Int32))])) _
    refine XS.iloadN X0.here hx rfl (hb hby d3_1) rfl ?_
    exact k)
  by_cases hc1 : q1 < (3 : Int32)
  · -- q1 < (3 : Int32)
    have P3 : own_Rch p.tables e below A0 (s₁.setTop (mkF m 6 #[.val (.ref a), .val (.int q1), .val (.int q2), .val (.int (3 : Int32))] [(.int (0 : Int32))])) := fun t k => P2 t (by
      show Steps p.tables e below (s₁.setTop (mkF m 2 #[.val (.ref a), .val (.int q1), .val (.int q2), .val (.int (3 : Int32))] [(.int q1), (.int (3 : Int32))])) _
      refine XS.icmpNo X0.here hx rfl (hb hby d3_2) rfl (tlt hc1).2.2.2 ?_
      show Steps p.tables e below (s₁.setTop (mkF m 5 #[.val (.ref a), .val (.int q1), .val (.int q2), .val (.int (3 : Int32))] [])) _
      refine XS.iconst X0.here hx rfl (hb hby d3_5) ?_
      exact k)
    obtain ⟨fs, hr, hrun, hended, hW, hsame⟩ := X0.leave (v := some (.int (nar .boolean (0 : Int32)))) (fun h => by rw [Bd.returns] at h; cases h)
    refine ⟨_, _, P00 _ (P3 _ ?_), hrun, hended, _, _, rfl, ?_, ⟨_, rfl⟩, hW, hsame.mono (by decide) (by decide)⟩
    · exact retN X0 hx (t := .boolean) Bd.returns (by simp) (hb hby d3_6) hr
    · show Q3e3 Z a ka q1 q2 c0 c1 c2 c3 c4 c5 h0 n0 _ s₁.heap _
      rw [e0]
      refine ⟨?_, N0, rfl⟩
      skip
      (try simp only [own_e3, if_pos hc1])
      (try rfl)
  · -- not q1 < (3 : Int32)
    have P6 : own_Rch p.tables e below A0 (s₁.setTop (mkF m 14 #[.val (.ref a), .val (.int q1), .val (.int q2), .val (.int (3 : Int32))] [(.int (10 : Int32)), (.int c2)])) := fun t k => P2 t (by
      show Steps p.tables e below (s₁.setTop (mkF m 2 #[.val (.ref a), .val (.int q1), .val (.int q2), .val (.int (3 : Int32))] [(.int q1), (.int (3 : Int32))])) _
      refine XS.icmpYes X0.here hx rfl (pc0 := 2) (pc' := 7) rfl (hb hby d3_2) rfl (flt hc1).2.2.2 (by decide) (by decide) ?_
      show Steps p.tables e below (s₁.setTop (mkF m 7 #[.val (.ref a), .val (.int q1), .val (.int q2), .val (.int (3 : Int32))] [])) _
      refine XS.aloadN X0.here hx rfl (hb hby d3_7) rfl rfl ?_
      show Steps p.tables e below (s₁.setTop (mkF m 8 #[.val (.ref a), .val (.int q1), .val (.int q2), .val (.int (3 : Int32))] [(.ref a)])) _
      refine XS.iloadN X0.here hx rfl (hb hby d3_8) rfl ?_
      show Steps p.tables e below (s₁.setTop (mkF m 9 #[.val (.ref a), .val (.int q1), .val (.int q2), .val (.int (3 : Int32))] [(.int (3 : Int32)), (.ref a)])) _
      refine XS.iconst X0.here hx rfl (hb hby d3_9) ?_
      show Steps p.tables e below (s₁.setTop (mkF m 10 #[.val (.ref a), .val (.int q1), .val (.int q2), .val (.int (3 : Int32))] [(.int (1 : Int32)), (.int (3 : Int32)), (.ref a)])) _
      refine XS.isub X0.here hx rfl (hb hby d3_10) rfl ?_
      show Steps p.tables e below (s₁.setTop (mkF m 11 #[.val (.ref a), .val (.int q1), .val (.int q2), .val (.int (3 : Int32))] [(.int (2 : Int32)), (.ref a)])) _
      obtain ⟨cl4, Ar4, -, S4, N4, H4, -⟩ := id V_a
      have hin4 : ¬ ((2 : Int32) < 0 ∨ cl4.slots.size ≤ ((2 : Int32)).toNatClampNeg) := inb_of S4 ⟨by decide, by decide⟩
      have hat4 := H4.at hin4 (v := (.int c2)) rfl
      refine X0.baloadBytes hx (j := (2 : Int32)) (v := (.int c2)) (by rw [e0]; exact Ar4.1) (State.isArrayOf_alike hZ.alike Ar4.2.1) Ar4.2.2 hin4 hat4 (g := (mkF m 11 #[.val (.ref a), .val (.int q1), .val (.int q2), .val (.int (3 : Int32))] [(.int (2 : Int32)), (.ref a)])) rfl rfl (hb hby d3_11) _ ?_
      show Steps p.tables e below (s₁.setTop (mkF m 12 #[.val (.ref a), .val (.int q1), .val (.int q2), .val (.int (3 : Int32))] [(.int c2)])) _
      refine XS.bipush X0.here hx rfl (hb hby d3_12) ?_
      exact k)
    by_cases hc5 : c2 = (10 : Int32)
    · -- c2 = (10 : Int32)
      have P8 : own_Rch p.tables e below A0 (s₁.setTop (mkF m 23 #[.val (.ref a), .val (.int q1), .val (.int q2), .val (.int (3 : Int32))] [(.int q2), (.int (1 : Int32))])) := fun t k => P6 t (by
        show Steps p.tables e below (s₁.setTop (mkF m 14 #[.val (.ref a), .val (.int q1), .val (.int q2), .val (.int (3 : Int32))] [(.int (10 : Int32)), (.int c2)])) _
        refine XS.icmpYes X0.here hx rfl (pc0 := 14) (pc' := 19) rfl (hb hby d3_14) rfl (teq hc5).1 (by decide) (by decide) ?_
        show Steps p.tables e below (s₁.setTop (mkF m 19 #[.val (.ref a), .val (.int q1), .val (.int q2), .val (.int (3 : Int32))] [])) _
        refine XS.iloadN X0.here hx rfl (hb hby d3_19) rfl ?_
        show Steps p.tables e below (s₁.setTop (mkF m 20 #[.val (.ref a), .val (.int q1), .val (.int q2), .val (.int (3 : Int32))] [(.int (3 : Int32))])) _
        refine XS.iconst X0.here hx rfl (hb hby d3_20) ?_
        show Steps p.tables e below (s₁.setTop (mkF m 21 #[.val (.ref a), .val (.int q1), .val (.int q2), .val (.int (3 : Int32))] [(.int (2 : Int32)), (.int (3 : Int32))])) _
        refine XS.isub X0.here hx rfl (hb hby d3_21) rfl ?_
        show Steps p.tables e below (s₁.setTop (mkF m 22 #[.val (.ref a), .val (.int q1), .val (.int q2), .val (.int (3 : Int32))] [(.int (1 : Int32))])) _
        refine XS.iloadN X0.here hx rfl (hb hby d3_22) rfl ?_
        exact k)
      by_cases hc7 : q2 < (1 : Int32)
      · -- q2 < (1 : Int32)
        have P11 : own_Rch p.tables e below A0 (s₁.setTop (mkF m 33 #[.val (.ref a), .val (.int q1), .val (.int q2), .val (.int (3 : Int32))] [(.int (10 : Int32)), (.int c1)])) := fun t k => P8 t (by
          show Steps p.tables e below (s₁.setTop (mkF m 23 #[.val (.ref a), .val (.int q1), .val (.int q2), .val (.int (3 : Int32))] [(.int q2), (.int (1 : Int32))])) _
          refine XS.icmpNo X0.here hx rfl (hb hby d3_23) rfl (tlt hc7).2.2.2 ?_
          show Steps p.tables e below (s₁.setTop (mkF m 26 #[.val (.ref a), .val (.int q1), .val (.int q2), .val (.int (3 : Int32))] [])) _
          refine XS.aloadN X0.here hx rfl (hb hby d3_26) rfl rfl ?_
          show Steps p.tables e below (s₁.setTop (mkF m 27 #[.val (.ref a), .val (.int q1), .val (.int q2), .val (.int (3 : Int32))] [(.ref a)])) _
          refine XS.iloadN X0.here hx rfl (hb hby d3_27) rfl ?_
          show Steps p.tables e below (s₁.setTop (mkF m 28 #[.val (.ref a), .val (.int q1), .val (.int q2), .val (.int (3 : Int32))] [(.int (3 : Int32)), (.ref a)])) _
          refine XS.iconst X0.here hx rfl (hb hby d3_28) ?_
          show Steps p.tables e below (s₁.setTop (mkF m 29 #[.val (.ref a), .val (.int q1), .val (.int q2), .val (.int (3 : Int32))] [(.int (2 : Int32)), (.int (3 : Int32)), (.ref a)])) _
          refine XS.isub X0.here hx rfl (hb hby d3_29) rfl ?_
          show Steps p.tables e below (s₁.setTop (mkF m 30 #[.val (.ref a), .val (.int q1), .val (.int q2), .val (.int (3 : Int32))] [(.int (1 : Int32)), (.ref a)])) _
          obtain ⟨cl9, Ar9, -, S9, N9, H9, -⟩ := id V_a
          have hin9 : ¬ ((1 : Int32) < 0 ∨ cl9.slots.size ≤ ((1 : Int32)).toNatClampNeg) := inb_of S9 ⟨by decide, by decide⟩
          have hat9 := H9.at hin9 (v := (.int c1)) rfl
          refine X0.baloadBytes hx (j := (1 : Int32)) (v := (.int c1)) (by rw [e0]; exact Ar9.1) (State.isArrayOf_alike hZ.alike Ar9.2.1) Ar9.2.2 hin9 hat9 (g := (mkF m 30 #[.val (.ref a), .val (.int q1), .val (.int q2), .val (.int (3 : Int32))] [(.int (1 : Int32)), (.ref a)])) rfl rfl (hb hby d3_30) _ ?_
          show Steps p.tables e below (s₁.setTop (mkF m 31 #[.val (.ref a), .val (.int q1), .val (.int q2), .val (.int (3 : Int32))] [(.int c1)])) _
          refine XS.bipush X0.here hx rfl (hb hby d3_31) ?_
          exact k)
        by_cases hc10 : c1 = (10 : Int32)
        · -- c1 = (10 : Int32)
          have P12 : own_Rch p.tables e below A0 (s₁.setTop (mkF m 37 #[.val (.ref a), .val (.int q1), .val (.int q2), .val (.int (3 : Int32))] [(.int (1 : Int32))])) := fun t k => P11 t (by
            show Steps p.tables e below (s₁.setTop (mkF m 33 #[.val (.ref a), .val (.int q1), .val (.int q2), .val (.int (3 : Int32))] [(.int (10 : Int32)), (.int c1)])) _
            refine XS.icmpNo X0.here hx rfl (hb hby d3_33) rfl (teq hc10).2 ?_
            show Steps p.tables e below (s₁.setTop (mkF m 36 #[.val (.ref a), .val (.int q1), .val (.int q2), .val (.int (3 : Int32))] [])) _
            refine XS.iconst X0.here hx rfl (hb hby d3_36) ?_
            exact k)
          obtain ⟨fs, hr, hrun, hended, hW, hsame⟩ := X0.leave (v := some (.int (nar .boolean (1 : Int32)))) (fun h => by rw [Bd.returns] at h; cases h)
          refine ⟨_, _, P00 _ (P12 _ ?_), hrun, hended, _, _, rfl, ?_, ⟨_, rfl⟩, hW, hsame.mono (by decide) (by decide)⟩
          · exact retN X0 hx (t := .boolean) Bd.returns (by simp) (hb hby d3_37) hr
          · show Q3e3 Z a ka q1 q2 c0 c1 c2 c3 c4 c5 h0 n0 _ s₁.heap _
            rw [e0]
            refine ⟨?_, N0, rfl⟩
            skip
            (try simp only [own_e3, if_neg hc1, if_pos hc5, if_pos hc7, if_pos hc10])
            (try rfl)
        · -- not c1 = (10 : Int32)
          have P14 : own_Rch p.tables e below A0 (s₁.setTop (mkF m 42 #[.val (.ref a), .val (.int q1), .val (.int q2), .val (.int (3 : Int32))] [(.int q2), (.int (0 : Int32))])) := fun t k => P11 t (by
            show Steps p.tables e below (s₁.setTop (mkF m 33 #[.val (.ref a), .val (.int q1), .val (.int q2), .val (.int (3 : Int32))] [(.int (10 : Int32)), (.int c1)])) _
            refine XS.icmpYes X0.here hx rfl (pc0 := 33) (pc' := 38) rfl (hb hby d3_33) rfl (feq hc10).2 (by decide) (by decide) ?_
            show Steps p.tables e below (s₁.setTop (mkF m 38 #[.val (.ref a), .val (.int q1), .val (.int q2), .val (.int (3 : Int32))] [])) _
            refine XS.iloadN X0.here hx rfl (hb hby d3_38) rfl ?_
            show Steps p.tables e below (s₁.setTop (mkF m 39 #[.val (.ref a), .val (.int q1), .val (.int q2), .val (.int (3 : Int32))] [(.int (3 : Int32))])) _
            refine XS.iconst X0.here hx rfl (hb hby d3_39) ?_
            show Steps p.tables e below (s₁.setTop (mkF m 40 #[.val (.ref a), .val (.int q1), .val (.int q2), .val (.int (3 : Int32))] [(.int (3 : Int32)), (.int (3 : Int32))])) _
            refine XS.isub X0.here hx rfl (hb hby d3_40) rfl ?_
            show Steps p.tables e below (s₁.setTop (mkF m 41 #[.val (.ref a), .val (.int q1), .val (.int q2), .val (.int (3 : Int32))] [(.int (0 : Int32))])) _
            refine XS.iloadN X0.here hx rfl (hb hby d3_41) rfl ?_
            exact k)
          by_cases hc13 : q2 < (0 : Int32)
          · -- q2 < (0 : Int32)
            have P17 : own_Rch p.tables e below A0 (s₁.setTop (mkF m 52 #[.val (.ref a), .val (.int q1), .val (.int q2), .val (.int (3 : Int32))] [(.int (13 : Int32)), (.int c1)])) := fun t k => P14 t (by
              show Steps p.tables e below (s₁.setTop (mkF m 42 #[.val (.ref a), .val (.int q1), .val (.int q2), .val (.int (3 : Int32))] [(.int q2), (.int (0 : Int32))])) _
              refine XS.icmpNo X0.here hx rfl (hb hby d3_42) rfl (tlt hc13).2.2.2 ?_
              show Steps p.tables e below (s₁.setTop (mkF m 45 #[.val (.ref a), .val (.int q1), .val (.int q2), .val (.int (3 : Int32))] [])) _
              refine XS.aloadN X0.here hx rfl (hb hby d3_45) rfl rfl ?_
              show Steps p.tables e below (s₁.setTop (mkF m 46 #[.val (.ref a), .val (.int q1), .val (.int q2), .val (.int (3 : Int32))] [(.ref a)])) _
              refine XS.iloadN X0.here hx rfl (hb hby d3_46) rfl ?_
              show Steps p.tables e below (s₁.setTop (mkF m 47 #[.val (.ref a), .val (.int q1), .val (.int q2), .val (.int (3 : Int32))] [(.int (3 : Int32)), (.ref a)])) _
              refine XS.iconst X0.here hx rfl (hb hby d3_47) ?_
              show Steps p.tables e below (s₁.setTop (mkF m 48 #[.val (.ref a), .val (.int q1), .val (.int q2), .val (.int (3 : Int32))] [(.int (2 : Int32)), (.int (3 : Int32)), (.ref a)])) _
              refine XS.isub X0.here hx rfl (hb hby d3_48) rfl ?_
              show Steps p.tables e below (s₁.setTop (mkF m 49 #[.val (.ref a), .val (.int q1), .val (.int q2), .val (.int (3 : Int32))] [(.int (1 : Int32)), (.ref a)])) _
              obtain ⟨cl15, Ar15, -, S15, N15, H15, -⟩ := id V_a
              have hin15 : ¬ ((1 : Int32) < 0 ∨ cl15.slots.size ≤ ((1 : Int32)).toNatClampNeg) := inb_of S15 ⟨by decide, by decide⟩
              have hat15 := H15.at hin15 (v := (.int c1)) rfl
              refine X0.baloadBytes hx (j := (1 : Int32)) (v := (.int c1)) (by rw [e0]; exact Ar15.1) (State.isArrayOf_alike hZ.alike Ar15.2.1) Ar15.2.2 hin15 hat15 (g := (mkF m 49 #[.val (.ref a), .val (.int q1), .val (.int q2), .val (.int (3 : Int32))] [(.int (1 : Int32)), (.ref a)])) rfl rfl (hb hby d3_49) _ ?_
              show Steps p.tables e below (s₁.setTop (mkF m 50 #[.val (.ref a), .val (.int q1), .val (.int q2), .val (.int (3 : Int32))] [(.int c1)])) _
              refine XS.bipush X0.here hx rfl (hb hby d3_50) ?_
              exact k)
            by_cases hc16 : c1 = (13 : Int32)
            · -- c1 = (13 : Int32)
              have P20 : own_Rch p.tables e below A0 (s₁.setTop (mkF m 62 #[.val (.ref a), .val (.int q1), .val (.int q2), .val (.int (3 : Int32))] [(.int (10 : Int32)), (.int c0)])) := fun t k => P17 t (by
                show Steps p.tables e below (s₁.setTop (mkF m 52 #[.val (.ref a), .val (.int q1), .val (.int q2), .val (.int (3 : Int32))] [(.int (13 : Int32)), (.int c1)])) _
                refine XS.icmpNo X0.here hx rfl (hb hby d3_52) rfl (teq hc16).2 ?_
                show Steps p.tables e below (s₁.setTop (mkF m 55 #[.val (.ref a), .val (.int q1), .val (.int q2), .val (.int (3 : Int32))] [])) _
                refine XS.aloadN X0.here hx rfl (hb hby d3_55) rfl rfl ?_
                show Steps p.tables e below (s₁.setTop (mkF m 56 #[.val (.ref a), .val (.int q1), .val (.int q2), .val (.int (3 : Int32))] [(.ref a)])) _
                refine XS.iloadN X0.here hx rfl (hb hby d3_56) rfl ?_
                show Steps p.tables e below (s₁.setTop (mkF m 57 #[.val (.ref a), .val (.int q1), .val (.int q2), .val (.int (3 : Int32))] [(.int (3 : Int32)), (.ref a)])) _
                refine XS.iconst X0.here hx rfl (hb hby d3_57) ?_
                show Steps p.tables e below (s₁.setTop (mkF m 58 #[.val (.ref a), .val (.int q1), .val (.int q2), .val (.int (3 : Int32))] [(.int (3 : Int32)), (.int (3 : Int32)), (.ref a)])) _
                refine XS.isub X0.here hx rfl (hb hby d3_58) rfl ?_
                show Steps p.tables e below (s₁.setTop (mkF m 59 #[.val (.ref a), .val (.int q1), .val (.int q2), .val (.int (3 : Int32))] [(.int (0 : Int32)), (.ref a)])) _
                obtain ⟨cl18, Ar18, -, S18, N18, H18, -⟩ := id V_a
                have hin18 : ¬ ((0 : Int32) < 0 ∨ cl18.slots.size ≤ ((0 : Int32)).toNatClampNeg) := inb_of S18 ⟨by decide, by decide⟩
                have hat18 := H18.at hin18 (v := (.int c0)) rfl
                refine X0.baloadBytes hx (j := (0 : Int32)) (v := (.int c0)) (by rw [e0]; exact Ar18.1) (State.isArrayOf_alike hZ.alike Ar18.2.1) Ar18.2.2 hin18 hat18 (g := (mkF m 59 #[.val (.ref a), .val (.int q1), .val (.int q2), .val (.int (3 : Int32))] [(.int (0 : Int32)), (.ref a)])) rfl rfl (hb hby d3_59) _ ?_
                show Steps p.tables e below (s₁.setTop (mkF m 60 #[.val (.ref a), .val (.int q1), .val (.int q2), .val (.int (3 : Int32))] [(.int c0)])) _
                refine XS.bipush X0.here hx rfl (hb hby d3_60) ?_
                exact k)
              by_cases hc19 : c0 = (10 : Int32)
              · -- c0 = (10 : Int32)
                have P21 : own_Rch p.tables e below A0 (s₁.setTop (mkF m 70 #[.val (.ref a), .val (.int q1), .val (.int q2), .val (.int (3 : Int32))] [(.int (1 : Int32))])) := fun t k => P20 t (by
                  show Steps p.tables e below (s₁.setTop (mkF m 62 #[.val (.ref a), .val (.int q1), .val (.int q2), .val (.int (3 : Int32))] [(.int (10 : Int32)), (.int c0)])) _
                  refine XS.icmpNo X0.here hx rfl (hb hby d3_62) rfl (teq hc19).2 ?_
                  show Steps p.tables e below (s₁.setTop (mkF m 65 #[.val (.ref a), .val (.int q1), .val (.int q2), .val (.int (3 : Int32))] [])) _
                  refine XS.iconst X0.here hx rfl (hb hby d3_65) ?_
                  show Steps p.tables e below (s₁.setTop (mkF m 66 #[.val (.ref a), .val (.int q1), .val (.int q2), .val (.int (3 : Int32))] [(.int (1 : Int32))])) _
                  refine XS.goto X0.here hx rfl (pc0 := 66) (pc' := 70) rfl (hb hby d3_66) (by decide) (by decide) ?_
                  exact k)
                obtain ⟨fs, hr, hrun, hended, hW, hsame⟩ := X0.leave (v := some (.int (nar .boolean (1 : Int32)))) (fun h => by rw [Bd.returns] at h; cases h)
                refine ⟨_, _, P00 _ (P21 _ ?_), hrun, hended, _, _, rfl, ?_, ⟨_, rfl⟩, hW, hsame.mono (by decide) (by decide)⟩
                · exact retN X0 hx (t := .boolean) Bd.returns (by simp) (hb hby d3_70) hr
                · show Q3e3 Z a ka q1 q2 c0 c1 c2 c3 c4 c5 h0 n0 _ s₁.heap _
                  rw [e0]
                  refine ⟨?_, N0, rfl⟩
                  skip
                  (try simp only [own_e3, if_neg hc1, if_pos hc5, if_pos hc7, if_neg hc10, if_pos hc13, if_pos hc16, if_pos hc19])
                  (try rfl)
              · -- not c0 = (10 : Int32)
                have P22 : own_Rch p.tables e below A0 (s₁.setTop (mkF m 70 #[.val (.ref a), .val (.int q1), .val (.int q2), .val (.int (3 : Int32))] [(.int (0 : Int32))])) := fun t k => P20 t (by
                  show Steps p.tables e below (s₁.setTop (mkF m 62 #[.val (.ref a), .val (.int q1), .val (.int q2), .val (.int (3 : Int32))] [(.int (10 : Int32)), (.int c0)])) _
                  refine XS.icmpYes X0.here hx rfl (pc0 := 62) (pc' := 69) rfl (hb hby d3_62) rfl (feq hc19).2 (by decide) (by decide) ?_
                  show Steps p.tables e below (s₁.setTop (mkF m 69 #[.val (.ref a), .val (.int q1), .val (.int q2), .val (.int (3 : Int32))] [])) _
                  refine XS.iconst X0.here hx rfl (hb hby d3_69) ?_
                  exact k)
                obtain ⟨fs, hr, hrun, hended, hW, hsame⟩ := X0.leave (v := some (.int (nar .boolean (0 : Int32)))) (fun h => by rw [Bd.returns] at h; cases h)
                refine ⟨_, _, P00 _ (P22 _ ?_), hrun, hended, _, _, rfl, ?_, ⟨_, rfl⟩, hW, hsame.mono (by decide) (by decide)⟩
                · exact retN X0 hx (t := .boolean) Bd.returns (by simp) (hb hby d3_70) hr
                · show Q3e3 Z a ka q1 q2 c0 c1 c2 c3 c4 c5 h0 n0 _ s₁.heap _
                  rw [e0]
                  refine ⟨?_, N0, rfl⟩
                  skip
                  (try simp only [own_e3, if_neg hc1, if_pos hc5, if_pos hc7, if_neg hc10, if_pos hc13, if_pos hc16, if_neg hc19])
                  (try rfl)
            · -- not c1 = (13 : Int32)
              have P23 : own_Rch p.tables e below A0 (s₁.setTop (mkF m 70 #[.val (.ref a), .val (.int q1), .val (.int q2), .val (.int (3 : Int32))] [(.int (0 : Int32))])) := fun t k => P17 t (by
                show Steps p.tables e below (s₁.setTop (mkF m 52 #[.val (.ref a), .val (.int q1), .val (.int q2), .val (.int (3 : Int32))] [(.int (13 : Int32)), (.int c1)])) _
                refine XS.icmpYes X0.here hx rfl (pc0 := 52) (pc' := 69) rfl (hb hby d3_52) rfl (feq hc16).2 (by decide) (by decide) ?_
                show Steps p.tables e below (s₁.setTop (mkF m 69 #[.val (.ref a), .val (.int q1), .val (.int q2), .val (.int (3 : Int32))] [])) _
                refine XS.iconst X0.here hx rfl (hb hby d3_69) ?_
                exact k)
              obtain ⟨fs, hr, hrun, hended, hW, hsame⟩ := X0.leave (v := some (.int (nar .boolean (0 : Int32)))) (fun h => by rw [Bd.returns] at h; cases h)
              refine ⟨_, _, P00 _ (P23 _ ?_), hrun, hended, _, _, rfl, ?_, ⟨_, rfl⟩, hW, hsame.mono (by decide) (by decide)⟩
              · exact retN X0 hx (t := .boolean) Bd.returns (by simp) (hb hby d3_70) hr
              · show Q3e3 Z a ka q1 q2 c0 c1 c2 c3 c4 c5 h0 n0 _ s₁.heap _
                rw [e0]
                refine ⟨?_, N0, rfl⟩
                skip
                (try simp only [own_e3, if_neg hc1, if_pos hc5, if_pos hc7, if_neg hc10, if_pos hc13, if_neg hc16])
                (try rfl)
          · -- not q2 < (0 : Int32)
            have P24 : own_Rch p.tables e below A0 (s₁.setTop (mkF m 70 #[.val (.ref a), .val (.int q1), .val (.int q2), .val (.int (3 : Int32))] [(.int (0 : Int32))])) := fun t k => P14 t (by
              show Steps p.tables e below (s₁.setTop (mkF m 42 #[.val (.ref a), .val (.int q1), .val (.int q2), .val (.int (3 : Int32))] [(.int q2), (.int (0 : Int32))])) _
              refine XS.icmpYes X0.here hx rfl (pc0 := 42) (pc' := 69) rfl (hb hby d3_42) rfl (flt hc13).2.2.2 (by decide) (by decide) ?_
              show Steps p.tables e below (s₁.setTop (mkF m 69 #[.val (.ref a), .val (.int q1), .val (.int q2), .val (.int (3 : Int32))] [])) _
              refine XS.iconst X0.here hx rfl (hb hby d3_69) ?_
              exact k)
            obtain ⟨fs, hr, hrun, hended, hW, hsame⟩ := X0.leave (v := some (.int (nar .boolean (0 : Int32)))) (fun h => by rw [Bd.returns] at h; cases h)
            refine ⟨_, _, P00 _ (P24 _ ?_), hrun, hended, _, _, rfl, ?_, ⟨_, rfl⟩, hW, hsame.mono (by decide) (by decide)⟩
            · exact retN X0 hx (t := .boolean) Bd.returns (by simp) (hb hby d3_70) hr
            · show Q3e3 Z a ka q1 q2 c0 c1 c2 c3 c4 c5 h0 n0 _ s₁.heap _
              rw [e0]
              refine ⟨?_, N0, rfl⟩
              skip
              (try simp only [own_e3, if_neg hc1, if_pos hc5, if_pos hc7, if_neg hc10, if_neg hc13])
              (try rfl)
      · -- not q2 < (1 : Int32)
        have P26 : own_Rch p.tables e below A0 (s₁.setTop (mkF m 42 #[.val (.ref a), .val (.int q1), .val (.int q2), .val (.int (3 : Int32))] [(.int q2), (.int (0 : Int32))])) := fun t k => P8 t (by
          show Steps p.tables e below (s₁.setTop (mkF m 23 #[.val (.ref a), .val (.int q1), .val (.int q2), .val (.int (3 : Int32))] [(.int q2), (.int (1 : Int32))])) _
          refine XS.icmpYes X0.here hx rfl (pc0 := 23) (pc' := 38) rfl (hb hby d3_23) rfl (flt hc7).2.2.2 (by decide) (by decide) ?_
          show Steps p.tables e below (s₁.setTop (mkF m 38 #[.val (.ref a), .val (.int q1), .val (.int q2), .val (.int (3 : Int32))] [])) _
          refine XS.iloadN X0.here hx rfl (hb hby d3_38) rfl ?_
          show Steps p.tables e below (s₁.setTop (mkF m 39 #[.val (.ref a), .val (.int q1), .val (.int q2), .val (.int (3 : Int32))] [(.int (3 : Int32))])) _
          refine XS.iconst X0.here hx rfl (hb hby d3_39) ?_
          show Steps p.tables e below (s₁.setTop (mkF m 40 #[.val (.ref a), .val (.int q1), .val (.int q2), .val (.int (3 : Int32))] [(.int (3 : Int32)), (.int (3 : Int32))])) _
          refine XS.isub X0.here hx rfl (hb hby d3_40) rfl ?_
          show Steps p.tables e below (s₁.setTop (mkF m 41 #[.val (.ref a), .val (.int q1), .val (.int q2), .val (.int (3 : Int32))] [(.int (0 : Int32))])) _
          refine XS.iloadN X0.here hx rfl (hb hby d3_41) rfl ?_
          exact k)
        by_cases hc25 : q2 < (0 : Int32)
        · -- q2 < (0 : Int32)
          have P29 : own_Rch p.tables e below A0 (s₁.setTop (mkF m 52 #[.val (.ref a), .val (.int q1), .val (.int q2), .val (.int (3 : Int32))] [(.int (13 : Int32)), (.int c1)])) := fun t k => P26 t (by
            show Steps p.tables e below (s₁.setTop (mkF m 42 #[.val (.ref a), .val (.int q1), .val (.int q2), .val (.int (3 : Int32))] [(.int q2), (.int (0 : Int32))])) _
            refine XS.icmpNo X0.here hx rfl (hb hby d3_42) rfl (tlt hc25).2.2.2 ?_
            show Steps p.tables e below (s₁.setTop (mkF m 45 #[.val (.ref a), .val (.int q1), .val (.int q2), .val (.int (3 : Int32))] [])) _
            refine XS.aloadN X0.here hx rfl (hb hby d3_45) rfl rfl ?_
            show Steps p.tables e below (s₁.setTop (mkF m 46 #[.val (.ref a), .val (.int q1), .val (.int q2), .val (.int (3 : Int32))] [(.ref a)])) _
            refine XS.iloadN X0.here hx rfl (hb hby d3_46) rfl ?_
            show Steps p.tables e below (s₁.setTop (mkF m 47 #[.val (.ref a), .val (.int q1), .val (.int q2), .val (.int (3 : Int32))] [(.int (3 : Int32)), (.ref a)])) _
            refine XS.iconst X0.here hx rfl (hb hby d3_47) ?_
            show Steps p.tables e below (s₁.setTop (mkF m 48 #[.val (.ref a), .val (.int q1), .val (.int q2), .val (.int (3 : Int32))] [(.int (2 : Int32)), (.int (3 : Int32)), (.ref a)])) _
            refine XS.isub X0.here hx rfl (hb hby d3_48) rfl ?_
            show Steps p.tables e below (s₁.setTop (mkF m 49 #[.val (.ref a), .val (.int q1), .val (.int q2), .val (.int (3 : Int32))] [(.int (1 : Int32)), (.ref a)])) _
            obtain ⟨cl27, Ar27, -, S27, N27, H27, -⟩ := id V_a
            have hin27 : ¬ ((1 : Int32) < 0 ∨ cl27.slots.size ≤ ((1 : Int32)).toNatClampNeg) := inb_of S27 ⟨by decide, by decide⟩
            have hat27 := H27.at hin27 (v := (.int c1)) rfl
            refine X0.baloadBytes hx (j := (1 : Int32)) (v := (.int c1)) (by rw [e0]; exact Ar27.1) (State.isArrayOf_alike hZ.alike Ar27.2.1) Ar27.2.2 hin27 hat27 (g := (mkF m 49 #[.val (.ref a), .val (.int q1), .val (.int q2), .val (.int (3 : Int32))] [(.int (1 : Int32)), (.ref a)])) rfl rfl (hb hby d3_49) _ ?_
            show Steps p.tables e below (s₁.setTop (mkF m 50 #[.val (.ref a), .val (.int q1), .val (.int q2), .val (.int (3 : Int32))] [(.int c1)])) _
            refine XS.bipush X0.here hx rfl (hb hby d3_50) ?_
            exact k)
          by_cases hc28 : c1 = (13 : Int32)
          · -- c1 = (13 : Int32)
            have P32 : own_Rch p.tables e below A0 (s₁.setTop (mkF m 62 #[.val (.ref a), .val (.int q1), .val (.int q2), .val (.int (3 : Int32))] [(.int (10 : Int32)), (.int c0)])) := fun t k => P29 t (by
              show Steps p.tables e below (s₁.setTop (mkF m 52 #[.val (.ref a), .val (.int q1), .val (.int q2), .val (.int (3 : Int32))] [(.int (13 : Int32)), (.int c1)])) _
              refine XS.icmpNo X0.here hx rfl (hb hby d3_52) rfl (teq hc28).2 ?_
              show Steps p.tables e below (s₁.setTop (mkF m 55 #[.val (.ref a), .val (.int q1), .val (.int q2), .val (.int (3 : Int32))] [])) _
              refine XS.aloadN X0.here hx rfl (hb hby d3_55) rfl rfl ?_
              show Steps p.tables e below (s₁.setTop (mkF m 56 #[.val (.ref a), .val (.int q1), .val (.int q2), .val (.int (3 : Int32))] [(.ref a)])) _
              refine XS.iloadN X0.here hx rfl (hb hby d3_56) rfl ?_
              show Steps p.tables e below (s₁.setTop (mkF m 57 #[.val (.ref a), .val (.int q1), .val (.int q2), .val (.int (3 : Int32))] [(.int (3 : Int32)), (.ref a)])) _
              refine XS.iconst X0.here hx rfl (hb hby d3_57) ?_
              show Steps p.tables e below (s₁.setTop (mkF m 58 #[.val (.ref a), .val (.int q1), .val (.int q2), .val (.int (3 : Int32))] [(.int (3 : Int32)), (.int (3 : Int32)), (.ref a)])) _
              refine XS.isub X0.here hx rfl (hb hby d3_58) rfl ?_
              show Steps p.tables e below (s₁.setTop (mkF m 59 #[.val (.ref a), .val (.int q1), .val (.int q2), .val (.int (3 : Int32))] [(.int (0 : Int32)), (.ref a)])) _
              obtain ⟨cl30, Ar30, -, S30, N30, H30, -⟩ := id V_a
              have hin30 : ¬ ((0 : Int32) < 0 ∨ cl30.slots.size ≤ ((0 : Int32)).toNatClampNeg) := inb_of S30 ⟨by decide, by decide⟩
              have hat30 := H30.at hin30 (v := (.int c0)) rfl
              refine X0.baloadBytes hx (j := (0 : Int32)) (v := (.int c0)) (by rw [e0]; exact Ar30.1) (State.isArrayOf_alike hZ.alike Ar30.2.1) Ar30.2.2 hin30 hat30 (g := (mkF m 59 #[.val (.ref a), .val (.int q1), .val (.int q2), .val (.int (3 : Int32))] [(.int (0 : Int32)), (.ref a)])) rfl rfl (hb hby d3_59) _ ?_
              show Steps p.tables e below (s₁.setTop (mkF m 60 #[.val (.ref a), .val (.int q1), .val (.int q2), .val (.int (3 : Int32))] [(.int c0)])) _
              refine XS.bipush X0.here hx rfl (hb hby d3_60) ?_
              exact k)
            by_cases hc31 : c0 = (10 : Int32)
            · -- c0 = (10 : Int32)
              have P33 : own_Rch p.tables e below A0 (s₁.setTop (mkF m 70 #[.val (.ref a), .val (.int q1), .val (.int q2), .val (.int (3 : Int32))] [(.int (1 : Int32))])) := fun t k => P32 t (by
                show Steps p.tables e below (s₁.setTop (mkF m 62 #[.val (.ref a), .val (.int q1), .val (.int q2), .val (.int (3 : Int32))] [(.int (10 : Int32)), (.int c0)])) _
                refine XS.icmpNo X0.here hx rfl (hb hby d3_62) rfl (teq hc31).2 ?_
                show Steps p.tables e below (s₁.setTop (mkF m 65 #[.val (.ref a), .val (.int q1), .val (.int q2), .val (.int (3 : Int32))] [])) _
                refine XS.iconst X0.here hx rfl (hb hby d3_65) ?_
                show Steps p.tables e below (s₁.setTop (mkF m 66 #[.val (.ref a), .val (.int q1), .val (.int q2), .val (.int (3 : Int32))] [(.int (1 : Int32))])) _
                refine XS.goto X0.here hx rfl (pc0 := 66) (pc' := 70) rfl (hb hby d3_66) (by decide) (by decide) ?_
                exact k)
              obtain ⟨fs, hr, hrun, hended, hW, hsame⟩ := X0.leave (v := some (.int (nar .boolean (1 : Int32)))) (fun h => by rw [Bd.returns] at h; cases h)
              refine ⟨_, _, P00 _ (P33 _ ?_), hrun, hended, _, _, rfl, ?_, ⟨_, rfl⟩, hW, hsame.mono (by decide) (by decide)⟩
              · exact retN X0 hx (t := .boolean) Bd.returns (by simp) (hb hby d3_70) hr
              · show Q3e3 Z a ka q1 q2 c0 c1 c2 c3 c4 c5 h0 n0 _ s₁.heap _
                rw [e0]
                refine ⟨?_, N0, rfl⟩
                skip
                (try simp only [own_e3, if_neg hc1, if_pos hc5, if_neg hc7, if_pos hc25, if_pos hc28, if_pos hc31])
                (try rfl)
            · -- not c0 = (10 : Int32)
              have P34 : own_Rch p.tables e below A0 (s₁.setTop (mkF m 70 #[.val (.ref a), .val (.int q1), .val (.int q2), .val (.int (3 : Int32))] [(.int (0 : Int32))])) := fun t k => P32 t (by
                show Steps p.tables e below (s₁.setTop (mkF m 62 #[.val (.ref a), .val (.int q1), .val (.int q2), .val (.int (3 : Int32))] [(.int (10 : Int32)), (.int c0)])) _
                refine XS.icmpYes X0.here hx rfl (pc0 := 62) (pc' := 69) rfl (hb hby d3_62) rfl (feq hc31).2 (by decide) (by decide) ?_
                show Steps p.tables e below (s₁.setTop (mkF m 69 #[.val (.ref a), .val (.int q1), .val (.int q2), .val (.int (3 : Int32))] [])) _
                refine XS.iconst X0.here hx rfl (hb hby d3_69) ?_
                exact k)
              obtain ⟨fs, hr, hrun, hended, hW, hsame⟩ := X0.leave (v := some (.int (nar .boolean (0 : Int32)))) (fun h => by rw [Bd.returns] at h; cases h)
              refine ⟨_, _, P00 _ (P34 _ ?_), hrun, hended, _, _, rfl, ?_, ⟨_, rfl⟩, hW, hsame.mono (by decide) (by decide)⟩
              · exact retN X0 hx (t := .boolean) Bd.returns (by simp) (hb hby d3_70) hr
              · show Q3e3 Z a ka q1 q2 c0 c1 c2 c3 c4 c5 h0 n0 _ s₁.heap _
                rw [e0]
                refine ⟨?_, N0, rfl⟩
                skip
                (try simp only [own_e3, if_neg hc1, if_pos hc5, if_neg hc7, if_pos hc25, if_pos hc28, if_neg hc31])
                (try rfl)
          · -- not c1 = (13 : Int32)
            have P35 : own_Rch p.tables e below A0 (s₁.setTop (mkF m 70 #[.val (.ref a), .val (.int q1), .val (.int q2), .val (.int (3 : Int32))] [(.int (0 : Int32))])) := fun t k => P29 t (by
              show Steps p.tables e below (s₁.setTop (mkF m 52 #[.val (.ref a), .val (.int q1), .val (.int q2), .val (.int (3 : Int32))] [(.int (13 : Int32)), (.int c1)])) _
              refine XS.icmpYes X0.here hx rfl (pc0 := 52) (pc' := 69) rfl (hb hby d3_52) rfl (feq hc28).2 (by decide) (by decide) ?_
              show Steps p.tables e below (s₁.setTop (mkF m 69 #[.val (.ref a), .val (.int q1), .val (.int q2), .val (.int (3 : Int32))] [])) _
              refine XS.iconst X0.here hx rfl (hb hby d3_69) ?_
              exact k)
            obtain ⟨fs, hr, hrun, hended, hW, hsame⟩ := X0.leave (v := some (.int (nar .boolean (0 : Int32)))) (fun h => by rw [Bd.returns] at h; cases h)
            refine ⟨_, _, P00 _ (P35 _ ?_), hrun, hended, _, _, rfl, ?_, ⟨_, rfl⟩, hW, hsame.mono (by decide) (by decide)⟩
            · exact retN X0 hx (t := .boolean) Bd.returns (by simp) (hb hby d3_70) hr
            · show Q3e3 Z a ka q1 q2 c0 c1 c2 c3 c4 c5 h0 n0 _ s₁.heap _
              rw [e0]
              refine ⟨?_, N0, rfl⟩
              skip
              (try simp only [own_e3, if_neg hc1, if_pos hc5, if_neg hc7, if_pos hc25, if_neg hc28])
              (try rfl)
        · -- not q2 < (0 : Int32)
          have P36 : own_Rch p.tables e below A0 (s₁.setTop (mkF m 70 #[.val (.ref a), .val (.int q1), .val (.int q2), .val (.int (3 : Int32))] [(.int (0 : Int32))])) := fun t k => P26 t (by
            show Steps p.tables e below (s₁.setTop (mkF m 42 #[.val (.ref a), .val (.int q1), .val (.int q2), .val (.int (3 : Int32))] [(.int q2), (.int (0 : Int32))])) _
            refine XS.icmpYes X0.here hx rfl (pc0 := 42) (pc' := 69) rfl (hb hby d3_42) rfl (flt hc25).2.2.2 (by decide) (by decide) ?_
            show Steps p.tables e below (s₁.setTop (mkF m 69 #[.val (.ref a), .val (.int q1), .val (.int q2), .val (.int (3 : Int32))] [])) _
            refine XS.iconst X0.here hx rfl (hb hby d3_69) ?_
            exact k)
          obtain ⟨fs, hr, hrun, hended, hW, hsame⟩ := X0.leave (v := some (.int (nar .boolean (0 : Int32)))) (fun h => by rw [Bd.returns] at h; cases h)
          refine ⟨_, _, P00 _ (P36 _ ?_), hrun, hended, _, _, rfl, ?_, ⟨_, rfl⟩, hW, hsame.mono (by decide) (by decide)⟩
          · exact retN X0 hx (t := .boolean) Bd.returns (by simp) (hb hby d3_70) hr
          · show Q3e3 Z a ka q1 q2 c0 c1 c2 c3 c4 c5 h0 n0 _ s₁.heap _
            rw [e0]
            refine ⟨?_, N0, rfl⟩
            skip
            (try simp only [own_e3, if_neg hc1, if_pos hc5, if_neg hc7, if_neg hc25])
            (try rfl)
    · -- not c2 = (10 : Int32)
      have P37 : own_Rch p.tables e below A0 (s₁.setTop (mkF m 18 #[.val (.ref a), .val (.int q1), .val (.int q2), .val (.int (3 : Int32))] [(.int (0 : Int32))])) := fun t k => P6 t (by
        show Steps p.tables e below (s₁.setTop (mkF m 14 #[.val (.ref a), .val (.int q1), .val (.int q2), .val (.int (3 : Int32))] [(.int (10 : Int32)), (.int c2)])) _
        refine XS.icmpNo X0.here hx rfl (hb hby d3_14) rfl (feq hc5).1 ?_
        show Steps p.tables e below (s₁.setTop (mkF m 17 #[.val (.ref a), .val (.int q1), .val (.int q2), .val (.int (3 : Int32))] [])) _
        refine XS.iconst X0.here hx rfl (hb hby d3_17) ?_
        exact k)
      obtain ⟨fs, hr, hrun, hended, hW, hsame⟩ := X0.leave (v := some (.int (nar .boolean (0 : Int32)))) (fun h => by rw [Bd.returns] at h; cases h)
      refine ⟨_, _, P00 _ (P37 _ ?_), hrun, hended, _, _, rfl, ?_, ⟨_, rfl⟩, hW, hsame.mono (by decide) (by decide)⟩
      · exact retN X0 hx (t := .boolean) Bd.returns (by simp) (hb hby d3_18) hr
      · show Q3e3 Z a ka q1 q2 c0 c1 c2 c3 c4 c5 h0 n0 _ s₁.heap _
        rw [e0]
        refine ⟨?_, N0, rfl⟩
        skip
        (try simp only [own_e3, if_neg hc1, if_neg hc5])
        (try rfl)
def own_e4 (q1 : Int32) (q2 : Int32) (c0 : Int32) (c1 : Int32) (c2 : Int32) (c3 : Int32) (c4 : Int32) (c5 : Int32) : Int32 := (if q1 < (4 : Int32) then (0 : Int32) else (if c3 = (10 : Int32) then (if q2 < (2 : Int32) then (if c2 = (10 : Int32) then (1 : Int32) else (if q2 < (1 : Int32) then (if c2 = (13 : Int32) then (if c1 = (10 : Int32) then (1 : Int32) else (0 : Int32)) else (0 : Int32)) else (0 : Int32))) else (if q2 < (1 : Int32) then (if c2 = (13 : Int32) then (if c1 = (10 : Int32) then (1 : Int32) else (0 : Int32)) else (0 : Int32)) else (0 : Int32))) else (0 : Int32)))
theorem ef_3e4 (m : MethodId) (a : Addr) (q1 : Int32) (q2 : Int32) : entryFrame m #[(.ref a), (.int q1), (.int q2), (.int (4 : Int32))] 4 = mkF m 0 #[.val (.ref a), .val (.int q1), .val (.int q2), .val (.int (4 : Int32))] [] := by first | (simp [entryFrame, mkF, argsToLocals, Value.category]; done) | rfl
def Q3e4 (Z : State) (a : Addr) (ka : ClassId) (q1 : Int32) (q2 : Int32) (c0 : Int32) (c1 : Int32) (c2 : Int32) (c3 : Int32) (c4 : Int32) (c5 : Int32) (h0 : Heap) (n0 : Nat) (v : Option Value) (h : Heap) (L : List Loc) : Prop := v = some (.int (own_e4 q1 q2 c0 c1 c2 c3 c4 c5)) ∧ Fr n0 L ∧ h = h0
set_option maxRecDepth 65536 in
set_option maxHeartbeats 40000000 in
theorem rm3e4 (l : Launch) (Z : State) (a0 : Array Value) (hw : ∀ d ∈ tables_1, d.before a0 Z = true) (ws : List Jvm.Cond) (a : Addr) (ka : ClassId) (q1 : Int32) (q2 : Int32) (c0 : Int32) (c1 : Int32) (c2 : Int32) (c3 : Int32) (c4 : Int32) (c5 : Int32) (h0 : Heap) (n0 : Nat) (Z0 : n0 ≤ h0.size) (V_a : Arv Z h0 a ka .byte (6 : Int32) [(.int c0), (.int c1), (.int c2), (.int c3), (.int c4), (.int c5)] (.int (0 : Int32))) :
    MetFree l (⟨"com/example/rackline/rackline/metrics/RequestHeadEndPinLaw", "endsAt", "([BIII)Z"⟩ : MethodName) (head1 (Jvm.Cond.code (⟨"com/example/rackline/rackline/metrics/RequestHeadEndPinLaw", "endsAt", "([BIII)Z"⟩ : MethodName) method_4_code 4 (some .boolean) :: ws) ({ frames := 0, cells := 0, slots := 0, locals := 0 } : Room)) (fun a' U => a' = #[(.ref a), (.int q1), (.int q2), (.int (4 : Int32))] ∧ Z.Warmed39 U.vm ∧ U.heap = h0) (fun _ _ _ _ _ => True) (fun _ U o U' => ∃ v L, o = .returned v ∧ Q3e4 Z a ka q1 q2 c0 c1 c2 c3 c4 c5 h0 n0 v U'.heap L ∧ FrameEnd U o U' L ({ frames := 0, cells := 0, slots := 0, locals := 0 } : Room).cells ({ frames := 0, cells := 0, slots := 0, locals := 0 } : Room).slots) := by
  refine MetFree.of_bodySF (plainFor_of_name pn_0) hisR ?_
  intro p e s m args' below meth c s₁ Bd hml0 hP hK
  obtain ⟨hargs, hZ, hh⟩ := hP
  have hx := Bd.exec
  have hby := Bd.bytes
  have hml : c.maxLocals = 4 := hml0
  have hown : s.vm.findClass "com/example/rackline/rackline/metrics/RequestHeadEndPinLaw" = some m.cls := findClass_of_methodNamed Bd.named
  have hnm := (name_of_methodNamed Bd.named Bd.method).1
  have X0 : Stand p l e ({ frames := 0, cells := 0, slots := 0, locals := 0 } : Room) s m args' below meth c s₁ [] 0 0 := Stand.of_body Bd
  have e0 : s₁.heap = h0 := by rw [← hh, Bd.state]; rfl
  have N0 := Fr.nil n0
  obtain ⟨A0, hA0⟩ : ∃ A, A = s₁.setTop (mkF m 0 #[.val (.ref a), .val (.int q1), .val (.int q2), .val (.int (4 : Int32))] []) := ⟨_, rfl⟩
  have P0 : own_Rch p.tables e below A0 (s₁.setTop (mkF m 0 #[.val (.ref a), .val (.int q1), .val (.int q2), .val (.int (4 : Int32))] [])) := fun t k => hA0 ▸ k
  have P00 : own_Rch p.tables e below (s₁.setTop (entryFrame m args' 4)) A0 := fun t k => by rw [hargs]; exact castTop (ef_3e4 m a q1 q2) (hA0 ▸ k)
  have P2 : own_Rch p.tables e below A0 (s₁.setTop (mkF m 2 #[.val (.ref a), .val (.int q1), .val (.int q2), .val (.int (4 : Int32))] [(.int q1), (.int (4 : Int32))])) := fun t k => P0 t (by
    show Steps p.tables e below (s₁.setTop (mkF m 0 #[.val (.ref a), .val (.int q1), .val (.int q2), .val (.int (4 : Int32))] [])) _
    refine XS.iloadN X0.here hx rfl (hb hby d3_0) rfl ?_
    show Steps p.tables e below (s₁.setTop (mkF m 1 #[.val (.ref a), .val (.int q1), .val (.int q2), .val (.int (4 : Int32))] [(.int (4 : Int32))])) _
    refine XS.iloadN X0.here hx rfl (hb hby d3_1) rfl ?_
    exact k)
  by_cases hc1 : q1 < (4 : Int32)
  · -- q1 < (4 : Int32)
    have P3 : own_Rch p.tables e below A0 (s₁.setTop (mkF m 6 #[.val (.ref a), .val (.int q1), .val (.int q2), .val (.int (4 : Int32))] [(.int (0 : Int32))])) := fun t k => P2 t (by
      show Steps p.tables e below (s₁.setTop (mkF m 2 #[.val (.ref a), .val (.int q1), .val (.int q2), .val (.int (4 : Int32))] [(.int q1), (.int (4 : Int32))])) _
      refine XS.icmpNo X0.here hx rfl (hb hby d3_2) rfl (tlt hc1).2.2.2 ?_
      show Steps p.tables e below (s₁.setTop (mkF m 5 #[.val (.ref a), .val (.int q1), .val (.int q2), .val (.int (4 : Int32))] [])) _
      refine XS.iconst X0.here hx rfl (hb hby d3_5) ?_
      exact k)
    obtain ⟨fs, hr, hrun, hended, hW, hsame⟩ := X0.leave (v := some (.int (nar .boolean (0 : Int32)))) (fun h => by rw [Bd.returns] at h; cases h)
    refine ⟨_, _, P00 _ (P3 _ ?_), hrun, hended, _, _, rfl, ?_, ⟨_, rfl⟩, hW, hsame.mono (by decide) (by decide)⟩
    · exact retN X0 hx (t := .boolean) Bd.returns (by simp) (hb hby d3_6) hr
    · show Q3e4 Z a ka q1 q2 c0 c1 c2 c3 c4 c5 h0 n0 _ s₁.heap _
      rw [e0]
      refine ⟨?_, N0, rfl⟩
      skip
      (try simp only [own_e4, if_pos hc1])
      (try rfl)
  · -- not q1 < (4 : Int32)
    have P6 : own_Rch p.tables e below A0 (s₁.setTop (mkF m 14 #[.val (.ref a), .val (.int q1), .val (.int q2), .val (.int (4 : Int32))] [(.int (10 : Int32)), (.int c3)])) := fun t k => P2 t (by
      show Steps p.tables e below (s₁.setTop (mkF m 2 #[.val (.ref a), .val (.int q1), .val (.int q2), .val (.int (4 : Int32))] [(.int q1), (.int (4 : Int32))])) _
      refine XS.icmpYes X0.here hx rfl (pc0 := 2) (pc' := 7) rfl (hb hby d3_2) rfl (flt hc1).2.2.2 (by decide) (by decide) ?_
      show Steps p.tables e below (s₁.setTop (mkF m 7 #[.val (.ref a), .val (.int q1), .val (.int q2), .val (.int (4 : Int32))] [])) _
      refine XS.aloadN X0.here hx rfl (hb hby d3_7) rfl rfl ?_
      show Steps p.tables e below (s₁.setTop (mkF m 8 #[.val (.ref a), .val (.int q1), .val (.int q2), .val (.int (4 : Int32))] [(.ref a)])) _
      refine XS.iloadN X0.here hx rfl (hb hby d3_8) rfl ?_
      show Steps p.tables e below (s₁.setTop (mkF m 9 #[.val (.ref a), .val (.int q1), .val (.int q2), .val (.int (4 : Int32))] [(.int (4 : Int32)), (.ref a)])) _
      refine XS.iconst X0.here hx rfl (hb hby d3_9) ?_
      show Steps p.tables e below (s₁.setTop (mkF m 10 #[.val (.ref a), .val (.int q1), .val (.int q2), .val (.int (4 : Int32))] [(.int (1 : Int32)), (.int (4 : Int32)), (.ref a)])) _
      refine XS.isub X0.here hx rfl (hb hby d3_10) rfl ?_
      show Steps p.tables e below (s₁.setTop (mkF m 11 #[.val (.ref a), .val (.int q1), .val (.int q2), .val (.int (4 : Int32))] [(.int (3 : Int32)), (.ref a)])) _
      obtain ⟨cl4, Ar4, -, S4, N4, H4, -⟩ := id V_a
      have hin4 : ¬ ((3 : Int32) < 0 ∨ cl4.slots.size ≤ ((3 : Int32)).toNatClampNeg) := inb_of S4 ⟨by decide, by decide⟩
      have hat4 := H4.at hin4 (v := (.int c3)) rfl
      refine X0.baloadBytes hx (j := (3 : Int32)) (v := (.int c3)) (by rw [e0]; exact Ar4.1) (State.isArrayOf_alike hZ.alike Ar4.2.1) Ar4.2.2 hin4 hat4 (g := (mkF m 11 #[.val (.ref a), .val (.int q1), .val (.int q2), .val (.int (4 : Int32))] [(.int (3 : Int32)), (.ref a)])) rfl rfl (hb hby d3_11) _ ?_
      show Steps p.tables e below (s₁.setTop (mkF m 12 #[.val (.ref a), .val (.int q1), .val (.int q2), .val (.int (4 : Int32))] [(.int c3)])) _
      refine XS.bipush X0.here hx rfl (hb hby d3_12) ?_
      exact k)
    by_cases hc5 : c3 = (10 : Int32)
    · -- c3 = (10 : Int32)
      have P8 : own_Rch p.tables e below A0 (s₁.setTop (mkF m 23 #[.val (.ref a), .val (.int q1), .val (.int q2), .val (.int (4 : Int32))] [(.int q2), (.int (2 : Int32))])) := fun t k => P6 t (by
        show Steps p.tables e below (s₁.setTop (mkF m 14 #[.val (.ref a), .val (.int q1), .val (.int q2), .val (.int (4 : Int32))] [(.int (10 : Int32)), (.int c3)])) _
        refine XS.icmpYes X0.here hx rfl (pc0 := 14) (pc' := 19) rfl (hb hby d3_14) rfl (teq hc5).1 (by decide) (by decide) ?_
        show Steps p.tables e below (s₁.setTop (mkF m 19 #[.val (.ref a), .val (.int q1), .val (.int q2), .val (.int (4 : Int32))] [])) _
        refine XS.iloadN X0.here hx rfl (hb hby d3_19) rfl ?_
        show Steps p.tables e below (s₁.setTop (mkF m 20 #[.val (.ref a), .val (.int q1), .val (.int q2), .val (.int (4 : Int32))] [(.int (4 : Int32))])) _
        refine XS.iconst X0.here hx rfl (hb hby d3_20) ?_
        show Steps p.tables e below (s₁.setTop (mkF m 21 #[.val (.ref a), .val (.int q1), .val (.int q2), .val (.int (4 : Int32))] [(.int (2 : Int32)), (.int (4 : Int32))])) _
        refine XS.isub X0.here hx rfl (hb hby d3_21) rfl ?_
        show Steps p.tables e below (s₁.setTop (mkF m 22 #[.val (.ref a), .val (.int q1), .val (.int q2), .val (.int (4 : Int32))] [(.int (2 : Int32))])) _
        refine XS.iloadN X0.here hx rfl (hb hby d3_22) rfl ?_
        exact k)
      by_cases hc7 : q2 < (2 : Int32)
      · -- q2 < (2 : Int32)
        have P11 : own_Rch p.tables e below A0 (s₁.setTop (mkF m 33 #[.val (.ref a), .val (.int q1), .val (.int q2), .val (.int (4 : Int32))] [(.int (10 : Int32)), (.int c2)])) := fun t k => P8 t (by
          show Steps p.tables e below (s₁.setTop (mkF m 23 #[.val (.ref a), .val (.int q1), .val (.int q2), .val (.int (4 : Int32))] [(.int q2), (.int (2 : Int32))])) _
          refine XS.icmpNo X0.here hx rfl (hb hby d3_23) rfl (tlt hc7).2.2.2 ?_
          show Steps p.tables e below (s₁.setTop (mkF m 26 #[.val (.ref a), .val (.int q1), .val (.int q2), .val (.int (4 : Int32))] [])) _
          refine XS.aloadN X0.here hx rfl (hb hby d3_26) rfl rfl ?_
          show Steps p.tables e below (s₁.setTop (mkF m 27 #[.val (.ref a), .val (.int q1), .val (.int q2), .val (.int (4 : Int32))] [(.ref a)])) _
          refine XS.iloadN X0.here hx rfl (hb hby d3_27) rfl ?_
          show Steps p.tables e below (s₁.setTop (mkF m 28 #[.val (.ref a), .val (.int q1), .val (.int q2), .val (.int (4 : Int32))] [(.int (4 : Int32)), (.ref a)])) _
          refine XS.iconst X0.here hx rfl (hb hby d3_28) ?_
          show Steps p.tables e below (s₁.setTop (mkF m 29 #[.val (.ref a), .val (.int q1), .val (.int q2), .val (.int (4 : Int32))] [(.int (2 : Int32)), (.int (4 : Int32)), (.ref a)])) _
          refine XS.isub X0.here hx rfl (hb hby d3_29) rfl ?_
          show Steps p.tables e below (s₁.setTop (mkF m 30 #[.val (.ref a), .val (.int q1), .val (.int q2), .val (.int (4 : Int32))] [(.int (2 : Int32)), (.ref a)])) _
          obtain ⟨cl9, Ar9, -, S9, N9, H9, -⟩ := id V_a
          have hin9 : ¬ ((2 : Int32) < 0 ∨ cl9.slots.size ≤ ((2 : Int32)).toNatClampNeg) := inb_of S9 ⟨by decide, by decide⟩
          have hat9 := H9.at hin9 (v := (.int c2)) rfl
          refine X0.baloadBytes hx (j := (2 : Int32)) (v := (.int c2)) (by rw [e0]; exact Ar9.1) (State.isArrayOf_alike hZ.alike Ar9.2.1) Ar9.2.2 hin9 hat9 (g := (mkF m 30 #[.val (.ref a), .val (.int q1), .val (.int q2), .val (.int (4 : Int32))] [(.int (2 : Int32)), (.ref a)])) rfl rfl (hb hby d3_30) _ ?_
          show Steps p.tables e below (s₁.setTop (mkF m 31 #[.val (.ref a), .val (.int q1), .val (.int q2), .val (.int (4 : Int32))] [(.int c2)])) _
          refine XS.bipush X0.here hx rfl (hb hby d3_31) ?_
          exact k)
        by_cases hc10 : c2 = (10 : Int32)
        · -- c2 = (10 : Int32)
          have P12 : own_Rch p.tables e below A0 (s₁.setTop (mkF m 37 #[.val (.ref a), .val (.int q1), .val (.int q2), .val (.int (4 : Int32))] [(.int (1 : Int32))])) := fun t k => P11 t (by
            show Steps p.tables e below (s₁.setTop (mkF m 33 #[.val (.ref a), .val (.int q1), .val (.int q2), .val (.int (4 : Int32))] [(.int (10 : Int32)), (.int c2)])) _
            refine XS.icmpNo X0.here hx rfl (hb hby d3_33) rfl (teq hc10).2 ?_
            show Steps p.tables e below (s₁.setTop (mkF m 36 #[.val (.ref a), .val (.int q1), .val (.int q2), .val (.int (4 : Int32))] [])) _
            refine XS.iconst X0.here hx rfl (hb hby d3_36) ?_
            exact k)
          obtain ⟨fs, hr, hrun, hended, hW, hsame⟩ := X0.leave (v := some (.int (nar .boolean (1 : Int32)))) (fun h => by rw [Bd.returns] at h; cases h)
          refine ⟨_, _, P00 _ (P12 _ ?_), hrun, hended, _, _, rfl, ?_, ⟨_, rfl⟩, hW, hsame.mono (by decide) (by decide)⟩
          · exact retN X0 hx (t := .boolean) Bd.returns (by simp) (hb hby d3_37) hr
          · show Q3e4 Z a ka q1 q2 c0 c1 c2 c3 c4 c5 h0 n0 _ s₁.heap _
            rw [e0]
            refine ⟨?_, N0, rfl⟩
            skip
            (try simp only [own_e4, if_neg hc1, if_pos hc5, if_pos hc7, if_pos hc10])
            (try rfl)
        · -- not c2 = (10 : Int32)
          have P14 : own_Rch p.tables e below A0 (s₁.setTop (mkF m 42 #[.val (.ref a), .val (.int q1), .val (.int q2), .val (.int (4 : Int32))] [(.int q2), (.int (1 : Int32))])) := fun t k => P11 t (by
            show Steps p.tables e below (s₁.setTop (mkF m 33 #[.val (.ref a), .val (.int q1), .val (.int q2), .val (.int (4 : Int32))] [(.int (10 : Int32)), (.int c2)])) _
            refine XS.icmpYes X0.here hx rfl (pc0 := 33) (pc' := 38) rfl (hb hby d3_33) rfl (feq hc10).2 (by decide) (by decide) ?_
            show Steps p.tables e below (s₁.setTop (mkF m 38 #[.val (.ref a), .val (.int q1), .val (.int q2), .val (.int (4 : Int32))] [])) _
            refine XS.iloadN X0.here hx rfl (hb hby d3_38) rfl ?_
            show Steps p.tables e below (s₁.setTop (mkF m 39 #[.val (.ref a), .val (.int q1), .val (.int q2), .val (.int (4 : Int32))] [(.int (4 : Int32))])) _
            refine XS.iconst X0.here hx rfl (hb hby d3_39) ?_
            show Steps p.tables e below (s₁.setTop (mkF m 40 #[.val (.ref a), .val (.int q1), .val (.int q2), .val (.int (4 : Int32))] [(.int (3 : Int32)), (.int (4 : Int32))])) _
            refine XS.isub X0.here hx rfl (hb hby d3_40) rfl ?_
            show Steps p.tables e below (s₁.setTop (mkF m 41 #[.val (.ref a), .val (.int q1), .val (.int q2), .val (.int (4 : Int32))] [(.int (1 : Int32))])) _
            refine XS.iloadN X0.here hx rfl (hb hby d3_41) rfl ?_
            exact k)
          by_cases hc13 : q2 < (1 : Int32)
          · -- q2 < (1 : Int32)
            have P17 : own_Rch p.tables e below A0 (s₁.setTop (mkF m 52 #[.val (.ref a), .val (.int q1), .val (.int q2), .val (.int (4 : Int32))] [(.int (13 : Int32)), (.int c2)])) := fun t k => P14 t (by
              show Steps p.tables e below (s₁.setTop (mkF m 42 #[.val (.ref a), .val (.int q1), .val (.int q2), .val (.int (4 : Int32))] [(.int q2), (.int (1 : Int32))])) _
              refine XS.icmpNo X0.here hx rfl (hb hby d3_42) rfl (tlt hc13).2.2.2 ?_
              show Steps p.tables e below (s₁.setTop (mkF m 45 #[.val (.ref a), .val (.int q1), .val (.int q2), .val (.int (4 : Int32))] [])) _
              refine XS.aloadN X0.here hx rfl (hb hby d3_45) rfl rfl ?_
              show Steps p.tables e below (s₁.setTop (mkF m 46 #[.val (.ref a), .val (.int q1), .val (.int q2), .val (.int (4 : Int32))] [(.ref a)])) _
              refine XS.iloadN X0.here hx rfl (hb hby d3_46) rfl ?_
              show Steps p.tables e below (s₁.setTop (mkF m 47 #[.val (.ref a), .val (.int q1), .val (.int q2), .val (.int (4 : Int32))] [(.int (4 : Int32)), (.ref a)])) _
              refine XS.iconst X0.here hx rfl (hb hby d3_47) ?_
              show Steps p.tables e below (s₁.setTop (mkF m 48 #[.val (.ref a), .val (.int q1), .val (.int q2), .val (.int (4 : Int32))] [(.int (2 : Int32)), (.int (4 : Int32)), (.ref a)])) _
              refine XS.isub X0.here hx rfl (hb hby d3_48) rfl ?_
              show Steps p.tables e below (s₁.setTop (mkF m 49 #[.val (.ref a), .val (.int q1), .val (.int q2), .val (.int (4 : Int32))] [(.int (2 : Int32)), (.ref a)])) _
              obtain ⟨cl15, Ar15, -, S15, N15, H15, -⟩ := id V_a
              have hin15 : ¬ ((2 : Int32) < 0 ∨ cl15.slots.size ≤ ((2 : Int32)).toNatClampNeg) := inb_of S15 ⟨by decide, by decide⟩
              have hat15 := H15.at hin15 (v := (.int c2)) rfl
              refine X0.baloadBytes hx (j := (2 : Int32)) (v := (.int c2)) (by rw [e0]; exact Ar15.1) (State.isArrayOf_alike hZ.alike Ar15.2.1) Ar15.2.2 hin15 hat15 (g := (mkF m 49 #[.val (.ref a), .val (.int q1), .val (.int q2), .val (.int (4 : Int32))] [(.int (2 : Int32)), (.ref a)])) rfl rfl (hb hby d3_49) _ ?_
              show Steps p.tables e below (s₁.setTop (mkF m 50 #[.val (.ref a), .val (.int q1), .val (.int q2), .val (.int (4 : Int32))] [(.int c2)])) _
              refine XS.bipush X0.here hx rfl (hb hby d3_50) ?_
              exact k)
            by_cases hc16 : c2 = (13 : Int32)
            · -- c2 = (13 : Int32)
              have P20 : own_Rch p.tables e below A0 (s₁.setTop (mkF m 62 #[.val (.ref a), .val (.int q1), .val (.int q2), .val (.int (4 : Int32))] [(.int (10 : Int32)), (.int c1)])) := fun t k => P17 t (by
                show Steps p.tables e below (s₁.setTop (mkF m 52 #[.val (.ref a), .val (.int q1), .val (.int q2), .val (.int (4 : Int32))] [(.int (13 : Int32)), (.int c2)])) _
                refine XS.icmpNo X0.here hx rfl (hb hby d3_52) rfl (teq hc16).2 ?_
                show Steps p.tables e below (s₁.setTop (mkF m 55 #[.val (.ref a), .val (.int q1), .val (.int q2), .val (.int (4 : Int32))] [])) _
                refine XS.aloadN X0.here hx rfl (hb hby d3_55) rfl rfl ?_
                show Steps p.tables e below (s₁.setTop (mkF m 56 #[.val (.ref a), .val (.int q1), .val (.int q2), .val (.int (4 : Int32))] [(.ref a)])) _
                refine XS.iloadN X0.here hx rfl (hb hby d3_56) rfl ?_
                show Steps p.tables e below (s₁.setTop (mkF m 57 #[.val (.ref a), .val (.int q1), .val (.int q2), .val (.int (4 : Int32))] [(.int (4 : Int32)), (.ref a)])) _
                refine XS.iconst X0.here hx rfl (hb hby d3_57) ?_
                show Steps p.tables e below (s₁.setTop (mkF m 58 #[.val (.ref a), .val (.int q1), .val (.int q2), .val (.int (4 : Int32))] [(.int (3 : Int32)), (.int (4 : Int32)), (.ref a)])) _
                refine XS.isub X0.here hx rfl (hb hby d3_58) rfl ?_
                show Steps p.tables e below (s₁.setTop (mkF m 59 #[.val (.ref a), .val (.int q1), .val (.int q2), .val (.int (4 : Int32))] [(.int (1 : Int32)), (.ref a)])) _
                obtain ⟨cl18, Ar18, -, S18, N18, H18, -⟩ := id V_a
                have hin18 : ¬ ((1 : Int32) < 0 ∨ cl18.slots.size ≤ ((1 : Int32)).toNatClampNeg) := inb_of S18 ⟨by decide, by decide⟩
                have hat18 := H18.at hin18 (v := (.int c1)) rfl
                refine X0.baloadBytes hx (j := (1 : Int32)) (v := (.int c1)) (by rw [e0]; exact Ar18.1) (State.isArrayOf_alike hZ.alike Ar18.2.1) Ar18.2.2 hin18 hat18 (g := (mkF m 59 #[.val (.ref a), .val (.int q1), .val (.int q2), .val (.int (4 : Int32))] [(.int (1 : Int32)), (.ref a)])) rfl rfl (hb hby d3_59) _ ?_
                show Steps p.tables e below (s₁.setTop (mkF m 60 #[.val (.ref a), .val (.int q1), .val (.int q2), .val (.int (4 : Int32))] [(.int c1)])) _
                refine XS.bipush X0.here hx rfl (hb hby d3_60) ?_
                exact k)
              by_cases hc19 : c1 = (10 : Int32)
              · -- c1 = (10 : Int32)
                have P21 : own_Rch p.tables e below A0 (s₁.setTop (mkF m 70 #[.val (.ref a), .val (.int q1), .val (.int q2), .val (.int (4 : Int32))] [(.int (1 : Int32))])) := fun t k => P20 t (by
                  show Steps p.tables e below (s₁.setTop (mkF m 62 #[.val (.ref a), .val (.int q1), .val (.int q2), .val (.int (4 : Int32))] [(.int (10 : Int32)), (.int c1)])) _
                  refine XS.icmpNo X0.here hx rfl (hb hby d3_62) rfl (teq hc19).2 ?_
                  show Steps p.tables e below (s₁.setTop (mkF m 65 #[.val (.ref a), .val (.int q1), .val (.int q2), .val (.int (4 : Int32))] [])) _
                  refine XS.iconst X0.here hx rfl (hb hby d3_65) ?_
                  show Steps p.tables e below (s₁.setTop (mkF m 66 #[.val (.ref a), .val (.int q1), .val (.int q2), .val (.int (4 : Int32))] [(.int (1 : Int32))])) _
                  refine XS.goto X0.here hx rfl (pc0 := 66) (pc' := 70) rfl (hb hby d3_66) (by decide) (by decide) ?_
                  exact k)
                obtain ⟨fs, hr, hrun, hended, hW, hsame⟩ := X0.leave (v := some (.int (nar .boolean (1 : Int32)))) (fun h => by rw [Bd.returns] at h; cases h)
                refine ⟨_, _, P00 _ (P21 _ ?_), hrun, hended, _, _, rfl, ?_, ⟨_, rfl⟩, hW, hsame.mono (by decide) (by decide)⟩
                · exact retN X0 hx (t := .boolean) Bd.returns (by simp) (hb hby d3_70) hr
                · show Q3e4 Z a ka q1 q2 c0 c1 c2 c3 c4 c5 h0 n0 _ s₁.heap _
                  rw [e0]
                  refine ⟨?_, N0, rfl⟩
                  skip
                  (try simp only [own_e4, if_neg hc1, if_pos hc5, if_pos hc7, if_neg hc10, if_pos hc13, if_pos hc16, if_pos hc19])
                  (try rfl)
              · -- not c1 = (10 : Int32)
                have P22 : own_Rch p.tables e below A0 (s₁.setTop (mkF m 70 #[.val (.ref a), .val (.int q1), .val (.int q2), .val (.int (4 : Int32))] [(.int (0 : Int32))])) := fun t k => P20 t (by
                  show Steps p.tables e below (s₁.setTop (mkF m 62 #[.val (.ref a), .val (.int q1), .val (.int q2), .val (.int (4 : Int32))] [(.int (10 : Int32)), (.int c1)])) _
                  refine XS.icmpYes X0.here hx rfl (pc0 := 62) (pc' := 69) rfl (hb hby d3_62) rfl (feq hc19).2 (by decide) (by decide) ?_
                  show Steps p.tables e below (s₁.setTop (mkF m 69 #[.val (.ref a), .val (.int q1), .val (.int q2), .val (.int (4 : Int32))] [])) _
                  refine XS.iconst X0.here hx rfl (hb hby d3_69) ?_
                  exact k)
                obtain ⟨fs, hr, hrun, hended, hW, hsame⟩ := X0.leave (v := some (.int (nar .boolean (0 : Int32)))) (fun h => by rw [Bd.returns] at h; cases h)
                refine ⟨_, _, P00 _ (P22 _ ?_), hrun, hended, _, _, rfl, ?_, ⟨_, rfl⟩, hW, hsame.mono (by decide) (by decide)⟩
                · exact retN X0 hx (t := .boolean) Bd.returns (by simp) (hb hby d3_70) hr
                · show Q3e4 Z a ka q1 q2 c0 c1 c2 c3 c4 c5 h0 n0 _ s₁.heap _
                  rw [e0]
                  refine ⟨?_, N0, rfl⟩
                  skip
                  (try simp only [own_e4, if_neg hc1, if_pos hc5, if_pos hc7, if_neg hc10, if_pos hc13, if_pos hc16, if_neg hc19])
                  (try rfl)
            · -- not c2 = (13 : Int32)
              have P23 : own_Rch p.tables e below A0 (s₁.setTop (mkF m 70 #[.val (.ref a), .val (.int q1), .val (.int q2), .val (.int (4 : Int32))] [(.int (0 : Int32))])) := fun t k => P17 t (by
                show Steps p.tables e below (s₁.setTop (mkF m 52 #[.val (.ref a), .val (.int q1), .val (.int q2), .val (.int (4 : Int32))] [(.int (13 : Int32)), (.int c2)])) _
                refine XS.icmpYes X0.here hx rfl (pc0 := 52) (pc' := 69) rfl (hb hby d3_52) rfl (feq hc16).2 (by decide) (by decide) ?_
                show Steps p.tables e below (s₁.setTop (mkF m 69 #[.val (.ref a), .val (.int q1), .val (.int q2), .val (.int (4 : Int32))] [])) _
                refine XS.iconst X0.here hx rfl (hb hby d3_69) ?_
                exact k)
              obtain ⟨fs, hr, hrun, hended, hW, hsame⟩ := X0.leave (v := some (.int (nar .boolean (0 : Int32)))) (fun h => by rw [Bd.returns] at h; cases h)
              refine ⟨_, _, P00 _ (P23 _ ?_), hrun, hended, _, _, rfl, ?_, ⟨_, rfl⟩, hW, hsame.mono (by decide) (by decide)⟩
              · exact retN X0 hx (t := .boolean) Bd.returns (by simp) (hb hby d3_70) hr
              · show Q3e4 Z a ka q1 q2 c0 c1 c2 c3 c4 c5 h0 n0 _ s₁.heap _
                rw [e0]
                refine ⟨?_, N0, rfl⟩
                skip
                (try simp only [own_e4, if_neg hc1, if_pos hc5, if_pos hc7, if_neg hc10, if_pos hc13, if_neg hc16])
                (try rfl)
          · -- not q2 < (1 : Int32)
            have P24 : own_Rch p.tables e below A0 (s₁.setTop (mkF m 70 #[.val (.ref a), .val (.int q1), .val (.int q2), .val (.int (4 : Int32))] [(.int (0 : Int32))])) := fun t k => P14 t (by
              show Steps p.tables e below (s₁.setTop (mkF m 42 #[.val (.ref a), .val (.int q1), .val (.int q2), .val (.int (4 : Int32))] [(.int q2), (.int (1 : Int32))])) _
              refine XS.icmpYes X0.here hx rfl (pc0 := 42) (pc' := 69) rfl (hb hby d3_42) rfl (flt hc13).2.2.2 (by decide) (by decide) ?_
              show Steps p.tables e below (s₁.setTop (mkF m 69 #[.val (.ref a), .val (.int q1), .val (.int q2), .val (.int (4 : Int32))] [])) _
              refine XS.iconst X0.here hx rfl (hb hby d3_69) ?_
              exact k)
            obtain ⟨fs, hr, hrun, hended, hW, hsame⟩ := X0.leave (v := some (.int (nar .boolean (0 : Int32)))) (fun h => by rw [Bd.returns] at h; cases h)
            refine ⟨_, _, P00 _ (P24 _ ?_), hrun, hended, _, _, rfl, ?_, ⟨_, rfl⟩, hW, hsame.mono (by decide) (by decide)⟩
            · exact retN X0 hx (t := .boolean) Bd.returns (by simp) (hb hby d3_70) hr
            · show Q3e4 Z a ka q1 q2 c0 c1 c2 c3 c4 c5 h0 n0 _ s₁.heap _
              rw [e0]
              refine ⟨?_, N0, rfl⟩
              skip
              (try simp only [own_e4, if_neg hc1, if_pos hc5, if_pos hc7, if_neg hc10, if_neg hc13])
              (try rfl)
      · -- not q2 < (2 : Int32)
        have P26 : own_Rch p.tables e below A0 (s₁.setTop (mkF m 42 #[.val (.ref a), .val (.int q1), .val (.int q2), .val (.int (4 : Int32))] [(.int q2), (.int (1 : Int32))])) := fun t k => P8 t (by
          show Steps p.tables e below (s₁.setTop (mkF m 23 #[.val (.ref a), .val (.int q1), .val (.int q2), .val (.int (4 : Int32))] [(.int q2), (.int (2 : Int32))])) _
          refine XS.icmpYes X0.here hx rfl (pc0 := 23) (pc' := 38) rfl (hb hby d3_23) rfl (flt hc7).2.2.2 (by decide) (by decide) ?_
          show Steps p.tables e below (s₁.setTop (mkF m 38 #[.val (.ref a), .val (.int q1), .val (.int q2), .val (.int (4 : Int32))] [])) _
          refine XS.iloadN X0.here hx rfl (hb hby d3_38) rfl ?_
          show Steps p.tables e below (s₁.setTop (mkF m 39 #[.val (.ref a), .val (.int q1), .val (.int q2), .val (.int (4 : Int32))] [(.int (4 : Int32))])) _
          refine XS.iconst X0.here hx rfl (hb hby d3_39) ?_
          show Steps p.tables e below (s₁.setTop (mkF m 40 #[.val (.ref a), .val (.int q1), .val (.int q2), .val (.int (4 : Int32))] [(.int (3 : Int32)), (.int (4 : Int32))])) _
          refine XS.isub X0.here hx rfl (hb hby d3_40) rfl ?_
          show Steps p.tables e below (s₁.setTop (mkF m 41 #[.val (.ref a), .val (.int q1), .val (.int q2), .val (.int (4 : Int32))] [(.int (1 : Int32))])) _
          refine XS.iloadN X0.here hx rfl (hb hby d3_41) rfl ?_
          exact k)
        by_cases hc25 : q2 < (1 : Int32)
        · -- q2 < (1 : Int32)
          have P29 : own_Rch p.tables e below A0 (s₁.setTop (mkF m 52 #[.val (.ref a), .val (.int q1), .val (.int q2), .val (.int (4 : Int32))] [(.int (13 : Int32)), (.int c2)])) := fun t k => P26 t (by
            show Steps p.tables e below (s₁.setTop (mkF m 42 #[.val (.ref a), .val (.int q1), .val (.int q2), .val (.int (4 : Int32))] [(.int q2), (.int (1 : Int32))])) _
            refine XS.icmpNo X0.here hx rfl (hb hby d3_42) rfl (tlt hc25).2.2.2 ?_
            show Steps p.tables e below (s₁.setTop (mkF m 45 #[.val (.ref a), .val (.int q1), .val (.int q2), .val (.int (4 : Int32))] [])) _
            refine XS.aloadN X0.here hx rfl (hb hby d3_45) rfl rfl ?_
            show Steps p.tables e below (s₁.setTop (mkF m 46 #[.val (.ref a), .val (.int q1), .val (.int q2), .val (.int (4 : Int32))] [(.ref a)])) _
            refine XS.iloadN X0.here hx rfl (hb hby d3_46) rfl ?_
            show Steps p.tables e below (s₁.setTop (mkF m 47 #[.val (.ref a), .val (.int q1), .val (.int q2), .val (.int (4 : Int32))] [(.int (4 : Int32)), (.ref a)])) _
            refine XS.iconst X0.here hx rfl (hb hby d3_47) ?_
            show Steps p.tables e below (s₁.setTop (mkF m 48 #[.val (.ref a), .val (.int q1), .val (.int q2), .val (.int (4 : Int32))] [(.int (2 : Int32)), (.int (4 : Int32)), (.ref a)])) _
            refine XS.isub X0.here hx rfl (hb hby d3_48) rfl ?_
            show Steps p.tables e below (s₁.setTop (mkF m 49 #[.val (.ref a), .val (.int q1), .val (.int q2), .val (.int (4 : Int32))] [(.int (2 : Int32)), (.ref a)])) _
            obtain ⟨cl27, Ar27, -, S27, N27, H27, -⟩ := id V_a
            have hin27 : ¬ ((2 : Int32) < 0 ∨ cl27.slots.size ≤ ((2 : Int32)).toNatClampNeg) := inb_of S27 ⟨by decide, by decide⟩
            have hat27 := H27.at hin27 (v := (.int c2)) rfl
            refine X0.baloadBytes hx (j := (2 : Int32)) (v := (.int c2)) (by rw [e0]; exact Ar27.1) (State.isArrayOf_alike hZ.alike Ar27.2.1) Ar27.2.2 hin27 hat27 (g := (mkF m 49 #[.val (.ref a), .val (.int q1), .val (.int q2), .val (.int (4 : Int32))] [(.int (2 : Int32)), (.ref a)])) rfl rfl (hb hby d3_49) _ ?_
            show Steps p.tables e below (s₁.setTop (mkF m 50 #[.val (.ref a), .val (.int q1), .val (.int q2), .val (.int (4 : Int32))] [(.int c2)])) _
            refine XS.bipush X0.here hx rfl (hb hby d3_50) ?_
            exact k)
          by_cases hc28 : c2 = (13 : Int32)
          · -- c2 = (13 : Int32)
            have P32 : own_Rch p.tables e below A0 (s₁.setTop (mkF m 62 #[.val (.ref a), .val (.int q1), .val (.int q2), .val (.int (4 : Int32))] [(.int (10 : Int32)), (.int c1)])) := fun t k => P29 t (by
              show Steps p.tables e below (s₁.setTop (mkF m 52 #[.val (.ref a), .val (.int q1), .val (.int q2), .val (.int (4 : Int32))] [(.int (13 : Int32)), (.int c2)])) _
              refine XS.icmpNo X0.here hx rfl (hb hby d3_52) rfl (teq hc28).2 ?_
              show Steps p.tables e below (s₁.setTop (mkF m 55 #[.val (.ref a), .val (.int q1), .val (.int q2), .val (.int (4 : Int32))] [])) _
              refine XS.aloadN X0.here hx rfl (hb hby d3_55) rfl rfl ?_
              show Steps p.tables e below (s₁.setTop (mkF m 56 #[.val (.ref a), .val (.int q1), .val (.int q2), .val (.int (4 : Int32))] [(.ref a)])) _
              refine XS.iloadN X0.here hx rfl (hb hby d3_56) rfl ?_
              show Steps p.tables e below (s₁.setTop (mkF m 57 #[.val (.ref a), .val (.int q1), .val (.int q2), .val (.int (4 : Int32))] [(.int (4 : Int32)), (.ref a)])) _
              refine XS.iconst X0.here hx rfl (hb hby d3_57) ?_
              show Steps p.tables e below (s₁.setTop (mkF m 58 #[.val (.ref a), .val (.int q1), .val (.int q2), .val (.int (4 : Int32))] [(.int (3 : Int32)), (.int (4 : Int32)), (.ref a)])) _
              refine XS.isub X0.here hx rfl (hb hby d3_58) rfl ?_
              show Steps p.tables e below (s₁.setTop (mkF m 59 #[.val (.ref a), .val (.int q1), .val (.int q2), .val (.int (4 : Int32))] [(.int (1 : Int32)), (.ref a)])) _
              obtain ⟨cl30, Ar30, -, S30, N30, H30, -⟩ := id V_a
              have hin30 : ¬ ((1 : Int32) < 0 ∨ cl30.slots.size ≤ ((1 : Int32)).toNatClampNeg) := inb_of S30 ⟨by decide, by decide⟩
              have hat30 := H30.at hin30 (v := (.int c1)) rfl
              refine X0.baloadBytes hx (j := (1 : Int32)) (v := (.int c1)) (by rw [e0]; exact Ar30.1) (State.isArrayOf_alike hZ.alike Ar30.2.1) Ar30.2.2 hin30 hat30 (g := (mkF m 59 #[.val (.ref a), .val (.int q1), .val (.int q2), .val (.int (4 : Int32))] [(.int (1 : Int32)), (.ref a)])) rfl rfl (hb hby d3_59) _ ?_
              show Steps p.tables e below (s₁.setTop (mkF m 60 #[.val (.ref a), .val (.int q1), .val (.int q2), .val (.int (4 : Int32))] [(.int c1)])) _
              refine XS.bipush X0.here hx rfl (hb hby d3_60) ?_
              exact k)
            by_cases hc31 : c1 = (10 : Int32)
            · -- c1 = (10 : Int32)
              have P33 : own_Rch p.tables e below A0 (s₁.setTop (mkF m 70 #[.val (.ref a), .val (.int q1), .val (.int q2), .val (.int (4 : Int32))] [(.int (1 : Int32))])) := fun t k => P32 t (by
                show Steps p.tables e below (s₁.setTop (mkF m 62 #[.val (.ref a), .val (.int q1), .val (.int q2), .val (.int (4 : Int32))] [(.int (10 : Int32)), (.int c1)])) _
                refine XS.icmpNo X0.here hx rfl (hb hby d3_62) rfl (teq hc31).2 ?_
                show Steps p.tables e below (s₁.setTop (mkF m 65 #[.val (.ref a), .val (.int q1), .val (.int q2), .val (.int (4 : Int32))] [])) _
                refine XS.iconst X0.here hx rfl (hb hby d3_65) ?_
                show Steps p.tables e below (s₁.setTop (mkF m 66 #[.val (.ref a), .val (.int q1), .val (.int q2), .val (.int (4 : Int32))] [(.int (1 : Int32))])) _
                refine XS.goto X0.here hx rfl (pc0 := 66) (pc' := 70) rfl (hb hby d3_66) (by decide) (by decide) ?_
                exact k)
              obtain ⟨fs, hr, hrun, hended, hW, hsame⟩ := X0.leave (v := some (.int (nar .boolean (1 : Int32)))) (fun h => by rw [Bd.returns] at h; cases h)
              refine ⟨_, _, P00 _ (P33 _ ?_), hrun, hended, _, _, rfl, ?_, ⟨_, rfl⟩, hW, hsame.mono (by decide) (by decide)⟩
              · exact retN X0 hx (t := .boolean) Bd.returns (by simp) (hb hby d3_70) hr
              · show Q3e4 Z a ka q1 q2 c0 c1 c2 c3 c4 c5 h0 n0 _ s₁.heap _
                rw [e0]
                refine ⟨?_, N0, rfl⟩
                skip
                (try simp only [own_e4, if_neg hc1, if_pos hc5, if_neg hc7, if_pos hc25, if_pos hc28, if_pos hc31])
                (try rfl)
            · -- not c1 = (10 : Int32)
              have P34 : own_Rch p.tables e below A0 (s₁.setTop (mkF m 70 #[.val (.ref a), .val (.int q1), .val (.int q2), .val (.int (4 : Int32))] [(.int (0 : Int32))])) := fun t k => P32 t (by
                show Steps p.tables e below (s₁.setTop (mkF m 62 #[.val (.ref a), .val (.int q1), .val (.int q2), .val (.int (4 : Int32))] [(.int (10 : Int32)), (.int c1)])) _
                refine XS.icmpYes X0.here hx rfl (pc0 := 62) (pc' := 69) rfl (hb hby d3_62) rfl (feq hc31).2 (by decide) (by decide) ?_
                show Steps p.tables e below (s₁.setTop (mkF m 69 #[.val (.ref a), .val (.int q1), .val (.int q2), .val (.int (4 : Int32))] [])) _
                refine XS.iconst X0.here hx rfl (hb hby d3_69) ?_
                exact k)
              obtain ⟨fs, hr, hrun, hended, hW, hsame⟩ := X0.leave (v := some (.int (nar .boolean (0 : Int32)))) (fun h => by rw [Bd.returns] at h; cases h)
              refine ⟨_, _, P00 _ (P34 _ ?_), hrun, hended, _, _, rfl, ?_, ⟨_, rfl⟩, hW, hsame.mono (by decide) (by decide)⟩
              · exact retN X0 hx (t := .boolean) Bd.returns (by simp) (hb hby d3_70) hr
              · show Q3e4 Z a ka q1 q2 c0 c1 c2 c3 c4 c5 h0 n0 _ s₁.heap _
                rw [e0]
                refine ⟨?_, N0, rfl⟩
                skip
                (try simp only [own_e4, if_neg hc1, if_pos hc5, if_neg hc7, if_pos hc25, if_pos hc28, if_neg hc31])
                (try rfl)
          · -- not c2 = (13 : Int32)
            have P35 : own_Rch p.tables e below A0 (s₁.setTop (mkF m 70 #[.val (.ref a), .val (.int q1), .val (.int q2), .val (.int (4 : Int32))] [(.int (0 : Int32))])) := fun t k => P29 t (by
              show Steps p.tables e below (s₁.setTop (mkF m 52 #[.val (.ref a), .val (.int q1), .val (.int q2), .val (.int (4 : Int32))] [(.int (13 : Int32)), (.int c2)])) _
              refine XS.icmpYes X0.here hx rfl (pc0 := 52) (pc' := 69) rfl (hb hby d3_52) rfl (feq hc28).2 (by decide) (by decide) ?_
              show Steps p.tables e below (s₁.setTop (mkF m 69 #[.val (.ref a), .val (.int q1), .val (.int q2), .val (.int (4 : Int32))] [])) _
              refine XS.iconst X0.here hx rfl (hb hby d3_69) ?_
              exact k)
            obtain ⟨fs, hr, hrun, hended, hW, hsame⟩ := X0.leave (v := some (.int (nar .boolean (0 : Int32)))) (fun h => by rw [Bd.returns] at h; cases h)
            refine ⟨_, _, P00 _ (P35 _ ?_), hrun, hended, _, _, rfl, ?_, ⟨_, rfl⟩, hW, hsame.mono (by decide) (by decide)⟩
            · exact retN X0 hx (t := .boolean) Bd.returns (by simp) (hb hby d3_70) hr
            · show Q3e4 Z a ka q1 q2 c0 c1 c2 c3 c4 c5 h0 n0 _ s₁.heap _
              rw [e0]
              refine ⟨?_, N0, rfl⟩
              skip
              (try simp only [own_e4, if_neg hc1, if_pos hc5, if_neg hc7, if_pos hc25, if_neg hc28])
              (try rfl)
        · -- not q2 < (1 : Int32)
          have P36 : own_Rch p.tables e below A0 (s₁.setTop (mkF m 70 #[.val (.ref a), .val (.int q1), .val (.int q2), .val (.int (4 : Int32))] [(.int (0 : Int32))])) := fun t k => P26 t (by
            show Steps p.tables e below (s₁.setTop (mkF m 42 #[.val (.ref a), .val (.int q1), .val (.int q2), .val (.int (4 : Int32))] [(.int q2), (.int (1 : Int32))])) _
            refine XS.icmpYes X0.here hx rfl (pc0 := 42) (pc' := 69) rfl (hb hby d3_42) rfl (flt hc25).2.2.2 (by decide) (by decide) ?_
            show Steps p.tables e below (s₁.setTop (mkF m 69 #[.val (.ref a), .val (.int q1), .val (.int q2), .val (.int (4 : Int32))] [])) _
            refine XS.iconst X0.here hx rfl (hb hby d3_69) ?_
            exact k)
          obtain ⟨fs, hr, hrun, hended, hW, hsame⟩ := X0.leave (v := some (.int (nar .boolean (0 : Int32)))) (fun h => by rw [Bd.returns] at h; cases h)
          refine ⟨_, _, P00 _ (P36 _ ?_), hrun, hended, _, _, rfl, ?_, ⟨_, rfl⟩, hW, hsame.mono (by decide) (by decide)⟩
          · exact retN X0 hx (t := .boolean) Bd.returns (by simp) (hb hby d3_70) hr
          · show Q3e4 Z a ka q1 q2 c0 c1 c2 c3 c4 c5 h0 n0 _ s₁.heap _
            rw [e0]
            refine ⟨?_, N0, rfl⟩
            skip
            (try simp only [own_e4, if_neg hc1, if_pos hc5, if_neg hc7, if_neg hc25])
            (try rfl)
    · -- not c3 = (10 : Int32)
      have P37 : own_Rch p.tables e below A0 (s₁.setTop (mkF m 18 #[.val (.ref a), .val (.int q1), .val (.int q2), .val (.int (4 : Int32))] [(.int (0 : Int32))])) := fun t k => P6 t (by
        show Steps p.tables e below (s₁.setTop (mkF m 14 #[.val (.ref a), .val (.int q1), .val (.int q2), .val (.int (4 : Int32))] [(.int (10 : Int32)), (.int c3)])) _
        refine XS.icmpNo X0.here hx rfl (hb hby d3_14) rfl (feq hc5).1 ?_
        show Steps p.tables e below (s₁.setTop (mkF m 17 #[.val (.ref a), .val (.int q1), .val (.int q2), .val (.int (4 : Int32))] [])) _
        refine XS.iconst X0.here hx rfl (hb hby d3_17) ?_
        exact k)
      obtain ⟨fs, hr, hrun, hended, hW, hsame⟩ := X0.leave (v := some (.int (nar .boolean (0 : Int32)))) (fun h => by rw [Bd.returns] at h; cases h)
      refine ⟨_, _, P00 _ (P37 _ ?_), hrun, hended, _, _, rfl, ?_, ⟨_, rfl⟩, hW, hsame.mono (by decide) (by decide)⟩
      · exact retN X0 hx (t := .boolean) Bd.returns (by simp) (hb hby d3_18) hr
      · show Q3e4 Z a ka q1 q2 c0 c1 c2 c3 c4 c5 h0 n0 _ s₁.heap _
        rw [e0]
        refine ⟨?_, N0, rfl⟩
        skip
        (try simp only [own_e4, if_neg hc1, if_neg hc5])
        (try rfl)
def own_e5 (q1 : Int32) (q2 : Int32) (c0 : Int32) (c1 : Int32) (c2 : Int32) (c3 : Int32) (c4 : Int32) (c5 : Int32) : Int32 := (if q1 < (5 : Int32) then (0 : Int32) else (if c4 = (10 : Int32) then (if q2 < (3 : Int32) then (if c3 = (10 : Int32) then (1 : Int32) else (if q2 < (2 : Int32) then (if c3 = (13 : Int32) then (if c2 = (10 : Int32) then (1 : Int32) else (0 : Int32)) else (0 : Int32)) else (0 : Int32))) else (if q2 < (2 : Int32) then (if c3 = (13 : Int32) then (if c2 = (10 : Int32) then (1 : Int32) else (0 : Int32)) else (0 : Int32)) else (0 : Int32))) else (0 : Int32)))
theorem ef_3e5 (m : MethodId) (a : Addr) (q1 : Int32) (q2 : Int32) : entryFrame m #[(.ref a), (.int q1), (.int q2), (.int (5 : Int32))] 4 = mkF m 0 #[.val (.ref a), .val (.int q1), .val (.int q2), .val (.int (5 : Int32))] [] := by first | (simp [entryFrame, mkF, argsToLocals, Value.category]; done) | rfl
def Q3e5 (Z : State) (a : Addr) (ka : ClassId) (q1 : Int32) (q2 : Int32) (c0 : Int32) (c1 : Int32) (c2 : Int32) (c3 : Int32) (c4 : Int32) (c5 : Int32) (h0 : Heap) (n0 : Nat) (v : Option Value) (h : Heap) (L : List Loc) : Prop := v = some (.int (own_e5 q1 q2 c0 c1 c2 c3 c4 c5)) ∧ Fr n0 L ∧ h = h0
set_option maxRecDepth 65536 in
set_option maxHeartbeats 40000000 in
theorem rm3e5 (l : Launch) (Z : State) (a0 : Array Value) (hw : ∀ d ∈ tables_1, d.before a0 Z = true) (ws : List Jvm.Cond) (a : Addr) (ka : ClassId) (q1 : Int32) (q2 : Int32) (c0 : Int32) (c1 : Int32) (c2 : Int32) (c3 : Int32) (c4 : Int32) (c5 : Int32) (h0 : Heap) (n0 : Nat) (Z0 : n0 ≤ h0.size) (V_a : Arv Z h0 a ka .byte (6 : Int32) [(.int c0), (.int c1), (.int c2), (.int c3), (.int c4), (.int c5)] (.int (0 : Int32))) :
    MetFree l (⟨"com/example/rackline/rackline/metrics/RequestHeadEndPinLaw", "endsAt", "([BIII)Z"⟩ : MethodName) (head1 (Jvm.Cond.code (⟨"com/example/rackline/rackline/metrics/RequestHeadEndPinLaw", "endsAt", "([BIII)Z"⟩ : MethodName) method_4_code 4 (some .boolean) :: ws) ({ frames := 0, cells := 0, slots := 0, locals := 0 } : Room)) (fun a' U => a' = #[(.ref a), (.int q1), (.int q2), (.int (5 : Int32))] ∧ Z.Warmed39 U.vm ∧ U.heap = h0) (fun _ _ _ _ _ => True) (fun _ U o U' => ∃ v L, o = .returned v ∧ Q3e5 Z a ka q1 q2 c0 c1 c2 c3 c4 c5 h0 n0 v U'.heap L ∧ FrameEnd U o U' L ({ frames := 0, cells := 0, slots := 0, locals := 0 } : Room).cells ({ frames := 0, cells := 0, slots := 0, locals := 0 } : Room).slots) := by
  refine MetFree.of_bodySF (plainFor_of_name pn_0) hisR ?_
  intro p e s m args' below meth c s₁ Bd hml0 hP hK
  obtain ⟨hargs, hZ, hh⟩ := hP
  have hx := Bd.exec
  have hby := Bd.bytes
  have hml : c.maxLocals = 4 := hml0
  have hown : s.vm.findClass "com/example/rackline/rackline/metrics/RequestHeadEndPinLaw" = some m.cls := findClass_of_methodNamed Bd.named
  have hnm := (name_of_methodNamed Bd.named Bd.method).1
  have X0 : Stand p l e ({ frames := 0, cells := 0, slots := 0, locals := 0 } : Room) s m args' below meth c s₁ [] 0 0 := Stand.of_body Bd
  have e0 : s₁.heap = h0 := by rw [← hh, Bd.state]; rfl
  have N0 := Fr.nil n0
  obtain ⟨A0, hA0⟩ : ∃ A, A = s₁.setTop (mkF m 0 #[.val (.ref a), .val (.int q1), .val (.int q2), .val (.int (5 : Int32))] []) := ⟨_, rfl⟩
  have P0 : own_Rch p.tables e below A0 (s₁.setTop (mkF m 0 #[.val (.ref a), .val (.int q1), .val (.int q2), .val (.int (5 : Int32))] [])) := fun t k => hA0 ▸ k
  have P00 : own_Rch p.tables e below (s₁.setTop (entryFrame m args' 4)) A0 := fun t k => by rw [hargs]; exact castTop (ef_3e5 m a q1 q2) (hA0 ▸ k)
  have P2 : own_Rch p.tables e below A0 (s₁.setTop (mkF m 2 #[.val (.ref a), .val (.int q1), .val (.int q2), .val (.int (5 : Int32))] [(.int q1), (.int (5 : Int32))])) := fun t k => P0 t (by
    show Steps p.tables e below (s₁.setTop (mkF m 0 #[.val (.ref a), .val (.int q1), .val (.int q2), .val (.int (5 : Int32))] [])) _
    refine XS.iloadN X0.here hx rfl (hb hby d3_0) rfl ?_
    show Steps p.tables e below (s₁.setTop (mkF m 1 #[.val (.ref a), .val (.int q1), .val (.int q2), .val (.int (5 : Int32))] [(.int (5 : Int32))])) _
    refine XS.iloadN X0.here hx rfl (hb hby d3_1) rfl ?_
    exact k)
  by_cases hc1 : q1 < (5 : Int32)
  · -- q1 < (5 : Int32)
    have P3 : own_Rch p.tables e below A0 (s₁.setTop (mkF m 6 #[.val (.ref a), .val (.int q1), .val (.int q2), .val (.int (5 : Int32))] [(.int (0 : Int32))])) := fun t k => P2 t (by
      show Steps p.tables e below (s₁.setTop (mkF m 2 #[.val (.ref a), .val (.int q1), .val (.int q2), .val (.int (5 : Int32))] [(.int q1), (.int (5 : Int32))])) _
      refine XS.icmpNo X0.here hx rfl (hb hby d3_2) rfl (tlt hc1).2.2.2 ?_
      show Steps p.tables e below (s₁.setTop (mkF m 5 #[.val (.ref a), .val (.int q1), .val (.int q2), .val (.int (5 : Int32))] [])) _
      refine XS.iconst X0.here hx rfl (hb hby d3_5) ?_
      exact k)
    obtain ⟨fs, hr, hrun, hended, hW, hsame⟩ := X0.leave (v := some (.int (nar .boolean (0 : Int32)))) (fun h => by rw [Bd.returns] at h; cases h)
    refine ⟨_, _, P00 _ (P3 _ ?_), hrun, hended, _, _, rfl, ?_, ⟨_, rfl⟩, hW, hsame.mono (by decide) (by decide)⟩
    · exact retN X0 hx (t := .boolean) Bd.returns (by simp) (hb hby d3_6) hr
    · show Q3e5 Z a ka q1 q2 c0 c1 c2 c3 c4 c5 h0 n0 _ s₁.heap _
      rw [e0]
      refine ⟨?_, N0, rfl⟩
      skip
      (try simp only [own_e5, if_pos hc1])
      (try rfl)
  · -- not q1 < (5 : Int32)
    have P6 : own_Rch p.tables e below A0 (s₁.setTop (mkF m 14 #[.val (.ref a), .val (.int q1), .val (.int q2), .val (.int (5 : Int32))] [(.int (10 : Int32)), (.int c4)])) := fun t k => P2 t (by
      show Steps p.tables e below (s₁.setTop (mkF m 2 #[.val (.ref a), .val (.int q1), .val (.int q2), .val (.int (5 : Int32))] [(.int q1), (.int (5 : Int32))])) _
      refine XS.icmpYes X0.here hx rfl (pc0 := 2) (pc' := 7) rfl (hb hby d3_2) rfl (flt hc1).2.2.2 (by decide) (by decide) ?_
      show Steps p.tables e below (s₁.setTop (mkF m 7 #[.val (.ref a), .val (.int q1), .val (.int q2), .val (.int (5 : Int32))] [])) _
      refine XS.aloadN X0.here hx rfl (hb hby d3_7) rfl rfl ?_
      show Steps p.tables e below (s₁.setTop (mkF m 8 #[.val (.ref a), .val (.int q1), .val (.int q2), .val (.int (5 : Int32))] [(.ref a)])) _
      refine XS.iloadN X0.here hx rfl (hb hby d3_8) rfl ?_
      show Steps p.tables e below (s₁.setTop (mkF m 9 #[.val (.ref a), .val (.int q1), .val (.int q2), .val (.int (5 : Int32))] [(.int (5 : Int32)), (.ref a)])) _
      refine XS.iconst X0.here hx rfl (hb hby d3_9) ?_
      show Steps p.tables e below (s₁.setTop (mkF m 10 #[.val (.ref a), .val (.int q1), .val (.int q2), .val (.int (5 : Int32))] [(.int (1 : Int32)), (.int (5 : Int32)), (.ref a)])) _
      refine XS.isub X0.here hx rfl (hb hby d3_10) rfl ?_
      show Steps p.tables e below (s₁.setTop (mkF m 11 #[.val (.ref a), .val (.int q1), .val (.int q2), .val (.int (5 : Int32))] [(.int (4 : Int32)), (.ref a)])) _
      obtain ⟨cl4, Ar4, -, S4, N4, H4, -⟩ := id V_a
      have hin4 : ¬ ((4 : Int32) < 0 ∨ cl4.slots.size ≤ ((4 : Int32)).toNatClampNeg) := inb_of S4 ⟨by decide, by decide⟩
      have hat4 := H4.at hin4 (v := (.int c4)) rfl
      refine X0.baloadBytes hx (j := (4 : Int32)) (v := (.int c4)) (by rw [e0]; exact Ar4.1) (State.isArrayOf_alike hZ.alike Ar4.2.1) Ar4.2.2 hin4 hat4 (g := (mkF m 11 #[.val (.ref a), .val (.int q1), .val (.int q2), .val (.int (5 : Int32))] [(.int (4 : Int32)), (.ref a)])) rfl rfl (hb hby d3_11) _ ?_
      show Steps p.tables e below (s₁.setTop (mkF m 12 #[.val (.ref a), .val (.int q1), .val (.int q2), .val (.int (5 : Int32))] [(.int c4)])) _
      refine XS.bipush X0.here hx rfl (hb hby d3_12) ?_
      exact k)
    by_cases hc5 : c4 = (10 : Int32)
    · -- c4 = (10 : Int32)
      have P8 : own_Rch p.tables e below A0 (s₁.setTop (mkF m 23 #[.val (.ref a), .val (.int q1), .val (.int q2), .val (.int (5 : Int32))] [(.int q2), (.int (3 : Int32))])) := fun t k => P6 t (by
        show Steps p.tables e below (s₁.setTop (mkF m 14 #[.val (.ref a), .val (.int q1), .val (.int q2), .val (.int (5 : Int32))] [(.int (10 : Int32)), (.int c4)])) _
        refine XS.icmpYes X0.here hx rfl (pc0 := 14) (pc' := 19) rfl (hb hby d3_14) rfl (teq hc5).1 (by decide) (by decide) ?_
        show Steps p.tables e below (s₁.setTop (mkF m 19 #[.val (.ref a), .val (.int q1), .val (.int q2), .val (.int (5 : Int32))] [])) _
        refine XS.iloadN X0.here hx rfl (hb hby d3_19) rfl ?_
        show Steps p.tables e below (s₁.setTop (mkF m 20 #[.val (.ref a), .val (.int q1), .val (.int q2), .val (.int (5 : Int32))] [(.int (5 : Int32))])) _
        refine XS.iconst X0.here hx rfl (hb hby d3_20) ?_
        show Steps p.tables e below (s₁.setTop (mkF m 21 #[.val (.ref a), .val (.int q1), .val (.int q2), .val (.int (5 : Int32))] [(.int (2 : Int32)), (.int (5 : Int32))])) _
        refine XS.isub X0.here hx rfl (hb hby d3_21) rfl ?_
        show Steps p.tables e below (s₁.setTop (mkF m 22 #[.val (.ref a), .val (.int q1), .val (.int q2), .val (.int (5 : Int32))] [(.int (3 : Int32))])) _
        refine XS.iloadN X0.here hx rfl (hb hby d3_22) rfl ?_
        exact k)
      by_cases hc7 : q2 < (3 : Int32)
      · -- q2 < (3 : Int32)
        have P11 : own_Rch p.tables e below A0 (s₁.setTop (mkF m 33 #[.val (.ref a), .val (.int q1), .val (.int q2), .val (.int (5 : Int32))] [(.int (10 : Int32)), (.int c3)])) := fun t k => P8 t (by
          show Steps p.tables e below (s₁.setTop (mkF m 23 #[.val (.ref a), .val (.int q1), .val (.int q2), .val (.int (5 : Int32))] [(.int q2), (.int (3 : Int32))])) _
          refine XS.icmpNo X0.here hx rfl (hb hby d3_23) rfl (tlt hc7).2.2.2 ?_
          show Steps p.tables e below (s₁.setTop (mkF m 26 #[.val (.ref a), .val (.int q1), .val (.int q2), .val (.int (5 : Int32))] [])) _
          refine XS.aloadN X0.here hx rfl (hb hby d3_26) rfl rfl ?_
          show Steps p.tables e below (s₁.setTop (mkF m 27 #[.val (.ref a), .val (.int q1), .val (.int q2), .val (.int (5 : Int32))] [(.ref a)])) _
          refine XS.iloadN X0.here hx rfl (hb hby d3_27) rfl ?_
          show Steps p.tables e below (s₁.setTop (mkF m 28 #[.val (.ref a), .val (.int q1), .val (.int q2), .val (.int (5 : Int32))] [(.int (5 : Int32)), (.ref a)])) _
          refine XS.iconst X0.here hx rfl (hb hby d3_28) ?_
          show Steps p.tables e below (s₁.setTop (mkF m 29 #[.val (.ref a), .val (.int q1), .val (.int q2), .val (.int (5 : Int32))] [(.int (2 : Int32)), (.int (5 : Int32)), (.ref a)])) _
          refine XS.isub X0.here hx rfl (hb hby d3_29) rfl ?_
          show Steps p.tables e below (s₁.setTop (mkF m 30 #[.val (.ref a), .val (.int q1), .val (.int q2), .val (.int (5 : Int32))] [(.int (3 : Int32)), (.ref a)])) _
          obtain ⟨cl9, Ar9, -, S9, N9, H9, -⟩ := id V_a
          have hin9 : ¬ ((3 : Int32) < 0 ∨ cl9.slots.size ≤ ((3 : Int32)).toNatClampNeg) := inb_of S9 ⟨by decide, by decide⟩
          have hat9 := H9.at hin9 (v := (.int c3)) rfl
          refine X0.baloadBytes hx (j := (3 : Int32)) (v := (.int c3)) (by rw [e0]; exact Ar9.1) (State.isArrayOf_alike hZ.alike Ar9.2.1) Ar9.2.2 hin9 hat9 (g := (mkF m 30 #[.val (.ref a), .val (.int q1), .val (.int q2), .val (.int (5 : Int32))] [(.int (3 : Int32)), (.ref a)])) rfl rfl (hb hby d3_30) _ ?_
          show Steps p.tables e below (s₁.setTop (mkF m 31 #[.val (.ref a), .val (.int q1), .val (.int q2), .val (.int (5 : Int32))] [(.int c3)])) _
          refine XS.bipush X0.here hx rfl (hb hby d3_31) ?_
          exact k)
        by_cases hc10 : c3 = (10 : Int32)
        · -- c3 = (10 : Int32)
          have P12 : own_Rch p.tables e below A0 (s₁.setTop (mkF m 37 #[.val (.ref a), .val (.int q1), .val (.int q2), .val (.int (5 : Int32))] [(.int (1 : Int32))])) := fun t k => P11 t (by
            show Steps p.tables e below (s₁.setTop (mkF m 33 #[.val (.ref a), .val (.int q1), .val (.int q2), .val (.int (5 : Int32))] [(.int (10 : Int32)), (.int c3)])) _
            refine XS.icmpNo X0.here hx rfl (hb hby d3_33) rfl (teq hc10).2 ?_
            show Steps p.tables e below (s₁.setTop (mkF m 36 #[.val (.ref a), .val (.int q1), .val (.int q2), .val (.int (5 : Int32))] [])) _
            refine XS.iconst X0.here hx rfl (hb hby d3_36) ?_
            exact k)
          obtain ⟨fs, hr, hrun, hended, hW, hsame⟩ := X0.leave (v := some (.int (nar .boolean (1 : Int32)))) (fun h => by rw [Bd.returns] at h; cases h)
          refine ⟨_, _, P00 _ (P12 _ ?_), hrun, hended, _, _, rfl, ?_, ⟨_, rfl⟩, hW, hsame.mono (by decide) (by decide)⟩
          · exact retN X0 hx (t := .boolean) Bd.returns (by simp) (hb hby d3_37) hr
          · show Q3e5 Z a ka q1 q2 c0 c1 c2 c3 c4 c5 h0 n0 _ s₁.heap _
            rw [e0]
            refine ⟨?_, N0, rfl⟩
            skip
            (try simp only [own_e5, if_neg hc1, if_pos hc5, if_pos hc7, if_pos hc10])
            (try rfl)
        · -- not c3 = (10 : Int32)
          have P14 : own_Rch p.tables e below A0 (s₁.setTop (mkF m 42 #[.val (.ref a), .val (.int q1), .val (.int q2), .val (.int (5 : Int32))] [(.int q2), (.int (2 : Int32))])) := fun t k => P11 t (by
            show Steps p.tables e below (s₁.setTop (mkF m 33 #[.val (.ref a), .val (.int q1), .val (.int q2), .val (.int (5 : Int32))] [(.int (10 : Int32)), (.int c3)])) _
            refine XS.icmpYes X0.here hx rfl (pc0 := 33) (pc' := 38) rfl (hb hby d3_33) rfl (feq hc10).2 (by decide) (by decide) ?_
            show Steps p.tables e below (s₁.setTop (mkF m 38 #[.val (.ref a), .val (.int q1), .val (.int q2), .val (.int (5 : Int32))] [])) _
            refine XS.iloadN X0.here hx rfl (hb hby d3_38) rfl ?_
            show Steps p.tables e below (s₁.setTop (mkF m 39 #[.val (.ref a), .val (.int q1), .val (.int q2), .val (.int (5 : Int32))] [(.int (5 : Int32))])) _
            refine XS.iconst X0.here hx rfl (hb hby d3_39) ?_
            show Steps p.tables e below (s₁.setTop (mkF m 40 #[.val (.ref a), .val (.int q1), .val (.int q2), .val (.int (5 : Int32))] [(.int (3 : Int32)), (.int (5 : Int32))])) _
            refine XS.isub X0.here hx rfl (hb hby d3_40) rfl ?_
            show Steps p.tables e below (s₁.setTop (mkF m 41 #[.val (.ref a), .val (.int q1), .val (.int q2), .val (.int (5 : Int32))] [(.int (2 : Int32))])) _
            refine XS.iloadN X0.here hx rfl (hb hby d3_41) rfl ?_
            exact k)
          by_cases hc13 : q2 < (2 : Int32)
          · -- q2 < (2 : Int32)
            have P17 : own_Rch p.tables e below A0 (s₁.setTop (mkF m 52 #[.val (.ref a), .val (.int q1), .val (.int q2), .val (.int (5 : Int32))] [(.int (13 : Int32)), (.int c3)])) := fun t k => P14 t (by
              show Steps p.tables e below (s₁.setTop (mkF m 42 #[.val (.ref a), .val (.int q1), .val (.int q2), .val (.int (5 : Int32))] [(.int q2), (.int (2 : Int32))])) _
              refine XS.icmpNo X0.here hx rfl (hb hby d3_42) rfl (tlt hc13).2.2.2 ?_
              show Steps p.tables e below (s₁.setTop (mkF m 45 #[.val (.ref a), .val (.int q1), .val (.int q2), .val (.int (5 : Int32))] [])) _
              refine XS.aloadN X0.here hx rfl (hb hby d3_45) rfl rfl ?_
              show Steps p.tables e below (s₁.setTop (mkF m 46 #[.val (.ref a), .val (.int q1), .val (.int q2), .val (.int (5 : Int32))] [(.ref a)])) _
              refine XS.iloadN X0.here hx rfl (hb hby d3_46) rfl ?_
              show Steps p.tables e below (s₁.setTop (mkF m 47 #[.val (.ref a), .val (.int q1), .val (.int q2), .val (.int (5 : Int32))] [(.int (5 : Int32)), (.ref a)])) _
              refine XS.iconst X0.here hx rfl (hb hby d3_47) ?_
              show Steps p.tables e below (s₁.setTop (mkF m 48 #[.val (.ref a), .val (.int q1), .val (.int q2), .val (.int (5 : Int32))] [(.int (2 : Int32)), (.int (5 : Int32)), (.ref a)])) _
              refine XS.isub X0.here hx rfl (hb hby d3_48) rfl ?_
              show Steps p.tables e below (s₁.setTop (mkF m 49 #[.val (.ref a), .val (.int q1), .val (.int q2), .val (.int (5 : Int32))] [(.int (3 : Int32)), (.ref a)])) _
              obtain ⟨cl15, Ar15, -, S15, N15, H15, -⟩ := id V_a
              have hin15 : ¬ ((3 : Int32) < 0 ∨ cl15.slots.size ≤ ((3 : Int32)).toNatClampNeg) := inb_of S15 ⟨by decide, by decide⟩
              have hat15 := H15.at hin15 (v := (.int c3)) rfl
              refine X0.baloadBytes hx (j := (3 : Int32)) (v := (.int c3)) (by rw [e0]; exact Ar15.1) (State.isArrayOf_alike hZ.alike Ar15.2.1) Ar15.2.2 hin15 hat15 (g := (mkF m 49 #[.val (.ref a), .val (.int q1), .val (.int q2), .val (.int (5 : Int32))] [(.int (3 : Int32)), (.ref a)])) rfl rfl (hb hby d3_49) _ ?_
              show Steps p.tables e below (s₁.setTop (mkF m 50 #[.val (.ref a), .val (.int q1), .val (.int q2), .val (.int (5 : Int32))] [(.int c3)])) _
              refine XS.bipush X0.here hx rfl (hb hby d3_50) ?_
              exact k)
            by_cases hc16 : c3 = (13 : Int32)
            · -- c3 = (13 : Int32)
              have P20 : own_Rch p.tables e below A0 (s₁.setTop (mkF m 62 #[.val (.ref a), .val (.int q1), .val (.int q2), .val (.int (5 : Int32))] [(.int (10 : Int32)), (.int c2)])) := fun t k => P17 t (by
                show Steps p.tables e below (s₁.setTop (mkF m 52 #[.val (.ref a), .val (.int q1), .val (.int q2), .val (.int (5 : Int32))] [(.int (13 : Int32)), (.int c3)])) _
                refine XS.icmpNo X0.here hx rfl (hb hby d3_52) rfl (teq hc16).2 ?_
                show Steps p.tables e below (s₁.setTop (mkF m 55 #[.val (.ref a), .val (.int q1), .val (.int q2), .val (.int (5 : Int32))] [])) _
                refine XS.aloadN X0.here hx rfl (hb hby d3_55) rfl rfl ?_
                show Steps p.tables e below (s₁.setTop (mkF m 56 #[.val (.ref a), .val (.int q1), .val (.int q2), .val (.int (5 : Int32))] [(.ref a)])) _
                refine XS.iloadN X0.here hx rfl (hb hby d3_56) rfl ?_
                show Steps p.tables e below (s₁.setTop (mkF m 57 #[.val (.ref a), .val (.int q1), .val (.int q2), .val (.int (5 : Int32))] [(.int (5 : Int32)), (.ref a)])) _
                refine XS.iconst X0.here hx rfl (hb hby d3_57) ?_
                show Steps p.tables e below (s₁.setTop (mkF m 58 #[.val (.ref a), .val (.int q1), .val (.int q2), .val (.int (5 : Int32))] [(.int (3 : Int32)), (.int (5 : Int32)), (.ref a)])) _
                refine XS.isub X0.here hx rfl (hb hby d3_58) rfl ?_
                show Steps p.tables e below (s₁.setTop (mkF m 59 #[.val (.ref a), .val (.int q1), .val (.int q2), .val (.int (5 : Int32))] [(.int (2 : Int32)), (.ref a)])) _
                obtain ⟨cl18, Ar18, -, S18, N18, H18, -⟩ := id V_a
                have hin18 : ¬ ((2 : Int32) < 0 ∨ cl18.slots.size ≤ ((2 : Int32)).toNatClampNeg) := inb_of S18 ⟨by decide, by decide⟩
                have hat18 := H18.at hin18 (v := (.int c2)) rfl
                refine X0.baloadBytes hx (j := (2 : Int32)) (v := (.int c2)) (by rw [e0]; exact Ar18.1) (State.isArrayOf_alike hZ.alike Ar18.2.1) Ar18.2.2 hin18 hat18 (g := (mkF m 59 #[.val (.ref a), .val (.int q1), .val (.int q2), .val (.int (5 : Int32))] [(.int (2 : Int32)), (.ref a)])) rfl rfl (hb hby d3_59) _ ?_
                show Steps p.tables e below (s₁.setTop (mkF m 60 #[.val (.ref a), .val (.int q1), .val (.int q2), .val (.int (5 : Int32))] [(.int c2)])) _
                refine XS.bipush X0.here hx rfl (hb hby d3_60) ?_
                exact k)
              by_cases hc19 : c2 = (10 : Int32)
              · -- c2 = (10 : Int32)
                have P21 : own_Rch p.tables e below A0 (s₁.setTop (mkF m 70 #[.val (.ref a), .val (.int q1), .val (.int q2), .val (.int (5 : Int32))] [(.int (1 : Int32))])) := fun t k => P20 t (by
                  show Steps p.tables e below (s₁.setTop (mkF m 62 #[.val (.ref a), .val (.int q1), .val (.int q2), .val (.int (5 : Int32))] [(.int (10 : Int32)), (.int c2)])) _
                  refine XS.icmpNo X0.here hx rfl (hb hby d3_62) rfl (teq hc19).2 ?_
                  show Steps p.tables e below (s₁.setTop (mkF m 65 #[.val (.ref a), .val (.int q1), .val (.int q2), .val (.int (5 : Int32))] [])) _
                  refine XS.iconst X0.here hx rfl (hb hby d3_65) ?_
                  show Steps p.tables e below (s₁.setTop (mkF m 66 #[.val (.ref a), .val (.int q1), .val (.int q2), .val (.int (5 : Int32))] [(.int (1 : Int32))])) _
                  refine XS.goto X0.here hx rfl (pc0 := 66) (pc' := 70) rfl (hb hby d3_66) (by decide) (by decide) ?_
                  exact k)
                obtain ⟨fs, hr, hrun, hended, hW, hsame⟩ := X0.leave (v := some (.int (nar .boolean (1 : Int32)))) (fun h => by rw [Bd.returns] at h; cases h)
                refine ⟨_, _, P00 _ (P21 _ ?_), hrun, hended, _, _, rfl, ?_, ⟨_, rfl⟩, hW, hsame.mono (by decide) (by decide)⟩
                · exact retN X0 hx (t := .boolean) Bd.returns (by simp) (hb hby d3_70) hr
                · show Q3e5 Z a ka q1 q2 c0 c1 c2 c3 c4 c5 h0 n0 _ s₁.heap _
                  rw [e0]
                  refine ⟨?_, N0, rfl⟩
                  skip
                  (try simp only [own_e5, if_neg hc1, if_pos hc5, if_pos hc7, if_neg hc10, if_pos hc13, if_pos hc16, if_pos hc19])
                  (try rfl)
              · -- not c2 = (10 : Int32)
                have P22 : own_Rch p.tables e below A0 (s₁.setTop (mkF m 70 #[.val (.ref a), .val (.int q1), .val (.int q2), .val (.int (5 : Int32))] [(.int (0 : Int32))])) := fun t k => P20 t (by
                  show Steps p.tables e below (s₁.setTop (mkF m 62 #[.val (.ref a), .val (.int q1), .val (.int q2), .val (.int (5 : Int32))] [(.int (10 : Int32)), (.int c2)])) _
                  refine XS.icmpYes X0.here hx rfl (pc0 := 62) (pc' := 69) rfl (hb hby d3_62) rfl (feq hc19).2 (by decide) (by decide) ?_
                  show Steps p.tables e below (s₁.setTop (mkF m 69 #[.val (.ref a), .val (.int q1), .val (.int q2), .val (.int (5 : Int32))] [])) _
                  refine XS.iconst X0.here hx rfl (hb hby d3_69) ?_
                  exact k)
                obtain ⟨fs, hr, hrun, hended, hW, hsame⟩ := X0.leave (v := some (.int (nar .boolean (0 : Int32)))) (fun h => by rw [Bd.returns] at h; cases h)
                refine ⟨_, _, P00 _ (P22 _ ?_), hrun, hended, _, _, rfl, ?_, ⟨_, rfl⟩, hW, hsame.mono (by decide) (by decide)⟩
                · exact retN X0 hx (t := .boolean) Bd.returns (by simp) (hb hby d3_70) hr
                · show Q3e5 Z a ka q1 q2 c0 c1 c2 c3 c4 c5 h0 n0 _ s₁.heap _
                  rw [e0]
                  refine ⟨?_, N0, rfl⟩
                  skip
                  (try simp only [own_e5, if_neg hc1, if_pos hc5, if_pos hc7, if_neg hc10, if_pos hc13, if_pos hc16, if_neg hc19])
                  (try rfl)
            · -- not c3 = (13 : Int32)
              have P23 : own_Rch p.tables e below A0 (s₁.setTop (mkF m 70 #[.val (.ref a), .val (.int q1), .val (.int q2), .val (.int (5 : Int32))] [(.int (0 : Int32))])) := fun t k => P17 t (by
                show Steps p.tables e below (s₁.setTop (mkF m 52 #[.val (.ref a), .val (.int q1), .val (.int q2), .val (.int (5 : Int32))] [(.int (13 : Int32)), (.int c3)])) _
                refine XS.icmpYes X0.here hx rfl (pc0 := 52) (pc' := 69) rfl (hb hby d3_52) rfl (feq hc16).2 (by decide) (by decide) ?_
                show Steps p.tables e below (s₁.setTop (mkF m 69 #[.val (.ref a), .val (.int q1), .val (.int q2), .val (.int (5 : Int32))] [])) _
                refine XS.iconst X0.here hx rfl (hb hby d3_69) ?_
                exact k)
              obtain ⟨fs, hr, hrun, hended, hW, hsame⟩ := X0.leave (v := some (.int (nar .boolean (0 : Int32)))) (fun h => by rw [Bd.returns] at h; cases h)
              refine ⟨_, _, P00 _ (P23 _ ?_), hrun, hended, _, _, rfl, ?_, ⟨_, rfl⟩, hW, hsame.mono (by decide) (by decide)⟩
              · exact retN X0 hx (t := .boolean) Bd.returns (by simp) (hb hby d3_70) hr
              · show Q3e5 Z a ka q1 q2 c0 c1 c2 c3 c4 c5 h0 n0 _ s₁.heap _
                rw [e0]
                refine ⟨?_, N0, rfl⟩
                skip
                (try simp only [own_e5, if_neg hc1, if_pos hc5, if_pos hc7, if_neg hc10, if_pos hc13, if_neg hc16])
                (try rfl)
          · -- not q2 < (2 : Int32)
            have P24 : own_Rch p.tables e below A0 (s₁.setTop (mkF m 70 #[.val (.ref a), .val (.int q1), .val (.int q2), .val (.int (5 : Int32))] [(.int (0 : Int32))])) := fun t k => P14 t (by
              show Steps p.tables e below (s₁.setTop (mkF m 42 #[.val (.ref a), .val (.int q1), .val (.int q2), .val (.int (5 : Int32))] [(.int q2), (.int (2 : Int32))])) _
              refine XS.icmpYes X0.here hx rfl (pc0 := 42) (pc' := 69) rfl (hb hby d3_42) rfl (flt hc13).2.2.2 (by decide) (by decide) ?_
              show Steps p.tables e below (s₁.setTop (mkF m 69 #[.val (.ref a), .val (.int q1), .val (.int q2), .val (.int (5 : Int32))] [])) _
              refine XS.iconst X0.here hx rfl (hb hby d3_69) ?_
              exact k)
            obtain ⟨fs, hr, hrun, hended, hW, hsame⟩ := X0.leave (v := some (.int (nar .boolean (0 : Int32)))) (fun h => by rw [Bd.returns] at h; cases h)
            refine ⟨_, _, P00 _ (P24 _ ?_), hrun, hended, _, _, rfl, ?_, ⟨_, rfl⟩, hW, hsame.mono (by decide) (by decide)⟩
            · exact retN X0 hx (t := .boolean) Bd.returns (by simp) (hb hby d3_70) hr
            · show Q3e5 Z a ka q1 q2 c0 c1 c2 c3 c4 c5 h0 n0 _ s₁.heap _
              rw [e0]
              refine ⟨?_, N0, rfl⟩
              skip
              (try simp only [own_e5, if_neg hc1, if_pos hc5, if_pos hc7, if_neg hc10, if_neg hc13])
              (try rfl)
      · -- not q2 < (3 : Int32)
        have P26 : own_Rch p.tables e below A0 (s₁.setTop (mkF m 42 #[.val (.ref a), .val (.int q1), .val (.int q2), .val (.int (5 : Int32))] [(.int q2), (.int (2 : Int32))])) := fun t k => P8 t (by
          show Steps p.tables e below (s₁.setTop (mkF m 23 #[.val (.ref a), .val (.int q1), .val (.int q2), .val (.int (5 : Int32))] [(.int q2), (.int (3 : Int32))])) _
          refine XS.icmpYes X0.here hx rfl (pc0 := 23) (pc' := 38) rfl (hb hby d3_23) rfl (flt hc7).2.2.2 (by decide) (by decide) ?_
          show Steps p.tables e below (s₁.setTop (mkF m 38 #[.val (.ref a), .val (.int q1), .val (.int q2), .val (.int (5 : Int32))] [])) _
          refine XS.iloadN X0.here hx rfl (hb hby d3_38) rfl ?_
          show Steps p.tables e below (s₁.setTop (mkF m 39 #[.val (.ref a), .val (.int q1), .val (.int q2), .val (.int (5 : Int32))] [(.int (5 : Int32))])) _
          refine XS.iconst X0.here hx rfl (hb hby d3_39) ?_
          show Steps p.tables e below (s₁.setTop (mkF m 40 #[.val (.ref a), .val (.int q1), .val (.int q2), .val (.int (5 : Int32))] [(.int (3 : Int32)), (.int (5 : Int32))])) _
          refine XS.isub X0.here hx rfl (hb hby d3_40) rfl ?_
          show Steps p.tables e below (s₁.setTop (mkF m 41 #[.val (.ref a), .val (.int q1), .val (.int q2), .val (.int (5 : Int32))] [(.int (2 : Int32))])) _
          refine XS.iloadN X0.here hx rfl (hb hby d3_41) rfl ?_
          exact k)
        by_cases hc25 : q2 < (2 : Int32)
        · -- q2 < (2 : Int32)
          have P29 : own_Rch p.tables e below A0 (s₁.setTop (mkF m 52 #[.val (.ref a), .val (.int q1), .val (.int q2), .val (.int (5 : Int32))] [(.int (13 : Int32)), (.int c3)])) := fun t k => P26 t (by
            show Steps p.tables e below (s₁.setTop (mkF m 42 #[.val (.ref a), .val (.int q1), .val (.int q2), .val (.int (5 : Int32))] [(.int q2), (.int (2 : Int32))])) _
            refine XS.icmpNo X0.here hx rfl (hb hby d3_42) rfl (tlt hc25).2.2.2 ?_
            show Steps p.tables e below (s₁.setTop (mkF m 45 #[.val (.ref a), .val (.int q1), .val (.int q2), .val (.int (5 : Int32))] [])) _
            refine XS.aloadN X0.here hx rfl (hb hby d3_45) rfl rfl ?_
            show Steps p.tables e below (s₁.setTop (mkF m 46 #[.val (.ref a), .val (.int q1), .val (.int q2), .val (.int (5 : Int32))] [(.ref a)])) _
            refine XS.iloadN X0.here hx rfl (hb hby d3_46) rfl ?_
            show Steps p.tables e below (s₁.setTop (mkF m 47 #[.val (.ref a), .val (.int q1), .val (.int q2), .val (.int (5 : Int32))] [(.int (5 : Int32)), (.ref a)])) _
            refine XS.iconst X0.here hx rfl (hb hby d3_47) ?_
            show Steps p.tables e below (s₁.setTop (mkF m 48 #[.val (.ref a), .val (.int q1), .val (.int q2), .val (.int (5 : Int32))] [(.int (2 : Int32)), (.int (5 : Int32)), (.ref a)])) _
            refine XS.isub X0.here hx rfl (hb hby d3_48) rfl ?_
            show Steps p.tables e below (s₁.setTop (mkF m 49 #[.val (.ref a), .val (.int q1), .val (.int q2), .val (.int (5 : Int32))] [(.int (3 : Int32)), (.ref a)])) _
            obtain ⟨cl27, Ar27, -, S27, N27, H27, -⟩ := id V_a
            have hin27 : ¬ ((3 : Int32) < 0 ∨ cl27.slots.size ≤ ((3 : Int32)).toNatClampNeg) := inb_of S27 ⟨by decide, by decide⟩
            have hat27 := H27.at hin27 (v := (.int c3)) rfl
            refine X0.baloadBytes hx (j := (3 : Int32)) (v := (.int c3)) (by rw [e0]; exact Ar27.1) (State.isArrayOf_alike hZ.alike Ar27.2.1) Ar27.2.2 hin27 hat27 (g := (mkF m 49 #[.val (.ref a), .val (.int q1), .val (.int q2), .val (.int (5 : Int32))] [(.int (3 : Int32)), (.ref a)])) rfl rfl (hb hby d3_49) _ ?_
            show Steps p.tables e below (s₁.setTop (mkF m 50 #[.val (.ref a), .val (.int q1), .val (.int q2), .val (.int (5 : Int32))] [(.int c3)])) _
            refine XS.bipush X0.here hx rfl (hb hby d3_50) ?_
            exact k)
          by_cases hc28 : c3 = (13 : Int32)
          · -- c3 = (13 : Int32)
            have P32 : own_Rch p.tables e below A0 (s₁.setTop (mkF m 62 #[.val (.ref a), .val (.int q1), .val (.int q2), .val (.int (5 : Int32))] [(.int (10 : Int32)), (.int c2)])) := fun t k => P29 t (by
              show Steps p.tables e below (s₁.setTop (mkF m 52 #[.val (.ref a), .val (.int q1), .val (.int q2), .val (.int (5 : Int32))] [(.int (13 : Int32)), (.int c3)])) _
              refine XS.icmpNo X0.here hx rfl (hb hby d3_52) rfl (teq hc28).2 ?_
              show Steps p.tables e below (s₁.setTop (mkF m 55 #[.val (.ref a), .val (.int q1), .val (.int q2), .val (.int (5 : Int32))] [])) _
              refine XS.aloadN X0.here hx rfl (hb hby d3_55) rfl rfl ?_
              show Steps p.tables e below (s₁.setTop (mkF m 56 #[.val (.ref a), .val (.int q1), .val (.int q2), .val (.int (5 : Int32))] [(.ref a)])) _
              refine XS.iloadN X0.here hx rfl (hb hby d3_56) rfl ?_
              show Steps p.tables e below (s₁.setTop (mkF m 57 #[.val (.ref a), .val (.int q1), .val (.int q2), .val (.int (5 : Int32))] [(.int (5 : Int32)), (.ref a)])) _
              refine XS.iconst X0.here hx rfl (hb hby d3_57) ?_
              show Steps p.tables e below (s₁.setTop (mkF m 58 #[.val (.ref a), .val (.int q1), .val (.int q2), .val (.int (5 : Int32))] [(.int (3 : Int32)), (.int (5 : Int32)), (.ref a)])) _
              refine XS.isub X0.here hx rfl (hb hby d3_58) rfl ?_
              show Steps p.tables e below (s₁.setTop (mkF m 59 #[.val (.ref a), .val (.int q1), .val (.int q2), .val (.int (5 : Int32))] [(.int (2 : Int32)), (.ref a)])) _
              obtain ⟨cl30, Ar30, -, S30, N30, H30, -⟩ := id V_a
              have hin30 : ¬ ((2 : Int32) < 0 ∨ cl30.slots.size ≤ ((2 : Int32)).toNatClampNeg) := inb_of S30 ⟨by decide, by decide⟩
              have hat30 := H30.at hin30 (v := (.int c2)) rfl
              refine X0.baloadBytes hx (j := (2 : Int32)) (v := (.int c2)) (by rw [e0]; exact Ar30.1) (State.isArrayOf_alike hZ.alike Ar30.2.1) Ar30.2.2 hin30 hat30 (g := (mkF m 59 #[.val (.ref a), .val (.int q1), .val (.int q2), .val (.int (5 : Int32))] [(.int (2 : Int32)), (.ref a)])) rfl rfl (hb hby d3_59) _ ?_
              show Steps p.tables e below (s₁.setTop (mkF m 60 #[.val (.ref a), .val (.int q1), .val (.int q2), .val (.int (5 : Int32))] [(.int c2)])) _
              refine XS.bipush X0.here hx rfl (hb hby d3_60) ?_
              exact k)
            by_cases hc31 : c2 = (10 : Int32)
            · -- c2 = (10 : Int32)
              have P33 : own_Rch p.tables e below A0 (s₁.setTop (mkF m 70 #[.val (.ref a), .val (.int q1), .val (.int q2), .val (.int (5 : Int32))] [(.int (1 : Int32))])) := fun t k => P32 t (by
                show Steps p.tables e below (s₁.setTop (mkF m 62 #[.val (.ref a), .val (.int q1), .val (.int q2), .val (.int (5 : Int32))] [(.int (10 : Int32)), (.int c2)])) _
                refine XS.icmpNo X0.here hx rfl (hb hby d3_62) rfl (teq hc31).2 ?_
                show Steps p.tables e below (s₁.setTop (mkF m 65 #[.val (.ref a), .val (.int q1), .val (.int q2), .val (.int (5 : Int32))] [])) _
                refine XS.iconst X0.here hx rfl (hb hby d3_65) ?_
                show Steps p.tables e below (s₁.setTop (mkF m 66 #[.val (.ref a), .val (.int q1), .val (.int q2), .val (.int (5 : Int32))] [(.int (1 : Int32))])) _
                refine XS.goto X0.here hx rfl (pc0 := 66) (pc' := 70) rfl (hb hby d3_66) (by decide) (by decide) ?_
                exact k)
              obtain ⟨fs, hr, hrun, hended, hW, hsame⟩ := X0.leave (v := some (.int (nar .boolean (1 : Int32)))) (fun h => by rw [Bd.returns] at h; cases h)
              refine ⟨_, _, P00 _ (P33 _ ?_), hrun, hended, _, _, rfl, ?_, ⟨_, rfl⟩, hW, hsame.mono (by decide) (by decide)⟩
              · exact retN X0 hx (t := .boolean) Bd.returns (by simp) (hb hby d3_70) hr
              · show Q3e5 Z a ka q1 q2 c0 c1 c2 c3 c4 c5 h0 n0 _ s₁.heap _
                rw [e0]
                refine ⟨?_, N0, rfl⟩
                skip
                (try simp only [own_e5, if_neg hc1, if_pos hc5, if_neg hc7, if_pos hc25, if_pos hc28, if_pos hc31])
                (try rfl)
            · -- not c2 = (10 : Int32)
              have P34 : own_Rch p.tables e below A0 (s₁.setTop (mkF m 70 #[.val (.ref a), .val (.int q1), .val (.int q2), .val (.int (5 : Int32))] [(.int (0 : Int32))])) := fun t k => P32 t (by
                show Steps p.tables e below (s₁.setTop (mkF m 62 #[.val (.ref a), .val (.int q1), .val (.int q2), .val (.int (5 : Int32))] [(.int (10 : Int32)), (.int c2)])) _
                refine XS.icmpYes X0.here hx rfl (pc0 := 62) (pc' := 69) rfl (hb hby d3_62) rfl (feq hc31).2 (by decide) (by decide) ?_
                show Steps p.tables e below (s₁.setTop (mkF m 69 #[.val (.ref a), .val (.int q1), .val (.int q2), .val (.int (5 : Int32))] [])) _
                refine XS.iconst X0.here hx rfl (hb hby d3_69) ?_
                exact k)
              obtain ⟨fs, hr, hrun, hended, hW, hsame⟩ := X0.leave (v := some (.int (nar .boolean (0 : Int32)))) (fun h => by rw [Bd.returns] at h; cases h)
              refine ⟨_, _, P00 _ (P34 _ ?_), hrun, hended, _, _, rfl, ?_, ⟨_, rfl⟩, hW, hsame.mono (by decide) (by decide)⟩
              · exact retN X0 hx (t := .boolean) Bd.returns (by simp) (hb hby d3_70) hr
              · show Q3e5 Z a ka q1 q2 c0 c1 c2 c3 c4 c5 h0 n0 _ s₁.heap _
                rw [e0]
                refine ⟨?_, N0, rfl⟩
                skip
                (try simp only [own_e5, if_neg hc1, if_pos hc5, if_neg hc7, if_pos hc25, if_pos hc28, if_neg hc31])
                (try rfl)
          · -- not c3 = (13 : Int32)
            have P35 : own_Rch p.tables e below A0 (s₁.setTop (mkF m 70 #[.val (.ref a), .val (.int q1), .val (.int q2), .val (.int (5 : Int32))] [(.int (0 : Int32))])) := fun t k => P29 t (by
              show Steps p.tables e below (s₁.setTop (mkF m 52 #[.val (.ref a), .val (.int q1), .val (.int q2), .val (.int (5 : Int32))] [(.int (13 : Int32)), (.int c3)])) _
              refine XS.icmpYes X0.here hx rfl (pc0 := 52) (pc' := 69) rfl (hb hby d3_52) rfl (feq hc28).2 (by decide) (by decide) ?_
              show Steps p.tables e below (s₁.setTop (mkF m 69 #[.val (.ref a), .val (.int q1), .val (.int q2), .val (.int (5 : Int32))] [])) _
              refine XS.iconst X0.here hx rfl (hb hby d3_69) ?_
              exact k)
            obtain ⟨fs, hr, hrun, hended, hW, hsame⟩ := X0.leave (v := some (.int (nar .boolean (0 : Int32)))) (fun h => by rw [Bd.returns] at h; cases h)
            refine ⟨_, _, P00 _ (P35 _ ?_), hrun, hended, _, _, rfl, ?_, ⟨_, rfl⟩, hW, hsame.mono (by decide) (by decide)⟩
            · exact retN X0 hx (t := .boolean) Bd.returns (by simp) (hb hby d3_70) hr
            · show Q3e5 Z a ka q1 q2 c0 c1 c2 c3 c4 c5 h0 n0 _ s₁.heap _
              rw [e0]
              refine ⟨?_, N0, rfl⟩
              skip
              (try simp only [own_e5, if_neg hc1, if_pos hc5, if_neg hc7, if_pos hc25, if_neg hc28])
              (try rfl)
        · -- not q2 < (2 : Int32)
          have P36 : own_Rch p.tables e below A0 (s₁.setTop (mkF m 70 #[.val (.ref a), .val (.int q1), .val (.int q2), .val (.int (5 : Int32))] [(.int (0 : Int32))])) := fun t k => P26 t (by
            show Steps p.tables e below (s₁.setTop (mkF m 42 #[.val (.ref a), .val (.int q1), .val (.int q2), .val (.int (5 : Int32))] [(.int q2), (.int (2 : Int32))])) _
            refine XS.icmpYes X0.here hx rfl (pc0 := 42) (pc' := 69) rfl (hb hby d3_42) rfl (flt hc25).2.2.2 (by decide) (by decide) ?_
            show Steps p.tables e below (s₁.setTop (mkF m 69 #[.val (.ref a), .val (.int q1), .val (.int q2), .val (.int (5 : Int32))] [])) _
            refine XS.iconst X0.here hx rfl (hb hby d3_69) ?_
            exact k)
          obtain ⟨fs, hr, hrun, hended, hW, hsame⟩ := X0.leave (v := some (.int (nar .boolean (0 : Int32)))) (fun h => by rw [Bd.returns] at h; cases h)
          refine ⟨_, _, P00 _ (P36 _ ?_), hrun, hended, _, _, rfl, ?_, ⟨_, rfl⟩, hW, hsame.mono (by decide) (by decide)⟩
          · exact retN X0 hx (t := .boolean) Bd.returns (by simp) (hb hby d3_70) hr
          · show Q3e5 Z a ka q1 q2 c0 c1 c2 c3 c4 c5 h0 n0 _ s₁.heap _
            rw [e0]
            refine ⟨?_, N0, rfl⟩
            skip
            (try simp only [own_e5, if_neg hc1, if_pos hc5, if_neg hc7, if_neg hc25])
            (try rfl)
    · -- not c4 = (10 : Int32)
      have P37 : own_Rch p.tables e below A0 (s₁.setTop (mkF m 18 #[.val (.ref a), .val (.int q1), .val (.int q2), .val (.int (5 : Int32))] [(.int (0 : Int32))])) := fun t k => P6 t (by
        show Steps p.tables e below (s₁.setTop (mkF m 14 #[.val (.ref a), .val (.int q1), .val (.int q2), .val (.int (5 : Int32))] [(.int (10 : Int32)), (.int c4)])) _
        refine XS.icmpNo X0.here hx rfl (hb hby d3_14) rfl (feq hc5).1 ?_
        show Steps p.tables e below (s₁.setTop (mkF m 17 #[.val (.ref a), .val (.int q1), .val (.int q2), .val (.int (5 : Int32))] [])) _
        refine XS.iconst X0.here hx rfl (hb hby d3_17) ?_
        exact k)
      obtain ⟨fs, hr, hrun, hended, hW, hsame⟩ := X0.leave (v := some (.int (nar .boolean (0 : Int32)))) (fun h => by rw [Bd.returns] at h; cases h)
      refine ⟨_, _, P00 _ (P37 _ ?_), hrun, hended, _, _, rfl, ?_, ⟨_, rfl⟩, hW, hsame.mono (by decide) (by decide)⟩
      · exact retN X0 hx (t := .boolean) Bd.returns (by simp) (hb hby d3_18) hr
      · show Q3e5 Z a ka q1 q2 c0 c1 c2 c3 c4 c5 h0 n0 _ s₁.heap _
        rw [e0]
        refine ⟨?_, N0, rfl⟩
        skip
        (try simp only [own_e5, if_neg hc1, if_neg hc5])
        (try rfl)
def own_e6 (q1 : Int32) (q2 : Int32) (c0 : Int32) (c1 : Int32) (c2 : Int32) (c3 : Int32) (c4 : Int32) (c5 : Int32) : Int32 := (if q1 < (6 : Int32) then (0 : Int32) else (if c5 = (10 : Int32) then (if q2 < (4 : Int32) then (if c4 = (10 : Int32) then (1 : Int32) else (if q2 < (3 : Int32) then (if c4 = (13 : Int32) then (if c3 = (10 : Int32) then (1 : Int32) else (0 : Int32)) else (0 : Int32)) else (0 : Int32))) else (if q2 < (3 : Int32) then (if c4 = (13 : Int32) then (if c3 = (10 : Int32) then (1 : Int32) else (0 : Int32)) else (0 : Int32)) else (0 : Int32))) else (0 : Int32)))
theorem ef_3e6 (m : MethodId) (a : Addr) (q1 : Int32) (q2 : Int32) : entryFrame m #[(.ref a), (.int q1), (.int q2), (.int (6 : Int32))] 4 = mkF m 0 #[.val (.ref a), .val (.int q1), .val (.int q2), .val (.int (6 : Int32))] [] := by first | (simp [entryFrame, mkF, argsToLocals, Value.category]; done) | rfl
def Q3e6 (Z : State) (a : Addr) (ka : ClassId) (q1 : Int32) (q2 : Int32) (c0 : Int32) (c1 : Int32) (c2 : Int32) (c3 : Int32) (c4 : Int32) (c5 : Int32) (h0 : Heap) (n0 : Nat) (v : Option Value) (h : Heap) (L : List Loc) : Prop := v = some (.int (own_e6 q1 q2 c0 c1 c2 c3 c4 c5)) ∧ Fr n0 L ∧ h = h0
set_option maxRecDepth 65536 in
set_option maxHeartbeats 40000000 in
theorem rm3e6 (l : Launch) (Z : State) (a0 : Array Value) (hw : ∀ d ∈ tables_1, d.before a0 Z = true) (ws : List Jvm.Cond) (a : Addr) (ka : ClassId) (q1 : Int32) (q2 : Int32) (c0 : Int32) (c1 : Int32) (c2 : Int32) (c3 : Int32) (c4 : Int32) (c5 : Int32) (h0 : Heap) (n0 : Nat) (Z0 : n0 ≤ h0.size) (V_a : Arv Z h0 a ka .byte (6 : Int32) [(.int c0), (.int c1), (.int c2), (.int c3), (.int c4), (.int c5)] (.int (0 : Int32))) :
    MetFree l (⟨"com/example/rackline/rackline/metrics/RequestHeadEndPinLaw", "endsAt", "([BIII)Z"⟩ : MethodName) (head1 (Jvm.Cond.code (⟨"com/example/rackline/rackline/metrics/RequestHeadEndPinLaw", "endsAt", "([BIII)Z"⟩ : MethodName) method_4_code 4 (some .boolean) :: ws) ({ frames := 0, cells := 0, slots := 0, locals := 0 } : Room)) (fun a' U => a' = #[(.ref a), (.int q1), (.int q2), (.int (6 : Int32))] ∧ Z.Warmed39 U.vm ∧ U.heap = h0) (fun _ _ _ _ _ => True) (fun _ U o U' => ∃ v L, o = .returned v ∧ Q3e6 Z a ka q1 q2 c0 c1 c2 c3 c4 c5 h0 n0 v U'.heap L ∧ FrameEnd U o U' L ({ frames := 0, cells := 0, slots := 0, locals := 0 } : Room).cells ({ frames := 0, cells := 0, slots := 0, locals := 0 } : Room).slots) := by
  refine MetFree.of_bodySF (plainFor_of_name pn_0) hisR ?_
  intro p e s m args' below meth c s₁ Bd hml0 hP hK
  obtain ⟨hargs, hZ, hh⟩ := hP
  have hx := Bd.exec
  have hby := Bd.bytes
  have hml : c.maxLocals = 4 := hml0
  have hown : s.vm.findClass "com/example/rackline/rackline/metrics/RequestHeadEndPinLaw" = some m.cls := findClass_of_methodNamed Bd.named
  have hnm := (name_of_methodNamed Bd.named Bd.method).1
  have X0 : Stand p l e ({ frames := 0, cells := 0, slots := 0, locals := 0 } : Room) s m args' below meth c s₁ [] 0 0 := Stand.of_body Bd
  have e0 : s₁.heap = h0 := by rw [← hh, Bd.state]; rfl
  have N0 := Fr.nil n0
  obtain ⟨A0, hA0⟩ : ∃ A, A = s₁.setTop (mkF m 0 #[.val (.ref a), .val (.int q1), .val (.int q2), .val (.int (6 : Int32))] []) := ⟨_, rfl⟩
  have P0 : own_Rch p.tables e below A0 (s₁.setTop (mkF m 0 #[.val (.ref a), .val (.int q1), .val (.int q2), .val (.int (6 : Int32))] [])) := fun t k => hA0 ▸ k
  have P00 : own_Rch p.tables e below (s₁.setTop (entryFrame m args' 4)) A0 := fun t k => by rw [hargs]; exact castTop (ef_3e6 m a q1 q2) (hA0 ▸ k)
  have P2 : own_Rch p.tables e below A0 (s₁.setTop (mkF m 2 #[.val (.ref a), .val (.int q1), .val (.int q2), .val (.int (6 : Int32))] [(.int q1), (.int (6 : Int32))])) := fun t k => P0 t (by
    show Steps p.tables e below (s₁.setTop (mkF m 0 #[.val (.ref a), .val (.int q1), .val (.int q2), .val (.int (6 : Int32))] [])) _
    refine XS.iloadN X0.here hx rfl (hb hby d3_0) rfl ?_
    show Steps p.tables e below (s₁.setTop (mkF m 1 #[.val (.ref a), .val (.int q1), .val (.int q2), .val (.int (6 : Int32))] [(.int (6 : Int32))])) _
    refine XS.iloadN X0.here hx rfl (hb hby d3_1) rfl ?_
    exact k)
  by_cases hc1 : q1 < (6 : Int32)
  · -- q1 < (6 : Int32)
    have P3 : own_Rch p.tables e below A0 (s₁.setTop (mkF m 6 #[.val (.ref a), .val (.int q1), .val (.int q2), .val (.int (6 : Int32))] [(.int (0 : Int32))])) := fun t k => P2 t (by
      show Steps p.tables e below (s₁.setTop (mkF m 2 #[.val (.ref a), .val (.int q1), .val (.int q2), .val (.int (6 : Int32))] [(.int q1), (.int (6 : Int32))])) _
      refine XS.icmpNo X0.here hx rfl (hb hby d3_2) rfl (tlt hc1).2.2.2 ?_
      show Steps p.tables e below (s₁.setTop (mkF m 5 #[.val (.ref a), .val (.int q1), .val (.int q2), .val (.int (6 : Int32))] [])) _
      refine XS.iconst X0.here hx rfl (hb hby d3_5) ?_
      exact k)
    obtain ⟨fs, hr, hrun, hended, hW, hsame⟩ := X0.leave (v := some (.int (nar .boolean (0 : Int32)))) (fun h => by rw [Bd.returns] at h; cases h)
    refine ⟨_, _, P00 _ (P3 _ ?_), hrun, hended, _, _, rfl, ?_, ⟨_, rfl⟩, hW, hsame.mono (by decide) (by decide)⟩
    · exact retN X0 hx (t := .boolean) Bd.returns (by simp) (hb hby d3_6) hr
    · show Q3e6 Z a ka q1 q2 c0 c1 c2 c3 c4 c5 h0 n0 _ s₁.heap _
      rw [e0]
      refine ⟨?_, N0, rfl⟩
      skip
      (try simp only [own_e6, if_pos hc1])
      (try rfl)
  · -- not q1 < (6 : Int32)
    have P6 : own_Rch p.tables e below A0 (s₁.setTop (mkF m 14 #[.val (.ref a), .val (.int q1), .val (.int q2), .val (.int (6 : Int32))] [(.int (10 : Int32)), (.int c5)])) := fun t k => P2 t (by
      show Steps p.tables e below (s₁.setTop (mkF m 2 #[.val (.ref a), .val (.int q1), .val (.int q2), .val (.int (6 : Int32))] [(.int q1), (.int (6 : Int32))])) _
      refine XS.icmpYes X0.here hx rfl (pc0 := 2) (pc' := 7) rfl (hb hby d3_2) rfl (flt hc1).2.2.2 (by decide) (by decide) ?_
      show Steps p.tables e below (s₁.setTop (mkF m 7 #[.val (.ref a), .val (.int q1), .val (.int q2), .val (.int (6 : Int32))] [])) _
      refine XS.aloadN X0.here hx rfl (hb hby d3_7) rfl rfl ?_
      show Steps p.tables e below (s₁.setTop (mkF m 8 #[.val (.ref a), .val (.int q1), .val (.int q2), .val (.int (6 : Int32))] [(.ref a)])) _
      refine XS.iloadN X0.here hx rfl (hb hby d3_8) rfl ?_
      show Steps p.tables e below (s₁.setTop (mkF m 9 #[.val (.ref a), .val (.int q1), .val (.int q2), .val (.int (6 : Int32))] [(.int (6 : Int32)), (.ref a)])) _
      refine XS.iconst X0.here hx rfl (hb hby d3_9) ?_
      show Steps p.tables e below (s₁.setTop (mkF m 10 #[.val (.ref a), .val (.int q1), .val (.int q2), .val (.int (6 : Int32))] [(.int (1 : Int32)), (.int (6 : Int32)), (.ref a)])) _
      refine XS.isub X0.here hx rfl (hb hby d3_10) rfl ?_
      show Steps p.tables e below (s₁.setTop (mkF m 11 #[.val (.ref a), .val (.int q1), .val (.int q2), .val (.int (6 : Int32))] [(.int (5 : Int32)), (.ref a)])) _
      obtain ⟨cl4, Ar4, -, S4, N4, H4, -⟩ := id V_a
      have hin4 : ¬ ((5 : Int32) < 0 ∨ cl4.slots.size ≤ ((5 : Int32)).toNatClampNeg) := inb_of S4 ⟨by decide, by decide⟩
      have hat4 := H4.at hin4 (v := (.int c5)) rfl
      refine X0.baloadBytes hx (j := (5 : Int32)) (v := (.int c5)) (by rw [e0]; exact Ar4.1) (State.isArrayOf_alike hZ.alike Ar4.2.1) Ar4.2.2 hin4 hat4 (g := (mkF m 11 #[.val (.ref a), .val (.int q1), .val (.int q2), .val (.int (6 : Int32))] [(.int (5 : Int32)), (.ref a)])) rfl rfl (hb hby d3_11) _ ?_
      show Steps p.tables e below (s₁.setTop (mkF m 12 #[.val (.ref a), .val (.int q1), .val (.int q2), .val (.int (6 : Int32))] [(.int c5)])) _
      refine XS.bipush X0.here hx rfl (hb hby d3_12) ?_
      exact k)
    by_cases hc5 : c5 = (10 : Int32)
    · -- c5 = (10 : Int32)
      have P8 : own_Rch p.tables e below A0 (s₁.setTop (mkF m 23 #[.val (.ref a), .val (.int q1), .val (.int q2), .val (.int (6 : Int32))] [(.int q2), (.int (4 : Int32))])) := fun t k => P6 t (by
        show Steps p.tables e below (s₁.setTop (mkF m 14 #[.val (.ref a), .val (.int q1), .val (.int q2), .val (.int (6 : Int32))] [(.int (10 : Int32)), (.int c5)])) _
        refine XS.icmpYes X0.here hx rfl (pc0 := 14) (pc' := 19) rfl (hb hby d3_14) rfl (teq hc5).1 (by decide) (by decide) ?_
        show Steps p.tables e below (s₁.setTop (mkF m 19 #[.val (.ref a), .val (.int q1), .val (.int q2), .val (.int (6 : Int32))] [])) _
        refine XS.iloadN X0.here hx rfl (hb hby d3_19) rfl ?_
        show Steps p.tables e below (s₁.setTop (mkF m 20 #[.val (.ref a), .val (.int q1), .val (.int q2), .val (.int (6 : Int32))] [(.int (6 : Int32))])) _
        refine XS.iconst X0.here hx rfl (hb hby d3_20) ?_
        show Steps p.tables e below (s₁.setTop (mkF m 21 #[.val (.ref a), .val (.int q1), .val (.int q2), .val (.int (6 : Int32))] [(.int (2 : Int32)), (.int (6 : Int32))])) _
        refine XS.isub X0.here hx rfl (hb hby d3_21) rfl ?_
        show Steps p.tables e below (s₁.setTop (mkF m 22 #[.val (.ref a), .val (.int q1), .val (.int q2), .val (.int (6 : Int32))] [(.int (4 : Int32))])) _
        refine XS.iloadN X0.here hx rfl (hb hby d3_22) rfl ?_
        exact k)
      by_cases hc7 : q2 < (4 : Int32)
      · -- q2 < (4 : Int32)
        have P11 : own_Rch p.tables e below A0 (s₁.setTop (mkF m 33 #[.val (.ref a), .val (.int q1), .val (.int q2), .val (.int (6 : Int32))] [(.int (10 : Int32)), (.int c4)])) := fun t k => P8 t (by
          show Steps p.tables e below (s₁.setTop (mkF m 23 #[.val (.ref a), .val (.int q1), .val (.int q2), .val (.int (6 : Int32))] [(.int q2), (.int (4 : Int32))])) _
          refine XS.icmpNo X0.here hx rfl (hb hby d3_23) rfl (tlt hc7).2.2.2 ?_
          show Steps p.tables e below (s₁.setTop (mkF m 26 #[.val (.ref a), .val (.int q1), .val (.int q2), .val (.int (6 : Int32))] [])) _
          refine XS.aloadN X0.here hx rfl (hb hby d3_26) rfl rfl ?_
          show Steps p.tables e below (s₁.setTop (mkF m 27 #[.val (.ref a), .val (.int q1), .val (.int q2), .val (.int (6 : Int32))] [(.ref a)])) _
          refine XS.iloadN X0.here hx rfl (hb hby d3_27) rfl ?_
          show Steps p.tables e below (s₁.setTop (mkF m 28 #[.val (.ref a), .val (.int q1), .val (.int q2), .val (.int (6 : Int32))] [(.int (6 : Int32)), (.ref a)])) _
          refine XS.iconst X0.here hx rfl (hb hby d3_28) ?_
          show Steps p.tables e below (s₁.setTop (mkF m 29 #[.val (.ref a), .val (.int q1), .val (.int q2), .val (.int (6 : Int32))] [(.int (2 : Int32)), (.int (6 : Int32)), (.ref a)])) _
          refine XS.isub X0.here hx rfl (hb hby d3_29) rfl ?_
          show Steps p.tables e below (s₁.setTop (mkF m 30 #[.val (.ref a), .val (.int q1), .val (.int q2), .val (.int (6 : Int32))] [(.int (4 : Int32)), (.ref a)])) _
          obtain ⟨cl9, Ar9, -, S9, N9, H9, -⟩ := id V_a
          have hin9 : ¬ ((4 : Int32) < 0 ∨ cl9.slots.size ≤ ((4 : Int32)).toNatClampNeg) := inb_of S9 ⟨by decide, by decide⟩
          have hat9 := H9.at hin9 (v := (.int c4)) rfl
          refine X0.baloadBytes hx (j := (4 : Int32)) (v := (.int c4)) (by rw [e0]; exact Ar9.1) (State.isArrayOf_alike hZ.alike Ar9.2.1) Ar9.2.2 hin9 hat9 (g := (mkF m 30 #[.val (.ref a), .val (.int q1), .val (.int q2), .val (.int (6 : Int32))] [(.int (4 : Int32)), (.ref a)])) rfl rfl (hb hby d3_30) _ ?_
          show Steps p.tables e below (s₁.setTop (mkF m 31 #[.val (.ref a), .val (.int q1), .val (.int q2), .val (.int (6 : Int32))] [(.int c4)])) _
          refine XS.bipush X0.here hx rfl (hb hby d3_31) ?_
          exact k)
        by_cases hc10 : c4 = (10 : Int32)
        · -- c4 = (10 : Int32)
          have P12 : own_Rch p.tables e below A0 (s₁.setTop (mkF m 37 #[.val (.ref a), .val (.int q1), .val (.int q2), .val (.int (6 : Int32))] [(.int (1 : Int32))])) := fun t k => P11 t (by
            show Steps p.tables e below (s₁.setTop (mkF m 33 #[.val (.ref a), .val (.int q1), .val (.int q2), .val (.int (6 : Int32))] [(.int (10 : Int32)), (.int c4)])) _
            refine XS.icmpNo X0.here hx rfl (hb hby d3_33) rfl (teq hc10).2 ?_
            show Steps p.tables e below (s₁.setTop (mkF m 36 #[.val (.ref a), .val (.int q1), .val (.int q2), .val (.int (6 : Int32))] [])) _
            refine XS.iconst X0.here hx rfl (hb hby d3_36) ?_
            exact k)
          obtain ⟨fs, hr, hrun, hended, hW, hsame⟩ := X0.leave (v := some (.int (nar .boolean (1 : Int32)))) (fun h => by rw [Bd.returns] at h; cases h)
          refine ⟨_, _, P00 _ (P12 _ ?_), hrun, hended, _, _, rfl, ?_, ⟨_, rfl⟩, hW, hsame.mono (by decide) (by decide)⟩
          · exact retN X0 hx (t := .boolean) Bd.returns (by simp) (hb hby d3_37) hr
          · show Q3e6 Z a ka q1 q2 c0 c1 c2 c3 c4 c5 h0 n0 _ s₁.heap _
            rw [e0]
            refine ⟨?_, N0, rfl⟩
            skip
            (try simp only [own_e6, if_neg hc1, if_pos hc5, if_pos hc7, if_pos hc10])
            (try rfl)
        · -- not c4 = (10 : Int32)
          have P14 : own_Rch p.tables e below A0 (s₁.setTop (mkF m 42 #[.val (.ref a), .val (.int q1), .val (.int q2), .val (.int (6 : Int32))] [(.int q2), (.int (3 : Int32))])) := fun t k => P11 t (by
            show Steps p.tables e below (s₁.setTop (mkF m 33 #[.val (.ref a), .val (.int q1), .val (.int q2), .val (.int (6 : Int32))] [(.int (10 : Int32)), (.int c4)])) _
            refine XS.icmpYes X0.here hx rfl (pc0 := 33) (pc' := 38) rfl (hb hby d3_33) rfl (feq hc10).2 (by decide) (by decide) ?_
            show Steps p.tables e below (s₁.setTop (mkF m 38 #[.val (.ref a), .val (.int q1), .val (.int q2), .val (.int (6 : Int32))] [])) _
            refine XS.iloadN X0.here hx rfl (hb hby d3_38) rfl ?_
            show Steps p.tables e below (s₁.setTop (mkF m 39 #[.val (.ref a), .val (.int q1), .val (.int q2), .val (.int (6 : Int32))] [(.int (6 : Int32))])) _
            refine XS.iconst X0.here hx rfl (hb hby d3_39) ?_
            show Steps p.tables e below (s₁.setTop (mkF m 40 #[.val (.ref a), .val (.int q1), .val (.int q2), .val (.int (6 : Int32))] [(.int (3 : Int32)), (.int (6 : Int32))])) _
            refine XS.isub X0.here hx rfl (hb hby d3_40) rfl ?_
            show Steps p.tables e below (s₁.setTop (mkF m 41 #[.val (.ref a), .val (.int q1), .val (.int q2), .val (.int (6 : Int32))] [(.int (3 : Int32))])) _
            refine XS.iloadN X0.here hx rfl (hb hby d3_41) rfl ?_
            exact k)
          by_cases hc13 : q2 < (3 : Int32)
          · -- q2 < (3 : Int32)
            have P17 : own_Rch p.tables e below A0 (s₁.setTop (mkF m 52 #[.val (.ref a), .val (.int q1), .val (.int q2), .val (.int (6 : Int32))] [(.int (13 : Int32)), (.int c4)])) := fun t k => P14 t (by
              show Steps p.tables e below (s₁.setTop (mkF m 42 #[.val (.ref a), .val (.int q1), .val (.int q2), .val (.int (6 : Int32))] [(.int q2), (.int (3 : Int32))])) _
              refine XS.icmpNo X0.here hx rfl (hb hby d3_42) rfl (tlt hc13).2.2.2 ?_
              show Steps p.tables e below (s₁.setTop (mkF m 45 #[.val (.ref a), .val (.int q1), .val (.int q2), .val (.int (6 : Int32))] [])) _
              refine XS.aloadN X0.here hx rfl (hb hby d3_45) rfl rfl ?_
              show Steps p.tables e below (s₁.setTop (mkF m 46 #[.val (.ref a), .val (.int q1), .val (.int q2), .val (.int (6 : Int32))] [(.ref a)])) _
              refine XS.iloadN X0.here hx rfl (hb hby d3_46) rfl ?_
              show Steps p.tables e below (s₁.setTop (mkF m 47 #[.val (.ref a), .val (.int q1), .val (.int q2), .val (.int (6 : Int32))] [(.int (6 : Int32)), (.ref a)])) _
              refine XS.iconst X0.here hx rfl (hb hby d3_47) ?_
              show Steps p.tables e below (s₁.setTop (mkF m 48 #[.val (.ref a), .val (.int q1), .val (.int q2), .val (.int (6 : Int32))] [(.int (2 : Int32)), (.int (6 : Int32)), (.ref a)])) _
              refine XS.isub X0.here hx rfl (hb hby d3_48) rfl ?_
              show Steps p.tables e below (s₁.setTop (mkF m 49 #[.val (.ref a), .val (.int q1), .val (.int q2), .val (.int (6 : Int32))] [(.int (4 : Int32)), (.ref a)])) _
              obtain ⟨cl15, Ar15, -, S15, N15, H15, -⟩ := id V_a
              have hin15 : ¬ ((4 : Int32) < 0 ∨ cl15.slots.size ≤ ((4 : Int32)).toNatClampNeg) := inb_of S15 ⟨by decide, by decide⟩
              have hat15 := H15.at hin15 (v := (.int c4)) rfl
              refine X0.baloadBytes hx (j := (4 : Int32)) (v := (.int c4)) (by rw [e0]; exact Ar15.1) (State.isArrayOf_alike hZ.alike Ar15.2.1) Ar15.2.2 hin15 hat15 (g := (mkF m 49 #[.val (.ref a), .val (.int q1), .val (.int q2), .val (.int (6 : Int32))] [(.int (4 : Int32)), (.ref a)])) rfl rfl (hb hby d3_49) _ ?_
              show Steps p.tables e below (s₁.setTop (mkF m 50 #[.val (.ref a), .val (.int q1), .val (.int q2), .val (.int (6 : Int32))] [(.int c4)])) _
              refine XS.bipush X0.here hx rfl (hb hby d3_50) ?_
              exact k)
            by_cases hc16 : c4 = (13 : Int32)
            · -- c4 = (13 : Int32)
              have P20 : own_Rch p.tables e below A0 (s₁.setTop (mkF m 62 #[.val (.ref a), .val (.int q1), .val (.int q2), .val (.int (6 : Int32))] [(.int (10 : Int32)), (.int c3)])) := fun t k => P17 t (by
                show Steps p.tables e below (s₁.setTop (mkF m 52 #[.val (.ref a), .val (.int q1), .val (.int q2), .val (.int (6 : Int32))] [(.int (13 : Int32)), (.int c4)])) _
                refine XS.icmpNo X0.here hx rfl (hb hby d3_52) rfl (teq hc16).2 ?_
                show Steps p.tables e below (s₁.setTop (mkF m 55 #[.val (.ref a), .val (.int q1), .val (.int q2), .val (.int (6 : Int32))] [])) _
                refine XS.aloadN X0.here hx rfl (hb hby d3_55) rfl rfl ?_
                show Steps p.tables e below (s₁.setTop (mkF m 56 #[.val (.ref a), .val (.int q1), .val (.int q2), .val (.int (6 : Int32))] [(.ref a)])) _
                refine XS.iloadN X0.here hx rfl (hb hby d3_56) rfl ?_
                show Steps p.tables e below (s₁.setTop (mkF m 57 #[.val (.ref a), .val (.int q1), .val (.int q2), .val (.int (6 : Int32))] [(.int (6 : Int32)), (.ref a)])) _
                refine XS.iconst X0.here hx rfl (hb hby d3_57) ?_
                show Steps p.tables e below (s₁.setTop (mkF m 58 #[.val (.ref a), .val (.int q1), .val (.int q2), .val (.int (6 : Int32))] [(.int (3 : Int32)), (.int (6 : Int32)), (.ref a)])) _
                refine XS.isub X0.here hx rfl (hb hby d3_58) rfl ?_
                show Steps p.tables e below (s₁.setTop (mkF m 59 #[.val (.ref a), .val (.int q1), .val (.int q2), .val (.int (6 : Int32))] [(.int (3 : Int32)), (.ref a)])) _
                obtain ⟨cl18, Ar18, -, S18, N18, H18, -⟩ := id V_a
                have hin18 : ¬ ((3 : Int32) < 0 ∨ cl18.slots.size ≤ ((3 : Int32)).toNatClampNeg) := inb_of S18 ⟨by decide, by decide⟩
                have hat18 := H18.at hin18 (v := (.int c3)) rfl
                refine X0.baloadBytes hx (j := (3 : Int32)) (v := (.int c3)) (by rw [e0]; exact Ar18.1) (State.isArrayOf_alike hZ.alike Ar18.2.1) Ar18.2.2 hin18 hat18 (g := (mkF m 59 #[.val (.ref a), .val (.int q1), .val (.int q2), .val (.int (6 : Int32))] [(.int (3 : Int32)), (.ref a)])) rfl rfl (hb hby d3_59) _ ?_
                show Steps p.tables e below (s₁.setTop (mkF m 60 #[.val (.ref a), .val (.int q1), .val (.int q2), .val (.int (6 : Int32))] [(.int c3)])) _
                refine XS.bipush X0.here hx rfl (hb hby d3_60) ?_
                exact k)
              by_cases hc19 : c3 = (10 : Int32)
              · -- c3 = (10 : Int32)
                have P21 : own_Rch p.tables e below A0 (s₁.setTop (mkF m 70 #[.val (.ref a), .val (.int q1), .val (.int q2), .val (.int (6 : Int32))] [(.int (1 : Int32))])) := fun t k => P20 t (by
                  show Steps p.tables e below (s₁.setTop (mkF m 62 #[.val (.ref a), .val (.int q1), .val (.int q2), .val (.int (6 : Int32))] [(.int (10 : Int32)), (.int c3)])) _
                  refine XS.icmpNo X0.here hx rfl (hb hby d3_62) rfl (teq hc19).2 ?_
                  show Steps p.tables e below (s₁.setTop (mkF m 65 #[.val (.ref a), .val (.int q1), .val (.int q2), .val (.int (6 : Int32))] [])) _
                  refine XS.iconst X0.here hx rfl (hb hby d3_65) ?_
                  show Steps p.tables e below (s₁.setTop (mkF m 66 #[.val (.ref a), .val (.int q1), .val (.int q2), .val (.int (6 : Int32))] [(.int (1 : Int32))])) _
                  refine XS.goto X0.here hx rfl (pc0 := 66) (pc' := 70) rfl (hb hby d3_66) (by decide) (by decide) ?_
                  exact k)
                obtain ⟨fs, hr, hrun, hended, hW, hsame⟩ := X0.leave (v := some (.int (nar .boolean (1 : Int32)))) (fun h => by rw [Bd.returns] at h; cases h)
                refine ⟨_, _, P00 _ (P21 _ ?_), hrun, hended, _, _, rfl, ?_, ⟨_, rfl⟩, hW, hsame.mono (by decide) (by decide)⟩
                · exact retN X0 hx (t := .boolean) Bd.returns (by simp) (hb hby d3_70) hr
                · show Q3e6 Z a ka q1 q2 c0 c1 c2 c3 c4 c5 h0 n0 _ s₁.heap _
                  rw [e0]
                  refine ⟨?_, N0, rfl⟩
                  skip
                  (try simp only [own_e6, if_neg hc1, if_pos hc5, if_pos hc7, if_neg hc10, if_pos hc13, if_pos hc16, if_pos hc19])
                  (try rfl)
              · -- not c3 = (10 : Int32)
                have P22 : own_Rch p.tables e below A0 (s₁.setTop (mkF m 70 #[.val (.ref a), .val (.int q1), .val (.int q2), .val (.int (6 : Int32))] [(.int (0 : Int32))])) := fun t k => P20 t (by
                  show Steps p.tables e below (s₁.setTop (mkF m 62 #[.val (.ref a), .val (.int q1), .val (.int q2), .val (.int (6 : Int32))] [(.int (10 : Int32)), (.int c3)])) _
                  refine XS.icmpYes X0.here hx rfl (pc0 := 62) (pc' := 69) rfl (hb hby d3_62) rfl (feq hc19).2 (by decide) (by decide) ?_
                  show Steps p.tables e below (s₁.setTop (mkF m 69 #[.val (.ref a), .val (.int q1), .val (.int q2), .val (.int (6 : Int32))] [])) _
                  refine XS.iconst X0.here hx rfl (hb hby d3_69) ?_
                  exact k)
                obtain ⟨fs, hr, hrun, hended, hW, hsame⟩ := X0.leave (v := some (.int (nar .boolean (0 : Int32)))) (fun h => by rw [Bd.returns] at h; cases h)
                refine ⟨_, _, P00 _ (P22 _ ?_), hrun, hended, _, _, rfl, ?_, ⟨_, rfl⟩, hW, hsame.mono (by decide) (by decide)⟩
                · exact retN X0 hx (t := .boolean) Bd.returns (by simp) (hb hby d3_70) hr
                · show Q3e6 Z a ka q1 q2 c0 c1 c2 c3 c4 c5 h0 n0 _ s₁.heap _
                  rw [e0]
                  refine ⟨?_, N0, rfl⟩
                  skip
                  (try simp only [own_e6, if_neg hc1, if_pos hc5, if_pos hc7, if_neg hc10, if_pos hc13, if_pos hc16, if_neg hc19])
                  (try rfl)
            · -- not c4 = (13 : Int32)
              have P23 : own_Rch p.tables e below A0 (s₁.setTop (mkF m 70 #[.val (.ref a), .val (.int q1), .val (.int q2), .val (.int (6 : Int32))] [(.int (0 : Int32))])) := fun t k => P17 t (by
                show Steps p.tables e below (s₁.setTop (mkF m 52 #[.val (.ref a), .val (.int q1), .val (.int q2), .val (.int (6 : Int32))] [(.int (13 : Int32)), (.int c4)])) _
                refine XS.icmpYes X0.here hx rfl (pc0 := 52) (pc' := 69) rfl (hb hby d3_52) rfl (feq hc16).2 (by decide) (by decide) ?_
                show Steps p.tables e below (s₁.setTop (mkF m 69 #[.val (.ref a), .val (.int q1), .val (.int q2), .val (.int (6 : Int32))] [])) _
                refine XS.iconst X0.here hx rfl (hb hby d3_69) ?_
                exact k)
              obtain ⟨fs, hr, hrun, hended, hW, hsame⟩ := X0.leave (v := some (.int (nar .boolean (0 : Int32)))) (fun h => by rw [Bd.returns] at h; cases h)
              refine ⟨_, _, P00 _ (P23 _ ?_), hrun, hended, _, _, rfl, ?_, ⟨_, rfl⟩, hW, hsame.mono (by decide) (by decide)⟩
              · exact retN X0 hx (t := .boolean) Bd.returns (by simp) (hb hby d3_70) hr
              · show Q3e6 Z a ka q1 q2 c0 c1 c2 c3 c4 c5 h0 n0 _ s₁.heap _
                rw [e0]
                refine ⟨?_, N0, rfl⟩
                skip
                (try simp only [own_e6, if_neg hc1, if_pos hc5, if_pos hc7, if_neg hc10, if_pos hc13, if_neg hc16])
                (try rfl)
          · -- not q2 < (3 : Int32)
            have P24 : own_Rch p.tables e below A0 (s₁.setTop (mkF m 70 #[.val (.ref a), .val (.int q1), .val (.int q2), .val (.int (6 : Int32))] [(.int (0 : Int32))])) := fun t k => P14 t (by
              show Steps p.tables e below (s₁.setTop (mkF m 42 #[.val (.ref a), .val (.int q1), .val (.int q2), .val (.int (6 : Int32))] [(.int q2), (.int (3 : Int32))])) _
              refine XS.icmpYes X0.here hx rfl (pc0 := 42) (pc' := 69) rfl (hb hby d3_42) rfl (flt hc13).2.2.2 (by decide) (by decide) ?_
              show Steps p.tables e below (s₁.setTop (mkF m 69 #[.val (.ref a), .val (.int q1), .val (.int q2), .val (.int (6 : Int32))] [])) _
              refine XS.iconst X0.here hx rfl (hb hby d3_69) ?_
              exact k)
            obtain ⟨fs, hr, hrun, hended, hW, hsame⟩ := X0.leave (v := some (.int (nar .boolean (0 : Int32)))) (fun h => by rw [Bd.returns] at h; cases h)
            refine ⟨_, _, P00 _ (P24 _ ?_), hrun, hended, _, _, rfl, ?_, ⟨_, rfl⟩, hW, hsame.mono (by decide) (by decide)⟩
            · exact retN X0 hx (t := .boolean) Bd.returns (by simp) (hb hby d3_70) hr
            · show Q3e6 Z a ka q1 q2 c0 c1 c2 c3 c4 c5 h0 n0 _ s₁.heap _
              rw [e0]
              refine ⟨?_, N0, rfl⟩
              skip
              (try simp only [own_e6, if_neg hc1, if_pos hc5, if_pos hc7, if_neg hc10, if_neg hc13])
              (try rfl)
      · -- not q2 < (4 : Int32)
        have P26 : own_Rch p.tables e below A0 (s₁.setTop (mkF m 42 #[.val (.ref a), .val (.int q1), .val (.int q2), .val (.int (6 : Int32))] [(.int q2), (.int (3 : Int32))])) := fun t k => P8 t (by
          show Steps p.tables e below (s₁.setTop (mkF m 23 #[.val (.ref a), .val (.int q1), .val (.int q2), .val (.int (6 : Int32))] [(.int q2), (.int (4 : Int32))])) _
          refine XS.icmpYes X0.here hx rfl (pc0 := 23) (pc' := 38) rfl (hb hby d3_23) rfl (flt hc7).2.2.2 (by decide) (by decide) ?_
          show Steps p.tables e below (s₁.setTop (mkF m 38 #[.val (.ref a), .val (.int q1), .val (.int q2), .val (.int (6 : Int32))] [])) _
          refine XS.iloadN X0.here hx rfl (hb hby d3_38) rfl ?_
          show Steps p.tables e below (s₁.setTop (mkF m 39 #[.val (.ref a), .val (.int q1), .val (.int q2), .val (.int (6 : Int32))] [(.int (6 : Int32))])) _
          refine XS.iconst X0.here hx rfl (hb hby d3_39) ?_
          show Steps p.tables e below (s₁.setTop (mkF m 40 #[.val (.ref a), .val (.int q1), .val (.int q2), .val (.int (6 : Int32))] [(.int (3 : Int32)), (.int (6 : Int32))])) _
          refine XS.isub X0.here hx rfl (hb hby d3_40) rfl ?_
          show Steps p.tables e below (s₁.setTop (mkF m 41 #[.val (.ref a), .val (.int q1), .val (.int q2), .val (.int (6 : Int32))] [(.int (3 : Int32))])) _
          refine XS.iloadN X0.here hx rfl (hb hby d3_41) rfl ?_
          exact k)
        by_cases hc25 : q2 < (3 : Int32)
        · -- q2 < (3 : Int32)
          have P29 : own_Rch p.tables e below A0 (s₁.setTop (mkF m 52 #[.val (.ref a), .val (.int q1), .val (.int q2), .val (.int (6 : Int32))] [(.int (13 : Int32)), (.int c4)])) := fun t k => P26 t (by
            show Steps p.tables e below (s₁.setTop (mkF m 42 #[.val (.ref a), .val (.int q1), .val (.int q2), .val (.int (6 : Int32))] [(.int q2), (.int (3 : Int32))])) _
            refine XS.icmpNo X0.here hx rfl (hb hby d3_42) rfl (tlt hc25).2.2.2 ?_
            show Steps p.tables e below (s₁.setTop (mkF m 45 #[.val (.ref a), .val (.int q1), .val (.int q2), .val (.int (6 : Int32))] [])) _
            refine XS.aloadN X0.here hx rfl (hb hby d3_45) rfl rfl ?_
            show Steps p.tables e below (s₁.setTop (mkF m 46 #[.val (.ref a), .val (.int q1), .val (.int q2), .val (.int (6 : Int32))] [(.ref a)])) _
            refine XS.iloadN X0.here hx rfl (hb hby d3_46) rfl ?_
            show Steps p.tables e below (s₁.setTop (mkF m 47 #[.val (.ref a), .val (.int q1), .val (.int q2), .val (.int (6 : Int32))] [(.int (6 : Int32)), (.ref a)])) _
            refine XS.iconst X0.here hx rfl (hb hby d3_47) ?_
            show Steps p.tables e below (s₁.setTop (mkF m 48 #[.val (.ref a), .val (.int q1), .val (.int q2), .val (.int (6 : Int32))] [(.int (2 : Int32)), (.int (6 : Int32)), (.ref a)])) _
            refine XS.isub X0.here hx rfl (hb hby d3_48) rfl ?_
            show Steps p.tables e below (s₁.setTop (mkF m 49 #[.val (.ref a), .val (.int q1), .val (.int q2), .val (.int (6 : Int32))] [(.int (4 : Int32)), (.ref a)])) _
            obtain ⟨cl27, Ar27, -, S27, N27, H27, -⟩ := id V_a
            have hin27 : ¬ ((4 : Int32) < 0 ∨ cl27.slots.size ≤ ((4 : Int32)).toNatClampNeg) := inb_of S27 ⟨by decide, by decide⟩
            have hat27 := H27.at hin27 (v := (.int c4)) rfl
            refine X0.baloadBytes hx (j := (4 : Int32)) (v := (.int c4)) (by rw [e0]; exact Ar27.1) (State.isArrayOf_alike hZ.alike Ar27.2.1) Ar27.2.2 hin27 hat27 (g := (mkF m 49 #[.val (.ref a), .val (.int q1), .val (.int q2), .val (.int (6 : Int32))] [(.int (4 : Int32)), (.ref a)])) rfl rfl (hb hby d3_49) _ ?_
            show Steps p.tables e below (s₁.setTop (mkF m 50 #[.val (.ref a), .val (.int q1), .val (.int q2), .val (.int (6 : Int32))] [(.int c4)])) _
            refine XS.bipush X0.here hx rfl (hb hby d3_50) ?_
            exact k)
          by_cases hc28 : c4 = (13 : Int32)
          · -- c4 = (13 : Int32)
            have P32 : own_Rch p.tables e below A0 (s₁.setTop (mkF m 62 #[.val (.ref a), .val (.int q1), .val (.int q2), .val (.int (6 : Int32))] [(.int (10 : Int32)), (.int c3)])) := fun t k => P29 t (by
              show Steps p.tables e below (s₁.setTop (mkF m 52 #[.val (.ref a), .val (.int q1), .val (.int q2), .val (.int (6 : Int32))] [(.int (13 : Int32)), (.int c4)])) _
              refine XS.icmpNo X0.here hx rfl (hb hby d3_52) rfl (teq hc28).2 ?_
              show Steps p.tables e below (s₁.setTop (mkF m 55 #[.val (.ref a), .val (.int q1), .val (.int q2), .val (.int (6 : Int32))] [])) _
              refine XS.aloadN X0.here hx rfl (hb hby d3_55) rfl rfl ?_
              show Steps p.tables e below (s₁.setTop (mkF m 56 #[.val (.ref a), .val (.int q1), .val (.int q2), .val (.int (6 : Int32))] [(.ref a)])) _
              refine XS.iloadN X0.here hx rfl (hb hby d3_56) rfl ?_
              show Steps p.tables e below (s₁.setTop (mkF m 57 #[.val (.ref a), .val (.int q1), .val (.int q2), .val (.int (6 : Int32))] [(.int (6 : Int32)), (.ref a)])) _
              refine XS.iconst X0.here hx rfl (hb hby d3_57) ?_
              show Steps p.tables e below (s₁.setTop (mkF m 58 #[.val (.ref a), .val (.int q1), .val (.int q2), .val (.int (6 : Int32))] [(.int (3 : Int32)), (.int (6 : Int32)), (.ref a)])) _
              refine XS.isub X0.here hx rfl (hb hby d3_58) rfl ?_
              show Steps p.tables e below (s₁.setTop (mkF m 59 #[.val (.ref a), .val (.int q1), .val (.int q2), .val (.int (6 : Int32))] [(.int (3 : Int32)), (.ref a)])) _
              obtain ⟨cl30, Ar30, -, S30, N30, H30, -⟩ := id V_a
              have hin30 : ¬ ((3 : Int32) < 0 ∨ cl30.slots.size ≤ ((3 : Int32)).toNatClampNeg) := inb_of S30 ⟨by decide, by decide⟩
              have hat30 := H30.at hin30 (v := (.int c3)) rfl
              refine X0.baloadBytes hx (j := (3 : Int32)) (v := (.int c3)) (by rw [e0]; exact Ar30.1) (State.isArrayOf_alike hZ.alike Ar30.2.1) Ar30.2.2 hin30 hat30 (g := (mkF m 59 #[.val (.ref a), .val (.int q1), .val (.int q2), .val (.int (6 : Int32))] [(.int (3 : Int32)), (.ref a)])) rfl rfl (hb hby d3_59) _ ?_
              show Steps p.tables e below (s₁.setTop (mkF m 60 #[.val (.ref a), .val (.int q1), .val (.int q2), .val (.int (6 : Int32))] [(.int c3)])) _
              refine XS.bipush X0.here hx rfl (hb hby d3_60) ?_
              exact k)
            by_cases hc31 : c3 = (10 : Int32)
            · -- c3 = (10 : Int32)
              have P33 : own_Rch p.tables e below A0 (s₁.setTop (mkF m 70 #[.val (.ref a), .val (.int q1), .val (.int q2), .val (.int (6 : Int32))] [(.int (1 : Int32))])) := fun t k => P32 t (by
                show Steps p.tables e below (s₁.setTop (mkF m 62 #[.val (.ref a), .val (.int q1), .val (.int q2), .val (.int (6 : Int32))] [(.int (10 : Int32)), (.int c3)])) _
                refine XS.icmpNo X0.here hx rfl (hb hby d3_62) rfl (teq hc31).2 ?_
                show Steps p.tables e below (s₁.setTop (mkF m 65 #[.val (.ref a), .val (.int q1), .val (.int q2), .val (.int (6 : Int32))] [])) _
                refine XS.iconst X0.here hx rfl (hb hby d3_65) ?_
                show Steps p.tables e below (s₁.setTop (mkF m 66 #[.val (.ref a), .val (.int q1), .val (.int q2), .val (.int (6 : Int32))] [(.int (1 : Int32))])) _
                refine XS.goto X0.here hx rfl (pc0 := 66) (pc' := 70) rfl (hb hby d3_66) (by decide) (by decide) ?_
                exact k)
              obtain ⟨fs, hr, hrun, hended, hW, hsame⟩ := X0.leave (v := some (.int (nar .boolean (1 : Int32)))) (fun h => by rw [Bd.returns] at h; cases h)
              refine ⟨_, _, P00 _ (P33 _ ?_), hrun, hended, _, _, rfl, ?_, ⟨_, rfl⟩, hW, hsame.mono (by decide) (by decide)⟩
              · exact retN X0 hx (t := .boolean) Bd.returns (by simp) (hb hby d3_70) hr
              · show Q3e6 Z a ka q1 q2 c0 c1 c2 c3 c4 c5 h0 n0 _ s₁.heap _
                rw [e0]
                refine ⟨?_, N0, rfl⟩
                skip
                (try simp only [own_e6, if_neg hc1, if_pos hc5, if_neg hc7, if_pos hc25, if_pos hc28, if_pos hc31])
                (try rfl)
            · -- not c3 = (10 : Int32)
              have P34 : own_Rch p.tables e below A0 (s₁.setTop (mkF m 70 #[.val (.ref a), .val (.int q1), .val (.int q2), .val (.int (6 : Int32))] [(.int (0 : Int32))])) := fun t k => P32 t (by
                show Steps p.tables e below (s₁.setTop (mkF m 62 #[.val (.ref a), .val (.int q1), .val (.int q2), .val (.int (6 : Int32))] [(.int (10 : Int32)), (.int c3)])) _
                refine XS.icmpYes X0.here hx rfl (pc0 := 62) (pc' := 69) rfl (hb hby d3_62) rfl (feq hc31).2 (by decide) (by decide) ?_
                show Steps p.tables e below (s₁.setTop (mkF m 69 #[.val (.ref a), .val (.int q1), .val (.int q2), .val (.int (6 : Int32))] [])) _
                refine XS.iconst X0.here hx rfl (hb hby d3_69) ?_
                exact k)
              obtain ⟨fs, hr, hrun, hended, hW, hsame⟩ := X0.leave (v := some (.int (nar .boolean (0 : Int32)))) (fun h => by rw [Bd.returns] at h; cases h)
              refine ⟨_, _, P00 _ (P34 _ ?_), hrun, hended, _, _, rfl, ?_, ⟨_, rfl⟩, hW, hsame.mono (by decide) (by decide)⟩
              · exact retN X0 hx (t := .boolean) Bd.returns (by simp) (hb hby d3_70) hr
              · show Q3e6 Z a ka q1 q2 c0 c1 c2 c3 c4 c5 h0 n0 _ s₁.heap _
                rw [e0]
                refine ⟨?_, N0, rfl⟩
                skip
                (try simp only [own_e6, if_neg hc1, if_pos hc5, if_neg hc7, if_pos hc25, if_pos hc28, if_neg hc31])
                (try rfl)
          · -- not c4 = (13 : Int32)
            have P35 : own_Rch p.tables e below A0 (s₁.setTop (mkF m 70 #[.val (.ref a), .val (.int q1), .val (.int q2), .val (.int (6 : Int32))] [(.int (0 : Int32))])) := fun t k => P29 t (by
              show Steps p.tables e below (s₁.setTop (mkF m 52 #[.val (.ref a), .val (.int q1), .val (.int q2), .val (.int (6 : Int32))] [(.int (13 : Int32)), (.int c4)])) _
              refine XS.icmpYes X0.here hx rfl (pc0 := 52) (pc' := 69) rfl (hb hby d3_52) rfl (feq hc28).2 (by decide) (by decide) ?_
              show Steps p.tables e below (s₁.setTop (mkF m 69 #[.val (.ref a), .val (.int q1), .val (.int q2), .val (.int (6 : Int32))] [])) _
              refine XS.iconst X0.here hx rfl (hb hby d3_69) ?_
              exact k)
            obtain ⟨fs, hr, hrun, hended, hW, hsame⟩ := X0.leave (v := some (.int (nar .boolean (0 : Int32)))) (fun h => by rw [Bd.returns] at h; cases h)
            refine ⟨_, _, P00 _ (P35 _ ?_), hrun, hended, _, _, rfl, ?_, ⟨_, rfl⟩, hW, hsame.mono (by decide) (by decide)⟩
            · exact retN X0 hx (t := .boolean) Bd.returns (by simp) (hb hby d3_70) hr
            · show Q3e6 Z a ka q1 q2 c0 c1 c2 c3 c4 c5 h0 n0 _ s₁.heap _
              rw [e0]
              refine ⟨?_, N0, rfl⟩
              skip
              (try simp only [own_e6, if_neg hc1, if_pos hc5, if_neg hc7, if_pos hc25, if_neg hc28])
              (try rfl)
        · -- not q2 < (3 : Int32)
          have P36 : own_Rch p.tables e below A0 (s₁.setTop (mkF m 70 #[.val (.ref a), .val (.int q1), .val (.int q2), .val (.int (6 : Int32))] [(.int (0 : Int32))])) := fun t k => P26 t (by
            show Steps p.tables e below (s₁.setTop (mkF m 42 #[.val (.ref a), .val (.int q1), .val (.int q2), .val (.int (6 : Int32))] [(.int q2), (.int (3 : Int32))])) _
            refine XS.icmpYes X0.here hx rfl (pc0 := 42) (pc' := 69) rfl (hb hby d3_42) rfl (flt hc25).2.2.2 (by decide) (by decide) ?_
            show Steps p.tables e below (s₁.setTop (mkF m 69 #[.val (.ref a), .val (.int q1), .val (.int q2), .val (.int (6 : Int32))] [])) _
            refine XS.iconst X0.here hx rfl (hb hby d3_69) ?_
            exact k)
          obtain ⟨fs, hr, hrun, hended, hW, hsame⟩ := X0.leave (v := some (.int (nar .boolean (0 : Int32)))) (fun h => by rw [Bd.returns] at h; cases h)
          refine ⟨_, _, P00 _ (P36 _ ?_), hrun, hended, _, _, rfl, ?_, ⟨_, rfl⟩, hW, hsame.mono (by decide) (by decide)⟩
          · exact retN X0 hx (t := .boolean) Bd.returns (by simp) (hb hby d3_70) hr
          · show Q3e6 Z a ka q1 q2 c0 c1 c2 c3 c4 c5 h0 n0 _ s₁.heap _
            rw [e0]
            refine ⟨?_, N0, rfl⟩
            skip
            (try simp only [own_e6, if_neg hc1, if_pos hc5, if_neg hc7, if_neg hc25])
            (try rfl)
    · -- not c5 = (10 : Int32)
      have P37 : own_Rch p.tables e below A0 (s₁.setTop (mkF m 18 #[.val (.ref a), .val (.int q1), .val (.int q2), .val (.int (6 : Int32))] [(.int (0 : Int32))])) := fun t k => P6 t (by
        show Steps p.tables e below (s₁.setTop (mkF m 14 #[.val (.ref a), .val (.int q1), .val (.int q2), .val (.int (6 : Int32))] [(.int (10 : Int32)), (.int c5)])) _
        refine XS.icmpNo X0.here hx rfl (hb hby d3_14) rfl (feq hc5).1 ?_
        show Steps p.tables e below (s₁.setTop (mkF m 17 #[.val (.ref a), .val (.int q1), .val (.int q2), .val (.int (6 : Int32))] [])) _
        refine XS.iconst X0.here hx rfl (hb hby d3_17) ?_
        exact k)
      obtain ⟨fs, hr, hrun, hended, hW, hsame⟩ := X0.leave (v := some (.int (nar .boolean (0 : Int32)))) (fun h => by rw [Bd.returns] at h; cases h)
      refine ⟨_, _, P00 _ (P37 _ ?_), hrun, hended, _, _, rfl, ?_, ⟨_, rfl⟩, hW, hsame.mono (by decide) (by decide)⟩
      · exact retN X0 hx (t := .boolean) Bd.returns (by simp) (hb hby d3_18) hr
      · show Q3e6 Z a ka q1 q2 c0 c1 c2 c3 c4 c5 h0 n0 _ s₁.heap _
        rw [e0]
        refine ⟨?_, N0, rfl⟩
        skip
        (try simp only [own_e6, if_neg hc1, if_neg hc5])
        (try rfl)
theorem own_of {j k : Nat} (hj : j ≤ 100) (hk : k ≤ 100) : (Int32.ofNat j < Int32.ofNat k) = (j < k) := by
  have e1 : (Int32.ofNat j).toInt = j := Int32.toInt_ofNat_of_lt (by omega)
  have e2 : (Int32.ofNat k).toInt = k := Int32.toInt_ofNat_of_lt (by omega)
  rw [Int32.lt_iff_toInt_lt, e1, e2]; simp
theorem own_nn {j : Nat} (hj : j ≤ 100) : ¬ Int32.ofNat j < 0 := by
  have e1 : (Int32.ofNat j).toInt = j := Int32.toInt_ofNat_of_lt (by omega)
  rw [Int32.lt_iff_toInt_lt, e1]; show ¬ (j : Int) < 0; omega
theorem own_add (j : Nat) : Int32.ofNat j + 1 = Int32.ofNat (j + 1) := by rw [Int32.ofNat_add]; rfl
theorem own_ix {j : Nat} (hj : j ≤ 100) : (Int32.ofNat j).toNatClampNeg = j := by
  have e1 : (Int32.ofNat j).toInt = j := Int32.toInt_ofNat_of_lt (by omega)
  simp [Int32.toNatClampNeg, e1]
theorem own_get (c0 c1 c2 c3 c4 c5 : Int32) {j : Nat} (hj : j < 6) : ([(.int c0), (.int c1), (.int c2), (.int c3), (.int c4), (.int c5)] : List Value).getD (Int32.ofNat j).toNatClampNeg (.int (0 : Int32)) = .int ([c0, c1, c2, c3, c4, c5].getD j 0) := by
  rw [own_ix (by omega)]
  match j, hj with
  | 0, _ => rfl
  | 1, _ => rfl
  | 2, _ => rfl
  | 3, _ => rfl
  | 4, _ => rfl
  | 5, _ => rfl
theorem d4_0 : decode prog_170_method_2_code 0 = .ok (.iconst 0, 1) := by decide +kernel
theorem d4_1 : decode prog_170_method_2_code 1 = .ok (.istore_n 2, 1) := by decide +kernel
theorem d4_2 : decode prog_170_method_2_code 2 = .ok (.iload_n 2, 1) := by decide +kernel
theorem d4_3 : decode prog_170_method_2_code 3 = .ok (.iload_n 1, 1) := by decide +kernel
theorem d4_4 : decode prog_170_method_2_code 4 = .ok (.if_icmp .ge 25, 3) := by decide +kernel
theorem d4_7 : decode prog_170_method_2_code 7 = .ok (.aload_n 0, 1) := by decide +kernel
theorem d4_8 : decode prog_170_method_2_code 8 = .ok (.iload_n 2, 1) := by decide +kernel
theorem d4_9 : decode prog_170_method_2_code 9 = .ok (.baload, 1) := by decide +kernel
theorem d4_10 : decode prog_170_method_2_code 10 = .ok (.bipush 13, 2) := by decide +kernel
theorem d4_12 : decode prog_170_method_2_code 12 = .ok (.if_icmp .eq 11, 3) := by decide +kernel
theorem d4_15 : decode prog_170_method_2_code 15 = .ok (.aload_n 0, 1) := by decide +kernel
theorem d4_16 : decode prog_170_method_2_code 16 = .ok (.iload_n 2, 1) := by decide +kernel
theorem d4_17 : decode prog_170_method_2_code 17 = .ok (.baload, 1) := by decide +kernel
theorem d4_18 : decode prog_170_method_2_code 18 = .ok (.bipush 10, 2) := by decide +kernel
theorem d4_20 : decode prog_170_method_2_code 20 = .ok (.if_icmp .ne 9, 3) := by decide +kernel
theorem d4_23 : decode prog_170_method_2_code 23 = .ok (.iinc 2 1, 3) := by decide +kernel
theorem d4_26 : decode prog_170_method_2_code 26 = .ok (.goto (-24), 3) := by decide +kernel
theorem d4_29 : decode prog_170_method_2_code 29 = .ok (.iconst (-1), 1) := by decide +kernel
theorem d4_30 : decode prog_170_method_2_code 30 = .ok (.istore_n 3, 1) := by decide +kernel
theorem d4_31 : decode prog_170_method_2_code 31 = .ok (.iload_n 2, 1) := by decide +kernel
theorem d4_32 : decode prog_170_method_2_code 32 = .ok (.istore 4, 2) := by decide +kernel
theorem d4_34 : decode prog_170_method_2_code 34 = .ok (.iload 4, 2) := by decide +kernel
theorem d4_36 : decode prog_170_method_2_code 36 = .ok (.iload_n 1, 1) := by decide +kernel
theorem d4_37 : decode prog_170_method_2_code 37 = .ok (.if_icmp .ge 66, 3) := by decide +kernel
theorem d4_40 : decode prog_170_method_2_code 40 = .ok (.iload_n 3, 1) := by decide +kernel
theorem d4_41 : decode prog_170_method_2_code 41 = .ok (.ifCond .ge 62, 3) := by decide +kernel
theorem d4_44 : decode prog_170_method_2_code 44 = .ok (.aload_n 0, 1) := by decide +kernel
theorem d4_45 : decode prog_170_method_2_code 45 = .ok (.iload 4, 2) := by decide +kernel
theorem d4_47 : decode prog_170_method_2_code 47 = .ok (.baload, 1) := by decide +kernel
theorem d4_48 : decode prog_170_method_2_code 48 = .ok (.bipush 10, 2) := by decide +kernel
theorem d4_50 : decode prog_170_method_2_code 50 = .ok (.if_icmp .ne 47, 3) := by decide +kernel
theorem d4_53 : decode prog_170_method_2_code 53 = .ok (.iload 4, 2) := by decide +kernel
theorem d4_55 : decode prog_170_method_2_code 55 = .ok (.iconst 1, 1) := by decide +kernel
theorem d4_56 : decode prog_170_method_2_code 56 = .ok (.iadd, 1) := by decide +kernel
theorem d4_57 : decode prog_170_method_2_code 57 = .ok (.istore 5, 2) := by decide +kernel
theorem d4_59 : decode prog_170_method_2_code 59 = .ok (.iload 5, 2) := by decide +kernel
theorem d4_61 : decode prog_170_method_2_code 61 = .ok (.iload_n 1, 1) := by decide +kernel
theorem d4_62 : decode prog_170_method_2_code 62 = .ok (.if_icmp .ge 15, 3) := by decide +kernel
theorem d4_65 : decode prog_170_method_2_code 65 = .ok (.aload_n 0, 1) := by decide +kernel
theorem d4_66 : decode prog_170_method_2_code 66 = .ok (.iload 5, 2) := by decide +kernel
theorem d4_68 : decode prog_170_method_2_code 68 = .ok (.baload, 1) := by decide +kernel
theorem d4_69 : decode prog_170_method_2_code 69 = .ok (.bipush 13, 2) := by decide +kernel
theorem d4_71 : decode prog_170_method_2_code 71 = .ok (.if_icmp .ne 6, 3) := by decide +kernel
theorem d4_74 : decode prog_170_method_2_code 74 = .ok (.iinc 5 1, 3) := by decide +kernel
theorem d4_77 : decode prog_170_method_2_code 77 = .ok (.iload 5, 2) := by decide +kernel
theorem d4_79 : decode prog_170_method_2_code 79 = .ok (.iload_n 1, 1) := by decide +kernel
theorem d4_80 : decode prog_170_method_2_code 80 = .ok (.if_icmp .ge 17, 3) := by decide +kernel
theorem d4_83 : decode prog_170_method_2_code 83 = .ok (.aload_n 0, 1) := by decide +kernel
theorem d4_84 : decode prog_170_method_2_code 84 = .ok (.iload 5, 2) := by decide +kernel
theorem d4_86 : decode prog_170_method_2_code 86 = .ok (.baload, 1) := by decide +kernel
theorem d4_87 : decode prog_170_method_2_code 87 = .ok (.bipush 10, 2) := by decide +kernel
theorem d4_89 : decode prog_170_method_2_code 89 = .ok (.if_icmp .ne 8, 3) := by decide +kernel
theorem d4_92 : decode prog_170_method_2_code 92 = .ok (.iload 5, 2) := by decide +kernel
theorem d4_94 : decode prog_170_method_2_code 94 = .ok (.iconst 1, 1) := by decide +kernel
theorem d4_95 : decode prog_170_method_2_code 95 = .ok (.iadd, 1) := by decide +kernel
theorem d4_96 : decode prog_170_method_2_code 96 = .ok (.istore_n 3, 1) := by decide +kernel
theorem d4_97 : decode prog_170_method_2_code 97 = .ok (.iinc 4 1, 3) := by decide +kernel
theorem d4_100 : decode prog_170_method_2_code 100 = .ok (.goto (-66), 3) := by decide +kernel
theorem d4_103 : decode prog_170_method_2_code 103 = .ok (.iload_n 3, 1) := by decide +kernel
theorem d4_104 : decode prog_170_method_2_code 104 = .ok (.ireturn, 1) := by decide +kernel
set_option maxRecDepth 65536 in
set_option maxHeartbeats 40000000 in
theorem sg1a {p : Program} {l : Launch} {e : Env} {R : Room} {s : State} {m : MethodId} {args' : Array Value} {below : List Frame} {meth : Method} {c : Code} {T0 : State} {locs : List Loc} {cells slots : Nat} {Z : State} {h0 : Heap} (X0 : Stand p l e R s m args' below meth c T0 locs cells slots) (hx : p.tables.exec = Jvm.exec) (hZ : Z.Warmed39 s.vm) (hby : c.code = prog_170_method_2_code) (e0 : T0.heap = h0) (a : Addr) (ka : ClassId) (c0 : Int32) (c1 : Int32) (c2 : Int32) (c3 : Int32) (c4 : Int32) (c5 : Int32) (ln : Int32) (i : Int32) (x : Int32) (V_a : Arv Z h0 a ka .byte (6 : Int32) [(.int c0), (.int c1), (.int c2), (.int c3), (.int c4), (.int c5)] (.int (0 : Int32))) (hz_x : ¬ i < 0) (hl_x : i < 6) (hu_x : ([(.int c0), (.int c1), (.int c2), (.int c3), (.int c4), (.int c5)] : List Value).getD (i).toNatClampNeg (.int (0 : Int32)) = .int x) (h1 : i < ln) (h2 : x = (13 : Int32)) :
    own_Rch p.tables e below (T0.setTop (mkF m 2 #[.val (.ref a), .val (.int ln), .val (.int i), .unset, .unset, .unset] [])) (T0.setTop (mkF m 2 #[.val (.ref a), .val (.int ln), .val (.int (i + (1 : Int32))), .unset, .unset, .unset] [])) := by
  obtain ⟨A0, hA0⟩ : ∃ A, A = T0.setTop (mkF m 2 #[.val (.ref a), .val (.int ln), .val (.int i), .unset, .unset, .unset] []) := ⟨_, rfl⟩
  have P0 : own_Rch p.tables e below A0 (T0.setTop (mkF m 2 #[.val (.ref a), .val (.int ln), .val (.int i), .unset, .unset, .unset] [])) := fun t k => hA0 ▸ k
  rw [← hA0]
  have P2 : own_Rch p.tables e below A0 (T0.setTop (mkF m 2 #[.val (.ref a), .val (.int ln), .val (.int (i + (1 : Int32))), .unset, .unset, .unset] [])) := fun t k => P0 t (by
    show Steps p.tables e below (T0.setTop (mkF m 2 #[.val (.ref a), .val (.int ln), .val (.int i), .unset, .unset, .unset] [])) _
    refine XS.iloadN X0.here hx rfl (hb hby d4_2) rfl ?_
    show Steps p.tables e below (T0.setTop (mkF m 3 #[.val (.ref a), .val (.int ln), .val (.int i), .unset, .unset, .unset] [(.int i)])) _
    refine XS.iloadN X0.here hx rfl (hb hby d4_3) rfl ?_
    show Steps p.tables e below (T0.setTop (mkF m 4 #[.val (.ref a), .val (.int ln), .val (.int i), .unset, .unset, .unset] [(.int ln), (.int i)])) _
    refine XS.icmpNo X0.here hx rfl (hb hby d4_4) rfl (tlt h1).2.1 ?_
    show Steps p.tables e below (T0.setTop (mkF m 7 #[.val (.ref a), .val (.int ln), .val (.int i), .unset, .unset, .unset] [])) _
    refine XS.aloadN X0.here hx rfl (hb hby d4_7) rfl rfl ?_
    show Steps p.tables e below (T0.setTop (mkF m 8 #[.val (.ref a), .val (.int ln), .val (.int i), .unset, .unset, .unset] [(.ref a)])) _
    refine XS.iloadN X0.here hx rfl (hb hby d4_8) rfl ?_
    show Steps p.tables e below (T0.setTop (mkF m 9 #[.val (.ref a), .val (.int ln), .val (.int i), .unset, .unset, .unset] [(.int i), (.ref a)])) _
    obtain ⟨cl1, Ar1, -, S1, N1, H1, -⟩ := id V_a
    have hin1 : ¬ (i < 0 ∨ cl1.slots.size ≤ (i).toNatClampNeg) := inb_of S1 ⟨hz_x, hl_x⟩
    have hat1 := H1.at hin1 (v := (.int x)) hu_x
    refine X0.baloadBytes hx (j := i) (v := (.int x)) (by rw [e0]; exact Ar1.1) (State.isArrayOf_alike hZ.alike Ar1.2.1) Ar1.2.2 hin1 hat1 (g := (mkF m 9 #[.val (.ref a), .val (.int ln), .val (.int i), .unset, .unset, .unset] [(.int i), (.ref a)])) rfl rfl (hb hby d4_9) _ ?_
    show Steps p.tables e below (T0.setTop (mkF m 10 #[.val (.ref a), .val (.int ln), .val (.int i), .unset, .unset, .unset] [(.int x)])) _
    refine XS.bipush X0.here hx rfl (hb hby d4_10) ?_
    show Steps p.tables e below (T0.setTop (mkF m 12 #[.val (.ref a), .val (.int ln), .val (.int i), .unset, .unset, .unset] [(.int (13 : Int32)), (.int x)])) _
    refine XS.icmpYes X0.here hx rfl (pc0 := 12) (pc' := 23) rfl (hb hby d4_12) rfl (teq h2).1 (by decide) (by decide) ?_
    show Steps p.tables e below (T0.setTop (mkF m 23 #[.val (.ref a), .val (.int ln), .val (.int i), .unset, .unset, .unset] [])) _
    refine XS.iinc X0.here hx rfl (hb hby d4_23) rfl (l' := #[.val (.ref a), .val (.int ln), .val (.int (i + (1 : Int32))), .unset, .unset, .unset]) rfl ?_
    show Steps p.tables e below (T0.setTop (mkF m 26 #[.val (.ref a), .val (.int ln), .val (.int (i + (1 : Int32))), .unset, .unset, .unset] [])) _
    refine XS.goto X0.here hx rfl (pc0 := 26) (pc' := 2) rfl (hb hby d4_26) (by decide) (by decide) ?_
    exact k)
  exact P2
set_option maxRecDepth 65536 in
set_option maxHeartbeats 40000000 in
theorem sg1b {p : Program} {l : Launch} {e : Env} {R : Room} {s : State} {m : MethodId} {args' : Array Value} {below : List Frame} {meth : Method} {c : Code} {T0 : State} {locs : List Loc} {cells slots : Nat} {Z : State} {h0 : Heap} (X0 : Stand p l e R s m args' below meth c T0 locs cells slots) (hx : p.tables.exec = Jvm.exec) (hZ : Z.Warmed39 s.vm) (hby : c.code = prog_170_method_2_code) (e0 : T0.heap = h0) (a : Addr) (ka : ClassId) (c0 : Int32) (c1 : Int32) (c2 : Int32) (c3 : Int32) (c4 : Int32) (c5 : Int32) (ln : Int32) (i : Int32) (x : Int32) (V_a : Arv Z h0 a ka .byte (6 : Int32) [(.int c0), (.int c1), (.int c2), (.int c3), (.int c4), (.int c5)] (.int (0 : Int32))) (hz_x : ¬ i < 0) (hl_x : i < 6) (hu_x : ([(.int c0), (.int c1), (.int c2), (.int c3), (.int c4), (.int c5)] : List Value).getD (i).toNatClampNeg (.int (0 : Int32)) = .int x) (h1 : i < ln) (h2 : ¬ (x = (13 : Int32))) (h3 : x = (10 : Int32)) :
    own_Rch p.tables e below (T0.setTop (mkF m 2 #[.val (.ref a), .val (.int ln), .val (.int i), .unset, .unset, .unset] [])) (T0.setTop (mkF m 2 #[.val (.ref a), .val (.int ln), .val (.int (i + (1 : Int32))), .unset, .unset, .unset] [])) := by
  obtain ⟨A0, hA0⟩ : ∃ A, A = T0.setTop (mkF m 2 #[.val (.ref a), .val (.int ln), .val (.int i), .unset, .unset, .unset] []) := ⟨_, rfl⟩
  have P0 : own_Rch p.tables e below A0 (T0.setTop (mkF m 2 #[.val (.ref a), .val (.int ln), .val (.int i), .unset, .unset, .unset] [])) := fun t k => hA0 ▸ k
  rw [← hA0]
  have P3 : own_Rch p.tables e below A0 (T0.setTop (mkF m 2 #[.val (.ref a), .val (.int ln), .val (.int (i + (1 : Int32))), .unset, .unset, .unset] [])) := fun t k => P0 t (by
    show Steps p.tables e below (T0.setTop (mkF m 2 #[.val (.ref a), .val (.int ln), .val (.int i), .unset, .unset, .unset] [])) _
    refine XS.iloadN X0.here hx rfl (hb hby d4_2) rfl ?_
    show Steps p.tables e below (T0.setTop (mkF m 3 #[.val (.ref a), .val (.int ln), .val (.int i), .unset, .unset, .unset] [(.int i)])) _
    refine XS.iloadN X0.here hx rfl (hb hby d4_3) rfl ?_
    show Steps p.tables e below (T0.setTop (mkF m 4 #[.val (.ref a), .val (.int ln), .val (.int i), .unset, .unset, .unset] [(.int ln), (.int i)])) _
    refine XS.icmpNo X0.here hx rfl (hb hby d4_4) rfl (tlt h1).2.1 ?_
    show Steps p.tables e below (T0.setTop (mkF m 7 #[.val (.ref a), .val (.int ln), .val (.int i), .unset, .unset, .unset] [])) _
    refine XS.aloadN X0.here hx rfl (hb hby d4_7) rfl rfl ?_
    show Steps p.tables e below (T0.setTop (mkF m 8 #[.val (.ref a), .val (.int ln), .val (.int i), .unset, .unset, .unset] [(.ref a)])) _
    refine XS.iloadN X0.here hx rfl (hb hby d4_8) rfl ?_
    show Steps p.tables e below (T0.setTop (mkF m 9 #[.val (.ref a), .val (.int ln), .val (.int i), .unset, .unset, .unset] [(.int i), (.ref a)])) _
    obtain ⟨cl1, Ar1, -, S1, N1, H1, -⟩ := id V_a
    have hin1 : ¬ (i < 0 ∨ cl1.slots.size ≤ (i).toNatClampNeg) := inb_of S1 ⟨hz_x, hl_x⟩
    have hat1 := H1.at hin1 (v := (.int x)) hu_x
    refine X0.baloadBytes hx (j := i) (v := (.int x)) (by rw [e0]; exact Ar1.1) (State.isArrayOf_alike hZ.alike Ar1.2.1) Ar1.2.2 hin1 hat1 (g := (mkF m 9 #[.val (.ref a), .val (.int ln), .val (.int i), .unset, .unset, .unset] [(.int i), (.ref a)])) rfl rfl (hb hby d4_9) _ ?_
    show Steps p.tables e below (T0.setTop (mkF m 10 #[.val (.ref a), .val (.int ln), .val (.int i), .unset, .unset, .unset] [(.int x)])) _
    refine XS.bipush X0.here hx rfl (hb hby d4_10) ?_
    show Steps p.tables e below (T0.setTop (mkF m 12 #[.val (.ref a), .val (.int ln), .val (.int i), .unset, .unset, .unset] [(.int (13 : Int32)), (.int x)])) _
    refine XS.icmpNo X0.here hx rfl (hb hby d4_12) rfl (feq h2).1 ?_
    show Steps p.tables e below (T0.setTop (mkF m 15 #[.val (.ref a), .val (.int ln), .val (.int i), .unset, .unset, .unset] [])) _
    refine XS.aloadN X0.here hx rfl (hb hby d4_15) rfl rfl ?_
    show Steps p.tables e below (T0.setTop (mkF m 16 #[.val (.ref a), .val (.int ln), .val (.int i), .unset, .unset, .unset] [(.ref a)])) _
    refine XS.iloadN X0.here hx rfl (hb hby d4_16) rfl ?_
    show Steps p.tables e below (T0.setTop (mkF m 17 #[.val (.ref a), .val (.int ln), .val (.int i), .unset, .unset, .unset] [(.int i), (.ref a)])) _
    obtain ⟨cl2, Ar2, -, S2, N2, H2, -⟩ := id V_a
    have hin2 : ¬ (i < 0 ∨ cl2.slots.size ≤ (i).toNatClampNeg) := inb_of S2 ⟨hz_x, hl_x⟩
    have hat2 := H2.at hin2 (v := (.int x)) hu_x
    refine X0.baloadBytes hx (j := i) (v := (.int x)) (by rw [e0]; exact Ar2.1) (State.isArrayOf_alike hZ.alike Ar2.2.1) Ar2.2.2 hin2 hat2 (g := (mkF m 17 #[.val (.ref a), .val (.int ln), .val (.int i), .unset, .unset, .unset] [(.int i), (.ref a)])) rfl rfl (hb hby d4_17) _ ?_
    show Steps p.tables e below (T0.setTop (mkF m 18 #[.val (.ref a), .val (.int ln), .val (.int i), .unset, .unset, .unset] [(.int x)])) _
    refine XS.bipush X0.here hx rfl (hb hby d4_18) ?_
    show Steps p.tables e below (T0.setTop (mkF m 20 #[.val (.ref a), .val (.int ln), .val (.int i), .unset, .unset, .unset] [(.int (10 : Int32)), (.int x)])) _
    refine XS.icmpNo X0.here hx rfl (hb hby d4_20) rfl (teq h3).2 ?_
    show Steps p.tables e below (T0.setTop (mkF m 23 #[.val (.ref a), .val (.int ln), .val (.int i), .unset, .unset, .unset] [])) _
    refine XS.iinc X0.here hx rfl (hb hby d4_23) rfl (l' := #[.val (.ref a), .val (.int ln), .val (.int (i + (1 : Int32))), .unset, .unset, .unset]) rfl ?_
    show Steps p.tables e below (T0.setTop (mkF m 26 #[.val (.ref a), .val (.int ln), .val (.int (i + (1 : Int32))), .unset, .unset, .unset] [])) _
    refine XS.goto X0.here hx rfl (pc0 := 26) (pc' := 2) rfl (hb hby d4_26) (by decide) (by decide) ?_
    exact k)
  exact P3
set_option maxRecDepth 65536 in
set_option maxHeartbeats 40000000 in
theorem sg1c {p : Program} {l : Launch} {e : Env} {R : Room} {s : State} {m : MethodId} {args' : Array Value} {below : List Frame} {meth : Method} {c : Code} {T0 : State} {locs : List Loc} {cells slots : Nat} {Z : State} {h0 : Heap} (X0 : Stand p l e R s m args' below meth c T0 locs cells slots) (hx : p.tables.exec = Jvm.exec) (hZ : Z.Warmed39 s.vm) (hby : c.code = prog_170_method_2_code) (e0 : T0.heap = h0) (a : Addr) (ka : ClassId) (c0 : Int32) (c1 : Int32) (c2 : Int32) (c3 : Int32) (c4 : Int32) (c5 : Int32) (ln : Int32) (i : Int32) (x : Int32) (V_a : Arv Z h0 a ka .byte (6 : Int32) [(.int c0), (.int c1), (.int c2), (.int c3), (.int c4), (.int c5)] (.int (0 : Int32))) (hz_x : ¬ i < 0) (hl_x : i < 6) (hu_x : ([(.int c0), (.int c1), (.int c2), (.int c3), (.int c4), (.int c5)] : List Value).getD (i).toNatClampNeg (.int (0 : Int32)) = .int x) (h1 : i < ln) (h2 : ¬ (x = (13 : Int32))) (h3 : ¬ (x = (10 : Int32))) :
    own_Rch p.tables e below (T0.setTop (mkF m 2 #[.val (.ref a), .val (.int ln), .val (.int i), .unset, .unset, .unset] [])) (T0.setTop (mkF m 29 #[.val (.ref a), .val (.int ln), .val (.int i), .unset, .unset, .unset] [])) := by
  obtain ⟨A0, hA0⟩ : ∃ A, A = T0.setTop (mkF m 2 #[.val (.ref a), .val (.int ln), .val (.int i), .unset, .unset, .unset] []) := ⟨_, rfl⟩
  have P0 : own_Rch p.tables e below A0 (T0.setTop (mkF m 2 #[.val (.ref a), .val (.int ln), .val (.int i), .unset, .unset, .unset] [])) := fun t k => hA0 ▸ k
  rw [← hA0]
  have P3 : own_Rch p.tables e below A0 (T0.setTop (mkF m 29 #[.val (.ref a), .val (.int ln), .val (.int i), .unset, .unset, .unset] [])) := fun t k => P0 t (by
    show Steps p.tables e below (T0.setTop (mkF m 2 #[.val (.ref a), .val (.int ln), .val (.int i), .unset, .unset, .unset] [])) _
    refine XS.iloadN X0.here hx rfl (hb hby d4_2) rfl ?_
    show Steps p.tables e below (T0.setTop (mkF m 3 #[.val (.ref a), .val (.int ln), .val (.int i), .unset, .unset, .unset] [(.int i)])) _
    refine XS.iloadN X0.here hx rfl (hb hby d4_3) rfl ?_
    show Steps p.tables e below (T0.setTop (mkF m 4 #[.val (.ref a), .val (.int ln), .val (.int i), .unset, .unset, .unset] [(.int ln), (.int i)])) _
    refine XS.icmpNo X0.here hx rfl (hb hby d4_4) rfl (tlt h1).2.1 ?_
    show Steps p.tables e below (T0.setTop (mkF m 7 #[.val (.ref a), .val (.int ln), .val (.int i), .unset, .unset, .unset] [])) _
    refine XS.aloadN X0.here hx rfl (hb hby d4_7) rfl rfl ?_
    show Steps p.tables e below (T0.setTop (mkF m 8 #[.val (.ref a), .val (.int ln), .val (.int i), .unset, .unset, .unset] [(.ref a)])) _
    refine XS.iloadN X0.here hx rfl (hb hby d4_8) rfl ?_
    show Steps p.tables e below (T0.setTop (mkF m 9 #[.val (.ref a), .val (.int ln), .val (.int i), .unset, .unset, .unset] [(.int i), (.ref a)])) _
    obtain ⟨cl1, Ar1, -, S1, N1, H1, -⟩ := id V_a
    have hin1 : ¬ (i < 0 ∨ cl1.slots.size ≤ (i).toNatClampNeg) := inb_of S1 ⟨hz_x, hl_x⟩
    have hat1 := H1.at hin1 (v := (.int x)) hu_x
    refine X0.baloadBytes hx (j := i) (v := (.int x)) (by rw [e0]; exact Ar1.1) (State.isArrayOf_alike hZ.alike Ar1.2.1) Ar1.2.2 hin1 hat1 (g := (mkF m 9 #[.val (.ref a), .val (.int ln), .val (.int i), .unset, .unset, .unset] [(.int i), (.ref a)])) rfl rfl (hb hby d4_9) _ ?_
    show Steps p.tables e below (T0.setTop (mkF m 10 #[.val (.ref a), .val (.int ln), .val (.int i), .unset, .unset, .unset] [(.int x)])) _
    refine XS.bipush X0.here hx rfl (hb hby d4_10) ?_
    show Steps p.tables e below (T0.setTop (mkF m 12 #[.val (.ref a), .val (.int ln), .val (.int i), .unset, .unset, .unset] [(.int (13 : Int32)), (.int x)])) _
    refine XS.icmpNo X0.here hx rfl (hb hby d4_12) rfl (feq h2).1 ?_
    show Steps p.tables e below (T0.setTop (mkF m 15 #[.val (.ref a), .val (.int ln), .val (.int i), .unset, .unset, .unset] [])) _
    refine XS.aloadN X0.here hx rfl (hb hby d4_15) rfl rfl ?_
    show Steps p.tables e below (T0.setTop (mkF m 16 #[.val (.ref a), .val (.int ln), .val (.int i), .unset, .unset, .unset] [(.ref a)])) _
    refine XS.iloadN X0.here hx rfl (hb hby d4_16) rfl ?_
    show Steps p.tables e below (T0.setTop (mkF m 17 #[.val (.ref a), .val (.int ln), .val (.int i), .unset, .unset, .unset] [(.int i), (.ref a)])) _
    obtain ⟨cl2, Ar2, -, S2, N2, H2, -⟩ := id V_a
    have hin2 : ¬ (i < 0 ∨ cl2.slots.size ≤ (i).toNatClampNeg) := inb_of S2 ⟨hz_x, hl_x⟩
    have hat2 := H2.at hin2 (v := (.int x)) hu_x
    refine X0.baloadBytes hx (j := i) (v := (.int x)) (by rw [e0]; exact Ar2.1) (State.isArrayOf_alike hZ.alike Ar2.2.1) Ar2.2.2 hin2 hat2 (g := (mkF m 17 #[.val (.ref a), .val (.int ln), .val (.int i), .unset, .unset, .unset] [(.int i), (.ref a)])) rfl rfl (hb hby d4_17) _ ?_
    show Steps p.tables e below (T0.setTop (mkF m 18 #[.val (.ref a), .val (.int ln), .val (.int i), .unset, .unset, .unset] [(.int x)])) _
    refine XS.bipush X0.here hx rfl (hb hby d4_18) ?_
    show Steps p.tables e below (T0.setTop (mkF m 20 #[.val (.ref a), .val (.int ln), .val (.int i), .unset, .unset, .unset] [(.int (10 : Int32)), (.int x)])) _
    refine XS.icmpYes X0.here hx rfl (pc0 := 20) (pc' := 29) rfl (hb hby d4_20) rfl (feq h3).2 (by decide) (by decide) ?_
    exact k)
  exact P3
set_option maxRecDepth 65536 in
set_option maxHeartbeats 40000000 in
theorem sg1d {p : Program} {l : Launch} {e : Env} {R : Room} {s : State} {m : MethodId} {args' : Array Value} {below : List Frame} {meth : Method} {c : Code} {T0 : State} {locs : List Loc} {cells slots : Nat} {Z : State} {h0 : Heap} (X0 : Stand p l e R s m args' below meth c T0 locs cells slots) (hx : p.tables.exec = Jvm.exec) (hZ : Z.Warmed39 s.vm) (hby : c.code = prog_170_method_2_code) (e0 : T0.heap = h0) (a : Addr) (ka : ClassId) (c0 : Int32) (c1 : Int32) (c2 : Int32) (c3 : Int32) (c4 : Int32) (c5 : Int32) (ln : Int32) (i : Int32) (x : Int32) (V_a : Arv Z h0 a ka .byte (6 : Int32) [(.int c0), (.int c1), (.int c2), (.int c3), (.int c4), (.int c5)] (.int (0 : Int32))) (h1 : ¬ (i < ln)) :
    own_Rch p.tables e below (T0.setTop (mkF m 2 #[.val (.ref a), .val (.int ln), .val (.int i), .unset, .unset, .unset] [])) (T0.setTop (mkF m 29 #[.val (.ref a), .val (.int ln), .val (.int i), .unset, .unset, .unset] [])) := by
  obtain ⟨A0, hA0⟩ : ∃ A, A = T0.setTop (mkF m 2 #[.val (.ref a), .val (.int ln), .val (.int i), .unset, .unset, .unset] []) := ⟨_, rfl⟩
  have P0 : own_Rch p.tables e below A0 (T0.setTop (mkF m 2 #[.val (.ref a), .val (.int ln), .val (.int i), .unset, .unset, .unset] [])) := fun t k => hA0 ▸ k
  rw [← hA0]
  have P1 : own_Rch p.tables e below A0 (T0.setTop (mkF m 29 #[.val (.ref a), .val (.int ln), .val (.int i), .unset, .unset, .unset] [])) := fun t k => P0 t (by
    show Steps p.tables e below (T0.setTop (mkF m 2 #[.val (.ref a), .val (.int ln), .val (.int i), .unset, .unset, .unset] [])) _
    refine XS.iloadN X0.here hx rfl (hb hby d4_2) rfl ?_
    show Steps p.tables e below (T0.setTop (mkF m 3 #[.val (.ref a), .val (.int ln), .val (.int i), .unset, .unset, .unset] [(.int i)])) _
    refine XS.iloadN X0.here hx rfl (hb hby d4_3) rfl ?_
    show Steps p.tables e below (T0.setTop (mkF m 4 #[.val (.ref a), .val (.int ln), .val (.int i), .unset, .unset, .unset] [(.int ln), (.int i)])) _
    refine XS.icmpYes X0.here hx rfl (pc0 := 4) (pc' := 29) rfl (hb hby d4_4) rfl (flt h1).2.1 (by decide) (by decide) ?_
    exact k)
  exact P1
set_option maxRecDepth 65536 in
set_option maxHeartbeats 40000000 in
theorem sg2au {p : Program} {l : Launch} {e : Env} {R : Room} {s : State} {m : MethodId} {args' : Array Value} {below : List Frame} {meth : Method} {c : Code} {T0 : State} {locs : List Loc} {cells slots : Nat} {Z : State} {h0 : Heap} (X0 : Stand p l e R s m args' below meth c T0 locs cells slots) (hx : p.tables.exec = Jvm.exec) (hZ : Z.Warmed39 s.vm) (hby : c.code = prog_170_method_2_code) (e0 : T0.heap = h0) (a : Addr) (ka : ClassId) (c0 : Int32) (c1 : Int32) (c2 : Int32) (c3 : Int32) (c4 : Int32) (c5 : Int32) (ln : Int32) (i2 : Int32) (r3 : Int32) (i : Int32) (x : Int32) (V_a : Arv Z h0 a ka .byte (6 : Int32) [(.int c0), (.int c1), (.int c2), (.int c3), (.int c4), (.int c5)] (.int (0 : Int32))) (h1 : ¬ (i < ln)) :
    own_Rch p.tables e below (T0.setTop (mkF m 34 #[.val (.ref a), .val (.int ln), .val (.int i2), .val (.int r3), .val (.int i), .unset] [])) (T0.setTop (mkF m 103 #[.val (.ref a), .val (.int ln), .val (.int i2), .val (.int r3), .val (.int i), .unset] [])) := by
  obtain ⟨A0, hA0⟩ : ∃ A, A = T0.setTop (mkF m 34 #[.val (.ref a), .val (.int ln), .val (.int i2), .val (.int r3), .val (.int i), .unset] []) := ⟨_, rfl⟩
  have P0 : own_Rch p.tables e below A0 (T0.setTop (mkF m 34 #[.val (.ref a), .val (.int ln), .val (.int i2), .val (.int r3), .val (.int i), .unset] [])) := fun t k => hA0 ▸ k
  rw [← hA0]
  have P1 : own_Rch p.tables e below A0 (T0.setTop (mkF m 103 #[.val (.ref a), .val (.int ln), .val (.int i2), .val (.int r3), .val (.int i), .unset] [])) := fun t k => P0 t (by
    show Steps p.tables e below (T0.setTop (mkF m 34 #[.val (.ref a), .val (.int ln), .val (.int i2), .val (.int r3), .val (.int i), .unset] [])) _
    refine XS.iload X0.here hx rfl (hb hby d4_34) rfl ?_
    show Steps p.tables e below (T0.setTop (mkF m 36 #[.val (.ref a), .val (.int ln), .val (.int i2), .val (.int r3), .val (.int i), .unset] [(.int i)])) _
    refine XS.iloadN X0.here hx rfl (hb hby d4_36) rfl ?_
    show Steps p.tables e below (T0.setTop (mkF m 37 #[.val (.ref a), .val (.int ln), .val (.int i2), .val (.int r3), .val (.int i), .unset] [(.int ln), (.int i)])) _
    refine XS.icmpYes X0.here hx rfl (pc0 := 37) (pc' := 103) rfl (hb hby d4_37) rfl (flt h1).2.1 (by decide) (by decide) ?_
    exact k)
  exact P1
set_option maxRecDepth 65536 in
set_option maxHeartbeats 40000000 in
theorem sg2bu {p : Program} {l : Launch} {e : Env} {R : Room} {s : State} {m : MethodId} {args' : Array Value} {below : List Frame} {meth : Method} {c : Code} {T0 : State} {locs : List Loc} {cells slots : Nat} {Z : State} {h0 : Heap} (X0 : Stand p l e R s m args' below meth c T0 locs cells slots) (hx : p.tables.exec = Jvm.exec) (hZ : Z.Warmed39 s.vm) (hby : c.code = prog_170_method_2_code) (e0 : T0.heap = h0) (a : Addr) (ka : ClassId) (c0 : Int32) (c1 : Int32) (c2 : Int32) (c3 : Int32) (c4 : Int32) (c5 : Int32) (ln : Int32) (i2 : Int32) (r3 : Int32) (i : Int32) (x : Int32) (V_a : Arv Z h0 a ka .byte (6 : Int32) [(.int c0), (.int c1), (.int c2), (.int c3), (.int c4), (.int c5)] (.int (0 : Int32))) (h1 : i < ln) (h2 : ¬ (r3 < (0 : Int32))) :
    own_Rch p.tables e below (T0.setTop (mkF m 34 #[.val (.ref a), .val (.int ln), .val (.int i2), .val (.int r3), .val (.int i), .unset] [])) (T0.setTop (mkF m 103 #[.val (.ref a), .val (.int ln), .val (.int i2), .val (.int r3), .val (.int i), .unset] [])) := by
  obtain ⟨A0, hA0⟩ : ∃ A, A = T0.setTop (mkF m 34 #[.val (.ref a), .val (.int ln), .val (.int i2), .val (.int r3), .val (.int i), .unset] []) := ⟨_, rfl⟩
  have P0 : own_Rch p.tables e below A0 (T0.setTop (mkF m 34 #[.val (.ref a), .val (.int ln), .val (.int i2), .val (.int r3), .val (.int i), .unset] [])) := fun t k => hA0 ▸ k
  rw [← hA0]
  have P1 : own_Rch p.tables e below A0 (T0.setTop (mkF m 103 #[.val (.ref a), .val (.int ln), .val (.int i2), .val (.int r3), .val (.int i), .unset] [])) := fun t k => P0 t (by
    show Steps p.tables e below (T0.setTop (mkF m 34 #[.val (.ref a), .val (.int ln), .val (.int i2), .val (.int r3), .val (.int i), .unset] [])) _
    refine XS.iload X0.here hx rfl (hb hby d4_34) rfl ?_
    show Steps p.tables e below (T0.setTop (mkF m 36 #[.val (.ref a), .val (.int ln), .val (.int i2), .val (.int r3), .val (.int i), .unset] [(.int i)])) _
    refine XS.iloadN X0.here hx rfl (hb hby d4_36) rfl ?_
    show Steps p.tables e below (T0.setTop (mkF m 37 #[.val (.ref a), .val (.int ln), .val (.int i2), .val (.int r3), .val (.int i), .unset] [(.int ln), (.int i)])) _
    refine XS.icmpNo X0.here hx rfl (hb hby d4_37) rfl (tlt h1).2.1 ?_
    show Steps p.tables e below (T0.setTop (mkF m 40 #[.val (.ref a), .val (.int ln), .val (.int i2), .val (.int r3), .val (.int i), .unset] [])) _
    refine XS.iloadN X0.here hx rfl (hb hby d4_40) rfl ?_
    show Steps p.tables e below (T0.setTop (mkF m 41 #[.val (.ref a), .val (.int ln), .val (.int i2), .val (.int r3), .val (.int i), .unset] [(.int r3)])) _
    refine XS.ifYes X0.here hx rfl (pc0 := 41) (pc' := 103) rfl (hb hby d4_41) rfl ((if0 _ _).trans (flt h2).2.1) (by decide) (by decide) ?_
    exact k)
  exact P1
set_option maxRecDepth 65536 in
set_option maxHeartbeats 40000000 in
theorem sg2cu {p : Program} {l : Launch} {e : Env} {R : Room} {s : State} {m : MethodId} {args' : Array Value} {below : List Frame} {meth : Method} {c : Code} {T0 : State} {locs : List Loc} {cells slots : Nat} {Z : State} {h0 : Heap} (X0 : Stand p l e R s m args' below meth c T0 locs cells slots) (hx : p.tables.exec = Jvm.exec) (hZ : Z.Warmed39 s.vm) (hby : c.code = prog_170_method_2_code) (e0 : T0.heap = h0) (a : Addr) (ka : ClassId) (c0 : Int32) (c1 : Int32) (c2 : Int32) (c3 : Int32) (c4 : Int32) (c5 : Int32) (ln : Int32) (i2 : Int32) (r3 : Int32) (i : Int32) (x : Int32) (V_a : Arv Z h0 a ka .byte (6 : Int32) [(.int c0), (.int c1), (.int c2), (.int c3), (.int c4), (.int c5)] (.int (0 : Int32))) (hz_x : ¬ i < 0) (hl_x : i < 6) (hu_x : ([(.int c0), (.int c1), (.int c2), (.int c3), (.int c4), (.int c5)] : List Value).getD (i).toNatClampNeg (.int (0 : Int32)) = .int x) (h1 : i < ln) (h2 : r3 < (0 : Int32)) (h3 : ¬ (x = (10 : Int32))) :
    own_Rch p.tables e below (T0.setTop (mkF m 34 #[.val (.ref a), .val (.int ln), .val (.int i2), .val (.int r3), .val (.int i), .unset] [])) (T0.setTop (mkF m 34 #[.val (.ref a), .val (.int ln), .val (.int i2), .val (.int r3), .val (.int (i + (1 : Int32))), .unset] [])) := by
  obtain ⟨A0, hA0⟩ : ∃ A, A = T0.setTop (mkF m 34 #[.val (.ref a), .val (.int ln), .val (.int i2), .val (.int r3), .val (.int i), .unset] []) := ⟨_, rfl⟩
  have P0 : own_Rch p.tables e below A0 (T0.setTop (mkF m 34 #[.val (.ref a), .val (.int ln), .val (.int i2), .val (.int r3), .val (.int i), .unset] [])) := fun t k => hA0 ▸ k
  rw [← hA0]
  have P2 : own_Rch p.tables e below A0 (T0.setTop (mkF m 34 #[.val (.ref a), .val (.int ln), .val (.int i2), .val (.int r3), .val (.int (i + (1 : Int32))), .unset] [])) := fun t k => P0 t (by
    show Steps p.tables e below (T0.setTop (mkF m 34 #[.val (.ref a), .val (.int ln), .val (.int i2), .val (.int r3), .val (.int i), .unset] [])) _
    refine XS.iload X0.here hx rfl (hb hby d4_34) rfl ?_
    show Steps p.tables e below (T0.setTop (mkF m 36 #[.val (.ref a), .val (.int ln), .val (.int i2), .val (.int r3), .val (.int i), .unset] [(.int i)])) _
    refine XS.iloadN X0.here hx rfl (hb hby d4_36) rfl ?_
    show Steps p.tables e below (T0.setTop (mkF m 37 #[.val (.ref a), .val (.int ln), .val (.int i2), .val (.int r3), .val (.int i), .unset] [(.int ln), (.int i)])) _
    refine XS.icmpNo X0.here hx rfl (hb hby d4_37) rfl (tlt h1).2.1 ?_
    show Steps p.tables e below (T0.setTop (mkF m 40 #[.val (.ref a), .val (.int ln), .val (.int i2), .val (.int r3), .val (.int i), .unset] [])) _
    refine XS.iloadN X0.here hx rfl (hb hby d4_40) rfl ?_
    show Steps p.tables e below (T0.setTop (mkF m 41 #[.val (.ref a), .val (.int ln), .val (.int i2), .val (.int r3), .val (.int i), .unset] [(.int r3)])) _
    refine XS.ifNo X0.here hx rfl (hb hby d4_41) rfl ((if0 _ _).trans (tlt h2).2.1) ?_
    show Steps p.tables e below (T0.setTop (mkF m 44 #[.val (.ref a), .val (.int ln), .val (.int i2), .val (.int r3), .val (.int i), .unset] [])) _
    refine XS.aloadN X0.here hx rfl (hb hby d4_44) rfl rfl ?_
    show Steps p.tables e below (T0.setTop (mkF m 45 #[.val (.ref a), .val (.int ln), .val (.int i2), .val (.int r3), .val (.int i), .unset] [(.ref a)])) _
    refine XS.iload X0.here hx rfl (hb hby d4_45) rfl ?_
    show Steps p.tables e below (T0.setTop (mkF m 47 #[.val (.ref a), .val (.int ln), .val (.int i2), .val (.int r3), .val (.int i), .unset] [(.int i), (.ref a)])) _
    obtain ⟨cl1, Ar1, -, S1, N1, H1, -⟩ := id V_a
    have hin1 : ¬ (i < 0 ∨ cl1.slots.size ≤ (i).toNatClampNeg) := inb_of S1 ⟨hz_x, hl_x⟩
    have hat1 := H1.at hin1 (v := (.int x)) hu_x
    refine X0.baloadBytes hx (j := i) (v := (.int x)) (by rw [e0]; exact Ar1.1) (State.isArrayOf_alike hZ.alike Ar1.2.1) Ar1.2.2 hin1 hat1 (g := (mkF m 47 #[.val (.ref a), .val (.int ln), .val (.int i2), .val (.int r3), .val (.int i), .unset] [(.int i), (.ref a)])) rfl rfl (hb hby d4_47) _ ?_
    show Steps p.tables e below (T0.setTop (mkF m 48 #[.val (.ref a), .val (.int ln), .val (.int i2), .val (.int r3), .val (.int i), .unset] [(.int x)])) _
    refine XS.bipush X0.here hx rfl (hb hby d4_48) ?_
    show Steps p.tables e below (T0.setTop (mkF m 50 #[.val (.ref a), .val (.int ln), .val (.int i2), .val (.int r3), .val (.int i), .unset] [(.int (10 : Int32)), (.int x)])) _
    refine XS.icmpYes X0.here hx rfl (pc0 := 50) (pc' := 97) rfl (hb hby d4_50) rfl (feq h3).2 (by decide) (by decide) ?_
    show Steps p.tables e below (T0.setTop (mkF m 97 #[.val (.ref a), .val (.int ln), .val (.int i2), .val (.int r3), .val (.int i), .unset] [])) _
    refine XS.iinc X0.here hx rfl (hb hby d4_97) rfl (l' := #[.val (.ref a), .val (.int ln), .val (.int i2), .val (.int r3), .val (.int (i + (1 : Int32))), .unset]) rfl ?_
    show Steps p.tables e below (T0.setTop (mkF m 100 #[.val (.ref a), .val (.int ln), .val (.int i2), .val (.int r3), .val (.int (i + (1 : Int32))), .unset] [])) _
    refine XS.goto X0.here hx rfl (pc0 := 100) (pc' := 34) rfl (hb hby d4_100) (by decide) (by decide) ?_
    exact k)
  exact P2
set_option maxRecDepth 65536 in
set_option maxHeartbeats 40000000 in
theorem sg2du {p : Program} {l : Launch} {e : Env} {R : Room} {s : State} {m : MethodId} {args' : Array Value} {below : List Frame} {meth : Method} {c : Code} {T0 : State} {locs : List Loc} {cells slots : Nat} {Z : State} {h0 : Heap} (X0 : Stand p l e R s m args' below meth c T0 locs cells slots) (hx : p.tables.exec = Jvm.exec) (hZ : Z.Warmed39 s.vm) (hby : c.code = prog_170_method_2_code) (e0 : T0.heap = h0) (a : Addr) (ka : ClassId) (c0 : Int32) (c1 : Int32) (c2 : Int32) (c3 : Int32) (c4 : Int32) (c5 : Int32) (ln : Int32) (i2 : Int32) (r3 : Int32) (i : Int32) (x : Int32) (V_a : Arv Z h0 a ka .byte (6 : Int32) [(.int c0), (.int c1), (.int c2), (.int c3), (.int c4), (.int c5)] (.int (0 : Int32))) (hz_x : ¬ i < 0) (hl_x : i < 6) (hu_x : ([(.int c0), (.int c1), (.int c2), (.int c3), (.int c4), (.int c5)] : List Value).getD (i).toNatClampNeg (.int (0 : Int32)) = .int x) (h1 : i < ln) (h2 : r3 < (0 : Int32)) (h3 : x = (10 : Int32)) (h4 : ¬ ((i + (1 : Int32)) < ln)) :
    own_Rch p.tables e below (T0.setTop (mkF m 34 #[.val (.ref a), .val (.int ln), .val (.int i2), .val (.int r3), .val (.int i), .unset] [])) (T0.setTop (mkF m 34 #[.val (.ref a), .val (.int ln), .val (.int i2), .val (.int r3), .val (.int (i + (1 : Int32))), .val (.int (i + (1 : Int32)))] [])) := by
  obtain ⟨A0, hA0⟩ : ∃ A, A = T0.setTop (mkF m 34 #[.val (.ref a), .val (.int ln), .val (.int i2), .val (.int r3), .val (.int i), .unset] []) := ⟨_, rfl⟩
  have P0 : own_Rch p.tables e below A0 (T0.setTop (mkF m 34 #[.val (.ref a), .val (.int ln), .val (.int i2), .val (.int r3), .val (.int i), .unset] [])) := fun t k => hA0 ▸ k
  rw [← hA0]
  have P2 : own_Rch p.tables e below A0 (T0.setTop (mkF m 34 #[.val (.ref a), .val (.int ln), .val (.int i2), .val (.int r3), .val (.int (i + (1 : Int32))), .val (.int (i + (1 : Int32)))] [])) := fun t k => P0 t (by
    show Steps p.tables e below (T0.setTop (mkF m 34 #[.val (.ref a), .val (.int ln), .val (.int i2), .val (.int r3), .val (.int i), .unset] [])) _
    refine XS.iload X0.here hx rfl (hb hby d4_34) rfl ?_
    show Steps p.tables e below (T0.setTop (mkF m 36 #[.val (.ref a), .val (.int ln), .val (.int i2), .val (.int r3), .val (.int i), .unset] [(.int i)])) _
    refine XS.iloadN X0.here hx rfl (hb hby d4_36) rfl ?_
    show Steps p.tables e below (T0.setTop (mkF m 37 #[.val (.ref a), .val (.int ln), .val (.int i2), .val (.int r3), .val (.int i), .unset] [(.int ln), (.int i)])) _
    refine XS.icmpNo X0.here hx rfl (hb hby d4_37) rfl (tlt h1).2.1 ?_
    show Steps p.tables e below (T0.setTop (mkF m 40 #[.val (.ref a), .val (.int ln), .val (.int i2), .val (.int r3), .val (.int i), .unset] [])) _
    refine XS.iloadN X0.here hx rfl (hb hby d4_40) rfl ?_
    show Steps p.tables e below (T0.setTop (mkF m 41 #[.val (.ref a), .val (.int ln), .val (.int i2), .val (.int r3), .val (.int i), .unset] [(.int r3)])) _
    refine XS.ifNo X0.here hx rfl (hb hby d4_41) rfl ((if0 _ _).trans (tlt h2).2.1) ?_
    show Steps p.tables e below (T0.setTop (mkF m 44 #[.val (.ref a), .val (.int ln), .val (.int i2), .val (.int r3), .val (.int i), .unset] [])) _
    refine XS.aloadN X0.here hx rfl (hb hby d4_44) rfl rfl ?_
    show Steps p.tables e below (T0.setTop (mkF m 45 #[.val (.ref a), .val (.int ln), .val (.int i2), .val (.int r3), .val (.int i), .unset] [(.ref a)])) _
    refine XS.iload X0.here hx rfl (hb hby d4_45) rfl ?_
    show Steps p.tables e below (T0.setTop (mkF m 47 #[.val (.ref a), .val (.int ln), .val (.int i2), .val (.int r3), .val (.int i), .unset] [(.int i), (.ref a)])) _
    obtain ⟨cl1, Ar1, -, S1, N1, H1, -⟩ := id V_a
    have hin1 : ¬ (i < 0 ∨ cl1.slots.size ≤ (i).toNatClampNeg) := inb_of S1 ⟨hz_x, hl_x⟩
    have hat1 := H1.at hin1 (v := (.int x)) hu_x
    refine X0.baloadBytes hx (j := i) (v := (.int x)) (by rw [e0]; exact Ar1.1) (State.isArrayOf_alike hZ.alike Ar1.2.1) Ar1.2.2 hin1 hat1 (g := (mkF m 47 #[.val (.ref a), .val (.int ln), .val (.int i2), .val (.int r3), .val (.int i), .unset] [(.int i), (.ref a)])) rfl rfl (hb hby d4_47) _ ?_
    show Steps p.tables e below (T0.setTop (mkF m 48 #[.val (.ref a), .val (.int ln), .val (.int i2), .val (.int r3), .val (.int i), .unset] [(.int x)])) _
    refine XS.bipush X0.here hx rfl (hb hby d4_48) ?_
    show Steps p.tables e below (T0.setTop (mkF m 50 #[.val (.ref a), .val (.int ln), .val (.int i2), .val (.int r3), .val (.int i), .unset] [(.int (10 : Int32)), (.int x)])) _
    refine XS.icmpNo X0.here hx rfl (hb hby d4_50) rfl (teq h3).2 ?_
    show Steps p.tables e below (T0.setTop (mkF m 53 #[.val (.ref a), .val (.int ln), .val (.int i2), .val (.int r3), .val (.int i), .unset] [])) _
    refine XS.iload X0.here hx rfl (hb hby d4_53) rfl ?_
    show Steps p.tables e below (T0.setTop (mkF m 55 #[.val (.ref a), .val (.int ln), .val (.int i2), .val (.int r3), .val (.int i), .unset] [(.int i)])) _
    refine XS.iconst X0.here hx rfl (hb hby d4_55) ?_
    show Steps p.tables e below (T0.setTop (mkF m 56 #[.val (.ref a), .val (.int ln), .val (.int i2), .val (.int r3), .val (.int i), .unset] [(.int (1 : Int32)), (.int i)])) _
    refine XS.iadd X0.here hx rfl (hb hby d4_56) rfl ?_
    show Steps p.tables e below (T0.setTop (mkF m 57 #[.val (.ref a), .val (.int ln), .val (.int i2), .val (.int r3), .val (.int i), .unset] [(.int (i + (1 : Int32)))])) _
    refine XS.istore X0.here hx rfl (hb hby d4_57) rfl (l' := #[.val (.ref a), .val (.int ln), .val (.int i2), .val (.int r3), .val (.int i), .val (.int (i + (1 : Int32)))]) rfl ?_
    show Steps p.tables e below (T0.setTop (mkF m 59 #[.val (.ref a), .val (.int ln), .val (.int i2), .val (.int r3), .val (.int i), .val (.int (i + (1 : Int32)))] [])) _
    refine XS.iload X0.here hx rfl (hb hby d4_59) rfl ?_
    show Steps p.tables e below (T0.setTop (mkF m 61 #[.val (.ref a), .val (.int ln), .val (.int i2), .val (.int r3), .val (.int i), .val (.int (i + (1 : Int32)))] [(.int (i + (1 : Int32)))])) _
    refine XS.iloadN X0.here hx rfl (hb hby d4_61) rfl ?_
    show Steps p.tables e below (T0.setTop (mkF m 62 #[.val (.ref a), .val (.int ln), .val (.int i2), .val (.int r3), .val (.int i), .val (.int (i + (1 : Int32)))] [(.int ln), (.int (i + (1 : Int32)))])) _
    refine XS.icmpYes X0.here hx rfl (pc0 := 62) (pc' := 77) rfl (hb hby d4_62) rfl (flt h4).2.1 (by decide) (by decide) ?_
    show Steps p.tables e below (T0.setTop (mkF m 77 #[.val (.ref a), .val (.int ln), .val (.int i2), .val (.int r3), .val (.int i), .val (.int (i + (1 : Int32)))] [])) _
    refine XS.iload X0.here hx rfl (hb hby d4_77) rfl ?_
    show Steps p.tables e below (T0.setTop (mkF m 79 #[.val (.ref a), .val (.int ln), .val (.int i2), .val (.int r3), .val (.int i), .val (.int (i + (1 : Int32)))] [(.int (i + (1 : Int32)))])) _
    refine XS.iloadN X0.here hx rfl (hb hby d4_79) rfl ?_
    show Steps p.tables e below (T0.setTop (mkF m 80 #[.val (.ref a), .val (.int ln), .val (.int i2), .val (.int r3), .val (.int i), .val (.int (i + (1 : Int32)))] [(.int ln), (.int (i + (1 : Int32)))])) _
    refine XS.icmpYes X0.here hx rfl (pc0 := 80) (pc' := 97) rfl (hb hby d4_80) rfl (flt h4).2.1 (by decide) (by decide) ?_
    show Steps p.tables e below (T0.setTop (mkF m 97 #[.val (.ref a), .val (.int ln), .val (.int i2), .val (.int r3), .val (.int i), .val (.int (i + (1 : Int32)))] [])) _
    refine XS.iinc X0.here hx rfl (hb hby d4_97) rfl (l' := #[.val (.ref a), .val (.int ln), .val (.int i2), .val (.int r3), .val (.int (i + (1 : Int32))), .val (.int (i + (1 : Int32)))]) rfl ?_
    show Steps p.tables e below (T0.setTop (mkF m 100 #[.val (.ref a), .val (.int ln), .val (.int i2), .val (.int r3), .val (.int (i + (1 : Int32))), .val (.int (i + (1 : Int32)))] [])) _
    refine XS.goto X0.here hx rfl (pc0 := 100) (pc' := 34) rfl (hb hby d4_100) (by decide) (by decide) ?_
    exact k)
  exact P2
set_option maxRecDepth 65536 in
set_option maxHeartbeats 40000000 in
theorem sg2eu {p : Program} {l : Launch} {e : Env} {R : Room} {s : State} {m : MethodId} {args' : Array Value} {below : List Frame} {meth : Method} {c : Code} {T0 : State} {locs : List Loc} {cells slots : Nat} {Z : State} {h0 : Heap} (X0 : Stand p l e R s m args' below meth c T0 locs cells slots) (hx : p.tables.exec = Jvm.exec) (hZ : Z.Warmed39 s.vm) (hby : c.code = prog_170_method_2_code) (e0 : T0.heap = h0) (a : Addr) (ka : ClassId) (c0 : Int32) (c1 : Int32) (c2 : Int32) (c3 : Int32) (c4 : Int32) (c5 : Int32) (ln : Int32) (i2 : Int32) (r3 : Int32) (i : Int32) (x : Int32) (y : Int32) (z : Int32) (V_a : Arv Z h0 a ka .byte (6 : Int32) [(.int c0), (.int c1), (.int c2), (.int c3), (.int c4), (.int c5)] (.int (0 : Int32))) (hz_x : ¬ i < 0) (hl_x : i < 6) (hu_x : ([(.int c0), (.int c1), (.int c2), (.int c3), (.int c4), (.int c5)] : List Value).getD (i).toNatClampNeg (.int (0 : Int32)) = .int x) (hz_y : ¬ (i + (1 : Int32)) < 0) (hl_y : (i + (1 : Int32)) < 6) (hu_y : ([(.int c0), (.int c1), (.int c2), (.int c3), (.int c4), (.int c5)] : List Value).getD ((i + (1 : Int32))).toNatClampNeg (.int (0 : Int32)) = .int y) (hz_z : ¬ ((i + (1 : Int32)) + (1 : Int32)) < 0) (hl_z : ((i + (1 : Int32)) + (1 : Int32)) < 6) (hu_z : ([(.int c0), (.int c1), (.int c2), (.int c3), (.int c4), (.int c5)] : List Value).getD (((i + (1 : Int32)) + (1 : Int32))).toNatClampNeg (.int (0 : Int32)) = .int z) (h1 : i < ln) (h2 : r3 < (0 : Int32)) (h3 : x = (10 : Int32)) (h4 : (i + (1 : Int32)) < ln) (h5 : y = (13 : Int32)) (h7 : ((i + (1 : Int32)) + (1 : Int32)) < ln) (h8 : z = (10 : Int32)) :
    own_Rch p.tables e below (T0.setTop (mkF m 34 #[.val (.ref a), .val (.int ln), .val (.int i2), .val (.int r3), .val (.int i), .unset] [])) (T0.setTop (mkF m 34 #[.val (.ref a), .val (.int ln), .val (.int i2), .val (.int (((i + (1 : Int32)) + (1 : Int32)) + (1 : Int32))), .val (.int (i + (1 : Int32))), .val (.int ((i + (1 : Int32)) + (1 : Int32)))] [])) := by
  obtain ⟨A0, hA0⟩ : ∃ A, A = T0.setTop (mkF m 34 #[.val (.ref a), .val (.int ln), .val (.int i2), .val (.int r3), .val (.int i), .unset] []) := ⟨_, rfl⟩
  have P0 : own_Rch p.tables e below A0 (T0.setTop (mkF m 34 #[.val (.ref a), .val (.int ln), .val (.int i2), .val (.int r3), .val (.int i), .unset] [])) := fun t k => hA0 ▸ k
  rw [← hA0]
  have P4 : own_Rch p.tables e below A0 (T0.setTop (mkF m 34 #[.val (.ref a), .val (.int ln), .val (.int i2), .val (.int (((i + (1 : Int32)) + (1 : Int32)) + (1 : Int32))), .val (.int (i + (1 : Int32))), .val (.int ((i + (1 : Int32)) + (1 : Int32)))] [])) := fun t k => P0 t (by
    show Steps p.tables e below (T0.setTop (mkF m 34 #[.val (.ref a), .val (.int ln), .val (.int i2), .val (.int r3), .val (.int i), .unset] [])) _
    refine XS.iload X0.here hx rfl (hb hby d4_34) rfl ?_
    show Steps p.tables e below (T0.setTop (mkF m 36 #[.val (.ref a), .val (.int ln), .val (.int i2), .val (.int r3), .val (.int i), .unset] [(.int i)])) _
    refine XS.iloadN X0.here hx rfl (hb hby d4_36) rfl ?_
    show Steps p.tables e below (T0.setTop (mkF m 37 #[.val (.ref a), .val (.int ln), .val (.int i2), .val (.int r3), .val (.int i), .unset] [(.int ln), (.int i)])) _
    refine XS.icmpNo X0.here hx rfl (hb hby d4_37) rfl (tlt h1).2.1 ?_
    show Steps p.tables e below (T0.setTop (mkF m 40 #[.val (.ref a), .val (.int ln), .val (.int i2), .val (.int r3), .val (.int i), .unset] [])) _
    refine XS.iloadN X0.here hx rfl (hb hby d4_40) rfl ?_
    show Steps p.tables e below (T0.setTop (mkF m 41 #[.val (.ref a), .val (.int ln), .val (.int i2), .val (.int r3), .val (.int i), .unset] [(.int r3)])) _
    refine XS.ifNo X0.here hx rfl (hb hby d4_41) rfl ((if0 _ _).trans (tlt h2).2.1) ?_
    show Steps p.tables e below (T0.setTop (mkF m 44 #[.val (.ref a), .val (.int ln), .val (.int i2), .val (.int r3), .val (.int i), .unset] [])) _
    refine XS.aloadN X0.here hx rfl (hb hby d4_44) rfl rfl ?_
    show Steps p.tables e below (T0.setTop (mkF m 45 #[.val (.ref a), .val (.int ln), .val (.int i2), .val (.int r3), .val (.int i), .unset] [(.ref a)])) _
    refine XS.iload X0.here hx rfl (hb hby d4_45) rfl ?_
    show Steps p.tables e below (T0.setTop (mkF m 47 #[.val (.ref a), .val (.int ln), .val (.int i2), .val (.int r3), .val (.int i), .unset] [(.int i), (.ref a)])) _
    obtain ⟨cl1, Ar1, -, S1, N1, H1, -⟩ := id V_a
    have hin1 : ¬ (i < 0 ∨ cl1.slots.size ≤ (i).toNatClampNeg) := inb_of S1 ⟨hz_x, hl_x⟩
    have hat1 := H1.at hin1 (v := (.int x)) hu_x
    refine X0.baloadBytes hx (j := i) (v := (.int x)) (by rw [e0]; exact Ar1.1) (State.isArrayOf_alike hZ.alike Ar1.2.1) Ar1.2.2 hin1 hat1 (g := (mkF m 47 #[.val (.ref a), .val (.int ln), .val (.int i2), .val (.int r3), .val (.int i), .unset] [(.int i), (.ref a)])) rfl rfl (hb hby d4_47) _ ?_
    show Steps p.tables e below (T0.setTop (mkF m 48 #[.val (.ref a), .val (.int ln), .val (.int i2), .val (.int r3), .val (.int i), .unset] [(.int x)])) _
    refine XS.bipush X0.here hx rfl (hb hby d4_48) ?_
    show Steps p.tables e below (T0.setTop (mkF m 50 #[.val (.ref a), .val (.int ln), .val (.int i2), .val (.int r3), .val (.int i), .unset] [(.int (10 : Int32)), (.int x)])) _
    refine XS.icmpNo X0.here hx rfl (hb hby d4_50) rfl (teq h3).2 ?_
    show Steps p.tables e below (T0.setTop (mkF m 53 #[.val (.ref a), .val (.int ln), .val (.int i2), .val (.int r3), .val (.int i), .unset] [])) _
    refine XS.iload X0.here hx rfl (hb hby d4_53) rfl ?_
    show Steps p.tables e below (T0.setTop (mkF m 55 #[.val (.ref a), .val (.int ln), .val (.int i2), .val (.int r3), .val (.int i), .unset] [(.int i)])) _
    refine XS.iconst X0.here hx rfl (hb hby d4_55) ?_
    show Steps p.tables e below (T0.setTop (mkF m 56 #[.val (.ref a), .val (.int ln), .val (.int i2), .val (.int r3), .val (.int i), .unset] [(.int (1 : Int32)), (.int i)])) _
    refine XS.iadd X0.here hx rfl (hb hby d4_56) rfl ?_
    show Steps p.tables e below (T0.setTop (mkF m 57 #[.val (.ref a), .val (.int ln), .val (.int i2), .val (.int r3), .val (.int i), .unset] [(.int (i + (1 : Int32)))])) _
    refine XS.istore X0.here hx rfl (hb hby d4_57) rfl (l' := #[.val (.ref a), .val (.int ln), .val (.int i2), .val (.int r3), .val (.int i), .val (.int (i + (1 : Int32)))]) rfl ?_
    show Steps p.tables e below (T0.setTop (mkF m 59 #[.val (.ref a), .val (.int ln), .val (.int i2), .val (.int r3), .val (.int i), .val (.int (i + (1 : Int32)))] [])) _
    refine XS.iload X0.here hx rfl (hb hby d4_59) rfl ?_
    show Steps p.tables e below (T0.setTop (mkF m 61 #[.val (.ref a), .val (.int ln), .val (.int i2), .val (.int r3), .val (.int i), .val (.int (i + (1 : Int32)))] [(.int (i + (1 : Int32)))])) _
    refine XS.iloadN X0.here hx rfl (hb hby d4_61) rfl ?_
    show Steps p.tables e below (T0.setTop (mkF m 62 #[.val (.ref a), .val (.int ln), .val (.int i2), .val (.int r3), .val (.int i), .val (.int (i + (1 : Int32)))] [(.int ln), (.int (i + (1 : Int32)))])) _
    refine XS.icmpNo X0.here hx rfl (hb hby d4_62) rfl (tlt h4).2.1 ?_
    show Steps p.tables e below (T0.setTop (mkF m 65 #[.val (.ref a), .val (.int ln), .val (.int i2), .val (.int r3), .val (.int i), .val (.int (i + (1 : Int32)))] [])) _
    refine XS.aloadN X0.here hx rfl (hb hby d4_65) rfl rfl ?_
    show Steps p.tables e below (T0.setTop (mkF m 66 #[.val (.ref a), .val (.int ln), .val (.int i2), .val (.int r3), .val (.int i), .val (.int (i + (1 : Int32)))] [(.ref a)])) _
    refine XS.iload X0.here hx rfl (hb hby d4_66) rfl ?_
    show Steps p.tables e below (T0.setTop (mkF m 68 #[.val (.ref a), .val (.int ln), .val (.int i2), .val (.int r3), .val (.int i), .val (.int (i + (1 : Int32)))] [(.int (i + (1 : Int32))), (.ref a)])) _
    obtain ⟨cl2, Ar2, -, S2, N2, H2, -⟩ := id V_a
    have hin2 : ¬ ((i + (1 : Int32)) < 0 ∨ cl2.slots.size ≤ ((i + (1 : Int32))).toNatClampNeg) := inb_of S2 ⟨hz_y, hl_y⟩
    have hat2 := H2.at hin2 (v := (.int y)) hu_y
    refine X0.baloadBytes hx (j := (i + (1 : Int32))) (v := (.int y)) (by rw [e0]; exact Ar2.1) (State.isArrayOf_alike hZ.alike Ar2.2.1) Ar2.2.2 hin2 hat2 (g := (mkF m 68 #[.val (.ref a), .val (.int ln), .val (.int i2), .val (.int r3), .val (.int i), .val (.int (i + (1 : Int32)))] [(.int (i + (1 : Int32))), (.ref a)])) rfl rfl (hb hby d4_68) _ ?_
    show Steps p.tables e below (T0.setTop (mkF m 69 #[.val (.ref a), .val (.int ln), .val (.int i2), .val (.int r3), .val (.int i), .val (.int (i + (1 : Int32)))] [(.int y)])) _
    refine XS.bipush X0.here hx rfl (hb hby d4_69) ?_
    show Steps p.tables e below (T0.setTop (mkF m 71 #[.val (.ref a), .val (.int ln), .val (.int i2), .val (.int r3), .val (.int i), .val (.int (i + (1 : Int32)))] [(.int (13 : Int32)), (.int y)])) _
    refine XS.icmpNo X0.here hx rfl (hb hby d4_71) rfl (teq h5).2 ?_
    show Steps p.tables e below (T0.setTop (mkF m 74 #[.val (.ref a), .val (.int ln), .val (.int i2), .val (.int r3), .val (.int i), .val (.int (i + (1 : Int32)))] [])) _
    refine XS.iinc X0.here hx rfl (hb hby d4_74) rfl (l' := #[.val (.ref a), .val (.int ln), .val (.int i2), .val (.int r3), .val (.int i), .val (.int ((i + (1 : Int32)) + (1 : Int32)))]) rfl ?_
    show Steps p.tables e below (T0.setTop (mkF m 77 #[.val (.ref a), .val (.int ln), .val (.int i2), .val (.int r3), .val (.int i), .val (.int ((i + (1 : Int32)) + (1 : Int32)))] [])) _
    refine XS.iload X0.here hx rfl (hb hby d4_77) rfl ?_
    show Steps p.tables e below (T0.setTop (mkF m 79 #[.val (.ref a), .val (.int ln), .val (.int i2), .val (.int r3), .val (.int i), .val (.int ((i + (1 : Int32)) + (1 : Int32)))] [(.int ((i + (1 : Int32)) + (1 : Int32)))])) _
    refine XS.iloadN X0.here hx rfl (hb hby d4_79) rfl ?_
    show Steps p.tables e below (T0.setTop (mkF m 80 #[.val (.ref a), .val (.int ln), .val (.int i2), .val (.int r3), .val (.int i), .val (.int ((i + (1 : Int32)) + (1 : Int32)))] [(.int ln), (.int ((i + (1 : Int32)) + (1 : Int32)))])) _
    refine XS.icmpNo X0.here hx rfl (hb hby d4_80) rfl (tlt h7).2.1 ?_
    show Steps p.tables e below (T0.setTop (mkF m 83 #[.val (.ref a), .val (.int ln), .val (.int i2), .val (.int r3), .val (.int i), .val (.int ((i + (1 : Int32)) + (1 : Int32)))] [])) _
    refine XS.aloadN X0.here hx rfl (hb hby d4_83) rfl rfl ?_
    show Steps p.tables e below (T0.setTop (mkF m 84 #[.val (.ref a), .val (.int ln), .val (.int i2), .val (.int r3), .val (.int i), .val (.int ((i + (1 : Int32)) + (1 : Int32)))] [(.ref a)])) _
    refine XS.iload X0.here hx rfl (hb hby d4_84) rfl ?_
    show Steps p.tables e below (T0.setTop (mkF m 86 #[.val (.ref a), .val (.int ln), .val (.int i2), .val (.int r3), .val (.int i), .val (.int ((i + (1 : Int32)) + (1 : Int32)))] [(.int ((i + (1 : Int32)) + (1 : Int32))), (.ref a)])) _
    obtain ⟨cl3, Ar3, -, S3, N3, H3, -⟩ := id V_a
    have hin3 : ¬ (((i + (1 : Int32)) + (1 : Int32)) < 0 ∨ cl3.slots.size ≤ (((i + (1 : Int32)) + (1 : Int32))).toNatClampNeg) := inb_of S3 ⟨hz_z, hl_z⟩
    have hat3 := H3.at hin3 (v := (.int z)) hu_z
    refine X0.baloadBytes hx (j := ((i + (1 : Int32)) + (1 : Int32))) (v := (.int z)) (by rw [e0]; exact Ar3.1) (State.isArrayOf_alike hZ.alike Ar3.2.1) Ar3.2.2 hin3 hat3 (g := (mkF m 86 #[.val (.ref a), .val (.int ln), .val (.int i2), .val (.int r3), .val (.int i), .val (.int ((i + (1 : Int32)) + (1 : Int32)))] [(.int ((i + (1 : Int32)) + (1 : Int32))), (.ref a)])) rfl rfl (hb hby d4_86) _ ?_
    show Steps p.tables e below (T0.setTop (mkF m 87 #[.val (.ref a), .val (.int ln), .val (.int i2), .val (.int r3), .val (.int i), .val (.int ((i + (1 : Int32)) + (1 : Int32)))] [(.int z)])) _
    refine XS.bipush X0.here hx rfl (hb hby d4_87) ?_
    show Steps p.tables e below (T0.setTop (mkF m 89 #[.val (.ref a), .val (.int ln), .val (.int i2), .val (.int r3), .val (.int i), .val (.int ((i + (1 : Int32)) + (1 : Int32)))] [(.int (10 : Int32)), (.int z)])) _
    refine XS.icmpNo X0.here hx rfl (hb hby d4_89) rfl (teq h8).2 ?_
    show Steps p.tables e below (T0.setTop (mkF m 92 #[.val (.ref a), .val (.int ln), .val (.int i2), .val (.int r3), .val (.int i), .val (.int ((i + (1 : Int32)) + (1 : Int32)))] [])) _
    refine XS.iload X0.here hx rfl (hb hby d4_92) rfl ?_
    show Steps p.tables e below (T0.setTop (mkF m 94 #[.val (.ref a), .val (.int ln), .val (.int i2), .val (.int r3), .val (.int i), .val (.int ((i + (1 : Int32)) + (1 : Int32)))] [(.int ((i + (1 : Int32)) + (1 : Int32)))])) _
    refine XS.iconst X0.here hx rfl (hb hby d4_94) ?_
    show Steps p.tables e below (T0.setTop (mkF m 95 #[.val (.ref a), .val (.int ln), .val (.int i2), .val (.int r3), .val (.int i), .val (.int ((i + (1 : Int32)) + (1 : Int32)))] [(.int (1 : Int32)), (.int ((i + (1 : Int32)) + (1 : Int32)))])) _
    refine XS.iadd X0.here hx rfl (hb hby d4_95) rfl ?_
    show Steps p.tables e below (T0.setTop (mkF m 96 #[.val (.ref a), .val (.int ln), .val (.int i2), .val (.int r3), .val (.int i), .val (.int ((i + (1 : Int32)) + (1 : Int32)))] [(.int (((i + (1 : Int32)) + (1 : Int32)) + (1 : Int32)))])) _
    refine XS.istoreN X0.here hx rfl (hb hby d4_96) rfl (l' := #[.val (.ref a), .val (.int ln), .val (.int i2), .val (.int (((i + (1 : Int32)) + (1 : Int32)) + (1 : Int32))), .val (.int i), .val (.int ((i + (1 : Int32)) + (1 : Int32)))]) rfl ?_
    show Steps p.tables e below (T0.setTop (mkF m 97 #[.val (.ref a), .val (.int ln), .val (.int i2), .val (.int (((i + (1 : Int32)) + (1 : Int32)) + (1 : Int32))), .val (.int i), .val (.int ((i + (1 : Int32)) + (1 : Int32)))] [])) _
    refine XS.iinc X0.here hx rfl (hb hby d4_97) rfl (l' := #[.val (.ref a), .val (.int ln), .val (.int i2), .val (.int (((i + (1 : Int32)) + (1 : Int32)) + (1 : Int32))), .val (.int (i + (1 : Int32))), .val (.int ((i + (1 : Int32)) + (1 : Int32)))]) rfl ?_
    show Steps p.tables e below (T0.setTop (mkF m 100 #[.val (.ref a), .val (.int ln), .val (.int i2), .val (.int (((i + (1 : Int32)) + (1 : Int32)) + (1 : Int32))), .val (.int (i + (1 : Int32))), .val (.int ((i + (1 : Int32)) + (1 : Int32)))] [])) _
    refine XS.goto X0.here hx rfl (pc0 := 100) (pc' := 34) rfl (hb hby d4_100) (by decide) (by decide) ?_
    exact k)
  exact P4
set_option maxRecDepth 65536 in
set_option maxHeartbeats 40000000 in
theorem sg2fu {p : Program} {l : Launch} {e : Env} {R : Room} {s : State} {m : MethodId} {args' : Array Value} {below : List Frame} {meth : Method} {c : Code} {T0 : State} {locs : List Loc} {cells slots : Nat} {Z : State} {h0 : Heap} (X0 : Stand p l e R s m args' below meth c T0 locs cells slots) (hx : p.tables.exec = Jvm.exec) (hZ : Z.Warmed39 s.vm) (hby : c.code = prog_170_method_2_code) (e0 : T0.heap = h0) (a : Addr) (ka : ClassId) (c0 : Int32) (c1 : Int32) (c2 : Int32) (c3 : Int32) (c4 : Int32) (c5 : Int32) (ln : Int32) (i2 : Int32) (r3 : Int32) (i : Int32) (x : Int32) (y : Int32) (z : Int32) (V_a : Arv Z h0 a ka .byte (6 : Int32) [(.int c0), (.int c1), (.int c2), (.int c3), (.int c4), (.int c5)] (.int (0 : Int32))) (hz_x : ¬ i < 0) (hl_x : i < 6) (hu_x : ([(.int c0), (.int c1), (.int c2), (.int c3), (.int c4), (.int c5)] : List Value).getD (i).toNatClampNeg (.int (0 : Int32)) = .int x) (hz_y : ¬ (i + (1 : Int32)) < 0) (hl_y : (i + (1 : Int32)) < 6) (hu_y : ([(.int c0), (.int c1), (.int c2), (.int c3), (.int c4), (.int c5)] : List Value).getD ((i + (1 : Int32))).toNatClampNeg (.int (0 : Int32)) = .int y) (hz_z : ¬ ((i + (1 : Int32)) + (1 : Int32)) < 0) (hl_z : ((i + (1 : Int32)) + (1 : Int32)) < 6) (hu_z : ([(.int c0), (.int c1), (.int c2), (.int c3), (.int c4), (.int c5)] : List Value).getD (((i + (1 : Int32)) + (1 : Int32))).toNatClampNeg (.int (0 : Int32)) = .int z) (h1 : i < ln) (h2 : r3 < (0 : Int32)) (h3 : x = (10 : Int32)) (h4 : (i + (1 : Int32)) < ln) (h5 : y = (13 : Int32)) (h7 : ((i + (1 : Int32)) + (1 : Int32)) < ln) (h8 : ¬ (z = (10 : Int32))) :
    own_Rch p.tables e below (T0.setTop (mkF m 34 #[.val (.ref a), .val (.int ln), .val (.int i2), .val (.int r3), .val (.int i), .unset] [])) (T0.setTop (mkF m 34 #[.val (.ref a), .val (.int ln), .val (.int i2), .val (.int r3), .val (.int (i + (1 : Int32))), .val (.int ((i + (1 : Int32)) + (1 : Int32)))] [])) := by
  obtain ⟨A0, hA0⟩ : ∃ A, A = T0.setTop (mkF m 34 #[.val (.ref a), .val (.int ln), .val (.int i2), .val (.int r3), .val (.int i), .unset] []) := ⟨_, rfl⟩
  have P0 : own_Rch p.tables e below A0 (T0.setTop (mkF m 34 #[.val (.ref a), .val (.int ln), .val (.int i2), .val (.int r3), .val (.int i), .unset] [])) := fun t k => hA0 ▸ k
  rw [← hA0]
  have P4 : own_Rch p.tables e below A0 (T0.setTop (mkF m 34 #[.val (.ref a), .val (.int ln), .val (.int i2), .val (.int r3), .val (.int (i + (1 : Int32))), .val (.int ((i + (1 : Int32)) + (1 : Int32)))] [])) := fun t k => P0 t (by
    show Steps p.tables e below (T0.setTop (mkF m 34 #[.val (.ref a), .val (.int ln), .val (.int i2), .val (.int r3), .val (.int i), .unset] [])) _
    refine XS.iload X0.here hx rfl (hb hby d4_34) rfl ?_
    show Steps p.tables e below (T0.setTop (mkF m 36 #[.val (.ref a), .val (.int ln), .val (.int i2), .val (.int r3), .val (.int i), .unset] [(.int i)])) _
    refine XS.iloadN X0.here hx rfl (hb hby d4_36) rfl ?_
    show Steps p.tables e below (T0.setTop (mkF m 37 #[.val (.ref a), .val (.int ln), .val (.int i2), .val (.int r3), .val (.int i), .unset] [(.int ln), (.int i)])) _
    refine XS.icmpNo X0.here hx rfl (hb hby d4_37) rfl (tlt h1).2.1 ?_
    show Steps p.tables e below (T0.setTop (mkF m 40 #[.val (.ref a), .val (.int ln), .val (.int i2), .val (.int r3), .val (.int i), .unset] [])) _
    refine XS.iloadN X0.here hx rfl (hb hby d4_40) rfl ?_
    show Steps p.tables e below (T0.setTop (mkF m 41 #[.val (.ref a), .val (.int ln), .val (.int i2), .val (.int r3), .val (.int i), .unset] [(.int r3)])) _
    refine XS.ifNo X0.here hx rfl (hb hby d4_41) rfl ((if0 _ _).trans (tlt h2).2.1) ?_
    show Steps p.tables e below (T0.setTop (mkF m 44 #[.val (.ref a), .val (.int ln), .val (.int i2), .val (.int r3), .val (.int i), .unset] [])) _
    refine XS.aloadN X0.here hx rfl (hb hby d4_44) rfl rfl ?_
    show Steps p.tables e below (T0.setTop (mkF m 45 #[.val (.ref a), .val (.int ln), .val (.int i2), .val (.int r3), .val (.int i), .unset] [(.ref a)])) _
    refine XS.iload X0.here hx rfl (hb hby d4_45) rfl ?_
    show Steps p.tables e below (T0.setTop (mkF m 47 #[.val (.ref a), .val (.int ln), .val (.int i2), .val (.int r3), .val (.int i), .unset] [(.int i), (.ref a)])) _
    obtain ⟨cl1, Ar1, -, S1, N1, H1, -⟩ := id V_a
    have hin1 : ¬ (i < 0 ∨ cl1.slots.size ≤ (i).toNatClampNeg) := inb_of S1 ⟨hz_x, hl_x⟩
    have hat1 := H1.at hin1 (v := (.int x)) hu_x
    refine X0.baloadBytes hx (j := i) (v := (.int x)) (by rw [e0]; exact Ar1.1) (State.isArrayOf_alike hZ.alike Ar1.2.1) Ar1.2.2 hin1 hat1 (g := (mkF m 47 #[.val (.ref a), .val (.int ln), .val (.int i2), .val (.int r3), .val (.int i), .unset] [(.int i), (.ref a)])) rfl rfl (hb hby d4_47) _ ?_
    show Steps p.tables e below (T0.setTop (mkF m 48 #[.val (.ref a), .val (.int ln), .val (.int i2), .val (.int r3), .val (.int i), .unset] [(.int x)])) _
    refine XS.bipush X0.here hx rfl (hb hby d4_48) ?_
    show Steps p.tables e below (T0.setTop (mkF m 50 #[.val (.ref a), .val (.int ln), .val (.int i2), .val (.int r3), .val (.int i), .unset] [(.int (10 : Int32)), (.int x)])) _
    refine XS.icmpNo X0.here hx rfl (hb hby d4_50) rfl (teq h3).2 ?_
    show Steps p.tables e below (T0.setTop (mkF m 53 #[.val (.ref a), .val (.int ln), .val (.int i2), .val (.int r3), .val (.int i), .unset] [])) _
    refine XS.iload X0.here hx rfl (hb hby d4_53) rfl ?_
    show Steps p.tables e below (T0.setTop (mkF m 55 #[.val (.ref a), .val (.int ln), .val (.int i2), .val (.int r3), .val (.int i), .unset] [(.int i)])) _
    refine XS.iconst X0.here hx rfl (hb hby d4_55) ?_
    show Steps p.tables e below (T0.setTop (mkF m 56 #[.val (.ref a), .val (.int ln), .val (.int i2), .val (.int r3), .val (.int i), .unset] [(.int (1 : Int32)), (.int i)])) _
    refine XS.iadd X0.here hx rfl (hb hby d4_56) rfl ?_
    show Steps p.tables e below (T0.setTop (mkF m 57 #[.val (.ref a), .val (.int ln), .val (.int i2), .val (.int r3), .val (.int i), .unset] [(.int (i + (1 : Int32)))])) _
    refine XS.istore X0.here hx rfl (hb hby d4_57) rfl (l' := #[.val (.ref a), .val (.int ln), .val (.int i2), .val (.int r3), .val (.int i), .val (.int (i + (1 : Int32)))]) rfl ?_
    show Steps p.tables e below (T0.setTop (mkF m 59 #[.val (.ref a), .val (.int ln), .val (.int i2), .val (.int r3), .val (.int i), .val (.int (i + (1 : Int32)))] [])) _
    refine XS.iload X0.here hx rfl (hb hby d4_59) rfl ?_
    show Steps p.tables e below (T0.setTop (mkF m 61 #[.val (.ref a), .val (.int ln), .val (.int i2), .val (.int r3), .val (.int i), .val (.int (i + (1 : Int32)))] [(.int (i + (1 : Int32)))])) _
    refine XS.iloadN X0.here hx rfl (hb hby d4_61) rfl ?_
    show Steps p.tables e below (T0.setTop (mkF m 62 #[.val (.ref a), .val (.int ln), .val (.int i2), .val (.int r3), .val (.int i), .val (.int (i + (1 : Int32)))] [(.int ln), (.int (i + (1 : Int32)))])) _
    refine XS.icmpNo X0.here hx rfl (hb hby d4_62) rfl (tlt h4).2.1 ?_
    show Steps p.tables e below (T0.setTop (mkF m 65 #[.val (.ref a), .val (.int ln), .val (.int i2), .val (.int r3), .val (.int i), .val (.int (i + (1 : Int32)))] [])) _
    refine XS.aloadN X0.here hx rfl (hb hby d4_65) rfl rfl ?_
    show Steps p.tables e below (T0.setTop (mkF m 66 #[.val (.ref a), .val (.int ln), .val (.int i2), .val (.int r3), .val (.int i), .val (.int (i + (1 : Int32)))] [(.ref a)])) _
    refine XS.iload X0.here hx rfl (hb hby d4_66) rfl ?_
    show Steps p.tables e below (T0.setTop (mkF m 68 #[.val (.ref a), .val (.int ln), .val (.int i2), .val (.int r3), .val (.int i), .val (.int (i + (1 : Int32)))] [(.int (i + (1 : Int32))), (.ref a)])) _
    obtain ⟨cl2, Ar2, -, S2, N2, H2, -⟩ := id V_a
    have hin2 : ¬ ((i + (1 : Int32)) < 0 ∨ cl2.slots.size ≤ ((i + (1 : Int32))).toNatClampNeg) := inb_of S2 ⟨hz_y, hl_y⟩
    have hat2 := H2.at hin2 (v := (.int y)) hu_y
    refine X0.baloadBytes hx (j := (i + (1 : Int32))) (v := (.int y)) (by rw [e0]; exact Ar2.1) (State.isArrayOf_alike hZ.alike Ar2.2.1) Ar2.2.2 hin2 hat2 (g := (mkF m 68 #[.val (.ref a), .val (.int ln), .val (.int i2), .val (.int r3), .val (.int i), .val (.int (i + (1 : Int32)))] [(.int (i + (1 : Int32))), (.ref a)])) rfl rfl (hb hby d4_68) _ ?_
    show Steps p.tables e below (T0.setTop (mkF m 69 #[.val (.ref a), .val (.int ln), .val (.int i2), .val (.int r3), .val (.int i), .val (.int (i + (1 : Int32)))] [(.int y)])) _
    refine XS.bipush X0.here hx rfl (hb hby d4_69) ?_
    show Steps p.tables e below (T0.setTop (mkF m 71 #[.val (.ref a), .val (.int ln), .val (.int i2), .val (.int r3), .val (.int i), .val (.int (i + (1 : Int32)))] [(.int (13 : Int32)), (.int y)])) _
    refine XS.icmpNo X0.here hx rfl (hb hby d4_71) rfl (teq h5).2 ?_
    show Steps p.tables e below (T0.setTop (mkF m 74 #[.val (.ref a), .val (.int ln), .val (.int i2), .val (.int r3), .val (.int i), .val (.int (i + (1 : Int32)))] [])) _
    refine XS.iinc X0.here hx rfl (hb hby d4_74) rfl (l' := #[.val (.ref a), .val (.int ln), .val (.int i2), .val (.int r3), .val (.int i), .val (.int ((i + (1 : Int32)) + (1 : Int32)))]) rfl ?_
    show Steps p.tables e below (T0.setTop (mkF m 77 #[.val (.ref a), .val (.int ln), .val (.int i2), .val (.int r3), .val (.int i), .val (.int ((i + (1 : Int32)) + (1 : Int32)))] [])) _
    refine XS.iload X0.here hx rfl (hb hby d4_77) rfl ?_
    show Steps p.tables e below (T0.setTop (mkF m 79 #[.val (.ref a), .val (.int ln), .val (.int i2), .val (.int r3), .val (.int i), .val (.int ((i + (1 : Int32)) + (1 : Int32)))] [(.int ((i + (1 : Int32)) + (1 : Int32)))])) _
    refine XS.iloadN X0.here hx rfl (hb hby d4_79) rfl ?_
    show Steps p.tables e below (T0.setTop (mkF m 80 #[.val (.ref a), .val (.int ln), .val (.int i2), .val (.int r3), .val (.int i), .val (.int ((i + (1 : Int32)) + (1 : Int32)))] [(.int ln), (.int ((i + (1 : Int32)) + (1 : Int32)))])) _
    refine XS.icmpNo X0.here hx rfl (hb hby d4_80) rfl (tlt h7).2.1 ?_
    show Steps p.tables e below (T0.setTop (mkF m 83 #[.val (.ref a), .val (.int ln), .val (.int i2), .val (.int r3), .val (.int i), .val (.int ((i + (1 : Int32)) + (1 : Int32)))] [])) _
    refine XS.aloadN X0.here hx rfl (hb hby d4_83) rfl rfl ?_
    show Steps p.tables e below (T0.setTop (mkF m 84 #[.val (.ref a), .val (.int ln), .val (.int i2), .val (.int r3), .val (.int i), .val (.int ((i + (1 : Int32)) + (1 : Int32)))] [(.ref a)])) _
    refine XS.iload X0.here hx rfl (hb hby d4_84) rfl ?_
    show Steps p.tables e below (T0.setTop (mkF m 86 #[.val (.ref a), .val (.int ln), .val (.int i2), .val (.int r3), .val (.int i), .val (.int ((i + (1 : Int32)) + (1 : Int32)))] [(.int ((i + (1 : Int32)) + (1 : Int32))), (.ref a)])) _
    obtain ⟨cl3, Ar3, -, S3, N3, H3, -⟩ := id V_a
    have hin3 : ¬ (((i + (1 : Int32)) + (1 : Int32)) < 0 ∨ cl3.slots.size ≤ (((i + (1 : Int32)) + (1 : Int32))).toNatClampNeg) := inb_of S3 ⟨hz_z, hl_z⟩
    have hat3 := H3.at hin3 (v := (.int z)) hu_z
    refine X0.baloadBytes hx (j := ((i + (1 : Int32)) + (1 : Int32))) (v := (.int z)) (by rw [e0]; exact Ar3.1) (State.isArrayOf_alike hZ.alike Ar3.2.1) Ar3.2.2 hin3 hat3 (g := (mkF m 86 #[.val (.ref a), .val (.int ln), .val (.int i2), .val (.int r3), .val (.int i), .val (.int ((i + (1 : Int32)) + (1 : Int32)))] [(.int ((i + (1 : Int32)) + (1 : Int32))), (.ref a)])) rfl rfl (hb hby d4_86) _ ?_
    show Steps p.tables e below (T0.setTop (mkF m 87 #[.val (.ref a), .val (.int ln), .val (.int i2), .val (.int r3), .val (.int i), .val (.int ((i + (1 : Int32)) + (1 : Int32)))] [(.int z)])) _
    refine XS.bipush X0.here hx rfl (hb hby d4_87) ?_
    show Steps p.tables e below (T0.setTop (mkF m 89 #[.val (.ref a), .val (.int ln), .val (.int i2), .val (.int r3), .val (.int i), .val (.int ((i + (1 : Int32)) + (1 : Int32)))] [(.int (10 : Int32)), (.int z)])) _
    refine XS.icmpYes X0.here hx rfl (pc0 := 89) (pc' := 97) rfl (hb hby d4_89) rfl (feq h8).2 (by decide) (by decide) ?_
    show Steps p.tables e below (T0.setTop (mkF m 97 #[.val (.ref a), .val (.int ln), .val (.int i2), .val (.int r3), .val (.int i), .val (.int ((i + (1 : Int32)) + (1 : Int32)))] [])) _
    refine XS.iinc X0.here hx rfl (hb hby d4_97) rfl (l' := #[.val (.ref a), .val (.int ln), .val (.int i2), .val (.int r3), .val (.int (i + (1 : Int32))), .val (.int ((i + (1 : Int32)) + (1 : Int32)))]) rfl ?_
    show Steps p.tables e below (T0.setTop (mkF m 100 #[.val (.ref a), .val (.int ln), .val (.int i2), .val (.int r3), .val (.int (i + (1 : Int32))), .val (.int ((i + (1 : Int32)) + (1 : Int32)))] [])) _
    refine XS.goto X0.here hx rfl (pc0 := 100) (pc' := 34) rfl (hb hby d4_100) (by decide) (by decide) ?_
    exact k)
  exact P4
set_option maxRecDepth 65536 in
set_option maxHeartbeats 40000000 in
theorem sg2gu {p : Program} {l : Launch} {e : Env} {R : Room} {s : State} {m : MethodId} {args' : Array Value} {below : List Frame} {meth : Method} {c : Code} {T0 : State} {locs : List Loc} {cells slots : Nat} {Z : State} {h0 : Heap} (X0 : Stand p l e R s m args' below meth c T0 locs cells slots) (hx : p.tables.exec = Jvm.exec) (hZ : Z.Warmed39 s.vm) (hby : c.code = prog_170_method_2_code) (e0 : T0.heap = h0) (a : Addr) (ka : ClassId) (c0 : Int32) (c1 : Int32) (c2 : Int32) (c3 : Int32) (c4 : Int32) (c5 : Int32) (ln : Int32) (i2 : Int32) (r3 : Int32) (i : Int32) (x : Int32) (y : Int32) (V_a : Arv Z h0 a ka .byte (6 : Int32) [(.int c0), (.int c1), (.int c2), (.int c3), (.int c4), (.int c5)] (.int (0 : Int32))) (hz_x : ¬ i < 0) (hl_x : i < 6) (hu_x : ([(.int c0), (.int c1), (.int c2), (.int c3), (.int c4), (.int c5)] : List Value).getD (i).toNatClampNeg (.int (0 : Int32)) = .int x) (hz_y : ¬ (i + (1 : Int32)) < 0) (hl_y : (i + (1 : Int32)) < 6) (hu_y : ([(.int c0), (.int c1), (.int c2), (.int c3), (.int c4), (.int c5)] : List Value).getD ((i + (1 : Int32))).toNatClampNeg (.int (0 : Int32)) = .int y) (h1 : i < ln) (h2 : r3 < (0 : Int32)) (h3 : x = (10 : Int32)) (h4 : (i + (1 : Int32)) < ln) (h5 : y = (13 : Int32)) (h7 : ¬ (((i + (1 : Int32)) + (1 : Int32)) < ln)) :
    own_Rch p.tables e below (T0.setTop (mkF m 34 #[.val (.ref a), .val (.int ln), .val (.int i2), .val (.int r3), .val (.int i), .unset] [])) (T0.setTop (mkF m 34 #[.val (.ref a), .val (.int ln), .val (.int i2), .val (.int r3), .val (.int (i + (1 : Int32))), .val (.int ((i + (1 : Int32)) + (1 : Int32)))] [])) := by
  obtain ⟨A0, hA0⟩ : ∃ A, A = T0.setTop (mkF m 34 #[.val (.ref a), .val (.int ln), .val (.int i2), .val (.int r3), .val (.int i), .unset] []) := ⟨_, rfl⟩
  have P0 : own_Rch p.tables e below A0 (T0.setTop (mkF m 34 #[.val (.ref a), .val (.int ln), .val (.int i2), .val (.int r3), .val (.int i), .unset] [])) := fun t k => hA0 ▸ k
  rw [← hA0]
  have P3 : own_Rch p.tables e below A0 (T0.setTop (mkF m 34 #[.val (.ref a), .val (.int ln), .val (.int i2), .val (.int r3), .val (.int (i + (1 : Int32))), .val (.int ((i + (1 : Int32)) + (1 : Int32)))] [])) := fun t k => P0 t (by
    show Steps p.tables e below (T0.setTop (mkF m 34 #[.val (.ref a), .val (.int ln), .val (.int i2), .val (.int r3), .val (.int i), .unset] [])) _
    refine XS.iload X0.here hx rfl (hb hby d4_34) rfl ?_
    show Steps p.tables e below (T0.setTop (mkF m 36 #[.val (.ref a), .val (.int ln), .val (.int i2), .val (.int r3), .val (.int i), .unset] [(.int i)])) _
    refine XS.iloadN X0.here hx rfl (hb hby d4_36) rfl ?_
    show Steps p.tables e below (T0.setTop (mkF m 37 #[.val (.ref a), .val (.int ln), .val (.int i2), .val (.int r3), .val (.int i), .unset] [(.int ln), (.int i)])) _
    refine XS.icmpNo X0.here hx rfl (hb hby d4_37) rfl (tlt h1).2.1 ?_
    show Steps p.tables e below (T0.setTop (mkF m 40 #[.val (.ref a), .val (.int ln), .val (.int i2), .val (.int r3), .val (.int i), .unset] [])) _
    refine XS.iloadN X0.here hx rfl (hb hby d4_40) rfl ?_
    show Steps p.tables e below (T0.setTop (mkF m 41 #[.val (.ref a), .val (.int ln), .val (.int i2), .val (.int r3), .val (.int i), .unset] [(.int r3)])) _
    refine XS.ifNo X0.here hx rfl (hb hby d4_41) rfl ((if0 _ _).trans (tlt h2).2.1) ?_
    show Steps p.tables e below (T0.setTop (mkF m 44 #[.val (.ref a), .val (.int ln), .val (.int i2), .val (.int r3), .val (.int i), .unset] [])) _
    refine XS.aloadN X0.here hx rfl (hb hby d4_44) rfl rfl ?_
    show Steps p.tables e below (T0.setTop (mkF m 45 #[.val (.ref a), .val (.int ln), .val (.int i2), .val (.int r3), .val (.int i), .unset] [(.ref a)])) _
    refine XS.iload X0.here hx rfl (hb hby d4_45) rfl ?_
    show Steps p.tables e below (T0.setTop (mkF m 47 #[.val (.ref a), .val (.int ln), .val (.int i2), .val (.int r3), .val (.int i), .unset] [(.int i), (.ref a)])) _
    obtain ⟨cl1, Ar1, -, S1, N1, H1, -⟩ := id V_a
    have hin1 : ¬ (i < 0 ∨ cl1.slots.size ≤ (i).toNatClampNeg) := inb_of S1 ⟨hz_x, hl_x⟩
    have hat1 := H1.at hin1 (v := (.int x)) hu_x
    refine X0.baloadBytes hx (j := i) (v := (.int x)) (by rw [e0]; exact Ar1.1) (State.isArrayOf_alike hZ.alike Ar1.2.1) Ar1.2.2 hin1 hat1 (g := (mkF m 47 #[.val (.ref a), .val (.int ln), .val (.int i2), .val (.int r3), .val (.int i), .unset] [(.int i), (.ref a)])) rfl rfl (hb hby d4_47) _ ?_
    show Steps p.tables e below (T0.setTop (mkF m 48 #[.val (.ref a), .val (.int ln), .val (.int i2), .val (.int r3), .val (.int i), .unset] [(.int x)])) _
    refine XS.bipush X0.here hx rfl (hb hby d4_48) ?_
    show Steps p.tables e below (T0.setTop (mkF m 50 #[.val (.ref a), .val (.int ln), .val (.int i2), .val (.int r3), .val (.int i), .unset] [(.int (10 : Int32)), (.int x)])) _
    refine XS.icmpNo X0.here hx rfl (hb hby d4_50) rfl (teq h3).2 ?_
    show Steps p.tables e below (T0.setTop (mkF m 53 #[.val (.ref a), .val (.int ln), .val (.int i2), .val (.int r3), .val (.int i), .unset] [])) _
    refine XS.iload X0.here hx rfl (hb hby d4_53) rfl ?_
    show Steps p.tables e below (T0.setTop (mkF m 55 #[.val (.ref a), .val (.int ln), .val (.int i2), .val (.int r3), .val (.int i), .unset] [(.int i)])) _
    refine XS.iconst X0.here hx rfl (hb hby d4_55) ?_
    show Steps p.tables e below (T0.setTop (mkF m 56 #[.val (.ref a), .val (.int ln), .val (.int i2), .val (.int r3), .val (.int i), .unset] [(.int (1 : Int32)), (.int i)])) _
    refine XS.iadd X0.here hx rfl (hb hby d4_56) rfl ?_
    show Steps p.tables e below (T0.setTop (mkF m 57 #[.val (.ref a), .val (.int ln), .val (.int i2), .val (.int r3), .val (.int i), .unset] [(.int (i + (1 : Int32)))])) _
    refine XS.istore X0.here hx rfl (hb hby d4_57) rfl (l' := #[.val (.ref a), .val (.int ln), .val (.int i2), .val (.int r3), .val (.int i), .val (.int (i + (1 : Int32)))]) rfl ?_
    show Steps p.tables e below (T0.setTop (mkF m 59 #[.val (.ref a), .val (.int ln), .val (.int i2), .val (.int r3), .val (.int i), .val (.int (i + (1 : Int32)))] [])) _
    refine XS.iload X0.here hx rfl (hb hby d4_59) rfl ?_
    show Steps p.tables e below (T0.setTop (mkF m 61 #[.val (.ref a), .val (.int ln), .val (.int i2), .val (.int r3), .val (.int i), .val (.int (i + (1 : Int32)))] [(.int (i + (1 : Int32)))])) _
    refine XS.iloadN X0.here hx rfl (hb hby d4_61) rfl ?_
    show Steps p.tables e below (T0.setTop (mkF m 62 #[.val (.ref a), .val (.int ln), .val (.int i2), .val (.int r3), .val (.int i), .val (.int (i + (1 : Int32)))] [(.int ln), (.int (i + (1 : Int32)))])) _
    refine XS.icmpNo X0.here hx rfl (hb hby d4_62) rfl (tlt h4).2.1 ?_
    show Steps p.tables e below (T0.setTop (mkF m 65 #[.val (.ref a), .val (.int ln), .val (.int i2), .val (.int r3), .val (.int i), .val (.int (i + (1 : Int32)))] [])) _
    refine XS.aloadN X0.here hx rfl (hb hby d4_65) rfl rfl ?_
    show Steps p.tables e below (T0.setTop (mkF m 66 #[.val (.ref a), .val (.int ln), .val (.int i2), .val (.int r3), .val (.int i), .val (.int (i + (1 : Int32)))] [(.ref a)])) _
    refine XS.iload X0.here hx rfl (hb hby d4_66) rfl ?_
    show Steps p.tables e below (T0.setTop (mkF m 68 #[.val (.ref a), .val (.int ln), .val (.int i2), .val (.int r3), .val (.int i), .val (.int (i + (1 : Int32)))] [(.int (i + (1 : Int32))), (.ref a)])) _
    obtain ⟨cl2, Ar2, -, S2, N2, H2, -⟩ := id V_a
    have hin2 : ¬ ((i + (1 : Int32)) < 0 ∨ cl2.slots.size ≤ ((i + (1 : Int32))).toNatClampNeg) := inb_of S2 ⟨hz_y, hl_y⟩
    have hat2 := H2.at hin2 (v := (.int y)) hu_y
    refine X0.baloadBytes hx (j := (i + (1 : Int32))) (v := (.int y)) (by rw [e0]; exact Ar2.1) (State.isArrayOf_alike hZ.alike Ar2.2.1) Ar2.2.2 hin2 hat2 (g := (mkF m 68 #[.val (.ref a), .val (.int ln), .val (.int i2), .val (.int r3), .val (.int i), .val (.int (i + (1 : Int32)))] [(.int (i + (1 : Int32))), (.ref a)])) rfl rfl (hb hby d4_68) _ ?_
    show Steps p.tables e below (T0.setTop (mkF m 69 #[.val (.ref a), .val (.int ln), .val (.int i2), .val (.int r3), .val (.int i), .val (.int (i + (1 : Int32)))] [(.int y)])) _
    refine XS.bipush X0.here hx rfl (hb hby d4_69) ?_
    show Steps p.tables e below (T0.setTop (mkF m 71 #[.val (.ref a), .val (.int ln), .val (.int i2), .val (.int r3), .val (.int i), .val (.int (i + (1 : Int32)))] [(.int (13 : Int32)), (.int y)])) _
    refine XS.icmpNo X0.here hx rfl (hb hby d4_71) rfl (teq h5).2 ?_
    show Steps p.tables e below (T0.setTop (mkF m 74 #[.val (.ref a), .val (.int ln), .val (.int i2), .val (.int r3), .val (.int i), .val (.int (i + (1 : Int32)))] [])) _
    refine XS.iinc X0.here hx rfl (hb hby d4_74) rfl (l' := #[.val (.ref a), .val (.int ln), .val (.int i2), .val (.int r3), .val (.int i), .val (.int ((i + (1 : Int32)) + (1 : Int32)))]) rfl ?_
    show Steps p.tables e below (T0.setTop (mkF m 77 #[.val (.ref a), .val (.int ln), .val (.int i2), .val (.int r3), .val (.int i), .val (.int ((i + (1 : Int32)) + (1 : Int32)))] [])) _
    refine XS.iload X0.here hx rfl (hb hby d4_77) rfl ?_
    show Steps p.tables e below (T0.setTop (mkF m 79 #[.val (.ref a), .val (.int ln), .val (.int i2), .val (.int r3), .val (.int i), .val (.int ((i + (1 : Int32)) + (1 : Int32)))] [(.int ((i + (1 : Int32)) + (1 : Int32)))])) _
    refine XS.iloadN X0.here hx rfl (hb hby d4_79) rfl ?_
    show Steps p.tables e below (T0.setTop (mkF m 80 #[.val (.ref a), .val (.int ln), .val (.int i2), .val (.int r3), .val (.int i), .val (.int ((i + (1 : Int32)) + (1 : Int32)))] [(.int ln), (.int ((i + (1 : Int32)) + (1 : Int32)))])) _
    refine XS.icmpYes X0.here hx rfl (pc0 := 80) (pc' := 97) rfl (hb hby d4_80) rfl (flt h7).2.1 (by decide) (by decide) ?_
    show Steps p.tables e below (T0.setTop (mkF m 97 #[.val (.ref a), .val (.int ln), .val (.int i2), .val (.int r3), .val (.int i), .val (.int ((i + (1 : Int32)) + (1 : Int32)))] [])) _
    refine XS.iinc X0.here hx rfl (hb hby d4_97) rfl (l' := #[.val (.ref a), .val (.int ln), .val (.int i2), .val (.int r3), .val (.int (i + (1 : Int32))), .val (.int ((i + (1 : Int32)) + (1 : Int32)))]) rfl ?_
    show Steps p.tables e below (T0.setTop (mkF m 100 #[.val (.ref a), .val (.int ln), .val (.int i2), .val (.int r3), .val (.int (i + (1 : Int32))), .val (.int ((i + (1 : Int32)) + (1 : Int32)))] [])) _
    refine XS.goto X0.here hx rfl (pc0 := 100) (pc' := 34) rfl (hb hby d4_100) (by decide) (by decide) ?_
    exact k)
  exact P3
set_option maxRecDepth 65536 in
set_option maxHeartbeats 40000000 in
theorem sg2hu {p : Program} {l : Launch} {e : Env} {R : Room} {s : State} {m : MethodId} {args' : Array Value} {below : List Frame} {meth : Method} {c : Code} {T0 : State} {locs : List Loc} {cells slots : Nat} {Z : State} {h0 : Heap} (X0 : Stand p l e R s m args' below meth c T0 locs cells slots) (hx : p.tables.exec = Jvm.exec) (hZ : Z.Warmed39 s.vm) (hby : c.code = prog_170_method_2_code) (e0 : T0.heap = h0) (a : Addr) (ka : ClassId) (c0 : Int32) (c1 : Int32) (c2 : Int32) (c3 : Int32) (c4 : Int32) (c5 : Int32) (ln : Int32) (i2 : Int32) (r3 : Int32) (i : Int32) (x : Int32) (y : Int32) (V_a : Arv Z h0 a ka .byte (6 : Int32) [(.int c0), (.int c1), (.int c2), (.int c3), (.int c4), (.int c5)] (.int (0 : Int32))) (hz_x : ¬ i < 0) (hl_x : i < 6) (hu_x : ([(.int c0), (.int c1), (.int c2), (.int c3), (.int c4), (.int c5)] : List Value).getD (i).toNatClampNeg (.int (0 : Int32)) = .int x) (hz_y : ¬ (i + (1 : Int32)) < 0) (hl_y : (i + (1 : Int32)) < 6) (hu_y : ([(.int c0), (.int c1), (.int c2), (.int c3), (.int c4), (.int c5)] : List Value).getD ((i + (1 : Int32))).toNatClampNeg (.int (0 : Int32)) = .int y) (h1 : i < ln) (h2 : r3 < (0 : Int32)) (h3 : x = (10 : Int32)) (h4 : (i + (1 : Int32)) < ln) (h5 : ¬ (y = (13 : Int32))) (h6 : y = (10 : Int32)) :
    own_Rch p.tables e below (T0.setTop (mkF m 34 #[.val (.ref a), .val (.int ln), .val (.int i2), .val (.int r3), .val (.int i), .unset] [])) (T0.setTop (mkF m 34 #[.val (.ref a), .val (.int ln), .val (.int i2), .val (.int ((i + (1 : Int32)) + (1 : Int32))), .val (.int (i + (1 : Int32))), .val (.int (i + (1 : Int32)))] [])) := by
  obtain ⟨A0, hA0⟩ : ∃ A, A = T0.setTop (mkF m 34 #[.val (.ref a), .val (.int ln), .val (.int i2), .val (.int r3), .val (.int i), .unset] []) := ⟨_, rfl⟩
  have P0 : own_Rch p.tables e below A0 (T0.setTop (mkF m 34 #[.val (.ref a), .val (.int ln), .val (.int i2), .val (.int r3), .val (.int i), .unset] [])) := fun t k => hA0 ▸ k
  rw [← hA0]
  have P4 : own_Rch p.tables e below A0 (T0.setTop (mkF m 34 #[.val (.ref a), .val (.int ln), .val (.int i2), .val (.int ((i + (1 : Int32)) + (1 : Int32))), .val (.int (i + (1 : Int32))), .val (.int (i + (1 : Int32)))] [])) := fun t k => P0 t (by
    show Steps p.tables e below (T0.setTop (mkF m 34 #[.val (.ref a), .val (.int ln), .val (.int i2), .val (.int r3), .val (.int i), .unset] [])) _
    refine XS.iload X0.here hx rfl (hb hby d4_34) rfl ?_
    show Steps p.tables e below (T0.setTop (mkF m 36 #[.val (.ref a), .val (.int ln), .val (.int i2), .val (.int r3), .val (.int i), .unset] [(.int i)])) _
    refine XS.iloadN X0.here hx rfl (hb hby d4_36) rfl ?_
    show Steps p.tables e below (T0.setTop (mkF m 37 #[.val (.ref a), .val (.int ln), .val (.int i2), .val (.int r3), .val (.int i), .unset] [(.int ln), (.int i)])) _
    refine XS.icmpNo X0.here hx rfl (hb hby d4_37) rfl (tlt h1).2.1 ?_
    show Steps p.tables e below (T0.setTop (mkF m 40 #[.val (.ref a), .val (.int ln), .val (.int i2), .val (.int r3), .val (.int i), .unset] [])) _
    refine XS.iloadN X0.here hx rfl (hb hby d4_40) rfl ?_
    show Steps p.tables e below (T0.setTop (mkF m 41 #[.val (.ref a), .val (.int ln), .val (.int i2), .val (.int r3), .val (.int i), .unset] [(.int r3)])) _
    refine XS.ifNo X0.here hx rfl (hb hby d4_41) rfl ((if0 _ _).trans (tlt h2).2.1) ?_
    show Steps p.tables e below (T0.setTop (mkF m 44 #[.val (.ref a), .val (.int ln), .val (.int i2), .val (.int r3), .val (.int i), .unset] [])) _
    refine XS.aloadN X0.here hx rfl (hb hby d4_44) rfl rfl ?_
    show Steps p.tables e below (T0.setTop (mkF m 45 #[.val (.ref a), .val (.int ln), .val (.int i2), .val (.int r3), .val (.int i), .unset] [(.ref a)])) _
    refine XS.iload X0.here hx rfl (hb hby d4_45) rfl ?_
    show Steps p.tables e below (T0.setTop (mkF m 47 #[.val (.ref a), .val (.int ln), .val (.int i2), .val (.int r3), .val (.int i), .unset] [(.int i), (.ref a)])) _
    obtain ⟨cl1, Ar1, -, S1, N1, H1, -⟩ := id V_a
    have hin1 : ¬ (i < 0 ∨ cl1.slots.size ≤ (i).toNatClampNeg) := inb_of S1 ⟨hz_x, hl_x⟩
    have hat1 := H1.at hin1 (v := (.int x)) hu_x
    refine X0.baloadBytes hx (j := i) (v := (.int x)) (by rw [e0]; exact Ar1.1) (State.isArrayOf_alike hZ.alike Ar1.2.1) Ar1.2.2 hin1 hat1 (g := (mkF m 47 #[.val (.ref a), .val (.int ln), .val (.int i2), .val (.int r3), .val (.int i), .unset] [(.int i), (.ref a)])) rfl rfl (hb hby d4_47) _ ?_
    show Steps p.tables e below (T0.setTop (mkF m 48 #[.val (.ref a), .val (.int ln), .val (.int i2), .val (.int r3), .val (.int i), .unset] [(.int x)])) _
    refine XS.bipush X0.here hx rfl (hb hby d4_48) ?_
    show Steps p.tables e below (T0.setTop (mkF m 50 #[.val (.ref a), .val (.int ln), .val (.int i2), .val (.int r3), .val (.int i), .unset] [(.int (10 : Int32)), (.int x)])) _
    refine XS.icmpNo X0.here hx rfl (hb hby d4_50) rfl (teq h3).2 ?_
    show Steps p.tables e below (T0.setTop (mkF m 53 #[.val (.ref a), .val (.int ln), .val (.int i2), .val (.int r3), .val (.int i), .unset] [])) _
    refine XS.iload X0.here hx rfl (hb hby d4_53) rfl ?_
    show Steps p.tables e below (T0.setTop (mkF m 55 #[.val (.ref a), .val (.int ln), .val (.int i2), .val (.int r3), .val (.int i), .unset] [(.int i)])) _
    refine XS.iconst X0.here hx rfl (hb hby d4_55) ?_
    show Steps p.tables e below (T0.setTop (mkF m 56 #[.val (.ref a), .val (.int ln), .val (.int i2), .val (.int r3), .val (.int i), .unset] [(.int (1 : Int32)), (.int i)])) _
    refine XS.iadd X0.here hx rfl (hb hby d4_56) rfl ?_
    show Steps p.tables e below (T0.setTop (mkF m 57 #[.val (.ref a), .val (.int ln), .val (.int i2), .val (.int r3), .val (.int i), .unset] [(.int (i + (1 : Int32)))])) _
    refine XS.istore X0.here hx rfl (hb hby d4_57) rfl (l' := #[.val (.ref a), .val (.int ln), .val (.int i2), .val (.int r3), .val (.int i), .val (.int (i + (1 : Int32)))]) rfl ?_
    show Steps p.tables e below (T0.setTop (mkF m 59 #[.val (.ref a), .val (.int ln), .val (.int i2), .val (.int r3), .val (.int i), .val (.int (i + (1 : Int32)))] [])) _
    refine XS.iload X0.here hx rfl (hb hby d4_59) rfl ?_
    show Steps p.tables e below (T0.setTop (mkF m 61 #[.val (.ref a), .val (.int ln), .val (.int i2), .val (.int r3), .val (.int i), .val (.int (i + (1 : Int32)))] [(.int (i + (1 : Int32)))])) _
    refine XS.iloadN X0.here hx rfl (hb hby d4_61) rfl ?_
    show Steps p.tables e below (T0.setTop (mkF m 62 #[.val (.ref a), .val (.int ln), .val (.int i2), .val (.int r3), .val (.int i), .val (.int (i + (1 : Int32)))] [(.int ln), (.int (i + (1 : Int32)))])) _
    refine XS.icmpNo X0.here hx rfl (hb hby d4_62) rfl (tlt h4).2.1 ?_
    show Steps p.tables e below (T0.setTop (mkF m 65 #[.val (.ref a), .val (.int ln), .val (.int i2), .val (.int r3), .val (.int i), .val (.int (i + (1 : Int32)))] [])) _
    refine XS.aloadN X0.here hx rfl (hb hby d4_65) rfl rfl ?_
    show Steps p.tables e below (T0.setTop (mkF m 66 #[.val (.ref a), .val (.int ln), .val (.int i2), .val (.int r3), .val (.int i), .val (.int (i + (1 : Int32)))] [(.ref a)])) _
    refine XS.iload X0.here hx rfl (hb hby d4_66) rfl ?_
    show Steps p.tables e below (T0.setTop (mkF m 68 #[.val (.ref a), .val (.int ln), .val (.int i2), .val (.int r3), .val (.int i), .val (.int (i + (1 : Int32)))] [(.int (i + (1 : Int32))), (.ref a)])) _
    obtain ⟨cl2, Ar2, -, S2, N2, H2, -⟩ := id V_a
    have hin2 : ¬ ((i + (1 : Int32)) < 0 ∨ cl2.slots.size ≤ ((i + (1 : Int32))).toNatClampNeg) := inb_of S2 ⟨hz_y, hl_y⟩
    have hat2 := H2.at hin2 (v := (.int y)) hu_y
    refine X0.baloadBytes hx (j := (i + (1 : Int32))) (v := (.int y)) (by rw [e0]; exact Ar2.1) (State.isArrayOf_alike hZ.alike Ar2.2.1) Ar2.2.2 hin2 hat2 (g := (mkF m 68 #[.val (.ref a), .val (.int ln), .val (.int i2), .val (.int r3), .val (.int i), .val (.int (i + (1 : Int32)))] [(.int (i + (1 : Int32))), (.ref a)])) rfl rfl (hb hby d4_68) _ ?_
    show Steps p.tables e below (T0.setTop (mkF m 69 #[.val (.ref a), .val (.int ln), .val (.int i2), .val (.int r3), .val (.int i), .val (.int (i + (1 : Int32)))] [(.int y)])) _
    refine XS.bipush X0.here hx rfl (hb hby d4_69) ?_
    show Steps p.tables e below (T0.setTop (mkF m 71 #[.val (.ref a), .val (.int ln), .val (.int i2), .val (.int r3), .val (.int i), .val (.int (i + (1 : Int32)))] [(.int (13 : Int32)), (.int y)])) _
    refine XS.icmpYes X0.here hx rfl (pc0 := 71) (pc' := 77) rfl (hb hby d4_71) rfl (feq h5).2 (by decide) (by decide) ?_
    show Steps p.tables e below (T0.setTop (mkF m 77 #[.val (.ref a), .val (.int ln), .val (.int i2), .val (.int r3), .val (.int i), .val (.int (i + (1 : Int32)))] [])) _
    refine XS.iload X0.here hx rfl (hb hby d4_77) rfl ?_
    show Steps p.tables e below (T0.setTop (mkF m 79 #[.val (.ref a), .val (.int ln), .val (.int i2), .val (.int r3), .val (.int i), .val (.int (i + (1 : Int32)))] [(.int (i + (1 : Int32)))])) _
    refine XS.iloadN X0.here hx rfl (hb hby d4_79) rfl ?_
    show Steps p.tables e below (T0.setTop (mkF m 80 #[.val (.ref a), .val (.int ln), .val (.int i2), .val (.int r3), .val (.int i), .val (.int (i + (1 : Int32)))] [(.int ln), (.int (i + (1 : Int32)))])) _
    refine XS.icmpNo X0.here hx rfl (hb hby d4_80) rfl (tlt h4).2.1 ?_
    show Steps p.tables e below (T0.setTop (mkF m 83 #[.val (.ref a), .val (.int ln), .val (.int i2), .val (.int r3), .val (.int i), .val (.int (i + (1 : Int32)))] [])) _
    refine XS.aloadN X0.here hx rfl (hb hby d4_83) rfl rfl ?_
    show Steps p.tables e below (T0.setTop (mkF m 84 #[.val (.ref a), .val (.int ln), .val (.int i2), .val (.int r3), .val (.int i), .val (.int (i + (1 : Int32)))] [(.ref a)])) _
    refine XS.iload X0.here hx rfl (hb hby d4_84) rfl ?_
    show Steps p.tables e below (T0.setTop (mkF m 86 #[.val (.ref a), .val (.int ln), .val (.int i2), .val (.int r3), .val (.int i), .val (.int (i + (1 : Int32)))] [(.int (i + (1 : Int32))), (.ref a)])) _
    obtain ⟨cl3, Ar3, -, S3, N3, H3, -⟩ := id V_a
    have hin3 : ¬ ((i + (1 : Int32)) < 0 ∨ cl3.slots.size ≤ ((i + (1 : Int32))).toNatClampNeg) := inb_of S3 ⟨hz_y, hl_y⟩
    have hat3 := H3.at hin3 (v := (.int y)) hu_y
    refine X0.baloadBytes hx (j := (i + (1 : Int32))) (v := (.int y)) (by rw [e0]; exact Ar3.1) (State.isArrayOf_alike hZ.alike Ar3.2.1) Ar3.2.2 hin3 hat3 (g := (mkF m 86 #[.val (.ref a), .val (.int ln), .val (.int i2), .val (.int r3), .val (.int i), .val (.int (i + (1 : Int32)))] [(.int (i + (1 : Int32))), (.ref a)])) rfl rfl (hb hby d4_86) _ ?_
    show Steps p.tables e below (T0.setTop (mkF m 87 #[.val (.ref a), .val (.int ln), .val (.int i2), .val (.int r3), .val (.int i), .val (.int (i + (1 : Int32)))] [(.int y)])) _
    refine XS.bipush X0.here hx rfl (hb hby d4_87) ?_
    show Steps p.tables e below (T0.setTop (mkF m 89 #[.val (.ref a), .val (.int ln), .val (.int i2), .val (.int r3), .val (.int i), .val (.int (i + (1 : Int32)))] [(.int (10 : Int32)), (.int y)])) _
    refine XS.icmpNo X0.here hx rfl (hb hby d4_89) rfl (teq h6).2 ?_
    show Steps p.tables e below (T0.setTop (mkF m 92 #[.val (.ref a), .val (.int ln), .val (.int i2), .val (.int r3), .val (.int i), .val (.int (i + (1 : Int32)))] [])) _
    refine XS.iload X0.here hx rfl (hb hby d4_92) rfl ?_
    show Steps p.tables e below (T0.setTop (mkF m 94 #[.val (.ref a), .val (.int ln), .val (.int i2), .val (.int r3), .val (.int i), .val (.int (i + (1 : Int32)))] [(.int (i + (1 : Int32)))])) _
    refine XS.iconst X0.here hx rfl (hb hby d4_94) ?_
    show Steps p.tables e below (T0.setTop (mkF m 95 #[.val (.ref a), .val (.int ln), .val (.int i2), .val (.int r3), .val (.int i), .val (.int (i + (1 : Int32)))] [(.int (1 : Int32)), (.int (i + (1 : Int32)))])) _
    refine XS.iadd X0.here hx rfl (hb hby d4_95) rfl ?_
    show Steps p.tables e below (T0.setTop (mkF m 96 #[.val (.ref a), .val (.int ln), .val (.int i2), .val (.int r3), .val (.int i), .val (.int (i + (1 : Int32)))] [(.int ((i + (1 : Int32)) + (1 : Int32)))])) _
    refine XS.istoreN X0.here hx rfl (hb hby d4_96) rfl (l' := #[.val (.ref a), .val (.int ln), .val (.int i2), .val (.int ((i + (1 : Int32)) + (1 : Int32))), .val (.int i), .val (.int (i + (1 : Int32)))]) rfl ?_
    show Steps p.tables e below (T0.setTop (mkF m 97 #[.val (.ref a), .val (.int ln), .val (.int i2), .val (.int ((i + (1 : Int32)) + (1 : Int32))), .val (.int i), .val (.int (i + (1 : Int32)))] [])) _
    refine XS.iinc X0.here hx rfl (hb hby d4_97) rfl (l' := #[.val (.ref a), .val (.int ln), .val (.int i2), .val (.int ((i + (1 : Int32)) + (1 : Int32))), .val (.int (i + (1 : Int32))), .val (.int (i + (1 : Int32)))]) rfl ?_
    show Steps p.tables e below (T0.setTop (mkF m 100 #[.val (.ref a), .val (.int ln), .val (.int i2), .val (.int ((i + (1 : Int32)) + (1 : Int32))), .val (.int (i + (1 : Int32))), .val (.int (i + (1 : Int32)))] [])) _
    refine XS.goto X0.here hx rfl (pc0 := 100) (pc' := 34) rfl (hb hby d4_100) (by decide) (by decide) ?_
    exact k)
  exact P4
set_option maxRecDepth 65536 in
set_option maxHeartbeats 40000000 in
theorem sg2iu {p : Program} {l : Launch} {e : Env} {R : Room} {s : State} {m : MethodId} {args' : Array Value} {below : List Frame} {meth : Method} {c : Code} {T0 : State} {locs : List Loc} {cells slots : Nat} {Z : State} {h0 : Heap} (X0 : Stand p l e R s m args' below meth c T0 locs cells slots) (hx : p.tables.exec = Jvm.exec) (hZ : Z.Warmed39 s.vm) (hby : c.code = prog_170_method_2_code) (e0 : T0.heap = h0) (a : Addr) (ka : ClassId) (c0 : Int32) (c1 : Int32) (c2 : Int32) (c3 : Int32) (c4 : Int32) (c5 : Int32) (ln : Int32) (i2 : Int32) (r3 : Int32) (i : Int32) (x : Int32) (y : Int32) (V_a : Arv Z h0 a ka .byte (6 : Int32) [(.int c0), (.int c1), (.int c2), (.int c3), (.int c4), (.int c5)] (.int (0 : Int32))) (hz_x : ¬ i < 0) (hl_x : i < 6) (hu_x : ([(.int c0), (.int c1), (.int c2), (.int c3), (.int c4), (.int c5)] : List Value).getD (i).toNatClampNeg (.int (0 : Int32)) = .int x) (hz_y : ¬ (i + (1 : Int32)) < 0) (hl_y : (i + (1 : Int32)) < 6) (hu_y : ([(.int c0), (.int c1), (.int c2), (.int c3), (.int c4), (.int c5)] : List Value).getD ((i + (1 : Int32))).toNatClampNeg (.int (0 : Int32)) = .int y) (h1 : i < ln) (h2 : r3 < (0 : Int32)) (h3 : x = (10 : Int32)) (h4 : (i + (1 : Int32)) < ln) (h5 : ¬ (y = (13 : Int32))) (h6 : ¬ (y = (10 : Int32))) :
    own_Rch p.tables e below (T0.setTop (mkF m 34 #[.val (.ref a), .val (.int ln), .val (.int i2), .val (.int r3), .val (.int i), .unset] [])) (T0.setTop (mkF m 34 #[.val (.ref a), .val (.int ln), .val (.int i2), .val (.int r3), .val (.int (i + (1 : Int32))), .val (.int (i + (1 : Int32)))] [])) := by
  obtain ⟨A0, hA0⟩ : ∃ A, A = T0.setTop (mkF m 34 #[.val (.ref a), .val (.int ln), .val (.int i2), .val (.int r3), .val (.int i), .unset] []) := ⟨_, rfl⟩
  have P0 : own_Rch p.tables e below A0 (T0.setTop (mkF m 34 #[.val (.ref a), .val (.int ln), .val (.int i2), .val (.int r3), .val (.int i), .unset] [])) := fun t k => hA0 ▸ k
  rw [← hA0]
  have P4 : own_Rch p.tables e below A0 (T0.setTop (mkF m 34 #[.val (.ref a), .val (.int ln), .val (.int i2), .val (.int r3), .val (.int (i + (1 : Int32))), .val (.int (i + (1 : Int32)))] [])) := fun t k => P0 t (by
    show Steps p.tables e below (T0.setTop (mkF m 34 #[.val (.ref a), .val (.int ln), .val (.int i2), .val (.int r3), .val (.int i), .unset] [])) _
    refine XS.iload X0.here hx rfl (hb hby d4_34) rfl ?_
    show Steps p.tables e below (T0.setTop (mkF m 36 #[.val (.ref a), .val (.int ln), .val (.int i2), .val (.int r3), .val (.int i), .unset] [(.int i)])) _
    refine XS.iloadN X0.here hx rfl (hb hby d4_36) rfl ?_
    show Steps p.tables e below (T0.setTop (mkF m 37 #[.val (.ref a), .val (.int ln), .val (.int i2), .val (.int r3), .val (.int i), .unset] [(.int ln), (.int i)])) _
    refine XS.icmpNo X0.here hx rfl (hb hby d4_37) rfl (tlt h1).2.1 ?_
    show Steps p.tables e below (T0.setTop (mkF m 40 #[.val (.ref a), .val (.int ln), .val (.int i2), .val (.int r3), .val (.int i), .unset] [])) _
    refine XS.iloadN X0.here hx rfl (hb hby d4_40) rfl ?_
    show Steps p.tables e below (T0.setTop (mkF m 41 #[.val (.ref a), .val (.int ln), .val (.int i2), .val (.int r3), .val (.int i), .unset] [(.int r3)])) _
    refine XS.ifNo X0.here hx rfl (hb hby d4_41) rfl ((if0 _ _).trans (tlt h2).2.1) ?_
    show Steps p.tables e below (T0.setTop (mkF m 44 #[.val (.ref a), .val (.int ln), .val (.int i2), .val (.int r3), .val (.int i), .unset] [])) _
    refine XS.aloadN X0.here hx rfl (hb hby d4_44) rfl rfl ?_
    show Steps p.tables e below (T0.setTop (mkF m 45 #[.val (.ref a), .val (.int ln), .val (.int i2), .val (.int r3), .val (.int i), .unset] [(.ref a)])) _
    refine XS.iload X0.here hx rfl (hb hby d4_45) rfl ?_
    show Steps p.tables e below (T0.setTop (mkF m 47 #[.val (.ref a), .val (.int ln), .val (.int i2), .val (.int r3), .val (.int i), .unset] [(.int i), (.ref a)])) _
    obtain ⟨cl1, Ar1, -, S1, N1, H1, -⟩ := id V_a
    have hin1 : ¬ (i < 0 ∨ cl1.slots.size ≤ (i).toNatClampNeg) := inb_of S1 ⟨hz_x, hl_x⟩
    have hat1 := H1.at hin1 (v := (.int x)) hu_x
    refine X0.baloadBytes hx (j := i) (v := (.int x)) (by rw [e0]; exact Ar1.1) (State.isArrayOf_alike hZ.alike Ar1.2.1) Ar1.2.2 hin1 hat1 (g := (mkF m 47 #[.val (.ref a), .val (.int ln), .val (.int i2), .val (.int r3), .val (.int i), .unset] [(.int i), (.ref a)])) rfl rfl (hb hby d4_47) _ ?_
    show Steps p.tables e below (T0.setTop (mkF m 48 #[.val (.ref a), .val (.int ln), .val (.int i2), .val (.int r3), .val (.int i), .unset] [(.int x)])) _
    refine XS.bipush X0.here hx rfl (hb hby d4_48) ?_
    show Steps p.tables e below (T0.setTop (mkF m 50 #[.val (.ref a), .val (.int ln), .val (.int i2), .val (.int r3), .val (.int i), .unset] [(.int (10 : Int32)), (.int x)])) _
    refine XS.icmpNo X0.here hx rfl (hb hby d4_50) rfl (teq h3).2 ?_
    show Steps p.tables e below (T0.setTop (mkF m 53 #[.val (.ref a), .val (.int ln), .val (.int i2), .val (.int r3), .val (.int i), .unset] [])) _
    refine XS.iload X0.here hx rfl (hb hby d4_53) rfl ?_
    show Steps p.tables e below (T0.setTop (mkF m 55 #[.val (.ref a), .val (.int ln), .val (.int i2), .val (.int r3), .val (.int i), .unset] [(.int i)])) _
    refine XS.iconst X0.here hx rfl (hb hby d4_55) ?_
    show Steps p.tables e below (T0.setTop (mkF m 56 #[.val (.ref a), .val (.int ln), .val (.int i2), .val (.int r3), .val (.int i), .unset] [(.int (1 : Int32)), (.int i)])) _
    refine XS.iadd X0.here hx rfl (hb hby d4_56) rfl ?_
    show Steps p.tables e below (T0.setTop (mkF m 57 #[.val (.ref a), .val (.int ln), .val (.int i2), .val (.int r3), .val (.int i), .unset] [(.int (i + (1 : Int32)))])) _
    refine XS.istore X0.here hx rfl (hb hby d4_57) rfl (l' := #[.val (.ref a), .val (.int ln), .val (.int i2), .val (.int r3), .val (.int i), .val (.int (i + (1 : Int32)))]) rfl ?_
    show Steps p.tables e below (T0.setTop (mkF m 59 #[.val (.ref a), .val (.int ln), .val (.int i2), .val (.int r3), .val (.int i), .val (.int (i + (1 : Int32)))] [])) _
    refine XS.iload X0.here hx rfl (hb hby d4_59) rfl ?_
    show Steps p.tables e below (T0.setTop (mkF m 61 #[.val (.ref a), .val (.int ln), .val (.int i2), .val (.int r3), .val (.int i), .val (.int (i + (1 : Int32)))] [(.int (i + (1 : Int32)))])) _
    refine XS.iloadN X0.here hx rfl (hb hby d4_61) rfl ?_
    show Steps p.tables e below (T0.setTop (mkF m 62 #[.val (.ref a), .val (.int ln), .val (.int i2), .val (.int r3), .val (.int i), .val (.int (i + (1 : Int32)))] [(.int ln), (.int (i + (1 : Int32)))])) _
    refine XS.icmpNo X0.here hx rfl (hb hby d4_62) rfl (tlt h4).2.1 ?_
    show Steps p.tables e below (T0.setTop (mkF m 65 #[.val (.ref a), .val (.int ln), .val (.int i2), .val (.int r3), .val (.int i), .val (.int (i + (1 : Int32)))] [])) _
    refine XS.aloadN X0.here hx rfl (hb hby d4_65) rfl rfl ?_
    show Steps p.tables e below (T0.setTop (mkF m 66 #[.val (.ref a), .val (.int ln), .val (.int i2), .val (.int r3), .val (.int i), .val (.int (i + (1 : Int32)))] [(.ref a)])) _
    refine XS.iload X0.here hx rfl (hb hby d4_66) rfl ?_
    show Steps p.tables e below (T0.setTop (mkF m 68 #[.val (.ref a), .val (.int ln), .val (.int i2), .val (.int r3), .val (.int i), .val (.int (i + (1 : Int32)))] [(.int (i + (1 : Int32))), (.ref a)])) _
    obtain ⟨cl2, Ar2, -, S2, N2, H2, -⟩ := id V_a
    have hin2 : ¬ ((i + (1 : Int32)) < 0 ∨ cl2.slots.size ≤ ((i + (1 : Int32))).toNatClampNeg) := inb_of S2 ⟨hz_y, hl_y⟩
    have hat2 := H2.at hin2 (v := (.int y)) hu_y
    refine X0.baloadBytes hx (j := (i + (1 : Int32))) (v := (.int y)) (by rw [e0]; exact Ar2.1) (State.isArrayOf_alike hZ.alike Ar2.2.1) Ar2.2.2 hin2 hat2 (g := (mkF m 68 #[.val (.ref a), .val (.int ln), .val (.int i2), .val (.int r3), .val (.int i), .val (.int (i + (1 : Int32)))] [(.int (i + (1 : Int32))), (.ref a)])) rfl rfl (hb hby d4_68) _ ?_
    show Steps p.tables e below (T0.setTop (mkF m 69 #[.val (.ref a), .val (.int ln), .val (.int i2), .val (.int r3), .val (.int i), .val (.int (i + (1 : Int32)))] [(.int y)])) _
    refine XS.bipush X0.here hx rfl (hb hby d4_69) ?_
    show Steps p.tables e below (T0.setTop (mkF m 71 #[.val (.ref a), .val (.int ln), .val (.int i2), .val (.int r3), .val (.int i), .val (.int (i + (1 : Int32)))] [(.int (13 : Int32)), (.int y)])) _
    refine XS.icmpYes X0.here hx rfl (pc0 := 71) (pc' := 77) rfl (hb hby d4_71) rfl (feq h5).2 (by decide) (by decide) ?_
    show Steps p.tables e below (T0.setTop (mkF m 77 #[.val (.ref a), .val (.int ln), .val (.int i2), .val (.int r3), .val (.int i), .val (.int (i + (1 : Int32)))] [])) _
    refine XS.iload X0.here hx rfl (hb hby d4_77) rfl ?_
    show Steps p.tables e below (T0.setTop (mkF m 79 #[.val (.ref a), .val (.int ln), .val (.int i2), .val (.int r3), .val (.int i), .val (.int (i + (1 : Int32)))] [(.int (i + (1 : Int32)))])) _
    refine XS.iloadN X0.here hx rfl (hb hby d4_79) rfl ?_
    show Steps p.tables e below (T0.setTop (mkF m 80 #[.val (.ref a), .val (.int ln), .val (.int i2), .val (.int r3), .val (.int i), .val (.int (i + (1 : Int32)))] [(.int ln), (.int (i + (1 : Int32)))])) _
    refine XS.icmpNo X0.here hx rfl (hb hby d4_80) rfl (tlt h4).2.1 ?_
    show Steps p.tables e below (T0.setTop (mkF m 83 #[.val (.ref a), .val (.int ln), .val (.int i2), .val (.int r3), .val (.int i), .val (.int (i + (1 : Int32)))] [])) _
    refine XS.aloadN X0.here hx rfl (hb hby d4_83) rfl rfl ?_
    show Steps p.tables e below (T0.setTop (mkF m 84 #[.val (.ref a), .val (.int ln), .val (.int i2), .val (.int r3), .val (.int i), .val (.int (i + (1 : Int32)))] [(.ref a)])) _
    refine XS.iload X0.here hx rfl (hb hby d4_84) rfl ?_
    show Steps p.tables e below (T0.setTop (mkF m 86 #[.val (.ref a), .val (.int ln), .val (.int i2), .val (.int r3), .val (.int i), .val (.int (i + (1 : Int32)))] [(.int (i + (1 : Int32))), (.ref a)])) _
    obtain ⟨cl3, Ar3, -, S3, N3, H3, -⟩ := id V_a
    have hin3 : ¬ ((i + (1 : Int32)) < 0 ∨ cl3.slots.size ≤ ((i + (1 : Int32))).toNatClampNeg) := inb_of S3 ⟨hz_y, hl_y⟩
    have hat3 := H3.at hin3 (v := (.int y)) hu_y
    refine X0.baloadBytes hx (j := (i + (1 : Int32))) (v := (.int y)) (by rw [e0]; exact Ar3.1) (State.isArrayOf_alike hZ.alike Ar3.2.1) Ar3.2.2 hin3 hat3 (g := (mkF m 86 #[.val (.ref a), .val (.int ln), .val (.int i2), .val (.int r3), .val (.int i), .val (.int (i + (1 : Int32)))] [(.int (i + (1 : Int32))), (.ref a)])) rfl rfl (hb hby d4_86) _ ?_
    show Steps p.tables e below (T0.setTop (mkF m 87 #[.val (.ref a), .val (.int ln), .val (.int i2), .val (.int r3), .val (.int i), .val (.int (i + (1 : Int32)))] [(.int y)])) _
    refine XS.bipush X0.here hx rfl (hb hby d4_87) ?_
    show Steps p.tables e below (T0.setTop (mkF m 89 #[.val (.ref a), .val (.int ln), .val (.int i2), .val (.int r3), .val (.int i), .val (.int (i + (1 : Int32)))] [(.int (10 : Int32)), (.int y)])) _
    refine XS.icmpYes X0.here hx rfl (pc0 := 89) (pc' := 97) rfl (hb hby d4_89) rfl (feq h6).2 (by decide) (by decide) ?_
    show Steps p.tables e below (T0.setTop (mkF m 97 #[.val (.ref a), .val (.int ln), .val (.int i2), .val (.int r3), .val (.int i), .val (.int (i + (1 : Int32)))] [])) _
    refine XS.iinc X0.here hx rfl (hb hby d4_97) rfl (l' := #[.val (.ref a), .val (.int ln), .val (.int i2), .val (.int r3), .val (.int (i + (1 : Int32))), .val (.int (i + (1 : Int32)))]) rfl ?_
    show Steps p.tables e below (T0.setTop (mkF m 100 #[.val (.ref a), .val (.int ln), .val (.int i2), .val (.int r3), .val (.int (i + (1 : Int32))), .val (.int (i + (1 : Int32)))] [])) _
    refine XS.goto X0.here hx rfl (pc0 := 100) (pc' := 34) rfl (hb hby d4_100) (by decide) (by decide) ?_
    exact k)
  exact P4
set_option maxRecDepth 65536 in
set_option maxHeartbeats 40000000 in
theorem sg2av {p : Program} {l : Launch} {e : Env} {R : Room} {s : State} {m : MethodId} {args' : Array Value} {below : List Frame} {meth : Method} {c : Code} {T0 : State} {locs : List Loc} {cells slots : Nat} {Z : State} {h0 : Heap} (X0 : Stand p l e R s m args' below meth c T0 locs cells slots) (hx : p.tables.exec = Jvm.exec) (hZ : Z.Warmed39 s.vm) (hby : c.code = prog_170_method_2_code) (e0 : T0.heap = h0) (a : Addr) (ka : ClassId) (c0 : Int32) (c1 : Int32) (c2 : Int32) (c3 : Int32) (c4 : Int32) (c5 : Int32) (ln : Int32) (i2 : Int32) (r3 : Int32) (i : Int32) (x : Int32) (w5 : Int32) (V_a : Arv Z h0 a ka .byte (6 : Int32) [(.int c0), (.int c1), (.int c2), (.int c3), (.int c4), (.int c5)] (.int (0 : Int32))) (h1 : ¬ (i < ln)) :
    own_Rch p.tables e below (T0.setTop (mkF m 34 #[.val (.ref a), .val (.int ln), .val (.int i2), .val (.int r3), .val (.int i), .val (.int w5)] [])) (T0.setTop (mkF m 103 #[.val (.ref a), .val (.int ln), .val (.int i2), .val (.int r3), .val (.int i), .val (.int w5)] [])) := by
  obtain ⟨A0, hA0⟩ : ∃ A, A = T0.setTop (mkF m 34 #[.val (.ref a), .val (.int ln), .val (.int i2), .val (.int r3), .val (.int i), .val (.int w5)] []) := ⟨_, rfl⟩
  have P0 : own_Rch p.tables e below A0 (T0.setTop (mkF m 34 #[.val (.ref a), .val (.int ln), .val (.int i2), .val (.int r3), .val (.int i), .val (.int w5)] [])) := fun t k => hA0 ▸ k
  rw [← hA0]
  have P1 : own_Rch p.tables e below A0 (T0.setTop (mkF m 103 #[.val (.ref a), .val (.int ln), .val (.int i2), .val (.int r3), .val (.int i), .val (.int w5)] [])) := fun t k => P0 t (by
    show Steps p.tables e below (T0.setTop (mkF m 34 #[.val (.ref a), .val (.int ln), .val (.int i2), .val (.int r3), .val (.int i), .val (.int w5)] [])) _
    refine XS.iload X0.here hx rfl (hb hby d4_34) rfl ?_
    show Steps p.tables e below (T0.setTop (mkF m 36 #[.val (.ref a), .val (.int ln), .val (.int i2), .val (.int r3), .val (.int i), .val (.int w5)] [(.int i)])) _
    refine XS.iloadN X0.here hx rfl (hb hby d4_36) rfl ?_
    show Steps p.tables e below (T0.setTop (mkF m 37 #[.val (.ref a), .val (.int ln), .val (.int i2), .val (.int r3), .val (.int i), .val (.int w5)] [(.int ln), (.int i)])) _
    refine XS.icmpYes X0.here hx rfl (pc0 := 37) (pc' := 103) rfl (hb hby d4_37) rfl (flt h1).2.1 (by decide) (by decide) ?_
    exact k)
  exact P1
set_option maxRecDepth 65536 in
set_option maxHeartbeats 40000000 in
theorem sg2bv {p : Program} {l : Launch} {e : Env} {R : Room} {s : State} {m : MethodId} {args' : Array Value} {below : List Frame} {meth : Method} {c : Code} {T0 : State} {locs : List Loc} {cells slots : Nat} {Z : State} {h0 : Heap} (X0 : Stand p l e R s m args' below meth c T0 locs cells slots) (hx : p.tables.exec = Jvm.exec) (hZ : Z.Warmed39 s.vm) (hby : c.code = prog_170_method_2_code) (e0 : T0.heap = h0) (a : Addr) (ka : ClassId) (c0 : Int32) (c1 : Int32) (c2 : Int32) (c3 : Int32) (c4 : Int32) (c5 : Int32) (ln : Int32) (i2 : Int32) (r3 : Int32) (i : Int32) (x : Int32) (w5 : Int32) (V_a : Arv Z h0 a ka .byte (6 : Int32) [(.int c0), (.int c1), (.int c2), (.int c3), (.int c4), (.int c5)] (.int (0 : Int32))) (h1 : i < ln) (h2 : ¬ (r3 < (0 : Int32))) :
    own_Rch p.tables e below (T0.setTop (mkF m 34 #[.val (.ref a), .val (.int ln), .val (.int i2), .val (.int r3), .val (.int i), .val (.int w5)] [])) (T0.setTop (mkF m 103 #[.val (.ref a), .val (.int ln), .val (.int i2), .val (.int r3), .val (.int i), .val (.int w5)] [])) := by
  obtain ⟨A0, hA0⟩ : ∃ A, A = T0.setTop (mkF m 34 #[.val (.ref a), .val (.int ln), .val (.int i2), .val (.int r3), .val (.int i), .val (.int w5)] []) := ⟨_, rfl⟩
  have P0 : own_Rch p.tables e below A0 (T0.setTop (mkF m 34 #[.val (.ref a), .val (.int ln), .val (.int i2), .val (.int r3), .val (.int i), .val (.int w5)] [])) := fun t k => hA0 ▸ k
  rw [← hA0]
  have P1 : own_Rch p.tables e below A0 (T0.setTop (mkF m 103 #[.val (.ref a), .val (.int ln), .val (.int i2), .val (.int r3), .val (.int i), .val (.int w5)] [])) := fun t k => P0 t (by
    show Steps p.tables e below (T0.setTop (mkF m 34 #[.val (.ref a), .val (.int ln), .val (.int i2), .val (.int r3), .val (.int i), .val (.int w5)] [])) _
    refine XS.iload X0.here hx rfl (hb hby d4_34) rfl ?_
    show Steps p.tables e below (T0.setTop (mkF m 36 #[.val (.ref a), .val (.int ln), .val (.int i2), .val (.int r3), .val (.int i), .val (.int w5)] [(.int i)])) _
    refine XS.iloadN X0.here hx rfl (hb hby d4_36) rfl ?_
    show Steps p.tables e below (T0.setTop (mkF m 37 #[.val (.ref a), .val (.int ln), .val (.int i2), .val (.int r3), .val (.int i), .val (.int w5)] [(.int ln), (.int i)])) _
    refine XS.icmpNo X0.here hx rfl (hb hby d4_37) rfl (tlt h1).2.1 ?_
    show Steps p.tables e below (T0.setTop (mkF m 40 #[.val (.ref a), .val (.int ln), .val (.int i2), .val (.int r3), .val (.int i), .val (.int w5)] [])) _
    refine XS.iloadN X0.here hx rfl (hb hby d4_40) rfl ?_
    show Steps p.tables e below (T0.setTop (mkF m 41 #[.val (.ref a), .val (.int ln), .val (.int i2), .val (.int r3), .val (.int i), .val (.int w5)] [(.int r3)])) _
    refine XS.ifYes X0.here hx rfl (pc0 := 41) (pc' := 103) rfl (hb hby d4_41) rfl ((if0 _ _).trans (flt h2).2.1) (by decide) (by decide) ?_
    exact k)
  exact P1
set_option maxRecDepth 65536 in
set_option maxHeartbeats 40000000 in
theorem sg2cv {p : Program} {l : Launch} {e : Env} {R : Room} {s : State} {m : MethodId} {args' : Array Value} {below : List Frame} {meth : Method} {c : Code} {T0 : State} {locs : List Loc} {cells slots : Nat} {Z : State} {h0 : Heap} (X0 : Stand p l e R s m args' below meth c T0 locs cells slots) (hx : p.tables.exec = Jvm.exec) (hZ : Z.Warmed39 s.vm) (hby : c.code = prog_170_method_2_code) (e0 : T0.heap = h0) (a : Addr) (ka : ClassId) (c0 : Int32) (c1 : Int32) (c2 : Int32) (c3 : Int32) (c4 : Int32) (c5 : Int32) (ln : Int32) (i2 : Int32) (r3 : Int32) (i : Int32) (x : Int32) (w5 : Int32) (V_a : Arv Z h0 a ka .byte (6 : Int32) [(.int c0), (.int c1), (.int c2), (.int c3), (.int c4), (.int c5)] (.int (0 : Int32))) (hz_x : ¬ i < 0) (hl_x : i < 6) (hu_x : ([(.int c0), (.int c1), (.int c2), (.int c3), (.int c4), (.int c5)] : List Value).getD (i).toNatClampNeg (.int (0 : Int32)) = .int x) (h1 : i < ln) (h2 : r3 < (0 : Int32)) (h3 : ¬ (x = (10 : Int32))) :
    own_Rch p.tables e below (T0.setTop (mkF m 34 #[.val (.ref a), .val (.int ln), .val (.int i2), .val (.int r3), .val (.int i), .val (.int w5)] [])) (T0.setTop (mkF m 34 #[.val (.ref a), .val (.int ln), .val (.int i2), .val (.int r3), .val (.int (i + (1 : Int32))), .val (.int w5)] [])) := by
  obtain ⟨A0, hA0⟩ : ∃ A, A = T0.setTop (mkF m 34 #[.val (.ref a), .val (.int ln), .val (.int i2), .val (.int r3), .val (.int i), .val (.int w5)] []) := ⟨_, rfl⟩
  have P0 : own_Rch p.tables e below A0 (T0.setTop (mkF m 34 #[.val (.ref a), .val (.int ln), .val (.int i2), .val (.int r3), .val (.int i), .val (.int w5)] [])) := fun t k => hA0 ▸ k
  rw [← hA0]
  have P2 : own_Rch p.tables e below A0 (T0.setTop (mkF m 34 #[.val (.ref a), .val (.int ln), .val (.int i2), .val (.int r3), .val (.int (i + (1 : Int32))), .val (.int w5)] [])) := fun t k => P0 t (by
    show Steps p.tables e below (T0.setTop (mkF m 34 #[.val (.ref a), .val (.int ln), .val (.int i2), .val (.int r3), .val (.int i), .val (.int w5)] [])) _
    refine XS.iload X0.here hx rfl (hb hby d4_34) rfl ?_
    show Steps p.tables e below (T0.setTop (mkF m 36 #[.val (.ref a), .val (.int ln), .val (.int i2), .val (.int r3), .val (.int i), .val (.int w5)] [(.int i)])) _
    refine XS.iloadN X0.here hx rfl (hb hby d4_36) rfl ?_
    show Steps p.tables e below (T0.setTop (mkF m 37 #[.val (.ref a), .val (.int ln), .val (.int i2), .val (.int r3), .val (.int i), .val (.int w5)] [(.int ln), (.int i)])) _
    refine XS.icmpNo X0.here hx rfl (hb hby d4_37) rfl (tlt h1).2.1 ?_
    show Steps p.tables e below (T0.setTop (mkF m 40 #[.val (.ref a), .val (.int ln), .val (.int i2), .val (.int r3), .val (.int i), .val (.int w5)] [])) _
    refine XS.iloadN X0.here hx rfl (hb hby d4_40) rfl ?_
    show Steps p.tables e below (T0.setTop (mkF m 41 #[.val (.ref a), .val (.int ln), .val (.int i2), .val (.int r3), .val (.int i), .val (.int w5)] [(.int r3)])) _
    refine XS.ifNo X0.here hx rfl (hb hby d4_41) rfl ((if0 _ _).trans (tlt h2).2.1) ?_
    show Steps p.tables e below (T0.setTop (mkF m 44 #[.val (.ref a), .val (.int ln), .val (.int i2), .val (.int r3), .val (.int i), .val (.int w5)] [])) _
    refine XS.aloadN X0.here hx rfl (hb hby d4_44) rfl rfl ?_
    show Steps p.tables e below (T0.setTop (mkF m 45 #[.val (.ref a), .val (.int ln), .val (.int i2), .val (.int r3), .val (.int i), .val (.int w5)] [(.ref a)])) _
    refine XS.iload X0.here hx rfl (hb hby d4_45) rfl ?_
    show Steps p.tables e below (T0.setTop (mkF m 47 #[.val (.ref a), .val (.int ln), .val (.int i2), .val (.int r3), .val (.int i), .val (.int w5)] [(.int i), (.ref a)])) _
    obtain ⟨cl1, Ar1, -, S1, N1, H1, -⟩ := id V_a
    have hin1 : ¬ (i < 0 ∨ cl1.slots.size ≤ (i).toNatClampNeg) := inb_of S1 ⟨hz_x, hl_x⟩
    have hat1 := H1.at hin1 (v := (.int x)) hu_x
    refine X0.baloadBytes hx (j := i) (v := (.int x)) (by rw [e0]; exact Ar1.1) (State.isArrayOf_alike hZ.alike Ar1.2.1) Ar1.2.2 hin1 hat1 (g := (mkF m 47 #[.val (.ref a), .val (.int ln), .val (.int i2), .val (.int r3), .val (.int i), .val (.int w5)] [(.int i), (.ref a)])) rfl rfl (hb hby d4_47) _ ?_
    show Steps p.tables e below (T0.setTop (mkF m 48 #[.val (.ref a), .val (.int ln), .val (.int i2), .val (.int r3), .val (.int i), .val (.int w5)] [(.int x)])) _
    refine XS.bipush X0.here hx rfl (hb hby d4_48) ?_
    show Steps p.tables e below (T0.setTop (mkF m 50 #[.val (.ref a), .val (.int ln), .val (.int i2), .val (.int r3), .val (.int i), .val (.int w5)] [(.int (10 : Int32)), (.int x)])) _
    refine XS.icmpYes X0.here hx rfl (pc0 := 50) (pc' := 97) rfl (hb hby d4_50) rfl (feq h3).2 (by decide) (by decide) ?_
    show Steps p.tables e below (T0.setTop (mkF m 97 #[.val (.ref a), .val (.int ln), .val (.int i2), .val (.int r3), .val (.int i), .val (.int w5)] [])) _
    refine XS.iinc X0.here hx rfl (hb hby d4_97) rfl (l' := #[.val (.ref a), .val (.int ln), .val (.int i2), .val (.int r3), .val (.int (i + (1 : Int32))), .val (.int w5)]) rfl ?_
    show Steps p.tables e below (T0.setTop (mkF m 100 #[.val (.ref a), .val (.int ln), .val (.int i2), .val (.int r3), .val (.int (i + (1 : Int32))), .val (.int w5)] [])) _
    refine XS.goto X0.here hx rfl (pc0 := 100) (pc' := 34) rfl (hb hby d4_100) (by decide) (by decide) ?_
    exact k)
  exact P2
set_option maxRecDepth 65536 in
set_option maxHeartbeats 40000000 in
theorem sg2dv {p : Program} {l : Launch} {e : Env} {R : Room} {s : State} {m : MethodId} {args' : Array Value} {below : List Frame} {meth : Method} {c : Code} {T0 : State} {locs : List Loc} {cells slots : Nat} {Z : State} {h0 : Heap} (X0 : Stand p l e R s m args' below meth c T0 locs cells slots) (hx : p.tables.exec = Jvm.exec) (hZ : Z.Warmed39 s.vm) (hby : c.code = prog_170_method_2_code) (e0 : T0.heap = h0) (a : Addr) (ka : ClassId) (c0 : Int32) (c1 : Int32) (c2 : Int32) (c3 : Int32) (c4 : Int32) (c5 : Int32) (ln : Int32) (i2 : Int32) (r3 : Int32) (i : Int32) (x : Int32) (w5 : Int32) (V_a : Arv Z h0 a ka .byte (6 : Int32) [(.int c0), (.int c1), (.int c2), (.int c3), (.int c4), (.int c5)] (.int (0 : Int32))) (hz_x : ¬ i < 0) (hl_x : i < 6) (hu_x : ([(.int c0), (.int c1), (.int c2), (.int c3), (.int c4), (.int c5)] : List Value).getD (i).toNatClampNeg (.int (0 : Int32)) = .int x) (h1 : i < ln) (h2 : r3 < (0 : Int32)) (h3 : x = (10 : Int32)) (h4 : ¬ ((i + (1 : Int32)) < ln)) :
    own_Rch p.tables e below (T0.setTop (mkF m 34 #[.val (.ref a), .val (.int ln), .val (.int i2), .val (.int r3), .val (.int i), .val (.int w5)] [])) (T0.setTop (mkF m 34 #[.val (.ref a), .val (.int ln), .val (.int i2), .val (.int r3), .val (.int (i + (1 : Int32))), .val (.int (i + (1 : Int32)))] [])) := by
  obtain ⟨A0, hA0⟩ : ∃ A, A = T0.setTop (mkF m 34 #[.val (.ref a), .val (.int ln), .val (.int i2), .val (.int r3), .val (.int i), .val (.int w5)] []) := ⟨_, rfl⟩
  have P0 : own_Rch p.tables e below A0 (T0.setTop (mkF m 34 #[.val (.ref a), .val (.int ln), .val (.int i2), .val (.int r3), .val (.int i), .val (.int w5)] [])) := fun t k => hA0 ▸ k
  rw [← hA0]
  have P2 : own_Rch p.tables e below A0 (T0.setTop (mkF m 34 #[.val (.ref a), .val (.int ln), .val (.int i2), .val (.int r3), .val (.int (i + (1 : Int32))), .val (.int (i + (1 : Int32)))] [])) := fun t k => P0 t (by
    show Steps p.tables e below (T0.setTop (mkF m 34 #[.val (.ref a), .val (.int ln), .val (.int i2), .val (.int r3), .val (.int i), .val (.int w5)] [])) _
    refine XS.iload X0.here hx rfl (hb hby d4_34) rfl ?_
    show Steps p.tables e below (T0.setTop (mkF m 36 #[.val (.ref a), .val (.int ln), .val (.int i2), .val (.int r3), .val (.int i), .val (.int w5)] [(.int i)])) _
    refine XS.iloadN X0.here hx rfl (hb hby d4_36) rfl ?_
    show Steps p.tables e below (T0.setTop (mkF m 37 #[.val (.ref a), .val (.int ln), .val (.int i2), .val (.int r3), .val (.int i), .val (.int w5)] [(.int ln), (.int i)])) _
    refine XS.icmpNo X0.here hx rfl (hb hby d4_37) rfl (tlt h1).2.1 ?_
    show Steps p.tables e below (T0.setTop (mkF m 40 #[.val (.ref a), .val (.int ln), .val (.int i2), .val (.int r3), .val (.int i), .val (.int w5)] [])) _
    refine XS.iloadN X0.here hx rfl (hb hby d4_40) rfl ?_
    show Steps p.tables e below (T0.setTop (mkF m 41 #[.val (.ref a), .val (.int ln), .val (.int i2), .val (.int r3), .val (.int i), .val (.int w5)] [(.int r3)])) _
    refine XS.ifNo X0.here hx rfl (hb hby d4_41) rfl ((if0 _ _).trans (tlt h2).2.1) ?_
    show Steps p.tables e below (T0.setTop (mkF m 44 #[.val (.ref a), .val (.int ln), .val (.int i2), .val (.int r3), .val (.int i), .val (.int w5)] [])) _
    refine XS.aloadN X0.here hx rfl (hb hby d4_44) rfl rfl ?_
    show Steps p.tables e below (T0.setTop (mkF m 45 #[.val (.ref a), .val (.int ln), .val (.int i2), .val (.int r3), .val (.int i), .val (.int w5)] [(.ref a)])) _
    refine XS.iload X0.here hx rfl (hb hby d4_45) rfl ?_
    show Steps p.tables e below (T0.setTop (mkF m 47 #[.val (.ref a), .val (.int ln), .val (.int i2), .val (.int r3), .val (.int i), .val (.int w5)] [(.int i), (.ref a)])) _
    obtain ⟨cl1, Ar1, -, S1, N1, H1, -⟩ := id V_a
    have hin1 : ¬ (i < 0 ∨ cl1.slots.size ≤ (i).toNatClampNeg) := inb_of S1 ⟨hz_x, hl_x⟩
    have hat1 := H1.at hin1 (v := (.int x)) hu_x
    refine X0.baloadBytes hx (j := i) (v := (.int x)) (by rw [e0]; exact Ar1.1) (State.isArrayOf_alike hZ.alike Ar1.2.1) Ar1.2.2 hin1 hat1 (g := (mkF m 47 #[.val (.ref a), .val (.int ln), .val (.int i2), .val (.int r3), .val (.int i), .val (.int w5)] [(.int i), (.ref a)])) rfl rfl (hb hby d4_47) _ ?_
    show Steps p.tables e below (T0.setTop (mkF m 48 #[.val (.ref a), .val (.int ln), .val (.int i2), .val (.int r3), .val (.int i), .val (.int w5)] [(.int x)])) _
    refine XS.bipush X0.here hx rfl (hb hby d4_48) ?_
    show Steps p.tables e below (T0.setTop (mkF m 50 #[.val (.ref a), .val (.int ln), .val (.int i2), .val (.int r3), .val (.int i), .val (.int w5)] [(.int (10 : Int32)), (.int x)])) _
    refine XS.icmpNo X0.here hx rfl (hb hby d4_50) rfl (teq h3).2 ?_
    show Steps p.tables e below (T0.setTop (mkF m 53 #[.val (.ref a), .val (.int ln), .val (.int i2), .val (.int r3), .val (.int i), .val (.int w5)] [])) _
    refine XS.iload X0.here hx rfl (hb hby d4_53) rfl ?_
    show Steps p.tables e below (T0.setTop (mkF m 55 #[.val (.ref a), .val (.int ln), .val (.int i2), .val (.int r3), .val (.int i), .val (.int w5)] [(.int i)])) _
    refine XS.iconst X0.here hx rfl (hb hby d4_55) ?_
    show Steps p.tables e below (T0.setTop (mkF m 56 #[.val (.ref a), .val (.int ln), .val (.int i2), .val (.int r3), .val (.int i), .val (.int w5)] [(.int (1 : Int32)), (.int i)])) _
    refine XS.iadd X0.here hx rfl (hb hby d4_56) rfl ?_
    show Steps p.tables e below (T0.setTop (mkF m 57 #[.val (.ref a), .val (.int ln), .val (.int i2), .val (.int r3), .val (.int i), .val (.int w5)] [(.int (i + (1 : Int32)))])) _
    refine XS.istore X0.here hx rfl (hb hby d4_57) rfl (l' := #[.val (.ref a), .val (.int ln), .val (.int i2), .val (.int r3), .val (.int i), .val (.int (i + (1 : Int32)))]) rfl ?_
    show Steps p.tables e below (T0.setTop (mkF m 59 #[.val (.ref a), .val (.int ln), .val (.int i2), .val (.int r3), .val (.int i), .val (.int (i + (1 : Int32)))] [])) _
    refine XS.iload X0.here hx rfl (hb hby d4_59) rfl ?_
    show Steps p.tables e below (T0.setTop (mkF m 61 #[.val (.ref a), .val (.int ln), .val (.int i2), .val (.int r3), .val (.int i), .val (.int (i + (1 : Int32)))] [(.int (i + (1 : Int32)))])) _
    refine XS.iloadN X0.here hx rfl (hb hby d4_61) rfl ?_
    show Steps p.tables e below (T0.setTop (mkF m 62 #[.val (.ref a), .val (.int ln), .val (.int i2), .val (.int r3), .val (.int i), .val (.int (i + (1 : Int32)))] [(.int ln), (.int (i + (1 : Int32)))])) _
    refine XS.icmpYes X0.here hx rfl (pc0 := 62) (pc' := 77) rfl (hb hby d4_62) rfl (flt h4).2.1 (by decide) (by decide) ?_
    show Steps p.tables e below (T0.setTop (mkF m 77 #[.val (.ref a), .val (.int ln), .val (.int i2), .val (.int r3), .val (.int i), .val (.int (i + (1 : Int32)))] [])) _
    refine XS.iload X0.here hx rfl (hb hby d4_77) rfl ?_
    show Steps p.tables e below (T0.setTop (mkF m 79 #[.val (.ref a), .val (.int ln), .val (.int i2), .val (.int r3), .val (.int i), .val (.int (i + (1 : Int32)))] [(.int (i + (1 : Int32)))])) _
    refine XS.iloadN X0.here hx rfl (hb hby d4_79) rfl ?_
    show Steps p.tables e below (T0.setTop (mkF m 80 #[.val (.ref a), .val (.int ln), .val (.int i2), .val (.int r3), .val (.int i), .val (.int (i + (1 : Int32)))] [(.int ln), (.int (i + (1 : Int32)))])) _
    refine XS.icmpYes X0.here hx rfl (pc0 := 80) (pc' := 97) rfl (hb hby d4_80) rfl (flt h4).2.1 (by decide) (by decide) ?_
    show Steps p.tables e below (T0.setTop (mkF m 97 #[.val (.ref a), .val (.int ln), .val (.int i2), .val (.int r3), .val (.int i), .val (.int (i + (1 : Int32)))] [])) _
    refine XS.iinc X0.here hx rfl (hb hby d4_97) rfl (l' := #[.val (.ref a), .val (.int ln), .val (.int i2), .val (.int r3), .val (.int (i + (1 : Int32))), .val (.int (i + (1 : Int32)))]) rfl ?_
    show Steps p.tables e below (T0.setTop (mkF m 100 #[.val (.ref a), .val (.int ln), .val (.int i2), .val (.int r3), .val (.int (i + (1 : Int32))), .val (.int (i + (1 : Int32)))] [])) _
    refine XS.goto X0.here hx rfl (pc0 := 100) (pc' := 34) rfl (hb hby d4_100) (by decide) (by decide) ?_
    exact k)
  exact P2
set_option maxRecDepth 65536 in
set_option maxHeartbeats 40000000 in
theorem sg2ev {p : Program} {l : Launch} {e : Env} {R : Room} {s : State} {m : MethodId} {args' : Array Value} {below : List Frame} {meth : Method} {c : Code} {T0 : State} {locs : List Loc} {cells slots : Nat} {Z : State} {h0 : Heap} (X0 : Stand p l e R s m args' below meth c T0 locs cells slots) (hx : p.tables.exec = Jvm.exec) (hZ : Z.Warmed39 s.vm) (hby : c.code = prog_170_method_2_code) (e0 : T0.heap = h0) (a : Addr) (ka : ClassId) (c0 : Int32) (c1 : Int32) (c2 : Int32) (c3 : Int32) (c4 : Int32) (c5 : Int32) (ln : Int32) (i2 : Int32) (r3 : Int32) (i : Int32) (x : Int32) (w5 : Int32) (y : Int32) (z : Int32) (V_a : Arv Z h0 a ka .byte (6 : Int32) [(.int c0), (.int c1), (.int c2), (.int c3), (.int c4), (.int c5)] (.int (0 : Int32))) (hz_x : ¬ i < 0) (hl_x : i < 6) (hu_x : ([(.int c0), (.int c1), (.int c2), (.int c3), (.int c4), (.int c5)] : List Value).getD (i).toNatClampNeg (.int (0 : Int32)) = .int x) (hz_y : ¬ (i + (1 : Int32)) < 0) (hl_y : (i + (1 : Int32)) < 6) (hu_y : ([(.int c0), (.int c1), (.int c2), (.int c3), (.int c4), (.int c5)] : List Value).getD ((i + (1 : Int32))).toNatClampNeg (.int (0 : Int32)) = .int y) (hz_z : ¬ ((i + (1 : Int32)) + (1 : Int32)) < 0) (hl_z : ((i + (1 : Int32)) + (1 : Int32)) < 6) (hu_z : ([(.int c0), (.int c1), (.int c2), (.int c3), (.int c4), (.int c5)] : List Value).getD (((i + (1 : Int32)) + (1 : Int32))).toNatClampNeg (.int (0 : Int32)) = .int z) (h1 : i < ln) (h2 : r3 < (0 : Int32)) (h3 : x = (10 : Int32)) (h4 : (i + (1 : Int32)) < ln) (h5 : y = (13 : Int32)) (h7 : ((i + (1 : Int32)) + (1 : Int32)) < ln) (h8 : z = (10 : Int32)) :
    own_Rch p.tables e below (T0.setTop (mkF m 34 #[.val (.ref a), .val (.int ln), .val (.int i2), .val (.int r3), .val (.int i), .val (.int w5)] [])) (T0.setTop (mkF m 34 #[.val (.ref a), .val (.int ln), .val (.int i2), .val (.int (((i + (1 : Int32)) + (1 : Int32)) + (1 : Int32))), .val (.int (i + (1 : Int32))), .val (.int ((i + (1 : Int32)) + (1 : Int32)))] [])) := by
  obtain ⟨A0, hA0⟩ : ∃ A, A = T0.setTop (mkF m 34 #[.val (.ref a), .val (.int ln), .val (.int i2), .val (.int r3), .val (.int i), .val (.int w5)] []) := ⟨_, rfl⟩
  have P0 : own_Rch p.tables e below A0 (T0.setTop (mkF m 34 #[.val (.ref a), .val (.int ln), .val (.int i2), .val (.int r3), .val (.int i), .val (.int w5)] [])) := fun t k => hA0 ▸ k
  rw [← hA0]
  have P4 : own_Rch p.tables e below A0 (T0.setTop (mkF m 34 #[.val (.ref a), .val (.int ln), .val (.int i2), .val (.int (((i + (1 : Int32)) + (1 : Int32)) + (1 : Int32))), .val (.int (i + (1 : Int32))), .val (.int ((i + (1 : Int32)) + (1 : Int32)))] [])) := fun t k => P0 t (by
    show Steps p.tables e below (T0.setTop (mkF m 34 #[.val (.ref a), .val (.int ln), .val (.int i2), .val (.int r3), .val (.int i), .val (.int w5)] [])) _
    refine XS.iload X0.here hx rfl (hb hby d4_34) rfl ?_
    show Steps p.tables e below (T0.setTop (mkF m 36 #[.val (.ref a), .val (.int ln), .val (.int i2), .val (.int r3), .val (.int i), .val (.int w5)] [(.int i)])) _
    refine XS.iloadN X0.here hx rfl (hb hby d4_36) rfl ?_
    show Steps p.tables e below (T0.setTop (mkF m 37 #[.val (.ref a), .val (.int ln), .val (.int i2), .val (.int r3), .val (.int i), .val (.int w5)] [(.int ln), (.int i)])) _
    refine XS.icmpNo X0.here hx rfl (hb hby d4_37) rfl (tlt h1).2.1 ?_
    show Steps p.tables e below (T0.setTop (mkF m 40 #[.val (.ref a), .val (.int ln), .val (.int i2), .val (.int r3), .val (.int i), .val (.int w5)] [])) _
    refine XS.iloadN X0.here hx rfl (hb hby d4_40) rfl ?_
    show Steps p.tables e below (T0.setTop (mkF m 41 #[.val (.ref a), .val (.int ln), .val (.int i2), .val (.int r3), .val (.int i), .val (.int w5)] [(.int r3)])) _
    refine XS.ifNo X0.here hx rfl (hb hby d4_41) rfl ((if0 _ _).trans (tlt h2).2.1) ?_
    show Steps p.tables e below (T0.setTop (mkF m 44 #[.val (.ref a), .val (.int ln), .val (.int i2), .val (.int r3), .val (.int i), .val (.int w5)] [])) _
    refine XS.aloadN X0.here hx rfl (hb hby d4_44) rfl rfl ?_
    show Steps p.tables e below (T0.setTop (mkF m 45 #[.val (.ref a), .val (.int ln), .val (.int i2), .val (.int r3), .val (.int i), .val (.int w5)] [(.ref a)])) _
    refine XS.iload X0.here hx rfl (hb hby d4_45) rfl ?_
    show Steps p.tables e below (T0.setTop (mkF m 47 #[.val (.ref a), .val (.int ln), .val (.int i2), .val (.int r3), .val (.int i), .val (.int w5)] [(.int i), (.ref a)])) _
    obtain ⟨cl1, Ar1, -, S1, N1, H1, -⟩ := id V_a
    have hin1 : ¬ (i < 0 ∨ cl1.slots.size ≤ (i).toNatClampNeg) := inb_of S1 ⟨hz_x, hl_x⟩
    have hat1 := H1.at hin1 (v := (.int x)) hu_x
    refine X0.baloadBytes hx (j := i) (v := (.int x)) (by rw [e0]; exact Ar1.1) (State.isArrayOf_alike hZ.alike Ar1.2.1) Ar1.2.2 hin1 hat1 (g := (mkF m 47 #[.val (.ref a), .val (.int ln), .val (.int i2), .val (.int r3), .val (.int i), .val (.int w5)] [(.int i), (.ref a)])) rfl rfl (hb hby d4_47) _ ?_
    show Steps p.tables e below (T0.setTop (mkF m 48 #[.val (.ref a), .val (.int ln), .val (.int i2), .val (.int r3), .val (.int i), .val (.int w5)] [(.int x)])) _
    refine XS.bipush X0.here hx rfl (hb hby d4_48) ?_
    show Steps p.tables e below (T0.setTop (mkF m 50 #[.val (.ref a), .val (.int ln), .val (.int i2), .val (.int r3), .val (.int i), .val (.int w5)] [(.int (10 : Int32)), (.int x)])) _
    refine XS.icmpNo X0.here hx rfl (hb hby d4_50) rfl (teq h3).2 ?_
    show Steps p.tables e below (T0.setTop (mkF m 53 #[.val (.ref a), .val (.int ln), .val (.int i2), .val (.int r3), .val (.int i), .val (.int w5)] [])) _
    refine XS.iload X0.here hx rfl (hb hby d4_53) rfl ?_
    show Steps p.tables e below (T0.setTop (mkF m 55 #[.val (.ref a), .val (.int ln), .val (.int i2), .val (.int r3), .val (.int i), .val (.int w5)] [(.int i)])) _
    refine XS.iconst X0.here hx rfl (hb hby d4_55) ?_
    show Steps p.tables e below (T0.setTop (mkF m 56 #[.val (.ref a), .val (.int ln), .val (.int i2), .val (.int r3), .val (.int i), .val (.int w5)] [(.int (1 : Int32)), (.int i)])) _
    refine XS.iadd X0.here hx rfl (hb hby d4_56) rfl ?_
    show Steps p.tables e below (T0.setTop (mkF m 57 #[.val (.ref a), .val (.int ln), .val (.int i2), .val (.int r3), .val (.int i), .val (.int w5)] [(.int (i + (1 : Int32)))])) _
    refine XS.istore X0.here hx rfl (hb hby d4_57) rfl (l' := #[.val (.ref a), .val (.int ln), .val (.int i2), .val (.int r3), .val (.int i), .val (.int (i + (1 : Int32)))]) rfl ?_
    show Steps p.tables e below (T0.setTop (mkF m 59 #[.val (.ref a), .val (.int ln), .val (.int i2), .val (.int r3), .val (.int i), .val (.int (i + (1 : Int32)))] [])) _
    refine XS.iload X0.here hx rfl (hb hby d4_59) rfl ?_
    show Steps p.tables e below (T0.setTop (mkF m 61 #[.val (.ref a), .val (.int ln), .val (.int i2), .val (.int r3), .val (.int i), .val (.int (i + (1 : Int32)))] [(.int (i + (1 : Int32)))])) _
    refine XS.iloadN X0.here hx rfl (hb hby d4_61) rfl ?_
    show Steps p.tables e below (T0.setTop (mkF m 62 #[.val (.ref a), .val (.int ln), .val (.int i2), .val (.int r3), .val (.int i), .val (.int (i + (1 : Int32)))] [(.int ln), (.int (i + (1 : Int32)))])) _
    refine XS.icmpNo X0.here hx rfl (hb hby d4_62) rfl (tlt h4).2.1 ?_
    show Steps p.tables e below (T0.setTop (mkF m 65 #[.val (.ref a), .val (.int ln), .val (.int i2), .val (.int r3), .val (.int i), .val (.int (i + (1 : Int32)))] [])) _
    refine XS.aloadN X0.here hx rfl (hb hby d4_65) rfl rfl ?_
    show Steps p.tables e below (T0.setTop (mkF m 66 #[.val (.ref a), .val (.int ln), .val (.int i2), .val (.int r3), .val (.int i), .val (.int (i + (1 : Int32)))] [(.ref a)])) _
    refine XS.iload X0.here hx rfl (hb hby d4_66) rfl ?_
    show Steps p.tables e below (T0.setTop (mkF m 68 #[.val (.ref a), .val (.int ln), .val (.int i2), .val (.int r3), .val (.int i), .val (.int (i + (1 : Int32)))] [(.int (i + (1 : Int32))), (.ref a)])) _
    obtain ⟨cl2, Ar2, -, S2, N2, H2, -⟩ := id V_a
    have hin2 : ¬ ((i + (1 : Int32)) < 0 ∨ cl2.slots.size ≤ ((i + (1 : Int32))).toNatClampNeg) := inb_of S2 ⟨hz_y, hl_y⟩
    have hat2 := H2.at hin2 (v := (.int y)) hu_y
    refine X0.baloadBytes hx (j := (i + (1 : Int32))) (v := (.int y)) (by rw [e0]; exact Ar2.1) (State.isArrayOf_alike hZ.alike Ar2.2.1) Ar2.2.2 hin2 hat2 (g := (mkF m 68 #[.val (.ref a), .val (.int ln), .val (.int i2), .val (.int r3), .val (.int i), .val (.int (i + (1 : Int32)))] [(.int (i + (1 : Int32))), (.ref a)])) rfl rfl (hb hby d4_68) _ ?_
    show Steps p.tables e below (T0.setTop (mkF m 69 #[.val (.ref a), .val (.int ln), .val (.int i2), .val (.int r3), .val (.int i), .val (.int (i + (1 : Int32)))] [(.int y)])) _
    refine XS.bipush X0.here hx rfl (hb hby d4_69) ?_
    show Steps p.tables e below (T0.setTop (mkF m 71 #[.val (.ref a), .val (.int ln), .val (.int i2), .val (.int r3), .val (.int i), .val (.int (i + (1 : Int32)))] [(.int (13 : Int32)), (.int y)])) _
    refine XS.icmpNo X0.here hx rfl (hb hby d4_71) rfl (teq h5).2 ?_
    show Steps p.tables e below (T0.setTop (mkF m 74 #[.val (.ref a), .val (.int ln), .val (.int i2), .val (.int r3), .val (.int i), .val (.int (i + (1 : Int32)))] [])) _
    refine XS.iinc X0.here hx rfl (hb hby d4_74) rfl (l' := #[.val (.ref a), .val (.int ln), .val (.int i2), .val (.int r3), .val (.int i), .val (.int ((i + (1 : Int32)) + (1 : Int32)))]) rfl ?_
    show Steps p.tables e below (T0.setTop (mkF m 77 #[.val (.ref a), .val (.int ln), .val (.int i2), .val (.int r3), .val (.int i), .val (.int ((i + (1 : Int32)) + (1 : Int32)))] [])) _
    refine XS.iload X0.here hx rfl (hb hby d4_77) rfl ?_
    show Steps p.tables e below (T0.setTop (mkF m 79 #[.val (.ref a), .val (.int ln), .val (.int i2), .val (.int r3), .val (.int i), .val (.int ((i + (1 : Int32)) + (1 : Int32)))] [(.int ((i + (1 : Int32)) + (1 : Int32)))])) _
    refine XS.iloadN X0.here hx rfl (hb hby d4_79) rfl ?_
    show Steps p.tables e below (T0.setTop (mkF m 80 #[.val (.ref a), .val (.int ln), .val (.int i2), .val (.int r3), .val (.int i), .val (.int ((i + (1 : Int32)) + (1 : Int32)))] [(.int ln), (.int ((i + (1 : Int32)) + (1 : Int32)))])) _
    refine XS.icmpNo X0.here hx rfl (hb hby d4_80) rfl (tlt h7).2.1 ?_
    show Steps p.tables e below (T0.setTop (mkF m 83 #[.val (.ref a), .val (.int ln), .val (.int i2), .val (.int r3), .val (.int i), .val (.int ((i + (1 : Int32)) + (1 : Int32)))] [])) _
    refine XS.aloadN X0.here hx rfl (hb hby d4_83) rfl rfl ?_
    show Steps p.tables e below (T0.setTop (mkF m 84 #[.val (.ref a), .val (.int ln), .val (.int i2), .val (.int r3), .val (.int i), .val (.int ((i + (1 : Int32)) + (1 : Int32)))] [(.ref a)])) _
    refine XS.iload X0.here hx rfl (hb hby d4_84) rfl ?_
    show Steps p.tables e below (T0.setTop (mkF m 86 #[.val (.ref a), .val (.int ln), .val (.int i2), .val (.int r3), .val (.int i), .val (.int ((i + (1 : Int32)) + (1 : Int32)))] [(.int ((i + (1 : Int32)) + (1 : Int32))), (.ref a)])) _
    obtain ⟨cl3, Ar3, -, S3, N3, H3, -⟩ := id V_a
    have hin3 : ¬ (((i + (1 : Int32)) + (1 : Int32)) < 0 ∨ cl3.slots.size ≤ (((i + (1 : Int32)) + (1 : Int32))).toNatClampNeg) := inb_of S3 ⟨hz_z, hl_z⟩
    have hat3 := H3.at hin3 (v := (.int z)) hu_z
    refine X0.baloadBytes hx (j := ((i + (1 : Int32)) + (1 : Int32))) (v := (.int z)) (by rw [e0]; exact Ar3.1) (State.isArrayOf_alike hZ.alike Ar3.2.1) Ar3.2.2 hin3 hat3 (g := (mkF m 86 #[.val (.ref a), .val (.int ln), .val (.int i2), .val (.int r3), .val (.int i), .val (.int ((i + (1 : Int32)) + (1 : Int32)))] [(.int ((i + (1 : Int32)) + (1 : Int32))), (.ref a)])) rfl rfl (hb hby d4_86) _ ?_
    show Steps p.tables e below (T0.setTop (mkF m 87 #[.val (.ref a), .val (.int ln), .val (.int i2), .val (.int r3), .val (.int i), .val (.int ((i + (1 : Int32)) + (1 : Int32)))] [(.int z)])) _
    refine XS.bipush X0.here hx rfl (hb hby d4_87) ?_
    show Steps p.tables e below (T0.setTop (mkF m 89 #[.val (.ref a), .val (.int ln), .val (.int i2), .val (.int r3), .val (.int i), .val (.int ((i + (1 : Int32)) + (1 : Int32)))] [(.int (10 : Int32)), (.int z)])) _
    refine XS.icmpNo X0.here hx rfl (hb hby d4_89) rfl (teq h8).2 ?_
    show Steps p.tables e below (T0.setTop (mkF m 92 #[.val (.ref a), .val (.int ln), .val (.int i2), .val (.int r3), .val (.int i), .val (.int ((i + (1 : Int32)) + (1 : Int32)))] [])) _
    refine XS.iload X0.here hx rfl (hb hby d4_92) rfl ?_
    show Steps p.tables e below (T0.setTop (mkF m 94 #[.val (.ref a), .val (.int ln), .val (.int i2), .val (.int r3), .val (.int i), .val (.int ((i + (1 : Int32)) + (1 : Int32)))] [(.int ((i + (1 : Int32)) + (1 : Int32)))])) _
    refine XS.iconst X0.here hx rfl (hb hby d4_94) ?_
    show Steps p.tables e below (T0.setTop (mkF m 95 #[.val (.ref a), .val (.int ln), .val (.int i2), .val (.int r3), .val (.int i), .val (.int ((i + (1 : Int32)) + (1 : Int32)))] [(.int (1 : Int32)), (.int ((i + (1 : Int32)) + (1 : Int32)))])) _
    refine XS.iadd X0.here hx rfl (hb hby d4_95) rfl ?_
    show Steps p.tables e below (T0.setTop (mkF m 96 #[.val (.ref a), .val (.int ln), .val (.int i2), .val (.int r3), .val (.int i), .val (.int ((i + (1 : Int32)) + (1 : Int32)))] [(.int (((i + (1 : Int32)) + (1 : Int32)) + (1 : Int32)))])) _
    refine XS.istoreN X0.here hx rfl (hb hby d4_96) rfl (l' := #[.val (.ref a), .val (.int ln), .val (.int i2), .val (.int (((i + (1 : Int32)) + (1 : Int32)) + (1 : Int32))), .val (.int i), .val (.int ((i + (1 : Int32)) + (1 : Int32)))]) rfl ?_
    show Steps p.tables e below (T0.setTop (mkF m 97 #[.val (.ref a), .val (.int ln), .val (.int i2), .val (.int (((i + (1 : Int32)) + (1 : Int32)) + (1 : Int32))), .val (.int i), .val (.int ((i + (1 : Int32)) + (1 : Int32)))] [])) _
    refine XS.iinc X0.here hx rfl (hb hby d4_97) rfl (l' := #[.val (.ref a), .val (.int ln), .val (.int i2), .val (.int (((i + (1 : Int32)) + (1 : Int32)) + (1 : Int32))), .val (.int (i + (1 : Int32))), .val (.int ((i + (1 : Int32)) + (1 : Int32)))]) rfl ?_
    show Steps p.tables e below (T0.setTop (mkF m 100 #[.val (.ref a), .val (.int ln), .val (.int i2), .val (.int (((i + (1 : Int32)) + (1 : Int32)) + (1 : Int32))), .val (.int (i + (1 : Int32))), .val (.int ((i + (1 : Int32)) + (1 : Int32)))] [])) _
    refine XS.goto X0.here hx rfl (pc0 := 100) (pc' := 34) rfl (hb hby d4_100) (by decide) (by decide) ?_
    exact k)
  exact P4
set_option maxRecDepth 65536 in
set_option maxHeartbeats 40000000 in
theorem sg2fv {p : Program} {l : Launch} {e : Env} {R : Room} {s : State} {m : MethodId} {args' : Array Value} {below : List Frame} {meth : Method} {c : Code} {T0 : State} {locs : List Loc} {cells slots : Nat} {Z : State} {h0 : Heap} (X0 : Stand p l e R s m args' below meth c T0 locs cells slots) (hx : p.tables.exec = Jvm.exec) (hZ : Z.Warmed39 s.vm) (hby : c.code = prog_170_method_2_code) (e0 : T0.heap = h0) (a : Addr) (ka : ClassId) (c0 : Int32) (c1 : Int32) (c2 : Int32) (c3 : Int32) (c4 : Int32) (c5 : Int32) (ln : Int32) (i2 : Int32) (r3 : Int32) (i : Int32) (x : Int32) (w5 : Int32) (y : Int32) (z : Int32) (V_a : Arv Z h0 a ka .byte (6 : Int32) [(.int c0), (.int c1), (.int c2), (.int c3), (.int c4), (.int c5)] (.int (0 : Int32))) (hz_x : ¬ i < 0) (hl_x : i < 6) (hu_x : ([(.int c0), (.int c1), (.int c2), (.int c3), (.int c4), (.int c5)] : List Value).getD (i).toNatClampNeg (.int (0 : Int32)) = .int x) (hz_y : ¬ (i + (1 : Int32)) < 0) (hl_y : (i + (1 : Int32)) < 6) (hu_y : ([(.int c0), (.int c1), (.int c2), (.int c3), (.int c4), (.int c5)] : List Value).getD ((i + (1 : Int32))).toNatClampNeg (.int (0 : Int32)) = .int y) (hz_z : ¬ ((i + (1 : Int32)) + (1 : Int32)) < 0) (hl_z : ((i + (1 : Int32)) + (1 : Int32)) < 6) (hu_z : ([(.int c0), (.int c1), (.int c2), (.int c3), (.int c4), (.int c5)] : List Value).getD (((i + (1 : Int32)) + (1 : Int32))).toNatClampNeg (.int (0 : Int32)) = .int z) (h1 : i < ln) (h2 : r3 < (0 : Int32)) (h3 : x = (10 : Int32)) (h4 : (i + (1 : Int32)) < ln) (h5 : y = (13 : Int32)) (h7 : ((i + (1 : Int32)) + (1 : Int32)) < ln) (h8 : ¬ (z = (10 : Int32))) :
    own_Rch p.tables e below (T0.setTop (mkF m 34 #[.val (.ref a), .val (.int ln), .val (.int i2), .val (.int r3), .val (.int i), .val (.int w5)] [])) (T0.setTop (mkF m 34 #[.val (.ref a), .val (.int ln), .val (.int i2), .val (.int r3), .val (.int (i + (1 : Int32))), .val (.int ((i + (1 : Int32)) + (1 : Int32)))] [])) := by
  obtain ⟨A0, hA0⟩ : ∃ A, A = T0.setTop (mkF m 34 #[.val (.ref a), .val (.int ln), .val (.int i2), .val (.int r3), .val (.int i), .val (.int w5)] []) := ⟨_, rfl⟩
  have P0 : own_Rch p.tables e below A0 (T0.setTop (mkF m 34 #[.val (.ref a), .val (.int ln), .val (.int i2), .val (.int r3), .val (.int i), .val (.int w5)] [])) := fun t k => hA0 ▸ k
  rw [← hA0]
  have P4 : own_Rch p.tables e below A0 (T0.setTop (mkF m 34 #[.val (.ref a), .val (.int ln), .val (.int i2), .val (.int r3), .val (.int (i + (1 : Int32))), .val (.int ((i + (1 : Int32)) + (1 : Int32)))] [])) := fun t k => P0 t (by
    show Steps p.tables e below (T0.setTop (mkF m 34 #[.val (.ref a), .val (.int ln), .val (.int i2), .val (.int r3), .val (.int i), .val (.int w5)] [])) _
    refine XS.iload X0.here hx rfl (hb hby d4_34) rfl ?_
    show Steps p.tables e below (T0.setTop (mkF m 36 #[.val (.ref a), .val (.int ln), .val (.int i2), .val (.int r3), .val (.int i), .val (.int w5)] [(.int i)])) _
    refine XS.iloadN X0.here hx rfl (hb hby d4_36) rfl ?_
    show Steps p.tables e below (T0.setTop (mkF m 37 #[.val (.ref a), .val (.int ln), .val (.int i2), .val (.int r3), .val (.int i), .val (.int w5)] [(.int ln), (.int i)])) _
    refine XS.icmpNo X0.here hx rfl (hb hby d4_37) rfl (tlt h1).2.1 ?_
    show Steps p.tables e below (T0.setTop (mkF m 40 #[.val (.ref a), .val (.int ln), .val (.int i2), .val (.int r3), .val (.int i), .val (.int w5)] [])) _
    refine XS.iloadN X0.here hx rfl (hb hby d4_40) rfl ?_
    show Steps p.tables e below (T0.setTop (mkF m 41 #[.val (.ref a), .val (.int ln), .val (.int i2), .val (.int r3), .val (.int i), .val (.int w5)] [(.int r3)])) _
    refine XS.ifNo X0.here hx rfl (hb hby d4_41) rfl ((if0 _ _).trans (tlt h2).2.1) ?_
    show Steps p.tables e below (T0.setTop (mkF m 44 #[.val (.ref a), .val (.int ln), .val (.int i2), .val (.int r3), .val (.int i), .val (.int w5)] [])) _
    refine XS.aloadN X0.here hx rfl (hb hby d4_44) rfl rfl ?_
    show Steps p.tables e below (T0.setTop (mkF m 45 #[.val (.ref a), .val (.int ln), .val (.int i2), .val (.int r3), .val (.int i), .val (.int w5)] [(.ref a)])) _
    refine XS.iload X0.here hx rfl (hb hby d4_45) rfl ?_
    show Steps p.tables e below (T0.setTop (mkF m 47 #[.val (.ref a), .val (.int ln), .val (.int i2), .val (.int r3), .val (.int i), .val (.int w5)] [(.int i), (.ref a)])) _
    obtain ⟨cl1, Ar1, -, S1, N1, H1, -⟩ := id V_a
    have hin1 : ¬ (i < 0 ∨ cl1.slots.size ≤ (i).toNatClampNeg) := inb_of S1 ⟨hz_x, hl_x⟩
    have hat1 := H1.at hin1 (v := (.int x)) hu_x
    refine X0.baloadBytes hx (j := i) (v := (.int x)) (by rw [e0]; exact Ar1.1) (State.isArrayOf_alike hZ.alike Ar1.2.1) Ar1.2.2 hin1 hat1 (g := (mkF m 47 #[.val (.ref a), .val (.int ln), .val (.int i2), .val (.int r3), .val (.int i), .val (.int w5)] [(.int i), (.ref a)])) rfl rfl (hb hby d4_47) _ ?_
    show Steps p.tables e below (T0.setTop (mkF m 48 #[.val (.ref a), .val (.int ln), .val (.int i2), .val (.int r3), .val (.int i), .val (.int w5)] [(.int x)])) _
    refine XS.bipush X0.here hx rfl (hb hby d4_48) ?_
    show Steps p.tables e below (T0.setTop (mkF m 50 #[.val (.ref a), .val (.int ln), .val (.int i2), .val (.int r3), .val (.int i), .val (.int w5)] [(.int (10 : Int32)), (.int x)])) _
    refine XS.icmpNo X0.here hx rfl (hb hby d4_50) rfl (teq h3).2 ?_
    show Steps p.tables e below (T0.setTop (mkF m 53 #[.val (.ref a), .val (.int ln), .val (.int i2), .val (.int r3), .val (.int i), .val (.int w5)] [])) _
    refine XS.iload X0.here hx rfl (hb hby d4_53) rfl ?_
    show Steps p.tables e below (T0.setTop (mkF m 55 #[.val (.ref a), .val (.int ln), .val (.int i2), .val (.int r3), .val (.int i), .val (.int w5)] [(.int i)])) _
    refine XS.iconst X0.here hx rfl (hb hby d4_55) ?_
    show Steps p.tables e below (T0.setTop (mkF m 56 #[.val (.ref a), .val (.int ln), .val (.int i2), .val (.int r3), .val (.int i), .val (.int w5)] [(.int (1 : Int32)), (.int i)])) _
    refine XS.iadd X0.here hx rfl (hb hby d4_56) rfl ?_
    show Steps p.tables e below (T0.setTop (mkF m 57 #[.val (.ref a), .val (.int ln), .val (.int i2), .val (.int r3), .val (.int i), .val (.int w5)] [(.int (i + (1 : Int32)))])) _
    refine XS.istore X0.here hx rfl (hb hby d4_57) rfl (l' := #[.val (.ref a), .val (.int ln), .val (.int i2), .val (.int r3), .val (.int i), .val (.int (i + (1 : Int32)))]) rfl ?_
    show Steps p.tables e below (T0.setTop (mkF m 59 #[.val (.ref a), .val (.int ln), .val (.int i2), .val (.int r3), .val (.int i), .val (.int (i + (1 : Int32)))] [])) _
    refine XS.iload X0.here hx rfl (hb hby d4_59) rfl ?_
    show Steps p.tables e below (T0.setTop (mkF m 61 #[.val (.ref a), .val (.int ln), .val (.int i2), .val (.int r3), .val (.int i), .val (.int (i + (1 : Int32)))] [(.int (i + (1 : Int32)))])) _
    refine XS.iloadN X0.here hx rfl (hb hby d4_61) rfl ?_
    show Steps p.tables e below (T0.setTop (mkF m 62 #[.val (.ref a), .val (.int ln), .val (.int i2), .val (.int r3), .val (.int i), .val (.int (i + (1 : Int32)))] [(.int ln), (.int (i + (1 : Int32)))])) _
    refine XS.icmpNo X0.here hx rfl (hb hby d4_62) rfl (tlt h4).2.1 ?_
    show Steps p.tables e below (T0.setTop (mkF m 65 #[.val (.ref a), .val (.int ln), .val (.int i2), .val (.int r3), .val (.int i), .val (.int (i + (1 : Int32)))] [])) _
    refine XS.aloadN X0.here hx rfl (hb hby d4_65) rfl rfl ?_
    show Steps p.tables e below (T0.setTop (mkF m 66 #[.val (.ref a), .val (.int ln), .val (.int i2), .val (.int r3), .val (.int i), .val (.int (i + (1 : Int32)))] [(.ref a)])) _
    refine XS.iload X0.here hx rfl (hb hby d4_66) rfl ?_
    show Steps p.tables e below (T0.setTop (mkF m 68 #[.val (.ref a), .val (.int ln), .val (.int i2), .val (.int r3), .val (.int i), .val (.int (i + (1 : Int32)))] [(.int (i + (1 : Int32))), (.ref a)])) _
    obtain ⟨cl2, Ar2, -, S2, N2, H2, -⟩ := id V_a
    have hin2 : ¬ ((i + (1 : Int32)) < 0 ∨ cl2.slots.size ≤ ((i + (1 : Int32))).toNatClampNeg) := inb_of S2 ⟨hz_y, hl_y⟩
    have hat2 := H2.at hin2 (v := (.int y)) hu_y
    refine X0.baloadBytes hx (j := (i + (1 : Int32))) (v := (.int y)) (by rw [e0]; exact Ar2.1) (State.isArrayOf_alike hZ.alike Ar2.2.1) Ar2.2.2 hin2 hat2 (g := (mkF m 68 #[.val (.ref a), .val (.int ln), .val (.int i2), .val (.int r3), .val (.int i), .val (.int (i + (1 : Int32)))] [(.int (i + (1 : Int32))), (.ref a)])) rfl rfl (hb hby d4_68) _ ?_
    show Steps p.tables e below (T0.setTop (mkF m 69 #[.val (.ref a), .val (.int ln), .val (.int i2), .val (.int r3), .val (.int i), .val (.int (i + (1 : Int32)))] [(.int y)])) _
    refine XS.bipush X0.here hx rfl (hb hby d4_69) ?_
    show Steps p.tables e below (T0.setTop (mkF m 71 #[.val (.ref a), .val (.int ln), .val (.int i2), .val (.int r3), .val (.int i), .val (.int (i + (1 : Int32)))] [(.int (13 : Int32)), (.int y)])) _
    refine XS.icmpNo X0.here hx rfl (hb hby d4_71) rfl (teq h5).2 ?_
    show Steps p.tables e below (T0.setTop (mkF m 74 #[.val (.ref a), .val (.int ln), .val (.int i2), .val (.int r3), .val (.int i), .val (.int (i + (1 : Int32)))] [])) _
    refine XS.iinc X0.here hx rfl (hb hby d4_74) rfl (l' := #[.val (.ref a), .val (.int ln), .val (.int i2), .val (.int r3), .val (.int i), .val (.int ((i + (1 : Int32)) + (1 : Int32)))]) rfl ?_
    show Steps p.tables e below (T0.setTop (mkF m 77 #[.val (.ref a), .val (.int ln), .val (.int i2), .val (.int r3), .val (.int i), .val (.int ((i + (1 : Int32)) + (1 : Int32)))] [])) _
    refine XS.iload X0.here hx rfl (hb hby d4_77) rfl ?_
    show Steps p.tables e below (T0.setTop (mkF m 79 #[.val (.ref a), .val (.int ln), .val (.int i2), .val (.int r3), .val (.int i), .val (.int ((i + (1 : Int32)) + (1 : Int32)))] [(.int ((i + (1 : Int32)) + (1 : Int32)))])) _
    refine XS.iloadN X0.here hx rfl (hb hby d4_79) rfl ?_
    show Steps p.tables e below (T0.setTop (mkF m 80 #[.val (.ref a), .val (.int ln), .val (.int i2), .val (.int r3), .val (.int i), .val (.int ((i + (1 : Int32)) + (1 : Int32)))] [(.int ln), (.int ((i + (1 : Int32)) + (1 : Int32)))])) _
    refine XS.icmpNo X0.here hx rfl (hb hby d4_80) rfl (tlt h7).2.1 ?_
    show Steps p.tables e below (T0.setTop (mkF m 83 #[.val (.ref a), .val (.int ln), .val (.int i2), .val (.int r3), .val (.int i), .val (.int ((i + (1 : Int32)) + (1 : Int32)))] [])) _
    refine XS.aloadN X0.here hx rfl (hb hby d4_83) rfl rfl ?_
    show Steps p.tables e below (T0.setTop (mkF m 84 #[.val (.ref a), .val (.int ln), .val (.int i2), .val (.int r3), .val (.int i), .val (.int ((i + (1 : Int32)) + (1 : Int32)))] [(.ref a)])) _
    refine XS.iload X0.here hx rfl (hb hby d4_84) rfl ?_
    show Steps p.tables e below (T0.setTop (mkF m 86 #[.val (.ref a), .val (.int ln), .val (.int i2), .val (.int r3), .val (.int i), .val (.int ((i + (1 : Int32)) + (1 : Int32)))] [(.int ((i + (1 : Int32)) + (1 : Int32))), (.ref a)])) _
    obtain ⟨cl3, Ar3, -, S3, N3, H3, -⟩ := id V_a
    have hin3 : ¬ (((i + (1 : Int32)) + (1 : Int32)) < 0 ∨ cl3.slots.size ≤ (((i + (1 : Int32)) + (1 : Int32))).toNatClampNeg) := inb_of S3 ⟨hz_z, hl_z⟩
    have hat3 := H3.at hin3 (v := (.int z)) hu_z
    refine X0.baloadBytes hx (j := ((i + (1 : Int32)) + (1 : Int32))) (v := (.int z)) (by rw [e0]; exact Ar3.1) (State.isArrayOf_alike hZ.alike Ar3.2.1) Ar3.2.2 hin3 hat3 (g := (mkF m 86 #[.val (.ref a), .val (.int ln), .val (.int i2), .val (.int r3), .val (.int i), .val (.int ((i + (1 : Int32)) + (1 : Int32)))] [(.int ((i + (1 : Int32)) + (1 : Int32))), (.ref a)])) rfl rfl (hb hby d4_86) _ ?_
    show Steps p.tables e below (T0.setTop (mkF m 87 #[.val (.ref a), .val (.int ln), .val (.int i2), .val (.int r3), .val (.int i), .val (.int ((i + (1 : Int32)) + (1 : Int32)))] [(.int z)])) _
    refine XS.bipush X0.here hx rfl (hb hby d4_87) ?_
    show Steps p.tables e below (T0.setTop (mkF m 89 #[.val (.ref a), .val (.int ln), .val (.int i2), .val (.int r3), .val (.int i), .val (.int ((i + (1 : Int32)) + (1 : Int32)))] [(.int (10 : Int32)), (.int z)])) _
    refine XS.icmpYes X0.here hx rfl (pc0 := 89) (pc' := 97) rfl (hb hby d4_89) rfl (feq h8).2 (by decide) (by decide) ?_
    show Steps p.tables e below (T0.setTop (mkF m 97 #[.val (.ref a), .val (.int ln), .val (.int i2), .val (.int r3), .val (.int i), .val (.int ((i + (1 : Int32)) + (1 : Int32)))] [])) _
    refine XS.iinc X0.here hx rfl (hb hby d4_97) rfl (l' := #[.val (.ref a), .val (.int ln), .val (.int i2), .val (.int r3), .val (.int (i + (1 : Int32))), .val (.int ((i + (1 : Int32)) + (1 : Int32)))]) rfl ?_
    show Steps p.tables e below (T0.setTop (mkF m 100 #[.val (.ref a), .val (.int ln), .val (.int i2), .val (.int r3), .val (.int (i + (1 : Int32))), .val (.int ((i + (1 : Int32)) + (1 : Int32)))] [])) _
    refine XS.goto X0.here hx rfl (pc0 := 100) (pc' := 34) rfl (hb hby d4_100) (by decide) (by decide) ?_
    exact k)
  exact P4
set_option maxRecDepth 65536 in
set_option maxHeartbeats 40000000 in
theorem sg2gv {p : Program} {l : Launch} {e : Env} {R : Room} {s : State} {m : MethodId} {args' : Array Value} {below : List Frame} {meth : Method} {c : Code} {T0 : State} {locs : List Loc} {cells slots : Nat} {Z : State} {h0 : Heap} (X0 : Stand p l e R s m args' below meth c T0 locs cells slots) (hx : p.tables.exec = Jvm.exec) (hZ : Z.Warmed39 s.vm) (hby : c.code = prog_170_method_2_code) (e0 : T0.heap = h0) (a : Addr) (ka : ClassId) (c0 : Int32) (c1 : Int32) (c2 : Int32) (c3 : Int32) (c4 : Int32) (c5 : Int32) (ln : Int32) (i2 : Int32) (r3 : Int32) (i : Int32) (x : Int32) (w5 : Int32) (y : Int32) (V_a : Arv Z h0 a ka .byte (6 : Int32) [(.int c0), (.int c1), (.int c2), (.int c3), (.int c4), (.int c5)] (.int (0 : Int32))) (hz_x : ¬ i < 0) (hl_x : i < 6) (hu_x : ([(.int c0), (.int c1), (.int c2), (.int c3), (.int c4), (.int c5)] : List Value).getD (i).toNatClampNeg (.int (0 : Int32)) = .int x) (hz_y : ¬ (i + (1 : Int32)) < 0) (hl_y : (i + (1 : Int32)) < 6) (hu_y : ([(.int c0), (.int c1), (.int c2), (.int c3), (.int c4), (.int c5)] : List Value).getD ((i + (1 : Int32))).toNatClampNeg (.int (0 : Int32)) = .int y) (h1 : i < ln) (h2 : r3 < (0 : Int32)) (h3 : x = (10 : Int32)) (h4 : (i + (1 : Int32)) < ln) (h5 : y = (13 : Int32)) (h7 : ¬ (((i + (1 : Int32)) + (1 : Int32)) < ln)) :
    own_Rch p.tables e below (T0.setTop (mkF m 34 #[.val (.ref a), .val (.int ln), .val (.int i2), .val (.int r3), .val (.int i), .val (.int w5)] [])) (T0.setTop (mkF m 34 #[.val (.ref a), .val (.int ln), .val (.int i2), .val (.int r3), .val (.int (i + (1 : Int32))), .val (.int ((i + (1 : Int32)) + (1 : Int32)))] [])) := by
  obtain ⟨A0, hA0⟩ : ∃ A, A = T0.setTop (mkF m 34 #[.val (.ref a), .val (.int ln), .val (.int i2), .val (.int r3), .val (.int i), .val (.int w5)] []) := ⟨_, rfl⟩
  have P0 : own_Rch p.tables e below A0 (T0.setTop (mkF m 34 #[.val (.ref a), .val (.int ln), .val (.int i2), .val (.int r3), .val (.int i), .val (.int w5)] [])) := fun t k => hA0 ▸ k
  rw [← hA0]
  have P3 : own_Rch p.tables e below A0 (T0.setTop (mkF m 34 #[.val (.ref a), .val (.int ln), .val (.int i2), .val (.int r3), .val (.int (i + (1 : Int32))), .val (.int ((i + (1 : Int32)) + (1 : Int32)))] [])) := fun t k => P0 t (by
    show Steps p.tables e below (T0.setTop (mkF m 34 #[.val (.ref a), .val (.int ln), .val (.int i2), .val (.int r3), .val (.int i), .val (.int w5)] [])) _
    refine XS.iload X0.here hx rfl (hb hby d4_34) rfl ?_
    show Steps p.tables e below (T0.setTop (mkF m 36 #[.val (.ref a), .val (.int ln), .val (.int i2), .val (.int r3), .val (.int i), .val (.int w5)] [(.int i)])) _
    refine XS.iloadN X0.here hx rfl (hb hby d4_36) rfl ?_
    show Steps p.tables e below (T0.setTop (mkF m 37 #[.val (.ref a), .val (.int ln), .val (.int i2), .val (.int r3), .val (.int i), .val (.int w5)] [(.int ln), (.int i)])) _
    refine XS.icmpNo X0.here hx rfl (hb hby d4_37) rfl (tlt h1).2.1 ?_
    show Steps p.tables e below (T0.setTop (mkF m 40 #[.val (.ref a), .val (.int ln), .val (.int i2), .val (.int r3), .val (.int i), .val (.int w5)] [])) _
    refine XS.iloadN X0.here hx rfl (hb hby d4_40) rfl ?_
    show Steps p.tables e below (T0.setTop (mkF m 41 #[.val (.ref a), .val (.int ln), .val (.int i2), .val (.int r3), .val (.int i), .val (.int w5)] [(.int r3)])) _
    refine XS.ifNo X0.here hx rfl (hb hby d4_41) rfl ((if0 _ _).trans (tlt h2).2.1) ?_
    show Steps p.tables e below (T0.setTop (mkF m 44 #[.val (.ref a), .val (.int ln), .val (.int i2), .val (.int r3), .val (.int i), .val (.int w5)] [])) _
    refine XS.aloadN X0.here hx rfl (hb hby d4_44) rfl rfl ?_
    show Steps p.tables e below (T0.setTop (mkF m 45 #[.val (.ref a), .val (.int ln), .val (.int i2), .val (.int r3), .val (.int i), .val (.int w5)] [(.ref a)])) _
    refine XS.iload X0.here hx rfl (hb hby d4_45) rfl ?_
    show Steps p.tables e below (T0.setTop (mkF m 47 #[.val (.ref a), .val (.int ln), .val (.int i2), .val (.int r3), .val (.int i), .val (.int w5)] [(.int i), (.ref a)])) _
    obtain ⟨cl1, Ar1, -, S1, N1, H1, -⟩ := id V_a
    have hin1 : ¬ (i < 0 ∨ cl1.slots.size ≤ (i).toNatClampNeg) := inb_of S1 ⟨hz_x, hl_x⟩
    have hat1 := H1.at hin1 (v := (.int x)) hu_x
    refine X0.baloadBytes hx (j := i) (v := (.int x)) (by rw [e0]; exact Ar1.1) (State.isArrayOf_alike hZ.alike Ar1.2.1) Ar1.2.2 hin1 hat1 (g := (mkF m 47 #[.val (.ref a), .val (.int ln), .val (.int i2), .val (.int r3), .val (.int i), .val (.int w5)] [(.int i), (.ref a)])) rfl rfl (hb hby d4_47) _ ?_
    show Steps p.tables e below (T0.setTop (mkF m 48 #[.val (.ref a), .val (.int ln), .val (.int i2), .val (.int r3), .val (.int i), .val (.int w5)] [(.int x)])) _
    refine XS.bipush X0.here hx rfl (hb hby d4_48) ?_
    show Steps p.tables e below (T0.setTop (mkF m 50 #[.val (.ref a), .val (.int ln), .val (.int i2), .val (.int r3), .val (.int i), .val (.int w5)] [(.int (10 : Int32)), (.int x)])) _
    refine XS.icmpNo X0.here hx rfl (hb hby d4_50) rfl (teq h3).2 ?_
    show Steps p.tables e below (T0.setTop (mkF m 53 #[.val (.ref a), .val (.int ln), .val (.int i2), .val (.int r3), .val (.int i), .val (.int w5)] [])) _
    refine XS.iload X0.here hx rfl (hb hby d4_53) rfl ?_
    show Steps p.tables e below (T0.setTop (mkF m 55 #[.val (.ref a), .val (.int ln), .val (.int i2), .val (.int r3), .val (.int i), .val (.int w5)] [(.int i)])) _
    refine XS.iconst X0.here hx rfl (hb hby d4_55) ?_
    show Steps p.tables e below (T0.setTop (mkF m 56 #[.val (.ref a), .val (.int ln), .val (.int i2), .val (.int r3), .val (.int i), .val (.int w5)] [(.int (1 : Int32)), (.int i)])) _
    refine XS.iadd X0.here hx rfl (hb hby d4_56) rfl ?_
    show Steps p.tables e below (T0.setTop (mkF m 57 #[.val (.ref a), .val (.int ln), .val (.int i2), .val (.int r3), .val (.int i), .val (.int w5)] [(.int (i + (1 : Int32)))])) _
    refine XS.istore X0.here hx rfl (hb hby d4_57) rfl (l' := #[.val (.ref a), .val (.int ln), .val (.int i2), .val (.int r3), .val (.int i), .val (.int (i + (1 : Int32)))]) rfl ?_
    show Steps p.tables e below (T0.setTop (mkF m 59 #[.val (.ref a), .val (.int ln), .val (.int i2), .val (.int r3), .val (.int i), .val (.int (i + (1 : Int32)))] [])) _
    refine XS.iload X0.here hx rfl (hb hby d4_59) rfl ?_
    show Steps p.tables e below (T0.setTop (mkF m 61 #[.val (.ref a), .val (.int ln), .val (.int i2), .val (.int r3), .val (.int i), .val (.int (i + (1 : Int32)))] [(.int (i + (1 : Int32)))])) _
    refine XS.iloadN X0.here hx rfl (hb hby d4_61) rfl ?_
    show Steps p.tables e below (T0.setTop (mkF m 62 #[.val (.ref a), .val (.int ln), .val (.int i2), .val (.int r3), .val (.int i), .val (.int (i + (1 : Int32)))] [(.int ln), (.int (i + (1 : Int32)))])) _
    refine XS.icmpNo X0.here hx rfl (hb hby d4_62) rfl (tlt h4).2.1 ?_
    show Steps p.tables e below (T0.setTop (mkF m 65 #[.val (.ref a), .val (.int ln), .val (.int i2), .val (.int r3), .val (.int i), .val (.int (i + (1 : Int32)))] [])) _
    refine XS.aloadN X0.here hx rfl (hb hby d4_65) rfl rfl ?_
    show Steps p.tables e below (T0.setTop (mkF m 66 #[.val (.ref a), .val (.int ln), .val (.int i2), .val (.int r3), .val (.int i), .val (.int (i + (1 : Int32)))] [(.ref a)])) _
    refine XS.iload X0.here hx rfl (hb hby d4_66) rfl ?_
    show Steps p.tables e below (T0.setTop (mkF m 68 #[.val (.ref a), .val (.int ln), .val (.int i2), .val (.int r3), .val (.int i), .val (.int (i + (1 : Int32)))] [(.int (i + (1 : Int32))), (.ref a)])) _
    obtain ⟨cl2, Ar2, -, S2, N2, H2, -⟩ := id V_a
    have hin2 : ¬ ((i + (1 : Int32)) < 0 ∨ cl2.slots.size ≤ ((i + (1 : Int32))).toNatClampNeg) := inb_of S2 ⟨hz_y, hl_y⟩
    have hat2 := H2.at hin2 (v := (.int y)) hu_y
    refine X0.baloadBytes hx (j := (i + (1 : Int32))) (v := (.int y)) (by rw [e0]; exact Ar2.1) (State.isArrayOf_alike hZ.alike Ar2.2.1) Ar2.2.2 hin2 hat2 (g := (mkF m 68 #[.val (.ref a), .val (.int ln), .val (.int i2), .val (.int r3), .val (.int i), .val (.int (i + (1 : Int32)))] [(.int (i + (1 : Int32))), (.ref a)])) rfl rfl (hb hby d4_68) _ ?_
    show Steps p.tables e below (T0.setTop (mkF m 69 #[.val (.ref a), .val (.int ln), .val (.int i2), .val (.int r3), .val (.int i), .val (.int (i + (1 : Int32)))] [(.int y)])) _
    refine XS.bipush X0.here hx rfl (hb hby d4_69) ?_
    show Steps p.tables e below (T0.setTop (mkF m 71 #[.val (.ref a), .val (.int ln), .val (.int i2), .val (.int r3), .val (.int i), .val (.int (i + (1 : Int32)))] [(.int (13 : Int32)), (.int y)])) _
    refine XS.icmpNo X0.here hx rfl (hb hby d4_71) rfl (teq h5).2 ?_
    show Steps p.tables e below (T0.setTop (mkF m 74 #[.val (.ref a), .val (.int ln), .val (.int i2), .val (.int r3), .val (.int i), .val (.int (i + (1 : Int32)))] [])) _
    refine XS.iinc X0.here hx rfl (hb hby d4_74) rfl (l' := #[.val (.ref a), .val (.int ln), .val (.int i2), .val (.int r3), .val (.int i), .val (.int ((i + (1 : Int32)) + (1 : Int32)))]) rfl ?_
    show Steps p.tables e below (T0.setTop (mkF m 77 #[.val (.ref a), .val (.int ln), .val (.int i2), .val (.int r3), .val (.int i), .val (.int ((i + (1 : Int32)) + (1 : Int32)))] [])) _
    refine XS.iload X0.here hx rfl (hb hby d4_77) rfl ?_
    show Steps p.tables e below (T0.setTop (mkF m 79 #[.val (.ref a), .val (.int ln), .val (.int i2), .val (.int r3), .val (.int i), .val (.int ((i + (1 : Int32)) + (1 : Int32)))] [(.int ((i + (1 : Int32)) + (1 : Int32)))])) _
    refine XS.iloadN X0.here hx rfl (hb hby d4_79) rfl ?_
    show Steps p.tables e below (T0.setTop (mkF m 80 #[.val (.ref a), .val (.int ln), .val (.int i2), .val (.int r3), .val (.int i), .val (.int ((i + (1 : Int32)) + (1 : Int32)))] [(.int ln), (.int ((i + (1 : Int32)) + (1 : Int32)))])) _
    refine XS.icmpYes X0.here hx rfl (pc0 := 80) (pc' := 97) rfl (hb hby d4_80) rfl (flt h7).2.1 (by decide) (by decide) ?_
    show Steps p.tables e below (T0.setTop (mkF m 97 #[.val (.ref a), .val (.int ln), .val (.int i2), .val (.int r3), .val (.int i), .val (.int ((i + (1 : Int32)) + (1 : Int32)))] [])) _
    refine XS.iinc X0.here hx rfl (hb hby d4_97) rfl (l' := #[.val (.ref a), .val (.int ln), .val (.int i2), .val (.int r3), .val (.int (i + (1 : Int32))), .val (.int ((i + (1 : Int32)) + (1 : Int32)))]) rfl ?_
    show Steps p.tables e below (T0.setTop (mkF m 100 #[.val (.ref a), .val (.int ln), .val (.int i2), .val (.int r3), .val (.int (i + (1 : Int32))), .val (.int ((i + (1 : Int32)) + (1 : Int32)))] [])) _
    refine XS.goto X0.here hx rfl (pc0 := 100) (pc' := 34) rfl (hb hby d4_100) (by decide) (by decide) ?_
    exact k)
  exact P3
set_option maxRecDepth 65536 in
set_option maxHeartbeats 40000000 in
theorem sg2hv {p : Program} {l : Launch} {e : Env} {R : Room} {s : State} {m : MethodId} {args' : Array Value} {below : List Frame} {meth : Method} {c : Code} {T0 : State} {locs : List Loc} {cells slots : Nat} {Z : State} {h0 : Heap} (X0 : Stand p l e R s m args' below meth c T0 locs cells slots) (hx : p.tables.exec = Jvm.exec) (hZ : Z.Warmed39 s.vm) (hby : c.code = prog_170_method_2_code) (e0 : T0.heap = h0) (a : Addr) (ka : ClassId) (c0 : Int32) (c1 : Int32) (c2 : Int32) (c3 : Int32) (c4 : Int32) (c5 : Int32) (ln : Int32) (i2 : Int32) (r3 : Int32) (i : Int32) (x : Int32) (w5 : Int32) (y : Int32) (V_a : Arv Z h0 a ka .byte (6 : Int32) [(.int c0), (.int c1), (.int c2), (.int c3), (.int c4), (.int c5)] (.int (0 : Int32))) (hz_x : ¬ i < 0) (hl_x : i < 6) (hu_x : ([(.int c0), (.int c1), (.int c2), (.int c3), (.int c4), (.int c5)] : List Value).getD (i).toNatClampNeg (.int (0 : Int32)) = .int x) (hz_y : ¬ (i + (1 : Int32)) < 0) (hl_y : (i + (1 : Int32)) < 6) (hu_y : ([(.int c0), (.int c1), (.int c2), (.int c3), (.int c4), (.int c5)] : List Value).getD ((i + (1 : Int32))).toNatClampNeg (.int (0 : Int32)) = .int y) (h1 : i < ln) (h2 : r3 < (0 : Int32)) (h3 : x = (10 : Int32)) (h4 : (i + (1 : Int32)) < ln) (h5 : ¬ (y = (13 : Int32))) (h6 : y = (10 : Int32)) :
    own_Rch p.tables e below (T0.setTop (mkF m 34 #[.val (.ref a), .val (.int ln), .val (.int i2), .val (.int r3), .val (.int i), .val (.int w5)] [])) (T0.setTop (mkF m 34 #[.val (.ref a), .val (.int ln), .val (.int i2), .val (.int ((i + (1 : Int32)) + (1 : Int32))), .val (.int (i + (1 : Int32))), .val (.int (i + (1 : Int32)))] [])) := by
  obtain ⟨A0, hA0⟩ : ∃ A, A = T0.setTop (mkF m 34 #[.val (.ref a), .val (.int ln), .val (.int i2), .val (.int r3), .val (.int i), .val (.int w5)] []) := ⟨_, rfl⟩
  have P0 : own_Rch p.tables e below A0 (T0.setTop (mkF m 34 #[.val (.ref a), .val (.int ln), .val (.int i2), .val (.int r3), .val (.int i), .val (.int w5)] [])) := fun t k => hA0 ▸ k
  rw [← hA0]
  have P4 : own_Rch p.tables e below A0 (T0.setTop (mkF m 34 #[.val (.ref a), .val (.int ln), .val (.int i2), .val (.int ((i + (1 : Int32)) + (1 : Int32))), .val (.int (i + (1 : Int32))), .val (.int (i + (1 : Int32)))] [])) := fun t k => P0 t (by
    show Steps p.tables e below (T0.setTop (mkF m 34 #[.val (.ref a), .val (.int ln), .val (.int i2), .val (.int r3), .val (.int i), .val (.int w5)] [])) _
    refine XS.iload X0.here hx rfl (hb hby d4_34) rfl ?_
    show Steps p.tables e below (T0.setTop (mkF m 36 #[.val (.ref a), .val (.int ln), .val (.int i2), .val (.int r3), .val (.int i), .val (.int w5)] [(.int i)])) _
    refine XS.iloadN X0.here hx rfl (hb hby d4_36) rfl ?_
    show Steps p.tables e below (T0.setTop (mkF m 37 #[.val (.ref a), .val (.int ln), .val (.int i2), .val (.int r3), .val (.int i), .val (.int w5)] [(.int ln), (.int i)])) _
    refine XS.icmpNo X0.here hx rfl (hb hby d4_37) rfl (tlt h1).2.1 ?_
    show Steps p.tables e below (T0.setTop (mkF m 40 #[.val (.ref a), .val (.int ln), .val (.int i2), .val (.int r3), .val (.int i), .val (.int w5)] [])) _
    refine XS.iloadN X0.here hx rfl (hb hby d4_40) rfl ?_
    show Steps p.tables e below (T0.setTop (mkF m 41 #[.val (.ref a), .val (.int ln), .val (.int i2), .val (.int r3), .val (.int i), .val (.int w5)] [(.int r3)])) _
    refine XS.ifNo X0.here hx rfl (hb hby d4_41) rfl ((if0 _ _).trans (tlt h2).2.1) ?_
    show Steps p.tables e below (T0.setTop (mkF m 44 #[.val (.ref a), .val (.int ln), .val (.int i2), .val (.int r3), .val (.int i), .val (.int w5)] [])) _
    refine XS.aloadN X0.here hx rfl (hb hby d4_44) rfl rfl ?_
    show Steps p.tables e below (T0.setTop (mkF m 45 #[.val (.ref a), .val (.int ln), .val (.int i2), .val (.int r3), .val (.int i), .val (.int w5)] [(.ref a)])) _
    refine XS.iload X0.here hx rfl (hb hby d4_45) rfl ?_
    show Steps p.tables e below (T0.setTop (mkF m 47 #[.val (.ref a), .val (.int ln), .val (.int i2), .val (.int r3), .val (.int i), .val (.int w5)] [(.int i), (.ref a)])) _
    obtain ⟨cl1, Ar1, -, S1, N1, H1, -⟩ := id V_a
    have hin1 : ¬ (i < 0 ∨ cl1.slots.size ≤ (i).toNatClampNeg) := inb_of S1 ⟨hz_x, hl_x⟩
    have hat1 := H1.at hin1 (v := (.int x)) hu_x
    refine X0.baloadBytes hx (j := i) (v := (.int x)) (by rw [e0]; exact Ar1.1) (State.isArrayOf_alike hZ.alike Ar1.2.1) Ar1.2.2 hin1 hat1 (g := (mkF m 47 #[.val (.ref a), .val (.int ln), .val (.int i2), .val (.int r3), .val (.int i), .val (.int w5)] [(.int i), (.ref a)])) rfl rfl (hb hby d4_47) _ ?_
    show Steps p.tables e below (T0.setTop (mkF m 48 #[.val (.ref a), .val (.int ln), .val (.int i2), .val (.int r3), .val (.int i), .val (.int w5)] [(.int x)])) _
    refine XS.bipush X0.here hx rfl (hb hby d4_48) ?_
    show Steps p.tables e below (T0.setTop (mkF m 50 #[.val (.ref a), .val (.int ln), .val (.int i2), .val (.int r3), .val (.int i), .val (.int w5)] [(.int (10 : Int32)), (.int x)])) _
    refine XS.icmpNo X0.here hx rfl (hb hby d4_50) rfl (teq h3).2 ?_
    show Steps p.tables e below (T0.setTop (mkF m 53 #[.val (.ref a), .val (.int ln), .val (.int i2), .val (.int r3), .val (.int i), .val (.int w5)] [])) _
    refine XS.iload X0.here hx rfl (hb hby d4_53) rfl ?_
    show Steps p.tables e below (T0.setTop (mkF m 55 #[.val (.ref a), .val (.int ln), .val (.int i2), .val (.int r3), .val (.int i), .val (.int w5)] [(.int i)])) _
    refine XS.iconst X0.here hx rfl (hb hby d4_55) ?_
    show Steps p.tables e below (T0.setTop (mkF m 56 #[.val (.ref a), .val (.int ln), .val (.int i2), .val (.int r3), .val (.int i), .val (.int w5)] [(.int (1 : Int32)), (.int i)])) _
    refine XS.iadd X0.here hx rfl (hb hby d4_56) rfl ?_
    show Steps p.tables e below (T0.setTop (mkF m 57 #[.val (.ref a), .val (.int ln), .val (.int i2), .val (.int r3), .val (.int i), .val (.int w5)] [(.int (i + (1 : Int32)))])) _
    refine XS.istore X0.here hx rfl (hb hby d4_57) rfl (l' := #[.val (.ref a), .val (.int ln), .val (.int i2), .val (.int r3), .val (.int i), .val (.int (i + (1 : Int32)))]) rfl ?_
    show Steps p.tables e below (T0.setTop (mkF m 59 #[.val (.ref a), .val (.int ln), .val (.int i2), .val (.int r3), .val (.int i), .val (.int (i + (1 : Int32)))] [])) _
    refine XS.iload X0.here hx rfl (hb hby d4_59) rfl ?_
    show Steps p.tables e below (T0.setTop (mkF m 61 #[.val (.ref a), .val (.int ln), .val (.int i2), .val (.int r3), .val (.int i), .val (.int (i + (1 : Int32)))] [(.int (i + (1 : Int32)))])) _
    refine XS.iloadN X0.here hx rfl (hb hby d4_61) rfl ?_
    show Steps p.tables e below (T0.setTop (mkF m 62 #[.val (.ref a), .val (.int ln), .val (.int i2), .val (.int r3), .val (.int i), .val (.int (i + (1 : Int32)))] [(.int ln), (.int (i + (1 : Int32)))])) _
    refine XS.icmpNo X0.here hx rfl (hb hby d4_62) rfl (tlt h4).2.1 ?_
    show Steps p.tables e below (T0.setTop (mkF m 65 #[.val (.ref a), .val (.int ln), .val (.int i2), .val (.int r3), .val (.int i), .val (.int (i + (1 : Int32)))] [])) _
    refine XS.aloadN X0.here hx rfl (hb hby d4_65) rfl rfl ?_
    show Steps p.tables e below (T0.setTop (mkF m 66 #[.val (.ref a), .val (.int ln), .val (.int i2), .val (.int r3), .val (.int i), .val (.int (i + (1 : Int32)))] [(.ref a)])) _
    refine XS.iload X0.here hx rfl (hb hby d4_66) rfl ?_
    show Steps p.tables e below (T0.setTop (mkF m 68 #[.val (.ref a), .val (.int ln), .val (.int i2), .val (.int r3), .val (.int i), .val (.int (i + (1 : Int32)))] [(.int (i + (1 : Int32))), (.ref a)])) _
    obtain ⟨cl2, Ar2, -, S2, N2, H2, -⟩ := id V_a
    have hin2 : ¬ ((i + (1 : Int32)) < 0 ∨ cl2.slots.size ≤ ((i + (1 : Int32))).toNatClampNeg) := inb_of S2 ⟨hz_y, hl_y⟩
    have hat2 := H2.at hin2 (v := (.int y)) hu_y
    refine X0.baloadBytes hx (j := (i + (1 : Int32))) (v := (.int y)) (by rw [e0]; exact Ar2.1) (State.isArrayOf_alike hZ.alike Ar2.2.1) Ar2.2.2 hin2 hat2 (g := (mkF m 68 #[.val (.ref a), .val (.int ln), .val (.int i2), .val (.int r3), .val (.int i), .val (.int (i + (1 : Int32)))] [(.int (i + (1 : Int32))), (.ref a)])) rfl rfl (hb hby d4_68) _ ?_
    show Steps p.tables e below (T0.setTop (mkF m 69 #[.val (.ref a), .val (.int ln), .val (.int i2), .val (.int r3), .val (.int i), .val (.int (i + (1 : Int32)))] [(.int y)])) _
    refine XS.bipush X0.here hx rfl (hb hby d4_69) ?_
    show Steps p.tables e below (T0.setTop (mkF m 71 #[.val (.ref a), .val (.int ln), .val (.int i2), .val (.int r3), .val (.int i), .val (.int (i + (1 : Int32)))] [(.int (13 : Int32)), (.int y)])) _
    refine XS.icmpYes X0.here hx rfl (pc0 := 71) (pc' := 77) rfl (hb hby d4_71) rfl (feq h5).2 (by decide) (by decide) ?_
    show Steps p.tables e below (T0.setTop (mkF m 77 #[.val (.ref a), .val (.int ln), .val (.int i2), .val (.int r3), .val (.int i), .val (.int (i + (1 : Int32)))] [])) _
    refine XS.iload X0.here hx rfl (hb hby d4_77) rfl ?_
    show Steps p.tables e below (T0.setTop (mkF m 79 #[.val (.ref a), .val (.int ln), .val (.int i2), .val (.int r3), .val (.int i), .val (.int (i + (1 : Int32)))] [(.int (i + (1 : Int32)))])) _
    refine XS.iloadN X0.here hx rfl (hb hby d4_79) rfl ?_
    show Steps p.tables e below (T0.setTop (mkF m 80 #[.val (.ref a), .val (.int ln), .val (.int i2), .val (.int r3), .val (.int i), .val (.int (i + (1 : Int32)))] [(.int ln), (.int (i + (1 : Int32)))])) _
    refine XS.icmpNo X0.here hx rfl (hb hby d4_80) rfl (tlt h4).2.1 ?_
    show Steps p.tables e below (T0.setTop (mkF m 83 #[.val (.ref a), .val (.int ln), .val (.int i2), .val (.int r3), .val (.int i), .val (.int (i + (1 : Int32)))] [])) _
    refine XS.aloadN X0.here hx rfl (hb hby d4_83) rfl rfl ?_
    show Steps p.tables e below (T0.setTop (mkF m 84 #[.val (.ref a), .val (.int ln), .val (.int i2), .val (.int r3), .val (.int i), .val (.int (i + (1 : Int32)))] [(.ref a)])) _
    refine XS.iload X0.here hx rfl (hb hby d4_84) rfl ?_
    show Steps p.tables e below (T0.setTop (mkF m 86 #[.val (.ref a), .val (.int ln), .val (.int i2), .val (.int r3), .val (.int i), .val (.int (i + (1 : Int32)))] [(.int (i + (1 : Int32))), (.ref a)])) _
    obtain ⟨cl3, Ar3, -, S3, N3, H3, -⟩ := id V_a
    have hin3 : ¬ ((i + (1 : Int32)) < 0 ∨ cl3.slots.size ≤ ((i + (1 : Int32))).toNatClampNeg) := inb_of S3 ⟨hz_y, hl_y⟩
    have hat3 := H3.at hin3 (v := (.int y)) hu_y
    refine X0.baloadBytes hx (j := (i + (1 : Int32))) (v := (.int y)) (by rw [e0]; exact Ar3.1) (State.isArrayOf_alike hZ.alike Ar3.2.1) Ar3.2.2 hin3 hat3 (g := (mkF m 86 #[.val (.ref a), .val (.int ln), .val (.int i2), .val (.int r3), .val (.int i), .val (.int (i + (1 : Int32)))] [(.int (i + (1 : Int32))), (.ref a)])) rfl rfl (hb hby d4_86) _ ?_
    show Steps p.tables e below (T0.setTop (mkF m 87 #[.val (.ref a), .val (.int ln), .val (.int i2), .val (.int r3), .val (.int i), .val (.int (i + (1 : Int32)))] [(.int y)])) _
    refine XS.bipush X0.here hx rfl (hb hby d4_87) ?_
    show Steps p.tables e below (T0.setTop (mkF m 89 #[.val (.ref a), .val (.int ln), .val (.int i2), .val (.int r3), .val (.int i), .val (.int (i + (1 : Int32)))] [(.int (10 : Int32)), (.int y)])) _
    refine XS.icmpNo X0.here hx rfl (hb hby d4_89) rfl (teq h6).2 ?_
    show Steps p.tables e below (T0.setTop (mkF m 92 #[.val (.ref a), .val (.int ln), .val (.int i2), .val (.int r3), .val (.int i), .val (.int (i + (1 : Int32)))] [])) _
    refine XS.iload X0.here hx rfl (hb hby d4_92) rfl ?_
    show Steps p.tables e below (T0.setTop (mkF m 94 #[.val (.ref a), .val (.int ln), .val (.int i2), .val (.int r3), .val (.int i), .val (.int (i + (1 : Int32)))] [(.int (i + (1 : Int32)))])) _
    refine XS.iconst X0.here hx rfl (hb hby d4_94) ?_
    show Steps p.tables e below (T0.setTop (mkF m 95 #[.val (.ref a), .val (.int ln), .val (.int i2), .val (.int r3), .val (.int i), .val (.int (i + (1 : Int32)))] [(.int (1 : Int32)), (.int (i + (1 : Int32)))])) _
    refine XS.iadd X0.here hx rfl (hb hby d4_95) rfl ?_
    show Steps p.tables e below (T0.setTop (mkF m 96 #[.val (.ref a), .val (.int ln), .val (.int i2), .val (.int r3), .val (.int i), .val (.int (i + (1 : Int32)))] [(.int ((i + (1 : Int32)) + (1 : Int32)))])) _
    refine XS.istoreN X0.here hx rfl (hb hby d4_96) rfl (l' := #[.val (.ref a), .val (.int ln), .val (.int i2), .val (.int ((i + (1 : Int32)) + (1 : Int32))), .val (.int i), .val (.int (i + (1 : Int32)))]) rfl ?_
    show Steps p.tables e below (T0.setTop (mkF m 97 #[.val (.ref a), .val (.int ln), .val (.int i2), .val (.int ((i + (1 : Int32)) + (1 : Int32))), .val (.int i), .val (.int (i + (1 : Int32)))] [])) _
    refine XS.iinc X0.here hx rfl (hb hby d4_97) rfl (l' := #[.val (.ref a), .val (.int ln), .val (.int i2), .val (.int ((i + (1 : Int32)) + (1 : Int32))), .val (.int (i + (1 : Int32))), .val (.int (i + (1 : Int32)))]) rfl ?_
    show Steps p.tables e below (T0.setTop (mkF m 100 #[.val (.ref a), .val (.int ln), .val (.int i2), .val (.int ((i + (1 : Int32)) + (1 : Int32))), .val (.int (i + (1 : Int32))), .val (.int (i + (1 : Int32)))] [])) _
    refine XS.goto X0.here hx rfl (pc0 := 100) (pc' := 34) rfl (hb hby d4_100) (by decide) (by decide) ?_
    exact k)
  exact P4
set_option maxRecDepth 65536 in
set_option maxHeartbeats 40000000 in
theorem sg2iv {p : Program} {l : Launch} {e : Env} {R : Room} {s : State} {m : MethodId} {args' : Array Value} {below : List Frame} {meth : Method} {c : Code} {T0 : State} {locs : List Loc} {cells slots : Nat} {Z : State} {h0 : Heap} (X0 : Stand p l e R s m args' below meth c T0 locs cells slots) (hx : p.tables.exec = Jvm.exec) (hZ : Z.Warmed39 s.vm) (hby : c.code = prog_170_method_2_code) (e0 : T0.heap = h0) (a : Addr) (ka : ClassId) (c0 : Int32) (c1 : Int32) (c2 : Int32) (c3 : Int32) (c4 : Int32) (c5 : Int32) (ln : Int32) (i2 : Int32) (r3 : Int32) (i : Int32) (x : Int32) (w5 : Int32) (y : Int32) (V_a : Arv Z h0 a ka .byte (6 : Int32) [(.int c0), (.int c1), (.int c2), (.int c3), (.int c4), (.int c5)] (.int (0 : Int32))) (hz_x : ¬ i < 0) (hl_x : i < 6) (hu_x : ([(.int c0), (.int c1), (.int c2), (.int c3), (.int c4), (.int c5)] : List Value).getD (i).toNatClampNeg (.int (0 : Int32)) = .int x) (hz_y : ¬ (i + (1 : Int32)) < 0) (hl_y : (i + (1 : Int32)) < 6) (hu_y : ([(.int c0), (.int c1), (.int c2), (.int c3), (.int c4), (.int c5)] : List Value).getD ((i + (1 : Int32))).toNatClampNeg (.int (0 : Int32)) = .int y) (h1 : i < ln) (h2 : r3 < (0 : Int32)) (h3 : x = (10 : Int32)) (h4 : (i + (1 : Int32)) < ln) (h5 : ¬ (y = (13 : Int32))) (h6 : ¬ (y = (10 : Int32))) :
    own_Rch p.tables e below (T0.setTop (mkF m 34 #[.val (.ref a), .val (.int ln), .val (.int i2), .val (.int r3), .val (.int i), .val (.int w5)] [])) (T0.setTop (mkF m 34 #[.val (.ref a), .val (.int ln), .val (.int i2), .val (.int r3), .val (.int (i + (1 : Int32))), .val (.int (i + (1 : Int32)))] [])) := by
  obtain ⟨A0, hA0⟩ : ∃ A, A = T0.setTop (mkF m 34 #[.val (.ref a), .val (.int ln), .val (.int i2), .val (.int r3), .val (.int i), .val (.int w5)] []) := ⟨_, rfl⟩
  have P0 : own_Rch p.tables e below A0 (T0.setTop (mkF m 34 #[.val (.ref a), .val (.int ln), .val (.int i2), .val (.int r3), .val (.int i), .val (.int w5)] [])) := fun t k => hA0 ▸ k
  rw [← hA0]
  have P4 : own_Rch p.tables e below A0 (T0.setTop (mkF m 34 #[.val (.ref a), .val (.int ln), .val (.int i2), .val (.int r3), .val (.int (i + (1 : Int32))), .val (.int (i + (1 : Int32)))] [])) := fun t k => P0 t (by
    show Steps p.tables e below (T0.setTop (mkF m 34 #[.val (.ref a), .val (.int ln), .val (.int i2), .val (.int r3), .val (.int i), .val (.int w5)] [])) _
    refine XS.iload X0.here hx rfl (hb hby d4_34) rfl ?_
    show Steps p.tables e below (T0.setTop (mkF m 36 #[.val (.ref a), .val (.int ln), .val (.int i2), .val (.int r3), .val (.int i), .val (.int w5)] [(.int i)])) _
    refine XS.iloadN X0.here hx rfl (hb hby d4_36) rfl ?_
    show Steps p.tables e below (T0.setTop (mkF m 37 #[.val (.ref a), .val (.int ln), .val (.int i2), .val (.int r3), .val (.int i), .val (.int w5)] [(.int ln), (.int i)])) _
    refine XS.icmpNo X0.here hx rfl (hb hby d4_37) rfl (tlt h1).2.1 ?_
    show Steps p.tables e below (T0.setTop (mkF m 40 #[.val (.ref a), .val (.int ln), .val (.int i2), .val (.int r3), .val (.int i), .val (.int w5)] [])) _
    refine XS.iloadN X0.here hx rfl (hb hby d4_40) rfl ?_
    show Steps p.tables e below (T0.setTop (mkF m 41 #[.val (.ref a), .val (.int ln), .val (.int i2), .val (.int r3), .val (.int i), .val (.int w5)] [(.int r3)])) _
    refine XS.ifNo X0.here hx rfl (hb hby d4_41) rfl ((if0 _ _).trans (tlt h2).2.1) ?_
    show Steps p.tables e below (T0.setTop (mkF m 44 #[.val (.ref a), .val (.int ln), .val (.int i2), .val (.int r3), .val (.int i), .val (.int w5)] [])) _
    refine XS.aloadN X0.here hx rfl (hb hby d4_44) rfl rfl ?_
    show Steps p.tables e below (T0.setTop (mkF m 45 #[.val (.ref a), .val (.int ln), .val (.int i2), .val (.int r3), .val (.int i), .val (.int w5)] [(.ref a)])) _
    refine XS.iload X0.here hx rfl (hb hby d4_45) rfl ?_
    show Steps p.tables e below (T0.setTop (mkF m 47 #[.val (.ref a), .val (.int ln), .val (.int i2), .val (.int r3), .val (.int i), .val (.int w5)] [(.int i), (.ref a)])) _
    obtain ⟨cl1, Ar1, -, S1, N1, H1, -⟩ := id V_a
    have hin1 : ¬ (i < 0 ∨ cl1.slots.size ≤ (i).toNatClampNeg) := inb_of S1 ⟨hz_x, hl_x⟩
    have hat1 := H1.at hin1 (v := (.int x)) hu_x
    refine X0.baloadBytes hx (j := i) (v := (.int x)) (by rw [e0]; exact Ar1.1) (State.isArrayOf_alike hZ.alike Ar1.2.1) Ar1.2.2 hin1 hat1 (g := (mkF m 47 #[.val (.ref a), .val (.int ln), .val (.int i2), .val (.int r3), .val (.int i), .val (.int w5)] [(.int i), (.ref a)])) rfl rfl (hb hby d4_47) _ ?_
    show Steps p.tables e below (T0.setTop (mkF m 48 #[.val (.ref a), .val (.int ln), .val (.int i2), .val (.int r3), .val (.int i), .val (.int w5)] [(.int x)])) _
    refine XS.bipush X0.here hx rfl (hb hby d4_48) ?_
    show Steps p.tables e below (T0.setTop (mkF m 50 #[.val (.ref a), .val (.int ln), .val (.int i2), .val (.int r3), .val (.int i), .val (.int w5)] [(.int (10 : Int32)), (.int x)])) _
    refine XS.icmpNo X0.here hx rfl (hb hby d4_50) rfl (teq h3).2 ?_
    show Steps p.tables e below (T0.setTop (mkF m 53 #[.val (.ref a), .val (.int ln), .val (.int i2), .val (.int r3), .val (.int i), .val (.int w5)] [])) _
    refine XS.iload X0.here hx rfl (hb hby d4_53) rfl ?_
    show Steps p.tables e below (T0.setTop (mkF m 55 #[.val (.ref a), .val (.int ln), .val (.int i2), .val (.int r3), .val (.int i), .val (.int w5)] [(.int i)])) _
    refine XS.iconst X0.here hx rfl (hb hby d4_55) ?_
    show Steps p.tables e below (T0.setTop (mkF m 56 #[.val (.ref a), .val (.int ln), .val (.int i2), .val (.int r3), .val (.int i), .val (.int w5)] [(.int (1 : Int32)), (.int i)])) _
    refine XS.iadd X0.here hx rfl (hb hby d4_56) rfl ?_
    show Steps p.tables e below (T0.setTop (mkF m 57 #[.val (.ref a), .val (.int ln), .val (.int i2), .val (.int r3), .val (.int i), .val (.int w5)] [(.int (i + (1 : Int32)))])) _
    refine XS.istore X0.here hx rfl (hb hby d4_57) rfl (l' := #[.val (.ref a), .val (.int ln), .val (.int i2), .val (.int r3), .val (.int i), .val (.int (i + (1 : Int32)))]) rfl ?_
    show Steps p.tables e below (T0.setTop (mkF m 59 #[.val (.ref a), .val (.int ln), .val (.int i2), .val (.int r3), .val (.int i), .val (.int (i + (1 : Int32)))] [])) _
    refine XS.iload X0.here hx rfl (hb hby d4_59) rfl ?_
    show Steps p.tables e below (T0.setTop (mkF m 61 #[.val (.ref a), .val (.int ln), .val (.int i2), .val (.int r3), .val (.int i), .val (.int (i + (1 : Int32)))] [(.int (i + (1 : Int32)))])) _
    refine XS.iloadN X0.here hx rfl (hb hby d4_61) rfl ?_
    show Steps p.tables e below (T0.setTop (mkF m 62 #[.val (.ref a), .val (.int ln), .val (.int i2), .val (.int r3), .val (.int i), .val (.int (i + (1 : Int32)))] [(.int ln), (.int (i + (1 : Int32)))])) _
    refine XS.icmpNo X0.here hx rfl (hb hby d4_62) rfl (tlt h4).2.1 ?_
    show Steps p.tables e below (T0.setTop (mkF m 65 #[.val (.ref a), .val (.int ln), .val (.int i2), .val (.int r3), .val (.int i), .val (.int (i + (1 : Int32)))] [])) _
    refine XS.aloadN X0.here hx rfl (hb hby d4_65) rfl rfl ?_
    show Steps p.tables e below (T0.setTop (mkF m 66 #[.val (.ref a), .val (.int ln), .val (.int i2), .val (.int r3), .val (.int i), .val (.int (i + (1 : Int32)))] [(.ref a)])) _
    refine XS.iload X0.here hx rfl (hb hby d4_66) rfl ?_
    show Steps p.tables e below (T0.setTop (mkF m 68 #[.val (.ref a), .val (.int ln), .val (.int i2), .val (.int r3), .val (.int i), .val (.int (i + (1 : Int32)))] [(.int (i + (1 : Int32))), (.ref a)])) _
    obtain ⟨cl2, Ar2, -, S2, N2, H2, -⟩ := id V_a
    have hin2 : ¬ ((i + (1 : Int32)) < 0 ∨ cl2.slots.size ≤ ((i + (1 : Int32))).toNatClampNeg) := inb_of S2 ⟨hz_y, hl_y⟩
    have hat2 := H2.at hin2 (v := (.int y)) hu_y
    refine X0.baloadBytes hx (j := (i + (1 : Int32))) (v := (.int y)) (by rw [e0]; exact Ar2.1) (State.isArrayOf_alike hZ.alike Ar2.2.1) Ar2.2.2 hin2 hat2 (g := (mkF m 68 #[.val (.ref a), .val (.int ln), .val (.int i2), .val (.int r3), .val (.int i), .val (.int (i + (1 : Int32)))] [(.int (i + (1 : Int32))), (.ref a)])) rfl rfl (hb hby d4_68) _ ?_
    show Steps p.tables e below (T0.setTop (mkF m 69 #[.val (.ref a), .val (.int ln), .val (.int i2), .val (.int r3), .val (.int i), .val (.int (i + (1 : Int32)))] [(.int y)])) _
    refine XS.bipush X0.here hx rfl (hb hby d4_69) ?_
    show Steps p.tables e below (T0.setTop (mkF m 71 #[.val (.ref a), .val (.int ln), .val (.int i2), .val (.int r3), .val (.int i), .val (.int (i + (1 : Int32)))] [(.int (13 : Int32)), (.int y)])) _
    refine XS.icmpYes X0.here hx rfl (pc0 := 71) (pc' := 77) rfl (hb hby d4_71) rfl (feq h5).2 (by decide) (by decide) ?_
    show Steps p.tables e below (T0.setTop (mkF m 77 #[.val (.ref a), .val (.int ln), .val (.int i2), .val (.int r3), .val (.int i), .val (.int (i + (1 : Int32)))] [])) _
    refine XS.iload X0.here hx rfl (hb hby d4_77) rfl ?_
    show Steps p.tables e below (T0.setTop (mkF m 79 #[.val (.ref a), .val (.int ln), .val (.int i2), .val (.int r3), .val (.int i), .val (.int (i + (1 : Int32)))] [(.int (i + (1 : Int32)))])) _
    refine XS.iloadN X0.here hx rfl (hb hby d4_79) rfl ?_
    show Steps p.tables e below (T0.setTop (mkF m 80 #[.val (.ref a), .val (.int ln), .val (.int i2), .val (.int r3), .val (.int i), .val (.int (i + (1 : Int32)))] [(.int ln), (.int (i + (1 : Int32)))])) _
    refine XS.icmpNo X0.here hx rfl (hb hby d4_80) rfl (tlt h4).2.1 ?_
    show Steps p.tables e below (T0.setTop (mkF m 83 #[.val (.ref a), .val (.int ln), .val (.int i2), .val (.int r3), .val (.int i), .val (.int (i + (1 : Int32)))] [])) _
    refine XS.aloadN X0.here hx rfl (hb hby d4_83) rfl rfl ?_
    show Steps p.tables e below (T0.setTop (mkF m 84 #[.val (.ref a), .val (.int ln), .val (.int i2), .val (.int r3), .val (.int i), .val (.int (i + (1 : Int32)))] [(.ref a)])) _
    refine XS.iload X0.here hx rfl (hb hby d4_84) rfl ?_
    show Steps p.tables e below (T0.setTop (mkF m 86 #[.val (.ref a), .val (.int ln), .val (.int i2), .val (.int r3), .val (.int i), .val (.int (i + (1 : Int32)))] [(.int (i + (1 : Int32))), (.ref a)])) _
    obtain ⟨cl3, Ar3, -, S3, N3, H3, -⟩ := id V_a
    have hin3 : ¬ ((i + (1 : Int32)) < 0 ∨ cl3.slots.size ≤ ((i + (1 : Int32))).toNatClampNeg) := inb_of S3 ⟨hz_y, hl_y⟩
    have hat3 := H3.at hin3 (v := (.int y)) hu_y
    refine X0.baloadBytes hx (j := (i + (1 : Int32))) (v := (.int y)) (by rw [e0]; exact Ar3.1) (State.isArrayOf_alike hZ.alike Ar3.2.1) Ar3.2.2 hin3 hat3 (g := (mkF m 86 #[.val (.ref a), .val (.int ln), .val (.int i2), .val (.int r3), .val (.int i), .val (.int (i + (1 : Int32)))] [(.int (i + (1 : Int32))), (.ref a)])) rfl rfl (hb hby d4_86) _ ?_
    show Steps p.tables e below (T0.setTop (mkF m 87 #[.val (.ref a), .val (.int ln), .val (.int i2), .val (.int r3), .val (.int i), .val (.int (i + (1 : Int32)))] [(.int y)])) _
    refine XS.bipush X0.here hx rfl (hb hby d4_87) ?_
    show Steps p.tables e below (T0.setTop (mkF m 89 #[.val (.ref a), .val (.int ln), .val (.int i2), .val (.int r3), .val (.int i), .val (.int (i + (1 : Int32)))] [(.int (10 : Int32)), (.int y)])) _
    refine XS.icmpYes X0.here hx rfl (pc0 := 89) (pc' := 97) rfl (hb hby d4_89) rfl (feq h6).2 (by decide) (by decide) ?_
    show Steps p.tables e below (T0.setTop (mkF m 97 #[.val (.ref a), .val (.int ln), .val (.int i2), .val (.int r3), .val (.int i), .val (.int (i + (1 : Int32)))] [])) _
    refine XS.iinc X0.here hx rfl (hb hby d4_97) rfl (l' := #[.val (.ref a), .val (.int ln), .val (.int i2), .val (.int r3), .val (.int (i + (1 : Int32))), .val (.int (i + (1 : Int32)))]) rfl ?_
    show Steps p.tables e below (T0.setTop (mkF m 100 #[.val (.ref a), .val (.int ln), .val (.int i2), .val (.int r3), .val (.int (i + (1 : Int32))), .val (.int (i + (1 : Int32)))] [])) _
    refine XS.goto X0.here hx rfl (pc0 := 100) (pc' := 34) rfl (hb hby d4_100) (by decide) (by decide) ?_
    exact k)
  exact P4
def own_u (c0 c1 c2 c3 c4 c5 : Int32) : List Int32 := [own_r c0, own_r c1, own_r c2, own_r c3, own_r c4, own_r c5]
theorem own_ug (c0 c1 c2 c3 c4 c5 : Int32) (j : Nat) (hj : j < 6) : (own_u c0 c1 c2 c3 c4 c5).getD j 0 = own_r ([c0, c1, c2, c3, c4, c5].getD j 0) := by
  match j, hj with
  | 0, _ => rfl
  | 1, _ => rfl
  | 2, _ => rfl
  | 3, _ => rfl
  | 4, _ => rfl
  | 5, _ => rfl
def own_l1 (u : List Int32) : Nat → Nat → Nat
  | 0, j => j
  | f + 1, j => if u.getD j 0 = 13 then own_l1 u f (j + 1) else if u.getD j 0 = 10 then own_l1 u f (j + 1) else j
def own_l2 (u : List Int32) (n : Nat) : Nat → Nat → Int32
  | 0, _ => -1
  | f + 1, j => if u.getD j 0 = 10 then (if j + 1 < n then (if u.getD (j + 1) 0 = 13 then (if j + 2 < n then (if u.getD (j + 2) 0 = 10 then Int32.ofNat (j + 3) else own_l2 u n f (j + 1)) else own_l2 u n f (j + 1)) else if u.getD (j + 1) 0 = 10 then Int32.ofNat (j + 2) else own_l2 u n f (j + 1)) else own_l2 u n f (j + 1)) else own_l2 u n f (j + 1)
theorem own_l1_le (u : List Int32) : ∀ (f j : Nat), own_l1 u f j ≤ j + f
  | 0, j => Nat.le_refl _
  | f + 1, j => by
    have h := own_l1_le u f (j + 1)
    unfold own_l1; split
    · omega
    · split <;> omega
theorem own_loop1 {p : Program} {l : Launch} {e : Env} {R : Room} {s : State} {m : MethodId} {args' : Array Value} {below : List Frame} {meth : Method} {c : Code} {T0 : State} {locs : List Loc} {cells slots : Nat} {Z : State} {h0 : Heap} (X0 : Stand p l e R s m args' below meth c T0 locs cells slots) (hx : p.tables.exec = Jvm.exec) (hZ : Z.Warmed39 s.vm) (hby : c.code = prog_170_method_2_code) (e0 : T0.heap = h0) (a : Addr) (ka : ClassId) (c0 c1 c2 c3 c4 c5 : Int32) (V_a : Arv Z h0 a ka .byte (6 : Int32) [(.int c0), (.int c1), (.int c2), (.int c3), (.int c4), (.int c5)] (.int (0 : Int32))) (n : Nat) (hn : n ≤ 6) : ∀ (f j : Nat), j + f = n → own_Rch p.tables e below (T0.setTop (mkF m 2 #[.val (.ref a), .val (.int (Int32.ofNat n)), .val (.int (Int32.ofNat j)), .unset, .unset, .unset] [])) (T0.setTop (mkF m 29 #[.val (.ref a), .val (.int (Int32.ofNat n)), .val (.int (Int32.ofNat (own_l1 (own_u c0 c1 c2 c3 c4 c5) f j))), .unset, .unset, .unset] [])) := by
  intro f
  induction f with
  | zero =>
    intro j hj
    have hj' : j = n := by omega
    subst hj'
    exact sg1d X0 hx hZ hby e0 a ka c0 c1 c2 c3 c4 c5 (Int32.ofNat j) (Int32.ofNat j) 0 V_a (by rw [own_of (by omega) (by omega)]; omega)
  | succ f ih =>
    intro j hj t k
    have b1 : Int32.ofNat j < Int32.ofNat n := by rw [own_of (by omega) (by omega)]; omega
    have b2 : Int32.ofNat j < 6 := by rw [show (6 : Int32) = Int32.ofNat 6 from rfl, own_of (by omega) (by omega)]; omega
    have b3 : ¬ Int32.ofNat j < 0 := own_nn (by omega)
    have hu := own_get c0 c1 c2 c3 c4 c5 (j := j) (by omega)
    have hg := own_ug c0 c1 c2 c3 c4 c5 j (by omega)
    generalize hX : [c0, c1, c2, c3, c4, c5].getD j 0 = x at hu hg
    unfold own_l1 at k
    rw [hg] at k
    by_cases q1 : x = 13
    · rw [if_pos (own_p13 q1)] at k
      refine sg1a X0 hx hZ hby e0 a ka c0 c1 c2 c3 c4 c5 (Int32.ofNat n) (Int32.ofNat j) x V_a b3 b2 hu b1 q1 t ?_
      rw [own_add]; exact ih (j + 1) (by omega) t k
    · rw [if_neg (own_n13 q1)] at k
      by_cases q2 : x = 10
      · rw [if_pos (own_p10 q2)] at k
        refine sg1b X0 hx hZ hby e0 a ka c0 c1 c2 c3 c4 c5 (Int32.ofNat n) (Int32.ofNat j) x V_a b3 b2 hu b1 q1 q2 t ?_
        rw [own_add]; exact ih (j + 1) (by omega) t k
      · rw [if_neg (own_n10 q2)] at k
        exact sg1c X0 hx hZ hby e0 a ka c0 c1 c2 c3 c4 c5 (Int32.ofNat n) (Int32.ofNat j) x V_a b3 b2 hu b1 q1 q2 t k
def own_S (s5 : Slot) : Prop := s5 = .unset ∨ ∃ w, s5 = .val (.int w)
/-- the loop has found its end: it is left -/
theorem own_out {p : Program} {l : Launch} {e : Env} {R : Room} {s : State} {m : MethodId} {args' : Array Value} {below : List Frame} {meth : Method} {c : Code} {T0 : State} {locs : List Loc} {cells slots : Nat} {Z : State} {h0 : Heap} (X0 : Stand p l e R s m args' below meth c T0 locs cells slots) (hx : p.tables.exec = Jvm.exec) (hZ : Z.Warmed39 s.vm) (hby : c.code = prog_170_method_2_code) (e0 : T0.heap = h0) (a : Addr) (ka : ClassId) (c0 c1 c2 c3 c4 c5 : Int32) (V_a : Arv Z h0 a ka .byte (6 : Int32) [(.int c0), (.int c1), (.int c2), (.int c3), (.int c4), (.int c5)] (.int (0 : Int32))) (n : Nat) (hn : n ≤ 6) (i2 r3 : Int32) (h3 : ¬ r3 < 0) (i : Int32) (s5 : Slot) (h5 : own_S s5) : ∃ (i' : Int32) (s5' : Slot), own_Rch p.tables e below (T0.setTop (mkF m 34 #[.val (.ref a), .val (.int (Int32.ofNat n)), .val (.int i2), .val (.int r3), .val (.int i), s5] [])) (T0.setTop (mkF m 103 #[.val (.ref a), .val (.int (Int32.ofNat n)), .val (.int i2), .val (.int r3), .val (.int i'), s5'] [])) := by
  refine ⟨i, s5, ?_⟩
  by_cases q : i < Int32.ofNat n
  · rcases h5 with rfl | ⟨w, rfl⟩
    · exact sg2bu X0 hx hZ hby e0 a ka c0 c1 c2 c3 c4 c5 (Int32.ofNat n) i2 r3 i 0 V_a q h3
    · exact sg2bv X0 hx hZ hby e0 a ka c0 c1 c2 c3 c4 c5 (Int32.ofNat n) i2 r3 i 0 w V_a q h3
  · rcases h5 with rfl | ⟨w, rfl⟩
    · exact sg2au X0 hx hZ hby e0 a ka c0 c1 c2 c3 c4 c5 (Int32.ofNat n) i2 r3 i 0 V_a q
    · exact sg2av X0 hx hZ hby e0 a ka c0 c1 c2 c3 c4 c5 (Int32.ofNat n) i2 r3 i 0 w V_a q
theorem own_loop2 {p : Program} {l : Launch} {e : Env} {R : Room} {s : State} {m : MethodId} {args' : Array Value} {below : List Frame} {meth : Method} {c : Code} {T0 : State} {locs : List Loc} {cells slots : Nat} {Z : State} {h0 : Heap} (X0 : Stand p l e R s m args' below meth c T0 locs cells slots) (hx : p.tables.exec = Jvm.exec) (hZ : Z.Warmed39 s.vm) (hby : c.code = prog_170_method_2_code) (e0 : T0.heap = h0) (a : Addr) (ka : ClassId) (c0 c1 c2 c3 c4 c5 : Int32) (V_a : Arv Z h0 a ka .byte (6 : Int32) [(.int c0), (.int c1), (.int c2), (.int c3), (.int c4), (.int c5)] (.int (0 : Int32))) (n : Nat) (hn : n ≤ 6) (i2 : Int32) : ∀ (f j : Nat), j + f = n → ∀ (s5 : Slot), own_S s5 → ∃ (i' : Int32) (s5' : Slot), own_Rch p.tables e below (T0.setTop (mkF m 34 #[.val (.ref a), .val (.int (Int32.ofNat n)), .val (.int i2), .val (.int (-1)), .val (.int (Int32.ofNat j)), s5] [])) (T0.setTop (mkF m 103 #[.val (.ref a), .val (.int (Int32.ofNat n)), .val (.int i2), .val (.int (own_l2 (own_u c0 c1 c2 c3 c4 c5) n f j)), .val (.int i'), s5'] [])) := by
  intro f
  induction f with
  | zero =>
    intro j hj s5 h5
    have hj' : j = n := by omega
    subst hj'
    refine ⟨Int32.ofNat j, s5, ?_⟩
    have q : ¬ Int32.ofNat j < Int32.ofNat j := by rw [own_of (by omega) (by omega)]; omega
    rcases h5 with rfl | ⟨w, rfl⟩
    · exact sg2au X0 hx hZ hby e0 a ka c0 c1 c2 c3 c4 c5 (Int32.ofNat j) i2 (-1) (Int32.ofNat j) 0 V_a q
    · exact sg2av X0 hx hZ hby e0 a ka c0 c1 c2 c3 c4 c5 (Int32.ofNat j) i2 (-1) (Int32.ofNat j) 0 w V_a q
  | succ f ih =>
    intro j hj s5 h5
    have ix : ∀ k, k < n → (Int32.ofNat k < Int32.ofNat n) ∧ (Int32.ofNat k < 6) ∧ (¬ Int32.ofNat k < 0) := fun k hk => ⟨by rw [own_of (by omega) (by omega)]; omega, by rw [show (6 : Int32) = Int32.ofNat 6 from rfl, own_of (by omega) (by omega)]; omega, own_nn (by omega)⟩
    obtain ⟨b1, b2, b3⟩ := ix j (by omega)
    have hm1 : (-1 : Int32) < 0 := by decide
    have a1 : Int32.ofNat j + 1 = Int32.ofNat (j + 1) := own_add j
    have a2 : Int32.ofNat (j + 1) + 1 = Int32.ofNat (j + 2) := own_add (j + 1)
    have a3 : Int32.ofNat (j + 2) + 1 = Int32.ofNat (j + 3) := own_add (j + 2)
    have hu := own_get c0 c1 c2 c3 c4 c5 (j := j) (by omega)
    have hg := own_ug c0 c1 c2 c3 c4 c5 j (by omega)
    generalize [c0, c1, c2, c3, c4, c5].getD j 0 = x at hu hg
    -- on to the next turn, or out
    have next : ∀ s6 : Slot, own_S s6 → (own_Rch p.tables e below (T0.setTop (mkF m 34 #[.val (.ref a), .val (.int (Int32.ofNat n)), .val (.int i2), .val (.int (-1)), .val (.int (Int32.ofNat j)), s5] [])) (T0.setTop (mkF m 34 #[.val (.ref a), .val (.int (Int32.ofNat n)), .val (.int i2), .val (.int (-1)), .val (.int (Int32.ofNat (j + 1))), s6] []))) → own_l2 (own_u c0 c1 c2 c3 c4 c5) n (f + 1) j = own_l2 (own_u c0 c1 c2 c3 c4 c5) n f (j + 1) → ∃ (i' : Int32) (s5' : Slot), own_Rch p.tables e below (T0.setTop (mkF m 34 #[.val (.ref a), .val (.int (Int32.ofNat n)), .val (.int i2), .val (.int (-1)), .val (.int (Int32.ofNat j)), s5] [])) (T0.setTop (mkF m 103 #[.val (.ref a), .val (.int (Int32.ofNat n)), .val (.int i2), .val (.int (own_l2 (own_u c0 c1 c2 c3 c4 c5) n (f + 1) j)), .val (.int i'), s5'] [])) := fun s6 h6 K q => by
      obtain ⟨i', s7, K2⟩ := ih (j + 1) (by omega) s6 h6
      rw [q]; exact ⟨i', s7, fun t k => K t (K2 t k)⟩
    have outs : ∀ (r3 : Int32) (s6 : Slot), own_S s6 → ¬ r3 < 0 → (own_Rch p.tables e below (T0.setTop (mkF m 34 #[.val (.ref a), .val (.int (Int32.ofNat n)), .val (.int i2), .val (.int (-1)), .val (.int (Int32.ofNat j)), s5] [])) (T0.setTop (mkF m 34 #[.val (.ref a), .val (.int (Int32.ofNat n)), .val (.int i2), .val (.int r3), .val (.int (Int32.ofNat (j + 1))), s6] []))) → own_l2 (own_u c0 c1 c2 c3 c4 c5) n (f + 1) j = r3 → ∃ (i' : Int32) (s5' : Slot), own_Rch p.tables e below (T0.setTop (mkF m 34 #[.val (.ref a), .val (.int (Int32.ofNat n)), .val (.int i2), .val (.int (-1)), .val (.int (Int32.ofNat j)), s5] [])) (T0.setTop (mkF m 103 #[.val (.ref a), .val (.int (Int32.ofNat n)), .val (.int i2), .val (.int (own_l2 (own_u c0 c1 c2 c3 c4 c5) n (f + 1) j)), .val (.int i'), s5'] [])) := fun r3 s6 h6 h3 K q => by
      obtain ⟨i', s7, K2⟩ := own_out X0 hx hZ hby e0 a ka c0 c1 c2 c3 c4 c5 V_a n hn i2 r3 h3 (Int32.ofNat (j + 1)) s6 h6
      rw [q]; exact ⟨i', s7, fun t k => K t (K2 t k)⟩
    by_cases q1 : x = 10
    · by_cases q2 : j + 1 < n
      · obtain ⟨d1, d2, d3⟩ := ix (j + 1) q2
        have hu1 := own_get c0 c1 c2 c3 c4 c5 (j := j + 1) (by omega)
        have hg1 := own_ug c0 c1 c2 c3 c4 c5 (j + 1) (by omega)
        generalize [c0, c1, c2, c3, c4, c5].getD (j + 1) 0 = y at hu1 hg1
        by_cases q3 : y = 13
        · by_cases q4 : j + 2 < n
          · obtain ⟨f1, f2, f3⟩ := ix (j + 2) q4
            have hu2 := own_get c0 c1 c2 c3 c4 c5 (j := j + 2) (by omega)
            have hg2 := own_ug c0 c1 c2 c3 c4 c5 (j + 2) (by omega)
            generalize [c0, c1, c2, c3, c4, c5].getD (j + 2) 0 = z at hu2 hg2
            by_cases q5 : z = 10
            · --
              refine outs (Int32.ofNat (j + 3)) (.val (.int (Int32.ofNat (j + 2)))) (Or.inr ⟨_, rfl⟩) (own_nn (by omega)) ?_ (by rw [own_l2, hg, if_pos (own_p10 q1), if_pos q2, hg1, if_pos (own_p13 q3), if_pos q4, hg2, if_pos (own_p10 q5)])
              have g : own_Rch p.tables e below (T0.setTop (mkF m 34 #[.val (.ref a), .val (.int (Int32.ofNat n)), .val (.int i2), .val (.int (-1)), .val (.int (Int32.ofNat j)), s5] [])) (T0.setTop (mkF m 34 #[.val (.ref a), .val (.int (Int32.ofNat n)), .val (.int i2), .val (.int (Int32.ofNat j + 1 + 1 + 1)), .val (.int (Int32.ofNat j + 1)), (.val (.int (Int32.ofNat j + 1 + 1)))] [])) := by
                rcases h5 with rfl | ⟨w, rfl⟩
                · exact sg2eu X0 hx hZ hby e0 a ka c0 c1 c2 c3 c4 c5 (Int32.ofNat n) i2 (-1) (Int32.ofNat j) x y z V_a b3 b2 hu (by rw [a1]; exact d3) (by rw [a1]; exact d2) (by rw [a1]; exact hu1) (by rw [a1, a2]; exact f3) (by rw [a1, a2]; exact f2) (by rw [a1, a2]; exact hu2) b1 hm1 q1 (by rw [a1]; exact d1) q3 (by rw [a1, a2]; exact f1) q5
                · exact sg2ev X0 hx hZ hby e0 a ka c0 c1 c2 c3 c4 c5 (Int32.ofNat n) i2 (-1) (Int32.ofNat j) x w y z V_a b3 b2 hu (by rw [a1]; exact d3) (by rw [a1]; exact d2) (by rw [a1]; exact hu1) (by rw [a1, a2]; exact f3) (by rw [a1, a2]; exact f2) (by rw [a1, a2]; exact hu2) b1 hm1 q1 (by rw [a1]; exact d1) q3 (by rw [a1, a2]; exact f1) q5
              rw [a1, a2, a3] at g; exact g
            · --
              refine next (.val (.int (Int32.ofNat (j + 2)))) (Or.inr ⟨_, rfl⟩) ?_ (by rw [own_l2, hg, if_pos (own_p10 q1), if_pos q2, hg1, if_pos (own_p13 q3), if_pos q4, hg2, if_neg (own_n10 q5)])
              have g : own_Rch p.tables e below (T0.setTop (mkF m 34 #[.val (.ref a), .val (.int (Int32.ofNat n)), .val (.int i2), .val (.int (-1)), .val (.int (Int32.ofNat j)), s5] [])) (T0.setTop (mkF m 34 #[.val (.ref a), .val (.int (Int32.ofNat n)), .val (.int i2), .val (.int (-1)), .val (.int (Int32.ofNat j + 1)), (.val (.int (Int32.ofNat j + 1 + 1)))] [])) := by
                rcases h5 with rfl | ⟨w, rfl⟩
                · exact sg2fu X0 hx hZ hby e0 a ka c0 c1 c2 c3 c4 c5 (Int32.ofNat n) i2 (-1) (Int32.ofNat j) x y z V_a b3 b2 hu (by rw [a1]; exact d3) (by rw [a1]; exact d2) (by rw [a1]; exact hu1) (by rw [a1, a2]; exact f3) (by rw [a1, a2]; exact f2) (by rw [a1, a2]; exact hu2) b1 hm1 q1 (by rw [a1]; exact d1) q3 (by rw [a1, a2]; exact f1) q5
                · exact sg2fv X0 hx hZ hby e0 a ka c0 c1 c2 c3 c4 c5 (Int32.ofNat n) i2 (-1) (Int32.ofNat j) x w y z V_a b3 b2 hu (by rw [a1]; exact d3) (by rw [a1]; exact d2) (by rw [a1]; exact hu1) (by rw [a1, a2]; exact f3) (by rw [a1, a2]; exact f2) (by rw [a1, a2]; exact hu2) b1 hm1 q1 (by rw [a1]; exact d1) q3 (by rw [a1, a2]; exact f1) q5
              rw [a1, a2] at g; exact g
          · --
            refine next (.val (.int (Int32.ofNat (j + 2)))) (Or.inr ⟨_, rfl⟩) ?_ (by rw [own_l2, hg, if_pos (own_p10 q1), if_pos q2, hg1, if_pos (own_p13 q3), if_neg q4])
            have g : own_Rch p.tables e below (T0.setTop (mkF m 34 #[.val (.ref a), .val (.int (Int32.ofNat n)), .val (.int i2), .val (.int (-1)), .val (.int (Int32.ofNat j)), s5] [])) (T0.setTop (mkF m 34 #[.val (.ref a), .val (.int (Int32.ofNat n)), .val (.int i2), .val (.int (-1)), .val (.int (Int32.ofNat j + 1)), (.val (.int (Int32.ofNat j + 1 + 1)))] [])) := by
              rcases h5 with rfl | ⟨w, rfl⟩
              · exact sg2gu X0 hx hZ hby e0 a ka c0 c1 c2 c3 c4 c5 (Int32.ofNat n) i2 (-1) (Int32.ofNat j) x y V_a b3 b2 hu (by rw [a1]; exact d3) (by rw [a1]; exact d2) (by rw [a1]; exact hu1) b1 hm1 q1 (by rw [a1]; exact d1) q3 (by rw [a1, a2, own_of (by omega) (by omega)]; exact q4)
              · exact sg2gv X0 hx hZ hby e0 a ka c0 c1 c2 c3 c4 c5 (Int32.ofNat n) i2 (-1) (Int32.ofNat j) x w y V_a b3 b2 hu (by rw [a1]; exact d3) (by rw [a1]; exact d2) (by rw [a1]; exact hu1) b1 hm1 q1 (by rw [a1]; exact d1) q3 (by rw [a1, a2, own_of (by omega) (by omega)]; exact q4)
            rw [a1, a2] at g; exact g
        · by_cases q5 : y = 10
          · --
            refine outs (Int32.ofNat (j + 2)) (.val (.int (Int32.ofNat (j + 1)))) (Or.inr ⟨_, rfl⟩) (own_nn (by omega)) ?_ (by rw [own_l2, hg, if_pos (own_p10 q1), if_pos q2, hg1, if_neg (own_n13 q3), if_pos (own_p10 q5)])
            have g : own_Rch p.tables e below (T0.setTop (mkF m 34 #[.val (.ref a), .val (.int (Int32.ofNat n)), .val (.int i2), .val (.int (-1)), .val (.int (Int32.ofNat j)), s5] [])) (T0.setTop (mkF m 34 #[.val (.ref a), .val (.int (Int32.ofNat n)), .val (.int i2), .val (.int (Int32.ofNat j + 1 + 1)), .val (.int (Int32.ofNat j + 1)), (.val (.int (Int32.ofNat j + 1)))] [])) := by
              rcases h5 with rfl | ⟨w, rfl⟩
              · exact sg2hu X0 hx hZ hby e0 a ka c0 c1 c2 c3 c4 c5 (Int32.ofNat n) i2 (-1) (Int32.ofNat j) x y V_a b3 b2 hu (by rw [a1]; exact d3) (by rw [a1]; exact d2) (by rw [a1]; exact hu1) b1 hm1 q1 (by rw [a1]; exact d1) q3 q5
              · exact sg2hv X0 hx hZ hby e0 a ka c0 c1 c2 c3 c4 c5 (Int32.ofNat n) i2 (-1) (Int32.ofNat j) x w y V_a b3 b2 hu (by rw [a1]; exact d3) (by rw [a1]; exact d2) (by rw [a1]; exact hu1) b1 hm1 q1 (by rw [a1]; exact d1) q3 q5
            rw [a1, a2] at g; exact g
          · --
            refine next (.val (.int (Int32.ofNat (j + 1)))) (Or.inr ⟨_, rfl⟩) ?_ (by rw [own_l2, hg, if_pos (own_p10 q1), if_pos q2, hg1, if_neg (own_n13 q3), if_neg (own_n10 q5)])
            have g : own_Rch p.tables e below (T0.setTop (mkF m 34 #[.val (.ref a), .val (.int (Int32.ofNat n)), .val (.int i2), .val (.int (-1)), .val (.int (Int32.ofNat j)), s5] [])) (T0.setTop (mkF m 34 #[.val (.ref a), .val (.int (Int32.ofNat n)), .val (.int i2), .val (.int (-1)), .val (.int (Int32.ofNat j + 1)), (.val (.int (Int32.ofNat j + 1)))] [])) := by
              rcases h5 with rfl | ⟨w, rfl⟩
              · exact sg2iu X0 hx hZ hby e0 a ka c0 c1 c2 c3 c4 c5 (Int32.ofNat n) i2 (-1) (Int32.ofNat j) x y V_a b3 b2 hu (by rw [a1]; exact d3) (by rw [a1]; exact d2) (by rw [a1]; exact hu1) b1 hm1 q1 (by rw [a1]; exact d1) q3 q5
              · exact sg2iv X0 hx hZ hby e0 a ka c0 c1 c2 c3 c4 c5 (Int32.ofNat n) i2 (-1) (Int32.ofNat j) x w y V_a b3 b2 hu (by rw [a1]; exact d3) (by rw [a1]; exact d2) (by rw [a1]; exact hu1) b1 hm1 q1 (by rw [a1]; exact d1) q3 q5
            rw [a1] at g; exact g
      · --
        refine next (.val (.int (Int32.ofNat (j + 1)))) (Or.inr ⟨_, rfl⟩) ?_ (by rw [own_l2, hg, if_pos (own_p10 q1), if_neg q2])
        have g : own_Rch p.tables e below (T0.setTop (mkF m 34 #[.val (.ref a), .val (.int (Int32.ofNat n)), .val (.int i2), .val (.int (-1)), .val (.int (Int32.ofNat j)), s5] [])) (T0.setTop (mkF m 34 #[.val (.ref a), .val (.int (Int32.ofNat n)), .val (.int i2), .val (.int (-1)), .val (.int (Int32.ofNat j + 1)), (.val (.int (Int32.ofNat j + 1)))] [])) := by
          rcases h5 with rfl | ⟨w, rfl⟩
          · exact sg2du X0 hx hZ hby e0 a ka c0 c1 c2 c3 c4 c5 (Int32.ofNat n) i2 (-1) (Int32.ofNat j) x  V_a b3 b2 hu b1 hm1 q1 (by rw [a1, own_of (by omega) (by omega)]; exact q2)
          · exact sg2dv X0 hx hZ hby e0 a ka c0 c1 c2 c3 c4 c5 (Int32.ofNat n) i2 (-1) (Int32.ofNat j) x w  V_a b3 b2 hu b1 hm1 q1 (by rw [a1, own_of (by omega) (by omega)]; exact q2)
        rw [a1] at g; exact g
    · --
      refine next s5 h5 ?_ (by rw [own_l2, hg, if_neg (own_n10 q1)])
      have g : own_Rch p.tables e below (T0.setTop (mkF m 34 #[.val (.ref a), .val (.int (Int32.ofNat n)), .val (.int i2), .val (.int (-1)), .val (.int (Int32.ofNat j)), s5] [])) (T0.setTop (mkF m 34 #[.val (.ref a), .val (.int (Int32.ofNat n)), .val (.int i2), .val (.int (-1)), .val (.int (Int32.ofNat j + 1)), s5] [])) := by
        rcases h5 with rfl | ⟨w, rfl⟩
        · exact sg2cu X0 hx hZ hby e0 a ka c0 c1 c2 c3 c4 c5 (Int32.ofNat n) i2 (-1) (Int32.ofNat j) x  V_a b3 b2 hu b1 hm1 q1
        · exact sg2cv X0 hx hZ hby e0 a ka c0 c1 c2 c3 c4 c5 (Int32.ofNat n) i2 (-1) (Int32.ofNat j) x w  V_a b3 b2 hu b1 hm1 q1
      rw [a1] at g; exact g
def own_end (c0 c1 c2 c3 c4 c5 : Int32) (n : Nat) : Int32 := own_l2 (own_u c0 c1 c2 c3 c4 c5) n (n - own_l1 (own_u c0 c1 c2 c3 c4 c5) n 0) (own_l1 (own_u c0 c1 c2 c3 c4 c5) n 0)
theorem pn_1 : plainName "com/example/rackline/rackline/metrics/RequestHead" = true := by first | (simp [plainName, overriddenIn]; done) | decide +kernel
theorem ef_4 (m : MethodId) (a : Addr) : entryFrame m #[(.ref a), (.int (Int32.ofNat n))] 6 = mkF m 0 #[.val (.ref a), .val (.int (Int32.ofNat n)), .unset, .unset, .unset, .unset] [] := by first | (simp [entryFrame, mkF, argsToLocals, Value.category]; done) | rfl
def Q4 (Z : State) (a : Addr) (ka : ClassId) (c0 : Int32) (c1 : Int32) (c2 : Int32) (c3 : Int32) (c4 : Int32) (c5 : Int32) (n : Nat) (h0 : Heap) (n0 : Nat) (v : Option Value) (h : Heap) (L : List Loc) : Prop := v = some (.int (own_end c0 c1 c2 c3 c4 c5 n)) ∧ Fr n0 L ∧ h = h0
set_option maxRecDepth 65536 in
set_option maxHeartbeats 40000000 in
theorem rm4 (l : Launch) (Z : State) (a0 : Array Value) (hw : ∀ d ∈ tables_1, d.before a0 Z = true) (ws : List Jvm.Cond) (a : Addr) (ka : ClassId) (c0 : Int32) (c1 : Int32) (c2 : Int32) (c3 : Int32) (c4 : Int32) (c5 : Int32) (n : Nat) (h0 : Heap) (n0 : Nat) (Z0 : n0 ≤ h0.size) (V_a : Arv Z h0 a ka .byte (6 : Int32) [(.int c0), (.int c1), (.int c2), (.int c3), (.int c4), (.int c5)] (.int (0 : Int32))) (hn : n ≤ 6) :
    MetFree l (⟨"com/example/rackline/rackline/metrics/RequestHead", "end", "([BI)I"⟩ : MethodName) (head1 (Jvm.Cond.code (⟨"com/example/rackline/rackline/metrics/RequestHead", "end", "([BI)I"⟩ : MethodName) prog_170_method_2_code 6 (some .int) :: ws) ({ frames := 0, cells := 0, slots := 0, locals := 0 } : Room)) (fun a' U => a' = #[(.ref a), (.int (Int32.ofNat n))] ∧ Z.Warmed39 U.vm ∧ U.heap = h0) (fun _ _ _ _ _ => True) (fun _ U o U' => ∃ v L, o = .returned v ∧ Q4 Z a ka c0 c1 c2 c3 c4 c5 n h0 n0 v U'.heap L ∧ FrameEnd U o U' L ({ frames := 0, cells := 0, slots := 0, locals := 0 } : Room).cells ({ frames := 0, cells := 0, slots := 0, locals := 0 } : Room).slots) := by
  refine MetFree.of_bodySF (plainFor_of_name pn_1) hisR ?_
  intro p e s m args' below meth c s₁ Bd hml0 hP hK
  obtain ⟨hargs, hZ, hh⟩ := hP
  have hx := Bd.exec
  have hby := Bd.bytes
  have hml : c.maxLocals = 6 := hml0
  have hown : s.vm.findClass "com/example/rackline/rackline/metrics/RequestHead" = some m.cls := findClass_of_methodNamed Bd.named
  have hnm := (name_of_methodNamed Bd.named Bd.method).1
  have X0 : Stand p l e ({ frames := 0, cells := 0, slots := 0, locals := 0 } : Room) s m args' below meth c s₁ [] 0 0 := Stand.of_body Bd
  have e0 : s₁.heap = h0 := by rw [← hh, Bd.state]; rfl
  have N0 := Fr.nil n0
  obtain ⟨A0, hA0⟩ : ∃ A, A = s₁.setTop (mkF m 0 #[.val (.ref a), .val (.int (Int32.ofNat n)), .unset, .unset, .unset, .unset] []) := ⟨_, rfl⟩
  have P0 : own_Rch p.tables e below A0 (s₁.setTop (mkF m 0 #[.val (.ref a), .val (.int (Int32.ofNat n)), .unset, .unset, .unset, .unset] [])) := fun t k => hA0 ▸ k
  have P00 : own_Rch p.tables e below (s₁.setTop (entryFrame m args' 6)) A0 := fun t k => by rw [hargs]; exact castTop (ef_4 m a) (hA0 ▸ k)
  have P1 : own_Rch p.tables e below A0 (s₁.setTop (mkF m 2 #[.val (.ref a), .val (.int (Int32.ofNat n)), .val (.int (0 : Int32)), .unset, .unset, .unset] [])) := fun t k => P0 t (by
    show Steps p.tables e below (s₁.setTop (mkF m 0 #[.val (.ref a), .val (.int (Int32.ofNat n)), .unset, .unset, .unset, .unset] [])) _
    refine XS.iconst X0.here hx rfl (hb hby d4_0) ?_
    show Steps p.tables e below (s₁.setTop (mkF m 1 #[.val (.ref a), .val (.int (Int32.ofNat n)), .unset, .unset, .unset, .unset] [(.int (0 : Int32))])) _
    refine XS.istoreN X0.here hx rfl (hb hby d4_1) rfl (l' := #[.val (.ref a), .val (.int (Int32.ofNat n)), .val (.int (0 : Int32)), .unset, .unset, .unset]) rfl ?_
    exact k)
  obtain ⟨j1, hj1, P2⟩ : ∃ z : Nat, z = own_l1 (own_u c0 c1 c2 c3 c4 c5) n 0 ∧ own_Rch p.tables e below A0 (s₁.setTop (mkF m 29 #[.val (.ref a), .val (.int (Int32.ofNat n)), .val (.int (Int32.ofNat z)), .unset, .unset, .unset] [])) := ⟨_, rfl, fun t k => P1 t (own_loop1 X0 hx hZ hby e0 a ka c0 c1 c2 c3 c4 c5 V_a n hn n 0 (by omega) t k)⟩
  have hj2 : j1 ≤ n := by have := own_l1_le (own_u c0 c1 c2 c3 c4 c5) n 0; omega
  have P3 : own_Rch p.tables e below A0 (s₁.setTop (mkF m 34 #[.val (.ref a), .val (.int (Int32.ofNat n)), .val (.int (Int32.ofNat j1)), .val (.int (-1 : Int32)), .val (.int (Int32.ofNat j1)), .unset] [])) := fun t k => P2 t (by
    show Steps p.tables e below (s₁.setTop (mkF m 29 #[.val (.ref a), .val (.int (Int32.ofNat n)), .val (.int (Int32.ofNat j1)), .unset, .unset, .unset] [])) _
    refine XS.iconst X0.here hx rfl (hb hby d4_29) ?_
    show Steps p.tables e below (s₁.setTop (mkF m 30 #[.val (.ref a), .val (.int (Int32.ofNat n)), .val (.int (Int32.ofNat j1)), .unset, .unset, .unset] [(.int (-1 : Int32))])) _
    refine XS.istoreN X0.here hx rfl (hb hby d4_30) rfl (l' := #[.val (.ref a), .val (.int (Int32.ofNat n)), .val (.int (Int32.ofNat j1)), .val (.int (-1 : Int32)), .unset, .unset]) rfl ?_
    show Steps p.tables e below (s₁.setTop (mkF m 31 #[.val (.ref a), .val (.int (Int32.ofNat n)), .val (.int (Int32.ofNat j1)), .val (.int (-1 : Int32)), .unset, .unset] [])) _
    refine XS.iloadN X0.here hx rfl (hb hby d4_31) rfl ?_
    show Steps p.tables e below (s₁.setTop (mkF m 32 #[.val (.ref a), .val (.int (Int32.ofNat n)), .val (.int (Int32.ofNat j1)), .val (.int (-1 : Int32)), .unset, .unset] [(.int (Int32.ofNat j1))])) _
    refine XS.istore X0.here hx rfl (hb hby d4_32) rfl (l' := #[.val (.ref a), .val (.int (Int32.ofNat n)), .val (.int (Int32.ofNat j1)), .val (.int (-1 : Int32)), .val (.int (Int32.ofNat j1)), .unset]) rfl ?_
    exact k)
  obtain ⟨i', s5', K34⟩ := own_loop2 X0 hx hZ hby e0 a ka c0 c1 c2 c3 c4 c5 V_a n hn (Int32.ofNat j1) (n - j1) j1 (by omega) .unset (Or.inl rfl)
  have P4 : own_Rch p.tables e below A0 (s₁.setTop (mkF m 103 #[.val (.ref a), .val (.int (Int32.ofNat n)), .val (.int (Int32.ofNat j1)), .val (.int (own_l2 (own_u c0 c1 c2 c3 c4 c5) n (n - j1) j1)), .val (.int i'), s5'] [])) := fun t k => P3 t (K34 t k)
  have P5 : own_Rch p.tables e below A0 (s₁.setTop (mkF m 104 #[.val (.ref a), .val (.int (Int32.ofNat n)), .val (.int (Int32.ofNat j1)), .val (.int (own_l2 (own_u c0 c1 c2 c3 c4 c5) n (n - j1) j1)), .val (.int i'), s5'] [(.int (own_l2 (own_u c0 c1 c2 c3 c4 c5) n (n - j1) j1))])) := fun t k => P4 t (by
    show Steps p.tables e below (s₁.setTop (mkF m 103 #[.val (.ref a), .val (.int (Int32.ofNat n)), .val (.int (Int32.ofNat j1)), .val (.int (own_l2 (own_u c0 c1 c2 c3 c4 c5) n (n - j1) j1)), .val (.int i'), s5'] [])) _
    refine XS.iloadN X0.here hx rfl (hb hby d4_103) rfl ?_
    exact k)
  obtain ⟨fs, hr, hrun, hended, hW, hsame⟩ := X0.leave (v := some (.int (own_l2 (own_u c0 c1 c2 c3 c4 c5) n (n - j1) j1))) (fun h => by rw [Bd.returns] at h; cases h)
  refine ⟨_, _, P00 _ (P5 _ ?_), hrun, hended, _, _, rfl, ?_, ⟨_, rfl⟩, hW, hsame.mono (by decide) (by decide)⟩
  · exact retOut X0 hx (t := .int) Bd.returns rfl (Or.inl ⟨rfl, Or.inl rfl, _, rfl⟩) (hb hby d4_104) hr
  · show Q4 Z a ka c0 c1 c2 c3 c4 c5 n h0 n0 _ s₁.heap _
    rw [e0]
    refine ⟨?_, N0, rfl⟩
    subst hj1
    rfl
def own_st (k ln c prev : Int32) : Int32 := if k < ln then (if own_brk c = 0 then k else prev) else prev
def own_rhs (d0 d1 d2 d3 d4 d5 : Int32) (n : Nat) : Int32 := let f5 := own_st 5 (Int32.ofNat n) d5 (Int32.ofNat n); let f4 := own_st 4 (Int32.ofNat n) d4 f5; let f3 := own_st 3 (Int32.ofNat n) d3 f4; let f2 := own_st 2 (Int32.ofNat n) d2 f3; let f1 := own_st 1 (Int32.ofNat n) d1 f2; let f0 := own_st 0 (Int32.ofNat n) d0 f1; let x6 := if own_e6 (Int32.ofNat n) f0 d0 d1 d2 d3 d4 d5 = 0 then (-1 : Int32) else 6; let x5 := if own_e5 (Int32.ofNat n) f0 d0 d1 d2 d3 d4 d5 = 0 then x6 else 5; let x4 := if own_e4 (Int32.ofNat n) f0 d0 d1 d2 d3 d4 d5 = 0 then x5 else 4; let x3 := if own_e3 (Int32.ofNat n) f0 d0 d1 d2 d3 d4 d5 = 0 then x4 else 3; let x2 := if own_e2 (Int32.ofNat n) f0 d0 d1 d2 d3 d4 d5 = 0 then x3 else 2; x2
def own_lhs (d0 d1 d2 d3 d4 d5 : Int32) (n : Nat) : Int32 := own_l2 [d0, d1, d2, d3, d4, d5] n (n - own_l1 [d0, d1, d2, d3, d4, d5] n 0) (own_l1 [d0, d1, d2, d3, d4, d5] n 0)
def own_d (k : Fin 3) : Int32 := if k = 0 then 13 else if k = 1 then 10 else 0
theorem own_all : ∀ (n : Fin 7) (k0 k1 k2 k3 k4 k5 : Fin 3), own_lhs (own_d k0) (own_d k1) (own_d k2) (own_d k3) (own_d k4) (own_d k5) n.val = own_rhs (own_d k0) (own_d k1) (own_d k2) (own_d k3) (own_d k4) (own_d k5) n.val := by decide +kernel
theorem own_dr (c : Int32) : ∃ k, own_r c = own_d k := by
  rcases own_rc c with h | h | h
  · exact ⟨0, h⟩
  · exact ⟨1, h⟩
  · exact ⟨2, h⟩
theorem own_br (c : Int32) : own_brk (own_r c) = own_brk c := by simp only [own_brk, own_r13, own_r10]
theorem own_sr (k ln c prev : Int32) : own_st k ln (own_r c) prev = own_st k ln c prev := by unfold own_st; rw [own_br]
theorem own_er2 (ln f c0 c1 c2 c3 c4 c5 : Int32) : own_e2 ln f (own_r c0) (own_r c1) (own_r c2) (own_r c3) (own_r c4) (own_r c5) = own_e2 ln f c0 c1 c2 c3 c4 c5 := by simp only [own_e2, own_r13, own_r10]
theorem own_er3 (ln f c0 c1 c2 c3 c4 c5 : Int32) : own_e3 ln f (own_r c0) (own_r c1) (own_r c2) (own_r c3) (own_r c4) (own_r c5) = own_e3 ln f c0 c1 c2 c3 c4 c5 := by simp only [own_e3, own_r13, own_r10]
theorem own_er4 (ln f c0 c1 c2 c3 c4 c5 : Int32) : own_e4 ln f (own_r c0) (own_r c1) (own_r c2) (own_r c3) (own_r c4) (own_r c5) = own_e4 ln f c0 c1 c2 c3 c4 c5 := by simp only [own_e4, own_r13, own_r10]
theorem own_er5 (ln f c0 c1 c2 c3 c4 c5 : Int32) : own_e5 ln f (own_r c0) (own_r c1) (own_r c2) (own_r c3) (own_r c4) (own_r c5) = own_e5 ln f c0 c1 c2 c3 c4 c5 := by simp only [own_e5, own_r13, own_r10]
theorem own_er6 (ln f c0 c1 c2 c3 c4 c5 : Int32) : own_e6 ln f (own_r c0) (own_r c1) (own_r c2) (own_r c3) (own_r c4) (own_r c5) = own_e6 ln f c0 c1 c2 c3 c4 c5 := by simp only [own_e6, own_r13, own_r10]
theorem own_mask32 (s : Int32) : 0 ≤ (s &&& 2147483647).toInt := by
  have h : (s &&& 2147483647).toBitVec.msb = false := by
    rw [Int32.toBitVec_and, BitVec.msb_and]; exact Bool.and_false _
  show 0 ≤ (s &&& 2147483647).toBitVec.toInt
  rw [BitVec.toInt_eq_toNat_of_msb h]; exact Int.natCast_nonneg _
theorem own_rem (s : Int32) (k : Int32) (hk : 0 < k.toInt) : 0 ≤ ((s &&& 2147483647) % k).toInt ∧ ((s &&& 2147483647) % k).toInt < k.toInt := by
  have h0 := own_mask32 s
  rw [Int32.toInt_mod, Int.tmod_eq_emod_of_nonneg h0]
  exact ⟨Int.emod_nonneg _ (by omega), Int.emod_lt_of_pos _ hk⟩
theorem own_small (x k : Int32) (n : Nat) (hk : k.toInt = n + 1) : ∃ j, j ≤ n ∧ (x &&& 2147483647) % k = Int32.ofNat j := by
  have h := own_rem x k (by omega)
  have h2 : k.toInt ≤ 2147483647 := by have := Int32.toInt_lt k; omega
  refine ⟨((x &&& 2147483647) % k).toInt.toNat, by omega, ?_⟩
  apply Int32.toInt_inj.mp
  rw [Int32.toInt_ofNat_of_lt (by omega)]; omega
theorem own_and3 (x : Int32) : ∃ n, n ≤ 3 ∧ x &&& 3 = Int32.ofNat n := by
  refine ⟨(x &&& 3).toBitVec.toNat, ?_, ?_⟩
  · rw [Int32.toBitVec_and, BitVec.toNat_and]
    exact Nat.and_le_right
  · apply Int32.toBitVec_inj.mp; simp
theorem own_law (c0 c1 c2 c3 c4 c5 : Int32) (n : Nat) (hn : n ≤ 6) {f5 f4 f3 f2 f1 f0 x6 x5 x4 x3 x2 : Int32} (h_f5 : f5 = own_st 5 (Int32.ofNat n) c5 (Int32.ofNat n)) (h_f4 : f4 = own_st 4 (Int32.ofNat n) c4 f5) (h_f3 : f3 = own_st 3 (Int32.ofNat n) c3 f4) (h_f2 : f2 = own_st 2 (Int32.ofNat n) c2 f3) (h_f1 : f1 = own_st 1 (Int32.ofNat n) c1 f2) (h_f0 : f0 = own_st 0 (Int32.ofNat n) c0 f1) (h_x6 : x6 = if own_e6 (Int32.ofNat n) f0 c0 c1 c2 c3 c4 c5 = 0 then -1 else 6) (h_x5 : x5 = if own_e5 (Int32.ofNat n) f0 c0 c1 c2 c3 c4 c5 = 0 then x6 else 5) (h_x4 : x4 = if own_e4 (Int32.ofNat n) f0 c0 c1 c2 c3 c4 c5 = 0 then x5 else 4) (h_x3 : x3 = if own_e3 (Int32.ofNat n) f0 c0 c1 c2 c3 c4 c5 = 0 then x4 else 3) (h_x2 : x2 = if own_e2 (Int32.ofNat n) f0 c0 c1 c2 c3 c4 c5 = 0 then x3 else 2) : own_end c0 c1 c2 c3 c4 c5 n = x2 := by
  have e : own_rhs (own_r c0) (own_r c1) (own_r c2) (own_r c3) (own_r c4) (own_r c5) n = x2 := by
    simp only [own_rhs, own_sr, own_er2, own_er3, own_er4, own_er5, own_er6]
    rw [h_x2, h_x3, h_x4, h_x5, h_x6, h_f0, h_f1, h_f2, h_f3, h_f4, h_f5]
  rw [← e]
  obtain ⟨k0, e0⟩ := own_dr c0
  obtain ⟨k1, e1⟩ := own_dr c1
  obtain ⟨k2, e2⟩ := own_dr c2
  obtain ⟨k3, e3⟩ := own_dr c3
  obtain ⟨k4, e4⟩ := own_dr c4
  obtain ⟨k5, e5⟩ := own_dr c5
  have q := own_all ⟨n, by omega⟩ k0 k1 k2 k3 k4 k5
  rw [← e0, ← e1, ← e2, ← e3, ← e4, ← e5] at q
  exact q
theorem own_len7 (x : Int32) : ∃ n, n ≤ 6 ∧ (x &&& 2147483647) % 7 = Int32.ofNat n := own_small x 7 6 rfl
theorem own_m1 {j : Nat} (hj : j ≤ 100) : ¬ Int32.ofNat j < (-1 : Int32) := by
  have e1 : (Int32.ofNat j).toInt = j := Int32.toInt_ofNat_of_lt (by omega)
  rw [Int32.lt_iff_toInt_lt, e1]; show ¬ (j : Int) < -1; omega
theorem pd_0 : parseMethodDescriptor "(JI)B" = some ⟨[.long, .int], some .byte⟩ := by decide +kernel
theorem pd_1 : parseMethodDescriptor "(B)Z" = some ⟨[.byte], some .boolean⟩ := by decide +kernel
theorem pd_2 : parseMethodDescriptor "([BIII)Z" = some ⟨[(.array .byte), .int, .int, .int], some .boolean⟩ := by decide +kernel
theorem pd_3 : parseMethodDescriptor "([BI)I" = some ⟨[(.array .byte), .int], some .int⟩ := by decide +kernel
theorem ef_0 (m : MethodId) (i0 : Int64) (i1 : Int32) : entryFrame m #[(.long i0), (.int i1)] maxLocals = mkF m 0 #[.val (.long i0), .second, .val (.int i1), .unset, .unset, .unset, .unset] [] := by first | (simp [entryFrame, mkF, argsToLocals, Value.category, maxLocals]; done) | rfl
def Q0 (Z : State) (i0 : Int64) (i1 : Int32) (h0 : Heap) (n0 : Nat) (v : Option Value) (h : Heap) (L : List Loc) : Prop := v = some (.int 1) ∧ Fr n0 L
set_option maxRecDepth 65536 in
set_option maxHeartbeats 40000000 in
theorem rm0 (l : Launch) (Z : State) (a0 : Array Value) (hw : ∀ d ∈ tables_1, d.before a0 Z = true) (ws : List Jvm.Cond) (i0 : Int64) (i1 : Int32) (h0 : Heap) (n0 : Nat) (Z0 : n0 ≤ h0.size) :
    MetFree l x (head1 (Jvm.Cond.code x code maxLocals ret :: ws) room_1) (fun a' U => a' = #[(.long i0), (.int i1)] ∧ Z.Warmed39 U.vm ∧ U.heap = h0) (fun _ _ _ _ _ => True) (fun _ U o U' => ∃ v L, o = .returned v ∧ Q0 Z i0 i1 h0 n0 v U'.heap L ∧ FrameEnd U o U' L 1 6) := by
  refine MetFree.of_bodySF (plainFor_of_name pn_0) hisR ?_
  intro p e s m args' below meth c s₁ Bd hml0 hP hK
  obtain ⟨hargs, hZ, hh⟩ := hP
  have hx := Bd.exec
  have hby := Bd.bytes
  have hml : c.maxLocals = 7 := hml0
  have hown : s.vm.findClass "com/example/rackline/rackline/metrics/RequestHeadEndPinLaw" = some m.cls := findClass_of_methodNamed Bd.named
  have hnm := (name_of_methodNamed Bd.named Bd.method).1
  have X0 : Stand p l e room_1 s m args' below meth c s₁ [] 0 0 := Stand.of_body Bd
  have e0 : s₁.heap = h0 := by rw [← hh, Bd.state]; rfl
  have N0 := Fr.nil n0
  obtain ⟨A0, hA0⟩ : ∃ A, A = s₁.setTop (mkF m 0 #[.val (.long i0), .second, .val (.int i1), .unset, .unset, .unset, .unset] []) := ⟨_, rfl⟩
  have P0 : own_Rch p.tables e below A0 (s₁.setTop (mkF m 0 #[.val (.long i0), .second, .val (.int i1), .unset, .unset, .unset, .unset] [])) := fun t k => hA0 ▸ k
  have P00 : own_Rch p.tables e below (s₁.setTop (entryFrame m args' maxLocals)) A0 := fun t k => by rw [hargs]; exact castTop (ef_0 m i0 i1) (hA0 ▸ k)
  have P1 : own_Rch p.tables e below A0 (s₁.setTop (mkF m 8 #[.val (.long i0), .second, .val (.int i1), .val (.int ((i1 &&& (2147483647 : Int32)) - (i1 &&& (2147483647 : Int32)) / (7 : Int32) * (7 : Int32))), .unset, .unset, .unset] [])) := fun t k => P0 t (by
    show Steps p.tables e below (s₁.setTop (mkF m 0 #[.val (.long i0), .second, .val (.int i1), .unset, .unset, .unset, .unset] [])) _
    refine XS.iloadN X0.here hx rfl (hb hby at_0) rfl ?_
    show Steps p.tables e below (s₁.setTop (mkF m 1 #[.val (.long i0), .second, .val (.int i1), .unset, .unset, .unset, .unset] [(.int i1)])) _
    refine X0.ldcInt hx hown (mvT hZ (hw _ (List.mem_of_getElem? (i := 0) rfl))) (g := (mkF m 1 #[.val (.long i0), .second, .val (.int i1), .unset, .unset, .unset, .unset] [(.int i1)])) rfl (hb hby at_1) _ ?_
    show Steps p.tables e below (s₁.setTop (mkF m 3 #[.val (.long i0), .second, .val (.int i1), .unset, .unset, .unset, .unset] [(.int (2147483647 : Int32)), (.int i1)])) _
    refine XS.iand X0.here hx rfl (hb hby at_3) rfl ?_
    show Steps p.tables e below (s₁.setTop (mkF m 4 #[.val (.long i0), .second, .val (.int i1), .unset, .unset, .unset, .unset] [(.int (i1 &&& (2147483647 : Int32)))])) _
    refine XS.bipush X0.here hx rfl (hb hby at_4) ?_
    show Steps p.tables e below (s₁.setTop (mkF m 6 #[.val (.long i0), .second, .val (.int i1), .unset, .unset, .unset, .unset] [(.int (7 : Int32)), (.int (i1 &&& (2147483647 : Int32)))])) _
    refine XS.irem X0.here hx rfl (hb hby at_6) rfl (by decide) ?_
    show Steps p.tables e below (s₁.setTop (mkF m 7 #[.val (.long i0), .second, .val (.int i1), .unset, .unset, .unset, .unset] [(.int ((i1 &&& (2147483647 : Int32)) - (i1 &&& (2147483647 : Int32)) / (7 : Int32) * (7 : Int32)))])) _
    refine XS.istoreN X0.here hx rfl (hb hby at_7) rfl (l' := #[.val (.long i0), .second, .val (.int i1), .val (.int ((i1 &&& (2147483647 : Int32)) - (i1 &&& (2147483647 : Int32)) / (7 : Int32) * (7 : Int32))), .unset, .unset, .unset]) rfl ?_
    exact k)
  obtain ⟨v2, hv2, P3⟩ : ∃ z : Int32, z = ((i1 &&& (2147483647 : Int32)) - (i1 &&& (2147483647 : Int32)) / (7 : Int32) * (7 : Int32)) ∧ own_Rch p.tables e below A0 (s₁.setTop (mkF m 8 #[.val (.long i0), .second, .val (.int i1), .val (.int z), .unset, .unset, .unset] [])) := ⟨_, rfl, P1⟩
  obtain ⟨nl, hnl, hq8⟩ := own_len7 i1
  obtain rfl := (hv2.trans (own_remI _ _)).trans hq8
  have P4 : own_Rch p.tables e below A0 (s₁.setTop (mkF m 10 #[.val (.long i0), .second, .val (.int i1), .val (.int (Int32.ofNat nl)), .unset, .unset, .unset] [(.int (6 : Int32))])) := fun t k => P3 t (by
    show Steps p.tables e below (s₁.setTop (mkF m 8 #[.val (.long i0), .second, .val (.int i1), .val (.int (Int32.ofNat nl)), .unset, .unset, .unset] [])) _
    refine XS.bipush X0.here hx rfl (hb hby at_8) ?_
    exact k)
  obtain ⟨T5, h5, k5, X5, e5, E5, A5, st5⟩ := newP X0 hx hZ (hw _ (List.mem_of_getElem? (i := 1) rfl)) e0 (g := (mkF m 10 #[.val (.long i0), .second, .val (.int i1), .val (.int (Int32.ofNat nl)), .unset, .unset, .unset] [(.int (6 : Int32))])) rfl (hb hby at_10) rfl (by decide) (cap := 6) (by decide) (by decide) (by decide) (by decide)
  obtain ⟨b5, g5⟩ : ∃ z, z = h0.size := ⟨_, rfl⟩
  rw [← g5] at A5 st5
  have g_b5 : n0 ≤ b5 := Nat.le_trans Z0 (Nat.le_of_eq g5.symm)
  have Z_6 : n0 ≤ h5.size := Nat.le_trans Z0 E5.1
  have V_7 : Arv Z h5 b5 k5 .byte (6 : Int32) [(.int (0 : Int32)), (.int (0 : Int32)), (.int (0 : Int32)), (.int (0 : Int32)), (.int (0 : Int32)), (.int (0 : Int32))] (.int (0 : Int32)) := (Arv.new A5 (by decide)).pad (pad_rep [] (.int (0 : Int32)) 6)
  have P8 : own_Rch p.tables e below A0 (T5.setTop (mkF m 12 #[.val (.long i0), .second, .val (.int i1), .val (.int (Int32.ofNat nl)), .unset, .unset, .unset] [(.ref b5)])) := fun t k => P4 t (st5 t k)
  have P9 : own_Rch p.tables e below A0 (T5.setTop (mkF m 19 #[.val (.long i0), .second, .val (.int i1), .val (.int (Int32.ofNat nl)), .val (.ref b5), .unset, .unset] [(.int (0 : Int32)), (.long i0), (.int (0 : Int32)), (.ref b5)])) := fun t k => P8 t (by
    show Steps p.tables e below (T5.setTop (mkF m 12 #[.val (.long i0), .second, .val (.int i1), .val (.int (Int32.ofNat nl)), .unset, .unset, .unset] [(.ref b5)])) _
    refine XS.astore X5.here hx rfl (hb hby at_12) rfl rfl (l' := #[.val (.long i0), .second, .val (.int i1), .val (.int (Int32.ofNat nl)), .val (.ref b5), .unset, .unset]) rfl ?_
    show Steps p.tables e below (T5.setTop (mkF m 14 #[.val (.long i0), .second, .val (.int i1), .val (.int (Int32.ofNat nl)), .val (.ref b5), .unset, .unset] [])) _
    refine XS.aload X5.here hx rfl (hb hby at_14) rfl rfl ?_
    show Steps p.tables e below (T5.setTop (mkF m 16 #[.val (.long i0), .second, .val (.int i1), .val (.int (Int32.ofNat nl)), .val (.ref b5), .unset, .unset] [(.ref b5)])) _
    refine XS.iconst X5.here hx rfl (hb hby at_16) ?_
    show Steps p.tables e below (T5.setTop (mkF m 17 #[.val (.long i0), .second, .val (.int i1), .val (.int (Int32.ofNat nl)), .val (.ref b5), .unset, .unset] [(.int (0 : Int32)), (.ref b5)])) _
    refine XS.lloadN X5.here hx rfl (hb hby at_17) rfl ?_
    show Steps p.tables e below (T5.setTop (mkF m 18 #[.val (.long i0), .second, .val (.int i1), .val (.int (Int32.ofNat nl)), .val (.ref b5), .unset, .unset] [(.long i0), (.int (0 : Int32)), (.ref b5)])) _
    refine XS.iconst X5.here hx rfl (hb hby at_18) ?_
    exact k)
  obtain ⟨_, _, ⟨T10, L10, k10, n10⟩, -, X10, ⟨Lc10, hQ10, l10, y10, z10⟩, st10⟩ := Jvm.LawKit.callS X5 hx (y := (⟨"com/example/rackline/rackline/metrics/RequestHeadEndPinLaw", "pick", "(JI)B"⟩ : MethodName)) hown (mvT hZ (hw _ (List.mem_of_getElem? (i := 2) rfl))) (mvT hZ (hw _ (List.mem_of_getElem? (i := 3) rfl))) (mvT hZ (hw _ (List.mem_of_getElem? (i := 4) rfl))) (mvT hZ (hw _ (List.mem_of_getElem? (i := 5) rfl))) (by decide) (backOf (W := 2) (rm1 l Z a0 hw [] i0 (0 : Int32) h5 n0 Z_6 ) hZ (hw _ (List.mem_of_getElem? (i := 5) rfl)) (hw _ (List.mem_of_getElem? (i := 4) rfl)) (by decide) (by decide)) (g := (mkF m 19 #[.val (.long i0), .second, .val (.int i1), .val (.int (Int32.ofNat nl)), .val (.ref b5), .unset, .unset] [(.int (0 : Int32)), (.long i0), (.int (0 : Int32)), (.ref b5)])) rfl (by rw [hml]; rfl) (argsL := [(.long i0), (.int (0 : Int32))]) (rest := [(.int (0 : Int32)), (.ref b5)]) (lenOf pd_0 rfl) rfl (by show 2 * 0 + _ ≤ _; exact Nat.le_of_eq rfl) (hb hby at_19) (fun _ _ => ⟨rfl, e5, (by decide : (0 + 1) + 0 ≤ _), (by decide : (0 + 6) + 0 ≤ _)⟩)
  dsimp only [Pt.U, Pt.locs, Pt.cells, Pt.slots] at X10 l10 y10 z10 st10 hQ10
  subst l10 y10 z10
  obtain ⟨rfl, N10q, e10⟩ := hQ10
  have N10 := Fr.app N0 N10q
  have P11 : own_Rch p.tables e below A0 (T10.setTop (mkF m 22 #[.val (.long i0), .second, .val (.int i1), .val (.int (Int32.ofNat nl)), .val (.ref b5), .unset, .unset] [(.int (own_pick i0 (0 : Int32))), (.int (0 : Int32)), (.ref b5)])) := fun t k => P9 t (st10 t k)
  obtain ⟨cl12, Ar12, qc12, S12, N12_, H12, G12⟩ := V_7
  have hin12 : ¬ ((0 : Int32) < 0 ∨ cl12.slots.size ≤ ((0 : Int32)).toNatClampNeg) := inb_of S12 ⟨by decide, by decide⟩
  obtain ⟨T12, h12, X12, e12, W12, st12⟩ := stB X10 hx hZ e10 Ar12 (j := (0 : Int32)) hin12 (g := (mkF m 22 #[.val (.long i0), .second, .val (.int i1), .val (.int (Int32.ofNat nl)), .val (.ref b5), .unset, .unset] [(.int (own_pick i0 (0 : Int32))), (.int (0 : Int32)), (.ref b5)])) rfl rfl (hb hby at_22)
  have N12 := Fr.snoc X12 N10 g_b5
  have Z_13 : n0 ≤ h12.size := Nat.le_trans Z_6 (Keep.of_wr W12).1
  have V_14 : Arv Z h12 b5 k5 .byte (6 : Int32) [(.int (nar .byte (own_pick i0 (0 : Int32)))), (.int (0 : Int32)), (.int (0 : Int32)), (.int (0 : Int32)), (.int (0 : Int32)), (.int (0 : Int32))] (.int (0 : Int32)) := Arv.set Ar12 qc12 S12 N12_ H12 G12 (fits_nar_byte _) W12 0 rfl (Nat.le_of_ble_eq_true rfl)
  have P15 : own_Rch p.tables e below A0 (T12.setTop (mkF m 23 #[.val (.long i0), .second, .val (.int i1), .val (.int (Int32.ofNat nl)), .val (.ref b5), .unset, .unset] [])) := fun t k => P11 t (st12 t k)
  have P16 : own_Rch p.tables e below A0 (T12.setTop (mkF m 28 #[.val (.long i0), .second, .val (.int i1), .val (.int (Int32.ofNat nl)), .val (.ref b5), .unset, .unset] [(.int (1 : Int32)), (.long i0), (.int (1 : Int32)), (.ref b5)])) := fun t k => P15 t (by
    show Steps p.tables e below (T12.setTop (mkF m 23 #[.val (.long i0), .second, .val (.int i1), .val (.int (Int32.ofNat nl)), .val (.ref b5), .unset, .unset] [])) _
    refine XS.aload X12.here hx rfl (hb hby at_23) rfl rfl ?_
    show Steps p.tables e below (T12.setTop (mkF m 25 #[.val (.long i0), .second, .val (.int i1), .val (.int (Int32.ofNat nl)), .val (.ref b5), .unset, .unset] [(.ref b5)])) _
    refine XS.iconst X12.here hx rfl (hb hby at_25) ?_
    show Steps p.tables e below (T12.setTop (mkF m 26 #[.val (.long i0), .second, .val (.int i1), .val (.int (Int32.ofNat nl)), .val (.ref b5), .unset, .unset] [(.int (1 : Int32)), (.ref b5)])) _
    refine XS.lloadN X12.here hx rfl (hb hby at_26) rfl ?_
    show Steps p.tables e below (T12.setTop (mkF m 27 #[.val (.long i0), .second, .val (.int i1), .val (.int (Int32.ofNat nl)), .val (.ref b5), .unset, .unset] [(.long i0), (.int (1 : Int32)), (.ref b5)])) _
    refine XS.iconst X12.here hx rfl (hb hby at_27) ?_
    exact k)
  obtain ⟨_, _, ⟨T17, L17, k17, n17⟩, -, X17, ⟨Lc17, hQ17, l17, y17, z17⟩, st17⟩ := Jvm.LawKit.callS X12 hx (y := (⟨"com/example/rackline/rackline/metrics/RequestHeadEndPinLaw", "pick", "(JI)B"⟩ : MethodName)) hown (mvT hZ (hw _ (List.mem_of_getElem? (i := 2) rfl))) (mvT hZ (hw _ (List.mem_of_getElem? (i := 3) rfl))) (mvT hZ (hw _ (List.mem_of_getElem? (i := 4) rfl))) (mvT hZ (hw _ (List.mem_of_getElem? (i := 5) rfl))) (by decide) (backOf (W := 2) (rm1 l Z a0 hw [] i0 (1 : Int32) h12 n0 Z_13 ) hZ (hw _ (List.mem_of_getElem? (i := 5) rfl)) (hw _ (List.mem_of_getElem? (i := 4) rfl)) (by decide) (by decide)) (g := (mkF m 28 #[.val (.long i0), .second, .val (.int i1), .val (.int (Int32.ofNat nl)), .val (.ref b5), .unset, .unset] [(.int (1 : Int32)), (.long i0), (.int (1 : Int32)), (.ref b5)])) rfl (by rw [hml]; rfl) (argsL := [(.long i0), (.int (1 : Int32))]) (rest := [(.int (1 : Int32)), (.ref b5)]) (lenOf pd_0 rfl) rfl (by show 2 * 0 + _ ≤ _; exact Nat.le_of_eq rfl) (hb hby at_28) (fun _ _ => ⟨rfl, e12, (by decide : (0 + 1 + 0) + 0 ≤ _), (by decide : (0 + 6 + 0) + 0 ≤ _)⟩)
  dsimp only [Pt.U, Pt.locs, Pt.cells, Pt.slots] at X17 l17 y17 z17 st17 hQ17
  subst l17 y17 z17
  obtain ⟨rfl, N17q, e17⟩ := hQ17
  have N17 := Fr.app N12 N17q
  have P18 : own_Rch p.tables e below A0 (T17.setTop (mkF m 31 #[.val (.long i0), .second, .val (.int i1), .val (.int (Int32.ofNat nl)), .val (.ref b5), .unset, .unset] [(.int (own_pick i0 (1 : Int32))), (.int (1 : Int32)), (.ref b5)])) := fun t k => P16 t (st17 t k)
  obtain ⟨cl19, Ar19, qc19, S19, N19_, H19, G19⟩ := V_14
  have hin19 : ¬ ((1 : Int32) < 0 ∨ cl19.slots.size ≤ ((1 : Int32)).toNatClampNeg) := inb_of S19 ⟨by decide, by decide⟩
  obtain ⟨T19, h19, X19, e19, W19, st19⟩ := stB X17 hx hZ e17 Ar19 (j := (1 : Int32)) hin19 (g := (mkF m 31 #[.val (.long i0), .second, .val (.int i1), .val (.int (Int32.ofNat nl)), .val (.ref b5), .unset, .unset] [(.int (own_pick i0 (1 : Int32))), (.int (1 : Int32)), (.ref b5)])) rfl rfl (hb hby at_31)
  have N19 := Fr.snoc X19 N17 g_b5
  have Z_20 : n0 ≤ h19.size := Nat.le_trans Z_13 (Keep.of_wr W19).1
  have V_21 : Arv Z h19 b5 k5 .byte (6 : Int32) [(.int (nar .byte (own_pick i0 (0 : Int32)))), (.int (nar .byte (own_pick i0 (1 : Int32)))), (.int (0 : Int32)), (.int (0 : Int32)), (.int (0 : Int32)), (.int (0 : Int32))] (.int (0 : Int32)) := Arv.set Ar19 qc19 S19 N19_ H19 G19 (fits_nar_byte _) W19 1 rfl (Nat.le_of_ble_eq_true rfl)
  have P22 : own_Rch p.tables e below A0 (T19.setTop (mkF m 32 #[.val (.long i0), .second, .val (.int i1), .val (.int (Int32.ofNat nl)), .val (.ref b5), .unset, .unset] [])) := fun t k => P18 t (st19 t k)
  have P23 : own_Rch p.tables e below A0 (T19.setTop (mkF m 37 #[.val (.long i0), .second, .val (.int i1), .val (.int (Int32.ofNat nl)), .val (.ref b5), .unset, .unset] [(.int (2 : Int32)), (.long i0), (.int (2 : Int32)), (.ref b5)])) := fun t k => P22 t (by
    show Steps p.tables e below (T19.setTop (mkF m 32 #[.val (.long i0), .second, .val (.int i1), .val (.int (Int32.ofNat nl)), .val (.ref b5), .unset, .unset] [])) _
    refine XS.aload X19.here hx rfl (hb hby at_32) rfl rfl ?_
    show Steps p.tables e below (T19.setTop (mkF m 34 #[.val (.long i0), .second, .val (.int i1), .val (.int (Int32.ofNat nl)), .val (.ref b5), .unset, .unset] [(.ref b5)])) _
    refine XS.iconst X19.here hx rfl (hb hby at_34) ?_
    show Steps p.tables e below (T19.setTop (mkF m 35 #[.val (.long i0), .second, .val (.int i1), .val (.int (Int32.ofNat nl)), .val (.ref b5), .unset, .unset] [(.int (2 : Int32)), (.ref b5)])) _
    refine XS.lloadN X19.here hx rfl (hb hby at_35) rfl ?_
    show Steps p.tables e below (T19.setTop (mkF m 36 #[.val (.long i0), .second, .val (.int i1), .val (.int (Int32.ofNat nl)), .val (.ref b5), .unset, .unset] [(.long i0), (.int (2 : Int32)), (.ref b5)])) _
    refine XS.iconst X19.here hx rfl (hb hby at_36) ?_
    exact k)
  obtain ⟨_, _, ⟨T24, L24, k24, n24⟩, -, X24, ⟨Lc24, hQ24, l24, y24, z24⟩, st24⟩ := Jvm.LawKit.callS X19 hx (y := (⟨"com/example/rackline/rackline/metrics/RequestHeadEndPinLaw", "pick", "(JI)B"⟩ : MethodName)) hown (mvT hZ (hw _ (List.mem_of_getElem? (i := 2) rfl))) (mvT hZ (hw _ (List.mem_of_getElem? (i := 3) rfl))) (mvT hZ (hw _ (List.mem_of_getElem? (i := 4) rfl))) (mvT hZ (hw _ (List.mem_of_getElem? (i := 5) rfl))) (by decide) (backOf (W := 2) (rm1 l Z a0 hw [] i0 (2 : Int32) h19 n0 Z_20 ) hZ (hw _ (List.mem_of_getElem? (i := 5) rfl)) (hw _ (List.mem_of_getElem? (i := 4) rfl)) (by decide) (by decide)) (g := (mkF m 37 #[.val (.long i0), .second, .val (.int i1), .val (.int (Int32.ofNat nl)), .val (.ref b5), .unset, .unset] [(.int (2 : Int32)), (.long i0), (.int (2 : Int32)), (.ref b5)])) rfl (by rw [hml]; rfl) (argsL := [(.long i0), (.int (2 : Int32))]) (rest := [(.int (2 : Int32)), (.ref b5)]) (lenOf pd_0 rfl) rfl (by show 2 * 0 + _ ≤ _; exact Nat.le_of_eq rfl) (hb hby at_37) (fun _ _ => ⟨rfl, e19, (by decide : (0 + 1 + 0 + 0) + 0 ≤ _), (by decide : (0 + 6 + 0 + 0) + 0 ≤ _)⟩)
  dsimp only [Pt.U, Pt.locs, Pt.cells, Pt.slots] at X24 l24 y24 z24 st24 hQ24
  subst l24 y24 z24
  obtain ⟨rfl, N24q, e24⟩ := hQ24
  have N24 := Fr.app N19 N24q
  have P25 : own_Rch p.tables e below A0 (T24.setTop (mkF m 40 #[.val (.long i0), .second, .val (.int i1), .val (.int (Int32.ofNat nl)), .val (.ref b5), .unset, .unset] [(.int (own_pick i0 (2 : Int32))), (.int (2 : Int32)), (.ref b5)])) := fun t k => P23 t (st24 t k)
  obtain ⟨cl26, Ar26, qc26, S26, N26_, H26, G26⟩ := V_21
  have hin26 : ¬ ((2 : Int32) < 0 ∨ cl26.slots.size ≤ ((2 : Int32)).toNatClampNeg) := inb_of S26 ⟨by decide, by decide⟩
  obtain ⟨T26, h26, X26, e26, W26, st26⟩ := stB X24 hx hZ e24 Ar26 (j := (2 : Int32)) hin26 (g := (mkF m 40 #[.val (.long i0), .second, .val (.int i1), .val (.int (Int32.ofNat nl)), .val (.ref b5), .unset, .unset] [(.int (own_pick i0 (2 : Int32))), (.int (2 : Int32)), (.ref b5)])) rfl rfl (hb hby at_40)
  have N26 := Fr.snoc X26 N24 g_b5
  have Z_27 : n0 ≤ h26.size := Nat.le_trans Z_20 (Keep.of_wr W26).1
  have V_28 : Arv Z h26 b5 k5 .byte (6 : Int32) [(.int (nar .byte (own_pick i0 (0 : Int32)))), (.int (nar .byte (own_pick i0 (1 : Int32)))), (.int (nar .byte (own_pick i0 (2 : Int32)))), (.int (0 : Int32)), (.int (0 : Int32)), (.int (0 : Int32))] (.int (0 : Int32)) := Arv.set Ar26 qc26 S26 N26_ H26 G26 (fits_nar_byte _) W26 2 rfl (Nat.le_of_ble_eq_true rfl)
  have P29 : own_Rch p.tables e below A0 (T26.setTop (mkF m 41 #[.val (.long i0), .second, .val (.int i1), .val (.int (Int32.ofNat nl)), .val (.ref b5), .unset, .unset] [])) := fun t k => P25 t (st26 t k)
  have P30 : own_Rch p.tables e below A0 (T26.setTop (mkF m 46 #[.val (.long i0), .second, .val (.int i1), .val (.int (Int32.ofNat nl)), .val (.ref b5), .unset, .unset] [(.int (3 : Int32)), (.long i0), (.int (3 : Int32)), (.ref b5)])) := fun t k => P29 t (by
    show Steps p.tables e below (T26.setTop (mkF m 41 #[.val (.long i0), .second, .val (.int i1), .val (.int (Int32.ofNat nl)), .val (.ref b5), .unset, .unset] [])) _
    refine XS.aload X26.here hx rfl (hb hby at_41) rfl rfl ?_
    show Steps p.tables e below (T26.setTop (mkF m 43 #[.val (.long i0), .second, .val (.int i1), .val (.int (Int32.ofNat nl)), .val (.ref b5), .unset, .unset] [(.ref b5)])) _
    refine XS.iconst X26.here hx rfl (hb hby at_43) ?_
    show Steps p.tables e below (T26.setTop (mkF m 44 #[.val (.long i0), .second, .val (.int i1), .val (.int (Int32.ofNat nl)), .val (.ref b5), .unset, .unset] [(.int (3 : Int32)), (.ref b5)])) _
    refine XS.lloadN X26.here hx rfl (hb hby at_44) rfl ?_
    show Steps p.tables e below (T26.setTop (mkF m 45 #[.val (.long i0), .second, .val (.int i1), .val (.int (Int32.ofNat nl)), .val (.ref b5), .unset, .unset] [(.long i0), (.int (3 : Int32)), (.ref b5)])) _
    refine XS.iconst X26.here hx rfl (hb hby at_45) ?_
    exact k)
  obtain ⟨_, _, ⟨T31, L31, k31, n31⟩, -, X31, ⟨Lc31, hQ31, l31, y31, z31⟩, st31⟩ := Jvm.LawKit.callS X26 hx (y := (⟨"com/example/rackline/rackline/metrics/RequestHeadEndPinLaw", "pick", "(JI)B"⟩ : MethodName)) hown (mvT hZ (hw _ (List.mem_of_getElem? (i := 2) rfl))) (mvT hZ (hw _ (List.mem_of_getElem? (i := 3) rfl))) (mvT hZ (hw _ (List.mem_of_getElem? (i := 4) rfl))) (mvT hZ (hw _ (List.mem_of_getElem? (i := 5) rfl))) (by decide) (backOf (W := 2) (rm1 l Z a0 hw [] i0 (3 : Int32) h26 n0 Z_27 ) hZ (hw _ (List.mem_of_getElem? (i := 5) rfl)) (hw _ (List.mem_of_getElem? (i := 4) rfl)) (by decide) (by decide)) (g := (mkF m 46 #[.val (.long i0), .second, .val (.int i1), .val (.int (Int32.ofNat nl)), .val (.ref b5), .unset, .unset] [(.int (3 : Int32)), (.long i0), (.int (3 : Int32)), (.ref b5)])) rfl (by rw [hml]; rfl) (argsL := [(.long i0), (.int (3 : Int32))]) (rest := [(.int (3 : Int32)), (.ref b5)]) (lenOf pd_0 rfl) rfl (by show 2 * 0 + _ ≤ _; exact Nat.le_of_eq rfl) (hb hby at_46) (fun _ _ => ⟨rfl, e26, (by decide : (0 + 1 + 0 + 0 + 0) + 0 ≤ _), (by decide : (0 + 6 + 0 + 0 + 0) + 0 ≤ _)⟩)
  dsimp only [Pt.U, Pt.locs, Pt.cells, Pt.slots] at X31 l31 y31 z31 st31 hQ31
  subst l31 y31 z31
  obtain ⟨rfl, N31q, e31⟩ := hQ31
  have N31 := Fr.app N26 N31q
  have P32 : own_Rch p.tables e below A0 (T31.setTop (mkF m 49 #[.val (.long i0), .second, .val (.int i1), .val (.int (Int32.ofNat nl)), .val (.ref b5), .unset, .unset] [(.int (own_pick i0 (3 : Int32))), (.int (3 : Int32)), (.ref b5)])) := fun t k => P30 t (st31 t k)
  obtain ⟨cl33, Ar33, qc33, S33, N33_, H33, G33⟩ := V_28
  have hin33 : ¬ ((3 : Int32) < 0 ∨ cl33.slots.size ≤ ((3 : Int32)).toNatClampNeg) := inb_of S33 ⟨by decide, by decide⟩
  obtain ⟨T33, h33, X33, e33, W33, st33⟩ := stB X31 hx hZ e31 Ar33 (j := (3 : Int32)) hin33 (g := (mkF m 49 #[.val (.long i0), .second, .val (.int i1), .val (.int (Int32.ofNat nl)), .val (.ref b5), .unset, .unset] [(.int (own_pick i0 (3 : Int32))), (.int (3 : Int32)), (.ref b5)])) rfl rfl (hb hby at_49)
  have N33 := Fr.snoc X33 N31 g_b5
  have Z_34 : n0 ≤ h33.size := Nat.le_trans Z_27 (Keep.of_wr W33).1
  have V_35 : Arv Z h33 b5 k5 .byte (6 : Int32) [(.int (nar .byte (own_pick i0 (0 : Int32)))), (.int (nar .byte (own_pick i0 (1 : Int32)))), (.int (nar .byte (own_pick i0 (2 : Int32)))), (.int (nar .byte (own_pick i0 (3 : Int32)))), (.int (0 : Int32)), (.int (0 : Int32))] (.int (0 : Int32)) := Arv.set Ar33 qc33 S33 N33_ H33 G33 (fits_nar_byte _) W33 3 rfl (Nat.le_of_ble_eq_true rfl)
  have P36 : own_Rch p.tables e below A0 (T33.setTop (mkF m 50 #[.val (.long i0), .second, .val (.int i1), .val (.int (Int32.ofNat nl)), .val (.ref b5), .unset, .unset] [])) := fun t k => P32 t (st33 t k)
  have P37 : own_Rch p.tables e below A0 (T33.setTop (mkF m 55 #[.val (.long i0), .second, .val (.int i1), .val (.int (Int32.ofNat nl)), .val (.ref b5), .unset, .unset] [(.int (4 : Int32)), (.long i0), (.int (4 : Int32)), (.ref b5)])) := fun t k => P36 t (by
    show Steps p.tables e below (T33.setTop (mkF m 50 #[.val (.long i0), .second, .val (.int i1), .val (.int (Int32.ofNat nl)), .val (.ref b5), .unset, .unset] [])) _
    refine XS.aload X33.here hx rfl (hb hby at_50) rfl rfl ?_
    show Steps p.tables e below (T33.setTop (mkF m 52 #[.val (.long i0), .second, .val (.int i1), .val (.int (Int32.ofNat nl)), .val (.ref b5), .unset, .unset] [(.ref b5)])) _
    refine XS.iconst X33.here hx rfl (hb hby at_52) ?_
    show Steps p.tables e below (T33.setTop (mkF m 53 #[.val (.long i0), .second, .val (.int i1), .val (.int (Int32.ofNat nl)), .val (.ref b5), .unset, .unset] [(.int (4 : Int32)), (.ref b5)])) _
    refine XS.lloadN X33.here hx rfl (hb hby at_53) rfl ?_
    show Steps p.tables e below (T33.setTop (mkF m 54 #[.val (.long i0), .second, .val (.int i1), .val (.int (Int32.ofNat nl)), .val (.ref b5), .unset, .unset] [(.long i0), (.int (4 : Int32)), (.ref b5)])) _
    refine XS.iconst X33.here hx rfl (hb hby at_54) ?_
    exact k)
  obtain ⟨_, _, ⟨T38, L38, k38, n38⟩, -, X38, ⟨Lc38, hQ38, l38, y38, z38⟩, st38⟩ := Jvm.LawKit.callS X33 hx (y := (⟨"com/example/rackline/rackline/metrics/RequestHeadEndPinLaw", "pick", "(JI)B"⟩ : MethodName)) hown (mvT hZ (hw _ (List.mem_of_getElem? (i := 2) rfl))) (mvT hZ (hw _ (List.mem_of_getElem? (i := 3) rfl))) (mvT hZ (hw _ (List.mem_of_getElem? (i := 4) rfl))) (mvT hZ (hw _ (List.mem_of_getElem? (i := 5) rfl))) (by decide) (backOf (W := 2) (rm1 l Z a0 hw [] i0 (4 : Int32) h33 n0 Z_34 ) hZ (hw _ (List.mem_of_getElem? (i := 5) rfl)) (hw _ (List.mem_of_getElem? (i := 4) rfl)) (by decide) (by decide)) (g := (mkF m 55 #[.val (.long i0), .second, .val (.int i1), .val (.int (Int32.ofNat nl)), .val (.ref b5), .unset, .unset] [(.int (4 : Int32)), (.long i0), (.int (4 : Int32)), (.ref b5)])) rfl (by rw [hml]; rfl) (argsL := [(.long i0), (.int (4 : Int32))]) (rest := [(.int (4 : Int32)), (.ref b5)]) (lenOf pd_0 rfl) rfl (by show 2 * 0 + _ ≤ _; exact Nat.le_of_eq rfl) (hb hby at_55) (fun _ _ => ⟨rfl, e33, (by decide : (0 + 1 + 0 + 0 + 0 + 0) + 0 ≤ _), (by decide : (0 + 6 + 0 + 0 + 0 + 0) + 0 ≤ _)⟩)
  dsimp only [Pt.U, Pt.locs, Pt.cells, Pt.slots] at X38 l38 y38 z38 st38 hQ38
  subst l38 y38 z38
  obtain ⟨rfl, N38q, e38⟩ := hQ38
  have N38 := Fr.app N33 N38q
  have P39 : own_Rch p.tables e below A0 (T38.setTop (mkF m 58 #[.val (.long i0), .second, .val (.int i1), .val (.int (Int32.ofNat nl)), .val (.ref b5), .unset, .unset] [(.int (own_pick i0 (4 : Int32))), (.int (4 : Int32)), (.ref b5)])) := fun t k => P37 t (st38 t k)
  obtain ⟨cl40, Ar40, qc40, S40, N40_, H40, G40⟩ := V_35
  have hin40 : ¬ ((4 : Int32) < 0 ∨ cl40.slots.size ≤ ((4 : Int32)).toNatClampNeg) := inb_of S40 ⟨by decide, by decide⟩
  obtain ⟨T40, h40, X40, e40, W40, st40⟩ := stB X38 hx hZ e38 Ar40 (j := (4 : Int32)) hin40 (g := (mkF m 58 #[.val (.long i0), .second, .val (.int i1), .val (.int (Int32.ofNat nl)), .val (.ref b5), .unset, .unset] [(.int (own_pick i0 (4 : Int32))), (.int (4 : Int32)), (.ref b5)])) rfl rfl (hb hby at_58)
  have N40 := Fr.snoc X40 N38 g_b5
  have Z_41 : n0 ≤ h40.size := Nat.le_trans Z_34 (Keep.of_wr W40).1
  have V_42 : Arv Z h40 b5 k5 .byte (6 : Int32) [(.int (nar .byte (own_pick i0 (0 : Int32)))), (.int (nar .byte (own_pick i0 (1 : Int32)))), (.int (nar .byte (own_pick i0 (2 : Int32)))), (.int (nar .byte (own_pick i0 (3 : Int32)))), (.int (nar .byte (own_pick i0 (4 : Int32)))), (.int (0 : Int32))] (.int (0 : Int32)) := Arv.set Ar40 qc40 S40 N40_ H40 G40 (fits_nar_byte _) W40 4 rfl (Nat.le_of_ble_eq_true rfl)
  have P43 : own_Rch p.tables e below A0 (T40.setTop (mkF m 59 #[.val (.long i0), .second, .val (.int i1), .val (.int (Int32.ofNat nl)), .val (.ref b5), .unset, .unset] [])) := fun t k => P39 t (st40 t k)
  have P44 : own_Rch p.tables e below A0 (T40.setTop (mkF m 64 #[.val (.long i0), .second, .val (.int i1), .val (.int (Int32.ofNat nl)), .val (.ref b5), .unset, .unset] [(.int (5 : Int32)), (.long i0), (.int (5 : Int32)), (.ref b5)])) := fun t k => P43 t (by
    show Steps p.tables e below (T40.setTop (mkF m 59 #[.val (.long i0), .second, .val (.int i1), .val (.int (Int32.ofNat nl)), .val (.ref b5), .unset, .unset] [])) _
    refine XS.aload X40.here hx rfl (hb hby at_59) rfl rfl ?_
    show Steps p.tables e below (T40.setTop (mkF m 61 #[.val (.long i0), .second, .val (.int i1), .val (.int (Int32.ofNat nl)), .val (.ref b5), .unset, .unset] [(.ref b5)])) _
    refine XS.iconst X40.here hx rfl (hb hby at_61) ?_
    show Steps p.tables e below (T40.setTop (mkF m 62 #[.val (.long i0), .second, .val (.int i1), .val (.int (Int32.ofNat nl)), .val (.ref b5), .unset, .unset] [(.int (5 : Int32)), (.ref b5)])) _
    refine XS.lloadN X40.here hx rfl (hb hby at_62) rfl ?_
    show Steps p.tables e below (T40.setTop (mkF m 63 #[.val (.long i0), .second, .val (.int i1), .val (.int (Int32.ofNat nl)), .val (.ref b5), .unset, .unset] [(.long i0), (.int (5 : Int32)), (.ref b5)])) _
    refine XS.iconst X40.here hx rfl (hb hby at_63) ?_
    exact k)
  obtain ⟨_, _, ⟨T45, L45, k45, n45⟩, -, X45, ⟨Lc45, hQ45, l45, y45, z45⟩, st45⟩ := Jvm.LawKit.callS X40 hx (y := (⟨"com/example/rackline/rackline/metrics/RequestHeadEndPinLaw", "pick", "(JI)B"⟩ : MethodName)) hown (mvT hZ (hw _ (List.mem_of_getElem? (i := 2) rfl))) (mvT hZ (hw _ (List.mem_of_getElem? (i := 3) rfl))) (mvT hZ (hw _ (List.mem_of_getElem? (i := 4) rfl))) (mvT hZ (hw _ (List.mem_of_getElem? (i := 5) rfl))) (by decide) (backOf (W := 2) (rm1 l Z a0 hw [] i0 (5 : Int32) h40 n0 Z_41 ) hZ (hw _ (List.mem_of_getElem? (i := 5) rfl)) (hw _ (List.mem_of_getElem? (i := 4) rfl)) (by decide) (by decide)) (g := (mkF m 64 #[.val (.long i0), .second, .val (.int i1), .val (.int (Int32.ofNat nl)), .val (.ref b5), .unset, .unset] [(.int (5 : Int32)), (.long i0), (.int (5 : Int32)), (.ref b5)])) rfl (by rw [hml]; rfl) (argsL := [(.long i0), (.int (5 : Int32))]) (rest := [(.int (5 : Int32)), (.ref b5)]) (lenOf pd_0 rfl) rfl (by show 2 * 0 + _ ≤ _; exact Nat.le_of_eq rfl) (hb hby at_64) (fun _ _ => ⟨rfl, e40, (by decide : (0 + 1 + 0 + 0 + 0 + 0 + 0) + 0 ≤ _), (by decide : (0 + 6 + 0 + 0 + 0 + 0 + 0) + 0 ≤ _)⟩)
  dsimp only [Pt.U, Pt.locs, Pt.cells, Pt.slots] at X45 l45 y45 z45 st45 hQ45
  subst l45 y45 z45
  obtain ⟨rfl, N45q, e45⟩ := hQ45
  have N45 := Fr.app N40 N45q
  have P46 : own_Rch p.tables e below A0 (T45.setTop (mkF m 67 #[.val (.long i0), .second, .val (.int i1), .val (.int (Int32.ofNat nl)), .val (.ref b5), .unset, .unset] [(.int (own_pick i0 (5 : Int32))), (.int (5 : Int32)), (.ref b5)])) := fun t k => P44 t (st45 t k)
  obtain ⟨cl47, Ar47, qc47, S47, N47_, H47, G47⟩ := V_42
  have hin47 : ¬ ((5 : Int32) < 0 ∨ cl47.slots.size ≤ ((5 : Int32)).toNatClampNeg) := inb_of S47 ⟨by decide, by decide⟩
  obtain ⟨T47, h47, X47, e47, W47, st47⟩ := stB X45 hx hZ e45 Ar47 (j := (5 : Int32)) hin47 (g := (mkF m 67 #[.val (.long i0), .second, .val (.int i1), .val (.int (Int32.ofNat nl)), .val (.ref b5), .unset, .unset] [(.int (own_pick i0 (5 : Int32))), (.int (5 : Int32)), (.ref b5)])) rfl rfl (hb hby at_67)
  have N47 := Fr.snoc X47 N45 g_b5
  have Z_48 : n0 ≤ h47.size := Nat.le_trans Z_41 (Keep.of_wr W47).1
  have V_49 : Arv Z h47 b5 k5 .byte (6 : Int32) [(.int (nar .byte (own_pick i0 (0 : Int32)))), (.int (nar .byte (own_pick i0 (1 : Int32)))), (.int (nar .byte (own_pick i0 (2 : Int32)))), (.int (nar .byte (own_pick i0 (3 : Int32)))), (.int (nar .byte (own_pick i0 (4 : Int32)))), (.int (nar .byte (own_pick i0 (5 : Int32))))] (.int (0 : Int32)) := Arv.set Ar47 qc47 S47 N47_ H47 G47 (fits_nar_byte _) W47 5 rfl (Nat.le_of_ble_eq_true rfl)
  have P50 : own_Rch p.tables e below A0 (T47.setTop (mkF m 68 #[.val (.long i0), .second, .val (.int i1), .val (.int (Int32.ofNat nl)), .val (.ref b5), .unset, .unset] [])) := fun t k => P46 t (st47 t k)
  obtain ⟨c0, c1, c2, c3, c4, c5, V_51⟩ : ∃ c0 c1 c2 c3 c4 c5 : Int32, Arv Z h47 b5 k5 .byte (6 : Int32) [(.int c0), (.int c1), (.int c2), (.int c3), (.int c4), (.int c5)] (.int (0 : Int32)) := ⟨_, _, _, _, _, _, V_49⟩
  have P52 : own_Rch p.tables e below A0 (T47.setTop (mkF m 71 #[.val (.long i0), .second, .val (.int i1), .val (.int (Int32.ofNat nl)), .val (.ref b5), .val (.int (Int32.ofNat nl)), .unset] [])) := fun t k => P50 t (by
    show Steps p.tables e below (T47.setTop (mkF m 68 #[.val (.long i0), .second, .val (.int i1), .val (.int (Int32.ofNat nl)), .val (.ref b5), .unset, .unset] [])) _
    refine XS.iloadN X47.here hx rfl (hb hby at_68) rfl ?_
    show Steps p.tables e below (T47.setTop (mkF m 69 #[.val (.long i0), .second, .val (.int i1), .val (.int (Int32.ofNat nl)), .val (.ref b5), .unset, .unset] [(.int (Int32.ofNat nl))])) _
    refine XS.istore X47.here hx rfl (hb hby at_69) rfl (l' := #[.val (.long i0), .second, .val (.int i1), .val (.int (Int32.ofNat nl)), .val (.ref b5), .val (.int (Int32.ofNat nl)), .unset]) rfl ?_
    exact k)
  have hf_0 : ¬ (Int32.ofNat nl) < (-1 : Int32) := own_m1 (by omega)
  have P54 : own_Rch p.tables e below A0 (T47.setTop (mkF m 73 #[.val (.long i0), .second, .val (.int i1), .val (.int (Int32.ofNat nl)), .val (.ref b5), .val (.int (Int32.ofNat nl)), .unset] [(.int (Int32.ofNat nl)), (.int (5 : Int32))])) := fun t k => P52 t (by
    show Steps p.tables e below (T47.setTop (mkF m 71 #[.val (.long i0), .second, .val (.int i1), .val (.int (Int32.ofNat nl)), .val (.ref b5), .val (.int (Int32.ofNat nl)), .unset] [])) _
    refine XS.iconst X47.here hx rfl (hb hby at_71) ?_
    show Steps p.tables e below (T47.setTop (mkF m 72 #[.val (.long i0), .second, .val (.int i1), .val (.int (Int32.ofNat nl)), .val (.ref b5), .val (.int (Int32.ofNat nl)), .unset] [(.int (5 : Int32))])) _
    refine XS.iloadN X47.here hx rfl (hb hby at_72) rfl ?_
    exact k)
  obtain ⟨v64, hv64⟩ : ∃ z : Int32, z = (if (5 : Int32) < (Int32.ofNat nl) then (if (own_brk c5) = (0 : Int32) then (5 : Int32) else (Int32.ofNat nl)) else (Int32.ofNat nl)) := ⟨_, rfl⟩
  obtain ⟨T65, L65, X65, e65, N65, P65⟩ : ∃ (T' : State) (L' : List Loc), Stand p l e room_1 s m args' below meth c T' L' (0 + 1 + 0 + 0 + 0 + 0 + 0 + 0) (0 + 6 + 0 + 0 + 0 + 0 + 0 + 0) ∧ T'.heap = h47 ∧ Fr n0 L' ∧ own_Rch p.tables e below A0 (T'.setTop (mkF m 89 #[.val (.long i0), .second, .val (.int i1), .val (.int (Int32.ofNat nl)), .val (.ref b5), .val (.int v64), .unset] [])) := by
    by_cases hc53 : (5 : Int32) < (Int32.ofNat nl)
    · -- (5 : Int32) < (Int32.ofNat nl)
      have P56 : own_Rch p.tables e below A0 (T47.setTop (mkF m 80 #[.val (.long i0), .second, .val (.int i1), .val (.int (Int32.ofNat nl)), .val (.ref b5), .val (.int (Int32.ofNat nl)), .unset] [(.int c5)])) := fun t k => P54 t (by
        show Steps p.tables e below (T47.setTop (mkF m 73 #[.val (.long i0), .second, .val (.int i1), .val (.int (Int32.ofNat nl)), .val (.ref b5), .val (.int (Int32.ofNat nl)), .unset] [(.int (Int32.ofNat nl)), (.int (5 : Int32))])) _
        refine XS.icmpNo X47.here hx rfl (hb hby at_73) rfl (tlt hc53).2.1 ?_
        show Steps p.tables e below (T47.setTop (mkF m 76 #[.val (.long i0), .second, .val (.int i1), .val (.int (Int32.ofNat nl)), .val (.ref b5), .val (.int (Int32.ofNat nl)), .unset] [])) _
        refine XS.aload X47.here hx rfl (hb hby at_76) rfl rfl ?_
        show Steps p.tables e below (T47.setTop (mkF m 78 #[.val (.long i0), .second, .val (.int i1), .val (.int (Int32.ofNat nl)), .val (.ref b5), .val (.int (Int32.ofNat nl)), .unset] [(.ref b5)])) _
        refine XS.iconst X47.here hx rfl (hb hby at_78) ?_
        show Steps p.tables e below (T47.setTop (mkF m 79 #[.val (.long i0), .second, .val (.int i1), .val (.int (Int32.ofNat nl)), .val (.ref b5), .val (.int (Int32.ofNat nl)), .unset] [(.int (5 : Int32)), (.ref b5)])) _
        obtain ⟨cl55, Ar55, -, S55, N55, H55, -⟩ := id V_51
        have hin55 : ¬ ((5 : Int32) < 0 ∨ cl55.slots.size ≤ ((5 : Int32)).toNatClampNeg) := inb_of S55 ⟨by decide, by decide⟩
        have hat55 := H55.at hin55 (v := (.int c5)) rfl
        refine X47.baloadBytes hx (j := (5 : Int32)) (v := (.int c5)) (by rw [e47]; exact Ar55.1) (State.isArrayOf_alike hZ.alike Ar55.2.1) Ar55.2.2 hin55 hat55 (g := (mkF m 79 #[.val (.long i0), .second, .val (.int i1), .val (.int (Int32.ofNat nl)), .val (.ref b5), .val (.int (Int32.ofNat nl)), .unset] [(.int (5 : Int32)), (.ref b5)])) rfl rfl (hb hby at_79) _ ?_
        exact k)
      obtain ⟨_, _, ⟨T57, L57, k57, n57⟩, -, X57, ⟨Lc57, hQ57, l57, y57, z57⟩, st57⟩ := Jvm.LawKit.callS X47 hx (y := (⟨"com/example/rackline/rackline/metrics/RequestHeadEndPinLaw", "brk", "(B)Z"⟩ : MethodName)) hown (mvT hZ (hw _ (List.mem_of_getElem? (i := 8) rfl))) (mvT hZ (hw _ (List.mem_of_getElem? (i := 9) rfl))) (mvT hZ (hw _ (List.mem_of_getElem? (i := 4) rfl))) (mvT hZ (hw _ (List.mem_of_getElem? (i := 10) rfl))) (by decide) (backOf (W := 0) (rm2 l Z a0 hw [] c5 h47 n0 Z_48 ) hZ (hw _ (List.mem_of_getElem? (i := 10) rfl)) (hw _ (List.mem_of_getElem? (i := 4) rfl)) (by decide) (by decide)) (g := (mkF m 80 #[.val (.long i0), .second, .val (.int i1), .val (.int (Int32.ofNat nl)), .val (.ref b5), .val (.int (Int32.ofNat nl)), .unset] [(.int c5)])) rfl (by rw [hml]; rfl) (argsL := [(.int c5)]) (rest := []) (lenOf pd_1 rfl) rfl (by show 2 * 0 + _ ≤ _; exact Nat.le_of_eq rfl) (hb hby at_80) (fun _ _ => ⟨rfl, e47, (by decide : (0 + 1 + 0 + 0 + 0 + 0 + 0 + 0) + 0 ≤ _), (by decide : (0 + 6 + 0 + 0 + 0 + 0 + 0 + 0) + 0 ≤ _)⟩)
      dsimp only [Pt.U, Pt.locs, Pt.cells, Pt.slots] at X57 l57 y57 z57 st57 hQ57
      subst l57 y57 z57
      obtain ⟨rfl, N57q, e57⟩ := hQ57
      have N57 := Fr.app N47 N57q
      have P58 : own_Rch p.tables e below A0 (T57.setTop (mkF m 83 #[.val (.long i0), .second, .val (.int i1), .val (.int (Int32.ofNat nl)), .val (.ref b5), .val (.int (Int32.ofNat nl)), .unset] [(.int (own_brk c5))])) := fun t k => P56 t (st57 t k)
      obtain ⟨v61, hv61⟩ : ∃ z : Int32, z = (if (own_brk c5) = (0 : Int32) then (5 : Int32) else (Int32.ofNat nl)) := ⟨_, rfl⟩
      have P62 : own_Rch p.tables e below A0 (T57.setTop (mkF m 89 #[.val (.long i0), .second, .val (.int i1), .val (.int (Int32.ofNat nl)), .val (.ref b5), .val (.int v61), .unset] [])) := fun t k => P58 t (by
        by_cases hc60 : (own_brk c5) = (0 : Int32)
        · show Steps p.tables e below (T57.setTop (mkF m 83 #[.val (.long i0), .second, .val (.int i1), .val (.int (Int32.ofNat nl)), .val (.ref b5), .val (.int (Int32.ofNat nl)), .unset] [(.int (own_brk c5))])) _
          refine XS.ifNo X57.here hx rfl (hb hby at_83) rfl ((if0 _ _).trans (teq hc60).2) ?_
          have qv61 : v61 = (5 : Int32) := by rw [hv61]; simp only [if_pos hc60]
          rw [qv61] at k
          show Steps p.tables e below (T57.setTop (mkF m 86 #[.val (.long i0), .second, .val (.int i1), .val (.int (Int32.ofNat nl)), .val (.ref b5), .val (.int (Int32.ofNat nl)), .unset] [])) _
          refine XS.iconst X57.here hx rfl (hb hby at_86) ?_
          show Steps p.tables e below (T57.setTop (mkF m 87 #[.val (.long i0), .second, .val (.int i1), .val (.int (Int32.ofNat nl)), .val (.ref b5), .val (.int (Int32.ofNat nl)), .unset] [(.int (5 : Int32))])) _
          refine XS.istore X57.here hx rfl (hb hby at_87) rfl (l' := #[.val (.long i0), .second, .val (.int i1), .val (.int (Int32.ofNat nl)), .val (.ref b5), .val (.int (5 : Int32)), .unset]) rfl ?_
          exact k
        · show Steps p.tables e below (T57.setTop (mkF m 83 #[.val (.long i0), .second, .val (.int i1), .val (.int (Int32.ofNat nl)), .val (.ref b5), .val (.int (Int32.ofNat nl)), .unset] [(.int (own_brk c5))])) _
          refine XS.ifYes X57.here hx rfl (pc0 := 83) (pc' := 89) rfl (hb hby at_83) rfl ((if0 _ _).trans (feq hc60).2) (by decide) (by decide) ?_
          have qv61 : v61 = (Int32.ofNat nl) := by rw [hv61]; simp only [if_neg hc60]
          rw [qv61] at k
          exact k)
      have qv64 : v64 = v61 := by rw [hv64]; simp only [if_pos hc53, hv61]
      refine ⟨T57, _, X57, e57, N57, ?_⟩
      rw [qv64]
      exact P62
    · -- not (5 : Int32) < (Int32.ofNat nl)
      have P64 : own_Rch p.tables e below A0 (T47.setTop (mkF m 89 #[.val (.long i0), .second, .val (.int i1), .val (.int (Int32.ofNat nl)), .val (.ref b5), .val (.int (Int32.ofNat nl)), .unset] [])) := fun t k => P54 t (by
        show Steps p.tables e below (T47.setTop (mkF m 73 #[.val (.long i0), .second, .val (.int i1), .val (.int (Int32.ofNat nl)), .val (.ref b5), .val (.int (Int32.ofNat nl)), .unset] [(.int (Int32.ofNat nl)), (.int (5 : Int32))])) _
        refine XS.icmpYes X47.here hx rfl (pc0 := 73) (pc' := 89) rfl (hb hby at_73) rfl (flt hc53).2.1 (by decide) (by decide) ?_
        exact k)
      have qv64 : v64 = (Int32.ofNat nl) := by rw [hv64]; simp only [if_neg hc53]
      refine ⟨T47, _, X47, e47, N47, ?_⟩
      rw [qv64]
      exact P64
  have hf_1 : ¬ v64 < (-1 : Int32) := by
    rw [hv64]; split
    · split
      · decide
      · exact hf_0
    · exact hf_0
  have P67 : own_Rch p.tables e below A0 (T65.setTop (mkF m 91 #[.val (.long i0), .second, .val (.int i1), .val (.int (Int32.ofNat nl)), .val (.ref b5), .val (.int v64), .unset] [(.int (Int32.ofNat nl)), (.int (4 : Int32))])) := fun t k => P65 t (by
    show Steps p.tables e below (T65.setTop (mkF m 89 #[.val (.long i0), .second, .val (.int i1), .val (.int (Int32.ofNat nl)), .val (.ref b5), .val (.int v64), .unset] [])) _
    refine XS.iconst X65.here hx rfl (hb hby at_89) ?_
    show Steps p.tables e below (T65.setTop (mkF m 90 #[.val (.long i0), .second, .val (.int i1), .val (.int (Int32.ofNat nl)), .val (.ref b5), .val (.int v64), .unset] [(.int (4 : Int32))])) _
    refine XS.iloadN X65.here hx rfl (hb hby at_90) rfl ?_
    exact k)
  obtain ⟨v77, hv77⟩ : ∃ z : Int32, z = (if (4 : Int32) < (Int32.ofNat nl) then (if (own_brk c4) = (0 : Int32) then (4 : Int32) else v64) else v64) := ⟨_, rfl⟩
  obtain ⟨T78, L78, X78, e78, N78, P78⟩ : ∃ (T' : State) (L' : List Loc), Stand p l e room_1 s m args' below meth c T' L' (0 + 1 + 0 + 0 + 0 + 0 + 0 + 0) (0 + 6 + 0 + 0 + 0 + 0 + 0 + 0) ∧ T'.heap = h47 ∧ Fr n0 L' ∧ own_Rch p.tables e below A0 (T'.setTop (mkF m 107 #[.val (.long i0), .second, .val (.int i1), .val (.int (Int32.ofNat nl)), .val (.ref b5), .val (.int v77), .unset] [])) := by
    by_cases hc66 : (4 : Int32) < (Int32.ofNat nl)
    · -- (4 : Int32) < (Int32.ofNat nl)
      have P69 : own_Rch p.tables e below A0 (T65.setTop (mkF m 98 #[.val (.long i0), .second, .val (.int i1), .val (.int (Int32.ofNat nl)), .val (.ref b5), .val (.int v64), .unset] [(.int c4)])) := fun t k => P67 t (by
        show Steps p.tables e below (T65.setTop (mkF m 91 #[.val (.long i0), .second, .val (.int i1), .val (.int (Int32.ofNat nl)), .val (.ref b5), .val (.int v64), .unset] [(.int (Int32.ofNat nl)), (.int (4 : Int32))])) _
        refine XS.icmpNo X65.here hx rfl (hb hby at_91) rfl (tlt hc66).2.1 ?_
        show Steps p.tables e below (T65.setTop (mkF m 94 #[.val (.long i0), .second, .val (.int i1), .val (.int (Int32.ofNat nl)), .val (.ref b5), .val (.int v64), .unset] [])) _
        refine XS.aload X65.here hx rfl (hb hby at_94) rfl rfl ?_
        show Steps p.tables e below (T65.setTop (mkF m 96 #[.val (.long i0), .second, .val (.int i1), .val (.int (Int32.ofNat nl)), .val (.ref b5), .val (.int v64), .unset] [(.ref b5)])) _
        refine XS.iconst X65.here hx rfl (hb hby at_96) ?_
        show Steps p.tables e below (T65.setTop (mkF m 97 #[.val (.long i0), .second, .val (.int i1), .val (.int (Int32.ofNat nl)), .val (.ref b5), .val (.int v64), .unset] [(.int (4 : Int32)), (.ref b5)])) _
        obtain ⟨cl68, Ar68, -, S68, N68, H68, -⟩ := id V_51
        have hin68 : ¬ ((4 : Int32) < 0 ∨ cl68.slots.size ≤ ((4 : Int32)).toNatClampNeg) := inb_of S68 ⟨by decide, by decide⟩
        have hat68 := H68.at hin68 (v := (.int c4)) rfl
        refine X65.baloadBytes hx (j := (4 : Int32)) (v := (.int c4)) (by rw [e65]; exact Ar68.1) (State.isArrayOf_alike hZ.alike Ar68.2.1) Ar68.2.2 hin68 hat68 (g := (mkF m 97 #[.val (.long i0), .second, .val (.int i1), .val (.int (Int32.ofNat nl)), .val (.ref b5), .val (.int v64), .unset] [(.int (4 : Int32)), (.ref b5)])) rfl rfl (hb hby at_97) _ ?_
        exact k)
      obtain ⟨_, _, ⟨T70, L70, k70, n70⟩, -, X70, ⟨Lc70, hQ70, l70, y70, z70⟩, st70⟩ := Jvm.LawKit.callS X65 hx (y := (⟨"com/example/rackline/rackline/metrics/RequestHeadEndPinLaw", "brk", "(B)Z"⟩ : MethodName)) hown (mvT hZ (hw _ (List.mem_of_getElem? (i := 8) rfl))) (mvT hZ (hw _ (List.mem_of_getElem? (i := 9) rfl))) (mvT hZ (hw _ (List.mem_of_getElem? (i := 4) rfl))) (mvT hZ (hw _ (List.mem_of_getElem? (i := 10) rfl))) (by decide) (backOf (W := 0) (rm2 l Z a0 hw [] c4 h47 n0 Z_48 ) hZ (hw _ (List.mem_of_getElem? (i := 10) rfl)) (hw _ (List.mem_of_getElem? (i := 4) rfl)) (by decide) (by decide)) (g := (mkF m 98 #[.val (.long i0), .second, .val (.int i1), .val (.int (Int32.ofNat nl)), .val (.ref b5), .val (.int v64), .unset] [(.int c4)])) rfl (by rw [hml]; rfl) (argsL := [(.int c4)]) (rest := []) (lenOf pd_1 rfl) rfl (by show 2 * 0 + _ ≤ _; exact Nat.le_of_eq rfl) (hb hby at_98) (fun _ _ => ⟨rfl, e65, (by decide : (0 + 1 + 0 + 0 + 0 + 0 + 0 + 0) + 0 ≤ _), (by decide : (0 + 6 + 0 + 0 + 0 + 0 + 0 + 0) + 0 ≤ _)⟩)
      dsimp only [Pt.U, Pt.locs, Pt.cells, Pt.slots] at X70 l70 y70 z70 st70 hQ70
      subst l70 y70 z70
      obtain ⟨rfl, N70q, e70⟩ := hQ70
      have N70 := Fr.app N65 N70q
      have P71 : own_Rch p.tables e below A0 (T70.setTop (mkF m 101 #[.val (.long i0), .second, .val (.int i1), .val (.int (Int32.ofNat nl)), .val (.ref b5), .val (.int v64), .unset] [(.int (own_brk c4))])) := fun t k => P69 t (st70 t k)
      obtain ⟨v74, hv74⟩ : ∃ z : Int32, z = (if (own_brk c4) = (0 : Int32) then (4 : Int32) else v64) := ⟨_, rfl⟩
      have P75 : own_Rch p.tables e below A0 (T70.setTop (mkF m 107 #[.val (.long i0), .second, .val (.int i1), .val (.int (Int32.ofNat nl)), .val (.ref b5), .val (.int v74), .unset] [])) := fun t k => P71 t (by
        by_cases hc73 : (own_brk c4) = (0 : Int32)
        · show Steps p.tables e below (T70.setTop (mkF m 101 #[.val (.long i0), .second, .val (.int i1), .val (.int (Int32.ofNat nl)), .val (.ref b5), .val (.int v64), .unset] [(.int (own_brk c4))])) _
          refine XS.ifNo X70.here hx rfl (hb hby at_101) rfl ((if0 _ _).trans (teq hc73).2) ?_
          have qv74 : v74 = (4 : Int32) := by rw [hv74]; simp only [if_pos hc73]
          rw [qv74] at k
          show Steps p.tables e below (T70.setTop (mkF m 104 #[.val (.long i0), .second, .val (.int i1), .val (.int (Int32.ofNat nl)), .val (.ref b5), .val (.int v64), .unset] [])) _
          refine XS.iconst X70.here hx rfl (hb hby at_104) ?_
          show Steps p.tables e below (T70.setTop (mkF m 105 #[.val (.long i0), .second, .val (.int i1), .val (.int (Int32.ofNat nl)), .val (.ref b5), .val (.int v64), .unset] [(.int (4 : Int32))])) _
          refine XS.istore X70.here hx rfl (hb hby at_105) rfl (l' := #[.val (.long i0), .second, .val (.int i1), .val (.int (Int32.ofNat nl)), .val (.ref b5), .val (.int (4 : Int32)), .unset]) rfl ?_
          exact k
        · show Steps p.tables e below (T70.setTop (mkF m 101 #[.val (.long i0), .second, .val (.int i1), .val (.int (Int32.ofNat nl)), .val (.ref b5), .val (.int v64), .unset] [(.int (own_brk c4))])) _
          refine XS.ifYes X70.here hx rfl (pc0 := 101) (pc' := 107) rfl (hb hby at_101) rfl ((if0 _ _).trans (feq hc73).2) (by decide) (by decide) ?_
          have qv74 : v74 = v64 := by rw [hv74]; simp only [if_neg hc73]
          rw [qv74] at k
          exact k)
      have qv77 : v77 = v74 := by rw [hv77]; simp only [if_pos hc66, hv74]
      refine ⟨T70, _, X70, e70, N70, ?_⟩
      rw [qv77]
      exact P75
    · -- not (4 : Int32) < (Int32.ofNat nl)
      have P77 : own_Rch p.tables e below A0 (T65.setTop (mkF m 107 #[.val (.long i0), .second, .val (.int i1), .val (.int (Int32.ofNat nl)), .val (.ref b5), .val (.int v64), .unset] [])) := fun t k => P67 t (by
        show Steps p.tables e below (T65.setTop (mkF m 91 #[.val (.long i0), .second, .val (.int i1), .val (.int (Int32.ofNat nl)), .val (.ref b5), .val (.int v64), .unset] [(.int (Int32.ofNat nl)), (.int (4 : Int32))])) _
        refine XS.icmpYes X65.here hx rfl (pc0 := 91) (pc' := 107) rfl (hb hby at_91) rfl (flt hc66).2.1 (by decide) (by decide) ?_
        exact k)
      have qv77 : v77 = v64 := by rw [hv77]; simp only [if_neg hc66]
      refine ⟨T65, _, X65, e65, N65, ?_⟩
      rw [qv77]
      exact P77
  have hf_2 : ¬ v77 < (-1 : Int32) := by
    rw [hv77]; split
    · split
      · decide
      · exact hf_1
    · exact hf_1
  have P80 : own_Rch p.tables e below A0 (T78.setTop (mkF m 109 #[.val (.long i0), .second, .val (.int i1), .val (.int (Int32.ofNat nl)), .val (.ref b5), .val (.int v77), .unset] [(.int (Int32.ofNat nl)), (.int (3 : Int32))])) := fun t k => P78 t (by
    show Steps p.tables e below (T78.setTop (mkF m 107 #[.val (.long i0), .second, .val (.int i1), .val (.int (Int32.ofNat nl)), .val (.ref b5), .val (.int v77), .unset] [])) _
    refine XS.iconst X78.here hx rfl (hb hby at_107) ?_
    show Steps p.tables e below (T78.setTop (mkF m 108 #[.val (.long i0), .second, .val (.int i1), .val (.int (Int32.ofNat nl)), .val (.ref b5), .val (.int v77), .unset] [(.int (3 : Int32))])) _
    refine XS.iloadN X78.here hx rfl (hb hby at_108) rfl ?_
    exact k)
  obtain ⟨v90, hv90⟩ : ∃ z : Int32, z = (if (3 : Int32) < (Int32.ofNat nl) then (if (own_brk c3) = (0 : Int32) then (3 : Int32) else v77) else v77) := ⟨_, rfl⟩
  obtain ⟨T91, L91, X91, e91, N91, P91⟩ : ∃ (T' : State) (L' : List Loc), Stand p l e room_1 s m args' below meth c T' L' (0 + 1 + 0 + 0 + 0 + 0 + 0 + 0) (0 + 6 + 0 + 0 + 0 + 0 + 0 + 0) ∧ T'.heap = h47 ∧ Fr n0 L' ∧ own_Rch p.tables e below A0 (T'.setTop (mkF m 125 #[.val (.long i0), .second, .val (.int i1), .val (.int (Int32.ofNat nl)), .val (.ref b5), .val (.int v90), .unset] [])) := by
    by_cases hc79 : (3 : Int32) < (Int32.ofNat nl)
    · -- (3 : Int32) < (Int32.ofNat nl)
      have P82 : own_Rch p.tables e below A0 (T78.setTop (mkF m 116 #[.val (.long i0), .second, .val (.int i1), .val (.int (Int32.ofNat nl)), .val (.ref b5), .val (.int v77), .unset] [(.int c3)])) := fun t k => P80 t (by
        show Steps p.tables e below (T78.setTop (mkF m 109 #[.val (.long i0), .second, .val (.int i1), .val (.int (Int32.ofNat nl)), .val (.ref b5), .val (.int v77), .unset] [(.int (Int32.ofNat nl)), (.int (3 : Int32))])) _
        refine XS.icmpNo X78.here hx rfl (hb hby at_109) rfl (tlt hc79).2.1 ?_
        show Steps p.tables e below (T78.setTop (mkF m 112 #[.val (.long i0), .second, .val (.int i1), .val (.int (Int32.ofNat nl)), .val (.ref b5), .val (.int v77), .unset] [])) _
        refine XS.aload X78.here hx rfl (hb hby at_112) rfl rfl ?_
        show Steps p.tables e below (T78.setTop (mkF m 114 #[.val (.long i0), .second, .val (.int i1), .val (.int (Int32.ofNat nl)), .val (.ref b5), .val (.int v77), .unset] [(.ref b5)])) _
        refine XS.iconst X78.here hx rfl (hb hby at_114) ?_
        show Steps p.tables e below (T78.setTop (mkF m 115 #[.val (.long i0), .second, .val (.int i1), .val (.int (Int32.ofNat nl)), .val (.ref b5), .val (.int v77), .unset] [(.int (3 : Int32)), (.ref b5)])) _
        obtain ⟨cl81, Ar81, -, S81, N81, H81, -⟩ := id V_51
        have hin81 : ¬ ((3 : Int32) < 0 ∨ cl81.slots.size ≤ ((3 : Int32)).toNatClampNeg) := inb_of S81 ⟨by decide, by decide⟩
        have hat81 := H81.at hin81 (v := (.int c3)) rfl
        refine X78.baloadBytes hx (j := (3 : Int32)) (v := (.int c3)) (by rw [e78]; exact Ar81.1) (State.isArrayOf_alike hZ.alike Ar81.2.1) Ar81.2.2 hin81 hat81 (g := (mkF m 115 #[.val (.long i0), .second, .val (.int i1), .val (.int (Int32.ofNat nl)), .val (.ref b5), .val (.int v77), .unset] [(.int (3 : Int32)), (.ref b5)])) rfl rfl (hb hby at_115) _ ?_
        exact k)
      obtain ⟨_, _, ⟨T83, L83, k83, n83⟩, -, X83, ⟨Lc83, hQ83, l83, y83, z83⟩, st83⟩ := Jvm.LawKit.callS X78 hx (y := (⟨"com/example/rackline/rackline/metrics/RequestHeadEndPinLaw", "brk", "(B)Z"⟩ : MethodName)) hown (mvT hZ (hw _ (List.mem_of_getElem? (i := 8) rfl))) (mvT hZ (hw _ (List.mem_of_getElem? (i := 9) rfl))) (mvT hZ (hw _ (List.mem_of_getElem? (i := 4) rfl))) (mvT hZ (hw _ (List.mem_of_getElem? (i := 10) rfl))) (by decide) (backOf (W := 0) (rm2 l Z a0 hw [] c3 h47 n0 Z_48 ) hZ (hw _ (List.mem_of_getElem? (i := 10) rfl)) (hw _ (List.mem_of_getElem? (i := 4) rfl)) (by decide) (by decide)) (g := (mkF m 116 #[.val (.long i0), .second, .val (.int i1), .val (.int (Int32.ofNat nl)), .val (.ref b5), .val (.int v77), .unset] [(.int c3)])) rfl (by rw [hml]; rfl) (argsL := [(.int c3)]) (rest := []) (lenOf pd_1 rfl) rfl (by show 2 * 0 + _ ≤ _; exact Nat.le_of_eq rfl) (hb hby at_116) (fun _ _ => ⟨rfl, e78, (by decide : (0 + 1 + 0 + 0 + 0 + 0 + 0 + 0) + 0 ≤ _), (by decide : (0 + 6 + 0 + 0 + 0 + 0 + 0 + 0) + 0 ≤ _)⟩)
      dsimp only [Pt.U, Pt.locs, Pt.cells, Pt.slots] at X83 l83 y83 z83 st83 hQ83
      subst l83 y83 z83
      obtain ⟨rfl, N83q, e83⟩ := hQ83
      have N83 := Fr.app N78 N83q
      have P84 : own_Rch p.tables e below A0 (T83.setTop (mkF m 119 #[.val (.long i0), .second, .val (.int i1), .val (.int (Int32.ofNat nl)), .val (.ref b5), .val (.int v77), .unset] [(.int (own_brk c3))])) := fun t k => P82 t (st83 t k)
      obtain ⟨v87, hv87⟩ : ∃ z : Int32, z = (if (own_brk c3) = (0 : Int32) then (3 : Int32) else v77) := ⟨_, rfl⟩
      have P88 : own_Rch p.tables e below A0 (T83.setTop (mkF m 125 #[.val (.long i0), .second, .val (.int i1), .val (.int (Int32.ofNat nl)), .val (.ref b5), .val (.int v87), .unset] [])) := fun t k => P84 t (by
        by_cases hc86 : (own_brk c3) = (0 : Int32)
        · show Steps p.tables e below (T83.setTop (mkF m 119 #[.val (.long i0), .second, .val (.int i1), .val (.int (Int32.ofNat nl)), .val (.ref b5), .val (.int v77), .unset] [(.int (own_brk c3))])) _
          refine XS.ifNo X83.here hx rfl (hb hby at_119) rfl ((if0 _ _).trans (teq hc86).2) ?_
          have qv87 : v87 = (3 : Int32) := by rw [hv87]; simp only [if_pos hc86]
          rw [qv87] at k
          show Steps p.tables e below (T83.setTop (mkF m 122 #[.val (.long i0), .second, .val (.int i1), .val (.int (Int32.ofNat nl)), .val (.ref b5), .val (.int v77), .unset] [])) _
          refine XS.iconst X83.here hx rfl (hb hby at_122) ?_
          show Steps p.tables e below (T83.setTop (mkF m 123 #[.val (.long i0), .second, .val (.int i1), .val (.int (Int32.ofNat nl)), .val (.ref b5), .val (.int v77), .unset] [(.int (3 : Int32))])) _
          refine XS.istore X83.here hx rfl (hb hby at_123) rfl (l' := #[.val (.long i0), .second, .val (.int i1), .val (.int (Int32.ofNat nl)), .val (.ref b5), .val (.int (3 : Int32)), .unset]) rfl ?_
          exact k
        · show Steps p.tables e below (T83.setTop (mkF m 119 #[.val (.long i0), .second, .val (.int i1), .val (.int (Int32.ofNat nl)), .val (.ref b5), .val (.int v77), .unset] [(.int (own_brk c3))])) _
          refine XS.ifYes X83.here hx rfl (pc0 := 119) (pc' := 125) rfl (hb hby at_119) rfl ((if0 _ _).trans (feq hc86).2) (by decide) (by decide) ?_
          have qv87 : v87 = v77 := by rw [hv87]; simp only [if_neg hc86]
          rw [qv87] at k
          exact k)
      have qv90 : v90 = v87 := by rw [hv90]; simp only [if_pos hc79, hv87]
      refine ⟨T83, _, X83, e83, N83, ?_⟩
      rw [qv90]
      exact P88
    · -- not (3 : Int32) < (Int32.ofNat nl)
      have P90 : own_Rch p.tables e below A0 (T78.setTop (mkF m 125 #[.val (.long i0), .second, .val (.int i1), .val (.int (Int32.ofNat nl)), .val (.ref b5), .val (.int v77), .unset] [])) := fun t k => P80 t (by
        show Steps p.tables e below (T78.setTop (mkF m 109 #[.val (.long i0), .second, .val (.int i1), .val (.int (Int32.ofNat nl)), .val (.ref b5), .val (.int v77), .unset] [(.int (Int32.ofNat nl)), (.int (3 : Int32))])) _
        refine XS.icmpYes X78.here hx rfl (pc0 := 109) (pc' := 125) rfl (hb hby at_109) rfl (flt hc79).2.1 (by decide) (by decide) ?_
        exact k)
      have qv90 : v90 = v77 := by rw [hv90]; simp only [if_neg hc79]
      refine ⟨T78, _, X78, e78, N78, ?_⟩
      rw [qv90]
      exact P90
  have hf_3 : ¬ v90 < (-1 : Int32) := by
    rw [hv90]; split
    · split
      · decide
      · exact hf_2
    · exact hf_2
  have P93 : own_Rch p.tables e below A0 (T91.setTop (mkF m 127 #[.val (.long i0), .second, .val (.int i1), .val (.int (Int32.ofNat nl)), .val (.ref b5), .val (.int v90), .unset] [(.int (Int32.ofNat nl)), (.int (2 : Int32))])) := fun t k => P91 t (by
    show Steps p.tables e below (T91.setTop (mkF m 125 #[.val (.long i0), .second, .val (.int i1), .val (.int (Int32.ofNat nl)), .val (.ref b5), .val (.int v90), .unset] [])) _
    refine XS.iconst X91.here hx rfl (hb hby at_125) ?_
    show Steps p.tables e below (T91.setTop (mkF m 126 #[.val (.long i0), .second, .val (.int i1), .val (.int (Int32.ofNat nl)), .val (.ref b5), .val (.int v90), .unset] [(.int (2 : Int32))])) _
    refine XS.iloadN X91.here hx rfl (hb hby at_126) rfl ?_
    exact k)
  obtain ⟨v103, hv103⟩ : ∃ z : Int32, z = (if (2 : Int32) < (Int32.ofNat nl) then (if (own_brk c2) = (0 : Int32) then (2 : Int32) else v90) else v90) := ⟨_, rfl⟩
  obtain ⟨T104, L104, X104, e104, N104, P104⟩ : ∃ (T' : State) (L' : List Loc), Stand p l e room_1 s m args' below meth c T' L' (0 + 1 + 0 + 0 + 0 + 0 + 0 + 0) (0 + 6 + 0 + 0 + 0 + 0 + 0 + 0) ∧ T'.heap = h47 ∧ Fr n0 L' ∧ own_Rch p.tables e below A0 (T'.setTop (mkF m 143 #[.val (.long i0), .second, .val (.int i1), .val (.int (Int32.ofNat nl)), .val (.ref b5), .val (.int v103), .unset] [])) := by
    by_cases hc92 : (2 : Int32) < (Int32.ofNat nl)
    · -- (2 : Int32) < (Int32.ofNat nl)
      have P95 : own_Rch p.tables e below A0 (T91.setTop (mkF m 134 #[.val (.long i0), .second, .val (.int i1), .val (.int (Int32.ofNat nl)), .val (.ref b5), .val (.int v90), .unset] [(.int c2)])) := fun t k => P93 t (by
        show Steps p.tables e below (T91.setTop (mkF m 127 #[.val (.long i0), .second, .val (.int i1), .val (.int (Int32.ofNat nl)), .val (.ref b5), .val (.int v90), .unset] [(.int (Int32.ofNat nl)), (.int (2 : Int32))])) _
        refine XS.icmpNo X91.here hx rfl (hb hby at_127) rfl (tlt hc92).2.1 ?_
        show Steps p.tables e below (T91.setTop (mkF m 130 #[.val (.long i0), .second, .val (.int i1), .val (.int (Int32.ofNat nl)), .val (.ref b5), .val (.int v90), .unset] [])) _
        refine XS.aload X91.here hx rfl (hb hby at_130) rfl rfl ?_
        show Steps p.tables e below (T91.setTop (mkF m 132 #[.val (.long i0), .second, .val (.int i1), .val (.int (Int32.ofNat nl)), .val (.ref b5), .val (.int v90), .unset] [(.ref b5)])) _
        refine XS.iconst X91.here hx rfl (hb hby at_132) ?_
        show Steps p.tables e below (T91.setTop (mkF m 133 #[.val (.long i0), .second, .val (.int i1), .val (.int (Int32.ofNat nl)), .val (.ref b5), .val (.int v90), .unset] [(.int (2 : Int32)), (.ref b5)])) _
        obtain ⟨cl94, Ar94, -, S94, N94, H94, -⟩ := id V_51
        have hin94 : ¬ ((2 : Int32) < 0 ∨ cl94.slots.size ≤ ((2 : Int32)).toNatClampNeg) := inb_of S94 ⟨by decide, by decide⟩
        have hat94 := H94.at hin94 (v := (.int c2)) rfl
        refine X91.baloadBytes hx (j := (2 : Int32)) (v := (.int c2)) (by rw [e91]; exact Ar94.1) (State.isArrayOf_alike hZ.alike Ar94.2.1) Ar94.2.2 hin94 hat94 (g := (mkF m 133 #[.val (.long i0), .second, .val (.int i1), .val (.int (Int32.ofNat nl)), .val (.ref b5), .val (.int v90), .unset] [(.int (2 : Int32)), (.ref b5)])) rfl rfl (hb hby at_133) _ ?_
        exact k)
      obtain ⟨_, _, ⟨T96, L96, k96, n96⟩, -, X96, ⟨Lc96, hQ96, l96, y96, z96⟩, st96⟩ := Jvm.LawKit.callS X91 hx (y := (⟨"com/example/rackline/rackline/metrics/RequestHeadEndPinLaw", "brk", "(B)Z"⟩ : MethodName)) hown (mvT hZ (hw _ (List.mem_of_getElem? (i := 8) rfl))) (mvT hZ (hw _ (List.mem_of_getElem? (i := 9) rfl))) (mvT hZ (hw _ (List.mem_of_getElem? (i := 4) rfl))) (mvT hZ (hw _ (List.mem_of_getElem? (i := 10) rfl))) (by decide) (backOf (W := 0) (rm2 l Z a0 hw [] c2 h47 n0 Z_48 ) hZ (hw _ (List.mem_of_getElem? (i := 10) rfl)) (hw _ (List.mem_of_getElem? (i := 4) rfl)) (by decide) (by decide)) (g := (mkF m 134 #[.val (.long i0), .second, .val (.int i1), .val (.int (Int32.ofNat nl)), .val (.ref b5), .val (.int v90), .unset] [(.int c2)])) rfl (by rw [hml]; rfl) (argsL := [(.int c2)]) (rest := []) (lenOf pd_1 rfl) rfl (by show 2 * 0 + _ ≤ _; exact Nat.le_of_eq rfl) (hb hby at_134) (fun _ _ => ⟨rfl, e91, (by decide : (0 + 1 + 0 + 0 + 0 + 0 + 0 + 0) + 0 ≤ _), (by decide : (0 + 6 + 0 + 0 + 0 + 0 + 0 + 0) + 0 ≤ _)⟩)
      dsimp only [Pt.U, Pt.locs, Pt.cells, Pt.slots] at X96 l96 y96 z96 st96 hQ96
      subst l96 y96 z96
      obtain ⟨rfl, N96q, e96⟩ := hQ96
      have N96 := Fr.app N91 N96q
      have P97 : own_Rch p.tables e below A0 (T96.setTop (mkF m 137 #[.val (.long i0), .second, .val (.int i1), .val (.int (Int32.ofNat nl)), .val (.ref b5), .val (.int v90), .unset] [(.int (own_brk c2))])) := fun t k => P95 t (st96 t k)
      obtain ⟨v100, hv100⟩ : ∃ z : Int32, z = (if (own_brk c2) = (0 : Int32) then (2 : Int32) else v90) := ⟨_, rfl⟩
      have P101 : own_Rch p.tables e below A0 (T96.setTop (mkF m 143 #[.val (.long i0), .second, .val (.int i1), .val (.int (Int32.ofNat nl)), .val (.ref b5), .val (.int v100), .unset] [])) := fun t k => P97 t (by
        by_cases hc99 : (own_brk c2) = (0 : Int32)
        · show Steps p.tables e below (T96.setTop (mkF m 137 #[.val (.long i0), .second, .val (.int i1), .val (.int (Int32.ofNat nl)), .val (.ref b5), .val (.int v90), .unset] [(.int (own_brk c2))])) _
          refine XS.ifNo X96.here hx rfl (hb hby at_137) rfl ((if0 _ _).trans (teq hc99).2) ?_
          have qv100 : v100 = (2 : Int32) := by rw [hv100]; simp only [if_pos hc99]
          rw [qv100] at k
          show Steps p.tables e below (T96.setTop (mkF m 140 #[.val (.long i0), .second, .val (.int i1), .val (.int (Int32.ofNat nl)), .val (.ref b5), .val (.int v90), .unset] [])) _
          refine XS.iconst X96.here hx rfl (hb hby at_140) ?_
          show Steps p.tables e below (T96.setTop (mkF m 141 #[.val (.long i0), .second, .val (.int i1), .val (.int (Int32.ofNat nl)), .val (.ref b5), .val (.int v90), .unset] [(.int (2 : Int32))])) _
          refine XS.istore X96.here hx rfl (hb hby at_141) rfl (l' := #[.val (.long i0), .second, .val (.int i1), .val (.int (Int32.ofNat nl)), .val (.ref b5), .val (.int (2 : Int32)), .unset]) rfl ?_
          exact k
        · show Steps p.tables e below (T96.setTop (mkF m 137 #[.val (.long i0), .second, .val (.int i1), .val (.int (Int32.ofNat nl)), .val (.ref b5), .val (.int v90), .unset] [(.int (own_brk c2))])) _
          refine XS.ifYes X96.here hx rfl (pc0 := 137) (pc' := 143) rfl (hb hby at_137) rfl ((if0 _ _).trans (feq hc99).2) (by decide) (by decide) ?_
          have qv100 : v100 = v90 := by rw [hv100]; simp only [if_neg hc99]
          rw [qv100] at k
          exact k)
      have qv103 : v103 = v100 := by rw [hv103]; simp only [if_pos hc92, hv100]
      refine ⟨T96, _, X96, e96, N96, ?_⟩
      rw [qv103]
      exact P101
    · -- not (2 : Int32) < (Int32.ofNat nl)
      have P103 : own_Rch p.tables e below A0 (T91.setTop (mkF m 143 #[.val (.long i0), .second, .val (.int i1), .val (.int (Int32.ofNat nl)), .val (.ref b5), .val (.int v90), .unset] [])) := fun t k => P93 t (by
        show Steps p.tables e below (T91.setTop (mkF m 127 #[.val (.long i0), .second, .val (.int i1), .val (.int (Int32.ofNat nl)), .val (.ref b5), .val (.int v90), .unset] [(.int (Int32.ofNat nl)), (.int (2 : Int32))])) _
        refine XS.icmpYes X91.here hx rfl (pc0 := 127) (pc' := 143) rfl (hb hby at_127) rfl (flt hc92).2.1 (by decide) (by decide) ?_
        exact k)
      have qv103 : v103 = v90 := by rw [hv103]; simp only [if_neg hc92]
      refine ⟨T91, _, X91, e91, N91, ?_⟩
      rw [qv103]
      exact P103
  have hf_4 : ¬ v103 < (-1 : Int32) := by
    rw [hv103]; split
    · split
      · decide
      · exact hf_3
    · exact hf_3
  have P106 : own_Rch p.tables e below A0 (T104.setTop (mkF m 145 #[.val (.long i0), .second, .val (.int i1), .val (.int (Int32.ofNat nl)), .val (.ref b5), .val (.int v103), .unset] [(.int (Int32.ofNat nl)), (.int (1 : Int32))])) := fun t k => P104 t (by
    show Steps p.tables e below (T104.setTop (mkF m 143 #[.val (.long i0), .second, .val (.int i1), .val (.int (Int32.ofNat nl)), .val (.ref b5), .val (.int v103), .unset] [])) _
    refine XS.iconst X104.here hx rfl (hb hby at_143) ?_
    show Steps p.tables e below (T104.setTop (mkF m 144 #[.val (.long i0), .second, .val (.int i1), .val (.int (Int32.ofNat nl)), .val (.ref b5), .val (.int v103), .unset] [(.int (1 : Int32))])) _
    refine XS.iloadN X104.here hx rfl (hb hby at_144) rfl ?_
    exact k)
  obtain ⟨v116, hv116⟩ : ∃ z : Int32, z = (if (1 : Int32) < (Int32.ofNat nl) then (if (own_brk c1) = (0 : Int32) then (1 : Int32) else v103) else v103) := ⟨_, rfl⟩
  obtain ⟨T117, L117, X117, e117, N117, P117⟩ : ∃ (T' : State) (L' : List Loc), Stand p l e room_1 s m args' below meth c T' L' (0 + 1 + 0 + 0 + 0 + 0 + 0 + 0) (0 + 6 + 0 + 0 + 0 + 0 + 0 + 0) ∧ T'.heap = h47 ∧ Fr n0 L' ∧ own_Rch p.tables e below A0 (T'.setTop (mkF m 161 #[.val (.long i0), .second, .val (.int i1), .val (.int (Int32.ofNat nl)), .val (.ref b5), .val (.int v116), .unset] [])) := by
    by_cases hc105 : (1 : Int32) < (Int32.ofNat nl)
    · -- (1 : Int32) < (Int32.ofNat nl)
      have P108 : own_Rch p.tables e below A0 (T104.setTop (mkF m 152 #[.val (.long i0), .second, .val (.int i1), .val (.int (Int32.ofNat nl)), .val (.ref b5), .val (.int v103), .unset] [(.int c1)])) := fun t k => P106 t (by
        show Steps p.tables e below (T104.setTop (mkF m 145 #[.val (.long i0), .second, .val (.int i1), .val (.int (Int32.ofNat nl)), .val (.ref b5), .val (.int v103), .unset] [(.int (Int32.ofNat nl)), (.int (1 : Int32))])) _
        refine XS.icmpNo X104.here hx rfl (hb hby at_145) rfl (tlt hc105).2.1 ?_
        show Steps p.tables e below (T104.setTop (mkF m 148 #[.val (.long i0), .second, .val (.int i1), .val (.int (Int32.ofNat nl)), .val (.ref b5), .val (.int v103), .unset] [])) _
        refine XS.aload X104.here hx rfl (hb hby at_148) rfl rfl ?_
        show Steps p.tables e below (T104.setTop (mkF m 150 #[.val (.long i0), .second, .val (.int i1), .val (.int (Int32.ofNat nl)), .val (.ref b5), .val (.int v103), .unset] [(.ref b5)])) _
        refine XS.iconst X104.here hx rfl (hb hby at_150) ?_
        show Steps p.tables e below (T104.setTop (mkF m 151 #[.val (.long i0), .second, .val (.int i1), .val (.int (Int32.ofNat nl)), .val (.ref b5), .val (.int v103), .unset] [(.int (1 : Int32)), (.ref b5)])) _
        obtain ⟨cl107, Ar107, -, S107, N107, H107, -⟩ := id V_51
        have hin107 : ¬ ((1 : Int32) < 0 ∨ cl107.slots.size ≤ ((1 : Int32)).toNatClampNeg) := inb_of S107 ⟨by decide, by decide⟩
        have hat107 := H107.at hin107 (v := (.int c1)) rfl
        refine X104.baloadBytes hx (j := (1 : Int32)) (v := (.int c1)) (by rw [e104]; exact Ar107.1) (State.isArrayOf_alike hZ.alike Ar107.2.1) Ar107.2.2 hin107 hat107 (g := (mkF m 151 #[.val (.long i0), .second, .val (.int i1), .val (.int (Int32.ofNat nl)), .val (.ref b5), .val (.int v103), .unset] [(.int (1 : Int32)), (.ref b5)])) rfl rfl (hb hby at_151) _ ?_
        exact k)
      obtain ⟨_, _, ⟨T109, L109, k109, n109⟩, -, X109, ⟨Lc109, hQ109, l109, y109, z109⟩, st109⟩ := Jvm.LawKit.callS X104 hx (y := (⟨"com/example/rackline/rackline/metrics/RequestHeadEndPinLaw", "brk", "(B)Z"⟩ : MethodName)) hown (mvT hZ (hw _ (List.mem_of_getElem? (i := 8) rfl))) (mvT hZ (hw _ (List.mem_of_getElem? (i := 9) rfl))) (mvT hZ (hw _ (List.mem_of_getElem? (i := 4) rfl))) (mvT hZ (hw _ (List.mem_of_getElem? (i := 10) rfl))) (by decide) (backOf (W := 0) (rm2 l Z a0 hw [] c1 h47 n0 Z_48 ) hZ (hw _ (List.mem_of_getElem? (i := 10) rfl)) (hw _ (List.mem_of_getElem? (i := 4) rfl)) (by decide) (by decide)) (g := (mkF m 152 #[.val (.long i0), .second, .val (.int i1), .val (.int (Int32.ofNat nl)), .val (.ref b5), .val (.int v103), .unset] [(.int c1)])) rfl (by rw [hml]; rfl) (argsL := [(.int c1)]) (rest := []) (lenOf pd_1 rfl) rfl (by show 2 * 0 + _ ≤ _; exact Nat.le_of_eq rfl) (hb hby at_152) (fun _ _ => ⟨rfl, e104, (by decide : (0 + 1 + 0 + 0 + 0 + 0 + 0 + 0) + 0 ≤ _), (by decide : (0 + 6 + 0 + 0 + 0 + 0 + 0 + 0) + 0 ≤ _)⟩)
      dsimp only [Pt.U, Pt.locs, Pt.cells, Pt.slots] at X109 l109 y109 z109 st109 hQ109
      subst l109 y109 z109
      obtain ⟨rfl, N109q, e109⟩ := hQ109
      have N109 := Fr.app N104 N109q
      have P110 : own_Rch p.tables e below A0 (T109.setTop (mkF m 155 #[.val (.long i0), .second, .val (.int i1), .val (.int (Int32.ofNat nl)), .val (.ref b5), .val (.int v103), .unset] [(.int (own_brk c1))])) := fun t k => P108 t (st109 t k)
      obtain ⟨v113, hv113⟩ : ∃ z : Int32, z = (if (own_brk c1) = (0 : Int32) then (1 : Int32) else v103) := ⟨_, rfl⟩
      have P114 : own_Rch p.tables e below A0 (T109.setTop (mkF m 161 #[.val (.long i0), .second, .val (.int i1), .val (.int (Int32.ofNat nl)), .val (.ref b5), .val (.int v113), .unset] [])) := fun t k => P110 t (by
        by_cases hc112 : (own_brk c1) = (0 : Int32)
        · show Steps p.tables e below (T109.setTop (mkF m 155 #[.val (.long i0), .second, .val (.int i1), .val (.int (Int32.ofNat nl)), .val (.ref b5), .val (.int v103), .unset] [(.int (own_brk c1))])) _
          refine XS.ifNo X109.here hx rfl (hb hby at_155) rfl ((if0 _ _).trans (teq hc112).2) ?_
          have qv113 : v113 = (1 : Int32) := by rw [hv113]; simp only [if_pos hc112]
          rw [qv113] at k
          show Steps p.tables e below (T109.setTop (mkF m 158 #[.val (.long i0), .second, .val (.int i1), .val (.int (Int32.ofNat nl)), .val (.ref b5), .val (.int v103), .unset] [])) _
          refine XS.iconst X109.here hx rfl (hb hby at_158) ?_
          show Steps p.tables e below (T109.setTop (mkF m 159 #[.val (.long i0), .second, .val (.int i1), .val (.int (Int32.ofNat nl)), .val (.ref b5), .val (.int v103), .unset] [(.int (1 : Int32))])) _
          refine XS.istore X109.here hx rfl (hb hby at_159) rfl (l' := #[.val (.long i0), .second, .val (.int i1), .val (.int (Int32.ofNat nl)), .val (.ref b5), .val (.int (1 : Int32)), .unset]) rfl ?_
          exact k
        · show Steps p.tables e below (T109.setTop (mkF m 155 #[.val (.long i0), .second, .val (.int i1), .val (.int (Int32.ofNat nl)), .val (.ref b5), .val (.int v103), .unset] [(.int (own_brk c1))])) _
          refine XS.ifYes X109.here hx rfl (pc0 := 155) (pc' := 161) rfl (hb hby at_155) rfl ((if0 _ _).trans (feq hc112).2) (by decide) (by decide) ?_
          have qv113 : v113 = v103 := by rw [hv113]; simp only [if_neg hc112]
          rw [qv113] at k
          exact k)
      have qv116 : v116 = v113 := by rw [hv116]; simp only [if_pos hc105, hv113]
      refine ⟨T109, _, X109, e109, N109, ?_⟩
      rw [qv116]
      exact P114
    · -- not (1 : Int32) < (Int32.ofNat nl)
      have P116 : own_Rch p.tables e below A0 (T104.setTop (mkF m 161 #[.val (.long i0), .second, .val (.int i1), .val (.int (Int32.ofNat nl)), .val (.ref b5), .val (.int v103), .unset] [])) := fun t k => P106 t (by
        show Steps p.tables e below (T104.setTop (mkF m 145 #[.val (.long i0), .second, .val (.int i1), .val (.int (Int32.ofNat nl)), .val (.ref b5), .val (.int v103), .unset] [(.int (Int32.ofNat nl)), (.int (1 : Int32))])) _
        refine XS.icmpYes X104.here hx rfl (pc0 := 145) (pc' := 161) rfl (hb hby at_145) rfl (flt hc105).2.1 (by decide) (by decide) ?_
        exact k)
      have qv116 : v116 = v103 := by rw [hv116]; simp only [if_neg hc105]
      refine ⟨T104, _, X104, e104, N104, ?_⟩
      rw [qv116]
      exact P116
  have hf_5 : ¬ v116 < (-1 : Int32) := by
    rw [hv116]; split
    · split
      · decide
      · exact hf_4
    · exact hf_4
  have P119 : own_Rch p.tables e below A0 (T117.setTop (mkF m 163 #[.val (.long i0), .second, .val (.int i1), .val (.int (Int32.ofNat nl)), .val (.ref b5), .val (.int v116), .unset] [(.int (Int32.ofNat nl)), (.int (0 : Int32))])) := fun t k => P117 t (by
    show Steps p.tables e below (T117.setTop (mkF m 161 #[.val (.long i0), .second, .val (.int i1), .val (.int (Int32.ofNat nl)), .val (.ref b5), .val (.int v116), .unset] [])) _
    refine XS.iconst X117.here hx rfl (hb hby at_161) ?_
    show Steps p.tables e below (T117.setTop (mkF m 162 #[.val (.long i0), .second, .val (.int i1), .val (.int (Int32.ofNat nl)), .val (.ref b5), .val (.int v116), .unset] [(.int (0 : Int32))])) _
    refine XS.iloadN X117.here hx rfl (hb hby at_162) rfl ?_
    exact k)
  obtain ⟨v129, hv129⟩ : ∃ z : Int32, z = (if (0 : Int32) < (Int32.ofNat nl) then (if (own_brk c0) = (0 : Int32) then (0 : Int32) else v116) else v116) := ⟨_, rfl⟩
  obtain ⟨T130, L130, X130, e130, N130, P130⟩ : ∃ (T' : State) (L' : List Loc), Stand p l e room_1 s m args' below meth c T' L' (0 + 1 + 0 + 0 + 0 + 0 + 0 + 0) (0 + 6 + 0 + 0 + 0 + 0 + 0 + 0) ∧ T'.heap = h47 ∧ Fr n0 L' ∧ own_Rch p.tables e below A0 (T'.setTop (mkF m 179 #[.val (.long i0), .second, .val (.int i1), .val (.int (Int32.ofNat nl)), .val (.ref b5), .val (.int v129), .unset] [])) := by
    by_cases hc118 : (0 : Int32) < (Int32.ofNat nl)
    · -- (0 : Int32) < (Int32.ofNat nl)
      have P121 : own_Rch p.tables e below A0 (T117.setTop (mkF m 170 #[.val (.long i0), .second, .val (.int i1), .val (.int (Int32.ofNat nl)), .val (.ref b5), .val (.int v116), .unset] [(.int c0)])) := fun t k => P119 t (by
        show Steps p.tables e below (T117.setTop (mkF m 163 #[.val (.long i0), .second, .val (.int i1), .val (.int (Int32.ofNat nl)), .val (.ref b5), .val (.int v116), .unset] [(.int (Int32.ofNat nl)), (.int (0 : Int32))])) _
        refine XS.icmpNo X117.here hx rfl (hb hby at_163) rfl (tlt hc118).2.1 ?_
        show Steps p.tables e below (T117.setTop (mkF m 166 #[.val (.long i0), .second, .val (.int i1), .val (.int (Int32.ofNat nl)), .val (.ref b5), .val (.int v116), .unset] [])) _
        refine XS.aload X117.here hx rfl (hb hby at_166) rfl rfl ?_
        show Steps p.tables e below (T117.setTop (mkF m 168 #[.val (.long i0), .second, .val (.int i1), .val (.int (Int32.ofNat nl)), .val (.ref b5), .val (.int v116), .unset] [(.ref b5)])) _
        refine XS.iconst X117.here hx rfl (hb hby at_168) ?_
        show Steps p.tables e below (T117.setTop (mkF m 169 #[.val (.long i0), .second, .val (.int i1), .val (.int (Int32.ofNat nl)), .val (.ref b5), .val (.int v116), .unset] [(.int (0 : Int32)), (.ref b5)])) _
        obtain ⟨cl120, Ar120, -, S120, N120, H120, -⟩ := id V_51
        have hin120 : ¬ ((0 : Int32) < 0 ∨ cl120.slots.size ≤ ((0 : Int32)).toNatClampNeg) := inb_of S120 ⟨by decide, by decide⟩
        have hat120 := H120.at hin120 (v := (.int c0)) rfl
        refine X117.baloadBytes hx (j := (0 : Int32)) (v := (.int c0)) (by rw [e117]; exact Ar120.1) (State.isArrayOf_alike hZ.alike Ar120.2.1) Ar120.2.2 hin120 hat120 (g := (mkF m 169 #[.val (.long i0), .second, .val (.int i1), .val (.int (Int32.ofNat nl)), .val (.ref b5), .val (.int v116), .unset] [(.int (0 : Int32)), (.ref b5)])) rfl rfl (hb hby at_169) _ ?_
        exact k)
      obtain ⟨_, _, ⟨T122, L122, k122, n122⟩, -, X122, ⟨Lc122, hQ122, l122, y122, z122⟩, st122⟩ := Jvm.LawKit.callS X117 hx (y := (⟨"com/example/rackline/rackline/metrics/RequestHeadEndPinLaw", "brk", "(B)Z"⟩ : MethodName)) hown (mvT hZ (hw _ (List.mem_of_getElem? (i := 8) rfl))) (mvT hZ (hw _ (List.mem_of_getElem? (i := 9) rfl))) (mvT hZ (hw _ (List.mem_of_getElem? (i := 4) rfl))) (mvT hZ (hw _ (List.mem_of_getElem? (i := 10) rfl))) (by decide) (backOf (W := 0) (rm2 l Z a0 hw [] c0 h47 n0 Z_48 ) hZ (hw _ (List.mem_of_getElem? (i := 10) rfl)) (hw _ (List.mem_of_getElem? (i := 4) rfl)) (by decide) (by decide)) (g := (mkF m 170 #[.val (.long i0), .second, .val (.int i1), .val (.int (Int32.ofNat nl)), .val (.ref b5), .val (.int v116), .unset] [(.int c0)])) rfl (by rw [hml]; rfl) (argsL := [(.int c0)]) (rest := []) (lenOf pd_1 rfl) rfl (by show 2 * 0 + _ ≤ _; exact Nat.le_of_eq rfl) (hb hby at_170) (fun _ _ => ⟨rfl, e117, (by decide : (0 + 1 + 0 + 0 + 0 + 0 + 0 + 0) + 0 ≤ _), (by decide : (0 + 6 + 0 + 0 + 0 + 0 + 0 + 0) + 0 ≤ _)⟩)
      dsimp only [Pt.U, Pt.locs, Pt.cells, Pt.slots] at X122 l122 y122 z122 st122 hQ122
      subst l122 y122 z122
      obtain ⟨rfl, N122q, e122⟩ := hQ122
      have N122 := Fr.app N117 N122q
      have P123 : own_Rch p.tables e below A0 (T122.setTop (mkF m 173 #[.val (.long i0), .second, .val (.int i1), .val (.int (Int32.ofNat nl)), .val (.ref b5), .val (.int v116), .unset] [(.int (own_brk c0))])) := fun t k => P121 t (st122 t k)
      obtain ⟨v126, hv126⟩ : ∃ z : Int32, z = (if (own_brk c0) = (0 : Int32) then (0 : Int32) else v116) := ⟨_, rfl⟩
      have P127 : own_Rch p.tables e below A0 (T122.setTop (mkF m 179 #[.val (.long i0), .second, .val (.int i1), .val (.int (Int32.ofNat nl)), .val (.ref b5), .val (.int v126), .unset] [])) := fun t k => P123 t (by
        by_cases hc125 : (own_brk c0) = (0 : Int32)
        · show Steps p.tables e below (T122.setTop (mkF m 173 #[.val (.long i0), .second, .val (.int i1), .val (.int (Int32.ofNat nl)), .val (.ref b5), .val (.int v116), .unset] [(.int (own_brk c0))])) _
          refine XS.ifNo X122.here hx rfl (hb hby at_173) rfl ((if0 _ _).trans (teq hc125).2) ?_
          have qv126 : v126 = (0 : Int32) := by rw [hv126]; simp only [if_pos hc125]
          rw [qv126] at k
          show Steps p.tables e below (T122.setTop (mkF m 176 #[.val (.long i0), .second, .val (.int i1), .val (.int (Int32.ofNat nl)), .val (.ref b5), .val (.int v116), .unset] [])) _
          refine XS.iconst X122.here hx rfl (hb hby at_176) ?_
          show Steps p.tables e below (T122.setTop (mkF m 177 #[.val (.long i0), .second, .val (.int i1), .val (.int (Int32.ofNat nl)), .val (.ref b5), .val (.int v116), .unset] [(.int (0 : Int32))])) _
          refine XS.istore X122.here hx rfl (hb hby at_177) rfl (l' := #[.val (.long i0), .second, .val (.int i1), .val (.int (Int32.ofNat nl)), .val (.ref b5), .val (.int (0 : Int32)), .unset]) rfl ?_
          exact k
        · show Steps p.tables e below (T122.setTop (mkF m 173 #[.val (.long i0), .second, .val (.int i1), .val (.int (Int32.ofNat nl)), .val (.ref b5), .val (.int v116), .unset] [(.int (own_brk c0))])) _
          refine XS.ifYes X122.here hx rfl (pc0 := 173) (pc' := 179) rfl (hb hby at_173) rfl ((if0 _ _).trans (feq hc125).2) (by decide) (by decide) ?_
          have qv126 : v126 = v116 := by rw [hv126]; simp only [if_neg hc125]
          rw [qv126] at k
          exact k)
      have qv129 : v129 = v126 := by rw [hv129]; simp only [if_pos hc118, hv126]
      refine ⟨T122, _, X122, e122, N122, ?_⟩
      rw [qv129]
      exact P127
    · -- not (0 : Int32) < (Int32.ofNat nl)
      have P129 : own_Rch p.tables e below A0 (T117.setTop (mkF m 179 #[.val (.long i0), .second, .val (.int i1), .val (.int (Int32.ofNat nl)), .val (.ref b5), .val (.int v116), .unset] [])) := fun t k => P119 t (by
        show Steps p.tables e below (T117.setTop (mkF m 163 #[.val (.long i0), .second, .val (.int i1), .val (.int (Int32.ofNat nl)), .val (.ref b5), .val (.int v116), .unset] [(.int (Int32.ofNat nl)), (.int (0 : Int32))])) _
        refine XS.icmpYes X117.here hx rfl (pc0 := 163) (pc' := 179) rfl (hb hby at_163) rfl (flt hc118).2.1 (by decide) (by decide) ?_
        exact k)
      have qv129 : v129 = v116 := by rw [hv129]; simp only [if_neg hc118]
      refine ⟨T117, _, X117, e117, N117, ?_⟩
      rw [qv129]
      exact P129
  have hf_6 : ¬ v129 < (-1 : Int32) := by
    rw [hv129]; split
    · split
      · decide
      · exact hf_5
    · exact hf_5
  have P131 : own_Rch p.tables e below A0 (T130.setTop (mkF m 189 #[.val (.long i0), .second, .val (.int i1), .val (.int (Int32.ofNat nl)), .val (.ref b5), .val (.int v129), .val (.int (-1 : Int32))] [(.int (6 : Int32)), (.int v129), (.int (Int32.ofNat nl)), (.ref b5)])) := fun t k => P130 t (by
    show Steps p.tables e below (T130.setTop (mkF m 179 #[.val (.long i0), .second, .val (.int i1), .val (.int (Int32.ofNat nl)), .val (.ref b5), .val (.int v129), .unset] [])) _
    refine XS.iconst X130.here hx rfl (hb hby at_179) ?_
    show Steps p.tables e below (T130.setTop (mkF m 180 #[.val (.long i0), .second, .val (.int i1), .val (.int (Int32.ofNat nl)), .val (.ref b5), .val (.int v129), .unset] [(.int (-1 : Int32))])) _
    refine XS.istore X130.here hx rfl (hb hby at_180) rfl (l' := #[.val (.long i0), .second, .val (.int i1), .val (.int (Int32.ofNat nl)), .val (.ref b5), .val (.int v129), .val (.int (-1 : Int32))]) rfl ?_
    show Steps p.tables e below (T130.setTop (mkF m 182 #[.val (.long i0), .second, .val (.int i1), .val (.int (Int32.ofNat nl)), .val (.ref b5), .val (.int v129), .val (.int (-1 : Int32))] [])) _
    refine XS.aload X130.here hx rfl (hb hby at_182) rfl rfl ?_
    show Steps p.tables e below (T130.setTop (mkF m 184 #[.val (.long i0), .second, .val (.int i1), .val (.int (Int32.ofNat nl)), .val (.ref b5), .val (.int v129), .val (.int (-1 : Int32))] [(.ref b5)])) _
    refine XS.iloadN X130.here hx rfl (hb hby at_184) rfl ?_
    show Steps p.tables e below (T130.setTop (mkF m 185 #[.val (.long i0), .second, .val (.int i1), .val (.int (Int32.ofNat nl)), .val (.ref b5), .val (.int v129), .val (.int (-1 : Int32))] [(.int (Int32.ofNat nl)), (.ref b5)])) _
    refine XS.iload X130.here hx rfl (hb hby at_185) rfl ?_
    show Steps p.tables e below (T130.setTop (mkF m 187 #[.val (.long i0), .second, .val (.int i1), .val (.int (Int32.ofNat nl)), .val (.ref b5), .val (.int v129), .val (.int (-1 : Int32))] [(.int v129), (.int (Int32.ofNat nl)), (.ref b5)])) _
    refine XS.bipush X130.here hx rfl (hb hby at_187) ?_
    exact k)
  obtain ⟨_, _, ⟨T132, L132, k132, n132⟩, -, X132, ⟨Lc132, hQ132, l132, y132, z132⟩, st132⟩ := Jvm.LawKit.callS X130 hx (y := (⟨"com/example/rackline/rackline/metrics/RequestHeadEndPinLaw", "endsAt", "([BIII)Z"⟩ : MethodName)) hown (mvT hZ (hw _ (List.mem_of_getElem? (i := 11) rfl))) (mvT hZ (hw _ (List.mem_of_getElem? (i := 12) rfl))) (mvT hZ (hw _ (List.mem_of_getElem? (i := 4) rfl))) (mvT hZ (hw _ (List.mem_of_getElem? (i := 13) rfl))) (by decide) (backOf (W := 0) (rm3e6 l Z a0 hw [] b5 k5 (Int32.ofNat nl) v129 c0 c1 c2 c3 c4 c5 h47 n0 Z_48 V_51) hZ (hw _ (List.mem_of_getElem? (i := 13) rfl)) (hw _ (List.mem_of_getElem? (i := 4) rfl)) (by decide) (by decide)) (g := (mkF m 189 #[.val (.long i0), .second, .val (.int i1), .val (.int (Int32.ofNat nl)), .val (.ref b5), .val (.int v129), .val (.int (-1 : Int32))] [(.int (6 : Int32)), (.int v129), (.int (Int32.ofNat nl)), (.ref b5)])) rfl (by rw [hml]; rfl) (argsL := [(.ref b5), (.int (Int32.ofNat nl)), (.int v129), (.int (6 : Int32))]) (rest := []) (lenOf pd_2 rfl) rfl (by show 2 * 0 + _ ≤ _; exact Nat.le_of_eq rfl) (hb hby at_189) (fun _ _ => ⟨rfl, e130, (by decide : (0 + 1 + 0 + 0 + 0 + 0 + 0 + 0) + 0 ≤ _), (by decide : (0 + 6 + 0 + 0 + 0 + 0 + 0 + 0) + 0 ≤ _)⟩)
  dsimp only [Pt.U, Pt.locs, Pt.cells, Pt.slots] at X132 l132 y132 z132 st132 hQ132
  subst l132 y132 z132
  obtain ⟨rfl, N132q, e132⟩ := hQ132
  have N132 := Fr.app N130 N132q
  have P133 : own_Rch p.tables e below A0 (T132.setTop (mkF m 192 #[.val (.long i0), .second, .val (.int i1), .val (.int (Int32.ofNat nl)), .val (.ref b5), .val (.int v129), .val (.int (-1 : Int32))] [(.int (own_e6 (Int32.ofNat nl) v129 c0 c1 c2 c3 c4 c5))])) := fun t k => P131 t (st132 t k)
  obtain ⟨v136, hv136⟩ : ∃ z : Int32, z = (if (own_e6 (Int32.ofNat nl) v129 c0 c1 c2 c3 c4 c5) = (0 : Int32) then (-1 : Int32) else (6 : Int32)) := ⟨_, rfl⟩
  have P137 : own_Rch p.tables e below A0 (T132.setTop (mkF m 199 #[.val (.long i0), .second, .val (.int i1), .val (.int (Int32.ofNat nl)), .val (.ref b5), .val (.int v129), .val (.int v136)] [])) := fun t k => P133 t (by
    by_cases hc135 : (own_e6 (Int32.ofNat nl) v129 c0 c1 c2 c3 c4 c5) = (0 : Int32)
    · show Steps p.tables e below (T132.setTop (mkF m 192 #[.val (.long i0), .second, .val (.int i1), .val (.int (Int32.ofNat nl)), .val (.ref b5), .val (.int v129), .val (.int (-1 : Int32))] [(.int (own_e6 (Int32.ofNat nl) v129 c0 c1 c2 c3 c4 c5))])) _
      refine XS.ifYes X132.here hx rfl (pc0 := 192) (pc' := 199) rfl (hb hby at_192) rfl ((if0 _ _).trans (teq hc135).1) (by decide) (by decide) ?_
      have qv136 : v136 = (-1 : Int32) := by rw [hv136]; simp only [if_pos hc135]
      rw [qv136] at k
      exact k
    · show Steps p.tables e below (T132.setTop (mkF m 192 #[.val (.long i0), .second, .val (.int i1), .val (.int (Int32.ofNat nl)), .val (.ref b5), .val (.int v129), .val (.int (-1 : Int32))] [(.int (own_e6 (Int32.ofNat nl) v129 c0 c1 c2 c3 c4 c5))])) _
      refine XS.ifNo X132.here hx rfl (hb hby at_192) rfl ((if0 _ _).trans (feq hc135).1) ?_
      have qv136 : v136 = (6 : Int32) := by rw [hv136]; simp only [if_neg hc135]
      rw [qv136] at k
      show Steps p.tables e below (T132.setTop (mkF m 195 #[.val (.long i0), .second, .val (.int i1), .val (.int (Int32.ofNat nl)), .val (.ref b5), .val (.int v129), .val (.int (-1 : Int32))] [])) _
      refine XS.bipush X132.here hx rfl (hb hby at_195) ?_
      show Steps p.tables e below (T132.setTop (mkF m 197 #[.val (.long i0), .second, .val (.int i1), .val (.int (Int32.ofNat nl)), .val (.ref b5), .val (.int v129), .val (.int (-1 : Int32))] [(.int (6 : Int32))])) _
      refine XS.istore X132.here hx rfl (hb hby at_197) rfl (l' := #[.val (.long i0), .second, .val (.int i1), .val (.int (Int32.ofNat nl)), .val (.ref b5), .val (.int v129), .val (.int (6 : Int32))]) rfl ?_
      exact k)
  have P138 : own_Rch p.tables e below A0 (T132.setTop (mkF m 205 #[.val (.long i0), .second, .val (.int i1), .val (.int (Int32.ofNat nl)), .val (.ref b5), .val (.int v129), .val (.int v136)] [(.int (5 : Int32)), (.int v129), (.int (Int32.ofNat nl)), (.ref b5)])) := fun t k => P137 t (by
    show Steps p.tables e below (T132.setTop (mkF m 199 #[.val (.long i0), .second, .val (.int i1), .val (.int (Int32.ofNat nl)), .val (.ref b5), .val (.int v129), .val (.int v136)] [])) _
    refine XS.aload X132.here hx rfl (hb hby at_199) rfl rfl ?_
    show Steps p.tables e below (T132.setTop (mkF m 201 #[.val (.long i0), .second, .val (.int i1), .val (.int (Int32.ofNat nl)), .val (.ref b5), .val (.int v129), .val (.int v136)] [(.ref b5)])) _
    refine XS.iloadN X132.here hx rfl (hb hby at_201) rfl ?_
    show Steps p.tables e below (T132.setTop (mkF m 202 #[.val (.long i0), .second, .val (.int i1), .val (.int (Int32.ofNat nl)), .val (.ref b5), .val (.int v129), .val (.int v136)] [(.int (Int32.ofNat nl)), (.ref b5)])) _
    refine XS.iload X132.here hx rfl (hb hby at_202) rfl ?_
    show Steps p.tables e below (T132.setTop (mkF m 204 #[.val (.long i0), .second, .val (.int i1), .val (.int (Int32.ofNat nl)), .val (.ref b5), .val (.int v129), .val (.int v136)] [(.int v129), (.int (Int32.ofNat nl)), (.ref b5)])) _
    refine XS.iconst X132.here hx rfl (hb hby at_204) ?_
    exact k)
  obtain ⟨_, _, ⟨T139, L139, k139, n139⟩, -, X139, ⟨Lc139, hQ139, l139, y139, z139⟩, st139⟩ := Jvm.LawKit.callS X132 hx (y := (⟨"com/example/rackline/rackline/metrics/RequestHeadEndPinLaw", "endsAt", "([BIII)Z"⟩ : MethodName)) hown (mvT hZ (hw _ (List.mem_of_getElem? (i := 11) rfl))) (mvT hZ (hw _ (List.mem_of_getElem? (i := 12) rfl))) (mvT hZ (hw _ (List.mem_of_getElem? (i := 4) rfl))) (mvT hZ (hw _ (List.mem_of_getElem? (i := 13) rfl))) (by decide) (backOf (W := 0) (rm3e5 l Z a0 hw [] b5 k5 (Int32.ofNat nl) v129 c0 c1 c2 c3 c4 c5 h47 n0 Z_48 V_51) hZ (hw _ (List.mem_of_getElem? (i := 13) rfl)) (hw _ (List.mem_of_getElem? (i := 4) rfl)) (by decide) (by decide)) (g := (mkF m 205 #[.val (.long i0), .second, .val (.int i1), .val (.int (Int32.ofNat nl)), .val (.ref b5), .val (.int v129), .val (.int v136)] [(.int (5 : Int32)), (.int v129), (.int (Int32.ofNat nl)), (.ref b5)])) rfl (by rw [hml]; rfl) (argsL := [(.ref b5), (.int (Int32.ofNat nl)), (.int v129), (.int (5 : Int32))]) (rest := []) (lenOf pd_2 rfl) rfl (by show 2 * 0 + _ ≤ _; exact Nat.le_of_eq rfl) (hb hby at_205) (fun _ _ => ⟨rfl, e132, (by decide : (0 + 1 + 0 + 0 + 0 + 0 + 0 + 0 + 0) + 0 ≤ _), (by decide : (0 + 6 + 0 + 0 + 0 + 0 + 0 + 0 + 0) + 0 ≤ _)⟩)
  dsimp only [Pt.U, Pt.locs, Pt.cells, Pt.slots] at X139 l139 y139 z139 st139 hQ139
  subst l139 y139 z139
  obtain ⟨rfl, N139q, e139⟩ := hQ139
  have N139 := Fr.app N132 N139q
  have P140 : own_Rch p.tables e below A0 (T139.setTop (mkF m 208 #[.val (.long i0), .second, .val (.int i1), .val (.int (Int32.ofNat nl)), .val (.ref b5), .val (.int v129), .val (.int v136)] [(.int (own_e5 (Int32.ofNat nl) v129 c0 c1 c2 c3 c4 c5))])) := fun t k => P138 t (st139 t k)
  obtain ⟨v143, hv143⟩ : ∃ z : Int32, z = (if (own_e5 (Int32.ofNat nl) v129 c0 c1 c2 c3 c4 c5) = (0 : Int32) then v136 else (5 : Int32)) := ⟨_, rfl⟩
  have P144 : own_Rch p.tables e below A0 (T139.setTop (mkF m 214 #[.val (.long i0), .second, .val (.int i1), .val (.int (Int32.ofNat nl)), .val (.ref b5), .val (.int v129), .val (.int v143)] [])) := fun t k => P140 t (by
    by_cases hc142 : (own_e5 (Int32.ofNat nl) v129 c0 c1 c2 c3 c4 c5) = (0 : Int32)
    · show Steps p.tables e below (T139.setTop (mkF m 208 #[.val (.long i0), .second, .val (.int i1), .val (.int (Int32.ofNat nl)), .val (.ref b5), .val (.int v129), .val (.int v136)] [(.int (own_e5 (Int32.ofNat nl) v129 c0 c1 c2 c3 c4 c5))])) _
      refine XS.ifYes X139.here hx rfl (pc0 := 208) (pc' := 214) rfl (hb hby at_208) rfl ((if0 _ _).trans (teq hc142).1) (by decide) (by decide) ?_
      have qv143 : v143 = v136 := by rw [hv143]; simp only [if_pos hc142]
      rw [qv143] at k
      exact k
    · show Steps p.tables e below (T139.setTop (mkF m 208 #[.val (.long i0), .second, .val (.int i1), .val (.int (Int32.ofNat nl)), .val (.ref b5), .val (.int v129), .val (.int v136)] [(.int (own_e5 (Int32.ofNat nl) v129 c0 c1 c2 c3 c4 c5))])) _
      refine XS.ifNo X139.here hx rfl (hb hby at_208) rfl ((if0 _ _).trans (feq hc142).1) ?_
      have qv143 : v143 = (5 : Int32) := by rw [hv143]; simp only [if_neg hc142]
      rw [qv143] at k
      show Steps p.tables e below (T139.setTop (mkF m 211 #[.val (.long i0), .second, .val (.int i1), .val (.int (Int32.ofNat nl)), .val (.ref b5), .val (.int v129), .val (.int v136)] [])) _
      refine XS.iconst X139.here hx rfl (hb hby at_211) ?_
      show Steps p.tables e below (T139.setTop (mkF m 212 #[.val (.long i0), .second, .val (.int i1), .val (.int (Int32.ofNat nl)), .val (.ref b5), .val (.int v129), .val (.int v136)] [(.int (5 : Int32))])) _
      refine XS.istore X139.here hx rfl (hb hby at_212) rfl (l' := #[.val (.long i0), .second, .val (.int i1), .val (.int (Int32.ofNat nl)), .val (.ref b5), .val (.int v129), .val (.int (5 : Int32))]) rfl ?_
      exact k)
  have P145 : own_Rch p.tables e below A0 (T139.setTop (mkF m 220 #[.val (.long i0), .second, .val (.int i1), .val (.int (Int32.ofNat nl)), .val (.ref b5), .val (.int v129), .val (.int v143)] [(.int (4 : Int32)), (.int v129), (.int (Int32.ofNat nl)), (.ref b5)])) := fun t k => P144 t (by
    show Steps p.tables e below (T139.setTop (mkF m 214 #[.val (.long i0), .second, .val (.int i1), .val (.int (Int32.ofNat nl)), .val (.ref b5), .val (.int v129), .val (.int v143)] [])) _
    refine XS.aload X139.here hx rfl (hb hby at_214) rfl rfl ?_
    show Steps p.tables e below (T139.setTop (mkF m 216 #[.val (.long i0), .second, .val (.int i1), .val (.int (Int32.ofNat nl)), .val (.ref b5), .val (.int v129), .val (.int v143)] [(.ref b5)])) _
    refine XS.iloadN X139.here hx rfl (hb hby at_216) rfl ?_
    show Steps p.tables e below (T139.setTop (mkF m 217 #[.val (.long i0), .second, .val (.int i1), .val (.int (Int32.ofNat nl)), .val (.ref b5), .val (.int v129), .val (.int v143)] [(.int (Int32.ofNat nl)), (.ref b5)])) _
    refine XS.iload X139.here hx rfl (hb hby at_217) rfl ?_
    show Steps p.tables e below (T139.setTop (mkF m 219 #[.val (.long i0), .second, .val (.int i1), .val (.int (Int32.ofNat nl)), .val (.ref b5), .val (.int v129), .val (.int v143)] [(.int v129), (.int (Int32.ofNat nl)), (.ref b5)])) _
    refine XS.iconst X139.here hx rfl (hb hby at_219) ?_
    exact k)
  obtain ⟨_, _, ⟨T146, L146, k146, n146⟩, -, X146, ⟨Lc146, hQ146, l146, y146, z146⟩, st146⟩ := Jvm.LawKit.callS X139 hx (y := (⟨"com/example/rackline/rackline/metrics/RequestHeadEndPinLaw", "endsAt", "([BIII)Z"⟩ : MethodName)) hown (mvT hZ (hw _ (List.mem_of_getElem? (i := 11) rfl))) (mvT hZ (hw _ (List.mem_of_getElem? (i := 12) rfl))) (mvT hZ (hw _ (List.mem_of_getElem? (i := 4) rfl))) (mvT hZ (hw _ (List.mem_of_getElem? (i := 13) rfl))) (by decide) (backOf (W := 0) (rm3e4 l Z a0 hw [] b5 k5 (Int32.ofNat nl) v129 c0 c1 c2 c3 c4 c5 h47 n0 Z_48 V_51) hZ (hw _ (List.mem_of_getElem? (i := 13) rfl)) (hw _ (List.mem_of_getElem? (i := 4) rfl)) (by decide) (by decide)) (g := (mkF m 220 #[.val (.long i0), .second, .val (.int i1), .val (.int (Int32.ofNat nl)), .val (.ref b5), .val (.int v129), .val (.int v143)] [(.int (4 : Int32)), (.int v129), (.int (Int32.ofNat nl)), (.ref b5)])) rfl (by rw [hml]; rfl) (argsL := [(.ref b5), (.int (Int32.ofNat nl)), (.int v129), (.int (4 : Int32))]) (rest := []) (lenOf pd_2 rfl) rfl (by show 2 * 0 + _ ≤ _; exact Nat.le_of_eq rfl) (hb hby at_220) (fun _ _ => ⟨rfl, e139, (by decide : (0 + 1 + 0 + 0 + 0 + 0 + 0 + 0 + 0 + 0) + 0 ≤ _), (by decide : (0 + 6 + 0 + 0 + 0 + 0 + 0 + 0 + 0 + 0) + 0 ≤ _)⟩)
  dsimp only [Pt.U, Pt.locs, Pt.cells, Pt.slots] at X146 l146 y146 z146 st146 hQ146
  subst l146 y146 z146
  obtain ⟨rfl, N146q, e146⟩ := hQ146
  have N146 := Fr.app N139 N146q
  have P147 : own_Rch p.tables e below A0 (T146.setTop (mkF m 223 #[.val (.long i0), .second, .val (.int i1), .val (.int (Int32.ofNat nl)), .val (.ref b5), .val (.int v129), .val (.int v143)] [(.int (own_e4 (Int32.ofNat nl) v129 c0 c1 c2 c3 c4 c5))])) := fun t k => P145 t (st146 t k)
  obtain ⟨v150, hv150⟩ : ∃ z : Int32, z = (if (own_e4 (Int32.ofNat nl) v129 c0 c1 c2 c3 c4 c5) = (0 : Int32) then v143 else (4 : Int32)) := ⟨_, rfl⟩
  have P151 : own_Rch p.tables e below A0 (T146.setTop (mkF m 229 #[.val (.long i0), .second, .val (.int i1), .val (.int (Int32.ofNat nl)), .val (.ref b5), .val (.int v129), .val (.int v150)] [])) := fun t k => P147 t (by
    by_cases hc149 : (own_e4 (Int32.ofNat nl) v129 c0 c1 c2 c3 c4 c5) = (0 : Int32)
    · show Steps p.tables e below (T146.setTop (mkF m 223 #[.val (.long i0), .second, .val (.int i1), .val (.int (Int32.ofNat nl)), .val (.ref b5), .val (.int v129), .val (.int v143)] [(.int (own_e4 (Int32.ofNat nl) v129 c0 c1 c2 c3 c4 c5))])) _
      refine XS.ifYes X146.here hx rfl (pc0 := 223) (pc' := 229) rfl (hb hby at_223) rfl ((if0 _ _).trans (teq hc149).1) (by decide) (by decide) ?_
      have qv150 : v150 = v143 := by rw [hv150]; simp only [if_pos hc149]
      rw [qv150] at k
      exact k
    · show Steps p.tables e below (T146.setTop (mkF m 223 #[.val (.long i0), .second, .val (.int i1), .val (.int (Int32.ofNat nl)), .val (.ref b5), .val (.int v129), .val (.int v143)] [(.int (own_e4 (Int32.ofNat nl) v129 c0 c1 c2 c3 c4 c5))])) _
      refine XS.ifNo X146.here hx rfl (hb hby at_223) rfl ((if0 _ _).trans (feq hc149).1) ?_
      have qv150 : v150 = (4 : Int32) := by rw [hv150]; simp only [if_neg hc149]
      rw [qv150] at k
      show Steps p.tables e below (T146.setTop (mkF m 226 #[.val (.long i0), .second, .val (.int i1), .val (.int (Int32.ofNat nl)), .val (.ref b5), .val (.int v129), .val (.int v143)] [])) _
      refine XS.iconst X146.here hx rfl (hb hby at_226) ?_
      show Steps p.tables e below (T146.setTop (mkF m 227 #[.val (.long i0), .second, .val (.int i1), .val (.int (Int32.ofNat nl)), .val (.ref b5), .val (.int v129), .val (.int v143)] [(.int (4 : Int32))])) _
      refine XS.istore X146.here hx rfl (hb hby at_227) rfl (l' := #[.val (.long i0), .second, .val (.int i1), .val (.int (Int32.ofNat nl)), .val (.ref b5), .val (.int v129), .val (.int (4 : Int32))]) rfl ?_
      exact k)
  have P152 : own_Rch p.tables e below A0 (T146.setTop (mkF m 235 #[.val (.long i0), .second, .val (.int i1), .val (.int (Int32.ofNat nl)), .val (.ref b5), .val (.int v129), .val (.int v150)] [(.int (3 : Int32)), (.int v129), (.int (Int32.ofNat nl)), (.ref b5)])) := fun t k => P151 t (by
    show Steps p.tables e below (T146.setTop (mkF m 229 #[.val (.long i0), .second, .val (.int i1), .val (.int (Int32.ofNat nl)), .val (.ref b5), .val (.int v129), .val (.int v150)] [])) _
    refine XS.aload X146.here hx rfl (hb hby at_229) rfl rfl ?_
    show Steps p.tables e below (T146.setTop (mkF m 231 #[.val (.long i0), .second, .val (.int i1), .val (.int (Int32.ofNat nl)), .val (.ref b5), .val (.int v129), .val (.int v150)] [(.ref b5)])) _
    refine XS.iloadN X146.here hx rfl (hb hby at_231) rfl ?_
    show Steps p.tables e below (T146.setTop (mkF m 232 #[.val (.long i0), .second, .val (.int i1), .val (.int (Int32.ofNat nl)), .val (.ref b5), .val (.int v129), .val (.int v150)] [(.int (Int32.ofNat nl)), (.ref b5)])) _
    refine XS.iload X146.here hx rfl (hb hby at_232) rfl ?_
    show Steps p.tables e below (T146.setTop (mkF m 234 #[.val (.long i0), .second, .val (.int i1), .val (.int (Int32.ofNat nl)), .val (.ref b5), .val (.int v129), .val (.int v150)] [(.int v129), (.int (Int32.ofNat nl)), (.ref b5)])) _
    refine XS.iconst X146.here hx rfl (hb hby at_234) ?_
    exact k)
  obtain ⟨_, _, ⟨T153, L153, k153, n153⟩, -, X153, ⟨Lc153, hQ153, l153, y153, z153⟩, st153⟩ := Jvm.LawKit.callS X146 hx (y := (⟨"com/example/rackline/rackline/metrics/RequestHeadEndPinLaw", "endsAt", "([BIII)Z"⟩ : MethodName)) hown (mvT hZ (hw _ (List.mem_of_getElem? (i := 11) rfl))) (mvT hZ (hw _ (List.mem_of_getElem? (i := 12) rfl))) (mvT hZ (hw _ (List.mem_of_getElem? (i := 4) rfl))) (mvT hZ (hw _ (List.mem_of_getElem? (i := 13) rfl))) (by decide) (backOf (W := 0) (rm3e3 l Z a0 hw [] b5 k5 (Int32.ofNat nl) v129 c0 c1 c2 c3 c4 c5 h47 n0 Z_48 V_51) hZ (hw _ (List.mem_of_getElem? (i := 13) rfl)) (hw _ (List.mem_of_getElem? (i := 4) rfl)) (by decide) (by decide)) (g := (mkF m 235 #[.val (.long i0), .second, .val (.int i1), .val (.int (Int32.ofNat nl)), .val (.ref b5), .val (.int v129), .val (.int v150)] [(.int (3 : Int32)), (.int v129), (.int (Int32.ofNat nl)), (.ref b5)])) rfl (by rw [hml]; rfl) (argsL := [(.ref b5), (.int (Int32.ofNat nl)), (.int v129), (.int (3 : Int32))]) (rest := []) (lenOf pd_2 rfl) rfl (by show 2 * 0 + _ ≤ _; exact Nat.le_of_eq rfl) (hb hby at_235) (fun _ _ => ⟨rfl, e146, (by decide : (0 + 1 + 0 + 0 + 0 + 0 + 0 + 0 + 0 + 0 + 0) + 0 ≤ _), (by decide : (0 + 6 + 0 + 0 + 0 + 0 + 0 + 0 + 0 + 0 + 0) + 0 ≤ _)⟩)
  dsimp only [Pt.U, Pt.locs, Pt.cells, Pt.slots] at X153 l153 y153 z153 st153 hQ153
  subst l153 y153 z153
  obtain ⟨rfl, N153q, e153⟩ := hQ153
  have N153 := Fr.app N146 N153q
  have P154 : own_Rch p.tables e below A0 (T153.setTop (mkF m 238 #[.val (.long i0), .second, .val (.int i1), .val (.int (Int32.ofNat nl)), .val (.ref b5), .val (.int v129), .val (.int v150)] [(.int (own_e3 (Int32.ofNat nl) v129 c0 c1 c2 c3 c4 c5))])) := fun t k => P152 t (st153 t k)
  obtain ⟨v157, hv157⟩ : ∃ z : Int32, z = (if (own_e3 (Int32.ofNat nl) v129 c0 c1 c2 c3 c4 c5) = (0 : Int32) then v150 else (3 : Int32)) := ⟨_, rfl⟩
  have P158 : own_Rch p.tables e below A0 (T153.setTop (mkF m 244 #[.val (.long i0), .second, .val (.int i1), .val (.int (Int32.ofNat nl)), .val (.ref b5), .val (.int v129), .val (.int v157)] [])) := fun t k => P154 t (by
    by_cases hc156 : (own_e3 (Int32.ofNat nl) v129 c0 c1 c2 c3 c4 c5) = (0 : Int32)
    · show Steps p.tables e below (T153.setTop (mkF m 238 #[.val (.long i0), .second, .val (.int i1), .val (.int (Int32.ofNat nl)), .val (.ref b5), .val (.int v129), .val (.int v150)] [(.int (own_e3 (Int32.ofNat nl) v129 c0 c1 c2 c3 c4 c5))])) _
      refine XS.ifYes X153.here hx rfl (pc0 := 238) (pc' := 244) rfl (hb hby at_238) rfl ((if0 _ _).trans (teq hc156).1) (by decide) (by decide) ?_
      have qv157 : v157 = v150 := by rw [hv157]; simp only [if_pos hc156]
      rw [qv157] at k
      exact k
    · show Steps p.tables e below (T153.setTop (mkF m 238 #[.val (.long i0), .second, .val (.int i1), .val (.int (Int32.ofNat nl)), .val (.ref b5), .val (.int v129), .val (.int v150)] [(.int (own_e3 (Int32.ofNat nl) v129 c0 c1 c2 c3 c4 c5))])) _
      refine XS.ifNo X153.here hx rfl (hb hby at_238) rfl ((if0 _ _).trans (feq hc156).1) ?_
      have qv157 : v157 = (3 : Int32) := by rw [hv157]; simp only [if_neg hc156]
      rw [qv157] at k
      show Steps p.tables e below (T153.setTop (mkF m 241 #[.val (.long i0), .second, .val (.int i1), .val (.int (Int32.ofNat nl)), .val (.ref b5), .val (.int v129), .val (.int v150)] [])) _
      refine XS.iconst X153.here hx rfl (hb hby at_241) ?_
      show Steps p.tables e below (T153.setTop (mkF m 242 #[.val (.long i0), .second, .val (.int i1), .val (.int (Int32.ofNat nl)), .val (.ref b5), .val (.int v129), .val (.int v150)] [(.int (3 : Int32))])) _
      refine XS.istore X153.here hx rfl (hb hby at_242) rfl (l' := #[.val (.long i0), .second, .val (.int i1), .val (.int (Int32.ofNat nl)), .val (.ref b5), .val (.int v129), .val (.int (3 : Int32))]) rfl ?_
      exact k)
  have P159 : own_Rch p.tables e below A0 (T153.setTop (mkF m 250 #[.val (.long i0), .second, .val (.int i1), .val (.int (Int32.ofNat nl)), .val (.ref b5), .val (.int v129), .val (.int v157)] [(.int (2 : Int32)), (.int v129), (.int (Int32.ofNat nl)), (.ref b5)])) := fun t k => P158 t (by
    show Steps p.tables e below (T153.setTop (mkF m 244 #[.val (.long i0), .second, .val (.int i1), .val (.int (Int32.ofNat nl)), .val (.ref b5), .val (.int v129), .val (.int v157)] [])) _
    refine XS.aload X153.here hx rfl (hb hby at_244) rfl rfl ?_
    show Steps p.tables e below (T153.setTop (mkF m 246 #[.val (.long i0), .second, .val (.int i1), .val (.int (Int32.ofNat nl)), .val (.ref b5), .val (.int v129), .val (.int v157)] [(.ref b5)])) _
    refine XS.iloadN X153.here hx rfl (hb hby at_246) rfl ?_
    show Steps p.tables e below (T153.setTop (mkF m 247 #[.val (.long i0), .second, .val (.int i1), .val (.int (Int32.ofNat nl)), .val (.ref b5), .val (.int v129), .val (.int v157)] [(.int (Int32.ofNat nl)), (.ref b5)])) _
    refine XS.iload X153.here hx rfl (hb hby at_247) rfl ?_
    show Steps p.tables e below (T153.setTop (mkF m 249 #[.val (.long i0), .second, .val (.int i1), .val (.int (Int32.ofNat nl)), .val (.ref b5), .val (.int v129), .val (.int v157)] [(.int v129), (.int (Int32.ofNat nl)), (.ref b5)])) _
    refine XS.iconst X153.here hx rfl (hb hby at_249) ?_
    exact k)
  obtain ⟨_, _, ⟨T160, L160, k160, n160⟩, -, X160, ⟨Lc160, hQ160, l160, y160, z160⟩, st160⟩ := Jvm.LawKit.callS X153 hx (y := (⟨"com/example/rackline/rackline/metrics/RequestHeadEndPinLaw", "endsAt", "([BIII)Z"⟩ : MethodName)) hown (mvT hZ (hw _ (List.mem_of_getElem? (i := 11) rfl))) (mvT hZ (hw _ (List.mem_of_getElem? (i := 12) rfl))) (mvT hZ (hw _ (List.mem_of_getElem? (i := 4) rfl))) (mvT hZ (hw _ (List.mem_of_getElem? (i := 13) rfl))) (by decide) (backOf (W := 0) (rm3e2 l Z a0 hw [] b5 k5 (Int32.ofNat nl) v129 c0 c1 c2 c3 c4 c5 h47 n0 Z_48 V_51 hf_6) hZ (hw _ (List.mem_of_getElem? (i := 13) rfl)) (hw _ (List.mem_of_getElem? (i := 4) rfl)) (by decide) (by decide)) (g := (mkF m 250 #[.val (.long i0), .second, .val (.int i1), .val (.int (Int32.ofNat nl)), .val (.ref b5), .val (.int v129), .val (.int v157)] [(.int (2 : Int32)), (.int v129), (.int (Int32.ofNat nl)), (.ref b5)])) rfl (by rw [hml]; rfl) (argsL := [(.ref b5), (.int (Int32.ofNat nl)), (.int v129), (.int (2 : Int32))]) (rest := []) (lenOf pd_2 rfl) rfl (by show 2 * 0 + _ ≤ _; exact Nat.le_of_eq rfl) (hb hby at_250) (fun _ _ => ⟨rfl, e153, (by decide : (0 + 1 + 0 + 0 + 0 + 0 + 0 + 0 + 0 + 0 + 0 + 0) + 0 ≤ _), (by decide : (0 + 6 + 0 + 0 + 0 + 0 + 0 + 0 + 0 + 0 + 0 + 0) + 0 ≤ _)⟩)
  dsimp only [Pt.U, Pt.locs, Pt.cells, Pt.slots] at X160 l160 y160 z160 st160 hQ160
  subst l160 y160 z160
  obtain ⟨rfl, N160q, e160⟩ := hQ160
  have N160 := Fr.app N153 N160q
  have P161 : own_Rch p.tables e below A0 (T160.setTop (mkF m 253 #[.val (.long i0), .second, .val (.int i1), .val (.int (Int32.ofNat nl)), .val (.ref b5), .val (.int v129), .val (.int v157)] [(.int (own_e2 (Int32.ofNat nl) v129 c0 c1 c2 c3 c4 c5))])) := fun t k => P159 t (st160 t k)
  obtain ⟨v164, hv164⟩ : ∃ z : Int32, z = (if (own_e2 (Int32.ofNat nl) v129 c0 c1 c2 c3 c4 c5) = (0 : Int32) then v157 else (2 : Int32)) := ⟨_, rfl⟩
  have P165 : own_Rch p.tables e below A0 (T160.setTop (mkF m 259 #[.val (.long i0), .second, .val (.int i1), .val (.int (Int32.ofNat nl)), .val (.ref b5), .val (.int v129), .val (.int v164)] [])) := fun t k => P161 t (by
    by_cases hc163 : (own_e2 (Int32.ofNat nl) v129 c0 c1 c2 c3 c4 c5) = (0 : Int32)
    · show Steps p.tables e below (T160.setTop (mkF m 253 #[.val (.long i0), .second, .val (.int i1), .val (.int (Int32.ofNat nl)), .val (.ref b5), .val (.int v129), .val (.int v157)] [(.int (own_e2 (Int32.ofNat nl) v129 c0 c1 c2 c3 c4 c5))])) _
      refine XS.ifYes X160.here hx rfl (pc0 := 253) (pc' := 259) rfl (hb hby at_253) rfl ((if0 _ _).trans (teq hc163).1) (by decide) (by decide) ?_
      have qv164 : v164 = v157 := by rw [hv164]; simp only [if_pos hc163]
      rw [qv164] at k
      exact k
    · show Steps p.tables e below (T160.setTop (mkF m 253 #[.val (.long i0), .second, .val (.int i1), .val (.int (Int32.ofNat nl)), .val (.ref b5), .val (.int v129), .val (.int v157)] [(.int (own_e2 (Int32.ofNat nl) v129 c0 c1 c2 c3 c4 c5))])) _
      refine XS.ifNo X160.here hx rfl (hb hby at_253) rfl ((if0 _ _).trans (feq hc163).1) ?_
      have qv164 : v164 = (2 : Int32) := by rw [hv164]; simp only [if_neg hc163]
      rw [qv164] at k
      show Steps p.tables e below (T160.setTop (mkF m 256 #[.val (.long i0), .second, .val (.int i1), .val (.int (Int32.ofNat nl)), .val (.ref b5), .val (.int v129), .val (.int v157)] [])) _
      refine XS.iconst X160.here hx rfl (hb hby at_256) ?_
      show Steps p.tables e below (T160.setTop (mkF m 257 #[.val (.long i0), .second, .val (.int i1), .val (.int (Int32.ofNat nl)), .val (.ref b5), .val (.int v129), .val (.int v157)] [(.int (2 : Int32))])) _
      refine XS.istore X160.here hx rfl (hb hby at_257) rfl (l' := #[.val (.long i0), .second, .val (.int i1), .val (.int (Int32.ofNat nl)), .val (.ref b5), .val (.int v129), .val (.int (2 : Int32))]) rfl ?_
      exact k)
  have P166 : own_Rch p.tables e below A0 (T160.setTop (mkF m 262 #[.val (.long i0), .second, .val (.int i1), .val (.int (Int32.ofNat nl)), .val (.ref b5), .val (.int v129), .val (.int v164)] [(.int (Int32.ofNat nl)), (.ref b5)])) := fun t k => P165 t (by
    show Steps p.tables e below (T160.setTop (mkF m 259 #[.val (.long i0), .second, .val (.int i1), .val (.int (Int32.ofNat nl)), .val (.ref b5), .val (.int v129), .val (.int v164)] [])) _
    refine XS.aload X160.here hx rfl (hb hby at_259) rfl rfl ?_
    show Steps p.tables e below (T160.setTop (mkF m 261 #[.val (.long i0), .second, .val (.int i1), .val (.int (Int32.ofNat nl)), .val (.ref b5), .val (.int v129), .val (.int v164)] [(.ref b5)])) _
    refine XS.iloadN X160.here hx rfl (hb hby at_261) rfl ?_
    exact k)
  obtain ⟨_, _, ⟨T167, L167, k167, n167⟩, -, X167, ⟨Lc167, hQ167, l167, y167, z167⟩, st167⟩ := Jvm.LawKit.callS X160 hx (y := (⟨"com/example/rackline/rackline/metrics/RequestHead", "end", "([BI)I"⟩ : MethodName)) hown (mvT hZ (hw _ (List.mem_of_getElem? (i := 14) rfl))) (mvT hZ (hw _ (List.mem_of_getElem? (i := 15) rfl))) (mvT hZ (hw _ (List.mem_of_getElem? (i := 16) rfl))) (mvT hZ (hw _ (List.mem_of_getElem? (i := 17) rfl))) (by decide) (backOf (W := 0) (rm4 l Z a0 hw [] b5 k5 c0 c1 c2 c3 c4 c5 nl h47 n0 Z_48 V_51 hnl) hZ (hw _ (List.mem_of_getElem? (i := 17) rfl)) (hw _ (List.mem_of_getElem? (i := 16) rfl)) (by decide) (by decide)) (g := (mkF m 262 #[.val (.long i0), .second, .val (.int i1), .val (.int (Int32.ofNat nl)), .val (.ref b5), .val (.int v129), .val (.int v164)] [(.int (Int32.ofNat nl)), (.ref b5)])) rfl (by rw [hml]; rfl) (argsL := [(.ref b5), (.int (Int32.ofNat nl))]) (rest := []) (lenOf pd_3 rfl) rfl (by show 2 * 0 + _ ≤ _; exact Nat.le_of_eq rfl) (hb hby at_262) (fun _ _ => ⟨rfl, e160, (by decide : (0 + 1 + 0 + 0 + 0 + 0 + 0 + 0 + 0 + 0 + 0 + 0 + 0) + 0 ≤ _), (by decide : (0 + 6 + 0 + 0 + 0 + 0 + 0 + 0 + 0 + 0 + 0 + 0 + 0) + 0 ≤ _)⟩)
  dsimp only [Pt.U, Pt.locs, Pt.cells, Pt.slots] at X167 l167 y167 z167 st167 hQ167
  subst l167 y167 z167
  obtain ⟨rfl, N167q, e167⟩ := hQ167
  have N167 := Fr.app N160 N167q
  have P168 : own_Rch p.tables e below A0 (T167.setTop (mkF m 265 #[.val (.long i0), .second, .val (.int i1), .val (.int (Int32.ofNat nl)), .val (.ref b5), .val (.int v129), .val (.int v164)] [(.int (own_end c0 c1 c2 c3 c4 c5 nl))])) := fun t k => P166 t (st167 t k)
  have P170 : own_Rch p.tables e below A0 (T167.setTop (mkF m 267 #[.val (.long i0), .second, .val (.int i1), .val (.int (Int32.ofNat nl)), .val (.ref b5), .val (.int v129), .val (.int v164)] [(.int v164), (.int (own_end c0 c1 c2 c3 c4 c5 nl))])) := fun t k => P168 t (by
    show Steps p.tables e below (T167.setTop (mkF m 265 #[.val (.long i0), .second, .val (.int i1), .val (.int (Int32.ofNat nl)), .val (.ref b5), .val (.int v129), .val (.int v164)] [(.int (own_end c0 c1 c2 c3 c4 c5 nl))])) _
    refine XS.iload X167.here hx rfl (hb hby at_265) rfl ?_
    exact k)
  by_cases hc169 : (own_end c0 c1 c2 c3 c4 c5 nl) = v164
  · -- (own_end c0 c1 c2 c3 c4 c5 nl) = v164
    have P171 : own_Rch p.tables e below A0 (T167.setTop (mkF m 275 #[.val (.long i0), .second, .val (.int i1), .val (.int (Int32.ofNat nl)), .val (.ref b5), .val (.int v129), .val (.int v164)] [(.int (1 : Int32))])) := fun t k => P170 t (by
      show Steps p.tables e below (T167.setTop (mkF m 267 #[.val (.long i0), .second, .val (.int i1), .val (.int (Int32.ofNat nl)), .val (.ref b5), .val (.int v129), .val (.int v164)] [(.int v164), (.int (own_end c0 c1 c2 c3 c4 c5 nl))])) _
      refine XS.icmpNo X167.here hx rfl (hb hby at_267) rfl (teq hc169).2 ?_
      show Steps p.tables e below (T167.setTop (mkF m 270 #[.val (.long i0), .second, .val (.int i1), .val (.int (Int32.ofNat nl)), .val (.ref b5), .val (.int v129), .val (.int v164)] [])) _
      refine XS.iconst X167.here hx rfl (hb hby at_270) ?_
      show Steps p.tables e below (T167.setTop (mkF m 271 #[.val (.long i0), .second, .val (.int i1), .val (.int (Int32.ofNat nl)), .val (.ref b5), .val (.int v129), .val (.int v164)] [(.int (1 : Int32))])) _
      refine XS.goto X167.here hx rfl (pc0 := 271) (pc' := 275) rfl (hb hby at_271) (by decide) (by decide) ?_
      exact k)
    obtain ⟨fs, hr, hrun, hended, hW, hsame⟩ := X167.leave (v := some (.int (nar .boolean (1 : Int32)))) (fun h => by rw [Bd.returns] at h; cases h)
    refine ⟨_, _, P00 _ (P171 _ ?_), hrun, hended, _, _, rfl, ?_, ⟨_, rfl⟩, hW, hsame.mono (by decide) (by decide)⟩
    · exact retN X167 hx (t := .boolean) Bd.returns (by simp) (hb hby at_275) hr
    · show Q0 Z i0 i1 h0 n0 _ T167.heap _
      rw [e167]
      refine ⟨?_, N167⟩
      rfl
  · -- not (own_end c0 c1 c2 c3 c4 c5 nl) = v164
    have P172 : own_Rch p.tables e below A0 (T167.setTop (mkF m 275 #[.val (.long i0), .second, .val (.int i1), .val (.int (Int32.ofNat nl)), .val (.ref b5), .val (.int v129), .val (.int v164)] [(.int (0 : Int32))])) := fun t k => P170 t (by
      show Steps p.tables e below (T167.setTop (mkF m 267 #[.val (.long i0), .second, .val (.int i1), .val (.int (Int32.ofNat nl)), .val (.ref b5), .val (.int v129), .val (.int v164)] [(.int v164), (.int (own_end c0 c1 c2 c3 c4 c5 nl))])) _
      refine XS.icmpYes X167.here hx rfl (pc0 := 267) (pc' := 274) rfl (hb hby at_267) rfl (feq hc169).2 (by decide) (by decide) ?_
      show Steps p.tables e below (T167.setTop (mkF m 274 #[.val (.long i0), .second, .val (.int i1), .val (.int (Int32.ofNat nl)), .val (.ref b5), .val (.int v129), .val (.int v164)] [])) _
      refine XS.iconst X167.here hx rfl (hb hby at_274) ?_
      exact k)
    obtain ⟨fs, hr, hrun, hended, hW, hsame⟩ := X167.leave (v := some (.int (nar .boolean (0 : Int32)))) (fun h => by rw [Bd.returns] at h; cases h)
    refine ⟨_, _, P00 _ (P172 _ ?_), hrun, hended, _, _, rfl, ?_, ⟨_, rfl⟩, hW, hsame.mono (by decide) (by decide)⟩
    · exact retN X167 hx (t := .boolean) Bd.returns (by simp) (hb hby at_275) hr
    · show Q0 Z i0 i1 h0 n0 _ T167.heap _
      rw [e167]
      refine ⟨?_, N167⟩
      exact absurd (own_law c0 c1 c2 c3 c4 c5 nl hnl hv64 hv77 hv90 hv103 hv116 hv129 hv136 hv143 hv150 hv157 hv164) hc169
set_option maxRecDepth 65536 in
set_option maxHeartbeats 40000000 in
theorem comes_1 {Post : Tables → Env → Array Value → State → Outcome → State → Prop} (hpost : ∀ tb e args s v u, (limb_1_1.after args s (.returned v) u = true ∧ limb_1_2.after args s (.returned v) u = true ∧ True) → FrameEnd s (.returned v) u (Jvm.fieldLocs frame_1_writes args s ++ Jvm.arrayLocs frame_1_arrays args s ++ Jvm.staticLocs frame_1_statics s) 16 128 → Post tb e args s (.returned v) u) :
    ArmFor flags0 classFile x code maxLocals ret World_1 tables_1 room_1 Calls_1 rest_1 Pre_1 Post := by
  intro l hfl _ _ p e ha hc hk s m args below hf hA hF happ hP
  obtain ⟨hcalls, hrest, hpre⟩ := hP
  obtain ⟨-, -, -, hnamed, -, -, -, hat⟩ := (Spec.applies_iff hf).mp happ
  obtain ⟨hg, hn⟩ := and_e (Cond.before_iff.mp (show (Jvm.Cond.and given_1 narrow_1).before args s = true from hpre))
  obtain ⟨ga0, gb0⟩ := and_e hg
  obtain ⟨ga1, gb1⟩ := and_e gb0
  obtain ⟨w0, w1, rfl⟩ : ∃ w0 w1 : Value, args = #[w0, w1] := by
    have hs : args.size = 2 := by simpa [Cond.value, given_1] using ga0
    obtain ⟨L⟩ := args
    match L, hs with
    | [w0, w1], _ => exact ⟨w0, w1, rfl⟩
  have hw := fun d (hd : d ∈ tables_1) => atoms_spec (ws := Jvm.Cond.code x code maxLocals ret :: tables_1) hat d (List.mem_cons_of_mem _ hd)
  have hfit : Fit s := fun {y c} hc i hi => by
    obtain ⟨ha, rfl⟩ := Array.getElem?_eq_some_iff.mp hc
    have q := List.all_eq_true.mp ((Array.all_eq_true_iff_forall_mem.mp hF) _ (Array.getElem_mem ha)) i (List.mem_range.mpr hi)
    simpa [Array.getElem?_eq_getElem hi] using q
  obtain ⟨i0, ei0⟩ := isL_v ga1
  obtain rfl : w0 = (.long i0) := Option.some.inj ei0
  obtain ⟨i1, ei1⟩ := is_v gb1
  obtain rfl : w1 = (.int i1) := Option.some.inj ei1
  obtain ⟨n, o, h1, h2, h3, _, L, rfl, ⟨rfl, N⟩, hq⟩ := rm0 l s _ hw tables_1 i0 i1  s.heap s.heap.size (Nat.le_refl _)  p e ha hc hk s m _ below hf ((Spec.applies_iff_loose hf).mp happ).1 ⟨rfl, State.Warmed39.refl s, rfl⟩ trivial
  refine ⟨n, _, h1, h2, h3, hpost _ _ _ _ _ _ ⟨Cond.after_iff.mpr rfl, Cond.after_iff.mpr (eq_i res_at (Term.int_eval (1)) rfl), trivial⟩ ⟨hq.1, hq.2.1, (hq.2.2.sift fun y hy => Or.inr (N y hy)).mono (by decide) (by decide)⟩⟩
theorem main_1_1 : Claimed_1_1 := comes_1 fun _ _ _ _ _ _ h hF => ⟨h.1, hF⟩
theorem main_1_2 : Claimed_1_2 := comes_1 fun _ _ _ _ _ _ h hF => ⟨h.2.1, hF⟩
end Jvm.Pilot.@@N@@
namespace Jvm.Pilot.@@N@@
open Jvm Jvm.ClassFile Sem Op Lib Jvm.Free Jvm.Stand Jvm.Pilot.@@N@@.Jvm.D
/-! MADE BY PROGRAM (witnessworld.py) out of the Statement's table words and the real class files: 10 classes; the members and pool entries that the words name. The judged class is class 1, her method 4. -/
namespace start1
open Jvm.ClassFile
def u (s : String) : CpInfo := .utf8 (stringToUtf16 s)
/-- a pool by its gaps: so many unusable entries, then the entry; so many at the end -/
def gap : Nat → List CpInfo → List CpInfo
  | 0, r => r
  | n + 1, r => .unusable :: gap n r
def poolList (es : List (Nat × CpInfo)) (last : Nat) : List CpInfo := es.foldr (fun e r => gap e.1 (e.2 :: r)) (gap last [])
def pool (es : List (Nat × CpInfo)) (last : Nat) : Array CpInfo := ⟨poolList es last⟩
def fileOf (pool : Array CpInfo) (this : Nat) (attrs : Array Attribute := #[]) (ms : Array MethodInfo := #[]) (fl : Nat := 33) (sup : Nat := 0) (ifs : Array Nat := #[]) (fds : Array FieldInfo := #[]) : ClassFile where
  minorVersion := 0
  majorVersion := 65
  constantPool := pool
  accessFlags := fl
  thisClass := this
  superClass := sup
  interfaces := ifs
  fields := fds
  methods := ms
  attributes := attrs
def plain (name : String) (sup : Option ClassId) : Class where
  name := name
  kind := .ordinary
  loader := none
  accessFlags := 33
  super := sup
  interfaces := #[]
  cf := none
  fields := #[]
  methods := #[]
  instanceTypes := #[]
  staticTypes := #[]
  resolved := #[]
  callSites := []
  init := .initialized
  statics := none
  mirror := none

def pool0 : Array CpInfo := pool [(5, u "<init>"), (0, u "()V"), (1, .class_ 10), (1, u "java/lang/Object")] 113

def k0m0 : Method := { name := "<init>", desc := "()V", sig := { parameters := [], returnType := none }, accessFlags := 1, code := none }
/-- java/lang/Object -/
def k0 : Class := { plain "java/lang/Object" none with
  accessFlags := 33
  interfaces := #[]
  cf := some (fileOf pool0 8 #[] #[{ accessFlags := 1, nameIndex := 5, descriptorIndex := 6, attributes := #[] }] 33 0 #[] #[])
  fields := #[]
  methods := #[k0m0]
  instanceTypes := #[]
  staticTypes := #[]
  resolved := Array.replicate 124 none
  statics := none }

def pool1 : Array CpInfo := pool [(2, .class_ 4), (1, u "java/lang/Object"), (0, u "<init>"), (0, u "()V"), (0, .long 1023), (1, .long 3), (1, .integer 2147483647), (0, .methodref 13 14), (0, .class_ 15), (0, .nameAndType 16 17), (0, u "com/example/rackline/rackline/metrics/RequestHeadEndPinLaw"), (0, u "pick"), (0, u "(JI)B"), (0, .methodref 13 19), (0, .nameAndType 20 21), (0, u "brk"), (0, u "(B)Z"), (0, .methodref 13 23), (0, .nameAndType 24 25), (0, u "endsAt"), (0, u "([BIII)Z"), (0, .methodref 27 28), (0, .class_ 29), (0, .nameAndType 30 31), (0, u "com/example/rackline/rackline/metrics/RequestHead"), (0, u "end"), (0, u "([BI)I"), (3, u "law"), (0, u "(JI)Z")] 4

def k1m0 : Method := { name := "<init>", desc := "()V", sig := { parameters := [], returnType := none }, accessFlags := 1, code := none }
def k1c1 : Code := { maxStack := 4, maxLocals := 6, code := method_2_code, exceptionTable := #[], attributes := #[] }
def k1m1 : Method := { name := "pick", desc := "(JI)B", sig := { parameters := [.long, .int], returnType := some .byte }, accessFlags := 10, code := some k1c1 }
def k1c2 : Code := { maxStack := 2, maxLocals := 1, code := method_3_code, exceptionTable := #[], attributes := #[] }
def k1m2 : Method := { name := "brk", desc := "(B)Z", sig := { parameters := [.byte], returnType := some .boolean }, accessFlags := 10, code := some k1c2 }
def k1c3 : Code := { maxStack := 3, maxLocals := 4, code := method_4_code, exceptionTable := #[], attributes := #[] }
def k1m3 : Method := { name := "endsAt", desc := "([BIII)Z", sig := { parameters := [(.array .byte), .int, .int, .int], returnType := some .boolean }, accessFlags := 10, code := some k1c3 }
def k1c4 : Code := { maxStack := 5, maxLocals := 7, code := code, exceptionTable := #[], attributes := #[] }
def k1m4 : Method := { name := "law", desc := "(JI)Z", sig := { parameters := [.long, .int], returnType := some .boolean }, accessFlags := 9, code := some k1c4 }
/-- com/example/rackline/rackline/metrics/RequestHeadEndPinLaw -/
def k1 : Class := { plain "com/example/rackline/rackline/metrics/RequestHeadEndPinLaw" (some 0) with
  accessFlags := 49
  interfaces := #[]
  cf := some (fileOf pool1 13 #[] #[{ accessFlags := 1, nameIndex := 5, descriptorIndex := 6, attributes := #[] }, { accessFlags := 10, nameIndex := 16, descriptorIndex := 17, attributes := #[] }, { accessFlags := 10, nameIndex := 20, descriptorIndex := 21, attributes := #[] }, { accessFlags := 10, nameIndex := 24, descriptorIndex := 25, attributes := #[] }, { accessFlags := 9, nameIndex := 35, descriptorIndex := 36, attributes := #[] }] 49 2 #[] #[])
  fields := #[]
  methods := #[k1m0, k1m1, k1m2, k1m3, k1m4]
  instanceTypes := #[]
  staticTypes := #[]
  resolved := Array.replicate 41 none
  statics := none }

def pool2 : Array CpInfo := pool [(2, .class_ 4), (1, u "java/lang/Object"), (0, u "<init>"), (0, u "()V"), (0, .class_ 8), (0, u "java/lang/Record")] 13

def k2m0 : Method := { name := "<init>", desc := "()V", sig := { parameters := [], returnType := none }, accessFlags := 4, code := none }
/-- java/lang/Record -/
def k2 : Class := { plain "java/lang/Record" (some 0) with
  accessFlags := 1057
  interfaces := #[]
  cf := some (fileOf pool2 7 #[] #[{ accessFlags := 4, nameIndex := 5, descriptorIndex := 6, attributes := #[] }] 1057 2 #[] #[])
  fields := #[]
  methods := #[k2m0]
  instanceTypes := #[]
  staticTypes := #[]
  resolved := Array.replicate 22 none
  statics := none }

def pool3 : Array CpInfo := pool [(2, .class_ 4), (1, u "java/lang/Record"), (3, .class_ 10), (1, u "com/example/rackline/rackline/metrics/RequestHead"), (0, u "method"), (0, u "Ljava/lang/String;"), (2, u "path"), (2, u "version"), (75, u "end"), (0, u "([BI)I")] 30

def k3c0 : Code := { maxStack := 2, maxLocals := 6, code := prog_170_method_2_code, exceptionTable := #[], attributes := #[] }
def k3m0 : Method := { name := "end", desc := "([BI)I", sig := { parameters := [(.array .byte), .int], returnType := some .int }, accessFlags := 8, code := some k3c0 }
/-- com/example/rackline/rackline/metrics/RequestHead -/
def k3 : Class := { plain "com/example/rackline/rackline/metrics/RequestHead" (some 2) with
  accessFlags := 48
  interfaces := #[]
  cf := some (fileOf pool3 8 #[] #[{ accessFlags := 8, nameIndex := 94, descriptorIndex := 95, attributes := #[] }] 48 2 #[] #[{ accessFlags := 18, nameIndex := 11, descriptorIndex := 12, attributes := #[] }, { accessFlags := 18, nameIndex := 15, descriptorIndex := 12, attributes := #[] }, { accessFlags := 18, nameIndex := 18, descriptorIndex := 12, attributes := #[] }])
  fields := #[{ name := "method", type := (.object "java/lang/String"), accessFlags := 18, slot := 0, constantValue := 0 }, { name := "path", type := (.object "java/lang/String"), accessFlags := 18, slot := 1, constantValue := 0 }, { name := "version", type := (.object "java/lang/String"), accessFlags := 18, slot := 2, constantValue := 0 }]
  methods := #[k3m0]
  instanceTypes := #[(.object "java/lang/String"), (.object "java/lang/String"), (.object "java/lang/String")]
  staticTypes := #[]
  resolved := Array.replicate 126 none
  statics := none }

def pool4 : Array CpInfo := pool [(1, u "java/lang/Cloneable"), (0, .class_ 1), (0, u "java/lang/Object"), (0, .class_ 3)] 3

/-- java/lang/Cloneable -/
def k4 : Class := { plain "java/lang/Cloneable" (some 0) with
  accessFlags := 1537
  interfaces := #[]
  cf := some (fileOf pool4 2 #[] #[] 1537 4 #[] #[])
  fields := #[]
  methods := #[]
  instanceTypes := #[]
  staticTypes := #[]
  resolved := Array.replicate 8 none
  statics := none }

def pool5 : Array CpInfo := pool [(1, u "java/io/Serializable"), (0, .class_ 1), (0, u "java/lang/Object"), (0, .class_ 3)] 3

/-- java/io/Serializable -/
def k5 : Class := { plain "java/io/Serializable" (some 0) with
  accessFlags := 1537
  interfaces := #[]
  cf := some (fileOf pool5 2 #[] #[] 1537 4 #[] #[])
  fields := #[]
  methods := #[]
  instanceTypes := #[]
  staticTypes := #[]
  resolved := Array.replicate 8 none
  statics := none }

/-- the primitive byte -/
def k6 : Class := { plain "byte" none with kind := .primitive 'B', accessFlags := 0x411 }
/-- [B -/
def k7 : Class := { plain "[B" (some 0) with kind := .array 6 .byte, interfaces := #[4, 5], accessFlags := 1041 }

/-- the primitive int -/
def k8 : Class := { plain "int" none with kind := .primitive 'I', accessFlags := 0x411 }
/-- [I -/
def k9 : Class := { plain "[I" (some 0) with kind := .array 8 .int, interfaces := #[4, 5], accessFlags := 1041 }

def heap : Heap := #[]
def classes : Array Class := #[k0, k1, k2, k3, k4, k5, k6, k7, k8, k9]
def interned : List (Array UInt16 × Addr) := []
def slotsUsed : Nat := 0
def theMethod : MethodId := ⟨1, 4⟩
def args0 : Array Value := #[.long 50, .int 5]
def aboutOver (below : List Frame) : State where
  vm := { classes := classes, interned := interned.toArray }
  heap := heap
  slotsUsed := slotsUsed
  threads := #[{ frames := .invoking theMethod args0 :: below }]
def below0 : List Frame := [.native { method := ⟨0, 0⟩, args := #[] }]
def about1 : State := aboutOver below0
def p0 : Program := .bare "" "" ""
def e0 : Env := launch0.env 0 0 0
theorem w_frames : about1.frames = Frame.invoking theMethod args0 :: below0 := rfl
set_option maxRecDepth 65536 in
theorem w_args : argsFit about1.vm theMethod args0 = true := by decide +kernel
set_option maxRecDepth 65536 in
theorem w_heap : heapFits about1 = true := by decide +kernel
set_option maxRecDepth 65536 in
theorem w_runnable : about1.curStatus? = some .runnable := by decide +kernel
set_option maxRecDepth 65536 in
theorem w_alone : about1.alone = true := by decide +kernel
set_option maxRecDepth 65536 in
theorem w_named : about1.methodNamed? x = some theMethod := by decide +kernel
set_option maxRecDepth 65536 in
theorem w_hears : about1.hears theMethod below0 = true := by decide +kernel
set_option maxRecDepth 65536 in
theorem w_ripe : about1.ripe theMethod args0 below0 = true := by decide +kernel
theorem w_running : about1.status = .running := rfl
set_option maxRecDepth 65536 in
theorem w_room : about1.hasRoom e0.platform room_1 = true :=
  launch0.hasRoom_least _ room_1 (by decide +kernel) (by decide +kernel) (by decide +kernel) (by decide +kernel) (by decide +kernel) (by decide +kernel)
theorem allAtoms_all (ts : List Jvm.Cond) (a : Array Jvm.Value) (st : Jvm.State) : (allAtoms ts).before a st = ts.all (fun c => c.before a st) := by
  induction ts with
  | nil => rfl
  | cons c t ih =>
    show (Jvm.Cond.and c (allAtoms t)).before a st = _
    rw [Jvm.Cond.before_and, ih, List.all_cons]
def words1 : List Jvm.Cond := Jvm.Cond.code x code maxLocals ret :: tables_1
/-- a 'code' word, met by the world's own term for the bytes: nothing is compared byte by byte -/
theorem code_word {y : MethodName} {bytes : ByteArray} {mx : Nat} {rt : Option FieldType} {a : Array Value} {s : State} {m : MethodId} {meth : Method} {c : Code} (h1 : s.methodNamed? y = some m) (h2 : s.vm.method? m = some meth) (h3 : meth.code = some c) (h4 : c.code = bytes)
    (h5 : (c.maxLocals == mx && c.exceptionTable.isEmpty && decide (c.maxStack ≤ mostOperands) && decide (meth.sig.returnType = rt) && !meth.locks && decide (parseMethodDescriptor y.desc = some meth.sig)) = true) : (Jvm.Cond.code y bytes mx rt).before a s = true := by
  simp only [Bool.and_eq_true, beq_iff_eq, Bool.not_eq_true', decide_eq_true_eq] at h5
  obtain ⟨⟨⟨⟨⟨g1, g2⟩, g3⟩, g4⟩, g5⟩, g6⟩ := h5
  simp [Cond.before, Cond.holds, Cond.value, h1, h2, h3, h4, g1, g2, g3, g4, g5, g6]
def isCode : Jvm.Cond → Bool
  | .code _ _ _ _ => true
  | _ => false
theorem all_split {L : List Jvm.Cond} {P : Jvm.Cond → Bool} (h1 : L.all (fun c => isCode c || P c) = true) (h2 : ∀ c ∈ L.filter isCode, P c = true) : L.all P = true := by
  refine List.all_eq_true.mpr fun c hc => ?_
  have h := List.all_eq_true.mp h1 c hc
  rcases Bool.eq_false_or_eq_true (isCode c) with hi | hi
  · exact h2 c (List.mem_filter.mpr ⟨hc, hi⟩)
  · simpa [hi] using h
set_option maxRecDepth 65536 in
theorem w_c0 : (Jvm.Cond.code x code maxLocals ret).before args0 about1 = true := code_word (m := ⟨1, 4⟩) (meth := k1m4) (c := k1c4) (by decide +kernel) rfl rfl rfl (by decide +kernel)
set_option maxRecDepth 65536 in
theorem w_c1 : (Jvm.Cond.code ({ cls := "com/example/rackline/rackline/metrics/RequestHeadEndPinLaw", name := "pick", desc := "(JI)B" } : Jvm.MethodName) method_2_code (6 : Nat) (Option.some Jvm.ClassFile.FieldType.byte)).before args0 about1 = true := code_word (m := ⟨1, 1⟩) (meth := k1m1) (c := k1c1) (by decide +kernel) rfl rfl rfl (by decide +kernel)
set_option maxRecDepth 65536 in
theorem w_c2 : (Jvm.Cond.code ({ cls := "com/example/rackline/rackline/metrics/RequestHeadEndPinLaw", name := "brk", desc := "(B)Z" } : Jvm.MethodName) method_3_code (1 : Nat) (Option.some Jvm.ClassFile.FieldType.boolean)).before args0 about1 = true := code_word (m := ⟨1, 2⟩) (meth := k1m2) (c := k1c2) (by decide +kernel) rfl rfl rfl (by decide +kernel)
set_option maxRecDepth 65536 in
theorem w_c3 : (Jvm.Cond.code ({ cls := "com/example/rackline/rackline/metrics/RequestHeadEndPinLaw", name := "endsAt", desc := "([BIII)Z" } : Jvm.MethodName) method_4_code (4 : Nat) (Option.some Jvm.ClassFile.FieldType.boolean)).before args0 about1 = true := code_word (m := ⟨1, 3⟩) (meth := k1m3) (c := k1c3) (by decide +kernel) rfl rfl rfl (by decide +kernel)
set_option maxRecDepth 65536 in
theorem w_c4 : (Jvm.Cond.code ({ cls := "com/example/rackline/rackline/metrics/RequestHead", name := "end", desc := "([BI)I" } : Jvm.MethodName) prog_170_method_2_code (6 : Nat) (Option.some Jvm.ClassFile.FieldType.int)).before args0 about1 = true := code_word (m := ⟨3, 0⟩) (meth := k3m0) (c := k3c0) (by decide +kernel) rfl rfl rfl (by decide +kernel)
def codes1 : List Jvm.Cond := [Jvm.Cond.code x code maxLocals ret, Jvm.Cond.code ({ cls := "com/example/rackline/rackline/metrics/RequestHeadEndPinLaw", name := "pick", desc := "(JI)B" } : Jvm.MethodName) method_2_code (6 : Nat) (Option.some Jvm.ClassFile.FieldType.byte), Jvm.Cond.code ({ cls := "com/example/rackline/rackline/metrics/RequestHeadEndPinLaw", name := "brk", desc := "(B)Z" } : Jvm.MethodName) method_3_code (1 : Nat) (Option.some Jvm.ClassFile.FieldType.boolean), Jvm.Cond.code ({ cls := "com/example/rackline/rackline/metrics/RequestHeadEndPinLaw", name := "endsAt", desc := "([BIII)Z" } : Jvm.MethodName) method_4_code (4 : Nat) (Option.some Jvm.ClassFile.FieldType.boolean), Jvm.Cond.code ({ cls := "com/example/rackline/rackline/metrics/RequestHead", name := "end", desc := "([BI)I" } : Jvm.MethodName) prog_170_method_2_code (6 : Nat) (Option.some Jvm.ClassFile.FieldType.int)]
set_option maxRecDepth 65536 in
theorem codes_eq : words1.filter isCode = codes1 := rfl
theorem w_codes : ∀ c ∈ words1.filter isCode, c.before args0 about1 = true := by
  rw [codes_eq]
  intro c hc
  simp only [codes1, List.mem_cons, List.not_mem_nil, or_false] at hc
  rcases hc with rfl | rfl | rfl | rfl | rfl
  · exact w_c0
  · exact w_c1
  · exact w_c2
  · exact w_c3
  · exact w_c4
set_option maxRecDepth 65536 in
theorem w_t1 : words1.all (fun c => isCode c || c.before args0 about1) = true := by decide +kernel
theorem w_tables : (allAtoms (Jvm.Cond.code x code maxLocals ret :: tables_1)).before args0 about1 = true := by
  rw [allAtoms_all]
  show words1.all (fun c => c.before args0 about1) = true
  refine all_split ?_ w_codes
  rw [w_t1]
set_option maxRecDepth 65536 in
theorem w_case : (Jvm.Cond.and given_1 narrow_1).before args0 about1 = true := by decide +kernel
theorem w_applies : (headSpec (Jvm.Cond.code x code maxLocals ret :: tables_1) room_1).applies x e0.platform about1 = true :=
  (Spec.applies_iff w_frames).mpr ⟨w_running, w_runnable, w_alone, w_named, w_hears, w_ripe, w_room, w_tables⟩
theorem atStart : AtStart classFile x code maxLocals ret World_1 tables_1 room_1 Calls_1 rest_1 Pre_1 launch0 p0 e0 about1 theMethod args0 below0 :=
  ⟨lists_1, trivial, launch0.admits_env _ _ _, launch0.least_env, fairChoices_fair.cas, fairChoices_fair.clock, w_frames, w_args, w_heap, w_applies, trivial, trivial, w_case⟩
end start1
theorem witness_1 : WitnessClaimed_1 := ⟨start1.p0, start1.e0, start1.about1, start1.theMethod, start1.args0, start1.below0, start1.atStart⟩
end Jvm.Pilot.@@N@@
