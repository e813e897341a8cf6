import JvmDerived
import JvmDerived.Pilot.@@N@@Statement
import JvmDerived.Pilot.@@N@@Code
set_option linter.unusedVariables false
set_option linter.unusedSimpArgs false
namespace Jvm.Pilot.@@N@@
open Jvm Jvm.ClassFile Sem Op Lib Jvm.Free Jvm.Stand Jvm.LawKit Jvm.RoadKit Bundle Jvm.Pilot.@@N@@.Jvm.D
/-- what runs on to t from B runs on to t from A -/
def own_Rch (tb : Tables) (e : Env) (below : List Frame) (A B : State) : Prop := ∀ t, Steps tb e below B t → Steps tb e below A t
theorem own_lct1 {a b : Int64} (h : a < b) : ifCond.holds .lt (lcmpW a b) = true ∧ ifCond.holds .ge (lcmpW a b) = false := by
  have h1 : ¬ b < a := fun q => by rw [Int64.lt_iff_toInt_lt] at h q; omega
  have h2 : ¬ a = b := fun q => by subst q; exact h1 h
  simp only [lcmpW, gt_iff_lt, h1, h2, if_false]; exact ⟨rfl, rfl⟩
theorem own_lcf1 {a b : Int64} (h : ¬ a < b) : ifCond.holds .lt (lcmpW a b) = false ∧ ifCond.holds .ge (lcmpW a b) = true := by
  by_cases h1 : b < a
  · simp only [lcmpW, gt_iff_lt, h1, if_true]; exact ⟨rfl, rfl⟩
  · have h2 : a = b := by rw [Int64.lt_iff_toInt_lt] at h h1; exact Int64.toInt_inj.mp (by omega)
    simp only [lcmpW, gt_iff_lt, h1, h2, if_false, if_true]; subst h2; simp only [Int64.lt_irrefl, if_false]; exact ⟨rfl, rfl⟩
theorem own_lct2 {a b : Int64} (h : b < a) : ifCond.holds .gt (lcmpW a b) = true ∧ ifCond.holds .le (lcmpW a b) = false := by
  simp only [lcmpW, gt_iff_lt, h, if_true]; exact ⟨rfl, rfl⟩
theorem own_lcf2 {a b : Int64} (h : ¬ b < a) : ifCond.holds .gt (lcmpW a b) = false ∧ ifCond.holds .le (lcmpW a b) = true := by
  by_cases h2 : a = b
  · simp only [lcmpW, gt_iff_lt, h, if_pos h2, if_false]; exact ⟨rfl, rfl⟩
  · simp only [lcmpW, gt_iff_lt, h, if_neg h2, if_false]; exact ⟨rfl, rfl⟩
theorem own_lct3 {a b : Int64} (h : a = b) : ifCond.holds .eq (lcmpW a b) = true ∧ ifCond.holds .ne (lcmpW a b) = false := by
  have h1 : ¬ b < a := fun q => by subst h; exact absurd q (Int64.lt_irrefl)
  simp only [lcmpW, gt_iff_lt, h1, if_pos h, if_false]; exact ⟨rfl, rfl⟩
theorem own_lcf3 {a b : Int64} (h : ¬ a = b) : ifCond.holds .eq (lcmpW a b) = false ∧ ifCond.holds .ne (lcmpW a b) = true := by
  by_cases h1 : b < a
  · simp only [lcmpW, gt_iff_lt, h1, if_true]; exact ⟨rfl, rfl⟩
  · simp only [lcmpW, gt_iff_lt, h1, if_neg h, if_false]; exact ⟨rfl, rfl⟩
theorem own_remI (x y : Int32) : x - x / y * y = x % y := by
  apply Int32.toInt_inj.mp
  have l := Int32.toInt_lt (x % y)
  have g := Int32.le_toInt (x % y)
  rw [Int32.toInt_sub, Int32.toInt_mul, Int32.toInt_div]
  simp only [Int.sub_bmod_bmod, Int.bmod_mul_bmod]
  rw [Int.mul_comm, ← Int.tmod_def, ← Int32.toInt_mod, Int.bmod_eq_of_le] <;> omega
theorem own_remL (x y : Int64) : x - x / y * y = x % y := by
  apply Int64.toInt_inj.mp
  have l := Int64.toInt_lt (x % y)
  have g := Int64.le_toInt (x % y)
  rw [Int64.toInt_sub, Int64.toInt_mul, Int64.toInt_div]
  simp only [Int.sub_bmod_bmod, Int.bmod_mul_bmod]
  rw [Int.mul_comm, ← Int.tmod_def, ← Int64.toInt_mod, Int.bmod_eq_of_le] <;> omega
theorem d1_0 : decode prog_161_method_4_code 0 = .ok (.aload_n 0, 1) := by decide +kernel
theorem d1_1 : decode prog_161_method_4_code 1 = .ok (.getstatic 3, 3) := by decide +kernel
theorem d1_4 : decode prog_161_method_4_code 4 = .ok (.if_acmp .eq 17, 3) := by decide +kernel
theorem d1_7 : decode prog_161_method_4_code 7 = .ok (.aload_n 0, 1) := by decide +kernel
theorem d1_8 : decode prog_161_method_4_code 8 = .ok (.getstatic 7, 3) := by decide +kernel
theorem d1_11 : decode prog_161_method_4_code 11 = .ok (.if_acmp .eq 10, 3) := by decide +kernel
theorem d1_14 : decode prog_161_method_4_code 14 = .ok (.aload_n 0, 1) := by decide +kernel
theorem d1_15 : decode prog_161_method_4_code 15 = .ok (.getstatic 10, 3) := by decide +kernel
theorem d1_18 : decode prog_161_method_4_code 18 = .ok (.if_acmp .ne 7, 3) := by decide +kernel
theorem d1_21 : decode prog_161_method_4_code 21 = .ok (.iconst 1, 1) := by decide +kernel
theorem d1_22 : decode prog_161_method_4_code 22 = .ok (.goto 4, 3) := by decide +kernel
theorem d1_25 : decode prog_161_method_4_code 25 = .ok (.iconst 0, 1) := by decide +kernel
theorem d1_26 : decode prog_161_method_4_code 26 = .ok (.ireturn, 1) := by decide +kernel
def own_part (a : Addr) (x_NEXT : Addr) (x_NEXT_AFTER_TAIL : Addr) (x_FIRST : Addr) : Int32 := (if a = x_NEXT then (1 : Int32) else (if a = x_NEXT_AFTER_TAIL then (1 : Int32) else (if a = x_FIRST then (1 : Int32) else (0 : Int32))))
theorem pn_0 : plainName "com/example/rackline/rackline/log/SegmentChain$Place" = true := by first | (simp [plainName, overriddenIn]; done) | decide +kernel
theorem ef_1 (m : MethodId) (a : Addr) : entryFrame m #[(.ref a)] 1 = mkF m 0 #[.val (.ref a)] [] := by first | (simp [entryFrame, mkF, argsToLocals, Value.category]; done) | rfl
def Q1 (Z : State) (a : Addr) (x_NEXT : Addr) (x_NEXT_AFTER_TAIL : Addr) (x_FIRST : Addr) (h0 : Heap) (n0 : Nat) (v : Option Value) (h : Heap) (L : List Loc) : Prop := v = some (.int (own_part a x_NEXT x_NEXT_AFTER_TAIL x_FIRST)) ∧ Fr n0 L ∧ h = h0
set_option maxRecDepth 65536 in
set_option maxHeartbeats 40000000 in
theorem rm1 (l : Launch) (Z : State) (a0 : Array Value) (hw : ∀ d ∈ tables_1, d.before a0 Z = true) (ws : List Jvm.Cond) (a : Addr) (x_NEXT : Addr) (x_NEXT_AFTER_TAIL : Addr) (x_FIRST : Addr) (h0 : Heap) (n0 : Nat) (Z0 : n0 ≤ h0.size) (S_NEXT : Sta Z h0 "com/example/rackline/rackline/log/SegmentChain$Place" "NEXT" "Lcom/example/rackline/rackline/log/SegmentChain$Place;" (.ref x_NEXT)) (S_NEXT_AFTER_TAIL : Sta Z h0 "com/example/rackline/rackline/log/SegmentChain$Place" "NEXT_AFTER_TAIL" "Lcom/example/rackline/rackline/log/SegmentChain$Place;" (.ref x_NEXT_AFTER_TAIL)) (S_FIRST : Sta Z h0 "com/example/rackline/rackline/log/SegmentChain$Place" "FIRST" "Lcom/example/rackline/rackline/log/SegmentChain$Place;" (.ref x_FIRST)) :
    MetFree l (⟨"com/example/rackline/rackline/log/SegmentChain$Place", "partOfLog", "()Z"⟩ : MethodName) (head1 (Jvm.Cond.code (⟨"com/example/rackline/rackline/log/SegmentChain$Place", "partOfLog", "()Z"⟩ : MethodName) prog_161_method_4_code 1 (some .boolean) :: ws) ({ frames := 0, cells := 0, slots := 0, locals := 0 } : Room)) (fun a' U => a' = #[(.ref a)] ∧ Z.Warmed39 U.vm ∧ U.heap = h0) (fun _ _ _ _ _ => True) (fun _ U o U' => ∃ v L, o = .returned v ∧ Q1 Z a x_NEXT x_NEXT_AFTER_TAIL x_FIRST h0 n0 v U'.heap L ∧ FrameEnd U o U' L ({ frames := 0, cells := 0, slots := 0, locals := 0 } : Room).cells ({ frames := 0, cells := 0, slots := 0, locals := 0 } : Room).slots) := by
  refine MetFree.of_bodySF (plainFor_of_name pn_0) hisR ?_
  intro p e s m args' below meth c s₁ Bd hml0 hP hK
  obtain ⟨hargs, hZ, hh⟩ := hP
  have hx := Bd.exec
  have hby := Bd.bytes
  have hml : c.maxLocals = 1 := hml0
  have hown : s.vm.findClass "com/example/rackline/rackline/log/SegmentChain$Place" = some m.cls := findClass_of_methodNamed Bd.named
  have hnm := (name_of_methodNamed Bd.named Bd.method).1
  have X0 : Stand p l e ({ frames := 0, cells := 0, slots := 0, locals := 0 } : Room) s m args' below meth c s₁ [] 0 0 := Stand.of_body Bd
  have e0 : s₁.heap = h0 := by rw [← hh, Bd.state]; rfl
  have N0 := Fr.nil n0
  obtain ⟨A0, hA0⟩ : ∃ A, A = s₁.setTop (mkF m 0 #[.val (.ref a)] []) := ⟨_, rfl⟩
  have P0 : own_Rch p.tables e below A0 (s₁.setTop (mkF m 0 #[.val (.ref a)] [])) := fun t k => hA0 ▸ k
  have P00 : own_Rch p.tables e below (s₁.setTop (entryFrame m args' 1)) A0 := fun t k => by rw [hargs]; exact castTop (ef_1 m a) (hA0 ▸ k)
  have P1 : own_Rch p.tables e below A0 (s₁.setTop (mkF m 1 #[.val (.ref a)] [(.ref a)])) := fun t k => P0 t (by
    show Steps p.tables e below (s₁.setTop (mkF m 0 #[.val (.ref a)] [])) _
    refine XS.aloadN X0.here hx rfl (hb hby d1_0) rfl rfl ?_
    exact k)
  obtain ⟨T2, X2, e2, st2⟩ := getS2 X0 hx hZ hown (host := "") (Or.inl (hw _ (List.mem_of_getElem? (i := 9) rfl))) Via.refl e0 S_NEXT (g := (mkF m 1 #[.val (.ref a)] [(.ref a)])) rfl (hb hby d1_1)
  have P3 : own_Rch p.tables e below A0 (T2.setTop (mkF m 4 #[.val (.ref a)] [(.ref x_NEXT), (.ref a)])) := fun t k => P1 t (st2 t k)
  by_cases hc4 : a = x_NEXT
  · -- a = x_NEXT
    have P5 : own_Rch p.tables e below A0 (T2.setTop (mkF m 26 #[.val (.ref a)] [(.int (1 : Int32))])) := fun t k => P3 t (by
      show Steps p.tables e below (T2.setTop (mkF m 4 #[.val (.ref a)] [(.ref x_NEXT), (.ref a)])) _
      refine Jvm.RoadKit.acmp (g := (mkF m 4 #[.val (.ref a)] [(.ref x_NEXT), (.ref a)])) X2 hx rfl rfl rfl (pc0 := 4) (pc' := 21) (same := true) rfl (hb hby d1_4) rfl (decide_eq_true (congrArg Value.ref hc4)) (by decide) (by decide) ?_
      show Steps p.tables e below (T2.setTop (mkF m 21 #[.val (.ref a)] [])) _
      refine XS.iconst X2.here hx rfl (hb hby d1_21) ?_
      show Steps p.tables e below (T2.setTop (mkF m 22 #[.val (.ref a)] [(.int (1 : Int32))])) _
      refine XS.goto X2.here hx rfl (pc0 := 22) (pc' := 26) rfl (hb hby d1_22) (by decide) (by decide) ?_
      exact k)
    obtain ⟨fs, hr, hrun, hended, hW, hsame⟩ := X2.leave (v := some (.int (nar .boolean (1 : Int32)))) (fun h => by rw [Bd.returns] at h; cases h)
    refine ⟨_, _, P00 _ (P5 _ ?_), hrun, hended, _, _, rfl, ?_, ⟨_, rfl⟩, hW, hsame.mono (by decide) (by decide)⟩
    · exact retN X2 hx (t := .boolean) Bd.returns (by simp) (hb hby d1_26) hr
    · show Q1 Z a x_NEXT x_NEXT_AFTER_TAIL x_FIRST h0 n0 _ T2.heap _
      rw [e2]
      refine ⟨?_, N0, rfl⟩
      skip
      (try simp only [own_part, if_pos hc4])
      (try rfl)
  · -- not a = x_NEXT
    have P6 : own_Rch p.tables e below A0 (T2.setTop (mkF m 8 #[.val (.ref a)] [(.ref a)])) := fun t k => P3 t (by
      show Steps p.tables e below (T2.setTop (mkF m 4 #[.val (.ref a)] [(.ref x_NEXT), (.ref a)])) _
      refine Jvm.RoadKit.acmp (g := (mkF m 4 #[.val (.ref a)] [(.ref x_NEXT), (.ref a)])) X2 hx rfl rfl rfl (pc0 := 4) (pc' := 7) (same := false) rfl (hb hby d1_4) rfl (decide_eq_false fun q => hc4 (Value.ref.inj q)) (by decide) (by decide) ?_
      show Steps p.tables e below (T2.setTop (mkF m 7 #[.val (.ref a)] [])) _
      refine XS.aloadN X2.here hx rfl (hb hby d1_7) rfl rfl ?_
      exact k)
    obtain ⟨T7, X7, e7, st7⟩ := getS2 X2 hx hZ hown (host := "") (Or.inl (hw _ (List.mem_of_getElem? (i := 12) rfl))) Via.refl e2 S_NEXT_AFTER_TAIL (g := (mkF m 8 #[.val (.ref a)] [(.ref a)])) rfl (hb hby d1_8)
    have P8 : own_Rch p.tables e below A0 (T7.setTop (mkF m 11 #[.val (.ref a)] [(.ref x_NEXT_AFTER_TAIL), (.ref a)])) := fun t k => P6 t (st7 t k)
    by_cases hc9 : a = x_NEXT_AFTER_TAIL
    · -- a = x_NEXT_AFTER_TAIL
      have P10 : own_Rch p.tables e below A0 (T7.setTop (mkF m 26 #[.val (.ref a)] [(.int (1 : Int32))])) := fun t k => P8 t (by
        show Steps p.tables e below (T7.setTop (mkF m 11 #[.val (.ref a)] [(.ref x_NEXT_AFTER_TAIL), (.ref a)])) _
        refine Jvm.RoadKit.acmp (g := (mkF m 11 #[.val (.ref a)] [(.ref x_NEXT_AFTER_TAIL), (.ref a)])) X7 hx rfl rfl rfl (pc0 := 11) (pc' := 21) (same := true) rfl (hb hby d1_11) rfl (decide_eq_true (congrArg Value.ref hc9)) (by decide) (by decide) ?_
        show Steps p.tables e below (T7.setTop (mkF m 21 #[.val (.ref a)] [])) _
        refine XS.iconst X7.here hx rfl (hb hby d1_21) ?_
        show Steps p.tables e below (T7.setTop (mkF m 22 #[.val (.ref a)] [(.int (1 : Int32))])) _
        refine XS.goto X7.here hx rfl (pc0 := 22) (pc' := 26) rfl (hb hby d1_22) (by decide) (by decide) ?_
        exact k)
      obtain ⟨fs, hr, hrun, hended, hW, hsame⟩ := X7.leave (v := some (.int (nar .boolean (1 : Int32)))) (fun h => by rw [Bd.returns] at h; cases h)
      refine ⟨_, _, P00 _ (P10 _ ?_), hrun, hended, _, _, rfl, ?_, ⟨_, rfl⟩, hW, hsame.mono (by decide) (by decide)⟩
      · exact retN X7 hx (t := .boolean) Bd.returns (by simp) (hb hby d1_26) hr
      · show Q1 Z a x_NEXT x_NEXT_AFTER_TAIL x_FIRST h0 n0 _ T7.heap _
        rw [e7]
        refine ⟨?_, N0, rfl⟩
        skip
        (try simp only [own_part, if_neg hc4, if_pos hc9])
        (try rfl)
    · -- not a = x_NEXT_AFTER_TAIL
      have P11 : own_Rch p.tables e below A0 (T7.setTop (mkF m 15 #[.val (.ref a)] [(.ref a)])) := fun t k => P8 t (by
        show Steps p.tables e below (T7.setTop (mkF m 11 #[.val (.ref a)] [(.ref x_NEXT_AFTER_TAIL), (.ref a)])) _
        refine Jvm.RoadKit.acmp (g := (mkF m 11 #[.val (.ref a)] [(.ref x_NEXT_AFTER_TAIL), (.ref a)])) X7 hx rfl rfl rfl (pc0 := 11) (pc' := 14) (same := false) rfl (hb hby d1_11) rfl (decide_eq_false fun q => hc9 (Value.ref.inj q)) (by decide) (by decide) ?_
        show Steps p.tables e below (T7.setTop (mkF m 14 #[.val (.ref a)] [])) _
        refine XS.aloadN X7.here hx rfl (hb hby d1_14) rfl rfl ?_
        exact k)
      obtain ⟨T12, X12, e12, st12⟩ := getS2 X7 hx hZ hown (host := "") (Or.inl (hw _ (List.mem_of_getElem? (i := 14) rfl))) Via.refl e7 S_FIRST (g := (mkF m 15 #[.val (.ref a)] [(.ref a)])) rfl (hb hby d1_15)
      have P13 : own_Rch p.tables e below A0 (T12.setTop (mkF m 18 #[.val (.ref a)] [(.ref x_FIRST), (.ref a)])) := fun t k => P11 t (st12 t k)
      by_cases hc14 : a = x_FIRST
      · -- a = x_FIRST
        have P15 : own_Rch p.tables e below A0 (T12.setTop (mkF m 26 #[.val (.ref a)] [(.int (1 : Int32))])) := fun t k => P13 t (by
          show Steps p.tables e below (T12.setTop (mkF m 18 #[.val (.ref a)] [(.ref x_FIRST), (.ref a)])) _
          refine Jvm.RoadKit.acmp (g := (mkF m 18 #[.val (.ref a)] [(.ref x_FIRST), (.ref a)])) X12 hx rfl rfl rfl (pc0 := 18) (pc' := 21) (same := true) rfl (hb hby d1_18) rfl (decide_eq_true (congrArg Value.ref hc14)) (by decide) (by decide) ?_
          show Steps p.tables e below (T12.setTop (mkF m 21 #[.val (.ref a)] [])) _
          refine XS.iconst X12.here hx rfl (hb hby d1_21) ?_
          show Steps p.tables e below (T12.setTop (mkF m 22 #[.val (.ref a)] [(.int (1 : Int32))])) _
          refine XS.goto X12.here hx rfl (pc0 := 22) (pc' := 26) rfl (hb hby d1_22) (by decide) (by decide) ?_
          exact k)
        obtain ⟨fs, hr, hrun, hended, hW, hsame⟩ := X12.leave (v := some (.int (nar .boolean (1 : Int32)))) (fun h => by rw [Bd.returns] at h; cases h)
        refine ⟨_, _, P00 _ (P15 _ ?_), hrun, hended, _, _, rfl, ?_, ⟨_, rfl⟩, hW, hsame.mono (by decide) (by decide)⟩
        · exact retN X12 hx (t := .boolean) Bd.returns (by simp) (hb hby d1_26) hr
        · show Q1 Z a x_NEXT x_NEXT_AFTER_TAIL x_FIRST h0 n0 _ T12.heap _
          rw [e12]
          refine ⟨?_, N0, rfl⟩
          skip
          (try simp only [own_part, if_neg hc4, if_neg hc9, if_pos hc14])
          (try rfl)
      · -- not a = x_FIRST
        have P16 : own_Rch p.tables e below A0 (T12.setTop (mkF m 26 #[.val (.ref a)] [(.int (0 : Int32))])) := fun t k => P13 t (by
          show Steps p.tables e below (T12.setTop (mkF m 18 #[.val (.ref a)] [(.ref x_FIRST), (.ref a)])) _
          refine Jvm.RoadKit.acmp (g := (mkF m 18 #[.val (.ref a)] [(.ref x_FIRST), (.ref a)])) X12 hx rfl rfl rfl (pc0 := 18) (pc' := 25) (same := false) rfl (hb hby d1_18) rfl (decide_eq_false fun q => hc14 (Value.ref.inj q)) (by decide) (by decide) ?_
          show Steps p.tables e below (T12.setTop (mkF m 25 #[.val (.ref a)] [])) _
          refine XS.iconst X12.here hx rfl (hb hby d1_25) ?_
          exact k)
        obtain ⟨fs, hr, hrun, hended, hW, hsame⟩ := X12.leave (v := some (.int (nar .boolean (0 : Int32)))) (fun h => by rw [Bd.returns] at h; cases h)
        refine ⟨_, _, P00 _ (P16 _ ?_), hrun, hended, _, _, rfl, ?_, ⟨_, rfl⟩, hW, hsame.mono (by decide) (by decide)⟩
        · exact retN X12 hx (t := .boolean) Bd.returns (by simp) (hb hby d1_26) hr
        · show Q1 Z a x_NEXT x_NEXT_AFTER_TAIL x_FIRST h0 n0 _ T12.heap _
          rw [e12]
          refine ⟨?_, N0, rfl⟩
          skip
          (try simp only [own_part, if_neg hc4, if_neg hc9, if_neg hc14])
          (try rfl)
theorem pd_0 : parseMethodDescriptor "()Z" = some ⟨[], some .boolean⟩ := by decide +kernel
theorem pn_1 : plainName "com/example/rackline/rackline/log/PlacePartOfLogPinLaw" = true := by first | (simp [plainName, overriddenIn]; done) | decide +kernel
theorem ef_0 (m : MethodId) (i0 : Int32) : entryFrame m #[(.int i0)] maxLocals = mkF m 0 #[.val (.int i0), .unset, .unset, .unset] [] := by first | (simp [entryFrame, mkF, argsToLocals, Value.category, maxLocals]; done) | rfl
def Q0 (Z : State) (i0 : Int32) (x_NEXT : Addr) (x_NEXT_AFTER_TAIL : Addr) (x_FIRST : Addr) (x_INSIDE : Addr) (x_GAP : Addr) (x_PAST_END : Addr) (h0 : Heap) (n0 : Nat) (v : Option Value) (h : Heap) (L : List Loc) : Prop := v = some (.int 1) ∧ Fr n0 L
set_option maxRecDepth 65536 in
set_option maxHeartbeats 40000000 in
theorem rm0 (l : Launch) (Z : State) (a0 : Array Value) (hw : ∀ d ∈ tables_1, d.before a0 Z = true) (ws : List Jvm.Cond) (i0 : Int32) (x_NEXT : Addr) (x_NEXT_AFTER_TAIL : Addr) (x_FIRST : Addr) (x_INSIDE : Addr) (x_GAP : Addr) (x_PAST_END : Addr) (h0 : Heap) (n0 : Nat) (Z0 : n0 ≤ h0.size) (S_NEXT : Sta Z h0 "com/example/rackline/rackline/log/SegmentChain$Place" "NEXT" "Lcom/example/rackline/rackline/log/SegmentChain$Place;" (.ref x_NEXT)) (S_NEXT_AFTER_TAIL : Sta Z h0 "com/example/rackline/rackline/log/SegmentChain$Place" "NEXT_AFTER_TAIL" "Lcom/example/rackline/rackline/log/SegmentChain$Place;" (.ref x_NEXT_AFTER_TAIL)) (S_FIRST : Sta Z h0 "com/example/rackline/rackline/log/SegmentChain$Place" "FIRST" "Lcom/example/rackline/rackline/log/SegmentChain$Place;" (.ref x_FIRST)) (S_INSIDE : Sta Z h0 "com/example/rackline/rackline/log/SegmentChain$Place" "INSIDE" "Lcom/example/rackline/rackline/log/SegmentChain$Place;" (.ref x_INSIDE)) (S_GAP : Sta Z h0 "com/example/rackline/rackline/log/SegmentChain$Place" "GAP" "Lcom/example/rackline/rackline/log/SegmentChain$Place;" (.ref x_GAP)) (S_PAST_END : Sta Z h0 "com/example/rackline/rackline/log/SegmentChain$Place" "PAST_END" "Lcom/example/rackline/rackline/log/SegmentChain$Place;" (.ref x_PAST_END)) (E_NEXT : Exa Z h0 x_NEXT "com/example/rackline/rackline/log/SegmentChain$Place") (E_NEXT_AFTER_TAIL : Exa Z h0 x_NEXT_AFTER_TAIL "com/example/rackline/rackline/log/SegmentChain$Place") (E_FIRST : Exa Z h0 x_FIRST "com/example/rackline/rackline/log/SegmentChain$Place") (E_INSIDE : Exa Z h0 x_INSIDE "com/example/rackline/rackline/log/SegmentChain$Place") (E_GAP : Exa Z h0 x_GAP "com/example/rackline/rackline/log/SegmentChain$Place") (E_PAST_END : Exa Z h0 x_PAST_END "com/example/rackline/rackline/log/SegmentChain$Place") (n_INSIDE_NEXT : x_INSIDE ≠ x_NEXT) (n_INSIDE_NEXT_AFTER_TAIL : x_INSIDE ≠ x_NEXT_AFTER_TAIL) (n_INSIDE_FIRST : x_INSIDE ≠ x_FIRST) (n_GAP_NEXT : x_GAP ≠ x_NEXT) (n_GAP_NEXT_AFTER_TAIL : x_GAP ≠ x_NEXT_AFTER_TAIL) (n_GAP_FIRST : x_GAP ≠ x_FIRST) (n_PAST_END_NEXT : x_PAST_END ≠ x_NEXT) (n_PAST_END_NEXT_AFTER_TAIL : x_PAST_END ≠ x_NEXT_AFTER_TAIL) (n_PAST_END_FIRST : x_PAST_END ≠ x_FIRST) :
    MetFree l x (head1 (Jvm.Cond.code x code maxLocals ret :: ws) room_1) (fun a' U => a' = #[(.int i0)] ∧ Z.Warmed39 U.vm ∧ U.heap = h0) (fun _ _ _ _ _ => True) (fun _ U o U' => ∃ v L, o = .returned v ∧ Q0 Z i0 x_NEXT x_NEXT_AFTER_TAIL x_FIRST x_INSIDE x_GAP x_PAST_END h0 n0 v U'.heap L ∧ FrameEnd U o U' L 0 0) := by
  refine MetFree.of_bodySF (plainFor_of_name pn_1) hisR ?_
  intro p e s m args' below meth c s₁ Bd hml0 hP hK
  obtain ⟨hargs, hZ, hh⟩ := hP
  have hx := Bd.exec
  have hby := Bd.bytes
  have hml : c.maxLocals = 4 := hml0
  have hown : s.vm.findClass "com/example/rackline/rackline/log/PlacePartOfLogPinLaw" = some m.cls := findClass_of_methodNamed Bd.named
  have hnm := (name_of_methodNamed Bd.named Bd.method).1
  have X0 : Stand p l e room_1 s m args' below meth c s₁ [] 0 0 := Stand.of_body Bd
  have e0 : s₁.heap = h0 := by rw [← hh, Bd.state]; rfl
  have N0 := Fr.nil n0
  obtain ⟨A0, hA0⟩ : ∃ A, A = s₁.setTop (mkF m 0 #[.val (.int i0), .unset, .unset, .unset] []) := ⟨_, rfl⟩
  have P0 : own_Rch p.tables e below A0 (s₁.setTop (mkF m 0 #[.val (.int i0), .unset, .unset, .unset] [])) := fun t k => hA0 ▸ k
  have P00 : own_Rch p.tables e below (s₁.setTop (entryFrame m args' maxLocals)) A0 := fun t k => by rw [hargs]; exact castTop (ef_0 m i0) (hA0 ▸ k)
  have P1 : own_Rch p.tables e below A0 (s₁.setTop (mkF m 8 #[.val (.int i0), .val (.int ((i0 &&& (2147483647 : Int32)) - (i0 &&& (2147483647 : Int32)) / (6 : Int32) * (6 : Int32))), .unset, .unset] [])) := fun t k => P0 t (by
    show Steps p.tables e below (s₁.setTop (mkF m 0 #[.val (.int i0), .unset, .unset, .unset] [])) _
    refine XS.iloadN X0.here hx rfl (hb hby at_0) rfl ?_
    show Steps p.tables e below (s₁.setTop (mkF m 1 #[.val (.int i0), .unset, .unset, .unset] [(.int i0)])) _
    refine X0.ldcInt hx hown (mvT hZ (hw _ (List.mem_of_getElem? (i := 0) rfl))) (g := (mkF m 1 #[.val (.int i0), .unset, .unset, .unset] [(.int i0)])) rfl (hb hby at_1) _ ?_
    show Steps p.tables e below (s₁.setTop (mkF m 3 #[.val (.int i0), .unset, .unset, .unset] [(.int (2147483647 : Int32)), (.int i0)])) _
    refine XS.iand X0.here hx rfl (hb hby at_3) rfl ?_
    show Steps p.tables e below (s₁.setTop (mkF m 4 #[.val (.int i0), .unset, .unset, .unset] [(.int (i0 &&& (2147483647 : Int32)))])) _
    refine XS.bipush X0.here hx rfl (hb hby at_4) ?_
    show Steps p.tables e below (s₁.setTop (mkF m 6 #[.val (.int i0), .unset, .unset, .unset] [(.int (6 : Int32)), (.int (i0 &&& (2147483647 : Int32)))])) _
    refine XS.irem X0.here hx rfl (hb hby at_6) rfl (by decide) ?_
    show Steps p.tables e below (s₁.setTop (mkF m 7 #[.val (.int i0), .unset, .unset, .unset] [(.int ((i0 &&& (2147483647 : Int32)) - (i0 &&& (2147483647 : Int32)) / (6 : Int32) * (6 : Int32)))])) _
    refine XS.istoreN X0.here hx rfl (hb hby at_7) rfl (l' := #[.val (.int i0), .val (.int ((i0 &&& (2147483647 : Int32)) - (i0 &&& (2147483647 : Int32)) / (6 : Int32) * (6 : Int32))), .unset, .unset]) rfl ?_
    exact k)
  obtain ⟨v2, hv2, P3⟩ : ∃ z : Int32, z = ((i0 &&& (2147483647 : Int32)) - (i0 &&& (2147483647 : Int32)) / (6 : Int32) * (6 : Int32)) ∧ own_Rch p.tables e below A0 (s₁.setTop (mkF m 8 #[.val (.int i0), .val (.int z), .unset, .unset] [])) := ⟨_, rfl, P1⟩
  have P5 : own_Rch p.tables e below A0 (s₁.setTop (mkF m 9 #[.val (.int i0), .val (.int v2), .unset, .unset] [(.int v2)])) := fun t k => P3 t (by
    show Steps p.tables e below (s₁.setTop (mkF m 8 #[.val (.int i0), .val (.int v2), .unset, .unset] [])) _
    refine XS.iloadN X0.here hx rfl (hb hby at_8) rfl ?_
    exact k)
  by_cases hc4 : v2 = (0 : Int32)
  · -- v2 = (0 : Int32)
    have P6 : own_Rch p.tables e below A0 (s₁.setTop (mkF m 12 #[.val (.int i0), .val (.int v2), .unset, .unset] [])) := fun t k => P5 t (by
      show Steps p.tables e below (s₁.setTop (mkF m 9 #[.val (.int i0), .val (.int v2), .unset, .unset] [(.int v2)])) _
      refine XS.ifNo X0.here hx rfl (hb hby at_9) rfl ((if0 _ _).trans (teq hc4).2) ?_
      exact k)
    obtain ⟨T7, X7, e7, st7⟩ := getS2 X0 hx hZ hown (host := "") (Or.inl (hw _ (List.mem_of_getElem? (i := 1) rfl))) Via.refl e0 S_NEXT (g := (mkF m 12 #[.val (.int i0), .val (.int v2), .unset, .unset] [])) rfl (hb hby at_12)
    have P8 : own_Rch p.tables e below A0 (T7.setTop (mkF m 15 #[.val (.int i0), .val (.int v2), .unset, .unset] [(.ref x_NEXT)])) := fun t k => P6 t (st7 t k)
    have P9 : own_Rch p.tables e below A0 (T7.setTop (mkF m 84 #[.val (.int i0), .val (.int v2), .val (.ref x_NEXT), .val (.int (1 : Int32))] [(.ref x_NEXT)])) := fun t k => P8 t (by
      show Steps p.tables e below (T7.setTop (mkF m 15 #[.val (.int i0), .val (.int v2), .unset, .unset] [(.ref x_NEXT)])) _
      refine XS.astoreN X7.here hx rfl (hb hby at_15) rfl rfl (l' := #[.val (.int i0), .val (.int v2), .val (.ref x_NEXT), .unset]) rfl ?_
      show Steps p.tables e below (T7.setTop (mkF m 16 #[.val (.int i0), .val (.int v2), .val (.ref x_NEXT), .unset] [])) _
      refine XS.iconst X7.here hx rfl (hb hby at_16) ?_
      show Steps p.tables e below (T7.setTop (mkF m 17 #[.val (.int i0), .val (.int v2), .val (.ref x_NEXT), .unset] [(.int (1 : Int32))])) _
      refine XS.istoreN X7.here hx rfl (hb hby at_17) rfl (l' := #[.val (.int i0), .val (.int v2), .val (.ref x_NEXT), .val (.int (1 : Int32))]) rfl ?_
      show Steps p.tables e below (T7.setTop (mkF m 18 #[.val (.int i0), .val (.int v2), .val (.ref x_NEXT), .val (.int (1 : Int32))] [])) _
      refine XS.goto X7.here hx rfl (pc0 := 18) (pc' := 83) rfl (hb hby at_18) (by decide) (by decide) ?_
      show Steps p.tables e below (T7.setTop (mkF m 83 #[.val (.int i0), .val (.int v2), .val (.ref x_NEXT), .val (.int (1 : Int32))] [])) _
      refine XS.aloadN X7.here hx rfl (hb hby at_83) rfl rfl ?_
      exact k)
    obtain ⟨cq10, kq10, q10a, q10b, q10c⟩ := isOf hZ e7 E_NEXT
    obtain ⟨_, _, ⟨T10, L10, k10, n10⟩, -, X10, ⟨Lc10, hQ10, l10, y10, z10⟩, st10⟩ := X7.virtualBack hx (y := (⟨"com/example/rackline/rackline/log/SegmentChain$Place", "partOfLog", "()Z"⟩ : MethodName)) (z := (⟨"com/example/rackline/rackline/log/SegmentChain$Place", "partOfLog", "()Z"⟩ : MethodName)) hown (mvT hZ (hw _ (List.mem_of_getElem? (i := 4) rfl))) (mvT hZ (hw _ (List.mem_of_getElem? (i := 5) rfl))) (notFace_of_selects (args := #[]) (mvT hZ (hw _ (List.mem_of_getElem? (i := 7) rfl)))) (mvT hZ (hw _ (List.mem_of_getElem? (i := 7) rfl))) (mvT hZ (hw _ (List.mem_of_getElem? (i := 6) rfl))) (by decide) (backOf (W := 0) (rm1 l Z a0 hw [] x_NEXT x_NEXT x_NEXT_AFTER_TAIL x_FIRST h0 n0 Z0 S_NEXT S_NEXT_AFTER_TAIL S_FIRST) hZ (hw _ (List.mem_of_getElem? (i := 8) rfl)) (hw _ (List.mem_of_getElem? (i := 2) rfl)) (by decide) (by decide)) q10a q10c (g := (mkF m 84 #[.val (.int i0), .val (.int v2), .val (.ref x_NEXT), .val (.int (1 : Int32))] [(.ref x_NEXT)])) rfl (by rw [hml]; rfl) (Steps.refl _) (argsL := []) (rest := []) (lenOf pd_0 rfl) rfl (by show 2 * 0 + _ ≤ _; exact Nat.le_of_eq rfl) (hb hby at_84) (fun _ _ => ⟨rfl, e7, (by decide : (0) + 0 ≤ _), (by decide : (0) + 0 ≤ _)⟩)
    dsimp only [Pt.U, Pt.locs, Pt.cells, Pt.slots] at X10 l10 y10 z10 st10 hQ10
    subst l10 y10 z10
    obtain ⟨rfl, N10q, e10⟩ := hQ10
    have N10 := Fr.app N0 N10q
    have P11 : own_Rch p.tables e below A0 (T10.setTop (mkF m 87 #[.val (.int i0), .val (.int v2), .val (.ref x_NEXT), .val (.int (1 : Int32))] [(.int (own_part x_NEXT x_NEXT x_NEXT_AFTER_TAIL x_FIRST))])) := fun t k => P9 t (st10.trans k)
    have P13 : own_Rch p.tables e below A0 (T10.setTop (mkF m 88 #[.val (.int i0), .val (.int v2), .val (.ref x_NEXT), .val (.int (1 : Int32))] [(.int (1 : Int32)), (.int (own_part x_NEXT x_NEXT x_NEXT_AFTER_TAIL x_FIRST))])) := fun t k => P11 t (by
      show Steps p.tables e below (T10.setTop (mkF m 87 #[.val (.int i0), .val (.int v2), .val (.ref x_NEXT), .val (.int (1 : Int32))] [(.int (own_part x_NEXT x_NEXT x_NEXT_AFTER_TAIL x_FIRST))])) _
      refine XS.iloadN X10.here hx rfl (hb hby at_87) rfl ?_
      exact k)
    by_cases hc12 : (own_part x_NEXT x_NEXT x_NEXT_AFTER_TAIL x_FIRST) = (1 : Int32)
    · -- (own_part x_NEXT x_NEXT x_NEXT_AFTER_TAIL x_FIRST) = (1 : Int32)
      have P14 : own_Rch p.tables e below A0 (T10.setTop (mkF m 96 #[.val (.int i0), .val (.int v2), .val (.ref x_NEXT), .val (.int (1 : Int32))] [(.int (1 : Int32))])) := fun t k => P13 t (by
        show Steps p.tables e below (T10.setTop (mkF m 88 #[.val (.int i0), .val (.int v2), .val (.ref x_NEXT), .val (.int (1 : Int32))] [(.int (1 : Int32)), (.int (own_part x_NEXT x_NEXT x_NEXT_AFTER_TAIL x_FIRST))])) _
        refine XS.icmpNo X10.here hx rfl (hb hby at_88) rfl (teq hc12).2 ?_
        show Steps p.tables e below (T10.setTop (mkF m 91 #[.val (.int i0), .val (.int v2), .val (.ref x_NEXT), .val (.int (1 : Int32))] [])) _
        refine XS.iconst X10.here hx rfl (hb hby at_91) ?_
        show Steps p.tables e below (T10.setTop (mkF m 92 #[.val (.int i0), .val (.int v2), .val (.ref x_NEXT), .val (.int (1 : Int32))] [(.int (1 : Int32))])) _
        refine XS.goto X10.here hx rfl (pc0 := 92) (pc' := 96) rfl (hb hby at_92) (by decide) (by decide) ?_
        exact k)
      obtain ⟨fs, hr, hrun, hended, hW, hsame⟩ := X10.leave (v := some (.int (nar .boolean (1 : Int32)))) (fun h => by rw [Bd.returns] at h; cases h)
      refine ⟨_, _, P00 _ (P14 _ ?_), hrun, hended, _, _, rfl, ?_, ⟨_, rfl⟩, hW, hsame.mono (by decide) (by decide)⟩
      · exact retN X10 hx (t := .boolean) Bd.returns (by simp) (hb hby at_96) hr
      · show Q0 Z i0 x_NEXT x_NEXT_AFTER_TAIL x_FIRST x_INSIDE x_GAP x_PAST_END h0 n0 _ T10.heap _
        rw [e10]
        refine ⟨?_, N10⟩
        rfl
    · -- not (own_part x_NEXT x_NEXT x_NEXT_AFTER_TAIL x_FIRST) = (1 : Int32)
      have P15 : own_Rch p.tables e below A0 (T10.setTop (mkF m 96 #[.val (.int i0), .val (.int v2), .val (.ref x_NEXT), .val (.int (1 : Int32))] [(.int (0 : Int32))])) := fun t k => P13 t (by
        show Steps p.tables e below (T10.setTop (mkF m 88 #[.val (.int i0), .val (.int v2), .val (.ref x_NEXT), .val (.int (1 : Int32))] [(.int (1 : Int32)), (.int (own_part x_NEXT x_NEXT x_NEXT_AFTER_TAIL x_FIRST))])) _
        refine XS.icmpYes X10.here hx rfl (pc0 := 88) (pc' := 95) rfl (hb hby at_88) rfl (feq hc12).2 (by decide) (by decide) ?_
        show Steps p.tables e below (T10.setTop (mkF m 95 #[.val (.int i0), .val (.int v2), .val (.ref x_NEXT), .val (.int (1 : Int32))] [])) _
        refine XS.iconst X10.here hx rfl (hb hby at_95) ?_
        exact k)
      obtain ⟨fs, hr, hrun, hended, hW, hsame⟩ := X10.leave (v := some (.int (nar .boolean (0 : Int32)))) (fun h => by rw [Bd.returns] at h; cases h)
      refine ⟨_, _, P00 _ (P15 _ ?_), hrun, hended, _, _, rfl, ?_, ⟨_, rfl⟩, hW, hsame.mono (by decide) (by decide)⟩
      · exact retN X10 hx (t := .boolean) Bd.returns (by simp) (hb hby at_96) hr
      · show Q0 Z i0 x_NEXT x_NEXT_AFTER_TAIL x_FIRST x_INSIDE x_GAP x_PAST_END h0 n0 _ T10.heap _
        rw [e10]
        refine ⟨?_, N10⟩
        exact absurd (by simp [own_part, n_INSIDE_NEXT, n_INSIDE_NEXT_AFTER_TAIL, n_INSIDE_FIRST, n_GAP_NEXT, n_GAP_NEXT_AFTER_TAIL, n_GAP_FIRST, n_PAST_END_NEXT, n_PAST_END_NEXT_AFTER_TAIL, n_PAST_END_FIRST]) hc12
  · -- not v2 = (0 : Int32)
    have P17 : own_Rch p.tables e below A0 (s₁.setTop (mkF m 23 #[.val (.int i0), .val (.int v2), .unset, .unset] [(.int (1 : Int32)), (.int v2)])) := fun t k => P5 t (by
      show Steps p.tables e below (s₁.setTop (mkF m 9 #[.val (.int i0), .val (.int v2), .unset, .unset] [(.int v2)])) _
      refine XS.ifYes X0.here hx rfl (pc0 := 9) (pc' := 21) rfl (hb hby at_9) rfl ((if0 _ _).trans (feq hc4).2) (by decide) (by decide) ?_
      show Steps p.tables e below (s₁.setTop (mkF m 21 #[.val (.int i0), .val (.int v2), .unset, .unset] [])) _
      refine XS.iloadN X0.here hx rfl (hb hby at_21) rfl ?_
      show Steps p.tables e below (s₁.setTop (mkF m 22 #[.val (.int i0), .val (.int v2), .unset, .unset] [(.int v2)])) _
      refine XS.iconst X0.here hx rfl (hb hby at_22) ?_
      exact k)
    by_cases hc16 : v2 = (1 : Int32)
    · -- v2 = (1 : Int32)
      have P18 : own_Rch p.tables e below A0 (s₁.setTop (mkF m 26 #[.val (.int i0), .val (.int v2), .unset, .unset] [])) := fun t k => P17 t (by
        show Steps p.tables e below (s₁.setTop (mkF m 23 #[.val (.int i0), .val (.int v2), .unset, .unset] [(.int (1 : Int32)), (.int v2)])) _
        refine XS.icmpNo X0.here hx rfl (hb hby at_23) rfl (teq hc16).2 ?_
        exact k)
      obtain ⟨T19, X19, e19, st19⟩ := getS2 X0 hx hZ hown (host := "") (Or.inl (hw _ (List.mem_of_getElem? (i := 17) rfl))) Via.refl e0 S_NEXT_AFTER_TAIL (g := (mkF m 26 #[.val (.int i0), .val (.int v2), .unset, .unset] [])) rfl (hb hby at_26)
      have P20 : own_Rch p.tables e below A0 (T19.setTop (mkF m 29 #[.val (.int i0), .val (.int v2), .unset, .unset] [(.ref x_NEXT_AFTER_TAIL)])) := fun t k => P18 t (st19 t k)
      have P21 : own_Rch p.tables e below A0 (T19.setTop (mkF m 84 #[.val (.int i0), .val (.int v2), .val (.ref x_NEXT_AFTER_TAIL), .val (.int (1 : Int32))] [(.ref x_NEXT_AFTER_TAIL)])) := fun t k => P20 t (by
        show Steps p.tables e below (T19.setTop (mkF m 29 #[.val (.int i0), .val (.int v2), .unset, .unset] [(.ref x_NEXT_AFTER_TAIL)])) _
        refine XS.astoreN X19.here hx rfl (hb hby at_29) rfl rfl (l' := #[.val (.int i0), .val (.int v2), .val (.ref x_NEXT_AFTER_TAIL), .unset]) rfl ?_
        show Steps p.tables e below (T19.setTop (mkF m 30 #[.val (.int i0), .val (.int v2), .val (.ref x_NEXT_AFTER_TAIL), .unset] [])) _
        refine XS.iconst X19.here hx rfl (hb hby at_30) ?_
        show Steps p.tables e below (T19.setTop (mkF m 31 #[.val (.int i0), .val (.int v2), .val (.ref x_NEXT_AFTER_TAIL), .unset] [(.int (1 : Int32))])) _
        refine XS.istoreN X19.here hx rfl (hb hby at_31) rfl (l' := #[.val (.int i0), .val (.int v2), .val (.ref x_NEXT_AFTER_TAIL), .val (.int (1 : Int32))]) rfl ?_
        show Steps p.tables e below (T19.setTop (mkF m 32 #[.val (.int i0), .val (.int v2), .val (.ref x_NEXT_AFTER_TAIL), .val (.int (1 : Int32))] [])) _
        refine XS.goto X19.here hx rfl (pc0 := 32) (pc' := 83) rfl (hb hby at_32) (by decide) (by decide) ?_
        show Steps p.tables e below (T19.setTop (mkF m 83 #[.val (.int i0), .val (.int v2), .val (.ref x_NEXT_AFTER_TAIL), .val (.int (1 : Int32))] [])) _
        refine XS.aloadN X19.here hx rfl (hb hby at_83) rfl rfl ?_
        exact k)
      obtain ⟨cq22, kq22, q22a, q22b, q22c⟩ := isOf hZ e19 E_NEXT_AFTER_TAIL
      obtain ⟨_, _, ⟨T22, L22, k22, n22⟩, -, X22, ⟨Lc22, hQ22, l22, y22, z22⟩, st22⟩ := X19.virtualBack hx (y := (⟨"com/example/rackline/rackline/log/SegmentChain$Place", "partOfLog", "()Z"⟩ : MethodName)) (z := (⟨"com/example/rackline/rackline/log/SegmentChain$Place", "partOfLog", "()Z"⟩ : MethodName)) hown (mvT hZ (hw _ (List.mem_of_getElem? (i := 4) rfl))) (mvT hZ (hw _ (List.mem_of_getElem? (i := 5) rfl))) (notFace_of_selects (args := #[]) (mvT hZ (hw _ (List.mem_of_getElem? (i := 7) rfl)))) (mvT hZ (hw _ (List.mem_of_getElem? (i := 7) rfl))) (mvT hZ (hw _ (List.mem_of_getElem? (i := 6) rfl))) (by decide) (backOf (W := 0) (rm1 l Z a0 hw [] x_NEXT_AFTER_TAIL x_NEXT x_NEXT_AFTER_TAIL x_FIRST h0 n0 Z0 S_NEXT S_NEXT_AFTER_TAIL S_FIRST) hZ (hw _ (List.mem_of_getElem? (i := 8) rfl)) (hw _ (List.mem_of_getElem? (i := 2) rfl)) (by decide) (by decide)) q22a q22c (g := (mkF m 84 #[.val (.int i0), .val (.int v2), .val (.ref x_NEXT_AFTER_TAIL), .val (.int (1 : Int32))] [(.ref x_NEXT_AFTER_TAIL)])) rfl (by rw [hml]; rfl) (Steps.refl _) (argsL := []) (rest := []) (lenOf pd_0 rfl) rfl (by show 2 * 0 + _ ≤ _; exact Nat.le_of_eq rfl) (hb hby at_84) (fun _ _ => ⟨rfl, e19, (by decide : (0) + 0 ≤ _), (by decide : (0) + 0 ≤ _)⟩)
      dsimp only [Pt.U, Pt.locs, Pt.cells, Pt.slots] at X22 l22 y22 z22 st22 hQ22
      subst l22 y22 z22
      obtain ⟨rfl, N22q, e22⟩ := hQ22
      have N22 := Fr.app N0 N22q
      have P23 : own_Rch p.tables e below A0 (T22.setTop (mkF m 87 #[.val (.int i0), .val (.int v2), .val (.ref x_NEXT_AFTER_TAIL), .val (.int (1 : Int32))] [(.int (own_part x_NEXT_AFTER_TAIL x_NEXT x_NEXT_AFTER_TAIL x_FIRST))])) := fun t k => P21 t (st22.trans k)
      have P25 : own_Rch p.tables e below A0 (T22.setTop (mkF m 88 #[.val (.int i0), .val (.int v2), .val (.ref x_NEXT_AFTER_TAIL), .val (.int (1 : Int32))] [(.int (1 : Int32)), (.int (own_part x_NEXT_AFTER_TAIL x_NEXT x_NEXT_AFTER_TAIL x_FIRST))])) := fun t k => P23 t (by
        show Steps p.tables e below (T22.setTop (mkF m 87 #[.val (.int i0), .val (.int v2), .val (.ref x_NEXT_AFTER_TAIL), .val (.int (1 : Int32))] [(.int (own_part x_NEXT_AFTER_TAIL x_NEXT x_NEXT_AFTER_TAIL x_FIRST))])) _
        refine XS.iloadN X22.here hx rfl (hb hby at_87) rfl ?_
        exact k)
      by_cases hc24 : (own_part x_NEXT_AFTER_TAIL x_NEXT x_NEXT_AFTER_TAIL x_FIRST) = (1 : Int32)
      · -- (own_part x_NEXT_AFTER_TAIL x_NEXT x_NEXT_AFTER_TAIL x_FIRST) = (1 : Int32)
        have P26 : own_Rch p.tables e below A0 (T22.setTop (mkF m 96 #[.val (.int i0), .val (.int v2), .val (.ref x_NEXT_AFTER_TAIL), .val (.int (1 : Int32))] [(.int (1 : Int32))])) := fun t k => P25 t (by
          show Steps p.tables e below (T22.setTop (mkF m 88 #[.val (.int i0), .val (.int v2), .val (.ref x_NEXT_AFTER_TAIL), .val (.int (1 : Int32))] [(.int (1 : Int32)), (.int (own_part x_NEXT_AFTER_TAIL x_NEXT x_NEXT_AFTER_TAIL x_FIRST))])) _
          refine XS.icmpNo X22.here hx rfl (hb hby at_88) rfl (teq hc24).2 ?_
          show Steps p.tables e below (T22.setTop (mkF m 91 #[.val (.int i0), .val (.int v2), .val (.ref x_NEXT_AFTER_TAIL), .val (.int (1 : Int32))] [])) _
          refine XS.iconst X22.here hx rfl (hb hby at_91) ?_
          show Steps p.tables e below (T22.setTop (mkF m 92 #[.val (.int i0), .val (.int v2), .val (.ref x_NEXT_AFTER_TAIL), .val (.int (1 : Int32))] [(.int (1 : Int32))])) _
          refine XS.goto X22.here hx rfl (pc0 := 92) (pc' := 96) rfl (hb hby at_92) (by decide) (by decide) ?_
          exact k)
        obtain ⟨fs, hr, hrun, hended, hW, hsame⟩ := X22.leave (v := some (.int (nar .boolean (1 : Int32)))) (fun h => by rw [Bd.returns] at h; cases h)
        refine ⟨_, _, P00 _ (P26 _ ?_), hrun, hended, _, _, rfl, ?_, ⟨_, rfl⟩, hW, hsame.mono (by decide) (by decide)⟩
        · exact retN X22 hx (t := .boolean) Bd.returns (by simp) (hb hby at_96) hr
        · show Q0 Z i0 x_NEXT x_NEXT_AFTER_TAIL x_FIRST x_INSIDE x_GAP x_PAST_END h0 n0 _ T22.heap _
          rw [e22]
          refine ⟨?_, N22⟩
          rfl
      · -- not (own_part x_NEXT_AFTER_TAIL x_NEXT x_NEXT_AFTER_TAIL x_FIRST) = (1 : Int32)
        have P27 : own_Rch p.tables e below A0 (T22.setTop (mkF m 96 #[.val (.int i0), .val (.int v2), .val (.ref x_NEXT_AFTER_TAIL), .val (.int (1 : Int32))] [(.int (0 : Int32))])) := fun t k => P25 t (by
          show Steps p.tables e below (T22.setTop (mkF m 88 #[.val (.int i0), .val (.int v2), .val (.ref x_NEXT_AFTER_TAIL), .val (.int (1 : Int32))] [(.int (1 : Int32)), (.int (own_part x_NEXT_AFTER_TAIL x_NEXT x_NEXT_AFTER_TAIL x_FIRST))])) _
          refine XS.icmpYes X22.here hx rfl (pc0 := 88) (pc' := 95) rfl (hb hby at_88) rfl (feq hc24).2 (by decide) (by decide) ?_
          show Steps p.tables e below (T22.setTop (mkF m 95 #[.val (.int i0), .val (.int v2), .val (.ref x_NEXT_AFTER_TAIL), .val (.int (1 : Int32))] [])) _
          refine XS.iconst X22.here hx rfl (hb hby at_95) ?_
          exact k)
        obtain ⟨fs, hr, hrun, hended, hW, hsame⟩ := X22.leave (v := some (.int (nar .boolean (0 : Int32)))) (fun h => by rw [Bd.returns] at h; cases h)
        refine ⟨_, _, P00 _ (P27 _ ?_), hrun, hended, _, _, rfl, ?_, ⟨_, rfl⟩, hW, hsame.mono (by decide) (by decide)⟩
        · exact retN X22 hx (t := .boolean) Bd.returns (by simp) (hb hby at_96) hr
        · show Q0 Z i0 x_NEXT x_NEXT_AFTER_TAIL x_FIRST x_INSIDE x_GAP x_PAST_END h0 n0 _ T22.heap _
          rw [e22]
          refine ⟨?_, N22⟩
          exact absurd (by simp [own_part, n_INSIDE_NEXT, n_INSIDE_NEXT_AFTER_TAIL, n_INSIDE_FIRST, n_GAP_NEXT, n_GAP_NEXT_AFTER_TAIL, n_GAP_FIRST, n_PAST_END_NEXT, n_PAST_END_NEXT_AFTER_TAIL, n_PAST_END_FIRST]) hc24
    · -- not v2 = (1 : Int32)
      have P29 : own_Rch p.tables e below A0 (s₁.setTop (mkF m 37 #[.val (.int i0), .val (.int v2), .unset, .unset] [(.int (2 : Int32)), (.int v2)])) := fun t k => P17 t (by
        show Steps p.tables e below (s₁.setTop (mkF m 23 #[.val (.int i0), .val (.int v2), .unset, .unset] [(.int (1 : Int32)), (.int v2)])) _
        refine XS.icmpYes X0.here hx rfl (pc0 := 23) (pc' := 35) rfl (hb hby at_23) rfl (feq hc16).2 (by decide) (by decide) ?_
        show Steps p.tables e below (s₁.setTop (mkF m 35 #[.val (.int i0), .val (.int v2), .unset, .unset] [])) _
        refine XS.iloadN X0.here hx rfl (hb hby at_35) rfl ?_
        show Steps p.tables e below (s₁.setTop (mkF m 36 #[.val (.int i0), .val (.int v2), .unset, .unset] [(.int v2)])) _
        refine XS.iconst X0.here hx rfl (hb hby at_36) ?_
        exact k)
      by_cases hc28 : v2 = (2 : Int32)
      · -- v2 = (2 : Int32)
        have P30 : own_Rch p.tables e below A0 (s₁.setTop (mkF m 40 #[.val (.int i0), .val (.int v2), .unset, .unset] [])) := fun t k => P29 t (by
          show Steps p.tables e below (s₁.setTop (mkF m 37 #[.val (.int i0), .val (.int v2), .unset, .unset] [(.int (2 : Int32)), (.int v2)])) _
          refine XS.icmpNo X0.here hx rfl (hb hby at_37) rfl (teq hc28).2 ?_
          exact k)
        obtain ⟨T31, X31, e31, st31⟩ := getS2 X0 hx hZ hown (host := "") (Or.inl (hw _ (List.mem_of_getElem? (i := 16) rfl))) Via.refl e0 S_FIRST (g := (mkF m 40 #[.val (.int i0), .val (.int v2), .unset, .unset] [])) rfl (hb hby at_40)
        have P32 : own_Rch p.tables e below A0 (T31.setTop (mkF m 43 #[.val (.int i0), .val (.int v2), .unset, .unset] [(.ref x_FIRST)])) := fun t k => P30 t (st31 t k)
        have P33 : own_Rch p.tables e below A0 (T31.setTop (mkF m 84 #[.val (.int i0), .val (.int v2), .val (.ref x_FIRST), .val (.int (1 : Int32))] [(.ref x_FIRST)])) := fun t k => P32 t (by
          show Steps p.tables e below (T31.setTop (mkF m 43 #[.val (.int i0), .val (.int v2), .unset, .unset] [(.ref x_FIRST)])) _
          refine XS.astoreN X31.here hx rfl (hb hby at_43) rfl rfl (l' := #[.val (.int i0), .val (.int v2), .val (.ref x_FIRST), .unset]) rfl ?_
          show Steps p.tables e below (T31.setTop (mkF m 44 #[.val (.int i0), .val (.int v2), .val (.ref x_FIRST), .unset] [])) _
          refine XS.iconst X31.here hx rfl (hb hby at_44) ?_
          show Steps p.tables e below (T31.setTop (mkF m 45 #[.val (.int i0), .val (.int v2), .val (.ref x_FIRST), .unset] [(.int (1 : Int32))])) _
          refine XS.istoreN X31.here hx rfl (hb hby at_45) rfl (l' := #[.val (.int i0), .val (.int v2), .val (.ref x_FIRST), .val (.int (1 : Int32))]) rfl ?_
          show Steps p.tables e below (T31.setTop (mkF m 46 #[.val (.int i0), .val (.int v2), .val (.ref x_FIRST), .val (.int (1 : Int32))] [])) _
          refine XS.goto X31.here hx rfl (pc0 := 46) (pc' := 83) rfl (hb hby at_46) (by decide) (by decide) ?_
          show Steps p.tables e below (T31.setTop (mkF m 83 #[.val (.int i0), .val (.int v2), .val (.ref x_FIRST), .val (.int (1 : Int32))] [])) _
          refine XS.aloadN X31.here hx rfl (hb hby at_83) rfl rfl ?_
          exact k)
        obtain ⟨cq34, kq34, q34a, q34b, q34c⟩ := isOf hZ e31 E_FIRST
        obtain ⟨_, _, ⟨T34, L34, k34, n34⟩, -, X34, ⟨Lc34, hQ34, l34, y34, z34⟩, st34⟩ := X31.virtualBack hx (y := (⟨"com/example/rackline/rackline/log/SegmentChain$Place", "partOfLog", "()Z"⟩ : MethodName)) (z := (⟨"com/example/rackline/rackline/log/SegmentChain$Place", "partOfLog", "()Z"⟩ : MethodName)) hown (mvT hZ (hw _ (List.mem_of_getElem? (i := 4) rfl))) (mvT hZ (hw _ (List.mem_of_getElem? (i := 5) rfl))) (notFace_of_selects (args := #[]) (mvT hZ (hw _ (List.mem_of_getElem? (i := 7) rfl)))) (mvT hZ (hw _ (List.mem_of_getElem? (i := 7) rfl))) (mvT hZ (hw _ (List.mem_of_getElem? (i := 6) rfl))) (by decide) (backOf (W := 0) (rm1 l Z a0 hw [] x_FIRST x_NEXT x_NEXT_AFTER_TAIL x_FIRST h0 n0 Z0 S_NEXT S_NEXT_AFTER_TAIL S_FIRST) hZ (hw _ (List.mem_of_getElem? (i := 8) rfl)) (hw _ (List.mem_of_getElem? (i := 2) rfl)) (by decide) (by decide)) q34a q34c (g := (mkF m 84 #[.val (.int i0), .val (.int v2), .val (.ref x_FIRST), .val (.int (1 : Int32))] [(.ref x_FIRST)])) rfl (by rw [hml]; rfl) (Steps.refl _) (argsL := []) (rest := []) (lenOf pd_0 rfl) rfl (by show 2 * 0 + _ ≤ _; exact Nat.le_of_eq rfl) (hb hby at_84) (fun _ _ => ⟨rfl, e31, (by decide : (0) + 0 ≤ _), (by decide : (0) + 0 ≤ _)⟩)
        dsimp only [Pt.U, Pt.locs, Pt.cells, Pt.slots] at X34 l34 y34 z34 st34 hQ34
        subst l34 y34 z34
        obtain ⟨rfl, N34q, e34⟩ := hQ34
        have N34 := Fr.app N0 N34q
        have P35 : own_Rch p.tables e below A0 (T34.setTop (mkF m 87 #[.val (.int i0), .val (.int v2), .val (.ref x_FIRST), .val (.int (1 : Int32))] [(.int (own_part x_FIRST x_NEXT x_NEXT_AFTER_TAIL x_FIRST))])) := fun t k => P33 t (st34.trans k)
        have P37 : own_Rch p.tables e below A0 (T34.setTop (mkF m 88 #[.val (.int i0), .val (.int v2), .val (.ref x_FIRST), .val (.int (1 : Int32))] [(.int (1 : Int32)), (.int (own_part x_FIRST x_NEXT x_NEXT_AFTER_TAIL x_FIRST))])) := fun t k => P35 t (by
          show Steps p.tables e below (T34.setTop (mkF m 87 #[.val (.int i0), .val (.int v2), .val (.ref x_FIRST), .val (.int (1 : Int32))] [(.int (own_part x_FIRST x_NEXT x_NEXT_AFTER_TAIL x_FIRST))])) _
          refine XS.iloadN X34.here hx rfl (hb hby at_87) rfl ?_
          exact k)
        by_cases hc36 : (own_part x_FIRST x_NEXT x_NEXT_AFTER_TAIL x_FIRST) = (1 : Int32)
        · -- (own_part x_FIRST x_NEXT x_NEXT_AFTER_TAIL x_FIRST) = (1 : Int32)
          have P38 : own_Rch p.tables e below A0 (T34.setTop (mkF m 96 #[.val (.int i0), .val (.int v2), .val (.ref x_FIRST), .val (.int (1 : Int32))] [(.int (1 : Int32))])) := fun t k => P37 t (by
            show Steps p.tables e below (T34.setTop (mkF m 88 #[.val (.int i0), .val (.int v2), .val (.ref x_FIRST), .val (.int (1 : Int32))] [(.int (1 : Int32)), (.int (own_part x_FIRST x_NEXT x_NEXT_AFTER_TAIL x_FIRST))])) _
            refine XS.icmpNo X34.here hx rfl (hb hby at_88) rfl (teq hc36).2 ?_
            show Steps p.tables e below (T34.setTop (mkF m 91 #[.val (.int i0), .val (.int v2), .val (.ref x_FIRST), .val (.int (1 : Int32))] [])) _
            refine XS.iconst X34.here hx rfl (hb hby at_91) ?_
            show Steps p.tables e below (T34.setTop (mkF m 92 #[.val (.int i0), .val (.int v2), .val (.ref x_FIRST), .val (.int (1 : Int32))] [(.int (1 : Int32))])) _
            refine XS.goto X34.here hx rfl (pc0 := 92) (pc' := 96) rfl (hb hby at_92) (by decide) (by decide) ?_
            exact k)
          obtain ⟨fs, hr, hrun, hended, hW, hsame⟩ := X34.leave (v := some (.int (nar .boolean (1 : Int32)))) (fun h => by rw [Bd.returns] at h; cases h)
          refine ⟨_, _, P00 _ (P38 _ ?_), hrun, hended, _, _, rfl, ?_, ⟨_, rfl⟩, hW, hsame.mono (by decide) (by decide)⟩
          · exact retN X34 hx (t := .boolean) Bd.returns (by simp) (hb hby at_96) hr
          · show Q0 Z i0 x_NEXT x_NEXT_AFTER_TAIL x_FIRST x_INSIDE x_GAP x_PAST_END h0 n0 _ T34.heap _
            rw [e34]
            refine ⟨?_, N34⟩
            rfl
        · -- not (own_part x_FIRST x_NEXT x_NEXT_AFTER_TAIL x_FIRST) = (1 : Int32)
          have P39 : own_Rch p.tables e below A0 (T34.setTop (mkF m 96 #[.val (.int i0), .val (.int v2), .val (.ref x_FIRST), .val (.int (1 : Int32))] [(.int (0 : Int32))])) := fun t k => P37 t (by
            show Steps p.tables e below (T34.setTop (mkF m 88 #[.val (.int i0), .val (.int v2), .val (.ref x_FIRST), .val (.int (1 : Int32))] [(.int (1 : Int32)), (.int (own_part x_FIRST x_NEXT x_NEXT_AFTER_TAIL x_FIRST))])) _
            refine XS.icmpYes X34.here hx rfl (pc0 := 88) (pc' := 95) rfl (hb hby at_88) rfl (feq hc36).2 (by decide) (by decide) ?_
            show Steps p.tables e below (T34.setTop (mkF m 95 #[.val (.int i0), .val (.int v2), .val (.ref x_FIRST), .val (.int (1 : Int32))] [])) _
            refine XS.iconst X34.here hx rfl (hb hby at_95) ?_
            exact k)
          obtain ⟨fs, hr, hrun, hended, hW, hsame⟩ := X34.leave (v := some (.int (nar .boolean (0 : Int32)))) (fun h => by rw [Bd.returns] at h; cases h)
          refine ⟨_, _, P00 _ (P39 _ ?_), hrun, hended, _, _, rfl, ?_, ⟨_, rfl⟩, hW, hsame.mono (by decide) (by decide)⟩
          · exact retN X34 hx (t := .boolean) Bd.returns (by simp) (hb hby at_96) hr
          · show Q0 Z i0 x_NEXT x_NEXT_AFTER_TAIL x_FIRST x_INSIDE x_GAP x_PAST_END h0 n0 _ T34.heap _
            rw [e34]
            refine ⟨?_, N34⟩
            exact absurd (by simp [own_part, n_INSIDE_NEXT, n_INSIDE_NEXT_AFTER_TAIL, n_INSIDE_FIRST, n_GAP_NEXT, n_GAP_NEXT_AFTER_TAIL, n_GAP_FIRST, n_PAST_END_NEXT, n_PAST_END_NEXT_AFTER_TAIL, n_PAST_END_FIRST]) hc36
      · -- not v2 = (2 : Int32)
        have P41 : own_Rch p.tables e below A0 (s₁.setTop (mkF m 51 #[.val (.int i0), .val (.int v2), .unset, .unset] [(.int (3 : Int32)), (.int v2)])) := fun t k => P29 t (by
          show Steps p.tables e below (s₁.setTop (mkF m 37 #[.val (.int i0), .val (.int v2), .unset, .unset] [(.int (2 : Int32)), (.int v2)])) _
          refine XS.icmpYes X0.here hx rfl (pc0 := 37) (pc' := 49) rfl (hb hby at_37) rfl (feq hc28).2 (by decide) (by decide) ?_
          show Steps p.tables e below (s₁.setTop (mkF m 49 #[.val (.int i0), .val (.int v2), .unset, .unset] [])) _
          refine XS.iloadN X0.here hx rfl (hb hby at_49) rfl ?_
          show Steps p.tables e below (s₁.setTop (mkF m 50 #[.val (.int i0), .val (.int v2), .unset, .unset] [(.int v2)])) _
          refine XS.iconst X0.here hx rfl (hb hby at_50) ?_
          exact k)
        by_cases hc40 : v2 = (3 : Int32)
        · -- v2 = (3 : Int32)
          have P42 : own_Rch p.tables e below A0 (s₁.setTop (mkF m 54 #[.val (.int i0), .val (.int v2), .unset, .unset] [])) := fun t k => P41 t (by
            show Steps p.tables e below (s₁.setTop (mkF m 51 #[.val (.int i0), .val (.int v2), .unset, .unset] [(.int (3 : Int32)), (.int v2)])) _
            refine XS.icmpNo X0.here hx rfl (hb hby at_51) rfl (teq hc40).2 ?_
            exact k)
          obtain ⟨T43, X43, e43, st43⟩ := getS2 X0 hx hZ hown (host := "") (Or.inl (hw _ (List.mem_of_getElem? (i := 10) rfl))) Via.refl e0 S_INSIDE (g := (mkF m 54 #[.val (.int i0), .val (.int v2), .unset, .unset] [])) rfl (hb hby at_54)
          have P44 : own_Rch p.tables e below A0 (T43.setTop (mkF m 57 #[.val (.int i0), .val (.int v2), .unset, .unset] [(.ref x_INSIDE)])) := fun t k => P42 t (st43 t k)
          have P45 : own_Rch p.tables e below A0 (T43.setTop (mkF m 84 #[.val (.int i0), .val (.int v2), .val (.ref x_INSIDE), .val (.int (0 : Int32))] [(.ref x_INSIDE)])) := fun t k => P44 t (by
            show Steps p.tables e below (T43.setTop (mkF m 57 #[.val (.int i0), .val (.int v2), .unset, .unset] [(.ref x_INSIDE)])) _
            refine XS.astoreN X43.here hx rfl (hb hby at_57) rfl rfl (l' := #[.val (.int i0), .val (.int v2), .val (.ref x_INSIDE), .unset]) rfl ?_
            show Steps p.tables e below (T43.setTop (mkF m 58 #[.val (.int i0), .val (.int v2), .val (.ref x_INSIDE), .unset] [])) _
            refine XS.iconst X43.here hx rfl (hb hby at_58) ?_
            show Steps p.tables e below (T43.setTop (mkF m 59 #[.val (.int i0), .val (.int v2), .val (.ref x_INSIDE), .unset] [(.int (0 : Int32))])) _
            refine XS.istoreN X43.here hx rfl (hb hby at_59) rfl (l' := #[.val (.int i0), .val (.int v2), .val (.ref x_INSIDE), .val (.int (0 : Int32))]) rfl ?_
            show Steps p.tables e below (T43.setTop (mkF m 60 #[.val (.int i0), .val (.int v2), .val (.ref x_INSIDE), .val (.int (0 : Int32))] [])) _
            refine XS.goto X43.here hx rfl (pc0 := 60) (pc' := 83) rfl (hb hby at_60) (by decide) (by decide) ?_
            show Steps p.tables e below (T43.setTop (mkF m 83 #[.val (.int i0), .val (.int v2), .val (.ref x_INSIDE), .val (.int (0 : Int32))] [])) _
            refine XS.aloadN X43.here hx rfl (hb hby at_83) rfl rfl ?_
            exact k)
          obtain ⟨cq46, kq46, q46a, q46b, q46c⟩ := isOf hZ e43 E_INSIDE
          obtain ⟨_, _, ⟨T46, L46, k46, n46⟩, -, X46, ⟨Lc46, hQ46, l46, y46, z46⟩, st46⟩ := X43.virtualBack hx (y := (⟨"com/example/rackline/rackline/log/SegmentChain$Place", "partOfLog", "()Z"⟩ : MethodName)) (z := (⟨"com/example/rackline/rackline/log/SegmentChain$Place", "partOfLog", "()Z"⟩ : MethodName)) hown (mvT hZ (hw _ (List.mem_of_getElem? (i := 4) rfl))) (mvT hZ (hw _ (List.mem_of_getElem? (i := 5) rfl))) (notFace_of_selects (args := #[]) (mvT hZ (hw _ (List.mem_of_getElem? (i := 7) rfl)))) (mvT hZ (hw _ (List.mem_of_getElem? (i := 7) rfl))) (mvT hZ (hw _ (List.mem_of_getElem? (i := 6) rfl))) (by decide) (backOf (W := 0) (rm1 l Z a0 hw [] x_INSIDE x_NEXT x_NEXT_AFTER_TAIL x_FIRST h0 n0 Z0 S_NEXT S_NEXT_AFTER_TAIL S_FIRST) hZ (hw _ (List.mem_of_getElem? (i := 8) rfl)) (hw _ (List.mem_of_getElem? (i := 2) rfl)) (by decide) (by decide)) q46a q46c (g := (mkF m 84 #[.val (.int i0), .val (.int v2), .val (.ref x_INSIDE), .val (.int (0 : Int32))] [(.ref x_INSIDE)])) rfl (by rw [hml]; rfl) (Steps.refl _) (argsL := []) (rest := []) (lenOf pd_0 rfl) rfl (by show 2 * 0 + _ ≤ _; exact Nat.le_of_eq rfl) (hb hby at_84) (fun _ _ => ⟨rfl, e43, (by decide : (0) + 0 ≤ _), (by decide : (0) + 0 ≤ _)⟩)
          dsimp only [Pt.U, Pt.locs, Pt.cells, Pt.slots] at X46 l46 y46 z46 st46 hQ46
          subst l46 y46 z46
          obtain ⟨rfl, N46q, e46⟩ := hQ46
          have N46 := Fr.app N0 N46q
          have P47 : own_Rch p.tables e below A0 (T46.setTop (mkF m 87 #[.val (.int i0), .val (.int v2), .val (.ref x_INSIDE), .val (.int (0 : Int32))] [(.int (own_part x_INSIDE x_NEXT x_NEXT_AFTER_TAIL x_FIRST))])) := fun t k => P45 t (st46.trans k)
          have P49 : own_Rch p.tables e below A0 (T46.setTop (mkF m 88 #[.val (.int i0), .val (.int v2), .val (.ref x_INSIDE), .val (.int (0 : Int32))] [(.int (0 : Int32)), (.int (own_part x_INSIDE x_NEXT x_NEXT_AFTER_TAIL x_FIRST))])) := fun t k => P47 t (by
            show Steps p.tables e below (T46.setTop (mkF m 87 #[.val (.int i0), .val (.int v2), .val (.ref x_INSIDE), .val (.int (0 : Int32))] [(.int (own_part x_INSIDE x_NEXT x_NEXT_AFTER_TAIL x_FIRST))])) _
            refine XS.iloadN X46.here hx rfl (hb hby at_87) rfl ?_
            exact k)
          by_cases hc48 : (own_part x_INSIDE x_NEXT x_NEXT_AFTER_TAIL x_FIRST) = (0 : Int32)
          · -- (own_part x_INSIDE x_NEXT x_NEXT_AFTER_TAIL x_FIRST) = (0 : Int32)
            have P50 : own_Rch p.tables e below A0 (T46.setTop (mkF m 96 #[.val (.int i0), .val (.int v2), .val (.ref x_INSIDE), .val (.int (0 : Int32))] [(.int (1 : Int32))])) := fun t k => P49 t (by
              show Steps p.tables e below (T46.setTop (mkF m 88 #[.val (.int i0), .val (.int v2), .val (.ref x_INSIDE), .val (.int (0 : Int32))] [(.int (0 : Int32)), (.int (own_part x_INSIDE x_NEXT x_NEXT_AFTER_TAIL x_FIRST))])) _
              refine XS.icmpNo X46.here hx rfl (hb hby at_88) rfl (teq hc48).2 ?_
              show Steps p.tables e below (T46.setTop (mkF m 91 #[.val (.int i0), .val (.int v2), .val (.ref x_INSIDE), .val (.int (0 : Int32))] [])) _
              refine XS.iconst X46.here hx rfl (hb hby at_91) ?_
              show Steps p.tables e below (T46.setTop (mkF m 92 #[.val (.int i0), .val (.int v2), .val (.ref x_INSIDE), .val (.int (0 : Int32))] [(.int (1 : Int32))])) _
              refine XS.goto X46.here hx rfl (pc0 := 92) (pc' := 96) rfl (hb hby at_92) (by decide) (by decide) ?_
              exact k)
            obtain ⟨fs, hr, hrun, hended, hW, hsame⟩ := X46.leave (v := some (.int (nar .boolean (1 : Int32)))) (fun h => by rw [Bd.returns] at h; cases h)
            refine ⟨_, _, P00 _ (P50 _ ?_), hrun, hended, _, _, rfl, ?_, ⟨_, rfl⟩, hW, hsame.mono (by decide) (by decide)⟩
            · exact retN X46 hx (t := .boolean) Bd.returns (by simp) (hb hby at_96) hr
            · show Q0 Z i0 x_NEXT x_NEXT_AFTER_TAIL x_FIRST x_INSIDE x_GAP x_PAST_END h0 n0 _ T46.heap _
              rw [e46]
              refine ⟨?_, N46⟩
              rfl
          · -- not (own_part x_INSIDE x_NEXT x_NEXT_AFTER_TAIL x_FIRST) = (0 : Int32)
            have P51 : own_Rch p.tables e below A0 (T46.setTop (mkF m 96 #[.val (.int i0), .val (.int v2), .val (.ref x_INSIDE), .val (.int (0 : Int32))] [(.int (0 : Int32))])) := fun t k => P49 t (by
              show Steps p.tables e below (T46.setTop (mkF m 88 #[.val (.int i0), .val (.int v2), .val (.ref x_INSIDE), .val (.int (0 : Int32))] [(.int (0 : Int32)), (.int (own_part x_INSIDE x_NEXT x_NEXT_AFTER_TAIL x_FIRST))])) _
              refine XS.icmpYes X46.here hx rfl (pc0 := 88) (pc' := 95) rfl (hb hby at_88) rfl (feq hc48).2 (by decide) (by decide) ?_
              show Steps p.tables e below (T46.setTop (mkF m 95 #[.val (.int i0), .val (.int v2), .val (.ref x_INSIDE), .val (.int (0 : Int32))] [])) _
              refine XS.iconst X46.here hx rfl (hb hby at_95) ?_
              exact k)
            obtain ⟨fs, hr, hrun, hended, hW, hsame⟩ := X46.leave (v := some (.int (nar .boolean (0 : Int32)))) (fun h => by rw [Bd.returns] at h; cases h)
            refine ⟨_, _, P00 _ (P51 _ ?_), hrun, hended, _, _, rfl, ?_, ⟨_, rfl⟩, hW, hsame.mono (by decide) (by decide)⟩
            · exact retN X46 hx (t := .boolean) Bd.returns (by simp) (hb hby at_96) hr
            · show Q0 Z i0 x_NEXT x_NEXT_AFTER_TAIL x_FIRST x_INSIDE x_GAP x_PAST_END h0 n0 _ T46.heap _
              rw [e46]
              refine ⟨?_, N46⟩
              exact absurd (by simp [own_part, n_INSIDE_NEXT, n_INSIDE_NEXT_AFTER_TAIL, n_INSIDE_FIRST, n_GAP_NEXT, n_GAP_NEXT_AFTER_TAIL, n_GAP_FIRST, n_PAST_END_NEXT, n_PAST_END_NEXT_AFTER_TAIL, n_PAST_END_FIRST]) hc48
        · -- not v2 = (3 : Int32)
          have P53 : own_Rch p.tables e below A0 (s₁.setTop (mkF m 65 #[.val (.int i0), .val (.int v2), .unset, .unset] [(.int (4 : Int32)), (.int v2)])) := fun t k => P41 t (by
            show Steps p.tables e below (s₁.setTop (mkF m 51 #[.val (.int i0), .val (.int v2), .unset, .unset] [(.int (3 : Int32)), (.int v2)])) _
            refine XS.icmpYes X0.here hx rfl (pc0 := 51) (pc' := 63) rfl (hb hby at_51) rfl (feq hc40).2 (by decide) (by decide) ?_
            show Steps p.tables e below (s₁.setTop (mkF m 63 #[.val (.int i0), .val (.int v2), .unset, .unset] [])) _
            refine XS.iloadN X0.here hx rfl (hb hby at_63) rfl ?_
            show Steps p.tables e below (s₁.setTop (mkF m 64 #[.val (.int i0), .val (.int v2), .unset, .unset] [(.int v2)])) _
            refine XS.iconst X0.here hx rfl (hb hby at_64) ?_
            exact k)
          by_cases hc52 : v2 = (4 : Int32)
          · -- v2 = (4 : Int32)
            have P54 : own_Rch p.tables e below A0 (s₁.setTop (mkF m 68 #[.val (.int i0), .val (.int v2), .unset, .unset] [])) := fun t k => P53 t (by
              show Steps p.tables e below (s₁.setTop (mkF m 65 #[.val (.int i0), .val (.int v2), .unset, .unset] [(.int (4 : Int32)), (.int v2)])) _
              refine XS.icmpNo X0.here hx rfl (hb hby at_65) rfl (teq hc52).2 ?_
              exact k)
            obtain ⟨T55, X55, e55, st55⟩ := getS2 X0 hx hZ hown (host := "") (Or.inl (hw _ (List.mem_of_getElem? (i := 20) rfl))) Via.refl e0 S_GAP (g := (mkF m 68 #[.val (.int i0), .val (.int v2), .unset, .unset] [])) rfl (hb hby at_68)
            have P56 : own_Rch p.tables e below A0 (T55.setTop (mkF m 71 #[.val (.int i0), .val (.int v2), .unset, .unset] [(.ref x_GAP)])) := fun t k => P54 t (st55 t k)
            have P57 : own_Rch p.tables e below A0 (T55.setTop (mkF m 84 #[.val (.int i0), .val (.int v2), .val (.ref x_GAP), .val (.int (0 : Int32))] [(.ref x_GAP)])) := fun t k => P56 t (by
              show Steps p.tables e below (T55.setTop (mkF m 71 #[.val (.int i0), .val (.int v2), .unset, .unset] [(.ref x_GAP)])) _
              refine XS.astoreN X55.here hx rfl (hb hby at_71) rfl rfl (l' := #[.val (.int i0), .val (.int v2), .val (.ref x_GAP), .unset]) rfl ?_
              show Steps p.tables e below (T55.setTop (mkF m 72 #[.val (.int i0), .val (.int v2), .val (.ref x_GAP), .unset] [])) _
              refine XS.iconst X55.here hx rfl (hb hby at_72) ?_
              show Steps p.tables e below (T55.setTop (mkF m 73 #[.val (.int i0), .val (.int v2), .val (.ref x_GAP), .unset] [(.int (0 : Int32))])) _
              refine XS.istoreN X55.here hx rfl (hb hby at_73) rfl (l' := #[.val (.int i0), .val (.int v2), .val (.ref x_GAP), .val (.int (0 : Int32))]) rfl ?_
              show Steps p.tables e below (T55.setTop (mkF m 74 #[.val (.int i0), .val (.int v2), .val (.ref x_GAP), .val (.int (0 : Int32))] [])) _
              refine XS.goto X55.here hx rfl (pc0 := 74) (pc' := 83) rfl (hb hby at_74) (by decide) (by decide) ?_
              show Steps p.tables e below (T55.setTop (mkF m 83 #[.val (.int i0), .val (.int v2), .val (.ref x_GAP), .val (.int (0 : Int32))] [])) _
              refine XS.aloadN X55.here hx rfl (hb hby at_83) rfl rfl ?_
              exact k)
            obtain ⟨cq58, kq58, q58a, q58b, q58c⟩ := isOf hZ e55 E_GAP
            obtain ⟨_, _, ⟨T58, L58, k58, n58⟩, -, X58, ⟨Lc58, hQ58, l58, y58, z58⟩, st58⟩ := X55.virtualBack hx (y := (⟨"com/example/rackline/rackline/log/SegmentChain$Place", "partOfLog", "()Z"⟩ : MethodName)) (z := (⟨"com/example/rackline/rackline/log/SegmentChain$Place", "partOfLog", "()Z"⟩ : MethodName)) hown (mvT hZ (hw _ (List.mem_of_getElem? (i := 4) rfl))) (mvT hZ (hw _ (List.mem_of_getElem? (i := 5) rfl))) (notFace_of_selects (args := #[]) (mvT hZ (hw _ (List.mem_of_getElem? (i := 7) rfl)))) (mvT hZ (hw _ (List.mem_of_getElem? (i := 7) rfl))) (mvT hZ (hw _ (List.mem_of_getElem? (i := 6) rfl))) (by decide) (backOf (W := 0) (rm1 l Z a0 hw [] x_GAP x_NEXT x_NEXT_AFTER_TAIL x_FIRST h0 n0 Z0 S_NEXT S_NEXT_AFTER_TAIL S_FIRST) hZ (hw _ (List.mem_of_getElem? (i := 8) rfl)) (hw _ (List.mem_of_getElem? (i := 2) rfl)) (by decide) (by decide)) q58a q58c (g := (mkF m 84 #[.val (.int i0), .val (.int v2), .val (.ref x_GAP), .val (.int (0 : Int32))] [(.ref x_GAP)])) rfl (by rw [hml]; rfl) (Steps.refl _) (argsL := []) (rest := []) (lenOf pd_0 rfl) rfl (by show 2 * 0 + _ ≤ _; exact Nat.le_of_eq rfl) (hb hby at_84) (fun _ _ => ⟨rfl, e55, (by decide : (0) + 0 ≤ _), (by decide : (0) + 0 ≤ _)⟩)
            dsimp only [Pt.U, Pt.locs, Pt.cells, Pt.slots] at X58 l58 y58 z58 st58 hQ58
            subst l58 y58 z58
            obtain ⟨rfl, N58q, e58⟩ := hQ58
            have N58 := Fr.app N0 N58q
            have P59 : own_Rch p.tables e below A0 (T58.setTop (mkF m 87 #[.val (.int i0), .val (.int v2), .val (.ref x_GAP), .val (.int (0 : Int32))] [(.int (own_part x_GAP x_NEXT x_NEXT_AFTER_TAIL x_FIRST))])) := fun t k => P57 t (st58.trans k)
            have P61 : own_Rch p.tables e below A0 (T58.setTop (mkF m 88 #[.val (.int i0), .val (.int v2), .val (.ref x_GAP), .val (.int (0 : Int32))] [(.int (0 : Int32)), (.int (own_part x_GAP x_NEXT x_NEXT_AFTER_TAIL x_FIRST))])) := fun t k => P59 t (by
              show Steps p.tables e below (T58.setTop (mkF m 87 #[.val (.int i0), .val (.int v2), .val (.ref x_GAP), .val (.int (0 : Int32))] [(.int (own_part x_GAP x_NEXT x_NEXT_AFTER_TAIL x_FIRST))])) _
              refine XS.iloadN X58.here hx rfl (hb hby at_87) rfl ?_
              exact k)
            by_cases hc60 : (own_part x_GAP x_NEXT x_NEXT_AFTER_TAIL x_FIRST) = (0 : Int32)
            · -- (own_part x_GAP x_NEXT x_NEXT_AFTER_TAIL x_FIRST) = (0 : Int32)
              have P62 : own_Rch p.tables e below A0 (T58.setTop (mkF m 96 #[.val (.int i0), .val (.int v2), .val (.ref x_GAP), .val (.int (0 : Int32))] [(.int (1 : Int32))])) := fun t k => P61 t (by
                show Steps p.tables e below (T58.setTop (mkF m 88 #[.val (.int i0), .val (.int v2), .val (.ref x_GAP), .val (.int (0 : Int32))] [(.int (0 : Int32)), (.int (own_part x_GAP x_NEXT x_NEXT_AFTER_TAIL x_FIRST))])) _
                refine XS.icmpNo X58.here hx rfl (hb hby at_88) rfl (teq hc60).2 ?_
                show Steps p.tables e below (T58.setTop (mkF m 91 #[.val (.int i0), .val (.int v2), .val (.ref x_GAP), .val (.int (0 : Int32))] [])) _
                refine XS.iconst X58.here hx rfl (hb hby at_91) ?_
                show Steps p.tables e below (T58.setTop (mkF m 92 #[.val (.int i0), .val (.int v2), .val (.ref x_GAP), .val (.int (0 : Int32))] [(.int (1 : Int32))])) _
                refine XS.goto X58.here hx rfl (pc0 := 92) (pc' := 96) rfl (hb hby at_92) (by decide) (by decide) ?_
                exact k)
              obtain ⟨fs, hr, hrun, hended, hW, hsame⟩ := X58.leave (v := some (.int (nar .boolean (1 : Int32)))) (fun h => by rw [Bd.returns] at h; cases h)
              refine ⟨_, _, P00 _ (P62 _ ?_), hrun, hended, _, _, rfl, ?_, ⟨_, rfl⟩, hW, hsame.mono (by decide) (by decide)⟩
              · exact retN X58 hx (t := .boolean) Bd.returns (by simp) (hb hby at_96) hr
              · show Q0 Z i0 x_NEXT x_NEXT_AFTER_TAIL x_FIRST x_INSIDE x_GAP x_PAST_END h0 n0 _ T58.heap _
                rw [e58]
                refine ⟨?_, N58⟩
                rfl
            · -- not (own_part x_GAP x_NEXT x_NEXT_AFTER_TAIL x_FIRST) = (0 : Int32)
              have P63 : own_Rch p.tables e below A0 (T58.setTop (mkF m 96 #[.val (.int i0), .val (.int v2), .val (.ref x_GAP), .val (.int (0 : Int32))] [(.int (0 : Int32))])) := fun t k => P61 t (by
                show Steps p.tables e below (T58.setTop (mkF m 88 #[.val (.int i0), .val (.int v2), .val (.ref x_GAP), .val (.int (0 : Int32))] [(.int (0 : Int32)), (.int (own_part x_GAP x_NEXT x_NEXT_AFTER_TAIL x_FIRST))])) _
                refine XS.icmpYes X58.here hx rfl (pc0 := 88) (pc' := 95) rfl (hb hby at_88) rfl (feq hc60).2 (by decide) (by decide) ?_
                show Steps p.tables e below (T58.setTop (mkF m 95 #[.val (.int i0), .val (.int v2), .val (.ref x_GAP), .val (.int (0 : Int32))] [])) _
                refine XS.iconst X58.here hx rfl (hb hby at_95) ?_
                exact k)
              obtain ⟨fs, hr, hrun, hended, hW, hsame⟩ := X58.leave (v := some (.int (nar .boolean (0 : Int32)))) (fun h => by rw [Bd.returns] at h; cases h)
              refine ⟨_, _, P00 _ (P63 _ ?_), hrun, hended, _, _, rfl, ?_, ⟨_, rfl⟩, hW, hsame.mono (by decide) (by decide)⟩
              · exact retN X58 hx (t := .boolean) Bd.returns (by simp) (hb hby at_96) hr
              · show Q0 Z i0 x_NEXT x_NEXT_AFTER_TAIL x_FIRST x_INSIDE x_GAP x_PAST_END h0 n0 _ T58.heap _
                rw [e58]
                refine ⟨?_, N58⟩
                exact absurd (by simp [own_part, n_INSIDE_NEXT, n_INSIDE_NEXT_AFTER_TAIL, n_INSIDE_FIRST, n_GAP_NEXT, n_GAP_NEXT_AFTER_TAIL, n_GAP_FIRST, n_PAST_END_NEXT, n_PAST_END_NEXT_AFTER_TAIL, n_PAST_END_FIRST]) hc60
          · -- not v2 = (4 : Int32)
            have P64 : own_Rch p.tables e below A0 (s₁.setTop (mkF m 77 #[.val (.int i0), .val (.int v2), .unset, .unset] [])) := fun t k => P53 t (by
              show Steps p.tables e below (s₁.setTop (mkF m 65 #[.val (.int i0), .val (.int v2), .unset, .unset] [(.int (4 : Int32)), (.int v2)])) _
              refine XS.icmpYes X0.here hx rfl (pc0 := 65) (pc' := 77) rfl (hb hby at_65) rfl (feq hc52).2 (by decide) (by decide) ?_
              exact k)
            obtain ⟨T65, X65, e65, st65⟩ := getS2 X0 hx hZ hown (host := "") (Or.inl (hw _ (List.mem_of_getElem? (i := 18) rfl))) Via.refl e0 S_PAST_END (g := (mkF m 77 #[.val (.int i0), .val (.int v2), .unset, .unset] [])) rfl (hb hby at_77)
            have P66 : own_Rch p.tables e below A0 (T65.setTop (mkF m 80 #[.val (.int i0), .val (.int v2), .unset, .unset] [(.ref x_PAST_END)])) := fun t k => P64 t (st65 t k)
            have P67 : own_Rch p.tables e below A0 (T65.setTop (mkF m 84 #[.val (.int i0), .val (.int v2), .val (.ref x_PAST_END), .val (.int (0 : Int32))] [(.ref x_PAST_END)])) := fun t k => P66 t (by
              show Steps p.tables e below (T65.setTop (mkF m 80 #[.val (.int i0), .val (.int v2), .unset, .unset] [(.ref x_PAST_END)])) _
              refine XS.astoreN X65.here hx rfl (hb hby at_80) rfl rfl (l' := #[.val (.int i0), .val (.int v2), .val (.ref x_PAST_END), .unset]) rfl ?_
              show Steps p.tables e below (T65.setTop (mkF m 81 #[.val (.int i0), .val (.int v2), .val (.ref x_PAST_END), .unset] [])) _
              refine XS.iconst X65.here hx rfl (hb hby at_81) ?_
              show Steps p.tables e below (T65.setTop (mkF m 82 #[.val (.int i0), .val (.int v2), .val (.ref x_PAST_END), .unset] [(.int (0 : Int32))])) _
              refine XS.istoreN X65.here hx rfl (hb hby at_82) rfl (l' := #[.val (.int i0), .val (.int v2), .val (.ref x_PAST_END), .val (.int (0 : Int32))]) rfl ?_
              show Steps p.tables e below (T65.setTop (mkF m 83 #[.val (.int i0), .val (.int v2), .val (.ref x_PAST_END), .val (.int (0 : Int32))] [])) _
              refine XS.aloadN X65.here hx rfl (hb hby at_83) rfl rfl ?_
              exact k)
            obtain ⟨cq68, kq68, q68a, q68b, q68c⟩ := isOf hZ e65 E_PAST_END
            obtain ⟨_, _, ⟨T68, L68, k68, n68⟩, -, X68, ⟨Lc68, hQ68, l68, y68, z68⟩, st68⟩ := X65.virtualBack hx (y := (⟨"com/example/rackline/rackline/log/SegmentChain$Place", "partOfLog", "()Z"⟩ : MethodName)) (z := (⟨"com/example/rackline/rackline/log/SegmentChain$Place", "partOfLog", "()Z"⟩ : MethodName)) hown (mvT hZ (hw _ (List.mem_of_getElem? (i := 4) rfl))) (mvT hZ (hw _ (List.mem_of_getElem? (i := 5) rfl))) (notFace_of_selects (args := #[]) (mvT hZ (hw _ (List.mem_of_getElem? (i := 7) rfl)))) (mvT hZ (hw _ (List.mem_of_getElem? (i := 7) rfl))) (mvT hZ (hw _ (List.mem_of_getElem? (i := 6) rfl))) (by decide) (backOf (W := 0) (rm1 l Z a0 hw [] x_PAST_END x_NEXT x_NEXT_AFTER_TAIL x_FIRST h0 n0 Z0 S_NEXT S_NEXT_AFTER_TAIL S_FIRST) hZ (hw _ (List.mem_of_getElem? (i := 8) rfl)) (hw _ (List.mem_of_getElem? (i := 2) rfl)) (by decide) (by decide)) q68a q68c (g := (mkF m 84 #[.val (.int i0), .val (.int v2), .val (.ref x_PAST_END), .val (.int (0 : Int32))] [(.ref x_PAST_END)])) rfl (by rw [hml]; rfl) (Steps.refl _) (argsL := []) (rest := []) (lenOf pd_0 rfl) rfl (by show 2 * 0 + _ ≤ _; exact Nat.le_of_eq rfl) (hb hby at_84) (fun _ _ => ⟨rfl, e65, (by decide : (0) + 0 ≤ _), (by decide : (0) + 0 ≤ _)⟩)
            dsimp only [Pt.U, Pt.locs, Pt.cells, Pt.slots] at X68 l68 y68 z68 st68 hQ68
            subst l68 y68 z68
            obtain ⟨rfl, N68q, e68⟩ := hQ68
            have N68 := Fr.app N0 N68q
            have P69 : own_Rch p.tables e below A0 (T68.setTop (mkF m 87 #[.val (.int i0), .val (.int v2), .val (.ref x_PAST_END), .val (.int (0 : Int32))] [(.int (own_part x_PAST_END x_NEXT x_NEXT_AFTER_TAIL x_FIRST))])) := fun t k => P67 t (st68.trans k)
            have P71 : own_Rch p.tables e below A0 (T68.setTop (mkF m 88 #[.val (.int i0), .val (.int v2), .val (.ref x_PAST_END), .val (.int (0 : Int32))] [(.int (0 : Int32)), (.int (own_part x_PAST_END x_NEXT x_NEXT_AFTER_TAIL x_FIRST))])) := fun t k => P69 t (by
              show Steps p.tables e below (T68.setTop (mkF m 87 #[.val (.int i0), .val (.int v2), .val (.ref x_PAST_END), .val (.int (0 : Int32))] [(.int (own_part x_PAST_END x_NEXT x_NEXT_AFTER_TAIL x_FIRST))])) _
              refine XS.iloadN X68.here hx rfl (hb hby at_87) rfl ?_
              exact k)
            by_cases hc70 : (own_part x_PAST_END x_NEXT x_NEXT_AFTER_TAIL x_FIRST) = (0 : Int32)
            · -- (own_part x_PAST_END x_NEXT x_NEXT_AFTER_TAIL x_FIRST) = (0 : Int32)
              have P72 : own_Rch p.tables e below A0 (T68.setTop (mkF m 96 #[.val (.int i0), .val (.int v2), .val (.ref x_PAST_END), .val (.int (0 : Int32))] [(.int (1 : Int32))])) := fun t k => P71 t (by
                show Steps p.tables e below (T68.setTop (mkF m 88 #[.val (.int i0), .val (.int v2), .val (.ref x_PAST_END), .val (.int (0 : Int32))] [(.int (0 : Int32)), (.int (own_part x_PAST_END x_NEXT x_NEXT_AFTER_TAIL x_FIRST))])) _
                refine XS.icmpNo X68.here hx rfl (hb hby at_88) rfl (teq hc70).2 ?_
                show Steps p.tables e below (T68.setTop (mkF m 91 #[.val (.int i0), .val (.int v2), .val (.ref x_PAST_END), .val (.int (0 : Int32))] [])) _
                refine XS.iconst X68.here hx rfl (hb hby at_91) ?_
                show Steps p.tables e below (T68.setTop (mkF m 92 #[.val (.int i0), .val (.int v2), .val (.ref x_PAST_END), .val (.int (0 : Int32))] [(.int (1 : Int32))])) _
                refine XS.goto X68.here hx rfl (pc0 := 92) (pc' := 96) rfl (hb hby at_92) (by decide) (by decide) ?_
                exact k)
              obtain ⟨fs, hr, hrun, hended, hW, hsame⟩ := X68.leave (v := some (.int (nar .boolean (1 : Int32)))) (fun h => by rw [Bd.returns] at h; cases h)
              refine ⟨_, _, P00 _ (P72 _ ?_), hrun, hended, _, _, rfl, ?_, ⟨_, rfl⟩, hW, hsame.mono (by decide) (by decide)⟩
              · exact retN X68 hx (t := .boolean) Bd.returns (by simp) (hb hby at_96) hr
              · show Q0 Z i0 x_NEXT x_NEXT_AFTER_TAIL x_FIRST x_INSIDE x_GAP x_PAST_END h0 n0 _ T68.heap _
                rw [e68]
                refine ⟨?_, N68⟩
                rfl
            · -- not (own_part x_PAST_END x_NEXT x_NEXT_AFTER_TAIL x_FIRST) = (0 : Int32)
              have P73 : own_Rch p.tables e below A0 (T68.setTop (mkF m 96 #[.val (.int i0), .val (.int v2), .val (.ref x_PAST_END), .val (.int (0 : Int32))] [(.int (0 : Int32))])) := fun t k => P71 t (by
                show Steps p.tables e below (T68.setTop (mkF m 88 #[.val (.int i0), .val (.int v2), .val (.ref x_PAST_END), .val (.int (0 : Int32))] [(.int (0 : Int32)), (.int (own_part x_PAST_END x_NEXT x_NEXT_AFTER_TAIL x_FIRST))])) _
                refine XS.icmpYes X68.here hx rfl (pc0 := 88) (pc' := 95) rfl (hb hby at_88) rfl (feq hc70).2 (by decide) (by decide) ?_
                show Steps p.tables e below (T68.setTop (mkF m 95 #[.val (.int i0), .val (.int v2), .val (.ref x_PAST_END), .val (.int (0 : Int32))] [])) _
                refine XS.iconst X68.here hx rfl (hb hby at_95) ?_
                exact k)
              obtain ⟨fs, hr, hrun, hended, hW, hsame⟩ := X68.leave (v := some (.int (nar .boolean (0 : Int32)))) (fun h => by rw [Bd.returns] at h; cases h)
              refine ⟨_, _, P00 _ (P73 _ ?_), hrun, hended, _, _, rfl, ?_, ⟨_, rfl⟩, hW, hsame.mono (by decide) (by decide)⟩
              · exact retN X68 hx (t := .boolean) Bd.returns (by simp) (hb hby at_96) hr
              · show Q0 Z i0 x_NEXT x_NEXT_AFTER_TAIL x_FIRST x_INSIDE x_GAP x_PAST_END h0 n0 _ T68.heap _
                rw [e68]
                refine ⟨?_, N68⟩
                exact absurd (by simp [own_part, n_INSIDE_NEXT, n_INSIDE_NEXT_AFTER_TAIL, n_INSIDE_FIRST, n_GAP_NEXT, n_GAP_NEXT_AFTER_TAIL, n_GAP_FIRST, n_PAST_END_NEXT, n_PAST_END_NEXT_AFTER_TAIL, n_PAST_END_FIRST]) hc70
theorem own_eqI {args : Array Value} {s : State} {t : Term} {n : Int32} (h : (Cond.eq t (.int n)).value args s none s [] = some true) : t.eval args s none [] s = some (.int n) := by
  obtain ⟨x, y, h1, h2, k1, k2⟩ := cmp_v (Or.inl h)
  have e : y = .int n := by simpa [Term.eval] using h2.symm
  subst e
  obtain ⟨z, rfl⟩ := k2
  have q : z = n := by simpa [Cond.value, h1, h2] using h
  rw [h1, q]
theorem own_eqR {args : Array Value} {s : State} {t u : Term} {a : Addr} (h : (Cond.eq t u).value args s none s [] = some true) (e : u.eval args s none [] s = some (.ref a)) : t.eval args s none [] s = some (.ref a) := by
  obtain ⟨x, y, h1, h2, k1, k2⟩ := cmp_v (Or.inl h)
  cases h2.symm.trans e
  cases x <;> simp [Kin, Value.isRef] at k1 k2
  · simp [Cond.value, h1, h2] at h
  · have q := h; simp [Cond.value, h1, h2] at q; rw [h1, q]
theorem own_fld {args : Array Value} {s : State} {t : Term} {a : Addr} {C n d : String} {v : Value} (e : t.eval args s none [] s = some (.ref a)) (h : (Term.field t C n d).eval args s none [] s = some v) : Fld s s.heap a C n d v := by
  refine Fld.start ?_
  simpa [Term.eval, e] using h
theorem own_len {args : Array Value} {s : State} {t : Term} {a : Addr} {c : Cell} {n : Int32} (e : t.eval args s none [] s = some (.ref a)) (hA : s.arrayAt? a = some c) (h : (Term.length t).eval args s none [] s = some (.int n)) : c.slots.size < 2 ^ 31 ∧ c.slots.size.toInt32 = n := by
  have q := h
  simp [Term.eval, e, hA] at q
  exact ⟨by simpa using q.1, q.2⟩
theorem own_elem {args : Array Value} {s : State} {t : Term} {a : Addr} {c : Cell} {j : Int32} {v : Value} (e : t.eval args s none [] s = some (.ref a)) (hA : s.arrayAt? a = some c) (h : (Term.elem t (.int j)).eval args s none [] s = some v) : c.slots[j.toNatClampNeg]? = some v := by
  by_cases q : j < 0
  · simp [Term.eval, e, hA, q] at h
  · simpa [Term.eval, e, hA, q] using h
set_option maxRecDepth 65536 in
set_option maxHeartbeats 40000000 in
theorem comes_1 {Post : Tables → Env → Array Value → State → Outcome → State → Prop} (hpost : ∀ tb e args s v u, (limb_1_1.after args s (.returned v) u = true ∧ limb_1_2.after args s (.returned v) u = true ∧ True) → FrameEnd s (.returned v) u (Jvm.fieldLocs frame_1_writes args s ++ Jvm.arrayLocs frame_1_arrays args s ++ Jvm.staticLocs frame_1_statics s) 0 0 → Post tb e args s (.returned v) u) :
    ArmFor flags0 classFile x code maxLocals ret World_1 tables_1 room_1 Calls_1 rest_1 Pre_1 Post := by
  intro l hfl _ _ p e ha hc hk s m args below hf hA hF happ hP
  obtain ⟨hcalls, hrest, hpre⟩ := hP
  obtain ⟨-, -, -, hnamed, -, -, -, hat⟩ := (Spec.applies_iff hf).mp happ
  obtain ⟨hg, hn⟩ := and_e (Cond.before_iff.mp (show (Jvm.Cond.and given_1 narrow_1).before args s = true from hpre))
  obtain ⟨ga0, gb0⟩ := and_e hg
  obtain ⟨w0, rfl⟩ : ∃ w0 : Value, args = #[w0] := by
    have hs : args.size = 1 := by simpa [Cond.value, given_1] using ga0
    obtain ⟨L⟩ := args
    match L, hs with
    | [w0], _ => exact ⟨w0, rfl⟩
  have hw := fun d (hd : d ∈ tables_1) => atoms_spec (ws := Jvm.Cond.code x code maxLocals ret :: tables_1) hat d (List.mem_cons_of_mem _ hd)
  have hfit : Fit s := fun {y c} hc i hi => by
    obtain ⟨ha, rfl⟩ := Array.getElem?_eq_some_iff.mp hc
    have q := List.all_eq_true.mp ((Array.all_eq_true_iff_forall_mem.mp hF) _ (Array.getElem_mem ha)) i (List.mem_range.mpr hi)
    simpa [Array.getElem?_eq_getElem hi] using q
  obtain ⟨i0, ei0⟩ := is_v gb0
  obtain rfl : w0 = (.int i0) := Option.some.inj ei0
  obtain ⟨na0, nb0⟩ := and_e hn
  obtain ⟨na1, nb1⟩ := and_e nb0
  obtain ⟨na2, nb2⟩ := and_e nb1
  obtain ⟨na3, nb3⟩ := and_e nb2
  obtain ⟨na4, nb4⟩ := and_e nb3
  obtain ⟨na5, nb5⟩ := and_e nb4
  obtain ⟨na6, nb6⟩ := and_e nb5
  obtain ⟨na7, nb7⟩ := and_e nb6
  obtain ⟨na8, nb8⟩ := and_e nb7
  obtain ⟨na9, nb9⟩ := and_e nb8
  obtain ⟨na10, nb10⟩ := and_e nb9
  obtain ⟨x_NEXT, ex_NEXT⟩ := exa_v na0
  have E_NEXT := Exa.start ex_NEXT na0
  have S_NEXT := Sta.start ex_NEXT (Or.inr ⟨(hw _ (List.mem_of_getElem? (i := 2) rfl)), (hw _ (List.mem_of_getElem? (i := 3) rfl))⟩)
  obtain ⟨x_INSIDE, ex_INSIDE⟩ := exa_v na1
  have E_INSIDE := Exa.start ex_INSIDE na1
  have S_INSIDE := Sta.start ex_INSIDE (Or.inr ⟨(hw _ (List.mem_of_getElem? (i := 2) rfl)), (hw _ (List.mem_of_getElem? (i := 11) rfl))⟩)
  have F_INSIDE_ordinal := own_fld ex_INSIDE (own_eqI na2)
  have F_NEXT_ordinal := own_fld ex_NEXT (own_eqI na3)
  obtain ⟨x_NEXT_AFTER_TAIL, ex_NEXT_AFTER_TAIL⟩ := exa_v na4
  have E_NEXT_AFTER_TAIL := Exa.start ex_NEXT_AFTER_TAIL na4
  have S_NEXT_AFTER_TAIL := Sta.start ex_NEXT_AFTER_TAIL (Or.inr ⟨(hw _ (List.mem_of_getElem? (i := 2) rfl)), (hw _ (List.mem_of_getElem? (i := 13) rfl))⟩)
  have F_NEXT_AFTER_TAIL_ordinal := own_fld ex_NEXT_AFTER_TAIL (own_eqI na5)
  obtain ⟨x_FIRST, ex_FIRST⟩ := exa_v na6
  have E_FIRST := Exa.start ex_FIRST na6
  have S_FIRST := Sta.start ex_FIRST (Or.inr ⟨(hw _ (List.mem_of_getElem? (i := 2) rfl)), (hw _ (List.mem_of_getElem? (i := 15) rfl))⟩)
  have F_FIRST_ordinal := own_fld ex_FIRST (own_eqI na7)
  obtain ⟨x_PAST_END, ex_PAST_END⟩ := exa_v na8
  have E_PAST_END := Exa.start ex_PAST_END na8
  have S_PAST_END := Sta.start ex_PAST_END (Or.inr ⟨(hw _ (List.mem_of_getElem? (i := 2) rfl)), (hw _ (List.mem_of_getElem? (i := 19) rfl))⟩)
  have F_PAST_END_ordinal := own_fld ex_PAST_END (own_eqI na9)
  obtain ⟨x_GAP, ex_GAP⟩ := exa_v na10
  have E_GAP := Exa.start ex_GAP na10
  have S_GAP := Sta.start ex_GAP (Or.inr ⟨(hw _ (List.mem_of_getElem? (i := 2) rfl)), (hw _ (List.mem_of_getElem? (i := 21) rfl))⟩)
  have F_GAP_ordinal := own_fld ex_GAP (own_eqI nb10)
  have n_INSIDE_NEXT : x_INSIDE ≠ x_NEXT := Fld.ne F_INSIDE_ordinal F_NEXT_ordinal (by decide)
  have n_INSIDE_NEXT_AFTER_TAIL : x_INSIDE ≠ x_NEXT_AFTER_TAIL := Fld.ne F_INSIDE_ordinal F_NEXT_AFTER_TAIL_ordinal (by decide)
  have n_INSIDE_FIRST : x_INSIDE ≠ x_FIRST := Fld.ne F_INSIDE_ordinal F_FIRST_ordinal (by decide)
  have n_GAP_NEXT : x_GAP ≠ x_NEXT := Fld.ne F_GAP_ordinal F_NEXT_ordinal (by decide)
  have n_GAP_NEXT_AFTER_TAIL : x_GAP ≠ x_NEXT_AFTER_TAIL := Fld.ne F_GAP_ordinal F_NEXT_AFTER_TAIL_ordinal (by decide)
  have n_GAP_FIRST : x_GAP ≠ x_FIRST := Fld.ne F_GAP_ordinal F_FIRST_ordinal (by decide)
  have n_PAST_END_NEXT : x_PAST_END ≠ x_NEXT := Fld.ne F_PAST_END_ordinal F_NEXT_ordinal (by decide)
  have n_PAST_END_NEXT_AFTER_TAIL : x_PAST_END ≠ x_NEXT_AFTER_TAIL := Fld.ne F_PAST_END_ordinal F_NEXT_AFTER_TAIL_ordinal (by decide)
  have n_PAST_END_FIRST : x_PAST_END ≠ x_FIRST := Fld.ne F_PAST_END_ordinal F_FIRST_ordinal (by decide)
  obtain ⟨n, o, h1, h2, h3, _, L, rfl, ⟨rfl, N⟩, hq⟩ := rm0 l s _ hw tables_1 i0 x_NEXT x_NEXT_AFTER_TAIL x_FIRST x_INSIDE x_GAP x_PAST_END s.heap s.heap.size (Nat.le_refl _) S_NEXT S_NEXT_AFTER_TAIL S_FIRST S_INSIDE S_GAP S_PAST_END E_NEXT E_NEXT_AFTER_TAIL E_FIRST E_INSIDE E_GAP E_PAST_END n_INSIDE_NEXT n_INSIDE_NEXT_AFTER_TAIL n_INSIDE_FIRST n_GAP_NEXT n_GAP_NEXT_AFTER_TAIL n_GAP_FIRST n_PAST_END_NEXT n_PAST_END_NEXT_AFTER_TAIL n_PAST_END_FIRST p e ha hc hk s m _ below hf ((Spec.applies_iff_loose hf).mp happ).1 ⟨rfl, State.Warmed39.refl s, rfl⟩ trivial
  refine ⟨n, _, h1, h2, h3, hpost _ _ _ _ _ _ ⟨Cond.after_iff.mpr rfl, Cond.after_iff.mpr (eq_i res_at (Term.int_eval (1)) rfl), trivial⟩ ⟨hq.1, hq.2.1, (hq.2.2.sift fun y hy => Or.inr (N y hy)).mono (by decide) (by decide)⟩⟩
theorem main_1_1 : Claimed_1_1 := comes_1 fun _ _ _ _ _ _ h hF => ⟨h.1, hF⟩
theorem main_1_2 : Claimed_1_2 := comes_1 fun _ _ _ _ _ _ h hF => ⟨h.2.1, hF⟩
end Jvm.Pilot.@@N@@
namespace Jvm.Pilot.@@N@@
open Jvm Jvm.ClassFile Sem Op Lib Jvm.Free Jvm.Stand Jvm.Pilot.@@N@@.Jvm.D
/-! MADE BY PROGRAM (witnessworld.py) out of the Statement's table words and the real class files: 12 classes; the members and pool entries that the words name. The judged class is class 1, her method 1. -/
namespace start1
open Jvm.ClassFile
def u (s : String) : CpInfo := .utf8 (stringToUtf16 s)
/-- a pool by its gaps: so many unusable entries, then the entry; so many at the end -/
def gap : Nat → List CpInfo → List CpInfo
  | 0, r => r
  | n + 1, r => .unusable :: gap n r
def poolList (es : List (Nat × CpInfo)) (last : Nat) : List CpInfo := es.foldr (fun e r => gap e.1 (e.2 :: r)) (gap last [])
def pool (es : List (Nat × CpInfo)) (last : Nat) : Array CpInfo := ⟨poolList es last⟩
def fileOf (pool : Array CpInfo) (this : Nat) (attrs : Array Attribute := #[]) (ms : Array MethodInfo := #[]) (fl : Nat := 33) (sup : Nat := 0) (ifs : Array Nat := #[]) (fds : Array FieldInfo := #[]) : ClassFile where
  minorVersion := 0
  majorVersion := 65
  constantPool := pool
  accessFlags := fl
  thisClass := this
  superClass := sup
  interfaces := ifs
  fields := fds
  methods := ms
  attributes := attrs
def plain (name : String) (sup : Option ClassId) : Class where
  name := name
  kind := .ordinary
  loader := none
  accessFlags := 33
  super := sup
  interfaces := #[]
  cf := none
  fields := #[]
  methods := #[]
  instanceTypes := #[]
  staticTypes := #[]
  resolved := #[]
  callSites := []
  init := .initialized
  statics := none
  mirror := none

def pool0 : Array CpInfo := pool [(5, u "<init>"), (0, u "()V"), (1, .class_ 10), (1, u "java/lang/Object")] 113

def k0m0 : Method := { name := "<init>", desc := "()V", sig := { parameters := [], returnType := none }, accessFlags := 1, code := none }
/-- java/lang/Object -/
def k0 : Class := { plain "java/lang/Object" none with
  accessFlags := 33
  interfaces := #[]
  cf := some (fileOf pool0 8 #[] #[{ accessFlags := 1, nameIndex := 5, descriptorIndex := 6, attributes := #[] }] 33 0 #[] #[])
  fields := #[]
  methods := #[k0m0]
  instanceTypes := #[]
  staticTypes := #[]
  resolved := Array.replicate 124 none
  statics := none }

def pool1 : Array CpInfo := pool [(2, .class_ 4), (1, u "java/lang/Object"), (0, u "<init>"), (0, u "()V"), (0, .integer 2147483647), (0, .fieldref 9 10), (0, .class_ 11), (0, .nameAndType 12 13), (0, u "com/example/rackline/rackline/log/SegmentChain$Place"), (0, u "NEXT"), (0, u "Lcom/example/rackline/rackline/log/SegmentChain$Place;"), (0, .fieldref 9 15), (0, .nameAndType 16 13), (0, u "NEXT_AFTER_TAIL"), (0, .fieldref 9 18), (0, .nameAndType 19 13), (0, u "FIRST"), (0, .fieldref 9 21), (0, .nameAndType 22 13), (0, u "INSIDE"), (0, .fieldref 9 24), (0, .nameAndType 25 13), (0, u "GAP"), (0, .fieldref 9 27), (0, .nameAndType 28 13), (0, u "PAST_END"), (0, .methodref 9 30), (0, .nameAndType 31 32), (0, u "partOfLog"), (0, u "()Z"), (0, .class_ 34), (0, u "com/example/rackline/rackline/log/PlacePartOfLogPinLaw"), (2, u "law"), (0, u "(I)Z")] 7

def k1m0 : Method := { name := "<init>", desc := "()V", sig := { parameters := [], returnType := none }, accessFlags := 1, code := none }
def k1c1 : Code := { maxStack := 2, maxLocals := 4, code := code, exceptionTable := #[], attributes := #[] }
def k1m1 : Method := { name := "law", desc := "(I)Z", sig := { parameters := [.int], returnType := some .boolean }, accessFlags := 9, code := some k1c1 }
/-- com/example/rackline/rackline/log/PlacePartOfLogPinLaw -/
def k1 : Class := { plain "com/example/rackline/rackline/log/PlacePartOfLogPinLaw" (some 0) with
  accessFlags := 49
  interfaces := #[]
  cf := some (fileOf pool1 33 #[] #[{ accessFlags := 1, nameIndex := 5, descriptorIndex := 6, attributes := #[] }, { accessFlags := 9, nameIndex := 37, descriptorIndex := 38, attributes := #[] }] 49 2 #[] #[])
  fields := #[]
  methods := #[k1m0, k1m1]
  instanceTypes := #[]
  staticTypes := #[]
  resolved := Array.replicate 46 none
  statics := none }

def pool2 : Array CpInfo := pool [(1, .class_ 2), (0, u "java/lang/constant/Constable"), (0, .class_ 4), (0, u "java/lang/Object")] 6

/-- java/lang/constant/Constable -/
def k2 : Class := { plain "java/lang/constant/Constable" (some 0) with
  accessFlags := 1537
  interfaces := #[]
  cf := some (fileOf pool2 1 #[] #[] 1537 3 #[] #[])
  fields := #[]
  methods := #[]
  instanceTypes := #[]
  staticTypes := #[]
  resolved := Array.replicate 11 none
  statics := none }

def pool3 : Array CpInfo := pool [(1, .class_ 2), (0, u "java/lang/Comparable"), (0, .class_ 4), (0, u "java/lang/Object")] 7

/-- java/lang/Comparable -/
def k3 : Class := { plain "java/lang/Comparable" (some 0) with
  accessFlags := 1537
  interfaces := #[]
  cf := some (fileOf pool3 1 #[] #[] 1537 3 #[] #[])
  fields := #[]
  methods := #[]
  instanceTypes := #[]
  staticTypes := #[]
  resolved := Array.replicate 12 none
  statics := none }

def pool4 : Array CpInfo := pool [(1, .class_ 2), (0, u "java/io/Serializable"), (0, .class_ 4), (0, u "java/lang/Object")] 2

/-- java/io/Serializable -/
def k4 : Class := { plain "java/io/Serializable" (some 0) with
  accessFlags := 1537
  interfaces := #[]
  cf := some (fileOf pool4 1 #[] #[] 1537 3 #[] #[])
  fields := #[]
  methods := #[]
  instanceTypes := #[]
  staticTypes := #[]
  resolved := Array.replicate 7 none
  statics := none }

def pool5 : Array CpInfo := pool [(2, .class_ 4), (1, u "java/lang/Enum"), (0, u "name"), (0, u "Ljava/lang/String;"), (2, u "ordinal"), (0, u "I"), (1, .class_ 14), (1, u "java/lang/Object"), (4, u "hash"), (86, .class_ 108), (1, u "java/lang/Enum$EnumDesc"), (2, .class_ 112), (0, u "java/lang/constant/Constable"), (0, .class_ 114), (0, u "java/lang/Comparable"), (0, .class_ 116), (0, u "java/io/Serializable")] 87

/-- java/lang/Enum -/
def k5 : Class := { plain "java/lang/Enum" (some 0) with
  accessFlags := 1057
  interfaces := #[2, 3, 4]
  cf := some (fileOf pool5 2 #[.nestMembers #[106]] #[] 1057 12 #[111, 113, 115] #[{ accessFlags := 18, nameIndex := 5, descriptorIndex := 6, attributes := #[] }, { accessFlags := 18, nameIndex := 9, descriptorIndex := 10, attributes := #[] }, { accessFlags := 2, nameIndex := 19, descriptorIndex := 10, attributes := #[] }])
  fields := #[{ name := "name", type := (.object "java/lang/String"), accessFlags := 18, slot := 0, constantValue := 0 }, { name := "ordinal", type := .int, accessFlags := 18, slot := 1, constantValue := 0 }, { name := "hash", type := .int, accessFlags := 2, slot := 2, constantValue := 0 }]
  methods := #[]
  instanceTypes := #[(.object "java/lang/String"), .int, .int]
  staticTypes := #[]
  resolved := Array.replicate 204 none
  statics := none }

def pool6 : Array CpInfo := pool [(1, .class_ 2), (0, u "com/example/rackline/rackline/log/SegmentChain$Place"), (0, .fieldref 1 4), (0, .nameAndType 5 6), (0, u "NEXT"), (0, u "Lcom/example/rackline/rackline/log/SegmentChain$Place;"), (0, .fieldref 1 8), (0, .nameAndType 9 6), (0, u "NEXT_AFTER_TAIL"), (0, .fieldref 1 11), (0, .nameAndType 12 6), (0, u "FIRST"), (2, u "INSIDE"), (2, u "GAP"), (2, u "PAST_END"), (2, u "$VALUES"), (0, u "[Lcom/example/rackline/rackline/log/SegmentChain$Place;"), (6, .class_ 34), (1, u "java/lang/Enum"), (24, u "partOfLog"), (0, u "()Z"), (6, .class_ 68), (0, u "com/example/rackline/rackline/log/SegmentChain")] 2

def k6c0 : Code := { maxStack := 2, maxLocals := 1, code := prog_161_method_4_code, exceptionTable := #[], attributes := #[] }
def k6m0 : Method := { name := "partOfLog", desc := "()Z", sig := { parameters := [], returnType := some .boolean }, accessFlags := 0, code := some k6c0 }
/-- com/example/rackline/rackline/log/SegmentChain$Place -/
def k6 : Class := { plain "com/example/rackline/rackline/log/SegmentChain$Place" (some 5) with
  accessFlags := 16432
  interfaces := #[]
  cf := some (fileOf pool6 1 #[.nestHost 67] #[{ accessFlags := 0, nameIndex := 59, descriptorIndex := 60, attributes := #[] }] 16432 32 #[] #[{ accessFlags := 16409, nameIndex := 5, descriptorIndex := 6, attributes := #[] }, { accessFlags := 16409, nameIndex := 9, descriptorIndex := 6, attributes := #[] }, { accessFlags := 16409, nameIndex := 12, descriptorIndex := 6, attributes := #[] }, { accessFlags := 16409, nameIndex := 15, descriptorIndex := 6, attributes := #[] }, { accessFlags := 16409, nameIndex := 18, descriptorIndex := 6, attributes := #[] }, { accessFlags := 16409, nameIndex := 21, descriptorIndex := 6, attributes := #[] }, { accessFlags := 4122, nameIndex := 24, descriptorIndex := 25, attributes := #[] }])
  fields := #[{ name := "NEXT", type := (.object "com/example/rackline/rackline/log/SegmentChain$Place"), accessFlags := 16409, slot := 0, constantValue := 0 }, { name := "NEXT_AFTER_TAIL", type := (.object "com/example/rackline/rackline/log/SegmentChain$Place"), accessFlags := 16409, slot := 1, constantValue := 0 }, { name := "FIRST", type := (.object "com/example/rackline/rackline/log/SegmentChain$Place"), accessFlags := 16409, slot := 2, constantValue := 0 }, { name := "INSIDE", type := (.object "com/example/rackline/rackline/log/SegmentChain$Place"), accessFlags := 16409, slot := 3, constantValue := 0 }, { name := "GAP", type := (.object "com/example/rackline/rackline/log/SegmentChain$Place"), accessFlags := 16409, slot := 4, constantValue := 0 }, { name := "PAST_END", type := (.object "com/example/rackline/rackline/log/SegmentChain$Place"), accessFlags := 16409, slot := 5, constantValue := 0 }, { name := "$VALUES", type := (.array (.object "com/example/rackline/rackline/log/SegmentChain$Place")), accessFlags := 4122, slot := 6, constantValue := 0 }]
  methods := #[k6m0]
  instanceTypes := #[(.object "java/lang/String"), .int, .int]
  staticTypes := #[(.object "com/example/rackline/rackline/log/SegmentChain$Place"), (.object "com/example/rackline/rackline/log/SegmentChain$Place"), (.object "com/example/rackline/rackline/log/SegmentChain$Place"), (.object "com/example/rackline/rackline/log/SegmentChain$Place"), (.object "com/example/rackline/rackline/log/SegmentChain$Place"), (.object "com/example/rackline/rackline/log/SegmentChain$Place"), (.array (.object "com/example/rackline/rackline/log/SegmentChain$Place"))]
  resolved := Array.replicate 71 none
  statics := some 0 }

def pool7 : Array CpInfo := pool [(1, u "java/lang/Cloneable"), (0, .class_ 1), (0, u "java/lang/Object"), (0, .class_ 3)] 3

/-- java/lang/Cloneable -/
def k7 : Class := { plain "java/lang/Cloneable" (some 0) with
  accessFlags := 1537
  interfaces := #[]
  cf := some (fileOf pool7 2 #[] #[] 1537 4 #[] #[])
  fields := #[]
  methods := #[]
  instanceTypes := #[]
  staticTypes := #[]
  resolved := Array.replicate 8 none
  statics := none }

/-- the primitive byte -/
def k8 : Class := { plain "byte" none with kind := .primitive 'B', accessFlags := 0x411 }
/-- [B -/
def k9 : Class := { plain "[B" (some 0) with kind := .array 8 .byte, interfaces := #[7, 4], accessFlags := 1041 }

/-- the primitive int -/
def k10 : Class := { plain "int" none with kind := .primitive 'I', accessFlags := 0x411 }
/-- [I -/
def k11 : Class := { plain "[I" (some 0) with kind := .array 10 .int, interfaces := #[7, 4], accessFlags := 1041 }

def heap : Heap := #[{ cls := 6, slots := #[.ref 1, .ref 2, .ref 3, .ref 4, .ref 5, .ref 6, .null], vm := .statics 6 },
  { cls := 6, slots := #[.null, .int 0, .int 0], vm := .none },
  { cls := 6, slots := #[.null, .int 1, .int 0], vm := .none },
  { cls := 6, slots := #[.null, .int 2, .int 0], vm := .none },
  { cls := 6, slots := #[.null, .int 3, .int 0], vm := .none },
  { cls := 6, slots := #[.null, .int 4, .int 0], vm := .none },
  { cls := 6, slots := #[.null, .int 5, .int 0], vm := .none }]
def classes : Array Class := #[k0, k1, k2, k3, k4, k5, k6, k7, k8, k9, k10, k11]
def interned : List (Array UInt16 × Addr) := []
def slotsUsed : Nat := 25
def theMethod : MethodId := ⟨1, 1⟩
def args0 : Array Value := #[.int 5]
def aboutOver (below : List Frame) : State where
  vm := { classes := classes, interned := interned.toArray }
  heap := heap
  slotsUsed := slotsUsed
  threads := #[{ frames := .invoking theMethod args0 :: below }]
def below0 : List Frame := [.native { method := ⟨0, 0⟩, args := #[] }]
def about1 : State := aboutOver below0
def p0 : Program := .bare "" "" ""
def e0 : Env := launch0.env 0 0 0
theorem w_frames : about1.frames = Frame.invoking theMethod args0 :: below0 := rfl
set_option maxRecDepth 65536 in
theorem w_args : argsFit about1.vm theMethod args0 = true := by decide +kernel
set_option maxRecDepth 65536 in
theorem w_heap : heapFits about1 = true := by decide +kernel
set_option maxRecDepth 65536 in
theorem w_runnable : about1.curStatus? = some .runnable := by decide +kernel
set_option maxRecDepth 65536 in
theorem w_alone : about1.alone = true := by decide +kernel
set_option maxRecDepth 65536 in
theorem w_named : about1.methodNamed? x = some theMethod := by decide +kernel
set_option maxRecDepth 65536 in
theorem w_hears : about1.hears theMethod below0 = true := by decide +kernel
set_option maxRecDepth 65536 in
theorem w_ripe : about1.ripe theMethod args0 below0 = true := by decide +kernel
theorem w_running : about1.status = .running := rfl
set_option maxRecDepth 65536 in
theorem w_room : about1.hasRoom e0.platform room_1 = true :=
  launch0.hasRoom_least _ room_1 (by decide +kernel) (by decide +kernel) (by decide +kernel) (by decide +kernel) (by decide +kernel) (by decide +kernel)
theorem allAtoms_all (ts : List Jvm.Cond) (a : Array Jvm.Value) (st : Jvm.State) : (allAtoms ts).before a st = ts.all (fun c => c.before a st) := by
  induction ts with
  | nil => rfl
  | cons c t ih =>
    show (Jvm.Cond.and c (allAtoms t)).before a st = _
    rw [Jvm.Cond.before_and, ih, List.all_cons]
def words1 : List Jvm.Cond := Jvm.Cond.code x code maxLocals ret :: tables_1
/-- a 'code' word, met by the world's own term for the bytes: nothing is compared byte by byte -/
theorem code_word {y : MethodName} {bytes : ByteArray} {mx : Nat} {rt : Option FieldType} {a : Array Value} {s : State} {m : MethodId} {meth : Method} {c : Code} (h1 : s.methodNamed? y = some m) (h2 : s.vm.method? m = some meth) (h3 : meth.code = some c) (h4 : c.code = bytes)
    (h5 : (c.maxLocals == mx && c.exceptionTable.isEmpty && decide (c.maxStack ≤ mostOperands) && decide (meth.sig.returnType = rt) && !meth.locks && decide (parseMethodDescriptor y.desc = some meth.sig)) = true) : (Jvm.Cond.code y bytes mx rt).before a s = true := by
  simp only [Bool.and_eq_true, beq_iff_eq, Bool.not_eq_true', decide_eq_true_eq] at h5
  obtain ⟨⟨⟨⟨⟨g1, g2⟩, g3⟩, g4⟩, g5⟩, g6⟩ := h5
  simp [Cond.before, Cond.holds, Cond.value, h1, h2, h3, h4, g1, g2, g3, g4, g5, g6]
def isCode : Jvm.Cond → Bool
  | .code _ _ _ _ => true
  | _ => false
theorem all_split {L : List Jvm.Cond} {P : Jvm.Cond → Bool} (h1 : L.all (fun c => isCode c || P c) = true) (h2 : ∀ c ∈ L.filter isCode, P c = true) : L.all P = true := by
  refine List.all_eq_true.mpr fun c hc => ?_
  have h := List.all_eq_true.mp h1 c hc
  rcases Bool.eq_false_or_eq_true (isCode c) with hi | hi
  · exact h2 c (List.mem_filter.mpr ⟨hc, hi⟩)
  · simpa [hi] using h
set_option maxRecDepth 65536 in
theorem w_c0 : (Jvm.Cond.code x code maxLocals ret).before args0 about1 = true := code_word (m := ⟨1, 1⟩) (meth := k1m1) (c := k1c1) (by decide +kernel) rfl rfl rfl (by decide +kernel)
set_option maxRecDepth 65536 in
theorem w_c1 : (Jvm.Cond.code ({ cls := "com/example/rackline/rackline/log/SegmentChain$Place", name := "partOfLog", desc := "()Z" } : Jvm.MethodName) prog_161_method_4_code (1 : Nat) (Option.some Jvm.ClassFile.FieldType.boolean)).before args0 about1 = true := code_word (m := ⟨6, 0⟩) (meth := k6m0) (c := k6c0) (by decide +kernel) rfl rfl rfl (by decide +kernel)
def codes1 : List Jvm.Cond := [Jvm.Cond.code x code maxLocals ret, Jvm.Cond.code ({ cls := "com/example/rackline/rackline/log/SegmentChain$Place", name := "partOfLog", desc := "()Z" } : Jvm.MethodName) prog_161_method_4_code (1 : Nat) (Option.some Jvm.ClassFile.FieldType.boolean)]
set_option maxRecDepth 65536 in
theorem codes_eq : words1.filter isCode = codes1 := rfl
theorem w_codes : ∀ c ∈ words1.filter isCode, c.before args0 about1 = true := by
  rw [codes_eq]
  intro c hc
  simp only [codes1, List.mem_cons, List.not_mem_nil, or_false] at hc
  rcases hc with rfl | rfl
  · exact w_c0
  · exact w_c1
set_option maxRecDepth 65536 in
theorem w_t1 : words1.all (fun c => isCode c || c.before args0 about1) = true := by decide +kernel
theorem w_tables : (allAtoms (Jvm.Cond.code x code maxLocals ret :: tables_1)).before args0 about1 = true := by
  rw [allAtoms_all]
  show words1.all (fun c => c.before args0 about1) = true
  refine all_split ?_ w_codes
  rw [w_t1]
set_option maxRecDepth 65536 in
theorem w_case : (Jvm.Cond.and given_1 narrow_1).before args0 about1 = true := by decide +kernel
theorem w_applies : (headSpec (Jvm.Cond.code x code maxLocals ret :: tables_1) room_1).applies x e0.platform about1 = true :=
  (Spec.applies_iff w_frames).mpr ⟨w_running, w_runnable, w_alone, w_named, w_hears, w_ripe, w_room, w_tables⟩
theorem atStart : AtStart classFile x code maxLocals ret World_1 tables_1 room_1 Calls_1 rest_1 Pre_1 launch0 p0 e0 about1 theMethod args0 below0 :=
  ⟨lists_1, trivial, launch0.admits_env _ _ _, launch0.least_env, fairChoices_fair.cas, fairChoices_fair.clock, w_frames, w_args, w_heap, w_applies, trivial, trivial, w_case⟩
end start1
theorem witness_1 : WitnessClaimed_1 := ⟨start1.p0, start1.e0, start1.about1, start1.theMethod, start1.args0, start1.below0, start1.atStart⟩
end Jvm.Pilot.@@N@@
