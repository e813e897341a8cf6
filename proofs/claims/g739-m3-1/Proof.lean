import JvmDerived
import JvmDerived.Pilot.@@N@@Statement
import JvmDerived.Pilot.@@N@@Code
set_option linter.unusedVariables false
set_option linter.unusedSimpArgs false
namespace Jvm.Pilot.@@N@@
open Jvm Jvm.ClassFile Sem Op Lib Jvm.Free Jvm.Stand Jvm.LawKit Jvm.RoadKit Bundle Jvm.Pilot.@@N@@.Jvm.D
/-- what runs on to t from B runs on to t from A -/
def own_Rch (tb : Tables) (e : Env) (below : List Frame) (A B : State) : Prop := ∀ t, Steps tb e below B t → Steps tb e below A t
theorem own_lct1 {a b : Int64} (h : a < b) : ifCond.holds .lt (lcmpW a b) = true ∧ ifCond.holds .ge (lcmpW a b) = false := by
  have h1 : ¬ b < a := fun q => by rw [Int64.lt_iff_toInt_lt] at h q; omega
  have h2 : ¬ a = b := fun q => by subst q; exact h1 h
  simp only [lcmpW, gt_iff_lt, h1, h2, if_false]; exact ⟨rfl, rfl⟩
theorem own_lcf1 {a b : Int64} (h : ¬ a < b) : ifCond.holds .lt (lcmpW a b) = false ∧ ifCond.holds .ge (lcmpW a b) = true := by
  by_cases h1 : b < a
  · simp only [lcmpW, gt_iff_lt, h1, if_true]; exact ⟨rfl, rfl⟩
  · have h2 : a = b := by rw [Int64.lt_iff_toInt_lt] at h h1; exact Int64.toInt_inj.mp (by omega)
    simp only [lcmpW, gt_iff_lt, h1, h2, if_false, if_true]; subst h2; simp only [Int64.lt_irrefl, if_false]; exact ⟨rfl, rfl⟩
theorem own_lct2 {a b : Int64} (h : b < a) : ifCond.holds .gt (lcmpW a b) = true ∧ ifCond.holds .le (lcmpW a b) = false := by
  simp only [lcmpW, gt_iff_lt, h, if_true]; exact ⟨rfl, rfl⟩
theorem own_lcf2 {a b : Int64} (h : ¬ b < a) : ifCond.holds .gt (lcmpW a b) = false ∧ ifCond.holds .le (lcmpW a b) = true := by
  by_cases h2 : a = b
  · simp only [lcmpW, gt_iff_lt, h, if_pos h2, if_false]; exact ⟨rfl, rfl⟩
  · simp only [lcmpW, gt_iff_lt, h, if_neg h2, if_false]; exact ⟨rfl, rfl⟩
theorem own_lct3 {a b : Int64} (h : a = b) : ifCond.holds .eq (lcmpW a b) = true ∧ ifCond.holds .ne (lcmpW a b) = false := by
  have h1 : ¬ b < a := fun q => by subst h; exact absurd q (Int64.lt_irrefl)
  simp only [lcmpW, gt_iff_lt, h1, if_pos h, if_false]; exact ⟨rfl, rfl⟩
theorem own_lcf3 {a b : Int64} (h : ¬ a = b) : ifCond.holds .eq (lcmpW a b) = false ∧ ifCond.holds .ne (lcmpW a b) = true := by
  by_cases h1 : b < a
  · simp only [lcmpW, gt_iff_lt, h1, if_true]; exact ⟨rfl, rfl⟩
  · simp only [lcmpW, gt_iff_lt, h1, if_neg h, if_false]; exact ⟨rfl, rfl⟩
theorem own_remI (x y : Int32) : x - x / y * y = x % y := by
  apply Int32.toInt_inj.mp
  have l := Int32.toInt_lt (x % y)
  have g := Int32.le_toInt (x % y)
  rw [Int32.toInt_sub, Int32.toInt_mul, Int32.toInt_div]
  simp only [Int.sub_bmod_bmod, Int.bmod_mul_bmod]
  rw [Int.mul_comm, ← Int.tmod_def, ← Int32.toInt_mod, Int.bmod_eq_of_le] <;> omega
theorem own_remL (x y : Int64) : x - x / y * y = x % y := by
  apply Int64.toInt_inj.mp
  have l := Int64.toInt_lt (x % y)
  have g := Int64.le_toInt (x % y)
  rw [Int64.toInt_sub, Int64.toInt_mul, Int64.toInt_div]
  simp only [Int.sub_bmod_bmod, Int.bmod_mul_bmod]
  rw [Int.mul_comm, ← Int.tmod_def, ← Int64.toInt_mod, Int.bmod_eq_of_le] <;> omega
theorem d1_0 : decode prog_15_method_6_code 0 = .ok (.iconst 0, 1) := by decide +kernel
theorem d1_1 : decode prog_15_method_6_code 1 = .ok (.istore_n 1, 1) := by decide +kernel
theorem d1_2 : decode prog_15_method_6_code 2 = .ok (.getstatic 39, 3) := by decide +kernel
theorem d1_5 : decode prog_15_method_6_code 5 = .ok (.astore_n 2, 1) := by decide +kernel
theorem d1_6 : decode prog_15_method_6_code 6 = .ok (.aload_n 2, 1) := by decide +kernel
theorem d1_7 : decode prog_15_method_6_code 7 = .ok (.arraylength, 1) := by decide +kernel
theorem d1_8 : decode prog_15_method_6_code 8 = .ok (.istore_n 3, 1) := by decide +kernel
theorem d1_9 : decode prog_15_method_6_code 9 = .ok (.iconst 0, 1) := by decide +kernel
theorem d1_10 : decode prog_15_method_6_code 10 = .ok (.istore 4, 2) := by decide +kernel
theorem d1_12 : decode prog_15_method_6_code 12 = .ok (.iload 4, 2) := by decide +kernel
theorem d1_14 : decode prog_15_method_6_code 14 = .ok (.iload_n 3, 1) := by decide +kernel
theorem d1_15 : decode prog_15_method_6_code 15 = .ok (.if_icmp .ge 32, 3) := by decide +kernel
theorem d1_18 : decode prog_15_method_6_code 18 = .ok (.aload_n 2, 1) := by decide +kernel
theorem d1_19 : decode prog_15_method_6_code 19 = .ok (.iload 4, 2) := by decide +kernel
theorem d1_21 : decode prog_15_method_6_code 21 = .ok (.aaload, 1) := by decide +kernel
theorem d1_22 : decode prog_15_method_6_code 22 = .ok (.astore 5, 2) := by decide +kernel
theorem d1_24 : decode prog_15_method_6_code 24 = .ok (.iload_n 1, 1) := by decide +kernel
theorem d1_25 : decode prog_15_method_6_code 25 = .ok (.aload 5, 2) := by decide +kernel
theorem d1_27 : decode prog_15_method_6_code 27 = .ok (.getfield 35, 3) := by decide +kernel
theorem d1_30 : decode prog_15_method_6_code 30 = .ok (.iload_n 0, 1) := by decide +kernel
theorem d1_31 : decode prog_15_method_6_code 31 = .ok (.if_icmp .ne 7, 3) := by decide +kernel
theorem d1_34 : decode prog_15_method_6_code 34 = .ok (.iconst 1, 1) := by decide +kernel
theorem d1_35 : decode prog_15_method_6_code 35 = .ok (.goto 4, 3) := by decide +kernel
theorem d1_38 : decode prog_15_method_6_code 38 = .ok (.iconst 0, 1) := by decide +kernel
theorem d1_39 : decode prog_15_method_6_code 39 = .ok (.ior, 1) := by decide +kernel
theorem d1_40 : decode prog_15_method_6_code 40 = .ok (.istore_n 1, 1) := by decide +kernel
theorem d1_41 : decode prog_15_method_6_code 41 = .ok (.iinc 4 1, 3) := by decide +kernel
theorem d1_44 : decode prog_15_method_6_code 44 = .ok (.goto (-32), 3) := by decide +kernel
theorem d1_47 : decode prog_15_method_6_code 47 = .ok (.iload_n 1, 1) := by decide +kernel
theorem d1_48 : decode prog_15_method_6_code 48 = .ok (.ireturn, 1) := by decide +kernel
def own_isW (q1 : Int32) : Int32 := (nar .boolean (((((0 : Int32) ||| (if (0 : Int32) = q1 then (1 : Int32) else (0 : Int32))) ||| (if (3 : Int32) = q1 then (1 : Int32) else (0 : Int32))) ||| (if (4 : Int32) = q1 then (1 : Int32) else (0 : Int32))) ||| (if (2 : Int32) = q1 then (1 : Int32) else (0 : Int32))))
theorem pn_0 : plainName "tidemark/format/ParquetEncoding" = true := by first | (simp [plainName, overriddenIn]; done) | decide +kernel
theorem ef_1 (m : MethodId) (q1 : Int32) : entryFrame m #[(.int q1)] 6 = mkF m 0 #[.val (.int q1), .unset, .unset, .unset, .unset, .unset] [] := by first | (simp [entryFrame, mkF, argsToLocals, Value.category]; done) | rfl
def Q1 (Z : State) (q1 : Int32) (x_ALL : Addr) (k_ALL : ClassId) (x_PLAIN : Addr) (x_RLE : Addr) (x_BIT_PACKED : Addr) (x_PLAIN_DICTIONARY : Addr) (h0 : Heap) (n0 : Nat) (v : Option Value) (h : Heap) (L : List Loc) : Prop := v = some (.int (own_isW q1)) ∧ Fr n0 L ∧ h = h0
set_option maxRecDepth 65536 in
set_option maxHeartbeats 40000000 in
theorem rm1 (l : Launch) (Z : State) (a0 : Array Value) (hw : ∀ d ∈ tables_1, d.before a0 Z = true) (ws : List Jvm.Cond) (q1 : Int32) (x_ALL : Addr) (k_ALL : ClassId) (x_PLAIN : Addr) (x_RLE : Addr) (x_BIT_PACKED : Addr) (x_PLAIN_DICTIONARY : Addr) (h0 : Heap) (n0 : Nat) (Z0 : n0 ≤ h0.size) (S_ALL : Sta Z h0 "tidemark/format/ParquetEncoding" "ALL" "[Ltidemark/format/ParquetEncoding;" (.ref x_ALL)) (V_ALL : Arv Z h0 x_ALL k_ALL (.object "tidemark/format/ParquetEncoding") (4 : Int32) [(.ref x_PLAIN), (.ref x_RLE), (.ref x_BIT_PACKED), (.ref x_PLAIN_DICTIONARY)] .null) (F_PLAIN : Fld Z h0 x_PLAIN "tidemark/format/ParquetEncoding" "value" "I" (.int (0 : Int32))) (F_RLE : Fld Z h0 x_RLE "tidemark/format/ParquetEncoding" "value" "I" (.int (3 : Int32))) (F_BIT_PACKED : Fld Z h0 x_BIT_PACKED "tidemark/format/ParquetEncoding" "value" "I" (.int (4 : Int32))) (F_PLAIN_DICTIONARY : Fld Z h0 x_PLAIN_DICTIONARY "tidemark/format/ParquetEncoding" "value" "I" (.int (2 : Int32))) :
    MetFree l (⟨"tidemark/format/ParquetEncoding", "isWritten", "(I)Z"⟩ : MethodName) (head1 (Jvm.Cond.code (⟨"tidemark/format/ParquetEncoding", "isWritten", "(I)Z"⟩ : MethodName) prog_15_method_6_code 6 (some .boolean) :: ws) ({ frames := 0, cells := 0, slots := 0, locals := 0 } : Room)) (fun a' U => a' = #[(.int q1)] ∧ Z.Warmed39 U.vm ∧ U.heap = h0) (fun _ _ _ _ _ => True) (fun _ U o U' => ∃ v L, o = .returned v ∧ Q1 Z q1 x_ALL k_ALL x_PLAIN x_RLE x_BIT_PACKED x_PLAIN_DICTIONARY h0 n0 v U'.heap L ∧ FrameEnd U o U' L ({ frames := 0, cells := 0, slots := 0, locals := 0 } : Room).cells ({ frames := 0, cells := 0, slots := 0, locals := 0 } : Room).slots) := by
  refine MetFree.of_bodySF (plainFor_of_name pn_0) hisR ?_
  intro p e s m args' below meth c s₁ Bd hml0 hP hK
  obtain ⟨hargs, hZ, hh⟩ := hP
  have hx := Bd.exec
  have hby := Bd.bytes
  have hml : c.maxLocals = 6 := hml0
  have hown : s.vm.findClass "tidemark/format/ParquetEncoding" = some m.cls := findClass_of_methodNamed Bd.named
  have hnm := (name_of_methodNamed Bd.named Bd.method).1
  have X0 : Stand p l e ({ frames := 0, cells := 0, slots := 0, locals := 0 } : Room) s m args' below meth c s₁ [] 0 0 := Stand.of_body Bd
  have e0 : s₁.heap = h0 := by rw [← hh, Bd.state]; rfl
  have N0 := Fr.nil n0
  obtain ⟨A0, hA0⟩ : ∃ A, A = s₁.setTop (mkF m 0 #[.val (.int q1), .unset, .unset, .unset, .unset, .unset] []) := ⟨_, rfl⟩
  have P0 : own_Rch p.tables e below A0 (s₁.setTop (mkF m 0 #[.val (.int q1), .unset, .unset, .unset, .unset, .unset] [])) := fun t k => hA0 ▸ k
  have P00 : own_Rch p.tables e below (s₁.setTop (entryFrame m args' 6)) A0 := fun t k => by rw [hargs]; exact castTop (ef_1 m q1) (hA0 ▸ k)
  have P1 : own_Rch p.tables e below A0 (s₁.setTop (mkF m 2 #[.val (.int q1), .val (.int (0 : Int32)), .unset, .unset, .unset, .unset] [])) := fun t k => P0 t (by
    show Steps p.tables e below (s₁.setTop (mkF m 0 #[.val (.int q1), .unset, .unset, .unset, .unset, .unset] [])) _
    refine XS.iconst X0.here hx rfl (hb hby d1_0) ?_
    show Steps p.tables e below (s₁.setTop (mkF m 1 #[.val (.int q1), .unset, .unset, .unset, .unset, .unset] [(.int (0 : Int32))])) _
    refine XS.istoreN X0.here hx rfl (hb hby d1_1) rfl (l' := #[.val (.int q1), .val (.int (0 : Int32)), .unset, .unset, .unset, .unset]) rfl ?_
    exact k)
  obtain ⟨T2, X2, e2, st2⟩ := getS2 X0 hx hZ hown (host := "") (Or.inl (hw _ (List.mem_of_getElem? (i := 4) rfl))) Via.refl e0 S_ALL (g := (mkF m 2 #[.val (.int q1), .val (.int (0 : Int32)), .unset, .unset, .unset, .unset] [])) rfl (hb hby d1_2)
  have P3 : own_Rch p.tables e below A0 (T2.setTop (mkF m 5 #[.val (.int q1), .val (.int (0 : Int32)), .unset, .unset, .unset, .unset] [(.ref x_ALL)])) := fun t k => P1 t (st2 t k)
  have P6 : own_Rch p.tables e below A0 (T2.setTop (mkF m 27 #[.val (.int q1), .val (.int (0 : Int32)), .val (.ref x_ALL), .val (.int (4 : Int32)), .val (.int (0 : Int32)), .val (.ref x_PLAIN)] [(.ref x_PLAIN), (.int (0 : Int32))])) := fun t k => P3 t (by
    show Steps p.tables e below (T2.setTop (mkF m 5 #[.val (.int q1), .val (.int (0 : Int32)), .unset, .unset, .unset, .unset] [(.ref x_ALL)])) _
    refine XS.astoreN X2.here hx rfl (hb hby d1_5) rfl rfl (l' := #[.val (.int q1), .val (.int (0 : Int32)), .val (.ref x_ALL), .unset, .unset, .unset]) rfl ?_
    show Steps p.tables e below (T2.setTop (mkF m 6 #[.val (.int q1), .val (.int (0 : Int32)), .val (.ref x_ALL), .unset, .unset, .unset] [])) _
    refine XS.aloadN X2.here hx rfl (hb hby d1_6) rfl rfl ?_
    show Steps p.tables e below (T2.setTop (mkF m 7 #[.val (.int q1), .val (.int (0 : Int32)), .val (.ref x_ALL), .unset, .unset, .unset] [(.ref x_ALL)])) _
    obtain ⟨cl4, Ar4, -, S4, N4, -, -⟩ := id V_ALL
    refine X2.arraylength hx (by rw [e2]; exact Ar4.1) (State.isArrayOf_alike hZ.alike Ar4.2.1) (g := (mkF m 7 #[.val (.int q1), .val (.int (0 : Int32)), .val (.ref x_ALL), .unset, .unset, .unset] [(.ref x_ALL)])) rfl rfl (hb hby d1_7) _ ?_
    rw [len_of S4 N4]
    show Steps p.tables e below (T2.setTop (mkF m 8 #[.val (.int q1), .val (.int (0 : Int32)), .val (.ref x_ALL), .unset, .unset, .unset] [(.int (4 : Int32))])) _
    refine XS.istoreN X2.here hx rfl (hb hby d1_8) rfl (l' := #[.val (.int q1), .val (.int (0 : Int32)), .val (.ref x_ALL), .val (.int (4 : Int32)), .unset, .unset]) rfl ?_
    show Steps p.tables e below (T2.setTop (mkF m 9 #[.val (.int q1), .val (.int (0 : Int32)), .val (.ref x_ALL), .val (.int (4 : Int32)), .unset, .unset] [])) _
    refine XS.iconst X2.here hx rfl (hb hby d1_9) ?_
    show Steps p.tables e below (T2.setTop (mkF m 10 #[.val (.int q1), .val (.int (0 : Int32)), .val (.ref x_ALL), .val (.int (4 : Int32)), .unset, .unset] [(.int (0 : Int32))])) _
    refine XS.istore X2.here hx rfl (hb hby d1_10) rfl (l' := #[.val (.int q1), .val (.int (0 : Int32)), .val (.ref x_ALL), .val (.int (4 : Int32)), .val (.int (0 : Int32)), .unset]) rfl ?_
    show Steps p.tables e below (T2.setTop (mkF m 12 #[.val (.int q1), .val (.int (0 : Int32)), .val (.ref x_ALL), .val (.int (4 : Int32)), .val (.int (0 : Int32)), .unset] [])) _
    refine XS.iload X2.here hx rfl (hb hby d1_12) rfl ?_
    show Steps p.tables e below (T2.setTop (mkF m 14 #[.val (.int q1), .val (.int (0 : Int32)), .val (.ref x_ALL), .val (.int (4 : Int32)), .val (.int (0 : Int32)), .unset] [(.int (0 : Int32))])) _
    refine XS.iloadN X2.here hx rfl (hb hby d1_14) rfl ?_
    show Steps p.tables e below (T2.setTop (mkF m 15 #[.val (.int q1), .val (.int (0 : Int32)), .val (.ref x_ALL), .val (.int (4 : Int32)), .val (.int (0 : Int32)), .unset] [(.int (4 : Int32)), (.int (0 : Int32))])) _
    refine XS.icmpNo X2.here hx rfl (hb hby d1_15) rfl (tlt (by decide : (0 : Int32) < (4 : Int32))).2.1 ?_
    show Steps p.tables e below (T2.setTop (mkF m 18 #[.val (.int q1), .val (.int (0 : Int32)), .val (.ref x_ALL), .val (.int (4 : Int32)), .val (.int (0 : Int32)), .unset] [])) _
    refine XS.aloadN X2.here hx rfl (hb hby d1_18) rfl rfl ?_
    show Steps p.tables e below (T2.setTop (mkF m 19 #[.val (.int q1), .val (.int (0 : Int32)), .val (.ref x_ALL), .val (.int (4 : Int32)), .val (.int (0 : Int32)), .unset] [(.ref x_ALL)])) _
    refine XS.iload X2.here hx rfl (hb hby d1_19) rfl ?_
    show Steps p.tables e below (T2.setTop (mkF m 21 #[.val (.int q1), .val (.int (0 : Int32)), .val (.ref x_ALL), .val (.int (4 : Int32)), .val (.int (0 : Int32)), .unset] [(.int (0 : Int32)), (.ref x_ALL)])) _
    obtain ⟨cl5, Ar5, -, S5, N5, H5, -⟩ := id V_ALL
    have hin5 : ¬ ((0 : Int32) < 0 ∨ cl5.slots.size ≤ ((0 : Int32)).toNatClampNeg) := inb_of S5 ⟨by decide, by decide⟩
    have hat5 := H5.at hin5 (v := (.ref x_PLAIN)) rfl
    refine X2.aaload hx (j := (0 : Int32)) (v := (.ref x_PLAIN)) (by rw [e2]; exact Ar5.1) (State.isArrayOf_alike hZ.alike Ar5.2.1) rfl Ar5.2.2 hin5 hat5 (g := (mkF m 21 #[.val (.int q1), .val (.int (0 : Int32)), .val (.ref x_ALL), .val (.int (4 : Int32)), .val (.int (0 : Int32)), .unset] [(.int (0 : Int32)), (.ref x_ALL)])) rfl rfl (hb hby d1_21) _ ?_
    show Steps p.tables e below (T2.setTop (mkF m 22 #[.val (.int q1), .val (.int (0 : Int32)), .val (.ref x_ALL), .val (.int (4 : Int32)), .val (.int (0 : Int32)), .unset] [(.ref x_PLAIN)])) _
    refine XS.astore X2.here hx rfl (hb hby d1_22) rfl rfl (l' := #[.val (.int q1), .val (.int (0 : Int32)), .val (.ref x_ALL), .val (.int (4 : Int32)), .val (.int (0 : Int32)), .val (.ref x_PLAIN)]) rfl ?_
    show Steps p.tables e below (T2.setTop (mkF m 24 #[.val (.int q1), .val (.int (0 : Int32)), .val (.ref x_ALL), .val (.int (4 : Int32)), .val (.int (0 : Int32)), .val (.ref x_PLAIN)] [])) _
    refine XS.iloadN X2.here hx rfl (hb hby d1_24) rfl ?_
    show Steps p.tables e below (T2.setTop (mkF m 25 #[.val (.int q1), .val (.int (0 : Int32)), .val (.ref x_ALL), .val (.int (4 : Int32)), .val (.int (0 : Int32)), .val (.ref x_PLAIN)] [(.int (0 : Int32))])) _
    refine XS.aload X2.here hx rfl (hb hby d1_25) rfl rfl ?_
    exact k)
  obtain ⟨T7, X7, e7, st7⟩ := getF X2 hx hZ hown (host := "") (Or.inl (hw _ (List.mem_of_getElem? (i := 7) rfl))) Via.refl e2 F_PLAIN (g := (mkF m 27 #[.val (.int q1), .val (.int (0 : Int32)), .val (.ref x_ALL), .val (.int (4 : Int32)), .val (.int (0 : Int32)), .val (.ref x_PLAIN)] [(.ref x_PLAIN), (.int (0 : Int32))])) rfl rfl (hb hby d1_27)
  have P8 : own_Rch p.tables e below A0 (T7.setTop (mkF m 30 #[.val (.int q1), .val (.int (0 : Int32)), .val (.ref x_ALL), .val (.int (4 : Int32)), .val (.int (0 : Int32)), .val (.ref x_PLAIN)] [(.int (0 : Int32)), (.int (0 : Int32))])) := fun t k => P6 t (st7 t k)
  have P10 : own_Rch p.tables e below A0 (T7.setTop (mkF m 31 #[.val (.int q1), .val (.int (0 : Int32)), .val (.ref x_ALL), .val (.int (4 : Int32)), .val (.int (0 : Int32)), .val (.ref x_PLAIN)] [(.int q1), (.int (0 : Int32)), (.int (0 : Int32))])) := fun t k => P8 t (by
    show Steps p.tables e below (T7.setTop (mkF m 30 #[.val (.int q1), .val (.int (0 : Int32)), .val (.ref x_ALL), .val (.int (4 : Int32)), .val (.int (0 : Int32)), .val (.ref x_PLAIN)] [(.int (0 : Int32)), (.int (0 : Int32))])) _
    refine XS.iloadN X7.here hx rfl (hb hby d1_30) rfl ?_
    exact k)
  obtain ⟨v12, hv12⟩ : ∃ z : Int32, z = (if (0 : Int32) = q1 then (1 : Int32) else (0 : Int32)) := ⟨_, rfl⟩
  have P13 : own_Rch p.tables e below A0 (T7.setTop (mkF m 39 #[.val (.int q1), .val (.int (0 : Int32)), .val (.ref x_ALL), .val (.int (4 : Int32)), .val (.int (0 : Int32)), .val (.ref x_PLAIN)] [(.int v12), (.int (0 : Int32))])) := fun t k => P10 t (by
    by_cases hc11 : (0 : Int32) = q1
    · show Steps p.tables e below (T7.setTop (mkF m 31 #[.val (.int q1), .val (.int (0 : Int32)), .val (.ref x_ALL), .val (.int (4 : Int32)), .val (.int (0 : Int32)), .val (.ref x_PLAIN)] [(.int q1), (.int (0 : Int32)), (.int (0 : Int32))])) _
      refine XS.icmpNo X7.here hx rfl (hb hby d1_31) rfl (teq hc11).2 ?_
      have qv12 : v12 = (1 : Int32) := by rw [hv12]; simp only [if_pos hc11]
      rw [qv12] at k
      show Steps p.tables e below (T7.setTop (mkF m 34 #[.val (.int q1), .val (.int (0 : Int32)), .val (.ref x_ALL), .val (.int (4 : Int32)), .val (.int (0 : Int32)), .val (.ref x_PLAIN)] [(.int (0 : Int32))])) _
      refine XS.iconst X7.here hx rfl (hb hby d1_34) ?_
      show Steps p.tables e below (T7.setTop (mkF m 35 #[.val (.int q1), .val (.int (0 : Int32)), .val (.ref x_ALL), .val (.int (4 : Int32)), .val (.int (0 : Int32)), .val (.ref x_PLAIN)] [(.int (1 : Int32)), (.int (0 : Int32))])) _
      refine XS.goto X7.here hx rfl (pc0 := 35) (pc' := 39) rfl (hb hby d1_35) (by decide) (by decide) ?_
      exact k
    · show Steps p.tables e below (T7.setTop (mkF m 31 #[.val (.int q1), .val (.int (0 : Int32)), .val (.ref x_ALL), .val (.int (4 : Int32)), .val (.int (0 : Int32)), .val (.ref x_PLAIN)] [(.int q1), (.int (0 : Int32)), (.int (0 : Int32))])) _
      refine XS.icmpYes X7.here hx rfl (pc0 := 31) (pc' := 38) rfl (hb hby d1_31) rfl (feq hc11).2 (by decide) (by decide) ?_
      have qv12 : v12 = (0 : Int32) := by rw [hv12]; simp only [if_neg hc11]
      rw [qv12] at k
      show Steps p.tables e below (T7.setTop (mkF m 38 #[.val (.int q1), .val (.int (0 : Int32)), .val (.ref x_ALL), .val (.int (4 : Int32)), .val (.int (0 : Int32)), .val (.ref x_PLAIN)] [(.int (0 : Int32))])) _
      refine XS.iconst X7.here hx rfl (hb hby d1_38) ?_
      exact k)
  have P14 : own_Rch p.tables e below A0 (T7.setTop (mkF m 41 #[.val (.int q1), .val (.int ((0 : Int32) ||| v12)), .val (.ref x_ALL), .val (.int (4 : Int32)), .val (.int (0 : Int32)), .val (.ref x_PLAIN)] [])) := fun t k => P13 t (by
    show Steps p.tables e below (T7.setTop (mkF m 39 #[.val (.int q1), .val (.int (0 : Int32)), .val (.ref x_ALL), .val (.int (4 : Int32)), .val (.int (0 : Int32)), .val (.ref x_PLAIN)] [(.int v12), (.int (0 : Int32))])) _
    refine XS.ior X7.here hx rfl (hb hby d1_39) rfl ?_
    show Steps p.tables e below (T7.setTop (mkF m 40 #[.val (.int q1), .val (.int (0 : Int32)), .val (.ref x_ALL), .val (.int (4 : Int32)), .val (.int (0 : Int32)), .val (.ref x_PLAIN)] [(.int ((0 : Int32) ||| v12))])) _
    refine XS.istoreN X7.here hx rfl (hb hby d1_40) rfl (l' := #[.val (.int q1), .val (.int ((0 : Int32) ||| v12)), .val (.ref x_ALL), .val (.int (4 : Int32)), .val (.int (0 : Int32)), .val (.ref x_PLAIN)]) rfl ?_
    exact k)
  obtain ⟨v15, hv15, P16⟩ : ∃ z : Int32, z = ((0 : Int32) ||| v12) ∧ own_Rch p.tables e below A0 (T7.setTop (mkF m 41 #[.val (.int q1), .val (.int z), .val (.ref x_ALL), .val (.int (4 : Int32)), .val (.int (0 : Int32)), .val (.ref x_PLAIN)] [])) := ⟨_, rfl, P14⟩
  have P18 : own_Rch p.tables e below A0 (T7.setTop (mkF m 27 #[.val (.int q1), .val (.int v15), .val (.ref x_ALL), .val (.int (4 : Int32)), .val (.int (1 : Int32)), .val (.ref x_RLE)] [(.ref x_RLE), (.int v15)])) := fun t k => P16 t (by
    show Steps p.tables e below (T7.setTop (mkF m 41 #[.val (.int q1), .val (.int v15), .val (.ref x_ALL), .val (.int (4 : Int32)), .val (.int (0 : Int32)), .val (.ref x_PLAIN)] [])) _
    refine XS.iinc X7.here hx rfl (hb hby d1_41) rfl (l' := #[.val (.int q1), .val (.int v15), .val (.ref x_ALL), .val (.int (4 : Int32)), .val (.int (1 : Int32)), .val (.ref x_PLAIN)]) rfl ?_
    show Steps p.tables e below (T7.setTop (mkF m 44 #[.val (.int q1), .val (.int v15), .val (.ref x_ALL), .val (.int (4 : Int32)), .val (.int (1 : Int32)), .val (.ref x_PLAIN)] [])) _
    refine XS.goto X7.here hx rfl (pc0 := 44) (pc' := 12) rfl (hb hby d1_44) (by decide) (by decide) ?_
    show Steps p.tables e below (T7.setTop (mkF m 12 #[.val (.int q1), .val (.int v15), .val (.ref x_ALL), .val (.int (4 : Int32)), .val (.int (1 : Int32)), .val (.ref x_PLAIN)] [])) _
    refine XS.iload X7.here hx rfl (hb hby d1_12) rfl ?_
    show Steps p.tables e below (T7.setTop (mkF m 14 #[.val (.int q1), .val (.int v15), .val (.ref x_ALL), .val (.int (4 : Int32)), .val (.int (1 : Int32)), .val (.ref x_PLAIN)] [(.int (1 : Int32))])) _
    refine XS.iloadN X7.here hx rfl (hb hby d1_14) rfl ?_
    show Steps p.tables e below (T7.setTop (mkF m 15 #[.val (.int q1), .val (.int v15), .val (.ref x_ALL), .val (.int (4 : Int32)), .val (.int (1 : Int32)), .val (.ref x_PLAIN)] [(.int (4 : Int32)), (.int (1 : Int32))])) _
    refine XS.icmpNo X7.here hx rfl (hb hby d1_15) rfl (tlt (by decide : (1 : Int32) < (4 : Int32))).2.1 ?_
    show Steps p.tables e below (T7.setTop (mkF m 18 #[.val (.int q1), .val (.int v15), .val (.ref x_ALL), .val (.int (4 : Int32)), .val (.int (1 : Int32)), .val (.ref x_PLAIN)] [])) _
    refine XS.aloadN X7.here hx rfl (hb hby d1_18) rfl rfl ?_
    show Steps p.tables e below (T7.setTop (mkF m 19 #[.val (.int q1), .val (.int v15), .val (.ref x_ALL), .val (.int (4 : Int32)), .val (.int (1 : Int32)), .val (.ref x_PLAIN)] [(.ref x_ALL)])) _
    refine XS.iload X7.here hx rfl (hb hby d1_19) rfl ?_
    show Steps p.tables e below (T7.setTop (mkF m 21 #[.val (.int q1), .val (.int v15), .val (.ref x_ALL), .val (.int (4 : Int32)), .val (.int (1 : Int32)), .val (.ref x_PLAIN)] [(.int (1 : Int32)), (.ref x_ALL)])) _
    obtain ⟨cl17, Ar17, -, S17, N17, H17, -⟩ := id V_ALL
    have hin17 : ¬ ((1 : Int32) < 0 ∨ cl17.slots.size ≤ ((1 : Int32)).toNatClampNeg) := inb_of S17 ⟨by decide, by decide⟩
    have hat17 := H17.at hin17 (v := (.ref x_RLE)) rfl
    refine X7.aaload hx (j := (1 : Int32)) (v := (.ref x_RLE)) (by rw [e7]; exact Ar17.1) (State.isArrayOf_alike hZ.alike Ar17.2.1) rfl Ar17.2.2 hin17 hat17 (g := (mkF m 21 #[.val (.int q1), .val (.int v15), .val (.ref x_ALL), .val (.int (4 : Int32)), .val (.int (1 : Int32)), .val (.ref x_PLAIN)] [(.int (1 : Int32)), (.ref x_ALL)])) rfl rfl (hb hby d1_21) _ ?_
    show Steps p.tables e below (T7.setTop (mkF m 22 #[.val (.int q1), .val (.int v15), .val (.ref x_ALL), .val (.int (4 : Int32)), .val (.int (1 : Int32)), .val (.ref x_PLAIN)] [(.ref x_RLE)])) _
    refine XS.astore X7.here hx rfl (hb hby d1_22) rfl rfl (l' := #[.val (.int q1), .val (.int v15), .val (.ref x_ALL), .val (.int (4 : Int32)), .val (.int (1 : Int32)), .val (.ref x_RLE)]) rfl ?_
    show Steps p.tables e below (T7.setTop (mkF m 24 #[.val (.int q1), .val (.int v15), .val (.ref x_ALL), .val (.int (4 : Int32)), .val (.int (1 : Int32)), .val (.ref x_RLE)] [])) _
    refine XS.iloadN X7.here hx rfl (hb hby d1_24) rfl ?_
    show Steps p.tables e below (T7.setTop (mkF m 25 #[.val (.int q1), .val (.int v15), .val (.ref x_ALL), .val (.int (4 : Int32)), .val (.int (1 : Int32)), .val (.ref x_RLE)] [(.int v15)])) _
    refine XS.aload X7.here hx rfl (hb hby d1_25) rfl rfl ?_
    exact k)
  obtain ⟨T19, X19, e19, st19⟩ := getF X7 hx hZ hown (host := "") (Or.inl (hw _ (List.mem_of_getElem? (i := 7) rfl))) Via.refl e7 F_RLE (g := (mkF m 27 #[.val (.int q1), .val (.int v15), .val (.ref x_ALL), .val (.int (4 : Int32)), .val (.int (1 : Int32)), .val (.ref x_RLE)] [(.ref x_RLE), (.int v15)])) rfl rfl (hb hby d1_27)
  have P20 : own_Rch p.tables e below A0 (T19.setTop (mkF m 30 #[.val (.int q1), .val (.int v15), .val (.ref x_ALL), .val (.int (4 : Int32)), .val (.int (1 : Int32)), .val (.ref x_RLE)] [(.int (3 : Int32)), (.int v15)])) := fun t k => P18 t (st19 t k)
  have P22 : own_Rch p.tables e below A0 (T19.setTop (mkF m 31 #[.val (.int q1), .val (.int v15), .val (.ref x_ALL), .val (.int (4 : Int32)), .val (.int (1 : Int32)), .val (.ref x_RLE)] [(.int q1), (.int (3 : Int32)), (.int v15)])) := fun t k => P20 t (by
    show Steps p.tables e below (T19.setTop (mkF m 30 #[.val (.int q1), .val (.int v15), .val (.ref x_ALL), .val (.int (4 : Int32)), .val (.int (1 : Int32)), .val (.ref x_RLE)] [(.int (3 : Int32)), (.int v15)])) _
    refine XS.iloadN X19.here hx rfl (hb hby d1_30) rfl ?_
    exact k)
  obtain ⟨v24, hv24⟩ : ∃ z : Int32, z = (if (3 : Int32) = q1 then (1 : Int32) else (0 : Int32)) := ⟨_, rfl⟩
  have P25 : own_Rch p.tables e below A0 (T19.setTop (mkF m 39 #[.val (.int q1), .val (.int v15), .val (.ref x_ALL), .val (.int (4 : Int32)), .val (.int (1 : Int32)), .val (.ref x_RLE)] [(.int v24), (.int v15)])) := fun t k => P22 t (by
    by_cases hc23 : (3 : Int32) = q1
    · show Steps p.tables e below (T19.setTop (mkF m 31 #[.val (.int q1), .val (.int v15), .val (.ref x_ALL), .val (.int (4 : Int32)), .val (.int (1 : Int32)), .val (.ref x_RLE)] [(.int q1), (.int (3 : Int32)), (.int v15)])) _
      refine XS.icmpNo X19.here hx rfl (hb hby d1_31) rfl (teq hc23).2 ?_
      have qv24 : v24 = (1 : Int32) := by rw [hv24]; simp only [if_pos hc23]
      rw [qv24] at k
      show Steps p.tables e below (T19.setTop (mkF m 34 #[.val (.int q1), .val (.int v15), .val (.ref x_ALL), .val (.int (4 : Int32)), .val (.int (1 : Int32)), .val (.ref x_RLE)] [(.int v15)])) _
      refine XS.iconst X19.here hx rfl (hb hby d1_34) ?_
      show Steps p.tables e below (T19.setTop (mkF m 35 #[.val (.int q1), .val (.int v15), .val (.ref x_ALL), .val (.int (4 : Int32)), .val (.int (1 : Int32)), .val (.ref x_RLE)] [(.int (1 : Int32)), (.int v15)])) _
      refine XS.goto X19.here hx rfl (pc0 := 35) (pc' := 39) rfl (hb hby d1_35) (by decide) (by decide) ?_
      exact k
    · show Steps p.tables e below (T19.setTop (mkF m 31 #[.val (.int q1), .val (.int v15), .val (.ref x_ALL), .val (.int (4 : Int32)), .val (.int (1 : Int32)), .val (.ref x_RLE)] [(.int q1), (.int (3 : Int32)), (.int v15)])) _
      refine XS.icmpYes X19.here hx rfl (pc0 := 31) (pc' := 38) rfl (hb hby d1_31) rfl (feq hc23).2 (by decide) (by decide) ?_
      have qv24 : v24 = (0 : Int32) := by rw [hv24]; simp only [if_neg hc23]
      rw [qv24] at k
      show Steps p.tables e below (T19.setTop (mkF m 38 #[.val (.int q1), .val (.int v15), .val (.ref x_ALL), .val (.int (4 : Int32)), .val (.int (1 : Int32)), .val (.ref x_RLE)] [(.int v15)])) _
      refine XS.iconst X19.here hx rfl (hb hby d1_38) ?_
      exact k)
  have P26 : own_Rch p.tables e below A0 (T19.setTop (mkF m 41 #[.val (.int q1), .val (.int (v15 ||| v24)), .val (.ref x_ALL), .val (.int (4 : Int32)), .val (.int (1 : Int32)), .val (.ref x_RLE)] [])) := fun t k => P25 t (by
    show Steps p.tables e below (T19.setTop (mkF m 39 #[.val (.int q1), .val (.int v15), .val (.ref x_ALL), .val (.int (4 : Int32)), .val (.int (1 : Int32)), .val (.ref x_RLE)] [(.int v24), (.int v15)])) _
    refine XS.ior X19.here hx rfl (hb hby d1_39) rfl ?_
    show Steps p.tables e below (T19.setTop (mkF m 40 #[.val (.int q1), .val (.int v15), .val (.ref x_ALL), .val (.int (4 : Int32)), .val (.int (1 : Int32)), .val (.ref x_RLE)] [(.int (v15 ||| v24))])) _
    refine XS.istoreN X19.here hx rfl (hb hby d1_40) rfl (l' := #[.val (.int q1), .val (.int (v15 ||| v24)), .val (.ref x_ALL), .val (.int (4 : Int32)), .val (.int (1 : Int32)), .val (.ref x_RLE)]) rfl ?_
    exact k)
  obtain ⟨v27, hv27, P28⟩ : ∃ z : Int32, z = (v15 ||| v24) ∧ own_Rch p.tables e below A0 (T19.setTop (mkF m 41 #[.val (.int q1), .val (.int z), .val (.ref x_ALL), .val (.int (4 : Int32)), .val (.int (1 : Int32)), .val (.ref x_RLE)] [])) := ⟨_, rfl, P26⟩
  have P30 : own_Rch p.tables e below A0 (T19.setTop (mkF m 27 #[.val (.int q1), .val (.int v27), .val (.ref x_ALL), .val (.int (4 : Int32)), .val (.int (2 : Int32)), .val (.ref x_BIT_PACKED)] [(.ref x_BIT_PACKED), (.int v27)])) := fun t k => P28 t (by
    show Steps p.tables e below (T19.setTop (mkF m 41 #[.val (.int q1), .val (.int v27), .val (.ref x_ALL), .val (.int (4 : Int32)), .val (.int (1 : Int32)), .val (.ref x_RLE)] [])) _
    refine XS.iinc X19.here hx rfl (hb hby d1_41) rfl (l' := #[.val (.int q1), .val (.int v27), .val (.ref x_ALL), .val (.int (4 : Int32)), .val (.int (2 : Int32)), .val (.ref x_RLE)]) rfl ?_
    show Steps p.tables e below (T19.setTop (mkF m 44 #[.val (.int q1), .val (.int v27), .val (.ref x_ALL), .val (.int (4 : Int32)), .val (.int (2 : Int32)), .val (.ref x_RLE)] [])) _
    refine XS.goto X19.here hx rfl (pc0 := 44) (pc' := 12) rfl (hb hby d1_44) (by decide) (by decide) ?_
    show Steps p.tables e below (T19.setTop (mkF m 12 #[.val (.int q1), .val (.int v27), .val (.ref x_ALL), .val (.int (4 : Int32)), .val (.int (2 : Int32)), .val (.ref x_RLE)] [])) _
    refine XS.iload X19.here hx rfl (hb hby d1_12) rfl ?_
    show Steps p.tables e below (T19.setTop (mkF m 14 #[.val (.int q1), .val (.int v27), .val (.ref x_ALL), .val (.int (4 : Int32)), .val (.int (2 : Int32)), .val (.ref x_RLE)] [(.int (2 : Int32))])) _
    refine XS.iloadN X19.here hx rfl (hb hby d1_14) rfl ?_
    show Steps p.tables e below (T19.setTop (mkF m 15 #[.val (.int q1), .val (.int v27), .val (.ref x_ALL), .val (.int (4 : Int32)), .val (.int (2 : Int32)), .val (.ref x_RLE)] [(.int (4 : Int32)), (.int (2 : Int32))])) _
    refine XS.icmpNo X19.here hx rfl (hb hby d1_15) rfl (tlt (by decide : (2 : Int32) < (4 : Int32))).2.1 ?_
    show Steps p.tables e below (T19.setTop (mkF m 18 #[.val (.int q1), .val (.int v27), .val (.ref x_ALL), .val (.int (4 : Int32)), .val (.int (2 : Int32)), .val (.ref x_RLE)] [])) _
    refine XS.aloadN X19.here hx rfl (hb hby d1_18) rfl rfl ?_
    show Steps p.tables e below (T19.setTop (mkF m 19 #[.val (.int q1), .val (.int v27), .val (.ref x_ALL), .val (.int (4 : Int32)), .val (.int (2 : Int32)), .val (.ref x_RLE)] [(.ref x_ALL)])) _
    refine XS.iload X19.here hx rfl (hb hby d1_19) rfl ?_
    show Steps p.tables e below (T19.setTop (mkF m 21 #[.val (.int q1), .val (.int v27), .val (.ref x_ALL), .val (.int (4 : Int32)), .val (.int (2 : Int32)), .val (.ref x_RLE)] [(.int (2 : Int32)), (.ref x_ALL)])) _
    obtain ⟨cl29, Ar29, -, S29, N29, H29, -⟩ := id V_ALL
    have hin29 : ¬ ((2 : Int32) < 0 ∨ cl29.slots.size ≤ ((2 : Int32)).toNatClampNeg) := inb_of S29 ⟨by decide, by decide⟩
    have hat29 := H29.at hin29 (v := (.ref x_BIT_PACKED)) rfl
    refine X19.aaload hx (j := (2 : Int32)) (v := (.ref x_BIT_PACKED)) (by rw [e19]; exact Ar29.1) (State.isArrayOf_alike hZ.alike Ar29.2.1) rfl Ar29.2.2 hin29 hat29 (g := (mkF m 21 #[.val (.int q1), .val (.int v27), .val (.ref x_ALL), .val (.int (4 : Int32)), .val (.int (2 : Int32)), .val (.ref x_RLE)] [(.int (2 : Int32)), (.ref x_ALL)])) rfl rfl (hb hby d1_21) _ ?_
    show Steps p.tables e below (T19.setTop (mkF m 22 #[.val (.int q1), .val (.int v27), .val (.ref x_ALL), .val (.int (4 : Int32)), .val (.int (2 : Int32)), .val (.ref x_RLE)] [(.ref x_BIT_PACKED)])) _
    refine XS.astore X19.here hx rfl (hb hby d1_22) rfl rfl (l' := #[.val (.int q1), .val (.int v27), .val (.ref x_ALL), .val (.int (4 : Int32)), .val (.int (2 : Int32)), .val (.ref x_BIT_PACKED)]) rfl ?_
    show Steps p.tables e below (T19.setTop (mkF m 24 #[.val (.int q1), .val (.int v27), .val (.ref x_ALL), .val (.int (4 : Int32)), .val (.int (2 : Int32)), .val (.ref x_BIT_PACKED)] [])) _
    refine XS.iloadN X19.here hx rfl (hb hby d1_24) rfl ?_
    show Steps p.tables e below (T19.setTop (mkF m 25 #[.val (.int q1), .val (.int v27), .val (.ref x_ALL), .val (.int (4 : Int32)), .val (.int (2 : Int32)), .val (.ref x_BIT_PACKED)] [(.int v27)])) _
    refine XS.aload X19.here hx rfl (hb hby d1_25) rfl rfl ?_
    exact k)
  obtain ⟨T31, X31, e31, st31⟩ := getF X19 hx hZ hown (host := "") (Or.inl (hw _ (List.mem_of_getElem? (i := 7) rfl))) Via.refl e19 F_BIT_PACKED (g := (mkF m 27 #[.val (.int q1), .val (.int v27), .val (.ref x_ALL), .val (.int (4 : Int32)), .val (.int (2 : Int32)), .val (.ref x_BIT_PACKED)] [(.ref x_BIT_PACKED), (.int v27)])) rfl rfl (hb hby d1_27)
  have P32 : own_Rch p.tables e below A0 (T31.setTop (mkF m 30 #[.val (.int q1), .val (.int v27), .val (.ref x_ALL), .val (.int (4 : Int32)), .val (.int (2 : Int32)), .val (.ref x_BIT_PACKED)] [(.int (4 : Int32)), (.int v27)])) := fun t k => P30 t (st31 t k)
  have P34 : own_Rch p.tables e below A0 (T31.setTop (mkF m 31 #[.val (.int q1), .val (.int v27), .val (.ref x_ALL), .val (.int (4 : Int32)), .val (.int (2 : Int32)), .val (.ref x_BIT_PACKED)] [(.int q1), (.int (4 : Int32)), (.int v27)])) := fun t k => P32 t (by
    show Steps p.tables e below (T31.setTop (mkF m 30 #[.val (.int q1), .val (.int v27), .val (.ref x_ALL), .val (.int (4 : Int32)), .val (.int (2 : Int32)), .val (.ref x_BIT_PACKED)] [(.int (4 : Int32)), (.int v27)])) _
    refine XS.iloadN X31.here hx rfl (hb hby d1_30) rfl ?_
    exact k)
  obtain ⟨v36, hv36⟩ : ∃ z : Int32, z = (if (4 : Int32) = q1 then (1 : Int32) else (0 : Int32)) := ⟨_, rfl⟩
  have P37 : own_Rch p.tables e below A0 (T31.setTop (mkF m 39 #[.val (.int q1), .val (.int v27), .val (.ref x_ALL), .val (.int (4 : Int32)), .val (.int (2 : Int32)), .val (.ref x_BIT_PACKED)] [(.int v36), (.int v27)])) := fun t k => P34 t (by
    by_cases hc35 : (4 : Int32) = q1
    · show Steps p.tables e below (T31.setTop (mkF m 31 #[.val (.int q1), .val (.int v27), .val (.ref x_ALL), .val (.int (4 : Int32)), .val (.int (2 : Int32)), .val (.ref x_BIT_PACKED)] [(.int q1), (.int (4 : Int32)), (.int v27)])) _
      refine XS.icmpNo X31.here hx rfl (hb hby d1_31) rfl (teq hc35).2 ?_
      have qv36 : v36 = (1 : Int32) := by rw [hv36]; simp only [if_pos hc35]
      rw [qv36] at k
      show Steps p.tables e below (T31.setTop (mkF m 34 #[.val (.int q1), .val (.int v27), .val (.ref x_ALL), .val (.int (4 : Int32)), .val (.int (2 : Int32)), .val (.ref x_BIT_PACKED)] [(.int v27)])) _
      refine XS.iconst X31.here hx rfl (hb hby d1_34) ?_
      show Steps p.tables e below (T31.setTop (mkF m 35 #[.val (.int q1), .val (.int v27), .val (.ref x_ALL), .val (.int (4 : Int32)), .val (.int (2 : Int32)), .val (.ref x_BIT_PACKED)] [(.int (1 : Int32)), (.int v27)])) _
      refine XS.goto X31.here hx rfl (pc0 := 35) (pc' := 39) rfl (hb hby d1_35) (by decide) (by decide) ?_
      exact k
    · show Steps p.tables e below (T31.setTop (mkF m 31 #[.val (.int q1), .val (.int v27), .val (.ref x_ALL), .val (.int (4 : Int32)), .val (.int (2 : Int32)), .val (.ref x_BIT_PACKED)] [(.int q1), (.int (4 : Int32)), (.int v27)])) _
      refine XS.icmpYes X31.here hx rfl (pc0 := 31) (pc' := 38) rfl (hb hby d1_31) rfl (feq hc35).2 (by decide) (by decide) ?_
      have qv36 : v36 = (0 : Int32) := by rw [hv36]; simp only [if_neg hc35]
      rw [qv36] at k
      show Steps p.tables e below (T31.setTop (mkF m 38 #[.val (.int q1), .val (.int v27), .val (.ref x_ALL), .val (.int (4 : Int32)), .val (.int (2 : Int32)), .val (.ref x_BIT_PACKED)] [(.int v27)])) _
      refine XS.iconst X31.here hx rfl (hb hby d1_38) ?_
      exact k)
  have P38 : own_Rch p.tables e below A0 (T31.setTop (mkF m 41 #[.val (.int q1), .val (.int (v27 ||| v36)), .val (.ref x_ALL), .val (.int (4 : Int32)), .val (.int (2 : Int32)), .val (.ref x_BIT_PACKED)] [])) := fun t k => P37 t (by
    show Steps p.tables e below (T31.setTop (mkF m 39 #[.val (.int q1), .val (.int v27), .val (.ref x_ALL), .val (.int (4 : Int32)), .val (.int (2 : Int32)), .val (.ref x_BIT_PACKED)] [(.int v36), (.int v27)])) _
    refine XS.ior X31.here hx rfl (hb hby d1_39) rfl ?_
    show Steps p.tables e below (T31.setTop (mkF m 40 #[.val (.int q1), .val (.int v27), .val (.ref x_ALL), .val (.int (4 : Int32)), .val (.int (2 : Int32)), .val (.ref x_BIT_PACKED)] [(.int (v27 ||| v36))])) _
    refine XS.istoreN X31.here hx rfl (hb hby d1_40) rfl (l' := #[.val (.int q1), .val (.int (v27 ||| v36)), .val (.ref x_ALL), .val (.int (4 : Int32)), .val (.int (2 : Int32)), .val (.ref x_BIT_PACKED)]) rfl ?_
    exact k)
  obtain ⟨v39, hv39, P40⟩ : ∃ z : Int32, z = (v27 ||| v36) ∧ own_Rch p.tables e below A0 (T31.setTop (mkF m 41 #[.val (.int q1), .val (.int z), .val (.ref x_ALL), .val (.int (4 : Int32)), .val (.int (2 : Int32)), .val (.ref x_BIT_PACKED)] [])) := ⟨_, rfl, P38⟩
  have P42 : own_Rch p.tables e below A0 (T31.setTop (mkF m 27 #[.val (.int q1), .val (.int v39), .val (.ref x_ALL), .val (.int (4 : Int32)), .val (.int (3 : Int32)), .val (.ref x_PLAIN_DICTIONARY)] [(.ref x_PLAIN_DICTIONARY), (.int v39)])) := fun t k => P40 t (by
    show Steps p.tables e below (T31.setTop (mkF m 41 #[.val (.int q1), .val (.int v39), .val (.ref x_ALL), .val (.int (4 : Int32)), .val (.int (2 : Int32)), .val (.ref x_BIT_PACKED)] [])) _
    refine XS.iinc X31.here hx rfl (hb hby d1_41) rfl (l' := #[.val (.int q1), .val (.int v39), .val (.ref x_ALL), .val (.int (4 : Int32)), .val (.int (3 : Int32)), .val (.ref x_BIT_PACKED)]) rfl ?_
    show Steps p.tables e below (T31.setTop (mkF m 44 #[.val (.int q1), .val (.int v39), .val (.ref x_ALL), .val (.int (4 : Int32)), .val (.int (3 : Int32)), .val (.ref x_BIT_PACKED)] [])) _
    refine XS.goto X31.here hx rfl (pc0 := 44) (pc' := 12) rfl (hb hby d1_44) (by decide) (by decide) ?_
    show Steps p.tables e below (T31.setTop (mkF m 12 #[.val (.int q1), .val (.int v39), .val (.ref x_ALL), .val (.int (4 : Int32)), .val (.int (3 : Int32)), .val (.ref x_BIT_PACKED)] [])) _
    refine XS.iload X31.here hx rfl (hb hby d1_12) rfl ?_
    show Steps p.tables e below (T31.setTop (mkF m 14 #[.val (.int q1), .val (.int v39), .val (.ref x_ALL), .val (.int (4 : Int32)), .val (.int (3 : Int32)), .val (.ref x_BIT_PACKED)] [(.int (3 : Int32))])) _
    refine XS.iloadN X31.here hx rfl (hb hby d1_14) rfl ?_
    show Steps p.tables e below (T31.setTop (mkF m 15 #[.val (.int q1), .val (.int v39), .val (.ref x_ALL), .val (.int (4 : Int32)), .val (.int (3 : Int32)), .val (.ref x_BIT_PACKED)] [(.int (4 : Int32)), (.int (3 : Int32))])) _
    refine XS.icmpNo X31.here hx rfl (hb hby d1_15) rfl (tlt (by decide : (3 : Int32) < (4 : Int32))).2.1 ?_
    show Steps p.tables e below (T31.setTop (mkF m 18 #[.val (.int q1), .val (.int v39), .val (.ref x_ALL), .val (.int (4 : Int32)), .val (.int (3 : Int32)), .val (.ref x_BIT_PACKED)] [])) _
    refine XS.aloadN X31.here hx rfl (hb hby d1_18) rfl rfl ?_
    show Steps p.tables e below (T31.setTop (mkF m 19 #[.val (.int q1), .val (.int v39), .val (.ref x_ALL), .val (.int (4 : Int32)), .val (.int (3 : Int32)), .val (.ref x_BIT_PACKED)] [(.ref x_ALL)])) _
    refine XS.iload X31.here hx rfl (hb hby d1_19) rfl ?_
    show Steps p.tables e below (T31.setTop (mkF m 21 #[.val (.int q1), .val (.int v39), .val (.ref x_ALL), .val (.int (4 : Int32)), .val (.int (3 : Int32)), .val (.ref x_BIT_PACKED)] [(.int (3 : Int32)), (.ref x_ALL)])) _
    obtain ⟨cl41, Ar41, -, S41, N41, H41, -⟩ := id V_ALL
    have hin41 : ¬ ((3 : Int32) < 0 ∨ cl41.slots.size ≤ ((3 : Int32)).toNatClampNeg) := inb_of S41 ⟨by decide, by decide⟩
    have hat41 := H41.at hin41 (v := (.ref x_PLAIN_DICTIONARY)) rfl
    refine X31.aaload hx (j := (3 : Int32)) (v := (.ref x_PLAIN_DICTIONARY)) (by rw [e31]; exact Ar41.1) (State.isArrayOf_alike hZ.alike Ar41.2.1) rfl Ar41.2.2 hin41 hat41 (g := (mkF m 21 #[.val (.int q1), .val (.int v39), .val (.ref x_ALL), .val (.int (4 : Int32)), .val (.int (3 : Int32)), .val (.ref x_BIT_PACKED)] [(.int (3 : Int32)), (.ref x_ALL)])) rfl rfl (hb hby d1_21) _ ?_
    show Steps p.tables e below (T31.setTop (mkF m 22 #[.val (.int q1), .val (.int v39), .val (.ref x_ALL), .val (.int (4 : Int32)), .val (.int (3 : Int32)), .val (.ref x_BIT_PACKED)] [(.ref x_PLAIN_DICTIONARY)])) _
    refine XS.astore X31.here hx rfl (hb hby d1_22) rfl rfl (l' := #[.val (.int q1), .val (.int v39), .val (.ref x_ALL), .val (.int (4 : Int32)), .val (.int (3 : Int32)), .val (.ref x_PLAIN_DICTIONARY)]) rfl ?_
    show Steps p.tables e below (T31.setTop (mkF m 24 #[.val (.int q1), .val (.int v39), .val (.ref x_ALL), .val (.int (4 : Int32)), .val (.int (3 : Int32)), .val (.ref x_PLAIN_DICTIONARY)] [])) _
    refine XS.iloadN X31.here hx rfl (hb hby d1_24) rfl ?_
    show Steps p.tables e below (T31.setTop (mkF m 25 #[.val (.int q1), .val (.int v39), .val (.ref x_ALL), .val (.int (4 : Int32)), .val (.int (3 : Int32)), .val (.ref x_PLAIN_DICTIONARY)] [(.int v39)])) _
    refine XS.aload X31.here hx rfl (hb hby d1_25) rfl rfl ?_
    exact k)
  obtain ⟨T43, X43, e43, st43⟩ := getF X31 hx hZ hown (host := "") (Or.inl (hw _ (List.mem_of_getElem? (i := 7) rfl))) Via.refl e31 F_PLAIN_DICTIONARY (g := (mkF m 27 #[.val (.int q1), .val (.int v39), .val (.ref x_ALL), .val (.int (4 : Int32)), .val (.int (3 : Int32)), .val (.ref x_PLAIN_DICTIONARY)] [(.ref x_PLAIN_DICTIONARY), (.int v39)])) rfl rfl (hb hby d1_27)
  have P44 : own_Rch p.tables e below A0 (T43.setTop (mkF m 30 #[.val (.int q1), .val (.int v39), .val (.ref x_ALL), .val (.int (4 : Int32)), .val (.int (3 : Int32)), .val (.ref x_PLAIN_DICTIONARY)] [(.int (2 : Int32)), (.int v39)])) := fun t k => P42 t (st43 t k)
  have P46 : own_Rch p.tables e below A0 (T43.setTop (mkF m 31 #[.val (.int q1), .val (.int v39), .val (.ref x_ALL), .val (.int (4 : Int32)), .val (.int (3 : Int32)), .val (.ref x_PLAIN_DICTIONARY)] [(.int q1), (.int (2 : Int32)), (.int v39)])) := fun t k => P44 t (by
    show Steps p.tables e below (T43.setTop (mkF m 30 #[.val (.int q1), .val (.int v39), .val (.ref x_ALL), .val (.int (4 : Int32)), .val (.int (3 : Int32)), .val (.ref x_PLAIN_DICTIONARY)] [(.int (2 : Int32)), (.int v39)])) _
    refine XS.iloadN X43.here hx rfl (hb hby d1_30) rfl ?_
    exact k)
  obtain ⟨v48, hv48⟩ : ∃ z : Int32, z = (if (2 : Int32) = q1 then (1 : Int32) else (0 : Int32)) := ⟨_, rfl⟩
  have P49 : own_Rch p.tables e below A0 (T43.setTop (mkF m 39 #[.val (.int q1), .val (.int v39), .val (.ref x_ALL), .val (.int (4 : Int32)), .val (.int (3 : Int32)), .val (.ref x_PLAIN_DICTIONARY)] [(.int v48), (.int v39)])) := fun t k => P46 t (by
    by_cases hc47 : (2 : Int32) = q1
    · show Steps p.tables e below (T43.setTop (mkF m 31 #[.val (.int q1), .val (.int v39), .val (.ref x_ALL), .val (.int (4 : Int32)), .val (.int (3 : Int32)), .val (.ref x_PLAIN_DICTIONARY)] [(.int q1), (.int (2 : Int32)), (.int v39)])) _
      refine XS.icmpNo X43.here hx rfl (hb hby d1_31) rfl (teq hc47).2 ?_
      have qv48 : v48 = (1 : Int32) := by rw [hv48]; simp only [if_pos hc47]
      rw [qv48] at k
      show Steps p.tables e below (T43.setTop (mkF m 34 #[.val (.int q1), .val (.int v39), .val (.ref x_ALL), .val (.int (4 : Int32)), .val (.int (3 : Int32)), .val (.ref x_PLAIN_DICTIONARY)] [(.int v39)])) _
      refine XS.iconst X43.here hx rfl (hb hby d1_34) ?_
      show Steps p.tables e below (T43.setTop (mkF m 35 #[.val (.int q1), .val (.int v39), .val (.ref x_ALL), .val (.int (4 : Int32)), .val (.int (3 : Int32)), .val (.ref x_PLAIN_DICTIONARY)] [(.int (1 : Int32)), (.int v39)])) _
      refine XS.goto X43.here hx rfl (pc0 := 35) (pc' := 39) rfl (hb hby d1_35) (by decide) (by decide) ?_
      exact k
    · show Steps p.tables e below (T43.setTop (mkF m 31 #[.val (.int q1), .val (.int v39), .val (.ref x_ALL), .val (.int (4 : Int32)), .val (.int (3 : Int32)), .val (.ref x_PLAIN_DICTIONARY)] [(.int q1), (.int (2 : Int32)), (.int v39)])) _
      refine XS.icmpYes X43.here hx rfl (pc0 := 31) (pc' := 38) rfl (hb hby d1_31) rfl (feq hc47).2 (by decide) (by decide) ?_
      have qv48 : v48 = (0 : Int32) := by rw [hv48]; simp only [if_neg hc47]
      rw [qv48] at k
      show Steps p.tables e below (T43.setTop (mkF m 38 #[.val (.int q1), .val (.int v39), .val (.ref x_ALL), .val (.int (4 : Int32)), .val (.int (3 : Int32)), .val (.ref x_PLAIN_DICTIONARY)] [(.int v39)])) _
      refine XS.iconst X43.here hx rfl (hb hby d1_38) ?_
      exact k)
  have P50 : own_Rch p.tables e below A0 (T43.setTop (mkF m 41 #[.val (.int q1), .val (.int (v39 ||| v48)), .val (.ref x_ALL), .val (.int (4 : Int32)), .val (.int (3 : Int32)), .val (.ref x_PLAIN_DICTIONARY)] [])) := fun t k => P49 t (by
    show Steps p.tables e below (T43.setTop (mkF m 39 #[.val (.int q1), .val (.int v39), .val (.ref x_ALL), .val (.int (4 : Int32)), .val (.int (3 : Int32)), .val (.ref x_PLAIN_DICTIONARY)] [(.int v48), (.int v39)])) _
    refine XS.ior X43.here hx rfl (hb hby d1_39) rfl ?_
    show Steps p.tables e below (T43.setTop (mkF m 40 #[.val (.int q1), .val (.int v39), .val (.ref x_ALL), .val (.int (4 : Int32)), .val (.int (3 : Int32)), .val (.ref x_PLAIN_DICTIONARY)] [(.int (v39 ||| v48))])) _
    refine XS.istoreN X43.here hx rfl (hb hby d1_40) rfl (l' := #[.val (.int q1), .val (.int (v39 ||| v48)), .val (.ref x_ALL), .val (.int (4 : Int32)), .val (.int (3 : Int32)), .val (.ref x_PLAIN_DICTIONARY)]) rfl ?_
    exact k)
  obtain ⟨v51, hv51, P52⟩ : ∃ z : Int32, z = (v39 ||| v48) ∧ own_Rch p.tables e below A0 (T43.setTop (mkF m 41 #[.val (.int q1), .val (.int z), .val (.ref x_ALL), .val (.int (4 : Int32)), .val (.int (3 : Int32)), .val (.ref x_PLAIN_DICTIONARY)] [])) := ⟨_, rfl, P50⟩
  have P53 : own_Rch p.tables e below A0 (T43.setTop (mkF m 48 #[.val (.int q1), .val (.int v51), .val (.ref x_ALL), .val (.int (4 : Int32)), .val (.int (4 : Int32)), .val (.ref x_PLAIN_DICTIONARY)] [(.int v51)])) := fun t k => P52 t (by
    show Steps p.tables e below (T43.setTop (mkF m 41 #[.val (.int q1), .val (.int v51), .val (.ref x_ALL), .val (.int (4 : Int32)), .val (.int (3 : Int32)), .val (.ref x_PLAIN_DICTIONARY)] [])) _
    refine XS.iinc X43.here hx rfl (hb hby d1_41) rfl (l' := #[.val (.int q1), .val (.int v51), .val (.ref x_ALL), .val (.int (4 : Int32)), .val (.int (4 : Int32)), .val (.ref x_PLAIN_DICTIONARY)]) rfl ?_
    show Steps p.tables e below (T43.setTop (mkF m 44 #[.val (.int q1), .val (.int v51), .val (.ref x_ALL), .val (.int (4 : Int32)), .val (.int (4 : Int32)), .val (.ref x_PLAIN_DICTIONARY)] [])) _
    refine XS.goto X43.here hx rfl (pc0 := 44) (pc' := 12) rfl (hb hby d1_44) (by decide) (by decide) ?_
    show Steps p.tables e below (T43.setTop (mkF m 12 #[.val (.int q1), .val (.int v51), .val (.ref x_ALL), .val (.int (4 : Int32)), .val (.int (4 : Int32)), .val (.ref x_PLAIN_DICTIONARY)] [])) _
    refine XS.iload X43.here hx rfl (hb hby d1_12) rfl ?_
    show Steps p.tables e below (T43.setTop (mkF m 14 #[.val (.int q1), .val (.int v51), .val (.ref x_ALL), .val (.int (4 : Int32)), .val (.int (4 : Int32)), .val (.ref x_PLAIN_DICTIONARY)] [(.int (4 : Int32))])) _
    refine XS.iloadN X43.here hx rfl (hb hby d1_14) rfl ?_
    show Steps p.tables e below (T43.setTop (mkF m 15 #[.val (.int q1), .val (.int v51), .val (.ref x_ALL), .val (.int (4 : Int32)), .val (.int (4 : Int32)), .val (.ref x_PLAIN_DICTIONARY)] [(.int (4 : Int32)), (.int (4 : Int32))])) _
    refine XS.icmpYes X43.here hx rfl (pc0 := 15) (pc' := 47) rfl (hb hby d1_15) rfl (flt (by decide : ¬ ((4 : Int32) < (4 : Int32)))).2.1 (by decide) (by decide) ?_
    show Steps p.tables e below (T43.setTop (mkF m 47 #[.val (.int q1), .val (.int v51), .val (.ref x_ALL), .val (.int (4 : Int32)), .val (.int (4 : Int32)), .val (.ref x_PLAIN_DICTIONARY)] [])) _
    refine XS.iloadN X43.here hx rfl (hb hby d1_47) rfl ?_
    exact k)
  obtain ⟨fs, hr, hrun, hended, hW, hsame⟩ := X43.leave (v := some (.int (nar .boolean v51))) (fun h => by rw [Bd.returns] at h; cases h)
  refine ⟨_, _, P00 _ (P53 _ ?_), hrun, hended, _, _, rfl, ?_, ⟨_, rfl⟩, hW, hsame.mono (by decide) (by decide)⟩
  · exact retN X43 hx (t := .boolean) Bd.returns (by simp) (hb hby d1_48) hr
  · show Q1 Z q1 x_ALL k_ALL x_PLAIN x_RLE x_BIT_PACKED x_PLAIN_DICTIONARY h0 n0 _ T43.heap _
    rw [e43]
    refine ⟨?_, N0, rfl⟩
    subst hv51 hv48 hv39 hv36 hv27 hv24 hv15 hv12
    (try simp only [own_isW])
    (try rfl)
theorem d2_0 : decode method_2_code 0 = .ok (.iload_n 0, 1) := by decide +kernel
theorem d2_1 : decode method_2_code 1 = .ok (.ifCond .eq 18, 3) := by decide +kernel
theorem d2_4 : decode method_2_code 4 = .ok (.iload_n 0, 1) := by decide +kernel
theorem d2_5 : decode method_2_code 5 = .ok (.iconst 2, 1) := by decide +kernel
theorem d2_6 : decode method_2_code 6 = .ok (.if_icmp .eq 13, 3) := by decide +kernel
theorem d2_9 : decode method_2_code 9 = .ok (.iload_n 0, 1) := by decide +kernel
theorem d2_10 : decode method_2_code 10 = .ok (.iconst 3, 1) := by decide +kernel
theorem d2_11 : decode method_2_code 11 = .ok (.if_icmp .eq 8, 3) := by decide +kernel
theorem d2_14 : decode method_2_code 14 = .ok (.iload_n 0, 1) := by decide +kernel
theorem d2_15 : decode method_2_code 15 = .ok (.iconst 4, 1) := by decide +kernel
theorem d2_16 : decode method_2_code 16 = .ok (.if_icmp .ne 7, 3) := by decide +kernel
theorem d2_19 : decode method_2_code 19 = .ok (.iconst 1, 1) := by decide +kernel
theorem d2_20 : decode method_2_code 20 = .ok (.goto 4, 3) := by decide +kernel
theorem d2_23 : decode method_2_code 23 = .ok (.iconst 0, 1) := by decide +kernel
theorem d2_24 : decode method_2_code 24 = .ok (.ireturn, 1) := by decide +kernel
def own_exp (q1 : Int32) : Int32 := (if q1 = (0 : Int32) then (1 : Int32) else (if q1 = (2 : Int32) then (1 : Int32) else (if q1 = (3 : Int32) then (1 : Int32) else (if q1 = (4 : Int32) then (1 : Int32) else (0 : Int32)))))
theorem pn_1 : plainName "tidemark/format/ParquetEncodingIsWrittenPinLaw" = true := by first | (simp [plainName, overriddenIn]; done) | decide +kernel
theorem ef_2 (m : MethodId) (q1 : Int32) : entryFrame m #[(.int q1)] 1 = mkF m 0 #[.val (.int q1)] [] := by first | (simp [entryFrame, mkF, argsToLocals, Value.category]; done) | rfl
def Q2 (Z : State) (q1 : Int32) (h0 : Heap) (n0 : Nat) (v : Option Value) (h : Heap) (L : List Loc) : Prop := v = some (.int (own_exp q1)) ∧ Fr n0 L ∧ h = h0
set_option maxRecDepth 65536 in
set_option maxHeartbeats 40000000 in
theorem rm2 (l : Launch) (Z : State) (a0 : Array Value) (hw : ∀ d ∈ tables_1, d.before a0 Z = true) (ws : List Jvm.Cond) (q1 : Int32) (h0 : Heap) (n0 : Nat) (Z0 : n0 ≤ h0.size) :
    MetFree l (⟨"tidemark/format/ParquetEncodingIsWrittenPinLaw", "expected", "(I)Z"⟩ : MethodName) (head1 (Jvm.Cond.code (⟨"tidemark/format/ParquetEncodingIsWrittenPinLaw", "expected", "(I)Z"⟩ : MethodName) method_2_code 1 (some .boolean) :: ws) ({ frames := 0, cells := 0, slots := 0, locals := 0 } : Room)) (fun a' U => a' = #[(.int q1)] ∧ Z.Warmed39 U.vm ∧ U.heap = h0) (fun _ _ _ _ _ => True) (fun _ U o U' => ∃ v L, o = .returned v ∧ Q2 Z q1 h0 n0 v U'.heap L ∧ FrameEnd U o U' L ({ frames := 0, cells := 0, slots := 0, locals := 0 } : Room).cells ({ frames := 0, cells := 0, slots := 0, locals := 0 } : Room).slots) := by
  refine MetFree.of_bodySF (plainFor_of_name pn_1) hisR ?_
  intro p e s m args' below meth c s₁ Bd hml0 hP hK
  obtain ⟨hargs, hZ, hh⟩ := hP
  have hx := Bd.exec
  have hby := Bd.bytes
  have hml : c.maxLocals = 1 := hml0
  have hown : s.vm.findClass "tidemark/format/ParquetEncodingIsWrittenPinLaw" = some m.cls := findClass_of_methodNamed Bd.named
  have hnm := (name_of_methodNamed Bd.named Bd.method).1
  have X0 : Stand p l e ({ frames := 0, cells := 0, slots := 0, locals := 0 } : Room) s m args' below meth c s₁ [] 0 0 := Stand.of_body Bd
  have e0 : s₁.heap = h0 := by rw [← hh, Bd.state]; rfl
  have N0 := Fr.nil n0
  obtain ⟨A0, hA0⟩ : ∃ A, A = s₁.setTop (mkF m 0 #[.val (.int q1)] []) := ⟨_, rfl⟩
  have P0 : own_Rch p.tables e below A0 (s₁.setTop (mkF m 0 #[.val (.int q1)] [])) := fun t k => hA0 ▸ k
  have P00 : own_Rch p.tables e below (s₁.setTop (entryFrame m args' 1)) A0 := fun t k => by rw [hargs]; exact castTop (ef_2 m q1) (hA0 ▸ k)
  have P2 : own_Rch p.tables e below A0 (s₁.setTop (mkF m 1 #[.val (.int q1)] [(.int q1)])) := fun t k => P0 t (by
    show Steps p.tables e below (s₁.setTop (mkF m 0 #[.val (.int q1)] [])) _
    refine XS.iloadN X0.here hx rfl (hb hby d2_0) rfl ?_
    exact k)
  by_cases hc1 : q1 = (0 : Int32)
  · -- q1 = (0 : Int32)
    have P3 : own_Rch p.tables e below A0 (s₁.setTop (mkF m 24 #[.val (.int q1)] [(.int (1 : Int32))])) := fun t k => P2 t (by
      show Steps p.tables e below (s₁.setTop (mkF m 1 #[.val (.int q1)] [(.int q1)])) _
      refine XS.ifYes X0.here hx rfl (pc0 := 1) (pc' := 19) rfl (hb hby d2_1) rfl ((if0 _ _).trans (teq hc1).1) (by decide) (by decide) ?_
      show Steps p.tables e below (s₁.setTop (mkF m 19 #[.val (.int q1)] [])) _
      refine XS.iconst X0.here hx rfl (hb hby d2_19) ?_
      show Steps p.tables e below (s₁.setTop (mkF m 20 #[.val (.int q1)] [(.int (1 : Int32))])) _
      refine XS.goto X0.here hx rfl (pc0 := 20) (pc' := 24) rfl (hb hby d2_20) (by decide) (by decide) ?_
      exact k)
    obtain ⟨fs, hr, hrun, hended, hW, hsame⟩ := X0.leave (v := some (.int (nar .boolean (1 : Int32)))) (fun h => by rw [Bd.returns] at h; cases h)
    refine ⟨_, _, P00 _ (P3 _ ?_), hrun, hended, _, _, rfl, ?_, ⟨_, rfl⟩, hW, hsame.mono (by decide) (by decide)⟩
    · exact retN X0 hx (t := .boolean) Bd.returns (by simp) (hb hby d2_24) hr
    · show Q2 Z q1 h0 n0 _ s₁.heap _
      rw [e0]
      refine ⟨?_, N0, rfl⟩
      skip
      (try simp only [own_exp, if_pos hc1])
      (try rfl)
  · -- not q1 = (0 : Int32)
    have P5 : own_Rch p.tables e below A0 (s₁.setTop (mkF m 6 #[.val (.int q1)] [(.int (2 : Int32)), (.int q1)])) := fun t k => P2 t (by
      show Steps p.tables e below (s₁.setTop (mkF m 1 #[.val (.int q1)] [(.int q1)])) _
      refine XS.ifNo X0.here hx rfl (hb hby d2_1) rfl ((if0 _ _).trans (feq hc1).1) ?_
      show Steps p.tables e below (s₁.setTop (mkF m 4 #[.val (.int q1)] [])) _
      refine XS.iloadN X0.here hx rfl (hb hby d2_4) rfl ?_
      show Steps p.tables e below (s₁.setTop (mkF m 5 #[.val (.int q1)] [(.int q1)])) _
      refine XS.iconst X0.here hx rfl (hb hby d2_5) ?_
      exact k)
    by_cases hc4 : q1 = (2 : Int32)
    · -- q1 = (2 : Int32)
      have P6 : own_Rch p.tables e below A0 (s₁.setTop (mkF m 24 #[.val (.int q1)] [(.int (1 : Int32))])) := fun t k => P5 t (by
        show Steps p.tables e below (s₁.setTop (mkF m 6 #[.val (.int q1)] [(.int (2 : Int32)), (.int q1)])) _
        refine XS.icmpYes X0.here hx rfl (pc0 := 6) (pc' := 19) rfl (hb hby d2_6) rfl (teq hc4).1 (by decide) (by decide) ?_
        show Steps p.tables e below (s₁.setTop (mkF m 19 #[.val (.int q1)] [])) _
        refine XS.iconst X0.here hx rfl (hb hby d2_19) ?_
        show Steps p.tables e below (s₁.setTop (mkF m 20 #[.val (.int q1)] [(.int (1 : Int32))])) _
        refine XS.goto X0.here hx rfl (pc0 := 20) (pc' := 24) rfl (hb hby d2_20) (by decide) (by decide) ?_
        exact k)
      obtain ⟨fs, hr, hrun, hended, hW, hsame⟩ := X0.leave (v := some (.int (nar .boolean (1 : Int32)))) (fun h => by rw [Bd.returns] at h; cases h)
      refine ⟨_, _, P00 _ (P6 _ ?_), hrun, hended, _, _, rfl, ?_, ⟨_, rfl⟩, hW, hsame.mono (by decide) (by decide)⟩
      · exact retN X0 hx (t := .boolean) Bd.returns (by simp) (hb hby d2_24) hr
      · show Q2 Z q1 h0 n0 _ s₁.heap _
        rw [e0]
        refine ⟨?_, N0, rfl⟩
        skip
        (try simp only [own_exp, if_neg hc1, if_pos hc4])
        (try rfl)
    · -- not q1 = (2 : Int32)
      have P8 : own_Rch p.tables e below A0 (s₁.setTop (mkF m 11 #[.val (.int q1)] [(.int (3 : Int32)), (.int q1)])) := fun t k => P5 t (by
        show Steps p.tables e below (s₁.setTop (mkF m 6 #[.val (.int q1)] [(.int (2 : Int32)), (.int q1)])) _
        refine XS.icmpNo X0.here hx rfl (hb hby d2_6) rfl (feq hc4).1 ?_
        show Steps p.tables e below (s₁.setTop (mkF m 9 #[.val (.int q1)] [])) _
        refine XS.iloadN X0.here hx rfl (hb hby d2_9) rfl ?_
        show Steps p.tables e below (s₁.setTop (mkF m 10 #[.val (.int q1)] [(.int q1)])) _
        refine XS.iconst X0.here hx rfl (hb hby d2_10) ?_
        exact k)
      by_cases hc7 : q1 = (3 : Int32)
      · -- q1 = (3 : Int32)
        have P9 : own_Rch p.tables e below A0 (s₁.setTop (mkF m 24 #[.val (.int q1)] [(.int (1 : Int32))])) := fun t k => P8 t (by
          show Steps p.tables e below (s₁.setTop (mkF m 11 #[.val (.int q1)] [(.int (3 : Int32)), (.int q1)])) _
          refine XS.icmpYes X0.here hx rfl (pc0 := 11) (pc' := 19) rfl (hb hby d2_11) rfl (teq hc7).1 (by decide) (by decide) ?_
          show Steps p.tables e below (s₁.setTop (mkF m 19 #[.val (.int q1)] [])) _
          refine XS.iconst X0.here hx rfl (hb hby d2_19) ?_
          show Steps p.tables e below (s₁.setTop (mkF m 20 #[.val (.int q1)] [(.int (1 : Int32))])) _
          refine XS.goto X0.here hx rfl (pc0 := 20) (pc' := 24) rfl (hb hby d2_20) (by decide) (by decide) ?_
          exact k)
        obtain ⟨fs, hr, hrun, hended, hW, hsame⟩ := X0.leave (v := some (.int (nar .boolean (1 : Int32)))) (fun h => by rw [Bd.returns] at h; cases h)
        refine ⟨_, _, P00 _ (P9 _ ?_), hrun, hended, _, _, rfl, ?_, ⟨_, rfl⟩, hW, hsame.mono (by decide) (by decide)⟩
        · exact retN X0 hx (t := .boolean) Bd.returns (by simp) (hb hby d2_24) hr
        · show Q2 Z q1 h0 n0 _ s₁.heap _
          rw [e0]
          refine ⟨?_, N0, rfl⟩
          skip
          (try simp only [own_exp, if_neg hc1, if_neg hc4, if_pos hc7])
          (try rfl)
      · -- not q1 = (3 : Int32)
        have P11 : own_Rch p.tables e below A0 (s₁.setTop (mkF m 16 #[.val (.int q1)] [(.int (4 : Int32)), (.int q1)])) := fun t k => P8 t (by
          show Steps p.tables e below (s₁.setTop (mkF m 11 #[.val (.int q1)] [(.int (3 : Int32)), (.int q1)])) _
          refine XS.icmpNo X0.here hx rfl (hb hby d2_11) rfl (feq hc7).1 ?_
          show Steps p.tables e below (s₁.setTop (mkF m 14 #[.val (.int q1)] [])) _
          refine XS.iloadN X0.here hx rfl (hb hby d2_14) rfl ?_
          show Steps p.tables e below (s₁.setTop (mkF m 15 #[.val (.int q1)] [(.int q1)])) _
          refine XS.iconst X0.here hx rfl (hb hby d2_15) ?_
          exact k)
        by_cases hc10 : q1 = (4 : Int32)
        · -- q1 = (4 : Int32)
          have P12 : own_Rch p.tables e below A0 (s₁.setTop (mkF m 24 #[.val (.int q1)] [(.int (1 : Int32))])) := fun t k => P11 t (by
            show Steps p.tables e below (s₁.setTop (mkF m 16 #[.val (.int q1)] [(.int (4 : Int32)), (.int q1)])) _
            refine XS.icmpNo X0.here hx rfl (hb hby d2_16) rfl (teq hc10).2 ?_
            show Steps p.tables e below (s₁.setTop (mkF m 19 #[.val (.int q1)] [])) _
            refine XS.iconst X0.here hx rfl (hb hby d2_19) ?_
            show Steps p.tables e below (s₁.setTop (mkF m 20 #[.val (.int q1)] [(.int (1 : Int32))])) _
            refine XS.goto X0.here hx rfl (pc0 := 20) (pc' := 24) rfl (hb hby d2_20) (by decide) (by decide) ?_
            exact k)
          obtain ⟨fs, hr, hrun, hended, hW, hsame⟩ := X0.leave (v := some (.int (nar .boolean (1 : Int32)))) (fun h => by rw [Bd.returns] at h; cases h)
          refine ⟨_, _, P00 _ (P12 _ ?_), hrun, hended, _, _, rfl, ?_, ⟨_, rfl⟩, hW, hsame.mono (by decide) (by decide)⟩
          · exact retN X0 hx (t := .boolean) Bd.returns (by simp) (hb hby d2_24) hr
          · show Q2 Z q1 h0 n0 _ s₁.heap _
            rw [e0]
            refine ⟨?_, N0, rfl⟩
            skip
            (try simp only [own_exp, if_neg hc1, if_neg hc4, if_neg hc7, if_pos hc10])
            (try rfl)
        · -- not q1 = (4 : Int32)
          have P13 : own_Rch p.tables e below A0 (s₁.setTop (mkF m 24 #[.val (.int q1)] [(.int (0 : Int32))])) := fun t k => P11 t (by
            show Steps p.tables e below (s₁.setTop (mkF m 16 #[.val (.int q1)] [(.int (4 : Int32)), (.int q1)])) _
            refine XS.icmpYes X0.here hx rfl (pc0 := 16) (pc' := 23) rfl (hb hby d2_16) rfl (feq hc10).2 (by decide) (by decide) ?_
            show Steps p.tables e below (s₁.setTop (mkF m 23 #[.val (.int q1)] [])) _
            refine XS.iconst X0.here hx rfl (hb hby d2_23) ?_
            exact k)
          obtain ⟨fs, hr, hrun, hended, hW, hsame⟩ := X0.leave (v := some (.int (nar .boolean (0 : Int32)))) (fun h => by rw [Bd.returns] at h; cases h)
          refine ⟨_, _, P00 _ (P13 _ ?_), hrun, hended, _, _, rfl, ?_, ⟨_, rfl⟩, hW, hsame.mono (by decide) (by decide)⟩
          · exact retN X0 hx (t := .boolean) Bd.returns (by simp) (hb hby d2_24) hr
          · show Q2 Z q1 h0 n0 _ s₁.heap _
            rw [e0]
            refine ⟨?_, N0, rfl⟩
            skip
            (try simp only [own_exp, if_neg hc1, if_neg hc4, if_neg hc7, if_neg hc10])
            (try rfl)
theorem own_ok (q : Int32) : own_isW q = own_exp q := by
  by_cases h0 : q = 0
  · subst h0; decide
  by_cases h2 : q = 2
  · subst h2; decide
  by_cases h3 : q = 3
  · subst h3; decide
  by_cases h4 : q = 4
  · subst h4; decide
  simp only [own_isW, own_exp, h0, h2, h3, h4, @eq_comm _ _ q, if_false]
  decide
theorem pd_0 : parseMethodDescriptor "(I)Z" = some ⟨[.int], some .boolean⟩ := by decide +kernel
theorem ef_0 (m : MethodId) (i0 : Int32) (i1 : Int32) : entryFrame m #[(.int i0), (.int i1)] maxLocals = mkF m 0 #[.val (.int i0), .val (.int i1), .unset, .unset, .unset] [] := by first | (simp [entryFrame, mkF, argsToLocals, Value.category, maxLocals]; done) | rfl
def Q0 (Z : State) (i0 : Int32) (i1 : Int32) (x_ALL : Addr) (k_ALL : ClassId) (x_PLAIN : Addr) (x_RLE : Addr) (x_BIT_PACKED : Addr) (x_PLAIN_DICTIONARY : Addr) (h0 : Heap) (n0 : Nat) (v : Option Value) (h : Heap) (L : List Loc) : Prop := v = some (.int 1) ∧ Fr n0 L
set_option maxRecDepth 65536 in
set_option maxHeartbeats 40000000 in
theorem rm0 (l : Launch) (Z : State) (a0 : Array Value) (hw : ∀ d ∈ tables_1, d.before a0 Z = true) (ws : List Jvm.Cond) (i0 : Int32) (i1 : Int32) (x_ALL : Addr) (k_ALL : ClassId) (x_PLAIN : Addr) (x_RLE : Addr) (x_BIT_PACKED : Addr) (x_PLAIN_DICTIONARY : Addr) (h0 : Heap) (n0 : Nat) (Z0 : n0 ≤ h0.size) (S_ALL : Sta Z h0 "tidemark/format/ParquetEncoding" "ALL" "[Ltidemark/format/ParquetEncoding;" (.ref x_ALL)) (V_ALL : Arv Z h0 x_ALL k_ALL (.object "tidemark/format/ParquetEncoding") (4 : Int32) [(.ref x_PLAIN), (.ref x_RLE), (.ref x_BIT_PACKED), (.ref x_PLAIN_DICTIONARY)] .null) (F_PLAIN : Fld Z h0 x_PLAIN "tidemark/format/ParquetEncoding" "value" "I" (.int (0 : Int32))) (F_RLE : Fld Z h0 x_RLE "tidemark/format/ParquetEncoding" "value" "I" (.int (3 : Int32))) (F_BIT_PACKED : Fld Z h0 x_BIT_PACKED "tidemark/format/ParquetEncoding" "value" "I" (.int (4 : Int32))) (F_PLAIN_DICTIONARY : Fld Z h0 x_PLAIN_DICTIONARY "tidemark/format/ParquetEncoding" "value" "I" (.int (2 : Int32))) :
    MetFree l x (head1 (Jvm.Cond.code x code maxLocals ret :: ws) room_1) (fun a' U => a' = #[(.int i0), (.int i1)] ∧ Z.Warmed39 U.vm ∧ U.heap = h0) (fun _ _ _ _ _ => True) (fun _ U o U' => ∃ v L, o = .returned v ∧ Q0 Z i0 i1 x_ALL k_ALL x_PLAIN x_RLE x_BIT_PACKED x_PLAIN_DICTIONARY h0 n0 v U'.heap L ∧ FrameEnd U o U' L 0 0) := by
  refine MetFree.of_bodySF (plainFor_of_name pn_1) hisR ?_
  intro p e s m args' below meth c s₁ Bd hml0 hP hK
  obtain ⟨hargs, hZ, hh⟩ := hP
  have hx := Bd.exec
  have hby := Bd.bytes
  have hml : c.maxLocals = 5 := hml0
  have hown : s.vm.findClass "tidemark/format/ParquetEncodingIsWrittenPinLaw" = some m.cls := findClass_of_methodNamed Bd.named
  have hnm := (name_of_methodNamed Bd.named Bd.method).1
  have X0 : Stand p l e room_1 s m args' below meth c s₁ [] 0 0 := Stand.of_body Bd
  have e0 : s₁.heap = h0 := by rw [← hh, Bd.state]; rfl
  have N0 := Fr.nil n0
  obtain ⟨A0, hA0⟩ : ∃ A, A = s₁.setTop (mkF m 0 #[.val (.int i0), .val (.int i1), .unset, .unset, .unset] []) := ⟨_, rfl⟩
  have P0 : own_Rch p.tables e below A0 (s₁.setTop (mkF m 0 #[.val (.int i0), .val (.int i1), .unset, .unset, .unset] [])) := fun t k => hA0 ▸ k
  have P00 : own_Rch p.tables e below (s₁.setTop (entryFrame m args' maxLocals)) A0 := fun t k => by rw [hargs]; exact castTop (ef_0 m i0 i1) (hA0 ▸ k)
  have P1 : own_Rch p.tables e below A0 (s₁.setTop (mkF m 7 #[.val (.int i0), .val (.int i1), .val (.int ((i1 &&& (7 : Int32)) - (1 : Int32))), .unset, .unset] [])) := fun t k => P0 t (by
    show Steps p.tables e below (s₁.setTop (mkF m 0 #[.val (.int i0), .val (.int i1), .unset, .unset, .unset] [])) _
    refine XS.iloadN X0.here hx rfl (hb hby at_0) rfl ?_
    show Steps p.tables e below (s₁.setTop (mkF m 1 #[.val (.int i0), .val (.int i1), .unset, .unset, .unset] [(.int i1)])) _
    refine XS.bipush X0.here hx rfl (hb hby at_1) ?_
    show Steps p.tables e below (s₁.setTop (mkF m 3 #[.val (.int i0), .val (.int i1), .unset, .unset, .unset] [(.int (7 : Int32)), (.int i1)])) _
    refine XS.iand X0.here hx rfl (hb hby at_3) rfl ?_
    show Steps p.tables e below (s₁.setTop (mkF m 4 #[.val (.int i0), .val (.int i1), .unset, .unset, .unset] [(.int (i1 &&& (7 : Int32)))])) _
    refine XS.iconst X0.here hx rfl (hb hby at_4) ?_
    show Steps p.tables e below (s₁.setTop (mkF m 5 #[.val (.int i0), .val (.int i1), .unset, .unset, .unset] [(.int (1 : Int32)), (.int (i1 &&& (7 : Int32)))])) _
    refine XS.isub X0.here hx rfl (hb hby at_5) rfl ?_
    show Steps p.tables e below (s₁.setTop (mkF m 6 #[.val (.int i0), .val (.int i1), .unset, .unset, .unset] [(.int ((i1 &&& (7 : Int32)) - (1 : Int32)))])) _
    refine XS.istoreN X0.here hx rfl (hb hby at_6) rfl (l' := #[.val (.int i0), .val (.int i1), .val (.int ((i1 &&& (7 : Int32)) - (1 : Int32))), .unset, .unset]) rfl ?_
    exact k)
  obtain ⟨v2, hv2, P3⟩ : ∃ z : Int32, z = ((i1 &&& (7 : Int32)) - (1 : Int32)) ∧ own_Rch p.tables e below A0 (s₁.setTop (mkF m 7 #[.val (.int i0), .val (.int i1), .val (.int z), .unset, .unset] [])) := ⟨_, rfl, P1⟩
  have P4 : own_Rch p.tables e below A0 (s₁.setTop (mkF m 8 #[.val (.int i0), .val (.int i1), .val (.int v2), .unset, .unset] [(.int i0)])) := fun t k => P3 t (by
    show Steps p.tables e below (s₁.setTop (mkF m 7 #[.val (.int i0), .val (.int i1), .val (.int v2), .unset, .unset] [])) _
    refine XS.iloadN X0.here hx rfl (hb hby at_7) rfl ?_
    exact k)
  obtain ⟨_, _, ⟨T5, L5, k5, n5⟩, -, X5, ⟨Lc5, hQ5, l5, y5, z5⟩, st5⟩ := Jvm.LawKit.callS X0 hx (y := (⟨"tidemark/format/ParquetEncoding", "isWritten", "(I)Z"⟩ : MethodName)) hown (mvT hZ (hw _ (List.mem_of_getElem? (i := 0) rfl))) (mvT hZ (hw _ (List.mem_of_getElem? (i := 1) rfl))) (mvT hZ (hw _ (List.mem_of_getElem? (i := 2) rfl))) (mvT hZ (hw _ (List.mem_of_getElem? (i := 3) rfl))) (by decide) (backOf (W := 0) (rm1 l Z a0 hw [] i0 x_ALL k_ALL x_PLAIN x_RLE x_BIT_PACKED x_PLAIN_DICTIONARY h0 n0 Z0 S_ALL V_ALL F_PLAIN F_RLE F_BIT_PACKED F_PLAIN_DICTIONARY) hZ (hw _ (List.mem_of_getElem? (i := 3) rfl)) (hw _ (List.mem_of_getElem? (i := 2) rfl)) (by decide) (by decide)) (g := (mkF m 8 #[.val (.int i0), .val (.int i1), .val (.int v2), .unset, .unset] [(.int i0)])) rfl (by rw [hml]; rfl) (argsL := [(.int i0)]) (rest := []) (lenOf pd_0 rfl) rfl (by show 2 * 0 + _ ≤ _; exact Nat.le_of_eq rfl) (hb hby at_8) (fun _ _ => ⟨rfl, e0, (by decide : (0) + 0 ≤ _), (by decide : (0) + 0 ≤ _)⟩)
  dsimp only [Pt.U, Pt.locs, Pt.cells, Pt.slots] at X5 l5 y5 z5 st5 hQ5
  subst l5 y5 z5
  obtain ⟨rfl, N5q, e5⟩ := hQ5
  have N5 := Fr.app N0 N5q
  have P6 : own_Rch p.tables e below A0 (T5.setTop (mkF m 11 #[.val (.int i0), .val (.int i1), .val (.int v2), .unset, .unset] [(.int (own_isW i0))])) := fun t k => P4 t (st5 t k)
  have P7 : own_Rch p.tables e below A0 (T5.setTop (mkF m 12 #[.val (.int i0), .val (.int i1), .val (.int v2), .unset, .unset] [(.int i0), (.int (own_isW i0))])) := fun t k => P6 t (by
    show Steps p.tables e below (T5.setTop (mkF m 11 #[.val (.int i0), .val (.int i1), .val (.int v2), .unset, .unset] [(.int (own_isW i0))])) _
    refine XS.iloadN X5.here hx rfl (hb hby at_11) rfl ?_
    exact k)
  obtain ⟨_, _, ⟨T8, L8, k8, n8⟩, -, X8, ⟨Lc8, hQ8, l8, y8, z8⟩, st8⟩ := Jvm.LawKit.callS X5 hx (y := (⟨"tidemark/format/ParquetEncodingIsWrittenPinLaw", "expected", "(I)Z"⟩ : MethodName)) hown (mvT hZ (hw _ (List.mem_of_getElem? (i := 12) rfl))) (mvT hZ (hw _ (List.mem_of_getElem? (i := 13) rfl))) (mvT hZ (hw _ (List.mem_of_getElem? (i := 14) rfl))) (mvT hZ (hw _ (List.mem_of_getElem? (i := 15) rfl))) (by decide) (backOf (W := 1) (rm2 l Z a0 hw [] i0 h0 n0 Z0 ) hZ (hw _ (List.mem_of_getElem? (i := 15) rfl)) (hw _ (List.mem_of_getElem? (i := 14) rfl)) (by decide) (by decide)) (g := (mkF m 12 #[.val (.int i0), .val (.int i1), .val (.int v2), .unset, .unset] [(.int i0), (.int (own_isW i0))])) rfl (by rw [hml]; rfl) (argsL := [(.int i0)]) (rest := [(.int (own_isW i0))]) (lenOf pd_0 rfl) rfl (by show 2 * 0 + _ ≤ _; exact Nat.le_of_eq rfl) (hb hby at_12) (fun _ _ => ⟨rfl, e5, (by decide : (0 + 0) + 0 ≤ _), (by decide : (0 + 0) + 0 ≤ _)⟩)
  dsimp only [Pt.U, Pt.locs, Pt.cells, Pt.slots] at X8 l8 y8 z8 st8 hQ8
  subst l8 y8 z8
  obtain ⟨rfl, N8q, e8⟩ := hQ8
  have N8 := Fr.app N5 N8q
  have P9 : own_Rch p.tables e below A0 (T8.setTop (mkF m 15 #[.val (.int i0), .val (.int i1), .val (.int v2), .unset, .unset] [(.int (own_exp i0)), (.int (own_isW i0))])) := fun t k => P7 t (st8 t k)
  obtain ⟨v12, hv12⟩ : ∃ z : Int32, z = (if (own_isW i0) = (own_exp i0) then (1 : Int32) else (0 : Int32)) := ⟨_, rfl⟩
  have P13 : own_Rch p.tables e below A0 (T8.setTop (mkF m 23 #[.val (.int i0), .val (.int i1), .val (.int v2), .unset, .unset] [(.int v12)])) := fun t k => P9 t (by
    by_cases hc11 : (own_isW i0) = (own_exp i0)
    · show Steps p.tables e below (T8.setTop (mkF m 15 #[.val (.int i0), .val (.int i1), .val (.int v2), .unset, .unset] [(.int (own_exp i0)), (.int (own_isW i0))])) _
      refine XS.icmpNo X8.here hx rfl (hb hby at_15) rfl (teq hc11).2 ?_
      have qv12 : v12 = (1 : Int32) := by rw [hv12]; simp only [if_pos hc11]
      rw [qv12] at k
      show Steps p.tables e below (T8.setTop (mkF m 18 #[.val (.int i0), .val (.int i1), .val (.int v2), .unset, .unset] [])) _
      refine XS.iconst X8.here hx rfl (hb hby at_18) ?_
      show Steps p.tables e below (T8.setTop (mkF m 19 #[.val (.int i0), .val (.int i1), .val (.int v2), .unset, .unset] [(.int (1 : Int32))])) _
      refine XS.goto X8.here hx rfl (pc0 := 19) (pc' := 23) rfl (hb hby at_19) (by decide) (by decide) ?_
      exact k
    · show Steps p.tables e below (T8.setTop (mkF m 15 #[.val (.int i0), .val (.int i1), .val (.int v2), .unset, .unset] [(.int (own_exp i0)), (.int (own_isW i0))])) _
      refine XS.icmpYes X8.here hx rfl (pc0 := 15) (pc' := 22) rfl (hb hby at_15) rfl (feq hc11).2 (by decide) (by decide) ?_
      have qv12 : v12 = (0 : Int32) := by rw [hv12]; simp only [if_neg hc11]
      rw [qv12] at k
      show Steps p.tables e below (T8.setTop (mkF m 22 #[.val (.int i0), .val (.int i1), .val (.int v2), .unset, .unset] [])) _
      refine XS.iconst X8.here hx rfl (hb hby at_22) ?_
      exact k)
  have P14 : own_Rch p.tables e below A0 (T8.setTop (mkF m 25 #[.val (.int i0), .val (.int i1), .val (.int v2), .val (.int v12), .unset] [(.int v2)])) := fun t k => P13 t (by
    show Steps p.tables e below (T8.setTop (mkF m 23 #[.val (.int i0), .val (.int i1), .val (.int v2), .unset, .unset] [(.int v12)])) _
    refine XS.istoreN X8.here hx rfl (hb hby at_23) rfl (l' := #[.val (.int i0), .val (.int i1), .val (.int v2), .val (.int v12), .unset]) rfl ?_
    show Steps p.tables e below (T8.setTop (mkF m 24 #[.val (.int i0), .val (.int i1), .val (.int v2), .val (.int v12), .unset] [])) _
    refine XS.iloadN X8.here hx rfl (hb hby at_24) rfl ?_
    exact k)
  obtain ⟨_, _, ⟨T15, L15, k15, n15⟩, -, X15, ⟨Lc15, hQ15, l15, y15, z15⟩, st15⟩ := Jvm.LawKit.callS X8 hx (y := (⟨"tidemark/format/ParquetEncoding", "isWritten", "(I)Z"⟩ : MethodName)) hown (mvT hZ (hw _ (List.mem_of_getElem? (i := 0) rfl))) (mvT hZ (hw _ (List.mem_of_getElem? (i := 1) rfl))) (mvT hZ (hw _ (List.mem_of_getElem? (i := 2) rfl))) (mvT hZ (hw _ (List.mem_of_getElem? (i := 3) rfl))) (by decide) (backOf (W := 0) (rm1 l Z a0 hw [] v2 x_ALL k_ALL x_PLAIN x_RLE x_BIT_PACKED x_PLAIN_DICTIONARY h0 n0 Z0 S_ALL V_ALL F_PLAIN F_RLE F_BIT_PACKED F_PLAIN_DICTIONARY) hZ (hw _ (List.mem_of_getElem? (i := 3) rfl)) (hw _ (List.mem_of_getElem? (i := 2) rfl)) (by decide) (by decide)) (g := (mkF m 25 #[.val (.int i0), .val (.int i1), .val (.int v2), .val (.int v12), .unset] [(.int v2)])) rfl (by rw [hml]; rfl) (argsL := [(.int v2)]) (rest := []) (lenOf pd_0 rfl) rfl (by show 2 * 0 + _ ≤ _; exact Nat.le_of_eq rfl) (hb hby at_25) (fun _ _ => ⟨rfl, e8, (by decide : (0 + 0 + 0) + 0 ≤ _), (by decide : (0 + 0 + 0) + 0 ≤ _)⟩)
  dsimp only [Pt.U, Pt.locs, Pt.cells, Pt.slots] at X15 l15 y15 z15 st15 hQ15
  subst l15 y15 z15
  obtain ⟨rfl, N15q, e15⟩ := hQ15
  have N15 := Fr.app N8 N15q
  have P16 : own_Rch p.tables e below A0 (T15.setTop (mkF m 28 #[.val (.int i0), .val (.int i1), .val (.int v2), .val (.int v12), .unset] [(.int (own_isW v2))])) := fun t k => P14 t (st15 t k)
  have P17 : own_Rch p.tables e below A0 (T15.setTop (mkF m 29 #[.val (.int i0), .val (.int i1), .val (.int v2), .val (.int v12), .unset] [(.int v2), (.int (own_isW v2))])) := fun t k => P16 t (by
    show Steps p.tables e below (T15.setTop (mkF m 28 #[.val (.int i0), .val (.int i1), .val (.int v2), .val (.int v12), .unset] [(.int (own_isW v2))])) _
    refine XS.iloadN X15.here hx rfl (hb hby at_28) rfl ?_
    exact k)
  obtain ⟨_, _, ⟨T18, L18, k18, n18⟩, -, X18, ⟨Lc18, hQ18, l18, y18, z18⟩, st18⟩ := Jvm.LawKit.callS X15 hx (y := (⟨"tidemark/format/ParquetEncodingIsWrittenPinLaw", "expected", "(I)Z"⟩ : MethodName)) hown (mvT hZ (hw _ (List.mem_of_getElem? (i := 12) rfl))) (mvT hZ (hw _ (List.mem_of_getElem? (i := 13) rfl))) (mvT hZ (hw _ (List.mem_of_getElem? (i := 14) rfl))) (mvT hZ (hw _ (List.mem_of_getElem? (i := 15) rfl))) (by decide) (backOf (W := 1) (rm2 l Z a0 hw [] v2 h0 n0 Z0 ) hZ (hw _ (List.mem_of_getElem? (i := 15) rfl)) (hw _ (List.mem_of_getElem? (i := 14) rfl)) (by decide) (by decide)) (g := (mkF m 29 #[.val (.int i0), .val (.int i1), .val (.int v2), .val (.int v12), .unset] [(.int v2), (.int (own_isW v2))])) rfl (by rw [hml]; rfl) (argsL := [(.int v2)]) (rest := [(.int (own_isW v2))]) (lenOf pd_0 rfl) rfl (by show 2 * 0 + _ ≤ _; exact Nat.le_of_eq rfl) (hb hby at_29) (fun _ _ => ⟨rfl, e15, (by decide : (0 + 0 + 0 + 0) + 0 ≤ _), (by decide : (0 + 0 + 0 + 0) + 0 ≤ _)⟩)
  dsimp only [Pt.U, Pt.locs, Pt.cells, Pt.slots] at X18 l18 y18 z18 st18 hQ18
  subst l18 y18 z18
  obtain ⟨rfl, N18q, e18⟩ := hQ18
  have N18 := Fr.app N15 N18q
  have P19 : own_Rch p.tables e below A0 (T18.setTop (mkF m 32 #[.val (.int i0), .val (.int i1), .val (.int v2), .val (.int v12), .unset] [(.int (own_exp v2)), (.int (own_isW v2))])) := fun t k => P17 t (st18 t k)
  obtain ⟨v22, hv22⟩ : ∃ z : Int32, z = (if (own_isW v2) = (own_exp v2) then (1 : Int32) else (0 : Int32)) := ⟨_, rfl⟩
  have P23 : own_Rch p.tables e below A0 (T18.setTop (mkF m 40 #[.val (.int i0), .val (.int i1), .val (.int v2), .val (.int v12), .unset] [(.int v22)])) := fun t k => P19 t (by
    by_cases hc21 : (own_isW v2) = (own_exp v2)
    · show Steps p.tables e below (T18.setTop (mkF m 32 #[.val (.int i0), .val (.int i1), .val (.int v2), .val (.int v12), .unset] [(.int (own_exp v2)), (.int (own_isW v2))])) _
      refine XS.icmpNo X18.here hx rfl (hb hby at_32) rfl (teq hc21).2 ?_
      have qv22 : v22 = (1 : Int32) := by rw [hv22]; simp only [if_pos hc21]
      rw [qv22] at k
      show Steps p.tables e below (T18.setTop (mkF m 35 #[.val (.int i0), .val (.int i1), .val (.int v2), .val (.int v12), .unset] [])) _
      refine XS.iconst X18.here hx rfl (hb hby at_35) ?_
      show Steps p.tables e below (T18.setTop (mkF m 36 #[.val (.int i0), .val (.int i1), .val (.int v2), .val (.int v12), .unset] [(.int (1 : Int32))])) _
      refine XS.goto X18.here hx rfl (pc0 := 36) (pc' := 40) rfl (hb hby at_36) (by decide) (by decide) ?_
      exact k
    · show Steps p.tables e below (T18.setTop (mkF m 32 #[.val (.int i0), .val (.int i1), .val (.int v2), .val (.int v12), .unset] [(.int (own_exp v2)), (.int (own_isW v2))])) _
      refine XS.icmpYes X18.here hx rfl (pc0 := 32) (pc' := 39) rfl (hb hby at_32) rfl (feq hc21).2 (by decide) (by decide) ?_
      have qv22 : v22 = (0 : Int32) := by rw [hv22]; simp only [if_neg hc21]
      rw [qv22] at k
      show Steps p.tables e below (T18.setTop (mkF m 39 #[.val (.int i0), .val (.int i1), .val (.int v2), .val (.int v12), .unset] [])) _
      refine XS.iconst X18.here hx rfl (hb hby at_39) ?_
      exact k)
  have P25 : own_Rch p.tables e below A0 (T18.setTop (mkF m 43 #[.val (.int i0), .val (.int i1), .val (.int v2), .val (.int v12), .val (.int v22)] [(.int v12)])) := fun t k => P23 t (by
    show Steps p.tables e below (T18.setTop (mkF m 40 #[.val (.int i0), .val (.int i1), .val (.int v2), .val (.int v12), .unset] [(.int v22)])) _
    refine XS.istore X18.here hx rfl (hb hby at_40) rfl (l' := #[.val (.int i0), .val (.int i1), .val (.int v2), .val (.int v12), .val (.int v22)]) rfl ?_
    show Steps p.tables e below (T18.setTop (mkF m 42 #[.val (.int i0), .val (.int i1), .val (.int v2), .val (.int v12), .val (.int v22)] [])) _
    refine XS.iloadN X18.here hx rfl (hb hby at_42) rfl ?_
    exact k)
  by_cases hc24 : v12 = (0 : Int32)
  · -- v12 = (0 : Int32)
    have P26 : own_Rch p.tables e below A0 (T18.setTop (mkF m 56 #[.val (.int i0), .val (.int i1), .val (.int v2), .val (.int v12), .val (.int v22)] [(.int (0 : Int32))])) := fun t k => P25 t (by
      show Steps p.tables e below (T18.setTop (mkF m 43 #[.val (.int i0), .val (.int i1), .val (.int v2), .val (.int v12), .val (.int v22)] [(.int v12)])) _
      refine XS.ifYes X18.here hx rfl (pc0 := 43) (pc' := 55) rfl (hb hby at_43) rfl ((if0 _ _).trans (teq hc24).1) (by decide) (by decide) ?_
      show Steps p.tables e below (T18.setTop (mkF m 55 #[.val (.int i0), .val (.int i1), .val (.int v2), .val (.int v12), .val (.int v22)] [])) _
      refine XS.iconst X18.here hx rfl (hb hby at_55) ?_
      exact k)
    obtain ⟨fs, hr, hrun, hended, hW, hsame⟩ := X18.leave (v := some (.int (nar .boolean (0 : Int32)))) (fun h => by rw [Bd.returns] at h; cases h)
    refine ⟨_, _, P00 _ (P26 _ ?_), hrun, hended, _, _, rfl, ?_, ⟨_, rfl⟩, hW, hsame.mono (by decide) (by decide)⟩
    · exact retN X18 hx (t := .boolean) Bd.returns (by simp) (hb hby at_56) hr
    · show Q0 Z i0 i1 x_ALL k_ALL x_PLAIN x_RLE x_BIT_PACKED x_PLAIN_DICTIONARY h0 n0 _ T18.heap _
      rw [e18]
      refine ⟨?_, N18⟩
      exact absurd hc24 (by rw [hv12, if_pos (own_ok _)]; decide)
  · -- not v12 = (0 : Int32)
    have P28 : own_Rch p.tables e below A0 (T18.setTop (mkF m 48 #[.val (.int i0), .val (.int i1), .val (.int v2), .val (.int v12), .val (.int v22)] [(.int v22)])) := fun t k => P25 t (by
      show Steps p.tables e below (T18.setTop (mkF m 43 #[.val (.int i0), .val (.int i1), .val (.int v2), .val (.int v12), .val (.int v22)] [(.int v12)])) _
      refine XS.ifNo X18.here hx rfl (hb hby at_43) rfl ((if0 _ _).trans (feq hc24).1) ?_
      show Steps p.tables e below (T18.setTop (mkF m 46 #[.val (.int i0), .val (.int i1), .val (.int v2), .val (.int v12), .val (.int v22)] [])) _
      refine XS.iload X18.here hx rfl (hb hby at_46) rfl ?_
      exact k)
    by_cases hc27 : v22 = (0 : Int32)
    · -- v22 = (0 : Int32)
      have P29 : own_Rch p.tables e below A0 (T18.setTop (mkF m 56 #[.val (.int i0), .val (.int i1), .val (.int v2), .val (.int v12), .val (.int v22)] [(.int (0 : Int32))])) := fun t k => P28 t (by
        show Steps p.tables e below (T18.setTop (mkF m 48 #[.val (.int i0), .val (.int i1), .val (.int v2), .val (.int v12), .val (.int v22)] [(.int v22)])) _
        refine XS.ifYes X18.here hx rfl (pc0 := 48) (pc' := 55) rfl (hb hby at_48) rfl ((if0 _ _).trans (teq hc27).1) (by decide) (by decide) ?_
        show Steps p.tables e below (T18.setTop (mkF m 55 #[.val (.int i0), .val (.int i1), .val (.int v2), .val (.int v12), .val (.int v22)] [])) _
        refine XS.iconst X18.here hx rfl (hb hby at_55) ?_
        exact k)
      obtain ⟨fs, hr, hrun, hended, hW, hsame⟩ := X18.leave (v := some (.int (nar .boolean (0 : Int32)))) (fun h => by rw [Bd.returns] at h; cases h)
      refine ⟨_, _, P00 _ (P29 _ ?_), hrun, hended, _, _, rfl, ?_, ⟨_, rfl⟩, hW, hsame.mono (by decide) (by decide)⟩
      · exact retN X18 hx (t := .boolean) Bd.returns (by simp) (hb hby at_56) hr
      · show Q0 Z i0 i1 x_ALL k_ALL x_PLAIN x_RLE x_BIT_PACKED x_PLAIN_DICTIONARY h0 n0 _ T18.heap _
        rw [e18]
        refine ⟨?_, N18⟩
        exact absurd hc27 (by rw [hv22, if_pos (own_ok _)]; decide)
    · -- not v22 = (0 : Int32)
      have P30 : own_Rch p.tables e below A0 (T18.setTop (mkF m 56 #[.val (.int i0), .val (.int i1), .val (.int v2), .val (.int v12), .val (.int v22)] [(.int (1 : Int32))])) := fun t k => P28 t (by
        show Steps p.tables e below (T18.setTop (mkF m 48 #[.val (.int i0), .val (.int i1), .val (.int v2), .val (.int v12), .val (.int v22)] [(.int v22)])) _
        refine XS.ifNo X18.here hx rfl (hb hby at_48) rfl ((if0 _ _).trans (feq hc27).1) ?_
        show Steps p.tables e below (T18.setTop (mkF m 51 #[.val (.int i0), .val (.int i1), .val (.int v2), .val (.int v12), .val (.int v22)] [])) _
        refine XS.iconst X18.here hx rfl (hb hby at_51) ?_
        show Steps p.tables e below (T18.setTop (mkF m 52 #[.val (.int i0), .val (.int i1), .val (.int v2), .val (.int v12), .val (.int v22)] [(.int (1 : Int32))])) _
        refine XS.goto X18.here hx rfl (pc0 := 52) (pc' := 56) rfl (hb hby at_52) (by decide) (by decide) ?_
        exact k)
      obtain ⟨fs, hr, hrun, hended, hW, hsame⟩ := X18.leave (v := some (.int (nar .boolean (1 : Int32)))) (fun h => by rw [Bd.returns] at h; cases h)
      refine ⟨_, _, P00 _ (P30 _ ?_), hrun, hended, _, _, rfl, ?_, ⟨_, rfl⟩, hW, hsame.mono (by decide) (by decide)⟩
      · exact retN X18 hx (t := .boolean) Bd.returns (by simp) (hb hby at_56) hr
      · show Q0 Z i0 i1 x_ALL k_ALL x_PLAIN x_RLE x_BIT_PACKED x_PLAIN_DICTIONARY h0 n0 _ T18.heap _
        rw [e18]
        refine ⟨?_, N18⟩
        rfl
theorem own_eqI {args : Array Value} {s : State} {t : Term} {n : Int32} (h : (Cond.eq t (.int n)).value args s none s [] = some true) : t.eval args s none [] s = some (.int n) := by
  obtain ⟨x, y, h1, h2, k1, k2⟩ := cmp_v (Or.inl h)
  have e : y = .int n := by simpa [Term.eval] using h2.symm
  subst e
  obtain ⟨z, rfl⟩ := k2
  have q : z = n := by simpa [Cond.value, h1, h2] using h
  rw [h1, q]
theorem own_eqR {args : Array Value} {s : State} {t u : Term} {a : Addr} (h : (Cond.eq t u).value args s none s [] = some true) (e : u.eval args s none [] s = some (.ref a)) : t.eval args s none [] s = some (.ref a) := by
  obtain ⟨x, y, h1, h2, k1, k2⟩ := cmp_v (Or.inl h)
  cases h2.symm.trans e
  cases x <;> simp [Kin, Value.isRef] at k1 k2
  · simp [Cond.value, h1, h2] at h
  · have q := h; simp [Cond.value, h1, h2] at q; rw [h1, q]
theorem own_fld {args : Array Value} {s : State} {t : Term} {a : Addr} {C n d : String} {v : Value} (e : t.eval args s none [] s = some (.ref a)) (h : (Term.field t C n d).eval args s none [] s = some v) : Fld s s.heap a C n d v := by
  refine Fld.start ?_
  simpa [Term.eval, e] using h
theorem own_len {args : Array Value} {s : State} {t : Term} {a : Addr} {c : Cell} {n : Int32} (e : t.eval args s none [] s = some (.ref a)) (hA : s.arrayAt? a = some c) (h : (Term.length t).eval args s none [] s = some (.int n)) : c.slots.size < 2 ^ 31 ∧ c.slots.size.toInt32 = n := by
  have q := h
  simp [Term.eval, e, hA] at q
  exact ⟨by simpa using q.1, q.2⟩
theorem own_elem {args : Array Value} {s : State} {t : Term} {a : Addr} {c : Cell} {j : Int32} {v : Value} (e : t.eval args s none [] s = some (.ref a)) (hA : s.arrayAt? a = some c) (h : (Term.elem t (.int j)).eval args s none [] s = some v) : c.slots[j.toNatClampNeg]? = some v := by
  by_cases q : j < 0
  · simp [Term.eval, e, hA, q] at h
  · simpa [Term.eval, e, hA, q] using h
set_option maxRecDepth 65536 in
set_option maxHeartbeats 40000000 in
theorem comes_1 {Post : Tables → Env → Array Value → State → Outcome → State → Prop} (hpost : ∀ tb e args s v u, (limb_1_1.after args s (.returned v) u = true ∧ limb_1_2.after args s (.returned v) u = true ∧ True) → FrameEnd s (.returned v) u (Jvm.fieldLocs frame_1_writes args s ++ Jvm.arrayLocs frame_1_arrays args s ++ Jvm.staticLocs frame_1_statics s) 0 0 → Post tb e args s (.returned v) u) :
    ArmFor flags0 classFile x code maxLocals ret World_1 tables_1 room_1 Calls_1 rest_1 Pre_1 Post := by
  intro l hfl _ _ p e ha hc hk s m args below hf hA hF happ hP
  obtain ⟨hcalls, hrest, hpre⟩ := hP
  obtain ⟨-, -, -, hnamed, -, -, -, hat⟩ := (Spec.applies_iff hf).mp happ
  obtain ⟨hg, hn⟩ := and_e (Cond.before_iff.mp (show (Jvm.Cond.and given_1 narrow_1).before args s = true from hpre))
  obtain ⟨ga0, gb0⟩ := and_e hg
  obtain ⟨ga1, gb1⟩ := and_e gb0
  obtain ⟨w0, w1, rfl⟩ : ∃ w0 w1 : Value, args = #[w0, w1] := by
    have hs : args.size = 2 := by simpa [Cond.value, given_1] using ga0
    obtain ⟨L⟩ := args
    match L, hs with
    | [w0, w1], _ => exact ⟨w0, w1, rfl⟩
  have hw := fun d (hd : d ∈ tables_1) => atoms_spec (ws := Jvm.Cond.code x code maxLocals ret :: tables_1) hat d (List.mem_cons_of_mem _ hd)
  have hfit : Fit s := fun {y c} hc i hi => by
    obtain ⟨ha, rfl⟩ := Array.getElem?_eq_some_iff.mp hc
    have q := List.all_eq_true.mp ((Array.all_eq_true_iff_forall_mem.mp hF) _ (Array.getElem_mem ha)) i (List.mem_range.mpr hi)
    simpa [Array.getElem?_eq_getElem hi] using q
  obtain ⟨i0, ei0⟩ := is_v ga1
  obtain rfl : w0 = (.int i0) := Option.some.inj ei0
  obtain ⟨i1, ei1⟩ := is_v gb1
  obtain rfl : w1 = (.int i1) := Option.some.inj ei1
  obtain ⟨na0, nb0⟩ := and_e hn
  obtain ⟨na1, nb1⟩ := and_e nb0
  obtain ⟨na2, nb2⟩ := and_e nb1
  obtain ⟨na3, nb3⟩ := and_e nb2
  obtain ⟨na4, nb4⟩ := and_e nb3
  obtain ⟨na5, nb5⟩ := and_e nb4
  obtain ⟨na6, nb6⟩ := and_e nb5
  obtain ⟨na7, nb7⟩ := and_e nb6
  obtain ⟨na8, nb8⟩ := and_e nb7
  obtain ⟨na9, nb9⟩ := and_e nb8
  obtain ⟨na10, nb10⟩ := and_e nb9
  obtain ⟨na11, nb11⟩ := and_e nb10
  obtain ⟨na12, nb12⟩ := and_e nb11
  obtain ⟨x_PLAIN, ex_PLAIN⟩ := exa_v na2
  have E_PLAIN := Exa.start ex_PLAIN na2
  have S_PLAIN := Sta.start ex_PLAIN (Or.inr ⟨(hw _ (List.mem_of_getElem? (i := 2) rfl)), (hw _ (List.mem_of_getElem? (i := 6) rfl))⟩)
  have F_PLAIN_value := own_fld ex_PLAIN (own_eqI na4)
  obtain ⟨x_RLE, ex_RLE⟩ := exa_v na5
  have E_RLE := Exa.start ex_RLE na5
  have S_RLE := Sta.start ex_RLE (Or.inr ⟨(hw _ (List.mem_of_getElem? (i := 2) rfl)), (hw _ (List.mem_of_getElem? (i := 9) rfl))⟩)
  have F_RLE_value := own_fld ex_RLE (own_eqI na7)
  obtain ⟨x_BIT_PACKED, ex_BIT_PACKED⟩ := exa_v na8
  have E_BIT_PACKED := Exa.start ex_BIT_PACKED na8
  have S_BIT_PACKED := Sta.start ex_BIT_PACKED (Or.inr ⟨(hw _ (List.mem_of_getElem? (i := 2) rfl)), (hw _ (List.mem_of_getElem? (i := 10) rfl))⟩)
  have F_BIT_PACKED_value := own_fld ex_BIT_PACKED (own_eqI na10)
  obtain ⟨x_PLAIN_DICTIONARY, ex_PLAIN_DICTIONARY⟩ := exa_v na11
  have E_PLAIN_DICTIONARY := Exa.start ex_PLAIN_DICTIONARY na11
  have S_PLAIN_DICTIONARY := Sta.start ex_PLAIN_DICTIONARY (Or.inr ⟨(hw _ (List.mem_of_getElem? (i := 2) rfl)), (hw _ (List.mem_of_getElem? (i := 11) rfl))⟩)
  have F_PLAIN_DICTIONARY_value := own_fld ex_PLAIN_DICTIONARY (own_eqI nb12)
  obtain ⟨x_ALL, ex_ALL⟩ := arr_v na0
  have S_ALL := Sta.start ex_ALL (Or.inr ⟨(hw _ (List.mem_of_getElem? (i := 2) rfl)), (hw _ (List.mem_of_getElem? (i := 5) rfl))⟩)
  obtain ⟨cA, A_ALL⟩ := Arr.start ex_ALL na0
  have hA : s.arrayAt? x_ALL = some cA := Arr.fin (Vm.Alike.refl _) A_ALL
  obtain ⟨hl1, hl2⟩ := own_len ex_ALL hA (own_eqI na1)
  have el0 := own_elem ex_ALL hA (own_eqR na3 ex_PLAIN)
  have el1 := own_elem ex_ALL hA (own_eqR na6 ex_RLE)
  have el2 := own_elem ex_ALL hA (own_eqR na9 ex_BIT_PACKED)
  have el3 := own_elem ex_ALL hA (own_eqR na12 ex_PLAIN_DICTIONARY)
  have V_ALL : Arv s s.heap x_ALL cA.cls (.object "tidemark/format/ParquetEncoding") (4 : Int32) [(.ref x_PLAIN), (.ref x_RLE), (.ref x_BIT_PACKED), (.ref x_PLAIN_DICTIONARY)] .null := Arv.start hfit A_ALL hl1 hl2 (by decide) rfl ⟨el0, el1, el2, el3, trivial⟩
  obtain ⟨n, o, h1, h2, h3, _, L, rfl, ⟨rfl, N⟩, hq⟩ := rm0 l s _ hw tables_1 i0 i1 x_ALL cA.cls x_PLAIN x_RLE x_BIT_PACKED x_PLAIN_DICTIONARY s.heap s.heap.size (Nat.le_refl _) S_ALL V_ALL F_PLAIN_value F_RLE_value F_BIT_PACKED_value F_PLAIN_DICTIONARY_value p e ha hc hk s m _ below hf ((Spec.applies_iff_loose hf).mp happ).1 ⟨rfl, State.Warmed39.refl s, rfl⟩ trivial
  refine ⟨n, _, h1, h2, h3, hpost _ _ _ _ _ _ ⟨Cond.after_iff.mpr rfl, Cond.after_iff.mpr (eq_i res_at (Term.int_eval (1)) rfl), trivial⟩ ⟨hq.1, hq.2.1, (hq.2.2.sift fun y hy => Or.inr (N y hy)).mono (by decide) (by decide)⟩⟩
theorem main_1_1 : Claimed_1_1 := comes_1 fun _ _ _ _ _ _ h hF => ⟨h.1, hF⟩
theorem main_1_2 : Claimed_1_2 := comes_1 fun _ _ _ _ _ _ h hF => ⟨h.2.1, hF⟩
end Jvm.Pilot.@@N@@
namespace Jvm.Pilot.@@N@@
open Jvm Jvm.ClassFile Sem Op Lib Jvm.Free Jvm.Stand Jvm.Pilot.@@N@@.Jvm.D
/-! MADE BY PROGRAM (witnessworld.py) out of the Statement's table words and the real class files: 13 classes; the members and pool entries that the words name. The judged class is class 1, her method 2. -/
namespace start1
open Jvm.ClassFile
def u (s : String) : CpInfo := .utf8 (stringToUtf16 s)
/-- a pool by its gaps: so many unusable entries, then the entry; so many at the end -/
def gap : Nat → List CpInfo → List CpInfo
  | 0, r => r
  | n + 1, r => .unusable :: gap n r
def poolList (es : List (Nat × CpInfo)) (last : Nat) : List CpInfo := es.foldr (fun e r => gap e.1 (e.2 :: r)) (gap last [])
def pool (es : List (Nat × CpInfo)) (last : Nat) : Array CpInfo := ⟨poolList es last⟩
def fileOf (pool : Array CpInfo) (this : Nat) (attrs : Array Attribute := #[]) (ms : Array MethodInfo := #[]) (fl : Nat := 33) (sup : Nat := 0) (ifs : Array Nat := #[]) (fds : Array FieldInfo := #[]) : ClassFile where
  minorVersion := 0
  majorVersion := 65
  constantPool := pool
  accessFlags := fl
  thisClass := this
  superClass := sup
  interfaces := ifs
  fields := fds
  methods := ms
  attributes := attrs
def plain (name : String) (sup : Option ClassId) : Class where
  name := name
  kind := .ordinary
  loader := none
  accessFlags := 33
  super := sup
  interfaces := #[]
  cf := none
  fields := #[]
  methods := #[]
  instanceTypes := #[]
  staticTypes := #[]
  resolved := #[]
  callSites := []
  init := .initialized
  statics := none
  mirror := none

def pool0 : Array CpInfo := pool [(5, u "<init>"), (0, u "()V"), (1, .class_ 10), (1, u "java/lang/Object")] 113

def k0m0 : Method := { name := "<init>", desc := "()V", sig := { parameters := [], returnType := none }, accessFlags := 1, code := none }
/-- java/lang/Object -/
def k0 : Class := { plain "java/lang/Object" none with
  accessFlags := 33
  interfaces := #[]
  cf := some (fileOf pool0 8 #[] #[{ accessFlags := 1, nameIndex := 5, descriptorIndex := 6, attributes := #[] }] 33 0 #[] #[])
  fields := #[]
  methods := #[k0m0]
  instanceTypes := #[]
  staticTypes := #[]
  resolved := Array.replicate 124 none
  statics := none }

def pool1 : Array CpInfo := pool [(2, .class_ 4), (1, u "java/lang/Object"), (0, u "<init>"), (0, u "()V"), (0, .methodref 8 9), (0, .class_ 10), (0, .nameAndType 11 12), (0, u "tidemark/format/ParquetEncoding"), (0, u "isWritten"), (0, u "(I)Z"), (0, .methodref 14 15), (0, .class_ 16), (0, .nameAndType 17 12), (0, u "tidemark/format/ParquetEncodingIsWrittenPinLaw"), (0, u "expected"), (3, u "law"), (0, u "(II)Z")] 2

def k1m0 : Method := { name := "<init>", desc := "()V", sig := { parameters := [], returnType := none }, accessFlags := 1, code := none }
def k1c1 : Code := { maxStack := 2, maxLocals := 1, code := method_2_code, exceptionTable := #[], attributes := #[] }
def k1m1 : Method := { name := "expected", desc := "(I)Z", sig := { parameters := [.int], returnType := some .boolean }, accessFlags := 10, code := some k1c1 }
def k1c2 : Code := { maxStack := 2, maxLocals := 5, code := code, exceptionTable := #[], attributes := #[] }
def k1m2 : Method := { name := "law", desc := "(II)Z", sig := { parameters := [.int, .int], returnType := some .boolean }, accessFlags := 9, code := some k1c2 }
/-- tidemark/format/ParquetEncodingIsWrittenPinLaw -/
def k1 : Class := { plain "tidemark/format/ParquetEncodingIsWrittenPinLaw" (some 0) with
  accessFlags := 49
  interfaces := #[]
  cf := some (fileOf pool1 14 #[] #[{ accessFlags := 1, nameIndex := 5, descriptorIndex := 6, attributes := #[] }, { accessFlags := 10, nameIndex := 17, descriptorIndex := 12, attributes := #[] }, { accessFlags := 9, nameIndex := 21, descriptorIndex := 22, attributes := #[] }] 49 2 #[] #[])
  fields := #[]
  methods := #[k1m0, k1m1, k1m2]
  instanceTypes := #[]
  staticTypes := #[]
  resolved := Array.replicate 25 none
  statics := none }

def pool2 : Array CpInfo := pool [(1, .class_ 2), (0, u "java/lang/constant/Constable"), (0, .class_ 4), (0, u "java/lang/Object")] 6

/-- java/lang/constant/Constable -/
def k2 : Class := { plain "java/lang/constant/Constable" (some 0) with
  accessFlags := 1537
  interfaces := #[]
  cf := some (fileOf pool2 1 #[] #[] 1537 3 #[] #[])
  fields := #[]
  methods := #[]
  instanceTypes := #[]
  staticTypes := #[]
  resolved := Array.replicate 11 none
  statics := none }

def pool3 : Array CpInfo := pool [(1, .class_ 2), (0, u "java/lang/Comparable"), (0, .class_ 4), (0, u "java/lang/Object")] 7

/-- java/lang/Comparable -/
def k3 : Class := { plain "java/lang/Comparable" (some 0) with
  accessFlags := 1537
  interfaces := #[]
  cf := some (fileOf pool3 1 #[] #[] 1537 3 #[] #[])
  fields := #[]
  methods := #[]
  instanceTypes := #[]
  staticTypes := #[]
  resolved := Array.replicate 12 none
  statics := none }

def pool4 : Array CpInfo := pool [(1, .class_ 2), (0, u "java/io/Serializable"), (0, .class_ 4), (0, u "java/lang/Object")] 2

/-- java/io/Serializable -/
def k4 : Class := { plain "java/io/Serializable" (some 0) with
  accessFlags := 1537
  interfaces := #[]
  cf := some (fileOf pool4 1 #[] #[] 1537 3 #[] #[])
  fields := #[]
  methods := #[]
  instanceTypes := #[]
  staticTypes := #[]
  resolved := Array.replicate 7 none
  statics := none }

def pool5 : Array CpInfo := pool [(2, .class_ 4), (1, u "java/lang/Enum"), (0, u "name"), (0, u "Ljava/lang/String;"), (2, u "ordinal"), (0, u "I"), (1, .class_ 14), (1, u "java/lang/Object"), (4, u "hash"), (86, .class_ 108), (1, u "java/lang/Enum$EnumDesc"), (2, .class_ 112), (0, u "java/lang/constant/Constable"), (0, .class_ 114), (0, u "java/lang/Comparable"), (0, .class_ 116), (0, u "java/io/Serializable")] 87

/-- java/lang/Enum -/
def k5 : Class := { plain "java/lang/Enum" (some 0) with
  accessFlags := 1057
  interfaces := #[2, 3, 4]
  cf := some (fileOf pool5 2 #[.nestMembers #[106]] #[] 1057 12 #[111, 113, 115] #[{ accessFlags := 18, nameIndex := 5, descriptorIndex := 6, attributes := #[] }, { accessFlags := 18, nameIndex := 9, descriptorIndex := 10, attributes := #[] }, { accessFlags := 2, nameIndex := 19, descriptorIndex := 10, attributes := #[] }])
  fields := #[{ name := "name", type := (.object "java/lang/String"), accessFlags := 18, slot := 0, constantValue := 0 }, { name := "ordinal", type := .int, accessFlags := 18, slot := 1, constantValue := 0 }, { name := "hash", type := .int, accessFlags := 2, slot := 2, constantValue := 0 }]
  methods := #[]
  instanceTypes := #[(.object "java/lang/String"), .int, .int]
  staticTypes := #[]
  resolved := Array.replicate 204 none
  statics := none }

def pool6 : Array CpInfo := pool [(1, .class_ 2), (0, u "tidemark/format/ParquetEncoding"), (2, u "PLAIN"), (0, u "Ltidemark/format/ParquetEncoding;"), (2, u "RLE"), (2, u "BIT_PACKED"), (2, u "PLAIN_DICTIONARY"), (2, u "$VALUES"), (0, u "[Ltidemark/format/ParquetEncoding;"), (6, .class_ 28), (1, u "java/lang/Enum"), (6, .fieldref 1 36), (0, .nameAndType 37 38), (0, u "value"), (0, u "I"), (0, .fieldref 1 40), (0, .nameAndType 41 19), (0, u "ALL"), (34, u "isWritten"), (0, u "(I)Z")] 5

def k6c0 : Code := { maxStack := 3, maxLocals := 6, code := prog_15_method_6_code, exceptionTable := #[], attributes := #[] }
def k6m0 : Method := { name := "isWritten", desc := "(I)Z", sig := { parameters := [.int], returnType := some .boolean }, accessFlags := 8, code := some k6c0 }
/-- tidemark/format/ParquetEncoding -/
def k6 : Class := { plain "tidemark/format/ParquetEncoding" (some 5) with
  accessFlags := 16432
  interfaces := #[]
  cf := some (fileOf pool6 1 #[] #[{ accessFlags := 8, nameIndex := 76, descriptorIndex := 77, attributes := #[] }] 16432 26 #[] #[{ accessFlags := 16409, nameIndex := 5, descriptorIndex := 6, attributes := #[] }, { accessFlags := 16409, nameIndex := 9, descriptorIndex := 6, attributes := #[] }, { accessFlags := 16409, nameIndex := 12, descriptorIndex := 6, attributes := #[] }, { accessFlags := 16409, nameIndex := 15, descriptorIndex := 6, attributes := #[] }, { accessFlags := 26, nameIndex := 41, descriptorIndex := 19, attributes := #[] }, { accessFlags := 18, nameIndex := 37, descriptorIndex := 38, attributes := #[] }, { accessFlags := 4122, nameIndex := 18, descriptorIndex := 19, attributes := #[] }])
  fields := #[{ name := "PLAIN", type := (.object "tidemark/format/ParquetEncoding"), accessFlags := 16409, slot := 0, constantValue := 0 }, { name := "RLE", type := (.object "tidemark/format/ParquetEncoding"), accessFlags := 16409, slot := 1, constantValue := 0 }, { name := "BIT_PACKED", type := (.object "tidemark/format/ParquetEncoding"), accessFlags := 16409, slot := 2, constantValue := 0 }, { name := "PLAIN_DICTIONARY", type := (.object "tidemark/format/ParquetEncoding"), accessFlags := 16409, slot := 3, constantValue := 0 }, { name := "ALL", type := (.array (.object "tidemark/format/ParquetEncoding")), accessFlags := 26, slot := 4, constantValue := 0 }, { name := "value", type := .int, accessFlags := 18, slot := 3, constantValue := 0 }, { name := "$VALUES", type := (.array (.object "tidemark/format/ParquetEncoding")), accessFlags := 4122, slot := 5, constantValue := 0 }]
  methods := #[k6m0]
  instanceTypes := #[(.object "java/lang/String"), .int, .int, .int]
  staticTypes := #[(.object "tidemark/format/ParquetEncoding"), (.object "tidemark/format/ParquetEncoding"), (.object "tidemark/format/ParquetEncoding"), (.object "tidemark/format/ParquetEncoding"), (.array (.object "tidemark/format/ParquetEncoding")), (.array (.object "tidemark/format/ParquetEncoding"))]
  resolved := Array.replicate 83 none
  statics := some 0 }

def pool7 : Array CpInfo := pool [(1, u "java/lang/Cloneable"), (0, .class_ 1), (0, u "java/lang/Object"), (0, .class_ 3)] 3

/-- java/lang/Cloneable -/
def k7 : Class := { plain "java/lang/Cloneable" (some 0) with
  accessFlags := 1537
  interfaces := #[]
  cf := some (fileOf pool7 2 #[] #[] 1537 4 #[] #[])
  fields := #[]
  methods := #[]
  instanceTypes := #[]
  staticTypes := #[]
  resolved := Array.replicate 8 none
  statics := none }

/-- the primitive byte -/
def k8 : Class := { plain "byte" none with kind := .primitive 'B', accessFlags := 0x411 }
/-- [B -/
def k9 : Class := { plain "[B" (some 0) with kind := .array 8 .byte, interfaces := #[7, 4], accessFlags := 1041 }

/-- the primitive int -/
def k10 : Class := { plain "int" none with kind := .primitive 'I', accessFlags := 0x411 }
/-- [I -/
def k11 : Class := { plain "[I" (some 0) with kind := .array 10 .int, interfaces := #[7, 4], accessFlags := 1041 }

/-- [Ltidemark/format/ParquetEncoding; -/
def k12 : Class := { plain "[Ltidemark/format/ParquetEncoding;" (some 0) with kind := .array 6 (.object "tidemark/format/ParquetEncoding"), interfaces := #[7, 4], accessFlags := 1041 }

def heap : Heap := #[{ cls := 6, slots := #[.ref 2, .ref 3, .ref 4, .ref 5, .ref 1, .null], vm := .statics 6 },
  { cls := 12, slots := #[.ref 2, .ref 3, .ref 4, .ref 5], vm := .none },
  { cls := 6, slots := #[.null, .int 0, .int 0, .int 0], vm := .none },
  { cls := 6, slots := #[.null, .int 1, .int 0, .int 3], vm := .none },
  { cls := 6, slots := #[.null, .int 2, .int 0, .int 4], vm := .none },
  { cls := 6, slots := #[.null, .int 3, .int 0, .int 2], vm := .none }]
def classes : Array Class := #[k0, k1, k2, k3, k4, k5, k6, k7, k8, k9, k10, k11, k12]
def interned : List (Array UInt16 × Addr) := []
def slotsUsed : Nat := 26
def theMethod : MethodId := ⟨1, 2⟩
def args0 : Array Value := #[.int 5, .int 6]
def aboutOver (below : List Frame) : State where
  vm := { classes := classes, interned := interned.toArray }
  heap := heap
  slotsUsed := slotsUsed
  threads := #[{ frames := .invoking theMethod args0 :: below }]
def below0 : List Frame := [.native { method := ⟨0, 0⟩, args := #[] }]
def about1 : State := aboutOver below0
def p0 : Program := .bare "" "" ""
def e0 : Env := launch0.env 0 0 0
theorem w_frames : about1.frames = Frame.invoking theMethod args0 :: below0 := rfl
set_option maxRecDepth 65536 in
theorem w_args : argsFit about1.vm theMethod args0 = true := by decide +kernel
set_option maxRecDepth 65536 in
theorem w_heap : heapFits about1 = true := by decide +kernel
set_option maxRecDepth 65536 in
theorem w_runnable : about1.curStatus? = some .runnable := by decide +kernel
set_option maxRecDepth 65536 in
theorem w_alone : about1.alone = true := by decide +kernel
set_option maxRecDepth 65536 in
theorem w_named : about1.methodNamed? x = some theMethod := by decide +kernel
set_option maxRecDepth 65536 in
theorem w_hears : about1.hears theMethod below0 = true := by decide +kernel
set_option maxRecDepth 65536 in
theorem w_ripe : about1.ripe theMethod args0 below0 = true := by decide +kernel
theorem w_running : about1.status = .running := rfl
set_option maxRecDepth 65536 in
theorem w_room : about1.hasRoom e0.platform room_1 = true :=
  launch0.hasRoom_least _ room_1 (by decide +kernel) (by decide +kernel) (by decide +kernel) (by decide +kernel) (by decide +kernel) (by decide +kernel)
theorem allAtoms_all (ts : List Jvm.Cond) (a : Array Jvm.Value) (st : Jvm.State) : (allAtoms ts).before a st = ts.all (fun c => c.before a st) := by
  induction ts with
  | nil => rfl
  | cons c t ih =>
    show (Jvm.Cond.and c (allAtoms t)).before a st = _
    rw [Jvm.Cond.before_and, ih, List.all_cons]
def words1 : List Jvm.Cond := Jvm.Cond.code x code maxLocals ret :: tables_1
/-- a 'code' word, met by the world's own term for the bytes: nothing is compared byte by byte -/
theorem code_word {y : MethodName} {bytes : ByteArray} {mx : Nat} {rt : Option FieldType} {a : Array Value} {s : State} {m : MethodId} {meth : Method} {c : Code} (h1 : s.methodNamed? y = some m) (h2 : s.vm.method? m = some meth) (h3 : meth.code = some c) (h4 : c.code = bytes)
    (h5 : (c.maxLocals == mx && c.exceptionTable.isEmpty && decide (c.maxStack ≤ mostOperands) && decide (meth.sig.returnType = rt) && !meth.locks && decide (parseMethodDescriptor y.desc = some meth.sig)) = true) : (Jvm.Cond.code y bytes mx rt).before a s = true := by
  simp only [Bool.and_eq_true, beq_iff_eq, Bool.not_eq_true', decide_eq_true_eq] at h5
  obtain ⟨⟨⟨⟨⟨g1, g2⟩, g3⟩, g4⟩, g5⟩, g6⟩ := h5
  simp [Cond.before, Cond.holds, Cond.value, h1, h2, h3, h4, g1, g2, g3, g4, g5, g6]
def isCode : Jvm.Cond → Bool
  | .code _ _ _ _ => true
  | _ => false
theorem all_split {L : List Jvm.Cond} {P : Jvm.Cond → Bool} (h1 : L.all (fun c => isCode c || P c) = true) (h2 : ∀ c ∈ L.filter isCode, P c = true) : L.all P = true := by
  refine List.all_eq_true.mpr fun c hc => ?_
  have h := List.all_eq_true.mp h1 c hc
  rcases Bool.eq_false_or_eq_true (isCode c) with hi | hi
  · exact h2 c (List.mem_filter.mpr ⟨hc, hi⟩)
  · simpa [hi] using h
set_option maxRecDepth 65536 in
theorem w_c0 : (Jvm.Cond.code x code maxLocals ret).before args0 about1 = true := code_word (m := ⟨1, 2⟩) (meth := k1m2) (c := k1c2) (by decide +kernel) rfl rfl rfl (by decide +kernel)
set_option maxRecDepth 65536 in
theorem w_c1 : (Jvm.Cond.code ({ cls := "tidemark/format/ParquetEncoding", name := "isWritten", desc := "(I)Z" } : Jvm.MethodName) prog_15_method_6_code (6 : Nat) (Option.some Jvm.ClassFile.FieldType.boolean)).before args0 about1 = true := code_word (m := ⟨6, 0⟩) (meth := k6m0) (c := k6c0) (by decide +kernel) rfl rfl rfl (by decide +kernel)
set_option maxRecDepth 65536 in
theorem w_c2 : (Jvm.Cond.code ({ cls := "tidemark/format/ParquetEncodingIsWrittenPinLaw", name := "expected", desc := "(I)Z" } : Jvm.MethodName) method_2_code (1 : Nat) (Option.some Jvm.ClassFile.FieldType.boolean)).before args0 about1 = true := code_word (m := ⟨1, 1⟩) (meth := k1m1) (c := k1c1) (by decide +kernel) rfl rfl rfl (by decide +kernel)
def codes1 : List Jvm.Cond := [Jvm.Cond.code x code maxLocals ret, Jvm.Cond.code ({ cls := "tidemark/format/ParquetEncoding", name := "isWritten", desc := "(I)Z" } : Jvm.MethodName) prog_15_method_6_code (6 : Nat) (Option.some Jvm.ClassFile.FieldType.boolean), Jvm.Cond.code ({ cls := "tidemark/format/ParquetEncodingIsWrittenPinLaw", name := "expected", desc := "(I)Z" } : Jvm.MethodName) method_2_code (1 : Nat) (Option.some Jvm.ClassFile.FieldType.boolean)]
set_option maxRecDepth 65536 in
theorem codes_eq : words1.filter isCode = codes1 := rfl
theorem w_codes : ∀ c ∈ words1.filter isCode, c.before args0 about1 = true := by
  rw [codes_eq]
  intro c hc
  simp only [codes1, List.mem_cons, List.not_mem_nil, or_false] at hc
  rcases hc with rfl | rfl | rfl
  · exact w_c0
  · exact w_c1
  · exact w_c2
set_option maxRecDepth 65536 in
theorem w_t1 : words1.all (fun c => isCode c || c.before args0 about1) = true := by decide +kernel
theorem w_tables : (allAtoms (Jvm.Cond.code x code maxLocals ret :: tables_1)).before args0 about1 = true := by
  rw [allAtoms_all]
  show words1.all (fun c => c.before args0 about1) = true
  refine all_split ?_ w_codes
  rw [w_t1]
set_option maxRecDepth 65536 in
theorem w_case : (Jvm.Cond.and given_1 narrow_1).before args0 about1 = true := by decide +kernel
theorem w_applies : (headSpec (Jvm.Cond.code x code maxLocals ret :: tables_1) room_1).applies x e0.platform about1 = true :=
  (Spec.applies_iff w_frames).mpr ⟨w_running, w_runnable, w_alone, w_named, w_hears, w_ripe, w_room, w_tables⟩
theorem atStart : AtStart classFile x code maxLocals ret World_1 tables_1 room_1 Calls_1 rest_1 Pre_1 launch0 p0 e0 about1 theMethod args0 below0 :=
  ⟨lists_1, trivial, launch0.admits_env _ _ _, launch0.least_env, fairChoices_fair.cas, fairChoices_fair.clock, w_frames, w_args, w_heap, w_applies, trivial, trivial, w_case⟩
end start1
theorem witness_1 : WitnessClaimed_1 := ⟨start1.p0, start1.e0, start1.about1, start1.theMethod, start1.args0, start1.below0, start1.atStart⟩
end Jvm.Pilot.@@N@@
