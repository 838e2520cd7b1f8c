/- The exact ways of ParseFloat. ParseFloat by unrounded scaling: the scaling. ParseFloat by unrounded scaling: pack. -/
import Derived.Test.YtohadobpiclllaaGreatDoorMf
import Derived.Test.YtohadobpiclllaaGreatDoorMj
import Derived.Test.YtohadobpiclllaaGreatDoorShelf
namespace Go.Proofs.YtohadobpiclllaaGreatDoor
section
open Go.RowKit Go.Proofs.YtohadobpiclllaaGreatDoorW.PrintWords Go.Proofs.YtohadobpiclllaaGreatDoorW.PrintMore Go.Proofs.YtohadobpiclllaaGreatDoorW.PrintLast Go.Proofs.YtohadobpiclllaaGreatDoor.PFnRespScan
attribute [local go_sem] max2_int min2_int max_two min_two max_three min_three max_four min_four
set_option linter.unusedVariables false
set_option linter.unusedSimpArgs false

/-- What exact says. -/
def ExPost (k : FloatKind) (r : Nat) (ok : Bool) (w : World) (x : Ending) (w' : World) : Prop := x = .returned (.tuple #[.float k r, .bool ok]) ∧ ∃ n, w' = w.drewN n
theorem run_mulk (k : FloatKind) {x y r : Nat} (h : k.format.mul x y = some r) (t : TypeId) (w : World) : (binOp .mul t (.float k x) (.float k y)).run Tryz.prog w = .ok (.float k r) w := run_float_arith w .mul t k x y r h
theorem run_divk (k : FloatKind) {x y r : Nat} (h : k.format.div x y = some r) (t : TypeId) (w : World) : (binOp .quo t (.float k x) (.float k y)).run Tryz.prog w = .ok (.float k r) w := run_float_arith w .quo t k x y r h
theorem run_negk (k : FloatKind) (x : Nat) (w : World) : (Op.unary .neg (.float k x)).run Tryz.prog w = .ok (.float k (Op.negFloat k x)) w := by kernel_rfl

/-- The table of exact powers of ten, for float64, holds T. -/
def F64T (w : World) (ft : Nat) (T : Nat → Nat) : Prop := ∃ o : Nat, w.cell? ⟨8, 0, none⟩ = some (.slice (some ⟨ft, o, none⟩) 23 23) ∧ ∀ k, k < 23 → w.cell? ⟨ft, o + k, none⟩ = some (.float .f64 (T k))
theorem F64T.mods {w w' : World} {ft : Nat} {T : Nat → Nat} {P : Nat → Prop} (h : F64T w ft T) (hm : Mods P w w') (h8 : ¬ P 8) (ht : ¬ P ft) : F64T w' ft T := by
  obtain ⟨o, h1, h2⟩ := h
  exact ⟨o, hm.cell h1 h8, fun k hk => hm.cell (h2 k hk) ht⟩
theorem conv64 (n : Int) (w : World) : (convert 22 59 (.int .u64 n)).run Tryz.prog w = .ok (.float .f64 (floatOfInt .f64 n)) w := run_convert_int_float w 22 59 .u64 .f64 n (by kernel_rfl) (by kernel_rfl)

set_option maxHeartbeats 4000000 in
set_option maxRecDepth 100000 in
theorem exact64_great (m : Nat) (e : Int) (neg : Bool) (h0 : (m : Int) / 4503599627370496 ≠ 0) (w : World) (hF : FInfo w 5 52 11 (-1023)) :
    Calls Tryz.prog 118 #[.int .u64 m, .int .i64 e, .bool neg] w (ExPost .f64 0 false w) := by
  obtain ⟨hf0, hf1, hf2⟩ := hF
  have h0' : ((m : Int) / 4503599627370496 != 0) = true := bne_iff_ne.mpr h0
  clear h0
  go_enter Tryz.func118, Tryz.ntmps118
  go_wp2_with fail
  go_ret2
  exact ⟨rfl, 0, rfl⟩

set_option maxHeartbeats 8000000 in
set_option maxRecDepth 100000 in
theorem exact64_small (T : Nat → Nat) (hTO : ∀ k, k < 23 → Some0 FloatKind.f64.format (T k)) (m : Nat) (e : Int) (neg : Bool) (he0 : -1000000 ≤ e) (he1 : e ≤ 1000000) (h0 : (m : Int) / 4503599627370496 = 0) :
    ∃ (r : Nat) (ok : Bool), ∀ (w : World) (ft : Nat), FInfo w 5 52 11 (-1023) → F64T w ft T → Calls Tryz.prog 118 #[.int .u64 m, .int .i64 e, .bool neg] w (ExPost .f64 r ok w) := by
  have h0' : ((m : Int) / 4503599627370496 != 0) = false := bne_eq_false_iff_eq.mpr h0
  clear h0
  obtain ⟨F0, hF0⟩ : ∃ F0, floatOfInt .f64 (m : Int) = F0 := ⟨_, rfl⟩
  have N0 : Num FloatKind.f64.format F0 := by rw [← hF0]; exact num_ofInt _ _
  have hcv : ∀ w, (convert 22 59 (.int .u64 (m : Int))).run Tryz.prog w = .ok (.float .f64 F0) w := fun w => by rw [← hF0]; exact conv64 _ w
  have hng : ∀ w, (Op.unary .neg (.float .f64 F0)).run Tryz.prog w = .ok (.float .f64 (Op.negFloat .f64 F0)) w := run_negk .f64 F0
  have NN : ∃ F1, F1 = (if neg then Op.negFloat .f64 F0 else F0) ∧ Num FloatKind.f64.format F1 := by
    refine ⟨_, rfl, ?_⟩
    split
    · exact num_neg N0
    · exact N0
  obtain ⟨F1, hF1, N1⟩ := NN
  have HN1 := Aside0.mk N1
  have HTO := Aside0.mk hTO
  clear hF0 N0 N1 hTO
  by_cases hez : e = 0
  · have hez' : (e == 0) = true := beq_iff_eq.mpr hez
    clear hez
    refine ⟨F1, true, fun w ft hF hT => ?_⟩
    obtain ⟨hf0, hf1, hf2⟩ := hF
    obtain ⟨o, ht, htc⟩ := hT
    clear htc
    cases neg
    all_goals
      first | rw [if_pos rfl] at hF1 | rw [if_neg (by decide)] at hF1
      subst hF1
      go_enter Tryz.func118, Tryz.ntmps118
      go_wp2_with fail
      go_ret2
      exact ⟨rfl, 0, rfl⟩
  · have hez' : (e == 0) = false := beq_eq_false_iff_ne.mpr hez
    by_cases hep : 0 < e
    · by_cases he37 : e ≤ 37
      · by_cases he22 : 22 < e
        · obtain ⟨k, rfl⟩ : ∃ k : Nat, e = (k : Int) + 22 := ⟨(e - 22).toNat, by omega⟩
          obtain ⟨F2, hm2, N2⟩ := num_mul HN1.out (HTO.out k (by omega))
          obtain ⟨F3, hm3, N3⟩ := num_mul N2 (HTO.out 22 (by omega))
          have hmul2 := run_mulk .f64 hm2
          have hmul3 := run_mulk .f64 hm3
          obtain ⟨c1, hc1⟩ : ∃ c, (FloatKind.f64.format.order F2 4831355200913801216 == some .gt) = c := ⟨_, rfl⟩
          obtain ⟨c2, hc2⟩ : ∃ c, (FloatKind.f64.format.order F2 14054727237768577024 == some .lt) = c := ⟨_, rfl⟩
          have hk0 : (0 : Int) ≤ (k : Int) := by omega
          have hk1 : (k : Int) < 23 := by omega
          clear hm2 hm3 N2 N3 hez
          cases c1
          · cases c2
            · skip
              refine ⟨F3, true, fun w ft hF hT => ?_⟩
              obtain ⟨hf0, hf1, hf2⟩ := hF
              obtain ⟨o, ht, htc⟩ := hT
              have hck := htc k (by omega)
              have hc22 := htc 22 (by omega)
              clear htc
              cases neg
              all_goals
                first | rw [if_pos rfl] at hF1 | rw [if_neg (by decide)] at hF1
                subst hF1
                go_enter Tryz.func118, Tryz.ntmps118
                go_wp2_with fail
                go_ret2
                exact ⟨rfl, 0, rfl⟩
            · skip
              refine ⟨F2, false, fun w ft hF hT => ?_⟩
              obtain ⟨hf0, hf1, hf2⟩ := hF
              obtain ⟨o, ht, htc⟩ := hT
              have hck := htc k (by omega)
              have hc22 := htc 22 (by omega)
              clear htc
              cases neg
              all_goals
                first | rw [if_pos rfl] at hF1 | rw [if_neg (by decide)] at hF1
                subst hF1
                go_enter Tryz.func118, Tryz.ntmps118
                go_wp2_with fail
                go_ret2
                exact ⟨rfl, 0, rfl⟩
          · skip
            refine ⟨F2, false, fun w ft hF hT => ?_⟩
            obtain ⟨hf0, hf1, hf2⟩ := hF
            obtain ⟨o, ht, htc⟩ := hT
            have hck := htc k (by omega)
            have hc22 := htc 22 (by omega)
            clear htc
            cases neg
            all_goals
              first | rw [if_pos rfl] at hF1 | rw [if_neg (by decide)] at hF1
              subst hF1
              go_enter Tryz.func118, Tryz.ntmps118
              go_wp2_with fail
              go_ret2
              exact ⟨rfl, 0, rfl⟩
        · obtain ⟨k, rfl⟩ : ∃ k : Nat, e = (k : Int) := ⟨e.toNat, by omega⟩
          obtain ⟨F3, hm3, N3⟩ := num_mul HN1.out (HTO.out k (by omega))
          have hmul3 := run_mulk .f64 hm3
          obtain ⟨c1, hc1⟩ : ∃ c, (FloatKind.f64.format.order F1 4831355200913801216 == some .gt) = c := ⟨_, rfl⟩
          obtain ⟨c2, hc2⟩ : ∃ c, (FloatKind.f64.format.order F1 14054727237768577024 == some .lt) = c := ⟨_, rfl⟩
          have hk0 : (0 : Int) ≤ (k : Int) := by omega
          have hk1 : (k : Int) < 23 := by omega
          clear hm3 N3 hez
          cases c1
          · cases c2
            · skip
              refine ⟨F3, true, fun w ft hF hT => ?_⟩
              obtain ⟨hf0, hf1, hf2⟩ := hF
              obtain ⟨o, ht, htc⟩ := hT
              have hck := htc k (by omega)
              clear htc
              cases neg
              all_goals
                first | rw [if_pos rfl] at hF1 | rw [if_neg (by decide)] at hF1
                subst hF1
                go_enter Tryz.func118, Tryz.ntmps118
                go_wp2_with fail
                go_ret2
                exact ⟨rfl, 0, rfl⟩
            · skip
              refine ⟨F1, false, fun w ft hF hT => ?_⟩
              obtain ⟨hf0, hf1, hf2⟩ := hF
              obtain ⟨o, ht, htc⟩ := hT
              have hck := htc k (by omega)
              clear htc
              cases neg
              all_goals
                first | rw [if_pos rfl] at hF1 | rw [if_neg (by decide)] at hF1
                subst hF1
                go_enter Tryz.func118, Tryz.ntmps118
                go_wp2_with fail
                go_ret2
                exact ⟨rfl, 0, rfl⟩
          · skip
            refine ⟨F1, false, fun w ft hF hT => ?_⟩
            obtain ⟨hf0, hf1, hf2⟩ := hF
            obtain ⟨o, ht, htc⟩ := hT
            have hck := htc k (by omega)
            clear htc
            cases neg
            all_goals
              first | rw [if_pos rfl] at hF1 | rw [if_neg (by decide)] at hF1
              subst hF1
              go_enter Tryz.func118, Tryz.ntmps118
              go_wp2_with fail
              go_ret2
              exact ⟨rfl, 0, rfl⟩
      · have h37' : decide (e ≤ 37) = false := decide_eq_false he37
        clear hez
        refine ⟨F1, false, fun w ft hF hT => ?_⟩
        obtain ⟨hf0, hf1, hf2⟩ := hF
        obtain ⟨o, ht, htc⟩ := hT
        clear htc
        cases neg
        all_goals
          first | rw [if_pos rfl] at hF1 | rw [if_neg (by decide)] at hF1
          subst hF1
          go_enter Tryz.func118, Tryz.ntmps118
          go_wp2_with fail
          go_ret2
          exact ⟨rfl, 0, rfl⟩
    · by_cases hem : -22 ≤ e
      · obtain ⟨k, rfl⟩ : ∃ k : Nat, e = -(k : Int) := ⟨(-e).toNat, by omega⟩
        obtain ⟨F3, hm3, N3⟩ := num_div HN1.out (HTO.out k (by omega))
        have hmul3 := run_divk .f64 hm3
        have hk0 : (0 : Int) < (k : Int) := by omega
        have hk00 : (0 : Int) ≤ (k : Int) := by omega
        have hk1 : (k : Int) < 23 := by omega
        have hkn : decide (-(k : Int) > 0) = false := decide_eq_false (by omega)
        have hkn2 : decide (-(k : Int) < 0) = true := decide_eq_true (by omega)
        have hkn3 : decide (-(k : Int) ≥ -22) = true := decide_eq_true (by omega)
        clear hm3 N3 hez hep hem
        refine ⟨F3, true, fun w ft hF hT => ?_⟩
        obtain ⟨hf0, hf1, hf2⟩ := hF
        obtain ⟨o, ht, htc⟩ := hT
        have hck := htc k (by omega)
        clear htc
        cases neg
        all_goals
          first | rw [if_pos rfl] at hF1 | rw [if_neg (by decide)] at hF1
          subst hF1
          go_enter Tryz.func118, Tryz.ntmps118
          go_wp2_with fail
          go_ret2
          exact ⟨rfl, 0, rfl⟩
      · have hem' : decide (e ≥ -22) = false := decide_eq_false hem
        have hen : e < 0 := by omega
        clear hez hep hem
        refine ⟨F1, false, fun w ft hF hT => ?_⟩
        obtain ⟨hf0, hf1, hf2⟩ := hF
        obtain ⟨o, ht, htc⟩ := hT
        clear htc
        cases neg
        all_goals
          first | rw [if_pos rfl] at hF1 | rw [if_neg (by decide)] at hF1
          subst hF1
          go_enter Tryz.func118, Tryz.ntmps118
          go_wp2_with fail
          go_ret2
          exact ⟨rfl, 0, rfl⟩

/-- The table of exact powers of ten, for float32, holds T. -/
def F32T (w : World) (ft : Nat) (T : Nat → Nat) : Prop := ∃ o : Nat, w.cell? ⟨6, 0, none⟩ = some (.slice (some ⟨ft, o, none⟩) 11 11) ∧ ∀ k, k < 11 → w.cell? ⟨ft, o + k, none⟩ = some (.float .f32 (T k))
theorem F32T.mods {w w' : World} {ft : Nat} {T : Nat → Nat} {P : Nat → Prop} (h : F32T w ft T) (hm : Mods P w w') (h8 : ¬ P 6) (ht : ¬ P ft) : F32T w' ft T := by
  obtain ⟨o, h1, h2⟩ := h
  exact ⟨o, hm.cell h1 h8, fun k hk => hm.cell (h2 k hk) ht⟩
theorem conv32 (n : Int) (w : World) : (convert 22 57 (.int .u64 n)).run Tryz.prog w = .ok (.float .f32 (floatOfInt .f32 n)) w := run_convert_int_float w 22 57 .u64 .f32 n (by kernel_rfl) (by kernel_rfl)

set_option maxHeartbeats 4000000 in
set_option maxRecDepth 100000 in
theorem exact32_great (m : Nat) (e : Int) (neg : Bool) (h0 : (m : Int) / 8388608 ≠ 0) (w : World) :
    Calls Tryz.prog 112 #[.int .u64 m, .int .i64 e, .bool neg] w (ExPost .f32 0 false w) := by
  skip
  have h0' : ((m : Int) / 8388608 != 0) = true := bne_iff_ne.mpr h0
  clear h0
  go_enter Tryz.func112, Tryz.ntmps112
  go_wp2_with fail
  go_ret2
  exact ⟨rfl, 0, rfl⟩

set_option maxHeartbeats 8000000 in
set_option maxRecDepth 100000 in
theorem exact32_small (T : Nat → Nat) (hTO : ∀ k, k < 11 → Some0 FloatKind.f32.format (T k)) (m : Nat) (e : Int) (neg : Bool) (he0 : -1000000 ≤ e) (he1 : e ≤ 1000000) (h0 : (m : Int) / 8388608 = 0) :
    ∃ (r : Nat) (ok : Bool), ∀ (w : World) (ft : Nat), F32T w ft T → Calls Tryz.prog 112 #[.int .u64 m, .int .i64 e, .bool neg] w (ExPost .f32 r ok w) := by
  have h0' : ((m : Int) / 8388608 != 0) = false := bne_eq_false_iff_eq.mpr h0
  clear h0
  obtain ⟨F0, hF0⟩ : ∃ F0, floatOfInt .f32 (m : Int) = F0 := ⟨_, rfl⟩
  have N0 : Num FloatKind.f32.format F0 := by rw [← hF0]; exact num_ofInt _ _
  have hcv : ∀ w, (convert 22 57 (.int .u64 (m : Int))).run Tryz.prog w = .ok (.float .f32 F0) w := fun w => by rw [← hF0]; exact conv32 _ w
  have hng : ∀ w, (Op.unary .neg (.float .f32 F0)).run Tryz.prog w = .ok (.float .f32 (Op.negFloat .f32 F0)) w := run_negk .f32 F0
  have NN : ∃ F1, F1 = (if neg then Op.negFloat .f32 F0 else F0) ∧ Num FloatKind.f32.format F1 := by
    refine ⟨_, rfl, ?_⟩
    split
    · exact num_neg N0
    · exact N0
  obtain ⟨F1, hF1, N1⟩ := NN
  have HN1 := Aside0.mk N1
  have HTO := Aside0.mk hTO
  clear hF0 N0 N1 hTO
  by_cases hez : e = 0
  · have hez' : (e == 0) = true := beq_iff_eq.mpr hez
    clear hez
    refine ⟨F1, true, fun w ft hT => ?_⟩
    obtain ⟨o, ht, htc⟩ := hT
    clear htc
    cases neg
    all_goals
      first | rw [if_pos rfl] at hF1 | rw [if_neg (by decide)] at hF1
      subst hF1
      go_enter Tryz.func112, Tryz.ntmps112
      go_wp2_with fail
      go_ret2
      exact ⟨rfl, 0, rfl⟩
  · have hez' : (e == 0) = false := beq_eq_false_iff_ne.mpr hez
    by_cases hep : 0 < e
    · by_cases he37 : e ≤ 17
      · by_cases he22 : 10 < e
        · obtain ⟨k, rfl⟩ : ∃ k : Nat, e = (k : Int) + 10 := ⟨(e - 10).toNat, by omega⟩
          obtain ⟨F2, hm2, N2⟩ := num_mul HN1.out (HTO.out k (by omega))
          obtain ⟨F3, hm3, N3⟩ := num_mul N2 (HTO.out 10 (by omega))
          have hmul2 := run_mulk .f32 hm2
          have hmul3 := run_mulk .f32 hm3
          obtain ⟨c1, hc1⟩ : ∃ c, (FloatKind.f32.format.order F2 1259902592 == some .gt) = c := ⟨_, rfl⟩
          obtain ⟨c2, hc2⟩ : ∃ c, (FloatKind.f32.format.order F2 3407386240 == some .lt) = c := ⟨_, rfl⟩
          have hk0 : (0 : Int) ≤ (k : Int) := by omega
          have hk1 : (k : Int) < 11 := by omega
          clear hm2 hm3 N2 N3 hez
          cases c1
          · cases c2
            · skip
              refine ⟨F3, true, fun w ft hT => ?_⟩
              obtain ⟨o, ht, htc⟩ := hT
              have hck := htc k (by omega)
              have hc22 := htc 10 (by omega)
              clear htc
              cases neg
              all_goals
                first | rw [if_pos rfl] at hF1 | rw [if_neg (by decide)] at hF1
                subst hF1
                go_enter Tryz.func112, Tryz.ntmps112
                go_wp2_with fail
                go_ret2
                exact ⟨rfl, 0, rfl⟩
            · skip
              refine ⟨F2, false, fun w ft hT => ?_⟩
              obtain ⟨o, ht, htc⟩ := hT
              have hck := htc k (by omega)
              have hc22 := htc 10 (by omega)
              clear htc
              cases neg
              all_goals
                first | rw [if_pos rfl] at hF1 | rw [if_neg (by decide)] at hF1
                subst hF1
                go_enter Tryz.func112, Tryz.ntmps112
                go_wp2_with fail
                go_ret2
                exact ⟨rfl, 0, rfl⟩
          · skip
            refine ⟨F2, false, fun w ft hT => ?_⟩
            obtain ⟨o, ht, htc⟩ := hT
            have hck := htc k (by omega)
            have hc22 := htc 10 (by omega)
            clear htc
            cases neg
            all_goals
              first | rw [if_pos rfl] at hF1 | rw [if_neg (by decide)] at hF1
              subst hF1
              go_enter Tryz.func112, Tryz.ntmps112
              go_wp2_with fail
              go_ret2
              exact ⟨rfl, 0, rfl⟩
        · obtain ⟨k, rfl⟩ : ∃ k : Nat, e = (k : Int) := ⟨e.toNat, by omega⟩
          obtain ⟨F3, hm3, N3⟩ := num_mul HN1.out (HTO.out k (by omega))
          have hmul3 := run_mulk .f32 hm3
          obtain ⟨c1, hc1⟩ : ∃ c, (FloatKind.f32.format.order F1 1259902592 == some .gt) = c := ⟨_, rfl⟩
          obtain ⟨c2, hc2⟩ : ∃ c, (FloatKind.f32.format.order F1 3407386240 == some .lt) = c := ⟨_, rfl⟩
          have hk0 : (0 : Int) ≤ (k : Int) := by omega
          have hk1 : (k : Int) < 11 := by omega
          clear hm3 N3 hez
          cases c1
          · cases c2
            · skip
              refine ⟨F3, true, fun w ft hT => ?_⟩
              obtain ⟨o, ht, htc⟩ := hT
              have hck := htc k (by omega)
              clear htc
              cases neg
              all_goals
                first | rw [if_pos rfl] at hF1 | rw [if_neg (by decide)] at hF1
                subst hF1
                go_enter Tryz.func112, Tryz.ntmps112
                go_wp2_with fail
                go_ret2
                exact ⟨rfl, 0, rfl⟩
            · skip
              refine ⟨F1, false, fun w ft hT => ?_⟩
              obtain ⟨o, ht, htc⟩ := hT
              have hck := htc k (by omega)
              clear htc
              cases neg
              all_goals
                first | rw [if_pos rfl] at hF1 | rw [if_neg (by decide)] at hF1
                subst hF1
                go_enter Tryz.func112, Tryz.ntmps112
                go_wp2_with fail
                go_ret2
                exact ⟨rfl, 0, rfl⟩
          · skip
            refine ⟨F1, false, fun w ft hT => ?_⟩
            obtain ⟨o, ht, htc⟩ := hT
            have hck := htc k (by omega)
            clear htc
            cases neg
            all_goals
              first | rw [if_pos rfl] at hF1 | rw [if_neg (by decide)] at hF1
              subst hF1
              go_enter Tryz.func112, Tryz.ntmps112
              go_wp2_with fail
              go_ret2
              exact ⟨rfl, 0, rfl⟩
      · have h37' : decide (e ≤ 17) = false := decide_eq_false he37
        clear hez
        refine ⟨F1, false, fun w ft hT => ?_⟩
        obtain ⟨o, ht, htc⟩ := hT
        clear htc
        cases neg
        all_goals
          first | rw [if_pos rfl] at hF1 | rw [if_neg (by decide)] at hF1
          subst hF1
          go_enter Tryz.func112, Tryz.ntmps112
          go_wp2_with fail
          go_ret2
          exact ⟨rfl, 0, rfl⟩
    · by_cases hem : -10 ≤ e
      · obtain ⟨k, rfl⟩ : ∃ k : Nat, e = -(k : Int) := ⟨(-e).toNat, by omega⟩
        obtain ⟨F3, hm3, N3⟩ := num_div HN1.out (HTO.out k (by omega))
        have hmul3 := run_divk .f32 hm3
        have hk0 : (0 : Int) < (k : Int) := by omega
        have hk00 : (0 : Int) ≤ (k : Int) := by omega
        have hk1 : (k : Int) < 11 := by omega
        have hkn : decide (-(k : Int) > 0) = false := decide_eq_false (by omega)
        have hkn2 : decide (-(k : Int) < 0) = true := decide_eq_true (by omega)
        have hkn3 : decide (-(k : Int) ≥ -10) = true := decide_eq_true (by omega)
        clear hm3 N3 hez hep hem
        refine ⟨F3, true, fun w ft hT => ?_⟩
        obtain ⟨o, ht, htc⟩ := hT
        have hck := htc k (by omega)
        clear htc
        cases neg
        all_goals
          first | rw [if_pos rfl] at hF1 | rw [if_neg (by decide)] at hF1
          subst hF1
          go_enter Tryz.func112, Tryz.ntmps112
          go_wp2_with fail
          go_ret2
          exact ⟨rfl, 0, rfl⟩
      · have hem' : decide (e ≥ -10) = false := decide_eq_false hem
        have hen : e < 0 := by omega
        clear hez hep hem
        refine ⟨F1, false, fun w ft hT => ?_⟩
        obtain ⟨o, ht, htc⟩ := hT
        clear htc
        cases neg
        all_goals
          first | rw [if_pos rfl] at hF1 | rw [if_neg (by decide)] at hF1
          subst hF1
          go_enter Tryz.func112, Tryz.ntmps112
          go_wp2_with fail
          go_ret2
          exact ⟨rfl, 0, rfl⟩
end

section
open Go.RowKit Go.Proofs.YtohadobpiclllaaGreatDoorW.PrintWords Go.Proofs.YtohadobpiclllaaGreatDoorW.PrintMore Go.Proofs.YtohadobpiclllaaGreatDoorW.PrintLast Go.Proofs.YtohadobpiclllaaGreatDoor.PFnRespScan
attribute [local go_sem] max2_int min2_int max_two min_two max_three min_three max_four min_four
set_option linter.unusedVariables false
set_option linter.unusedSimpArgs false

theorem i64_and63 (n : Int) : bits .and .i64 n 63 = n % 64 := by
  have h63 : (BitVec.ofInt 64 63).toNat = 2 ^ 6 - 1 := by decide
  have key : (BitVec.ofInt 64 n &&& BitVec.ofInt 64 63).toNat = (n % ((2 ^ 64 : Nat) : Int)).toNat % 2 ^ 6 := by
    rw [BitVec.toNat_and, BitVec.toNat_ofInt, h63, Nat.and_two_pow_sub_one_eq_mod]
  show IntKind.i64.wrap ((BitVec.ofInt 64 n &&& BitVec.ofInt 64 63).toNat : Nat) = n % 64
  rw [key, IntKind.wrap_i64]
  omega

theorem b2u_if (b : Bool) (w : World) :
    Calls Tryz.prog 116 #[.bool b] w fun e w' => e = .returned (.int .u64 (if b then 1 else 0)) ∧ w' = w := by
  cases b <;>
  (go_enter Tryz.func116, Tryz.ntmps116
   go_wp2
   go_ret
   exact ⟨rfl, rfl⟩)

/-- The scaler in block q. -/
def Pre (w : World) (q : Nat) (hi lo : Nat) (s : Int) : Prop := ∃ t, w.heap[q]? = some (.cells #[.int .u64 hi, .int .u64 lo, .int .i64 s] t (0, 0))
theorem Pre.mods {S : Nat → Prop} {w w' : World} {q hi lo : Nat} {s : Int} (h : Pre w q hi lo s) (hM : Mods S w w') (hn : ¬ S q) : Pre w' q hi lo s := by
  obtain ⟨t, hq⟩ := h
  exact ⟨t, hM.blk hq hn⟩

set_option maxHeartbeats 1000000 in
theorem prescale_calls (w : World) (q t : Nat) (v0 v1 v2 : Value) (e p lp : Int) (T : Nat → Nat) (hT : ∀ i < 1392, w.cell? ⟨11, i, none⟩ = some (.int .u64 (T i))) (hq : w.heap[q]? = some (.cells #[v0, v1, v2] t (0, 0)))
    (hp0 : -348 ≤ p) (hp1 : p ≤ 347) (he0 : -100000 ≤ e) (he1 : e ≤ 100000) (hl0 : -100000 ≤ lp) (hl1 : lp ≤ 100000) (hq8 : q ≠ 11) :
    Calls Tryz.prog 134 #[.pointer (some ⟨q, 0, none⟩), .int .i64 e, .int .i64 p, .int .i64 lp] w fun x w' => x = .returned (.tuple #[]) ∧
      Pre w' q (T ((p + 348).toNat * 2)) (T ((p + 348).toNat * 2 + 1)) (-(e + lp + 3)) ∧ Mods (· = q) w w' := by
  obtain ⟨i, rfl⟩ : ∃ i : Nat, p = (i : Int) - 348 := ⟨(p + 348).toNat, by omega⟩
  have hc0 := hT (i * 2) (by omega)
  have hc1 := hT (i * 2 + 1) (by omega)
  have hfz := blk_frozen hq 0
  have hfz1 := blk_frozen hq 1
  have hfz2 := blk_frozen hq 2
  have hcz : w.cell? ⟨q, 0, none⟩ = some v0 := (blk_cell hq 0).trans rfl
  have hcz1 : w.cell? ⟨q, 1, none⟩ = some v1 := (blk_cell hq 1).trans rfl
  have hcz2 : w.cell? ⟨q, 2, none⟩ = some v2 := (blk_cell hq 2).trans rfl
  have HQ := Aside0.mk hq
  clear hq hT
  go_enter Tryz.func134, Tryz.ntmps134
  go_wp2
  go_end0
  refine ⟨rfl, ?_⟩
  rw [show ((i : Int) - 348 + 348).toNat = i by omega]
  refine ⟨⟨t, ?_⟩, ?_⟩
  · exact blk_set (blk_set (blk_set HQ.out 0 _) 1 _) 2 _
  · exact (((Mods.refl (· = q) w).setCell (p := ⟨q, 0, none⟩) (.inl rfl) _).setCell (p := ⟨q, 1, none⟩) (.inl rfl) _).setCell (p := ⟨q, 2, none⟩) (.inl rfl) _

set_option maxHeartbeats 2000000 in
theorem uscale_any (x hi lo : Nat) (s : Int) (hx : x < 18446744073709551616) (hhi : hi < 18446744073709551616) (hlo : lo < 18446744073709551616) (hs0 : -1000000 ≤ s) (hs1 : s ≤ 1000000) :
    ∃ r : Nat, r < 18446744073709551616 ∧ ∀ (w : World) (q : Nat), Pre w q hi lo s → Calls Tryz.prog 135 #[.int .u64 x, .pointer (some ⟨q, 0, none⟩)] w fun e w' => e = .returned (.int .u64 r) ∧ ∃ n, w' = w.drewN n := by
  obtain ⟨h1, hh1⟩ : ∃ h1, x * hi / 18446744073709551616 = h1 := ⟨_, rfl⟩
  obtain ⟨l1, hl1⟩ : ∃ l1, x * hi % 18446744073709551616 = l1 := ⟨_, rfl⟩
  obtain ⟨h3, hh3⟩ : ∃ h1, x * lo / 18446744073709551616 = h1 := ⟨_, rfl⟩
  obtain ⟨l3, hl3⟩ : ∃ l1, x * lo % 18446744073709551616 = l1 := ⟨_, rfl⟩
  have g1 : h1 < 18446744073709551616 := by rw [← hh1]; exact Nat.div_lt_of_lt_mul (Nat.mul_lt_mul'' hx hhi)
  have g2 : l1 < 18446744073709551616 := by rw [← hl1]; omega
  have g5 : h3 < 18446744073709551616 := by rw [← hh3]; exact Nat.div_lt_of_lt_mul (Nat.mul_lt_mul'' hx hlo)
  have g6 : l3 < 18446744073709551616 := by rw [← hl3]; omega
  have HX := Aside0.mk (fun w => (Tryz.bits_Mul64 x hi hx hhi w))
  have HY := Aside0.mk (fun w => (Tryz.bits_Mul64 x lo hx hlo w))
  rw [hh1, hl1] at HX
  rw [hh3, hl3] at HY
  clear hh1 hl1 hh3 hl3
  obtain ⟨k, hk, hb⟩ : ∃ k : Nat, k ≤ 63 ∧ bits .and .i64 s 63 = (k : Int) := ⟨(s % 64).toNat, by omega, by rw [i64_and63]; omega⟩
  obtain ⟨h2, g3, hs2⟩ : ∃ h2 : Nat, h2 < 18446744073709551616 ∧ (h1 : Int) / 2 ^ k = (h2 : Int) := ⟨h1 / 2 ^ k, Nat.lt_of_le_of_lt (Nat.div_le_self _ _) g1, by push_cast; rfl⟩
  obtain ⟨c1, hc1⟩ : ∃ c : Bool, (IntKind.u64.wrap ((h2 : Int) * 2 ^ k) != (h1 : Int)) = c := ⟨_, rfl⟩
  cases c1
  · obtain ⟨b, hb1, hbe⟩ : ∃ b : Nat, b ≤ 1 ∧ (if decide (l1 < h3) = true then (1 : Int) else 0) = (b : Int) := by
      split
      · exact ⟨1, by omega, rfl⟩
      · exact ⟨0, by omega, rfl⟩
    obtain ⟨h5, g7, hh5⟩ : ∃ h5 : Nat, h5 < 18446744073709551616 ∧ IntKind.u64.wrap ((h1 : Int) - (b : Int)) = (h5 : Int) := ⟨(IntKind.u64.wrap ((h1 : Int) - (b : Int))).toNat, by rw [wrap_u64]; omega, by rw [wrap_u64]; omega⟩
    obtain ⟨h6, g8, hh6⟩ : ∃ h6 : Nat, h6 < 18446744073709551616 ∧ (h5 : Int) / 2 ^ k = (h6 : Int) := ⟨h5 / 2 ^ k, Nat.lt_of_le_of_lt (Nat.div_le_self _ _) g7, by push_cast; rfl⟩
    obtain ⟨c3, hc3⟩ : ∃ c : Bool, decide ((1 : Int) < IntKind.u64.wrap ((l1 : Int) - (h3 : Int))) = c := ⟨_, rfl⟩
    have HBE := Aside0.mk hbe
    clear hbe
    cases c3
    · refine ⟨h6, g8, fun w q hP => ?_⟩
      obtain ⟨t, hq⟩ := hP
      have hcz : w.cell? ⟨q, 0, none⟩ = some (.int .u64 hi) := (blk_cell hq 0).trans rfl
      have hcz1 : w.cell? ⟨q, 1, none⟩ = some (.int .u64 lo) := (blk_cell hq 1).trans rfl
      have hcz2 : w.cell? ⟨q, 2, none⟩ = some (.int .i64 s) := (blk_cell hq 2).trans rfl
      clear hq
      go_enter Tryz.func135, Tryz.ntmps135
      go_wp2_with fail
      refine (HX.out w).mono ?_
      rintro e w' ⟨rfl, rfl⟩
      go_wp2_with fail
      refine (HY.out w').mono ?_
      rintro e w2 ⟨rfl, rfl⟩
      go_wp2_with fail
      refine (b2u_if _ w2).mono ?_
      rintro e w3 ⟨rfl, rfl⟩
      rw [HBE.out]
      go_wp2_with fail
      go_quiet ((go_at_call 116; refine Calls.quiet_of_same (b2u_if _ _)))
      go_wp2
      go_ret
      exact ⟨congrArg (fun z => Ending.returned (Value.int .u64 z)) (by have := bits_or_u64_nat h6 0 g8 (by omega); simpa using this), _, rfl⟩
    · refine ⟨h6 ||| 1, Nat.or_lt_two_pow (n := 64) g8 (by omega), fun w q hP => ?_⟩
      obtain ⟨t, hq⟩ := hP
      have hcz : w.cell? ⟨q, 0, none⟩ = some (.int .u64 hi) := (blk_cell hq 0).trans rfl
      have hcz1 : w.cell? ⟨q, 1, none⟩ = some (.int .u64 lo) := (blk_cell hq 1).trans rfl
      have hcz2 : w.cell? ⟨q, 2, none⟩ = some (.int .i64 s) := (blk_cell hq 2).trans rfl
      clear hq
      go_enter Tryz.func135, Tryz.ntmps135
      go_wp2_with fail
      refine (HX.out w).mono ?_
      rintro e w' ⟨rfl, rfl⟩
      go_wp2_with fail
      refine (HY.out w').mono ?_
      rintro e w2 ⟨rfl, rfl⟩
      go_wp2_with fail
      refine (b2u_if _ w2).mono ?_
      rintro e w3 ⟨rfl, rfl⟩
      rw [HBE.out]
      go_wp2_with fail
      go_quiet ((go_at_call 116; refine Calls.quiet_of_same (b2u_if _ _)))
      go_wp2
      go_ret
      exact ⟨congrArg (fun z => Ending.returned (Value.int .u64 z)) (bits_or_u64_nat h6 1 g8 (by omega)), _, rfl⟩
  · refine ⟨h2 ||| 1, Nat.or_lt_two_pow (n := 64) g3 (by omega), fun w q hP => ?_⟩
    obtain ⟨t, hq⟩ := hP
    have hcz : w.cell? ⟨q, 0, none⟩ = some (.int .u64 hi) := (blk_cell hq 0).trans rfl
    have hcz1 : w.cell? ⟨q, 1, none⟩ = some (.int .u64 lo) := (blk_cell hq 1).trans rfl
    have hcz2 : w.cell? ⟨q, 2, none⟩ = some (.int .i64 s) := (blk_cell hq 2).trans rfl
    clear hq
    go_enter Tryz.func135, Tryz.ntmps135
    go_wp2_with fail
    refine (HX.out w).mono ?_
    rintro e w' ⟨rfl, rfl⟩
    go_wp2_with fail
    go_ret
    exact ⟨congrArg (fun z => Ending.returned (Value.int .u64 z)) (bits_or_u64_nat h2 1 g3 (by omega)), 0, rfl⟩
end

section
open Go.RowKit Go.Proofs.YtohadobpiclllaaGreatDoorW.PrintWords Go.Proofs.YtohadobpiclllaaGreatDoorW.PrintMore Go.Proofs.YtohadobpiclllaaGreatDoorW.PrintLast Go.Proofs.YtohadobpiclllaaGreatDoor.PFnRespScan
attribute [local go_sem] max2_int min2_int max_two min_two max_three min_three max_four min_four
set_option linter.unusedVariables false
set_option linter.unusedSimpArgs false

theorem frombits64 (n : Int) (w : World) : (callFunc 117 #[.int .u64 n]).run Tryz.prog w = .ok (.value (.float .f64 n.toNat)) w := by kernel_rfl
theorem frombits32 (n : Int) (w : World) : (callFunc 111 #[.int .u32 n]).run Tryz.prog w = .ok (.value (.float .f32 n.toNat)) w := by kernel_rfl
attribute [local go_sem] frombits64 frombits32

/-- A range's fault, or none. -/
def errv : Bool → Value
  | true => .iface 135 (.int .i64 1)
  | false => .nilIface
def PkPost (k : FloatKind) (r : Nat) (bad : Bool) (w : World) (x : Ending) (w' : World) : Prop := x = .returned (.tuple #[.float k r, errv bad]) ∧ w' = w

set_option maxHeartbeats 4000000 in
set_option maxRecDepth 100000 in
theorem pack64_any (M e : Int) (he0 : -100000 ≤ e) (he1 : e ≤ 100000) : ∃ (r : Nat) (bad : Bool), ∀ w, Calls Tryz.prog 142 #[.int .u64 M, .int .i64 e] w (PkPost .f64 r bad w) := by
  obtain ⟨c1, hc1⟩ : ∃ c : Bool, (bits .and .u64 M 4503599627370496 == 0) = c := ⟨_, rfl⟩
  cases c1
  · by_cases h9 : 972 ≤ e
    · refine ⟨(bits .or .u64 (bits .and .u64 M 9223372036854775808) 9218868437227405312).toNat, true, ?_⟩
      intro w
      go_enter Tryz.func142, Tryz.ntmps142
      go_wp2
      go_ret2
      exact ⟨rfl, rfl⟩
    · have h9' : decide (972 ≤ e) = false := decide_eq_false h9
      refine ⟨(bits .or .u64 (bits .andNot .u64 M 4503599627370496) (IntKind.u64.wrap (IntKind.u64.wrap (1075 + e) * 4503599627370496))).toNat, false, ?_⟩
      intro w
      go_enter Tryz.func142, Tryz.ntmps142
      go_wp2
      go_ret2
      exact ⟨rfl, rfl⟩
  · refine ⟨M.toNat, false, ?_⟩
    intro w
    go_enter Tryz.func142, Tryz.ntmps142
    go_wp2
    go_ret2
    exact ⟨rfl, rfl⟩

set_option maxHeartbeats 4000000 in
set_option maxRecDepth 100000 in
theorem pack32_any (M e : Int) (he0 : -100000 ≤ e) (he1 : e ≤ 100000) : ∃ (r : Nat) (bad : Bool), ∀ w, Calls Tryz.prog 138 #[.int .u32 M, .int .i64 e] w (PkPost .f32 r bad w) := by
  obtain ⟨c1, hc1⟩ : ∃ c : Bool, (bits .and .u32 M 8388608 == 0) = c := ⟨_, rfl⟩
  cases c1
  · by_cases h9 : 105 ≤ e
    · refine ⟨(bits .or .u32 (bits .and .u32 M 2147483648) 2139095040).toNat, true, ?_⟩
      intro w
      go_enter Tryz.func138, Tryz.ntmps138
      go_wp2
      go_ret2
      exact ⟨rfl, rfl⟩
    · have h9' : decide (105 ≤ e) = false := decide_eq_false h9
      refine ⟨(bits .or .u32 (bits .andNot .u32 M 8388608) (IntKind.u32.wrap (IntKind.u32.wrap (150 + e) * 8388608))).toNat, false, ?_⟩
      intro w
      go_enter Tryz.func138, Tryz.ntmps138
      go_wp2
      go_ret2
      exact ⟨rfl, rfl⟩
  · refine ⟨M.toNat, false, ?_⟩
    intro w
    go_enter Tryz.func138, Tryz.ntmps138
    go_wp2
    go_ret2
    exact ⟨rfl, rfl⟩
end
end Go.Proofs.YtohadobpiclllaaGreatDoor
