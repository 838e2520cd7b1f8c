/- ParseFloat by unrounded scaling: parseFloat64, parseFloat32. -/
import Derived.Test.YtohadobpiclllaaGreatDoorMm
namespace Go.Proofs.YtohadobpiclllaaGreatDoor
section
open Go.RowKit Go.Proofs.YtohadobpiclllaaGreatDoorW.PrintWords Go.Proofs.YtohadobpiclllaaGreatDoorW.PrintMore Go.Proofs.YtohadobpiclllaaGreatDoorW.PrintLast Go.Proofs.YtohadobpiclllaaGreatDoor.PFnRespScan
attribute [local go_sem] max2_int min2_int max_two min_two max_three min_three max_four min_four
set_option linter.unusedVariables false
set_option linter.unusedSimpArgs false
attribute [local go_sem] frombits64 frombits32

theorem b2i_if (b : Bool) (w : World) :
    Calls Tryz.prog 136 #[.bool b] w fun e w' => e = .returned (.int .i64 (if b then 1 else 0)) ∧ w' = w := by
  cases b <;>
  (go_enter Tryz.func136, Tryz.ntmps136
   go_wp2
   go_ret
   exact ⟨rfl, rfl⟩)
theorem l2_calls (x : Int) (h0 : -100000 ≤ x) (h1 : x ≤ 100000) (w : World) :
    Calls Tryz.prog 133 #[.int .i64 x] w fun e w' => e = .returned (.int .i64 (x * 108853 / 32768)) ∧ w' = w := by
  go_enter Tryz.func133, Tryz.ntmps133
  go_wp2
  go_ret
  exact ⟨rfl, rfl⟩
theorem unmin53 (w : World) : Calls Tryz.prog 137 #[.int .u64 9007199254740992] w fun e w' => e = .returned (.int .u64 36028797018963966) ∧ w' = w := by
  go_enter Tryz.func137, Tryz.ntmps137
  go_wp2
  go_ret
  exact ⟨rfl, rfl⟩
theorem unmin24 (w : World) : Calls Tryz.prog 137 #[.int .u64 16777216] w fun e w' => e = .returned (.int .u64 67108862) ∧ w' = w := by
  go_enter Tryz.func137, Tryz.ntmps137
  go_wp2
  go_ret
  exact ⟨rfl, rfl⟩
theorem round_any (x : Int) : ∃ r : Int, ∀ w : World, Calls Tryz.prog 139 #[.int .u64 x] w fun e w' => e = .returned (.int .u64 r) ∧ w' = w := by
  refine ⟨IntKind.u64.wrap (IntKind.u64.wrap (x + 1) + bits .and .u64 (x / 4) 1) / 4, fun w => ?_⟩
  go_enter Tryz.func139, Tryz.ntmps139
  go_wp2
  go_ret
  exact ⟨rfl, rfl⟩

/-- The table of powers of ten, in 128 bits, holds T. -/
def P10T (w : World) (T : Nat → Nat) : Prop := ∀ i < 1392, w.cell? ⟨11, i, none⟩ = some (.int .u64 (T i))
theorem P10T.mods {w w' : World} {T : Nat → Nat} {P : Nat → Prop} (h : P10T w T) (hm : Mods P w w') (h8 : ¬ P 11) : P10T w' T := fun k hk => hm.cell (h k hk) h8

theorem bitLenAux_le : ∀ (f x : Nat), Lib.bitLenAux f x ≤ f
  | 0, _ => Nat.le_refl _
  | f + 1, x => by
    unfold Lib.bitLenAux
    have := bitLenAux_le f (x / 2)
    split <;> omega
theorem bitLen_64 (x : Nat) (h0 : 0 < x) : 1 ≤ Lib.bitLen x ∧ Lib.bitLen x ≤ 64 := by
  constructor
  · unfold Lib.bitLen Lib.bitLenAux
    rw [if_neg (by omega)]
    omega
  · unfold Lib.bitLen
    exact bitLenAux_le 64 x

def PfPost (k : FloatKind) (r : Nat) (bad : Bool) (w : World) (x : Ending) (w' : World) : Prop := x = .returned (.tuple #[.float k r, errv bad]) ∧ Below w.heap.size w w'

set_option maxHeartbeats 8000000 in
set_option maxRecDepth 100000 in
theorem parse64_any (T : Nat → Nat) (hT0 : ∀ i, T i < 18446744073709551616) (d : Nat) (hd0 : 0 < d) (hd1 : d < 18446744073709551616) (p sg : Int) (hp0 : -345 ≤ p) (hp1 : p ≤ 310) :
    ∃ (r : Nat) (bad : Bool), ∀ (w : World), P10T w T ∧ 11 < w.heap.size → Calls Tryz.prog 119 #[.int .u64 d, .int .i64 p, .int .u64 sg] w (PfPost .f64 r bad w) := by
  obtain ⟨hb0, hb1⟩ := bitLen_64 d hd0
  have HB := Aside0.mk (fun w => Tryz.bits_Len64 (d : Int) w (by omega) (by omega))
  rw [Int.toNat_natCast] at HB
  obtain ⟨b, hb⟩ : ∃ b, Lib.bitLen d = b := ⟨_, rfl⟩
  rw [hb] at HB hb0 hb1
  clear hb
  have HL := Aside0.mk (fun w => l2_calls p (by omega) (by omega) w)
  obtain ⟨lp, hlp, hlp0, hlp1⟩ : ∃ lp : Int, p * 108853 / 32768 = lp ∧ -1200 ≤ lp ∧ lp ≤ 1200 := ⟨_, rfl, by omega, by omega⟩
  rw [hlp] at HL
  obtain ⟨E, hE, hE0, hE1⟩ : ∃ E : Int, (if 53 - (b : Int) - lp < 1074 then 53 - (b : Int) - lp else 1074) = E ∧ -1300 ≤ E ∧ E ≤ 1074 := ⟨_, rfl, by split <;> omega, by split <;> omega⟩
  obtain ⟨c, hc⟩ : ∃ c : Nat, (64 : Int) - (b : Int) = (c : Int) := ⟨64 - b, by omega⟩
  have hc63 : c ≤ 63 := by omega
  obtain ⟨x, hx0, hx⟩ : ∃ x : Nat, x < 18446744073709551616 ∧ IntKind.u64.wrap ((d : Int) * 2 ^ c) = (x : Int) := ⟨(IntKind.u64.wrap ((d : Int) * 2 ^ c)).toNat, by rw [wrap_u64]; omega, by rw [wrap_u64]; omega⟩
  obtain ⟨hi, hhi, ghi⟩ : ∃ v, T ((p + 348).toNat * 2) = v ∧ v < 18446744073709551616 := ⟨_, rfl, hT0 _⟩
  obtain ⟨lo, hlo, glo⟩ : ∃ v, T ((p + 348).toNat * 2 + 1) = v ∧ v < 18446744073709551616 := ⟨_, rfl, hT0 _⟩
  obtain ⟨sv, hsv, gs0, gs1⟩ : ∃ sv : Int, -(E - (c : Int) + lp + 3) = sv ∧ -10000 ≤ sv ∧ sv ≤ 10000 := ⟨_, rfl, by omega, by omega⟩
  have HE := Aside0.mk hE
  have HT : Aside0 (∀ w : World, P10T w T → ∀ i < 1392, (w.alloc (Obj.cells #[Value.int IntKind.u64 0, Value.int IntKind.u64 0, Value.int IntKind.i64 0] 210)).cell? ⟨11, i, none⟩ = some (.int .u64 (T i))) := ⟨fun w h i hi => ((Mods.refl (fun _ => False) w).alloc _).cell (h i hi) id⟩
  clear hT0 hlp hE
  by_cases h64 : 64 ≤ sv
  · obtain ⟨R, hR⟩ : ∃ R : Int, bits .or .u64 sg 0 = R := ⟨_, rfl⟩
    refine ⟨R.toNat, false, fun w hW => ?_⟩
    obtain ⟨r1, r2⟩ := hW
    go_enter Tryz.func119, Tryz.ntmps119
    go_wp2_with fail
    refine (HB.out w).mono ?_
    rintro e w1 ⟨rfl, rfl⟩
    go_wp2_with fail
    refine (HL.out w1).mono ?_
    rintro e w2 ⟨rfl, rfl⟩
    go_upto_region 3 with fail
    go_cut [10] from 18 to 22 (fun s10 wx => s10 = .int .i64 E ∧ w2 = wx)
    case first =>
      by_cases h : 53 - (b : Int) - lp < 1074
      · have HE2 := Aside0.mk (show E = 53 - (b : Int) - lp by rw [← HE.out, if_pos h])
        go_wp2
        go_meet
        exact ⟨by rw [HE2.out], rfl⟩
      · have HE2 := Aside0.mk (show E = 1074 by rw [← HE.out, if_neg h])
        have h' : 1074 ≤ 53 - (b : Int) - lp := by omega
        clear h
        go_wp2
        go_meet
        exact ⟨by rw [HE2.out], rfl⟩
    case rest =>
    obtain ⟨rfl, rfl⟩ := hcut
    go_wp2_with fail
    refine (prescale_calls _ w2.heap.size _ _ _ _ _ p lp T (HT.out w2 r1) (heap_alloc_new w2 _) (by omega) (by omega) (by omega) (by omega) (by omega) (by omega) (by omega)).mono ?_
    rintro e1 w3 ⟨rfl, hP, hM⟩
    have hM2 : Mods (fun _ => False) w2 w3 := ((Mods.refl (fun _ => False) w2).alloc _).trans hM (fun i hi e => by omega)
    rw [hhi, hlo, hsv] at hP
    have hcs : w3.cell? ⟨w2.heap.size, 2, none⟩ = some (.int .i64 sv) := by obtain ⟨t, hq⟩ := hP; exact (blk_cell hq 2).trans rfl
    have HP := Aside0.mk hP
    have HM := Aside0.mk hM2.below
    clear hP hM hM2
    go_wp2_with fail
    go_ret2
    exact ⟨rfl, HM.out⟩
  · have h64' : decide (64 ≤ sv) = false := decide_eq_false h64
    clear h64
    obtain ⟨u, hu, hU⟩ := uscale_any x hi lo sv hx0 ghi glo (by omega) (by omega)
    obtain ⟨s1, hs1, hs1e⟩ : ∃ s1 : Nat, s1 ≤ 1 ∧ (if decide (((36028797018963966 : Int) ≤ (u : Int))) = true then (1 : Int) else 0) = (s1 : Int) := by
      split
      · exact ⟨1, by omega, rfl⟩
      · exact ⟨0, by omega, rfl⟩
    obtain ⟨u2, hu2⟩ : ∃ u2 : Int, bits .or .u64 ((u : Int) / 2 ^ s1) (bits .and .u64 (u : Int) 1) = u2 := ⟨_, rfl⟩
    obtain ⟨rd, hrd⟩ := round_any u2
    obtain ⟨M, hM0⟩ : ∃ M : Int, bits .or .u64 sg rd = M := ⟨_, rfl⟩
    obtain ⟨E2, hE2⟩ : ∃ E2 : Int, -(E - (s1 : Int)) = E2 := ⟨_, rfl⟩
    obtain ⟨r, bad, hpk⟩ := pack64_any M E2 (by omega) (by omega)
    have HU := Aside0.mk hU
    have HRD := Aside0.mk hrd
    have HPK := Aside0.mk hpk
    have HS1 := Aside0.mk hs1e
    clear hU hrd hpk hs1e
    refine ⟨r, bad, fun w hW => ?_⟩
    obtain ⟨r1, r2⟩ := hW
    go_enter Tryz.func119, Tryz.ntmps119
    go_wp2_with fail
    refine (HB.out w).mono ?_
    rintro e w1 ⟨rfl, rfl⟩
    go_wp2_with fail
    refine (HL.out w1).mono ?_
    rintro e w2 ⟨rfl, rfl⟩
    go_upto_region 3 with fail
    go_cut [10] from 18 to 22 (fun s10 wx => s10 = .int .i64 E ∧ w2 = wx)
    case first =>
      by_cases h : 53 - (b : Int) - lp < 1074
      · have HE2 := Aside0.mk (show E = 53 - (b : Int) - lp by rw [← HE.out, if_pos h])
        go_wp2
        go_meet
        exact ⟨by rw [HE2.out], rfl⟩
      · have HE2 := Aside0.mk (show E = 1074 by rw [← HE.out, if_neg h])
        have h' : 1074 ≤ 53 - (b : Int) - lp := by omega
        clear h
        go_wp2
        go_meet
        exact ⟨by rw [HE2.out], rfl⟩
    case rest =>
    obtain ⟨rfl, rfl⟩ := hcut
    go_wp2_with fail
    refine (prescale_calls _ w2.heap.size _ _ _ _ _ p lp T (HT.out w2 r1) (heap_alloc_new w2 _) (by omega) (by omega) (by omega) (by omega) (by omega) (by omega) (by omega)).mono ?_
    rintro e1 w3 ⟨rfl, hP, hM⟩
    have hM2 : Mods (fun _ => False) w2 w3 := ((Mods.refl (fun _ => False) w2).alloc _).trans hM (fun i hi e => by omega)
    rw [hhi, hlo, hsv] at hP
    have hcs : w3.cell? ⟨w2.heap.size, 2, none⟩ = some (.int .i64 sv) := by obtain ⟨t, hq⟩ := hP; exact (blk_cell hq 2).trans rfl
    have HP := Aside0.mk hP
    have HM := Aside0.mk hM2.below
    clear hP hM hM2
    go_wp2_with fail
    refine (HU.out w3 w2.heap.size HP.out).mono ?_
    rintro e1 w4 ⟨rfl, n1, rfl⟩
    go_wp2_with fail
    refine (unmin53 _).mono ?_
    rintro e1 w4 ⟨rfl, rfl⟩
    go_wp2_with fail
    refine (b2i_if _ _).mono ?_
    rintro e1 w4 ⟨rfl, rfl⟩
    rw [HS1.out]
    go_wp2_with fail
    refine (HRD.out _).mono ?_
    rintro e1 w4 ⟨rfl, rfl⟩
    go_wp2_with fail
    refine (HPK.out _).mono ?_
    rintro e1 w4 ⟨rfl, rfl⟩
    go_wp2_with fail
    go_ret2
    exact ⟨rfl, ⟨HM.out.os, HM.out.tape, HM.out.output, HM.out.size, HM.out.block⟩⟩

set_option maxHeartbeats 8000000 in
set_option maxRecDepth 100000 in
theorem parse32_any (T : Nat → Nat) (hT0 : ∀ i, T i < 18446744073709551616) (d : Nat) (hd0 : 0 < d) (hd1 : d < 18446744073709551616) (p sg : Int) (hp0 : -345 ≤ p) (hp1 : p ≤ 310) :
    ∃ (r : Nat) (bad : Bool), ∀ (w : World), P10T w T ∧ 11 < w.heap.size → Calls Tryz.prog 113 #[.int .u64 d, .int .i64 p, .int .u32 sg] w (PfPost .f32 r bad w) := by
  obtain ⟨hb0, hb1⟩ := bitLen_64 d hd0
  have HB := Aside0.mk (fun w => Tryz.bits_Len64 (d : Int) w (by omega) (by omega))
  rw [Int.toNat_natCast] at HB
  obtain ⟨b, hb⟩ : ∃ b, Lib.bitLen d = b := ⟨_, rfl⟩
  rw [hb] at HB hb0 hb1
  clear hb
  have HL := Aside0.mk (fun w => l2_calls p (by omega) (by omega) w)
  obtain ⟨lp, hlp, hlp0, hlp1⟩ : ∃ lp : Int, p * 108853 / 32768 = lp ∧ -1200 ≤ lp ∧ lp ≤ 1200 := ⟨_, rfl, by omega, by omega⟩
  rw [hlp] at HL
  obtain ⟨E, hE, hE0, hE1⟩ : ∃ E : Int, (if 24 - (b : Int) - lp < 149 then 24 - (b : Int) - lp else 149) = E ∧ -1300 ≤ E ∧ E ≤ 149 := ⟨_, rfl, by split <;> omega, by split <;> omega⟩
  obtain ⟨c, hc⟩ : ∃ c : Nat, (64 : Int) - (b : Int) = (c : Int) := ⟨64 - b, by omega⟩
  have hc63 : c ≤ 63 := by omega
  obtain ⟨x, hx0, hx⟩ : ∃ x : Nat, x < 18446744073709551616 ∧ IntKind.u64.wrap ((d : Int) * 2 ^ c) = (x : Int) := ⟨(IntKind.u64.wrap ((d : Int) * 2 ^ c)).toNat, by rw [wrap_u64]; omega, by rw [wrap_u64]; omega⟩
  obtain ⟨hi, hhi, ghi⟩ : ∃ v, T ((p + 348).toNat * 2) = v ∧ v < 18446744073709551616 := ⟨_, rfl, hT0 _⟩
  obtain ⟨lo, hlo, glo⟩ : ∃ v, T ((p + 348).toNat * 2 + 1) = v ∧ v < 18446744073709551616 := ⟨_, rfl, hT0 _⟩
  obtain ⟨sv, hsv, gs0, gs1⟩ : ∃ sv : Int, -(E - (c : Int) + lp + 3) = sv ∧ -10000 ≤ sv ∧ sv ≤ 10000 := ⟨_, rfl, by omega, by omega⟩
  have HE := Aside0.mk hE
  have HT : Aside0 (∀ w : World, P10T w T → ∀ i < 1392, (w.alloc (Obj.cells #[Value.int IntKind.u64 0, Value.int IntKind.u64 0, Value.int IntKind.i64 0] 210)).cell? ⟨11, i, none⟩ = some (.int .u64 (T i))) := ⟨fun w h i hi => ((Mods.refl (fun _ => False) w).alloc _).cell (h i hi) id⟩
  clear hT0 hlp hE
  by_cases h64 : 64 ≤ sv
  · obtain ⟨R, hR⟩ : ∃ R : Int, bits .or .u32 sg 0 = R := ⟨_, rfl⟩
    refine ⟨R.toNat, false, fun w hW => ?_⟩
    obtain ⟨r1, r2⟩ := hW
    go_enter Tryz.func113, Tryz.ntmps113
    go_wp2_with fail
    refine (HB.out w).mono ?_
    rintro e w1 ⟨rfl, rfl⟩
    go_wp2_with fail
    refine (HL.out w1).mono ?_
    rintro e w2 ⟨rfl, rfl⟩
    go_upto_region 3 with fail
    go_cut [10] from 18 to 22 (fun s10 wx => s10 = .int .i64 E ∧ w2 = wx)
    case first =>
      by_cases h : 24 - (b : Int) - lp < 149
      · have HE2 := Aside0.mk (show E = 24 - (b : Int) - lp by rw [← HE.out, if_pos h])
        go_wp2
        go_meet
        exact ⟨by rw [HE2.out], rfl⟩
      · have HE2 := Aside0.mk (show E = 149 by rw [← HE.out, if_neg h])
        have h' : 149 ≤ 24 - (b : Int) - lp := by omega
        clear h
        go_wp2
        go_meet
        exact ⟨by rw [HE2.out], rfl⟩
    case rest =>
    obtain ⟨rfl, rfl⟩ := hcut
    go_wp2_with fail
    refine (prescale_calls _ w2.heap.size _ _ _ _ _ p lp T (HT.out w2 r1) (heap_alloc_new w2 _) (by omega) (by omega) (by omega) (by omega) (by omega) (by omega) (by omega)).mono ?_
    rintro e1 w3 ⟨rfl, hP, hM⟩
    have hM2 : Mods (fun _ => False) w2 w3 := ((Mods.refl (fun _ => False) w2).alloc _).trans hM (fun i hi e => by omega)
    rw [hhi, hlo, hsv] at hP
    have hcs : w3.cell? ⟨w2.heap.size, 2, none⟩ = some (.int .i64 sv) := by obtain ⟨t, hq⟩ := hP; exact (blk_cell hq 2).trans rfl
    have HP := Aside0.mk hP
    have HM := Aside0.mk hM2.below
    clear hP hM hM2
    go_wp2_with fail
    go_ret2
    exact ⟨rfl, HM.out⟩
  · have h64' : decide (64 ≤ sv) = false := decide_eq_false h64
    clear h64
    obtain ⟨u, hu, hU⟩ := uscale_any x hi lo sv hx0 ghi glo (by omega) (by omega)
    obtain ⟨s1, hs1, hs1e⟩ : ∃ s1 : Nat, s1 ≤ 1 ∧ (if decide (((67108862 : Int) ≤ (u : Int))) = true then (1 : Int) else 0) = (s1 : Int) := by
      split
      · exact ⟨1, by omega, rfl⟩
      · exact ⟨0, by omega, rfl⟩
    obtain ⟨u2, hu2⟩ : ∃ u2 : Int, bits .or .u64 ((u : Int) / 2 ^ s1) (bits .and .u64 (u : Int) 1) = u2 := ⟨_, rfl⟩
    obtain ⟨rd, hrd⟩ := round_any u2
    obtain ⟨M, hM0⟩ : ∃ M : Int, bits .or .u32 sg (rd % 4294967296) = M := ⟨_, rfl⟩
    obtain ⟨E2, hE2⟩ : ∃ E2 : Int, -(E - (s1 : Int)) = E2 := ⟨_, rfl⟩
    obtain ⟨r, bad, hpk⟩ := pack32_any M E2 (by omega) (by omega)
    have HU := Aside0.mk hU
    have HRD := Aside0.mk hrd
    have HPK := Aside0.mk hpk
    have HS1 := Aside0.mk hs1e
    clear hU hrd hpk hs1e
    refine ⟨r, bad, fun w hW => ?_⟩
    obtain ⟨r1, r2⟩ := hW
    go_enter Tryz.func113, Tryz.ntmps113
    go_wp2_with fail
    refine (HB.out w).mono ?_
    rintro e w1 ⟨rfl, rfl⟩
    go_wp2_with fail
    refine (HL.out w1).mono ?_
    rintro e w2 ⟨rfl, rfl⟩
    go_upto_region 3 with fail
    go_cut [10] from 18 to 22 (fun s10 wx => s10 = .int .i64 E ∧ w2 = wx)
    case first =>
      by_cases h : 24 - (b : Int) - lp < 149
      · have HE2 := Aside0.mk (show E = 24 - (b : Int) - lp by rw [← HE.out, if_pos h])
        go_wp2
        go_meet
        exact ⟨by rw [HE2.out], rfl⟩
      · have HE2 := Aside0.mk (show E = 149 by rw [← HE.out, if_neg h])
        have h' : 149 ≤ 24 - (b : Int) - lp := by omega
        clear h
        go_wp2
        go_meet
        exact ⟨by rw [HE2.out], rfl⟩
    case rest =>
    obtain ⟨rfl, rfl⟩ := hcut
    go_wp2_with fail
    refine (prescale_calls _ w2.heap.size _ _ _ _ _ p lp T (HT.out w2 r1) (heap_alloc_new w2 _) (by omega) (by omega) (by omega) (by omega) (by omega) (by omega) (by omega)).mono ?_
    rintro e1 w3 ⟨rfl, hP, hM⟩
    have hM2 : Mods (fun _ => False) w2 w3 := ((Mods.refl (fun _ => False) w2).alloc _).trans hM (fun i hi e => by omega)
    rw [hhi, hlo, hsv] at hP
    have hcs : w3.cell? ⟨w2.heap.size, 2, none⟩ = some (.int .i64 sv) := by obtain ⟨t, hq⟩ := hP; exact (blk_cell hq 2).trans rfl
    have HP := Aside0.mk hP
    have HM := Aside0.mk hM2.below
    clear hP hM hM2
    go_wp2_with fail
    refine (HU.out w3 w2.heap.size HP.out).mono ?_
    rintro e1 w4 ⟨rfl, n1, rfl⟩
    go_wp2_with fail
    refine (unmin24 _).mono ?_
    rintro e1 w4 ⟨rfl, rfl⟩
    go_wp2_with fail
    refine (b2i_if _ _).mono ?_
    rintro e1 w4 ⟨rfl, rfl⟩
    rw [HS1.out]
    go_wp2_with fail
    refine (HRD.out _).mono ?_
    rintro e1 w4 ⟨rfl, rfl⟩
    go_wp2_with fail
    refine (HPK.out _).mono ?_
    rintro e1 w4 ⟨rfl, rfl⟩
    go_wp2_with fail
    go_ret2
    exact ⟨rfl, ⟨HM.out.os, HM.out.tape, HM.out.output, HM.out.size, HM.out.block⟩⟩
end
end Go.Proofs.YtohadobpiclllaaGreatDoor
