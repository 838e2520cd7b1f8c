/- The long decimals of ParseFloat: Shift; rounding. The long decimals of ParseFloat: RoundedInteger. A scope with two labels, jumped to from above alone: the run goes on behind the label. The long decimals of ParseFloat: what the two scaling loops of floatBits compute. -/
import Derived.Test.YtohadobpiclllaaGreatDoorMd
import Derived.Scope
import Derived.ScopeJumps
import Derived.WalkMore
namespace Go.Proofs.YtohadobpiclllaaGreatDoor
section
open Go.RowKit Go.Proofs.YtohadobpiclllaaGreatDoorW.PrintWords Go.Proofs.YtohadobpiclllaaGreatDoorW.PrintMore Go.Proofs.YtohadobpiclllaaGreatDoorW.PrintLast Go.Proofs.YtohadobpiclllaaGreatDoor.PFnRespScan
attribute [local go_sem] max2_int min2_int max_two min_two max_three min_three max_four min_four
set_option linter.unusedVariables false
set_option linter.unusedSimpArgs false

theorem Cheats.mods {w w' : World} {tb : Nat} {P : Nat → Prop} (h : Cheats w tb) (hm : Mods P w w') (h12 : ¬ P 12) (ht : ¬ P tb) : Cheats w' tb := by
  obtain ⟨o, h1, h2⟩ := h
  exact ⟨o, hm.cell h1 h12, fun k hk => ⟨hm.cell (h2 k hk).1 ht, hm.cell (h2 k hk).2 ht⟩⟩

/-- The shift to the left by k, as Shift is asked for it. -/
theorem lsh_calls (w : World) (p tb : Nat) (neg : Bool) (S : Dec) (k : Nat) (hS : DecAt w p neg S) (hG : Good S) (hC : Cheats w tb) (hp12 : p ≠ 12) (hptb : p ≠ tb) (hk1 : 1 ≤ k) (hk : k ≤ 60) (hdp0 : -100000 ≤ S.dp) (hdp1 : S.dp ≤ 100000) :
    Calls Tryz.prog 148 #[.pointer (some ⟨p, 0, none⟩), .int .u64 k] w (DecPost w p neg (lshift k S)) := by
  have hrow := row_ok k hk1 hk
  simp only [rowOK, Bool.and_eq_true, decide_eq_true_eq, List.all_eq_true, List.mem_range] at hrow
  obtain ⟨⟨⟨⟨⟨⟨⟨⟨⟨r1, r2⟩, r3⟩, r4⟩, r5⟩, r6⟩, r7⟩, r8⟩, r9⟩, r10⟩ := hrow
  exact leftShift_calls w p tb neg S k hS hG.1 hC hp12 hptb hk1 hk r1 r2 r3 (lshift_spec hG hk1 hk).1 hdp0 hdp1
theorem rsh_calls (w : World) (p : Nat) (neg : Bool) (S : Dec) (k : Nat) (hS : DecAt w p neg S) (hG : Good S) (hk1 : 1 ≤ k) (hk : k ≤ 60) (hdp0 : -100000 ≤ S.dp) (hdp1 : S.dp ≤ 100000) :
    Calls Tryz.prog 149 #[.pointer (some ⟨p, 0, none⟩), .int .u64 k] w (DecPost w p neg (rsh k S)) := by
  obtain ⟨hN, h20⟩ := need_spec hG hk
  exact rightShift_calls w p neg S k (need k S) hS hG.1 hk1 hk hN (good_nv1 hG).1 (by omega) hdp0 hdp1

set_option maxHeartbeats 4000000 in
set_option maxRecDepth 100000 in
theorem shiftL_calls (w : World) (p tb : Nat) (neg : Bool) (S : Dec) (k : Nat) (hS : DecAt w p neg S) (hG : Good S) (hC : Cheats w tb) (hp12 : p ≠ 12) (hptb : p ≠ tb) (hk1 : 1 ≤ k) (hk : k ≤ 60) (hdp0 : -100000 ≤ S.dp) (hdp1 : S.dp ≤ 100000) :
    Calls Tryz.prog 140 #[.pointer (some ⟨p, 0, none⟩), .int .i64 k] w (DecPost w p neg (lshift k S)) := by
  have hcn : w.cell? ⟨p, 800, none⟩ = some (.int .i64 S.nd) := hS.nds
  have hnz : ((S.nd : Int) == 0) = false := beq_eq_false_iff_ne.mpr (by have := hG.2.1; omega)
  have hkp : 0 < k := by omega
  have hk60 : decide ((k : Int) > 60) = false := decide_eq_false (by omega)
  have H := Aside0.mk (lsh_calls w p tb neg S k hS hG hC hp12 hptb hk1 hk hdp0 hdp1)
  clear hS hG hC
  go_enter Tryz.func140, Tryz.ntmps140
  go_wp2_with fail
  refine wp_loop_rounds 1 ?_
  rw [rounds_succ]
  go_wp2_with fail
  refine H.out.mono ?_
  rintro e w5 ⟨rfl, hA, hM⟩
  have HA := Aside0.mk hA
  have HM := Aside0.mk hM
  clear hA hM
  go_wp2
  go_end0
  exact ⟨rfl, HA.out, HM.out⟩

/-- The shift to the right, by any number. -/
noncomputable def shiftR : Nat → Nat → Dec → Dec
  | 0, _, S => S
  | f + 1, n, S => if n ≤ 60 then rsh n S else shiftR f (n - 60) (rsh 60 S)
theorem shiftR_good : ∀ (f n : Nat) (S : Dec), Good S → 1 ≤ n → Good (shiftR f n S) ∧ S.dp - 19 * f ≤ (shiftR f n S).dp ∧ (shiftR f n S).dp ≤ S.dp
  | 0, n, S, h, _ => ⟨h, by show S.dp - _ ≤ S.dp; omega, Int.le_refl _⟩
  | f + 1, n, S, h, hn => by
    rw [shiftR]
    split
    · obtain ⟨h1, h2, h3, _⟩ := rsh_good h hn (by omega)
      exact ⟨h1, by omega, h3⟩
    · obtain ⟨h1, h2, h3, _⟩ := rsh_good h (k := 60) (by omega) (by omega)
      obtain ⟨i1, i2, i3⟩ := shiftR_good f (n - 60) _ h1 (by omega)
      exact ⟨i1, by omega, by omega⟩

set_option maxHeartbeats 4000000 in
set_option maxRecDepth 100000 in
theorem shiftR_calls (w : World) (p : Nat) (neg : Bool) (S : Dec) (F n : Nat) (hS : DecAt w p neg S) (hG : Good S) (hn1 : 1 ≤ n) (hn : n ≤ 60 * F) (hF : F ≤ 4000) (hdp0 : -20000 ≤ S.dp) (hdp1 : S.dp ≤ 20000) :
    Calls Tryz.prog 140 #[.pointer (some ⟨p, 0, none⟩), .int .i64 (-(n : Int))] w (DecPost w p neg (shiftR F n S)) := by
  have hcn : w.cell? ⟨p, 800, none⟩ = some (.int .i64 S.nd) := hS.nds
  have hnz : ((S.nd : Int) == 0) = false := beq_eq_false_iff_ne.mpr (by have := hG.2.1; omega)
  have hkp : decide (-(n : Int) > 0) = false := decide_eq_false (by omega)
  have hkn : decide (-(n : Int) < 0) = true := decide_eq_true (by omega)
  have hn0 : 0 < n := by omega
  have HS := Aside0.mk hS
  have HG := Aside0.mk hG
  clear hS hG
  go_enter Tryz.func140, Tryz.ntmps140
  go_wp2_with fail
  go_loopg [1] F (fun f v1 wr => ∃ (m : Nat) (T : Dec), v1 = .int .i64 (-(m : Int)) ∧ 1 ≤ m ∧ m ≤ 60 * f ∧ f ≤ F ∧ Aside0 (DecAt wr p neg T) ∧ Aside0 (Good T) ∧ Aside0 (shiftR f m T = shiftR F n S) ∧ Aside0 (S.dp - 19 * ((F : Int) - f) ≤ T.dp ∧ T.dp ≤ S.dp) ∧ Aside0 (Mods (· = p) w wr))
  case atStart => exact ⟨n, S, rfl, hn1, hn, Nat.le_refl _, HS, HG, ⟨rfl⟩, ⟨by omega, Int.le_refl _⟩, ⟨Mods.refl _ _⟩⟩
  case round =>
    obtain ⟨m, T, rfl, hm1, hm, hf, HT, HGT, HL, HD, HM⟩ := hrel
    obtain ⟨f, rfl⟩ : ∃ f, gk = f + 1 := ⟨gk - 1, by omega⟩
    have hL := HL.out
    rw [shiftR] at hL
    by_cases h60 : m ≤ 60
    · rw [if_pos h60] at hL
      have h60' : decide (-(m : Int) < -60) = false := decide_eq_false (by omega)
      have HL2 := Aside0.mk hL
      have H := Aside0.mk (rsh_calls wr p neg T m HT.out HGT.out hm1 h60 (by have := HD.out.1; omega) (by have := HD.out.2; omega))
      clear hL
      go_wp2_with fail
      refine H.out.mono ?_
      rintro e w5 ⟨rfl, hA, hM⟩
      have HA := Aside0.mk hA
      have HM5 := Aside0.mk (HM.out.trans hM (fun _ _ h => h))
      clear hA hM
      go_wp2
      go_end0
      exact ⟨rfl, by rw [← HL2.out]; exact HA.out, HM5.out⟩
    · rw [if_neg h60] at hL
      have h60' : decide (-(m : Int) < -60) = true := decide_eq_true (by omega)
      have h60i : (60 : Int) < (m : Int) := by omega
      have HL2 := Aside0.mk hL
      have H := Aside0.mk (rsh_calls wr p neg T 60 HT.out HGT.out (by omega) (by omega) (by have := HD.out.1; omega) (by have := HD.out.2; omega))
      have HG2 := Aside0.mk (rsh_good HGT.out (k := 60) (by omega) (by omega))
      clear hL h60
      go_wp2_with fail
      refine H.out.mono ?_
      rintro e w5 ⟨rfl, hA, hM⟩
      have HA := Aside0.mk hA
      have HM5 := Aside0.mk (HM.out.trans hM (fun _ _ h => h))
      clear hA hM
      go_wp2
      go_roundg f
      case measure => omega
      case rel =>
        refine ⟨m - 60, rsh 60 T, ?_, by omega, by omega, by omega, HA, ⟨HG2.out.1⟩, HL2, ⟨?_, ?_⟩, HM5⟩
        · refine congrArg (fun z => Value.int .i64 z) ?_
          show _ = -((m - 60 : Nat) : Int)
          omega
        · have h1 := HG2.out.2.1
          have h2 := HD.out.1
          omega
        · have h1 := HG2.out.2.2.1
          have h2 := HD.out.2
          omega

set_option maxHeartbeats 4000000 in
set_option maxRecDepth 100000 in
theorem sru_neg (S : Dec) (n : Int) (h : n < 0 ∨ (S.nd : Int) ≤ n) (w : World) (p : Nat) (neg : Bool) (hS : DecAt w p neg S) :
    Calls Tryz.prog 150 #[.pointer (some ⟨p, 0, none⟩), .int .i64 n] w fun e w' => e = .returned (.bool false) ∧ w' = w := by
  have hcn : w.cell? ⟨p, 800, none⟩ = some (.int .i64 S.nd) := hS.nds
  clear hS
  by_cases h1 : n < 0
  · clear h
    go_enter Tryz.func150, Tryz.ntmps150
    go_wp2
    go_ret
    exact ⟨rfl, rfl⟩
  · have h1' : decide (n < 0) = false := decide_eq_false h1
    have h2 : (S.nd : Int) ≤ n := by omega
    clear h h1
    go_enter Tryz.func150, Tryz.ntmps150
    go_wp2
    go_ret
    exact ⟨rfl, rfl⟩

set_option maxHeartbeats 4000000 in
set_option maxRecDepth 100000 in
theorem sru_zero (S : Dec) (hD : DigOK S) (h1 : 1 ≤ S.nd) : ∃ b : Bool, ∀ (w : World) (p : Nat) (neg : Bool) (hS : DecAt w p neg S),
    Calls Tryz.prog 150 #[.pointer (some ⟨p, 0, none⟩), .int .i64 0] w fun e w' => e = .returned (.bool b) ∧ w' = w := by
  have h2 : decide (S.nd = 0) = false := decide_eq_false (by omega)
  obtain ⟨c1, hc1⟩ : ∃ c, (S.d 0 == 53) = c := ⟨_, rfl⟩
  obtain ⟨c2, hc2⟩ : ∃ c, ((1 : Int) == (S.nd : Int)) = c := ⟨_, rfl⟩
  obtain ⟨c3, hc3⟩ : ∃ c, S.tr = c := ⟨_, rfl⟩
  have HC3 := Aside0.mk hc3
  have HD := Aside0.mk hD
  have H1 := Aside0.mk h1
  clear hc3 hD h1
  cases c1 <;> cases c2 <;> cases c3
  all_goals
    apply Exists.intro
    intro w p neg hS
    have hcn : w.cell? ⟨p, 800, none⟩ = some (.int .i64 S.nd) := hS.nds
    have hct : w.cell? ⟨p, 803, none⟩ = some (.bool S.tr) := hS.trs
    rw [HC3.out] at hct
    have hcm : w.cell? ⟨p, 0, none⟩ = some (.int .u8 (S.d 0)) := hS.dig 0 (by omega)
    clear hS
    go_enter Tryz.func150, Tryz.ntmps150
    go_wp2
    go_ret
    exact ⟨rfl, rfl⟩

set_option maxHeartbeats 4000000 in
set_option maxRecDepth 100000 in
theorem sru_succ (S : Dec) (hD : DigOK S) (i : Nat) (h1 : i + 1 < S.nd) : ∃ b : Bool, ∀ (w : World) (p : Nat) (neg : Bool) (hS : DecAt w p neg S),
    Calls Tryz.prog 150 #[.pointer (some ⟨p, 0, none⟩), .int .i64 ((i : Int) + 1)] w fun e w' => e = .returned (.bool b) ∧ w' = w := by
  have hn8 := hD.1
  have h2 : decide ((S.nd : Int) ≤ (i : Int) + 1) = false := decide_eq_false (by omega)
  have h3 : decide ((i : Int) + 1 < 0) = false := decide_eq_false (by omega)
  have h4 : (0 : Int) < (i : Int) + 1 := by omega
  have h40 : (0 : Int) ≤ (i : Int) + 1 := by omega
  have h5 : (i : Int) + 1 < 800 := by omega
  have h6 : (i : Int) < 800 := by omega
  have h7 : (0 : Int) ≤ (i : Int) := by omega
  have ht : ((i : Int) + 1).toNat = i + 1 := by omega
  obtain ⟨hd1, hd2⟩ := hD.2 i (by omega)
  obtain ⟨c1, hc1⟩ : ∃ c, (S.d (i + 1) == 53) = c := ⟨_, rfl⟩
  obtain ⟨c2, hc2⟩ : ∃ c, ((i : Int) + 1 + 1 == (S.nd : Int)) = c := ⟨_, rfl⟩
  obtain ⟨c3, hc3⟩ : ∃ c, S.tr = c := ⟨_, rfl⟩
  have HC3 := Aside0.mk hc3
  have HD := Aside0.mk hD
  have H1 := Aside0.mk h1
  clear hc3 hD h1
  cases c1 <;> cases c2 <;> cases c3
  all_goals
    apply Exists.intro
    intro w p neg hS
    have hcn : w.cell? ⟨p, 800, none⟩ = some (.int .i64 S.nd) := hS.nds
    have hct : w.cell? ⟨p, 803, none⟩ = some (.bool S.tr) := hS.trs
    rw [HC3.out] at hct
    have hcm : w.cell? ⟨p, i + 1, none⟩ = some (.int .u8 (S.d (i + 1))) := hS.dig (i + 1) (by have := H1.out; have := HD.out.1; omega)
    have hci : w.cell? ⟨p, i, none⟩ = some (.int .u8 (S.d i)) := hS.dig i (by have := H1.out; have := HD.out.1; omega)
    clear hS
    go_enter Tryz.func150, Tryz.ntmps150
    go_wp2
    go_ret
    exact ⟨rfl, rfl⟩
end

section
open Go.RowKit Go.Proofs.YtohadobpiclllaaGreatDoorW.PrintWords Go.Proofs.YtohadobpiclllaaGreatDoorW.PrintMore Go.Proofs.YtohadobpiclllaaGreatDoorW.PrintLast Go.Proofs.YtohadobpiclllaaGreatDoor.PFnRespScan
attribute [local go_sem] max2_int min2_int max_two min_two max_three min_three max_four min_four
set_option linter.unusedVariables false
set_option linter.unusedSimpArgs false

theorem sru_any (S : Dec) (hD : DigOK S) (n : Int) : ∃ b : Bool, ∀ (w : World) (p : Nat) (neg : Bool) (hS : DecAt w p neg S),
    Calls Tryz.prog 150 #[.pointer (some ⟨p, 0, none⟩), .int .i64 n] w fun e w' => e = .returned (.bool b) ∧ w' = w := by
  by_cases h : n < 0 ∨ (S.nd : Int) ≤ n
  · exact ⟨false, fun w p neg hS => sru_neg S n h w p neg hS⟩
  · obtain ⟨m, rfl⟩ : ∃ m : Nat, n = (m : Int) := ⟨n.toNat, by omega⟩
    cases m with
    | zero => exact sru_zero S hD (by omega)
    | succ i =>
      have := sru_succ S hD i (by omega)
      rwa [show ((i : Int) + 1) = ((i + 1 : Nat) : Int) by omega] at this

/-- The whole number that the first digits are, as a uint64 has it. -/
def ri (S : Dec) : Nat → Nat
  | 0 => 0
  | i + 1 => (ri S i * 10 + (if i < S.nd then (S.d i - 48).toNat else 0)) % 18446744073709551616
theorem ri_lt (S : Dec) : ∀ i, ri S i < 18446744073709551616
  | 0 => by rw [ri]; decide
  | i + 1 => by rw [ri]; exact Nat.mod_lt _ (by decide)

set_option maxHeartbeats 4000000 in
set_option maxRecDepth 100000 in
theorem rint_any (S : Dec) (hD : DigOK S) : ∃ m : Nat, m < 18446744073709551616 ∧ ∀ (w : World) (p : Nat) (neg : Bool) (hS : DecAt w p neg S),
    Calls Tryz.prog 141 #[.pointer (some ⟨p, 0, none⟩)] w fun e w' => e = .returned (.int .u64 m) ∧ w' = w := by
  by_cases h20 : (20 : Int) < S.dp
  · refine ⟨18446744073709551615, by omega, fun w p neg hS => ?_⟩
    have hcp : w.cell? ⟨p, 801, none⟩ = some (.int .i64 S.dp) := hS.dps
    clear hS
    go_enter Tryz.func141, Tryz.ntmps141
    go_wp2
    go_ret
    exact ⟨rfl, rfl⟩
  have h20' : decide ((20 : Int) < S.dp) = false := decide_eq_false h20
  obtain ⟨b, hb⟩ := sru_any S hD S.dp
  have HB := Aside0.mk hb
  have HD := Aside0.mk hD
  obtain ⟨N, hN⟩ : ∃ N, N = S.dp.toNat := ⟨_, rfl⟩
  have hN20 : N ≤ 20 := by omega
  have HN := Aside0.mk hN
  have H20 := Aside0.mk h20
  have hn8 := hD.1
  refine ⟨if b then (ri S N + 1) % 18446744073709551616 else ri S N, by split; exact Nat.mod_lt _ (by decide); exact ri_lt S N, fun w p neg hS => ?_⟩
  have hcp : w.cell? ⟨p, 801, none⟩ = some (.int .i64 S.dp) := hS.dps
  have hcn : w.cell? ⟨p, 800, none⟩ = some (.int .i64 S.nd) := hS.nds
  have HS := Aside0.mk hS
  clear hb hD hN h20 hS
  go_enter Tryz.func141, Tryz.ntmps141
  go_upto_block 0 with fail
  go_cut [3, 4] from 10 to 36 (fun v3 v4 wx => ∃ i : Nat, v3 = .int .i64 i ∧ v4 = .int .u64 (ri S i : Nat) ∧ i ≤ N ∧ (N ≤ i ∨ S.nd ≤ i) ∧ wx = w)
  case first =>
    go_wp2_with fail
    go_loop [3, 4] (fun v3 v4 => ∃ i : Nat, v3 = .int .i64 i ∧ v4 = .int .u64 (ri S i : Nat) ∧ i ≤ N) (fun v3 _ => N - (intOf v3).toNat)
    case atStart => exact ⟨0, rfl, rfl, by omega⟩
    case round =>
      obtain ⟨i, rfl, rfl, hi⟩ := hrel
      by_cases hiN : i < N
      · have hip : (i : Int) < S.dp := by have := HN.out; omega
        by_cases hin : i < S.nd
        · obtain ⟨g, hg9, hg⟩ : ∃ g : Nat, g ≤ 9 ∧ S.d i = 48 + (g : Int) := by
            have h2 := HD.out.2 i hin
            exact ⟨(S.d i - 48).toNat, by omega, by omega⟩
          have hcd : w.cell? ⟨p, i, none⟩ = some (.int .u8 (48 + (g : Int))) := by rw [← hg]; exact HS.out.dig i (by omega)
          have hi0 : (0 : Int) ≤ (i : Int) := by omega
          have hi8 : (i : Int) < 800 := by omega
          have HG := Aside0.mk hg
          have HRI := Aside0.mk (ri_lt S i)
          clear hg
          go_wp2
          go_round
          case measure => first | (simp [intOf]; done) | (simp [intOf]; omega)
          case rel =>
            refine ⟨i + 1, by go_num, ?_, by omega⟩
            refine congrArg (fun z => Value.int .u64 z) ?_
            have e1 : (S.d i - 48).toNat = g := by have := HG.out; omega
            have e2 : ri S (i + 1) = (ri S i * 10 + g) % 18446744073709551616 := by rw [ri, if_pos hin, e1]
            have h2 := HRI.out
            show _ = ((ri S (i + 1) : Nat) : Int)
            rw [e2]
            simp only [wrap_u64]
            omega
        · have hin' : decide (i < S.nd) = false := decide_eq_false hin
          go_wp2
          go_meet
          exact ⟨i, rfl, rfl, hi, .inr (by omega), rfl⟩
      · have hip : decide ((i : Int) < S.dp) = false := decide_eq_false (by have := HN.out; omega)
        go_wp2
        go_meet
        exact ⟨i, rfl, rfl, hi, .inl (by omega), rfl⟩
  case rest =>
    obtain ⟨i0, rfl, rfl, hi0, hor, rfl⟩ := hcut
    go_wp2_with fail
    go_loop [3, 4] (fun v3 v4 => ∃ i : Nat, v3 = .int .i64 i ∧ v4 = .int .u64 (ri S i : Nat) ∧ i ≤ N ∧ (N ≤ i ∨ S.nd ≤ i)) (fun v3 _ => N - (intOf v3).toNat)
    case atStart => exact ⟨i0, rfl, rfl, hi0, hor⟩
    case round =>
      obtain ⟨i, rfl, rfl, hi, hor2⟩ := hrel
      by_cases hiN : i < N
      · have hip : (i : Int) < S.dp := by have := HN.out; omega
        have HRI := Aside0.mk (ri_lt S i)
        have hnd : ¬ i < S.nd := by omega
        clear hor hor2
        go_wp2
        go_round
        case measure => first | (simp [intOf]; done) | (simp [intOf]; omega)
        case rel =>
          refine ⟨i + 1, by go_num, ?_, by omega, .inr (by omega)⟩
          refine congrArg (fun z => Value.int .u64 z) ?_
          have e2 : ri S (i + 1) = (ri S i * 10) % 18446744073709551616 := by rw [ri, if_neg hnd, Nat.add_zero]
          have h2 := HRI.out
          show _ = ((ri S (i + 1) : Nat) : Int)
          rw [e2]
          simp only [wrap_u64]
          omega
      · have hip : decide ((i : Int) < S.dp) = false := decide_eq_false (by have := HN.out; omega)
        have hiN2 : i = N := by omega
        have HIN := Aside0.mk hiN2
        have HRI := Aside0.mk (ri_lt S i)
        clear hiN2 hor hor2
        go_wp2_with fail
        refine (HB.out _ p neg HS.out).mono ?_
        rintro e w5 ⟨rfl, rfl⟩
        cases b
        · go_wp2
          go_ret
          exact ⟨by rw [← HIN.out]; rfl, rfl⟩
        · go_wp2
          go_ret
          refine ⟨?_, rfl⟩
          refine congrArg (fun z => Ending.returned (Value.int .u64 z)) ?_
          have h2 := HRI.out
          rw [← HIN.out]
          show _ = (((ri S i + 1) % 18446744073709551616 : Nat) : Int)
          simp only [wrap_u64]
          omega
end

section
open Go

/-- As Q; by a goto to label 0: J; by one to label 1: K; by any other: no way out. -/
def jump2 (J K : Act → World → Prop) (Q : Exit → Act → World → Prop) : Exit → Act → World → Prop
  | .goto 0, a, w => J a w
  | .goto 1, a, w => K a w
  | .goto _, _, _ => False
  | e, a, w => Q e a w

section
variable {P : Program} {a : Act} {w : World} {Q : Exit → Act → World → Prop} {J K : Act → World → Prop}
@[go_sem] theorem jump2_normal : jump2 J K Q .normal a w = Q .normal a w := rfl
@[go_sem] theorem jump2_exit (id : Nat) : jump2 J K Q (.exit id) a w = Q (.exit id) a w := rfl
@[go_sem] theorem jump2_ret : jump2 J K Q .ret a w = Q .ret a w := rfl
@[go_sem] theorem jump2_panic (ch : List PanicEntry) : jump2 J K Q (.panic ch) a w = Q (.panic ch) a w := rfl
theorem jump2_out : jump2 J K Q (.goto 0) a w = J a w := rfl
theorem jump2_over : jump2 J K Q (.goto 1) a w = K a w := rfl

/-- What is asked at a jump to label 0: the code behind it, from there. -/
def Behind0 (P : Program) (r0 : Code) (Q : Exit → Act → World → Prop) (a : Act) (w : World) : Prop := r0.wp P (Exit.noGoto Q) a w
/-- What is asked at a jump to label 1. -/
def Behind1 (P : Program) (r0 r1 : Code) (Q : Exit → Act → World → Prop) (a : Act) (w : World) : Prop := r1.wp P (jump2 (Behind0 P r0 Q) (fun _ _ => False) Q) a w

theorem wp_scope_two {c r0 r1 : Code} (h0 : findLabel c 0 = some r0) (h1 : findLabel c 1 = some r1)
    (first : c.wp P (jump2 (Behind0 P r0 Q) (Behind1 P r0 r1 Q) Q) a w) : (Code.scope c).wp P Q a w := by
  intro b k cs
  have g0 : gotoIn 0 (.inScope c :: k) = some (.code r0 :: .inScope c :: k) := by simp [gotoIn, h0]
  have g1 : gotoIn 1 (.inScope c :: k) = some (.code r1 :: .inScope c :: k) := by simp [gotoIn, h1]
  have key0 : ∀ a w, Behind0 P r0 Q a w → ∃ e a' w', Q e a' w' ∧ Arrives P (lone (b.at a (.code r0 :: .inScope c :: k)) cs w) b k cs e a' w' := by
    intro a w hJ
    obtain ⟨e, a₁, w₁, hq, harr⟩ := hJ b (.inScope c :: k) cs
    cases e with
    | normal => exact ⟨.normal, a₁, w₁, hq, Steps.trans harr (.one step_inScope)⟩
    | exit id => exact ⟨.exit id, a₁, w₁, hq, fun k' hk => harr k' (by simp [exitTo, hk])⟩
    | goto l' => exact hq.elim
    | ret => exact ⟨_, a₁, w₁, hq, harr⟩
    | panic ch => exact ⟨_, a₁, w₁, hq, harr⟩
    | outgrown => exact ⟨_, a₁, w₁, hq, harr⟩
  have key1 : ∀ a w, Behind1 P r0 r1 Q a w → ∃ e a' w', Q e a' w' ∧ Arrives P (lone (b.at a (.code r1 :: .inScope c :: k)) cs w) b k cs e a' w' := by
    intro a w hJ
    obtain ⟨e, a₁, w₁, hq, harr⟩ := hJ b (.inScope c :: k) cs
    cases e with
    | normal => exact ⟨.normal, a₁, w₁, hq, Steps.trans harr (.one step_inScope)⟩
    | exit id => exact ⟨.exit id, a₁, w₁, hq, fun k' hk => harr k' (by simp [exitTo, hk])⟩
    | goto l' =>
      match l', hq, harr with
      | 0, hq, harr =>
        obtain ⟨e₂, a₂, w₂, hq₂, harr₂⟩ := key0 a₁ w₁ hq
        exact ⟨e₂, a₂, w₂, hq₂, .of_steps (harr _ g0) harr₂⟩
      | 1, hq, harr => exact hq.elim
      | n + 2, hq, harr => exact hq.elim
    | ret => exact ⟨_, a₁, w₁, hq, harr⟩
    | panic ch => exact ⟨_, a₁, w₁, hq, harr⟩
    | outgrown => exact ⟨_, a₁, w₁, hq, harr⟩
  obtain ⟨e, a₁, w₁, hq, harr⟩ := first b (.inScope c :: k) cs
  cases e with
  | normal => exact ⟨.normal, a₁, w₁, hq, .head step_scope (Steps.trans harr (.one step_inScope))⟩
  | exit id => exact ⟨.exit id, a₁, w₁, hq, fun k' hk => .head step_scope (harr k' (by simp [exitTo, hk]))⟩
  | goto l' =>
    match l', hq, harr with
    | 0, hq, harr =>
      obtain ⟨e₂, a₂, w₂, hq₂, harr₂⟩ := key0 a₁ w₁ hq
      exact ⟨e₂, a₂, w₂, hq₂, .of_steps (.head step_scope (harr _ g0)) harr₂⟩
    | 1, hq, harr =>
      obtain ⟨e₂, a₂, w₂, hq₂, harr₂⟩ := key1 a₁ w₁ hq
      exact ⟨e₂, a₂, w₂, hq₂, .of_steps (.head step_scope (harr _ g1)) harr₂⟩
    | n + 2, hq, harr => exact hq.elim
  | ret => exact ⟨_, a₁, w₁, hq, .of_steps (.one step_scope) harr⟩
  | panic ch => exact ⟨_, a₁, w₁, hq, .of_steps (.one step_scope) harr⟩
  | outgrown => exact ⟨_, a₁, w₁, hq, .of_steps (.one step_scope) harr⟩
end
end

section
open Go.RowKit

/-- The table of powers: tens to twos. -/
def powv (k : Nat) : Nat := [1, 3, 6, 9, 13, 16, 19, 23, 26].getD k 27
theorem powv_big {k : Nat} (h : 9 ≤ k) : powv k = 27 := by
  unfold powv
  rw [List.getD_eq_getElem?_getD, List.getElem?_eq_none (by simpa using h)]; rfl
theorem powv_bound (k : Nat) : 1 ≤ powv k ∧ powv k ≤ 27 := by
  by_cases h : 9 ≤ k
  · rw [powv_big h]; omega
  · have h9 : k < 9 := by omega
    have : (List.range 9).all (fun k => decide (1 ≤ powv k) && decide (powv k ≤ 27)) = true := by decide
    have h2 := List.all_eq_true.mp this k (List.mem_range.mpr h9)
    simpa using h2
theorem powv_big4 {k : Nat} (h : 2 ≤ k) : 4 ≤ powv k := by
  by_cases h9 : 9 ≤ k
  · rw [powv_big h9]; omega
  · have : (List.range 9).all (fun k => decide (2 ≤ k → 4 ≤ powv k)) = true := by decide
    have h2 := List.all_eq_true.mp this k (List.mem_range.mpr (by omega))
    exact (of_decide_eq_true h2) h
theorem powv_one : powv 1 = 3 := rfl

/-- The first loop: shifts to the right until no digit stands before the point. -/
noncomputable def fl1 : Nat → Dec → Nat → Dec × Nat
  | 0, S, e => (S, e)
  | f + 1, S, e => if 0 < S.dp then fl1 f (rsh (powv S.dp.toNat) S) (e + powv S.dp.toNat) else (S, e)
/-- How far the first loop has to go. -/
def m1 (S : Dec) : Nat := (16 * S.dp).toNat + (S.d 0 - 48).toNat
theorem fl1_end (f : Nat) (S : Dec) (e : Nat) (h : S.dp ≤ 0) : fl1 f S e = (S, e) := by
  cases f with
  | zero => rfl
  | succ f => rw [fl1, if_neg (by omega)]
theorem fl1_next {f : Nat} {S : Dec} {e : Nat} (h : 0 < S.dp) : fl1 (f + 1) S e = fl1 f (rsh (powv S.dp.toNat) S) (e + powv S.dp.toNat) := by rw [fl1, if_pos h]
theorem m1_next {S : Dec} (hG : Good S) (h : 0 < S.dp) : Good (rsh (powv S.dp.toNat) S) ∧ S.dp - 19 ≤ (rsh (powv S.dp.toNat) S).dp ∧ (rsh (powv S.dp.toNat) S).dp ≤ S.dp ∧ m1 (rsh (powv S.dp.toNat) S) < m1 S := by
  obtain ⟨k, hk⟩ : ∃ k : Nat, S.dp.toNat = k := ⟨_, rfl⟩
  rw [hk]
  have hb := powv_bound k
  obtain ⟨h1, h2, h3, h4, h5⟩ := rsh_good hG (k := powv k) hb.1 (by omega)
  refine ⟨h1, h2, h3, ?_⟩
  have hd0 := hG.1.2 0 (by have := hG.2.1; omega)
  have hd1 := h1.1.2 0 (by have := h1.2.1; omega)
  have hg := hG.2.2
  unfold m1
  by_cases h2k : 2 ≤ k
  · have := h4 (powv_big4 h2k)
    omega
  · have hk1 : k = 1 := by omega
    subst hk1
    rcases h5 powv_one with h6 | ⟨h6, h7, h8⟩
    · omega
    · omega
theorem fl1_spec : ∀ (f : Nat) (S : Dec) (e : Nat), Good S → m1 S ≤ f → Good (fl1 f S e).1 ∧ (fl1 f S e).1.dp ≤ 0 ∧ (-330 ≤ S.dp → -330 ≤ (fl1 f S e).1.dp) ∧ (fl1 f S e).2 ≤ e + 27 * f
  | 0, S, e, hG, h => ⟨hG, by unfold m1 at h; have := hG.2.2; show S.dp ≤ 0; omega, fun h => h, by show e ≤ _; omega⟩
  | f + 1, S, e, hG, h => by
    by_cases hp : 0 < S.dp
    · rw [fl1_next hp]
      obtain ⟨h1, h2, h3, h4⟩ := m1_next hG hp
      have hb := powv_bound S.dp.toNat
      obtain ⟨i1, i2, i3, i4⟩ := fl1_spec f _ (e + powv S.dp.toNat) h1 (by omega)
      exact ⟨i1, i2, fun _ => i3 (by omega), by omega⟩
    · rw [fl1_end _ _ _ (by omega)]
      exact ⟨hG, by show S.dp ≤ 0; omega, fun h => h, by show e ≤ _; omega⟩

/-- The second loop goes on. -/
def more2 (S : Dec) : Prop := S.dp < 0 ∨ (S.dp = 0 ∧ S.d 0 < 53)
instance (S : Dec) : Decidable (more2 S) := by unfold more2; infer_instance
/-- The second loop: shifts to the left until the first digit stands behind the point and is five at least. -/
def fl2 : Nat → Dec → Nat → Dec × Nat
  | 0, S, e => (S, e)
  | f + 1, S, e => if more2 S then fl2 f (lshift (powv (-S.dp).toNat) S) (e + powv (-S.dp).toNat) else (S, e)
def m2 (S : Dec) : Nat := (16 * (1 - S.dp)).toNat + (57 - S.d 0).toNat
theorem fl2_end (f : Nat) (S : Dec) (e : Nat) (h : ¬ more2 S) : fl2 f S e = (S, e) := by
  cases f with
  | zero => rfl
  | succ f => rw [fl2, if_neg h]
theorem fl2_next {f : Nat} {S : Dec} {e : Nat} (h : more2 S) : fl2 (f + 1) S e = fl2 f (lshift (powv (-S.dp).toNat) S) (e + powv (-S.dp).toNat) := by rw [fl2, if_pos h]
theorem m2_next {S : Dec} (hG : Good S) (h : more2 S) : Good (lshift (powv (-S.dp).toNat) S) ∧ S.dp ≤ (lshift (powv (-S.dp).toNat) S).dp ∧ (lshift (powv (-S.dp).toNat) S).dp ≤ S.dp + 30 ∧ m2 (lshift (powv (-S.dp).toNat) S) < m2 S := by
  obtain ⟨k, hk⟩ : ∃ k : Nat, powv (-S.dp).toNat = k := ⟨_, rfl⟩
  have hb := powv_bound (-S.dp).toNat
  rw [hk] at hb ⊢
  obtain ⟨_, h1, h2, h3, h4⟩ := lshift_spec hG (k := k) hb.1 (by omega)
  have hrow := row_ok k hb.1 (by omega)
  simp only [rowOK, Bool.and_eq_true, decide_eq_true_eq, List.all_eq_true, List.mem_range] at hrow
  obtain ⟨⟨⟨⟨⟨⟨⟨⟨⟨r1, r2⟩, r3⟩, r4⟩, r5⟩, r6⟩, r7⟩, r8⟩, r9⟩, r10⟩ := hrow
  refine ⟨h1, by omega, by omega, ?_⟩
  have hd0 := hG.1.2 0 (by have := hG.2.1; omega)
  have hd1 := h1.1.2 0 (by have := h1.2.1; omega)
  have hg := hG.2.2
  have hdp : S.dp ≤ 0 := by rcases h with h | h <;> omega
  unfold m2
  by_cases hz : dlt k S = 0
  · have h5 := h4 hz
    have h6 : 2 ≤ 2 ^ k := by
      have := Nat.pow_le_pow_right (n := 2) (by omega) hb.1
      omega
    have h7 : (S.d 0 - 48) * 2 ≤ (S.d 0 - 48) * (2 ^ k : Nat) := Int.mul_le_mul_of_nonneg_left (by omega) (by omega)
    omega
  · omega
theorem fl2_spec : ∀ (f : Nat) (S : Dec) (e : Nat), Good S → m2 S ≤ f → S.dp ≤ 30 → Good (fl2 f S e).1 ∧ S.dp ≤ (fl2 f S e).1.dp ∧ (fl2 f S e).1.dp ≤ 30 ∧ (fl2 f S e).2 ≤ e + 27 * f
  | 0, S, e, hG, h, h3 => ⟨hG, Int.le_refl _, h3, by show e ≤ _; omega⟩
  | f + 1, S, e, hG, h, h3 => by
    by_cases hp : more2 S
    · rw [fl2_next hp]
      obtain ⟨h1, h2, h3', h4⟩ := m2_next hG hp
      have hdp : S.dp ≤ 0 := by rcases hp with h | h <;> omega
      have hb := powv_bound (-S.dp).toNat
      obtain ⟨i1, i2, i3, i4⟩ := fl2_spec f _ (e + powv (-S.dp).toNat) h1 (by omega) (by omega)
      exact ⟨i1, by omega, i3, by omega⟩
    · rw [fl2_end _ _ _ hp]
      exact ⟨hG, Int.le_refl _, h3, by show e ≤ _; omega⟩
theorem m2_pos {S : Dec} (h : more2 S) : 1 ≤ m2 S := by
  unfold m2
  have hdp : S.dp ≤ 0 := by rcases h with h | h <;> omega
  omega
theorem m1_pos {S : Dec} (h : 0 < S.dp) : 1 ≤ m1 S := by
  unfold m1; omega

/-- An existential whose witness goes by tests. -/
theorem ex_if {α : Type} {P : α → Prop} {c : Prop} [Decidable c] {A B : α} (h : P (if c then A else B)) : ∃ x, P x := ⟨_, h⟩
end
end Go.Proofs.YtohadobpiclllaaGreatDoor
