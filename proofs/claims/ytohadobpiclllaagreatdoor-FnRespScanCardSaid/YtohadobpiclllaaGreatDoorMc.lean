/- The long decimals of ParseFloat: the shift to the right. -/
import Derived.Test.YtohadobpiclllaaGreatDoorMb
namespace Go.Proofs.YtohadobpiclllaaGreatDoor
section
open Go.RowKit Go.Proofs.YtohadobpiclllaaGreatDoorW.PrintWords Go.Proofs.YtohadobpiclllaaGreatDoorW.PrintMore Go.Proofs.YtohadobpiclllaaGreatDoorW.PrintLast Go.Proofs.YtohadobpiclllaaGreatDoor.PFnRespScan
attribute [local go_sem] max2_int min2_int max_two min_two max_three min_three max_four min_four
set_option linter.unusedVariables false
set_option linter.unusedSimpArgs false

/-- The number that the first r digits are; noughts behind the last one. -/
def nv (S : Dec) : Nat → Nat
  | 0 => 0
  | r + 1 => nv S r * 10 + (if r < S.nd then (S.d r - 48).toNat else 0)

/-- The shift to the right: a digit taken, a digit laid. -/
def rs2 (k : Nat) : Nat → Nat → (Nat → Int) → Nat → Nat → (Nat → Int) × Nat × Nat
  | 0, _, d, w, n => (d, w, n)
  | c + 1, r, d, w, n => rs2 k c (r + 1) (upd d w (((n / 2 ^ k : Nat) : Int) + 48)) (w + 1) (n % 2 ^ k * 10 + (d r - 48).toNat)
/-- The shift to the right: the digits behind. -/
def rs3 (k : Nat) : Nat → (Nat → Int) → Nat → Nat → Bool → (Nat → Int) × Nat × Bool
  | 0, d, w, _, t => (d, w, t)
  | f + 1, d, w, n, t => if n = 0 then (d, w, t) else if w < 800 then rs3 k f (upd d w (((n / 2 ^ k : Nat) : Int) + 48)) (w + 1) (n % 2 ^ k * 10) t
    else rs3 k f d w (n % 2 ^ k * 10) (t || decide (n / 2 ^ k > 0))
/-- The shift to the right by k; R: how many digits are needed first. -/
def rshift (k R : Nat) (S : Dec) : Dec :=
  Dec.trim { d := (rs3 k (k + 1) (rs2 k (S.nd - R) R S.d 0 (nv S R)).1 (rs2 k (S.nd - R) R S.d 0 (nv S R)).2.1 (rs2 k (S.nd - R) R S.d 0 (nv S R)).2.2 S.tr).1,
             nd := (rs3 k (k + 1) (rs2 k (S.nd - R) R S.d 0 (nv S R)).1 (rs2 k (S.nd - R) R S.d 0 (nv S R)).2.1 (rs2 k (S.nd - R) R S.d 0 (nv S R)).2.2 S.tr).2.1,
             dp := S.dp - ((R : Int) - 1),
             tr := (rs3 k (k + 1) (rs2 k (S.nd - R) R S.d 0 (nv S R)).1 (rs2 k (S.nd - R) R S.d 0 (nv S R)).2.1 (rs2 k (S.nd - R) R S.d 0 (nv S R)).2.2 S.tr).2.2 }
/-- R is how many digits a shift by k needs first. -/
def Needs (k R : Nat) (S : Dec) : Prop := 2 ^ k ≤ nv S R ∧ ∀ j, j < R → nv S j < 2 ^ k

theorem nv_pos {S : Dec} (h : 1 ≤ nv S 1) : ∀ r, 1 ≤ r → 1 ≤ nv S r := by
  intro r hr
  induction r with
  | zero => omega
  | succ r ih =>
    rcases Nat.eq_zero_or_pos r with h0 | h0
    · subst h0; exact h
    · have := ih h0
      rw [nv]; omega
theorem nv_lt {k R : Nat} {S : Dec} (hD : DigOK S) (hR : Needs k R S) (hR1 : 1 ≤ R) : nv S R < 10 * 2 ^ k := by
  obtain ⟨r, rfl⟩ : ∃ r, R = r + 1 := ⟨R - 1, by omega⟩
  have h1 := hR.2 r (by omega)
  rw [nv]
  split
  · rename_i h
    have := hD.2 r h
    omega
  · omega
theorem needs_pos {k R : Nat} {S : Dec} (hR : Needs k R S) : 1 ≤ R := by
  rcases Nat.eq_zero_or_pos R with h | h
  · subst h
    have h1 := hR.1
    rw [nv] at h1
    have := Nat.two_pow_pos k
    omega
  · exact h

theorem shr_zero {n k : Nat} (h : n < 2 ^ k) : (n : Int) / 2 ^ k = 0 := by
  have : n / 2 ^ k = 0 := Nat.div_eq_of_lt h
  have e : ((n / 2 ^ k : Nat) : Int) = (n : Int) / 2 ^ k := by push_cast; rfl
  rw [← e, this]; rfl

theorem and_mask (n k : Nat) (hn : n < 18446744073709551616) (hk : k ≤ 63) : bits .and .u64 (n : Int) ((2 ^ k - 1 : Nat) : Int) = ((n % 2 ^ k : Nat) : Int) := by
  have hm : 2 ^ k - 1 < 18446744073709551616 := by
    have h1 : 2 ^ k ≤ 2 ^ 63 := Nat.pow_le_pow_right (by omega) hk
    have h3 : (2 : Nat) ^ 63 = 9223372036854775808 := by decide
    omega
  rw [bits_and_u64_nat n (2 ^ k - 1) hn hm, Nat.and_two_pow_sub_one_eq_mod]

theorem shr_nz {n k : Nat} (h : 2 ^ k ≤ n) : (n : Int) / 2 ^ k ≠ 0 := by
  have h1 : 1 ≤ n / 2 ^ k := (Nat.one_le_div_iff (Nat.two_pow_pos k)).2 h
  have e : ((n / 2 ^ k : Nat) : Int) = (n : Int) / 2 ^ k := by push_cast; rfl
  rw [← e]; omega

theorem rs3_end (k f : Nat) (d : Nat → Int) (w : Nat) (t : Bool) : rs3 k f d w 0 t = (d, w, t) := by
  cases f with
  | zero => rfl
  | succ f => rw [rs3, if_pos rfl]
theorem rs3_pos {k f w n : Nat} {d : Nat → Int} {t : Bool} (hn : n ≠ 0) (hw : w < 800) : rs3 k (f + 1) d w n t = rs3 k f (upd d w (((n / 2 ^ k : Nat) : Int) + 48)) (w + 1) (n % 2 ^ k * 10) t := by
  rw [rs3, if_neg hn, if_pos hw]
theorem rs3_neg {k f w n : Nat} {d : Nat → Int} {t : Bool} (hn : n ≠ 0) (hw : ¬ w < 800) : rs3 k (f + 1) d w n t = rs3 k f d w (n % 2 ^ k * 10) (t || decide (n / 2 ^ k > 0)) := by
  rw [rs3, if_neg hn, if_neg hw]
theorem rs3_next {k f n : Nat} (hf : f + 1 ≤ k + 1) (h : 2 ^ (k + 1 - (f + 1)) ∣ n) : 2 ^ (k + 1 - f) ∣ n % 2 ^ k * 10 ∧ (f = 0 → n % 2 ^ k * 10 = 0) := by
  have h1 : 2 ^ (k - f) ∣ n % 2 ^ k := by
    rw [show k + 1 - (f + 1) = k - f by omega] at h
    exact (Nat.dvd_mod_iff (Nat.pow_dvd_pow 2 (by omega))).2 h
  refine ⟨?_, fun h0 => ?_⟩
  · rw [show k + 1 - f = (k - f) + 1 by omega, Nat.pow_succ]
    exact Nat.mul_dvd_mul h1 (by decide)
  · subst h0
    rw [Nat.sub_zero] at h1
    have h2 := Nat.mod_lt n (Nat.two_pow_pos k)
    rw [Nat.eq_zero_of_dvd_of_lt h1 h2]

set_option maxHeartbeats 8000000 in
set_option maxRecDepth 100000 in
theorem rightShift_calls (w : World) (p : Nat) (neg : Bool) (S : Dec) (k R : Nat) (hS : DecAt w p neg S) (hD : DigOK S) (hk1 : 1 ≤ k) (hk : k ≤ 60) (hR : Needs k R S) (hh : 1 ≤ nv S 1) (hR9 : R ≤ 1000) (hdp0 : -100000 ≤ S.dp) (hdp1 : S.dp ≤ 100000) :
    Calls Tryz.prog 149 #[.pointer (some ⟨p, 0, none⟩), .int .u64 k] w (DecPost w p neg (rshift k R S)) := by
  obtain ⟨hn8, hdg⟩ := hD
  have hR1 := needs_pos hR
  have hR64 := nv_lt ⟨hn8, hdg⟩ hR hR1
  have hK : 2 ^ k ≤ 1152921504606846976 := by
    have h1 : 2 ^ k ≤ 2 ^ 60 := Nat.pow_le_pow_right (by omega) hk
    have h3 : (2 : Nat) ^ 60 = 1152921504606846976 := by decide
    omega
  obtain ⟨K, hKK⟩ : ∃ K, K = 2 ^ k := ⟨_, rfl⟩
  have HS := Aside0.mk hS
  have HDG := Aside0.mk hdg
  have HR := Aside0.mk hR
  have HR64 := Aside0.mk hR64
  have HH := Aside0.mk hh
  have HK := Aside0.mk hK
  clear hS hdg hR hR64 hh hK hKK
  go_enter Tryz.func149, Tryz.ntmps149
  go_upto_block 0 with fail
  go_cut [4, 6, 7] from 12 to 48 (fun v4 v6 _ wx => v4 = .int .i64 R ∧ v6 = .int .u64 (nv S R : Nat) ∧ Aside0 (DecAt wx p neg S) ∧ Aside0 (Mods (· = p) w wx))
  case rest =>
    obtain ⟨rfl, rfl, HA, HM⟩ := hcut
    have hcp : wc.cell? ⟨p, 801, none⟩ = some (.int .i64 S.dp) := HA.out.dps
    have hf1 := HA.out.free 801
    have HA1 := Aside0.mk (HA.out.setDp (S.dp - ((R : Int) - 1)))
    have HM1 := Aside0.mk (HM.out.setCell (p := ⟨p, 801, none⟩) (.inl rfl) (.int .i64 (S.dp - ((R : Int) - 1))))
    clear HA HM
    obtain ⟨M, hM⟩ : ∃ M, M = 2 ^ k - 1 := ⟨_, rfl⟩
    have eM : IntKind.u64.wrap (IntKind.u64.wrap (2 ^ k) - 1) = (M : Int) := by
      have e1 : (2 : Int) ^ k = ((2 ^ k : Nat) : Int) := by push_cast; rfl
      have h1 := Nat.two_pow_pos k
      have h2 := HK.out
      rw [e1, wrap_u64, wrap_u64, hM]
      omega
    have HMM := Aside0.mk hM
    clear hM
    go_upto_block 4 with fail
    clear eM
    obtain ⟨wo, hwo⟩ : ∃ wo : World, wo = wc.setCell ⟨p, 801, none⟩ (.int .i64 (S.dp - ((R : Int) - 1))) := ⟨_, rfl⟩
    rw [← hwo] at HA1 HM1 ⊢
    clear hwo hcp hf1
    go_wp2_with fail
    go_loopw [4, 5, 6] (fun v4 v5 v6 wr => ∃ (r w1 n : Nat) (d : Nat → Int), v4 = .int .i64 r ∧ v5 = .int .i64 w1 ∧ v6 = .int .u64 n ∧ w1 < r ∧ w1 ≤ 800 ∧ r ≤ 1000 ∧ R ≤ r ∧ Aside0 (n < 10 * 2 ^ k) ∧ Aside0 (∀ i, r ≤ i → i < S.nd → d i = S.d i) ∧ Aside0 (DecAt wr p neg { S with dp := S.dp - ((R : Int) - 1), d := d }) ∧ Aside0 (rs2 k (S.nd - r) r d w1 n = rs2 k (S.nd - R) R S.d 0 (nv S R)) ∧ Aside0 (Mods (· = p) w wr)) (fun v4 _ _ _ => S.nd - (intOf v4).toNat)
    case atStart => exact ⟨R, 0, nv S R, S.d, rfl, rfl, rfl, by omega, by omega, hR9, Nat.le_refl _, HR64, ⟨fun _ _ _ => rfl⟩, HA1, ⟨rfl⟩, HM1⟩
    case round =>
      clear HA1 HM1
      obtain ⟨r, w1, n, d, rfl, rfl, rfl, hw1, hw8, hr, hRr, HN, HDr, HA, HL, HM⟩ := hrel
      have hcn : wr.cell? ⟨p, 800, none⟩ = some (.int .i64 S.nd) := HA.out.nds
      by_cases hrn : r < S.nd
      · have hr0 : (0 : Int) ≤ (r : Int) := by omega
        have hr8 : (r : Int) < 800 := by omega
        have hw0 : (0 : Int) ≤ (w1 : Int) := by omega
        have hw8i : (w1 : Int) < 800 := by omega
        obtain ⟨g, hg9, hg⟩ : ∃ g : Nat, g ≤ 9 ∧ d r = 48 + (g : Int) := by
          have h1 := HDr.out r (Nat.le_refl _) hrn
          have h2 := HDG.out r (by omega)
          exact ⟨(S.d r - 48).toNat, by omega, by omega⟩
        have hcd : wr.cell? ⟨p, r, none⟩ = some (.int .u8 (48 + (g : Int))) := by rw [← hg]; exact HA.out.dig r (by omega)
        have hcw : wr.cell? ⟨p, w1, none⟩ = some (.int .u8 (d w1)) := HA.out.dig w1 (by omega)
        have hfw := HA.out.free w1
        obtain ⟨dg, hdg, hdg9, e1⟩ : ∃ dg : Nat, dg = n / 2 ^ k ∧ dg ≤ 9 ∧ (n : Int) / 2 ^ k = (dg : Int) := ⟨n / 2 ^ k, rfl, by have := Nat.div_lt_of_lt_mul (show n < 2 ^ k * 10 by have := HN.out; omega); omega, by push_cast; rfl⟩
        obtain ⟨rm, hrm, hrm60, e2⟩ : ∃ rm : Nat, rm = n % 2 ^ k ∧ rm < 1152921504606846976 ∧ bits .and .u64 (n : Int) (M : Int) = (rm : Int) := ⟨n % 2 ^ k, rfl, by have := Nat.mod_lt n (Nat.two_pow_pos k); have := HK.out; omega, by rw [HMM.out]; exact and_mask n k (by have := HN.out; have := HK.out; omega) (by omega)⟩
        have HG := Aside0.mk hg
        have HDD := Aside0.mk hdg
        have HRM := Aside0.mk hrm
        clear hg hdg hrm
        go_wp2
        go_roundw
        case measure => first | (simp [intOf]; done) | (simp [intOf]; omega)
        case rel =>
          refine ⟨r + 1, w1 + 1, rm * 10 + g, upd d w1 ((dg : Int) + 48), by go_num, by go_num, ?_, by omega, by omega, by omega, by omega, ⟨?_⟩, ⟨fun i h1 h2 => ?_⟩, ⟨HA.out.setDig w1 (by omega) _⟩, ⟨?_⟩, ⟨HM.out.setCell (p := ⟨p, w1, none⟩) (.inl rfl) _⟩⟩
          · refine congrArg (fun z => Value.int .u64 z) ?_
            show _ = ((rm * 10 + g : Nat) : Int)
            first | omega | (simp only [wrap_u64]; omega)
          · have h1 : rm < 2 ^ k := by rw [HRM.out]; exact Nat.mod_lt n (Nat.two_pow_pos k)
            omega
          · unfold upd
            rw [if_neg (by omega)]
            exact HDr.out i (by omega) h2
          · have eg : (d r - 48).toNat = g := by have := HG.out; omega
            rw [← HL.out, show S.nd - r = (S.nd - (r + 1)) + 1 by omega, rs2, eg, ← HDD.out, ← HRM.out]
      · have hrn' : decide (r < S.nd) = false := decide_eq_false hrn
        have hL := HL.out
        rw [show S.nd - r = 0 by omega, rs2] at hL
        have HL2 := Aside0.mk hL
        clear hL HL
        obtain ⟨wq, rfl⟩ : ∃ wq : World, wq = wr := ⟨_, rfl⟩
        go_wp2_with fail
        go_loopg [5, 6] (k + 1) (fun f v5 v6 wr => ∃ (w2 n2 : Nat) (d2 : Nat → Int) (t2 : Bool), v5 = .int .i64 w2 ∧ v6 = .int .u64 n2 ∧ w2 ≤ 800 ∧ f ≤ k + 1 ∧ Aside0 (n2 < 10 * 2 ^ k) ∧ Aside0 (2 ^ (k + 1 - f) ∣ n2) ∧ Aside0 (f = 0 → n2 = 0) ∧ Aside0 (DecAt wr p neg { S with dp := S.dp - ((R : Int) - 1), d := d2, tr := t2 }) ∧ Aside0 (rs3 k f d2 w2 n2 t2 = rs3 k (k + 1) d w1 n S.tr) ∧ Aside0 (Mods (· = p) w wr))
        case atStart => exact ⟨w1, n, d, S.tr, rfl, rfl, hw8, Nat.le_refl _, HN, ⟨by rw [Nat.sub_self]; exact Nat.one_dvd n⟩, ⟨fun h => by omega⟩, HA, ⟨rfl⟩, HM⟩
        case round =>
          obtain ⟨w2, n2, d2, t2, rfl, rfl, hw2, hf, HN2, HV2, HZ2, HA2, HL3, HM2⟩ := hrel
          by_cases hz : n2 = 0
          · subst hz
            have hL := HL3.out
            rw [rs3_end] at hL
            have HL4 := Aside0.mk hL
            have HA3 := Aside0.mk (HA2.out.setNd w2)
            have hcn2 : wr.cell? ⟨p, 800, none⟩ = some (.int .i64 S.nd) := HA2.out.nds
            have hf0 := HA2.out.free 800
            have HM3 := Aside0.mk (HM2.out.setCell (p := ⟨p, 800, none⟩) (.inl rfl) (.int .i64 (w2 : Int)))
            have HTR := Aside0.mk (trim_calls _ p neg _ HA3.out hw2)
            clear hL
            go_wp2_with fail
            refine HTR.out.mono ?_
            rintro e w5 ⟨rfl, hA5, hM5⟩
            have HA5 := Aside0.mk hA5
            have HM5 := Aside0.mk (HM3.out.trans hM5 (fun _ _ h => h))
            clear hA5 hM5
            go_wp2
            go_end0
            refine ⟨rfl, ?_, HM5.out⟩
            have e0 : rshift k R S = Dec.trim { d := d2, nd := w2, dp := S.dp - ((R : Int) - 1), tr := t2 } := by
              unfold rshift
              rw [← HL2.out, ← HL4.out]
            rw [e0]
            exact HA5.out
          · obtain ⟨f, rfl⟩ : ∃ f', gk = f' + 1 := by
              cases gk with
              | zero => exact absurd (HZ2.out rfl) hz
              | succ f => exact ⟨f, rfl⟩
            obtain ⟨dg, hdg, hdg9, e1⟩ : ∃ dg : Nat, dg = n2 / 2 ^ k ∧ dg ≤ 9 ∧ (n2 : Int) / 2 ^ k = (dg : Int) := ⟨n2 / 2 ^ k, rfl, by have := Nat.div_lt_of_lt_mul (show n2 < 2 ^ k * 10 by have := HN2.out; omega); omega, by push_cast; rfl⟩
            obtain ⟨rm, hrm, hrm60, e2⟩ : ∃ rm : Nat, rm = n2 % 2 ^ k ∧ rm < 1152921504606846976 ∧ bits .and .u64 (n2 : Int) (M : Int) = (rm : Int) := ⟨n2 % 2 ^ k, rfl, by have := Nat.mod_lt n2 (Nat.two_pow_pos k); have := HK.out; omega, by rw [HMM.out]; exact and_mask n2 k (by have := HN2.out; have := HK.out; omega) (by omega)⟩
            have hpos : 0 < n2 := by omega
            have HZN := Aside0.mk hz
            have HDD := Aside0.mk hdg
            have HRM := Aside0.mk hrm
            have HNX := Aside0.mk (rs3_next hf HV2.out)
            have HNB := Aside0.mk (show rm * 10 < 10 * 2 ^ k by have h1 : rm < 2 ^ k := by rw [hrm]; exact Nat.mod_lt n2 (Nat.two_pow_pos k)
                                                                omega)
            have hw0 : (0 : Int) ≤ (w2 : Int) := by omega
            have hfw := HA2.out.free w2
            have hft := HA2.out.free 803
            have hct : wr.cell? ⟨p, 803, none⟩ = some (.bool t2) := HA2.out.trs
            clear hdg hrm hz hcn
            by_cases hw8i : (w2 : Int) < 800
            · have hcw : wr.cell? ⟨p, w2, none⟩ = some (.int .u8 (d2 w2)) := HA2.out.dig w2 (by omega)
              go_wp2
              go_roundg f
              case measure => omega
              case rel =>
                refine ⟨w2 + 1, rm * 10, upd d2 w2 ((dg : Int) + 48), t2, by go_num, ?_, by omega, by omega, HNB, ⟨by rw [HRM.out]; exact HNX.out.1⟩, ⟨fun h => by rw [HRM.out]; exact HNX.out.2 h⟩, ⟨HA2.out.setDig w2 (by omega) _⟩, ⟨?_⟩, ⟨HM2.out.setCell (p := ⟨p, w2, none⟩) (.inl rfl) _⟩⟩
                · refine congrArg (fun z => Value.int .u64 z) ?_
                  show _ = ((rm * 10 : Nat) : Int)
                  first | omega | (simp only [wrap_u64]; omega)
                · rw [← HL3.out, rs3_pos HZN.out (by omega), ← HDD.out, ← HRM.out]
            · have hw8' : decide ((w2 : Int) < 800) = false := decide_eq_false hw8i
              have HW8 := Aside0.mk hw8i
              clear hw8i
              rcases Nat.eq_zero_or_pos dg with h0 | h0
              · subst h0
                go_wp2
                go_roundg f
                case measure => omega
                case rel =>
                  refine ⟨w2, rm * 10, d2, t2, rfl, ?_, by omega, by omega, HNB, ⟨by rw [HRM.out]; exact HNX.out.1⟩, ⟨fun h => by rw [HRM.out]; exact HNX.out.2 h⟩, HA2, ⟨?_⟩, HM2⟩
                  · refine congrArg (fun z => Value.int .u64 z) ?_
                    show _ = ((rm * 10 : Nat) : Int)
                    first | omega | (simp only [wrap_u64]; omega)
                  · rw [← HL3.out, rs3_neg HZN.out (by have := HW8.out; omega), ← HDD.out, ← HRM.out]
                    simp
              · have hdpos : 0 < dg := h0
                go_wp2
                go_roundg f
                case measure => omega
                case rel =>
                  refine ⟨w2, rm * 10, d2, true, rfl, ?_, by omega, by omega, HNB, ⟨by rw [HRM.out]; exact HNX.out.1⟩, ⟨fun h => by rw [HRM.out]; exact HNX.out.2 h⟩, ⟨HA2.out.setTr true⟩, ⟨?_⟩, ⟨HM2.out.setCell (p := ⟨p, 803, none⟩) (.inl rfl) _⟩⟩
                  · refine congrArg (fun z => Value.int .u64 z) ?_
                    show _ = ((rm * 10 : Nat) : Int)
                    first | omega | (simp only [wrap_u64]; omega)
                  · rw [← HL3.out, rs3_neg HZN.out (by have := HW8.out; omega), ← HDD.out, ← HRM.out, decide_eq_true h0, Bool.or_true]
  case first =>
  go_wp2_with fail
  go_loopw [4, 6] (fun v4 v6 wr => ∃ (r n : Nat), v4 = .int .i64 r ∧ v6 = .int .u64 n ∧ Aside0 (n = nv S r) ∧ r ≤ R ∧ Aside0 (DecAt wr p neg S) ∧ Aside0 (Mods (· = p) w wr)) (fun v4 _ _ => R - (intOf v4).toNat)
  case atStart => exact ⟨0, 0, rfl, rfl, ⟨rfl⟩, by omega, HS, ⟨Mods.refl _ _⟩⟩
  case round =>
    obtain ⟨r, n, rfl, rfl, HN, hr, HA, HM⟩ := hrel
    by_cases hrR : r = R
    · subst hrR
      have hnz : (n : Int) / 2 ^ k ≠ 0 := shr_nz (by rw [HN.out]; exact HR.out.1)
      have hnz' : ((n : Int) / 2 ^ k == 0) = false := beq_eq_false_iff_ne.mpr hnz
      clear hnz
      go_wp2
      go_meet
      exact ⟨rfl, by rw [HN.out], HA, HM⟩
    · have HLT := Aside0.mk (show n < 2 ^ k by rw [HN.out]; exact HR.out.2 r (by omega))
      have hz : (n : Int) / 2 ^ k = 0 := shr_zero HLT.out
      have hcn : wr.cell? ⟨p, 800, none⟩ = some (.int .i64 S.nd) := HA.out.nds
      have hn60 : n < 1152921504606846976 := by have := HLT.out; have := HK.out; omega
      by_cases hrn : S.nd ≤ r
      · have hn1 : 1 ≤ n := by
          rw [HN.out]
          refine nv_pos HH.out r ?_
          rcases Nat.eq_zero_or_pos r with h0 | h0
          · subst h0
            have h1 := HH.out
            rw [nv, nv, if_neg (by omega)] at h1
            omega
          · exact h0
        have hne : ((n : Int) == 0) = false := beq_eq_false_iff_ne.mpr (by omega)
        obtain ⟨wo, rfl⟩ : ∃ wo : World, wo = wr := ⟨_, rfl⟩
        have hmul : (n : Int) * 10 = ((n * 10 : Nat) : Int) := by omega
        clear hmul
        go_wp2_with fail
        go_loopw [4, 6] (fun v4 v6 wr => ∃ (r n : Nat), v4 = .int .i64 r ∧ v6 = .int .u64 n ∧ Aside0 (n = nv S r) ∧ r ≤ R ∧ S.nd ≤ r ∧ Aside0 (DecAt wr p neg S) ∧ Aside0 (Mods (· = p) w wr)) (fun v4 _ _ => R - (intOf v4).toNat)
        case atStart => exact ⟨r, n, rfl, rfl, HN, hr, hrn, HA, HM⟩
        case round =>
          obtain ⟨r2, n2, rfl, rfl, HN2, hr2, hrn2, HA2, HM2⟩ := hrel
          by_cases hrR2 : r2 = R
          · subst hrR2
            have hnz : (n2 : Int) / 2 ^ k ≠ 0 := shr_nz (by rw [HN2.out]; exact HR.out.1)
            have hnz' : ((n2 : Int) / 2 ^ k == 0) = false := beq_eq_false_iff_ne.mpr hnz
            clear hnz
            go_wp2
            go_meet
            exact ⟨rfl, by rw [HN2.out], HA2, HM2⟩
          · have HLT2 := Aside0.mk (show n2 < 2 ^ k by rw [HN2.out]; exact HR.out.2 r2 (by omega))
            have hz2 : (n2 : Int) / 2 ^ k = 0 := shr_zero HLT2.out
            have hn602 : n2 < 1152921504606846976 := by have := HLT2.out; have := HK.out; omega
            go_wp2
            go_roundw
            case measure => first | (simp [intOf]; done) | (simp [intOf]; omega)
            case rel =>
              refine ⟨r2 + 1, n2 * 10, by go_num, ?_, ⟨?_⟩, by omega, by omega, HA2, HM2⟩
              · refine congrArg (fun z => Value.int .u64 z) ?_
                show _ = ((n2 * 10 : Nat) : Int)
                first | omega | (simp only [wrap_u64]; omega)
              · rw [nv, if_neg (by omega), ← HN2.out, Nat.add_zero]
      · have hrn' : decide (S.nd ≤ r) = false := decide_eq_false hrn
        have hr0 : (0 : Int) ≤ (r : Int) := by omega
        have hr8 : (r : Int) < 800 := by omega
        obtain ⟨g, hg9, hg⟩ : ∃ g : Nat, g ≤ 9 ∧ S.d r = 48 + (g : Int) := by
          have h2 := HDG.out r (by omega)
          exact ⟨(S.d r - 48).toNat, by omega, by omega⟩
        have hcd : wr.cell? ⟨p, r, none⟩ = some (.int .u8 (48 + (g : Int))) := by rw [← hg]; exact HA.out.dig r (by omega)
        have HG := Aside0.mk hg
        clear hg
        go_wp2
        go_roundw
        case measure => first | (simp [intOf]; done) | (simp [intOf]; omega)
        case rel =>
          refine ⟨r + 1, n * 10 + g, by go_num, ?_, ⟨?_⟩, by omega, HA, HM⟩
          · refine congrArg (fun z => Value.int .u64 z) ?_
            show _ = ((n * 10 + g : Nat) : Int)
            first | omega | (simp only [wrap_u64]; omega)
          · have : (S.d r - 48).toNat = g := by have := HG.out; omega
            rw [nv, if_pos (by omega), this, ← HN.out]
end
end Go.Proofs.YtohadobpiclllaaGreatDoor
