/- The long decimals of ParseFloat: the shift to the left. -/
import Derived.Test.YtohadobpiclllaaGreatDoorMa
import GoSem.PinnedTables
namespace Go.Proofs.YtohadobpiclllaaGreatDoor
section
open Go.RowKit Go.Proofs.YtohadobpiclllaaGreatDoorW.PrintWords Go.Proofs.YtohadobpiclllaaGreatDoorW.PrintMore Go.Proofs.YtohadobpiclllaaGreatDoorW.PrintLast Go.Proofs.YtohadobpiclllaaGreatDoor.PFnRespScan
attribute [local go_sem] max2_int min2_int max_two min_two max_three min_three max_four min_four
set_option linter.unusedVariables false
set_option linter.unusedSimpArgs false

/-- The cheat sheet, row k: new digits, and the text below which there is one fewer. -/
def cheatD (k : Nat) : Nat := (Go.Pinned.cheatRows.getD k (0, [])).1
def cheatC (k : Nat) : ByteArray := ⟨(Go.Pinned.cheatRows.getD k (0, [])).2.toArray⟩

/-- The cheat sheet lies in memory. -/
def Cheats (w : World) (tb : Nat) : Prop := ∃ o : Nat, w.cell? ⟨12, 0, none⟩ = some (.slice (some ⟨tb, o, none⟩) 61 61) ∧ ∀ k, k < 61 → w.cell? ⟨tb, o + 2 * k, none⟩ = some (.int .i64 (cheatD k)) ∧ w.cell? ⟨tb, o + 2 * k + 1, none⟩ = some (.string (cheatC k))

/-- What the first digits are worth. -/
def topv (d : Nat → Int) : Nat → Nat
  | 0 => 0
  | r + 1 => topv d r * 10 + (d r - 48).toNat

/-- The shift to the left: the digits that are there, from the last one. -/
def ls1 (k dl : Nat) : Nat → (Nat → Int) → Nat → Bool → (Nat → Int) × Nat × Bool
  | 0, d, n, t => (d, n, t)
  | r + 1, d, n, t =>
    if r + dl < 800 then ls1 k dl r (upd d (r + dl) (48 + ((n + (d r - 48).toNat * 2 ^ k) % 10 : Nat))) ((n + (d r - 48).toNat * 2 ^ k) / 10) t
    else ls1 k dl r d ((n + (d r - 48).toNat * 2 ^ k) / 10) (t || decide ((n + (d r - 48).toNat * 2 ^ k) % 10 ≠ 0))
/-- The shift to the left: the new digits. -/
def ls2 : Nat → (Nat → Int) → Nat → Bool → (Nat → Int) × Bool
  | 0, d, _, t => (d, t)
  | w + 1, d, n, t => if n = 0 then (d, t) else if w < 800 then ls2 w (upd d w (48 + (n % 10 : Nat))) (n / 10) t else ls2 w d (n / 10) (t || decide (n % 10 ≠ 0))

/-- How many digits a shift by k brings. -/
def dlt (k : Nat) (S : Dec) : Nat := if preL S.d S.nd (cheatC k) (cheatC k).size 0 then cheatD k - 1 else cheatD k

/-- The shift to the left by k. -/
def lshift (k : Nat) (S : Dec) : Dec :=
  Dec.trim { d := (ls2 (dlt k S) (ls1 k (dlt k S) S.nd S.d 0 S.tr).1 (ls1 k (dlt k S) S.nd S.d 0 S.tr).2.1 (ls1 k (dlt k S) S.nd S.d 0 S.tr).2.2).1,
             nd := min (S.nd + dlt k S) 800, dp := S.dp + dlt k S,
             tr := (ls2 (dlt k S) (ls1 k (dlt k S) S.nd S.d 0 S.tr).1 (ls1 k (dlt k S) S.nd S.d 0 S.tr).2.1 (ls1 k (dlt k S) S.nd S.d 0 S.tr).2.2).2 }

/-- All digits are digits. -/
def DigOK (S : Dec) : Prop := S.nd ≤ 800 ∧ ∀ i, i < S.nd → 48 ≤ S.d i ∧ S.d i ≤ 57

theorem wrap_u64 (x : Int) : IntKind.u64.wrap x = x % 18446744073709551616 := by simp [IntKind.wrap, IntKind.bits, IntKind.signed]

theorem ls_step {T n g K r dl : Nat} (hg : g ≤ 9) (hn : n < K) (h : (T * 10 + g) * K + n < 10 ^ (r + 1 + dl)) : (n + g * K) / 10 < K ∧ T * K + (n + g * K) / 10 < 10 ^ (r + dl) := by
  have e : (T * 10 + g) * K + n = (T * K) * 10 + (n + g * K) := by rw [Nat.add_mul]; rw [Nat.mul_right_comm]; omega
  have e2 : 10 ^ (r + 1 + dl) = 10 ^ (r + dl) * 10 := by rw [show r + 1 + dl = r + dl + 1 by omega, Nat.pow_succ]
  rw [e, e2] at h
  have hgK : g * K ≤ 9 * K := Nat.mul_le_mul_right _ hg
  obtain ⟨X, hX⟩ : ∃ X, X = g * K := ⟨_, rfl⟩
  rw [← hX] at h hgK ⊢
  omega

theorem ls1_pos {k dl m n N q s g : Nat} {d : Nat → Int} {t : Bool} (hg : d m = 48 + (g : Int)) (hN : N = n + g * 2 ^ k) (hq : N = 10 * q + s) (hs : s < 10) (hj : m + dl < 800) :
    ls1 k dl (m + 1) d n t = ls1 k dl m (upd d (m + dl) ((s : Int) + 48)) q t := by
  have e1 : (d m - 48).toNat = g := by omega
  have e2 : N % 10 = s := by omega
  have e3 : N / 10 = q := by omega
  have e4 : (48 : Int) + (s : Int) = (s : Int) + 48 := by omega
  rw [ls1, if_pos hj, e1, ← hN, e2, e3, e4]
theorem ls1_neg {k dl m n N q s g : Nat} {d : Nat → Int} {t : Bool} (hg : d m = 48 + (g : Int)) (hN : N = n + g * 2 ^ k) (hq : N = 10 * q + s) (hs : s < 10) (hj : ¬ m + dl < 800) :
    ls1 k dl (m + 1) d n t = ls1 k dl m d q (t || decide (s ≠ 0)) := by
  have e1 : (d m - 48).toNat = g := by omega
  have e2 : N % 10 = s := by omega
  have e3 : N / 10 = q := by omega
  rw [ls1, if_neg hj, e1, ← hN, e2, e3]
theorem ls_next {T n g k m dl N q s : Nat} (hg9 : g ≤ 9) (hn : n < 2 ^ k) (hv : (T * 10 + g) * 2 ^ k + n < 10 ^ (m + 1 + dl)) (hN : N = n + g * 2 ^ k) (hq : N = 10 * q + s) (hs : s < 10) : q < 2 ^ k ∧ T * 2 ^ k + q < 10 ^ (m + dl) := by
  have h := ls_step hg9 hn hv
  have e3 : (n + g * 2 ^ k) / 10 = q := by rw [← hN]; omega
  rw [e3] at h
  exact h
theorem ls2_pos {j n q s : Nat} {d : Nat → Int} {t : Bool} (hn : 0 < n) (hq : n = 10 * q + s) (hs : s < 10) (hj : j < 800) : ls2 (j + 1) d n t = ls2 j (upd d j ((s : Int) + 48)) q t := by
  have e2 : n % 10 = s := by omega
  have e3 : n / 10 = q := by omega
  have e4 : (48 : Int) + (s : Int) = (s : Int) + 48 := by omega
  rw [ls2, if_neg (by omega), if_pos hj, e2, e3, e4]
theorem ls2_neg {j n q s : Nat} {d : Nat → Int} {t : Bool} (hn : 0 < n) (hq : n = 10 * q + s) (hs : s < 10) (hj : ¬ j < 800) : ls2 (j + 1) d n t = ls2 j d q (t || decide (s ≠ 0)) := by
  have e2 : n % 10 = s := by omega
  have e3 : n / 10 = q := by omega
  rw [ls2, if_neg (by omega), if_neg hj, e2, e3]
theorem ls2_end (j : Nat) (d : Nat → Int) (t : Bool) : ls2 j d 0 t = (d, t) := by
  cases j with
  | zero => rfl
  | succ j => rw [ls2, if_pos rfl]

set_option maxHeartbeats 8000000 in
set_option maxRecDepth 100000 in
theorem leftShift_calls (w : World) (p tb : Nat) (neg : Bool) (S : Dec) (k : Nat) (hS : DecAt w p neg S) (hD : DigOK S) (hC : Cheats w tb) (hp12 : p ≠ 12) (hptb : p ≠ tb) (hk1 : 1 ≤ k) (hk : k ≤ 60) (hd1 : 1 ≤ cheatD k) (hd2 : cheatD k ≤ 30) (hcs : (cheatC k).size ≤ 100)
    (hv : topv S.d S.nd * 2 ^ k < 10 ^ (S.nd + dlt k S)) (hdp0 : -100000 ≤ S.dp) (hdp1 : S.dp ≤ 100000) :
    Calls Tryz.prog 148 #[.pointer (some ⟨p, 0, none⟩), .int .u64 k] w (DecPost w p neg (lshift k S)) := by
  obtain ⟨hn8, hdg⟩ := hD
  have hnd : w.cell? ⟨p, 800, none⟩ = some (.int .i64 S.nd) := hS.nds
  obtain ⟨o, hc0, hcc⟩ := hC
  have hc1 : w.cell? ⟨tb, o + k * 2, none⟩ = some (.int .i64 (cheatD k)) := by rw [Nat.mul_comm k 2]; exact (hcc k (by omega)).1
  have hc2 : w.cell? ⟨tb, o + k * 2 + 1, none⟩ = some (.string (cheatC k)) := by rw [Nat.mul_comm k 2]; exact (hcc k (by omega)).2
  clear hcc
  have hkk : (k : Int) < 61 := by omega
  have hk0 : (0 : Int) ≤ (k : Int) := by omega
  have hn80 : (S.nd : Int) ≤ 800 := by omega
  have hn00 : (0 : Int) ≤ (S.nd : Int) := by omega
  obtain ⟨δ, hδ⟩ : ∃ δ, δ = cheatD k := ⟨_, rfl⟩
  obtain ⟨C, hCC⟩ : ∃ C, C = cheatC k := ⟨_, rfl⟩
  obtain ⟨dl, hdl⟩ : ∃ dl, dl = dlt k S := ⟨_, rfl⟩
  obtain ⟨pb, hpb⟩ : ∃ pb, pb = preL S.d S.nd C C.size 0 := ⟨_, rfl⟩
  have hP := fun n => prefix_calls (w.drewN n) p neg S C 800 (hS.drewN n) hn8 (by rw [hCC]; exact hcs)
  rw [← hpb] at hP
  have HP := Aside0.mk hP
  have hcase : (pb = true ∧ δ = dl + 1) ∨ (pb = false ∧ dl = δ) := by
    unfold dlt at hdl
    rw [← hδ, ← hCC, ← hpb] at hdl
    cases pb
    · right; exact ⟨rfl, by simpa using hdl⟩
    · left
      have : dl = δ - 1 := by simpa using hdl
      exact ⟨rfl, by omega⟩
  rw [← hδ] at hc1 hd1 hd2
  rw [← hCC] at hc2
  have hdl30 : dl ≤ 30 := by omega
  rw [← hdl] at hv
  have HS := Aside0.mk hS
  have HDG := Aside0.mk hdg
  have HV := Aside0.mk hv
  have HDL := Aside0.mk hdl
  clear hS hdg hv hδ hCC hcs hP hpb hdl hd1 hd2
  rcases hcase with ⟨rfl, rfl⟩ | ⟨rfl, rfl⟩
  all_goals
    go_enter Tryz.func148, Tryz.ntmps148
    go_upto_region 1 with fail
    go_quiet ((go_at_call 153; refine Calls.mono (HP.out _) ?_; rintro e w5 ⟨rfl, m, rfl⟩; exact ⟨rfl, _, World.drewN_drewN _ _ _⟩))
    go_wp2_with fail
    go_loopw [5, 6, 7] (fun v5 v6 v7 wr => ∃ (r n : Nat) (z : Int) (d : Nat → Int) (t : Bool), v5 = .int .i64 z ∧ v6 = .int .i64 ((r + dl : Nat) : Int) ∧ v7 = .int .u64 n ∧ Aside0 (z + 1 = r) ∧ r ≤ S.nd ∧ n < 2 ^ k ∧ Aside0 (topv S.d r * 2 ^ k + n < 10 ^ (r + dl)) ∧ Aside0 (∀ i, i < r → d i = S.d i) ∧ Aside0 (DecAt wr p neg { S with d := d, tr := t }) ∧ Aside0 (ls1 k dl r d n t = ls1 k dl S.nd S.d 0 S.tr) ∧ Aside0 (Mods (· = p) w wr)) (fun v5 _ _ _ => (intOf v5 + 1).toNat)
    case atStart => exact ⟨S.nd, 0, _, S.d, S.tr, rfl, by go_num, rfl, ⟨by omega⟩, Nat.le_refl _, Nat.two_pow_pos k, HV, ⟨fun _ _ => rfl⟩, ⟨HS.out.drewN _⟩, ⟨rfl⟩, ⟨(Mods.refl _ _).drewN _⟩⟩
    case round =>
      obtain ⟨r, n, z, d, t, rfl, rfl, rfl, HZ, hr, hn, HVr, HDr, HA, HL, HM⟩ := hrel
      by_cases hr0 : r = 0
      · subst hr0
        obtain rfl : z = -1 := by have := HZ.out; omega
        rw [Nat.zero_add]
        have hVr := HVr.out
        rw [topv, Nat.zero_mul, Nat.zero_add, Nat.zero_add] at hVr
        have HN0 := Aside0.mk hVr
        have HL0 := Aside0.mk HL.out
        rw [ls1] at HL0
        have hn64 : n < 18446744073709551616 := by
          have h1 : 2 ^ k ≤ 2 ^ 60 := Nat.pow_le_pow_right (by omega) hk
          have h3 : (2 : Nat) ^ 60 = 1152921504606846976 := by decide
          omega
        clear hVr HVr HL HZ HDr hn
        obtain ⟨wo, rfl⟩ : ∃ wo : World, wo = wr := ⟨_, rfl⟩
        go_wp2_with fail
        go_loopw [6, 7] (fun v6 v7 wx => ∃ (j n2 : Nat) (d2 : Nat → Int) (t2 : Bool), v6 = .int .i64 (j : Int) ∧ v7 = .int .u64 n2 ∧ j ≤ 30 ∧ n2 < 18446744073709551616 ∧ Aside0 (n2 < 10 ^ j) ∧ Aside0 (DecAt wx p neg { S with d := d2, tr := t2 }) ∧ Aside0 (ls2 j d2 n2 t2 = ls2 dl d n t) ∧ Aside0 (Mods (· = p) w wx)) (fun v6 _ _ => (intOf v6).toNat)
        case atStart => exact ⟨dl, n, d, t, rfl, rfl, hdl30, hn64, HN0, HA, ⟨rfl⟩, HM⟩
        case round =>
          obtain ⟨j, n2, d2, t2, rfl, rfl, hj30, hn2, HV2, HA2, HL2, HM2⟩ := hrel
          by_cases hz : n2 = 0
          · subst hz
            have hL := HL2.out
            rw [ls2_end] at hL
            have HL3 := Aside0.mk hL
            have hcn : wr.cell? ⟨p, 800, none⟩ = some (.int .i64 S.nd) := HA2.out.nds
            have hcp : wr.cell? ⟨p, 801, none⟩ = some (.int .i64 S.dp) := HA2.out.dps
            have hf0 := HA2.out.free 800
            have hf1 := HA2.out.free 801
            clear hL
            by_cases h8 : (800 : Int) ≤ (S.nd : Int) + (dl : Int)
            · have HA3 := Aside0.mk ((((HA2.out.setNd (S.nd + dl))).setNd 800).setDp (S.dp + dl))
              have HTR := Aside0.mk (trim_calls _ p neg _ HA3.out (Nat.le_refl _))
              have HM3 := Aside0.mk (((HM2.out.setCell (p := ⟨p, 800, none⟩) (.inl rfl) (.int .i64 ((S.nd + dl : Nat) : Int))).setCell (p := ⟨p, 800, none⟩) (.inl rfl) (.int .i64 ((800 : Nat) : Int))).setCell (p := ⟨p, 801, none⟩) (.inl rfl) (.int .i64 (S.dp + dl)))
              go_wp2_with fail
              rw [show ((S.nd : Int) + (dl : Int)) = ((S.nd + dl : Nat) : Int) by omega]
              refine HTR.out.mono ?_
              rintro e w5 ⟨rfl, hA5, hM5⟩
              have HA5 := Aside0.mk hA5
              have HM5 := Aside0.mk (HM3.out.trans hM5 (fun _ _ h => h))
              clear hA5 hM5
              go_wp2
              go_end0
              refine ⟨rfl, ?_, HM5.out⟩
              have e0 : lshift k S = Dec.trim { d := d2, nd := 800, dp := S.dp + dl, tr := t2 } := by
                unfold lshift
                rw [← HDL.out, ← HL0.out, ← HL3.out, show min (S.nd + dl) 800 = 800 by omega]
              rw [e0]
              exact HA5.out
            · have h8' : decide ((800 : Int) ≤ (S.nd : Int) + (dl : Int)) = false := decide_eq_false h8
              have HA3 := Aside0.mk (((HA2.out.setNd (S.nd + dl))).setDp (S.dp + dl))
              have HTR := Aside0.mk (trim_calls _ p neg _ HA3.out (by show S.nd + dl ≤ 800; omega))
              have HM3 := Aside0.mk ((HM2.out.setCell (p := ⟨p, 800, none⟩) (.inl rfl) (.int .i64 ((S.nd + dl : Nat) : Int))).setCell (p := ⟨p, 801, none⟩) (.inl rfl) (.int .i64 (S.dp + dl)))
              have H8 := Aside0.mk h8
              clear h8
              go_wp2_with fail
              rw [show ((S.nd : Int) + (dl : Int)) = ((S.nd + dl : Nat) : Int) by omega]
              refine HTR.out.mono ?_
              rintro e w5 ⟨rfl, hA5, hM5⟩
              have HA5 := Aside0.mk hA5
              have HM5 := Aside0.mk (HM3.out.trans hM5 (fun _ _ h => h))
              clear hA5 hM5
              go_wp2
              go_end0
              refine ⟨rfl, ?_, HM5.out⟩
              have e0 : lshift k S = Dec.trim { d := d2, nd := S.nd + dl, dp := S.dp + dl, tr := t2 } := by
                unfold lshift
                rw [← HDL.out, ← HL0.out, ← HL3.out, show min (S.nd + dl) 800 = S.nd + dl by have := H8.out; omega]
              rw [e0]
              exact HA5.out
          · obtain ⟨i, rfl⟩ : ∃ i, j = i + 1 := by
              cases j with
              | zero => exact absurd HV2.out (by simp; omega)
              | succ i => exact ⟨i, rfl⟩
            obtain ⟨q, s, hs, hq⟩ : ∃ q s : Nat, s < 10 ∧ n2 = 10 * q + s := ⟨n2 / 10, n2 % 10, by omega, by omega⟩
            have eq1 : (n2 : Int) / 10 = (q : Int) := by omega
            have hpos : 0 < n2 := by omega
            have HQ := Aside0.mk hq
            have HZ2 := Aside0.mk (show 0 < n2 by omega)
            clear hq hz
            go_upto_region 22 with fail
            have e3 : (n2 : Int) - 10 * (q : Int) = (s : Int) := by have := HQ.out; omega
            rw [e3]
            clear e3 eq1 hpos
            have hs9 : (s : Int) ≤ 9 := by omega
            have hs0 : (0 : Int) ≤ (s : Int) := by omega
            have hj0 : (0 : Int) ≤ (i : Int) := by omega
            have hfj := HA2.out.free i
            have hft := HA2.out.free 803
            have HV3 := Aside0.mk (show q < 10 ^ i by have h1 := HV2.out; rw [Nat.pow_succ] at h1; have := HQ.out; omega)
            by_cases hj8 : (i : Int) < 800
            case neg => exact absurd hj8 (by omega)
            have hcj : wr.cell? ⟨p, i, none⟩ = some (.int .u8 (d2 i)) := HA2.out.dig i (by omega)
            go_wp2
            go_roundw
            case measure => first | (simp [intOf]; done) | (simp [intOf]; omega)
            case rel =>
              refine ⟨i, q, upd d2 i ((s : Int) + 48), t2, rfl, rfl, by omega, by have := HQ.out; omega, HV3, ⟨HA2.out.setDig i (by omega) _⟩, ⟨?_⟩, ⟨HM2.out.setCell (p := ⟨p, i, none⟩) (.inl rfl) _⟩⟩
              rw [← HL2.out]
              exact (ls2_pos HZ2.out HQ.out hs (by omega)).symm
      · obtain ⟨m, rfl⟩ : ∃ m, r = m + 1 := ⟨r - 1, by omega⟩
        obtain rfl : z = (m : Int) := by have := HZ.out; omega
        obtain ⟨g, hg9, hg⟩ : ∃ g : Nat, g ≤ 9 ∧ d m = 48 + (g : Int) := by
          have h1 := HDr.out m (by omega)
          have h2 := HDG.out m (by omega)
          exact ⟨(S.d m - 48).toNat, by omega, by omega⟩
        have hcd : wr.cell? ⟨p, m, none⟩ = some (.int .u8 (48 + (g : Int))) := by rw [← hg]; exact HA.out.dig m (by omega)
        have HGG := Aside0.mk hg
        clear hg hr0
        have hm0 : (0 : Int) ≤ (m : Int) := by omega
        have hm8 : (m : Int) < 800 := by omega
        obtain ⟨N, hN⟩ : ∃ N, N = n + g * 2 ^ k := ⟨_, rfl⟩
        have hN64 : N < 18446744073709551616 := by
          have h1 : 2 ^ k ≤ 2 ^ 60 := Nat.pow_le_pow_right (by omega) hk
          have h2 : g * 2 ^ k ≤ 9 * 2 ^ k := Nat.mul_le_mul_right _ hg9
          rw [hN]
          have h3 : (2 : Nat) ^ 60 = 1152921504606846976 := by decide
          omega
        have eN : IntKind.u64.wrap (↑n + IntKind.u64.wrap ((48 + ↑g - 48) * 2 ^ k)) = (N : Int) := by
          have e1 : ((48 : Int) + g - 48) * 2 ^ k = ((g * 2 ^ k : Nat) : Int) := by push_cast; congr 1; omega
          rw [e1, wrap_u64, wrap_u64]
          have h2 : g * 2 ^ k ≤ N := by omega
          omega
        obtain ⟨q, s, hs, hq⟩ : ∃ q s : Nat, s < 10 ∧ N = 10 * q + s := ⟨N / 10, N % 10, by omega, by omega⟩
        have eq1 : (N : Int) / 10 = (q : Int) := by omega
        have HN := Aside0.mk hN
        have HQ := Aside0.mk hq
        clear hN hq
        go_upto_region 13 with fail
        have e3 : (N : Int) - 10 * (q : Int) = (s : Int) := by have := HQ.out; omega
        obtain ⟨j, hj⟩ : ∃ j, j = m + dl := ⟨_, rfl⟩
        have e4 : (m : Int) + 1 + (dl : Int) - 1 = (j : Int) := by omega
        rw [e3, e4]
        have HJ := Aside0.mk hj
        have HNX := Aside0.mk (show q < 2 ^ k ∧ topv S.d m * 2 ^ k + q < 10 ^ (m + dl) from ls_next (n := n) hg9 hn (by
          have h1 := HVr.out
          have h2 : (S.d m - 48).toNat = g := by have := HDr.out m (by omega); have := HGG.out; omega
          rw [topv, h2] at h1
          exact h1) HN.out HQ.out hs)
        clear e3 e4 eN eq1 hcd hj
        have hs9 : (s : Int) ≤ 9 := by omega
        have hs0 : (0 : Int) ≤ (s : Int) := by omega
        have hj0 : (0 : Int) ≤ (j : Int) := by omega
        have hfj := HA.out.free j
        have hft := HA.out.free 803
        by_cases hj8 : (j : Int) < 800
        · have hcj : wr.cell? ⟨p, j, none⟩ = some (.int .u8 (d j)) := HA.out.dig j (by omega)
          go_wp2
          go_roundw
          case measure => first | (simp [intOf]; done) | (simp [intOf]; omega)
          case rel =>
            refine ⟨m, q, _, upd d j ((s : Int) + 48), t, rfl, by rw [HJ.out], rfl, ⟨by omega⟩, by omega, HNX.out.1, ⟨HNX.out.2⟩, ⟨fun i hi => ?_⟩, ⟨HA.out.setDig j (by omega) _⟩, ⟨?_⟩, ⟨HM.out.setCell (p := ⟨p, j, none⟩) (.inl rfl) _⟩⟩
            · unfold upd
              rw [if_neg (by have := HJ.out; omega)]
              exact HDr.out i (by omega)
            · rw [← HL.out, HJ.out]
              exact (ls1_pos HGG.out HN.out HQ.out hs (by have := HJ.out; omega)).symm
        · have hj8' : decide ((j : Int) < 800) = false := decide_eq_false hj8
          have hct : wr.cell? ⟨p, 803, none⟩ = some (.bool t) := HA.out.trs
          have HJ8 := Aside0.mk hj8
          clear hj8
          by_cases hs1 : (s : Int) = 0
          · have hs1' : ((s : Int) != 0) = false := bne_eq_false_iff_eq.mpr hs1
            have HS1 := Aside0.mk hs1
            clear hs1
            go_wp2
            go_roundw
            case measure => first | (simp [intOf]; done) | (simp [intOf]; omega)
            case rel =>
              refine ⟨m, q, _, d, t, rfl, by rw [HJ.out], rfl, ⟨by omega⟩, by omega, HNX.out.1, ⟨HNX.out.2⟩, ⟨fun i hi => HDr.out i (by omega)⟩, HA, ⟨?_⟩, HM⟩
              rw [← HL.out, ls1_neg HGG.out HN.out HQ.out hs (by have := HJ.out; have := HJ8.out; omega)]
              have : decide (s ≠ 0) = false := decide_eq_false (by have := HS1.out; omega)
              rw [this, Bool.or_false]
          · have hs1' : ((s : Int) != 0) = true := bne_iff_ne.mpr hs1
            have HS1 := Aside0.mk hs1
            clear hs1
            go_wp2
            go_roundw
            case measure => first | (simp [intOf]; done) | (simp [intOf]; omega)
            case rel =>
              refine ⟨m, q, _, d, true, rfl, by rw [HJ.out], rfl, ⟨by omega⟩, by omega, HNX.out.1, ⟨HNX.out.2⟩, ⟨fun i hi => HDr.out i (by omega)⟩, ⟨HA.out.setTr true⟩, ⟨?_⟩, ⟨HM.out.setCell (p := ⟨p, 803, none⟩) (.inl rfl) _⟩⟩
              rw [← HL.out, ls1_neg HGG.out HN.out HQ.out hs (by have := HJ.out; have := HJ8.out; omega)]
              have : decide (s ≠ 0) = true := decide_eq_true (by have := HS1.out; omega)
              rw [this, Bool.or_true]
end
end Go.Proofs.YtohadobpiclllaaGreatDoor
